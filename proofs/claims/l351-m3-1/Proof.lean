import JvmDerived
import JvmDerived.Pilot.@@N@@Statement
import JvmDerived.Pilot.@@N@@Code
set_option linter.unusedVariables false
set_option linter.unusedSimpArgs false
/- laws to paste: Road.backV, Road.eqW (cut by pick.py; bodies as the Statement names them) -/
namespace Jvm.Pilot.@@N@@
namespace StrChars
open Jvm Sem ClassFile Op Lib Jvm.Stand Jvm.Free.XT Jvm.Free.ALB Jvm.Free.JM Jvm.Free
open Jvm.Lib.Cold (StaticIs)
/-- a char array whose places are chars -/
def Ch (a : Addr) (A : Cell) (U : State) : Prop := Arr .char a A U ∧ Typed .char A
theorem Ch.mv {a : Addr} {A : Cell} {U U' : State} (h : Ch a A U) (hal : U.vm.Alike U'.vm) (hh : U'.heap = U.heap) : Ch a A U' := ⟨h.1.mv hal hh, h.2⟩
theorem Ch.keep {a : Addr} {A : Cell} {U U' : State} (h : Ch a A U) (hal : U.vm.Alike U'.vm) (hk : U'.heap[a]? = some A) : Ch a A U' := ⟨h.1.keep hal hk, h.2⟩
/-- what place i of a char[]'s cell holds -/
def cv (A : Cell) (i : Nat) : Int32 := match A.slots[i]? with | some (.int x) => x | _ => 0
theorem Ch.get {a : Addr} {A : Cell} {U : State} (h : Ch a A U) {i : Nat} (hi : i < A.slots.size) : A.slots[i]? = some (.int (cv A i)) := by
  have e := Array.getElem?_eq_getElem hi
  have f := h.2 i _ e
  unfold cv; rw [e]
  generalize A.slots[i] = v at f
  cases v <;> simp [fits] at f ⊢
/-- the byte that i2b leaves of a char -/
def lo8 (x : Int32) : Int32 := x.toInt8.toInt32
theorem fits_lo8 (y : Int32) : fits .byte (.int (lo8 y)) = true := by
  have h1 := y.toInt8.le_toInt
  have h2 := y.toInt8.toInt_lt
  simp only [lo8, fits, Bool.and_eq_true, decide_eq_true_eq, Int32.le_iff_toInt_le, Int8.toInt_toInt32, show (-128 : Int32).toInt = -128 from by decide, show (127 : Int32).toInt = 127 from by decide]
  omega
/-- A' is A but that each place j of lo .. hi - 1 holds f j -/
def Laid (A A' : Cell) (lo hi : Nat) (f : Nat → Value) : Prop := A'.cls = A.cls ∧ A'.vm = A.vm ∧ A'.slots.size = A.slots.size ∧ ∀ i, A'.slots[i]? = if lo ≤ i ∧ i < hi then some (f i) else A.slots[i]?
theorem Laid.zero (A : Cell) (lo : Nat) (f : Nat → Value) : Laid A A lo (lo + 0) f := ⟨rfl, rfl, rfl, fun i => by rw [if_neg (by omega)]⟩
theorem Laid.step {A Ak : Cell} {lo k : Nat} {f : Nat → Value} {v : Value} (h : Laid A Ak lo k f) (hlo : lo ≤ k) (hk : k < Ak.slots.size) (hv : v = f k) : Laid A (Ak.setSlot k v) lo (k + 1) f := by
  refine ⟨h.1, h.2.1, by simpa [Cell.setSlot] using h.2.2.1, fun i => ?_⟩
  by_cases e : k = i
  · subst e; rw [Cell.slots_setSlot_self v hk, if_pos (by omega), hv]
  · rw [Cell.slots_setSlot_ne v e, h.2.2.2 i]
    by_cases q : lo ≤ i ∧ i < k
    · rw [if_pos q, if_pos (by omega)]
    · rw [if_neg q, if_neg (by omega)]
def U16 : String := "java/lang/StringUTF16"
namespace Cmp5
def yN : MethodName := ⟨"java/lang/StringUTF16", "compress", "([CI[BII)I"⟩
abbrev yB : ByteArray := jdk_52_method_21_code
theorem d0 : decode yB 0 = .ok (.iconst 0, 1) := by decide +kernel
theorem d1 : decode yB 1 = .ok (.istore 5, 2) := by decide +kernel
theorem d3 : decode yB 3 = .ok (.iload 5, 2) := by decide +kernel
theorem d5 : decode yB 5 = .ok (.iload 4, 2) := by decide +kernel
theorem d7 : decode yB 7 = .ok (.if_icmp (.ge) 37, 3) := by decide +kernel
theorem d10 : decode yB 10 = .ok (.aload_n 0, 1) := by decide +kernel
theorem d11 : decode yB 11 = .ok (.iload_n 1, 1) := by decide +kernel
theorem d12 : decode yB 12 = .ok (.caload, 1) := by decide +kernel
theorem d13 : decode yB 13 = .ok (.istore 6, 2) := by decide +kernel
theorem d15 : decode yB 15 = .ok (.iload 6, 2) := by decide +kernel
theorem d17 : decode yB 17 = .ok (.sipush 255, 3) := by decide +kernel
theorem d20 : decode yB 20 = .ok (.if_icmp (.le) 6, 3) := by decide +kernel
theorem d26 : decode yB 26 = .ok (.aload_n 2, 1) := by decide +kernel
theorem d27 : decode yB 27 = .ok (.iload_n 3, 1) := by decide +kernel
theorem d28 : decode yB 28 = .ok (.iload 6, 2) := by decide +kernel
theorem d30 : decode yB 30 = .ok (.i2b, 1) := by decide +kernel
theorem d31 : decode yB 31 = .ok (.bastore, 1) := by decide +kernel
theorem d32 : decode yB 32 = .ok (.iinc 1 1, 3) := by decide +kernel
theorem d35 : decode yB 35 = .ok (.iinc 3 1, 3) := by decide +kernel
theorem d38 : decode yB 38 = .ok (.iinc 5 1, 3) := by decide +kernel
theorem d41 : decode yB 41 = .ok (.goto (-38), 3) := by decide +kernel
theorem d44 : decode yB 44 = .ok (.iload 4, 2) := by decide +kernel
theorem d46 : decode yB 46 = .ok (.ireturn, 1) := by decide +kernel
def site : List Cond := []
def tab : Cond := tabOf yN yB 7 (some .int) site
def P (b : Addr) (A : Cell) (d : Addr) (B : Cell) (o q len : Nat) (args : Array Value) (s : State) : Prop := args = #[.ref b, .int (Int32.ofNat o), .ref d, .int (Int32.ofNat q), .int (Int32.ofNat len)] ∧ Ch b A s ∧ Arr .byte d B s ∧ b ≠ d ∧ o + len ≤ A.slots.size ∧ q + len ≤ B.slots.size ∧ ∀ i, i < len → ¬ 255 < cv A (o + i)
def E (b : Addr) (A : Cell) (d : Addr) (B : Cell) (o q len : Nat) (r : Option Value) (s u : State) : Prop := r = some (.int (Int32.ofNat len)) ∧ ∃ B', Put d B' s u ∧ Laid B B' q (q + len) (fun j => Value.int (lo8 (cv A (o + (j - q)))))
/-- no char of the range above 255: len; the places written hold each char's low byte -/
theorem law (l : Launch) (b : Addr) (A : Cell) (d : Addr) (B : Cell) (o q len : Nat) : Law l yN 5 5 0 0 yB 7 (some .int) site (P b A d B o q len) (E b A d B o q len) (copyLocs d q len) 0 0 := by
  refine Law.of_walk (plainFor_of_name (by decide +kernel)) (by decide +kernel) (by decide +kernel) (by decide) (fun _ _ h => by rw [h.1]; rfl) (fun _ U U' hal hh h => ⟨h.1, h.2.1.mv hal hh, h.2.2.1.mv hal hh, h.2.2.2⟩) (fun r U U' V V' h1 hal h2 h => ⟨h.1, h.2.elim fun B' q => ⟨B', q.1.mv h1 h2, q.2⟩⟩) ?_
  intro p e s m args below meth c s₁ X0 hexec hbytes hml hret hlk hnm hown hh0 W hP
  obtain ⟨rfl, hA, hB, hne, l1, l2, hp⟩ := hP
  have c1 : Steps p.tables e below (s₁.setTop (entryFrame m #[.ref b, .int (Int32.ofNat o), .ref d, .int (Int32.ofNat q), .int (Int32.ofNat len)] 7)) (s₁.setTop (mkF m 0 #[.val (.ref b), .val (.int (Int32.ofNat o)), .val (.ref d), .val (.int (Int32.ofNat q)), .val (.int (Int32.ofNat len)), .unset, .unset] [])) := entry rfl
  have hA0 := hA.1.mv X0.warmed.alike hh0
  have hB0 := hB.mv X0.warmed.alike hh0
  have a31 := hA.1.2.2.2
  have c2 : Steps p.tables e below (s₁.setTop (entryFrame m #[.ref b, .int (Int32.ofNat o), .ref d, .int (Int32.ofNat q), .int (Int32.ofNat len)] 7)) (s₁.setTop (mkF m 3 #[.val (.ref b), .val (.int (Int32.ofNat o)), .val (.ref d), .val (.int (Int32.ofNat q)), .val (.int (Int32.ofNat len)), .val (.int 0), .unset] [])) := c1.trans (by
    refine iconstV X0.here hexec rfl 0 (hb hbytes d0) (by decide) ?_
    refine XS.istore X0.here hexec rfl (hb hbytes d1) rfl rfl ?_
    exact Steps.refl _)
  have loop : ∀ (r i : Nat), i + r = len → ∀ (z : Slot), (z = .unset ∨ ∃ w, z = .val w ∧ w.category = 1) → ∀ (Tl : State) (Bk : Cell), Stand p l e { frames := 0, locals := 0, cells := 0, slots := 0 } s m #[.ref b, .int (Int32.ofNat o), .ref d, .int (Int32.ofNat q), .int (Int32.ofNat len)] below meth c Tl ([] ++ copyLocs d q i) 0 0 → Put d Bk s₁ Tl → Laid B Bk q (q + i) (fun j => Value.int (lo8 (cv A (o + (j - q))))) →
      Steps p.tables e below (s₁.setTop (entryFrame m #[.ref b, .int (Int32.ofNat o), .ref d, .int (Int32.ofNat q), .int (Int32.ofNat len)] 7)) (Tl.setTop (mkF m 3 #[.val (.ref b), .val (.int (Int32.ofNat (o + i))), .val (.ref d), .val (.int (Int32.ofNat (q + i))), .val (.int (Int32.ofNat len)), .val (.int (Int32.ofNat i)), z] [])) → ∃ (T' : State) (B' : Cell) (z' : Slot), Stand p l e { frames := 0, locals := 0, cells := 0, slots := 0 } s m #[.ref b, .int (Int32.ofNat o), .ref d, .int (Int32.ofNat q), .int (Int32.ofNat len)] below meth c T' ([] ++ copyLocs d q len) 0 0 ∧ Put d B' s₁ T' ∧ Laid B B' q (q + len) (fun j => Value.int (lo8 (cv A (o + (j - q))))) ∧
      Steps p.tables e below (s₁.setTop (entryFrame m #[.ref b, .int (Int32.ofNat o), .ref d, .int (Int32.ofNat q), .int (Int32.ofNat len)] 7)) (T'.setTop (mkF m 3 #[.val (.ref b), .val (.int (Int32.ofNat (o + len))), .val (.ref d), .val (.int (Int32.ofNat (q + len))), .val (.int (Int32.ofNat len)), .val (.int (Int32.ofNat len)), z'] [])) := by
    intro r
    induction r with
    | zero =>
      intro i hi z hz Tl Bk Xl pl fl cl
      have hil : i = len := by omega
      rw [hil] at Xl fl cl
      exact ⟨Tl, Bk, z, Xl, pl, fl, cl⟩
    | succ r ih =>
      intro i hi z hz Tl Bk Xl pl fl cl
      have all := X0.warmed.alike.symm.trans Xl.warmed.alike
      have hAl := hA0.keep all (pl.other hne hA0.1)
      have hBk := hB0.like all pl.1 fl.1 fl.2.1 fl.2.2.1
      have hlt : q + i < Bk.slots.size := by rw [fl.2.2.1]; omega
      have c3 : Steps p.tables e below (s₁.setTop (entryFrame m #[.ref b, .int (Int32.ofNat o), .ref d, .int (Int32.ofNat q), .int (Int32.ofNat len)] 7)) (Tl.setTop (mkF m 12 #[.val (.ref b), .val (.int (Int32.ofNat (o + i))), .val (.ref d), .val (.int (Int32.ofNat (q + i))), .val (.int (Int32.ofNat len)), .val (.int (Int32.ofNat i)), z] [.int (Int32.ofNat (o + i)), .ref b])) := cl.trans (by
        refine XS.iload Xl.here hexec rfl (hb hbytes d3) rfl ?_
        refine XS.iload Xl.here hexec rfl (hb hbytes d5) rfl ?_
        refine XS.icmpNo Xl.here hexec rfl (hb hbytes d7) rfl (ii_ge_f (lt32 (by omega) (by omega))) ?_
        refine XS.aloadN Xl.here hexec rfl (hb hbytes d10) rfl rfl ?_
        refine XS.iloadN Xl.here hexec rfl (hb hbytes d11) rfl ?_
        exact Steps.refl _)
      have c4 : Steps p.tables e below (s₁.setTop (entryFrame m #[.ref b, .int (Int32.ofNat o), .ref d, .int (Int32.ofNat q), .int (Int32.ofNat len)] 7)) (Tl.setTop (mkF m 13 #[.val (.ref b), .val (.int (Int32.ofNat (o + i))), .val (.ref d), .val (.int (Int32.ofNat (q + i))), .val (.int (Int32.ofNat len)), .val (.int (Int32.ofNat i)), z] [.int (cv A (o + i))])) := c3.trans (by
        refine Xl.aget hexec hAl rfl (hA.get (i := o + i) (by omega)) rfl rfl (hb hbytes d12) ?_
        exact Steps.refl _)
      have c5 : Steps p.tables e below (s₁.setTop (entryFrame m #[.ref b, .int (Int32.ofNat o), .ref d, .int (Int32.ofNat q), .int (Int32.ofNat len)] 7)) (Tl.setTop (mkF m 15 #[.val (.ref b), .val (.int (Int32.ofNat (o + i))), .val (.ref d), .val (.int (Int32.ofNat (q + i))), .val (.int (Int32.ofNat len)), .val (.int (Int32.ofNat i)), .val (.int (cv A (o + i)))] [])) := c4.trans (by
        refine XS.istoreS Xl.here hexec rfl (hb hbytes d13) rfl rfl hz ?_
        exact Steps.refl _)
      have c6 : Steps p.tables e below (s₁.setTop (entryFrame m #[.ref b, .int (Int32.ofNat o), .ref d, .int (Int32.ofNat q), .int (Int32.ofNat len)] 7)) (Tl.setTop (mkF m 31 #[.val (.ref b), .val (.int (Int32.ofNat (o + i))), .val (.ref d), .val (.int (Int32.ofNat (q + i))), .val (.int (Int32.ofNat len)), .val (.int (Int32.ofNat i)), .val (.int (cv A (o + i)))] [.int (lo8 (cv A (o + i))), .int (Int32.ofNat (q + i)), .ref d])) := c5.trans (by
        refine XS.iload Xl.here hexec rfl (hb hbytes d15) rfl ?_
        refine sipushV Xl.here hexec rfl 255 (hb hbytes d17) (by decide) ?_
        refine XS.icmpYes Xl.here hexec rfl (pc0 := 20) rfl (hb hbytes d20) rfl (ii_le_t (hp i (by omega))) (by decide) rfl ?_
        refine XS.aloadN Xl.here hexec rfl (hb hbytes d26) rfl rfl ?_
        refine XS.iloadN Xl.here hexec rfl (hb hbytes d27) rfl ?_
        refine XS.iload Xl.here hexec rfl (hb hbytes d28) rfl ?_
        refine i2b Xl.here hexec rfl (hb hbytes d30) rfl ?_
        exact Steps.refl _)
      obtain ⟨T7, X7, p7, st7⟩ := Xl.aput hexec hBk rfl hlt rfl (fits_lo8 (cv A (o + i))) (g := (mkF m 31 #[.val (.ref b), .val (.int (Int32.ofNat (o + i))), .val (.ref d), .val (.int (Int32.ofNat (q + i))), .val (.int (Int32.ofNat len)), .val (.int (Int32.ofNat i)), .val (.int (cv A (o + i)))] [.int (lo8 (cv A (o + i))), .int (Int32.ofNat (q + i)), .ref d])) rfl (rest := []) rfl (hb hbytes d31)
      have c8 : Steps p.tables e below (s₁.setTop (entryFrame m #[.ref b, .int (Int32.ofNat o), .ref d, .int (Int32.ofNat q), .int (Int32.ofNat len)] 7)) (T7.setTop (mkF m 32 #[.val (.ref b), .val (.int (Int32.ofNat (o + i))), .val (.ref d), .val (.int (Int32.ofNat (q + i))), .val (.int (Int32.ofNat len)), .val (.int (Int32.ofNat i)), .val (.int (cv A (o + i)))] [])) := c6.trans (st7 _ (Steps.refl _))
      have c9 : Steps p.tables e below (s₁.setTop (entryFrame m #[.ref b, .int (Int32.ofNat o), .ref d, .int (Int32.ofNat q), .int (Int32.ofNat len)] 7)) (T7.setTop (mkF m 3 #[.val (.ref b), .val (.int (Int32.ofNat (o + i) + 1)), .val (.ref d), .val (.int (Int32.ofNat (q + i) + 1)), .val (.int (Int32.ofNat len)), .val (.int (Int32.ofNat i + 1)), .val (.int (cv A (o + i)))] [])) := c8.trans (by
        refine iincV X7.here hexec rfl 1 (hb hbytes d32) (by decide) rfl rfl ?_
        refine iincV X7.here hexec rfl 1 (hb hbytes d35) (by decide) rfl rfl ?_
        refine iincV X7.here hexec rfl 1 (hb hbytes d38) (by decide) rfl rfl ?_
        refine XS.goto X7.here hexec rfl (pc0 := 41) rfl (hb hbytes d41) (by decide) rfl ?_
        exact Steps.refl _)
      have c10 : Steps p.tables e below (s₁.setTop (entryFrame m #[.ref b, .int (Int32.ofNat o), .ref d, .int (Int32.ofNat q), .int (Int32.ofNat len)] 7)) (T7.setTop (mkF m 3 #[.val (.ref b), .val (.int (Int32.ofNat (o + (i + 1)))), .val (.ref d), .val (.int (Int32.ofNat (q + (i + 1)))), .val (.int (Int32.ofNat len)), .val (.int (Int32.ofNat (i + 1))), .val (.int (cv A (o + i)))] [])) := by
        have := c9
        rw [succ32, succ32, succ32] at this
        exact this
      exact ih (i + 1) (by omega) _ (Or.inr ⟨_, rfl, rfl⟩) T7 _ (by rw [copyLocs_step, ← List.append_assoc]; exact X7) (pl.trans p7) (fl.step (by omega) hlt (by simp)) c10
  obtain ⟨T9, B9, z9, X9, p9, f9, g9⟩ := loop len 0 (by omega) .unset (Or.inl rfl) s₁ B (by simpa [copyLocs] using X0) ⟨hB0.1, fun _ _ => rfl, rfl⟩ (Laid.zero _ _ _) c2
  have c11 : Steps p.tables e below (s₁.setTop (entryFrame m #[.ref b, .int (Int32.ofNat o), .ref d, .int (Int32.ofNat q), .int (Int32.ofNat len)] 7)) (T9.setTop (mkF m 46 #[.val (.ref b), .val (.int (Int32.ofNat (o + len))), .val (.ref d), .val (.int (Int32.ofNat (q + len))), .val (.int (Int32.ofNat len)), .val (.int (Int32.ofNat len)), z9] [.int (Int32.ofNat len)])) := g9.trans (by
    refine XS.iload X9.here hexec rfl (hb hbytes d3) rfl ?_
    refine XS.iload X9.here hexec rfl (hb hbytes d5) rfl ?_
    refine XS.icmpYes X9.here hexec rfl (pc0 := 7) rfl (hb hbytes d7) rfl (ii_ge_t (nlt32 (by omega) (Nat.le_refl _))) (by decide) rfl ?_
    refine XS.iload X9.here hexec rfl (hb hbytes d44) rfl ?_
    exact Steps.refl _)
  exact ⟨T9, some (.int (Int32.ofNat len)), _, _, _, X9, by simp, rfl, rfl, (fun h => by cases h), ⟨rfl, B9, p9.from hh0, f9⟩, fun fs hl => c11.trans (X9.ireturnOut hexec hret rfl (Or.inl rfl) (hb hbytes d46) hl)⟩
end Cmp5
namespace Cmp3
def yN : MethodName := ⟨"java/lang/StringUTF16", "compress", "([CII)[B"⟩
abbrev yB : ByteArray := jdk_52_method_16_code
theorem d0 : decode yB 0 = .ok (.iload_n 2, 1) := by decide +kernel
theorem d1 : decode yB 1 = .ok (.newarray .byte, 2) := by decide +kernel
theorem d3 : decode yB 3 = .ok (.astore_n 3, 1) := by decide +kernel
theorem d4 : decode yB 4 = .ok (.aload_n 0, 1) := by decide +kernel
theorem d5 : decode yB 5 = .ok (.iload_n 1, 1) := by decide +kernel
theorem d6 : decode yB 6 = .ok (.aload_n 3, 1) := by decide +kernel
theorem d7 : decode yB 7 = .ok (.iconst 0, 1) := by decide +kernel
theorem d8 : decode yB 8 = .ok (.iload_n 2, 1) := by decide +kernel
theorem d9 : decode yB 9 = .ok (.invokestatic 115, 3) := by decide +kernel
theorem d12 : decode yB 12 = .ok (.istore 4, 2) := by decide +kernel
theorem d14 : decode yB 14 = .ok (.iload 4, 2) := by decide +kernel
theorem d16 : decode yB 16 = .ok (.iload_n 2, 1) := by decide +kernel
theorem d17 : decode yB 17 = .ok (.if_icmp (.eq) 40, 3) := by decide +kernel
theorem d57 : decode yB 57 = .ok (.aload_n 3, 1) := by decide +kernel
theorem d58 : decode yB 58 = .ok (.areturn, 1) := by decide +kernel
def site : List Cond := [.arrayClass .byte, Cmp5.tab] ++ staticW U16 115 Cmp5.yN
def tab : Cond := tabOf yN yB 6 (some (.array .byte)) site
def P (b : Addr) (A : Cell) (o len : Nat) (args : Array Value) (s : State) : Prop := args = #[.ref b, .int (Int32.ofNat o), .int (Int32.ofNat len)] ∧ Ch b A s ∧ o + len ≤ A.slots.size ∧ len ≤ 536870912 ∧ ∀ i, i < len → ¬ 255 < cv A (o + i)
def E (b : Addr) (A : Cell) (o len : Nat) (r : Option Value) (s u : State) : Prop := NewArr .byte "[B" len (fun j => .int (lo8 (cv A (o + j)))) r s u ∧ u.heap.size = s.heap.size + 1
/-- no char of the range above 255: a new byte[] of their low bytes -/
theorem law (l : Launch) (b : Addr) (A : Cell) (o len : Nat) : Law l yN 3 3 1 18 yB 6 (some (.array .byte)) site (P b A o len) (E b A o len) [] 1 len := by
  refine Law.of_walk (plainFor_of_name (by decide +kernel)) (by decide +kernel) (by decide +kernel) (by decide) (fun _ _ h => by rw [h.1]; rfl) (fun _ U U' hal hh h => ⟨h.1, h.2.1.mv hal hh, h.2.2⟩) (fun r U U' V V' h1 hal h2 h => ⟨NewArr.mv r U U' V V' h1 hal h2 h.1, by rw [h1, h2]; exact h.2⟩) ?_
  intro p e s m args below meth c s₁ X0 hexec hbytes hml hret hlk hnm hown hh0 W hP
  obtain ⟨rfl, hA, l1, l2, hp⟩ := hP
  have a31 := hA.1.2.2.2
  have c1 : Steps p.tables e below (s₁.setTop (entryFrame m #[.ref b, .int (Int32.ofNat o), .int (Int32.ofNat len)] 6)) (s₁.setTop (mkF m 0 #[.val (.ref b), .val (.int (Int32.ofNat o)), .val (.int (Int32.ofNat len)), .unset, .unset, .unset] [])) := entry rfl
  have c2 : Steps p.tables e below (s₁.setTop (entryFrame m #[.ref b, .int (Int32.ofNat o), .int (Int32.ofNat len)] 6)) (s₁.setTop (mkF m 1 #[.val (.ref b), .val (.int (Int32.ofNat o)), .val (.int (Int32.ofNat len)), .unset, .unset, .unset] [.int (Int32.ofNat len)])) := c1.trans (by
    refine XS.iloadN X0.here hexec rfl (hb hbytes d0) rfl ?_
    exact Steps.refl _)
  obtain ⟨T3, B3, X3, ba3, bs3, bv3, bh3, bf3, st3⟩ := X0.anew hexec (atype := .byte) (wk W (.arrayClass .byte)) rfl (by show len * 1 ≤ _; omega) (by omega) (g := (mkF m 1 #[.val (.ref b), .val (.int (Int32.ofNat o)), .val (.int (Int32.ofNat len)), .unset, .unset, .unset] [.int (Int32.ofNat len)])) rfl (hb hbytes d1) (rest := []) rfl (Nat.le_refl _) (by show 0 + len ≤ len; omega)
  rw [hh0] at ba3 st3
  have kp3 : XT.Kept s T3 := (XT.Kept.of_eq hh0).push bh3
  have hA3 := hA.keep X3.warmed.alike (kp3 _ _ hA.1.1)
  have hne : b ≠ s.heap.size := hA.1.ne
  have c4 : Steps p.tables e below (s₁.setTop (entryFrame m #[.ref b, .int (Int32.ofNat o), .int (Int32.ofNat len)] 6)) (T3.setTop (mkF m 3 #[.val (.ref b), .val (.int (Int32.ofNat o)), .val (.int (Int32.ofNat len)), .unset, .unset, .unset] [.ref s.heap.size])) := c2.trans (st3 _ (Steps.refl _))
  have c5 : Steps p.tables e below (s₁.setTop (entryFrame m #[.ref b, .int (Int32.ofNat o), .int (Int32.ofNat len)] 6)) (T3.setTop (mkF m 9 #[.val (.ref b), .val (.int (Int32.ofNat o)), .val (.int (Int32.ofNat len)), .val (.ref s.heap.size), .unset, .unset] [.int (Int32.ofNat len), .int 0, .ref s.heap.size, .int (Int32.ofNat o), .ref b])) := c4.trans (by
    refine XS.astoreN X3.here hexec rfl (hb hbytes d3) rfl rfl rfl ?_
    refine XS.aloadN X3.here hexec rfl (hb hbytes d4) rfl rfl ?_
    refine XS.iloadN X3.here hexec rfl (hb hbytes d5) rfl ?_
    refine XS.aloadN X3.here hexec rfl (hb hbytes d6) rfl rfl ?_
    refine iconstV X3.here hexec rfl 0 (hb hbytes d7) (by decide) ?_
    refine XS.iloadN X3.here hexec rfl (hb hbytes d8) rfl ?_
    exact Steps.refl _)
  obtain ⟨v6, T6, X6, E6, g6⟩ := X3.callS hexec (Cmp5.law l b A s.heap.size B3 o 0 len) hown (wks W (staticW U16 115 Cmp5.yN)) (wk W Cmp5.tab) (W := 0) (Nat.le_of_ble_eq_true rfl) (Nat.le_of_ble_eq_true rfl) (Nat.le_refl _) (by show 0 + len + 0 ≤ len; omega) (g := (mkF m 9 #[.val (.ref b), .val (.int (Int32.ofNat o)), .val (.int (Int32.ofNat len)), .val (.ref s.heap.size), .unset, .unset] [.int (Int32.ofNat len), .int (Int32.ofNat 0), .ref s.heap.size, .int (Int32.ofNat o), .ref b])) rfl (by rw [hml]; rfl) c5 (argsL := [.ref b, .int (Int32.ofNat o), .ref s.heap.size, .int (Int32.ofNat 0), .int (Int32.ofNat len)]) (rest := []) rfl rfl (by show 2 * 0 + 0 ≤ _; decide) (hb hbytes d9) (⟨rfl, hA3, ba3, hne, l1, by rw [bs3]; simp, hp⟩)
  obtain ⟨rfl, B6, p6, f6⟩ := E6
  have c7 : Steps p.tables e below (s₁.setTop (entryFrame m #[.ref b, .int (Int32.ofNat o), .int (Int32.ofNat len)] 6)) (T6.setTop (mkF m 12 #[.val (.ref b), .val (.int (Int32.ofNat o)), .val (.int (Int32.ofNat len)), .val (.ref s.heap.size), .unset, .unset] [.int (Int32.ofNat len)])) := g6
  have c8 : Steps p.tables e below (s₁.setTop (entryFrame m #[.ref b, .int (Int32.ofNat o), .int (Int32.ofNat len)] 6)) (T6.setTop (mkF m 58 #[.val (.ref b), .val (.int (Int32.ofNat o)), .val (.int (Int32.ofNat len)), .val (.ref s.heap.size), .val (.int (Int32.ofNat len)), .unset] [.ref s.heap.size])) := c7.trans (by
    refine XS.istore X6.here hexec rfl (hb hbytes d12) rfl rfl ?_
    refine XS.iload X6.here hexec rfl (hb hbytes d14) rfl ?_
    refine XS.iloadN X6.here hexec rfl (hb hbytes d16) rfl ?_
    refine XS.icmpYes X6.here hexec rfl (pc0 := 17) rfl (hb hbytes d17) rfl (ii_eq_t rfl) (by decide) rfl ?_
    refine XS.aloadN X6.here hexec rfl (hb hbytes d57) rfl rfl ?_
    exact Steps.refl _)
  have X8 := X6.wide (L' := []) (cells' := 1) (slots' := len) (fun x hx hlt => by
    simp only [List.nil_append, copyLocs, List.mem_map, List.mem_range] at hx
    obtain ⟨i, -, rfl⟩ := hx
    exact absurd hlt (Nat.lt_irrefl _)) (Nat.le_refl _) (by omega)
  exact ⟨T6, some (.ref s.heap.size), _, _, _, X8, rfl, rfl, rfl, (fun h => by cases h), ⟨⟨rfl, B6, ba3.like (X3.warmed.alike.symm.trans X6.warmed.alike) p6.1 f6.1 f6.2.1 f6.2.2.1, f6.2.1.trans bv3, by rw [X6.warmed.alike.findClass, f6.1]; exact bf3, by rw [f6.2.2.1, bs3]; simp, fun j hj => by rw [f6.2.2.2 j, if_pos (by omega)]; rfl, kp3.put p6 (Nat.le_refl _)⟩, by rw [p6.2.2, bh3, hh0]; simp⟩, fun fs hl => c8.trans (X8.areturnOut hexec rfl hret rfl (hb hbytes d58) hl)⟩
end Cmp3
namespace CodL
def yN : MethodName := ⟨"java/lang/StringUTF16", "coderFromArrayLen", "([BI)B"⟩
abbrev yB : ByteArray := jdk_52_method_15_code
theorem d0 : decode yB 0 = .ok (.iload_n 1, 1) := by decide +kernel
theorem d1 : decode yB 1 = .ok (.aload_n 0, 1) := by decide +kernel
theorem d2 : decode yB 2 = .ok (.arraylength, 1) := by decide +kernel
theorem d3 : decode yB 3 = .ok (.isub, 1) := by decide +kernel
theorem d4 : decode yB 4 = .ok (.bipush 31, 2) := by decide +kernel
theorem d6 : decode yB 6 = .ok (.iushr, 1) := by decide +kernel
theorem d7 : decode yB 7 = .ok (.i2b, 1) := by decide +kernel
theorem d8 : decode yB 8 = .ok (.ireturn, 1) := by decide +kernel
def site : List Cond := []
def tab : Cond := tabOf yN yB 2 (some .byte) site
def P (d : Addr) (B : Cell) (args : Array Value) (s : State) : Prop := args = #[.ref d, .int (Int32.ofNat B.slots.size)] ∧ Arr .byte d B s
def E (r : Option Value) (s u : State) : Prop := XT.PureE (some (.int 0)) r s u
/-- an array as long as the number of chars: LATIN1 -/
theorem law (l : Launch) (d : Addr) (B : Cell) : Law l yN 2 2 0 0 yB 2 (some .byte) site (P d B) E [] 0 0 := by
  refine Law.of_walk (plainFor_of_name (by decide +kernel)) (by decide +kernel) (by decide +kernel) (by decide) (fun _ _ h => by rw [h.1]; rfl) (fun _ U U' hal hh h => ⟨h.1, h.2.mv hal hh⟩) (fun r U U' V V' h1 hal h2 h => XT.PureE.mv r U U' V V' h1 hal h2 h) ?_
  intro p e s m args below meth c s₁ X0 hexec hbytes hml hret hlk hnm hown hh0 W hP
  obtain ⟨rfl, hB⟩ := hP
  have hB0 := hB.mv X0.warmed.alike hh0
  have c1 : Steps p.tables e below (s₁.setTop (entryFrame m #[.ref d, .int (Int32.ofNat B.slots.size)] 2)) (s₁.setTop (mkF m 0 #[.val (.ref d), .val (.int (Int32.ofNat B.slots.size))] [])) := entry rfl
  have c2 : Steps p.tables e below (s₁.setTop (entryFrame m #[.ref d, .int (Int32.ofNat B.slots.size)] 2)) (s₁.setTop (mkF m 2 #[.val (.ref d), .val (.int (Int32.ofNat B.slots.size))] [.ref d, .int (Int32.ofNat B.slots.size)])) := c1.trans (by
    refine XS.iloadN X0.here hexec rfl (hb hbytes d0) rfl ?_
    refine XS.aloadN X0.here hexec rfl (hb hbytes d1) rfl rfl ?_
    exact Steps.refl _)
  have c3 : Steps p.tables e below (s₁.setTop (entryFrame m #[.ref d, .int (Int32.ofNat B.slots.size)] 2)) (s₁.setTop (mkF m 8 #[.val (.ref d), .val (.int (Int32.ofNat B.slots.size))] [.int (lo8 (ushr (Int32.ofNat B.slots.size - Int32.ofNat B.slots.size) 31))])) := c2.trans (by
    refine X0.alen hexec hB0 rfl rfl (hb hbytes d2) ?_
    refine XS.isub X0.here hexec rfl (hb hbytes d3) rfl ?_
    refine bipushV X0.here hexec rfl 31 (hb hbytes d4) (by decide) ?_
    refine iushr X0.here hexec rfl (hb hbytes d6) rfl ?_
    refine i2b X0.here hexec rfl (hb hbytes d7) rfl ?_
    exact Steps.refl _)
  have e0 : lo8 (ushr (Int32.ofNat B.slots.size - Int32.ofNat B.slots.size) 31) = 0 := by rw [Int32.sub_self]; decide
  rw [e0] at c3
  exact ⟨s₁, some (.int 0), _, _, _, X0, rfl, rfl, rfl, (fun h => by cases h), ⟨rfl, hh0⟩, fun fs hl => c3.trans (X0.ireturnOut hexec hret rfl (Or.inr (Or.inr (Or.inl rfl))) (hb hbytes d8) hl)⟩
end CodL
/-- the String at a is Latin-1 over a new byte[] (the heap's one new cell): the low bytes of the len chars of A from o on; every cell but a is kept -/
def Got (a : Addr) (D : Cell) (fV fC : Field) (A : Cell) (o len : Nat) (r : Option Value) (s u : State) : Prop := r = none ∧ ∃ D' V : Cell, Blank "java/lang/String" a D' u ∧ Same D D' [fV.slot, fC.slot] ∧ D'.slots[fV.slot]? = some (.ref s.heap.size) ∧ D'.slots[fC.slot]? = some (.int 0) ∧ Arr .byte s.heap.size V u ∧ V.vm = .none ∧ u.vm.findClass "[B" = some V.cls ∧ V.slots.size = len ∧ (∀ j, j < len → V.slots[j]? = some (.int (lo8 (cv A (o + j))))) ∧ (∀ (y : Addr) (c : Cell), y ≠ a → s.heap[y]? = some c → u.heap[y]? = some c) ∧ u.heap.size = s.heap.size + 1
theorem Got.mv {a : Addr} {D A : Cell} {fV fC : Field} {o len : Nat} : ∀ r (U U' V V' : State), U'.heap = U.heap → V.vm.Alike V'.vm → V'.heap = V.heap → Got a D fV fC A o len r U V → Got a D fV fC A o len r U' V' :=
  fun r U U' V V' h1 hal h2 ⟨e0, D', X, a1, a2, a3, a4, a5, a6, a7, a8, a9, a10, a11⟩ => ⟨e0, D', X, a1.mv hal h2, a2, by rw [h1]; exact a3, a4, by rw [h1]; exact a5.mv hal h2, a6, by rw [hal.findClass]; exact a7, a8, a9, by rw [h1, h2]; exact a10, by rw [h1, h2]; exact a11⟩
namespace New4
def yN : MethodName := ⟨"java/lang/String", "<init>", "([CIILjava/lang/Void;)V"⟩
abbrev yB : ByteArray := jdk_42_method_149_code
theorem d0 : decode yB 0 = .ok (.aload_n 0, 1) := by decide +kernel
theorem d1 : decode yB 1 = .ok (.invokespecial 1, 3) := by decide +kernel
theorem d4 : decode yB 4 = .ok (.iload_n 3, 1) := by decide +kernel
theorem d5 : decode yB 5 = .ok (.ifCond (.ne) 22, 3) := by decide +kernel
theorem d27 : decode yB 27 = .ok (.getstatic 38, 3) := by decide +kernel
theorem d30 : decode yB 30 = .ok (.ifCond (.eq) 28, 3) := by decide +kernel
theorem d33 : decode yB 33 = .ok (.aload_n 1, 1) := by decide +kernel
theorem d34 : decode yB 34 = .ok (.iload_n 2, 1) := by decide +kernel
theorem d35 : decode yB 35 = .ok (.iload_n 3, 1) := by decide +kernel
theorem d36 : decode yB 36 = .ok (.invokestatic 177, 3) := by decide +kernel
theorem d39 : decode yB 39 = .ok (.astore 5, 2) := by decide +kernel
theorem d41 : decode yB 41 = .ok (.aload_n 0, 1) := by decide +kernel
theorem d42 : decode yB 42 = .ok (.aload 5, 2) := by decide +kernel
theorem d44 : decode yB 44 = .ok (.iload_n 3, 1) := by decide +kernel
theorem d45 : decode yB 45 = .ok (.invokestatic 47, 3) := by decide +kernel
theorem d48 : decode yB 48 = .ok (.putfield 15, 3) := by decide +kernel
theorem d51 : decode yB 51 = .ok (.aload_n 0, 1) := by decide +kernel
theorem d52 : decode yB 52 = .ok (.aload 5, 2) := by decide +kernel
theorem d54 : decode yB 54 = .ok (.putfield 9, 3) := by decide +kernel
theorem d57 : decode yB 57 = .ok (.return_, 1) := by decide +kernel
def site : List Cond := [.fieldLink "java/lang/String" 38 "java/lang/String" "COMPACT_STRINGS" "Z", Cmp3.tab, CodL.tab, .laysFinal "java/lang/String" "java/lang/String" "value" "[B", .fieldLink "java/lang/String" 9 "java/lang/String" "value" "[B", .laysFinal "java/lang/String" "java/lang/String" "coder" "B", .fieldLink "java/lang/String" 15 "java/lang/String" "coder" "B"] ++ objW "java/lang/String" 1 ++ staticW "java/lang/String" 177 Cmp3.yN ++ staticW "java/lang/String" 47 CodL.yN
def tab : Cond := tabOf yN yB 6 none site
def P (a : Addr) (D : Cell) (fV fC : Field) (b : Addr) (A : Cell) (z : Int32) (o len : Nat) (args : Array Value) (s : State) : Prop := args = #[.ref a, .ref b, .int (Int32.ofNat o), .int (Int32.ofNat len), .null] ∧ Blank "java/lang/String" a D s ∧ Found "java/lang/String" "value" "[B" fV s ∧ Found "java/lang/String" "coder" "B" fC s ∧ Ch b A s ∧ StaticIs s "java/lang/String" "COMPACT_STRINGS" "Z" (.int z) ∧ ¬ z = 0 ∧ 0 < len ∧ o + len ≤ A.slots.size ∧ len ≤ 536870912 ∧ ∀ i, i < len → ¬ 255 < cv A (o + i)
def E (a : Addr) (D : Cell) (fV fC : Field) (A : Cell) (o len : Nat) (r : Option Value) (s u : State) : Prop := Got a D fV fC A o len r s u
/-- len > 0, no char of the range above 255: a Latin-1 String of their low bytes -/
theorem law (l : Launch) (a : Addr) (D : Cell) (fV fC : Field) (b : Addr) (A : Cell) (z : Int32) (o len : Nat) : Law l yN 5 4 2 35 yB 6 none site (P a D fV fC b A z o len) (E a D fV fC A o len) [⟨a, fC.slot⟩, ⟨a, fV.slot⟩] 1 len := by
  refine Law.of_walk (plainFor_of_name (by decide +kernel)) (by decide +kernel) (by decide +kernel) (by decide) (fun _ _ h => by rw [h.1]; rfl) (fun _ U U' hal hh h => ⟨h.1, h.2.1.mv hal hh, h.2.2.1.al hal, h.2.2.2.1.al hal, h.2.2.2.2.1.mv hal hh, h.2.2.2.2.2.1.there hal hh, h.2.2.2.2.2.2⟩) (fun r U U' V V' h1 hal h2 h => Got.mv r U U' V V' h1 hal h2 h) ?_
  intro p e s m args below meth c s₁ X0 hexec hbytes hml hret hlk hnm hown hh0 W hP
  obtain ⟨rfl, hB, f1, f2, hA, s1, hz, l0, l1, l2, hp⟩ := hP
  have a31 := hA.1.2.2.2
  have c1 : Steps p.tables e below (s₁.setTop (entryFrame m #[.ref a, .ref b, .int (Int32.ofNat o), .int (Int32.ofNat len), .null] 6)) (s₁.setTop (mkF m 0 #[.val (.ref a), .val (.ref b), .val (.int (Int32.ofNat o)), .val (.int (Int32.ofNat len)), .val .null, .unset] [])) := entry rfl
  have c2 : Steps p.tables e below (s₁.setTop (entryFrame m #[.ref a, .ref b, .int (Int32.ofNat o), .int (Int32.ofNat len), .null] 6)) (s₁.setTop (mkF m 1 #[.val (.ref a), .val (.ref b), .val (.int (Int32.ofNat o)), .val (.int (Int32.ofNat len)), .val .null, .unset] [.ref a])) := c1.trans (by
    refine XS.aloadN X0.here hexec rfl (hb hbytes d0) rfl rfl ?_
    exact Steps.refl _)
  obtain ⟨T3, X3, q3, st3⟩ := X0.oinit hexec hown (wks W (objW "java/lang/String" 1)) (g := (mkF m 1 #[.val (.ref a), .val (.ref b), .val (.int (Int32.ofNat o)), .val (.int (Int32.ofNat len)), .val .null, .unset] [.ref a])) rfl (by rw [hml]; rfl) (rest := []) rfl (hb hbytes d1) (W := 0) (by show 2 * 0 + 0 ≤ _; decide) (Nat.le_of_ble_eq_true rfl) (Nat.le_of_ble_eq_true rfl)
  have hh3 := q3.trans hh0
  have c4 : Steps p.tables e below (s₁.setTop (entryFrame m #[.ref a, .ref b, .int (Int32.ofNat o), .int (Int32.ofNat len), .null] 6)) (T3.setTop (mkF m 27 #[.val (.ref a), .val (.ref b), .val (.int (Int32.ofNat o)), .val (.int (Int32.ofNat len)), .val .null, .unset] [])) := (c2.trans (st3 _ (Steps.refl _))).trans (by
    refine XS.iloadN X3.here hexec rfl (hb hbytes d4) rfl ?_
    refine XS.ifYes X3.here hexec rfl (pc0 := 5) rfl (hb hbytes d5) rfl (i0_ne_t (nz32 (by omega) l0)) (by decide) rfl ?_
    exact Steps.refl _)
  obtain ⟨T5, X5, q5, st5⟩ := X3.sget hexec hown (wk W (.fieldLink "java/lang/String" 38 "java/lang/String" "COMPACT_STRINGS" "Z")) s1 (fun _ _ h => by rw [hh3]; exact h) (g := (mkF m 27 #[.val (.ref a), .val (.ref b), .val (.int (Int32.ofNat o)), .val (.int (Int32.ofNat len)), .val .null, .unset] [])) rfl (hb hbytes d27)
  have hh5 := q5.trans hh3
  have c6 : Steps p.tables e below (s₁.setTop (entryFrame m #[.ref a, .ref b, .int (Int32.ofNat o), .int (Int32.ofNat len), .null] 6)) (T5.setTop (mkF m 30 #[.val (.ref a), .val (.ref b), .val (.int (Int32.ofNat o)), .val (.int (Int32.ofNat len)), .val .null, .unset] [.int z])) := c4.trans (st5 _ (Steps.refl _))
  have c7 : Steps p.tables e below (s₁.setTop (entryFrame m #[.ref a, .ref b, .int (Int32.ofNat o), .int (Int32.ofNat len), .null] 6)) (T5.setTop (mkF m 36 #[.val (.ref a), .val (.ref b), .val (.int (Int32.ofNat o)), .val (.int (Int32.ofNat len)), .val .null, .unset] [.int (Int32.ofNat len), .int (Int32.ofNat o), .ref b])) := c6.trans (by
    refine XS.ifNo X5.here hexec rfl (hb hbytes d30) rfl (i0_eq_f hz) ?_
    refine XS.aloadN X5.here hexec rfl (hb hbytes d33) rfl rfl ?_
    refine XS.iloadN X5.here hexec rfl (hb hbytes d34) rfl ?_
    refine XS.iloadN X5.here hexec rfl (hb hbytes d35) rfl ?_
    exact Steps.refl _)
  obtain ⟨v8, T8, X8, E8, g8⟩ := X5.callS hexec (Cmp3.law l b A o len) hown (wks W (staticW "java/lang/String" 177 Cmp3.yN)) (wk W Cmp3.tab) (W := 0) (Nat.le_of_ble_eq_true rfl) (Nat.le_of_ble_eq_true rfl) (Nat.le_refl _) (by show 0 + len ≤ len; omega) (g := (mkF m 36 #[.val (.ref a), .val (.ref b), .val (.int (Int32.ofNat o)), .val (.int (Int32.ofNat len)), .val .null, .unset] [.int (Int32.ofNat len), .int (Int32.ofNat o), .ref b])) rfl (by rw [hml]; rfl) c7 (argsL := [.ref b, .int (Int32.ofNat o), .int (Int32.ofNat len)]) (rest := []) rfl rfl (by show 2 * 0 + 0 ≤ _; decide) (hb hbytes d36) (⟨rfl, hA.mv X5.warmed.alike hh5, l1, l2, hp⟩)
  obtain ⟨e8, z8⟩ := E8
  obtain ⟨rfl, N, n1, n2, n3, n4, n5, n6⟩ := NewArr.mv _ T5 s _ _ hh5.symm (Vm.Alike.refl _) rfl e8
  rw [hh5] at z8
  have hB1 := hB.keep X8.warmed.alike (n6 _ _ hB.1)
  have hne : s.heap.size ≠ a := (Nat.ne_of_lt (Array.getElem?_eq_some_iff.mp hB.1).1).symm
  have c9 : Steps p.tables e below (s₁.setTop (entryFrame m #[.ref a, .ref b, .int (Int32.ofNat o), .int (Int32.ofNat len), .null] 6)) (T8.setTop (mkF m 39 #[.val (.ref a), .val (.ref b), .val (.int (Int32.ofNat o)), .val (.int (Int32.ofNat len)), .val .null, .unset] [.ref s.heap.size])) := g8
  have c10 : Steps p.tables e below (s₁.setTop (entryFrame m #[.ref a, .ref b, .int (Int32.ofNat o), .int (Int32.ofNat len), .null] 6)) (T8.setTop (mkF m 45 #[.val (.ref a), .val (.ref b), .val (.int (Int32.ofNat o)), .val (.int (Int32.ofNat len)), .val .null, .val (.ref s.heap.size)] [.int (Int32.ofNat N.slots.size), .ref s.heap.size, .ref a])) := by
    have hc : Steps p.tables e below (s₁.setTop (entryFrame m #[.ref a, .ref b, .int (Int32.ofNat o), .int (Int32.ofNat len), .null] 6)) (T8.setTop (mkF m 45 #[.val (.ref a), .val (.ref b), .val (.int (Int32.ofNat o)), .val (.int (Int32.ofNat len)), .val .null, .val (.ref s.heap.size)] [.int (Int32.ofNat len), .ref s.heap.size, .ref a])) := c9.trans (by
      refine XS.astore X8.here hexec rfl (hb hbytes d39) rfl rfl rfl ?_
      refine XS.aloadN X8.here hexec rfl (hb hbytes d41) rfl rfl ?_
      refine XS.aload X8.here hexec rfl (hb hbytes d42) rfl rfl ?_
      refine XS.iloadN X8.here hexec rfl (hb hbytes d44) rfl ?_
      exact Steps.refl _)
    rw [n4]; exact hc
  obtain ⟨v11, T11, X11, E11, g11⟩ := X8.callS hexec (CodL.law l s.heap.size N) hown (wks W (staticW "java/lang/String" 47 CodL.yN)) (wk W CodL.tab) (W := 1) (Nat.le_of_ble_eq_true rfl) (Nat.le_of_ble_eq_true rfl) (Nat.le_refl _) (by show 0 + len + 0 ≤ len; omega) (g := (mkF m 45 #[.val (.ref a), .val (.ref b), .val (.int (Int32.ofNat o)), .val (.int (Int32.ofNat len)), .val .null, .val (.ref s.heap.size)] [.int (Int32.ofNat N.slots.size), .ref s.heap.size, .ref a])) rfl (by rw [hml]; rfl) c10 (argsL := [.ref s.heap.size, .int (Int32.ofNat N.slots.size)]) (rest := [.ref a]) rfl rfl (by show 2 * 0 + (1 + 0) ≤ _; decide) (hb hbytes d45) (⟨rfl, n1⟩)
  obtain ⟨rfl, q11⟩ := E11
  have hB11 := hB1.mv (X8.warmed.alike.symm.trans X11.warmed.alike) q11
  have c12 : Steps p.tables e below (s₁.setTop (entryFrame m #[.ref a, .ref b, .int (Int32.ofNat o), .int (Int32.ofNat len), .null] 6)) (T11.setTop (mkF m 48 #[.val (.ref a), .val (.ref b), .val (.int (Int32.ofNat o)), .val (.int (Int32.ofNat len)), .val .null, .val (.ref s.heap.size)] [.int 0, .ref a])) := g11
  obtain ⟨T13, X13, p13, bl13, sl13, st13⟩ := X11.finit hexec hown (wk W (.fieldLink "java/lang/String" 15 "java/lang/String" "coder" "B")) (Or.inr ⟨_, (wk W (.laysFinal "java/lang/String" "java/lang/String" "coder" "B"))⟩) (Or.inl ⟨rfl, hnm⟩) f2 (Or.inl rfl) hB11 (t := .byte) (by decide +kernel) rfl (g := (mkF m 48 #[.val (.ref a), .val (.ref b), .val (.int (Int32.ofNat o)), .val (.int (Int32.ofNat len)), .val .null, .val (.ref s.heap.size)] [.int 0, .ref a])) rfl (rest := []) rfl (hb hbytes d48)
  have c14 : Steps p.tables e below (s₁.setTop (entryFrame m #[.ref a, .ref b, .int (Int32.ofNat o), .int (Int32.ofNat len), .null] 6)) (T13.setTop (mkF m 54 #[.val (.ref a), .val (.ref b), .val (.int (Int32.ofNat o)), .val (.int (Int32.ofNat len)), .val .null, .val (.ref s.heap.size)] [.ref s.heap.size, .ref a])) := (c12.trans (st13 _ (Steps.refl _))).trans (by
    refine XS.aloadN X13.here hexec rfl (hb hbytes d51) rfl rfl ?_
    refine XS.aload X13.here hexec rfl (hb hbytes d52) rfl rfl ?_
    exact Steps.refl _)
  obtain ⟨T15, X15, p15, bl15, sl15, st15⟩ := X13.finit hexec hown (wk W (.fieldLink "java/lang/String" 9 "java/lang/String" "value" "[B")) (Or.inr ⟨_, (wk W (.laysFinal "java/lang/String" "java/lang/String" "value" "[B"))⟩) (Or.inl ⟨rfl, hnm⟩) f1 (Or.inl rfl) bl13 (t := (.array .byte)) (by decide +kernel) rfl (g := (mkF m 54 #[.val (.ref a), .val (.ref b), .val (.int (Int32.ofNat o)), .val (.int (Int32.ofNat len)), .val .null, .val (.ref s.heap.size)] [.ref s.heap.size, .ref a])) rfl (rest := []) rfl (hb hbytes d54)
  have c16 : Steps p.tables e below (s₁.setTop (entryFrame m #[.ref a, .ref b, .int (Int32.ofNat o), .int (Int32.ofNat len), .null] 6)) (T15.setTop (mkF m 57 #[.val (.ref a), .val (.ref b), .val (.int (Int32.ofNat o)), .val (.int (Int32.ofNat len)), .val .null, .val (.ref s.heap.size)] [])) := c14.trans (st15 _ (Steps.refl _))
  have ap := apart (Or.inr ⟨_, (wk W (.laysFinal "java/lang/String" "java/lang/String" "value" "[B"))⟩) (Or.inr ⟨_, (wk W (.laysFinal "java/lang/String" "java/lang/String" "coder" "B"))⟩) f1 f2 (t₁ := .array .byte) (t₂ := .byte) (by decide +kernel) (by decide +kernel) (by decide)
  have al := X8.warmed.alike.symm.trans X15.warmed.alike
  have n7 : T11.heap[s.heap.size]? = some N := by rw [q11]; exact n1.1
  exact ⟨T15, none, _, _, _, X15, by simp, rfl, by omega, (fun _ => rfl), ⟨rfl, _, N, bl15, ((Same.refl D _).set _ (by simp)).set _ (by simp), sl15, (Cell.slots_setSlot_ne _ ap).trans sl13, n1.keep al (p15.other hne (p13.other hne n7)), n2, by rw [al.findClass]; exact n3, n4, n5, fun y c h1 h2 => p15.other h1 (p13.other h1 (by rw [q11]; exact n6 y c h2)), by rw [p15.2.2, p13.2.2, q11]; exact z8⟩, fun fs hl => c16.trans (X15.returnOut hexec hret (hb hbytes d57) hl)⟩
end New4
namespace New1
def yN : MethodName := ⟨"java/lang/String", "<init>", "([C)V"⟩
abbrev yB : ByteArray := jdk_42_method_3_code
theorem d0 : decode yB 0 = .ok (.aload_n 0, 1) := by decide +kernel
theorem d1 : decode yB 1 = .ok (.aload_n 1, 1) := by decide +kernel
theorem d2 : decode yB 2 = .ok (.iconst 0, 1) := by decide +kernel
theorem d3 : decode yB 3 = .ok (.aload_n 1, 1) := by decide +kernel
theorem d4 : decode yB 4 = .ok (.arraylength, 1) := by decide +kernel
theorem d5 : decode yB 5 = .ok (.aconst_null, 1) := by decide +kernel
theorem d6 : decode yB 6 = .ok (.invokespecial 27, 3) := by decide +kernel
theorem d9 : decode yB 9 = .ok (.return_, 1) := by decide +kernel
def site : List Cond := [New4.tab] ++ initW "java/lang/String" 27 New4.yN
def tab : Cond := tabOf yN yB 2 none site
def P (a : Addr) (D : Cell) (fV fC : Field) (b : Addr) (A : Cell) (z : Int32) (args : Array Value) (s : State) : Prop := args = #[.ref a, .ref b] ∧ Blank "java/lang/String" a D s ∧ Found "java/lang/String" "value" "[B" fV s ∧ Found "java/lang/String" "coder" "B" fC s ∧ Ch b A s ∧ StaticIs s "java/lang/String" "COMPACT_STRINGS" "Z" (.int z) ∧ ¬ z = 0 ∧ 0 < A.slots.size ∧ A.slots.size ≤ 536870912 ∧ ∀ i, i < A.slots.size → ¬ 255 < cv A i
def E (a : Addr) (D : Cell) (fV fC : Field) (A : Cell) (r : Option Value) (s u : State) : Prop := Got a D fV fC A 0 A.slots.size r s u
/-- new String(chars), not empty, no char above 255: a Latin-1 String of their low bytes -/
theorem law (l : Launch) (a : Addr) (D : Cell) (fV fC : Field) (b : Addr) (A : Cell) (z : Int32) : Law l yN 2 1 3 52 yB 2 none site (P a D fV fC b A z) (E a D fV fC A) [⟨a, fC.slot⟩, ⟨a, fV.slot⟩] 1 A.slots.size := by
  refine Law.of_walk (plainFor_of_name (by decide +kernel)) (by decide +kernel) (by decide +kernel) (by decide) (fun _ _ h => by rw [h.1]; rfl) (fun _ U U' hal hh h => ⟨h.1, h.2.1.mv hal hh, h.2.2.1.al hal, h.2.2.2.1.al hal, h.2.2.2.2.1.mv hal hh, h.2.2.2.2.2.1.there hal hh, h.2.2.2.2.2.2⟩) (fun r U U' V V' h1 hal h2 h => Got.mv r U U' V V' h1 hal h2 h) ?_
  intro p e s m args below meth c s₁ X0 hexec hbytes hml hret hlk hnm hown hh0 W hP
  obtain ⟨rfl, hB, f1, f2, hA, s1, hz, l0, l2, hp⟩ := hP
  have c1 : Steps p.tables e below (s₁.setTop (entryFrame m #[.ref a, .ref b] 2)) (s₁.setTop (mkF m 0 #[.val (.ref a), .val (.ref b)] [])) := entry rfl
  have c2 : Steps p.tables e below (s₁.setTop (entryFrame m #[.ref a, .ref b] 2)) (s₁.setTop (mkF m 6 #[.val (.ref a), .val (.ref b)] [.null, .int (Int32.ofNat A.slots.size), .int 0, .ref b, .ref a])) := c1.trans (by
    refine XS.aloadN X0.here hexec rfl (hb hbytes d0) rfl rfl ?_
    refine XS.aloadN X0.here hexec rfl (hb hbytes d1) rfl rfl ?_
    refine iconstV X0.here hexec rfl 0 (hb hbytes d2) (by decide) ?_
    refine XS.aloadN X0.here hexec rfl (hb hbytes d3) rfl rfl ?_
    refine X0.alen hexec (hA.1.mv X0.warmed.alike hh0) rfl rfl (hb hbytes d4) ?_
    refine XS.aconstNull X0.here hexec rfl (hb hbytes d5) ?_
    exact Steps.refl _)
  obtain ⟨v3, T3, X3, E3, g3⟩ := X0.callN hexec (New4.law l a D fV fC b A z 0 A.slots.size) rfl hown (wks W (initW "java/lang/String" 27 New4.yN)) (W New4.tab (by simp only [site, List.mem_cons, List.mem_append, true_or, or_true])) (W := 0) (Nat.le_of_ble_eq_true rfl) (Nat.le_of_ble_eq_true rfl) (Nat.le_refl _) (by show 0 + A.slots.size ≤ A.slots.size; omega) (g := (mkF m 6 #[.val (.ref a), .val (.ref b)] [.null, .int (Int32.ofNat A.slots.size), .int (Int32.ofNat 0), .ref b, .ref a])) rfl (by rw [hml]; rfl) c2 (argsL := [.ref b, .int (Int32.ofNat 0), .int (Int32.ofNat A.slots.size), .null]) (rest := []) rfl rfl (by show 2 * 0 + 0 ≤ _; decide) (hb hbytes d6) (⟨rfl, hB.mv X0.warmed.alike hh0, f1.al X0.warmed.alike, f2.al X0.warmed.alike, hA.mv X0.warmed.alike hh0, s1.there X0.warmed.alike hh0, hz, l0, by omega, l2, fun i hi => by rw [Nat.zero_add]; exact hp i hi⟩)
  have e0 := Got.mv _ s₁ s _ _ hh0.symm (Vm.Alike.refl _) rfl E3
  obtain rfl := e0.1
  have c4 : Steps p.tables e below (s₁.setTop (entryFrame m #[.ref a, .ref b] 2)) (T3.setTop (mkF m 9 #[.val (.ref a), .val (.ref b)] [])) := g3
  exact ⟨T3, none, _, _, _, X3, by simp, rfl, by omega, (fun _ => rfl), e0, fun fs hl => c4.trans (X3.returnOut hexec hret (hb hbytes d9) hl)⟩
theorem pays {l : Launch} {R : Room} {p : Program} {e : Env} {below : List Frame} {s : State} {sargs : Array Value} {len W : Nat} (a : Addr) (D : Cell) (fV fC : Field) (b : Addr) (A : Cell) (z : Int32) (htab : tab.before sargs s = true) (hfr : 4 ≤ R.frames) (hlo : W + 65 ≤ R.locals) :
    Back l R p e below s sargs yN len W (fun A₁ a₁ => A₁.cells + 1 ≤ R.cells ∧ A₁.slots + A.slots.size ≤ R.slots ∧ P a D fV fC b A z a₁ A₁.U) (fun A₁ _ v₁ B₁ => E a D fV fC A v₁ A₁.U B₁.U ∧ B₁.locs = A₁.locs ++ [⟨a, fC.slot⟩, ⟨a, fV.slot⟩] ∧ B₁.cells = A₁.cells + 1 ∧ B₁.slots = A₁.slots + A.slots.size) :=
  (law l a D fV fC b A z).pays htab hfr (by omega)
end New1
/-- the byte, read back as charAt reads it, is the char -/
theorem lo8_mask {x : Int32} (h0 : ¬ x < 0) (h1 : ¬ 255 < x) : lo8 x &&& 255 = x := by
  have t : ∀ k : Fin 256, lo8 (Int32.ofNat k.val) &&& 255 = Int32.ofNat k.val := by decide +kernel
  rw [Int32.lt_iff_toInt_lt] at h0 h1
  have e0 : (0 : Int32).toInt = 0 := rfl
  have e1 : (255 : Int32).toInt = 255 := rfl
  obtain ⟨k, hk⟩ : ∃ k : Nat, x.toInt = k := ⟨x.toInt.toNat, by omega⟩
  have hx : x = Int32.ofNat k := Int32.toInt_inj.mp (by rw [hk, Int32.toInt_ofNat_small (by omega)])
  rw [hx]
  exact t ⟨k, by omega⟩
end StrChars
namespace StrChars.Road
open Jvm Sem ClassFile Op Lib Jvm.Stand Jvm.Free Jvm.Free.XT
open Jvm.Lib.Cold (StaticIs)
abbrev ST : String := "java/lang/String"
/-- every table word that New1's law asks, flat -/
abbrev words : List Jvm.Cond := [.code New1.yN New1.yB 2 none, .initialized ST, .methodLink ST 27 New4.yN, .instanceMethod New4.yN,
  .code New4.yN New4.yB 6 none, .fieldLink ST 38 ST "COMPACT_STRINGS" "Z", .laysFinal ST ST "value" "[B", .fieldLink ST 9 ST "value" "[B", .laysFinal ST ST "coder" "B", .fieldLink ST 15 ST "coder" "B",
  .methodLink ST 1 Lib.objectInit, .instanceMethod Lib.objectInit, .code Lib.objectInit ⟨#[0xb1]⟩ 1 none, .methodLink ST 177 Cmp3.yN, .static Cmp3.yN, .methodLink ST 47 CodL.yN, .static CodL.yN,
  .code Cmp3.yN Cmp3.yB 6 (some (.array .byte)), .initialized U16, .arrayClass .byte, .methodLink U16 115 Cmp5.yN, .static Cmp5.yN, .code Cmp5.yN Cmp5.yB 7 (some .int), .code CodL.yN CodL.yB 2 (some .byte)]
theorem tab_of {a : Array Value} {s : State} (h : ∀ w ∈ words, w.before a s = true) : New1.tab.before a s = true := by
  have h5 : Cmp5.tab.before a s = true := unparts (wk h (.code Cmp5.yN Cmp5.yB 7 (some .int))) (wks h (.initialized Cmp5.yN.cls :: Cmp5.site))
  have hc : CodL.tab.before a s = true := unparts (wk h (.code CodL.yN CodL.yB 2 (some .byte))) (wks h (.initialized CodL.yN.cls :: CodL.site))
  have q5 : ∀ w ∈ Cmp5.tab :: words, w.before a s = true := fun w hw => (List.mem_cons.mp hw).elim (fun e => e ▸ h5) (h w)
  have h3 : Cmp3.tab.before a s = true := unparts (wk q5 (.code Cmp3.yN Cmp3.yB 6 (some (.array .byte)))) (wks q5 (.initialized Cmp3.yN.cls :: Cmp3.site))
  have q3 : ∀ w ∈ Cmp3.tab :: CodL.tab :: words, w.before a s = true := fun w hw => (List.mem_cons.mp hw).elim (fun e => e ▸ h3) fun hw => (List.mem_cons.mp hw).elim (fun e => e ▸ hc) (h w)
  have h4 : New4.tab.before a s = true := unparts (wk q3 (.code New4.yN New4.yB 6 none)) (wks q3 (.initialized New4.yN.cls :: New4.site))
  have q4 : ∀ w ∈ New4.tab :: words, w.before a s = true := fun w hw => (List.mem_cons.mp hw).elim (fun e => e ▸ h4) (h w)
  exact unparts (wk q4 (.code New1.yN New1.yB 2 none)) (wks q4 (.initialized New1.yN.cls :: New1.site))
/-- the words ride from the start Z to the walk's own state -/
theorem moved {Z s : State} {a0 args : Array Value} (hZ : Z.Warmed39 s.vm) (hw : ∀ d ∈ words, d.before a0 Z = true) : ∀ d ∈ words, d.before args s = true := fun d hd => by
  have q := hw d hd
  have t : ∀ d ∈ words, d = .arrayClass .byte ∨ (d.onTables && d.keepsFace) = true := by decide +kernel
  rcases t d hd with rfl | t
  · exact RoadKit.mvA hZ q
  · exact RoadKit.mv hZ q t
/-- WHAT COMES BACK, over the tables of the start Z: h the heap at the call, h' behind it -/
def Q (Z : State) (x : Addr) (A : Cell) (h : Heap) (v : Option Value) (h' : Heap) (L : List Loc) : Prop := v = none ∧ (∀ y ∈ L, y.base = x) ∧ RoadKit.Keep h h' [x] ∧ h'.size = h.size + 1 ∧ RoadKit.Exa Z h' x ST ∧ RoadKit.Fld Z h' x ST "value" "[B" (.ref h.size) ∧ RoadKit.Fld Z h' x ST "coder" "B" (.int 0) ∧
  (∃ V : Cell, RoadKit.Arr Z h' h.size V .byte ∧ V.vm = .none ∧ Z.vm.findClass "[B" = some V.cls ∧ V.slots.size = A.slots.size ∧ ∀ j, j < A.slots.size → V.slots[j]? = some (.int (lo8 (cv A j)))) ∧
  ∀ (O n d : String) (w : Value), RoadKit.Fld Z h x O n d w → RoadKit.slotOf Z O n d ≠ RoadKit.slotOf Z ST "value" "[B" → RoadKit.slotOf Z O n d ≠ RoadKit.slotOf Z ST "coder" "B" → RoadKit.Fld Z h' x O n d w
/-- **new String(chars) AT A CALL, IN THE ROAD'S FORM**: for specialBack behind newO: x the fresh String, b the char[] with the cell A -/
theorem back {p : Program} {l : Launch} {e : Env} {R : Room} {s : State} {args : Array Value} {below : List Frame} {len W : Nat} {Z : State} {a0 : Array Value} {h : Heap} (hZ : Z.Warmed39 s.vm) (hw : ∀ d ∈ words, d.before a0 Z = true) {kI : Nat} (wi : (Jvm.Cond.instantiable ST kI).before a0 Z = true)
    {x b : Addr} {A : Cell} {z : Int32} {v0 c0 : Value} (E : RoadKit.Exa Z h x ST) (V : RoadKit.Fld Z h x ST "value" "[B" v0) (C : RoadKit.Fld Z h x ST "coder" "B" c0) (K : RoadKit.Arr Z h b A .char) (hty : Typed .char A) (S : RoadKit.Sta Z h ST "COMPACT_STRINGS" "Z" (.int z)) (hz : ¬ z = 0)
    (l0 : 0 < A.slots.size) (l2 : A.slots.size ≤ 536870912) (hp : ∀ i, i < A.slots.size → ¬ 255 < cv A i) (hfr : 4 ≤ R.frames) (hlo : W + 65 ≤ R.locals) :
    Back l R p e below s args New1.yN len W (fun P a => a = #[.ref x, .ref b] ∧ P.U.heap = h ∧ P.cells + 1 ≤ R.cells ∧ P.slots + A.slots.size ≤ R.slots)
      (fun P _ v B => ∃ L, Q Z x A h v B.U.heap L ∧ B.locs = P.locs ++ L ∧ B.cells = P.cells + 1 ∧ B.slots = P.slots + A.slots.size) := by
  intro m meth c P g ig mk a X hg hsize hdg hW hn hp'
  obtain ⟨rfl, rfl, r1, r2⟩ := hp'
  have al : Z.vm.Alike P.U.vm := hZ.alike.trans X.warmed.alike
  obtain ⟨D, cfV, kV, iV, fV, hD, gV, stV, knV, obV, asV, slV⟩ := id V
  obtain ⟨D', cfC, kC, iC, fC, hD', gC, stC, -, -, asC, slC⟩ := id C
  cases hD.symm.trans hD'
  obtain ⟨D2, kD, e1, e2, e3, e4, e5⟩ := id E
  cases hD.symm.trans e1
  obtain ⟨c2, k2, i1, i2, i3, -⟩ := Cond.instantiable_spec wi
  cases e2.symm.trans i1
  cases e3.symm.trans i2
  obtain ⟨kU, u1, u2⟩ := al.2.2 _ _ e3
  have hB : Blank ST x D P.U := ⟨hD, ⟨knV, fun q hq => by rw [hq] at obV; cases obV⟩, by rw [al.findClass]; exact e2, kU, u1, by rw [u2]; exact i3, by rw [u2]; exact e5 i3⟩
  have F1 : Found ST "value" "[B" fV P.U := ⟨SBG.found_only al ⟨cfV, kV, iV, gV⟩, stV⟩
  have F2 : Found ST "coder" "B" fC P.U := ⟨SBG.found_only al ⟨cfC, kC, iC, gC⟩, stC⟩
  have hA : Ch b A P.U := ⟨⟨K.1, State.isArrayOf_alike al K.2.1, K.2.2, by omega⟩, hty⟩
  have hS : StaticIs P.U ST "COMPACT_STRINGS" "Z" (.int z) := by
    obtain ⟨cfS, iS, kS, fS, st, cS, t1, t2, t3, t4, t5, t6, t7⟩ := S
    exact StaticIs.there (s := { Z with heap := P.U.heap }) ⟨cfS, iS, kS, fS, st, cS, t1, t2, t3, t4, t5, (fun q => by rw [q] at t6; cases t6), t7⟩ al rfl
  obtain ⟨v, B, X', ⟨⟨hv, E', V', q1, q2, q3, q4, q5, q6, q7, q8, q9, q10, q11⟩, hl, hc, hs⟩, st⟩ := New1.pays x D fV fC b A z (tab_of (moved hZ hw)) hfr hlo m meth c P g ig mk _ X hg hsize hdg hW hn ⟨r1, r2, rfl, hB, F1, F2, hA, hS, hz, l0, l2, hp⟩
  have al' : Z.vm.Alike B.U.vm := hZ.alike.trans X'.warmed.alike
  have hsz : E'.slots.size = D.slots.size := by
    obtain ⟨-, -, -, kB, w1, w2, w3⟩ := q1
    obtain ⟨kB', y1, y2⟩ := al'.2.2 _ _ e3
    rw [q2.2.1] at w1
    cases w1.symm.trans y1
    rw [w3, e5 i3, y2]
  refine ⟨v, B, X', ⟨_, ⟨hv, ?_, ⟨by omega, fun y cy hy hn' => q10 y cy (by simpa using hn') hy, fun y cy hy => ?_⟩, q11, ⟨E', _, q1.1, by rw [q2.2.1]; exact e2, by rw [q2.2.1]; exact e3, by rw [q2.1]; exact obV, fun _ => by rw [hsz]; exact e5 i3⟩,
    ⟨E', cfV, kV, iV, fV, q1.1, gV, stV, by rw [q2.1]; exact knV, by rw [q2.1]; exact obV, by rw [q2.2.1]; exact asV, q3⟩, ⟨E', cfC, kC, iC, fC, q1.1, gC, stC, by rw [q2.1]; exact knV, by rw [q2.1]; exact obV, by rw [q2.2.1]; exact asC, q4⟩,
    ⟨V', ⟨q5.1, State.isArrayOf_alike al'.symm q5.2.1, q5.2.2.1⟩, q6, by rw [← al'.findClass]; exact q7, q8, fun j hj => by have := q9 j hj; rwa [Nat.zero_add] at this⟩, fun O n d w F n1 n2 => ?_⟩, hl, hc, hs⟩, st⟩
  · intro y hy
    simp only [List.mem_cons, List.not_mem_nil, or_false] at hy
    rcases hy with rfl | rfl <;> rfl
  · by_cases q : y = x
    · subst q
      cases hD.symm.trans hy
      exact ⟨E', q1.1, q2.2.1, q2.1, hsz⟩
    · exact ⟨cy, q10 y cy q hy, rfl, rfl, rfl⟩
  · obtain ⟨D3, cf, k, i, f, g1, g2, g3, g4, g5, g6, g7⟩ := F
    cases hD.symm.trans g1
    simp only [RoadKit.slotOf, g2, gV, gC, Option.map_some, Option.getD_some] at n1 n2
    exact ⟨E', cf, k, i, f, q1.1, g2, g3, by rw [q2.1]; exact g4, by rw [q2.1]; exact g5, by rw [q2.2.1]; exact g6, by rw [q2.2.2 f.slot (by simp [n1, n2])]; exact g7⟩
end StrChars.Road
namespace StrChars.Road
open Jvm Sem ClassFile Op Lib Jvm.Stand Jvm.Free Jvm.Free.XT
/-- WHAT COMES BACK, the byte[] as a list of values -/
def QA (Z : State) (x : Addr) (zn : Int32) (cs : List Int32) (h : Heap) (v : Option Value) (h' : Heap) (L : List Loc) : Prop := v = none ∧ (∀ y ∈ L, y.base = x) ∧ RoadKit.Keep h h' [x] ∧ h'.size = h.size + 1 ∧ RoadKit.Exa Z h' x ST ∧ RoadKit.Fld Z h' x ST "value" "[B" (.ref h.size) ∧ RoadKit.Fld Z h' x ST "coder" "B" (.int 0) ∧
  (∃ kb, Z.vm.findClass "[B" = some kb ∧ RoadKit.Arv Z h' h.size kb .byte zn (cs.map fun c => .int (lo8 c)) (.int 0)) ∧
  ∀ (O n d : String) (w : Value), RoadKit.Fld Z h x O n d w → RoadKit.slotOf Z O n d ≠ RoadKit.slotOf Z ST "value" "[B" → RoadKit.slotOf Z O n d ≠ RoadKit.slotOf Z ST "coder" "B" → RoadKit.Fld Z h' x O n d w
/-- **new String(chars) AT A CALL, THE ARRAYS AS LISTS**: the char[] at b holds cs, not empty, no char above 255 -/
theorem backArv {p : Program} {l : Launch} {e : Env} {R : Room} {s : State} {args : Array Value} {below : List Frame} {len W : Nat} {Z : State} {a0 : Array Value} {h : Heap} (hZ : Z.Warmed39 s.vm) (hw : ∀ d ∈ words, d.before a0 Z = true) {kI : Nat} (wi : (Jvm.Cond.instantiable ST kI).before a0 Z = true)
    {x b : Addr} {k : ClassId} {zn z : Int32} {cs : List Int32} {dv v0 c0 : Value} (E : RoadKit.Exa Z h x ST) (V : RoadKit.Fld Z h x ST "value" "[B" v0) (C : RoadKit.Fld Z h x ST "coder" "B" c0) (K : RoadKit.Arv Z h b k .char zn (cs.map Value.int) dv) (S : RoadKit.Sta Z h ST "COMPACT_STRINGS" "Z" (.int z)) (hz : ¬ z = 0)
    (hlen : zn.toNatClampNeg = cs.length) (h0 : 0 < cs.length) (hbig : cs.length ≤ 536870912) (hall : ∀ c ∈ cs, ¬ 255 < c) (hfr : 4 ≤ R.frames) (hlo : W + 65 ≤ R.locals) :
    Back l R p e below s args New1.yN len W (fun P a => a = #[.ref x, .ref b] ∧ P.U.heap = h ∧ P.cells + 1 ≤ R.cells ∧ P.slots + cs.length ≤ R.slots)
      (fun P _ v B => ∃ L, QA Z x zn cs h v B.U.heap L ∧ B.locs = P.locs ++ L ∧ B.cells = P.cells + 1 ∧ B.slots = P.slots + cs.length) := by
  obtain ⟨A, K1, K2, K3, K4, K5, K6⟩ := K
  have e : A.slots.size = cs.length := K3.trans hlen
  have hat : ∀ (i : Nat) (hi : i < cs.length), A.slots[i]? = some (.int cs[i]) := fun i hi => by rw [K5 i (by omega)]; simp [List.getD_eq_getElem?_getD, hi]
  have hcv : ∀ (i : Nat) (hi : i < cs.length), cv A i = cs[i] := fun i hi => by unfold cv; rw [hat i hi]
  have hty : Typed .char A := fun i v hv => by
    have hi : i < A.slots.size := (Array.getElem?_eq_some_iff.mp hv).1
    have q := K5 i hi
    rw [hv] at q
    rw [Option.some.inj q]
    exact K6 i hi
  refine Back.mono (back hZ hw wi E V C K1 hty S hz (by omega) (by omega) (fun i hi => by rw [hcv i (by omega)]; exact hall _ (List.getElem_mem _)) hfr hlo) (fun P a hp => ⟨hp.1, hp.2.1, hp.2.2.1, by rw [e]; exact hp.2.2.2⟩) (fun P a v B hp hq => ?_)
  obtain ⟨L, ⟨q1, q2, q3, q4, q5, q6, q7, ⟨V', v1, v2, v3, v4, v5⟩, q9⟩, hl, hc, hs⟩ := hq
  refine ⟨L, ⟨q1, q2, q3, q4, q5, q6, q7, ⟨V'.cls, v3, V', v1, rfl, by rw [v4, e, hlen], K4, fun i hi => ?_, fun i hi => ?_⟩, q9⟩, hl, hc, by rw [hs, e]⟩
  · have hi' : i < cs.length := by omega
    rw [v5 i (by omega), hcv i hi']; simp [List.getD_eq_getElem?_getD, hi']
  · have hi' : i < cs.length := by omega
    simp only [List.getD_eq_getElem?_getD, List.getElem?_map, List.getElem?_eq_getElem hi', Option.map_some, Option.getD_some]
    exact fits_lo8 _
end StrChars.Road
namespace StrChars.Road
open Jvm Sem ClassFile Op Lib Jvm.Stand Jvm.Free Jvm.Free.XT
/-- WHAT COMES BACK, in the writer's own shape -/
def QV (Z : State) (x : Addr) (N : Int32) (bs : List Int32) (h : Heap) (n0 : Nat) (v : Option Value) (h' : Heap) (L : List Loc) : Prop := v = none ∧ RoadKit.Fr n0 L ∧ RoadKit.Keep h h' [x] ∧ RoadKit.Exa Z h' x ST ∧ RoadKit.Fld Z h' x ST "coder" "B" (.int 0) ∧
  ∃ (t : Addr) (kb : ClassId), n0 ≤ t ∧ h.size ≤ t ∧ ¬ t = x ∧ RoadKit.Fld Z h' x ST "value" "[B" (.ref t) ∧ RoadKit.Arv Z h' t kb .byte N (bs.map Value.int) (.int 0)
/-- **new String(chars) AT A CALL, FOR THE WRITER**: a char[] of n known ints, each 0 to 255 -/
theorem backV {p : Program} {l : Launch} {e : Env} {R : Room} {s : State} {args : Array Value} {below : List Frame} {len W : Nat} {Z : State} {a0 : Array Value} {h : Heap} (hZ : Z.Warmed39 s.vm) (hw : ∀ d ∈ words, d.before a0 Z = true) {kI : Nat} (wi : (Jvm.Cond.instantiable ST kI).before a0 Z = true)
    {x b : Addr} {kC : ClassId} {cs bs : List Int32} {d v0 c0 : Value} {z N : Int32} {n n0 : Nat} (hx0 : n0 ≤ x) (hh0 : n0 ≤ h.size) (E : RoadKit.Exa Z h x ST) (V : RoadKit.Fld Z h x ST "value" "[B" v0) (C : RoadKit.Fld Z h x ST "coder" "B" c0) (K : RoadKit.Arv Z h b kC .char N (cs.map Value.int) d) (S : RoadKit.Sta Z h ST "COMPACT_STRINGS" "Z" (.int z)) (hz : ¬ z = 0)
    (hn : cs.length = n) (hN : N = Int32.ofNat n) (l0 : 0 < n) (l2 : n ≤ 4000) (hp : ∀ c ∈ cs, ¬ c < 0 ∧ ¬ (255 : Int32) < c) (hb : bs = cs.map (fun c => c.toInt8.toInt32)) (hfr : 4 ≤ R.frames) (hlo : W + 65 ≤ R.locals) :
    Back l R p e below s args (⟨"java/lang/String", "<init>", "([C)V"⟩ : MethodName) len W (fun P a => a = #[.ref x, .ref b] ∧ P.U.heap = h ∧ P.cells + 1 ≤ R.cells ∧ P.slots + n ≤ R.slots)
      (fun P _ v B => ∃ L, QV Z x N bs h n0 v B.U.heap L ∧ B.locs = P.locs ++ L ∧ B.cells = P.cells + 1 ∧ B.slots = P.slots + n) := by
  subst hn hN hb
  refine Back.mono (backArv hZ hw wi E V C K S hz (n32 (by omega)) l0 (by omega) (fun c hc => (hp c hc).2) hfr hlo) (fun P a hp => hp) (fun P a v B hp hq => ?_)
  obtain ⟨L, ⟨q1, q2, q3, q4, q5, q6, q7, ⟨kb, v1, v2⟩, q9⟩, hl, hc, hs⟩ := hq
  exact ⟨L, ⟨q1, fun y hy => by rw [q2 y hy]; exact hx0, q3, q5, q7, h.size, kb, hh0, Nat.le_refl _, Nat.ne_of_gt E.lt, q6, by rw [List.map_map]; exact v2⟩, hl, hc, hs⟩
end StrChars.Road
namespace StrChars
open Jvm Sem ClassFile Op Lib Jvm.Stand Jvm.Free.XT Jvm.Free.ALB Jvm.Free.JM Jvm.Free
open Jvm.Lib.Cold (StaticIs)
def hi8 (x : Int32) : Int32 := lo8 (x >>> ((8 : Int32) &&& 31))
/-- what StringUTF16.getChar makes of two bytes -/
def pairCh (u v : Int32) : Int32 := (((u &&& 255) <<< ((0 : Int32) &&& 31)) ||| ((v &&& 255) <<< ((8 : Int32) &&& 31))).toUInt32.toUInt16.toUInt32.toInt32
theorem lo8_and (x : Int32) : (lo8 x &&& 255).toBitVec.toNat = x.toBitVec.toNat % 256 := by
  have h : (lo8 x).toBitVec = (x.toBitVec.signExtend 8).signExtend 32 := by rw [lo8, Int8.toBitVec_toInt32, Int32.toBitVec_toInt8]
  rw [Int32.toBitVec_and, BitVec.toNat_and, h]
  have e : ((x.toBitVec.signExtend 8).signExtend 32).toNat % 256 = x.toBitVec.toNat % 256 := by
    rw [BitVec.toNat_signExtend]
    have hlt := x.toBitVec.isLt
    simp only [BitVec.toNat_setWidth, BitVec.toNat_signExtend]
    split <;> split <;> omega
  rw [← e]
  exact Nat.and_two_pow_sub_one_eq_mod _ 8
theorem pair_says {c : Int32} (h0 : ¬ c < 0) (h1 : ¬ 65535 < c) : pairCh (lo8 c) (hi8 c) = c := by
  rw [Int32.lt_iff_toInt_lt] at h0 h1
  have e0 : (0 : Int32).toInt = 0 := rfl
  have e1 : (65535 : Int32).toInt = 65535 := rfl
  have hc : c.toInt = c.toBitVec.toNat := by
    have := c.toBitVec.isLt
    have e : c.toInt = c.toBitVec.toInt := rfl
    rw [e] at h0 h1
    rw [e]
    rw [BitVec.toInt_eq_toNat_cond] at h0 h1 ⊢
    split at h0 <;> split <;> omega
  have hn : c.toBitVec.toNat < 65536 := by omega
  have a1 := lo8_and c
  have a2 : (hi8 c &&& 255).toBitVec.toNat = c.toBitVec.toNat / 256 := by
    rw [hi8, lo8_and]
    have e : ((8 : Int32) &&& 31) = 8 := by decide
    rw [e, Int32.toBitVec_shiftRight]
    have e2 : ((8 : Int32).toBitVec.smod 32) = 8#32 := by decide
    rw [e2, BitVec.sshiftRight_eq', BitVec.toNat_sshiftRight_of_msb_false (by rw [BitVec.msb_eq_false_iff_two_mul_lt]; omega)]
    show c.toBitVec.toNat >>> 8 % 256 = _
    rw [Nat.shiftRight_eq_div_pow]
    omega
  unfold pairCh
  apply Int32.toBitVec_inj.mp
  apply BitVec.eq_of_toNat_eq
  have f0 : ((0 : Int32) &&& 31) = 0 := by decide
  have f8 : ((8 : Int32) &&& 31) = 8 := by decide
  rw [f0, f8]
  have g : (((lo8 c &&& 255) <<< (0 : Int32)) ||| ((hi8 c &&& 255) <<< (8 : Int32))).toBitVec.toNat = c.toBitVec.toNat := by
    rw [Int32.toBitVec_or, Int32.toBitVec_shiftLeft, Int32.toBitVec_shiftLeft]
    have s0 : ((0 : Int32).toBitVec.smod 32) = 0#32 := by decide
    have s8 : ((8 : Int32).toBitVec.smod 32) = 8#32 := by decide
    rw [s0, s8, BitVec.toNat_or]
    simp only [BitVec.shiftLeft_eq', BitVec.toNat_shiftLeft, a1, a2]
    show (c.toBitVec.toNat % 256) <<< 0 % 2 ^ 32 ||| (c.toBitVec.toNat / 256) <<< 8 % 2 ^ 32 = _
    rw [Nat.shiftLeft_zero, Nat.mod_eq_of_lt (show c.toBitVec.toNat % 256 < 2 ^ 32 by omega), Nat.mod_eq_of_lt (show (c.toBitVec.toNat / 256) <<< 8 < 2 ^ 32 by rw [Nat.shiftLeft_eq]; omega), Nat.or_comm, ← Nat.shiftLeft_add_eq_or_of_lt (by omega), Nat.shiftLeft_eq]
    omega
  show BitVec.toNat (((((lo8 c &&& 255) <<< (0 : Int32)) ||| ((hi8 c &&& 255) <<< (8 : Int32))).toBitVec.setWidth 16).setWidth 32) = _
  rw [BitVec.toNat_setWidth, BitVec.toNat_setWidth, g]
  omega
end StrChars
namespace StrChars
open Jvm Sem ClassFile Op Lib Jvm.Stand Jvm.Free.XT Jvm.Free.ALB Jvm.Free.JM Jvm.Free
open Jvm.Lib.Cold (StaticIs)
/-- the array's cell V codes the n chars f 0 .. f (n - 1) by the coder cd, as the JDK does: coder 1 just where some char is above 255 -/
def Cod (cd : Int32) (n : Nat) (f : Nat → Int32) (V : Cell) : Prop := (cd = 0 ∧ V.slots.size = n ∧ ∀ j, j < n → V.slots[j]? = some (.int (lo8 (f j))) ∧ ¬ 255 < f j) ∨ (cd = 1 ∧ V.slots.size = 2 * n ∧ (∀ j, j < n → V.slots[2 * j]? = some (.int (lo8 (f j))) ∧ V.slots[2 * j + 1]? = some (.int (hi8 (f j)))) ∧ ∃ j, j < n ∧ 255 < f j)
/-- **x is a String of the n chars f 0 .. f (n - 1)**, Latin-1 or UTF-16; its array at t has the cell V -/
def Txt (x t : Addr) (V : Cell) (cd : Int32) (n : Nat) (f : Nat → Int32) (U : State) : Prop := Exact "java/lang/String" x U ∧ Has x "java/lang/String" "value" "[B" (.ref t) U ∧ Has x "java/lang/String" "coder" "B" (.int cd) U ∧ XT.Arr .byte t V U ∧ Cod cd n f V ∧ ∀ j, j < n → ¬ f j < 0 ∧ ¬ 65535 < f j
theorem Txt.mv {x t : Addr} {V : Cell} {cd : Int32} {n : Nat} {f : Nat → Int32} {U U' : State} (h : Txt x t V cd n f U) (hal : U.vm.Alike U'.vm) (hh : U'.heap = U.heap) : Txt x t V cd n f U' := ⟨h.1.mv hal hh, h.2.1.mv hal hh, h.2.2.1.mv hal hh, h.2.2.2.1.mv hal hh, h.2.2.2.2⟩
end StrChars
namespace StrChars.Road
open Jvm Sem ClassFile Op Lib Jvm.Stand Jvm.Free Jvm.Free.XT
open Jvm.Lib.Cold (StaticIs)
theorem consq {a : Array Value} {s : State} {c : Jvm.Cond} {L : List Jvm.Cond} (h0 : c.before a s = true) (h : ∀ w ∈ L, w.before a s = true) : ∀ w ∈ c :: L, w.before a s = true := fun w hw => (List.mem_cons.mp hw).elim (fun e => e ▸ h0) (h w)
/-- the bytes of the chars cs, low before high -/
def wideBytes : List Int32 → List Value
  | [] => []
  | c :: cs => .int (lo8 c) :: .int (hi8 c) :: wideBytes cs
theorem wide_lo (d : Value) : ∀ (cs : List Int32) (j : Nat), j < cs.length → (wideBytes cs).getD (2 * j) d = .int (lo8 (cs.getD j 0))
  | [], j, h => absurd h (Nat.not_lt_zero j)
  | c :: cs, 0, _ => rfl
  | c :: cs, j + 1, h => by
    have q := wide_lo d cs j (by simpa using h)
    rw [show 2 * (j + 1) = 2 * j + 1 + 1 from by omega]
    simpa [wideBytes] using q
theorem wide_hi (d : Value) : ∀ (cs : List Int32) (j : Nat), j < cs.length → (wideBytes cs).getD (2 * j + 1) d = .int (hi8 (cs.getD j 0))
  | [], j, h => absurd h (Nat.not_lt_zero j)
  | c :: cs, 0, _ => rfl
  | c :: cs, j + 1, h => by
    have q := wide_hi d cs j (by simpa using h)
    rw [show 2 * (j + 1) + 1 = 2 * j + 1 + 1 + 1 from by omega]
    simpa [wideBytes] using q
theorem low_at (d : Value) (cs : List Int32) (j : Nat) (h : j < cs.length) : (cs.map fun c => Value.int (lo8 c)).getD j d = .int (lo8 (cs.getD j 0)) := by
  simp [List.getD_eq_getElem?_getD, h]
/-- an array of N2 bytes vs codes the chars cs by the coder cd -/
def CodA (cs : List Int32) (cd N2 : Int32) (vs : List Value) : Prop := (cd = 0 ∧ N2 = Int32.ofNat cs.length ∧ vs = (cs.map fun c => Value.int (lo8 c)) ∧ ∀ c ∈ cs, ¬ 255 < c) ∨ (cd = 1 ∧ N2 = Int32.ofNat (2 * cs.length) ∧ vs = wideBytes cs ∧ ∃ c ∈ cs, 255 < c)
theorem CodA.cod {cs : List Int32} {cd N2 : Int32} {vs : List Value} {V : Cell} (h : CodA cs cd N2 vs) (hn : 2 * cs.length < 2 ^ 31) (hs : V.slots.size = N2.toNatClampNeg) (hv : RoadKit.Has V vs (.int 0)) : Cod cd cs.length (fun j => cs.getD j 0) V := by
  rcases h with ⟨rfl, rfl, rfl, h⟩ | ⟨rfl, rfl, rfl, c, hc, hw⟩
  · rw [n32 (by omega)] at hs
    exact Or.inl ⟨rfl, hs, fun j hj => ⟨by rw [hv j (by omega), low_at _ _ _ hj], by
      have e : cs.getD j 0 = cs[j] := by simp [List.getD_eq_getElem?_getD, hj]
      show ¬ 255 < cs.getD j 0
      rw [e]; exact h _ (List.getElem_mem _)⟩⟩
  · rw [n32 (by omega)] at hs
    obtain ⟨j, hj, rfl⟩ := List.getElem_of_mem hc
    exact Or.inr ⟨rfl, hs, fun j hj => ⟨by rw [hv _ (by omega), wide_lo _ _ _ hj], by rw [hv _ (by omega), wide_hi _ _ _ hj]⟩, j, hj, by
      have e : cs.getD j 0 = cs[j] := by simp [List.getD_eq_getElem?_getD, hj]
      show 255 < cs.getD j 0
      rw [e]; exact hw⟩
/-- an object of exactly java/lang/String, its two fields found: as the laws ask it -/
theorem strObj {Z U : State} {a0 : Array Value} {kI : Nat} (wi : (Jvm.Cond.instantiable ST kI).before a0 Z = true) (al : Z.vm.Alike U.vm) {x : Addr} {v0 c0 : Value} (E : RoadKit.Exa Z U.heap x ST) (V : RoadKit.Fld Z U.heap x ST "value" "[B" v0) (C : RoadKit.Fld Z U.heap x ST "coder" "B" c0) :
    ∃ (D : Cell) (fV fC : Field), Blank ST x D U ∧ Found ST "value" "[B" fV U ∧ Found ST "coder" "B" fC U ∧ D.slots[fV.slot]? = some v0 ∧ D.slots[fC.slot]? = some c0 ∧ RoadKit.slotOf Z ST "value" "[B" = fV.slot ∧ RoadKit.slotOf Z ST "coder" "B" = fC.slot := by
  obtain ⟨D, cfV, kV, iV, fV, hD, gV, stV, knV, obV, asV, slV⟩ := V
  obtain ⟨D', cfC, kC, iC, fC, hD', gC, stC, -, -, asC, slC⟩ := C
  cases hD.symm.trans hD'
  obtain ⟨D2, kD, e1, e2, e3, e4, e5⟩ := E
  cases hD.symm.trans e1
  obtain ⟨c2, k2, i1, i2, i3, -⟩ := Cond.instantiable_spec wi
  cases e2.symm.trans i1
  cases e3.symm.trans i2
  obtain ⟨kU, u1, u2⟩ := al.2.2 _ _ e3
  exact ⟨D, fV, fC, ⟨hD, ⟨knV, fun q hq => by rw [hq] at obV; cases obV⟩, by rw [al.findClass]; exact e2, kU, u1, by rw [u2]; exact i3, by rw [u2]; exact e5 i3⟩, ⟨SBG.found_only al ⟨cfV, kV, iV, gV⟩, stV⟩, ⟨SBG.found_only al ⟨cfC, kC, iC, gC⟩, stC⟩, slV, slC, by simp [RoadKit.slotOf, gV], by simp [RoadKit.slotOf, gC]⟩
theorem sta_is {Z U : State} (al : Z.vm.Alike U.vm) {C n d : String} {v : Value} (S : RoadKit.Sta Z U.heap C n d v) : StaticIs U C n d v := by
  obtain ⟨cfS, iS, kS, fS, st, cS, t1, t2, t3, t4, t5, t6, t7⟩ := S
  exact StaticIs.there (s := { Z with heap := U.heap }) ⟨cfS, iS, kS, fS, st, cS, t1, t2, t3, t4, t5, (fun q => by rw [q] at t6; cases t6), t7⟩ al rfl
end StrChars.Road
namespace StrChars
open Jvm Sem ClassFile Op Lib Jvm.Stand Jvm.Free.XT Jvm.Free.ALB Jvm.Free.JM Jvm.Free
open Jvm.Lib.Cold (StaticIs)
/-- what place i of a byte[]'s cell holds -/
def yv (A : Cell) (i : Nat) : Int32 := match A.slots[i]? with | some (.int x) => x | _ => 0
theorem yv_get {a : Addr} {A : Cell} {U : State} (h : XT.Arr .byte a A U) (ht : Typed .byte A) {i : Nat} (hi : i < A.slots.size) : A.slots[i]? = some (.int (yv A i)) := by
  have e := Array.getElem?_eq_getElem hi
  have f := ht i _ e
  unfold yv; rw [e]
  generalize A.slots[i] = v at f
  cases v <;> simp [fits] at f ⊢
/-- the two arrays are equal, place for place -/
def EqC (A B : Cell) : Prop := A.slots.size = B.slots.size ∧ ∀ i, i < A.slots.size → yv A i = yv B i
/-- a boolean that says whether p -/
def Says01 (q : Prop) (r : Option Value) (s u : State) : Prop := ∃ v : Int32, r = some (.int v) ∧ u.heap = s.heap ∧ ((v = 1 ∧ q) ∨ (v = 0 ∧ ¬ q))
theorem Says01.mv {q : Prop} : ∀ r (U U' V V' : State), U'.heap = U.heap → V.vm.Alike V'.vm → V'.heap = V.heap → Says01 q r U V → Says01 q r U' V' :=
  fun r U U' V V' h1 _ h2 ⟨v, a, b, c⟩ => ⟨v, a, by rw [h1, h2]; exact b, c⟩
namespace LEq
def yN : MethodName := ⟨"java/lang/StringLatin1", "equals", "([B[B)Z"⟩
abbrev yB : ByteArray := jdk_43_method_13_code
theorem d0 : decode yB 0 = .ok (.aload_n 0, 1) := by decide +kernel
theorem d1 : decode yB 1 = .ok (.arraylength, 1) := by decide +kernel
theorem d2 : decode yB 2 = .ok (.aload_n 1, 1) := by decide +kernel
theorem d3 : decode yB 3 = .ok (.arraylength, 1) := by decide +kernel
theorem d4 : decode yB 4 = .ok (.if_icmp (.ne) 30, 3) := by decide +kernel
theorem d7 : decode yB 7 = .ok (.iconst 0, 1) := by decide +kernel
theorem d8 : decode yB 8 = .ok (.istore_n 2, 1) := by decide +kernel
theorem d9 : decode yB 9 = .ok (.iload_n 2, 1) := by decide +kernel
theorem d10 : decode yB 10 = .ok (.aload_n 0, 1) := by decide +kernel
theorem d11 : decode yB 11 = .ok (.arraylength, 1) := by decide +kernel
theorem d12 : decode yB 12 = .ok (.if_icmp (.ge) 20, 3) := by decide +kernel
theorem d15 : decode yB 15 = .ok (.aload_n 0, 1) := by decide +kernel
theorem d16 : decode yB 16 = .ok (.iload_n 2, 1) := by decide +kernel
theorem d17 : decode yB 17 = .ok (.baload, 1) := by decide +kernel
theorem d18 : decode yB 18 = .ok (.aload_n 1, 1) := by decide +kernel
theorem d19 : decode yB 19 = .ok (.iload_n 2, 1) := by decide +kernel
theorem d20 : decode yB 20 = .ok (.baload, 1) := by decide +kernel
theorem d21 : decode yB 21 = .ok (.if_icmp (.eq) 5, 3) := by decide +kernel
theorem d24 : decode yB 24 = .ok (.iconst 0, 1) := by decide +kernel
theorem d25 : decode yB 25 = .ok (.ireturn, 1) := by decide +kernel
theorem d26 : decode yB 26 = .ok (.iinc 2 1, 3) := by decide +kernel
theorem d29 : decode yB 29 = .ok (.goto (-20), 3) := by decide +kernel
theorem d32 : decode yB 32 = .ok (.iconst 1, 1) := by decide +kernel
theorem d33 : decode yB 33 = .ok (.ireturn, 1) := by decide +kernel
theorem d34 : decode yB 34 = .ok (.iconst 0, 1) := by decide +kernel
theorem d35 : decode yB 35 = .ok (.ireturn, 1) := by decide +kernel
def site : List Cond := []
def tab : Cond := tabOf yN yB 3 (some .boolean) site
def P (a : Addr) (A : Cell) (b : Addr) (B : Cell) (args : Array Value) (s : State) : Prop := args = #[.ref a, .ref b] ∧ XT.Arr .byte a A s ∧ Typed .byte A ∧ XT.Arr .byte b B s ∧ Typed .byte B
/-- whether two byte[] are equal, place for place -/
theorem law (l : Launch) (a : Addr) (A : Cell) (b : Addr) (B : Cell) : Law l yN 2 2 0 0 yB 3 (some .boolean) site (P a A b B) (Says01 (EqC A B)) [] 0 0 := by
  refine Law.of_walk (plainFor_of_name (by decide +kernel)) (by decide +kernel) (by decide +kernel) (by decide) (fun _ _ h => by rw [h.1]; rfl) (fun _ U U' hal hh h => ⟨h.1, h.2.1.mv hal hh, h.2.2.1, h.2.2.2.1.mv hal hh, h.2.2.2.2⟩) (fun r U U' V V' h1 hal h2 h => Says01.mv r U U' V V' h1 hal h2 h) ?_
  intro p e s m args below meth c s₁ X0 hexec hbytes hml hret hlk hnm hown hh0 W hP
  obtain ⟨rfl, hA, tA, hB, tB⟩ := hP
  have a31 := hA.2.2.2
  have b31 := hB.2.2.2
  have hA0 := hA.mv X0.warmed.alike hh0
  have hB0 := hB.mv X0.warmed.alike hh0
  have c1 : Steps p.tables e below (s₁.setTop (entryFrame m #[.ref a, .ref b] 3)) (s₁.setTop (mkF m 0 #[.val (.ref a), .val (.ref b), .unset] [])) := entry rfl
  have c2 : Steps p.tables e below (s₁.setTop (entryFrame m #[.ref a, .ref b] 3)) (s₁.setTop (mkF m 4 #[.val (.ref a), .val (.ref b), .unset] [.int (Int32.ofNat B.slots.size), .int (Int32.ofNat A.slots.size)])) := c1.trans (by
    refine XS.aloadN X0.here hexec rfl (hb hbytes d0) rfl rfl ?_
    refine X0.alen hexec hA0 rfl rfl (hb hbytes d1) ?_
    refine XS.aloadN X0.here hexec rfl (hb hbytes d2) rfl rfl ?_
    refine X0.alen hexec hB0 rfl rfl (hb hbytes d3) ?_
    exact Steps.refl _)
  by_cases hs : A.slots.size = B.slots.size
  · have c3 : Steps p.tables e below (s₁.setTop (entryFrame m #[.ref a, .ref b] 3)) (s₁.setTop (mkF m 9 #[.val (.ref a), .val (.ref b), .val (.int 0)] [])) := c2.trans (by
      refine XS.icmpNo X0.here hexec rfl (hb hbytes d4) rfl (ii_ne_f (by rw [hs])) ?_
      refine iconstV X0.here hexec rfl 0 (hb hbytes d7) (by decide) ?_
      refine XS.istoreN X0.here hexec rfl (hb hbytes d8) rfl rfl ?_
      exact Steps.refl _)
    have loop : ∀ (r i : Nat), i + r = A.slots.size → (∀ j, j < i → yv A j = yv B j) → Steps p.tables e below (s₁.setTop (entryFrame m #[.ref a, .ref b] 3)) (s₁.setTop (mkF m 9 #[.val (.ref a), .val (.ref b), .val (.int (Int32.ofNat i))] [])) → ∃ (pc : Nat) (Ls : Array Slot) (v : Int32), (pc = 25 ∨ pc = 33) ∧ ((v = 1 ∧ EqC A B) ∨ (v = 0 ∧ ¬ EqC A B)) ∧ Steps p.tables e below (s₁.setTop (entryFrame m #[.ref a, .ref b] 3)) (s₁.setTop (mkF m pc Ls [.int v])) := by
      intro r
      induction r with
      | zero =>
        intro i hi he cl
        exact ⟨33, _, 1, Or.inr rfl, Or.inl ⟨rfl, hs, fun j hj => he j (by omega)⟩, cl.trans (by
          refine XS.iloadN X0.here hexec rfl (hb hbytes d9) rfl ?_
          refine XS.aloadN X0.here hexec rfl (hb hbytes d10) rfl rfl ?_
          refine X0.alen hexec hA0 rfl rfl (hb hbytes d11) ?_
          refine XS.icmpYes X0.here hexec rfl (pc0 := 12) rfl (hb hbytes d12) rfl (ii_ge_t (nlt32 (by omega) (by omega))) (by decide) rfl ?_
          refine iconstV X0.here hexec rfl 1 (hb hbytes d32) (by decide) ?_
          exact Steps.refl _)⟩
      | succ r ih =>
        intro i hi he cl
        have c4 : Steps p.tables e below (s₁.setTop (entryFrame m #[.ref a, .ref b] 3)) (s₁.setTop (mkF m 21 #[.val (.ref a), .val (.ref b), .val (.int (Int32.ofNat i))] [.int (yv B i), .int (yv A i)])) := cl.trans (by
          refine XS.iloadN X0.here hexec rfl (hb hbytes d9) rfl ?_
          refine XS.aloadN X0.here hexec rfl (hb hbytes d10) rfl rfl ?_
          refine X0.alen hexec hA0 rfl rfl (hb hbytes d11) ?_
          refine XS.icmpNo X0.here hexec rfl (hb hbytes d12) rfl (ii_ge_f (lt32 (by omega) (by omega))) ?_
          refine XS.aloadN X0.here hexec rfl (hb hbytes d15) rfl rfl ?_
          refine XS.iloadN X0.here hexec rfl (hb hbytes d16) rfl ?_
          refine X0.aget hexec hA0 rfl (yv_get hA tA (i := i) (by omega)) rfl rfl (hb hbytes d17) ?_
          refine XS.aloadN X0.here hexec rfl (hb hbytes d18) rfl rfl ?_
          refine XS.iloadN X0.here hexec rfl (hb hbytes d19) rfl ?_
          refine X0.aget hexec hB0 rfl (yv_get hB tB (i := i) (by omega)) rfl rfl (hb hbytes d20) ?_
          exact Steps.refl _)
        by_cases hv : yv A i = yv B i
        · have c5 : Steps p.tables e below (s₁.setTop (entryFrame m #[.ref a, .ref b] 3)) (s₁.setTop (mkF m 9 #[.val (.ref a), .val (.ref b), .val (.int (Int32.ofNat i + 1))] [])) := c4.trans (by
            refine XS.icmpYes X0.here hexec rfl (pc0 := 21) rfl (hb hbytes d21) rfl (ii_eq_t hv) (by decide) rfl ?_
            refine iincV X0.here hexec rfl 1 (hb hbytes d26) (by decide) rfl rfl ?_
            refine XS.goto X0.here hexec rfl (pc0 := 29) rfl (hb hbytes d29) (by decide) rfl ?_
            exact Steps.refl _)
          rw [succ32] at c5
          exact ih (i + 1) (by omega) (fun j hj => by
            by_cases e : j = i
            · rw [e]; exact hv
            · exact he j (by omega)) c5
        · exact ⟨25, _, 0, Or.inl rfl, Or.inr ⟨rfl, fun q => hv (q.2 i (by omega))⟩, c4.trans (by
            refine XS.icmpNo X0.here hexec rfl (hb hbytes d21) rfl (ii_eq_f hv) ?_
            refine iconstV X0.here hexec rfl 0 (hb hbytes d24) (by decide) ?_
            exact Steps.refl _)⟩
    obtain ⟨pc, Ls, v, hpc, hv, cz⟩ := loop A.slots.size 0 (by omega) (fun j hj => absurd hj (Nat.not_lt_zero j)) c3
    have nv : narrow .boolean (.int v) = .int v := by rcases hv with ⟨rfl, -⟩ | ⟨rfl, -⟩ <;> rfl
    rcases hpc with rfl | rfl
    · exact ⟨s₁, some (.int v), _, _, _, X0, rfl, rfl, rfl, (fun h => by cases h), ⟨v, rfl, hh0, hv⟩, fun fs hl => cz.trans (X0.ireturnOut hexec hret nv (Or.inr (Or.inl rfl)) (hb hbytes d25) hl)⟩
    · exact ⟨s₁, some (.int v), _, _, _, X0, rfl, rfl, rfl, (fun h => by cases h), ⟨v, rfl, hh0, hv⟩, fun fs hl => cz.trans (X0.ireturnOut hexec hret nv (Or.inr (Or.inl rfl)) (hb hbytes d33) hl)⟩
  · have c3 : Steps p.tables e below (s₁.setTop (entryFrame m #[.ref a, .ref b] 3)) (s₁.setTop (mkF m 35 #[.val (.ref a), .val (.ref b), .unset] [.int 0])) := c2.trans (by
      refine XS.icmpYes X0.here hexec rfl (pc0 := 4) rfl (hb hbytes d4) rfl (ii_ne_t (ne32 a31 b31 hs)) (by decide) rfl ?_
      refine iconstV X0.here hexec rfl 0 (hb hbytes d34) (by decide) ?_
      exact Steps.refl _)
    exact ⟨s₁, some (.int 0), _, _, _, X0, rfl, rfl, rfl, (fun h => by cases h), ⟨0, rfl, hh0, Or.inr ⟨rfl, fun q => hs q.1⟩⟩, fun fs hl => c3.trans (X0.ireturnOut hexec hret rfl (Or.inr (Or.inl rfl)) (hb hbytes d35) hl)⟩
end LEq
theorem Cod.ty {cd : Int32} {n : Nat} {f : Nat → Int32} {V : Cell} (h : Cod cd n f V) : Typed .byte V := fun i v hv => by
  have hi : i < V.slots.size := (Array.getElem?_eq_some_iff.mp hv).1
  rcases h with ⟨-, k1, k2⟩ | ⟨-, k1, k2, -⟩
  · rw [(k2 i (by omega)).1] at hv; cases hv; exact fits_lo8 _
  · rcases Nat.mod_two_eq_zero_or_one i with e | e
    · obtain ⟨j, rfl⟩ : ∃ j, i = 2 * j := ⟨i / 2, by omega⟩
      rw [(k2 j (by omega)).1] at hv; cases hv; exact fits_lo8 _
    · obtain ⟨j, rfl⟩ : ∃ j, i = 2 * j + 1 := ⟨i / 2, by omega⟩
      rw [(k2 j (by omega)).2] at hv; cases hv; exact fits_lo8 _
/-- the same text -/
def SameT (n : Nat) (f : Nat → Int32) (k : Nat) (g : Nat → Int32) : Prop := n = k ∧ ∀ j, j < n → f j = g j
theorem lo8_inj {x y : Int32} (h0 : ¬ x < 0) (h1 : ¬ 255 < x) (k0 : ¬ y < 0) (k1 : ¬ 255 < y) (h : lo8 x = lo8 y) : x = y := by
  rw [← lo8_mask h0 h1, ← lo8_mask k0 k1, h]
/-- arrays coded by one coder are equal just where the texts are -/
theorem Cod.eqv {cd : Int32} {n k : Nat} {f g : Nat → Int32} {V V' : Cell} (h : Cod cd n f V) (h' : Cod cd k g V') (hf : ∀ j, j < n → ¬ f j < 0 ∧ ¬ 65535 < f j) (hg : ∀ j, j < k → ¬ g j < 0 ∧ ¬ 65535 < g j) : EqC V V' ↔ SameT n f k g := by
  have yvv : ∀ {W : Cell} {i : Nat} {x : Int32}, W.slots[i]? = some (.int x) → yv W i = x := fun q => by unfold yv; rw [q]
  rcases h with ⟨rfl, k1, k2⟩ | ⟨rfl, k1, k2, -⟩
  · rcases h' with ⟨-, m1, m2⟩ | ⟨e, -⟩
    · constructor
      · rintro ⟨e1, e2⟩
        refine ⟨by omega, fun j hj => ?_⟩
        have q := e2 j (by omega)
        rw [yvv (k2 j hj).1, yvv (m2 j (by omega)).1] at q
        exact lo8_inj (hf j hj).1 (k2 j hj).2 (hg j (by omega)).1 (m2 j (by omega)).2 q
      · rintro ⟨rfl, e2⟩
        refine ⟨by omega, fun j hj => ?_⟩
        rw [yvv (k2 j (by omega)).1, yvv (m2 j (by omega)).1, e2 j (by omega)]
    · exact absurd e (by decide)
  · rcases h' with ⟨e, -⟩ | ⟨-, m1, m2, -⟩
    · exact absurd e (by decide)
    · constructor
      · rintro ⟨e1, e2⟩
        refine ⟨by omega, fun j hj => ?_⟩
        have q1 := e2 (2 * j) (by omega)
        have q2 := e2 (2 * j + 1) (by omega)
        rw [yvv (k2 j hj).1, yvv (m2 j (by omega)).1] at q1
        rw [yvv (k2 j hj).2, yvv (m2 j (by omega)).2] at q2
        rw [← pair_says (hf j hj).1 (hf j hj).2, ← pair_says (hg j (by omega)).1 (hg j (by omega)).2, q1, q2]
      · rintro ⟨rfl, e2⟩
        refine ⟨by omega, fun i hi => ?_⟩
        rcases Nat.mod_two_eq_zero_or_one i with e | e
        · obtain ⟨j, rfl⟩ : ∃ j, i = 2 * j := ⟨i / 2, by omega⟩
          rw [yvv (k2 j (by omega)).1, yvv (m2 j (by omega)).1, e2 j (by omega)]
        · obtain ⟨j, rfl⟩ : ∃ j, i = 2 * j + 1 := ⟨i / 2, by omega⟩
          rw [yvv (k2 j (by omega)).2, yvv (m2 j (by omega)).2, e2 j (by omega)]
/-- two codings differ: so do the texts -/
theorem Cod.dif {cd cd' : Int32} {n k : Nat} {f g : Nat → Int32} {V V' : Cell} (h : Cod cd n f V) (h' : Cod cd' k g V') (hne : ¬ cd = cd') : ¬ SameT n f k g := by
  rintro ⟨rfl, e⟩
  rcases h with ⟨rfl, -, k2⟩ | ⟨rfl, -, -, j, hj, hw⟩
  · rcases h' with ⟨rfl, -⟩ | ⟨-, -, -, j, hj, hw⟩
    · exact hne rfl
    · exact (k2 j hj).2 (by rw [e j hj]; exact hw)
  · rcases h' with ⟨-, -, m2⟩ | ⟨rfl, -⟩
    · exact (m2 j hj).2 (by rw [← e j hj]; exact hw)
    · exact hne rfl
/-- an object of exactly C is an instance of C -/
theorem cinst {p : Program} {l : Launch} {e : Env} {R : Room} {s : State} {m : MethodId} {args : Array Value} {below : List Frame} {meth : Method} {c : Code} {T : State} {locs : List Loc} {cells slots : Nat} (X : Stand p l e R s m args below meth c T locs cells slots) (hexec : p.tables.exec = Jvm.exec) {own C : String} {index : Nat} (hown : s.vm.findClass own = some m.cls) (hlink : (Cond.classLink own index C).before args s = true) {a : Addr} (hE : Exact C a T)
    {g : JFrame} (hg : g.method = m) {rest : List Value} (hstack : g.stack = .ref a :: rest) (hdg : decode c.code g.pc = .ok (.instanceof index, 3)) :
    ∃ T', Stand p l e R s m args below meth c T' locs cells slots ∧ T'.heap = T.heap ∧ ∀ target, Steps p.tables e below (T'.setTop { g with pc := g.pc + 3, stack := .int 1 :: rest }) target → Steps p.tables e below (T.setTop g) target := by
  obtain ⟨cB, h1, D, h2, h3, h4⟩ := hE
  have h1' : s.vm.findClass C = some cB := by rw [← X.warmed.alike.findClass]; exact h1
  obtain ⟨vm', X', st⟩ := X.instanceofYes hexec hown hlink h2 h4 h1' (by rw [h3]; exact Jvm.Free.SB.assignable_self _ _) hg hstack hdg
  exact ⟨_, X', rfl, st⟩
theorem cself {p : Program} {l : Launch} {e : Env} {R : Room} {s : State} {m : MethodId} {args : Array Value} {below : List Frame} {meth : Method} {c : Code} {T : State} {locs : List Loc} {cells slots : Nat} (X : Stand p l e R s m args below meth c T locs cells slots) (hexec : p.tables.exec = Jvm.exec) {own C : String} {index : Nat} (hown : s.vm.findClass own = some m.cls) (hlink : (Cond.classLink own index C).before args s = true) {a : Addr} (hE : Exact C a T)
    {g : JFrame} (hg : g.method = m) {rest : List Value} (hstack : g.stack = .ref a :: rest) (hdg : decode c.code g.pc = .ok (.checkcast index, 3)) :
    ∃ T', Stand p l e R s m args below meth c T' locs cells slots ∧ T'.heap = T.heap ∧ ∀ target, Steps p.tables e below (T'.setTop { g with pc := g.pc + 3, stack := .ref a :: rest }) target → Steps p.tables e below (T.setTop g) target := by
  obtain ⟨cB, h1, D, h2, h3, h4⟩ := hE
  have h1' : s.vm.findClass C = some cB := by rw [← X.warmed.alike.findClass]; exact h1
  obtain ⟨vm', X', st⟩ := X.checkcastYes hexec hown hlink h2 h4 h1' (by rw [h3]; exact Jvm.Free.SB.assignable_self _ _) hg hstack hdg
  exact ⟨_, X', rfl, fun t h => st t (by rw [← hstack] at h; exact h)⟩
namespace SEq
def yN : MethodName := ⟨"java/lang/String", "equals", "(Ljava/lang/Object;)Z"⟩
abbrev yB : ByteArray := jdk_42_method_66_code
theorem d0 : decode yB 0 = .ok (.aload_n 0, 1) := by decide +kernel
theorem d1 : decode yB 1 = .ok (.aload_n 1, 1) := by decide +kernel
theorem d2 : decode yB 2 = .ok (.if_acmp (.ne) 5, 3) := by decide +kernel
theorem d5 : decode yB 5 = .ok (.iconst 1, 1) := by decide +kernel
theorem d6 : decode yB 6 = .ok (.ireturn, 1) := by decide +kernel
theorem d7 : decode yB 7 = .ok (.aload_n 1, 1) := by decide +kernel
theorem d8 : decode yB 8 = .ok (.instanceof 10, 3) := by decide +kernel
theorem d11 : decode yB 11 = .ok (.ifCond (.eq) 43, 3) := by decide +kernel
theorem d14 : decode yB 14 = .ok (.aload_n 1, 1) := by decide +kernel
theorem d15 : decode yB 15 = .ok (.checkcast 10, 3) := by decide +kernel
theorem d18 : decode yB 18 = .ok (.astore_n 2, 1) := by decide +kernel
theorem d19 : decode yB 19 = .ok (.getstatic 38, 3) := by decide +kernel
theorem d22 : decode yB 22 = .ok (.ifCond (.eq) 14, 3) := by decide +kernel
theorem d25 : decode yB 25 = .ok (.aload_n 0, 1) := by decide +kernel
theorem d26 : decode yB 26 = .ok (.getfield 15, 3) := by decide +kernel
theorem d29 : decode yB 29 = .ok (.aload_n 2, 1) := by decide +kernel
theorem d30 : decode yB 30 = .ok (.getfield 15, 3) := by decide +kernel
theorem d33 : decode yB 33 = .ok (.if_icmp (.ne) 21, 3) := by decide +kernel
theorem d36 : decode yB 36 = .ok (.aload_n 0, 1) := by decide +kernel
theorem d37 : decode yB 37 = .ok (.getfield 9, 3) := by decide +kernel
theorem d40 : decode yB 40 = .ok (.aload_n 2, 1) := by decide +kernel
theorem d41 : decode yB 41 = .ok (.getfield 9, 3) := by decide +kernel
theorem d44 : decode yB 44 = .ok (.invokestatic 541, 3) := by decide +kernel
theorem d47 : decode yB 47 = .ok (.ifCond (.eq) 7, 3) := by decide +kernel
theorem d50 : decode yB 50 = .ok (.iconst 1, 1) := by decide +kernel
theorem d51 : decode yB 51 = .ok (.goto 4, 3) := by decide +kernel
theorem d54 : decode yB 54 = .ok (.iconst 0, 1) := by decide +kernel
theorem d55 : decode yB 55 = .ok (.ireturn, 1) := by decide +kernel
def site : List Cond := [.classLink "java/lang/String" 10 "java/lang/String", .fieldLink "java/lang/String" 38 "java/lang/String" "COMPACT_STRINGS" "Z", .fieldLink "java/lang/String" 15 "java/lang/String" "coder" "B", .fieldLink "java/lang/String" 9 "java/lang/String" "value" "[B", LEq.tab] ++ staticW "java/lang/String" 541 LEq.yN
def tab : Cond := tabOf yN yB 3 (some .boolean) site
def P (x t : Addr) (V : Cell) (cd : Int32) (n : Nat) (f : Nat → Int32) (y t' : Addr) (V' : Cell) (cd' : Int32) (k : Nat) (g : Nat → Int32) (z : Int32) (args : Array Value) (s : State) : Prop := args = #[.ref x, .ref y] ∧ Txt x t V cd n f s ∧ Txt y t' V' cd' k g s ∧ StaticIs s "java/lang/String" "COMPACT_STRINGS" "Z" (.int z) ∧ ¬ z = 0
/-- equals(Object) of two Strings: whether the texts are the same -/
theorem law (l : Launch) (x t : Addr) (V : Cell) (cd : Int32) (n : Nat) (f : Nat → Int32) (y t' : Addr) (V' : Cell) (cd' : Int32) (k : Nat) (g : Nat → Int32) (z : Int32) : Law l yN 2 1 1 14 yB 3 (some .boolean) site (P x t V cd n f y t' V' cd' k g z) (Says01 (SameT n f k g)) [] 0 0 := by
  refine Law.of_walk (plainFor_of_name (by decide +kernel)) (by decide +kernel) (by decide +kernel) (by decide) (fun _ _ h => by rw [h.1]; rfl) (fun _ U U' hal hh h => ⟨h.1, h.2.1.mv hal hh, h.2.2.1.mv hal hh, h.2.2.2.1.there hal hh, h.2.2.2.2⟩) (fun r U U' V V' h1 hal h2 h => Says01.mv r U U' V V' h1 hal h2 h) ?_
  intro p e s m args below meth c s₁ X0 hexec hbytes hml hret hlk hnm hown hh0 W hP
  obtain ⟨rfl, hx, hy, s1, hz⟩ := hP
  have c1 : Steps p.tables e below (s₁.setTop (entryFrame m #[.ref x, .ref y] 3)) (s₁.setTop (mkF m 2 #[.val (.ref x), .val (.ref y), .unset] [.ref y, .ref x])) := Steps.trans (entry rfl) (by
    show Steps p.tables e below (s₁.setTop (mkF m 0 #[.val (.ref x), .val (.ref y), .unset] [])) _
    refine XS.aloadN X0.here hexec rfl (hb hbytes d0) rfl rfl ?_
    refine XS.aloadN X0.here hexec rfl (hb hbytes d1) rfl rfl ?_
    exact Steps.refl _)
  by_cases hxy : x = y
  · have c2 : Steps p.tables e below (s₁.setTop (entryFrame m #[.ref x, .ref y] 3)) (s₁.setTop (mkF m 6 #[.val (.ref x), .val (.ref y), .unset] [.int 1])) := c1.trans (by
      refine acmpNo X0.here hexec rfl (hb hbytes d2) rfl rfl rfl (by simp [acmp, hxy]) ?_
      refine iconstV X0.here hexec rfl 1 (hb hbytes d5) (by decide) ?_
      exact Steps.refl _)
    subst hxy
    have ec : cd = cd' := by
      obtain ⟨D, fd, a1, a2, a3⟩ := hx.2.2.1
      obtain ⟨D', fd', b1, b2, b3⟩ := hy.2.2.1
      cases a1.symm.trans b1
      obtain ⟨q1, q2, q3, q4⟩ := a2.1
      obtain ⟨r1, r2, r3, r4⟩ := b2.1
      cases q4.symm.trans r4
      cases a3.symm.trans b3; rfl
    have et : t = t' := by
      obtain ⟨D, fd, a1, a2, a3⟩ := hx.2.1
      obtain ⟨D', fd', b1, b2, b3⟩ := hy.2.1
      cases a1.symm.trans b1
      obtain ⟨q1, q2, q3, q4⟩ := a2.1
      obtain ⟨r1, r2, r3, r4⟩ := b2.1
      cases q4.symm.trans r4
      cases a3.symm.trans b3; rfl
    subst ec et
    have ev : V = V' := by cases hx.2.2.2.1.1.symm.trans hy.2.2.2.1.1; rfl
    subst ev
    have hs : SameT n f k g := (Cod.eqv hx.2.2.2.2.1 hy.2.2.2.2.1 hx.2.2.2.2.2 hy.2.2.2.2.2).mp ⟨rfl, fun _ _ => rfl⟩
    exact ⟨s₁, some (.int 1), _, _, _, X0, rfl, rfl, rfl, (fun h => by cases h), ⟨1, rfl, hh0, Or.inl ⟨rfl, hs⟩⟩, fun fs hl => c2.trans (X0.ireturnOut hexec hret rfl (Or.inr (Or.inl rfl)) (hb hbytes d6) hl)⟩
  · have c2 : Steps p.tables e below (s₁.setTop (entryFrame m #[.ref x, .ref y] 3)) (s₁.setTop (mkF m 8 #[.val (.ref x), .val (.ref y), .unset] [.ref y])) := c1.trans (by
      refine acmpYes X0.here hexec rfl (pc0 := 2) rfl (hb hbytes d2) rfl rfl rfl (by simp [acmp, hxy]) (by decide) rfl ?_
      refine XS.aloadN X0.here hexec rfl (hb hbytes d7) rfl rfl ?_
      exact Steps.refl _)
    obtain ⟨T3, X3, q3, st3⟩ := cinst X0 hexec hown (wk W (.classLink "java/lang/String" 10 "java/lang/String")) (hy.mv X0.warmed.alike hh0).1 (g := (mkF m 8 #[.val (.ref x), .val (.ref y), .unset] [.ref y])) rfl (rest := []) rfl (hb hbytes d8)
    have hh3 := q3.trans hh0
    have c4 : Steps p.tables e below (s₁.setTop (entryFrame m #[.ref x, .ref y] 3)) (T3.setTop (mkF m 15 #[.val (.ref x), .val (.ref y), .unset] [.ref y])) := (c2.trans (st3 _ (Steps.refl _))).trans (by
      refine XS.ifNo X3.here hexec rfl (hb hbytes d11) rfl (i0_eq_f (by decide)) ?_
      refine XS.aloadN X3.here hexec rfl (hb hbytes d14) rfl rfl ?_
      exact Steps.refl _)
    obtain ⟨T5, X5, q5, st5⟩ := cself X3 hexec hown (wk W (.classLink "java/lang/String" 10 "java/lang/String")) (hy.mv X3.warmed.alike hh3).1 (g := (mkF m 15 #[.val (.ref x), .val (.ref y), .unset] [.ref y])) rfl (rest := []) rfl (hb hbytes d15)
    have hh5 := q5.trans hh3
    have c6 : Steps p.tables e below (s₁.setTop (entryFrame m #[.ref x, .ref y] 3)) (T5.setTop (mkF m 19 #[.val (.ref x), .val (.ref y), .val (.ref y)] [])) := (c4.trans (st5 _ (Steps.refl _))).trans (by
      refine XS.astoreN X5.here hexec rfl (hb hbytes d18) rfl rfl rfl ?_
      exact Steps.refl _)
    obtain ⟨T7, X7, q7, st7⟩ := X5.sget hexec hown (wk W (.fieldLink "java/lang/String" 38 "java/lang/String" "COMPACT_STRINGS" "Z")) s1 (fun _ _ h => by rw [hh5]; exact h) (g := (mkF m 19 #[.val (.ref x), .val (.ref y), .val (.ref y)] [])) rfl (hb hbytes d19)
    have hh7 := q7.trans hh5
    have c8 : Steps p.tables e below (s₁.setTop (entryFrame m #[.ref x, .ref y] 3)) (T7.setTop (mkF m 26 #[.val (.ref x), .val (.ref y), .val (.ref y)] [.ref x])) := (c6.trans (st7 _ (Steps.refl _))).trans (by
      refine XS.ifNo X7.here hexec rfl (hb hbytes d22) rfl (i0_eq_f hz) ?_
      refine XS.aloadN X7.here hexec rfl (hb hbytes d25) rfl rfl ?_
      exact Steps.refl _)
    obtain ⟨T9, X9, q9, st9⟩ := X7.hget hexec hown (wk W (.fieldLink "java/lang/String" 15 "java/lang/String" "coder" "B")) (hx.mv X7.warmed.alike hh7).2.2.1 (g := (mkF m 26 #[.val (.ref x), .val (.ref y), .val (.ref y)] [.ref x])) rfl (rest := []) rfl (hb hbytes d26)
    have hh9 := q9.trans hh7
    have c10 : Steps p.tables e below (s₁.setTop (entryFrame m #[.ref x, .ref y] 3)) (T9.setTop (mkF m 30 #[.val (.ref x), .val (.ref y), .val (.ref y)] [.ref y, .int cd])) := (c8.trans (st9 _ (Steps.refl _))).trans (by
      refine XS.aloadN X9.here hexec rfl (hb hbytes d29) rfl rfl ?_
      exact Steps.refl _)
    obtain ⟨T11, X11, q11, st11⟩ := X9.hget hexec hown (wk W (.fieldLink "java/lang/String" 15 "java/lang/String" "coder" "B")) (hy.mv X9.warmed.alike hh9).2.2.1 (g := (mkF m 30 #[.val (.ref x), .val (.ref y), .val (.ref y)] [.ref y, .int cd])) rfl (rest := [.int cd]) rfl (hb hbytes d30)
    have hh11 := q11.trans hh9
    have c12 : Steps p.tables e below (s₁.setTop (entryFrame m #[.ref x, .ref y] 3)) (T11.setTop (mkF m 33 #[.val (.ref x), .val (.ref y), .val (.ref y)] [.int cd', .int cd])) := c10.trans (st11 _ (Steps.refl _))
    by_cases hcd : cd = cd'
    · subst hcd
      have c13 : Steps p.tables e below (s₁.setTop (entryFrame m #[.ref x, .ref y] 3)) (T11.setTop (mkF m 37 #[.val (.ref x), .val (.ref y), .val (.ref y)] [.ref x])) := c12.trans (by
        refine XS.icmpNo X11.here hexec rfl (hb hbytes d33) rfl (ii_ne_f rfl) ?_
        refine XS.aloadN X11.here hexec rfl (hb hbytes d36) rfl rfl ?_
        exact Steps.refl _)
      obtain ⟨T14, X14, q14, st14⟩ := X11.hget hexec hown (wk W (.fieldLink "java/lang/String" 9 "java/lang/String" "value" "[B")) (hx.mv X11.warmed.alike hh11).2.1 (g := (mkF m 37 #[.val (.ref x), .val (.ref y), .val (.ref y)] [.ref x])) rfl (rest := []) rfl (hb hbytes d37)
      have hh14 := q14.trans hh11
      have c15 : Steps p.tables e below (s₁.setTop (entryFrame m #[.ref x, .ref y] 3)) (T14.setTop (mkF m 41 #[.val (.ref x), .val (.ref y), .val (.ref y)] [.ref y, .ref t])) := (c13.trans (st14 _ (Steps.refl _))).trans (by
        refine XS.aloadN X14.here hexec rfl (hb hbytes d40) rfl rfl ?_
        exact Steps.refl _)
      obtain ⟨T16, X16, q16, st16⟩ := X14.hget hexec hown (wk W (.fieldLink "java/lang/String" 9 "java/lang/String" "value" "[B")) (hy.mv X14.warmed.alike hh14).2.1 (g := (mkF m 41 #[.val (.ref x), .val (.ref y), .val (.ref y)] [.ref y, .ref t])) rfl (rest := [.ref t]) rfl (hb hbytes d41)
      have hh16 := q16.trans hh14
      have c17 : Steps p.tables e below (s₁.setTop (entryFrame m #[.ref x, .ref y] 3)) (T16.setTop (mkF m 44 #[.val (.ref x), .val (.ref y), .val (.ref y)] [.ref t', .ref t])) := c15.trans (st16 _ (Steps.refl _))
      obtain ⟨v18, T18, X18, E18, g18⟩ := X16.callS hexec (LEq.law l t V t' V') hown (wks W (staticW "java/lang/String" 541 LEq.yN)) (wk W LEq.tab) (W := 0) (Nat.le_of_ble_eq_true rfl) (Nat.le_of_ble_eq_true rfl) (Nat.le_refl _) (Nat.le_refl _) (g := (mkF m 44 #[.val (.ref x), .val (.ref y), .val (.ref y)] [.ref t', .ref t])) rfl (by rw [hml]; rfl) c17 (argsL := [.ref t, .ref t']) (rest := []) rfl rfl (by show 2 * 0 + 0 ≤ _; decide) (hb hbytes d44) (⟨rfl, hx.2.2.2.1.mv X16.warmed.alike hh16, hx.2.2.2.2.1.ty, hy.2.2.2.1.mv X16.warmed.alike hh16, hy.2.2.2.2.1.ty⟩)
      obtain ⟨v, rfl, q18, hv⟩ := E18
      have iff := Cod.eqv hx.2.2.2.2.1 hy.2.2.2.2.1 hx.2.2.2.2.2 hy.2.2.2.2.2
      rcases hv with ⟨rfl, he⟩ | ⟨rfl, he⟩
      · have c19 : Steps p.tables e below (s₁.setTop (entryFrame m #[.ref x, .ref y] 3)) (T18.setTop (mkF m 55 #[.val (.ref x), .val (.ref y), .val (.ref y)] [.int 1])) := Steps.trans g18 (by
          refine XS.ifNo X18.here hexec rfl (hb hbytes d47) rfl (i0_eq_f (by decide)) ?_
          refine iconstV X18.here hexec rfl 1 (hb hbytes d50) (by decide) ?_
          refine XS.goto X18.here hexec rfl (pc0 := 51) rfl (hb hbytes d51) (by decide) rfl ?_
          exact Steps.refl _)
        exact ⟨T18, some (.int 1), _, _, _, X18, rfl, rfl, rfl, (fun h => by cases h), ⟨1, rfl, q18.trans hh16, Or.inl ⟨rfl, iff.mp he⟩⟩, fun fs hl => c19.trans (X18.ireturnOut hexec hret rfl (Or.inr (Or.inl rfl)) (hb hbytes d55) hl)⟩
      · have c19 : Steps p.tables e below (s₁.setTop (entryFrame m #[.ref x, .ref y] 3)) (T18.setTop (mkF m 55 #[.val (.ref x), .val (.ref y), .val (.ref y)] [.int 0])) := Steps.trans g18 (by
          refine XS.ifYes X18.here hexec rfl (pc0 := 47) rfl (hb hbytes d47) rfl (i0_eq_t rfl) (by decide) rfl ?_
          refine iconstV X18.here hexec rfl 0 (hb hbytes d54) (by decide) ?_
          exact Steps.refl _)
        exact ⟨T18, some (.int 0), _, _, _, X18, rfl, rfl, rfl, (fun h => by cases h), ⟨0, rfl, q18.trans hh16, Or.inr ⟨rfl, fun q => he (iff.mpr q)⟩⟩, fun fs hl => c19.trans (X18.ireturnOut hexec hret rfl (Or.inr (Or.inl rfl)) (hb hbytes d55) hl)⟩
    · have c13 : Steps p.tables e below (s₁.setTop (entryFrame m #[.ref x, .ref y] 3)) (T11.setTop (mkF m 55 #[.val (.ref x), .val (.ref y), .val (.ref y)] [.int 0])) := c12.trans (by
        refine XS.icmpYes X11.here hexec rfl (pc0 := 33) rfl (hb hbytes d33) rfl (ii_ne_t hcd) (by decide) rfl ?_
        refine iconstV X11.here hexec rfl 0 (hb hbytes d54) (by decide) ?_
        exact Steps.refl _)
      exact ⟨T11, some (.int 0), _, _, _, X11, rfl, rfl, rfl, (fun h => by cases h), ⟨0, rfl, hh11, Or.inr ⟨rfl, Cod.dif hx.2.2.2.2.1 hy.2.2.2.2.1 hcd⟩⟩, fun fs hl => c13.trans (X11.ireturnOut hexec hret rfl (Or.inr (Or.inl rfl)) (hb hbytes d55) hl)⟩
theorem pays {l : Launch} {R : Room} {p : Program} {e : Env} {below : List Frame} {s : State} {sargs : Array Value} {len W : Nat} (x t : Addr) (V : Cell) (cd : Int32) (n : Nat) (f : Nat → Int32) (y t' : Addr) (V' : Cell) (cd' : Int32) (k : Nat) (g : Nat → Int32) (z : Int32) (htab : tab.before sargs s = true) (hfr : 2 ≤ R.frames) (hlo : W + 28 ≤ R.locals) :
    Back l R p e below s sargs yN len W (fun A₁ a₁ => A₁.cells + 0 ≤ R.cells ∧ A₁.slots + 0 ≤ R.slots ∧ P x t V cd n f y t' V' cd' k g z a₁ A₁.U) (fun A₁ _ v₁ B₁ => Says01 (SameT n f k g) v₁ A₁.U B₁.U ∧ B₁.locs = A₁.locs ++ [] ∧ B₁.cells = A₁.cells + 0 ∧ B₁.slots = A₁.slots + 0) :=
  (law l x t V cd n f y t' V' cd' k g z).pays htab hfr (by omega)
end SEq
end StrChars
namespace StrChars.Road
open Jvm Sem ClassFile Op Lib Jvm.Stand Jvm.Free Jvm.Free.XT
open Jvm.Lib.Cold (StaticIs)
/-- the words of String.equals(Object) -/
abbrev wordsEq : List Jvm.Cond := [.code SEq.yN SEq.yB 3 (some .boolean), .initialized ST, .classLink ST 10 ST, .fieldLink ST 38 ST "COMPACT_STRINGS" "Z", .fieldLink ST 15 ST "coder" "B", .fieldLink ST 9 ST "value" "[B", .methodLink ST 541 LEq.yN, .static LEq.yN, .code LEq.yN LEq.yB 3 (some .boolean), .initialized "java/lang/StringLatin1"]
theorem tabEq_of {a : Array Value} {s : State} (h : ∀ w ∈ wordsEq, w.before a s = true) : SEq.tab.before a s = true := by
  have hl : LEq.tab.before a s = true := unparts (wk h (.code LEq.yN LEq.yB 3 (some .boolean))) (wks h (.initialized LEq.yN.cls :: LEq.site))
  have q := consq hl h
  exact unparts (wk q (.code SEq.yN SEq.yB 3 (some .boolean))) (wks q (.initialized SEq.yN.cls :: SEq.site))
theorem movedEq {Z s : State} {a0 args : Array Value} (hZ : Z.Warmed39 s.vm) (hw : ∀ d ∈ wordsEq, d.before a0 Z = true) : ∀ d ∈ wordsEq, d.before args s = true := fun d hd => by
  have t : ∀ d ∈ wordsEq, (d.onTables && d.keepsFace) = true := by decide +kernel
  exact RoadKit.mv hZ (hw d hd) (t d hd)
/-- the road's facts of a String, as the laws ask it -/
theorem txt_of {Z U : State} {a0 : Array Value} {kI : Nat} (wi : (Jvm.Cond.instantiable ST kI).before a0 Z = true) (al : Z.vm.Alike U.vm) {x t : Addr} {kb : ClassId} {cs : List Int32} {cd N2 : Int32} {vs : List Value} (E : RoadKit.Exa Z U.heap x ST) (V : RoadKit.Fld Z U.heap x ST "value" "[B" (.ref t)) (C : RoadKit.Fld Z U.heap x ST "coder" "B" (.int cd)) (K : RoadKit.Arv Z U.heap t kb .byte N2 vs (.int 0)) (hc : CodA cs cd N2 vs) (hb : ∀ c ∈ cs, ¬ c < 0 ∧ ¬ (65535 : Int32) < c) (l2 : cs.length ≤ 4000) :
    ∃ A, Txt x t A cd cs.length (fun j => cs.getD j 0) U := by
  obtain ⟨A, K1, K2, K3, K4, K5, K6⟩ := K
  have hcod := hc.cod (by omega) K3 K5
  obtain ⟨D, fV, fC, hB, F1, F2, g1, g2, -, -⟩ := strObj wi al E V C
  exact ⟨A, ⟨_, hB.2.2.1, D, hB.1, rfl, by cases q : D.vm <;> first | rfl | exact absurd q (hB.2.1.2 _)⟩, Has.of hB F1 g1, Has.of hB F2 g2, ⟨K1.1, State.isArrayOf_alike al K1.2.1, K1.2.2, by rcases hcod with ⟨-, q, -⟩ | ⟨-, q, -⟩ <;> omega⟩, hcod, fun j hj => by
    have e : cs.getD j 0 = cs[j] := by simp [List.getD_eq_getElem?_getD, hj]
    show ¬ cs.getD j 0 < 0 ∧ ¬ 65535 < cs.getD j 0
    rw [e]; exact hb _ (List.getElem_mem _)⟩
theorem same_list (cs ds : List Int32) : SameT cs.length (fun j => cs.getD j 0) ds.length (fun j => ds.getD j 0) ↔ cs = ds := by
  constructor
  · rintro ⟨e, q⟩
    refine List.ext_getElem e fun j h1 h2 => ?_
    have := q j h1
    simpa [List.getD_eq_getElem?_getD, h1, h2] using this
  · rintro rfl
    exact ⟨rfl, fun _ _ => rfl⟩
/-- **equals(Object) OF TWO SUCH STRINGS**: 1 just where the chars are the same -/
theorem eqW {p : Program} {l : Launch} {e : Env} {R : Room} {s : State} {args : Array Value} {below : List Frame} {len W : Nat} {Z : State} {a0 : Array Value} {h : Heap} (hZ : Z.Warmed39 s.vm) (hw : ∀ d ∈ wordsEq, d.before a0 Z = true) {kI : Nat} (wi : (Jvm.Cond.instantiable ST kI).before a0 Z = true)
    {x t : Addr} {kb : ClassId} {cs : List Int32} {cd N2 : Int32} {vs : List Value} (E : RoadKit.Exa Z h x ST) (V : RoadKit.Fld Z h x ST "value" "[B" (.ref t)) (C : RoadKit.Fld Z h x ST "coder" "B" (.int cd)) (K : RoadKit.Arv Z h t kb .byte N2 vs (.int 0)) (hc : CodA cs cd N2 vs) (hb : ∀ c ∈ cs, ¬ c < 0 ∧ ¬ (65535 : Int32) < c) (l2 : cs.length ≤ 4000)
    {y t' : Addr} {kb' : ClassId} {ds : List Int32} {cd' N2' : Int32} {vs' : List Value} (E' : RoadKit.Exa Z h y ST) (V' : RoadKit.Fld Z h y ST "value" "[B" (.ref t')) (C' : RoadKit.Fld Z h y ST "coder" "B" (.int cd')) (K' : RoadKit.Arv Z h t' kb' .byte N2' vs' (.int 0)) (hc' : CodA ds cd' N2' vs') (hb' : ∀ c ∈ ds, ¬ c < 0 ∧ ¬ (65535 : Int32) < c) (l2' : ds.length ≤ 4000)
    {z : Int32} (S : RoadKit.Sta Z h ST "COMPACT_STRINGS" "Z" (.int z)) (hz : ¬ z = 0) (hfr : 2 ≤ R.frames) (hlo : W + 28 ≤ R.locals) :
    Back l R p e below s args (⟨"java/lang/String", "equals", "(Ljava/lang/Object;)Z"⟩ : MethodName) len W (fun P a => a = #[.ref x, .ref y] ∧ P.U.heap = h ∧ P.cells + 0 ≤ R.cells ∧ P.slots + 0 ≤ R.slots)
      (fun P _ v B => ∃ L, (((v = some (.int 1) ∧ cs = ds) ∨ (v = some (.int 0) ∧ ¬ cs = ds)) ∧ L = [] ∧ B.U.heap = h) ∧ B.locs = P.locs ++ L ∧ B.cells = P.cells + 0 ∧ B.slots = P.slots + 0) := by
  intro m meth c P g ig mk a X hg hsize hdg hW hn hp'
  obtain ⟨rfl, rfl, r1, r2⟩ := hp'
  have al : Z.vm.Alike P.U.vm := hZ.alike.trans X.warmed.alike
  obtain ⟨A, hx⟩ := txt_of wi al E V C K hc hb l2
  obtain ⟨A', hy⟩ := txt_of wi al E' V' C' K' hc' hb' l2'
  obtain ⟨v, B, X', ⟨⟨w, hv, hh, hq⟩, hl, hk, hs⟩, st⟩ := SEq.pays x t A cd cs.length (fun j => cs.getD j 0) y t' A' cd' ds.length (fun j => ds.getD j 0) z (tabEq_of (movedEq hZ hw)) hfr hlo m meth c P g ig mk _ X hg hsize hdg hW hn ⟨r1, r2, rfl, hx, hy, sta_is al S, hz⟩
  refine ⟨v, B, X', ⟨[], ⟨?_, rfl, hh⟩, hl, hk, hs⟩, st⟩
  rcases hq with ⟨rfl, q⟩ | ⟨rfl, q⟩
  · exact Or.inl ⟨hv, (same_list cs ds).mp q⟩
  · exact Or.inr ⟨hv, fun e => q ((same_list cs ds).mpr e)⟩
end StrChars.Road
end Jvm.Pilot.@@N@@

namespace Jvm.Pilot.@@N@@
open Jvm Jvm.ClassFile Sem Op Lib Jvm.Free Jvm.Stand Jvm.LawKit Jvm.RoadKit Bundle Jvm.Pilot.@@N@@.Jvm.D
theorem own_gd {l : List Value} {j : Int32} {n : Nat} {d v : Value} (h : j.toNatClampNeg = n) (e : l.getD n d = v) : l.getD j.toNatClampNeg d = v := by rw [h]; exact e
theorem own_lenK {l : List Value} {z : Int32} {n : Nat} (e : l.length = n) (h : z.toNatClampNeg = n) : l.length = z.toNatClampNeg := by rw [e, h]
theorem own_W {n W : Nat} (h : n = W) : 2 * 0 + n ≤ W := by omega
abbrev own_HW (a0 : Array Value) (Z : State) : Prop := ∀ d ∈ tables_1, d.before a0 Z = true
abbrev DK (b : ByteArray) (n : Nat) (i : Instr) (k : Nat) : Prop := decode b n = .ok (i, k)
section OwnFin
variable {p : Program} {l : Launch} {e : Env} {R : Room} {s : State} {m : MethodId} {args : Array Value} {below : List Frame} {meth : Method} {c : Code} {locs : List Loc} {cells slots dc ds : Nat} {s₀ : State} {F : Option Value → JFrame} {Q : Option Value → Heap → List Loc → Prop}
theorem own_fin {g : JFrame} {rest : List Value} (H : ∃ (v : Option Value) (vm₁ : Vm) (B : Pt), s.WarmedH vm₁ ∧ Stand p l e R s m args below meth c B.U B.locs B.cells B.slots ∧ (∃ L, Q v B.U.heap L ∧ B.locs = locs ++ L ∧ B.cells = cells + dc ∧ B.slots = slots + ds) ∧ Steps p.tables e below s₀ (B.U.setTop { g with pc := g.pc + 3, stack := v.toList ++ rest })) :
    ∃ v T' Lc, Stand p l e R s m args below meth c T' (locs ++ Lc) (cells + dc) (slots + ds) ∧ Q v T'.heap Lc ∧ Steps p.tables e below s₀ (T'.setTop { g with pc := g.pc + 3, stack := v.toList ++ rest }) := by
  obtain ⟨v, _, ⟨T', L, k, n⟩, -, X, ⟨Lc, hQ, h1, h2, h3⟩, st⟩ := H
  obtain rfl : L = _ := h1
  obtain rfl : k = _ := h2
  obtain rfl : n = _ := h3
  exact ⟨v, T', Lc, X, hQ, st⟩
theorem own_finI {g : JFrame} {rest : List Value} (H : ∃ (v : Option Value) (vm₁ : Vm) (B : Pt), s.WarmedH vm₁ ∧ Stand p l e R s m args below meth c B.U B.locs B.cells B.slots ∧ (∃ L, Q v B.U.heap L ∧ B.locs = locs ++ L ∧ B.cells = cells + dc ∧ B.slots = slots + ds) ∧ Steps p.tables e below s₀ (B.U.setTop { g with pc := g.pc + 5, stack := v.toList ++ rest })) :
    ∃ v T' Lc, Stand p l e R s m args below meth c T' (locs ++ Lc) (cells + dc) (slots + ds) ∧ Q v T'.heap Lc ∧ Steps p.tables e below s₀ (T'.setTop { g with pc := g.pc + 5, stack := v.toList ++ rest }) := by
  obtain ⟨v, _, ⟨T', L, k, n⟩, -, X, ⟨Lc, hQ, h1, h2, h3⟩, st⟩ := H
  obtain rfl : L = _ := h1
  obtain rfl : k = _ := h2
  obtain rfl : n = _ := h3
  exact ⟨v, T', Lc, X, hQ, st⟩
theorem own_finT {g : JFrame} {rest : List Value} (H : ∃ (v : Option Value) (vm₁ : Vm) (B : Pt), s.WarmedH vm₁ ∧ Stand p l e R s m args below meth c B.U B.locs B.cells B.slots ∧ (∃ L, Q v B.U.heap L ∧ B.locs = locs ++ L ∧ B.cells = cells + dc ∧ B.slots = slots + ds) ∧ ∀ target, Steps p.tables e below (B.U.setTop { g with pc := g.pc + 3, stack := v.toList ++ rest }) target → Steps p.tables e below s₀ target) :
    ∃ v T' Lc, Stand p l e R s m args below meth c T' (locs ++ Lc) (cells + dc) (slots + ds) ∧ Q v T'.heap Lc ∧ ∀ target, Steps p.tables e below (T'.setTop { g with pc := g.pc + 3, stack := v.toList ++ rest }) target → Steps p.tables e below s₀ target := by
  obtain ⟨v, _, ⟨T', L, k, n⟩, -, X, ⟨Lc, hQ, h1, h2, h3⟩, st⟩ := H
  obtain rfl : L = _ := h1
  obtain rfl : k = _ := h2
  obtain rfl : n = _ := h3
  exact ⟨v, T', Lc, X, hQ, st⟩
end OwnFin
abbrev own_MF (l : Launch) (y : MethodName) (b : ByteArray) (ml : Nat) (r : Option FieldType) (ws : List Jvm.Cond) (R : Room) (Z : State) (h0 : Heap) (as : Array Value) (Q : Option Value → Heap → List Loc → Prop) : Prop :=
  MetFree l y (head1 (Jvm.Cond.code y b ml r :: ws) R) (fun a U => a = as ∧ Z.Warmed39 U.vm ∧ U.heap = h0) (fun _ _ _ _ _ => True) (fun _ U o U' => ∃ v L, o = .returned v ∧ Q v U'.heap L ∧ FrameEnd U o U' L R.cells R.slots)
theorem own_open {l : Launch} {y : MethodName} {b : ByteArray} {ml : Nat} {r : Option FieldType} {ws : List Jvm.Cond} {R : Room} {Z : State} {h0 : Heap} {as : Array Value} {Q : Option Value → Heap → List Loc → Prop} (hp : plainFor y = true) {L0 : Array Slot} (hL : ∀ m, entryFrame m as ml = mkF m 0 L0 [])
    (H : ∀ (p : Program) (e : Env) (s : State) (m : MethodId) (below : List Frame) (meth : Method) (c : Code) (s₁ : State), p.tables.exec = Jvm.exec → c.code = b → c.maxLocals = ml → meth.sig.returnType = r → s.methodNamed? y = some m ∧ s.vm.method? m = some meth → Z.Warmed39 s.vm → s.vm.findClass y.cls = some m.cls → Stand p l e R s m as below meth c s₁ [] 0 0 → s₁.heap = h0 →
      ∃ v T L cs sl, (r = none → v = none) ∧ Stand p l e R s m as below meth c T L cs sl ∧ cs ≤ R.cells ∧ sl ≤ R.slots ∧ Q v T.heap L ∧ ∀ fs, (∀ (f : JFrame) (acts : List Action), f.method = m → f.locked = none → f.entered = [] → (doReturn e (T.setTop f) acts v).1 = T.setFrames fs) → Steps p.tables e below (s₁.setTop (mkF m 0 L0 [])) (T.setFrames fs)) :
    own_MF l y b ml r ws R Z h0 as Q := by
  refine MetFree.of_bodySF hp hisR ?_
  intro p e s m args below meth c s₁ Bd hml hP hK
  obtain ⟨rfl, hZ, hh⟩ := hP
  have e0 : s₁.heap = h0 := by rw [← hh, Bd.state]; rfl
  obtain ⟨v, T, L, cs, sl, hv, X, hc, hs, hQ, st⟩ := H p e s m below meth c s₁ Bd.exec Bd.bytes hml Bd.returns ⟨Bd.named, Bd.method⟩ hZ (findClass_of_methodNamed Bd.named) (Stand.of_body Bd) e0
  obtain ⟨fs, hr, hrun, hended, hW, hsame⟩ := X.leave (v := v) (fun q => hv (Bd.returns ▸ q))
  exact ⟨_, _, castTop (hL m) (st fs hr), hrun, hended, v, L, rfl, hQ, ⟨_, rfl⟩, hW, hsame.mono hc hs⟩
section OwnCall
variable {p : Program} {l : Launch} {e : Env} {R : Room} {s : State} {m : MethodId} {args : Array Value} {below : List Frame} {meth : Method} {c : Code} {T : State} {locs : List Loc} {cells slots : Nat} {Z : State} {a0 : Array Value} {h : Heap} {own : String} {index : Nat} {y : MethodName} {bytes : ByteArray} {maxL : Nat} {ret : Option FieldType} {rm : Room} {argsL rest : List Value} {Q : Option Value → Heap → List Loc → Prop} {W : Nat} {g : JFrame}
theorem own_cS (X : Stand p l e R s m args below meth c T locs cells slots) (hx : p.tables.exec = Jvm.exec) (hZ : Z.Warmed39 s.vm) (hown : s.vm.findClass own = some m.cls) (eT : T.heap = h) (hM : own_MF l y bytes maxL ret [] rm Z h argsL.toArray Q)
    (w1 : (Jvm.Cond.methodLink own index y).before a0 Z = true) (w2 : (Jvm.Cond.static y).before a0 Z = true) (w3 : (Jvm.Cond.initialized y.cls).before a0 Z = true) (w4 : (Jvm.Cond.code y bytes maxL ret).before a0 Z = true) (hy : y.cls ≠ "java/lang/invoke/MethodHandle" ∧ y.cls ≠ "java/lang/invoke/VarHandle")
    (hf : rm.frames + 1 ≤ R.frames) (hl : W + (maxL + 11) + rm.locals ≤ R.locals) (hc : cells + rm.cells ≤ R.cells) (hs : slots + rm.slots ≤ R.slots) (hg : g.method = m) (hsize : g.locals.size = c.maxLocals)
    (hlen : ∀ sig, parseMethodDescriptor y.desc = some sig → argsL.length = sig.parameters.length) (hst : g.stack = argsL.reverse ++ rest) (hW : 2 * g.monitorRoom + (rest.map fun v => v.category).sum ≤ W) (hd : decode c.code g.pc = .ok (.invokestatic index, 3)) :
    ∃ v T' Lc, Stand p l e R s m args below meth c T' (locs ++ Lc) (cells + rm.cells) (slots + rm.slots) ∧ Q v T'.heap Lc ∧ ∀ target, Steps p.tables e below (T'.setTop { g with pc := g.pc + 3, stack := v.toList ++ rest }) target → Steps p.tables e below (T.setTop g) target :=
  own_finT (Jvm.LawKit.callS X hx hown (mvT hZ w1) (mvT hZ w2) (mvT hZ w3) (mvT hZ w4) hy (backOf hM hZ w4 w3 hf hl) hg hsize hlen hst hW hd (fun _ _ => ⟨rfl, eT, hc, hs⟩))
theorem own_cV {C : String} {a : Addr} (X : Stand p l e R s m args below meth c T locs cells slots) (hx : p.tables.exec = Jvm.exec) (hZ : Z.Warmed39 s.vm) (hown : s.vm.findClass own = some m.cls) (eT : T.heap = h) (hM : own_MF l y bytes maxL ret [] rm Z h (.ref a :: argsL).toArray Q) (E : Exa Z h a C)
    (w1 : (Jvm.Cond.methodLink own index y).before a0 Z = true) (w2 : (Jvm.Cond.declares y).before a0 Z = true) (w3 : (Jvm.Cond.selects C y y).before a0 Z = true) (w5 : (Jvm.Cond.instanceMethod y).before a0 Z = true) (w4 : (Jvm.Cond.code y bytes maxL ret).before a0 Z = true) (w6 : (Jvm.Cond.initialized y.cls).before a0 Z = true) (hy : y.cls ≠ "java/lang/invoke/MethodHandle" ∧ y.cls ≠ "java/lang/invoke/VarHandle")
    (hf : rm.frames + 1 ≤ R.frames) (hl : W + (maxL + 11) + rm.locals ≤ R.locals) (hc : cells + rm.cells ≤ R.cells) (hs : slots + rm.slots ≤ R.slots) (hg : g.method = m) (hsize : g.locals.size = c.maxLocals)
    (hlen : ∀ sig, parseMethodDescriptor y.desc = some sig → argsL.length = sig.parameters.length) (hst : g.stack = argsL.reverse ++ .ref a :: rest) (hW : 2 * g.monitorRoom + (rest.map fun v => v.category).sum ≤ W) (hd : decode c.code g.pc = .ok (.invokevirtual index, 3)) :
    ∃ v T' Lc, Stand p l e R s m args below meth c T' (locs ++ Lc) (cells + rm.cells) (slots + rm.slots) ∧ Q v T'.heap Lc ∧ ∀ target, Steps p.tables e below (T'.setTop { g with pc := g.pc + 3, stack := v.toList ++ rest }) target → Steps p.tables e below (T.setTop g) target := by
  obtain ⟨cB, kB, q1, q2, q3⟩ := isOf hZ eT E
  obtain ⟨v, T', Lc, X', hQ, st⟩ := own_fin (X.virtualBack hx hown (mvT hZ w1) (mvT hZ w2) (notFace_of_selects (args := #[]) (mvT hZ w3)) (mvT hZ w3) (mvT hZ w5) hy (backOf hM hZ w4 w6 hf hl) q1 q3 hg hsize (Steps.refl _) hlen hst hW hd (fun _ _ => ⟨rfl, eT, hc, hs⟩))
  exact ⟨v, T', Lc, X', hQ, fun t k => st.trans k⟩
theorem own_cI {C : String} {a : Addr} {count : Nat} {xi : MethodName} (X : Stand p l e R s m args below meth c T locs cells slots) (hx : p.tables.exec = Jvm.exec) (hZ : Z.Warmed39 s.vm) (hown : s.vm.findClass own = some m.cls) (eT : T.heap = h) (hM : own_MF l y bytes maxL ret [] rm Z h (.ref a :: argsL).toArray Q) (E : Exa Z h a C)
    (w1 : (Jvm.Cond.methodLink own index xi).before a0 Z = true) (w2 : (Jvm.Cond.declares xi).before a0 Z = true) (w7 : (Jvm.Cond.interfaceMethod xi.cls xi.cls xi.name xi.desc).before a0 Z = true) (w3 : (Jvm.Cond.selects C xi y).before a0 Z = true) (w5 : (Jvm.Cond.instanceMethod y).before a0 Z = true) (w8 : (Jvm.Cond.publicMethod y).before a0 Z = true) (w9 : (Jvm.Cond.unhidden C xi.name xi.desc).before a0 Z = true) (wa : (Jvm.Cond.castable C xi.cls).before a0 Z = true) (w4 : (Jvm.Cond.code y bytes maxL ret).before a0 Z = true) (w6 : (Jvm.Cond.initialized y.cls).before a0 Z = true) (hy : xi.cls ≠ "java/lang/invoke/MethodHandle" ∧ xi.cls ≠ "java/lang/invoke/VarHandle")
    (hf : rm.frames + 1 ≤ R.frames) (hl : W + (maxL + 11) + rm.locals ≤ R.locals) (hc : cells + rm.cells ≤ R.cells) (hs : slots + rm.slots ≤ R.slots) (hg : g.method = m) (hsize : g.locals.size = c.maxLocals)
    (hlen : ∀ sig, parseMethodDescriptor xi.desc = some sig → argsL.length = sig.parameters.length) (hst : g.stack = argsL.reverse ++ .ref a :: rest) (hW : 2 * g.monitorRoom + (rest.map fun v => v.category).sum ≤ W) (hd : decode c.code g.pc = .ok (.invokeinterface index count, 5)) (h7 : ((Jvm.Cond.interfaceMethod xi.cls xi.cls xi.name xi.desc).onTables && (Jvm.Cond.interfaceMethod xi.cls xi.cls xi.name xi.desc).keepsFace) = true := by first | rfl | simp [Cond.onTables, Cond.keepsFace, Cond.keeps, Cond.steady]) :
    ∃ v T' Lc, Stand p l e R s m args below meth c T' (locs ++ Lc) (cells + rm.cells) (slots + rm.slots) ∧ Q v T'.heap Lc ∧ ∀ target, Steps p.tables e below (T'.setTop { g with pc := g.pc + 5, stack := v.toList ++ rest }) target → Steps p.tables e below (T.setTop g) target := by
  obtain ⟨cB, kB, q1, q2, q3⟩ := isOf hZ eT E
  obtain ⟨v, T', Lc, X', hQ, st⟩ := own_finI (X.interfaceBack hx hown (mvT hZ w1) (mvT hZ w2) (mvT hZ w7 h7) (mvT hZ w3) (mvT hZ w5) (mvT hZ w8) (mvT hZ w9) (mvT hZ wa) hy (backOf hM hZ w4 w6 hf hl) q1 q2 q3 hg hsize (Steps.refl _) hlen hst hW hd (fun _ _ => ⟨rfl, eT, hc, hs⟩))
  exact ⟨v, T', Lc, X', hQ, fun t k => st.trans k⟩
end OwnCall
section OwnStep
variable {p : Program} {l : Launch} {e : Env} {R : Room} {s : State} {m : MethodId} {args : Array Value} {below : List Frame} {meth : Method} {c : Code} {T target : State} {locs : List Loc} {cells slots : Nat} {b : ByteArray} {g : JFrame}
theorem qiN (X : Stand p l e R s m args below meth c T locs cells slots) (hx : p.tables.exec = Jvm.exec) (y : c.code = b) {k : Fin 4} {v : Int32} (d : decode b g.pc = .ok (.iload_n k, 1)) (hr : Steps p.tables e below (T.setTop { g with pc := g.pc + 1, stack := .int v :: g.stack }) target) (hg : g.method = m := by rfl) (hl : g.locals[k.val]? = some (.val (.int v)) := by rfl) : Steps p.tables e below (T.setTop g) target := XS.iloadN X.here hx hg (hb y d) hl hr
theorem qi (X : Stand p l e R s m args below meth c T locs cells slots) (hx : p.tables.exec = Jvm.exec) (y : c.code = b) {k : Nat} {v : Int32} (d : decode b g.pc = .ok (.iload k, 2)) (hr : Steps p.tables e below (T.setTop { g with pc := g.pc + 2, stack := .int v :: g.stack }) target) (hg : g.method = m := by rfl) (hl : g.locals[k]? = some (.val (.int v)) := by rfl) : Steps p.tables e below (T.setTop g) target := XS.iload X.here hx hg (hb y d) hl hr
theorem qaN (X : Stand p l e R s m args below meth c T locs cells slots) (hx : p.tables.exec = Jvm.exec) (y : c.code = b) {k : Fin 4} {v : Value} (d : decode b g.pc = .ok (.aload_n k, 1)) (hr : Steps p.tables e below (T.setTop { g with pc := g.pc + 1, stack := v :: g.stack }) target) (hg : g.method = m := by rfl) (hl : g.locals[k.val]? = some (.val v) := by rfl) (hv : v.isRef = true := by rfl) : Steps p.tables e below (T.setTop g) target := XS.aloadN X.here hx hg (hb y d) hl hv hr
theorem qa (X : Stand p l e R s m args below meth c T locs cells slots) (hx : p.tables.exec = Jvm.exec) (y : c.code = b) {k : Nat} {v : Value} (d : decode b g.pc = .ok (.aload k, 2)) (hr : Steps p.tables e below (T.setTop { g with pc := g.pc + 2, stack := v :: g.stack }) target) (hg : g.method = m := by rfl) (hl : g.locals[k]? = some (.val v) := by rfl) (hv : v.isRef = true := by rfl) : Steps p.tables e below (T.setTop g) target := XS.aload X.here hx hg (hb y d) hl hv hr
theorem qc (X : Stand p l e R s m args below meth c T locs cells slots) (hx : p.tables.exec = Jvm.exec) (y : c.code = b) {i : Int} (d : decode b g.pc = .ok (.iconst i, 1)) (hr : Steps p.tables e below (T.setTop { g with pc := g.pc + 1, stack := .int (Int32.ofInt i) :: g.stack }) target) (hg : g.method = m := by rfl) : Steps p.tables e below (T.setTop g) target := XS.iconst X.here hx hg (hb y d) hr
theorem qb (X : Stand p l e R s m args below meth c T locs cells slots) (hx : p.tables.exec = Jvm.exec) (y : c.code = b) {i : Int} (d : decode b g.pc = .ok (.bipush i, 2)) (hr : Steps p.tables e below (T.setTop { g with pc := g.pc + 2, stack := .int (Int8.ofInt i).toInt32 :: g.stack }) target) (hg : g.method = m := by rfl) : Steps p.tables e below (T.setTop g) target := XS.bipush X.here hx hg (hb y d) hr
theorem qd (X : Stand p l e R s m args below meth c T locs cells slots) (hx : p.tables.exec = Jvm.exec) (y : c.code = b) {x : Value} {rest : List Value} (d : decode b g.pc = .ok (.dup, 1)) (hr : Steps p.tables e below (T.setTop { g with pc := g.pc + 1, stack := x :: x :: rest }) target) (hg : g.method = m := by rfl) (hs : g.stack = x :: rest := by rfl) (hc : x.category = 1 := by rfl) : Steps p.tables e below (T.setTop g) target := XS.dup X.here hx hg (hb y d) hs hc hr
end OwnStep
theorem ww {Z : State} {a0 : Array Value} (hw : ∀ d ∈ tables_1, d.before a0 Z = true) (i : Nat) {d : Jvm.Cond} (h : tables_1[i]? = some d) : d.before a0 Z = true := hw d (List.mem_of_getElem? h)
set_option maxRecDepth 65536
set_option maxHeartbeats 40000000
abbrev cs0 : String := "com/example/wiregather/wiregather/wire/FieldType"
abbrev cs1 : String := "[Lcom/example/wiregather/wiregather/wire/FieldType;"
abbrev cs2 : String := "(Ljava/lang/String;)Lcom/example/wiregather/wiregather/wire/FieldType;"
abbrev cs3 : String := "com/example/wiregather/wiregather/wire/FieldTypeOfLabelPinLaw"
abbrev cs4 : String := "Lcom/example/wiregather/wiregather/wire/FieldType;"
abbrev cs5 : String := "(I)Lcom/example/wiregather/wiregather/wire/FieldType;"
abbrev cs6 : String := "jdk/internal/util/Preconditions"
abbrev cs7 : String := "Ljava/util/function/BiFunction;"
abbrev rR1_1_6_14 : Room := { frames := 1, cells := 1, slots := 6, locals := 14 }
abbrev rR0_0_0_0 : Room := { frames := 0, cells := 0, slots := 0, locals := 0 }
abbrev rR2_1_6_25 : Room := { frames := 2, cells := 1, slots := 6, locals := 25 }
abbrev rR4_3_10_66 : Room := { frames := 4, cells := 3, slots := 10, locals := 66 }
abbrev rR2_1_6_28 : Room := { frames := 2, cells := 1, slots := 6, locals := 28 }
abbrev rR4_3_12_66 : Room := { frames := 4, cells := 3, slots := 12, locals := 66 }
abbrev rR1_0_0_14 : Room := { frames := 1, cells := 0, slots := 0, locals := 14 }
abbrev rR2_0_0_27 : Room := { frames := 2, cells := 0, slots := 0, locals := 27 }
abbrev rR3_0_0_40 : Room := { frames := 3, cells := 0, slots := 0, locals := 40 }
abbrev rR4_2_56_70 : Room := { frames := 4, cells := 2, slots := 56, locals := 70 }
abbrev rR1_4_8_12 : Room := { frames := 1, cells := 4, slots := 8, locals := 12 }
abbrev rR2_4_8_29 : Room := { frames := 2, cells := 4, slots := 8, locals := 29 }
abbrev rR3_12_120_40 : Room := { frames := 3, cells := 12, slots := 120, locals := 40 }
abbrev mN0 : MethodName := ⟨cs0, "values", "()[Lcom/example/wiregather/wiregather/wire/FieldType;"⟩
abbrev mN1 : MethodName := ⟨"java/lang/String", "equals", "(Ljava/lang/Object;)Z"⟩
abbrev mN2 : MethodName := ⟨cs0, "ofLabel", cs2⟩
abbrev mN3 : MethodName := ⟨cs3, "labelOf", "(I)Ljava/lang/String;"⟩
abbrev mN4 : MethodName := ⟨"java/lang/String", "<init>", "([C)V"⟩
abbrev mN5 : MethodName := ⟨cs3, "typeOf", cs5⟩
abbrev mN6 : MethodName := ⟨"java/lang/String", "isLatin1", "()Z"⟩
abbrev mN7 : MethodName := ⟨cs6, "checkIndex", "(IILjava/util/function/BiFunction;)I"⟩
abbrev mN8 : MethodName := ⟨"java/lang/String", "checkIndex", "(II)V"⟩
abbrev mN9 : MethodName := ⟨"java/lang/StringLatin1", "charAt", "([BI)C"⟩
abbrev mN10 : MethodName := ⟨"java/lang/String", "charAt", "(I)C"⟩
abbrev mN11 : MethodName := ⟨cs3, "ch", "(I)C"⟩
abbrev mN12 : MethodName := ⟨"java/lang/String", "<init>", "([CIILjava/lang/Void;)V"⟩
abbrev mN13 : MethodName := ⟨cs3, "expect", cs2⟩
abbrev cB8 : ByteArray := prog_72_method_8_code
abbrev cB9 : ByteArray := prog_72_method_1_code
abbrev cB10 : ByteArray := jdk_42_method_66_code
abbrev cB1 : ByteArray := method_4_code
abbrev cB12 : ByteArray := method_5_code
abbrev cB13 : ByteArray := method_3_code
abbrev cB14 : ByteArray := jdk_42_method_56_code
abbrev cB15 : ByteArray := jdk_42_method_154_code
abbrev cB16 : ByteArray := jdk_43_method_2_code
abbrev cB17 : ByteArray := jdk_42_method_155_code
abbrev cB18 : ByteArray := jdk_41_method_11_code
abbrev cB2 : ByteArray := jdk_42_method_3_code
abbrev cB3 : ByteArray := jdk_42_method_149_code
abbrev cB19 : ByteArray := method_6_code
abbrev lI (x : Int32) : Slot := .val (.int x)
abbrev lR (x : Addr) : Slot := .val (.ref x)
abbrev lV (x : Value) : Slot := .val x
abbrev lU : Slot := .unset
abbrev SG (p : Program) (e : Env) (below : List Frame) (T : State) (f : JFrame) (t : State) : Prop := Steps p.tables e below (T.setTop f) t
abbrev vI0 : Value := .int (0 : Int32)
abbrev vI1 : Value := .int (1 : Int32)
abbrev vI2 : Value := .int (2 : Int32)
abbrev vI3 : Value := .int (3 : Int32)
abbrev vI4 : Value := .int (4 : Int32)
abbrev vI5 : Value := .int (5 : Int32)
abbrev vI6 : Value := .int (6 : Int32)
abbrev vI13 : Value := .int (13 : Int32)
abbrev vI50 : Value := .int (50 : Int32)
abbrev vI51 : Value := .int (51 : Int32)
abbrev vI52 : Value := .int (52 : Int32)
abbrev vI54 : Value := .int (54 : Int32)
abbrev vI100 : Value := .int (100 : Int32)
abbrev vI101 : Value := .int (101 : Int32)
abbrev vI102 : Value := .int (102 : Int32)
abbrev vI103 : Value := .int (103 : Int32)
abbrev vI105 : Value := .int (105 : Int32)
abbrev vI116 : Value := .int (116 : Int32)
abbrev vI117 : Value := .int (117 : Int32)
abbrev vI120 : Value := .int (120 : Int32)
def own_at (l : List Value) (j : Nat) : Int32 := match l.getD j (.int 0) with
  | .int x => x
  | _ => 0
theorem own_atN {l : List Value} {j : Int32} {n : Nat} {x y : Int32} (h : j.toNatClampNeg = n) (e : l.getD n (.int 0) = .int x) (hn : ¬ x = y) : ¬ own_at l j.toNatClampNeg = y := by
  rw [h]; unfold own_at; rw [e]; exact hn
theorem own_padZ {Z : State} {h : Heap} {a : Addr} {k : ClassId} {ty : FieldType} {z : Int32} {d : Value} (A : Arv Z h a k ty z [] d) (n : Nat) : Arv Z h a k ty z (List.replicate n d) d := A.pad (pad_rep [] d n)
theorem own_cpAll {Z : State} {h : Heap} {a : Addr} {k : ClassId} {ty : FieldType} {z nn : Int32} {vs : List Value} {d dv : Value} {m : Nat} (hz : nn.toNatClampNeg = z.toNatClampNeg)
    (B : Arv Z h a k ty z ((List.replicate m d).take (0 : Int32).toNatClampNeg ++ ((List.range nn.toNatClampNeg).map fun i => vs.getD ((0 : Int32).toNatClampNeg + i) dv) ++ (List.replicate m d).drop ((0 : Int32).toNatClampNeg + nn.toNatClampNeg)) d) : Arv Z h a k ty z vs dv := by
  obtain ⟨c, A, q1, q2, q3, H, G⟩ := B
  have e0 : (0 : Int32).toNatClampNeg = 0 := rfl
  have key : ∀ i, i < c.slots.size → ((List.replicate m d).take (0 : Int32).toNatClampNeg ++ ((List.range nn.toNatClampNeg).map fun i => vs.getD ((0 : Int32).toNatClampNeg + i) dv) ++ (List.replicate m d).drop ((0 : Int32).toNatClampNeg + nn.toNatClampNeg)).getD i d = vs.getD i dv := fun i hi => by
    rw [q2, ← hz] at hi
    rw [e0, List.take_zero, List.nil_append, List.getD_eq_getElem?_getD, List.getElem?_append_left (by simpa using hi)]
    simp [List.getElem?_range hi]
  exact ⟨c, A, q1, q2, q3, fun i hi => by rw [H i hi, key i hi], fun i hi => by rw [← key i hi]; exact G i hi⟩
theorem own_cpFront {Z : State} {h : Heap} {a : Addr} {k : ClassId} {ty : FieldType} {z nn : Int32} {vs : List Value} {d : Value} (hz : vs.length = nn.toNatClampNeg)
    (B : Arv Z h a k ty z ((List.replicate nn.toNatClampNeg d).take (0 : Int32).toNatClampNeg ++ ((List.range nn.toNatClampNeg).map fun i => vs.getD ((0 : Int32).toNatClampNeg + i) d) ++ (List.replicate nn.toNatClampNeg d).drop ((0 : Int32).toNatClampNeg + nn.toNatClampNeg)) d) : Arv Z h a k ty z vs d := by
  have e0 : (0 : Int32).toNatClampNeg = 0 := rfl
  refine B.pad fun i => ?_
  rw [e0, List.take_zero, List.nil_append, Nat.zero_add, List.drop_eq_nil_of_le (by simp), List.append_nil, List.getD_eq_getElem?_getD, List.getD_eq_getElem?_getD]
  by_cases hi : i < nn.toNatClampNeg
  · simp [List.getElem?_range hi]
  · rw [List.getElem?_eq_none (show vs.length ≤ i by rw [hz]; omega), List.getElem?_eq_none (by rw [List.length_map, List.length_range]; omega)]
theorem own_wordsIn : ∀ d ∈ StrChars.Road.words, d ∈ tables_1 := by decide +kernel
theorem own_ac0 {P : Int32 → Prop} : ∀ c ∈ ([] : List Int32), P c := fun _ h => by cases h
theorem own_acS {P : Int32 → Prop} {a : Int32} {l : List Int32} (h : P a) (t : ∀ c ∈ l, P c) : ∀ c ∈ a :: l, P c := fun c hc => by
  rcases List.mem_cons.mp hc with rfl | hc
  · exact h
  · exact t c hc
theorem own_bs0 : ([] : List Int32).map (fun c => Value.int (c.toInt8.toInt32)) = [] := rfl
theorem own_bsS {c b : Int32} {cs : List Int32} {vs : List Value} (h : c.toInt8.toInt32 = b) (t : cs.map (fun c => Value.int (c.toInt8.toInt32)) = vs) : (c :: cs).map (fun c => Value.int (c.toInt8.toInt32)) = .int b :: vs := by rw [List.map_cons, t, h]
def own_QS (Z : State) (x : Addr) (N : Int32) (bs : List Value) (h : Heap) (n0 : Nat) (v : Option Value) (h' : Heap) (L : List Loc) : Prop := ∃ (b : Addr) (k : ClassId), v = none ∧ Fr n0 L ∧ Keep h h' [x] ∧ Fld Z h' x "java/lang/String" "coder" "B" (.int 0) ∧ Fld Z h' x "java/lang/String" "value" "[B" (.ref b) ∧ h.size ≤ b ∧ Arv Z h' b k .byte N bs (.int 0) ∧ Exa Z h' b "[B" ∧
  ∀ (O n d : String) (w : Value), Fld Z h x O n d w → Jvm.RoadKit.slotOf Z O n d ≠ Jvm.RoadKit.slotOf Z "java/lang/String" "value" "[B" → Jvm.RoadKit.slotOf Z O n d ≠ Jvm.RoadKit.slotOf Z "java/lang/String" "coder" "B" → Fld Z h' x O n d w
theorem own_newStr {p : Program} {l : Launch} {e : Env} {R : Room} {s : State} {args : Array Value} {below : List Frame} {len W : Nat} {Z : State} {a0 : Array Value} {h : Heap} (hZ : Z.Warmed39 s.vm) (hw : own_HW a0 Z) {kI : Nat} (wi : (Jvm.Cond.instantiable "java/lang/String" kI).before a0 Z = true)
    {x b : Addr} {k : ClassId} {N z : Int32} {cs : List Int32} {bs : List Value} {dv v0 c0 : Value} {n n0 : Nat} (hx0 : n0 ≤ x) (E : Exa Z h x "java/lang/String") (V : Fld Z h x "java/lang/String" "value" "[B" v0) (C : Fld Z h x "java/lang/String" "coder" "B" c0) (K : Arv Z h b k .char N (cs.map Value.int) dv) (S : Sta Z h "java/lang/String" "COMPACT_STRINGS" "Z" (.int z)) (hz : ¬ z = 0)
    (hn : cs.length = n) (hlen : N.toNatClampNeg = n) (h0 : 0 < n) (hbig : n ≤ 4000) (hall : ∀ c ∈ cs, ¬ 255 < c) (hb : cs.map (fun c => Value.int (c.toInt8.toInt32)) = bs) (hfr : 4 ≤ R.frames) (hlo : W + 65 ≤ R.locals) :
    Back l R p e below s args (⟨"java/lang/String", "<init>", "([C)V"⟩ : MethodName) len W (fun P a => a = #[.ref x, .ref b] ∧ P.U.heap = h ∧ P.cells + 1 ≤ R.cells ∧ P.slots + n ≤ R.slots)
      (fun P _ v B => ∃ L, own_QS Z x N bs h n0 v B.U.heap L ∧ B.locs = P.locs ++ L ∧ B.cells = P.cells + 1 ∧ B.slots = P.slots + n) := by
  subst hn hb
  refine Back.mono (StrChars.Road.backArv hZ (fun d hd => hw d (own_wordsIn d hd)) wi E V C K S hz hlen h0 (by omega) hall hfr hlo) (fun P a hp => hp) (fun P a v B hp hq => ?_)
  obtain ⟨L, ⟨q1, q2, q3, q4, q5, q6, q7, ⟨kb, v1, v2⟩, q9⟩, hl, hc, hs⟩ := hq
  refine ⟨L, ⟨h.size, kb, q1, fun y hy => by rw [q2 y hy]; exact hx0, q3, q7, q6, Nat.le_refl _, v2, ?_, q9⟩, hl, hc, hs⟩
  obtain ⟨cA, Ar, r1, r2, r3, r4, r5⟩ := v2
  obtain ⟨a1, kA, a2, comp, a3⟩ := Ar.2.1
  refine ⟨cA, kA, Ar.1, by rw [r1]; exact v1, a2, ?_, fun q => ?_⟩
  · cases hv : cA.vm <;> simp_all [VmData.isStatics]
  · rw [a3] at q; cases q
theorem own_trunc {Z : State} {h : Heap} {a : Addr} {k : ClassId} {ty : FieldType} {z : Int32} {ws rest : List Value} {d : Value} (hz : ws.length = z.toNatClampNeg) (A : Arv Z h a k ty z (ws ++ rest) d) : Arv Z h a k ty z ws d := by
  obtain ⟨c, A, q1, q2, q3, H, G⟩ := A
  have key : ∀ i, i < c.slots.size → (ws ++ rest).getD i d = ws.getD i d := fun i hi => by
    rw [List.getD_eq_getElem?_getD, List.getD_eq_getElem?_getD, List.getElem?_append_left (by omega)]
  exact ⟨c, A, q1, q2, q3, fun i hi => by rw [H i hi, key i hi], fun i hi => by rw [← key i hi]; exact G i hi⟩
theorem own_wordsEqIn : ∀ d ∈ StrChars.Road.wordsEq, d ∈ tables_1 := by decide +kernel
theorem own_n32 {n : Nat} (h : n < 2 ^ 31) : (Int32.ofNat n).toNatClampNeg = n := by rw [Int32.toNatClampNeg, Int32.toInt_ofNat_small h]; rfl
theorem own_ofLen {N : Int32} {l : List Int32} {n : Nat} (h : N = Int32.ofNat n) (e : l.length = n) : N = Int32.ofNat l.length := by rw [e]; exact h
def own_QE (r : Int32) (h : Heap) (n0 : Nat) (v : Option Value) (h' : Heap) (L : List Loc) : Prop := v = some (.int r) ∧ Fr n0 L ∧ h' = h
theorem own_eq255 : ∀ k : Nat, k < 256 → (((Int32.ofNat k + (-128 : Int32)) &&& (255 : Int32)).toInt8.toInt32 = Int32.ofNat k + (-128 : Int32)) ∧ ¬ ((Int32.ofNat k + (-128 : Int32)) &&& (255 : Int32)) < 0 ∧ ¬ (255 : Int32) < ((Int32.ofNat k + (-128 : Int32)) &&& (255 : Int32)) := by decide +kernel
theorem own_byteb {b : Int32} (h : fits .byte (.int b) = true) : (b &&& (255 : Int32)).toInt8.toInt32 = b ∧ ¬ (b &&& (255 : Int32)) < 0 ∧ ¬ (255 : Int32) < (b &&& (255 : Int32)) := by
  simp only [fits, Bool.and_eq_true, decide_eq_true_eq, Int32.le_iff_toInt_le, show (-128 : Int32).toInt = -128 from by decide, show (127 : Int32).toInt = 127 from by decide] at h
  have e : b = Int32.ofNat (b.toInt + 128).toNat + (-128 : Int32) := by
    apply Int32.toInt_inj.mp
    rw [Int32.toInt_add, Int32.toInt_ofNat_small (by omega), show (-128 : Int32).toInt = -128 from by decide, Int.bmod_eq_of_le (by omega) (by omega)]; omega
  have := own_eq255 (b.toInt + 128).toNat (by omega)
  rw [← e] at this
  exact this
theorem own_bytesOk {Z : State} {h : Heap} {t : Addr} {kb : ClassId} {N : Int32} {bs : List Int32} (K : Arv Z h t kb .byte N (bs.map Value.int) (.int 0)) (hN : N.toNatClampNeg = bs.length) : ∀ b ∈ bs, (b &&& (255 : Int32)).toInt8.toInt32 = b ∧ ¬ (b &&& (255 : Int32)) < 0 ∧ ¬ (255 : Int32) < (b &&& (255 : Int32)) := fun b hb => by
  obtain ⟨c, A, q1, q2, q3, H, G⟩ := K
  obtain ⟨i, hi, rfl⟩ := List.getElem_of_mem hb
  have := G i (by omega)
  rw [List.getD_eq_getElem?_getD, List.getElem?_map, List.getElem?_eq_getElem hi] at this
  exact own_byteb this
theorem own_mapBack {bs : List Int32} (h : ∀ b ∈ bs, (b &&& (255 : Int32)).toInt8.toInt32 = b) : bs.map Value.int = (bs.map (fun b => b &&& (255 : Int32))).map (fun c => Value.int (c.toInt8.toInt32)) := by
  rw [List.map_map]
  exact List.map_congr_left fun b hb => by simp only [Function.comp]; rw [h b hb]
theorem own_mapInj {bs ds : List Int32} (h : ∀ b ∈ bs, (b &&& (255 : Int32)).toInt8.toInt32 = b) (h' : ∀ b ∈ ds, (b &&& (255 : Int32)).toInt8.toInt32 = b) (e : bs.map (fun b => b &&& (255 : Int32)) = ds.map (fun b => b &&& (255 : Int32))) : bs = ds := by
  have q := own_mapBack h
  rw [e, ← own_mapBack h'] at q
  exact (List.map_inj_right (fun _ _ hxy => by injection hxy)).mp q
theorem own_strEq {p : Program} {l : Launch} {e : Env} {R : Room} {s : State} {args : Array Value} {below : List Frame} {len W : Nat} {Z : State} {a0 : Array Value} {h : Heap} (hZ : Z.Warmed39 s.vm) (hw : own_HW a0 Z) {kI : Nat} (wi : (Jvm.Cond.instantiable "java/lang/String" kI).before a0 Z = true)
    {x t : Addr} {kb : ClassId} {bs : List Int32} {N : Int32} (E : Exa Z h x "java/lang/String") (V : Fld Z h x "java/lang/String" "value" "[B" (.ref t)) (C : Fld Z h x "java/lang/String" "coder" "B" (.int 0)) (K : Arv Z h t kb .byte N (bs.map Value.int) (.int 0)) (hN : N = Int32.ofNat bs.length) (l2 : bs.length ≤ 4000)
    {y t' : Addr} {kb' : ClassId} {ds : List Int32} {N' : Int32} (E' : Exa Z h y "java/lang/String") (V' : Fld Z h y "java/lang/String" "value" "[B" (.ref t')) (C' : Fld Z h y "java/lang/String" "coder" "B" (.int 0)) (K' : Arv Z h t' kb' .byte N' (ds.map Value.int) (.int 0)) (hN' : N' = Int32.ofNat ds.length) (l2' : ds.length ≤ 4000)
    {z : Int32} (S : Sta Z h "java/lang/String" "COMPACT_STRINGS" "Z" (.int z)) (hz : ¬ z = 0) {r : Int32} {n0 : Nat} (hr : (r = 1 ∧ bs = ds) ∨ (r = 0 ∧ ¬ bs = ds)) (hfr : 2 ≤ R.frames) (hlo : W + 28 ≤ R.locals) :
    Back l R p e below s args (⟨"java/lang/String", "equals", "(Ljava/lang/Object;)Z"⟩ : MethodName) len W (fun P a => a = #[.ref x, .ref y] ∧ P.U.heap = h ∧ P.cells + 0 ≤ R.cells ∧ P.slots + 0 ≤ R.slots)
      (fun P _ v B => ∃ L, own_QE r h n0 v B.U.heap L ∧ B.locs = P.locs ++ L ∧ B.cells = P.cells + 0 ∧ B.slots = P.slots + 0) := by
  have up : ∀ {c : Int32}, ¬ (255 : Int32) < c → ¬ (65535 : Int32) < c := fun {c} q q2 => q (by
    rw [Int32.lt_iff_toInt_lt] at q2 ⊢; have e1 : (65535 : Int32).toInt = 65535 := rfl; have e2 : (255 : Int32).toInt = 255 := rfl; omega)
  have ok := own_bytesOk K (by rw [hN]; exact own_n32 (by omega))
  have ok' := own_bytesOk K' (by rw [hN']; exact own_n32 (by omega))
  have im : ∀ {l : List Int32}, (∀ b ∈ l, (b &&& (255 : Int32)).toInt8.toInt32 = b ∧ ¬ (b &&& (255 : Int32)) < 0 ∧ ¬ (255 : Int32) < (b &&& (255 : Int32))) → ∀ c ∈ l.map (fun b => b &&& (255 : Int32)), ¬ c < 0 ∧ ¬ (255 : Int32) < c := fun q c hc => by
    obtain ⟨b, hb, rfl⟩ := List.mem_map.mp hc
    exact (q b hb).2
  refine Back.mono (StrChars.Road.eqW (cs := bs.map (fun b => b &&& (255 : Int32))) (ds := ds.map (fun b => b &&& (255 : Int32))) hZ (fun d hd => hw d (own_wordsEqIn d hd)) wi E V C K (Or.inl ⟨rfl, by rw [List.length_map]; exact hN, own_mapBack (fun b hb => (ok b hb).1), fun c hc => (im ok c hc).2⟩) (fun c hc => ⟨(im ok c hc).1, up (im ok c hc).2⟩) (by rw [List.length_map]; exact l2) E' V' C' K' (Or.inl ⟨rfl, by rw [List.length_map]; exact hN', own_mapBack (fun b hb => (ok' b hb).1), fun c hc => (im ok' c hc).2⟩) (fun c hc => ⟨(im ok' c hc).1, up (im ok' c hc).2⟩) (by rw [List.length_map]; exact l2') S hz hfr hlo) (fun P a hp => hp) (fun P a v B _ hq => ?_)
  obtain ⟨L, ⟨q1, q2, q3⟩, hl, hc, hs⟩ := hq
  refine ⟨L, ⟨?_, by rw [q2]; exact Fr.nil n0, q3⟩, hl, hc, hs⟩
  rcases q1 with ⟨e1, e2⟩ | ⟨e1, e2⟩ <;> rcases hr with ⟨rfl, h2⟩ | ⟨rfl, h2⟩
  · exact e1
  · exact absurd (own_mapInj (fun b hb => (ok b hb).1) (fun b hb => (ok' b hb).1) e2) h2
  · exact absurd (by rw [h2]) e2
  · exact e1
theorem own_eqr {args : Array Value} {Z : State} {a b : Term} {x : Addr} (hb : b.eval args Z none [] Z = some (.ref x)) (h : (Jvm.Cond.eq a b).value args Z none Z [] = some true) : a.eval args Z none [] Z = some (.ref x) := by
  obtain ⟨u, w, e1, e2, k1, k2⟩ := cmp_v (Or.inl h)
  cases hb.symm.trans e2
  have hu : u.isRef = true := by cases u <;> simp [Kin, Value.isRef] at k1 k2 ⊢
  have := gotT (eq_R e1 e2 hu rfl) h
  rw [e1, this]
theorem own_len {args : Array Value} {Z : State} {t : Term} {x : Addr} {cl : Cell} {ty : FieldType} {n : Int32} (h : (Jvm.Cond.eq (.length t) (.int n)).value args Z none Z [] = some true) (ht : t.eval args Z none [] Z = some (.ref x)) (A : Arr Z Z.heap x cl ty) : cl.slots.size < 2 ^ 31 ∧ cl.slots.size.toInt32 = n := by
  have e1 := eqv_i (y := n) rfl h
  have ha := Arr.fin (Vm.Alike.refl _) A
  have hl : cl.slots.size < 2 ^ 31 := by
    by_cases q : cl.slots.size < 2 ^ 31
    · exact q
    · simp [Term.eval, ht, ha, q] at e1
  rw [len_f ht ha hl] at e1
  exact ⟨hl, by simpa using e1⟩
theorem own_all {args : Array Value} {Z : State} {t : Term} {a : Addr} {c : Cell} {ty : FieldType} {K : String} {B : Jvm.Cond} (et : ∀ idx, t.eval args Z none idx Z = some (.ref a)) (A : Arr Z Z.heap a c ty)
    (h : (Jvm.Cond.all t (.and (.exactly (.elem t (.index 0)) K) B)).value args Z none Z [] = some true) : ∀ j : Int32, ¬ (j < 0 ∨ c.slots.size ≤ j.toNatClampNeg) → ∃ r : Addr, c.slots[j.toNatClampNeg]? = some (.ref r) := fun j hj => by
  have nn : ¬ j < 0 := fun x => hj (Or.inl x)
  obtain ⟨u1, -⟩ := and_e (Cond.all_elim (et []) (A.fin (Vm.Alike.refl _)) h j.toNatClampNeg (Nat.lt_of_not_le fun x => hj (Or.inr x)))
  obtain ⟨box, eb⟩ := exa_v u1
  exact ⟨box, (elem_f (et _) (idx_at nn) (A.fin (Vm.Alike.refl _)) nn).symm.trans eb⟩
theorem own_size {c : Cell} {n : Int32} {k : Nat} (h : c.slots.size < 2 ^ 31 ∧ c.slots.size.toInt32 = n) (hn : n.toNatClampNeg = k) : c.slots.size = k := by
  have e := len_toInt h.1
  rw [h.2] at e
  rw [← hn, Int32.toNatClampNeg, e]; rfl
theorem own_EW {Z : State} {a0 : Array Value} (hw : own_HW a0 Z) : EW Z a0 consts_1 := (EW.cons (ww hw 78 rfl) (by decide) (EW.cons (ww hw 105 rfl) (by decide) (EW.cons (ww hw 107 rfl) (by decide) (EW.cons (ww hw 108 rfl) (by decide) (EW.cons (ww hw 109 rfl) (by decide) (EW.cons (ww hw 110 rfl) (by decide) (EW.cons (ww hw 111 rfl) (by decide) (EW.cons (ww hw 113 rfl) (by decide) EW.nil))))))))
theorem own_and255 (x : Int32) : ∃ k : Nat, k < 256 ∧ x &&& (255 : Int32) = Int32.ofNat k := by
  have h : (x &&& 255).toInt = (x.toBitVec &&& 255#32).toInt := rfl
  have h2 : (x.toBitVec &&& 255#32).toNat = x.toBitVec.toNat % 256 := by rw [BitVec.toNat_and]; exact Nat.and_two_pow_sub_one_eq_mod x.toBitVec.toNat 8
  have h3 := Nat.mod_lt x.toBitVec.toNat (show 0 < 256 by decide)
  have h4 : (x.toBitVec &&& 255#32).toInt = ((x.toBitVec &&& 255#32).toNat : Int) := BitVec.toInt_eq_toNat_of_lt (by omega)
  refine ⟨x.toBitVec.toNat % 256, h3, ?_⟩
  apply Int32.toInt_inj.mp
  rw [h, h4, h2, Int32.toInt_ofNat_small (by omega)]
theorem own_andmax (x : Int32) : 0 ≤ (x &&& (2147483647 : Int32)).toInt := by
  have h : (x &&& 2147483647).toInt = (x.toBitVec &&& 2147483647#32).toInt := rfl
  have h2 : (x.toBitVec &&& 2147483647#32).toNat = x.toBitVec.toNat % 2147483648 := by rw [BitVec.toNat_and]; exact Nat.and_two_pow_sub_one_eq_mod x.toBitVec.toNat 31
  have h3 := Nat.mod_lt x.toBitVec.toNat (show 0 < 2147483648 by decide)
  have h4 : (x.toBitVec &&& 2147483647#32).toInt = ((x.toBitVec &&& 2147483647#32).toNat : Int) := BitVec.toInt_eq_toNat_of_lt (by omega)
  rw [h, h4]; omega
theorem own_and7 (x : Int32) : ∃ k : Nat, k < 8 ∧ x &&& (7 : Int32) = Int32.ofNat k := by
  have h : (x &&& 7).toInt = (x.toBitVec &&& 7#32).toInt := rfl
  have h2 : (x.toBitVec &&& 7#32).toNat = x.toBitVec.toNat % 8 := by rw [BitVec.toNat_and]; exact Nat.and_two_pow_sub_one_eq_mod x.toBitVec.toNat 3
  have h3 := Nat.mod_lt x.toBitVec.toNat (show 0 < 8 by decide)
  have h4 : (x.toBitVec &&& 7#32).toInt = ((x.toBitVec &&& 7#32).toNat : Int) := BitVec.toInt_eq_toNat_of_lt (by omega)
  refine ⟨x.toBitVec.toNat % 8, h3, ?_⟩
  apply Int32.toInt_inj.mp
  rw [h, h4, h2, Int32.toInt_ofNat_small (by omega)]
theorem own_m6 : ∀ k : Nat, k < 8 → (Int32.ofNat k % (6 : Int32) = 0 ∨ Int32.ofNat k % (6 : Int32) = 1 ∨ Int32.ofNat k % (6 : Int32) = 2 ∨ Int32.ofNat k % (6 : Int32) = 3 ∨ Int32.ofNat k % (6 : Int32) = 4 ∨ Int32.ofNat k % (6 : Int32) = 5) ∧ (Int32.ofNat k % (5 : Int32) = 0 ∨ Int32.ofNat k % (5 : Int32) = 1 ∨ Int32.ofNat k % (5 : Int32) = 2 ∨ Int32.ofNat k % (5 : Int32) = 3 ∨ Int32.ofNat k % (5 : Int32) = 4) := by decide +kernel
theorem own_m13 : ∀ k : Nat, k < 256 → ¬ (Int32.ofNat k % (13 : Int32) < (0 : Int32)) ∧ Int32.ofNat k % (13 : Int32) < (13 : Int32) ∧ (Int32.ofNat k % (13 : Int32)).toNatClampNeg < 13 := by decide +kernel
theorem own_ix (x : Int32) : ¬ (((x &&& (255 : Int32)) % (13 : Int32)) < (0 : Int32)) ∧ ((x &&& (255 : Int32)) % (13 : Int32)) < (13 : Int32) := by
  obtain ⟨k, hk, e⟩ := own_and255 x
  rw [e]; exact ⟨(own_m13 k hk).1, (own_m13 k hk).2.1⟩
theorem own_ixn (x : Int32) : (((x &&& (255 : Int32)) % (13 : Int32))).toNatClampNeg < 13 := by
  obtain ⟨k, hk, e⟩ := own_and255 x
  rw [e]; exact (own_m13 k hk).2.2
theorem own_L13 : ∀ i : Nat, i < 13 → ([vI105, vI117, vI102, vI51, vI50, vI54, vI52, vI116, vI101, vI120, vI116, vI103, vI100] : List Value).getD i vI0 = (.int (own_at [vI105, vI117, vI102, vI51, vI50, vI54, vI52, vI116, vI101, vI120, vI116, vI103, vI100] i)) ∧ ¬ ((255 : Int32) < nar .char (nar .char (nar .char (nar .char (((own_at [vI105, vI117, vI102, vI51, vI50, vI54, vI52, vI116, vI101, vI120, vI116, vI103, vI100] i) &&& (255 : Int32)).toUInt32.toUInt16.toUInt32.toInt32))))) := by decide +kernel
theorem own_chg (x0 : Int32) : ([vI105, vI117, vI102, vI51, vI50, vI54, vI52, vI116, vI101, vI120, vI116, vI103, vI100] : List Value).getD (((x0 &&& (255 : Int32)) % (13 : Int32))).toNatClampNeg vI0 = (.int (own_at [vI105, vI117, vI102, vI51, vI50, vI54, vI52, vI116, vI101, vI120, vI116, vI103, vI100] (((x0 &&& (255 : Int32)) % (13 : Int32))).toNatClampNeg)) := (own_L13 _ (own_ixn x0)).1
theorem own_c256 : ∀ k : Nat, k < 256 → ¬ ((255 : Int32) < nar .char (nar .char ((Int32.ofNat k).toUInt32.toUInt16.toUInt32.toInt32))) := by decide +kernel
def own_ch (x0 : Int32) : Int32 := if (x0 &&& (256 : Int32)) = (0 : Int32) then (nar .char (nar .char (nar .char (((own_at [vI105, vI117, vI102, vI51, vI50, vI54, vI52, vI116, vI101, vI120, vI116, vI103, vI100] (((x0 &&& (255 : Int32)) % (13 : Int32))).toNatClampNeg) &&& (255 : Int32)).toUInt32.toUInt16.toUInt32.toInt32)))) else (nar .char ((x0 &&& (255 : Int32)).toUInt32.toUInt16.toUInt32.toInt32))
theorem own_chok (x : Int32) : ¬ ((255 : Int32) < nar .char (own_ch x)) := by
  unfold own_ch
  split
  · exact (own_L13 _ (own_ixn x)).2
  · obtain ⟨k, hk, e⟩ := own_and255 x
    rw [e]; exact own_c256 k hk
def own_lab (b : List Int32) (r0 r1 r2 r3 r4 r5 : Addr) : Value := if b = [(105 : Int32), (51 : Int32), (50 : Int32)] then .ref r0 else if b = [(117 : Int32), (51 : Int32), (50 : Int32)] then .ref r1 else if b = [(102 : Int32), (51 : Int32), (50 : Int32)] then .ref r2 else if b = [(102 : Int32), (54 : Int32), (52 : Int32)] then .ref r3 else if b = [(116 : Int32), (101 : Int32), (120 : Int32), (116 : Int32)] then .ref r4 else if b = [(103 : Int32), (117 : Int32), (105 : Int32), (100 : Int32)] then .ref r5 else .null
theorem own_labRef {b : List Int32} {r0 r1 r2 r3 r4 r5 : Addr} : (own_lab b r0 r1 r2 r3 r4 r5).isRef = true := by
  unfold own_lab
  repeat' split
  all_goals rfl
theorem own_qcat {b : List Int32} {r0 r1 r2 r3 r4 r5 : Addr} : (own_lab b r0 r1 r2 r3 r4 r5).category = 1 := by
  unfold own_lab
  repeat' split
  all_goals rfl
abbrev own_MH (l : Launch) (y : MethodName) (b : ByteArray) (ml : Nat) (r : Option FieldType) (ws : List Jvm.Cond) (R : Room) (Z : State) (h0 : Heap) (as : Array Value) (Q : Option Value → Heap → List Loc → Prop) : Prop :=
  MetFree l y (head1 (Jvm.Cond.code y b ml r :: ws) R) (fun a U => a = as ∧ Z.Warmed39 U.vm ∧ U.heap = h0 ∧ CHv Z consts_1 U.vm h0) (fun _ _ _ _ _ => True) (fun _ U o U' => ∃ v L, o = .returned v ∧ Q v U'.heap L ∧ CHr Z consts_1 U.vm U.heap U'.vm U'.heap ∧ ReturnedEndW U o U' L R.cells R.slots)
theorem own_openH {l : Launch} {y : MethodName} {b : ByteArray} {ml : Nat} {r : Option FieldType} {ws : List Jvm.Cond} {R : Room} {Z : State} {a0 : Array Value} {h0 : Heap} {as : Array Value} {Q : Option Value → Heap → List Loc → Prop} (hEL : EW Z a0 consts_1) (hp : plainFor y = true) {L0 : Array Slot} (hL : ∀ m, entryFrame m as ml = mkF m 0 L0 [])
    (H : ∀ (p : Program) (e : Env) (s : State) (m : MethodId) (below : List Frame) (meth : Method) (c : Code) (s₁ : State), p.tables.exec = Jvm.exec → c.code = b → c.maxLocals = ml → meth.sig.returnType = r → s.methodNamed? y = some m ∧ s.vm.method? m = some meth → Z.Warmed39 s.vm → s.vm.findClass y.cls = some m.cls → Stand p l e R s m as below meth c s₁ [] 0 0 → s₁.heap = h0 → CHr Z consts_1 s.vm h0 s.vm h0 →
      ∃ v T L cs sl vm1 n h', (r = none → v = none) ∧ Stand p l e R (s.setVm vm1) m as below meth c T L cs sl ∧ cs ≤ R.cells ∧ sl ≤ R.slots ∧ s.Since vm1 n ∧ n ≤ T.heap.size ∧ Z.Warmed39 vm1 ∧ T.heap = h' ∧ CHr Z consts_1 s.vm h0 vm1 h' ∧ Q v T.heap L ∧ ∀ fs, (∀ (f : JFrame) (acts : List Action), f.method = m → f.locked = none → f.entered = [] → (doReturn e (T.setTop f) acts v).1 = T.setFrames fs) → Steps p.tables e below (s₁.setTop (mkF m 0 L0 [])) (T.setFrames fs)) :
    own_MH l y b ml r ws R Z h0 as Q := by
  refine MetFree.of_bodySF hp hisR ?_
  intro p e s m args below meth c s₁ Bd hml hP hK
  obtain ⟨rfl, hZ, hh, hC⟩ := hP
  have e0 : s₁.heap = h0 := by rw [← hh, Bd.state]; rfl
  obtain ⟨v, T, L, cs, sl, vm1, n, h', hv, X, hc, hs, hS, hn, hZ1, eT, R1, hQ, st⟩ := H p e s m below meth c s₁ Bd.exec Bd.bytes hml Bd.returns ⟨Bd.named, Bd.method⟩ hZ (findClass_of_methodNamed Bd.named) (Stand.of_body Bd) e0 (CHr.refl hC)
  obtain ⟨fs, hr, hrun, hended, hend⟩ := leaveW (s := s) (vm₁ := vm1) X hS hn (v := v) (fun q => hv (Bd.returns ▸ q))
  have hCR : CHr Z consts_1 s.vm s.heap T.vm T.heap := by rw [hh, eT]; exact CHr.trans R1 (CHv.at (s := s) (vm0 := vm1) X hZ1 hEL R1.1)
  exact ⟨_, _, castTop (hL m) (st fs hr), hrun, hended, v, L, rfl, hQ, hCR, hend.1, hend.2.1, hend.2.2.1, hend.2.2.2.mono hc hs⟩
theorem d8_0 : DK cB8 0 (.aconst_null) 1 := by decide +kernel
theorem d8_1 : DK cB8 1 (.astore_n 1) 1 := by decide +kernel
theorem d8_2 : DK cB8 2 (.invokestatic 52) 3 := by decide +kernel
theorem d9_0 : DK cB9 0 (.getstatic 22) 3 := by decide +kernel
theorem d9_3 : DK cB9 3 (.invokevirtual 26) 3 := by decide +kernel
theorem d9_6 : DK cB9 6 (.checkcast 27) 3 := by decide +kernel
theorem d9_9 : DK cB9 9 (.areturn) 1 := by decide +kernel
theorem pn_com_example_wiregather_wiregather_wire_FieldType : plainName cs0 = true := by first | (simp [plainName, overriddenIn]; done) | decide +kernel
def Q9_1 (Z : State) (r0 : Addr) (c1 : ClassId) (r2 r3 : Addr) (r4 r5 : Addr) (r6 r7 : Addr) (h0 : Heap) (n0 : Nat) (v : Option Value) (h : Heap) (L : List Loc) : Prop := ∃ (b8 : Addr), v = some (.ref b8) ∧ Fr n0 L ∧ Keep h0 h [] ∧ h0.size ≤ b8 ∧ Exa Z h b8 cs1 ∧ Arv Z h b8 c1 (.object cs0) (6 : Int32) [(.ref r2), (.ref r3), (.ref r4), (.ref r5), (.ref r6), (.ref r7)] .null
theorem rm9_1 (l : Launch) (Z : State) (a0 : Array Value) (hw : own_HW a0 Z) (ws : List Jvm.Cond) (r0 : Addr) (c1 : ClassId) (r2 r3 : Addr) (r4 r5 : Addr) (r6 r7 : Addr) (h0 : Heap) (n0 : Nat) (O0 : Old Z n0 h0) (f1 : Sta Z Z.heap cs0 "$VALUES" cs1 (.ref r0)) (f4 : Exa Z Z.heap r0 cs1) (f6 : Arv Z Z.heap r0 c1 (.object cs0) (6 : Int32) [(.ref r2), (.ref r3), (.ref r4), (.ref r5), (.ref r6), (.ref r7)] .null) :
    own_MF l mN0 prog_72_method_1_code 0 (some (.array (.object cs0))) ws rR1_1_6_14 Z h0 #[] (Q9_1 Z r0 c1 r2 r3 r4 r5 r6 r7 h0 n0) := by
  refine own_open (plainFor_of_name pn_com_example_wiregather_wiregather_wire_FieldType) (L0 := #[]) (fun _ => by first | (simp [entryFrame, mkF, argsToLocals, Value.category]; done) | rfl) ?_
  intro p e s m below meth c s₁ hx hby hml hret hnn hZ hown X0 e0
  have N0 := Fr.nil n0; have w := @ww Z a0 hw
  have f2 := f1.ext O0.2
  obtain ⟨T3, X3, e3, st3⟩ := getS2 X0 hx hZ hown (host := "") (Or.inl (w 41 rfl)) Via.refl e0 f2 (g := (mkF m 0 #[] [])) rfl (hb hby d9_0)
  have f5 := f4.ext O0.2
  have f7 := f6.ext O0.2
  obtain ⟨T8, h8, X8, e8, E8, A8, B8, st8⟩ := cloneH X3 hx hZ hown (w 43 rfl) (w 44 rfl) (w 48 rfl) (w 46 rfl) (w 47 rfl) (w 49 rfl) e3 (Arv.arh f7) f5 (g := (mkF m 3 #[] [(.ref r0)])) rfl (by rw [hml]; rfl) rfl (hb hby d9_3) (by decide) (W := 0) (own_W rfl) (by decide) (cap := 6) (by decide) (by decide) (by decide)
  obtain ⟨b8, g8⟩ : ∃ z, z = h0.size := ⟨_, rfl⟩
  rw [← g8] at A8 B8 st8
  have V8 : Arv Z h8 b8 c1 (.object cs0) (6 : Int32) [(.ref r2), (.ref r3), (.ref r4), (.ref r5), (.ref r6), (.ref r7)] .null := A8
  obtain ⟨T9, X9, e9, st9⟩ := castY X8 hx hZ hown (w 57 rfl) e8 (Ins.self B8) (g := (mkF m 6 #[] [(.ref b8)])) rfl rfl (hb hby d9_6)
  have kp10 : Keep h0 h8 [] := (Keep.refl h0 []).ext E8
  refine ⟨some (.ref b8), _, _, _, _, nofun, X9, by decide, by decide, ?_, fun fs hr => ?_⟩
  · rw [e9]; exact ⟨b8, rfl, N0, kp10, (Nat.le_of_eq g8.symm), B8, V8⟩
  · show SG p e below s₁ (mkF m 0 #[] []) _
    refine st3 _ ?_
    show SG p e below T3 (mkF m 3 #[] [(.ref r0)]) _
    refine st8 _ ?_
    show SG p e below T8 (mkF m 6 #[] [(.ref b8)]) _
    refine st9 _ ?_
    show SG p e below T9 (mkF m 9 #[] [(.ref b8)]) _
    exact retOut X9 hx (i := .areturn) hret rfl (Or.inr (Or.inr (Or.inr (Or.inr ⟨rfl, rfl, rfl⟩)))) (hb hby d9_9) hr
theorem pd____Lcom_example_wiregather_wiregather_wire_FieldType_ : parseMethodDescriptor "()[Lcom/example/wiregather/wiregather/wire/FieldType;" = some ⟨[], some (.array (.object cs0))⟩ := by decide +kernel
theorem d8_5 : DK cB8 5 (.astore_n 2) 1 := by decide +kernel
theorem d8_6 : DK cB8 6 (.aload_n 2) 1 := by decide +kernel
theorem d8_7 : DK cB8 7 (.arraylength) 1 := by decide +kernel
theorem d8_8 : DK cB8 8 (.istore_n 3) 1 := by decide +kernel
theorem d8_9 : DK cB8 9 (.iconst 0) 1 := by decide +kernel
theorem d8_10 : DK cB8 10 (.istore 4) 2 := by decide +kernel
theorem d8_12 : DK cB8 12 (.iload 4) 2 := by decide +kernel
theorem d8_14 : DK cB8 14 (.iload_n 3) 1 := by decide +kernel
theorem d8_15 : DK cB8 15 (.if_icmp .ge 30) 3 := by decide +kernel
theorem d8_18 : DK cB8 18 (.aload_n 2) 1 := by decide +kernel
theorem d8_19 : DK cB8 19 (.iload 4) 2 := by decide +kernel
theorem d8_21 : DK cB8 21 (.aaload) 1 := by decide +kernel
theorem d8_22 : DK cB8 22 (.astore 5) 2 := by decide +kernel
theorem d8_24 : DK cB8 24 (.aload 5) 2 := by decide +kernel
theorem d8_26 : DK cB8 26 (.getfield 45) 3 := by decide +kernel
theorem d8_29 : DK cB8 29 (.aload_n 0) 1 := by decide +kernel
theorem d8_30 : DK cB8 30 (.invokevirtual 56) 3 := by decide +kernel
theorem d10_0 : DK cB10 0 (.aload_n 0) 1 := by decide +kernel
theorem d10_1 : DK cB10 1 (.aload_n 1) 1 := by decide +kernel
theorem d10_2 : DK cB10 2 (.if_acmp .ne 5) 3 := by decide +kernel
theorem d10_7 : DK cB10 7 (.aload_n 1) 1 := by decide +kernel
theorem d10_8 : DK cB10 8 (.instanceof 10) 3 := by decide +kernel
theorem d10_11 : DK cB10 11 (.ifCond .eq 43) 3 := by decide +kernel
theorem d10_54 : DK cB10 54 (.iconst 0) 1 := by decide +kernel
theorem d10_55 : DK cB10 55 (.ireturn) 1 := by decide +kernel
theorem pn_java_lang_String : plainName "java/lang/String" = true := by first | (simp [plainName, overriddenIn]; done) | decide +kernel
def Q10_1 (Z : State) (r0 : Addr) (h0 : Heap) (n0 : Nat) (v : Option Value) (h : Heap) (L : List Loc) : Prop := v = some vI0 ∧ Fr n0 L ∧ h = h0
theorem rm10_1 (l : Launch) (Z : State) (a0 : Array Value) (hw : own_HW a0 Z) (ws : List Jvm.Cond) (r0 : Addr) (h0 : Heap) (n0 : Nat) (O0 : Old Z n0 h0) :
    own_MF l mN1 jdk_42_method_66_code 3 (some .boolean) ws rR0_0_0_0 Z h0 #[(.ref r0), .null] (Q10_1 Z r0 h0 n0) := by
  refine own_open (plainFor_of_name pn_java_lang_String) (L0 := #[lR r0, .val .null, lU]) (fun _ => by first | (simp [entryFrame, mkF, argsToLocals, Value.category]; done) | rfl) ?_
  intro p e s m below meth c s₁ hx hby hml hret hnn hZ hown X0 e0
  have N0 := Fr.nil n0
  refine ⟨some vI0, _, _, _, _, nofun, X0, by decide, by decide, ?_, fun fs hr => ?_⟩
  · rw [e0]; exact ⟨rfl, N0, rfl⟩
  · show SG p e below s₁ (mkF m 0 #[lR r0, .val .null, lU] []) _
    refine qaN X0 hx hby d10_0 ?_
    refine qaN X0 hx hby d10_1 ?_
    refine Jvm.RoadKit.acmp (g := (mkF m 2 #[lR r0, .val .null, lU] [.null, (.ref r0)])) X0 hx rfl rfl rfl (pc0 := 2) (pc' := 7) (same := false) rfl (hb hby d10_2) rfl (decide_eq_false nofun) (by decide) (by decide) ?_
    show SG p e below s₁ (mkF m 7 #[lR r0, .val .null, lU] []) _
    refine qaN X0 hx hby d10_7 ?_
    refine X0.instanceofNull hx (g := (mkF m 8 #[lR r0, .val .null, lU] [.null])) rfl rfl (hb hby d10_8) _ ?_
    show SG p e below s₁ (mkF m 11 #[lR r0, .val .null, lU] [vI0]) _
    refine XS.ifYes X0.here hx rfl (pc0 := 11) (pc' := 54) rfl (hb hby d10_11) rfl ((if0 _ _).trans (teq (rfl : (0 : Int32) = (0 : Int32))).1) (by decide) (by decide) ?_
    show SG p e below s₁ (mkF m 54 #[lR r0, .val .null, lU] []) _
    refine qc X0 hx hby d10_54 ?_
    exact retN X0 hx (t := .boolean) hret (by simp) (hb hby d10_55) hr
theorem pd__Ljava_lang_Object__Z : parseMethodDescriptor "(Ljava/lang/Object;)Z" = some ⟨[(.object "java/lang/Object")], some .boolean⟩ := by decide +kernel
theorem d8_33 : DK cB8 33 (.ifCond .eq 6) 3 := by decide +kernel
theorem d8_39 : DK cB8 39 (.iinc 4 1) 3 := by decide +kernel
theorem d8_42 : DK cB8 42 (.goto (-30)) 3 := by decide +kernel
theorem d8_45 : DK cB8 45 (.aload_n 1) 1 := by decide +kernel
theorem d8_46 : DK cB8 46 (.areturn) 1 := by decide +kernel
def Q8_1 (Z : State) (r0 : Addr) (c1 : ClassId) (r2 r3 : Addr) (r4 r5 : Addr) (r6 r7 : Addr) (r8 r9 : Addr) (c10 : ClassId) (r11 r12 : Addr) (c13 : ClassId) (r14 r15 : Addr) (c16 : ClassId) (r17 r18 : Addr) (c19 : ClassId) (r20 r21 : Addr) (c22 : ClassId) (r23 r24 : Addr) (c25 : ClassId) (h0 : Heap) (n0 : Nat) (v : Option Value) (h : Heap) (L : List Loc) : Prop := v = some .null ∧ Fr n0 L ∧ Keep h0 h []
theorem rm8_1 (l : Launch) (Z : State) (a0 : Array Value) (hw : own_HW a0 Z) (ws : List Jvm.Cond) (r0 : Addr) (c1 : ClassId) (r2 r3 : Addr) (r4 r5 : Addr) (r6 r7 : Addr) (r8 r9 : Addr) (c10 : ClassId) (r11 r12 : Addr) (c13 : ClassId) (r14 r15 : Addr) (c16 : ClassId) (r17 r18 : Addr) (c19 : ClassId) (r20 r21 : Addr) (c22 : ClassId) (r23 r24 : Addr) (c25 : ClassId) (h0 : Heap) (n0 : Nat) (O0 : Old Z n0 h0) (f1 : Sta Z Z.heap cs0 "$VALUES" cs1 (.ref r0)) (f2 : Exa Z Z.heap r0 cs1) (f3 : Arv Z Z.heap r0 c1 (.object cs0) (6 : Int32) [(.ref r2), (.ref r3), (.ref r4), (.ref r5), (.ref r6), (.ref r7)] .null) (f10 : Fld Z Z.heap r2 cs0 "label" "Ljava/lang/String;" (.ref r8)) (f14 : Exa Z Z.heap r8 "java/lang/String") (f16 : Fld Z Z.heap r8 "java/lang/String" "coder" "B" vI0) (f18 : Fld Z Z.heap r8 "java/lang/String" "value" "[B" (.ref r9)) (f20 : Arv Z Z.heap r9 c10 .byte (3 : Int32) [vI105, vI51, vI50] vI0) (f24 : Fld Z Z.heap r3 cs0 "label" "Ljava/lang/String;" (.ref r11)) (f27 : Exa Z Z.heap r11 "java/lang/String") (f29 : Fld Z Z.heap r11 "java/lang/String" "coder" "B" vI0) (f31 : Fld Z Z.heap r11 "java/lang/String" "value" "[B" (.ref r12)) (f33 : Arv Z Z.heap r12 c13 .byte (3 : Int32) [vI117, vI51, vI50] vI0) (f37 : Fld Z Z.heap r4 cs0 "label" "Ljava/lang/String;" (.ref r14)) (f40 : Exa Z Z.heap r14 "java/lang/String") (f42 : Fld Z Z.heap r14 "java/lang/String" "coder" "B" vI0) (f44 : Fld Z Z.heap r14 "java/lang/String" "value" "[B" (.ref r15)) (f46 : Arv Z Z.heap r15 c16 .byte (3 : Int32) [vI102, vI51, vI50] vI0) (f50 : Fld Z Z.heap r5 cs0 "label" "Ljava/lang/String;" (.ref r17)) (f53 : Exa Z Z.heap r17 "java/lang/String") (f55 : Fld Z Z.heap r17 "java/lang/String" "coder" "B" vI0) (f57 : Fld Z Z.heap r17 "java/lang/String" "value" "[B" (.ref r18)) (f59 : Arv Z Z.heap r18 c19 .byte (3 : Int32) [vI102, vI54, vI52] vI0) (f63 : Fld Z Z.heap r6 cs0 "label" "Ljava/lang/String;" (.ref r20)) (f66 : Exa Z Z.heap r20 "java/lang/String") (f68 : Fld Z Z.heap r20 "java/lang/String" "coder" "B" vI0) (f70 : Fld Z Z.heap r20 "java/lang/String" "value" "[B" (.ref r21)) (f72 : Arv Z Z.heap r21 c22 .byte (4 : Int32) [vI116, vI101, vI120, vI116] vI0) (f76 : Fld Z Z.heap r7 cs0 "label" "Ljava/lang/String;" (.ref r23)) (f79 : Exa Z Z.heap r23 "java/lang/String") (f81 : Fld Z Z.heap r23 "java/lang/String" "coder" "B" vI0) (f83 : Fld Z Z.heap r23 "java/lang/String" "value" "[B" (.ref r24)) (f85 : Arv Z Z.heap r24 c25 .byte (4 : Int32) [vI103, vI117, vI105, vI100] vI0) :
    own_MF l mN2 prog_72_method_8_code 6 (some (.object cs0)) ws rR2_1_6_25 Z h0 #[.null] (Q8_1 Z r0 c1 r2 r3 r4 r5 r6 r7 r8 r9 c10 r11 r12 c13 r14 r15 c16 r17 r18 c19 r20 r21 c22 r23 r24 c25 h0 n0) := by
  refine own_open (plainFor_of_name pn_com_example_wiregather_wiregather_wire_FieldType) (L0 := #[.val .null, lU, lU, lU, lU, lU]) (fun _ => by first | (simp [entryFrame, mkF, argsToLocals, Value.category]; done) | rfl) ?_
  intro p e s m below meth c s₁ hx hby hml hret hnn hZ hown X0 e0
  have N0 := Fr.nil n0; have w := @ww Z a0 hw
  obtain ⟨_, T4, Lc4, X4, hQ4, st4⟩ := own_cS X0 hx hZ hown e0 (rm9_1 l Z a0 hw [] r0 c1 r2 r3 r4 r5 r6 r7 h0 n0 O0 f1 f2 f3) (w 38 rfl) (w 39 rfl) (w 36 rfl) (w 40 rfl) (by decide) (W := 0) (by decide) (by decide) (by decide) (by decide) (g := (mkF m 2 #[.val .null, .val .null, lU, lU, lU, lU] [])) rfl (by rw [hml]; rfl) (argsL := []) (rest := []) (lenOf pd____Lcom_example_wiregather_wiregather_wire_FieldType_ rfl) rfl (own_W rfl) (hb hby d8_2)
  obtain ⟨b4_0, rfl, N4q, K4, f5, f6, f7⟩ := hQ4
  have N4 := Fr.app N0 N4q
  obtain ⟨clq8, Arq8, qq8, Sq8, Nq8, Hq8, Gq8⟩ := id f7
  obtain ⟨clq9, Arq9, qq9, Sq9, Nq9, Hq9, Gq9⟩ := id f7
  have o11 := Old.keep O0 K4 all0
  have f12 := f10.ext o11.2
  obtain ⟨T13, X13, e13, st13⟩ := getF X4 hx hZ hown (host := "") (Or.inl (w 59 rfl)) Via.refl rfl f12 (g := (mkF m 26 #[.val .null, .val .null, lR b4_0, lV vI6, lV vI0, lR r2] [(.ref r2)])) rfl rfl (hb hby d8_26)
  have f15 := f14.ext o11.2
  have f17 := f16.ext o11.2
  have f19 := f18.ext o11.2
  have f21 := f20.ext o11.2
  obtain ⟨_, T22, Lc22, X22, hQ22, st22⟩ := own_cV X13 hx hZ hown e13 (rm10_1 l Z a0 hw [] r8 T4.heap n0 o11) f15 (w 61 rfl) (w 62 rfl) (w 64 rfl) (w 63 rfl) (w 65 rfl) (w 6 rfl) (by decide) (W := 0) (by decide) (by decide) (by decide) (by decide) (g := (mkF m 30 #[.val .null, .val .null, lR b4_0, lV vI6, lV vI0, lR r2] [.null, (.ref r8)])) rfl (by rw [hml]; rfl) (argsL := [.null]) (rest := []) (lenOf pd__Ljava_lang_Object__Z rfl) rfl (own_W rfl) (hb hby d8_30)
  obtain ⟨rfl, N22q, E22⟩ := hQ22
  have N22 := Fr.app N4 N22q
  obtain ⟨clq23, Arq23, qq23, Sq23, Nq23, Hq23, Gq23⟩ := id f7
  have f25 := f24.ext o11.2
  obtain ⟨T26, X26, e26, st26⟩ := getF X22 hx hZ hown (host := "") (Or.inl (w 59 rfl)) Via.refl E22 f25 (g := (mkF m 26 #[.val .null, .val .null, lR b4_0, lV vI6, lV vI1, lR r3] [(.ref r3)])) rfl rfl (hb hby d8_26)
  have f28 := f27.ext o11.2
  have f30 := f29.ext o11.2
  have f32 := f31.ext o11.2
  have f34 := f33.ext o11.2
  obtain ⟨_, T35, Lc35, X35, hQ35, st35⟩ := own_cV X26 hx hZ hown e26 (rm10_1 l Z a0 hw [] r11 T4.heap n0 o11) f28 (w 61 rfl) (w 62 rfl) (w 64 rfl) (w 63 rfl) (w 65 rfl) (w 6 rfl) (by decide) (W := 0) (by decide) (by decide) (by decide) (by decide) (g := (mkF m 30 #[.val .null, .val .null, lR b4_0, lV vI6, lV vI1, lR r3] [.null, (.ref r11)])) rfl (by rw [hml]; rfl) (argsL := [.null]) (rest := []) (lenOf pd__Ljava_lang_Object__Z rfl) rfl (own_W rfl) (hb hby d8_30)
  obtain ⟨rfl, N35q, E35⟩ := hQ35
  have N35 := Fr.app N22 N35q
  obtain ⟨clq36, Arq36, qq36, Sq36, Nq36, Hq36, Gq36⟩ := id f7
  have f38 := f37.ext o11.2
  obtain ⟨T39, X39, e39, st39⟩ := getF X35 hx hZ hown (host := "") (Or.inl (w 59 rfl)) Via.refl E35 f38 (g := (mkF m 26 #[.val .null, .val .null, lR b4_0, lV vI6, lV vI2, lR r4] [(.ref r4)])) rfl rfl (hb hby d8_26)
  have f41 := f40.ext o11.2
  have f43 := f42.ext o11.2
  have f45 := f44.ext o11.2
  have f47 := f46.ext o11.2
  obtain ⟨_, T48, Lc48, X48, hQ48, st48⟩ := own_cV X39 hx hZ hown e39 (rm10_1 l Z a0 hw [] r14 T4.heap n0 o11) f41 (w 61 rfl) (w 62 rfl) (w 64 rfl) (w 63 rfl) (w 65 rfl) (w 6 rfl) (by decide) (W := 0) (by decide) (by decide) (by decide) (by decide) (g := (mkF m 30 #[.val .null, .val .null, lR b4_0, lV vI6, lV vI2, lR r4] [.null, (.ref r14)])) rfl (by rw [hml]; rfl) (argsL := [.null]) (rest := []) (lenOf pd__Ljava_lang_Object__Z rfl) rfl (own_W rfl) (hb hby d8_30)
  obtain ⟨rfl, N48q, E48⟩ := hQ48
  have N48 := Fr.app N35 N48q
  obtain ⟨clq49, Arq49, qq49, Sq49, Nq49, Hq49, Gq49⟩ := id f7
  have f51 := f50.ext o11.2
  obtain ⟨T52, X52, e52, st52⟩ := getF X48 hx hZ hown (host := "") (Or.inl (w 59 rfl)) Via.refl E48 f51 (g := (mkF m 26 #[.val .null, .val .null, lR b4_0, lV vI6, lV vI3, lR r5] [(.ref r5)])) rfl rfl (hb hby d8_26)
  have f54 := f53.ext o11.2
  have f56 := f55.ext o11.2
  have f58 := f57.ext o11.2
  have f60 := f59.ext o11.2
  obtain ⟨_, T61, Lc61, X61, hQ61, st61⟩ := own_cV X52 hx hZ hown e52 (rm10_1 l Z a0 hw [] r17 T4.heap n0 o11) f54 (w 61 rfl) (w 62 rfl) (w 64 rfl) (w 63 rfl) (w 65 rfl) (w 6 rfl) (by decide) (W := 0) (by decide) (by decide) (by decide) (by decide) (g := (mkF m 30 #[.val .null, .val .null, lR b4_0, lV vI6, lV vI3, lR r5] [.null, (.ref r17)])) rfl (by rw [hml]; rfl) (argsL := [.null]) (rest := []) (lenOf pd__Ljava_lang_Object__Z rfl) rfl (own_W rfl) (hb hby d8_30)
  obtain ⟨rfl, N61q, E61⟩ := hQ61
  have N61 := Fr.app N48 N61q
  obtain ⟨clq62, Arq62, qq62, Sq62, Nq62, Hq62, Gq62⟩ := id f7
  have f64 := f63.ext o11.2
  obtain ⟨T65, X65, e65, st65⟩ := getF X61 hx hZ hown (host := "") (Or.inl (w 59 rfl)) Via.refl E61 f64 (g := (mkF m 26 #[.val .null, .val .null, lR b4_0, lV vI6, lV vI4, lR r6] [(.ref r6)])) rfl rfl (hb hby d8_26)
  have f67 := f66.ext o11.2
  have f69 := f68.ext o11.2
  have f71 := f70.ext o11.2
  have f73 := f72.ext o11.2
  obtain ⟨_, T74, Lc74, X74, hQ74, st74⟩ := own_cV X65 hx hZ hown e65 (rm10_1 l Z a0 hw [] r20 T4.heap n0 o11) f67 (w 61 rfl) (w 62 rfl) (w 64 rfl) (w 63 rfl) (w 65 rfl) (w 6 rfl) (by decide) (W := 0) (by decide) (by decide) (by decide) (by decide) (g := (mkF m 30 #[.val .null, .val .null, lR b4_0, lV vI6, lV vI4, lR r6] [.null, (.ref r20)])) rfl (by rw [hml]; rfl) (argsL := [.null]) (rest := []) (lenOf pd__Ljava_lang_Object__Z rfl) rfl (own_W rfl) (hb hby d8_30)
  obtain ⟨rfl, N74q, E74⟩ := hQ74
  have N74 := Fr.app N61 N74q
  obtain ⟨clq75, Arq75, qq75, Sq75, Nq75, Hq75, Gq75⟩ := id f7
  have f77 := f76.ext o11.2
  obtain ⟨T78, X78, e78, st78⟩ := getF X74 hx hZ hown (host := "") (Or.inl (w 59 rfl)) Via.refl E74 f77 (g := (mkF m 26 #[.val .null, .val .null, lR b4_0, lV vI6, lV vI5, lR r7] [(.ref r7)])) rfl rfl (hb hby d8_26)
  have f80 := f79.ext o11.2
  have f82 := f81.ext o11.2
  have f84 := f83.ext o11.2
  have f86 := f85.ext o11.2
  obtain ⟨_, T87, Lc87, X87, hQ87, st87⟩ := own_cV X78 hx hZ hown e78 (rm10_1 l Z a0 hw [] r23 T4.heap n0 o11) f80 (w 61 rfl) (w 62 rfl) (w 64 rfl) (w 63 rfl) (w 65 rfl) (w 6 rfl) (by decide) (W := 0) (by decide) (by decide) (by decide) (by decide) (g := (mkF m 30 #[.val .null, .val .null, lR b4_0, lV vI6, lV vI5, lR r7] [.null, (.ref r23)])) rfl (by rw [hml]; rfl) (argsL := [.null]) (rest := []) (lenOf pd__Ljava_lang_Object__Z rfl) rfl (own_W rfl) (hb hby d8_30)
  obtain ⟨rfl, N87q, E87⟩ := hQ87
  have N87 := Fr.app N74 N87q
  have kp88 : Keep h0 T4.heap [] := (Keep.refl h0 []).trans K4 all0
  refine ⟨some .null, _, _, _, _, nofun, X87, by decide, by decide, ?_, fun fs hr => ?_⟩
  · rw [E87]; exact ⟨rfl, N87, kp88⟩
  · show SG p e below s₁ (mkF m 0 #[.val .null, lU, lU, lU, lU, lU] []) _
    refine XS.aconstNull X0.here hx rfl (hb hby d8_0) ?_
    refine XS.astoreN X0.here hx rfl (hb hby d8_1) rfl rfl (l' := #[.val .null, .val .null, lU, lU, lU, lU]) rfl ?_
    refine st4 _ ?_
    show SG p e below T4 (mkF m 5 #[.val .null, .val .null, lU, lU, lU, lU] [(.ref b4_0)]) _
    refine XS.astoreN X4.here hx rfl (hb hby d8_5) rfl rfl (l' := #[.val .null, .val .null, lR b4_0, lU, lU, lU]) rfl ?_
    refine qaN X4 hx hby d8_6 ?_
    refine X4.arraylength hx (Arq8.1) (State.isArrayOf_alike hZ.alike Arq8.2.1) (g := (mkF m 7 #[.val .null, .val .null, lR b4_0, lU, lU, lU] [(.ref b4_0)])) rfl rfl (hb hby d8_7) _ ?_
    rw [len_of Sq8 Nq8]
    show SG p e below T4 (mkF m 8 #[.val .null, .val .null, lR b4_0, lU, lU, lU] [vI6]) _
    refine XS.istoreN X4.here hx rfl (hb hby d8_8) rfl (l' := #[.val .null, .val .null, lR b4_0, lV vI6, lU, lU]) rfl ?_
    refine qc X4 hx hby d8_9 ?_
    refine XS.istore X4.here hx rfl (hb hby d8_10) rfl (l' := #[.val .null, .val .null, lR b4_0, lV vI6, lV vI0, lU]) rfl ?_
    refine qi X4 hx hby d8_12 ?_
    refine qiN X4 hx hby d8_14 ?_
    refine XS.icmpNo X4.here hx rfl (hb hby d8_15) rfl (tlt (by decide : (0 : Int32) < (6 : Int32))).2.1 ?_
    refine qaN X4 hx hby d8_18 ?_
    refine qi X4 hx hby d8_19 ?_
    show SG p e below T4 (mkF m 21 #[.val .null, .val .null, lR b4_0, lV vI6, lV vI0, lU] [vI0, (.ref b4_0)]) _
    refine X4.aaload hx (j := (0 : Int32)) (v := (.ref r2)) (Arq9.1) (State.isArrayOf_alike hZ.alike Arq9.2.1) rfl Arq9.2.2 (inb_of Sq9 ⟨(by decide : ¬ ((0 : Int32) < (0 : Int32))), (by decide : (0 : Int32) < (6 : Int32))⟩) (Has.at Hq9 (inb_of Sq9 ⟨(by decide : ¬ ((0 : Int32) < (0 : Int32))), (by decide : (0 : Int32) < (6 : Int32))⟩) rfl) (g := (mkF m 21 #[.val .null, .val .null, lR b4_0, lV vI6, lV vI0, lU] [vI0, (.ref b4_0)])) rfl rfl (hb hby d8_21) _ ?_
    show SG p e below T4 (mkF m 22 #[.val .null, .val .null, lR b4_0, lV vI6, lV vI0, lU] [(.ref r2)]) _
    refine XS.astore X4.here hx rfl (hb hby d8_22) rfl rfl (l' := #[.val .null, .val .null, lR b4_0, lV vI6, lV vI0, lR r2]) rfl ?_
    refine qa X4 hx hby d8_24 ?_
    refine st13 _ ?_
    show SG p e below T13 (mkF m 29 #[.val .null, .val .null, lR b4_0, lV vI6, lV vI0, lR r2] [(.ref r8)]) _
    refine qaN X13 hx hby d8_29 ?_
    refine st22 _ ?_
    show SG p e below T22 (mkF m 33 #[.val .null, .val .null, lR b4_0, lV vI6, lV vI0, lR r2] [vI0]) _
    refine XS.ifYes X22.here hx rfl (pc0 := 33) (pc' := 39) rfl (hb hby d8_33) rfl ((if0 _ _).trans (teq (rfl : (0 : Int32) = (0 : Int32))).1) (by decide) (by decide) ?_
    show SG p e below T22 (mkF m 39 #[.val .null, .val .null, lR b4_0, lV vI6, lV vI0, lR r2] []) _
    refine XS.iinc X22.here hx rfl (hb hby d8_39) rfl (l' := #[.val .null, .val .null, lR b4_0, lV vI6, lV vI1, lR r2]) rfl ?_
    refine XS.goto X22.here hx rfl (pc0 := 42) (pc' := 12) rfl (hb hby d8_42) (by decide) (by decide) ?_
    show SG p e below T22 (mkF m 12 #[.val .null, .val .null, lR b4_0, lV vI6, lV vI1, lR r2] []) _
    refine qi X22 hx hby d8_12 ?_
    refine qiN X22 hx hby d8_14 ?_
    refine XS.icmpNo X22.here hx rfl (hb hby d8_15) rfl (tlt (by decide : (1 : Int32) < (6 : Int32))).2.1 ?_
    refine qaN X22 hx hby d8_18 ?_
    refine qi X22 hx hby d8_19 ?_
    refine X22.aaload hx (j := (1 : Int32)) (v := (.ref r3)) (by rw [E22]; exact Arq23.1) (State.isArrayOf_alike hZ.alike Arq23.2.1) rfl Arq23.2.2 (inb_of Sq23 ⟨(by decide : ¬ ((1 : Int32) < (0 : Int32))), (by decide : (1 : Int32) < (6 : Int32))⟩) (Has.at Hq23 (inb_of Sq23 ⟨(by decide : ¬ ((1 : Int32) < (0 : Int32))), (by decide : (1 : Int32) < (6 : Int32))⟩) rfl) (g := (mkF m 21 #[.val .null, .val .null, lR b4_0, lV vI6, lV vI1, lR r2] [vI1, (.ref b4_0)])) rfl rfl (hb hby d8_21) _ ?_
    show SG p e below T22 (mkF m 22 #[.val .null, .val .null, lR b4_0, lV vI6, lV vI1, lR r2] [(.ref r3)]) _
    refine XS.astore X22.here hx rfl (hb hby d8_22) rfl rfl (l' := #[.val .null, .val .null, lR b4_0, lV vI6, lV vI1, lR r3]) rfl ?_
    refine qa X22 hx hby d8_24 ?_
    refine st26 _ ?_
    show SG p e below T26 (mkF m 29 #[.val .null, .val .null, lR b4_0, lV vI6, lV vI1, lR r3] [(.ref r11)]) _
    refine qaN X26 hx hby d8_29 ?_
    refine st35 _ ?_
    show SG p e below T35 (mkF m 33 #[.val .null, .val .null, lR b4_0, lV vI6, lV vI1, lR r3] [vI0]) _
    refine XS.ifYes X35.here hx rfl (pc0 := 33) (pc' := 39) rfl (hb hby d8_33) rfl ((if0 _ _).trans (teq (rfl : (0 : Int32) = (0 : Int32))).1) (by decide) (by decide) ?_
    show SG p e below T35 (mkF m 39 #[.val .null, .val .null, lR b4_0, lV vI6, lV vI1, lR r3] []) _
    refine XS.iinc X35.here hx rfl (hb hby d8_39) rfl (l' := #[.val .null, .val .null, lR b4_0, lV vI6, lV vI2, lR r3]) rfl ?_
    refine XS.goto X35.here hx rfl (pc0 := 42) (pc' := 12) rfl (hb hby d8_42) (by decide) (by decide) ?_
    show SG p e below T35 (mkF m 12 #[.val .null, .val .null, lR b4_0, lV vI6, lV vI2, lR r3] []) _
    refine qi X35 hx hby d8_12 ?_
    refine qiN X35 hx hby d8_14 ?_
    refine XS.icmpNo X35.here hx rfl (hb hby d8_15) rfl (tlt (by decide : (2 : Int32) < (6 : Int32))).2.1 ?_
    refine qaN X35 hx hby d8_18 ?_
    refine qi X35 hx hby d8_19 ?_
    refine X35.aaload hx (j := (2 : Int32)) (v := (.ref r4)) (by rw [E35]; exact Arq36.1) (State.isArrayOf_alike hZ.alike Arq36.2.1) rfl Arq36.2.2 (inb_of Sq36 ⟨(by decide : ¬ ((2 : Int32) < (0 : Int32))), (by decide : (2 : Int32) < (6 : Int32))⟩) (Has.at Hq36 (inb_of Sq36 ⟨(by decide : ¬ ((2 : Int32) < (0 : Int32))), (by decide : (2 : Int32) < (6 : Int32))⟩) rfl) (g := (mkF m 21 #[.val .null, .val .null, lR b4_0, lV vI6, lV vI2, lR r3] [vI2, (.ref b4_0)])) rfl rfl (hb hby d8_21) _ ?_
    show SG p e below T35 (mkF m 22 #[.val .null, .val .null, lR b4_0, lV vI6, lV vI2, lR r3] [(.ref r4)]) _
    refine XS.astore X35.here hx rfl (hb hby d8_22) rfl rfl (l' := #[.val .null, .val .null, lR b4_0, lV vI6, lV vI2, lR r4]) rfl ?_
    refine qa X35 hx hby d8_24 ?_
    refine st39 _ ?_
    show SG p e below T39 (mkF m 29 #[.val .null, .val .null, lR b4_0, lV vI6, lV vI2, lR r4] [(.ref r14)]) _
    refine qaN X39 hx hby d8_29 ?_
    refine st48 _ ?_
    show SG p e below T48 (mkF m 33 #[.val .null, .val .null, lR b4_0, lV vI6, lV vI2, lR r4] [vI0]) _
    refine XS.ifYes X48.here hx rfl (pc0 := 33) (pc' := 39) rfl (hb hby d8_33) rfl ((if0 _ _).trans (teq (rfl : (0 : Int32) = (0 : Int32))).1) (by decide) (by decide) ?_
    show SG p e below T48 (mkF m 39 #[.val .null, .val .null, lR b4_0, lV vI6, lV vI2, lR r4] []) _
    refine XS.iinc X48.here hx rfl (hb hby d8_39) rfl (l' := #[.val .null, .val .null, lR b4_0, lV vI6, lV vI3, lR r4]) rfl ?_
    refine XS.goto X48.here hx rfl (pc0 := 42) (pc' := 12) rfl (hb hby d8_42) (by decide) (by decide) ?_
    show SG p e below T48 (mkF m 12 #[.val .null, .val .null, lR b4_0, lV vI6, lV vI3, lR r4] []) _
    refine qi X48 hx hby d8_12 ?_
    refine qiN X48 hx hby d8_14 ?_
    refine XS.icmpNo X48.here hx rfl (hb hby d8_15) rfl (tlt (by decide : (3 : Int32) < (6 : Int32))).2.1 ?_
    refine qaN X48 hx hby d8_18 ?_
    refine qi X48 hx hby d8_19 ?_
    refine X48.aaload hx (j := (3 : Int32)) (v := (.ref r5)) (by rw [E48]; exact Arq49.1) (State.isArrayOf_alike hZ.alike Arq49.2.1) rfl Arq49.2.2 (inb_of Sq49 ⟨(by decide : ¬ ((3 : Int32) < (0 : Int32))), (by decide : (3 : Int32) < (6 : Int32))⟩) (Has.at Hq49 (inb_of Sq49 ⟨(by decide : ¬ ((3 : Int32) < (0 : Int32))), (by decide : (3 : Int32) < (6 : Int32))⟩) rfl) (g := (mkF m 21 #[.val .null, .val .null, lR b4_0, lV vI6, lV vI3, lR r4] [vI3, (.ref b4_0)])) rfl rfl (hb hby d8_21) _ ?_
    show SG p e below T48 (mkF m 22 #[.val .null, .val .null, lR b4_0, lV vI6, lV vI3, lR r4] [(.ref r5)]) _
    refine XS.astore X48.here hx rfl (hb hby d8_22) rfl rfl (l' := #[.val .null, .val .null, lR b4_0, lV vI6, lV vI3, lR r5]) rfl ?_
    refine qa X48 hx hby d8_24 ?_
    refine st52 _ ?_
    show SG p e below T52 (mkF m 29 #[.val .null, .val .null, lR b4_0, lV vI6, lV vI3, lR r5] [(.ref r17)]) _
    refine qaN X52 hx hby d8_29 ?_
    refine st61 _ ?_
    show SG p e below T61 (mkF m 33 #[.val .null, .val .null, lR b4_0, lV vI6, lV vI3, lR r5] [vI0]) _
    refine XS.ifYes X61.here hx rfl (pc0 := 33) (pc' := 39) rfl (hb hby d8_33) rfl ((if0 _ _).trans (teq (rfl : (0 : Int32) = (0 : Int32))).1) (by decide) (by decide) ?_
    show SG p e below T61 (mkF m 39 #[.val .null, .val .null, lR b4_0, lV vI6, lV vI3, lR r5] []) _
    refine XS.iinc X61.here hx rfl (hb hby d8_39) rfl (l' := #[.val .null, .val .null, lR b4_0, lV vI6, lV vI4, lR r5]) rfl ?_
    refine XS.goto X61.here hx rfl (pc0 := 42) (pc' := 12) rfl (hb hby d8_42) (by decide) (by decide) ?_
    show SG p e below T61 (mkF m 12 #[.val .null, .val .null, lR b4_0, lV vI6, lV vI4, lR r5] []) _
    refine qi X61 hx hby d8_12 ?_
    refine qiN X61 hx hby d8_14 ?_
    refine XS.icmpNo X61.here hx rfl (hb hby d8_15) rfl (tlt (by decide : (4 : Int32) < (6 : Int32))).2.1 ?_
    refine qaN X61 hx hby d8_18 ?_
    refine qi X61 hx hby d8_19 ?_
    refine X61.aaload hx (j := (4 : Int32)) (v := (.ref r6)) (by rw [E61]; exact Arq62.1) (State.isArrayOf_alike hZ.alike Arq62.2.1) rfl Arq62.2.2 (inb_of Sq62 ⟨(by decide : ¬ ((4 : Int32) < (0 : Int32))), (by decide : (4 : Int32) < (6 : Int32))⟩) (Has.at Hq62 (inb_of Sq62 ⟨(by decide : ¬ ((4 : Int32) < (0 : Int32))), (by decide : (4 : Int32) < (6 : Int32))⟩) rfl) (g := (mkF m 21 #[.val .null, .val .null, lR b4_0, lV vI6, lV vI4, lR r5] [vI4, (.ref b4_0)])) rfl rfl (hb hby d8_21) _ ?_
    show SG p e below T61 (mkF m 22 #[.val .null, .val .null, lR b4_0, lV vI6, lV vI4, lR r5] [(.ref r6)]) _
    refine XS.astore X61.here hx rfl (hb hby d8_22) rfl rfl (l' := #[.val .null, .val .null, lR b4_0, lV vI6, lV vI4, lR r6]) rfl ?_
    refine qa X61 hx hby d8_24 ?_
    refine st65 _ ?_
    show SG p e below T65 (mkF m 29 #[.val .null, .val .null, lR b4_0, lV vI6, lV vI4, lR r6] [(.ref r20)]) _
    refine qaN X65 hx hby d8_29 ?_
    refine st74 _ ?_
    show SG p e below T74 (mkF m 33 #[.val .null, .val .null, lR b4_0, lV vI6, lV vI4, lR r6] [vI0]) _
    refine XS.ifYes X74.here hx rfl (pc0 := 33) (pc' := 39) rfl (hb hby d8_33) rfl ((if0 _ _).trans (teq (rfl : (0 : Int32) = (0 : Int32))).1) (by decide) (by decide) ?_
    show SG p e below T74 (mkF m 39 #[.val .null, .val .null, lR b4_0, lV vI6, lV vI4, lR r6] []) _
    refine XS.iinc X74.here hx rfl (hb hby d8_39) rfl (l' := #[.val .null, .val .null, lR b4_0, lV vI6, lV vI5, lR r6]) rfl ?_
    refine XS.goto X74.here hx rfl (pc0 := 42) (pc' := 12) rfl (hb hby d8_42) (by decide) (by decide) ?_
    show SG p e below T74 (mkF m 12 #[.val .null, .val .null, lR b4_0, lV vI6, lV vI5, lR r6] []) _
    refine qi X74 hx hby d8_12 ?_
    refine qiN X74 hx hby d8_14 ?_
    refine XS.icmpNo X74.here hx rfl (hb hby d8_15) rfl (tlt (by decide : (5 : Int32) < (6 : Int32))).2.1 ?_
    refine qaN X74 hx hby d8_18 ?_
    refine qi X74 hx hby d8_19 ?_
    refine X74.aaload hx (j := (5 : Int32)) (v := (.ref r7)) (by rw [E74]; exact Arq75.1) (State.isArrayOf_alike hZ.alike Arq75.2.1) rfl Arq75.2.2 (inb_of Sq75 ⟨(by decide : ¬ ((5 : Int32) < (0 : Int32))), (by decide : (5 : Int32) < (6 : Int32))⟩) (Has.at Hq75 (inb_of Sq75 ⟨(by decide : ¬ ((5 : Int32) < (0 : Int32))), (by decide : (5 : Int32) < (6 : Int32))⟩) rfl) (g := (mkF m 21 #[.val .null, .val .null, lR b4_0, lV vI6, lV vI5, lR r6] [vI5, (.ref b4_0)])) rfl rfl (hb hby d8_21) _ ?_
    show SG p e below T74 (mkF m 22 #[.val .null, .val .null, lR b4_0, lV vI6, lV vI5, lR r6] [(.ref r7)]) _
    refine XS.astore X74.here hx rfl (hb hby d8_22) rfl rfl (l' := #[.val .null, .val .null, lR b4_0, lV vI6, lV vI5, lR r7]) rfl ?_
    refine qa X74 hx hby d8_24 ?_
    refine st78 _ ?_
    show SG p e below T78 (mkF m 29 #[.val .null, .val .null, lR b4_0, lV vI6, lV vI5, lR r7] [(.ref r23)]) _
    refine qaN X78 hx hby d8_29 ?_
    refine st87 _ ?_
    show SG p e below T87 (mkF m 33 #[.val .null, .val .null, lR b4_0, lV vI6, lV vI5, lR r7] [vI0]) _
    refine XS.ifYes X87.here hx rfl (pc0 := 33) (pc' := 39) rfl (hb hby d8_33) rfl ((if0 _ _).trans (teq (rfl : (0 : Int32) = (0 : Int32))).1) (by decide) (by decide) ?_
    show SG p e below T87 (mkF m 39 #[.val .null, .val .null, lR b4_0, lV vI6, lV vI5, lR r7] []) _
    refine XS.iinc X87.here hx rfl (hb hby d8_39) rfl (l' := #[.val .null, .val .null, lR b4_0, lV vI6, lV vI6, lR r7]) rfl ?_
    refine XS.goto X87.here hx rfl (pc0 := 42) (pc' := 12) rfl (hb hby d8_42) (by decide) (by decide) ?_
    show SG p e below T87 (mkF m 12 #[.val .null, .val .null, lR b4_0, lV vI6, lV vI6, lR r7] []) _
    refine qi X87 hx hby d8_12 ?_
    refine qiN X87 hx hby d8_14 ?_
    refine XS.icmpYes X87.here hx rfl (pc0 := 15) (pc' := 45) rfl (hb hby d8_15) rfl (flt (by decide : ¬ ((6 : Int32) < (6 : Int32)))).2.1 (by decide) (by decide) ?_
    show SG p e below T87 (mkF m 45 #[.val .null, .val .null, lR b4_0, lV vI6, lV vI6, lR r7] []) _
    refine qaN X87 hx hby d8_45 ?_
    exact retOut X87 hx (i := .areturn) hret rfl (Or.inr (Or.inr (Or.inr (Or.inr ⟨rfl, rfl, rfl⟩)))) (hb hby d8_46) hr
theorem pd__Ljava_lang_String__Lcom_example_wiregather_wiregather_wire_FieldType_ : parseMethodDescriptor cs2 = some ⟨[(.object "java/lang/String")], some (.object cs0)⟩ := by decide +kernel
theorem pn_com_example_wiregather_wiregather_wire_FieldTypeOfLabelPinLaw : plainName cs3 = true := by first | (simp [plainName, overriddenIn]; done) | decide +kernel
def Q0_1 (Z : State) (x0 x1 : Int32) (x2 x3 x4 : Int32) (r5 : Addr) (c6 : ClassId) (r7 r8 : Addr) (r9 r10 : Addr) (r11 r12 : Addr) (r13 r14 : Addr) (c15 : ClassId) (r16 r17 : Addr) (c18 : ClassId) (r19 r20 : Addr) (c21 : ClassId) (r22 r23 : Addr) (c24 : ClassId) (r25 r26 : Addr) (c27 : ClassId) (r28 r29 : Addr) (c30 : ClassId) (h0 : Heap) (n0 : Nat) (v : Option Value) (h : Heap) (L : List Loc) : Prop := v = some vI1 ∧ Fr n0 L
theorem rm0_1 (l : Launch) (Z : State) (a0 : Array Value) (hw : own_HW a0 Z) (ws : List Jvm.Cond) (x0 x1 : Int32) (x2 x3 x4 : Int32) (r5 : Addr) (c6 : ClassId) (r7 r8 : Addr) (r9 r10 : Addr) (r11 r12 : Addr) (r13 r14 : Addr) (c15 : ClassId) (r16 r17 : Addr) (c18 : ClassId) (r19 r20 : Addr) (c21 : ClassId) (r22 r23 : Addr) (c24 : ClassId) (r25 r26 : Addr) (c27 : ClassId) (r28 r29 : Addr) (c30 : ClassId) (h0 : Heap) (n0 : Nat) (O0 : Old Z n0 h0) (hc2 : (x0 &&& (3 : Int32)) = (3 : Int32)) (f3 : Sta Z Z.heap cs0 "$VALUES" cs1 (.ref r5)) (f4 : Exa Z Z.heap r5 cs1) (f5 : Arv Z Z.heap r5 c6 (.object cs0) (6 : Int32) [(.ref r7), (.ref r8), (.ref r9), (.ref r10), (.ref r11), (.ref r12)] .null) (f6 : Fld Z Z.heap r7 cs0 "label" "Ljava/lang/String;" (.ref r13)) (f7 : Exa Z Z.heap r13 "java/lang/String") (f8 : Fld Z Z.heap r13 "java/lang/String" "coder" "B" vI0) (f9 : Fld Z Z.heap r13 "java/lang/String" "value" "[B" (.ref r14)) (f10 : Arv Z Z.heap r14 c15 .byte (3 : Int32) [vI105, vI51, vI50] vI0) (f11 : Fld Z Z.heap r8 cs0 "label" "Ljava/lang/String;" (.ref r16)) (f12 : Exa Z Z.heap r16 "java/lang/String") (f13 : Fld Z Z.heap r16 "java/lang/String" "coder" "B" vI0) (f14 : Fld Z Z.heap r16 "java/lang/String" "value" "[B" (.ref r17)) (f15 : Arv Z Z.heap r17 c18 .byte (3 : Int32) [vI117, vI51, vI50] vI0) (f16 : Fld Z Z.heap r9 cs0 "label" "Ljava/lang/String;" (.ref r19)) (f17 : Exa Z Z.heap r19 "java/lang/String") (f18 : Fld Z Z.heap r19 "java/lang/String" "coder" "B" vI0) (f19 : Fld Z Z.heap r19 "java/lang/String" "value" "[B" (.ref r20)) (f20 : Arv Z Z.heap r20 c21 .byte (3 : Int32) [vI102, vI51, vI50] vI0) (f21 : Fld Z Z.heap r10 cs0 "label" "Ljava/lang/String;" (.ref r22)) (f22 : Exa Z Z.heap r22 "java/lang/String") (f23 : Fld Z Z.heap r22 "java/lang/String" "coder" "B" vI0) (f24 : Fld Z Z.heap r22 "java/lang/String" "value" "[B" (.ref r23)) (f25 : Arv Z Z.heap r23 c24 .byte (3 : Int32) [vI102, vI54, vI52] vI0) (f26 : Fld Z Z.heap r11 cs0 "label" "Ljava/lang/String;" (.ref r25)) (f27 : Exa Z Z.heap r25 "java/lang/String") (f28 : Fld Z Z.heap r25 "java/lang/String" "coder" "B" vI0) (f29 : Fld Z Z.heap r25 "java/lang/String" "value" "[B" (.ref r26)) (f30 : Arv Z Z.heap r26 c27 .byte (4 : Int32) [vI116, vI101, vI120, vI116] vI0) (f31 : Fld Z Z.heap r12 cs0 "label" "Ljava/lang/String;" (.ref r28)) (f32 : Exa Z Z.heap r28 "java/lang/String") (f33 : Fld Z Z.heap r28 "java/lang/String" "coder" "B" vI0) (f34 : Fld Z Z.heap r28 "java/lang/String" "value" "[B" (.ref r29)) (f35 : Arv Z Z.heap r29 c30 .byte (4 : Int32) [vI103, vI117, vI105, vI100] vI0) :
    own_MH l x code maxLocals ret ws room_1 Z h0 #[(.int x0), (.int x1), (.int x2), (.int x3), (.int x4)] (Q0_1 Z x0 x1 x2 x3 x4 r5 c6 r7 r8 r9 r10 r11 r12 r13 r14 c15 r16 r17 c18 r19 r20 c21 r22 r23 c24 r25 r26 c27 r28 r29 c30 h0 n0) := by
  have hEL : EW Z a0 consts_1 := own_EW hw
  refine own_openH hEL (plainFor_of_name pn_com_example_wiregather_wiregather_wire_FieldTypeOfLabelPinLaw) (L0 := #[lI x0, lI x1, lI x2, lI x3, lI x4, lU, lU, lU, lU, lU, lU, lU, lU]) (fun _ => by first | (simp [entryFrame, mkF, argsToLocals, Value.category, maxLocals]; done) | rfl) ?_
  intro p e s m below meth c s₁ hx hby hml hret hnn hZ hown X0 e0 R0
  have N0 := Fr.nil n0
  have hS1 := (State.WarmedH.refl s).since 0
  obtain ⟨_, T36, Lc36, X36, hQ36, st36⟩ := own_cS X0 hx hZ hown e0 (rm8_1 l Z a0 hw [] r5 c6 r7 r8 r9 r10 r11 r12 r13 r14 c15 r16 r17 c18 r19 r20 c21 r22 r23 c24 r25 r26 c27 r28 r29 c30 h0 n0 O0 f3 f4 f5 f6 f7 f8 f9 f10 f11 f12 f13 f14 f15 f16 f17 f18 f19 f20 f21 f22 f23 f24 f25 f26 f27 f28 f29 f30 f31 f32 f33 f34 f35) (ww hw 34 rfl) (ww hw 35 rfl) (ww hw 36 rfl) (ww hw 37 rfl) (by decide) (W := 0) (by decide) (by decide) (by decide) (by decide) (g := (mkF m 12 #[lI x0, lI x1, lI x2, lI x3, lI x4, .val (.int (x0 &&& (3 : Int32))), lU, lU, lU, lU, lU, lU, lU] [.null])) rfl (by rw [hml]; rfl) (argsL := [.null]) (rest := []) (lenOf pd__Ljava_lang_String__Lcom_example_wiregather_wiregather_wire_FieldType_ rfl) rfl (own_W rfl) (hb hby at_12)
  obtain ⟨rfl, N36q, K36⟩ := hQ36
  have N36 := Fr.app N0 N36q
  have R37 := CHr.trans R0 (CHr.keep K36 sf0 R0.1)
  refine ⟨some vI1, _, _, _, _, _, _, _, nofun, X36, by decide, by decide, hS1, ((Nat.zero_le _)), hZ, rfl, R37, ?_, fun fs hr => ?_⟩
  · exact ⟨rfl, N36⟩
  · show SG p e below s₁ (mkF m 0 #[lI x0, lI x1, lI x2, lI x3, lI x4, lU, lU, lU, lU, lU, lU, lU, lU] []) _
    refine qiN X0 hx hby at_0 ?_
    refine qc X0 hx hby at_1 ?_
    refine XS.iand X0.here hx rfl (hb hby at_2) rfl ?_
    refine XS.istore X0.here hx rfl (hb hby at_3) rfl (l' := #[lI x0, lI x1, lI x2, lI x3, lI x4, .val (.int (x0 &&& (3 : Int32))), lU, lU, lU, lU, lU, lU, lU]) rfl ?_
    refine qi X0 hx hby at_5 ?_
    refine qc X0 hx hby at_7 ?_
    refine XS.icmpNo X0.here hx rfl (hb hby at_8) rfl (teq hc2).2 ?_
    refine XS.aconstNull X0.here hx rfl (hb hby at_11) ?_
    show SG p e below s₁ (mkF m 12 #[lI x0, lI x1, lI x2, lI x3, lI x4, .val (.int (x0 &&& (3 : Int32))), lU, lU, lU, lU, lU, lU, lU] [.null]) _
    refine st36 _ ?_
    show SG p e below T36 (mkF m 15 #[lI x0, lI x1, lI x2, lI x3, lI x4, .val (.int (x0 &&& (3 : Int32))), lU, lU, lU, lU, lU, lU, lU] [.null]) _
    refine XS.ifnonnullNo X36.here hx rfl (hb hby at_15) rfl ?_
    refine qc X36 hx hby at_18 ?_
    refine XS.goto X36.here hx rfl (pc0 := 19) (pc' := 23) rfl (hb hby at_19) (by decide) (by decide) ?_
    show SG p e below T36 (mkF m 23 #[lI x0, lI x1, lI x2, lI x3, lI x4, .val (.int (x0 &&& (3 : Int32))), lU, lU, lU, lU, lU, lU, lU] [vI1]) _
    exact retN X36 hx (t := .boolean) hret (by simp) (hb hby at_23) hr
theorem d1_0 : DK cB1 0 (.iload_n 0) 1 := by decide +kernel
theorem d1_1 : DK cB1 1 (.ifCond .ne 29) 3 := by decide +kernel
theorem d1_4 : DK cB1 4 (.new 27) 3 := by decide +kernel
theorem d1_7 : DK cB1 7 (.dup) 1 := by decide +kernel
theorem d1_8 : DK cB1 8 (.iconst 3) 1 := by decide +kernel
theorem d1_9 : DK cB1 9 (.newarray .char) 2 := by decide +kernel
theorem d1_11 : DK cB1 11 (.dup) 1 := by decide +kernel
theorem d1_12 : DK cB1 12 (.iconst 0) 1 := by decide +kernel
theorem d1_13 : DK cB1 13 (.bipush 105) 2 := by decide +kernel
theorem d1_15 : DK cB1 15 (.castore) 1 := by decide +kernel
section OwnSt
variable {p : Program} {l : Launch} {e : Env} {R : Room} {s : State} {m : MethodId} {args : Array Value} {below : List Frame} {meth : Method} {c : Code} {T : State} {locs : List Loc} {cells slots : Nat} {Z : State} {h h0 : Heap} {a : Addr} {k : ClassId} {z j x : Int32} {vs : List Value} {d : Value}
theorem own_stC (X : Stand p l e R s m args below meth c T locs cells slots) (hx : p.tables.exec = Jvm.exec) (hZ : Z.Warmed39 s.vm) (eT : T.heap = h) (K : Keep h0 h [a]) (V : Arv Z h a k .char z vs d) {n0 : Nat} (N : Fr n0 locs) (ge : n0 ≤ a) (i : Nat) (hj : j.toNatClampNeg = i) (hi : i < vs.length) (q : ¬ j < 0 ∧ j < z)
    {g : JFrame} (hg : g.method = m) {rest : List Value} (hs : g.stack = .int x :: .int j :: .ref a :: rest) (hd : decode c.code g.pc = .ok (.castore, 1)) :
    ∃ T' h' L, Stand p l e R s m args below meth c T' L cells slots ∧ T'.heap = h' ∧ Fr n0 L ∧ Keep h0 h' [a] ∧ Arv Z h' a k .char z (vs.set i (.int (nar .char x))) d ∧ ∀ target, Steps p.tables e below (T'.setTop { g with pc := g.pc + 1, stack := rest }) target → Steps p.tables e below (T.setTop g) target := by
  obtain ⟨cl, Ar, q1, S, Nz, H, G⟩ := V
  obtain ⟨T', h', X', e', W, st⟩ := stC X hx hZ eT Ar (inb_of S q) hg hs hd
  exact ⟨T', h', _, X', e', Fr.snoc X' N ge, K.wr W (Or.inl (List.mem_singleton.mpr rfl)), Arv.set Ar q1 S Nz H G (fits_nar_char _) W i hj hi, st⟩
end OwnSt
theorem d1_16 : DK cB1 16 (.dup) 1 := by decide +kernel
theorem d1_17 : DK cB1 17 (.iconst 1) 1 := by decide +kernel
theorem d1_18 : DK cB1 18 (.bipush 51) 2 := by decide +kernel
theorem d1_20 : DK cB1 20 (.castore) 1 := by decide +kernel
theorem d1_21 : DK cB1 21 (.dup) 1 := by decide +kernel
theorem d1_22 : DK cB1 22 (.iconst 2) 1 := by decide +kernel
theorem d1_23 : DK cB1 23 (.bipush 50) 2 := by decide +kernel
theorem d1_25 : DK cB1 25 (.castore) 1 := by decide +kernel
theorem d1_26 : DK cB1 26 (.invokespecial 29) 3 := by decide +kernel
theorem pd___C_V : parseMethodDescriptor "([C)V" = some ⟨[(.array .char)], none⟩ := by decide +kernel
theorem d1_29 : DK cB1 29 (.areturn) 1 := by decide +kernel
def Q1_1 (Z : State) (x0 : Int32) (h0 : Heap) (n0 : Nat) (v : Option Value) (h : Heap) (L : List Loc) : Prop := ∃ (b1 b24_0 : Addr) (k24_0 : ClassId), v = some (.ref b1) ∧ Fr n0 L ∧ Keep h0 h [] ∧ h0.size ≤ b1 ∧ Exa Z h b1 "java/lang/String" ∧ Fld Z h b1 "java/lang/String" "coder" "B" vI0 ∧ Fld Z h b1 "java/lang/String" "value" "[B" (.ref b24_0) ∧ h0.size ≤ b24_0 ∧ Arv Z h b24_0 k24_0 .byte (3 : Int32) [vI105, vI51, vI50] vI0 ∧ Exa Z h b24_0 "[B" ∧ b1 ≠ b24_0
theorem rm1_1 (l : Launch) (Z : State) (a0 : Array Value) (hw : own_HW a0 Z) (ws : List Jvm.Cond) (x0 : Int32) (h0 : Heap) (n0 : Nat) (O0 : Old Z n0 h0) (f17 : Sta Z Z.heap "java/lang/String" "COMPACT_STRINGS" "Z" (.int x0)) (hc21 : ¬ (x0 = (0 : Int32))) :
    own_MF l mN3 method_4_code 1 (some (.object "java/lang/String")) ws rR4_3_10_66 Z h0 #[vI0] (Q1_1 Z x0 h0 n0) := by
  refine own_open (plainFor_of_name pn_com_example_wiregather_wiregather_wire_FieldTypeOfLabelPinLaw) (L0 := #[lV vI0]) (fun _ => by first | (simp [entryFrame, mkF, argsToLocals, Value.category]; done) | rfl) ?_
  intro p e s m below meth c s₁ hx hby hml hret hnn hZ hown X0 e0
  have N0 := Fr.nil n0; have w := @ww Z a0 hw
  obtain ⟨T1, h1, X1, e1, E1, A1, D1, -, st1⟩ := newO X0 hx hZ hown (w 4 rfl) (w 5 rfl) (w 6 rfl) e0 (g := (mkF m 4 #[lV vI0] [])) rfl (hb hby d1_4) (by decide) (by decide)
  obtain ⟨b1, g1⟩ : ∃ z, z = h0.size := ⟨_, rfl⟩
  rw [← g1] at A1 D1 st1
  have f2 : Fld Z h1 b1 "java/lang/String" "coder" "B" vI0 := D1 (Or.inr (w 31 rfl)) (ty := .byte) (by decide)
  have f3 : Fld Z h1 b1 "java/lang/String" "value" "[B" .null := D1 (Or.inr (w 33 rfl)) (ty := (.array .byte)) (by decide)
  obtain ⟨T4, h4, k4, X4, e4, E4, A4, B4, st4⟩ := newPE X1 hx hZ (w 7 rfl) e1 (g := (mkF m 9 #[lV vI0] [vI3, (.ref b1), (.ref b1)])) rfl (hb hby d1_9) rfl (by decide) (cap := 3) (by decide) (by decide) (by decide) (by decide) (ad := "[C") rfl
  obtain ⟨b4, g4⟩ : ∃ z, z = h1.size := ⟨_, rfl⟩
  rw [← g4] at A4 B4 st4
  have V4 : Arv Z h4 b4 k4 .char (3 : Int32) [vI0, vI0, vI0] vI0 := (Arv.new A4 (by decide)).pad (pad_rep [] vI0 3)
  have o7 := Old.ext O0 E1
  have zz6 : n0 ≤ h1.size := by rw [← o7.1]; exact o7.2.1
  have g8 := Nat.le_trans zz6 (Nat.le_of_eq g4.symm)
  obtain ⟨T9, h9, L9, X9, e9, N9, K9, V9, st9⟩ := own_stC X4 hx hZ e4 (Keep.refl _ _) V4 N0 g8 0 rfl (Nat.le_of_ble_eq_true rfl) ⟨by decide, by decide⟩ (g := (mkF m 15 #[lV vI0] [vI105, vI0, (.ref b4), (.ref b4), (.ref b1), (.ref b1)])) rfl rfl (hb hby d1_15)
  obtain ⟨T10, h10, L10, X10, e10, N10, K10, V10, st10⟩ := own_stC X9 hx hZ e9 K9 V9 N9 g8 1 rfl (Nat.le_of_ble_eq_true rfl) ⟨by decide, by decide⟩ (g := (mkF m 20 #[lV vI0] [vI51, vI1, (.ref b4), (.ref b4), (.ref b1), (.ref b1)])) rfl rfl (hb hby d1_20)
  obtain ⟨T11, h11, L11, X11, e11, N11, K11, V11, st11⟩ := own_stC X10 hx hZ e10 K10 V10 N10 g8 2 rfl (Nat.le_of_ble_eq_true rfl) ⟨by decide, by decide⟩ (g := (mkF m 25 #[lV vI0] [vI50, vI2, (.ref b4), (.ref b4), (.ref b1), (.ref b1)])) rfl rfl (hb hby d1_25)
  have f12 : Arv Z h11 b4 k4 .char (3 : Int32) [vI105, vI51, vI50] vI0 := V11
  have f13 := ((A1.ext E4).keep K11)
  have n14 := Nat.ne_of_lt (Nat.lt_of_lt_of_le A1.lt (Nat.le_of_eq g4.symm))
  have f15 := ((f3.ext E4).keep K11 (ninS n14 nin0))
  have f16 := ((f2.ext E4).keep K11 (ninS n14 nin0))
  have o18 := Old.ext o7 E4
  have o19 := Old.keep o18 K11 (allS g8 all0)
  have f20 := f17.ext o19.2
  have zz22 : n0 ≤ h0.size := by rw [← O0.1]; exact O0.2.1
  have g23 := Nat.le_trans zz22 (Nat.le_of_eq g1.symm)
  obtain ⟨_, T24, Lc24, X24, hQ24, st24⟩ := own_fin (X11.specialBack hx (y := mN4) rfl hown (mvT hZ (w 8 rfl)) (mvT hZ (w 9 rfl)) (mvT hZ (w 10 rfl)) (by decide) (own_newStr hZ hw (w 5 rfl) (cs := [(105 : Int32), (51 : Int32), (50 : Int32)]) (n := 3) g23 f13 f15 f16 f12 f20 hc21 rfl rfl (by decide) (by decide) (own_acS (by decide : ¬ ((255 : Int32) < (105 : Int32))) (own_acS (by decide : ¬ ((255 : Int32) < (51 : Int32))) (own_acS (by decide : ¬ ((255 : Int32) < (50 : Int32))) own_ac0))) (own_bsS (by decide : ((105 : Int32)).toInt8.toInt32 = (105 : Int32)) (own_bsS (by decide : ((51 : Int32)).toInt8.toInt32 = (51 : Int32)) (own_bsS (by decide : ((50 : Int32)).toInt8.toInt32 = (50 : Int32)) own_bs0))) (by decide) (by decide : 1 + 65 ≤ _)) (g := (mkF m 26 #[lV vI0] [(.ref b4), (.ref b1), (.ref b1)])) rfl (by rw [hml]; rfl) (Steps.refl _) (a := b1) (argsL := [(.ref b4)]) (rest := [(.ref b1)]) (lenOf pd___C_V rfl) rfl (own_W rfl) (hb hby d1_26) (fun _ _ => ⟨rfl, e11, (by decide : 2 + 1 ≤ _), (by decide : 7 + 3 ≤ _)⟩))
  obtain ⟨b24_0, k24_0, rfl, N24q, K24, f25, f26, f27, f28, f29, f30⟩ := hQ24
  have N24 := Fr.app N11 N24q
  have f31 := (f13.keep K24)
  have zs32 := E1.1
  have zs33 := Nat.le_trans zs32 E4.1
  have zs34 := Nat.le_trans zs33 K11.1
  have zs35 := E4.1
  have zs36 := Nat.le_trans zs35 K11.1
  have n37 := Nat.ne_of_lt (Nat.lt_of_lt_of_le (Nat.lt_of_lt_of_le A1.lt zs36) f27)
  have kp38 : Keep h0 h1 [] := (Keep.refl h0 []).ext E1
  have kp39 : Keep h0 h4 [] := kp38.ext E4
  have kp40 : Keep h0 h11 [] := kp39.trans K11 (allS (Or.inr (Nat.le_trans zs32 (Nat.le_of_eq g4.symm))) all0)
  have kp41 : Keep h0 T24.heap [] := kp40.trans K24 (allS (Or.inr (Nat.le_of_eq g1.symm)) all0)
  refine ⟨some (.ref b1), _, _, _, _, nofun, X24, by decide, by decide, ?_, fun fs hr => ?_⟩
  · exact ⟨b1, b24_0, k24_0, rfl, N24, kp41, (Nat.le_of_eq g1.symm), f31, f25, f26, (Nat.le_trans zs34 f27), f28, f29, n37⟩
  · show SG p e below s₁ (mkF m 0 #[lV vI0] []) _
    refine qiN X0 hx hby d1_0 ?_
    refine XS.ifNo X0.here hx rfl (hb hby d1_1) rfl ((if0 _ _).trans (teq (rfl : (0 : Int32) = (0 : Int32))).2) ?_
    refine st1 _ ?_
    show SG p e below T1 (mkF m 7 #[lV vI0] [(.ref b1)]) _
    refine qd X1 hx hby d1_7 ?_
    refine qc X1 hx hby d1_8 ?_
    refine st4 _ ?_
    show SG p e below T4 (mkF m 11 #[lV vI0] [(.ref b4), (.ref b1), (.ref b1)]) _
    refine qd X4 hx hby d1_11 ?_
    refine qc X4 hx hby d1_12 ?_
    refine qb X4 hx hby d1_13 ?_
    refine st9 _ ?_
    show SG p e below T9 (mkF m 16 #[lV vI0] [(.ref b4), (.ref b1), (.ref b1)]) _
    refine qd X9 hx hby d1_16 ?_
    refine qc X9 hx hby d1_17 ?_
    refine qb X9 hx hby d1_18 ?_
    refine st10 _ ?_
    show SG p e below T10 (mkF m 21 #[lV vI0] [(.ref b4), (.ref b1), (.ref b1)]) _
    refine qd X10 hx hby d1_21 ?_
    refine qc X10 hx hby d1_22 ?_
    refine qb X10 hx hby d1_23 ?_
    refine st11 _ ?_
    show SG p e below T11 (mkF m 26 #[lV vI0] [(.ref b4), (.ref b1), (.ref b1)]) _
    refine st24.trans ?_
    show SG p e below T24 (mkF m 29 #[lV vI0] [(.ref b1)]) _
    exact retOut X24 hx (i := .areturn) hret rfl (Or.inr (Or.inr (Or.inr (Or.inr ⟨rfl, rfl, rfl⟩)))) (hb hby d1_29) hr
theorem pd__I_Ljava_lang_String_ : parseMethodDescriptor "(I)Ljava/lang/String;" = some ⟨[.int], some (.object "java/lang/String")⟩ := by decide +kernel
theorem d8_36 : DK cB8 36 (.aload 5) 2 := by decide +kernel
theorem d8_38 : DK cB8 38 (.astore_n 1) 1 := by decide +kernel
def Q8_2 (Z : State) (r0 r1 : Addr) (c2 : ClassId) (r3 r4 : Addr) (r5 r6 : Addr) (r7 r8 : Addr) (r9 r10 : Addr) (c11 : ClassId) (r12 : Addr) (c13 : ClassId) (x14 : Int32) (t15 : List Int32) (x16 : Int32) (r17 r18 : Addr) (c19 : ClassId) (r20 r21 : Addr) (c22 : ClassId) (r23 r24 : Addr) (c25 : ClassId) (r26 r27 : Addr) (c28 : ClassId) (r29 r30 : Addr) (c31 : ClassId) (h0 : Heap) (n0 : Nat) (v : Option Value) (h : Heap) (L : List Loc) : Prop := v = some (.ref r3) ∧ Fr n0 L ∧ Keep h0 h []
theorem rm8_2 (l : Launch) (Z : State) (a0 : Array Value) (hw : own_HW a0 Z) (ws : List Jvm.Cond) (r0 r1 : Addr) (c2 : ClassId) (r3 r4 : Addr) (r5 r6 : Addr) (r7 r8 : Addr) (r9 r10 : Addr) (c11 : ClassId) (r12 : Addr) (c13 : ClassId) (x14 : Int32) (t15 : List Int32) (x16 : Int32) (r17 r18 : Addr) (c19 : ClassId) (r20 r21 : Addr) (c22 : ClassId) (r23 r24 : Addr) (c25 : ClassId) (r26 r27 : Addr) (c28 : ClassId) (r29 r30 : Addr) (c31 : ClassId) (h0 : Heap) (n0 : Nat) (O0 : Old Z n0 h0) (f1 : Sta Z Z.heap cs0 "$VALUES" cs1 (.ref r1)) (f2 : Exa Z Z.heap r1 cs1) (f3 : Arv Z Z.heap r1 c2 (.object cs0) (6 : Int32) [(.ref r3), (.ref r4), (.ref r5), (.ref r6), (.ref r7), (.ref r8)] .null) (f10 : Fld Z Z.heap r3 cs0 "label" "Ljava/lang/String;" (.ref r9)) (f14 : Exa Z Z.heap r9 "java/lang/String") (f16 : Fld Z Z.heap r9 "java/lang/String" "coder" "B" vI0) (f18 : Fld Z Z.heap r9 "java/lang/String" "value" "[B" (.ref r10)) (f20 : Arv Z Z.heap r10 c11 .byte (3 : Int32) [vI105, vI51, vI50] vI0) (f22 : Exa Z h0 r0 "java/lang/String") (f24 : Fld Z h0 r0 "java/lang/String" "coder" "B" vI0) (f26 : Fld Z h0 r0 "java/lang/String" "value" "[B" (.ref r12)) (f28 : Arv Z h0 r12 c13 .byte x14 (t15.map Value.int) vI0) (hc30 : x14 = Int32.ofNat t15.length) (hc31 : t15.length ≤ 4000) (f32 : Sta Z Z.heap "java/lang/String" "COMPACT_STRINGS" "Z" (.int x16)) (hc34 : ¬ (x16 = (0 : Int32))) (hc35 : t15 = [(105 : Int32), (51 : Int32), (50 : Int32)]) (f39 : Fld Z Z.heap r4 cs0 "label" "Ljava/lang/String;" (.ref r17)) (f42 : Exa Z Z.heap r17 "java/lang/String") (f44 : Fld Z Z.heap r17 "java/lang/String" "coder" "B" vI0) (f46 : Fld Z Z.heap r17 "java/lang/String" "value" "[B" (.ref r18)) (f48 : Arv Z Z.heap r18 c19 .byte (3 : Int32) [vI117, vI51, vI50] vI0) (hc50 : ¬ (t15 = [(117 : Int32), (51 : Int32), (50 : Int32)])) (f54 : Fld Z Z.heap r5 cs0 "label" "Ljava/lang/String;" (.ref r20)) (f57 : Exa Z Z.heap r20 "java/lang/String") (f59 : Fld Z Z.heap r20 "java/lang/String" "coder" "B" vI0) (f61 : Fld Z Z.heap r20 "java/lang/String" "value" "[B" (.ref r21)) (f63 : Arv Z Z.heap r21 c22 .byte (3 : Int32) [vI102, vI51, vI50] vI0) (hc65 : ¬ (t15 = [(102 : Int32), (51 : Int32), (50 : Int32)])) (f69 : Fld Z Z.heap r6 cs0 "label" "Ljava/lang/String;" (.ref r23)) (f72 : Exa Z Z.heap r23 "java/lang/String") (f74 : Fld Z Z.heap r23 "java/lang/String" "coder" "B" vI0) (f76 : Fld Z Z.heap r23 "java/lang/String" "value" "[B" (.ref r24)) (f78 : Arv Z Z.heap r24 c25 .byte (3 : Int32) [vI102, vI54, vI52] vI0) (hc80 : ¬ (t15 = [(102 : Int32), (54 : Int32), (52 : Int32)])) (f84 : Fld Z Z.heap r7 cs0 "label" "Ljava/lang/String;" (.ref r26)) (f87 : Exa Z Z.heap r26 "java/lang/String") (f89 : Fld Z Z.heap r26 "java/lang/String" "coder" "B" vI0) (f91 : Fld Z Z.heap r26 "java/lang/String" "value" "[B" (.ref r27)) (f93 : Arv Z Z.heap r27 c28 .byte (4 : Int32) [vI116, vI101, vI120, vI116] vI0) (hc95 : ¬ (t15 = [(116 : Int32), (101 : Int32), (120 : Int32), (116 : Int32)])) (f99 : Fld Z Z.heap r8 cs0 "label" "Ljava/lang/String;" (.ref r29)) (f102 : Exa Z Z.heap r29 "java/lang/String") (f104 : Fld Z Z.heap r29 "java/lang/String" "coder" "B" vI0) (f106 : Fld Z Z.heap r29 "java/lang/String" "value" "[B" (.ref r30)) (f108 : Arv Z Z.heap r30 c31 .byte (4 : Int32) [vI103, vI117, vI105, vI100] vI0) (hc110 : ¬ (t15 = [(103 : Int32), (117 : Int32), (105 : Int32), (100 : Int32)])) :
    own_MF l mN2 prog_72_method_8_code 6 (some (.object cs0)) ws rR2_1_6_28 Z h0 #[(.ref r0)] (Q8_2 Z r0 r1 c2 r3 r4 r5 r6 r7 r8 r9 r10 c11 r12 c13 x14 t15 x16 r17 r18 c19 r20 r21 c22 r23 r24 c25 r26 r27 c28 r29 r30 c31 h0 n0) := by
  refine own_open (plainFor_of_name pn_com_example_wiregather_wiregather_wire_FieldType) (L0 := #[lR r0, lU, lU, lU, lU, lU]) (fun _ => by first | (simp [entryFrame, mkF, argsToLocals, Value.category]; done) | rfl) ?_
  intro p e s m below meth c s₁ hx hby hml hret hnn hZ hown X0 e0
  have N0 := Fr.nil n0; have w := @ww Z a0 hw
  obtain ⟨_, T4, Lc4, X4, hQ4, st4⟩ := own_cS X0 hx hZ hown e0 (rm9_1 l Z a0 hw [] r1 c2 r3 r4 r5 r6 r7 r8 h0 n0 O0 f1 f2 f3) (w 38 rfl) (w 39 rfl) (w 36 rfl) (w 40 rfl) (by decide) (W := 0) (by decide) (by decide) (by decide) (by decide) (g := (mkF m 2 #[lR r0, .val .null, lU, lU, lU, lU] [])) rfl (by rw [hml]; rfl) (argsL := []) (rest := []) (lenOf pd____Lcom_example_wiregather_wiregather_wire_FieldType_ rfl) rfl (own_W rfl) (hb hby d8_2)
  obtain ⟨b4_0, rfl, N4q, K4, f5, f6, f7⟩ := hQ4
  have N4 := Fr.app N0 N4q
  obtain ⟨clq8, Arq8, qq8, Sq8, Nq8, Hq8, Gq8⟩ := id f7
  obtain ⟨clq9, Arq9, qq9, Sq9, Nq9, Hq9, Gq9⟩ := id f7
  have o11 := Old.keep O0 K4 all0
  have f12 := f10.ext o11.2
  obtain ⟨T13, X13, e13, st13⟩ := getF X4 hx hZ hown (host := "") (Or.inl (w 59 rfl)) Via.refl rfl f12 (g := (mkF m 26 #[lR r0, .val .null, lR b4_0, lV vI6, lV vI0, lR r3] [(.ref r3)])) rfl rfl (hb hby d8_26)
  have f15 := f14.ext o11.2
  have f17 := f16.ext o11.2
  have f19 := f18.ext o11.2
  have f21 := f20.ext o11.2
  have f23 := (f22.keep K4)
  have f25 := (f24.keep K4 nin0)
  have f27 := (f26.keep K4 nin0)
  have f29 := (f28.keep K4 nin0)
  have f33 := f32.ext o11.2
  obtain ⟨cqq37, kqq37, qq37a, qq37b, qq37c⟩ := isOf hZ e13 f15
  obtain ⟨_, T36, Lc36, X36, hQ36, st36⟩ := own_fin (X13.virtualBack hx (y := mN1) (z := mN1) hown (mvT hZ (w 61 rfl)) (mvT hZ (w 62 rfl)) (notFace_of_selects (args := #[]) (mvT hZ (w 64 rfl))) (mvT hZ (w 64 rfl)) (mvT hZ (w 63 rfl)) (by decide) (own_strEq hZ hw (w 5 rfl) (bs := [(105 : Int32), (51 : Int32), (50 : Int32)]) f15 f19 f17 f21 (own_ofLen (n := 3) (by decide) rfl) (Nat.le_of_ble_eq_true rfl) (ds := t15) f23 f27 f25 f29 hc30 hc31 f33 hc34 (r := 1) (n0 := n0) (Or.inl ⟨rfl, (Eq.symm hc35)⟩) (by decide) (by decide : 0 + 28 ≤ _)) qq37a qq37c (g := (mkF m 30 #[lR r0, .val .null, lR b4_0, lV vI6, lV vI0, lR r3] [(.ref r0), (.ref r9)])) rfl (by rw [hml]; rfl) (Steps.refl _) (argsL := [(.ref r0)]) (rest := []) (lenOf pd__Ljava_lang_Object__Z rfl) rfl (own_W rfl) (hb hby d8_30) (fun _ _ => ⟨rfl, e13, (by decide : 1 + 0 ≤ _), (by decide : 6 + 0 ≤ _)⟩))
  obtain ⟨rfl, N36q, E36⟩ := hQ36
  have N36 := Fr.app N4 N36q
  obtain ⟨clq38, Arq38, qq38, Sq38, Nq38, Hq38, Gq38⟩ := id f7
  have f40 := f39.ext o11.2
  obtain ⟨T41, X41, e41, st41⟩ := getF X36 hx hZ hown (host := "") (Or.inl (w 59 rfl)) Via.refl E36 f40 (g := (mkF m 26 #[lR r0, lR r3, lR b4_0, lV vI6, lV vI1, lR r4] [(.ref r4)])) rfl rfl (hb hby d8_26)
  have f43 := f42.ext o11.2
  have f45 := f44.ext o11.2
  have f47 := f46.ext o11.2
  have f49 := f48.ext o11.2
  obtain ⟨cqq52, kqq52, qq52a, qq52b, qq52c⟩ := isOf hZ e41 f43
  obtain ⟨_, T51, Lc51, X51, hQ51, st51⟩ := own_fin (X41.virtualBack hx (y := mN1) (z := mN1) hown (mvT hZ (w 61 rfl)) (mvT hZ (w 62 rfl)) (notFace_of_selects (args := #[]) (mvT hZ (w 64 rfl))) (mvT hZ (w 64 rfl)) (mvT hZ (w 63 rfl)) (by decide) (own_strEq hZ hw (w 5 rfl) (bs := [(117 : Int32), (51 : Int32), (50 : Int32)]) f43 f47 f45 f49 (own_ofLen (n := 3) (by decide) rfl) (Nat.le_of_ble_eq_true rfl) (ds := t15) f23 f27 f25 f29 hc30 hc31 f33 hc34 (r := 0) (n0 := n0) (Or.inr ⟨rfl, fun q => hc50 (Eq.symm q)⟩) (by decide) (by decide : 0 + 28 ≤ _)) qq52a qq52c (g := (mkF m 30 #[lR r0, lR r3, lR b4_0, lV vI6, lV vI1, lR r4] [(.ref r0), (.ref r17)])) rfl (by rw [hml]; rfl) (Steps.refl _) (argsL := [(.ref r0)]) (rest := []) (lenOf pd__Ljava_lang_Object__Z rfl) rfl (own_W rfl) (hb hby d8_30) (fun _ _ => ⟨rfl, e41, (by decide : 1 + 0 ≤ _), (by decide : 6 + 0 ≤ _)⟩))
  obtain ⟨rfl, N51q, E51⟩ := hQ51
  have N51 := Fr.app N36 N51q
  obtain ⟨clq53, Arq53, qq53, Sq53, Nq53, Hq53, Gq53⟩ := id f7
  have f55 := f54.ext o11.2
  obtain ⟨T56, X56, e56, st56⟩ := getF X51 hx hZ hown (host := "") (Or.inl (w 59 rfl)) Via.refl E51 f55 (g := (mkF m 26 #[lR r0, lR r3, lR b4_0, lV vI6, lV vI2, lR r5] [(.ref r5)])) rfl rfl (hb hby d8_26)
  have f58 := f57.ext o11.2
  have f60 := f59.ext o11.2
  have f62 := f61.ext o11.2
  have f64 := f63.ext o11.2
  obtain ⟨cqq67, kqq67, qq67a, qq67b, qq67c⟩ := isOf hZ e56 f58
  obtain ⟨_, T66, Lc66, X66, hQ66, st66⟩ := own_fin (X56.virtualBack hx (y := mN1) (z := mN1) hown (mvT hZ (w 61 rfl)) (mvT hZ (w 62 rfl)) (notFace_of_selects (args := #[]) (mvT hZ (w 64 rfl))) (mvT hZ (w 64 rfl)) (mvT hZ (w 63 rfl)) (by decide) (own_strEq hZ hw (w 5 rfl) (bs := [(102 : Int32), (51 : Int32), (50 : Int32)]) f58 f62 f60 f64 (own_ofLen (n := 3) (by decide) rfl) (Nat.le_of_ble_eq_true rfl) (ds := t15) f23 f27 f25 f29 hc30 hc31 f33 hc34 (r := 0) (n0 := n0) (Or.inr ⟨rfl, fun q => hc65 (Eq.symm q)⟩) (by decide) (by decide : 0 + 28 ≤ _)) qq67a qq67c (g := (mkF m 30 #[lR r0, lR r3, lR b4_0, lV vI6, lV vI2, lR r5] [(.ref r0), (.ref r20)])) rfl (by rw [hml]; rfl) (Steps.refl _) (argsL := [(.ref r0)]) (rest := []) (lenOf pd__Ljava_lang_Object__Z rfl) rfl (own_W rfl) (hb hby d8_30) (fun _ _ => ⟨rfl, e56, (by decide : 1 + 0 ≤ _), (by decide : 6 + 0 ≤ _)⟩))
  obtain ⟨rfl, N66q, E66⟩ := hQ66
  have N66 := Fr.app N51 N66q
  obtain ⟨clq68, Arq68, qq68, Sq68, Nq68, Hq68, Gq68⟩ := id f7
  have f70 := f69.ext o11.2
  obtain ⟨T71, X71, e71, st71⟩ := getF X66 hx hZ hown (host := "") (Or.inl (w 59 rfl)) Via.refl E66 f70 (g := (mkF m 26 #[lR r0, lR r3, lR b4_0, lV vI6, lV vI3, lR r6] [(.ref r6)])) rfl rfl (hb hby d8_26)
  have f73 := f72.ext o11.2
  have f75 := f74.ext o11.2
  have f77 := f76.ext o11.2
  have f79 := f78.ext o11.2
  obtain ⟨cqq82, kqq82, qq82a, qq82b, qq82c⟩ := isOf hZ e71 f73
  obtain ⟨_, T81, Lc81, X81, hQ81, st81⟩ := own_fin (X71.virtualBack hx (y := mN1) (z := mN1) hown (mvT hZ (w 61 rfl)) (mvT hZ (w 62 rfl)) (notFace_of_selects (args := #[]) (mvT hZ (w 64 rfl))) (mvT hZ (w 64 rfl)) (mvT hZ (w 63 rfl)) (by decide) (own_strEq hZ hw (w 5 rfl) (bs := [(102 : Int32), (54 : Int32), (52 : Int32)]) f73 f77 f75 f79 (own_ofLen (n := 3) (by decide) rfl) (Nat.le_of_ble_eq_true rfl) (ds := t15) f23 f27 f25 f29 hc30 hc31 f33 hc34 (r := 0) (n0 := n0) (Or.inr ⟨rfl, fun q => hc80 (Eq.symm q)⟩) (by decide) (by decide : 0 + 28 ≤ _)) qq82a qq82c (g := (mkF m 30 #[lR r0, lR r3, lR b4_0, lV vI6, lV vI3, lR r6] [(.ref r0), (.ref r23)])) rfl (by rw [hml]; rfl) (Steps.refl _) (argsL := [(.ref r0)]) (rest := []) (lenOf pd__Ljava_lang_Object__Z rfl) rfl (own_W rfl) (hb hby d8_30) (fun _ _ => ⟨rfl, e71, (by decide : 1 + 0 ≤ _), (by decide : 6 + 0 ≤ _)⟩))
  obtain ⟨rfl, N81q, E81⟩ := hQ81
  have N81 := Fr.app N66 N81q
  obtain ⟨clq83, Arq83, qq83, Sq83, Nq83, Hq83, Gq83⟩ := id f7
  have f85 := f84.ext o11.2
  obtain ⟨T86, X86, e86, st86⟩ := getF X81 hx hZ hown (host := "") (Or.inl (w 59 rfl)) Via.refl E81 f85 (g := (mkF m 26 #[lR r0, lR r3, lR b4_0, lV vI6, lV vI4, lR r7] [(.ref r7)])) rfl rfl (hb hby d8_26)
  have f88 := f87.ext o11.2
  have f90 := f89.ext o11.2
  have f92 := f91.ext o11.2
  have f94 := f93.ext o11.2
  obtain ⟨cqq97, kqq97, qq97a, qq97b, qq97c⟩ := isOf hZ e86 f88
  obtain ⟨_, T96, Lc96, X96, hQ96, st96⟩ := own_fin (X86.virtualBack hx (y := mN1) (z := mN1) hown (mvT hZ (w 61 rfl)) (mvT hZ (w 62 rfl)) (notFace_of_selects (args := #[]) (mvT hZ (w 64 rfl))) (mvT hZ (w 64 rfl)) (mvT hZ (w 63 rfl)) (by decide) (own_strEq hZ hw (w 5 rfl) (bs := [(116 : Int32), (101 : Int32), (120 : Int32), (116 : Int32)]) f88 f92 f90 f94 (own_ofLen (n := 4) (by decide) rfl) (Nat.le_of_ble_eq_true rfl) (ds := t15) f23 f27 f25 f29 hc30 hc31 f33 hc34 (r := 0) (n0 := n0) (Or.inr ⟨rfl, fun q => hc95 (Eq.symm q)⟩) (by decide) (by decide : 0 + 28 ≤ _)) qq97a qq97c (g := (mkF m 30 #[lR r0, lR r3, lR b4_0, lV vI6, lV vI4, lR r7] [(.ref r0), (.ref r26)])) rfl (by rw [hml]; rfl) (Steps.refl _) (argsL := [(.ref r0)]) (rest := []) (lenOf pd__Ljava_lang_Object__Z rfl) rfl (own_W rfl) (hb hby d8_30) (fun _ _ => ⟨rfl, e86, (by decide : 1 + 0 ≤ _), (by decide : 6 + 0 ≤ _)⟩))
  obtain ⟨rfl, N96q, E96⟩ := hQ96
  have N96 := Fr.app N81 N96q
  obtain ⟨clq98, Arq98, qq98, Sq98, Nq98, Hq98, Gq98⟩ := id f7
  have f100 := f99.ext o11.2
  obtain ⟨T101, X101, e101, st101⟩ := getF X96 hx hZ hown (host := "") (Or.inl (w 59 rfl)) Via.refl E96 f100 (g := (mkF m 26 #[lR r0, lR r3, lR b4_0, lV vI6, lV vI5, lR r8] [(.ref r8)])) rfl rfl (hb hby d8_26)
  have f103 := f102.ext o11.2
  have f105 := f104.ext o11.2
  have f107 := f106.ext o11.2
  have f109 := f108.ext o11.2
  obtain ⟨cqq112, kqq112, qq112a, qq112b, qq112c⟩ := isOf hZ e101 f103
  obtain ⟨_, T111, Lc111, X111, hQ111, st111⟩ := own_fin (X101.virtualBack hx (y := mN1) (z := mN1) hown (mvT hZ (w 61 rfl)) (mvT hZ (w 62 rfl)) (notFace_of_selects (args := #[]) (mvT hZ (w 64 rfl))) (mvT hZ (w 64 rfl)) (mvT hZ (w 63 rfl)) (by decide) (own_strEq hZ hw (w 5 rfl) (bs := [(103 : Int32), (117 : Int32), (105 : Int32), (100 : Int32)]) f103 f107 f105 f109 (own_ofLen (n := 4) (by decide) rfl) (Nat.le_of_ble_eq_true rfl) (ds := t15) f23 f27 f25 f29 hc30 hc31 f33 hc34 (r := 0) (n0 := n0) (Or.inr ⟨rfl, fun q => hc110 (Eq.symm q)⟩) (by decide) (by decide : 0 + 28 ≤ _)) qq112a qq112c (g := (mkF m 30 #[lR r0, lR r3, lR b4_0, lV vI6, lV vI5, lR r8] [(.ref r0), (.ref r29)])) rfl (by rw [hml]; rfl) (Steps.refl _) (argsL := [(.ref r0)]) (rest := []) (lenOf pd__Ljava_lang_Object__Z rfl) rfl (own_W rfl) (hb hby d8_30) (fun _ _ => ⟨rfl, e101, (by decide : 1 + 0 ≤ _), (by decide : 6 + 0 ≤ _)⟩))
  obtain ⟨rfl, N111q, E111⟩ := hQ111
  have N111 := Fr.app N96 N111q
  have kp113 : Keep h0 T4.heap [] := (Keep.refl h0 []).trans K4 all0
  refine ⟨some (.ref r3), _, _, _, _, nofun, X111, by decide, by decide, ?_, fun fs hr => ?_⟩
  · rw [E111]; exact ⟨rfl, N111, kp113⟩
  · show SG p e below s₁ (mkF m 0 #[lR r0, lU, lU, lU, lU, lU] []) _
    refine XS.aconstNull X0.here hx rfl (hb hby d8_0) ?_
    refine XS.astoreN X0.here hx rfl (hb hby d8_1) rfl rfl (l' := #[lR r0, .val .null, lU, lU, lU, lU]) rfl ?_
    refine st4 _ ?_
    show SG p e below T4 (mkF m 5 #[lR r0, .val .null, lU, lU, lU, lU] [(.ref b4_0)]) _
    refine XS.astoreN X4.here hx rfl (hb hby d8_5) rfl rfl (l' := #[lR r0, .val .null, lR b4_0, lU, lU, lU]) rfl ?_
    refine qaN X4 hx hby d8_6 ?_
    refine X4.arraylength hx (Arq8.1) (State.isArrayOf_alike hZ.alike Arq8.2.1) (g := (mkF m 7 #[lR r0, .val .null, lR b4_0, lU, lU, lU] [(.ref b4_0)])) rfl rfl (hb hby d8_7) _ ?_
    rw [len_of Sq8 Nq8]
    show SG p e below T4 (mkF m 8 #[lR r0, .val .null, lR b4_0, lU, lU, lU] [vI6]) _
    refine XS.istoreN X4.here hx rfl (hb hby d8_8) rfl (l' := #[lR r0, .val .null, lR b4_0, lV vI6, lU, lU]) rfl ?_
    refine qc X4 hx hby d8_9 ?_
    refine XS.istore X4.here hx rfl (hb hby d8_10) rfl (l' := #[lR r0, .val .null, lR b4_0, lV vI6, lV vI0, lU]) rfl ?_
    refine qi X4 hx hby d8_12 ?_
    refine qiN X4 hx hby d8_14 ?_
    refine XS.icmpNo X4.here hx rfl (hb hby d8_15) rfl (tlt (by decide : (0 : Int32) < (6 : Int32))).2.1 ?_
    refine qaN X4 hx hby d8_18 ?_
    refine qi X4 hx hby d8_19 ?_
    show SG p e below T4 (mkF m 21 #[lR r0, .val .null, lR b4_0, lV vI6, lV vI0, lU] [vI0, (.ref b4_0)]) _
    refine X4.aaload hx (j := (0 : Int32)) (v := (.ref r3)) (Arq9.1) (State.isArrayOf_alike hZ.alike Arq9.2.1) rfl Arq9.2.2 (inb_of Sq9 ⟨(by decide : ¬ ((0 : Int32) < (0 : Int32))), (by decide : (0 : Int32) < (6 : Int32))⟩) (Has.at Hq9 (inb_of Sq9 ⟨(by decide : ¬ ((0 : Int32) < (0 : Int32))), (by decide : (0 : Int32) < (6 : Int32))⟩) rfl) (g := (mkF m 21 #[lR r0, .val .null, lR b4_0, lV vI6, lV vI0, lU] [vI0, (.ref b4_0)])) rfl rfl (hb hby d8_21) _ ?_
    show SG p e below T4 (mkF m 22 #[lR r0, .val .null, lR b4_0, lV vI6, lV vI0, lU] [(.ref r3)]) _
    refine XS.astore X4.here hx rfl (hb hby d8_22) rfl rfl (l' := #[lR r0, .val .null, lR b4_0, lV vI6, lV vI0, lR r3]) rfl ?_
    refine qa X4 hx hby d8_24 ?_
    refine st13 _ ?_
    show SG p e below T13 (mkF m 29 #[lR r0, .val .null, lR b4_0, lV vI6, lV vI0, lR r3] [(.ref r9)]) _
    refine qaN X13 hx hby d8_29 ?_
    refine st36.trans ?_
    show SG p e below T36 (mkF m 33 #[lR r0, .val .null, lR b4_0, lV vI6, lV vI0, lR r3] [vI1]) _
    refine XS.ifNo X36.here hx rfl (hb hby d8_33) rfl ((if0 _ _).trans (feq (by decide : ¬ ((1 : Int32) = (0 : Int32)))).1) ?_
    refine qa X36 hx hby d8_36 ?_
    refine XS.astoreN X36.here hx rfl (hb hby d8_38) rfl rfl (l' := #[lR r0, lR r3, lR b4_0, lV vI6, lV vI0, lR r3]) rfl ?_
    refine XS.iinc X36.here hx rfl (hb hby d8_39) rfl (l' := #[lR r0, lR r3, lR b4_0, lV vI6, lV vI1, lR r3]) rfl ?_
    refine XS.goto X36.here hx rfl (pc0 := 42) (pc' := 12) rfl (hb hby d8_42) (by decide) (by decide) ?_
    show SG p e below T36 (mkF m 12 #[lR r0, lR r3, lR b4_0, lV vI6, lV vI1, lR r3] []) _
    refine qi X36 hx hby d8_12 ?_
    refine qiN X36 hx hby d8_14 ?_
    refine XS.icmpNo X36.here hx rfl (hb hby d8_15) rfl (tlt (by decide : (1 : Int32) < (6 : Int32))).2.1 ?_
    refine qaN X36 hx hby d8_18 ?_
    refine qi X36 hx hby d8_19 ?_
    refine X36.aaload hx (j := (1 : Int32)) (v := (.ref r4)) (by rw [E36]; exact Arq38.1) (State.isArrayOf_alike hZ.alike Arq38.2.1) rfl Arq38.2.2 (inb_of Sq38 ⟨(by decide : ¬ ((1 : Int32) < (0 : Int32))), (by decide : (1 : Int32) < (6 : Int32))⟩) (Has.at Hq38 (inb_of Sq38 ⟨(by decide : ¬ ((1 : Int32) < (0 : Int32))), (by decide : (1 : Int32) < (6 : Int32))⟩) rfl) (g := (mkF m 21 #[lR r0, lR r3, lR b4_0, lV vI6, lV vI1, lR r3] [vI1, (.ref b4_0)])) rfl rfl (hb hby d8_21) _ ?_
    show SG p e below T36 (mkF m 22 #[lR r0, lR r3, lR b4_0, lV vI6, lV vI1, lR r3] [(.ref r4)]) _
    refine XS.astore X36.here hx rfl (hb hby d8_22) rfl rfl (l' := #[lR r0, lR r3, lR b4_0, lV vI6, lV vI1, lR r4]) rfl ?_
    refine qa X36 hx hby d8_24 ?_
    refine st41 _ ?_
    show SG p e below T41 (mkF m 29 #[lR r0, lR r3, lR b4_0, lV vI6, lV vI1, lR r4] [(.ref r17)]) _
    refine qaN X41 hx hby d8_29 ?_
    refine st51.trans ?_
    show SG p e below T51 (mkF m 33 #[lR r0, lR r3, lR b4_0, lV vI6, lV vI1, lR r4] [vI0]) _
    refine XS.ifYes X51.here hx rfl (pc0 := 33) (pc' := 39) rfl (hb hby d8_33) rfl ((if0 _ _).trans (teq (rfl : (0 : Int32) = (0 : Int32))).1) (by decide) (by decide) ?_
    show SG p e below T51 (mkF m 39 #[lR r0, lR r3, lR b4_0, lV vI6, lV vI1, lR r4] []) _
    refine XS.iinc X51.here hx rfl (hb hby d8_39) rfl (l' := #[lR r0, lR r3, lR b4_0, lV vI6, lV vI2, lR r4]) rfl ?_
    refine XS.goto X51.here hx rfl (pc0 := 42) (pc' := 12) rfl (hb hby d8_42) (by decide) (by decide) ?_
    show SG p e below T51 (mkF m 12 #[lR r0, lR r3, lR b4_0, lV vI6, lV vI2, lR r4] []) _
    refine qi X51 hx hby d8_12 ?_
    refine qiN X51 hx hby d8_14 ?_
    refine XS.icmpNo X51.here hx rfl (hb hby d8_15) rfl (tlt (by decide : (2 : Int32) < (6 : Int32))).2.1 ?_
    refine qaN X51 hx hby d8_18 ?_
    refine qi X51 hx hby d8_19 ?_
    refine X51.aaload hx (j := (2 : Int32)) (v := (.ref r5)) (by rw [E51]; exact Arq53.1) (State.isArrayOf_alike hZ.alike Arq53.2.1) rfl Arq53.2.2 (inb_of Sq53 ⟨(by decide : ¬ ((2 : Int32) < (0 : Int32))), (by decide : (2 : Int32) < (6 : Int32))⟩) (Has.at Hq53 (inb_of Sq53 ⟨(by decide : ¬ ((2 : Int32) < (0 : Int32))), (by decide : (2 : Int32) < (6 : Int32))⟩) rfl) (g := (mkF m 21 #[lR r0, lR r3, lR b4_0, lV vI6, lV vI2, lR r4] [vI2, (.ref b4_0)])) rfl rfl (hb hby d8_21) _ ?_
    show SG p e below T51 (mkF m 22 #[lR r0, lR r3, lR b4_0, lV vI6, lV vI2, lR r4] [(.ref r5)]) _
    refine XS.astore X51.here hx rfl (hb hby d8_22) rfl rfl (l' := #[lR r0, lR r3, lR b4_0, lV vI6, lV vI2, lR r5]) rfl ?_
    refine qa X51 hx hby d8_24 ?_
    refine st56 _ ?_
    show SG p e below T56 (mkF m 29 #[lR r0, lR r3, lR b4_0, lV vI6, lV vI2, lR r5] [(.ref r20)]) _
    refine qaN X56 hx hby d8_29 ?_
    refine st66.trans ?_
    show SG p e below T66 (mkF m 33 #[lR r0, lR r3, lR b4_0, lV vI6, lV vI2, lR r5] [vI0]) _
    refine XS.ifYes X66.here hx rfl (pc0 := 33) (pc' := 39) rfl (hb hby d8_33) rfl ((if0 _ _).trans (teq (rfl : (0 : Int32) = (0 : Int32))).1) (by decide) (by decide) ?_
    show SG p e below T66 (mkF m 39 #[lR r0, lR r3, lR b4_0, lV vI6, lV vI2, lR r5] []) _
    refine XS.iinc X66.here hx rfl (hb hby d8_39) rfl (l' := #[lR r0, lR r3, lR b4_0, lV vI6, lV vI3, lR r5]) rfl ?_
    refine XS.goto X66.here hx rfl (pc0 := 42) (pc' := 12) rfl (hb hby d8_42) (by decide) (by decide) ?_
    show SG p e below T66 (mkF m 12 #[lR r0, lR r3, lR b4_0, lV vI6, lV vI3, lR r5] []) _
    refine qi X66 hx hby d8_12 ?_
    refine qiN X66 hx hby d8_14 ?_
    refine XS.icmpNo X66.here hx rfl (hb hby d8_15) rfl (tlt (by decide : (3 : Int32) < (6 : Int32))).2.1 ?_
    refine qaN X66 hx hby d8_18 ?_
    refine qi X66 hx hby d8_19 ?_
    refine X66.aaload hx (j := (3 : Int32)) (v := (.ref r6)) (by rw [E66]; exact Arq68.1) (State.isArrayOf_alike hZ.alike Arq68.2.1) rfl Arq68.2.2 (inb_of Sq68 ⟨(by decide : ¬ ((3 : Int32) < (0 : Int32))), (by decide : (3 : Int32) < (6 : Int32))⟩) (Has.at Hq68 (inb_of Sq68 ⟨(by decide : ¬ ((3 : Int32) < (0 : Int32))), (by decide : (3 : Int32) < (6 : Int32))⟩) rfl) (g := (mkF m 21 #[lR r0, lR r3, lR b4_0, lV vI6, lV vI3, lR r5] [vI3, (.ref b4_0)])) rfl rfl (hb hby d8_21) _ ?_
    show SG p e below T66 (mkF m 22 #[lR r0, lR r3, lR b4_0, lV vI6, lV vI3, lR r5] [(.ref r6)]) _
    refine XS.astore X66.here hx rfl (hb hby d8_22) rfl rfl (l' := #[lR r0, lR r3, lR b4_0, lV vI6, lV vI3, lR r6]) rfl ?_
    refine qa X66 hx hby d8_24 ?_
    refine st71 _ ?_
    show SG p e below T71 (mkF m 29 #[lR r0, lR r3, lR b4_0, lV vI6, lV vI3, lR r6] [(.ref r23)]) _
    refine qaN X71 hx hby d8_29 ?_
    refine st81.trans ?_
    show SG p e below T81 (mkF m 33 #[lR r0, lR r3, lR b4_0, lV vI6, lV vI3, lR r6] [vI0]) _
    refine XS.ifYes X81.here hx rfl (pc0 := 33) (pc' := 39) rfl (hb hby d8_33) rfl ((if0 _ _).trans (teq (rfl : (0 : Int32) = (0 : Int32))).1) (by decide) (by decide) ?_
    show SG p e below T81 (mkF m 39 #[lR r0, lR r3, lR b4_0, lV vI6, lV vI3, lR r6] []) _
    refine XS.iinc X81.here hx rfl (hb hby d8_39) rfl (l' := #[lR r0, lR r3, lR b4_0, lV vI6, lV vI4, lR r6]) rfl ?_
    refine XS.goto X81.here hx rfl (pc0 := 42) (pc' := 12) rfl (hb hby d8_42) (by decide) (by decide) ?_
    show SG p e below T81 (mkF m 12 #[lR r0, lR r3, lR b4_0, lV vI6, lV vI4, lR r6] []) _
    refine qi X81 hx hby d8_12 ?_
    refine qiN X81 hx hby d8_14 ?_
    refine XS.icmpNo X81.here hx rfl (hb hby d8_15) rfl (tlt (by decide : (4 : Int32) < (6 : Int32))).2.1 ?_
    refine qaN X81 hx hby d8_18 ?_
    refine qi X81 hx hby d8_19 ?_
    refine X81.aaload hx (j := (4 : Int32)) (v := (.ref r7)) (by rw [E81]; exact Arq83.1) (State.isArrayOf_alike hZ.alike Arq83.2.1) rfl Arq83.2.2 (inb_of Sq83 ⟨(by decide : ¬ ((4 : Int32) < (0 : Int32))), (by decide : (4 : Int32) < (6 : Int32))⟩) (Has.at Hq83 (inb_of Sq83 ⟨(by decide : ¬ ((4 : Int32) < (0 : Int32))), (by decide : (4 : Int32) < (6 : Int32))⟩) rfl) (g := (mkF m 21 #[lR r0, lR r3, lR b4_0, lV vI6, lV vI4, lR r6] [vI4, (.ref b4_0)])) rfl rfl (hb hby d8_21) _ ?_
    show SG p e below T81 (mkF m 22 #[lR r0, lR r3, lR b4_0, lV vI6, lV vI4, lR r6] [(.ref r7)]) _
    refine XS.astore X81.here hx rfl (hb hby d8_22) rfl rfl (l' := #[lR r0, lR r3, lR b4_0, lV vI6, lV vI4, lR r7]) rfl ?_
    refine qa X81 hx hby d8_24 ?_
    refine st86 _ ?_
    show SG p e below T86 (mkF m 29 #[lR r0, lR r3, lR b4_0, lV vI6, lV vI4, lR r7] [(.ref r26)]) _
    refine qaN X86 hx hby d8_29 ?_
    refine st96.trans ?_
    show SG p e below T96 (mkF m 33 #[lR r0, lR r3, lR b4_0, lV vI6, lV vI4, lR r7] [vI0]) _
    refine XS.ifYes X96.here hx rfl (pc0 := 33) (pc' := 39) rfl (hb hby d8_33) rfl ((if0 _ _).trans (teq (rfl : (0 : Int32) = (0 : Int32))).1) (by decide) (by decide) ?_
    show SG p e below T96 (mkF m 39 #[lR r0, lR r3, lR b4_0, lV vI6, lV vI4, lR r7] []) _
    refine XS.iinc X96.here hx rfl (hb hby d8_39) rfl (l' := #[lR r0, lR r3, lR b4_0, lV vI6, lV vI5, lR r7]) rfl ?_
    refine XS.goto X96.here hx rfl (pc0 := 42) (pc' := 12) rfl (hb hby d8_42) (by decide) (by decide) ?_
    show SG p e below T96 (mkF m 12 #[lR r0, lR r3, lR b4_0, lV vI6, lV vI5, lR r7] []) _
    refine qi X96 hx hby d8_12 ?_
    refine qiN X96 hx hby d8_14 ?_
    refine XS.icmpNo X96.here hx rfl (hb hby d8_15) rfl (tlt (by decide : (5 : Int32) < (6 : Int32))).2.1 ?_
    refine qaN X96 hx hby d8_18 ?_
    refine qi X96 hx hby d8_19 ?_
    refine X96.aaload hx (j := (5 : Int32)) (v := (.ref r8)) (by rw [E96]; exact Arq98.1) (State.isArrayOf_alike hZ.alike Arq98.2.1) rfl Arq98.2.2 (inb_of Sq98 ⟨(by decide : ¬ ((5 : Int32) < (0 : Int32))), (by decide : (5 : Int32) < (6 : Int32))⟩) (Has.at Hq98 (inb_of Sq98 ⟨(by decide : ¬ ((5 : Int32) < (0 : Int32))), (by decide : (5 : Int32) < (6 : Int32))⟩) rfl) (g := (mkF m 21 #[lR r0, lR r3, lR b4_0, lV vI6, lV vI5, lR r7] [vI5, (.ref b4_0)])) rfl rfl (hb hby d8_21) _ ?_
    show SG p e below T96 (mkF m 22 #[lR r0, lR r3, lR b4_0, lV vI6, lV vI5, lR r7] [(.ref r8)]) _
    refine XS.astore X96.here hx rfl (hb hby d8_22) rfl rfl (l' := #[lR r0, lR r3, lR b4_0, lV vI6, lV vI5, lR r8]) rfl ?_
    refine qa X96 hx hby d8_24 ?_
    refine st101 _ ?_
    show SG p e below T101 (mkF m 29 #[lR r0, lR r3, lR b4_0, lV vI6, lV vI5, lR r8] [(.ref r29)]) _
    refine qaN X101 hx hby d8_29 ?_
    refine st111.trans ?_
    show SG p e below T111 (mkF m 33 #[lR r0, lR r3, lR b4_0, lV vI6, lV vI5, lR r8] [vI0]) _
    refine XS.ifYes X111.here hx rfl (pc0 := 33) (pc' := 39) rfl (hb hby d8_33) rfl ((if0 _ _).trans (teq (rfl : (0 : Int32) = (0 : Int32))).1) (by decide) (by decide) ?_
    show SG p e below T111 (mkF m 39 #[lR r0, lR r3, lR b4_0, lV vI6, lV vI5, lR r8] []) _
    refine XS.iinc X111.here hx rfl (hb hby d8_39) rfl (l' := #[lR r0, lR r3, lR b4_0, lV vI6, lV vI6, lR r8]) rfl ?_
    refine XS.goto X111.here hx rfl (pc0 := 42) (pc' := 12) rfl (hb hby d8_42) (by decide) (by decide) ?_
    show SG p e below T111 (mkF m 12 #[lR r0, lR r3, lR b4_0, lV vI6, lV vI6, lR r8] []) _
    refine qi X111 hx hby d8_12 ?_
    refine qiN X111 hx hby d8_14 ?_
    refine XS.icmpYes X111.here hx rfl (pc0 := 15) (pc' := 45) rfl (hb hby d8_15) rfl (flt (by decide : ¬ ((6 : Int32) < (6 : Int32)))).2.1 (by decide) (by decide) ?_
    show SG p e below T111 (mkF m 45 #[lR r0, lR r3, lR b4_0, lV vI6, lV vI6, lR r8] []) _
    refine qaN X111 hx hby d8_45 ?_
    exact retOut X111 hx (i := .areturn) hret rfl (Or.inr (Or.inr (Or.inr (Or.inr ⟨rfl, rfl, rfl⟩)))) (hb hby d8_46) hr
def Q8_3 (Z : State) (r0 r1 : Addr) (c2 : ClassId) (r3 r4 : Addr) (r5 r6 : Addr) (r7 r8 : Addr) (r9 r10 : Addr) (c11 : ClassId) (r12 : Addr) (c13 : ClassId) (x14 : Int32) (t15 : List Int32) (x16 : Int32) (r17 r18 : Addr) (c19 : ClassId) (r20 r21 : Addr) (c22 : ClassId) (r23 r24 : Addr) (c25 : ClassId) (r26 r27 : Addr) (c28 : ClassId) (r29 r30 : Addr) (c31 : ClassId) (h0 : Heap) (n0 : Nat) (v : Option Value) (h : Heap) (L : List Loc) : Prop := v = some (.ref r4) ∧ Fr n0 L ∧ Keep h0 h []
theorem rm8_3 (l : Launch) (Z : State) (a0 : Array Value) (hw : own_HW a0 Z) (ws : List Jvm.Cond) (r0 r1 : Addr) (c2 : ClassId) (r3 r4 : Addr) (r5 r6 : Addr) (r7 r8 : Addr) (r9 r10 : Addr) (c11 : ClassId) (r12 : Addr) (c13 : ClassId) (x14 : Int32) (t15 : List Int32) (x16 : Int32) (r17 r18 : Addr) (c19 : ClassId) (r20 r21 : Addr) (c22 : ClassId) (r23 r24 : Addr) (c25 : ClassId) (r26 r27 : Addr) (c28 : ClassId) (r29 r30 : Addr) (c31 : ClassId) (h0 : Heap) (n0 : Nat) (O0 : Old Z n0 h0) (f1 : Sta Z Z.heap cs0 "$VALUES" cs1 (.ref r1)) (f2 : Exa Z Z.heap r1 cs1) (f3 : Arv Z Z.heap r1 c2 (.object cs0) (6 : Int32) [(.ref r3), (.ref r4), (.ref r5), (.ref r6), (.ref r7), (.ref r8)] .null) (f10 : Fld Z Z.heap r3 cs0 "label" "Ljava/lang/String;" (.ref r9)) (f14 : Exa Z Z.heap r9 "java/lang/String") (f16 : Fld Z Z.heap r9 "java/lang/String" "coder" "B" vI0) (f18 : Fld Z Z.heap r9 "java/lang/String" "value" "[B" (.ref r10)) (f20 : Arv Z Z.heap r10 c11 .byte (3 : Int32) [vI105, vI51, vI50] vI0) (f22 : Exa Z h0 r0 "java/lang/String") (f24 : Fld Z h0 r0 "java/lang/String" "coder" "B" vI0) (f26 : Fld Z h0 r0 "java/lang/String" "value" "[B" (.ref r12)) (f28 : Arv Z h0 r12 c13 .byte x14 (t15.map Value.int) vI0) (hc30 : x14 = Int32.ofNat t15.length) (hc31 : t15.length ≤ 4000) (f32 : Sta Z Z.heap "java/lang/String" "COMPACT_STRINGS" "Z" (.int x16)) (hc34 : ¬ (x16 = (0 : Int32))) (hc35 : ¬ (t15 = [(105 : Int32), (51 : Int32), (50 : Int32)])) (f39 : Fld Z Z.heap r4 cs0 "label" "Ljava/lang/String;" (.ref r17)) (f42 : Exa Z Z.heap r17 "java/lang/String") (f44 : Fld Z Z.heap r17 "java/lang/String" "coder" "B" vI0) (f46 : Fld Z Z.heap r17 "java/lang/String" "value" "[B" (.ref r18)) (f48 : Arv Z Z.heap r18 c19 .byte (3 : Int32) [vI117, vI51, vI50] vI0) (hc50 : t15 = [(117 : Int32), (51 : Int32), (50 : Int32)]) (f54 : Fld Z Z.heap r5 cs0 "label" "Ljava/lang/String;" (.ref r20)) (f57 : Exa Z Z.heap r20 "java/lang/String") (f59 : Fld Z Z.heap r20 "java/lang/String" "coder" "B" vI0) (f61 : Fld Z Z.heap r20 "java/lang/String" "value" "[B" (.ref r21)) (f63 : Arv Z Z.heap r21 c22 .byte (3 : Int32) [vI102, vI51, vI50] vI0) (hc65 : ¬ (t15 = [(102 : Int32), (51 : Int32), (50 : Int32)])) (f69 : Fld Z Z.heap r6 cs0 "label" "Ljava/lang/String;" (.ref r23)) (f72 : Exa Z Z.heap r23 "java/lang/String") (f74 : Fld Z Z.heap r23 "java/lang/String" "coder" "B" vI0) (f76 : Fld Z Z.heap r23 "java/lang/String" "value" "[B" (.ref r24)) (f78 : Arv Z Z.heap r24 c25 .byte (3 : Int32) [vI102, vI54, vI52] vI0) (hc80 : ¬ (t15 = [(102 : Int32), (54 : Int32), (52 : Int32)])) (f84 : Fld Z Z.heap r7 cs0 "label" "Ljava/lang/String;" (.ref r26)) (f87 : Exa Z Z.heap r26 "java/lang/String") (f89 : Fld Z Z.heap r26 "java/lang/String" "coder" "B" vI0) (f91 : Fld Z Z.heap r26 "java/lang/String" "value" "[B" (.ref r27)) (f93 : Arv Z Z.heap r27 c28 .byte (4 : Int32) [vI116, vI101, vI120, vI116] vI0) (hc95 : ¬ (t15 = [(116 : Int32), (101 : Int32), (120 : Int32), (116 : Int32)])) (f99 : Fld Z Z.heap r8 cs0 "label" "Ljava/lang/String;" (.ref r29)) (f102 : Exa Z Z.heap r29 "java/lang/String") (f104 : Fld Z Z.heap r29 "java/lang/String" "coder" "B" vI0) (f106 : Fld Z Z.heap r29 "java/lang/String" "value" "[B" (.ref r30)) (f108 : Arv Z Z.heap r30 c31 .byte (4 : Int32) [vI103, vI117, vI105, vI100] vI0) (hc110 : ¬ (t15 = [(103 : Int32), (117 : Int32), (105 : Int32), (100 : Int32)])) :
    own_MF l mN2 prog_72_method_8_code 6 (some (.object cs0)) ws rR2_1_6_28 Z h0 #[(.ref r0)] (Q8_3 Z r0 r1 c2 r3 r4 r5 r6 r7 r8 r9 r10 c11 r12 c13 x14 t15 x16 r17 r18 c19 r20 r21 c22 r23 r24 c25 r26 r27 c28 r29 r30 c31 h0 n0) := by
  refine own_open (plainFor_of_name pn_com_example_wiregather_wiregather_wire_FieldType) (L0 := #[lR r0, lU, lU, lU, lU, lU]) (fun _ => by first | (simp [entryFrame, mkF, argsToLocals, Value.category]; done) | rfl) ?_
  intro p e s m below meth c s₁ hx hby hml hret hnn hZ hown X0 e0
  have N0 := Fr.nil n0; have w := @ww Z a0 hw
  obtain ⟨_, T4, Lc4, X4, hQ4, st4⟩ := own_cS X0 hx hZ hown e0 (rm9_1 l Z a0 hw [] r1 c2 r3 r4 r5 r6 r7 r8 h0 n0 O0 f1 f2 f3) (w 38 rfl) (w 39 rfl) (w 36 rfl) (w 40 rfl) (by decide) (W := 0) (by decide) (by decide) (by decide) (by decide) (g := (mkF m 2 #[lR r0, .val .null, lU, lU, lU, lU] [])) rfl (by rw [hml]; rfl) (argsL := []) (rest := []) (lenOf pd____Lcom_example_wiregather_wiregather_wire_FieldType_ rfl) rfl (own_W rfl) (hb hby d8_2)
  obtain ⟨b4_0, rfl, N4q, K4, f5, f6, f7⟩ := hQ4
  have N4 := Fr.app N0 N4q
  obtain ⟨clq8, Arq8, qq8, Sq8, Nq8, Hq8, Gq8⟩ := id f7
  obtain ⟨clq9, Arq9, qq9, Sq9, Nq9, Hq9, Gq9⟩ := id f7
  have o11 := Old.keep O0 K4 all0
  have f12 := f10.ext o11.2
  obtain ⟨T13, X13, e13, st13⟩ := getF X4 hx hZ hown (host := "") (Or.inl (w 59 rfl)) Via.refl rfl f12 (g := (mkF m 26 #[lR r0, .val .null, lR b4_0, lV vI6, lV vI0, lR r3] [(.ref r3)])) rfl rfl (hb hby d8_26)
  have f15 := f14.ext o11.2
  have f17 := f16.ext o11.2
  have f19 := f18.ext o11.2
  have f21 := f20.ext o11.2
  have f23 := (f22.keep K4)
  have f25 := (f24.keep K4 nin0)
  have f27 := (f26.keep K4 nin0)
  have f29 := (f28.keep K4 nin0)
  have f33 := f32.ext o11.2
  obtain ⟨cqq37, kqq37, qq37a, qq37b, qq37c⟩ := isOf hZ e13 f15
  obtain ⟨_, T36, Lc36, X36, hQ36, st36⟩ := own_fin (X13.virtualBack hx (y := mN1) (z := mN1) hown (mvT hZ (w 61 rfl)) (mvT hZ (w 62 rfl)) (notFace_of_selects (args := #[]) (mvT hZ (w 64 rfl))) (mvT hZ (w 64 rfl)) (mvT hZ (w 63 rfl)) (by decide) (own_strEq hZ hw (w 5 rfl) (bs := [(105 : Int32), (51 : Int32), (50 : Int32)]) f15 f19 f17 f21 (own_ofLen (n := 3) (by decide) rfl) (Nat.le_of_ble_eq_true rfl) (ds := t15) f23 f27 f25 f29 hc30 hc31 f33 hc34 (r := 0) (n0 := n0) (Or.inr ⟨rfl, fun q => hc35 (Eq.symm q)⟩) (by decide) (by decide : 0 + 28 ≤ _)) qq37a qq37c (g := (mkF m 30 #[lR r0, .val .null, lR b4_0, lV vI6, lV vI0, lR r3] [(.ref r0), (.ref r9)])) rfl (by rw [hml]; rfl) (Steps.refl _) (argsL := [(.ref r0)]) (rest := []) (lenOf pd__Ljava_lang_Object__Z rfl) rfl (own_W rfl) (hb hby d8_30) (fun _ _ => ⟨rfl, e13, (by decide : 1 + 0 ≤ _), (by decide : 6 + 0 ≤ _)⟩))
  obtain ⟨rfl, N36q, E36⟩ := hQ36
  have N36 := Fr.app N4 N36q
  obtain ⟨clq38, Arq38, qq38, Sq38, Nq38, Hq38, Gq38⟩ := id f7
  have f40 := f39.ext o11.2
  obtain ⟨T41, X41, e41, st41⟩ := getF X36 hx hZ hown (host := "") (Or.inl (w 59 rfl)) Via.refl E36 f40 (g := (mkF m 26 #[lR r0, .val .null, lR b4_0, lV vI6, lV vI1, lR r4] [(.ref r4)])) rfl rfl (hb hby d8_26)
  have f43 := f42.ext o11.2
  have f45 := f44.ext o11.2
  have f47 := f46.ext o11.2
  have f49 := f48.ext o11.2
  obtain ⟨cqq52, kqq52, qq52a, qq52b, qq52c⟩ := isOf hZ e41 f43
  obtain ⟨_, T51, Lc51, X51, hQ51, st51⟩ := own_fin (X41.virtualBack hx (y := mN1) (z := mN1) hown (mvT hZ (w 61 rfl)) (mvT hZ (w 62 rfl)) (notFace_of_selects (args := #[]) (mvT hZ (w 64 rfl))) (mvT hZ (w 64 rfl)) (mvT hZ (w 63 rfl)) (by decide) (own_strEq hZ hw (w 5 rfl) (bs := [(117 : Int32), (51 : Int32), (50 : Int32)]) f43 f47 f45 f49 (own_ofLen (n := 3) (by decide) rfl) (Nat.le_of_ble_eq_true rfl) (ds := t15) f23 f27 f25 f29 hc30 hc31 f33 hc34 (r := 1) (n0 := n0) (Or.inl ⟨rfl, (Eq.symm hc50)⟩) (by decide) (by decide : 0 + 28 ≤ _)) qq52a qq52c (g := (mkF m 30 #[lR r0, .val .null, lR b4_0, lV vI6, lV vI1, lR r4] [(.ref r0), (.ref r17)])) rfl (by rw [hml]; rfl) (Steps.refl _) (argsL := [(.ref r0)]) (rest := []) (lenOf pd__Ljava_lang_Object__Z rfl) rfl (own_W rfl) (hb hby d8_30) (fun _ _ => ⟨rfl, e41, (by decide : 1 + 0 ≤ _), (by decide : 6 + 0 ≤ _)⟩))
  obtain ⟨rfl, N51q, E51⟩ := hQ51
  have N51 := Fr.app N36 N51q
  obtain ⟨clq53, Arq53, qq53, Sq53, Nq53, Hq53, Gq53⟩ := id f7
  have f55 := f54.ext o11.2
  obtain ⟨T56, X56, e56, st56⟩ := getF X51 hx hZ hown (host := "") (Or.inl (w 59 rfl)) Via.refl E51 f55 (g := (mkF m 26 #[lR r0, lR r4, lR b4_0, lV vI6, lV vI2, lR r5] [(.ref r5)])) rfl rfl (hb hby d8_26)
  have f58 := f57.ext o11.2
  have f60 := f59.ext o11.2
  have f62 := f61.ext o11.2
  have f64 := f63.ext o11.2
  obtain ⟨cqq67, kqq67, qq67a, qq67b, qq67c⟩ := isOf hZ e56 f58
  obtain ⟨_, T66, Lc66, X66, hQ66, st66⟩ := own_fin (X56.virtualBack hx (y := mN1) (z := mN1) hown (mvT hZ (w 61 rfl)) (mvT hZ (w 62 rfl)) (notFace_of_selects (args := #[]) (mvT hZ (w 64 rfl))) (mvT hZ (w 64 rfl)) (mvT hZ (w 63 rfl)) (by decide) (own_strEq hZ hw (w 5 rfl) (bs := [(102 : Int32), (51 : Int32), (50 : Int32)]) f58 f62 f60 f64 (own_ofLen (n := 3) (by decide) rfl) (Nat.le_of_ble_eq_true rfl) (ds := t15) f23 f27 f25 f29 hc30 hc31 f33 hc34 (r := 0) (n0 := n0) (Or.inr ⟨rfl, fun q => hc65 (Eq.symm q)⟩) (by decide) (by decide : 0 + 28 ≤ _)) qq67a qq67c (g := (mkF m 30 #[lR r0, lR r4, lR b4_0, lV vI6, lV vI2, lR r5] [(.ref r0), (.ref r20)])) rfl (by rw [hml]; rfl) (Steps.refl _) (argsL := [(.ref r0)]) (rest := []) (lenOf pd__Ljava_lang_Object__Z rfl) rfl (own_W rfl) (hb hby d8_30) (fun _ _ => ⟨rfl, e56, (by decide : 1 + 0 ≤ _), (by decide : 6 + 0 ≤ _)⟩))
  obtain ⟨rfl, N66q, E66⟩ := hQ66
  have N66 := Fr.app N51 N66q
  obtain ⟨clq68, Arq68, qq68, Sq68, Nq68, Hq68, Gq68⟩ := id f7
  have f70 := f69.ext o11.2
  obtain ⟨T71, X71, e71, st71⟩ := getF X66 hx hZ hown (host := "") (Or.inl (w 59 rfl)) Via.refl E66 f70 (g := (mkF m 26 #[lR r0, lR r4, lR b4_0, lV vI6, lV vI3, lR r6] [(.ref r6)])) rfl rfl (hb hby d8_26)
  have f73 := f72.ext o11.2
  have f75 := f74.ext o11.2
  have f77 := f76.ext o11.2
  have f79 := f78.ext o11.2
  obtain ⟨cqq82, kqq82, qq82a, qq82b, qq82c⟩ := isOf hZ e71 f73
  obtain ⟨_, T81, Lc81, X81, hQ81, st81⟩ := own_fin (X71.virtualBack hx (y := mN1) (z := mN1) hown (mvT hZ (w 61 rfl)) (mvT hZ (w 62 rfl)) (notFace_of_selects (args := #[]) (mvT hZ (w 64 rfl))) (mvT hZ (w 64 rfl)) (mvT hZ (w 63 rfl)) (by decide) (own_strEq hZ hw (w 5 rfl) (bs := [(102 : Int32), (54 : Int32), (52 : Int32)]) f73 f77 f75 f79 (own_ofLen (n := 3) (by decide) rfl) (Nat.le_of_ble_eq_true rfl) (ds := t15) f23 f27 f25 f29 hc30 hc31 f33 hc34 (r := 0) (n0 := n0) (Or.inr ⟨rfl, fun q => hc80 (Eq.symm q)⟩) (by decide) (by decide : 0 + 28 ≤ _)) qq82a qq82c (g := (mkF m 30 #[lR r0, lR r4, lR b4_0, lV vI6, lV vI3, lR r6] [(.ref r0), (.ref r23)])) rfl (by rw [hml]; rfl) (Steps.refl _) (argsL := [(.ref r0)]) (rest := []) (lenOf pd__Ljava_lang_Object__Z rfl) rfl (own_W rfl) (hb hby d8_30) (fun _ _ => ⟨rfl, e71, (by decide : 1 + 0 ≤ _), (by decide : 6 + 0 ≤ _)⟩))
  obtain ⟨rfl, N81q, E81⟩ := hQ81
  have N81 := Fr.app N66 N81q
  obtain ⟨clq83, Arq83, qq83, Sq83, Nq83, Hq83, Gq83⟩ := id f7
  have f85 := f84.ext o11.2
  obtain ⟨T86, X86, e86, st86⟩ := getF X81 hx hZ hown (host := "") (Or.inl (w 59 rfl)) Via.refl E81 f85 (g := (mkF m 26 #[lR r0, lR r4, lR b4_0, lV vI6, lV vI4, lR r7] [(.ref r7)])) rfl rfl (hb hby d8_26)
  have f88 := f87.ext o11.2
  have f90 := f89.ext o11.2
  have f92 := f91.ext o11.2
  have f94 := f93.ext o11.2
  obtain ⟨cqq97, kqq97, qq97a, qq97b, qq97c⟩ := isOf hZ e86 f88
  obtain ⟨_, T96, Lc96, X96, hQ96, st96⟩ := own_fin (X86.virtualBack hx (y := mN1) (z := mN1) hown (mvT hZ (w 61 rfl)) (mvT hZ (w 62 rfl)) (notFace_of_selects (args := #[]) (mvT hZ (w 64 rfl))) (mvT hZ (w 64 rfl)) (mvT hZ (w 63 rfl)) (by decide) (own_strEq hZ hw (w 5 rfl) (bs := [(116 : Int32), (101 : Int32), (120 : Int32), (116 : Int32)]) f88 f92 f90 f94 (own_ofLen (n := 4) (by decide) rfl) (Nat.le_of_ble_eq_true rfl) (ds := t15) f23 f27 f25 f29 hc30 hc31 f33 hc34 (r := 0) (n0 := n0) (Or.inr ⟨rfl, fun q => hc95 (Eq.symm q)⟩) (by decide) (by decide : 0 + 28 ≤ _)) qq97a qq97c (g := (mkF m 30 #[lR r0, lR r4, lR b4_0, lV vI6, lV vI4, lR r7] [(.ref r0), (.ref r26)])) rfl (by rw [hml]; rfl) (Steps.refl _) (argsL := [(.ref r0)]) (rest := []) (lenOf pd__Ljava_lang_Object__Z rfl) rfl (own_W rfl) (hb hby d8_30) (fun _ _ => ⟨rfl, e86, (by decide : 1 + 0 ≤ _), (by decide : 6 + 0 ≤ _)⟩))
  obtain ⟨rfl, N96q, E96⟩ := hQ96
  have N96 := Fr.app N81 N96q
  obtain ⟨clq98, Arq98, qq98, Sq98, Nq98, Hq98, Gq98⟩ := id f7
  have f100 := f99.ext o11.2
  obtain ⟨T101, X101, e101, st101⟩ := getF X96 hx hZ hown (host := "") (Or.inl (w 59 rfl)) Via.refl E96 f100 (g := (mkF m 26 #[lR r0, lR r4, lR b4_0, lV vI6, lV vI5, lR r8] [(.ref r8)])) rfl rfl (hb hby d8_26)
  have f103 := f102.ext o11.2
  have f105 := f104.ext o11.2
  have f107 := f106.ext o11.2
  have f109 := f108.ext o11.2
  obtain ⟨cqq112, kqq112, qq112a, qq112b, qq112c⟩ := isOf hZ e101 f103
  obtain ⟨_, T111, Lc111, X111, hQ111, st111⟩ := own_fin (X101.virtualBack hx (y := mN1) (z := mN1) hown (mvT hZ (w 61 rfl)) (mvT hZ (w 62 rfl)) (notFace_of_selects (args := #[]) (mvT hZ (w 64 rfl))) (mvT hZ (w 64 rfl)) (mvT hZ (w 63 rfl)) (by decide) (own_strEq hZ hw (w 5 rfl) (bs := [(103 : Int32), (117 : Int32), (105 : Int32), (100 : Int32)]) f103 f107 f105 f109 (own_ofLen (n := 4) (by decide) rfl) (Nat.le_of_ble_eq_true rfl) (ds := t15) f23 f27 f25 f29 hc30 hc31 f33 hc34 (r := 0) (n0 := n0) (Or.inr ⟨rfl, fun q => hc110 (Eq.symm q)⟩) (by decide) (by decide : 0 + 28 ≤ _)) qq112a qq112c (g := (mkF m 30 #[lR r0, lR r4, lR b4_0, lV vI6, lV vI5, lR r8] [(.ref r0), (.ref r29)])) rfl (by rw [hml]; rfl) (Steps.refl _) (argsL := [(.ref r0)]) (rest := []) (lenOf pd__Ljava_lang_Object__Z rfl) rfl (own_W rfl) (hb hby d8_30) (fun _ _ => ⟨rfl, e101, (by decide : 1 + 0 ≤ _), (by decide : 6 + 0 ≤ _)⟩))
  obtain ⟨rfl, N111q, E111⟩ := hQ111
  have N111 := Fr.app N96 N111q
  have kp113 : Keep h0 T4.heap [] := (Keep.refl h0 []).trans K4 all0
  refine ⟨some (.ref r4), _, _, _, _, nofun, X111, by decide, by decide, ?_, fun fs hr => ?_⟩
  · rw [E111]; exact ⟨rfl, N111, kp113⟩
  · show SG p e below s₁ (mkF m 0 #[lR r0, lU, lU, lU, lU, lU] []) _
    refine XS.aconstNull X0.here hx rfl (hb hby d8_0) ?_
    refine XS.astoreN X0.here hx rfl (hb hby d8_1) rfl rfl (l' := #[lR r0, .val .null, lU, lU, lU, lU]) rfl ?_
    refine st4 _ ?_
    show SG p e below T4 (mkF m 5 #[lR r0, .val .null, lU, lU, lU, lU] [(.ref b4_0)]) _
    refine XS.astoreN X4.here hx rfl (hb hby d8_5) rfl rfl (l' := #[lR r0, .val .null, lR b4_0, lU, lU, lU]) rfl ?_
    refine qaN X4 hx hby d8_6 ?_
    refine X4.arraylength hx (Arq8.1) (State.isArrayOf_alike hZ.alike Arq8.2.1) (g := (mkF m 7 #[lR r0, .val .null, lR b4_0, lU, lU, lU] [(.ref b4_0)])) rfl rfl (hb hby d8_7) _ ?_
    rw [len_of Sq8 Nq8]
    show SG p e below T4 (mkF m 8 #[lR r0, .val .null, lR b4_0, lU, lU, lU] [vI6]) _
    refine XS.istoreN X4.here hx rfl (hb hby d8_8) rfl (l' := #[lR r0, .val .null, lR b4_0, lV vI6, lU, lU]) rfl ?_
    refine qc X4 hx hby d8_9 ?_
    refine XS.istore X4.here hx rfl (hb hby d8_10) rfl (l' := #[lR r0, .val .null, lR b4_0, lV vI6, lV vI0, lU]) rfl ?_
    refine qi X4 hx hby d8_12 ?_
    refine qiN X4 hx hby d8_14 ?_
    refine XS.icmpNo X4.here hx rfl (hb hby d8_15) rfl (tlt (by decide : (0 : Int32) < (6 : Int32))).2.1 ?_
    refine qaN X4 hx hby d8_18 ?_
    refine qi X4 hx hby d8_19 ?_
    show SG p e below T4 (mkF m 21 #[lR r0, .val .null, lR b4_0, lV vI6, lV vI0, lU] [vI0, (.ref b4_0)]) _
    refine X4.aaload hx (j := (0 : Int32)) (v := (.ref r3)) (Arq9.1) (State.isArrayOf_alike hZ.alike Arq9.2.1) rfl Arq9.2.2 (inb_of Sq9 ⟨(by decide : ¬ ((0 : Int32) < (0 : Int32))), (by decide : (0 : Int32) < (6 : Int32))⟩) (Has.at Hq9 (inb_of Sq9 ⟨(by decide : ¬ ((0 : Int32) < (0 : Int32))), (by decide : (0 : Int32) < (6 : Int32))⟩) rfl) (g := (mkF m 21 #[lR r0, .val .null, lR b4_0, lV vI6, lV vI0, lU] [vI0, (.ref b4_0)])) rfl rfl (hb hby d8_21) _ ?_
    show SG p e below T4 (mkF m 22 #[lR r0, .val .null, lR b4_0, lV vI6, lV vI0, lU] [(.ref r3)]) _
    refine XS.astore X4.here hx rfl (hb hby d8_22) rfl rfl (l' := #[lR r0, .val .null, lR b4_0, lV vI6, lV vI0, lR r3]) rfl ?_
    refine qa X4 hx hby d8_24 ?_
    refine st13 _ ?_
    show SG p e below T13 (mkF m 29 #[lR r0, .val .null, lR b4_0, lV vI6, lV vI0, lR r3] [(.ref r9)]) _
    refine qaN X13 hx hby d8_29 ?_
    refine st36.trans ?_
    show SG p e below T36 (mkF m 33 #[lR r0, .val .null, lR b4_0, lV vI6, lV vI0, lR r3] [vI0]) _
    refine XS.ifYes X36.here hx rfl (pc0 := 33) (pc' := 39) rfl (hb hby d8_33) rfl ((if0 _ _).trans (teq (rfl : (0 : Int32) = (0 : Int32))).1) (by decide) (by decide) ?_
    show SG p e below T36 (mkF m 39 #[lR r0, .val .null, lR b4_0, lV vI6, lV vI0, lR r3] []) _
    refine XS.iinc X36.here hx rfl (hb hby d8_39) rfl (l' := #[lR r0, .val .null, lR b4_0, lV vI6, lV vI1, lR r3]) rfl ?_
    refine XS.goto X36.here hx rfl (pc0 := 42) (pc' := 12) rfl (hb hby d8_42) (by decide) (by decide) ?_
    show SG p e below T36 (mkF m 12 #[lR r0, .val .null, lR b4_0, lV vI6, lV vI1, lR r3] []) _
    refine qi X36 hx hby d8_12 ?_
    refine qiN X36 hx hby d8_14 ?_
    refine XS.icmpNo X36.here hx rfl (hb hby d8_15) rfl (tlt (by decide : (1 : Int32) < (6 : Int32))).2.1 ?_
    refine qaN X36 hx hby d8_18 ?_
    refine qi X36 hx hby d8_19 ?_
    refine X36.aaload hx (j := (1 : Int32)) (v := (.ref r4)) (by rw [E36]; exact Arq38.1) (State.isArrayOf_alike hZ.alike Arq38.2.1) rfl Arq38.2.2 (inb_of Sq38 ⟨(by decide : ¬ ((1 : Int32) < (0 : Int32))), (by decide : (1 : Int32) < (6 : Int32))⟩) (Has.at Hq38 (inb_of Sq38 ⟨(by decide : ¬ ((1 : Int32) < (0 : Int32))), (by decide : (1 : Int32) < (6 : Int32))⟩) rfl) (g := (mkF m 21 #[lR r0, .val .null, lR b4_0, lV vI6, lV vI1, lR r3] [vI1, (.ref b4_0)])) rfl rfl (hb hby d8_21) _ ?_
    show SG p e below T36 (mkF m 22 #[lR r0, .val .null, lR b4_0, lV vI6, lV vI1, lR r3] [(.ref r4)]) _
    refine XS.astore X36.here hx rfl (hb hby d8_22) rfl rfl (l' := #[lR r0, .val .null, lR b4_0, lV vI6, lV vI1, lR r4]) rfl ?_
    refine qa X36 hx hby d8_24 ?_
    refine st41 _ ?_
    show SG p e below T41 (mkF m 29 #[lR r0, .val .null, lR b4_0, lV vI6, lV vI1, lR r4] [(.ref r17)]) _
    refine qaN X41 hx hby d8_29 ?_
    refine st51.trans ?_
    show SG p e below T51 (mkF m 33 #[lR r0, .val .null, lR b4_0, lV vI6, lV vI1, lR r4] [vI1]) _
    refine XS.ifNo X51.here hx rfl (hb hby d8_33) rfl ((if0 _ _).trans (feq (by decide : ¬ ((1 : Int32) = (0 : Int32)))).1) ?_
    refine qa X51 hx hby d8_36 ?_
    refine XS.astoreN X51.here hx rfl (hb hby d8_38) rfl rfl (l' := #[lR r0, lR r4, lR b4_0, lV vI6, lV vI1, lR r4]) rfl ?_
    refine XS.iinc X51.here hx rfl (hb hby d8_39) rfl (l' := #[lR r0, lR r4, lR b4_0, lV vI6, lV vI2, lR r4]) rfl ?_
    refine XS.goto X51.here hx rfl (pc0 := 42) (pc' := 12) rfl (hb hby d8_42) (by decide) (by decide) ?_
    show SG p e below T51 (mkF m 12 #[lR r0, lR r4, lR b4_0, lV vI6, lV vI2, lR r4] []) _
    refine qi X51 hx hby d8_12 ?_
    refine qiN X51 hx hby d8_14 ?_
    refine XS.icmpNo X51.here hx rfl (hb hby d8_15) rfl (tlt (by decide : (2 : Int32) < (6 : Int32))).2.1 ?_
    refine qaN X51 hx hby d8_18 ?_
    refine qi X51 hx hby d8_19 ?_
    refine X51.aaload hx (j := (2 : Int32)) (v := (.ref r5)) (by rw [E51]; exact Arq53.1) (State.isArrayOf_alike hZ.alike Arq53.2.1) rfl Arq53.2.2 (inb_of Sq53 ⟨(by decide : ¬ ((2 : Int32) < (0 : Int32))), (by decide : (2 : Int32) < (6 : Int32))⟩) (Has.at Hq53 (inb_of Sq53 ⟨(by decide : ¬ ((2 : Int32) < (0 : Int32))), (by decide : (2 : Int32) < (6 : Int32))⟩) rfl) (g := (mkF m 21 #[lR r0, lR r4, lR b4_0, lV vI6, lV vI2, lR r4] [vI2, (.ref b4_0)])) rfl rfl (hb hby d8_21) _ ?_
    show SG p e below T51 (mkF m 22 #[lR r0, lR r4, lR b4_0, lV vI6, lV vI2, lR r4] [(.ref r5)]) _
    refine XS.astore X51.here hx rfl (hb hby d8_22) rfl rfl (l' := #[lR r0, lR r4, lR b4_0, lV vI6, lV vI2, lR r5]) rfl ?_
    refine qa X51 hx hby d8_24 ?_
    refine st56 _ ?_
    show SG p e below T56 (mkF m 29 #[lR r0, lR r4, lR b4_0, lV vI6, lV vI2, lR r5] [(.ref r20)]) _
    refine qaN X56 hx hby d8_29 ?_
    refine st66.trans ?_
    show SG p e below T66 (mkF m 33 #[lR r0, lR r4, lR b4_0, lV vI6, lV vI2, lR r5] [vI0]) _
    refine XS.ifYes X66.here hx rfl (pc0 := 33) (pc' := 39) rfl (hb hby d8_33) rfl ((if0 _ _).trans (teq (rfl : (0 : Int32) = (0 : Int32))).1) (by decide) (by decide) ?_
    show SG p e below T66 (mkF m 39 #[lR r0, lR r4, lR b4_0, lV vI6, lV vI2, lR r5] []) _
    refine XS.iinc X66.here hx rfl (hb hby d8_39) rfl (l' := #[lR r0, lR r4, lR b4_0, lV vI6, lV vI3, lR r5]) rfl ?_
    refine XS.goto X66.here hx rfl (pc0 := 42) (pc' := 12) rfl (hb hby d8_42) (by decide) (by decide) ?_
    show SG p e below T66 (mkF m 12 #[lR r0, lR r4, lR b4_0, lV vI6, lV vI3, lR r5] []) _
    refine qi X66 hx hby d8_12 ?_
    refine qiN X66 hx hby d8_14 ?_
    refine XS.icmpNo X66.here hx rfl (hb hby d8_15) rfl (tlt (by decide : (3 : Int32) < (6 : Int32))).2.1 ?_
    refine qaN X66 hx hby d8_18 ?_
    refine qi X66 hx hby d8_19 ?_
    refine X66.aaload hx (j := (3 : Int32)) (v := (.ref r6)) (by rw [E66]; exact Arq68.1) (State.isArrayOf_alike hZ.alike Arq68.2.1) rfl Arq68.2.2 (inb_of Sq68 ⟨(by decide : ¬ ((3 : Int32) < (0 : Int32))), (by decide : (3 : Int32) < (6 : Int32))⟩) (Has.at Hq68 (inb_of Sq68 ⟨(by decide : ¬ ((3 : Int32) < (0 : Int32))), (by decide : (3 : Int32) < (6 : Int32))⟩) rfl) (g := (mkF m 21 #[lR r0, lR r4, lR b4_0, lV vI6, lV vI3, lR r5] [vI3, (.ref b4_0)])) rfl rfl (hb hby d8_21) _ ?_
    show SG p e below T66 (mkF m 22 #[lR r0, lR r4, lR b4_0, lV vI6, lV vI3, lR r5] [(.ref r6)]) _
    refine XS.astore X66.here hx rfl (hb hby d8_22) rfl rfl (l' := #[lR r0, lR r4, lR b4_0, lV vI6, lV vI3, lR r6]) rfl ?_
    refine qa X66 hx hby d8_24 ?_
    refine st71 _ ?_
    show SG p e below T71 (mkF m 29 #[lR r0, lR r4, lR b4_0, lV vI6, lV vI3, lR r6] [(.ref r23)]) _
    refine qaN X71 hx hby d8_29 ?_
    refine st81.trans ?_
    show SG p e below T81 (mkF m 33 #[lR r0, lR r4, lR b4_0, lV vI6, lV vI3, lR r6] [vI0]) _
    refine XS.ifYes X81.here hx rfl (pc0 := 33) (pc' := 39) rfl (hb hby d8_33) rfl ((if0 _ _).trans (teq (rfl : (0 : Int32) = (0 : Int32))).1) (by decide) (by decide) ?_
    show SG p e below T81 (mkF m 39 #[lR r0, lR r4, lR b4_0, lV vI6, lV vI3, lR r6] []) _
    refine XS.iinc X81.here hx rfl (hb hby d8_39) rfl (l' := #[lR r0, lR r4, lR b4_0, lV vI6, lV vI4, lR r6]) rfl ?_
    refine XS.goto X81.here hx rfl (pc0 := 42) (pc' := 12) rfl (hb hby d8_42) (by decide) (by decide) ?_
    show SG p e below T81 (mkF m 12 #[lR r0, lR r4, lR b4_0, lV vI6, lV vI4, lR r6] []) _
    refine qi X81 hx hby d8_12 ?_
    refine qiN X81 hx hby d8_14 ?_
    refine XS.icmpNo X81.here hx rfl (hb hby d8_15) rfl (tlt (by decide : (4 : Int32) < (6 : Int32))).2.1 ?_
    refine qaN X81 hx hby d8_18 ?_
    refine qi X81 hx hby d8_19 ?_
    refine X81.aaload hx (j := (4 : Int32)) (v := (.ref r7)) (by rw [E81]; exact Arq83.1) (State.isArrayOf_alike hZ.alike Arq83.2.1) rfl Arq83.2.2 (inb_of Sq83 ⟨(by decide : ¬ ((4 : Int32) < (0 : Int32))), (by decide : (4 : Int32) < (6 : Int32))⟩) (Has.at Hq83 (inb_of Sq83 ⟨(by decide : ¬ ((4 : Int32) < (0 : Int32))), (by decide : (4 : Int32) < (6 : Int32))⟩) rfl) (g := (mkF m 21 #[lR r0, lR r4, lR b4_0, lV vI6, lV vI4, lR r6] [vI4, (.ref b4_0)])) rfl rfl (hb hby d8_21) _ ?_
    show SG p e below T81 (mkF m 22 #[lR r0, lR r4, lR b4_0, lV vI6, lV vI4, lR r6] [(.ref r7)]) _
    refine XS.astore X81.here hx rfl (hb hby d8_22) rfl rfl (l' := #[lR r0, lR r4, lR b4_0, lV vI6, lV vI4, lR r7]) rfl ?_
    refine qa X81 hx hby d8_24 ?_
    refine st86 _ ?_
    show SG p e below T86 (mkF m 29 #[lR r0, lR r4, lR b4_0, lV vI6, lV vI4, lR r7] [(.ref r26)]) _
    refine qaN X86 hx hby d8_29 ?_
    refine st96.trans ?_
    show SG p e below T96 (mkF m 33 #[lR r0, lR r4, lR b4_0, lV vI6, lV vI4, lR r7] [vI0]) _
    refine XS.ifYes X96.here hx rfl (pc0 := 33) (pc' := 39) rfl (hb hby d8_33) rfl ((if0 _ _).trans (teq (rfl : (0 : Int32) = (0 : Int32))).1) (by decide) (by decide) ?_
    show SG p e below T96 (mkF m 39 #[lR r0, lR r4, lR b4_0, lV vI6, lV vI4, lR r7] []) _
    refine XS.iinc X96.here hx rfl (hb hby d8_39) rfl (l' := #[lR r0, lR r4, lR b4_0, lV vI6, lV vI5, lR r7]) rfl ?_
    refine XS.goto X96.here hx rfl (pc0 := 42) (pc' := 12) rfl (hb hby d8_42) (by decide) (by decide) ?_
    show SG p e below T96 (mkF m 12 #[lR r0, lR r4, lR b4_0, lV vI6, lV vI5, lR r7] []) _
    refine qi X96 hx hby d8_12 ?_
    refine qiN X96 hx hby d8_14 ?_
    refine XS.icmpNo X96.here hx rfl (hb hby d8_15) rfl (tlt (by decide : (5 : Int32) < (6 : Int32))).2.1 ?_
    refine qaN X96 hx hby d8_18 ?_
    refine qi X96 hx hby d8_19 ?_
    refine X96.aaload hx (j := (5 : Int32)) (v := (.ref r8)) (by rw [E96]; exact Arq98.1) (State.isArrayOf_alike hZ.alike Arq98.2.1) rfl Arq98.2.2 (inb_of Sq98 ⟨(by decide : ¬ ((5 : Int32) < (0 : Int32))), (by decide : (5 : Int32) < (6 : Int32))⟩) (Has.at Hq98 (inb_of Sq98 ⟨(by decide : ¬ ((5 : Int32) < (0 : Int32))), (by decide : (5 : Int32) < (6 : Int32))⟩) rfl) (g := (mkF m 21 #[lR r0, lR r4, lR b4_0, lV vI6, lV vI5, lR r7] [vI5, (.ref b4_0)])) rfl rfl (hb hby d8_21) _ ?_
    show SG p e below T96 (mkF m 22 #[lR r0, lR r4, lR b4_0, lV vI6, lV vI5, lR r7] [(.ref r8)]) _
    refine XS.astore X96.here hx rfl (hb hby d8_22) rfl rfl (l' := #[lR r0, lR r4, lR b4_0, lV vI6, lV vI5, lR r8]) rfl ?_
    refine qa X96 hx hby d8_24 ?_
    refine st101 _ ?_
    show SG p e below T101 (mkF m 29 #[lR r0, lR r4, lR b4_0, lV vI6, lV vI5, lR r8] [(.ref r29)]) _
    refine qaN X101 hx hby d8_29 ?_
    refine st111.trans ?_
    show SG p e below T111 (mkF m 33 #[lR r0, lR r4, lR b4_0, lV vI6, lV vI5, lR r8] [vI0]) _
    refine XS.ifYes X111.here hx rfl (pc0 := 33) (pc' := 39) rfl (hb hby d8_33) rfl ((if0 _ _).trans (teq (rfl : (0 : Int32) = (0 : Int32))).1) (by decide) (by decide) ?_
    show SG p e below T111 (mkF m 39 #[lR r0, lR r4, lR b4_0, lV vI6, lV vI5, lR r8] []) _
    refine XS.iinc X111.here hx rfl (hb hby d8_39) rfl (l' := #[lR r0, lR r4, lR b4_0, lV vI6, lV vI6, lR r8]) rfl ?_
    refine XS.goto X111.here hx rfl (pc0 := 42) (pc' := 12) rfl (hb hby d8_42) (by decide) (by decide) ?_
    show SG p e below T111 (mkF m 12 #[lR r0, lR r4, lR b4_0, lV vI6, lV vI6, lR r8] []) _
    refine qi X111 hx hby d8_12 ?_
    refine qiN X111 hx hby d8_14 ?_
    refine XS.icmpYes X111.here hx rfl (pc0 := 15) (pc' := 45) rfl (hb hby d8_15) rfl (flt (by decide : ¬ ((6 : Int32) < (6 : Int32)))).2.1 (by decide) (by decide) ?_
    show SG p e below T111 (mkF m 45 #[lR r0, lR r4, lR b4_0, lV vI6, lV vI6, lR r8] []) _
    refine qaN X111 hx hby d8_45 ?_
    exact retOut X111 hx (i := .areturn) hret rfl (Or.inr (Or.inr (Or.inr (Or.inr ⟨rfl, rfl, rfl⟩)))) (hb hby d8_46) hr
def Q8_4 (Z : State) (r0 r1 : Addr) (c2 : ClassId) (r3 r4 : Addr) (r5 r6 : Addr) (r7 r8 : Addr) (r9 r10 : Addr) (c11 : ClassId) (r12 : Addr) (c13 : ClassId) (x14 : Int32) (t15 : List Int32) (x16 : Int32) (r17 r18 : Addr) (c19 : ClassId) (r20 r21 : Addr) (c22 : ClassId) (r23 r24 : Addr) (c25 : ClassId) (r26 r27 : Addr) (c28 : ClassId) (r29 r30 : Addr) (c31 : ClassId) (h0 : Heap) (n0 : Nat) (v : Option Value) (h : Heap) (L : List Loc) : Prop := v = some (.ref r5) ∧ Fr n0 L ∧ Keep h0 h []
theorem rm8_4 (l : Launch) (Z : State) (a0 : Array Value) (hw : own_HW a0 Z) (ws : List Jvm.Cond) (r0 r1 : Addr) (c2 : ClassId) (r3 r4 : Addr) (r5 r6 : Addr) (r7 r8 : Addr) (r9 r10 : Addr) (c11 : ClassId) (r12 : Addr) (c13 : ClassId) (x14 : Int32) (t15 : List Int32) (x16 : Int32) (r17 r18 : Addr) (c19 : ClassId) (r20 r21 : Addr) (c22 : ClassId) (r23 r24 : Addr) (c25 : ClassId) (r26 r27 : Addr) (c28 : ClassId) (r29 r30 : Addr) (c31 : ClassId) (h0 : Heap) (n0 : Nat) (O0 : Old Z n0 h0) (f1 : Sta Z Z.heap cs0 "$VALUES" cs1 (.ref r1)) (f2 : Exa Z Z.heap r1 cs1) (f3 : Arv Z Z.heap r1 c2 (.object cs0) (6 : Int32) [(.ref r3), (.ref r4), (.ref r5), (.ref r6), (.ref r7), (.ref r8)] .null) (f10 : Fld Z Z.heap r3 cs0 "label" "Ljava/lang/String;" (.ref r9)) (f14 : Exa Z Z.heap r9 "java/lang/String") (f16 : Fld Z Z.heap r9 "java/lang/String" "coder" "B" vI0) (f18 : Fld Z Z.heap r9 "java/lang/String" "value" "[B" (.ref r10)) (f20 : Arv Z Z.heap r10 c11 .byte (3 : Int32) [vI105, vI51, vI50] vI0) (f22 : Exa Z h0 r0 "java/lang/String") (f24 : Fld Z h0 r0 "java/lang/String" "coder" "B" vI0) (f26 : Fld Z h0 r0 "java/lang/String" "value" "[B" (.ref r12)) (f28 : Arv Z h0 r12 c13 .byte x14 (t15.map Value.int) vI0) (hc30 : x14 = Int32.ofNat t15.length) (hc31 : t15.length ≤ 4000) (f32 : Sta Z Z.heap "java/lang/String" "COMPACT_STRINGS" "Z" (.int x16)) (hc34 : ¬ (x16 = (0 : Int32))) (hc35 : ¬ (t15 = [(105 : Int32), (51 : Int32), (50 : Int32)])) (f39 : Fld Z Z.heap r4 cs0 "label" "Ljava/lang/String;" (.ref r17)) (f42 : Exa Z Z.heap r17 "java/lang/String") (f44 : Fld Z Z.heap r17 "java/lang/String" "coder" "B" vI0) (f46 : Fld Z Z.heap r17 "java/lang/String" "value" "[B" (.ref r18)) (f48 : Arv Z Z.heap r18 c19 .byte (3 : Int32) [vI117, vI51, vI50] vI0) (hc50 : ¬ (t15 = [(117 : Int32), (51 : Int32), (50 : Int32)])) (f54 : Fld Z Z.heap r5 cs0 "label" "Ljava/lang/String;" (.ref r20)) (f57 : Exa Z Z.heap r20 "java/lang/String") (f59 : Fld Z Z.heap r20 "java/lang/String" "coder" "B" vI0) (f61 : Fld Z Z.heap r20 "java/lang/String" "value" "[B" (.ref r21)) (f63 : Arv Z Z.heap r21 c22 .byte (3 : Int32) [vI102, vI51, vI50] vI0) (hc65 : t15 = [(102 : Int32), (51 : Int32), (50 : Int32)]) (f69 : Fld Z Z.heap r6 cs0 "label" "Ljava/lang/String;" (.ref r23)) (f72 : Exa Z Z.heap r23 "java/lang/String") (f74 : Fld Z Z.heap r23 "java/lang/String" "coder" "B" vI0) (f76 : Fld Z Z.heap r23 "java/lang/String" "value" "[B" (.ref r24)) (f78 : Arv Z Z.heap r24 c25 .byte (3 : Int32) [vI102, vI54, vI52] vI0) (hc80 : ¬ (t15 = [(102 : Int32), (54 : Int32), (52 : Int32)])) (f84 : Fld Z Z.heap r7 cs0 "label" "Ljava/lang/String;" (.ref r26)) (f87 : Exa Z Z.heap r26 "java/lang/String") (f89 : Fld Z Z.heap r26 "java/lang/String" "coder" "B" vI0) (f91 : Fld Z Z.heap r26 "java/lang/String" "value" "[B" (.ref r27)) (f93 : Arv Z Z.heap r27 c28 .byte (4 : Int32) [vI116, vI101, vI120, vI116] vI0) (hc95 : ¬ (t15 = [(116 : Int32), (101 : Int32), (120 : Int32), (116 : Int32)])) (f99 : Fld Z Z.heap r8 cs0 "label" "Ljava/lang/String;" (.ref r29)) (f102 : Exa Z Z.heap r29 "java/lang/String") (f104 : Fld Z Z.heap r29 "java/lang/String" "coder" "B" vI0) (f106 : Fld Z Z.heap r29 "java/lang/String" "value" "[B" (.ref r30)) (f108 : Arv Z Z.heap r30 c31 .byte (4 : Int32) [vI103, vI117, vI105, vI100] vI0) (hc110 : ¬ (t15 = [(103 : Int32), (117 : Int32), (105 : Int32), (100 : Int32)])) :
    own_MF l mN2 prog_72_method_8_code 6 (some (.object cs0)) ws rR2_1_6_28 Z h0 #[(.ref r0)] (Q8_4 Z r0 r1 c2 r3 r4 r5 r6 r7 r8 r9 r10 c11 r12 c13 x14 t15 x16 r17 r18 c19 r20 r21 c22 r23 r24 c25 r26 r27 c28 r29 r30 c31 h0 n0) := by
  refine own_open (plainFor_of_name pn_com_example_wiregather_wiregather_wire_FieldType) (L0 := #[lR r0, lU, lU, lU, lU, lU]) (fun _ => by first | (simp [entryFrame, mkF, argsToLocals, Value.category]; done) | rfl) ?_
  intro p e s m below meth c s₁ hx hby hml hret hnn hZ hown X0 e0
  have N0 := Fr.nil n0; have w := @ww Z a0 hw
  obtain ⟨_, T4, Lc4, X4, hQ4, st4⟩ := own_cS X0 hx hZ hown e0 (rm9_1 l Z a0 hw [] r1 c2 r3 r4 r5 r6 r7 r8 h0 n0 O0 f1 f2 f3) (w 38 rfl) (w 39 rfl) (w 36 rfl) (w 40 rfl) (by decide) (W := 0) (by decide) (by decide) (by decide) (by decide) (g := (mkF m 2 #[lR r0, .val .null, lU, lU, lU, lU] [])) rfl (by rw [hml]; rfl) (argsL := []) (rest := []) (lenOf pd____Lcom_example_wiregather_wiregather_wire_FieldType_ rfl) rfl (own_W rfl) (hb hby d8_2)
  obtain ⟨b4_0, rfl, N4q, K4, f5, f6, f7⟩ := hQ4
  have N4 := Fr.app N0 N4q
  obtain ⟨clq8, Arq8, qq8, Sq8, Nq8, Hq8, Gq8⟩ := id f7
  obtain ⟨clq9, Arq9, qq9, Sq9, Nq9, Hq9, Gq9⟩ := id f7
  have o11 := Old.keep O0 K4 all0
  have f12 := f10.ext o11.2
  obtain ⟨T13, X13, e13, st13⟩ := getF X4 hx hZ hown (host := "") (Or.inl (w 59 rfl)) Via.refl rfl f12 (g := (mkF m 26 #[lR r0, .val .null, lR b4_0, lV vI6, lV vI0, lR r3] [(.ref r3)])) rfl rfl (hb hby d8_26)
  have f15 := f14.ext o11.2
  have f17 := f16.ext o11.2
  have f19 := f18.ext o11.2
  have f21 := f20.ext o11.2
  have f23 := (f22.keep K4)
  have f25 := (f24.keep K4 nin0)
  have f27 := (f26.keep K4 nin0)
  have f29 := (f28.keep K4 nin0)
  have f33 := f32.ext o11.2
  obtain ⟨cqq37, kqq37, qq37a, qq37b, qq37c⟩ := isOf hZ e13 f15
  obtain ⟨_, T36, Lc36, X36, hQ36, st36⟩ := own_fin (X13.virtualBack hx (y := mN1) (z := mN1) hown (mvT hZ (w 61 rfl)) (mvT hZ (w 62 rfl)) (notFace_of_selects (args := #[]) (mvT hZ (w 64 rfl))) (mvT hZ (w 64 rfl)) (mvT hZ (w 63 rfl)) (by decide) (own_strEq hZ hw (w 5 rfl) (bs := [(105 : Int32), (51 : Int32), (50 : Int32)]) f15 f19 f17 f21 (own_ofLen (n := 3) (by decide) rfl) (Nat.le_of_ble_eq_true rfl) (ds := t15) f23 f27 f25 f29 hc30 hc31 f33 hc34 (r := 0) (n0 := n0) (Or.inr ⟨rfl, fun q => hc35 (Eq.symm q)⟩) (by decide) (by decide : 0 + 28 ≤ _)) qq37a qq37c (g := (mkF m 30 #[lR r0, .val .null, lR b4_0, lV vI6, lV vI0, lR r3] [(.ref r0), (.ref r9)])) rfl (by rw [hml]; rfl) (Steps.refl _) (argsL := [(.ref r0)]) (rest := []) (lenOf pd__Ljava_lang_Object__Z rfl) rfl (own_W rfl) (hb hby d8_30) (fun _ _ => ⟨rfl, e13, (by decide : 1 + 0 ≤ _), (by decide : 6 + 0 ≤ _)⟩))
  obtain ⟨rfl, N36q, E36⟩ := hQ36
  have N36 := Fr.app N4 N36q
  obtain ⟨clq38, Arq38, qq38, Sq38, Nq38, Hq38, Gq38⟩ := id f7
  have f40 := f39.ext o11.2
  obtain ⟨T41, X41, e41, st41⟩ := getF X36 hx hZ hown (host := "") (Or.inl (w 59 rfl)) Via.refl E36 f40 (g := (mkF m 26 #[lR r0, .val .null, lR b4_0, lV vI6, lV vI1, lR r4] [(.ref r4)])) rfl rfl (hb hby d8_26)
  have f43 := f42.ext o11.2
  have f45 := f44.ext o11.2
  have f47 := f46.ext o11.2
  have f49 := f48.ext o11.2
  obtain ⟨cqq52, kqq52, qq52a, qq52b, qq52c⟩ := isOf hZ e41 f43
  obtain ⟨_, T51, Lc51, X51, hQ51, st51⟩ := own_fin (X41.virtualBack hx (y := mN1) (z := mN1) hown (mvT hZ (w 61 rfl)) (mvT hZ (w 62 rfl)) (notFace_of_selects (args := #[]) (mvT hZ (w 64 rfl))) (mvT hZ (w 64 rfl)) (mvT hZ (w 63 rfl)) (by decide) (own_strEq hZ hw (w 5 rfl) (bs := [(117 : Int32), (51 : Int32), (50 : Int32)]) f43 f47 f45 f49 (own_ofLen (n := 3) (by decide) rfl) (Nat.le_of_ble_eq_true rfl) (ds := t15) f23 f27 f25 f29 hc30 hc31 f33 hc34 (r := 0) (n0 := n0) (Or.inr ⟨rfl, fun q => hc50 (Eq.symm q)⟩) (by decide) (by decide : 0 + 28 ≤ _)) qq52a qq52c (g := (mkF m 30 #[lR r0, .val .null, lR b4_0, lV vI6, lV vI1, lR r4] [(.ref r0), (.ref r17)])) rfl (by rw [hml]; rfl) (Steps.refl _) (argsL := [(.ref r0)]) (rest := []) (lenOf pd__Ljava_lang_Object__Z rfl) rfl (own_W rfl) (hb hby d8_30) (fun _ _ => ⟨rfl, e41, (by decide : 1 + 0 ≤ _), (by decide : 6 + 0 ≤ _)⟩))
  obtain ⟨rfl, N51q, E51⟩ := hQ51
  have N51 := Fr.app N36 N51q
  obtain ⟨clq53, Arq53, qq53, Sq53, Nq53, Hq53, Gq53⟩ := id f7
  have f55 := f54.ext o11.2
  obtain ⟨T56, X56, e56, st56⟩ := getF X51 hx hZ hown (host := "") (Or.inl (w 59 rfl)) Via.refl E51 f55 (g := (mkF m 26 #[lR r0, .val .null, lR b4_0, lV vI6, lV vI2, lR r5] [(.ref r5)])) rfl rfl (hb hby d8_26)
  have f58 := f57.ext o11.2
  have f60 := f59.ext o11.2
  have f62 := f61.ext o11.2
  have f64 := f63.ext o11.2
  obtain ⟨cqq67, kqq67, qq67a, qq67b, qq67c⟩ := isOf hZ e56 f58
  obtain ⟨_, T66, Lc66, X66, hQ66, st66⟩ := own_fin (X56.virtualBack hx (y := mN1) (z := mN1) hown (mvT hZ (w 61 rfl)) (mvT hZ (w 62 rfl)) (notFace_of_selects (args := #[]) (mvT hZ (w 64 rfl))) (mvT hZ (w 64 rfl)) (mvT hZ (w 63 rfl)) (by decide) (own_strEq hZ hw (w 5 rfl) (bs := [(102 : Int32), (51 : Int32), (50 : Int32)]) f58 f62 f60 f64 (own_ofLen (n := 3) (by decide) rfl) (Nat.le_of_ble_eq_true rfl) (ds := t15) f23 f27 f25 f29 hc30 hc31 f33 hc34 (r := 1) (n0 := n0) (Or.inl ⟨rfl, (Eq.symm hc65)⟩) (by decide) (by decide : 0 + 28 ≤ _)) qq67a qq67c (g := (mkF m 30 #[lR r0, .val .null, lR b4_0, lV vI6, lV vI2, lR r5] [(.ref r0), (.ref r20)])) rfl (by rw [hml]; rfl) (Steps.refl _) (argsL := [(.ref r0)]) (rest := []) (lenOf pd__Ljava_lang_Object__Z rfl) rfl (own_W rfl) (hb hby d8_30) (fun _ _ => ⟨rfl, e56, (by decide : 1 + 0 ≤ _), (by decide : 6 + 0 ≤ _)⟩))
  obtain ⟨rfl, N66q, E66⟩ := hQ66
  have N66 := Fr.app N51 N66q
  obtain ⟨clq68, Arq68, qq68, Sq68, Nq68, Hq68, Gq68⟩ := id f7
  have f70 := f69.ext o11.2
  obtain ⟨T71, X71, e71, st71⟩ := getF X66 hx hZ hown (host := "") (Or.inl (w 59 rfl)) Via.refl E66 f70 (g := (mkF m 26 #[lR r0, lR r5, lR b4_0, lV vI6, lV vI3, lR r6] [(.ref r6)])) rfl rfl (hb hby d8_26)
  have f73 := f72.ext o11.2
  have f75 := f74.ext o11.2
  have f77 := f76.ext o11.2
  have f79 := f78.ext o11.2
  obtain ⟨cqq82, kqq82, qq82a, qq82b, qq82c⟩ := isOf hZ e71 f73
  obtain ⟨_, T81, Lc81, X81, hQ81, st81⟩ := own_fin (X71.virtualBack hx (y := mN1) (z := mN1) hown (mvT hZ (w 61 rfl)) (mvT hZ (w 62 rfl)) (notFace_of_selects (args := #[]) (mvT hZ (w 64 rfl))) (mvT hZ (w 64 rfl)) (mvT hZ (w 63 rfl)) (by decide) (own_strEq hZ hw (w 5 rfl) (bs := [(102 : Int32), (54 : Int32), (52 : Int32)]) f73 f77 f75 f79 (own_ofLen (n := 3) (by decide) rfl) (Nat.le_of_ble_eq_true rfl) (ds := t15) f23 f27 f25 f29 hc30 hc31 f33 hc34 (r := 0) (n0 := n0) (Or.inr ⟨rfl, fun q => hc80 (Eq.symm q)⟩) (by decide) (by decide : 0 + 28 ≤ _)) qq82a qq82c (g := (mkF m 30 #[lR r0, lR r5, lR b4_0, lV vI6, lV vI3, lR r6] [(.ref r0), (.ref r23)])) rfl (by rw [hml]; rfl) (Steps.refl _) (argsL := [(.ref r0)]) (rest := []) (lenOf pd__Ljava_lang_Object__Z rfl) rfl (own_W rfl) (hb hby d8_30) (fun _ _ => ⟨rfl, e71, (by decide : 1 + 0 ≤ _), (by decide : 6 + 0 ≤ _)⟩))
  obtain ⟨rfl, N81q, E81⟩ := hQ81
  have N81 := Fr.app N66 N81q
  obtain ⟨clq83, Arq83, qq83, Sq83, Nq83, Hq83, Gq83⟩ := id f7
  have f85 := f84.ext o11.2
  obtain ⟨T86, X86, e86, st86⟩ := getF X81 hx hZ hown (host := "") (Or.inl (w 59 rfl)) Via.refl E81 f85 (g := (mkF m 26 #[lR r0, lR r5, lR b4_0, lV vI6, lV vI4, lR r7] [(.ref r7)])) rfl rfl (hb hby d8_26)
  have f88 := f87.ext o11.2
  have f90 := f89.ext o11.2
  have f92 := f91.ext o11.2
  have f94 := f93.ext o11.2
  obtain ⟨cqq97, kqq97, qq97a, qq97b, qq97c⟩ := isOf hZ e86 f88
  obtain ⟨_, T96, Lc96, X96, hQ96, st96⟩ := own_fin (X86.virtualBack hx (y := mN1) (z := mN1) hown (mvT hZ (w 61 rfl)) (mvT hZ (w 62 rfl)) (notFace_of_selects (args := #[]) (mvT hZ (w 64 rfl))) (mvT hZ (w 64 rfl)) (mvT hZ (w 63 rfl)) (by decide) (own_strEq hZ hw (w 5 rfl) (bs := [(116 : Int32), (101 : Int32), (120 : Int32), (116 : Int32)]) f88 f92 f90 f94 (own_ofLen (n := 4) (by decide) rfl) (Nat.le_of_ble_eq_true rfl) (ds := t15) f23 f27 f25 f29 hc30 hc31 f33 hc34 (r := 0) (n0 := n0) (Or.inr ⟨rfl, fun q => hc95 (Eq.symm q)⟩) (by decide) (by decide : 0 + 28 ≤ _)) qq97a qq97c (g := (mkF m 30 #[lR r0, lR r5, lR b4_0, lV vI6, lV vI4, lR r7] [(.ref r0), (.ref r26)])) rfl (by rw [hml]; rfl) (Steps.refl _) (argsL := [(.ref r0)]) (rest := []) (lenOf pd__Ljava_lang_Object__Z rfl) rfl (own_W rfl) (hb hby d8_30) (fun _ _ => ⟨rfl, e86, (by decide : 1 + 0 ≤ _), (by decide : 6 + 0 ≤ _)⟩))
  obtain ⟨rfl, N96q, E96⟩ := hQ96
  have N96 := Fr.app N81 N96q
  obtain ⟨clq98, Arq98, qq98, Sq98, Nq98, Hq98, Gq98⟩ := id f7
  have f100 := f99.ext o11.2
  obtain ⟨T101, X101, e101, st101⟩ := getF X96 hx hZ hown (host := "") (Or.inl (w 59 rfl)) Via.refl E96 f100 (g := (mkF m 26 #[lR r0, lR r5, lR b4_0, lV vI6, lV vI5, lR r8] [(.ref r8)])) rfl rfl (hb hby d8_26)
  have f103 := f102.ext o11.2
  have f105 := f104.ext o11.2
  have f107 := f106.ext o11.2
  have f109 := f108.ext o11.2
  obtain ⟨cqq112, kqq112, qq112a, qq112b, qq112c⟩ := isOf hZ e101 f103
  obtain ⟨_, T111, Lc111, X111, hQ111, st111⟩ := own_fin (X101.virtualBack hx (y := mN1) (z := mN1) hown (mvT hZ (w 61 rfl)) (mvT hZ (w 62 rfl)) (notFace_of_selects (args := #[]) (mvT hZ (w 64 rfl))) (mvT hZ (w 64 rfl)) (mvT hZ (w 63 rfl)) (by decide) (own_strEq hZ hw (w 5 rfl) (bs := [(103 : Int32), (117 : Int32), (105 : Int32), (100 : Int32)]) f103 f107 f105 f109 (own_ofLen (n := 4) (by decide) rfl) (Nat.le_of_ble_eq_true rfl) (ds := t15) f23 f27 f25 f29 hc30 hc31 f33 hc34 (r := 0) (n0 := n0) (Or.inr ⟨rfl, fun q => hc110 (Eq.symm q)⟩) (by decide) (by decide : 0 + 28 ≤ _)) qq112a qq112c (g := (mkF m 30 #[lR r0, lR r5, lR b4_0, lV vI6, lV vI5, lR r8] [(.ref r0), (.ref r29)])) rfl (by rw [hml]; rfl) (Steps.refl _) (argsL := [(.ref r0)]) (rest := []) (lenOf pd__Ljava_lang_Object__Z rfl) rfl (own_W rfl) (hb hby d8_30) (fun _ _ => ⟨rfl, e101, (by decide : 1 + 0 ≤ _), (by decide : 6 + 0 ≤ _)⟩))
  obtain ⟨rfl, N111q, E111⟩ := hQ111
  have N111 := Fr.app N96 N111q
  have kp113 : Keep h0 T4.heap [] := (Keep.refl h0 []).trans K4 all0
  refine ⟨some (.ref r5), _, _, _, _, nofun, X111, by decide, by decide, ?_, fun fs hr => ?_⟩
  · rw [E111]; exact ⟨rfl, N111, kp113⟩
  · show SG p e below s₁ (mkF m 0 #[lR r0, lU, lU, lU, lU, lU] []) _
    refine XS.aconstNull X0.here hx rfl (hb hby d8_0) ?_
    refine XS.astoreN X0.here hx rfl (hb hby d8_1) rfl rfl (l' := #[lR r0, .val .null, lU, lU, lU, lU]) rfl ?_
    refine st4 _ ?_
    show SG p e below T4 (mkF m 5 #[lR r0, .val .null, lU, lU, lU, lU] [(.ref b4_0)]) _
    refine XS.astoreN X4.here hx rfl (hb hby d8_5) rfl rfl (l' := #[lR r0, .val .null, lR b4_0, lU, lU, lU]) rfl ?_
    refine qaN X4 hx hby d8_6 ?_
    refine X4.arraylength hx (Arq8.1) (State.isArrayOf_alike hZ.alike Arq8.2.1) (g := (mkF m 7 #[lR r0, .val .null, lR b4_0, lU, lU, lU] [(.ref b4_0)])) rfl rfl (hb hby d8_7) _ ?_
    rw [len_of Sq8 Nq8]
    show SG p e below T4 (mkF m 8 #[lR r0, .val .null, lR b4_0, lU, lU, lU] [vI6]) _
    refine XS.istoreN X4.here hx rfl (hb hby d8_8) rfl (l' := #[lR r0, .val .null, lR b4_0, lV vI6, lU, lU]) rfl ?_
    refine qc X4 hx hby d8_9 ?_
    refine XS.istore X4.here hx rfl (hb hby d8_10) rfl (l' := #[lR r0, .val .null, lR b4_0, lV vI6, lV vI0, lU]) rfl ?_
    refine qi X4 hx hby d8_12 ?_
    refine qiN X4 hx hby d8_14 ?_
    refine XS.icmpNo X4.here hx rfl (hb hby d8_15) rfl (tlt (by decide : (0 : Int32) < (6 : Int32))).2.1 ?_
    refine qaN X4 hx hby d8_18 ?_
    refine qi X4 hx hby d8_19 ?_
    show SG p e below T4 (mkF m 21 #[lR r0, .val .null, lR b4_0, lV vI6, lV vI0, lU] [vI0, (.ref b4_0)]) _
    refine X4.aaload hx (j := (0 : Int32)) (v := (.ref r3)) (Arq9.1) (State.isArrayOf_alike hZ.alike Arq9.2.1) rfl Arq9.2.2 (inb_of Sq9 ⟨(by decide : ¬ ((0 : Int32) < (0 : Int32))), (by decide : (0 : Int32) < (6 : Int32))⟩) (Has.at Hq9 (inb_of Sq9 ⟨(by decide : ¬ ((0 : Int32) < (0 : Int32))), (by decide : (0 : Int32) < (6 : Int32))⟩) rfl) (g := (mkF m 21 #[lR r0, .val .null, lR b4_0, lV vI6, lV vI0, lU] [vI0, (.ref b4_0)])) rfl rfl (hb hby d8_21) _ ?_
    show SG p e below T4 (mkF m 22 #[lR r0, .val .null, lR b4_0, lV vI6, lV vI0, lU] [(.ref r3)]) _
    refine XS.astore X4.here hx rfl (hb hby d8_22) rfl rfl (l' := #[lR r0, .val .null, lR b4_0, lV vI6, lV vI0, lR r3]) rfl ?_
    refine qa X4 hx hby d8_24 ?_
    refine st13 _ ?_
    show SG p e below T13 (mkF m 29 #[lR r0, .val .null, lR b4_0, lV vI6, lV vI0, lR r3] [(.ref r9)]) _
    refine qaN X13 hx hby d8_29 ?_
    refine st36.trans ?_
    show SG p e below T36 (mkF m 33 #[lR r0, .val .null, lR b4_0, lV vI6, lV vI0, lR r3] [vI0]) _
    refine XS.ifYes X36.here hx rfl (pc0 := 33) (pc' := 39) rfl (hb hby d8_33) rfl ((if0 _ _).trans (teq (rfl : (0 : Int32) = (0 : Int32))).1) (by decide) (by decide) ?_
    show SG p e below T36 (mkF m 39 #[lR r0, .val .null, lR b4_0, lV vI6, lV vI0, lR r3] []) _
    refine XS.iinc X36.here hx rfl (hb hby d8_39) rfl (l' := #[lR r0, .val .null, lR b4_0, lV vI6, lV vI1, lR r3]) rfl ?_
    refine XS.goto X36.here hx rfl (pc0 := 42) (pc' := 12) rfl (hb hby d8_42) (by decide) (by decide) ?_
    show SG p e below T36 (mkF m 12 #[lR r0, .val .null, lR b4_0, lV vI6, lV vI1, lR r3] []) _
    refine qi X36 hx hby d8_12 ?_
    refine qiN X36 hx hby d8_14 ?_
    refine XS.icmpNo X36.here hx rfl (hb hby d8_15) rfl (tlt (by decide : (1 : Int32) < (6 : Int32))).2.1 ?_
    refine qaN X36 hx hby d8_18 ?_
    refine qi X36 hx hby d8_19 ?_
    refine X36.aaload hx (j := (1 : Int32)) (v := (.ref r4)) (by rw [E36]; exact Arq38.1) (State.isArrayOf_alike hZ.alike Arq38.2.1) rfl Arq38.2.2 (inb_of Sq38 ⟨(by decide : ¬ ((1 : Int32) < (0 : Int32))), (by decide : (1 : Int32) < (6 : Int32))⟩) (Has.at Hq38 (inb_of Sq38 ⟨(by decide : ¬ ((1 : Int32) < (0 : Int32))), (by decide : (1 : Int32) < (6 : Int32))⟩) rfl) (g := (mkF m 21 #[lR r0, .val .null, lR b4_0, lV vI6, lV vI1, lR r3] [vI1, (.ref b4_0)])) rfl rfl (hb hby d8_21) _ ?_
    show SG p e below T36 (mkF m 22 #[lR r0, .val .null, lR b4_0, lV vI6, lV vI1, lR r3] [(.ref r4)]) _
    refine XS.astore X36.here hx rfl (hb hby d8_22) rfl rfl (l' := #[lR r0, .val .null, lR b4_0, lV vI6, lV vI1, lR r4]) rfl ?_
    refine qa X36 hx hby d8_24 ?_
    refine st41 _ ?_
    show SG p e below T41 (mkF m 29 #[lR r0, .val .null, lR b4_0, lV vI6, lV vI1, lR r4] [(.ref r17)]) _
    refine qaN X41 hx hby d8_29 ?_
    refine st51.trans ?_
    show SG p e below T51 (mkF m 33 #[lR r0, .val .null, lR b4_0, lV vI6, lV vI1, lR r4] [vI0]) _
    refine XS.ifYes X51.here hx rfl (pc0 := 33) (pc' := 39) rfl (hb hby d8_33) rfl ((if0 _ _).trans (teq (rfl : (0 : Int32) = (0 : Int32))).1) (by decide) (by decide) ?_
    show SG p e below T51 (mkF m 39 #[lR r0, .val .null, lR b4_0, lV vI6, lV vI1, lR r4] []) _
    refine XS.iinc X51.here hx rfl (hb hby d8_39) rfl (l' := #[lR r0, .val .null, lR b4_0, lV vI6, lV vI2, lR r4]) rfl ?_
    refine XS.goto X51.here hx rfl (pc0 := 42) (pc' := 12) rfl (hb hby d8_42) (by decide) (by decide) ?_
    show SG p e below T51 (mkF m 12 #[lR r0, .val .null, lR b4_0, lV vI6, lV vI2, lR r4] []) _
    refine qi X51 hx hby d8_12 ?_
    refine qiN X51 hx hby d8_14 ?_
    refine XS.icmpNo X51.here hx rfl (hb hby d8_15) rfl (tlt (by decide : (2 : Int32) < (6 : Int32))).2.1 ?_
    refine qaN X51 hx hby d8_18 ?_
    refine qi X51 hx hby d8_19 ?_
    refine X51.aaload hx (j := (2 : Int32)) (v := (.ref r5)) (by rw [E51]; exact Arq53.1) (State.isArrayOf_alike hZ.alike Arq53.2.1) rfl Arq53.2.2 (inb_of Sq53 ⟨(by decide : ¬ ((2 : Int32) < (0 : Int32))), (by decide : (2 : Int32) < (6 : Int32))⟩) (Has.at Hq53 (inb_of Sq53 ⟨(by decide : ¬ ((2 : Int32) < (0 : Int32))), (by decide : (2 : Int32) < (6 : Int32))⟩) rfl) (g := (mkF m 21 #[lR r0, .val .null, lR b4_0, lV vI6, lV vI2, lR r4] [vI2, (.ref b4_0)])) rfl rfl (hb hby d8_21) _ ?_
    show SG p e below T51 (mkF m 22 #[lR r0, .val .null, lR b4_0, lV vI6, lV vI2, lR r4] [(.ref r5)]) _
    refine XS.astore X51.here hx rfl (hb hby d8_22) rfl rfl (l' := #[lR r0, .val .null, lR b4_0, lV vI6, lV vI2, lR r5]) rfl ?_
    refine qa X51 hx hby d8_24 ?_
    refine st56 _ ?_
    show SG p e below T56 (mkF m 29 #[lR r0, .val .null, lR b4_0, lV vI6, lV vI2, lR r5] [(.ref r20)]) _
    refine qaN X56 hx hby d8_29 ?_
    refine st66.trans ?_
    show SG p e below T66 (mkF m 33 #[lR r0, .val .null, lR b4_0, lV vI6, lV vI2, lR r5] [vI1]) _
    refine XS.ifNo X66.here hx rfl (hb hby d8_33) rfl ((if0 _ _).trans (feq (by decide : ¬ ((1 : Int32) = (0 : Int32)))).1) ?_
    refine qa X66 hx hby d8_36 ?_
    refine XS.astoreN X66.here hx rfl (hb hby d8_38) rfl rfl (l' := #[lR r0, lR r5, lR b4_0, lV vI6, lV vI2, lR r5]) rfl ?_
    refine XS.iinc X66.here hx rfl (hb hby d8_39) rfl (l' := #[lR r0, lR r5, lR b4_0, lV vI6, lV vI3, lR r5]) rfl ?_
    refine XS.goto X66.here hx rfl (pc0 := 42) (pc' := 12) rfl (hb hby d8_42) (by decide) (by decide) ?_
    show SG p e below T66 (mkF m 12 #[lR r0, lR r5, lR b4_0, lV vI6, lV vI3, lR r5] []) _
    refine qi X66 hx hby d8_12 ?_
    refine qiN X66 hx hby d8_14 ?_
    refine XS.icmpNo X66.here hx rfl (hb hby d8_15) rfl (tlt (by decide : (3 : Int32) < (6 : Int32))).2.1 ?_
    refine qaN X66 hx hby d8_18 ?_
    refine qi X66 hx hby d8_19 ?_
    refine X66.aaload hx (j := (3 : Int32)) (v := (.ref r6)) (by rw [E66]; exact Arq68.1) (State.isArrayOf_alike hZ.alike Arq68.2.1) rfl Arq68.2.2 (inb_of Sq68 ⟨(by decide : ¬ ((3 : Int32) < (0 : Int32))), (by decide : (3 : Int32) < (6 : Int32))⟩) (Has.at Hq68 (inb_of Sq68 ⟨(by decide : ¬ ((3 : Int32) < (0 : Int32))), (by decide : (3 : Int32) < (6 : Int32))⟩) rfl) (g := (mkF m 21 #[lR r0, lR r5, lR b4_0, lV vI6, lV vI3, lR r5] [vI3, (.ref b4_0)])) rfl rfl (hb hby d8_21) _ ?_
    show SG p e below T66 (mkF m 22 #[lR r0, lR r5, lR b4_0, lV vI6, lV vI3, lR r5] [(.ref r6)]) _
    refine XS.astore X66.here hx rfl (hb hby d8_22) rfl rfl (l' := #[lR r0, lR r5, lR b4_0, lV vI6, lV vI3, lR r6]) rfl ?_
    refine qa X66 hx hby d8_24 ?_
    refine st71 _ ?_
    show SG p e below T71 (mkF m 29 #[lR r0, lR r5, lR b4_0, lV vI6, lV vI3, lR r6] [(.ref r23)]) _
    refine qaN X71 hx hby d8_29 ?_
    refine st81.trans ?_
    show SG p e below T81 (mkF m 33 #[lR r0, lR r5, lR b4_0, lV vI6, lV vI3, lR r6] [vI0]) _
    refine XS.ifYes X81.here hx rfl (pc0 := 33) (pc' := 39) rfl (hb hby d8_33) rfl ((if0 _ _).trans (teq (rfl : (0 : Int32) = (0 : Int32))).1) (by decide) (by decide) ?_
    show SG p e below T81 (mkF m 39 #[lR r0, lR r5, lR b4_0, lV vI6, lV vI3, lR r6] []) _
    refine XS.iinc X81.here hx rfl (hb hby d8_39) rfl (l' := #[lR r0, lR r5, lR b4_0, lV vI6, lV vI4, lR r6]) rfl ?_
    refine XS.goto X81.here hx rfl (pc0 := 42) (pc' := 12) rfl (hb hby d8_42) (by decide) (by decide) ?_
    show SG p e below T81 (mkF m 12 #[lR r0, lR r5, lR b4_0, lV vI6, lV vI4, lR r6] []) _
    refine qi X81 hx hby d8_12 ?_
    refine qiN X81 hx hby d8_14 ?_
    refine XS.icmpNo X81.here hx rfl (hb hby d8_15) rfl (tlt (by decide : (4 : Int32) < (6 : Int32))).2.1 ?_
    refine qaN X81 hx hby d8_18 ?_
    refine qi X81 hx hby d8_19 ?_
    refine X81.aaload hx (j := (4 : Int32)) (v := (.ref r7)) (by rw [E81]; exact Arq83.1) (State.isArrayOf_alike hZ.alike Arq83.2.1) rfl Arq83.2.2 (inb_of Sq83 ⟨(by decide : ¬ ((4 : Int32) < (0 : Int32))), (by decide : (4 : Int32) < (6 : Int32))⟩) (Has.at Hq83 (inb_of Sq83 ⟨(by decide : ¬ ((4 : Int32) < (0 : Int32))), (by decide : (4 : Int32) < (6 : Int32))⟩) rfl) (g := (mkF m 21 #[lR r0, lR r5, lR b4_0, lV vI6, lV vI4, lR r6] [vI4, (.ref b4_0)])) rfl rfl (hb hby d8_21) _ ?_
    show SG p e below T81 (mkF m 22 #[lR r0, lR r5, lR b4_0, lV vI6, lV vI4, lR r6] [(.ref r7)]) _
    refine XS.astore X81.here hx rfl (hb hby d8_22) rfl rfl (l' := #[lR r0, lR r5, lR b4_0, lV vI6, lV vI4, lR r7]) rfl ?_
    refine qa X81 hx hby d8_24 ?_
    refine st86 _ ?_
    show SG p e below T86 (mkF m 29 #[lR r0, lR r5, lR b4_0, lV vI6, lV vI4, lR r7] [(.ref r26)]) _
    refine qaN X86 hx hby d8_29 ?_
    refine st96.trans ?_
    show SG p e below T96 (mkF m 33 #[lR r0, lR r5, lR b4_0, lV vI6, lV vI4, lR r7] [vI0]) _
    refine XS.ifYes X96.here hx rfl (pc0 := 33) (pc' := 39) rfl (hb hby d8_33) rfl ((if0 _ _).trans (teq (rfl : (0 : Int32) = (0 : Int32))).1) (by decide) (by decide) ?_
    show SG p e below T96 (mkF m 39 #[lR r0, lR r5, lR b4_0, lV vI6, lV vI4, lR r7] []) _
    refine XS.iinc X96.here hx rfl (hb hby d8_39) rfl (l' := #[lR r0, lR r5, lR b4_0, lV vI6, lV vI5, lR r7]) rfl ?_
    refine XS.goto X96.here hx rfl (pc0 := 42) (pc' := 12) rfl (hb hby d8_42) (by decide) (by decide) ?_
    show SG p e below T96 (mkF m 12 #[lR r0, lR r5, lR b4_0, lV vI6, lV vI5, lR r7] []) _
    refine qi X96 hx hby d8_12 ?_
    refine qiN X96 hx hby d8_14 ?_
    refine XS.icmpNo X96.here hx rfl (hb hby d8_15) rfl (tlt (by decide : (5 : Int32) < (6 : Int32))).2.1 ?_
    refine qaN X96 hx hby d8_18 ?_
    refine qi X96 hx hby d8_19 ?_
    refine X96.aaload hx (j := (5 : Int32)) (v := (.ref r8)) (by rw [E96]; exact Arq98.1) (State.isArrayOf_alike hZ.alike Arq98.2.1) rfl Arq98.2.2 (inb_of Sq98 ⟨(by decide : ¬ ((5 : Int32) < (0 : Int32))), (by decide : (5 : Int32) < (6 : Int32))⟩) (Has.at Hq98 (inb_of Sq98 ⟨(by decide : ¬ ((5 : Int32) < (0 : Int32))), (by decide : (5 : Int32) < (6 : Int32))⟩) rfl) (g := (mkF m 21 #[lR r0, lR r5, lR b4_0, lV vI6, lV vI5, lR r7] [vI5, (.ref b4_0)])) rfl rfl (hb hby d8_21) _ ?_
    show SG p e below T96 (mkF m 22 #[lR r0, lR r5, lR b4_0, lV vI6, lV vI5, lR r7] [(.ref r8)]) _
    refine XS.astore X96.here hx rfl (hb hby d8_22) rfl rfl (l' := #[lR r0, lR r5, lR b4_0, lV vI6, lV vI5, lR r8]) rfl ?_
    refine qa X96 hx hby d8_24 ?_
    refine st101 _ ?_
    show SG p e below T101 (mkF m 29 #[lR r0, lR r5, lR b4_0, lV vI6, lV vI5, lR r8] [(.ref r29)]) _
    refine qaN X101 hx hby d8_29 ?_
    refine st111.trans ?_
    show SG p e below T111 (mkF m 33 #[lR r0, lR r5, lR b4_0, lV vI6, lV vI5, lR r8] [vI0]) _
    refine XS.ifYes X111.here hx rfl (pc0 := 33) (pc' := 39) rfl (hb hby d8_33) rfl ((if0 _ _).trans (teq (rfl : (0 : Int32) = (0 : Int32))).1) (by decide) (by decide) ?_
    show SG p e below T111 (mkF m 39 #[lR r0, lR r5, lR b4_0, lV vI6, lV vI5, lR r8] []) _
    refine XS.iinc X111.here hx rfl (hb hby d8_39) rfl (l' := #[lR r0, lR r5, lR b4_0, lV vI6, lV vI6, lR r8]) rfl ?_
    refine XS.goto X111.here hx rfl (pc0 := 42) (pc' := 12) rfl (hb hby d8_42) (by decide) (by decide) ?_
    show SG p e below T111 (mkF m 12 #[lR r0, lR r5, lR b4_0, lV vI6, lV vI6, lR r8] []) _
    refine qi X111 hx hby d8_12 ?_
    refine qiN X111 hx hby d8_14 ?_
    refine XS.icmpYes X111.here hx rfl (pc0 := 15) (pc' := 45) rfl (hb hby d8_15) rfl (flt (by decide : ¬ ((6 : Int32) < (6 : Int32)))).2.1 (by decide) (by decide) ?_
    show SG p e below T111 (mkF m 45 #[lR r0, lR r5, lR b4_0, lV vI6, lV vI6, lR r8] []) _
    refine qaN X111 hx hby d8_45 ?_
    exact retOut X111 hx (i := .areturn) hret rfl (Or.inr (Or.inr (Or.inr (Or.inr ⟨rfl, rfl, rfl⟩)))) (hb hby d8_46) hr
def Q8_5 (Z : State) (r0 r1 : Addr) (c2 : ClassId) (r3 r4 : Addr) (r5 r6 : Addr) (r7 r8 : Addr) (r9 r10 : Addr) (c11 : ClassId) (r12 : Addr) (c13 : ClassId) (x14 : Int32) (t15 : List Int32) (x16 : Int32) (r17 r18 : Addr) (c19 : ClassId) (r20 r21 : Addr) (c22 : ClassId) (r23 r24 : Addr) (c25 : ClassId) (r26 r27 : Addr) (c28 : ClassId) (r29 r30 : Addr) (c31 : ClassId) (h0 : Heap) (n0 : Nat) (v : Option Value) (h : Heap) (L : List Loc) : Prop := v = some (.ref r6) ∧ Fr n0 L ∧ Keep h0 h []
theorem rm8_5 (l : Launch) (Z : State) (a0 : Array Value) (hw : own_HW a0 Z) (ws : List Jvm.Cond) (r0 r1 : Addr) (c2 : ClassId) (r3 r4 : Addr) (r5 r6 : Addr) (r7 r8 : Addr) (r9 r10 : Addr) (c11 : ClassId) (r12 : Addr) (c13 : ClassId) (x14 : Int32) (t15 : List Int32) (x16 : Int32) (r17 r18 : Addr) (c19 : ClassId) (r20 r21 : Addr) (c22 : ClassId) (r23 r24 : Addr) (c25 : ClassId) (r26 r27 : Addr) (c28 : ClassId) (r29 r30 : Addr) (c31 : ClassId) (h0 : Heap) (n0 : Nat) (O0 : Old Z n0 h0) (f1 : Sta Z Z.heap cs0 "$VALUES" cs1 (.ref r1)) (f2 : Exa Z Z.heap r1 cs1) (f3 : Arv Z Z.heap r1 c2 (.object cs0) (6 : Int32) [(.ref r3), (.ref r4), (.ref r5), (.ref r6), (.ref r7), (.ref r8)] .null) (f10 : Fld Z Z.heap r3 cs0 "label" "Ljava/lang/String;" (.ref r9)) (f14 : Exa Z Z.heap r9 "java/lang/String") (f16 : Fld Z Z.heap r9 "java/lang/String" "coder" "B" vI0) (f18 : Fld Z Z.heap r9 "java/lang/String" "value" "[B" (.ref r10)) (f20 : Arv Z Z.heap r10 c11 .byte (3 : Int32) [vI105, vI51, vI50] vI0) (f22 : Exa Z h0 r0 "java/lang/String") (f24 : Fld Z h0 r0 "java/lang/String" "coder" "B" vI0) (f26 : Fld Z h0 r0 "java/lang/String" "value" "[B" (.ref r12)) (f28 : Arv Z h0 r12 c13 .byte x14 (t15.map Value.int) vI0) (hc30 : x14 = Int32.ofNat t15.length) (hc31 : t15.length ≤ 4000) (f32 : Sta Z Z.heap "java/lang/String" "COMPACT_STRINGS" "Z" (.int x16)) (hc34 : ¬ (x16 = (0 : Int32))) (hc35 : ¬ (t15 = [(105 : Int32), (51 : Int32), (50 : Int32)])) (f39 : Fld Z Z.heap r4 cs0 "label" "Ljava/lang/String;" (.ref r17)) (f42 : Exa Z Z.heap r17 "java/lang/String") (f44 : Fld Z Z.heap r17 "java/lang/String" "coder" "B" vI0) (f46 : Fld Z Z.heap r17 "java/lang/String" "value" "[B" (.ref r18)) (f48 : Arv Z Z.heap r18 c19 .byte (3 : Int32) [vI117, vI51, vI50] vI0) (hc50 : ¬ (t15 = [(117 : Int32), (51 : Int32), (50 : Int32)])) (f54 : Fld Z Z.heap r5 cs0 "label" "Ljava/lang/String;" (.ref r20)) (f57 : Exa Z Z.heap r20 "java/lang/String") (f59 : Fld Z Z.heap r20 "java/lang/String" "coder" "B" vI0) (f61 : Fld Z Z.heap r20 "java/lang/String" "value" "[B" (.ref r21)) (f63 : Arv Z Z.heap r21 c22 .byte (3 : Int32) [vI102, vI51, vI50] vI0) (hc65 : ¬ (t15 = [(102 : Int32), (51 : Int32), (50 : Int32)])) (f69 : Fld Z Z.heap r6 cs0 "label" "Ljava/lang/String;" (.ref r23)) (f72 : Exa Z Z.heap r23 "java/lang/String") (f74 : Fld Z Z.heap r23 "java/lang/String" "coder" "B" vI0) (f76 : Fld Z Z.heap r23 "java/lang/String" "value" "[B" (.ref r24)) (f78 : Arv Z Z.heap r24 c25 .byte (3 : Int32) [vI102, vI54, vI52] vI0) (hc80 : t15 = [(102 : Int32), (54 : Int32), (52 : Int32)]) (f84 : Fld Z Z.heap r7 cs0 "label" "Ljava/lang/String;" (.ref r26)) (f87 : Exa Z Z.heap r26 "java/lang/String") (f89 : Fld Z Z.heap r26 "java/lang/String" "coder" "B" vI0) (f91 : Fld Z Z.heap r26 "java/lang/String" "value" "[B" (.ref r27)) (f93 : Arv Z Z.heap r27 c28 .byte (4 : Int32) [vI116, vI101, vI120, vI116] vI0) (hc95 : ¬ (t15 = [(116 : Int32), (101 : Int32), (120 : Int32), (116 : Int32)])) (f99 : Fld Z Z.heap r8 cs0 "label" "Ljava/lang/String;" (.ref r29)) (f102 : Exa Z Z.heap r29 "java/lang/String") (f104 : Fld Z Z.heap r29 "java/lang/String" "coder" "B" vI0) (f106 : Fld Z Z.heap r29 "java/lang/String" "value" "[B" (.ref r30)) (f108 : Arv Z Z.heap r30 c31 .byte (4 : Int32) [vI103, vI117, vI105, vI100] vI0) (hc110 : ¬ (t15 = [(103 : Int32), (117 : Int32), (105 : Int32), (100 : Int32)])) :
    own_MF l mN2 prog_72_method_8_code 6 (some (.object cs0)) ws rR2_1_6_28 Z h0 #[(.ref r0)] (Q8_5 Z r0 r1 c2 r3 r4 r5 r6 r7 r8 r9 r10 c11 r12 c13 x14 t15 x16 r17 r18 c19 r20 r21 c22 r23 r24 c25 r26 r27 c28 r29 r30 c31 h0 n0) := by
  refine own_open (plainFor_of_name pn_com_example_wiregather_wiregather_wire_FieldType) (L0 := #[lR r0, lU, lU, lU, lU, lU]) (fun _ => by first | (simp [entryFrame, mkF, argsToLocals, Value.category]; done) | rfl) ?_
  intro p e s m below meth c s₁ hx hby hml hret hnn hZ hown X0 e0
  have N0 := Fr.nil n0; have w := @ww Z a0 hw
  obtain ⟨_, T4, Lc4, X4, hQ4, st4⟩ := own_cS X0 hx hZ hown e0 (rm9_1 l Z a0 hw [] r1 c2 r3 r4 r5 r6 r7 r8 h0 n0 O0 f1 f2 f3) (w 38 rfl) (w 39 rfl) (w 36 rfl) (w 40 rfl) (by decide) (W := 0) (by decide) (by decide) (by decide) (by decide) (g := (mkF m 2 #[lR r0, .val .null, lU, lU, lU, lU] [])) rfl (by rw [hml]; rfl) (argsL := []) (rest := []) (lenOf pd____Lcom_example_wiregather_wiregather_wire_FieldType_ rfl) rfl (own_W rfl) (hb hby d8_2)
  obtain ⟨b4_0, rfl, N4q, K4, f5, f6, f7⟩ := hQ4
  have N4 := Fr.app N0 N4q
  obtain ⟨clq8, Arq8, qq8, Sq8, Nq8, Hq8, Gq8⟩ := id f7
  obtain ⟨clq9, Arq9, qq9, Sq9, Nq9, Hq9, Gq9⟩ := id f7
  have o11 := Old.keep O0 K4 all0
  have f12 := f10.ext o11.2
  obtain ⟨T13, X13, e13, st13⟩ := getF X4 hx hZ hown (host := "") (Or.inl (w 59 rfl)) Via.refl rfl f12 (g := (mkF m 26 #[lR r0, .val .null, lR b4_0, lV vI6, lV vI0, lR r3] [(.ref r3)])) rfl rfl (hb hby d8_26)
  have f15 := f14.ext o11.2
  have f17 := f16.ext o11.2
  have f19 := f18.ext o11.2
  have f21 := f20.ext o11.2
  have f23 := (f22.keep K4)
  have f25 := (f24.keep K4 nin0)
  have f27 := (f26.keep K4 nin0)
  have f29 := (f28.keep K4 nin0)
  have f33 := f32.ext o11.2
  obtain ⟨cqq37, kqq37, qq37a, qq37b, qq37c⟩ := isOf hZ e13 f15
  obtain ⟨_, T36, Lc36, X36, hQ36, st36⟩ := own_fin (X13.virtualBack hx (y := mN1) (z := mN1) hown (mvT hZ (w 61 rfl)) (mvT hZ (w 62 rfl)) (notFace_of_selects (args := #[]) (mvT hZ (w 64 rfl))) (mvT hZ (w 64 rfl)) (mvT hZ (w 63 rfl)) (by decide) (own_strEq hZ hw (w 5 rfl) (bs := [(105 : Int32), (51 : Int32), (50 : Int32)]) f15 f19 f17 f21 (own_ofLen (n := 3) (by decide) rfl) (Nat.le_of_ble_eq_true rfl) (ds := t15) f23 f27 f25 f29 hc30 hc31 f33 hc34 (r := 0) (n0 := n0) (Or.inr ⟨rfl, fun q => hc35 (Eq.symm q)⟩) (by decide) (by decide : 0 + 28 ≤ _)) qq37a qq37c (g := (mkF m 30 #[lR r0, .val .null, lR b4_0, lV vI6, lV vI0, lR r3] [(.ref r0), (.ref r9)])) rfl (by rw [hml]; rfl) (Steps.refl _) (argsL := [(.ref r0)]) (rest := []) (lenOf pd__Ljava_lang_Object__Z rfl) rfl (own_W rfl) (hb hby d8_30) (fun _ _ => ⟨rfl, e13, (by decide : 1 + 0 ≤ _), (by decide : 6 + 0 ≤ _)⟩))
  obtain ⟨rfl, N36q, E36⟩ := hQ36
  have N36 := Fr.app N4 N36q
  obtain ⟨clq38, Arq38, qq38, Sq38, Nq38, Hq38, Gq38⟩ := id f7
  have f40 := f39.ext o11.2
  obtain ⟨T41, X41, e41, st41⟩ := getF X36 hx hZ hown (host := "") (Or.inl (w 59 rfl)) Via.refl E36 f40 (g := (mkF m 26 #[lR r0, .val .null, lR b4_0, lV vI6, lV vI1, lR r4] [(.ref r4)])) rfl rfl (hb hby d8_26)
  have f43 := f42.ext o11.2
  have f45 := f44.ext o11.2
  have f47 := f46.ext o11.2
  have f49 := f48.ext o11.2
  obtain ⟨cqq52, kqq52, qq52a, qq52b, qq52c⟩ := isOf hZ e41 f43
  obtain ⟨_, T51, Lc51, X51, hQ51, st51⟩ := own_fin (X41.virtualBack hx (y := mN1) (z := mN1) hown (mvT hZ (w 61 rfl)) (mvT hZ (w 62 rfl)) (notFace_of_selects (args := #[]) (mvT hZ (w 64 rfl))) (mvT hZ (w 64 rfl)) (mvT hZ (w 63 rfl)) (by decide) (own_strEq hZ hw (w 5 rfl) (bs := [(117 : Int32), (51 : Int32), (50 : Int32)]) f43 f47 f45 f49 (own_ofLen (n := 3) (by decide) rfl) (Nat.le_of_ble_eq_true rfl) (ds := t15) f23 f27 f25 f29 hc30 hc31 f33 hc34 (r := 0) (n0 := n0) (Or.inr ⟨rfl, fun q => hc50 (Eq.symm q)⟩) (by decide) (by decide : 0 + 28 ≤ _)) qq52a qq52c (g := (mkF m 30 #[lR r0, .val .null, lR b4_0, lV vI6, lV vI1, lR r4] [(.ref r0), (.ref r17)])) rfl (by rw [hml]; rfl) (Steps.refl _) (argsL := [(.ref r0)]) (rest := []) (lenOf pd__Ljava_lang_Object__Z rfl) rfl (own_W rfl) (hb hby d8_30) (fun _ _ => ⟨rfl, e41, (by decide : 1 + 0 ≤ _), (by decide : 6 + 0 ≤ _)⟩))
  obtain ⟨rfl, N51q, E51⟩ := hQ51
  have N51 := Fr.app N36 N51q
  obtain ⟨clq53, Arq53, qq53, Sq53, Nq53, Hq53, Gq53⟩ := id f7
  have f55 := f54.ext o11.2
  obtain ⟨T56, X56, e56, st56⟩ := getF X51 hx hZ hown (host := "") (Or.inl (w 59 rfl)) Via.refl E51 f55 (g := (mkF m 26 #[lR r0, .val .null, lR b4_0, lV vI6, lV vI2, lR r5] [(.ref r5)])) rfl rfl (hb hby d8_26)
  have f58 := f57.ext o11.2
  have f60 := f59.ext o11.2
  have f62 := f61.ext o11.2
  have f64 := f63.ext o11.2
  obtain ⟨cqq67, kqq67, qq67a, qq67b, qq67c⟩ := isOf hZ e56 f58
  obtain ⟨_, T66, Lc66, X66, hQ66, st66⟩ := own_fin (X56.virtualBack hx (y := mN1) (z := mN1) hown (mvT hZ (w 61 rfl)) (mvT hZ (w 62 rfl)) (notFace_of_selects (args := #[]) (mvT hZ (w 64 rfl))) (mvT hZ (w 64 rfl)) (mvT hZ (w 63 rfl)) (by decide) (own_strEq hZ hw (w 5 rfl) (bs := [(102 : Int32), (51 : Int32), (50 : Int32)]) f58 f62 f60 f64 (own_ofLen (n := 3) (by decide) rfl) (Nat.le_of_ble_eq_true rfl) (ds := t15) f23 f27 f25 f29 hc30 hc31 f33 hc34 (r := 0) (n0 := n0) (Or.inr ⟨rfl, fun q => hc65 (Eq.symm q)⟩) (by decide) (by decide : 0 + 28 ≤ _)) qq67a qq67c (g := (mkF m 30 #[lR r0, .val .null, lR b4_0, lV vI6, lV vI2, lR r5] [(.ref r0), (.ref r20)])) rfl (by rw [hml]; rfl) (Steps.refl _) (argsL := [(.ref r0)]) (rest := []) (lenOf pd__Ljava_lang_Object__Z rfl) rfl (own_W rfl) (hb hby d8_30) (fun _ _ => ⟨rfl, e56, (by decide : 1 + 0 ≤ _), (by decide : 6 + 0 ≤ _)⟩))
  obtain ⟨rfl, N66q, E66⟩ := hQ66
  have N66 := Fr.app N51 N66q
  obtain ⟨clq68, Arq68, qq68, Sq68, Nq68, Hq68, Gq68⟩ := id f7
  have f70 := f69.ext o11.2
  obtain ⟨T71, X71, e71, st71⟩ := getF X66 hx hZ hown (host := "") (Or.inl (w 59 rfl)) Via.refl E66 f70 (g := (mkF m 26 #[lR r0, .val .null, lR b4_0, lV vI6, lV vI3, lR r6] [(.ref r6)])) rfl rfl (hb hby d8_26)
  have f73 := f72.ext o11.2
  have f75 := f74.ext o11.2
  have f77 := f76.ext o11.2
  have f79 := f78.ext o11.2
  obtain ⟨cqq82, kqq82, qq82a, qq82b, qq82c⟩ := isOf hZ e71 f73
  obtain ⟨_, T81, Lc81, X81, hQ81, st81⟩ := own_fin (X71.virtualBack hx (y := mN1) (z := mN1) hown (mvT hZ (w 61 rfl)) (mvT hZ (w 62 rfl)) (notFace_of_selects (args := #[]) (mvT hZ (w 64 rfl))) (mvT hZ (w 64 rfl)) (mvT hZ (w 63 rfl)) (by decide) (own_strEq hZ hw (w 5 rfl) (bs := [(102 : Int32), (54 : Int32), (52 : Int32)]) f73 f77 f75 f79 (own_ofLen (n := 3) (by decide) rfl) (Nat.le_of_ble_eq_true rfl) (ds := t15) f23 f27 f25 f29 hc30 hc31 f33 hc34 (r := 1) (n0 := n0) (Or.inl ⟨rfl, (Eq.symm hc80)⟩) (by decide) (by decide : 0 + 28 ≤ _)) qq82a qq82c (g := (mkF m 30 #[lR r0, .val .null, lR b4_0, lV vI6, lV vI3, lR r6] [(.ref r0), (.ref r23)])) rfl (by rw [hml]; rfl) (Steps.refl _) (argsL := [(.ref r0)]) (rest := []) (lenOf pd__Ljava_lang_Object__Z rfl) rfl (own_W rfl) (hb hby d8_30) (fun _ _ => ⟨rfl, e71, (by decide : 1 + 0 ≤ _), (by decide : 6 + 0 ≤ _)⟩))
  obtain ⟨rfl, N81q, E81⟩ := hQ81
  have N81 := Fr.app N66 N81q
  obtain ⟨clq83, Arq83, qq83, Sq83, Nq83, Hq83, Gq83⟩ := id f7
  have f85 := f84.ext o11.2
  obtain ⟨T86, X86, e86, st86⟩ := getF X81 hx hZ hown (host := "") (Or.inl (w 59 rfl)) Via.refl E81 f85 (g := (mkF m 26 #[lR r0, lR r6, lR b4_0, lV vI6, lV vI4, lR r7] [(.ref r7)])) rfl rfl (hb hby d8_26)
  have f88 := f87.ext o11.2
  have f90 := f89.ext o11.2
  have f92 := f91.ext o11.2
  have f94 := f93.ext o11.2
  obtain ⟨cqq97, kqq97, qq97a, qq97b, qq97c⟩ := isOf hZ e86 f88
  obtain ⟨_, T96, Lc96, X96, hQ96, st96⟩ := own_fin (X86.virtualBack hx (y := mN1) (z := mN1) hown (mvT hZ (w 61 rfl)) (mvT hZ (w 62 rfl)) (notFace_of_selects (args := #[]) (mvT hZ (w 64 rfl))) (mvT hZ (w 64 rfl)) (mvT hZ (w 63 rfl)) (by decide) (own_strEq hZ hw (w 5 rfl) (bs := [(116 : Int32), (101 : Int32), (120 : Int32), (116 : Int32)]) f88 f92 f90 f94 (own_ofLen (n := 4) (by decide) rfl) (Nat.le_of_ble_eq_true rfl) (ds := t15) f23 f27 f25 f29 hc30 hc31 f33 hc34 (r := 0) (n0 := n0) (Or.inr ⟨rfl, fun q => hc95 (Eq.symm q)⟩) (by decide) (by decide : 0 + 28 ≤ _)) qq97a qq97c (g := (mkF m 30 #[lR r0, lR r6, lR b4_0, lV vI6, lV vI4, lR r7] [(.ref r0), (.ref r26)])) rfl (by rw [hml]; rfl) (Steps.refl _) (argsL := [(.ref r0)]) (rest := []) (lenOf pd__Ljava_lang_Object__Z rfl) rfl (own_W rfl) (hb hby d8_30) (fun _ _ => ⟨rfl, e86, (by decide : 1 + 0 ≤ _), (by decide : 6 + 0 ≤ _)⟩))
  obtain ⟨rfl, N96q, E96⟩ := hQ96
  have N96 := Fr.app N81 N96q
  obtain ⟨clq98, Arq98, qq98, Sq98, Nq98, Hq98, Gq98⟩ := id f7
  have f100 := f99.ext o11.2
  obtain ⟨T101, X101, e101, st101⟩ := getF X96 hx hZ hown (host := "") (Or.inl (w 59 rfl)) Via.refl E96 f100 (g := (mkF m 26 #[lR r0, lR r6, lR b4_0, lV vI6, lV vI5, lR r8] [(.ref r8)])) rfl rfl (hb hby d8_26)
  have f103 := f102.ext o11.2
  have f105 := f104.ext o11.2
  have f107 := f106.ext o11.2
  have f109 := f108.ext o11.2
  obtain ⟨cqq112, kqq112, qq112a, qq112b, qq112c⟩ := isOf hZ e101 f103
  obtain ⟨_, T111, Lc111, X111, hQ111, st111⟩ := own_fin (X101.virtualBack hx (y := mN1) (z := mN1) hown (mvT hZ (w 61 rfl)) (mvT hZ (w 62 rfl)) (notFace_of_selects (args := #[]) (mvT hZ (w 64 rfl))) (mvT hZ (w 64 rfl)) (mvT hZ (w 63 rfl)) (by decide) (own_strEq hZ hw (w 5 rfl) (bs := [(103 : Int32), (117 : Int32), (105 : Int32), (100 : Int32)]) f103 f107 f105 f109 (own_ofLen (n := 4) (by decide) rfl) (Nat.le_of_ble_eq_true rfl) (ds := t15) f23 f27 f25 f29 hc30 hc31 f33 hc34 (r := 0) (n0 := n0) (Or.inr ⟨rfl, fun q => hc110 (Eq.symm q)⟩) (by decide) (by decide : 0 + 28 ≤ _)) qq112a qq112c (g := (mkF m 30 #[lR r0, lR r6, lR b4_0, lV vI6, lV vI5, lR r8] [(.ref r0), (.ref r29)])) rfl (by rw [hml]; rfl) (Steps.refl _) (argsL := [(.ref r0)]) (rest := []) (lenOf pd__Ljava_lang_Object__Z rfl) rfl (own_W rfl) (hb hby d8_30) (fun _ _ => ⟨rfl, e101, (by decide : 1 + 0 ≤ _), (by decide : 6 + 0 ≤ _)⟩))
  obtain ⟨rfl, N111q, E111⟩ := hQ111
  have N111 := Fr.app N96 N111q
  have kp113 : Keep h0 T4.heap [] := (Keep.refl h0 []).trans K4 all0
  refine ⟨some (.ref r6), _, _, _, _, nofun, X111, by decide, by decide, ?_, fun fs hr => ?_⟩
  · rw [E111]; exact ⟨rfl, N111, kp113⟩
  · show SG p e below s₁ (mkF m 0 #[lR r0, lU, lU, lU, lU, lU] []) _
    refine XS.aconstNull X0.here hx rfl (hb hby d8_0) ?_
    refine XS.astoreN X0.here hx rfl (hb hby d8_1) rfl rfl (l' := #[lR r0, .val .null, lU, lU, lU, lU]) rfl ?_
    refine st4 _ ?_
    show SG p e below T4 (mkF m 5 #[lR r0, .val .null, lU, lU, lU, lU] [(.ref b4_0)]) _
    refine XS.astoreN X4.here hx rfl (hb hby d8_5) rfl rfl (l' := #[lR r0, .val .null, lR b4_0, lU, lU, lU]) rfl ?_
    refine qaN X4 hx hby d8_6 ?_
    refine X4.arraylength hx (Arq8.1) (State.isArrayOf_alike hZ.alike Arq8.2.1) (g := (mkF m 7 #[lR r0, .val .null, lR b4_0, lU, lU, lU] [(.ref b4_0)])) rfl rfl (hb hby d8_7) _ ?_
    rw [len_of Sq8 Nq8]
    show SG p e below T4 (mkF m 8 #[lR r0, .val .null, lR b4_0, lU, lU, lU] [vI6]) _
    refine XS.istoreN X4.here hx rfl (hb hby d8_8) rfl (l' := #[lR r0, .val .null, lR b4_0, lV vI6, lU, lU]) rfl ?_
    refine qc X4 hx hby d8_9 ?_
    refine XS.istore X4.here hx rfl (hb hby d8_10) rfl (l' := #[lR r0, .val .null, lR b4_0, lV vI6, lV vI0, lU]) rfl ?_
    refine qi X4 hx hby d8_12 ?_
    refine qiN X4 hx hby d8_14 ?_
    refine XS.icmpNo X4.here hx rfl (hb hby d8_15) rfl (tlt (by decide : (0 : Int32) < (6 : Int32))).2.1 ?_
    refine qaN X4 hx hby d8_18 ?_
    refine qi X4 hx hby d8_19 ?_
    show SG p e below T4 (mkF m 21 #[lR r0, .val .null, lR b4_0, lV vI6, lV vI0, lU] [vI0, (.ref b4_0)]) _
    refine X4.aaload hx (j := (0 : Int32)) (v := (.ref r3)) (Arq9.1) (State.isArrayOf_alike hZ.alike Arq9.2.1) rfl Arq9.2.2 (inb_of Sq9 ⟨(by decide : ¬ ((0 : Int32) < (0 : Int32))), (by decide : (0 : Int32) < (6 : Int32))⟩) (Has.at Hq9 (inb_of Sq9 ⟨(by decide : ¬ ((0 : Int32) < (0 : Int32))), (by decide : (0 : Int32) < (6 : Int32))⟩) rfl) (g := (mkF m 21 #[lR r0, .val .null, lR b4_0, lV vI6, lV vI0, lU] [vI0, (.ref b4_0)])) rfl rfl (hb hby d8_21) _ ?_
    show SG p e below T4 (mkF m 22 #[lR r0, .val .null, lR b4_0, lV vI6, lV vI0, lU] [(.ref r3)]) _
    refine XS.astore X4.here hx rfl (hb hby d8_22) rfl rfl (l' := #[lR r0, .val .null, lR b4_0, lV vI6, lV vI0, lR r3]) rfl ?_
    refine qa X4 hx hby d8_24 ?_
    refine st13 _ ?_
    show SG p e below T13 (mkF m 29 #[lR r0, .val .null, lR b4_0, lV vI6, lV vI0, lR r3] [(.ref r9)]) _
    refine qaN X13 hx hby d8_29 ?_
    refine st36.trans ?_
    show SG p e below T36 (mkF m 33 #[lR r0, .val .null, lR b4_0, lV vI6, lV vI0, lR r3] [vI0]) _
    refine XS.ifYes X36.here hx rfl (pc0 := 33) (pc' := 39) rfl (hb hby d8_33) rfl ((if0 _ _).trans (teq (rfl : (0 : Int32) = (0 : Int32))).1) (by decide) (by decide) ?_
    show SG p e below T36 (mkF m 39 #[lR r0, .val .null, lR b4_0, lV vI6, lV vI0, lR r3] []) _
    refine XS.iinc X36.here hx rfl (hb hby d8_39) rfl (l' := #[lR r0, .val .null, lR b4_0, lV vI6, lV vI1, lR r3]) rfl ?_
    refine XS.goto X36.here hx rfl (pc0 := 42) (pc' := 12) rfl (hb hby d8_42) (by decide) (by decide) ?_
    show SG p e below T36 (mkF m 12 #[lR r0, .val .null, lR b4_0, lV vI6, lV vI1, lR r3] []) _
    refine qi X36 hx hby d8_12 ?_
    refine qiN X36 hx hby d8_14 ?_
    refine XS.icmpNo X36.here hx rfl (hb hby d8_15) rfl (tlt (by decide : (1 : Int32) < (6 : Int32))).2.1 ?_
    refine qaN X36 hx hby d8_18 ?_
    refine qi X36 hx hby d8_19 ?_
    refine X36.aaload hx (j := (1 : Int32)) (v := (.ref r4)) (by rw [E36]; exact Arq38.1) (State.isArrayOf_alike hZ.alike Arq38.2.1) rfl Arq38.2.2 (inb_of Sq38 ⟨(by decide : ¬ ((1 : Int32) < (0 : Int32))), (by decide : (1 : Int32) < (6 : Int32))⟩) (Has.at Hq38 (inb_of Sq38 ⟨(by decide : ¬ ((1 : Int32) < (0 : Int32))), (by decide : (1 : Int32) < (6 : Int32))⟩) rfl) (g := (mkF m 21 #[lR r0, .val .null, lR b4_0, lV vI6, lV vI1, lR r3] [vI1, (.ref b4_0)])) rfl rfl (hb hby d8_21) _ ?_
    show SG p e below T36 (mkF m 22 #[lR r0, .val .null, lR b4_0, lV vI6, lV vI1, lR r3] [(.ref r4)]) _
    refine XS.astore X36.here hx rfl (hb hby d8_22) rfl rfl (l' := #[lR r0, .val .null, lR b4_0, lV vI6, lV vI1, lR r4]) rfl ?_
    refine qa X36 hx hby d8_24 ?_
    refine st41 _ ?_
    show SG p e below T41 (mkF m 29 #[lR r0, .val .null, lR b4_0, lV vI6, lV vI1, lR r4] [(.ref r17)]) _
    refine qaN X41 hx hby d8_29 ?_
    refine st51.trans ?_
    show SG p e below T51 (mkF m 33 #[lR r0, .val .null, lR b4_0, lV vI6, lV vI1, lR r4] [vI0]) _
    refine XS.ifYes X51.here hx rfl (pc0 := 33) (pc' := 39) rfl (hb hby d8_33) rfl ((if0 _ _).trans (teq (rfl : (0 : Int32) = (0 : Int32))).1) (by decide) (by decide) ?_
    show SG p e below T51 (mkF m 39 #[lR r0, .val .null, lR b4_0, lV vI6, lV vI1, lR r4] []) _
    refine XS.iinc X51.here hx rfl (hb hby d8_39) rfl (l' := #[lR r0, .val .null, lR b4_0, lV vI6, lV vI2, lR r4]) rfl ?_
    refine XS.goto X51.here hx rfl (pc0 := 42) (pc' := 12) rfl (hb hby d8_42) (by decide) (by decide) ?_
    show SG p e below T51 (mkF m 12 #[lR r0, .val .null, lR b4_0, lV vI6, lV vI2, lR r4] []) _
    refine qi X51 hx hby d8_12 ?_
    refine qiN X51 hx hby d8_14 ?_
    refine XS.icmpNo X51.here hx rfl (hb hby d8_15) rfl (tlt (by decide : (2 : Int32) < (6 : Int32))).2.1 ?_
    refine qaN X51 hx hby d8_18 ?_
    refine qi X51 hx hby d8_19 ?_
    refine X51.aaload hx (j := (2 : Int32)) (v := (.ref r5)) (by rw [E51]; exact Arq53.1) (State.isArrayOf_alike hZ.alike Arq53.2.1) rfl Arq53.2.2 (inb_of Sq53 ⟨(by decide : ¬ ((2 : Int32) < (0 : Int32))), (by decide : (2 : Int32) < (6 : Int32))⟩) (Has.at Hq53 (inb_of Sq53 ⟨(by decide : ¬ ((2 : Int32) < (0 : Int32))), (by decide : (2 : Int32) < (6 : Int32))⟩) rfl) (g := (mkF m 21 #[lR r0, .val .null, lR b4_0, lV vI6, lV vI2, lR r4] [vI2, (.ref b4_0)])) rfl rfl (hb hby d8_21) _ ?_
    show SG p e below T51 (mkF m 22 #[lR r0, .val .null, lR b4_0, lV vI6, lV vI2, lR r4] [(.ref r5)]) _
    refine XS.astore X51.here hx rfl (hb hby d8_22) rfl rfl (l' := #[lR r0, .val .null, lR b4_0, lV vI6, lV vI2, lR r5]) rfl ?_
    refine qa X51 hx hby d8_24 ?_
    refine st56 _ ?_
    show SG p e below T56 (mkF m 29 #[lR r0, .val .null, lR b4_0, lV vI6, lV vI2, lR r5] [(.ref r20)]) _
    refine qaN X56 hx hby d8_29 ?_
    refine st66.trans ?_
    show SG p e below T66 (mkF m 33 #[lR r0, .val .null, lR b4_0, lV vI6, lV vI2, lR r5] [vI0]) _
    refine XS.ifYes X66.here hx rfl (pc0 := 33) (pc' := 39) rfl (hb hby d8_33) rfl ((if0 _ _).trans (teq (rfl : (0 : Int32) = (0 : Int32))).1) (by decide) (by decide) ?_
    show SG p e below T66 (mkF m 39 #[lR r0, .val .null, lR b4_0, lV vI6, lV vI2, lR r5] []) _
    refine XS.iinc X66.here hx rfl (hb hby d8_39) rfl (l' := #[lR r0, .val .null, lR b4_0, lV vI6, lV vI3, lR r5]) rfl ?_
    refine XS.goto X66.here hx rfl (pc0 := 42) (pc' := 12) rfl (hb hby d8_42) (by decide) (by decide) ?_
    show SG p e below T66 (mkF m 12 #[lR r0, .val .null, lR b4_0, lV vI6, lV vI3, lR r5] []) _
    refine qi X66 hx hby d8_12 ?_
    refine qiN X66 hx hby d8_14 ?_
    refine XS.icmpNo X66.here hx rfl (hb hby d8_15) rfl (tlt (by decide : (3 : Int32) < (6 : Int32))).2.1 ?_
    refine qaN X66 hx hby d8_18 ?_
    refine qi X66 hx hby d8_19 ?_
    refine X66.aaload hx (j := (3 : Int32)) (v := (.ref r6)) (by rw [E66]; exact Arq68.1) (State.isArrayOf_alike hZ.alike Arq68.2.1) rfl Arq68.2.2 (inb_of Sq68 ⟨(by decide : ¬ ((3 : Int32) < (0 : Int32))), (by decide : (3 : Int32) < (6 : Int32))⟩) (Has.at Hq68 (inb_of Sq68 ⟨(by decide : ¬ ((3 : Int32) < (0 : Int32))), (by decide : (3 : Int32) < (6 : Int32))⟩) rfl) (g := (mkF m 21 #[lR r0, .val .null, lR b4_0, lV vI6, lV vI3, lR r5] [vI3, (.ref b4_0)])) rfl rfl (hb hby d8_21) _ ?_
    show SG p e below T66 (mkF m 22 #[lR r0, .val .null, lR b4_0, lV vI6, lV vI3, lR r5] [(.ref r6)]) _
    refine XS.astore X66.here hx rfl (hb hby d8_22) rfl rfl (l' := #[lR r0, .val .null, lR b4_0, lV vI6, lV vI3, lR r6]) rfl ?_
    refine qa X66 hx hby d8_24 ?_
    refine st71 _ ?_
    show SG p e below T71 (mkF m 29 #[lR r0, .val .null, lR b4_0, lV vI6, lV vI3, lR r6] [(.ref r23)]) _
    refine qaN X71 hx hby d8_29 ?_
    refine st81.trans ?_
    show SG p e below T81 (mkF m 33 #[lR r0, .val .null, lR b4_0, lV vI6, lV vI3, lR r6] [vI1]) _
    refine XS.ifNo X81.here hx rfl (hb hby d8_33) rfl ((if0 _ _).trans (feq (by decide : ¬ ((1 : Int32) = (0 : Int32)))).1) ?_
    refine qa X81 hx hby d8_36 ?_
    refine XS.astoreN X81.here hx rfl (hb hby d8_38) rfl rfl (l' := #[lR r0, lR r6, lR b4_0, lV vI6, lV vI3, lR r6]) rfl ?_
    refine XS.iinc X81.here hx rfl (hb hby d8_39) rfl (l' := #[lR r0, lR r6, lR b4_0, lV vI6, lV vI4, lR r6]) rfl ?_
    refine XS.goto X81.here hx rfl (pc0 := 42) (pc' := 12) rfl (hb hby d8_42) (by decide) (by decide) ?_
    show SG p e below T81 (mkF m 12 #[lR r0, lR r6, lR b4_0, lV vI6, lV vI4, lR r6] []) _
    refine qi X81 hx hby d8_12 ?_
    refine qiN X81 hx hby d8_14 ?_
    refine XS.icmpNo X81.here hx rfl (hb hby d8_15) rfl (tlt (by decide : (4 : Int32) < (6 : Int32))).2.1 ?_
    refine qaN X81 hx hby d8_18 ?_
    refine qi X81 hx hby d8_19 ?_
    refine X81.aaload hx (j := (4 : Int32)) (v := (.ref r7)) (by rw [E81]; exact Arq83.1) (State.isArrayOf_alike hZ.alike Arq83.2.1) rfl Arq83.2.2 (inb_of Sq83 ⟨(by decide : ¬ ((4 : Int32) < (0 : Int32))), (by decide : (4 : Int32) < (6 : Int32))⟩) (Has.at Hq83 (inb_of Sq83 ⟨(by decide : ¬ ((4 : Int32) < (0 : Int32))), (by decide : (4 : Int32) < (6 : Int32))⟩) rfl) (g := (mkF m 21 #[lR r0, lR r6, lR b4_0, lV vI6, lV vI4, lR r6] [vI4, (.ref b4_0)])) rfl rfl (hb hby d8_21) _ ?_
    show SG p e below T81 (mkF m 22 #[lR r0, lR r6, lR b4_0, lV vI6, lV vI4, lR r6] [(.ref r7)]) _
    refine XS.astore X81.here hx rfl (hb hby d8_22) rfl rfl (l' := #[lR r0, lR r6, lR b4_0, lV vI6, lV vI4, lR r7]) rfl ?_
    refine qa X81 hx hby d8_24 ?_
    refine st86 _ ?_
    show SG p e below T86 (mkF m 29 #[lR r0, lR r6, lR b4_0, lV vI6, lV vI4, lR r7] [(.ref r26)]) _
    refine qaN X86 hx hby d8_29 ?_
    refine st96.trans ?_
    show SG p e below T96 (mkF m 33 #[lR r0, lR r6, lR b4_0, lV vI6, lV vI4, lR r7] [vI0]) _
    refine XS.ifYes X96.here hx rfl (pc0 := 33) (pc' := 39) rfl (hb hby d8_33) rfl ((if0 _ _).trans (teq (rfl : (0 : Int32) = (0 : Int32))).1) (by decide) (by decide) ?_
    show SG p e below T96 (mkF m 39 #[lR r0, lR r6, lR b4_0, lV vI6, lV vI4, lR r7] []) _
    refine XS.iinc X96.here hx rfl (hb hby d8_39) rfl (l' := #[lR r0, lR r6, lR b4_0, lV vI6, lV vI5, lR r7]) rfl ?_
    refine XS.goto X96.here hx rfl (pc0 := 42) (pc' := 12) rfl (hb hby d8_42) (by decide) (by decide) ?_
    show SG p e below T96 (mkF m 12 #[lR r0, lR r6, lR b4_0, lV vI6, lV vI5, lR r7] []) _
    refine qi X96 hx hby d8_12 ?_
    refine qiN X96 hx hby d8_14 ?_
    refine XS.icmpNo X96.here hx rfl (hb hby d8_15) rfl (tlt (by decide : (5 : Int32) < (6 : Int32))).2.1 ?_
    refine qaN X96 hx hby d8_18 ?_
    refine qi X96 hx hby d8_19 ?_
    refine X96.aaload hx (j := (5 : Int32)) (v := (.ref r8)) (by rw [E96]; exact Arq98.1) (State.isArrayOf_alike hZ.alike Arq98.2.1) rfl Arq98.2.2 (inb_of Sq98 ⟨(by decide : ¬ ((5 : Int32) < (0 : Int32))), (by decide : (5 : Int32) < (6 : Int32))⟩) (Has.at Hq98 (inb_of Sq98 ⟨(by decide : ¬ ((5 : Int32) < (0 : Int32))), (by decide : (5 : Int32) < (6 : Int32))⟩) rfl) (g := (mkF m 21 #[lR r0, lR r6, lR b4_0, lV vI6, lV vI5, lR r7] [vI5, (.ref b4_0)])) rfl rfl (hb hby d8_21) _ ?_
    show SG p e below T96 (mkF m 22 #[lR r0, lR r6, lR b4_0, lV vI6, lV vI5, lR r7] [(.ref r8)]) _
    refine XS.astore X96.here hx rfl (hb hby d8_22) rfl rfl (l' := #[lR r0, lR r6, lR b4_0, lV vI6, lV vI5, lR r8]) rfl ?_
    refine qa X96 hx hby d8_24 ?_
    refine st101 _ ?_
    show SG p e below T101 (mkF m 29 #[lR r0, lR r6, lR b4_0, lV vI6, lV vI5, lR r8] [(.ref r29)]) _
    refine qaN X101 hx hby d8_29 ?_
    refine st111.trans ?_
    show SG p e below T111 (mkF m 33 #[lR r0, lR r6, lR b4_0, lV vI6, lV vI5, lR r8] [vI0]) _
    refine XS.ifYes X111.here hx rfl (pc0 := 33) (pc' := 39) rfl (hb hby d8_33) rfl ((if0 _ _).trans (teq (rfl : (0 : Int32) = (0 : Int32))).1) (by decide) (by decide) ?_
    show SG p e below T111 (mkF m 39 #[lR r0, lR r6, lR b4_0, lV vI6, lV vI5, lR r8] []) _
    refine XS.iinc X111.here hx rfl (hb hby d8_39) rfl (l' := #[lR r0, lR r6, lR b4_0, lV vI6, lV vI6, lR r8]) rfl ?_
    refine XS.goto X111.here hx rfl (pc0 := 42) (pc' := 12) rfl (hb hby d8_42) (by decide) (by decide) ?_
    show SG p e below T111 (mkF m 12 #[lR r0, lR r6, lR b4_0, lV vI6, lV vI6, lR r8] []) _
    refine qi X111 hx hby d8_12 ?_
    refine qiN X111 hx hby d8_14 ?_
    refine XS.icmpYes X111.here hx rfl (pc0 := 15) (pc' := 45) rfl (hb hby d8_15) rfl (flt (by decide : ¬ ((6 : Int32) < (6 : Int32)))).2.1 (by decide) (by decide) ?_
    show SG p e below T111 (mkF m 45 #[lR r0, lR r6, lR b4_0, lV vI6, lV vI6, lR r8] []) _
    refine qaN X111 hx hby d8_45 ?_
    exact retOut X111 hx (i := .areturn) hret rfl (Or.inr (Or.inr (Or.inr (Or.inr ⟨rfl, rfl, rfl⟩)))) (hb hby d8_46) hr
def Q8_6 (Z : State) (r0 r1 : Addr) (c2 : ClassId) (r3 r4 : Addr) (r5 r6 : Addr) (r7 r8 : Addr) (r9 r10 : Addr) (c11 : ClassId) (r12 : Addr) (c13 : ClassId) (x14 : Int32) (t15 : List Int32) (x16 : Int32) (r17 r18 : Addr) (c19 : ClassId) (r20 r21 : Addr) (c22 : ClassId) (r23 r24 : Addr) (c25 : ClassId) (r26 r27 : Addr) (c28 : ClassId) (r29 r30 : Addr) (c31 : ClassId) (h0 : Heap) (n0 : Nat) (v : Option Value) (h : Heap) (L : List Loc) : Prop := v = some (.ref r7) ∧ Fr n0 L ∧ Keep h0 h []
theorem rm8_6 (l : Launch) (Z : State) (a0 : Array Value) (hw : own_HW a0 Z) (ws : List Jvm.Cond) (r0 r1 : Addr) (c2 : ClassId) (r3 r4 : Addr) (r5 r6 : Addr) (r7 r8 : Addr) (r9 r10 : Addr) (c11 : ClassId) (r12 : Addr) (c13 : ClassId) (x14 : Int32) (t15 : List Int32) (x16 : Int32) (r17 r18 : Addr) (c19 : ClassId) (r20 r21 : Addr) (c22 : ClassId) (r23 r24 : Addr) (c25 : ClassId) (r26 r27 : Addr) (c28 : ClassId) (r29 r30 : Addr) (c31 : ClassId) (h0 : Heap) (n0 : Nat) (O0 : Old Z n0 h0) (f1 : Sta Z Z.heap cs0 "$VALUES" cs1 (.ref r1)) (f2 : Exa Z Z.heap r1 cs1) (f3 : Arv Z Z.heap r1 c2 (.object cs0) (6 : Int32) [(.ref r3), (.ref r4), (.ref r5), (.ref r6), (.ref r7), (.ref r8)] .null) (f10 : Fld Z Z.heap r3 cs0 "label" "Ljava/lang/String;" (.ref r9)) (f14 : Exa Z Z.heap r9 "java/lang/String") (f16 : Fld Z Z.heap r9 "java/lang/String" "coder" "B" vI0) (f18 : Fld Z Z.heap r9 "java/lang/String" "value" "[B" (.ref r10)) (f20 : Arv Z Z.heap r10 c11 .byte (3 : Int32) [vI105, vI51, vI50] vI0) (f22 : Exa Z h0 r0 "java/lang/String") (f24 : Fld Z h0 r0 "java/lang/String" "coder" "B" vI0) (f26 : Fld Z h0 r0 "java/lang/String" "value" "[B" (.ref r12)) (f28 : Arv Z h0 r12 c13 .byte x14 (t15.map Value.int) vI0) (hc30 : x14 = Int32.ofNat t15.length) (hc31 : t15.length ≤ 4000) (f32 : Sta Z Z.heap "java/lang/String" "COMPACT_STRINGS" "Z" (.int x16)) (hc34 : ¬ (x16 = (0 : Int32))) (hc35 : ¬ (t15 = [(105 : Int32), (51 : Int32), (50 : Int32)])) (f39 : Fld Z Z.heap r4 cs0 "label" "Ljava/lang/String;" (.ref r17)) (f42 : Exa Z Z.heap r17 "java/lang/String") (f44 : Fld Z Z.heap r17 "java/lang/String" "coder" "B" vI0) (f46 : Fld Z Z.heap r17 "java/lang/String" "value" "[B" (.ref r18)) (f48 : Arv Z Z.heap r18 c19 .byte (3 : Int32) [vI117, vI51, vI50] vI0) (hc50 : ¬ (t15 = [(117 : Int32), (51 : Int32), (50 : Int32)])) (f54 : Fld Z Z.heap r5 cs0 "label" "Ljava/lang/String;" (.ref r20)) (f57 : Exa Z Z.heap r20 "java/lang/String") (f59 : Fld Z Z.heap r20 "java/lang/String" "coder" "B" vI0) (f61 : Fld Z Z.heap r20 "java/lang/String" "value" "[B" (.ref r21)) (f63 : Arv Z Z.heap r21 c22 .byte (3 : Int32) [vI102, vI51, vI50] vI0) (hc65 : ¬ (t15 = [(102 : Int32), (51 : Int32), (50 : Int32)])) (f69 : Fld Z Z.heap r6 cs0 "label" "Ljava/lang/String;" (.ref r23)) (f72 : Exa Z Z.heap r23 "java/lang/String") (f74 : Fld Z Z.heap r23 "java/lang/String" "coder" "B" vI0) (f76 : Fld Z Z.heap r23 "java/lang/String" "value" "[B" (.ref r24)) (f78 : Arv Z Z.heap r24 c25 .byte (3 : Int32) [vI102, vI54, vI52] vI0) (hc80 : ¬ (t15 = [(102 : Int32), (54 : Int32), (52 : Int32)])) (f84 : Fld Z Z.heap r7 cs0 "label" "Ljava/lang/String;" (.ref r26)) (f87 : Exa Z Z.heap r26 "java/lang/String") (f89 : Fld Z Z.heap r26 "java/lang/String" "coder" "B" vI0) (f91 : Fld Z Z.heap r26 "java/lang/String" "value" "[B" (.ref r27)) (f93 : Arv Z Z.heap r27 c28 .byte (4 : Int32) [vI116, vI101, vI120, vI116] vI0) (hc95 : t15 = [(116 : Int32), (101 : Int32), (120 : Int32), (116 : Int32)]) (f99 : Fld Z Z.heap r8 cs0 "label" "Ljava/lang/String;" (.ref r29)) (f102 : Exa Z Z.heap r29 "java/lang/String") (f104 : Fld Z Z.heap r29 "java/lang/String" "coder" "B" vI0) (f106 : Fld Z Z.heap r29 "java/lang/String" "value" "[B" (.ref r30)) (f108 : Arv Z Z.heap r30 c31 .byte (4 : Int32) [vI103, vI117, vI105, vI100] vI0) (hc110 : ¬ (t15 = [(103 : Int32), (117 : Int32), (105 : Int32), (100 : Int32)])) :
    own_MF l mN2 prog_72_method_8_code 6 (some (.object cs0)) ws rR2_1_6_28 Z h0 #[(.ref r0)] (Q8_6 Z r0 r1 c2 r3 r4 r5 r6 r7 r8 r9 r10 c11 r12 c13 x14 t15 x16 r17 r18 c19 r20 r21 c22 r23 r24 c25 r26 r27 c28 r29 r30 c31 h0 n0) := by
  refine own_open (plainFor_of_name pn_com_example_wiregather_wiregather_wire_FieldType) (L0 := #[lR r0, lU, lU, lU, lU, lU]) (fun _ => by first | (simp [entryFrame, mkF, argsToLocals, Value.category]; done) | rfl) ?_
  intro p e s m below meth c s₁ hx hby hml hret hnn hZ hown X0 e0
  have N0 := Fr.nil n0; have w := @ww Z a0 hw
  obtain ⟨_, T4, Lc4, X4, hQ4, st4⟩ := own_cS X0 hx hZ hown e0 (rm9_1 l Z a0 hw [] r1 c2 r3 r4 r5 r6 r7 r8 h0 n0 O0 f1 f2 f3) (w 38 rfl) (w 39 rfl) (w 36 rfl) (w 40 rfl) (by decide) (W := 0) (by decide) (by decide) (by decide) (by decide) (g := (mkF m 2 #[lR r0, .val .null, lU, lU, lU, lU] [])) rfl (by rw [hml]; rfl) (argsL := []) (rest := []) (lenOf pd____Lcom_example_wiregather_wiregather_wire_FieldType_ rfl) rfl (own_W rfl) (hb hby d8_2)
  obtain ⟨b4_0, rfl, N4q, K4, f5, f6, f7⟩ := hQ4
  have N4 := Fr.app N0 N4q
  obtain ⟨clq8, Arq8, qq8, Sq8, Nq8, Hq8, Gq8⟩ := id f7
  obtain ⟨clq9, Arq9, qq9, Sq9, Nq9, Hq9, Gq9⟩ := id f7
  have o11 := Old.keep O0 K4 all0
  have f12 := f10.ext o11.2
  obtain ⟨T13, X13, e13, st13⟩ := getF X4 hx hZ hown (host := "") (Or.inl (w 59 rfl)) Via.refl rfl f12 (g := (mkF m 26 #[lR r0, .val .null, lR b4_0, lV vI6, lV vI0, lR r3] [(.ref r3)])) rfl rfl (hb hby d8_26)
  have f15 := f14.ext o11.2
  have f17 := f16.ext o11.2
  have f19 := f18.ext o11.2
  have f21 := f20.ext o11.2
  have f23 := (f22.keep K4)
  have f25 := (f24.keep K4 nin0)
  have f27 := (f26.keep K4 nin0)
  have f29 := (f28.keep K4 nin0)
  have f33 := f32.ext o11.2
  obtain ⟨cqq37, kqq37, qq37a, qq37b, qq37c⟩ := isOf hZ e13 f15
  obtain ⟨_, T36, Lc36, X36, hQ36, st36⟩ := own_fin (X13.virtualBack hx (y := mN1) (z := mN1) hown (mvT hZ (w 61 rfl)) (mvT hZ (w 62 rfl)) (notFace_of_selects (args := #[]) (mvT hZ (w 64 rfl))) (mvT hZ (w 64 rfl)) (mvT hZ (w 63 rfl)) (by decide) (own_strEq hZ hw (w 5 rfl) (bs := [(105 : Int32), (51 : Int32), (50 : Int32)]) f15 f19 f17 f21 (own_ofLen (n := 3) (by decide) rfl) (Nat.le_of_ble_eq_true rfl) (ds := t15) f23 f27 f25 f29 hc30 hc31 f33 hc34 (r := 0) (n0 := n0) (Or.inr ⟨rfl, fun q => hc35 (Eq.symm q)⟩) (by decide) (by decide : 0 + 28 ≤ _)) qq37a qq37c (g := (mkF m 30 #[lR r0, .val .null, lR b4_0, lV vI6, lV vI0, lR r3] [(.ref r0), (.ref r9)])) rfl (by rw [hml]; rfl) (Steps.refl _) (argsL := [(.ref r0)]) (rest := []) (lenOf pd__Ljava_lang_Object__Z rfl) rfl (own_W rfl) (hb hby d8_30) (fun _ _ => ⟨rfl, e13, (by decide : 1 + 0 ≤ _), (by decide : 6 + 0 ≤ _)⟩))
  obtain ⟨rfl, N36q, E36⟩ := hQ36
  have N36 := Fr.app N4 N36q
  obtain ⟨clq38, Arq38, qq38, Sq38, Nq38, Hq38, Gq38⟩ := id f7
  have f40 := f39.ext o11.2
  obtain ⟨T41, X41, e41, st41⟩ := getF X36 hx hZ hown (host := "") (Or.inl (w 59 rfl)) Via.refl E36 f40 (g := (mkF m 26 #[lR r0, .val .null, lR b4_0, lV vI6, lV vI1, lR r4] [(.ref r4)])) rfl rfl (hb hby d8_26)
  have f43 := f42.ext o11.2
  have f45 := f44.ext o11.2
  have f47 := f46.ext o11.2
  have f49 := f48.ext o11.2
  obtain ⟨cqq52, kqq52, qq52a, qq52b, qq52c⟩ := isOf hZ e41 f43
  obtain ⟨_, T51, Lc51, X51, hQ51, st51⟩ := own_fin (X41.virtualBack hx (y := mN1) (z := mN1) hown (mvT hZ (w 61 rfl)) (mvT hZ (w 62 rfl)) (notFace_of_selects (args := #[]) (mvT hZ (w 64 rfl))) (mvT hZ (w 64 rfl)) (mvT hZ (w 63 rfl)) (by decide) (own_strEq hZ hw (w 5 rfl) (bs := [(117 : Int32), (51 : Int32), (50 : Int32)]) f43 f47 f45 f49 (own_ofLen (n := 3) (by decide) rfl) (Nat.le_of_ble_eq_true rfl) (ds := t15) f23 f27 f25 f29 hc30 hc31 f33 hc34 (r := 0) (n0 := n0) (Or.inr ⟨rfl, fun q => hc50 (Eq.symm q)⟩) (by decide) (by decide : 0 + 28 ≤ _)) qq52a qq52c (g := (mkF m 30 #[lR r0, .val .null, lR b4_0, lV vI6, lV vI1, lR r4] [(.ref r0), (.ref r17)])) rfl (by rw [hml]; rfl) (Steps.refl _) (argsL := [(.ref r0)]) (rest := []) (lenOf pd__Ljava_lang_Object__Z rfl) rfl (own_W rfl) (hb hby d8_30) (fun _ _ => ⟨rfl, e41, (by decide : 1 + 0 ≤ _), (by decide : 6 + 0 ≤ _)⟩))
  obtain ⟨rfl, N51q, E51⟩ := hQ51
  have N51 := Fr.app N36 N51q
  obtain ⟨clq53, Arq53, qq53, Sq53, Nq53, Hq53, Gq53⟩ := id f7
  have f55 := f54.ext o11.2
  obtain ⟨T56, X56, e56, st56⟩ := getF X51 hx hZ hown (host := "") (Or.inl (w 59 rfl)) Via.refl E51 f55 (g := (mkF m 26 #[lR r0, .val .null, lR b4_0, lV vI6, lV vI2, lR r5] [(.ref r5)])) rfl rfl (hb hby d8_26)
  have f58 := f57.ext o11.2
  have f60 := f59.ext o11.2
  have f62 := f61.ext o11.2
  have f64 := f63.ext o11.2
  obtain ⟨cqq67, kqq67, qq67a, qq67b, qq67c⟩ := isOf hZ e56 f58
  obtain ⟨_, T66, Lc66, X66, hQ66, st66⟩ := own_fin (X56.virtualBack hx (y := mN1) (z := mN1) hown (mvT hZ (w 61 rfl)) (mvT hZ (w 62 rfl)) (notFace_of_selects (args := #[]) (mvT hZ (w 64 rfl))) (mvT hZ (w 64 rfl)) (mvT hZ (w 63 rfl)) (by decide) (own_strEq hZ hw (w 5 rfl) (bs := [(102 : Int32), (51 : Int32), (50 : Int32)]) f58 f62 f60 f64 (own_ofLen (n := 3) (by decide) rfl) (Nat.le_of_ble_eq_true rfl) (ds := t15) f23 f27 f25 f29 hc30 hc31 f33 hc34 (r := 0) (n0 := n0) (Or.inr ⟨rfl, fun q => hc65 (Eq.symm q)⟩) (by decide) (by decide : 0 + 28 ≤ _)) qq67a qq67c (g := (mkF m 30 #[lR r0, .val .null, lR b4_0, lV vI6, lV vI2, lR r5] [(.ref r0), (.ref r20)])) rfl (by rw [hml]; rfl) (Steps.refl _) (argsL := [(.ref r0)]) (rest := []) (lenOf pd__Ljava_lang_Object__Z rfl) rfl (own_W rfl) (hb hby d8_30) (fun _ _ => ⟨rfl, e56, (by decide : 1 + 0 ≤ _), (by decide : 6 + 0 ≤ _)⟩))
  obtain ⟨rfl, N66q, E66⟩ := hQ66
  have N66 := Fr.app N51 N66q
  obtain ⟨clq68, Arq68, qq68, Sq68, Nq68, Hq68, Gq68⟩ := id f7
  have f70 := f69.ext o11.2
  obtain ⟨T71, X71, e71, st71⟩ := getF X66 hx hZ hown (host := "") (Or.inl (w 59 rfl)) Via.refl E66 f70 (g := (mkF m 26 #[lR r0, .val .null, lR b4_0, lV vI6, lV vI3, lR r6] [(.ref r6)])) rfl rfl (hb hby d8_26)
  have f73 := f72.ext o11.2
  have f75 := f74.ext o11.2
  have f77 := f76.ext o11.2
  have f79 := f78.ext o11.2
  obtain ⟨cqq82, kqq82, qq82a, qq82b, qq82c⟩ := isOf hZ e71 f73
  obtain ⟨_, T81, Lc81, X81, hQ81, st81⟩ := own_fin (X71.virtualBack hx (y := mN1) (z := mN1) hown (mvT hZ (w 61 rfl)) (mvT hZ (w 62 rfl)) (notFace_of_selects (args := #[]) (mvT hZ (w 64 rfl))) (mvT hZ (w 64 rfl)) (mvT hZ (w 63 rfl)) (by decide) (own_strEq hZ hw (w 5 rfl) (bs := [(102 : Int32), (54 : Int32), (52 : Int32)]) f73 f77 f75 f79 (own_ofLen (n := 3) (by decide) rfl) (Nat.le_of_ble_eq_true rfl) (ds := t15) f23 f27 f25 f29 hc30 hc31 f33 hc34 (r := 0) (n0 := n0) (Or.inr ⟨rfl, fun q => hc80 (Eq.symm q)⟩) (by decide) (by decide : 0 + 28 ≤ _)) qq82a qq82c (g := (mkF m 30 #[lR r0, .val .null, lR b4_0, lV vI6, lV vI3, lR r6] [(.ref r0), (.ref r23)])) rfl (by rw [hml]; rfl) (Steps.refl _) (argsL := [(.ref r0)]) (rest := []) (lenOf pd__Ljava_lang_Object__Z rfl) rfl (own_W rfl) (hb hby d8_30) (fun _ _ => ⟨rfl, e71, (by decide : 1 + 0 ≤ _), (by decide : 6 + 0 ≤ _)⟩))
  obtain ⟨rfl, N81q, E81⟩ := hQ81
  have N81 := Fr.app N66 N81q
  obtain ⟨clq83, Arq83, qq83, Sq83, Nq83, Hq83, Gq83⟩ := id f7
  have f85 := f84.ext o11.2
  obtain ⟨T86, X86, e86, st86⟩ := getF X81 hx hZ hown (host := "") (Or.inl (w 59 rfl)) Via.refl E81 f85 (g := (mkF m 26 #[lR r0, .val .null, lR b4_0, lV vI6, lV vI4, lR r7] [(.ref r7)])) rfl rfl (hb hby d8_26)
  have f88 := f87.ext o11.2
  have f90 := f89.ext o11.2
  have f92 := f91.ext o11.2
  have f94 := f93.ext o11.2
  obtain ⟨cqq97, kqq97, qq97a, qq97b, qq97c⟩ := isOf hZ e86 f88
  obtain ⟨_, T96, Lc96, X96, hQ96, st96⟩ := own_fin (X86.virtualBack hx (y := mN1) (z := mN1) hown (mvT hZ (w 61 rfl)) (mvT hZ (w 62 rfl)) (notFace_of_selects (args := #[]) (mvT hZ (w 64 rfl))) (mvT hZ (w 64 rfl)) (mvT hZ (w 63 rfl)) (by decide) (own_strEq hZ hw (w 5 rfl) (bs := [(116 : Int32), (101 : Int32), (120 : Int32), (116 : Int32)]) f88 f92 f90 f94 (own_ofLen (n := 4) (by decide) rfl) (Nat.le_of_ble_eq_true rfl) (ds := t15) f23 f27 f25 f29 hc30 hc31 f33 hc34 (r := 1) (n0 := n0) (Or.inl ⟨rfl, (Eq.symm hc95)⟩) (by decide) (by decide : 0 + 28 ≤ _)) qq97a qq97c (g := (mkF m 30 #[lR r0, .val .null, lR b4_0, lV vI6, lV vI4, lR r7] [(.ref r0), (.ref r26)])) rfl (by rw [hml]; rfl) (Steps.refl _) (argsL := [(.ref r0)]) (rest := []) (lenOf pd__Ljava_lang_Object__Z rfl) rfl (own_W rfl) (hb hby d8_30) (fun _ _ => ⟨rfl, e86, (by decide : 1 + 0 ≤ _), (by decide : 6 + 0 ≤ _)⟩))
  obtain ⟨rfl, N96q, E96⟩ := hQ96
  have N96 := Fr.app N81 N96q
  obtain ⟨clq98, Arq98, qq98, Sq98, Nq98, Hq98, Gq98⟩ := id f7
  have f100 := f99.ext o11.2
  obtain ⟨T101, X101, e101, st101⟩ := getF X96 hx hZ hown (host := "") (Or.inl (w 59 rfl)) Via.refl E96 f100 (g := (mkF m 26 #[lR r0, lR r7, lR b4_0, lV vI6, lV vI5, lR r8] [(.ref r8)])) rfl rfl (hb hby d8_26)
  have f103 := f102.ext o11.2
  have f105 := f104.ext o11.2
  have f107 := f106.ext o11.2
  have f109 := f108.ext o11.2
  obtain ⟨cqq112, kqq112, qq112a, qq112b, qq112c⟩ := isOf hZ e101 f103
  obtain ⟨_, T111, Lc111, X111, hQ111, st111⟩ := own_fin (X101.virtualBack hx (y := mN1) (z := mN1) hown (mvT hZ (w 61 rfl)) (mvT hZ (w 62 rfl)) (notFace_of_selects (args := #[]) (mvT hZ (w 64 rfl))) (mvT hZ (w 64 rfl)) (mvT hZ (w 63 rfl)) (by decide) (own_strEq hZ hw (w 5 rfl) (bs := [(103 : Int32), (117 : Int32), (105 : Int32), (100 : Int32)]) f103 f107 f105 f109 (own_ofLen (n := 4) (by decide) rfl) (Nat.le_of_ble_eq_true rfl) (ds := t15) f23 f27 f25 f29 hc30 hc31 f33 hc34 (r := 0) (n0 := n0) (Or.inr ⟨rfl, fun q => hc110 (Eq.symm q)⟩) (by decide) (by decide : 0 + 28 ≤ _)) qq112a qq112c (g := (mkF m 30 #[lR r0, lR r7, lR b4_0, lV vI6, lV vI5, lR r8] [(.ref r0), (.ref r29)])) rfl (by rw [hml]; rfl) (Steps.refl _) (argsL := [(.ref r0)]) (rest := []) (lenOf pd__Ljava_lang_Object__Z rfl) rfl (own_W rfl) (hb hby d8_30) (fun _ _ => ⟨rfl, e101, (by decide : 1 + 0 ≤ _), (by decide : 6 + 0 ≤ _)⟩))
  obtain ⟨rfl, N111q, E111⟩ := hQ111
  have N111 := Fr.app N96 N111q
  have kp113 : Keep h0 T4.heap [] := (Keep.refl h0 []).trans K4 all0
  refine ⟨some (.ref r7), _, _, _, _, nofun, X111, by decide, by decide, ?_, fun fs hr => ?_⟩
  · rw [E111]; exact ⟨rfl, N111, kp113⟩
  · show SG p e below s₁ (mkF m 0 #[lR r0, lU, lU, lU, lU, lU] []) _
    refine XS.aconstNull X0.here hx rfl (hb hby d8_0) ?_
    refine XS.astoreN X0.here hx rfl (hb hby d8_1) rfl rfl (l' := #[lR r0, .val .null, lU, lU, lU, lU]) rfl ?_
    refine st4 _ ?_
    show SG p e below T4 (mkF m 5 #[lR r0, .val .null, lU, lU, lU, lU] [(.ref b4_0)]) _
    refine XS.astoreN X4.here hx rfl (hb hby d8_5) rfl rfl (l' := #[lR r0, .val .null, lR b4_0, lU, lU, lU]) rfl ?_
    refine qaN X4 hx hby d8_6 ?_
    refine X4.arraylength hx (Arq8.1) (State.isArrayOf_alike hZ.alike Arq8.2.1) (g := (mkF m 7 #[lR r0, .val .null, lR b4_0, lU, lU, lU] [(.ref b4_0)])) rfl rfl (hb hby d8_7) _ ?_
    rw [len_of Sq8 Nq8]
    show SG p e below T4 (mkF m 8 #[lR r0, .val .null, lR b4_0, lU, lU, lU] [vI6]) _
    refine XS.istoreN X4.here hx rfl (hb hby d8_8) rfl (l' := #[lR r0, .val .null, lR b4_0, lV vI6, lU, lU]) rfl ?_
    refine qc X4 hx hby d8_9 ?_
    refine XS.istore X4.here hx rfl (hb hby d8_10) rfl (l' := #[lR r0, .val .null, lR b4_0, lV vI6, lV vI0, lU]) rfl ?_
    refine qi X4 hx hby d8_12 ?_
    refine qiN X4 hx hby d8_14 ?_
    refine XS.icmpNo X4.here hx rfl (hb hby d8_15) rfl (tlt (by decide : (0 : Int32) < (6 : Int32))).2.1 ?_
    refine qaN X4 hx hby d8_18 ?_
    refine qi X4 hx hby d8_19 ?_
    show SG p e below T4 (mkF m 21 #[lR r0, .val .null, lR b4_0, lV vI6, lV vI0, lU] [vI0, (.ref b4_0)]) _
    refine X4.aaload hx (j := (0 : Int32)) (v := (.ref r3)) (Arq9.1) (State.isArrayOf_alike hZ.alike Arq9.2.1) rfl Arq9.2.2 (inb_of Sq9 ⟨(by decide : ¬ ((0 : Int32) < (0 : Int32))), (by decide : (0 : Int32) < (6 : Int32))⟩) (Has.at Hq9 (inb_of Sq9 ⟨(by decide : ¬ ((0 : Int32) < (0 : Int32))), (by decide : (0 : Int32) < (6 : Int32))⟩) rfl) (g := (mkF m 21 #[lR r0, .val .null, lR b4_0, lV vI6, lV vI0, lU] [vI0, (.ref b4_0)])) rfl rfl (hb hby d8_21) _ ?_
    show SG p e below T4 (mkF m 22 #[lR r0, .val .null, lR b4_0, lV vI6, lV vI0, lU] [(.ref r3)]) _
    refine XS.astore X4.here hx rfl (hb hby d8_22) rfl rfl (l' := #[lR r0, .val .null, lR b4_0, lV vI6, lV vI0, lR r3]) rfl ?_
    refine qa X4 hx hby d8_24 ?_
    refine st13 _ ?_
    show SG p e below T13 (mkF m 29 #[lR r0, .val .null, lR b4_0, lV vI6, lV vI0, lR r3] [(.ref r9)]) _
    refine qaN X13 hx hby d8_29 ?_
    refine st36.trans ?_
    show SG p e below T36 (mkF m 33 #[lR r0, .val .null, lR b4_0, lV vI6, lV vI0, lR r3] [vI0]) _
    refine XS.ifYes X36.here hx rfl (pc0 := 33) (pc' := 39) rfl (hb hby d8_33) rfl ((if0 _ _).trans (teq (rfl : (0 : Int32) = (0 : Int32))).1) (by decide) (by decide) ?_
    show SG p e below T36 (mkF m 39 #[lR r0, .val .null, lR b4_0, lV vI6, lV vI0, lR r3] []) _
    refine XS.iinc X36.here hx rfl (hb hby d8_39) rfl (l' := #[lR r0, .val .null, lR b4_0, lV vI6, lV vI1, lR r3]) rfl ?_
    refine XS.goto X36.here hx rfl (pc0 := 42) (pc' := 12) rfl (hb hby d8_42) (by decide) (by decide) ?_
    show SG p e below T36 (mkF m 12 #[lR r0, .val .null, lR b4_0, lV vI6, lV vI1, lR r3] []) _
    refine qi X36 hx hby d8_12 ?_
    refine qiN X36 hx hby d8_14 ?_
    refine XS.icmpNo X36.here hx rfl (hb hby d8_15) rfl (tlt (by decide : (1 : Int32) < (6 : Int32))).2.1 ?_
    refine qaN X36 hx hby d8_18 ?_
    refine qi X36 hx hby d8_19 ?_
    refine X36.aaload hx (j := (1 : Int32)) (v := (.ref r4)) (by rw [E36]; exact Arq38.1) (State.isArrayOf_alike hZ.alike Arq38.2.1) rfl Arq38.2.2 (inb_of Sq38 ⟨(by decide : ¬ ((1 : Int32) < (0 : Int32))), (by decide : (1 : Int32) < (6 : Int32))⟩) (Has.at Hq38 (inb_of Sq38 ⟨(by decide : ¬ ((1 : Int32) < (0 : Int32))), (by decide : (1 : Int32) < (6 : Int32))⟩) rfl) (g := (mkF m 21 #[lR r0, .val .null, lR b4_0, lV vI6, lV vI1, lR r3] [vI1, (.ref b4_0)])) rfl rfl (hb hby d8_21) _ ?_
    show SG p e below T36 (mkF m 22 #[lR r0, .val .null, lR b4_0, lV vI6, lV vI1, lR r3] [(.ref r4)]) _
    refine XS.astore X36.here hx rfl (hb hby d8_22) rfl rfl (l' := #[lR r0, .val .null, lR b4_0, lV vI6, lV vI1, lR r4]) rfl ?_
    refine qa X36 hx hby d8_24 ?_
    refine st41 _ ?_
    show SG p e below T41 (mkF m 29 #[lR r0, .val .null, lR b4_0, lV vI6, lV vI1, lR r4] [(.ref r17)]) _
    refine qaN X41 hx hby d8_29 ?_
    refine st51.trans ?_
    show SG p e below T51 (mkF m 33 #[lR r0, .val .null, lR b4_0, lV vI6, lV vI1, lR r4] [vI0]) _
    refine XS.ifYes X51.here hx rfl (pc0 := 33) (pc' := 39) rfl (hb hby d8_33) rfl ((if0 _ _).trans (teq (rfl : (0 : Int32) = (0 : Int32))).1) (by decide) (by decide) ?_
    show SG p e below T51 (mkF m 39 #[lR r0, .val .null, lR b4_0, lV vI6, lV vI1, lR r4] []) _
    refine XS.iinc X51.here hx rfl (hb hby d8_39) rfl (l' := #[lR r0, .val .null, lR b4_0, lV vI6, lV vI2, lR r4]) rfl ?_
    refine XS.goto X51.here hx rfl (pc0 := 42) (pc' := 12) rfl (hb hby d8_42) (by decide) (by decide) ?_
    show SG p e below T51 (mkF m 12 #[lR r0, .val .null, lR b4_0, lV vI6, lV vI2, lR r4] []) _
    refine qi X51 hx hby d8_12 ?_
    refine qiN X51 hx hby d8_14 ?_
    refine XS.icmpNo X51.here hx rfl (hb hby d8_15) rfl (tlt (by decide : (2 : Int32) < (6 : Int32))).2.1 ?_
    refine qaN X51 hx hby d8_18 ?_
    refine qi X51 hx hby d8_19 ?_
    refine X51.aaload hx (j := (2 : Int32)) (v := (.ref r5)) (by rw [E51]; exact Arq53.1) (State.isArrayOf_alike hZ.alike Arq53.2.1) rfl Arq53.2.2 (inb_of Sq53 ⟨(by decide : ¬ ((2 : Int32) < (0 : Int32))), (by decide : (2 : Int32) < (6 : Int32))⟩) (Has.at Hq53 (inb_of Sq53 ⟨(by decide : ¬ ((2 : Int32) < (0 : Int32))), (by decide : (2 : Int32) < (6 : Int32))⟩) rfl) (g := (mkF m 21 #[lR r0, .val .null, lR b4_0, lV vI6, lV vI2, lR r4] [vI2, (.ref b4_0)])) rfl rfl (hb hby d8_21) _ ?_
    show SG p e below T51 (mkF m 22 #[lR r0, .val .null, lR b4_0, lV vI6, lV vI2, lR r4] [(.ref r5)]) _
    refine XS.astore X51.here hx rfl (hb hby d8_22) rfl rfl (l' := #[lR r0, .val .null, lR b4_0, lV vI6, lV vI2, lR r5]) rfl ?_
    refine qa X51 hx hby d8_24 ?_
    refine st56 _ ?_
    show SG p e below T56 (mkF m 29 #[lR r0, .val .null, lR b4_0, lV vI6, lV vI2, lR r5] [(.ref r20)]) _
    refine qaN X56 hx hby d8_29 ?_
    refine st66.trans ?_
    show SG p e below T66 (mkF m 33 #[lR r0, .val .null, lR b4_0, lV vI6, lV vI2, lR r5] [vI0]) _
    refine XS.ifYes X66.here hx rfl (pc0 := 33) (pc' := 39) rfl (hb hby d8_33) rfl ((if0 _ _).trans (teq (rfl : (0 : Int32) = (0 : Int32))).1) (by decide) (by decide) ?_
    show SG p e below T66 (mkF m 39 #[lR r0, .val .null, lR b4_0, lV vI6, lV vI2, lR r5] []) _
    refine XS.iinc X66.here hx rfl (hb hby d8_39) rfl (l' := #[lR r0, .val .null, lR b4_0, lV vI6, lV vI3, lR r5]) rfl ?_
    refine XS.goto X66.here hx rfl (pc0 := 42) (pc' := 12) rfl (hb hby d8_42) (by decide) (by decide) ?_
    show SG p e below T66 (mkF m 12 #[lR r0, .val .null, lR b4_0, lV vI6, lV vI3, lR r5] []) _
    refine qi X66 hx hby d8_12 ?_
    refine qiN X66 hx hby d8_14 ?_
    refine XS.icmpNo X66.here hx rfl (hb hby d8_15) rfl (tlt (by decide : (3 : Int32) < (6 : Int32))).2.1 ?_
    refine qaN X66 hx hby d8_18 ?_
    refine qi X66 hx hby d8_19 ?_
    refine X66.aaload hx (j := (3 : Int32)) (v := (.ref r6)) (by rw [E66]; exact Arq68.1) (State.isArrayOf_alike hZ.alike Arq68.2.1) rfl Arq68.2.2 (inb_of Sq68 ⟨(by decide : ¬ ((3 : Int32) < (0 : Int32))), (by decide : (3 : Int32) < (6 : Int32))⟩) (Has.at Hq68 (inb_of Sq68 ⟨(by decide : ¬ ((3 : Int32) < (0 : Int32))), (by decide : (3 : Int32) < (6 : Int32))⟩) rfl) (g := (mkF m 21 #[lR r0, .val .null, lR b4_0, lV vI6, lV vI3, lR r5] [vI3, (.ref b4_0)])) rfl rfl (hb hby d8_21) _ ?_
    show SG p e below T66 (mkF m 22 #[lR r0, .val .null, lR b4_0, lV vI6, lV vI3, lR r5] [(.ref r6)]) _
    refine XS.astore X66.here hx rfl (hb hby d8_22) rfl rfl (l' := #[lR r0, .val .null, lR b4_0, lV vI6, lV vI3, lR r6]) rfl ?_
    refine qa X66 hx hby d8_24 ?_
    refine st71 _ ?_
    show SG p e below T71 (mkF m 29 #[lR r0, .val .null, lR b4_0, lV vI6, lV vI3, lR r6] [(.ref r23)]) _
    refine qaN X71 hx hby d8_29 ?_
    refine st81.trans ?_
    show SG p e below T81 (mkF m 33 #[lR r0, .val .null, lR b4_0, lV vI6, lV vI3, lR r6] [vI0]) _
    refine XS.ifYes X81.here hx rfl (pc0 := 33) (pc' := 39) rfl (hb hby d8_33) rfl ((if0 _ _).trans (teq (rfl : (0 : Int32) = (0 : Int32))).1) (by decide) (by decide) ?_
    show SG p e below T81 (mkF m 39 #[lR r0, .val .null, lR b4_0, lV vI6, lV vI3, lR r6] []) _
    refine XS.iinc X81.here hx rfl (hb hby d8_39) rfl (l' := #[lR r0, .val .null, lR b4_0, lV vI6, lV vI4, lR r6]) rfl ?_
    refine XS.goto X81.here hx rfl (pc0 := 42) (pc' := 12) rfl (hb hby d8_42) (by decide) (by decide) ?_
    show SG p e below T81 (mkF m 12 #[lR r0, .val .null, lR b4_0, lV vI6, lV vI4, lR r6] []) _
    refine qi X81 hx hby d8_12 ?_
    refine qiN X81 hx hby d8_14 ?_
    refine XS.icmpNo X81.here hx rfl (hb hby d8_15) rfl (tlt (by decide : (4 : Int32) < (6 : Int32))).2.1 ?_
    refine qaN X81 hx hby d8_18 ?_
    refine qi X81 hx hby d8_19 ?_
    refine X81.aaload hx (j := (4 : Int32)) (v := (.ref r7)) (by rw [E81]; exact Arq83.1) (State.isArrayOf_alike hZ.alike Arq83.2.1) rfl Arq83.2.2 (inb_of Sq83 ⟨(by decide : ¬ ((4 : Int32) < (0 : Int32))), (by decide : (4 : Int32) < (6 : Int32))⟩) (Has.at Hq83 (inb_of Sq83 ⟨(by decide : ¬ ((4 : Int32) < (0 : Int32))), (by decide : (4 : Int32) < (6 : Int32))⟩) rfl) (g := (mkF m 21 #[lR r0, .val .null, lR b4_0, lV vI6, lV vI4, lR r6] [vI4, (.ref b4_0)])) rfl rfl (hb hby d8_21) _ ?_
    show SG p e below T81 (mkF m 22 #[lR r0, .val .null, lR b4_0, lV vI6, lV vI4, lR r6] [(.ref r7)]) _
    refine XS.astore X81.here hx rfl (hb hby d8_22) rfl rfl (l' := #[lR r0, .val .null, lR b4_0, lV vI6, lV vI4, lR r7]) rfl ?_
    refine qa X81 hx hby d8_24 ?_
    refine st86 _ ?_
    show SG p e below T86 (mkF m 29 #[lR r0, .val .null, lR b4_0, lV vI6, lV vI4, lR r7] [(.ref r26)]) _
    refine qaN X86 hx hby d8_29 ?_
    refine st96.trans ?_
    show SG p e below T96 (mkF m 33 #[lR r0, .val .null, lR b4_0, lV vI6, lV vI4, lR r7] [vI1]) _
    refine XS.ifNo X96.here hx rfl (hb hby d8_33) rfl ((if0 _ _).trans (feq (by decide : ¬ ((1 : Int32) = (0 : Int32)))).1) ?_
    refine qa X96 hx hby d8_36 ?_
    refine XS.astoreN X96.here hx rfl (hb hby d8_38) rfl rfl (l' := #[lR r0, lR r7, lR b4_0, lV vI6, lV vI4, lR r7]) rfl ?_
    refine XS.iinc X96.here hx rfl (hb hby d8_39) rfl (l' := #[lR r0, lR r7, lR b4_0, lV vI6, lV vI5, lR r7]) rfl ?_
    refine XS.goto X96.here hx rfl (pc0 := 42) (pc' := 12) rfl (hb hby d8_42) (by decide) (by decide) ?_
    show SG p e below T96 (mkF m 12 #[lR r0, lR r7, lR b4_0, lV vI6, lV vI5, lR r7] []) _
    refine qi X96 hx hby d8_12 ?_
    refine qiN X96 hx hby d8_14 ?_
    refine XS.icmpNo X96.here hx rfl (hb hby d8_15) rfl (tlt (by decide : (5 : Int32) < (6 : Int32))).2.1 ?_
    refine qaN X96 hx hby d8_18 ?_
    refine qi X96 hx hby d8_19 ?_
    refine X96.aaload hx (j := (5 : Int32)) (v := (.ref r8)) (by rw [E96]; exact Arq98.1) (State.isArrayOf_alike hZ.alike Arq98.2.1) rfl Arq98.2.2 (inb_of Sq98 ⟨(by decide : ¬ ((5 : Int32) < (0 : Int32))), (by decide : (5 : Int32) < (6 : Int32))⟩) (Has.at Hq98 (inb_of Sq98 ⟨(by decide : ¬ ((5 : Int32) < (0 : Int32))), (by decide : (5 : Int32) < (6 : Int32))⟩) rfl) (g := (mkF m 21 #[lR r0, lR r7, lR b4_0, lV vI6, lV vI5, lR r7] [vI5, (.ref b4_0)])) rfl rfl (hb hby d8_21) _ ?_
    show SG p e below T96 (mkF m 22 #[lR r0, lR r7, lR b4_0, lV vI6, lV vI5, lR r7] [(.ref r8)]) _
    refine XS.astore X96.here hx rfl (hb hby d8_22) rfl rfl (l' := #[lR r0, lR r7, lR b4_0, lV vI6, lV vI5, lR r8]) rfl ?_
    refine qa X96 hx hby d8_24 ?_
    refine st101 _ ?_
    show SG p e below T101 (mkF m 29 #[lR r0, lR r7, lR b4_0, lV vI6, lV vI5, lR r8] [(.ref r29)]) _
    refine qaN X101 hx hby d8_29 ?_
    refine st111.trans ?_
    show SG p e below T111 (mkF m 33 #[lR r0, lR r7, lR b4_0, lV vI6, lV vI5, lR r8] [vI0]) _
    refine XS.ifYes X111.here hx rfl (pc0 := 33) (pc' := 39) rfl (hb hby d8_33) rfl ((if0 _ _).trans (teq (rfl : (0 : Int32) = (0 : Int32))).1) (by decide) (by decide) ?_
    show SG p e below T111 (mkF m 39 #[lR r0, lR r7, lR b4_0, lV vI6, lV vI5, lR r8] []) _
    refine XS.iinc X111.here hx rfl (hb hby d8_39) rfl (l' := #[lR r0, lR r7, lR b4_0, lV vI6, lV vI6, lR r8]) rfl ?_
    refine XS.goto X111.here hx rfl (pc0 := 42) (pc' := 12) rfl (hb hby d8_42) (by decide) (by decide) ?_
    show SG p e below T111 (mkF m 12 #[lR r0, lR r7, lR b4_0, lV vI6, lV vI6, lR r8] []) _
    refine qi X111 hx hby d8_12 ?_
    refine qiN X111 hx hby d8_14 ?_
    refine XS.icmpYes X111.here hx rfl (pc0 := 15) (pc' := 45) rfl (hb hby d8_15) rfl (flt (by decide : ¬ ((6 : Int32) < (6 : Int32)))).2.1 (by decide) (by decide) ?_
    show SG p e below T111 (mkF m 45 #[lR r0, lR r7, lR b4_0, lV vI6, lV vI6, lR r8] []) _
    refine qaN X111 hx hby d8_45 ?_
    exact retOut X111 hx (i := .areturn) hret rfl (Or.inr (Or.inr (Or.inr (Or.inr ⟨rfl, rfl, rfl⟩)))) (hb hby d8_46) hr
def Q8_7 (Z : State) (r0 r1 : Addr) (c2 : ClassId) (r3 r4 : Addr) (r5 r6 : Addr) (r7 r8 : Addr) (r9 r10 : Addr) (c11 : ClassId) (r12 : Addr) (c13 : ClassId) (x14 : Int32) (t15 : List Int32) (x16 : Int32) (r17 r18 : Addr) (c19 : ClassId) (r20 r21 : Addr) (c22 : ClassId) (r23 r24 : Addr) (c25 : ClassId) (r26 r27 : Addr) (c28 : ClassId) (r29 r30 : Addr) (c31 : ClassId) (h0 : Heap) (n0 : Nat) (v : Option Value) (h : Heap) (L : List Loc) : Prop := v = some (.ref r8) ∧ Fr n0 L ∧ Keep h0 h []
theorem rm8_7 (l : Launch) (Z : State) (a0 : Array Value) (hw : own_HW a0 Z) (ws : List Jvm.Cond) (r0 r1 : Addr) (c2 : ClassId) (r3 r4 : Addr) (r5 r6 : Addr) (r7 r8 : Addr) (r9 r10 : Addr) (c11 : ClassId) (r12 : Addr) (c13 : ClassId) (x14 : Int32) (t15 : List Int32) (x16 : Int32) (r17 r18 : Addr) (c19 : ClassId) (r20 r21 : Addr) (c22 : ClassId) (r23 r24 : Addr) (c25 : ClassId) (r26 r27 : Addr) (c28 : ClassId) (r29 r30 : Addr) (c31 : ClassId) (h0 : Heap) (n0 : Nat) (O0 : Old Z n0 h0) (f1 : Sta Z Z.heap cs0 "$VALUES" cs1 (.ref r1)) (f2 : Exa Z Z.heap r1 cs1) (f3 : Arv Z Z.heap r1 c2 (.object cs0) (6 : Int32) [(.ref r3), (.ref r4), (.ref r5), (.ref r6), (.ref r7), (.ref r8)] .null) (f10 : Fld Z Z.heap r3 cs0 "label" "Ljava/lang/String;" (.ref r9)) (f14 : Exa Z Z.heap r9 "java/lang/String") (f16 : Fld Z Z.heap r9 "java/lang/String" "coder" "B" vI0) (f18 : Fld Z Z.heap r9 "java/lang/String" "value" "[B" (.ref r10)) (f20 : Arv Z Z.heap r10 c11 .byte (3 : Int32) [vI105, vI51, vI50] vI0) (f22 : Exa Z h0 r0 "java/lang/String") (f24 : Fld Z h0 r0 "java/lang/String" "coder" "B" vI0) (f26 : Fld Z h0 r0 "java/lang/String" "value" "[B" (.ref r12)) (f28 : Arv Z h0 r12 c13 .byte x14 (t15.map Value.int) vI0) (hc30 : x14 = Int32.ofNat t15.length) (hc31 : t15.length ≤ 4000) (f32 : Sta Z Z.heap "java/lang/String" "COMPACT_STRINGS" "Z" (.int x16)) (hc34 : ¬ (x16 = (0 : Int32))) (hc35 : ¬ (t15 = [(105 : Int32), (51 : Int32), (50 : Int32)])) (f39 : Fld Z Z.heap r4 cs0 "label" "Ljava/lang/String;" (.ref r17)) (f42 : Exa Z Z.heap r17 "java/lang/String") (f44 : Fld Z Z.heap r17 "java/lang/String" "coder" "B" vI0) (f46 : Fld Z Z.heap r17 "java/lang/String" "value" "[B" (.ref r18)) (f48 : Arv Z Z.heap r18 c19 .byte (3 : Int32) [vI117, vI51, vI50] vI0) (hc50 : ¬ (t15 = [(117 : Int32), (51 : Int32), (50 : Int32)])) (f54 : Fld Z Z.heap r5 cs0 "label" "Ljava/lang/String;" (.ref r20)) (f57 : Exa Z Z.heap r20 "java/lang/String") (f59 : Fld Z Z.heap r20 "java/lang/String" "coder" "B" vI0) (f61 : Fld Z Z.heap r20 "java/lang/String" "value" "[B" (.ref r21)) (f63 : Arv Z Z.heap r21 c22 .byte (3 : Int32) [vI102, vI51, vI50] vI0) (hc65 : ¬ (t15 = [(102 : Int32), (51 : Int32), (50 : Int32)])) (f69 : Fld Z Z.heap r6 cs0 "label" "Ljava/lang/String;" (.ref r23)) (f72 : Exa Z Z.heap r23 "java/lang/String") (f74 : Fld Z Z.heap r23 "java/lang/String" "coder" "B" vI0) (f76 : Fld Z Z.heap r23 "java/lang/String" "value" "[B" (.ref r24)) (f78 : Arv Z Z.heap r24 c25 .byte (3 : Int32) [vI102, vI54, vI52] vI0) (hc80 : ¬ (t15 = [(102 : Int32), (54 : Int32), (52 : Int32)])) (f84 : Fld Z Z.heap r7 cs0 "label" "Ljava/lang/String;" (.ref r26)) (f87 : Exa Z Z.heap r26 "java/lang/String") (f89 : Fld Z Z.heap r26 "java/lang/String" "coder" "B" vI0) (f91 : Fld Z Z.heap r26 "java/lang/String" "value" "[B" (.ref r27)) (f93 : Arv Z Z.heap r27 c28 .byte (4 : Int32) [vI116, vI101, vI120, vI116] vI0) (hc95 : ¬ (t15 = [(116 : Int32), (101 : Int32), (120 : Int32), (116 : Int32)])) (f99 : Fld Z Z.heap r8 cs0 "label" "Ljava/lang/String;" (.ref r29)) (f102 : Exa Z Z.heap r29 "java/lang/String") (f104 : Fld Z Z.heap r29 "java/lang/String" "coder" "B" vI0) (f106 : Fld Z Z.heap r29 "java/lang/String" "value" "[B" (.ref r30)) (f108 : Arv Z Z.heap r30 c31 .byte (4 : Int32) [vI103, vI117, vI105, vI100] vI0) (hc110 : t15 = [(103 : Int32), (117 : Int32), (105 : Int32), (100 : Int32)]) :
    own_MF l mN2 prog_72_method_8_code 6 (some (.object cs0)) ws rR2_1_6_28 Z h0 #[(.ref r0)] (Q8_7 Z r0 r1 c2 r3 r4 r5 r6 r7 r8 r9 r10 c11 r12 c13 x14 t15 x16 r17 r18 c19 r20 r21 c22 r23 r24 c25 r26 r27 c28 r29 r30 c31 h0 n0) := by
  refine own_open (plainFor_of_name pn_com_example_wiregather_wiregather_wire_FieldType) (L0 := #[lR r0, lU, lU, lU, lU, lU]) (fun _ => by first | (simp [entryFrame, mkF, argsToLocals, Value.category]; done) | rfl) ?_
  intro p e s m below meth c s₁ hx hby hml hret hnn hZ hown X0 e0
  have N0 := Fr.nil n0; have w := @ww Z a0 hw
  obtain ⟨_, T4, Lc4, X4, hQ4, st4⟩ := own_cS X0 hx hZ hown e0 (rm9_1 l Z a0 hw [] r1 c2 r3 r4 r5 r6 r7 r8 h0 n0 O0 f1 f2 f3) (w 38 rfl) (w 39 rfl) (w 36 rfl) (w 40 rfl) (by decide) (W := 0) (by decide) (by decide) (by decide) (by decide) (g := (mkF m 2 #[lR r0, .val .null, lU, lU, lU, lU] [])) rfl (by rw [hml]; rfl) (argsL := []) (rest := []) (lenOf pd____Lcom_example_wiregather_wiregather_wire_FieldType_ rfl) rfl (own_W rfl) (hb hby d8_2)
  obtain ⟨b4_0, rfl, N4q, K4, f5, f6, f7⟩ := hQ4
  have N4 := Fr.app N0 N4q
  obtain ⟨clq8, Arq8, qq8, Sq8, Nq8, Hq8, Gq8⟩ := id f7
  obtain ⟨clq9, Arq9, qq9, Sq9, Nq9, Hq9, Gq9⟩ := id f7
  have o11 := Old.keep O0 K4 all0
  have f12 := f10.ext o11.2
  obtain ⟨T13, X13, e13, st13⟩ := getF X4 hx hZ hown (host := "") (Or.inl (w 59 rfl)) Via.refl rfl f12 (g := (mkF m 26 #[lR r0, .val .null, lR b4_0, lV vI6, lV vI0, lR r3] [(.ref r3)])) rfl rfl (hb hby d8_26)
  have f15 := f14.ext o11.2
  have f17 := f16.ext o11.2
  have f19 := f18.ext o11.2
  have f21 := f20.ext o11.2
  have f23 := (f22.keep K4)
  have f25 := (f24.keep K4 nin0)
  have f27 := (f26.keep K4 nin0)
  have f29 := (f28.keep K4 nin0)
  have f33 := f32.ext o11.2
  obtain ⟨cqq37, kqq37, qq37a, qq37b, qq37c⟩ := isOf hZ e13 f15
  obtain ⟨_, T36, Lc36, X36, hQ36, st36⟩ := own_fin (X13.virtualBack hx (y := mN1) (z := mN1) hown (mvT hZ (w 61 rfl)) (mvT hZ (w 62 rfl)) (notFace_of_selects (args := #[]) (mvT hZ (w 64 rfl))) (mvT hZ (w 64 rfl)) (mvT hZ (w 63 rfl)) (by decide) (own_strEq hZ hw (w 5 rfl) (bs := [(105 : Int32), (51 : Int32), (50 : Int32)]) f15 f19 f17 f21 (own_ofLen (n := 3) (by decide) rfl) (Nat.le_of_ble_eq_true rfl) (ds := t15) f23 f27 f25 f29 hc30 hc31 f33 hc34 (r := 0) (n0 := n0) (Or.inr ⟨rfl, fun q => hc35 (Eq.symm q)⟩) (by decide) (by decide : 0 + 28 ≤ _)) qq37a qq37c (g := (mkF m 30 #[lR r0, .val .null, lR b4_0, lV vI6, lV vI0, lR r3] [(.ref r0), (.ref r9)])) rfl (by rw [hml]; rfl) (Steps.refl _) (argsL := [(.ref r0)]) (rest := []) (lenOf pd__Ljava_lang_Object__Z rfl) rfl (own_W rfl) (hb hby d8_30) (fun _ _ => ⟨rfl, e13, (by decide : 1 + 0 ≤ _), (by decide : 6 + 0 ≤ _)⟩))
  obtain ⟨rfl, N36q, E36⟩ := hQ36
  have N36 := Fr.app N4 N36q
  obtain ⟨clq38, Arq38, qq38, Sq38, Nq38, Hq38, Gq38⟩ := id f7
  have f40 := f39.ext o11.2
  obtain ⟨T41, X41, e41, st41⟩ := getF X36 hx hZ hown (host := "") (Or.inl (w 59 rfl)) Via.refl E36 f40 (g := (mkF m 26 #[lR r0, .val .null, lR b4_0, lV vI6, lV vI1, lR r4] [(.ref r4)])) rfl rfl (hb hby d8_26)
  have f43 := f42.ext o11.2
  have f45 := f44.ext o11.2
  have f47 := f46.ext o11.2
  have f49 := f48.ext o11.2
  obtain ⟨cqq52, kqq52, qq52a, qq52b, qq52c⟩ := isOf hZ e41 f43
  obtain ⟨_, T51, Lc51, X51, hQ51, st51⟩ := own_fin (X41.virtualBack hx (y := mN1) (z := mN1) hown (mvT hZ (w 61 rfl)) (mvT hZ (w 62 rfl)) (notFace_of_selects (args := #[]) (mvT hZ (w 64 rfl))) (mvT hZ (w 64 rfl)) (mvT hZ (w 63 rfl)) (by decide) (own_strEq hZ hw (w 5 rfl) (bs := [(117 : Int32), (51 : Int32), (50 : Int32)]) f43 f47 f45 f49 (own_ofLen (n := 3) (by decide) rfl) (Nat.le_of_ble_eq_true rfl) (ds := t15) f23 f27 f25 f29 hc30 hc31 f33 hc34 (r := 0) (n0 := n0) (Or.inr ⟨rfl, fun q => hc50 (Eq.symm q)⟩) (by decide) (by decide : 0 + 28 ≤ _)) qq52a qq52c (g := (mkF m 30 #[lR r0, .val .null, lR b4_0, lV vI6, lV vI1, lR r4] [(.ref r0), (.ref r17)])) rfl (by rw [hml]; rfl) (Steps.refl _) (argsL := [(.ref r0)]) (rest := []) (lenOf pd__Ljava_lang_Object__Z rfl) rfl (own_W rfl) (hb hby d8_30) (fun _ _ => ⟨rfl, e41, (by decide : 1 + 0 ≤ _), (by decide : 6 + 0 ≤ _)⟩))
  obtain ⟨rfl, N51q, E51⟩ := hQ51
  have N51 := Fr.app N36 N51q
  obtain ⟨clq53, Arq53, qq53, Sq53, Nq53, Hq53, Gq53⟩ := id f7
  have f55 := f54.ext o11.2
  obtain ⟨T56, X56, e56, st56⟩ := getF X51 hx hZ hown (host := "") (Or.inl (w 59 rfl)) Via.refl E51 f55 (g := (mkF m 26 #[lR r0, .val .null, lR b4_0, lV vI6, lV vI2, lR r5] [(.ref r5)])) rfl rfl (hb hby d8_26)
  have f58 := f57.ext o11.2
  have f60 := f59.ext o11.2
  have f62 := f61.ext o11.2
  have f64 := f63.ext o11.2
  obtain ⟨cqq67, kqq67, qq67a, qq67b, qq67c⟩ := isOf hZ e56 f58
  obtain ⟨_, T66, Lc66, X66, hQ66, st66⟩ := own_fin (X56.virtualBack hx (y := mN1) (z := mN1) hown (mvT hZ (w 61 rfl)) (mvT hZ (w 62 rfl)) (notFace_of_selects (args := #[]) (mvT hZ (w 64 rfl))) (mvT hZ (w 64 rfl)) (mvT hZ (w 63 rfl)) (by decide) (own_strEq hZ hw (w 5 rfl) (bs := [(102 : Int32), (51 : Int32), (50 : Int32)]) f58 f62 f60 f64 (own_ofLen (n := 3) (by decide) rfl) (Nat.le_of_ble_eq_true rfl) (ds := t15) f23 f27 f25 f29 hc30 hc31 f33 hc34 (r := 0) (n0 := n0) (Or.inr ⟨rfl, fun q => hc65 (Eq.symm q)⟩) (by decide) (by decide : 0 + 28 ≤ _)) qq67a qq67c (g := (mkF m 30 #[lR r0, .val .null, lR b4_0, lV vI6, lV vI2, lR r5] [(.ref r0), (.ref r20)])) rfl (by rw [hml]; rfl) (Steps.refl _) (argsL := [(.ref r0)]) (rest := []) (lenOf pd__Ljava_lang_Object__Z rfl) rfl (own_W rfl) (hb hby d8_30) (fun _ _ => ⟨rfl, e56, (by decide : 1 + 0 ≤ _), (by decide : 6 + 0 ≤ _)⟩))
  obtain ⟨rfl, N66q, E66⟩ := hQ66
  have N66 := Fr.app N51 N66q
  obtain ⟨clq68, Arq68, qq68, Sq68, Nq68, Hq68, Gq68⟩ := id f7
  have f70 := f69.ext o11.2
  obtain ⟨T71, X71, e71, st71⟩ := getF X66 hx hZ hown (host := "") (Or.inl (w 59 rfl)) Via.refl E66 f70 (g := (mkF m 26 #[lR r0, .val .null, lR b4_0, lV vI6, lV vI3, lR r6] [(.ref r6)])) rfl rfl (hb hby d8_26)
  have f73 := f72.ext o11.2
  have f75 := f74.ext o11.2
  have f77 := f76.ext o11.2
  have f79 := f78.ext o11.2
  obtain ⟨cqq82, kqq82, qq82a, qq82b, qq82c⟩ := isOf hZ e71 f73
  obtain ⟨_, T81, Lc81, X81, hQ81, st81⟩ := own_fin (X71.virtualBack hx (y := mN1) (z := mN1) hown (mvT hZ (w 61 rfl)) (mvT hZ (w 62 rfl)) (notFace_of_selects (args := #[]) (mvT hZ (w 64 rfl))) (mvT hZ (w 64 rfl)) (mvT hZ (w 63 rfl)) (by decide) (own_strEq hZ hw (w 5 rfl) (bs := [(102 : Int32), (54 : Int32), (52 : Int32)]) f73 f77 f75 f79 (own_ofLen (n := 3) (by decide) rfl) (Nat.le_of_ble_eq_true rfl) (ds := t15) f23 f27 f25 f29 hc30 hc31 f33 hc34 (r := 0) (n0 := n0) (Or.inr ⟨rfl, fun q => hc80 (Eq.symm q)⟩) (by decide) (by decide : 0 + 28 ≤ _)) qq82a qq82c (g := (mkF m 30 #[lR r0, .val .null, lR b4_0, lV vI6, lV vI3, lR r6] [(.ref r0), (.ref r23)])) rfl (by rw [hml]; rfl) (Steps.refl _) (argsL := [(.ref r0)]) (rest := []) (lenOf pd__Ljava_lang_Object__Z rfl) rfl (own_W rfl) (hb hby d8_30) (fun _ _ => ⟨rfl, e71, (by decide : 1 + 0 ≤ _), (by decide : 6 + 0 ≤ _)⟩))
  obtain ⟨rfl, N81q, E81⟩ := hQ81
  have N81 := Fr.app N66 N81q
  obtain ⟨clq83, Arq83, qq83, Sq83, Nq83, Hq83, Gq83⟩ := id f7
  have f85 := f84.ext o11.2
  obtain ⟨T86, X86, e86, st86⟩ := getF X81 hx hZ hown (host := "") (Or.inl (w 59 rfl)) Via.refl E81 f85 (g := (mkF m 26 #[lR r0, .val .null, lR b4_0, lV vI6, lV vI4, lR r7] [(.ref r7)])) rfl rfl (hb hby d8_26)
  have f88 := f87.ext o11.2
  have f90 := f89.ext o11.2
  have f92 := f91.ext o11.2
  have f94 := f93.ext o11.2
  obtain ⟨cqq97, kqq97, qq97a, qq97b, qq97c⟩ := isOf hZ e86 f88
  obtain ⟨_, T96, Lc96, X96, hQ96, st96⟩ := own_fin (X86.virtualBack hx (y := mN1) (z := mN1) hown (mvT hZ (w 61 rfl)) (mvT hZ (w 62 rfl)) (notFace_of_selects (args := #[]) (mvT hZ (w 64 rfl))) (mvT hZ (w 64 rfl)) (mvT hZ (w 63 rfl)) (by decide) (own_strEq hZ hw (w 5 rfl) (bs := [(116 : Int32), (101 : Int32), (120 : Int32), (116 : Int32)]) f88 f92 f90 f94 (own_ofLen (n := 4) (by decide) rfl) (Nat.le_of_ble_eq_true rfl) (ds := t15) f23 f27 f25 f29 hc30 hc31 f33 hc34 (r := 0) (n0 := n0) (Or.inr ⟨rfl, fun q => hc95 (Eq.symm q)⟩) (by decide) (by decide : 0 + 28 ≤ _)) qq97a qq97c (g := (mkF m 30 #[lR r0, .val .null, lR b4_0, lV vI6, lV vI4, lR r7] [(.ref r0), (.ref r26)])) rfl (by rw [hml]; rfl) (Steps.refl _) (argsL := [(.ref r0)]) (rest := []) (lenOf pd__Ljava_lang_Object__Z rfl) rfl (own_W rfl) (hb hby d8_30) (fun _ _ => ⟨rfl, e86, (by decide : 1 + 0 ≤ _), (by decide : 6 + 0 ≤ _)⟩))
  obtain ⟨rfl, N96q, E96⟩ := hQ96
  have N96 := Fr.app N81 N96q
  obtain ⟨clq98, Arq98, qq98, Sq98, Nq98, Hq98, Gq98⟩ := id f7
  have f100 := f99.ext o11.2
  obtain ⟨T101, X101, e101, st101⟩ := getF X96 hx hZ hown (host := "") (Or.inl (w 59 rfl)) Via.refl E96 f100 (g := (mkF m 26 #[lR r0, .val .null, lR b4_0, lV vI6, lV vI5, lR r8] [(.ref r8)])) rfl rfl (hb hby d8_26)
  have f103 := f102.ext o11.2
  have f105 := f104.ext o11.2
  have f107 := f106.ext o11.2
  have f109 := f108.ext o11.2
  obtain ⟨cqq112, kqq112, qq112a, qq112b, qq112c⟩ := isOf hZ e101 f103
  obtain ⟨_, T111, Lc111, X111, hQ111, st111⟩ := own_fin (X101.virtualBack hx (y := mN1) (z := mN1) hown (mvT hZ (w 61 rfl)) (mvT hZ (w 62 rfl)) (notFace_of_selects (args := #[]) (mvT hZ (w 64 rfl))) (mvT hZ (w 64 rfl)) (mvT hZ (w 63 rfl)) (by decide) (own_strEq hZ hw (w 5 rfl) (bs := [(103 : Int32), (117 : Int32), (105 : Int32), (100 : Int32)]) f103 f107 f105 f109 (own_ofLen (n := 4) (by decide) rfl) (Nat.le_of_ble_eq_true rfl) (ds := t15) f23 f27 f25 f29 hc30 hc31 f33 hc34 (r := 1) (n0 := n0) (Or.inl ⟨rfl, (Eq.symm hc110)⟩) (by decide) (by decide : 0 + 28 ≤ _)) qq112a qq112c (g := (mkF m 30 #[lR r0, .val .null, lR b4_0, lV vI6, lV vI5, lR r8] [(.ref r0), (.ref r29)])) rfl (by rw [hml]; rfl) (Steps.refl _) (argsL := [(.ref r0)]) (rest := []) (lenOf pd__Ljava_lang_Object__Z rfl) rfl (own_W rfl) (hb hby d8_30) (fun _ _ => ⟨rfl, e101, (by decide : 1 + 0 ≤ _), (by decide : 6 + 0 ≤ _)⟩))
  obtain ⟨rfl, N111q, E111⟩ := hQ111
  have N111 := Fr.app N96 N111q
  have kp113 : Keep h0 T4.heap [] := (Keep.refl h0 []).trans K4 all0
  refine ⟨some (.ref r8), _, _, _, _, nofun, X111, by decide, by decide, ?_, fun fs hr => ?_⟩
  · rw [E111]; exact ⟨rfl, N111, kp113⟩
  · show SG p e below s₁ (mkF m 0 #[lR r0, lU, lU, lU, lU, lU] []) _
    refine XS.aconstNull X0.here hx rfl (hb hby d8_0) ?_
    refine XS.astoreN X0.here hx rfl (hb hby d8_1) rfl rfl (l' := #[lR r0, .val .null, lU, lU, lU, lU]) rfl ?_
    refine st4 _ ?_
    show SG p e below T4 (mkF m 5 #[lR r0, .val .null, lU, lU, lU, lU] [(.ref b4_0)]) _
    refine XS.astoreN X4.here hx rfl (hb hby d8_5) rfl rfl (l' := #[lR r0, .val .null, lR b4_0, lU, lU, lU]) rfl ?_
    refine qaN X4 hx hby d8_6 ?_
    refine X4.arraylength hx (Arq8.1) (State.isArrayOf_alike hZ.alike Arq8.2.1) (g := (mkF m 7 #[lR r0, .val .null, lR b4_0, lU, lU, lU] [(.ref b4_0)])) rfl rfl (hb hby d8_7) _ ?_
    rw [len_of Sq8 Nq8]
    show SG p e below T4 (mkF m 8 #[lR r0, .val .null, lR b4_0, lU, lU, lU] [vI6]) _
    refine XS.istoreN X4.here hx rfl (hb hby d8_8) rfl (l' := #[lR r0, .val .null, lR b4_0, lV vI6, lU, lU]) rfl ?_
    refine qc X4 hx hby d8_9 ?_
    refine XS.istore X4.here hx rfl (hb hby d8_10) rfl (l' := #[lR r0, .val .null, lR b4_0, lV vI6, lV vI0, lU]) rfl ?_
    refine qi X4 hx hby d8_12 ?_
    refine qiN X4 hx hby d8_14 ?_
    refine XS.icmpNo X4.here hx rfl (hb hby d8_15) rfl (tlt (by decide : (0 : Int32) < (6 : Int32))).2.1 ?_
    refine qaN X4 hx hby d8_18 ?_
    refine qi X4 hx hby d8_19 ?_
    show SG p e below T4 (mkF m 21 #[lR r0, .val .null, lR b4_0, lV vI6, lV vI0, lU] [vI0, (.ref b4_0)]) _
    refine X4.aaload hx (j := (0 : Int32)) (v := (.ref r3)) (Arq9.1) (State.isArrayOf_alike hZ.alike Arq9.2.1) rfl Arq9.2.2 (inb_of Sq9 ⟨(by decide : ¬ ((0 : Int32) < (0 : Int32))), (by decide : (0 : Int32) < (6 : Int32))⟩) (Has.at Hq9 (inb_of Sq9 ⟨(by decide : ¬ ((0 : Int32) < (0 : Int32))), (by decide : (0 : Int32) < (6 : Int32))⟩) rfl) (g := (mkF m 21 #[lR r0, .val .null, lR b4_0, lV vI6, lV vI0, lU] [vI0, (.ref b4_0)])) rfl rfl (hb hby d8_21) _ ?_
    show SG p e below T4 (mkF m 22 #[lR r0, .val .null, lR b4_0, lV vI6, lV vI0, lU] [(.ref r3)]) _
    refine XS.astore X4.here hx rfl (hb hby d8_22) rfl rfl (l' := #[lR r0, .val .null, lR b4_0, lV vI6, lV vI0, lR r3]) rfl ?_
    refine qa X4 hx hby d8_24 ?_
    refine st13 _ ?_
    show SG p e below T13 (mkF m 29 #[lR r0, .val .null, lR b4_0, lV vI6, lV vI0, lR r3] [(.ref r9)]) _
    refine qaN X13 hx hby d8_29 ?_
    refine st36.trans ?_
    show SG p e below T36 (mkF m 33 #[lR r0, .val .null, lR b4_0, lV vI6, lV vI0, lR r3] [vI0]) _
    refine XS.ifYes X36.here hx rfl (pc0 := 33) (pc' := 39) rfl (hb hby d8_33) rfl ((if0 _ _).trans (teq (rfl : (0 : Int32) = (0 : Int32))).1) (by decide) (by decide) ?_
    show SG p e below T36 (mkF m 39 #[lR r0, .val .null, lR b4_0, lV vI6, lV vI0, lR r3] []) _
    refine XS.iinc X36.here hx rfl (hb hby d8_39) rfl (l' := #[lR r0, .val .null, lR b4_0, lV vI6, lV vI1, lR r3]) rfl ?_
    refine XS.goto X36.here hx rfl (pc0 := 42) (pc' := 12) rfl (hb hby d8_42) (by decide) (by decide) ?_
    show SG p e below T36 (mkF m 12 #[lR r0, .val .null, lR b4_0, lV vI6, lV vI1, lR r3] []) _
    refine qi X36 hx hby d8_12 ?_
    refine qiN X36 hx hby d8_14 ?_
    refine XS.icmpNo X36.here hx rfl (hb hby d8_15) rfl (tlt (by decide : (1 : Int32) < (6 : Int32))).2.1 ?_
    refine qaN X36 hx hby d8_18 ?_
    refine qi X36 hx hby d8_19 ?_
    refine X36.aaload hx (j := (1 : Int32)) (v := (.ref r4)) (by rw [E36]; exact Arq38.1) (State.isArrayOf_alike hZ.alike Arq38.2.1) rfl Arq38.2.2 (inb_of Sq38 ⟨(by decide : ¬ ((1 : Int32) < (0 : Int32))), (by decide : (1 : Int32) < (6 : Int32))⟩) (Has.at Hq38 (inb_of Sq38 ⟨(by decide : ¬ ((1 : Int32) < (0 : Int32))), (by decide : (1 : Int32) < (6 : Int32))⟩) rfl) (g := (mkF m 21 #[lR r0, .val .null, lR b4_0, lV vI6, lV vI1, lR r3] [vI1, (.ref b4_0)])) rfl rfl (hb hby d8_21) _ ?_
    show SG p e below T36 (mkF m 22 #[lR r0, .val .null, lR b4_0, lV vI6, lV vI1, lR r3] [(.ref r4)]) _
    refine XS.astore X36.here hx rfl (hb hby d8_22) rfl rfl (l' := #[lR r0, .val .null, lR b4_0, lV vI6, lV vI1, lR r4]) rfl ?_
    refine qa X36 hx hby d8_24 ?_
    refine st41 _ ?_
    show SG p e below T41 (mkF m 29 #[lR r0, .val .null, lR b4_0, lV vI6, lV vI1, lR r4] [(.ref r17)]) _
    refine qaN X41 hx hby d8_29 ?_
    refine st51.trans ?_
    show SG p e below T51 (mkF m 33 #[lR r0, .val .null, lR b4_0, lV vI6, lV vI1, lR r4] [vI0]) _
    refine XS.ifYes X51.here hx rfl (pc0 := 33) (pc' := 39) rfl (hb hby d8_33) rfl ((if0 _ _).trans (teq (rfl : (0 : Int32) = (0 : Int32))).1) (by decide) (by decide) ?_
    show SG p e below T51 (mkF m 39 #[lR r0, .val .null, lR b4_0, lV vI6, lV vI1, lR r4] []) _
    refine XS.iinc X51.here hx rfl (hb hby d8_39) rfl (l' := #[lR r0, .val .null, lR b4_0, lV vI6, lV vI2, lR r4]) rfl ?_
    refine XS.goto X51.here hx rfl (pc0 := 42) (pc' := 12) rfl (hb hby d8_42) (by decide) (by decide) ?_
    show SG p e below T51 (mkF m 12 #[lR r0, .val .null, lR b4_0, lV vI6, lV vI2, lR r4] []) _
    refine qi X51 hx hby d8_12 ?_
    refine qiN X51 hx hby d8_14 ?_
    refine XS.icmpNo X51.here hx rfl (hb hby d8_15) rfl (tlt (by decide : (2 : Int32) < (6 : Int32))).2.1 ?_
    refine qaN X51 hx hby d8_18 ?_
    refine qi X51 hx hby d8_19 ?_
    refine X51.aaload hx (j := (2 : Int32)) (v := (.ref r5)) (by rw [E51]; exact Arq53.1) (State.isArrayOf_alike hZ.alike Arq53.2.1) rfl Arq53.2.2 (inb_of Sq53 ⟨(by decide : ¬ ((2 : Int32) < (0 : Int32))), (by decide : (2 : Int32) < (6 : Int32))⟩) (Has.at Hq53 (inb_of Sq53 ⟨(by decide : ¬ ((2 : Int32) < (0 : Int32))), (by decide : (2 : Int32) < (6 : Int32))⟩) rfl) (g := (mkF m 21 #[lR r0, .val .null, lR b4_0, lV vI6, lV vI2, lR r4] [vI2, (.ref b4_0)])) rfl rfl (hb hby d8_21) _ ?_
    show SG p e below T51 (mkF m 22 #[lR r0, .val .null, lR b4_0, lV vI6, lV vI2, lR r4] [(.ref r5)]) _
    refine XS.astore X51.here hx rfl (hb hby d8_22) rfl rfl (l' := #[lR r0, .val .null, lR b4_0, lV vI6, lV vI2, lR r5]) rfl ?_
    refine qa X51 hx hby d8_24 ?_
    refine st56 _ ?_
    show SG p e below T56 (mkF m 29 #[lR r0, .val .null, lR b4_0, lV vI6, lV vI2, lR r5] [(.ref r20)]) _
    refine qaN X56 hx hby d8_29 ?_
    refine st66.trans ?_
    show SG p e below T66 (mkF m 33 #[lR r0, .val .null, lR b4_0, lV vI6, lV vI2, lR r5] [vI0]) _
    refine XS.ifYes X66.here hx rfl (pc0 := 33) (pc' := 39) rfl (hb hby d8_33) rfl ((if0 _ _).trans (teq (rfl : (0 : Int32) = (0 : Int32))).1) (by decide) (by decide) ?_
    show SG p e below T66 (mkF m 39 #[lR r0, .val .null, lR b4_0, lV vI6, lV vI2, lR r5] []) _
    refine XS.iinc X66.here hx rfl (hb hby d8_39) rfl (l' := #[lR r0, .val .null, lR b4_0, lV vI6, lV vI3, lR r5]) rfl ?_
    refine XS.goto X66.here hx rfl (pc0 := 42) (pc' := 12) rfl (hb hby d8_42) (by decide) (by decide) ?_
    show SG p e below T66 (mkF m 12 #[lR r0, .val .null, lR b4_0, lV vI6, lV vI3, lR r5] []) _
    refine qi X66 hx hby d8_12 ?_
    refine qiN X66 hx hby d8_14 ?_
    refine XS.icmpNo X66.here hx rfl (hb hby d8_15) rfl (tlt (by decide : (3 : Int32) < (6 : Int32))).2.1 ?_
    refine qaN X66 hx hby d8_18 ?_
    refine qi X66 hx hby d8_19 ?_
    refine X66.aaload hx (j := (3 : Int32)) (v := (.ref r6)) (by rw [E66]; exact Arq68.1) (State.isArrayOf_alike hZ.alike Arq68.2.1) rfl Arq68.2.2 (inb_of Sq68 ⟨(by decide : ¬ ((3 : Int32) < (0 : Int32))), (by decide : (3 : Int32) < (6 : Int32))⟩) (Has.at Hq68 (inb_of Sq68 ⟨(by decide : ¬ ((3 : Int32) < (0 : Int32))), (by decide : (3 : Int32) < (6 : Int32))⟩) rfl) (g := (mkF m 21 #[lR r0, .val .null, lR b4_0, lV vI6, lV vI3, lR r5] [vI3, (.ref b4_0)])) rfl rfl (hb hby d8_21) _ ?_
    show SG p e below T66 (mkF m 22 #[lR r0, .val .null, lR b4_0, lV vI6, lV vI3, lR r5] [(.ref r6)]) _
    refine XS.astore X66.here hx rfl (hb hby d8_22) rfl rfl (l' := #[lR r0, .val .null, lR b4_0, lV vI6, lV vI3, lR r6]) rfl ?_
    refine qa X66 hx hby d8_24 ?_
    refine st71 _ ?_
    show SG p e below T71 (mkF m 29 #[lR r0, .val .null, lR b4_0, lV vI6, lV vI3, lR r6] [(.ref r23)]) _
    refine qaN X71 hx hby d8_29 ?_
    refine st81.trans ?_
    show SG p e below T81 (mkF m 33 #[lR r0, .val .null, lR b4_0, lV vI6, lV vI3, lR r6] [vI0]) _
    refine XS.ifYes X81.here hx rfl (pc0 := 33) (pc' := 39) rfl (hb hby d8_33) rfl ((if0 _ _).trans (teq (rfl : (0 : Int32) = (0 : Int32))).1) (by decide) (by decide) ?_
    show SG p e below T81 (mkF m 39 #[lR r0, .val .null, lR b4_0, lV vI6, lV vI3, lR r6] []) _
    refine XS.iinc X81.here hx rfl (hb hby d8_39) rfl (l' := #[lR r0, .val .null, lR b4_0, lV vI6, lV vI4, lR r6]) rfl ?_
    refine XS.goto X81.here hx rfl (pc0 := 42) (pc' := 12) rfl (hb hby d8_42) (by decide) (by decide) ?_
    show SG p e below T81 (mkF m 12 #[lR r0, .val .null, lR b4_0, lV vI6, lV vI4, lR r6] []) _
    refine qi X81 hx hby d8_12 ?_
    refine qiN X81 hx hby d8_14 ?_
    refine XS.icmpNo X81.here hx rfl (hb hby d8_15) rfl (tlt (by decide : (4 : Int32) < (6 : Int32))).2.1 ?_
    refine qaN X81 hx hby d8_18 ?_
    refine qi X81 hx hby d8_19 ?_
    refine X81.aaload hx (j := (4 : Int32)) (v := (.ref r7)) (by rw [E81]; exact Arq83.1) (State.isArrayOf_alike hZ.alike Arq83.2.1) rfl Arq83.2.2 (inb_of Sq83 ⟨(by decide : ¬ ((4 : Int32) < (0 : Int32))), (by decide : (4 : Int32) < (6 : Int32))⟩) (Has.at Hq83 (inb_of Sq83 ⟨(by decide : ¬ ((4 : Int32) < (0 : Int32))), (by decide : (4 : Int32) < (6 : Int32))⟩) rfl) (g := (mkF m 21 #[lR r0, .val .null, lR b4_0, lV vI6, lV vI4, lR r6] [vI4, (.ref b4_0)])) rfl rfl (hb hby d8_21) _ ?_
    show SG p e below T81 (mkF m 22 #[lR r0, .val .null, lR b4_0, lV vI6, lV vI4, lR r6] [(.ref r7)]) _
    refine XS.astore X81.here hx rfl (hb hby d8_22) rfl rfl (l' := #[lR r0, .val .null, lR b4_0, lV vI6, lV vI4, lR r7]) rfl ?_
    refine qa X81 hx hby d8_24 ?_
    refine st86 _ ?_
    show SG p e below T86 (mkF m 29 #[lR r0, .val .null, lR b4_0, lV vI6, lV vI4, lR r7] [(.ref r26)]) _
    refine qaN X86 hx hby d8_29 ?_
    refine st96.trans ?_
    show SG p e below T96 (mkF m 33 #[lR r0, .val .null, lR b4_0, lV vI6, lV vI4, lR r7] [vI0]) _
    refine XS.ifYes X96.here hx rfl (pc0 := 33) (pc' := 39) rfl (hb hby d8_33) rfl ((if0 _ _).trans (teq (rfl : (0 : Int32) = (0 : Int32))).1) (by decide) (by decide) ?_
    show SG p e below T96 (mkF m 39 #[lR r0, .val .null, lR b4_0, lV vI6, lV vI4, lR r7] []) _
    refine XS.iinc X96.here hx rfl (hb hby d8_39) rfl (l' := #[lR r0, .val .null, lR b4_0, lV vI6, lV vI5, lR r7]) rfl ?_
    refine XS.goto X96.here hx rfl (pc0 := 42) (pc' := 12) rfl (hb hby d8_42) (by decide) (by decide) ?_
    show SG p e below T96 (mkF m 12 #[lR r0, .val .null, lR b4_0, lV vI6, lV vI5, lR r7] []) _
    refine qi X96 hx hby d8_12 ?_
    refine qiN X96 hx hby d8_14 ?_
    refine XS.icmpNo X96.here hx rfl (hb hby d8_15) rfl (tlt (by decide : (5 : Int32) < (6 : Int32))).2.1 ?_
    refine qaN X96 hx hby d8_18 ?_
    refine qi X96 hx hby d8_19 ?_
    refine X96.aaload hx (j := (5 : Int32)) (v := (.ref r8)) (by rw [E96]; exact Arq98.1) (State.isArrayOf_alike hZ.alike Arq98.2.1) rfl Arq98.2.2 (inb_of Sq98 ⟨(by decide : ¬ ((5 : Int32) < (0 : Int32))), (by decide : (5 : Int32) < (6 : Int32))⟩) (Has.at Hq98 (inb_of Sq98 ⟨(by decide : ¬ ((5 : Int32) < (0 : Int32))), (by decide : (5 : Int32) < (6 : Int32))⟩) rfl) (g := (mkF m 21 #[lR r0, .val .null, lR b4_0, lV vI6, lV vI5, lR r7] [vI5, (.ref b4_0)])) rfl rfl (hb hby d8_21) _ ?_
    show SG p e below T96 (mkF m 22 #[lR r0, .val .null, lR b4_0, lV vI6, lV vI5, lR r7] [(.ref r8)]) _
    refine XS.astore X96.here hx rfl (hb hby d8_22) rfl rfl (l' := #[lR r0, .val .null, lR b4_0, lV vI6, lV vI5, lR r8]) rfl ?_
    refine qa X96 hx hby d8_24 ?_
    refine st101 _ ?_
    show SG p e below T101 (mkF m 29 #[lR r0, .val .null, lR b4_0, lV vI6, lV vI5, lR r8] [(.ref r29)]) _
    refine qaN X101 hx hby d8_29 ?_
    refine st111.trans ?_
    show SG p e below T111 (mkF m 33 #[lR r0, .val .null, lR b4_0, lV vI6, lV vI5, lR r8] [vI1]) _
    refine XS.ifNo X111.here hx rfl (hb hby d8_33) rfl ((if0 _ _).trans (feq (by decide : ¬ ((1 : Int32) = (0 : Int32)))).1) ?_
    refine qa X111 hx hby d8_36 ?_
    refine XS.astoreN X111.here hx rfl (hb hby d8_38) rfl rfl (l' := #[lR r0, lR r8, lR b4_0, lV vI6, lV vI5, lR r8]) rfl ?_
    refine XS.iinc X111.here hx rfl (hb hby d8_39) rfl (l' := #[lR r0, lR r8, lR b4_0, lV vI6, lV vI6, lR r8]) rfl ?_
    refine XS.goto X111.here hx rfl (pc0 := 42) (pc' := 12) rfl (hb hby d8_42) (by decide) (by decide) ?_
    show SG p e below T111 (mkF m 12 #[lR r0, lR r8, lR b4_0, lV vI6, lV vI6, lR r8] []) _
    refine qi X111 hx hby d8_12 ?_
    refine qiN X111 hx hby d8_14 ?_
    refine XS.icmpYes X111.here hx rfl (pc0 := 15) (pc' := 45) rfl (hb hby d8_15) rfl (flt (by decide : ¬ ((6 : Int32) < (6 : Int32)))).2.1 (by decide) (by decide) ?_
    show SG p e below T111 (mkF m 45 #[lR r0, lR r8, lR b4_0, lV vI6, lV vI6, lR r8] []) _
    refine qaN X111 hx hby d8_45 ?_
    exact retOut X111 hx (i := .areturn) hret rfl (Or.inr (Or.inr (Or.inr (Or.inr ⟨rfl, rfl, rfl⟩)))) (hb hby d8_46) hr
def Q8_8 (Z : State) (r0 r1 : Addr) (c2 : ClassId) (r3 r4 : Addr) (r5 r6 : Addr) (r7 r8 : Addr) (r9 r10 : Addr) (c11 : ClassId) (r12 : Addr) (c13 : ClassId) (x14 : Int32) (t15 : List Int32) (x16 : Int32) (r17 r18 : Addr) (c19 : ClassId) (r20 r21 : Addr) (c22 : ClassId) (r23 r24 : Addr) (c25 : ClassId) (r26 r27 : Addr) (c28 : ClassId) (r29 r30 : Addr) (c31 : ClassId) (h0 : Heap) (n0 : Nat) (v : Option Value) (h : Heap) (L : List Loc) : Prop := v = some .null ∧ Fr n0 L ∧ Keep h0 h []
theorem rm8_8 (l : Launch) (Z : State) (a0 : Array Value) (hw : own_HW a0 Z) (ws : List Jvm.Cond) (r0 r1 : Addr) (c2 : ClassId) (r3 r4 : Addr) (r5 r6 : Addr) (r7 r8 : Addr) (r9 r10 : Addr) (c11 : ClassId) (r12 : Addr) (c13 : ClassId) (x14 : Int32) (t15 : List Int32) (x16 : Int32) (r17 r18 : Addr) (c19 : ClassId) (r20 r21 : Addr) (c22 : ClassId) (r23 r24 : Addr) (c25 : ClassId) (r26 r27 : Addr) (c28 : ClassId) (r29 r30 : Addr) (c31 : ClassId) (h0 : Heap) (n0 : Nat) (O0 : Old Z n0 h0) (f1 : Sta Z Z.heap cs0 "$VALUES" cs1 (.ref r1)) (f2 : Exa Z Z.heap r1 cs1) (f3 : Arv Z Z.heap r1 c2 (.object cs0) (6 : Int32) [(.ref r3), (.ref r4), (.ref r5), (.ref r6), (.ref r7), (.ref r8)] .null) (f10 : Fld Z Z.heap r3 cs0 "label" "Ljava/lang/String;" (.ref r9)) (f14 : Exa Z Z.heap r9 "java/lang/String") (f16 : Fld Z Z.heap r9 "java/lang/String" "coder" "B" vI0) (f18 : Fld Z Z.heap r9 "java/lang/String" "value" "[B" (.ref r10)) (f20 : Arv Z Z.heap r10 c11 .byte (3 : Int32) [vI105, vI51, vI50] vI0) (f22 : Exa Z h0 r0 "java/lang/String") (f24 : Fld Z h0 r0 "java/lang/String" "coder" "B" vI0) (f26 : Fld Z h0 r0 "java/lang/String" "value" "[B" (.ref r12)) (f28 : Arv Z h0 r12 c13 .byte x14 (t15.map Value.int) vI0) (hc30 : x14 = Int32.ofNat t15.length) (hc31 : t15.length ≤ 4000) (f32 : Sta Z Z.heap "java/lang/String" "COMPACT_STRINGS" "Z" (.int x16)) (hc34 : ¬ (x16 = (0 : Int32))) (hc35 : ¬ (t15 = [(105 : Int32), (51 : Int32), (50 : Int32)])) (f39 : Fld Z Z.heap r4 cs0 "label" "Ljava/lang/String;" (.ref r17)) (f42 : Exa Z Z.heap r17 "java/lang/String") (f44 : Fld Z Z.heap r17 "java/lang/String" "coder" "B" vI0) (f46 : Fld Z Z.heap r17 "java/lang/String" "value" "[B" (.ref r18)) (f48 : Arv Z Z.heap r18 c19 .byte (3 : Int32) [vI117, vI51, vI50] vI0) (hc50 : ¬ (t15 = [(117 : Int32), (51 : Int32), (50 : Int32)])) (f54 : Fld Z Z.heap r5 cs0 "label" "Ljava/lang/String;" (.ref r20)) (f57 : Exa Z Z.heap r20 "java/lang/String") (f59 : Fld Z Z.heap r20 "java/lang/String" "coder" "B" vI0) (f61 : Fld Z Z.heap r20 "java/lang/String" "value" "[B" (.ref r21)) (f63 : Arv Z Z.heap r21 c22 .byte (3 : Int32) [vI102, vI51, vI50] vI0) (hc65 : ¬ (t15 = [(102 : Int32), (51 : Int32), (50 : Int32)])) (f69 : Fld Z Z.heap r6 cs0 "label" "Ljava/lang/String;" (.ref r23)) (f72 : Exa Z Z.heap r23 "java/lang/String") (f74 : Fld Z Z.heap r23 "java/lang/String" "coder" "B" vI0) (f76 : Fld Z Z.heap r23 "java/lang/String" "value" "[B" (.ref r24)) (f78 : Arv Z Z.heap r24 c25 .byte (3 : Int32) [vI102, vI54, vI52] vI0) (hc80 : ¬ (t15 = [(102 : Int32), (54 : Int32), (52 : Int32)])) (f84 : Fld Z Z.heap r7 cs0 "label" "Ljava/lang/String;" (.ref r26)) (f87 : Exa Z Z.heap r26 "java/lang/String") (f89 : Fld Z Z.heap r26 "java/lang/String" "coder" "B" vI0) (f91 : Fld Z Z.heap r26 "java/lang/String" "value" "[B" (.ref r27)) (f93 : Arv Z Z.heap r27 c28 .byte (4 : Int32) [vI116, vI101, vI120, vI116] vI0) (hc95 : ¬ (t15 = [(116 : Int32), (101 : Int32), (120 : Int32), (116 : Int32)])) (f99 : Fld Z Z.heap r8 cs0 "label" "Ljava/lang/String;" (.ref r29)) (f102 : Exa Z Z.heap r29 "java/lang/String") (f104 : Fld Z Z.heap r29 "java/lang/String" "coder" "B" vI0) (f106 : Fld Z Z.heap r29 "java/lang/String" "value" "[B" (.ref r30)) (f108 : Arv Z Z.heap r30 c31 .byte (4 : Int32) [vI103, vI117, vI105, vI100] vI0) (hc110 : ¬ (t15 = [(103 : Int32), (117 : Int32), (105 : Int32), (100 : Int32)])) :
    own_MF l mN2 prog_72_method_8_code 6 (some (.object cs0)) ws rR2_1_6_28 Z h0 #[(.ref r0)] (Q8_8 Z r0 r1 c2 r3 r4 r5 r6 r7 r8 r9 r10 c11 r12 c13 x14 t15 x16 r17 r18 c19 r20 r21 c22 r23 r24 c25 r26 r27 c28 r29 r30 c31 h0 n0) := by
  refine own_open (plainFor_of_name pn_com_example_wiregather_wiregather_wire_FieldType) (L0 := #[lR r0, lU, lU, lU, lU, lU]) (fun _ => by first | (simp [entryFrame, mkF, argsToLocals, Value.category]; done) | rfl) ?_
  intro p e s m below meth c s₁ hx hby hml hret hnn hZ hown X0 e0
  have N0 := Fr.nil n0; have w := @ww Z a0 hw
  obtain ⟨_, T4, Lc4, X4, hQ4, st4⟩ := own_cS X0 hx hZ hown e0 (rm9_1 l Z a0 hw [] r1 c2 r3 r4 r5 r6 r7 r8 h0 n0 O0 f1 f2 f3) (w 38 rfl) (w 39 rfl) (w 36 rfl) (w 40 rfl) (by decide) (W := 0) (by decide) (by decide) (by decide) (by decide) (g := (mkF m 2 #[lR r0, .val .null, lU, lU, lU, lU] [])) rfl (by rw [hml]; rfl) (argsL := []) (rest := []) (lenOf pd____Lcom_example_wiregather_wiregather_wire_FieldType_ rfl) rfl (own_W rfl) (hb hby d8_2)
  obtain ⟨b4_0, rfl, N4q, K4, f5, f6, f7⟩ := hQ4
  have N4 := Fr.app N0 N4q
  obtain ⟨clq8, Arq8, qq8, Sq8, Nq8, Hq8, Gq8⟩ := id f7
  obtain ⟨clq9, Arq9, qq9, Sq9, Nq9, Hq9, Gq9⟩ := id f7
  have o11 := Old.keep O0 K4 all0
  have f12 := f10.ext o11.2
  obtain ⟨T13, X13, e13, st13⟩ := getF X4 hx hZ hown (host := "") (Or.inl (w 59 rfl)) Via.refl rfl f12 (g := (mkF m 26 #[lR r0, .val .null, lR b4_0, lV vI6, lV vI0, lR r3] [(.ref r3)])) rfl rfl (hb hby d8_26)
  have f15 := f14.ext o11.2
  have f17 := f16.ext o11.2
  have f19 := f18.ext o11.2
  have f21 := f20.ext o11.2
  have f23 := (f22.keep K4)
  have f25 := (f24.keep K4 nin0)
  have f27 := (f26.keep K4 nin0)
  have f29 := (f28.keep K4 nin0)
  have f33 := f32.ext o11.2
  obtain ⟨cqq37, kqq37, qq37a, qq37b, qq37c⟩ := isOf hZ e13 f15
  obtain ⟨_, T36, Lc36, X36, hQ36, st36⟩ := own_fin (X13.virtualBack hx (y := mN1) (z := mN1) hown (mvT hZ (w 61 rfl)) (mvT hZ (w 62 rfl)) (notFace_of_selects (args := #[]) (mvT hZ (w 64 rfl))) (mvT hZ (w 64 rfl)) (mvT hZ (w 63 rfl)) (by decide) (own_strEq hZ hw (w 5 rfl) (bs := [(105 : Int32), (51 : Int32), (50 : Int32)]) f15 f19 f17 f21 (own_ofLen (n := 3) (by decide) rfl) (Nat.le_of_ble_eq_true rfl) (ds := t15) f23 f27 f25 f29 hc30 hc31 f33 hc34 (r := 0) (n0 := n0) (Or.inr ⟨rfl, fun q => hc35 (Eq.symm q)⟩) (by decide) (by decide : 0 + 28 ≤ _)) qq37a qq37c (g := (mkF m 30 #[lR r0, .val .null, lR b4_0, lV vI6, lV vI0, lR r3] [(.ref r0), (.ref r9)])) rfl (by rw [hml]; rfl) (Steps.refl _) (argsL := [(.ref r0)]) (rest := []) (lenOf pd__Ljava_lang_Object__Z rfl) rfl (own_W rfl) (hb hby d8_30) (fun _ _ => ⟨rfl, e13, (by decide : 1 + 0 ≤ _), (by decide : 6 + 0 ≤ _)⟩))
  obtain ⟨rfl, N36q, E36⟩ := hQ36
  have N36 := Fr.app N4 N36q
  obtain ⟨clq38, Arq38, qq38, Sq38, Nq38, Hq38, Gq38⟩ := id f7
  have f40 := f39.ext o11.2
  obtain ⟨T41, X41, e41, st41⟩ := getF X36 hx hZ hown (host := "") (Or.inl (w 59 rfl)) Via.refl E36 f40 (g := (mkF m 26 #[lR r0, .val .null, lR b4_0, lV vI6, lV vI1, lR r4] [(.ref r4)])) rfl rfl (hb hby d8_26)
  have f43 := f42.ext o11.2
  have f45 := f44.ext o11.2
  have f47 := f46.ext o11.2
  have f49 := f48.ext o11.2
  obtain ⟨cqq52, kqq52, qq52a, qq52b, qq52c⟩ := isOf hZ e41 f43
  obtain ⟨_, T51, Lc51, X51, hQ51, st51⟩ := own_fin (X41.virtualBack hx (y := mN1) (z := mN1) hown (mvT hZ (w 61 rfl)) (mvT hZ (w 62 rfl)) (notFace_of_selects (args := #[]) (mvT hZ (w 64 rfl))) (mvT hZ (w 64 rfl)) (mvT hZ (w 63 rfl)) (by decide) (own_strEq hZ hw (w 5 rfl) (bs := [(117 : Int32), (51 : Int32), (50 : Int32)]) f43 f47 f45 f49 (own_ofLen (n := 3) (by decide) rfl) (Nat.le_of_ble_eq_true rfl) (ds := t15) f23 f27 f25 f29 hc30 hc31 f33 hc34 (r := 0) (n0 := n0) (Or.inr ⟨rfl, fun q => hc50 (Eq.symm q)⟩) (by decide) (by decide : 0 + 28 ≤ _)) qq52a qq52c (g := (mkF m 30 #[lR r0, .val .null, lR b4_0, lV vI6, lV vI1, lR r4] [(.ref r0), (.ref r17)])) rfl (by rw [hml]; rfl) (Steps.refl _) (argsL := [(.ref r0)]) (rest := []) (lenOf pd__Ljava_lang_Object__Z rfl) rfl (own_W rfl) (hb hby d8_30) (fun _ _ => ⟨rfl, e41, (by decide : 1 + 0 ≤ _), (by decide : 6 + 0 ≤ _)⟩))
  obtain ⟨rfl, N51q, E51⟩ := hQ51
  have N51 := Fr.app N36 N51q
  obtain ⟨clq53, Arq53, qq53, Sq53, Nq53, Hq53, Gq53⟩ := id f7
  have f55 := f54.ext o11.2
  obtain ⟨T56, X56, e56, st56⟩ := getF X51 hx hZ hown (host := "") (Or.inl (w 59 rfl)) Via.refl E51 f55 (g := (mkF m 26 #[lR r0, .val .null, lR b4_0, lV vI6, lV vI2, lR r5] [(.ref r5)])) rfl rfl (hb hby d8_26)
  have f58 := f57.ext o11.2
  have f60 := f59.ext o11.2
  have f62 := f61.ext o11.2
  have f64 := f63.ext o11.2
  obtain ⟨cqq67, kqq67, qq67a, qq67b, qq67c⟩ := isOf hZ e56 f58
  obtain ⟨_, T66, Lc66, X66, hQ66, st66⟩ := own_fin (X56.virtualBack hx (y := mN1) (z := mN1) hown (mvT hZ (w 61 rfl)) (mvT hZ (w 62 rfl)) (notFace_of_selects (args := #[]) (mvT hZ (w 64 rfl))) (mvT hZ (w 64 rfl)) (mvT hZ (w 63 rfl)) (by decide) (own_strEq hZ hw (w 5 rfl) (bs := [(102 : Int32), (51 : Int32), (50 : Int32)]) f58 f62 f60 f64 (own_ofLen (n := 3) (by decide) rfl) (Nat.le_of_ble_eq_true rfl) (ds := t15) f23 f27 f25 f29 hc30 hc31 f33 hc34 (r := 0) (n0 := n0) (Or.inr ⟨rfl, fun q => hc65 (Eq.symm q)⟩) (by decide) (by decide : 0 + 28 ≤ _)) qq67a qq67c (g := (mkF m 30 #[lR r0, .val .null, lR b4_0, lV vI6, lV vI2, lR r5] [(.ref r0), (.ref r20)])) rfl (by rw [hml]; rfl) (Steps.refl _) (argsL := [(.ref r0)]) (rest := []) (lenOf pd__Ljava_lang_Object__Z rfl) rfl (own_W rfl) (hb hby d8_30) (fun _ _ => ⟨rfl, e56, (by decide : 1 + 0 ≤ _), (by decide : 6 + 0 ≤ _)⟩))
  obtain ⟨rfl, N66q, E66⟩ := hQ66
  have N66 := Fr.app N51 N66q
  obtain ⟨clq68, Arq68, qq68, Sq68, Nq68, Hq68, Gq68⟩ := id f7
  have f70 := f69.ext o11.2
  obtain ⟨T71, X71, e71, st71⟩ := getF X66 hx hZ hown (host := "") (Or.inl (w 59 rfl)) Via.refl E66 f70 (g := (mkF m 26 #[lR r0, .val .null, lR b4_0, lV vI6, lV vI3, lR r6] [(.ref r6)])) rfl rfl (hb hby d8_26)
  have f73 := f72.ext o11.2
  have f75 := f74.ext o11.2
  have f77 := f76.ext o11.2
  have f79 := f78.ext o11.2
  obtain ⟨cqq82, kqq82, qq82a, qq82b, qq82c⟩ := isOf hZ e71 f73
  obtain ⟨_, T81, Lc81, X81, hQ81, st81⟩ := own_fin (X71.virtualBack hx (y := mN1) (z := mN1) hown (mvT hZ (w 61 rfl)) (mvT hZ (w 62 rfl)) (notFace_of_selects (args := #[]) (mvT hZ (w 64 rfl))) (mvT hZ (w 64 rfl)) (mvT hZ (w 63 rfl)) (by decide) (own_strEq hZ hw (w 5 rfl) (bs := [(102 : Int32), (54 : Int32), (52 : Int32)]) f73 f77 f75 f79 (own_ofLen (n := 3) (by decide) rfl) (Nat.le_of_ble_eq_true rfl) (ds := t15) f23 f27 f25 f29 hc30 hc31 f33 hc34 (r := 0) (n0 := n0) (Or.inr ⟨rfl, fun q => hc80 (Eq.symm q)⟩) (by decide) (by decide : 0 + 28 ≤ _)) qq82a qq82c (g := (mkF m 30 #[lR r0, .val .null, lR b4_0, lV vI6, lV vI3, lR r6] [(.ref r0), (.ref r23)])) rfl (by rw [hml]; rfl) (Steps.refl _) (argsL := [(.ref r0)]) (rest := []) (lenOf pd__Ljava_lang_Object__Z rfl) rfl (own_W rfl) (hb hby d8_30) (fun _ _ => ⟨rfl, e71, (by decide : 1 + 0 ≤ _), (by decide : 6 + 0 ≤ _)⟩))
  obtain ⟨rfl, N81q, E81⟩ := hQ81
  have N81 := Fr.app N66 N81q
  obtain ⟨clq83, Arq83, qq83, Sq83, Nq83, Hq83, Gq83⟩ := id f7
  have f85 := f84.ext o11.2
  obtain ⟨T86, X86, e86, st86⟩ := getF X81 hx hZ hown (host := "") (Or.inl (w 59 rfl)) Via.refl E81 f85 (g := (mkF m 26 #[lR r0, .val .null, lR b4_0, lV vI6, lV vI4, lR r7] [(.ref r7)])) rfl rfl (hb hby d8_26)
  have f88 := f87.ext o11.2
  have f90 := f89.ext o11.2
  have f92 := f91.ext o11.2
  have f94 := f93.ext o11.2
  obtain ⟨cqq97, kqq97, qq97a, qq97b, qq97c⟩ := isOf hZ e86 f88
  obtain ⟨_, T96, Lc96, X96, hQ96, st96⟩ := own_fin (X86.virtualBack hx (y := mN1) (z := mN1) hown (mvT hZ (w 61 rfl)) (mvT hZ (w 62 rfl)) (notFace_of_selects (args := #[]) (mvT hZ (w 64 rfl))) (mvT hZ (w 64 rfl)) (mvT hZ (w 63 rfl)) (by decide) (own_strEq hZ hw (w 5 rfl) (bs := [(116 : Int32), (101 : Int32), (120 : Int32), (116 : Int32)]) f88 f92 f90 f94 (own_ofLen (n := 4) (by decide) rfl) (Nat.le_of_ble_eq_true rfl) (ds := t15) f23 f27 f25 f29 hc30 hc31 f33 hc34 (r := 0) (n0 := n0) (Or.inr ⟨rfl, fun q => hc95 (Eq.symm q)⟩) (by decide) (by decide : 0 + 28 ≤ _)) qq97a qq97c (g := (mkF m 30 #[lR r0, .val .null, lR b4_0, lV vI6, lV vI4, lR r7] [(.ref r0), (.ref r26)])) rfl (by rw [hml]; rfl) (Steps.refl _) (argsL := [(.ref r0)]) (rest := []) (lenOf pd__Ljava_lang_Object__Z rfl) rfl (own_W rfl) (hb hby d8_30) (fun _ _ => ⟨rfl, e86, (by decide : 1 + 0 ≤ _), (by decide : 6 + 0 ≤ _)⟩))
  obtain ⟨rfl, N96q, E96⟩ := hQ96
  have N96 := Fr.app N81 N96q
  obtain ⟨clq98, Arq98, qq98, Sq98, Nq98, Hq98, Gq98⟩ := id f7
  have f100 := f99.ext o11.2
  obtain ⟨T101, X101, e101, st101⟩ := getF X96 hx hZ hown (host := "") (Or.inl (w 59 rfl)) Via.refl E96 f100 (g := (mkF m 26 #[lR r0, .val .null, lR b4_0, lV vI6, lV vI5, lR r8] [(.ref r8)])) rfl rfl (hb hby d8_26)
  have f103 := f102.ext o11.2
  have f105 := f104.ext o11.2
  have f107 := f106.ext o11.2
  have f109 := f108.ext o11.2
  obtain ⟨cqq112, kqq112, qq112a, qq112b, qq112c⟩ := isOf hZ e101 f103
  obtain ⟨_, T111, Lc111, X111, hQ111, st111⟩ := own_fin (X101.virtualBack hx (y := mN1) (z := mN1) hown (mvT hZ (w 61 rfl)) (mvT hZ (w 62 rfl)) (notFace_of_selects (args := #[]) (mvT hZ (w 64 rfl))) (mvT hZ (w 64 rfl)) (mvT hZ (w 63 rfl)) (by decide) (own_strEq hZ hw (w 5 rfl) (bs := [(103 : Int32), (117 : Int32), (105 : Int32), (100 : Int32)]) f103 f107 f105 f109 (own_ofLen (n := 4) (by decide) rfl) (Nat.le_of_ble_eq_true rfl) (ds := t15) f23 f27 f25 f29 hc30 hc31 f33 hc34 (r := 0) (n0 := n0) (Or.inr ⟨rfl, fun q => hc110 (Eq.symm q)⟩) (by decide) (by decide : 0 + 28 ≤ _)) qq112a qq112c (g := (mkF m 30 #[lR r0, .val .null, lR b4_0, lV vI6, lV vI5, lR r8] [(.ref r0), (.ref r29)])) rfl (by rw [hml]; rfl) (Steps.refl _) (argsL := [(.ref r0)]) (rest := []) (lenOf pd__Ljava_lang_Object__Z rfl) rfl (own_W rfl) (hb hby d8_30) (fun _ _ => ⟨rfl, e101, (by decide : 1 + 0 ≤ _), (by decide : 6 + 0 ≤ _)⟩))
  obtain ⟨rfl, N111q, E111⟩ := hQ111
  have N111 := Fr.app N96 N111q
  have kp113 : Keep h0 T4.heap [] := (Keep.refl h0 []).trans K4 all0
  refine ⟨some .null, _, _, _, _, nofun, X111, by decide, by decide, ?_, fun fs hr => ?_⟩
  · rw [E111]; exact ⟨rfl, N111, kp113⟩
  · show SG p e below s₁ (mkF m 0 #[lR r0, lU, lU, lU, lU, lU] []) _
    refine XS.aconstNull X0.here hx rfl (hb hby d8_0) ?_
    refine XS.astoreN X0.here hx rfl (hb hby d8_1) rfl rfl (l' := #[lR r0, .val .null, lU, lU, lU, lU]) rfl ?_
    refine st4 _ ?_
    show SG p e below T4 (mkF m 5 #[lR r0, .val .null, lU, lU, lU, lU] [(.ref b4_0)]) _
    refine XS.astoreN X4.here hx rfl (hb hby d8_5) rfl rfl (l' := #[lR r0, .val .null, lR b4_0, lU, lU, lU]) rfl ?_
    refine qaN X4 hx hby d8_6 ?_
    refine X4.arraylength hx (Arq8.1) (State.isArrayOf_alike hZ.alike Arq8.2.1) (g := (mkF m 7 #[lR r0, .val .null, lR b4_0, lU, lU, lU] [(.ref b4_0)])) rfl rfl (hb hby d8_7) _ ?_
    rw [len_of Sq8 Nq8]
    show SG p e below T4 (mkF m 8 #[lR r0, .val .null, lR b4_0, lU, lU, lU] [vI6]) _
    refine XS.istoreN X4.here hx rfl (hb hby d8_8) rfl (l' := #[lR r0, .val .null, lR b4_0, lV vI6, lU, lU]) rfl ?_
    refine qc X4 hx hby d8_9 ?_
    refine XS.istore X4.here hx rfl (hb hby d8_10) rfl (l' := #[lR r0, .val .null, lR b4_0, lV vI6, lV vI0, lU]) rfl ?_
    refine qi X4 hx hby d8_12 ?_
    refine qiN X4 hx hby d8_14 ?_
    refine XS.icmpNo X4.here hx rfl (hb hby d8_15) rfl (tlt (by decide : (0 : Int32) < (6 : Int32))).2.1 ?_
    refine qaN X4 hx hby d8_18 ?_
    refine qi X4 hx hby d8_19 ?_
    show SG p e below T4 (mkF m 21 #[lR r0, .val .null, lR b4_0, lV vI6, lV vI0, lU] [vI0, (.ref b4_0)]) _
    refine X4.aaload hx (j := (0 : Int32)) (v := (.ref r3)) (Arq9.1) (State.isArrayOf_alike hZ.alike Arq9.2.1) rfl Arq9.2.2 (inb_of Sq9 ⟨(by decide : ¬ ((0 : Int32) < (0 : Int32))), (by decide : (0 : Int32) < (6 : Int32))⟩) (Has.at Hq9 (inb_of Sq9 ⟨(by decide : ¬ ((0 : Int32) < (0 : Int32))), (by decide : (0 : Int32) < (6 : Int32))⟩) rfl) (g := (mkF m 21 #[lR r0, .val .null, lR b4_0, lV vI6, lV vI0, lU] [vI0, (.ref b4_0)])) rfl rfl (hb hby d8_21) _ ?_
    show SG p e below T4 (mkF m 22 #[lR r0, .val .null, lR b4_0, lV vI6, lV vI0, lU] [(.ref r3)]) _
    refine XS.astore X4.here hx rfl (hb hby d8_22) rfl rfl (l' := #[lR r0, .val .null, lR b4_0, lV vI6, lV vI0, lR r3]) rfl ?_
    refine qa X4 hx hby d8_24 ?_
    refine st13 _ ?_
    show SG p e below T13 (mkF m 29 #[lR r0, .val .null, lR b4_0, lV vI6, lV vI0, lR r3] [(.ref r9)]) _
    refine qaN X13 hx hby d8_29 ?_
    refine st36.trans ?_
    show SG p e below T36 (mkF m 33 #[lR r0, .val .null, lR b4_0, lV vI6, lV vI0, lR r3] [vI0]) _
    refine XS.ifYes X36.here hx rfl (pc0 := 33) (pc' := 39) rfl (hb hby d8_33) rfl ((if0 _ _).trans (teq (rfl : (0 : Int32) = (0 : Int32))).1) (by decide) (by decide) ?_
    show SG p e below T36 (mkF m 39 #[lR r0, .val .null, lR b4_0, lV vI6, lV vI0, lR r3] []) _
    refine XS.iinc X36.here hx rfl (hb hby d8_39) rfl (l' := #[lR r0, .val .null, lR b4_0, lV vI6, lV vI1, lR r3]) rfl ?_
    refine XS.goto X36.here hx rfl (pc0 := 42) (pc' := 12) rfl (hb hby d8_42) (by decide) (by decide) ?_
    show SG p e below T36 (mkF m 12 #[lR r0, .val .null, lR b4_0, lV vI6, lV vI1, lR r3] []) _
    refine qi X36 hx hby d8_12 ?_
    refine qiN X36 hx hby d8_14 ?_
    refine XS.icmpNo X36.here hx rfl (hb hby d8_15) rfl (tlt (by decide : (1 : Int32) < (6 : Int32))).2.1 ?_
    refine qaN X36 hx hby d8_18 ?_
    refine qi X36 hx hby d8_19 ?_
    refine X36.aaload hx (j := (1 : Int32)) (v := (.ref r4)) (by rw [E36]; exact Arq38.1) (State.isArrayOf_alike hZ.alike Arq38.2.1) rfl Arq38.2.2 (inb_of Sq38 ⟨(by decide : ¬ ((1 : Int32) < (0 : Int32))), (by decide : (1 : Int32) < (6 : Int32))⟩) (Has.at Hq38 (inb_of Sq38 ⟨(by decide : ¬ ((1 : Int32) < (0 : Int32))), (by decide : (1 : Int32) < (6 : Int32))⟩) rfl) (g := (mkF m 21 #[lR r0, .val .null, lR b4_0, lV vI6, lV vI1, lR r3] [vI1, (.ref b4_0)])) rfl rfl (hb hby d8_21) _ ?_
    show SG p e below T36 (mkF m 22 #[lR r0, .val .null, lR b4_0, lV vI6, lV vI1, lR r3] [(.ref r4)]) _
    refine XS.astore X36.here hx rfl (hb hby d8_22) rfl rfl (l' := #[lR r0, .val .null, lR b4_0, lV vI6, lV vI1, lR r4]) rfl ?_
    refine qa X36 hx hby d8_24 ?_
    refine st41 _ ?_
    show SG p e below T41 (mkF m 29 #[lR r0, .val .null, lR b4_0, lV vI6, lV vI1, lR r4] [(.ref r17)]) _
    refine qaN X41 hx hby d8_29 ?_
    refine st51.trans ?_
    show SG p e below T51 (mkF m 33 #[lR r0, .val .null, lR b4_0, lV vI6, lV vI1, lR r4] [vI0]) _
    refine XS.ifYes X51.here hx rfl (pc0 := 33) (pc' := 39) rfl (hb hby d8_33) rfl ((if0 _ _).trans (teq (rfl : (0 : Int32) = (0 : Int32))).1) (by decide) (by decide) ?_
    show SG p e below T51 (mkF m 39 #[lR r0, .val .null, lR b4_0, lV vI6, lV vI1, lR r4] []) _
    refine XS.iinc X51.here hx rfl (hb hby d8_39) rfl (l' := #[lR r0, .val .null, lR b4_0, lV vI6, lV vI2, lR r4]) rfl ?_
    refine XS.goto X51.here hx rfl (pc0 := 42) (pc' := 12) rfl (hb hby d8_42) (by decide) (by decide) ?_
    show SG p e below T51 (mkF m 12 #[lR r0, .val .null, lR b4_0, lV vI6, lV vI2, lR r4] []) _
    refine qi X51 hx hby d8_12 ?_
    refine qiN X51 hx hby d8_14 ?_
    refine XS.icmpNo X51.here hx rfl (hb hby d8_15) rfl (tlt (by decide : (2 : Int32) < (6 : Int32))).2.1 ?_
    refine qaN X51 hx hby d8_18 ?_
    refine qi X51 hx hby d8_19 ?_
    refine X51.aaload hx (j := (2 : Int32)) (v := (.ref r5)) (by rw [E51]; exact Arq53.1) (State.isArrayOf_alike hZ.alike Arq53.2.1) rfl Arq53.2.2 (inb_of Sq53 ⟨(by decide : ¬ ((2 : Int32) < (0 : Int32))), (by decide : (2 : Int32) < (6 : Int32))⟩) (Has.at Hq53 (inb_of Sq53 ⟨(by decide : ¬ ((2 : Int32) < (0 : Int32))), (by decide : (2 : Int32) < (6 : Int32))⟩) rfl) (g := (mkF m 21 #[lR r0, .val .null, lR b4_0, lV vI6, lV vI2, lR r4] [vI2, (.ref b4_0)])) rfl rfl (hb hby d8_21) _ ?_
    show SG p e below T51 (mkF m 22 #[lR r0, .val .null, lR b4_0, lV vI6, lV vI2, lR r4] [(.ref r5)]) _
    refine XS.astore X51.here hx rfl (hb hby d8_22) rfl rfl (l' := #[lR r0, .val .null, lR b4_0, lV vI6, lV vI2, lR r5]) rfl ?_
    refine qa X51 hx hby d8_24 ?_
    refine st56 _ ?_
    show SG p e below T56 (mkF m 29 #[lR r0, .val .null, lR b4_0, lV vI6, lV vI2, lR r5] [(.ref r20)]) _
    refine qaN X56 hx hby d8_29 ?_
    refine st66.trans ?_
    show SG p e below T66 (mkF m 33 #[lR r0, .val .null, lR b4_0, lV vI6, lV vI2, lR r5] [vI0]) _
    refine XS.ifYes X66.here hx rfl (pc0 := 33) (pc' := 39) rfl (hb hby d8_33) rfl ((if0 _ _).trans (teq (rfl : (0 : Int32) = (0 : Int32))).1) (by decide) (by decide) ?_
    show SG p e below T66 (mkF m 39 #[lR r0, .val .null, lR b4_0, lV vI6, lV vI2, lR r5] []) _
    refine XS.iinc X66.here hx rfl (hb hby d8_39) rfl (l' := #[lR r0, .val .null, lR b4_0, lV vI6, lV vI3, lR r5]) rfl ?_
    refine XS.goto X66.here hx rfl (pc0 := 42) (pc' := 12) rfl (hb hby d8_42) (by decide) (by decide) ?_
    show SG p e below T66 (mkF m 12 #[lR r0, .val .null, lR b4_0, lV vI6, lV vI3, lR r5] []) _
    refine qi X66 hx hby d8_12 ?_
    refine qiN X66 hx hby d8_14 ?_
    refine XS.icmpNo X66.here hx rfl (hb hby d8_15) rfl (tlt (by decide : (3 : Int32) < (6 : Int32))).2.1 ?_
    refine qaN X66 hx hby d8_18 ?_
    refine qi X66 hx hby d8_19 ?_
    refine X66.aaload hx (j := (3 : Int32)) (v := (.ref r6)) (by rw [E66]; exact Arq68.1) (State.isArrayOf_alike hZ.alike Arq68.2.1) rfl Arq68.2.2 (inb_of Sq68 ⟨(by decide : ¬ ((3 : Int32) < (0 : Int32))), (by decide : (3 : Int32) < (6 : Int32))⟩) (Has.at Hq68 (inb_of Sq68 ⟨(by decide : ¬ ((3 : Int32) < (0 : Int32))), (by decide : (3 : Int32) < (6 : Int32))⟩) rfl) (g := (mkF m 21 #[lR r0, .val .null, lR b4_0, lV vI6, lV vI3, lR r5] [vI3, (.ref b4_0)])) rfl rfl (hb hby d8_21) _ ?_
    show SG p e below T66 (mkF m 22 #[lR r0, .val .null, lR b4_0, lV vI6, lV vI3, lR r5] [(.ref r6)]) _
    refine XS.astore X66.here hx rfl (hb hby d8_22) rfl rfl (l' := #[lR r0, .val .null, lR b4_0, lV vI6, lV vI3, lR r6]) rfl ?_
    refine qa X66 hx hby d8_24 ?_
    refine st71 _ ?_
    show SG p e below T71 (mkF m 29 #[lR r0, .val .null, lR b4_0, lV vI6, lV vI3, lR r6] [(.ref r23)]) _
    refine qaN X71 hx hby d8_29 ?_
    refine st81.trans ?_
    show SG p e below T81 (mkF m 33 #[lR r0, .val .null, lR b4_0, lV vI6, lV vI3, lR r6] [vI0]) _
    refine XS.ifYes X81.here hx rfl (pc0 := 33) (pc' := 39) rfl (hb hby d8_33) rfl ((if0 _ _).trans (teq (rfl : (0 : Int32) = (0 : Int32))).1) (by decide) (by decide) ?_
    show SG p e below T81 (mkF m 39 #[lR r0, .val .null, lR b4_0, lV vI6, lV vI3, lR r6] []) _
    refine XS.iinc X81.here hx rfl (hb hby d8_39) rfl (l' := #[lR r0, .val .null, lR b4_0, lV vI6, lV vI4, lR r6]) rfl ?_
    refine XS.goto X81.here hx rfl (pc0 := 42) (pc' := 12) rfl (hb hby d8_42) (by decide) (by decide) ?_
    show SG p e below T81 (mkF m 12 #[lR r0, .val .null, lR b4_0, lV vI6, lV vI4, lR r6] []) _
    refine qi X81 hx hby d8_12 ?_
    refine qiN X81 hx hby d8_14 ?_
    refine XS.icmpNo X81.here hx rfl (hb hby d8_15) rfl (tlt (by decide : (4 : Int32) < (6 : Int32))).2.1 ?_
    refine qaN X81 hx hby d8_18 ?_
    refine qi X81 hx hby d8_19 ?_
    refine X81.aaload hx (j := (4 : Int32)) (v := (.ref r7)) (by rw [E81]; exact Arq83.1) (State.isArrayOf_alike hZ.alike Arq83.2.1) rfl Arq83.2.2 (inb_of Sq83 ⟨(by decide : ¬ ((4 : Int32) < (0 : Int32))), (by decide : (4 : Int32) < (6 : Int32))⟩) (Has.at Hq83 (inb_of Sq83 ⟨(by decide : ¬ ((4 : Int32) < (0 : Int32))), (by decide : (4 : Int32) < (6 : Int32))⟩) rfl) (g := (mkF m 21 #[lR r0, .val .null, lR b4_0, lV vI6, lV vI4, lR r6] [vI4, (.ref b4_0)])) rfl rfl (hb hby d8_21) _ ?_
    show SG p e below T81 (mkF m 22 #[lR r0, .val .null, lR b4_0, lV vI6, lV vI4, lR r6] [(.ref r7)]) _
    refine XS.astore X81.here hx rfl (hb hby d8_22) rfl rfl (l' := #[lR r0, .val .null, lR b4_0, lV vI6, lV vI4, lR r7]) rfl ?_
    refine qa X81 hx hby d8_24 ?_
    refine st86 _ ?_
    show SG p e below T86 (mkF m 29 #[lR r0, .val .null, lR b4_0, lV vI6, lV vI4, lR r7] [(.ref r26)]) _
    refine qaN X86 hx hby d8_29 ?_
    refine st96.trans ?_
    show SG p e below T96 (mkF m 33 #[lR r0, .val .null, lR b4_0, lV vI6, lV vI4, lR r7] [vI0]) _
    refine XS.ifYes X96.here hx rfl (pc0 := 33) (pc' := 39) rfl (hb hby d8_33) rfl ((if0 _ _).trans (teq (rfl : (0 : Int32) = (0 : Int32))).1) (by decide) (by decide) ?_
    show SG p e below T96 (mkF m 39 #[lR r0, .val .null, lR b4_0, lV vI6, lV vI4, lR r7] []) _
    refine XS.iinc X96.here hx rfl (hb hby d8_39) rfl (l' := #[lR r0, .val .null, lR b4_0, lV vI6, lV vI5, lR r7]) rfl ?_
    refine XS.goto X96.here hx rfl (pc0 := 42) (pc' := 12) rfl (hb hby d8_42) (by decide) (by decide) ?_
    show SG p e below T96 (mkF m 12 #[lR r0, .val .null, lR b4_0, lV vI6, lV vI5, lR r7] []) _
    refine qi X96 hx hby d8_12 ?_
    refine qiN X96 hx hby d8_14 ?_
    refine XS.icmpNo X96.here hx rfl (hb hby d8_15) rfl (tlt (by decide : (5 : Int32) < (6 : Int32))).2.1 ?_
    refine qaN X96 hx hby d8_18 ?_
    refine qi X96 hx hby d8_19 ?_
    refine X96.aaload hx (j := (5 : Int32)) (v := (.ref r8)) (by rw [E96]; exact Arq98.1) (State.isArrayOf_alike hZ.alike Arq98.2.1) rfl Arq98.2.2 (inb_of Sq98 ⟨(by decide : ¬ ((5 : Int32) < (0 : Int32))), (by decide : (5 : Int32) < (6 : Int32))⟩) (Has.at Hq98 (inb_of Sq98 ⟨(by decide : ¬ ((5 : Int32) < (0 : Int32))), (by decide : (5 : Int32) < (6 : Int32))⟩) rfl) (g := (mkF m 21 #[lR r0, .val .null, lR b4_0, lV vI6, lV vI5, lR r7] [vI5, (.ref b4_0)])) rfl rfl (hb hby d8_21) _ ?_
    show SG p e below T96 (mkF m 22 #[lR r0, .val .null, lR b4_0, lV vI6, lV vI5, lR r7] [(.ref r8)]) _
    refine XS.astore X96.here hx rfl (hb hby d8_22) rfl rfl (l' := #[lR r0, .val .null, lR b4_0, lV vI6, lV vI5, lR r8]) rfl ?_
    refine qa X96 hx hby d8_24 ?_
    refine st101 _ ?_
    show SG p e below T101 (mkF m 29 #[lR r0, .val .null, lR b4_0, lV vI6, lV vI5, lR r8] [(.ref r29)]) _
    refine qaN X101 hx hby d8_29 ?_
    refine st111.trans ?_
    show SG p e below T111 (mkF m 33 #[lR r0, .val .null, lR b4_0, lV vI6, lV vI5, lR r8] [vI0]) _
    refine XS.ifYes X111.here hx rfl (pc0 := 33) (pc' := 39) rfl (hb hby d8_33) rfl ((if0 _ _).trans (teq (rfl : (0 : Int32) = (0 : Int32))).1) (by decide) (by decide) ?_
    show SG p e below T111 (mkF m 39 #[lR r0, .val .null, lR b4_0, lV vI6, lV vI5, lR r8] []) _
    refine XS.iinc X111.here hx rfl (hb hby d8_39) rfl (l' := #[lR r0, .val .null, lR b4_0, lV vI6, lV vI6, lR r8]) rfl ?_
    refine XS.goto X111.here hx rfl (pc0 := 42) (pc' := 12) rfl (hb hby d8_42) (by decide) (by decide) ?_
    show SG p e below T111 (mkF m 12 #[lR r0, .val .null, lR b4_0, lV vI6, lV vI6, lR r8] []) _
    refine qi X111 hx hby d8_12 ?_
    refine qiN X111 hx hby d8_14 ?_
    refine XS.icmpYes X111.here hx rfl (pc0 := 15) (pc' := 45) rfl (hb hby d8_15) rfl (flt (by decide : ¬ ((6 : Int32) < (6 : Int32)))).2.1 (by decide) (by decide) ?_
    show SG p e below T111 (mkF m 45 #[lR r0, .val .null, lR b4_0, lV vI6, lV vI6, lR r8] []) _
    refine qaN X111 hx hby d8_45 ?_
    exact retOut X111 hx (i := .areturn) hret rfl (Or.inr (Or.inr (Or.inr (Or.inr ⟨rfl, rfl, rfl⟩)))) (hb hby d8_46) hr
def Q8_9 (Z : State) (r0 r1 : Addr) (c2 : ClassId) (x3 : Int32) (t4 : List Int32) (r5 : Addr) (c6 : ClassId) (r7 r8 : Addr) (r9 r10 : Addr) (r11 r12 : Addr) (r13 r14 : Addr) (c15 : ClassId) (x16 : Int32) (r17 r18 : Addr) (c19 : ClassId) (r20 r21 : Addr) (c22 : ClassId) (r23 r24 : Addr) (c25 : ClassId) (r26 r27 : Addr) (c28 : ClassId) (r29 r30 : Addr) (c31 : ClassId) (h0 : Heap) (n0 : Nat) (v : Option Value) (h : Heap) (L : List Loc) : Prop := v = some (own_lab t4 r7 r8 r9 r10 r11 r12) ∧ Fr n0 L ∧ Keep h0 h []
theorem rm8_9 (l : Launch) (Z : State) (a0 : Array Value) (hw : own_HW a0 Z) (ws : List Jvm.Cond) (r0 r1 : Addr) (c2 : ClassId) (x3 : Int32) (t4 : List Int32) (r5 : Addr) (c6 : ClassId) (r7 r8 : Addr) (r9 r10 : Addr) (r11 r12 : Addr) (r13 r14 : Addr) (c15 : ClassId) (x16 : Int32) (r17 r18 : Addr) (c19 : ClassId) (r20 r21 : Addr) (c22 : ClassId) (r23 r24 : Addr) (c25 : ClassId) (r26 r27 : Addr) (c28 : ClassId) (r29 r30 : Addr) (c31 : ClassId) (h0 : Heap) (n0 : Nat) (O0 : Old Z n0 h0) (f1 : Fld Z h0 r0 "java/lang/String" "value" "[B" (.ref r1)) (f2 : Arv Z h0 r1 c2 .byte x3 (t4.map Value.int) vI0) (f3 : Sta Z Z.heap cs0 "$VALUES" cs1 (.ref r5)) (f4 : Exa Z Z.heap r5 cs1) (f5 : Arv Z Z.heap r5 c6 (.object cs0) (6 : Int32) [(.ref r7), (.ref r8), (.ref r9), (.ref r10), (.ref r11), (.ref r12)] .null) (f6 : Fld Z Z.heap r7 cs0 "label" "Ljava/lang/String;" (.ref r13)) (f7 : Exa Z Z.heap r13 "java/lang/String") (f8 : Fld Z Z.heap r13 "java/lang/String" "coder" "B" vI0) (f9 : Fld Z Z.heap r13 "java/lang/String" "value" "[B" (.ref r14)) (f10 : Arv Z Z.heap r14 c15 .byte (3 : Int32) [vI105, vI51, vI50] vI0) (f11 : Exa Z h0 r0 "java/lang/String") (f12 : Fld Z h0 r0 "java/lang/String" "coder" "B" vI0) (hc13 : x3 = Int32.ofNat t4.length) (hc14 : t4.length ≤ 4000) (f15 : Sta Z Z.heap "java/lang/String" "COMPACT_STRINGS" "Z" (.int x16)) (hc16 : ¬ (x16 = (0 : Int32))) (f17 : Fld Z Z.heap r8 cs0 "label" "Ljava/lang/String;" (.ref r17)) (f18 : Exa Z Z.heap r17 "java/lang/String") (f19 : Fld Z Z.heap r17 "java/lang/String" "coder" "B" vI0) (f20 : Fld Z Z.heap r17 "java/lang/String" "value" "[B" (.ref r18)) (f21 : Arv Z Z.heap r18 c19 .byte (3 : Int32) [vI117, vI51, vI50] vI0) (f22 : Fld Z Z.heap r9 cs0 "label" "Ljava/lang/String;" (.ref r20)) (f23 : Exa Z Z.heap r20 "java/lang/String") (f24 : Fld Z Z.heap r20 "java/lang/String" "coder" "B" vI0) (f25 : Fld Z Z.heap r20 "java/lang/String" "value" "[B" (.ref r21)) (f26 : Arv Z Z.heap r21 c22 .byte (3 : Int32) [vI102, vI51, vI50] vI0) (f27 : Fld Z Z.heap r10 cs0 "label" "Ljava/lang/String;" (.ref r23)) (f28 : Exa Z Z.heap r23 "java/lang/String") (f29 : Fld Z Z.heap r23 "java/lang/String" "coder" "B" vI0) (f30 : Fld Z Z.heap r23 "java/lang/String" "value" "[B" (.ref r24)) (f31 : Arv Z Z.heap r24 c25 .byte (3 : Int32) [vI102, vI54, vI52] vI0) (f32 : Fld Z Z.heap r11 cs0 "label" "Ljava/lang/String;" (.ref r26)) (f33 : Exa Z Z.heap r26 "java/lang/String") (f34 : Fld Z Z.heap r26 "java/lang/String" "coder" "B" vI0) (f35 : Fld Z Z.heap r26 "java/lang/String" "value" "[B" (.ref r27)) (f36 : Arv Z Z.heap r27 c28 .byte (4 : Int32) [vI116, vI101, vI120, vI116] vI0) (f37 : Fld Z Z.heap r12 cs0 "label" "Ljava/lang/String;" (.ref r29)) (f38 : Exa Z Z.heap r29 "java/lang/String") (f39 : Fld Z Z.heap r29 "java/lang/String" "coder" "B" vI0) (f40 : Fld Z Z.heap r29 "java/lang/String" "value" "[B" (.ref r30)) (f41 : Arv Z Z.heap r30 c31 .byte (4 : Int32) [vI103, vI117, vI105, vI100] vI0) :
    MetFree l mN2 (head1 (Jvm.Cond.code mN2 prog_72_method_8_code 6 (some (.object cs0)) :: ws) rR2_1_6_28) (fun a U => a = #[(.ref r0)] ∧ Z.Warmed39 U.vm ∧ U.heap = h0) (fun _ _ _ _ _ => True) (fun _ U o U' => ∃ v L, o = .returned v ∧ Q8_9 Z r0 r1 c2 x3 t4 r5 c6 r7 r8 r9 r10 r11 r12 r13 r14 c15 x16 r17 r18 c19 r20 r21 c22 r23 r24 c25 r26 r27 c28 r29 r30 c31 h0 n0 v U'.heap L ∧ FrameEnd U o U' L rR2_1_6_28.cells rR2_1_6_28.slots) := by
  intro p e ha hc hk s m args below hf happ hP hK
  by_cases hl0 : t4 = [(105 : Int32), (51 : Int32), (50 : Int32)]
  · obtain ⟨n, o, h1', h2', h3', v, L, rfl, hQ, hE⟩ := rm8_2 l Z a0 hw ws r0 r5 c6 r7 r8 r9 r10 r11 r12 r13 r14 c15 r1 c2 x3 t4 x16 r17 r18 c19 r20 r21 c22 r23 r24 c25 r26 r27 c28 r29 r30 c31 h0 n0 O0 f3 f4 f5 f6 f7 f8 f9 f10 f11 f12 f1 f2 hc13 hc14 f15 hc16 hl0 f17 f18 f19 f20 f21 (fun q => absurd (hl0.symm.trans q) (by decide)) f22 f23 f24 f25 f26 (fun q => absurd (hl0.symm.trans q) (by decide)) f27 f28 f29 f30 f31 (fun q => absurd (hl0.symm.trans q) (by decide)) f32 f33 f34 f35 f36 (fun q => absurd (hl0.symm.trans q) (by decide)) f37 f38 f39 f40 f41 (fun q => absurd (hl0.symm.trans q) (by decide)) p e ha hc hk s m args below hf happ hP hK
    obtain ⟨rfl, N, K⟩ := hQ
    exact ⟨n, _, h1', h2', h3', _, L, rfl, ⟨by unfold own_lab; rw [if_pos hl0], N, K⟩, hE⟩
  by_cases hl1 : t4 = [(117 : Int32), (51 : Int32), (50 : Int32)]
  · obtain ⟨n, o, h1', h2', h3', v, L, rfl, hQ, hE⟩ := rm8_3 l Z a0 hw ws r0 r5 c6 r7 r8 r9 r10 r11 r12 r13 r14 c15 r1 c2 x3 t4 x16 r17 r18 c19 r20 r21 c22 r23 r24 c25 r26 r27 c28 r29 r30 c31 h0 n0 O0 f3 f4 f5 f6 f7 f8 f9 f10 f11 f12 f1 f2 hc13 hc14 f15 hc16 (fun q => absurd (hl1.symm.trans q) (by decide)) f17 f18 f19 f20 f21 hl1 f22 f23 f24 f25 f26 (fun q => absurd (hl1.symm.trans q) (by decide)) f27 f28 f29 f30 f31 (fun q => absurd (hl1.symm.trans q) (by decide)) f32 f33 f34 f35 f36 (fun q => absurd (hl1.symm.trans q) (by decide)) f37 f38 f39 f40 f41 (fun q => absurd (hl1.symm.trans q) (by decide)) p e ha hc hk s m args below hf happ hP hK
    obtain ⟨rfl, N, K⟩ := hQ
    exact ⟨n, _, h1', h2', h3', _, L, rfl, ⟨by unfold own_lab; rw [if_neg hl0, if_pos hl1], N, K⟩, hE⟩
  by_cases hl2 : t4 = [(102 : Int32), (51 : Int32), (50 : Int32)]
  · obtain ⟨n, o, h1', h2', h3', v, L, rfl, hQ, hE⟩ := rm8_4 l Z a0 hw ws r0 r5 c6 r7 r8 r9 r10 r11 r12 r13 r14 c15 r1 c2 x3 t4 x16 r17 r18 c19 r20 r21 c22 r23 r24 c25 r26 r27 c28 r29 r30 c31 h0 n0 O0 f3 f4 f5 f6 f7 f8 f9 f10 f11 f12 f1 f2 hc13 hc14 f15 hc16 (fun q => absurd (hl2.symm.trans q) (by decide)) f17 f18 f19 f20 f21 (fun q => absurd (hl2.symm.trans q) (by decide)) f22 f23 f24 f25 f26 hl2 f27 f28 f29 f30 f31 (fun q => absurd (hl2.symm.trans q) (by decide)) f32 f33 f34 f35 f36 (fun q => absurd (hl2.symm.trans q) (by decide)) f37 f38 f39 f40 f41 (fun q => absurd (hl2.symm.trans q) (by decide)) p e ha hc hk s m args below hf happ hP hK
    obtain ⟨rfl, N, K⟩ := hQ
    exact ⟨n, _, h1', h2', h3', _, L, rfl, ⟨by unfold own_lab; rw [if_neg hl0, if_neg hl1, if_pos hl2], N, K⟩, hE⟩
  by_cases hl3 : t4 = [(102 : Int32), (54 : Int32), (52 : Int32)]
  · obtain ⟨n, o, h1', h2', h3', v, L, rfl, hQ, hE⟩ := rm8_5 l Z a0 hw ws r0 r5 c6 r7 r8 r9 r10 r11 r12 r13 r14 c15 r1 c2 x3 t4 x16 r17 r18 c19 r20 r21 c22 r23 r24 c25 r26 r27 c28 r29 r30 c31 h0 n0 O0 f3 f4 f5 f6 f7 f8 f9 f10 f11 f12 f1 f2 hc13 hc14 f15 hc16 (fun q => absurd (hl3.symm.trans q) (by decide)) f17 f18 f19 f20 f21 (fun q => absurd (hl3.symm.trans q) (by decide)) f22 f23 f24 f25 f26 (fun q => absurd (hl3.symm.trans q) (by decide)) f27 f28 f29 f30 f31 hl3 f32 f33 f34 f35 f36 (fun q => absurd (hl3.symm.trans q) (by decide)) f37 f38 f39 f40 f41 (fun q => absurd (hl3.symm.trans q) (by decide)) p e ha hc hk s m args below hf happ hP hK
    obtain ⟨rfl, N, K⟩ := hQ
    exact ⟨n, _, h1', h2', h3', _, L, rfl, ⟨by unfold own_lab; rw [if_neg hl0, if_neg hl1, if_neg hl2, if_pos hl3], N, K⟩, hE⟩
  by_cases hl4 : t4 = [(116 : Int32), (101 : Int32), (120 : Int32), (116 : Int32)]
  · obtain ⟨n, o, h1', h2', h3', v, L, rfl, hQ, hE⟩ := rm8_6 l Z a0 hw ws r0 r5 c6 r7 r8 r9 r10 r11 r12 r13 r14 c15 r1 c2 x3 t4 x16 r17 r18 c19 r20 r21 c22 r23 r24 c25 r26 r27 c28 r29 r30 c31 h0 n0 O0 f3 f4 f5 f6 f7 f8 f9 f10 f11 f12 f1 f2 hc13 hc14 f15 hc16 (fun q => absurd (hl4.symm.trans q) (by decide)) f17 f18 f19 f20 f21 (fun q => absurd (hl4.symm.trans q) (by decide)) f22 f23 f24 f25 f26 (fun q => absurd (hl4.symm.trans q) (by decide)) f27 f28 f29 f30 f31 (fun q => absurd (hl4.symm.trans q) (by decide)) f32 f33 f34 f35 f36 hl4 f37 f38 f39 f40 f41 (fun q => absurd (hl4.symm.trans q) (by decide)) p e ha hc hk s m args below hf happ hP hK
    obtain ⟨rfl, N, K⟩ := hQ
    exact ⟨n, _, h1', h2', h3', _, L, rfl, ⟨by unfold own_lab; rw [if_neg hl0, if_neg hl1, if_neg hl2, if_neg hl3, if_pos hl4], N, K⟩, hE⟩
  by_cases hl5 : t4 = [(103 : Int32), (117 : Int32), (105 : Int32), (100 : Int32)]
  · obtain ⟨n, o, h1', h2', h3', v, L, rfl, hQ, hE⟩ := rm8_7 l Z a0 hw ws r0 r5 c6 r7 r8 r9 r10 r11 r12 r13 r14 c15 r1 c2 x3 t4 x16 r17 r18 c19 r20 r21 c22 r23 r24 c25 r26 r27 c28 r29 r30 c31 h0 n0 O0 f3 f4 f5 f6 f7 f8 f9 f10 f11 f12 f1 f2 hc13 hc14 f15 hc16 (fun q => absurd (hl5.symm.trans q) (by decide)) f17 f18 f19 f20 f21 (fun q => absurd (hl5.symm.trans q) (by decide)) f22 f23 f24 f25 f26 (fun q => absurd (hl5.symm.trans q) (by decide)) f27 f28 f29 f30 f31 (fun q => absurd (hl5.symm.trans q) (by decide)) f32 f33 f34 f35 f36 (fun q => absurd (hl5.symm.trans q) (by decide)) f37 f38 f39 f40 f41 hl5 p e ha hc hk s m args below hf happ hP hK
    obtain ⟨rfl, N, K⟩ := hQ
    exact ⟨n, _, h1', h2', h3', _, L, rfl, ⟨by unfold own_lab; rw [if_neg hl0, if_neg hl1, if_neg hl2, if_neg hl3, if_neg hl4, if_pos hl5], N, K⟩, hE⟩
  · obtain ⟨n, o, h1', h2', h3', v, L, rfl, hQ, hE⟩ := rm8_8 l Z a0 hw ws r0 r5 c6 r7 r8 r9 r10 r11 r12 r13 r14 c15 r1 c2 x3 t4 x16 r17 r18 c19 r20 r21 c22 r23 r24 c25 r26 r27 c28 r29 r30 c31 h0 n0 O0 f3 f4 f5 f6 f7 f8 f9 f10 f11 f12 f1 f2 hc13 hc14 f15 hc16 hl0 f17 f18 f19 f20 f21 hl1 f22 f23 f24 f25 f26 hl2 f27 f28 f29 f30 f31 hl3 f32 f33 f34 f35 f36 hl4 f37 f38 f39 f40 f41 hl5 p e ha hc hk s m args below hf happ hP hK
    obtain ⟨rfl, N, K⟩ := hQ
    exact ⟨n, _, h1', h2', h3', _, L, rfl, ⟨by unfold own_lab; rw [if_neg hl0, if_neg hl1, if_neg hl2, if_neg hl3, if_neg hl4, if_neg hl5], N, K⟩, hE⟩
theorem d12_0 : DK cB12 0 (.iload_n 0) 1 := by decide +kernel
theorem d12_1 : DK cB12 1 (.ifCond .ne 7) 3 := by decide +kernel
theorem d12_4 : DK cB12 4 (.getstatic 40) 3 := by decide +kernel
theorem d12_7 : DK cB12 7 (.areturn) 1 := by decide +kernel
def Q12_1 (Z : State) (r0 : Addr) (h0 : Heap) (n0 : Nat) (v : Option Value) (h : Heap) (L : List Loc) : Prop := v = some (.ref r0) ∧ Fr n0 L ∧ h = h0
theorem rm12_1 (l : Launch) (Z : State) (a0 : Array Value) (hw : own_HW a0 Z) (ws : List Jvm.Cond) (r0 : Addr) (h0 : Heap) (n0 : Nat) (O0 : Old Z n0 h0) (f1 : Sta Z Z.heap cs0 "I32" cs4 (.ref r0)) :
    own_MF l mN5 method_5_code 1 (some (.object cs0)) ws rR0_0_0_0 Z h0 #[vI0] (Q12_1 Z r0 h0 n0) := by
  refine own_open (plainFor_of_name pn_com_example_wiregather_wiregather_wire_FieldTypeOfLabelPinLaw) (L0 := #[lV vI0]) (fun _ => by first | (simp [entryFrame, mkF, argsToLocals, Value.category]; done) | rfl) ?_
  intro p e s m below meth c s₁ hx hby hml hret hnn hZ hown X0 e0
  have N0 := Fr.nil n0
  have f2 := f1.ext O0.2
  obtain ⟨T3, X3, e3, st3⟩ := getS2 X0 hx hZ hown (host := "") (Or.inl (ww hw 74 rfl)) Via.refl e0 f2 (g := (mkF m 4 #[lV vI0] [])) rfl (hb hby d12_4)
  refine ⟨some (.ref r0), _, _, _, _, nofun, X3, by decide, by decide, ?_, fun fs hr => ?_⟩
  · rw [e3]; exact ⟨rfl, N0, rfl⟩
  · show SG p e below s₁ (mkF m 0 #[lV vI0] []) _
    refine qiN X0 hx hby d12_0 ?_
    refine XS.ifNo X0.here hx rfl (hb hby d12_1) rfl ((if0 _ _).trans (teq (rfl : (0 : Int32) = (0 : Int32))).2) ?_
    refine st3 _ ?_
    show SG p e below T3 (mkF m 7 #[lV vI0] [(.ref r0)]) _
    exact retOut X3 hx (i := .areturn) hret rfl (Or.inr (Or.inr (Or.inr (Or.inr ⟨rfl, rfl, rfl⟩)))) (hb hby d12_7) hr
theorem pd__I_Lcom_example_wiregather_wiregather_wire_FieldType_ : parseMethodDescriptor cs5 = some ⟨[.int], some (.object cs0)⟩ := by decide +kernel
def Q0_2 (Z : State) (x0 x1 : Int32) (x2 x3 : Int32) (x4 x5 : Int32) (r6 : Addr) (c7 : ClassId) (r8 r9 : Addr) (r10 r11 : Addr) (r12 r13 : Addr) (r14 r15 : Addr) (c16 : ClassId) (r17 r18 : Addr) (c19 : ClassId) (r20 r21 : Addr) (c22 : ClassId) (r23 r24 : Addr) (c25 : ClassId) (r26 r27 : Addr) (c28 : ClassId) (r29 r30 : Addr) (c31 : ClassId) (h0 : Heap) (n0 : Nat) (v : Option Value) (h : Heap) (L : List Loc) : Prop := v = some vI1 ∧ Fr n0 L
theorem rm0_2 (l : Launch) (Z : State) (a0 : Array Value) (hw : own_HW a0 Z) (ws : List Jvm.Cond) (x0 x1 : Int32) (x2 x3 : Int32) (x4 x5 : Int32) (r6 : Addr) (c7 : ClassId) (r8 r9 : Addr) (r10 r11 : Addr) (r12 r13 : Addr) (r14 r15 : Addr) (c16 : ClassId) (r17 r18 : Addr) (c19 : ClassId) (r20 r21 : Addr) (c22 : ClassId) (r23 r24 : Addr) (c25 : ClassId) (r26 r27 : Addr) (c28 : ClassId) (r29 r30 : Addr) (c31 : ClassId) (h0 : Heap) (n0 : Nat) (O0 : Old Z n0 h0) (hc2 : ¬ ((x0 &&& (3 : Int32)) = (3 : Int32))) (hc3 : (x0 &&& (3 : Int32)) = (0 : Int32)) (hc4 : ((((x0.toUInt32 >>> ((2 : Int32) &&& 31).toUInt32).toInt32) &&& (7 : Int32)) % (6 : Int32)) = (0 : Int32)) (f5 : Sta Z Z.heap "java/lang/String" "COMPACT_STRINGS" "Z" (.int x5)) (hc6 : ¬ (x5 = (0 : Int32))) (f19 : Sta Z Z.heap cs0 "$VALUES" cs1 (.ref r6)) (f20 : Exa Z Z.heap r6 cs1) (f21 : Arv Z Z.heap r6 c7 (.object cs0) (6 : Int32) [(.ref r8), (.ref r9), (.ref r10), (.ref r11), (.ref r12), (.ref r13)] .null) (f22 : Fld Z Z.heap r8 cs0 "label" "Ljava/lang/String;" (.ref r14)) (f23 : Exa Z Z.heap r14 "java/lang/String") (f24 : Fld Z Z.heap r14 "java/lang/String" "coder" "B" vI0) (f25 : Fld Z Z.heap r14 "java/lang/String" "value" "[B" (.ref r15)) (f26 : Arv Z Z.heap r15 c16 .byte (3 : Int32) [vI105, vI51, vI50] vI0) (f27 : Fld Z Z.heap r9 cs0 "label" "Ljava/lang/String;" (.ref r17)) (f28 : Exa Z Z.heap r17 "java/lang/String") (f29 : Fld Z Z.heap r17 "java/lang/String" "coder" "B" vI0) (f30 : Fld Z Z.heap r17 "java/lang/String" "value" "[B" (.ref r18)) (f31 : Arv Z Z.heap r18 c19 .byte (3 : Int32) [vI117, vI51, vI50] vI0) (f32 : Fld Z Z.heap r10 cs0 "label" "Ljava/lang/String;" (.ref r20)) (f33 : Exa Z Z.heap r20 "java/lang/String") (f34 : Fld Z Z.heap r20 "java/lang/String" "coder" "B" vI0) (f35 : Fld Z Z.heap r20 "java/lang/String" "value" "[B" (.ref r21)) (f36 : Arv Z Z.heap r21 c22 .byte (3 : Int32) [vI102, vI51, vI50] vI0) (f37 : Fld Z Z.heap r11 cs0 "label" "Ljava/lang/String;" (.ref r23)) (f38 : Exa Z Z.heap r23 "java/lang/String") (f39 : Fld Z Z.heap r23 "java/lang/String" "coder" "B" vI0) (f40 : Fld Z Z.heap r23 "java/lang/String" "value" "[B" (.ref r24)) (f41 : Arv Z Z.heap r24 c25 .byte (3 : Int32) [vI102, vI54, vI52] vI0) (f42 : Fld Z Z.heap r12 cs0 "label" "Ljava/lang/String;" (.ref r26)) (f43 : Exa Z Z.heap r26 "java/lang/String") (f44 : Fld Z Z.heap r26 "java/lang/String" "coder" "B" vI0) (f45 : Fld Z Z.heap r26 "java/lang/String" "value" "[B" (.ref r27)) (f46 : Arv Z Z.heap r27 c28 .byte (4 : Int32) [vI116, vI101, vI120, vI116] vI0) (f47 : Fld Z Z.heap r13 cs0 "label" "Ljava/lang/String;" (.ref r29)) (f48 : Exa Z Z.heap r29 "java/lang/String") (f49 : Fld Z Z.heap r29 "java/lang/String" "coder" "B" vI0) (f50 : Fld Z Z.heap r29 "java/lang/String" "value" "[B" (.ref r30)) (f51 : Arv Z Z.heap r30 c31 .byte (4 : Int32) [vI103, vI117, vI105, vI100] vI0) (f55 : Sta Z Z.heap cs0 "I32" cs4 (.ref r8)) (hc58 : (own_lab [(105 : Int32), (51 : Int32), (50 : Int32)] r8 r9 r10 r11 r12 r13) = (.ref r8)) :
    own_MH l x code maxLocals ret ws room_1 Z h0 #[(.int x0), (.int x1), (.int x2), (.int x3), (.int x4)] (Q0_2 Z x0 x1 x2 x3 x4 x5 r6 c7 r8 r9 r10 r11 r12 r13 r14 r15 c16 r17 r18 c19 r20 r21 c22 r23 r24 c25 r26 r27 c28 r29 r30 c31 h0 n0) := by
  have hEL : EW Z a0 consts_1 := own_EW hw
  refine own_openH hEL (plainFor_of_name pn_com_example_wiregather_wiregather_wire_FieldTypeOfLabelPinLaw) (L0 := #[lI x0, lI x1, lI x2, lI x3, lI x4, lU, lU, lU, lU, lU, lU, lU, lU]) (fun _ => by first | (simp [entryFrame, mkF, argsToLocals, Value.category, maxLocals]; done) | rfl) ?_
  intro p e s m below meth c s₁ hx hby hml hret hnn hZ hown X0 e0 R0
  have N0 := Fr.nil n0; have w := @ww Z a0 hw
  have hS1 := (State.WarmedH.refl s).since 0
  obtain ⟨_, T7, Lc7, X7, hQ7, st7⟩ := own_cS X0 hx hZ hown e0 (rm1_1 l Z a0 hw [] x5 h0 n0 O0 f5 hc6) (w 0 rfl) (w 1 rfl) (w 2 rfl) (w 3 rfl) (by decide) (W := 0) (by decide) (by decide) (by decide) (by decide) (g := (mkF m 42 #[lI x0, lI x1, lI x2, lI x3, lI x4, .val (.int (x0 &&& (3 : Int32))), lV vI0, lU, lU, lU, lU, lU, lU] [vI0])) rfl (by rw [hml]; rfl) (argsL := [vI0]) (rest := []) (lenOf pd__I_Ljava_lang_String_ rfl) rfl (own_W rfl) (hb hby at_42)
  obtain ⟨b7_0, b7_1, k7_0, rfl, N7q, K7, f8, f9, f10, f11, f12, f13, f14, f15⟩ := hQ7
  have N7 := Fr.app N0 N7q
  have R16 := CHr.trans R0 (CHr.keep K7 sf0 R0.1)
  have sf17 : Safe Z consts_1 s.vm h0 b7_0 := Safe.new f8
  have sf18 : Safe Z consts_1 s.vm h0 b7_1 := Safe.new f12
  have o52 := Old.keep O0 K7 all0
  obtain ⟨_, T53, Lc53, X53, hQ53, st53⟩ := own_cS X7 hx hZ hown rfl (rm8_9 l Z a0 hw [] b7_0 b7_1 k7_0 (3 : Int32) ([(105 : Int32), (51 : Int32), (50 : Int32)]) r6 c7 r8 r9 r10 r11 r12 r13 r14 r15 c16 x5 r17 r18 c19 r20 r21 c22 r23 r24 c25 r26 r27 c28 r29 r30 c31 T7.heap n0 o52 f11 f13 f19 f20 f21 f22 f23 f24 f25 f26 f9 f10 (by decide) (by decide) f5 hc6 f27 f28 f29 f30 f31 f32 f33 f34 f35 f36 f37 f38 f39 f40 f41 f42 f43 f44 f45 f46 f47 f48 f49 f50 f51) (w 34 rfl) (w 35 rfl) (w 36 rfl) (w 37 rfl) (by decide) (W := 0) (by decide) (by decide) (by decide) (by decide) (g := (mkF m 45 #[lI x0, lI x1, lI x2, lI x3, lI x4, .val (.int (x0 &&& (3 : Int32))), lV vI0, lU, lU, lU, lU, lU, lU] [(.ref b7_0)])) rfl (by rw [hml]; rfl) (argsL := [(.ref b7_0)]) (rest := []) (lenOf pd__Ljava_lang_String__Lcom_example_wiregather_wiregather_wire_FieldType_ rfl) rfl (own_W rfl) (hb hby at_45)
  obtain ⟨rfl, N53q, K53⟩ := hQ53
  have N53 := Fr.app N7 N53q
  have R54 := CHr.trans R16 (CHr.keep K53 sf0 R16.1)
  have o56 := Old.keep o52 K53 all0
  obtain ⟨_, T57, Lc57, X57, hQ57, st57⟩ := own_finT (Jvm.LawKit.callS X53 hx (y := mN5) hown (mvT hZ (w 71 rfl)) (mvT hZ (w 72 rfl)) (mvT hZ (w 2 rfl)) (mvT hZ (w 73 rfl)) (by decide) (backOf (W := 1) (rm12_1 l Z a0 hw [] r8 T53.heap n0 o56 f55) hZ (w 73 rfl) (w 2 rfl) (by decide) (by decide)) (g := (mkF m 50 #[lI x0, lI x1, lI x2, lI x3, lI x4, .val (.int (x0 &&& (3 : Int32))), lV vI0, lU, lU, lU, lU, lU, lU] [vI0, (own_lab [(105 : Int32), (51 : Int32), (50 : Int32)] r8 r9 r10 r11 r12 r13)])) rfl (by rw [hml]; rfl) (argsL := [vI0]) (rest := [(own_lab [(105 : Int32), (51 : Int32), (50 : Int32)] r8 r9 r10 r11 r12 r13)]) (lenOf pd__I_Lcom_example_wiregather_wiregather_wire_FieldType_ rfl) rfl (by show 2 * 0 + _ ≤ _; simp only [List.map, own_qcat]; exact Nat.le_of_eq rfl) (hb hby at_50) (fun _ _ => ⟨rfl, rfl, (by decide : 4 + 0 ≤ _), (by decide : 16 + 0 ≤ _)⟩))
  obtain ⟨rfl, N57q, E57⟩ := hQ57
  have N57 := Fr.app N53 N57q
  refine ⟨some vI1, _, _, _, _, _, _, _, nofun, X57, by decide, by decide, hS1, (by rw [E57]; exact (Nat.zero_le _)), hZ, E57, R54, ?_, fun fs hr => ?_⟩
  · rw [E57]; exact ⟨rfl, N57⟩
  · show SG p e below s₁ (mkF m 0 #[lI x0, lI x1, lI x2, lI x3, lI x4, lU, lU, lU, lU, lU, lU, lU, lU] []) _
    refine qiN X0 hx hby at_0 ?_
    refine qc X0 hx hby at_1 ?_
    refine XS.iand X0.here hx rfl (hb hby at_2) rfl ?_
    refine XS.istore X0.here hx rfl (hb hby at_3) rfl (l' := #[lI x0, lI x1, lI x2, lI x3, lI x4, .val (.int (x0 &&& (3 : Int32))), lU, lU, lU, lU, lU, lU, lU]) rfl ?_
    refine qi X0 hx hby at_5 ?_
    refine qc X0 hx hby at_7 ?_
    refine XS.icmpYes X0.here hx rfl (pc0 := 8) (pc' := 24) rfl (hb hby at_8) rfl (feq hc2).2 (by decide) (by decide) ?_
    show SG p e below s₁ (mkF m 24 #[lI x0, lI x1, lI x2, lI x3, lI x4, .val (.int (x0 &&& (3 : Int32))), lU, lU, lU, lU, lU, lU, lU] []) _
    refine qi X0 hx hby at_24 ?_
    refine XS.ifNo X0.here hx rfl (hb hby at_26) rfl ((if0 _ _).trans (teq hc3).2) ?_
    refine qiN X0 hx hby at_29 ?_
    refine qc X0 hx hby at_30 ?_
    refine XS.iushr X0.here hx rfl (hb hby at_31) rfl ?_
    refine qb X0 hx hby at_32 ?_
    refine XS.iand X0.here hx rfl (hb hby at_34) rfl ?_
    refine qb X0 hx hby at_35 ?_
    show SG p e below s₁ (mkF m 37 #[lI x0, lI x1, lI x2, lI x3, lI x4, .val (.int (x0 &&& (3 : Int32))), lU, lU, lU, lU, lU, lU, lU] [vI6, (.int (((x0.toUInt32 >>> ((2 : Int32) &&& 31).toUInt32).toInt32) &&& (7 : Int32)))]) _
    refine iremM (g := (mkF m 37 #[lI x0, lI x1, lI x2, lI x3, lI x4, .val (.int (x0 &&& (3 : Int32))), lU, lU, lU, lU, lU, lU, lU] [vI6, (.int (((x0.toUInt32 >>> ((2 : Int32) &&& 31).toUInt32).toInt32) &&& (7 : Int32)))])) X0 hx rfl (hb hby at_37) rfl (by decide : ¬ ((6 : Int32) = (0 : Int32))) ?_
    show SG p e below s₁ (mkF m 38 #[lI x0, lI x1, lI x2, lI x3, lI x4, .val (.int (x0 &&& (3 : Int32))), lU, lU, lU, lU, lU, lU, lU] [(.int ((((x0.toUInt32 >>> ((2 : Int32) &&& 31).toUInt32).toInt32) &&& (7 : Int32)) % (6 : Int32)))]) _
    rw [hc4]
    show SG p e below s₁ (mkF m 38 #[lI x0, lI x1, lI x2, lI x3, lI x4, .val (.int (x0 &&& (3 : Int32))), lU, lU, lU, lU, lU, lU, lU] [vI0]) _
    refine XS.istore X0.here hx rfl (hb hby at_38) rfl (l' := #[lI x0, lI x1, lI x2, lI x3, lI x4, .val (.int (x0 &&& (3 : Int32))), lV vI0, lU, lU, lU, lU, lU, lU]) rfl ?_
    refine qi X0 hx hby at_40 ?_
    refine st7 _ ?_
    show SG p e below T7 (mkF m 45 #[lI x0, lI x1, lI x2, lI x3, lI x4, .val (.int (x0 &&& (3 : Int32))), lV vI0, lU, lU, lU, lU, lU, lU] [(.ref b7_0)]) _
    refine st53 _ ?_
    show SG p e below T53 (mkF m 48 #[lI x0, lI x1, lI x2, lI x3, lI x4, .val (.int (x0 &&& (3 : Int32))), lV vI0, lU, lU, lU, lU, lU, lU] [(own_lab [(105 : Int32), (51 : Int32), (50 : Int32)] r8 r9 r10 r11 r12 r13)]) _
    refine qi X53 hx hby at_48 ?_
    refine st57 _ ?_
    show SG p e below T57 (mkF m 53 #[lI x0, lI x1, lI x2, lI x3, lI x4, .val (.int (x0 &&& (3 : Int32))), lV vI0, lU, lU, lU, lU, lU, lU] [(.ref r8), (own_lab [(105 : Int32), (51 : Int32), (50 : Int32)] r8 r9 r10 r11 r12 r13)]) _
    refine Jvm.RoadKit.acmp (g := (mkF m 53 #[lI x0, lI x1, lI x2, lI x3, lI x4, .val (.int (x0 &&& (3 : Int32))), lV vI0, lU, lU, lU, lU, lU, lU] [(.ref r8), (own_lab [(105 : Int32), (51 : Int32), (50 : Int32)] r8 r9 r10 r11 r12 r13)])) X57 hx rfl (own_labRef) rfl (pc0 := 53) (pc' := 56) (same := true) rfl (hb hby at_53) rfl (decide_eq_true hc58) (by decide) (by decide) ?_
    show SG p e below T57 (mkF m 56 #[lI x0, lI x1, lI x2, lI x3, lI x4, .val (.int (x0 &&& (3 : Int32))), lV vI0, lU, lU, lU, lU, lU, lU] []) _
    refine qc X57 hx hby at_56 ?_
    refine XS.goto X57.here hx rfl (pc0 := 57) (pc' := 61) rfl (hb hby at_57) (by decide) (by decide) ?_
    show SG p e below T57 (mkF m 61 #[lI x0, lI x1, lI x2, lI x3, lI x4, .val (.int (x0 &&& (3 : Int32))), lV vI0, lU, lU, lU, lU, lU, lU] [vI1]) _
    exact retN X57 hx (t := .boolean) hret (by simp) (hb hby at_61) hr
theorem d1_30 : DK cB1 30 (.iload_n 0) 1 := by decide +kernel
theorem d1_31 : DK cB1 31 (.iconst 1) 1 := by decide +kernel
theorem d1_32 : DK cB1 32 (.if_icmp .ne 29) 3 := by decide +kernel
theorem d1_35 : DK cB1 35 (.new 27) 3 := by decide +kernel
theorem d1_38 : DK cB1 38 (.dup) 1 := by decide +kernel
theorem d1_39 : DK cB1 39 (.iconst 3) 1 := by decide +kernel
theorem d1_40 : DK cB1 40 (.newarray .char) 2 := by decide +kernel
theorem d1_42 : DK cB1 42 (.dup) 1 := by decide +kernel
theorem d1_43 : DK cB1 43 (.iconst 0) 1 := by decide +kernel
theorem d1_44 : DK cB1 44 (.bipush 117) 2 := by decide +kernel
theorem d1_46 : DK cB1 46 (.castore) 1 := by decide +kernel
theorem d1_47 : DK cB1 47 (.dup) 1 := by decide +kernel
theorem d1_48 : DK cB1 48 (.iconst 1) 1 := by decide +kernel
theorem d1_49 : DK cB1 49 (.bipush 51) 2 := by decide +kernel
theorem d1_51 : DK cB1 51 (.castore) 1 := by decide +kernel
theorem d1_52 : DK cB1 52 (.dup) 1 := by decide +kernel
theorem d1_53 : DK cB1 53 (.iconst 2) 1 := by decide +kernel
theorem d1_54 : DK cB1 54 (.bipush 50) 2 := by decide +kernel
theorem d1_56 : DK cB1 56 (.castore) 1 := by decide +kernel
theorem d1_57 : DK cB1 57 (.invokespecial 29) 3 := by decide +kernel
theorem d1_60 : DK cB1 60 (.areturn) 1 := by decide +kernel
def Q1_2 (Z : State) (x0 : Int32) (h0 : Heap) (n0 : Nat) (v : Option Value) (h : Heap) (L : List Loc) : Prop := ∃ (b1 b24_0 : Addr) (k24_0 : ClassId), v = some (.ref b1) ∧ Fr n0 L ∧ Keep h0 h [] ∧ h0.size ≤ b1 ∧ Exa Z h b1 "java/lang/String" ∧ Fld Z h b1 "java/lang/String" "coder" "B" vI0 ∧ Fld Z h b1 "java/lang/String" "value" "[B" (.ref b24_0) ∧ h0.size ≤ b24_0 ∧ Arv Z h b24_0 k24_0 .byte (3 : Int32) [vI117, vI51, vI50] vI0 ∧ Exa Z h b24_0 "[B" ∧ b1 ≠ b24_0
theorem rm1_2 (l : Launch) (Z : State) (a0 : Array Value) (hw : own_HW a0 Z) (ws : List Jvm.Cond) (x0 : Int32) (h0 : Heap) (n0 : Nat) (O0 : Old Z n0 h0) (f17 : Sta Z Z.heap "java/lang/String" "COMPACT_STRINGS" "Z" (.int x0)) (hc21 : ¬ (x0 = (0 : Int32))) :
    own_MF l mN3 method_4_code 1 (some (.object "java/lang/String")) ws rR4_3_10_66 Z h0 #[vI1] (Q1_2 Z x0 h0 n0) := by
  refine own_open (plainFor_of_name pn_com_example_wiregather_wiregather_wire_FieldTypeOfLabelPinLaw) (L0 := #[lV vI1]) (fun _ => by first | (simp [entryFrame, mkF, argsToLocals, Value.category]; done) | rfl) ?_
  intro p e s m below meth c s₁ hx hby hml hret hnn hZ hown X0 e0
  have N0 := Fr.nil n0; have w := @ww Z a0 hw
  obtain ⟨T1, h1, X1, e1, E1, A1, D1, -, st1⟩ := newO X0 hx hZ hown (w 4 rfl) (w 5 rfl) (w 6 rfl) e0 (g := (mkF m 35 #[lV vI1] [])) rfl (hb hby d1_35) (by decide) (by decide)
  obtain ⟨b1, g1⟩ : ∃ z, z = h0.size := ⟨_, rfl⟩
  rw [← g1] at A1 D1 st1
  have f2 : Fld Z h1 b1 "java/lang/String" "coder" "B" vI0 := D1 (Or.inr (w 31 rfl)) (ty := .byte) (by decide)
  have f3 : Fld Z h1 b1 "java/lang/String" "value" "[B" .null := D1 (Or.inr (w 33 rfl)) (ty := (.array .byte)) (by decide)
  obtain ⟨T4, h4, k4, X4, e4, E4, A4, B4, st4⟩ := newPE X1 hx hZ (w 7 rfl) e1 (g := (mkF m 40 #[lV vI1] [vI3, (.ref b1), (.ref b1)])) rfl (hb hby d1_40) rfl (by decide) (cap := 3) (by decide) (by decide) (by decide) (by decide) (ad := "[C") rfl
  obtain ⟨b4, g4⟩ : ∃ z, z = h1.size := ⟨_, rfl⟩
  rw [← g4] at A4 B4 st4
  have V4 : Arv Z h4 b4 k4 .char (3 : Int32) [vI0, vI0, vI0] vI0 := (Arv.new A4 (by decide)).pad (pad_rep [] vI0 3)
  have o7 := Old.ext O0 E1
  have zz6 : n0 ≤ h1.size := by rw [← o7.1]; exact o7.2.1
  have g8 := Nat.le_trans zz6 (Nat.le_of_eq g4.symm)
  obtain ⟨T9, h9, L9, X9, e9, N9, K9, V9, st9⟩ := own_stC X4 hx hZ e4 (Keep.refl _ _) V4 N0 g8 0 rfl (Nat.le_of_ble_eq_true rfl) ⟨by decide, by decide⟩ (g := (mkF m 46 #[lV vI1] [vI117, vI0, (.ref b4), (.ref b4), (.ref b1), (.ref b1)])) rfl rfl (hb hby d1_46)
  obtain ⟨T10, h10, L10, X10, e10, N10, K10, V10, st10⟩ := own_stC X9 hx hZ e9 K9 V9 N9 g8 1 rfl (Nat.le_of_ble_eq_true rfl) ⟨by decide, by decide⟩ (g := (mkF m 51 #[lV vI1] [vI51, vI1, (.ref b4), (.ref b4), (.ref b1), (.ref b1)])) rfl rfl (hb hby d1_51)
  obtain ⟨T11, h11, L11, X11, e11, N11, K11, V11, st11⟩ := own_stC X10 hx hZ e10 K10 V10 N10 g8 2 rfl (Nat.le_of_ble_eq_true rfl) ⟨by decide, by decide⟩ (g := (mkF m 56 #[lV vI1] [vI50, vI2, (.ref b4), (.ref b4), (.ref b1), (.ref b1)])) rfl rfl (hb hby d1_56)
  have f12 : Arv Z h11 b4 k4 .char (3 : Int32) [vI117, vI51, vI50] vI0 := V11
  have f13 := ((A1.ext E4).keep K11)
  have n14 := Nat.ne_of_lt (Nat.lt_of_lt_of_le A1.lt (Nat.le_of_eq g4.symm))
  have f15 := ((f3.ext E4).keep K11 (ninS n14 nin0))
  have f16 := ((f2.ext E4).keep K11 (ninS n14 nin0))
  have o18 := Old.ext o7 E4
  have o19 := Old.keep o18 K11 (allS g8 all0)
  have f20 := f17.ext o19.2
  have zz22 : n0 ≤ h0.size := by rw [← O0.1]; exact O0.2.1
  have g23 := Nat.le_trans zz22 (Nat.le_of_eq g1.symm)
  obtain ⟨_, T24, Lc24, X24, hQ24, st24⟩ := own_fin (X11.specialBack hx (y := mN4) rfl hown (mvT hZ (w 8 rfl)) (mvT hZ (w 9 rfl)) (mvT hZ (w 10 rfl)) (by decide) (own_newStr hZ hw (w 5 rfl) (cs := [(117 : Int32), (51 : Int32), (50 : Int32)]) (n := 3) g23 f13 f15 f16 f12 f20 hc21 rfl rfl (by decide) (by decide) (own_acS (by decide : ¬ ((255 : Int32) < (117 : Int32))) (own_acS (by decide : ¬ ((255 : Int32) < (51 : Int32))) (own_acS (by decide : ¬ ((255 : Int32) < (50 : Int32))) own_ac0))) (own_bsS (by decide : ((117 : Int32)).toInt8.toInt32 = (117 : Int32)) (own_bsS (by decide : ((51 : Int32)).toInt8.toInt32 = (51 : Int32)) (own_bsS (by decide : ((50 : Int32)).toInt8.toInt32 = (50 : Int32)) own_bs0))) (by decide) (by decide : 1 + 65 ≤ _)) (g := (mkF m 57 #[lV vI1] [(.ref b4), (.ref b1), (.ref b1)])) rfl (by rw [hml]; rfl) (Steps.refl _) (a := b1) (argsL := [(.ref b4)]) (rest := [(.ref b1)]) (lenOf pd___C_V rfl) rfl (own_W rfl) (hb hby d1_57) (fun _ _ => ⟨rfl, e11, (by decide : 2 + 1 ≤ _), (by decide : 7 + 3 ≤ _)⟩))
  obtain ⟨b24_0, k24_0, rfl, N24q, K24, f25, f26, f27, f28, f29, f30⟩ := hQ24
  have N24 := Fr.app N11 N24q
  have f31 := (f13.keep K24)
  have zs32 := E1.1
  have zs33 := Nat.le_trans zs32 E4.1
  have zs34 := Nat.le_trans zs33 K11.1
  have zs35 := E4.1
  have zs36 := Nat.le_trans zs35 K11.1
  have n37 := Nat.ne_of_lt (Nat.lt_of_lt_of_le (Nat.lt_of_lt_of_le A1.lt zs36) f27)
  have kp38 : Keep h0 h1 [] := (Keep.refl h0 []).ext E1
  have kp39 : Keep h0 h4 [] := kp38.ext E4
  have kp40 : Keep h0 h11 [] := kp39.trans K11 (allS (Or.inr (Nat.le_trans zs32 (Nat.le_of_eq g4.symm))) all0)
  have kp41 : Keep h0 T24.heap [] := kp40.trans K24 (allS (Or.inr (Nat.le_of_eq g1.symm)) all0)
  refine ⟨some (.ref b1), _, _, _, _, nofun, X24, by decide, by decide, ?_, fun fs hr => ?_⟩
  · exact ⟨b1, b24_0, k24_0, rfl, N24, kp41, (Nat.le_of_eq g1.symm), f31, f25, f26, (Nat.le_trans zs34 f27), f28, f29, n37⟩
  · show SG p e below s₁ (mkF m 0 #[lV vI1] []) _
    refine qiN X0 hx hby d1_0 ?_
    refine XS.ifYes X0.here hx rfl (pc0 := 1) (pc' := 30) rfl (hb hby d1_1) rfl ((if0 _ _).trans (feq (by decide : ¬ ((1 : Int32) = (0 : Int32)))).2) (by decide) (by decide) ?_
    show SG p e below s₁ (mkF m 30 #[lV vI1] []) _
    refine qiN X0 hx hby d1_30 ?_
    refine qc X0 hx hby d1_31 ?_
    refine XS.icmpNo X0.here hx rfl (hb hby d1_32) rfl (teq (rfl : (1 : Int32) = (1 : Int32))).2 ?_
    refine st1 _ ?_
    show SG p e below T1 (mkF m 38 #[lV vI1] [(.ref b1)]) _
    refine qd X1 hx hby d1_38 ?_
    refine qc X1 hx hby d1_39 ?_
    refine st4 _ ?_
    show SG p e below T4 (mkF m 42 #[lV vI1] [(.ref b4), (.ref b1), (.ref b1)]) _
    refine qd X4 hx hby d1_42 ?_
    refine qc X4 hx hby d1_43 ?_
    refine qb X4 hx hby d1_44 ?_
    refine st9 _ ?_
    show SG p e below T9 (mkF m 47 #[lV vI1] [(.ref b4), (.ref b1), (.ref b1)]) _
    refine qd X9 hx hby d1_47 ?_
    refine qc X9 hx hby d1_48 ?_
    refine qb X9 hx hby d1_49 ?_
    refine st10 _ ?_
    show SG p e below T10 (mkF m 52 #[lV vI1] [(.ref b4), (.ref b1), (.ref b1)]) _
    refine qd X10 hx hby d1_52 ?_
    refine qc X10 hx hby d1_53 ?_
    refine qb X10 hx hby d1_54 ?_
    refine st11 _ ?_
    show SG p e below T11 (mkF m 57 #[lV vI1] [(.ref b4), (.ref b1), (.ref b1)]) _
    refine st24.trans ?_
    show SG p e below T24 (mkF m 60 #[lV vI1] [(.ref b1)]) _
    exact retOut X24 hx (i := .areturn) hret rfl (Or.inr (Or.inr (Or.inr (Or.inr ⟨rfl, rfl, rfl⟩)))) (hb hby d1_60) hr
theorem d12_8 : DK cB12 8 (.iload_n 0) 1 := by decide +kernel
theorem d12_9 : DK cB12 9 (.iconst 1) 1 := by decide +kernel
theorem d12_10 : DK cB12 10 (.if_icmp .ne 7) 3 := by decide +kernel
theorem d12_13 : DK cB12 13 (.getstatic 44) 3 := by decide +kernel
theorem d12_16 : DK cB12 16 (.areturn) 1 := by decide +kernel
def Q12_2 (Z : State) (r0 : Addr) (h0 : Heap) (n0 : Nat) (v : Option Value) (h : Heap) (L : List Loc) : Prop := v = some (.ref r0) ∧ Fr n0 L ∧ h = h0
theorem rm12_2 (l : Launch) (Z : State) (a0 : Array Value) (hw : own_HW a0 Z) (ws : List Jvm.Cond) (r0 : Addr) (h0 : Heap) (n0 : Nat) (O0 : Old Z n0 h0) (f1 : Sta Z Z.heap cs0 "U32" cs4 (.ref r0)) :
    own_MF l mN5 method_5_code 1 (some (.object cs0)) ws rR0_0_0_0 Z h0 #[vI1] (Q12_2 Z r0 h0 n0) := by
  refine own_open (plainFor_of_name pn_com_example_wiregather_wiregather_wire_FieldTypeOfLabelPinLaw) (L0 := #[lV vI1]) (fun _ => by first | (simp [entryFrame, mkF, argsToLocals, Value.category]; done) | rfl) ?_
  intro p e s m below meth c s₁ hx hby hml hret hnn hZ hown X0 e0
  have N0 := Fr.nil n0
  have f2 := f1.ext O0.2
  obtain ⟨T3, X3, e3, st3⟩ := getS2 X0 hx hZ hown (host := "") (Or.inl (ww hw 112 rfl)) Via.refl e0 f2 (g := (mkF m 13 #[lV vI1] [])) rfl (hb hby d12_13)
  refine ⟨some (.ref r0), _, _, _, _, nofun, X3, by decide, by decide, ?_, fun fs hr => ?_⟩
  · rw [e3]; exact ⟨rfl, N0, rfl⟩
  · show SG p e below s₁ (mkF m 0 #[lV vI1] []) _
    refine qiN X0 hx hby d12_0 ?_
    refine XS.ifYes X0.here hx rfl (pc0 := 1) (pc' := 8) rfl (hb hby d12_1) rfl ((if0 _ _).trans (feq (by decide : ¬ ((1 : Int32) = (0 : Int32)))).2) (by decide) (by decide) ?_
    show SG p e below s₁ (mkF m 8 #[lV vI1] []) _
    refine qiN X0 hx hby d12_8 ?_
    refine qc X0 hx hby d12_9 ?_
    refine XS.icmpNo X0.here hx rfl (hb hby d12_10) rfl (teq (rfl : (1 : Int32) = (1 : Int32))).2 ?_
    refine st3 _ ?_
    show SG p e below T3 (mkF m 16 #[lV vI1] [(.ref r0)]) _
    exact retOut X3 hx (i := .areturn) hret rfl (Or.inr (Or.inr (Or.inr (Or.inr ⟨rfl, rfl, rfl⟩)))) (hb hby d12_16) hr
def Q0_3 (Z : State) (x0 x1 : Int32) (x2 x3 : Int32) (x4 x5 : Int32) (r6 : Addr) (c7 : ClassId) (r8 r9 : Addr) (r10 r11 : Addr) (r12 r13 : Addr) (r14 r15 : Addr) (c16 : ClassId) (r17 r18 : Addr) (c19 : ClassId) (r20 r21 : Addr) (c22 : ClassId) (r23 r24 : Addr) (c25 : ClassId) (r26 r27 : Addr) (c28 : ClassId) (r29 r30 : Addr) (c31 : ClassId) (h0 : Heap) (n0 : Nat) (v : Option Value) (h : Heap) (L : List Loc) : Prop := v = some vI1 ∧ Fr n0 L
theorem rm0_3 (l : Launch) (Z : State) (a0 : Array Value) (hw : own_HW a0 Z) (ws : List Jvm.Cond) (x0 x1 : Int32) (x2 x3 : Int32) (x4 x5 : Int32) (r6 : Addr) (c7 : ClassId) (r8 r9 : Addr) (r10 r11 : Addr) (r12 r13 : Addr) (r14 r15 : Addr) (c16 : ClassId) (r17 r18 : Addr) (c19 : ClassId) (r20 r21 : Addr) (c22 : ClassId) (r23 r24 : Addr) (c25 : ClassId) (r26 r27 : Addr) (c28 : ClassId) (r29 r30 : Addr) (c31 : ClassId) (h0 : Heap) (n0 : Nat) (O0 : Old Z n0 h0) (hc2 : ¬ ((x0 &&& (3 : Int32)) = (3 : Int32))) (hc3 : (x0 &&& (3 : Int32)) = (0 : Int32)) (hc4 : ((((x0.toUInt32 >>> ((2 : Int32) &&& 31).toUInt32).toInt32) &&& (7 : Int32)) % (6 : Int32)) = (1 : Int32)) (f5 : Sta Z Z.heap "java/lang/String" "COMPACT_STRINGS" "Z" (.int x5)) (hc6 : ¬ (x5 = (0 : Int32))) (f19 : Sta Z Z.heap cs0 "$VALUES" cs1 (.ref r6)) (f20 : Exa Z Z.heap r6 cs1) (f21 : Arv Z Z.heap r6 c7 (.object cs0) (6 : Int32) [(.ref r8), (.ref r9), (.ref r10), (.ref r11), (.ref r12), (.ref r13)] .null) (f22 : Fld Z Z.heap r8 cs0 "label" "Ljava/lang/String;" (.ref r14)) (f23 : Exa Z Z.heap r14 "java/lang/String") (f24 : Fld Z Z.heap r14 "java/lang/String" "coder" "B" vI0) (f25 : Fld Z Z.heap r14 "java/lang/String" "value" "[B" (.ref r15)) (f26 : Arv Z Z.heap r15 c16 .byte (3 : Int32) [vI105, vI51, vI50] vI0) (f27 : Fld Z Z.heap r9 cs0 "label" "Ljava/lang/String;" (.ref r17)) (f28 : Exa Z Z.heap r17 "java/lang/String") (f29 : Fld Z Z.heap r17 "java/lang/String" "coder" "B" vI0) (f30 : Fld Z Z.heap r17 "java/lang/String" "value" "[B" (.ref r18)) (f31 : Arv Z Z.heap r18 c19 .byte (3 : Int32) [vI117, vI51, vI50] vI0) (f32 : Fld Z Z.heap r10 cs0 "label" "Ljava/lang/String;" (.ref r20)) (f33 : Exa Z Z.heap r20 "java/lang/String") (f34 : Fld Z Z.heap r20 "java/lang/String" "coder" "B" vI0) (f35 : Fld Z Z.heap r20 "java/lang/String" "value" "[B" (.ref r21)) (f36 : Arv Z Z.heap r21 c22 .byte (3 : Int32) [vI102, vI51, vI50] vI0) (f37 : Fld Z Z.heap r11 cs0 "label" "Ljava/lang/String;" (.ref r23)) (f38 : Exa Z Z.heap r23 "java/lang/String") (f39 : Fld Z Z.heap r23 "java/lang/String" "coder" "B" vI0) (f40 : Fld Z Z.heap r23 "java/lang/String" "value" "[B" (.ref r24)) (f41 : Arv Z Z.heap r24 c25 .byte (3 : Int32) [vI102, vI54, vI52] vI0) (f42 : Fld Z Z.heap r12 cs0 "label" "Ljava/lang/String;" (.ref r26)) (f43 : Exa Z Z.heap r26 "java/lang/String") (f44 : Fld Z Z.heap r26 "java/lang/String" "coder" "B" vI0) (f45 : Fld Z Z.heap r26 "java/lang/String" "value" "[B" (.ref r27)) (f46 : Arv Z Z.heap r27 c28 .byte (4 : Int32) [vI116, vI101, vI120, vI116] vI0) (f47 : Fld Z Z.heap r13 cs0 "label" "Ljava/lang/String;" (.ref r29)) (f48 : Exa Z Z.heap r29 "java/lang/String") (f49 : Fld Z Z.heap r29 "java/lang/String" "coder" "B" vI0) (f50 : Fld Z Z.heap r29 "java/lang/String" "value" "[B" (.ref r30)) (f51 : Arv Z Z.heap r30 c31 .byte (4 : Int32) [vI103, vI117, vI105, vI100] vI0) (f55 : Sta Z Z.heap cs0 "U32" cs4 (.ref r9)) (hc58 : (own_lab [(117 : Int32), (51 : Int32), (50 : Int32)] r8 r9 r10 r11 r12 r13) = (.ref r9)) :
    own_MH l x code maxLocals ret ws room_1 Z h0 #[(.int x0), (.int x1), (.int x2), (.int x3), (.int x4)] (Q0_3 Z x0 x1 x2 x3 x4 x5 r6 c7 r8 r9 r10 r11 r12 r13 r14 r15 c16 r17 r18 c19 r20 r21 c22 r23 r24 c25 r26 r27 c28 r29 r30 c31 h0 n0) := by
  have hEL : EW Z a0 consts_1 := own_EW hw
  refine own_openH hEL (plainFor_of_name pn_com_example_wiregather_wiregather_wire_FieldTypeOfLabelPinLaw) (L0 := #[lI x0, lI x1, lI x2, lI x3, lI x4, lU, lU, lU, lU, lU, lU, lU, lU]) (fun _ => by first | (simp [entryFrame, mkF, argsToLocals, Value.category, maxLocals]; done) | rfl) ?_
  intro p e s m below meth c s₁ hx hby hml hret hnn hZ hown X0 e0 R0
  have N0 := Fr.nil n0; have w := @ww Z a0 hw
  have hS1 := (State.WarmedH.refl s).since 0
  obtain ⟨_, T7, Lc7, X7, hQ7, st7⟩ := own_cS X0 hx hZ hown e0 (rm1_2 l Z a0 hw [] x5 h0 n0 O0 f5 hc6) (w 0 rfl) (w 1 rfl) (w 2 rfl) (w 3 rfl) (by decide) (W := 0) (by decide) (by decide) (by decide) (by decide) (g := (mkF m 42 #[lI x0, lI x1, lI x2, lI x3, lI x4, .val (.int (x0 &&& (3 : Int32))), lV vI1, lU, lU, lU, lU, lU, lU] [vI1])) rfl (by rw [hml]; rfl) (argsL := [vI1]) (rest := []) (lenOf pd__I_Ljava_lang_String_ rfl) rfl (own_W rfl) (hb hby at_42)
  obtain ⟨b7_0, b7_1, k7_0, rfl, N7q, K7, f8, f9, f10, f11, f12, f13, f14, f15⟩ := hQ7
  have N7 := Fr.app N0 N7q
  have R16 := CHr.trans R0 (CHr.keep K7 sf0 R0.1)
  have sf17 : Safe Z consts_1 s.vm h0 b7_0 := Safe.new f8
  have sf18 : Safe Z consts_1 s.vm h0 b7_1 := Safe.new f12
  have o52 := Old.keep O0 K7 all0
  obtain ⟨_, T53, Lc53, X53, hQ53, st53⟩ := own_cS X7 hx hZ hown rfl (rm8_9 l Z a0 hw [] b7_0 b7_1 k7_0 (3 : Int32) ([(117 : Int32), (51 : Int32), (50 : Int32)]) r6 c7 r8 r9 r10 r11 r12 r13 r14 r15 c16 x5 r17 r18 c19 r20 r21 c22 r23 r24 c25 r26 r27 c28 r29 r30 c31 T7.heap n0 o52 f11 f13 f19 f20 f21 f22 f23 f24 f25 f26 f9 f10 (by decide) (by decide) f5 hc6 f27 f28 f29 f30 f31 f32 f33 f34 f35 f36 f37 f38 f39 f40 f41 f42 f43 f44 f45 f46 f47 f48 f49 f50 f51) (w 34 rfl) (w 35 rfl) (w 36 rfl) (w 37 rfl) (by decide) (W := 0) (by decide) (by decide) (by decide) (by decide) (g := (mkF m 45 #[lI x0, lI x1, lI x2, lI x3, lI x4, .val (.int (x0 &&& (3 : Int32))), lV vI1, lU, lU, lU, lU, lU, lU] [(.ref b7_0)])) rfl (by rw [hml]; rfl) (argsL := [(.ref b7_0)]) (rest := []) (lenOf pd__Ljava_lang_String__Lcom_example_wiregather_wiregather_wire_FieldType_ rfl) rfl (own_W rfl) (hb hby at_45)
  obtain ⟨rfl, N53q, K53⟩ := hQ53
  have N53 := Fr.app N7 N53q
  have R54 := CHr.trans R16 (CHr.keep K53 sf0 R16.1)
  have o56 := Old.keep o52 K53 all0
  obtain ⟨_, T57, Lc57, X57, hQ57, st57⟩ := own_finT (Jvm.LawKit.callS X53 hx (y := mN5) hown (mvT hZ (w 71 rfl)) (mvT hZ (w 72 rfl)) (mvT hZ (w 2 rfl)) (mvT hZ (w 73 rfl)) (by decide) (backOf (W := 1) (rm12_2 l Z a0 hw [] r9 T53.heap n0 o56 f55) hZ (w 73 rfl) (w 2 rfl) (by decide) (by decide)) (g := (mkF m 50 #[lI x0, lI x1, lI x2, lI x3, lI x4, .val (.int (x0 &&& (3 : Int32))), lV vI1, lU, lU, lU, lU, lU, lU] [vI1, (own_lab [(117 : Int32), (51 : Int32), (50 : Int32)] r8 r9 r10 r11 r12 r13)])) rfl (by rw [hml]; rfl) (argsL := [vI1]) (rest := [(own_lab [(117 : Int32), (51 : Int32), (50 : Int32)] r8 r9 r10 r11 r12 r13)]) (lenOf pd__I_Lcom_example_wiregather_wiregather_wire_FieldType_ rfl) rfl (by show 2 * 0 + _ ≤ _; simp only [List.map, own_qcat]; exact Nat.le_of_eq rfl) (hb hby at_50) (fun _ _ => ⟨rfl, rfl, (by decide : 4 + 0 ≤ _), (by decide : 16 + 0 ≤ _)⟩))
  obtain ⟨rfl, N57q, E57⟩ := hQ57
  have N57 := Fr.app N53 N57q
  refine ⟨some vI1, _, _, _, _, _, _, _, nofun, X57, by decide, by decide, hS1, (by rw [E57]; exact (Nat.zero_le _)), hZ, E57, R54, ?_, fun fs hr => ?_⟩
  · rw [E57]; exact ⟨rfl, N57⟩
  · show SG p e below s₁ (mkF m 0 #[lI x0, lI x1, lI x2, lI x3, lI x4, lU, lU, lU, lU, lU, lU, lU, lU] []) _
    refine qiN X0 hx hby at_0 ?_
    refine qc X0 hx hby at_1 ?_
    refine XS.iand X0.here hx rfl (hb hby at_2) rfl ?_
    refine XS.istore X0.here hx rfl (hb hby at_3) rfl (l' := #[lI x0, lI x1, lI x2, lI x3, lI x4, .val (.int (x0 &&& (3 : Int32))), lU, lU, lU, lU, lU, lU, lU]) rfl ?_
    refine qi X0 hx hby at_5 ?_
    refine qc X0 hx hby at_7 ?_
    refine XS.icmpYes X0.here hx rfl (pc0 := 8) (pc' := 24) rfl (hb hby at_8) rfl (feq hc2).2 (by decide) (by decide) ?_
    show SG p e below s₁ (mkF m 24 #[lI x0, lI x1, lI x2, lI x3, lI x4, .val (.int (x0 &&& (3 : Int32))), lU, lU, lU, lU, lU, lU, lU] []) _
    refine qi X0 hx hby at_24 ?_
    refine XS.ifNo X0.here hx rfl (hb hby at_26) rfl ((if0 _ _).trans (teq hc3).2) ?_
    refine qiN X0 hx hby at_29 ?_
    refine qc X0 hx hby at_30 ?_
    refine XS.iushr X0.here hx rfl (hb hby at_31) rfl ?_
    refine qb X0 hx hby at_32 ?_
    refine XS.iand X0.here hx rfl (hb hby at_34) rfl ?_
    refine qb X0 hx hby at_35 ?_
    show SG p e below s₁ (mkF m 37 #[lI x0, lI x1, lI x2, lI x3, lI x4, .val (.int (x0 &&& (3 : Int32))), lU, lU, lU, lU, lU, lU, lU] [vI6, (.int (((x0.toUInt32 >>> ((2 : Int32) &&& 31).toUInt32).toInt32) &&& (7 : Int32)))]) _
    refine iremM (g := (mkF m 37 #[lI x0, lI x1, lI x2, lI x3, lI x4, .val (.int (x0 &&& (3 : Int32))), lU, lU, lU, lU, lU, lU, lU] [vI6, (.int (((x0.toUInt32 >>> ((2 : Int32) &&& 31).toUInt32).toInt32) &&& (7 : Int32)))])) X0 hx rfl (hb hby at_37) rfl (by decide : ¬ ((6 : Int32) = (0 : Int32))) ?_
    show SG p e below s₁ (mkF m 38 #[lI x0, lI x1, lI x2, lI x3, lI x4, .val (.int (x0 &&& (3 : Int32))), lU, lU, lU, lU, lU, lU, lU] [(.int ((((x0.toUInt32 >>> ((2 : Int32) &&& 31).toUInt32).toInt32) &&& (7 : Int32)) % (6 : Int32)))]) _
    rw [hc4]
    show SG p e below s₁ (mkF m 38 #[lI x0, lI x1, lI x2, lI x3, lI x4, .val (.int (x0 &&& (3 : Int32))), lU, lU, lU, lU, lU, lU, lU] [vI1]) _
    refine XS.istore X0.here hx rfl (hb hby at_38) rfl (l' := #[lI x0, lI x1, lI x2, lI x3, lI x4, .val (.int (x0 &&& (3 : Int32))), lV vI1, lU, lU, lU, lU, lU, lU]) rfl ?_
    refine qi X0 hx hby at_40 ?_
    refine st7 _ ?_
    show SG p e below T7 (mkF m 45 #[lI x0, lI x1, lI x2, lI x3, lI x4, .val (.int (x0 &&& (3 : Int32))), lV vI1, lU, lU, lU, lU, lU, lU] [(.ref b7_0)]) _
    refine st53 _ ?_
    show SG p e below T53 (mkF m 48 #[lI x0, lI x1, lI x2, lI x3, lI x4, .val (.int (x0 &&& (3 : Int32))), lV vI1, lU, lU, lU, lU, lU, lU] [(own_lab [(117 : Int32), (51 : Int32), (50 : Int32)] r8 r9 r10 r11 r12 r13)]) _
    refine qi X53 hx hby at_48 ?_
    refine st57 _ ?_
    show SG p e below T57 (mkF m 53 #[lI x0, lI x1, lI x2, lI x3, lI x4, .val (.int (x0 &&& (3 : Int32))), lV vI1, lU, lU, lU, lU, lU, lU] [(.ref r9), (own_lab [(117 : Int32), (51 : Int32), (50 : Int32)] r8 r9 r10 r11 r12 r13)]) _
    refine Jvm.RoadKit.acmp (g := (mkF m 53 #[lI x0, lI x1, lI x2, lI x3, lI x4, .val (.int (x0 &&& (3 : Int32))), lV vI1, lU, lU, lU, lU, lU, lU] [(.ref r9), (own_lab [(117 : Int32), (51 : Int32), (50 : Int32)] r8 r9 r10 r11 r12 r13)])) X57 hx rfl (own_labRef) rfl (pc0 := 53) (pc' := 56) (same := true) rfl (hb hby at_53) rfl (decide_eq_true hc58) (by decide) (by decide) ?_
    show SG p e below T57 (mkF m 56 #[lI x0, lI x1, lI x2, lI x3, lI x4, .val (.int (x0 &&& (3 : Int32))), lV vI1, lU, lU, lU, lU, lU, lU] []) _
    refine qc X57 hx hby at_56 ?_
    refine XS.goto X57.here hx rfl (pc0 := 57) (pc' := 61) rfl (hb hby at_57) (by decide) (by decide) ?_
    show SG p e below T57 (mkF m 61 #[lI x0, lI x1, lI x2, lI x3, lI x4, .val (.int (x0 &&& (3 : Int32))), lV vI1, lU, lU, lU, lU, lU, lU] [vI1]) _
    exact retN X57 hx (t := .boolean) hret (by simp) (hb hby at_61) hr
theorem d1_61 : DK cB1 61 (.iload_n 0) 1 := by decide +kernel
theorem d1_62 : DK cB1 62 (.iconst 2) 1 := by decide +kernel
theorem d1_63 : DK cB1 63 (.if_icmp .ne 29) 3 := by decide +kernel
theorem d1_66 : DK cB1 66 (.new 27) 3 := by decide +kernel
theorem d1_69 : DK cB1 69 (.dup) 1 := by decide +kernel
theorem d1_70 : DK cB1 70 (.iconst 3) 1 := by decide +kernel
theorem d1_71 : DK cB1 71 (.newarray .char) 2 := by decide +kernel
theorem d1_73 : DK cB1 73 (.dup) 1 := by decide +kernel
theorem d1_74 : DK cB1 74 (.iconst 0) 1 := by decide +kernel
theorem d1_75 : DK cB1 75 (.bipush 102) 2 := by decide +kernel
theorem d1_77 : DK cB1 77 (.castore) 1 := by decide +kernel
theorem d1_78 : DK cB1 78 (.dup) 1 := by decide +kernel
theorem d1_79 : DK cB1 79 (.iconst 1) 1 := by decide +kernel
theorem d1_80 : DK cB1 80 (.bipush 51) 2 := by decide +kernel
theorem d1_82 : DK cB1 82 (.castore) 1 := by decide +kernel
theorem d1_83 : DK cB1 83 (.dup) 1 := by decide +kernel
theorem d1_84 : DK cB1 84 (.iconst 2) 1 := by decide +kernel
theorem d1_85 : DK cB1 85 (.bipush 50) 2 := by decide +kernel
theorem d1_87 : DK cB1 87 (.castore) 1 := by decide +kernel
theorem d1_88 : DK cB1 88 (.invokespecial 29) 3 := by decide +kernel
theorem d1_91 : DK cB1 91 (.areturn) 1 := by decide +kernel
def Q1_3 (Z : State) (x0 : Int32) (h0 : Heap) (n0 : Nat) (v : Option Value) (h : Heap) (L : List Loc) : Prop := ∃ (b1 b24_0 : Addr) (k24_0 : ClassId), v = some (.ref b1) ∧ Fr n0 L ∧ Keep h0 h [] ∧ h0.size ≤ b1 ∧ Exa Z h b1 "java/lang/String" ∧ Fld Z h b1 "java/lang/String" "coder" "B" vI0 ∧ Fld Z h b1 "java/lang/String" "value" "[B" (.ref b24_0) ∧ h0.size ≤ b24_0 ∧ Arv Z h b24_0 k24_0 .byte (3 : Int32) [vI102, vI51, vI50] vI0 ∧ Exa Z h b24_0 "[B" ∧ b1 ≠ b24_0
theorem rm1_3 (l : Launch) (Z : State) (a0 : Array Value) (hw : own_HW a0 Z) (ws : List Jvm.Cond) (x0 : Int32) (h0 : Heap) (n0 : Nat) (O0 : Old Z n0 h0) (f17 : Sta Z Z.heap "java/lang/String" "COMPACT_STRINGS" "Z" (.int x0)) (hc21 : ¬ (x0 = (0 : Int32))) :
    own_MF l mN3 method_4_code 1 (some (.object "java/lang/String")) ws rR4_3_10_66 Z h0 #[vI2] (Q1_3 Z x0 h0 n0) := by
  refine own_open (plainFor_of_name pn_com_example_wiregather_wiregather_wire_FieldTypeOfLabelPinLaw) (L0 := #[lV vI2]) (fun _ => by first | (simp [entryFrame, mkF, argsToLocals, Value.category]; done) | rfl) ?_
  intro p e s m below meth c s₁ hx hby hml hret hnn hZ hown X0 e0
  have N0 := Fr.nil n0; have w := @ww Z a0 hw
  obtain ⟨T1, h1, X1, e1, E1, A1, D1, -, st1⟩ := newO X0 hx hZ hown (w 4 rfl) (w 5 rfl) (w 6 rfl) e0 (g := (mkF m 66 #[lV vI2] [])) rfl (hb hby d1_66) (by decide) (by decide)
  obtain ⟨b1, g1⟩ : ∃ z, z = h0.size := ⟨_, rfl⟩
  rw [← g1] at A1 D1 st1
  have f2 : Fld Z h1 b1 "java/lang/String" "coder" "B" vI0 := D1 (Or.inr (w 31 rfl)) (ty := .byte) (by decide)
  have f3 : Fld Z h1 b1 "java/lang/String" "value" "[B" .null := D1 (Or.inr (w 33 rfl)) (ty := (.array .byte)) (by decide)
  obtain ⟨T4, h4, k4, X4, e4, E4, A4, B4, st4⟩ := newPE X1 hx hZ (w 7 rfl) e1 (g := (mkF m 71 #[lV vI2] [vI3, (.ref b1), (.ref b1)])) rfl (hb hby d1_71) rfl (by decide) (cap := 3) (by decide) (by decide) (by decide) (by decide) (ad := "[C") rfl
  obtain ⟨b4, g4⟩ : ∃ z, z = h1.size := ⟨_, rfl⟩
  rw [← g4] at A4 B4 st4
  have V4 : Arv Z h4 b4 k4 .char (3 : Int32) [vI0, vI0, vI0] vI0 := (Arv.new A4 (by decide)).pad (pad_rep [] vI0 3)
  have o7 := Old.ext O0 E1
  have zz6 : n0 ≤ h1.size := by rw [← o7.1]; exact o7.2.1
  have g8 := Nat.le_trans zz6 (Nat.le_of_eq g4.symm)
  obtain ⟨T9, h9, L9, X9, e9, N9, K9, V9, st9⟩ := own_stC X4 hx hZ e4 (Keep.refl _ _) V4 N0 g8 0 rfl (Nat.le_of_ble_eq_true rfl) ⟨by decide, by decide⟩ (g := (mkF m 77 #[lV vI2] [vI102, vI0, (.ref b4), (.ref b4), (.ref b1), (.ref b1)])) rfl rfl (hb hby d1_77)
  obtain ⟨T10, h10, L10, X10, e10, N10, K10, V10, st10⟩ := own_stC X9 hx hZ e9 K9 V9 N9 g8 1 rfl (Nat.le_of_ble_eq_true rfl) ⟨by decide, by decide⟩ (g := (mkF m 82 #[lV vI2] [vI51, vI1, (.ref b4), (.ref b4), (.ref b1), (.ref b1)])) rfl rfl (hb hby d1_82)
  obtain ⟨T11, h11, L11, X11, e11, N11, K11, V11, st11⟩ := own_stC X10 hx hZ e10 K10 V10 N10 g8 2 rfl (Nat.le_of_ble_eq_true rfl) ⟨by decide, by decide⟩ (g := (mkF m 87 #[lV vI2] [vI50, vI2, (.ref b4), (.ref b4), (.ref b1), (.ref b1)])) rfl rfl (hb hby d1_87)
  have f12 : Arv Z h11 b4 k4 .char (3 : Int32) [vI102, vI51, vI50] vI0 := V11
  have f13 := ((A1.ext E4).keep K11)
  have n14 := Nat.ne_of_lt (Nat.lt_of_lt_of_le A1.lt (Nat.le_of_eq g4.symm))
  have f15 := ((f3.ext E4).keep K11 (ninS n14 nin0))
  have f16 := ((f2.ext E4).keep K11 (ninS n14 nin0))
  have o18 := Old.ext o7 E4
  have o19 := Old.keep o18 K11 (allS g8 all0)
  have f20 := f17.ext o19.2
  have zz22 : n0 ≤ h0.size := by rw [← O0.1]; exact O0.2.1
  have g23 := Nat.le_trans zz22 (Nat.le_of_eq g1.symm)
  obtain ⟨_, T24, Lc24, X24, hQ24, st24⟩ := own_fin (X11.specialBack hx (y := mN4) rfl hown (mvT hZ (w 8 rfl)) (mvT hZ (w 9 rfl)) (mvT hZ (w 10 rfl)) (by decide) (own_newStr hZ hw (w 5 rfl) (cs := [(102 : Int32), (51 : Int32), (50 : Int32)]) (n := 3) g23 f13 f15 f16 f12 f20 hc21 rfl rfl (by decide) (by decide) (own_acS (by decide : ¬ ((255 : Int32) < (102 : Int32))) (own_acS (by decide : ¬ ((255 : Int32) < (51 : Int32))) (own_acS (by decide : ¬ ((255 : Int32) < (50 : Int32))) own_ac0))) (own_bsS (by decide : ((102 : Int32)).toInt8.toInt32 = (102 : Int32)) (own_bsS (by decide : ((51 : Int32)).toInt8.toInt32 = (51 : Int32)) (own_bsS (by decide : ((50 : Int32)).toInt8.toInt32 = (50 : Int32)) own_bs0))) (by decide) (by decide : 1 + 65 ≤ _)) (g := (mkF m 88 #[lV vI2] [(.ref b4), (.ref b1), (.ref b1)])) rfl (by rw [hml]; rfl) (Steps.refl _) (a := b1) (argsL := [(.ref b4)]) (rest := [(.ref b1)]) (lenOf pd___C_V rfl) rfl (own_W rfl) (hb hby d1_88) (fun _ _ => ⟨rfl, e11, (by decide : 2 + 1 ≤ _), (by decide : 7 + 3 ≤ _)⟩))
  obtain ⟨b24_0, k24_0, rfl, N24q, K24, f25, f26, f27, f28, f29, f30⟩ := hQ24
  have N24 := Fr.app N11 N24q
  have f31 := (f13.keep K24)
  have zs32 := E1.1
  have zs33 := Nat.le_trans zs32 E4.1
  have zs34 := Nat.le_trans zs33 K11.1
  have zs35 := E4.1
  have zs36 := Nat.le_trans zs35 K11.1
  have n37 := Nat.ne_of_lt (Nat.lt_of_lt_of_le (Nat.lt_of_lt_of_le A1.lt zs36) f27)
  have kp38 : Keep h0 h1 [] := (Keep.refl h0 []).ext E1
  have kp39 : Keep h0 h4 [] := kp38.ext E4
  have kp40 : Keep h0 h11 [] := kp39.trans K11 (allS (Or.inr (Nat.le_trans zs32 (Nat.le_of_eq g4.symm))) all0)
  have kp41 : Keep h0 T24.heap [] := kp40.trans K24 (allS (Or.inr (Nat.le_of_eq g1.symm)) all0)
  refine ⟨some (.ref b1), _, _, _, _, nofun, X24, by decide, by decide, ?_, fun fs hr => ?_⟩
  · exact ⟨b1, b24_0, k24_0, rfl, N24, kp41, (Nat.le_of_eq g1.symm), f31, f25, f26, (Nat.le_trans zs34 f27), f28, f29, n37⟩
  · show SG p e below s₁ (mkF m 0 #[lV vI2] []) _
    refine qiN X0 hx hby d1_0 ?_
    refine XS.ifYes X0.here hx rfl (pc0 := 1) (pc' := 30) rfl (hb hby d1_1) rfl ((if0 _ _).trans (feq (by decide : ¬ ((2 : Int32) = (0 : Int32)))).2) (by decide) (by decide) ?_
    show SG p e below s₁ (mkF m 30 #[lV vI2] []) _
    refine qiN X0 hx hby d1_30 ?_
    refine qc X0 hx hby d1_31 ?_
    refine XS.icmpYes X0.here hx rfl (pc0 := 32) (pc' := 61) rfl (hb hby d1_32) rfl (feq (by decide : ¬ ((2 : Int32) = (1 : Int32)))).2 (by decide) (by decide) ?_
    show SG p e below s₁ (mkF m 61 #[lV vI2] []) _
    refine qiN X0 hx hby d1_61 ?_
    refine qc X0 hx hby d1_62 ?_
    refine XS.icmpNo X0.here hx rfl (hb hby d1_63) rfl (teq (rfl : (2 : Int32) = (2 : Int32))).2 ?_
    refine st1 _ ?_
    show SG p e below T1 (mkF m 69 #[lV vI2] [(.ref b1)]) _
    refine qd X1 hx hby d1_69 ?_
    refine qc X1 hx hby d1_70 ?_
    refine st4 _ ?_
    show SG p e below T4 (mkF m 73 #[lV vI2] [(.ref b4), (.ref b1), (.ref b1)]) _
    refine qd X4 hx hby d1_73 ?_
    refine qc X4 hx hby d1_74 ?_
    refine qb X4 hx hby d1_75 ?_
    refine st9 _ ?_
    show SG p e below T9 (mkF m 78 #[lV vI2] [(.ref b4), (.ref b1), (.ref b1)]) _
    refine qd X9 hx hby d1_78 ?_
    refine qc X9 hx hby d1_79 ?_
    refine qb X9 hx hby d1_80 ?_
    refine st10 _ ?_
    show SG p e below T10 (mkF m 83 #[lV vI2] [(.ref b4), (.ref b1), (.ref b1)]) _
    refine qd X10 hx hby d1_83 ?_
    refine qc X10 hx hby d1_84 ?_
    refine qb X10 hx hby d1_85 ?_
    refine st11 _ ?_
    show SG p e below T11 (mkF m 88 #[lV vI2] [(.ref b4), (.ref b1), (.ref b1)]) _
    refine st24.trans ?_
    show SG p e below T24 (mkF m 91 #[lV vI2] [(.ref b1)]) _
    exact retOut X24 hx (i := .areturn) hret rfl (Or.inr (Or.inr (Or.inr (Or.inr ⟨rfl, rfl, rfl⟩)))) (hb hby d1_91) hr
theorem d12_17 : DK cB12 17 (.iload_n 0) 1 := by decide +kernel
theorem d12_18 : DK cB12 18 (.iconst 2) 1 := by decide +kernel
theorem d12_19 : DK cB12 19 (.if_icmp .ne 7) 3 := by decide +kernel
theorem d12_22 : DK cB12 22 (.getstatic 47) 3 := by decide +kernel
theorem d12_25 : DK cB12 25 (.areturn) 1 := by decide +kernel
def Q12_3 (Z : State) (r0 : Addr) (h0 : Heap) (n0 : Nat) (v : Option Value) (h : Heap) (L : List Loc) : Prop := v = some (.ref r0) ∧ Fr n0 L ∧ h = h0
theorem rm12_3 (l : Launch) (Z : State) (a0 : Array Value) (hw : own_HW a0 Z) (ws : List Jvm.Cond) (r0 : Addr) (h0 : Heap) (n0 : Nat) (O0 : Old Z n0 h0) (f1 : Sta Z Z.heap cs0 "F32" cs4 (.ref r0)) :
    own_MF l mN5 method_5_code 1 (some (.object cs0)) ws rR0_0_0_0 Z h0 #[vI2] (Q12_3 Z r0 h0 n0) := by
  refine own_open (plainFor_of_name pn_com_example_wiregather_wiregather_wire_FieldTypeOfLabelPinLaw) (L0 := #[lV vI2]) (fun _ => by first | (simp [entryFrame, mkF, argsToLocals, Value.category]; done) | rfl) ?_
  intro p e s m below meth c s₁ hx hby hml hret hnn hZ hown X0 e0
  have N0 := Fr.nil n0
  have f2 := f1.ext O0.2
  obtain ⟨T3, X3, e3, st3⟩ := getS2 X0 hx hZ hown (host := "") (Or.inl (ww hw 114 rfl)) Via.refl e0 f2 (g := (mkF m 22 #[lV vI2] [])) rfl (hb hby d12_22)
  refine ⟨some (.ref r0), _, _, _, _, nofun, X3, by decide, by decide, ?_, fun fs hr => ?_⟩
  · rw [e3]; exact ⟨rfl, N0, rfl⟩
  · show SG p e below s₁ (mkF m 0 #[lV vI2] []) _
    refine qiN X0 hx hby d12_0 ?_
    refine XS.ifYes X0.here hx rfl (pc0 := 1) (pc' := 8) rfl (hb hby d12_1) rfl ((if0 _ _).trans (feq (by decide : ¬ ((2 : Int32) = (0 : Int32)))).2) (by decide) (by decide) ?_
    show SG p e below s₁ (mkF m 8 #[lV vI2] []) _
    refine qiN X0 hx hby d12_8 ?_
    refine qc X0 hx hby d12_9 ?_
    refine XS.icmpYes X0.here hx rfl (pc0 := 10) (pc' := 17) rfl (hb hby d12_10) rfl (feq (by decide : ¬ ((2 : Int32) = (1 : Int32)))).2 (by decide) (by decide) ?_
    show SG p e below s₁ (mkF m 17 #[lV vI2] []) _
    refine qiN X0 hx hby d12_17 ?_
    refine qc X0 hx hby d12_18 ?_
    refine XS.icmpNo X0.here hx rfl (hb hby d12_19) rfl (teq (rfl : (2 : Int32) = (2 : Int32))).2 ?_
    refine st3 _ ?_
    show SG p e below T3 (mkF m 25 #[lV vI2] [(.ref r0)]) _
    exact retOut X3 hx (i := .areturn) hret rfl (Or.inr (Or.inr (Or.inr (Or.inr ⟨rfl, rfl, rfl⟩)))) (hb hby d12_25) hr
def Q0_4 (Z : State) (x0 x1 : Int32) (x2 x3 : Int32) (x4 x5 : Int32) (r6 : Addr) (c7 : ClassId) (r8 r9 : Addr) (r10 r11 : Addr) (r12 r13 : Addr) (r14 r15 : Addr) (c16 : ClassId) (r17 r18 : Addr) (c19 : ClassId) (r20 r21 : Addr) (c22 : ClassId) (r23 r24 : Addr) (c25 : ClassId) (r26 r27 : Addr) (c28 : ClassId) (r29 r30 : Addr) (c31 : ClassId) (h0 : Heap) (n0 : Nat) (v : Option Value) (h : Heap) (L : List Loc) : Prop := v = some vI1 ∧ Fr n0 L
theorem rm0_4 (l : Launch) (Z : State) (a0 : Array Value) (hw : own_HW a0 Z) (ws : List Jvm.Cond) (x0 x1 : Int32) (x2 x3 : Int32) (x4 x5 : Int32) (r6 : Addr) (c7 : ClassId) (r8 r9 : Addr) (r10 r11 : Addr) (r12 r13 : Addr) (r14 r15 : Addr) (c16 : ClassId) (r17 r18 : Addr) (c19 : ClassId) (r20 r21 : Addr) (c22 : ClassId) (r23 r24 : Addr) (c25 : ClassId) (r26 r27 : Addr) (c28 : ClassId) (r29 r30 : Addr) (c31 : ClassId) (h0 : Heap) (n0 : Nat) (O0 : Old Z n0 h0) (hc2 : ¬ ((x0 &&& (3 : Int32)) = (3 : Int32))) (hc3 : (x0 &&& (3 : Int32)) = (0 : Int32)) (hc4 : ((((x0.toUInt32 >>> ((2 : Int32) &&& 31).toUInt32).toInt32) &&& (7 : Int32)) % (6 : Int32)) = (2 : Int32)) (f5 : Sta Z Z.heap "java/lang/String" "COMPACT_STRINGS" "Z" (.int x5)) (hc6 : ¬ (x5 = (0 : Int32))) (f19 : Sta Z Z.heap cs0 "$VALUES" cs1 (.ref r6)) (f20 : Exa Z Z.heap r6 cs1) (f21 : Arv Z Z.heap r6 c7 (.object cs0) (6 : Int32) [(.ref r8), (.ref r9), (.ref r10), (.ref r11), (.ref r12), (.ref r13)] .null) (f22 : Fld Z Z.heap r8 cs0 "label" "Ljava/lang/String;" (.ref r14)) (f23 : Exa Z Z.heap r14 "java/lang/String") (f24 : Fld Z Z.heap r14 "java/lang/String" "coder" "B" vI0) (f25 : Fld Z Z.heap r14 "java/lang/String" "value" "[B" (.ref r15)) (f26 : Arv Z Z.heap r15 c16 .byte (3 : Int32) [vI105, vI51, vI50] vI0) (f27 : Fld Z Z.heap r9 cs0 "label" "Ljava/lang/String;" (.ref r17)) (f28 : Exa Z Z.heap r17 "java/lang/String") (f29 : Fld Z Z.heap r17 "java/lang/String" "coder" "B" vI0) (f30 : Fld Z Z.heap r17 "java/lang/String" "value" "[B" (.ref r18)) (f31 : Arv Z Z.heap r18 c19 .byte (3 : Int32) [vI117, vI51, vI50] vI0) (f32 : Fld Z Z.heap r10 cs0 "label" "Ljava/lang/String;" (.ref r20)) (f33 : Exa Z Z.heap r20 "java/lang/String") (f34 : Fld Z Z.heap r20 "java/lang/String" "coder" "B" vI0) (f35 : Fld Z Z.heap r20 "java/lang/String" "value" "[B" (.ref r21)) (f36 : Arv Z Z.heap r21 c22 .byte (3 : Int32) [vI102, vI51, vI50] vI0) (f37 : Fld Z Z.heap r11 cs0 "label" "Ljava/lang/String;" (.ref r23)) (f38 : Exa Z Z.heap r23 "java/lang/String") (f39 : Fld Z Z.heap r23 "java/lang/String" "coder" "B" vI0) (f40 : Fld Z Z.heap r23 "java/lang/String" "value" "[B" (.ref r24)) (f41 : Arv Z Z.heap r24 c25 .byte (3 : Int32) [vI102, vI54, vI52] vI0) (f42 : Fld Z Z.heap r12 cs0 "label" "Ljava/lang/String;" (.ref r26)) (f43 : Exa Z Z.heap r26 "java/lang/String") (f44 : Fld Z Z.heap r26 "java/lang/String" "coder" "B" vI0) (f45 : Fld Z Z.heap r26 "java/lang/String" "value" "[B" (.ref r27)) (f46 : Arv Z Z.heap r27 c28 .byte (4 : Int32) [vI116, vI101, vI120, vI116] vI0) (f47 : Fld Z Z.heap r13 cs0 "label" "Ljava/lang/String;" (.ref r29)) (f48 : Exa Z Z.heap r29 "java/lang/String") (f49 : Fld Z Z.heap r29 "java/lang/String" "coder" "B" vI0) (f50 : Fld Z Z.heap r29 "java/lang/String" "value" "[B" (.ref r30)) (f51 : Arv Z Z.heap r30 c31 .byte (4 : Int32) [vI103, vI117, vI105, vI100] vI0) (f55 : Sta Z Z.heap cs0 "F32" cs4 (.ref r10)) (hc58 : (own_lab [(102 : Int32), (51 : Int32), (50 : Int32)] r8 r9 r10 r11 r12 r13) = (.ref r10)) :
    own_MH l x code maxLocals ret ws room_1 Z h0 #[(.int x0), (.int x1), (.int x2), (.int x3), (.int x4)] (Q0_4 Z x0 x1 x2 x3 x4 x5 r6 c7 r8 r9 r10 r11 r12 r13 r14 r15 c16 r17 r18 c19 r20 r21 c22 r23 r24 c25 r26 r27 c28 r29 r30 c31 h0 n0) := by
  have hEL : EW Z a0 consts_1 := own_EW hw
  refine own_openH hEL (plainFor_of_name pn_com_example_wiregather_wiregather_wire_FieldTypeOfLabelPinLaw) (L0 := #[lI x0, lI x1, lI x2, lI x3, lI x4, lU, lU, lU, lU, lU, lU, lU, lU]) (fun _ => by first | (simp [entryFrame, mkF, argsToLocals, Value.category, maxLocals]; done) | rfl) ?_
  intro p e s m below meth c s₁ hx hby hml hret hnn hZ hown X0 e0 R0
  have N0 := Fr.nil n0; have w := @ww Z a0 hw
  have hS1 := (State.WarmedH.refl s).since 0
  obtain ⟨_, T7, Lc7, X7, hQ7, st7⟩ := own_cS X0 hx hZ hown e0 (rm1_3 l Z a0 hw [] x5 h0 n0 O0 f5 hc6) (w 0 rfl) (w 1 rfl) (w 2 rfl) (w 3 rfl) (by decide) (W := 0) (by decide) (by decide) (by decide) (by decide) (g := (mkF m 42 #[lI x0, lI x1, lI x2, lI x3, lI x4, .val (.int (x0 &&& (3 : Int32))), lV vI2, lU, lU, lU, lU, lU, lU] [vI2])) rfl (by rw [hml]; rfl) (argsL := [vI2]) (rest := []) (lenOf pd__I_Ljava_lang_String_ rfl) rfl (own_W rfl) (hb hby at_42)
  obtain ⟨b7_0, b7_1, k7_0, rfl, N7q, K7, f8, f9, f10, f11, f12, f13, f14, f15⟩ := hQ7
  have N7 := Fr.app N0 N7q
  have R16 := CHr.trans R0 (CHr.keep K7 sf0 R0.1)
  have sf17 : Safe Z consts_1 s.vm h0 b7_0 := Safe.new f8
  have sf18 : Safe Z consts_1 s.vm h0 b7_1 := Safe.new f12
  have o52 := Old.keep O0 K7 all0
  obtain ⟨_, T53, Lc53, X53, hQ53, st53⟩ := own_cS X7 hx hZ hown rfl (rm8_9 l Z a0 hw [] b7_0 b7_1 k7_0 (3 : Int32) ([(102 : Int32), (51 : Int32), (50 : Int32)]) r6 c7 r8 r9 r10 r11 r12 r13 r14 r15 c16 x5 r17 r18 c19 r20 r21 c22 r23 r24 c25 r26 r27 c28 r29 r30 c31 T7.heap n0 o52 f11 f13 f19 f20 f21 f22 f23 f24 f25 f26 f9 f10 (by decide) (by decide) f5 hc6 f27 f28 f29 f30 f31 f32 f33 f34 f35 f36 f37 f38 f39 f40 f41 f42 f43 f44 f45 f46 f47 f48 f49 f50 f51) (w 34 rfl) (w 35 rfl) (w 36 rfl) (w 37 rfl) (by decide) (W := 0) (by decide) (by decide) (by decide) (by decide) (g := (mkF m 45 #[lI x0, lI x1, lI x2, lI x3, lI x4, .val (.int (x0 &&& (3 : Int32))), lV vI2, lU, lU, lU, lU, lU, lU] [(.ref b7_0)])) rfl (by rw [hml]; rfl) (argsL := [(.ref b7_0)]) (rest := []) (lenOf pd__Ljava_lang_String__Lcom_example_wiregather_wiregather_wire_FieldType_ rfl) rfl (own_W rfl) (hb hby at_45)
  obtain ⟨rfl, N53q, K53⟩ := hQ53
  have N53 := Fr.app N7 N53q
  have R54 := CHr.trans R16 (CHr.keep K53 sf0 R16.1)
  have o56 := Old.keep o52 K53 all0
  obtain ⟨_, T57, Lc57, X57, hQ57, st57⟩ := own_finT (Jvm.LawKit.callS X53 hx (y := mN5) hown (mvT hZ (w 71 rfl)) (mvT hZ (w 72 rfl)) (mvT hZ (w 2 rfl)) (mvT hZ (w 73 rfl)) (by decide) (backOf (W := 1) (rm12_3 l Z a0 hw [] r10 T53.heap n0 o56 f55) hZ (w 73 rfl) (w 2 rfl) (by decide) (by decide)) (g := (mkF m 50 #[lI x0, lI x1, lI x2, lI x3, lI x4, .val (.int (x0 &&& (3 : Int32))), lV vI2, lU, lU, lU, lU, lU, lU] [vI2, (own_lab [(102 : Int32), (51 : Int32), (50 : Int32)] r8 r9 r10 r11 r12 r13)])) rfl (by rw [hml]; rfl) (argsL := [vI2]) (rest := [(own_lab [(102 : Int32), (51 : Int32), (50 : Int32)] r8 r9 r10 r11 r12 r13)]) (lenOf pd__I_Lcom_example_wiregather_wiregather_wire_FieldType_ rfl) rfl (by show 2 * 0 + _ ≤ _; simp only [List.map, own_qcat]; exact Nat.le_of_eq rfl) (hb hby at_50) (fun _ _ => ⟨rfl, rfl, (by decide : 4 + 0 ≤ _), (by decide : 16 + 0 ≤ _)⟩))
  obtain ⟨rfl, N57q, E57⟩ := hQ57
  have N57 := Fr.app N53 N57q
  refine ⟨some vI1, _, _, _, _, _, _, _, nofun, X57, by decide, by decide, hS1, (by rw [E57]; exact (Nat.zero_le _)), hZ, E57, R54, ?_, fun fs hr => ?_⟩
  · rw [E57]; exact ⟨rfl, N57⟩
  · show SG p e below s₁ (mkF m 0 #[lI x0, lI x1, lI x2, lI x3, lI x4, lU, lU, lU, lU, lU, lU, lU, lU] []) _
    refine qiN X0 hx hby at_0 ?_
    refine qc X0 hx hby at_1 ?_
    refine XS.iand X0.here hx rfl (hb hby at_2) rfl ?_
    refine XS.istore X0.here hx rfl (hb hby at_3) rfl (l' := #[lI x0, lI x1, lI x2, lI x3, lI x4, .val (.int (x0 &&& (3 : Int32))), lU, lU, lU, lU, lU, lU, lU]) rfl ?_
    refine qi X0 hx hby at_5 ?_
    refine qc X0 hx hby at_7 ?_
    refine XS.icmpYes X0.here hx rfl (pc0 := 8) (pc' := 24) rfl (hb hby at_8) rfl (feq hc2).2 (by decide) (by decide) ?_
    show SG p e below s₁ (mkF m 24 #[lI x0, lI x1, lI x2, lI x3, lI x4, .val (.int (x0 &&& (3 : Int32))), lU, lU, lU, lU, lU, lU, lU] []) _
    refine qi X0 hx hby at_24 ?_
    refine XS.ifNo X0.here hx rfl (hb hby at_26) rfl ((if0 _ _).trans (teq hc3).2) ?_
    refine qiN X0 hx hby at_29 ?_
    refine qc X0 hx hby at_30 ?_
    refine XS.iushr X0.here hx rfl (hb hby at_31) rfl ?_
    refine qb X0 hx hby at_32 ?_
    refine XS.iand X0.here hx rfl (hb hby at_34) rfl ?_
    refine qb X0 hx hby at_35 ?_
    show SG p e below s₁ (mkF m 37 #[lI x0, lI x1, lI x2, lI x3, lI x4, .val (.int (x0 &&& (3 : Int32))), lU, lU, lU, lU, lU, lU, lU] [vI6, (.int (((x0.toUInt32 >>> ((2 : Int32) &&& 31).toUInt32).toInt32) &&& (7 : Int32)))]) _
    refine iremM (g := (mkF m 37 #[lI x0, lI x1, lI x2, lI x3, lI x4, .val (.int (x0 &&& (3 : Int32))), lU, lU, lU, lU, lU, lU, lU] [vI6, (.int (((x0.toUInt32 >>> ((2 : Int32) &&& 31).toUInt32).toInt32) &&& (7 : Int32)))])) X0 hx rfl (hb hby at_37) rfl (by decide : ¬ ((6 : Int32) = (0 : Int32))) ?_
    show SG p e below s₁ (mkF m 38 #[lI x0, lI x1, lI x2, lI x3, lI x4, .val (.int (x0 &&& (3 : Int32))), lU, lU, lU, lU, lU, lU, lU] [(.int ((((x0.toUInt32 >>> ((2 : Int32) &&& 31).toUInt32).toInt32) &&& (7 : Int32)) % (6 : Int32)))]) _
    rw [hc4]
    show SG p e below s₁ (mkF m 38 #[lI x0, lI x1, lI x2, lI x3, lI x4, .val (.int (x0 &&& (3 : Int32))), lU, lU, lU, lU, lU, lU, lU] [vI2]) _
    refine XS.istore X0.here hx rfl (hb hby at_38) rfl (l' := #[lI x0, lI x1, lI x2, lI x3, lI x4, .val (.int (x0 &&& (3 : Int32))), lV vI2, lU, lU, lU, lU, lU, lU]) rfl ?_
    refine qi X0 hx hby at_40 ?_
    refine st7 _ ?_
    show SG p e below T7 (mkF m 45 #[lI x0, lI x1, lI x2, lI x3, lI x4, .val (.int (x0 &&& (3 : Int32))), lV vI2, lU, lU, lU, lU, lU, lU] [(.ref b7_0)]) _
    refine st53 _ ?_
    show SG p e below T53 (mkF m 48 #[lI x0, lI x1, lI x2, lI x3, lI x4, .val (.int (x0 &&& (3 : Int32))), lV vI2, lU, lU, lU, lU, lU, lU] [(own_lab [(102 : Int32), (51 : Int32), (50 : Int32)] r8 r9 r10 r11 r12 r13)]) _
    refine qi X53 hx hby at_48 ?_
    refine st57 _ ?_
    show SG p e below T57 (mkF m 53 #[lI x0, lI x1, lI x2, lI x3, lI x4, .val (.int (x0 &&& (3 : Int32))), lV vI2, lU, lU, lU, lU, lU, lU] [(.ref r10), (own_lab [(102 : Int32), (51 : Int32), (50 : Int32)] r8 r9 r10 r11 r12 r13)]) _
    refine Jvm.RoadKit.acmp (g := (mkF m 53 #[lI x0, lI x1, lI x2, lI x3, lI x4, .val (.int (x0 &&& (3 : Int32))), lV vI2, lU, lU, lU, lU, lU, lU] [(.ref r10), (own_lab [(102 : Int32), (51 : Int32), (50 : Int32)] r8 r9 r10 r11 r12 r13)])) X57 hx rfl (own_labRef) rfl (pc0 := 53) (pc' := 56) (same := true) rfl (hb hby at_53) rfl (decide_eq_true hc58) (by decide) (by decide) ?_
    show SG p e below T57 (mkF m 56 #[lI x0, lI x1, lI x2, lI x3, lI x4, .val (.int (x0 &&& (3 : Int32))), lV vI2, lU, lU, lU, lU, lU, lU] []) _
    refine qc X57 hx hby at_56 ?_
    refine XS.goto X57.here hx rfl (pc0 := 57) (pc' := 61) rfl (hb hby at_57) (by decide) (by decide) ?_
    show SG p e below T57 (mkF m 61 #[lI x0, lI x1, lI x2, lI x3, lI x4, .val (.int (x0 &&& (3 : Int32))), lV vI2, lU, lU, lU, lU, lU, lU] [vI1]) _
    exact retN X57 hx (t := .boolean) hret (by simp) (hb hby at_61) hr
theorem d1_92 : DK cB1 92 (.iload_n 0) 1 := by decide +kernel
theorem d1_93 : DK cB1 93 (.iconst 3) 1 := by decide +kernel
theorem d1_94 : DK cB1 94 (.if_icmp .ne 29) 3 := by decide +kernel
theorem d1_97 : DK cB1 97 (.new 27) 3 := by decide +kernel
theorem d1_100 : DK cB1 100 (.dup) 1 := by decide +kernel
theorem d1_101 : DK cB1 101 (.iconst 3) 1 := by decide +kernel
theorem d1_102 : DK cB1 102 (.newarray .char) 2 := by decide +kernel
theorem d1_104 : DK cB1 104 (.dup) 1 := by decide +kernel
theorem d1_105 : DK cB1 105 (.iconst 0) 1 := by decide +kernel
theorem d1_106 : DK cB1 106 (.bipush 102) 2 := by decide +kernel
theorem d1_108 : DK cB1 108 (.castore) 1 := by decide +kernel
theorem d1_109 : DK cB1 109 (.dup) 1 := by decide +kernel
theorem d1_110 : DK cB1 110 (.iconst 1) 1 := by decide +kernel
theorem d1_111 : DK cB1 111 (.bipush 54) 2 := by decide +kernel
theorem d1_113 : DK cB1 113 (.castore) 1 := by decide +kernel
theorem d1_114 : DK cB1 114 (.dup) 1 := by decide +kernel
theorem d1_115 : DK cB1 115 (.iconst 2) 1 := by decide +kernel
theorem d1_116 : DK cB1 116 (.bipush 52) 2 := by decide +kernel
theorem d1_118 : DK cB1 118 (.castore) 1 := by decide +kernel
theorem d1_119 : DK cB1 119 (.invokespecial 29) 3 := by decide +kernel
theorem d1_122 : DK cB1 122 (.areturn) 1 := by decide +kernel
def Q1_4 (Z : State) (x0 : Int32) (h0 : Heap) (n0 : Nat) (v : Option Value) (h : Heap) (L : List Loc) : Prop := ∃ (b1 b24_0 : Addr) (k24_0 : ClassId), v = some (.ref b1) ∧ Fr n0 L ∧ Keep h0 h [] ∧ h0.size ≤ b1 ∧ Exa Z h b1 "java/lang/String" ∧ Fld Z h b1 "java/lang/String" "coder" "B" vI0 ∧ Fld Z h b1 "java/lang/String" "value" "[B" (.ref b24_0) ∧ h0.size ≤ b24_0 ∧ Arv Z h b24_0 k24_0 .byte (3 : Int32) [vI102, vI54, vI52] vI0 ∧ Exa Z h b24_0 "[B" ∧ b1 ≠ b24_0
theorem rm1_4 (l : Launch) (Z : State) (a0 : Array Value) (hw : own_HW a0 Z) (ws : List Jvm.Cond) (x0 : Int32) (h0 : Heap) (n0 : Nat) (O0 : Old Z n0 h0) (f17 : Sta Z Z.heap "java/lang/String" "COMPACT_STRINGS" "Z" (.int x0)) (hc21 : ¬ (x0 = (0 : Int32))) :
    own_MF l mN3 method_4_code 1 (some (.object "java/lang/String")) ws rR4_3_10_66 Z h0 #[vI3] (Q1_4 Z x0 h0 n0) := by
  refine own_open (plainFor_of_name pn_com_example_wiregather_wiregather_wire_FieldTypeOfLabelPinLaw) (L0 := #[lV vI3]) (fun _ => by first | (simp [entryFrame, mkF, argsToLocals, Value.category]; done) | rfl) ?_
  intro p e s m below meth c s₁ hx hby hml hret hnn hZ hown X0 e0
  have N0 := Fr.nil n0; have w := @ww Z a0 hw
  obtain ⟨T1, h1, X1, e1, E1, A1, D1, -, st1⟩ := newO X0 hx hZ hown (w 4 rfl) (w 5 rfl) (w 6 rfl) e0 (g := (mkF m 97 #[lV vI3] [])) rfl (hb hby d1_97) (by decide) (by decide)
  obtain ⟨b1, g1⟩ : ∃ z, z = h0.size := ⟨_, rfl⟩
  rw [← g1] at A1 D1 st1
  have f2 : Fld Z h1 b1 "java/lang/String" "coder" "B" vI0 := D1 (Or.inr (w 31 rfl)) (ty := .byte) (by decide)
  have f3 : Fld Z h1 b1 "java/lang/String" "value" "[B" .null := D1 (Or.inr (w 33 rfl)) (ty := (.array .byte)) (by decide)
  obtain ⟨T4, h4, k4, X4, e4, E4, A4, B4, st4⟩ := newPE X1 hx hZ (w 7 rfl) e1 (g := (mkF m 102 #[lV vI3] [vI3, (.ref b1), (.ref b1)])) rfl (hb hby d1_102) rfl (by decide) (cap := 3) (by decide) (by decide) (by decide) (by decide) (ad := "[C") rfl
  obtain ⟨b4, g4⟩ : ∃ z, z = h1.size := ⟨_, rfl⟩
  rw [← g4] at A4 B4 st4
  have V4 : Arv Z h4 b4 k4 .char (3 : Int32) [vI0, vI0, vI0] vI0 := (Arv.new A4 (by decide)).pad (pad_rep [] vI0 3)
  have o7 := Old.ext O0 E1
  have zz6 : n0 ≤ h1.size := by rw [← o7.1]; exact o7.2.1
  have g8 := Nat.le_trans zz6 (Nat.le_of_eq g4.symm)
  obtain ⟨T9, h9, L9, X9, e9, N9, K9, V9, st9⟩ := own_stC X4 hx hZ e4 (Keep.refl _ _) V4 N0 g8 0 rfl (Nat.le_of_ble_eq_true rfl) ⟨by decide, by decide⟩ (g := (mkF m 108 #[lV vI3] [vI102, vI0, (.ref b4), (.ref b4), (.ref b1), (.ref b1)])) rfl rfl (hb hby d1_108)
  obtain ⟨T10, h10, L10, X10, e10, N10, K10, V10, st10⟩ := own_stC X9 hx hZ e9 K9 V9 N9 g8 1 rfl (Nat.le_of_ble_eq_true rfl) ⟨by decide, by decide⟩ (g := (mkF m 113 #[lV vI3] [vI54, vI1, (.ref b4), (.ref b4), (.ref b1), (.ref b1)])) rfl rfl (hb hby d1_113)
  obtain ⟨T11, h11, L11, X11, e11, N11, K11, V11, st11⟩ := own_stC X10 hx hZ e10 K10 V10 N10 g8 2 rfl (Nat.le_of_ble_eq_true rfl) ⟨by decide, by decide⟩ (g := (mkF m 118 #[lV vI3] [vI52, vI2, (.ref b4), (.ref b4), (.ref b1), (.ref b1)])) rfl rfl (hb hby d1_118)
  have f12 : Arv Z h11 b4 k4 .char (3 : Int32) [vI102, vI54, vI52] vI0 := V11
  have f13 := ((A1.ext E4).keep K11)
  have n14 := Nat.ne_of_lt (Nat.lt_of_lt_of_le A1.lt (Nat.le_of_eq g4.symm))
  have f15 := ((f3.ext E4).keep K11 (ninS n14 nin0))
  have f16 := ((f2.ext E4).keep K11 (ninS n14 nin0))
  have o18 := Old.ext o7 E4
  have o19 := Old.keep o18 K11 (allS g8 all0)
  have f20 := f17.ext o19.2
  have zz22 : n0 ≤ h0.size := by rw [← O0.1]; exact O0.2.1
  have g23 := Nat.le_trans zz22 (Nat.le_of_eq g1.symm)
  obtain ⟨_, T24, Lc24, X24, hQ24, st24⟩ := own_fin (X11.specialBack hx (y := mN4) rfl hown (mvT hZ (w 8 rfl)) (mvT hZ (w 9 rfl)) (mvT hZ (w 10 rfl)) (by decide) (own_newStr hZ hw (w 5 rfl) (cs := [(102 : Int32), (54 : Int32), (52 : Int32)]) (n := 3) g23 f13 f15 f16 f12 f20 hc21 rfl rfl (by decide) (by decide) (own_acS (by decide : ¬ ((255 : Int32) < (102 : Int32))) (own_acS (by decide : ¬ ((255 : Int32) < (54 : Int32))) (own_acS (by decide : ¬ ((255 : Int32) < (52 : Int32))) own_ac0))) (own_bsS (by decide : ((102 : Int32)).toInt8.toInt32 = (102 : Int32)) (own_bsS (by decide : ((54 : Int32)).toInt8.toInt32 = (54 : Int32)) (own_bsS (by decide : ((52 : Int32)).toInt8.toInt32 = (52 : Int32)) own_bs0))) (by decide) (by decide : 1 + 65 ≤ _)) (g := (mkF m 119 #[lV vI3] [(.ref b4), (.ref b1), (.ref b1)])) rfl (by rw [hml]; rfl) (Steps.refl _) (a := b1) (argsL := [(.ref b4)]) (rest := [(.ref b1)]) (lenOf pd___C_V rfl) rfl (own_W rfl) (hb hby d1_119) (fun _ _ => ⟨rfl, e11, (by decide : 2 + 1 ≤ _), (by decide : 7 + 3 ≤ _)⟩))
  obtain ⟨b24_0, k24_0, rfl, N24q, K24, f25, f26, f27, f28, f29, f30⟩ := hQ24
  have N24 := Fr.app N11 N24q
  have f31 := (f13.keep K24)
  have zs32 := E1.1
  have zs33 := Nat.le_trans zs32 E4.1
  have zs34 := Nat.le_trans zs33 K11.1
  have zs35 := E4.1
  have zs36 := Nat.le_trans zs35 K11.1
  have n37 := Nat.ne_of_lt (Nat.lt_of_lt_of_le (Nat.lt_of_lt_of_le A1.lt zs36) f27)
  have kp38 : Keep h0 h1 [] := (Keep.refl h0 []).ext E1
  have kp39 : Keep h0 h4 [] := kp38.ext E4
  have kp40 : Keep h0 h11 [] := kp39.trans K11 (allS (Or.inr (Nat.le_trans zs32 (Nat.le_of_eq g4.symm))) all0)
  have kp41 : Keep h0 T24.heap [] := kp40.trans K24 (allS (Or.inr (Nat.le_of_eq g1.symm)) all0)
  refine ⟨some (.ref b1), _, _, _, _, nofun, X24, by decide, by decide, ?_, fun fs hr => ?_⟩
  · exact ⟨b1, b24_0, k24_0, rfl, N24, kp41, (Nat.le_of_eq g1.symm), f31, f25, f26, (Nat.le_trans zs34 f27), f28, f29, n37⟩
  · show SG p e below s₁ (mkF m 0 #[lV vI3] []) _
    refine qiN X0 hx hby d1_0 ?_
    refine XS.ifYes X0.here hx rfl (pc0 := 1) (pc' := 30) rfl (hb hby d1_1) rfl ((if0 _ _).trans (feq (by decide : ¬ ((3 : Int32) = (0 : Int32)))).2) (by decide) (by decide) ?_
    show SG p e below s₁ (mkF m 30 #[lV vI3] []) _
    refine qiN X0 hx hby d1_30 ?_
    refine qc X0 hx hby d1_31 ?_
    refine XS.icmpYes X0.here hx rfl (pc0 := 32) (pc' := 61) rfl (hb hby d1_32) rfl (feq (by decide : ¬ ((3 : Int32) = (1 : Int32)))).2 (by decide) (by decide) ?_
    show SG p e below s₁ (mkF m 61 #[lV vI3] []) _
    refine qiN X0 hx hby d1_61 ?_
    refine qc X0 hx hby d1_62 ?_
    refine XS.icmpYes X0.here hx rfl (pc0 := 63) (pc' := 92) rfl (hb hby d1_63) rfl (feq (by decide : ¬ ((3 : Int32) = (2 : Int32)))).2 (by decide) (by decide) ?_
    show SG p e below s₁ (mkF m 92 #[lV vI3] []) _
    refine qiN X0 hx hby d1_92 ?_
    refine qc X0 hx hby d1_93 ?_
    refine XS.icmpNo X0.here hx rfl (hb hby d1_94) rfl (teq (rfl : (3 : Int32) = (3 : Int32))).2 ?_
    refine st1 _ ?_
    show SG p e below T1 (mkF m 100 #[lV vI3] [(.ref b1)]) _
    refine qd X1 hx hby d1_100 ?_
    refine qc X1 hx hby d1_101 ?_
    refine st4 _ ?_
    show SG p e below T4 (mkF m 104 #[lV vI3] [(.ref b4), (.ref b1), (.ref b1)]) _
    refine qd X4 hx hby d1_104 ?_
    refine qc X4 hx hby d1_105 ?_
    refine qb X4 hx hby d1_106 ?_
    refine st9 _ ?_
    show SG p e below T9 (mkF m 109 #[lV vI3] [(.ref b4), (.ref b1), (.ref b1)]) _
    refine qd X9 hx hby d1_109 ?_
    refine qc X9 hx hby d1_110 ?_
    refine qb X9 hx hby d1_111 ?_
    refine st10 _ ?_
    show SG p e below T10 (mkF m 114 #[lV vI3] [(.ref b4), (.ref b1), (.ref b1)]) _
    refine qd X10 hx hby d1_114 ?_
    refine qc X10 hx hby d1_115 ?_
    refine qb X10 hx hby d1_116 ?_
    refine st11 _ ?_
    show SG p e below T11 (mkF m 119 #[lV vI3] [(.ref b4), (.ref b1), (.ref b1)]) _
    refine st24.trans ?_
    show SG p e below T24 (mkF m 122 #[lV vI3] [(.ref b1)]) _
    exact retOut X24 hx (i := .areturn) hret rfl (Or.inr (Or.inr (Or.inr (Or.inr ⟨rfl, rfl, rfl⟩)))) (hb hby d1_122) hr
theorem d12_26 : DK cB12 26 (.iload_n 0) 1 := by decide +kernel
theorem d12_27 : DK cB12 27 (.iconst 3) 1 := by decide +kernel
theorem d12_28 : DK cB12 28 (.if_icmp .ne 7) 3 := by decide +kernel
theorem d12_31 : DK cB12 31 (.getstatic 50) 3 := by decide +kernel
theorem d12_34 : DK cB12 34 (.areturn) 1 := by decide +kernel
def Q12_4 (Z : State) (r0 : Addr) (h0 : Heap) (n0 : Nat) (v : Option Value) (h : Heap) (L : List Loc) : Prop := v = some (.ref r0) ∧ Fr n0 L ∧ h = h0
theorem rm12_4 (l : Launch) (Z : State) (a0 : Array Value) (hw : own_HW a0 Z) (ws : List Jvm.Cond) (r0 : Addr) (h0 : Heap) (n0 : Nat) (O0 : Old Z n0 h0) (f1 : Sta Z Z.heap cs0 "F64" cs4 (.ref r0)) :
    own_MF l mN5 method_5_code 1 (some (.object cs0)) ws rR0_0_0_0 Z h0 #[vI3] (Q12_4 Z r0 h0 n0) := by
  refine own_open (plainFor_of_name pn_com_example_wiregather_wiregather_wire_FieldTypeOfLabelPinLaw) (L0 := #[lV vI3]) (fun _ => by first | (simp [entryFrame, mkF, argsToLocals, Value.category]; done) | rfl) ?_
  intro p e s m below meth c s₁ hx hby hml hret hnn hZ hown X0 e0
  have N0 := Fr.nil n0
  have f2 := f1.ext O0.2
  obtain ⟨T3, X3, e3, st3⟩ := getS2 X0 hx hZ hown (host := "") (Or.inl (ww hw 115 rfl)) Via.refl e0 f2 (g := (mkF m 31 #[lV vI3] [])) rfl (hb hby d12_31)
  refine ⟨some (.ref r0), _, _, _, _, nofun, X3, by decide, by decide, ?_, fun fs hr => ?_⟩
  · rw [e3]; exact ⟨rfl, N0, rfl⟩
  · show SG p e below s₁ (mkF m 0 #[lV vI3] []) _
    refine qiN X0 hx hby d12_0 ?_
    refine XS.ifYes X0.here hx rfl (pc0 := 1) (pc' := 8) rfl (hb hby d12_1) rfl ((if0 _ _).trans (feq (by decide : ¬ ((3 : Int32) = (0 : Int32)))).2) (by decide) (by decide) ?_
    show SG p e below s₁ (mkF m 8 #[lV vI3] []) _
    refine qiN X0 hx hby d12_8 ?_
    refine qc X0 hx hby d12_9 ?_
    refine XS.icmpYes X0.here hx rfl (pc0 := 10) (pc' := 17) rfl (hb hby d12_10) rfl (feq (by decide : ¬ ((3 : Int32) = (1 : Int32)))).2 (by decide) (by decide) ?_
    show SG p e below s₁ (mkF m 17 #[lV vI3] []) _
    refine qiN X0 hx hby d12_17 ?_
    refine qc X0 hx hby d12_18 ?_
    refine XS.icmpYes X0.here hx rfl (pc0 := 19) (pc' := 26) rfl (hb hby d12_19) rfl (feq (by decide : ¬ ((3 : Int32) = (2 : Int32)))).2 (by decide) (by decide) ?_
    show SG p e below s₁ (mkF m 26 #[lV vI3] []) _
    refine qiN X0 hx hby d12_26 ?_
    refine qc X0 hx hby d12_27 ?_
    refine XS.icmpNo X0.here hx rfl (hb hby d12_28) rfl (teq (rfl : (3 : Int32) = (3 : Int32))).2 ?_
    refine st3 _ ?_
    show SG p e below T3 (mkF m 34 #[lV vI3] [(.ref r0)]) _
    exact retOut X3 hx (i := .areturn) hret rfl (Or.inr (Or.inr (Or.inr (Or.inr ⟨rfl, rfl, rfl⟩)))) (hb hby d12_34) hr
def Q0_5 (Z : State) (x0 x1 : Int32) (x2 x3 : Int32) (x4 x5 : Int32) (r6 : Addr) (c7 : ClassId) (r8 r9 : Addr) (r10 r11 : Addr) (r12 r13 : Addr) (r14 r15 : Addr) (c16 : ClassId) (r17 r18 : Addr) (c19 : ClassId) (r20 r21 : Addr) (c22 : ClassId) (r23 r24 : Addr) (c25 : ClassId) (r26 r27 : Addr) (c28 : ClassId) (r29 r30 : Addr) (c31 : ClassId) (h0 : Heap) (n0 : Nat) (v : Option Value) (h : Heap) (L : List Loc) : Prop := v = some vI1 ∧ Fr n0 L
theorem rm0_5 (l : Launch) (Z : State) (a0 : Array Value) (hw : own_HW a0 Z) (ws : List Jvm.Cond) (x0 x1 : Int32) (x2 x3 : Int32) (x4 x5 : Int32) (r6 : Addr) (c7 : ClassId) (r8 r9 : Addr) (r10 r11 : Addr) (r12 r13 : Addr) (r14 r15 : Addr) (c16 : ClassId) (r17 r18 : Addr) (c19 : ClassId) (r20 r21 : Addr) (c22 : ClassId) (r23 r24 : Addr) (c25 : ClassId) (r26 r27 : Addr) (c28 : ClassId) (r29 r30 : Addr) (c31 : ClassId) (h0 : Heap) (n0 : Nat) (O0 : Old Z n0 h0) (hc2 : ¬ ((x0 &&& (3 : Int32)) = (3 : Int32))) (hc3 : (x0 &&& (3 : Int32)) = (0 : Int32)) (hc4 : ((((x0.toUInt32 >>> ((2 : Int32) &&& 31).toUInt32).toInt32) &&& (7 : Int32)) % (6 : Int32)) = (3 : Int32)) (f5 : Sta Z Z.heap "java/lang/String" "COMPACT_STRINGS" "Z" (.int x5)) (hc6 : ¬ (x5 = (0 : Int32))) (f19 : Sta Z Z.heap cs0 "$VALUES" cs1 (.ref r6)) (f20 : Exa Z Z.heap r6 cs1) (f21 : Arv Z Z.heap r6 c7 (.object cs0) (6 : Int32) [(.ref r8), (.ref r9), (.ref r10), (.ref r11), (.ref r12), (.ref r13)] .null) (f22 : Fld Z Z.heap r8 cs0 "label" "Ljava/lang/String;" (.ref r14)) (f23 : Exa Z Z.heap r14 "java/lang/String") (f24 : Fld Z Z.heap r14 "java/lang/String" "coder" "B" vI0) (f25 : Fld Z Z.heap r14 "java/lang/String" "value" "[B" (.ref r15)) (f26 : Arv Z Z.heap r15 c16 .byte (3 : Int32) [vI105, vI51, vI50] vI0) (f27 : Fld Z Z.heap r9 cs0 "label" "Ljava/lang/String;" (.ref r17)) (f28 : Exa Z Z.heap r17 "java/lang/String") (f29 : Fld Z Z.heap r17 "java/lang/String" "coder" "B" vI0) (f30 : Fld Z Z.heap r17 "java/lang/String" "value" "[B" (.ref r18)) (f31 : Arv Z Z.heap r18 c19 .byte (3 : Int32) [vI117, vI51, vI50] vI0) (f32 : Fld Z Z.heap r10 cs0 "label" "Ljava/lang/String;" (.ref r20)) (f33 : Exa Z Z.heap r20 "java/lang/String") (f34 : Fld Z Z.heap r20 "java/lang/String" "coder" "B" vI0) (f35 : Fld Z Z.heap r20 "java/lang/String" "value" "[B" (.ref r21)) (f36 : Arv Z Z.heap r21 c22 .byte (3 : Int32) [vI102, vI51, vI50] vI0) (f37 : Fld Z Z.heap r11 cs0 "label" "Ljava/lang/String;" (.ref r23)) (f38 : Exa Z Z.heap r23 "java/lang/String") (f39 : Fld Z Z.heap r23 "java/lang/String" "coder" "B" vI0) (f40 : Fld Z Z.heap r23 "java/lang/String" "value" "[B" (.ref r24)) (f41 : Arv Z Z.heap r24 c25 .byte (3 : Int32) [vI102, vI54, vI52] vI0) (f42 : Fld Z Z.heap r12 cs0 "label" "Ljava/lang/String;" (.ref r26)) (f43 : Exa Z Z.heap r26 "java/lang/String") (f44 : Fld Z Z.heap r26 "java/lang/String" "coder" "B" vI0) (f45 : Fld Z Z.heap r26 "java/lang/String" "value" "[B" (.ref r27)) (f46 : Arv Z Z.heap r27 c28 .byte (4 : Int32) [vI116, vI101, vI120, vI116] vI0) (f47 : Fld Z Z.heap r13 cs0 "label" "Ljava/lang/String;" (.ref r29)) (f48 : Exa Z Z.heap r29 "java/lang/String") (f49 : Fld Z Z.heap r29 "java/lang/String" "coder" "B" vI0) (f50 : Fld Z Z.heap r29 "java/lang/String" "value" "[B" (.ref r30)) (f51 : Arv Z Z.heap r30 c31 .byte (4 : Int32) [vI103, vI117, vI105, vI100] vI0) (f55 : Sta Z Z.heap cs0 "F64" cs4 (.ref r11)) (hc58 : (own_lab [(102 : Int32), (54 : Int32), (52 : Int32)] r8 r9 r10 r11 r12 r13) = (.ref r11)) :
    own_MH l x code maxLocals ret ws room_1 Z h0 #[(.int x0), (.int x1), (.int x2), (.int x3), (.int x4)] (Q0_5 Z x0 x1 x2 x3 x4 x5 r6 c7 r8 r9 r10 r11 r12 r13 r14 r15 c16 r17 r18 c19 r20 r21 c22 r23 r24 c25 r26 r27 c28 r29 r30 c31 h0 n0) := by
  have hEL : EW Z a0 consts_1 := own_EW hw
  refine own_openH hEL (plainFor_of_name pn_com_example_wiregather_wiregather_wire_FieldTypeOfLabelPinLaw) (L0 := #[lI x0, lI x1, lI x2, lI x3, lI x4, lU, lU, lU, lU, lU, lU, lU, lU]) (fun _ => by first | (simp [entryFrame, mkF, argsToLocals, Value.category, maxLocals]; done) | rfl) ?_
  intro p e s m below meth c s₁ hx hby hml hret hnn hZ hown X0 e0 R0
  have N0 := Fr.nil n0; have w := @ww Z a0 hw
  have hS1 := (State.WarmedH.refl s).since 0
  obtain ⟨_, T7, Lc7, X7, hQ7, st7⟩ := own_cS X0 hx hZ hown e0 (rm1_4 l Z a0 hw [] x5 h0 n0 O0 f5 hc6) (w 0 rfl) (w 1 rfl) (w 2 rfl) (w 3 rfl) (by decide) (W := 0) (by decide) (by decide) (by decide) (by decide) (g := (mkF m 42 #[lI x0, lI x1, lI x2, lI x3, lI x4, .val (.int (x0 &&& (3 : Int32))), lV vI3, lU, lU, lU, lU, lU, lU] [vI3])) rfl (by rw [hml]; rfl) (argsL := [vI3]) (rest := []) (lenOf pd__I_Ljava_lang_String_ rfl) rfl (own_W rfl) (hb hby at_42)
  obtain ⟨b7_0, b7_1, k7_0, rfl, N7q, K7, f8, f9, f10, f11, f12, f13, f14, f15⟩ := hQ7
  have N7 := Fr.app N0 N7q
  have R16 := CHr.trans R0 (CHr.keep K7 sf0 R0.1)
  have sf17 : Safe Z consts_1 s.vm h0 b7_0 := Safe.new f8
  have sf18 : Safe Z consts_1 s.vm h0 b7_1 := Safe.new f12
  have o52 := Old.keep O0 K7 all0
  obtain ⟨_, T53, Lc53, X53, hQ53, st53⟩ := own_cS X7 hx hZ hown rfl (rm8_9 l Z a0 hw [] b7_0 b7_1 k7_0 (3 : Int32) ([(102 : Int32), (54 : Int32), (52 : Int32)]) r6 c7 r8 r9 r10 r11 r12 r13 r14 r15 c16 x5 r17 r18 c19 r20 r21 c22 r23 r24 c25 r26 r27 c28 r29 r30 c31 T7.heap n0 o52 f11 f13 f19 f20 f21 f22 f23 f24 f25 f26 f9 f10 (by decide) (by decide) f5 hc6 f27 f28 f29 f30 f31 f32 f33 f34 f35 f36 f37 f38 f39 f40 f41 f42 f43 f44 f45 f46 f47 f48 f49 f50 f51) (w 34 rfl) (w 35 rfl) (w 36 rfl) (w 37 rfl) (by decide) (W := 0) (by decide) (by decide) (by decide) (by decide) (g := (mkF m 45 #[lI x0, lI x1, lI x2, lI x3, lI x4, .val (.int (x0 &&& (3 : Int32))), lV vI3, lU, lU, lU, lU, lU, lU] [(.ref b7_0)])) rfl (by rw [hml]; rfl) (argsL := [(.ref b7_0)]) (rest := []) (lenOf pd__Ljava_lang_String__Lcom_example_wiregather_wiregather_wire_FieldType_ rfl) rfl (own_W rfl) (hb hby at_45)
  obtain ⟨rfl, N53q, K53⟩ := hQ53
  have N53 := Fr.app N7 N53q
  have R54 := CHr.trans R16 (CHr.keep K53 sf0 R16.1)
  have o56 := Old.keep o52 K53 all0
  obtain ⟨_, T57, Lc57, X57, hQ57, st57⟩ := own_finT (Jvm.LawKit.callS X53 hx (y := mN5) hown (mvT hZ (w 71 rfl)) (mvT hZ (w 72 rfl)) (mvT hZ (w 2 rfl)) (mvT hZ (w 73 rfl)) (by decide) (backOf (W := 1) (rm12_4 l Z a0 hw [] r11 T53.heap n0 o56 f55) hZ (w 73 rfl) (w 2 rfl) (by decide) (by decide)) (g := (mkF m 50 #[lI x0, lI x1, lI x2, lI x3, lI x4, .val (.int (x0 &&& (3 : Int32))), lV vI3, lU, lU, lU, lU, lU, lU] [vI3, (own_lab [(102 : Int32), (54 : Int32), (52 : Int32)] r8 r9 r10 r11 r12 r13)])) rfl (by rw [hml]; rfl) (argsL := [vI3]) (rest := [(own_lab [(102 : Int32), (54 : Int32), (52 : Int32)] r8 r9 r10 r11 r12 r13)]) (lenOf pd__I_Lcom_example_wiregather_wiregather_wire_FieldType_ rfl) rfl (by show 2 * 0 + _ ≤ _; simp only [List.map, own_qcat]; exact Nat.le_of_eq rfl) (hb hby at_50) (fun _ _ => ⟨rfl, rfl, (by decide : 4 + 0 ≤ _), (by decide : 16 + 0 ≤ _)⟩))
  obtain ⟨rfl, N57q, E57⟩ := hQ57
  have N57 := Fr.app N53 N57q
  refine ⟨some vI1, _, _, _, _, _, _, _, nofun, X57, by decide, by decide, hS1, (by rw [E57]; exact (Nat.zero_le _)), hZ, E57, R54, ?_, fun fs hr => ?_⟩
  · rw [E57]; exact ⟨rfl, N57⟩
  · show SG p e below s₁ (mkF m 0 #[lI x0, lI x1, lI x2, lI x3, lI x4, lU, lU, lU, lU, lU, lU, lU, lU] []) _
    refine qiN X0 hx hby at_0 ?_
    refine qc X0 hx hby at_1 ?_
    refine XS.iand X0.here hx rfl (hb hby at_2) rfl ?_
    refine XS.istore X0.here hx rfl (hb hby at_3) rfl (l' := #[lI x0, lI x1, lI x2, lI x3, lI x4, .val (.int (x0 &&& (3 : Int32))), lU, lU, lU, lU, lU, lU, lU]) rfl ?_
    refine qi X0 hx hby at_5 ?_
    refine qc X0 hx hby at_7 ?_
    refine XS.icmpYes X0.here hx rfl (pc0 := 8) (pc' := 24) rfl (hb hby at_8) rfl (feq hc2).2 (by decide) (by decide) ?_
    show SG p e below s₁ (mkF m 24 #[lI x0, lI x1, lI x2, lI x3, lI x4, .val (.int (x0 &&& (3 : Int32))), lU, lU, lU, lU, lU, lU, lU] []) _
    refine qi X0 hx hby at_24 ?_
    refine XS.ifNo X0.here hx rfl (hb hby at_26) rfl ((if0 _ _).trans (teq hc3).2) ?_
    refine qiN X0 hx hby at_29 ?_
    refine qc X0 hx hby at_30 ?_
    refine XS.iushr X0.here hx rfl (hb hby at_31) rfl ?_
    refine qb X0 hx hby at_32 ?_
    refine XS.iand X0.here hx rfl (hb hby at_34) rfl ?_
    refine qb X0 hx hby at_35 ?_
    show SG p e below s₁ (mkF m 37 #[lI x0, lI x1, lI x2, lI x3, lI x4, .val (.int (x0 &&& (3 : Int32))), lU, lU, lU, lU, lU, lU, lU] [vI6, (.int (((x0.toUInt32 >>> ((2 : Int32) &&& 31).toUInt32).toInt32) &&& (7 : Int32)))]) _
    refine iremM (g := (mkF m 37 #[lI x0, lI x1, lI x2, lI x3, lI x4, .val (.int (x0 &&& (3 : Int32))), lU, lU, lU, lU, lU, lU, lU] [vI6, (.int (((x0.toUInt32 >>> ((2 : Int32) &&& 31).toUInt32).toInt32) &&& (7 : Int32)))])) X0 hx rfl (hb hby at_37) rfl (by decide : ¬ ((6 : Int32) = (0 : Int32))) ?_
    show SG p e below s₁ (mkF m 38 #[lI x0, lI x1, lI x2, lI x3, lI x4, .val (.int (x0 &&& (3 : Int32))), lU, lU, lU, lU, lU, lU, lU] [(.int ((((x0.toUInt32 >>> ((2 : Int32) &&& 31).toUInt32).toInt32) &&& (7 : Int32)) % (6 : Int32)))]) _
    rw [hc4]
    show SG p e below s₁ (mkF m 38 #[lI x0, lI x1, lI x2, lI x3, lI x4, .val (.int (x0 &&& (3 : Int32))), lU, lU, lU, lU, lU, lU, lU] [vI3]) _
    refine XS.istore X0.here hx rfl (hb hby at_38) rfl (l' := #[lI x0, lI x1, lI x2, lI x3, lI x4, .val (.int (x0 &&& (3 : Int32))), lV vI3, lU, lU, lU, lU, lU, lU]) rfl ?_
    refine qi X0 hx hby at_40 ?_
    refine st7 _ ?_
    show SG p e below T7 (mkF m 45 #[lI x0, lI x1, lI x2, lI x3, lI x4, .val (.int (x0 &&& (3 : Int32))), lV vI3, lU, lU, lU, lU, lU, lU] [(.ref b7_0)]) _
    refine st53 _ ?_
    show SG p e below T53 (mkF m 48 #[lI x0, lI x1, lI x2, lI x3, lI x4, .val (.int (x0 &&& (3 : Int32))), lV vI3, lU, lU, lU, lU, lU, lU] [(own_lab [(102 : Int32), (54 : Int32), (52 : Int32)] r8 r9 r10 r11 r12 r13)]) _
    refine qi X53 hx hby at_48 ?_
    refine st57 _ ?_
    show SG p e below T57 (mkF m 53 #[lI x0, lI x1, lI x2, lI x3, lI x4, .val (.int (x0 &&& (3 : Int32))), lV vI3, lU, lU, lU, lU, lU, lU] [(.ref r11), (own_lab [(102 : Int32), (54 : Int32), (52 : Int32)] r8 r9 r10 r11 r12 r13)]) _
    refine Jvm.RoadKit.acmp (g := (mkF m 53 #[lI x0, lI x1, lI x2, lI x3, lI x4, .val (.int (x0 &&& (3 : Int32))), lV vI3, lU, lU, lU, lU, lU, lU] [(.ref r11), (own_lab [(102 : Int32), (54 : Int32), (52 : Int32)] r8 r9 r10 r11 r12 r13)])) X57 hx rfl (own_labRef) rfl (pc0 := 53) (pc' := 56) (same := true) rfl (hb hby at_53) rfl (decide_eq_true hc58) (by decide) (by decide) ?_
    show SG p e below T57 (mkF m 56 #[lI x0, lI x1, lI x2, lI x3, lI x4, .val (.int (x0 &&& (3 : Int32))), lV vI3, lU, lU, lU, lU, lU, lU] []) _
    refine qc X57 hx hby at_56 ?_
    refine XS.goto X57.here hx rfl (pc0 := 57) (pc' := 61) rfl (hb hby at_57) (by decide) (by decide) ?_
    show SG p e below T57 (mkF m 61 #[lI x0, lI x1, lI x2, lI x3, lI x4, .val (.int (x0 &&& (3 : Int32))), lV vI3, lU, lU, lU, lU, lU, lU] [vI1]) _
    exact retN X57 hx (t := .boolean) hret (by simp) (hb hby at_61) hr
theorem d1_123 : DK cB1 123 (.iload_n 0) 1 := by decide +kernel
theorem d1_124 : DK cB1 124 (.iconst 4) 1 := by decide +kernel
theorem d1_125 : DK cB1 125 (.if_icmp .ne 34) 3 := by decide +kernel
theorem d1_128 : DK cB1 128 (.new 27) 3 := by decide +kernel
theorem d1_131 : DK cB1 131 (.dup) 1 := by decide +kernel
theorem d1_132 : DK cB1 132 (.iconst 4) 1 := by decide +kernel
theorem d1_133 : DK cB1 133 (.newarray .char) 2 := by decide +kernel
theorem d1_135 : DK cB1 135 (.dup) 1 := by decide +kernel
theorem d1_136 : DK cB1 136 (.iconst 0) 1 := by decide +kernel
theorem d1_137 : DK cB1 137 (.bipush 116) 2 := by decide +kernel
theorem d1_139 : DK cB1 139 (.castore) 1 := by decide +kernel
theorem d1_140 : DK cB1 140 (.dup) 1 := by decide +kernel
theorem d1_141 : DK cB1 141 (.iconst 1) 1 := by decide +kernel
theorem d1_142 : DK cB1 142 (.bipush 101) 2 := by decide +kernel
theorem d1_144 : DK cB1 144 (.castore) 1 := by decide +kernel
theorem d1_145 : DK cB1 145 (.dup) 1 := by decide +kernel
theorem d1_146 : DK cB1 146 (.iconst 2) 1 := by decide +kernel
theorem d1_147 : DK cB1 147 (.bipush 120) 2 := by decide +kernel
theorem d1_149 : DK cB1 149 (.castore) 1 := by decide +kernel
theorem d1_150 : DK cB1 150 (.dup) 1 := by decide +kernel
theorem d1_151 : DK cB1 151 (.iconst 3) 1 := by decide +kernel
theorem d1_152 : DK cB1 152 (.bipush 116) 2 := by decide +kernel
theorem d1_154 : DK cB1 154 (.castore) 1 := by decide +kernel
theorem d1_155 : DK cB1 155 (.invokespecial 29) 3 := by decide +kernel
theorem d1_158 : DK cB1 158 (.areturn) 1 := by decide +kernel
def Q1_5 (Z : State) (x0 : Int32) (h0 : Heap) (n0 : Nat) (v : Option Value) (h : Heap) (L : List Loc) : Prop := ∃ (b1 b25_0 : Addr) (k25_0 : ClassId), v = some (.ref b1) ∧ Fr n0 L ∧ Keep h0 h [] ∧ h0.size ≤ b1 ∧ Exa Z h b1 "java/lang/String" ∧ Fld Z h b1 "java/lang/String" "coder" "B" vI0 ∧ Fld Z h b1 "java/lang/String" "value" "[B" (.ref b25_0) ∧ h0.size ≤ b25_0 ∧ Arv Z h b25_0 k25_0 .byte (4 : Int32) [vI116, vI101, vI120, vI116] vI0 ∧ Exa Z h b25_0 "[B" ∧ b1 ≠ b25_0
theorem rm1_5 (l : Launch) (Z : State) (a0 : Array Value) (hw : own_HW a0 Z) (ws : List Jvm.Cond) (x0 : Int32) (h0 : Heap) (n0 : Nat) (O0 : Old Z n0 h0) (f18 : Sta Z Z.heap "java/lang/String" "COMPACT_STRINGS" "Z" (.int x0)) (hc22 : ¬ (x0 = (0 : Int32))) :
    own_MF l mN3 method_4_code 1 (some (.object "java/lang/String")) ws rR4_3_12_66 Z h0 #[vI4] (Q1_5 Z x0 h0 n0) := by
  refine own_open (plainFor_of_name pn_com_example_wiregather_wiregather_wire_FieldTypeOfLabelPinLaw) (L0 := #[lV vI4]) (fun _ => by first | (simp [entryFrame, mkF, argsToLocals, Value.category]; done) | rfl) ?_
  intro p e s m below meth c s₁ hx hby hml hret hnn hZ hown X0 e0
  have N0 := Fr.nil n0; have w := @ww Z a0 hw
  obtain ⟨T1, h1, X1, e1, E1, A1, D1, -, st1⟩ := newO X0 hx hZ hown (w 4 rfl) (w 5 rfl) (w 6 rfl) e0 (g := (mkF m 128 #[lV vI4] [])) rfl (hb hby d1_128) (by decide) (by decide)
  obtain ⟨b1, g1⟩ : ∃ z, z = h0.size := ⟨_, rfl⟩
  rw [← g1] at A1 D1 st1
  have f2 : Fld Z h1 b1 "java/lang/String" "coder" "B" vI0 := D1 (Or.inr (w 31 rfl)) (ty := .byte) (by decide)
  have f3 : Fld Z h1 b1 "java/lang/String" "value" "[B" .null := D1 (Or.inr (w 33 rfl)) (ty := (.array .byte)) (by decide)
  obtain ⟨T4, h4, k4, X4, e4, E4, A4, B4, st4⟩ := newPE X1 hx hZ (w 7 rfl) e1 (g := (mkF m 133 #[lV vI4] [vI4, (.ref b1), (.ref b1)])) rfl (hb hby d1_133) rfl (by decide) (cap := 4) (by decide) (by decide) (by decide) (by decide) (ad := "[C") rfl
  obtain ⟨b4, g4⟩ : ∃ z, z = h1.size := ⟨_, rfl⟩
  rw [← g4] at A4 B4 st4
  have V4 : Arv Z h4 b4 k4 .char (4 : Int32) [vI0, vI0, vI0, vI0] vI0 := (Arv.new A4 (by decide)).pad (pad_rep [] vI0 4)
  have o7 := Old.ext O0 E1
  have zz6 : n0 ≤ h1.size := by rw [← o7.1]; exact o7.2.1
  have g8 := Nat.le_trans zz6 (Nat.le_of_eq g4.symm)
  obtain ⟨T9, h9, L9, X9, e9, N9, K9, V9, st9⟩ := own_stC X4 hx hZ e4 (Keep.refl _ _) V4 N0 g8 0 rfl (Nat.le_of_ble_eq_true rfl) ⟨by decide, by decide⟩ (g := (mkF m 139 #[lV vI4] [vI116, vI0, (.ref b4), (.ref b4), (.ref b1), (.ref b1)])) rfl rfl (hb hby d1_139)
  obtain ⟨T10, h10, L10, X10, e10, N10, K10, V10, st10⟩ := own_stC X9 hx hZ e9 K9 V9 N9 g8 1 rfl (Nat.le_of_ble_eq_true rfl) ⟨by decide, by decide⟩ (g := (mkF m 144 #[lV vI4] [vI101, vI1, (.ref b4), (.ref b4), (.ref b1), (.ref b1)])) rfl rfl (hb hby d1_144)
  obtain ⟨T11, h11, L11, X11, e11, N11, K11, V11, st11⟩ := own_stC X10 hx hZ e10 K10 V10 N10 g8 2 rfl (Nat.le_of_ble_eq_true rfl) ⟨by decide, by decide⟩ (g := (mkF m 149 #[lV vI4] [vI120, vI2, (.ref b4), (.ref b4), (.ref b1), (.ref b1)])) rfl rfl (hb hby d1_149)
  obtain ⟨T12, h12, L12, X12, e12, N12, K12, V12, st12⟩ := own_stC X11 hx hZ e11 K11 V11 N11 g8 3 rfl (Nat.le_of_ble_eq_true rfl) ⟨by decide, by decide⟩ (g := (mkF m 154 #[lV vI4] [vI116, vI3, (.ref b4), (.ref b4), (.ref b1), (.ref b1)])) rfl rfl (hb hby d1_154)
  have f13 : Arv Z h12 b4 k4 .char (4 : Int32) [vI116, vI101, vI120, vI116] vI0 := V12
  have f14 := ((A1.ext E4).keep K12)
  have n15 := Nat.ne_of_lt (Nat.lt_of_lt_of_le A1.lt (Nat.le_of_eq g4.symm))
  have f16 := ((f3.ext E4).keep K12 (ninS n15 nin0))
  have f17 := ((f2.ext E4).keep K12 (ninS n15 nin0))
  have o19 := Old.ext o7 E4
  have o20 := Old.keep o19 K12 (allS g8 all0)
  have f21 := f18.ext o20.2
  have zz23 : n0 ≤ h0.size := by rw [← O0.1]; exact O0.2.1
  have g24 := Nat.le_trans zz23 (Nat.le_of_eq g1.symm)
  obtain ⟨_, T25, Lc25, X25, hQ25, st25⟩ := own_fin (X12.specialBack hx (y := mN4) rfl hown (mvT hZ (w 8 rfl)) (mvT hZ (w 9 rfl)) (mvT hZ (w 10 rfl)) (by decide) (own_newStr hZ hw (w 5 rfl) (cs := [(116 : Int32), (101 : Int32), (120 : Int32), (116 : Int32)]) (n := 4) g24 f14 f16 f17 f13 f21 hc22 rfl rfl (by decide) (by decide) (own_acS (by decide : ¬ ((255 : Int32) < (116 : Int32))) (own_acS (by decide : ¬ ((255 : Int32) < (101 : Int32))) (own_acS (by decide : ¬ ((255 : Int32) < (120 : Int32))) (own_acS (by decide : ¬ ((255 : Int32) < (116 : Int32))) own_ac0)))) (own_bsS (by decide : ((116 : Int32)).toInt8.toInt32 = (116 : Int32)) (own_bsS (by decide : ((101 : Int32)).toInt8.toInt32 = (101 : Int32)) (own_bsS (by decide : ((120 : Int32)).toInt8.toInt32 = (120 : Int32)) (own_bsS (by decide : ((116 : Int32)).toInt8.toInt32 = (116 : Int32)) own_bs0)))) (by decide) (by decide : 1 + 65 ≤ _)) (g := (mkF m 155 #[lV vI4] [(.ref b4), (.ref b1), (.ref b1)])) rfl (by rw [hml]; rfl) (Steps.refl _) (a := b1) (argsL := [(.ref b4)]) (rest := [(.ref b1)]) (lenOf pd___C_V rfl) rfl (own_W rfl) (hb hby d1_155) (fun _ _ => ⟨rfl, e12, (by decide : 2 + 1 ≤ _), (by decide : 8 + 4 ≤ _)⟩))
  obtain ⟨b25_0, k25_0, rfl, N25q, K25, f26, f27, f28, f29, f30, f31⟩ := hQ25
  have N25 := Fr.app N12 N25q
  have f32 := (f14.keep K25)
  have zs33 := E1.1
  have zs34 := Nat.le_trans zs33 E4.1
  have zs35 := Nat.le_trans zs34 K12.1
  have zs36 := E4.1
  have zs37 := Nat.le_trans zs36 K12.1
  have n38 := Nat.ne_of_lt (Nat.lt_of_lt_of_le (Nat.lt_of_lt_of_le A1.lt zs37) f28)
  have kp39 : Keep h0 h1 [] := (Keep.refl h0 []).ext E1
  have kp40 : Keep h0 h4 [] := kp39.ext E4
  have kp41 : Keep h0 h12 [] := kp40.trans K12 (allS (Or.inr (Nat.le_trans zs33 (Nat.le_of_eq g4.symm))) all0)
  have kp42 : Keep h0 T25.heap [] := kp41.trans K25 (allS (Or.inr (Nat.le_of_eq g1.symm)) all0)
  refine ⟨some (.ref b1), _, _, _, _, nofun, X25, by decide, by decide, ?_, fun fs hr => ?_⟩
  · exact ⟨b1, b25_0, k25_0, rfl, N25, kp42, (Nat.le_of_eq g1.symm), f32, f26, f27, (Nat.le_trans zs35 f28), f29, f30, n38⟩
  · show SG p e below s₁ (mkF m 0 #[lV vI4] []) _
    refine qiN X0 hx hby d1_0 ?_
    refine XS.ifYes X0.here hx rfl (pc0 := 1) (pc' := 30) rfl (hb hby d1_1) rfl ((if0 _ _).trans (feq (by decide : ¬ ((4 : Int32) = (0 : Int32)))).2) (by decide) (by decide) ?_
    show SG p e below s₁ (mkF m 30 #[lV vI4] []) _
    refine qiN X0 hx hby d1_30 ?_
    refine qc X0 hx hby d1_31 ?_
    refine XS.icmpYes X0.here hx rfl (pc0 := 32) (pc' := 61) rfl (hb hby d1_32) rfl (feq (by decide : ¬ ((4 : Int32) = (1 : Int32)))).2 (by decide) (by decide) ?_
    show SG p e below s₁ (mkF m 61 #[lV vI4] []) _
    refine qiN X0 hx hby d1_61 ?_
    refine qc X0 hx hby d1_62 ?_
    refine XS.icmpYes X0.here hx rfl (pc0 := 63) (pc' := 92) rfl (hb hby d1_63) rfl (feq (by decide : ¬ ((4 : Int32) = (2 : Int32)))).2 (by decide) (by decide) ?_
    show SG p e below s₁ (mkF m 92 #[lV vI4] []) _
    refine qiN X0 hx hby d1_92 ?_
    refine qc X0 hx hby d1_93 ?_
    refine XS.icmpYes X0.here hx rfl (pc0 := 94) (pc' := 123) rfl (hb hby d1_94) rfl (feq (by decide : ¬ ((4 : Int32) = (3 : Int32)))).2 (by decide) (by decide) ?_
    show SG p e below s₁ (mkF m 123 #[lV vI4] []) _
    refine qiN X0 hx hby d1_123 ?_
    refine qc X0 hx hby d1_124 ?_
    refine XS.icmpNo X0.here hx rfl (hb hby d1_125) rfl (teq (rfl : (4 : Int32) = (4 : Int32))).2 ?_
    refine st1 _ ?_
    show SG p e below T1 (mkF m 131 #[lV vI4] [(.ref b1)]) _
    refine qd X1 hx hby d1_131 ?_
    refine qc X1 hx hby d1_132 ?_
    refine st4 _ ?_
    show SG p e below T4 (mkF m 135 #[lV vI4] [(.ref b4), (.ref b1), (.ref b1)]) _
    refine qd X4 hx hby d1_135 ?_
    refine qc X4 hx hby d1_136 ?_
    refine qb X4 hx hby d1_137 ?_
    refine st9 _ ?_
    show SG p e below T9 (mkF m 140 #[lV vI4] [(.ref b4), (.ref b1), (.ref b1)]) _
    refine qd X9 hx hby d1_140 ?_
    refine qc X9 hx hby d1_141 ?_
    refine qb X9 hx hby d1_142 ?_
    refine st10 _ ?_
    show SG p e below T10 (mkF m 145 #[lV vI4] [(.ref b4), (.ref b1), (.ref b1)]) _
    refine qd X10 hx hby d1_145 ?_
    refine qc X10 hx hby d1_146 ?_
    refine qb X10 hx hby d1_147 ?_
    refine st11 _ ?_
    show SG p e below T11 (mkF m 150 #[lV vI4] [(.ref b4), (.ref b1), (.ref b1)]) _
    refine qd X11 hx hby d1_150 ?_
    refine qc X11 hx hby d1_151 ?_
    refine qb X11 hx hby d1_152 ?_
    refine st12 _ ?_
    show SG p e below T12 (mkF m 155 #[lV vI4] [(.ref b4), (.ref b1), (.ref b1)]) _
    refine st25.trans ?_
    show SG p e below T25 (mkF m 158 #[lV vI4] [(.ref b1)]) _
    exact retOut X25 hx (i := .areturn) hret rfl (Or.inr (Or.inr (Or.inr (Or.inr ⟨rfl, rfl, rfl⟩)))) (hb hby d1_158) hr
theorem d12_35 : DK cB12 35 (.iload_n 0) 1 := by decide +kernel
theorem d12_36 : DK cB12 36 (.iconst 4) 1 := by decide +kernel
theorem d12_37 : DK cB12 37 (.if_icmp .ne 7) 3 := by decide +kernel
theorem d12_40 : DK cB12 40 (.getstatic 53) 3 := by decide +kernel
theorem d12_43 : DK cB12 43 (.areturn) 1 := by decide +kernel
def Q12_5 (Z : State) (r0 : Addr) (h0 : Heap) (n0 : Nat) (v : Option Value) (h : Heap) (L : List Loc) : Prop := v = some (.ref r0) ∧ Fr n0 L ∧ h = h0
theorem rm12_5 (l : Launch) (Z : State) (a0 : Array Value) (hw : own_HW a0 Z) (ws : List Jvm.Cond) (r0 : Addr) (h0 : Heap) (n0 : Nat) (O0 : Old Z n0 h0) (f1 : Sta Z Z.heap cs0 "TEXT" cs4 (.ref r0)) :
    own_MF l mN5 method_5_code 1 (some (.object cs0)) ws rR0_0_0_0 Z h0 #[vI4] (Q12_5 Z r0 h0 n0) := by
  refine own_open (plainFor_of_name pn_com_example_wiregather_wiregather_wire_FieldTypeOfLabelPinLaw) (L0 := #[lV vI4]) (fun _ => by first | (simp [entryFrame, mkF, argsToLocals, Value.category]; done) | rfl) ?_
  intro p e s m below meth c s₁ hx hby hml hret hnn hZ hown X0 e0
  have N0 := Fr.nil n0
  have f2 := f1.ext O0.2
  obtain ⟨T3, X3, e3, st3⟩ := getS2 X0 hx hZ hown (host := "") (Or.inl (ww hw 117 rfl)) Via.refl e0 f2 (g := (mkF m 40 #[lV vI4] [])) rfl (hb hby d12_40)
  refine ⟨some (.ref r0), _, _, _, _, nofun, X3, by decide, by decide, ?_, fun fs hr => ?_⟩
  · rw [e3]; exact ⟨rfl, N0, rfl⟩
  · show SG p e below s₁ (mkF m 0 #[lV vI4] []) _
    refine qiN X0 hx hby d12_0 ?_
    refine XS.ifYes X0.here hx rfl (pc0 := 1) (pc' := 8) rfl (hb hby d12_1) rfl ((if0 _ _).trans (feq (by decide : ¬ ((4 : Int32) = (0 : Int32)))).2) (by decide) (by decide) ?_
    show SG p e below s₁ (mkF m 8 #[lV vI4] []) _
    refine qiN X0 hx hby d12_8 ?_
    refine qc X0 hx hby d12_9 ?_
    refine XS.icmpYes X0.here hx rfl (pc0 := 10) (pc' := 17) rfl (hb hby d12_10) rfl (feq (by decide : ¬ ((4 : Int32) = (1 : Int32)))).2 (by decide) (by decide) ?_
    show SG p e below s₁ (mkF m 17 #[lV vI4] []) _
    refine qiN X0 hx hby d12_17 ?_
    refine qc X0 hx hby d12_18 ?_
    refine XS.icmpYes X0.here hx rfl (pc0 := 19) (pc' := 26) rfl (hb hby d12_19) rfl (feq (by decide : ¬ ((4 : Int32) = (2 : Int32)))).2 (by decide) (by decide) ?_
    show SG p e below s₁ (mkF m 26 #[lV vI4] []) _
    refine qiN X0 hx hby d12_26 ?_
    refine qc X0 hx hby d12_27 ?_
    refine XS.icmpYes X0.here hx rfl (pc0 := 28) (pc' := 35) rfl (hb hby d12_28) rfl (feq (by decide : ¬ ((4 : Int32) = (3 : Int32)))).2 (by decide) (by decide) ?_
    show SG p e below s₁ (mkF m 35 #[lV vI4] []) _
    refine qiN X0 hx hby d12_35 ?_
    refine qc X0 hx hby d12_36 ?_
    refine XS.icmpNo X0.here hx rfl (hb hby d12_37) rfl (teq (rfl : (4 : Int32) = (4 : Int32))).2 ?_
    refine st3 _ ?_
    show SG p e below T3 (mkF m 43 #[lV vI4] [(.ref r0)]) _
    exact retOut X3 hx (i := .areturn) hret rfl (Or.inr (Or.inr (Or.inr (Or.inr ⟨rfl, rfl, rfl⟩)))) (hb hby d12_43) hr
def Q0_6 (Z : State) (x0 x1 : Int32) (x2 x3 : Int32) (x4 x5 : Int32) (r6 : Addr) (c7 : ClassId) (r8 r9 : Addr) (r10 r11 : Addr) (r12 r13 : Addr) (r14 r15 : Addr) (c16 : ClassId) (r17 r18 : Addr) (c19 : ClassId) (r20 r21 : Addr) (c22 : ClassId) (r23 r24 : Addr) (c25 : ClassId) (r26 r27 : Addr) (c28 : ClassId) (r29 r30 : Addr) (c31 : ClassId) (h0 : Heap) (n0 : Nat) (v : Option Value) (h : Heap) (L : List Loc) : Prop := v = some vI1 ∧ Fr n0 L
theorem rm0_6 (l : Launch) (Z : State) (a0 : Array Value) (hw : own_HW a0 Z) (ws : List Jvm.Cond) (x0 x1 : Int32) (x2 x3 : Int32) (x4 x5 : Int32) (r6 : Addr) (c7 : ClassId) (r8 r9 : Addr) (r10 r11 : Addr) (r12 r13 : Addr) (r14 r15 : Addr) (c16 : ClassId) (r17 r18 : Addr) (c19 : ClassId) (r20 r21 : Addr) (c22 : ClassId) (r23 r24 : Addr) (c25 : ClassId) (r26 r27 : Addr) (c28 : ClassId) (r29 r30 : Addr) (c31 : ClassId) (h0 : Heap) (n0 : Nat) (O0 : Old Z n0 h0) (hc2 : ¬ ((x0 &&& (3 : Int32)) = (3 : Int32))) (hc3 : (x0 &&& (3 : Int32)) = (0 : Int32)) (hc4 : ((((x0.toUInt32 >>> ((2 : Int32) &&& 31).toUInt32).toInt32) &&& (7 : Int32)) % (6 : Int32)) = (4 : Int32)) (f5 : Sta Z Z.heap "java/lang/String" "COMPACT_STRINGS" "Z" (.int x5)) (hc6 : ¬ (x5 = (0 : Int32))) (f19 : Sta Z Z.heap cs0 "$VALUES" cs1 (.ref r6)) (f20 : Exa Z Z.heap r6 cs1) (f21 : Arv Z Z.heap r6 c7 (.object cs0) (6 : Int32) [(.ref r8), (.ref r9), (.ref r10), (.ref r11), (.ref r12), (.ref r13)] .null) (f22 : Fld Z Z.heap r8 cs0 "label" "Ljava/lang/String;" (.ref r14)) (f23 : Exa Z Z.heap r14 "java/lang/String") (f24 : Fld Z Z.heap r14 "java/lang/String" "coder" "B" vI0) (f25 : Fld Z Z.heap r14 "java/lang/String" "value" "[B" (.ref r15)) (f26 : Arv Z Z.heap r15 c16 .byte (3 : Int32) [vI105, vI51, vI50] vI0) (f27 : Fld Z Z.heap r9 cs0 "label" "Ljava/lang/String;" (.ref r17)) (f28 : Exa Z Z.heap r17 "java/lang/String") (f29 : Fld Z Z.heap r17 "java/lang/String" "coder" "B" vI0) (f30 : Fld Z Z.heap r17 "java/lang/String" "value" "[B" (.ref r18)) (f31 : Arv Z Z.heap r18 c19 .byte (3 : Int32) [vI117, vI51, vI50] vI0) (f32 : Fld Z Z.heap r10 cs0 "label" "Ljava/lang/String;" (.ref r20)) (f33 : Exa Z Z.heap r20 "java/lang/String") (f34 : Fld Z Z.heap r20 "java/lang/String" "coder" "B" vI0) (f35 : Fld Z Z.heap r20 "java/lang/String" "value" "[B" (.ref r21)) (f36 : Arv Z Z.heap r21 c22 .byte (3 : Int32) [vI102, vI51, vI50] vI0) (f37 : Fld Z Z.heap r11 cs0 "label" "Ljava/lang/String;" (.ref r23)) (f38 : Exa Z Z.heap r23 "java/lang/String") (f39 : Fld Z Z.heap r23 "java/lang/String" "coder" "B" vI0) (f40 : Fld Z Z.heap r23 "java/lang/String" "value" "[B" (.ref r24)) (f41 : Arv Z Z.heap r24 c25 .byte (3 : Int32) [vI102, vI54, vI52] vI0) (f42 : Fld Z Z.heap r12 cs0 "label" "Ljava/lang/String;" (.ref r26)) (f43 : Exa Z Z.heap r26 "java/lang/String") (f44 : Fld Z Z.heap r26 "java/lang/String" "coder" "B" vI0) (f45 : Fld Z Z.heap r26 "java/lang/String" "value" "[B" (.ref r27)) (f46 : Arv Z Z.heap r27 c28 .byte (4 : Int32) [vI116, vI101, vI120, vI116] vI0) (f47 : Fld Z Z.heap r13 cs0 "label" "Ljava/lang/String;" (.ref r29)) (f48 : Exa Z Z.heap r29 "java/lang/String") (f49 : Fld Z Z.heap r29 "java/lang/String" "coder" "B" vI0) (f50 : Fld Z Z.heap r29 "java/lang/String" "value" "[B" (.ref r30)) (f51 : Arv Z Z.heap r30 c31 .byte (4 : Int32) [vI103, vI117, vI105, vI100] vI0) (f55 : Sta Z Z.heap cs0 "TEXT" cs4 (.ref r12)) (hc58 : (own_lab [(116 : Int32), (101 : Int32), (120 : Int32), (116 : Int32)] r8 r9 r10 r11 r12 r13) = (.ref r12)) :
    own_MH l x code maxLocals ret ws room_1 Z h0 #[(.int x0), (.int x1), (.int x2), (.int x3), (.int x4)] (Q0_6 Z x0 x1 x2 x3 x4 x5 r6 c7 r8 r9 r10 r11 r12 r13 r14 r15 c16 r17 r18 c19 r20 r21 c22 r23 r24 c25 r26 r27 c28 r29 r30 c31 h0 n0) := by
  have hEL : EW Z a0 consts_1 := own_EW hw
  refine own_openH hEL (plainFor_of_name pn_com_example_wiregather_wiregather_wire_FieldTypeOfLabelPinLaw) (L0 := #[lI x0, lI x1, lI x2, lI x3, lI x4, lU, lU, lU, lU, lU, lU, lU, lU]) (fun _ => by first | (simp [entryFrame, mkF, argsToLocals, Value.category, maxLocals]; done) | rfl) ?_
  intro p e s m below meth c s₁ hx hby hml hret hnn hZ hown X0 e0 R0
  have N0 := Fr.nil n0; have w := @ww Z a0 hw
  have hS1 := (State.WarmedH.refl s).since 0
  obtain ⟨_, T7, Lc7, X7, hQ7, st7⟩ := own_cS X0 hx hZ hown e0 (rm1_5 l Z a0 hw [] x5 h0 n0 O0 f5 hc6) (w 0 rfl) (w 1 rfl) (w 2 rfl) (w 3 rfl) (by decide) (W := 0) (by decide) (by decide) (by decide) (by decide) (g := (mkF m 42 #[lI x0, lI x1, lI x2, lI x3, lI x4, .val (.int (x0 &&& (3 : Int32))), lV vI4, lU, lU, lU, lU, lU, lU] [vI4])) rfl (by rw [hml]; rfl) (argsL := [vI4]) (rest := []) (lenOf pd__I_Ljava_lang_String_ rfl) rfl (own_W rfl) (hb hby at_42)
  obtain ⟨b7_0, b7_1, k7_0, rfl, N7q, K7, f8, f9, f10, f11, f12, f13, f14, f15⟩ := hQ7
  have N7 := Fr.app N0 N7q
  have R16 := CHr.trans R0 (CHr.keep K7 sf0 R0.1)
  have sf17 : Safe Z consts_1 s.vm h0 b7_0 := Safe.new f8
  have sf18 : Safe Z consts_1 s.vm h0 b7_1 := Safe.new f12
  have o52 := Old.keep O0 K7 all0
  obtain ⟨_, T53, Lc53, X53, hQ53, st53⟩ := own_cS X7 hx hZ hown rfl (rm8_9 l Z a0 hw [] b7_0 b7_1 k7_0 (4 : Int32) ([(116 : Int32), (101 : Int32), (120 : Int32), (116 : Int32)]) r6 c7 r8 r9 r10 r11 r12 r13 r14 r15 c16 x5 r17 r18 c19 r20 r21 c22 r23 r24 c25 r26 r27 c28 r29 r30 c31 T7.heap n0 o52 f11 f13 f19 f20 f21 f22 f23 f24 f25 f26 f9 f10 (by decide) (by decide) f5 hc6 f27 f28 f29 f30 f31 f32 f33 f34 f35 f36 f37 f38 f39 f40 f41 f42 f43 f44 f45 f46 f47 f48 f49 f50 f51) (w 34 rfl) (w 35 rfl) (w 36 rfl) (w 37 rfl) (by decide) (W := 0) (by decide) (by decide) (by decide) (by decide) (g := (mkF m 45 #[lI x0, lI x1, lI x2, lI x3, lI x4, .val (.int (x0 &&& (3 : Int32))), lV vI4, lU, lU, lU, lU, lU, lU] [(.ref b7_0)])) rfl (by rw [hml]; rfl) (argsL := [(.ref b7_0)]) (rest := []) (lenOf pd__Ljava_lang_String__Lcom_example_wiregather_wiregather_wire_FieldType_ rfl) rfl (own_W rfl) (hb hby at_45)
  obtain ⟨rfl, N53q, K53⟩ := hQ53
  have N53 := Fr.app N7 N53q
  have R54 := CHr.trans R16 (CHr.keep K53 sf0 R16.1)
  have o56 := Old.keep o52 K53 all0
  obtain ⟨_, T57, Lc57, X57, hQ57, st57⟩ := own_finT (Jvm.LawKit.callS X53 hx (y := mN5) hown (mvT hZ (w 71 rfl)) (mvT hZ (w 72 rfl)) (mvT hZ (w 2 rfl)) (mvT hZ (w 73 rfl)) (by decide) (backOf (W := 1) (rm12_5 l Z a0 hw [] r12 T53.heap n0 o56 f55) hZ (w 73 rfl) (w 2 rfl) (by decide) (by decide)) (g := (mkF m 50 #[lI x0, lI x1, lI x2, lI x3, lI x4, .val (.int (x0 &&& (3 : Int32))), lV vI4, lU, lU, lU, lU, lU, lU] [vI4, (own_lab [(116 : Int32), (101 : Int32), (120 : Int32), (116 : Int32)] r8 r9 r10 r11 r12 r13)])) rfl (by rw [hml]; rfl) (argsL := [vI4]) (rest := [(own_lab [(116 : Int32), (101 : Int32), (120 : Int32), (116 : Int32)] r8 r9 r10 r11 r12 r13)]) (lenOf pd__I_Lcom_example_wiregather_wiregather_wire_FieldType_ rfl) rfl (by show 2 * 0 + _ ≤ _; simp only [List.map, own_qcat]; exact Nat.le_of_eq rfl) (hb hby at_50) (fun _ _ => ⟨rfl, rfl, (by decide : 4 + 0 ≤ _), (by decide : 18 + 0 ≤ _)⟩))
  obtain ⟨rfl, N57q, E57⟩ := hQ57
  have N57 := Fr.app N53 N57q
  refine ⟨some vI1, _, _, _, _, _, _, _, nofun, X57, by decide, by decide, hS1, (by rw [E57]; exact (Nat.zero_le _)), hZ, E57, R54, ?_, fun fs hr => ?_⟩
  · rw [E57]; exact ⟨rfl, N57⟩
  · show SG p e below s₁ (mkF m 0 #[lI x0, lI x1, lI x2, lI x3, lI x4, lU, lU, lU, lU, lU, lU, lU, lU] []) _
    refine qiN X0 hx hby at_0 ?_
    refine qc X0 hx hby at_1 ?_
    refine XS.iand X0.here hx rfl (hb hby at_2) rfl ?_
    refine XS.istore X0.here hx rfl (hb hby at_3) rfl (l' := #[lI x0, lI x1, lI x2, lI x3, lI x4, .val (.int (x0 &&& (3 : Int32))), lU, lU, lU, lU, lU, lU, lU]) rfl ?_
    refine qi X0 hx hby at_5 ?_
    refine qc X0 hx hby at_7 ?_
    refine XS.icmpYes X0.here hx rfl (pc0 := 8) (pc' := 24) rfl (hb hby at_8) rfl (feq hc2).2 (by decide) (by decide) ?_
    show SG p e below s₁ (mkF m 24 #[lI x0, lI x1, lI x2, lI x3, lI x4, .val (.int (x0 &&& (3 : Int32))), lU, lU, lU, lU, lU, lU, lU] []) _
    refine qi X0 hx hby at_24 ?_
    refine XS.ifNo X0.here hx rfl (hb hby at_26) rfl ((if0 _ _).trans (teq hc3).2) ?_
    refine qiN X0 hx hby at_29 ?_
    refine qc X0 hx hby at_30 ?_
    refine XS.iushr X0.here hx rfl (hb hby at_31) rfl ?_
    refine qb X0 hx hby at_32 ?_
    refine XS.iand X0.here hx rfl (hb hby at_34) rfl ?_
    refine qb X0 hx hby at_35 ?_
    show SG p e below s₁ (mkF m 37 #[lI x0, lI x1, lI x2, lI x3, lI x4, .val (.int (x0 &&& (3 : Int32))), lU, lU, lU, lU, lU, lU, lU] [vI6, (.int (((x0.toUInt32 >>> ((2 : Int32) &&& 31).toUInt32).toInt32) &&& (7 : Int32)))]) _
    refine iremM (g := (mkF m 37 #[lI x0, lI x1, lI x2, lI x3, lI x4, .val (.int (x0 &&& (3 : Int32))), lU, lU, lU, lU, lU, lU, lU] [vI6, (.int (((x0.toUInt32 >>> ((2 : Int32) &&& 31).toUInt32).toInt32) &&& (7 : Int32)))])) X0 hx rfl (hb hby at_37) rfl (by decide : ¬ ((6 : Int32) = (0 : Int32))) ?_
    show SG p e below s₁ (mkF m 38 #[lI x0, lI x1, lI x2, lI x3, lI x4, .val (.int (x0 &&& (3 : Int32))), lU, lU, lU, lU, lU, lU, lU] [(.int ((((x0.toUInt32 >>> ((2 : Int32) &&& 31).toUInt32).toInt32) &&& (7 : Int32)) % (6 : Int32)))]) _
    rw [hc4]
    show SG p e below s₁ (mkF m 38 #[lI x0, lI x1, lI x2, lI x3, lI x4, .val (.int (x0 &&& (3 : Int32))), lU, lU, lU, lU, lU, lU, lU] [vI4]) _
    refine XS.istore X0.here hx rfl (hb hby at_38) rfl (l' := #[lI x0, lI x1, lI x2, lI x3, lI x4, .val (.int (x0 &&& (3 : Int32))), lV vI4, lU, lU, lU, lU, lU, lU]) rfl ?_
    refine qi X0 hx hby at_40 ?_
    refine st7 _ ?_
    show SG p e below T7 (mkF m 45 #[lI x0, lI x1, lI x2, lI x3, lI x4, .val (.int (x0 &&& (3 : Int32))), lV vI4, lU, lU, lU, lU, lU, lU] [(.ref b7_0)]) _
    refine st53 _ ?_
    show SG p e below T53 (mkF m 48 #[lI x0, lI x1, lI x2, lI x3, lI x4, .val (.int (x0 &&& (3 : Int32))), lV vI4, lU, lU, lU, lU, lU, lU] [(own_lab [(116 : Int32), (101 : Int32), (120 : Int32), (116 : Int32)] r8 r9 r10 r11 r12 r13)]) _
    refine qi X53 hx hby at_48 ?_
    refine st57 _ ?_
    show SG p e below T57 (mkF m 53 #[lI x0, lI x1, lI x2, lI x3, lI x4, .val (.int (x0 &&& (3 : Int32))), lV vI4, lU, lU, lU, lU, lU, lU] [(.ref r12), (own_lab [(116 : Int32), (101 : Int32), (120 : Int32), (116 : Int32)] r8 r9 r10 r11 r12 r13)]) _
    refine Jvm.RoadKit.acmp (g := (mkF m 53 #[lI x0, lI x1, lI x2, lI x3, lI x4, .val (.int (x0 &&& (3 : Int32))), lV vI4, lU, lU, lU, lU, lU, lU] [(.ref r12), (own_lab [(116 : Int32), (101 : Int32), (120 : Int32), (116 : Int32)] r8 r9 r10 r11 r12 r13)])) X57 hx rfl (own_labRef) rfl (pc0 := 53) (pc' := 56) (same := true) rfl (hb hby at_53) rfl (decide_eq_true hc58) (by decide) (by decide) ?_
    show SG p e below T57 (mkF m 56 #[lI x0, lI x1, lI x2, lI x3, lI x4, .val (.int (x0 &&& (3 : Int32))), lV vI4, lU, lU, lU, lU, lU, lU] []) _
    refine qc X57 hx hby at_56 ?_
    refine XS.goto X57.here hx rfl (pc0 := 57) (pc' := 61) rfl (hb hby at_57) (by decide) (by decide) ?_
    show SG p e below T57 (mkF m 61 #[lI x0, lI x1, lI x2, lI x3, lI x4, .val (.int (x0 &&& (3 : Int32))), lV vI4, lU, lU, lU, lU, lU, lU] [vI1]) _
    exact retN X57 hx (t := .boolean) hret (by simp) (hb hby at_61) hr
theorem d1_159 : DK cB1 159 (.new 27) 3 := by decide +kernel
theorem d1_162 : DK cB1 162 (.dup) 1 := by decide +kernel
theorem d1_163 : DK cB1 163 (.iconst 4) 1 := by decide +kernel
theorem d1_164 : DK cB1 164 (.newarray .char) 2 := by decide +kernel
theorem d1_166 : DK cB1 166 (.dup) 1 := by decide +kernel
theorem d1_167 : DK cB1 167 (.iconst 0) 1 := by decide +kernel
theorem d1_168 : DK cB1 168 (.bipush 103) 2 := by decide +kernel
theorem d1_170 : DK cB1 170 (.castore) 1 := by decide +kernel
theorem d1_171 : DK cB1 171 (.dup) 1 := by decide +kernel
theorem d1_172 : DK cB1 172 (.iconst 1) 1 := by decide +kernel
theorem d1_173 : DK cB1 173 (.bipush 117) 2 := by decide +kernel
theorem d1_175 : DK cB1 175 (.castore) 1 := by decide +kernel
theorem d1_176 : DK cB1 176 (.dup) 1 := by decide +kernel
theorem d1_177 : DK cB1 177 (.iconst 2) 1 := by decide +kernel
theorem d1_178 : DK cB1 178 (.bipush 105) 2 := by decide +kernel
theorem d1_180 : DK cB1 180 (.castore) 1 := by decide +kernel
theorem d1_181 : DK cB1 181 (.dup) 1 := by decide +kernel
theorem d1_182 : DK cB1 182 (.iconst 3) 1 := by decide +kernel
theorem d1_183 : DK cB1 183 (.bipush 100) 2 := by decide +kernel
theorem d1_185 : DK cB1 185 (.castore) 1 := by decide +kernel
theorem d1_186 : DK cB1 186 (.invokespecial 29) 3 := by decide +kernel
theorem d1_189 : DK cB1 189 (.areturn) 1 := by decide +kernel
def Q1_6 (Z : State) (x0 : Int32) (h0 : Heap) (n0 : Nat) (v : Option Value) (h : Heap) (L : List Loc) : Prop := ∃ (b1 b25_0 : Addr) (k25_0 : ClassId), v = some (.ref b1) ∧ Fr n0 L ∧ Keep h0 h [] ∧ h0.size ≤ b1 ∧ Exa Z h b1 "java/lang/String" ∧ Fld Z h b1 "java/lang/String" "coder" "B" vI0 ∧ Fld Z h b1 "java/lang/String" "value" "[B" (.ref b25_0) ∧ h0.size ≤ b25_0 ∧ Arv Z h b25_0 k25_0 .byte (4 : Int32) [vI103, vI117, vI105, vI100] vI0 ∧ Exa Z h b25_0 "[B" ∧ b1 ≠ b25_0
theorem rm1_6 (l : Launch) (Z : State) (a0 : Array Value) (hw : own_HW a0 Z) (ws : List Jvm.Cond) (x0 : Int32) (h0 : Heap) (n0 : Nat) (O0 : Old Z n0 h0) (f18 : Sta Z Z.heap "java/lang/String" "COMPACT_STRINGS" "Z" (.int x0)) (hc22 : ¬ (x0 = (0 : Int32))) :
    own_MF l mN3 method_4_code 1 (some (.object "java/lang/String")) ws rR4_3_12_66 Z h0 #[vI5] (Q1_6 Z x0 h0 n0) := by
  refine own_open (plainFor_of_name pn_com_example_wiregather_wiregather_wire_FieldTypeOfLabelPinLaw) (L0 := #[lV vI5]) (fun _ => by first | (simp [entryFrame, mkF, argsToLocals, Value.category]; done) | rfl) ?_
  intro p e s m below meth c s₁ hx hby hml hret hnn hZ hown X0 e0
  have N0 := Fr.nil n0; have w := @ww Z a0 hw
  obtain ⟨T1, h1, X1, e1, E1, A1, D1, -, st1⟩ := newO X0 hx hZ hown (w 4 rfl) (w 5 rfl) (w 6 rfl) e0 (g := (mkF m 159 #[lV vI5] [])) rfl (hb hby d1_159) (by decide) (by decide)
  obtain ⟨b1, g1⟩ : ∃ z, z = h0.size := ⟨_, rfl⟩
  rw [← g1] at A1 D1 st1
  have f2 : Fld Z h1 b1 "java/lang/String" "coder" "B" vI0 := D1 (Or.inr (w 31 rfl)) (ty := .byte) (by decide)
  have f3 : Fld Z h1 b1 "java/lang/String" "value" "[B" .null := D1 (Or.inr (w 33 rfl)) (ty := (.array .byte)) (by decide)
  obtain ⟨T4, h4, k4, X4, e4, E4, A4, B4, st4⟩ := newPE X1 hx hZ (w 7 rfl) e1 (g := (mkF m 164 #[lV vI5] [vI4, (.ref b1), (.ref b1)])) rfl (hb hby d1_164) rfl (by decide) (cap := 4) (by decide) (by decide) (by decide) (by decide) (ad := "[C") rfl
  obtain ⟨b4, g4⟩ : ∃ z, z = h1.size := ⟨_, rfl⟩
  rw [← g4] at A4 B4 st4
  have V4 : Arv Z h4 b4 k4 .char (4 : Int32) [vI0, vI0, vI0, vI0] vI0 := (Arv.new A4 (by decide)).pad (pad_rep [] vI0 4)
  have o7 := Old.ext O0 E1
  have zz6 : n0 ≤ h1.size := by rw [← o7.1]; exact o7.2.1
  have g8 := Nat.le_trans zz6 (Nat.le_of_eq g4.symm)
  obtain ⟨T9, h9, L9, X9, e9, N9, K9, V9, st9⟩ := own_stC X4 hx hZ e4 (Keep.refl _ _) V4 N0 g8 0 rfl (Nat.le_of_ble_eq_true rfl) ⟨by decide, by decide⟩ (g := (mkF m 170 #[lV vI5] [vI103, vI0, (.ref b4), (.ref b4), (.ref b1), (.ref b1)])) rfl rfl (hb hby d1_170)
  obtain ⟨T10, h10, L10, X10, e10, N10, K10, V10, st10⟩ := own_stC X9 hx hZ e9 K9 V9 N9 g8 1 rfl (Nat.le_of_ble_eq_true rfl) ⟨by decide, by decide⟩ (g := (mkF m 175 #[lV vI5] [vI117, vI1, (.ref b4), (.ref b4), (.ref b1), (.ref b1)])) rfl rfl (hb hby d1_175)
  obtain ⟨T11, h11, L11, X11, e11, N11, K11, V11, st11⟩ := own_stC X10 hx hZ e10 K10 V10 N10 g8 2 rfl (Nat.le_of_ble_eq_true rfl) ⟨by decide, by decide⟩ (g := (mkF m 180 #[lV vI5] [vI105, vI2, (.ref b4), (.ref b4), (.ref b1), (.ref b1)])) rfl rfl (hb hby d1_180)
  obtain ⟨T12, h12, L12, X12, e12, N12, K12, V12, st12⟩ := own_stC X11 hx hZ e11 K11 V11 N11 g8 3 rfl (Nat.le_of_ble_eq_true rfl) ⟨by decide, by decide⟩ (g := (mkF m 185 #[lV vI5] [vI100, vI3, (.ref b4), (.ref b4), (.ref b1), (.ref b1)])) rfl rfl (hb hby d1_185)
  have f13 : Arv Z h12 b4 k4 .char (4 : Int32) [vI103, vI117, vI105, vI100] vI0 := V12
  have f14 := ((A1.ext E4).keep K12)
  have n15 := Nat.ne_of_lt (Nat.lt_of_lt_of_le A1.lt (Nat.le_of_eq g4.symm))
  have f16 := ((f3.ext E4).keep K12 (ninS n15 nin0))
  have f17 := ((f2.ext E4).keep K12 (ninS n15 nin0))
  have o19 := Old.ext o7 E4
  have o20 := Old.keep o19 K12 (allS g8 all0)
  have f21 := f18.ext o20.2
  have zz23 : n0 ≤ h0.size := by rw [← O0.1]; exact O0.2.1
  have g24 := Nat.le_trans zz23 (Nat.le_of_eq g1.symm)
  obtain ⟨_, T25, Lc25, X25, hQ25, st25⟩ := own_fin (X12.specialBack hx (y := mN4) rfl hown (mvT hZ (w 8 rfl)) (mvT hZ (w 9 rfl)) (mvT hZ (w 10 rfl)) (by decide) (own_newStr hZ hw (w 5 rfl) (cs := [(103 : Int32), (117 : Int32), (105 : Int32), (100 : Int32)]) (n := 4) g24 f14 f16 f17 f13 f21 hc22 rfl rfl (by decide) (by decide) (own_acS (by decide : ¬ ((255 : Int32) < (103 : Int32))) (own_acS (by decide : ¬ ((255 : Int32) < (117 : Int32))) (own_acS (by decide : ¬ ((255 : Int32) < (105 : Int32))) (own_acS (by decide : ¬ ((255 : Int32) < (100 : Int32))) own_ac0)))) (own_bsS (by decide : ((103 : Int32)).toInt8.toInt32 = (103 : Int32)) (own_bsS (by decide : ((117 : Int32)).toInt8.toInt32 = (117 : Int32)) (own_bsS (by decide : ((105 : Int32)).toInt8.toInt32 = (105 : Int32)) (own_bsS (by decide : ((100 : Int32)).toInt8.toInt32 = (100 : Int32)) own_bs0)))) (by decide) (by decide : 1 + 65 ≤ _)) (g := (mkF m 186 #[lV vI5] [(.ref b4), (.ref b1), (.ref b1)])) rfl (by rw [hml]; rfl) (Steps.refl _) (a := b1) (argsL := [(.ref b4)]) (rest := [(.ref b1)]) (lenOf pd___C_V rfl) rfl (own_W rfl) (hb hby d1_186) (fun _ _ => ⟨rfl, e12, (by decide : 2 + 1 ≤ _), (by decide : 8 + 4 ≤ _)⟩))
  obtain ⟨b25_0, k25_0, rfl, N25q, K25, f26, f27, f28, f29, f30, f31⟩ := hQ25
  have N25 := Fr.app N12 N25q
  have f32 := (f14.keep K25)
  have zs33 := E1.1
  have zs34 := Nat.le_trans zs33 E4.1
  have zs35 := Nat.le_trans zs34 K12.1
  have zs36 := E4.1
  have zs37 := Nat.le_trans zs36 K12.1
  have n38 := Nat.ne_of_lt (Nat.lt_of_lt_of_le (Nat.lt_of_lt_of_le A1.lt zs37) f28)
  have kp39 : Keep h0 h1 [] := (Keep.refl h0 []).ext E1
  have kp40 : Keep h0 h4 [] := kp39.ext E4
  have kp41 : Keep h0 h12 [] := kp40.trans K12 (allS (Or.inr (Nat.le_trans zs33 (Nat.le_of_eq g4.symm))) all0)
  have kp42 : Keep h0 T25.heap [] := kp41.trans K25 (allS (Or.inr (Nat.le_of_eq g1.symm)) all0)
  refine ⟨some (.ref b1), _, _, _, _, nofun, X25, by decide, by decide, ?_, fun fs hr => ?_⟩
  · exact ⟨b1, b25_0, k25_0, rfl, N25, kp42, (Nat.le_of_eq g1.symm), f32, f26, f27, (Nat.le_trans zs35 f28), f29, f30, n38⟩
  · show SG p e below s₁ (mkF m 0 #[lV vI5] []) _
    refine qiN X0 hx hby d1_0 ?_
    refine XS.ifYes X0.here hx rfl (pc0 := 1) (pc' := 30) rfl (hb hby d1_1) rfl ((if0 _ _).trans (feq (by decide : ¬ ((5 : Int32) = (0 : Int32)))).2) (by decide) (by decide) ?_
    show SG p e below s₁ (mkF m 30 #[lV vI5] []) _
    refine qiN X0 hx hby d1_30 ?_
    refine qc X0 hx hby d1_31 ?_
    refine XS.icmpYes X0.here hx rfl (pc0 := 32) (pc' := 61) rfl (hb hby d1_32) rfl (feq (by decide : ¬ ((5 : Int32) = (1 : Int32)))).2 (by decide) (by decide) ?_
    show SG p e below s₁ (mkF m 61 #[lV vI5] []) _
    refine qiN X0 hx hby d1_61 ?_
    refine qc X0 hx hby d1_62 ?_
    refine XS.icmpYes X0.here hx rfl (pc0 := 63) (pc' := 92) rfl (hb hby d1_63) rfl (feq (by decide : ¬ ((5 : Int32) = (2 : Int32)))).2 (by decide) (by decide) ?_
    show SG p e below s₁ (mkF m 92 #[lV vI5] []) _
    refine qiN X0 hx hby d1_92 ?_
    refine qc X0 hx hby d1_93 ?_
    refine XS.icmpYes X0.here hx rfl (pc0 := 94) (pc' := 123) rfl (hb hby d1_94) rfl (feq (by decide : ¬ ((5 : Int32) = (3 : Int32)))).2 (by decide) (by decide) ?_
    show SG p e below s₁ (mkF m 123 #[lV vI5] []) _
    refine qiN X0 hx hby d1_123 ?_
    refine qc X0 hx hby d1_124 ?_
    refine XS.icmpYes X0.here hx rfl (pc0 := 125) (pc' := 159) rfl (hb hby d1_125) rfl (feq (by decide : ¬ ((5 : Int32) = (4 : Int32)))).2 (by decide) (by decide) ?_
    show SG p e below s₁ (mkF m 159 #[lV vI5] []) _
    refine st1 _ ?_
    show SG p e below T1 (mkF m 162 #[lV vI5] [(.ref b1)]) _
    refine qd X1 hx hby d1_162 ?_
    refine qc X1 hx hby d1_163 ?_
    refine st4 _ ?_
    show SG p e below T4 (mkF m 166 #[lV vI5] [(.ref b4), (.ref b1), (.ref b1)]) _
    refine qd X4 hx hby d1_166 ?_
    refine qc X4 hx hby d1_167 ?_
    refine qb X4 hx hby d1_168 ?_
    refine st9 _ ?_
    show SG p e below T9 (mkF m 171 #[lV vI5] [(.ref b4), (.ref b1), (.ref b1)]) _
    refine qd X9 hx hby d1_171 ?_
    refine qc X9 hx hby d1_172 ?_
    refine qb X9 hx hby d1_173 ?_
    refine st10 _ ?_
    show SG p e below T10 (mkF m 176 #[lV vI5] [(.ref b4), (.ref b1), (.ref b1)]) _
    refine qd X10 hx hby d1_176 ?_
    refine qc X10 hx hby d1_177 ?_
    refine qb X10 hx hby d1_178 ?_
    refine st11 _ ?_
    show SG p e below T11 (mkF m 181 #[lV vI5] [(.ref b4), (.ref b1), (.ref b1)]) _
    refine qd X11 hx hby d1_181 ?_
    refine qc X11 hx hby d1_182 ?_
    refine qb X11 hx hby d1_183 ?_
    refine st12 _ ?_
    show SG p e below T12 (mkF m 186 #[lV vI5] [(.ref b4), (.ref b1), (.ref b1)]) _
    refine st25.trans ?_
    show SG p e below T25 (mkF m 189 #[lV vI5] [(.ref b1)]) _
    exact retOut X25 hx (i := .areturn) hret rfl (Or.inr (Or.inr (Or.inr (Or.inr ⟨rfl, rfl, rfl⟩)))) (hb hby d1_189) hr
theorem d12_44 : DK cB12 44 (.getstatic 56) 3 := by decide +kernel
theorem d12_47 : DK cB12 47 (.areturn) 1 := by decide +kernel
def Q12_6 (Z : State) (r0 : Addr) (h0 : Heap) (n0 : Nat) (v : Option Value) (h : Heap) (L : List Loc) : Prop := v = some (.ref r0) ∧ Fr n0 L ∧ h = h0
theorem rm12_6 (l : Launch) (Z : State) (a0 : Array Value) (hw : own_HW a0 Z) (ws : List Jvm.Cond) (r0 : Addr) (h0 : Heap) (n0 : Nat) (O0 : Old Z n0 h0) (f1 : Sta Z Z.heap cs0 "GUID" cs4 (.ref r0)) :
    own_MF l mN5 method_5_code 1 (some (.object cs0)) ws rR0_0_0_0 Z h0 #[vI5] (Q12_6 Z r0 h0 n0) := by
  refine own_open (plainFor_of_name pn_com_example_wiregather_wiregather_wire_FieldTypeOfLabelPinLaw) (L0 := #[lV vI5]) (fun _ => by first | (simp [entryFrame, mkF, argsToLocals, Value.category]; done) | rfl) ?_
  intro p e s m below meth c s₁ hx hby hml hret hnn hZ hown X0 e0
  have N0 := Fr.nil n0
  have f2 := f1.ext O0.2
  obtain ⟨T3, X3, e3, st3⟩ := getS2 X0 hx hZ hown (host := "") (Or.inl (ww hw 116 rfl)) Via.refl e0 f2 (g := (mkF m 44 #[lV vI5] [])) rfl (hb hby d12_44)
  refine ⟨some (.ref r0), _, _, _, _, nofun, X3, by decide, by decide, ?_, fun fs hr => ?_⟩
  · rw [e3]; exact ⟨rfl, N0, rfl⟩
  · show SG p e below s₁ (mkF m 0 #[lV vI5] []) _
    refine qiN X0 hx hby d12_0 ?_
    refine XS.ifYes X0.here hx rfl (pc0 := 1) (pc' := 8) rfl (hb hby d12_1) rfl ((if0 _ _).trans (feq (by decide : ¬ ((5 : Int32) = (0 : Int32)))).2) (by decide) (by decide) ?_
    show SG p e below s₁ (mkF m 8 #[lV vI5] []) _
    refine qiN X0 hx hby d12_8 ?_
    refine qc X0 hx hby d12_9 ?_
    refine XS.icmpYes X0.here hx rfl (pc0 := 10) (pc' := 17) rfl (hb hby d12_10) rfl (feq (by decide : ¬ ((5 : Int32) = (1 : Int32)))).2 (by decide) (by decide) ?_
    show SG p e below s₁ (mkF m 17 #[lV vI5] []) _
    refine qiN X0 hx hby d12_17 ?_
    refine qc X0 hx hby d12_18 ?_
    refine XS.icmpYes X0.here hx rfl (pc0 := 19) (pc' := 26) rfl (hb hby d12_19) rfl (feq (by decide : ¬ ((5 : Int32) = (2 : Int32)))).2 (by decide) (by decide) ?_
    show SG p e below s₁ (mkF m 26 #[lV vI5] []) _
    refine qiN X0 hx hby d12_26 ?_
    refine qc X0 hx hby d12_27 ?_
    refine XS.icmpYes X0.here hx rfl (pc0 := 28) (pc' := 35) rfl (hb hby d12_28) rfl (feq (by decide : ¬ ((5 : Int32) = (3 : Int32)))).2 (by decide) (by decide) ?_
    show SG p e below s₁ (mkF m 35 #[lV vI5] []) _
    refine qiN X0 hx hby d12_35 ?_
    refine qc X0 hx hby d12_36 ?_
    refine XS.icmpYes X0.here hx rfl (pc0 := 37) (pc' := 44) rfl (hb hby d12_37) rfl (feq (by decide : ¬ ((5 : Int32) = (4 : Int32)))).2 (by decide) (by decide) ?_
    show SG p e below s₁ (mkF m 44 #[lV vI5] []) _
    refine st3 _ ?_
    show SG p e below T3 (mkF m 47 #[lV vI5] [(.ref r0)]) _
    exact retOut X3 hx (i := .areturn) hret rfl (Or.inr (Or.inr (Or.inr (Or.inr ⟨rfl, rfl, rfl⟩)))) (hb hby d12_47) hr
def Q0_7 (Z : State) (x0 x1 : Int32) (x2 x3 : Int32) (x4 x5 : Int32) (r6 : Addr) (c7 : ClassId) (r8 r9 : Addr) (r10 r11 : Addr) (r12 r13 : Addr) (r14 r15 : Addr) (c16 : ClassId) (r17 r18 : Addr) (c19 : ClassId) (r20 r21 : Addr) (c22 : ClassId) (r23 r24 : Addr) (c25 : ClassId) (r26 r27 : Addr) (c28 : ClassId) (r29 r30 : Addr) (c31 : ClassId) (h0 : Heap) (n0 : Nat) (v : Option Value) (h : Heap) (L : List Loc) : Prop := v = some vI1 ∧ Fr n0 L
theorem rm0_7 (l : Launch) (Z : State) (a0 : Array Value) (hw : own_HW a0 Z) (ws : List Jvm.Cond) (x0 x1 : Int32) (x2 x3 : Int32) (x4 x5 : Int32) (r6 : Addr) (c7 : ClassId) (r8 r9 : Addr) (r10 r11 : Addr) (r12 r13 : Addr) (r14 r15 : Addr) (c16 : ClassId) (r17 r18 : Addr) (c19 : ClassId) (r20 r21 : Addr) (c22 : ClassId) (r23 r24 : Addr) (c25 : ClassId) (r26 r27 : Addr) (c28 : ClassId) (r29 r30 : Addr) (c31 : ClassId) (h0 : Heap) (n0 : Nat) (O0 : Old Z n0 h0) (hc2 : ¬ ((x0 &&& (3 : Int32)) = (3 : Int32))) (hc3 : (x0 &&& (3 : Int32)) = (0 : Int32)) (hc4 : ((((x0.toUInt32 >>> ((2 : Int32) &&& 31).toUInt32).toInt32) &&& (7 : Int32)) % (6 : Int32)) = (5 : Int32)) (f5 : Sta Z Z.heap "java/lang/String" "COMPACT_STRINGS" "Z" (.int x5)) (hc6 : ¬ (x5 = (0 : Int32))) (f19 : Sta Z Z.heap cs0 "$VALUES" cs1 (.ref r6)) (f20 : Exa Z Z.heap r6 cs1) (f21 : Arv Z Z.heap r6 c7 (.object cs0) (6 : Int32) [(.ref r8), (.ref r9), (.ref r10), (.ref r11), (.ref r12), (.ref r13)] .null) (f22 : Fld Z Z.heap r8 cs0 "label" "Ljava/lang/String;" (.ref r14)) (f23 : Exa Z Z.heap r14 "java/lang/String") (f24 : Fld Z Z.heap r14 "java/lang/String" "coder" "B" vI0) (f25 : Fld Z Z.heap r14 "java/lang/String" "value" "[B" (.ref r15)) (f26 : Arv Z Z.heap r15 c16 .byte (3 : Int32) [vI105, vI51, vI50] vI0) (f27 : Fld Z Z.heap r9 cs0 "label" "Ljava/lang/String;" (.ref r17)) (f28 : Exa Z Z.heap r17 "java/lang/String") (f29 : Fld Z Z.heap r17 "java/lang/String" "coder" "B" vI0) (f30 : Fld Z Z.heap r17 "java/lang/String" "value" "[B" (.ref r18)) (f31 : Arv Z Z.heap r18 c19 .byte (3 : Int32) [vI117, vI51, vI50] vI0) (f32 : Fld Z Z.heap r10 cs0 "label" "Ljava/lang/String;" (.ref r20)) (f33 : Exa Z Z.heap r20 "java/lang/String") (f34 : Fld Z Z.heap r20 "java/lang/String" "coder" "B" vI0) (f35 : Fld Z Z.heap r20 "java/lang/String" "value" "[B" (.ref r21)) (f36 : Arv Z Z.heap r21 c22 .byte (3 : Int32) [vI102, vI51, vI50] vI0) (f37 : Fld Z Z.heap r11 cs0 "label" "Ljava/lang/String;" (.ref r23)) (f38 : Exa Z Z.heap r23 "java/lang/String") (f39 : Fld Z Z.heap r23 "java/lang/String" "coder" "B" vI0) (f40 : Fld Z Z.heap r23 "java/lang/String" "value" "[B" (.ref r24)) (f41 : Arv Z Z.heap r24 c25 .byte (3 : Int32) [vI102, vI54, vI52] vI0) (f42 : Fld Z Z.heap r12 cs0 "label" "Ljava/lang/String;" (.ref r26)) (f43 : Exa Z Z.heap r26 "java/lang/String") (f44 : Fld Z Z.heap r26 "java/lang/String" "coder" "B" vI0) (f45 : Fld Z Z.heap r26 "java/lang/String" "value" "[B" (.ref r27)) (f46 : Arv Z Z.heap r27 c28 .byte (4 : Int32) [vI116, vI101, vI120, vI116] vI0) (f47 : Fld Z Z.heap r13 cs0 "label" "Ljava/lang/String;" (.ref r29)) (f48 : Exa Z Z.heap r29 "java/lang/String") (f49 : Fld Z Z.heap r29 "java/lang/String" "coder" "B" vI0) (f50 : Fld Z Z.heap r29 "java/lang/String" "value" "[B" (.ref r30)) (f51 : Arv Z Z.heap r30 c31 .byte (4 : Int32) [vI103, vI117, vI105, vI100] vI0) (f55 : Sta Z Z.heap cs0 "GUID" cs4 (.ref r13)) (hc58 : (own_lab [(103 : Int32), (117 : Int32), (105 : Int32), (100 : Int32)] r8 r9 r10 r11 r12 r13) = (.ref r13)) :
    own_MH l x code maxLocals ret ws room_1 Z h0 #[(.int x0), (.int x1), (.int x2), (.int x3), (.int x4)] (Q0_7 Z x0 x1 x2 x3 x4 x5 r6 c7 r8 r9 r10 r11 r12 r13 r14 r15 c16 r17 r18 c19 r20 r21 c22 r23 r24 c25 r26 r27 c28 r29 r30 c31 h0 n0) := by
  have hEL : EW Z a0 consts_1 := own_EW hw
  refine own_openH hEL (plainFor_of_name pn_com_example_wiregather_wiregather_wire_FieldTypeOfLabelPinLaw) (L0 := #[lI x0, lI x1, lI x2, lI x3, lI x4, lU, lU, lU, lU, lU, lU, lU, lU]) (fun _ => by first | (simp [entryFrame, mkF, argsToLocals, Value.category, maxLocals]; done) | rfl) ?_
  intro p e s m below meth c s₁ hx hby hml hret hnn hZ hown X0 e0 R0
  have N0 := Fr.nil n0; have w := @ww Z a0 hw
  have hS1 := (State.WarmedH.refl s).since 0
  obtain ⟨_, T7, Lc7, X7, hQ7, st7⟩ := own_cS X0 hx hZ hown e0 (rm1_6 l Z a0 hw [] x5 h0 n0 O0 f5 hc6) (w 0 rfl) (w 1 rfl) (w 2 rfl) (w 3 rfl) (by decide) (W := 0) (by decide) (by decide) (by decide) (by decide) (g := (mkF m 42 #[lI x0, lI x1, lI x2, lI x3, lI x4, .val (.int (x0 &&& (3 : Int32))), lV vI5, lU, lU, lU, lU, lU, lU] [vI5])) rfl (by rw [hml]; rfl) (argsL := [vI5]) (rest := []) (lenOf pd__I_Ljava_lang_String_ rfl) rfl (own_W rfl) (hb hby at_42)
  obtain ⟨b7_0, b7_1, k7_0, rfl, N7q, K7, f8, f9, f10, f11, f12, f13, f14, f15⟩ := hQ7
  have N7 := Fr.app N0 N7q
  have R16 := CHr.trans R0 (CHr.keep K7 sf0 R0.1)
  have sf17 : Safe Z consts_1 s.vm h0 b7_0 := Safe.new f8
  have sf18 : Safe Z consts_1 s.vm h0 b7_1 := Safe.new f12
  have o52 := Old.keep O0 K7 all0
  obtain ⟨_, T53, Lc53, X53, hQ53, st53⟩ := own_cS X7 hx hZ hown rfl (rm8_9 l Z a0 hw [] b7_0 b7_1 k7_0 (4 : Int32) ([(103 : Int32), (117 : Int32), (105 : Int32), (100 : Int32)]) r6 c7 r8 r9 r10 r11 r12 r13 r14 r15 c16 x5 r17 r18 c19 r20 r21 c22 r23 r24 c25 r26 r27 c28 r29 r30 c31 T7.heap n0 o52 f11 f13 f19 f20 f21 f22 f23 f24 f25 f26 f9 f10 (by decide) (by decide) f5 hc6 f27 f28 f29 f30 f31 f32 f33 f34 f35 f36 f37 f38 f39 f40 f41 f42 f43 f44 f45 f46 f47 f48 f49 f50 f51) (w 34 rfl) (w 35 rfl) (w 36 rfl) (w 37 rfl) (by decide) (W := 0) (by decide) (by decide) (by decide) (by decide) (g := (mkF m 45 #[lI x0, lI x1, lI x2, lI x3, lI x4, .val (.int (x0 &&& (3 : Int32))), lV vI5, lU, lU, lU, lU, lU, lU] [(.ref b7_0)])) rfl (by rw [hml]; rfl) (argsL := [(.ref b7_0)]) (rest := []) (lenOf pd__Ljava_lang_String__Lcom_example_wiregather_wiregather_wire_FieldType_ rfl) rfl (own_W rfl) (hb hby at_45)
  obtain ⟨rfl, N53q, K53⟩ := hQ53
  have N53 := Fr.app N7 N53q
  have R54 := CHr.trans R16 (CHr.keep K53 sf0 R16.1)
  have o56 := Old.keep o52 K53 all0
  obtain ⟨_, T57, Lc57, X57, hQ57, st57⟩ := own_finT (Jvm.LawKit.callS X53 hx (y := mN5) hown (mvT hZ (w 71 rfl)) (mvT hZ (w 72 rfl)) (mvT hZ (w 2 rfl)) (mvT hZ (w 73 rfl)) (by decide) (backOf (W := 1) (rm12_6 l Z a0 hw [] r13 T53.heap n0 o56 f55) hZ (w 73 rfl) (w 2 rfl) (by decide) (by decide)) (g := (mkF m 50 #[lI x0, lI x1, lI x2, lI x3, lI x4, .val (.int (x0 &&& (3 : Int32))), lV vI5, lU, lU, lU, lU, lU, lU] [vI5, (own_lab [(103 : Int32), (117 : Int32), (105 : Int32), (100 : Int32)] r8 r9 r10 r11 r12 r13)])) rfl (by rw [hml]; rfl) (argsL := [vI5]) (rest := [(own_lab [(103 : Int32), (117 : Int32), (105 : Int32), (100 : Int32)] r8 r9 r10 r11 r12 r13)]) (lenOf pd__I_Lcom_example_wiregather_wiregather_wire_FieldType_ rfl) rfl (by show 2 * 0 + _ ≤ _; simp only [List.map, own_qcat]; exact Nat.le_of_eq rfl) (hb hby at_50) (fun _ _ => ⟨rfl, rfl, (by decide : 4 + 0 ≤ _), (by decide : 18 + 0 ≤ _)⟩))
  obtain ⟨rfl, N57q, E57⟩ := hQ57
  have N57 := Fr.app N53 N57q
  refine ⟨some vI1, _, _, _, _, _, _, _, nofun, X57, by decide, by decide, hS1, (by rw [E57]; exact (Nat.zero_le _)), hZ, E57, R54, ?_, fun fs hr => ?_⟩
  · rw [E57]; exact ⟨rfl, N57⟩
  · show SG p e below s₁ (mkF m 0 #[lI x0, lI x1, lI x2, lI x3, lI x4, lU, lU, lU, lU, lU, lU, lU, lU] []) _
    refine qiN X0 hx hby at_0 ?_
    refine qc X0 hx hby at_1 ?_
    refine XS.iand X0.here hx rfl (hb hby at_2) rfl ?_
    refine XS.istore X0.here hx rfl (hb hby at_3) rfl (l' := #[lI x0, lI x1, lI x2, lI x3, lI x4, .val (.int (x0 &&& (3 : Int32))), lU, lU, lU, lU, lU, lU, lU]) rfl ?_
    refine qi X0 hx hby at_5 ?_
    refine qc X0 hx hby at_7 ?_
    refine XS.icmpYes X0.here hx rfl (pc0 := 8) (pc' := 24) rfl (hb hby at_8) rfl (feq hc2).2 (by decide) (by decide) ?_
    show SG p e below s₁ (mkF m 24 #[lI x0, lI x1, lI x2, lI x3, lI x4, .val (.int (x0 &&& (3 : Int32))), lU, lU, lU, lU, lU, lU, lU] []) _
    refine qi X0 hx hby at_24 ?_
    refine XS.ifNo X0.here hx rfl (hb hby at_26) rfl ((if0 _ _).trans (teq hc3).2) ?_
    refine qiN X0 hx hby at_29 ?_
    refine qc X0 hx hby at_30 ?_
    refine XS.iushr X0.here hx rfl (hb hby at_31) rfl ?_
    refine qb X0 hx hby at_32 ?_
    refine XS.iand X0.here hx rfl (hb hby at_34) rfl ?_
    refine qb X0 hx hby at_35 ?_
    show SG p e below s₁ (mkF m 37 #[lI x0, lI x1, lI x2, lI x3, lI x4, .val (.int (x0 &&& (3 : Int32))), lU, lU, lU, lU, lU, lU, lU] [vI6, (.int (((x0.toUInt32 >>> ((2 : Int32) &&& 31).toUInt32).toInt32) &&& (7 : Int32)))]) _
    refine iremM (g := (mkF m 37 #[lI x0, lI x1, lI x2, lI x3, lI x4, .val (.int (x0 &&& (3 : Int32))), lU, lU, lU, lU, lU, lU, lU] [vI6, (.int (((x0.toUInt32 >>> ((2 : Int32) &&& 31).toUInt32).toInt32) &&& (7 : Int32)))])) X0 hx rfl (hb hby at_37) rfl (by decide : ¬ ((6 : Int32) = (0 : Int32))) ?_
    show SG p e below s₁ (mkF m 38 #[lI x0, lI x1, lI x2, lI x3, lI x4, .val (.int (x0 &&& (3 : Int32))), lU, lU, lU, lU, lU, lU, lU] [(.int ((((x0.toUInt32 >>> ((2 : Int32) &&& 31).toUInt32).toInt32) &&& (7 : Int32)) % (6 : Int32)))]) _
    rw [hc4]
    show SG p e below s₁ (mkF m 38 #[lI x0, lI x1, lI x2, lI x3, lI x4, .val (.int (x0 &&& (3 : Int32))), lU, lU, lU, lU, lU, lU, lU] [vI5]) _
    refine XS.istore X0.here hx rfl (hb hby at_38) rfl (l' := #[lI x0, lI x1, lI x2, lI x3, lI x4, .val (.int (x0 &&& (3 : Int32))), lV vI5, lU, lU, lU, lU, lU, lU]) rfl ?_
    refine qi X0 hx hby at_40 ?_
    refine st7 _ ?_
    show SG p e below T7 (mkF m 45 #[lI x0, lI x1, lI x2, lI x3, lI x4, .val (.int (x0 &&& (3 : Int32))), lV vI5, lU, lU, lU, lU, lU, lU] [(.ref b7_0)]) _
    refine st53 _ ?_
    show SG p e below T53 (mkF m 48 #[lI x0, lI x1, lI x2, lI x3, lI x4, .val (.int (x0 &&& (3 : Int32))), lV vI5, lU, lU, lU, lU, lU, lU] [(own_lab [(103 : Int32), (117 : Int32), (105 : Int32), (100 : Int32)] r8 r9 r10 r11 r12 r13)]) _
    refine qi X53 hx hby at_48 ?_
    refine st57 _ ?_
    show SG p e below T57 (mkF m 53 #[lI x0, lI x1, lI x2, lI x3, lI x4, .val (.int (x0 &&& (3 : Int32))), lV vI5, lU, lU, lU, lU, lU, lU] [(.ref r13), (own_lab [(103 : Int32), (117 : Int32), (105 : Int32), (100 : Int32)] r8 r9 r10 r11 r12 r13)]) _
    refine Jvm.RoadKit.acmp (g := (mkF m 53 #[lI x0, lI x1, lI x2, lI x3, lI x4, .val (.int (x0 &&& (3 : Int32))), lV vI5, lU, lU, lU, lU, lU, lU] [(.ref r13), (own_lab [(103 : Int32), (117 : Int32), (105 : Int32), (100 : Int32)] r8 r9 r10 r11 r12 r13)])) X57 hx rfl (own_labRef) rfl (pc0 := 53) (pc' := 56) (same := true) rfl (hb hby at_53) rfl (decide_eq_true hc58) (by decide) (by decide) ?_
    show SG p e below T57 (mkF m 56 #[lI x0, lI x1, lI x2, lI x3, lI x4, .val (.int (x0 &&& (3 : Int32))), lV vI5, lU, lU, lU, lU, lU, lU] []) _
    refine qc X57 hx hby at_56 ?_
    refine XS.goto X57.here hx rfl (pc0 := 57) (pc' := 61) rfl (hb hby at_57) (by decide) (by decide) ?_
    show SG p e below T57 (mkF m 61 #[lI x0, lI x1, lI x2, lI x3, lI x4, .val (.int (x0 &&& (3 : Int32))), lV vI5, lU, lU, lU, lU, lU, lU] [vI1]) _
    exact retN X57 hx (t := .boolean) hret (by simp) (hb hby at_61) hr
theorem d13_0 : DK cB13 0 (.iload_n 0) 1 := by decide +kernel
theorem d13_1 : DK cB13 1 (.sipush 256) 3 := by decide +kernel
theorem d13_4 : DK cB13 4 (.iand) 1 := by decide +kernel
theorem d13_5 : DK cB13 5 (.ifCond .ne 19) 3 := by decide +kernel
theorem d13_8 : DK cB13 8 (.iload_n 0) 1 := by decide +kernel
theorem d13_9 : DK cB13 9 (.sipush 255) 3 := by decide +kernel
theorem d13_12 : DK cB13 12 (.iand) 1 := by decide +kernel
theorem d13_13 : DK cB13 13 (.bipush 13) 2 := by decide +kernel
theorem d13_15 : DK cB13 15 (.irem) 1 := by decide +kernel
theorem d13_16 : DK cB13 16 (.istore_n 1) 1 := by decide +kernel
theorem d13_17 : DK cB13 17 (.ldc 35) 2 := by decide +kernel
theorem own_str : ∀ a ∈ Bundle.stringAtoms, a ∈ tables_1 := by decide +kernel
theorem d13_19 : DK cB13 19 (.iload_n 1) 1 := by decide +kernel
theorem d13_20 : DK cB13 20 (.invokevirtual 37) 3 := by decide +kernel
theorem d14_0 : DK cB14 0 (.aload_n 0) 1 := by decide +kernel
theorem d14_1 : DK cB14 1 (.invokevirtual 492) 3 := by decide +kernel
theorem d15_0 : DK cB15 0 (.getstatic 38) 3 := by decide +kernel
theorem d15_3 : DK cB15 3 (.ifCond .eq 14) 3 := by decide +kernel
theorem d15_6 : DK cB15 6 (.aload_n 0) 1 := by decide +kernel
theorem d15_7 : DK cB15 7 (.getfield 15) 3 := by decide +kernel
theorem d15_10 : DK cB15 10 (.ifCond .ne 7) 3 := by decide +kernel
theorem d15_13 : DK cB15 13 (.iconst 1) 1 := by decide +kernel
theorem d15_14 : DK cB15 14 (.goto 4) 3 := by decide +kernel
theorem d15_18 : DK cB15 18 (.ireturn) 1 := by decide +kernel
def Q15_1 (Z : State) (r0 : Addr) (x1 x2 : Int32) (h0 : Heap) (n0 : Nat) (v : Option Value) (h : Heap) (L : List Loc) : Prop := v = some vI1 ∧ Fr n0 L ∧ h = h0
theorem rm15_1 (l : Launch) (Z : State) (a0 : Array Value) (hw : own_HW a0 Z) (ws : List Jvm.Cond) (r0 : Addr) (x1 x2 : Int32) (h0 : Heap) (n0 : Nat) (O0 : Old Z n0 h0) (f1 : Sta Z Z.heap "java/lang/String" "COMPACT_STRINGS" "Z" (.int x1)) (hc4 : ¬ (x1 = (0 : Int32))) (f5 : Fld Z h0 r0 "java/lang/String" "coder" "B" (.int x2)) (hc7 : x2 = (0 : Int32)) :
    own_MF l mN6 jdk_42_method_154_code 1 (some .boolean) ws rR0_0_0_0 Z h0 #[(.ref r0)] (Q15_1 Z r0 x1 x2 h0 n0) := by
  refine own_open (plainFor_of_name pn_java_lang_String) (L0 := #[lR r0]) (fun _ => by first | (simp [entryFrame, mkF, argsToLocals, Value.category]; done) | rfl) ?_
  intro p e s m below meth c s₁ hx hby hml hret hnn hZ hown X0 e0
  have N0 := Fr.nil n0
  have f2 := f1.ext O0.2
  obtain ⟨T3, X3, e3, st3⟩ := getS2 X0 hx hZ hown (host := "") (Or.inl (ww hw 18 rfl)) Via.refl e0 f2 (g := (mkF m 0 #[lR r0] [])) rfl (hb hby d15_0)
  obtain ⟨T6, X6, e6, st6⟩ := getF X3 hx hZ hown (host := "") (Or.inl (ww hw 30 rfl)) Via.refl e3 f5 (g := (mkF m 7 #[lR r0] [(.ref r0)])) rfl rfl (hb hby d15_7)
  refine ⟨some vI1, _, _, _, _, nofun, X6, by decide, by decide, ?_, fun fs hr => ?_⟩
  · rw [e6]; exact ⟨rfl, N0, rfl⟩
  · show SG p e below s₁ (mkF m 0 #[lR r0] []) _
    refine st3 _ ?_
    show SG p e below T3 (mkF m 3 #[lR r0] [(.int x1)]) _
    refine XS.ifNo X3.here hx rfl (hb hby d15_3) rfl ((if0 _ _).trans (feq hc4).1) ?_
    refine qaN X3 hx hby d15_6 ?_
    refine st6 _ ?_
    show SG p e below T6 (mkF m 10 #[lR r0] [(.int x2)]) _
    refine XS.ifNo X6.here hx rfl (hb hby d15_10) rfl ((if0 _ _).trans (teq hc7).2) ?_
    refine qc X6 hx hby d15_13 ?_
    refine XS.goto X6.here hx rfl (pc0 := 14) (pc' := 18) rfl (hb hby d15_14) (by decide) (by decide) ?_
    show SG p e below T6 (mkF m 18 #[lR r0] [vI1]) _
    exact retN X6 hx (t := .boolean) hret (by simp) (hb hby d15_18) hr
theorem pd___Z : parseMethodDescriptor "()Z" = some ⟨[], some .boolean⟩ := by decide +kernel
theorem d14_4 : DK cB14 4 (.ifCond .eq 12) 3 := by decide +kernel
theorem d14_7 : DK cB14 7 (.aload_n 0) 1 := by decide +kernel
theorem d14_8 : DK cB14 8 (.getfield 9) 3 := by decide +kernel
theorem d14_11 : DK cB14 11 (.iload_n 1) 1 := by decide +kernel
theorem d14_12 : DK cB14 12 (.invokestatic 495) 3 := by decide +kernel
theorem d16_0 : DK cB16 0 (.iload_n 1) 1 := by decide +kernel
theorem d16_1 : DK cB16 1 (.aload_n 0) 1 := by decide +kernel
theorem d16_2 : DK cB16 2 (.arraylength) 1 := by decide +kernel
theorem d16_3 : DK cB16 3 (.invokestatic 9) 3 := by decide +kernel
theorem d17_0 : DK cB17 0 (.iload_n 0) 1 := by decide +kernel
theorem d17_1 : DK cB17 1 (.iload_n 1) 1 := by decide +kernel
theorem d17_2 : DK cB17 2 (.getstatic 1053) 3 := by decide +kernel
theorem d17_5 : DK cB17 5 (.invokestatic 1059) 3 := by decide +kernel
theorem d18_0 : DK cB18 0 (.iload_n 0) 1 := by decide +kernel
theorem d18_1 : DK cB18 1 (.ifCond .lt 8) 3 := by decide +kernel
theorem d18_4 : DK cB18 4 (.iload_n 0) 1 := by decide +kernel
theorem d18_5 : DK cB18 5 (.iload_n 1) 1 := by decide +kernel
theorem d18_6 : DK cB18 6 (.if_icmp .lt 10) 3 := by decide +kernel
theorem d18_16 : DK cB18 16 (.iload_n 0) 1 := by decide +kernel
theorem d18_17 : DK cB18 17 (.ireturn) 1 := by decide +kernel
theorem own_catR {v : Value} (h : v.isRef = true) : v = .null ∨ ∃ a, v = .ref a := by cases v <;> simp [Value.isRef] at h ⊢
theorem pn_jdk_internal_util_Preconditions : plainName cs6 = true := by first | (simp [plainName, overriddenIn]; done) | decide +kernel
def Q18_1 (Z : State) (x0 x1 : Int32) (u2 : Value) (h0 : Heap) (n0 : Nat) (v : Option Value) (h : Heap) (L : List Loc) : Prop := v = some (.int x0) ∧ Fr n0 L ∧ h = h0
theorem rm18_1 (l : Launch) (Z : State) (a0 : Array Value) (hw : own_HW a0 Z) (ws : List Jvm.Cond) (x0 x1 : Int32) (u2 : Value) (h0 : Heap) (n0 : Nat) (O0 : Old Z n0 h0) (hc1 : u2.isRef = true) (hc2 : ¬ (x0 < (0 : Int32))) (hc3 : x0 < x1) :
    MetFree l mN7 (head1 (Jvm.Cond.code mN7 jdk_41_method_11_code 3 (some .int) :: ws) rR0_0_0_0) (fun a U => a = #[(.int x0), (.int x1), u2] ∧ Z.Warmed39 U.vm ∧ U.heap = h0) (fun _ _ _ _ _ => True) (fun _ U o U' => ∃ v L, o = .returned v ∧ Q18_1 Z x0 x1 u2 h0 n0 v U'.heap L ∧ FrameEnd U o U' L rR0_0_0_0.cells rR0_0_0_0.slots) := by
  refine MetFree.of_bodySF (plainFor_of_name pn_jdk_internal_util_Preconditions) hisR ?_
  intro p e s m args below meth c s₁ Bd hml0 hP hK
  obtain ⟨rfl, hZ, hh⟩ := hP
  have hx := Bd.exec
  have hby := Bd.bytes
  have hml : c.maxLocals = 3 := hml0
  have hown : s.vm.findClass cs6 = some m.cls := findClass_of_methodNamed Bd.named
  have X0 : Stand p l e rR0_0_0_0 s m #[(.int x0), (.int x1), u2] below meth c s₁ [] 0 0 := Stand.of_body Bd
  have e0 : s₁.heap = h0 := by rw [← hh, Bd.state]; rfl
  have N0 := Fr.nil n0
  have pre0 : ∀ t, Steps p.tables e below (s₁.setTop (mkF m 0 #[lI x0, lI x1, .val u2] [])) t → Steps p.tables e below (s₁.setTop (entryFrame m #[(.int x0), (.int x1), u2] 3)) t := fun t k => castTop (by rcases own_catR hc1 with q | ⟨_, q⟩ <;> rw [q] <;> first | (simp [entryFrame, mkF, argsToLocals, Value.category]; done) | rfl) k
  obtain ⟨fs, hr, hrun, hended, hW, hsame⟩ := X0.leave (v := some (.int x0)) (fun h => by rw [Bd.returns] at h; cases h)
  refine ⟨_, _, pre0 _ ?_, hrun, hended, _, _, rfl, ?_, ⟨_, rfl⟩, hW, hsame.mono (by decide) (by decide)⟩
  · show SG p e below s₁ (mkF m 0 #[lI x0, lI x1, .val u2] []) _
    refine qiN X0 hx hby d18_0 ?_
    refine XS.ifNo X0.here hx rfl (hb hby d18_1) rfl ((if0 _ _).trans (flt hc2).1) ?_
    refine qiN X0 hx hby d18_4 ?_
    refine qiN X0 hx hby d18_5 ?_
    refine XS.icmpYes X0.here hx rfl (pc0 := 6) (pc' := 16) rfl (hb hby d18_6) rfl (tlt hc3).1 (by decide) (by decide) ?_
    show SG p e below s₁ (mkF m 16 #[lI x0, lI x1, .val u2] []) _
    refine qiN X0 hx hby d18_16 ?_
    exact retOut X0 hx (i := .ireturn) Bd.returns rfl (Or.inl ⟨rfl, Or.inl rfl, _, rfl⟩) (hb hby d18_17) hr
  · show Q18_1 Z x0 x1 u2 h0 n0 _ s₁.heap _
    rw [e0]
    exact ⟨rfl, N0, rfl⟩
theorem pd__IILjava_util_function_BiFunction__I : parseMethodDescriptor "(IILjava/util/function/BiFunction;)I" = some ⟨[.int, .int, (.object "java/util/function/BiFunction")], some .int⟩ := by decide +kernel
theorem d17_8 : DK cB17 8 (.pop) 1 := by decide +kernel
theorem d17_9 : DK cB17 9 (.return_) 1 := by decide +kernel
def Q17_1 (Z : State) (x0 x1 : Int32) (u2 : Value) (h0 : Heap) (n0 : Nat) (v : Option Value) (h : Heap) (L : List Loc) : Prop := v = none ∧ Fr n0 L ∧ h = h0
theorem rm17_1 (l : Launch) (Z : State) (a0 : Array Value) (hw : own_HW a0 Z) (ws : List Jvm.Cond) (x0 x1 : Int32) (u2 : Value) (h0 : Heap) (n0 : Nat) (O0 : Old Z n0 h0) (f1 : Sta Z Z.heap cs6 "SIOOBE_FORMATTER" cs7 u2) (hc4 : u2.isRef = true) (hc5 : ¬ (x0 < (0 : Int32))) (hc6 : x0 < x1) :
    own_MF l mN8 jdk_42_method_155_code 2 none ws rR1_0_0_14 Z h0 #[(.int x0), (.int x1)] (Q17_1 Z x0 x1 u2 h0 n0) := by
  refine own_open (plainFor_of_name pn_java_lang_String) (L0 := #[lI x0, lI x1]) (fun _ => by first | (simp [entryFrame, mkF, argsToLocals, Value.category]; done) | rfl) ?_
  intro p e s m below meth c s₁ hx hby hml hret hnn hZ hown X0 e0
  have N0 := Fr.nil n0; have w := @ww Z a0 hw
  have f2 := f1.ext O0.2
  obtain ⟨T3, X3, e3, st3⟩ := getS2 X0 hx hZ hown (host := "") (Or.inl (w 97 rfl)) Via.refl e0 f2 (g := (mkF m 2 #[lI x0, lI x1] [(.int x1), (.int x0)])) rfl (hb hby d17_2)
  obtain ⟨_, T7, Lc7, X7, hQ7, st7⟩ := own_cS X3 hx hZ hown e3 (rm18_1 l Z a0 hw [] x0 x1 u2 h0 n0 O0 hc4 hc5 hc6) (w 99 rfl) (w 100 rfl) (w 98 rfl) (w 101 rfl) (by decide) (W := 0) (by decide) (by decide) (by decide) (by decide) (g := (mkF m 5 #[lI x0, lI x1] [u2, (.int x1), (.int x0)])) rfl (by rw [hml]; rfl) (argsL := [(.int x0), (.int x1), u2]) (rest := []) (lenOf pd__IILjava_util_function_BiFunction__I rfl) rfl (own_W rfl) (hb hby d17_5)
  obtain ⟨rfl, N7q, E7⟩ := hQ7
  have N7 := Fr.app N0 N7q
  refine ⟨none, _, _, _, _, (fun _ => rfl), X7, by decide, by decide, ?_, fun fs hr => ?_⟩
  · rw [E7]; exact ⟨rfl, N7, rfl⟩
  · show SG p e below s₁ (mkF m 0 #[lI x0, lI x1] []) _
    refine qiN X0 hx hby d17_0 ?_
    refine qiN X0 hx hby d17_1 ?_
    refine st3 _ ?_
    show SG p e below T3 (mkF m 5 #[lI x0, lI x1] [u2, (.int x1), (.int x0)]) _
    refine st7 _ ?_
    show SG p e below T7 (mkF m 8 #[lI x0, lI x1] [(.int x0)]) _
    refine XS.pop X7.here hx rfl (hb hby d17_8) rfl rfl ?_
    exact X7.returnOut hx hret (hb hby d17_9) hr
theorem pd__II_V : parseMethodDescriptor "(II)V" = some ⟨[.int, .int], none⟩ := by decide +kernel
theorem d16_6 : DK cB16 6 (.aload_n 0) 1 := by decide +kernel
theorem d16_7 : DK cB16 7 (.iload_n 1) 1 := by decide +kernel
theorem d16_8 : DK cB16 8 (.baload) 1 := by decide +kernel
theorem d16_9 : DK cB16 9 (.sipush 255) 3 := by decide +kernel
theorem d16_12 : DK cB16 12 (.iand) 1 := by decide +kernel
theorem d16_13 : DK cB16 13 (.i2c) 1 := by decide +kernel
theorem d16_14 : DK cB16 14 (.ireturn) 1 := by decide +kernel
theorem pn_java_lang_StringLatin1 : plainName "java/lang/StringLatin1" = true := by first | (simp [plainName, overriddenIn]; done) | decide +kernel
def Q16_1 (Z : State) (r0 : Addr) (x1 x2 : Int32) (c3 : ClassId) (t4 : List Value) (u5 : Value) (x6 : Int32) (h0 : Heap) (n0 : Nat) (v : Option Value) (h : Heap) (L : List Loc) : Prop := v = some (.int (nar .char ((x6 &&& (255 : Int32)).toUInt32.toUInt16.toUInt32.toInt32))) ∧ Fr n0 L ∧ h = h0
theorem rm16_1 (l : Launch) (Z : State) (a0 : Array Value) (hw : own_HW a0 Z) (ws : List Jvm.Cond) (r0 : Addr) (x1 x2 : Int32) (c3 : ClassId) (t4 : List Value) (u5 : Value) (x6 : Int32) (h0 : Heap) (n0 : Nat) (O0 : Old Z n0 h0) (f1 : Arv Z h0 r0 c3 .byte x2 t4 vI0) (f3 : Sta Z Z.heap cs6 "SIOOBE_FORMATTER" cs7 u5) (hc4 : u5.isRef = true) (hc5 : ¬ (x1 < (0 : Int32))) (hc6 : x1 < x2) (he9 : t4.getD (x1).toNatClampNeg vI0 = (.int x6)) :
    own_MF l mN9 jdk_43_method_2_code 2 (some .char) ws rR2_0_0_27 Z h0 #[(.ref r0), (.int x1)] (Q16_1 Z r0 x1 x2 c3 t4 u5 x6 h0 n0) := by
  refine own_open (plainFor_of_name pn_java_lang_StringLatin1) (L0 := #[lR r0, lI x1]) (fun _ => by first | (simp [entryFrame, mkF, argsToLocals, Value.category]; done) | rfl) ?_
  intro p e s m below meth c s₁ hx hby hml hret hnn hZ hown X0 e0
  have N0 := Fr.nil n0
  obtain ⟨clq2, Arq2, qq2, Sq2, Nq2, Hq2, Gq2⟩ := id f1
  obtain ⟨_, T7, Lc7, X7, hQ7, st7⟩ := own_cS X0 hx hZ hown e0 (rm17_1 l Z a0 hw [] x1 x2 u5 h0 n0 O0 f3 hc4 hc5 hc6) (ww hw 94 rfl) (ww hw 95 rfl) (ww hw 6 rfl) (ww hw 96 rfl) (by decide) (W := 0) (by decide) (by decide) (by decide) (by decide) (g := (mkF m 3 #[lR r0, lI x1] [(.int x2), (.int x1)])) rfl (by rw [hml]; rfl) (argsL := [(.int x1), (.int x2)]) (rest := []) (lenOf pd__II_V rfl) rfl (own_W rfl) (hb hby d16_3)
  obtain ⟨rfl, N7q, E7⟩ := hQ7
  have N7 := Fr.app N0 N7q
  obtain ⟨clq8, Arq8, qq8, Sq8, Nq8, Hq8, Gq8⟩ := id f1
  refine ⟨some (.int (nar .char ((x6 &&& (255 : Int32)).toUInt32.toUInt16.toUInt32.toInt32))), _, _, _, _, nofun, X7, by decide, by decide, ?_, fun fs hr => ?_⟩
  · rw [E7]; exact ⟨rfl, N7, rfl⟩
  · show SG p e below s₁ (mkF m 0 #[lR r0, lI x1] []) _
    refine qiN X0 hx hby d16_0 ?_
    refine qaN X0 hx hby d16_1 ?_
    refine X0.arraylength hx (by rw [e0]; exact Arq2.1) (State.isArrayOf_alike hZ.alike Arq2.2.1) (g := (mkF m 2 #[lR r0, lI x1] [(.ref r0), (.int x1)])) rfl rfl (hb hby d16_2) _ ?_
    rw [len_of Sq2 Nq2]
    show SG p e below s₁ (mkF m 3 #[lR r0, lI x1] [(.int x2), (.int x1)]) _
    refine st7 _ ?_
    show SG p e below T7 (mkF m 6 #[lR r0, lI x1] []) _
    refine qaN X7 hx hby d16_6 ?_
    refine qiN X7 hx hby d16_7 ?_
    refine X7.baloadBytes hx (j := x1) (v := (.int x6)) (by rw [E7]; exact Arq8.1) (State.isArrayOf_alike hZ.alike Arq8.2.1) Arq8.2.2 (inb_of Sq8 ⟨hc5, hc6⟩) (Has.at Hq8 (inb_of Sq8 ⟨hc5, hc6⟩) he9) (g := (mkF m 8 #[lR r0, lI x1] [(.int x1), (.ref r0)])) rfl rfl (hb hby d16_8) _ ?_
    show SG p e below T7 (mkF m 9 #[lR r0, lI x1] [(.int x6)]) _
    refine XS.sipush X7.here hx rfl (hb hby d16_9) ?_
    refine XS.iand X7.here hx rfl (hb hby d16_12) rfl ?_
    refine XS.i2c X7.here hx rfl (hb hby d16_13) rfl ?_
    exact retN X7 hx (t := .char) hret (by simp) (hb hby d16_14) hr
theorem pd___BI_C : parseMethodDescriptor "([BI)C" = some ⟨[(.array .byte), .int], some .char⟩ := by decide +kernel
theorem d14_15 : DK cB14 15 (.ireturn) 1 := by decide +kernel
def Q14_1 (Z : State) (r0 : Addr) (x1 x2 x3 : Int32) (r4 : Addr) (x5 : Int32) (c6 : ClassId) (t7 : List Value) (u8 : Value) (x9 : Int32) (h0 : Heap) (n0 : Nat) (v : Option Value) (h : Heap) (L : List Loc) : Prop := v = some (.int (nar .char (nar .char ((x9 &&& (255 : Int32)).toUInt32.toUInt16.toUInt32.toInt32)))) ∧ Fr n0 L ∧ h = h0
theorem rm14_1 (l : Launch) (Z : State) (a0 : Array Value) (hw : own_HW a0 Z) (ws : List Jvm.Cond) (r0 : Addr) (x1 x2 x3 : Int32) (r4 : Addr) (x5 : Int32) (c6 : ClassId) (t7 : List Value) (u8 : Value) (x9 : Int32) (h0 : Heap) (n0 : Nat) (O0 : Old Z n0 h0) (f1 : Exa Z h0 r0 "java/lang/String") (f2 : Sta Z Z.heap "java/lang/String" "COMPACT_STRINGS" "Z" (.int x2)) (hc3 : ¬ (x2 = (0 : Int32))) (f4 : Fld Z h0 r0 "java/lang/String" "coder" "B" (.int x3)) (hc5 : x3 = (0 : Int32)) (f7 : Fld Z h0 r0 "java/lang/String" "value" "[B" (.ref r4)) (f9 : Arv Z h0 r4 c6 .byte x5 t7 vI0) (f10 : Sta Z Z.heap cs6 "SIOOBE_FORMATTER" cs7 u8) (hc11 : u8.isRef = true) (hc12 : ¬ (x1 < (0 : Int32))) (hc13 : x1 < x5) (he14 : t7.getD (x1).toNatClampNeg vI0 = (.int x9)) :
    own_MF l mN10 jdk_42_method_56_code 2 (some .char) ws rR3_0_0_40 Z h0 #[(.ref r0), (.int x1)] (Q14_1 Z r0 x1 x2 x3 r4 x5 c6 t7 u8 x9 h0 n0) := by
  refine own_open (plainFor_of_name pn_java_lang_String) (L0 := #[lR r0, lI x1]) (fun _ => by first | (simp [entryFrame, mkF, argsToLocals, Value.category]; done) | rfl) ?_
  intro p e s m below meth c s₁ hx hby hml hret hnn hZ hown X0 e0
  have N0 := Fr.nil n0; have w := @ww Z a0 hw
  obtain ⟨_, T6, Lc6, X6, hQ6, st6⟩ := own_cV X0 hx hZ hown e0 (rm15_1 l Z a0 hw [] r0 x2 x3 h0 n0 O0 f2 hc3 f4 hc5) f1 (w 86 rfl) (w 87 rfl) (w 89 rfl) (w 88 rfl) (w 90 rfl) (w 6 rfl) (by decide) (W := 0) (by decide) (by decide) (by decide) (by decide) (g := (mkF m 1 #[lR r0, lI x1] [(.ref r0)])) rfl (by rw [hml]; rfl) (argsL := []) (rest := []) (lenOf pd___Z rfl) rfl (own_W rfl) (hb hby d14_1)
  obtain ⟨rfl, N6q, E6⟩ := hQ6
  have N6 := Fr.app N0 N6q
  obtain ⟨T8, X8, e8, st8⟩ := getF X6 hx hZ hown (host := "") (Or.inl (w 32 rfl)) Via.refl E6 f7 (g := (mkF m 8 #[lR r0, lI x1] [(.ref r0)])) rfl rfl (hb hby d14_8)
  obtain ⟨_, T15, Lc15, X15, hQ15, st15⟩ := own_cS X8 hx hZ hown e8 (rm16_1 l Z a0 hw [] r4 x1 x5 c6 t7 u8 x9 h0 n0 O0 f9 f10 hc11 hc12 hc13 he14) (w 91 rfl) (w 92 rfl) (w 69 rfl) (w 93 rfl) (by decide) (W := 0) (by decide) (by decide) (by decide) (by decide) (g := (mkF m 12 #[lR r0, lI x1] [(.int x1), (.ref r4)])) rfl (by rw [hml]; rfl) (argsL := [(.ref r4), (.int x1)]) (rest := []) (lenOf pd___BI_C rfl) rfl (own_W rfl) (hb hby d14_12)
  obtain ⟨rfl, N15q, E15⟩ := hQ15
  have N15 := Fr.app N6 N15q
  refine ⟨some (.int (nar .char (nar .char ((x9 &&& (255 : Int32)).toUInt32.toUInt16.toUInt32.toInt32)))), _, _, _, _, nofun, X15, by decide, by decide, ?_, fun fs hr => ?_⟩
  · rw [E15]; exact ⟨rfl, N15, rfl⟩
  · show SG p e below s₁ (mkF m 0 #[lR r0, lI x1] []) _
    refine qaN X0 hx hby d14_0 ?_
    refine st6 _ ?_
    show SG p e below T6 (mkF m 4 #[lR r0, lI x1] [vI1]) _
    refine XS.ifNo X6.here hx rfl (hb hby d14_4) rfl ((if0 _ _).trans (feq (by decide : ¬ ((1 : Int32) = (0 : Int32)))).1) ?_
    refine qaN X6 hx hby d14_7 ?_
    refine st8 _ ?_
    show SG p e below T8 (mkF m 11 #[lR r0, lI x1] [(.ref r4)]) _
    refine qiN X8 hx hby d14_11 ?_
    refine st15 _ ?_
    show SG p e below T15 (mkF m 15 #[lR r0, lI x1] [(.int (nar .char ((x9 &&& (255 : Int32)).toUInt32.toUInt16.toUInt32.toInt32)))]) _
    exact retN X15 hx (t := .char) hret (by simp) (hb hby d14_15) hr
theorem pd__I_C : parseMethodDescriptor "(I)C" = some ⟨[.int], some .char⟩ := by decide +kernel
theorem d13_23 : DK cB13 23 (.ireturn) 1 := by decide +kernel
def Q13_1 (Z : State) (x0 x1 : Int32) (u2 : Value) (h0 : Heap) (n0 : Nat) (v : Option Value) (h : Heap) (L : List Loc) : Prop := v = some (.int (nar .char (nar .char (nar .char (((own_at [vI105, vI117, vI102, vI51, vI50, vI54, vI52, vI116, vI101, vI120, vI116, vI103, vI100] (((x0 &&& (255 : Int32)) % (13 : Int32))).toNatClampNeg) &&& (255 : Int32)).toUInt32.toUInt16.toUInt32.toInt32))))) ∧ Fr n0 L ∧ Keep h0 h []
theorem rm13_1 (l : Launch) (Z : State) (a0 : Array Value) (hw : own_HW a0 Z) (ws : List Jvm.Cond) (x0 x1 : Int32) (u2 : Value) (h0 : Heap) (n0 : Nat) (O0 : Old Z n0 h0) (hc2 : (x0 &&& (256 : Int32)) = (0 : Int32)) (f5 : Sta Z Z.heap "java/lang/String" "COMPACT_STRINGS" "Z" (.int x1)) (hc6 : ¬ (x1 = (0 : Int32))) (f7 : Sta Z Z.heap cs6 "SIOOBE_FORMATTER" cs7 u2) (hc8 : u2.isRef = true) (hc9 : ¬ (((x0 &&& (255 : Int32)) % (13 : Int32)) < (0 : Int32))) (hc10 : ((x0 &&& (255 : Int32)) % (13 : Int32)) < (13 : Int32)) (hc11 : ([vI105, vI117, vI102, vI51, vI50, vI54, vI52, vI116, vI101, vI120, vI116, vI103, vI100] : List Value).getD (((x0 &&& (255 : Int32)) % (13 : Int32))).toNatClampNeg vI0 = (.int (own_at [vI105, vI117, vI102, vI51, vI50, vI54, vI52, vI116, vI101, vI120, vI116, vI103, vI100] (((x0 &&& (255 : Int32)) % (13 : Int32))).toNatClampNeg))) :
    own_MH l mN11 method_3_code 2 (some .char) ws rR4_2_56_70 Z h0 #[(.int x0)] (Q13_1 Z x0 x1 u2 h0 n0) := by
  have hEL : EW Z a0 consts_1 := own_EW hw
  refine own_openH hEL (plainFor_of_name pn_com_example_wiregather_wiregather_wire_FieldTypeOfLabelPinLaw) (L0 := #[lI x0, lU]) (fun _ => by first | (simp [entryFrame, mkF, argsToLocals, Value.category]; done) | rfl) ?_
  intro p e s m below meth c s₁ hx hby hml hret hnn hZ hown X0 e0 R0
  have N0 := Fr.nil n0; have w := @ww Z a0 hw
  have hS1 := (State.WarmedH.refl s).since 0
  have hstr : ∀ a ∈ Bundle.stringAtoms, a.before a0 Z = true := fun a q => hw a (own_str a q)
  obtain ⟨a3, T3, h3, kk3, b3, k3, X3, e3, E3, hS3, hk3, hZ3, ho3, EE3, C3, F3, V3, l3, m3, CR3, -, ne3, st3⟩ := ldcCH (s := s) (vm0 := s.vm) X0 hx hZ hown (w 78 rfl) hstr e0 hS1 (Nat.zero_le _) hEL (by simp [consts_1]) R0.1 (vs := [vI105, vI117, vI102, vI51, vI50, vI54, vI52, vI116, vI101, vI120, vI116, vI103, vI100]) (z := (13 : Int32)) ⟨by decide, by decide⟩ (by decide) rfl (g := (mkF m 17 #[lI x0, .val (.int ((x0 &&& (255 : Int32)) % (13 : Int32)))] [])) rfl (hb hby d13_17) (n := 52) (by decide) (by decide) (by decide) (by decide)
  have R4 := CHr.trans R0 CR3
  have o12 := Old.ext O0 E3
  obtain ⟨_, T13, Lc13, X13, hQ13, st13⟩ := own_cV X3 hx hZ3 ho3 e3 (rm14_1 l Z a0 hw [] a3 ((x0 &&& (255 : Int32)) % (13 : Int32)) x1 (0 : Int32) b3 (13 : Int32) k3 ([vI105, vI117, vI102, vI51, vI50, vI54, vI52, vI116, vI101, vI120, vI116, vI103, vI100]) u2 (own_at [vI105, vI117, vI102, vI51, vI50, vI54, vI52, vI116, vI101, vI120, vI116, vI103, vI100] (((x0 &&& (255 : Int32)) % (13 : Int32))).toNatClampNeg) h3 n0 o12 EE3 f5 hc6 C3 (by decide) F3 V3 f7 hc8 hc9 hc10 hc11) EE3 (w 81 rfl) (w 82 rfl) (w 84 rfl) (w 83 rfl) (w 85 rfl) (w 6 rfl) (by decide) (W := 0) (by decide) (by decide) (by decide) (by decide) (g := (mkF m 20 #[lI x0, .val (.int ((x0 &&& (255 : Int32)) % (13 : Int32)))] [(.int ((x0 &&& (255 : Int32)) % (13 : Int32))), (.ref a3)])) rfl (by rw [hml]; rfl) (argsL := [(.int ((x0 &&& (255 : Int32)) % (13 : Int32)))]) (rest := []) (lenOf pd__I_C rfl) rfl (own_W rfl) (hb hby d13_20)
  obtain ⟨rfl, N13q, E13⟩ := hQ13
  have N13 := Fr.app N0 N13q
  have kp14 : Keep h0 h3 [] := (Keep.refl h0 []).ext E3
  refine ⟨some (.int (nar .char (nar .char (nar .char (((own_at [vI105, vI117, vI102, vI51, vI50, vI54, vI52, vI116, vI101, vI120, vI116, vI103, vI100] (((x0 &&& (255 : Int32)) % (13 : Int32))).toNatClampNeg) &&& (255 : Int32)).toUInt32.toUInt16.toUInt32.toInt32))))), _, _, _, _, _, _, _, nofun, X13, by decide, by decide, hS3, (by rw [E13]; exact hk3), hZ3, E13, R4, ?_, fun fs hr => ?_⟩
  · rw [E13]; exact ⟨rfl, N13, kp14⟩
  · show SG p e below s₁ (mkF m 0 #[lI x0, lU] []) _
    refine qiN X0 hx hby d13_0 ?_
    refine XS.sipush X0.here hx rfl (hb hby d13_1) ?_
    refine XS.iand X0.here hx rfl (hb hby d13_4) rfl ?_
    refine XS.ifNo X0.here hx rfl (hb hby d13_5) rfl ((if0 _ _).trans (teq hc2).2) ?_
    refine qiN X0 hx hby d13_8 ?_
    refine XS.sipush X0.here hx rfl (hb hby d13_9) ?_
    refine XS.iand X0.here hx rfl (hb hby d13_12) rfl ?_
    refine qb X0 hx hby d13_13 ?_
    show SG p e below s₁ (mkF m 15 #[lI x0, lU] [vI13, (.int (x0 &&& (255 : Int32)))]) _
    refine iremM (g := (mkF m 15 #[lI x0, lU] [vI13, (.int (x0 &&& (255 : Int32)))])) X0 hx rfl (hb hby d13_15) rfl (by decide : ¬ ((13 : Int32) = (0 : Int32))) ?_
    show SG p e below s₁ (mkF m 16 #[lI x0, lU] [(.int ((x0 &&& (255 : Int32)) % (13 : Int32)))]) _
    refine XS.istoreN X0.here hx rfl (hb hby d13_16) rfl (l' := #[lI x0, .val (.int ((x0 &&& (255 : Int32)) % (13 : Int32)))]) rfl ?_
    refine st3 _ ?_
    show SG p e below T3 (mkF m 19 #[lI x0, .val (.int ((x0 &&& (255 : Int32)) % (13 : Int32)))] [(.ref a3)]) _
    refine qiN X3 hx hby d13_19 ?_
    refine st13 _ ?_
    show SG p e below T13 (mkF m 23 #[lI x0, .val (.int ((x0 &&& (255 : Int32)) % (13 : Int32)))] [(.int (nar .char (nar .char (((own_at [vI105, vI117, vI102, vI51, vI50, vI54, vI52, vI116, vI101, vI120, vI116, vI103, vI100] (((x0 &&& (255 : Int32)) % (13 : Int32))).toNatClampNeg) &&& (255 : Int32)).toUInt32.toUInt16.toUInt32.toInt32))))]) _
    exact retN X13 hx (t := .char) hret (by simp) (hb hby d13_23) hr
theorem d13_24 : DK cB13 24 (.iload_n 0) 1 := by decide +kernel
theorem d13_25 : DK cB13 25 (.sipush 255) 3 := by decide +kernel
theorem d13_28 : DK cB13 28 (.iand) 1 := by decide +kernel
theorem d13_29 : DK cB13 29 (.i2c) 1 := by decide +kernel
theorem d13_30 : DK cB13 30 (.ireturn) 1 := by decide +kernel
def Q13_2 (Z : State) (x0 : Int32) (h0 : Heap) (n0 : Nat) (v : Option Value) (h : Heap) (L : List Loc) : Prop := v = some (.int (nar .char ((x0 &&& (255 : Int32)).toUInt32.toUInt16.toUInt32.toInt32))) ∧ Fr n0 L ∧ h = h0
theorem rm13_2 (l : Launch) (Z : State) (a0 : Array Value) (hw : own_HW a0 Z) (ws : List Jvm.Cond) (x0 : Int32) (h0 : Heap) (n0 : Nat) (O0 : Old Z n0 h0) (hc2 : ¬ ((x0 &&& (256 : Int32)) = (0 : Int32))) :
    own_MH l mN11 method_3_code 2 (some .char) ws rR4_2_56_70 Z h0 #[(.int x0)] (Q13_2 Z x0 h0 n0) := by
  have hEL : EW Z a0 consts_1 := own_EW hw
  refine own_openH hEL (plainFor_of_name pn_com_example_wiregather_wiregather_wire_FieldTypeOfLabelPinLaw) (L0 := #[lI x0, lU]) (fun _ => by first | (simp [entryFrame, mkF, argsToLocals, Value.category]; done) | rfl) ?_
  intro p e s m below meth c s₁ hx hby hml hret hnn hZ hown X0 e0 R0
  have N0 := Fr.nil n0
  have hS1 := (State.WarmedH.refl s).since 0
  refine ⟨some (.int (nar .char ((x0 &&& (255 : Int32)).toUInt32.toUInt16.toUInt32.toInt32))), _, _, _, _, _, _, _, nofun, X0, by decide, by decide, hS1, (by rw [e0]; exact (Nat.zero_le _)), hZ, e0, R0, ?_, fun fs hr => ?_⟩
  · rw [e0]; exact ⟨rfl, N0, rfl⟩
  · show SG p e below s₁ (mkF m 0 #[lI x0, lU] []) _
    refine qiN X0 hx hby d13_0 ?_
    refine XS.sipush X0.here hx rfl (hb hby d13_1) ?_
    refine XS.iand X0.here hx rfl (hb hby d13_4) rfl ?_
    refine XS.ifYes X0.here hx rfl (pc0 := 5) (pc' := 24) rfl (hb hby d13_5) rfl ((if0 _ _).trans (feq hc2).2) (by decide) (by decide) ?_
    show SG p e below s₁ (mkF m 24 #[lI x0, lU] []) _
    refine qiN X0 hx hby d13_24 ?_
    refine XS.sipush X0.here hx rfl (hb hby d13_25) ?_
    refine XS.iand X0.here hx rfl (hb hby d13_28) rfl ?_
    refine XS.i2c X0.here hx rfl (hb hby d13_29) rfl ?_
    exact retN X0 hx (t := .char) hret (by simp) (hb hby d13_30) hr
def Q13_3 (Z : State) (x0 x1 : Int32) (u2 : Value) (h0 : Heap) (n0 : Nat) (v : Option Value) (h : Heap) (L : List Loc) : Prop := v = some (.int (own_ch x0)) ∧ Fr n0 L ∧ Keep h0 h []
theorem rm13_3 (l : Launch) (Z : State) (a0 : Array Value) (hw : own_HW a0 Z) (ws : List Jvm.Cond) (x0 x1 : Int32) (u2 : Value) (h0 : Heap) (n0 : Nat) (O0 : Old Z n0 h0) (f1 : Sta Z Z.heap "java/lang/String" "COMPACT_STRINGS" "Z" (.int x1)) (hc2 : ¬ (x1 = (0 : Int32))) (f3 : Sta Z Z.heap cs6 "SIOOBE_FORMATTER" cs7 u2) (hc4 : u2.isRef = true) :
    MetFree l mN11 (head1 (Jvm.Cond.code mN11 method_3_code 2 (some .char) :: ws) rR4_2_56_70) (fun a U => a = #[(.int x0)] ∧ Z.Warmed39 U.vm ∧ U.heap = h0 ∧ CHv Z consts_1 U.vm h0) (fun _ _ _ _ _ => True) (fun _ U o U' => ∃ v L, o = .returned v ∧ Q13_3 Z x0 x1 u2 h0 n0 v U'.heap L ∧ CHr Z consts_1 U.vm U.heap U'.vm U'.heap ∧ ReturnedEndW U o U' L rR4_2_56_70.cells rR4_2_56_70.slots) := by
  intro p e ha hc hk s m args below hf happ hP hK
  by_cases hs : (x0 &&& (256 : Int32)) = (0 : Int32)
  · obtain ⟨n, o, h1, h2, h3, v, L, rfl, hQ, hE⟩ := rm13_1 l Z a0 hw ws x0 x1 u2 h0 n0 O0 hs f1 hc2 f3 hc4 ((own_ix x0).1) ((own_ix x0).2) (own_chg x0) p e ha hc hk s m args below hf happ hP hK
    obtain ⟨rfl, N, K⟩ := hQ
    exact ⟨n, _, h1, h2, h3, _, L, rfl, ⟨by unfold own_ch; rw [if_pos hs], N, K⟩, hE⟩
  · obtain ⟨n, o, h1, h2, h3, v, L, rfl, hQ, hE⟩ := rm13_2 l Z a0 hw ws x0 h0 n0 O0 hs p e ha hc hk s m args below hf happ hP hK
    obtain ⟨rfl, N, K⟩ := hQ
    exact ⟨n, _, h1, h2, h3, _, L, rfl, ⟨by unfold own_ch; rw [if_neg hs], N, K ▸ Keep.refl _ _⟩, hE⟩
theorem d2_0 : DK cB2 0 (.aload_n 0) 1 := by decide +kernel
theorem d2_1 : DK cB2 1 (.aload_n 1) 1 := by decide +kernel
theorem d2_2 : DK cB2 2 (.iconst 0) 1 := by decide +kernel
theorem d2_3 : DK cB2 3 (.aload_n 1) 1 := by decide +kernel
theorem d2_4 : DK cB2 4 (.arraylength) 1 := by decide +kernel
theorem d2_5 : DK cB2 5 (.aconst_null) 1 := by decide +kernel
theorem d2_6 : DK cB2 6 (.invokespecial 27) 3 := by decide +kernel
theorem d3_0 : DK cB3 0 (.aload_n 0) 1 := by decide +kernel
theorem d3_1 : DK cB3 1 (.invokespecial 1) 3 := by decide +kernel
theorem d3_4 : DK cB3 4 (.iload_n 3) 1 := by decide +kernel
theorem d3_5 : DK cB3 5 (.ifCond .ne 22) 3 := by decide +kernel
theorem d3_8 : DK cB3 8 (.aload_n 0) 1 := by decide +kernel
theorem d3_9 : DK cB3 9 (.ldc 7) 2 := by decide +kernel
theorem d3_11 : DK cB3 11 (.getfield 9) 3 := by decide +kernel
theorem d3_14 : DK cB3 14 (.putfield 9) 3 := by decide +kernel
section OwnSafe
variable {p : Program} {l : Launch} {e : Env} {R : Room} {s : State} {args : Array Value} {below : List Frame} {Z : State} {a0 : Array Value} {EL : List (String × Nat)} {h : Heap} {vm0 : Vm}
theorem own_backSafe {y : MethodName} {bytes : ByteArray} {maxL : Nat} {ret : Option FieldType} {rm : Room} {len W : Nat} {as' : Array Value} {Q : Option Value → Heap → List Loc → Prop} {xs : List Addr}
    (hM : MetFree l y (head1 [Jvm.Cond.code y bytes maxL ret] rm) (fun a U => a = as' ∧ Z.Warmed39 U.vm ∧ U.heap = h ∧ CHv Z EL U.vm h ∧ ∀ x ∈ xs, Safe Z EL U.vm h x) (fun _ _ _ _ _ => True) (fun _ U o U' => ∃ v L, o = .returned v ∧ Q v U'.heap L ∧ CHr Z EL U.vm U.heap U'.vm U'.heap ∧ ReturnedEndW U o U' L rm.cells rm.slots))
    (hZ : Z.Warmed39 vm0) (wc : (Jvm.Cond.code y bytes maxL ret).before a0 Z = true) (wz : (Jvm.Cond.initialized y.cls).before a0 Z = true) (hf : rm.frames + 1 ≤ R.frames) (hl : W + (maxL + 11) + rm.locals ≤ R.locals) (hEL : EW Z a0 EL) (H : CHv Z EL vm0 h) (hxs : ∀ x ∈ xs, x < h.size ∧ Safe Z EL vm0 h x) :
    BackS l R p e below (s.setVm vm0) args y len W (fun A a => a = as' ∧ A.U.heap = h ∧ A.cells + rm.cells ≤ R.cells ∧ A.slots + rm.slots ≤ R.slots)
      (fun A _ v B => ∃ L, Q v B.U.heap L ∧ B.locs = A.locs ++ L ∧ B.cells = A.cells + rm.cells ∧ B.slots = A.slots + rm.slots ∧ CHr Z EL vm0 h B.U.vm B.U.heap) := by
  refine BackS.of_freeW (bytes := bytes) (maxL := maxL) (ret := ret) (E := fun _ first o t L k n => k = rm.cells ∧ n = rm.slots ∧ (∃ v, o = .returned v ∧ Q v t.heap L) ∧ CHr Z EL first.vm first.heap t.vm t.heap) hM hf hl ?_ ?_ (fun _ _ _ _ _ _ _ _ _ => trivial) ?_ ?_
  · intro m meth c A a Y hp
    have hU : Z.Warmed39 A.U.vm := wtrans (s := s.setVm vm0) hZ Y.warmed
    exact ⟨by show (Jvm.Cond.and _ .tt).before a A.U = true; rw [Cond.before_and, mv hU wc]; rfl, mv hU wc, mv hU wz, hp.2.2.1, hp.2.2.2⟩
  · intro m meth c A a g mk Y hp
    exact ⟨hp.1, wtrans (s := s.setVm vm0) hZ Y.warmed, hp.2.1, (CHv.at Y hZ hEL H).1, fun x hx => CHr.safe (CHv.at Y hZ hEL H) (hxs x hx).1 (hxs x hx).2⟩
  · intro _ _ _ _ ⟨v, L, h1, h2, h3, h4⟩
    exact ⟨L, _, _, h4, rfl, rfl, ⟨v, h1, h2⟩, h3⟩
  · intro m meth c A a g mk v t L k n Y hp _ _ ⟨e1, e2, ⟨v', e3, e4⟩, e5⟩
    cases e3; subst e1 e2
    refine ⟨L, e4, rfl, rfl, rfl, (CHv.at Y hZ hEL H).trans ?_⟩
    rw [← hp.2.1]; exact e5
end OwnSafe
theorem d3_17 : DK cB3 17 (.aload_n 0) 1 := by decide +kernel
theorem d3_18 : DK cB3 18 (.ldc 7) 2 := by decide +kernel
theorem d3_20 : DK cB3 20 (.getfield 15) 3 := by decide +kernel
theorem d3_23 : DK cB3 23 (.putfield 15) 3 := by decide +kernel
theorem d3_26 : DK cB3 26 (.return_) 1 := by decide +kernel
def Q3_1 (Z : State) (r0 r1 : Addr) (h0 : Heap) (n0 : Nat) (v : Option Value) (h : Heap) (L : List Loc) : Prop := ∃ (b3 : Addr) (k3 : ClassId), v = none ∧ Fr n0 L ∧ Keep h0 h [r0] ∧ Fld Z h r0 "java/lang/String" "value" "[B" (.ref b3) ∧ Fld Z h r0 "java/lang/String" "coder" "B" vI0 ∧ True ∧ Arv Z h b3 k3 .byte (0 : Int32) [] vI0
theorem rm3_1 (l : Launch) (Z : State) (a0 : Array Value) (hw : own_HW a0 Z) (ws : List Jvm.Cond) (r0 r1 : Addr) (h0 : Heap) (n0 : Nat) (O0 : Old Z n0 h0) (f6 : Exa Z h0 r0 "java/lang/String") (f8 : Fld Z h0 r0 "java/lang/String" "value" "[B" .null) (g10 : n0 ≤ r0) (l12 : r0 < h0.size) (f25 : Fld Z h0 r0 "java/lang/String" "coder" "B" vI0) :
    MetFree l mN12 (head1 (Jvm.Cond.code mN12 jdk_42_method_149_code 6 none :: ws) rR1_4_8_12) (fun a U => a = #[(.ref r0), (.ref r1), vI0, vI0, .null] ∧ Z.Warmed39 U.vm ∧ U.heap = h0 ∧ CHv Z consts_1 U.vm h0 ∧ ∀ x ∈ [r0], Safe Z consts_1 U.vm h0 x) (fun _ _ _ _ _ => True) (fun _ U o U' => ∃ v L, o = .returned v ∧ Q3_1 Z r0 r1 h0 n0 v U'.heap L ∧ CHr Z consts_1 U.vm U.heap U'.vm U'.heap ∧ ReturnedEndW U o U' L rR1_4_8_12.cells rR1_4_8_12.slots) := by
  refine MetFree.of_bodySF (plainFor_of_name pn_java_lang_String) hisR ?_
  intro p e s m args below meth c s₁ Bd hml0 hP hK
  obtain ⟨rfl, hZ, hh, hC, hSf⟩ := hP
  have hx := Bd.exec
  have hby := Bd.bytes
  have hml : c.maxLocals = 6 := hml0
  have hown : s.vm.findClass "java/lang/String" = some m.cls := findClass_of_methodNamed Bd.named
  have hnm := (name_of_methodNamed Bd.named Bd.method).1
  have X0 : Stand p l e rR1_4_8_12 s m #[(.ref r0), (.ref r1), vI0, vI0, .null] below meth c s₁ [] 0 0 := Stand.of_body Bd
  have e0 : s₁.heap = h0 := by rw [← hh, Bd.state]; rfl
  have N0 := Fr.nil n0; have w := @ww Z a0 hw
  have pre0 : ∀ t, Steps p.tables e below (s₁.setTop (mkF m 0 #[lR r0, lR r1, lV vI0, lV vI0, .val .null, lU] [])) t → Steps p.tables e below (s₁.setTop (entryFrame m #[(.ref r0), (.ref r1), vI0, vI0, .null] 6)) t := fun t k => castTop (by first | (simp [entryFrame, mkF, argsToLocals, Value.category]; done) | rfl) k
  have hEL : EW Z a0 consts_1 := own_EW hw
  have R0 := CHr.refl hC
  obtain ⟨T1, X1, e1, st1⟩ := initO X0 hx hZ hown (w 15 rfl) (w 16 rfl) (w 17 rfl) e0 (g := (mkF m 1 #[lR r0, lR r1, lV vI0, lV vI0, .val .null, lU] [(.ref r0)])) rfl (by rw [hml]; rfl) rfl (hb hby d3_1) (by decide) (W := 0) (own_W rfl) (by decide)
  have hS2 := (State.WarmedH.refl s).since 0
  have hstr : ∀ a ∈ Bundle.stringAtoms, a.before a0 Z = true := fun a q => hw a (own_str a q)
  obtain ⟨a3, T3, h3, kk3, b3, k3, X3, e3, E3, hS3, hk3, hZ3, ho3, EE3, C3, F3, V3, l3, m3, CR3, -, ne3, st3⟩ := ldcCH (s := s) (vm0 := s.vm) X1 hx hZ hown (w 113 rfl) hstr e1 hS2 (Nat.zero_le _) hEL (by simp [consts_1]) R0.1 (vs := []) (z := (0 : Int32)) ⟨by decide, by decide⟩ (by decide) rfl (g := (mkF m 9 #[lR r0, lR r1, lV vI0, lV vI0, .val .null, lU] [(.ref r0)])) rfl (hb hby d3_9) (n := 0) (by decide) (by decide) (by decide) (by decide)
  have R4 := CHr.trans R0 CR3
  obtain ⟨T5, X5, e5, st5⟩ := getF X3 hx hZ3 ho3 (host := "") (Or.inl (w 32 rfl)) Via.refl e3 F3 (g := (mkF m 11 #[lR r0, lR r1, lV vI0, lV vI0, .val .null, lU] [(.ref a3), (.ref r0)])) rfl rfl (hb hby d3_11)
  have f7 := (f6.ext E3)
  have f9 := (f8.ext E3)
  obtain ⟨T11, h11, X11, e11, W11, st11⟩ := putF X5 hx hZ3 ho3 (host := "") (Or.inl (w 32 rfl)) Via.refl e5 f9 f7 (Or.inr ⟨(w 33 rfl), rfl, hnm⟩) (w 5 rfl) (ty := (.array .byte)) (by decide) rfl rfl (g := (mkF m 14 #[lR r0, lR r1, lV vI0, lV vI0, .val .null, lU] [(.ref b3), (.ref r0)])) rfl rfl (hb hby d3_14)
  have Fw11 := f9.same W11
  have sf13 := (CHr.safe CR3 l12 (hSf _ (List.mem_of_getElem? (i := 0) rfl)))
  have sf14 : Safe Z consts_1 T3.vm h3 r0 := sf13
  have R15 := CHr.trans R4 (CHr.wr W11 sf14 R4.1)
  have N11 := Fr.snoc X11 N0 g10
  have zs17 := (Nat.le_of_eq W11.size.symm)
  obtain ⟨a16, T16, h16, kk16, b16, k16, X16, e16, E16, hS16, hk16, hZ16, ho16, EE16, C16, F16, V16, l16, m16, CR16, -, ne16, st16⟩ := ldcCH (s := s) (vm0 := T3.vm) X11 hx hZ3 ho3 (w 113 rfl) hstr e11 hS3 (Nat.le_trans hk3 zs17) hEL (by simp [consts_1]) R15.1 (vs := []) (z := (0 : Int32)) ⟨by decide, by decide⟩ (by decide) rfl (g := (mkF m 18 #[lR r0, lR r1, lV vI0, lV vI0, .val .null, lU] [(.ref r0)])) rfl (hb hby d3_18) (n := 0) (by decide) (by decide) (by decide) (by decide)
  have R18 := CHr.trans R15 CR16
  have zs19 := E3.1
  have zs20 := Nat.le_trans zs19 (Nat.le_of_eq W11.size.symm)
  have sf21 := (CHr.safe CR16 (Nat.lt_of_lt_of_le l12 zs20) (Safe.wr W11 sf14 R4.1 sf13))
  have nl22 := ne16 _ sf21
  obtain ⟨T23, X23, e23, st23⟩ := getF X16 hx hZ16 ho16 (host := "") (Or.inl (w 30 rfl)) Via.refl e16 C16 (g := (mkF m 20 #[lR r0, lR r1, lV vI0, lV vI0, .val .null, lU] [(.ref a16), (.ref r0)])) rfl rfl (hb hby d3_20)
  have f24 := ((f7.wr W11).ext E16)
  have f26 := (((f25.ext E3).other W11 (Or.inr (slot_ne (Or.inr (w 31 rfl)) (Or.inr (w 33 rfl)) (by decide) (t := .byte) (t' := (.array .byte)) (by decide) (by decide)))).ext E16)
  obtain ⟨T27, h27, X27, e27, W27, st27⟩ := putFN X23 hx hZ16 ho16 (w 30 rfl) Via.refl e23 f26 f24 (Or.inr ⟨(w 31 rfl), rfl, hnm⟩) (w 5 rfl) (ty := .byte) (v' := vI0) (by decide) rfl (by decide) (g := (mkF m 23 #[lR r0, lR r1, lV vI0, lV vI0, .val .null, lU] [vI0, (.ref r0)])) rfl rfl (hb hby d3_23)
  have Fw27 := f26.same W27
  have sf28 : Safe Z consts_1 T16.vm h16 r0 := sf21
  have R29 := CHr.trans R18 (CHr.wr W27 sf28 R18.1)
  have N27 := Fr.snoc X27 N11 g10
  have f30 := ((Fw11.ext E16).other W27 (Or.inr (slot_ne (Or.inr (w 33 rfl)) (Or.inr (w 31 rfl)) (by decide) (t := (.array .byte)) (t' := .byte) (by decide) (by decide))))
  have nl31 := ne3 _ (CHr.safe CR3 l12 (hSf _ (List.mem_of_getElem? (i := 0) rfl)))
  have f32 := (((V3.other W11 (Ne.symm nl31.2)).ext E16).other W27 (Ne.symm nl31.2))
  have kp33 : Keep h0 h3 [r0] := (Keep.refl h0 [r0]).ext E3
  have kp34 : Keep h0 h11 [r0] := kp33.wr W11 (Or.inl (List.mem_of_getElem? (i := 0) rfl))
  have kp35 : Keep h0 h16 [r0] := kp34.ext E16
  have kp36 : Keep h0 h27 [r0] := kp35.wr W27 (Or.inl (List.mem_of_getElem? (i := 0) rfl))
  have zs37 := (Nat.le_of_eq W27.size.symm)
  obtain ⟨fs, hr, hrun, hended, hend⟩ := leaveW (s := s) (vm₁ := T16.vm) X27 hS16 (by rw [e27]; exact (Nat.le_trans hk16 zs37)) (v := none) (fun _ => rfl)
  have hCR : CHr Z consts_1 s.vm s.heap T27.vm T27.heap := by rw [hh, e27]; exact CHr.trans R29 (CHv.at (s := s) (vm0 := T16.vm) X27 hZ16 hEL R29.1)
  refine ⟨_, _, pre0 _ ?_, hrun, hended, _, _, rfl, ?_, hCR, hend.1, hend.2.1, hend.2.2.1, hend.2.2.2.mono (by decide) (by decide)⟩
  · show SG p e below s₁ (mkF m 0 #[lR r0, lR r1, lV vI0, lV vI0, .val .null, lU] []) _
    refine qaN X0 hx hby d3_0 ?_
    refine st1 _ ?_
    show SG p e below T1 (mkF m 4 #[lR r0, lR r1, lV vI0, lV vI0, .val .null, lU] []) _
    refine qiN X1 hx hby d3_4 ?_
    refine XS.ifNo X1.here hx rfl (hb hby d3_5) rfl ((if0 _ _).trans (teq (rfl : (0 : Int32) = (0 : Int32))).2) ?_
    refine qaN X1 hx hby d3_8 ?_
    refine st3 _ ?_
    show SG p e below T3 (mkF m 11 #[lR r0, lR r1, lV vI0, lV vI0, .val .null, lU] [(.ref a3), (.ref r0)]) _
    refine st5 _ ?_
    show SG p e below T5 (mkF m 14 #[lR r0, lR r1, lV vI0, lV vI0, .val .null, lU] [(.ref b3), (.ref r0)]) _
    refine st11 _ ?_
    show SG p e below T11 (mkF m 17 #[lR r0, lR r1, lV vI0, lV vI0, .val .null, lU] []) _
    refine qaN X11 hx hby d3_17 ?_
    refine st16 _ ?_
    show SG p e below T16 (mkF m 20 #[lR r0, lR r1, lV vI0, lV vI0, .val .null, lU] [(.ref a16), (.ref r0)]) _
    refine st23 _ ?_
    show SG p e below T23 (mkF m 23 #[lR r0, lR r1, lV vI0, lV vI0, .val .null, lU] [vI0, (.ref r0)]) _
    refine st27 _ ?_
    show SG p e below T27 (mkF m 26 #[lR r0, lR r1, lV vI0, lV vI0, .val .null, lU] []) _
    exact X27.returnOut hx Bd.returns (hb hby d3_26) hr
  · show Q3_1 Z r0 r1 h0 n0 _ T27.heap _
    rw [e27]
    exact ⟨b3, k3, rfl, N27, kp36, f30, Fw27, trivial, f32⟩
theorem pd___CIILjava_lang_Void__V : parseMethodDescriptor "([CIILjava/lang/Void;)V" = some ⟨[(.array .char), .int, .int, (.object "java/lang/Void")], none⟩ := by decide +kernel
theorem d2_9 : DK cB2 9 (.return_) 1 := by decide +kernel
def Q2_1 (Z : State) (r0 r1 : Addr) (c2 : ClassId) (h0 : Heap) (n0 : Nat) (v : Option Value) (h : Heap) (L : List Loc) : Prop := ∃ (b9_0 : Addr) (k9_0 : ClassId), v = none ∧ Fr n0 L ∧ Keep h0 h [r0] ∧ Fld Z h r0 "java/lang/String" "value" "[B" (.ref b9_0) ∧ Fld Z h r0 "java/lang/String" "coder" "B" vI0 ∧ True ∧ Arv Z h b9_0 k9_0 .byte (0 : Int32) [] vI0
theorem rm2_1 (l : Launch) (Z : State) (a0 : Array Value) (hw : own_HW a0 Z) (ws : List Jvm.Cond) (r0 r1 : Addr) (c2 : ClassId) (h0 : Heap) (n0 : Nat) (O0 : Old Z n0 h0) (f1 : Arv Z h0 r1 c2 .char (0 : Int32) [] vI0) (f3 : Exa Z h0 r0 "java/lang/String") (f4 : Fld Z h0 r0 "java/lang/String" "value" "[B" .null) (g5 : n0 ≤ r0) (l6 : r0 < h0.size) (f7 : Fld Z h0 r0 "java/lang/String" "coder" "B" vI0) :
    MetFree l mN4 (head1 (Jvm.Cond.code mN4 jdk_42_method_3_code 2 none :: ws) rR2_4_8_29) (fun a U => a = #[(.ref r0), (.ref r1)] ∧ Z.Warmed39 U.vm ∧ U.heap = h0 ∧ CHv Z consts_1 U.vm h0 ∧ ∀ x ∈ [r0], Safe Z consts_1 U.vm h0 x) (fun _ _ _ _ _ => True) (fun _ U o U' => ∃ v L, o = .returned v ∧ Q2_1 Z r0 r1 c2 h0 n0 v U'.heap L ∧ CHr Z consts_1 U.vm U.heap U'.vm U'.heap ∧ ReturnedEndW U o U' L rR2_4_8_29.cells rR2_4_8_29.slots) := by
  refine MetFree.of_bodySF (plainFor_of_name pn_java_lang_String) hisR ?_
  intro p e s m args below meth c s₁ Bd hml0 hP hK
  obtain ⟨rfl, hZ, hh, hC, hSf⟩ := hP
  have hx := Bd.exec
  have hby := Bd.bytes
  have hml : c.maxLocals = 2 := hml0
  have hown : s.vm.findClass "java/lang/String" = some m.cls := findClass_of_methodNamed Bd.named
  have X0 : Stand p l e rR2_4_8_29 s m #[(.ref r0), (.ref r1)] below meth c s₁ [] 0 0 := Stand.of_body Bd
  have e0 : s₁.heap = h0 := by rw [← hh, Bd.state]; rfl
  have N0 := Fr.nil n0; have w := @ww Z a0 hw
  have pre0 : ∀ t, Steps p.tables e below (s₁.setTop (mkF m 0 #[lR r0, lR r1] [])) t → Steps p.tables e below (s₁.setTop (entryFrame m #[(.ref r0), (.ref r1)] 2)) t := fun t k => castTop (by first | (simp [entryFrame, mkF, argsToLocals, Value.category]; done) | rfl) k
  have hEL : EW Z a0 consts_1 := own_EW hw
  have R0 := CHr.refl hC
  obtain ⟨clq2, Arq2, qq2, Sq2, Nq2, Hq2, Gq2⟩ := id f1
  have hS8 := (State.WarmedH.refl s).since 0
  obtain ⟨_, _, ⟨T9, L9, k9, n9⟩, -, X9, hs9, hg9, ⟨Lc9, hQ9, l9, y9, z9, cr9⟩, st9⟩ := X0.specialBackS hx (y := mN12) rfl hown (mvT hZ (w 11 rfl)) (mvT hZ (w 12 rfl)) (mvT hZ (w 14 rfl)) (by decide) (own_backSafe (s := s) (vm0 := s.vm) (W := 0) (rm3_1 l Z a0 hw [] r0 r1 h0 n0 O0 f3 f4 g5 l6 f7) hZ (w 14 rfl) (w 6 rfl) (by decide) (by decide) hEL R0.1 (allS ⟨l6, (hSf _ (List.mem_of_getElem? (i := 0) rfl))⟩ all0)) (g := (mkF m 6 #[lR r0, lR r1] [.null, vI0, vI0, (.ref r1), (.ref r0)])) rfl (by rw [hml]; rfl) (Steps.refl _) (a := r0) (argsL := [(.ref r1), vI0, vI0, .null]) (rest := []) (lenOf pd___CIILjava_lang_Void__V rfl) rfl (own_W rfl) (hb hby d2_6) (fun _ _ => ⟨rfl, e0, (by decide : 0 + 4 ≤ _), (by decide : 0 + 8 ≤ _)⟩)
  dsimp only [Pt.U, Pt.locs, Pt.cells, Pt.slots] at X9 l9 y9 z9 st9 hQ9 hs9 hg9 cr9
  subst l9 y9 z9
  obtain ⟨X9, hS9, hZ9, ho9⟩ := rebS (s := s) (vm0 := s.vm) hS8 (by rw [e0]; exact (Nat.zero_le _)) X9 hs9 hg9 hZ hown
  obtain ⟨b9_0, k9_0, rfl, N9q, K9, f10, f11, f12, f13⟩ := hQ9
  have N9 := Fr.app N0 N9q
  have R14 := CHr.trans R0 cr9
  have kp15 : Keep h0 T9.heap [r0] := (Keep.refl h0 [r0]).trans K9 (allS (Or.inl (List.mem_of_getElem? (i := 0) rfl)) all0)
  obtain ⟨fs, hr, hrun, hended, hend⟩ := leaveW (s := s) (vm₁ := T9.vm) X9 hS9 ((Nat.le_refl _)) (v := none) (fun _ => rfl)
  have hCR : CHr Z consts_1 s.vm s.heap T9.vm T9.heap := by rw [hh]; exact CHr.trans R14 (CHv.at (s := s) (vm0 := T9.vm) X9 hZ9 hEL R14.1)
  refine ⟨_, _, pre0 _ ?_, hrun, hended, _, _, rfl, ?_, hCR, hend.1, hend.2.1, hend.2.2.1, hend.2.2.2.mono (by decide) (by decide)⟩
  · show SG p e below s₁ (mkF m 0 #[lR r0, lR r1] []) _
    refine qaN X0 hx hby d2_0 ?_
    refine qaN X0 hx hby d2_1 ?_
    refine qc X0 hx hby d2_2 ?_
    refine qaN X0 hx hby d2_3 ?_
    refine X0.arraylength hx (by rw [e0]; exact Arq2.1) (State.isArrayOf_alike hZ.alike Arq2.2.1) (g := (mkF m 4 #[lR r0, lR r1] [(.ref r1), vI0, (.ref r1), (.ref r0)])) rfl rfl (hb hby d2_4) _ ?_
    rw [len_of Sq2 Nq2]
    show SG p e below s₁ (mkF m 5 #[lR r0, lR r1] [vI0, vI0, (.ref r1), (.ref r0)]) _
    refine XS.aconstNull X0.here hx rfl (hb hby d2_5) ?_
    refine st9.trans ?_
    show SG p e below T9 (mkF m 9 #[lR r0, lR r1] []) _
    exact X9.returnOut hx Bd.returns (hb hby d2_9) hr
  · show Q2_1 Z r0 r1 c2 h0 n0 _ T9.heap _
    exact ⟨b9_0, k9_0, rfl, N9, kp15, f10, f11, trivial, f13⟩
theorem d19_0 : DK cB19 0 (.aload_n 0) 1 := by decide +kernel
theorem d19_1 : DK cB19 1 (.ldc 59) 2 := by decide +kernel
theorem d19_3 : DK cB19 3 (.invokevirtual 61) 3 := by decide +kernel
theorem d19_6 : DK cB19 6 (.ifCond .eq 7) 3 := by decide +kernel
theorem d19_9 : DK cB19 9 (.getstatic 40) 3 := by decide +kernel
theorem d19_12 : DK cB19 12 (.areturn) 1 := by decide +kernel
def Q19_1 (Z : State) (r0 r1 : Addr) (c2 : ClassId) (x3 : Int32) (t4 : List Int32) (x5 : Int32) (r6 : Addr) (h0 : Heap) (n0 : Nat) (v : Option Value) (h : Heap) (L : List Loc) : Prop := v = some (.ref r6) ∧ Fr n0 L ∧ Keep h0 h []
theorem rm19_1 (l : Launch) (Z : State) (a0 : Array Value) (hw : own_HW a0 Z) (ws : List Jvm.Cond) (r0 r1 : Addr) (c2 : ClassId) (x3 : Int32) (t4 : List Int32) (x5 : Int32) (r6 : Addr) (h0 : Heap) (n0 : Nat) (O0 : Old Z n0 h0) (f4 : Exa Z h0 r0 "java/lang/String") (f6 : Fld Z h0 r0 "java/lang/String" "coder" "B" vI0) (f8 : Fld Z h0 r0 "java/lang/String" "value" "[B" (.ref r1)) (f10 : Arv Z h0 r1 c2 .byte x3 (t4.map Value.int) vI0) (hc12 : x3 = Int32.ofNat t4.length) (hc13 : t4.length ≤ 4000) (f14 : Sta Z Z.heap "java/lang/String" "COMPACT_STRINGS" "Z" (.int x5)) (hc17 : ¬ (x5 = (0 : Int32))) (hc18 : t4 = [(105 : Int32), (51 : Int32), (50 : Int32)]) (f21 : Sta Z Z.heap cs0 "I32" cs4 (.ref r6)) :
    own_MH l mN13 method_6_code 1 (some (.object cs0)) ws rR3_12_120_40 Z h0 #[(.ref r0)] (Q19_1 Z r0 r1 c2 x3 t4 x5 r6 h0 n0) := by
  have hEL : EW Z a0 consts_1 := own_EW hw
  refine own_openH hEL (plainFor_of_name pn_com_example_wiregather_wiregather_wire_FieldTypeOfLabelPinLaw) (L0 := #[lR r0]) (fun _ => by first | (simp [entryFrame, mkF, argsToLocals, Value.category]; done) | rfl) ?_
  intro p e s m below meth c s₁ hx hby hml hret hnn hZ hown X0 e0 R0
  have N0 := Fr.nil n0; have w := @ww Z a0 hw
  have hS1 := (State.WarmedH.refl s).since 0
  have hstr : ∀ a ∈ Bundle.stringAtoms, a.before a0 Z = true := fun a q => hw a (own_str a q)
  obtain ⟨a2, T2, h2, kk2, b2, k2, X2, e2, E2, hS2, hk2, hZ2, ho2, EE2, C2, F2, V2, l2, m2, CR2, -, ne2, st2⟩ := ldcCH (s := s) (vm0 := s.vm) X0 hx hZ hown (w 105 rfl) hstr e0 hS1 (Nat.zero_le _) hEL (by simp [consts_1]) R0.1 (vs := [vI105, vI51, vI50]) (z := (3 : Int32)) ⟨by decide, by decide⟩ (by decide) rfl (g := (mkF m 1 #[lR r0] [(.ref r0)])) rfl (hb hby d19_1) (n := 12) (by decide) (by decide) (by decide) (by decide)
  have R3 := CHr.trans R0 CR2
  have f5 := (f4.ext E2)
  have f7 := (f6.ext E2)
  have f9 := (f8.ext E2)
  have f11 := (f10.ext E2)
  have o15 := Old.ext O0 E2
  have f16 := f14.ext o15.2
  obtain ⟨cqq20, kqq20, qq20a, qq20b, qq20c⟩ := isOf hZ2 e2 f5
  obtain ⟨_, T19, Lc19, X19, hQ19, st19⟩ := own_fin (X2.virtualBack hx (y := mN1) (z := mN1) ho2 (mvT hZ2 (w 106 rfl)) (mvT hZ2 (w 62 rfl)) (notFace_of_selects (args := #[]) (mvT hZ2 (w 64 rfl))) (mvT hZ2 (w 64 rfl)) (mvT hZ2 (w 63 rfl)) (by decide) (own_strEq hZ2 hw (w 5 rfl) (bs := t4) f5 f9 f7 f11 hc12 hc13 (ds := [(105 : Int32), (51 : Int32), (50 : Int32)]) EE2 F2 C2 V2 (own_ofLen (n := 3) (by decide) rfl) (Nat.le_of_ble_eq_true rfl) f16 hc17 (r := 1) (n0 := n0) (Or.inl ⟨rfl, hc18⟩) (by decide) (by decide : 0 + 28 ≤ _)) qq20a qq20c (g := (mkF m 3 #[lR r0] [(.ref a2), (.ref r0)])) rfl (by rw [hml]; rfl) (Steps.refl _) (argsL := [(.ref a2)]) (rest := []) (lenOf pd__Ljava_lang_Object__Z rfl) rfl (own_W rfl) (hb hby d19_3) (fun _ _ => ⟨rfl, e2, (by decide : 2 + 0 ≤ _), (by decide : 16 + 0 ≤ _)⟩))
  obtain ⟨rfl, N19q, E19⟩ := hQ19
  have N19 := Fr.app N0 N19q
  have f22 := f21.ext o15.2
  obtain ⟨T23, X23, e23, st23⟩ := getS2 X19 hx hZ2 ho2 (host := "") (Or.inl (w 74 rfl)) Via.refl E19 f22 (g := (mkF m 9 #[lR r0] [])) rfl (hb hby d19_9)
  have kp24 : Keep h0 h2 [] := (Keep.refl h0 []).ext E2
  refine ⟨some (.ref r6), _, _, _, _, _, _, _, nofun, X23, by decide, by decide, hS2, (by rw [e23]; exact hk2), hZ2, e23, R3, ?_, fun fs hr => ?_⟩
  · rw [e23]; exact ⟨rfl, N19, kp24⟩
  · show SG p e below s₁ (mkF m 0 #[lR r0] []) _
    refine qaN X0 hx hby d19_0 ?_
    refine st2 _ ?_
    show SG p e below T2 (mkF m 3 #[lR r0] [(.ref a2), (.ref r0)]) _
    refine st19.trans ?_
    show SG p e below T19 (mkF m 6 #[lR r0] [vI1]) _
    refine XS.ifNo X19.here hx rfl (hb hby d19_6) rfl ((if0 _ _).trans (feq (by decide : ¬ ((1 : Int32) = (0 : Int32)))).1) ?_
    refine st23 _ ?_
    show SG p e below T23 (mkF m 12 #[lR r0] [(.ref r6)]) _
    exact retOut X23 hx (i := .areturn) hret rfl (Or.inr (Or.inr (Or.inr (Or.inr ⟨rfl, rfl, rfl⟩)))) (hb hby d19_12) hr
theorem d19_13 : DK cB19 13 (.aload_n 0) 1 := by decide +kernel
theorem d19_14 : DK cB19 14 (.ldc 65) 2 := by decide +kernel
theorem d19_16 : DK cB19 16 (.invokevirtual 61) 3 := by decide +kernel
theorem d19_19 : DK cB19 19 (.ifCond .eq 7) 3 := by decide +kernel
theorem d19_22 : DK cB19 22 (.getstatic 44) 3 := by decide +kernel
theorem d19_25 : DK cB19 25 (.areturn) 1 := by decide +kernel
def Q19_2 (Z : State) (r0 r1 : Addr) (c2 : ClassId) (x3 : Int32) (t4 : List Int32) (x5 : Int32) (r6 : Addr) (h0 : Heap) (n0 : Nat) (v : Option Value) (h : Heap) (L : List Loc) : Prop := v = some (.ref r6) ∧ Fr n0 L ∧ Keep h0 h []
theorem rm19_2 (l : Launch) (Z : State) (a0 : Array Value) (hw : own_HW a0 Z) (ws : List Jvm.Cond) (r0 r1 : Addr) (c2 : ClassId) (x3 : Int32) (t4 : List Int32) (x5 : Int32) (r6 : Addr) (h0 : Heap) (n0 : Nat) (O0 : Old Z n0 h0) (f4 : Exa Z h0 r0 "java/lang/String") (f6 : Fld Z h0 r0 "java/lang/String" "coder" "B" vI0) (f8 : Fld Z h0 r0 "java/lang/String" "value" "[B" (.ref r1)) (f10 : Arv Z h0 r1 c2 .byte x3 (t4.map Value.int) vI0) (hc12 : x3 = Int32.ofNat t4.length) (hc13 : t4.length ≤ 4000) (f14 : Sta Z Z.heap "java/lang/String" "COMPACT_STRINGS" "Z" (.int x5)) (hc17 : ¬ (x5 = (0 : Int32))) (hc18 : ¬ (t4 = [(105 : Int32), (51 : Int32), (50 : Int32)])) (hc29 : t4 = [(117 : Int32), (51 : Int32), (50 : Int32)]) (f32 : Sta Z Z.heap cs0 "U32" cs4 (.ref r6)) :
    own_MH l mN13 method_6_code 1 (some (.object cs0)) ws rR3_12_120_40 Z h0 #[(.ref r0)] (Q19_2 Z r0 r1 c2 x3 t4 x5 r6 h0 n0) := by
  have hEL : EW Z a0 consts_1 := own_EW hw
  refine own_openH hEL (plainFor_of_name pn_com_example_wiregather_wiregather_wire_FieldTypeOfLabelPinLaw) (L0 := #[lR r0]) (fun _ => by first | (simp [entryFrame, mkF, argsToLocals, Value.category]; done) | rfl) ?_
  intro p e s m below meth c s₁ hx hby hml hret hnn hZ hown X0 e0 R0
  have N0 := Fr.nil n0; have w := @ww Z a0 hw
  have hS1 := (State.WarmedH.refl s).since 0
  have hstr : ∀ a ∈ Bundle.stringAtoms, a.before a0 Z = true := fun a q => hw a (own_str a q)
  obtain ⟨a2, T2, h2, kk2, b2, k2, X2, e2, E2, hS2, hk2, hZ2, ho2, EE2, C2, F2, V2, l2, m2, CR2, -, ne2, st2⟩ := ldcCH (s := s) (vm0 := s.vm) X0 hx hZ hown (w 105 rfl) hstr e0 hS1 (Nat.zero_le _) hEL (by simp [consts_1]) R0.1 (vs := [vI105, vI51, vI50]) (z := (3 : Int32)) ⟨by decide, by decide⟩ (by decide) rfl (g := (mkF m 1 #[lR r0] [(.ref r0)])) rfl (hb hby d19_1) (n := 12) (by decide) (by decide) (by decide) (by decide)
  have R3 := CHr.trans R0 CR2
  have f5 := (f4.ext E2)
  have f7 := (f6.ext E2)
  have f9 := (f8.ext E2)
  have f11 := (f10.ext E2)
  have o15 := Old.ext O0 E2
  have f16 := f14.ext o15.2
  obtain ⟨cqq20, kqq20, qq20a, qq20b, qq20c⟩ := isOf hZ2 e2 f5
  obtain ⟨_, T19, Lc19, X19, hQ19, st19⟩ := own_fin (X2.virtualBack hx (y := mN1) (z := mN1) ho2 (mvT hZ2 (w 106 rfl)) (mvT hZ2 (w 62 rfl)) (notFace_of_selects (args := #[]) (mvT hZ2 (w 64 rfl))) (mvT hZ2 (w 64 rfl)) (mvT hZ2 (w 63 rfl)) (by decide) (own_strEq hZ2 hw (w 5 rfl) (bs := t4) f5 f9 f7 f11 hc12 hc13 (ds := [(105 : Int32), (51 : Int32), (50 : Int32)]) EE2 F2 C2 V2 (own_ofLen (n := 3) (by decide) rfl) (Nat.le_of_ble_eq_true rfl) f16 hc17 (r := 0) (n0 := n0) (Or.inr ⟨rfl, hc18⟩) (by decide) (by decide : 0 + 28 ≤ _)) qq20a qq20c (g := (mkF m 3 #[lR r0] [(.ref a2), (.ref r0)])) rfl (by rw [hml]; rfl) (Steps.refl _) (argsL := [(.ref a2)]) (rest := []) (lenOf pd__Ljava_lang_Object__Z rfl) rfl (own_W rfl) (hb hby d19_3) (fun _ _ => ⟨rfl, e2, (by decide : 2 + 0 ≤ _), (by decide : 16 + 0 ≤ _)⟩))
  obtain ⟨rfl, N19q, E19⟩ := hQ19
  have N19 := Fr.app N0 N19q
  obtain ⟨a21, T21, h21, kk21, b21, k21, X21, e21, E21, hS21, hk21, hZ21, ho21, EE21, C21, F21, V21, l21, m21, CR21, -, ne21, st21⟩ := ldcCH (s := s) (vm0 := T2.vm) X19 hx hZ2 ho2 (w 107 rfl) hstr E19 hS2 hk2 hEL (by simp [consts_1]) R3.1 (vs := [vI117, vI51, vI50]) (z := (3 : Int32)) ⟨by decide, by decide⟩ (by decide) rfl (g := (mkF m 14 #[lR r0] [(.ref r0)])) rfl (hb hby d19_14) (n := 12) (by decide) (by decide) (by decide) (by decide)
  have R22 := CHr.trans R3 CR21
  have f23 := (f7.ext E21)
  have f24 := (f9.ext E21)
  have f25 := (f11.ext E21)
  have f26 := (f5.ext E21)
  have o27 := Old.ext o15 E21
  have f28 := f14.ext o27.2
  obtain ⟨cqq31, kqq31, qq31a, qq31b, qq31c⟩ := isOf hZ21 e21 f26
  obtain ⟨_, T30, Lc30, X30, hQ30, st30⟩ := own_fin (X21.virtualBack hx (y := mN1) (z := mN1) ho21 (mvT hZ21 (w 106 rfl)) (mvT hZ21 (w 62 rfl)) (notFace_of_selects (args := #[]) (mvT hZ21 (w 64 rfl))) (mvT hZ21 (w 64 rfl)) (mvT hZ21 (w 63 rfl)) (by decide) (own_strEq hZ21 hw (w 5 rfl) (bs := t4) f26 f24 f23 f25 hc12 hc13 (ds := [(117 : Int32), (51 : Int32), (50 : Int32)]) EE21 F21 C21 V21 (own_ofLen (n := 3) (by decide) rfl) (Nat.le_of_ble_eq_true rfl) f28 hc17 (r := 1) (n0 := n0) (Or.inl ⟨rfl, hc29⟩) (by decide) (by decide : 0 + 28 ≤ _)) qq31a qq31c (g := (mkF m 16 #[lR r0] [(.ref a21), (.ref r0)])) rfl (by rw [hml]; rfl) (Steps.refl _) (argsL := [(.ref a21)]) (rest := []) (lenOf pd__Ljava_lang_Object__Z rfl) rfl (own_W rfl) (hb hby d19_16) (fun _ _ => ⟨rfl, e21, (by decide : 4 + 0 ≤ _), (by decide : 32 + 0 ≤ _)⟩))
  obtain ⟨rfl, N30q, E30⟩ := hQ30
  have N30 := Fr.app N19 N30q
  have f33 := f32.ext o27.2
  obtain ⟨T34, X34, e34, st34⟩ := getS2 X30 hx hZ21 ho21 (host := "") (Or.inl (w 112 rfl)) Via.refl E30 f33 (g := (mkF m 22 #[lR r0] [])) rfl (hb hby d19_22)
  have kp35 : Keep h0 h2 [] := (Keep.refl h0 []).ext E2
  have kp36 : Keep h0 h21 [] := kp35.ext E21
  refine ⟨some (.ref r6), _, _, _, _, _, _, _, nofun, X34, by decide, by decide, hS21, (by rw [e34]; exact hk21), hZ21, e34, R22, ?_, fun fs hr => ?_⟩
  · rw [e34]; exact ⟨rfl, N30, kp36⟩
  · show SG p e below s₁ (mkF m 0 #[lR r0] []) _
    refine qaN X0 hx hby d19_0 ?_
    refine st2 _ ?_
    show SG p e below T2 (mkF m 3 #[lR r0] [(.ref a2), (.ref r0)]) _
    refine st19.trans ?_
    show SG p e below T19 (mkF m 6 #[lR r0] [vI0]) _
    refine XS.ifYes X19.here hx rfl (pc0 := 6) (pc' := 13) rfl (hb hby d19_6) rfl ((if0 _ _).trans (teq (rfl : (0 : Int32) = (0 : Int32))).1) (by decide) (by decide) ?_
    show SG p e below T19 (mkF m 13 #[lR r0] []) _
    refine qaN X19 hx hby d19_13 ?_
    refine st21 _ ?_
    show SG p e below T21 (mkF m 16 #[lR r0] [(.ref a21), (.ref r0)]) _
    refine st30.trans ?_
    show SG p e below T30 (mkF m 19 #[lR r0] [vI1]) _
    refine XS.ifNo X30.here hx rfl (hb hby d19_19) rfl ((if0 _ _).trans (feq (by decide : ¬ ((1 : Int32) = (0 : Int32)))).1) ?_
    refine st34 _ ?_
    show SG p e below T34 (mkF m 25 #[lR r0] [(.ref r6)]) _
    exact retOut X34 hx (i := .areturn) hret rfl (Or.inr (Or.inr (Or.inr (Or.inr ⟨rfl, rfl, rfl⟩)))) (hb hby d19_25) hr
theorem d19_26 : DK cB19 26 (.aload_n 0) 1 := by decide +kernel
theorem d19_27 : DK cB19 27 (.ldc 67) 2 := by decide +kernel
theorem d19_29 : DK cB19 29 (.invokevirtual 61) 3 := by decide +kernel
theorem d19_32 : DK cB19 32 (.ifCond .eq 7) 3 := by decide +kernel
theorem d19_35 : DK cB19 35 (.getstatic 47) 3 := by decide +kernel
theorem d19_38 : DK cB19 38 (.areturn) 1 := by decide +kernel
def Q19_3 (Z : State) (r0 r1 : Addr) (c2 : ClassId) (x3 : Int32) (t4 : List Int32) (x5 : Int32) (r6 : Addr) (h0 : Heap) (n0 : Nat) (v : Option Value) (h : Heap) (L : List Loc) : Prop := v = some (.ref r6) ∧ Fr n0 L ∧ Keep h0 h []
theorem rm19_3 (l : Launch) (Z : State) (a0 : Array Value) (hw : own_HW a0 Z) (ws : List Jvm.Cond) (r0 r1 : Addr) (c2 : ClassId) (x3 : Int32) (t4 : List Int32) (x5 : Int32) (r6 : Addr) (h0 : Heap) (n0 : Nat) (O0 : Old Z n0 h0) (f4 : Exa Z h0 r0 "java/lang/String") (f6 : Fld Z h0 r0 "java/lang/String" "coder" "B" vI0) (f8 : Fld Z h0 r0 "java/lang/String" "value" "[B" (.ref r1)) (f10 : Arv Z h0 r1 c2 .byte x3 (t4.map Value.int) vI0) (hc12 : x3 = Int32.ofNat t4.length) (hc13 : t4.length ≤ 4000) (f14 : Sta Z Z.heap "java/lang/String" "COMPACT_STRINGS" "Z" (.int x5)) (hc17 : ¬ (x5 = (0 : Int32))) (hc18 : ¬ (t4 = [(105 : Int32), (51 : Int32), (50 : Int32)])) (hc29 : ¬ (t4 = [(117 : Int32), (51 : Int32), (50 : Int32)])) (hc40 : t4 = [(102 : Int32), (51 : Int32), (50 : Int32)]) (f43 : Sta Z Z.heap cs0 "F32" cs4 (.ref r6)) :
    own_MH l mN13 method_6_code 1 (some (.object cs0)) ws rR3_12_120_40 Z h0 #[(.ref r0)] (Q19_3 Z r0 r1 c2 x3 t4 x5 r6 h0 n0) := by
  have hEL : EW Z a0 consts_1 := own_EW hw
  refine own_openH hEL (plainFor_of_name pn_com_example_wiregather_wiregather_wire_FieldTypeOfLabelPinLaw) (L0 := #[lR r0]) (fun _ => by first | (simp [entryFrame, mkF, argsToLocals, Value.category]; done) | rfl) ?_
  intro p e s m below meth c s₁ hx hby hml hret hnn hZ hown X0 e0 R0
  have N0 := Fr.nil n0; have w := @ww Z a0 hw
  have hS1 := (State.WarmedH.refl s).since 0
  have hstr : ∀ a ∈ Bundle.stringAtoms, a.before a0 Z = true := fun a q => hw a (own_str a q)
  obtain ⟨a2, T2, h2, kk2, b2, k2, X2, e2, E2, hS2, hk2, hZ2, ho2, EE2, C2, F2, V2, l2, m2, CR2, -, ne2, st2⟩ := ldcCH (s := s) (vm0 := s.vm) X0 hx hZ hown (w 105 rfl) hstr e0 hS1 (Nat.zero_le _) hEL (by simp [consts_1]) R0.1 (vs := [vI105, vI51, vI50]) (z := (3 : Int32)) ⟨by decide, by decide⟩ (by decide) rfl (g := (mkF m 1 #[lR r0] [(.ref r0)])) rfl (hb hby d19_1) (n := 12) (by decide) (by decide) (by decide) (by decide)
  have R3 := CHr.trans R0 CR2
  have f5 := (f4.ext E2)
  have f7 := (f6.ext E2)
  have f9 := (f8.ext E2)
  have f11 := (f10.ext E2)
  have o15 := Old.ext O0 E2
  have f16 := f14.ext o15.2
  obtain ⟨cqq20, kqq20, qq20a, qq20b, qq20c⟩ := isOf hZ2 e2 f5
  obtain ⟨_, T19, Lc19, X19, hQ19, st19⟩ := own_fin (X2.virtualBack hx (y := mN1) (z := mN1) ho2 (mvT hZ2 (w 106 rfl)) (mvT hZ2 (w 62 rfl)) (notFace_of_selects (args := #[]) (mvT hZ2 (w 64 rfl))) (mvT hZ2 (w 64 rfl)) (mvT hZ2 (w 63 rfl)) (by decide) (own_strEq hZ2 hw (w 5 rfl) (bs := t4) f5 f9 f7 f11 hc12 hc13 (ds := [(105 : Int32), (51 : Int32), (50 : Int32)]) EE2 F2 C2 V2 (own_ofLen (n := 3) (by decide) rfl) (Nat.le_of_ble_eq_true rfl) f16 hc17 (r := 0) (n0 := n0) (Or.inr ⟨rfl, hc18⟩) (by decide) (by decide : 0 + 28 ≤ _)) qq20a qq20c (g := (mkF m 3 #[lR r0] [(.ref a2), (.ref r0)])) rfl (by rw [hml]; rfl) (Steps.refl _) (argsL := [(.ref a2)]) (rest := []) (lenOf pd__Ljava_lang_Object__Z rfl) rfl (own_W rfl) (hb hby d19_3) (fun _ _ => ⟨rfl, e2, (by decide : 2 + 0 ≤ _), (by decide : 16 + 0 ≤ _)⟩))
  obtain ⟨rfl, N19q, E19⟩ := hQ19
  have N19 := Fr.app N0 N19q
  obtain ⟨a21, T21, h21, kk21, b21, k21, X21, e21, E21, hS21, hk21, hZ21, ho21, EE21, C21, F21, V21, l21, m21, CR21, -, ne21, st21⟩ := ldcCH (s := s) (vm0 := T2.vm) X19 hx hZ2 ho2 (w 107 rfl) hstr E19 hS2 hk2 hEL (by simp [consts_1]) R3.1 (vs := [vI117, vI51, vI50]) (z := (3 : Int32)) ⟨by decide, by decide⟩ (by decide) rfl (g := (mkF m 14 #[lR r0] [(.ref r0)])) rfl (hb hby d19_14) (n := 12) (by decide) (by decide) (by decide) (by decide)
  have R22 := CHr.trans R3 CR21
  have f23 := (f7.ext E21)
  have f24 := (f9.ext E21)
  have f25 := (f11.ext E21)
  have f26 := (f5.ext E21)
  have o27 := Old.ext o15 E21
  have f28 := f14.ext o27.2
  obtain ⟨cqq31, kqq31, qq31a, qq31b, qq31c⟩ := isOf hZ21 e21 f26
  obtain ⟨_, T30, Lc30, X30, hQ30, st30⟩ := own_fin (X21.virtualBack hx (y := mN1) (z := mN1) ho21 (mvT hZ21 (w 106 rfl)) (mvT hZ21 (w 62 rfl)) (notFace_of_selects (args := #[]) (mvT hZ21 (w 64 rfl))) (mvT hZ21 (w 64 rfl)) (mvT hZ21 (w 63 rfl)) (by decide) (own_strEq hZ21 hw (w 5 rfl) (bs := t4) f26 f24 f23 f25 hc12 hc13 (ds := [(117 : Int32), (51 : Int32), (50 : Int32)]) EE21 F21 C21 V21 (own_ofLen (n := 3) (by decide) rfl) (Nat.le_of_ble_eq_true rfl) f28 hc17 (r := 0) (n0 := n0) (Or.inr ⟨rfl, hc29⟩) (by decide) (by decide : 0 + 28 ≤ _)) qq31a qq31c (g := (mkF m 16 #[lR r0] [(.ref a21), (.ref r0)])) rfl (by rw [hml]; rfl) (Steps.refl _) (argsL := [(.ref a21)]) (rest := []) (lenOf pd__Ljava_lang_Object__Z rfl) rfl (own_W rfl) (hb hby d19_16) (fun _ _ => ⟨rfl, e21, (by decide : 4 + 0 ≤ _), (by decide : 32 + 0 ≤ _)⟩))
  obtain ⟨rfl, N30q, E30⟩ := hQ30
  have N30 := Fr.app N19 N30q
  obtain ⟨a32, T32, h32, kk32, b32, k32, X32, e32, E32, hS32, hk32, hZ32, ho32, EE32, C32, F32, V32, l32, m32, CR32, -, ne32, st32⟩ := ldcCH (s := s) (vm0 := T21.vm) X30 hx hZ21 ho21 (w 108 rfl) hstr E30 hS21 hk21 hEL (by simp [consts_1]) R22.1 (vs := [vI102, vI51, vI50]) (z := (3 : Int32)) ⟨by decide, by decide⟩ (by decide) rfl (g := (mkF m 27 #[lR r0] [(.ref r0)])) rfl (hb hby d19_27) (n := 12) (by decide) (by decide) (by decide) (by decide)
  have R33 := CHr.trans R22 CR32
  have f34 := (f23.ext E32)
  have f35 := (f24.ext E32)
  have f36 := (f25.ext E32)
  have f37 := (f26.ext E32)
  have o38 := Old.ext o27 E32
  have f39 := f14.ext o38.2
  obtain ⟨cqq42, kqq42, qq42a, qq42b, qq42c⟩ := isOf hZ32 e32 f37
  obtain ⟨_, T41, Lc41, X41, hQ41, st41⟩ := own_fin (X32.virtualBack hx (y := mN1) (z := mN1) ho32 (mvT hZ32 (w 106 rfl)) (mvT hZ32 (w 62 rfl)) (notFace_of_selects (args := #[]) (mvT hZ32 (w 64 rfl))) (mvT hZ32 (w 64 rfl)) (mvT hZ32 (w 63 rfl)) (by decide) (own_strEq hZ32 hw (w 5 rfl) (bs := t4) f37 f35 f34 f36 hc12 hc13 (ds := [(102 : Int32), (51 : Int32), (50 : Int32)]) EE32 F32 C32 V32 (own_ofLen (n := 3) (by decide) rfl) (Nat.le_of_ble_eq_true rfl) f39 hc17 (r := 1) (n0 := n0) (Or.inl ⟨rfl, hc40⟩) (by decide) (by decide : 0 + 28 ≤ _)) qq42a qq42c (g := (mkF m 29 #[lR r0] [(.ref a32), (.ref r0)])) rfl (by rw [hml]; rfl) (Steps.refl _) (argsL := [(.ref a32)]) (rest := []) (lenOf pd__Ljava_lang_Object__Z rfl) rfl (own_W rfl) (hb hby d19_29) (fun _ _ => ⟨rfl, e32, (by decide : 6 + 0 ≤ _), (by decide : 48 + 0 ≤ _)⟩))
  obtain ⟨rfl, N41q, E41⟩ := hQ41
  have N41 := Fr.app N30 N41q
  have f44 := f43.ext o38.2
  obtain ⟨T45, X45, e45, st45⟩ := getS2 X41 hx hZ32 ho32 (host := "") (Or.inl (w 114 rfl)) Via.refl E41 f44 (g := (mkF m 35 #[lR r0] [])) rfl (hb hby d19_35)
  have kp46 : Keep h0 h2 [] := (Keep.refl h0 []).ext E2
  have kp47 : Keep h0 h21 [] := kp46.ext E21
  have kp48 : Keep h0 h32 [] := kp47.ext E32
  refine ⟨some (.ref r6), _, _, _, _, _, _, _, nofun, X45, by decide, by decide, hS32, (by rw [e45]; exact hk32), hZ32, e45, R33, ?_, fun fs hr => ?_⟩
  · rw [e45]; exact ⟨rfl, N41, kp48⟩
  · show SG p e below s₁ (mkF m 0 #[lR r0] []) _
    refine qaN X0 hx hby d19_0 ?_
    refine st2 _ ?_
    show SG p e below T2 (mkF m 3 #[lR r0] [(.ref a2), (.ref r0)]) _
    refine st19.trans ?_
    show SG p e below T19 (mkF m 6 #[lR r0] [vI0]) _
    refine XS.ifYes X19.here hx rfl (pc0 := 6) (pc' := 13) rfl (hb hby d19_6) rfl ((if0 _ _).trans (teq (rfl : (0 : Int32) = (0 : Int32))).1) (by decide) (by decide) ?_
    show SG p e below T19 (mkF m 13 #[lR r0] []) _
    refine qaN X19 hx hby d19_13 ?_
    refine st21 _ ?_
    show SG p e below T21 (mkF m 16 #[lR r0] [(.ref a21), (.ref r0)]) _
    refine st30.trans ?_
    show SG p e below T30 (mkF m 19 #[lR r0] [vI0]) _
    refine XS.ifYes X30.here hx rfl (pc0 := 19) (pc' := 26) rfl (hb hby d19_19) rfl ((if0 _ _).trans (teq (rfl : (0 : Int32) = (0 : Int32))).1) (by decide) (by decide) ?_
    show SG p e below T30 (mkF m 26 #[lR r0] []) _
    refine qaN X30 hx hby d19_26 ?_
    refine st32 _ ?_
    show SG p e below T32 (mkF m 29 #[lR r0] [(.ref a32), (.ref r0)]) _
    refine st41.trans ?_
    show SG p e below T41 (mkF m 32 #[lR r0] [vI1]) _
    refine XS.ifNo X41.here hx rfl (hb hby d19_32) rfl ((if0 _ _).trans (feq (by decide : ¬ ((1 : Int32) = (0 : Int32)))).1) ?_
    refine st45 _ ?_
    show SG p e below T45 (mkF m 38 #[lR r0] [(.ref r6)]) _
    exact retOut X45 hx (i := .areturn) hret rfl (Or.inr (Or.inr (Or.inr (Or.inr ⟨rfl, rfl, rfl⟩)))) (hb hby d19_38) hr
theorem d19_39 : DK cB19 39 (.aload_n 0) 1 := by decide +kernel
theorem d19_40 : DK cB19 40 (.ldc 69) 2 := by decide +kernel
theorem d19_42 : DK cB19 42 (.invokevirtual 61) 3 := by decide +kernel
theorem d19_45 : DK cB19 45 (.ifCond .eq 7) 3 := by decide +kernel
theorem d19_48 : DK cB19 48 (.getstatic 50) 3 := by decide +kernel
theorem d19_51 : DK cB19 51 (.areturn) 1 := by decide +kernel
def Q19_4 (Z : State) (r0 r1 : Addr) (c2 : ClassId) (x3 : Int32) (t4 : List Int32) (x5 : Int32) (r6 : Addr) (h0 : Heap) (n0 : Nat) (v : Option Value) (h : Heap) (L : List Loc) : Prop := v = some (.ref r6) ∧ Fr n0 L ∧ Keep h0 h []
theorem rm19_4 (l : Launch) (Z : State) (a0 : Array Value) (hw : own_HW a0 Z) (ws : List Jvm.Cond) (r0 r1 : Addr) (c2 : ClassId) (x3 : Int32) (t4 : List Int32) (x5 : Int32) (r6 : Addr) (h0 : Heap) (n0 : Nat) (O0 : Old Z n0 h0) (f4 : Exa Z h0 r0 "java/lang/String") (f6 : Fld Z h0 r0 "java/lang/String" "coder" "B" vI0) (f8 : Fld Z h0 r0 "java/lang/String" "value" "[B" (.ref r1)) (f10 : Arv Z h0 r1 c2 .byte x3 (t4.map Value.int) vI0) (hc12 : x3 = Int32.ofNat t4.length) (hc13 : t4.length ≤ 4000) (f14 : Sta Z Z.heap "java/lang/String" "COMPACT_STRINGS" "Z" (.int x5)) (hc17 : ¬ (x5 = (0 : Int32))) (hc18 : ¬ (t4 = [(105 : Int32), (51 : Int32), (50 : Int32)])) (hc29 : ¬ (t4 = [(117 : Int32), (51 : Int32), (50 : Int32)])) (hc40 : ¬ (t4 = [(102 : Int32), (51 : Int32), (50 : Int32)])) (hc51 : t4 = [(102 : Int32), (54 : Int32), (52 : Int32)]) (f54 : Sta Z Z.heap cs0 "F64" cs4 (.ref r6)) :
    own_MH l mN13 method_6_code 1 (some (.object cs0)) ws rR3_12_120_40 Z h0 #[(.ref r0)] (Q19_4 Z r0 r1 c2 x3 t4 x5 r6 h0 n0) := by
  have hEL : EW Z a0 consts_1 := own_EW hw
  refine own_openH hEL (plainFor_of_name pn_com_example_wiregather_wiregather_wire_FieldTypeOfLabelPinLaw) (L0 := #[lR r0]) (fun _ => by first | (simp [entryFrame, mkF, argsToLocals, Value.category]; done) | rfl) ?_
  intro p e s m below meth c s₁ hx hby hml hret hnn hZ hown X0 e0 R0
  have N0 := Fr.nil n0; have w := @ww Z a0 hw
  have hS1 := (State.WarmedH.refl s).since 0
  have hstr : ∀ a ∈ Bundle.stringAtoms, a.before a0 Z = true := fun a q => hw a (own_str a q)
  obtain ⟨a2, T2, h2, kk2, b2, k2, X2, e2, E2, hS2, hk2, hZ2, ho2, EE2, C2, F2, V2, l2, m2, CR2, -, ne2, st2⟩ := ldcCH (s := s) (vm0 := s.vm) X0 hx hZ hown (w 105 rfl) hstr e0 hS1 (Nat.zero_le _) hEL (by simp [consts_1]) R0.1 (vs := [vI105, vI51, vI50]) (z := (3 : Int32)) ⟨by decide, by decide⟩ (by decide) rfl (g := (mkF m 1 #[lR r0] [(.ref r0)])) rfl (hb hby d19_1) (n := 12) (by decide) (by decide) (by decide) (by decide)
  have R3 := CHr.trans R0 CR2
  have f5 := (f4.ext E2)
  have f7 := (f6.ext E2)
  have f9 := (f8.ext E2)
  have f11 := (f10.ext E2)
  have o15 := Old.ext O0 E2
  have f16 := f14.ext o15.2
  obtain ⟨cqq20, kqq20, qq20a, qq20b, qq20c⟩ := isOf hZ2 e2 f5
  obtain ⟨_, T19, Lc19, X19, hQ19, st19⟩ := own_fin (X2.virtualBack hx (y := mN1) (z := mN1) ho2 (mvT hZ2 (w 106 rfl)) (mvT hZ2 (w 62 rfl)) (notFace_of_selects (args := #[]) (mvT hZ2 (w 64 rfl))) (mvT hZ2 (w 64 rfl)) (mvT hZ2 (w 63 rfl)) (by decide) (own_strEq hZ2 hw (w 5 rfl) (bs := t4) f5 f9 f7 f11 hc12 hc13 (ds := [(105 : Int32), (51 : Int32), (50 : Int32)]) EE2 F2 C2 V2 (own_ofLen (n := 3) (by decide) rfl) (Nat.le_of_ble_eq_true rfl) f16 hc17 (r := 0) (n0 := n0) (Or.inr ⟨rfl, hc18⟩) (by decide) (by decide : 0 + 28 ≤ _)) qq20a qq20c (g := (mkF m 3 #[lR r0] [(.ref a2), (.ref r0)])) rfl (by rw [hml]; rfl) (Steps.refl _) (argsL := [(.ref a2)]) (rest := []) (lenOf pd__Ljava_lang_Object__Z rfl) rfl (own_W rfl) (hb hby d19_3) (fun _ _ => ⟨rfl, e2, (by decide : 2 + 0 ≤ _), (by decide : 16 + 0 ≤ _)⟩))
  obtain ⟨rfl, N19q, E19⟩ := hQ19
  have N19 := Fr.app N0 N19q
  obtain ⟨a21, T21, h21, kk21, b21, k21, X21, e21, E21, hS21, hk21, hZ21, ho21, EE21, C21, F21, V21, l21, m21, CR21, -, ne21, st21⟩ := ldcCH (s := s) (vm0 := T2.vm) X19 hx hZ2 ho2 (w 107 rfl) hstr E19 hS2 hk2 hEL (by simp [consts_1]) R3.1 (vs := [vI117, vI51, vI50]) (z := (3 : Int32)) ⟨by decide, by decide⟩ (by decide) rfl (g := (mkF m 14 #[lR r0] [(.ref r0)])) rfl (hb hby d19_14) (n := 12) (by decide) (by decide) (by decide) (by decide)
  have R22 := CHr.trans R3 CR21
  have f23 := (f7.ext E21)
  have f24 := (f9.ext E21)
  have f25 := (f11.ext E21)
  have f26 := (f5.ext E21)
  have o27 := Old.ext o15 E21
  have f28 := f14.ext o27.2
  obtain ⟨cqq31, kqq31, qq31a, qq31b, qq31c⟩ := isOf hZ21 e21 f26
  obtain ⟨_, T30, Lc30, X30, hQ30, st30⟩ := own_fin (X21.virtualBack hx (y := mN1) (z := mN1) ho21 (mvT hZ21 (w 106 rfl)) (mvT hZ21 (w 62 rfl)) (notFace_of_selects (args := #[]) (mvT hZ21 (w 64 rfl))) (mvT hZ21 (w 64 rfl)) (mvT hZ21 (w 63 rfl)) (by decide) (own_strEq hZ21 hw (w 5 rfl) (bs := t4) f26 f24 f23 f25 hc12 hc13 (ds := [(117 : Int32), (51 : Int32), (50 : Int32)]) EE21 F21 C21 V21 (own_ofLen (n := 3) (by decide) rfl) (Nat.le_of_ble_eq_true rfl) f28 hc17 (r := 0) (n0 := n0) (Or.inr ⟨rfl, hc29⟩) (by decide) (by decide : 0 + 28 ≤ _)) qq31a qq31c (g := (mkF m 16 #[lR r0] [(.ref a21), (.ref r0)])) rfl (by rw [hml]; rfl) (Steps.refl _) (argsL := [(.ref a21)]) (rest := []) (lenOf pd__Ljava_lang_Object__Z rfl) rfl (own_W rfl) (hb hby d19_16) (fun _ _ => ⟨rfl, e21, (by decide : 4 + 0 ≤ _), (by decide : 32 + 0 ≤ _)⟩))
  obtain ⟨rfl, N30q, E30⟩ := hQ30
  have N30 := Fr.app N19 N30q
  obtain ⟨a32, T32, h32, kk32, b32, k32, X32, e32, E32, hS32, hk32, hZ32, ho32, EE32, C32, F32, V32, l32, m32, CR32, -, ne32, st32⟩ := ldcCH (s := s) (vm0 := T21.vm) X30 hx hZ21 ho21 (w 108 rfl) hstr E30 hS21 hk21 hEL (by simp [consts_1]) R22.1 (vs := [vI102, vI51, vI50]) (z := (3 : Int32)) ⟨by decide, by decide⟩ (by decide) rfl (g := (mkF m 27 #[lR r0] [(.ref r0)])) rfl (hb hby d19_27) (n := 12) (by decide) (by decide) (by decide) (by decide)
  have R33 := CHr.trans R22 CR32
  have f34 := (f23.ext E32)
  have f35 := (f24.ext E32)
  have f36 := (f25.ext E32)
  have f37 := (f26.ext E32)
  have o38 := Old.ext o27 E32
  have f39 := f14.ext o38.2
  obtain ⟨cqq42, kqq42, qq42a, qq42b, qq42c⟩ := isOf hZ32 e32 f37
  obtain ⟨_, T41, Lc41, X41, hQ41, st41⟩ := own_fin (X32.virtualBack hx (y := mN1) (z := mN1) ho32 (mvT hZ32 (w 106 rfl)) (mvT hZ32 (w 62 rfl)) (notFace_of_selects (args := #[]) (mvT hZ32 (w 64 rfl))) (mvT hZ32 (w 64 rfl)) (mvT hZ32 (w 63 rfl)) (by decide) (own_strEq hZ32 hw (w 5 rfl) (bs := t4) f37 f35 f34 f36 hc12 hc13 (ds := [(102 : Int32), (51 : Int32), (50 : Int32)]) EE32 F32 C32 V32 (own_ofLen (n := 3) (by decide) rfl) (Nat.le_of_ble_eq_true rfl) f39 hc17 (r := 0) (n0 := n0) (Or.inr ⟨rfl, hc40⟩) (by decide) (by decide : 0 + 28 ≤ _)) qq42a qq42c (g := (mkF m 29 #[lR r0] [(.ref a32), (.ref r0)])) rfl (by rw [hml]; rfl) (Steps.refl _) (argsL := [(.ref a32)]) (rest := []) (lenOf pd__Ljava_lang_Object__Z rfl) rfl (own_W rfl) (hb hby d19_29) (fun _ _ => ⟨rfl, e32, (by decide : 6 + 0 ≤ _), (by decide : 48 + 0 ≤ _)⟩))
  obtain ⟨rfl, N41q, E41⟩ := hQ41
  have N41 := Fr.app N30 N41q
  obtain ⟨a43, T43, h43, kk43, b43, k43, X43, e43, E43, hS43, hk43, hZ43, ho43, EE43, C43, F43, V43, l43, m43, CR43, -, ne43, st43⟩ := ldcCH (s := s) (vm0 := T32.vm) X41 hx hZ32 ho32 (w 109 rfl) hstr E41 hS32 hk32 hEL (by simp [consts_1]) R33.1 (vs := [vI102, vI54, vI52]) (z := (3 : Int32)) ⟨by decide, by decide⟩ (by decide) rfl (g := (mkF m 40 #[lR r0] [(.ref r0)])) rfl (hb hby d19_40) (n := 12) (by decide) (by decide) (by decide) (by decide)
  have R44 := CHr.trans R33 CR43
  have f45 := (f34.ext E43)
  have f46 := (f35.ext E43)
  have f47 := (f36.ext E43)
  have f48 := (f37.ext E43)
  have o49 := Old.ext o38 E43
  have f50 := f14.ext o49.2
  obtain ⟨cqq53, kqq53, qq53a, qq53b, qq53c⟩ := isOf hZ43 e43 f48
  obtain ⟨_, T52, Lc52, X52, hQ52, st52⟩ := own_fin (X43.virtualBack hx (y := mN1) (z := mN1) ho43 (mvT hZ43 (w 106 rfl)) (mvT hZ43 (w 62 rfl)) (notFace_of_selects (args := #[]) (mvT hZ43 (w 64 rfl))) (mvT hZ43 (w 64 rfl)) (mvT hZ43 (w 63 rfl)) (by decide) (own_strEq hZ43 hw (w 5 rfl) (bs := t4) f48 f46 f45 f47 hc12 hc13 (ds := [(102 : Int32), (54 : Int32), (52 : Int32)]) EE43 F43 C43 V43 (own_ofLen (n := 3) (by decide) rfl) (Nat.le_of_ble_eq_true rfl) f50 hc17 (r := 1) (n0 := n0) (Or.inl ⟨rfl, hc51⟩) (by decide) (by decide : 0 + 28 ≤ _)) qq53a qq53c (g := (mkF m 42 #[lR r0] [(.ref a43), (.ref r0)])) rfl (by rw [hml]; rfl) (Steps.refl _) (argsL := [(.ref a43)]) (rest := []) (lenOf pd__Ljava_lang_Object__Z rfl) rfl (own_W rfl) (hb hby d19_42) (fun _ _ => ⟨rfl, e43, (by decide : 8 + 0 ≤ _), (by decide : 64 + 0 ≤ _)⟩))
  obtain ⟨rfl, N52q, E52⟩ := hQ52
  have N52 := Fr.app N41 N52q
  have f55 := f54.ext o49.2
  obtain ⟨T56, X56, e56, st56⟩ := getS2 X52 hx hZ43 ho43 (host := "") (Or.inl (w 115 rfl)) Via.refl E52 f55 (g := (mkF m 48 #[lR r0] [])) rfl (hb hby d19_48)
  have kp57 : Keep h0 h2 [] := (Keep.refl h0 []).ext E2
  have kp58 : Keep h0 h21 [] := kp57.ext E21
  have kp59 : Keep h0 h32 [] := kp58.ext E32
  have kp60 : Keep h0 h43 [] := kp59.ext E43
  refine ⟨some (.ref r6), _, _, _, _, _, _, _, nofun, X56, by decide, by decide, hS43, (by rw [e56]; exact hk43), hZ43, e56, R44, ?_, fun fs hr => ?_⟩
  · rw [e56]; exact ⟨rfl, N52, kp60⟩
  · show SG p e below s₁ (mkF m 0 #[lR r0] []) _
    refine qaN X0 hx hby d19_0 ?_
    refine st2 _ ?_
    show SG p e below T2 (mkF m 3 #[lR r0] [(.ref a2), (.ref r0)]) _
    refine st19.trans ?_
    show SG p e below T19 (mkF m 6 #[lR r0] [vI0]) _
    refine XS.ifYes X19.here hx rfl (pc0 := 6) (pc' := 13) rfl (hb hby d19_6) rfl ((if0 _ _).trans (teq (rfl : (0 : Int32) = (0 : Int32))).1) (by decide) (by decide) ?_
    show SG p e below T19 (mkF m 13 #[lR r0] []) _
    refine qaN X19 hx hby d19_13 ?_
    refine st21 _ ?_
    show SG p e below T21 (mkF m 16 #[lR r0] [(.ref a21), (.ref r0)]) _
    refine st30.trans ?_
    show SG p e below T30 (mkF m 19 #[lR r0] [vI0]) _
    refine XS.ifYes X30.here hx rfl (pc0 := 19) (pc' := 26) rfl (hb hby d19_19) rfl ((if0 _ _).trans (teq (rfl : (0 : Int32) = (0 : Int32))).1) (by decide) (by decide) ?_
    show SG p e below T30 (mkF m 26 #[lR r0] []) _
    refine qaN X30 hx hby d19_26 ?_
    refine st32 _ ?_
    show SG p e below T32 (mkF m 29 #[lR r0] [(.ref a32), (.ref r0)]) _
    refine st41.trans ?_
    show SG p e below T41 (mkF m 32 #[lR r0] [vI0]) _
    refine XS.ifYes X41.here hx rfl (pc0 := 32) (pc' := 39) rfl (hb hby d19_32) rfl ((if0 _ _).trans (teq (rfl : (0 : Int32) = (0 : Int32))).1) (by decide) (by decide) ?_
    show SG p e below T41 (mkF m 39 #[lR r0] []) _
    refine qaN X41 hx hby d19_39 ?_
    refine st43 _ ?_
    show SG p e below T43 (mkF m 42 #[lR r0] [(.ref a43), (.ref r0)]) _
    refine st52.trans ?_
    show SG p e below T52 (mkF m 45 #[lR r0] [vI1]) _
    refine XS.ifNo X52.here hx rfl (hb hby d19_45) rfl ((if0 _ _).trans (feq (by decide : ¬ ((1 : Int32) = (0 : Int32)))).1) ?_
    refine st56 _ ?_
    show SG p e below T56 (mkF m 51 #[lR r0] [(.ref r6)]) _
    exact retOut X56 hx (i := .areturn) hret rfl (Or.inr (Or.inr (Or.inr (Or.inr ⟨rfl, rfl, rfl⟩)))) (hb hby d19_51) hr
theorem d19_52 : DK cB19 52 (.aload_n 0) 1 := by decide +kernel
theorem d19_53 : DK cB19 53 (.ldc 71) 2 := by decide +kernel
theorem d19_55 : DK cB19 55 (.invokevirtual 61) 3 := by decide +kernel
theorem d19_58 : DK cB19 58 (.ifCond .eq 7) 3 := by decide +kernel
theorem d19_61 : DK cB19 61 (.getstatic 53) 3 := by decide +kernel
theorem d19_64 : DK cB19 64 (.areturn) 1 := by decide +kernel
def Q19_5 (Z : State) (r0 r1 : Addr) (c2 : ClassId) (x3 : Int32) (t4 : List Int32) (x5 : Int32) (r6 : Addr) (h0 : Heap) (n0 : Nat) (v : Option Value) (h : Heap) (L : List Loc) : Prop := v = some (.ref r6) ∧ Fr n0 L ∧ Keep h0 h []
theorem rm19_5 (l : Launch) (Z : State) (a0 : Array Value) (hw : own_HW a0 Z) (ws : List Jvm.Cond) (r0 r1 : Addr) (c2 : ClassId) (x3 : Int32) (t4 : List Int32) (x5 : Int32) (r6 : Addr) (h0 : Heap) (n0 : Nat) (O0 : Old Z n0 h0) (f4 : Exa Z h0 r0 "java/lang/String") (f6 : Fld Z h0 r0 "java/lang/String" "coder" "B" vI0) (f8 : Fld Z h0 r0 "java/lang/String" "value" "[B" (.ref r1)) (f10 : Arv Z h0 r1 c2 .byte x3 (t4.map Value.int) vI0) (hc12 : x3 = Int32.ofNat t4.length) (hc13 : t4.length ≤ 4000) (f14 : Sta Z Z.heap "java/lang/String" "COMPACT_STRINGS" "Z" (.int x5)) (hc17 : ¬ (x5 = (0 : Int32))) (hc18 : ¬ (t4 = [(105 : Int32), (51 : Int32), (50 : Int32)])) (hc29 : ¬ (t4 = [(117 : Int32), (51 : Int32), (50 : Int32)])) (hc40 : ¬ (t4 = [(102 : Int32), (51 : Int32), (50 : Int32)])) (hc51 : ¬ (t4 = [(102 : Int32), (54 : Int32), (52 : Int32)])) (hc62 : t4 = [(116 : Int32), (101 : Int32), (120 : Int32), (116 : Int32)]) (f65 : Sta Z Z.heap cs0 "TEXT" cs4 (.ref r6)) :
    own_MH l mN13 method_6_code 1 (some (.object cs0)) ws rR3_12_120_40 Z h0 #[(.ref r0)] (Q19_5 Z r0 r1 c2 x3 t4 x5 r6 h0 n0) := by
  have hEL : EW Z a0 consts_1 := own_EW hw
  refine own_openH hEL (plainFor_of_name pn_com_example_wiregather_wiregather_wire_FieldTypeOfLabelPinLaw) (L0 := #[lR r0]) (fun _ => by first | (simp [entryFrame, mkF, argsToLocals, Value.category]; done) | rfl) ?_
  intro p e s m below meth c s₁ hx hby hml hret hnn hZ hown X0 e0 R0
  have N0 := Fr.nil n0; have w := @ww Z a0 hw
  have hS1 := (State.WarmedH.refl s).since 0
  have hstr : ∀ a ∈ Bundle.stringAtoms, a.before a0 Z = true := fun a q => hw a (own_str a q)
  obtain ⟨a2, T2, h2, kk2, b2, k2, X2, e2, E2, hS2, hk2, hZ2, ho2, EE2, C2, F2, V2, l2, m2, CR2, -, ne2, st2⟩ := ldcCH (s := s) (vm0 := s.vm) X0 hx hZ hown (w 105 rfl) hstr e0 hS1 (Nat.zero_le _) hEL (by simp [consts_1]) R0.1 (vs := [vI105, vI51, vI50]) (z := (3 : Int32)) ⟨by decide, by decide⟩ (by decide) rfl (g := (mkF m 1 #[lR r0] [(.ref r0)])) rfl (hb hby d19_1) (n := 12) (by decide) (by decide) (by decide) (by decide)
  have R3 := CHr.trans R0 CR2
  have f5 := (f4.ext E2)
  have f7 := (f6.ext E2)
  have f9 := (f8.ext E2)
  have f11 := (f10.ext E2)
  have o15 := Old.ext O0 E2
  have f16 := f14.ext o15.2
  obtain ⟨cqq20, kqq20, qq20a, qq20b, qq20c⟩ := isOf hZ2 e2 f5
  obtain ⟨_, T19, Lc19, X19, hQ19, st19⟩ := own_fin (X2.virtualBack hx (y := mN1) (z := mN1) ho2 (mvT hZ2 (w 106 rfl)) (mvT hZ2 (w 62 rfl)) (notFace_of_selects (args := #[]) (mvT hZ2 (w 64 rfl))) (mvT hZ2 (w 64 rfl)) (mvT hZ2 (w 63 rfl)) (by decide) (own_strEq hZ2 hw (w 5 rfl) (bs := t4) f5 f9 f7 f11 hc12 hc13 (ds := [(105 : Int32), (51 : Int32), (50 : Int32)]) EE2 F2 C2 V2 (own_ofLen (n := 3) (by decide) rfl) (Nat.le_of_ble_eq_true rfl) f16 hc17 (r := 0) (n0 := n0) (Or.inr ⟨rfl, hc18⟩) (by decide) (by decide : 0 + 28 ≤ _)) qq20a qq20c (g := (mkF m 3 #[lR r0] [(.ref a2), (.ref r0)])) rfl (by rw [hml]; rfl) (Steps.refl _) (argsL := [(.ref a2)]) (rest := []) (lenOf pd__Ljava_lang_Object__Z rfl) rfl (own_W rfl) (hb hby d19_3) (fun _ _ => ⟨rfl, e2, (by decide : 2 + 0 ≤ _), (by decide : 16 + 0 ≤ _)⟩))
  obtain ⟨rfl, N19q, E19⟩ := hQ19
  have N19 := Fr.app N0 N19q
  obtain ⟨a21, T21, h21, kk21, b21, k21, X21, e21, E21, hS21, hk21, hZ21, ho21, EE21, C21, F21, V21, l21, m21, CR21, -, ne21, st21⟩ := ldcCH (s := s) (vm0 := T2.vm) X19 hx hZ2 ho2 (w 107 rfl) hstr E19 hS2 hk2 hEL (by simp [consts_1]) R3.1 (vs := [vI117, vI51, vI50]) (z := (3 : Int32)) ⟨by decide, by decide⟩ (by decide) rfl (g := (mkF m 14 #[lR r0] [(.ref r0)])) rfl (hb hby d19_14) (n := 12) (by decide) (by decide) (by decide) (by decide)
  have R22 := CHr.trans R3 CR21
  have f23 := (f7.ext E21)
  have f24 := (f9.ext E21)
  have f25 := (f11.ext E21)
  have f26 := (f5.ext E21)
  have o27 := Old.ext o15 E21
  have f28 := f14.ext o27.2
  obtain ⟨cqq31, kqq31, qq31a, qq31b, qq31c⟩ := isOf hZ21 e21 f26
  obtain ⟨_, T30, Lc30, X30, hQ30, st30⟩ := own_fin (X21.virtualBack hx (y := mN1) (z := mN1) ho21 (mvT hZ21 (w 106 rfl)) (mvT hZ21 (w 62 rfl)) (notFace_of_selects (args := #[]) (mvT hZ21 (w 64 rfl))) (mvT hZ21 (w 64 rfl)) (mvT hZ21 (w 63 rfl)) (by decide) (own_strEq hZ21 hw (w 5 rfl) (bs := t4) f26 f24 f23 f25 hc12 hc13 (ds := [(117 : Int32), (51 : Int32), (50 : Int32)]) EE21 F21 C21 V21 (own_ofLen (n := 3) (by decide) rfl) (Nat.le_of_ble_eq_true rfl) f28 hc17 (r := 0) (n0 := n0) (Or.inr ⟨rfl, hc29⟩) (by decide) (by decide : 0 + 28 ≤ _)) qq31a qq31c (g := (mkF m 16 #[lR r0] [(.ref a21), (.ref r0)])) rfl (by rw [hml]; rfl) (Steps.refl _) (argsL := [(.ref a21)]) (rest := []) (lenOf pd__Ljava_lang_Object__Z rfl) rfl (own_W rfl) (hb hby d19_16) (fun _ _ => ⟨rfl, e21, (by decide : 4 + 0 ≤ _), (by decide : 32 + 0 ≤ _)⟩))
  obtain ⟨rfl, N30q, E30⟩ := hQ30
  have N30 := Fr.app N19 N30q
  obtain ⟨a32, T32, h32, kk32, b32, k32, X32, e32, E32, hS32, hk32, hZ32, ho32, EE32, C32, F32, V32, l32, m32, CR32, -, ne32, st32⟩ := ldcCH (s := s) (vm0 := T21.vm) X30 hx hZ21 ho21 (w 108 rfl) hstr E30 hS21 hk21 hEL (by simp [consts_1]) R22.1 (vs := [vI102, vI51, vI50]) (z := (3 : Int32)) ⟨by decide, by decide⟩ (by decide) rfl (g := (mkF m 27 #[lR r0] [(.ref r0)])) rfl (hb hby d19_27) (n := 12) (by decide) (by decide) (by decide) (by decide)
  have R33 := CHr.trans R22 CR32
  have f34 := (f23.ext E32)
  have f35 := (f24.ext E32)
  have f36 := (f25.ext E32)
  have f37 := (f26.ext E32)
  have o38 := Old.ext o27 E32
  have f39 := f14.ext o38.2
  obtain ⟨cqq42, kqq42, qq42a, qq42b, qq42c⟩ := isOf hZ32 e32 f37
  obtain ⟨_, T41, Lc41, X41, hQ41, st41⟩ := own_fin (X32.virtualBack hx (y := mN1) (z := mN1) ho32 (mvT hZ32 (w 106 rfl)) (mvT hZ32 (w 62 rfl)) (notFace_of_selects (args := #[]) (mvT hZ32 (w 64 rfl))) (mvT hZ32 (w 64 rfl)) (mvT hZ32 (w 63 rfl)) (by decide) (own_strEq hZ32 hw (w 5 rfl) (bs := t4) f37 f35 f34 f36 hc12 hc13 (ds := [(102 : Int32), (51 : Int32), (50 : Int32)]) EE32 F32 C32 V32 (own_ofLen (n := 3) (by decide) rfl) (Nat.le_of_ble_eq_true rfl) f39 hc17 (r := 0) (n0 := n0) (Or.inr ⟨rfl, hc40⟩) (by decide) (by decide : 0 + 28 ≤ _)) qq42a qq42c (g := (mkF m 29 #[lR r0] [(.ref a32), (.ref r0)])) rfl (by rw [hml]; rfl) (Steps.refl _) (argsL := [(.ref a32)]) (rest := []) (lenOf pd__Ljava_lang_Object__Z rfl) rfl (own_W rfl) (hb hby d19_29) (fun _ _ => ⟨rfl, e32, (by decide : 6 + 0 ≤ _), (by decide : 48 + 0 ≤ _)⟩))
  obtain ⟨rfl, N41q, E41⟩ := hQ41
  have N41 := Fr.app N30 N41q
  obtain ⟨a43, T43, h43, kk43, b43, k43, X43, e43, E43, hS43, hk43, hZ43, ho43, EE43, C43, F43, V43, l43, m43, CR43, -, ne43, st43⟩ := ldcCH (s := s) (vm0 := T32.vm) X41 hx hZ32 ho32 (w 109 rfl) hstr E41 hS32 hk32 hEL (by simp [consts_1]) R33.1 (vs := [vI102, vI54, vI52]) (z := (3 : Int32)) ⟨by decide, by decide⟩ (by decide) rfl (g := (mkF m 40 #[lR r0] [(.ref r0)])) rfl (hb hby d19_40) (n := 12) (by decide) (by decide) (by decide) (by decide)
  have R44 := CHr.trans R33 CR43
  have f45 := (f34.ext E43)
  have f46 := (f35.ext E43)
  have f47 := (f36.ext E43)
  have f48 := (f37.ext E43)
  have o49 := Old.ext o38 E43
  have f50 := f14.ext o49.2
  obtain ⟨cqq53, kqq53, qq53a, qq53b, qq53c⟩ := isOf hZ43 e43 f48
  obtain ⟨_, T52, Lc52, X52, hQ52, st52⟩ := own_fin (X43.virtualBack hx (y := mN1) (z := mN1) ho43 (mvT hZ43 (w 106 rfl)) (mvT hZ43 (w 62 rfl)) (notFace_of_selects (args := #[]) (mvT hZ43 (w 64 rfl))) (mvT hZ43 (w 64 rfl)) (mvT hZ43 (w 63 rfl)) (by decide) (own_strEq hZ43 hw (w 5 rfl) (bs := t4) f48 f46 f45 f47 hc12 hc13 (ds := [(102 : Int32), (54 : Int32), (52 : Int32)]) EE43 F43 C43 V43 (own_ofLen (n := 3) (by decide) rfl) (Nat.le_of_ble_eq_true rfl) f50 hc17 (r := 0) (n0 := n0) (Or.inr ⟨rfl, hc51⟩) (by decide) (by decide : 0 + 28 ≤ _)) qq53a qq53c (g := (mkF m 42 #[lR r0] [(.ref a43), (.ref r0)])) rfl (by rw [hml]; rfl) (Steps.refl _) (argsL := [(.ref a43)]) (rest := []) (lenOf pd__Ljava_lang_Object__Z rfl) rfl (own_W rfl) (hb hby d19_42) (fun _ _ => ⟨rfl, e43, (by decide : 8 + 0 ≤ _), (by decide : 64 + 0 ≤ _)⟩))
  obtain ⟨rfl, N52q, E52⟩ := hQ52
  have N52 := Fr.app N41 N52q
  obtain ⟨a54, T54, h54, kk54, b54, k54, X54, e54, E54, hS54, hk54, hZ54, ho54, EE54, C54, F54, V54, l54, m54, CR54, -, ne54, st54⟩ := ldcCH (s := s) (vm0 := T43.vm) X52 hx hZ43 ho43 (w 110 rfl) hstr E52 hS43 hk43 hEL (by simp [consts_1]) R44.1 (vs := [vI116, vI101, vI120, vI116]) (z := (4 : Int32)) ⟨by decide, by decide⟩ (by decide) rfl (g := (mkF m 53 #[lR r0] [(.ref r0)])) rfl (hb hby d19_53) (n := 16) (by decide) (by decide) (by decide) (by decide)
  have R55 := CHr.trans R44 CR54
  have f56 := (f45.ext E54)
  have f57 := (f46.ext E54)
  have f58 := (f47.ext E54)
  have f59 := (f48.ext E54)
  have o60 := Old.ext o49 E54
  have f61 := f14.ext o60.2
  obtain ⟨cqq64, kqq64, qq64a, qq64b, qq64c⟩ := isOf hZ54 e54 f59
  obtain ⟨_, T63, Lc63, X63, hQ63, st63⟩ := own_fin (X54.virtualBack hx (y := mN1) (z := mN1) ho54 (mvT hZ54 (w 106 rfl)) (mvT hZ54 (w 62 rfl)) (notFace_of_selects (args := #[]) (mvT hZ54 (w 64 rfl))) (mvT hZ54 (w 64 rfl)) (mvT hZ54 (w 63 rfl)) (by decide) (own_strEq hZ54 hw (w 5 rfl) (bs := t4) f59 f57 f56 f58 hc12 hc13 (ds := [(116 : Int32), (101 : Int32), (120 : Int32), (116 : Int32)]) EE54 F54 C54 V54 (own_ofLen (n := 4) (by decide) rfl) (Nat.le_of_ble_eq_true rfl) f61 hc17 (r := 1) (n0 := n0) (Or.inl ⟨rfl, hc62⟩) (by decide) (by decide : 0 + 28 ≤ _)) qq64a qq64c (g := (mkF m 55 #[lR r0] [(.ref a54), (.ref r0)])) rfl (by rw [hml]; rfl) (Steps.refl _) (argsL := [(.ref a54)]) (rest := []) (lenOf pd__Ljava_lang_Object__Z rfl) rfl (own_W rfl) (hb hby d19_55) (fun _ _ => ⟨rfl, e54, (by decide : 10 + 0 ≤ _), (by decide : 84 + 0 ≤ _)⟩))
  obtain ⟨rfl, N63q, E63⟩ := hQ63
  have N63 := Fr.app N52 N63q
  have f66 := f65.ext o60.2
  obtain ⟨T67, X67, e67, st67⟩ := getS2 X63 hx hZ54 ho54 (host := "") (Or.inl (w 117 rfl)) Via.refl E63 f66 (g := (mkF m 61 #[lR r0] [])) rfl (hb hby d19_61)
  have kp68 : Keep h0 h2 [] := (Keep.refl h0 []).ext E2
  have kp69 : Keep h0 h21 [] := kp68.ext E21
  have kp70 : Keep h0 h32 [] := kp69.ext E32
  have kp71 : Keep h0 h43 [] := kp70.ext E43
  have kp72 : Keep h0 h54 [] := kp71.ext E54
  refine ⟨some (.ref r6), _, _, _, _, _, _, _, nofun, X67, by decide, by decide, hS54, (by rw [e67]; exact hk54), hZ54, e67, R55, ?_, fun fs hr => ?_⟩
  · rw [e67]; exact ⟨rfl, N63, kp72⟩
  · show SG p e below s₁ (mkF m 0 #[lR r0] []) _
    refine qaN X0 hx hby d19_0 ?_
    refine st2 _ ?_
    show SG p e below T2 (mkF m 3 #[lR r0] [(.ref a2), (.ref r0)]) _
    refine st19.trans ?_
    show SG p e below T19 (mkF m 6 #[lR r0] [vI0]) _
    refine XS.ifYes X19.here hx rfl (pc0 := 6) (pc' := 13) rfl (hb hby d19_6) rfl ((if0 _ _).trans (teq (rfl : (0 : Int32) = (0 : Int32))).1) (by decide) (by decide) ?_
    show SG p e below T19 (mkF m 13 #[lR r0] []) _
    refine qaN X19 hx hby d19_13 ?_
    refine st21 _ ?_
    show SG p e below T21 (mkF m 16 #[lR r0] [(.ref a21), (.ref r0)]) _
    refine st30.trans ?_
    show SG p e below T30 (mkF m 19 #[lR r0] [vI0]) _
    refine XS.ifYes X30.here hx rfl (pc0 := 19) (pc' := 26) rfl (hb hby d19_19) rfl ((if0 _ _).trans (teq (rfl : (0 : Int32) = (0 : Int32))).1) (by decide) (by decide) ?_
    show SG p e below T30 (mkF m 26 #[lR r0] []) _
    refine qaN X30 hx hby d19_26 ?_
    refine st32 _ ?_
    show SG p e below T32 (mkF m 29 #[lR r0] [(.ref a32), (.ref r0)]) _
    refine st41.trans ?_
    show SG p e below T41 (mkF m 32 #[lR r0] [vI0]) _
    refine XS.ifYes X41.here hx rfl (pc0 := 32) (pc' := 39) rfl (hb hby d19_32) rfl ((if0 _ _).trans (teq (rfl : (0 : Int32) = (0 : Int32))).1) (by decide) (by decide) ?_
    show SG p e below T41 (mkF m 39 #[lR r0] []) _
    refine qaN X41 hx hby d19_39 ?_
    refine st43 _ ?_
    show SG p e below T43 (mkF m 42 #[lR r0] [(.ref a43), (.ref r0)]) _
    refine st52.trans ?_
    show SG p e below T52 (mkF m 45 #[lR r0] [vI0]) _
    refine XS.ifYes X52.here hx rfl (pc0 := 45) (pc' := 52) rfl (hb hby d19_45) rfl ((if0 _ _).trans (teq (rfl : (0 : Int32) = (0 : Int32))).1) (by decide) (by decide) ?_
    show SG p e below T52 (mkF m 52 #[lR r0] []) _
    refine qaN X52 hx hby d19_52 ?_
    refine st54 _ ?_
    show SG p e below T54 (mkF m 55 #[lR r0] [(.ref a54), (.ref r0)]) _
    refine st63.trans ?_
    show SG p e below T63 (mkF m 58 #[lR r0] [vI1]) _
    refine XS.ifNo X63.here hx rfl (hb hby d19_58) rfl ((if0 _ _).trans (feq (by decide : ¬ ((1 : Int32) = (0 : Int32)))).1) ?_
    refine st67 _ ?_
    show SG p e below T67 (mkF m 64 #[lR r0] [(.ref r6)]) _
    exact retOut X67 hx (i := .areturn) hret rfl (Or.inr (Or.inr (Or.inr (Or.inr ⟨rfl, rfl, rfl⟩)))) (hb hby d19_64) hr
theorem d19_65 : DK cB19 65 (.aload_n 0) 1 := by decide +kernel
theorem d19_66 : DK cB19 66 (.ldc 73) 2 := by decide +kernel
theorem d19_68 : DK cB19 68 (.invokevirtual 61) 3 := by decide +kernel
theorem d19_71 : DK cB19 71 (.ifCond .eq 7) 3 := by decide +kernel
theorem d19_74 : DK cB19 74 (.getstatic 56) 3 := by decide +kernel
theorem d19_77 : DK cB19 77 (.areturn) 1 := by decide +kernel
def Q19_6 (Z : State) (r0 r1 : Addr) (c2 : ClassId) (x3 : Int32) (t4 : List Int32) (x5 : Int32) (r6 : Addr) (h0 : Heap) (n0 : Nat) (v : Option Value) (h : Heap) (L : List Loc) : Prop := v = some (.ref r6) ∧ Fr n0 L ∧ Keep h0 h []
theorem rm19_6 (l : Launch) (Z : State) (a0 : Array Value) (hw : own_HW a0 Z) (ws : List Jvm.Cond) (r0 r1 : Addr) (c2 : ClassId) (x3 : Int32) (t4 : List Int32) (x5 : Int32) (r6 : Addr) (h0 : Heap) (n0 : Nat) (O0 : Old Z n0 h0) (f4 : Exa Z h0 r0 "java/lang/String") (f6 : Fld Z h0 r0 "java/lang/String" "coder" "B" vI0) (f8 : Fld Z h0 r0 "java/lang/String" "value" "[B" (.ref r1)) (f10 : Arv Z h0 r1 c2 .byte x3 (t4.map Value.int) vI0) (hc12 : x3 = Int32.ofNat t4.length) (hc13 : t4.length ≤ 4000) (f14 : Sta Z Z.heap "java/lang/String" "COMPACT_STRINGS" "Z" (.int x5)) (hc17 : ¬ (x5 = (0 : Int32))) (hc18 : ¬ (t4 = [(105 : Int32), (51 : Int32), (50 : Int32)])) (hc29 : ¬ (t4 = [(117 : Int32), (51 : Int32), (50 : Int32)])) (hc40 : ¬ (t4 = [(102 : Int32), (51 : Int32), (50 : Int32)])) (hc51 : ¬ (t4 = [(102 : Int32), (54 : Int32), (52 : Int32)])) (hc62 : ¬ (t4 = [(116 : Int32), (101 : Int32), (120 : Int32), (116 : Int32)])) (hc73 : t4 = [(103 : Int32), (117 : Int32), (105 : Int32), (100 : Int32)]) (f76 : Sta Z Z.heap cs0 "GUID" cs4 (.ref r6)) :
    own_MH l mN13 method_6_code 1 (some (.object cs0)) ws rR3_12_120_40 Z h0 #[(.ref r0)] (Q19_6 Z r0 r1 c2 x3 t4 x5 r6 h0 n0) := by
  have hEL : EW Z a0 consts_1 := own_EW hw
  refine own_openH hEL (plainFor_of_name pn_com_example_wiregather_wiregather_wire_FieldTypeOfLabelPinLaw) (L0 := #[lR r0]) (fun _ => by first | (simp [entryFrame, mkF, argsToLocals, Value.category]; done) | rfl) ?_
  intro p e s m below meth c s₁ hx hby hml hret hnn hZ hown X0 e0 R0
  have N0 := Fr.nil n0; have w := @ww Z a0 hw
  have hS1 := (State.WarmedH.refl s).since 0
  have hstr : ∀ a ∈ Bundle.stringAtoms, a.before a0 Z = true := fun a q => hw a (own_str a q)
  obtain ⟨a2, T2, h2, kk2, b2, k2, X2, e2, E2, hS2, hk2, hZ2, ho2, EE2, C2, F2, V2, l2, m2, CR2, -, ne2, st2⟩ := ldcCH (s := s) (vm0 := s.vm) X0 hx hZ hown (w 105 rfl) hstr e0 hS1 (Nat.zero_le _) hEL (by simp [consts_1]) R0.1 (vs := [vI105, vI51, vI50]) (z := (3 : Int32)) ⟨by decide, by decide⟩ (by decide) rfl (g := (mkF m 1 #[lR r0] [(.ref r0)])) rfl (hb hby d19_1) (n := 12) (by decide) (by decide) (by decide) (by decide)
  have R3 := CHr.trans R0 CR2
  have f5 := (f4.ext E2)
  have f7 := (f6.ext E2)
  have f9 := (f8.ext E2)
  have f11 := (f10.ext E2)
  have o15 := Old.ext O0 E2
  have f16 := f14.ext o15.2
  obtain ⟨cqq20, kqq20, qq20a, qq20b, qq20c⟩ := isOf hZ2 e2 f5
  obtain ⟨_, T19, Lc19, X19, hQ19, st19⟩ := own_fin (X2.virtualBack hx (y := mN1) (z := mN1) ho2 (mvT hZ2 (w 106 rfl)) (mvT hZ2 (w 62 rfl)) (notFace_of_selects (args := #[]) (mvT hZ2 (w 64 rfl))) (mvT hZ2 (w 64 rfl)) (mvT hZ2 (w 63 rfl)) (by decide) (own_strEq hZ2 hw (w 5 rfl) (bs := t4) f5 f9 f7 f11 hc12 hc13 (ds := [(105 : Int32), (51 : Int32), (50 : Int32)]) EE2 F2 C2 V2 (own_ofLen (n := 3) (by decide) rfl) (Nat.le_of_ble_eq_true rfl) f16 hc17 (r := 0) (n0 := n0) (Or.inr ⟨rfl, hc18⟩) (by decide) (by decide : 0 + 28 ≤ _)) qq20a qq20c (g := (mkF m 3 #[lR r0] [(.ref a2), (.ref r0)])) rfl (by rw [hml]; rfl) (Steps.refl _) (argsL := [(.ref a2)]) (rest := []) (lenOf pd__Ljava_lang_Object__Z rfl) rfl (own_W rfl) (hb hby d19_3) (fun _ _ => ⟨rfl, e2, (by decide : 2 + 0 ≤ _), (by decide : 16 + 0 ≤ _)⟩))
  obtain ⟨rfl, N19q, E19⟩ := hQ19
  have N19 := Fr.app N0 N19q
  obtain ⟨a21, T21, h21, kk21, b21, k21, X21, e21, E21, hS21, hk21, hZ21, ho21, EE21, C21, F21, V21, l21, m21, CR21, -, ne21, st21⟩ := ldcCH (s := s) (vm0 := T2.vm) X19 hx hZ2 ho2 (w 107 rfl) hstr E19 hS2 hk2 hEL (by simp [consts_1]) R3.1 (vs := [vI117, vI51, vI50]) (z := (3 : Int32)) ⟨by decide, by decide⟩ (by decide) rfl (g := (mkF m 14 #[lR r0] [(.ref r0)])) rfl (hb hby d19_14) (n := 12) (by decide) (by decide) (by decide) (by decide)
  have R22 := CHr.trans R3 CR21
  have f23 := (f7.ext E21)
  have f24 := (f9.ext E21)
  have f25 := (f11.ext E21)
  have f26 := (f5.ext E21)
  have o27 := Old.ext o15 E21
  have f28 := f14.ext o27.2
  obtain ⟨cqq31, kqq31, qq31a, qq31b, qq31c⟩ := isOf hZ21 e21 f26
  obtain ⟨_, T30, Lc30, X30, hQ30, st30⟩ := own_fin (X21.virtualBack hx (y := mN1) (z := mN1) ho21 (mvT hZ21 (w 106 rfl)) (mvT hZ21 (w 62 rfl)) (notFace_of_selects (args := #[]) (mvT hZ21 (w 64 rfl))) (mvT hZ21 (w 64 rfl)) (mvT hZ21 (w 63 rfl)) (by decide) (own_strEq hZ21 hw (w 5 rfl) (bs := t4) f26 f24 f23 f25 hc12 hc13 (ds := [(117 : Int32), (51 : Int32), (50 : Int32)]) EE21 F21 C21 V21 (own_ofLen (n := 3) (by decide) rfl) (Nat.le_of_ble_eq_true rfl) f28 hc17 (r := 0) (n0 := n0) (Or.inr ⟨rfl, hc29⟩) (by decide) (by decide : 0 + 28 ≤ _)) qq31a qq31c (g := (mkF m 16 #[lR r0] [(.ref a21), (.ref r0)])) rfl (by rw [hml]; rfl) (Steps.refl _) (argsL := [(.ref a21)]) (rest := []) (lenOf pd__Ljava_lang_Object__Z rfl) rfl (own_W rfl) (hb hby d19_16) (fun _ _ => ⟨rfl, e21, (by decide : 4 + 0 ≤ _), (by decide : 32 + 0 ≤ _)⟩))
  obtain ⟨rfl, N30q, E30⟩ := hQ30
  have N30 := Fr.app N19 N30q
  obtain ⟨a32, T32, h32, kk32, b32, k32, X32, e32, E32, hS32, hk32, hZ32, ho32, EE32, C32, F32, V32, l32, m32, CR32, -, ne32, st32⟩ := ldcCH (s := s) (vm0 := T21.vm) X30 hx hZ21 ho21 (w 108 rfl) hstr E30 hS21 hk21 hEL (by simp [consts_1]) R22.1 (vs := [vI102, vI51, vI50]) (z := (3 : Int32)) ⟨by decide, by decide⟩ (by decide) rfl (g := (mkF m 27 #[lR r0] [(.ref r0)])) rfl (hb hby d19_27) (n := 12) (by decide) (by decide) (by decide) (by decide)
  have R33 := CHr.trans R22 CR32
  have f34 := (f23.ext E32)
  have f35 := (f24.ext E32)
  have f36 := (f25.ext E32)
  have f37 := (f26.ext E32)
  have o38 := Old.ext o27 E32
  have f39 := f14.ext o38.2
  obtain ⟨cqq42, kqq42, qq42a, qq42b, qq42c⟩ := isOf hZ32 e32 f37
  obtain ⟨_, T41, Lc41, X41, hQ41, st41⟩ := own_fin (X32.virtualBack hx (y := mN1) (z := mN1) ho32 (mvT hZ32 (w 106 rfl)) (mvT hZ32 (w 62 rfl)) (notFace_of_selects (args := #[]) (mvT hZ32 (w 64 rfl))) (mvT hZ32 (w 64 rfl)) (mvT hZ32 (w 63 rfl)) (by decide) (own_strEq hZ32 hw (w 5 rfl) (bs := t4) f37 f35 f34 f36 hc12 hc13 (ds := [(102 : Int32), (51 : Int32), (50 : Int32)]) EE32 F32 C32 V32 (own_ofLen (n := 3) (by decide) rfl) (Nat.le_of_ble_eq_true rfl) f39 hc17 (r := 0) (n0 := n0) (Or.inr ⟨rfl, hc40⟩) (by decide) (by decide : 0 + 28 ≤ _)) qq42a qq42c (g := (mkF m 29 #[lR r0] [(.ref a32), (.ref r0)])) rfl (by rw [hml]; rfl) (Steps.refl _) (argsL := [(.ref a32)]) (rest := []) (lenOf pd__Ljava_lang_Object__Z rfl) rfl (own_W rfl) (hb hby d19_29) (fun _ _ => ⟨rfl, e32, (by decide : 6 + 0 ≤ _), (by decide : 48 + 0 ≤ _)⟩))
  obtain ⟨rfl, N41q, E41⟩ := hQ41
  have N41 := Fr.app N30 N41q
  obtain ⟨a43, T43, h43, kk43, b43, k43, X43, e43, E43, hS43, hk43, hZ43, ho43, EE43, C43, F43, V43, l43, m43, CR43, -, ne43, st43⟩ := ldcCH (s := s) (vm0 := T32.vm) X41 hx hZ32 ho32 (w 109 rfl) hstr E41 hS32 hk32 hEL (by simp [consts_1]) R33.1 (vs := [vI102, vI54, vI52]) (z := (3 : Int32)) ⟨by decide, by decide⟩ (by decide) rfl (g := (mkF m 40 #[lR r0] [(.ref r0)])) rfl (hb hby d19_40) (n := 12) (by decide) (by decide) (by decide) (by decide)
  have R44 := CHr.trans R33 CR43
  have f45 := (f34.ext E43)
  have f46 := (f35.ext E43)
  have f47 := (f36.ext E43)
  have f48 := (f37.ext E43)
  have o49 := Old.ext o38 E43
  have f50 := f14.ext o49.2
  obtain ⟨cqq53, kqq53, qq53a, qq53b, qq53c⟩ := isOf hZ43 e43 f48
  obtain ⟨_, T52, Lc52, X52, hQ52, st52⟩ := own_fin (X43.virtualBack hx (y := mN1) (z := mN1) ho43 (mvT hZ43 (w 106 rfl)) (mvT hZ43 (w 62 rfl)) (notFace_of_selects (args := #[]) (mvT hZ43 (w 64 rfl))) (mvT hZ43 (w 64 rfl)) (mvT hZ43 (w 63 rfl)) (by decide) (own_strEq hZ43 hw (w 5 rfl) (bs := t4) f48 f46 f45 f47 hc12 hc13 (ds := [(102 : Int32), (54 : Int32), (52 : Int32)]) EE43 F43 C43 V43 (own_ofLen (n := 3) (by decide) rfl) (Nat.le_of_ble_eq_true rfl) f50 hc17 (r := 0) (n0 := n0) (Or.inr ⟨rfl, hc51⟩) (by decide) (by decide : 0 + 28 ≤ _)) qq53a qq53c (g := (mkF m 42 #[lR r0] [(.ref a43), (.ref r0)])) rfl (by rw [hml]; rfl) (Steps.refl _) (argsL := [(.ref a43)]) (rest := []) (lenOf pd__Ljava_lang_Object__Z rfl) rfl (own_W rfl) (hb hby d19_42) (fun _ _ => ⟨rfl, e43, (by decide : 8 + 0 ≤ _), (by decide : 64 + 0 ≤ _)⟩))
  obtain ⟨rfl, N52q, E52⟩ := hQ52
  have N52 := Fr.app N41 N52q
  obtain ⟨a54, T54, h54, kk54, b54, k54, X54, e54, E54, hS54, hk54, hZ54, ho54, EE54, C54, F54, V54, l54, m54, CR54, -, ne54, st54⟩ := ldcCH (s := s) (vm0 := T43.vm) X52 hx hZ43 ho43 (w 110 rfl) hstr E52 hS43 hk43 hEL (by simp [consts_1]) R44.1 (vs := [vI116, vI101, vI120, vI116]) (z := (4 : Int32)) ⟨by decide, by decide⟩ (by decide) rfl (g := (mkF m 53 #[lR r0] [(.ref r0)])) rfl (hb hby d19_53) (n := 16) (by decide) (by decide) (by decide) (by decide)
  have R55 := CHr.trans R44 CR54
  have f56 := (f45.ext E54)
  have f57 := (f46.ext E54)
  have f58 := (f47.ext E54)
  have f59 := (f48.ext E54)
  have o60 := Old.ext o49 E54
  have f61 := f14.ext o60.2
  obtain ⟨cqq64, kqq64, qq64a, qq64b, qq64c⟩ := isOf hZ54 e54 f59
  obtain ⟨_, T63, Lc63, X63, hQ63, st63⟩ := own_fin (X54.virtualBack hx (y := mN1) (z := mN1) ho54 (mvT hZ54 (w 106 rfl)) (mvT hZ54 (w 62 rfl)) (notFace_of_selects (args := #[]) (mvT hZ54 (w 64 rfl))) (mvT hZ54 (w 64 rfl)) (mvT hZ54 (w 63 rfl)) (by decide) (own_strEq hZ54 hw (w 5 rfl) (bs := t4) f59 f57 f56 f58 hc12 hc13 (ds := [(116 : Int32), (101 : Int32), (120 : Int32), (116 : Int32)]) EE54 F54 C54 V54 (own_ofLen (n := 4) (by decide) rfl) (Nat.le_of_ble_eq_true rfl) f61 hc17 (r := 0) (n0 := n0) (Or.inr ⟨rfl, hc62⟩) (by decide) (by decide : 0 + 28 ≤ _)) qq64a qq64c (g := (mkF m 55 #[lR r0] [(.ref a54), (.ref r0)])) rfl (by rw [hml]; rfl) (Steps.refl _) (argsL := [(.ref a54)]) (rest := []) (lenOf pd__Ljava_lang_Object__Z rfl) rfl (own_W rfl) (hb hby d19_55) (fun _ _ => ⟨rfl, e54, (by decide : 10 + 0 ≤ _), (by decide : 84 + 0 ≤ _)⟩))
  obtain ⟨rfl, N63q, E63⟩ := hQ63
  have N63 := Fr.app N52 N63q
  obtain ⟨a65, T65, h65, kk65, b65, k65, X65, e65, E65, hS65, hk65, hZ65, ho65, EE65, C65, F65, V65, l65, m65, CR65, -, ne65, st65⟩ := ldcCH (s := s) (vm0 := T54.vm) X63 hx hZ54 ho54 (w 111 rfl) hstr E63 hS54 hk54 hEL (by simp [consts_1]) R55.1 (vs := [vI103, vI117, vI105, vI100]) (z := (4 : Int32)) ⟨by decide, by decide⟩ (by decide) rfl (g := (mkF m 66 #[lR r0] [(.ref r0)])) rfl (hb hby d19_66) (n := 16) (by decide) (by decide) (by decide) (by decide)
  have R66 := CHr.trans R55 CR65
  have f67 := (f56.ext E65)
  have f68 := (f57.ext E65)
  have f69 := (f58.ext E65)
  have f70 := (f59.ext E65)
  have o71 := Old.ext o60 E65
  have f72 := f14.ext o71.2
  obtain ⟨cqq75, kqq75, qq75a, qq75b, qq75c⟩ := isOf hZ65 e65 f70
  obtain ⟨_, T74, Lc74, X74, hQ74, st74⟩ := own_fin (X65.virtualBack hx (y := mN1) (z := mN1) ho65 (mvT hZ65 (w 106 rfl)) (mvT hZ65 (w 62 rfl)) (notFace_of_selects (args := #[]) (mvT hZ65 (w 64 rfl))) (mvT hZ65 (w 64 rfl)) (mvT hZ65 (w 63 rfl)) (by decide) (own_strEq hZ65 hw (w 5 rfl) (bs := t4) f70 f68 f67 f69 hc12 hc13 (ds := [(103 : Int32), (117 : Int32), (105 : Int32), (100 : Int32)]) EE65 F65 C65 V65 (own_ofLen (n := 4) (by decide) rfl) (Nat.le_of_ble_eq_true rfl) f72 hc17 (r := 1) (n0 := n0) (Or.inl ⟨rfl, hc73⟩) (by decide) (by decide : 0 + 28 ≤ _)) qq75a qq75c (g := (mkF m 68 #[lR r0] [(.ref a65), (.ref r0)])) rfl (by rw [hml]; rfl) (Steps.refl _) (argsL := [(.ref a65)]) (rest := []) (lenOf pd__Ljava_lang_Object__Z rfl) rfl (own_W rfl) (hb hby d19_68) (fun _ _ => ⟨rfl, e65, (by decide : 12 + 0 ≤ _), (by decide : 104 + 0 ≤ _)⟩))
  obtain ⟨rfl, N74q, E74⟩ := hQ74
  have N74 := Fr.app N63 N74q
  have f77 := f76.ext o71.2
  obtain ⟨T78, X78, e78, st78⟩ := getS2 X74 hx hZ65 ho65 (host := "") (Or.inl (w 116 rfl)) Via.refl E74 f77 (g := (mkF m 74 #[lR r0] [])) rfl (hb hby d19_74)
  have kp79 : Keep h0 h2 [] := (Keep.refl h0 []).ext E2
  have kp80 : Keep h0 h21 [] := kp79.ext E21
  have kp81 : Keep h0 h32 [] := kp80.ext E32
  have kp82 : Keep h0 h43 [] := kp81.ext E43
  have kp83 : Keep h0 h54 [] := kp82.ext E54
  have kp84 : Keep h0 h65 [] := kp83.ext E65
  refine ⟨some (.ref r6), _, _, _, _, _, _, _, nofun, X78, by decide, by decide, hS65, (by rw [e78]; exact hk65), hZ65, e78, R66, ?_, fun fs hr => ?_⟩
  · rw [e78]; exact ⟨rfl, N74, kp84⟩
  · show SG p e below s₁ (mkF m 0 #[lR r0] []) _
    refine qaN X0 hx hby d19_0 ?_
    refine st2 _ ?_
    show SG p e below T2 (mkF m 3 #[lR r0] [(.ref a2), (.ref r0)]) _
    refine st19.trans ?_
    show SG p e below T19 (mkF m 6 #[lR r0] [vI0]) _
    refine XS.ifYes X19.here hx rfl (pc0 := 6) (pc' := 13) rfl (hb hby d19_6) rfl ((if0 _ _).trans (teq (rfl : (0 : Int32) = (0 : Int32))).1) (by decide) (by decide) ?_
    show SG p e below T19 (mkF m 13 #[lR r0] []) _
    refine qaN X19 hx hby d19_13 ?_
    refine st21 _ ?_
    show SG p e below T21 (mkF m 16 #[lR r0] [(.ref a21), (.ref r0)]) _
    refine st30.trans ?_
    show SG p e below T30 (mkF m 19 #[lR r0] [vI0]) _
    refine XS.ifYes X30.here hx rfl (pc0 := 19) (pc' := 26) rfl (hb hby d19_19) rfl ((if0 _ _).trans (teq (rfl : (0 : Int32) = (0 : Int32))).1) (by decide) (by decide) ?_
    show SG p e below T30 (mkF m 26 #[lR r0] []) _
    refine qaN X30 hx hby d19_26 ?_
    refine st32 _ ?_
    show SG p e below T32 (mkF m 29 #[lR r0] [(.ref a32), (.ref r0)]) _
    refine st41.trans ?_
    show SG p e below T41 (mkF m 32 #[lR r0] [vI0]) _
    refine XS.ifYes X41.here hx rfl (pc0 := 32) (pc' := 39) rfl (hb hby d19_32) rfl ((if0 _ _).trans (teq (rfl : (0 : Int32) = (0 : Int32))).1) (by decide) (by decide) ?_
    show SG p e below T41 (mkF m 39 #[lR r0] []) _
    refine qaN X41 hx hby d19_39 ?_
    refine st43 _ ?_
    show SG p e below T43 (mkF m 42 #[lR r0] [(.ref a43), (.ref r0)]) _
    refine st52.trans ?_
    show SG p e below T52 (mkF m 45 #[lR r0] [vI0]) _
    refine XS.ifYes X52.here hx rfl (pc0 := 45) (pc' := 52) rfl (hb hby d19_45) rfl ((if0 _ _).trans (teq (rfl : (0 : Int32) = (0 : Int32))).1) (by decide) (by decide) ?_
    show SG p e below T52 (mkF m 52 #[lR r0] []) _
    refine qaN X52 hx hby d19_52 ?_
    refine st54 _ ?_
    show SG p e below T54 (mkF m 55 #[lR r0] [(.ref a54), (.ref r0)]) _
    refine st63.trans ?_
    show SG p e below T63 (mkF m 58 #[lR r0] [vI0]) _
    refine XS.ifYes X63.here hx rfl (pc0 := 58) (pc' := 65) rfl (hb hby d19_58) rfl ((if0 _ _).trans (teq (rfl : (0 : Int32) = (0 : Int32))).1) (by decide) (by decide) ?_
    show SG p e below T63 (mkF m 65 #[lR r0] []) _
    refine qaN X63 hx hby d19_65 ?_
    refine st65 _ ?_
    show SG p e below T65 (mkF m 68 #[lR r0] [(.ref a65), (.ref r0)]) _
    refine st74.trans ?_
    show SG p e below T74 (mkF m 71 #[lR r0] [vI1]) _
    refine XS.ifNo X74.here hx rfl (hb hby d19_71) rfl ((if0 _ _).trans (feq (by decide : ¬ ((1 : Int32) = (0 : Int32)))).1) ?_
    refine st78 _ ?_
    show SG p e below T78 (mkF m 77 #[lR r0] [(.ref r6)]) _
    exact retOut X78 hx (i := .areturn) hret rfl (Or.inr (Or.inr (Or.inr (Or.inr ⟨rfl, rfl, rfl⟩)))) (hb hby d19_77) hr
theorem d19_78 : DK cB19 78 (.aconst_null) 1 := by decide +kernel
theorem d19_79 : DK cB19 79 (.areturn) 1 := by decide +kernel
def Q19_7 (Z : State) (r0 r1 : Addr) (c2 : ClassId) (x3 : Int32) (t4 : List Int32) (x5 : Int32) (h0 : Heap) (n0 : Nat) (v : Option Value) (h : Heap) (L : List Loc) : Prop := v = some .null ∧ Fr n0 L ∧ Keep h0 h []
theorem rm19_7 (l : Launch) (Z : State) (a0 : Array Value) (hw : own_HW a0 Z) (ws : List Jvm.Cond) (r0 r1 : Addr) (c2 : ClassId) (x3 : Int32) (t4 : List Int32) (x5 : Int32) (h0 : Heap) (n0 : Nat) (O0 : Old Z n0 h0) (f4 : Exa Z h0 r0 "java/lang/String") (f6 : Fld Z h0 r0 "java/lang/String" "coder" "B" vI0) (f8 : Fld Z h0 r0 "java/lang/String" "value" "[B" (.ref r1)) (f10 : Arv Z h0 r1 c2 .byte x3 (t4.map Value.int) vI0) (hc12 : x3 = Int32.ofNat t4.length) (hc13 : t4.length ≤ 4000) (f14 : Sta Z Z.heap "java/lang/String" "COMPACT_STRINGS" "Z" (.int x5)) (hc17 : ¬ (x5 = (0 : Int32))) (hc18 : ¬ (t4 = [(105 : Int32), (51 : Int32), (50 : Int32)])) (hc29 : ¬ (t4 = [(117 : Int32), (51 : Int32), (50 : Int32)])) (hc40 : ¬ (t4 = [(102 : Int32), (51 : Int32), (50 : Int32)])) (hc51 : ¬ (t4 = [(102 : Int32), (54 : Int32), (52 : Int32)])) (hc62 : ¬ (t4 = [(116 : Int32), (101 : Int32), (120 : Int32), (116 : Int32)])) (hc73 : ¬ (t4 = [(103 : Int32), (117 : Int32), (105 : Int32), (100 : Int32)])) :
    own_MH l mN13 method_6_code 1 (some (.object cs0)) ws rR3_12_120_40 Z h0 #[(.ref r0)] (Q19_7 Z r0 r1 c2 x3 t4 x5 h0 n0) := by
  have hEL : EW Z a0 consts_1 := own_EW hw
  refine own_openH hEL (plainFor_of_name pn_com_example_wiregather_wiregather_wire_FieldTypeOfLabelPinLaw) (L0 := #[lR r0]) (fun _ => by first | (simp [entryFrame, mkF, argsToLocals, Value.category]; done) | rfl) ?_
  intro p e s m below meth c s₁ hx hby hml hret hnn hZ hown X0 e0 R0
  have N0 := Fr.nil n0; have w := @ww Z a0 hw
  have hS1 := (State.WarmedH.refl s).since 0
  have hstr : ∀ a ∈ Bundle.stringAtoms, a.before a0 Z = true := fun a q => hw a (own_str a q)
  obtain ⟨a2, T2, h2, kk2, b2, k2, X2, e2, E2, hS2, hk2, hZ2, ho2, EE2, C2, F2, V2, l2, m2, CR2, -, ne2, st2⟩ := ldcCH (s := s) (vm0 := s.vm) X0 hx hZ hown (w 105 rfl) hstr e0 hS1 (Nat.zero_le _) hEL (by simp [consts_1]) R0.1 (vs := [vI105, vI51, vI50]) (z := (3 : Int32)) ⟨by decide, by decide⟩ (by decide) rfl (g := (mkF m 1 #[lR r0] [(.ref r0)])) rfl (hb hby d19_1) (n := 12) (by decide) (by decide) (by decide) (by decide)
  have R3 := CHr.trans R0 CR2
  have f5 := (f4.ext E2)
  have f7 := (f6.ext E2)
  have f9 := (f8.ext E2)
  have f11 := (f10.ext E2)
  have o15 := Old.ext O0 E2
  have f16 := f14.ext o15.2
  obtain ⟨cqq20, kqq20, qq20a, qq20b, qq20c⟩ := isOf hZ2 e2 f5
  obtain ⟨_, T19, Lc19, X19, hQ19, st19⟩ := own_fin (X2.virtualBack hx (y := mN1) (z := mN1) ho2 (mvT hZ2 (w 106 rfl)) (mvT hZ2 (w 62 rfl)) (notFace_of_selects (args := #[]) (mvT hZ2 (w 64 rfl))) (mvT hZ2 (w 64 rfl)) (mvT hZ2 (w 63 rfl)) (by decide) (own_strEq hZ2 hw (w 5 rfl) (bs := t4) f5 f9 f7 f11 hc12 hc13 (ds := [(105 : Int32), (51 : Int32), (50 : Int32)]) EE2 F2 C2 V2 (own_ofLen (n := 3) (by decide) rfl) (Nat.le_of_ble_eq_true rfl) f16 hc17 (r := 0) (n0 := n0) (Or.inr ⟨rfl, hc18⟩) (by decide) (by decide : 0 + 28 ≤ _)) qq20a qq20c (g := (mkF m 3 #[lR r0] [(.ref a2), (.ref r0)])) rfl (by rw [hml]; rfl) (Steps.refl _) (argsL := [(.ref a2)]) (rest := []) (lenOf pd__Ljava_lang_Object__Z rfl) rfl (own_W rfl) (hb hby d19_3) (fun _ _ => ⟨rfl, e2, (by decide : 2 + 0 ≤ _), (by decide : 16 + 0 ≤ _)⟩))
  obtain ⟨rfl, N19q, E19⟩ := hQ19
  have N19 := Fr.app N0 N19q
  obtain ⟨a21, T21, h21, kk21, b21, k21, X21, e21, E21, hS21, hk21, hZ21, ho21, EE21, C21, F21, V21, l21, m21, CR21, -, ne21, st21⟩ := ldcCH (s := s) (vm0 := T2.vm) X19 hx hZ2 ho2 (w 107 rfl) hstr E19 hS2 hk2 hEL (by simp [consts_1]) R3.1 (vs := [vI117, vI51, vI50]) (z := (3 : Int32)) ⟨by decide, by decide⟩ (by decide) rfl (g := (mkF m 14 #[lR r0] [(.ref r0)])) rfl (hb hby d19_14) (n := 12) (by decide) (by decide) (by decide) (by decide)
  have R22 := CHr.trans R3 CR21
  have f23 := (f7.ext E21)
  have f24 := (f9.ext E21)
  have f25 := (f11.ext E21)
  have f26 := (f5.ext E21)
  have o27 := Old.ext o15 E21
  have f28 := f14.ext o27.2
  obtain ⟨cqq31, kqq31, qq31a, qq31b, qq31c⟩ := isOf hZ21 e21 f26
  obtain ⟨_, T30, Lc30, X30, hQ30, st30⟩ := own_fin (X21.virtualBack hx (y := mN1) (z := mN1) ho21 (mvT hZ21 (w 106 rfl)) (mvT hZ21 (w 62 rfl)) (notFace_of_selects (args := #[]) (mvT hZ21 (w 64 rfl))) (mvT hZ21 (w 64 rfl)) (mvT hZ21 (w 63 rfl)) (by decide) (own_strEq hZ21 hw (w 5 rfl) (bs := t4) f26 f24 f23 f25 hc12 hc13 (ds := [(117 : Int32), (51 : Int32), (50 : Int32)]) EE21 F21 C21 V21 (own_ofLen (n := 3) (by decide) rfl) (Nat.le_of_ble_eq_true rfl) f28 hc17 (r := 0) (n0 := n0) (Or.inr ⟨rfl, hc29⟩) (by decide) (by decide : 0 + 28 ≤ _)) qq31a qq31c (g := (mkF m 16 #[lR r0] [(.ref a21), (.ref r0)])) rfl (by rw [hml]; rfl) (Steps.refl _) (argsL := [(.ref a21)]) (rest := []) (lenOf pd__Ljava_lang_Object__Z rfl) rfl (own_W rfl) (hb hby d19_16) (fun _ _ => ⟨rfl, e21, (by decide : 4 + 0 ≤ _), (by decide : 32 + 0 ≤ _)⟩))
  obtain ⟨rfl, N30q, E30⟩ := hQ30
  have N30 := Fr.app N19 N30q
  obtain ⟨a32, T32, h32, kk32, b32, k32, X32, e32, E32, hS32, hk32, hZ32, ho32, EE32, C32, F32, V32, l32, m32, CR32, -, ne32, st32⟩ := ldcCH (s := s) (vm0 := T21.vm) X30 hx hZ21 ho21 (w 108 rfl) hstr E30 hS21 hk21 hEL (by simp [consts_1]) R22.1 (vs := [vI102, vI51, vI50]) (z := (3 : Int32)) ⟨by decide, by decide⟩ (by decide) rfl (g := (mkF m 27 #[lR r0] [(.ref r0)])) rfl (hb hby d19_27) (n := 12) (by decide) (by decide) (by decide) (by decide)
  have R33 := CHr.trans R22 CR32
  have f34 := (f23.ext E32)
  have f35 := (f24.ext E32)
  have f36 := (f25.ext E32)
  have f37 := (f26.ext E32)
  have o38 := Old.ext o27 E32
  have f39 := f14.ext o38.2
  obtain ⟨cqq42, kqq42, qq42a, qq42b, qq42c⟩ := isOf hZ32 e32 f37
  obtain ⟨_, T41, Lc41, X41, hQ41, st41⟩ := own_fin (X32.virtualBack hx (y := mN1) (z := mN1) ho32 (mvT hZ32 (w 106 rfl)) (mvT hZ32 (w 62 rfl)) (notFace_of_selects (args := #[]) (mvT hZ32 (w 64 rfl))) (mvT hZ32 (w 64 rfl)) (mvT hZ32 (w 63 rfl)) (by decide) (own_strEq hZ32 hw (w 5 rfl) (bs := t4) f37 f35 f34 f36 hc12 hc13 (ds := [(102 : Int32), (51 : Int32), (50 : Int32)]) EE32 F32 C32 V32 (own_ofLen (n := 3) (by decide) rfl) (Nat.le_of_ble_eq_true rfl) f39 hc17 (r := 0) (n0 := n0) (Or.inr ⟨rfl, hc40⟩) (by decide) (by decide : 0 + 28 ≤ _)) qq42a qq42c (g := (mkF m 29 #[lR r0] [(.ref a32), (.ref r0)])) rfl (by rw [hml]; rfl) (Steps.refl _) (argsL := [(.ref a32)]) (rest := []) (lenOf pd__Ljava_lang_Object__Z rfl) rfl (own_W rfl) (hb hby d19_29) (fun _ _ => ⟨rfl, e32, (by decide : 6 + 0 ≤ _), (by decide : 48 + 0 ≤ _)⟩))
  obtain ⟨rfl, N41q, E41⟩ := hQ41
  have N41 := Fr.app N30 N41q
  obtain ⟨a43, T43, h43, kk43, b43, k43, X43, e43, E43, hS43, hk43, hZ43, ho43, EE43, C43, F43, V43, l43, m43, CR43, -, ne43, st43⟩ := ldcCH (s := s) (vm0 := T32.vm) X41 hx hZ32 ho32 (w 109 rfl) hstr E41 hS32 hk32 hEL (by simp [consts_1]) R33.1 (vs := [vI102, vI54, vI52]) (z := (3 : Int32)) ⟨by decide, by decide⟩ (by decide) rfl (g := (mkF m 40 #[lR r0] [(.ref r0)])) rfl (hb hby d19_40) (n := 12) (by decide) (by decide) (by decide) (by decide)
  have R44 := CHr.trans R33 CR43
  have f45 := (f34.ext E43)
  have f46 := (f35.ext E43)
  have f47 := (f36.ext E43)
  have f48 := (f37.ext E43)
  have o49 := Old.ext o38 E43
  have f50 := f14.ext o49.2
  obtain ⟨cqq53, kqq53, qq53a, qq53b, qq53c⟩ := isOf hZ43 e43 f48
  obtain ⟨_, T52, Lc52, X52, hQ52, st52⟩ := own_fin (X43.virtualBack hx (y := mN1) (z := mN1) ho43 (mvT hZ43 (w 106 rfl)) (mvT hZ43 (w 62 rfl)) (notFace_of_selects (args := #[]) (mvT hZ43 (w 64 rfl))) (mvT hZ43 (w 64 rfl)) (mvT hZ43 (w 63 rfl)) (by decide) (own_strEq hZ43 hw (w 5 rfl) (bs := t4) f48 f46 f45 f47 hc12 hc13 (ds := [(102 : Int32), (54 : Int32), (52 : Int32)]) EE43 F43 C43 V43 (own_ofLen (n := 3) (by decide) rfl) (Nat.le_of_ble_eq_true rfl) f50 hc17 (r := 0) (n0 := n0) (Or.inr ⟨rfl, hc51⟩) (by decide) (by decide : 0 + 28 ≤ _)) qq53a qq53c (g := (mkF m 42 #[lR r0] [(.ref a43), (.ref r0)])) rfl (by rw [hml]; rfl) (Steps.refl _) (argsL := [(.ref a43)]) (rest := []) (lenOf pd__Ljava_lang_Object__Z rfl) rfl (own_W rfl) (hb hby d19_42) (fun _ _ => ⟨rfl, e43, (by decide : 8 + 0 ≤ _), (by decide : 64 + 0 ≤ _)⟩))
  obtain ⟨rfl, N52q, E52⟩ := hQ52
  have N52 := Fr.app N41 N52q
  obtain ⟨a54, T54, h54, kk54, b54, k54, X54, e54, E54, hS54, hk54, hZ54, ho54, EE54, C54, F54, V54, l54, m54, CR54, -, ne54, st54⟩ := ldcCH (s := s) (vm0 := T43.vm) X52 hx hZ43 ho43 (w 110 rfl) hstr E52 hS43 hk43 hEL (by simp [consts_1]) R44.1 (vs := [vI116, vI101, vI120, vI116]) (z := (4 : Int32)) ⟨by decide, by decide⟩ (by decide) rfl (g := (mkF m 53 #[lR r0] [(.ref r0)])) rfl (hb hby d19_53) (n := 16) (by decide) (by decide) (by decide) (by decide)
  have R55 := CHr.trans R44 CR54
  have f56 := (f45.ext E54)
  have f57 := (f46.ext E54)
  have f58 := (f47.ext E54)
  have f59 := (f48.ext E54)
  have o60 := Old.ext o49 E54
  have f61 := f14.ext o60.2
  obtain ⟨cqq64, kqq64, qq64a, qq64b, qq64c⟩ := isOf hZ54 e54 f59
  obtain ⟨_, T63, Lc63, X63, hQ63, st63⟩ := own_fin (X54.virtualBack hx (y := mN1) (z := mN1) ho54 (mvT hZ54 (w 106 rfl)) (mvT hZ54 (w 62 rfl)) (notFace_of_selects (args := #[]) (mvT hZ54 (w 64 rfl))) (mvT hZ54 (w 64 rfl)) (mvT hZ54 (w 63 rfl)) (by decide) (own_strEq hZ54 hw (w 5 rfl) (bs := t4) f59 f57 f56 f58 hc12 hc13 (ds := [(116 : Int32), (101 : Int32), (120 : Int32), (116 : Int32)]) EE54 F54 C54 V54 (own_ofLen (n := 4) (by decide) rfl) (Nat.le_of_ble_eq_true rfl) f61 hc17 (r := 0) (n0 := n0) (Or.inr ⟨rfl, hc62⟩) (by decide) (by decide : 0 + 28 ≤ _)) qq64a qq64c (g := (mkF m 55 #[lR r0] [(.ref a54), (.ref r0)])) rfl (by rw [hml]; rfl) (Steps.refl _) (argsL := [(.ref a54)]) (rest := []) (lenOf pd__Ljava_lang_Object__Z rfl) rfl (own_W rfl) (hb hby d19_55) (fun _ _ => ⟨rfl, e54, (by decide : 10 + 0 ≤ _), (by decide : 84 + 0 ≤ _)⟩))
  obtain ⟨rfl, N63q, E63⟩ := hQ63
  have N63 := Fr.app N52 N63q
  obtain ⟨a65, T65, h65, kk65, b65, k65, X65, e65, E65, hS65, hk65, hZ65, ho65, EE65, C65, F65, V65, l65, m65, CR65, -, ne65, st65⟩ := ldcCH (s := s) (vm0 := T54.vm) X63 hx hZ54 ho54 (w 111 rfl) hstr E63 hS54 hk54 hEL (by simp [consts_1]) R55.1 (vs := [vI103, vI117, vI105, vI100]) (z := (4 : Int32)) ⟨by decide, by decide⟩ (by decide) rfl (g := (mkF m 66 #[lR r0] [(.ref r0)])) rfl (hb hby d19_66) (n := 16) (by decide) (by decide) (by decide) (by decide)
  have R66 := CHr.trans R55 CR65
  have f67 := (f56.ext E65)
  have f68 := (f57.ext E65)
  have f69 := (f58.ext E65)
  have f70 := (f59.ext E65)
  have o71 := Old.ext o60 E65
  have f72 := f14.ext o71.2
  obtain ⟨cqq75, kqq75, qq75a, qq75b, qq75c⟩ := isOf hZ65 e65 f70
  obtain ⟨_, T74, Lc74, X74, hQ74, st74⟩ := own_fin (X65.virtualBack hx (y := mN1) (z := mN1) ho65 (mvT hZ65 (w 106 rfl)) (mvT hZ65 (w 62 rfl)) (notFace_of_selects (args := #[]) (mvT hZ65 (w 64 rfl))) (mvT hZ65 (w 64 rfl)) (mvT hZ65 (w 63 rfl)) (by decide) (own_strEq hZ65 hw (w 5 rfl) (bs := t4) f70 f68 f67 f69 hc12 hc13 (ds := [(103 : Int32), (117 : Int32), (105 : Int32), (100 : Int32)]) EE65 F65 C65 V65 (own_ofLen (n := 4) (by decide) rfl) (Nat.le_of_ble_eq_true rfl) f72 hc17 (r := 0) (n0 := n0) (Or.inr ⟨rfl, hc73⟩) (by decide) (by decide : 0 + 28 ≤ _)) qq75a qq75c (g := (mkF m 68 #[lR r0] [(.ref a65), (.ref r0)])) rfl (by rw [hml]; rfl) (Steps.refl _) (argsL := [(.ref a65)]) (rest := []) (lenOf pd__Ljava_lang_Object__Z rfl) rfl (own_W rfl) (hb hby d19_68) (fun _ _ => ⟨rfl, e65, (by decide : 12 + 0 ≤ _), (by decide : 104 + 0 ≤ _)⟩))
  obtain ⟨rfl, N74q, E74⟩ := hQ74
  have N74 := Fr.app N63 N74q
  have kp76 : Keep h0 h2 [] := (Keep.refl h0 []).ext E2
  have kp77 : Keep h0 h21 [] := kp76.ext E21
  have kp78 : Keep h0 h32 [] := kp77.ext E32
  have kp79 : Keep h0 h43 [] := kp78.ext E43
  have kp80 : Keep h0 h54 [] := kp79.ext E54
  have kp81 : Keep h0 h65 [] := kp80.ext E65
  refine ⟨some .null, _, _, _, _, _, _, _, nofun, X74, by decide, by decide, hS65, (by rw [E74]; exact hk65), hZ65, E74, R66, ?_, fun fs hr => ?_⟩
  · rw [E74]; exact ⟨rfl, N74, kp81⟩
  · show SG p e below s₁ (mkF m 0 #[lR r0] []) _
    refine qaN X0 hx hby d19_0 ?_
    refine st2 _ ?_
    show SG p e below T2 (mkF m 3 #[lR r0] [(.ref a2), (.ref r0)]) _
    refine st19.trans ?_
    show SG p e below T19 (mkF m 6 #[lR r0] [vI0]) _
    refine XS.ifYes X19.here hx rfl (pc0 := 6) (pc' := 13) rfl (hb hby d19_6) rfl ((if0 _ _).trans (teq (rfl : (0 : Int32) = (0 : Int32))).1) (by decide) (by decide) ?_
    show SG p e below T19 (mkF m 13 #[lR r0] []) _
    refine qaN X19 hx hby d19_13 ?_
    refine st21 _ ?_
    show SG p e below T21 (mkF m 16 #[lR r0] [(.ref a21), (.ref r0)]) _
    refine st30.trans ?_
    show SG p e below T30 (mkF m 19 #[lR r0] [vI0]) _
    refine XS.ifYes X30.here hx rfl (pc0 := 19) (pc' := 26) rfl (hb hby d19_19) rfl ((if0 _ _).trans (teq (rfl : (0 : Int32) = (0 : Int32))).1) (by decide) (by decide) ?_
    show SG p e below T30 (mkF m 26 #[lR r0] []) _
    refine qaN X30 hx hby d19_26 ?_
    refine st32 _ ?_
    show SG p e below T32 (mkF m 29 #[lR r0] [(.ref a32), (.ref r0)]) _
    refine st41.trans ?_
    show SG p e below T41 (mkF m 32 #[lR r0] [vI0]) _
    refine XS.ifYes X41.here hx rfl (pc0 := 32) (pc' := 39) rfl (hb hby d19_32) rfl ((if0 _ _).trans (teq (rfl : (0 : Int32) = (0 : Int32))).1) (by decide) (by decide) ?_
    show SG p e below T41 (mkF m 39 #[lR r0] []) _
    refine qaN X41 hx hby d19_39 ?_
    refine st43 _ ?_
    show SG p e below T43 (mkF m 42 #[lR r0] [(.ref a43), (.ref r0)]) _
    refine st52.trans ?_
    show SG p e below T52 (mkF m 45 #[lR r0] [vI0]) _
    refine XS.ifYes X52.here hx rfl (pc0 := 45) (pc' := 52) rfl (hb hby d19_45) rfl ((if0 _ _).trans (teq (rfl : (0 : Int32) = (0 : Int32))).1) (by decide) (by decide) ?_
    show SG p e below T52 (mkF m 52 #[lR r0] []) _
    refine qaN X52 hx hby d19_52 ?_
    refine st54 _ ?_
    show SG p e below T54 (mkF m 55 #[lR r0] [(.ref a54), (.ref r0)]) _
    refine st63.trans ?_
    show SG p e below T63 (mkF m 58 #[lR r0] [vI0]) _
    refine XS.ifYes X63.here hx rfl (pc0 := 58) (pc' := 65) rfl (hb hby d19_58) rfl ((if0 _ _).trans (teq (rfl : (0 : Int32) = (0 : Int32))).1) (by decide) (by decide) ?_
    show SG p e below T63 (mkF m 65 #[lR r0] []) _
    refine qaN X63 hx hby d19_65 ?_
    refine st65 _ ?_
    show SG p e below T65 (mkF m 68 #[lR r0] [(.ref a65), (.ref r0)]) _
    refine st74.trans ?_
    show SG p e below T74 (mkF m 71 #[lR r0] [vI0]) _
    refine XS.ifYes X74.here hx rfl (pc0 := 71) (pc' := 78) rfl (hb hby d19_71) rfl ((if0 _ _).trans (teq (rfl : (0 : Int32) = (0 : Int32))).1) (by decide) (by decide) ?_
    show SG p e below T74 (mkF m 78 #[lR r0] []) _
    refine XS.aconstNull X74.here hx rfl (hb hby d19_78) ?_
    exact retOut X74 hx (i := .areturn) hret rfl (Or.inr (Or.inr (Or.inr (Or.inr ⟨rfl, rfl, rfl⟩)))) (hb hby d19_79) hr
def Q19_8 (Z : State) (r0 r1 : Addr) (c2 : ClassId) (x3 : Int32) (t4 : List Int32) (x5 : Int32) (r6 r7 : Addr) (r8 r9 : Addr) (r10 r11 : Addr) (h0 : Heap) (n0 : Nat) (v : Option Value) (h : Heap) (L : List Loc) : Prop := v = some (own_lab t4 r6 r7 r8 r9 r10 r11) ∧ Fr n0 L ∧ Keep h0 h []
theorem rm19_8 (l : Launch) (Z : State) (a0 : Array Value) (hw : own_HW a0 Z) (ws : List Jvm.Cond) (r0 r1 : Addr) (c2 : ClassId) (x3 : Int32) (t4 : List Int32) (x5 : Int32) (r6 r7 : Addr) (r8 r9 : Addr) (r10 r11 : Addr) (h0 : Heap) (n0 : Nat) (O0 : Old Z n0 h0) (f1 : Fld Z h0 r0 "java/lang/String" "value" "[B" (.ref r1)) (f2 : Arv Z h0 r1 c2 .byte x3 (t4.map Value.int) vI0) (f3 : Exa Z h0 r0 "java/lang/String") (f4 : Fld Z h0 r0 "java/lang/String" "coder" "B" vI0) (hc5 : x3 = Int32.ofNat t4.length) (hc6 : t4.length ≤ 4000) (f7 : Sta Z Z.heap "java/lang/String" "COMPACT_STRINGS" "Z" (.int x5)) (hc8 : ¬ (x5 = (0 : Int32))) (f9 : Sta Z Z.heap cs0 "I32" cs4 (.ref r6)) (f10 : Sta Z Z.heap cs0 "U32" cs4 (.ref r7)) (f11 : Sta Z Z.heap cs0 "F32" cs4 (.ref r8)) (f12 : Sta Z Z.heap cs0 "F64" cs4 (.ref r9)) (f13 : Sta Z Z.heap cs0 "TEXT" cs4 (.ref r10)) (f14 : Sta Z Z.heap cs0 "GUID" cs4 (.ref r11)) :
    MetFree l mN13 (head1 (Jvm.Cond.code mN13 method_6_code 1 (some (.object cs0)) :: ws) rR3_12_120_40) (fun a U => a = #[(.ref r0)] ∧ Z.Warmed39 U.vm ∧ U.heap = h0 ∧ CHv Z consts_1 U.vm h0) (fun _ _ _ _ _ => True) (fun _ U o U' => ∃ v L, o = .returned v ∧ Q19_8 Z r0 r1 c2 x3 t4 x5 r6 r7 r8 r9 r10 r11 h0 n0 v U'.heap L ∧ CHr Z consts_1 U.vm U.heap U'.vm U'.heap ∧ ReturnedEndW U o U' L rR3_12_120_40.cells rR3_12_120_40.slots) := by
  intro p e ha hc hk s m args below hf happ hP hK
  by_cases hl0 : t4 = [(105 : Int32), (51 : Int32), (50 : Int32)]
  · obtain ⟨n, o, h1', h2', h3', v, L, rfl, hQ, hE⟩ := rm19_1 l Z a0 hw ws r0 r1 c2 x3 t4 x5 r6 h0 n0 O0 f3 f4 f1 f2 hc5 hc6 f7 hc8 hl0 f9 p e ha hc hk s m args below hf happ hP hK
    obtain ⟨rfl, N, K⟩ := hQ
    exact ⟨n, _, h1', h2', h3', _, L, rfl, ⟨by unfold own_lab; rw [if_pos hl0], N, K⟩, hE⟩
  by_cases hl1 : t4 = [(117 : Int32), (51 : Int32), (50 : Int32)]
  · obtain ⟨n, o, h1', h2', h3', v, L, rfl, hQ, hE⟩ := rm19_2 l Z a0 hw ws r0 r1 c2 x3 t4 x5 r7 h0 n0 O0 f3 f4 f1 f2 hc5 hc6 f7 hc8 (fun q => absurd (hl1.symm.trans q) (by decide)) hl1 f10 p e ha hc hk s m args below hf happ hP hK
    obtain ⟨rfl, N, K⟩ := hQ
    exact ⟨n, _, h1', h2', h3', _, L, rfl, ⟨by unfold own_lab; rw [if_neg hl0, if_pos hl1], N, K⟩, hE⟩
  by_cases hl2 : t4 = [(102 : Int32), (51 : Int32), (50 : Int32)]
  · obtain ⟨n, o, h1', h2', h3', v, L, rfl, hQ, hE⟩ := rm19_3 l Z a0 hw ws r0 r1 c2 x3 t4 x5 r8 h0 n0 O0 f3 f4 f1 f2 hc5 hc6 f7 hc8 (fun q => absurd (hl2.symm.trans q) (by decide)) (fun q => absurd (hl2.symm.trans q) (by decide)) hl2 f11 p e ha hc hk s m args below hf happ hP hK
    obtain ⟨rfl, N, K⟩ := hQ
    exact ⟨n, _, h1', h2', h3', _, L, rfl, ⟨by unfold own_lab; rw [if_neg hl0, if_neg hl1, if_pos hl2], N, K⟩, hE⟩
  by_cases hl3 : t4 = [(102 : Int32), (54 : Int32), (52 : Int32)]
  · obtain ⟨n, o, h1', h2', h3', v, L, rfl, hQ, hE⟩ := rm19_4 l Z a0 hw ws r0 r1 c2 x3 t4 x5 r9 h0 n0 O0 f3 f4 f1 f2 hc5 hc6 f7 hc8 (fun q => absurd (hl3.symm.trans q) (by decide)) (fun q => absurd (hl3.symm.trans q) (by decide)) (fun q => absurd (hl3.symm.trans q) (by decide)) hl3 f12 p e ha hc hk s m args below hf happ hP hK
    obtain ⟨rfl, N, K⟩ := hQ
    exact ⟨n, _, h1', h2', h3', _, L, rfl, ⟨by unfold own_lab; rw [if_neg hl0, if_neg hl1, if_neg hl2, if_pos hl3], N, K⟩, hE⟩
  by_cases hl4 : t4 = [(116 : Int32), (101 : Int32), (120 : Int32), (116 : Int32)]
  · obtain ⟨n, o, h1', h2', h3', v, L, rfl, hQ, hE⟩ := rm19_5 l Z a0 hw ws r0 r1 c2 x3 t4 x5 r10 h0 n0 O0 f3 f4 f1 f2 hc5 hc6 f7 hc8 (fun q => absurd (hl4.symm.trans q) (by decide)) (fun q => absurd (hl4.symm.trans q) (by decide)) (fun q => absurd (hl4.symm.trans q) (by decide)) (fun q => absurd (hl4.symm.trans q) (by decide)) hl4 f13 p e ha hc hk s m args below hf happ hP hK
    obtain ⟨rfl, N, K⟩ := hQ
    exact ⟨n, _, h1', h2', h3', _, L, rfl, ⟨by unfold own_lab; rw [if_neg hl0, if_neg hl1, if_neg hl2, if_neg hl3, if_pos hl4], N, K⟩, hE⟩
  by_cases hl5 : t4 = [(103 : Int32), (117 : Int32), (105 : Int32), (100 : Int32)]
  · obtain ⟨n, o, h1', h2', h3', v, L, rfl, hQ, hE⟩ := rm19_6 l Z a0 hw ws r0 r1 c2 x3 t4 x5 r11 h0 n0 O0 f3 f4 f1 f2 hc5 hc6 f7 hc8 (fun q => absurd (hl5.symm.trans q) (by decide)) (fun q => absurd (hl5.symm.trans q) (by decide)) (fun q => absurd (hl5.symm.trans q) (by decide)) (fun q => absurd (hl5.symm.trans q) (by decide)) (fun q => absurd (hl5.symm.trans q) (by decide)) hl5 f14 p e ha hc hk s m args below hf happ hP hK
    obtain ⟨rfl, N, K⟩ := hQ
    exact ⟨n, _, h1', h2', h3', _, L, rfl, ⟨by unfold own_lab; rw [if_neg hl0, if_neg hl1, if_neg hl2, if_neg hl3, if_neg hl4, if_pos hl5], N, K⟩, hE⟩
  · obtain ⟨n, o, h1', h2', h3', v, L, rfl, hQ, hE⟩ := rm19_7 l Z a0 hw ws r0 r1 c2 x3 t4 x5 h0 n0 O0 f3 f4 f1 f2 hc5 hc6 f7 hc8 hl0 hl1 hl2 hl3 hl4 hl5 p e ha hc hk s m args below hf happ hP hK
    obtain ⟨rfl, N, K⟩ := hQ
    exact ⟨n, _, h1', h2', h3', _, L, rfl, ⟨by unfold own_lab; rw [if_neg hl0, if_neg hl1, if_neg hl2, if_neg hl3, if_neg hl4, if_neg hl5], N, K⟩, hE⟩
def Q0_8 (Z : State) (x0 x1 : Int32) (x2 x3 : Int32) (x4 x5 : Int32) (u6 : Value) (x7 x8 : Int32) (x9 x10 : Int32) (r11 : Addr) (c12 : ClassId) (r13 r14 : Addr) (r15 r16 : Addr) (r17 r18 : Addr) (r19 r20 : Addr) (c21 : ClassId) (r22 r23 : Addr) (c24 : ClassId) (r25 r26 : Addr) (c27 : ClassId) (r28 r29 : Addr) (c30 : ClassId) (r31 r32 : Addr) (c33 : ClassId) (r34 r35 : Addr) (c36 : ClassId) (h0 : Heap) (n0 : Nat) (v : Option Value) (h : Heap) (L : List Loc) : Prop := v = some vI1 ∧ Fr n0 L
theorem rm0_8 (l : Launch) (Z : State) (a0 : Array Value) (hw : own_HW a0 Z) (ws : List Jvm.Cond) (x0 x1 : Int32) (x2 x3 : Int32) (x4 x5 : Int32) (u6 : Value) (x7 x8 : Int32) (x9 x10 : Int32) (r11 : Addr) (c12 : ClassId) (r13 r14 : Addr) (r15 r16 : Addr) (r17 r18 : Addr) (r19 r20 : Addr) (c21 : ClassId) (r22 r23 : Addr) (c24 : ClassId) (r25 r26 : Addr) (c27 : ClassId) (r28 r29 : Addr) (c30 : ClassId) (r31 r32 : Addr) (c33 : ClassId) (r34 r35 : Addr) (c36 : ClassId) (h0 : Heap) (n0 : Nat) (O0 : Old Z n0 h0) (hc2 : ¬ ((x0 &&& (3 : Int32)) = (3 : Int32))) (hc3 : ¬ ((x0 &&& (3 : Int32)) = (0 : Int32))) (hc4 : ((((x0.toUInt32 >>> ((2 : Int32) &&& 31).toUInt32).toInt32) &&& (7 : Int32)) % (5 : Int32)) = (0 : Int32)) (f5 : Sta Z Z.heap "java/lang/String" "COMPACT_STRINGS" "Z" (.int x5)) (hc6 : ¬ (x5 = (0 : Int32))) (f7 : Sta Z Z.heap cs6 "SIOOBE_FORMATTER" cs7 u6) (hc8 : u6.isRef = true) (hq11 : (own_ch x1) = x7) (hq15 : (own_ch x2) = x8) (hq19 : (own_ch x3) = x9) (hq23 : (own_ch x4) = x10) (f47 : Sta Z Z.heap cs0 "$VALUES" cs1 (.ref r11)) (f48 : Exa Z Z.heap r11 cs1) (f49 : Arv Z Z.heap r11 c12 (.object cs0) (6 : Int32) [(.ref r13), (.ref r14), (.ref r15), (.ref r16), (.ref r17), (.ref r18)] .null) (f50 : Fld Z Z.heap r13 cs0 "label" "Ljava/lang/String;" (.ref r19)) (f51 : Exa Z Z.heap r19 "java/lang/String") (f52 : Fld Z Z.heap r19 "java/lang/String" "coder" "B" vI0) (f53 : Fld Z Z.heap r19 "java/lang/String" "value" "[B" (.ref r20)) (f54 : Arv Z Z.heap r20 c21 .byte (3 : Int32) [vI105, vI51, vI50] vI0) (f56 : Fld Z Z.heap r14 cs0 "label" "Ljava/lang/String;" (.ref r22)) (f57 : Exa Z Z.heap r22 "java/lang/String") (f58 : Fld Z Z.heap r22 "java/lang/String" "coder" "B" vI0) (f59 : Fld Z Z.heap r22 "java/lang/String" "value" "[B" (.ref r23)) (f60 : Arv Z Z.heap r23 c24 .byte (3 : Int32) [vI117, vI51, vI50] vI0) (f61 : Fld Z Z.heap r15 cs0 "label" "Ljava/lang/String;" (.ref r25)) (f62 : Exa Z Z.heap r25 "java/lang/String") (f63 : Fld Z Z.heap r25 "java/lang/String" "coder" "B" vI0) (f64 : Fld Z Z.heap r25 "java/lang/String" "value" "[B" (.ref r26)) (f65 : Arv Z Z.heap r26 c27 .byte (3 : Int32) [vI102, vI51, vI50] vI0) (f66 : Fld Z Z.heap r16 cs0 "label" "Ljava/lang/String;" (.ref r28)) (f67 : Exa Z Z.heap r28 "java/lang/String") (f68 : Fld Z Z.heap r28 "java/lang/String" "coder" "B" vI0) (f69 : Fld Z Z.heap r28 "java/lang/String" "value" "[B" (.ref r29)) (f70 : Arv Z Z.heap r29 c30 .byte (3 : Int32) [vI102, vI54, vI52] vI0) (f71 : Fld Z Z.heap r17 cs0 "label" "Ljava/lang/String;" (.ref r31)) (f72 : Exa Z Z.heap r31 "java/lang/String") (f73 : Fld Z Z.heap r31 "java/lang/String" "coder" "B" vI0) (f74 : Fld Z Z.heap r31 "java/lang/String" "value" "[B" (.ref r32)) (f75 : Arv Z Z.heap r32 c33 .byte (4 : Int32) [vI116, vI101, vI120, vI116] vI0) (f76 : Fld Z Z.heap r18 cs0 "label" "Ljava/lang/String;" (.ref r34)) (f77 : Exa Z Z.heap r34 "java/lang/String") (f78 : Fld Z Z.heap r34 "java/lang/String" "coder" "B" vI0) (f79 : Fld Z Z.heap r34 "java/lang/String" "value" "[B" (.ref r35)) (f80 : Arv Z Z.heap r35 c36 .byte (4 : Int32) [vI103, vI117, vI105, vI100] vI0) (f88 : Sta Z Z.heap cs0 "I32" cs4 (.ref r13)) (f89 : Sta Z Z.heap cs0 "U32" cs4 (.ref r14)) (f90 : Sta Z Z.heap cs0 "F32" cs4 (.ref r15)) (f91 : Sta Z Z.heap cs0 "F64" cs4 (.ref r16)) (f92 : Sta Z Z.heap cs0 "TEXT" cs4 (.ref r17)) (f93 : Sta Z Z.heap cs0 "GUID" cs4 (.ref r18)) :
    own_MH l x code maxLocals ret ws room_1 Z h0 #[(.int x0), (.int x1), (.int x2), (.int x3), (.int x4)] (Q0_8 Z x0 x1 x2 x3 x4 x5 u6 x7 x8 x9 x10 r11 c12 r13 r14 r15 r16 r17 r18 r19 r20 c21 r22 r23 c24 r25 r26 c27 r28 r29 c30 r31 r32 c33 r34 r35 c36 h0 n0) := by
  have hEL : EW Z a0 consts_1 := own_EW hw
  refine own_openH hEL (plainFor_of_name pn_com_example_wiregather_wiregather_wire_FieldTypeOfLabelPinLaw) (L0 := #[lI x0, lI x1, lI x2, lI x3, lI x4, lU, lU, lU, lU, lU, lU, lU, lU]) (fun _ => by first | (simp [entryFrame, mkF, argsToLocals, Value.category, maxLocals]; done) | rfl) ?_
  intro p e s m below meth c s₁ hx hby hml hret hnn hZ hown X0 e0 R0
  have N0 := Fr.nil n0; have w := @ww Z a0 hw
  have hS1 := (State.WarmedH.refl s).since 0
  obtain ⟨_, _, ⟨T9, L9, k9, n9⟩, -, X9, hs9, hg9, ⟨Lc9, hQ9, l9, y9, z9, cr9⟩, st9⟩ := callSS X0 hx (y := mN11) hown (mvT hZ (w 75 rfl)) (mvT hZ (w 76 rfl)) (mvT hZ (w 2 rfl)) (mvT hZ (w 77 rfl)) (by decide) (backOfSH (s := s) (vm0 := s.vm) (W := 0) (rm13_3 l Z a0 hw [] x1 x5 u6 h0 n0 O0 f5 hc6 f7 hc8) hZ (w 77 rfl) (w 2 rfl) (by decide) (by decide) hEL R0.1) (g := (mkF m 73 #[lI x0, lI x1, lI x2, lI x3, lI x4, .val (.int (x0 &&& (3 : Int32))), lV vI0, lU, lU, lU, lU, lU, lU] [(.int x1)])) rfl (by rw [hml]; rfl) (argsL := [(.int x1)]) (rest := []) (lenOf pd__I_C rfl) rfl (own_W rfl) (hb hby at_73) (fun _ _ => ⟨rfl, e0, (by decide : 0 + 2 ≤ _), (by decide : 0 + 56 ≤ _)⟩)
  dsimp only [Pt.U, Pt.locs, Pt.cells, Pt.slots] at X9 l9 y9 z9 st9 hQ9 hs9 hg9 cr9
  subst l9 y9 z9
  obtain ⟨X9, hS9, hZ9, ho9⟩ := rebS (s := s) (vm0 := s.vm) hS1 (by rw [e0]; exact (Nat.zero_le _)) X9 hs9 hg9 hZ hown
  obtain ⟨rfl, N9q, K9⟩ := hQ9
  have N9 := Fr.app N0 N9q
  have R10 := CHr.trans R0 cr9
  have o12 := Old.keep O0 K9 all0
  obtain ⟨_, _, ⟨T13, L13, k13, n13⟩, -, X13, hs13, hg13, ⟨Lc13, hQ13, l13, y13, z13, cr13⟩, st13⟩ := callSS X9 hx (y := mN11) ho9 (mvT hZ9 (w 75 rfl)) (mvT hZ9 (w 76 rfl)) (mvT hZ9 (w 2 rfl)) (mvT hZ9 (w 77 rfl)) (by decide) (backOfSH (s := s) (vm0 := T9.vm) (W := 0) (rm13_3 l Z a0 hw [] x2 x5 u6 T9.heap n0 o12 f5 hc6 f7 hc8) hZ9 (w 77 rfl) (w 2 rfl) (by decide) (by decide) hEL R10.1) (g := (mkF m 79 #[lI x0, lI x1, lI x2, lI x3, lI x4, .val (.int (x0 &&& (3 : Int32))), lV vI0, lI x7, lU, lU, lU, lU, lU] [(.int x2)])) rfl (by rw [hml]; rfl) (argsL := [(.int x2)]) (rest := []) (lenOf pd__I_C rfl) rfl (own_W rfl) (hb hby at_79) (fun _ _ => ⟨rfl, rfl, (by decide : 2 + 2 ≤ _), (by decide : 56 + 56 ≤ _)⟩)
  dsimp only [Pt.U, Pt.locs, Pt.cells, Pt.slots] at X13 l13 y13 z13 st13 hQ13 hs13 hg13 cr13
  subst l13 y13 z13
  obtain ⟨X13, hS13, hZ13, ho13⟩ := rebS (s := s) (vm0 := T9.vm) hS9 ((Nat.le_refl _)) X13 hs13 hg13 hZ9 ho9
  obtain ⟨rfl, N13q, K13⟩ := hQ13
  have N13 := Fr.app N9 N13q
  have R14 := CHr.trans R10 cr13
  have o16 := Old.keep o12 K13 all0
  obtain ⟨_, _, ⟨T17, L17, k17, n17⟩, -, X17, hs17, hg17, ⟨Lc17, hQ17, l17, y17, z17, cr17⟩, st17⟩ := callSS X13 hx (y := mN11) ho13 (mvT hZ13 (w 75 rfl)) (mvT hZ13 (w 76 rfl)) (mvT hZ13 (w 2 rfl)) (mvT hZ13 (w 77 rfl)) (by decide) (backOfSH (s := s) (vm0 := T13.vm) (W := 0) (rm13_3 l Z a0 hw [] x3 x5 u6 T13.heap n0 o16 f5 hc6 f7 hc8) hZ13 (w 77 rfl) (w 2 rfl) (by decide) (by decide) hEL R14.1) (g := (mkF m 85 #[lI x0, lI x1, lI x2, lI x3, lI x4, .val (.int (x0 &&& (3 : Int32))), lV vI0, lI x7, lI x8, lU, lU, lU, lU] [(.int x3)])) rfl (by rw [hml]; rfl) (argsL := [(.int x3)]) (rest := []) (lenOf pd__I_C rfl) rfl (own_W rfl) (hb hby at_85) (fun _ _ => ⟨rfl, rfl, (by decide : 4 + 2 ≤ _), (by decide : 112 + 56 ≤ _)⟩)
  dsimp only [Pt.U, Pt.locs, Pt.cells, Pt.slots] at X17 l17 y17 z17 st17 hQ17 hs17 hg17 cr17
  subst l17 y17 z17
  obtain ⟨X17, hS17, hZ17, ho17⟩ := rebS (s := s) (vm0 := T13.vm) hS13 ((Nat.le_refl _)) X17 hs17 hg17 hZ13 ho13
  obtain ⟨rfl, N17q, K17⟩ := hQ17
  have N17 := Fr.app N13 N17q
  have R18 := CHr.trans R14 cr17
  have o20 := Old.keep o16 K17 all0
  obtain ⟨_, _, ⟨T21, L21, k21, n21⟩, -, X21, hs21, hg21, ⟨Lc21, hQ21, l21, y21, z21, cr21⟩, st21⟩ := callSS X17 hx (y := mN11) ho17 (mvT hZ17 (w 75 rfl)) (mvT hZ17 (w 76 rfl)) (mvT hZ17 (w 2 rfl)) (mvT hZ17 (w 77 rfl)) (by decide) (backOfSH (s := s) (vm0 := T17.vm) (W := 0) (rm13_3 l Z a0 hw [] x4 x5 u6 T17.heap n0 o20 f5 hc6 f7 hc8) hZ17 (w 77 rfl) (w 2 rfl) (by decide) (by decide) hEL R18.1) (g := (mkF m 92 #[lI x0, lI x1, lI x2, lI x3, lI x4, .val (.int (x0 &&& (3 : Int32))), lV vI0, lI x7, lI x8, lI x9, lU, lU, lU] [(.int x4)])) rfl (by rw [hml]; rfl) (argsL := [(.int x4)]) (rest := []) (lenOf pd__I_C rfl) rfl (own_W rfl) (hb hby at_92) (fun _ _ => ⟨rfl, rfl, (by decide : 6 + 2 ≤ _), (by decide : 168 + 56 ≤ _)⟩)
  dsimp only [Pt.U, Pt.locs, Pt.cells, Pt.slots] at X21 l21 y21 z21 st21 hQ21 hs21 hg21 cr21
  subst l21 y21 z21
  obtain ⟨X21, hS21, hZ21, ho21⟩ := rebS (s := s) (vm0 := T17.vm) hS17 ((Nat.le_refl _)) X21 hs21 hg21 hZ17 ho17
  obtain ⟨rfl, N21q, K21⟩ := hQ21
  have N21 := Fr.app N17 N21q
  have R22 := CHr.trans R18 cr21
  obtain ⟨T24, h24, k24, X24, e24, E24, A24, B24, st24⟩ := newPE X21 hx hZ21 (w 7 rfl) rfl (g := (mkF m 103 #[lI x0, lI x1, lI x2, lI x3, lI x4, .val (.int (x0 &&& (3 : Int32))), lV vI0, lI x7, lI x8, lI x9, lI x10, lU, lU] [vI0])) rfl (hb hby at_103) rfl (by decide) (cap := 0) (by decide) (by decide) (by decide) (by decide) (ad := "[C") rfl
  obtain ⟨b24, g24⟩ : ∃ z, z = T21.heap.size := ⟨_, rfl⟩
  have sf25 : Safe Z consts_1 T21.vm T21.heap b24 := Safe.new (Nat.le_of_eq g24.symm)
  rw [← g24] at A24 B24 st24
  have R26 := CHr.trans R22 (CHr.ext E24 R22.1)
  have V24 : Arv Z h24 b24 k24 .char (0 : Int32) [] vI0 := (Arv.new A24 (by decide)).pad (pad_rep [] vI0 0)
  obtain ⟨T27, h27, X27, e27, E27, A27, D27, -, st27⟩ := newO X24 hx hZ21 ho21 (w 4 rfl) (w 5 rfl) (w 6 rfl) e24 (g := (mkF m 207 #[lI x0, lI x1, lI x2, lI x3, lI x4, .val (.int (x0 &&& (3 : Int32))), lV vI0, lI x7, lI x8, lI x9, lI x10, lR b24, lU] [])) rfl (hb hby at_207) (by decide) (by decide)
  obtain ⟨b27, g27⟩ : ∃ z, z = h24.size := ⟨_, rfl⟩
  have sf28 : Safe Z consts_1 T21.vm h24 b27 := Safe.new (Nat.le_of_eq g27.symm)
  rw [← g27] at A27 D27 st27
  have R29 := CHr.trans R26 (CHr.ext E27 R26.1)
  have f30 : Fld Z h27 b27 "java/lang/String" "coder" "B" vI0 := D27 (Or.inr (w 31 rfl)) (ty := .byte) (by decide)
  have f31 : Fld Z h27 b27 "java/lang/String" "value" "[B" .null := D27 (Or.inr (w 33 rfl)) (ty := (.array .byte)) (by decide)
  have f32 := (V24.ext E27)
  have o34 := Old.keep o20 K21 all0
  have o35 := Old.ext o34 E24
  have zz33 : n0 ≤ h24.size := by rw [← o35.1]; exact o35.2.1
  have g36 := Nat.le_trans zz33 (Nat.le_of_eq g27.symm)
  have o37 := Old.ext o35 E27
  have sf38 := (Safe.ext E27 R26.1 sf28)
  obtain ⟨_, _, ⟨T39, L39, k39, n39⟩, -, X39, hs39, hg39, ⟨Lc39, hQ39, l39, y39, z39, cr39⟩, st39⟩ := X27.specialBackS hx (y := mN4) rfl ho21 (mvT hZ21 (w 8 rfl)) (mvT hZ21 (w 9 rfl)) (mvT hZ21 (w 10 rfl)) (by decide) (own_backSafe (s := s) (vm0 := T21.vm) (W := 1) (rm2_1 l Z a0 hw [] b27 b24 k24 h27 n0 o37 f32 A27 f31 g36 A27.lt f30) hZ21 (w 10 rfl) (w 6 rfl) (by decide) (by decide) hEL R29.1 (allS ⟨A27.lt, sf38⟩ all0)) (g := (mkF m 213 #[lI x0, lI x1, lI x2, lI x3, lI x4, .val (.int (x0 &&& (3 : Int32))), lV vI0, lI x7, lI x8, lI x9, lI x10, lR b24, lU] [(.ref b24), (.ref b27), (.ref b27)])) rfl (by rw [hml]; rfl) (Steps.refl _) (a := b27) (argsL := [(.ref b24)]) (rest := [(.ref b27)]) (lenOf pd___C_V rfl) rfl (own_W rfl) (hb hby at_213) (fun _ _ => ⟨rfl, e27, (by decide : 10 + 4 ≤ _), (by decide : 228 + 8 ≤ _)⟩)
  dsimp only [Pt.U, Pt.locs, Pt.cells, Pt.slots] at X39 l39 y39 z39 st39 hQ39 hs39 hg39 cr39
  subst l39 y39 z39
  have zs40 := E24.1
  have zs41 := Nat.le_trans zs40 E27.1
  obtain ⟨X39, hS39, hZ39, ho39⟩ := rebS (s := s) (vm0 := T21.vm) hS21 (by rw [e27]; exact (Nat.le_trans (Nat.le_refl _) zs41)) X39 hs39 hg39 hZ21 ho21
  obtain ⟨b39_0, k39_0, rfl, N39q, K39, f42, f43, f44, f45⟩ := hQ39
  have N39 := Fr.app N21 N39q
  have R46 := CHr.trans R29 cr39
  have f55 := (A27.keep K39)
  have o81 := Old.keep o37 K39 (allS g36 all0)
  obtain ⟨_, T82, Lc82, X82, hQ82, st82⟩ := own_cS X39 hx hZ39 ho39 rfl (rm8_9 l Z a0 hw [] b27 b39_0 k39_0 (0 : Int32) ([]) r11 c12 r13 r14 r15 r16 r17 r18 r19 r20 c21 x5 r22 r23 c24 r25 r26 c27 r28 r29 c30 r31 r32 c33 r34 r35 c36 T39.heap n0 o81 f42 f45 f47 f48 f49 f50 f51 f52 f53 f54 f55 f43 (by decide) (by decide) f5 hc6 f56 f57 f58 f59 f60 f61 f62 f63 f64 f65 f66 f67 f68 f69 f70 f71 f72 f73 f74 f75 f76 f77 f78 f79 f80) (w 34 rfl) (w 35 rfl) (w 36 rfl) (w 37 rfl) (by decide) (W := 0) (by decide) (by decide) (by decide) (by decide) (g := (mkF m 220 #[lI x0, lI x1, lI x2, lI x3, lI x4, .val (.int (x0 &&& (3 : Int32))), lV vI0, lI x7, lI x8, lI x9, lI x10, lR b24, lR b27] [(.ref b27)])) rfl (by rw [hml]; rfl) (argsL := [(.ref b27)]) (rest := []) (lenOf pd__Ljava_lang_String__Lcom_example_wiregather_wiregather_wire_FieldType_ rfl) rfl (own_W rfl) (hb hby at_220)
  obtain ⟨rfl, N82q, K82⟩ := hQ82
  have N82 := Fr.app N39 N82q
  have R83 := CHr.trans R46 (CHr.keep K82 sf0 R46.1)
  have f84 := (f42.keep K82 nin0)
  have f85 := (f45.keep K82 nin0)
  have f86 := (f55.keep K82)
  have f87 := (f43.keep K82 nin0)
  have o94 := Old.keep o81 K82 all0
  obtain ⟨_, _, ⟨T95, L95, k95, n95⟩, -, X95, hs95, hg95, ⟨Lc95, hQ95, l95, y95, z95, cr95⟩, st95⟩ := callSS X82 hx (y := mN13) ho39 (mvT hZ39 (w 102 rfl)) (mvT hZ39 (w 103 rfl)) (mvT hZ39 (w 2 rfl)) (mvT hZ39 (w 104 rfl)) (by decide) (backOfSH (s := s) (vm0 := T39.vm) (W := 1) (rm19_8 l Z a0 hw [] b27 b39_0 k39_0 (0 : Int32) ([]) x5 r13 r14 r15 r16 r17 r18 T82.heap n0 o94 f84 f85 f86 f87 (by decide) (by decide) f5 hc6 f88 f89 f90 f91 f92 f93) hZ39 (w 104 rfl) (w 2 rfl) (by decide) (by decide) hEL R83.1) (g := (mkF m 225 #[lI x0, lI x1, lI x2, lI x3, lI x4, .val (.int (x0 &&& (3 : Int32))), lV vI0, lI x7, lI x8, lI x9, lI x10, lR b24, lR b27] [(.ref b27), (own_lab [] r13 r14 r15 r16 r17 r18)])) rfl (by rw [hml]; rfl) (argsL := [(.ref b27)]) (rest := [(own_lab [] r13 r14 r15 r16 r17 r18)]) (lenOf pd__Ljava_lang_String__Lcom_example_wiregather_wiregather_wire_FieldType_ rfl) rfl (by show 2 * 0 + _ ≤ _; simp only [List.map, own_qcat]; exact Nat.le_of_eq rfl) (hb hby at_225) (fun _ _ => ⟨rfl, rfl, (by decide : 15 + 12 ≤ _), (by decide : 242 + 120 ≤ _)⟩)
  dsimp only [Pt.U, Pt.locs, Pt.cells, Pt.slots] at X95 l95 y95 z95 st95 hQ95 hs95 hg95 cr95
  subst l95 y95 z95
  have zs96 := K82.1
  obtain ⟨X95, hS95, hZ95, ho95⟩ := rebS (s := s) (vm0 := T39.vm) hS39 ((Nat.le_trans (Nat.le_refl _) zs96)) X95 hs95 hg95 hZ39 ho39
  obtain ⟨rfl, N95q, K95⟩ := hQ95
  have N95 := Fr.app N82 N95q
  have R97 := CHr.trans R83 cr95
  refine ⟨some vI1, _, _, _, _, _, _, _, nofun, X95, by decide, by decide, hS95, ((Nat.le_refl _)), hZ95, rfl, R97, ?_, fun fs hr => ?_⟩
  · exact ⟨rfl, N95⟩
  · show SG p e below s₁ (mkF m 0 #[lI x0, lI x1, lI x2, lI x3, lI x4, lU, lU, lU, lU, lU, lU, lU, lU] []) _
    refine qiN X0 hx hby at_0 ?_
    refine qc X0 hx hby at_1 ?_
    refine XS.iand X0.here hx rfl (hb hby at_2) rfl ?_
    refine XS.istore X0.here hx rfl (hb hby at_3) rfl (l' := #[lI x0, lI x1, lI x2, lI x3, lI x4, .val (.int (x0 &&& (3 : Int32))), lU, lU, lU, lU, lU, lU, lU]) rfl ?_
    refine qi X0 hx hby at_5 ?_
    refine qc X0 hx hby at_7 ?_
    refine XS.icmpYes X0.here hx rfl (pc0 := 8) (pc' := 24) rfl (hb hby at_8) rfl (feq hc2).2 (by decide) (by decide) ?_
    show SG p e below s₁ (mkF m 24 #[lI x0, lI x1, lI x2, lI x3, lI x4, .val (.int (x0 &&& (3 : Int32))), lU, lU, lU, lU, lU, lU, lU] []) _
    refine qi X0 hx hby at_24 ?_
    refine XS.ifYes X0.here hx rfl (pc0 := 26) (pc' := 62) rfl (hb hby at_26) rfl ((if0 _ _).trans (feq hc3).2) (by decide) (by decide) ?_
    show SG p e below s₁ (mkF m 62 #[lI x0, lI x1, lI x2, lI x3, lI x4, .val (.int (x0 &&& (3 : Int32))), lU, lU, lU, lU, lU, lU, lU] []) _
    refine qiN X0 hx hby at_62 ?_
    refine qc X0 hx hby at_63 ?_
    refine XS.iushr X0.here hx rfl (hb hby at_64) rfl ?_
    refine qb X0 hx hby at_65 ?_
    refine XS.iand X0.here hx rfl (hb hby at_67) rfl ?_
    refine qc X0 hx hby at_68 ?_
    refine iremM (g := (mkF m 69 #[lI x0, lI x1, lI x2, lI x3, lI x4, .val (.int (x0 &&& (3 : Int32))), lU, lU, lU, lU, lU, lU, lU] [vI5, (.int (((x0.toUInt32 >>> ((2 : Int32) &&& 31).toUInt32).toInt32) &&& (7 : Int32)))])) X0 hx rfl (hb hby at_69) rfl (by decide : ¬ ((5 : Int32) = (0 : Int32))) ?_
    show SG p e below s₁ (mkF m 70 #[lI x0, lI x1, lI x2, lI x3, lI x4, .val (.int (x0 &&& (3 : Int32))), lU, lU, lU, lU, lU, lU, lU] [(.int ((((x0.toUInt32 >>> ((2 : Int32) &&& 31).toUInt32).toInt32) &&& (7 : Int32)) % (5 : Int32)))]) _
    rw [hc4]
    show SG p e below s₁ (mkF m 70 #[lI x0, lI x1, lI x2, lI x3, lI x4, .val (.int (x0 &&& (3 : Int32))), lU, lU, lU, lU, lU, lU, lU] [vI0]) _
    refine XS.istore X0.here hx rfl (hb hby at_70) rfl (l' := #[lI x0, lI x1, lI x2, lI x3, lI x4, .val (.int (x0 &&& (3 : Int32))), lV vI0, lU, lU, lU, lU, lU, lU]) rfl ?_
    refine qiN X0 hx hby at_72 ?_
    refine st9.trans ?_
    show SG p e below T9 (mkF m 76 #[lI x0, lI x1, lI x2, lI x3, lI x4, .val (.int (x0 &&& (3 : Int32))), lV vI0, lU, lU, lU, lU, lU, lU] [(.int (own_ch x1))]) _
    rw [hq11]
    show SG p e below T9 (mkF m 76 #[lI x0, lI x1, lI x2, lI x3, lI x4, .val (.int (x0 &&& (3 : Int32))), lV vI0, lU, lU, lU, lU, lU, lU] [(.int x7)]) _
    refine XS.istore X9.here hx rfl (hb hby at_76) rfl (l' := #[lI x0, lI x1, lI x2, lI x3, lI x4, .val (.int (x0 &&& (3 : Int32))), lV vI0, lI x7, lU, lU, lU, lU, lU]) rfl ?_
    refine qiN X9 hx hby at_78 ?_
    refine st13.trans ?_
    show SG p e below T13 (mkF m 82 #[lI x0, lI x1, lI x2, lI x3, lI x4, .val (.int (x0 &&& (3 : Int32))), lV vI0, lI x7, lU, lU, lU, lU, lU] [(.int (own_ch x2))]) _
    rw [hq15]
    show SG p e below T13 (mkF m 82 #[lI x0, lI x1, lI x2, lI x3, lI x4, .val (.int (x0 &&& (3 : Int32))), lV vI0, lI x7, lU, lU, lU, lU, lU] [(.int x8)]) _
    refine XS.istore X13.here hx rfl (hb hby at_82) rfl (l' := #[lI x0, lI x1, lI x2, lI x3, lI x4, .val (.int (x0 &&& (3 : Int32))), lV vI0, lI x7, lI x8, lU, lU, lU, lU]) rfl ?_
    refine qiN X13 hx hby at_84 ?_
    refine st17.trans ?_
    show SG p e below T17 (mkF m 88 #[lI x0, lI x1, lI x2, lI x3, lI x4, .val (.int (x0 &&& (3 : Int32))), lV vI0, lI x7, lI x8, lU, lU, lU, lU] [(.int (own_ch x3))]) _
    rw [hq19]
    show SG p e below T17 (mkF m 88 #[lI x0, lI x1, lI x2, lI x3, lI x4, .val (.int (x0 &&& (3 : Int32))), lV vI0, lI x7, lI x8, lU, lU, lU, lU] [(.int x9)]) _
    refine XS.istore X17.here hx rfl (hb hby at_88) rfl (l' := #[lI x0, lI x1, lI x2, lI x3, lI x4, .val (.int (x0 &&& (3 : Int32))), lV vI0, lI x7, lI x8, lI x9, lU, lU, lU]) rfl ?_
    refine qi X17 hx hby at_90 ?_
    refine st21.trans ?_
    show SG p e below T21 (mkF m 95 #[lI x0, lI x1, lI x2, lI x3, lI x4, .val (.int (x0 &&& (3 : Int32))), lV vI0, lI x7, lI x8, lI x9, lU, lU, lU] [(.int (own_ch x4))]) _
    rw [hq23]
    show SG p e below T21 (mkF m 95 #[lI x0, lI x1, lI x2, lI x3, lI x4, .val (.int (x0 &&& (3 : Int32))), lV vI0, lI x7, lI x8, lI x9, lU, lU, lU] [(.int x10)]) _
    refine XS.istore X21.here hx rfl (hb hby at_95) rfl (l' := #[lI x0, lI x1, lI x2, lI x3, lI x4, .val (.int (x0 &&& (3 : Int32))), lV vI0, lI x7, lI x8, lI x9, lI x10, lU, lU]) rfl ?_
    refine qi X21 hx hby at_97 ?_
    refine XS.ifNo X21.here hx rfl (hb hby at_99) rfl ((if0 _ _).trans (teq (rfl : (0 : Int32) = (0 : Int32))).2) ?_
    refine qc X21 hx hby at_102 ?_
    refine st24 _ ?_
    show SG p e below T24 (mkF m 105 #[lI x0, lI x1, lI x2, lI x3, lI x4, .val (.int (x0 &&& (3 : Int32))), lV vI0, lI x7, lI x8, lI x9, lI x10, lU, lU] [(.ref b24)]) _
    refine XS.astore X24.here hx rfl (hb hby at_105) rfl rfl (l' := #[lI x0, lI x1, lI x2, lI x3, lI x4, .val (.int (x0 &&& (3 : Int32))), lV vI0, lI x7, lI x8, lI x9, lI x10, lR b24, lU]) rfl ?_
    refine XS.goto X24.here hx rfl (pc0 := 107) (pc' := 207) rfl (hb hby at_107) (by decide) (by decide) ?_
    show SG p e below T24 (mkF m 207 #[lI x0, lI x1, lI x2, lI x3, lI x4, .val (.int (x0 &&& (3 : Int32))), lV vI0, lI x7, lI x8, lI x9, lI x10, lR b24, lU] []) _
    refine st27 _ ?_
    show SG p e below T27 (mkF m 210 #[lI x0, lI x1, lI x2, lI x3, lI x4, .val (.int (x0 &&& (3 : Int32))), lV vI0, lI x7, lI x8, lI x9, lI x10, lR b24, lU] [(.ref b27)]) _
    refine qd X27 hx hby at_210 ?_
    refine qa X27 hx hby at_211 ?_
    refine st39.trans ?_
    show SG p e below T39 (mkF m 216 #[lI x0, lI x1, lI x2, lI x3, lI x4, .val (.int (x0 &&& (3 : Int32))), lV vI0, lI x7, lI x8, lI x9, lI x10, lR b24, lU] [(.ref b27)]) _
    refine XS.astore X39.here hx rfl (hb hby at_216) rfl rfl (l' := #[lI x0, lI x1, lI x2, lI x3, lI x4, .val (.int (x0 &&& (3 : Int32))), lV vI0, lI x7, lI x8, lI x9, lI x10, lR b24, lR b27]) rfl ?_
    refine qa X39 hx hby at_218 ?_
    refine st82 _ ?_
    show SG p e below T82 (mkF m 223 #[lI x0, lI x1, lI x2, lI x3, lI x4, .val (.int (x0 &&& (3 : Int32))), lV vI0, lI x7, lI x8, lI x9, lI x10, lR b24, lR b27] [(own_lab [] r13 r14 r15 r16 r17 r18)]) _
    refine qa X82 hx hby at_223 ?_
    refine st95.trans ?_
    show SG p e below T95 (mkF m 228 #[lI x0, lI x1, lI x2, lI x3, lI x4, .val (.int (x0 &&& (3 : Int32))), lV vI0, lI x7, lI x8, lI x9, lI x10, lR b24, lR b27] [(own_lab [] r13 r14 r15 r16 r17 r18), (own_lab [] r13 r14 r15 r16 r17 r18)]) _
    refine Jvm.RoadKit.acmp (g := (mkF m 228 #[lI x0, lI x1, lI x2, lI x3, lI x4, .val (.int (x0 &&& (3 : Int32))), lV vI0, lI x7, lI x8, lI x9, lI x10, lR b24, lR b27] [(own_lab [] r13 r14 r15 r16 r17 r18), (own_lab [] r13 r14 r15 r16 r17 r18)])) X95 hx rfl (own_labRef) (own_labRef) (pc0 := 228) (pc' := 231) (same := true) rfl (hb hby at_228) rfl (decide_eq_true rfl) (by decide) (by decide) ?_
    show SG p e below T95 (mkF m 231 #[lI x0, lI x1, lI x2, lI x3, lI x4, .val (.int (x0 &&& (3 : Int32))), lV vI0, lI x7, lI x8, lI x9, lI x10, lR b24, lR b27] []) _
    refine qc X95 hx hby at_231 ?_
    refine XS.goto X95.here hx rfl (pc0 := 232) (pc' := 236) rfl (hb hby at_232) (by decide) (by decide) ?_
    show SG p e below T95 (mkF m 236 #[lI x0, lI x1, lI x2, lI x3, lI x4, .val (.int (x0 &&& (3 : Int32))), lV vI0, lI x7, lI x8, lI x9, lI x10, lR b24, lR b27] [vI1]) _
    exact retN X95 hx (t := .boolean) hret (by simp) (hb hby at_236) hr
def Q0_9 (Z : State) (x0 x1 : Int32) (x2 x3 : Int32) (x4 x5 : Int32) (u6 : Value) (x7 x8 : Int32) (x9 x10 : Int32) (r11 : Addr) (c12 : ClassId) (r13 r14 : Addr) (r15 r16 : Addr) (r17 r18 : Addr) (r19 r20 : Addr) (c21 : ClassId) (r22 r23 : Addr) (c24 : ClassId) (r25 r26 : Addr) (c27 : ClassId) (r28 r29 : Addr) (c30 : ClassId) (r31 r32 : Addr) (c33 : ClassId) (r34 r35 : Addr) (c36 : ClassId) (h0 : Heap) (n0 : Nat) (v : Option Value) (h : Heap) (L : List Loc) : Prop := v = some vI1 ∧ Fr n0 L
theorem rm0_9 (l : Launch) (Z : State) (a0 : Array Value) (hw : own_HW a0 Z) (ws : List Jvm.Cond) (x0 x1 : Int32) (x2 x3 : Int32) (x4 x5 : Int32) (u6 : Value) (x7 x8 : Int32) (x9 x10 : Int32) (r11 : Addr) (c12 : ClassId) (r13 r14 : Addr) (r15 r16 : Addr) (r17 r18 : Addr) (r19 r20 : Addr) (c21 : ClassId) (r22 r23 : Addr) (c24 : ClassId) (r25 r26 : Addr) (c27 : ClassId) (r28 r29 : Addr) (c30 : ClassId) (r31 r32 : Addr) (c33 : ClassId) (r34 r35 : Addr) (c36 : ClassId) (h0 : Heap) (n0 : Nat) (O0 : Old Z n0 h0) (hc2 : ¬ ((x0 &&& (3 : Int32)) = (3 : Int32))) (hc3 : ¬ ((x0 &&& (3 : Int32)) = (0 : Int32))) (hc4 : ((((x0.toUInt32 >>> ((2 : Int32) &&& 31).toUInt32).toInt32) &&& (7 : Int32)) % (5 : Int32)) = (1 : Int32)) (f5 : Sta Z Z.heap "java/lang/String" "COMPACT_STRINGS" "Z" (.int x5)) (hc6 : ¬ (x5 = (0 : Int32))) (f7 : Sta Z Z.heap cs6 "SIOOBE_FORMATTER" cs7 u6) (hc8 : u6.isRef = true) (hq11 : (own_ch x1) = x7) (hq15 : (own_ch x2) = x8) (hq19 : (own_ch x3) = x9) (hq23 : (own_ch x4) = x10) (hc46 : ¬ ((255 : Int32) < (nar .char x7))) (f57 : Sta Z Z.heap cs0 "$VALUES" cs1 (.ref r11)) (f58 : Exa Z Z.heap r11 cs1) (f59 : Arv Z Z.heap r11 c12 (.object cs0) (6 : Int32) [(.ref r13), (.ref r14), (.ref r15), (.ref r16), (.ref r17), (.ref r18)] .null) (f60 : Fld Z Z.heap r13 cs0 "label" "Ljava/lang/String;" (.ref r19)) (f61 : Exa Z Z.heap r19 "java/lang/String") (f62 : Fld Z Z.heap r19 "java/lang/String" "coder" "B" vI0) (f63 : Fld Z Z.heap r19 "java/lang/String" "value" "[B" (.ref r20)) (f64 : Arv Z Z.heap r20 c21 .byte (3 : Int32) [vI105, vI51, vI50] vI0) (f66 : Fld Z Z.heap r14 cs0 "label" "Ljava/lang/String;" (.ref r22)) (f67 : Exa Z Z.heap r22 "java/lang/String") (f68 : Fld Z Z.heap r22 "java/lang/String" "coder" "B" vI0) (f69 : Fld Z Z.heap r22 "java/lang/String" "value" "[B" (.ref r23)) (f70 : Arv Z Z.heap r23 c24 .byte (3 : Int32) [vI117, vI51, vI50] vI0) (f71 : Fld Z Z.heap r15 cs0 "label" "Ljava/lang/String;" (.ref r25)) (f72 : Exa Z Z.heap r25 "java/lang/String") (f73 : Fld Z Z.heap r25 "java/lang/String" "coder" "B" vI0) (f74 : Fld Z Z.heap r25 "java/lang/String" "value" "[B" (.ref r26)) (f75 : Arv Z Z.heap r26 c27 .byte (3 : Int32) [vI102, vI51, vI50] vI0) (f76 : Fld Z Z.heap r16 cs0 "label" "Ljava/lang/String;" (.ref r28)) (f77 : Exa Z Z.heap r28 "java/lang/String") (f78 : Fld Z Z.heap r28 "java/lang/String" "coder" "B" vI0) (f79 : Fld Z Z.heap r28 "java/lang/String" "value" "[B" (.ref r29)) (f80 : Arv Z Z.heap r29 c30 .byte (3 : Int32) [vI102, vI54, vI52] vI0) (f81 : Fld Z Z.heap r17 cs0 "label" "Ljava/lang/String;" (.ref r31)) (f82 : Exa Z Z.heap r31 "java/lang/String") (f83 : Fld Z Z.heap r31 "java/lang/String" "coder" "B" vI0) (f84 : Fld Z Z.heap r31 "java/lang/String" "value" "[B" (.ref r32)) (f85 : Arv Z Z.heap r32 c33 .byte (4 : Int32) [vI116, vI101, vI120, vI116] vI0) (f86 : Fld Z Z.heap r18 cs0 "label" "Ljava/lang/String;" (.ref r34)) (f87 : Exa Z Z.heap r34 "java/lang/String") (f88 : Fld Z Z.heap r34 "java/lang/String" "coder" "B" vI0) (f89 : Fld Z Z.heap r34 "java/lang/String" "value" "[B" (.ref r35)) (f90 : Arv Z Z.heap r35 c36 .byte (4 : Int32) [vI103, vI117, vI105, vI100] vI0) (f98 : Sta Z Z.heap cs0 "I32" cs4 (.ref r13)) (f99 : Sta Z Z.heap cs0 "U32" cs4 (.ref r14)) (f100 : Sta Z Z.heap cs0 "F32" cs4 (.ref r15)) (f101 : Sta Z Z.heap cs0 "F64" cs4 (.ref r16)) (f102 : Sta Z Z.heap cs0 "TEXT" cs4 (.ref r17)) (f103 : Sta Z Z.heap cs0 "GUID" cs4 (.ref r18)) :
    own_MH l x code maxLocals ret ws room_1 Z h0 #[(.int x0), (.int x1), (.int x2), (.int x3), (.int x4)] (Q0_9 Z x0 x1 x2 x3 x4 x5 u6 x7 x8 x9 x10 r11 c12 r13 r14 r15 r16 r17 r18 r19 r20 c21 r22 r23 c24 r25 r26 c27 r28 r29 c30 r31 r32 c33 r34 r35 c36 h0 n0) := by
  have hEL : EW Z a0 consts_1 := own_EW hw
  refine own_openH hEL (plainFor_of_name pn_com_example_wiregather_wiregather_wire_FieldTypeOfLabelPinLaw) (L0 := #[lI x0, lI x1, lI x2, lI x3, lI x4, lU, lU, lU, lU, lU, lU, lU, lU]) (fun _ => by first | (simp [entryFrame, mkF, argsToLocals, Value.category, maxLocals]; done) | rfl) ?_
  intro p e s m below meth c s₁ hx hby hml hret hnn hZ hown X0 e0 R0
  have N0 := Fr.nil n0; have w := @ww Z a0 hw
  have hS1 := (State.WarmedH.refl s).since 0
  obtain ⟨_, _, ⟨T9, L9, k9, n9⟩, -, X9, hs9, hg9, ⟨Lc9, hQ9, l9, y9, z9, cr9⟩, st9⟩ := callSS X0 hx (y := mN11) hown (mvT hZ (w 75 rfl)) (mvT hZ (w 76 rfl)) (mvT hZ (w 2 rfl)) (mvT hZ (w 77 rfl)) (by decide) (backOfSH (s := s) (vm0 := s.vm) (W := 0) (rm13_3 l Z a0 hw [] x1 x5 u6 h0 n0 O0 f5 hc6 f7 hc8) hZ (w 77 rfl) (w 2 rfl) (by decide) (by decide) hEL R0.1) (g := (mkF m 73 #[lI x0, lI x1, lI x2, lI x3, lI x4, .val (.int (x0 &&& (3 : Int32))), lV vI1, lU, lU, lU, lU, lU, lU] [(.int x1)])) rfl (by rw [hml]; rfl) (argsL := [(.int x1)]) (rest := []) (lenOf pd__I_C rfl) rfl (own_W rfl) (hb hby at_73) (fun _ _ => ⟨rfl, e0, (by decide : 0 + 2 ≤ _), (by decide : 0 + 56 ≤ _)⟩)
  dsimp only [Pt.U, Pt.locs, Pt.cells, Pt.slots] at X9 l9 y9 z9 st9 hQ9 hs9 hg9 cr9
  subst l9 y9 z9
  obtain ⟨X9, hS9, hZ9, ho9⟩ := rebS (s := s) (vm0 := s.vm) hS1 (by rw [e0]; exact (Nat.zero_le _)) X9 hs9 hg9 hZ hown
  obtain ⟨rfl, N9q, K9⟩ := hQ9
  have N9 := Fr.app N0 N9q
  have R10 := CHr.trans R0 cr9
  have o12 := Old.keep O0 K9 all0
  obtain ⟨_, _, ⟨T13, L13, k13, n13⟩, -, X13, hs13, hg13, ⟨Lc13, hQ13, l13, y13, z13, cr13⟩, st13⟩ := callSS X9 hx (y := mN11) ho9 (mvT hZ9 (w 75 rfl)) (mvT hZ9 (w 76 rfl)) (mvT hZ9 (w 2 rfl)) (mvT hZ9 (w 77 rfl)) (by decide) (backOfSH (s := s) (vm0 := T9.vm) (W := 0) (rm13_3 l Z a0 hw [] x2 x5 u6 T9.heap n0 o12 f5 hc6 f7 hc8) hZ9 (w 77 rfl) (w 2 rfl) (by decide) (by decide) hEL R10.1) (g := (mkF m 79 #[lI x0, lI x1, lI x2, lI x3, lI x4, .val (.int (x0 &&& (3 : Int32))), lV vI1, lI x7, lU, lU, lU, lU, lU] [(.int x2)])) rfl (by rw [hml]; rfl) (argsL := [(.int x2)]) (rest := []) (lenOf pd__I_C rfl) rfl (own_W rfl) (hb hby at_79) (fun _ _ => ⟨rfl, rfl, (by decide : 2 + 2 ≤ _), (by decide : 56 + 56 ≤ _)⟩)
  dsimp only [Pt.U, Pt.locs, Pt.cells, Pt.slots] at X13 l13 y13 z13 st13 hQ13 hs13 hg13 cr13
  subst l13 y13 z13
  obtain ⟨X13, hS13, hZ13, ho13⟩ := rebS (s := s) (vm0 := T9.vm) hS9 ((Nat.le_refl _)) X13 hs13 hg13 hZ9 ho9
  obtain ⟨rfl, N13q, K13⟩ := hQ13
  have N13 := Fr.app N9 N13q
  have R14 := CHr.trans R10 cr13
  have o16 := Old.keep o12 K13 all0
  obtain ⟨_, _, ⟨T17, L17, k17, n17⟩, -, X17, hs17, hg17, ⟨Lc17, hQ17, l17, y17, z17, cr17⟩, st17⟩ := callSS X13 hx (y := mN11) ho13 (mvT hZ13 (w 75 rfl)) (mvT hZ13 (w 76 rfl)) (mvT hZ13 (w 2 rfl)) (mvT hZ13 (w 77 rfl)) (by decide) (backOfSH (s := s) (vm0 := T13.vm) (W := 0) (rm13_3 l Z a0 hw [] x3 x5 u6 T13.heap n0 o16 f5 hc6 f7 hc8) hZ13 (w 77 rfl) (w 2 rfl) (by decide) (by decide) hEL R14.1) (g := (mkF m 85 #[lI x0, lI x1, lI x2, lI x3, lI x4, .val (.int (x0 &&& (3 : Int32))), lV vI1, lI x7, lI x8, lU, lU, lU, lU] [(.int x3)])) rfl (by rw [hml]; rfl) (argsL := [(.int x3)]) (rest := []) (lenOf pd__I_C rfl) rfl (own_W rfl) (hb hby at_85) (fun _ _ => ⟨rfl, rfl, (by decide : 4 + 2 ≤ _), (by decide : 112 + 56 ≤ _)⟩)
  dsimp only [Pt.U, Pt.locs, Pt.cells, Pt.slots] at X17 l17 y17 z17 st17 hQ17 hs17 hg17 cr17
  subst l17 y17 z17
  obtain ⟨X17, hS17, hZ17, ho17⟩ := rebS (s := s) (vm0 := T13.vm) hS13 ((Nat.le_refl _)) X17 hs17 hg17 hZ13 ho13
  obtain ⟨rfl, N17q, K17⟩ := hQ17
  have N17 := Fr.app N13 N17q
  have R18 := CHr.trans R14 cr17
  have o20 := Old.keep o16 K17 all0
  obtain ⟨_, _, ⟨T21, L21, k21, n21⟩, -, X21, hs21, hg21, ⟨Lc21, hQ21, l21, y21, z21, cr21⟩, st21⟩ := callSS X17 hx (y := mN11) ho17 (mvT hZ17 (w 75 rfl)) (mvT hZ17 (w 76 rfl)) (mvT hZ17 (w 2 rfl)) (mvT hZ17 (w 77 rfl)) (by decide) (backOfSH (s := s) (vm0 := T17.vm) (W := 0) (rm13_3 l Z a0 hw [] x4 x5 u6 T17.heap n0 o20 f5 hc6 f7 hc8) hZ17 (w 77 rfl) (w 2 rfl) (by decide) (by decide) hEL R18.1) (g := (mkF m 92 #[lI x0, lI x1, lI x2, lI x3, lI x4, .val (.int (x0 &&& (3 : Int32))), lV vI1, lI x7, lI x8, lI x9, lU, lU, lU] [(.int x4)])) rfl (by rw [hml]; rfl) (argsL := [(.int x4)]) (rest := []) (lenOf pd__I_C rfl) rfl (own_W rfl) (hb hby at_92) (fun _ _ => ⟨rfl, rfl, (by decide : 6 + 2 ≤ _), (by decide : 168 + 56 ≤ _)⟩)
  dsimp only [Pt.U, Pt.locs, Pt.cells, Pt.slots] at X21 l21 y21 z21 st21 hQ21 hs21 hg21 cr21
  subst l21 y21 z21
  obtain ⟨X21, hS21, hZ21, ho21⟩ := rebS (s := s) (vm0 := T17.vm) hS17 ((Nat.le_refl _)) X21 hs21 hg21 hZ17 ho17
  obtain ⟨rfl, N21q, K21⟩ := hQ21
  have N21 := Fr.app N17 N21q
  have R22 := CHr.trans R18 cr21
  obtain ⟨T24, h24, k24, X24, e24, E24, A24, B24, st24⟩ := newPE X21 hx hZ21 (w 7 rfl) rfl (g := (mkF m 117 #[lI x0, lI x1, lI x2, lI x3, lI x4, .val (.int (x0 &&& (3 : Int32))), lV vI1, lI x7, lI x8, lI x9, lI x10, lU, lU] [vI1])) rfl (hb hby at_117) rfl (by decide) (cap := 1) (by decide) (by decide) (by decide) (by decide) (ad := "[C") rfl
  obtain ⟨b24, g24⟩ : ∃ z, z = T21.heap.size := ⟨_, rfl⟩
  have sf25 : Safe Z consts_1 T21.vm T21.heap b24 := Safe.new (Nat.le_of_eq g24.symm)
  rw [← g24] at A24 B24 st24
  have R26 := CHr.trans R22 (CHr.ext E24 R22.1)
  have V24 : Arv Z h24 b24 k24 .char (1 : Int32) [vI0] vI0 := (Arv.new A24 (by decide)).pad (pad_rep [] vI0 1)
  obtain ⟨clq27, Arq27, qq27, Sq27, Nq27, Hq27, Gq27⟩ := id V24
  have o29 := Old.keep o20 K21 all0
  have zz28 : n0 ≤ T21.heap.size := by rw [← o29.1]; exact o29.2.1
  have g30 := Nat.le_trans zz28 (Nat.le_of_eq g24.symm)
  obtain ⟨T31, h31, X31, e31, W31, st31⟩ := stC X24 hx hZ21 e24 Arq27 (j := (0 : Int32)) (inb_of Sq27 ⟨(by decide : ¬ ((0 : Int32) < (0 : Int32))), (by decide : (0 : Int32) < (1 : Int32))⟩) (g := (mkF m 123 #[lI x0, lI x1, lI x2, lI x3, lI x4, .val (.int (x0 &&& (3 : Int32))), lV vI1, lI x7, lI x8, lI x9, lI x10, lU, lU] [(.int x7), vI0, (.ref b24), (.ref b24)])) rfl rfl (hb hby at_123)
  have sf32 : Safe Z consts_1 T21.vm h24 b24 := (Safe.exa hZ21.alike B24 (by decide) (by decide))
  have R33 := CHr.trans R26 (CHr.wr W31 sf32 R26.1)
  have V31 : Arv Z h31 b24 k24 .char (1 : Int32) [(.int (nar .char x7))] vI0 := Arv.set Arq27 qq27 Sq27 Nq27 Hq27 Gq27 (fits_nar_char _) W31 0 rfl (Nat.le_of_ble_eq_true rfl)
  have N31 := Fr.snoc X31 N21 g30
  obtain ⟨T34, h34, X34, e34, E34, A34, D34, -, st34⟩ := newO X31 hx hZ21 ho21 (w 4 rfl) (w 5 rfl) (w 6 rfl) e31 (g := (mkF m 207 #[lI x0, lI x1, lI x2, lI x3, lI x4, .val (.int (x0 &&& (3 : Int32))), lV vI1, lI x7, lI x8, lI x9, lI x10, lR b24, lU] [])) rfl (hb hby at_207) (by decide) (by decide)
  obtain ⟨b34, g34⟩ : ∃ z, z = h31.size := ⟨_, rfl⟩
  have sf35 : Safe Z consts_1 T21.vm h31 b34 := Safe.new (Nat.le_of_eq g34.symm)
  rw [← g34] at A34 D34 st34
  have R36 := CHr.trans R33 (CHr.ext E34 R33.1)
  have f37 : Fld Z h34 b34 "java/lang/String" "coder" "B" vI0 := D34 (Or.inr (w 31 rfl)) (ty := .byte) (by decide)
  have f38 : Fld Z h34 b34 "java/lang/String" "value" "[B" .null := D34 (Or.inr (w 33 rfl)) (ty := (.array .byte)) (by decide)
  have f39 := (V31.ext E34)
  have o40 := Old.ext o29 E24
  have o41 := Old.wr o40 W31 g30
  have o42 := Old.ext o41 E34
  have f43 := f5.ext o42.2
  have zz44 : n0 ≤ h31.size := by rw [← o41.1]; exact o41.2.1
  have g45 := Nat.le_trans zz44 (Nat.le_of_eq g34.symm)
  obtain ⟨_, T47, Lc47, X47, hQ47, st47⟩ := own_fin (X34.specialBack hx (y := mN4) rfl ho21 (mvT hZ21 (w 8 rfl)) (mvT hZ21 (w 9 rfl)) (mvT hZ21 (w 10 rfl)) (by decide) (own_newStr hZ21 hw (w 5 rfl) (cs := [(nar .char x7)]) (n := 1) g45 A34 f38 f37 f39 f43 hc6 rfl rfl (by decide) (by decide) (own_acS hc46 own_ac0) (own_bsS rfl own_bs0) (by decide) (by decide : 1 + 65 ≤ _)) (g := (mkF m 213 #[lI x0, lI x1, lI x2, lI x3, lI x4, .val (.int (x0 &&& (3 : Int32))), lV vI1, lI x7, lI x8, lI x9, lI x10, lR b24, lU] [(.ref b24), (.ref b34), (.ref b34)])) rfl (by rw [hml]; rfl) (Steps.refl _) (a := b34) (argsL := [(.ref b24)]) (rest := [(.ref b34)]) (lenOf pd___C_V rfl) rfl (own_W rfl) (hb hby at_213) (fun _ _ => ⟨rfl, e34, (by decide : 10 + 1 ≤ _), (by decide : 229 + 1 ≤ _)⟩))
  obtain ⟨b47_0, k47_0, rfl, N47q, K47, f48, f49, f50, f51, f52, f53⟩ := hQ47
  have N47 := Fr.app N31 N47q
  have sf54 := (Safe.ext E34 R33.1 sf35)
  have R55 := CHr.trans R36 (CHr.keep K47 (sfS sf54 sf0) R36.1)
  have sf56 : Safe Z consts_1 T21.vm h34 b47_0 := Safe.new f50
  have f65 := (A34.keep K47)
  have o91 := Old.keep o42 K47 (allS g45 all0)
  obtain ⟨_, T92, Lc92, X92, hQ92, st92⟩ := own_cS X47 hx hZ21 ho21 rfl (rm8_9 l Z a0 hw [] b34 b47_0 k47_0 (1 : Int32) ([((nar .char x7).toInt8.toInt32)]) r11 c12 r13 r14 r15 r16 r17 r18 r19 r20 c21 x5 r22 r23 c24 r25 r26 c27 r28 r29 c30 r31 r32 c33 r34 r35 c36 T47.heap n0 o91 f49 f51 f57 f58 f59 f60 f61 f62 f63 f64 f65 f48 (rfl : (1 : Int32) = Int32.ofNat [((nar .char x7).toInt8.toInt32)].length) (Nat.le_of_ble_eq_true rfl : [((nar .char x7).toInt8.toInt32)].length ≤ 4000) f5 hc6 f66 f67 f68 f69 f70 f71 f72 f73 f74 f75 f76 f77 f78 f79 f80 f81 f82 f83 f84 f85 f86 f87 f88 f89 f90) (w 34 rfl) (w 35 rfl) (w 36 rfl) (w 37 rfl) (by decide) (W := 0) (by decide) (by decide) (by decide) (by decide) (g := (mkF m 220 #[lI x0, lI x1, lI x2, lI x3, lI x4, .val (.int (x0 &&& (3 : Int32))), lV vI1, lI x7, lI x8, lI x9, lI x10, lR b24, lR b34] [(.ref b34)])) rfl (by rw [hml]; rfl) (argsL := [(.ref b34)]) (rest := []) (lenOf pd__Ljava_lang_String__Lcom_example_wiregather_wiregather_wire_FieldType_ rfl) rfl (own_W rfl) (hb hby at_220)
  obtain ⟨rfl, N92q, K92⟩ := hQ92
  have N92 := Fr.app N47 N92q
  have R93 := CHr.trans R55 (CHr.keep K92 sf0 R55.1)
  have f94 := (f49.keep K92 nin0)
  have f95 := (f51.keep K92 nin0)
  have f96 := (f65.keep K92)
  have f97 := (f48.keep K92 nin0)
  have o104 := Old.keep o91 K92 all0
  obtain ⟨_, _, ⟨T105, L105, k105, n105⟩, -, X105, hs105, hg105, ⟨Lc105, hQ105, l105, y105, z105, cr105⟩, st105⟩ := callSS X92 hx (y := mN13) ho21 (mvT hZ21 (w 102 rfl)) (mvT hZ21 (w 103 rfl)) (mvT hZ21 (w 2 rfl)) (mvT hZ21 (w 104 rfl)) (by decide) (backOfSH (s := s) (vm0 := T21.vm) (W := 1) (rm19_8 l Z a0 hw [] b34 b47_0 k47_0 (1 : Int32) ([((nar .char x7).toInt8.toInt32)]) x5 r13 r14 r15 r16 r17 r18 T92.heap n0 o104 f94 f95 f96 f97 (rfl : (1 : Int32) = Int32.ofNat [((nar .char x7).toInt8.toInt32)].length) (Nat.le_of_ble_eq_true rfl : [((nar .char x7).toInt8.toInt32)].length ≤ 4000) f5 hc6 f98 f99 f100 f101 f102 f103) hZ21 (w 104 rfl) (w 2 rfl) (by decide) (by decide) hEL R93.1) (g := (mkF m 225 #[lI x0, lI x1, lI x2, lI x3, lI x4, .val (.int (x0 &&& (3 : Int32))), lV vI1, lI x7, lI x8, lI x9, lI x10, lR b24, lR b34] [(.ref b34), (own_lab [((nar .char x7).toInt8.toInt32)] r13 r14 r15 r16 r17 r18)])) rfl (by rw [hml]; rfl) (argsL := [(.ref b34)]) (rest := [(own_lab [((nar .char x7).toInt8.toInt32)] r13 r14 r15 r16 r17 r18)]) (lenOf pd__Ljava_lang_String__Lcom_example_wiregather_wiregather_wire_FieldType_ rfl) rfl (by show 2 * 0 + _ ≤ _; simp only [List.map, own_qcat]; exact Nat.le_of_eq rfl) (hb hby at_225) (fun _ _ => ⟨rfl, rfl, (by decide : 12 + 12 ≤ _), (by decide : 236 + 120 ≤ _)⟩)
  dsimp only [Pt.U, Pt.locs, Pt.cells, Pt.slots] at X105 l105 y105 z105 st105 hQ105 hs105 hg105 cr105
  subst l105 y105 z105
  have zs106 := E24.1
  have zs107 := Nat.le_trans zs106 (Nat.le_of_eq W31.size.symm)
  have zs108 := Nat.le_trans zs107 E34.1
  have zs109 := Nat.le_trans zs108 K47.1
  have zs110 := Nat.le_trans zs109 K92.1
  obtain ⟨X105, hS105, hZ105, ho105⟩ := rebS (s := s) (vm0 := T21.vm) hS21 ((Nat.le_trans (Nat.le_refl _) zs110)) X105 hs105 hg105 hZ21 ho21
  obtain ⟨rfl, N105q, K105⟩ := hQ105
  have N105 := Fr.app N92 N105q
  have R111 := CHr.trans R93 cr105
  refine ⟨some vI1, _, _, _, _, _, _, _, nofun, X105, by decide, by decide, hS105, ((Nat.le_refl _)), hZ105, rfl, R111, ?_, fun fs hr => ?_⟩
  · exact ⟨rfl, N105⟩
  · show SG p e below s₁ (mkF m 0 #[lI x0, lI x1, lI x2, lI x3, lI x4, lU, lU, lU, lU, lU, lU, lU, lU] []) _
    refine qiN X0 hx hby at_0 ?_
    refine qc X0 hx hby at_1 ?_
    refine XS.iand X0.here hx rfl (hb hby at_2) rfl ?_
    refine XS.istore X0.here hx rfl (hb hby at_3) rfl (l' := #[lI x0, lI x1, lI x2, lI x3, lI x4, .val (.int (x0 &&& (3 : Int32))), lU, lU, lU, lU, lU, lU, lU]) rfl ?_
    refine qi X0 hx hby at_5 ?_
    refine qc X0 hx hby at_7 ?_
    refine XS.icmpYes X0.here hx rfl (pc0 := 8) (pc' := 24) rfl (hb hby at_8) rfl (feq hc2).2 (by decide) (by decide) ?_
    show SG p e below s₁ (mkF m 24 #[lI x0, lI x1, lI x2, lI x3, lI x4, .val (.int (x0 &&& (3 : Int32))), lU, lU, lU, lU, lU, lU, lU] []) _
    refine qi X0 hx hby at_24 ?_
    refine XS.ifYes X0.here hx rfl (pc0 := 26) (pc' := 62) rfl (hb hby at_26) rfl ((if0 _ _).trans (feq hc3).2) (by decide) (by decide) ?_
    show SG p e below s₁ (mkF m 62 #[lI x0, lI x1, lI x2, lI x3, lI x4, .val (.int (x0 &&& (3 : Int32))), lU, lU, lU, lU, lU, lU, lU] []) _
    refine qiN X0 hx hby at_62 ?_
    refine qc X0 hx hby at_63 ?_
    refine XS.iushr X0.here hx rfl (hb hby at_64) rfl ?_
    refine qb X0 hx hby at_65 ?_
    refine XS.iand X0.here hx rfl (hb hby at_67) rfl ?_
    refine qc X0 hx hby at_68 ?_
    refine iremM (g := (mkF m 69 #[lI x0, lI x1, lI x2, lI x3, lI x4, .val (.int (x0 &&& (3 : Int32))), lU, lU, lU, lU, lU, lU, lU] [vI5, (.int (((x0.toUInt32 >>> ((2 : Int32) &&& 31).toUInt32).toInt32) &&& (7 : Int32)))])) X0 hx rfl (hb hby at_69) rfl (by decide : ¬ ((5 : Int32) = (0 : Int32))) ?_
    show SG p e below s₁ (mkF m 70 #[lI x0, lI x1, lI x2, lI x3, lI x4, .val (.int (x0 &&& (3 : Int32))), lU, lU, lU, lU, lU, lU, lU] [(.int ((((x0.toUInt32 >>> ((2 : Int32) &&& 31).toUInt32).toInt32) &&& (7 : Int32)) % (5 : Int32)))]) _
    rw [hc4]
    show SG p e below s₁ (mkF m 70 #[lI x0, lI x1, lI x2, lI x3, lI x4, .val (.int (x0 &&& (3 : Int32))), lU, lU, lU, lU, lU, lU, lU] [vI1]) _
    refine XS.istore X0.here hx rfl (hb hby at_70) rfl (l' := #[lI x0, lI x1, lI x2, lI x3, lI x4, .val (.int (x0 &&& (3 : Int32))), lV vI1, lU, lU, lU, lU, lU, lU]) rfl ?_
    refine qiN X0 hx hby at_72 ?_
    refine st9.trans ?_
    show SG p e below T9 (mkF m 76 #[lI x0, lI x1, lI x2, lI x3, lI x4, .val (.int (x0 &&& (3 : Int32))), lV vI1, lU, lU, lU, lU, lU, lU] [(.int (own_ch x1))]) _
    rw [hq11]
    show SG p e below T9 (mkF m 76 #[lI x0, lI x1, lI x2, lI x3, lI x4, .val (.int (x0 &&& (3 : Int32))), lV vI1, lU, lU, lU, lU, lU, lU] [(.int x7)]) _
    refine XS.istore X9.here hx rfl (hb hby at_76) rfl (l' := #[lI x0, lI x1, lI x2, lI x3, lI x4, .val (.int (x0 &&& (3 : Int32))), lV vI1, lI x7, lU, lU, lU, lU, lU]) rfl ?_
    refine qiN X9 hx hby at_78 ?_
    refine st13.trans ?_
    show SG p e below T13 (mkF m 82 #[lI x0, lI x1, lI x2, lI x3, lI x4, .val (.int (x0 &&& (3 : Int32))), lV vI1, lI x7, lU, lU, lU, lU, lU] [(.int (own_ch x2))]) _
    rw [hq15]
    show SG p e below T13 (mkF m 82 #[lI x0, lI x1, lI x2, lI x3, lI x4, .val (.int (x0 &&& (3 : Int32))), lV vI1, lI x7, lU, lU, lU, lU, lU] [(.int x8)]) _
    refine XS.istore X13.here hx rfl (hb hby at_82) rfl (l' := #[lI x0, lI x1, lI x2, lI x3, lI x4, .val (.int (x0 &&& (3 : Int32))), lV vI1, lI x7, lI x8, lU, lU, lU, lU]) rfl ?_
    refine qiN X13 hx hby at_84 ?_
    refine st17.trans ?_
    show SG p e below T17 (mkF m 88 #[lI x0, lI x1, lI x2, lI x3, lI x4, .val (.int (x0 &&& (3 : Int32))), lV vI1, lI x7, lI x8, lU, lU, lU, lU] [(.int (own_ch x3))]) _
    rw [hq19]
    show SG p e below T17 (mkF m 88 #[lI x0, lI x1, lI x2, lI x3, lI x4, .val (.int (x0 &&& (3 : Int32))), lV vI1, lI x7, lI x8, lU, lU, lU, lU] [(.int x9)]) _
    refine XS.istore X17.here hx rfl (hb hby at_88) rfl (l' := #[lI x0, lI x1, lI x2, lI x3, lI x4, .val (.int (x0 &&& (3 : Int32))), lV vI1, lI x7, lI x8, lI x9, lU, lU, lU]) rfl ?_
    refine qi X17 hx hby at_90 ?_
    refine st21.trans ?_
    show SG p e below T21 (mkF m 95 #[lI x0, lI x1, lI x2, lI x3, lI x4, .val (.int (x0 &&& (3 : Int32))), lV vI1, lI x7, lI x8, lI x9, lU, lU, lU] [(.int (own_ch x4))]) _
    rw [hq23]
    show SG p e below T21 (mkF m 95 #[lI x0, lI x1, lI x2, lI x3, lI x4, .val (.int (x0 &&& (3 : Int32))), lV vI1, lI x7, lI x8, lI x9, lU, lU, lU] [(.int x10)]) _
    refine XS.istore X21.here hx rfl (hb hby at_95) rfl (l' := #[lI x0, lI x1, lI x2, lI x3, lI x4, .val (.int (x0 &&& (3 : Int32))), lV vI1, lI x7, lI x8, lI x9, lI x10, lU, lU]) rfl ?_
    refine qi X21 hx hby at_97 ?_
    refine XS.ifYes X21.here hx rfl (pc0 := 99) (pc' := 110) rfl (hb hby at_99) rfl ((if0 _ _).trans (feq (by decide : ¬ ((1 : Int32) = (0 : Int32)))).2) (by decide) (by decide) ?_
    show SG p e below T21 (mkF m 110 #[lI x0, lI x1, lI x2, lI x3, lI x4, .val (.int (x0 &&& (3 : Int32))), lV vI1, lI x7, lI x8, lI x9, lI x10, lU, lU] []) _
    refine qi X21 hx hby at_110 ?_
    refine qc X21 hx hby at_112 ?_
    refine XS.icmpNo X21.here hx rfl (hb hby at_113) rfl (teq (rfl : (1 : Int32) = (1 : Int32))).2 ?_
    refine qc X21 hx hby at_116 ?_
    refine st24 _ ?_
    show SG p e below T24 (mkF m 119 #[lI x0, lI x1, lI x2, lI x3, lI x4, .val (.int (x0 &&& (3 : Int32))), lV vI1, lI x7, lI x8, lI x9, lI x10, lU, lU] [(.ref b24)]) _
    refine qd X24 hx hby at_119 ?_
    refine qc X24 hx hby at_120 ?_
    refine qi X24 hx hby at_121 ?_
    refine st31 _ ?_
    show SG p e below T31 (mkF m 124 #[lI x0, lI x1, lI x2, lI x3, lI x4, .val (.int (x0 &&& (3 : Int32))), lV vI1, lI x7, lI x8, lI x9, lI x10, lU, lU] [(.ref b24)]) _
    refine XS.astore X31.here hx rfl (hb hby at_124) rfl rfl (l' := #[lI x0, lI x1, lI x2, lI x3, lI x4, .val (.int (x0 &&& (3 : Int32))), lV vI1, lI x7, lI x8, lI x9, lI x10, lR b24, lU]) rfl ?_
    refine XS.goto X31.here hx rfl (pc0 := 126) (pc' := 207) rfl (hb hby at_126) (by decide) (by decide) ?_
    show SG p e below T31 (mkF m 207 #[lI x0, lI x1, lI x2, lI x3, lI x4, .val (.int (x0 &&& (3 : Int32))), lV vI1, lI x7, lI x8, lI x9, lI x10, lR b24, lU] []) _
    refine st34 _ ?_
    show SG p e below T34 (mkF m 210 #[lI x0, lI x1, lI x2, lI x3, lI x4, .val (.int (x0 &&& (3 : Int32))), lV vI1, lI x7, lI x8, lI x9, lI x10, lR b24, lU] [(.ref b34)]) _
    refine qd X34 hx hby at_210 ?_
    refine qa X34 hx hby at_211 ?_
    refine st47.trans ?_
    show SG p e below T47 (mkF m 216 #[lI x0, lI x1, lI x2, lI x3, lI x4, .val (.int (x0 &&& (3 : Int32))), lV vI1, lI x7, lI x8, lI x9, lI x10, lR b24, lU] [(.ref b34)]) _
    refine XS.astore X47.here hx rfl (hb hby at_216) rfl rfl (l' := #[lI x0, lI x1, lI x2, lI x3, lI x4, .val (.int (x0 &&& (3 : Int32))), lV vI1, lI x7, lI x8, lI x9, lI x10, lR b24, lR b34]) rfl ?_
    refine qa X47 hx hby at_218 ?_
    refine st92 _ ?_
    show SG p e below T92 (mkF m 223 #[lI x0, lI x1, lI x2, lI x3, lI x4, .val (.int (x0 &&& (3 : Int32))), lV vI1, lI x7, lI x8, lI x9, lI x10, lR b24, lR b34] [(own_lab [((nar .char x7).toInt8.toInt32)] r13 r14 r15 r16 r17 r18)]) _
    refine qa X92 hx hby at_223 ?_
    refine st105.trans ?_
    show SG p e below T105 (mkF m 228 #[lI x0, lI x1, lI x2, lI x3, lI x4, .val (.int (x0 &&& (3 : Int32))), lV vI1, lI x7, lI x8, lI x9, lI x10, lR b24, lR b34] [(own_lab [((nar .char x7).toInt8.toInt32)] r13 r14 r15 r16 r17 r18), (own_lab [((nar .char x7).toInt8.toInt32)] r13 r14 r15 r16 r17 r18)]) _
    refine Jvm.RoadKit.acmp (g := (mkF m 228 #[lI x0, lI x1, lI x2, lI x3, lI x4, .val (.int (x0 &&& (3 : Int32))), lV vI1, lI x7, lI x8, lI x9, lI x10, lR b24, lR b34] [(own_lab [((nar .char x7).toInt8.toInt32)] r13 r14 r15 r16 r17 r18), (own_lab [((nar .char x7).toInt8.toInt32)] r13 r14 r15 r16 r17 r18)])) X105 hx rfl (own_labRef) (own_labRef) (pc0 := 228) (pc' := 231) (same := true) rfl (hb hby at_228) rfl (decide_eq_true rfl) (by decide) (by decide) ?_
    show SG p e below T105 (mkF m 231 #[lI x0, lI x1, lI x2, lI x3, lI x4, .val (.int (x0 &&& (3 : Int32))), lV vI1, lI x7, lI x8, lI x9, lI x10, lR b24, lR b34] []) _
    refine qc X105 hx hby at_231 ?_
    refine XS.goto X105.here hx rfl (pc0 := 232) (pc' := 236) rfl (hb hby at_232) (by decide) (by decide) ?_
    show SG p e below T105 (mkF m 236 #[lI x0, lI x1, lI x2, lI x3, lI x4, .val (.int (x0 &&& (3 : Int32))), lV vI1, lI x7, lI x8, lI x9, lI x10, lR b24, lR b34] [vI1]) _
    exact retN X105 hx (t := .boolean) hret (by simp) (hb hby at_236) hr
def Q0_10 (Z : State) (x0 x1 : Int32) (x2 x3 : Int32) (x4 x5 : Int32) (u6 : Value) (x7 x8 : Int32) (x9 x10 : Int32) (r11 : Addr) (c12 : ClassId) (r13 r14 : Addr) (r15 r16 : Addr) (r17 r18 : Addr) (r19 r20 : Addr) (c21 : ClassId) (r22 r23 : Addr) (c24 : ClassId) (r25 r26 : Addr) (c27 : ClassId) (r28 r29 : Addr) (c30 : ClassId) (r31 r32 : Addr) (c33 : ClassId) (r34 r35 : Addr) (c36 : ClassId) (h0 : Heap) (n0 : Nat) (v : Option Value) (h : Heap) (L : List Loc) : Prop := v = some vI1 ∧ Fr n0 L
theorem rm0_10 (l : Launch) (Z : State) (a0 : Array Value) (hw : own_HW a0 Z) (ws : List Jvm.Cond) (x0 x1 : Int32) (x2 x3 : Int32) (x4 x5 : Int32) (u6 : Value) (x7 x8 : Int32) (x9 x10 : Int32) (r11 : Addr) (c12 : ClassId) (r13 r14 : Addr) (r15 r16 : Addr) (r17 r18 : Addr) (r19 r20 : Addr) (c21 : ClassId) (r22 r23 : Addr) (c24 : ClassId) (r25 r26 : Addr) (c27 : ClassId) (r28 r29 : Addr) (c30 : ClassId) (r31 r32 : Addr) (c33 : ClassId) (r34 r35 : Addr) (c36 : ClassId) (h0 : Heap) (n0 : Nat) (O0 : Old Z n0 h0) (hc2 : ¬ ((x0 &&& (3 : Int32)) = (3 : Int32))) (hc3 : ¬ ((x0 &&& (3 : Int32)) = (0 : Int32))) (hc4 : ((((x0.toUInt32 >>> ((2 : Int32) &&& 31).toUInt32).toInt32) &&& (7 : Int32)) % (5 : Int32)) = (2 : Int32)) (f5 : Sta Z Z.heap "java/lang/String" "COMPACT_STRINGS" "Z" (.int x5)) (hc6 : ¬ (x5 = (0 : Int32))) (f7 : Sta Z Z.heap cs6 "SIOOBE_FORMATTER" cs7 u6) (hc8 : u6.isRef = true) (hq11 : (own_ch x1) = x7) (hq15 : (own_ch x2) = x8) (hq19 : (own_ch x3) = x9) (hq23 : (own_ch x4) = x10) (hc52 : ¬ ((255 : Int32) < (nar .char x7))) (hc53 : ¬ ((255 : Int32) < (nar .char x8))) (f64 : Sta Z Z.heap cs0 "$VALUES" cs1 (.ref r11)) (f65 : Exa Z Z.heap r11 cs1) (f66 : Arv Z Z.heap r11 c12 (.object cs0) (6 : Int32) [(.ref r13), (.ref r14), (.ref r15), (.ref r16), (.ref r17), (.ref r18)] .null) (f67 : Fld Z Z.heap r13 cs0 "label" "Ljava/lang/String;" (.ref r19)) (f68 : Exa Z Z.heap r19 "java/lang/String") (f69 : Fld Z Z.heap r19 "java/lang/String" "coder" "B" vI0) (f70 : Fld Z Z.heap r19 "java/lang/String" "value" "[B" (.ref r20)) (f71 : Arv Z Z.heap r20 c21 .byte (3 : Int32) [vI105, vI51, vI50] vI0) (f73 : Fld Z Z.heap r14 cs0 "label" "Ljava/lang/String;" (.ref r22)) (f74 : Exa Z Z.heap r22 "java/lang/String") (f75 : Fld Z Z.heap r22 "java/lang/String" "coder" "B" vI0) (f76 : Fld Z Z.heap r22 "java/lang/String" "value" "[B" (.ref r23)) (f77 : Arv Z Z.heap r23 c24 .byte (3 : Int32) [vI117, vI51, vI50] vI0) (f78 : Fld Z Z.heap r15 cs0 "label" "Ljava/lang/String;" (.ref r25)) (f79 : Exa Z Z.heap r25 "java/lang/String") (f80 : Fld Z Z.heap r25 "java/lang/String" "coder" "B" vI0) (f81 : Fld Z Z.heap r25 "java/lang/String" "value" "[B" (.ref r26)) (f82 : Arv Z Z.heap r26 c27 .byte (3 : Int32) [vI102, vI51, vI50] vI0) (f83 : Fld Z Z.heap r16 cs0 "label" "Ljava/lang/String;" (.ref r28)) (f84 : Exa Z Z.heap r28 "java/lang/String") (f85 : Fld Z Z.heap r28 "java/lang/String" "coder" "B" vI0) (f86 : Fld Z Z.heap r28 "java/lang/String" "value" "[B" (.ref r29)) (f87 : Arv Z Z.heap r29 c30 .byte (3 : Int32) [vI102, vI54, vI52] vI0) (f88 : Fld Z Z.heap r17 cs0 "label" "Ljava/lang/String;" (.ref r31)) (f89 : Exa Z Z.heap r31 "java/lang/String") (f90 : Fld Z Z.heap r31 "java/lang/String" "coder" "B" vI0) (f91 : Fld Z Z.heap r31 "java/lang/String" "value" "[B" (.ref r32)) (f92 : Arv Z Z.heap r32 c33 .byte (4 : Int32) [vI116, vI101, vI120, vI116] vI0) (f93 : Fld Z Z.heap r18 cs0 "label" "Ljava/lang/String;" (.ref r34)) (f94 : Exa Z Z.heap r34 "java/lang/String") (f95 : Fld Z Z.heap r34 "java/lang/String" "coder" "B" vI0) (f96 : Fld Z Z.heap r34 "java/lang/String" "value" "[B" (.ref r35)) (f97 : Arv Z Z.heap r35 c36 .byte (4 : Int32) [vI103, vI117, vI105, vI100] vI0) (f105 : Sta Z Z.heap cs0 "I32" cs4 (.ref r13)) (f106 : Sta Z Z.heap cs0 "U32" cs4 (.ref r14)) (f107 : Sta Z Z.heap cs0 "F32" cs4 (.ref r15)) (f108 : Sta Z Z.heap cs0 "F64" cs4 (.ref r16)) (f109 : Sta Z Z.heap cs0 "TEXT" cs4 (.ref r17)) (f110 : Sta Z Z.heap cs0 "GUID" cs4 (.ref r18)) :
    own_MH l x code maxLocals ret ws room_1 Z h0 #[(.int x0), (.int x1), (.int x2), (.int x3), (.int x4)] (Q0_10 Z x0 x1 x2 x3 x4 x5 u6 x7 x8 x9 x10 r11 c12 r13 r14 r15 r16 r17 r18 r19 r20 c21 r22 r23 c24 r25 r26 c27 r28 r29 c30 r31 r32 c33 r34 r35 c36 h0 n0) := by
  have hEL : EW Z a0 consts_1 := own_EW hw
  refine own_openH hEL (plainFor_of_name pn_com_example_wiregather_wiregather_wire_FieldTypeOfLabelPinLaw) (L0 := #[lI x0, lI x1, lI x2, lI x3, lI x4, lU, lU, lU, lU, lU, lU, lU, lU]) (fun _ => by first | (simp [entryFrame, mkF, argsToLocals, Value.category, maxLocals]; done) | rfl) ?_
  intro p e s m below meth c s₁ hx hby hml hret hnn hZ hown X0 e0 R0
  have N0 := Fr.nil n0; have w := @ww Z a0 hw
  have hS1 := (State.WarmedH.refl s).since 0
  obtain ⟨_, _, ⟨T9, L9, k9, n9⟩, -, X9, hs9, hg9, ⟨Lc9, hQ9, l9, y9, z9, cr9⟩, st9⟩ := callSS X0 hx (y := mN11) hown (mvT hZ (w 75 rfl)) (mvT hZ (w 76 rfl)) (mvT hZ (w 2 rfl)) (mvT hZ (w 77 rfl)) (by decide) (backOfSH (s := s) (vm0 := s.vm) (W := 0) (rm13_3 l Z a0 hw [] x1 x5 u6 h0 n0 O0 f5 hc6 f7 hc8) hZ (w 77 rfl) (w 2 rfl) (by decide) (by decide) hEL R0.1) (g := (mkF m 73 #[lI x0, lI x1, lI x2, lI x3, lI x4, .val (.int (x0 &&& (3 : Int32))), lV vI2, lU, lU, lU, lU, lU, lU] [(.int x1)])) rfl (by rw [hml]; rfl) (argsL := [(.int x1)]) (rest := []) (lenOf pd__I_C rfl) rfl (own_W rfl) (hb hby at_73) (fun _ _ => ⟨rfl, e0, (by decide : 0 + 2 ≤ _), (by decide : 0 + 56 ≤ _)⟩)
  dsimp only [Pt.U, Pt.locs, Pt.cells, Pt.slots] at X9 l9 y9 z9 st9 hQ9 hs9 hg9 cr9
  subst l9 y9 z9
  obtain ⟨X9, hS9, hZ9, ho9⟩ := rebS (s := s) (vm0 := s.vm) hS1 (by rw [e0]; exact (Nat.zero_le _)) X9 hs9 hg9 hZ hown
  obtain ⟨rfl, N9q, K9⟩ := hQ9
  have N9 := Fr.app N0 N9q
  have R10 := CHr.trans R0 cr9
  have o12 := Old.keep O0 K9 all0
  obtain ⟨_, _, ⟨T13, L13, k13, n13⟩, -, X13, hs13, hg13, ⟨Lc13, hQ13, l13, y13, z13, cr13⟩, st13⟩ := callSS X9 hx (y := mN11) ho9 (mvT hZ9 (w 75 rfl)) (mvT hZ9 (w 76 rfl)) (mvT hZ9 (w 2 rfl)) (mvT hZ9 (w 77 rfl)) (by decide) (backOfSH (s := s) (vm0 := T9.vm) (W := 0) (rm13_3 l Z a0 hw [] x2 x5 u6 T9.heap n0 o12 f5 hc6 f7 hc8) hZ9 (w 77 rfl) (w 2 rfl) (by decide) (by decide) hEL R10.1) (g := (mkF m 79 #[lI x0, lI x1, lI x2, lI x3, lI x4, .val (.int (x0 &&& (3 : Int32))), lV vI2, lI x7, lU, lU, lU, lU, lU] [(.int x2)])) rfl (by rw [hml]; rfl) (argsL := [(.int x2)]) (rest := []) (lenOf pd__I_C rfl) rfl (own_W rfl) (hb hby at_79) (fun _ _ => ⟨rfl, rfl, (by decide : 2 + 2 ≤ _), (by decide : 56 + 56 ≤ _)⟩)
  dsimp only [Pt.U, Pt.locs, Pt.cells, Pt.slots] at X13 l13 y13 z13 st13 hQ13 hs13 hg13 cr13
  subst l13 y13 z13
  obtain ⟨X13, hS13, hZ13, ho13⟩ := rebS (s := s) (vm0 := T9.vm) hS9 ((Nat.le_refl _)) X13 hs13 hg13 hZ9 ho9
  obtain ⟨rfl, N13q, K13⟩ := hQ13
  have N13 := Fr.app N9 N13q
  have R14 := CHr.trans R10 cr13
  have o16 := Old.keep o12 K13 all0
  obtain ⟨_, _, ⟨T17, L17, k17, n17⟩, -, X17, hs17, hg17, ⟨Lc17, hQ17, l17, y17, z17, cr17⟩, st17⟩ := callSS X13 hx (y := mN11) ho13 (mvT hZ13 (w 75 rfl)) (mvT hZ13 (w 76 rfl)) (mvT hZ13 (w 2 rfl)) (mvT hZ13 (w 77 rfl)) (by decide) (backOfSH (s := s) (vm0 := T13.vm) (W := 0) (rm13_3 l Z a0 hw [] x3 x5 u6 T13.heap n0 o16 f5 hc6 f7 hc8) hZ13 (w 77 rfl) (w 2 rfl) (by decide) (by decide) hEL R14.1) (g := (mkF m 85 #[lI x0, lI x1, lI x2, lI x3, lI x4, .val (.int (x0 &&& (3 : Int32))), lV vI2, lI x7, lI x8, lU, lU, lU, lU] [(.int x3)])) rfl (by rw [hml]; rfl) (argsL := [(.int x3)]) (rest := []) (lenOf pd__I_C rfl) rfl (own_W rfl) (hb hby at_85) (fun _ _ => ⟨rfl, rfl, (by decide : 4 + 2 ≤ _), (by decide : 112 + 56 ≤ _)⟩)
  dsimp only [Pt.U, Pt.locs, Pt.cells, Pt.slots] at X17 l17 y17 z17 st17 hQ17 hs17 hg17 cr17
  subst l17 y17 z17
  obtain ⟨X17, hS17, hZ17, ho17⟩ := rebS (s := s) (vm0 := T13.vm) hS13 ((Nat.le_refl _)) X17 hs17 hg17 hZ13 ho13
  obtain ⟨rfl, N17q, K17⟩ := hQ17
  have N17 := Fr.app N13 N17q
  have R18 := CHr.trans R14 cr17
  have o20 := Old.keep o16 K17 all0
  obtain ⟨_, _, ⟨T21, L21, k21, n21⟩, -, X21, hs21, hg21, ⟨Lc21, hQ21, l21, y21, z21, cr21⟩, st21⟩ := callSS X17 hx (y := mN11) ho17 (mvT hZ17 (w 75 rfl)) (mvT hZ17 (w 76 rfl)) (mvT hZ17 (w 2 rfl)) (mvT hZ17 (w 77 rfl)) (by decide) (backOfSH (s := s) (vm0 := T17.vm) (W := 0) (rm13_3 l Z a0 hw [] x4 x5 u6 T17.heap n0 o20 f5 hc6 f7 hc8) hZ17 (w 77 rfl) (w 2 rfl) (by decide) (by decide) hEL R18.1) (g := (mkF m 92 #[lI x0, lI x1, lI x2, lI x3, lI x4, .val (.int (x0 &&& (3 : Int32))), lV vI2, lI x7, lI x8, lI x9, lU, lU, lU] [(.int x4)])) rfl (by rw [hml]; rfl) (argsL := [(.int x4)]) (rest := []) (lenOf pd__I_C rfl) rfl (own_W rfl) (hb hby at_92) (fun _ _ => ⟨rfl, rfl, (by decide : 6 + 2 ≤ _), (by decide : 168 + 56 ≤ _)⟩)
  dsimp only [Pt.U, Pt.locs, Pt.cells, Pt.slots] at X21 l21 y21 z21 st21 hQ21 hs21 hg21 cr21
  subst l21 y21 z21
  obtain ⟨X21, hS21, hZ21, ho21⟩ := rebS (s := s) (vm0 := T17.vm) hS17 ((Nat.le_refl _)) X21 hs21 hg21 hZ17 ho17
  obtain ⟨rfl, N21q, K21⟩ := hQ21
  have N21 := Fr.app N17 N21q
  have R22 := CHr.trans R18 cr21
  obtain ⟨T24, h24, k24, X24, e24, E24, A24, B24, st24⟩ := newPE X21 hx hZ21 (w 7 rfl) rfl (g := (mkF m 136 #[lI x0, lI x1, lI x2, lI x3, lI x4, .val (.int (x0 &&& (3 : Int32))), lV vI2, lI x7, lI x8, lI x9, lI x10, lU, lU] [vI2])) rfl (hb hby at_136) rfl (by decide) (cap := 2) (by decide) (by decide) (by decide) (by decide) (ad := "[C") rfl
  obtain ⟨b24, g24⟩ : ∃ z, z = T21.heap.size := ⟨_, rfl⟩
  have sf25 : Safe Z consts_1 T21.vm T21.heap b24 := Safe.new (Nat.le_of_eq g24.symm)
  rw [← g24] at A24 B24 st24
  have R26 := CHr.trans R22 (CHr.ext E24 R22.1)
  have V24 : Arv Z h24 b24 k24 .char (2 : Int32) [vI0, vI0] vI0 := (Arv.new A24 (by decide)).pad (pad_rep [] vI0 2)
  obtain ⟨clq27, Arq27, qq27, Sq27, Nq27, Hq27, Gq27⟩ := id V24
  have o29 := Old.keep o20 K21 all0
  have zz28 : n0 ≤ T21.heap.size := by rw [← o29.1]; exact o29.2.1
  have g30 := Nat.le_trans zz28 (Nat.le_of_eq g24.symm)
  obtain ⟨T31, h31, X31, e31, W31, st31⟩ := stC X24 hx hZ21 e24 Arq27 (j := (0 : Int32)) (inb_of Sq27 ⟨(by decide : ¬ ((0 : Int32) < (0 : Int32))), (by decide : (0 : Int32) < (2 : Int32))⟩) (g := (mkF m 142 #[lI x0, lI x1, lI x2, lI x3, lI x4, .val (.int (x0 &&& (3 : Int32))), lV vI2, lI x7, lI x8, lI x9, lI x10, lU, lU] [(.int x7), vI0, (.ref b24), (.ref b24)])) rfl rfl (hb hby at_142)
  have sf32 : Safe Z consts_1 T21.vm h24 b24 := (Safe.exa hZ21.alike B24 (by decide) (by decide))
  have R33 := CHr.trans R26 (CHr.wr W31 sf32 R26.1)
  have V31 : Arv Z h31 b24 k24 .char (2 : Int32) [(.int (nar .char x7)), vI0] vI0 := Arv.set Arq27 qq27 Sq27 Nq27 Hq27 Gq27 (fits_nar_char _) W31 0 rfl (Nat.le_of_ble_eq_true rfl)
  have N31 := Fr.snoc X31 N21 g30
  obtain ⟨clq34, Arq34, qq34, Sq34, Nq34, Hq34, Gq34⟩ := id V31
  obtain ⟨T35, h35, X35, e35, W35, st35⟩ := stC X31 hx hZ21 e31 Arq34 (j := (1 : Int32)) (inb_of Sq34 ⟨(by decide : ¬ ((1 : Int32) < (0 : Int32))), (by decide : (1 : Int32) < (2 : Int32))⟩) (g := (mkF m 147 #[lI x0, lI x1, lI x2, lI x3, lI x4, .val (.int (x0 &&& (3 : Int32))), lV vI2, lI x7, lI x8, lI x9, lI x10, lU, lU] [(.int x8), vI1, (.ref b24), (.ref b24)])) rfl rfl (hb hby at_147)
  have f36 := (B24.wr W31)
  have sf37 : Safe Z consts_1 T21.vm h31 b24 := (Safe.exa hZ21.alike f36 (by decide) (by decide))
  have R38 := CHr.trans R33 (CHr.wr W35 sf37 R33.1)
  have V35 : Arv Z h35 b24 k24 .char (2 : Int32) [(.int (nar .char x7)), (.int (nar .char x8))] vI0 := Arv.set Arq34 qq34 Sq34 Nq34 Hq34 Gq34 (fits_nar_char _) W35 1 rfl (Nat.le_of_ble_eq_true rfl)
  have N35 := Fr.snoc X35 N31 g30
  obtain ⟨T39, h39, X39, e39, E39, A39, D39, -, st39⟩ := newO X35 hx hZ21 ho21 (w 4 rfl) (w 5 rfl) (w 6 rfl) e35 (g := (mkF m 207 #[lI x0, lI x1, lI x2, lI x3, lI x4, .val (.int (x0 &&& (3 : Int32))), lV vI2, lI x7, lI x8, lI x9, lI x10, lR b24, lU] [])) rfl (hb hby at_207) (by decide) (by decide)
  obtain ⟨b39, g39⟩ : ∃ z, z = h35.size := ⟨_, rfl⟩
  have sf40 : Safe Z consts_1 T21.vm h35 b39 := Safe.new (Nat.le_of_eq g39.symm)
  rw [← g39] at A39 D39 st39
  have R41 := CHr.trans R38 (CHr.ext E39 R38.1)
  have f42 : Fld Z h39 b39 "java/lang/String" "coder" "B" vI0 := D39 (Or.inr (w 31 rfl)) (ty := .byte) (by decide)
  have f43 : Fld Z h39 b39 "java/lang/String" "value" "[B" .null := D39 (Or.inr (w 33 rfl)) (ty := (.array .byte)) (by decide)
  have f44 := (V35.ext E39)
  have o45 := Old.ext o29 E24
  have o46 := Old.wr o45 W31 g30
  have o47 := Old.wr o46 W35 g30
  have o48 := Old.ext o47 E39
  have f49 := f5.ext o48.2
  have zz50 : n0 ≤ h35.size := by rw [← o47.1]; exact o47.2.1
  have g51 := Nat.le_trans zz50 (Nat.le_of_eq g39.symm)
  obtain ⟨_, T54, Lc54, X54, hQ54, st54⟩ := own_fin (X39.specialBack hx (y := mN4) rfl ho21 (mvT hZ21 (w 8 rfl)) (mvT hZ21 (w 9 rfl)) (mvT hZ21 (w 10 rfl)) (by decide) (own_newStr hZ21 hw (w 5 rfl) (cs := [(nar .char x7), (nar .char x8)]) (n := 2) g51 A39 f43 f42 f44 f49 hc6 rfl rfl (by decide) (by decide) (own_acS hc52 (own_acS hc53 own_ac0)) (own_bsS rfl (own_bsS rfl own_bs0)) (by decide) (by decide : 1 + 65 ≤ _)) (g := (mkF m 213 #[lI x0, lI x1, lI x2, lI x3, lI x4, .val (.int (x0 &&& (3 : Int32))), lV vI2, lI x7, lI x8, lI x9, lI x10, lR b24, lU] [(.ref b24), (.ref b39), (.ref b39)])) rfl (by rw [hml]; rfl) (Steps.refl _) (a := b39) (argsL := [(.ref b24)]) (rest := [(.ref b39)]) (lenOf pd___C_V rfl) rfl (own_W rfl) (hb hby at_213) (fun _ _ => ⟨rfl, e39, (by decide : 10 + 1 ≤ _), (by decide : 230 + 2 ≤ _)⟩))
  obtain ⟨b54_0, k54_0, rfl, N54q, K54, f55, f56, f57, f58, f59, f60⟩ := hQ54
  have N54 := Fr.app N35 N54q
  have sf61 := (Safe.ext E39 R38.1 sf40)
  have R62 := CHr.trans R41 (CHr.keep K54 (sfS sf61 sf0) R41.1)
  have sf63 : Safe Z consts_1 T21.vm h39 b54_0 := Safe.new f57
  have f72 := (A39.keep K54)
  have o98 := Old.keep o48 K54 (allS g51 all0)
  obtain ⟨_, T99, Lc99, X99, hQ99, st99⟩ := own_cS X54 hx hZ21 ho21 rfl (rm8_9 l Z a0 hw [] b39 b54_0 k54_0 (2 : Int32) ([((nar .char x7).toInt8.toInt32), ((nar .char x8).toInt8.toInt32)]) r11 c12 r13 r14 r15 r16 r17 r18 r19 r20 c21 x5 r22 r23 c24 r25 r26 c27 r28 r29 c30 r31 r32 c33 r34 r35 c36 T54.heap n0 o98 f56 f58 f64 f65 f66 f67 f68 f69 f70 f71 f72 f55 (rfl : (2 : Int32) = Int32.ofNat [((nar .char x7).toInt8.toInt32), ((nar .char x8).toInt8.toInt32)].length) (Nat.le_of_ble_eq_true rfl : [((nar .char x7).toInt8.toInt32), ((nar .char x8).toInt8.toInt32)].length ≤ 4000) f5 hc6 f73 f74 f75 f76 f77 f78 f79 f80 f81 f82 f83 f84 f85 f86 f87 f88 f89 f90 f91 f92 f93 f94 f95 f96 f97) (w 34 rfl) (w 35 rfl) (w 36 rfl) (w 37 rfl) (by decide) (W := 0) (by decide) (by decide) (by decide) (by decide) (g := (mkF m 220 #[lI x0, lI x1, lI x2, lI x3, lI x4, .val (.int (x0 &&& (3 : Int32))), lV vI2, lI x7, lI x8, lI x9, lI x10, lR b24, lR b39] [(.ref b39)])) rfl (by rw [hml]; rfl) (argsL := [(.ref b39)]) (rest := []) (lenOf pd__Ljava_lang_String__Lcom_example_wiregather_wiregather_wire_FieldType_ rfl) rfl (own_W rfl) (hb hby at_220)
  obtain ⟨rfl, N99q, K99⟩ := hQ99
  have N99 := Fr.app N54 N99q
  have R100 := CHr.trans R62 (CHr.keep K99 sf0 R62.1)
  have f101 := (f56.keep K99 nin0)
  have f102 := (f58.keep K99 nin0)
  have f103 := (f72.keep K99)
  have f104 := (f55.keep K99 nin0)
  have o111 := Old.keep o98 K99 all0
  obtain ⟨_, _, ⟨T112, L112, k112, n112⟩, -, X112, hs112, hg112, ⟨Lc112, hQ112, l112, y112, z112, cr112⟩, st112⟩ := callSS X99 hx (y := mN13) ho21 (mvT hZ21 (w 102 rfl)) (mvT hZ21 (w 103 rfl)) (mvT hZ21 (w 2 rfl)) (mvT hZ21 (w 104 rfl)) (by decide) (backOfSH (s := s) (vm0 := T21.vm) (W := 1) (rm19_8 l Z a0 hw [] b39 b54_0 k54_0 (2 : Int32) ([((nar .char x7).toInt8.toInt32), ((nar .char x8).toInt8.toInt32)]) x5 r13 r14 r15 r16 r17 r18 T99.heap n0 o111 f101 f102 f103 f104 (rfl : (2 : Int32) = Int32.ofNat [((nar .char x7).toInt8.toInt32), ((nar .char x8).toInt8.toInt32)].length) (Nat.le_of_ble_eq_true rfl : [((nar .char x7).toInt8.toInt32), ((nar .char x8).toInt8.toInt32)].length ≤ 4000) f5 hc6 f105 f106 f107 f108 f109 f110) hZ21 (w 104 rfl) (w 2 rfl) (by decide) (by decide) hEL R100.1) (g := (mkF m 225 #[lI x0, lI x1, lI x2, lI x3, lI x4, .val (.int (x0 &&& (3 : Int32))), lV vI2, lI x7, lI x8, lI x9, lI x10, lR b24, lR b39] [(.ref b39), (own_lab [((nar .char x7).toInt8.toInt32), ((nar .char x8).toInt8.toInt32)] r13 r14 r15 r16 r17 r18)])) rfl (by rw [hml]; rfl) (argsL := [(.ref b39)]) (rest := [(own_lab [((nar .char x7).toInt8.toInt32), ((nar .char x8).toInt8.toInt32)] r13 r14 r15 r16 r17 r18)]) (lenOf pd__Ljava_lang_String__Lcom_example_wiregather_wiregather_wire_FieldType_ rfl) rfl (by show 2 * 0 + _ ≤ _; simp only [List.map, own_qcat]; exact Nat.le_of_eq rfl) (hb hby at_225) (fun _ _ => ⟨rfl, rfl, (by decide : 12 + 12 ≤ _), (by decide : 238 + 120 ≤ _)⟩)
  dsimp only [Pt.U, Pt.locs, Pt.cells, Pt.slots] at X112 l112 y112 z112 st112 hQ112 hs112 hg112 cr112
  subst l112 y112 z112
  have zs113 := E24.1
  have zs114 := Nat.le_trans zs113 (Nat.le_of_eq W31.size.symm)
  have zs115 := Nat.le_trans zs114 (Nat.le_of_eq W35.size.symm)
  have zs116 := Nat.le_trans zs115 E39.1
  have zs117 := Nat.le_trans zs116 K54.1
  have zs118 := Nat.le_trans zs117 K99.1
  obtain ⟨X112, hS112, hZ112, ho112⟩ := rebS (s := s) (vm0 := T21.vm) hS21 ((Nat.le_trans (Nat.le_refl _) zs118)) X112 hs112 hg112 hZ21 ho21
  obtain ⟨rfl, N112q, K112⟩ := hQ112
  have N112 := Fr.app N99 N112q
  have R119 := CHr.trans R100 cr112
  refine ⟨some vI1, _, _, _, _, _, _, _, nofun, X112, by decide, by decide, hS112, ((Nat.le_refl _)), hZ112, rfl, R119, ?_, fun fs hr => ?_⟩
  · exact ⟨rfl, N112⟩
  · show SG p e below s₁ (mkF m 0 #[lI x0, lI x1, lI x2, lI x3, lI x4, lU, lU, lU, lU, lU, lU, lU, lU] []) _
    refine qiN X0 hx hby at_0 ?_
    refine qc X0 hx hby at_1 ?_
    refine XS.iand X0.here hx rfl (hb hby at_2) rfl ?_
    refine XS.istore X0.here hx rfl (hb hby at_3) rfl (l' := #[lI x0, lI x1, lI x2, lI x3, lI x4, .val (.int (x0 &&& (3 : Int32))), lU, lU, lU, lU, lU, lU, lU]) rfl ?_
    refine qi X0 hx hby at_5 ?_
    refine qc X0 hx hby at_7 ?_
    refine XS.icmpYes X0.here hx rfl (pc0 := 8) (pc' := 24) rfl (hb hby at_8) rfl (feq hc2).2 (by decide) (by decide) ?_
    show SG p e below s₁ (mkF m 24 #[lI x0, lI x1, lI x2, lI x3, lI x4, .val (.int (x0 &&& (3 : Int32))), lU, lU, lU, lU, lU, lU, lU] []) _
    refine qi X0 hx hby at_24 ?_
    refine XS.ifYes X0.here hx rfl (pc0 := 26) (pc' := 62) rfl (hb hby at_26) rfl ((if0 _ _).trans (feq hc3).2) (by decide) (by decide) ?_
    show SG p e below s₁ (mkF m 62 #[lI x0, lI x1, lI x2, lI x3, lI x4, .val (.int (x0 &&& (3 : Int32))), lU, lU, lU, lU, lU, lU, lU] []) _
    refine qiN X0 hx hby at_62 ?_
    refine qc X0 hx hby at_63 ?_
    refine XS.iushr X0.here hx rfl (hb hby at_64) rfl ?_
    refine qb X0 hx hby at_65 ?_
    refine XS.iand X0.here hx rfl (hb hby at_67) rfl ?_
    refine qc X0 hx hby at_68 ?_
    refine iremM (g := (mkF m 69 #[lI x0, lI x1, lI x2, lI x3, lI x4, .val (.int (x0 &&& (3 : Int32))), lU, lU, lU, lU, lU, lU, lU] [vI5, (.int (((x0.toUInt32 >>> ((2 : Int32) &&& 31).toUInt32).toInt32) &&& (7 : Int32)))])) X0 hx rfl (hb hby at_69) rfl (by decide : ¬ ((5 : Int32) = (0 : Int32))) ?_
    show SG p e below s₁ (mkF m 70 #[lI x0, lI x1, lI x2, lI x3, lI x4, .val (.int (x0 &&& (3 : Int32))), lU, lU, lU, lU, lU, lU, lU] [(.int ((((x0.toUInt32 >>> ((2 : Int32) &&& 31).toUInt32).toInt32) &&& (7 : Int32)) % (5 : Int32)))]) _
    rw [hc4]
    show SG p e below s₁ (mkF m 70 #[lI x0, lI x1, lI x2, lI x3, lI x4, .val (.int (x0 &&& (3 : Int32))), lU, lU, lU, lU, lU, lU, lU] [vI2]) _
    refine XS.istore X0.here hx rfl (hb hby at_70) rfl (l' := #[lI x0, lI x1, lI x2, lI x3, lI x4, .val (.int (x0 &&& (3 : Int32))), lV vI2, lU, lU, lU, lU, lU, lU]) rfl ?_
    refine qiN X0 hx hby at_72 ?_
    refine st9.trans ?_
    show SG p e below T9 (mkF m 76 #[lI x0, lI x1, lI x2, lI x3, lI x4, .val (.int (x0 &&& (3 : Int32))), lV vI2, lU, lU, lU, lU, lU, lU] [(.int (own_ch x1))]) _
    rw [hq11]
    show SG p e below T9 (mkF m 76 #[lI x0, lI x1, lI x2, lI x3, lI x4, .val (.int (x0 &&& (3 : Int32))), lV vI2, lU, lU, lU, lU, lU, lU] [(.int x7)]) _
    refine XS.istore X9.here hx rfl (hb hby at_76) rfl (l' := #[lI x0, lI x1, lI x2, lI x3, lI x4, .val (.int (x0 &&& (3 : Int32))), lV vI2, lI x7, lU, lU, lU, lU, lU]) rfl ?_
    refine qiN X9 hx hby at_78 ?_
    refine st13.trans ?_
    show SG p e below T13 (mkF m 82 #[lI x0, lI x1, lI x2, lI x3, lI x4, .val (.int (x0 &&& (3 : Int32))), lV vI2, lI x7, lU, lU, lU, lU, lU] [(.int (own_ch x2))]) _
    rw [hq15]
    show SG p e below T13 (mkF m 82 #[lI x0, lI x1, lI x2, lI x3, lI x4, .val (.int (x0 &&& (3 : Int32))), lV vI2, lI x7, lU, lU, lU, lU, lU] [(.int x8)]) _
    refine XS.istore X13.here hx rfl (hb hby at_82) rfl (l' := #[lI x0, lI x1, lI x2, lI x3, lI x4, .val (.int (x0 &&& (3 : Int32))), lV vI2, lI x7, lI x8, lU, lU, lU, lU]) rfl ?_
    refine qiN X13 hx hby at_84 ?_
    refine st17.trans ?_
    show SG p e below T17 (mkF m 88 #[lI x0, lI x1, lI x2, lI x3, lI x4, .val (.int (x0 &&& (3 : Int32))), lV vI2, lI x7, lI x8, lU, lU, lU, lU] [(.int (own_ch x3))]) _
    rw [hq19]
    show SG p e below T17 (mkF m 88 #[lI x0, lI x1, lI x2, lI x3, lI x4, .val (.int (x0 &&& (3 : Int32))), lV vI2, lI x7, lI x8, lU, lU, lU, lU] [(.int x9)]) _
    refine XS.istore X17.here hx rfl (hb hby at_88) rfl (l' := #[lI x0, lI x1, lI x2, lI x3, lI x4, .val (.int (x0 &&& (3 : Int32))), lV vI2, lI x7, lI x8, lI x9, lU, lU, lU]) rfl ?_
    refine qi X17 hx hby at_90 ?_
    refine st21.trans ?_
    show SG p e below T21 (mkF m 95 #[lI x0, lI x1, lI x2, lI x3, lI x4, .val (.int (x0 &&& (3 : Int32))), lV vI2, lI x7, lI x8, lI x9, lU, lU, lU] [(.int (own_ch x4))]) _
    rw [hq23]
    show SG p e below T21 (mkF m 95 #[lI x0, lI x1, lI x2, lI x3, lI x4, .val (.int (x0 &&& (3 : Int32))), lV vI2, lI x7, lI x8, lI x9, lU, lU, lU] [(.int x10)]) _
    refine XS.istore X21.here hx rfl (hb hby at_95) rfl (l' := #[lI x0, lI x1, lI x2, lI x3, lI x4, .val (.int (x0 &&& (3 : Int32))), lV vI2, lI x7, lI x8, lI x9, lI x10, lU, lU]) rfl ?_
    refine qi X21 hx hby at_97 ?_
    refine XS.ifYes X21.here hx rfl (pc0 := 99) (pc' := 110) rfl (hb hby at_99) rfl ((if0 _ _).trans (feq (by decide : ¬ ((2 : Int32) = (0 : Int32)))).2) (by decide) (by decide) ?_
    show SG p e below T21 (mkF m 110 #[lI x0, lI x1, lI x2, lI x3, lI x4, .val (.int (x0 &&& (3 : Int32))), lV vI2, lI x7, lI x8, lI x9, lI x10, lU, lU] []) _
    refine qi X21 hx hby at_110 ?_
    refine qc X21 hx hby at_112 ?_
    refine XS.icmpYes X21.here hx rfl (pc0 := 113) (pc' := 129) rfl (hb hby at_113) rfl (feq (by decide : ¬ ((2 : Int32) = (1 : Int32)))).2 (by decide) (by decide) ?_
    show SG p e below T21 (mkF m 129 #[lI x0, lI x1, lI x2, lI x3, lI x4, .val (.int (x0 &&& (3 : Int32))), lV vI2, lI x7, lI x8, lI x9, lI x10, lU, lU] []) _
    refine qi X21 hx hby at_129 ?_
    refine qc X21 hx hby at_131 ?_
    refine XS.icmpNo X21.here hx rfl (hb hby at_132) rfl (teq (rfl : (2 : Int32) = (2 : Int32))).2 ?_
    refine qc X21 hx hby at_135 ?_
    refine st24 _ ?_
    show SG p e below T24 (mkF m 138 #[lI x0, lI x1, lI x2, lI x3, lI x4, .val (.int (x0 &&& (3 : Int32))), lV vI2, lI x7, lI x8, lI x9, lI x10, lU, lU] [(.ref b24)]) _
    refine qd X24 hx hby at_138 ?_
    refine qc X24 hx hby at_139 ?_
    refine qi X24 hx hby at_140 ?_
    refine st31 _ ?_
    show SG p e below T31 (mkF m 143 #[lI x0, lI x1, lI x2, lI x3, lI x4, .val (.int (x0 &&& (3 : Int32))), lV vI2, lI x7, lI x8, lI x9, lI x10, lU, lU] [(.ref b24)]) _
    refine qd X31 hx hby at_143 ?_
    refine qc X31 hx hby at_144 ?_
    refine qi X31 hx hby at_145 ?_
    refine st35 _ ?_
    show SG p e below T35 (mkF m 148 #[lI x0, lI x1, lI x2, lI x3, lI x4, .val (.int (x0 &&& (3 : Int32))), lV vI2, lI x7, lI x8, lI x9, lI x10, lU, lU] [(.ref b24)]) _
    refine XS.astore X35.here hx rfl (hb hby at_148) rfl rfl (l' := #[lI x0, lI x1, lI x2, lI x3, lI x4, .val (.int (x0 &&& (3 : Int32))), lV vI2, lI x7, lI x8, lI x9, lI x10, lR b24, lU]) rfl ?_
    refine XS.goto X35.here hx rfl (pc0 := 150) (pc' := 207) rfl (hb hby at_150) (by decide) (by decide) ?_
    show SG p e below T35 (mkF m 207 #[lI x0, lI x1, lI x2, lI x3, lI x4, .val (.int (x0 &&& (3 : Int32))), lV vI2, lI x7, lI x8, lI x9, lI x10, lR b24, lU] []) _
    refine st39 _ ?_
    show SG p e below T39 (mkF m 210 #[lI x0, lI x1, lI x2, lI x3, lI x4, .val (.int (x0 &&& (3 : Int32))), lV vI2, lI x7, lI x8, lI x9, lI x10, lR b24, lU] [(.ref b39)]) _
    refine qd X39 hx hby at_210 ?_
    refine qa X39 hx hby at_211 ?_
    refine st54.trans ?_
    show SG p e below T54 (mkF m 216 #[lI x0, lI x1, lI x2, lI x3, lI x4, .val (.int (x0 &&& (3 : Int32))), lV vI2, lI x7, lI x8, lI x9, lI x10, lR b24, lU] [(.ref b39)]) _
    refine XS.astore X54.here hx rfl (hb hby at_216) rfl rfl (l' := #[lI x0, lI x1, lI x2, lI x3, lI x4, .val (.int (x0 &&& (3 : Int32))), lV vI2, lI x7, lI x8, lI x9, lI x10, lR b24, lR b39]) rfl ?_
    refine qa X54 hx hby at_218 ?_
    refine st99 _ ?_
    show SG p e below T99 (mkF m 223 #[lI x0, lI x1, lI x2, lI x3, lI x4, .val (.int (x0 &&& (3 : Int32))), lV vI2, lI x7, lI x8, lI x9, lI x10, lR b24, lR b39] [(own_lab [((nar .char x7).toInt8.toInt32), ((nar .char x8).toInt8.toInt32)] r13 r14 r15 r16 r17 r18)]) _
    refine qa X99 hx hby at_223 ?_
    refine st112.trans ?_
    show SG p e below T112 (mkF m 228 #[lI x0, lI x1, lI x2, lI x3, lI x4, .val (.int (x0 &&& (3 : Int32))), lV vI2, lI x7, lI x8, lI x9, lI x10, lR b24, lR b39] [(own_lab [((nar .char x7).toInt8.toInt32), ((nar .char x8).toInt8.toInt32)] r13 r14 r15 r16 r17 r18), (own_lab [((nar .char x7).toInt8.toInt32), ((nar .char x8).toInt8.toInt32)] r13 r14 r15 r16 r17 r18)]) _
    refine Jvm.RoadKit.acmp (g := (mkF m 228 #[lI x0, lI x1, lI x2, lI x3, lI x4, .val (.int (x0 &&& (3 : Int32))), lV vI2, lI x7, lI x8, lI x9, lI x10, lR b24, lR b39] [(own_lab [((nar .char x7).toInt8.toInt32), ((nar .char x8).toInt8.toInt32)] r13 r14 r15 r16 r17 r18), (own_lab [((nar .char x7).toInt8.toInt32), ((nar .char x8).toInt8.toInt32)] r13 r14 r15 r16 r17 r18)])) X112 hx rfl (own_labRef) (own_labRef) (pc0 := 228) (pc' := 231) (same := true) rfl (hb hby at_228) rfl (decide_eq_true rfl) (by decide) (by decide) ?_
    show SG p e below T112 (mkF m 231 #[lI x0, lI x1, lI x2, lI x3, lI x4, .val (.int (x0 &&& (3 : Int32))), lV vI2, lI x7, lI x8, lI x9, lI x10, lR b24, lR b39] []) _
    refine qc X112 hx hby at_231 ?_
    refine XS.goto X112.here hx rfl (pc0 := 232) (pc' := 236) rfl (hb hby at_232) (by decide) (by decide) ?_
    show SG p e below T112 (mkF m 236 #[lI x0, lI x1, lI x2, lI x3, lI x4, .val (.int (x0 &&& (3 : Int32))), lV vI2, lI x7, lI x8, lI x9, lI x10, lR b24, lR b39] [vI1]) _
    exact retN X112 hx (t := .boolean) hret (by simp) (hb hby at_236) hr
def Q0_11 (Z : State) (x0 x1 : Int32) (x2 x3 : Int32) (x4 x5 : Int32) (u6 : Value) (x7 x8 : Int32) (x9 x10 : Int32) (r11 : Addr) (c12 : ClassId) (r13 r14 : Addr) (r15 r16 : Addr) (r17 r18 : Addr) (r19 r20 : Addr) (c21 : ClassId) (r22 r23 : Addr) (c24 : ClassId) (r25 r26 : Addr) (c27 : ClassId) (r28 r29 : Addr) (c30 : ClassId) (r31 r32 : Addr) (c33 : ClassId) (r34 r35 : Addr) (c36 : ClassId) (h0 : Heap) (n0 : Nat) (v : Option Value) (h : Heap) (L : List Loc) : Prop := v = some vI1 ∧ Fr n0 L
theorem rm0_11 (l : Launch) (Z : State) (a0 : Array Value) (hw : own_HW a0 Z) (ws : List Jvm.Cond) (x0 x1 : Int32) (x2 x3 : Int32) (x4 x5 : Int32) (u6 : Value) (x7 x8 : Int32) (x9 x10 : Int32) (r11 : Addr) (c12 : ClassId) (r13 r14 : Addr) (r15 r16 : Addr) (r17 r18 : Addr) (r19 r20 : Addr) (c21 : ClassId) (r22 r23 : Addr) (c24 : ClassId) (r25 r26 : Addr) (c27 : ClassId) (r28 r29 : Addr) (c30 : ClassId) (r31 r32 : Addr) (c33 : ClassId) (r34 r35 : Addr) (c36 : ClassId) (h0 : Heap) (n0 : Nat) (O0 : Old Z n0 h0) (hc2 : ¬ ((x0 &&& (3 : Int32)) = (3 : Int32))) (hc3 : ¬ ((x0 &&& (3 : Int32)) = (0 : Int32))) (hc4 : ((((x0.toUInt32 >>> ((2 : Int32) &&& 31).toUInt32).toInt32) &&& (7 : Int32)) % (5 : Int32)) = (3 : Int32)) (f5 : Sta Z Z.heap "java/lang/String" "COMPACT_STRINGS" "Z" (.int x5)) (hc6 : ¬ (x5 = (0 : Int32))) (f7 : Sta Z Z.heap cs6 "SIOOBE_FORMATTER" cs7 u6) (hc8 : u6.isRef = true) (hq11 : (own_ch x1) = x7) (hq15 : (own_ch x2) = x8) (hq19 : (own_ch x3) = x9) (hq23 : (own_ch x4) = x10) (hc58 : ¬ ((255 : Int32) < (nar .char x7))) (hc59 : ¬ ((255 : Int32) < (nar .char x8))) (hc60 : ¬ ((255 : Int32) < (nar .char x9))) (f71 : Sta Z Z.heap cs0 "$VALUES" cs1 (.ref r11)) (f72 : Exa Z Z.heap r11 cs1) (f73 : Arv Z Z.heap r11 c12 (.object cs0) (6 : Int32) [(.ref r13), (.ref r14), (.ref r15), (.ref r16), (.ref r17), (.ref r18)] .null) (f74 : Fld Z Z.heap r13 cs0 "label" "Ljava/lang/String;" (.ref r19)) (f75 : Exa Z Z.heap r19 "java/lang/String") (f76 : Fld Z Z.heap r19 "java/lang/String" "coder" "B" vI0) (f77 : Fld Z Z.heap r19 "java/lang/String" "value" "[B" (.ref r20)) (f78 : Arv Z Z.heap r20 c21 .byte (3 : Int32) [vI105, vI51, vI50] vI0) (f80 : Fld Z Z.heap r14 cs0 "label" "Ljava/lang/String;" (.ref r22)) (f81 : Exa Z Z.heap r22 "java/lang/String") (f82 : Fld Z Z.heap r22 "java/lang/String" "coder" "B" vI0) (f83 : Fld Z Z.heap r22 "java/lang/String" "value" "[B" (.ref r23)) (f84 : Arv Z Z.heap r23 c24 .byte (3 : Int32) [vI117, vI51, vI50] vI0) (f85 : Fld Z Z.heap r15 cs0 "label" "Ljava/lang/String;" (.ref r25)) (f86 : Exa Z Z.heap r25 "java/lang/String") (f87 : Fld Z Z.heap r25 "java/lang/String" "coder" "B" vI0) (f88 : Fld Z Z.heap r25 "java/lang/String" "value" "[B" (.ref r26)) (f89 : Arv Z Z.heap r26 c27 .byte (3 : Int32) [vI102, vI51, vI50] vI0) (f90 : Fld Z Z.heap r16 cs0 "label" "Ljava/lang/String;" (.ref r28)) (f91 : Exa Z Z.heap r28 "java/lang/String") (f92 : Fld Z Z.heap r28 "java/lang/String" "coder" "B" vI0) (f93 : Fld Z Z.heap r28 "java/lang/String" "value" "[B" (.ref r29)) (f94 : Arv Z Z.heap r29 c30 .byte (3 : Int32) [vI102, vI54, vI52] vI0) (f95 : Fld Z Z.heap r17 cs0 "label" "Ljava/lang/String;" (.ref r31)) (f96 : Exa Z Z.heap r31 "java/lang/String") (f97 : Fld Z Z.heap r31 "java/lang/String" "coder" "B" vI0) (f98 : Fld Z Z.heap r31 "java/lang/String" "value" "[B" (.ref r32)) (f99 : Arv Z Z.heap r32 c33 .byte (4 : Int32) [vI116, vI101, vI120, vI116] vI0) (f100 : Fld Z Z.heap r18 cs0 "label" "Ljava/lang/String;" (.ref r34)) (f101 : Exa Z Z.heap r34 "java/lang/String") (f102 : Fld Z Z.heap r34 "java/lang/String" "coder" "B" vI0) (f103 : Fld Z Z.heap r34 "java/lang/String" "value" "[B" (.ref r35)) (f104 : Arv Z Z.heap r35 c36 .byte (4 : Int32) [vI103, vI117, vI105, vI100] vI0) (f112 : Sta Z Z.heap cs0 "I32" cs4 (.ref r13)) (f113 : Sta Z Z.heap cs0 "U32" cs4 (.ref r14)) (f114 : Sta Z Z.heap cs0 "F32" cs4 (.ref r15)) (f115 : Sta Z Z.heap cs0 "F64" cs4 (.ref r16)) (f116 : Sta Z Z.heap cs0 "TEXT" cs4 (.ref r17)) (f117 : Sta Z Z.heap cs0 "GUID" cs4 (.ref r18)) :
    own_MH l x code maxLocals ret ws room_1 Z h0 #[(.int x0), (.int x1), (.int x2), (.int x3), (.int x4)] (Q0_11 Z x0 x1 x2 x3 x4 x5 u6 x7 x8 x9 x10 r11 c12 r13 r14 r15 r16 r17 r18 r19 r20 c21 r22 r23 c24 r25 r26 c27 r28 r29 c30 r31 r32 c33 r34 r35 c36 h0 n0) := by
  have hEL : EW Z a0 consts_1 := own_EW hw
  refine own_openH hEL (plainFor_of_name pn_com_example_wiregather_wiregather_wire_FieldTypeOfLabelPinLaw) (L0 := #[lI x0, lI x1, lI x2, lI x3, lI x4, lU, lU, lU, lU, lU, lU, lU, lU]) (fun _ => by first | (simp [entryFrame, mkF, argsToLocals, Value.category, maxLocals]; done) | rfl) ?_
  intro p e s m below meth c s₁ hx hby hml hret hnn hZ hown X0 e0 R0
  have N0 := Fr.nil n0; have w := @ww Z a0 hw
  have hS1 := (State.WarmedH.refl s).since 0
  obtain ⟨_, _, ⟨T9, L9, k9, n9⟩, -, X9, hs9, hg9, ⟨Lc9, hQ9, l9, y9, z9, cr9⟩, st9⟩ := callSS X0 hx (y := mN11) hown (mvT hZ (w 75 rfl)) (mvT hZ (w 76 rfl)) (mvT hZ (w 2 rfl)) (mvT hZ (w 77 rfl)) (by decide) (backOfSH (s := s) (vm0 := s.vm) (W := 0) (rm13_3 l Z a0 hw [] x1 x5 u6 h0 n0 O0 f5 hc6 f7 hc8) hZ (w 77 rfl) (w 2 rfl) (by decide) (by decide) hEL R0.1) (g := (mkF m 73 #[lI x0, lI x1, lI x2, lI x3, lI x4, .val (.int (x0 &&& (3 : Int32))), lV vI3, lU, lU, lU, lU, lU, lU] [(.int x1)])) rfl (by rw [hml]; rfl) (argsL := [(.int x1)]) (rest := []) (lenOf pd__I_C rfl) rfl (own_W rfl) (hb hby at_73) (fun _ _ => ⟨rfl, e0, (by decide : 0 + 2 ≤ _), (by decide : 0 + 56 ≤ _)⟩)
  dsimp only [Pt.U, Pt.locs, Pt.cells, Pt.slots] at X9 l9 y9 z9 st9 hQ9 hs9 hg9 cr9
  subst l9 y9 z9
  obtain ⟨X9, hS9, hZ9, ho9⟩ := rebS (s := s) (vm0 := s.vm) hS1 (by rw [e0]; exact (Nat.zero_le _)) X9 hs9 hg9 hZ hown
  obtain ⟨rfl, N9q, K9⟩ := hQ9
  have N9 := Fr.app N0 N9q
  have R10 := CHr.trans R0 cr9
  have o12 := Old.keep O0 K9 all0
  obtain ⟨_, _, ⟨T13, L13, k13, n13⟩, -, X13, hs13, hg13, ⟨Lc13, hQ13, l13, y13, z13, cr13⟩, st13⟩ := callSS X9 hx (y := mN11) ho9 (mvT hZ9 (w 75 rfl)) (mvT hZ9 (w 76 rfl)) (mvT hZ9 (w 2 rfl)) (mvT hZ9 (w 77 rfl)) (by decide) (backOfSH (s := s) (vm0 := T9.vm) (W := 0) (rm13_3 l Z a0 hw [] x2 x5 u6 T9.heap n0 o12 f5 hc6 f7 hc8) hZ9 (w 77 rfl) (w 2 rfl) (by decide) (by decide) hEL R10.1) (g := (mkF m 79 #[lI x0, lI x1, lI x2, lI x3, lI x4, .val (.int (x0 &&& (3 : Int32))), lV vI3, lI x7, lU, lU, lU, lU, lU] [(.int x2)])) rfl (by rw [hml]; rfl) (argsL := [(.int x2)]) (rest := []) (lenOf pd__I_C rfl) rfl (own_W rfl) (hb hby at_79) (fun _ _ => ⟨rfl, rfl, (by decide : 2 + 2 ≤ _), (by decide : 56 + 56 ≤ _)⟩)
  dsimp only [Pt.U, Pt.locs, Pt.cells, Pt.slots] at X13 l13 y13 z13 st13 hQ13 hs13 hg13 cr13
  subst l13 y13 z13
  obtain ⟨X13, hS13, hZ13, ho13⟩ := rebS (s := s) (vm0 := T9.vm) hS9 ((Nat.le_refl _)) X13 hs13 hg13 hZ9 ho9
  obtain ⟨rfl, N13q, K13⟩ := hQ13
  have N13 := Fr.app N9 N13q
  have R14 := CHr.trans R10 cr13
  have o16 := Old.keep o12 K13 all0
  obtain ⟨_, _, ⟨T17, L17, k17, n17⟩, -, X17, hs17, hg17, ⟨Lc17, hQ17, l17, y17, z17, cr17⟩, st17⟩ := callSS X13 hx (y := mN11) ho13 (mvT hZ13 (w 75 rfl)) (mvT hZ13 (w 76 rfl)) (mvT hZ13 (w 2 rfl)) (mvT hZ13 (w 77 rfl)) (by decide) (backOfSH (s := s) (vm0 := T13.vm) (W := 0) (rm13_3 l Z a0 hw [] x3 x5 u6 T13.heap n0 o16 f5 hc6 f7 hc8) hZ13 (w 77 rfl) (w 2 rfl) (by decide) (by decide) hEL R14.1) (g := (mkF m 85 #[lI x0, lI x1, lI x2, lI x3, lI x4, .val (.int (x0 &&& (3 : Int32))), lV vI3, lI x7, lI x8, lU, lU, lU, lU] [(.int x3)])) rfl (by rw [hml]; rfl) (argsL := [(.int x3)]) (rest := []) (lenOf pd__I_C rfl) rfl (own_W rfl) (hb hby at_85) (fun _ _ => ⟨rfl, rfl, (by decide : 4 + 2 ≤ _), (by decide : 112 + 56 ≤ _)⟩)
  dsimp only [Pt.U, Pt.locs, Pt.cells, Pt.slots] at X17 l17 y17 z17 st17 hQ17 hs17 hg17 cr17
  subst l17 y17 z17
  obtain ⟨X17, hS17, hZ17, ho17⟩ := rebS (s := s) (vm0 := T13.vm) hS13 ((Nat.le_refl _)) X17 hs17 hg17 hZ13 ho13
  obtain ⟨rfl, N17q, K17⟩ := hQ17
  have N17 := Fr.app N13 N17q
  have R18 := CHr.trans R14 cr17
  have o20 := Old.keep o16 K17 all0
  obtain ⟨_, _, ⟨T21, L21, k21, n21⟩, -, X21, hs21, hg21, ⟨Lc21, hQ21, l21, y21, z21, cr21⟩, st21⟩ := callSS X17 hx (y := mN11) ho17 (mvT hZ17 (w 75 rfl)) (mvT hZ17 (w 76 rfl)) (mvT hZ17 (w 2 rfl)) (mvT hZ17 (w 77 rfl)) (by decide) (backOfSH (s := s) (vm0 := T17.vm) (W := 0) (rm13_3 l Z a0 hw [] x4 x5 u6 T17.heap n0 o20 f5 hc6 f7 hc8) hZ17 (w 77 rfl) (w 2 rfl) (by decide) (by decide) hEL R18.1) (g := (mkF m 92 #[lI x0, lI x1, lI x2, lI x3, lI x4, .val (.int (x0 &&& (3 : Int32))), lV vI3, lI x7, lI x8, lI x9, lU, lU, lU] [(.int x4)])) rfl (by rw [hml]; rfl) (argsL := [(.int x4)]) (rest := []) (lenOf pd__I_C rfl) rfl (own_W rfl) (hb hby at_92) (fun _ _ => ⟨rfl, rfl, (by decide : 6 + 2 ≤ _), (by decide : 168 + 56 ≤ _)⟩)
  dsimp only [Pt.U, Pt.locs, Pt.cells, Pt.slots] at X21 l21 y21 z21 st21 hQ21 hs21 hg21 cr21
  subst l21 y21 z21
  obtain ⟨X21, hS21, hZ21, ho21⟩ := rebS (s := s) (vm0 := T17.vm) hS17 ((Nat.le_refl _)) X21 hs21 hg21 hZ17 ho17
  obtain ⟨rfl, N21q, K21⟩ := hQ21
  have N21 := Fr.app N17 N21q
  have R22 := CHr.trans R18 cr21
  obtain ⟨T24, h24, k24, X24, e24, E24, A24, B24, st24⟩ := newPE X21 hx hZ21 (w 7 rfl) rfl (g := (mkF m 160 #[lI x0, lI x1, lI x2, lI x3, lI x4, .val (.int (x0 &&& (3 : Int32))), lV vI3, lI x7, lI x8, lI x9, lI x10, lU, lU] [vI3])) rfl (hb hby at_160) rfl (by decide) (cap := 3) (by decide) (by decide) (by decide) (by decide) (ad := "[C") rfl
  obtain ⟨b24, g24⟩ : ∃ z, z = T21.heap.size := ⟨_, rfl⟩
  have sf25 : Safe Z consts_1 T21.vm T21.heap b24 := Safe.new (Nat.le_of_eq g24.symm)
  rw [← g24] at A24 B24 st24
  have R26 := CHr.trans R22 (CHr.ext E24 R22.1)
  have V24 : Arv Z h24 b24 k24 .char (3 : Int32) [vI0, vI0, vI0] vI0 := (Arv.new A24 (by decide)).pad (pad_rep [] vI0 3)
  obtain ⟨clq27, Arq27, qq27, Sq27, Nq27, Hq27, Gq27⟩ := id V24
  have o29 := Old.keep o20 K21 all0
  have zz28 : n0 ≤ T21.heap.size := by rw [← o29.1]; exact o29.2.1
  have g30 := Nat.le_trans zz28 (Nat.le_of_eq g24.symm)
  obtain ⟨T31, h31, X31, e31, W31, st31⟩ := stC X24 hx hZ21 e24 Arq27 (j := (0 : Int32)) (inb_of Sq27 ⟨(by decide : ¬ ((0 : Int32) < (0 : Int32))), (by decide : (0 : Int32) < (3 : Int32))⟩) (g := (mkF m 166 #[lI x0, lI x1, lI x2, lI x3, lI x4, .val (.int (x0 &&& (3 : Int32))), lV vI3, lI x7, lI x8, lI x9, lI x10, lU, lU] [(.int x7), vI0, (.ref b24), (.ref b24)])) rfl rfl (hb hby at_166)
  have sf32 : Safe Z consts_1 T21.vm h24 b24 := (Safe.exa hZ21.alike B24 (by decide) (by decide))
  have R33 := CHr.trans R26 (CHr.wr W31 sf32 R26.1)
  have V31 : Arv Z h31 b24 k24 .char (3 : Int32) [(.int (nar .char x7)), vI0, vI0] vI0 := Arv.set Arq27 qq27 Sq27 Nq27 Hq27 Gq27 (fits_nar_char _) W31 0 rfl (Nat.le_of_ble_eq_true rfl)
  have N31 := Fr.snoc X31 N21 g30
  obtain ⟨clq34, Arq34, qq34, Sq34, Nq34, Hq34, Gq34⟩ := id V31
  obtain ⟨T35, h35, X35, e35, W35, st35⟩ := stC X31 hx hZ21 e31 Arq34 (j := (1 : Int32)) (inb_of Sq34 ⟨(by decide : ¬ ((1 : Int32) < (0 : Int32))), (by decide : (1 : Int32) < (3 : Int32))⟩) (g := (mkF m 171 #[lI x0, lI x1, lI x2, lI x3, lI x4, .val (.int (x0 &&& (3 : Int32))), lV vI3, lI x7, lI x8, lI x9, lI x10, lU, lU] [(.int x8), vI1, (.ref b24), (.ref b24)])) rfl rfl (hb hby at_171)
  have f36 := (B24.wr W31)
  have sf37 : Safe Z consts_1 T21.vm h31 b24 := (Safe.exa hZ21.alike f36 (by decide) (by decide))
  have R38 := CHr.trans R33 (CHr.wr W35 sf37 R33.1)
  have V35 : Arv Z h35 b24 k24 .char (3 : Int32) [(.int (nar .char x7)), (.int (nar .char x8)), vI0] vI0 := Arv.set Arq34 qq34 Sq34 Nq34 Hq34 Gq34 (fits_nar_char _) W35 1 rfl (Nat.le_of_ble_eq_true rfl)
  have N35 := Fr.snoc X35 N31 g30
  obtain ⟨clq39, Arq39, qq39, Sq39, Nq39, Hq39, Gq39⟩ := id V35
  obtain ⟨T40, h40, X40, e40, W40, st40⟩ := stC X35 hx hZ21 e35 Arq39 (j := (2 : Int32)) (inb_of Sq39 ⟨(by decide : ¬ ((2 : Int32) < (0 : Int32))), (by decide : (2 : Int32) < (3 : Int32))⟩) (g := (mkF m 176 #[lI x0, lI x1, lI x2, lI x3, lI x4, .val (.int (x0 &&& (3 : Int32))), lV vI3, lI x7, lI x8, lI x9, lI x10, lU, lU] [(.int x9), vI2, (.ref b24), (.ref b24)])) rfl rfl (hb hby at_176)
  have f41 := (f36.wr W35)
  have sf42 : Safe Z consts_1 T21.vm h35 b24 := (Safe.exa hZ21.alike f41 (by decide) (by decide))
  have R43 := CHr.trans R38 (CHr.wr W40 sf42 R38.1)
  have V40 : Arv Z h40 b24 k24 .char (3 : Int32) [(.int (nar .char x7)), (.int (nar .char x8)), (.int (nar .char x9))] vI0 := Arv.set Arq39 qq39 Sq39 Nq39 Hq39 Gq39 (fits_nar_char _) W40 2 rfl (Nat.le_of_ble_eq_true rfl)
  have N40 := Fr.snoc X40 N35 g30
  obtain ⟨T44, h44, X44, e44, E44, A44, D44, -, st44⟩ := newO X40 hx hZ21 ho21 (w 4 rfl) (w 5 rfl) (w 6 rfl) e40 (g := (mkF m 207 #[lI x0, lI x1, lI x2, lI x3, lI x4, .val (.int (x0 &&& (3 : Int32))), lV vI3, lI x7, lI x8, lI x9, lI x10, lR b24, lU] [])) rfl (hb hby at_207) (by decide) (by decide)
  obtain ⟨b44, g44⟩ : ∃ z, z = h40.size := ⟨_, rfl⟩
  have sf45 : Safe Z consts_1 T21.vm h40 b44 := Safe.new (Nat.le_of_eq g44.symm)
  rw [← g44] at A44 D44 st44
  have R46 := CHr.trans R43 (CHr.ext E44 R43.1)
  have f47 : Fld Z h44 b44 "java/lang/String" "coder" "B" vI0 := D44 (Or.inr (w 31 rfl)) (ty := .byte) (by decide)
  have f48 : Fld Z h44 b44 "java/lang/String" "value" "[B" .null := D44 (Or.inr (w 33 rfl)) (ty := (.array .byte)) (by decide)
  have f49 := (V40.ext E44)
  have o50 := Old.ext o29 E24
  have o51 := Old.wr o50 W31 g30
  have o52 := Old.wr o51 W35 g30
  have o53 := Old.wr o52 W40 g30
  have o54 := Old.ext o53 E44
  have f55 := f5.ext o54.2
  have zz56 : n0 ≤ h40.size := by rw [← o53.1]; exact o53.2.1
  have g57 := Nat.le_trans zz56 (Nat.le_of_eq g44.symm)
  obtain ⟨_, T61, Lc61, X61, hQ61, st61⟩ := own_fin (X44.specialBack hx (y := mN4) rfl ho21 (mvT hZ21 (w 8 rfl)) (mvT hZ21 (w 9 rfl)) (mvT hZ21 (w 10 rfl)) (by decide) (own_newStr hZ21 hw (w 5 rfl) (cs := [(nar .char x7), (nar .char x8), (nar .char x9)]) (n := 3) g57 A44 f48 f47 f49 f55 hc6 rfl rfl (by decide) (by decide) (own_acS hc58 (own_acS hc59 (own_acS hc60 own_ac0))) (own_bsS rfl (own_bsS rfl (own_bsS rfl own_bs0))) (by decide) (by decide : 1 + 65 ≤ _)) (g := (mkF m 213 #[lI x0, lI x1, lI x2, lI x3, lI x4, .val (.int (x0 &&& (3 : Int32))), lV vI3, lI x7, lI x8, lI x9, lI x10, lR b24, lU] [(.ref b24), (.ref b44), (.ref b44)])) rfl (by rw [hml]; rfl) (Steps.refl _) (a := b44) (argsL := [(.ref b24)]) (rest := [(.ref b44)]) (lenOf pd___C_V rfl) rfl (own_W rfl) (hb hby at_213) (fun _ _ => ⟨rfl, e44, (by decide : 10 + 1 ≤ _), (by decide : 231 + 3 ≤ _)⟩))
  obtain ⟨b61_0, k61_0, rfl, N61q, K61, f62, f63, f64, f65, f66, f67⟩ := hQ61
  have N61 := Fr.app N40 N61q
  have sf68 := (Safe.ext E44 R43.1 sf45)
  have R69 := CHr.trans R46 (CHr.keep K61 (sfS sf68 sf0) R46.1)
  have sf70 : Safe Z consts_1 T21.vm h44 b61_0 := Safe.new f64
  have f79 := (A44.keep K61)
  have o105 := Old.keep o54 K61 (allS g57 all0)
  obtain ⟨_, T106, Lc106, X106, hQ106, st106⟩ := own_cS X61 hx hZ21 ho21 rfl (rm8_9 l Z a0 hw [] b44 b61_0 k61_0 (3 : Int32) ([((nar .char x7).toInt8.toInt32), ((nar .char x8).toInt8.toInt32), ((nar .char x9).toInt8.toInt32)]) r11 c12 r13 r14 r15 r16 r17 r18 r19 r20 c21 x5 r22 r23 c24 r25 r26 c27 r28 r29 c30 r31 r32 c33 r34 r35 c36 T61.heap n0 o105 f63 f65 f71 f72 f73 f74 f75 f76 f77 f78 f79 f62 (rfl : (3 : Int32) = Int32.ofNat [((nar .char x7).toInt8.toInt32), ((nar .char x8).toInt8.toInt32), ((nar .char x9).toInt8.toInt32)].length) (Nat.le_of_ble_eq_true rfl : [((nar .char x7).toInt8.toInt32), ((nar .char x8).toInt8.toInt32), ((nar .char x9).toInt8.toInt32)].length ≤ 4000) f5 hc6 f80 f81 f82 f83 f84 f85 f86 f87 f88 f89 f90 f91 f92 f93 f94 f95 f96 f97 f98 f99 f100 f101 f102 f103 f104) (w 34 rfl) (w 35 rfl) (w 36 rfl) (w 37 rfl) (by decide) (W := 0) (by decide) (by decide) (by decide) (by decide) (g := (mkF m 220 #[lI x0, lI x1, lI x2, lI x3, lI x4, .val (.int (x0 &&& (3 : Int32))), lV vI3, lI x7, lI x8, lI x9, lI x10, lR b24, lR b44] [(.ref b44)])) rfl (by rw [hml]; rfl) (argsL := [(.ref b44)]) (rest := []) (lenOf pd__Ljava_lang_String__Lcom_example_wiregather_wiregather_wire_FieldType_ rfl) rfl (own_W rfl) (hb hby at_220)
  obtain ⟨rfl, N106q, K106⟩ := hQ106
  have N106 := Fr.app N61 N106q
  have R107 := CHr.trans R69 (CHr.keep K106 sf0 R69.1)
  have f108 := (f63.keep K106 nin0)
  have f109 := (f65.keep K106 nin0)
  have f110 := (f79.keep K106)
  have f111 := (f62.keep K106 nin0)
  have o118 := Old.keep o105 K106 all0
  obtain ⟨_, _, ⟨T119, L119, k119, n119⟩, -, X119, hs119, hg119, ⟨Lc119, hQ119, l119, y119, z119, cr119⟩, st119⟩ := callSS X106 hx (y := mN13) ho21 (mvT hZ21 (w 102 rfl)) (mvT hZ21 (w 103 rfl)) (mvT hZ21 (w 2 rfl)) (mvT hZ21 (w 104 rfl)) (by decide) (backOfSH (s := s) (vm0 := T21.vm) (W := 1) (rm19_8 l Z a0 hw [] b44 b61_0 k61_0 (3 : Int32) ([((nar .char x7).toInt8.toInt32), ((nar .char x8).toInt8.toInt32), ((nar .char x9).toInt8.toInt32)]) x5 r13 r14 r15 r16 r17 r18 T106.heap n0 o118 f108 f109 f110 f111 (rfl : (3 : Int32) = Int32.ofNat [((nar .char x7).toInt8.toInt32), ((nar .char x8).toInt8.toInt32), ((nar .char x9).toInt8.toInt32)].length) (Nat.le_of_ble_eq_true rfl : [((nar .char x7).toInt8.toInt32), ((nar .char x8).toInt8.toInt32), ((nar .char x9).toInt8.toInt32)].length ≤ 4000) f5 hc6 f112 f113 f114 f115 f116 f117) hZ21 (w 104 rfl) (w 2 rfl) (by decide) (by decide) hEL R107.1) (g := (mkF m 225 #[lI x0, lI x1, lI x2, lI x3, lI x4, .val (.int (x0 &&& (3 : Int32))), lV vI3, lI x7, lI x8, lI x9, lI x10, lR b24, lR b44] [(.ref b44), (own_lab [((nar .char x7).toInt8.toInt32), ((nar .char x8).toInt8.toInt32), ((nar .char x9).toInt8.toInt32)] r13 r14 r15 r16 r17 r18)])) rfl (by rw [hml]; rfl) (argsL := [(.ref b44)]) (rest := [(own_lab [((nar .char x7).toInt8.toInt32), ((nar .char x8).toInt8.toInt32), ((nar .char x9).toInt8.toInt32)] r13 r14 r15 r16 r17 r18)]) (lenOf pd__Ljava_lang_String__Lcom_example_wiregather_wiregather_wire_FieldType_ rfl) rfl (by show 2 * 0 + _ ≤ _; simp only [List.map, own_qcat]; exact Nat.le_of_eq rfl) (hb hby at_225) (fun _ _ => ⟨rfl, rfl, (by decide : 12 + 12 ≤ _), (by decide : 240 + 120 ≤ _)⟩)
  dsimp only [Pt.U, Pt.locs, Pt.cells, Pt.slots] at X119 l119 y119 z119 st119 hQ119 hs119 hg119 cr119
  subst l119 y119 z119
  have zs120 := E24.1
  have zs121 := Nat.le_trans zs120 (Nat.le_of_eq W31.size.symm)
  have zs122 := Nat.le_trans zs121 (Nat.le_of_eq W35.size.symm)
  have zs123 := Nat.le_trans zs122 (Nat.le_of_eq W40.size.symm)
  have zs124 := Nat.le_trans zs123 E44.1
  have zs125 := Nat.le_trans zs124 K61.1
  have zs126 := Nat.le_trans zs125 K106.1
  obtain ⟨X119, hS119, hZ119, ho119⟩ := rebS (s := s) (vm0 := T21.vm) hS21 ((Nat.le_trans (Nat.le_refl _) zs126)) X119 hs119 hg119 hZ21 ho21
  obtain ⟨rfl, N119q, K119⟩ := hQ119
  have N119 := Fr.app N106 N119q
  have R127 := CHr.trans R107 cr119
  refine ⟨some vI1, _, _, _, _, _, _, _, nofun, X119, by decide, by decide, hS119, ((Nat.le_refl _)), hZ119, rfl, R127, ?_, fun fs hr => ?_⟩
  · exact ⟨rfl, N119⟩
  · show SG p e below s₁ (mkF m 0 #[lI x0, lI x1, lI x2, lI x3, lI x4, lU, lU, lU, lU, lU, lU, lU, lU] []) _
    refine qiN X0 hx hby at_0 ?_
    refine qc X0 hx hby at_1 ?_
    refine XS.iand X0.here hx rfl (hb hby at_2) rfl ?_
    refine XS.istore X0.here hx rfl (hb hby at_3) rfl (l' := #[lI x0, lI x1, lI x2, lI x3, lI x4, .val (.int (x0 &&& (3 : Int32))), lU, lU, lU, lU, lU, lU, lU]) rfl ?_
    refine qi X0 hx hby at_5 ?_
    refine qc X0 hx hby at_7 ?_
    refine XS.icmpYes X0.here hx rfl (pc0 := 8) (pc' := 24) rfl (hb hby at_8) rfl (feq hc2).2 (by decide) (by decide) ?_
    show SG p e below s₁ (mkF m 24 #[lI x0, lI x1, lI x2, lI x3, lI x4, .val (.int (x0 &&& (3 : Int32))), lU, lU, lU, lU, lU, lU, lU] []) _
    refine qi X0 hx hby at_24 ?_
    refine XS.ifYes X0.here hx rfl (pc0 := 26) (pc' := 62) rfl (hb hby at_26) rfl ((if0 _ _).trans (feq hc3).2) (by decide) (by decide) ?_
    show SG p e below s₁ (mkF m 62 #[lI x0, lI x1, lI x2, lI x3, lI x4, .val (.int (x0 &&& (3 : Int32))), lU, lU, lU, lU, lU, lU, lU] []) _
    refine qiN X0 hx hby at_62 ?_
    refine qc X0 hx hby at_63 ?_
    refine XS.iushr X0.here hx rfl (hb hby at_64) rfl ?_
    refine qb X0 hx hby at_65 ?_
    refine XS.iand X0.here hx rfl (hb hby at_67) rfl ?_
    refine qc X0 hx hby at_68 ?_
    refine iremM (g := (mkF m 69 #[lI x0, lI x1, lI x2, lI x3, lI x4, .val (.int (x0 &&& (3 : Int32))), lU, lU, lU, lU, lU, lU, lU] [vI5, (.int (((x0.toUInt32 >>> ((2 : Int32) &&& 31).toUInt32).toInt32) &&& (7 : Int32)))])) X0 hx rfl (hb hby at_69) rfl (by decide : ¬ ((5 : Int32) = (0 : Int32))) ?_
    show SG p e below s₁ (mkF m 70 #[lI x0, lI x1, lI x2, lI x3, lI x4, .val (.int (x0 &&& (3 : Int32))), lU, lU, lU, lU, lU, lU, lU] [(.int ((((x0.toUInt32 >>> ((2 : Int32) &&& 31).toUInt32).toInt32) &&& (7 : Int32)) % (5 : Int32)))]) _
    rw [hc4]
    show SG p e below s₁ (mkF m 70 #[lI x0, lI x1, lI x2, lI x3, lI x4, .val (.int (x0 &&& (3 : Int32))), lU, lU, lU, lU, lU, lU, lU] [vI3]) _
    refine XS.istore X0.here hx rfl (hb hby at_70) rfl (l' := #[lI x0, lI x1, lI x2, lI x3, lI x4, .val (.int (x0 &&& (3 : Int32))), lV vI3, lU, lU, lU, lU, lU, lU]) rfl ?_
    refine qiN X0 hx hby at_72 ?_
    refine st9.trans ?_
    show SG p e below T9 (mkF m 76 #[lI x0, lI x1, lI x2, lI x3, lI x4, .val (.int (x0 &&& (3 : Int32))), lV vI3, lU, lU, lU, lU, lU, lU] [(.int (own_ch x1))]) _
    rw [hq11]
    show SG p e below T9 (mkF m 76 #[lI x0, lI x1, lI x2, lI x3, lI x4, .val (.int (x0 &&& (3 : Int32))), lV vI3, lU, lU, lU, lU, lU, lU] [(.int x7)]) _
    refine XS.istore X9.here hx rfl (hb hby at_76) rfl (l' := #[lI x0, lI x1, lI x2, lI x3, lI x4, .val (.int (x0 &&& (3 : Int32))), lV vI3, lI x7, lU, lU, lU, lU, lU]) rfl ?_
    refine qiN X9 hx hby at_78 ?_
    refine st13.trans ?_
    show SG p e below T13 (mkF m 82 #[lI x0, lI x1, lI x2, lI x3, lI x4, .val (.int (x0 &&& (3 : Int32))), lV vI3, lI x7, lU, lU, lU, lU, lU] [(.int (own_ch x2))]) _
    rw [hq15]
    show SG p e below T13 (mkF m 82 #[lI x0, lI x1, lI x2, lI x3, lI x4, .val (.int (x0 &&& (3 : Int32))), lV vI3, lI x7, lU, lU, lU, lU, lU] [(.int x8)]) _
    refine XS.istore X13.here hx rfl (hb hby at_82) rfl (l' := #[lI x0, lI x1, lI x2, lI x3, lI x4, .val (.int (x0 &&& (3 : Int32))), lV vI3, lI x7, lI x8, lU, lU, lU, lU]) rfl ?_
    refine qiN X13 hx hby at_84 ?_
    refine st17.trans ?_
    show SG p e below T17 (mkF m 88 #[lI x0, lI x1, lI x2, lI x3, lI x4, .val (.int (x0 &&& (3 : Int32))), lV vI3, lI x7, lI x8, lU, lU, lU, lU] [(.int (own_ch x3))]) _
    rw [hq19]
    show SG p e below T17 (mkF m 88 #[lI x0, lI x1, lI x2, lI x3, lI x4, .val (.int (x0 &&& (3 : Int32))), lV vI3, lI x7, lI x8, lU, lU, lU, lU] [(.int x9)]) _
    refine XS.istore X17.here hx rfl (hb hby at_88) rfl (l' := #[lI x0, lI x1, lI x2, lI x3, lI x4, .val (.int (x0 &&& (3 : Int32))), lV vI3, lI x7, lI x8, lI x9, lU, lU, lU]) rfl ?_
    refine qi X17 hx hby at_90 ?_
    refine st21.trans ?_
    show SG p e below T21 (mkF m 95 #[lI x0, lI x1, lI x2, lI x3, lI x4, .val (.int (x0 &&& (3 : Int32))), lV vI3, lI x7, lI x8, lI x9, lU, lU, lU] [(.int (own_ch x4))]) _
    rw [hq23]
    show SG p e below T21 (mkF m 95 #[lI x0, lI x1, lI x2, lI x3, lI x4, .val (.int (x0 &&& (3 : Int32))), lV vI3, lI x7, lI x8, lI x9, lU, lU, lU] [(.int x10)]) _
    refine XS.istore X21.here hx rfl (hb hby at_95) rfl (l' := #[lI x0, lI x1, lI x2, lI x3, lI x4, .val (.int (x0 &&& (3 : Int32))), lV vI3, lI x7, lI x8, lI x9, lI x10, lU, lU]) rfl ?_
    refine qi X21 hx hby at_97 ?_
    refine XS.ifYes X21.here hx rfl (pc0 := 99) (pc' := 110) rfl (hb hby at_99) rfl ((if0 _ _).trans (feq (by decide : ¬ ((3 : Int32) = (0 : Int32)))).2) (by decide) (by decide) ?_
    show SG p e below T21 (mkF m 110 #[lI x0, lI x1, lI x2, lI x3, lI x4, .val (.int (x0 &&& (3 : Int32))), lV vI3, lI x7, lI x8, lI x9, lI x10, lU, lU] []) _
    refine qi X21 hx hby at_110 ?_
    refine qc X21 hx hby at_112 ?_
    refine XS.icmpYes X21.here hx rfl (pc0 := 113) (pc' := 129) rfl (hb hby at_113) rfl (feq (by decide : ¬ ((3 : Int32) = (1 : Int32)))).2 (by decide) (by decide) ?_
    show SG p e below T21 (mkF m 129 #[lI x0, lI x1, lI x2, lI x3, lI x4, .val (.int (x0 &&& (3 : Int32))), lV vI3, lI x7, lI x8, lI x9, lI x10, lU, lU] []) _
    refine qi X21 hx hby at_129 ?_
    refine qc X21 hx hby at_131 ?_
    refine XS.icmpYes X21.here hx rfl (pc0 := 132) (pc' := 153) rfl (hb hby at_132) rfl (feq (by decide : ¬ ((3 : Int32) = (2 : Int32)))).2 (by decide) (by decide) ?_
    show SG p e below T21 (mkF m 153 #[lI x0, lI x1, lI x2, lI x3, lI x4, .val (.int (x0 &&& (3 : Int32))), lV vI3, lI x7, lI x8, lI x9, lI x10, lU, lU] []) _
    refine qi X21 hx hby at_153 ?_
    refine qc X21 hx hby at_155 ?_
    refine XS.icmpNo X21.here hx rfl (hb hby at_156) rfl (teq (rfl : (3 : Int32) = (3 : Int32))).2 ?_
    refine qc X21 hx hby at_159 ?_
    refine st24 _ ?_
    show SG p e below T24 (mkF m 162 #[lI x0, lI x1, lI x2, lI x3, lI x4, .val (.int (x0 &&& (3 : Int32))), lV vI3, lI x7, lI x8, lI x9, lI x10, lU, lU] [(.ref b24)]) _
    refine qd X24 hx hby at_162 ?_
    refine qc X24 hx hby at_163 ?_
    refine qi X24 hx hby at_164 ?_
    refine st31 _ ?_
    show SG p e below T31 (mkF m 167 #[lI x0, lI x1, lI x2, lI x3, lI x4, .val (.int (x0 &&& (3 : Int32))), lV vI3, lI x7, lI x8, lI x9, lI x10, lU, lU] [(.ref b24)]) _
    refine qd X31 hx hby at_167 ?_
    refine qc X31 hx hby at_168 ?_
    refine qi X31 hx hby at_169 ?_
    refine st35 _ ?_
    show SG p e below T35 (mkF m 172 #[lI x0, lI x1, lI x2, lI x3, lI x4, .val (.int (x0 &&& (3 : Int32))), lV vI3, lI x7, lI x8, lI x9, lI x10, lU, lU] [(.ref b24)]) _
    refine qd X35 hx hby at_172 ?_
    refine qc X35 hx hby at_173 ?_
    refine qi X35 hx hby at_174 ?_
    refine st40 _ ?_
    show SG p e below T40 (mkF m 177 #[lI x0, lI x1, lI x2, lI x3, lI x4, .val (.int (x0 &&& (3 : Int32))), lV vI3, lI x7, lI x8, lI x9, lI x10, lU, lU] [(.ref b24)]) _
    refine XS.astore X40.here hx rfl (hb hby at_177) rfl rfl (l' := #[lI x0, lI x1, lI x2, lI x3, lI x4, .val (.int (x0 &&& (3 : Int32))), lV vI3, lI x7, lI x8, lI x9, lI x10, lR b24, lU]) rfl ?_
    refine XS.goto X40.here hx rfl (pc0 := 179) (pc' := 207) rfl (hb hby at_179) (by decide) (by decide) ?_
    show SG p e below T40 (mkF m 207 #[lI x0, lI x1, lI x2, lI x3, lI x4, .val (.int (x0 &&& (3 : Int32))), lV vI3, lI x7, lI x8, lI x9, lI x10, lR b24, lU] []) _
    refine st44 _ ?_
    show SG p e below T44 (mkF m 210 #[lI x0, lI x1, lI x2, lI x3, lI x4, .val (.int (x0 &&& (3 : Int32))), lV vI3, lI x7, lI x8, lI x9, lI x10, lR b24, lU] [(.ref b44)]) _
    refine qd X44 hx hby at_210 ?_
    refine qa X44 hx hby at_211 ?_
    refine st61.trans ?_
    show SG p e below T61 (mkF m 216 #[lI x0, lI x1, lI x2, lI x3, lI x4, .val (.int (x0 &&& (3 : Int32))), lV vI3, lI x7, lI x8, lI x9, lI x10, lR b24, lU] [(.ref b44)]) _
    refine XS.astore X61.here hx rfl (hb hby at_216) rfl rfl (l' := #[lI x0, lI x1, lI x2, lI x3, lI x4, .val (.int (x0 &&& (3 : Int32))), lV vI3, lI x7, lI x8, lI x9, lI x10, lR b24, lR b44]) rfl ?_
    refine qa X61 hx hby at_218 ?_
    refine st106 _ ?_
    show SG p e below T106 (mkF m 223 #[lI x0, lI x1, lI x2, lI x3, lI x4, .val (.int (x0 &&& (3 : Int32))), lV vI3, lI x7, lI x8, lI x9, lI x10, lR b24, lR b44] [(own_lab [((nar .char x7).toInt8.toInt32), ((nar .char x8).toInt8.toInt32), ((nar .char x9).toInt8.toInt32)] r13 r14 r15 r16 r17 r18)]) _
    refine qa X106 hx hby at_223 ?_
    refine st119.trans ?_
    show SG p e below T119 (mkF m 228 #[lI x0, lI x1, lI x2, lI x3, lI x4, .val (.int (x0 &&& (3 : Int32))), lV vI3, lI x7, lI x8, lI x9, lI x10, lR b24, lR b44] [(own_lab [((nar .char x7).toInt8.toInt32), ((nar .char x8).toInt8.toInt32), ((nar .char x9).toInt8.toInt32)] r13 r14 r15 r16 r17 r18), (own_lab [((nar .char x7).toInt8.toInt32), ((nar .char x8).toInt8.toInt32), ((nar .char x9).toInt8.toInt32)] r13 r14 r15 r16 r17 r18)]) _
    refine Jvm.RoadKit.acmp (g := (mkF m 228 #[lI x0, lI x1, lI x2, lI x3, lI x4, .val (.int (x0 &&& (3 : Int32))), lV vI3, lI x7, lI x8, lI x9, lI x10, lR b24, lR b44] [(own_lab [((nar .char x7).toInt8.toInt32), ((nar .char x8).toInt8.toInt32), ((nar .char x9).toInt8.toInt32)] r13 r14 r15 r16 r17 r18), (own_lab [((nar .char x7).toInt8.toInt32), ((nar .char x8).toInt8.toInt32), ((nar .char x9).toInt8.toInt32)] r13 r14 r15 r16 r17 r18)])) X119 hx rfl (own_labRef) (own_labRef) (pc0 := 228) (pc' := 231) (same := true) rfl (hb hby at_228) rfl (decide_eq_true rfl) (by decide) (by decide) ?_
    show SG p e below T119 (mkF m 231 #[lI x0, lI x1, lI x2, lI x3, lI x4, .val (.int (x0 &&& (3 : Int32))), lV vI3, lI x7, lI x8, lI x9, lI x10, lR b24, lR b44] []) _
    refine qc X119 hx hby at_231 ?_
    refine XS.goto X119.here hx rfl (pc0 := 232) (pc' := 236) rfl (hb hby at_232) (by decide) (by decide) ?_
    show SG p e below T119 (mkF m 236 #[lI x0, lI x1, lI x2, lI x3, lI x4, .val (.int (x0 &&& (3 : Int32))), lV vI3, lI x7, lI x8, lI x9, lI x10, lR b24, lR b44] [vI1]) _
    exact retN X119 hx (t := .boolean) hret (by simp) (hb hby at_236) hr
def Q0_12 (Z : State) (x0 x1 : Int32) (x2 x3 : Int32) (x4 x5 : Int32) (u6 : Value) (x7 x8 : Int32) (x9 x10 : Int32) (r11 : Addr) (c12 : ClassId) (r13 r14 : Addr) (r15 r16 : Addr) (r17 r18 : Addr) (r19 r20 : Addr) (c21 : ClassId) (r22 r23 : Addr) (c24 : ClassId) (r25 r26 : Addr) (c27 : ClassId) (r28 r29 : Addr) (c30 : ClassId) (r31 r32 : Addr) (c33 : ClassId) (r34 r35 : Addr) (c36 : ClassId) (h0 : Heap) (n0 : Nat) (v : Option Value) (h : Heap) (L : List Loc) : Prop := v = some vI1 ∧ Fr n0 L
theorem rm0_12 (l : Launch) (Z : State) (a0 : Array Value) (hw : own_HW a0 Z) (ws : List Jvm.Cond) (x0 x1 : Int32) (x2 x3 : Int32) (x4 x5 : Int32) (u6 : Value) (x7 x8 : Int32) (x9 x10 : Int32) (r11 : Addr) (c12 : ClassId) (r13 r14 : Addr) (r15 r16 : Addr) (r17 r18 : Addr) (r19 r20 : Addr) (c21 : ClassId) (r22 r23 : Addr) (c24 : ClassId) (r25 r26 : Addr) (c27 : ClassId) (r28 r29 : Addr) (c30 : ClassId) (r31 r32 : Addr) (c33 : ClassId) (r34 r35 : Addr) (c36 : ClassId) (h0 : Heap) (n0 : Nat) (O0 : Old Z n0 h0) (hc2 : ¬ ((x0 &&& (3 : Int32)) = (3 : Int32))) (hc3 : ¬ ((x0 &&& (3 : Int32)) = (0 : Int32))) (hc4 : ((((x0.toUInt32 >>> ((2 : Int32) &&& 31).toUInt32).toInt32) &&& (7 : Int32)) % (5 : Int32)) = (4 : Int32)) (f5 : Sta Z Z.heap "java/lang/String" "COMPACT_STRINGS" "Z" (.int x5)) (hc6 : ¬ (x5 = (0 : Int32))) (f7 : Sta Z Z.heap cs6 "SIOOBE_FORMATTER" cs7 u6) (hc8 : u6.isRef = true) (hq11 : (own_ch x1) = x7) (hq15 : (own_ch x2) = x8) (hq19 : (own_ch x3) = x9) (hq23 : (own_ch x4) = x10) (hc64 : ¬ ((255 : Int32) < (nar .char x7))) (hc65 : ¬ ((255 : Int32) < (nar .char x8))) (hc66 : ¬ ((255 : Int32) < (nar .char x9))) (hc67 : ¬ ((255 : Int32) < (nar .char x10))) (f78 : Sta Z Z.heap cs0 "$VALUES" cs1 (.ref r11)) (f79 : Exa Z Z.heap r11 cs1) (f80 : Arv Z Z.heap r11 c12 (.object cs0) (6 : Int32) [(.ref r13), (.ref r14), (.ref r15), (.ref r16), (.ref r17), (.ref r18)] .null) (f81 : Fld Z Z.heap r13 cs0 "label" "Ljava/lang/String;" (.ref r19)) (f82 : Exa Z Z.heap r19 "java/lang/String") (f83 : Fld Z Z.heap r19 "java/lang/String" "coder" "B" vI0) (f84 : Fld Z Z.heap r19 "java/lang/String" "value" "[B" (.ref r20)) (f85 : Arv Z Z.heap r20 c21 .byte (3 : Int32) [vI105, vI51, vI50] vI0) (f87 : Fld Z Z.heap r14 cs0 "label" "Ljava/lang/String;" (.ref r22)) (f88 : Exa Z Z.heap r22 "java/lang/String") (f89 : Fld Z Z.heap r22 "java/lang/String" "coder" "B" vI0) (f90 : Fld Z Z.heap r22 "java/lang/String" "value" "[B" (.ref r23)) (f91 : Arv Z Z.heap r23 c24 .byte (3 : Int32) [vI117, vI51, vI50] vI0) (f92 : Fld Z Z.heap r15 cs0 "label" "Ljava/lang/String;" (.ref r25)) (f93 : Exa Z Z.heap r25 "java/lang/String") (f94 : Fld Z Z.heap r25 "java/lang/String" "coder" "B" vI0) (f95 : Fld Z Z.heap r25 "java/lang/String" "value" "[B" (.ref r26)) (f96 : Arv Z Z.heap r26 c27 .byte (3 : Int32) [vI102, vI51, vI50] vI0) (f97 : Fld Z Z.heap r16 cs0 "label" "Ljava/lang/String;" (.ref r28)) (f98 : Exa Z Z.heap r28 "java/lang/String") (f99 : Fld Z Z.heap r28 "java/lang/String" "coder" "B" vI0) (f100 : Fld Z Z.heap r28 "java/lang/String" "value" "[B" (.ref r29)) (f101 : Arv Z Z.heap r29 c30 .byte (3 : Int32) [vI102, vI54, vI52] vI0) (f102 : Fld Z Z.heap r17 cs0 "label" "Ljava/lang/String;" (.ref r31)) (f103 : Exa Z Z.heap r31 "java/lang/String") (f104 : Fld Z Z.heap r31 "java/lang/String" "coder" "B" vI0) (f105 : Fld Z Z.heap r31 "java/lang/String" "value" "[B" (.ref r32)) (f106 : Arv Z Z.heap r32 c33 .byte (4 : Int32) [vI116, vI101, vI120, vI116] vI0) (f107 : Fld Z Z.heap r18 cs0 "label" "Ljava/lang/String;" (.ref r34)) (f108 : Exa Z Z.heap r34 "java/lang/String") (f109 : Fld Z Z.heap r34 "java/lang/String" "coder" "B" vI0) (f110 : Fld Z Z.heap r34 "java/lang/String" "value" "[B" (.ref r35)) (f111 : Arv Z Z.heap r35 c36 .byte (4 : Int32) [vI103, vI117, vI105, vI100] vI0) (f119 : Sta Z Z.heap cs0 "I32" cs4 (.ref r13)) (f120 : Sta Z Z.heap cs0 "U32" cs4 (.ref r14)) (f121 : Sta Z Z.heap cs0 "F32" cs4 (.ref r15)) (f122 : Sta Z Z.heap cs0 "F64" cs4 (.ref r16)) (f123 : Sta Z Z.heap cs0 "TEXT" cs4 (.ref r17)) (f124 : Sta Z Z.heap cs0 "GUID" cs4 (.ref r18)) :
    own_MH l x code maxLocals ret ws room_1 Z h0 #[(.int x0), (.int x1), (.int x2), (.int x3), (.int x4)] (Q0_12 Z x0 x1 x2 x3 x4 x5 u6 x7 x8 x9 x10 r11 c12 r13 r14 r15 r16 r17 r18 r19 r20 c21 r22 r23 c24 r25 r26 c27 r28 r29 c30 r31 r32 c33 r34 r35 c36 h0 n0) := by
  have hEL : EW Z a0 consts_1 := own_EW hw
  refine own_openH hEL (plainFor_of_name pn_com_example_wiregather_wiregather_wire_FieldTypeOfLabelPinLaw) (L0 := #[lI x0, lI x1, lI x2, lI x3, lI x4, lU, lU, lU, lU, lU, lU, lU, lU]) (fun _ => by first | (simp [entryFrame, mkF, argsToLocals, Value.category, maxLocals]; done) | rfl) ?_
  intro p e s m below meth c s₁ hx hby hml hret hnn hZ hown X0 e0 R0
  have N0 := Fr.nil n0; have w := @ww Z a0 hw
  have hS1 := (State.WarmedH.refl s).since 0
  obtain ⟨_, _, ⟨T9, L9, k9, n9⟩, -, X9, hs9, hg9, ⟨Lc9, hQ9, l9, y9, z9, cr9⟩, st9⟩ := callSS X0 hx (y := mN11) hown (mvT hZ (w 75 rfl)) (mvT hZ (w 76 rfl)) (mvT hZ (w 2 rfl)) (mvT hZ (w 77 rfl)) (by decide) (backOfSH (s := s) (vm0 := s.vm) (W := 0) (rm13_3 l Z a0 hw [] x1 x5 u6 h0 n0 O0 f5 hc6 f7 hc8) hZ (w 77 rfl) (w 2 rfl) (by decide) (by decide) hEL R0.1) (g := (mkF m 73 #[lI x0, lI x1, lI x2, lI x3, lI x4, .val (.int (x0 &&& (3 : Int32))), lV vI4, lU, lU, lU, lU, lU, lU] [(.int x1)])) rfl (by rw [hml]; rfl) (argsL := [(.int x1)]) (rest := []) (lenOf pd__I_C rfl) rfl (own_W rfl) (hb hby at_73) (fun _ _ => ⟨rfl, e0, (by decide : 0 + 2 ≤ _), (by decide : 0 + 56 ≤ _)⟩)
  dsimp only [Pt.U, Pt.locs, Pt.cells, Pt.slots] at X9 l9 y9 z9 st9 hQ9 hs9 hg9 cr9
  subst l9 y9 z9
  obtain ⟨X9, hS9, hZ9, ho9⟩ := rebS (s := s) (vm0 := s.vm) hS1 (by rw [e0]; exact (Nat.zero_le _)) X9 hs9 hg9 hZ hown
  obtain ⟨rfl, N9q, K9⟩ := hQ9
  have N9 := Fr.app N0 N9q
  have R10 := CHr.trans R0 cr9
  have o12 := Old.keep O0 K9 all0
  obtain ⟨_, _, ⟨T13, L13, k13, n13⟩, -, X13, hs13, hg13, ⟨Lc13, hQ13, l13, y13, z13, cr13⟩, st13⟩ := callSS X9 hx (y := mN11) ho9 (mvT hZ9 (w 75 rfl)) (mvT hZ9 (w 76 rfl)) (mvT hZ9 (w 2 rfl)) (mvT hZ9 (w 77 rfl)) (by decide) (backOfSH (s := s) (vm0 := T9.vm) (W := 0) (rm13_3 l Z a0 hw [] x2 x5 u6 T9.heap n0 o12 f5 hc6 f7 hc8) hZ9 (w 77 rfl) (w 2 rfl) (by decide) (by decide) hEL R10.1) (g := (mkF m 79 #[lI x0, lI x1, lI x2, lI x3, lI x4, .val (.int (x0 &&& (3 : Int32))), lV vI4, lI x7, lU, lU, lU, lU, lU] [(.int x2)])) rfl (by rw [hml]; rfl) (argsL := [(.int x2)]) (rest := []) (lenOf pd__I_C rfl) rfl (own_W rfl) (hb hby at_79) (fun _ _ => ⟨rfl, rfl, (by decide : 2 + 2 ≤ _), (by decide : 56 + 56 ≤ _)⟩)
  dsimp only [Pt.U, Pt.locs, Pt.cells, Pt.slots] at X13 l13 y13 z13 st13 hQ13 hs13 hg13 cr13
  subst l13 y13 z13
  obtain ⟨X13, hS13, hZ13, ho13⟩ := rebS (s := s) (vm0 := T9.vm) hS9 ((Nat.le_refl _)) X13 hs13 hg13 hZ9 ho9
  obtain ⟨rfl, N13q, K13⟩ := hQ13
  have N13 := Fr.app N9 N13q
  have R14 := CHr.trans R10 cr13
  have o16 := Old.keep o12 K13 all0
  obtain ⟨_, _, ⟨T17, L17, k17, n17⟩, -, X17, hs17, hg17, ⟨Lc17, hQ17, l17, y17, z17, cr17⟩, st17⟩ := callSS X13 hx (y := mN11) ho13 (mvT hZ13 (w 75 rfl)) (mvT hZ13 (w 76 rfl)) (mvT hZ13 (w 2 rfl)) (mvT hZ13 (w 77 rfl)) (by decide) (backOfSH (s := s) (vm0 := T13.vm) (W := 0) (rm13_3 l Z a0 hw [] x3 x5 u6 T13.heap n0 o16 f5 hc6 f7 hc8) hZ13 (w 77 rfl) (w 2 rfl) (by decide) (by decide) hEL R14.1) (g := (mkF m 85 #[lI x0, lI x1, lI x2, lI x3, lI x4, .val (.int (x0 &&& (3 : Int32))), lV vI4, lI x7, lI x8, lU, lU, lU, lU] [(.int x3)])) rfl (by rw [hml]; rfl) (argsL := [(.int x3)]) (rest := []) (lenOf pd__I_C rfl) rfl (own_W rfl) (hb hby at_85) (fun _ _ => ⟨rfl, rfl, (by decide : 4 + 2 ≤ _), (by decide : 112 + 56 ≤ _)⟩)
  dsimp only [Pt.U, Pt.locs, Pt.cells, Pt.slots] at X17 l17 y17 z17 st17 hQ17 hs17 hg17 cr17
  subst l17 y17 z17
  obtain ⟨X17, hS17, hZ17, ho17⟩ := rebS (s := s) (vm0 := T13.vm) hS13 ((Nat.le_refl _)) X17 hs17 hg17 hZ13 ho13
  obtain ⟨rfl, N17q, K17⟩ := hQ17
  have N17 := Fr.app N13 N17q
  have R18 := CHr.trans R14 cr17
  have o20 := Old.keep o16 K17 all0
  obtain ⟨_, _, ⟨T21, L21, k21, n21⟩, -, X21, hs21, hg21, ⟨Lc21, hQ21, l21, y21, z21, cr21⟩, st21⟩ := callSS X17 hx (y := mN11) ho17 (mvT hZ17 (w 75 rfl)) (mvT hZ17 (w 76 rfl)) (mvT hZ17 (w 2 rfl)) (mvT hZ17 (w 77 rfl)) (by decide) (backOfSH (s := s) (vm0 := T17.vm) (W := 0) (rm13_3 l Z a0 hw [] x4 x5 u6 T17.heap n0 o20 f5 hc6 f7 hc8) hZ17 (w 77 rfl) (w 2 rfl) (by decide) (by decide) hEL R18.1) (g := (mkF m 92 #[lI x0, lI x1, lI x2, lI x3, lI x4, .val (.int (x0 &&& (3 : Int32))), lV vI4, lI x7, lI x8, lI x9, lU, lU, lU] [(.int x4)])) rfl (by rw [hml]; rfl) (argsL := [(.int x4)]) (rest := []) (lenOf pd__I_C rfl) rfl (own_W rfl) (hb hby at_92) (fun _ _ => ⟨rfl, rfl, (by decide : 6 + 2 ≤ _), (by decide : 168 + 56 ≤ _)⟩)
  dsimp only [Pt.U, Pt.locs, Pt.cells, Pt.slots] at X21 l21 y21 z21 st21 hQ21 hs21 hg21 cr21
  subst l21 y21 z21
  obtain ⟨X21, hS21, hZ21, ho21⟩ := rebS (s := s) (vm0 := T17.vm) hS17 ((Nat.le_refl _)) X21 hs21 hg21 hZ17 ho17
  obtain ⟨rfl, N21q, K21⟩ := hQ21
  have N21 := Fr.app N17 N21q
  have R22 := CHr.trans R18 cr21
  obtain ⟨T24, h24, k24, X24, e24, E24, A24, B24, st24⟩ := newPE X21 hx hZ21 (w 7 rfl) rfl (g := (mkF m 183 #[lI x0, lI x1, lI x2, lI x3, lI x4, .val (.int (x0 &&& (3 : Int32))), lV vI4, lI x7, lI x8, lI x9, lI x10, lU, lU] [vI4])) rfl (hb hby at_183) rfl (by decide) (cap := 4) (by decide) (by decide) (by decide) (by decide) (ad := "[C") rfl
  obtain ⟨b24, g24⟩ : ∃ z, z = T21.heap.size := ⟨_, rfl⟩
  have sf25 : Safe Z consts_1 T21.vm T21.heap b24 := Safe.new (Nat.le_of_eq g24.symm)
  rw [← g24] at A24 B24 st24
  have R26 := CHr.trans R22 (CHr.ext E24 R22.1)
  have V24 : Arv Z h24 b24 k24 .char (4 : Int32) [vI0, vI0, vI0, vI0] vI0 := (Arv.new A24 (by decide)).pad (pad_rep [] vI0 4)
  obtain ⟨clq27, Arq27, qq27, Sq27, Nq27, Hq27, Gq27⟩ := id V24
  have o29 := Old.keep o20 K21 all0
  have zz28 : n0 ≤ T21.heap.size := by rw [← o29.1]; exact o29.2.1
  have g30 := Nat.le_trans zz28 (Nat.le_of_eq g24.symm)
  obtain ⟨T31, h31, X31, e31, W31, st31⟩ := stC X24 hx hZ21 e24 Arq27 (j := (0 : Int32)) (inb_of Sq27 ⟨(by decide : ¬ ((0 : Int32) < (0 : Int32))), (by decide : (0 : Int32) < (4 : Int32))⟩) (g := (mkF m 189 #[lI x0, lI x1, lI x2, lI x3, lI x4, .val (.int (x0 &&& (3 : Int32))), lV vI4, lI x7, lI x8, lI x9, lI x10, lU, lU] [(.int x7), vI0, (.ref b24), (.ref b24)])) rfl rfl (hb hby at_189)
  have sf32 : Safe Z consts_1 T21.vm h24 b24 := (Safe.exa hZ21.alike B24 (by decide) (by decide))
  have R33 := CHr.trans R26 (CHr.wr W31 sf32 R26.1)
  have V31 : Arv Z h31 b24 k24 .char (4 : Int32) [(.int (nar .char x7)), vI0, vI0, vI0] vI0 := Arv.set Arq27 qq27 Sq27 Nq27 Hq27 Gq27 (fits_nar_char _) W31 0 rfl (Nat.le_of_ble_eq_true rfl)
  have N31 := Fr.snoc X31 N21 g30
  obtain ⟨clq34, Arq34, qq34, Sq34, Nq34, Hq34, Gq34⟩ := id V31
  obtain ⟨T35, h35, X35, e35, W35, st35⟩ := stC X31 hx hZ21 e31 Arq34 (j := (1 : Int32)) (inb_of Sq34 ⟨(by decide : ¬ ((1 : Int32) < (0 : Int32))), (by decide : (1 : Int32) < (4 : Int32))⟩) (g := (mkF m 194 #[lI x0, lI x1, lI x2, lI x3, lI x4, .val (.int (x0 &&& (3 : Int32))), lV vI4, lI x7, lI x8, lI x9, lI x10, lU, lU] [(.int x8), vI1, (.ref b24), (.ref b24)])) rfl rfl (hb hby at_194)
  have f36 := (B24.wr W31)
  have sf37 : Safe Z consts_1 T21.vm h31 b24 := (Safe.exa hZ21.alike f36 (by decide) (by decide))
  have R38 := CHr.trans R33 (CHr.wr W35 sf37 R33.1)
  have V35 : Arv Z h35 b24 k24 .char (4 : Int32) [(.int (nar .char x7)), (.int (nar .char x8)), vI0, vI0] vI0 := Arv.set Arq34 qq34 Sq34 Nq34 Hq34 Gq34 (fits_nar_char _) W35 1 rfl (Nat.le_of_ble_eq_true rfl)
  have N35 := Fr.snoc X35 N31 g30
  obtain ⟨clq39, Arq39, qq39, Sq39, Nq39, Hq39, Gq39⟩ := id V35
  obtain ⟨T40, h40, X40, e40, W40, st40⟩ := stC X35 hx hZ21 e35 Arq39 (j := (2 : Int32)) (inb_of Sq39 ⟨(by decide : ¬ ((2 : Int32) < (0 : Int32))), (by decide : (2 : Int32) < (4 : Int32))⟩) (g := (mkF m 199 #[lI x0, lI x1, lI x2, lI x3, lI x4, .val (.int (x0 &&& (3 : Int32))), lV vI4, lI x7, lI x8, lI x9, lI x10, lU, lU] [(.int x9), vI2, (.ref b24), (.ref b24)])) rfl rfl (hb hby at_199)
  have f41 := (f36.wr W35)
  have sf42 : Safe Z consts_1 T21.vm h35 b24 := (Safe.exa hZ21.alike f41 (by decide) (by decide))
  have R43 := CHr.trans R38 (CHr.wr W40 sf42 R38.1)
  have V40 : Arv Z h40 b24 k24 .char (4 : Int32) [(.int (nar .char x7)), (.int (nar .char x8)), (.int (nar .char x9)), vI0] vI0 := Arv.set Arq39 qq39 Sq39 Nq39 Hq39 Gq39 (fits_nar_char _) W40 2 rfl (Nat.le_of_ble_eq_true rfl)
  have N40 := Fr.snoc X40 N35 g30
  obtain ⟨clq44, Arq44, qq44, Sq44, Nq44, Hq44, Gq44⟩ := id V40
  obtain ⟨T45, h45, X45, e45, W45, st45⟩ := stC X40 hx hZ21 e40 Arq44 (j := (3 : Int32)) (inb_of Sq44 ⟨(by decide : ¬ ((3 : Int32) < (0 : Int32))), (by decide : (3 : Int32) < (4 : Int32))⟩) (g := (mkF m 204 #[lI x0, lI x1, lI x2, lI x3, lI x4, .val (.int (x0 &&& (3 : Int32))), lV vI4, lI x7, lI x8, lI x9, lI x10, lU, lU] [(.int x10), vI3, (.ref b24), (.ref b24)])) rfl rfl (hb hby at_204)
  have f46 := (f41.wr W40)
  have sf47 : Safe Z consts_1 T21.vm h40 b24 := (Safe.exa hZ21.alike f46 (by decide) (by decide))
  have R48 := CHr.trans R43 (CHr.wr W45 sf47 R43.1)
  have V45 : Arv Z h45 b24 k24 .char (4 : Int32) [(.int (nar .char x7)), (.int (nar .char x8)), (.int (nar .char x9)), (.int (nar .char x10))] vI0 := Arv.set Arq44 qq44 Sq44 Nq44 Hq44 Gq44 (fits_nar_char _) W45 3 rfl (Nat.le_of_ble_eq_true rfl)
  have N45 := Fr.snoc X45 N40 g30
  obtain ⟨T49, h49, X49, e49, E49, A49, D49, -, st49⟩ := newO X45 hx hZ21 ho21 (w 4 rfl) (w 5 rfl) (w 6 rfl) e45 (g := (mkF m 207 #[lI x0, lI x1, lI x2, lI x3, lI x4, .val (.int (x0 &&& (3 : Int32))), lV vI4, lI x7, lI x8, lI x9, lI x10, lR b24, lU] [])) rfl (hb hby at_207) (by decide) (by decide)
  obtain ⟨b49, g49⟩ : ∃ z, z = h45.size := ⟨_, rfl⟩
  have sf50 : Safe Z consts_1 T21.vm h45 b49 := Safe.new (Nat.le_of_eq g49.symm)
  rw [← g49] at A49 D49 st49
  have R51 := CHr.trans R48 (CHr.ext E49 R48.1)
  have f52 : Fld Z h49 b49 "java/lang/String" "coder" "B" vI0 := D49 (Or.inr (w 31 rfl)) (ty := .byte) (by decide)
  have f53 : Fld Z h49 b49 "java/lang/String" "value" "[B" .null := D49 (Or.inr (w 33 rfl)) (ty := (.array .byte)) (by decide)
  have f54 := (V45.ext E49)
  have o55 := Old.ext o29 E24
  have o56 := Old.wr o55 W31 g30
  have o57 := Old.wr o56 W35 g30
  have o58 := Old.wr o57 W40 g30
  have o59 := Old.wr o58 W45 g30
  have o60 := Old.ext o59 E49
  have f61 := f5.ext o60.2
  have zz62 : n0 ≤ h45.size := by rw [← o59.1]; exact o59.2.1
  have g63 := Nat.le_trans zz62 (Nat.le_of_eq g49.symm)
  obtain ⟨_, T68, Lc68, X68, hQ68, st68⟩ := own_fin (X49.specialBack hx (y := mN4) rfl ho21 (mvT hZ21 (w 8 rfl)) (mvT hZ21 (w 9 rfl)) (mvT hZ21 (w 10 rfl)) (by decide) (own_newStr hZ21 hw (w 5 rfl) (cs := [(nar .char x7), (nar .char x8), (nar .char x9), (nar .char x10)]) (n := 4) g63 A49 f53 f52 f54 f61 hc6 rfl rfl (by decide) (by decide) (own_acS hc64 (own_acS hc65 (own_acS hc66 (own_acS hc67 own_ac0)))) (own_bsS rfl (own_bsS rfl (own_bsS rfl (own_bsS rfl own_bs0)))) (by decide) (by decide : 1 + 65 ≤ _)) (g := (mkF m 213 #[lI x0, lI x1, lI x2, lI x3, lI x4, .val (.int (x0 &&& (3 : Int32))), lV vI4, lI x7, lI x8, lI x9, lI x10, lR b24, lU] [(.ref b24), (.ref b49), (.ref b49)])) rfl (by rw [hml]; rfl) (Steps.refl _) (a := b49) (argsL := [(.ref b24)]) (rest := [(.ref b49)]) (lenOf pd___C_V rfl) rfl (own_W rfl) (hb hby at_213) (fun _ _ => ⟨rfl, e49, (by decide : 10 + 1 ≤ _), (by decide : 232 + 4 ≤ _)⟩))
  obtain ⟨b68_0, k68_0, rfl, N68q, K68, f69, f70, f71, f72, f73, f74⟩ := hQ68
  have N68 := Fr.app N45 N68q
  have sf75 := (Safe.ext E49 R48.1 sf50)
  have R76 := CHr.trans R51 (CHr.keep K68 (sfS sf75 sf0) R51.1)
  have sf77 : Safe Z consts_1 T21.vm h49 b68_0 := Safe.new f71
  have f86 := (A49.keep K68)
  have o112 := Old.keep o60 K68 (allS g63 all0)
  obtain ⟨_, T113, Lc113, X113, hQ113, st113⟩ := own_cS X68 hx hZ21 ho21 rfl (rm8_9 l Z a0 hw [] b49 b68_0 k68_0 (4 : Int32) ([((nar .char x7).toInt8.toInt32), ((nar .char x8).toInt8.toInt32), ((nar .char x9).toInt8.toInt32), ((nar .char x10).toInt8.toInt32)]) r11 c12 r13 r14 r15 r16 r17 r18 r19 r20 c21 x5 r22 r23 c24 r25 r26 c27 r28 r29 c30 r31 r32 c33 r34 r35 c36 T68.heap n0 o112 f70 f72 f78 f79 f80 f81 f82 f83 f84 f85 f86 f69 (rfl : (4 : Int32) = Int32.ofNat [((nar .char x7).toInt8.toInt32), ((nar .char x8).toInt8.toInt32), ((nar .char x9).toInt8.toInt32), ((nar .char x10).toInt8.toInt32)].length) (Nat.le_of_ble_eq_true rfl : [((nar .char x7).toInt8.toInt32), ((nar .char x8).toInt8.toInt32), ((nar .char x9).toInt8.toInt32), ((nar .char x10).toInt8.toInt32)].length ≤ 4000) f5 hc6 f87 f88 f89 f90 f91 f92 f93 f94 f95 f96 f97 f98 f99 f100 f101 f102 f103 f104 f105 f106 f107 f108 f109 f110 f111) (w 34 rfl) (w 35 rfl) (w 36 rfl) (w 37 rfl) (by decide) (W := 0) (by decide) (by decide) (by decide) (by decide) (g := (mkF m 220 #[lI x0, lI x1, lI x2, lI x3, lI x4, .val (.int (x0 &&& (3 : Int32))), lV vI4, lI x7, lI x8, lI x9, lI x10, lR b24, lR b49] [(.ref b49)])) rfl (by rw [hml]; rfl) (argsL := [(.ref b49)]) (rest := []) (lenOf pd__Ljava_lang_String__Lcom_example_wiregather_wiregather_wire_FieldType_ rfl) rfl (own_W rfl) (hb hby at_220)
  obtain ⟨rfl, N113q, K113⟩ := hQ113
  have N113 := Fr.app N68 N113q
  have R114 := CHr.trans R76 (CHr.keep K113 sf0 R76.1)
  have f115 := (f70.keep K113 nin0)
  have f116 := (f72.keep K113 nin0)
  have f117 := (f86.keep K113)
  have f118 := (f69.keep K113 nin0)
  have o125 := Old.keep o112 K113 all0
  obtain ⟨_, _, ⟨T126, L126, k126, n126⟩, -, X126, hs126, hg126, ⟨Lc126, hQ126, l126, y126, z126, cr126⟩, st126⟩ := callSS X113 hx (y := mN13) ho21 (mvT hZ21 (w 102 rfl)) (mvT hZ21 (w 103 rfl)) (mvT hZ21 (w 2 rfl)) (mvT hZ21 (w 104 rfl)) (by decide) (backOfSH (s := s) (vm0 := T21.vm) (W := 1) (rm19_8 l Z a0 hw [] b49 b68_0 k68_0 (4 : Int32) ([((nar .char x7).toInt8.toInt32), ((nar .char x8).toInt8.toInt32), ((nar .char x9).toInt8.toInt32), ((nar .char x10).toInt8.toInt32)]) x5 r13 r14 r15 r16 r17 r18 T113.heap n0 o125 f115 f116 f117 f118 (rfl : (4 : Int32) = Int32.ofNat [((nar .char x7).toInt8.toInt32), ((nar .char x8).toInt8.toInt32), ((nar .char x9).toInt8.toInt32), ((nar .char x10).toInt8.toInt32)].length) (Nat.le_of_ble_eq_true rfl : [((nar .char x7).toInt8.toInt32), ((nar .char x8).toInt8.toInt32), ((nar .char x9).toInt8.toInt32), ((nar .char x10).toInt8.toInt32)].length ≤ 4000) f5 hc6 f119 f120 f121 f122 f123 f124) hZ21 (w 104 rfl) (w 2 rfl) (by decide) (by decide) hEL R114.1) (g := (mkF m 225 #[lI x0, lI x1, lI x2, lI x3, lI x4, .val (.int (x0 &&& (3 : Int32))), lV vI4, lI x7, lI x8, lI x9, lI x10, lR b24, lR b49] [(.ref b49), (own_lab [((nar .char x7).toInt8.toInt32), ((nar .char x8).toInt8.toInt32), ((nar .char x9).toInt8.toInt32), ((nar .char x10).toInt8.toInt32)] r13 r14 r15 r16 r17 r18)])) rfl (by rw [hml]; rfl) (argsL := [(.ref b49)]) (rest := [(own_lab [((nar .char x7).toInt8.toInt32), ((nar .char x8).toInt8.toInt32), ((nar .char x9).toInt8.toInt32), ((nar .char x10).toInt8.toInt32)] r13 r14 r15 r16 r17 r18)]) (lenOf pd__Ljava_lang_String__Lcom_example_wiregather_wiregather_wire_FieldType_ rfl) rfl (by show 2 * 0 + _ ≤ _; simp only [List.map, own_qcat]; exact Nat.le_of_eq rfl) (hb hby at_225) (fun _ _ => ⟨rfl, rfl, (by decide : 12 + 12 ≤ _), (by decide : 242 + 120 ≤ _)⟩)
  dsimp only [Pt.U, Pt.locs, Pt.cells, Pt.slots] at X126 l126 y126 z126 st126 hQ126 hs126 hg126 cr126
  subst l126 y126 z126
  have zs127 := E24.1
  have zs128 := Nat.le_trans zs127 (Nat.le_of_eq W31.size.symm)
  have zs129 := Nat.le_trans zs128 (Nat.le_of_eq W35.size.symm)
  have zs130 := Nat.le_trans zs129 (Nat.le_of_eq W40.size.symm)
  have zs131 := Nat.le_trans zs130 (Nat.le_of_eq W45.size.symm)
  have zs132 := Nat.le_trans zs131 E49.1
  have zs133 := Nat.le_trans zs132 K68.1
  have zs134 := Nat.le_trans zs133 K113.1
  obtain ⟨X126, hS126, hZ126, ho126⟩ := rebS (s := s) (vm0 := T21.vm) hS21 ((Nat.le_trans (Nat.le_refl _) zs134)) X126 hs126 hg126 hZ21 ho21
  obtain ⟨rfl, N126q, K126⟩ := hQ126
  have N126 := Fr.app N113 N126q
  have R135 := CHr.trans R114 cr126
  refine ⟨some vI1, _, _, _, _, _, _, _, nofun, X126, by decide, by decide, hS126, ((Nat.le_refl _)), hZ126, rfl, R135, ?_, fun fs hr => ?_⟩
  · exact ⟨rfl, N126⟩
  · show SG p e below s₁ (mkF m 0 #[lI x0, lI x1, lI x2, lI x3, lI x4, lU, lU, lU, lU, lU, lU, lU, lU] []) _
    refine qiN X0 hx hby at_0 ?_
    refine qc X0 hx hby at_1 ?_
    refine XS.iand X0.here hx rfl (hb hby at_2) rfl ?_
    refine XS.istore X0.here hx rfl (hb hby at_3) rfl (l' := #[lI x0, lI x1, lI x2, lI x3, lI x4, .val (.int (x0 &&& (3 : Int32))), lU, lU, lU, lU, lU, lU, lU]) rfl ?_
    refine qi X0 hx hby at_5 ?_
    refine qc X0 hx hby at_7 ?_
    refine XS.icmpYes X0.here hx rfl (pc0 := 8) (pc' := 24) rfl (hb hby at_8) rfl (feq hc2).2 (by decide) (by decide) ?_
    show SG p e below s₁ (mkF m 24 #[lI x0, lI x1, lI x2, lI x3, lI x4, .val (.int (x0 &&& (3 : Int32))), lU, lU, lU, lU, lU, lU, lU] []) _
    refine qi X0 hx hby at_24 ?_
    refine XS.ifYes X0.here hx rfl (pc0 := 26) (pc' := 62) rfl (hb hby at_26) rfl ((if0 _ _).trans (feq hc3).2) (by decide) (by decide) ?_
    show SG p e below s₁ (mkF m 62 #[lI x0, lI x1, lI x2, lI x3, lI x4, .val (.int (x0 &&& (3 : Int32))), lU, lU, lU, lU, lU, lU, lU] []) _
    refine qiN X0 hx hby at_62 ?_
    refine qc X0 hx hby at_63 ?_
    refine XS.iushr X0.here hx rfl (hb hby at_64) rfl ?_
    refine qb X0 hx hby at_65 ?_
    refine XS.iand X0.here hx rfl (hb hby at_67) rfl ?_
    refine qc X0 hx hby at_68 ?_
    refine iremM (g := (mkF m 69 #[lI x0, lI x1, lI x2, lI x3, lI x4, .val (.int (x0 &&& (3 : Int32))), lU, lU, lU, lU, lU, lU, lU] [vI5, (.int (((x0.toUInt32 >>> ((2 : Int32) &&& 31).toUInt32).toInt32) &&& (7 : Int32)))])) X0 hx rfl (hb hby at_69) rfl (by decide : ¬ ((5 : Int32) = (0 : Int32))) ?_
    show SG p e below s₁ (mkF m 70 #[lI x0, lI x1, lI x2, lI x3, lI x4, .val (.int (x0 &&& (3 : Int32))), lU, lU, lU, lU, lU, lU, lU] [(.int ((((x0.toUInt32 >>> ((2 : Int32) &&& 31).toUInt32).toInt32) &&& (7 : Int32)) % (5 : Int32)))]) _
    rw [hc4]
    show SG p e below s₁ (mkF m 70 #[lI x0, lI x1, lI x2, lI x3, lI x4, .val (.int (x0 &&& (3 : Int32))), lU, lU, lU, lU, lU, lU, lU] [vI4]) _
    refine XS.istore X0.here hx rfl (hb hby at_70) rfl (l' := #[lI x0, lI x1, lI x2, lI x3, lI x4, .val (.int (x0 &&& (3 : Int32))), lV vI4, lU, lU, lU, lU, lU, lU]) rfl ?_
    refine qiN X0 hx hby at_72 ?_
    refine st9.trans ?_
    show SG p e below T9 (mkF m 76 #[lI x0, lI x1, lI x2, lI x3, lI x4, .val (.int (x0 &&& (3 : Int32))), lV vI4, lU, lU, lU, lU, lU, lU] [(.int (own_ch x1))]) _
    rw [hq11]
    show SG p e below T9 (mkF m 76 #[lI x0, lI x1, lI x2, lI x3, lI x4, .val (.int (x0 &&& (3 : Int32))), lV vI4, lU, lU, lU, lU, lU, lU] [(.int x7)]) _
    refine XS.istore X9.here hx rfl (hb hby at_76) rfl (l' := #[lI x0, lI x1, lI x2, lI x3, lI x4, .val (.int (x0 &&& (3 : Int32))), lV vI4, lI x7, lU, lU, lU, lU, lU]) rfl ?_
    refine qiN X9 hx hby at_78 ?_
    refine st13.trans ?_
    show SG p e below T13 (mkF m 82 #[lI x0, lI x1, lI x2, lI x3, lI x4, .val (.int (x0 &&& (3 : Int32))), lV vI4, lI x7, lU, lU, lU, lU, lU] [(.int (own_ch x2))]) _
    rw [hq15]
    show SG p e below T13 (mkF m 82 #[lI x0, lI x1, lI x2, lI x3, lI x4, .val (.int (x0 &&& (3 : Int32))), lV vI4, lI x7, lU, lU, lU, lU, lU] [(.int x8)]) _
    refine XS.istore X13.here hx rfl (hb hby at_82) rfl (l' := #[lI x0, lI x1, lI x2, lI x3, lI x4, .val (.int (x0 &&& (3 : Int32))), lV vI4, lI x7, lI x8, lU, lU, lU, lU]) rfl ?_
    refine qiN X13 hx hby at_84 ?_
    refine st17.trans ?_
    show SG p e below T17 (mkF m 88 #[lI x0, lI x1, lI x2, lI x3, lI x4, .val (.int (x0 &&& (3 : Int32))), lV vI4, lI x7, lI x8, lU, lU, lU, lU] [(.int (own_ch x3))]) _
    rw [hq19]
    show SG p e below T17 (mkF m 88 #[lI x0, lI x1, lI x2, lI x3, lI x4, .val (.int (x0 &&& (3 : Int32))), lV vI4, lI x7, lI x8, lU, lU, lU, lU] [(.int x9)]) _
    refine XS.istore X17.here hx rfl (hb hby at_88) rfl (l' := #[lI x0, lI x1, lI x2, lI x3, lI x4, .val (.int (x0 &&& (3 : Int32))), lV vI4, lI x7, lI x8, lI x9, lU, lU, lU]) rfl ?_
    refine qi X17 hx hby at_90 ?_
    refine st21.trans ?_
    show SG p e below T21 (mkF m 95 #[lI x0, lI x1, lI x2, lI x3, lI x4, .val (.int (x0 &&& (3 : Int32))), lV vI4, lI x7, lI x8, lI x9, lU, lU, lU] [(.int (own_ch x4))]) _
    rw [hq23]
    show SG p e below T21 (mkF m 95 #[lI x0, lI x1, lI x2, lI x3, lI x4, .val (.int (x0 &&& (3 : Int32))), lV vI4, lI x7, lI x8, lI x9, lU, lU, lU] [(.int x10)]) _
    refine XS.istore X21.here hx rfl (hb hby at_95) rfl (l' := #[lI x0, lI x1, lI x2, lI x3, lI x4, .val (.int (x0 &&& (3 : Int32))), lV vI4, lI x7, lI x8, lI x9, lI x10, lU, lU]) rfl ?_
    refine qi X21 hx hby at_97 ?_
    refine XS.ifYes X21.here hx rfl (pc0 := 99) (pc' := 110) rfl (hb hby at_99) rfl ((if0 _ _).trans (feq (by decide : ¬ ((4 : Int32) = (0 : Int32)))).2) (by decide) (by decide) ?_
    show SG p e below T21 (mkF m 110 #[lI x0, lI x1, lI x2, lI x3, lI x4, .val (.int (x0 &&& (3 : Int32))), lV vI4, lI x7, lI x8, lI x9, lI x10, lU, lU] []) _
    refine qi X21 hx hby at_110 ?_
    refine qc X21 hx hby at_112 ?_
    refine XS.icmpYes X21.here hx rfl (pc0 := 113) (pc' := 129) rfl (hb hby at_113) rfl (feq (by decide : ¬ ((4 : Int32) = (1 : Int32)))).2 (by decide) (by decide) ?_
    show SG p e below T21 (mkF m 129 #[lI x0, lI x1, lI x2, lI x3, lI x4, .val (.int (x0 &&& (3 : Int32))), lV vI4, lI x7, lI x8, lI x9, lI x10, lU, lU] []) _
    refine qi X21 hx hby at_129 ?_
    refine qc X21 hx hby at_131 ?_
    refine XS.icmpYes X21.here hx rfl (pc0 := 132) (pc' := 153) rfl (hb hby at_132) rfl (feq (by decide : ¬ ((4 : Int32) = (2 : Int32)))).2 (by decide) (by decide) ?_
    show SG p e below T21 (mkF m 153 #[lI x0, lI x1, lI x2, lI x3, lI x4, .val (.int (x0 &&& (3 : Int32))), lV vI4, lI x7, lI x8, lI x9, lI x10, lU, lU] []) _
    refine qi X21 hx hby at_153 ?_
    refine qc X21 hx hby at_155 ?_
    refine XS.icmpYes X21.here hx rfl (pc0 := 156) (pc' := 182) rfl (hb hby at_156) rfl (feq (by decide : ¬ ((4 : Int32) = (3 : Int32)))).2 (by decide) (by decide) ?_
    show SG p e below T21 (mkF m 182 #[lI x0, lI x1, lI x2, lI x3, lI x4, .val (.int (x0 &&& (3 : Int32))), lV vI4, lI x7, lI x8, lI x9, lI x10, lU, lU] []) _
    refine qc X21 hx hby at_182 ?_
    refine st24 _ ?_
    show SG p e below T24 (mkF m 185 #[lI x0, lI x1, lI x2, lI x3, lI x4, .val (.int (x0 &&& (3 : Int32))), lV vI4, lI x7, lI x8, lI x9, lI x10, lU, lU] [(.ref b24)]) _
    refine qd X24 hx hby at_185 ?_
    refine qc X24 hx hby at_186 ?_
    refine qi X24 hx hby at_187 ?_
    refine st31 _ ?_
    show SG p e below T31 (mkF m 190 #[lI x0, lI x1, lI x2, lI x3, lI x4, .val (.int (x0 &&& (3 : Int32))), lV vI4, lI x7, lI x8, lI x9, lI x10, lU, lU] [(.ref b24)]) _
    refine qd X31 hx hby at_190 ?_
    refine qc X31 hx hby at_191 ?_
    refine qi X31 hx hby at_192 ?_
    refine st35 _ ?_
    show SG p e below T35 (mkF m 195 #[lI x0, lI x1, lI x2, lI x3, lI x4, .val (.int (x0 &&& (3 : Int32))), lV vI4, lI x7, lI x8, lI x9, lI x10, lU, lU] [(.ref b24)]) _
    refine qd X35 hx hby at_195 ?_
    refine qc X35 hx hby at_196 ?_
    refine qi X35 hx hby at_197 ?_
    refine st40 _ ?_
    show SG p e below T40 (mkF m 200 #[lI x0, lI x1, lI x2, lI x3, lI x4, .val (.int (x0 &&& (3 : Int32))), lV vI4, lI x7, lI x8, lI x9, lI x10, lU, lU] [(.ref b24)]) _
    refine qd X40 hx hby at_200 ?_
    refine qc X40 hx hby at_201 ?_
    refine qi X40 hx hby at_202 ?_
    refine st45 _ ?_
    show SG p e below T45 (mkF m 205 #[lI x0, lI x1, lI x2, lI x3, lI x4, .val (.int (x0 &&& (3 : Int32))), lV vI4, lI x7, lI x8, lI x9, lI x10, lU, lU] [(.ref b24)]) _
    refine XS.astore X45.here hx rfl (hb hby at_205) rfl rfl (l' := #[lI x0, lI x1, lI x2, lI x3, lI x4, .val (.int (x0 &&& (3 : Int32))), lV vI4, lI x7, lI x8, lI x9, lI x10, lR b24, lU]) rfl ?_
    refine st49 _ ?_
    show SG p e below T49 (mkF m 210 #[lI x0, lI x1, lI x2, lI x3, lI x4, .val (.int (x0 &&& (3 : Int32))), lV vI4, lI x7, lI x8, lI x9, lI x10, lR b24, lU] [(.ref b49)]) _
    refine qd X49 hx hby at_210 ?_
    refine qa X49 hx hby at_211 ?_
    refine st68.trans ?_
    show SG p e below T68 (mkF m 216 #[lI x0, lI x1, lI x2, lI x3, lI x4, .val (.int (x0 &&& (3 : Int32))), lV vI4, lI x7, lI x8, lI x9, lI x10, lR b24, lU] [(.ref b49)]) _
    refine XS.astore X68.here hx rfl (hb hby at_216) rfl rfl (l' := #[lI x0, lI x1, lI x2, lI x3, lI x4, .val (.int (x0 &&& (3 : Int32))), lV vI4, lI x7, lI x8, lI x9, lI x10, lR b24, lR b49]) rfl ?_
    refine qa X68 hx hby at_218 ?_
    refine st113 _ ?_
    show SG p e below T113 (mkF m 223 #[lI x0, lI x1, lI x2, lI x3, lI x4, .val (.int (x0 &&& (3 : Int32))), lV vI4, lI x7, lI x8, lI x9, lI x10, lR b24, lR b49] [(own_lab [((nar .char x7).toInt8.toInt32), ((nar .char x8).toInt8.toInt32), ((nar .char x9).toInt8.toInt32), ((nar .char x10).toInt8.toInt32)] r13 r14 r15 r16 r17 r18)]) _
    refine qa X113 hx hby at_223 ?_
    refine st126.trans ?_
    show SG p e below T126 (mkF m 228 #[lI x0, lI x1, lI x2, lI x3, lI x4, .val (.int (x0 &&& (3 : Int32))), lV vI4, lI x7, lI x8, lI x9, lI x10, lR b24, lR b49] [(own_lab [((nar .char x7).toInt8.toInt32), ((nar .char x8).toInt8.toInt32), ((nar .char x9).toInt8.toInt32), ((nar .char x10).toInt8.toInt32)] r13 r14 r15 r16 r17 r18), (own_lab [((nar .char x7).toInt8.toInt32), ((nar .char x8).toInt8.toInt32), ((nar .char x9).toInt8.toInt32), ((nar .char x10).toInt8.toInt32)] r13 r14 r15 r16 r17 r18)]) _
    refine Jvm.RoadKit.acmp (g := (mkF m 228 #[lI x0, lI x1, lI x2, lI x3, lI x4, .val (.int (x0 &&& (3 : Int32))), lV vI4, lI x7, lI x8, lI x9, lI x10, lR b24, lR b49] [(own_lab [((nar .char x7).toInt8.toInt32), ((nar .char x8).toInt8.toInt32), ((nar .char x9).toInt8.toInt32), ((nar .char x10).toInt8.toInt32)] r13 r14 r15 r16 r17 r18), (own_lab [((nar .char x7).toInt8.toInt32), ((nar .char x8).toInt8.toInt32), ((nar .char x9).toInt8.toInt32), ((nar .char x10).toInt8.toInt32)] r13 r14 r15 r16 r17 r18)])) X126 hx rfl (own_labRef) (own_labRef) (pc0 := 228) (pc' := 231) (same := true) rfl (hb hby at_228) rfl (decide_eq_true rfl) (by decide) (by decide) ?_
    show SG p e below T126 (mkF m 231 #[lI x0, lI x1, lI x2, lI x3, lI x4, .val (.int (x0 &&& (3 : Int32))), lV vI4, lI x7, lI x8, lI x9, lI x10, lR b24, lR b49] []) _
    refine qc X126 hx hby at_231 ?_
    refine XS.goto X126.here hx rfl (pc0 := 232) (pc' := 236) rfl (hb hby at_232) (by decide) (by decide) ?_
    show SG p e below T126 (mkF m 236 #[lI x0, lI x1, lI x2, lI x3, lI x4, .val (.int (x0 &&& (3 : Int32))), lV vI4, lI x7, lI x8, lI x9, lI x10, lR b24, lR b49] [vI1]) _
    exact retN X126 hx (t := .boolean) hret (by simp) (hb hby at_236) hr
theorem comes_1 {Post : Tables → Env → Array Value → State → Outcome → State → Prop} (hpost : ∀ tb e args s v u, (limb_1_1.after args s (.returned v) u = true ∧ limb_1_2.after args s (.returned v) u = true ∧ True) → ReturnedEndW s (.returned v) u (Jvm.fieldLocs frame_1_writes args s ++ Jvm.arrayLocs frame_1_arrays args s ++ Jvm.staticLocs frame_1_statics s) 32 8384 → Post tb e args s (.returned v) u) :
    ArmFor flags0 classFile x code maxLocals ret World_1 tables_1 room_1 Calls_1 rest_1 Pre_1 Post := by
  intro l hfl _ _ p e ha hc hk s m args below hf hA hF happ hP
  obtain ⟨hcalls, hrest, hpre⟩ := hP
  obtain ⟨-, -, -, hnamed, -, -, -, hat⟩ := (Spec.applies_iff hf).mp happ
  obtain ⟨hg, hn⟩ := and_e (Cond.before_iff.mp (show (Jvm.Cond.and given_1 narrow_1).before args s = true from hpre))
  obtain ⟨g0, hg⟩ := and_e hg
  obtain ⟨ga0, hg⟩ := and_e hg
  obtain ⟨ga1, hg⟩ := and_e hg
  obtain ⟨ga2, hg⟩ := and_e hg
  obtain ⟨ga3, hg⟩ := and_e hg
  obtain ⟨w0, w1, w2, w3, w4, rfl⟩ : ∃ w0 w1 w2 w3 w4 : Value, args = #[w0, w1, w2, w3, w4] := by
    have hs : args.size = 5 := by simpa [Cond.value, given_1] using g0
    obtain ⟨L⟩ := args
    match L, hs with
    | [w0, w1, w2, w3, w4], _ => exact ⟨w0, w1, w2, w3, w4, rfl⟩
  have hw := fun d (hd : d ∈ tables_1) => atoms_spec (ws := Jvm.Cond.code x code maxLocals ret :: tables_1) hat d (List.mem_cons_of_mem _ hd)
  have hfit : Fit s := fun {y c} hc i hi => by
    obtain ⟨ha, rfl⟩ := Array.getElem?_eq_some_iff.mp hc
    have q := List.all_eq_true.mp ((Array.all_eq_true_iff_forall_mem.mp hF) _ (Array.getElem_mem ha)) i (List.mem_range.mpr hi)
    simpa [Array.getElem?_eq_getElem hi] using q
  obtain ⟨hsets, hown0⟩ := atoms_of _ (rest_1_c_eq ▸ (show rest_1_c.before _ s = true from hrest))
  have hr0 := Cond.before_iff.mp hown0
  obtain ⟨i0, ei0⟩ := is_v ga0
  obtain rfl : w0 = (.int i0) := Option.some.inj ei0
  obtain ⟨i1, ei1⟩ := is_v ga1
  obtain rfl : w1 = (.int i1) := Option.some.inj ei1
  obtain ⟨i2, ei2⟩ := is_v ga2
  obtain rfl : w2 = (.int i2) := Option.some.inj ei2
  obtain ⟨i3, ei3⟩ := is_v ga3
  obtain rfl : w3 = (.int i3) := Option.some.inj ei3
  obtain ⟨i4, ei4⟩ := is_v hg
  obtain rfl : w4 = (.int i4) := Option.some.inj ei4
  have hs := fun (n : Nat) (d : Jvm.Cond) (q : jdkStatics_1[n]? = some d) => Cond.before_iff.mp (hsets d (List.mem_of_getElem? q))
  obtain ⟨iCS, eCS⟩ := is_v (hs 1 _ rfl)
  have SCS := Sta.start eCS (Or.inl (hsets _ (List.mem_of_getElem? (i := 0) rfl)))
  have nCS : ¬ (iCS = (0 : Int32)) := gotF (Cond.eq_ints eCS (Term.int_eval (0))) (not_v (hs 2 _ rfl))
  obtain ⟨vFM, eFM, hFM⟩ := isR_v (hs 8 _ rfl)
  have SFM := Sta.start eFM (Or.inl (hsets _ (List.mem_of_getElem? (i := 7) rfl)))
  have hcw : Jvm.Lit.compactW.before _ s = true := (hsets _ (List.mem_of_getElem? (i := 2) rfl))
  suffices hM : MetFree l x (head1 (Jvm.Cond.code x code maxLocals ret :: tables_1) room_1) (fun a U => a = #[(.int i0), (.int i1), (.int i2), (.int i3), (.int i4)] ∧ s.Warmed39 U.vm ∧ U.heap = s.heap ∧ CHv s consts_1 U.vm s.heap) (fun _ _ _ _ _ => True) (fun _ U o U' => ∃ v L, o = .returned v ∧ (v = some vI1 ∧ Fr s.heap.size L) ∧ CHr s consts_1 U.vm U.heap U'.vm U'.heap ∧ ReturnedEndW U o U' L room_1.cells room_1.slots) by
    obtain ⟨n, o, h1, h2, h3, _, L, rfl, ⟨rfl, N⟩, -, hq⟩ := hM p e ha hc hk s m _ below hf ((Spec.applies_iff_loose hf).mp happ).1 ⟨rfl, State.Warmed39.refl s, rfl, CHv.start (own_EW hw) (fun p hp => hcalls.1 p hp) hcw (ww hw 23 rfl) (ww hw 5 rfl)⟩ trivial
    refine ⟨n, _, h1, h2, h3, hpost _ _ _ _ _ _ ⟨Cond.after_iff.mpr rfl, Cond.after_iff.mpr (eq_i res_at (Term.int_eval (1)) rfl), trivial⟩ ⟨hq.1, hq.2.1, hq.2.2.1, (hq.2.2.2.sift fun y hy => Or.inr (N y hy)).mono (by decide) (by decide)⟩⟩
  obtain ⟨hN0, hn⟩ := and_e hn
  obtain ⟨hN1, hn⟩ := and_e hn
  obtain ⟨hN2, hn⟩ := and_e hn
  obtain ⟨hN3, hn⟩ := and_e hn
  obtain ⟨hN4, hn⟩ := and_e hn
  obtain ⟨hN5, hn⟩ := and_e hn
  obtain ⟨hN6, hn⟩ := and_e hn
  obtain ⟨hN7, hn⟩ := and_e hn
  obtain ⟨hN8, hn⟩ := and_e hn
  obtain ⟨hN9, hn⟩ := and_e hn
  obtain ⟨hN10, hn⟩ := and_e hn
  obtain ⟨hN11, hn⟩ := and_e hn
  obtain ⟨hN12, hn⟩ := and_e hn
  obtain ⟨hN13, hn⟩ := and_e hn
  obtain ⟨hN14, hn⟩ := and_e hn
  obtain ⟨hN15, hn⟩ := and_e hn
  obtain ⟨hN16, hn⟩ := and_e hn
  obtain ⟨hN17, hn⟩ := and_e hn
  obtain ⟨hN18, hn⟩ := and_e hn
  obtain ⟨hN19, hn⟩ := and_e hn
  obtain ⟨hN20, hn⟩ := and_e hn
  obtain ⟨hN21, hn⟩ := and_e hn
  obtain ⟨hN22, hn⟩ := and_e hn
  obtain ⟨hN23, hn⟩ := and_e hn
  obtain ⟨hN24, hn⟩ := and_e hn
  obtain ⟨hN25, hn⟩ := and_e hn
  obtain ⟨hN26, hn⟩ := and_e hn
  obtain ⟨hN27, hn⟩ := and_e hn
  obtain ⟨hN28, hn⟩ := and_e hn
  obtain ⟨hN29, hn⟩ := and_e hn
  obtain ⟨hN30, hn⟩ := and_e hn
  obtain ⟨hN31, hn⟩ := and_e hn
  obtain ⟨hN32, hn⟩ := and_e hn
  obtain ⟨hN33, hn⟩ := and_e hn
  obtain ⟨hN34, hn⟩ := and_e hn
  obtain ⟨hN35, hn⟩ := and_e hn
  obtain ⟨hN36, hn⟩ := and_e hn
  obtain ⟨hN37, hn⟩ := and_e hn
  obtain ⟨hN38, hn⟩ := and_e hn
  obtain ⟨hN39, hn⟩ := and_e hn
  obtain ⟨hN40, hn⟩ := and_e hn
  obtain ⟨hN41, hn⟩ := and_e hn
  obtain ⟨hN42, hn⟩ := and_e hn
  obtain ⟨hN43, hn⟩ := and_e hn
  obtain ⟨hN44, hn⟩ := and_e hn
  obtain ⟨hN45, hn⟩ := and_e hn
  obtain ⟨hN46, hn⟩ := and_e hn
  obtain ⟨hN47, hn⟩ := and_e hn
  obtain ⟨hN48, hn⟩ := and_e hn
  obtain ⟨hN49, hn⟩ := and_e hn
  obtain ⟨hN50, hn⟩ := and_e hn
  obtain ⟨hN51, hn⟩ := and_e hn
  obtain ⟨hN52, hn⟩ := and_e hn
  obtain ⟨hN53, hn⟩ := and_e hn
  obtain ⟨hN54, hn⟩ := and_e hn
  obtain ⟨hN55, hn⟩ := and_e hn
  obtain ⟨hN56, hn⟩ := and_e hn
  obtain ⟨hN57, hn⟩ := and_e hn
  have hN58 := hn
  obtain ⟨rVALUES, eVALUES⟩ := arr_v hN0
  have SVALUES := Sta.start eVALUES (Or.inl (ww hw 56 rfl))
  have EVALUES := Exa.start eVALUES hN1
  obtain ⟨clVALUES, AVALUES⟩ := Arr.start eVALUES hN0
  have hlVALUES := own_len hN2 eVALUES AVALUES
  obtain ⟨rI32, eI32⟩ := exa_v hN3
  have SI32 := Sta.start eI32 (Or.inr ⟨(ww hw 36 rfl), (ww hw 50 rfl)⟩)
  have EI32 := Exa.start eI32 hN3
  have KI32 := (elem_in (own_eqr eI32 hN4) eVALUES (Term.int_eval (0)) AVALUES.1).2
  obtain ⟨rLI32, eLI32⟩ := exa_v hN15
  have FLI32 := Fld.start ((fld_at eI32).symm.trans eLI32)
  have ELI32 := Exa.start eLI32 hN15
  have FcLI32 := Fld.start ((fld_at eLI32).symm.trans (eqv_i (y := 0) rfl hN16))
  obtain ⟨rBI32, eBI32⟩ := arr_v hN17
  have FBI32 := Fld.start ((fld_at eLI32).symm.trans eBI32)
  obtain ⟨clBI32, ABI32⟩ := Arr.start eBI32 hN17
  have hlBI32 := own_len hN18 eBI32 ABI32
  have VBI32 : Arv s s.heap rBI32 clBI32.cls .byte (3 : Int32) [vI105, vI51, vI50] vI0 := Arv.start hfit ABI32 hlBI32.1 hlBI32.2 (by decide) rfl ⟨(elem_in (eqv_i (y := 105) rfl hN19) eBI32 (Term.int_eval (0)) ABI32.1).2, (elem_in (eqv_i (y := 51) rfl hN20) eBI32 (Term.int_eval (1)) ABI32.1).2, (elem_in (eqv_i (y := 50) rfl hN21) eBI32 (Term.int_eval (2)) ABI32.1).2, trivial⟩
  obtain ⟨rU32, eU32⟩ := exa_v hN5
  have SU32 := Sta.start eU32 (Or.inr ⟨(ww hw 36 rfl), (ww hw 51 rfl)⟩)
  have EU32 := Exa.start eU32 hN5
  have KU32 := (elem_in (own_eqr eU32 hN6) eVALUES (Term.int_eval (1)) AVALUES.1).2
  obtain ⟨rLU32, eLU32⟩ := exa_v hN22
  have FLU32 := Fld.start ((fld_at eU32).symm.trans eLU32)
  have ELU32 := Exa.start eLU32 hN22
  have FcLU32 := Fld.start ((fld_at eLU32).symm.trans (eqv_i (y := 0) rfl hN23))
  obtain ⟨rBU32, eBU32⟩ := arr_v hN24
  have FBU32 := Fld.start ((fld_at eLU32).symm.trans eBU32)
  obtain ⟨clBU32, ABU32⟩ := Arr.start eBU32 hN24
  have hlBU32 := own_len hN25 eBU32 ABU32
  have VBU32 : Arv s s.heap rBU32 clBU32.cls .byte (3 : Int32) [vI117, vI51, vI50] vI0 := Arv.start hfit ABU32 hlBU32.1 hlBU32.2 (by decide) rfl ⟨(elem_in (eqv_i (y := 117) rfl hN26) eBU32 (Term.int_eval (0)) ABU32.1).2, (elem_in (eqv_i (y := 51) rfl hN47) eBU32 (Term.int_eval (1)) ABU32.1).2, (elem_in (eqv_i (y := 50) rfl hN48) eBU32 (Term.int_eval (2)) ABU32.1).2, trivial⟩
  obtain ⟨rF32, eF32⟩ := exa_v hN7
  have SF32 := Sta.start eF32 (Or.inr ⟨(ww hw 36 rfl), (ww hw 52 rfl)⟩)
  have EF32 := Exa.start eF32 hN7
  have KF32 := (elem_in (own_eqr eF32 hN8) eVALUES (Term.int_eval (2)) AVALUES.1).2
  obtain ⟨rLF32, eLF32⟩ := exa_v hN27
  have FLF32 := Fld.start ((fld_at eF32).symm.trans eLF32)
  have ELF32 := Exa.start eLF32 hN27
  have FcLF32 := Fld.start ((fld_at eLF32).symm.trans (eqv_i (y := 0) rfl hN28))
  obtain ⟨rBF32, eBF32⟩ := arr_v hN29
  have FBF32 := Fld.start ((fld_at eLF32).symm.trans eBF32)
  obtain ⟨clBF32, ABF32⟩ := Arr.start eBF32 hN29
  have hlBF32 := own_len hN30 eBF32 ABF32
  have VBF32 : Arv s s.heap rBF32 clBF32.cls .byte (3 : Int32) [vI102, vI51, vI50] vI0 := Arv.start hfit ABF32 hlBF32.1 hlBF32.2 (by decide) rfl ⟨(elem_in (eqv_i (y := 102) rfl hN31) eBF32 (Term.int_eval (0)) ABF32.1).2, (elem_in (eqv_i (y := 51) rfl hN49) eBF32 (Term.int_eval (1)) ABF32.1).2, (elem_in (eqv_i (y := 50) rfl hN50) eBF32 (Term.int_eval (2)) ABF32.1).2, trivial⟩
  obtain ⟨rF64, eF64⟩ := exa_v hN9
  have SF64 := Sta.start eF64 (Or.inr ⟨(ww hw 36 rfl), (ww hw 53 rfl)⟩)
  have EF64 := Exa.start eF64 hN9
  have KF64 := (elem_in (own_eqr eF64 hN10) eVALUES (Term.int_eval (3)) AVALUES.1).2
  obtain ⟨rLF64, eLF64⟩ := exa_v hN32
  have FLF64 := Fld.start ((fld_at eF64).symm.trans eLF64)
  have ELF64 := Exa.start eLF64 hN32
  have FcLF64 := Fld.start ((fld_at eLF64).symm.trans (eqv_i (y := 0) rfl hN33))
  obtain ⟨rBF64, eBF64⟩ := arr_v hN34
  have FBF64 := Fld.start ((fld_at eLF64).symm.trans eBF64)
  obtain ⟨clBF64, ABF64⟩ := Arr.start eBF64 hN34
  have hlBF64 := own_len hN35 eBF64 ABF64
  have VBF64 : Arv s s.heap rBF64 clBF64.cls .byte (3 : Int32) [vI102, vI54, vI52] vI0 := Arv.start hfit ABF64 hlBF64.1 hlBF64.2 (by decide) rfl ⟨(elem_in (eqv_i (y := 102) rfl hN36) eBF64 (Term.int_eval (0)) ABF64.1).2, (elem_in (eqv_i (y := 54) rfl hN51) eBF64 (Term.int_eval (1)) ABF64.1).2, (elem_in (eqv_i (y := 52) rfl hN52) eBF64 (Term.int_eval (2)) ABF64.1).2, trivial⟩
  obtain ⟨rTEXT, eTEXT⟩ := exa_v hN11
  have STEXT := Sta.start eTEXT (Or.inr ⟨(ww hw 36 rfl), (ww hw 54 rfl)⟩)
  have ETEXT := Exa.start eTEXT hN11
  have KTEXT := (elem_in (own_eqr eTEXT hN12) eVALUES (Term.int_eval (4)) AVALUES.1).2
  obtain ⟨rLTEXT, eLTEXT⟩ := exa_v hN37
  have FLTEXT := Fld.start ((fld_at eTEXT).symm.trans eLTEXT)
  have ELTEXT := Exa.start eLTEXT hN37
  have FcLTEXT := Fld.start ((fld_at eLTEXT).symm.trans (eqv_i (y := 0) rfl hN38))
  obtain ⟨rBTEXT, eBTEXT⟩ := arr_v hN39
  have FBTEXT := Fld.start ((fld_at eLTEXT).symm.trans eBTEXT)
  obtain ⟨clBTEXT, ABTEXT⟩ := Arr.start eBTEXT hN39
  have hlBTEXT := own_len hN40 eBTEXT ABTEXT
  have VBTEXT : Arv s s.heap rBTEXT clBTEXT.cls .byte (4 : Int32) [vI116, vI101, vI120, vI116] vI0 := Arv.start hfit ABTEXT hlBTEXT.1 hlBTEXT.2 (by decide) rfl ⟨(elem_in (eqv_i (y := 116) rfl hN45) eBTEXT (Term.int_eval (0)) ABTEXT.1).2, (elem_in (eqv_i (y := 101) rfl hN56) eBTEXT (Term.int_eval (1)) ABTEXT.1).2, (elem_in (eqv_i (y := 120) rfl hN57) eBTEXT (Term.int_eval (2)) ABTEXT.1).2, (elem_in (eqv_i (y := 116) rfl hN58) eBTEXT (Term.int_eval (3)) ABTEXT.1).2, trivial⟩
  obtain ⟨rGUID, eGUID⟩ := exa_v hN13
  have SGUID := Sta.start eGUID (Or.inr ⟨(ww hw 36 rfl), (ww hw 55 rfl)⟩)
  have EGUID := Exa.start eGUID hN13
  have KGUID := (elem_in (own_eqr eGUID hN14) eVALUES (Term.int_eval (5)) AVALUES.1).2
  obtain ⟨rLGUID, eLGUID⟩ := exa_v hN41
  have FLGUID := Fld.start ((fld_at eGUID).symm.trans eLGUID)
  have ELGUID := Exa.start eLGUID hN41
  have FcLGUID := Fld.start ((fld_at eLGUID).symm.trans (eqv_i (y := 0) rfl hN42))
  obtain ⟨rBGUID, eBGUID⟩ := arr_v hN43
  have FBGUID := Fld.start ((fld_at eLGUID).symm.trans eBGUID)
  obtain ⟨clBGUID, ABGUID⟩ := Arr.start eBGUID hN43
  have hlBGUID := own_len hN44 eBGUID ABGUID
  have VBGUID : Arv s s.heap rBGUID clBGUID.cls .byte (4 : Int32) [vI103, vI117, vI105, vI100] vI0 := Arv.start hfit ABGUID hlBGUID.1 hlBGUID.2 (by decide) rfl ⟨(elem_in (eqv_i (y := 103) rfl hN46) eBGUID (Term.int_eval (0)) ABGUID.1).2, (elem_in (eqv_i (y := 117) rfl hN53) eBGUID (Term.int_eval (1)) ABGUID.1).2, (elem_in (eqv_i (y := 105) rfl hN54) eBGUID (Term.int_eval (2)) ABGUID.1).2, (elem_in (eqv_i (y := 100) rfl hN55) eBGUID (Term.int_eval (3)) ABGUID.1).2, trivial⟩
  have VVALUES : Arv s s.heap rVALUES clVALUES.cls (.object cs0) (6 : Int32) [(.ref rI32), (.ref rU32), (.ref rF32), (.ref rF64), (.ref rTEXT), (.ref rGUID)] .null := Arv.start hfit AVALUES hlVALUES.1 hlVALUES.2 (by decide) rfl ⟨KI32, KU32, KF32, KF64, KTEXT, KGUID, trivial⟩
  by_cases c3 : (i0 &&& (3 : Int32)) = (3 : Int32)
  · exact rm0_1 l s _ hw tables_1 i0 i1 i2 i3 i4 rVALUES clVALUES.cls rI32 rU32 rF32 rF64 rTEXT rGUID rLI32 rBI32 clBI32.cls rLU32 rBU32 clBU32.cls rLF32 rBF32 clBF32.cls rLF64 rBF64 clBF64.cls rLTEXT rBTEXT clBTEXT.cls rLGUID rBGUID clBGUID.cls _ _ (Old.start s) c3 SVALUES EVALUES VVALUES FLI32 ELI32 FcLI32 FBI32 VBI32 FLU32 ELU32 FcLU32 FBU32 VBU32 FLF32 ELF32 FcLF32 FBF32 VBF32 FLF64 ELF64 FcLF64 FBF64 VBF64 FLTEXT ELTEXT FcLTEXT FBTEXT VBTEXT FLGUID ELGUID FcLGUID FBGUID VBGUID
  obtain ⟨kk, hkk, ekk⟩ := own_and7 ((i0.toUInt32 >>> ((2 : Int32) &&& 31).toUInt32).toInt32)
  have hm := own_m6 kk hkk
  rw [← ekk] at hm
  by_cases c0 : (i0 &&& (3 : Int32)) = (0 : Int32)
  · rcases hm.1 with ck | ck | ck | ck | ck | ck
    · exact rm0_2 l s _ hw tables_1 i0 i1 i2 i3 i4 iCS rVALUES clVALUES.cls rI32 rU32 rF32 rF64 rTEXT rGUID rLI32 rBI32 clBI32.cls rLU32 rBU32 clBU32.cls rLF32 rBF32 clBF32.cls rLF64 rBF64 clBF64.cls rLTEXT rBTEXT clBTEXT.cls rLGUID rBGUID clBGUID.cls _ _ (Old.start s) c3 c0 ck SCS nCS SVALUES EVALUES VVALUES FLI32 ELI32 FcLI32 FBI32 VBI32 FLU32 ELU32 FcLU32 FBU32 VBU32 FLF32 ELF32 FcLF32 FBF32 VBF32 FLF64 ELF64 FcLF64 FBF64 VBF64 FLTEXT ELTEXT FcLTEXT FBTEXT VBTEXT FLGUID ELGUID FcLGUID FBGUID VBGUID SI32 rfl
    · exact rm0_3 l s _ hw tables_1 i0 i1 i2 i3 i4 iCS rVALUES clVALUES.cls rI32 rU32 rF32 rF64 rTEXT rGUID rLI32 rBI32 clBI32.cls rLU32 rBU32 clBU32.cls rLF32 rBF32 clBF32.cls rLF64 rBF64 clBF64.cls rLTEXT rBTEXT clBTEXT.cls rLGUID rBGUID clBGUID.cls _ _ (Old.start s) c3 c0 ck SCS nCS SVALUES EVALUES VVALUES FLI32 ELI32 FcLI32 FBI32 VBI32 FLU32 ELU32 FcLU32 FBU32 VBU32 FLF32 ELF32 FcLF32 FBF32 VBF32 FLF64 ELF64 FcLF64 FBF64 VBF64 FLTEXT ELTEXT FcLTEXT FBTEXT VBTEXT FLGUID ELGUID FcLGUID FBGUID VBGUID SU32 rfl
    · exact rm0_4 l s _ hw tables_1 i0 i1 i2 i3 i4 iCS rVALUES clVALUES.cls rI32 rU32 rF32 rF64 rTEXT rGUID rLI32 rBI32 clBI32.cls rLU32 rBU32 clBU32.cls rLF32 rBF32 clBF32.cls rLF64 rBF64 clBF64.cls rLTEXT rBTEXT clBTEXT.cls rLGUID rBGUID clBGUID.cls _ _ (Old.start s) c3 c0 ck SCS nCS SVALUES EVALUES VVALUES FLI32 ELI32 FcLI32 FBI32 VBI32 FLU32 ELU32 FcLU32 FBU32 VBU32 FLF32 ELF32 FcLF32 FBF32 VBF32 FLF64 ELF64 FcLF64 FBF64 VBF64 FLTEXT ELTEXT FcLTEXT FBTEXT VBTEXT FLGUID ELGUID FcLGUID FBGUID VBGUID SF32 rfl
    · exact rm0_5 l s _ hw tables_1 i0 i1 i2 i3 i4 iCS rVALUES clVALUES.cls rI32 rU32 rF32 rF64 rTEXT rGUID rLI32 rBI32 clBI32.cls rLU32 rBU32 clBU32.cls rLF32 rBF32 clBF32.cls rLF64 rBF64 clBF64.cls rLTEXT rBTEXT clBTEXT.cls rLGUID rBGUID clBGUID.cls _ _ (Old.start s) c3 c0 ck SCS nCS SVALUES EVALUES VVALUES FLI32 ELI32 FcLI32 FBI32 VBI32 FLU32 ELU32 FcLU32 FBU32 VBU32 FLF32 ELF32 FcLF32 FBF32 VBF32 FLF64 ELF64 FcLF64 FBF64 VBF64 FLTEXT ELTEXT FcLTEXT FBTEXT VBTEXT FLGUID ELGUID FcLGUID FBGUID VBGUID SF64 rfl
    · exact rm0_6 l s _ hw tables_1 i0 i1 i2 i3 i4 iCS rVALUES clVALUES.cls rI32 rU32 rF32 rF64 rTEXT rGUID rLI32 rBI32 clBI32.cls rLU32 rBU32 clBU32.cls rLF32 rBF32 clBF32.cls rLF64 rBF64 clBF64.cls rLTEXT rBTEXT clBTEXT.cls rLGUID rBGUID clBGUID.cls _ _ (Old.start s) c3 c0 ck SCS nCS SVALUES EVALUES VVALUES FLI32 ELI32 FcLI32 FBI32 VBI32 FLU32 ELU32 FcLU32 FBU32 VBU32 FLF32 ELF32 FcLF32 FBF32 VBF32 FLF64 ELF64 FcLF64 FBF64 VBF64 FLTEXT ELTEXT FcLTEXT FBTEXT VBTEXT FLGUID ELGUID FcLGUID FBGUID VBGUID STEXT rfl
    · exact rm0_7 l s _ hw tables_1 i0 i1 i2 i3 i4 iCS rVALUES clVALUES.cls rI32 rU32 rF32 rF64 rTEXT rGUID rLI32 rBI32 clBI32.cls rLU32 rBU32 clBU32.cls rLF32 rBF32 clBF32.cls rLF64 rBF64 clBF64.cls rLTEXT rBTEXT clBTEXT.cls rLGUID rBGUID clBGUID.cls _ _ (Old.start s) c3 c0 ck SCS nCS SVALUES EVALUES VVALUES FLI32 ELI32 FcLI32 FBI32 VBI32 FLU32 ELU32 FcLU32 FBU32 VBU32 FLF32 ELF32 FcLF32 FBF32 VBF32 FLF64 ELF64 FcLF64 FBF64 VBF64 FLTEXT ELTEXT FcLTEXT FBTEXT VBTEXT FLGUID ELGUID FcLGUID FBGUID VBGUID SGUID rfl
  rcases hm.2 with ck | ck | ck | ck | ck
  · exact rm0_8 l s _ hw tables_1 i0 i1 i2 i3 i4 iCS vFM (((own_ch i1))) (((own_ch i2))) (((own_ch i3))) (((own_ch i4))) rVALUES clVALUES.cls rI32 rU32 rF32 rF64 rTEXT rGUID rLI32 rBI32 clBI32.cls rLU32 rBU32 clBU32.cls rLF32 rBF32 clBF32.cls rLF64 rBF64 clBF64.cls rLTEXT rBTEXT clBTEXT.cls rLGUID rBGUID clBGUID.cls _ _ (Old.start s) c3 c0 ck SCS nCS SFM hFM rfl rfl rfl rfl SVALUES EVALUES VVALUES FLI32 ELI32 FcLI32 FBI32 VBI32 FLU32 ELU32 FcLU32 FBU32 VBU32 FLF32 ELF32 FcLF32 FBF32 VBF32 FLF64 ELF64 FcLF64 FBF64 VBF64 FLTEXT ELTEXT FcLTEXT FBTEXT VBTEXT FLGUID ELGUID FcLGUID FBGUID VBGUID SI32 SU32 SF32 SF64 STEXT SGUID
  · exact rm0_9 l s _ hw tables_1 i0 i1 i2 i3 i4 iCS vFM (((own_ch i1))) (((own_ch i2))) (((own_ch i3))) (((own_ch i4))) rVALUES clVALUES.cls rI32 rU32 rF32 rF64 rTEXT rGUID rLI32 rBI32 clBI32.cls rLU32 rBU32 clBU32.cls rLF32 rBF32 clBF32.cls rLF64 rBF64 clBF64.cls rLTEXT rBTEXT clBTEXT.cls rLGUID rBGUID clBGUID.cls _ _ (Old.start s) c3 c0 ck SCS nCS SFM hFM rfl rfl rfl rfl (own_chok i1) SVALUES EVALUES VVALUES FLI32 ELI32 FcLI32 FBI32 VBI32 FLU32 ELU32 FcLU32 FBU32 VBU32 FLF32 ELF32 FcLF32 FBF32 VBF32 FLF64 ELF64 FcLF64 FBF64 VBF64 FLTEXT ELTEXT FcLTEXT FBTEXT VBTEXT FLGUID ELGUID FcLGUID FBGUID VBGUID SI32 SU32 SF32 SF64 STEXT SGUID
  · exact rm0_10 l s _ hw tables_1 i0 i1 i2 i3 i4 iCS vFM (((own_ch i1))) (((own_ch i2))) (((own_ch i3))) (((own_ch i4))) rVALUES clVALUES.cls rI32 rU32 rF32 rF64 rTEXT rGUID rLI32 rBI32 clBI32.cls rLU32 rBU32 clBU32.cls rLF32 rBF32 clBF32.cls rLF64 rBF64 clBF64.cls rLTEXT rBTEXT clBTEXT.cls rLGUID rBGUID clBGUID.cls _ _ (Old.start s) c3 c0 ck SCS nCS SFM hFM rfl rfl rfl rfl (own_chok i1) (own_chok i2) SVALUES EVALUES VVALUES FLI32 ELI32 FcLI32 FBI32 VBI32 FLU32 ELU32 FcLU32 FBU32 VBU32 FLF32 ELF32 FcLF32 FBF32 VBF32 FLF64 ELF64 FcLF64 FBF64 VBF64 FLTEXT ELTEXT FcLTEXT FBTEXT VBTEXT FLGUID ELGUID FcLGUID FBGUID VBGUID SI32 SU32 SF32 SF64 STEXT SGUID
  · exact rm0_11 l s _ hw tables_1 i0 i1 i2 i3 i4 iCS vFM (((own_ch i1))) (((own_ch i2))) (((own_ch i3))) (((own_ch i4))) rVALUES clVALUES.cls rI32 rU32 rF32 rF64 rTEXT rGUID rLI32 rBI32 clBI32.cls rLU32 rBU32 clBU32.cls rLF32 rBF32 clBF32.cls rLF64 rBF64 clBF64.cls rLTEXT rBTEXT clBTEXT.cls rLGUID rBGUID clBGUID.cls _ _ (Old.start s) c3 c0 ck SCS nCS SFM hFM rfl rfl rfl rfl (own_chok i1) (own_chok i2) (own_chok i3) SVALUES EVALUES VVALUES FLI32 ELI32 FcLI32 FBI32 VBI32 FLU32 ELU32 FcLU32 FBU32 VBU32 FLF32 ELF32 FcLF32 FBF32 VBF32 FLF64 ELF64 FcLF64 FBF64 VBF64 FLTEXT ELTEXT FcLTEXT FBTEXT VBTEXT FLGUID ELGUID FcLGUID FBGUID VBGUID SI32 SU32 SF32 SF64 STEXT SGUID
  · exact rm0_12 l s _ hw tables_1 i0 i1 i2 i3 i4 iCS vFM (((own_ch i1))) (((own_ch i2))) (((own_ch i3))) (((own_ch i4))) rVALUES clVALUES.cls rI32 rU32 rF32 rF64 rTEXT rGUID rLI32 rBI32 clBI32.cls rLU32 rBU32 clBU32.cls rLF32 rBF32 clBF32.cls rLF64 rBF64 clBF64.cls rLTEXT rBTEXT clBTEXT.cls rLGUID rBGUID clBGUID.cls _ _ (Old.start s) c3 c0 ck SCS nCS SFM hFM rfl rfl rfl rfl (own_chok i1) (own_chok i2) (own_chok i3) (own_chok i4) SVALUES EVALUES VVALUES FLI32 ELI32 FcLI32 FBI32 VBI32 FLU32 ELU32 FcLU32 FBU32 VBU32 FLF32 ELF32 FcLF32 FBF32 VBF32 FLF64 ELF64 FcLF64 FBF64 VBF64 FLTEXT ELTEXT FcLTEXT FBTEXT VBTEXT FLGUID ELGUID FcLGUID FBGUID VBGUID SI32 SU32 SF32 SF64 STEXT SGUID
theorem main_1_1 : Claimed_1_1 := comes_1 fun _ _ _ _ _ _ h hF => ⟨h.1, hF⟩
theorem main_1_2 : Claimed_1_2 := comes_1 fun _ _ _ _ _ _ h hF => ⟨h.2.1, hF⟩
end Jvm.Pilot.@@N@@
namespace Jvm.Pilot.@@N@@
open Jvm Jvm.ClassFile Sem Op Lib Jvm.Free Jvm.Stand Jvm.Pilot.@@N@@.Jvm.D
set_option maxRecDepth 65536
/-! MADE BY PROGRAM (witnessworld.py) out of the Statement's table words and the real class files: 22 classes; the members and pool entries that the words name. The judged class is class 1, her method 1. -/
namespace start1
open Jvm.ClassFile
def u (s : String) : CpInfo := .utf8 (stringToUtf16 s)
/-- a pool by its gaps: so many unusable entries, then the entry; so many at the end -/
def gap : Nat → List CpInfo → List CpInfo
  | 0, r => r
  | n + 1, r => .unusable :: gap n r
def poolList (es : List (Nat × CpInfo)) (last : Nat) : List CpInfo := es.foldr (fun e r => gap e.1 (e.2 :: r)) (gap last [])
def pool (es : List (Nat × CpInfo)) (last : Nat) : Array CpInfo := ⟨poolList es last⟩
def fileOf (pool : Array CpInfo) (this : Nat) (attrs : Array Attribute := #[]) (ms : Array MethodInfo := #[]) (fl : Nat := 33) (sup : Nat := 0) (ifs : Array Nat := #[]) (fds : Array FieldInfo := #[]) : ClassFile where
  minorVersion := 0
  majorVersion := 65
  constantPool := pool
  accessFlags := fl
  thisClass := this
  superClass := sup
  interfaces := ifs
  fields := fds
  methods := ms
  attributes := attrs
def plain (name : String) (sup : Option ClassId) : Class where
  name := name
  kind := .ordinary
  loader := none
  accessFlags := 33
  super := sup
  interfaces := #[]
  cf := none
  fields := #[]
  methods := #[]
  instanceTypes := #[]
  staticTypes := #[]
  resolved := #[]
  callSites := []
  init := .initialized
  statics := none
  mirror := none

def pool0 : Array CpInfo := pool [(5, u "<init>"), (0, u "()V"), (1, .class_ 10), (1, u "java/lang/Object"), (85, u "clone"), (0, u "()Ljava/lang/Object;")] 26

def k0c0 : Code := ⟨0, 1, object_method_1_code, #[], #[]⟩
def k0m0 : Method := ⟨"<init>", "()V", ⟨[], none⟩, 1, some k0c0⟩
def k0m1 : Method := ⟨"clone", "()Ljava/lang/Object;", ⟨[], some (.object "java/lang/Object")⟩, 260, none⟩
/-- java/lang/Object -/
def k0 : Class := { plain "java/lang/Object" none with
  cf := some (fileOf pool0 8 #[] #[⟨1, 5, 6, #[]⟩, ⟨260, 96, 97, #[]⟩] 33 0 #[] #[])
  methods := #[k0m0, k0m1]
  resolved := Array.replicate 124 none }

def pool1 : Array CpInfo := pool [(2, .class_ 4), (1, u "java/lang/Object"), (0, u "<init>"), (0, u "()V"), (0, .methodref 8 9), (0, .class_ 10), (0, .nameAndType 11 12), (0, u "com/example/wiregather/wiregather/wire/FieldType"), (0, u "ofLabel"), (0, u "(Ljava/lang/String;)Lcom/example/wiregather/wiregather/wire/FieldType;"), (0, .methodref 14 15), (0, .class_ 16), (0, .nameAndType 17 18), (0, u "com/example/wiregather/wiregather/wire/FieldTypeOfLabelPinLaw"), (0, u "labelOf"), (0, u "(I)Ljava/lang/String;"), (0, .methodref 14 20), (0, .nameAndType 21 22), (0, u "typeOf"), (0, u "(I)Lcom/example/wiregather/wiregather/wire/FieldType;"), (0, .methodref 14 24), (0, .nameAndType 25 26), (0, u "ch"), (0, u "(I)C"), (0, .class_ 28), (0, u "java/lang/String"), (0, .methodref 27 30), (0, .nameAndType 5 31), (0, u "([C)V"), (0, .methodref 14 33), (0, .nameAndType 34 12), (0, u "expect"), (0, .string 36), (0, u "iuf3264textgd"), (0, .methodref 27 38), (0, .nameAndType 39 26), (0, u "charAt"), (0, .fieldref 8 41), (0, .nameAndType 42 43), (0, u "I32"), (0, u "Lcom/example/wiregather/wiregather/wire/FieldType;"), (0, .fieldref 8 45), (0, .nameAndType 46 43), (0, u "U32"), (0, .fieldref 8 48), (0, .nameAndType 49 43), (0, u "F32"), (0, .fieldref 8 51), (0, .nameAndType 52 43), (0, u "F64"), (0, .fieldref 8 54), (0, .nameAndType 55 43), (0, u "TEXT"), (0, .fieldref 8 57), (0, .nameAndType 58 43), (0, u "GUID"), (0, .string 60), (0, u "i32"), (0, .methodref 27 62), (0, .nameAndType 63 64), (0, u "equals"), (0, u "(Ljava/lang/Object;)Z"), (0, .string 66), (0, u "u32"), (0, .string 68), (0, u "f32"), (0, .string 70), (0, u "f64"), (0, .string 72), (0, u "text"), (0, .string 74), (0, u "guid"), (2, u "law"), (0, u "(IIIII)Z")] 5

def k1m0 : Method := ⟨"<init>", "()V", ⟨[], none⟩, 1, none⟩
def k1c1 : Code := ⟨4, 13, code, #[], #[]⟩
def k1m1 : Method := ⟨"law", "(IIIII)Z", ⟨[.int, .int, .int, .int, .int], some .boolean⟩, 9, some k1c1⟩
def k1c2 : Code := ⟨2, 2, method_3_code, #[], #[]⟩
def k1m2 : Method := ⟨"ch", "(I)C", ⟨[.int], some .char⟩, 10, some k1c2⟩
def k1c3 : Code := ⟨6, 1, method_4_code, #[], #[]⟩
def k1m3 : Method := ⟨"labelOf", "(I)Ljava/lang/String;", ⟨[.int], some (.object "java/lang/String")⟩, 10, some k1c3⟩
def k1c4 : Code := ⟨2, 1, method_5_code, #[], #[]⟩
def k1m4 : Method := ⟨"typeOf", "(I)Lcom/example/wiregather/wiregather/wire/FieldType;", ⟨[.int], some (.object "com/example/wiregather/wiregather/wire/FieldType")⟩, 10, some k1c4⟩
def k1c5 : Code := ⟨2, 1, method_6_code, #[], #[]⟩
def k1m5 : Method := ⟨"expect", "(Ljava/lang/String;)Lcom/example/wiregather/wiregather/wire/FieldType;", ⟨[(.object "java/lang/String")], some (.object "com/example/wiregather/wiregather/wire/FieldType")⟩, 10, some k1c5⟩
/-- com/example/wiregather/wiregather/wire/FieldTypeOfLabelPinLaw -/
def k1 : Class := { plain "com/example/wiregather/wiregather/wire/FieldTypeOfLabelPinLaw" (some 0) with
  accessFlags := 49
  cf := some (fileOf pool1 14 #[] #[⟨1, 5, 6, #[]⟩, ⟨9, 77, 78, #[]⟩, ⟨10, 25, 26, #[]⟩, ⟨10, 17, 18, #[]⟩, ⟨10, 21, 22, #[]⟩, ⟨10, 34, 12, #[]⟩] 49 2 #[] #[])
  methods := #[k1m0, k1m1, k1m2, k1m3, k1m4, k1m5]
  resolved := Array.replicate 84 none }

def pool2 : Array CpInfo := pool [(1, .class_ 2), (0, u "java/io/Serializable"), (0, .class_ 4), (0, u "java/lang/Object")] 2

/-- java/io/Serializable -/
def k2 : Class := { plain "java/io/Serializable" (some 0) with
  accessFlags := 1537
  cf := some (fileOf pool2 1 #[] #[] 1537 3 #[] #[])
  resolved := Array.replicate 7 none }

def pool3 : Array CpInfo := pool [(1, .class_ 2), (0, u "java/lang/Comparable"), (0, .class_ 4), (0, u "java/lang/Object")] 7

/-- java/lang/Comparable -/
def k3 : Class := { plain "java/lang/Comparable" (some 0) with
  accessFlags := 1537
  cf := some (fileOf pool3 1 #[] #[] 1537 3 #[] #[])
  resolved := Array.replicate 12 none }

def pool4 : Array CpInfo := pool [(2, .class_ 4), (1, u "java/lang/CharSequence"), (42, .class_ 48), (0, u "java/lang/CharSequence$1CodePointIterator"), (10, .class_ 60), (0, u "java/lang/CharSequence$1CharIterator"), (5, .class_ 67), (0, u "java/lang/Object")] 63

/-- java/lang/CharSequence -/
def k4 : Class := { plain "java/lang/CharSequence" (some 0) with
  accessFlags := 1537
  cf := some (fileOf pool4 2 #[.nestMembers #[47, 59]] #[] 1537 66 #[] #[])
  resolved := Array.replicate 131 none }

def pool5 : Array CpInfo := pool [(1, .class_ 2), (0, u "java/lang/constant/Constable"), (0, .class_ 4), (0, u "java/lang/Object")] 6

/-- java/lang/constant/Constable -/
def k5 : Class := { plain "java/lang/constant/Constable" (some 0) with
  accessFlags := 1537
  cf := some (fileOf pool5 1 #[] #[] 1537 3 #[] #[])
  resolved := Array.replicate 11 none }

def pool6 : Array CpInfo := pool [(1, .class_ 2), (0, u "java/lang/constant/ConstantDesc"), (0, .class_ 4), (0, u "java/lang/Object")] 32

/-- java/lang/constant/ConstantDesc -/
def k6 : Class := { plain "java/lang/constant/ConstantDesc" (some 0) with
  accessFlags := 1537
  cf := some (fileOf pool6 1 #[] #[] 1537 3 #[] #[])
  resolved := Array.replicate 37 none }

def pool7 : Array CpInfo := pool [(1, .methodref 2 3), (0, .class_ 4), (0, .nameAndType 5 6), (0, u "java/lang/Object"), (0, u "<init>"), (0, u "()V"), (0, .string 8), (0, u ""), (0, .fieldref 10 11), (0, .class_ 12), (0, .nameAndType 13 14), (0, u "java/lang/String"), (0, u "value"), (0, u "[B"), (0, .fieldref 10 16), (0, .nameAndType 17 18), (0, u "coder"), (0, u "B"), (2, u "hash"), (0, u "I"), (2, u "hashIsZero"), (0, u "Z"), (0, .methodref 10 28), (0, .nameAndType 5 29), (0, u "([CIILjava/lang/Void;)V"), (8, .fieldref 10 39), (0, .nameAndType 40 26), (0, u "COMPACT_STRINGS"), (1, .class_ 44), (1, u "java/lang/StringUTF16"), (0, u "compress"), (1, .methodref 42 48), (0, .nameAndType 49 50), (0, u "coderFromArrayLen"), (0, u "([BI)B"), (56, .class_ 109), (1, u "java/lang/StringLatin1"), (32, u "()Z"), (34, .methodref 42 178), (0, .nameAndType 45 179), (0, u "([CII)[B"), (183, u "([BI)C"), (27, u "(II)V"), (35, u "(I)C"), (64, .methodref 10 493), (0, .nameAndType 494 142), (0, u "isLatin1"), (0, .methodref 107 496), (0, .nameAndType 497 363), (0, u "charAt"), (3, u "checkIndex"), (39, .methodref 107 542), (0, .nameAndType 543 544), (0, u "equals"), (0, u "([B[B)Z"), (28, u "(Ljava/lang/Object;)Z"), (1, .class_ 576), (0, u "java/lang/CharSequence"), (22, u "CASE_INSENSITIVE_ORDER"), (0, u "Ljava/util/Comparator;"), (409, u "([C)V"), (42, .fieldref 1054 1055), (0, .class_ 1056), (0, .nameAndType 1057 1058), (0, u "jdk/internal/util/Preconditions"), (0, u "SIOOBE_FORMATTER"), (0, u "Ljava/util/function/BiFunction;"), (0, .methodref 1054 1060), (0, .nameAndType 501 1061), (0, u "(IILjava/util/function/BiFunction;)I"), (39, u "serialPersistentFields"), (0, u "[Ljava/io/ObjectStreamField;"), (0, .class_ 1104), (0, u "java/lang/String$CaseInsensitiveComparator"), (1, .class_ 1107), (0, u "java/io/Serializable"), (0, .class_ 1109), (0, u "java/lang/Comparable"), (0, .class_ 1111), (0, u "java/lang/constant/Constable"), (0, .class_ 1113), (0, u "java/lang/constant/ConstantDesc"), (2, u "serialVersionUID"), (0, u "J"), (3, u "REPL"), (0, u "C"), (2, u "LATIN1"), (1, u "UTF16")] 323

def k7m0 : Method := ⟨"<init>", "()V", ⟨[], none⟩, 1, none⟩
def k7c1 : Code := ⟨5, 2, jdk_42_method_3_code, #[], #[]⟩
def k7m1 : Method := ⟨"<init>", "([C)V", ⟨[(.array .char)], none⟩, 1, some k7c1⟩
def k7c2 : Code := ⟨2, 2, jdk_42_method_56_code, #[], #[]⟩
def k7m2 : Method := ⟨"charAt", "(I)C", ⟨[.int], some .char⟩, 1, some k7c2⟩
def k7c3 : Code := ⟨2, 3, jdk_42_method_66_code, #[], #[]⟩
def k7m3 : Method := ⟨"equals", "(Ljava/lang/Object;)Z", ⟨[(.object "java/lang/Object")], some .boolean⟩, 1, some k7c3⟩
def k7c4 : Code := ⟨4, 6, jdk_42_method_149_code, #[], #[]⟩
def k7m4 : Method := ⟨"<init>", "([CIILjava/lang/Void;)V", ⟨[(.array .char), .int, .int, (.object "java/lang/Void")], none⟩, 2, some k7c4⟩
def k7c5 : Code := ⟨1, 1, jdk_42_method_154_code, #[], #[]⟩
def k7m5 : Method := ⟨"isLatin1", "()Z", ⟨[], some .boolean⟩, 0, some k7c5⟩
def k7c6 : Code := ⟨3, 2, jdk_42_method_155_code, #[], #[]⟩
def k7m6 : Method := ⟨"checkIndex", "(II)V", ⟨[.int, .int], none⟩, 8, some k7c6⟩
/-- java/lang/String -/
def k7 : Class := { plain "java/lang/String" (some 0) with
  accessFlags := 49
  interfaces := #[2, 3, 4, 5, 6]
  cf := some (fileOf pool7 10 #[.nestMembers #[1103]] #[⟨1, 5, 6, #[]⟩, ⟨1, 5, 1010, #[]⟩, ⟨1, 497, 427, #[]⟩, ⟨1, 543, 573, #[]⟩, ⟨2, 5, 29, #[]⟩, ⟨0, 494, 142, #[]⟩, ⟨8, 501, 391, #[]⟩] 49 2 #[1106, 1108, 575, 1110, 1112] #[⟨18, 13, 14, #[]⟩, ⟨18, 17, 18, #[]⟩, ⟨2, 21, 22, #[]⟩, ⟨2, 25, 26, #[]⟩, ⟨26, 1116, 1117, #[]⟩, ⟨24, 40, 26, #[]⟩, ⟨26, 1101, 1102, #[]⟩, ⟨26, 1121, 1122, #[]⟩, ⟨25, 599, 600, #[]⟩, ⟨24, 1125, 18, #[]⟩, ⟨24, 1127, 18, #[]⟩])
  fields := #[⟨"value", (.array .byte), 18, 0, 0⟩, ⟨"coder", .byte, 18, 1, 0⟩, ⟨"hash", .int, 2, 2, 0⟩, ⟨"hashIsZero", .boolean, 2, 3, 0⟩, ⟨"serialVersionUID", .long, 26, 0, 0⟩, ⟨"COMPACT_STRINGS", .boolean, 24, 1, 0⟩, ⟨"serialPersistentFields", (.array (.object "java/io/ObjectStreamField")), 26, 2, 0⟩, ⟨"REPL", .char, 26, 3, 0⟩, ⟨"CASE_INSENSITIVE_ORDER", (.object "java/util/Comparator"), 25, 4, 0⟩, ⟨"LATIN1", .byte, 24, 5, 0⟩, ⟨"UTF16", .byte, 24, 6, 0⟩]
  methods := #[k7m0, k7m1, k7m2, k7m3, k7m4, k7m5, k7m6]
  instanceTypes := #[(.array .byte), .byte, .int, .boolean]
  staticTypes := #[.long, .boolean, (.array (.object "java/io/ObjectStreamField")), .char, (.object "java/util/Comparator"), .byte, .byte]
  resolved := Array.replicate 1451 none
  statics := some 0 }

def pool8 : Array CpInfo := pool [(6, .class_ 8), (1, u "java/lang/Object"), (0, u "<init>"), (0, u "()V"), (1, .class_ 14), (1, u "java/lang/StringUTF16"), (31, u "$assertionsDisabled"), (0, u "Z"), (13, u "HI_BYTE_SHIFT"), (0, u "I"), (2, u "LO_BYTE_SHIFT"), (49, .methodref 12 116), (0, .nameAndType 117 118), (0, u "compress"), (0, u "([CI[BII)I"), (3, u "([CII)[B"), (138, u "coderFromArrayLen"), (0, u "([BI)B"), (106, .class_ 371), (1, u "java/lang/StringUTF16$LinesSpliterator"), (58, u "MAX_LENGTH"), (196, .class_ 628), (0, u "java/lang/StringUTF16$CodePointsSpliterator"), (0, .class_ 630), (0, u "java/lang/StringUTF16$CharsSpliterator")] 4

def k8m0 : Method := ⟨"<init>", "()V", ⟨[], none⟩, 0, none⟩
def k8c1 : Code := ⟨2, 2, jdk_52_method_15_code, #[], #[]⟩
def k8m1 : Method := ⟨"coderFromArrayLen", "([BI)B", ⟨[(.array .byte), .int], some .byte⟩, 8, some k8c1⟩
def k8c2 : Code := ⟨5, 6, jdk_52_method_16_code, #[], #[]⟩
def k8m2 : Method := ⟨"compress", "([CII)[B", ⟨[(.array .char), .int, .int], some (.array .byte)⟩, 9, some k8c2⟩
def k8c3 : Code := ⟨3, 7, jdk_52_method_21_code, #[], #[]⟩
def k8m3 : Method := ⟨"compress", "([CI[BII)I", ⟨[(.array .char), .int, (.array .byte), .int, .int], some .int⟩, 9, some k8c3⟩
/-- java/lang/StringUTF16 -/
def k8 : Class := { plain "java/lang/StringUTF16" (some 0) with
  accessFlags := 48
  cf := some (fileOf pool8 12 #[.nestMembers #[627, 629, 369]] #[⟨0, 9, 10, #[]⟩, ⟨8, 261, 262, #[]⟩, ⟨9, 117, 122, #[]⟩, ⟨9, 117, 118, #[]⟩] 48 6 #[] #[⟨26, 61, 62, #[]⟩, ⟨26, 65, 62, #[]⟩, ⟨24, 430, 62, #[]⟩, ⟨4120, 46, 47, #[]⟩])
  fields := #[⟨"HI_BYTE_SHIFT", .int, 26, 0, 0⟩, ⟨"LO_BYTE_SHIFT", .int, 26, 1, 0⟩, ⟨"MAX_LENGTH", .int, 24, 2, 0⟩, ⟨"$assertionsDisabled", .boolean, 4120, 3, 0⟩]
  methods := #[k8m0, k8m1, k8m2, k8m3]
  staticTypes := #[.int, .int, .int, .boolean]
  resolved := Array.replicate 635 none }

def pool9 : Array CpInfo := pool [(2, .class_ 4), (1, u "java/lang/Enum"), (0, u "name"), (0, u "Ljava/lang/String;"), (2, u "ordinal"), (0, u "I"), (1, .class_ 14), (1, u "java/lang/Object"), (4, u "hash"), (86, .class_ 108), (1, u "java/lang/Enum$EnumDesc"), (2, .class_ 112), (0, u "java/lang/constant/Constable"), (0, .class_ 114), (0, u "java/lang/Comparable"), (0, .class_ 116), (0, u "java/io/Serializable")] 87

/-- java/lang/Enum -/
def k9 : Class := { plain "java/lang/Enum" (some 0) with
  accessFlags := 1057
  interfaces := #[5, 3, 2]
  cf := some (fileOf pool9 2 #[.nestMembers #[106]] #[] 1057 12 #[111, 113, 115] #[⟨18, 5, 6, #[]⟩, ⟨18, 9, 10, #[]⟩, ⟨2, 19, 10, #[]⟩])
  fields := #[⟨"name", (.object "java/lang/String"), 18, 0, 0⟩, ⟨"ordinal", .int, 18, 1, 0⟩, ⟨"hash", .int, 2, 2, 0⟩]
  instanceTypes := #[(.object "java/lang/String"), .int, .int]
  resolved := Array.replicate 204 none }

def pool10 : Array CpInfo := pool [(1, .class_ 2), (0, u "com/example/wiregather/wiregather/wire/FieldType"), (2, u "I32"), (0, u "Lcom/example/wiregather/wiregather/wire/FieldType;"), (2, u "U32"), (2, u "F32"), (2, u "F64"), (2, u "TEXT"), (2, u "GUID"), (0, .fieldref 1 23), (0, .nameAndType 24 25), (0, u "$VALUES"), (0, u "[Lcom/example/wiregather/wiregather/wire/FieldType;"), (0, .methodref 27 28), (0, .class_ 25), (0, .nameAndType 29 30), (0, u "clone"), (0, u "()Ljava/lang/Object;"), (1, .class_ 34), (1, u "java/lang/Enum"), (8, u "code"), (0, u "I"), (0, .fieldref 1 46), (0, .nameAndType 47 48), (0, u "label"), (0, u "Ljava/lang/String;"), (2, u "words"), (0, .methodref 1 53), (0, .nameAndType 54 55), (0, u "values"), (0, u "()[Lcom/example/wiregather/wiregather/wire/FieldType;"), (0, .methodref 57 58), (0, .class_ 59), (0, .nameAndType 60 61), (0, u "java/lang/String"), (0, u "equals"), (0, u "(Ljava/lang/Object;)Z"), (26, u "(Ljava/lang/String;)Lcom/example/wiregather/wiregather/wire/FieldType;"), (8, u "ofLabel")] 5

def k10c0 : Code := ⟨1, 0, prog_72_method_1_code, #[], #[]⟩
def k10m0 : Method := ⟨"values", "()[Lcom/example/wiregather/wiregather/wire/FieldType;", ⟨[], some (.array (.object "com/example/wiregather/wiregather/wire/FieldType"))⟩, 9, some k10c0⟩
def k10c1 : Code := ⟨2, 6, prog_72_method_8_code, #[], #[]⟩
def k10m1 : Method := ⟨"ofLabel", "(Ljava/lang/String;)Lcom/example/wiregather/wiregather/wire/FieldType;", ⟨[(.object "java/lang/String")], some (.object "com/example/wiregather/wiregather/wire/FieldType")⟩, 9, some k10c1⟩
/-- com/example/wiregather/wiregather/wire/FieldType -/
def k10 : Class := { plain "com/example/wiregather/wiregather/wire/FieldType" (some 9) with
  accessFlags := 16433
  cf := some (fileOf pool10 1 #[] #[⟨9, 54, 55, #[]⟩, ⟨9, 97, 88, #[]⟩] 16433 32 #[] #[⟨16409, 5, 6, #[]⟩, ⟨16409, 9, 6, #[]⟩, ⟨16409, 12, 6, #[]⟩, ⟨16409, 15, 6, #[]⟩, ⟨16409, 18, 6, #[]⟩, ⟨16409, 21, 6, #[]⟩, ⟨18, 43, 44, #[]⟩, ⟨18, 47, 48, #[]⟩, ⟨18, 51, 44, #[]⟩, ⟨4122, 24, 25, #[]⟩])
  fields := #[⟨"I32", (.object "com/example/wiregather/wiregather/wire/FieldType"), 16409, 0, 0⟩, ⟨"U32", (.object "com/example/wiregather/wiregather/wire/FieldType"), 16409, 1, 0⟩, ⟨"F32", (.object "com/example/wiregather/wiregather/wire/FieldType"), 16409, 2, 0⟩, ⟨"F64", (.object "com/example/wiregather/wiregather/wire/FieldType"), 16409, 3, 0⟩, ⟨"TEXT", (.object "com/example/wiregather/wiregather/wire/FieldType"), 16409, 4, 0⟩, ⟨"GUID", (.object "com/example/wiregather/wiregather/wire/FieldType"), 16409, 5, 0⟩, ⟨"code", .int, 18, 3, 0⟩, ⟨"label", (.object "java/lang/String"), 18, 4, 0⟩, ⟨"words", .int, 18, 5, 0⟩, ⟨"$VALUES", (.array (.object "com/example/wiregather/wiregather/wire/FieldType")), 4122, 6, 0⟩]
  methods := #[k10m0, k10m1]
  instanceTypes := #[(.object "java/lang/String"), .int, .int, .int, (.object "java/lang/String"), .int]
  staticTypes := #[(.object "com/example/wiregather/wiregather/wire/FieldType"), (.object "com/example/wiregather/wiregather/wire/FieldType"), (.object "com/example/wiregather/wiregather/wire/FieldType"), (.object "com/example/wiregather/wiregather/wire/FieldType"), (.object "com/example/wiregather/wiregather/wire/FieldType"), (.object "com/example/wiregather/wiregather/wire/FieldType"), (.array (.object "com/example/wiregather/wiregather/wire/FieldType"))]
  resolved := Array.replicate 103 none
  statics := some 1 }

def pool11 : Array CpInfo := pool [(1, .class_ 2), (0, u "java/lang/Cloneable"), (0, .class_ 4), (0, u "java/lang/Object")] 2

/-- java/lang/Cloneable -/
def k11 : Class := { plain "java/lang/Cloneable" (some 0) with
  accessFlags := 1537
  cf := some (fileOf pool11 1 #[] #[] 1537 3 #[] #[])
  resolved := Array.replicate 7 none }

def pool12 : Array CpInfo := pool [(1, .class_ 2), (0, u "java/lang/String"), (1, .class_ 6), (1, u "java/lang/Object"), (0, u "<init>"), (0, u "()V"), (0, .methodref 1 10), (0, .nameAndType 11 12), (0, u "checkIndex"), (0, u "(II)V"), (1, .class_ 16), (1, u "java/lang/StringLatin1"), (36, u "([BI)C"), (67, u "$assertionsDisabled"), (0, u "Z"), (98, .class_ 223), (1, u "java/lang/StringLatin1$LinesSpliterator"), (28, u "charAt"), (28, u "equals"), (0, u "([B[B)Z"), (107, .class_ 391), (0, u "java/lang/StringLatin1$CharsSpliterator")] 3

def k12m0 : Method := ⟨"<init>", "()V", ⟨[], none⟩, 0, none⟩
def k12c1 : Code := ⟨2, 2, jdk_43_method_2_code, #[], #[]⟩
def k12m1 : Method := ⟨"charAt", "([BI)C", ⟨[(.array .byte), .int], some .char⟩, 9, some k12c1⟩
def k12c2 : Code := ⟨3, 3, jdk_43_method_13_code, #[], #[]⟩
def k12m2 : Method := ⟨"equals", "([B[B)Z", ⟨[(.array .byte), (.array .byte)], some .boolean⟩, 9, some k12c2⟩
/-- java/lang/StringLatin1 -/
def k12 : Class := { plain "java/lang/StringLatin1" (some 0) with
  accessFlags := 48
  cf := some (fileOf pool12 14 #[.nestMembers #[390, 221]] #[⟨0, 7, 8, #[]⟩, ⟨9, 252, 53, #[]⟩, ⟨9, 281, 282, #[]⟩] 48 4 #[] #[⟨4120, 121, 122, #[]⟩])
  fields := #[⟨"$assertionsDisabled", .boolean, 4120, 0, 0⟩]
  methods := #[k12m0, k12m1, k12m2]
  staticTypes := #[.boolean]
  resolved := Array.replicate 395 none }

def pool13 : Array CpInfo := pool [(2, .class_ 4), (1, u "java/lang/Object"), (0, u "<init>"), (0, u "()V"), (17, .class_ 26), (1, u "jdk/internal/util/Preconditions"), (6, u "checkIndex"), (21, .class_ 56), (0, u "jdk/internal/util/Preconditions$4"), (57, .class_ 115), (0, u "jdk/internal/util/Preconditions$1"), (7, u "SIOOBE_FORMATTER"), (0, u "Ljava/util/function/BiFunction;"), (0, .class_ 126), (0, u "jdk/internal/util/Preconditions$2"), (3, u "AIOOBE_FORMATTER"), (0, .class_ 132), (0, u "jdk/internal/util/Preconditions$3"), (3, u "IOOBE_FORMATTER"), (41, u "(IILjava/util/function/BiFunction;)I")] 15

def k13m0 : Method := ⟨"<init>", "()V", ⟨[], none⟩, 1, none⟩
def k13c1 : Code := ⟨3, 3, jdk_41_method_11_code, #[], #[]⟩
def k13m1 : Method := ⟨"checkIndex", "(IILjava/util/function/BiFunction;)I", ⟨[.int, .int, (.object "java/util/function/BiFunction")], some .int⟩, 9, some k13c1⟩
/-- jdk/internal/util/Preconditions -/
def k13 : Class := { plain "jdk/internal/util/Preconditions" (some 0) with
  cf := some (fileOf pool13 24 #[.nestMembers #[55, 131, 125, 114]] #[⟨1, 5, 6, #[]⟩, ⟨9, 33, 178, #[]⟩] 33 2 #[] #[⟨25, 123, 124, #[]⟩, ⟨25, 130, 124, #[]⟩, ⟨25, 136, 124, #[]⟩])
  fields := #[⟨"SIOOBE_FORMATTER", (.object "java/util/function/BiFunction"), 25, 0, 0⟩, ⟨"AIOOBE_FORMATTER", (.object "java/util/function/BiFunction"), 25, 1, 0⟩, ⟨"IOOBE_FORMATTER", (.object "java/util/function/BiFunction"), 25, 2, 0⟩]
  methods := #[k13m0, k13m1]
  staticTypes := #[(.object "java/util/function/BiFunction"), (.object "java/util/function/BiFunction"), (.object "java/util/function/BiFunction")]
  resolved := Array.replicate 194 none
  statics := some 2 }

def pool14 : Array CpInfo := pool [(9, u "<init>"), (6, .class_ 18), (1, u "java/lang/Object"), (0, u "()V"), (1, .class_ 23), (1, u "jdk/internal/util/ArraysSupport"), (0, u "LOG2_ARRAY_LONG_INDEX_SCALE"), (0, u "I"), (2, u "U"), (0, u "Ljdk/internal/misc/Unsafe;"), (8, u "BIG_ENDIAN"), (0, u "Z"), (8, u "LOG2_BYTE_BIT_SIZE"), (4, u "LOG2_ARRAY_INT_INDEX_SCALE"), (54, u "JLA"), (0, u "Ljdk/internal/access/JavaLangAccess;"), (11, u "LOG2_ARRAY_BOOLEAN_INDEX_SCALE"), (9, u "LOG2_ARRAY_BYTE_INDEX_SCALE"), (5, u "LOG2_ARRAY_CHAR_INDEX_SCALE"), (5, u "LOG2_ARRAY_SHORT_INDEX_SCALE"), (18, u "LOG2_ARRAY_FLOAT_INDEX_SCALE"), (24, u "LOG2_ARRAY_DOUBLE_INDEX_SCALE"), (89, u "T_BOOLEAN"), (2, u "T_CHAR"), (1, u "T_FLOAT"), (1, u "T_DOUBLE"), (1, u "T_BYTE"), (1, u "T_SHORT"), (1, u "T_INT"), (1, u "T_LONG"), (1, u "SOFT_MAX_ARRAY_LENGTH")] 83

def k14m0 : Method := ⟨"<init>", "()V", ⟨[], none⟩, 2, none⟩
/-- jdk/internal/util/ArraysSupport -/
def k14 : Class := { plain "jdk/internal/util/ArraysSupport" (some 0) with
  cf := some (fileOf pool14 21 #[] #[⟨2, 9, 19, #[]⟩] 33 16 #[] #[⟨24, 28, 29, #[]⟩, ⟨26, 38, 39, #[]⟩, ⟨25, 121, 25, #[]⟩, ⟨25, 131, 25, #[]⟩, ⟨25, 137, 25, #[]⟩, ⟨25, 143, 25, #[]⟩, ⟨25, 53, 25, #[]⟩, ⟨25, 24, 25, #[]⟩, ⟨25, 162, 25, #[]⟩, ⟨25, 187, 25, #[]⟩, ⟨26, 48, 25, #[]⟩, ⟨25, 277, 25, #[]⟩, ⟨25, 280, 25, #[]⟩, ⟨25, 282, 25, #[]⟩, ⟨25, 284, 25, #[]⟩, ⟨25, 286, 25, #[]⟩, ⟨25, 288, 25, #[]⟩, ⟨25, 290, 25, #[]⟩, ⟨25, 292, 25, #[]⟩, ⟨26, 108, 109, #[]⟩, ⟨25, 294, 25, #[]⟩])
  fields := #[⟨"U", (.object "jdk/internal/misc/Unsafe"), 24, 0, 0⟩, ⟨"BIG_ENDIAN", .boolean, 26, 1, 0⟩, ⟨"LOG2_ARRAY_BOOLEAN_INDEX_SCALE", .int, 25, 2, 0⟩, ⟨"LOG2_ARRAY_BYTE_INDEX_SCALE", .int, 25, 3, 0⟩, ⟨"LOG2_ARRAY_CHAR_INDEX_SCALE", .int, 25, 4, 0⟩, ⟨"LOG2_ARRAY_SHORT_INDEX_SCALE", .int, 25, 5, 0⟩, ⟨"LOG2_ARRAY_INT_INDEX_SCALE", .int, 25, 6, 0⟩, ⟨"LOG2_ARRAY_LONG_INDEX_SCALE", .int, 25, 7, 0⟩, ⟨"LOG2_ARRAY_FLOAT_INDEX_SCALE", .int, 25, 8, 0⟩, ⟨"LOG2_ARRAY_DOUBLE_INDEX_SCALE", .int, 25, 9, 0⟩, ⟨"LOG2_BYTE_BIT_SIZE", .int, 26, 10, 0⟩, ⟨"T_BOOLEAN", .int, 25, 11, 0⟩, ⟨"T_CHAR", .int, 25, 12, 0⟩, ⟨"T_FLOAT", .int, 25, 13, 0⟩, ⟨"T_DOUBLE", .int, 25, 14, 0⟩, ⟨"T_BYTE", .int, 25, 15, 0⟩, ⟨"T_SHORT", .int, 25, 16, 0⟩, ⟨"T_INT", .int, 25, 17, 0⟩, ⟨"T_LONG", .int, 25, 18, 0⟩, ⟨"JLA", (.object "jdk/internal/access/JavaLangAccess"), 26, 19, 0⟩, ⟨"SOFT_MAX_ARRAY_LENGTH", .int, 25, 20, 0⟩]
  methods := #[k14m0]
  staticTypes := #[(.object "jdk/internal/misc/Unsafe"), .boolean, .int, .int, .int, .int, .int, .int, .int, .int, .int, .int, .int, .int, .int, .int, .int, .int, .int, (.object "jdk/internal/access/JavaLangAccess"), .int]
  resolved := Array.replicate 378 none }

/-- the primitive byte -/
def k15 : Class := { plain "byte" none with kind := .primitive 'B', accessFlags := 0x411 }
/-- [B -/
def k16 : Class := { plain "[B" (some 0) with kind := .array 15 .byte, interfaces := #[11, 2], accessFlags := 1041 }

/-- the primitive char -/
def k17 : Class := { plain "char" none with kind := .primitive 'C', accessFlags := 0x411 }
/-- [C -/
def k18 : Class := { plain "[C" (some 0) with kind := .array 17 .char, interfaces := #[11, 2], accessFlags := 1041 }

/-- the primitive int -/
def k19 : Class := { plain "int" none with kind := .primitive 'I', accessFlags := 0x411 }
/-- [I -/
def k20 : Class := { plain "[I" (some 0) with kind := .array 19 .int, interfaces := #[11, 2], accessFlags := 1041 }

/-- [Lcom/example/wiregather/wiregather/wire/FieldType; -/
def k21 : Class := { plain "[Lcom/example/wiregather/wiregather/wire/FieldType;" (some 0) with kind := .array 10 (.object "com/example/wiregather/wiregather/wire/FieldType"), interfaces := #[11, 2], accessFlags := 1041 }

def heap : Heap := #[{ cls := 7, slots := #[.long 0, .int 1, .null, .int 0, .null, .int 0, .int 0], vm := .statics 7 },
  { cls := 10, slots := #[.ref 4, .ref 5, .ref 6, .ref 7, .ref 8, .ref 9, .ref 3], vm := .statics 10 },
  { cls := 13, slots := #[.null, .null, .null], vm := .statics 13 },
  { cls := 21, slots := #[.ref 4, .ref 5, .ref 6, .ref 7, .ref 8, .ref 9], vm := .none },
  { cls := 10, slots := #[.null, .int 0, .int 0, .int 1, .ref 10, .int 1], vm := .none },
  { cls := 10, slots := #[.null, .int 1, .int 0, .int 2, .ref 11, .int 1], vm := .none },
  { cls := 10, slots := #[.null, .int 2, .int 0, .int 3, .ref 12, .int 1], vm := .none },
  { cls := 10, slots := #[.null, .int 3, .int 0, .int 4, .ref 13, .int 1], vm := .none },
  { cls := 10, slots := #[.null, .int 4, .int 0, .int 5, .ref 14, .int 1], vm := .none },
  { cls := 10, slots := #[.null, .int 5, .int 0, .int 6, .ref 15, .int 1], vm := .none },
  { cls := 7, slots := #[.ref 16, .int 0, .int 0, .int 0], vm := .none },
  { cls := 7, slots := #[.ref 17, .int 0, .int 0, .int 0], vm := .none },
  { cls := 7, slots := #[.ref 18, .int 0, .int 0, .int 0], vm := .none },
  { cls := 7, slots := #[.ref 19, .int 0, .int 0, .int 0], vm := .none },
  { cls := 7, slots := #[.ref 20, .int 0, .int 0, .int 0], vm := .none },
  { cls := 7, slots := #[.ref 21, .int 0, .int 0, .int 0], vm := .none },
  { cls := 16, slots := #[.int 105, .int 51, .int 50], vm := .none },
  { cls := 16, slots := #[.int 117, .int 51, .int 50], vm := .none },
  { cls := 16, slots := #[.int 102, .int 51, .int 50], vm := .none },
  { cls := 16, slots := #[.int 102, .int 54, .int 52], vm := .none },
  { cls := 16, slots := #[.int 116, .int 101, .int 120, .int 116], vm := .none },
  { cls := 16, slots := #[.int 103, .int 117, .int 105, .int 100], vm := .none }]
def classes : Array Class := #[k0, k1, k2, k3, k4, k5, k6, k7, k8, k9, k10, k11, k12, k13, k14, k15, k16, k17, k18, k19, k20, k21]
def interned : List (Array UInt16 × Addr) := []
def slotsUsed : Nat := 103
def theMethod : MethodId := ⟨1, 1⟩
def args0 : Array Value := #[.int 5, .int 5, .int 5, .int 5, .int 5]
def aboutOver (below : List Frame) : State where
  vm := { classes := classes, interned := interned.toArray }
  heap := heap
  slotsUsed := slotsUsed
  threads := #[{ frames := .invoking theMethod args0 :: below }]
def below0 : List Frame := [.native { method := ⟨0, 0⟩, args := #[] }]
def about1 : State := aboutOver below0
def p0 : Program := .bare "" "" ""
def e0 : Env := launch0.env 0 0 0
theorem w_frames : about1.frames = Frame.invoking theMethod args0 :: below0 := rfl
theorem w_args : argsFit about1.vm theMethod args0 = true := by decide +kernel
theorem w_heap : heapFits about1 = true := by decide +kernel
theorem w_runnable : about1.curStatus? = some .runnable := by decide +kernel
theorem w_alone : about1.alone = true := by decide +kernel
theorem w_named : about1.methodNamed? x = some theMethod := by decide +kernel
theorem w_hears : about1.hears theMethod below0 = true := by decide +kernel
theorem w_ripe : about1.ripe theMethod args0 below0 = true := by decide +kernel
theorem w_running : about1.status = .running := rfl
theorem w_room : about1.hasRoom e0.platform room_1 = true :=
  launch0.hasRoom_least _ room_1 (by decide +kernel) (by decide +kernel) (by decide +kernel) (by decide +kernel) (by decide +kernel) (by decide +kernel)
theorem allAtoms_all (ts : List Jvm.Cond) (a : Array Jvm.Value) (st : Jvm.State) : (allAtoms ts).before a st = ts.all (fun c => c.before a st) := by
  induction ts with
  | nil => rfl
  | cons c t ih =>
    show (Jvm.Cond.and c (allAtoms t)).before a st = _
    rw [Jvm.Cond.before_and, ih, List.all_cons]
def words1 : List Jvm.Cond := Jvm.Cond.code x code maxLocals ret :: tables_1
/-- a 'code' word, met by the world's own term for the bytes: nothing is compared byte by byte -/
theorem code_word {y : MethodName} {bytes : ByteArray} {mx : Nat} {rt : Option FieldType} {a : Array Value} {s : State} {m : MethodId} {meth : Method} {c : Code} (h1 : s.methodNamed? y = some m) (h2 : s.vm.method? m = some meth) (h3 : meth.code = some c) (h4 : c.code = bytes)
    (h5 : (c.maxLocals == mx && c.exceptionTable.isEmpty && decide (c.maxStack ≤ mostOperands) && decide (meth.sig.returnType = rt) && !meth.locks && decide (parseMethodDescriptor y.desc = some meth.sig)) = true) : (Jvm.Cond.code y bytes mx rt).before a s = true := by
  simp only [Bool.and_eq_true, beq_iff_eq, Bool.not_eq_true', decide_eq_true_eq] at h5
  obtain ⟨⟨⟨⟨⟨g1, g2⟩, g3⟩, g4⟩, g5⟩, g6⟩ := h5
  simp [Cond.before, Cond.holds, Cond.value, h1, h2, h3, h4, g1, g2, g3, g4, g5, g6]
def isCode : Jvm.Cond → Bool
  | .code _ _ _ _ => true
  | _ => false
theorem all_split {L : List Jvm.Cond} {P : Jvm.Cond → Bool} (h1 : L.all (fun c => isCode c || P c) = true) (h2 : ∀ c ∈ L.filter isCode, P c = true) : L.all P = true := by
  refine List.all_eq_true.mpr fun c hc => ?_
  have h := List.all_eq_true.mp h1 c hc
  rcases Bool.eq_false_or_eq_true (isCode c) with hi | hi
  · exact h2 c (List.mem_filter.mpr ⟨hc, hi⟩)
  · simpa [hi] using h
theorem w_c0 : (Jvm.Cond.code x code maxLocals ret).before args0 about1 = true := code_word (m := ⟨1, 1⟩) (meth := k1m1) (c := k1c1) (by decide +kernel) rfl rfl rfl (by decide +kernel)
theorem w_c1 : (Jvm.Cond.code (⟨"com/example/wiregather/wiregather/wire/FieldTypeOfLabelPinLaw", "labelOf", "(I)Ljava/lang/String;"⟩ : Jvm.MethodName) method_4_code (1 : Nat) (Option.some (Jvm.ClassFile.FieldType.object "java/lang/String"))).before args0 about1 = true := code_word (m := ⟨1, 3⟩) (meth := k1m3) (c := k1c3) (by decide +kernel) rfl rfl rfl (by decide +kernel)
theorem w_c2 : (Jvm.Cond.code (⟨"java/lang/String", "<init>", "([C)V"⟩ : Jvm.MethodName) jdk_42_method_3_code (2 : Nat) (Option.none : Option Jvm.ClassFile.FieldType)).before args0 about1 = true := code_word (m := ⟨7, 1⟩) (meth := k7m1) (c := k7c1) (by decide +kernel) rfl rfl rfl (by decide +kernel)
theorem w_c3 : (Jvm.Cond.code (⟨"java/lang/String", "<init>", "([CIILjava/lang/Void;)V"⟩ : Jvm.MethodName) jdk_42_method_149_code (6 : Nat) (Option.none : Option Jvm.ClassFile.FieldType)).before args0 about1 = true := code_word (m := ⟨7, 4⟩) (meth := k7m4) (c := k7c4) (by decide +kernel) rfl rfl rfl (by decide +kernel)
theorem w_c4 : (Jvm.Cond.code (⟨"java/lang/Object", "<init>", "()V"⟩ : Jvm.MethodName) object_method_1_code (1 : Nat) (Option.none : Option Jvm.ClassFile.FieldType)).before args0 about1 = true := code_word (m := ⟨0, 0⟩) (meth := k0m0) (c := k0c0) (by decide +kernel) rfl rfl rfl (by decide +kernel)
theorem w_c5 : (Jvm.Cond.code (⟨"java/lang/StringUTF16", "compress", "([CII)[B"⟩ : Jvm.MethodName) jdk_52_method_16_code (6 : Nat) (Option.some (Jvm.ClassFile.FieldType.array Jvm.ClassFile.FieldType.byte))).before args0 about1 = true := code_word (m := ⟨8, 2⟩) (meth := k8m2) (c := k8c2) (by decide +kernel) rfl rfl rfl (by decide +kernel)
theorem w_c6 : (Jvm.Cond.code (⟨"java/lang/StringUTF16", "compress", "([CI[BII)I"⟩ : Jvm.MethodName) jdk_52_method_21_code (7 : Nat) (Option.some Jvm.ClassFile.FieldType.int)).before args0 about1 = true := code_word (m := ⟨8, 3⟩) (meth := k8m3) (c := k8c3) (by decide +kernel) rfl rfl rfl (by decide +kernel)
theorem w_c7 : (Jvm.Cond.code (⟨"java/lang/StringUTF16", "coderFromArrayLen", "([BI)B"⟩ : Jvm.MethodName) jdk_52_method_15_code (2 : Nat) (Option.some Jvm.ClassFile.FieldType.byte)).before args0 about1 = true := code_word (m := ⟨8, 1⟩) (meth := k8m1) (c := k8c1) (by decide +kernel) rfl rfl rfl (by decide +kernel)
theorem w_c8 : (Jvm.Cond.code (⟨"com/example/wiregather/wiregather/wire/FieldType", "ofLabel", "(Ljava/lang/String;)Lcom/example/wiregather/wiregather/wire/FieldType;"⟩ : Jvm.MethodName) prog_72_method_8_code (6 : Nat) (Option.some (Jvm.ClassFile.FieldType.object "com/example/wiregather/wiregather/wire/FieldType"))).before args0 about1 = true := code_word (m := ⟨10, 1⟩) (meth := k10m1) (c := k10c1) (by decide +kernel) rfl rfl rfl (by decide +kernel)
theorem w_c9 : (Jvm.Cond.code (⟨"com/example/wiregather/wiregather/wire/FieldType", "values", "()[Lcom/example/wiregather/wiregather/wire/FieldType;"⟩ : Jvm.MethodName) prog_72_method_1_code (0 : Nat) (Option.some (Jvm.ClassFile.FieldType.array (Jvm.ClassFile.FieldType.object "com/example/wiregather/wiregather/wire/FieldType")))).before args0 about1 = true := code_word (m := ⟨10, 0⟩) (meth := k10m0) (c := k10c0) (by decide +kernel) rfl rfl rfl (by decide +kernel)
theorem w_c10 : (Jvm.Cond.code (⟨"java/lang/String", "equals", "(Ljava/lang/Object;)Z"⟩ : Jvm.MethodName) jdk_42_method_66_code (3 : Nat) (Option.some Jvm.ClassFile.FieldType.boolean)).before args0 about1 = true := code_word (m := ⟨7, 3⟩) (meth := k7m3) (c := k7c3) (by decide +kernel) rfl rfl rfl (by decide +kernel)
theorem w_c11 : (Jvm.Cond.code (⟨"java/lang/StringLatin1", "equals", "([B[B)Z"⟩ : Jvm.MethodName) jdk_43_method_13_code (3 : Nat) (Option.some Jvm.ClassFile.FieldType.boolean)).before args0 about1 = true := code_word (m := ⟨12, 2⟩) (meth := k12m2) (c := k12c2) (by decide +kernel) rfl rfl rfl (by decide +kernel)
theorem w_c12 : (Jvm.Cond.code (⟨"com/example/wiregather/wiregather/wire/FieldTypeOfLabelPinLaw", "typeOf", "(I)Lcom/example/wiregather/wiregather/wire/FieldType;"⟩ : Jvm.MethodName) method_5_code (1 : Nat) (Option.some (Jvm.ClassFile.FieldType.object "com/example/wiregather/wiregather/wire/FieldType"))).before args0 about1 = true := code_word (m := ⟨1, 4⟩) (meth := k1m4) (c := k1c4) (by decide +kernel) rfl rfl rfl (by decide +kernel)
theorem w_c13 : (Jvm.Cond.code (⟨"com/example/wiregather/wiregather/wire/FieldTypeOfLabelPinLaw", "ch", "(I)C"⟩ : Jvm.MethodName) method_3_code (2 : Nat) (Option.some Jvm.ClassFile.FieldType.char)).before args0 about1 = true := code_word (m := ⟨1, 2⟩) (meth := k1m2) (c := k1c2) (by decide +kernel) rfl rfl rfl (by decide +kernel)
theorem w_c14 : (Jvm.Cond.code (⟨"java/lang/String", "charAt", "(I)C"⟩ : Jvm.MethodName) jdk_42_method_56_code (2 : Nat) (Option.some Jvm.ClassFile.FieldType.char)).before args0 about1 = true := code_word (m := ⟨7, 2⟩) (meth := k7m2) (c := k7c2) (by decide +kernel) rfl rfl rfl (by decide +kernel)
theorem w_c15 : (Jvm.Cond.code (⟨"java/lang/String", "isLatin1", "()Z"⟩ : Jvm.MethodName) jdk_42_method_154_code (1 : Nat) (Option.some Jvm.ClassFile.FieldType.boolean)).before args0 about1 = true := code_word (m := ⟨7, 5⟩) (meth := k7m5) (c := k7c5) (by decide +kernel) rfl rfl rfl (by decide +kernel)
theorem w_c16 : (Jvm.Cond.code (⟨"java/lang/StringLatin1", "charAt", "([BI)C"⟩ : Jvm.MethodName) jdk_43_method_2_code (2 : Nat) (Option.some Jvm.ClassFile.FieldType.char)).before args0 about1 = true := code_word (m := ⟨12, 1⟩) (meth := k12m1) (c := k12c1) (by decide +kernel) rfl rfl rfl (by decide +kernel)
theorem w_c17 : (Jvm.Cond.code (⟨"java/lang/String", "checkIndex", "(II)V"⟩ : Jvm.MethodName) jdk_42_method_155_code (2 : Nat) (Option.none : Option Jvm.ClassFile.FieldType)).before args0 about1 = true := code_word (m := ⟨7, 6⟩) (meth := k7m6) (c := k7c6) (by decide +kernel) rfl rfl rfl (by decide +kernel)
theorem w_c18 : (Jvm.Cond.code (⟨"jdk/internal/util/Preconditions", "checkIndex", "(IILjava/util/function/BiFunction;)I"⟩ : Jvm.MethodName) jdk_41_method_11_code (3 : Nat) (Option.some Jvm.ClassFile.FieldType.int)).before args0 about1 = true := code_word (m := ⟨13, 1⟩) (meth := k13m1) (c := k13c1) (by decide +kernel) rfl rfl rfl (by decide +kernel)
theorem w_c19 : (Jvm.Cond.code (⟨"com/example/wiregather/wiregather/wire/FieldTypeOfLabelPinLaw", "expect", "(Ljava/lang/String;)Lcom/example/wiregather/wiregather/wire/FieldType;"⟩ : Jvm.MethodName) method_6_code (1 : Nat) (Option.some (Jvm.ClassFile.FieldType.object "com/example/wiregather/wiregather/wire/FieldType"))).before args0 about1 = true := code_word (m := ⟨1, 5⟩) (meth := k1m5) (c := k1c5) (by decide +kernel) rfl rfl rfl (by decide +kernel)
def codes1 : List Jvm.Cond := [Jvm.Cond.code x code maxLocals ret, Jvm.Cond.code (⟨"com/example/wiregather/wiregather/wire/FieldTypeOfLabelPinLaw", "labelOf", "(I)Ljava/lang/String;"⟩ : Jvm.MethodName) method_4_code (1 : Nat) (Option.some (Jvm.ClassFile.FieldType.object "java/lang/String")), Jvm.Cond.code (⟨"java/lang/String", "<init>", "([C)V"⟩ : Jvm.MethodName) jdk_42_method_3_code (2 : Nat) (Option.none : Option Jvm.ClassFile.FieldType), Jvm.Cond.code (⟨"java/lang/String", "<init>", "([CIILjava/lang/Void;)V"⟩ : Jvm.MethodName) jdk_42_method_149_code (6 : Nat) (Option.none : Option Jvm.ClassFile.FieldType), Jvm.Cond.code (⟨"java/lang/Object", "<init>", "()V"⟩ : Jvm.MethodName) object_method_1_code (1 : Nat) (Option.none : Option Jvm.ClassFile.FieldType), Jvm.Cond.code (⟨"java/lang/StringUTF16", "compress", "([CII)[B"⟩ : Jvm.MethodName) jdk_52_method_16_code (6 : Nat) (Option.some (Jvm.ClassFile.FieldType.array Jvm.ClassFile.FieldType.byte)), Jvm.Cond.code (⟨"java/lang/StringUTF16", "compress", "([CI[BII)I"⟩ : Jvm.MethodName) jdk_52_method_21_code (7 : Nat) (Option.some Jvm.ClassFile.FieldType.int), Jvm.Cond.code (⟨"java/lang/StringUTF16", "coderFromArrayLen", "([BI)B"⟩ : Jvm.MethodName) jdk_52_method_15_code (2 : Nat) (Option.some Jvm.ClassFile.FieldType.byte), Jvm.Cond.code (⟨"com/example/wiregather/wiregather/wire/FieldType", "ofLabel", "(Ljava/lang/String;)Lcom/example/wiregather/wiregather/wire/FieldType;"⟩ : Jvm.MethodName) prog_72_method_8_code (6 : Nat) (Option.some (Jvm.ClassFile.FieldType.object "com/example/wiregather/wiregather/wire/FieldType")), Jvm.Cond.code (⟨"com/example/wiregather/wiregather/wire/FieldType", "values", "()[Lcom/example/wiregather/wiregather/wire/FieldType;"⟩ : Jvm.MethodName) prog_72_method_1_code (0 : Nat) (Option.some (Jvm.ClassFile.FieldType.array (Jvm.ClassFile.FieldType.object "com/example/wiregather/wiregather/wire/FieldType"))), Jvm.Cond.code (⟨"java/lang/String", "equals", "(Ljava/lang/Object;)Z"⟩ : Jvm.MethodName) jdk_42_method_66_code (3 : Nat) (Option.some Jvm.ClassFile.FieldType.boolean), Jvm.Cond.code (⟨"java/lang/StringLatin1", "equals", "([B[B)Z"⟩ : Jvm.MethodName) jdk_43_method_13_code (3 : Nat) (Option.some Jvm.ClassFile.FieldType.boolean), Jvm.Cond.code (⟨"com/example/wiregather/wiregather/wire/FieldTypeOfLabelPinLaw", "typeOf", "(I)Lcom/example/wiregather/wiregather/wire/FieldType;"⟩ : Jvm.MethodName) method_5_code (1 : Nat) (Option.some (Jvm.ClassFile.FieldType.object "com/example/wiregather/wiregather/wire/FieldType")), Jvm.Cond.code (⟨"com/example/wiregather/wiregather/wire/FieldTypeOfLabelPinLaw", "ch", "(I)C"⟩ : Jvm.MethodName) method_3_code (2 : Nat) (Option.some Jvm.ClassFile.FieldType.char), Jvm.Cond.code (⟨"java/lang/String", "charAt", "(I)C"⟩ : Jvm.MethodName) jdk_42_method_56_code (2 : Nat) (Option.some Jvm.ClassFile.FieldType.char), Jvm.Cond.code (⟨"java/lang/String", "isLatin1", "()Z"⟩ : Jvm.MethodName) jdk_42_method_154_code (1 : Nat) (Option.some Jvm.ClassFile.FieldType.boolean), Jvm.Cond.code (⟨"java/lang/StringLatin1", "charAt", "([BI)C"⟩ : Jvm.MethodName) jdk_43_method_2_code (2 : Nat) (Option.some Jvm.ClassFile.FieldType.char), Jvm.Cond.code (⟨"java/lang/String", "checkIndex", "(II)V"⟩ : Jvm.MethodName) jdk_42_method_155_code (2 : Nat) (Option.none : Option Jvm.ClassFile.FieldType), Jvm.Cond.code (⟨"jdk/internal/util/Preconditions", "checkIndex", "(IILjava/util/function/BiFunction;)I"⟩ : Jvm.MethodName) jdk_41_method_11_code (3 : Nat) (Option.some Jvm.ClassFile.FieldType.int), Jvm.Cond.code (⟨"com/example/wiregather/wiregather/wire/FieldTypeOfLabelPinLaw", "expect", "(Ljava/lang/String;)Lcom/example/wiregather/wiregather/wire/FieldType;"⟩ : Jvm.MethodName) method_6_code (1 : Nat) (Option.some (Jvm.ClassFile.FieldType.object "com/example/wiregather/wiregather/wire/FieldType"))]
theorem codes_eq : words1.filter isCode = codes1 := rfl
theorem w_codes : ∀ c ∈ words1.filter isCode, c.before args0 about1 = true := by
  rw [codes_eq]
  intro c hc
  simp only [codes1, List.mem_cons, List.not_mem_nil, or_false] at hc
  rcases hc with rfl | rfl | rfl | rfl | rfl | rfl | rfl | rfl | rfl | rfl | rfl | rfl | rfl | rfl | rfl | rfl | rfl | rfl | rfl | rfl
  · exact w_c0
  · exact w_c1
  · exact w_c2
  · exact w_c3
  · exact w_c4
  · exact w_c5
  · exact w_c6
  · exact w_c7
  · exact w_c8
  · exact w_c9
  · exact w_c10
  · exact w_c11
  · exact w_c12
  · exact w_c13
  · exact w_c14
  · exact w_c15
  · exact w_c16
  · exact w_c17
  · exact w_c18
  · exact w_c19
theorem w_t1 : (words1.take 24).all (fun c => isCode c || c.before args0 about1) = true := by decide +kernel
theorem w_t2 : ((words1.drop 24).take 24).all (fun c => isCode c || c.before args0 about1) = true := by decide +kernel
theorem w_t3 : (((words1.drop 24).drop 24).take 24).all (fun c => isCode c || c.before args0 about1) = true := by decide +kernel
theorem w_t4 : ((((words1.drop 24).drop 24).drop 24).take 24).all (fun c => isCode c || c.before args0 about1) = true := by decide +kernel
theorem w_t5 : ((((words1.drop 24).drop 24).drop 24).drop 24).all (fun c => isCode c || c.before args0 about1) = true := by decide +kernel
theorem w_tables : (allAtoms (Jvm.Cond.code x code maxLocals ret :: tables_1)).before args0 about1 = true := by
  rw [allAtoms_all]
  show words1.all (fun c => c.before args0 about1) = true
  refine all_split ?_ w_codes
  rw [← List.take_append_drop 24 words1, List.all_append, w_t1, ← List.take_append_drop 24 (words1.drop 24), List.all_append, w_t2, ← List.take_append_drop 24 ((words1.drop 24).drop 24), List.all_append, w_t3, ← List.take_append_drop 24 (((words1.drop 24).drop 24).drop 24), List.all_append, w_t4, w_t5]
  rfl
theorem w_rest : rest_1_c.before args0 about1 = true := by decide +kernel
theorem w_case : (Jvm.Cond.and given_1 narrow_1).before args0 about1 = true := by decide +kernel
theorem w_consts : constsHeld consts_1 about1 := Jvm.Lit.constsHeldB_iff.mp (by decide +kernel)
theorem w_applies : (headSpec (Jvm.Cond.code x code maxLocals ret :: tables_1) room_1).applies x e0.platform about1 = true :=
  (Spec.applies_iff w_frames).mpr ⟨w_running, w_runnable, w_alone, w_named, w_hears, w_ripe, w_room, w_tables⟩
theorem atStart : AtStart classFile x code maxLocals ret World_1 tables_1 room_1 Calls_1 rest_1 Pre_1 launch0 p0 e0 about1 theMethod args0 below0 :=
  ⟨lists_1, trivial, launch0.admits_env _ _ _, launch0.least_env, fairChoices_fair.cas, fairChoices_fair.clock, w_frames, w_args, w_heap, w_applies, ⟨w_consts, trivial⟩, w_rest, w_case⟩
end start1
theorem witness_1 : WitnessClaimed_1 := ⟨start1.p0, start1.e0, start1.about1, start1.theMethod, start1.args0, start1.below0, start1.atStart⟩
end Jvm.Pilot.@@N@@
