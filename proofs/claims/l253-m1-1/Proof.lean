import JvmDerived
import JvmDerived.Pilot.@@N@@Statement
import JvmDerived.Pilot.@@N@@Code
set_option linter.unusedVariables false
set_option linter.unusedSimpArgs false
namespace Jvm.Pilot.@@N@@
open Jvm Jvm.ClassFile Sem Op Lib Jvm.Free Jvm.Stand Jvm.LawKit Jvm.RoadKit Bundle Jvm.Pilot.@@N@@.Jvm.D
theorem ww {Z : State} {a0 : Array Value} (hw : ∀ d ∈ tables_1, d.before a0 Z = true) (i : Nat) {d : Jvm.Cond} (h : tables_1[i]? = some d) : d.before a0 Z = true := hw d (List.mem_of_getElem? h)
abbrev cs0 : String := "com/example/links_to_ranks/linkstoranks/Graph"
abbrev cs1 : String := "com/example/links_to_ranks/linkstoranks/GraphRequireStartRankPinLaw"
theorem own_eqr {args : Array Value} {Z : State} {a b : Term} {x : Addr} (hb : b.eval args Z none [] Z = some (.ref x)) (h : (Jvm.Cond.eq a b).value args Z none Z [] = some true) : a.eval args Z none [] Z = some (.ref x) := by
  obtain ⟨u, w, e1, e2, k1, k2⟩ := cmp_v (Or.inl h)
  cases hb.symm.trans e2
  have hu : u.isRef = true := by cases u <;> simp [Kin, Value.isRef] at k1 k2 ⊢
  have := gotT (eq_R e1 e2 hu rfl) h
  rw [e1, this]
theorem own_len {args : Array Value} {Z : State} {t : Term} {x : Addr} {cl : Cell} {ty : FieldType} {n : Int32} (h : (Jvm.Cond.eq (.length t) (.int n)).value args Z none Z [] = some true) (ht : t.eval args Z none [] Z = some (.ref x)) (A : Arr Z Z.heap x cl ty) : cl.slots.size < 2 ^ 31 ∧ cl.slots.size.toInt32 = n := by
  have e1 := eqv_i (y := n) rfl h
  have ha := Arr.fin (Vm.Alike.refl _) A
  have hl : cl.slots.size < 2 ^ 31 := by
    by_cases q : cl.slots.size < 2 ^ 31
    · exact q
    · simp [Term.eval, ht, ha, q] at e1
  rw [len_f ht ha hl] at e1
  exact ⟨hl, by simpa using e1⟩
theorem own_all {args : Array Value} {Z : State} {t : Term} {a : Addr} {c : Cell} {ty : FieldType} {K : String} {B : Jvm.Cond} (et : ∀ idx, t.eval args Z none idx Z = some (.ref a)) (A : Arr Z Z.heap a c ty)
    (h : (Jvm.Cond.all t (.and (.exactly (.elem t (.index 0)) K) B)).value args Z none Z [] = some true) : ∀ j : Int32, ¬ (j < 0 ∨ c.slots.size ≤ j.toNatClampNeg) → ∃ r : Addr, c.slots[j.toNatClampNeg]? = some (.ref r) := fun j hj => by
  have nn : ¬ j < 0 := fun x => hj (Or.inl x)
  obtain ⟨u1, -⟩ := and_e (Cond.all_elim (et []) (A.fin (Vm.Alike.refl _)) h j.toNatClampNeg (Nat.lt_of_not_le fun x => hj (Or.inr x)))
  obtain ⟨box, eb⟩ := exa_v u1
  exact ⟨box, (elem_f (et _) (idx_at nn) (A.fin (Vm.Alike.refl _)) nn).symm.trans eb⟩
theorem own_size {c : Cell} {n : Int32} {k : Nat} (h : c.slots.size < 2 ^ 31 ∧ c.slots.size.toInt32 = n) (hn : n.toNatClampNeg = k) : c.slots.size = k := by
  have e := len_toInt h.1
  rw [h.2] at e
  rw [← hn, Int32.toNatClampNeg, e]; rfl
theorem own_char (x : Int32) : ¬ ((255 : Int32) < (nar .char ((x &&& (255 : Int32)).toUInt32.toUInt16.toUInt32.toInt32))) := by
  have e : nar .char ((x &&& (255 : Int32)).toUInt32.toUInt16.toUInt32.toInt32) = x &&& 255 := by
    rw [i2c_mask]; exact i2c_mask x
  rw [e, Int32.lt_iff_toInt_lt]
  have h : (x &&& 255).toInt = (x.toBitVec &&& 255#32).toInt := rfl
  have h2 : (x.toBitVec &&& 255#32).toNat = x.toBitVec.toNat % 256 := by rw [BitVec.toNat_and]; exact Nat.and_two_pow_sub_one_eq_mod x.toBitVec.toNat 8
  have h3 := Nat.mod_lt x.toBitVec.toNat (show 0 < 256 by decide)
  have h4 : (x.toBitVec &&& 255#32).toInt = ((x.toBitVec &&& 255#32).toNat : Int) := BitVec.toInt_eq_toNat_of_lt (by omega)
  rw [h, h4, h2]
  have : (255 : Int32).toInt = 255 := rfl
  omega
theorem own_rr (f : FP.Core.Fmt) (s : Bool) (n d : Nat) (e : Int) : (∃ c q, FP.Core.roundRatio f s n d e = .fin s c q) ∨ FP.Core.roundRatio f s n d e = .inf s := by
  unfold FP.Core.roundRatio FP.Core.roundAt FP.Core.settle FP.Core.bound
  split
  · exact Or.inl ⟨_, _, rfl⟩
  · split <;> split <;> first | exact Or.inl ⟨_, _, rfl⟩ | exact Or.inr rfl
theorem own_div_pos {a n : Int64} (ha : 0 ≤ a.toInt) (hn : 0 < n.toInt) (hfin : FP.Core.DFin (FP.Core.ddiv (FP.Core.l2d a) (FP.Core.l2d n))) : FP.dcmp (FP.ddiv (FP.l2d a) (FP.l2d n)) 0 = some .eq ∨ FP.dcmp (FP.ddiv (FP.l2d a) (FP.l2d n)) 0 = some .gt := by
  obtain ⟨c, q, h1⟩ := FP.Core.l2d_shape a
  obtain ⟨d, r, h2⟩ := FP.Core.l2d_shape n
  have e1 : decide (a.toInt < 0) = false := decide_eq_false (by omega)
  have e2 : decide (n.toInt < 0) = false := decide_eq_false (by omega)
  rw [e1] at h1
  rw [e2] at h2
  have v := FP.Core.val64_ddiv (FP.Core.l2d a) (FP.Core.l2d n)
  rw [h1, h2] at v
  have hd : d ≠ 0 := by
    intro hd
    subst hd
    simp only [FP.Core.quotient, if_true] at v
    obtain ⟨s', c', q', hf⟩ := hfin
    rw [v] at hf
    split at hf <;> cases hf
  show FP.Core.order (FP.Core.val64 (FP.Core.ddiv (FP.Core.l2d a) (FP.Core.l2d n))) (FP.Core.val64 0) = _ ∨ FP.Core.order (FP.Core.val64 (FP.Core.ddiv (FP.Core.l2d a) (FP.Core.l2d n))) (FP.Core.val64 0) = _
  have z0 : FP.Core.val64 0 = .fin false 0 FP.Core.b64.qmin := by decide +kernel
  rw [v, z0]
  simp only [FP.Core.quotient, hd, if_false]
  rcases own_rr FP.Core.b64 (false != false) c d (q - r) with ⟨x, y, h⟩ | h
  · rw [h]
    simp only [FP.Core.order, FP.Core.signed, FP.Core.inUnits, bne_self_eq_false, Bool.false_eq_true, if_false, Nat.zero_mul]
    generalize x * 2 ^ (y - min y FP.Core.b64.qmin).toNat = w
    cases w with
    | zero => left; rfl
    | succ w => right; show some (compareOfLessAndEq (((w + 1 : Nat)) : Int) (0 : Int)) = some .gt; unfold compareOfLessAndEq; rw [if_neg (by omega), if_neg (by omega)]
  · rw [h]
    right
    rfl
theorem own_rank (a : Int64) (b : Int32) : Jvm.Free.Fl.Fin64 (FP.ddiv (FP.l2d (a &&& (9223372036854775807 : Int64))) (FP.i2d ((((b.toUInt32 >>> ((2 : Int32) &&& 31).toUInt32).toInt32) &&& (65535 : Int32)) + (1 : Int32)))) ∧
    ¬ ((cmpValue (FP.dcmp (FP.ddiv (FP.l2d (a &&& (9223372036854775807 : Int64))) (FP.i2d ((((b.toUInt32 >>> ((2 : Int32) &&& 31).toUInt32).toInt32) &&& (65535 : Int32)) + (1 : Int32)))) (0 : UInt64)) .l) < (0 : Int32)) := by
  generalize ((b.toUInt32 >>> ((2 : Int32) &&& 31).toUInt32).toInt32) = y
  have hy : ∃ n : Int64, 0 < n.toInt ∧ FP.i2d ((y &&& (65535 : Int32)) + (1 : Int32)) = FP.l2d n := by
    refine ⟨((y &&& (65535 : Int32)) + (1 : Int32)).toInt64, ?_, i2d_w _⟩
    have h2 : (y.toBitVec &&& 65535#32).toNat = y.toBitVec.toNat % 65536 := by rw [BitVec.toNat_and]; exact Nat.and_two_pow_sub_one_eq_mod y.toBitVec.toNat 16
    have h3 := Nat.mod_lt y.toBitVec.toNat (show 0 < 65536 by decide)
    have h4' : (y.toBitVec &&& 65535#32).toInt = ((y.toBitVec &&& 65535#32).toNat : Int) := BitVec.toInt_eq_toNat_of_lt (by omega)
    have h4 : (y &&& 65535).toInt = ((y.toBitVec &&& 65535#32).toNat : Int) := h4'
    have h5 : ((y &&& (65535 : Int32)) + (1 : Int32)).toInt = (y &&& 65535).toInt + 1 := by
      rw [Int32.toInt_add]; have : (1 : Int32).toInt = 1 := rfl; rw [this]; exact Int.bmod_eq_of_le (by omega) (by omega)
    rw [Int32.toInt_toInt64, h5]; omega
  obtain ⟨n, hn, e⟩ := hy
  rw [e]
  have ha : 0 ≤ (a &&& (9223372036854775807 : Int64)).toInt := by
    have h2 : (a.toBitVec &&& 9223372036854775807#64).toNat = a.toBitVec.toNat % 9223372036854775808 := by rw [BitVec.toNat_and]; exact Nat.and_two_pow_sub_one_eq_mod a.toBitVec.toNat 63
    have h3 := Nat.mod_lt a.toBitVec.toNat (show 0 < 9223372036854775808 by decide)
    have h4' : (a.toBitVec &&& 9223372036854775807#64).toInt = ((a.toBitVec &&& 9223372036854775807#64).toNat : Int) := BitVec.toInt_eq_toNat_of_lt (by omega)
    have h4 : (a &&& 9223372036854775807).toInt = ((a.toBitVec &&& 9223372036854775807#64).toNat : Int) := h4'
    omega
  have hm := ddiv_mag (Jvm.Free.Fl.l2d_mag (a &&& (9223372036854775807 : Int64))) (l2d_big (v := n) (fun q => by rw [q] at hn; exact absurd hn (by decide))) (by decide) (by decide)
  have hfin : Jvm.Free.Fl.Fin64 (FP.ddiv (FP.l2d (a &&& (9223372036854775807 : Int64))) (FP.l2d n)) := hm.fin (by decide)
  refine ⟨hfin, ?_⟩
  rcases own_div_pos ha hn (Jvm.Free.Fl.fin64_core.mp hfin) with h | h <;> rw [h] <;> decide
theorem d1_0 : decode jdk_42_method_3_code 0 = .ok (.aload_n 0, 1) := by decide +kernel
theorem d1_1 : decode jdk_42_method_3_code 1 = .ok (.aload_n 1, 1) := by decide +kernel
theorem d1_2 : decode jdk_42_method_3_code 2 = .ok (.iconst 0, 1) := by decide +kernel
theorem d1_3 : decode jdk_42_method_3_code 3 = .ok (.aload_n 1, 1) := by decide +kernel
theorem d1_4 : decode jdk_42_method_3_code 4 = .ok (.arraylength, 1) := by decide +kernel
theorem d1_5 : decode jdk_42_method_3_code 5 = .ok (.aconst_null, 1) := by decide +kernel
theorem d1_6 : decode jdk_42_method_3_code 6 = .ok (.invokespecial 27, 3) := by decide +kernel
theorem d2_0 : decode jdk_42_method_149_code 0 = .ok (.aload_n 0, 1) := by decide +kernel
theorem d2_1 : decode jdk_42_method_149_code 1 = .ok (.invokespecial 1, 3) := by decide +kernel
theorem d2_4 : decode jdk_42_method_149_code 4 = .ok (.iload_n 3, 1) := by decide +kernel
theorem d2_5 : decode jdk_42_method_149_code 5 = .ok (.ifCond .ne 22, 3) := by decide +kernel
theorem d2_27 : decode jdk_42_method_149_code 27 = .ok (.getstatic 38, 3) := by decide +kernel
theorem d2_30 : decode jdk_42_method_149_code 30 = .ok (.ifCond .eq 28, 3) := by decide +kernel
theorem d2_33 : decode jdk_42_method_149_code 33 = .ok (.aload_n 1, 1) := by decide +kernel
theorem d2_34 : decode jdk_42_method_149_code 34 = .ok (.iload_n 2, 1) := by decide +kernel
theorem d2_35 : decode jdk_42_method_149_code 35 = .ok (.iload_n 3, 1) := by decide +kernel
theorem d2_36 : decode jdk_42_method_149_code 36 = .ok (.invokestatic 177, 3) := by decide +kernel
theorem d4_0 : decode jdk_52_method_16_code 0 = .ok (.iload_n 2, 1) := by decide +kernel
theorem d4_1 : decode jdk_52_method_16_code 1 = .ok (.newarray .byte, 2) := by decide +kernel
theorem d4_3 : decode jdk_52_method_16_code 3 = .ok (.astore_n 3, 1) := by decide +kernel
theorem d4_4 : decode jdk_52_method_16_code 4 = .ok (.aload_n 0, 1) := by decide +kernel
theorem d4_5 : decode jdk_52_method_16_code 5 = .ok (.iload_n 1, 1) := by decide +kernel
theorem d4_6 : decode jdk_52_method_16_code 6 = .ok (.aload_n 3, 1) := by decide +kernel
theorem d4_7 : decode jdk_52_method_16_code 7 = .ok (.iconst 0, 1) := by decide +kernel
theorem d4_8 : decode jdk_52_method_16_code 8 = .ok (.iload_n 2, 1) := by decide +kernel
theorem d4_9 : decode jdk_52_method_16_code 9 = .ok (.invokestatic 115, 3) := by decide +kernel
theorem d5_0 : decode jdk_52_method_21_code 0 = .ok (.iconst 0, 1) := by decide +kernel
theorem d5_1 : decode jdk_52_method_21_code 1 = .ok (.istore 5, 2) := by decide +kernel
theorem d5_3 : decode jdk_52_method_21_code 3 = .ok (.iload 5, 2) := by decide +kernel
theorem d5_5 : decode jdk_52_method_21_code 5 = .ok (.iload 4, 2) := by decide +kernel
theorem d5_7 : decode jdk_52_method_21_code 7 = .ok (.if_icmp .ge 37, 3) := by decide +kernel
theorem d5_10 : decode jdk_52_method_21_code 10 = .ok (.aload_n 0, 1) := by decide +kernel
theorem d5_11 : decode jdk_52_method_21_code 11 = .ok (.iload_n 1, 1) := by decide +kernel
theorem d5_12 : decode jdk_52_method_21_code 12 = .ok (.caload, 1) := by decide +kernel
theorem d5_13 : decode jdk_52_method_21_code 13 = .ok (.istore 6, 2) := by decide +kernel
theorem d5_15 : decode jdk_52_method_21_code 15 = .ok (.iload 6, 2) := by decide +kernel
theorem d5_17 : decode jdk_52_method_21_code 17 = .ok (.sipush 255, 3) := by decide +kernel
theorem d5_20 : decode jdk_52_method_21_code 20 = .ok (.if_icmp .le 6, 3) := by decide +kernel
theorem d5_26 : decode jdk_52_method_21_code 26 = .ok (.aload_n 2, 1) := by decide +kernel
theorem d5_27 : decode jdk_52_method_21_code 27 = .ok (.iload_n 3, 1) := by decide +kernel
theorem d5_28 : decode jdk_52_method_21_code 28 = .ok (.iload 6, 2) := by decide +kernel
theorem d5_30 : decode jdk_52_method_21_code 30 = .ok (.i2b, 1) := by decide +kernel
theorem d5_31 : decode jdk_52_method_21_code 31 = .ok (.bastore, 1) := by decide +kernel
theorem d5_32 : decode jdk_52_method_21_code 32 = .ok (.iinc 1 1, 3) := by decide +kernel
theorem d5_35 : decode jdk_52_method_21_code 35 = .ok (.iinc 3 1, 3) := by decide +kernel
theorem d5_38 : decode jdk_52_method_21_code 38 = .ok (.iinc 5 1, 3) := by decide +kernel
theorem d5_41 : decode jdk_52_method_21_code 41 = .ok (.goto (-38), 3) := by decide +kernel
theorem d5_44 : decode jdk_52_method_21_code 44 = .ok (.iload 4, 2) := by decide +kernel
theorem d5_46 : decode jdk_52_method_21_code 46 = .ok (.ireturn, 1) := by decide +kernel
theorem pn_java_lang_StringUTF16 : plainName "java/lang/StringUTF16" = true := by first | (simp [plainName, overriddenIn]; done) | decide +kernel
def Q5_1 (Z : State) (r0 : Addr) (r1 : Addr) (c2 : ClassId) (x3 : Int32) (x4 : Int32) (c5 : ClassId) (h0 : Heap) (n0 : Nat) (v : Option Value) (h : Heap) (L : List Loc) : Prop := v = some (.int (2 : Int32)) ∧ Fr n0 L ∧ Keep h0 h [r1] ∧ Arv Z h r1 c5 .byte (2 : Int32) [(.int ((x3.toInt8.toInt32).toInt8.toInt32)), (.int ((x4.toInt8.toInt32).toInt8.toInt32))] (.int (0 : Int32))
set_option maxRecDepth 65536 in
set_option maxHeartbeats 40000000 in
theorem rm5_1 (l : Launch) (Z : State) (a0 : Array Value) (hw : ∀ d ∈ tables_1, d.before a0 Z = true) (ws : List Jvm.Cond) (r0 : Addr) (r1 : Addr) (c2 : ClassId) (x3 : Int32) (x4 : Int32) (c5 : ClassId) (h0 : Heap) (n0 : Nat) (O0 : Old Z n0 h0) (f1 : Arv Z h0 r0 c2 .char (2 : Int32) [(.int x3), (.int x4)] (.int (0 : Int32))) (hc3 : ¬ ((255 : Int32) < x3)) (f4 : Arv Z h0 r1 c5 .byte (2 : Int32) [(.int (0 : Int32)), (.int (0 : Int32))] (.int (0 : Int32))) (g6 : n0 ≤ r1) (n8 : r0 ≠ r1) (hc11 : ¬ ((255 : Int32) < x4)) :
    MetFree l (⟨"java/lang/StringUTF16", "compress", "([CI[BII)I"⟩ : MethodName) (head1 (Jvm.Cond.code (⟨"java/lang/StringUTF16", "compress", "([CI[BII)I"⟩ : MethodName) jdk_52_method_21_code 7 (some .int) :: ws) ({ frames := 0, cells := 0, slots := 0, locals := 0 } : Room)) (fun a U => a = #[(.ref r0), (.int (0 : Int32)), (.ref r1), (.int (0 : Int32)), (.int (2 : Int32))] ∧ Z.Warmed39 U.vm ∧ U.heap = h0) (fun _ _ _ _ _ => True) (fun _ U o U' => ∃ v L, o = .returned v ∧ Q5_1 Z r0 r1 c2 x3 x4 c5 h0 n0 v U'.heap L ∧ FrameEnd U o U' L ({ frames := 0, cells := 0, slots := 0, locals := 0 } : Room).cells ({ frames := 0, cells := 0, slots := 0, locals := 0 } : Room).slots) := by
  refine MetFree.of_bodySF (plainFor_of_name pn_java_lang_StringUTF16) hisR ?_
  intro p e s m args below meth c s₁ Bd hml0 hP hK
  obtain ⟨rfl, hZ, hh⟩ := hP
  have hx := Bd.exec
  have hby := Bd.bytes
  have hml : c.maxLocals = 7 := hml0
  have hown : s.vm.findClass "java/lang/StringUTF16" = some m.cls := findClass_of_methodNamed Bd.named
  have hnm := (name_of_methodNamed Bd.named Bd.method).1
  have X0 : Stand p l e ({ frames := 0, cells := 0, slots := 0, locals := 0 } : Room) s m #[(.ref r0), (.int (0 : Int32)), (.ref r1), (.int (0 : Int32)), (.int (2 : Int32))] below meth c s₁ [] 0 0 := Stand.of_body Bd
  have e0 : s₁.heap = h0 := by rw [← hh, Bd.state]; rfl
  have N0 := Fr.nil n0
  have pre0 : ∀ t, Steps p.tables e below (s₁.setTop (mkF m 0 #[.val (.ref r0), .val (.int (0 : Int32)), .val (.ref r1), .val (.int (0 : Int32)), .val (.int (2 : Int32)), .unset, .unset] [])) t → Steps p.tables e below (s₁.setTop (entryFrame m #[(.ref r0), (.int (0 : Int32)), (.ref r1), (.int (0 : Int32)), (.int (2 : Int32))] 7)) t := fun t k => castTop (by first | (simp [entryFrame, mkF, argsToLocals, Value.category]; done) | rfl) k
  obtain ⟨clq2, Arq2, qq2, Sq2, Nq2, Hq2, Gq2⟩ := id f1
  obtain ⟨clq5, Arq5, qq5, Sq5, Nq5, Hq5, Gq5⟩ := id f4
  obtain ⟨T7, h7, X7, e7, W7, st7⟩ := stB X0 hx hZ e0 Arq5 (j := (0 : Int32)) (inb_of Sq5 ⟨(by decide : ¬ ((0 : Int32) < (0 : Int32))), (by decide : (0 : Int32) < (2 : Int32))⟩) (g := (mkF m 31 #[.val (.ref r0), .val (.int (0 : Int32)), .val (.ref r1), .val (.int (0 : Int32)), .val (.int (2 : Int32)), .val (.int (0 : Int32)), .val (.int x3)] [(.int (x3.toInt8.toInt32)), (.int (0 : Int32)), (.ref r1)])) rfl rfl (hb hby d5_31)
  have V7 : Arv Z h7 r1 c5 .byte (2 : Int32) [(.int ((x3.toInt8.toInt32).toInt8.toInt32)), (.int (0 : Int32))] (.int (0 : Int32)) := Arv.set Arq5 qq5 Sq5 Nq5 Hq5 Gq5 (fits_nar_byte _) W7 0 rfl (Nat.le_of_ble_eq_true rfl)
  have N7 := Fr.snoc X7 N0 g6
  have f9 := (f1.other W7 n8)
  obtain ⟨clq10, Arq10, qq10, Sq10, Nq10, Hq10, Gq10⟩ := id f9
  obtain ⟨clq12, Arq12, qq12, Sq12, Nq12, Hq12, Gq12⟩ := id V7
  obtain ⟨T13, h13, X13, e13, W13, st13⟩ := stB X7 hx hZ e7 Arq12 (j := (1 : Int32)) (inb_of Sq12 ⟨(by decide : ¬ ((1 : Int32) < (0 : Int32))), (by decide : (1 : Int32) < (2 : Int32))⟩) (g := (mkF m 31 #[.val (.ref r0), .val (.int (1 : Int32)), .val (.ref r1), .val (.int (1 : Int32)), .val (.int (2 : Int32)), .val (.int (1 : Int32)), .val (.int x4)] [(.int (x4.toInt8.toInt32)), (.int (1 : Int32)), (.ref r1)])) rfl rfl (hb hby d5_31)
  have V13 : Arv Z h13 r1 c5 .byte (2 : Int32) [(.int ((x3.toInt8.toInt32).toInt8.toInt32)), (.int ((x4.toInt8.toInt32).toInt8.toInt32))] (.int (0 : Int32)) := Arv.set Arq12 qq12 Sq12 Nq12 Hq12 Gq12 (fits_nar_byte _) W13 1 rfl (Nat.le_of_ble_eq_true rfl)
  have N13 := Fr.snoc X13 N7 g6
  have kp14 : Keep h0 h7 [r1] := (Keep.refl h0 [r1]).wr W7 (Or.inl (List.mem_of_getElem? (i := 0) rfl))
  have kp15 : Keep h0 h13 [r1] := kp14.wr W13 (Or.inl (List.mem_of_getElem? (i := 0) rfl))
  obtain ⟨fs, hr, hrun, hended, hW, hsame⟩ := X13.leave (v := some (.int (2 : Int32))) (fun h => by rw [Bd.returns] at h; cases h)
  refine ⟨_, _, pre0 _ ?_, hrun, hended, _, _, rfl, ?_, ⟨_, rfl⟩, hW, hsame.mono (by decide) (by decide)⟩
  · show Steps p.tables e below (s₁.setTop (mkF m 0 #[.val (.ref r0), .val (.int (0 : Int32)), .val (.ref r1), .val (.int (0 : Int32)), .val (.int (2 : Int32)), .unset, .unset] [])) _
    refine XS.iconst X0.here hx rfl (hb hby d5_0) ?_
    refine XS.istore X0.here hx rfl (hb hby d5_1) rfl (l' := #[.val (.ref r0), .val (.int (0 : Int32)), .val (.ref r1), .val (.int (0 : Int32)), .val (.int (2 : Int32)), .val (.int (0 : Int32)), .unset]) rfl ?_
    refine XS.iload X0.here hx rfl (hb hby d5_3) rfl ?_
    refine XS.iload X0.here hx rfl (hb hby d5_5) rfl ?_
    show Steps p.tables e below (s₁.setTop (mkF m 7 #[.val (.ref r0), .val (.int (0 : Int32)), .val (.ref r1), .val (.int (0 : Int32)), .val (.int (2 : Int32)), .val (.int (0 : Int32)), .unset] [(.int (2 : Int32)), (.int (0 : Int32))])) _
    refine XS.icmpNo X0.here hx rfl (hb hby d5_7) rfl (tlt (by decide : (0 : Int32) < (2 : Int32))).2.1 ?_
    refine XS.aloadN X0.here hx rfl (hb hby d5_10) rfl rfl ?_
    refine XS.iloadN X0.here hx rfl (hb hby d5_11) rfl ?_
    refine X0.caload hx (j := (0 : Int32)) (v := (.int x3)) (by rw [e0]; exact Arq2.1) (State.isArrayOf_alike hZ.alike Arq2.2.1) Arq2.2.2 (inb_of Sq2 ⟨(by decide : ¬ ((0 : Int32) < (0 : Int32))), (by decide : (0 : Int32) < (2 : Int32))⟩) (Has.at Hq2 (inb_of Sq2 ⟨(by decide : ¬ ((0 : Int32) < (0 : Int32))), (by decide : (0 : Int32) < (2 : Int32))⟩) rfl) (g := (mkF m 12 #[.val (.ref r0), .val (.int (0 : Int32)), .val (.ref r1), .val (.int (0 : Int32)), .val (.int (2 : Int32)), .val (.int (0 : Int32)), .unset] [(.int (0 : Int32)), (.ref r0)])) rfl rfl (hb hby d5_12) _ ?_
    show Steps p.tables e below (s₁.setTop (mkF m 13 #[.val (.ref r0), .val (.int (0 : Int32)), .val (.ref r1), .val (.int (0 : Int32)), .val (.int (2 : Int32)), .val (.int (0 : Int32)), .unset] [(.int x3)])) _
    refine XS.istore X0.here hx rfl (hb hby d5_13) rfl (l' := #[.val (.ref r0), .val (.int (0 : Int32)), .val (.ref r1), .val (.int (0 : Int32)), .val (.int (2 : Int32)), .val (.int (0 : Int32)), .val (.int x3)]) rfl ?_
    refine XS.iload X0.here hx rfl (hb hby d5_15) rfl ?_
    refine XS.sipush X0.here hx rfl (hb hby d5_17) ?_
    refine XS.icmpYes X0.here hx rfl (pc0 := 20) (pc' := 26) rfl (hb hby d5_20) rfl (flt hc3).2.2.2 (by decide) (by decide) ?_
    show Steps p.tables e below (s₁.setTop (mkF m 26 #[.val (.ref r0), .val (.int (0 : Int32)), .val (.ref r1), .val (.int (0 : Int32)), .val (.int (2 : Int32)), .val (.int (0 : Int32)), .val (.int x3)] [])) _
    refine XS.aloadN X0.here hx rfl (hb hby d5_26) rfl rfl ?_
    refine XS.iloadN X0.here hx rfl (hb hby d5_27) rfl ?_
    refine XS.iload X0.here hx rfl (hb hby d5_28) rfl ?_
    refine XS.i2b X0.here hx rfl (hb hby d5_30) rfl ?_
    show Steps p.tables e below (s₁.setTop (mkF m 31 #[.val (.ref r0), .val (.int (0 : Int32)), .val (.ref r1), .val (.int (0 : Int32)), .val (.int (2 : Int32)), .val (.int (0 : Int32)), .val (.int x3)] [(.int (x3.toInt8.toInt32)), (.int (0 : Int32)), (.ref r1)])) _
    refine st7 _ ?_
    show Steps p.tables e below (T7.setTop (mkF m 32 #[.val (.ref r0), .val (.int (0 : Int32)), .val (.ref r1), .val (.int (0 : Int32)), .val (.int (2 : Int32)), .val (.int (0 : Int32)), .val (.int x3)] [])) _
    refine XS.iinc X7.here hx rfl (hb hby d5_32) rfl (l' := #[.val (.ref r0), .val (.int (1 : Int32)), .val (.ref r1), .val (.int (0 : Int32)), .val (.int (2 : Int32)), .val (.int (0 : Int32)), .val (.int x3)]) rfl ?_
    refine XS.iinc X7.here hx rfl (hb hby d5_35) rfl (l' := #[.val (.ref r0), .val (.int (1 : Int32)), .val (.ref r1), .val (.int (1 : Int32)), .val (.int (2 : Int32)), .val (.int (0 : Int32)), .val (.int x3)]) rfl ?_
    refine XS.iinc X7.here hx rfl (hb hby d5_38) rfl (l' := #[.val (.ref r0), .val (.int (1 : Int32)), .val (.ref r1), .val (.int (1 : Int32)), .val (.int (2 : Int32)), .val (.int (1 : Int32)), .val (.int x3)]) rfl ?_
    refine XS.goto X7.here hx rfl (pc0 := 41) (pc' := 3) rfl (hb hby d5_41) (by decide) (by decide) ?_
    show Steps p.tables e below (T7.setTop (mkF m 3 #[.val (.ref r0), .val (.int (1 : Int32)), .val (.ref r1), .val (.int (1 : Int32)), .val (.int (2 : Int32)), .val (.int (1 : Int32)), .val (.int x3)] [])) _
    refine XS.iload X7.here hx rfl (hb hby d5_3) rfl ?_
    refine XS.iload X7.here hx rfl (hb hby d5_5) rfl ?_
    refine XS.icmpNo X7.here hx rfl (hb hby d5_7) rfl (tlt (by decide : (1 : Int32) < (2 : Int32))).2.1 ?_
    refine XS.aloadN X7.here hx rfl (hb hby d5_10) rfl rfl ?_
    show Steps p.tables e below (T7.setTop (mkF m 11 #[.val (.ref r0), .val (.int (1 : Int32)), .val (.ref r1), .val (.int (1 : Int32)), .val (.int (2 : Int32)), .val (.int (1 : Int32)), .val (.int x3)] [(.ref r0)])) _
    refine XS.iloadN X7.here hx rfl (hb hby d5_11) rfl ?_
    refine X7.caload hx (j := (1 : Int32)) (v := (.int x4)) (by rw [e7]; exact Arq10.1) (State.isArrayOf_alike hZ.alike Arq10.2.1) Arq10.2.2 (inb_of Sq10 ⟨(by decide : ¬ ((1 : Int32) < (0 : Int32))), (by decide : (1 : Int32) < (2 : Int32))⟩) (Has.at Hq10 (inb_of Sq10 ⟨(by decide : ¬ ((1 : Int32) < (0 : Int32))), (by decide : (1 : Int32) < (2 : Int32))⟩) rfl) (g := (mkF m 12 #[.val (.ref r0), .val (.int (1 : Int32)), .val (.ref r1), .val (.int (1 : Int32)), .val (.int (2 : Int32)), .val (.int (1 : Int32)), .val (.int x3)] [(.int (1 : Int32)), (.ref r0)])) rfl rfl (hb hby d5_12) _ ?_
    show Steps p.tables e below (T7.setTop (mkF m 13 #[.val (.ref r0), .val (.int (1 : Int32)), .val (.ref r1), .val (.int (1 : Int32)), .val (.int (2 : Int32)), .val (.int (1 : Int32)), .val (.int x3)] [(.int x4)])) _
    refine XS.istore X7.here hx rfl (hb hby d5_13) rfl (l' := #[.val (.ref r0), .val (.int (1 : Int32)), .val (.ref r1), .val (.int (1 : Int32)), .val (.int (2 : Int32)), .val (.int (1 : Int32)), .val (.int x4)]) rfl ?_
    refine XS.iload X7.here hx rfl (hb hby d5_15) rfl ?_
    refine XS.sipush X7.here hx rfl (hb hby d5_17) ?_
    refine XS.icmpYes X7.here hx rfl (pc0 := 20) (pc' := 26) rfl (hb hby d5_20) rfl (flt hc11).2.2.2 (by decide) (by decide) ?_
    show Steps p.tables e below (T7.setTop (mkF m 26 #[.val (.ref r0), .val (.int (1 : Int32)), .val (.ref r1), .val (.int (1 : Int32)), .val (.int (2 : Int32)), .val (.int (1 : Int32)), .val (.int x4)] [])) _
    refine XS.aloadN X7.here hx rfl (hb hby d5_26) rfl rfl ?_
    refine XS.iloadN X7.here hx rfl (hb hby d5_27) rfl ?_
    refine XS.iload X7.here hx rfl (hb hby d5_28) rfl ?_
    refine XS.i2b X7.here hx rfl (hb hby d5_30) rfl ?_
    show Steps p.tables e below (T7.setTop (mkF m 31 #[.val (.ref r0), .val (.int (1 : Int32)), .val (.ref r1), .val (.int (1 : Int32)), .val (.int (2 : Int32)), .val (.int (1 : Int32)), .val (.int x4)] [(.int (x4.toInt8.toInt32)), (.int (1 : Int32)), (.ref r1)])) _
    refine st13 _ ?_
    show Steps p.tables e below (T13.setTop (mkF m 32 #[.val (.ref r0), .val (.int (1 : Int32)), .val (.ref r1), .val (.int (1 : Int32)), .val (.int (2 : Int32)), .val (.int (1 : Int32)), .val (.int x4)] [])) _
    refine XS.iinc X13.here hx rfl (hb hby d5_32) rfl (l' := #[.val (.ref r0), .val (.int (2 : Int32)), .val (.ref r1), .val (.int (1 : Int32)), .val (.int (2 : Int32)), .val (.int (1 : Int32)), .val (.int x4)]) rfl ?_
    refine XS.iinc X13.here hx rfl (hb hby d5_35) rfl (l' := #[.val (.ref r0), .val (.int (2 : Int32)), .val (.ref r1), .val (.int (2 : Int32)), .val (.int (2 : Int32)), .val (.int (1 : Int32)), .val (.int x4)]) rfl ?_
    refine XS.iinc X13.here hx rfl (hb hby d5_38) rfl (l' := #[.val (.ref r0), .val (.int (2 : Int32)), .val (.ref r1), .val (.int (2 : Int32)), .val (.int (2 : Int32)), .val (.int (2 : Int32)), .val (.int x4)]) rfl ?_
    refine XS.goto X13.here hx rfl (pc0 := 41) (pc' := 3) rfl (hb hby d5_41) (by decide) (by decide) ?_
    show Steps p.tables e below (T13.setTop (mkF m 3 #[.val (.ref r0), .val (.int (2 : Int32)), .val (.ref r1), .val (.int (2 : Int32)), .val (.int (2 : Int32)), .val (.int (2 : Int32)), .val (.int x4)] [])) _
    refine XS.iload X13.here hx rfl (hb hby d5_3) rfl ?_
    refine XS.iload X13.here hx rfl (hb hby d5_5) rfl ?_
    refine XS.icmpYes X13.here hx rfl (pc0 := 7) (pc' := 44) rfl (hb hby d5_7) rfl (flt (by decide : ¬ ((2 : Int32) < (2 : Int32)))).2.1 (by decide) (by decide) ?_
    show Steps p.tables e below (T13.setTop (mkF m 44 #[.val (.ref r0), .val (.int (2 : Int32)), .val (.ref r1), .val (.int (2 : Int32)), .val (.int (2 : Int32)), .val (.int (2 : Int32)), .val (.int x4)] [])) _
    refine XS.iload X13.here hx rfl (hb hby d5_44) rfl ?_
    exact retOut X13 hx (i := .ireturn) Bd.returns rfl (Or.inl ⟨rfl, Or.inl rfl, _, rfl⟩) (hb hby d5_46) hr
  · show Q5_1 Z r0 r1 c2 x3 x4 c5 h0 n0 _ T13.heap _
    rw [e13]
    exact ⟨rfl, N13, kp15, V13⟩
theorem pd___CI_BII_I : parseMethodDescriptor "([CI[BII)I" = some ⟨[(.array .char), .int, (.array .byte), .int, .int], some .int⟩ := by decide +kernel
theorem d4_12 : decode jdk_52_method_16_code 12 = .ok (.istore 4, 2) := by decide +kernel
theorem d4_14 : decode jdk_52_method_16_code 14 = .ok (.iload 4, 2) := by decide +kernel
theorem d4_16 : decode jdk_52_method_16_code 16 = .ok (.iload_n 2, 1) := by decide +kernel
theorem d4_17 : decode jdk_52_method_16_code 17 = .ok (.if_icmp .eq 40, 3) := by decide +kernel
theorem d4_57 : decode jdk_52_method_16_code 57 = .ok (.aload_n 3, 1) := by decide +kernel
theorem d4_58 : decode jdk_52_method_16_code 58 = .ok (.areturn, 1) := by decide +kernel
def Q4_1 (Z : State) (r0 : Addr) (c1 : ClassId) (x2 : Int32) (x3 : Int32) (h0 : Heap) (n0 : Nat) (v : Option Value) (h : Heap) (L : List Loc) : Prop := ∃ (b1 : Addr) (k1 : ClassId), v = some (.ref b1) ∧ Fr n0 L ∧ Keep h0 h [] ∧ h0.size ≤ b1 ∧ Exa Z h b1 "[B" ∧ Arv Z h b1 k1 .byte (2 : Int32) [(.int ((x2.toInt8.toInt32).toInt8.toInt32)), (.int ((x3.toInt8.toInt32).toInt8.toInt32))] (.int (0 : Int32))
set_option maxRecDepth 65536 in
set_option maxHeartbeats 40000000 in
theorem rm4_1 (l : Launch) (Z : State) (a0 : Array Value) (hw : ∀ d ∈ tables_1, d.before a0 Z = true) (ws : List Jvm.Cond) (r0 : Addr) (c1 : ClassId) (x2 : Int32) (x3 : Int32) (h0 : Heap) (n0 : Nat) (O0 : Old Z n0 h0) (f2 : Arv Z h0 r0 c1 .char (2 : Int32) [(.int x2), (.int x3)] (.int (0 : Int32))) (hc4 : ¬ ((255 : Int32) < x2)) (l7 : r0 < h0.size) (hc9 : ¬ ((255 : Int32) < x3)) :
    MetFree l (⟨"java/lang/StringUTF16", "compress", "([CII)[B"⟩ : MethodName) (head1 (Jvm.Cond.code (⟨"java/lang/StringUTF16", "compress", "([CII)[B"⟩ : MethodName) jdk_52_method_16_code 6 (some (.array .byte)) :: ws) ({ frames := 1, cells := 1, slots := 2, locals := 18 } : Room)) (fun a U => a = #[(.ref r0), (.int (0 : Int32)), (.int (2 : Int32))] ∧ Z.Warmed39 U.vm ∧ U.heap = h0) (fun _ _ _ _ _ => True) (fun _ U o U' => ∃ v L, o = .returned v ∧ Q4_1 Z r0 c1 x2 x3 h0 n0 v U'.heap L ∧ FrameEnd U o U' L ({ frames := 1, cells := 1, slots := 2, locals := 18 } : Room).cells ({ frames := 1, cells := 1, slots := 2, locals := 18 } : Room).slots) := by
  refine MetFree.of_bodySF (plainFor_of_name pn_java_lang_StringUTF16) hisR ?_
  intro p e s m args below meth c s₁ Bd hml0 hP hK
  obtain ⟨rfl, hZ, hh⟩ := hP
  have hx := Bd.exec
  have hby := Bd.bytes
  have hml : c.maxLocals = 6 := hml0
  have hown : s.vm.findClass "java/lang/StringUTF16" = some m.cls := findClass_of_methodNamed Bd.named
  have hnm := (name_of_methodNamed Bd.named Bd.method).1
  have X0 : Stand p l e ({ frames := 1, cells := 1, slots := 2, locals := 18 } : Room) s m #[(.ref r0), (.int (0 : Int32)), (.int (2 : Int32))] below meth c s₁ [] 0 0 := Stand.of_body Bd
  have e0 : s₁.heap = h0 := by rw [← hh, Bd.state]; rfl
  have N0 := Fr.nil n0
  have pre0 : ∀ t, Steps p.tables e below (s₁.setTop (mkF m 0 #[.val (.ref r0), .val (.int (0 : Int32)), .val (.int (2 : Int32)), .unset, .unset, .unset] [])) t → Steps p.tables e below (s₁.setTop (entryFrame m #[(.ref r0), (.int (0 : Int32)), (.int (2 : Int32))] 6)) t := fun t k => castTop (by first | (simp [entryFrame, mkF, argsToLocals, Value.category]; done) | rfl) k
  obtain ⟨T1, h1, k1, X1, e1, E1, A1, B1, st1⟩ := newPE X0 hx hZ (ww hw 19 rfl) e0 (g := (mkF m 1 #[.val (.ref r0), .val (.int (0 : Int32)), .val (.int (2 : Int32)), .unset, .unset, .unset] [(.int (2 : Int32))])) rfl (hb hby d4_1) rfl (by decide) (cap := 2) (by decide) (by decide) (by decide) (by decide) (ad := "[B") rfl
  obtain ⟨b1, g1⟩ : ∃ z, z = h0.size := ⟨_, rfl⟩
  rw [← g1] at A1 B1 st1
  have V1 : Arv Z h1 b1 k1 .byte (2 : Int32) [(.int (0 : Int32)), (.int (0 : Int32))] (.int (0 : Int32)) := (Arv.new A1 (by decide)).pad (pad_rep [] (.int (0 : Int32)) 2)
  have f3 := (f2.ext E1)
  have zz5 : n0 ≤ h0.size := by rw [← O0.1]; exact O0.2.1
  have g6 := Nat.le_trans zz5 (Nat.le_of_eq g1.symm)
  have n8 := Nat.ne_of_lt (Nat.lt_of_lt_of_le l7 (Nat.le_of_eq g1.symm))
  have o10 := Old.ext O0 E1
  obtain ⟨_, _, ⟨T11, L11, k11, n11⟩, -, X11, ⟨Lc11, hQ11, l11, y11, z11⟩, st11⟩ := Jvm.LawKit.callS X1 hx (y := (⟨"java/lang/StringUTF16", "compress", "([CI[BII)I"⟩ : MethodName)) hown (mvT hZ (ww hw 20 rfl)) (mvT hZ (ww hw 21 rfl)) (mvT hZ (ww hw 17 rfl)) (mvT hZ (ww hw 22 rfl)) (by decide) (backOf (W := 0) (rm5_1 l Z a0 hw [] r0 b1 c1 x2 x3 k1 h1 n0 o10 f3 hc4 V1 g6 n8 hc9) hZ (ww hw 22 rfl) (ww hw 17 rfl) (by decide) (by decide)) (g := (mkF m 9 #[.val (.ref r0), .val (.int (0 : Int32)), .val (.int (2 : Int32)), .val (.ref b1), .unset, .unset] [(.int (2 : Int32)), (.int (0 : Int32)), (.ref b1), (.int (0 : Int32)), (.ref r0)])) rfl (by rw [hml]; rfl) (argsL := [(.ref r0), (.int (0 : Int32)), (.ref b1), (.int (0 : Int32)), (.int (2 : Int32))]) (rest := []) (lenOf pd___CI_BII_I rfl) rfl (by show 2 * 0 + _ ≤ _; exact Nat.le_of_eq rfl) (hb hby d4_9) (fun _ _ => ⟨rfl, e1, (by decide : 1 + 0 ≤ _), (by decide : 2 + 0 ≤ _)⟩)
  dsimp only [Pt.U, Pt.locs, Pt.cells, Pt.slots] at X11 l11 y11 z11 st11 hQ11
  subst l11 y11 z11
  obtain ⟨rfl, N11q, K11, f12⟩ := hQ11
  have N11 := Fr.app N0 N11q
  have f13 := (B1.keep K11)
  have kp14 : Keep h0 h1 [] := (Keep.refl h0 []).ext E1
  have kp15 : Keep h0 T11.heap [] := kp14.trans K11 (allS (Or.inr (Nat.le_of_eq g1.symm)) all0)
  obtain ⟨fs, hr, hrun, hended, hW, hsame⟩ := X11.leave (v := some (.ref b1)) (fun h => by rw [Bd.returns] at h; cases h)
  refine ⟨_, _, pre0 _ ?_, hrun, hended, _, _, rfl, ?_, ⟨_, rfl⟩, hW, hsame.mono (by decide) (by decide)⟩
  · show Steps p.tables e below (s₁.setTop (mkF m 0 #[.val (.ref r0), .val (.int (0 : Int32)), .val (.int (2 : Int32)), .unset, .unset, .unset] [])) _
    refine XS.iloadN X0.here hx rfl (hb hby d4_0) rfl ?_
    refine st1 _ ?_
    show Steps p.tables e below (T1.setTop (mkF m 3 #[.val (.ref r0), .val (.int (0 : Int32)), .val (.int (2 : Int32)), .unset, .unset, .unset] [(.ref b1)])) _
    refine XS.astoreN X1.here hx rfl (hb hby d4_3) rfl rfl (l' := #[.val (.ref r0), .val (.int (0 : Int32)), .val (.int (2 : Int32)), .val (.ref b1), .unset, .unset]) rfl ?_
    refine XS.aloadN X1.here hx rfl (hb hby d4_4) rfl rfl ?_
    refine XS.iloadN X1.here hx rfl (hb hby d4_5) rfl ?_
    refine XS.aloadN X1.here hx rfl (hb hby d4_6) rfl rfl ?_
    show Steps p.tables e below (T1.setTop (mkF m 7 #[.val (.ref r0), .val (.int (0 : Int32)), .val (.int (2 : Int32)), .val (.ref b1), .unset, .unset] [(.ref b1), (.int (0 : Int32)), (.ref r0)])) _
    refine XS.iconst X1.here hx rfl (hb hby d4_7) ?_
    refine XS.iloadN X1.here hx rfl (hb hby d4_8) rfl ?_
    refine st11 _ ?_
    show Steps p.tables e below (T11.setTop (mkF m 12 #[.val (.ref r0), .val (.int (0 : Int32)), .val (.int (2 : Int32)), .val (.ref b1), .unset, .unset] [(.int (2 : Int32))])) _
    refine XS.istore X11.here hx rfl (hb hby d4_12) rfl (l' := #[.val (.ref r0), .val (.int (0 : Int32)), .val (.int (2 : Int32)), .val (.ref b1), .val (.int (2 : Int32)), .unset]) rfl ?_
    refine XS.iload X11.here hx rfl (hb hby d4_14) rfl ?_
    refine XS.iloadN X11.here hx rfl (hb hby d4_16) rfl ?_
    refine XS.icmpYes X11.here hx rfl (pc0 := 17) (pc' := 57) rfl (hb hby d4_17) rfl (teq (rfl : (2 : Int32) = (2 : Int32))).1 (by decide) (by decide) ?_
    show Steps p.tables e below (T11.setTop (mkF m 57 #[.val (.ref r0), .val (.int (0 : Int32)), .val (.int (2 : Int32)), .val (.ref b1), .val (.int (2 : Int32)), .unset] [])) _
    refine XS.aloadN X11.here hx rfl (hb hby d4_57) rfl rfl ?_
    exact retOut X11 hx (i := .areturn) Bd.returns rfl (Or.inr (Or.inr (Or.inr (Or.inr ⟨rfl, rfl, rfl⟩)))) (hb hby d4_58) hr
  · show Q4_1 Z r0 c1 x2 x3 h0 n0 _ T11.heap _
    exact ⟨b1, k1, rfl, N11, kp15, (Nat.le_of_eq g1.symm), f13, f12⟩
theorem pd___CII__B : parseMethodDescriptor "([CII)[B" = some ⟨[(.array .char), .int, .int], some (.array .byte)⟩ := by decide +kernel
theorem d2_39 : decode jdk_42_method_149_code 39 = .ok (.astore 5, 2) := by decide +kernel
theorem d2_41 : decode jdk_42_method_149_code 41 = .ok (.aload_n 0, 1) := by decide +kernel
theorem d2_42 : decode jdk_42_method_149_code 42 = .ok (.aload 5, 2) := by decide +kernel
theorem d2_44 : decode jdk_42_method_149_code 44 = .ok (.iload_n 3, 1) := by decide +kernel
theorem d2_45 : decode jdk_42_method_149_code 45 = .ok (.invokestatic 47, 3) := by decide +kernel
theorem d6_0 : decode jdk_52_method_15_code 0 = .ok (.iload_n 1, 1) := by decide +kernel
theorem d6_1 : decode jdk_52_method_15_code 1 = .ok (.aload_n 0, 1) := by decide +kernel
theorem d6_2 : decode jdk_52_method_15_code 2 = .ok (.arraylength, 1) := by decide +kernel
theorem d6_3 : decode jdk_52_method_15_code 3 = .ok (.isub, 1) := by decide +kernel
theorem d6_4 : decode jdk_52_method_15_code 4 = .ok (.bipush 31, 2) := by decide +kernel
theorem d6_6 : decode jdk_52_method_15_code 6 = .ok (.iushr, 1) := by decide +kernel
theorem d6_7 : decode jdk_52_method_15_code 7 = .ok (.i2b, 1) := by decide +kernel
theorem d6_8 : decode jdk_52_method_15_code 8 = .ok (.ireturn, 1) := by decide +kernel
def Q6_1 (Z : State) (r0 : Addr) (c1 : ClassId) (x2 : Int32) (x3 : Int32) (h0 : Heap) (n0 : Nat) (v : Option Value) (h : Heap) (L : List Loc) : Prop := v = some (.int (0 : Int32)) ∧ Fr n0 L ∧ h = h0
set_option maxRecDepth 65536 in
set_option maxHeartbeats 40000000 in
theorem rm6_1 (l : Launch) (Z : State) (a0 : Array Value) (hw : ∀ d ∈ tables_1, d.before a0 Z = true) (ws : List Jvm.Cond) (r0 : Addr) (c1 : ClassId) (x2 : Int32) (x3 : Int32) (h0 : Heap) (n0 : Nat) (O0 : Old Z n0 h0) (f1 : Arv Z h0 r0 c1 .byte (2 : Int32) [(.int x2), (.int x3)] (.int (0 : Int32))) :
    MetFree l (⟨"java/lang/StringUTF16", "coderFromArrayLen", "([BI)B"⟩ : MethodName) (head1 (Jvm.Cond.code (⟨"java/lang/StringUTF16", "coderFromArrayLen", "([BI)B"⟩ : MethodName) jdk_52_method_15_code 2 (some .byte) :: ws) ({ frames := 0, cells := 0, slots := 0, locals := 0 } : Room)) (fun a U => a = #[(.ref r0), (.int (2 : Int32))] ∧ Z.Warmed39 U.vm ∧ U.heap = h0) (fun _ _ _ _ _ => True) (fun _ U o U' => ∃ v L, o = .returned v ∧ Q6_1 Z r0 c1 x2 x3 h0 n0 v U'.heap L ∧ FrameEnd U o U' L ({ frames := 0, cells := 0, slots := 0, locals := 0 } : Room).cells ({ frames := 0, cells := 0, slots := 0, locals := 0 } : Room).slots) := by
  refine MetFree.of_bodySF (plainFor_of_name pn_java_lang_StringUTF16) hisR ?_
  intro p e s m args below meth c s₁ Bd hml0 hP hK
  obtain ⟨rfl, hZ, hh⟩ := hP
  have hx := Bd.exec
  have hby := Bd.bytes
  have hml : c.maxLocals = 2 := hml0
  have hown : s.vm.findClass "java/lang/StringUTF16" = some m.cls := findClass_of_methodNamed Bd.named
  have hnm := (name_of_methodNamed Bd.named Bd.method).1
  have X0 : Stand p l e ({ frames := 0, cells := 0, slots := 0, locals := 0 } : Room) s m #[(.ref r0), (.int (2 : Int32))] below meth c s₁ [] 0 0 := Stand.of_body Bd
  have e0 : s₁.heap = h0 := by rw [← hh, Bd.state]; rfl
  have N0 := Fr.nil n0
  have pre0 : ∀ t, Steps p.tables e below (s₁.setTop (mkF m 0 #[.val (.ref r0), .val (.int (2 : Int32))] [])) t → Steps p.tables e below (s₁.setTop (entryFrame m #[(.ref r0), (.int (2 : Int32))] 2)) t := fun t k => castTop (by first | (simp [entryFrame, mkF, argsToLocals, Value.category]; done) | rfl) k
  obtain ⟨clq2, Arq2, qq2, Sq2, Nq2, Hq2, Gq2⟩ := id f1
  obtain ⟨fs, hr, hrun, hended, hW, hsame⟩ := X0.leave (v := some (.int (0 : Int32))) (fun h => by rw [Bd.returns] at h; cases h)
  refine ⟨_, _, pre0 _ ?_, hrun, hended, _, _, rfl, ?_, ⟨_, rfl⟩, hW, hsame.mono (by decide) (by decide)⟩
  · show Steps p.tables e below (s₁.setTop (mkF m 0 #[.val (.ref r0), .val (.int (2 : Int32))] [])) _
    refine XS.iloadN X0.here hx rfl (hb hby d6_0) rfl ?_
    refine XS.aloadN X0.here hx rfl (hb hby d6_1) rfl rfl ?_
    refine X0.arraylength hx (by rw [e0]; exact Arq2.1) (State.isArrayOf_alike hZ.alike Arq2.2.1) (g := (mkF m 2 #[.val (.ref r0), .val (.int (2 : Int32))] [(.ref r0), (.int (2 : Int32))])) rfl rfl (hb hby d6_2) _ ?_
    rw [len_of Sq2 Nq2]
    show Steps p.tables e below (s₁.setTop (mkF m 3 #[.val (.ref r0), .val (.int (2 : Int32))] [(.int (2 : Int32)), (.int (2 : Int32))])) _
    refine XS.isub X0.here hx rfl (hb hby d6_3) rfl ?_
    refine XS.bipush X0.here hx rfl (hb hby d6_4) ?_
    refine XS.iushr X0.here hx rfl (hb hby d6_6) rfl ?_
    refine XS.i2b X0.here hx rfl (hb hby d6_7) rfl ?_
    show Steps p.tables e below (s₁.setTop (mkF m 8 #[.val (.ref r0), .val (.int (2 : Int32))] [(.int (0 : Int32))])) _
    exact retN X0 hx (t := .byte) Bd.returns (by simp) (hb hby d6_8) hr
  · show Q6_1 Z r0 c1 x2 x3 h0 n0 _ s₁.heap _
    rw [e0]
    exact ⟨rfl, N0, rfl⟩
theorem pd___BI_B : parseMethodDescriptor "([BI)B" = some ⟨[(.array .byte), .int], some .byte⟩ := by decide +kernel
theorem d2_48 : decode jdk_42_method_149_code 48 = .ok (.putfield 15, 3) := by decide +kernel
theorem d2_51 : decode jdk_42_method_149_code 51 = .ok (.aload_n 0, 1) := by decide +kernel
theorem d2_52 : decode jdk_42_method_149_code 52 = .ok (.aload 5, 2) := by decide +kernel
theorem d2_54 : decode jdk_42_method_149_code 54 = .ok (.putfield 9, 3) := by decide +kernel
theorem d2_57 : decode jdk_42_method_149_code 57 = .ok (.return_, 1) := by decide +kernel
theorem pn_java_lang_String : plainName "java/lang/String" = true := by first | (simp [plainName, overriddenIn]; done) | decide +kernel
def Q2_1 (Z : State) (r0 : Addr) (r1 : Addr) (x2 : Int32) (c3 : ClassId) (x4 : Int32) (x5 : Int32) (h0 : Heap) (n0 : Nat) (v : Option Value) (h : Heap) (L : List Loc) : Prop := ∃ (b10_0 : Addr) (k10_0 : ClassId), v = none ∧ Fr n0 L ∧ Keep h0 h [r0] ∧ Fld Z h r0 "java/lang/String" "coder" "B" (.int (0 : Int32)) ∧ Fld Z h r0 "java/lang/String" "value" "[B" (.ref b10_0) ∧ h0.size ≤ b10_0 ∧ Exa Z h b10_0 "[B" ∧ Arv Z h b10_0 k10_0 .byte (2 : Int32) [(.int ((x4.toInt8.toInt32).toInt8.toInt32)), (.int ((x5.toInt8.toInt32).toInt8.toInt32))] (.int (0 : Int32))
set_option maxRecDepth 65536 in
set_option maxHeartbeats 40000000 in
theorem rm2_1 (l : Launch) (Z : State) (a0 : Array Value) (hw : ∀ d ∈ tables_1, d.before a0 Z = true) (ws : List Jvm.Cond) (r0 : Addr) (r1 : Addr) (x2 : Int32) (c3 : ClassId) (x4 : Int32) (x5 : Int32) (h0 : Heap) (n0 : Nat) (O0 : Old Z n0 h0) (f2 : Sta Z Z.heap "java/lang/String" "COMPACT_STRINGS" "Z" (.int x2)) (hc5 : ¬ (x2 = (0 : Int32))) (f6 : Arv Z h0 r1 c3 .char (2 : Int32) [(.int x4), (.int x5)] (.int (0 : Int32))) (hc7 : ¬ ((255 : Int32) < x4)) (l8 : r1 < h0.size) (hc9 : ¬ ((255 : Int32) < x5)) (f16 : Exa Z h0 r0 "java/lang/String") (f18 : Fld Z h0 r0 "java/lang/String" "coder" "B" (.int (0 : Int32))) (g20 : n0 ≤ r0) (f23 : Fld Z h0 r0 "java/lang/String" "value" "[B" .null) (l28 : r0 < h0.size) :
    MetFree l (⟨"java/lang/String", "<init>", "([CIILjava/lang/Void;)V"⟩ : MethodName) (head1 (Jvm.Cond.code (⟨"java/lang/String", "<init>", "([CIILjava/lang/Void;)V"⟩ : MethodName) jdk_42_method_149_code 6 none :: ws) ({ frames := 2, cells := 1, slots := 2, locals := 35 } : Room)) (fun a U => a = #[(.ref r0), (.ref r1), (.int (0 : Int32)), (.int (2 : Int32)), .null] ∧ Z.Warmed39 U.vm ∧ U.heap = h0) (fun _ _ _ _ _ => True) (fun _ U o U' => ∃ v L, o = .returned v ∧ Q2_1 Z r0 r1 x2 c3 x4 x5 h0 n0 v U'.heap L ∧ FrameEnd U o U' L ({ frames := 2, cells := 1, slots := 2, locals := 35 } : Room).cells ({ frames := 2, cells := 1, slots := 2, locals := 35 } : Room).slots) := by
  refine MetFree.of_bodySF (plainFor_of_name pn_java_lang_String) hisR ?_
  intro p e s m args below meth c s₁ Bd hml0 hP hK
  obtain ⟨rfl, hZ, hh⟩ := hP
  have hx := Bd.exec
  have hby := Bd.bytes
  have hml : c.maxLocals = 6 := hml0
  have hown : s.vm.findClass "java/lang/String" = some m.cls := findClass_of_methodNamed Bd.named
  have hnm := (name_of_methodNamed Bd.named Bd.method).1
  have X0 : Stand p l e ({ frames := 2, cells := 1, slots := 2, locals := 35 } : Room) s m #[(.ref r0), (.ref r1), (.int (0 : Int32)), (.int (2 : Int32)), .null] below meth c s₁ [] 0 0 := Stand.of_body Bd
  have e0 : s₁.heap = h0 := by rw [← hh, Bd.state]; rfl
  have N0 := Fr.nil n0
  have pre0 : ∀ t, Steps p.tables e below (s₁.setTop (mkF m 0 #[.val (.ref r0), .val (.ref r1), .val (.int (0 : Int32)), .val (.int (2 : Int32)), .val .null, .unset] [])) t → Steps p.tables e below (s₁.setTop (entryFrame m #[(.ref r0), (.ref r1), (.int (0 : Int32)), (.int (2 : Int32)), .null] 6)) t := fun t k => castTop (by first | (simp [entryFrame, mkF, argsToLocals, Value.category]; done) | rfl) k
  obtain ⟨T1, X1, e1, st1⟩ := initO X0 hx hZ hown (ww hw 11 rfl) (ww hw 12 rfl) (ww hw 13 rfl) e0 (g := (mkF m 1 #[.val (.ref r0), .val (.ref r1), .val (.int (0 : Int32)), .val (.int (2 : Int32)), .val .null, .unset] [(.ref r0)])) rfl (by rw [hml]; rfl) rfl (hb hby d2_1) (by decide) (W := 0) (by show 2 * 0 + _ ≤ _; exact Nat.le_of_eq rfl) (by decide)
  have f3 := f2.ext O0.2
  obtain ⟨T4, X4, e4, st4⟩ := getS2 X1 hx hZ hown (host := "") (Or.inl (ww hw 14 rfl)) Via.refl e1 f3 (g := (mkF m 27 #[.val (.ref r0), .val (.ref r1), .val (.int (0 : Int32)), .val (.int (2 : Int32)), .val .null, .unset] [])) rfl (hb hby d2_27)
  obtain ⟨_, _, ⟨T10, L10, k10, n10⟩, -, X10, ⟨Lc10, hQ10, l10, y10, z10⟩, st10⟩ := Jvm.LawKit.callS X4 hx (y := (⟨"java/lang/StringUTF16", "compress", "([CII)[B"⟩ : MethodName)) hown (mvT hZ (ww hw 15 rfl)) (mvT hZ (ww hw 16 rfl)) (mvT hZ (ww hw 17 rfl)) (mvT hZ (ww hw 18 rfl)) (by decide) (backOf (W := 0) (rm4_1 l Z a0 hw [] r1 c3 x4 x5 h0 n0 O0 f6 hc7 l8 hc9) hZ (ww hw 18 rfl) (ww hw 17 rfl) (by decide) (by decide)) (g := (mkF m 36 #[.val (.ref r0), .val (.ref r1), .val (.int (0 : Int32)), .val (.int (2 : Int32)), .val .null, .unset] [(.int (2 : Int32)), (.int (0 : Int32)), (.ref r1)])) rfl (by rw [hml]; rfl) (argsL := [(.ref r1), (.int (0 : Int32)), (.int (2 : Int32))]) (rest := []) (lenOf pd___CII__B rfl) rfl (by show 2 * 0 + _ ≤ _; exact Nat.le_of_eq rfl) (hb hby d2_36) (fun _ _ => ⟨rfl, e4, (by decide : 0 + 1 ≤ _), (by decide : 0 + 2 ≤ _)⟩)
  dsimp only [Pt.U, Pt.locs, Pt.cells, Pt.slots] at X10 l10 y10 z10 st10 hQ10
  subst l10 y10 z10
  obtain ⟨b10_0, k10_0, rfl, N10q, K10, f11, f12, f13⟩ := hQ10
  have N10 := Fr.app N0 N10q
  have o14 := Old.keep O0 K10 all0
  obtain ⟨_, _, ⟨T15, L15, k15, n15⟩, -, X15, ⟨Lc15, hQ15, l15, y15, z15⟩, st15⟩ := Jvm.LawKit.callS X10 hx (y := (⟨"java/lang/StringUTF16", "coderFromArrayLen", "([BI)B"⟩ : MethodName)) hown (mvT hZ (ww hw 23 rfl)) (mvT hZ (ww hw 24 rfl)) (mvT hZ (ww hw 17 rfl)) (mvT hZ (ww hw 25 rfl)) (by decide) (backOf (W := 1) (rm6_1 l Z a0 hw [] b10_0 k10_0 ((x4.toInt8.toInt32).toInt8.toInt32) ((x5.toInt8.toInt32).toInt8.toInt32) T10.heap n0 o14 f13) hZ (ww hw 25 rfl) (ww hw 17 rfl) (by decide) (by decide)) (g := (mkF m 45 #[.val (.ref r0), .val (.ref r1), .val (.int (0 : Int32)), .val (.int (2 : Int32)), .val .null, .val (.ref b10_0)] [(.int (2 : Int32)), (.ref b10_0), (.ref r0)])) rfl (by rw [hml]; rfl) (argsL := [(.ref b10_0), (.int (2 : Int32))]) (rest := [(.ref r0)]) (lenOf pd___BI_B rfl) rfl (by show 2 * 0 + _ ≤ _; exact Nat.le_of_eq rfl) (hb hby d2_45) (fun _ _ => ⟨rfl, rfl, (by decide : 1 + 0 ≤ _), (by decide : 2 + 0 ≤ _)⟩)
  dsimp only [Pt.U, Pt.locs, Pt.cells, Pt.slots] at X15 l15 y15 z15 st15 hQ15
  subst l15 y15 z15
  obtain ⟨rfl, N15q, E15⟩ := hQ15
  have N15 := Fr.app N10 N15q
  have f17 := (f16.keep K10)
  have f19 := (f18.keep K10 nin0)
  obtain ⟨T21, h21, X21, e21, W21, st21⟩ := putFN X15 hx hZ hown (ww hw 26 rfl) Via.refl E15 f19 f17 (Or.inr ⟨(ww hw 27 rfl), rfl, hnm⟩) (ww hw 2 rfl) (ty := .byte) (v' := (.int (0 : Int32))) (by decide) rfl (by decide) (g := (mkF m 48 #[.val (.ref r0), .val (.ref r1), .val (.int (0 : Int32)), .val (.int (2 : Int32)), .val .null, .val (.ref b10_0)] [(.int (0 : Int32)), (.ref r0)])) rfl rfl (hb hby d2_48)
  have Fw21 := f19.same W21
  have N21 := Fr.snoc X21 N15 g20
  have f22 := (f17.wr W21)
  have f24 := ((f23.keep K10 nin0).other W21 (Or.inr (slot_ne (Or.inr (ww hw 29 rfl)) (Or.inr (ww hw 27 rfl)) (by decide) (t := (.array .byte)) (t' := .byte) (by decide) (by decide))))
  obtain ⟨T25, h25, X25, e25, W25, st25⟩ := putF X21 hx hZ hown (host := "") (Or.inl (ww hw 28 rfl)) Via.refl e21 f24 f22 (Or.inr ⟨(ww hw 29 rfl), rfl, hnm⟩) (ww hw 2 rfl) (ty := (.array .byte)) (by decide) rfl rfl (g := (mkF m 54 #[.val (.ref r0), .val (.ref r1), .val (.int (0 : Int32)), .val (.int (2 : Int32)), .val .null, .val (.ref b10_0)] [(.ref b10_0), (.ref r0)])) rfl rfl (hb hby d2_54)
  have Fw25 := f24.same W25
  have N25 := Fr.snoc X25 N21 g20
  have f26 := (Fw21.other W25 (Or.inr (slot_ne (Or.inr (ww hw 27 rfl)) (Or.inr (ww hw 29 rfl)) (by decide) (t := .byte) (t' := (.array .byte)) (by decide) (by decide))))
  have f27 := ((f12.wr W21).wr W25)
  have n29 := Nat.ne_of_lt (Nat.lt_of_lt_of_le l28 f11)
  have f30 := ((f13.other W21 (Ne.symm n29)).other W25 (Ne.symm n29))
  have kp31 : Keep h0 T10.heap [r0] := (Keep.refl h0 [r0]).trans K10 all0
  have kp32 : Keep h0 h21 [r0] := kp31.wr W21 (Or.inl (List.mem_of_getElem? (i := 0) rfl))
  have kp33 : Keep h0 h25 [r0] := kp32.wr W25 (Or.inl (List.mem_of_getElem? (i := 0) rfl))
  obtain ⟨fs, hr, hrun, hended, hW, hsame⟩ := X25.leave (v := none) (fun _ => rfl)
  refine ⟨_, _, pre0 _ ?_, hrun, hended, _, _, rfl, ?_, ⟨_, rfl⟩, hW, hsame.mono (by decide) (by decide)⟩
  · show Steps p.tables e below (s₁.setTop (mkF m 0 #[.val (.ref r0), .val (.ref r1), .val (.int (0 : Int32)), .val (.int (2 : Int32)), .val .null, .unset] [])) _
    refine XS.aloadN X0.here hx rfl (hb hby d2_0) rfl rfl ?_
    refine st1 _ ?_
    show Steps p.tables e below (T1.setTop (mkF m 4 #[.val (.ref r0), .val (.ref r1), .val (.int (0 : Int32)), .val (.int (2 : Int32)), .val .null, .unset] [])) _
    refine XS.iloadN X1.here hx rfl (hb hby d2_4) rfl ?_
    refine XS.ifYes X1.here hx rfl (pc0 := 5) (pc' := 27) rfl (hb hby d2_5) rfl ((if0 _ _).trans (feq (by decide : ¬ ((2 : Int32) = (0 : Int32)))).2) (by decide) (by decide) ?_
    show Steps p.tables e below (T1.setTop (mkF m 27 #[.val (.ref r0), .val (.ref r1), .val (.int (0 : Int32)), .val (.int (2 : Int32)), .val .null, .unset] [])) _
    refine st4 _ ?_
    show Steps p.tables e below (T4.setTop (mkF m 30 #[.val (.ref r0), .val (.ref r1), .val (.int (0 : Int32)), .val (.int (2 : Int32)), .val .null, .unset] [(.int x2)])) _
    refine XS.ifNo X4.here hx rfl (hb hby d2_30) rfl ((if0 _ _).trans (feq hc5).1) ?_
    refine XS.aloadN X4.here hx rfl (hb hby d2_33) rfl rfl ?_
    refine XS.iloadN X4.here hx rfl (hb hby d2_34) rfl ?_
    refine XS.iloadN X4.here hx rfl (hb hby d2_35) rfl ?_
    show Steps p.tables e below (T4.setTop (mkF m 36 #[.val (.ref r0), .val (.ref r1), .val (.int (0 : Int32)), .val (.int (2 : Int32)), .val .null, .unset] [(.int (2 : Int32)), (.int (0 : Int32)), (.ref r1)])) _
    refine st10 _ ?_
    show Steps p.tables e below (T10.setTop (mkF m 39 #[.val (.ref r0), .val (.ref r1), .val (.int (0 : Int32)), .val (.int (2 : Int32)), .val .null, .unset] [(.ref b10_0)])) _
    refine XS.astore X10.here hx rfl (hb hby d2_39) rfl rfl (l' := #[.val (.ref r0), .val (.ref r1), .val (.int (0 : Int32)), .val (.int (2 : Int32)), .val .null, .val (.ref b10_0)]) rfl ?_
    refine XS.aloadN X10.here hx rfl (hb hby d2_41) rfl rfl ?_
    refine XS.aload X10.here hx rfl (hb hby d2_42) rfl rfl ?_
    refine XS.iloadN X10.here hx rfl (hb hby d2_44) rfl ?_
    show Steps p.tables e below (T10.setTop (mkF m 45 #[.val (.ref r0), .val (.ref r1), .val (.int (0 : Int32)), .val (.int (2 : Int32)), .val .null, .val (.ref b10_0)] [(.int (2 : Int32)), (.ref b10_0), (.ref r0)])) _
    refine st15 _ ?_
    show Steps p.tables e below (T15.setTop (mkF m 48 #[.val (.ref r0), .val (.ref r1), .val (.int (0 : Int32)), .val (.int (2 : Int32)), .val .null, .val (.ref b10_0)] [(.int (0 : Int32)), (.ref r0)])) _
    refine st21 _ ?_
    show Steps p.tables e below (T21.setTop (mkF m 51 #[.val (.ref r0), .val (.ref r1), .val (.int (0 : Int32)), .val (.int (2 : Int32)), .val .null, .val (.ref b10_0)] [])) _
    refine XS.aloadN X21.here hx rfl (hb hby d2_51) rfl rfl ?_
    refine XS.aload X21.here hx rfl (hb hby d2_52) rfl rfl ?_
    refine st25 _ ?_
    show Steps p.tables e below (T25.setTop (mkF m 57 #[.val (.ref r0), .val (.ref r1), .val (.int (0 : Int32)), .val (.int (2 : Int32)), .val .null, .val (.ref b10_0)] [])) _
    exact X25.returnOut hx Bd.returns (hb hby d2_57) hr
  · show Q2_1 Z r0 r1 x2 c3 x4 x5 h0 n0 _ T25.heap _
    rw [e25]
    exact ⟨b10_0, k10_0, rfl, N25, kp33, f26, Fw25, f11, f27, f30⟩
theorem pd___CIILjava_lang_Void__V : parseMethodDescriptor "([CIILjava/lang/Void;)V" = some ⟨[(.array .char), .int, .int, (.object "java/lang/Void")], none⟩ := by decide +kernel
theorem d1_9 : decode jdk_42_method_3_code 9 = .ok (.return_, 1) := by decide +kernel
def Q1_1 (Z : State) (r0 : Addr) (r1 : Addr) (c2 : ClassId) (x3 : Int32) (x4 : Int32) (x5 : Int32) (h0 : Heap) (n0 : Nat) (v : Option Value) (h : Heap) (L : List Loc) : Prop := ∃ (b13_0 : Addr) (k13_0 : ClassId), v = none ∧ Fr n0 L ∧ Keep h0 h [r0] ∧ Fld Z h r0 "java/lang/String" "coder" "B" (.int (0 : Int32)) ∧ Fld Z h r0 "java/lang/String" "value" "[B" (.ref b13_0) ∧ h0.size ≤ b13_0 ∧ Exa Z h b13_0 "[B" ∧ Arv Z h b13_0 k13_0 .byte (2 : Int32) [(.int ((x3.toInt8.toInt32).toInt8.toInt32)), (.int ((x4.toInt8.toInt32).toInt8.toInt32))] (.int (0 : Int32))
set_option maxRecDepth 65536 in
set_option maxHeartbeats 40000000 in
theorem rm1_1 (l : Launch) (Z : State) (a0 : Array Value) (hw : ∀ d ∈ tables_1, d.before a0 Z = true) (ws : List Jvm.Cond) (r0 : Addr) (r1 : Addr) (c2 : ClassId) (x3 : Int32) (x4 : Int32) (x5 : Int32) (h0 : Heap) (n0 : Nat) (O0 : Old Z n0 h0) (f1 : Arv Z h0 r1 c2 .char (2 : Int32) [(.int x3), (.int x4)] (.int (0 : Int32))) (f3 : Sta Z Z.heap "java/lang/String" "COMPACT_STRINGS" "Z" (.int x5)) (hc4 : ¬ (x5 = (0 : Int32))) (hc5 : ¬ ((255 : Int32) < x3)) (l6 : r1 < h0.size) (hc7 : ¬ ((255 : Int32) < x4)) (f8 : Exa Z h0 r0 "java/lang/String") (f9 : Fld Z h0 r0 "java/lang/String" "coder" "B" (.int (0 : Int32))) (g10 : n0 ≤ r0) (f11 : Fld Z h0 r0 "java/lang/String" "value" "[B" .null) (l12 : r0 < h0.size) :
    MetFree l (⟨"java/lang/String", "<init>", "([C)V"⟩ : MethodName) (head1 (Jvm.Cond.code (⟨"java/lang/String", "<init>", "([C)V"⟩ : MethodName) jdk_42_method_3_code 2 none :: ws) ({ frames := 3, cells := 1, slots := 2, locals := 52 } : Room)) (fun a U => a = #[(.ref r0), (.ref r1)] ∧ Z.Warmed39 U.vm ∧ U.heap = h0) (fun _ _ _ _ _ => True) (fun _ U o U' => ∃ v L, o = .returned v ∧ Q1_1 Z r0 r1 c2 x3 x4 x5 h0 n0 v U'.heap L ∧ FrameEnd U o U' L ({ frames := 3, cells := 1, slots := 2, locals := 52 } : Room).cells ({ frames := 3, cells := 1, slots := 2, locals := 52 } : Room).slots) := by
  refine MetFree.of_bodySF (plainFor_of_name pn_java_lang_String) hisR ?_
  intro p e s m args below meth c s₁ Bd hml0 hP hK
  obtain ⟨rfl, hZ, hh⟩ := hP
  have hx := Bd.exec
  have hby := Bd.bytes
  have hml : c.maxLocals = 2 := hml0
  have hown : s.vm.findClass "java/lang/String" = some m.cls := findClass_of_methodNamed Bd.named
  have hnm := (name_of_methodNamed Bd.named Bd.method).1
  have X0 : Stand p l e ({ frames := 3, cells := 1, slots := 2, locals := 52 } : Room) s m #[(.ref r0), (.ref r1)] below meth c s₁ [] 0 0 := Stand.of_body Bd
  have e0 : s₁.heap = h0 := by rw [← hh, Bd.state]; rfl
  have N0 := Fr.nil n0
  have pre0 : ∀ t, Steps p.tables e below (s₁.setTop (mkF m 0 #[.val (.ref r0), .val (.ref r1)] [])) t → Steps p.tables e below (s₁.setTop (entryFrame m #[(.ref r0), (.ref r1)] 2)) t := fun t k => castTop (by first | (simp [entryFrame, mkF, argsToLocals, Value.category]; done) | rfl) k
  obtain ⟨clq2, Arq2, qq2, Sq2, Nq2, Hq2, Gq2⟩ := id f1
  obtain ⟨_, _, ⟨T13, L13, k13, n13⟩, -, X13, ⟨Lc13, hQ13, l13, y13, z13⟩, st13⟩ := X0.specialBack hx (y := (⟨"java/lang/String", "<init>", "([CIILjava/lang/Void;)V"⟩ : MethodName)) rfl hown (mvT hZ (ww hw 7 rfl)) (mvT hZ (ww hw 8 rfl)) (mvT hZ (ww hw 10 rfl)) (by decide) (backOf (W := 0) (rm2_1 l Z a0 hw [] r0 r1 x5 c2 x3 x4 h0 n0 O0 f3 hc4 f1 hc5 l6 hc7 f8 f9 g10 f11 l12) hZ (ww hw 10 rfl) (ww hw 3 rfl) (by decide) (by decide)) (g := (mkF m 6 #[.val (.ref r0), .val (.ref r1)] [.null, (.int (2 : Int32)), (.int (0 : Int32)), (.ref r1), (.ref r0)])) rfl (by rw [hml]; rfl) (Steps.refl _) (a := r0) (argsL := [(.ref r1), (.int (0 : Int32)), (.int (2 : Int32)), .null]) (rest := []) (lenOf pd___CIILjava_lang_Void__V rfl) rfl (by show 2 * 0 + _ ≤ _; exact Nat.le_of_eq rfl) (hb hby d1_6) (fun _ _ => ⟨rfl, e0, (by decide : 0 + 1 ≤ _), (by decide : 0 + 2 ≤ _)⟩)
  dsimp only [Pt.U, Pt.locs, Pt.cells, Pt.slots] at X13 l13 y13 z13 st13 hQ13
  subst l13 y13 z13
  obtain ⟨b13_0, k13_0, rfl, N13q, K13, f14, f15, f16, f17, f18⟩ := hQ13
  have N13 := Fr.app N0 N13q
  have kp19 : Keep h0 T13.heap [r0] := (Keep.refl h0 [r0]).trans K13 (allS (Or.inl (List.mem_of_getElem? (i := 0) rfl)) all0)
  obtain ⟨fs, hr, hrun, hended, hW, hsame⟩ := X13.leave (v := none) (fun _ => rfl)
  refine ⟨_, _, pre0 _ ?_, hrun, hended, _, _, rfl, ?_, ⟨_, rfl⟩, hW, hsame.mono (by decide) (by decide)⟩
  · show Steps p.tables e below (s₁.setTop (mkF m 0 #[.val (.ref r0), .val (.ref r1)] [])) _
    refine XS.aloadN X0.here hx rfl (hb hby d1_0) rfl rfl ?_
    refine XS.aloadN X0.here hx rfl (hb hby d1_1) rfl rfl ?_
    refine XS.iconst X0.here hx rfl (hb hby d1_2) ?_
    refine XS.aloadN X0.here hx rfl (hb hby d1_3) rfl rfl ?_
    show Steps p.tables e below (s₁.setTop (mkF m 4 #[.val (.ref r0), .val (.ref r1)] [(.ref r1), (.int (0 : Int32)), (.ref r1), (.ref r0)])) _
    refine X0.arraylength hx (by rw [e0]; exact Arq2.1) (State.isArrayOf_alike hZ.alike Arq2.2.1) (g := (mkF m 4 #[.val (.ref r0), .val (.ref r1)] [(.ref r1), (.int (0 : Int32)), (.ref r1), (.ref r0)])) rfl rfl (hb hby d1_4) _ ?_
    rw [len_of Sq2 Nq2]
    show Steps p.tables e below (s₁.setTop (mkF m 5 #[.val (.ref r0), .val (.ref r1)] [(.int (2 : Int32)), (.int (0 : Int32)), (.ref r1), (.ref r0)])) _
    refine XS.aconstNull X0.here hx rfl (hb hby d1_5) ?_
    refine st13.trans ?_
    show Steps p.tables e below (T13.setTop (mkF m 9 #[.val (.ref r0), .val (.ref r1)] [])) _
    exact X13.returnOut hx Bd.returns (hb hby d1_9) hr
  · show Q1_1 Z r0 r1 c2 x3 x4 x5 h0 n0 _ T13.heap _
    exact ⟨b13_0, k13_0, rfl, N13, kp19, f14, f15, f16, f17, f18⟩
theorem pd___C_V : parseMethodDescriptor "([C)V" = some ⟨[(.array .char)], none⟩ := by decide +kernel
theorem d7_0 : decode prog_4_method_11_code 0 = .ok (.dload_n 1, 1) := by decide +kernel
theorem d7_1 : decode prog_4_method_11_code 1 = .ok (.dconst 0, 1) := by decide +kernel
theorem d7_2 : decode prog_4_method_11_code 2 = .ok (.dcmp .l, 1) := by decide +kernel
theorem d7_3 : decode prog_4_method_11_code 3 = .ok (.ifCond .lt 11, 3) := by decide +kernel
theorem d7_6 : decode prog_4_method_11_code 6 = .ok (.dload_n 1, 1) := by decide +kernel
theorem d7_7 : decode prog_4_method_11_code 7 = .ok (.ldc2_w 47, 3) := by decide +kernel
theorem d7_10 : decode prog_4_method_11_code 10 = .ok (.dcmp .g, 1) := by decide +kernel
theorem d7_11 : decode prog_4_method_11_code 11 = .ok (.ifCond .lt 18, 3) := by decide +kernel
theorem d7_29 : decode prog_4_method_11_code 29 = .ok (.dload_n 1, 1) := by decide +kernel
theorem d7_30 : decode prog_4_method_11_code 30 = .ok (.dreturn, 1) := by decide +kernel
theorem pn_com_example_links_to_ranks_linkstoranks_Graph : plainName cs0 = true := by first | (simp [plainName, overriddenIn]; done) | decide +kernel
def Q7_1 (Z : State) (r0 : Addr) (h0 : Heap) (n0 : Nat) (v : Option Value) (h : Heap) (L : List Loc) : Prop := v = some (.double (0 : UInt64)) ∧ Fr n0 L ∧ h = h0
set_option maxRecDepth 65536 in
set_option maxHeartbeats 40000000 in
theorem rm7_1 (l : Launch) (Z : State) (a0 : Array Value) (hw : ∀ d ∈ tables_1, d.before a0 Z = true) (ws : List Jvm.Cond) (r0 : Addr) (h0 : Heap) (n0 : Nat) (O0 : Old Z n0 h0) (hc1 : ¬ ((cmpValue (FP.dcmp (0 : UInt64) (0 : UInt64)) .l) < (0 : Int32))) (hc2 : (cmpValue (FP.dcmp (0 : UInt64) (9218868437227405312 : UInt64)) .g) < (0 : Int32)) :
    MetFree l (⟨cs0, "requireStartRank", "(Ljava/lang/String;D)D"⟩ : MethodName) (head1 (Jvm.Cond.code (⟨cs0, "requireStartRank", "(Ljava/lang/String;D)D"⟩ : MethodName) prog_4_method_11_code 3 (some .double) :: ws) ({ frames := 0, cells := 0, slots := 0, locals := 0 } : Room)) (fun a U => a = #[(.ref r0), (.double (0 : UInt64))] ∧ Z.Warmed39 U.vm ∧ U.heap = h0) (fun _ _ _ _ _ => True) (fun _ U o U' => ∃ v L, o = .returned v ∧ Q7_1 Z r0 h0 n0 v U'.heap L ∧ FrameEnd U o U' L ({ frames := 0, cells := 0, slots := 0, locals := 0 } : Room).cells ({ frames := 0, cells := 0, slots := 0, locals := 0 } : Room).slots) := by
  refine MetFree.of_bodySF (plainFor_of_name pn_com_example_links_to_ranks_linkstoranks_Graph) hisR ?_
  intro p e s m args below meth c s₁ Bd hml0 hP hK
  obtain ⟨rfl, hZ, hh⟩ := hP
  have hx := Bd.exec
  have hby := Bd.bytes
  have hml : c.maxLocals = 3 := hml0
  have hown : s.vm.findClass cs0 = some m.cls := findClass_of_methodNamed Bd.named
  have hnm := (name_of_methodNamed Bd.named Bd.method).1
  have X0 : Stand p l e ({ frames := 0, cells := 0, slots := 0, locals := 0 } : Room) s m #[(.ref r0), (.double (0 : UInt64))] below meth c s₁ [] 0 0 := Stand.of_body Bd
  have e0 : s₁.heap = h0 := by rw [← hh, Bd.state]; rfl
  have N0 := Fr.nil n0
  have pre0 : ∀ t, Steps p.tables e below (s₁.setTop (mkF m 0 #[.val (.ref r0), .val (.double (0 : UInt64)), .second] [])) t → Steps p.tables e below (s₁.setTop (entryFrame m #[(.ref r0), (.double (0 : UInt64))] 3)) t := fun t k => castTop (by first | (simp [entryFrame, mkF, argsToLocals, Value.category]; done) | rfl) k
  obtain ⟨fs, hr, hrun, hended, hW, hsame⟩ := X0.leave (v := some (.double (0 : UInt64))) (fun h => by rw [Bd.returns] at h; cases h)
  refine ⟨_, _, pre0 _ ?_, hrun, hended, _, _, rfl, ?_, ⟨_, rfl⟩, hW, hsame.mono (by decide) (by decide)⟩
  · show Steps p.tables e below (s₁.setTop (mkF m 0 #[.val (.ref r0), .val (.double (0 : UInt64)), .second] [])) _
    refine XS.dloadN X0.here hx rfl (hb hby d7_0) rfl ?_
    refine XS.dconst0 X0.here hx rfl (hb hby d7_1) (v := (0 : UInt64)) (by decide) ?_
    refine XS.dcmpS X0.here hx rfl (hb hby d7_2) rfl rfl ?_
    refine XS.ifNo X0.here hx rfl (hb hby d7_3) rfl ((if0 _ _).trans (flt hc1).1) ?_
    show Steps p.tables e below (s₁.setTop (mkF m 6 #[.val (.ref r0), .val (.double (0 : UInt64)), .second] [])) _
    refine XS.dloadN X0.here hx rfl (hb hby d7_6) rfl ?_
    refine X0.ldc2DoubleC hx hown (mvT hZ (ww hw 35 rfl)) (g := (mkF m 7 #[.val (.ref r0), .val (.double (0 : UInt64)), .second] [(.double (0 : UInt64))])) rfl (hb hby d7_7) _ ?_
    show Steps p.tables e below (s₁.setTop (mkF m 10 #[.val (.ref r0), .val (.double (0 : UInt64)), .second] [(.double (9218868437227405312 : UInt64)), (.double (0 : UInt64))])) _
    refine XS.dcmpS X0.here hx rfl (hb hby d7_10) rfl rfl ?_
    refine XS.ifYes X0.here hx rfl (pc0 := 11) (pc' := 29) rfl (hb hby d7_11) rfl ((if0 _ _).trans (tlt hc2).1) (by decide) (by decide) ?_
    show Steps p.tables e below (s₁.setTop (mkF m 29 #[.val (.ref r0), .val (.double (0 : UInt64)), .second] [])) _
    refine XS.dloadN X0.here hx rfl (hb hby d7_29) rfl ?_
    exact retOut X0 hx (i := .dreturn) Bd.returns rfl (Or.inr (Or.inr (Or.inl ⟨rfl, rfl, _, rfl⟩))) (hb hby d7_30) hr
  · show Q7_1 Z r0 h0 n0 _ s₁.heap _
    rw [e0]
    exact ⟨rfl, N0, rfl⟩
theorem pd__Ljava_lang_String_D_D : parseMethodDescriptor "(Ljava/lang/String;D)D" = some ⟨[(.object "java/lang/String"), .double], some .double⟩ := by decide +kernel
theorem pn_com_example_links_to_ranks_linkstoranks_GraphRequireStartRankPinLaw : plainName cs1 = true := by first | (simp [plainName, overriddenIn]; done) | decide +kernel
def Q0_1 (Z : State) (y0 : Int64) (x1 : Int32) (x2 : Int32) (x3 : Int32) (x4 : Int32) (h0 : Heap) (n0 : Nat) (v : Option Value) (h : Heap) (L : List Loc) : Prop := v = some (.int (1 : Int32)) ∧ Fr n0 L
set_option maxRecDepth 65536 in
set_option maxHeartbeats 40000000 in
theorem rm0_1 (l : Launch) (Z : State) (a0 : Array Value) (hw : ∀ d ∈ tables_1, d.before a0 Z = true) (ws : List Jvm.Cond) (y0 : Int64) (x1 : Int32) (x2 : Int32) (x3 : Int32) (x4 : Int32) (h0 : Heap) (n0 : Nat) (O0 : Old Z n0 h0) (f12 : Sta Z Z.heap "java/lang/String" "COMPACT_STRINGS" "Z" (.int x4)) (hc13 : ¬ (x4 = (0 : Int32))) (hc14 : ¬ ((255 : Int32) < (nar .char ((x2 &&& (255 : Int32)).toUInt32.toUInt16.toUInt32.toInt32)))) (hc18 : ¬ ((255 : Int32) < (nar .char ((x3 &&& (255 : Int32)).toUInt32.toUInt16.toUInt32.toInt32)))) (hc31 : (x1 &&& (3 : Int32)) = (0 : Int32)) (hc32 : ¬ ((cmpValue (FP.dcmp (0 : UInt64) (0 : UInt64)) .l) < (0 : Int32))) (hc33 : (cmpValue (FP.dcmp (0 : UInt64) (9218868437227405312 : UInt64)) .g) < (0 : Int32)) (hc36 : (cmpValue (FP.dcmp (0 : UInt64) (0 : UInt64)) .l) = (0 : Int32)) :
    MetFree l x (head1 (Jvm.Cond.code x code maxLocals ret :: ws) room_1) (fun a U => a = #[(.long y0), (.int x1), (.int x2), (.int x3)] ∧ Z.Warmed39 U.vm ∧ U.heap = h0) (fun _ _ _ _ _ => True) (fun _ U o U' => ∃ v L, o = .returned v ∧ Q0_1 Z y0 x1 x2 x3 x4 h0 n0 v U'.heap L ∧ FrameEnd U o U' L room_1.cells room_1.slots) := by
  refine MetFree.of_bodySF (plainFor_of_name pn_com_example_links_to_ranks_linkstoranks_GraphRequireStartRankPinLaw) hisR ?_
  intro p e s m args below meth c s₁ Bd hml0 hP hK
  obtain ⟨rfl, hZ, hh⟩ := hP
  have hx := Bd.exec
  have hby := Bd.bytes
  have hml : c.maxLocals = 12 := hml0
  have hown : s.vm.findClass cs1 = some m.cls := findClass_of_methodNamed Bd.named
  have hnm := (name_of_methodNamed Bd.named Bd.method).1
  have X0 : Stand p l e room_1 s m #[(.long y0), (.int x1), (.int x2), (.int x3)] below meth c s₁ [] 0 0 := Stand.of_body Bd
  have e0 : s₁.heap = h0 := by rw [← hh, Bd.state]; rfl
  have N0 := Fr.nil n0
  have pre0 : ∀ t, Steps p.tables e below (s₁.setTop (mkF m 0 #[.val (.long y0), .second, .val (.int x1), .val (.int x2), .val (.int x3), .unset, .unset, .unset, .unset, .unset, .unset, .unset] [])) t → Steps p.tables e below (s₁.setTop (entryFrame m #[(.long y0), (.int x1), (.int x2), (.int x3)] maxLocals)) t := fun t k => castTop (by first | (simp [entryFrame, mkF, argsToLocals, Value.category, maxLocals]; done) | rfl) k
  obtain ⟨T1, h1, k1, X1, e1, E1, A1, B1, st1⟩ := newPE X0 hx hZ (ww hw 0 rfl) e0 (g := (mkF m 1 #[.val (.long y0), .second, .val (.int x1), .val (.int x2), .val (.int x3), .unset, .unset, .unset, .unset, .unset, .unset, .unset] [(.int (2 : Int32))])) rfl (hb hby at_1) rfl (by decide) (cap := 2) (by decide) (by decide) (by decide) (by decide) (ad := "[C") rfl
  obtain ⟨b1, g1⟩ : ∃ z, z = h0.size := ⟨_, rfl⟩
  rw [← g1] at A1 B1 st1
  have V1 : Arv Z h1 b1 k1 .char (2 : Int32) [(.int (0 : Int32)), (.int (0 : Int32))] (.int (0 : Int32)) := (Arv.new A1 (by decide)).pad (pad_rep [] (.int (0 : Int32)) 2)
  obtain ⟨clq2, Arq2, qq2, Sq2, Nq2, Hq2, Gq2⟩ := id V1
  have zz3 : n0 ≤ h0.size := by rw [← O0.1]; exact O0.2.1
  have g4 := Nat.le_trans zz3 (Nat.le_of_eq g1.symm)
  obtain ⟨T5, h5, X5, e5, W5, st5⟩ := stC X1 hx hZ e1 Arq2 (j := (0 : Int32)) (inb_of Sq2 ⟨(by decide : ¬ ((0 : Int32) < (0 : Int32))), (by decide : (0 : Int32) < (2 : Int32))⟩) (g := (mkF m 14 #[.val (.long y0), .second, .val (.int x1), .val (.int x2), .val (.int x3), .val (.ref b1), .unset, .unset, .unset, .unset, .unset, .unset] [(.int ((x2 &&& (255 : Int32)).toUInt32.toUInt16.toUInt32.toInt32)), (.int (0 : Int32)), (.ref b1)])) rfl rfl (hb hby at_14)
  have V5 : Arv Z h5 b1 k1 .char (2 : Int32) [(.int (nar .char ((x2 &&& (255 : Int32)).toUInt32.toUInt16.toUInt32.toInt32))), (.int (0 : Int32))] (.int (0 : Int32)) := Arv.set Arq2 qq2 Sq2 Nq2 Hq2 Gq2 (fits_nar_char _) W5 0 rfl (Nat.le_of_ble_eq_true rfl)
  have N5 := Fr.snoc X5 N0 g4
  obtain ⟨clq6, Arq6, qq6, Sq6, Nq6, Hq6, Gq6⟩ := id V5
  obtain ⟨T7, h7, X7, e7, W7, st7⟩ := stC X5 hx hZ e5 Arq6 (j := (1 : Int32)) (inb_of Sq6 ⟨(by decide : ¬ ((1 : Int32) < (0 : Int32))), (by decide : (1 : Int32) < (2 : Int32))⟩) (g := (mkF m 25 #[.val (.long y0), .second, .val (.int x1), .val (.int x2), .val (.int x3), .val (.ref b1), .unset, .unset, .unset, .unset, .unset, .unset] [(.int ((x3 &&& (255 : Int32)).toUInt32.toUInt16.toUInt32.toInt32)), (.int (1 : Int32)), (.ref b1)])) rfl rfl (hb hby at_25)
  have V7 : Arv Z h7 b1 k1 .char (2 : Int32) [(.int (nar .char ((x2 &&& (255 : Int32)).toUInt32.toUInt16.toUInt32.toInt32))), (.int (nar .char ((x3 &&& (255 : Int32)).toUInt32.toUInt16.toUInt32.toInt32)))] (.int (0 : Int32)) := Arv.set Arq6 qq6 Sq6 Nq6 Hq6 Gq6 (fits_nar_char _) W7 1 rfl (Nat.le_of_ble_eq_true rfl)
  have N7 := Fr.snoc X7 N5 g4
  obtain ⟨T8, h8, X8, e8, E8, A8, D8, -, st8⟩ := newO X7 hx hZ hown (ww hw 1 rfl) (ww hw 2 rfl) (ww hw 3 rfl) e7 (g := (mkF m 26 #[.val (.long y0), .second, .val (.int x1), .val (.int x2), .val (.int x3), .val (.ref b1), .unset, .unset, .unset, .unset, .unset, .unset] [])) rfl (hb hby at_26) (by decide) (by decide)
  obtain ⟨b8, g8⟩ : ∃ z, z = h7.size := ⟨_, rfl⟩
  rw [← g8] at A8 D8 st8
  have f9 : Fld Z h8 b8 "java/lang/String" "coder" "B" (.int (0 : Int32)) := D8 (Or.inr (ww hw 27 rfl)) (ty := .byte) (by decide)
  have f10 : Fld Z h8 b8 "java/lang/String" "value" "[B" .null := D8 (Or.inr (ww hw 29 rfl)) (ty := (.array .byte)) (by decide)
  have f11 := (V7.ext E8)
  have zs15 := (Nat.le_of_eq W5.size.symm)
  have zs16 := Nat.le_trans zs15 (Nat.le_of_eq W7.size.symm)
  have zs17 := Nat.le_trans zs16 E8.1
  have o20 := Old.ext O0 E1
  have o21 := Old.wr o20 W5 g4
  have o22 := Old.wr o21 W7 g4
  have zz19 : n0 ≤ h7.size := by rw [← o22.1]; exact o22.2.1
  have g23 := Nat.le_trans zz19 (Nat.le_of_eq g8.symm)
  have o24 := Old.ext o22 E8
  obtain ⟨_, _, ⟨T25, L25, k25, n25⟩, -, X25, ⟨Lc25, hQ25, l25, y25, z25⟩, st25⟩ := X8.specialBack hx (y := (⟨"java/lang/String", "<init>", "([C)V"⟩ : MethodName)) rfl hown (mvT hZ (ww hw 4 rfl)) (mvT hZ (ww hw 5 rfl)) (mvT hZ (ww hw 6 rfl)) (by decide) (backOf (W := 1) (rm1_1 l Z a0 hw [] b8 b1 k1 (nar .char ((x2 &&& (255 : Int32)).toUInt32.toUInt16.toUInt32.toInt32)) (nar .char ((x3 &&& (255 : Int32)).toUInt32.toUInt16.toUInt32.toInt32)) x4 h8 n0 o24 f11 f12 hc13 hc14 (Nat.lt_of_lt_of_le V1.lt zs17) hc18 A8 f9 g23 f10 A8.lt) hZ (ww hw 6 rfl) (ww hw 3 rfl) (by decide) (by decide)) (g := (mkF m 32 #[.val (.long y0), .second, .val (.int x1), .val (.int x2), .val (.int x3), .val (.ref b1), .unset, .unset, .unset, .unset, .unset, .unset] [(.ref b1), (.ref b8), (.ref b8)])) rfl (by rw [hml]; rfl) (Steps.refl _) (a := b8) (argsL := [(.ref b1)]) (rest := [(.ref b8)]) (lenOf pd___C_V rfl) rfl (by show 2 * 0 + _ ≤ _; exact Nat.le_of_eq rfl) (hb hby at_32) (fun _ _ => ⟨rfl, e8, (by decide : 2 + 1 ≤ _), (by decide : 6 + 2 ≤ _)⟩)
  dsimp only [Pt.U, Pt.locs, Pt.cells, Pt.slots] at X25 l25 y25 z25 st25 hQ25
  subst l25 y25 z25
  obtain ⟨b25_0, k25_0, rfl, N25q, K25, f26, f27, f28, f29, f30⟩ := hQ25
  have N25 := Fr.app N7 N25q
  have o34 := Old.keep o24 K25 (allS g23 all0)
  obtain ⟨_, _, ⟨T35, L35, k35, n35⟩, -, X35, ⟨Lc35, hQ35, l35, y35, z35⟩, st35⟩ := Jvm.LawKit.callS X25 hx (y := (⟨cs0, "requireStartRank", "(Ljava/lang/String;D)D"⟩ : MethodName)) hown (mvT hZ (ww hw 31 rfl)) (mvT hZ (ww hw 32 rfl)) (mvT hZ (ww hw 33 rfl)) (mvT hZ (ww hw 34 rfl)) (by decide) (backOf (W := 0) (rm7_1 l Z a0 hw [] b8 T25.heap n0 o34 hc32 hc33) hZ (ww hw 34 rfl) (ww hw 33 rfl) (by decide) (by decide)) (g := (mkF m 103 #[.val (.long y0), .second, .val (.int x1), .val (.int x2), .val (.int x3), .val (.ref b1), .val (.ref b8), .val (.int (x1 &&& (3 : Int32))), .val (.double (0 : UInt64)), .second, .unset, .unset] [(.double (0 : UInt64)), (.ref b8)])) rfl (by rw [hml]; rfl) (argsL := [(.ref b8), (.double (0 : UInt64))]) (rest := []) (lenOf pd__Ljava_lang_String_D_D rfl) rfl (by show 2 * 0 + _ ≤ _; exact Nat.le_of_eq rfl) (hb hby at_103) (fun _ _ => ⟨rfl, rfl, (by decide : 3 + 0 ≤ _), (by decide : 8 + 0 ≤ _)⟩)
  dsimp only [Pt.U, Pt.locs, Pt.cells, Pt.slots] at X35 l35 y35 z35 st35 hQ35
  subst l35 y35 z35
  obtain ⟨rfl, N35q, E35⟩ := hQ35
  have N35 := Fr.app N25 N35q
  obtain ⟨fs, hr, hrun, hended, hW, hsame⟩ := X35.leave (v := some (.int (1 : Int32))) (fun h => by rw [Bd.returns] at h; cases h)
  refine ⟨_, _, pre0 _ ?_, hrun, hended, _, _, rfl, ?_, ⟨_, rfl⟩, hW, hsame.mono (by decide) (by decide)⟩
  · show Steps p.tables e below (s₁.setTop (mkF m 0 #[.val (.long y0), .second, .val (.int x1), .val (.int x2), .val (.int x3), .unset, .unset, .unset, .unset, .unset, .unset, .unset] [])) _
    refine XS.iconst X0.here hx rfl (hb hby at_0) ?_
    refine st1 _ ?_
    show Steps p.tables e below (T1.setTop (mkF m 3 #[.val (.long y0), .second, .val (.int x1), .val (.int x2), .val (.int x3), .unset, .unset, .unset, .unset, .unset, .unset, .unset] [(.ref b1)])) _
    refine XS.astore X1.here hx rfl (hb hby at_3) rfl rfl (l' := #[.val (.long y0), .second, .val (.int x1), .val (.int x2), .val (.int x3), .val (.ref b1), .unset, .unset, .unset, .unset, .unset, .unset]) rfl ?_
    refine XS.aload X1.here hx rfl (hb hby at_5) rfl rfl ?_
    refine XS.iconst X1.here hx rfl (hb hby at_7) ?_
    refine XS.iloadN X1.here hx rfl (hb hby at_8) rfl ?_
    show Steps p.tables e below (T1.setTop (mkF m 9 #[.val (.long y0), .second, .val (.int x1), .val (.int x2), .val (.int x3), .val (.ref b1), .unset, .unset, .unset, .unset, .unset, .unset] [(.int x2), (.int (0 : Int32)), (.ref b1)])) _
    refine XS.sipush X1.here hx rfl (hb hby at_9) ?_
    refine XS.iand X1.here hx rfl (hb hby at_12) rfl ?_
    refine XS.i2c X1.here hx rfl (hb hby at_13) rfl ?_
    refine st5 _ ?_
    show Steps p.tables e below (T5.setTop (mkF m 15 #[.val (.long y0), .second, .val (.int x1), .val (.int x2), .val (.int x3), .val (.ref b1), .unset, .unset, .unset, .unset, .unset, .unset] [])) _
    refine XS.aload X5.here hx rfl (hb hby at_15) rfl rfl ?_
    refine XS.iconst X5.here hx rfl (hb hby at_17) ?_
    refine XS.iload X5.here hx rfl (hb hby at_18) rfl ?_
    refine XS.sipush X5.here hx rfl (hb hby at_20) ?_
    show Steps p.tables e below (T5.setTop (mkF m 23 #[.val (.long y0), .second, .val (.int x1), .val (.int x2), .val (.int x3), .val (.ref b1), .unset, .unset, .unset, .unset, .unset, .unset] [(.int (255 : Int32)), (.int x3), (.int (1 : Int32)), (.ref b1)])) _
    refine XS.iand X5.here hx rfl (hb hby at_23) rfl ?_
    refine XS.i2c X5.here hx rfl (hb hby at_24) rfl ?_
    refine st7 _ ?_
    show Steps p.tables e below (T7.setTop (mkF m 26 #[.val (.long y0), .second, .val (.int x1), .val (.int x2), .val (.int x3), .val (.ref b1), .unset, .unset, .unset, .unset, .unset, .unset] [])) _
    refine st8 _ ?_
    show Steps p.tables e below (T8.setTop (mkF m 29 #[.val (.long y0), .second, .val (.int x1), .val (.int x2), .val (.int x3), .val (.ref b1), .unset, .unset, .unset, .unset, .unset, .unset] [(.ref b8)])) _
    refine XS.dup X8.here hx rfl (hb hby at_29) rfl rfl ?_
    refine XS.aload X8.here hx rfl (hb hby at_30) rfl rfl ?_
    refine st25.trans ?_
    show Steps p.tables e below (T25.setTop (mkF m 35 #[.val (.long y0), .second, .val (.int x1), .val (.int x2), .val (.int x3), .val (.ref b1), .unset, .unset, .unset, .unset, .unset, .unset] [(.ref b8)])) _
    refine XS.astore X25.here hx rfl (hb hby at_35) rfl rfl (l' := #[.val (.long y0), .second, .val (.int x1), .val (.int x2), .val (.int x3), .val (.ref b1), .val (.ref b8), .unset, .unset, .unset, .unset, .unset]) rfl ?_
    refine XS.iloadN X25.here hx rfl (hb hby at_37) rfl ?_
    refine XS.iconst X25.here hx rfl (hb hby at_38) ?_
    refine XS.iand X25.here hx rfl (hb hby at_39) rfl ?_
    show Steps p.tables e below (T25.setTop (mkF m 40 #[.val (.long y0), .second, .val (.int x1), .val (.int x2), .val (.int x3), .val (.ref b1), .val (.ref b8), .unset, .unset, .unset, .unset, .unset] [(.int (x1 &&& (3 : Int32)))])) _
    refine XS.istore X25.here hx rfl (hb hby at_40) rfl (l' := #[.val (.long y0), .second, .val (.int x1), .val (.int x2), .val (.int x3), .val (.ref b1), .val (.ref b8), .val (.int (x1 &&& (3 : Int32))), .unset, .unset, .unset, .unset]) rfl ?_
    refine XS.iload X25.here hx rfl (hb hby at_42) rfl ?_
    refine XS.ifNo X25.here hx rfl (hb hby at_44) rfl ((if0 _ _).trans (teq hc31).2) ?_
    refine XS.dconst0 X25.here hx rfl (hb hby at_47) (v := (0 : UInt64)) (by decide) ?_
    show Steps p.tables e below (T25.setTop (mkF m 48 #[.val (.long y0), .second, .val (.int x1), .val (.int x2), .val (.int x3), .val (.ref b1), .val (.ref b8), .val (.int (x1 &&& (3 : Int32))), .unset, .unset, .unset, .unset] [(.double (0 : UInt64))])) _
    refine XS.dstore X25.here hx rfl (hb hby at_48) rfl (l' := #[.val (.long y0), .second, .val (.int x1), .val (.int x2), .val (.int x3), .val (.ref b1), .val (.ref b8), .val (.int (x1 &&& (3 : Int32))), .val (.double (0 : UInt64)), .second, .unset, .unset]) rfl ?_
    refine XS.goto X25.here hx rfl (pc0 := 50) (pc' := 99) rfl (hb hby at_50) (by decide) (by decide) ?_
    show Steps p.tables e below (T25.setTop (mkF m 99 #[.val (.long y0), .second, .val (.int x1), .val (.int x2), .val (.int x3), .val (.ref b1), .val (.ref b8), .val (.int (x1 &&& (3 : Int32))), .val (.double (0 : UInt64)), .second, .unset, .unset] [])) _
    refine XS.aload X25.here hx rfl (hb hby at_99) rfl rfl ?_
    refine XS.dload X25.here hx rfl (hb hby at_101) rfl ?_
    refine st35 _ ?_
    show Steps p.tables e below (T35.setTop (mkF m 106 #[.val (.long y0), .second, .val (.int x1), .val (.int x2), .val (.int x3), .val (.ref b1), .val (.ref b8), .val (.int (x1 &&& (3 : Int32))), .val (.double (0 : UInt64)), .second, .unset, .unset] [(.double (0 : UInt64))])) _
    refine XS.dstore X35.here hx rfl (hb hby at_106) rfl (l' := #[.val (.long y0), .second, .val (.int x1), .val (.int x2), .val (.int x3), .val (.ref b1), .val (.ref b8), .val (.int (x1 &&& (3 : Int32))), .val (.double (0 : UInt64)), .second, .val (.double (0 : UInt64)), .second]) rfl ?_
    refine XS.dload X35.here hx rfl (hb hby at_108) rfl ?_
    refine XS.dload X35.here hx rfl (hb hby at_110) rfl ?_
    refine XS.dcmpS X35.here hx rfl (hb hby at_112) rfl rfl ?_
    show Steps p.tables e below (T35.setTop (mkF m 113 #[.val (.long y0), .second, .val (.int x1), .val (.int x2), .val (.int x3), .val (.ref b1), .val (.ref b8), .val (.int (x1 &&& (3 : Int32))), .val (.double (0 : UInt64)), .second, .val (.double (0 : UInt64)), .second] [(.int (cmpValue (FP.dcmp (0 : UInt64) (0 : UInt64)) .l))])) _
    refine XS.ifNo X35.here hx rfl (hb hby at_113) rfl ((if0 _ _).trans (teq hc36).2) ?_
    refine XS.iconst X35.here hx rfl (hb hby at_116) ?_
    refine XS.goto X35.here hx rfl (pc0 := 117) (pc' := 121) rfl (hb hby at_117) (by decide) (by decide) ?_
    show Steps p.tables e below (T35.setTop (mkF m 121 #[.val (.long y0), .second, .val (.int x1), .val (.int x2), .val (.int x3), .val (.ref b1), .val (.ref b8), .val (.int (x1 &&& (3 : Int32))), .val (.double (0 : UInt64)), .second, .val (.double (0 : UInt64)), .second] [(.int (1 : Int32))])) _
    exact retN X35 hx (t := .boolean) Bd.returns (by simp) (hb hby at_121) hr
  · show Q0_1 Z y0 x1 x2 x3 x4 h0 n0 _ T35.heap _
    rw [E35]
    exact ⟨rfl, N35⟩
def Q7_2 (Z : State) (r0 : Addr) (h0 : Heap) (n0 : Nat) (v : Option Value) (h : Heap) (L : List Loc) : Prop := v = some (.double (1 : UInt64)) ∧ Fr n0 L ∧ h = h0
set_option maxRecDepth 65536 in
set_option maxHeartbeats 40000000 in
theorem rm7_2 (l : Launch) (Z : State) (a0 : Array Value) (hw : ∀ d ∈ tables_1, d.before a0 Z = true) (ws : List Jvm.Cond) (r0 : Addr) (h0 : Heap) (n0 : Nat) (O0 : Old Z n0 h0) (hc1 : ¬ ((cmpValue (FP.dcmp (1 : UInt64) (0 : UInt64)) .l) < (0 : Int32))) (hc2 : (cmpValue (FP.dcmp (1 : UInt64) (9218868437227405312 : UInt64)) .g) < (0 : Int32)) :
    MetFree l (⟨cs0, "requireStartRank", "(Ljava/lang/String;D)D"⟩ : MethodName) (head1 (Jvm.Cond.code (⟨cs0, "requireStartRank", "(Ljava/lang/String;D)D"⟩ : MethodName) prog_4_method_11_code 3 (some .double) :: ws) ({ frames := 0, cells := 0, slots := 0, locals := 0 } : Room)) (fun a U => a = #[(.ref r0), (.double (1 : UInt64))] ∧ Z.Warmed39 U.vm ∧ U.heap = h0) (fun _ _ _ _ _ => True) (fun _ U o U' => ∃ v L, o = .returned v ∧ Q7_2 Z r0 h0 n0 v U'.heap L ∧ FrameEnd U o U' L ({ frames := 0, cells := 0, slots := 0, locals := 0 } : Room).cells ({ frames := 0, cells := 0, slots := 0, locals := 0 } : Room).slots) := by
  refine MetFree.of_bodySF (plainFor_of_name pn_com_example_links_to_ranks_linkstoranks_Graph) hisR ?_
  intro p e s m args below meth c s₁ Bd hml0 hP hK
  obtain ⟨rfl, hZ, hh⟩ := hP
  have hx := Bd.exec
  have hby := Bd.bytes
  have hml : c.maxLocals = 3 := hml0
  have hown : s.vm.findClass cs0 = some m.cls := findClass_of_methodNamed Bd.named
  have hnm := (name_of_methodNamed Bd.named Bd.method).1
  have X0 : Stand p l e ({ frames := 0, cells := 0, slots := 0, locals := 0 } : Room) s m #[(.ref r0), (.double (1 : UInt64))] below meth c s₁ [] 0 0 := Stand.of_body Bd
  have e0 : s₁.heap = h0 := by rw [← hh, Bd.state]; rfl
  have N0 := Fr.nil n0
  have pre0 : ∀ t, Steps p.tables e below (s₁.setTop (mkF m 0 #[.val (.ref r0), .val (.double (1 : UInt64)), .second] [])) t → Steps p.tables e below (s₁.setTop (entryFrame m #[(.ref r0), (.double (1 : UInt64))] 3)) t := fun t k => castTop (by first | (simp [entryFrame, mkF, argsToLocals, Value.category]; done) | rfl) k
  obtain ⟨fs, hr, hrun, hended, hW, hsame⟩ := X0.leave (v := some (.double (1 : UInt64))) (fun h => by rw [Bd.returns] at h; cases h)
  refine ⟨_, _, pre0 _ ?_, hrun, hended, _, _, rfl, ?_, ⟨_, rfl⟩, hW, hsame.mono (by decide) (by decide)⟩
  · show Steps p.tables e below (s₁.setTop (mkF m 0 #[.val (.ref r0), .val (.double (1 : UInt64)), .second] [])) _
    refine XS.dloadN X0.here hx rfl (hb hby d7_0) rfl ?_
    refine XS.dconst0 X0.here hx rfl (hb hby d7_1) (v := (0 : UInt64)) (by decide) ?_
    refine XS.dcmpS X0.here hx rfl (hb hby d7_2) rfl rfl ?_
    refine XS.ifNo X0.here hx rfl (hb hby d7_3) rfl ((if0 _ _).trans (flt hc1).1) ?_
    show Steps p.tables e below (s₁.setTop (mkF m 6 #[.val (.ref r0), .val (.double (1 : UInt64)), .second] [])) _
    refine XS.dloadN X0.here hx rfl (hb hby d7_6) rfl ?_
    refine X0.ldc2DoubleC hx hown (mvT hZ (ww hw 35 rfl)) (g := (mkF m 7 #[.val (.ref r0), .val (.double (1 : UInt64)), .second] [(.double (1 : UInt64))])) rfl (hb hby d7_7) _ ?_
    show Steps p.tables e below (s₁.setTop (mkF m 10 #[.val (.ref r0), .val (.double (1 : UInt64)), .second] [(.double (9218868437227405312 : UInt64)), (.double (1 : UInt64))])) _
    refine XS.dcmpS X0.here hx rfl (hb hby d7_10) rfl rfl ?_
    refine XS.ifYes X0.here hx rfl (pc0 := 11) (pc' := 29) rfl (hb hby d7_11) rfl ((if0 _ _).trans (tlt hc2).1) (by decide) (by decide) ?_
    show Steps p.tables e below (s₁.setTop (mkF m 29 #[.val (.ref r0), .val (.double (1 : UInt64)), .second] [])) _
    refine XS.dloadN X0.here hx rfl (hb hby d7_29) rfl ?_
    exact retOut X0 hx (i := .dreturn) Bd.returns rfl (Or.inr (Or.inr (Or.inl ⟨rfl, rfl, _, rfl⟩))) (hb hby d7_30) hr
  · show Q7_2 Z r0 h0 n0 _ s₁.heap _
    rw [e0]
    exact ⟨rfl, N0, rfl⟩
def Q0_2 (Z : State) (y0 : Int64) (x1 : Int32) (x2 : Int32) (x3 : Int32) (x4 : Int32) (h0 : Heap) (n0 : Nat) (v : Option Value) (h : Heap) (L : List Loc) : Prop := v = some (.int (1 : Int32)) ∧ Fr n0 L
set_option maxRecDepth 65536 in
set_option maxHeartbeats 40000000 in
theorem rm0_2 (l : Launch) (Z : State) (a0 : Array Value) (hw : ∀ d ∈ tables_1, d.before a0 Z = true) (ws : List Jvm.Cond) (y0 : Int64) (x1 : Int32) (x2 : Int32) (x3 : Int32) (x4 : Int32) (h0 : Heap) (n0 : Nat) (O0 : Old Z n0 h0) (f12 : Sta Z Z.heap "java/lang/String" "COMPACT_STRINGS" "Z" (.int x4)) (hc13 : ¬ (x4 = (0 : Int32))) (hc14 : ¬ ((255 : Int32) < (nar .char ((x2 &&& (255 : Int32)).toUInt32.toUInt16.toUInt32.toInt32)))) (hc18 : ¬ ((255 : Int32) < (nar .char ((x3 &&& (255 : Int32)).toUInt32.toUInt16.toUInt32.toInt32)))) (hc31 : ¬ ((x1 &&& (3 : Int32)) = (0 : Int32))) (hc32 : (x1 &&& (3 : Int32)) = (1 : Int32)) (hc33 : ¬ ((cmpValue (FP.dcmp (1 : UInt64) (0 : UInt64)) .l) < (0 : Int32))) (hc34 : (cmpValue (FP.dcmp (1 : UInt64) (9218868437227405312 : UInt64)) .g) < (0 : Int32)) (hc37 : (cmpValue (FP.dcmp (1 : UInt64) (1 : UInt64)) .l) = (0 : Int32)) :
    MetFree l x (head1 (Jvm.Cond.code x code maxLocals ret :: ws) room_1) (fun a U => a = #[(.long y0), (.int x1), (.int x2), (.int x3)] ∧ Z.Warmed39 U.vm ∧ U.heap = h0) (fun _ _ _ _ _ => True) (fun _ U o U' => ∃ v L, o = .returned v ∧ Q0_2 Z y0 x1 x2 x3 x4 h0 n0 v U'.heap L ∧ FrameEnd U o U' L room_1.cells room_1.slots) := by
  refine MetFree.of_bodySF (plainFor_of_name pn_com_example_links_to_ranks_linkstoranks_GraphRequireStartRankPinLaw) hisR ?_
  intro p e s m args below meth c s₁ Bd hml0 hP hK
  obtain ⟨rfl, hZ, hh⟩ := hP
  have hx := Bd.exec
  have hby := Bd.bytes
  have hml : c.maxLocals = 12 := hml0
  have hown : s.vm.findClass cs1 = some m.cls := findClass_of_methodNamed Bd.named
  have hnm := (name_of_methodNamed Bd.named Bd.method).1
  have X0 : Stand p l e room_1 s m #[(.long y0), (.int x1), (.int x2), (.int x3)] below meth c s₁ [] 0 0 := Stand.of_body Bd
  have e0 : s₁.heap = h0 := by rw [← hh, Bd.state]; rfl
  have N0 := Fr.nil n0
  have pre0 : ∀ t, Steps p.tables e below (s₁.setTop (mkF m 0 #[.val (.long y0), .second, .val (.int x1), .val (.int x2), .val (.int x3), .unset, .unset, .unset, .unset, .unset, .unset, .unset] [])) t → Steps p.tables e below (s₁.setTop (entryFrame m #[(.long y0), (.int x1), (.int x2), (.int x3)] maxLocals)) t := fun t k => castTop (by first | (simp [entryFrame, mkF, argsToLocals, Value.category, maxLocals]; done) | rfl) k
  obtain ⟨T1, h1, k1, X1, e1, E1, A1, B1, st1⟩ := newPE X0 hx hZ (ww hw 0 rfl) e0 (g := (mkF m 1 #[.val (.long y0), .second, .val (.int x1), .val (.int x2), .val (.int x3), .unset, .unset, .unset, .unset, .unset, .unset, .unset] [(.int (2 : Int32))])) rfl (hb hby at_1) rfl (by decide) (cap := 2) (by decide) (by decide) (by decide) (by decide) (ad := "[C") rfl
  obtain ⟨b1, g1⟩ : ∃ z, z = h0.size := ⟨_, rfl⟩
  rw [← g1] at A1 B1 st1
  have V1 : Arv Z h1 b1 k1 .char (2 : Int32) [(.int (0 : Int32)), (.int (0 : Int32))] (.int (0 : Int32)) := (Arv.new A1 (by decide)).pad (pad_rep [] (.int (0 : Int32)) 2)
  obtain ⟨clq2, Arq2, qq2, Sq2, Nq2, Hq2, Gq2⟩ := id V1
  have zz3 : n0 ≤ h0.size := by rw [← O0.1]; exact O0.2.1
  have g4 := Nat.le_trans zz3 (Nat.le_of_eq g1.symm)
  obtain ⟨T5, h5, X5, e5, W5, st5⟩ := stC X1 hx hZ e1 Arq2 (j := (0 : Int32)) (inb_of Sq2 ⟨(by decide : ¬ ((0 : Int32) < (0 : Int32))), (by decide : (0 : Int32) < (2 : Int32))⟩) (g := (mkF m 14 #[.val (.long y0), .second, .val (.int x1), .val (.int x2), .val (.int x3), .val (.ref b1), .unset, .unset, .unset, .unset, .unset, .unset] [(.int ((x2 &&& (255 : Int32)).toUInt32.toUInt16.toUInt32.toInt32)), (.int (0 : Int32)), (.ref b1)])) rfl rfl (hb hby at_14)
  have V5 : Arv Z h5 b1 k1 .char (2 : Int32) [(.int (nar .char ((x2 &&& (255 : Int32)).toUInt32.toUInt16.toUInt32.toInt32))), (.int (0 : Int32))] (.int (0 : Int32)) := Arv.set Arq2 qq2 Sq2 Nq2 Hq2 Gq2 (fits_nar_char _) W5 0 rfl (Nat.le_of_ble_eq_true rfl)
  have N5 := Fr.snoc X5 N0 g4
  obtain ⟨clq6, Arq6, qq6, Sq6, Nq6, Hq6, Gq6⟩ := id V5
  obtain ⟨T7, h7, X7, e7, W7, st7⟩ := stC X5 hx hZ e5 Arq6 (j := (1 : Int32)) (inb_of Sq6 ⟨(by decide : ¬ ((1 : Int32) < (0 : Int32))), (by decide : (1 : Int32) < (2 : Int32))⟩) (g := (mkF m 25 #[.val (.long y0), .second, .val (.int x1), .val (.int x2), .val (.int x3), .val (.ref b1), .unset, .unset, .unset, .unset, .unset, .unset] [(.int ((x3 &&& (255 : Int32)).toUInt32.toUInt16.toUInt32.toInt32)), (.int (1 : Int32)), (.ref b1)])) rfl rfl (hb hby at_25)
  have V7 : Arv Z h7 b1 k1 .char (2 : Int32) [(.int (nar .char ((x2 &&& (255 : Int32)).toUInt32.toUInt16.toUInt32.toInt32))), (.int (nar .char ((x3 &&& (255 : Int32)).toUInt32.toUInt16.toUInt32.toInt32)))] (.int (0 : Int32)) := Arv.set Arq6 qq6 Sq6 Nq6 Hq6 Gq6 (fits_nar_char _) W7 1 rfl (Nat.le_of_ble_eq_true rfl)
  have N7 := Fr.snoc X7 N5 g4
  obtain ⟨T8, h8, X8, e8, E8, A8, D8, -, st8⟩ := newO X7 hx hZ hown (ww hw 1 rfl) (ww hw 2 rfl) (ww hw 3 rfl) e7 (g := (mkF m 26 #[.val (.long y0), .second, .val (.int x1), .val (.int x2), .val (.int x3), .val (.ref b1), .unset, .unset, .unset, .unset, .unset, .unset] [])) rfl (hb hby at_26) (by decide) (by decide)
  obtain ⟨b8, g8⟩ : ∃ z, z = h7.size := ⟨_, rfl⟩
  rw [← g8] at A8 D8 st8
  have f9 : Fld Z h8 b8 "java/lang/String" "coder" "B" (.int (0 : Int32)) := D8 (Or.inr (ww hw 27 rfl)) (ty := .byte) (by decide)
  have f10 : Fld Z h8 b8 "java/lang/String" "value" "[B" .null := D8 (Or.inr (ww hw 29 rfl)) (ty := (.array .byte)) (by decide)
  have f11 := (V7.ext E8)
  have zs15 := (Nat.le_of_eq W5.size.symm)
  have zs16 := Nat.le_trans zs15 (Nat.le_of_eq W7.size.symm)
  have zs17 := Nat.le_trans zs16 E8.1
  have o20 := Old.ext O0 E1
  have o21 := Old.wr o20 W5 g4
  have o22 := Old.wr o21 W7 g4
  have zz19 : n0 ≤ h7.size := by rw [← o22.1]; exact o22.2.1
  have g23 := Nat.le_trans zz19 (Nat.le_of_eq g8.symm)
  have o24 := Old.ext o22 E8
  obtain ⟨_, _, ⟨T25, L25, k25, n25⟩, -, X25, ⟨Lc25, hQ25, l25, y25, z25⟩, st25⟩ := X8.specialBack hx (y := (⟨"java/lang/String", "<init>", "([C)V"⟩ : MethodName)) rfl hown (mvT hZ (ww hw 4 rfl)) (mvT hZ (ww hw 5 rfl)) (mvT hZ (ww hw 6 rfl)) (by decide) (backOf (W := 1) (rm1_1 l Z a0 hw [] b8 b1 k1 (nar .char ((x2 &&& (255 : Int32)).toUInt32.toUInt16.toUInt32.toInt32)) (nar .char ((x3 &&& (255 : Int32)).toUInt32.toUInt16.toUInt32.toInt32)) x4 h8 n0 o24 f11 f12 hc13 hc14 (Nat.lt_of_lt_of_le V1.lt zs17) hc18 A8 f9 g23 f10 A8.lt) hZ (ww hw 6 rfl) (ww hw 3 rfl) (by decide) (by decide)) (g := (mkF m 32 #[.val (.long y0), .second, .val (.int x1), .val (.int x2), .val (.int x3), .val (.ref b1), .unset, .unset, .unset, .unset, .unset, .unset] [(.ref b1), (.ref b8), (.ref b8)])) rfl (by rw [hml]; rfl) (Steps.refl _) (a := b8) (argsL := [(.ref b1)]) (rest := [(.ref b8)]) (lenOf pd___C_V rfl) rfl (by show 2 * 0 + _ ≤ _; exact Nat.le_of_eq rfl) (hb hby at_32) (fun _ _ => ⟨rfl, e8, (by decide : 2 + 1 ≤ _), (by decide : 6 + 2 ≤ _)⟩)
  dsimp only [Pt.U, Pt.locs, Pt.cells, Pt.slots] at X25 l25 y25 z25 st25 hQ25
  subst l25 y25 z25
  obtain ⟨b25_0, k25_0, rfl, N25q, K25, f26, f27, f28, f29, f30⟩ := hQ25
  have N25 := Fr.app N7 N25q
  have o35 := Old.keep o24 K25 (allS g23 all0)
  obtain ⟨_, _, ⟨T36, L36, k36, n36⟩, -, X36, ⟨Lc36, hQ36, l36, y36, z36⟩, st36⟩ := Jvm.LawKit.callS X25 hx (y := (⟨cs0, "requireStartRank", "(Ljava/lang/String;D)D"⟩ : MethodName)) hown (mvT hZ (ww hw 31 rfl)) (mvT hZ (ww hw 32 rfl)) (mvT hZ (ww hw 33 rfl)) (mvT hZ (ww hw 34 rfl)) (by decide) (backOf (W := 0) (rm7_2 l Z a0 hw [] b8 T25.heap n0 o35 hc33 hc34) hZ (ww hw 34 rfl) (ww hw 33 rfl) (by decide) (by decide)) (g := (mkF m 103 #[.val (.long y0), .second, .val (.int x1), .val (.int x2), .val (.int x3), .val (.ref b1), .val (.ref b8), .val (.int (x1 &&& (3 : Int32))), .val (.double (1 : UInt64)), .second, .unset, .unset] [(.double (1 : UInt64)), (.ref b8)])) rfl (by rw [hml]; rfl) (argsL := [(.ref b8), (.double (1 : UInt64))]) (rest := []) (lenOf pd__Ljava_lang_String_D_D rfl) rfl (by show 2 * 0 + _ ≤ _; exact Nat.le_of_eq rfl) (hb hby at_103) (fun _ _ => ⟨rfl, rfl, (by decide : 3 + 0 ≤ _), (by decide : 8 + 0 ≤ _)⟩)
  dsimp only [Pt.U, Pt.locs, Pt.cells, Pt.slots] at X36 l36 y36 z36 st36 hQ36
  subst l36 y36 z36
  obtain ⟨rfl, N36q, E36⟩ := hQ36
  have N36 := Fr.app N25 N36q
  obtain ⟨fs, hr, hrun, hended, hW, hsame⟩ := X36.leave (v := some (.int (1 : Int32))) (fun h => by rw [Bd.returns] at h; cases h)
  refine ⟨_, _, pre0 _ ?_, hrun, hended, _, _, rfl, ?_, ⟨_, rfl⟩, hW, hsame.mono (by decide) (by decide)⟩
  · show Steps p.tables e below (s₁.setTop (mkF m 0 #[.val (.long y0), .second, .val (.int x1), .val (.int x2), .val (.int x3), .unset, .unset, .unset, .unset, .unset, .unset, .unset] [])) _
    refine XS.iconst X0.here hx rfl (hb hby at_0) ?_
    refine st1 _ ?_
    show Steps p.tables e below (T1.setTop (mkF m 3 #[.val (.long y0), .second, .val (.int x1), .val (.int x2), .val (.int x3), .unset, .unset, .unset, .unset, .unset, .unset, .unset] [(.ref b1)])) _
    refine XS.astore X1.here hx rfl (hb hby at_3) rfl rfl (l' := #[.val (.long y0), .second, .val (.int x1), .val (.int x2), .val (.int x3), .val (.ref b1), .unset, .unset, .unset, .unset, .unset, .unset]) rfl ?_
    refine XS.aload X1.here hx rfl (hb hby at_5) rfl rfl ?_
    refine XS.iconst X1.here hx rfl (hb hby at_7) ?_
    refine XS.iloadN X1.here hx rfl (hb hby at_8) rfl ?_
    show Steps p.tables e below (T1.setTop (mkF m 9 #[.val (.long y0), .second, .val (.int x1), .val (.int x2), .val (.int x3), .val (.ref b1), .unset, .unset, .unset, .unset, .unset, .unset] [(.int x2), (.int (0 : Int32)), (.ref b1)])) _
    refine XS.sipush X1.here hx rfl (hb hby at_9) ?_
    refine XS.iand X1.here hx rfl (hb hby at_12) rfl ?_
    refine XS.i2c X1.here hx rfl (hb hby at_13) rfl ?_
    refine st5 _ ?_
    show Steps p.tables e below (T5.setTop (mkF m 15 #[.val (.long y0), .second, .val (.int x1), .val (.int x2), .val (.int x3), .val (.ref b1), .unset, .unset, .unset, .unset, .unset, .unset] [])) _
    refine XS.aload X5.here hx rfl (hb hby at_15) rfl rfl ?_
    refine XS.iconst X5.here hx rfl (hb hby at_17) ?_
    refine XS.iload X5.here hx rfl (hb hby at_18) rfl ?_
    refine XS.sipush X5.here hx rfl (hb hby at_20) ?_
    show Steps p.tables e below (T5.setTop (mkF m 23 #[.val (.long y0), .second, .val (.int x1), .val (.int x2), .val (.int x3), .val (.ref b1), .unset, .unset, .unset, .unset, .unset, .unset] [(.int (255 : Int32)), (.int x3), (.int (1 : Int32)), (.ref b1)])) _
    refine XS.iand X5.here hx rfl (hb hby at_23) rfl ?_
    refine XS.i2c X5.here hx rfl (hb hby at_24) rfl ?_
    refine st7 _ ?_
    show Steps p.tables e below (T7.setTop (mkF m 26 #[.val (.long y0), .second, .val (.int x1), .val (.int x2), .val (.int x3), .val (.ref b1), .unset, .unset, .unset, .unset, .unset, .unset] [])) _
    refine st8 _ ?_
    show Steps p.tables e below (T8.setTop (mkF m 29 #[.val (.long y0), .second, .val (.int x1), .val (.int x2), .val (.int x3), .val (.ref b1), .unset, .unset, .unset, .unset, .unset, .unset] [(.ref b8)])) _
    refine XS.dup X8.here hx rfl (hb hby at_29) rfl rfl ?_
    refine XS.aload X8.here hx rfl (hb hby at_30) rfl rfl ?_
    refine st25.trans ?_
    show Steps p.tables e below (T25.setTop (mkF m 35 #[.val (.long y0), .second, .val (.int x1), .val (.int x2), .val (.int x3), .val (.ref b1), .unset, .unset, .unset, .unset, .unset, .unset] [(.ref b8)])) _
    refine XS.astore X25.here hx rfl (hb hby at_35) rfl rfl (l' := #[.val (.long y0), .second, .val (.int x1), .val (.int x2), .val (.int x3), .val (.ref b1), .val (.ref b8), .unset, .unset, .unset, .unset, .unset]) rfl ?_
    refine XS.iloadN X25.here hx rfl (hb hby at_37) rfl ?_
    refine XS.iconst X25.here hx rfl (hb hby at_38) ?_
    refine XS.iand X25.here hx rfl (hb hby at_39) rfl ?_
    show Steps p.tables e below (T25.setTop (mkF m 40 #[.val (.long y0), .second, .val (.int x1), .val (.int x2), .val (.int x3), .val (.ref b1), .val (.ref b8), .unset, .unset, .unset, .unset, .unset] [(.int (x1 &&& (3 : Int32)))])) _
    refine XS.istore X25.here hx rfl (hb hby at_40) rfl (l' := #[.val (.long y0), .second, .val (.int x1), .val (.int x2), .val (.int x3), .val (.ref b1), .val (.ref b8), .val (.int (x1 &&& (3 : Int32))), .unset, .unset, .unset, .unset]) rfl ?_
    refine XS.iload X25.here hx rfl (hb hby at_42) rfl ?_
    refine XS.ifYes X25.here hx rfl (pc0 := 44) (pc' := 53) rfl (hb hby at_44) rfl ((if0 _ _).trans (feq hc31).2) (by decide) (by decide) ?_
    show Steps p.tables e below (T25.setTop (mkF m 53 #[.val (.long y0), .second, .val (.int x1), .val (.int x2), .val (.int x3), .val (.ref b1), .val (.ref b8), .val (.int (x1 &&& (3 : Int32))), .unset, .unset, .unset, .unset] [])) _
    refine XS.iload X25.here hx rfl (hb hby at_53) rfl ?_
    refine XS.iconst X25.here hx rfl (hb hby at_55) ?_
    refine XS.icmpNo X25.here hx rfl (hb hby at_56) rfl (teq hc32).2 ?_
    refine X25.ldc2DoubleC hx hown (mvT hZ (ww hw 38 rfl)) (g := (mkF m 59 #[.val (.long y0), .second, .val (.int x1), .val (.int x2), .val (.int x3), .val (.ref b1), .val (.ref b8), .val (.int (x1 &&& (3 : Int32))), .unset, .unset, .unset, .unset] [])) rfl (hb hby at_59) _ ?_
    show Steps p.tables e below (T25.setTop (mkF m 62 #[.val (.long y0), .second, .val (.int x1), .val (.int x2), .val (.int x3), .val (.ref b1), .val (.ref b8), .val (.int (x1 &&& (3 : Int32))), .unset, .unset, .unset, .unset] [(.double (1 : UInt64))])) _
    refine XS.dstore X25.here hx rfl (hb hby at_62) rfl (l' := #[.val (.long y0), .second, .val (.int x1), .val (.int x2), .val (.int x3), .val (.ref b1), .val (.ref b8), .val (.int (x1 &&& (3 : Int32))), .val (.double (1 : UInt64)), .second, .unset, .unset]) rfl ?_
    refine XS.goto X25.here hx rfl (pc0 := 64) (pc' := 99) rfl (hb hby at_64) (by decide) (by decide) ?_
    show Steps p.tables e below (T25.setTop (mkF m 99 #[.val (.long y0), .second, .val (.int x1), .val (.int x2), .val (.int x3), .val (.ref b1), .val (.ref b8), .val (.int (x1 &&& (3 : Int32))), .val (.double (1 : UInt64)), .second, .unset, .unset] [])) _
    refine XS.aload X25.here hx rfl (hb hby at_99) rfl rfl ?_
    refine XS.dload X25.here hx rfl (hb hby at_101) rfl ?_
    refine st36 _ ?_
    show Steps p.tables e below (T36.setTop (mkF m 106 #[.val (.long y0), .second, .val (.int x1), .val (.int x2), .val (.int x3), .val (.ref b1), .val (.ref b8), .val (.int (x1 &&& (3 : Int32))), .val (.double (1 : UInt64)), .second, .unset, .unset] [(.double (1 : UInt64))])) _
    refine XS.dstore X36.here hx rfl (hb hby at_106) rfl (l' := #[.val (.long y0), .second, .val (.int x1), .val (.int x2), .val (.int x3), .val (.ref b1), .val (.ref b8), .val (.int (x1 &&& (3 : Int32))), .val (.double (1 : UInt64)), .second, .val (.double (1 : UInt64)), .second]) rfl ?_
    refine XS.dload X36.here hx rfl (hb hby at_108) rfl ?_
    refine XS.dload X36.here hx rfl (hb hby at_110) rfl ?_
    refine XS.dcmpS X36.here hx rfl (hb hby at_112) rfl rfl ?_
    show Steps p.tables e below (T36.setTop (mkF m 113 #[.val (.long y0), .second, .val (.int x1), .val (.int x2), .val (.int x3), .val (.ref b1), .val (.ref b8), .val (.int (x1 &&& (3 : Int32))), .val (.double (1 : UInt64)), .second, .val (.double (1 : UInt64)), .second] [(.int (cmpValue (FP.dcmp (1 : UInt64) (1 : UInt64)) .l))])) _
    refine XS.ifNo X36.here hx rfl (hb hby at_113) rfl ((if0 _ _).trans (teq hc37).2) ?_
    refine XS.iconst X36.here hx rfl (hb hby at_116) ?_
    refine XS.goto X36.here hx rfl (pc0 := 117) (pc' := 121) rfl (hb hby at_117) (by decide) (by decide) ?_
    show Steps p.tables e below (T36.setTop (mkF m 121 #[.val (.long y0), .second, .val (.int x1), .val (.int x2), .val (.int x3), .val (.ref b1), .val (.ref b8), .val (.int (x1 &&& (3 : Int32))), .val (.double (1 : UInt64)), .second, .val (.double (1 : UInt64)), .second] [(.int (1 : Int32))])) _
    exact retN X36 hx (t := .boolean) Bd.returns (by simp) (hb hby at_121) hr
  · show Q0_2 Z y0 x1 x2 x3 x4 h0 n0 _ T36.heap _
    rw [E36]
    exact ⟨rfl, N36⟩
def Q7_3 (Z : State) (r0 : Addr) (h0 : Heap) (n0 : Nat) (v : Option Value) (h : Heap) (L : List Loc) : Prop := v = some (.double (9218868437227405311 : UInt64)) ∧ Fr n0 L ∧ h = h0
set_option maxRecDepth 65536 in
set_option maxHeartbeats 40000000 in
theorem rm7_3 (l : Launch) (Z : State) (a0 : Array Value) (hw : ∀ d ∈ tables_1, d.before a0 Z = true) (ws : List Jvm.Cond) (r0 : Addr) (h0 : Heap) (n0 : Nat) (O0 : Old Z n0 h0) (hc1 : ¬ ((cmpValue (FP.dcmp (9218868437227405311 : UInt64) (0 : UInt64)) .l) < (0 : Int32))) (hc2 : (cmpValue (FP.dcmp (9218868437227405311 : UInt64) (9218868437227405312 : UInt64)) .g) < (0 : Int32)) :
    MetFree l (⟨cs0, "requireStartRank", "(Ljava/lang/String;D)D"⟩ : MethodName) (head1 (Jvm.Cond.code (⟨cs0, "requireStartRank", "(Ljava/lang/String;D)D"⟩ : MethodName) prog_4_method_11_code 3 (some .double) :: ws) ({ frames := 0, cells := 0, slots := 0, locals := 0 } : Room)) (fun a U => a = #[(.ref r0), (.double (9218868437227405311 : UInt64))] ∧ Z.Warmed39 U.vm ∧ U.heap = h0) (fun _ _ _ _ _ => True) (fun _ U o U' => ∃ v L, o = .returned v ∧ Q7_3 Z r0 h0 n0 v U'.heap L ∧ FrameEnd U o U' L ({ frames := 0, cells := 0, slots := 0, locals := 0 } : Room).cells ({ frames := 0, cells := 0, slots := 0, locals := 0 } : Room).slots) := by
  refine MetFree.of_bodySF (plainFor_of_name pn_com_example_links_to_ranks_linkstoranks_Graph) hisR ?_
  intro p e s m args below meth c s₁ Bd hml0 hP hK
  obtain ⟨rfl, hZ, hh⟩ := hP
  have hx := Bd.exec
  have hby := Bd.bytes
  have hml : c.maxLocals = 3 := hml0
  have hown : s.vm.findClass cs0 = some m.cls := findClass_of_methodNamed Bd.named
  have hnm := (name_of_methodNamed Bd.named Bd.method).1
  have X0 : Stand p l e ({ frames := 0, cells := 0, slots := 0, locals := 0 } : Room) s m #[(.ref r0), (.double (9218868437227405311 : UInt64))] below meth c s₁ [] 0 0 := Stand.of_body Bd
  have e0 : s₁.heap = h0 := by rw [← hh, Bd.state]; rfl
  have N0 := Fr.nil n0
  have pre0 : ∀ t, Steps p.tables e below (s₁.setTop (mkF m 0 #[.val (.ref r0), .val (.double (9218868437227405311 : UInt64)), .second] [])) t → Steps p.tables e below (s₁.setTop (entryFrame m #[(.ref r0), (.double (9218868437227405311 : UInt64))] 3)) t := fun t k => castTop (by first | (simp [entryFrame, mkF, argsToLocals, Value.category]; done) | rfl) k
  obtain ⟨fs, hr, hrun, hended, hW, hsame⟩ := X0.leave (v := some (.double (9218868437227405311 : UInt64))) (fun h => by rw [Bd.returns] at h; cases h)
  refine ⟨_, _, pre0 _ ?_, hrun, hended, _, _, rfl, ?_, ⟨_, rfl⟩, hW, hsame.mono (by decide) (by decide)⟩
  · show Steps p.tables e below (s₁.setTop (mkF m 0 #[.val (.ref r0), .val (.double (9218868437227405311 : UInt64)), .second] [])) _
    refine XS.dloadN X0.here hx rfl (hb hby d7_0) rfl ?_
    refine XS.dconst0 X0.here hx rfl (hb hby d7_1) (v := (0 : UInt64)) (by decide) ?_
    refine XS.dcmpS X0.here hx rfl (hb hby d7_2) rfl rfl ?_
    refine XS.ifNo X0.here hx rfl (hb hby d7_3) rfl ((if0 _ _).trans (flt hc1).1) ?_
    show Steps p.tables e below (s₁.setTop (mkF m 6 #[.val (.ref r0), .val (.double (9218868437227405311 : UInt64)), .second] [])) _
    refine XS.dloadN X0.here hx rfl (hb hby d7_6) rfl ?_
    refine X0.ldc2DoubleC hx hown (mvT hZ (ww hw 35 rfl)) (g := (mkF m 7 #[.val (.ref r0), .val (.double (9218868437227405311 : UInt64)), .second] [(.double (9218868437227405311 : UInt64))])) rfl (hb hby d7_7) _ ?_
    show Steps p.tables e below (s₁.setTop (mkF m 10 #[.val (.ref r0), .val (.double (9218868437227405311 : UInt64)), .second] [(.double (9218868437227405312 : UInt64)), (.double (9218868437227405311 : UInt64))])) _
    refine XS.dcmpS X0.here hx rfl (hb hby d7_10) rfl rfl ?_
    refine XS.ifYes X0.here hx rfl (pc0 := 11) (pc' := 29) rfl (hb hby d7_11) rfl ((if0 _ _).trans (tlt hc2).1) (by decide) (by decide) ?_
    show Steps p.tables e below (s₁.setTop (mkF m 29 #[.val (.ref r0), .val (.double (9218868437227405311 : UInt64)), .second] [])) _
    refine XS.dloadN X0.here hx rfl (hb hby d7_29) rfl ?_
    exact retOut X0 hx (i := .dreturn) Bd.returns rfl (Or.inr (Or.inr (Or.inl ⟨rfl, rfl, _, rfl⟩))) (hb hby d7_30) hr
  · show Q7_3 Z r0 h0 n0 _ s₁.heap _
    rw [e0]
    exact ⟨rfl, N0, rfl⟩
def Q0_3 (Z : State) (y0 : Int64) (x1 : Int32) (x2 : Int32) (x3 : Int32) (x4 : Int32) (h0 : Heap) (n0 : Nat) (v : Option Value) (h : Heap) (L : List Loc) : Prop := v = some (.int (1 : Int32)) ∧ Fr n0 L
set_option maxRecDepth 65536 in
set_option maxHeartbeats 40000000 in
theorem rm0_3 (l : Launch) (Z : State) (a0 : Array Value) (hw : ∀ d ∈ tables_1, d.before a0 Z = true) (ws : List Jvm.Cond) (y0 : Int64) (x1 : Int32) (x2 : Int32) (x3 : Int32) (x4 : Int32) (h0 : Heap) (n0 : Nat) (O0 : Old Z n0 h0) (f12 : Sta Z Z.heap "java/lang/String" "COMPACT_STRINGS" "Z" (.int x4)) (hc13 : ¬ (x4 = (0 : Int32))) (hc14 : ¬ ((255 : Int32) < (nar .char ((x2 &&& (255 : Int32)).toUInt32.toUInt16.toUInt32.toInt32)))) (hc18 : ¬ ((255 : Int32) < (nar .char ((x3 &&& (255 : Int32)).toUInt32.toUInt16.toUInt32.toInt32)))) (hc31 : ¬ ((x1 &&& (3 : Int32)) = (0 : Int32))) (hc32 : ¬ ((x1 &&& (3 : Int32)) = (1 : Int32))) (hc33 : (x1 &&& (3 : Int32)) = (2 : Int32)) (hc34 : ¬ ((cmpValue (FP.dcmp (9218868437227405311 : UInt64) (0 : UInt64)) .l) < (0 : Int32))) (hc35 : (cmpValue (FP.dcmp (9218868437227405311 : UInt64) (9218868437227405312 : UInt64)) .g) < (0 : Int32)) (hc38 : (cmpValue (FP.dcmp (9218868437227405311 : UInt64) (9218868437227405311 : UInt64)) .l) = (0 : Int32)) :
    MetFree l x (head1 (Jvm.Cond.code x code maxLocals ret :: ws) room_1) (fun a U => a = #[(.long y0), (.int x1), (.int x2), (.int x3)] ∧ Z.Warmed39 U.vm ∧ U.heap = h0) (fun _ _ _ _ _ => True) (fun _ U o U' => ∃ v L, o = .returned v ∧ Q0_3 Z y0 x1 x2 x3 x4 h0 n0 v U'.heap L ∧ FrameEnd U o U' L room_1.cells room_1.slots) := by
  refine MetFree.of_bodySF (plainFor_of_name pn_com_example_links_to_ranks_linkstoranks_GraphRequireStartRankPinLaw) hisR ?_
  intro p e s m args below meth c s₁ Bd hml0 hP hK
  obtain ⟨rfl, hZ, hh⟩ := hP
  have hx := Bd.exec
  have hby := Bd.bytes
  have hml : c.maxLocals = 12 := hml0
  have hown : s.vm.findClass cs1 = some m.cls := findClass_of_methodNamed Bd.named
  have hnm := (name_of_methodNamed Bd.named Bd.method).1
  have X0 : Stand p l e room_1 s m #[(.long y0), (.int x1), (.int x2), (.int x3)] below meth c s₁ [] 0 0 := Stand.of_body Bd
  have e0 : s₁.heap = h0 := by rw [← hh, Bd.state]; rfl
  have N0 := Fr.nil n0
  have pre0 : ∀ t, Steps p.tables e below (s₁.setTop (mkF m 0 #[.val (.long y0), .second, .val (.int x1), .val (.int x2), .val (.int x3), .unset, .unset, .unset, .unset, .unset, .unset, .unset] [])) t → Steps p.tables e below (s₁.setTop (entryFrame m #[(.long y0), (.int x1), (.int x2), (.int x3)] maxLocals)) t := fun t k => castTop (by first | (simp [entryFrame, mkF, argsToLocals, Value.category, maxLocals]; done) | rfl) k
  obtain ⟨T1, h1, k1, X1, e1, E1, A1, B1, st1⟩ := newPE X0 hx hZ (ww hw 0 rfl) e0 (g := (mkF m 1 #[.val (.long y0), .second, .val (.int x1), .val (.int x2), .val (.int x3), .unset, .unset, .unset, .unset, .unset, .unset, .unset] [(.int (2 : Int32))])) rfl (hb hby at_1) rfl (by decide) (cap := 2) (by decide) (by decide) (by decide) (by decide) (ad := "[C") rfl
  obtain ⟨b1, g1⟩ : ∃ z, z = h0.size := ⟨_, rfl⟩
  rw [← g1] at A1 B1 st1
  have V1 : Arv Z h1 b1 k1 .char (2 : Int32) [(.int (0 : Int32)), (.int (0 : Int32))] (.int (0 : Int32)) := (Arv.new A1 (by decide)).pad (pad_rep [] (.int (0 : Int32)) 2)
  obtain ⟨clq2, Arq2, qq2, Sq2, Nq2, Hq2, Gq2⟩ := id V1
  have zz3 : n0 ≤ h0.size := by rw [← O0.1]; exact O0.2.1
  have g4 := Nat.le_trans zz3 (Nat.le_of_eq g1.symm)
  obtain ⟨T5, h5, X5, e5, W5, st5⟩ := stC X1 hx hZ e1 Arq2 (j := (0 : Int32)) (inb_of Sq2 ⟨(by decide : ¬ ((0 : Int32) < (0 : Int32))), (by decide : (0 : Int32) < (2 : Int32))⟩) (g := (mkF m 14 #[.val (.long y0), .second, .val (.int x1), .val (.int x2), .val (.int x3), .val (.ref b1), .unset, .unset, .unset, .unset, .unset, .unset] [(.int ((x2 &&& (255 : Int32)).toUInt32.toUInt16.toUInt32.toInt32)), (.int (0 : Int32)), (.ref b1)])) rfl rfl (hb hby at_14)
  have V5 : Arv Z h5 b1 k1 .char (2 : Int32) [(.int (nar .char ((x2 &&& (255 : Int32)).toUInt32.toUInt16.toUInt32.toInt32))), (.int (0 : Int32))] (.int (0 : Int32)) := Arv.set Arq2 qq2 Sq2 Nq2 Hq2 Gq2 (fits_nar_char _) W5 0 rfl (Nat.le_of_ble_eq_true rfl)
  have N5 := Fr.snoc X5 N0 g4
  obtain ⟨clq6, Arq6, qq6, Sq6, Nq6, Hq6, Gq6⟩ := id V5
  obtain ⟨T7, h7, X7, e7, W7, st7⟩ := stC X5 hx hZ e5 Arq6 (j := (1 : Int32)) (inb_of Sq6 ⟨(by decide : ¬ ((1 : Int32) < (0 : Int32))), (by decide : (1 : Int32) < (2 : Int32))⟩) (g := (mkF m 25 #[.val (.long y0), .second, .val (.int x1), .val (.int x2), .val (.int x3), .val (.ref b1), .unset, .unset, .unset, .unset, .unset, .unset] [(.int ((x3 &&& (255 : Int32)).toUInt32.toUInt16.toUInt32.toInt32)), (.int (1 : Int32)), (.ref b1)])) rfl rfl (hb hby at_25)
  have V7 : Arv Z h7 b1 k1 .char (2 : Int32) [(.int (nar .char ((x2 &&& (255 : Int32)).toUInt32.toUInt16.toUInt32.toInt32))), (.int (nar .char ((x3 &&& (255 : Int32)).toUInt32.toUInt16.toUInt32.toInt32)))] (.int (0 : Int32)) := Arv.set Arq6 qq6 Sq6 Nq6 Hq6 Gq6 (fits_nar_char _) W7 1 rfl (Nat.le_of_ble_eq_true rfl)
  have N7 := Fr.snoc X7 N5 g4
  obtain ⟨T8, h8, X8, e8, E8, A8, D8, -, st8⟩ := newO X7 hx hZ hown (ww hw 1 rfl) (ww hw 2 rfl) (ww hw 3 rfl) e7 (g := (mkF m 26 #[.val (.long y0), .second, .val (.int x1), .val (.int x2), .val (.int x3), .val (.ref b1), .unset, .unset, .unset, .unset, .unset, .unset] [])) rfl (hb hby at_26) (by decide) (by decide)
  obtain ⟨b8, g8⟩ : ∃ z, z = h7.size := ⟨_, rfl⟩
  rw [← g8] at A8 D8 st8
  have f9 : Fld Z h8 b8 "java/lang/String" "coder" "B" (.int (0 : Int32)) := D8 (Or.inr (ww hw 27 rfl)) (ty := .byte) (by decide)
  have f10 : Fld Z h8 b8 "java/lang/String" "value" "[B" .null := D8 (Or.inr (ww hw 29 rfl)) (ty := (.array .byte)) (by decide)
  have f11 := (V7.ext E8)
  have zs15 := (Nat.le_of_eq W5.size.symm)
  have zs16 := Nat.le_trans zs15 (Nat.le_of_eq W7.size.symm)
  have zs17 := Nat.le_trans zs16 E8.1
  have o20 := Old.ext O0 E1
  have o21 := Old.wr o20 W5 g4
  have o22 := Old.wr o21 W7 g4
  have zz19 : n0 ≤ h7.size := by rw [← o22.1]; exact o22.2.1
  have g23 := Nat.le_trans zz19 (Nat.le_of_eq g8.symm)
  have o24 := Old.ext o22 E8
  obtain ⟨_, _, ⟨T25, L25, k25, n25⟩, -, X25, ⟨Lc25, hQ25, l25, y25, z25⟩, st25⟩ := X8.specialBack hx (y := (⟨"java/lang/String", "<init>", "([C)V"⟩ : MethodName)) rfl hown (mvT hZ (ww hw 4 rfl)) (mvT hZ (ww hw 5 rfl)) (mvT hZ (ww hw 6 rfl)) (by decide) (backOf (W := 1) (rm1_1 l Z a0 hw [] b8 b1 k1 (nar .char ((x2 &&& (255 : Int32)).toUInt32.toUInt16.toUInt32.toInt32)) (nar .char ((x3 &&& (255 : Int32)).toUInt32.toUInt16.toUInt32.toInt32)) x4 h8 n0 o24 f11 f12 hc13 hc14 (Nat.lt_of_lt_of_le V1.lt zs17) hc18 A8 f9 g23 f10 A8.lt) hZ (ww hw 6 rfl) (ww hw 3 rfl) (by decide) (by decide)) (g := (mkF m 32 #[.val (.long y0), .second, .val (.int x1), .val (.int x2), .val (.int x3), .val (.ref b1), .unset, .unset, .unset, .unset, .unset, .unset] [(.ref b1), (.ref b8), (.ref b8)])) rfl (by rw [hml]; rfl) (Steps.refl _) (a := b8) (argsL := [(.ref b1)]) (rest := [(.ref b8)]) (lenOf pd___C_V rfl) rfl (by show 2 * 0 + _ ≤ _; exact Nat.le_of_eq rfl) (hb hby at_32) (fun _ _ => ⟨rfl, e8, (by decide : 2 + 1 ≤ _), (by decide : 6 + 2 ≤ _)⟩)
  dsimp only [Pt.U, Pt.locs, Pt.cells, Pt.slots] at X25 l25 y25 z25 st25 hQ25
  subst l25 y25 z25
  obtain ⟨b25_0, k25_0, rfl, N25q, K25, f26, f27, f28, f29, f30⟩ := hQ25
  have N25 := Fr.app N7 N25q
  have o36 := Old.keep o24 K25 (allS g23 all0)
  obtain ⟨_, _, ⟨T37, L37, k37, n37⟩, -, X37, ⟨Lc37, hQ37, l37, y37, z37⟩, st37⟩ := Jvm.LawKit.callS X25 hx (y := (⟨cs0, "requireStartRank", "(Ljava/lang/String;D)D"⟩ : MethodName)) hown (mvT hZ (ww hw 31 rfl)) (mvT hZ (ww hw 32 rfl)) (mvT hZ (ww hw 33 rfl)) (mvT hZ (ww hw 34 rfl)) (by decide) (backOf (W := 0) (rm7_3 l Z a0 hw [] b8 T25.heap n0 o36 hc34 hc35) hZ (ww hw 34 rfl) (ww hw 33 rfl) (by decide) (by decide)) (g := (mkF m 103 #[.val (.long y0), .second, .val (.int x1), .val (.int x2), .val (.int x3), .val (.ref b1), .val (.ref b8), .val (.int (x1 &&& (3 : Int32))), .val (.double (9218868437227405311 : UInt64)), .second, .unset, .unset] [(.double (9218868437227405311 : UInt64)), (.ref b8)])) rfl (by rw [hml]; rfl) (argsL := [(.ref b8), (.double (9218868437227405311 : UInt64))]) (rest := []) (lenOf pd__Ljava_lang_String_D_D rfl) rfl (by show 2 * 0 + _ ≤ _; exact Nat.le_of_eq rfl) (hb hby at_103) (fun _ _ => ⟨rfl, rfl, (by decide : 3 + 0 ≤ _), (by decide : 8 + 0 ≤ _)⟩)
  dsimp only [Pt.U, Pt.locs, Pt.cells, Pt.slots] at X37 l37 y37 z37 st37 hQ37
  subst l37 y37 z37
  obtain ⟨rfl, N37q, E37⟩ := hQ37
  have N37 := Fr.app N25 N37q
  obtain ⟨fs, hr, hrun, hended, hW, hsame⟩ := X37.leave (v := some (.int (1 : Int32))) (fun h => by rw [Bd.returns] at h; cases h)
  refine ⟨_, _, pre0 _ ?_, hrun, hended, _, _, rfl, ?_, ⟨_, rfl⟩, hW, hsame.mono (by decide) (by decide)⟩
  · show Steps p.tables e below (s₁.setTop (mkF m 0 #[.val (.long y0), .second, .val (.int x1), .val (.int x2), .val (.int x3), .unset, .unset, .unset, .unset, .unset, .unset, .unset] [])) _
    refine XS.iconst X0.here hx rfl (hb hby at_0) ?_
    refine st1 _ ?_
    show Steps p.tables e below (T1.setTop (mkF m 3 #[.val (.long y0), .second, .val (.int x1), .val (.int x2), .val (.int x3), .unset, .unset, .unset, .unset, .unset, .unset, .unset] [(.ref b1)])) _
    refine XS.astore X1.here hx rfl (hb hby at_3) rfl rfl (l' := #[.val (.long y0), .second, .val (.int x1), .val (.int x2), .val (.int x3), .val (.ref b1), .unset, .unset, .unset, .unset, .unset, .unset]) rfl ?_
    refine XS.aload X1.here hx rfl (hb hby at_5) rfl rfl ?_
    refine XS.iconst X1.here hx rfl (hb hby at_7) ?_
    refine XS.iloadN X1.here hx rfl (hb hby at_8) rfl ?_
    show Steps p.tables e below (T1.setTop (mkF m 9 #[.val (.long y0), .second, .val (.int x1), .val (.int x2), .val (.int x3), .val (.ref b1), .unset, .unset, .unset, .unset, .unset, .unset] [(.int x2), (.int (0 : Int32)), (.ref b1)])) _
    refine XS.sipush X1.here hx rfl (hb hby at_9) ?_
    refine XS.iand X1.here hx rfl (hb hby at_12) rfl ?_
    refine XS.i2c X1.here hx rfl (hb hby at_13) rfl ?_
    refine st5 _ ?_
    show Steps p.tables e below (T5.setTop (mkF m 15 #[.val (.long y0), .second, .val (.int x1), .val (.int x2), .val (.int x3), .val (.ref b1), .unset, .unset, .unset, .unset, .unset, .unset] [])) _
    refine XS.aload X5.here hx rfl (hb hby at_15) rfl rfl ?_
    refine XS.iconst X5.here hx rfl (hb hby at_17) ?_
    refine XS.iload X5.here hx rfl (hb hby at_18) rfl ?_
    refine XS.sipush X5.here hx rfl (hb hby at_20) ?_
    show Steps p.tables e below (T5.setTop (mkF m 23 #[.val (.long y0), .second, .val (.int x1), .val (.int x2), .val (.int x3), .val (.ref b1), .unset, .unset, .unset, .unset, .unset, .unset] [(.int (255 : Int32)), (.int x3), (.int (1 : Int32)), (.ref b1)])) _
    refine XS.iand X5.here hx rfl (hb hby at_23) rfl ?_
    refine XS.i2c X5.here hx rfl (hb hby at_24) rfl ?_
    refine st7 _ ?_
    show Steps p.tables e below (T7.setTop (mkF m 26 #[.val (.long y0), .second, .val (.int x1), .val (.int x2), .val (.int x3), .val (.ref b1), .unset, .unset, .unset, .unset, .unset, .unset] [])) _
    refine st8 _ ?_
    show Steps p.tables e below (T8.setTop (mkF m 29 #[.val (.long y0), .second, .val (.int x1), .val (.int x2), .val (.int x3), .val (.ref b1), .unset, .unset, .unset, .unset, .unset, .unset] [(.ref b8)])) _
    refine XS.dup X8.here hx rfl (hb hby at_29) rfl rfl ?_
    refine XS.aload X8.here hx rfl (hb hby at_30) rfl rfl ?_
    refine st25.trans ?_
    show Steps p.tables e below (T25.setTop (mkF m 35 #[.val (.long y0), .second, .val (.int x1), .val (.int x2), .val (.int x3), .val (.ref b1), .unset, .unset, .unset, .unset, .unset, .unset] [(.ref b8)])) _
    refine XS.astore X25.here hx rfl (hb hby at_35) rfl rfl (l' := #[.val (.long y0), .second, .val (.int x1), .val (.int x2), .val (.int x3), .val (.ref b1), .val (.ref b8), .unset, .unset, .unset, .unset, .unset]) rfl ?_
    refine XS.iloadN X25.here hx rfl (hb hby at_37) rfl ?_
    refine XS.iconst X25.here hx rfl (hb hby at_38) ?_
    refine XS.iand X25.here hx rfl (hb hby at_39) rfl ?_
    show Steps p.tables e below (T25.setTop (mkF m 40 #[.val (.long y0), .second, .val (.int x1), .val (.int x2), .val (.int x3), .val (.ref b1), .val (.ref b8), .unset, .unset, .unset, .unset, .unset] [(.int (x1 &&& (3 : Int32)))])) _
    refine XS.istore X25.here hx rfl (hb hby at_40) rfl (l' := #[.val (.long y0), .second, .val (.int x1), .val (.int x2), .val (.int x3), .val (.ref b1), .val (.ref b8), .val (.int (x1 &&& (3 : Int32))), .unset, .unset, .unset, .unset]) rfl ?_
    refine XS.iload X25.here hx rfl (hb hby at_42) rfl ?_
    refine XS.ifYes X25.here hx rfl (pc0 := 44) (pc' := 53) rfl (hb hby at_44) rfl ((if0 _ _).trans (feq hc31).2) (by decide) (by decide) ?_
    show Steps p.tables e below (T25.setTop (mkF m 53 #[.val (.long y0), .second, .val (.int x1), .val (.int x2), .val (.int x3), .val (.ref b1), .val (.ref b8), .val (.int (x1 &&& (3 : Int32))), .unset, .unset, .unset, .unset] [])) _
    refine XS.iload X25.here hx rfl (hb hby at_53) rfl ?_
    refine XS.iconst X25.here hx rfl (hb hby at_55) ?_
    refine XS.icmpYes X25.here hx rfl (pc0 := 56) (pc' := 67) rfl (hb hby at_56) rfl (feq hc32).2 (by decide) (by decide) ?_
    show Steps p.tables e below (T25.setTop (mkF m 67 #[.val (.long y0), .second, .val (.int x1), .val (.int x2), .val (.int x3), .val (.ref b1), .val (.ref b8), .val (.int (x1 &&& (3 : Int32))), .unset, .unset, .unset, .unset] [])) _
    refine XS.iload X25.here hx rfl (hb hby at_67) rfl ?_
    refine XS.iconst X25.here hx rfl (hb hby at_69) ?_
    refine XS.icmpNo X25.here hx rfl (hb hby at_70) rfl (teq hc33).2 ?_
    refine X25.ldc2DoubleC hx hown (mvT hZ (ww hw 30 rfl)) (g := (mkF m 73 #[.val (.long y0), .second, .val (.int x1), .val (.int x2), .val (.int x3), .val (.ref b1), .val (.ref b8), .val (.int (x1 &&& (3 : Int32))), .unset, .unset, .unset, .unset] [])) rfl (hb hby at_73) _ ?_
    show Steps p.tables e below (T25.setTop (mkF m 76 #[.val (.long y0), .second, .val (.int x1), .val (.int x2), .val (.int x3), .val (.ref b1), .val (.ref b8), .val (.int (x1 &&& (3 : Int32))), .unset, .unset, .unset, .unset] [(.double (9218868437227405311 : UInt64))])) _
    refine XS.dstore X25.here hx rfl (hb hby at_76) rfl (l' := #[.val (.long y0), .second, .val (.int x1), .val (.int x2), .val (.int x3), .val (.ref b1), .val (.ref b8), .val (.int (x1 &&& (3 : Int32))), .val (.double (9218868437227405311 : UInt64)), .second, .unset, .unset]) rfl ?_
    refine XS.goto X25.here hx rfl (pc0 := 78) (pc' := 99) rfl (hb hby at_78) (by decide) (by decide) ?_
    show Steps p.tables e below (T25.setTop (mkF m 99 #[.val (.long y0), .second, .val (.int x1), .val (.int x2), .val (.int x3), .val (.ref b1), .val (.ref b8), .val (.int (x1 &&& (3 : Int32))), .val (.double (9218868437227405311 : UInt64)), .second, .unset, .unset] [])) _
    refine XS.aload X25.here hx rfl (hb hby at_99) rfl rfl ?_
    refine XS.dload X25.here hx rfl (hb hby at_101) rfl ?_
    refine st37 _ ?_
    show Steps p.tables e below (T37.setTop (mkF m 106 #[.val (.long y0), .second, .val (.int x1), .val (.int x2), .val (.int x3), .val (.ref b1), .val (.ref b8), .val (.int (x1 &&& (3 : Int32))), .val (.double (9218868437227405311 : UInt64)), .second, .unset, .unset] [(.double (9218868437227405311 : UInt64))])) _
    refine XS.dstore X37.here hx rfl (hb hby at_106) rfl (l' := #[.val (.long y0), .second, .val (.int x1), .val (.int x2), .val (.int x3), .val (.ref b1), .val (.ref b8), .val (.int (x1 &&& (3 : Int32))), .val (.double (9218868437227405311 : UInt64)), .second, .val (.double (9218868437227405311 : UInt64)), .second]) rfl ?_
    refine XS.dload X37.here hx rfl (hb hby at_108) rfl ?_
    refine XS.dload X37.here hx rfl (hb hby at_110) rfl ?_
    refine XS.dcmpS X37.here hx rfl (hb hby at_112) rfl rfl ?_
    show Steps p.tables e below (T37.setTop (mkF m 113 #[.val (.long y0), .second, .val (.int x1), .val (.int x2), .val (.int x3), .val (.ref b1), .val (.ref b8), .val (.int (x1 &&& (3 : Int32))), .val (.double (9218868437227405311 : UInt64)), .second, .val (.double (9218868437227405311 : UInt64)), .second] [(.int (cmpValue (FP.dcmp (9218868437227405311 : UInt64) (9218868437227405311 : UInt64)) .l))])) _
    refine XS.ifNo X37.here hx rfl (hb hby at_113) rfl ((if0 _ _).trans (teq hc38).2) ?_
    refine XS.iconst X37.here hx rfl (hb hby at_116) ?_
    refine XS.goto X37.here hx rfl (pc0 := 117) (pc' := 121) rfl (hb hby at_117) (by decide) (by decide) ?_
    show Steps p.tables e below (T37.setTop (mkF m 121 #[.val (.long y0), .second, .val (.int x1), .val (.int x2), .val (.int x3), .val (.ref b1), .val (.ref b8), .val (.int (x1 &&& (3 : Int32))), .val (.double (9218868437227405311 : UInt64)), .second, .val (.double (9218868437227405311 : UInt64)), .second] [(.int (1 : Int32))])) _
    exact retN X37 hx (t := .boolean) Bd.returns (by simp) (hb hby at_121) hr
  · show Q0_3 Z y0 x1 x2 x3 x4 h0 n0 _ T37.heap _
    rw [E37]
    exact ⟨rfl, N37⟩
def Q7_4 (Z : State) (r0 : Addr) (z1 : UInt64) (h0 : Heap) (n0 : Nat) (v : Option Value) (h : Heap) (L : List Loc) : Prop := v = some (.double z1) ∧ Fr n0 L ∧ h = h0
set_option maxRecDepth 65536 in
set_option maxHeartbeats 40000000 in
theorem rm7_4 (l : Launch) (Z : State) (a0 : Array Value) (hw : ∀ d ∈ tables_1, d.before a0 Z = true) (ws : List Jvm.Cond) (r0 : Addr) (z1 : UInt64) (h0 : Heap) (n0 : Nat) (O0 : Old Z n0 h0) (hc1 : ¬ ((cmpValue (FP.dcmp z1 (0 : UInt64)) .l) < (0 : Int32))) (hc2 : (cmpValue (FP.dcmp z1 (9218868437227405312 : UInt64)) .g) < (0 : Int32)) :
    MetFree l (⟨cs0, "requireStartRank", "(Ljava/lang/String;D)D"⟩ : MethodName) (head1 (Jvm.Cond.code (⟨cs0, "requireStartRank", "(Ljava/lang/String;D)D"⟩ : MethodName) prog_4_method_11_code 3 (some .double) :: ws) ({ frames := 0, cells := 0, slots := 0, locals := 0 } : Room)) (fun a U => a = #[(.ref r0), (.double z1)] ∧ Z.Warmed39 U.vm ∧ U.heap = h0) (fun _ _ _ _ _ => True) (fun _ U o U' => ∃ v L, o = .returned v ∧ Q7_4 Z r0 z1 h0 n0 v U'.heap L ∧ FrameEnd U o U' L ({ frames := 0, cells := 0, slots := 0, locals := 0 } : Room).cells ({ frames := 0, cells := 0, slots := 0, locals := 0 } : Room).slots) := by
  refine MetFree.of_bodySF (plainFor_of_name pn_com_example_links_to_ranks_linkstoranks_Graph) hisR ?_
  intro p e s m args below meth c s₁ Bd hml0 hP hK
  obtain ⟨rfl, hZ, hh⟩ := hP
  have hx := Bd.exec
  have hby := Bd.bytes
  have hml : c.maxLocals = 3 := hml0
  have hown : s.vm.findClass cs0 = some m.cls := findClass_of_methodNamed Bd.named
  have hnm := (name_of_methodNamed Bd.named Bd.method).1
  have X0 : Stand p l e ({ frames := 0, cells := 0, slots := 0, locals := 0 } : Room) s m #[(.ref r0), (.double z1)] below meth c s₁ [] 0 0 := Stand.of_body Bd
  have e0 : s₁.heap = h0 := by rw [← hh, Bd.state]; rfl
  have N0 := Fr.nil n0
  have pre0 : ∀ t, Steps p.tables e below (s₁.setTop (mkF m 0 #[.val (.ref r0), .val (.double z1), .second] [])) t → Steps p.tables e below (s₁.setTop (entryFrame m #[(.ref r0), (.double z1)] 3)) t := fun t k => castTop (by first | (simp [entryFrame, mkF, argsToLocals, Value.category]; done) | rfl) k
  obtain ⟨fs, hr, hrun, hended, hW, hsame⟩ := X0.leave (v := some (.double z1)) (fun h => by rw [Bd.returns] at h; cases h)
  refine ⟨_, _, pre0 _ ?_, hrun, hended, _, _, rfl, ?_, ⟨_, rfl⟩, hW, hsame.mono (by decide) (by decide)⟩
  · show Steps p.tables e below (s₁.setTop (mkF m 0 #[.val (.ref r0), .val (.double z1), .second] [])) _
    refine XS.dloadN X0.here hx rfl (hb hby d7_0) rfl ?_
    refine XS.dconst0 X0.here hx rfl (hb hby d7_1) (v := (0 : UInt64)) (by decide) ?_
    refine XS.dcmpS X0.here hx rfl (hb hby d7_2) rfl rfl ?_
    refine XS.ifNo X0.here hx rfl (hb hby d7_3) rfl ((if0 _ _).trans (flt hc1).1) ?_
    show Steps p.tables e below (s₁.setTop (mkF m 6 #[.val (.ref r0), .val (.double z1), .second] [])) _
    refine XS.dloadN X0.here hx rfl (hb hby d7_6) rfl ?_
    refine X0.ldc2DoubleC hx hown (mvT hZ (ww hw 35 rfl)) (g := (mkF m 7 #[.val (.ref r0), .val (.double z1), .second] [(.double z1)])) rfl (hb hby d7_7) _ ?_
    show Steps p.tables e below (s₁.setTop (mkF m 10 #[.val (.ref r0), .val (.double z1), .second] [(.double (9218868437227405312 : UInt64)), (.double z1)])) _
    refine XS.dcmpS X0.here hx rfl (hb hby d7_10) rfl rfl ?_
    refine XS.ifYes X0.here hx rfl (pc0 := 11) (pc' := 29) rfl (hb hby d7_11) rfl ((if0 _ _).trans (tlt hc2).1) (by decide) (by decide) ?_
    show Steps p.tables e below (s₁.setTop (mkF m 29 #[.val (.ref r0), .val (.double z1), .second] [])) _
    refine XS.dloadN X0.here hx rfl (hb hby d7_29) rfl ?_
    exact retOut X0 hx (i := .dreturn) Bd.returns rfl (Or.inr (Or.inr (Or.inl ⟨rfl, rfl, _, rfl⟩))) (hb hby d7_30) hr
  · show Q7_4 Z r0 z1 h0 n0 _ s₁.heap _
    rw [e0]
    exact ⟨rfl, N0, rfl⟩
def Q0_4 (Z : State) (y0 : Int64) (x1 : Int32) (x2 : Int32) (x3 : Int32) (x4 : Int32) (h0 : Heap) (n0 : Nat) (v : Option Value) (h : Heap) (L : List Loc) : Prop := v = some (.int (1 : Int32)) ∧ Fr n0 L
set_option maxRecDepth 65536 in
set_option maxHeartbeats 40000000 in
theorem rm0_4 (l : Launch) (Z : State) (a0 : Array Value) (hw : ∀ d ∈ tables_1, d.before a0 Z = true) (ws : List Jvm.Cond) (y0 : Int64) (x1 : Int32) (x2 : Int32) (x3 : Int32) (x4 : Int32) (h0 : Heap) (n0 : Nat) (O0 : Old Z n0 h0) (f12 : Sta Z Z.heap "java/lang/String" "COMPACT_STRINGS" "Z" (.int x4)) (hc13 : ¬ (x4 = (0 : Int32))) (hc14 : ¬ ((255 : Int32) < (nar .char ((x2 &&& (255 : Int32)).toUInt32.toUInt16.toUInt32.toInt32)))) (hc18 : ¬ ((255 : Int32) < (nar .char ((x3 &&& (255 : Int32)).toUInt32.toUInt16.toUInt32.toInt32)))) (hc31 : ¬ ((x1 &&& (3 : Int32)) = (0 : Int32))) (hc32 : ¬ ((x1 &&& (3 : Int32)) = (1 : Int32))) (hc33 : ¬ ((x1 &&& (3 : Int32)) = (2 : Int32))) (hc34 : Jvm.Free.Fl.NoNaN64 (FP.ddiv (FP.l2d (y0 &&& (9223372036854775807 : Int64))) (FP.i2d ((((x1.toUInt32 >>> ((2 : Int32) &&& 31).toUInt32).toInt32) &&& (65535 : Int32)) + (1 : Int32))))) (hc35 : ¬ ((cmpValue (FP.dcmp (FP.ddiv (FP.l2d (y0 &&& (9223372036854775807 : Int64))) (FP.i2d ((((x1.toUInt32 >>> ((2 : Int32) &&& 31).toUInt32).toInt32) &&& (65535 : Int32)) + (1 : Int32)))) (0 : UInt64)) .l) < (0 : Int32))) (hc36 : (cmpValue (FP.dcmp (FP.ddiv (FP.l2d (y0 &&& (9223372036854775807 : Int64))) (FP.i2d ((((x1.toUInt32 >>> ((2 : Int32) &&& 31).toUInt32).toInt32) &&& (65535 : Int32)) + (1 : Int32)))) (9218868437227405312 : UInt64)) .g) < (0 : Int32)) (hc39 : (cmpValue (FP.dcmp (FP.ddiv (FP.l2d (y0 &&& (9223372036854775807 : Int64))) (FP.i2d ((((x1.toUInt32 >>> ((2 : Int32) &&& 31).toUInt32).toInt32) &&& (65535 : Int32)) + (1 : Int32)))) (FP.ddiv (FP.l2d (y0 &&& (9223372036854775807 : Int64))) (FP.i2d ((((x1.toUInt32 >>> ((2 : Int32) &&& 31).toUInt32).toInt32) &&& (65535 : Int32)) + (1 : Int32))))) .l) = (0 : Int32)) :
    MetFree l x (head1 (Jvm.Cond.code x code maxLocals ret :: ws) room_1) (fun a U => a = #[(.long y0), (.int x1), (.int x2), (.int x3)] ∧ Z.Warmed39 U.vm ∧ U.heap = h0) (fun _ _ _ _ _ => True) (fun _ U o U' => ∃ v L, o = .returned v ∧ Q0_4 Z y0 x1 x2 x3 x4 h0 n0 v U'.heap L ∧ FrameEnd U o U' L room_1.cells room_1.slots) := by
  refine MetFree.of_bodySF (plainFor_of_name pn_com_example_links_to_ranks_linkstoranks_GraphRequireStartRankPinLaw) hisR ?_
  intro p e s m args below meth c s₁ Bd hml0 hP hK
  obtain ⟨rfl, hZ, hh⟩ := hP
  have hx := Bd.exec
  have hby := Bd.bytes
  have hml : c.maxLocals = 12 := hml0
  have hown : s.vm.findClass cs1 = some m.cls := findClass_of_methodNamed Bd.named
  have hnm := (name_of_methodNamed Bd.named Bd.method).1
  have X0 : Stand p l e room_1 s m #[(.long y0), (.int x1), (.int x2), (.int x3)] below meth c s₁ [] 0 0 := Stand.of_body Bd
  have e0 : s₁.heap = h0 := by rw [← hh, Bd.state]; rfl
  have N0 := Fr.nil n0
  have pre0 : ∀ t, Steps p.tables e below (s₁.setTop (mkF m 0 #[.val (.long y0), .second, .val (.int x1), .val (.int x2), .val (.int x3), .unset, .unset, .unset, .unset, .unset, .unset, .unset] [])) t → Steps p.tables e below (s₁.setTop (entryFrame m #[(.long y0), (.int x1), (.int x2), (.int x3)] maxLocals)) t := fun t k => castTop (by first | (simp [entryFrame, mkF, argsToLocals, Value.category, maxLocals]; done) | rfl) k
  obtain ⟨T1, h1, k1, X1, e1, E1, A1, B1, st1⟩ := newPE X0 hx hZ (ww hw 0 rfl) e0 (g := (mkF m 1 #[.val (.long y0), .second, .val (.int x1), .val (.int x2), .val (.int x3), .unset, .unset, .unset, .unset, .unset, .unset, .unset] [(.int (2 : Int32))])) rfl (hb hby at_1) rfl (by decide) (cap := 2) (by decide) (by decide) (by decide) (by decide) (ad := "[C") rfl
  obtain ⟨b1, g1⟩ : ∃ z, z = h0.size := ⟨_, rfl⟩
  rw [← g1] at A1 B1 st1
  have V1 : Arv Z h1 b1 k1 .char (2 : Int32) [(.int (0 : Int32)), (.int (0 : Int32))] (.int (0 : Int32)) := (Arv.new A1 (by decide)).pad (pad_rep [] (.int (0 : Int32)) 2)
  obtain ⟨clq2, Arq2, qq2, Sq2, Nq2, Hq2, Gq2⟩ := id V1
  have zz3 : n0 ≤ h0.size := by rw [← O0.1]; exact O0.2.1
  have g4 := Nat.le_trans zz3 (Nat.le_of_eq g1.symm)
  obtain ⟨T5, h5, X5, e5, W5, st5⟩ := stC X1 hx hZ e1 Arq2 (j := (0 : Int32)) (inb_of Sq2 ⟨(by decide : ¬ ((0 : Int32) < (0 : Int32))), (by decide : (0 : Int32) < (2 : Int32))⟩) (g := (mkF m 14 #[.val (.long y0), .second, .val (.int x1), .val (.int x2), .val (.int x3), .val (.ref b1), .unset, .unset, .unset, .unset, .unset, .unset] [(.int ((x2 &&& (255 : Int32)).toUInt32.toUInt16.toUInt32.toInt32)), (.int (0 : Int32)), (.ref b1)])) rfl rfl (hb hby at_14)
  have V5 : Arv Z h5 b1 k1 .char (2 : Int32) [(.int (nar .char ((x2 &&& (255 : Int32)).toUInt32.toUInt16.toUInt32.toInt32))), (.int (0 : Int32))] (.int (0 : Int32)) := Arv.set Arq2 qq2 Sq2 Nq2 Hq2 Gq2 (fits_nar_char _) W5 0 rfl (Nat.le_of_ble_eq_true rfl)
  have N5 := Fr.snoc X5 N0 g4
  obtain ⟨clq6, Arq6, qq6, Sq6, Nq6, Hq6, Gq6⟩ := id V5
  obtain ⟨T7, h7, X7, e7, W7, st7⟩ := stC X5 hx hZ e5 Arq6 (j := (1 : Int32)) (inb_of Sq6 ⟨(by decide : ¬ ((1 : Int32) < (0 : Int32))), (by decide : (1 : Int32) < (2 : Int32))⟩) (g := (mkF m 25 #[.val (.long y0), .second, .val (.int x1), .val (.int x2), .val (.int x3), .val (.ref b1), .unset, .unset, .unset, .unset, .unset, .unset] [(.int ((x3 &&& (255 : Int32)).toUInt32.toUInt16.toUInt32.toInt32)), (.int (1 : Int32)), (.ref b1)])) rfl rfl (hb hby at_25)
  have V7 : Arv Z h7 b1 k1 .char (2 : Int32) [(.int (nar .char ((x2 &&& (255 : Int32)).toUInt32.toUInt16.toUInt32.toInt32))), (.int (nar .char ((x3 &&& (255 : Int32)).toUInt32.toUInt16.toUInt32.toInt32)))] (.int (0 : Int32)) := Arv.set Arq6 qq6 Sq6 Nq6 Hq6 Gq6 (fits_nar_char _) W7 1 rfl (Nat.le_of_ble_eq_true rfl)
  have N7 := Fr.snoc X7 N5 g4
  obtain ⟨T8, h8, X8, e8, E8, A8, D8, -, st8⟩ := newO X7 hx hZ hown (ww hw 1 rfl) (ww hw 2 rfl) (ww hw 3 rfl) e7 (g := (mkF m 26 #[.val (.long y0), .second, .val (.int x1), .val (.int x2), .val (.int x3), .val (.ref b1), .unset, .unset, .unset, .unset, .unset, .unset] [])) rfl (hb hby at_26) (by decide) (by decide)
  obtain ⟨b8, g8⟩ : ∃ z, z = h7.size := ⟨_, rfl⟩
  rw [← g8] at A8 D8 st8
  have f9 : Fld Z h8 b8 "java/lang/String" "coder" "B" (.int (0 : Int32)) := D8 (Or.inr (ww hw 27 rfl)) (ty := .byte) (by decide)
  have f10 : Fld Z h8 b8 "java/lang/String" "value" "[B" .null := D8 (Or.inr (ww hw 29 rfl)) (ty := (.array .byte)) (by decide)
  have f11 := (V7.ext E8)
  have zs15 := (Nat.le_of_eq W5.size.symm)
  have zs16 := Nat.le_trans zs15 (Nat.le_of_eq W7.size.symm)
  have zs17 := Nat.le_trans zs16 E8.1
  have o20 := Old.ext O0 E1
  have o21 := Old.wr o20 W5 g4
  have o22 := Old.wr o21 W7 g4
  have zz19 : n0 ≤ h7.size := by rw [← o22.1]; exact o22.2.1
  have g23 := Nat.le_trans zz19 (Nat.le_of_eq g8.symm)
  have o24 := Old.ext o22 E8
  obtain ⟨_, _, ⟨T25, L25, k25, n25⟩, -, X25, ⟨Lc25, hQ25, l25, y25, z25⟩, st25⟩ := X8.specialBack hx (y := (⟨"java/lang/String", "<init>", "([C)V"⟩ : MethodName)) rfl hown (mvT hZ (ww hw 4 rfl)) (mvT hZ (ww hw 5 rfl)) (mvT hZ (ww hw 6 rfl)) (by decide) (backOf (W := 1) (rm1_1 l Z a0 hw [] b8 b1 k1 (nar .char ((x2 &&& (255 : Int32)).toUInt32.toUInt16.toUInt32.toInt32)) (nar .char ((x3 &&& (255 : Int32)).toUInt32.toUInt16.toUInt32.toInt32)) x4 h8 n0 o24 f11 f12 hc13 hc14 (Nat.lt_of_lt_of_le V1.lt zs17) hc18 A8 f9 g23 f10 A8.lt) hZ (ww hw 6 rfl) (ww hw 3 rfl) (by decide) (by decide)) (g := (mkF m 32 #[.val (.long y0), .second, .val (.int x1), .val (.int x2), .val (.int x3), .val (.ref b1), .unset, .unset, .unset, .unset, .unset, .unset] [(.ref b1), (.ref b8), (.ref b8)])) rfl (by rw [hml]; rfl) (Steps.refl _) (a := b8) (argsL := [(.ref b1)]) (rest := [(.ref b8)]) (lenOf pd___C_V rfl) rfl (by show 2 * 0 + _ ≤ _; exact Nat.le_of_eq rfl) (hb hby at_32) (fun _ _ => ⟨rfl, e8, (by decide : 2 + 1 ≤ _), (by decide : 6 + 2 ≤ _)⟩)
  dsimp only [Pt.U, Pt.locs, Pt.cells, Pt.slots] at X25 l25 y25 z25 st25 hQ25
  subst l25 y25 z25
  obtain ⟨b25_0, k25_0, rfl, N25q, K25, f26, f27, f28, f29, f30⟩ := hQ25
  have N25 := Fr.app N7 N25q
  have o37 := Old.keep o24 K25 (allS g23 all0)
  obtain ⟨_, _, ⟨T38, L38, k38, n38⟩, -, X38, ⟨Lc38, hQ38, l38, y38, z38⟩, st38⟩ := Jvm.LawKit.callS X25 hx (y := (⟨cs0, "requireStartRank", "(Ljava/lang/String;D)D"⟩ : MethodName)) hown (mvT hZ (ww hw 31 rfl)) (mvT hZ (ww hw 32 rfl)) (mvT hZ (ww hw 33 rfl)) (mvT hZ (ww hw 34 rfl)) (by decide) (backOf (W := 0) (rm7_4 l Z a0 hw [] b8 (FP.ddiv (FP.l2d (y0 &&& (9223372036854775807 : Int64))) (FP.i2d ((((x1.toUInt32 >>> ((2 : Int32) &&& 31).toUInt32).toInt32) &&& (65535 : Int32)) + (1 : Int32)))) T25.heap n0 o37 hc35 hc36) hZ (ww hw 34 rfl) (ww hw 33 rfl) (by decide) (by decide)) (g := (mkF m 103 #[.val (.long y0), .second, .val (.int x1), .val (.int x2), .val (.int x3), .val (.ref b1), .val (.ref b8), .val (.int (x1 &&& (3 : Int32))), .val (.double (FP.ddiv (FP.l2d (y0 &&& (9223372036854775807 : Int64))) (FP.i2d ((((x1.toUInt32 >>> ((2 : Int32) &&& 31).toUInt32).toInt32) &&& (65535 : Int32)) + (1 : Int32))))), .second, .unset, .unset] [(.double (FP.ddiv (FP.l2d (y0 &&& (9223372036854775807 : Int64))) (FP.i2d ((((x1.toUInt32 >>> ((2 : Int32) &&& 31).toUInt32).toInt32) &&& (65535 : Int32)) + (1 : Int32))))), (.ref b8)])) rfl (by rw [hml]; rfl) (argsL := [(.ref b8), (.double (FP.ddiv (FP.l2d (y0 &&& (9223372036854775807 : Int64))) (FP.i2d ((((x1.toUInt32 >>> ((2 : Int32) &&& 31).toUInt32).toInt32) &&& (65535 : Int32)) + (1 : Int32)))))]) (rest := []) (lenOf pd__Ljava_lang_String_D_D rfl) rfl (by show 2 * 0 + _ ≤ _; exact Nat.le_of_eq rfl) (hb hby at_103) (fun _ _ => ⟨rfl, rfl, (by decide : 3 + 0 ≤ _), (by decide : 8 + 0 ≤ _)⟩)
  dsimp only [Pt.U, Pt.locs, Pt.cells, Pt.slots] at X38 l38 y38 z38 st38 hQ38
  subst l38 y38 z38
  obtain ⟨rfl, N38q, E38⟩ := hQ38
  have N38 := Fr.app N25 N38q
  obtain ⟨fs, hr, hrun, hended, hW, hsame⟩ := X38.leave (v := some (.int (1 : Int32))) (fun h => by rw [Bd.returns] at h; cases h)
  refine ⟨_, _, pre0 _ ?_, hrun, hended, _, _, rfl, ?_, ⟨_, rfl⟩, hW, hsame.mono (by decide) (by decide)⟩
  · show Steps p.tables e below (s₁.setTop (mkF m 0 #[.val (.long y0), .second, .val (.int x1), .val (.int x2), .val (.int x3), .unset, .unset, .unset, .unset, .unset, .unset, .unset] [])) _
    refine XS.iconst X0.here hx rfl (hb hby at_0) ?_
    refine st1 _ ?_
    show Steps p.tables e below (T1.setTop (mkF m 3 #[.val (.long y0), .second, .val (.int x1), .val (.int x2), .val (.int x3), .unset, .unset, .unset, .unset, .unset, .unset, .unset] [(.ref b1)])) _
    refine XS.astore X1.here hx rfl (hb hby at_3) rfl rfl (l' := #[.val (.long y0), .second, .val (.int x1), .val (.int x2), .val (.int x3), .val (.ref b1), .unset, .unset, .unset, .unset, .unset, .unset]) rfl ?_
    refine XS.aload X1.here hx rfl (hb hby at_5) rfl rfl ?_
    refine XS.iconst X1.here hx rfl (hb hby at_7) ?_
    refine XS.iloadN X1.here hx rfl (hb hby at_8) rfl ?_
    show Steps p.tables e below (T1.setTop (mkF m 9 #[.val (.long y0), .second, .val (.int x1), .val (.int x2), .val (.int x3), .val (.ref b1), .unset, .unset, .unset, .unset, .unset, .unset] [(.int x2), (.int (0 : Int32)), (.ref b1)])) _
    refine XS.sipush X1.here hx rfl (hb hby at_9) ?_
    refine XS.iand X1.here hx rfl (hb hby at_12) rfl ?_
    refine XS.i2c X1.here hx rfl (hb hby at_13) rfl ?_
    refine st5 _ ?_
    show Steps p.tables e below (T5.setTop (mkF m 15 #[.val (.long y0), .second, .val (.int x1), .val (.int x2), .val (.int x3), .val (.ref b1), .unset, .unset, .unset, .unset, .unset, .unset] [])) _
    refine XS.aload X5.here hx rfl (hb hby at_15) rfl rfl ?_
    refine XS.iconst X5.here hx rfl (hb hby at_17) ?_
    refine XS.iload X5.here hx rfl (hb hby at_18) rfl ?_
    refine XS.sipush X5.here hx rfl (hb hby at_20) ?_
    show Steps p.tables e below (T5.setTop (mkF m 23 #[.val (.long y0), .second, .val (.int x1), .val (.int x2), .val (.int x3), .val (.ref b1), .unset, .unset, .unset, .unset, .unset, .unset] [(.int (255 : Int32)), (.int x3), (.int (1 : Int32)), (.ref b1)])) _
    refine XS.iand X5.here hx rfl (hb hby at_23) rfl ?_
    refine XS.i2c X5.here hx rfl (hb hby at_24) rfl ?_
    refine st7 _ ?_
    show Steps p.tables e below (T7.setTop (mkF m 26 #[.val (.long y0), .second, .val (.int x1), .val (.int x2), .val (.int x3), .val (.ref b1), .unset, .unset, .unset, .unset, .unset, .unset] [])) _
    refine st8 _ ?_
    show Steps p.tables e below (T8.setTop (mkF m 29 #[.val (.long y0), .second, .val (.int x1), .val (.int x2), .val (.int x3), .val (.ref b1), .unset, .unset, .unset, .unset, .unset, .unset] [(.ref b8)])) _
    refine XS.dup X8.here hx rfl (hb hby at_29) rfl rfl ?_
    refine XS.aload X8.here hx rfl (hb hby at_30) rfl rfl ?_
    refine st25.trans ?_
    show Steps p.tables e below (T25.setTop (mkF m 35 #[.val (.long y0), .second, .val (.int x1), .val (.int x2), .val (.int x3), .val (.ref b1), .unset, .unset, .unset, .unset, .unset, .unset] [(.ref b8)])) _
    refine XS.astore X25.here hx rfl (hb hby at_35) rfl rfl (l' := #[.val (.long y0), .second, .val (.int x1), .val (.int x2), .val (.int x3), .val (.ref b1), .val (.ref b8), .unset, .unset, .unset, .unset, .unset]) rfl ?_
    refine XS.iloadN X25.here hx rfl (hb hby at_37) rfl ?_
    refine XS.iconst X25.here hx rfl (hb hby at_38) ?_
    refine XS.iand X25.here hx rfl (hb hby at_39) rfl ?_
    show Steps p.tables e below (T25.setTop (mkF m 40 #[.val (.long y0), .second, .val (.int x1), .val (.int x2), .val (.int x3), .val (.ref b1), .val (.ref b8), .unset, .unset, .unset, .unset, .unset] [(.int (x1 &&& (3 : Int32)))])) _
    refine XS.istore X25.here hx rfl (hb hby at_40) rfl (l' := #[.val (.long y0), .second, .val (.int x1), .val (.int x2), .val (.int x3), .val (.ref b1), .val (.ref b8), .val (.int (x1 &&& (3 : Int32))), .unset, .unset, .unset, .unset]) rfl ?_
    refine XS.iload X25.here hx rfl (hb hby at_42) rfl ?_
    refine XS.ifYes X25.here hx rfl (pc0 := 44) (pc' := 53) rfl (hb hby at_44) rfl ((if0 _ _).trans (feq hc31).2) (by decide) (by decide) ?_
    show Steps p.tables e below (T25.setTop (mkF m 53 #[.val (.long y0), .second, .val (.int x1), .val (.int x2), .val (.int x3), .val (.ref b1), .val (.ref b8), .val (.int (x1 &&& (3 : Int32))), .unset, .unset, .unset, .unset] [])) _
    refine XS.iload X25.here hx rfl (hb hby at_53) rfl ?_
    refine XS.iconst X25.here hx rfl (hb hby at_55) ?_
    refine XS.icmpYes X25.here hx rfl (pc0 := 56) (pc' := 67) rfl (hb hby at_56) rfl (feq hc32).2 (by decide) (by decide) ?_
    show Steps p.tables e below (T25.setTop (mkF m 67 #[.val (.long y0), .second, .val (.int x1), .val (.int x2), .val (.int x3), .val (.ref b1), .val (.ref b8), .val (.int (x1 &&& (3 : Int32))), .unset, .unset, .unset, .unset] [])) _
    refine XS.iload X25.here hx rfl (hb hby at_67) rfl ?_
    refine XS.iconst X25.here hx rfl (hb hby at_69) ?_
    refine XS.icmpYes X25.here hx rfl (pc0 := 70) (pc' := 81) rfl (hb hby at_70) rfl (feq hc33).2 (by decide) (by decide) ?_
    show Steps p.tables e below (T25.setTop (mkF m 81 #[.val (.long y0), .second, .val (.int x1), .val (.int x2), .val (.int x3), .val (.ref b1), .val (.ref b8), .val (.int (x1 &&& (3 : Int32))), .unset, .unset, .unset, .unset] [])) _
    refine XS.lloadN X25.here hx rfl (hb hby at_81) rfl ?_
    refine X25.ldc2Long hx hown (mvT hZ (ww hw 36 rfl)) (g := (mkF m 82 #[.val (.long y0), .second, .val (.int x1), .val (.int x2), .val (.int x3), .val (.ref b1), .val (.ref b8), .val (.int (x1 &&& (3 : Int32))), .unset, .unset, .unset, .unset] [(.long y0)])) rfl (hb hby at_82) _ ?_
    show Steps p.tables e below (T25.setTop (mkF m 85 #[.val (.long y0), .second, .val (.int x1), .val (.int x2), .val (.int x3), .val (.ref b1), .val (.ref b8), .val (.int (x1 &&& (3 : Int32))), .unset, .unset, .unset, .unset] [(.long (9223372036854775807 : Int64)), (.long y0)])) _
    refine XS.land X25.here hx rfl (hb hby at_85) rfl ?_
    refine XS.l2dS X25.here hx rfl (hb hby at_86) rfl rfl ?_
    refine XS.iloadN X25.here hx rfl (hb hby at_87) rfl ?_
    refine XS.iconst X25.here hx rfl (hb hby at_88) ?_
    show Steps p.tables e below (T25.setTop (mkF m 89 #[.val (.long y0), .second, .val (.int x1), .val (.int x2), .val (.int x3), .val (.ref b1), .val (.ref b8), .val (.int (x1 &&& (3 : Int32))), .unset, .unset, .unset, .unset] [(.int (2 : Int32)), (.int x1), (.double (FP.l2d (y0 &&& (9223372036854775807 : Int64))))])) _
    refine XS.iushr X25.here hx rfl (hb hby at_89) rfl ?_
    refine X25.ldcInt hx hown (mvT hZ (ww hw 37 rfl)) (g := (mkF m 90 #[.val (.long y0), .second, .val (.int x1), .val (.int x2), .val (.int x3), .val (.ref b1), .val (.ref b8), .val (.int (x1 &&& (3 : Int32))), .unset, .unset, .unset, .unset] [(.int ((x1.toUInt32 >>> ((2 : Int32) &&& 31).toUInt32).toInt32)), (.double (FP.l2d (y0 &&& (9223372036854775807 : Int64))))])) rfl (hb hby at_90) _ ?_
    show Steps p.tables e below (T25.setTop (mkF m 92 #[.val (.long y0), .second, .val (.int x1), .val (.int x2), .val (.int x3), .val (.ref b1), .val (.ref b8), .val (.int (x1 &&& (3 : Int32))), .unset, .unset, .unset, .unset] [(.int (65535 : Int32)), (.int ((x1.toUInt32 >>> ((2 : Int32) &&& 31).toUInt32).toInt32)), (.double (FP.l2d (y0 &&& (9223372036854775807 : Int64))))])) _
    refine XS.iand X25.here hx rfl (hb hby at_92) rfl ?_
    refine XS.iconst X25.here hx rfl (hb hby at_93) ?_
    refine XS.iadd X25.here hx rfl (hb hby at_94) rfl ?_
    refine XS.i2dS X25.here hx rfl (hb hby at_95) rfl rfl ?_
    show Steps p.tables e below (T25.setTop (mkF m 96 #[.val (.long y0), .second, .val (.int x1), .val (.int x2), .val (.int x3), .val (.ref b1), .val (.ref b8), .val (.int (x1 &&& (3 : Int32))), .unset, .unset, .unset, .unset] [(.double (FP.i2d ((((x1.toUInt32 >>> ((2 : Int32) &&& 31).toUInt32).toInt32) &&& (65535 : Int32)) + (1 : Int32)))), (.double (FP.l2d (y0 &&& (9223372036854775807 : Int64))))])) _
    refine XS.ddivS X25.here hx rfl (hb hby at_96) rfl hc34 rfl ?_
    refine XS.dstore X25.here hx rfl (hb hby at_97) rfl (l' := #[.val (.long y0), .second, .val (.int x1), .val (.int x2), .val (.int x3), .val (.ref b1), .val (.ref b8), .val (.int (x1 &&& (3 : Int32))), .val (.double (FP.ddiv (FP.l2d (y0 &&& (9223372036854775807 : Int64))) (FP.i2d ((((x1.toUInt32 >>> ((2 : Int32) &&& 31).toUInt32).toInt32) &&& (65535 : Int32)) + (1 : Int32))))), .second, .unset, .unset]) rfl ?_
    refine XS.aload X25.here hx rfl (hb hby at_99) rfl rfl ?_
    refine XS.dload X25.here hx rfl (hb hby at_101) rfl ?_
    show Steps p.tables e below (T25.setTop (mkF m 103 #[.val (.long y0), .second, .val (.int x1), .val (.int x2), .val (.int x3), .val (.ref b1), .val (.ref b8), .val (.int (x1 &&& (3 : Int32))), .val (.double (FP.ddiv (FP.l2d (y0 &&& (9223372036854775807 : Int64))) (FP.i2d ((((x1.toUInt32 >>> ((2 : Int32) &&& 31).toUInt32).toInt32) &&& (65535 : Int32)) + (1 : Int32))))), .second, .unset, .unset] [(.double (FP.ddiv (FP.l2d (y0 &&& (9223372036854775807 : Int64))) (FP.i2d ((((x1.toUInt32 >>> ((2 : Int32) &&& 31).toUInt32).toInt32) &&& (65535 : Int32)) + (1 : Int32))))), (.ref b8)])) _
    refine st38 _ ?_
    show Steps p.tables e below (T38.setTop (mkF m 106 #[.val (.long y0), .second, .val (.int x1), .val (.int x2), .val (.int x3), .val (.ref b1), .val (.ref b8), .val (.int (x1 &&& (3 : Int32))), .val (.double (FP.ddiv (FP.l2d (y0 &&& (9223372036854775807 : Int64))) (FP.i2d ((((x1.toUInt32 >>> ((2 : Int32) &&& 31).toUInt32).toInt32) &&& (65535 : Int32)) + (1 : Int32))))), .second, .unset, .unset] [(.double (FP.ddiv (FP.l2d (y0 &&& (9223372036854775807 : Int64))) (FP.i2d ((((x1.toUInt32 >>> ((2 : Int32) &&& 31).toUInt32).toInt32) &&& (65535 : Int32)) + (1 : Int32)))))])) _
    refine XS.dstore X38.here hx rfl (hb hby at_106) rfl (l' := #[.val (.long y0), .second, .val (.int x1), .val (.int x2), .val (.int x3), .val (.ref b1), .val (.ref b8), .val (.int (x1 &&& (3 : Int32))), .val (.double (FP.ddiv (FP.l2d (y0 &&& (9223372036854775807 : Int64))) (FP.i2d ((((x1.toUInt32 >>> ((2 : Int32) &&& 31).toUInt32).toInt32) &&& (65535 : Int32)) + (1 : Int32))))), .second, .val (.double (FP.ddiv (FP.l2d (y0 &&& (9223372036854775807 : Int64))) (FP.i2d ((((x1.toUInt32 >>> ((2 : Int32) &&& 31).toUInt32).toInt32) &&& (65535 : Int32)) + (1 : Int32))))), .second]) rfl ?_
    refine XS.dload X38.here hx rfl (hb hby at_108) rfl ?_
    refine XS.dload X38.here hx rfl (hb hby at_110) rfl ?_
    refine XS.dcmpS X38.here hx rfl (hb hby at_112) rfl rfl ?_
    show Steps p.tables e below (T38.setTop (mkF m 113 #[.val (.long y0), .second, .val (.int x1), .val (.int x2), .val (.int x3), .val (.ref b1), .val (.ref b8), .val (.int (x1 &&& (3 : Int32))), .val (.double (FP.ddiv (FP.l2d (y0 &&& (9223372036854775807 : Int64))) (FP.i2d ((((x1.toUInt32 >>> ((2 : Int32) &&& 31).toUInt32).toInt32) &&& (65535 : Int32)) + (1 : Int32))))), .second, .val (.double (FP.ddiv (FP.l2d (y0 &&& (9223372036854775807 : Int64))) (FP.i2d ((((x1.toUInt32 >>> ((2 : Int32) &&& 31).toUInt32).toInt32) &&& (65535 : Int32)) + (1 : Int32))))), .second] [(.int (cmpValue (FP.dcmp (FP.ddiv (FP.l2d (y0 &&& (9223372036854775807 : Int64))) (FP.i2d ((((x1.toUInt32 >>> ((2 : Int32) &&& 31).toUInt32).toInt32) &&& (65535 : Int32)) + (1 : Int32)))) (FP.ddiv (FP.l2d (y0 &&& (9223372036854775807 : Int64))) (FP.i2d ((((x1.toUInt32 >>> ((2 : Int32) &&& 31).toUInt32).toInt32) &&& (65535 : Int32)) + (1 : Int32))))) .l))])) _
    refine XS.ifNo X38.here hx rfl (hb hby at_113) rfl ((if0 _ _).trans (teq hc39).2) ?_
    refine XS.iconst X38.here hx rfl (hb hby at_116) ?_
    refine XS.goto X38.here hx rfl (pc0 := 117) (pc' := 121) rfl (hb hby at_117) (by decide) (by decide) ?_
    show Steps p.tables e below (T38.setTop (mkF m 121 #[.val (.long y0), .second, .val (.int x1), .val (.int x2), .val (.int x3), .val (.ref b1), .val (.ref b8), .val (.int (x1 &&& (3 : Int32))), .val (.double (FP.ddiv (FP.l2d (y0 &&& (9223372036854775807 : Int64))) (FP.i2d ((((x1.toUInt32 >>> ((2 : Int32) &&& 31).toUInt32).toInt32) &&& (65535 : Int32)) + (1 : Int32))))), .second, .val (.double (FP.ddiv (FP.l2d (y0 &&& (9223372036854775807 : Int64))) (FP.i2d ((((x1.toUInt32 >>> ((2 : Int32) &&& 31).toUInt32).toInt32) &&& (65535 : Int32)) + (1 : Int32))))), .second] [(.int (1 : Int32))])) _
    exact retN X38 hx (t := .boolean) Bd.returns (by simp) (hb hby at_121) hr
  · show Q0_4 Z y0 x1 x2 x3 x4 h0 n0 _ T38.heap _
    rw [E38]
    exact ⟨rfl, N38⟩
set_option maxRecDepth 65536 in
set_option maxHeartbeats 40000000 in
theorem comes_1 {Post : Tables → Env → Array Value → State → Outcome → State → Prop} (hpost : ∀ tb e args s v u, (limb_1_1.after args s (.returned v) u = true ∧ limb_1_2.after args s (.returned v) u = true ∧ True) → FrameEnd s (.returned v) u (Jvm.fieldLocs frame_1_writes args s ++ Jvm.arrayLocs frame_1_arrays args s ++ Jvm.staticLocs frame_1_statics s) 16 128 → Post tb e args s (.returned v) u) :
    ArmFor flags0 classFile x code maxLocals ret World_1 tables_1 room_1 Calls_1 rest_1 Pre_1 Post := by
  intro l hfl _ _ p e ha hc hk s m args below hf hA hF happ hP
  obtain ⟨hcalls, hrest, hpre⟩ := hP
  obtain ⟨-, -, -, hnamed, -, -, -, hat⟩ := (Spec.applies_iff hf).mp happ
  obtain ⟨hg, hn⟩ := and_e (Cond.before_iff.mp (show (Jvm.Cond.and given_1 narrow_1).before args s = true from hpre))
  obtain ⟨g0, hg⟩ := and_e hg
  obtain ⟨ga0, hg⟩ := and_e hg
  obtain ⟨ga1, hg⟩ := and_e hg
  obtain ⟨ga2, hg⟩ := and_e hg
  obtain ⟨w0, w1, w2, w3, rfl⟩ : ∃ w0 w1 w2 w3 : Value, args = #[w0, w1, w2, w3] := by
    have hs : args.size = 4 := by simpa [Cond.value, given_1] using g0
    obtain ⟨L⟩ := args
    match L, hs with
    | [w0, w1, w2, w3], _ => exact ⟨w0, w1, w2, w3, rfl⟩
  have hw := fun d (hd : d ∈ tables_1) => atoms_spec (ws := Jvm.Cond.code x code maxLocals ret :: tables_1) hat d (List.mem_cons_of_mem _ hd)
  have hfit : Fit s := fun {y c} hc i hi => by
    obtain ⟨ha, rfl⟩ := Array.getElem?_eq_some_iff.mp hc
    have q := List.all_eq_true.mp ((Array.all_eq_true_iff_forall_mem.mp hF) _ (Array.getElem_mem ha)) i (List.mem_range.mpr hi)
    simpa [Array.getElem?_eq_getElem hi] using q
  obtain ⟨hsets, hown0⟩ := atoms_of _ (rest_1_c_eq ▸ (show rest_1_c.before _ s = true from hrest))
  have hr0 := Cond.before_iff.mp hown0
  obtain ⟨i0, ei0⟩ := isL_v ga0
  obtain rfl : w0 = (.long i0) := Option.some.inj ei0
  obtain ⟨i1, ei1⟩ := is_v ga1
  obtain rfl : w1 = (.int i1) := Option.some.inj ei1
  obtain ⟨i2, ei2⟩ := is_v ga2
  obtain rfl : w2 = (.int i2) := Option.some.inj ei2
  obtain ⟨i3, ei3⟩ := is_v hg
  obtain rfl : w3 = (.int i3) := Option.some.inj ei3
  suffices hM : MetFree l x (head1 (Jvm.Cond.code x code maxLocals ret :: tables_1) room_1) (fun a U => a = #[(.long i0), (.int i1), (.int i2), (.int i3)] ∧ s.Warmed39 U.vm ∧ U.heap = s.heap) (fun _ _ _ _ _ => True) (fun _ U o U' => ∃ v L, o = .returned v ∧ (v = some (.int (1 : Int32)) ∧ Fr s.heap.size L) ∧ FrameEnd U o U' L room_1.cells room_1.slots) by
    obtain ⟨n, o, h1, h2, h3, _, L, rfl, ⟨rfl, N⟩, hq⟩ := hM p e ha hc hk s m _ below hf ((Spec.applies_iff_loose hf).mp happ).1 ⟨rfl, State.Warmed39.refl s, rfl⟩ trivial
    refine ⟨n, _, h1, h2, h3, hpost _ _ _ _ _ _ ⟨Cond.after_iff.mpr rfl, Cond.after_iff.mpr (eq_i res_at (Term.int_eval (1)) rfl), trivial⟩ ⟨hq.1, hq.2.1, (hq.2.2.sift fun y hy => Or.inr (N y hy)).mono (by decide) (by decide)⟩⟩
  have hs := fun (n : Nat) (d : Jvm.Cond) (q : jdkStatics_1[n]? = some d) => Cond.before_iff.mp (hsets d (List.mem_of_getElem? q))
  obtain ⟨iCS, eCS⟩ := is_v (hs 1 _ rfl)
  have SCS := Sta.start eCS (Or.inl (hsets _ (List.mem_of_getElem? (i := 0) rfl)))
  have nCS : ¬ (iCS = (0 : Int32)) := gotF (Cond.eq_ints eCS (Term.int_eval (0))) (not_v (hs 2 _ rfl))
  have hrk := own_rank i0 i1
  by_cases c0 : (i1 &&& (3 : Int32)) = (0 : Int32)
  · exact rm0_1 l s _ hw tables_1 i0 i1 i2 i3 iCS _ _ (Old.start s) SCS nCS (own_char i2) (own_char i3) c0 (by decide +kernel) (by decide +kernel) (by decide +kernel)
  have n0 := c0
  by_cases c1 : (i1 &&& (3 : Int32)) = (1 : Int32)
  · exact rm0_2 l s _ hw tables_1 i0 i1 i2 i3 iCS _ _ (Old.start s) SCS nCS (own_char i2) (own_char i3) n0 c1 (by decide +kernel) (by decide +kernel) (by decide +kernel)
  have n1 := c1
  by_cases c2 : (i1 &&& (3 : Int32)) = (2 : Int32)
  · exact rm0_3 l s _ hw tables_1 i0 i1 i2 i3 iCS _ _ (Old.start s) SCS nCS (own_char i2) (own_char i3) n0 n1 c2 (by decide +kernel) (by decide +kernel) (by decide +kernel)
  have n2 := c2
  exact rm0_4 l s _ hw tables_1 i0 i1 i2 i3 iCS _ _ (Old.start s) SCS nCS (own_char i2) (own_char i3) n0 n1 n2 hrk.1.noNaN hrk.2 (by rw [dcmp_pinf hrk.1]; decide) (dcmpV_self hrk.1.noNaN _)
theorem main_1_1 : Claimed_1_1 := comes_1 fun _ _ _ _ _ _ h hF => ⟨h.1, hF⟩
theorem main_1_2 : Claimed_1_2 := comes_1 fun _ _ _ _ _ _ h hF => ⟨h.2.1, hF⟩
end Jvm.Pilot.@@N@@
namespace Jvm.Pilot.@@N@@
open Jvm Jvm.ClassFile Sem Op Lib Jvm.Free Jvm.Stand Jvm.Pilot.@@N@@.Jvm.D
/-! MADE BY PROGRAM (witnessworld.py) out of the Statement's table words and the real class files: 20 classes; the members and pool entries that the words name. The judged class is class 1, her method 1. -/
namespace start1
open Jvm.ClassFile
def u (s : String) : CpInfo := .utf8 (stringToUtf16 s)
/-- a pool by its gaps: so many unusable entries, then the entry; so many at the end -/
def gap : Nat → List CpInfo → List CpInfo
  | 0, r => r
  | n + 1, r => .unusable :: gap n r
def poolList (es : List (Nat × CpInfo)) (last : Nat) : List CpInfo := es.foldr (fun e r => gap e.1 (e.2 :: r)) (gap last [])
def pool (es : List (Nat × CpInfo)) (last : Nat) : Array CpInfo := ⟨poolList es last⟩
def fileOf (pool : Array CpInfo) (this : Nat) (attrs : Array Attribute := #[]) (ms : Array MethodInfo := #[]) (fl : Nat := 33) (sup : Nat := 0) (ifs : Array Nat := #[]) (fds : Array FieldInfo := #[]) : ClassFile where
  minorVersion := 0
  majorVersion := 65
  constantPool := pool
  accessFlags := fl
  thisClass := this
  superClass := sup
  interfaces := ifs
  fields := fds
  methods := ms
  attributes := attrs
def plain (name : String) (sup : Option ClassId) : Class where
  name := name
  kind := .ordinary
  loader := none
  accessFlags := 33
  super := sup
  interfaces := #[]
  cf := none
  fields := #[]
  methods := #[]
  instanceTypes := #[]
  staticTypes := #[]
  resolved := #[]
  callSites := []
  init := .initialized
  statics := none
  mirror := none

def pool0 : Array CpInfo := pool [(5, u "<init>"), (0, u "()V"), (1, .class_ 10), (1, u "java/lang/Object")] 113

def k0c0 : Code := { maxStack := 0, maxLocals := 1, code := object_method_1_code, exceptionTable := #[], attributes := #[] }
def k0m0 : Method := { name := "<init>", desc := "()V", sig := { parameters := [], returnType := none }, accessFlags := 1, code := some k0c0 }
/-- java/lang/Object -/
def k0 : Class := { plain "java/lang/Object" none with
  accessFlags := 33
  interfaces := #[]
  cf := some (fileOf pool0 8 #[] #[{ accessFlags := 1, nameIndex := 5, descriptorIndex := 6, attributes := #[] }] 33 0 #[] #[])
  fields := #[]
  methods := #[k0m0]
  instanceTypes := #[]
  staticTypes := #[]
  resolved := Array.replicate 124 none
  statics := none }

def pool1 : Array CpInfo := pool [(2, .class_ 4), (1, u "java/lang/Object"), (0, u "<init>"), (0, u "()V"), (0, .class_ 8), (0, u "java/lang/String"), (0, .methodref 7 10), (0, .nameAndType 5 11), (0, u "([C)V"), (2, .double 1), (1, .double 9218868437227405311), (3, .long 9223372036854775807), (1, .integer 65535), (0, .methodref 24 25), (0, .class_ 26), (0, .nameAndType 27 28), (0, u "com/example/links_to_ranks/linkstoranks/Graph"), (0, u "requireStartRank"), (0, u "(Ljava/lang/String;D)D"), (0, .class_ 30), (0, u "com/example/links_to_ranks/linkstoranks/GraphRequireStartRankPinLaw"), (2, u "law"), (0, u "(JIII)Z")] 5

def k1m0 : Method := { name := "<init>", desc := "()V", sig := { parameters := [], returnType := none }, accessFlags := 1, code := none }
def k1c1 : Code := { maxStack := 4, maxLocals := 12, code := code, exceptionTable := #[], attributes := #[] }
def k1m1 : Method := { name := "law", desc := "(JIII)Z", sig := { parameters := [.long, .int, .int, .int], returnType := some .boolean }, accessFlags := 9, code := some k1c1 }
/-- com/example/links_to_ranks/linkstoranks/GraphRequireStartRankPinLaw -/
def k1 : Class := { plain "com/example/links_to_ranks/linkstoranks/GraphRequireStartRankPinLaw" (some 0) with
  accessFlags := 49
  interfaces := #[]
  cf := some (fileOf pool1 29 #[] #[{ accessFlags := 1, nameIndex := 5, descriptorIndex := 6, attributes := #[] }, { accessFlags := 9, nameIndex := 33, descriptorIndex := 34, attributes := #[] }] 49 2 #[] #[])
  fields := #[]
  methods := #[k1m0, k1m1]
  instanceTypes := #[]
  staticTypes := #[]
  resolved := Array.replicate 40 none
  statics := none }

def pool2 : Array CpInfo := pool [(1, .class_ 2), (0, u "java/io/Serializable"), (0, .class_ 4), (0, u "java/lang/Object")] 2

/-- java/io/Serializable -/
def k2 : Class := { plain "java/io/Serializable" (some 0) with
  accessFlags := 1537
  interfaces := #[]
  cf := some (fileOf pool2 1 #[] #[] 1537 3 #[] #[])
  fields := #[]
  methods := #[]
  instanceTypes := #[]
  staticTypes := #[]
  resolved := Array.replicate 7 none
  statics := none }

def pool3 : Array CpInfo := pool [(1, .class_ 2), (0, u "java/lang/Comparable"), (0, .class_ 4), (0, u "java/lang/Object")] 7

/-- java/lang/Comparable -/
def k3 : Class := { plain "java/lang/Comparable" (some 0) with
  accessFlags := 1537
  interfaces := #[]
  cf := some (fileOf pool3 1 #[] #[] 1537 3 #[] #[])
  fields := #[]
  methods := #[]
  instanceTypes := #[]
  staticTypes := #[]
  resolved := Array.replicate 12 none
  statics := none }

def pool4 : Array CpInfo := pool [(2, .class_ 4), (1, u "java/lang/CharSequence"), (42, .class_ 48), (0, u "java/lang/CharSequence$1CodePointIterator"), (10, .class_ 60), (0, u "java/lang/CharSequence$1CharIterator"), (5, .class_ 67), (0, u "java/lang/Object")] 63

/-- java/lang/CharSequence -/
def k4 : Class := { plain "java/lang/CharSequence" (some 0) with
  accessFlags := 1537
  interfaces := #[]
  cf := some (fileOf pool4 2 #[.nestMembers #[47, 59]] #[] 1537 66 #[] #[])
  fields := #[]
  methods := #[]
  instanceTypes := #[]
  staticTypes := #[]
  resolved := Array.replicate 131 none
  statics := none }

def pool5 : Array CpInfo := pool [(1, .class_ 2), (0, u "java/lang/constant/Constable"), (0, .class_ 4), (0, u "java/lang/Object")] 6

/-- java/lang/constant/Constable -/
def k5 : Class := { plain "java/lang/constant/Constable" (some 0) with
  accessFlags := 1537
  interfaces := #[]
  cf := some (fileOf pool5 1 #[] #[] 1537 3 #[] #[])
  fields := #[]
  methods := #[]
  instanceTypes := #[]
  staticTypes := #[]
  resolved := Array.replicate 11 none
  statics := none }

def pool6 : Array CpInfo := pool [(1, .class_ 2), (0, u "java/lang/constant/ConstantDesc"), (0, .class_ 4), (0, u "java/lang/Object")] 32

/-- java/lang/constant/ConstantDesc -/
def k6 : Class := { plain "java/lang/constant/ConstantDesc" (some 0) with
  accessFlags := 1537
  interfaces := #[]
  cf := some (fileOf pool6 1 #[] #[] 1537 3 #[] #[])
  fields := #[]
  methods := #[]
  instanceTypes := #[]
  staticTypes := #[]
  resolved := Array.replicate 37 none
  statics := none }

def pool7 : Array CpInfo := pool [(1, .methodref 2 3), (0, .class_ 4), (0, .nameAndType 5 6), (0, u "java/lang/Object"), (0, u "<init>"), (0, u "()V"), (2, .fieldref 10 11), (0, .class_ 12), (0, .nameAndType 13 14), (0, u "java/lang/String"), (0, u "value"), (0, u "[B"), (0, .fieldref 10 16), (0, .nameAndType 17 18), (0, u "coder"), (0, u "B"), (2, u "hash"), (0, u "I"), (2, u "hashIsZero"), (0, u "Z"), (0, .methodref 10 28), (0, .nameAndType 5 29), (0, u "([CIILjava/lang/Void;)V"), (8, .fieldref 10 39), (0, .nameAndType 40 26), (0, u "COMPACT_STRINGS"), (1, .class_ 44), (1, u "java/lang/StringUTF16"), (0, u "compress"), (1, .methodref 42 48), (0, .nameAndType 49 50), (0, u "coderFromArrayLen"), (0, u "([BI)B"), (126, .methodref 42 178), (0, .nameAndType 45 179), (0, u "([CII)[B"), (395, .class_ 576), (0, u "java/lang/CharSequence"), (22, u "CASE_INSENSITIVE_ORDER"), (0, u "Ljava/util/Comparator;"), (409, u "([C)V"), (90, u "serialPersistentFields"), (0, u "[Ljava/io/ObjectStreamField;"), (0, .class_ 1104), (0, u "java/lang/String$CaseInsensitiveComparator"), (1, .class_ 1107), (0, u "java/io/Serializable"), (0, .class_ 1109), (0, u "java/lang/Comparable"), (0, .class_ 1111), (0, u "java/lang/constant/Constable"), (0, .class_ 1113), (0, u "java/lang/constant/ConstantDesc"), (2, u "serialVersionUID"), (0, u "J"), (3, u "REPL"), (0, u "C"), (2, u "LATIN1"), (1, u "UTF16")] 323

def k7m0 : Method := { name := "<init>", desc := "()V", sig := { parameters := [], returnType := none }, accessFlags := 1, code := none }
def k7c1 : Code := { maxStack := 5, maxLocals := 2, code := jdk_42_method_3_code, exceptionTable := #[], attributes := #[] }
def k7m1 : Method := { name := "<init>", desc := "([C)V", sig := { parameters := [(.array .char)], returnType := none }, accessFlags := 1, code := some k7c1 }
def k7c2 : Code := { maxStack := 4, maxLocals := 6, code := jdk_42_method_149_code, exceptionTable := #[], attributes := #[] }
def k7m2 : Method := { name := "<init>", desc := "([CIILjava/lang/Void;)V", sig := { parameters := [(.array .char), .int, .int, (.object "java/lang/Void")], returnType := none }, accessFlags := 2, code := some k7c2 }
/-- java/lang/String -/
def k7 : Class := { plain "java/lang/String" (some 0) with
  accessFlags := 49
  interfaces := #[2, 3, 4, 5, 6]
  cf := some (fileOf pool7 10 #[.nestMembers #[1103]] #[{ accessFlags := 1, nameIndex := 5, descriptorIndex := 6, attributes := #[] }, { accessFlags := 1, nameIndex := 5, descriptorIndex := 1010, attributes := #[] }, { accessFlags := 2, nameIndex := 5, descriptorIndex := 29, attributes := #[] }] 49 2 #[1106, 1108, 575, 1110, 1112] #[{ accessFlags := 18, nameIndex := 13, descriptorIndex := 14, attributes := #[] }, { accessFlags := 18, nameIndex := 17, descriptorIndex := 18, attributes := #[] }, { accessFlags := 2, nameIndex := 21, descriptorIndex := 22, attributes := #[] }, { accessFlags := 2, nameIndex := 25, descriptorIndex := 26, attributes := #[] }, { accessFlags := 26, nameIndex := 1116, descriptorIndex := 1117, attributes := #[] }, { accessFlags := 24, nameIndex := 40, descriptorIndex := 26, attributes := #[] }, { accessFlags := 26, nameIndex := 1101, descriptorIndex := 1102, attributes := #[] }, { accessFlags := 26, nameIndex := 1121, descriptorIndex := 1122, attributes := #[] }, { accessFlags := 25, nameIndex := 599, descriptorIndex := 600, attributes := #[] }, { accessFlags := 24, nameIndex := 1125, descriptorIndex := 18, attributes := #[] }, { accessFlags := 24, nameIndex := 1127, descriptorIndex := 18, attributes := #[] }])
  fields := #[{ name := "value", type := (.array .byte), accessFlags := 18, slot := 0, constantValue := 0 }, { name := "coder", type := .byte, accessFlags := 18, slot := 1, constantValue := 0 }, { name := "hash", type := .int, accessFlags := 2, slot := 2, constantValue := 0 }, { name := "hashIsZero", type := .boolean, accessFlags := 2, slot := 3, constantValue := 0 }, { name := "serialVersionUID", type := .long, accessFlags := 26, slot := 0, constantValue := 0 }, { name := "COMPACT_STRINGS", type := .boolean, accessFlags := 24, slot := 1, constantValue := 0 }, { name := "serialPersistentFields", type := (.array (.object "java/io/ObjectStreamField")), accessFlags := 26, slot := 2, constantValue := 0 }, { name := "REPL", type := .char, accessFlags := 26, slot := 3, constantValue := 0 }, { name := "CASE_INSENSITIVE_ORDER", type := (.object "java/util/Comparator"), accessFlags := 25, slot := 4, constantValue := 0 }, { name := "LATIN1", type := .byte, accessFlags := 24, slot := 5, constantValue := 0 }, { name := "UTF16", type := .byte, accessFlags := 24, slot := 6, constantValue := 0 }]
  methods := #[k7m0, k7m1, k7m2]
  instanceTypes := #[(.array .byte), .byte, .int, .boolean]
  staticTypes := #[.long, .boolean, (.array (.object "java/io/ObjectStreamField")), .char, (.object "java/util/Comparator"), .byte, .byte]
  resolved := Array.replicate 1451 none
  statics := some 0 }

def pool8 : Array CpInfo := pool [(6, .class_ 8), (1, u "java/lang/Object"), (0, u "<init>"), (0, u "()V"), (1, .class_ 14), (1, u "java/lang/StringUTF16"), (31, u "$assertionsDisabled"), (0, u "Z"), (13, u "HI_BYTE_SHIFT"), (0, u "I"), (2, u "LO_BYTE_SHIFT"), (49, .methodref 12 116), (0, .nameAndType 117 118), (0, u "compress"), (0, u "([CI[BII)I"), (3, u "([CII)[B"), (138, u "coderFromArrayLen"), (0, u "([BI)B"), (106, .class_ 371), (1, u "java/lang/StringUTF16$LinesSpliterator"), (58, u "MAX_LENGTH"), (196, .class_ 628), (0, u "java/lang/StringUTF16$CodePointsSpliterator"), (0, .class_ 630), (0, u "java/lang/StringUTF16$CharsSpliterator")] 4

def k8m0 : Method := { name := "<init>", desc := "()V", sig := { parameters := [], returnType := none }, accessFlags := 0, code := none }
def k8c1 : Code := { maxStack := 2, maxLocals := 2, code := jdk_52_method_15_code, exceptionTable := #[], attributes := #[] }
def k8m1 : Method := { name := "coderFromArrayLen", desc := "([BI)B", sig := { parameters := [(.array .byte), .int], returnType := some .byte }, accessFlags := 8, code := some k8c1 }
def k8c2 : Code := { maxStack := 5, maxLocals := 6, code := jdk_52_method_16_code, exceptionTable := #[], attributes := #[] }
def k8m2 : Method := { name := "compress", desc := "([CII)[B", sig := { parameters := [(.array .char), .int, .int], returnType := some (.array .byte) }, accessFlags := 9, code := some k8c2 }
def k8c3 : Code := { maxStack := 3, maxLocals := 7, code := jdk_52_method_21_code, exceptionTable := #[], attributes := #[] }
def k8m3 : Method := { name := "compress", desc := "([CI[BII)I", sig := { parameters := [(.array .char), .int, (.array .byte), .int, .int], returnType := some .int }, accessFlags := 9, code := some k8c3 }
/-- java/lang/StringUTF16 -/
def k8 : Class := { plain "java/lang/StringUTF16" (some 0) with
  accessFlags := 48
  interfaces := #[]
  cf := some (fileOf pool8 12 #[.nestMembers #[627, 629, 369]] #[{ accessFlags := 0, nameIndex := 9, descriptorIndex := 10, attributes := #[] }, { accessFlags := 8, nameIndex := 261, descriptorIndex := 262, attributes := #[] }, { accessFlags := 9, nameIndex := 117, descriptorIndex := 122, attributes := #[] }, { accessFlags := 9, nameIndex := 117, descriptorIndex := 118, attributes := #[] }] 48 6 #[] #[{ accessFlags := 26, nameIndex := 61, descriptorIndex := 62, attributes := #[] }, { accessFlags := 26, nameIndex := 65, descriptorIndex := 62, attributes := #[] }, { accessFlags := 24, nameIndex := 430, descriptorIndex := 62, attributes := #[] }, { accessFlags := 4120, nameIndex := 46, descriptorIndex := 47, attributes := #[] }])
  fields := #[{ name := "HI_BYTE_SHIFT", type := .int, accessFlags := 26, slot := 0, constantValue := 0 }, { name := "LO_BYTE_SHIFT", type := .int, accessFlags := 26, slot := 1, constantValue := 0 }, { name := "MAX_LENGTH", type := .int, accessFlags := 24, slot := 2, constantValue := 0 }, { name := "$assertionsDisabled", type := .boolean, accessFlags := 4120, slot := 3, constantValue := 0 }]
  methods := #[k8m0, k8m1, k8m2, k8m3]
  instanceTypes := #[]
  staticTypes := #[.int, .int, .int, .boolean]
  resolved := Array.replicate 635 none
  statics := none }

def pool9 : Array CpInfo := pool [(2, .class_ 4), (1, u "java/lang/Object"), (3, .class_ 10), (1, u "com/example/links_to_ranks/linkstoranks/Graph"), (0, u "pageIds"), (0, u "Lcom/example/links_to_ranks/linkstoranks/PageIds$View;"), (2, u "inLinkStart"), (0, u "[I"), (2, u "inLinkSources"), (2, u "outLinkCounts"), (2, u "inputRanks"), (0, u "[D"), (20, .double 9218868437227405312), (22, u "requireStartRank"), (0, u "(Ljava/lang/String;D)D"), (3, .class_ 76), (0, u "com/example/links_to_ranks/linkstoranks/Graph$Builder")] 19

def k9c0 : Code := { maxStack := 5, maxLocals := 3, code := prog_4_method_11_code, exceptionTable := #[], attributes := #[] }
def k9m0 : Method := { name := "requireStartRank", desc := "(Ljava/lang/String;D)D", sig := { parameters := [(.object "java/lang/String"), .double], returnType := some .double }, accessFlags := 8, code := some k9c0 }
/-- com/example/links_to_ranks/linkstoranks/Graph -/
def k9 : Class := { plain "com/example/links_to_ranks/linkstoranks/Graph" (some 0) with
  accessFlags := 49
  interfaces := #[]
  cf := some (fileOf pool9 8 #[.nestMembers #[75]] #[{ accessFlags := 8, nameIndex := 70, descriptorIndex := 71, attributes := #[] }] 49 2 #[] #[{ accessFlags := 18, nameIndex := 11, descriptorIndex := 12, attributes := #[] }, { accessFlags := 18, nameIndex := 15, descriptorIndex := 16, attributes := #[] }, { accessFlags := 18, nameIndex := 19, descriptorIndex := 16, attributes := #[] }, { accessFlags := 18, nameIndex := 22, descriptorIndex := 16, attributes := #[] }, { accessFlags := 18, nameIndex := 25, descriptorIndex := 26, attributes := #[] }])
  fields := #[{ name := "pageIds", type := (.object "com/example/links_to_ranks/linkstoranks/PageIds$View"), accessFlags := 18, slot := 0, constantValue := 0 }, { name := "inLinkStart", type := (.array .int), accessFlags := 18, slot := 1, constantValue := 0 }, { name := "inLinkSources", type := (.array .int), accessFlags := 18, slot := 2, constantValue := 0 }, { name := "outLinkCounts", type := (.array .int), accessFlags := 18, slot := 3, constantValue := 0 }, { name := "inputRanks", type := (.array .double), accessFlags := 18, slot := 4, constantValue := 0 }]
  methods := #[k9m0]
  instanceTypes := #[(.object "com/example/links_to_ranks/linkstoranks/PageIds$View"), (.array .int), (.array .int), (.array .int), (.array .double)]
  staticTypes := #[]
  resolved := Array.replicate 96 none
  statics := none }

def pool10 : Array CpInfo := pool [(4, .class_ 6), (1, u "java/lang/Object"), (0, u "<init>"), (0, u "()V"), (5, .class_ 16), (1, u "java/lang/StringLatin1"), (104, u "$assertionsDisabled"), (0, u "Z"), (98, .class_ 223), (1, u "java/lang/StringLatin1$LinesSpliterator"), (166, .class_ 391), (0, u "java/lang/StringLatin1$CharsSpliterator")] 3

def k10m0 : Method := { name := "<init>", desc := "()V", sig := { parameters := [], returnType := none }, accessFlags := 0, code := none }
/-- java/lang/StringLatin1 -/
def k10 : Class := { plain "java/lang/StringLatin1" (some 0) with
  accessFlags := 48
  interfaces := #[]
  cf := some (fileOf pool10 14 #[.nestMembers #[390, 221]] #[{ accessFlags := 0, nameIndex := 7, descriptorIndex := 8, attributes := #[] }] 48 4 #[] #[{ accessFlags := 4120, nameIndex := 121, descriptorIndex := 122, attributes := #[] }])
  fields := #[{ name := "$assertionsDisabled", type := .boolean, accessFlags := 4120, slot := 0, constantValue := 0 }]
  methods := #[k10m0]
  instanceTypes := #[]
  staticTypes := #[.boolean]
  resolved := Array.replicate 395 none
  statics := none }

def pool11 : Array CpInfo := pool [(2, .class_ 4), (1, u "java/lang/Object"), (0, u "<init>"), (0, u "()V"), (17, .class_ 26), (1, u "jdk/internal/util/Preconditions"), (28, .class_ 56), (0, u "jdk/internal/util/Preconditions$4"), (57, .class_ 115), (0, u "jdk/internal/util/Preconditions$1"), (7, u "SIOOBE_FORMATTER"), (0, u "Ljava/util/function/BiFunction;"), (0, .class_ 126), (0, u "jdk/internal/util/Preconditions$2"), (3, u "AIOOBE_FORMATTER"), (0, .class_ 132), (0, u "jdk/internal/util/Preconditions$3"), (3, u "IOOBE_FORMATTER")] 57

def k11m0 : Method := { name := "<init>", desc := "()V", sig := { parameters := [], returnType := none }, accessFlags := 1, code := none }
/-- jdk/internal/util/Preconditions -/
def k11 : Class := { plain "jdk/internal/util/Preconditions" (some 0) with
  accessFlags := 33
  interfaces := #[]
  cf := some (fileOf pool11 24 #[.nestMembers #[55, 131, 125, 114]] #[{ accessFlags := 1, nameIndex := 5, descriptorIndex := 6, attributes := #[] }] 33 2 #[] #[{ accessFlags := 25, nameIndex := 123, descriptorIndex := 124, attributes := #[] }, { accessFlags := 25, nameIndex := 130, descriptorIndex := 124, attributes := #[] }, { accessFlags := 25, nameIndex := 136, descriptorIndex := 124, attributes := #[] }])
  fields := #[{ name := "SIOOBE_FORMATTER", type := (.object "java/util/function/BiFunction"), accessFlags := 25, slot := 0, constantValue := 0 }, { name := "AIOOBE_FORMATTER", type := (.object "java/util/function/BiFunction"), accessFlags := 25, slot := 1, constantValue := 0 }, { name := "IOOBE_FORMATTER", type := (.object "java/util/function/BiFunction"), accessFlags := 25, slot := 2, constantValue := 0 }]
  methods := #[k11m0]
  instanceTypes := #[]
  staticTypes := #[(.object "java/util/function/BiFunction"), (.object "java/util/function/BiFunction"), (.object "java/util/function/BiFunction")]
  resolved := Array.replicate 194 none
  statics := some 1 }

def pool12 : Array CpInfo := pool [(9, u "<init>"), (6, .class_ 18), (1, u "java/lang/Object"), (0, u "()V"), (1, .class_ 23), (1, u "jdk/internal/util/ArraysSupport"), (0, u "LOG2_ARRAY_LONG_INDEX_SCALE"), (0, u "I"), (2, u "U"), (0, u "Ljdk/internal/misc/Unsafe;"), (8, u "BIG_ENDIAN"), (0, u "Z"), (8, u "LOG2_BYTE_BIT_SIZE"), (4, u "LOG2_ARRAY_INT_INDEX_SCALE"), (54, u "JLA"), (0, u "Ljdk/internal/access/JavaLangAccess;"), (11, u "LOG2_ARRAY_BOOLEAN_INDEX_SCALE"), (9, u "LOG2_ARRAY_BYTE_INDEX_SCALE"), (5, u "LOG2_ARRAY_CHAR_INDEX_SCALE"), (5, u "LOG2_ARRAY_SHORT_INDEX_SCALE"), (18, u "LOG2_ARRAY_FLOAT_INDEX_SCALE"), (24, u "LOG2_ARRAY_DOUBLE_INDEX_SCALE"), (89, u "T_BOOLEAN"), (2, u "T_CHAR"), (1, u "T_FLOAT"), (1, u "T_DOUBLE"), (1, u "T_BYTE"), (1, u "T_SHORT"), (1, u "T_INT"), (1, u "T_LONG"), (1, u "SOFT_MAX_ARRAY_LENGTH")] 83

def k12m0 : Method := { name := "<init>", desc := "()V", sig := { parameters := [], returnType := none }, accessFlags := 2, code := none }
/-- jdk/internal/util/ArraysSupport -/
def k12 : Class := { plain "jdk/internal/util/ArraysSupport" (some 0) with
  accessFlags := 33
  interfaces := #[]
  cf := some (fileOf pool12 21 #[] #[{ accessFlags := 2, nameIndex := 9, descriptorIndex := 19, attributes := #[] }] 33 16 #[] #[{ accessFlags := 24, nameIndex := 28, descriptorIndex := 29, attributes := #[] }, { accessFlags := 26, nameIndex := 38, descriptorIndex := 39, attributes := #[] }, { accessFlags := 25, nameIndex := 121, descriptorIndex := 25, attributes := #[] }, { accessFlags := 25, nameIndex := 131, descriptorIndex := 25, attributes := #[] }, { accessFlags := 25, nameIndex := 137, descriptorIndex := 25, attributes := #[] }, { accessFlags := 25, nameIndex := 143, descriptorIndex := 25, attributes := #[] }, { accessFlags := 25, nameIndex := 53, descriptorIndex := 25, attributes := #[] }, { accessFlags := 25, nameIndex := 24, descriptorIndex := 25, attributes := #[] }, { accessFlags := 25, nameIndex := 162, descriptorIndex := 25, attributes := #[] }, { accessFlags := 25, nameIndex := 187, descriptorIndex := 25, attributes := #[] }, { accessFlags := 26, nameIndex := 48, descriptorIndex := 25, attributes := #[] }, { accessFlags := 25, nameIndex := 277, descriptorIndex := 25, attributes := #[] }, { accessFlags := 25, nameIndex := 280, descriptorIndex := 25, attributes := #[] }, { accessFlags := 25, nameIndex := 282, descriptorIndex := 25, attributes := #[] }, { accessFlags := 25, nameIndex := 284, descriptorIndex := 25, attributes := #[] }, { accessFlags := 25, nameIndex := 286, descriptorIndex := 25, attributes := #[] }, { accessFlags := 25, nameIndex := 288, descriptorIndex := 25, attributes := #[] }, { accessFlags := 25, nameIndex := 290, descriptorIndex := 25, attributes := #[] }, { accessFlags := 25, nameIndex := 292, descriptorIndex := 25, attributes := #[] }, { accessFlags := 26, nameIndex := 108, descriptorIndex := 109, attributes := #[] }, { accessFlags := 25, nameIndex := 294, descriptorIndex := 25, attributes := #[] }])
  fields := #[{ name := "U", type := (.object "jdk/internal/misc/Unsafe"), accessFlags := 24, slot := 0, constantValue := 0 }, { name := "BIG_ENDIAN", type := .boolean, accessFlags := 26, slot := 1, constantValue := 0 }, { name := "LOG2_ARRAY_BOOLEAN_INDEX_SCALE", type := .int, accessFlags := 25, slot := 2, constantValue := 0 }, { name := "LOG2_ARRAY_BYTE_INDEX_SCALE", type := .int, accessFlags := 25, slot := 3, constantValue := 0 }, { name := "LOG2_ARRAY_CHAR_INDEX_SCALE", type := .int, accessFlags := 25, slot := 4, constantValue := 0 }, { name := "LOG2_ARRAY_SHORT_INDEX_SCALE", type := .int, accessFlags := 25, slot := 5, constantValue := 0 }, { name := "LOG2_ARRAY_INT_INDEX_SCALE", type := .int, accessFlags := 25, slot := 6, constantValue := 0 }, { name := "LOG2_ARRAY_LONG_INDEX_SCALE", type := .int, accessFlags := 25, slot := 7, constantValue := 0 }, { name := "LOG2_ARRAY_FLOAT_INDEX_SCALE", type := .int, accessFlags := 25, slot := 8, constantValue := 0 }, { name := "LOG2_ARRAY_DOUBLE_INDEX_SCALE", type := .int, accessFlags := 25, slot := 9, constantValue := 0 }, { name := "LOG2_BYTE_BIT_SIZE", type := .int, accessFlags := 26, slot := 10, constantValue := 0 }, { name := "T_BOOLEAN", type := .int, accessFlags := 25, slot := 11, constantValue := 0 }, { name := "T_CHAR", type := .int, accessFlags := 25, slot := 12, constantValue := 0 }, { name := "T_FLOAT", type := .int, accessFlags := 25, slot := 13, constantValue := 0 }, { name := "T_DOUBLE", type := .int, accessFlags := 25, slot := 14, constantValue := 0 }, { name := "T_BYTE", type := .int, accessFlags := 25, slot := 15, constantValue := 0 }, { name := "T_SHORT", type := .int, accessFlags := 25, slot := 16, constantValue := 0 }, { name := "T_INT", type := .int, accessFlags := 25, slot := 17, constantValue := 0 }, { name := "T_LONG", type := .int, accessFlags := 25, slot := 18, constantValue := 0 }, { name := "JLA", type := (.object "jdk/internal/access/JavaLangAccess"), accessFlags := 26, slot := 19, constantValue := 0 }, { name := "SOFT_MAX_ARRAY_LENGTH", type := .int, accessFlags := 25, slot := 20, constantValue := 0 }]
  methods := #[k12m0]
  instanceTypes := #[]
  staticTypes := #[(.object "jdk/internal/misc/Unsafe"), .boolean, .int, .int, .int, .int, .int, .int, .int, .int, .int, .int, .int, .int, .int, .int, .int, .int, .int, (.object "jdk/internal/access/JavaLangAccess"), .int]
  resolved := Array.replicate 378 none
  statics := none }

def pool13 : Array CpInfo := pool [(1, u "java/lang/Cloneable"), (0, .class_ 1), (0, u "java/lang/Object"), (0, .class_ 3)] 3

/-- java/lang/Cloneable -/
def k13 : Class := { plain "java/lang/Cloneable" (some 0) with
  accessFlags := 1537
  interfaces := #[]
  cf := some (fileOf pool13 2 #[] #[] 1537 4 #[] #[])
  fields := #[]
  methods := #[]
  instanceTypes := #[]
  staticTypes := #[]
  resolved := Array.replicate 8 none
  statics := none }

/-- the primitive byte -/
def k14 : Class := { plain "byte" none with kind := .primitive 'B', accessFlags := 0x411 }
/-- [B -/
def k15 : Class := { plain "[B" (some 0) with kind := .array 14 .byte, interfaces := #[13, 2], accessFlags := 1041 }

/-- the primitive char -/
def k16 : Class := { plain "char" none with kind := .primitive 'C', accessFlags := 0x411 }
/-- [C -/
def k17 : Class := { plain "[C" (some 0) with kind := .array 16 .char, interfaces := #[13, 2], accessFlags := 1041 }

/-- the primitive int -/
def k18 : Class := { plain "int" none with kind := .primitive 'I', accessFlags := 0x411 }
/-- [I -/
def k19 : Class := { plain "[I" (some 0) with kind := .array 18 .int, interfaces := #[13, 2], accessFlags := 1041 }

def heap : Heap := #[{ cls := 7, slots := #[.long 0, .int 1, .null, .int 0, .null, .int 0, .int 0], vm := .statics 7 },
  { cls := 11, slots := #[.null, .null, .null], vm := .statics 11 }]
def classes : Array Class := #[k0, k1, k2, k3, k4, k5, k6, k7, k8, k9, k10, k11, k12, k13, k14, k15, k16, k17, k18, k19]
def interned : List (Array UInt16 × Addr) := []
def slotsUsed : Nat := 10
def theMethod : MethodId := ⟨1, 1⟩
def args0 : Array Value := #[.long 5, .int 7, .int 65, .int 66]
def aboutOver (below : List Frame) : State where
  vm := { classes := classes, interned := interned.toArray }
  heap := heap
  slotsUsed := slotsUsed
  threads := #[{ frames := .invoking theMethod args0 :: below }]
def below0 : List Frame := [.native { method := ⟨0, 0⟩, args := #[] }]
def about1 : State := aboutOver below0
def p0 : Program := .bare "" "" ""
def e0 : Env := launch0.env 0 0 0
theorem w_frames : about1.frames = Frame.invoking theMethod args0 :: below0 := rfl
set_option maxRecDepth 65536 in
theorem w_args : argsFit about1.vm theMethod args0 = true := by decide +kernel
set_option maxRecDepth 65536 in
theorem w_heap : heapFits about1 = true := by decide +kernel
set_option maxRecDepth 65536 in
theorem w_runnable : about1.curStatus? = some .runnable := by decide +kernel
set_option maxRecDepth 65536 in
theorem w_alone : about1.alone = true := by decide +kernel
set_option maxRecDepth 65536 in
theorem w_named : about1.methodNamed? x = some theMethod := by decide +kernel
set_option maxRecDepth 65536 in
theorem w_hears : about1.hears theMethod below0 = true := by decide +kernel
set_option maxRecDepth 65536 in
theorem w_ripe : about1.ripe theMethod args0 below0 = true := by decide +kernel
theorem w_running : about1.status = .running := rfl
set_option maxRecDepth 65536 in
theorem w_room : about1.hasRoom e0.platform room_1 = true :=
  launch0.hasRoom_least _ room_1 (by decide +kernel) (by decide +kernel) (by decide +kernel) (by decide +kernel) (by decide +kernel) (by decide +kernel)
theorem allAtoms_all (ts : List Jvm.Cond) (a : Array Jvm.Value) (st : Jvm.State) : (allAtoms ts).before a st = ts.all (fun c => c.before a st) := by
  induction ts with
  | nil => rfl
  | cons c t ih =>
    show (Jvm.Cond.and c (allAtoms t)).before a st = _
    rw [Jvm.Cond.before_and, ih, List.all_cons]
def words1 : List Jvm.Cond := Jvm.Cond.code x code maxLocals ret :: tables_1
/-- a 'code' word, met by the world's own term for the bytes: nothing is compared byte by byte -/
theorem code_word {y : MethodName} {bytes : ByteArray} {mx : Nat} {rt : Option FieldType} {a : Array Value} {s : State} {m : MethodId} {meth : Method} {c : Code} (h1 : s.methodNamed? y = some m) (h2 : s.vm.method? m = some meth) (h3 : meth.code = some c) (h4 : c.code = bytes)
    (h5 : (c.maxLocals == mx && c.exceptionTable.isEmpty && decide (c.maxStack ≤ mostOperands) && decide (meth.sig.returnType = rt) && !meth.locks && decide (parseMethodDescriptor y.desc = some meth.sig)) = true) : (Jvm.Cond.code y bytes mx rt).before a s = true := by
  simp only [Bool.and_eq_true, beq_iff_eq, Bool.not_eq_true', decide_eq_true_eq] at h5
  obtain ⟨⟨⟨⟨⟨g1, g2⟩, g3⟩, g4⟩, g5⟩, g6⟩ := h5
  simp [Cond.before, Cond.holds, Cond.value, h1, h2, h3, h4, g1, g2, g3, g4, g5, g6]
def isCode : Jvm.Cond → Bool
  | .code _ _ _ _ => true
  | _ => false
theorem all_split {L : List Jvm.Cond} {P : Jvm.Cond → Bool} (h1 : L.all (fun c => isCode c || P c) = true) (h2 : ∀ c ∈ L.filter isCode, P c = true) : L.all P = true := by
  refine List.all_eq_true.mpr fun c hc => ?_
  have h := List.all_eq_true.mp h1 c hc
  rcases Bool.eq_false_or_eq_true (isCode c) with hi | hi
  · exact h2 c (List.mem_filter.mpr ⟨hc, hi⟩)
  · simpa [hi] using h
set_option maxRecDepth 65536 in
theorem w_c0 : (Jvm.Cond.code x code maxLocals ret).before args0 about1 = true := code_word (m := ⟨1, 1⟩) (meth := k1m1) (c := k1c1) (by decide +kernel) rfl rfl rfl (by decide +kernel)
set_option maxRecDepth 65536 in
theorem w_c1 : (Jvm.Cond.code ({ cls := "java/lang/String", name := "<init>", desc := "([C)V" } : Jvm.MethodName) jdk_42_method_3_code (2 : Nat) (Option.none : Option Jvm.ClassFile.FieldType)).before args0 about1 = true := code_word (m := ⟨7, 1⟩) (meth := k7m1) (c := k7c1) (by decide +kernel) rfl rfl rfl (by decide +kernel)
set_option maxRecDepth 65536 in
theorem w_c2 : (Jvm.Cond.code ({ cls := "java/lang/String", name := "<init>", desc := "([CIILjava/lang/Void;)V" } : Jvm.MethodName) jdk_42_method_149_code (6 : Nat) (Option.none : Option Jvm.ClassFile.FieldType)).before args0 about1 = true := code_word (m := ⟨7, 2⟩) (meth := k7m2) (c := k7c2) (by decide +kernel) rfl rfl rfl (by decide +kernel)
set_option maxRecDepth 65536 in
theorem w_c3 : (Jvm.Cond.code ({ cls := "java/lang/Object", name := "<init>", desc := "()V" } : Jvm.MethodName) object_method_1_code (1 : Nat) (Option.none : Option Jvm.ClassFile.FieldType)).before args0 about1 = true := code_word (m := ⟨0, 0⟩) (meth := k0m0) (c := k0c0) (by decide +kernel) rfl rfl rfl (by decide +kernel)
set_option maxRecDepth 65536 in
theorem w_c4 : (Jvm.Cond.code ({ cls := "java/lang/StringUTF16", name := "compress", desc := "([CII)[B" } : Jvm.MethodName) jdk_52_method_16_code (6 : Nat) (Option.some (Jvm.ClassFile.FieldType.array Jvm.ClassFile.FieldType.byte))).before args0 about1 = true := code_word (m := ⟨8, 2⟩) (meth := k8m2) (c := k8c2) (by decide +kernel) rfl rfl rfl (by decide +kernel)
set_option maxRecDepth 65536 in
theorem w_c5 : (Jvm.Cond.code ({ cls := "java/lang/StringUTF16", name := "compress", desc := "([CI[BII)I" } : Jvm.MethodName) jdk_52_method_21_code (7 : Nat) (Option.some Jvm.ClassFile.FieldType.int)).before args0 about1 = true := code_word (m := ⟨8, 3⟩) (meth := k8m3) (c := k8c3) (by decide +kernel) rfl rfl rfl (by decide +kernel)
set_option maxRecDepth 65536 in
theorem w_c6 : (Jvm.Cond.code ({ cls := "java/lang/StringUTF16", name := "coderFromArrayLen", desc := "([BI)B" } : Jvm.MethodName) jdk_52_method_15_code (2 : Nat) (Option.some Jvm.ClassFile.FieldType.byte)).before args0 about1 = true := code_word (m := ⟨8, 1⟩) (meth := k8m1) (c := k8c1) (by decide +kernel) rfl rfl rfl (by decide +kernel)
set_option maxRecDepth 65536 in
theorem w_c7 : (Jvm.Cond.code ({ cls := "com/example/links_to_ranks/linkstoranks/Graph", name := "requireStartRank", desc := "(Ljava/lang/String;D)D" } : Jvm.MethodName) prog_4_method_11_code (3 : Nat) (Option.some Jvm.ClassFile.FieldType.double)).before args0 about1 = true := code_word (m := ⟨9, 0⟩) (meth := k9m0) (c := k9c0) (by decide +kernel) rfl rfl rfl (by decide +kernel)
def codes1 : List Jvm.Cond := [Jvm.Cond.code x code maxLocals ret, Jvm.Cond.code ({ cls := "java/lang/String", name := "<init>", desc := "([C)V" } : Jvm.MethodName) jdk_42_method_3_code (2 : Nat) (Option.none : Option Jvm.ClassFile.FieldType), Jvm.Cond.code ({ cls := "java/lang/String", name := "<init>", desc := "([CIILjava/lang/Void;)V" } : Jvm.MethodName) jdk_42_method_149_code (6 : Nat) (Option.none : Option Jvm.ClassFile.FieldType), Jvm.Cond.code ({ cls := "java/lang/Object", name := "<init>", desc := "()V" } : Jvm.MethodName) object_method_1_code (1 : Nat) (Option.none : Option Jvm.ClassFile.FieldType), Jvm.Cond.code ({ cls := "java/lang/StringUTF16", name := "compress", desc := "([CII)[B" } : Jvm.MethodName) jdk_52_method_16_code (6 : Nat) (Option.some (Jvm.ClassFile.FieldType.array Jvm.ClassFile.FieldType.byte)), Jvm.Cond.code ({ cls := "java/lang/StringUTF16", name := "compress", desc := "([CI[BII)I" } : Jvm.MethodName) jdk_52_method_21_code (7 : Nat) (Option.some Jvm.ClassFile.FieldType.int), Jvm.Cond.code ({ cls := "java/lang/StringUTF16", name := "coderFromArrayLen", desc := "([BI)B" } : Jvm.MethodName) jdk_52_method_15_code (2 : Nat) (Option.some Jvm.ClassFile.FieldType.byte), Jvm.Cond.code ({ cls := "com/example/links_to_ranks/linkstoranks/Graph", name := "requireStartRank", desc := "(Ljava/lang/String;D)D" } : Jvm.MethodName) prog_4_method_11_code (3 : Nat) (Option.some Jvm.ClassFile.FieldType.double)]
set_option maxRecDepth 65536 in
theorem codes_eq : words1.filter isCode = codes1 := rfl
theorem w_codes : ∀ c ∈ words1.filter isCode, c.before args0 about1 = true := by
  rw [codes_eq]
  intro c hc
  simp only [codes1, List.mem_cons, List.not_mem_nil, or_false] at hc
  rcases hc with rfl | rfl | rfl | rfl | rfl | rfl | rfl | rfl
  · exact w_c0
  · exact w_c1
  · exact w_c2
  · exact w_c3
  · exact w_c4
  · exact w_c5
  · exact w_c6
  · exact w_c7
set_option maxRecDepth 65536 in
theorem w_t1 : (words1.take 24).all (fun c => isCode c || c.before args0 about1) = true := by decide +kernel
set_option maxRecDepth 65536 in
theorem w_t2 : (words1.drop 24).all (fun c => isCode c || c.before args0 about1) = true := by decide +kernel
theorem w_tables : (allAtoms (Jvm.Cond.code x code maxLocals ret :: tables_1)).before args0 about1 = true := by
  rw [allAtoms_all]
  show words1.all (fun c => c.before args0 about1) = true
  refine all_split ?_ w_codes
  rw [← List.take_append_drop 24 words1, List.all_append, w_t1, w_t2]
  rfl
set_option maxRecDepth 65536 in
theorem w_rest : rest_1_c.before args0 about1 = true := by decide +kernel
set_option maxRecDepth 65536 in
theorem w_case : (Jvm.Cond.and given_1 narrow_1).before args0 about1 = true := by decide +kernel
theorem w_applies : (headSpec (Jvm.Cond.code x code maxLocals ret :: tables_1) room_1).applies x e0.platform about1 = true :=
  (Spec.applies_iff w_frames).mpr ⟨w_running, w_runnable, w_alone, w_named, w_hears, w_ripe, w_room, w_tables⟩
set_option maxRecDepth 65536 in
theorem atStart : AtStart classFile x code maxLocals ret World_1 tables_1 room_1 Calls_1 rest_1 Pre_1 launch0 p0 e0 about1 theMethod args0 below0 :=
  ⟨lists_1, trivial, launch0.admits_env _ _ _, launch0.least_env, fairChoices_fair.cas, fairChoices_fair.clock, w_frames, w_args, w_heap, w_applies, trivial, w_rest, w_case⟩
end start1
theorem witness_1 : WitnessClaimed_1 := ⟨start1.p0, start1.e0, start1.about1, start1.theMethod, start1.args0, start1.below0, start1.atStart⟩
end Jvm.Pilot.@@N@@
