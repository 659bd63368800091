import JvmDerived
import JvmDerived.Pilot.@@N@@Statement
import JvmDerived.Pilot.@@N@@Code
set_option linter.unusedVariables false
set_option linter.unusedSimpArgs false
namespace Jvm.Pilot.@@N@@
open Jvm Jvm.ClassFile Sem Op Lib Jvm.Free Jvm.Stand Jvm.LawKit Jvm.RoadKit Bundle Jvm.Pilot.@@N@@.Jvm.D
theorem ww {Z : State} {a0 : Array Value} (hw : ∀ d ∈ tables_1, d.before a0 Z = true) (i : Nat) {d : Jvm.Cond} (h : tables_1[i]? = some d) : d.before a0 Z = true := hw d (List.mem_of_getElem? h)
abbrev cs0 : String := "com/example/wiregather/wiregather/wire/FieldType"
abbrev cs1 : String := "[Lcom/example/wiregather/wiregather/wire/FieldType;"
abbrev cs2 : String := "()[Lcom/example/wiregather/wiregather/wire/FieldType;"
abbrev cs3 : String := "(I)Lcom/example/wiregather/wiregather/wire/FieldType;"
abbrev cs4 : String := "com/example/wiregather/wiregather/wire/FieldTypeOfCodePinLaw"
abbrev cs5 : String := "Lcom/example/wiregather/wiregather/wire/FieldType;"
theorem own_eqr {args : Array Value} {Z : State} {a b : Term} {x : Addr} (hb : b.eval args Z none [] Z = some (.ref x)) (h : (Jvm.Cond.eq a b).value args Z none Z [] = some true) : a.eval args Z none [] Z = some (.ref x) := by
  obtain ⟨u, w, e1, e2, k1, k2⟩ := cmp_v (Or.inl h)
  cases hb.symm.trans e2
  have hu : u.isRef = true := by cases u <;> simp [Kin, Value.isRef] at k1 k2 ⊢
  have := gotT (eq_R e1 e2 hu rfl) h
  rw [e1, this]
theorem own_len {args : Array Value} {Z : State} {t : Term} {x : Addr} {cl : Cell} {ty : FieldType} {n : Int32} (h : (Jvm.Cond.eq (.length t) (.int n)).value args Z none Z [] = some true) (ht : t.eval args Z none [] Z = some (.ref x)) (A : Arr Z Z.heap x cl ty) : cl.slots.size < 2 ^ 31 ∧ cl.slots.size.toInt32 = n := by
  have e1 := eqv_i (y := n) rfl h
  have ha := Arr.fin (Vm.Alike.refl _) A
  have hl : cl.slots.size < 2 ^ 31 := by
    by_cases q : cl.slots.size < 2 ^ 31
    · exact q
    · simp [Term.eval, ht, ha, q] at e1
  rw [len_f ht ha hl] at e1
  exact ⟨hl, by simpa using e1⟩
theorem d1_0 : decode prog_72_method_7_code 0 = .ok (.aconst_null, 1) := by decide +kernel
theorem d1_1 : decode prog_72_method_7_code 1 = .ok (.astore_n 1, 1) := by decide +kernel
theorem d1_2 : decode prog_72_method_7_code 2 = .ok (.invokestatic 52, 3) := by decide +kernel
theorem d2_0 : decode prog_72_method_1_code 0 = .ok (.getstatic 22, 3) := by decide +kernel
theorem d2_3 : decode prog_72_method_1_code 3 = .ok (.invokevirtual 26, 3) := by decide +kernel
theorem d2_6 : decode prog_72_method_1_code 6 = .ok (.checkcast 27, 3) := by decide +kernel
theorem d2_9 : decode prog_72_method_1_code 9 = .ok (.areturn, 1) := by decide +kernel
theorem pn_com_example_wiregather_wiregather_wire_FieldType : plainName cs0 = true := by first | (simp [plainName, overriddenIn]; done) | decide +kernel
def Q2_1 (Z : State) (r0 : Addr) (c1 : ClassId) (r2 : Addr) (r3 : Addr) (r4 : Addr) (r5 : Addr) (r6 : Addr) (r7 : Addr) (h0 : Heap) (n0 : Nat) (v : Option Value) (h : Heap) (L : List Loc) : Prop := ∃ (b8 : Addr), v = some (.ref b8) ∧ Fr n0 L ∧ Keep h0 h [] ∧ h0.size ≤ b8 ∧ Exa Z h b8 cs1 ∧ Arv Z h b8 c1 (.object cs0) (6 : Int32) [(.ref r2), (.ref r3), (.ref r4), (.ref r5), (.ref r6), (.ref r7)] .null
set_option maxRecDepth 65536 in
set_option maxHeartbeats 40000000 in
theorem rm2_1 (l : Launch) (Z : State) (a0 : Array Value) (hw : ∀ d ∈ tables_1, d.before a0 Z = true) (ws : List Jvm.Cond) (r0 : Addr) (c1 : ClassId) (r2 : Addr) (r3 : Addr) (r4 : Addr) (r5 : Addr) (r6 : Addr) (r7 : Addr) (h0 : Heap) (n0 : Nat) (O0 : Old Z n0 h0) (f1 : Sta Z Z.heap cs0 "$VALUES" cs1 (.ref r0)) (f4 : Exa Z Z.heap r0 cs1) (f6 : Arv Z Z.heap r0 c1 (.object cs0) (6 : Int32) [(.ref r2), (.ref r3), (.ref r4), (.ref r5), (.ref r6), (.ref r7)] .null) :
    MetFree l (⟨cs0, "values", cs2⟩ : MethodName) (head1 (Jvm.Cond.code (⟨cs0, "values", cs2⟩ : MethodName) prog_72_method_1_code 0 (some (.array (.object cs0))) :: ws) ({ frames := 1, cells := 1, slots := 6, locals := 14 } : Room)) (fun a U => a = #[] ∧ Z.Warmed39 U.vm ∧ U.heap = h0) (fun _ _ _ _ _ => True) (fun _ U o U' => ∃ v L, o = .returned v ∧ Q2_1 Z r0 c1 r2 r3 r4 r5 r6 r7 h0 n0 v U'.heap L ∧ FrameEnd U o U' L ({ frames := 1, cells := 1, slots := 6, locals := 14 } : Room).cells ({ frames := 1, cells := 1, slots := 6, locals := 14 } : Room).slots) := by
  refine MetFree.of_bodySF (plainFor_of_name pn_com_example_wiregather_wiregather_wire_FieldType) hisR ?_
  intro p e s m args below meth c s₁ Bd hml0 hP hK
  obtain ⟨rfl, hZ, hh⟩ := hP
  have hx := Bd.exec
  have hby := Bd.bytes
  have hml : c.maxLocals = 0 := hml0
  have hown : s.vm.findClass cs0 = some m.cls := findClass_of_methodNamed Bd.named
  have hnm := (name_of_methodNamed Bd.named Bd.method).1
  have X0 : Stand p l e ({ frames := 1, cells := 1, slots := 6, locals := 14 } : Room) s m #[] below meth c s₁ [] 0 0 := Stand.of_body Bd
  have e0 : s₁.heap = h0 := by rw [← hh, Bd.state]; rfl
  have N0 := Fr.nil n0
  have pre0 : ∀ t, Steps p.tables e below (s₁.setTop (mkF m 0 #[] [])) t → Steps p.tables e below (s₁.setTop (entryFrame m #[] 0)) t := fun t k => castTop (by first | (simp [entryFrame, mkF, argsToLocals, Value.category]; done) | rfl) k
  have f2 := f1.ext O0.2
  obtain ⟨T3, X3, e3, st3⟩ := getS2 X0 hx hZ hown (host := "") (Or.inl (ww hw 7 rfl)) Via.refl e0 f2 (g := (mkF m 0 #[] [])) rfl (hb hby d2_0)
  have f5 := f4.ext O0.2
  have f7 := f6.ext O0.2
  obtain ⟨T8, h8, X8, e8, E8, A8, B8, st8⟩ := cloneH X3 hx hZ hown (ww hw 9 rfl) (ww hw 10 rfl) (ww hw 14 rfl) (ww hw 12 rfl) (ww hw 13 rfl) (ww hw 15 rfl) e3 (Arv.arh f7) f5 (g := (mkF m 3 #[] [(.ref r0)])) rfl (by rw [hml]; rfl) rfl (hb hby d2_3) (by decide) (W := 0) (by show 2 * 0 + _ ≤ _; exact Nat.le_of_eq rfl) (by decide) (cap := 6) (by decide) (by decide) (by decide)
  obtain ⟨b8, g8⟩ : ∃ z, z = h0.size := ⟨_, rfl⟩
  rw [← g8] at A8 B8 st8
  have V8 : Arv Z h8 b8 c1 (.object cs0) (6 : Int32) [(.ref r2), (.ref r3), (.ref r4), (.ref r5), (.ref r6), (.ref r7)] .null := A8
  obtain ⟨T9, X9, e9, st9⟩ := castY X8 hx hZ hown (ww hw 23 rfl) e8 (Ins.self B8) (g := (mkF m 6 #[] [(.ref b8)])) rfl rfl (hb hby d2_6)
  have kp10 : Keep h0 h8 [] := (Keep.refl h0 []).ext E8
  obtain ⟨fs, hr, hrun, hended, hW, hsame⟩ := X9.leave (v := some (.ref b8)) (fun h => by rw [Bd.returns] at h; cases h)
  refine ⟨_, _, pre0 _ ?_, hrun, hended, _, _, rfl, ?_, ⟨_, rfl⟩, hW, hsame.mono (by decide) (by decide)⟩
  · show Steps p.tables e below (s₁.setTop (mkF m 0 #[] [])) _
    refine st3 _ ?_
    show Steps p.tables e below (T3.setTop (mkF m 3 #[] [(.ref r0)])) _
    refine st8 _ ?_
    show Steps p.tables e below (T8.setTop (mkF m 6 #[] [(.ref b8)])) _
    refine st9 _ ?_
    show Steps p.tables e below (T9.setTop (mkF m 9 #[] [(.ref b8)])) _
    exact retOut X9 hx (i := .areturn) Bd.returns rfl (Or.inr (Or.inr (Or.inr (Or.inr ⟨rfl, rfl, rfl⟩)))) (hb hby d2_9) hr
  · show Q2_1 Z r0 c1 r2 r3 r4 r5 r6 r7 h0 n0 _ T9.heap _
    rw [e9]
    exact ⟨b8, rfl, N0, kp10, (Nat.le_of_eq g8.symm), B8, V8⟩
theorem pd____Lcom_example_wiregather_wiregather_wire_FieldType_ : parseMethodDescriptor cs2 = some ⟨[], some (.array (.object cs0))⟩ := by decide +kernel
theorem d1_5 : decode prog_72_method_7_code 5 = .ok (.astore_n 2, 1) := by decide +kernel
theorem d1_6 : decode prog_72_method_7_code 6 = .ok (.aload_n 2, 1) := by decide +kernel
theorem d1_7 : decode prog_72_method_7_code 7 = .ok (.arraylength, 1) := by decide +kernel
theorem d1_8 : decode prog_72_method_7_code 8 = .ok (.istore_n 3, 1) := by decide +kernel
theorem d1_9 : decode prog_72_method_7_code 9 = .ok (.iconst 0, 1) := by decide +kernel
theorem d1_10 : decode prog_72_method_7_code 10 = .ok (.istore 4, 2) := by decide +kernel
theorem d1_12 : decode prog_72_method_7_code 12 = .ok (.iload 4, 2) := by decide +kernel
theorem d1_14 : decode prog_72_method_7_code 14 = .ok (.iload_n 3, 1) := by decide +kernel
theorem d1_15 : decode prog_72_method_7_code 15 = .ok (.if_icmp .ge 27, 3) := by decide +kernel
theorem d1_18 : decode prog_72_method_7_code 18 = .ok (.aload_n 2, 1) := by decide +kernel
theorem d1_19 : decode prog_72_method_7_code 19 = .ok (.iload 4, 2) := by decide +kernel
theorem d1_21 : decode prog_72_method_7_code 21 = .ok (.aaload, 1) := by decide +kernel
theorem d1_22 : decode prog_72_method_7_code 22 = .ok (.astore 5, 2) := by decide +kernel
theorem d1_24 : decode prog_72_method_7_code 24 = .ok (.aload 5, 2) := by decide +kernel
theorem d1_26 : decode prog_72_method_7_code 26 = .ok (.getfield 41, 3) := by decide +kernel
theorem d1_29 : decode prog_72_method_7_code 29 = .ok (.iload_n 0, 1) := by decide +kernel
theorem d1_30 : decode prog_72_method_7_code 30 = .ok (.if_icmp .ne 6, 3) := by decide +kernel
theorem d1_33 : decode prog_72_method_7_code 33 = .ok (.aload 5, 2) := by decide +kernel
theorem d1_35 : decode prog_72_method_7_code 35 = .ok (.astore_n 1, 1) := by decide +kernel
theorem d1_36 : decode prog_72_method_7_code 36 = .ok (.iinc 4 1, 3) := by decide +kernel
theorem d1_39 : decode prog_72_method_7_code 39 = .ok (.goto (-27), 3) := by decide +kernel
theorem d1_42 : decode prog_72_method_7_code 42 = .ok (.aload_n 1, 1) := by decide +kernel
theorem d1_43 : decode prog_72_method_7_code 43 = .ok (.areturn, 1) := by decide +kernel
def Q1_1 (Z : State) (x0 : Int32) (r1 : Addr) (c2 : ClassId) (r3 : Addr) (r4 : Addr) (r5 : Addr) (r6 : Addr) (r7 : Addr) (r8 : Addr) (h0 : Heap) (n0 : Nat) (v : Option Value) (h : Heap) (L : List Loc) : Prop := v = some (.ref r3) ∧ Fr n0 L ∧ Keep h0 h []
set_option maxRecDepth 65536 in
set_option maxHeartbeats 40000000 in
theorem rm1_1 (l : Launch) (Z : State) (a0 : Array Value) (hw : ∀ d ∈ tables_1, d.before a0 Z = true) (ws : List Jvm.Cond) (x0 : Int32) (r1 : Addr) (c2 : ClassId) (r3 : Addr) (r4 : Addr) (r5 : Addr) (r6 : Addr) (r7 : Addr) (r8 : Addr) (h0 : Heap) (n0 : Nat) (O0 : Old Z n0 h0) (f1 : Sta Z Z.heap cs0 "$VALUES" cs1 (.ref r1)) (f2 : Exa Z Z.heap r1 cs1) (f3 : Arv Z Z.heap r1 c2 (.object cs0) (6 : Int32) [(.ref r3), (.ref r4), (.ref r5), (.ref r6), (.ref r7), (.ref r8)] .null) (f10 : Fld Z Z.heap r3 cs0 "code" "I" (.int (1 : Int32))) (hc14 : (1 : Int32) = x0) (f16 : Fld Z Z.heap r4 cs0 "code" "I" (.int (2 : Int32))) (hc19 : ¬ ((2 : Int32) = x0)) (f21 : Fld Z Z.heap r5 cs0 "code" "I" (.int (3 : Int32))) (hc24 : ¬ ((3 : Int32) = x0)) (f26 : Fld Z Z.heap r6 cs0 "code" "I" (.int (4 : Int32))) (hc29 : ¬ ((4 : Int32) = x0)) (f31 : Fld Z Z.heap r7 cs0 "code" "I" (.int (5 : Int32))) (hc34 : ¬ ((5 : Int32) = x0)) (f36 : Fld Z Z.heap r8 cs0 "code" "I" (.int (6 : Int32))) (hc39 : ¬ ((6 : Int32) = x0)) :
    MetFree l (⟨cs0, "ofCode", cs3⟩ : MethodName) (head1 (Jvm.Cond.code (⟨cs0, "ofCode", cs3⟩ : MethodName) prog_72_method_7_code 6 (some (.object cs0)) :: ws) ({ frames := 2, cells := 1, slots := 6, locals := 25 } : Room)) (fun a U => a = #[(.int x0)] ∧ Z.Warmed39 U.vm ∧ U.heap = h0) (fun _ _ _ _ _ => True) (fun _ U o U' => ∃ v L, o = .returned v ∧ Q1_1 Z x0 r1 c2 r3 r4 r5 r6 r7 r8 h0 n0 v U'.heap L ∧ FrameEnd U o U' L ({ frames := 2, cells := 1, slots := 6, locals := 25 } : Room).cells ({ frames := 2, cells := 1, slots := 6, locals := 25 } : Room).slots) := by
  refine MetFree.of_bodySF (plainFor_of_name pn_com_example_wiregather_wiregather_wire_FieldType) hisR ?_
  intro p e s m args below meth c s₁ Bd hml0 hP hK
  obtain ⟨rfl, hZ, hh⟩ := hP
  have hx := Bd.exec
  have hby := Bd.bytes
  have hml : c.maxLocals = 6 := hml0
  have hown : s.vm.findClass cs0 = some m.cls := findClass_of_methodNamed Bd.named
  have hnm := (name_of_methodNamed Bd.named Bd.method).1
  have X0 : Stand p l e ({ frames := 2, cells := 1, slots := 6, locals := 25 } : Room) s m #[(.int x0)] below meth c s₁ [] 0 0 := Stand.of_body Bd
  have e0 : s₁.heap = h0 := by rw [← hh, Bd.state]; rfl
  have N0 := Fr.nil n0
  have pre0 : ∀ t, Steps p.tables e below (s₁.setTop (mkF m 0 #[.val (.int x0), .unset, .unset, .unset, .unset, .unset] [])) t → Steps p.tables e below (s₁.setTop (entryFrame m #[(.int x0)] 6)) t := fun t k => castTop (by first | (simp [entryFrame, mkF, argsToLocals, Value.category]; done) | rfl) k
  obtain ⟨_, _, ⟨T4, L4, k4, n4⟩, -, X4, ⟨Lc4, hQ4, l4, y4, z4⟩, st4⟩ := Jvm.LawKit.callS X0 hx (y := (⟨cs0, "values", cs2⟩ : MethodName)) hown (mvT hZ (ww hw 4 rfl)) (mvT hZ (ww hw 5 rfl)) (mvT hZ (ww hw 2 rfl)) (mvT hZ (ww hw 6 rfl)) (by decide) (backOf (W := 0) (rm2_1 l Z a0 hw [] r1 c2 r3 r4 r5 r6 r7 r8 h0 n0 O0 f1 f2 f3) hZ (ww hw 6 rfl) (ww hw 2 rfl) (by decide) (by decide)) (g := (mkF m 2 #[.val (.int x0), .val .null, .unset, .unset, .unset, .unset] [])) rfl (by rw [hml]; rfl) (argsL := []) (rest := []) (lenOf pd____Lcom_example_wiregather_wiregather_wire_FieldType_ rfl) rfl (by show 2 * 0 + _ ≤ _; exact Nat.le_of_eq rfl) (hb hby d1_2) (fun _ _ => ⟨rfl, e0, (by decide : 0 + 1 ≤ _), (by decide : 0 + 6 ≤ _)⟩)
  dsimp only [Pt.U, Pt.locs, Pt.cells, Pt.slots] at X4 l4 y4 z4 st4 hQ4
  subst l4 y4 z4
  obtain ⟨b4_0, rfl, N4q, K4, f5, f6, f7⟩ := hQ4
  have N4 := Fr.app N0 N4q
  obtain ⟨clq8, Arq8, qq8, Sq8, Nq8, Hq8, Gq8⟩ := id f7
  obtain ⟨clq9, Arq9, qq9, Sq9, Nq9, Hq9, Gq9⟩ := id f7
  have o11 := Old.keep O0 K4 all0
  have f12 := f10.ext o11.2
  obtain ⟨T13, X13, e13, st13⟩ := getF X4 hx hZ hown (host := "") (Or.inl (ww hw 25 rfl)) Via.refl rfl f12 (g := (mkF m 26 #[.val (.int x0), .val .null, .val (.ref b4_0), .val (.int (6 : Int32)), .val (.int (0 : Int32)), .val (.ref r3)] [(.ref r3)])) rfl rfl (hb hby d1_26)
  obtain ⟨clq15, Arq15, qq15, Sq15, Nq15, Hq15, Gq15⟩ := id f7
  have f17 := f16.ext o11.2
  obtain ⟨T18, X18, e18, st18⟩ := getF X13 hx hZ hown (host := "") (Or.inl (ww hw 25 rfl)) Via.refl e13 f17 (g := (mkF m 26 #[.val (.int x0), .val (.ref r3), .val (.ref b4_0), .val (.int (6 : Int32)), .val (.int (1 : Int32)), .val (.ref r4)] [(.ref r4)])) rfl rfl (hb hby d1_26)
  obtain ⟨clq20, Arq20, qq20, Sq20, Nq20, Hq20, Gq20⟩ := id f7
  have f22 := f21.ext o11.2
  obtain ⟨T23, X23, e23, st23⟩ := getF X18 hx hZ hown (host := "") (Or.inl (ww hw 25 rfl)) Via.refl e18 f22 (g := (mkF m 26 #[.val (.int x0), .val (.ref r3), .val (.ref b4_0), .val (.int (6 : Int32)), .val (.int (2 : Int32)), .val (.ref r5)] [(.ref r5)])) rfl rfl (hb hby d1_26)
  obtain ⟨clq25, Arq25, qq25, Sq25, Nq25, Hq25, Gq25⟩ := id f7
  have f27 := f26.ext o11.2
  obtain ⟨T28, X28, e28, st28⟩ := getF X23 hx hZ hown (host := "") (Or.inl (ww hw 25 rfl)) Via.refl e23 f27 (g := (mkF m 26 #[.val (.int x0), .val (.ref r3), .val (.ref b4_0), .val (.int (6 : Int32)), .val (.int (3 : Int32)), .val (.ref r6)] [(.ref r6)])) rfl rfl (hb hby d1_26)
  obtain ⟨clq30, Arq30, qq30, Sq30, Nq30, Hq30, Gq30⟩ := id f7
  have f32 := f31.ext o11.2
  obtain ⟨T33, X33, e33, st33⟩ := getF X28 hx hZ hown (host := "") (Or.inl (ww hw 25 rfl)) Via.refl e28 f32 (g := (mkF m 26 #[.val (.int x0), .val (.ref r3), .val (.ref b4_0), .val (.int (6 : Int32)), .val (.int (4 : Int32)), .val (.ref r7)] [(.ref r7)])) rfl rfl (hb hby d1_26)
  obtain ⟨clq35, Arq35, qq35, Sq35, Nq35, Hq35, Gq35⟩ := id f7
  have f37 := f36.ext o11.2
  obtain ⟨T38, X38, e38, st38⟩ := getF X33 hx hZ hown (host := "") (Or.inl (ww hw 25 rfl)) Via.refl e33 f37 (g := (mkF m 26 #[.val (.int x0), .val (.ref r3), .val (.ref b4_0), .val (.int (6 : Int32)), .val (.int (5 : Int32)), .val (.ref r8)] [(.ref r8)])) rfl rfl (hb hby d1_26)
  have kp40 : Keep h0 T4.heap [] := (Keep.refl h0 []).trans K4 all0
  obtain ⟨fs, hr, hrun, hended, hW, hsame⟩ := X38.leave (v := some (.ref r3)) (fun h => by rw [Bd.returns] at h; cases h)
  refine ⟨_, _, pre0 _ ?_, hrun, hended, _, _, rfl, ?_, ⟨_, rfl⟩, hW, hsame.mono (by decide) (by decide)⟩
  · show Steps p.tables e below (s₁.setTop (mkF m 0 #[.val (.int x0), .unset, .unset, .unset, .unset, .unset] [])) _
    refine XS.aconstNull X0.here hx rfl (hb hby d1_0) ?_
    refine XS.astoreN X0.here hx rfl (hb hby d1_1) rfl rfl (l' := #[.val (.int x0), .val .null, .unset, .unset, .unset, .unset]) rfl ?_
    refine st4 _ ?_
    show Steps p.tables e below (T4.setTop (mkF m 5 #[.val (.int x0), .val .null, .unset, .unset, .unset, .unset] [(.ref b4_0)])) _
    refine XS.astoreN X4.here hx rfl (hb hby d1_5) rfl rfl (l' := #[.val (.int x0), .val .null, .val (.ref b4_0), .unset, .unset, .unset]) rfl ?_
    refine XS.aloadN X4.here hx rfl (hb hby d1_6) rfl rfl ?_
    refine X4.arraylength hx (Arq8.1) (State.isArrayOf_alike hZ.alike Arq8.2.1) (g := (mkF m 7 #[.val (.int x0), .val .null, .val (.ref b4_0), .unset, .unset, .unset] [(.ref b4_0)])) rfl rfl (hb hby d1_7) _ ?_
    rw [len_of Sq8 Nq8]
    show Steps p.tables e below (T4.setTop (mkF m 8 #[.val (.int x0), .val .null, .val (.ref b4_0), .unset, .unset, .unset] [(.int (6 : Int32))])) _
    refine XS.istoreN X4.here hx rfl (hb hby d1_8) rfl (l' := #[.val (.int x0), .val .null, .val (.ref b4_0), .val (.int (6 : Int32)), .unset, .unset]) rfl ?_
    refine XS.iconst X4.here hx rfl (hb hby d1_9) ?_
    refine XS.istore X4.here hx rfl (hb hby d1_10) rfl (l' := #[.val (.int x0), .val .null, .val (.ref b4_0), .val (.int (6 : Int32)), .val (.int (0 : Int32)), .unset]) rfl ?_
    refine XS.iload X4.here hx rfl (hb hby d1_12) rfl ?_
    show Steps p.tables e below (T4.setTop (mkF m 14 #[.val (.int x0), .val .null, .val (.ref b4_0), .val (.int (6 : Int32)), .val (.int (0 : Int32)), .unset] [(.int (0 : Int32))])) _
    refine XS.iloadN X4.here hx rfl (hb hby d1_14) rfl ?_
    refine XS.icmpNo X4.here hx rfl (hb hby d1_15) rfl (tlt (by decide : (0 : Int32) < (6 : Int32))).2.1 ?_
    refine XS.aloadN X4.here hx rfl (hb hby d1_18) rfl rfl ?_
    refine XS.iload X4.here hx rfl (hb hby d1_19) rfl ?_
    show Steps p.tables e below (T4.setTop (mkF m 21 #[.val (.int x0), .val .null, .val (.ref b4_0), .val (.int (6 : Int32)), .val (.int (0 : Int32)), .unset] [(.int (0 : Int32)), (.ref b4_0)])) _
    refine X4.aaload hx (j := (0 : Int32)) (v := (.ref r3)) (Arq9.1) (State.isArrayOf_alike hZ.alike Arq9.2.1) rfl Arq9.2.2 (inb_of Sq9 ⟨(by decide : ¬ ((0 : Int32) < (0 : Int32))), (by decide : (0 : Int32) < (6 : Int32))⟩) (Has.at Hq9 (inb_of Sq9 ⟨(by decide : ¬ ((0 : Int32) < (0 : Int32))), (by decide : (0 : Int32) < (6 : Int32))⟩) rfl) (g := (mkF m 21 #[.val (.int x0), .val .null, .val (.ref b4_0), .val (.int (6 : Int32)), .val (.int (0 : Int32)), .unset] [(.int (0 : Int32)), (.ref b4_0)])) rfl rfl (hb hby d1_21) _ ?_
    show Steps p.tables e below (T4.setTop (mkF m 22 #[.val (.int x0), .val .null, .val (.ref b4_0), .val (.int (6 : Int32)), .val (.int (0 : Int32)), .unset] [(.ref r3)])) _
    refine XS.astore X4.here hx rfl (hb hby d1_22) rfl rfl (l' := #[.val (.int x0), .val .null, .val (.ref b4_0), .val (.int (6 : Int32)), .val (.int (0 : Int32)), .val (.ref r3)]) rfl ?_
    refine XS.aload X4.here hx rfl (hb hby d1_24) rfl rfl ?_
    refine st13 _ ?_
    show Steps p.tables e below (T13.setTop (mkF m 29 #[.val (.int x0), .val .null, .val (.ref b4_0), .val (.int (6 : Int32)), .val (.int (0 : Int32)), .val (.ref r3)] [(.int (1 : Int32))])) _
    refine XS.iloadN X13.here hx rfl (hb hby d1_29) rfl ?_
    refine XS.icmpNo X13.here hx rfl (hb hby d1_30) rfl (teq hc14).2 ?_
    refine XS.aload X13.here hx rfl (hb hby d1_33) rfl rfl ?_
    refine XS.astoreN X13.here hx rfl (hb hby d1_35) rfl rfl (l' := #[.val (.int x0), .val (.ref r3), .val (.ref b4_0), .val (.int (6 : Int32)), .val (.int (0 : Int32)), .val (.ref r3)]) rfl ?_
    show Steps p.tables e below (T13.setTop (mkF m 36 #[.val (.int x0), .val (.ref r3), .val (.ref b4_0), .val (.int (6 : Int32)), .val (.int (0 : Int32)), .val (.ref r3)] [])) _
    refine XS.iinc X13.here hx rfl (hb hby d1_36) rfl (l' := #[.val (.int x0), .val (.ref r3), .val (.ref b4_0), .val (.int (6 : Int32)), .val (.int (1 : Int32)), .val (.ref r3)]) rfl ?_
    refine XS.goto X13.here hx rfl (pc0 := 39) (pc' := 12) rfl (hb hby d1_39) (by decide) (by decide) ?_
    show Steps p.tables e below (T13.setTop (mkF m 12 #[.val (.int x0), .val (.ref r3), .val (.ref b4_0), .val (.int (6 : Int32)), .val (.int (1 : Int32)), .val (.ref r3)] [])) _
    refine XS.iload X13.here hx rfl (hb hby d1_12) rfl ?_
    refine XS.iloadN X13.here hx rfl (hb hby d1_14) rfl ?_
    refine XS.icmpNo X13.here hx rfl (hb hby d1_15) rfl (tlt (by decide : (1 : Int32) < (6 : Int32))).2.1 ?_
    refine XS.aloadN X13.here hx rfl (hb hby d1_18) rfl rfl ?_
    show Steps p.tables e below (T13.setTop (mkF m 19 #[.val (.int x0), .val (.ref r3), .val (.ref b4_0), .val (.int (6 : Int32)), .val (.int (1 : Int32)), .val (.ref r3)] [(.ref b4_0)])) _
    refine XS.iload X13.here hx rfl (hb hby d1_19) rfl ?_
    refine X13.aaload hx (j := (1 : Int32)) (v := (.ref r4)) (by rw [e13]; exact Arq15.1) (State.isArrayOf_alike hZ.alike Arq15.2.1) rfl Arq15.2.2 (inb_of Sq15 ⟨(by decide : ¬ ((1 : Int32) < (0 : Int32))), (by decide : (1 : Int32) < (6 : Int32))⟩) (Has.at Hq15 (inb_of Sq15 ⟨(by decide : ¬ ((1 : Int32) < (0 : Int32))), (by decide : (1 : Int32) < (6 : Int32))⟩) rfl) (g := (mkF m 21 #[.val (.int x0), .val (.ref r3), .val (.ref b4_0), .val (.int (6 : Int32)), .val (.int (1 : Int32)), .val (.ref r3)] [(.int (1 : Int32)), (.ref b4_0)])) rfl rfl (hb hby d1_21) _ ?_
    show Steps p.tables e below (T13.setTop (mkF m 22 #[.val (.int x0), .val (.ref r3), .val (.ref b4_0), .val (.int (6 : Int32)), .val (.int (1 : Int32)), .val (.ref r3)] [(.ref r4)])) _
    refine XS.astore X13.here hx rfl (hb hby d1_22) rfl rfl (l' := #[.val (.int x0), .val (.ref r3), .val (.ref b4_0), .val (.int (6 : Int32)), .val (.int (1 : Int32)), .val (.ref r4)]) rfl ?_
    refine XS.aload X13.here hx rfl (hb hby d1_24) rfl rfl ?_
    refine st18 _ ?_
    show Steps p.tables e below (T18.setTop (mkF m 29 #[.val (.int x0), .val (.ref r3), .val (.ref b4_0), .val (.int (6 : Int32)), .val (.int (1 : Int32)), .val (.ref r4)] [(.int (2 : Int32))])) _
    refine XS.iloadN X18.here hx rfl (hb hby d1_29) rfl ?_
    refine XS.icmpYes X18.here hx rfl (pc0 := 30) (pc' := 36) rfl (hb hby d1_30) rfl (feq hc19).2 (by decide) (by decide) ?_
    show Steps p.tables e below (T18.setTop (mkF m 36 #[.val (.int x0), .val (.ref r3), .val (.ref b4_0), .val (.int (6 : Int32)), .val (.int (1 : Int32)), .val (.ref r4)] [])) _
    refine XS.iinc X18.here hx rfl (hb hby d1_36) rfl (l' := #[.val (.int x0), .val (.ref r3), .val (.ref b4_0), .val (.int (6 : Int32)), .val (.int (2 : Int32)), .val (.ref r4)]) rfl ?_
    refine XS.goto X18.here hx rfl (pc0 := 39) (pc' := 12) rfl (hb hby d1_39) (by decide) (by decide) ?_
    show Steps p.tables e below (T18.setTop (mkF m 12 #[.val (.int x0), .val (.ref r3), .val (.ref b4_0), .val (.int (6 : Int32)), .val (.int (2 : Int32)), .val (.ref r4)] [])) _
    refine XS.iload X18.here hx rfl (hb hby d1_12) rfl ?_
    refine XS.iloadN X18.here hx rfl (hb hby d1_14) rfl ?_
    refine XS.icmpNo X18.here hx rfl (hb hby d1_15) rfl (tlt (by decide : (2 : Int32) < (6 : Int32))).2.1 ?_
    refine XS.aloadN X18.here hx rfl (hb hby d1_18) rfl rfl ?_
    show Steps p.tables e below (T18.setTop (mkF m 19 #[.val (.int x0), .val (.ref r3), .val (.ref b4_0), .val (.int (6 : Int32)), .val (.int (2 : Int32)), .val (.ref r4)] [(.ref b4_0)])) _
    refine XS.iload X18.here hx rfl (hb hby d1_19) rfl ?_
    refine X18.aaload hx (j := (2 : Int32)) (v := (.ref r5)) (by rw [e18]; exact Arq20.1) (State.isArrayOf_alike hZ.alike Arq20.2.1) rfl Arq20.2.2 (inb_of Sq20 ⟨(by decide : ¬ ((2 : Int32) < (0 : Int32))), (by decide : (2 : Int32) < (6 : Int32))⟩) (Has.at Hq20 (inb_of Sq20 ⟨(by decide : ¬ ((2 : Int32) < (0 : Int32))), (by decide : (2 : Int32) < (6 : Int32))⟩) rfl) (g := (mkF m 21 #[.val (.int x0), .val (.ref r3), .val (.ref b4_0), .val (.int (6 : Int32)), .val (.int (2 : Int32)), .val (.ref r4)] [(.int (2 : Int32)), (.ref b4_0)])) rfl rfl (hb hby d1_21) _ ?_
    show Steps p.tables e below (T18.setTop (mkF m 22 #[.val (.int x0), .val (.ref r3), .val (.ref b4_0), .val (.int (6 : Int32)), .val (.int (2 : Int32)), .val (.ref r4)] [(.ref r5)])) _
    refine XS.astore X18.here hx rfl (hb hby d1_22) rfl rfl (l' := #[.val (.int x0), .val (.ref r3), .val (.ref b4_0), .val (.int (6 : Int32)), .val (.int (2 : Int32)), .val (.ref r5)]) rfl ?_
    refine XS.aload X18.here hx rfl (hb hby d1_24) rfl rfl ?_
    refine st23 _ ?_
    show Steps p.tables e below (T23.setTop (mkF m 29 #[.val (.int x0), .val (.ref r3), .val (.ref b4_0), .val (.int (6 : Int32)), .val (.int (2 : Int32)), .val (.ref r5)] [(.int (3 : Int32))])) _
    refine XS.iloadN X23.here hx rfl (hb hby d1_29) rfl ?_
    refine XS.icmpYes X23.here hx rfl (pc0 := 30) (pc' := 36) rfl (hb hby d1_30) rfl (feq hc24).2 (by decide) (by decide) ?_
    show Steps p.tables e below (T23.setTop (mkF m 36 #[.val (.int x0), .val (.ref r3), .val (.ref b4_0), .val (.int (6 : Int32)), .val (.int (2 : Int32)), .val (.ref r5)] [])) _
    refine XS.iinc X23.here hx rfl (hb hby d1_36) rfl (l' := #[.val (.int x0), .val (.ref r3), .val (.ref b4_0), .val (.int (6 : Int32)), .val (.int (3 : Int32)), .val (.ref r5)]) rfl ?_
    refine XS.goto X23.here hx rfl (pc0 := 39) (pc' := 12) rfl (hb hby d1_39) (by decide) (by decide) ?_
    show Steps p.tables e below (T23.setTop (mkF m 12 #[.val (.int x0), .val (.ref r3), .val (.ref b4_0), .val (.int (6 : Int32)), .val (.int (3 : Int32)), .val (.ref r5)] [])) _
    refine XS.iload X23.here hx rfl (hb hby d1_12) rfl ?_
    refine XS.iloadN X23.here hx rfl (hb hby d1_14) rfl ?_
    refine XS.icmpNo X23.here hx rfl (hb hby d1_15) rfl (tlt (by decide : (3 : Int32) < (6 : Int32))).2.1 ?_
    refine XS.aloadN X23.here hx rfl (hb hby d1_18) rfl rfl ?_
    show Steps p.tables e below (T23.setTop (mkF m 19 #[.val (.int x0), .val (.ref r3), .val (.ref b4_0), .val (.int (6 : Int32)), .val (.int (3 : Int32)), .val (.ref r5)] [(.ref b4_0)])) _
    refine XS.iload X23.here hx rfl (hb hby d1_19) rfl ?_
    refine X23.aaload hx (j := (3 : Int32)) (v := (.ref r6)) (by rw [e23]; exact Arq25.1) (State.isArrayOf_alike hZ.alike Arq25.2.1) rfl Arq25.2.2 (inb_of Sq25 ⟨(by decide : ¬ ((3 : Int32) < (0 : Int32))), (by decide : (3 : Int32) < (6 : Int32))⟩) (Has.at Hq25 (inb_of Sq25 ⟨(by decide : ¬ ((3 : Int32) < (0 : Int32))), (by decide : (3 : Int32) < (6 : Int32))⟩) rfl) (g := (mkF m 21 #[.val (.int x0), .val (.ref r3), .val (.ref b4_0), .val (.int (6 : Int32)), .val (.int (3 : Int32)), .val (.ref r5)] [(.int (3 : Int32)), (.ref b4_0)])) rfl rfl (hb hby d1_21) _ ?_
    show Steps p.tables e below (T23.setTop (mkF m 22 #[.val (.int x0), .val (.ref r3), .val (.ref b4_0), .val (.int (6 : Int32)), .val (.int (3 : Int32)), .val (.ref r5)] [(.ref r6)])) _
    refine XS.astore X23.here hx rfl (hb hby d1_22) rfl rfl (l' := #[.val (.int x0), .val (.ref r3), .val (.ref b4_0), .val (.int (6 : Int32)), .val (.int (3 : Int32)), .val (.ref r6)]) rfl ?_
    refine XS.aload X23.here hx rfl (hb hby d1_24) rfl rfl ?_
    refine st28 _ ?_
    show Steps p.tables e below (T28.setTop (mkF m 29 #[.val (.int x0), .val (.ref r3), .val (.ref b4_0), .val (.int (6 : Int32)), .val (.int (3 : Int32)), .val (.ref r6)] [(.int (4 : Int32))])) _
    refine XS.iloadN X28.here hx rfl (hb hby d1_29) rfl ?_
    refine XS.icmpYes X28.here hx rfl (pc0 := 30) (pc' := 36) rfl (hb hby d1_30) rfl (feq hc29).2 (by decide) (by decide) ?_
    show Steps p.tables e below (T28.setTop (mkF m 36 #[.val (.int x0), .val (.ref r3), .val (.ref b4_0), .val (.int (6 : Int32)), .val (.int (3 : Int32)), .val (.ref r6)] [])) _
    refine XS.iinc X28.here hx rfl (hb hby d1_36) rfl (l' := #[.val (.int x0), .val (.ref r3), .val (.ref b4_0), .val (.int (6 : Int32)), .val (.int (4 : Int32)), .val (.ref r6)]) rfl ?_
    refine XS.goto X28.here hx rfl (pc0 := 39) (pc' := 12) rfl (hb hby d1_39) (by decide) (by decide) ?_
    show Steps p.tables e below (T28.setTop (mkF m 12 #[.val (.int x0), .val (.ref r3), .val (.ref b4_0), .val (.int (6 : Int32)), .val (.int (4 : Int32)), .val (.ref r6)] [])) _
    refine XS.iload X28.here hx rfl (hb hby d1_12) rfl ?_
    refine XS.iloadN X28.here hx rfl (hb hby d1_14) rfl ?_
    refine XS.icmpNo X28.here hx rfl (hb hby d1_15) rfl (tlt (by decide : (4 : Int32) < (6 : Int32))).2.1 ?_
    refine XS.aloadN X28.here hx rfl (hb hby d1_18) rfl rfl ?_
    show Steps p.tables e below (T28.setTop (mkF m 19 #[.val (.int x0), .val (.ref r3), .val (.ref b4_0), .val (.int (6 : Int32)), .val (.int (4 : Int32)), .val (.ref r6)] [(.ref b4_0)])) _
    refine XS.iload X28.here hx rfl (hb hby d1_19) rfl ?_
    refine X28.aaload hx (j := (4 : Int32)) (v := (.ref r7)) (by rw [e28]; exact Arq30.1) (State.isArrayOf_alike hZ.alike Arq30.2.1) rfl Arq30.2.2 (inb_of Sq30 ⟨(by decide : ¬ ((4 : Int32) < (0 : Int32))), (by decide : (4 : Int32) < (6 : Int32))⟩) (Has.at Hq30 (inb_of Sq30 ⟨(by decide : ¬ ((4 : Int32) < (0 : Int32))), (by decide : (4 : Int32) < (6 : Int32))⟩) rfl) (g := (mkF m 21 #[.val (.int x0), .val (.ref r3), .val (.ref b4_0), .val (.int (6 : Int32)), .val (.int (4 : Int32)), .val (.ref r6)] [(.int (4 : Int32)), (.ref b4_0)])) rfl rfl (hb hby d1_21) _ ?_
    show Steps p.tables e below (T28.setTop (mkF m 22 #[.val (.int x0), .val (.ref r3), .val (.ref b4_0), .val (.int (6 : Int32)), .val (.int (4 : Int32)), .val (.ref r6)] [(.ref r7)])) _
    refine XS.astore X28.here hx rfl (hb hby d1_22) rfl rfl (l' := #[.val (.int x0), .val (.ref r3), .val (.ref b4_0), .val (.int (6 : Int32)), .val (.int (4 : Int32)), .val (.ref r7)]) rfl ?_
    refine XS.aload X28.here hx rfl (hb hby d1_24) rfl rfl ?_
    refine st33 _ ?_
    show Steps p.tables e below (T33.setTop (mkF m 29 #[.val (.int x0), .val (.ref r3), .val (.ref b4_0), .val (.int (6 : Int32)), .val (.int (4 : Int32)), .val (.ref r7)] [(.int (5 : Int32))])) _
    refine XS.iloadN X33.here hx rfl (hb hby d1_29) rfl ?_
    refine XS.icmpYes X33.here hx rfl (pc0 := 30) (pc' := 36) rfl (hb hby d1_30) rfl (feq hc34).2 (by decide) (by decide) ?_
    show Steps p.tables e below (T33.setTop (mkF m 36 #[.val (.int x0), .val (.ref r3), .val (.ref b4_0), .val (.int (6 : Int32)), .val (.int (4 : Int32)), .val (.ref r7)] [])) _
    refine XS.iinc X33.here hx rfl (hb hby d1_36) rfl (l' := #[.val (.int x0), .val (.ref r3), .val (.ref b4_0), .val (.int (6 : Int32)), .val (.int (5 : Int32)), .val (.ref r7)]) rfl ?_
    refine XS.goto X33.here hx rfl (pc0 := 39) (pc' := 12) rfl (hb hby d1_39) (by decide) (by decide) ?_
    show Steps p.tables e below (T33.setTop (mkF m 12 #[.val (.int x0), .val (.ref r3), .val (.ref b4_0), .val (.int (6 : Int32)), .val (.int (5 : Int32)), .val (.ref r7)] [])) _
    refine XS.iload X33.here hx rfl (hb hby d1_12) rfl ?_
    refine XS.iloadN X33.here hx rfl (hb hby d1_14) rfl ?_
    refine XS.icmpNo X33.here hx rfl (hb hby d1_15) rfl (tlt (by decide : (5 : Int32) < (6 : Int32))).2.1 ?_
    refine XS.aloadN X33.here hx rfl (hb hby d1_18) rfl rfl ?_
    show Steps p.tables e below (T33.setTop (mkF m 19 #[.val (.int x0), .val (.ref r3), .val (.ref b4_0), .val (.int (6 : Int32)), .val (.int (5 : Int32)), .val (.ref r7)] [(.ref b4_0)])) _
    refine XS.iload X33.here hx rfl (hb hby d1_19) rfl ?_
    refine X33.aaload hx (j := (5 : Int32)) (v := (.ref r8)) (by rw [e33]; exact Arq35.1) (State.isArrayOf_alike hZ.alike Arq35.2.1) rfl Arq35.2.2 (inb_of Sq35 ⟨(by decide : ¬ ((5 : Int32) < (0 : Int32))), (by decide : (5 : Int32) < (6 : Int32))⟩) (Has.at Hq35 (inb_of Sq35 ⟨(by decide : ¬ ((5 : Int32) < (0 : Int32))), (by decide : (5 : Int32) < (6 : Int32))⟩) rfl) (g := (mkF m 21 #[.val (.int x0), .val (.ref r3), .val (.ref b4_0), .val (.int (6 : Int32)), .val (.int (5 : Int32)), .val (.ref r7)] [(.int (5 : Int32)), (.ref b4_0)])) rfl rfl (hb hby d1_21) _ ?_
    show Steps p.tables e below (T33.setTop (mkF m 22 #[.val (.int x0), .val (.ref r3), .val (.ref b4_0), .val (.int (6 : Int32)), .val (.int (5 : Int32)), .val (.ref r7)] [(.ref r8)])) _
    refine XS.astore X33.here hx rfl (hb hby d1_22) rfl rfl (l' := #[.val (.int x0), .val (.ref r3), .val (.ref b4_0), .val (.int (6 : Int32)), .val (.int (5 : Int32)), .val (.ref r8)]) rfl ?_
    refine XS.aload X33.here hx rfl (hb hby d1_24) rfl rfl ?_
    refine st38 _ ?_
    show Steps p.tables e below (T38.setTop (mkF m 29 #[.val (.int x0), .val (.ref r3), .val (.ref b4_0), .val (.int (6 : Int32)), .val (.int (5 : Int32)), .val (.ref r8)] [(.int (6 : Int32))])) _
    refine XS.iloadN X38.here hx rfl (hb hby d1_29) rfl ?_
    refine XS.icmpYes X38.here hx rfl (pc0 := 30) (pc' := 36) rfl (hb hby d1_30) rfl (feq hc39).2 (by decide) (by decide) ?_
    show Steps p.tables e below (T38.setTop (mkF m 36 #[.val (.int x0), .val (.ref r3), .val (.ref b4_0), .val (.int (6 : Int32)), .val (.int (5 : Int32)), .val (.ref r8)] [])) _
    refine XS.iinc X38.here hx rfl (hb hby d1_36) rfl (l' := #[.val (.int x0), .val (.ref r3), .val (.ref b4_0), .val (.int (6 : Int32)), .val (.int (6 : Int32)), .val (.ref r8)]) rfl ?_
    refine XS.goto X38.here hx rfl (pc0 := 39) (pc' := 12) rfl (hb hby d1_39) (by decide) (by decide) ?_
    show Steps p.tables e below (T38.setTop (mkF m 12 #[.val (.int x0), .val (.ref r3), .val (.ref b4_0), .val (.int (6 : Int32)), .val (.int (6 : Int32)), .val (.ref r8)] [])) _
    refine XS.iload X38.here hx rfl (hb hby d1_12) rfl ?_
    refine XS.iloadN X38.here hx rfl (hb hby d1_14) rfl ?_
    refine XS.icmpYes X38.here hx rfl (pc0 := 15) (pc' := 42) rfl (hb hby d1_15) rfl (flt (by decide : ¬ ((6 : Int32) < (6 : Int32)))).2.1 (by decide) (by decide) ?_
    show Steps p.tables e below (T38.setTop (mkF m 42 #[.val (.int x0), .val (.ref r3), .val (.ref b4_0), .val (.int (6 : Int32)), .val (.int (6 : Int32)), .val (.ref r8)] [])) _
    refine XS.aloadN X38.here hx rfl (hb hby d1_42) rfl rfl ?_
    exact retOut X38 hx (i := .areturn) Bd.returns rfl (Or.inr (Or.inr (Or.inr (Or.inr ⟨rfl, rfl, rfl⟩)))) (hb hby d1_43) hr
  · show Q1_1 Z x0 r1 c2 r3 r4 r5 r6 r7 r8 h0 n0 _ T38.heap _
    rw [e38]
    exact ⟨rfl, N4, kp40⟩
theorem pd__I_Lcom_example_wiregather_wiregather_wire_FieldType_ : parseMethodDescriptor cs3 = some ⟨[.int], some (.object cs0)⟩ := by decide +kernel
def Q1_2 (Z : State) (x0 : Int32) (r1 : Addr) (c2 : ClassId) (r3 : Addr) (r4 : Addr) (r5 : Addr) (r6 : Addr) (r7 : Addr) (r8 : Addr) (h0 : Heap) (n0 : Nat) (v : Option Value) (h : Heap) (L : List Loc) : Prop := v = some .null ∧ Fr n0 L ∧ Keep h0 h []
set_option maxRecDepth 65536 in
set_option maxHeartbeats 40000000 in
theorem rm1_2 (l : Launch) (Z : State) (a0 : Array Value) (hw : ∀ d ∈ tables_1, d.before a0 Z = true) (ws : List Jvm.Cond) (x0 : Int32) (r1 : Addr) (c2 : ClassId) (r3 : Addr) (r4 : Addr) (r5 : Addr) (r6 : Addr) (r7 : Addr) (r8 : Addr) (h0 : Heap) (n0 : Nat) (O0 : Old Z n0 h0) (f1 : Sta Z Z.heap cs0 "$VALUES" cs1 (.ref r1)) (f2 : Exa Z Z.heap r1 cs1) (f3 : Arv Z Z.heap r1 c2 (.object cs0) (6 : Int32) [(.ref r3), (.ref r4), (.ref r5), (.ref r6), (.ref r7), (.ref r8)] .null) (f10 : Fld Z Z.heap r3 cs0 "code" "I" (.int (1 : Int32))) (hc14 : ¬ ((1 : Int32) = x0)) (f16 : Fld Z Z.heap r4 cs0 "code" "I" (.int (2 : Int32))) (hc19 : ¬ ((2 : Int32) = x0)) (f21 : Fld Z Z.heap r5 cs0 "code" "I" (.int (3 : Int32))) (hc24 : ¬ ((3 : Int32) = x0)) (f26 : Fld Z Z.heap r6 cs0 "code" "I" (.int (4 : Int32))) (hc29 : ¬ ((4 : Int32) = x0)) (f31 : Fld Z Z.heap r7 cs0 "code" "I" (.int (5 : Int32))) (hc34 : ¬ ((5 : Int32) = x0)) (f36 : Fld Z Z.heap r8 cs0 "code" "I" (.int (6 : Int32))) (hc39 : ¬ ((6 : Int32) = x0)) :
    MetFree l (⟨cs0, "ofCode", cs3⟩ : MethodName) (head1 (Jvm.Cond.code (⟨cs0, "ofCode", cs3⟩ : MethodName) prog_72_method_7_code 6 (some (.object cs0)) :: ws) ({ frames := 2, cells := 1, slots := 6, locals := 25 } : Room)) (fun a U => a = #[(.int x0)] ∧ Z.Warmed39 U.vm ∧ U.heap = h0) (fun _ _ _ _ _ => True) (fun _ U o U' => ∃ v L, o = .returned v ∧ Q1_2 Z x0 r1 c2 r3 r4 r5 r6 r7 r8 h0 n0 v U'.heap L ∧ FrameEnd U o U' L ({ frames := 2, cells := 1, slots := 6, locals := 25 } : Room).cells ({ frames := 2, cells := 1, slots := 6, locals := 25 } : Room).slots) := by
  refine MetFree.of_bodySF (plainFor_of_name pn_com_example_wiregather_wiregather_wire_FieldType) hisR ?_
  intro p e s m args below meth c s₁ Bd hml0 hP hK
  obtain ⟨rfl, hZ, hh⟩ := hP
  have hx := Bd.exec
  have hby := Bd.bytes
  have hml : c.maxLocals = 6 := hml0
  have hown : s.vm.findClass cs0 = some m.cls := findClass_of_methodNamed Bd.named
  have hnm := (name_of_methodNamed Bd.named Bd.method).1
  have X0 : Stand p l e ({ frames := 2, cells := 1, slots := 6, locals := 25 } : Room) s m #[(.int x0)] below meth c s₁ [] 0 0 := Stand.of_body Bd
  have e0 : s₁.heap = h0 := by rw [← hh, Bd.state]; rfl
  have N0 := Fr.nil n0
  have pre0 : ∀ t, Steps p.tables e below (s₁.setTop (mkF m 0 #[.val (.int x0), .unset, .unset, .unset, .unset, .unset] [])) t → Steps p.tables e below (s₁.setTop (entryFrame m #[(.int x0)] 6)) t := fun t k => castTop (by first | (simp [entryFrame, mkF, argsToLocals, Value.category]; done) | rfl) k
  obtain ⟨_, _, ⟨T4, L4, k4, n4⟩, -, X4, ⟨Lc4, hQ4, l4, y4, z4⟩, st4⟩ := Jvm.LawKit.callS X0 hx (y := (⟨cs0, "values", cs2⟩ : MethodName)) hown (mvT hZ (ww hw 4 rfl)) (mvT hZ (ww hw 5 rfl)) (mvT hZ (ww hw 2 rfl)) (mvT hZ (ww hw 6 rfl)) (by decide) (backOf (W := 0) (rm2_1 l Z a0 hw [] r1 c2 r3 r4 r5 r6 r7 r8 h0 n0 O0 f1 f2 f3) hZ (ww hw 6 rfl) (ww hw 2 rfl) (by decide) (by decide)) (g := (mkF m 2 #[.val (.int x0), .val .null, .unset, .unset, .unset, .unset] [])) rfl (by rw [hml]; rfl) (argsL := []) (rest := []) (lenOf pd____Lcom_example_wiregather_wiregather_wire_FieldType_ rfl) rfl (by show 2 * 0 + _ ≤ _; exact Nat.le_of_eq rfl) (hb hby d1_2) (fun _ _ => ⟨rfl, e0, (by decide : 0 + 1 ≤ _), (by decide : 0 + 6 ≤ _)⟩)
  dsimp only [Pt.U, Pt.locs, Pt.cells, Pt.slots] at X4 l4 y4 z4 st4 hQ4
  subst l4 y4 z4
  obtain ⟨b4_0, rfl, N4q, K4, f5, f6, f7⟩ := hQ4
  have N4 := Fr.app N0 N4q
  obtain ⟨clq8, Arq8, qq8, Sq8, Nq8, Hq8, Gq8⟩ := id f7
  obtain ⟨clq9, Arq9, qq9, Sq9, Nq9, Hq9, Gq9⟩ := id f7
  have o11 := Old.keep O0 K4 all0
  have f12 := f10.ext o11.2
  obtain ⟨T13, X13, e13, st13⟩ := getF X4 hx hZ hown (host := "") (Or.inl (ww hw 25 rfl)) Via.refl rfl f12 (g := (mkF m 26 #[.val (.int x0), .val .null, .val (.ref b4_0), .val (.int (6 : Int32)), .val (.int (0 : Int32)), .val (.ref r3)] [(.ref r3)])) rfl rfl (hb hby d1_26)
  obtain ⟨clq15, Arq15, qq15, Sq15, Nq15, Hq15, Gq15⟩ := id f7
  have f17 := f16.ext o11.2
  obtain ⟨T18, X18, e18, st18⟩ := getF X13 hx hZ hown (host := "") (Or.inl (ww hw 25 rfl)) Via.refl e13 f17 (g := (mkF m 26 #[.val (.int x0), .val .null, .val (.ref b4_0), .val (.int (6 : Int32)), .val (.int (1 : Int32)), .val (.ref r4)] [(.ref r4)])) rfl rfl (hb hby d1_26)
  obtain ⟨clq20, Arq20, qq20, Sq20, Nq20, Hq20, Gq20⟩ := id f7
  have f22 := f21.ext o11.2
  obtain ⟨T23, X23, e23, st23⟩ := getF X18 hx hZ hown (host := "") (Or.inl (ww hw 25 rfl)) Via.refl e18 f22 (g := (mkF m 26 #[.val (.int x0), .val .null, .val (.ref b4_0), .val (.int (6 : Int32)), .val (.int (2 : Int32)), .val (.ref r5)] [(.ref r5)])) rfl rfl (hb hby d1_26)
  obtain ⟨clq25, Arq25, qq25, Sq25, Nq25, Hq25, Gq25⟩ := id f7
  have f27 := f26.ext o11.2
  obtain ⟨T28, X28, e28, st28⟩ := getF X23 hx hZ hown (host := "") (Or.inl (ww hw 25 rfl)) Via.refl e23 f27 (g := (mkF m 26 #[.val (.int x0), .val .null, .val (.ref b4_0), .val (.int (6 : Int32)), .val (.int (3 : Int32)), .val (.ref r6)] [(.ref r6)])) rfl rfl (hb hby d1_26)
  obtain ⟨clq30, Arq30, qq30, Sq30, Nq30, Hq30, Gq30⟩ := id f7
  have f32 := f31.ext o11.2
  obtain ⟨T33, X33, e33, st33⟩ := getF X28 hx hZ hown (host := "") (Or.inl (ww hw 25 rfl)) Via.refl e28 f32 (g := (mkF m 26 #[.val (.int x0), .val .null, .val (.ref b4_0), .val (.int (6 : Int32)), .val (.int (4 : Int32)), .val (.ref r7)] [(.ref r7)])) rfl rfl (hb hby d1_26)
  obtain ⟨clq35, Arq35, qq35, Sq35, Nq35, Hq35, Gq35⟩ := id f7
  have f37 := f36.ext o11.2
  obtain ⟨T38, X38, e38, st38⟩ := getF X33 hx hZ hown (host := "") (Or.inl (ww hw 25 rfl)) Via.refl e33 f37 (g := (mkF m 26 #[.val (.int x0), .val .null, .val (.ref b4_0), .val (.int (6 : Int32)), .val (.int (5 : Int32)), .val (.ref r8)] [(.ref r8)])) rfl rfl (hb hby d1_26)
  have kp40 : Keep h0 T4.heap [] := (Keep.refl h0 []).trans K4 all0
  obtain ⟨fs, hr, hrun, hended, hW, hsame⟩ := X38.leave (v := some .null) (fun h => by rw [Bd.returns] at h; cases h)
  refine ⟨_, _, pre0 _ ?_, hrun, hended, _, _, rfl, ?_, ⟨_, rfl⟩, hW, hsame.mono (by decide) (by decide)⟩
  · show Steps p.tables e below (s₁.setTop (mkF m 0 #[.val (.int x0), .unset, .unset, .unset, .unset, .unset] [])) _
    refine XS.aconstNull X0.here hx rfl (hb hby d1_0) ?_
    refine XS.astoreN X0.here hx rfl (hb hby d1_1) rfl rfl (l' := #[.val (.int x0), .val .null, .unset, .unset, .unset, .unset]) rfl ?_
    refine st4 _ ?_
    show Steps p.tables e below (T4.setTop (mkF m 5 #[.val (.int x0), .val .null, .unset, .unset, .unset, .unset] [(.ref b4_0)])) _
    refine XS.astoreN X4.here hx rfl (hb hby d1_5) rfl rfl (l' := #[.val (.int x0), .val .null, .val (.ref b4_0), .unset, .unset, .unset]) rfl ?_
    refine XS.aloadN X4.here hx rfl (hb hby d1_6) rfl rfl ?_
    refine X4.arraylength hx (Arq8.1) (State.isArrayOf_alike hZ.alike Arq8.2.1) (g := (mkF m 7 #[.val (.int x0), .val .null, .val (.ref b4_0), .unset, .unset, .unset] [(.ref b4_0)])) rfl rfl (hb hby d1_7) _ ?_
    rw [len_of Sq8 Nq8]
    show Steps p.tables e below (T4.setTop (mkF m 8 #[.val (.int x0), .val .null, .val (.ref b4_0), .unset, .unset, .unset] [(.int (6 : Int32))])) _
    refine XS.istoreN X4.here hx rfl (hb hby d1_8) rfl (l' := #[.val (.int x0), .val .null, .val (.ref b4_0), .val (.int (6 : Int32)), .unset, .unset]) rfl ?_
    refine XS.iconst X4.here hx rfl (hb hby d1_9) ?_
    refine XS.istore X4.here hx rfl (hb hby d1_10) rfl (l' := #[.val (.int x0), .val .null, .val (.ref b4_0), .val (.int (6 : Int32)), .val (.int (0 : Int32)), .unset]) rfl ?_
    refine XS.iload X4.here hx rfl (hb hby d1_12) rfl ?_
    show Steps p.tables e below (T4.setTop (mkF m 14 #[.val (.int x0), .val .null, .val (.ref b4_0), .val (.int (6 : Int32)), .val (.int (0 : Int32)), .unset] [(.int (0 : Int32))])) _
    refine XS.iloadN X4.here hx rfl (hb hby d1_14) rfl ?_
    refine XS.icmpNo X4.here hx rfl (hb hby d1_15) rfl (tlt (by decide : (0 : Int32) < (6 : Int32))).2.1 ?_
    refine XS.aloadN X4.here hx rfl (hb hby d1_18) rfl rfl ?_
    refine XS.iload X4.here hx rfl (hb hby d1_19) rfl ?_
    show Steps p.tables e below (T4.setTop (mkF m 21 #[.val (.int x0), .val .null, .val (.ref b4_0), .val (.int (6 : Int32)), .val (.int (0 : Int32)), .unset] [(.int (0 : Int32)), (.ref b4_0)])) _
    refine X4.aaload hx (j := (0 : Int32)) (v := (.ref r3)) (Arq9.1) (State.isArrayOf_alike hZ.alike Arq9.2.1) rfl Arq9.2.2 (inb_of Sq9 ⟨(by decide : ¬ ((0 : Int32) < (0 : Int32))), (by decide : (0 : Int32) < (6 : Int32))⟩) (Has.at Hq9 (inb_of Sq9 ⟨(by decide : ¬ ((0 : Int32) < (0 : Int32))), (by decide : (0 : Int32) < (6 : Int32))⟩) rfl) (g := (mkF m 21 #[.val (.int x0), .val .null, .val (.ref b4_0), .val (.int (6 : Int32)), .val (.int (0 : Int32)), .unset] [(.int (0 : Int32)), (.ref b4_0)])) rfl rfl (hb hby d1_21) _ ?_
    show Steps p.tables e below (T4.setTop (mkF m 22 #[.val (.int x0), .val .null, .val (.ref b4_0), .val (.int (6 : Int32)), .val (.int (0 : Int32)), .unset] [(.ref r3)])) _
    refine XS.astore X4.here hx rfl (hb hby d1_22) rfl rfl (l' := #[.val (.int x0), .val .null, .val (.ref b4_0), .val (.int (6 : Int32)), .val (.int (0 : Int32)), .val (.ref r3)]) rfl ?_
    refine XS.aload X4.here hx rfl (hb hby d1_24) rfl rfl ?_
    refine st13 _ ?_
    show Steps p.tables e below (T13.setTop (mkF m 29 #[.val (.int x0), .val .null, .val (.ref b4_0), .val (.int (6 : Int32)), .val (.int (0 : Int32)), .val (.ref r3)] [(.int (1 : Int32))])) _
    refine XS.iloadN X13.here hx rfl (hb hby d1_29) rfl ?_
    refine XS.icmpYes X13.here hx rfl (pc0 := 30) (pc' := 36) rfl (hb hby d1_30) rfl (feq hc14).2 (by decide) (by decide) ?_
    show Steps p.tables e below (T13.setTop (mkF m 36 #[.val (.int x0), .val .null, .val (.ref b4_0), .val (.int (6 : Int32)), .val (.int (0 : Int32)), .val (.ref r3)] [])) _
    refine XS.iinc X13.here hx rfl (hb hby d1_36) rfl (l' := #[.val (.int x0), .val .null, .val (.ref b4_0), .val (.int (6 : Int32)), .val (.int (1 : Int32)), .val (.ref r3)]) rfl ?_
    refine XS.goto X13.here hx rfl (pc0 := 39) (pc' := 12) rfl (hb hby d1_39) (by decide) (by decide) ?_
    show Steps p.tables e below (T13.setTop (mkF m 12 #[.val (.int x0), .val .null, .val (.ref b4_0), .val (.int (6 : Int32)), .val (.int (1 : Int32)), .val (.ref r3)] [])) _
    refine XS.iload X13.here hx rfl (hb hby d1_12) rfl ?_
    refine XS.iloadN X13.here hx rfl (hb hby d1_14) rfl ?_
    refine XS.icmpNo X13.here hx rfl (hb hby d1_15) rfl (tlt (by decide : (1 : Int32) < (6 : Int32))).2.1 ?_
    refine XS.aloadN X13.here hx rfl (hb hby d1_18) rfl rfl ?_
    show Steps p.tables e below (T13.setTop (mkF m 19 #[.val (.int x0), .val .null, .val (.ref b4_0), .val (.int (6 : Int32)), .val (.int (1 : Int32)), .val (.ref r3)] [(.ref b4_0)])) _
    refine XS.iload X13.here hx rfl (hb hby d1_19) rfl ?_
    refine X13.aaload hx (j := (1 : Int32)) (v := (.ref r4)) (by rw [e13]; exact Arq15.1) (State.isArrayOf_alike hZ.alike Arq15.2.1) rfl Arq15.2.2 (inb_of Sq15 ⟨(by decide : ¬ ((1 : Int32) < (0 : Int32))), (by decide : (1 : Int32) < (6 : Int32))⟩) (Has.at Hq15 (inb_of Sq15 ⟨(by decide : ¬ ((1 : Int32) < (0 : Int32))), (by decide : (1 : Int32) < (6 : Int32))⟩) rfl) (g := (mkF m 21 #[.val (.int x0), .val .null, .val (.ref b4_0), .val (.int (6 : Int32)), .val (.int (1 : Int32)), .val (.ref r3)] [(.int (1 : Int32)), (.ref b4_0)])) rfl rfl (hb hby d1_21) _ ?_
    show Steps p.tables e below (T13.setTop (mkF m 22 #[.val (.int x0), .val .null, .val (.ref b4_0), .val (.int (6 : Int32)), .val (.int (1 : Int32)), .val (.ref r3)] [(.ref r4)])) _
    refine XS.astore X13.here hx rfl (hb hby d1_22) rfl rfl (l' := #[.val (.int x0), .val .null, .val (.ref b4_0), .val (.int (6 : Int32)), .val (.int (1 : Int32)), .val (.ref r4)]) rfl ?_
    refine XS.aload X13.here hx rfl (hb hby d1_24) rfl rfl ?_
    refine st18 _ ?_
    show Steps p.tables e below (T18.setTop (mkF m 29 #[.val (.int x0), .val .null, .val (.ref b4_0), .val (.int (6 : Int32)), .val (.int (1 : Int32)), .val (.ref r4)] [(.int (2 : Int32))])) _
    refine XS.iloadN X18.here hx rfl (hb hby d1_29) rfl ?_
    refine XS.icmpYes X18.here hx rfl (pc0 := 30) (pc' := 36) rfl (hb hby d1_30) rfl (feq hc19).2 (by decide) (by decide) ?_
    show Steps p.tables e below (T18.setTop (mkF m 36 #[.val (.int x0), .val .null, .val (.ref b4_0), .val (.int (6 : Int32)), .val (.int (1 : Int32)), .val (.ref r4)] [])) _
    refine XS.iinc X18.here hx rfl (hb hby d1_36) rfl (l' := #[.val (.int x0), .val .null, .val (.ref b4_0), .val (.int (6 : Int32)), .val (.int (2 : Int32)), .val (.ref r4)]) rfl ?_
    refine XS.goto X18.here hx rfl (pc0 := 39) (pc' := 12) rfl (hb hby d1_39) (by decide) (by decide) ?_
    show Steps p.tables e below (T18.setTop (mkF m 12 #[.val (.int x0), .val .null, .val (.ref b4_0), .val (.int (6 : Int32)), .val (.int (2 : Int32)), .val (.ref r4)] [])) _
    refine XS.iload X18.here hx rfl (hb hby d1_12) rfl ?_
    refine XS.iloadN X18.here hx rfl (hb hby d1_14) rfl ?_
    refine XS.icmpNo X18.here hx rfl (hb hby d1_15) rfl (tlt (by decide : (2 : Int32) < (6 : Int32))).2.1 ?_
    refine XS.aloadN X18.here hx rfl (hb hby d1_18) rfl rfl ?_
    show Steps p.tables e below (T18.setTop (mkF m 19 #[.val (.int x0), .val .null, .val (.ref b4_0), .val (.int (6 : Int32)), .val (.int (2 : Int32)), .val (.ref r4)] [(.ref b4_0)])) _
    refine XS.iload X18.here hx rfl (hb hby d1_19) rfl ?_
    refine X18.aaload hx (j := (2 : Int32)) (v := (.ref r5)) (by rw [e18]; exact Arq20.1) (State.isArrayOf_alike hZ.alike Arq20.2.1) rfl Arq20.2.2 (inb_of Sq20 ⟨(by decide : ¬ ((2 : Int32) < (0 : Int32))), (by decide : (2 : Int32) < (6 : Int32))⟩) (Has.at Hq20 (inb_of Sq20 ⟨(by decide : ¬ ((2 : Int32) < (0 : Int32))), (by decide : (2 : Int32) < (6 : Int32))⟩) rfl) (g := (mkF m 21 #[.val (.int x0), .val .null, .val (.ref b4_0), .val (.int (6 : Int32)), .val (.int (2 : Int32)), .val (.ref r4)] [(.int (2 : Int32)), (.ref b4_0)])) rfl rfl (hb hby d1_21) _ ?_
    show Steps p.tables e below (T18.setTop (mkF m 22 #[.val (.int x0), .val .null, .val (.ref b4_0), .val (.int (6 : Int32)), .val (.int (2 : Int32)), .val (.ref r4)] [(.ref r5)])) _
    refine XS.astore X18.here hx rfl (hb hby d1_22) rfl rfl (l' := #[.val (.int x0), .val .null, .val (.ref b4_0), .val (.int (6 : Int32)), .val (.int (2 : Int32)), .val (.ref r5)]) rfl ?_
    refine XS.aload X18.here hx rfl (hb hby d1_24) rfl rfl ?_
    refine st23 _ ?_
    show Steps p.tables e below (T23.setTop (mkF m 29 #[.val (.int x0), .val .null, .val (.ref b4_0), .val (.int (6 : Int32)), .val (.int (2 : Int32)), .val (.ref r5)] [(.int (3 : Int32))])) _
    refine XS.iloadN X23.here hx rfl (hb hby d1_29) rfl ?_
    refine XS.icmpYes X23.here hx rfl (pc0 := 30) (pc' := 36) rfl (hb hby d1_30) rfl (feq hc24).2 (by decide) (by decide) ?_
    show Steps p.tables e below (T23.setTop (mkF m 36 #[.val (.int x0), .val .null, .val (.ref b4_0), .val (.int (6 : Int32)), .val (.int (2 : Int32)), .val (.ref r5)] [])) _
    refine XS.iinc X23.here hx rfl (hb hby d1_36) rfl (l' := #[.val (.int x0), .val .null, .val (.ref b4_0), .val (.int (6 : Int32)), .val (.int (3 : Int32)), .val (.ref r5)]) rfl ?_
    refine XS.goto X23.here hx rfl (pc0 := 39) (pc' := 12) rfl (hb hby d1_39) (by decide) (by decide) ?_
    show Steps p.tables e below (T23.setTop (mkF m 12 #[.val (.int x0), .val .null, .val (.ref b4_0), .val (.int (6 : Int32)), .val (.int (3 : Int32)), .val (.ref r5)] [])) _
    refine XS.iload X23.here hx rfl (hb hby d1_12) rfl ?_
    refine XS.iloadN X23.here hx rfl (hb hby d1_14) rfl ?_
    refine XS.icmpNo X23.here hx rfl (hb hby d1_15) rfl (tlt (by decide : (3 : Int32) < (6 : Int32))).2.1 ?_
    refine XS.aloadN X23.here hx rfl (hb hby d1_18) rfl rfl ?_
    show Steps p.tables e below (T23.setTop (mkF m 19 #[.val (.int x0), .val .null, .val (.ref b4_0), .val (.int (6 : Int32)), .val (.int (3 : Int32)), .val (.ref r5)] [(.ref b4_0)])) _
    refine XS.iload X23.here hx rfl (hb hby d1_19) rfl ?_
    refine X23.aaload hx (j := (3 : Int32)) (v := (.ref r6)) (by rw [e23]; exact Arq25.1) (State.isArrayOf_alike hZ.alike Arq25.2.1) rfl Arq25.2.2 (inb_of Sq25 ⟨(by decide : ¬ ((3 : Int32) < (0 : Int32))), (by decide : (3 : Int32) < (6 : Int32))⟩) (Has.at Hq25 (inb_of Sq25 ⟨(by decide : ¬ ((3 : Int32) < (0 : Int32))), (by decide : (3 : Int32) < (6 : Int32))⟩) rfl) (g := (mkF m 21 #[.val (.int x0), .val .null, .val (.ref b4_0), .val (.int (6 : Int32)), .val (.int (3 : Int32)), .val (.ref r5)] [(.int (3 : Int32)), (.ref b4_0)])) rfl rfl (hb hby d1_21) _ ?_
    show Steps p.tables e below (T23.setTop (mkF m 22 #[.val (.int x0), .val .null, .val (.ref b4_0), .val (.int (6 : Int32)), .val (.int (3 : Int32)), .val (.ref r5)] [(.ref r6)])) _
    refine XS.astore X23.here hx rfl (hb hby d1_22) rfl rfl (l' := #[.val (.int x0), .val .null, .val (.ref b4_0), .val (.int (6 : Int32)), .val (.int (3 : Int32)), .val (.ref r6)]) rfl ?_
    refine XS.aload X23.here hx rfl (hb hby d1_24) rfl rfl ?_
    refine st28 _ ?_
    show Steps p.tables e below (T28.setTop (mkF m 29 #[.val (.int x0), .val .null, .val (.ref b4_0), .val (.int (6 : Int32)), .val (.int (3 : Int32)), .val (.ref r6)] [(.int (4 : Int32))])) _
    refine XS.iloadN X28.here hx rfl (hb hby d1_29) rfl ?_
    refine XS.icmpYes X28.here hx rfl (pc0 := 30) (pc' := 36) rfl (hb hby d1_30) rfl (feq hc29).2 (by decide) (by decide) ?_
    show Steps p.tables e below (T28.setTop (mkF m 36 #[.val (.int x0), .val .null, .val (.ref b4_0), .val (.int (6 : Int32)), .val (.int (3 : Int32)), .val (.ref r6)] [])) _
    refine XS.iinc X28.here hx rfl (hb hby d1_36) rfl (l' := #[.val (.int x0), .val .null, .val (.ref b4_0), .val (.int (6 : Int32)), .val (.int (4 : Int32)), .val (.ref r6)]) rfl ?_
    refine XS.goto X28.here hx rfl (pc0 := 39) (pc' := 12) rfl (hb hby d1_39) (by decide) (by decide) ?_
    show Steps p.tables e below (T28.setTop (mkF m 12 #[.val (.int x0), .val .null, .val (.ref b4_0), .val (.int (6 : Int32)), .val (.int (4 : Int32)), .val (.ref r6)] [])) _
    refine XS.iload X28.here hx rfl (hb hby d1_12) rfl ?_
    refine XS.iloadN X28.here hx rfl (hb hby d1_14) rfl ?_
    refine XS.icmpNo X28.here hx rfl (hb hby d1_15) rfl (tlt (by decide : (4 : Int32) < (6 : Int32))).2.1 ?_
    refine XS.aloadN X28.here hx rfl (hb hby d1_18) rfl rfl ?_
    show Steps p.tables e below (T28.setTop (mkF m 19 #[.val (.int x0), .val .null, .val (.ref b4_0), .val (.int (6 : Int32)), .val (.int (4 : Int32)), .val (.ref r6)] [(.ref b4_0)])) _
    refine XS.iload X28.here hx rfl (hb hby d1_19) rfl ?_
    refine X28.aaload hx (j := (4 : Int32)) (v := (.ref r7)) (by rw [e28]; exact Arq30.1) (State.isArrayOf_alike hZ.alike Arq30.2.1) rfl Arq30.2.2 (inb_of Sq30 ⟨(by decide : ¬ ((4 : Int32) < (0 : Int32))), (by decide : (4 : Int32) < (6 : Int32))⟩) (Has.at Hq30 (inb_of Sq30 ⟨(by decide : ¬ ((4 : Int32) < (0 : Int32))), (by decide : (4 : Int32) < (6 : Int32))⟩) rfl) (g := (mkF m 21 #[.val (.int x0), .val .null, .val (.ref b4_0), .val (.int (6 : Int32)), .val (.int (4 : Int32)), .val (.ref r6)] [(.int (4 : Int32)), (.ref b4_0)])) rfl rfl (hb hby d1_21) _ ?_
    show Steps p.tables e below (T28.setTop (mkF m 22 #[.val (.int x0), .val .null, .val (.ref b4_0), .val (.int (6 : Int32)), .val (.int (4 : Int32)), .val (.ref r6)] [(.ref r7)])) _
    refine XS.astore X28.here hx rfl (hb hby d1_22) rfl rfl (l' := #[.val (.int x0), .val .null, .val (.ref b4_0), .val (.int (6 : Int32)), .val (.int (4 : Int32)), .val (.ref r7)]) rfl ?_
    refine XS.aload X28.here hx rfl (hb hby d1_24) rfl rfl ?_
    refine st33 _ ?_
    show Steps p.tables e below (T33.setTop (mkF m 29 #[.val (.int x0), .val .null, .val (.ref b4_0), .val (.int (6 : Int32)), .val (.int (4 : Int32)), .val (.ref r7)] [(.int (5 : Int32))])) _
    refine XS.iloadN X33.here hx rfl (hb hby d1_29) rfl ?_
    refine XS.icmpYes X33.here hx rfl (pc0 := 30) (pc' := 36) rfl (hb hby d1_30) rfl (feq hc34).2 (by decide) (by decide) ?_
    show Steps p.tables e below (T33.setTop (mkF m 36 #[.val (.int x0), .val .null, .val (.ref b4_0), .val (.int (6 : Int32)), .val (.int (4 : Int32)), .val (.ref r7)] [])) _
    refine XS.iinc X33.here hx rfl (hb hby d1_36) rfl (l' := #[.val (.int x0), .val .null, .val (.ref b4_0), .val (.int (6 : Int32)), .val (.int (5 : Int32)), .val (.ref r7)]) rfl ?_
    refine XS.goto X33.here hx rfl (pc0 := 39) (pc' := 12) rfl (hb hby d1_39) (by decide) (by decide) ?_
    show Steps p.tables e below (T33.setTop (mkF m 12 #[.val (.int x0), .val .null, .val (.ref b4_0), .val (.int (6 : Int32)), .val (.int (5 : Int32)), .val (.ref r7)] [])) _
    refine XS.iload X33.here hx rfl (hb hby d1_12) rfl ?_
    refine XS.iloadN X33.here hx rfl (hb hby d1_14) rfl ?_
    refine XS.icmpNo X33.here hx rfl (hb hby d1_15) rfl (tlt (by decide : (5 : Int32) < (6 : Int32))).2.1 ?_
    refine XS.aloadN X33.here hx rfl (hb hby d1_18) rfl rfl ?_
    show Steps p.tables e below (T33.setTop (mkF m 19 #[.val (.int x0), .val .null, .val (.ref b4_0), .val (.int (6 : Int32)), .val (.int (5 : Int32)), .val (.ref r7)] [(.ref b4_0)])) _
    refine XS.iload X33.here hx rfl (hb hby d1_19) rfl ?_
    refine X33.aaload hx (j := (5 : Int32)) (v := (.ref r8)) (by rw [e33]; exact Arq35.1) (State.isArrayOf_alike hZ.alike Arq35.2.1) rfl Arq35.2.2 (inb_of Sq35 ⟨(by decide : ¬ ((5 : Int32) < (0 : Int32))), (by decide : (5 : Int32) < (6 : Int32))⟩) (Has.at Hq35 (inb_of Sq35 ⟨(by decide : ¬ ((5 : Int32) < (0 : Int32))), (by decide : (5 : Int32) < (6 : Int32))⟩) rfl) (g := (mkF m 21 #[.val (.int x0), .val .null, .val (.ref b4_0), .val (.int (6 : Int32)), .val (.int (5 : Int32)), .val (.ref r7)] [(.int (5 : Int32)), (.ref b4_0)])) rfl rfl (hb hby d1_21) _ ?_
    show Steps p.tables e below (T33.setTop (mkF m 22 #[.val (.int x0), .val .null, .val (.ref b4_0), .val (.int (6 : Int32)), .val (.int (5 : Int32)), .val (.ref r7)] [(.ref r8)])) _
    refine XS.astore X33.here hx rfl (hb hby d1_22) rfl rfl (l' := #[.val (.int x0), .val .null, .val (.ref b4_0), .val (.int (6 : Int32)), .val (.int (5 : Int32)), .val (.ref r8)]) rfl ?_
    refine XS.aload X33.here hx rfl (hb hby d1_24) rfl rfl ?_
    refine st38 _ ?_
    show Steps p.tables e below (T38.setTop (mkF m 29 #[.val (.int x0), .val .null, .val (.ref b4_0), .val (.int (6 : Int32)), .val (.int (5 : Int32)), .val (.ref r8)] [(.int (6 : Int32))])) _
    refine XS.iloadN X38.here hx rfl (hb hby d1_29) rfl ?_
    refine XS.icmpYes X38.here hx rfl (pc0 := 30) (pc' := 36) rfl (hb hby d1_30) rfl (feq hc39).2 (by decide) (by decide) ?_
    show Steps p.tables e below (T38.setTop (mkF m 36 #[.val (.int x0), .val .null, .val (.ref b4_0), .val (.int (6 : Int32)), .val (.int (5 : Int32)), .val (.ref r8)] [])) _
    refine XS.iinc X38.here hx rfl (hb hby d1_36) rfl (l' := #[.val (.int x0), .val .null, .val (.ref b4_0), .val (.int (6 : Int32)), .val (.int (6 : Int32)), .val (.ref r8)]) rfl ?_
    refine XS.goto X38.here hx rfl (pc0 := 39) (pc' := 12) rfl (hb hby d1_39) (by decide) (by decide) ?_
    show Steps p.tables e below (T38.setTop (mkF m 12 #[.val (.int x0), .val .null, .val (.ref b4_0), .val (.int (6 : Int32)), .val (.int (6 : Int32)), .val (.ref r8)] [])) _
    refine XS.iload X38.here hx rfl (hb hby d1_12) rfl ?_
    refine XS.iloadN X38.here hx rfl (hb hby d1_14) rfl ?_
    refine XS.icmpYes X38.here hx rfl (pc0 := 15) (pc' := 42) rfl (hb hby d1_15) rfl (flt (by decide : ¬ ((6 : Int32) < (6 : Int32)))).2.1 (by decide) (by decide) ?_
    show Steps p.tables e below (T38.setTop (mkF m 42 #[.val (.int x0), .val .null, .val (.ref b4_0), .val (.int (6 : Int32)), .val (.int (6 : Int32)), .val (.ref r8)] [])) _
    refine XS.aloadN X38.here hx rfl (hb hby d1_42) rfl rfl ?_
    exact retOut X38 hx (i := .areturn) Bd.returns rfl (Or.inr (Or.inr (Or.inr (Or.inr ⟨rfl, rfl, rfl⟩)))) (hb hby d1_43) hr
  · show Q1_2 Z x0 r1 c2 r3 r4 r5 r6 r7 r8 h0 n0 _ T38.heap _
    rw [e38]
    exact ⟨rfl, N4, kp40⟩
theorem d3_0 : decode method_2_code 0 = .ok (.iload_n 0, 1) := by decide +kernel
theorem d3_1 : decode method_2_code 1 = .ok (.iconst 1, 1) := by decide +kernel
theorem d3_2 : decode method_2_code 2 = .ok (.if_icmp .ne 7, 3) := by decide +kernel
theorem d3_5 : decode method_2_code 5 = .ok (.getstatic 7, 3) := by decide +kernel
theorem d3_8 : decode method_2_code 8 = .ok (.areturn, 1) := by decide +kernel
theorem pn_com_example_wiregather_wiregather_wire_FieldTypeOfCodePinLaw : plainName cs4 = true := by first | (simp [plainName, overriddenIn]; done) | decide +kernel
def Q3_1 (Z : State) (x0 : Int32) (r1 : Addr) (h0 : Heap) (n0 : Nat) (v : Option Value) (h : Heap) (L : List Loc) : Prop := v = some (.ref r1) ∧ Fr n0 L ∧ h = h0
set_option maxRecDepth 65536 in
set_option maxHeartbeats 40000000 in
theorem rm3_1 (l : Launch) (Z : State) (a0 : Array Value) (hw : ∀ d ∈ tables_1, d.before a0 Z = true) (ws : List Jvm.Cond) (x0 : Int32) (r1 : Addr) (h0 : Heap) (n0 : Nat) (O0 : Old Z n0 h0) (hc1 : x0 = (1 : Int32)) (f2 : Sta Z Z.heap cs0 "I32" cs5 (.ref r1)) :
    MetFree l (⟨cs4, "expected", cs3⟩ : MethodName) (head1 (Jvm.Cond.code (⟨cs4, "expected", cs3⟩ : MethodName) method_2_code 1 (some (.object cs0)) :: ws) ({ frames := 0, cells := 0, slots := 0, locals := 0 } : Room)) (fun a U => a = #[(.int x0)] ∧ Z.Warmed39 U.vm ∧ U.heap = h0) (fun _ _ _ _ _ => True) (fun _ U o U' => ∃ v L, o = .returned v ∧ Q3_1 Z x0 r1 h0 n0 v U'.heap L ∧ FrameEnd U o U' L ({ frames := 0, cells := 0, slots := 0, locals := 0 } : Room).cells ({ frames := 0, cells := 0, slots := 0, locals := 0 } : Room).slots) := by
  refine MetFree.of_bodySF (plainFor_of_name pn_com_example_wiregather_wiregather_wire_FieldTypeOfCodePinLaw) hisR ?_
  intro p e s m args below meth c s₁ Bd hml0 hP hK
  obtain ⟨rfl, hZ, hh⟩ := hP
  have hx := Bd.exec
  have hby := Bd.bytes
  have hml : c.maxLocals = 1 := hml0
  have hown : s.vm.findClass cs4 = some m.cls := findClass_of_methodNamed Bd.named
  have hnm := (name_of_methodNamed Bd.named Bd.method).1
  have X0 : Stand p l e ({ frames := 0, cells := 0, slots := 0, locals := 0 } : Room) s m #[(.int x0)] below meth c s₁ [] 0 0 := Stand.of_body Bd
  have e0 : s₁.heap = h0 := by rw [← hh, Bd.state]; rfl
  have N0 := Fr.nil n0
  have pre0 : ∀ t, Steps p.tables e below (s₁.setTop (mkF m 0 #[.val (.int x0)] [])) t → Steps p.tables e below (s₁.setTop (entryFrame m #[(.int x0)] 1)) t := fun t k => castTop (by first | (simp [entryFrame, mkF, argsToLocals, Value.category]; done) | rfl) k
  have f3 := f2.ext O0.2
  obtain ⟨T4, X4, e4, st4⟩ := getS2 X0 hx hZ hown (host := "") (Or.inl (ww hw 32 rfl)) Via.refl e0 f3 (g := (mkF m 5 #[.val (.int x0)] [])) rfl (hb hby d3_5)
  obtain ⟨fs, hr, hrun, hended, hW, hsame⟩ := X4.leave (v := some (.ref r1)) (fun h => by rw [Bd.returns] at h; cases h)
  refine ⟨_, _, pre0 _ ?_, hrun, hended, _, _, rfl, ?_, ⟨_, rfl⟩, hW, hsame.mono (by decide) (by decide)⟩
  · show Steps p.tables e below (s₁.setTop (mkF m 0 #[.val (.int x0)] [])) _
    refine XS.iloadN X0.here hx rfl (hb hby d3_0) rfl ?_
    refine XS.iconst X0.here hx rfl (hb hby d3_1) ?_
    refine XS.icmpNo X0.here hx rfl (hb hby d3_2) rfl (teq hc1).2 ?_
    refine st4 _ ?_
    show Steps p.tables e below (T4.setTop (mkF m 8 #[.val (.int x0)] [(.ref r1)])) _
    exact retOut X4 hx (i := .areturn) Bd.returns rfl (Or.inr (Or.inr (Or.inr (Or.inr ⟨rfl, rfl, rfl⟩)))) (hb hby d3_8) hr
  · show Q3_1 Z x0 r1 h0 n0 _ T4.heap _
    rw [e4]
    exact ⟨rfl, N0, rfl⟩
theorem d3_9 : decode method_2_code 9 = .ok (.iload_n 0, 1) := by decide +kernel
theorem d3_10 : decode method_2_code 10 = .ok (.iconst 2, 1) := by decide +kernel
theorem d3_11 : decode method_2_code 11 = .ok (.if_icmp .ne 7, 3) := by decide +kernel
theorem d3_18 : decode method_2_code 18 = .ok (.iload_n 0, 1) := by decide +kernel
theorem d3_19 : decode method_2_code 19 = .ok (.iconst 3, 1) := by decide +kernel
theorem d3_20 : decode method_2_code 20 = .ok (.if_icmp .ne 7, 3) := by decide +kernel
theorem d3_27 : decode method_2_code 27 = .ok (.iload_n 0, 1) := by decide +kernel
theorem d3_28 : decode method_2_code 28 = .ok (.iconst 4, 1) := by decide +kernel
theorem d3_29 : decode method_2_code 29 = .ok (.if_icmp .ne 7, 3) := by decide +kernel
theorem d3_36 : decode method_2_code 36 = .ok (.iload_n 0, 1) := by decide +kernel
theorem d3_37 : decode method_2_code 37 = .ok (.iconst 5, 1) := by decide +kernel
theorem d3_38 : decode method_2_code 38 = .ok (.if_icmp .ne 7, 3) := by decide +kernel
theorem d3_45 : decode method_2_code 45 = .ok (.iload_n 0, 1) := by decide +kernel
theorem d3_46 : decode method_2_code 46 = .ok (.bipush 6, 2) := by decide +kernel
theorem d3_48 : decode method_2_code 48 = .ok (.if_icmp .ne 7, 3) := by decide +kernel
theorem d3_55 : decode method_2_code 55 = .ok (.aconst_null, 1) := by decide +kernel
theorem d3_56 : decode method_2_code 56 = .ok (.areturn, 1) := by decide +kernel
def Q3_2 (Z : State) (x0 : Int32) (h0 : Heap) (n0 : Nat) (v : Option Value) (h : Heap) (L : List Loc) : Prop := v = some .null ∧ Fr n0 L ∧ h = h0
set_option maxRecDepth 65536 in
set_option maxHeartbeats 40000000 in
theorem rm3_2 (l : Launch) (Z : State) (a0 : Array Value) (hw : ∀ d ∈ tables_1, d.before a0 Z = true) (ws : List Jvm.Cond) (x0 : Int32) (h0 : Heap) (n0 : Nat) (O0 : Old Z n0 h0) (hc1 : ¬ (x0 = (1 : Int32))) (hc2 : ¬ (x0 = (2 : Int32))) (hc3 : ¬ (x0 = (3 : Int32))) (hc4 : ¬ (x0 = (4 : Int32))) (hc5 : ¬ (x0 = (5 : Int32))) (hc6 : ¬ (x0 = (6 : Int32))) :
    MetFree l (⟨cs4, "expected", cs3⟩ : MethodName) (head1 (Jvm.Cond.code (⟨cs4, "expected", cs3⟩ : MethodName) method_2_code 1 (some (.object cs0)) :: ws) ({ frames := 0, cells := 0, slots := 0, locals := 0 } : Room)) (fun a U => a = #[(.int x0)] ∧ Z.Warmed39 U.vm ∧ U.heap = h0) (fun _ _ _ _ _ => True) (fun _ U o U' => ∃ v L, o = .returned v ∧ Q3_2 Z x0 h0 n0 v U'.heap L ∧ FrameEnd U o U' L ({ frames := 0, cells := 0, slots := 0, locals := 0 } : Room).cells ({ frames := 0, cells := 0, slots := 0, locals := 0 } : Room).slots) := by
  refine MetFree.of_bodySF (plainFor_of_name pn_com_example_wiregather_wiregather_wire_FieldTypeOfCodePinLaw) hisR ?_
  intro p e s m args below meth c s₁ Bd hml0 hP hK
  obtain ⟨rfl, hZ, hh⟩ := hP
  have hx := Bd.exec
  have hby := Bd.bytes
  have hml : c.maxLocals = 1 := hml0
  have hown : s.vm.findClass cs4 = some m.cls := findClass_of_methodNamed Bd.named
  have hnm := (name_of_methodNamed Bd.named Bd.method).1
  have X0 : Stand p l e ({ frames := 0, cells := 0, slots := 0, locals := 0 } : Room) s m #[(.int x0)] below meth c s₁ [] 0 0 := Stand.of_body Bd
  have e0 : s₁.heap = h0 := by rw [← hh, Bd.state]; rfl
  have N0 := Fr.nil n0
  have pre0 : ∀ t, Steps p.tables e below (s₁.setTop (mkF m 0 #[.val (.int x0)] [])) t → Steps p.tables e below (s₁.setTop (entryFrame m #[(.int x0)] 1)) t := fun t k => castTop (by first | (simp [entryFrame, mkF, argsToLocals, Value.category]; done) | rfl) k
  obtain ⟨fs, hr, hrun, hended, hW, hsame⟩ := X0.leave (v := some .null) (fun h => by rw [Bd.returns] at h; cases h)
  refine ⟨_, _, pre0 _ ?_, hrun, hended, _, _, rfl, ?_, ⟨_, rfl⟩, hW, hsame.mono (by decide) (by decide)⟩
  · show Steps p.tables e below (s₁.setTop (mkF m 0 #[.val (.int x0)] [])) _
    refine XS.iloadN X0.here hx rfl (hb hby d3_0) rfl ?_
    refine XS.iconst X0.here hx rfl (hb hby d3_1) ?_
    refine XS.icmpYes X0.here hx rfl (pc0 := 2) (pc' := 9) rfl (hb hby d3_2) rfl (feq hc1).2 (by decide) (by decide) ?_
    show Steps p.tables e below (s₁.setTop (mkF m 9 #[.val (.int x0)] [])) _
    refine XS.iloadN X0.here hx rfl (hb hby d3_9) rfl ?_
    refine XS.iconst X0.here hx rfl (hb hby d3_10) ?_
    refine XS.icmpYes X0.here hx rfl (pc0 := 11) (pc' := 18) rfl (hb hby d3_11) rfl (feq hc2).2 (by decide) (by decide) ?_
    show Steps p.tables e below (s₁.setTop (mkF m 18 #[.val (.int x0)] [])) _
    refine XS.iloadN X0.here hx rfl (hb hby d3_18) rfl ?_
    refine XS.iconst X0.here hx rfl (hb hby d3_19) ?_
    refine XS.icmpYes X0.here hx rfl (pc0 := 20) (pc' := 27) rfl (hb hby d3_20) rfl (feq hc3).2 (by decide) (by decide) ?_
    show Steps p.tables e below (s₁.setTop (mkF m 27 #[.val (.int x0)] [])) _
    refine XS.iloadN X0.here hx rfl (hb hby d3_27) rfl ?_
    refine XS.iconst X0.here hx rfl (hb hby d3_28) ?_
    refine XS.icmpYes X0.here hx rfl (pc0 := 29) (pc' := 36) rfl (hb hby d3_29) rfl (feq hc4).2 (by decide) (by decide) ?_
    show Steps p.tables e below (s₁.setTop (mkF m 36 #[.val (.int x0)] [])) _
    refine XS.iloadN X0.here hx rfl (hb hby d3_36) rfl ?_
    refine XS.iconst X0.here hx rfl (hb hby d3_37) ?_
    refine XS.icmpYes X0.here hx rfl (pc0 := 38) (pc' := 45) rfl (hb hby d3_38) rfl (feq hc5).2 (by decide) (by decide) ?_
    show Steps p.tables e below (s₁.setTop (mkF m 45 #[.val (.int x0)] [])) _
    refine XS.iloadN X0.here hx rfl (hb hby d3_45) rfl ?_
    refine XS.bipush X0.here hx rfl (hb hby d3_46) ?_
    refine XS.icmpYes X0.here hx rfl (pc0 := 48) (pc' := 55) rfl (hb hby d3_48) rfl (feq hc6).2 (by decide) (by decide) ?_
    show Steps p.tables e below (s₁.setTop (mkF m 55 #[.val (.int x0)] [])) _
    refine XS.aconstNull X0.here hx rfl (hb hby d3_55) ?_
    exact retOut X0 hx (i := .areturn) Bd.returns rfl (Or.inr (Or.inr (Or.inr (Or.inr ⟨rfl, rfl, rfl⟩)))) (hb hby d3_56) hr
  · show Q3_2 Z x0 h0 n0 _ s₁.heap _
    rw [e0]
    exact ⟨rfl, N0, rfl⟩
def Q0_1 (Z : State) (x0 : Int32) (x1 : Int32) (r2 : Addr) (c3 : ClassId) (r4 : Addr) (r5 : Addr) (r6 : Addr) (r7 : Addr) (r8 : Addr) (r9 : Addr) (h0 : Heap) (n0 : Nat) (v : Option Value) (h : Heap) (L : List Loc) : Prop := v = some (.int (1 : Int32)) ∧ Fr n0 L
set_option maxRecDepth 65536 in
set_option maxHeartbeats 40000000 in
theorem rm0_1 (l : Launch) (Z : State) (a0 : Array Value) (hw : ∀ d ∈ tables_1, d.before a0 Z = true) (ws : List Jvm.Cond) (x0 : Int32) (x1 : Int32) (r2 : Addr) (c3 : ClassId) (r4 : Addr) (r5 : Addr) (r6 : Addr) (r7 : Addr) (r8 : Addr) (r9 : Addr) (h0 : Heap) (n0 : Nat) (O0 : Old Z n0 h0) (f1 : Sta Z Z.heap cs0 "$VALUES" cs1 (.ref r2)) (f2 : Exa Z Z.heap r2 cs1) (f3 : Arv Z Z.heap r2 c3 (.object cs0) (6 : Int32) [(.ref r4), (.ref r5), (.ref r6), (.ref r7), (.ref r8), (.ref r9)] .null) (f4 : Fld Z Z.heap r4 cs0 "code" "I" (.int (1 : Int32))) (hc5 : (1 : Int32) = x0) (f6 : Fld Z Z.heap r5 cs0 "code" "I" (.int (2 : Int32))) (hc7 : ¬ ((2 : Int32) = x0)) (f8 : Fld Z Z.heap r6 cs0 "code" "I" (.int (3 : Int32))) (hc9 : ¬ ((3 : Int32) = x0)) (f10 : Fld Z Z.heap r7 cs0 "code" "I" (.int (4 : Int32))) (hc11 : ¬ ((4 : Int32) = x0)) (f12 : Fld Z Z.heap r8 cs0 "code" "I" (.int (5 : Int32))) (hc13 : ¬ ((5 : Int32) = x0)) (f14 : Fld Z Z.heap r9 cs0 "code" "I" (.int (6 : Int32))) (hc15 : ¬ ((6 : Int32) = x0)) (hc17 : ¬ ((1 : Int32) = (x1 &&& (7 : Int32)))) (hc18 : ¬ ((2 : Int32) = (x1 &&& (7 : Int32)))) (hc19 : ¬ ((3 : Int32) = (x1 &&& (7 : Int32)))) (hc20 : ¬ ((4 : Int32) = (x1 &&& (7 : Int32)))) (hc21 : ¬ ((5 : Int32) = (x1 &&& (7 : Int32)))) (hc22 : ¬ ((6 : Int32) = (x1 &&& (7 : Int32)))) (hc25 : x0 = (1 : Int32)) (f26 : Sta Z Z.heap cs0 "I32" cs5 (.ref r4)) (hc29 : ¬ ((x1 &&& (7 : Int32)) = (1 : Int32))) (hc30 : ¬ ((x1 &&& (7 : Int32)) = (2 : Int32))) (hc31 : ¬ ((x1 &&& (7 : Int32)) = (3 : Int32))) (hc32 : ¬ ((x1 &&& (7 : Int32)) = (4 : Int32))) (hc33 : ¬ ((x1 &&& (7 : Int32)) = (5 : Int32))) (hc34 : ¬ ((x1 &&& (7 : Int32)) = (6 : Int32))) :
    MetFree l x (head1 (Jvm.Cond.code x code maxLocals ret :: ws) room_1) (fun a U => a = #[(.int x0), (.int x1)] ∧ Z.Warmed39 U.vm ∧ U.heap = h0) (fun _ _ _ _ _ => True) (fun _ U o U' => ∃ v L, o = .returned v ∧ Q0_1 Z x0 x1 r2 c3 r4 r5 r6 r7 r8 r9 h0 n0 v U'.heap L ∧ FrameEnd U o U' L room_1.cells room_1.slots) := by
  refine MetFree.of_bodySF (plainFor_of_name pn_com_example_wiregather_wiregather_wire_FieldTypeOfCodePinLaw) hisR ?_
  intro p e s m args below meth c s₁ Bd hml0 hP hK
  obtain ⟨rfl, hZ, hh⟩ := hP
  have hx := Bd.exec
  have hby := Bd.bytes
  have hml : c.maxLocals = 5 := hml0
  have hown : s.vm.findClass cs4 = some m.cls := findClass_of_methodNamed Bd.named
  have hnm := (name_of_methodNamed Bd.named Bd.method).1
  have X0 : Stand p l e room_1 s m #[(.int x0), (.int x1)] below meth c s₁ [] 0 0 := Stand.of_body Bd
  have e0 : s₁.heap = h0 := by rw [← hh, Bd.state]; rfl
  have N0 := Fr.nil n0
  have pre0 : ∀ t, Steps p.tables e below (s₁.setTop (mkF m 0 #[.val (.int x0), .val (.int x1), .unset, .unset, .unset] [])) t → Steps p.tables e below (s₁.setTop (entryFrame m #[(.int x0), (.int x1)] maxLocals)) t := fun t k => castTop (by first | (simp [entryFrame, mkF, argsToLocals, Value.category, maxLocals]; done) | rfl) k
  obtain ⟨_, _, ⟨T16, L16, k16, n16⟩, -, X16, ⟨Lc16, hQ16, l16, y16, z16⟩, st16⟩ := Jvm.LawKit.callS X0 hx (y := (⟨cs0, "ofCode", cs3⟩ : MethodName)) hown (mvT hZ (ww hw 0 rfl)) (mvT hZ (ww hw 1 rfl)) (mvT hZ (ww hw 2 rfl)) (mvT hZ (ww hw 3 rfl)) (by decide) (backOf (W := 0) (rm1_1 l Z a0 hw [] x0 r2 c3 r4 r5 r6 r7 r8 r9 h0 n0 O0 f1 f2 f3 f4 hc5 f6 hc7 f8 hc9 f10 hc11 f12 hc13 f14 hc15) hZ (ww hw 3 rfl) (ww hw 2 rfl) (by decide) (by decide)) (g := (mkF m 6 #[.val (.int x0), .val (.int x1), .val (.int (x1 &&& (7 : Int32))), .unset, .unset] [(.int x0)])) rfl (by rw [hml]; rfl) (argsL := [(.int x0)]) (rest := []) (lenOf pd__I_Lcom_example_wiregather_wiregather_wire_FieldType_ rfl) rfl (by show 2 * 0 + _ ≤ _; exact Nat.le_of_eq rfl) (hb hby at_6) (fun _ _ => ⟨rfl, e0, (by decide : 0 + 1 ≤ _), (by decide : 0 + 6 ≤ _)⟩)
  dsimp only [Pt.U, Pt.locs, Pt.cells, Pt.slots] at X16 l16 y16 z16 st16 hQ16
  subst l16 y16 z16
  obtain ⟨rfl, N16q, K16⟩ := hQ16
  have N16 := Fr.app N0 N16q
  have o23 := Old.keep O0 K16 all0
  obtain ⟨_, _, ⟨T24, L24, k24, n24⟩, -, X24, ⟨Lc24, hQ24, l24, y24, z24⟩, st24⟩ := Jvm.LawKit.callS X16 hx (y := (⟨cs0, "ofCode", cs3⟩ : MethodName)) hown (mvT hZ (ww hw 0 rfl)) (mvT hZ (ww hw 1 rfl)) (mvT hZ (ww hw 2 rfl)) (mvT hZ (ww hw 3 rfl)) (by decide) (backOf (W := 0) (rm1_2 l Z a0 hw [] (x1 &&& (7 : Int32)) r2 c3 r4 r5 r6 r7 r8 r9 T16.heap n0 o23 f1 f2 f3 f4 hc17 f6 hc18 f8 hc19 f10 hc20 f12 hc21 f14 hc22) hZ (ww hw 3 rfl) (ww hw 2 rfl) (by decide) (by decide)) (g := (mkF m 11 #[.val (.int x0), .val (.int x1), .val (.int (x1 &&& (7 : Int32))), .val (.ref r4), .unset] [(.int (x1 &&& (7 : Int32)))])) rfl (by rw [hml]; rfl) (argsL := [(.int (x1 &&& (7 : Int32)))]) (rest := []) (lenOf pd__I_Lcom_example_wiregather_wiregather_wire_FieldType_ rfl) rfl (by show 2 * 0 + _ ≤ _; exact Nat.le_of_eq rfl) (hb hby at_11) (fun _ _ => ⟨rfl, rfl, (by decide : 1 + 1 ≤ _), (by decide : 6 + 6 ≤ _)⟩)
  dsimp only [Pt.U, Pt.locs, Pt.cells, Pt.slots] at X24 l24 y24 z24 st24 hQ24
  subst l24 y24 z24
  obtain ⟨rfl, N24q, K24⟩ := hQ24
  have N24 := Fr.app N16 N24q
  have o27 := Old.keep o23 K24 all0
  obtain ⟨_, _, ⟨T28, L28, k28, n28⟩, -, X28, ⟨Lc28, hQ28, l28, y28, z28⟩, st28⟩ := Jvm.LawKit.callS X24 hx (y := (⟨cs4, "expected", cs3⟩ : MethodName)) hown (mvT hZ (ww hw 27 rfl)) (mvT hZ (ww hw 28 rfl)) (mvT hZ (ww hw 29 rfl)) (mvT hZ (ww hw 30 rfl)) (by decide) (backOf (W := 1) (rm3_1 l Z a0 hw [] x0 r4 T24.heap n0 o27 hc25 f26) hZ (ww hw 30 rfl) (ww hw 29 rfl) (by decide) (by decide)) (g := (mkF m 18 #[.val (.int x0), .val (.int x1), .val (.int (x1 &&& (7 : Int32))), .val (.ref r4), .val .null] [(.int x0), (.ref r4)])) rfl (by rw [hml]; rfl) (argsL := [(.int x0)]) (rest := [(.ref r4)]) (lenOf pd__I_Lcom_example_wiregather_wiregather_wire_FieldType_ rfl) rfl (by show 2 * 0 + _ ≤ _; exact Nat.le_of_eq rfl) (hb hby at_18) (fun _ _ => ⟨rfl, rfl, (by decide : 2 + 0 ≤ _), (by decide : 12 + 0 ≤ _)⟩)
  dsimp only [Pt.U, Pt.locs, Pt.cells, Pt.slots] at X28 l28 y28 z28 st28 hQ28
  subst l28 y28 z28
  obtain ⟨rfl, N28q, E28⟩ := hQ28
  have N28 := Fr.app N24 N28q
  obtain ⟨_, _, ⟨T35, L35, k35, n35⟩, -, X35, ⟨Lc35, hQ35, l35, y35, z35⟩, st35⟩ := Jvm.LawKit.callS X28 hx (y := (⟨cs4, "expected", cs3⟩ : MethodName)) hown (mvT hZ (ww hw 27 rfl)) (mvT hZ (ww hw 28 rfl)) (mvT hZ (ww hw 29 rfl)) (mvT hZ (ww hw 30 rfl)) (by decide) (backOf (W := 1) (rm3_2 l Z a0 hw [] (x1 &&& (7 : Int32)) T24.heap n0 o27 hc29 hc30 hc31 hc32 hc33 hc34) hZ (ww hw 30 rfl) (ww hw 29 rfl) (by decide) (by decide)) (g := (mkF m 27 #[.val (.int x0), .val (.int x1), .val (.int (x1 &&& (7 : Int32))), .val (.ref r4), .val .null] [(.int (x1 &&& (7 : Int32))), .null])) rfl (by rw [hml]; rfl) (argsL := [(.int (x1 &&& (7 : Int32)))]) (rest := [.null]) (lenOf pd__I_Lcom_example_wiregather_wiregather_wire_FieldType_ rfl) rfl (by show 2 * 0 + _ ≤ _; exact Nat.le_of_eq rfl) (hb hby at_27) (fun _ _ => ⟨rfl, E28, (by decide : 2 + 0 ≤ _), (by decide : 12 + 0 ≤ _)⟩)
  dsimp only [Pt.U, Pt.locs, Pt.cells, Pt.slots] at X35 l35 y35 z35 st35 hQ35
  subst l35 y35 z35
  obtain ⟨rfl, N35q, E35⟩ := hQ35
  have N35 := Fr.app N28 N35q
  obtain ⟨fs, hr, hrun, hended, hW, hsame⟩ := X35.leave (v := some (.int (1 : Int32))) (fun h => by rw [Bd.returns] at h; cases h)
  refine ⟨_, _, pre0 _ ?_, hrun, hended, _, _, rfl, ?_, ⟨_, rfl⟩, hW, hsame.mono (by decide) (by decide)⟩
  · show Steps p.tables e below (s₁.setTop (mkF m 0 #[.val (.int x0), .val (.int x1), .unset, .unset, .unset] [])) _
    refine XS.iloadN X0.here hx rfl (hb hby at_0) rfl ?_
    refine XS.bipush X0.here hx rfl (hb hby at_1) ?_
    refine XS.iand X0.here hx rfl (hb hby at_3) rfl ?_
    refine XS.istoreN X0.here hx rfl (hb hby at_4) rfl (l' := #[.val (.int x0), .val (.int x1), .val (.int (x1 &&& (7 : Int32))), .unset, .unset]) rfl ?_
    show Steps p.tables e below (s₁.setTop (mkF m 5 #[.val (.int x0), .val (.int x1), .val (.int (x1 &&& (7 : Int32))), .unset, .unset] [])) _
    refine XS.iloadN X0.here hx rfl (hb hby at_5) rfl ?_
    refine st16 _ ?_
    show Steps p.tables e below (T16.setTop (mkF m 9 #[.val (.int x0), .val (.int x1), .val (.int (x1 &&& (7 : Int32))), .unset, .unset] [(.ref r4)])) _
    refine XS.astoreN X16.here hx rfl (hb hby at_9) rfl rfl (l' := #[.val (.int x0), .val (.int x1), .val (.int (x1 &&& (7 : Int32))), .val (.ref r4), .unset]) rfl ?_
    refine XS.iloadN X16.here hx rfl (hb hby at_10) rfl ?_
    refine st24 _ ?_
    show Steps p.tables e below (T24.setTop (mkF m 14 #[.val (.int x0), .val (.int x1), .val (.int (x1 &&& (7 : Int32))), .val (.ref r4), .unset] [.null])) _
    refine XS.astore X24.here hx rfl (hb hby at_14) rfl rfl (l' := #[.val (.int x0), .val (.int x1), .val (.int (x1 &&& (7 : Int32))), .val (.ref r4), .val .null]) rfl ?_
    refine XS.aloadN X24.here hx rfl (hb hby at_16) rfl rfl ?_
    refine XS.iloadN X24.here hx rfl (hb hby at_17) rfl ?_
    refine st28 _ ?_
    show Steps p.tables e below (T28.setTop (mkF m 21 #[.val (.int x0), .val (.int x1), .val (.int (x1 &&& (7 : Int32))), .val (.ref r4), .val .null] [(.ref r4), (.ref r4)])) _
    refine Jvm.RoadKit.acmp (g := (mkF m 21 #[.val (.int x0), .val (.int x1), .val (.int (x1 &&& (7 : Int32))), .val (.ref r4), .val .null] [(.ref r4), (.ref r4)])) X28 hx rfl rfl rfl (pc0 := 21) (pc' := 24) (same := true) rfl (hb hby at_21) rfl (decide_eq_true rfl) (by decide) (by decide) ?_
    show Steps p.tables e below (T28.setTop (mkF m 24 #[.val (.int x0), .val (.int x1), .val (.int (x1 &&& (7 : Int32))), .val (.ref r4), .val .null] [])) _
    refine XS.aload X28.here hx rfl (hb hby at_24) rfl rfl ?_
    refine XS.iloadN X28.here hx rfl (hb hby at_26) rfl ?_
    refine st35 _ ?_
    show Steps p.tables e below (T35.setTop (mkF m 30 #[.val (.int x0), .val (.int x1), .val (.int (x1 &&& (7 : Int32))), .val (.ref r4), .val .null] [.null, .null])) _
    refine Jvm.RoadKit.acmp (g := (mkF m 30 #[.val (.int x0), .val (.int x1), .val (.int (x1 &&& (7 : Int32))), .val (.ref r4), .val .null] [.null, .null])) X35 hx rfl rfl rfl (pc0 := 30) (pc' := 33) (same := true) rfl (hb hby at_30) rfl (decide_eq_true rfl) (by decide) (by decide) ?_
    show Steps p.tables e below (T35.setTop (mkF m 33 #[.val (.int x0), .val (.int x1), .val (.int (x1 &&& (7 : Int32))), .val (.ref r4), .val .null] [])) _
    refine XS.iconst X35.here hx rfl (hb hby at_33) ?_
    refine XS.goto X35.here hx rfl (pc0 := 34) (pc' := 38) rfl (hb hby at_34) (by decide) (by decide) ?_
    show Steps p.tables e below (T35.setTop (mkF m 38 #[.val (.int x0), .val (.int x1), .val (.int (x1 &&& (7 : Int32))), .val (.ref r4), .val .null] [(.int (1 : Int32))])) _
    exact retN X35 hx (t := .boolean) Bd.returns (by simp) (hb hby at_38) hr
  · show Q0_1 Z x0 x1 r2 c3 r4 r5 r6 r7 r8 r9 h0 n0 _ T35.heap _
    rw [E35]
    exact ⟨rfl, N35⟩
def Q0_2 (Z : State) (x0 : Int32) (x1 : Int32) (r2 : Addr) (c3 : ClassId) (r4 : Addr) (r5 : Addr) (r6 : Addr) (r7 : Addr) (r8 : Addr) (r9 : Addr) (h0 : Heap) (n0 : Nat) (v : Option Value) (h : Heap) (L : List Loc) : Prop := v = some (.int (1 : Int32)) ∧ Fr n0 L
set_option maxRecDepth 65536 in
set_option maxHeartbeats 40000000 in
theorem rm0_2 (l : Launch) (Z : State) (a0 : Array Value) (hw : ∀ d ∈ tables_1, d.before a0 Z = true) (ws : List Jvm.Cond) (x0 : Int32) (x1 : Int32) (r2 : Addr) (c3 : ClassId) (r4 : Addr) (r5 : Addr) (r6 : Addr) (r7 : Addr) (r8 : Addr) (r9 : Addr) (h0 : Heap) (n0 : Nat) (O0 : Old Z n0 h0) (f1 : Sta Z Z.heap cs0 "$VALUES" cs1 (.ref r2)) (f2 : Exa Z Z.heap r2 cs1) (f3 : Arv Z Z.heap r2 c3 (.object cs0) (6 : Int32) [(.ref r4), (.ref r5), (.ref r6), (.ref r7), (.ref r8), (.ref r9)] .null) (f4 : Fld Z Z.heap r4 cs0 "code" "I" (.int (1 : Int32))) (hc5 : (1 : Int32) = x0) (f6 : Fld Z Z.heap r5 cs0 "code" "I" (.int (2 : Int32))) (hc7 : ¬ ((2 : Int32) = x0)) (f8 : Fld Z Z.heap r6 cs0 "code" "I" (.int (3 : Int32))) (hc9 : ¬ ((3 : Int32) = x0)) (f10 : Fld Z Z.heap r7 cs0 "code" "I" (.int (4 : Int32))) (hc11 : ¬ ((4 : Int32) = x0)) (f12 : Fld Z Z.heap r8 cs0 "code" "I" (.int (5 : Int32))) (hc13 : ¬ ((5 : Int32) = x0)) (f14 : Fld Z Z.heap r9 cs0 "code" "I" (.int (6 : Int32))) (hc15 : ¬ ((6 : Int32) = x0)) (hc17 : (1 : Int32) = (x1 &&& (7 : Int32))) (hc18 : ¬ ((2 : Int32) = (x1 &&& (7 : Int32)))) (hc19 : ¬ ((3 : Int32) = (x1 &&& (7 : Int32)))) (hc20 : ¬ ((4 : Int32) = (x1 &&& (7 : Int32)))) (hc21 : ¬ ((5 : Int32) = (x1 &&& (7 : Int32)))) (hc22 : ¬ ((6 : Int32) = (x1 &&& (7 : Int32)))) (hc25 : x0 = (1 : Int32)) (f26 : Sta Z Z.heap cs0 "I32" cs5 (.ref r4)) (hc29 : (x1 &&& (7 : Int32)) = (1 : Int32)) :
    MetFree l x (head1 (Jvm.Cond.code x code maxLocals ret :: ws) room_1) (fun a U => a = #[(.int x0), (.int x1)] ∧ Z.Warmed39 U.vm ∧ U.heap = h0) (fun _ _ _ _ _ => True) (fun _ U o U' => ∃ v L, o = .returned v ∧ Q0_2 Z x0 x1 r2 c3 r4 r5 r6 r7 r8 r9 h0 n0 v U'.heap L ∧ FrameEnd U o U' L room_1.cells room_1.slots) := by
  refine MetFree.of_bodySF (plainFor_of_name pn_com_example_wiregather_wiregather_wire_FieldTypeOfCodePinLaw) hisR ?_
  intro p e s m args below meth c s₁ Bd hml0 hP hK
  obtain ⟨rfl, hZ, hh⟩ := hP
  have hx := Bd.exec
  have hby := Bd.bytes
  have hml : c.maxLocals = 5 := hml0
  have hown : s.vm.findClass cs4 = some m.cls := findClass_of_methodNamed Bd.named
  have hnm := (name_of_methodNamed Bd.named Bd.method).1
  have X0 : Stand p l e room_1 s m #[(.int x0), (.int x1)] below meth c s₁ [] 0 0 := Stand.of_body Bd
  have e0 : s₁.heap = h0 := by rw [← hh, Bd.state]; rfl
  have N0 := Fr.nil n0
  have pre0 : ∀ t, Steps p.tables e below (s₁.setTop (mkF m 0 #[.val (.int x0), .val (.int x1), .unset, .unset, .unset] [])) t → Steps p.tables e below (s₁.setTop (entryFrame m #[(.int x0), (.int x1)] maxLocals)) t := fun t k => castTop (by first | (simp [entryFrame, mkF, argsToLocals, Value.category, maxLocals]; done) | rfl) k
  obtain ⟨_, _, ⟨T16, L16, k16, n16⟩, -, X16, ⟨Lc16, hQ16, l16, y16, z16⟩, st16⟩ := Jvm.LawKit.callS X0 hx (y := (⟨cs0, "ofCode", cs3⟩ : MethodName)) hown (mvT hZ (ww hw 0 rfl)) (mvT hZ (ww hw 1 rfl)) (mvT hZ (ww hw 2 rfl)) (mvT hZ (ww hw 3 rfl)) (by decide) (backOf (W := 0) (rm1_1 l Z a0 hw [] x0 r2 c3 r4 r5 r6 r7 r8 r9 h0 n0 O0 f1 f2 f3 f4 hc5 f6 hc7 f8 hc9 f10 hc11 f12 hc13 f14 hc15) hZ (ww hw 3 rfl) (ww hw 2 rfl) (by decide) (by decide)) (g := (mkF m 6 #[.val (.int x0), .val (.int x1), .val (.int (x1 &&& (7 : Int32))), .unset, .unset] [(.int x0)])) rfl (by rw [hml]; rfl) (argsL := [(.int x0)]) (rest := []) (lenOf pd__I_Lcom_example_wiregather_wiregather_wire_FieldType_ rfl) rfl (by show 2 * 0 + _ ≤ _; exact Nat.le_of_eq rfl) (hb hby at_6) (fun _ _ => ⟨rfl, e0, (by decide : 0 + 1 ≤ _), (by decide : 0 + 6 ≤ _)⟩)
  dsimp only [Pt.U, Pt.locs, Pt.cells, Pt.slots] at X16 l16 y16 z16 st16 hQ16
  subst l16 y16 z16
  obtain ⟨rfl, N16q, K16⟩ := hQ16
  have N16 := Fr.app N0 N16q
  have o23 := Old.keep O0 K16 all0
  obtain ⟨_, _, ⟨T24, L24, k24, n24⟩, -, X24, ⟨Lc24, hQ24, l24, y24, z24⟩, st24⟩ := Jvm.LawKit.callS X16 hx (y := (⟨cs0, "ofCode", cs3⟩ : MethodName)) hown (mvT hZ (ww hw 0 rfl)) (mvT hZ (ww hw 1 rfl)) (mvT hZ (ww hw 2 rfl)) (mvT hZ (ww hw 3 rfl)) (by decide) (backOf (W := 0) (rm1_1 l Z a0 hw [] (x1 &&& (7 : Int32)) r2 c3 r4 r5 r6 r7 r8 r9 T16.heap n0 o23 f1 f2 f3 f4 hc17 f6 hc18 f8 hc19 f10 hc20 f12 hc21 f14 hc22) hZ (ww hw 3 rfl) (ww hw 2 rfl) (by decide) (by decide)) (g := (mkF m 11 #[.val (.int x0), .val (.int x1), .val (.int (x1 &&& (7 : Int32))), .val (.ref r4), .unset] [(.int (x1 &&& (7 : Int32)))])) rfl (by rw [hml]; rfl) (argsL := [(.int (x1 &&& (7 : Int32)))]) (rest := []) (lenOf pd__I_Lcom_example_wiregather_wiregather_wire_FieldType_ rfl) rfl (by show 2 * 0 + _ ≤ _; exact Nat.le_of_eq rfl) (hb hby at_11) (fun _ _ => ⟨rfl, rfl, (by decide : 1 + 1 ≤ _), (by decide : 6 + 6 ≤ _)⟩)
  dsimp only [Pt.U, Pt.locs, Pt.cells, Pt.slots] at X24 l24 y24 z24 st24 hQ24
  subst l24 y24 z24
  obtain ⟨rfl, N24q, K24⟩ := hQ24
  have N24 := Fr.app N16 N24q
  have o27 := Old.keep o23 K24 all0
  obtain ⟨_, _, ⟨T28, L28, k28, n28⟩, -, X28, ⟨Lc28, hQ28, l28, y28, z28⟩, st28⟩ := Jvm.LawKit.callS X24 hx (y := (⟨cs4, "expected", cs3⟩ : MethodName)) hown (mvT hZ (ww hw 27 rfl)) (mvT hZ (ww hw 28 rfl)) (mvT hZ (ww hw 29 rfl)) (mvT hZ (ww hw 30 rfl)) (by decide) (backOf (W := 1) (rm3_1 l Z a0 hw [] x0 r4 T24.heap n0 o27 hc25 f26) hZ (ww hw 30 rfl) (ww hw 29 rfl) (by decide) (by decide)) (g := (mkF m 18 #[.val (.int x0), .val (.int x1), .val (.int (x1 &&& (7 : Int32))), .val (.ref r4), .val (.ref r4)] [(.int x0), (.ref r4)])) rfl (by rw [hml]; rfl) (argsL := [(.int x0)]) (rest := [(.ref r4)]) (lenOf pd__I_Lcom_example_wiregather_wiregather_wire_FieldType_ rfl) rfl (by show 2 * 0 + _ ≤ _; exact Nat.le_of_eq rfl) (hb hby at_18) (fun _ _ => ⟨rfl, rfl, (by decide : 2 + 0 ≤ _), (by decide : 12 + 0 ≤ _)⟩)
  dsimp only [Pt.U, Pt.locs, Pt.cells, Pt.slots] at X28 l28 y28 z28 st28 hQ28
  subst l28 y28 z28
  obtain ⟨rfl, N28q, E28⟩ := hQ28
  have N28 := Fr.app N24 N28q
  obtain ⟨_, _, ⟨T30, L30, k30, n30⟩, -, X30, ⟨Lc30, hQ30, l30, y30, z30⟩, st30⟩ := Jvm.LawKit.callS X28 hx (y := (⟨cs4, "expected", cs3⟩ : MethodName)) hown (mvT hZ (ww hw 27 rfl)) (mvT hZ (ww hw 28 rfl)) (mvT hZ (ww hw 29 rfl)) (mvT hZ (ww hw 30 rfl)) (by decide) (backOf (W := 1) (rm3_1 l Z a0 hw [] (x1 &&& (7 : Int32)) r4 T24.heap n0 o27 hc29 f26) hZ (ww hw 30 rfl) (ww hw 29 rfl) (by decide) (by decide)) (g := (mkF m 27 #[.val (.int x0), .val (.int x1), .val (.int (x1 &&& (7 : Int32))), .val (.ref r4), .val (.ref r4)] [(.int (x1 &&& (7 : Int32))), (.ref r4)])) rfl (by rw [hml]; rfl) (argsL := [(.int (x1 &&& (7 : Int32)))]) (rest := [(.ref r4)]) (lenOf pd__I_Lcom_example_wiregather_wiregather_wire_FieldType_ rfl) rfl (by show 2 * 0 + _ ≤ _; exact Nat.le_of_eq rfl) (hb hby at_27) (fun _ _ => ⟨rfl, E28, (by decide : 2 + 0 ≤ _), (by decide : 12 + 0 ≤ _)⟩)
  dsimp only [Pt.U, Pt.locs, Pt.cells, Pt.slots] at X30 l30 y30 z30 st30 hQ30
  subst l30 y30 z30
  obtain ⟨rfl, N30q, E30⟩ := hQ30
  have N30 := Fr.app N28 N30q
  obtain ⟨fs, hr, hrun, hended, hW, hsame⟩ := X30.leave (v := some (.int (1 : Int32))) (fun h => by rw [Bd.returns] at h; cases h)
  refine ⟨_, _, pre0 _ ?_, hrun, hended, _, _, rfl, ?_, ⟨_, rfl⟩, hW, hsame.mono (by decide) (by decide)⟩
  · show Steps p.tables e below (s₁.setTop (mkF m 0 #[.val (.int x0), .val (.int x1), .unset, .unset, .unset] [])) _
    refine XS.iloadN X0.here hx rfl (hb hby at_0) rfl ?_
    refine XS.bipush X0.here hx rfl (hb hby at_1) ?_
    refine XS.iand X0.here hx rfl (hb hby at_3) rfl ?_
    refine XS.istoreN X0.here hx rfl (hb hby at_4) rfl (l' := #[.val (.int x0), .val (.int x1), .val (.int (x1 &&& (7 : Int32))), .unset, .unset]) rfl ?_
    show Steps p.tables e below (s₁.setTop (mkF m 5 #[.val (.int x0), .val (.int x1), .val (.int (x1 &&& (7 : Int32))), .unset, .unset] [])) _
    refine XS.iloadN X0.here hx rfl (hb hby at_5) rfl ?_
    refine st16 _ ?_
    show Steps p.tables e below (T16.setTop (mkF m 9 #[.val (.int x0), .val (.int x1), .val (.int (x1 &&& (7 : Int32))), .unset, .unset] [(.ref r4)])) _
    refine XS.astoreN X16.here hx rfl (hb hby at_9) rfl rfl (l' := #[.val (.int x0), .val (.int x1), .val (.int (x1 &&& (7 : Int32))), .val (.ref r4), .unset]) rfl ?_
    refine XS.iloadN X16.here hx rfl (hb hby at_10) rfl ?_
    refine st24 _ ?_
    show Steps p.tables e below (T24.setTop (mkF m 14 #[.val (.int x0), .val (.int x1), .val (.int (x1 &&& (7 : Int32))), .val (.ref r4), .unset] [(.ref r4)])) _
    refine XS.astore X24.here hx rfl (hb hby at_14) rfl rfl (l' := #[.val (.int x0), .val (.int x1), .val (.int (x1 &&& (7 : Int32))), .val (.ref r4), .val (.ref r4)]) rfl ?_
    refine XS.aloadN X24.here hx rfl (hb hby at_16) rfl rfl ?_
    refine XS.iloadN X24.here hx rfl (hb hby at_17) rfl ?_
    refine st28 _ ?_
    show Steps p.tables e below (T28.setTop (mkF m 21 #[.val (.int x0), .val (.int x1), .val (.int (x1 &&& (7 : Int32))), .val (.ref r4), .val (.ref r4)] [(.ref r4), (.ref r4)])) _
    refine Jvm.RoadKit.acmp (g := (mkF m 21 #[.val (.int x0), .val (.int x1), .val (.int (x1 &&& (7 : Int32))), .val (.ref r4), .val (.ref r4)] [(.ref r4), (.ref r4)])) X28 hx rfl rfl rfl (pc0 := 21) (pc' := 24) (same := true) rfl (hb hby at_21) rfl (decide_eq_true rfl) (by decide) (by decide) ?_
    show Steps p.tables e below (T28.setTop (mkF m 24 #[.val (.int x0), .val (.int x1), .val (.int (x1 &&& (7 : Int32))), .val (.ref r4), .val (.ref r4)] [])) _
    refine XS.aload X28.here hx rfl (hb hby at_24) rfl rfl ?_
    refine XS.iloadN X28.here hx rfl (hb hby at_26) rfl ?_
    refine st30 _ ?_
    show Steps p.tables e below (T30.setTop (mkF m 30 #[.val (.int x0), .val (.int x1), .val (.int (x1 &&& (7 : Int32))), .val (.ref r4), .val (.ref r4)] [(.ref r4), (.ref r4)])) _
    refine Jvm.RoadKit.acmp (g := (mkF m 30 #[.val (.int x0), .val (.int x1), .val (.int (x1 &&& (7 : Int32))), .val (.ref r4), .val (.ref r4)] [(.ref r4), (.ref r4)])) X30 hx rfl rfl rfl (pc0 := 30) (pc' := 33) (same := true) rfl (hb hby at_30) rfl (decide_eq_true rfl) (by decide) (by decide) ?_
    show Steps p.tables e below (T30.setTop (mkF m 33 #[.val (.int x0), .val (.int x1), .val (.int (x1 &&& (7 : Int32))), .val (.ref r4), .val (.ref r4)] [])) _
    refine XS.iconst X30.here hx rfl (hb hby at_33) ?_
    refine XS.goto X30.here hx rfl (pc0 := 34) (pc' := 38) rfl (hb hby at_34) (by decide) (by decide) ?_
    show Steps p.tables e below (T30.setTop (mkF m 38 #[.val (.int x0), .val (.int x1), .val (.int (x1 &&& (7 : Int32))), .val (.ref r4), .val (.ref r4)] [(.int (1 : Int32))])) _
    exact retN X30 hx (t := .boolean) Bd.returns (by simp) (hb hby at_38) hr
  · show Q0_2 Z x0 x1 r2 c3 r4 r5 r6 r7 r8 r9 h0 n0 _ T30.heap _
    rw [E30]
    exact ⟨rfl, N30⟩
def Q1_3 (Z : State) (x0 : Int32) (r1 : Addr) (c2 : ClassId) (r3 : Addr) (r4 : Addr) (r5 : Addr) (r6 : Addr) (r7 : Addr) (r8 : Addr) (h0 : Heap) (n0 : Nat) (v : Option Value) (h : Heap) (L : List Loc) : Prop := v = some (.ref r4) ∧ Fr n0 L ∧ Keep h0 h []
set_option maxRecDepth 65536 in
set_option maxHeartbeats 40000000 in
theorem rm1_3 (l : Launch) (Z : State) (a0 : Array Value) (hw : ∀ d ∈ tables_1, d.before a0 Z = true) (ws : List Jvm.Cond) (x0 : Int32) (r1 : Addr) (c2 : ClassId) (r3 : Addr) (r4 : Addr) (r5 : Addr) (r6 : Addr) (r7 : Addr) (r8 : Addr) (h0 : Heap) (n0 : Nat) (O0 : Old Z n0 h0) (f1 : Sta Z Z.heap cs0 "$VALUES" cs1 (.ref r1)) (f2 : Exa Z Z.heap r1 cs1) (f3 : Arv Z Z.heap r1 c2 (.object cs0) (6 : Int32) [(.ref r3), (.ref r4), (.ref r5), (.ref r6), (.ref r7), (.ref r8)] .null) (f10 : Fld Z Z.heap r3 cs0 "code" "I" (.int (1 : Int32))) (hc14 : ¬ ((1 : Int32) = x0)) (f16 : Fld Z Z.heap r4 cs0 "code" "I" (.int (2 : Int32))) (hc19 : (2 : Int32) = x0) (f21 : Fld Z Z.heap r5 cs0 "code" "I" (.int (3 : Int32))) (hc24 : ¬ ((3 : Int32) = x0)) (f26 : Fld Z Z.heap r6 cs0 "code" "I" (.int (4 : Int32))) (hc29 : ¬ ((4 : Int32) = x0)) (f31 : Fld Z Z.heap r7 cs0 "code" "I" (.int (5 : Int32))) (hc34 : ¬ ((5 : Int32) = x0)) (f36 : Fld Z Z.heap r8 cs0 "code" "I" (.int (6 : Int32))) (hc39 : ¬ ((6 : Int32) = x0)) :
    MetFree l (⟨cs0, "ofCode", cs3⟩ : MethodName) (head1 (Jvm.Cond.code (⟨cs0, "ofCode", cs3⟩ : MethodName) prog_72_method_7_code 6 (some (.object cs0)) :: ws) ({ frames := 2, cells := 1, slots := 6, locals := 25 } : Room)) (fun a U => a = #[(.int x0)] ∧ Z.Warmed39 U.vm ∧ U.heap = h0) (fun _ _ _ _ _ => True) (fun _ U o U' => ∃ v L, o = .returned v ∧ Q1_3 Z x0 r1 c2 r3 r4 r5 r6 r7 r8 h0 n0 v U'.heap L ∧ FrameEnd U o U' L ({ frames := 2, cells := 1, slots := 6, locals := 25 } : Room).cells ({ frames := 2, cells := 1, slots := 6, locals := 25 } : Room).slots) := by
  refine MetFree.of_bodySF (plainFor_of_name pn_com_example_wiregather_wiregather_wire_FieldType) hisR ?_
  intro p e s m args below meth c s₁ Bd hml0 hP hK
  obtain ⟨rfl, hZ, hh⟩ := hP
  have hx := Bd.exec
  have hby := Bd.bytes
  have hml : c.maxLocals = 6 := hml0
  have hown : s.vm.findClass cs0 = some m.cls := findClass_of_methodNamed Bd.named
  have hnm := (name_of_methodNamed Bd.named Bd.method).1
  have X0 : Stand p l e ({ frames := 2, cells := 1, slots := 6, locals := 25 } : Room) s m #[(.int x0)] below meth c s₁ [] 0 0 := Stand.of_body Bd
  have e0 : s₁.heap = h0 := by rw [← hh, Bd.state]; rfl
  have N0 := Fr.nil n0
  have pre0 : ∀ t, Steps p.tables e below (s₁.setTop (mkF m 0 #[.val (.int x0), .unset, .unset, .unset, .unset, .unset] [])) t → Steps p.tables e below (s₁.setTop (entryFrame m #[(.int x0)] 6)) t := fun t k => castTop (by first | (simp [entryFrame, mkF, argsToLocals, Value.category]; done) | rfl) k
  obtain ⟨_, _, ⟨T4, L4, k4, n4⟩, -, X4, ⟨Lc4, hQ4, l4, y4, z4⟩, st4⟩ := Jvm.LawKit.callS X0 hx (y := (⟨cs0, "values", cs2⟩ : MethodName)) hown (mvT hZ (ww hw 4 rfl)) (mvT hZ (ww hw 5 rfl)) (mvT hZ (ww hw 2 rfl)) (mvT hZ (ww hw 6 rfl)) (by decide) (backOf (W := 0) (rm2_1 l Z a0 hw [] r1 c2 r3 r4 r5 r6 r7 r8 h0 n0 O0 f1 f2 f3) hZ (ww hw 6 rfl) (ww hw 2 rfl) (by decide) (by decide)) (g := (mkF m 2 #[.val (.int x0), .val .null, .unset, .unset, .unset, .unset] [])) rfl (by rw [hml]; rfl) (argsL := []) (rest := []) (lenOf pd____Lcom_example_wiregather_wiregather_wire_FieldType_ rfl) rfl (by show 2 * 0 + _ ≤ _; exact Nat.le_of_eq rfl) (hb hby d1_2) (fun _ _ => ⟨rfl, e0, (by decide : 0 + 1 ≤ _), (by decide : 0 + 6 ≤ _)⟩)
  dsimp only [Pt.U, Pt.locs, Pt.cells, Pt.slots] at X4 l4 y4 z4 st4 hQ4
  subst l4 y4 z4
  obtain ⟨b4_0, rfl, N4q, K4, f5, f6, f7⟩ := hQ4
  have N4 := Fr.app N0 N4q
  obtain ⟨clq8, Arq8, qq8, Sq8, Nq8, Hq8, Gq8⟩ := id f7
  obtain ⟨clq9, Arq9, qq9, Sq9, Nq9, Hq9, Gq9⟩ := id f7
  have o11 := Old.keep O0 K4 all0
  have f12 := f10.ext o11.2
  obtain ⟨T13, X13, e13, st13⟩ := getF X4 hx hZ hown (host := "") (Or.inl (ww hw 25 rfl)) Via.refl rfl f12 (g := (mkF m 26 #[.val (.int x0), .val .null, .val (.ref b4_0), .val (.int (6 : Int32)), .val (.int (0 : Int32)), .val (.ref r3)] [(.ref r3)])) rfl rfl (hb hby d1_26)
  obtain ⟨clq15, Arq15, qq15, Sq15, Nq15, Hq15, Gq15⟩ := id f7
  have f17 := f16.ext o11.2
  obtain ⟨T18, X18, e18, st18⟩ := getF X13 hx hZ hown (host := "") (Or.inl (ww hw 25 rfl)) Via.refl e13 f17 (g := (mkF m 26 #[.val (.int x0), .val .null, .val (.ref b4_0), .val (.int (6 : Int32)), .val (.int (1 : Int32)), .val (.ref r4)] [(.ref r4)])) rfl rfl (hb hby d1_26)
  obtain ⟨clq20, Arq20, qq20, Sq20, Nq20, Hq20, Gq20⟩ := id f7
  have f22 := f21.ext o11.2
  obtain ⟨T23, X23, e23, st23⟩ := getF X18 hx hZ hown (host := "") (Or.inl (ww hw 25 rfl)) Via.refl e18 f22 (g := (mkF m 26 #[.val (.int x0), .val (.ref r4), .val (.ref b4_0), .val (.int (6 : Int32)), .val (.int (2 : Int32)), .val (.ref r5)] [(.ref r5)])) rfl rfl (hb hby d1_26)
  obtain ⟨clq25, Arq25, qq25, Sq25, Nq25, Hq25, Gq25⟩ := id f7
  have f27 := f26.ext o11.2
  obtain ⟨T28, X28, e28, st28⟩ := getF X23 hx hZ hown (host := "") (Or.inl (ww hw 25 rfl)) Via.refl e23 f27 (g := (mkF m 26 #[.val (.int x0), .val (.ref r4), .val (.ref b4_0), .val (.int (6 : Int32)), .val (.int (3 : Int32)), .val (.ref r6)] [(.ref r6)])) rfl rfl (hb hby d1_26)
  obtain ⟨clq30, Arq30, qq30, Sq30, Nq30, Hq30, Gq30⟩ := id f7
  have f32 := f31.ext o11.2
  obtain ⟨T33, X33, e33, st33⟩ := getF X28 hx hZ hown (host := "") (Or.inl (ww hw 25 rfl)) Via.refl e28 f32 (g := (mkF m 26 #[.val (.int x0), .val (.ref r4), .val (.ref b4_0), .val (.int (6 : Int32)), .val (.int (4 : Int32)), .val (.ref r7)] [(.ref r7)])) rfl rfl (hb hby d1_26)
  obtain ⟨clq35, Arq35, qq35, Sq35, Nq35, Hq35, Gq35⟩ := id f7
  have f37 := f36.ext o11.2
  obtain ⟨T38, X38, e38, st38⟩ := getF X33 hx hZ hown (host := "") (Or.inl (ww hw 25 rfl)) Via.refl e33 f37 (g := (mkF m 26 #[.val (.int x0), .val (.ref r4), .val (.ref b4_0), .val (.int (6 : Int32)), .val (.int (5 : Int32)), .val (.ref r8)] [(.ref r8)])) rfl rfl (hb hby d1_26)
  have kp40 : Keep h0 T4.heap [] := (Keep.refl h0 []).trans K4 all0
  obtain ⟨fs, hr, hrun, hended, hW, hsame⟩ := X38.leave (v := some (.ref r4)) (fun h => by rw [Bd.returns] at h; cases h)
  refine ⟨_, _, pre0 _ ?_, hrun, hended, _, _, rfl, ?_, ⟨_, rfl⟩, hW, hsame.mono (by decide) (by decide)⟩
  · show Steps p.tables e below (s₁.setTop (mkF m 0 #[.val (.int x0), .unset, .unset, .unset, .unset, .unset] [])) _
    refine XS.aconstNull X0.here hx rfl (hb hby d1_0) ?_
    refine XS.astoreN X0.here hx rfl (hb hby d1_1) rfl rfl (l' := #[.val (.int x0), .val .null, .unset, .unset, .unset, .unset]) rfl ?_
    refine st4 _ ?_
    show Steps p.tables e below (T4.setTop (mkF m 5 #[.val (.int x0), .val .null, .unset, .unset, .unset, .unset] [(.ref b4_0)])) _
    refine XS.astoreN X4.here hx rfl (hb hby d1_5) rfl rfl (l' := #[.val (.int x0), .val .null, .val (.ref b4_0), .unset, .unset, .unset]) rfl ?_
    refine XS.aloadN X4.here hx rfl (hb hby d1_6) rfl rfl ?_
    refine X4.arraylength hx (Arq8.1) (State.isArrayOf_alike hZ.alike Arq8.2.1) (g := (mkF m 7 #[.val (.int x0), .val .null, .val (.ref b4_0), .unset, .unset, .unset] [(.ref b4_0)])) rfl rfl (hb hby d1_7) _ ?_
    rw [len_of Sq8 Nq8]
    show Steps p.tables e below (T4.setTop (mkF m 8 #[.val (.int x0), .val .null, .val (.ref b4_0), .unset, .unset, .unset] [(.int (6 : Int32))])) _
    refine XS.istoreN X4.here hx rfl (hb hby d1_8) rfl (l' := #[.val (.int x0), .val .null, .val (.ref b4_0), .val (.int (6 : Int32)), .unset, .unset]) rfl ?_
    refine XS.iconst X4.here hx rfl (hb hby d1_9) ?_
    refine XS.istore X4.here hx rfl (hb hby d1_10) rfl (l' := #[.val (.int x0), .val .null, .val (.ref b4_0), .val (.int (6 : Int32)), .val (.int (0 : Int32)), .unset]) rfl ?_
    refine XS.iload X4.here hx rfl (hb hby d1_12) rfl ?_
    show Steps p.tables e below (T4.setTop (mkF m 14 #[.val (.int x0), .val .null, .val (.ref b4_0), .val (.int (6 : Int32)), .val (.int (0 : Int32)), .unset] [(.int (0 : Int32))])) _
    refine XS.iloadN X4.here hx rfl (hb hby d1_14) rfl ?_
    refine XS.icmpNo X4.here hx rfl (hb hby d1_15) rfl (tlt (by decide : (0 : Int32) < (6 : Int32))).2.1 ?_
    refine XS.aloadN X4.here hx rfl (hb hby d1_18) rfl rfl ?_
    refine XS.iload X4.here hx rfl (hb hby d1_19) rfl ?_
    show Steps p.tables e below (T4.setTop (mkF m 21 #[.val (.int x0), .val .null, .val (.ref b4_0), .val (.int (6 : Int32)), .val (.int (0 : Int32)), .unset] [(.int (0 : Int32)), (.ref b4_0)])) _
    refine X4.aaload hx (j := (0 : Int32)) (v := (.ref r3)) (Arq9.1) (State.isArrayOf_alike hZ.alike Arq9.2.1) rfl Arq9.2.2 (inb_of Sq9 ⟨(by decide : ¬ ((0 : Int32) < (0 : Int32))), (by decide : (0 : Int32) < (6 : Int32))⟩) (Has.at Hq9 (inb_of Sq9 ⟨(by decide : ¬ ((0 : Int32) < (0 : Int32))), (by decide : (0 : Int32) < (6 : Int32))⟩) rfl) (g := (mkF m 21 #[.val (.int x0), .val .null, .val (.ref b4_0), .val (.int (6 : Int32)), .val (.int (0 : Int32)), .unset] [(.int (0 : Int32)), (.ref b4_0)])) rfl rfl (hb hby d1_21) _ ?_
    show Steps p.tables e below (T4.setTop (mkF m 22 #[.val (.int x0), .val .null, .val (.ref b4_0), .val (.int (6 : Int32)), .val (.int (0 : Int32)), .unset] [(.ref r3)])) _
    refine XS.astore X4.here hx rfl (hb hby d1_22) rfl rfl (l' := #[.val (.int x0), .val .null, .val (.ref b4_0), .val (.int (6 : Int32)), .val (.int (0 : Int32)), .val (.ref r3)]) rfl ?_
    refine XS.aload X4.here hx rfl (hb hby d1_24) rfl rfl ?_
    refine st13 _ ?_
    show Steps p.tables e below (T13.setTop (mkF m 29 #[.val (.int x0), .val .null, .val (.ref b4_0), .val (.int (6 : Int32)), .val (.int (0 : Int32)), .val (.ref r3)] [(.int (1 : Int32))])) _
    refine XS.iloadN X13.here hx rfl (hb hby d1_29) rfl ?_
    refine XS.icmpYes X13.here hx rfl (pc0 := 30) (pc' := 36) rfl (hb hby d1_30) rfl (feq hc14).2 (by decide) (by decide) ?_
    show Steps p.tables e below (T13.setTop (mkF m 36 #[.val (.int x0), .val .null, .val (.ref b4_0), .val (.int (6 : Int32)), .val (.int (0 : Int32)), .val (.ref r3)] [])) _
    refine XS.iinc X13.here hx rfl (hb hby d1_36) rfl (l' := #[.val (.int x0), .val .null, .val (.ref b4_0), .val (.int (6 : Int32)), .val (.int (1 : Int32)), .val (.ref r3)]) rfl ?_
    refine XS.goto X13.here hx rfl (pc0 := 39) (pc' := 12) rfl (hb hby d1_39) (by decide) (by decide) ?_
    show Steps p.tables e below (T13.setTop (mkF m 12 #[.val (.int x0), .val .null, .val (.ref b4_0), .val (.int (6 : Int32)), .val (.int (1 : Int32)), .val (.ref r3)] [])) _
    refine XS.iload X13.here hx rfl (hb hby d1_12) rfl ?_
    refine XS.iloadN X13.here hx rfl (hb hby d1_14) rfl ?_
    refine XS.icmpNo X13.here hx rfl (hb hby d1_15) rfl (tlt (by decide : (1 : Int32) < (6 : Int32))).2.1 ?_
    refine XS.aloadN X13.here hx rfl (hb hby d1_18) rfl rfl ?_
    show Steps p.tables e below (T13.setTop (mkF m 19 #[.val (.int x0), .val .null, .val (.ref b4_0), .val (.int (6 : Int32)), .val (.int (1 : Int32)), .val (.ref r3)] [(.ref b4_0)])) _
    refine XS.iload X13.here hx rfl (hb hby d1_19) rfl ?_
    refine X13.aaload hx (j := (1 : Int32)) (v := (.ref r4)) (by rw [e13]; exact Arq15.1) (State.isArrayOf_alike hZ.alike Arq15.2.1) rfl Arq15.2.2 (inb_of Sq15 ⟨(by decide : ¬ ((1 : Int32) < (0 : Int32))), (by decide : (1 : Int32) < (6 : Int32))⟩) (Has.at Hq15 (inb_of Sq15 ⟨(by decide : ¬ ((1 : Int32) < (0 : Int32))), (by decide : (1 : Int32) < (6 : Int32))⟩) rfl) (g := (mkF m 21 #[.val (.int x0), .val .null, .val (.ref b4_0), .val (.int (6 : Int32)), .val (.int (1 : Int32)), .val (.ref r3)] [(.int (1 : Int32)), (.ref b4_0)])) rfl rfl (hb hby d1_21) _ ?_
    show Steps p.tables e below (T13.setTop (mkF m 22 #[.val (.int x0), .val .null, .val (.ref b4_0), .val (.int (6 : Int32)), .val (.int (1 : Int32)), .val (.ref r3)] [(.ref r4)])) _
    refine XS.astore X13.here hx rfl (hb hby d1_22) rfl rfl (l' := #[.val (.int x0), .val .null, .val (.ref b4_0), .val (.int (6 : Int32)), .val (.int (1 : Int32)), .val (.ref r4)]) rfl ?_
    refine XS.aload X13.here hx rfl (hb hby d1_24) rfl rfl ?_
    refine st18 _ ?_
    show Steps p.tables e below (T18.setTop (mkF m 29 #[.val (.int x0), .val .null, .val (.ref b4_0), .val (.int (6 : Int32)), .val (.int (1 : Int32)), .val (.ref r4)] [(.int (2 : Int32))])) _
    refine XS.iloadN X18.here hx rfl (hb hby d1_29) rfl ?_
    refine XS.icmpNo X18.here hx rfl (hb hby d1_30) rfl (teq hc19).2 ?_
    refine XS.aload X18.here hx rfl (hb hby d1_33) rfl rfl ?_
    refine XS.astoreN X18.here hx rfl (hb hby d1_35) rfl rfl (l' := #[.val (.int x0), .val (.ref r4), .val (.ref b4_0), .val (.int (6 : Int32)), .val (.int (1 : Int32)), .val (.ref r4)]) rfl ?_
    show Steps p.tables e below (T18.setTop (mkF m 36 #[.val (.int x0), .val (.ref r4), .val (.ref b4_0), .val (.int (6 : Int32)), .val (.int (1 : Int32)), .val (.ref r4)] [])) _
    refine XS.iinc X18.here hx rfl (hb hby d1_36) rfl (l' := #[.val (.int x0), .val (.ref r4), .val (.ref b4_0), .val (.int (6 : Int32)), .val (.int (2 : Int32)), .val (.ref r4)]) rfl ?_
    refine XS.goto X18.here hx rfl (pc0 := 39) (pc' := 12) rfl (hb hby d1_39) (by decide) (by decide) ?_
    show Steps p.tables e below (T18.setTop (mkF m 12 #[.val (.int x0), .val (.ref r4), .val (.ref b4_0), .val (.int (6 : Int32)), .val (.int (2 : Int32)), .val (.ref r4)] [])) _
    refine XS.iload X18.here hx rfl (hb hby d1_12) rfl ?_
    refine XS.iloadN X18.here hx rfl (hb hby d1_14) rfl ?_
    refine XS.icmpNo X18.here hx rfl (hb hby d1_15) rfl (tlt (by decide : (2 : Int32) < (6 : Int32))).2.1 ?_
    refine XS.aloadN X18.here hx rfl (hb hby d1_18) rfl rfl ?_
    show Steps p.tables e below (T18.setTop (mkF m 19 #[.val (.int x0), .val (.ref r4), .val (.ref b4_0), .val (.int (6 : Int32)), .val (.int (2 : Int32)), .val (.ref r4)] [(.ref b4_0)])) _
    refine XS.iload X18.here hx rfl (hb hby d1_19) rfl ?_
    refine X18.aaload hx (j := (2 : Int32)) (v := (.ref r5)) (by rw [e18]; exact Arq20.1) (State.isArrayOf_alike hZ.alike Arq20.2.1) rfl Arq20.2.2 (inb_of Sq20 ⟨(by decide : ¬ ((2 : Int32) < (0 : Int32))), (by decide : (2 : Int32) < (6 : Int32))⟩) (Has.at Hq20 (inb_of Sq20 ⟨(by decide : ¬ ((2 : Int32) < (0 : Int32))), (by decide : (2 : Int32) < (6 : Int32))⟩) rfl) (g := (mkF m 21 #[.val (.int x0), .val (.ref r4), .val (.ref b4_0), .val (.int (6 : Int32)), .val (.int (2 : Int32)), .val (.ref r4)] [(.int (2 : Int32)), (.ref b4_0)])) rfl rfl (hb hby d1_21) _ ?_
    show Steps p.tables e below (T18.setTop (mkF m 22 #[.val (.int x0), .val (.ref r4), .val (.ref b4_0), .val (.int (6 : Int32)), .val (.int (2 : Int32)), .val (.ref r4)] [(.ref r5)])) _
    refine XS.astore X18.here hx rfl (hb hby d1_22) rfl rfl (l' := #[.val (.int x0), .val (.ref r4), .val (.ref b4_0), .val (.int (6 : Int32)), .val (.int (2 : Int32)), .val (.ref r5)]) rfl ?_
    refine XS.aload X18.here hx rfl (hb hby d1_24) rfl rfl ?_
    refine st23 _ ?_
    show Steps p.tables e below (T23.setTop (mkF m 29 #[.val (.int x0), .val (.ref r4), .val (.ref b4_0), .val (.int (6 : Int32)), .val (.int (2 : Int32)), .val (.ref r5)] [(.int (3 : Int32))])) _
    refine XS.iloadN X23.here hx rfl (hb hby d1_29) rfl ?_
    refine XS.icmpYes X23.here hx rfl (pc0 := 30) (pc' := 36) rfl (hb hby d1_30) rfl (feq hc24).2 (by decide) (by decide) ?_
    show Steps p.tables e below (T23.setTop (mkF m 36 #[.val (.int x0), .val (.ref r4), .val (.ref b4_0), .val (.int (6 : Int32)), .val (.int (2 : Int32)), .val (.ref r5)] [])) _
    refine XS.iinc X23.here hx rfl (hb hby d1_36) rfl (l' := #[.val (.int x0), .val (.ref r4), .val (.ref b4_0), .val (.int (6 : Int32)), .val (.int (3 : Int32)), .val (.ref r5)]) rfl ?_
    refine XS.goto X23.here hx rfl (pc0 := 39) (pc' := 12) rfl (hb hby d1_39) (by decide) (by decide) ?_
    show Steps p.tables e below (T23.setTop (mkF m 12 #[.val (.int x0), .val (.ref r4), .val (.ref b4_0), .val (.int (6 : Int32)), .val (.int (3 : Int32)), .val (.ref r5)] [])) _
    refine XS.iload X23.here hx rfl (hb hby d1_12) rfl ?_
    refine XS.iloadN X23.here hx rfl (hb hby d1_14) rfl ?_
    refine XS.icmpNo X23.here hx rfl (hb hby d1_15) rfl (tlt (by decide : (3 : Int32) < (6 : Int32))).2.1 ?_
    refine XS.aloadN X23.here hx rfl (hb hby d1_18) rfl rfl ?_
    show Steps p.tables e below (T23.setTop (mkF m 19 #[.val (.int x0), .val (.ref r4), .val (.ref b4_0), .val (.int (6 : Int32)), .val (.int (3 : Int32)), .val (.ref r5)] [(.ref b4_0)])) _
    refine XS.iload X23.here hx rfl (hb hby d1_19) rfl ?_
    refine X23.aaload hx (j := (3 : Int32)) (v := (.ref r6)) (by rw [e23]; exact Arq25.1) (State.isArrayOf_alike hZ.alike Arq25.2.1) rfl Arq25.2.2 (inb_of Sq25 ⟨(by decide : ¬ ((3 : Int32) < (0 : Int32))), (by decide : (3 : Int32) < (6 : Int32))⟩) (Has.at Hq25 (inb_of Sq25 ⟨(by decide : ¬ ((3 : Int32) < (0 : Int32))), (by decide : (3 : Int32) < (6 : Int32))⟩) rfl) (g := (mkF m 21 #[.val (.int x0), .val (.ref r4), .val (.ref b4_0), .val (.int (6 : Int32)), .val (.int (3 : Int32)), .val (.ref r5)] [(.int (3 : Int32)), (.ref b4_0)])) rfl rfl (hb hby d1_21) _ ?_
    show Steps p.tables e below (T23.setTop (mkF m 22 #[.val (.int x0), .val (.ref r4), .val (.ref b4_0), .val (.int (6 : Int32)), .val (.int (3 : Int32)), .val (.ref r5)] [(.ref r6)])) _
    refine XS.astore X23.here hx rfl (hb hby d1_22) rfl rfl (l' := #[.val (.int x0), .val (.ref r4), .val (.ref b4_0), .val (.int (6 : Int32)), .val (.int (3 : Int32)), .val (.ref r6)]) rfl ?_
    refine XS.aload X23.here hx rfl (hb hby d1_24) rfl rfl ?_
    refine st28 _ ?_
    show Steps p.tables e below (T28.setTop (mkF m 29 #[.val (.int x0), .val (.ref r4), .val (.ref b4_0), .val (.int (6 : Int32)), .val (.int (3 : Int32)), .val (.ref r6)] [(.int (4 : Int32))])) _
    refine XS.iloadN X28.here hx rfl (hb hby d1_29) rfl ?_
    refine XS.icmpYes X28.here hx rfl (pc0 := 30) (pc' := 36) rfl (hb hby d1_30) rfl (feq hc29).2 (by decide) (by decide) ?_
    show Steps p.tables e below (T28.setTop (mkF m 36 #[.val (.int x0), .val (.ref r4), .val (.ref b4_0), .val (.int (6 : Int32)), .val (.int (3 : Int32)), .val (.ref r6)] [])) _
    refine XS.iinc X28.here hx rfl (hb hby d1_36) rfl (l' := #[.val (.int x0), .val (.ref r4), .val (.ref b4_0), .val (.int (6 : Int32)), .val (.int (4 : Int32)), .val (.ref r6)]) rfl ?_
    refine XS.goto X28.here hx rfl (pc0 := 39) (pc' := 12) rfl (hb hby d1_39) (by decide) (by decide) ?_
    show Steps p.tables e below (T28.setTop (mkF m 12 #[.val (.int x0), .val (.ref r4), .val (.ref b4_0), .val (.int (6 : Int32)), .val (.int (4 : Int32)), .val (.ref r6)] [])) _
    refine XS.iload X28.here hx rfl (hb hby d1_12) rfl ?_
    refine XS.iloadN X28.here hx rfl (hb hby d1_14) rfl ?_
    refine XS.icmpNo X28.here hx rfl (hb hby d1_15) rfl (tlt (by decide : (4 : Int32) < (6 : Int32))).2.1 ?_
    refine XS.aloadN X28.here hx rfl (hb hby d1_18) rfl rfl ?_
    show Steps p.tables e below (T28.setTop (mkF m 19 #[.val (.int x0), .val (.ref r4), .val (.ref b4_0), .val (.int (6 : Int32)), .val (.int (4 : Int32)), .val (.ref r6)] [(.ref b4_0)])) _
    refine XS.iload X28.here hx rfl (hb hby d1_19) rfl ?_
    refine X28.aaload hx (j := (4 : Int32)) (v := (.ref r7)) (by rw [e28]; exact Arq30.1) (State.isArrayOf_alike hZ.alike Arq30.2.1) rfl Arq30.2.2 (inb_of Sq30 ⟨(by decide : ¬ ((4 : Int32) < (0 : Int32))), (by decide : (4 : Int32) < (6 : Int32))⟩) (Has.at Hq30 (inb_of Sq30 ⟨(by decide : ¬ ((4 : Int32) < (0 : Int32))), (by decide : (4 : Int32) < (6 : Int32))⟩) rfl) (g := (mkF m 21 #[.val (.int x0), .val (.ref r4), .val (.ref b4_0), .val (.int (6 : Int32)), .val (.int (4 : Int32)), .val (.ref r6)] [(.int (4 : Int32)), (.ref b4_0)])) rfl rfl (hb hby d1_21) _ ?_
    show Steps p.tables e below (T28.setTop (mkF m 22 #[.val (.int x0), .val (.ref r4), .val (.ref b4_0), .val (.int (6 : Int32)), .val (.int (4 : Int32)), .val (.ref r6)] [(.ref r7)])) _
    refine XS.astore X28.here hx rfl (hb hby d1_22) rfl rfl (l' := #[.val (.int x0), .val (.ref r4), .val (.ref b4_0), .val (.int (6 : Int32)), .val (.int (4 : Int32)), .val (.ref r7)]) rfl ?_
    refine XS.aload X28.here hx rfl (hb hby d1_24) rfl rfl ?_
    refine st33 _ ?_
    show Steps p.tables e below (T33.setTop (mkF m 29 #[.val (.int x0), .val (.ref r4), .val (.ref b4_0), .val (.int (6 : Int32)), .val (.int (4 : Int32)), .val (.ref r7)] [(.int (5 : Int32))])) _
    refine XS.iloadN X33.here hx rfl (hb hby d1_29) rfl ?_
    refine XS.icmpYes X33.here hx rfl (pc0 := 30) (pc' := 36) rfl (hb hby d1_30) rfl (feq hc34).2 (by decide) (by decide) ?_
    show Steps p.tables e below (T33.setTop (mkF m 36 #[.val (.int x0), .val (.ref r4), .val (.ref b4_0), .val (.int (6 : Int32)), .val (.int (4 : Int32)), .val (.ref r7)] [])) _
    refine XS.iinc X33.here hx rfl (hb hby d1_36) rfl (l' := #[.val (.int x0), .val (.ref r4), .val (.ref b4_0), .val (.int (6 : Int32)), .val (.int (5 : Int32)), .val (.ref r7)]) rfl ?_
    refine XS.goto X33.here hx rfl (pc0 := 39) (pc' := 12) rfl (hb hby d1_39) (by decide) (by decide) ?_
    show Steps p.tables e below (T33.setTop (mkF m 12 #[.val (.int x0), .val (.ref r4), .val (.ref b4_0), .val (.int (6 : Int32)), .val (.int (5 : Int32)), .val (.ref r7)] [])) _
    refine XS.iload X33.here hx rfl (hb hby d1_12) rfl ?_
    refine XS.iloadN X33.here hx rfl (hb hby d1_14) rfl ?_
    refine XS.icmpNo X33.here hx rfl (hb hby d1_15) rfl (tlt (by decide : (5 : Int32) < (6 : Int32))).2.1 ?_
    refine XS.aloadN X33.here hx rfl (hb hby d1_18) rfl rfl ?_
    show Steps p.tables e below (T33.setTop (mkF m 19 #[.val (.int x0), .val (.ref r4), .val (.ref b4_0), .val (.int (6 : Int32)), .val (.int (5 : Int32)), .val (.ref r7)] [(.ref b4_0)])) _
    refine XS.iload X33.here hx rfl (hb hby d1_19) rfl ?_
    refine X33.aaload hx (j := (5 : Int32)) (v := (.ref r8)) (by rw [e33]; exact Arq35.1) (State.isArrayOf_alike hZ.alike Arq35.2.1) rfl Arq35.2.2 (inb_of Sq35 ⟨(by decide : ¬ ((5 : Int32) < (0 : Int32))), (by decide : (5 : Int32) < (6 : Int32))⟩) (Has.at Hq35 (inb_of Sq35 ⟨(by decide : ¬ ((5 : Int32) < (0 : Int32))), (by decide : (5 : Int32) < (6 : Int32))⟩) rfl) (g := (mkF m 21 #[.val (.int x0), .val (.ref r4), .val (.ref b4_0), .val (.int (6 : Int32)), .val (.int (5 : Int32)), .val (.ref r7)] [(.int (5 : Int32)), (.ref b4_0)])) rfl rfl (hb hby d1_21) _ ?_
    show Steps p.tables e below (T33.setTop (mkF m 22 #[.val (.int x0), .val (.ref r4), .val (.ref b4_0), .val (.int (6 : Int32)), .val (.int (5 : Int32)), .val (.ref r7)] [(.ref r8)])) _
    refine XS.astore X33.here hx rfl (hb hby d1_22) rfl rfl (l' := #[.val (.int x0), .val (.ref r4), .val (.ref b4_0), .val (.int (6 : Int32)), .val (.int (5 : Int32)), .val (.ref r8)]) rfl ?_
    refine XS.aload X33.here hx rfl (hb hby d1_24) rfl rfl ?_
    refine st38 _ ?_
    show Steps p.tables e below (T38.setTop (mkF m 29 #[.val (.int x0), .val (.ref r4), .val (.ref b4_0), .val (.int (6 : Int32)), .val (.int (5 : Int32)), .val (.ref r8)] [(.int (6 : Int32))])) _
    refine XS.iloadN X38.here hx rfl (hb hby d1_29) rfl ?_
    refine XS.icmpYes X38.here hx rfl (pc0 := 30) (pc' := 36) rfl (hb hby d1_30) rfl (feq hc39).2 (by decide) (by decide) ?_
    show Steps p.tables e below (T38.setTop (mkF m 36 #[.val (.int x0), .val (.ref r4), .val (.ref b4_0), .val (.int (6 : Int32)), .val (.int (5 : Int32)), .val (.ref r8)] [])) _
    refine XS.iinc X38.here hx rfl (hb hby d1_36) rfl (l' := #[.val (.int x0), .val (.ref r4), .val (.ref b4_0), .val (.int (6 : Int32)), .val (.int (6 : Int32)), .val (.ref r8)]) rfl ?_
    refine XS.goto X38.here hx rfl (pc0 := 39) (pc' := 12) rfl (hb hby d1_39) (by decide) (by decide) ?_
    show Steps p.tables e below (T38.setTop (mkF m 12 #[.val (.int x0), .val (.ref r4), .val (.ref b4_0), .val (.int (6 : Int32)), .val (.int (6 : Int32)), .val (.ref r8)] [])) _
    refine XS.iload X38.here hx rfl (hb hby d1_12) rfl ?_
    refine XS.iloadN X38.here hx rfl (hb hby d1_14) rfl ?_
    refine XS.icmpYes X38.here hx rfl (pc0 := 15) (pc' := 42) rfl (hb hby d1_15) rfl (flt (by decide : ¬ ((6 : Int32) < (6 : Int32)))).2.1 (by decide) (by decide) ?_
    show Steps p.tables e below (T38.setTop (mkF m 42 #[.val (.int x0), .val (.ref r4), .val (.ref b4_0), .val (.int (6 : Int32)), .val (.int (6 : Int32)), .val (.ref r8)] [])) _
    refine XS.aloadN X38.here hx rfl (hb hby d1_42) rfl rfl ?_
    exact retOut X38 hx (i := .areturn) Bd.returns rfl (Or.inr (Or.inr (Or.inr (Or.inr ⟨rfl, rfl, rfl⟩)))) (hb hby d1_43) hr
  · show Q1_3 Z x0 r1 c2 r3 r4 r5 r6 r7 r8 h0 n0 _ T38.heap _
    rw [e38]
    exact ⟨rfl, N4, kp40⟩
theorem d3_14 : decode method_2_code 14 = .ok (.getstatic 13, 3) := by decide +kernel
theorem d3_17 : decode method_2_code 17 = .ok (.areturn, 1) := by decide +kernel
def Q3_3 (Z : State) (x0 : Int32) (r1 : Addr) (h0 : Heap) (n0 : Nat) (v : Option Value) (h : Heap) (L : List Loc) : Prop := v = some (.ref r1) ∧ Fr n0 L ∧ h = h0
set_option maxRecDepth 65536 in
set_option maxHeartbeats 40000000 in
theorem rm3_3 (l : Launch) (Z : State) (a0 : Array Value) (hw : ∀ d ∈ tables_1, d.before a0 Z = true) (ws : List Jvm.Cond) (x0 : Int32) (r1 : Addr) (h0 : Heap) (n0 : Nat) (O0 : Old Z n0 h0) (hc1 : ¬ (x0 = (1 : Int32))) (hc2 : x0 = (2 : Int32)) (f3 : Sta Z Z.heap cs0 "U32" cs5 (.ref r1)) :
    MetFree l (⟨cs4, "expected", cs3⟩ : MethodName) (head1 (Jvm.Cond.code (⟨cs4, "expected", cs3⟩ : MethodName) method_2_code 1 (some (.object cs0)) :: ws) ({ frames := 0, cells := 0, slots := 0, locals := 0 } : Room)) (fun a U => a = #[(.int x0)] ∧ Z.Warmed39 U.vm ∧ U.heap = h0) (fun _ _ _ _ _ => True) (fun _ U o U' => ∃ v L, o = .returned v ∧ Q3_3 Z x0 r1 h0 n0 v U'.heap L ∧ FrameEnd U o U' L ({ frames := 0, cells := 0, slots := 0, locals := 0 } : Room).cells ({ frames := 0, cells := 0, slots := 0, locals := 0 } : Room).slots) := by
  refine MetFree.of_bodySF (plainFor_of_name pn_com_example_wiregather_wiregather_wire_FieldTypeOfCodePinLaw) hisR ?_
  intro p e s m args below meth c s₁ Bd hml0 hP hK
  obtain ⟨rfl, hZ, hh⟩ := hP
  have hx := Bd.exec
  have hby := Bd.bytes
  have hml : c.maxLocals = 1 := hml0
  have hown : s.vm.findClass cs4 = some m.cls := findClass_of_methodNamed Bd.named
  have hnm := (name_of_methodNamed Bd.named Bd.method).1
  have X0 : Stand p l e ({ frames := 0, cells := 0, slots := 0, locals := 0 } : Room) s m #[(.int x0)] below meth c s₁ [] 0 0 := Stand.of_body Bd
  have e0 : s₁.heap = h0 := by rw [← hh, Bd.state]; rfl
  have N0 := Fr.nil n0
  have pre0 : ∀ t, Steps p.tables e below (s₁.setTop (mkF m 0 #[.val (.int x0)] [])) t → Steps p.tables e below (s₁.setTop (entryFrame m #[(.int x0)] 1)) t := fun t k => castTop (by first | (simp [entryFrame, mkF, argsToLocals, Value.category]; done) | rfl) k
  have f4 := f3.ext O0.2
  obtain ⟨T5, X5, e5, st5⟩ := getS2 X0 hx hZ hown (host := "") (Or.inl (ww hw 36 rfl)) Via.refl e0 f4 (g := (mkF m 14 #[.val (.int x0)] [])) rfl (hb hby d3_14)
  obtain ⟨fs, hr, hrun, hended, hW, hsame⟩ := X5.leave (v := some (.ref r1)) (fun h => by rw [Bd.returns] at h; cases h)
  refine ⟨_, _, pre0 _ ?_, hrun, hended, _, _, rfl, ?_, ⟨_, rfl⟩, hW, hsame.mono (by decide) (by decide)⟩
  · show Steps p.tables e below (s₁.setTop (mkF m 0 #[.val (.int x0)] [])) _
    refine XS.iloadN X0.here hx rfl (hb hby d3_0) rfl ?_
    refine XS.iconst X0.here hx rfl (hb hby d3_1) ?_
    refine XS.icmpYes X0.here hx rfl (pc0 := 2) (pc' := 9) rfl (hb hby d3_2) rfl (feq hc1).2 (by decide) (by decide) ?_
    show Steps p.tables e below (s₁.setTop (mkF m 9 #[.val (.int x0)] [])) _
    refine XS.iloadN X0.here hx rfl (hb hby d3_9) rfl ?_
    refine XS.iconst X0.here hx rfl (hb hby d3_10) ?_
    refine XS.icmpNo X0.here hx rfl (hb hby d3_11) rfl (teq hc2).2 ?_
    refine st5 _ ?_
    show Steps p.tables e below (T5.setTop (mkF m 17 #[.val (.int x0)] [(.ref r1)])) _
    exact retOut X5 hx (i := .areturn) Bd.returns rfl (Or.inr (Or.inr (Or.inr (Or.inr ⟨rfl, rfl, rfl⟩)))) (hb hby d3_17) hr
  · show Q3_3 Z x0 r1 h0 n0 _ T5.heap _
    rw [e5]
    exact ⟨rfl, N0, rfl⟩
def Q0_3 (Z : State) (x0 : Int32) (x1 : Int32) (r2 : Addr) (c3 : ClassId) (r4 : Addr) (r5 : Addr) (r6 : Addr) (r7 : Addr) (r8 : Addr) (r9 : Addr) (h0 : Heap) (n0 : Nat) (v : Option Value) (h : Heap) (L : List Loc) : Prop := v = some (.int (1 : Int32)) ∧ Fr n0 L
set_option maxRecDepth 65536 in
set_option maxHeartbeats 40000000 in
theorem rm0_3 (l : Launch) (Z : State) (a0 : Array Value) (hw : ∀ d ∈ tables_1, d.before a0 Z = true) (ws : List Jvm.Cond) (x0 : Int32) (x1 : Int32) (r2 : Addr) (c3 : ClassId) (r4 : Addr) (r5 : Addr) (r6 : Addr) (r7 : Addr) (r8 : Addr) (r9 : Addr) (h0 : Heap) (n0 : Nat) (O0 : Old Z n0 h0) (f1 : Sta Z Z.heap cs0 "$VALUES" cs1 (.ref r2)) (f2 : Exa Z Z.heap r2 cs1) (f3 : Arv Z Z.heap r2 c3 (.object cs0) (6 : Int32) [(.ref r4), (.ref r5), (.ref r6), (.ref r7), (.ref r8), (.ref r9)] .null) (f4 : Fld Z Z.heap r4 cs0 "code" "I" (.int (1 : Int32))) (hc5 : (1 : Int32) = x0) (f6 : Fld Z Z.heap r5 cs0 "code" "I" (.int (2 : Int32))) (hc7 : ¬ ((2 : Int32) = x0)) (f8 : Fld Z Z.heap r6 cs0 "code" "I" (.int (3 : Int32))) (hc9 : ¬ ((3 : Int32) = x0)) (f10 : Fld Z Z.heap r7 cs0 "code" "I" (.int (4 : Int32))) (hc11 : ¬ ((4 : Int32) = x0)) (f12 : Fld Z Z.heap r8 cs0 "code" "I" (.int (5 : Int32))) (hc13 : ¬ ((5 : Int32) = x0)) (f14 : Fld Z Z.heap r9 cs0 "code" "I" (.int (6 : Int32))) (hc15 : ¬ ((6 : Int32) = x0)) (hc17 : ¬ ((1 : Int32) = (x1 &&& (7 : Int32)))) (hc18 : (2 : Int32) = (x1 &&& (7 : Int32))) (hc19 : ¬ ((3 : Int32) = (x1 &&& (7 : Int32)))) (hc20 : ¬ ((4 : Int32) = (x1 &&& (7 : Int32)))) (hc21 : ¬ ((5 : Int32) = (x1 &&& (7 : Int32)))) (hc22 : ¬ ((6 : Int32) = (x1 &&& (7 : Int32)))) (hc25 : x0 = (1 : Int32)) (f26 : Sta Z Z.heap cs0 "I32" cs5 (.ref r4)) (hc29 : ¬ ((x1 &&& (7 : Int32)) = (1 : Int32))) (hc30 : (x1 &&& (7 : Int32)) = (2 : Int32)) (f31 : Sta Z Z.heap cs0 "U32" cs5 (.ref r5)) :
    MetFree l x (head1 (Jvm.Cond.code x code maxLocals ret :: ws) room_1) (fun a U => a = #[(.int x0), (.int x1)] ∧ Z.Warmed39 U.vm ∧ U.heap = h0) (fun _ _ _ _ _ => True) (fun _ U o U' => ∃ v L, o = .returned v ∧ Q0_3 Z x0 x1 r2 c3 r4 r5 r6 r7 r8 r9 h0 n0 v U'.heap L ∧ FrameEnd U o U' L room_1.cells room_1.slots) := by
  refine MetFree.of_bodySF (plainFor_of_name pn_com_example_wiregather_wiregather_wire_FieldTypeOfCodePinLaw) hisR ?_
  intro p e s m args below meth c s₁ Bd hml0 hP hK
  obtain ⟨rfl, hZ, hh⟩ := hP
  have hx := Bd.exec
  have hby := Bd.bytes
  have hml : c.maxLocals = 5 := hml0
  have hown : s.vm.findClass cs4 = some m.cls := findClass_of_methodNamed Bd.named
  have hnm := (name_of_methodNamed Bd.named Bd.method).1
  have X0 : Stand p l e room_1 s m #[(.int x0), (.int x1)] below meth c s₁ [] 0 0 := Stand.of_body Bd
  have e0 : s₁.heap = h0 := by rw [← hh, Bd.state]; rfl
  have N0 := Fr.nil n0
  have pre0 : ∀ t, Steps p.tables e below (s₁.setTop (mkF m 0 #[.val (.int x0), .val (.int x1), .unset, .unset, .unset] [])) t → Steps p.tables e below (s₁.setTop (entryFrame m #[(.int x0), (.int x1)] maxLocals)) t := fun t k => castTop (by first | (simp [entryFrame, mkF, argsToLocals, Value.category, maxLocals]; done) | rfl) k
  obtain ⟨_, _, ⟨T16, L16, k16, n16⟩, -, X16, ⟨Lc16, hQ16, l16, y16, z16⟩, st16⟩ := Jvm.LawKit.callS X0 hx (y := (⟨cs0, "ofCode", cs3⟩ : MethodName)) hown (mvT hZ (ww hw 0 rfl)) (mvT hZ (ww hw 1 rfl)) (mvT hZ (ww hw 2 rfl)) (mvT hZ (ww hw 3 rfl)) (by decide) (backOf (W := 0) (rm1_1 l Z a0 hw [] x0 r2 c3 r4 r5 r6 r7 r8 r9 h0 n0 O0 f1 f2 f3 f4 hc5 f6 hc7 f8 hc9 f10 hc11 f12 hc13 f14 hc15) hZ (ww hw 3 rfl) (ww hw 2 rfl) (by decide) (by decide)) (g := (mkF m 6 #[.val (.int x0), .val (.int x1), .val (.int (x1 &&& (7 : Int32))), .unset, .unset] [(.int x0)])) rfl (by rw [hml]; rfl) (argsL := [(.int x0)]) (rest := []) (lenOf pd__I_Lcom_example_wiregather_wiregather_wire_FieldType_ rfl) rfl (by show 2 * 0 + _ ≤ _; exact Nat.le_of_eq rfl) (hb hby at_6) (fun _ _ => ⟨rfl, e0, (by decide : 0 + 1 ≤ _), (by decide : 0 + 6 ≤ _)⟩)
  dsimp only [Pt.U, Pt.locs, Pt.cells, Pt.slots] at X16 l16 y16 z16 st16 hQ16
  subst l16 y16 z16
  obtain ⟨rfl, N16q, K16⟩ := hQ16
  have N16 := Fr.app N0 N16q
  have o23 := Old.keep O0 K16 all0
  obtain ⟨_, _, ⟨T24, L24, k24, n24⟩, -, X24, ⟨Lc24, hQ24, l24, y24, z24⟩, st24⟩ := Jvm.LawKit.callS X16 hx (y := (⟨cs0, "ofCode", cs3⟩ : MethodName)) hown (mvT hZ (ww hw 0 rfl)) (mvT hZ (ww hw 1 rfl)) (mvT hZ (ww hw 2 rfl)) (mvT hZ (ww hw 3 rfl)) (by decide) (backOf (W := 0) (rm1_3 l Z a0 hw [] (x1 &&& (7 : Int32)) r2 c3 r4 r5 r6 r7 r8 r9 T16.heap n0 o23 f1 f2 f3 f4 hc17 f6 hc18 f8 hc19 f10 hc20 f12 hc21 f14 hc22) hZ (ww hw 3 rfl) (ww hw 2 rfl) (by decide) (by decide)) (g := (mkF m 11 #[.val (.int x0), .val (.int x1), .val (.int (x1 &&& (7 : Int32))), .val (.ref r4), .unset] [(.int (x1 &&& (7 : Int32)))])) rfl (by rw [hml]; rfl) (argsL := [(.int (x1 &&& (7 : Int32)))]) (rest := []) (lenOf pd__I_Lcom_example_wiregather_wiregather_wire_FieldType_ rfl) rfl (by show 2 * 0 + _ ≤ _; exact Nat.le_of_eq rfl) (hb hby at_11) (fun _ _ => ⟨rfl, rfl, (by decide : 1 + 1 ≤ _), (by decide : 6 + 6 ≤ _)⟩)
  dsimp only [Pt.U, Pt.locs, Pt.cells, Pt.slots] at X24 l24 y24 z24 st24 hQ24
  subst l24 y24 z24
  obtain ⟨rfl, N24q, K24⟩ := hQ24
  have N24 := Fr.app N16 N24q
  have o27 := Old.keep o23 K24 all0
  obtain ⟨_, _, ⟨T28, L28, k28, n28⟩, -, X28, ⟨Lc28, hQ28, l28, y28, z28⟩, st28⟩ := Jvm.LawKit.callS X24 hx (y := (⟨cs4, "expected", cs3⟩ : MethodName)) hown (mvT hZ (ww hw 27 rfl)) (mvT hZ (ww hw 28 rfl)) (mvT hZ (ww hw 29 rfl)) (mvT hZ (ww hw 30 rfl)) (by decide) (backOf (W := 1) (rm3_1 l Z a0 hw [] x0 r4 T24.heap n0 o27 hc25 f26) hZ (ww hw 30 rfl) (ww hw 29 rfl) (by decide) (by decide)) (g := (mkF m 18 #[.val (.int x0), .val (.int x1), .val (.int (x1 &&& (7 : Int32))), .val (.ref r4), .val (.ref r5)] [(.int x0), (.ref r4)])) rfl (by rw [hml]; rfl) (argsL := [(.int x0)]) (rest := [(.ref r4)]) (lenOf pd__I_Lcom_example_wiregather_wiregather_wire_FieldType_ rfl) rfl (by show 2 * 0 + _ ≤ _; exact Nat.le_of_eq rfl) (hb hby at_18) (fun _ _ => ⟨rfl, rfl, (by decide : 2 + 0 ≤ _), (by decide : 12 + 0 ≤ _)⟩)
  dsimp only [Pt.U, Pt.locs, Pt.cells, Pt.slots] at X28 l28 y28 z28 st28 hQ28
  subst l28 y28 z28
  obtain ⟨rfl, N28q, E28⟩ := hQ28
  have N28 := Fr.app N24 N28q
  obtain ⟨_, _, ⟨T32, L32, k32, n32⟩, -, X32, ⟨Lc32, hQ32, l32, y32, z32⟩, st32⟩ := Jvm.LawKit.callS X28 hx (y := (⟨cs4, "expected", cs3⟩ : MethodName)) hown (mvT hZ (ww hw 27 rfl)) (mvT hZ (ww hw 28 rfl)) (mvT hZ (ww hw 29 rfl)) (mvT hZ (ww hw 30 rfl)) (by decide) (backOf (W := 1) (rm3_3 l Z a0 hw [] (x1 &&& (7 : Int32)) r5 T24.heap n0 o27 hc29 hc30 f31) hZ (ww hw 30 rfl) (ww hw 29 rfl) (by decide) (by decide)) (g := (mkF m 27 #[.val (.int x0), .val (.int x1), .val (.int (x1 &&& (7 : Int32))), .val (.ref r4), .val (.ref r5)] [(.int (x1 &&& (7 : Int32))), (.ref r5)])) rfl (by rw [hml]; rfl) (argsL := [(.int (x1 &&& (7 : Int32)))]) (rest := [(.ref r5)]) (lenOf pd__I_Lcom_example_wiregather_wiregather_wire_FieldType_ rfl) rfl (by show 2 * 0 + _ ≤ _; exact Nat.le_of_eq rfl) (hb hby at_27) (fun _ _ => ⟨rfl, E28, (by decide : 2 + 0 ≤ _), (by decide : 12 + 0 ≤ _)⟩)
  dsimp only [Pt.U, Pt.locs, Pt.cells, Pt.slots] at X32 l32 y32 z32 st32 hQ32
  subst l32 y32 z32
  obtain ⟨rfl, N32q, E32⟩ := hQ32
  have N32 := Fr.app N28 N32q
  obtain ⟨fs, hr, hrun, hended, hW, hsame⟩ := X32.leave (v := some (.int (1 : Int32))) (fun h => by rw [Bd.returns] at h; cases h)
  refine ⟨_, _, pre0 _ ?_, hrun, hended, _, _, rfl, ?_, ⟨_, rfl⟩, hW, hsame.mono (by decide) (by decide)⟩
  · show Steps p.tables e below (s₁.setTop (mkF m 0 #[.val (.int x0), .val (.int x1), .unset, .unset, .unset] [])) _
    refine XS.iloadN X0.here hx rfl (hb hby at_0) rfl ?_
    refine XS.bipush X0.here hx rfl (hb hby at_1) ?_
    refine XS.iand X0.here hx rfl (hb hby at_3) rfl ?_
    refine XS.istoreN X0.here hx rfl (hb hby at_4) rfl (l' := #[.val (.int x0), .val (.int x1), .val (.int (x1 &&& (7 : Int32))), .unset, .unset]) rfl ?_
    show Steps p.tables e below (s₁.setTop (mkF m 5 #[.val (.int x0), .val (.int x1), .val (.int (x1 &&& (7 : Int32))), .unset, .unset] [])) _
    refine XS.iloadN X0.here hx rfl (hb hby at_5) rfl ?_
    refine st16 _ ?_
    show Steps p.tables e below (T16.setTop (mkF m 9 #[.val (.int x0), .val (.int x1), .val (.int (x1 &&& (7 : Int32))), .unset, .unset] [(.ref r4)])) _
    refine XS.astoreN X16.here hx rfl (hb hby at_9) rfl rfl (l' := #[.val (.int x0), .val (.int x1), .val (.int (x1 &&& (7 : Int32))), .val (.ref r4), .unset]) rfl ?_
    refine XS.iloadN X16.here hx rfl (hb hby at_10) rfl ?_
    refine st24 _ ?_
    show Steps p.tables e below (T24.setTop (mkF m 14 #[.val (.int x0), .val (.int x1), .val (.int (x1 &&& (7 : Int32))), .val (.ref r4), .unset] [(.ref r5)])) _
    refine XS.astore X24.here hx rfl (hb hby at_14) rfl rfl (l' := #[.val (.int x0), .val (.int x1), .val (.int (x1 &&& (7 : Int32))), .val (.ref r4), .val (.ref r5)]) rfl ?_
    refine XS.aloadN X24.here hx rfl (hb hby at_16) rfl rfl ?_
    refine XS.iloadN X24.here hx rfl (hb hby at_17) rfl ?_
    refine st28 _ ?_
    show Steps p.tables e below (T28.setTop (mkF m 21 #[.val (.int x0), .val (.int x1), .val (.int (x1 &&& (7 : Int32))), .val (.ref r4), .val (.ref r5)] [(.ref r4), (.ref r4)])) _
    refine Jvm.RoadKit.acmp (g := (mkF m 21 #[.val (.int x0), .val (.int x1), .val (.int (x1 &&& (7 : Int32))), .val (.ref r4), .val (.ref r5)] [(.ref r4), (.ref r4)])) X28 hx rfl rfl rfl (pc0 := 21) (pc' := 24) (same := true) rfl (hb hby at_21) rfl (decide_eq_true rfl) (by decide) (by decide) ?_
    show Steps p.tables e below (T28.setTop (mkF m 24 #[.val (.int x0), .val (.int x1), .val (.int (x1 &&& (7 : Int32))), .val (.ref r4), .val (.ref r5)] [])) _
    refine XS.aload X28.here hx rfl (hb hby at_24) rfl rfl ?_
    refine XS.iloadN X28.here hx rfl (hb hby at_26) rfl ?_
    refine st32 _ ?_
    show Steps p.tables e below (T32.setTop (mkF m 30 #[.val (.int x0), .val (.int x1), .val (.int (x1 &&& (7 : Int32))), .val (.ref r4), .val (.ref r5)] [(.ref r5), (.ref r5)])) _
    refine Jvm.RoadKit.acmp (g := (mkF m 30 #[.val (.int x0), .val (.int x1), .val (.int (x1 &&& (7 : Int32))), .val (.ref r4), .val (.ref r5)] [(.ref r5), (.ref r5)])) X32 hx rfl rfl rfl (pc0 := 30) (pc' := 33) (same := true) rfl (hb hby at_30) rfl (decide_eq_true rfl) (by decide) (by decide) ?_
    show Steps p.tables e below (T32.setTop (mkF m 33 #[.val (.int x0), .val (.int x1), .val (.int (x1 &&& (7 : Int32))), .val (.ref r4), .val (.ref r5)] [])) _
    refine XS.iconst X32.here hx rfl (hb hby at_33) ?_
    refine XS.goto X32.here hx rfl (pc0 := 34) (pc' := 38) rfl (hb hby at_34) (by decide) (by decide) ?_
    show Steps p.tables e below (T32.setTop (mkF m 38 #[.val (.int x0), .val (.int x1), .val (.int (x1 &&& (7 : Int32))), .val (.ref r4), .val (.ref r5)] [(.int (1 : Int32))])) _
    exact retN X32 hx (t := .boolean) Bd.returns (by simp) (hb hby at_38) hr
  · show Q0_3 Z x0 x1 r2 c3 r4 r5 r6 r7 r8 r9 h0 n0 _ T32.heap _
    rw [E32]
    exact ⟨rfl, N32⟩
def Q1_4 (Z : State) (x0 : Int32) (r1 : Addr) (c2 : ClassId) (r3 : Addr) (r4 : Addr) (r5 : Addr) (r6 : Addr) (r7 : Addr) (r8 : Addr) (h0 : Heap) (n0 : Nat) (v : Option Value) (h : Heap) (L : List Loc) : Prop := v = some (.ref r5) ∧ Fr n0 L ∧ Keep h0 h []
set_option maxRecDepth 65536 in
set_option maxHeartbeats 40000000 in
theorem rm1_4 (l : Launch) (Z : State) (a0 : Array Value) (hw : ∀ d ∈ tables_1, d.before a0 Z = true) (ws : List Jvm.Cond) (x0 : Int32) (r1 : Addr) (c2 : ClassId) (r3 : Addr) (r4 : Addr) (r5 : Addr) (r6 : Addr) (r7 : Addr) (r8 : Addr) (h0 : Heap) (n0 : Nat) (O0 : Old Z n0 h0) (f1 : Sta Z Z.heap cs0 "$VALUES" cs1 (.ref r1)) (f2 : Exa Z Z.heap r1 cs1) (f3 : Arv Z Z.heap r1 c2 (.object cs0) (6 : Int32) [(.ref r3), (.ref r4), (.ref r5), (.ref r6), (.ref r7), (.ref r8)] .null) (f10 : Fld Z Z.heap r3 cs0 "code" "I" (.int (1 : Int32))) (hc14 : ¬ ((1 : Int32) = x0)) (f16 : Fld Z Z.heap r4 cs0 "code" "I" (.int (2 : Int32))) (hc19 : ¬ ((2 : Int32) = x0)) (f21 : Fld Z Z.heap r5 cs0 "code" "I" (.int (3 : Int32))) (hc24 : (3 : Int32) = x0) (f26 : Fld Z Z.heap r6 cs0 "code" "I" (.int (4 : Int32))) (hc29 : ¬ ((4 : Int32) = x0)) (f31 : Fld Z Z.heap r7 cs0 "code" "I" (.int (5 : Int32))) (hc34 : ¬ ((5 : Int32) = x0)) (f36 : Fld Z Z.heap r8 cs0 "code" "I" (.int (6 : Int32))) (hc39 : ¬ ((6 : Int32) = x0)) :
    MetFree l (⟨cs0, "ofCode", cs3⟩ : MethodName) (head1 (Jvm.Cond.code (⟨cs0, "ofCode", cs3⟩ : MethodName) prog_72_method_7_code 6 (some (.object cs0)) :: ws) ({ frames := 2, cells := 1, slots := 6, locals := 25 } : Room)) (fun a U => a = #[(.int x0)] ∧ Z.Warmed39 U.vm ∧ U.heap = h0) (fun _ _ _ _ _ => True) (fun _ U o U' => ∃ v L, o = .returned v ∧ Q1_4 Z x0 r1 c2 r3 r4 r5 r6 r7 r8 h0 n0 v U'.heap L ∧ FrameEnd U o U' L ({ frames := 2, cells := 1, slots := 6, locals := 25 } : Room).cells ({ frames := 2, cells := 1, slots := 6, locals := 25 } : Room).slots) := by
  refine MetFree.of_bodySF (plainFor_of_name pn_com_example_wiregather_wiregather_wire_FieldType) hisR ?_
  intro p e s m args below meth c s₁ Bd hml0 hP hK
  obtain ⟨rfl, hZ, hh⟩ := hP
  have hx := Bd.exec
  have hby := Bd.bytes
  have hml : c.maxLocals = 6 := hml0
  have hown : s.vm.findClass cs0 = some m.cls := findClass_of_methodNamed Bd.named
  have hnm := (name_of_methodNamed Bd.named Bd.method).1
  have X0 : Stand p l e ({ frames := 2, cells := 1, slots := 6, locals := 25 } : Room) s m #[(.int x0)] below meth c s₁ [] 0 0 := Stand.of_body Bd
  have e0 : s₁.heap = h0 := by rw [← hh, Bd.state]; rfl
  have N0 := Fr.nil n0
  have pre0 : ∀ t, Steps p.tables e below (s₁.setTop (mkF m 0 #[.val (.int x0), .unset, .unset, .unset, .unset, .unset] [])) t → Steps p.tables e below (s₁.setTop (entryFrame m #[(.int x0)] 6)) t := fun t k => castTop (by first | (simp [entryFrame, mkF, argsToLocals, Value.category]; done) | rfl) k
  obtain ⟨_, _, ⟨T4, L4, k4, n4⟩, -, X4, ⟨Lc4, hQ4, l4, y4, z4⟩, st4⟩ := Jvm.LawKit.callS X0 hx (y := (⟨cs0, "values", cs2⟩ : MethodName)) hown (mvT hZ (ww hw 4 rfl)) (mvT hZ (ww hw 5 rfl)) (mvT hZ (ww hw 2 rfl)) (mvT hZ (ww hw 6 rfl)) (by decide) (backOf (W := 0) (rm2_1 l Z a0 hw [] r1 c2 r3 r4 r5 r6 r7 r8 h0 n0 O0 f1 f2 f3) hZ (ww hw 6 rfl) (ww hw 2 rfl) (by decide) (by decide)) (g := (mkF m 2 #[.val (.int x0), .val .null, .unset, .unset, .unset, .unset] [])) rfl (by rw [hml]; rfl) (argsL := []) (rest := []) (lenOf pd____Lcom_example_wiregather_wiregather_wire_FieldType_ rfl) rfl (by show 2 * 0 + _ ≤ _; exact Nat.le_of_eq rfl) (hb hby d1_2) (fun _ _ => ⟨rfl, e0, (by decide : 0 + 1 ≤ _), (by decide : 0 + 6 ≤ _)⟩)
  dsimp only [Pt.U, Pt.locs, Pt.cells, Pt.slots] at X4 l4 y4 z4 st4 hQ4
  subst l4 y4 z4
  obtain ⟨b4_0, rfl, N4q, K4, f5, f6, f7⟩ := hQ4
  have N4 := Fr.app N0 N4q
  obtain ⟨clq8, Arq8, qq8, Sq8, Nq8, Hq8, Gq8⟩ := id f7
  obtain ⟨clq9, Arq9, qq9, Sq9, Nq9, Hq9, Gq9⟩ := id f7
  have o11 := Old.keep O0 K4 all0
  have f12 := f10.ext o11.2
  obtain ⟨T13, X13, e13, st13⟩ := getF X4 hx hZ hown (host := "") (Or.inl (ww hw 25 rfl)) Via.refl rfl f12 (g := (mkF m 26 #[.val (.int x0), .val .null, .val (.ref b4_0), .val (.int (6 : Int32)), .val (.int (0 : Int32)), .val (.ref r3)] [(.ref r3)])) rfl rfl (hb hby d1_26)
  obtain ⟨clq15, Arq15, qq15, Sq15, Nq15, Hq15, Gq15⟩ := id f7
  have f17 := f16.ext o11.2
  obtain ⟨T18, X18, e18, st18⟩ := getF X13 hx hZ hown (host := "") (Or.inl (ww hw 25 rfl)) Via.refl e13 f17 (g := (mkF m 26 #[.val (.int x0), .val .null, .val (.ref b4_0), .val (.int (6 : Int32)), .val (.int (1 : Int32)), .val (.ref r4)] [(.ref r4)])) rfl rfl (hb hby d1_26)
  obtain ⟨clq20, Arq20, qq20, Sq20, Nq20, Hq20, Gq20⟩ := id f7
  have f22 := f21.ext o11.2
  obtain ⟨T23, X23, e23, st23⟩ := getF X18 hx hZ hown (host := "") (Or.inl (ww hw 25 rfl)) Via.refl e18 f22 (g := (mkF m 26 #[.val (.int x0), .val .null, .val (.ref b4_0), .val (.int (6 : Int32)), .val (.int (2 : Int32)), .val (.ref r5)] [(.ref r5)])) rfl rfl (hb hby d1_26)
  obtain ⟨clq25, Arq25, qq25, Sq25, Nq25, Hq25, Gq25⟩ := id f7
  have f27 := f26.ext o11.2
  obtain ⟨T28, X28, e28, st28⟩ := getF X23 hx hZ hown (host := "") (Or.inl (ww hw 25 rfl)) Via.refl e23 f27 (g := (mkF m 26 #[.val (.int x0), .val (.ref r5), .val (.ref b4_0), .val (.int (6 : Int32)), .val (.int (3 : Int32)), .val (.ref r6)] [(.ref r6)])) rfl rfl (hb hby d1_26)
  obtain ⟨clq30, Arq30, qq30, Sq30, Nq30, Hq30, Gq30⟩ := id f7
  have f32 := f31.ext o11.2
  obtain ⟨T33, X33, e33, st33⟩ := getF X28 hx hZ hown (host := "") (Or.inl (ww hw 25 rfl)) Via.refl e28 f32 (g := (mkF m 26 #[.val (.int x0), .val (.ref r5), .val (.ref b4_0), .val (.int (6 : Int32)), .val (.int (4 : Int32)), .val (.ref r7)] [(.ref r7)])) rfl rfl (hb hby d1_26)
  obtain ⟨clq35, Arq35, qq35, Sq35, Nq35, Hq35, Gq35⟩ := id f7
  have f37 := f36.ext o11.2
  obtain ⟨T38, X38, e38, st38⟩ := getF X33 hx hZ hown (host := "") (Or.inl (ww hw 25 rfl)) Via.refl e33 f37 (g := (mkF m 26 #[.val (.int x0), .val (.ref r5), .val (.ref b4_0), .val (.int (6 : Int32)), .val (.int (5 : Int32)), .val (.ref r8)] [(.ref r8)])) rfl rfl (hb hby d1_26)
  have kp40 : Keep h0 T4.heap [] := (Keep.refl h0 []).trans K4 all0
  obtain ⟨fs, hr, hrun, hended, hW, hsame⟩ := X38.leave (v := some (.ref r5)) (fun h => by rw [Bd.returns] at h; cases h)
  refine ⟨_, _, pre0 _ ?_, hrun, hended, _, _, rfl, ?_, ⟨_, rfl⟩, hW, hsame.mono (by decide) (by decide)⟩
  · show Steps p.tables e below (s₁.setTop (mkF m 0 #[.val (.int x0), .unset, .unset, .unset, .unset, .unset] [])) _
    refine XS.aconstNull X0.here hx rfl (hb hby d1_0) ?_
    refine XS.astoreN X0.here hx rfl (hb hby d1_1) rfl rfl (l' := #[.val (.int x0), .val .null, .unset, .unset, .unset, .unset]) rfl ?_
    refine st4 _ ?_
    show Steps p.tables e below (T4.setTop (mkF m 5 #[.val (.int x0), .val .null, .unset, .unset, .unset, .unset] [(.ref b4_0)])) _
    refine XS.astoreN X4.here hx rfl (hb hby d1_5) rfl rfl (l' := #[.val (.int x0), .val .null, .val (.ref b4_0), .unset, .unset, .unset]) rfl ?_
    refine XS.aloadN X4.here hx rfl (hb hby d1_6) rfl rfl ?_
    refine X4.arraylength hx (Arq8.1) (State.isArrayOf_alike hZ.alike Arq8.2.1) (g := (mkF m 7 #[.val (.int x0), .val .null, .val (.ref b4_0), .unset, .unset, .unset] [(.ref b4_0)])) rfl rfl (hb hby d1_7) _ ?_
    rw [len_of Sq8 Nq8]
    show Steps p.tables e below (T4.setTop (mkF m 8 #[.val (.int x0), .val .null, .val (.ref b4_0), .unset, .unset, .unset] [(.int (6 : Int32))])) _
    refine XS.istoreN X4.here hx rfl (hb hby d1_8) rfl (l' := #[.val (.int x0), .val .null, .val (.ref b4_0), .val (.int (6 : Int32)), .unset, .unset]) rfl ?_
    refine XS.iconst X4.here hx rfl (hb hby d1_9) ?_
    refine XS.istore X4.here hx rfl (hb hby d1_10) rfl (l' := #[.val (.int x0), .val .null, .val (.ref b4_0), .val (.int (6 : Int32)), .val (.int (0 : Int32)), .unset]) rfl ?_
    refine XS.iload X4.here hx rfl (hb hby d1_12) rfl ?_
    show Steps p.tables e below (T4.setTop (mkF m 14 #[.val (.int x0), .val .null, .val (.ref b4_0), .val (.int (6 : Int32)), .val (.int (0 : Int32)), .unset] [(.int (0 : Int32))])) _
    refine XS.iloadN X4.here hx rfl (hb hby d1_14) rfl ?_
    refine XS.icmpNo X4.here hx rfl (hb hby d1_15) rfl (tlt (by decide : (0 : Int32) < (6 : Int32))).2.1 ?_
    refine XS.aloadN X4.here hx rfl (hb hby d1_18) rfl rfl ?_
    refine XS.iload X4.here hx rfl (hb hby d1_19) rfl ?_
    show Steps p.tables e below (T4.setTop (mkF m 21 #[.val (.int x0), .val .null, .val (.ref b4_0), .val (.int (6 : Int32)), .val (.int (0 : Int32)), .unset] [(.int (0 : Int32)), (.ref b4_0)])) _
    refine X4.aaload hx (j := (0 : Int32)) (v := (.ref r3)) (Arq9.1) (State.isArrayOf_alike hZ.alike Arq9.2.1) rfl Arq9.2.2 (inb_of Sq9 ⟨(by decide : ¬ ((0 : Int32) < (0 : Int32))), (by decide : (0 : Int32) < (6 : Int32))⟩) (Has.at Hq9 (inb_of Sq9 ⟨(by decide : ¬ ((0 : Int32) < (0 : Int32))), (by decide : (0 : Int32) < (6 : Int32))⟩) rfl) (g := (mkF m 21 #[.val (.int x0), .val .null, .val (.ref b4_0), .val (.int (6 : Int32)), .val (.int (0 : Int32)), .unset] [(.int (0 : Int32)), (.ref b4_0)])) rfl rfl (hb hby d1_21) _ ?_
    show Steps p.tables e below (T4.setTop (mkF m 22 #[.val (.int x0), .val .null, .val (.ref b4_0), .val (.int (6 : Int32)), .val (.int (0 : Int32)), .unset] [(.ref r3)])) _
    refine XS.astore X4.here hx rfl (hb hby d1_22) rfl rfl (l' := #[.val (.int x0), .val .null, .val (.ref b4_0), .val (.int (6 : Int32)), .val (.int (0 : Int32)), .val (.ref r3)]) rfl ?_
    refine XS.aload X4.here hx rfl (hb hby d1_24) rfl rfl ?_
    refine st13 _ ?_
    show Steps p.tables e below (T13.setTop (mkF m 29 #[.val (.int x0), .val .null, .val (.ref b4_0), .val (.int (6 : Int32)), .val (.int (0 : Int32)), .val (.ref r3)] [(.int (1 : Int32))])) _
    refine XS.iloadN X13.here hx rfl (hb hby d1_29) rfl ?_
    refine XS.icmpYes X13.here hx rfl (pc0 := 30) (pc' := 36) rfl (hb hby d1_30) rfl (feq hc14).2 (by decide) (by decide) ?_
    show Steps p.tables e below (T13.setTop (mkF m 36 #[.val (.int x0), .val .null, .val (.ref b4_0), .val (.int (6 : Int32)), .val (.int (0 : Int32)), .val (.ref r3)] [])) _
    refine XS.iinc X13.here hx rfl (hb hby d1_36) rfl (l' := #[.val (.int x0), .val .null, .val (.ref b4_0), .val (.int (6 : Int32)), .val (.int (1 : Int32)), .val (.ref r3)]) rfl ?_
    refine XS.goto X13.here hx rfl (pc0 := 39) (pc' := 12) rfl (hb hby d1_39) (by decide) (by decide) ?_
    show Steps p.tables e below (T13.setTop (mkF m 12 #[.val (.int x0), .val .null, .val (.ref b4_0), .val (.int (6 : Int32)), .val (.int (1 : Int32)), .val (.ref r3)] [])) _
    refine XS.iload X13.here hx rfl (hb hby d1_12) rfl ?_
    refine XS.iloadN X13.here hx rfl (hb hby d1_14) rfl ?_
    refine XS.icmpNo X13.here hx rfl (hb hby d1_15) rfl (tlt (by decide : (1 : Int32) < (6 : Int32))).2.1 ?_
    refine XS.aloadN X13.here hx rfl (hb hby d1_18) rfl rfl ?_
    show Steps p.tables e below (T13.setTop (mkF m 19 #[.val (.int x0), .val .null, .val (.ref b4_0), .val (.int (6 : Int32)), .val (.int (1 : Int32)), .val (.ref r3)] [(.ref b4_0)])) _
    refine XS.iload X13.here hx rfl (hb hby d1_19) rfl ?_
    refine X13.aaload hx (j := (1 : Int32)) (v := (.ref r4)) (by rw [e13]; exact Arq15.1) (State.isArrayOf_alike hZ.alike Arq15.2.1) rfl Arq15.2.2 (inb_of Sq15 ⟨(by decide : ¬ ((1 : Int32) < (0 : Int32))), (by decide : (1 : Int32) < (6 : Int32))⟩) (Has.at Hq15 (inb_of Sq15 ⟨(by decide : ¬ ((1 : Int32) < (0 : Int32))), (by decide : (1 : Int32) < (6 : Int32))⟩) rfl) (g := (mkF m 21 #[.val (.int x0), .val .null, .val (.ref b4_0), .val (.int (6 : Int32)), .val (.int (1 : Int32)), .val (.ref r3)] [(.int (1 : Int32)), (.ref b4_0)])) rfl rfl (hb hby d1_21) _ ?_
    show Steps p.tables e below (T13.setTop (mkF m 22 #[.val (.int x0), .val .null, .val (.ref b4_0), .val (.int (6 : Int32)), .val (.int (1 : Int32)), .val (.ref r3)] [(.ref r4)])) _
    refine XS.astore X13.here hx rfl (hb hby d1_22) rfl rfl (l' := #[.val (.int x0), .val .null, .val (.ref b4_0), .val (.int (6 : Int32)), .val (.int (1 : Int32)), .val (.ref r4)]) rfl ?_
    refine XS.aload X13.here hx rfl (hb hby d1_24) rfl rfl ?_
    refine st18 _ ?_
    show Steps p.tables e below (T18.setTop (mkF m 29 #[.val (.int x0), .val .null, .val (.ref b4_0), .val (.int (6 : Int32)), .val (.int (1 : Int32)), .val (.ref r4)] [(.int (2 : Int32))])) _
    refine XS.iloadN X18.here hx rfl (hb hby d1_29) rfl ?_
    refine XS.icmpYes X18.here hx rfl (pc0 := 30) (pc' := 36) rfl (hb hby d1_30) rfl (feq hc19).2 (by decide) (by decide) ?_
    show Steps p.tables e below (T18.setTop (mkF m 36 #[.val (.int x0), .val .null, .val (.ref b4_0), .val (.int (6 : Int32)), .val (.int (1 : Int32)), .val (.ref r4)] [])) _
    refine XS.iinc X18.here hx rfl (hb hby d1_36) rfl (l' := #[.val (.int x0), .val .null, .val (.ref b4_0), .val (.int (6 : Int32)), .val (.int (2 : Int32)), .val (.ref r4)]) rfl ?_
    refine XS.goto X18.here hx rfl (pc0 := 39) (pc' := 12) rfl (hb hby d1_39) (by decide) (by decide) ?_
    show Steps p.tables e below (T18.setTop (mkF m 12 #[.val (.int x0), .val .null, .val (.ref b4_0), .val (.int (6 : Int32)), .val (.int (2 : Int32)), .val (.ref r4)] [])) _
    refine XS.iload X18.here hx rfl (hb hby d1_12) rfl ?_
    refine XS.iloadN X18.here hx rfl (hb hby d1_14) rfl ?_
    refine XS.icmpNo X18.here hx rfl (hb hby d1_15) rfl (tlt (by decide : (2 : Int32) < (6 : Int32))).2.1 ?_
    refine XS.aloadN X18.here hx rfl (hb hby d1_18) rfl rfl ?_
    show Steps p.tables e below (T18.setTop (mkF m 19 #[.val (.int x0), .val .null, .val (.ref b4_0), .val (.int (6 : Int32)), .val (.int (2 : Int32)), .val (.ref r4)] [(.ref b4_0)])) _
    refine XS.iload X18.here hx rfl (hb hby d1_19) rfl ?_
    refine X18.aaload hx (j := (2 : Int32)) (v := (.ref r5)) (by rw [e18]; exact Arq20.1) (State.isArrayOf_alike hZ.alike Arq20.2.1) rfl Arq20.2.2 (inb_of Sq20 ⟨(by decide : ¬ ((2 : Int32) < (0 : Int32))), (by decide : (2 : Int32) < (6 : Int32))⟩) (Has.at Hq20 (inb_of Sq20 ⟨(by decide : ¬ ((2 : Int32) < (0 : Int32))), (by decide : (2 : Int32) < (6 : Int32))⟩) rfl) (g := (mkF m 21 #[.val (.int x0), .val .null, .val (.ref b4_0), .val (.int (6 : Int32)), .val (.int (2 : Int32)), .val (.ref r4)] [(.int (2 : Int32)), (.ref b4_0)])) rfl rfl (hb hby d1_21) _ ?_
    show Steps p.tables e below (T18.setTop (mkF m 22 #[.val (.int x0), .val .null, .val (.ref b4_0), .val (.int (6 : Int32)), .val (.int (2 : Int32)), .val (.ref r4)] [(.ref r5)])) _
    refine XS.astore X18.here hx rfl (hb hby d1_22) rfl rfl (l' := #[.val (.int x0), .val .null, .val (.ref b4_0), .val (.int (6 : Int32)), .val (.int (2 : Int32)), .val (.ref r5)]) rfl ?_
    refine XS.aload X18.here hx rfl (hb hby d1_24) rfl rfl ?_
    refine st23 _ ?_
    show Steps p.tables e below (T23.setTop (mkF m 29 #[.val (.int x0), .val .null, .val (.ref b4_0), .val (.int (6 : Int32)), .val (.int (2 : Int32)), .val (.ref r5)] [(.int (3 : Int32))])) _
    refine XS.iloadN X23.here hx rfl (hb hby d1_29) rfl ?_
    refine XS.icmpNo X23.here hx rfl (hb hby d1_30) rfl (teq hc24).2 ?_
    refine XS.aload X23.here hx rfl (hb hby d1_33) rfl rfl ?_
    refine XS.astoreN X23.here hx rfl (hb hby d1_35) rfl rfl (l' := #[.val (.int x0), .val (.ref r5), .val (.ref b4_0), .val (.int (6 : Int32)), .val (.int (2 : Int32)), .val (.ref r5)]) rfl ?_
    show Steps p.tables e below (T23.setTop (mkF m 36 #[.val (.int x0), .val (.ref r5), .val (.ref b4_0), .val (.int (6 : Int32)), .val (.int (2 : Int32)), .val (.ref r5)] [])) _
    refine XS.iinc X23.here hx rfl (hb hby d1_36) rfl (l' := #[.val (.int x0), .val (.ref r5), .val (.ref b4_0), .val (.int (6 : Int32)), .val (.int (3 : Int32)), .val (.ref r5)]) rfl ?_
    refine XS.goto X23.here hx rfl (pc0 := 39) (pc' := 12) rfl (hb hby d1_39) (by decide) (by decide) ?_
    show Steps p.tables e below (T23.setTop (mkF m 12 #[.val (.int x0), .val (.ref r5), .val (.ref b4_0), .val (.int (6 : Int32)), .val (.int (3 : Int32)), .val (.ref r5)] [])) _
    refine XS.iload X23.here hx rfl (hb hby d1_12) rfl ?_
    refine XS.iloadN X23.here hx rfl (hb hby d1_14) rfl ?_
    refine XS.icmpNo X23.here hx rfl (hb hby d1_15) rfl (tlt (by decide : (3 : Int32) < (6 : Int32))).2.1 ?_
    refine XS.aloadN X23.here hx rfl (hb hby d1_18) rfl rfl ?_
    show Steps p.tables e below (T23.setTop (mkF m 19 #[.val (.int x0), .val (.ref r5), .val (.ref b4_0), .val (.int (6 : Int32)), .val (.int (3 : Int32)), .val (.ref r5)] [(.ref b4_0)])) _
    refine XS.iload X23.here hx rfl (hb hby d1_19) rfl ?_
    refine X23.aaload hx (j := (3 : Int32)) (v := (.ref r6)) (by rw [e23]; exact Arq25.1) (State.isArrayOf_alike hZ.alike Arq25.2.1) rfl Arq25.2.2 (inb_of Sq25 ⟨(by decide : ¬ ((3 : Int32) < (0 : Int32))), (by decide : (3 : Int32) < (6 : Int32))⟩) (Has.at Hq25 (inb_of Sq25 ⟨(by decide : ¬ ((3 : Int32) < (0 : Int32))), (by decide : (3 : Int32) < (6 : Int32))⟩) rfl) (g := (mkF m 21 #[.val (.int x0), .val (.ref r5), .val (.ref b4_0), .val (.int (6 : Int32)), .val (.int (3 : Int32)), .val (.ref r5)] [(.int (3 : Int32)), (.ref b4_0)])) rfl rfl (hb hby d1_21) _ ?_
    show Steps p.tables e below (T23.setTop (mkF m 22 #[.val (.int x0), .val (.ref r5), .val (.ref b4_0), .val (.int (6 : Int32)), .val (.int (3 : Int32)), .val (.ref r5)] [(.ref r6)])) _
    refine XS.astore X23.here hx rfl (hb hby d1_22) rfl rfl (l' := #[.val (.int x0), .val (.ref r5), .val (.ref b4_0), .val (.int (6 : Int32)), .val (.int (3 : Int32)), .val (.ref r6)]) rfl ?_
    refine XS.aload X23.here hx rfl (hb hby d1_24) rfl rfl ?_
    refine st28 _ ?_
    show Steps p.tables e below (T28.setTop (mkF m 29 #[.val (.int x0), .val (.ref r5), .val (.ref b4_0), .val (.int (6 : Int32)), .val (.int (3 : Int32)), .val (.ref r6)] [(.int (4 : Int32))])) _
    refine XS.iloadN X28.here hx rfl (hb hby d1_29) rfl ?_
    refine XS.icmpYes X28.here hx rfl (pc0 := 30) (pc' := 36) rfl (hb hby d1_30) rfl (feq hc29).2 (by decide) (by decide) ?_
    show Steps p.tables e below (T28.setTop (mkF m 36 #[.val (.int x0), .val (.ref r5), .val (.ref b4_0), .val (.int (6 : Int32)), .val (.int (3 : Int32)), .val (.ref r6)] [])) _
    refine XS.iinc X28.here hx rfl (hb hby d1_36) rfl (l' := #[.val (.int x0), .val (.ref r5), .val (.ref b4_0), .val (.int (6 : Int32)), .val (.int (4 : Int32)), .val (.ref r6)]) rfl ?_
    refine XS.goto X28.here hx rfl (pc0 := 39) (pc' := 12) rfl (hb hby d1_39) (by decide) (by decide) ?_
    show Steps p.tables e below (T28.setTop (mkF m 12 #[.val (.int x0), .val (.ref r5), .val (.ref b4_0), .val (.int (6 : Int32)), .val (.int (4 : Int32)), .val (.ref r6)] [])) _
    refine XS.iload X28.here hx rfl (hb hby d1_12) rfl ?_
    refine XS.iloadN X28.here hx rfl (hb hby d1_14) rfl ?_
    refine XS.icmpNo X28.here hx rfl (hb hby d1_15) rfl (tlt (by decide : (4 : Int32) < (6 : Int32))).2.1 ?_
    refine XS.aloadN X28.here hx rfl (hb hby d1_18) rfl rfl ?_
    show Steps p.tables e below (T28.setTop (mkF m 19 #[.val (.int x0), .val (.ref r5), .val (.ref b4_0), .val (.int (6 : Int32)), .val (.int (4 : Int32)), .val (.ref r6)] [(.ref b4_0)])) _
    refine XS.iload X28.here hx rfl (hb hby d1_19) rfl ?_
    refine X28.aaload hx (j := (4 : Int32)) (v := (.ref r7)) (by rw [e28]; exact Arq30.1) (State.isArrayOf_alike hZ.alike Arq30.2.1) rfl Arq30.2.2 (inb_of Sq30 ⟨(by decide : ¬ ((4 : Int32) < (0 : Int32))), (by decide : (4 : Int32) < (6 : Int32))⟩) (Has.at Hq30 (inb_of Sq30 ⟨(by decide : ¬ ((4 : Int32) < (0 : Int32))), (by decide : (4 : Int32) < (6 : Int32))⟩) rfl) (g := (mkF m 21 #[.val (.int x0), .val (.ref r5), .val (.ref b4_0), .val (.int (6 : Int32)), .val (.int (4 : Int32)), .val (.ref r6)] [(.int (4 : Int32)), (.ref b4_0)])) rfl rfl (hb hby d1_21) _ ?_
    show Steps p.tables e below (T28.setTop (mkF m 22 #[.val (.int x0), .val (.ref r5), .val (.ref b4_0), .val (.int (6 : Int32)), .val (.int (4 : Int32)), .val (.ref r6)] [(.ref r7)])) _
    refine XS.astore X28.here hx rfl (hb hby d1_22) rfl rfl (l' := #[.val (.int x0), .val (.ref r5), .val (.ref b4_0), .val (.int (6 : Int32)), .val (.int (4 : Int32)), .val (.ref r7)]) rfl ?_
    refine XS.aload X28.here hx rfl (hb hby d1_24) rfl rfl ?_
    refine st33 _ ?_
    show Steps p.tables e below (T33.setTop (mkF m 29 #[.val (.int x0), .val (.ref r5), .val (.ref b4_0), .val (.int (6 : Int32)), .val (.int (4 : Int32)), .val (.ref r7)] [(.int (5 : Int32))])) _
    refine XS.iloadN X33.here hx rfl (hb hby d1_29) rfl ?_
    refine XS.icmpYes X33.here hx rfl (pc0 := 30) (pc' := 36) rfl (hb hby d1_30) rfl (feq hc34).2 (by decide) (by decide) ?_
    show Steps p.tables e below (T33.setTop (mkF m 36 #[.val (.int x0), .val (.ref r5), .val (.ref b4_0), .val (.int (6 : Int32)), .val (.int (4 : Int32)), .val (.ref r7)] [])) _
    refine XS.iinc X33.here hx rfl (hb hby d1_36) rfl (l' := #[.val (.int x0), .val (.ref r5), .val (.ref b4_0), .val (.int (6 : Int32)), .val (.int (5 : Int32)), .val (.ref r7)]) rfl ?_
    refine XS.goto X33.here hx rfl (pc0 := 39) (pc' := 12) rfl (hb hby d1_39) (by decide) (by decide) ?_
    show Steps p.tables e below (T33.setTop (mkF m 12 #[.val (.int x0), .val (.ref r5), .val (.ref b4_0), .val (.int (6 : Int32)), .val (.int (5 : Int32)), .val (.ref r7)] [])) _
    refine XS.iload X33.here hx rfl (hb hby d1_12) rfl ?_
    refine XS.iloadN X33.here hx rfl (hb hby d1_14) rfl ?_
    refine XS.icmpNo X33.here hx rfl (hb hby d1_15) rfl (tlt (by decide : (5 : Int32) < (6 : Int32))).2.1 ?_
    refine XS.aloadN X33.here hx rfl (hb hby d1_18) rfl rfl ?_
    show Steps p.tables e below (T33.setTop (mkF m 19 #[.val (.int x0), .val (.ref r5), .val (.ref b4_0), .val (.int (6 : Int32)), .val (.int (5 : Int32)), .val (.ref r7)] [(.ref b4_0)])) _
    refine XS.iload X33.here hx rfl (hb hby d1_19) rfl ?_
    refine X33.aaload hx (j := (5 : Int32)) (v := (.ref r8)) (by rw [e33]; exact Arq35.1) (State.isArrayOf_alike hZ.alike Arq35.2.1) rfl Arq35.2.2 (inb_of Sq35 ⟨(by decide : ¬ ((5 : Int32) < (0 : Int32))), (by decide : (5 : Int32) < (6 : Int32))⟩) (Has.at Hq35 (inb_of Sq35 ⟨(by decide : ¬ ((5 : Int32) < (0 : Int32))), (by decide : (5 : Int32) < (6 : Int32))⟩) rfl) (g := (mkF m 21 #[.val (.int x0), .val (.ref r5), .val (.ref b4_0), .val (.int (6 : Int32)), .val (.int (5 : Int32)), .val (.ref r7)] [(.int (5 : Int32)), (.ref b4_0)])) rfl rfl (hb hby d1_21) _ ?_
    show Steps p.tables e below (T33.setTop (mkF m 22 #[.val (.int x0), .val (.ref r5), .val (.ref b4_0), .val (.int (6 : Int32)), .val (.int (5 : Int32)), .val (.ref r7)] [(.ref r8)])) _
    refine XS.astore X33.here hx rfl (hb hby d1_22) rfl rfl (l' := #[.val (.int x0), .val (.ref r5), .val (.ref b4_0), .val (.int (6 : Int32)), .val (.int (5 : Int32)), .val (.ref r8)]) rfl ?_
    refine XS.aload X33.here hx rfl (hb hby d1_24) rfl rfl ?_
    refine st38 _ ?_
    show Steps p.tables e below (T38.setTop (mkF m 29 #[.val (.int x0), .val (.ref r5), .val (.ref b4_0), .val (.int (6 : Int32)), .val (.int (5 : Int32)), .val (.ref r8)] [(.int (6 : Int32))])) _
    refine XS.iloadN X38.here hx rfl (hb hby d1_29) rfl ?_
    refine XS.icmpYes X38.here hx rfl (pc0 := 30) (pc' := 36) rfl (hb hby d1_30) rfl (feq hc39).2 (by decide) (by decide) ?_
    show Steps p.tables e below (T38.setTop (mkF m 36 #[.val (.int x0), .val (.ref r5), .val (.ref b4_0), .val (.int (6 : Int32)), .val (.int (5 : Int32)), .val (.ref r8)] [])) _
    refine XS.iinc X38.here hx rfl (hb hby d1_36) rfl (l' := #[.val (.int x0), .val (.ref r5), .val (.ref b4_0), .val (.int (6 : Int32)), .val (.int (6 : Int32)), .val (.ref r8)]) rfl ?_
    refine XS.goto X38.here hx rfl (pc0 := 39) (pc' := 12) rfl (hb hby d1_39) (by decide) (by decide) ?_
    show Steps p.tables e below (T38.setTop (mkF m 12 #[.val (.int x0), .val (.ref r5), .val (.ref b4_0), .val (.int (6 : Int32)), .val (.int (6 : Int32)), .val (.ref r8)] [])) _
    refine XS.iload X38.here hx rfl (hb hby d1_12) rfl ?_
    refine XS.iloadN X38.here hx rfl (hb hby d1_14) rfl ?_
    refine XS.icmpYes X38.here hx rfl (pc0 := 15) (pc' := 42) rfl (hb hby d1_15) rfl (flt (by decide : ¬ ((6 : Int32) < (6 : Int32)))).2.1 (by decide) (by decide) ?_
    show Steps p.tables e below (T38.setTop (mkF m 42 #[.val (.int x0), .val (.ref r5), .val (.ref b4_0), .val (.int (6 : Int32)), .val (.int (6 : Int32)), .val (.ref r8)] [])) _
    refine XS.aloadN X38.here hx rfl (hb hby d1_42) rfl rfl ?_
    exact retOut X38 hx (i := .areturn) Bd.returns rfl (Or.inr (Or.inr (Or.inr (Or.inr ⟨rfl, rfl, rfl⟩)))) (hb hby d1_43) hr
  · show Q1_4 Z x0 r1 c2 r3 r4 r5 r6 r7 r8 h0 n0 _ T38.heap _
    rw [e38]
    exact ⟨rfl, N4, kp40⟩
theorem d3_23 : decode method_2_code 23 = .ok (.getstatic 16, 3) := by decide +kernel
theorem d3_26 : decode method_2_code 26 = .ok (.areturn, 1) := by decide +kernel
def Q3_4 (Z : State) (x0 : Int32) (r1 : Addr) (h0 : Heap) (n0 : Nat) (v : Option Value) (h : Heap) (L : List Loc) : Prop := v = some (.ref r1) ∧ Fr n0 L ∧ h = h0
set_option maxRecDepth 65536 in
set_option maxHeartbeats 40000000 in
theorem rm3_4 (l : Launch) (Z : State) (a0 : Array Value) (hw : ∀ d ∈ tables_1, d.before a0 Z = true) (ws : List Jvm.Cond) (x0 : Int32) (r1 : Addr) (h0 : Heap) (n0 : Nat) (O0 : Old Z n0 h0) (hc1 : ¬ (x0 = (1 : Int32))) (hc2 : ¬ (x0 = (2 : Int32))) (hc3 : x0 = (3 : Int32)) (f4 : Sta Z Z.heap cs0 "F32" cs5 (.ref r1)) :
    MetFree l (⟨cs4, "expected", cs3⟩ : MethodName) (head1 (Jvm.Cond.code (⟨cs4, "expected", cs3⟩ : MethodName) method_2_code 1 (some (.object cs0)) :: ws) ({ frames := 0, cells := 0, slots := 0, locals := 0 } : Room)) (fun a U => a = #[(.int x0)] ∧ Z.Warmed39 U.vm ∧ U.heap = h0) (fun _ _ _ _ _ => True) (fun _ U o U' => ∃ v L, o = .returned v ∧ Q3_4 Z x0 r1 h0 n0 v U'.heap L ∧ FrameEnd U o U' L ({ frames := 0, cells := 0, slots := 0, locals := 0 } : Room).cells ({ frames := 0, cells := 0, slots := 0, locals := 0 } : Room).slots) := by
  refine MetFree.of_bodySF (plainFor_of_name pn_com_example_wiregather_wiregather_wire_FieldTypeOfCodePinLaw) hisR ?_
  intro p e s m args below meth c s₁ Bd hml0 hP hK
  obtain ⟨rfl, hZ, hh⟩ := hP
  have hx := Bd.exec
  have hby := Bd.bytes
  have hml : c.maxLocals = 1 := hml0
  have hown : s.vm.findClass cs4 = some m.cls := findClass_of_methodNamed Bd.named
  have hnm := (name_of_methodNamed Bd.named Bd.method).1
  have X0 : Stand p l e ({ frames := 0, cells := 0, slots := 0, locals := 0 } : Room) s m #[(.int x0)] below meth c s₁ [] 0 0 := Stand.of_body Bd
  have e0 : s₁.heap = h0 := by rw [← hh, Bd.state]; rfl
  have N0 := Fr.nil n0
  have pre0 : ∀ t, Steps p.tables e below (s₁.setTop (mkF m 0 #[.val (.int x0)] [])) t → Steps p.tables e below (s₁.setTop (entryFrame m #[(.int x0)] 1)) t := fun t k => castTop (by first | (simp [entryFrame, mkF, argsToLocals, Value.category]; done) | rfl) k
  have f5 := f4.ext O0.2
  obtain ⟨T6, X6, e6, st6⟩ := getS2 X0 hx hZ hown (host := "") (Or.inl (ww hw 31 rfl)) Via.refl e0 f5 (g := (mkF m 23 #[.val (.int x0)] [])) rfl (hb hby d3_23)
  obtain ⟨fs, hr, hrun, hended, hW, hsame⟩ := X6.leave (v := some (.ref r1)) (fun h => by rw [Bd.returns] at h; cases h)
  refine ⟨_, _, pre0 _ ?_, hrun, hended, _, _, rfl, ?_, ⟨_, rfl⟩, hW, hsame.mono (by decide) (by decide)⟩
  · show Steps p.tables e below (s₁.setTop (mkF m 0 #[.val (.int x0)] [])) _
    refine XS.iloadN X0.here hx rfl (hb hby d3_0) rfl ?_
    refine XS.iconst X0.here hx rfl (hb hby d3_1) ?_
    refine XS.icmpYes X0.here hx rfl (pc0 := 2) (pc' := 9) rfl (hb hby d3_2) rfl (feq hc1).2 (by decide) (by decide) ?_
    show Steps p.tables e below (s₁.setTop (mkF m 9 #[.val (.int x0)] [])) _
    refine XS.iloadN X0.here hx rfl (hb hby d3_9) rfl ?_
    refine XS.iconst X0.here hx rfl (hb hby d3_10) ?_
    refine XS.icmpYes X0.here hx rfl (pc0 := 11) (pc' := 18) rfl (hb hby d3_11) rfl (feq hc2).2 (by decide) (by decide) ?_
    show Steps p.tables e below (s₁.setTop (mkF m 18 #[.val (.int x0)] [])) _
    refine XS.iloadN X0.here hx rfl (hb hby d3_18) rfl ?_
    refine XS.iconst X0.here hx rfl (hb hby d3_19) ?_
    refine XS.icmpNo X0.here hx rfl (hb hby d3_20) rfl (teq hc3).2 ?_
    refine st6 _ ?_
    show Steps p.tables e below (T6.setTop (mkF m 26 #[.val (.int x0)] [(.ref r1)])) _
    exact retOut X6 hx (i := .areturn) Bd.returns rfl (Or.inr (Or.inr (Or.inr (Or.inr ⟨rfl, rfl, rfl⟩)))) (hb hby d3_26) hr
  · show Q3_4 Z x0 r1 h0 n0 _ T6.heap _
    rw [e6]
    exact ⟨rfl, N0, rfl⟩
def Q0_4 (Z : State) (x0 : Int32) (x1 : Int32) (r2 : Addr) (c3 : ClassId) (r4 : Addr) (r5 : Addr) (r6 : Addr) (r7 : Addr) (r8 : Addr) (r9 : Addr) (h0 : Heap) (n0 : Nat) (v : Option Value) (h : Heap) (L : List Loc) : Prop := v = some (.int (1 : Int32)) ∧ Fr n0 L
set_option maxRecDepth 65536 in
set_option maxHeartbeats 40000000 in
theorem rm0_4 (l : Launch) (Z : State) (a0 : Array Value) (hw : ∀ d ∈ tables_1, d.before a0 Z = true) (ws : List Jvm.Cond) (x0 : Int32) (x1 : Int32) (r2 : Addr) (c3 : ClassId) (r4 : Addr) (r5 : Addr) (r6 : Addr) (r7 : Addr) (r8 : Addr) (r9 : Addr) (h0 : Heap) (n0 : Nat) (O0 : Old Z n0 h0) (f1 : Sta Z Z.heap cs0 "$VALUES" cs1 (.ref r2)) (f2 : Exa Z Z.heap r2 cs1) (f3 : Arv Z Z.heap r2 c3 (.object cs0) (6 : Int32) [(.ref r4), (.ref r5), (.ref r6), (.ref r7), (.ref r8), (.ref r9)] .null) (f4 : Fld Z Z.heap r4 cs0 "code" "I" (.int (1 : Int32))) (hc5 : (1 : Int32) = x0) (f6 : Fld Z Z.heap r5 cs0 "code" "I" (.int (2 : Int32))) (hc7 : ¬ ((2 : Int32) = x0)) (f8 : Fld Z Z.heap r6 cs0 "code" "I" (.int (3 : Int32))) (hc9 : ¬ ((3 : Int32) = x0)) (f10 : Fld Z Z.heap r7 cs0 "code" "I" (.int (4 : Int32))) (hc11 : ¬ ((4 : Int32) = x0)) (f12 : Fld Z Z.heap r8 cs0 "code" "I" (.int (5 : Int32))) (hc13 : ¬ ((5 : Int32) = x0)) (f14 : Fld Z Z.heap r9 cs0 "code" "I" (.int (6 : Int32))) (hc15 : ¬ ((6 : Int32) = x0)) (hc17 : ¬ ((1 : Int32) = (x1 &&& (7 : Int32)))) (hc18 : ¬ ((2 : Int32) = (x1 &&& (7 : Int32)))) (hc19 : (3 : Int32) = (x1 &&& (7 : Int32))) (hc20 : ¬ ((4 : Int32) = (x1 &&& (7 : Int32)))) (hc21 : ¬ ((5 : Int32) = (x1 &&& (7 : Int32)))) (hc22 : ¬ ((6 : Int32) = (x1 &&& (7 : Int32)))) (hc25 : x0 = (1 : Int32)) (f26 : Sta Z Z.heap cs0 "I32" cs5 (.ref r4)) (hc29 : ¬ ((x1 &&& (7 : Int32)) = (1 : Int32))) (hc30 : ¬ ((x1 &&& (7 : Int32)) = (2 : Int32))) (hc31 : (x1 &&& (7 : Int32)) = (3 : Int32)) (f32 : Sta Z Z.heap cs0 "F32" cs5 (.ref r6)) :
    MetFree l x (head1 (Jvm.Cond.code x code maxLocals ret :: ws) room_1) (fun a U => a = #[(.int x0), (.int x1)] ∧ Z.Warmed39 U.vm ∧ U.heap = h0) (fun _ _ _ _ _ => True) (fun _ U o U' => ∃ v L, o = .returned v ∧ Q0_4 Z x0 x1 r2 c3 r4 r5 r6 r7 r8 r9 h0 n0 v U'.heap L ∧ FrameEnd U o U' L room_1.cells room_1.slots) := by
  refine MetFree.of_bodySF (plainFor_of_name pn_com_example_wiregather_wiregather_wire_FieldTypeOfCodePinLaw) hisR ?_
  intro p e s m args below meth c s₁ Bd hml0 hP hK
  obtain ⟨rfl, hZ, hh⟩ := hP
  have hx := Bd.exec
  have hby := Bd.bytes
  have hml : c.maxLocals = 5 := hml0
  have hown : s.vm.findClass cs4 = some m.cls := findClass_of_methodNamed Bd.named
  have hnm := (name_of_methodNamed Bd.named Bd.method).1
  have X0 : Stand p l e room_1 s m #[(.int x0), (.int x1)] below meth c s₁ [] 0 0 := Stand.of_body Bd
  have e0 : s₁.heap = h0 := by rw [← hh, Bd.state]; rfl
  have N0 := Fr.nil n0
  have pre0 : ∀ t, Steps p.tables e below (s₁.setTop (mkF m 0 #[.val (.int x0), .val (.int x1), .unset, .unset, .unset] [])) t → Steps p.tables e below (s₁.setTop (entryFrame m #[(.int x0), (.int x1)] maxLocals)) t := fun t k => castTop (by first | (simp [entryFrame, mkF, argsToLocals, Value.category, maxLocals]; done) | rfl) k
  obtain ⟨_, _, ⟨T16, L16, k16, n16⟩, -, X16, ⟨Lc16, hQ16, l16, y16, z16⟩, st16⟩ := Jvm.LawKit.callS X0 hx (y := (⟨cs0, "ofCode", cs3⟩ : MethodName)) hown (mvT hZ (ww hw 0 rfl)) (mvT hZ (ww hw 1 rfl)) (mvT hZ (ww hw 2 rfl)) (mvT hZ (ww hw 3 rfl)) (by decide) (backOf (W := 0) (rm1_1 l Z a0 hw [] x0 r2 c3 r4 r5 r6 r7 r8 r9 h0 n0 O0 f1 f2 f3 f4 hc5 f6 hc7 f8 hc9 f10 hc11 f12 hc13 f14 hc15) hZ (ww hw 3 rfl) (ww hw 2 rfl) (by decide) (by decide)) (g := (mkF m 6 #[.val (.int x0), .val (.int x1), .val (.int (x1 &&& (7 : Int32))), .unset, .unset] [(.int x0)])) rfl (by rw [hml]; rfl) (argsL := [(.int x0)]) (rest := []) (lenOf pd__I_Lcom_example_wiregather_wiregather_wire_FieldType_ rfl) rfl (by show 2 * 0 + _ ≤ _; exact Nat.le_of_eq rfl) (hb hby at_6) (fun _ _ => ⟨rfl, e0, (by decide : 0 + 1 ≤ _), (by decide : 0 + 6 ≤ _)⟩)
  dsimp only [Pt.U, Pt.locs, Pt.cells, Pt.slots] at X16 l16 y16 z16 st16 hQ16
  subst l16 y16 z16
  obtain ⟨rfl, N16q, K16⟩ := hQ16
  have N16 := Fr.app N0 N16q
  have o23 := Old.keep O0 K16 all0
  obtain ⟨_, _, ⟨T24, L24, k24, n24⟩, -, X24, ⟨Lc24, hQ24, l24, y24, z24⟩, st24⟩ := Jvm.LawKit.callS X16 hx (y := (⟨cs0, "ofCode", cs3⟩ : MethodName)) hown (mvT hZ (ww hw 0 rfl)) (mvT hZ (ww hw 1 rfl)) (mvT hZ (ww hw 2 rfl)) (mvT hZ (ww hw 3 rfl)) (by decide) (backOf (W := 0) (rm1_4 l Z a0 hw [] (x1 &&& (7 : Int32)) r2 c3 r4 r5 r6 r7 r8 r9 T16.heap n0 o23 f1 f2 f3 f4 hc17 f6 hc18 f8 hc19 f10 hc20 f12 hc21 f14 hc22) hZ (ww hw 3 rfl) (ww hw 2 rfl) (by decide) (by decide)) (g := (mkF m 11 #[.val (.int x0), .val (.int x1), .val (.int (x1 &&& (7 : Int32))), .val (.ref r4), .unset] [(.int (x1 &&& (7 : Int32)))])) rfl (by rw [hml]; rfl) (argsL := [(.int (x1 &&& (7 : Int32)))]) (rest := []) (lenOf pd__I_Lcom_example_wiregather_wiregather_wire_FieldType_ rfl) rfl (by show 2 * 0 + _ ≤ _; exact Nat.le_of_eq rfl) (hb hby at_11) (fun _ _ => ⟨rfl, rfl, (by decide : 1 + 1 ≤ _), (by decide : 6 + 6 ≤ _)⟩)
  dsimp only [Pt.U, Pt.locs, Pt.cells, Pt.slots] at X24 l24 y24 z24 st24 hQ24
  subst l24 y24 z24
  obtain ⟨rfl, N24q, K24⟩ := hQ24
  have N24 := Fr.app N16 N24q
  have o27 := Old.keep o23 K24 all0
  obtain ⟨_, _, ⟨T28, L28, k28, n28⟩, -, X28, ⟨Lc28, hQ28, l28, y28, z28⟩, st28⟩ := Jvm.LawKit.callS X24 hx (y := (⟨cs4, "expected", cs3⟩ : MethodName)) hown (mvT hZ (ww hw 27 rfl)) (mvT hZ (ww hw 28 rfl)) (mvT hZ (ww hw 29 rfl)) (mvT hZ (ww hw 30 rfl)) (by decide) (backOf (W := 1) (rm3_1 l Z a0 hw [] x0 r4 T24.heap n0 o27 hc25 f26) hZ (ww hw 30 rfl) (ww hw 29 rfl) (by decide) (by decide)) (g := (mkF m 18 #[.val (.int x0), .val (.int x1), .val (.int (x1 &&& (7 : Int32))), .val (.ref r4), .val (.ref r6)] [(.int x0), (.ref r4)])) rfl (by rw [hml]; rfl) (argsL := [(.int x0)]) (rest := [(.ref r4)]) (lenOf pd__I_Lcom_example_wiregather_wiregather_wire_FieldType_ rfl) rfl (by show 2 * 0 + _ ≤ _; exact Nat.le_of_eq rfl) (hb hby at_18) (fun _ _ => ⟨rfl, rfl, (by decide : 2 + 0 ≤ _), (by decide : 12 + 0 ≤ _)⟩)
  dsimp only [Pt.U, Pt.locs, Pt.cells, Pt.slots] at X28 l28 y28 z28 st28 hQ28
  subst l28 y28 z28
  obtain ⟨rfl, N28q, E28⟩ := hQ28
  have N28 := Fr.app N24 N28q
  obtain ⟨_, _, ⟨T33, L33, k33, n33⟩, -, X33, ⟨Lc33, hQ33, l33, y33, z33⟩, st33⟩ := Jvm.LawKit.callS X28 hx (y := (⟨cs4, "expected", cs3⟩ : MethodName)) hown (mvT hZ (ww hw 27 rfl)) (mvT hZ (ww hw 28 rfl)) (mvT hZ (ww hw 29 rfl)) (mvT hZ (ww hw 30 rfl)) (by decide) (backOf (W := 1) (rm3_4 l Z a0 hw [] (x1 &&& (7 : Int32)) r6 T24.heap n0 o27 hc29 hc30 hc31 f32) hZ (ww hw 30 rfl) (ww hw 29 rfl) (by decide) (by decide)) (g := (mkF m 27 #[.val (.int x0), .val (.int x1), .val (.int (x1 &&& (7 : Int32))), .val (.ref r4), .val (.ref r6)] [(.int (x1 &&& (7 : Int32))), (.ref r6)])) rfl (by rw [hml]; rfl) (argsL := [(.int (x1 &&& (7 : Int32)))]) (rest := [(.ref r6)]) (lenOf pd__I_Lcom_example_wiregather_wiregather_wire_FieldType_ rfl) rfl (by show 2 * 0 + _ ≤ _; exact Nat.le_of_eq rfl) (hb hby at_27) (fun _ _ => ⟨rfl, E28, (by decide : 2 + 0 ≤ _), (by decide : 12 + 0 ≤ _)⟩)
  dsimp only [Pt.U, Pt.locs, Pt.cells, Pt.slots] at X33 l33 y33 z33 st33 hQ33
  subst l33 y33 z33
  obtain ⟨rfl, N33q, E33⟩ := hQ33
  have N33 := Fr.app N28 N33q
  obtain ⟨fs, hr, hrun, hended, hW, hsame⟩ := X33.leave (v := some (.int (1 : Int32))) (fun h => by rw [Bd.returns] at h; cases h)
  refine ⟨_, _, pre0 _ ?_, hrun, hended, _, _, rfl, ?_, ⟨_, rfl⟩, hW, hsame.mono (by decide) (by decide)⟩
  · show Steps p.tables e below (s₁.setTop (mkF m 0 #[.val (.int x0), .val (.int x1), .unset, .unset, .unset] [])) _
    refine XS.iloadN X0.here hx rfl (hb hby at_0) rfl ?_
    refine XS.bipush X0.here hx rfl (hb hby at_1) ?_
    refine XS.iand X0.here hx rfl (hb hby at_3) rfl ?_
    refine XS.istoreN X0.here hx rfl (hb hby at_4) rfl (l' := #[.val (.int x0), .val (.int x1), .val (.int (x1 &&& (7 : Int32))), .unset, .unset]) rfl ?_
    show Steps p.tables e below (s₁.setTop (mkF m 5 #[.val (.int x0), .val (.int x1), .val (.int (x1 &&& (7 : Int32))), .unset, .unset] [])) _
    refine XS.iloadN X0.here hx rfl (hb hby at_5) rfl ?_
    refine st16 _ ?_
    show Steps p.tables e below (T16.setTop (mkF m 9 #[.val (.int x0), .val (.int x1), .val (.int (x1 &&& (7 : Int32))), .unset, .unset] [(.ref r4)])) _
    refine XS.astoreN X16.here hx rfl (hb hby at_9) rfl rfl (l' := #[.val (.int x0), .val (.int x1), .val (.int (x1 &&& (7 : Int32))), .val (.ref r4), .unset]) rfl ?_
    refine XS.iloadN X16.here hx rfl (hb hby at_10) rfl ?_
    refine st24 _ ?_
    show Steps p.tables e below (T24.setTop (mkF m 14 #[.val (.int x0), .val (.int x1), .val (.int (x1 &&& (7 : Int32))), .val (.ref r4), .unset] [(.ref r6)])) _
    refine XS.astore X24.here hx rfl (hb hby at_14) rfl rfl (l' := #[.val (.int x0), .val (.int x1), .val (.int (x1 &&& (7 : Int32))), .val (.ref r4), .val (.ref r6)]) rfl ?_
    refine XS.aloadN X24.here hx rfl (hb hby at_16) rfl rfl ?_
    refine XS.iloadN X24.here hx rfl (hb hby at_17) rfl ?_
    refine st28 _ ?_
    show Steps p.tables e below (T28.setTop (mkF m 21 #[.val (.int x0), .val (.int x1), .val (.int (x1 &&& (7 : Int32))), .val (.ref r4), .val (.ref r6)] [(.ref r4), (.ref r4)])) _
    refine Jvm.RoadKit.acmp (g := (mkF m 21 #[.val (.int x0), .val (.int x1), .val (.int (x1 &&& (7 : Int32))), .val (.ref r4), .val (.ref r6)] [(.ref r4), (.ref r4)])) X28 hx rfl rfl rfl (pc0 := 21) (pc' := 24) (same := true) rfl (hb hby at_21) rfl (decide_eq_true rfl) (by decide) (by decide) ?_
    show Steps p.tables e below (T28.setTop (mkF m 24 #[.val (.int x0), .val (.int x1), .val (.int (x1 &&& (7 : Int32))), .val (.ref r4), .val (.ref r6)] [])) _
    refine XS.aload X28.here hx rfl (hb hby at_24) rfl rfl ?_
    refine XS.iloadN X28.here hx rfl (hb hby at_26) rfl ?_
    refine st33 _ ?_
    show Steps p.tables e below (T33.setTop (mkF m 30 #[.val (.int x0), .val (.int x1), .val (.int (x1 &&& (7 : Int32))), .val (.ref r4), .val (.ref r6)] [(.ref r6), (.ref r6)])) _
    refine Jvm.RoadKit.acmp (g := (mkF m 30 #[.val (.int x0), .val (.int x1), .val (.int (x1 &&& (7 : Int32))), .val (.ref r4), .val (.ref r6)] [(.ref r6), (.ref r6)])) X33 hx rfl rfl rfl (pc0 := 30) (pc' := 33) (same := true) rfl (hb hby at_30) rfl (decide_eq_true rfl) (by decide) (by decide) ?_
    show Steps p.tables e below (T33.setTop (mkF m 33 #[.val (.int x0), .val (.int x1), .val (.int (x1 &&& (7 : Int32))), .val (.ref r4), .val (.ref r6)] [])) _
    refine XS.iconst X33.here hx rfl (hb hby at_33) ?_
    refine XS.goto X33.here hx rfl (pc0 := 34) (pc' := 38) rfl (hb hby at_34) (by decide) (by decide) ?_
    show Steps p.tables e below (T33.setTop (mkF m 38 #[.val (.int x0), .val (.int x1), .val (.int (x1 &&& (7 : Int32))), .val (.ref r4), .val (.ref r6)] [(.int (1 : Int32))])) _
    exact retN X33 hx (t := .boolean) Bd.returns (by simp) (hb hby at_38) hr
  · show Q0_4 Z x0 x1 r2 c3 r4 r5 r6 r7 r8 r9 h0 n0 _ T33.heap _
    rw [E33]
    exact ⟨rfl, N33⟩
def Q1_5 (Z : State) (x0 : Int32) (r1 : Addr) (c2 : ClassId) (r3 : Addr) (r4 : Addr) (r5 : Addr) (r6 : Addr) (r7 : Addr) (r8 : Addr) (h0 : Heap) (n0 : Nat) (v : Option Value) (h : Heap) (L : List Loc) : Prop := v = some (.ref r6) ∧ Fr n0 L ∧ Keep h0 h []
set_option maxRecDepth 65536 in
set_option maxHeartbeats 40000000 in
theorem rm1_5 (l : Launch) (Z : State) (a0 : Array Value) (hw : ∀ d ∈ tables_1, d.before a0 Z = true) (ws : List Jvm.Cond) (x0 : Int32) (r1 : Addr) (c2 : ClassId) (r3 : Addr) (r4 : Addr) (r5 : Addr) (r6 : Addr) (r7 : Addr) (r8 : Addr) (h0 : Heap) (n0 : Nat) (O0 : Old Z n0 h0) (f1 : Sta Z Z.heap cs0 "$VALUES" cs1 (.ref r1)) (f2 : Exa Z Z.heap r1 cs1) (f3 : Arv Z Z.heap r1 c2 (.object cs0) (6 : Int32) [(.ref r3), (.ref r4), (.ref r5), (.ref r6), (.ref r7), (.ref r8)] .null) (f10 : Fld Z Z.heap r3 cs0 "code" "I" (.int (1 : Int32))) (hc14 : ¬ ((1 : Int32) = x0)) (f16 : Fld Z Z.heap r4 cs0 "code" "I" (.int (2 : Int32))) (hc19 : ¬ ((2 : Int32) = x0)) (f21 : Fld Z Z.heap r5 cs0 "code" "I" (.int (3 : Int32))) (hc24 : ¬ ((3 : Int32) = x0)) (f26 : Fld Z Z.heap r6 cs0 "code" "I" (.int (4 : Int32))) (hc29 : (4 : Int32) = x0) (f31 : Fld Z Z.heap r7 cs0 "code" "I" (.int (5 : Int32))) (hc34 : ¬ ((5 : Int32) = x0)) (f36 : Fld Z Z.heap r8 cs0 "code" "I" (.int (6 : Int32))) (hc39 : ¬ ((6 : Int32) = x0)) :
    MetFree l (⟨cs0, "ofCode", cs3⟩ : MethodName) (head1 (Jvm.Cond.code (⟨cs0, "ofCode", cs3⟩ : MethodName) prog_72_method_7_code 6 (some (.object cs0)) :: ws) ({ frames := 2, cells := 1, slots := 6, locals := 25 } : Room)) (fun a U => a = #[(.int x0)] ∧ Z.Warmed39 U.vm ∧ U.heap = h0) (fun _ _ _ _ _ => True) (fun _ U o U' => ∃ v L, o = .returned v ∧ Q1_5 Z x0 r1 c2 r3 r4 r5 r6 r7 r8 h0 n0 v U'.heap L ∧ FrameEnd U o U' L ({ frames := 2, cells := 1, slots := 6, locals := 25 } : Room).cells ({ frames := 2, cells := 1, slots := 6, locals := 25 } : Room).slots) := by
  refine MetFree.of_bodySF (plainFor_of_name pn_com_example_wiregather_wiregather_wire_FieldType) hisR ?_
  intro p e s m args below meth c s₁ Bd hml0 hP hK
  obtain ⟨rfl, hZ, hh⟩ := hP
  have hx := Bd.exec
  have hby := Bd.bytes
  have hml : c.maxLocals = 6 := hml0
  have hown : s.vm.findClass cs0 = some m.cls := findClass_of_methodNamed Bd.named
  have hnm := (name_of_methodNamed Bd.named Bd.method).1
  have X0 : Stand p l e ({ frames := 2, cells := 1, slots := 6, locals := 25 } : Room) s m #[(.int x0)] below meth c s₁ [] 0 0 := Stand.of_body Bd
  have e0 : s₁.heap = h0 := by rw [← hh, Bd.state]; rfl
  have N0 := Fr.nil n0
  have pre0 : ∀ t, Steps p.tables e below (s₁.setTop (mkF m 0 #[.val (.int x0), .unset, .unset, .unset, .unset, .unset] [])) t → Steps p.tables e below (s₁.setTop (entryFrame m #[(.int x0)] 6)) t := fun t k => castTop (by first | (simp [entryFrame, mkF, argsToLocals, Value.category]; done) | rfl) k
  obtain ⟨_, _, ⟨T4, L4, k4, n4⟩, -, X4, ⟨Lc4, hQ4, l4, y4, z4⟩, st4⟩ := Jvm.LawKit.callS X0 hx (y := (⟨cs0, "values", cs2⟩ : MethodName)) hown (mvT hZ (ww hw 4 rfl)) (mvT hZ (ww hw 5 rfl)) (mvT hZ (ww hw 2 rfl)) (mvT hZ (ww hw 6 rfl)) (by decide) (backOf (W := 0) (rm2_1 l Z a0 hw [] r1 c2 r3 r4 r5 r6 r7 r8 h0 n0 O0 f1 f2 f3) hZ (ww hw 6 rfl) (ww hw 2 rfl) (by decide) (by decide)) (g := (mkF m 2 #[.val (.int x0), .val .null, .unset, .unset, .unset, .unset] [])) rfl (by rw [hml]; rfl) (argsL := []) (rest := []) (lenOf pd____Lcom_example_wiregather_wiregather_wire_FieldType_ rfl) rfl (by show 2 * 0 + _ ≤ _; exact Nat.le_of_eq rfl) (hb hby d1_2) (fun _ _ => ⟨rfl, e0, (by decide : 0 + 1 ≤ _), (by decide : 0 + 6 ≤ _)⟩)
  dsimp only [Pt.U, Pt.locs, Pt.cells, Pt.slots] at X4 l4 y4 z4 st4 hQ4
  subst l4 y4 z4
  obtain ⟨b4_0, rfl, N4q, K4, f5, f6, f7⟩ := hQ4
  have N4 := Fr.app N0 N4q
  obtain ⟨clq8, Arq8, qq8, Sq8, Nq8, Hq8, Gq8⟩ := id f7
  obtain ⟨clq9, Arq9, qq9, Sq9, Nq9, Hq9, Gq9⟩ := id f7
  have o11 := Old.keep O0 K4 all0
  have f12 := f10.ext o11.2
  obtain ⟨T13, X13, e13, st13⟩ := getF X4 hx hZ hown (host := "") (Or.inl (ww hw 25 rfl)) Via.refl rfl f12 (g := (mkF m 26 #[.val (.int x0), .val .null, .val (.ref b4_0), .val (.int (6 : Int32)), .val (.int (0 : Int32)), .val (.ref r3)] [(.ref r3)])) rfl rfl (hb hby d1_26)
  obtain ⟨clq15, Arq15, qq15, Sq15, Nq15, Hq15, Gq15⟩ := id f7
  have f17 := f16.ext o11.2
  obtain ⟨T18, X18, e18, st18⟩ := getF X13 hx hZ hown (host := "") (Or.inl (ww hw 25 rfl)) Via.refl e13 f17 (g := (mkF m 26 #[.val (.int x0), .val .null, .val (.ref b4_0), .val (.int (6 : Int32)), .val (.int (1 : Int32)), .val (.ref r4)] [(.ref r4)])) rfl rfl (hb hby d1_26)
  obtain ⟨clq20, Arq20, qq20, Sq20, Nq20, Hq20, Gq20⟩ := id f7
  have f22 := f21.ext o11.2
  obtain ⟨T23, X23, e23, st23⟩ := getF X18 hx hZ hown (host := "") (Or.inl (ww hw 25 rfl)) Via.refl e18 f22 (g := (mkF m 26 #[.val (.int x0), .val .null, .val (.ref b4_0), .val (.int (6 : Int32)), .val (.int (2 : Int32)), .val (.ref r5)] [(.ref r5)])) rfl rfl (hb hby d1_26)
  obtain ⟨clq25, Arq25, qq25, Sq25, Nq25, Hq25, Gq25⟩ := id f7
  have f27 := f26.ext o11.2
  obtain ⟨T28, X28, e28, st28⟩ := getF X23 hx hZ hown (host := "") (Or.inl (ww hw 25 rfl)) Via.refl e23 f27 (g := (mkF m 26 #[.val (.int x0), .val .null, .val (.ref b4_0), .val (.int (6 : Int32)), .val (.int (3 : Int32)), .val (.ref r6)] [(.ref r6)])) rfl rfl (hb hby d1_26)
  obtain ⟨clq30, Arq30, qq30, Sq30, Nq30, Hq30, Gq30⟩ := id f7
  have f32 := f31.ext o11.2
  obtain ⟨T33, X33, e33, st33⟩ := getF X28 hx hZ hown (host := "") (Or.inl (ww hw 25 rfl)) Via.refl e28 f32 (g := (mkF m 26 #[.val (.int x0), .val (.ref r6), .val (.ref b4_0), .val (.int (6 : Int32)), .val (.int (4 : Int32)), .val (.ref r7)] [(.ref r7)])) rfl rfl (hb hby d1_26)
  obtain ⟨clq35, Arq35, qq35, Sq35, Nq35, Hq35, Gq35⟩ := id f7
  have f37 := f36.ext o11.2
  obtain ⟨T38, X38, e38, st38⟩ := getF X33 hx hZ hown (host := "") (Or.inl (ww hw 25 rfl)) Via.refl e33 f37 (g := (mkF m 26 #[.val (.int x0), .val (.ref r6), .val (.ref b4_0), .val (.int (6 : Int32)), .val (.int (5 : Int32)), .val (.ref r8)] [(.ref r8)])) rfl rfl (hb hby d1_26)
  have kp40 : Keep h0 T4.heap [] := (Keep.refl h0 []).trans K4 all0
  obtain ⟨fs, hr, hrun, hended, hW, hsame⟩ := X38.leave (v := some (.ref r6)) (fun h => by rw [Bd.returns] at h; cases h)
  refine ⟨_, _, pre0 _ ?_, hrun, hended, _, _, rfl, ?_, ⟨_, rfl⟩, hW, hsame.mono (by decide) (by decide)⟩
  · show Steps p.tables e below (s₁.setTop (mkF m 0 #[.val (.int x0), .unset, .unset, .unset, .unset, .unset] [])) _
    refine XS.aconstNull X0.here hx rfl (hb hby d1_0) ?_
    refine XS.astoreN X0.here hx rfl (hb hby d1_1) rfl rfl (l' := #[.val (.int x0), .val .null, .unset, .unset, .unset, .unset]) rfl ?_
    refine st4 _ ?_
    show Steps p.tables e below (T4.setTop (mkF m 5 #[.val (.int x0), .val .null, .unset, .unset, .unset, .unset] [(.ref b4_0)])) _
    refine XS.astoreN X4.here hx rfl (hb hby d1_5) rfl rfl (l' := #[.val (.int x0), .val .null, .val (.ref b4_0), .unset, .unset, .unset]) rfl ?_
    refine XS.aloadN X4.here hx rfl (hb hby d1_6) rfl rfl ?_
    refine X4.arraylength hx (Arq8.1) (State.isArrayOf_alike hZ.alike Arq8.2.1) (g := (mkF m 7 #[.val (.int x0), .val .null, .val (.ref b4_0), .unset, .unset, .unset] [(.ref b4_0)])) rfl rfl (hb hby d1_7) _ ?_
    rw [len_of Sq8 Nq8]
    show Steps p.tables e below (T4.setTop (mkF m 8 #[.val (.int x0), .val .null, .val (.ref b4_0), .unset, .unset, .unset] [(.int (6 : Int32))])) _
    refine XS.istoreN X4.here hx rfl (hb hby d1_8) rfl (l' := #[.val (.int x0), .val .null, .val (.ref b4_0), .val (.int (6 : Int32)), .unset, .unset]) rfl ?_
    refine XS.iconst X4.here hx rfl (hb hby d1_9) ?_
    refine XS.istore X4.here hx rfl (hb hby d1_10) rfl (l' := #[.val (.int x0), .val .null, .val (.ref b4_0), .val (.int (6 : Int32)), .val (.int (0 : Int32)), .unset]) rfl ?_
    refine XS.iload X4.here hx rfl (hb hby d1_12) rfl ?_
    show Steps p.tables e below (T4.setTop (mkF m 14 #[.val (.int x0), .val .null, .val (.ref b4_0), .val (.int (6 : Int32)), .val (.int (0 : Int32)), .unset] [(.int (0 : Int32))])) _
    refine XS.iloadN X4.here hx rfl (hb hby d1_14) rfl ?_
    refine XS.icmpNo X4.here hx rfl (hb hby d1_15) rfl (tlt (by decide : (0 : Int32) < (6 : Int32))).2.1 ?_
    refine XS.aloadN X4.here hx rfl (hb hby d1_18) rfl rfl ?_
    refine XS.iload X4.here hx rfl (hb hby d1_19) rfl ?_
    show Steps p.tables e below (T4.setTop (mkF m 21 #[.val (.int x0), .val .null, .val (.ref b4_0), .val (.int (6 : Int32)), .val (.int (0 : Int32)), .unset] [(.int (0 : Int32)), (.ref b4_0)])) _
    refine X4.aaload hx (j := (0 : Int32)) (v := (.ref r3)) (Arq9.1) (State.isArrayOf_alike hZ.alike Arq9.2.1) rfl Arq9.2.2 (inb_of Sq9 ⟨(by decide : ¬ ((0 : Int32) < (0 : Int32))), (by decide : (0 : Int32) < (6 : Int32))⟩) (Has.at Hq9 (inb_of Sq9 ⟨(by decide : ¬ ((0 : Int32) < (0 : Int32))), (by decide : (0 : Int32) < (6 : Int32))⟩) rfl) (g := (mkF m 21 #[.val (.int x0), .val .null, .val (.ref b4_0), .val (.int (6 : Int32)), .val (.int (0 : Int32)), .unset] [(.int (0 : Int32)), (.ref b4_0)])) rfl rfl (hb hby d1_21) _ ?_
    show Steps p.tables e below (T4.setTop (mkF m 22 #[.val (.int x0), .val .null, .val (.ref b4_0), .val (.int (6 : Int32)), .val (.int (0 : Int32)), .unset] [(.ref r3)])) _
    refine XS.astore X4.here hx rfl (hb hby d1_22) rfl rfl (l' := #[.val (.int x0), .val .null, .val (.ref b4_0), .val (.int (6 : Int32)), .val (.int (0 : Int32)), .val (.ref r3)]) rfl ?_
    refine XS.aload X4.here hx rfl (hb hby d1_24) rfl rfl ?_
    refine st13 _ ?_
    show Steps p.tables e below (T13.setTop (mkF m 29 #[.val (.int x0), .val .null, .val (.ref b4_0), .val (.int (6 : Int32)), .val (.int (0 : Int32)), .val (.ref r3)] [(.int (1 : Int32))])) _
    refine XS.iloadN X13.here hx rfl (hb hby d1_29) rfl ?_
    refine XS.icmpYes X13.here hx rfl (pc0 := 30) (pc' := 36) rfl (hb hby d1_30) rfl (feq hc14).2 (by decide) (by decide) ?_
    show Steps p.tables e below (T13.setTop (mkF m 36 #[.val (.int x0), .val .null, .val (.ref b4_0), .val (.int (6 : Int32)), .val (.int (0 : Int32)), .val (.ref r3)] [])) _
    refine XS.iinc X13.here hx rfl (hb hby d1_36) rfl (l' := #[.val (.int x0), .val .null, .val (.ref b4_0), .val (.int (6 : Int32)), .val (.int (1 : Int32)), .val (.ref r3)]) rfl ?_
    refine XS.goto X13.here hx rfl (pc0 := 39) (pc' := 12) rfl (hb hby d1_39) (by decide) (by decide) ?_
    show Steps p.tables e below (T13.setTop (mkF m 12 #[.val (.int x0), .val .null, .val (.ref b4_0), .val (.int (6 : Int32)), .val (.int (1 : Int32)), .val (.ref r3)] [])) _
    refine XS.iload X13.here hx rfl (hb hby d1_12) rfl ?_
    refine XS.iloadN X13.here hx rfl (hb hby d1_14) rfl ?_
    refine XS.icmpNo X13.here hx rfl (hb hby d1_15) rfl (tlt (by decide : (1 : Int32) < (6 : Int32))).2.1 ?_
    refine XS.aloadN X13.here hx rfl (hb hby d1_18) rfl rfl ?_
    show Steps p.tables e below (T13.setTop (mkF m 19 #[.val (.int x0), .val .null, .val (.ref b4_0), .val (.int (6 : Int32)), .val (.int (1 : Int32)), .val (.ref r3)] [(.ref b4_0)])) _
    refine XS.iload X13.here hx rfl (hb hby d1_19) rfl ?_
    refine X13.aaload hx (j := (1 : Int32)) (v := (.ref r4)) (by rw [e13]; exact Arq15.1) (State.isArrayOf_alike hZ.alike Arq15.2.1) rfl Arq15.2.2 (inb_of Sq15 ⟨(by decide : ¬ ((1 : Int32) < (0 : Int32))), (by decide : (1 : Int32) < (6 : Int32))⟩) (Has.at Hq15 (inb_of Sq15 ⟨(by decide : ¬ ((1 : Int32) < (0 : Int32))), (by decide : (1 : Int32) < (6 : Int32))⟩) rfl) (g := (mkF m 21 #[.val (.int x0), .val .null, .val (.ref b4_0), .val (.int (6 : Int32)), .val (.int (1 : Int32)), .val (.ref r3)] [(.int (1 : Int32)), (.ref b4_0)])) rfl rfl (hb hby d1_21) _ ?_
    show Steps p.tables e below (T13.setTop (mkF m 22 #[.val (.int x0), .val .null, .val (.ref b4_0), .val (.int (6 : Int32)), .val (.int (1 : Int32)), .val (.ref r3)] [(.ref r4)])) _
    refine XS.astore X13.here hx rfl (hb hby d1_22) rfl rfl (l' := #[.val (.int x0), .val .null, .val (.ref b4_0), .val (.int (6 : Int32)), .val (.int (1 : Int32)), .val (.ref r4)]) rfl ?_
    refine XS.aload X13.here hx rfl (hb hby d1_24) rfl rfl ?_
    refine st18 _ ?_
    show Steps p.tables e below (T18.setTop (mkF m 29 #[.val (.int x0), .val .null, .val (.ref b4_0), .val (.int (6 : Int32)), .val (.int (1 : Int32)), .val (.ref r4)] [(.int (2 : Int32))])) _
    refine XS.iloadN X18.here hx rfl (hb hby d1_29) rfl ?_
    refine XS.icmpYes X18.here hx rfl (pc0 := 30) (pc' := 36) rfl (hb hby d1_30) rfl (feq hc19).2 (by decide) (by decide) ?_
    show Steps p.tables e below (T18.setTop (mkF m 36 #[.val (.int x0), .val .null, .val (.ref b4_0), .val (.int (6 : Int32)), .val (.int (1 : Int32)), .val (.ref r4)] [])) _
    refine XS.iinc X18.here hx rfl (hb hby d1_36) rfl (l' := #[.val (.int x0), .val .null, .val (.ref b4_0), .val (.int (6 : Int32)), .val (.int (2 : Int32)), .val (.ref r4)]) rfl ?_
    refine XS.goto X18.here hx rfl (pc0 := 39) (pc' := 12) rfl (hb hby d1_39) (by decide) (by decide) ?_
    show Steps p.tables e below (T18.setTop (mkF m 12 #[.val (.int x0), .val .null, .val (.ref b4_0), .val (.int (6 : Int32)), .val (.int (2 : Int32)), .val (.ref r4)] [])) _
    refine XS.iload X18.here hx rfl (hb hby d1_12) rfl ?_
    refine XS.iloadN X18.here hx rfl (hb hby d1_14) rfl ?_
    refine XS.icmpNo X18.here hx rfl (hb hby d1_15) rfl (tlt (by decide : (2 : Int32) < (6 : Int32))).2.1 ?_
    refine XS.aloadN X18.here hx rfl (hb hby d1_18) rfl rfl ?_
    show Steps p.tables e below (T18.setTop (mkF m 19 #[.val (.int x0), .val .null, .val (.ref b4_0), .val (.int (6 : Int32)), .val (.int (2 : Int32)), .val (.ref r4)] [(.ref b4_0)])) _
    refine XS.iload X18.here hx rfl (hb hby d1_19) rfl ?_
    refine X18.aaload hx (j := (2 : Int32)) (v := (.ref r5)) (by rw [e18]; exact Arq20.1) (State.isArrayOf_alike hZ.alike Arq20.2.1) rfl Arq20.2.2 (inb_of Sq20 ⟨(by decide : ¬ ((2 : Int32) < (0 : Int32))), (by decide : (2 : Int32) < (6 : Int32))⟩) (Has.at Hq20 (inb_of Sq20 ⟨(by decide : ¬ ((2 : Int32) < (0 : Int32))), (by decide : (2 : Int32) < (6 : Int32))⟩) rfl) (g := (mkF m 21 #[.val (.int x0), .val .null, .val (.ref b4_0), .val (.int (6 : Int32)), .val (.int (2 : Int32)), .val (.ref r4)] [(.int (2 : Int32)), (.ref b4_0)])) rfl rfl (hb hby d1_21) _ ?_
    show Steps p.tables e below (T18.setTop (mkF m 22 #[.val (.int x0), .val .null, .val (.ref b4_0), .val (.int (6 : Int32)), .val (.int (2 : Int32)), .val (.ref r4)] [(.ref r5)])) _
    refine XS.astore X18.here hx rfl (hb hby d1_22) rfl rfl (l' := #[.val (.int x0), .val .null, .val (.ref b4_0), .val (.int (6 : Int32)), .val (.int (2 : Int32)), .val (.ref r5)]) rfl ?_
    refine XS.aload X18.here hx rfl (hb hby d1_24) rfl rfl ?_
    refine st23 _ ?_
    show Steps p.tables e below (T23.setTop (mkF m 29 #[.val (.int x0), .val .null, .val (.ref b4_0), .val (.int (6 : Int32)), .val (.int (2 : Int32)), .val (.ref r5)] [(.int (3 : Int32))])) _
    refine XS.iloadN X23.here hx rfl (hb hby d1_29) rfl ?_
    refine XS.icmpYes X23.here hx rfl (pc0 := 30) (pc' := 36) rfl (hb hby d1_30) rfl (feq hc24).2 (by decide) (by decide) ?_
    show Steps p.tables e below (T23.setTop (mkF m 36 #[.val (.int x0), .val .null, .val (.ref b4_0), .val (.int (6 : Int32)), .val (.int (2 : Int32)), .val (.ref r5)] [])) _
    refine XS.iinc X23.here hx rfl (hb hby d1_36) rfl (l' := #[.val (.int x0), .val .null, .val (.ref b4_0), .val (.int (6 : Int32)), .val (.int (3 : Int32)), .val (.ref r5)]) rfl ?_
    refine XS.goto X23.here hx rfl (pc0 := 39) (pc' := 12) rfl (hb hby d1_39) (by decide) (by decide) ?_
    show Steps p.tables e below (T23.setTop (mkF m 12 #[.val (.int x0), .val .null, .val (.ref b4_0), .val (.int (6 : Int32)), .val (.int (3 : Int32)), .val (.ref r5)] [])) _
    refine XS.iload X23.here hx rfl (hb hby d1_12) rfl ?_
    refine XS.iloadN X23.here hx rfl (hb hby d1_14) rfl ?_
    refine XS.icmpNo X23.here hx rfl (hb hby d1_15) rfl (tlt (by decide : (3 : Int32) < (6 : Int32))).2.1 ?_
    refine XS.aloadN X23.here hx rfl (hb hby d1_18) rfl rfl ?_
    show Steps p.tables e below (T23.setTop (mkF m 19 #[.val (.int x0), .val .null, .val (.ref b4_0), .val (.int (6 : Int32)), .val (.int (3 : Int32)), .val (.ref r5)] [(.ref b4_0)])) _
    refine XS.iload X23.here hx rfl (hb hby d1_19) rfl ?_
    refine X23.aaload hx (j := (3 : Int32)) (v := (.ref r6)) (by rw [e23]; exact Arq25.1) (State.isArrayOf_alike hZ.alike Arq25.2.1) rfl Arq25.2.2 (inb_of Sq25 ⟨(by decide : ¬ ((3 : Int32) < (0 : Int32))), (by decide : (3 : Int32) < (6 : Int32))⟩) (Has.at Hq25 (inb_of Sq25 ⟨(by decide : ¬ ((3 : Int32) < (0 : Int32))), (by decide : (3 : Int32) < (6 : Int32))⟩) rfl) (g := (mkF m 21 #[.val (.int x0), .val .null, .val (.ref b4_0), .val (.int (6 : Int32)), .val (.int (3 : Int32)), .val (.ref r5)] [(.int (3 : Int32)), (.ref b4_0)])) rfl rfl (hb hby d1_21) _ ?_
    show Steps p.tables e below (T23.setTop (mkF m 22 #[.val (.int x0), .val .null, .val (.ref b4_0), .val (.int (6 : Int32)), .val (.int (3 : Int32)), .val (.ref r5)] [(.ref r6)])) _
    refine XS.astore X23.here hx rfl (hb hby d1_22) rfl rfl (l' := #[.val (.int x0), .val .null, .val (.ref b4_0), .val (.int (6 : Int32)), .val (.int (3 : Int32)), .val (.ref r6)]) rfl ?_
    refine XS.aload X23.here hx rfl (hb hby d1_24) rfl rfl ?_
    refine st28 _ ?_
    show Steps p.tables e below (T28.setTop (mkF m 29 #[.val (.int x0), .val .null, .val (.ref b4_0), .val (.int (6 : Int32)), .val (.int (3 : Int32)), .val (.ref r6)] [(.int (4 : Int32))])) _
    refine XS.iloadN X28.here hx rfl (hb hby d1_29) rfl ?_
    refine XS.icmpNo X28.here hx rfl (hb hby d1_30) rfl (teq hc29).2 ?_
    refine XS.aload X28.here hx rfl (hb hby d1_33) rfl rfl ?_
    refine XS.astoreN X28.here hx rfl (hb hby d1_35) rfl rfl (l' := #[.val (.int x0), .val (.ref r6), .val (.ref b4_0), .val (.int (6 : Int32)), .val (.int (3 : Int32)), .val (.ref r6)]) rfl ?_
    show Steps p.tables e below (T28.setTop (mkF m 36 #[.val (.int x0), .val (.ref r6), .val (.ref b4_0), .val (.int (6 : Int32)), .val (.int (3 : Int32)), .val (.ref r6)] [])) _
    refine XS.iinc X28.here hx rfl (hb hby d1_36) rfl (l' := #[.val (.int x0), .val (.ref r6), .val (.ref b4_0), .val (.int (6 : Int32)), .val (.int (4 : Int32)), .val (.ref r6)]) rfl ?_
    refine XS.goto X28.here hx rfl (pc0 := 39) (pc' := 12) rfl (hb hby d1_39) (by decide) (by decide) ?_
    show Steps p.tables e below (T28.setTop (mkF m 12 #[.val (.int x0), .val (.ref r6), .val (.ref b4_0), .val (.int (6 : Int32)), .val (.int (4 : Int32)), .val (.ref r6)] [])) _
    refine XS.iload X28.here hx rfl (hb hby d1_12) rfl ?_
    refine XS.iloadN X28.here hx rfl (hb hby d1_14) rfl ?_
    refine XS.icmpNo X28.here hx rfl (hb hby d1_15) rfl (tlt (by decide : (4 : Int32) < (6 : Int32))).2.1 ?_
    refine XS.aloadN X28.here hx rfl (hb hby d1_18) rfl rfl ?_
    show Steps p.tables e below (T28.setTop (mkF m 19 #[.val (.int x0), .val (.ref r6), .val (.ref b4_0), .val (.int (6 : Int32)), .val (.int (4 : Int32)), .val (.ref r6)] [(.ref b4_0)])) _
    refine XS.iload X28.here hx rfl (hb hby d1_19) rfl ?_
    refine X28.aaload hx (j := (4 : Int32)) (v := (.ref r7)) (by rw [e28]; exact Arq30.1) (State.isArrayOf_alike hZ.alike Arq30.2.1) rfl Arq30.2.2 (inb_of Sq30 ⟨(by decide : ¬ ((4 : Int32) < (0 : Int32))), (by decide : (4 : Int32) < (6 : Int32))⟩) (Has.at Hq30 (inb_of Sq30 ⟨(by decide : ¬ ((4 : Int32) < (0 : Int32))), (by decide : (4 : Int32) < (6 : Int32))⟩) rfl) (g := (mkF m 21 #[.val (.int x0), .val (.ref r6), .val (.ref b4_0), .val (.int (6 : Int32)), .val (.int (4 : Int32)), .val (.ref r6)] [(.int (4 : Int32)), (.ref b4_0)])) rfl rfl (hb hby d1_21) _ ?_
    show Steps p.tables e below (T28.setTop (mkF m 22 #[.val (.int x0), .val (.ref r6), .val (.ref b4_0), .val (.int (6 : Int32)), .val (.int (4 : Int32)), .val (.ref r6)] [(.ref r7)])) _
    refine XS.astore X28.here hx rfl (hb hby d1_22) rfl rfl (l' := #[.val (.int x0), .val (.ref r6), .val (.ref b4_0), .val (.int (6 : Int32)), .val (.int (4 : Int32)), .val (.ref r7)]) rfl ?_
    refine XS.aload X28.here hx rfl (hb hby d1_24) rfl rfl ?_
    refine st33 _ ?_
    show Steps p.tables e below (T33.setTop (mkF m 29 #[.val (.int x0), .val (.ref r6), .val (.ref b4_0), .val (.int (6 : Int32)), .val (.int (4 : Int32)), .val (.ref r7)] [(.int (5 : Int32))])) _
    refine XS.iloadN X33.here hx rfl (hb hby d1_29) rfl ?_
    refine XS.icmpYes X33.here hx rfl (pc0 := 30) (pc' := 36) rfl (hb hby d1_30) rfl (feq hc34).2 (by decide) (by decide) ?_
    show Steps p.tables e below (T33.setTop (mkF m 36 #[.val (.int x0), .val (.ref r6), .val (.ref b4_0), .val (.int (6 : Int32)), .val (.int (4 : Int32)), .val (.ref r7)] [])) _
    refine XS.iinc X33.here hx rfl (hb hby d1_36) rfl (l' := #[.val (.int x0), .val (.ref r6), .val (.ref b4_0), .val (.int (6 : Int32)), .val (.int (5 : Int32)), .val (.ref r7)]) rfl ?_
    refine XS.goto X33.here hx rfl (pc0 := 39) (pc' := 12) rfl (hb hby d1_39) (by decide) (by decide) ?_
    show Steps p.tables e below (T33.setTop (mkF m 12 #[.val (.int x0), .val (.ref r6), .val (.ref b4_0), .val (.int (6 : Int32)), .val (.int (5 : Int32)), .val (.ref r7)] [])) _
    refine XS.iload X33.here hx rfl (hb hby d1_12) rfl ?_
    refine XS.iloadN X33.here hx rfl (hb hby d1_14) rfl ?_
    refine XS.icmpNo X33.here hx rfl (hb hby d1_15) rfl (tlt (by decide : (5 : Int32) < (6 : Int32))).2.1 ?_
    refine XS.aloadN X33.here hx rfl (hb hby d1_18) rfl rfl ?_
    show Steps p.tables e below (T33.setTop (mkF m 19 #[.val (.int x0), .val (.ref r6), .val (.ref b4_0), .val (.int (6 : Int32)), .val (.int (5 : Int32)), .val (.ref r7)] [(.ref b4_0)])) _
    refine XS.iload X33.here hx rfl (hb hby d1_19) rfl ?_
    refine X33.aaload hx (j := (5 : Int32)) (v := (.ref r8)) (by rw [e33]; exact Arq35.1) (State.isArrayOf_alike hZ.alike Arq35.2.1) rfl Arq35.2.2 (inb_of Sq35 ⟨(by decide : ¬ ((5 : Int32) < (0 : Int32))), (by decide : (5 : Int32) < (6 : Int32))⟩) (Has.at Hq35 (inb_of Sq35 ⟨(by decide : ¬ ((5 : Int32) < (0 : Int32))), (by decide : (5 : Int32) < (6 : Int32))⟩) rfl) (g := (mkF m 21 #[.val (.int x0), .val (.ref r6), .val (.ref b4_0), .val (.int (6 : Int32)), .val (.int (5 : Int32)), .val (.ref r7)] [(.int (5 : Int32)), (.ref b4_0)])) rfl rfl (hb hby d1_21) _ ?_
    show Steps p.tables e below (T33.setTop (mkF m 22 #[.val (.int x0), .val (.ref r6), .val (.ref b4_0), .val (.int (6 : Int32)), .val (.int (5 : Int32)), .val (.ref r7)] [(.ref r8)])) _
    refine XS.astore X33.here hx rfl (hb hby d1_22) rfl rfl (l' := #[.val (.int x0), .val (.ref r6), .val (.ref b4_0), .val (.int (6 : Int32)), .val (.int (5 : Int32)), .val (.ref r8)]) rfl ?_
    refine XS.aload X33.here hx rfl (hb hby d1_24) rfl rfl ?_
    refine st38 _ ?_
    show Steps p.tables e below (T38.setTop (mkF m 29 #[.val (.int x0), .val (.ref r6), .val (.ref b4_0), .val (.int (6 : Int32)), .val (.int (5 : Int32)), .val (.ref r8)] [(.int (6 : Int32))])) _
    refine XS.iloadN X38.here hx rfl (hb hby d1_29) rfl ?_
    refine XS.icmpYes X38.here hx rfl (pc0 := 30) (pc' := 36) rfl (hb hby d1_30) rfl (feq hc39).2 (by decide) (by decide) ?_
    show Steps p.tables e below (T38.setTop (mkF m 36 #[.val (.int x0), .val (.ref r6), .val (.ref b4_0), .val (.int (6 : Int32)), .val (.int (5 : Int32)), .val (.ref r8)] [])) _
    refine XS.iinc X38.here hx rfl (hb hby d1_36) rfl (l' := #[.val (.int x0), .val (.ref r6), .val (.ref b4_0), .val (.int (6 : Int32)), .val (.int (6 : Int32)), .val (.ref r8)]) rfl ?_
    refine XS.goto X38.here hx rfl (pc0 := 39) (pc' := 12) rfl (hb hby d1_39) (by decide) (by decide) ?_
    show Steps p.tables e below (T38.setTop (mkF m 12 #[.val (.int x0), .val (.ref r6), .val (.ref b4_0), .val (.int (6 : Int32)), .val (.int (6 : Int32)), .val (.ref r8)] [])) _
    refine XS.iload X38.here hx rfl (hb hby d1_12) rfl ?_
    refine XS.iloadN X38.here hx rfl (hb hby d1_14) rfl ?_
    refine XS.icmpYes X38.here hx rfl (pc0 := 15) (pc' := 42) rfl (hb hby d1_15) rfl (flt (by decide : ¬ ((6 : Int32) < (6 : Int32)))).2.1 (by decide) (by decide) ?_
    show Steps p.tables e below (T38.setTop (mkF m 42 #[.val (.int x0), .val (.ref r6), .val (.ref b4_0), .val (.int (6 : Int32)), .val (.int (6 : Int32)), .val (.ref r8)] [])) _
    refine XS.aloadN X38.here hx rfl (hb hby d1_42) rfl rfl ?_
    exact retOut X38 hx (i := .areturn) Bd.returns rfl (Or.inr (Or.inr (Or.inr (Or.inr ⟨rfl, rfl, rfl⟩)))) (hb hby d1_43) hr
  · show Q1_5 Z x0 r1 c2 r3 r4 r5 r6 r7 r8 h0 n0 _ T38.heap _
    rw [e38]
    exact ⟨rfl, N4, kp40⟩
theorem d3_32 : decode method_2_code 32 = .ok (.getstatic 19, 3) := by decide +kernel
theorem d3_35 : decode method_2_code 35 = .ok (.areturn, 1) := by decide +kernel
def Q3_5 (Z : State) (x0 : Int32) (r1 : Addr) (h0 : Heap) (n0 : Nat) (v : Option Value) (h : Heap) (L : List Loc) : Prop := v = some (.ref r1) ∧ Fr n0 L ∧ h = h0
set_option maxRecDepth 65536 in
set_option maxHeartbeats 40000000 in
theorem rm3_5 (l : Launch) (Z : State) (a0 : Array Value) (hw : ∀ d ∈ tables_1, d.before a0 Z = true) (ws : List Jvm.Cond) (x0 : Int32) (r1 : Addr) (h0 : Heap) (n0 : Nat) (O0 : Old Z n0 h0) (hc1 : ¬ (x0 = (1 : Int32))) (hc2 : ¬ (x0 = (2 : Int32))) (hc3 : ¬ (x0 = (3 : Int32))) (hc4 : x0 = (4 : Int32)) (f5 : Sta Z Z.heap cs0 "F64" cs5 (.ref r1)) :
    MetFree l (⟨cs4, "expected", cs3⟩ : MethodName) (head1 (Jvm.Cond.code (⟨cs4, "expected", cs3⟩ : MethodName) method_2_code 1 (some (.object cs0)) :: ws) ({ frames := 0, cells := 0, slots := 0, locals := 0 } : Room)) (fun a U => a = #[(.int x0)] ∧ Z.Warmed39 U.vm ∧ U.heap = h0) (fun _ _ _ _ _ => True) (fun _ U o U' => ∃ v L, o = .returned v ∧ Q3_5 Z x0 r1 h0 n0 v U'.heap L ∧ FrameEnd U o U' L ({ frames := 0, cells := 0, slots := 0, locals := 0 } : Room).cells ({ frames := 0, cells := 0, slots := 0, locals := 0 } : Room).slots) := by
  refine MetFree.of_bodySF (plainFor_of_name pn_com_example_wiregather_wiregather_wire_FieldTypeOfCodePinLaw) hisR ?_
  intro p e s m args below meth c s₁ Bd hml0 hP hK
  obtain ⟨rfl, hZ, hh⟩ := hP
  have hx := Bd.exec
  have hby := Bd.bytes
  have hml : c.maxLocals = 1 := hml0
  have hown : s.vm.findClass cs4 = some m.cls := findClass_of_methodNamed Bd.named
  have hnm := (name_of_methodNamed Bd.named Bd.method).1
  have X0 : Stand p l e ({ frames := 0, cells := 0, slots := 0, locals := 0 } : Room) s m #[(.int x0)] below meth c s₁ [] 0 0 := Stand.of_body Bd
  have e0 : s₁.heap = h0 := by rw [← hh, Bd.state]; rfl
  have N0 := Fr.nil n0
  have pre0 : ∀ t, Steps p.tables e below (s₁.setTop (mkF m 0 #[.val (.int x0)] [])) t → Steps p.tables e below (s₁.setTop (entryFrame m #[(.int x0)] 1)) t := fun t k => castTop (by first | (simp [entryFrame, mkF, argsToLocals, Value.category]; done) | rfl) k
  have f6 := f5.ext O0.2
  obtain ⟨T7, X7, e7, st7⟩ := getS2 X0 hx hZ hown (host := "") (Or.inl (ww hw 33 rfl)) Via.refl e0 f6 (g := (mkF m 32 #[.val (.int x0)] [])) rfl (hb hby d3_32)
  obtain ⟨fs, hr, hrun, hended, hW, hsame⟩ := X7.leave (v := some (.ref r1)) (fun h => by rw [Bd.returns] at h; cases h)
  refine ⟨_, _, pre0 _ ?_, hrun, hended, _, _, rfl, ?_, ⟨_, rfl⟩, hW, hsame.mono (by decide) (by decide)⟩
  · show Steps p.tables e below (s₁.setTop (mkF m 0 #[.val (.int x0)] [])) _
    refine XS.iloadN X0.here hx rfl (hb hby d3_0) rfl ?_
    refine XS.iconst X0.here hx rfl (hb hby d3_1) ?_
    refine XS.icmpYes X0.here hx rfl (pc0 := 2) (pc' := 9) rfl (hb hby d3_2) rfl (feq hc1).2 (by decide) (by decide) ?_
    show Steps p.tables e below (s₁.setTop (mkF m 9 #[.val (.int x0)] [])) _
    refine XS.iloadN X0.here hx rfl (hb hby d3_9) rfl ?_
    refine XS.iconst X0.here hx rfl (hb hby d3_10) ?_
    refine XS.icmpYes X0.here hx rfl (pc0 := 11) (pc' := 18) rfl (hb hby d3_11) rfl (feq hc2).2 (by decide) (by decide) ?_
    show Steps p.tables e below (s₁.setTop (mkF m 18 #[.val (.int x0)] [])) _
    refine XS.iloadN X0.here hx rfl (hb hby d3_18) rfl ?_
    refine XS.iconst X0.here hx rfl (hb hby d3_19) ?_
    refine XS.icmpYes X0.here hx rfl (pc0 := 20) (pc' := 27) rfl (hb hby d3_20) rfl (feq hc3).2 (by decide) (by decide) ?_
    show Steps p.tables e below (s₁.setTop (mkF m 27 #[.val (.int x0)] [])) _
    refine XS.iloadN X0.here hx rfl (hb hby d3_27) rfl ?_
    refine XS.iconst X0.here hx rfl (hb hby d3_28) ?_
    refine XS.icmpNo X0.here hx rfl (hb hby d3_29) rfl (teq hc4).2 ?_
    refine st7 _ ?_
    show Steps p.tables e below (T7.setTop (mkF m 35 #[.val (.int x0)] [(.ref r1)])) _
    exact retOut X7 hx (i := .areturn) Bd.returns rfl (Or.inr (Or.inr (Or.inr (Or.inr ⟨rfl, rfl, rfl⟩)))) (hb hby d3_35) hr
  · show Q3_5 Z x0 r1 h0 n0 _ T7.heap _
    rw [e7]
    exact ⟨rfl, N0, rfl⟩
def Q0_5 (Z : State) (x0 : Int32) (x1 : Int32) (r2 : Addr) (c3 : ClassId) (r4 : Addr) (r5 : Addr) (r6 : Addr) (r7 : Addr) (r8 : Addr) (r9 : Addr) (h0 : Heap) (n0 : Nat) (v : Option Value) (h : Heap) (L : List Loc) : Prop := v = some (.int (1 : Int32)) ∧ Fr n0 L
set_option maxRecDepth 65536 in
set_option maxHeartbeats 40000000 in
theorem rm0_5 (l : Launch) (Z : State) (a0 : Array Value) (hw : ∀ d ∈ tables_1, d.before a0 Z = true) (ws : List Jvm.Cond) (x0 : Int32) (x1 : Int32) (r2 : Addr) (c3 : ClassId) (r4 : Addr) (r5 : Addr) (r6 : Addr) (r7 : Addr) (r8 : Addr) (r9 : Addr) (h0 : Heap) (n0 : Nat) (O0 : Old Z n0 h0) (f1 : Sta Z Z.heap cs0 "$VALUES" cs1 (.ref r2)) (f2 : Exa Z Z.heap r2 cs1) (f3 : Arv Z Z.heap r2 c3 (.object cs0) (6 : Int32) [(.ref r4), (.ref r5), (.ref r6), (.ref r7), (.ref r8), (.ref r9)] .null) (f4 : Fld Z Z.heap r4 cs0 "code" "I" (.int (1 : Int32))) (hc5 : (1 : Int32) = x0) (f6 : Fld Z Z.heap r5 cs0 "code" "I" (.int (2 : Int32))) (hc7 : ¬ ((2 : Int32) = x0)) (f8 : Fld Z Z.heap r6 cs0 "code" "I" (.int (3 : Int32))) (hc9 : ¬ ((3 : Int32) = x0)) (f10 : Fld Z Z.heap r7 cs0 "code" "I" (.int (4 : Int32))) (hc11 : ¬ ((4 : Int32) = x0)) (f12 : Fld Z Z.heap r8 cs0 "code" "I" (.int (5 : Int32))) (hc13 : ¬ ((5 : Int32) = x0)) (f14 : Fld Z Z.heap r9 cs0 "code" "I" (.int (6 : Int32))) (hc15 : ¬ ((6 : Int32) = x0)) (hc17 : ¬ ((1 : Int32) = (x1 &&& (7 : Int32)))) (hc18 : ¬ ((2 : Int32) = (x1 &&& (7 : Int32)))) (hc19 : ¬ ((3 : Int32) = (x1 &&& (7 : Int32)))) (hc20 : (4 : Int32) = (x1 &&& (7 : Int32))) (hc21 : ¬ ((5 : Int32) = (x1 &&& (7 : Int32)))) (hc22 : ¬ ((6 : Int32) = (x1 &&& (7 : Int32)))) (hc25 : x0 = (1 : Int32)) (f26 : Sta Z Z.heap cs0 "I32" cs5 (.ref r4)) (hc29 : ¬ ((x1 &&& (7 : Int32)) = (1 : Int32))) (hc30 : ¬ ((x1 &&& (7 : Int32)) = (2 : Int32))) (hc31 : ¬ ((x1 &&& (7 : Int32)) = (3 : Int32))) (hc32 : (x1 &&& (7 : Int32)) = (4 : Int32)) (f33 : Sta Z Z.heap cs0 "F64" cs5 (.ref r7)) :
    MetFree l x (head1 (Jvm.Cond.code x code maxLocals ret :: ws) room_1) (fun a U => a = #[(.int x0), (.int x1)] ∧ Z.Warmed39 U.vm ∧ U.heap = h0) (fun _ _ _ _ _ => True) (fun _ U o U' => ∃ v L, o = .returned v ∧ Q0_5 Z x0 x1 r2 c3 r4 r5 r6 r7 r8 r9 h0 n0 v U'.heap L ∧ FrameEnd U o U' L room_1.cells room_1.slots) := by
  refine MetFree.of_bodySF (plainFor_of_name pn_com_example_wiregather_wiregather_wire_FieldTypeOfCodePinLaw) hisR ?_
  intro p e s m args below meth c s₁ Bd hml0 hP hK
  obtain ⟨rfl, hZ, hh⟩ := hP
  have hx := Bd.exec
  have hby := Bd.bytes
  have hml : c.maxLocals = 5 := hml0
  have hown : s.vm.findClass cs4 = some m.cls := findClass_of_methodNamed Bd.named
  have hnm := (name_of_methodNamed Bd.named Bd.method).1
  have X0 : Stand p l e room_1 s m #[(.int x0), (.int x1)] below meth c s₁ [] 0 0 := Stand.of_body Bd
  have e0 : s₁.heap = h0 := by rw [← hh, Bd.state]; rfl
  have N0 := Fr.nil n0
  have pre0 : ∀ t, Steps p.tables e below (s₁.setTop (mkF m 0 #[.val (.int x0), .val (.int x1), .unset, .unset, .unset] [])) t → Steps p.tables e below (s₁.setTop (entryFrame m #[(.int x0), (.int x1)] maxLocals)) t := fun t k => castTop (by first | (simp [entryFrame, mkF, argsToLocals, Value.category, maxLocals]; done) | rfl) k
  obtain ⟨_, _, ⟨T16, L16, k16, n16⟩, -, X16, ⟨Lc16, hQ16, l16, y16, z16⟩, st16⟩ := Jvm.LawKit.callS X0 hx (y := (⟨cs0, "ofCode", cs3⟩ : MethodName)) hown (mvT hZ (ww hw 0 rfl)) (mvT hZ (ww hw 1 rfl)) (mvT hZ (ww hw 2 rfl)) (mvT hZ (ww hw 3 rfl)) (by decide) (backOf (W := 0) (rm1_1 l Z a0 hw [] x0 r2 c3 r4 r5 r6 r7 r8 r9 h0 n0 O0 f1 f2 f3 f4 hc5 f6 hc7 f8 hc9 f10 hc11 f12 hc13 f14 hc15) hZ (ww hw 3 rfl) (ww hw 2 rfl) (by decide) (by decide)) (g := (mkF m 6 #[.val (.int x0), .val (.int x1), .val (.int (x1 &&& (7 : Int32))), .unset, .unset] [(.int x0)])) rfl (by rw [hml]; rfl) (argsL := [(.int x0)]) (rest := []) (lenOf pd__I_Lcom_example_wiregather_wiregather_wire_FieldType_ rfl) rfl (by show 2 * 0 + _ ≤ _; exact Nat.le_of_eq rfl) (hb hby at_6) (fun _ _ => ⟨rfl, e0, (by decide : 0 + 1 ≤ _), (by decide : 0 + 6 ≤ _)⟩)
  dsimp only [Pt.U, Pt.locs, Pt.cells, Pt.slots] at X16 l16 y16 z16 st16 hQ16
  subst l16 y16 z16
  obtain ⟨rfl, N16q, K16⟩ := hQ16
  have N16 := Fr.app N0 N16q
  have o23 := Old.keep O0 K16 all0
  obtain ⟨_, _, ⟨T24, L24, k24, n24⟩, -, X24, ⟨Lc24, hQ24, l24, y24, z24⟩, st24⟩ := Jvm.LawKit.callS X16 hx (y := (⟨cs0, "ofCode", cs3⟩ : MethodName)) hown (mvT hZ (ww hw 0 rfl)) (mvT hZ (ww hw 1 rfl)) (mvT hZ (ww hw 2 rfl)) (mvT hZ (ww hw 3 rfl)) (by decide) (backOf (W := 0) (rm1_5 l Z a0 hw [] (x1 &&& (7 : Int32)) r2 c3 r4 r5 r6 r7 r8 r9 T16.heap n0 o23 f1 f2 f3 f4 hc17 f6 hc18 f8 hc19 f10 hc20 f12 hc21 f14 hc22) hZ (ww hw 3 rfl) (ww hw 2 rfl) (by decide) (by decide)) (g := (mkF m 11 #[.val (.int x0), .val (.int x1), .val (.int (x1 &&& (7 : Int32))), .val (.ref r4), .unset] [(.int (x1 &&& (7 : Int32)))])) rfl (by rw [hml]; rfl) (argsL := [(.int (x1 &&& (7 : Int32)))]) (rest := []) (lenOf pd__I_Lcom_example_wiregather_wiregather_wire_FieldType_ rfl) rfl (by show 2 * 0 + _ ≤ _; exact Nat.le_of_eq rfl) (hb hby at_11) (fun _ _ => ⟨rfl, rfl, (by decide : 1 + 1 ≤ _), (by decide : 6 + 6 ≤ _)⟩)
  dsimp only [Pt.U, Pt.locs, Pt.cells, Pt.slots] at X24 l24 y24 z24 st24 hQ24
  subst l24 y24 z24
  obtain ⟨rfl, N24q, K24⟩ := hQ24
  have N24 := Fr.app N16 N24q
  have o27 := Old.keep o23 K24 all0
  obtain ⟨_, _, ⟨T28, L28, k28, n28⟩, -, X28, ⟨Lc28, hQ28, l28, y28, z28⟩, st28⟩ := Jvm.LawKit.callS X24 hx (y := (⟨cs4, "expected", cs3⟩ : MethodName)) hown (mvT hZ (ww hw 27 rfl)) (mvT hZ (ww hw 28 rfl)) (mvT hZ (ww hw 29 rfl)) (mvT hZ (ww hw 30 rfl)) (by decide) (backOf (W := 1) (rm3_1 l Z a0 hw [] x0 r4 T24.heap n0 o27 hc25 f26) hZ (ww hw 30 rfl) (ww hw 29 rfl) (by decide) (by decide)) (g := (mkF m 18 #[.val (.int x0), .val (.int x1), .val (.int (x1 &&& (7 : Int32))), .val (.ref r4), .val (.ref r7)] [(.int x0), (.ref r4)])) rfl (by rw [hml]; rfl) (argsL := [(.int x0)]) (rest := [(.ref r4)]) (lenOf pd__I_Lcom_example_wiregather_wiregather_wire_FieldType_ rfl) rfl (by show 2 * 0 + _ ≤ _; exact Nat.le_of_eq rfl) (hb hby at_18) (fun _ _ => ⟨rfl, rfl, (by decide : 2 + 0 ≤ _), (by decide : 12 + 0 ≤ _)⟩)
  dsimp only [Pt.U, Pt.locs, Pt.cells, Pt.slots] at X28 l28 y28 z28 st28 hQ28
  subst l28 y28 z28
  obtain ⟨rfl, N28q, E28⟩ := hQ28
  have N28 := Fr.app N24 N28q
  obtain ⟨_, _, ⟨T34, L34, k34, n34⟩, -, X34, ⟨Lc34, hQ34, l34, y34, z34⟩, st34⟩ := Jvm.LawKit.callS X28 hx (y := (⟨cs4, "expected", cs3⟩ : MethodName)) hown (mvT hZ (ww hw 27 rfl)) (mvT hZ (ww hw 28 rfl)) (mvT hZ (ww hw 29 rfl)) (mvT hZ (ww hw 30 rfl)) (by decide) (backOf (W := 1) (rm3_5 l Z a0 hw [] (x1 &&& (7 : Int32)) r7 T24.heap n0 o27 hc29 hc30 hc31 hc32 f33) hZ (ww hw 30 rfl) (ww hw 29 rfl) (by decide) (by decide)) (g := (mkF m 27 #[.val (.int x0), .val (.int x1), .val (.int (x1 &&& (7 : Int32))), .val (.ref r4), .val (.ref r7)] [(.int (x1 &&& (7 : Int32))), (.ref r7)])) rfl (by rw [hml]; rfl) (argsL := [(.int (x1 &&& (7 : Int32)))]) (rest := [(.ref r7)]) (lenOf pd__I_Lcom_example_wiregather_wiregather_wire_FieldType_ rfl) rfl (by show 2 * 0 + _ ≤ _; exact Nat.le_of_eq rfl) (hb hby at_27) (fun _ _ => ⟨rfl, E28, (by decide : 2 + 0 ≤ _), (by decide : 12 + 0 ≤ _)⟩)
  dsimp only [Pt.U, Pt.locs, Pt.cells, Pt.slots] at X34 l34 y34 z34 st34 hQ34
  subst l34 y34 z34
  obtain ⟨rfl, N34q, E34⟩ := hQ34
  have N34 := Fr.app N28 N34q
  obtain ⟨fs, hr, hrun, hended, hW, hsame⟩ := X34.leave (v := some (.int (1 : Int32))) (fun h => by rw [Bd.returns] at h; cases h)
  refine ⟨_, _, pre0 _ ?_, hrun, hended, _, _, rfl, ?_, ⟨_, rfl⟩, hW, hsame.mono (by decide) (by decide)⟩
  · show Steps p.tables e below (s₁.setTop (mkF m 0 #[.val (.int x0), .val (.int x1), .unset, .unset, .unset] [])) _
    refine XS.iloadN X0.here hx rfl (hb hby at_0) rfl ?_
    refine XS.bipush X0.here hx rfl (hb hby at_1) ?_
    refine XS.iand X0.here hx rfl (hb hby at_3) rfl ?_
    refine XS.istoreN X0.here hx rfl (hb hby at_4) rfl (l' := #[.val (.int x0), .val (.int x1), .val (.int (x1 &&& (7 : Int32))), .unset, .unset]) rfl ?_
    show Steps p.tables e below (s₁.setTop (mkF m 5 #[.val (.int x0), .val (.int x1), .val (.int (x1 &&& (7 : Int32))), .unset, .unset] [])) _
    refine XS.iloadN X0.here hx rfl (hb hby at_5) rfl ?_
    refine st16 _ ?_
    show Steps p.tables e below (T16.setTop (mkF m 9 #[.val (.int x0), .val (.int x1), .val (.int (x1 &&& (7 : Int32))), .unset, .unset] [(.ref r4)])) _
    refine XS.astoreN X16.here hx rfl (hb hby at_9) rfl rfl (l' := #[.val (.int x0), .val (.int x1), .val (.int (x1 &&& (7 : Int32))), .val (.ref r4), .unset]) rfl ?_
    refine XS.iloadN X16.here hx rfl (hb hby at_10) rfl ?_
    refine st24 _ ?_
    show Steps p.tables e below (T24.setTop (mkF m 14 #[.val (.int x0), .val (.int x1), .val (.int (x1 &&& (7 : Int32))), .val (.ref r4), .unset] [(.ref r7)])) _
    refine XS.astore X24.here hx rfl (hb hby at_14) rfl rfl (l' := #[.val (.int x0), .val (.int x1), .val (.int (x1 &&& (7 : Int32))), .val (.ref r4), .val (.ref r7)]) rfl ?_
    refine XS.aloadN X24.here hx rfl (hb hby at_16) rfl rfl ?_
    refine XS.iloadN X24.here hx rfl (hb hby at_17) rfl ?_
    refine st28 _ ?_
    show Steps p.tables e below (T28.setTop (mkF m 21 #[.val (.int x0), .val (.int x1), .val (.int (x1 &&& (7 : Int32))), .val (.ref r4), .val (.ref r7)] [(.ref r4), (.ref r4)])) _
    refine Jvm.RoadKit.acmp (g := (mkF m 21 #[.val (.int x0), .val (.int x1), .val (.int (x1 &&& (7 : Int32))), .val (.ref r4), .val (.ref r7)] [(.ref r4), (.ref r4)])) X28 hx rfl rfl rfl (pc0 := 21) (pc' := 24) (same := true) rfl (hb hby at_21) rfl (decide_eq_true rfl) (by decide) (by decide) ?_
    show Steps p.tables e below (T28.setTop (mkF m 24 #[.val (.int x0), .val (.int x1), .val (.int (x1 &&& (7 : Int32))), .val (.ref r4), .val (.ref r7)] [])) _
    refine XS.aload X28.here hx rfl (hb hby at_24) rfl rfl ?_
    refine XS.iloadN X28.here hx rfl (hb hby at_26) rfl ?_
    refine st34 _ ?_
    show Steps p.tables e below (T34.setTop (mkF m 30 #[.val (.int x0), .val (.int x1), .val (.int (x1 &&& (7 : Int32))), .val (.ref r4), .val (.ref r7)] [(.ref r7), (.ref r7)])) _
    refine Jvm.RoadKit.acmp (g := (mkF m 30 #[.val (.int x0), .val (.int x1), .val (.int (x1 &&& (7 : Int32))), .val (.ref r4), .val (.ref r7)] [(.ref r7), (.ref r7)])) X34 hx rfl rfl rfl (pc0 := 30) (pc' := 33) (same := true) rfl (hb hby at_30) rfl (decide_eq_true rfl) (by decide) (by decide) ?_
    show Steps p.tables e below (T34.setTop (mkF m 33 #[.val (.int x0), .val (.int x1), .val (.int (x1 &&& (7 : Int32))), .val (.ref r4), .val (.ref r7)] [])) _
    refine XS.iconst X34.here hx rfl (hb hby at_33) ?_
    refine XS.goto X34.here hx rfl (pc0 := 34) (pc' := 38) rfl (hb hby at_34) (by decide) (by decide) ?_
    show Steps p.tables e below (T34.setTop (mkF m 38 #[.val (.int x0), .val (.int x1), .val (.int (x1 &&& (7 : Int32))), .val (.ref r4), .val (.ref r7)] [(.int (1 : Int32))])) _
    exact retN X34 hx (t := .boolean) Bd.returns (by simp) (hb hby at_38) hr
  · show Q0_5 Z x0 x1 r2 c3 r4 r5 r6 r7 r8 r9 h0 n0 _ T34.heap _
    rw [E34]
    exact ⟨rfl, N34⟩
def Q1_6 (Z : State) (x0 : Int32) (r1 : Addr) (c2 : ClassId) (r3 : Addr) (r4 : Addr) (r5 : Addr) (r6 : Addr) (r7 : Addr) (r8 : Addr) (h0 : Heap) (n0 : Nat) (v : Option Value) (h : Heap) (L : List Loc) : Prop := v = some (.ref r7) ∧ Fr n0 L ∧ Keep h0 h []
set_option maxRecDepth 65536 in
set_option maxHeartbeats 40000000 in
theorem rm1_6 (l : Launch) (Z : State) (a0 : Array Value) (hw : ∀ d ∈ tables_1, d.before a0 Z = true) (ws : List Jvm.Cond) (x0 : Int32) (r1 : Addr) (c2 : ClassId) (r3 : Addr) (r4 : Addr) (r5 : Addr) (r6 : Addr) (r7 : Addr) (r8 : Addr) (h0 : Heap) (n0 : Nat) (O0 : Old Z n0 h0) (f1 : Sta Z Z.heap cs0 "$VALUES" cs1 (.ref r1)) (f2 : Exa Z Z.heap r1 cs1) (f3 : Arv Z Z.heap r1 c2 (.object cs0) (6 : Int32) [(.ref r3), (.ref r4), (.ref r5), (.ref r6), (.ref r7), (.ref r8)] .null) (f10 : Fld Z Z.heap r3 cs0 "code" "I" (.int (1 : Int32))) (hc14 : ¬ ((1 : Int32) = x0)) (f16 : Fld Z Z.heap r4 cs0 "code" "I" (.int (2 : Int32))) (hc19 : ¬ ((2 : Int32) = x0)) (f21 : Fld Z Z.heap r5 cs0 "code" "I" (.int (3 : Int32))) (hc24 : ¬ ((3 : Int32) = x0)) (f26 : Fld Z Z.heap r6 cs0 "code" "I" (.int (4 : Int32))) (hc29 : ¬ ((4 : Int32) = x0)) (f31 : Fld Z Z.heap r7 cs0 "code" "I" (.int (5 : Int32))) (hc34 : (5 : Int32) = x0) (f36 : Fld Z Z.heap r8 cs0 "code" "I" (.int (6 : Int32))) (hc39 : ¬ ((6 : Int32) = x0)) :
    MetFree l (⟨cs0, "ofCode", cs3⟩ : MethodName) (head1 (Jvm.Cond.code (⟨cs0, "ofCode", cs3⟩ : MethodName) prog_72_method_7_code 6 (some (.object cs0)) :: ws) ({ frames := 2, cells := 1, slots := 6, locals := 25 } : Room)) (fun a U => a = #[(.int x0)] ∧ Z.Warmed39 U.vm ∧ U.heap = h0) (fun _ _ _ _ _ => True) (fun _ U o U' => ∃ v L, o = .returned v ∧ Q1_6 Z x0 r1 c2 r3 r4 r5 r6 r7 r8 h0 n0 v U'.heap L ∧ FrameEnd U o U' L ({ frames := 2, cells := 1, slots := 6, locals := 25 } : Room).cells ({ frames := 2, cells := 1, slots := 6, locals := 25 } : Room).slots) := by
  refine MetFree.of_bodySF (plainFor_of_name pn_com_example_wiregather_wiregather_wire_FieldType) hisR ?_
  intro p e s m args below meth c s₁ Bd hml0 hP hK
  obtain ⟨rfl, hZ, hh⟩ := hP
  have hx := Bd.exec
  have hby := Bd.bytes
  have hml : c.maxLocals = 6 := hml0
  have hown : s.vm.findClass cs0 = some m.cls := findClass_of_methodNamed Bd.named
  have hnm := (name_of_methodNamed Bd.named Bd.method).1
  have X0 : Stand p l e ({ frames := 2, cells := 1, slots := 6, locals := 25 } : Room) s m #[(.int x0)] below meth c s₁ [] 0 0 := Stand.of_body Bd
  have e0 : s₁.heap = h0 := by rw [← hh, Bd.state]; rfl
  have N0 := Fr.nil n0
  have pre0 : ∀ t, Steps p.tables e below (s₁.setTop (mkF m 0 #[.val (.int x0), .unset, .unset, .unset, .unset, .unset] [])) t → Steps p.tables e below (s₁.setTop (entryFrame m #[(.int x0)] 6)) t := fun t k => castTop (by first | (simp [entryFrame, mkF, argsToLocals, Value.category]; done) | rfl) k
  obtain ⟨_, _, ⟨T4, L4, k4, n4⟩, -, X4, ⟨Lc4, hQ4, l4, y4, z4⟩, st4⟩ := Jvm.LawKit.callS X0 hx (y := (⟨cs0, "values", cs2⟩ : MethodName)) hown (mvT hZ (ww hw 4 rfl)) (mvT hZ (ww hw 5 rfl)) (mvT hZ (ww hw 2 rfl)) (mvT hZ (ww hw 6 rfl)) (by decide) (backOf (W := 0) (rm2_1 l Z a0 hw [] r1 c2 r3 r4 r5 r6 r7 r8 h0 n0 O0 f1 f2 f3) hZ (ww hw 6 rfl) (ww hw 2 rfl) (by decide) (by decide)) (g := (mkF m 2 #[.val (.int x0), .val .null, .unset, .unset, .unset, .unset] [])) rfl (by rw [hml]; rfl) (argsL := []) (rest := []) (lenOf pd____Lcom_example_wiregather_wiregather_wire_FieldType_ rfl) rfl (by show 2 * 0 + _ ≤ _; exact Nat.le_of_eq rfl) (hb hby d1_2) (fun _ _ => ⟨rfl, e0, (by decide : 0 + 1 ≤ _), (by decide : 0 + 6 ≤ _)⟩)
  dsimp only [Pt.U, Pt.locs, Pt.cells, Pt.slots] at X4 l4 y4 z4 st4 hQ4
  subst l4 y4 z4
  obtain ⟨b4_0, rfl, N4q, K4, f5, f6, f7⟩ := hQ4
  have N4 := Fr.app N0 N4q
  obtain ⟨clq8, Arq8, qq8, Sq8, Nq8, Hq8, Gq8⟩ := id f7
  obtain ⟨clq9, Arq9, qq9, Sq9, Nq9, Hq9, Gq9⟩ := id f7
  have o11 := Old.keep O0 K4 all0
  have f12 := f10.ext o11.2
  obtain ⟨T13, X13, e13, st13⟩ := getF X4 hx hZ hown (host := "") (Or.inl (ww hw 25 rfl)) Via.refl rfl f12 (g := (mkF m 26 #[.val (.int x0), .val .null, .val (.ref b4_0), .val (.int (6 : Int32)), .val (.int (0 : Int32)), .val (.ref r3)] [(.ref r3)])) rfl rfl (hb hby d1_26)
  obtain ⟨clq15, Arq15, qq15, Sq15, Nq15, Hq15, Gq15⟩ := id f7
  have f17 := f16.ext o11.2
  obtain ⟨T18, X18, e18, st18⟩ := getF X13 hx hZ hown (host := "") (Or.inl (ww hw 25 rfl)) Via.refl e13 f17 (g := (mkF m 26 #[.val (.int x0), .val .null, .val (.ref b4_0), .val (.int (6 : Int32)), .val (.int (1 : Int32)), .val (.ref r4)] [(.ref r4)])) rfl rfl (hb hby d1_26)
  obtain ⟨clq20, Arq20, qq20, Sq20, Nq20, Hq20, Gq20⟩ := id f7
  have f22 := f21.ext o11.2
  obtain ⟨T23, X23, e23, st23⟩ := getF X18 hx hZ hown (host := "") (Or.inl (ww hw 25 rfl)) Via.refl e18 f22 (g := (mkF m 26 #[.val (.int x0), .val .null, .val (.ref b4_0), .val (.int (6 : Int32)), .val (.int (2 : Int32)), .val (.ref r5)] [(.ref r5)])) rfl rfl (hb hby d1_26)
  obtain ⟨clq25, Arq25, qq25, Sq25, Nq25, Hq25, Gq25⟩ := id f7
  have f27 := f26.ext o11.2
  obtain ⟨T28, X28, e28, st28⟩ := getF X23 hx hZ hown (host := "") (Or.inl (ww hw 25 rfl)) Via.refl e23 f27 (g := (mkF m 26 #[.val (.int x0), .val .null, .val (.ref b4_0), .val (.int (6 : Int32)), .val (.int (3 : Int32)), .val (.ref r6)] [(.ref r6)])) rfl rfl (hb hby d1_26)
  obtain ⟨clq30, Arq30, qq30, Sq30, Nq30, Hq30, Gq30⟩ := id f7
  have f32 := f31.ext o11.2
  obtain ⟨T33, X33, e33, st33⟩ := getF X28 hx hZ hown (host := "") (Or.inl (ww hw 25 rfl)) Via.refl e28 f32 (g := (mkF m 26 #[.val (.int x0), .val .null, .val (.ref b4_0), .val (.int (6 : Int32)), .val (.int (4 : Int32)), .val (.ref r7)] [(.ref r7)])) rfl rfl (hb hby d1_26)
  obtain ⟨clq35, Arq35, qq35, Sq35, Nq35, Hq35, Gq35⟩ := id f7
  have f37 := f36.ext o11.2
  obtain ⟨T38, X38, e38, st38⟩ := getF X33 hx hZ hown (host := "") (Or.inl (ww hw 25 rfl)) Via.refl e33 f37 (g := (mkF m 26 #[.val (.int x0), .val (.ref r7), .val (.ref b4_0), .val (.int (6 : Int32)), .val (.int (5 : Int32)), .val (.ref r8)] [(.ref r8)])) rfl rfl (hb hby d1_26)
  have kp40 : Keep h0 T4.heap [] := (Keep.refl h0 []).trans K4 all0
  obtain ⟨fs, hr, hrun, hended, hW, hsame⟩ := X38.leave (v := some (.ref r7)) (fun h => by rw [Bd.returns] at h; cases h)
  refine ⟨_, _, pre0 _ ?_, hrun, hended, _, _, rfl, ?_, ⟨_, rfl⟩, hW, hsame.mono (by decide) (by decide)⟩
  · show Steps p.tables e below (s₁.setTop (mkF m 0 #[.val (.int x0), .unset, .unset, .unset, .unset, .unset] [])) _
    refine XS.aconstNull X0.here hx rfl (hb hby d1_0) ?_
    refine XS.astoreN X0.here hx rfl (hb hby d1_1) rfl rfl (l' := #[.val (.int x0), .val .null, .unset, .unset, .unset, .unset]) rfl ?_
    refine st4 _ ?_
    show Steps p.tables e below (T4.setTop (mkF m 5 #[.val (.int x0), .val .null, .unset, .unset, .unset, .unset] [(.ref b4_0)])) _
    refine XS.astoreN X4.here hx rfl (hb hby d1_5) rfl rfl (l' := #[.val (.int x0), .val .null, .val (.ref b4_0), .unset, .unset, .unset]) rfl ?_
    refine XS.aloadN X4.here hx rfl (hb hby d1_6) rfl rfl ?_
    refine X4.arraylength hx (Arq8.1) (State.isArrayOf_alike hZ.alike Arq8.2.1) (g := (mkF m 7 #[.val (.int x0), .val .null, .val (.ref b4_0), .unset, .unset, .unset] [(.ref b4_0)])) rfl rfl (hb hby d1_7) _ ?_
    rw [len_of Sq8 Nq8]
    show Steps p.tables e below (T4.setTop (mkF m 8 #[.val (.int x0), .val .null, .val (.ref b4_0), .unset, .unset, .unset] [(.int (6 : Int32))])) _
    refine XS.istoreN X4.here hx rfl (hb hby d1_8) rfl (l' := #[.val (.int x0), .val .null, .val (.ref b4_0), .val (.int (6 : Int32)), .unset, .unset]) rfl ?_
    refine XS.iconst X4.here hx rfl (hb hby d1_9) ?_
    refine XS.istore X4.here hx rfl (hb hby d1_10) rfl (l' := #[.val (.int x0), .val .null, .val (.ref b4_0), .val (.int (6 : Int32)), .val (.int (0 : Int32)), .unset]) rfl ?_
    refine XS.iload X4.here hx rfl (hb hby d1_12) rfl ?_
    show Steps p.tables e below (T4.setTop (mkF m 14 #[.val (.int x0), .val .null, .val (.ref b4_0), .val (.int (6 : Int32)), .val (.int (0 : Int32)), .unset] [(.int (0 : Int32))])) _
    refine XS.iloadN X4.here hx rfl (hb hby d1_14) rfl ?_
    refine XS.icmpNo X4.here hx rfl (hb hby d1_15) rfl (tlt (by decide : (0 : Int32) < (6 : Int32))).2.1 ?_
    refine XS.aloadN X4.here hx rfl (hb hby d1_18) rfl rfl ?_
    refine XS.iload X4.here hx rfl (hb hby d1_19) rfl ?_
    show Steps p.tables e below (T4.setTop (mkF m 21 #[.val (.int x0), .val .null, .val (.ref b4_0), .val (.int (6 : Int32)), .val (.int (0 : Int32)), .unset] [(.int (0 : Int32)), (.ref b4_0)])) _
    refine X4.aaload hx (j := (0 : Int32)) (v := (.ref r3)) (Arq9.1) (State.isArrayOf_alike hZ.alike Arq9.2.1) rfl Arq9.2.2 (inb_of Sq9 ⟨(by decide : ¬ ((0 : Int32) < (0 : Int32))), (by decide : (0 : Int32) < (6 : Int32))⟩) (Has.at Hq9 (inb_of Sq9 ⟨(by decide : ¬ ((0 : Int32) < (0 : Int32))), (by decide : (0 : Int32) < (6 : Int32))⟩) rfl) (g := (mkF m 21 #[.val (.int x0), .val .null, .val (.ref b4_0), .val (.int (6 : Int32)), .val (.int (0 : Int32)), .unset] [(.int (0 : Int32)), (.ref b4_0)])) rfl rfl (hb hby d1_21) _ ?_
    show Steps p.tables e below (T4.setTop (mkF m 22 #[.val (.int x0), .val .null, .val (.ref b4_0), .val (.int (6 : Int32)), .val (.int (0 : Int32)), .unset] [(.ref r3)])) _
    refine XS.astore X4.here hx rfl (hb hby d1_22) rfl rfl (l' := #[.val (.int x0), .val .null, .val (.ref b4_0), .val (.int (6 : Int32)), .val (.int (0 : Int32)), .val (.ref r3)]) rfl ?_
    refine XS.aload X4.here hx rfl (hb hby d1_24) rfl rfl ?_
    refine st13 _ ?_
    show Steps p.tables e below (T13.setTop (mkF m 29 #[.val (.int x0), .val .null, .val (.ref b4_0), .val (.int (6 : Int32)), .val (.int (0 : Int32)), .val (.ref r3)] [(.int (1 : Int32))])) _
    refine XS.iloadN X13.here hx rfl (hb hby d1_29) rfl ?_
    refine XS.icmpYes X13.here hx rfl (pc0 := 30) (pc' := 36) rfl (hb hby d1_30) rfl (feq hc14).2 (by decide) (by decide) ?_
    show Steps p.tables e below (T13.setTop (mkF m 36 #[.val (.int x0), .val .null, .val (.ref b4_0), .val (.int (6 : Int32)), .val (.int (0 : Int32)), .val (.ref r3)] [])) _
    refine XS.iinc X13.here hx rfl (hb hby d1_36) rfl (l' := #[.val (.int x0), .val .null, .val (.ref b4_0), .val (.int (6 : Int32)), .val (.int (1 : Int32)), .val (.ref r3)]) rfl ?_
    refine XS.goto X13.here hx rfl (pc0 := 39) (pc' := 12) rfl (hb hby d1_39) (by decide) (by decide) ?_
    show Steps p.tables e below (T13.setTop (mkF m 12 #[.val (.int x0), .val .null, .val (.ref b4_0), .val (.int (6 : Int32)), .val (.int (1 : Int32)), .val (.ref r3)] [])) _
    refine XS.iload X13.here hx rfl (hb hby d1_12) rfl ?_
    refine XS.iloadN X13.here hx rfl (hb hby d1_14) rfl ?_
    refine XS.icmpNo X13.here hx rfl (hb hby d1_15) rfl (tlt (by decide : (1 : Int32) < (6 : Int32))).2.1 ?_
    refine XS.aloadN X13.here hx rfl (hb hby d1_18) rfl rfl ?_
    show Steps p.tables e below (T13.setTop (mkF m 19 #[.val (.int x0), .val .null, .val (.ref b4_0), .val (.int (6 : Int32)), .val (.int (1 : Int32)), .val (.ref r3)] [(.ref b4_0)])) _
    refine XS.iload X13.here hx rfl (hb hby d1_19) rfl ?_
    refine X13.aaload hx (j := (1 : Int32)) (v := (.ref r4)) (by rw [e13]; exact Arq15.1) (State.isArrayOf_alike hZ.alike Arq15.2.1) rfl Arq15.2.2 (inb_of Sq15 ⟨(by decide : ¬ ((1 : Int32) < (0 : Int32))), (by decide : (1 : Int32) < (6 : Int32))⟩) (Has.at Hq15 (inb_of Sq15 ⟨(by decide : ¬ ((1 : Int32) < (0 : Int32))), (by decide : (1 : Int32) < (6 : Int32))⟩) rfl) (g := (mkF m 21 #[.val (.int x0), .val .null, .val (.ref b4_0), .val (.int (6 : Int32)), .val (.int (1 : Int32)), .val (.ref r3)] [(.int (1 : Int32)), (.ref b4_0)])) rfl rfl (hb hby d1_21) _ ?_
    show Steps p.tables e below (T13.setTop (mkF m 22 #[.val (.int x0), .val .null, .val (.ref b4_0), .val (.int (6 : Int32)), .val (.int (1 : Int32)), .val (.ref r3)] [(.ref r4)])) _
    refine XS.astore X13.here hx rfl (hb hby d1_22) rfl rfl (l' := #[.val (.int x0), .val .null, .val (.ref b4_0), .val (.int (6 : Int32)), .val (.int (1 : Int32)), .val (.ref r4)]) rfl ?_
    refine XS.aload X13.here hx rfl (hb hby d1_24) rfl rfl ?_
    refine st18 _ ?_
    show Steps p.tables e below (T18.setTop (mkF m 29 #[.val (.int x0), .val .null, .val (.ref b4_0), .val (.int (6 : Int32)), .val (.int (1 : Int32)), .val (.ref r4)] [(.int (2 : Int32))])) _
    refine XS.iloadN X18.here hx rfl (hb hby d1_29) rfl ?_
    refine XS.icmpYes X18.here hx rfl (pc0 := 30) (pc' := 36) rfl (hb hby d1_30) rfl (feq hc19).2 (by decide) (by decide) ?_
    show Steps p.tables e below (T18.setTop (mkF m 36 #[.val (.int x0), .val .null, .val (.ref b4_0), .val (.int (6 : Int32)), .val (.int (1 : Int32)), .val (.ref r4)] [])) _
    refine XS.iinc X18.here hx rfl (hb hby d1_36) rfl (l' := #[.val (.int x0), .val .null, .val (.ref b4_0), .val (.int (6 : Int32)), .val (.int (2 : Int32)), .val (.ref r4)]) rfl ?_
    refine XS.goto X18.here hx rfl (pc0 := 39) (pc' := 12) rfl (hb hby d1_39) (by decide) (by decide) ?_
    show Steps p.tables e below (T18.setTop (mkF m 12 #[.val (.int x0), .val .null, .val (.ref b4_0), .val (.int (6 : Int32)), .val (.int (2 : Int32)), .val (.ref r4)] [])) _
    refine XS.iload X18.here hx rfl (hb hby d1_12) rfl ?_
    refine XS.iloadN X18.here hx rfl (hb hby d1_14) rfl ?_
    refine XS.icmpNo X18.here hx rfl (hb hby d1_15) rfl (tlt (by decide : (2 : Int32) < (6 : Int32))).2.1 ?_
    refine XS.aloadN X18.here hx rfl (hb hby d1_18) rfl rfl ?_
    show Steps p.tables e below (T18.setTop (mkF m 19 #[.val (.int x0), .val .null, .val (.ref b4_0), .val (.int (6 : Int32)), .val (.int (2 : Int32)), .val (.ref r4)] [(.ref b4_0)])) _
    refine XS.iload X18.here hx rfl (hb hby d1_19) rfl ?_
    refine X18.aaload hx (j := (2 : Int32)) (v := (.ref r5)) (by rw [e18]; exact Arq20.1) (State.isArrayOf_alike hZ.alike Arq20.2.1) rfl Arq20.2.2 (inb_of Sq20 ⟨(by decide : ¬ ((2 : Int32) < (0 : Int32))), (by decide : (2 : Int32) < (6 : Int32))⟩) (Has.at Hq20 (inb_of Sq20 ⟨(by decide : ¬ ((2 : Int32) < (0 : Int32))), (by decide : (2 : Int32) < (6 : Int32))⟩) rfl) (g := (mkF m 21 #[.val (.int x0), .val .null, .val (.ref b4_0), .val (.int (6 : Int32)), .val (.int (2 : Int32)), .val (.ref r4)] [(.int (2 : Int32)), (.ref b4_0)])) rfl rfl (hb hby d1_21) _ ?_
    show Steps p.tables e below (T18.setTop (mkF m 22 #[.val (.int x0), .val .null, .val (.ref b4_0), .val (.int (6 : Int32)), .val (.int (2 : Int32)), .val (.ref r4)] [(.ref r5)])) _
    refine XS.astore X18.here hx rfl (hb hby d1_22) rfl rfl (l' := #[.val (.int x0), .val .null, .val (.ref b4_0), .val (.int (6 : Int32)), .val (.int (2 : Int32)), .val (.ref r5)]) rfl ?_
    refine XS.aload X18.here hx rfl (hb hby d1_24) rfl rfl ?_
    refine st23 _ ?_
    show Steps p.tables e below (T23.setTop (mkF m 29 #[.val (.int x0), .val .null, .val (.ref b4_0), .val (.int (6 : Int32)), .val (.int (2 : Int32)), .val (.ref r5)] [(.int (3 : Int32))])) _
    refine XS.iloadN X23.here hx rfl (hb hby d1_29) rfl ?_
    refine XS.icmpYes X23.here hx rfl (pc0 := 30) (pc' := 36) rfl (hb hby d1_30) rfl (feq hc24).2 (by decide) (by decide) ?_
    show Steps p.tables e below (T23.setTop (mkF m 36 #[.val (.int x0), .val .null, .val (.ref b4_0), .val (.int (6 : Int32)), .val (.int (2 : Int32)), .val (.ref r5)] [])) _
    refine XS.iinc X23.here hx rfl (hb hby d1_36) rfl (l' := #[.val (.int x0), .val .null, .val (.ref b4_0), .val (.int (6 : Int32)), .val (.int (3 : Int32)), .val (.ref r5)]) rfl ?_
    refine XS.goto X23.here hx rfl (pc0 := 39) (pc' := 12) rfl (hb hby d1_39) (by decide) (by decide) ?_
    show Steps p.tables e below (T23.setTop (mkF m 12 #[.val (.int x0), .val .null, .val (.ref b4_0), .val (.int (6 : Int32)), .val (.int (3 : Int32)), .val (.ref r5)] [])) _
    refine XS.iload X23.here hx rfl (hb hby d1_12) rfl ?_
    refine XS.iloadN X23.here hx rfl (hb hby d1_14) rfl ?_
    refine XS.icmpNo X23.here hx rfl (hb hby d1_15) rfl (tlt (by decide : (3 : Int32) < (6 : Int32))).2.1 ?_
    refine XS.aloadN X23.here hx rfl (hb hby d1_18) rfl rfl ?_
    show Steps p.tables e below (T23.setTop (mkF m 19 #[.val (.int x0), .val .null, .val (.ref b4_0), .val (.int (6 : Int32)), .val (.int (3 : Int32)), .val (.ref r5)] [(.ref b4_0)])) _
    refine XS.iload X23.here hx rfl (hb hby d1_19) rfl ?_
    refine X23.aaload hx (j := (3 : Int32)) (v := (.ref r6)) (by rw [e23]; exact Arq25.1) (State.isArrayOf_alike hZ.alike Arq25.2.1) rfl Arq25.2.2 (inb_of Sq25 ⟨(by decide : ¬ ((3 : Int32) < (0 : Int32))), (by decide : (3 : Int32) < (6 : Int32))⟩) (Has.at Hq25 (inb_of Sq25 ⟨(by decide : ¬ ((3 : Int32) < (0 : Int32))), (by decide : (3 : Int32) < (6 : Int32))⟩) rfl) (g := (mkF m 21 #[.val (.int x0), .val .null, .val (.ref b4_0), .val (.int (6 : Int32)), .val (.int (3 : Int32)), .val (.ref r5)] [(.int (3 : Int32)), (.ref b4_0)])) rfl rfl (hb hby d1_21) _ ?_
    show Steps p.tables e below (T23.setTop (mkF m 22 #[.val (.int x0), .val .null, .val (.ref b4_0), .val (.int (6 : Int32)), .val (.int (3 : Int32)), .val (.ref r5)] [(.ref r6)])) _
    refine XS.astore X23.here hx rfl (hb hby d1_22) rfl rfl (l' := #[.val (.int x0), .val .null, .val (.ref b4_0), .val (.int (6 : Int32)), .val (.int (3 : Int32)), .val (.ref r6)]) rfl ?_
    refine XS.aload X23.here hx rfl (hb hby d1_24) rfl rfl ?_
    refine st28 _ ?_
    show Steps p.tables e below (T28.setTop (mkF m 29 #[.val (.int x0), .val .null, .val (.ref b4_0), .val (.int (6 : Int32)), .val (.int (3 : Int32)), .val (.ref r6)] [(.int (4 : Int32))])) _
    refine XS.iloadN X28.here hx rfl (hb hby d1_29) rfl ?_
    refine XS.icmpYes X28.here hx rfl (pc0 := 30) (pc' := 36) rfl (hb hby d1_30) rfl (feq hc29).2 (by decide) (by decide) ?_
    show Steps p.tables e below (T28.setTop (mkF m 36 #[.val (.int x0), .val .null, .val (.ref b4_0), .val (.int (6 : Int32)), .val (.int (3 : Int32)), .val (.ref r6)] [])) _
    refine XS.iinc X28.here hx rfl (hb hby d1_36) rfl (l' := #[.val (.int x0), .val .null, .val (.ref b4_0), .val (.int (6 : Int32)), .val (.int (4 : Int32)), .val (.ref r6)]) rfl ?_
    refine XS.goto X28.here hx rfl (pc0 := 39) (pc' := 12) rfl (hb hby d1_39) (by decide) (by decide) ?_
    show Steps p.tables e below (T28.setTop (mkF m 12 #[.val (.int x0), .val .null, .val (.ref b4_0), .val (.int (6 : Int32)), .val (.int (4 : Int32)), .val (.ref r6)] [])) _
    refine XS.iload X28.here hx rfl (hb hby d1_12) rfl ?_
    refine XS.iloadN X28.here hx rfl (hb hby d1_14) rfl ?_
    refine XS.icmpNo X28.here hx rfl (hb hby d1_15) rfl (tlt (by decide : (4 : Int32) < (6 : Int32))).2.1 ?_
    refine XS.aloadN X28.here hx rfl (hb hby d1_18) rfl rfl ?_
    show Steps p.tables e below (T28.setTop (mkF m 19 #[.val (.int x0), .val .null, .val (.ref b4_0), .val (.int (6 : Int32)), .val (.int (4 : Int32)), .val (.ref r6)] [(.ref b4_0)])) _
    refine XS.iload X28.here hx rfl (hb hby d1_19) rfl ?_
    refine X28.aaload hx (j := (4 : Int32)) (v := (.ref r7)) (by rw [e28]; exact Arq30.1) (State.isArrayOf_alike hZ.alike Arq30.2.1) rfl Arq30.2.2 (inb_of Sq30 ⟨(by decide : ¬ ((4 : Int32) < (0 : Int32))), (by decide : (4 : Int32) < (6 : Int32))⟩) (Has.at Hq30 (inb_of Sq30 ⟨(by decide : ¬ ((4 : Int32) < (0 : Int32))), (by decide : (4 : Int32) < (6 : Int32))⟩) rfl) (g := (mkF m 21 #[.val (.int x0), .val .null, .val (.ref b4_0), .val (.int (6 : Int32)), .val (.int (4 : Int32)), .val (.ref r6)] [(.int (4 : Int32)), (.ref b4_0)])) rfl rfl (hb hby d1_21) _ ?_
    show Steps p.tables e below (T28.setTop (mkF m 22 #[.val (.int x0), .val .null, .val (.ref b4_0), .val (.int (6 : Int32)), .val (.int (4 : Int32)), .val (.ref r6)] [(.ref r7)])) _
    refine XS.astore X28.here hx rfl (hb hby d1_22) rfl rfl (l' := #[.val (.int x0), .val .null, .val (.ref b4_0), .val (.int (6 : Int32)), .val (.int (4 : Int32)), .val (.ref r7)]) rfl ?_
    refine XS.aload X28.here hx rfl (hb hby d1_24) rfl rfl ?_
    refine st33 _ ?_
    show Steps p.tables e below (T33.setTop (mkF m 29 #[.val (.int x0), .val .null, .val (.ref b4_0), .val (.int (6 : Int32)), .val (.int (4 : Int32)), .val (.ref r7)] [(.int (5 : Int32))])) _
    refine XS.iloadN X33.here hx rfl (hb hby d1_29) rfl ?_
    refine XS.icmpNo X33.here hx rfl (hb hby d1_30) rfl (teq hc34).2 ?_
    refine XS.aload X33.here hx rfl (hb hby d1_33) rfl rfl ?_
    refine XS.astoreN X33.here hx rfl (hb hby d1_35) rfl rfl (l' := #[.val (.int x0), .val (.ref r7), .val (.ref b4_0), .val (.int (6 : Int32)), .val (.int (4 : Int32)), .val (.ref r7)]) rfl ?_
    show Steps p.tables e below (T33.setTop (mkF m 36 #[.val (.int x0), .val (.ref r7), .val (.ref b4_0), .val (.int (6 : Int32)), .val (.int (4 : Int32)), .val (.ref r7)] [])) _
    refine XS.iinc X33.here hx rfl (hb hby d1_36) rfl (l' := #[.val (.int x0), .val (.ref r7), .val (.ref b4_0), .val (.int (6 : Int32)), .val (.int (5 : Int32)), .val (.ref r7)]) rfl ?_
    refine XS.goto X33.here hx rfl (pc0 := 39) (pc' := 12) rfl (hb hby d1_39) (by decide) (by decide) ?_
    show Steps p.tables e below (T33.setTop (mkF m 12 #[.val (.int x0), .val (.ref r7), .val (.ref b4_0), .val (.int (6 : Int32)), .val (.int (5 : Int32)), .val (.ref r7)] [])) _
    refine XS.iload X33.here hx rfl (hb hby d1_12) rfl ?_
    refine XS.iloadN X33.here hx rfl (hb hby d1_14) rfl ?_
    refine XS.icmpNo X33.here hx rfl (hb hby d1_15) rfl (tlt (by decide : (5 : Int32) < (6 : Int32))).2.1 ?_
    refine XS.aloadN X33.here hx rfl (hb hby d1_18) rfl rfl ?_
    show Steps p.tables e below (T33.setTop (mkF m 19 #[.val (.int x0), .val (.ref r7), .val (.ref b4_0), .val (.int (6 : Int32)), .val (.int (5 : Int32)), .val (.ref r7)] [(.ref b4_0)])) _
    refine XS.iload X33.here hx rfl (hb hby d1_19) rfl ?_
    refine X33.aaload hx (j := (5 : Int32)) (v := (.ref r8)) (by rw [e33]; exact Arq35.1) (State.isArrayOf_alike hZ.alike Arq35.2.1) rfl Arq35.2.2 (inb_of Sq35 ⟨(by decide : ¬ ((5 : Int32) < (0 : Int32))), (by decide : (5 : Int32) < (6 : Int32))⟩) (Has.at Hq35 (inb_of Sq35 ⟨(by decide : ¬ ((5 : Int32) < (0 : Int32))), (by decide : (5 : Int32) < (6 : Int32))⟩) rfl) (g := (mkF m 21 #[.val (.int x0), .val (.ref r7), .val (.ref b4_0), .val (.int (6 : Int32)), .val (.int (5 : Int32)), .val (.ref r7)] [(.int (5 : Int32)), (.ref b4_0)])) rfl rfl (hb hby d1_21) _ ?_
    show Steps p.tables e below (T33.setTop (mkF m 22 #[.val (.int x0), .val (.ref r7), .val (.ref b4_0), .val (.int (6 : Int32)), .val (.int (5 : Int32)), .val (.ref r7)] [(.ref r8)])) _
    refine XS.astore X33.here hx rfl (hb hby d1_22) rfl rfl (l' := #[.val (.int x0), .val (.ref r7), .val (.ref b4_0), .val (.int (6 : Int32)), .val (.int (5 : Int32)), .val (.ref r8)]) rfl ?_
    refine XS.aload X33.here hx rfl (hb hby d1_24) rfl rfl ?_
    refine st38 _ ?_
    show Steps p.tables e below (T38.setTop (mkF m 29 #[.val (.int x0), .val (.ref r7), .val (.ref b4_0), .val (.int (6 : Int32)), .val (.int (5 : Int32)), .val (.ref r8)] [(.int (6 : Int32))])) _
    refine XS.iloadN X38.here hx rfl (hb hby d1_29) rfl ?_
    refine XS.icmpYes X38.here hx rfl (pc0 := 30) (pc' := 36) rfl (hb hby d1_30) rfl (feq hc39).2 (by decide) (by decide) ?_
    show Steps p.tables e below (T38.setTop (mkF m 36 #[.val (.int x0), .val (.ref r7), .val (.ref b4_0), .val (.int (6 : Int32)), .val (.int (5 : Int32)), .val (.ref r8)] [])) _
    refine XS.iinc X38.here hx rfl (hb hby d1_36) rfl (l' := #[.val (.int x0), .val (.ref r7), .val (.ref b4_0), .val (.int (6 : Int32)), .val (.int (6 : Int32)), .val (.ref r8)]) rfl ?_
    refine XS.goto X38.here hx rfl (pc0 := 39) (pc' := 12) rfl (hb hby d1_39) (by decide) (by decide) ?_
    show Steps p.tables e below (T38.setTop (mkF m 12 #[.val (.int x0), .val (.ref r7), .val (.ref b4_0), .val (.int (6 : Int32)), .val (.int (6 : Int32)), .val (.ref r8)] [])) _
    refine XS.iload X38.here hx rfl (hb hby d1_12) rfl ?_
    refine XS.iloadN X38.here hx rfl (hb hby d1_14) rfl ?_
    refine XS.icmpYes X38.here hx rfl (pc0 := 15) (pc' := 42) rfl (hb hby d1_15) rfl (flt (by decide : ¬ ((6 : Int32) < (6 : Int32)))).2.1 (by decide) (by decide) ?_
    show Steps p.tables e below (T38.setTop (mkF m 42 #[.val (.int x0), .val (.ref r7), .val (.ref b4_0), .val (.int (6 : Int32)), .val (.int (6 : Int32)), .val (.ref r8)] [])) _
    refine XS.aloadN X38.here hx rfl (hb hby d1_42) rfl rfl ?_
    exact retOut X38 hx (i := .areturn) Bd.returns rfl (Or.inr (Or.inr (Or.inr (Or.inr ⟨rfl, rfl, rfl⟩)))) (hb hby d1_43) hr
  · show Q1_6 Z x0 r1 c2 r3 r4 r5 r6 r7 r8 h0 n0 _ T38.heap _
    rw [e38]
    exact ⟨rfl, N4, kp40⟩
theorem d3_41 : decode method_2_code 41 = .ok (.getstatic 22, 3) := by decide +kernel
theorem d3_44 : decode method_2_code 44 = .ok (.areturn, 1) := by decide +kernel
def Q3_6 (Z : State) (x0 : Int32) (r1 : Addr) (h0 : Heap) (n0 : Nat) (v : Option Value) (h : Heap) (L : List Loc) : Prop := v = some (.ref r1) ∧ Fr n0 L ∧ h = h0
set_option maxRecDepth 65536 in
set_option maxHeartbeats 40000000 in
theorem rm3_6 (l : Launch) (Z : State) (a0 : Array Value) (hw : ∀ d ∈ tables_1, d.before a0 Z = true) (ws : List Jvm.Cond) (x0 : Int32) (r1 : Addr) (h0 : Heap) (n0 : Nat) (O0 : Old Z n0 h0) (hc1 : ¬ (x0 = (1 : Int32))) (hc2 : ¬ (x0 = (2 : Int32))) (hc3 : ¬ (x0 = (3 : Int32))) (hc4 : ¬ (x0 = (4 : Int32))) (hc5 : x0 = (5 : Int32)) (f6 : Sta Z Z.heap cs0 "TEXT" cs5 (.ref r1)) :
    MetFree l (⟨cs4, "expected", cs3⟩ : MethodName) (head1 (Jvm.Cond.code (⟨cs4, "expected", cs3⟩ : MethodName) method_2_code 1 (some (.object cs0)) :: ws) ({ frames := 0, cells := 0, slots := 0, locals := 0 } : Room)) (fun a U => a = #[(.int x0)] ∧ Z.Warmed39 U.vm ∧ U.heap = h0) (fun _ _ _ _ _ => True) (fun _ U o U' => ∃ v L, o = .returned v ∧ Q3_6 Z x0 r1 h0 n0 v U'.heap L ∧ FrameEnd U o U' L ({ frames := 0, cells := 0, slots := 0, locals := 0 } : Room).cells ({ frames := 0, cells := 0, slots := 0, locals := 0 } : Room).slots) := by
  refine MetFree.of_bodySF (plainFor_of_name pn_com_example_wiregather_wiregather_wire_FieldTypeOfCodePinLaw) hisR ?_
  intro p e s m args below meth c s₁ Bd hml0 hP hK
  obtain ⟨rfl, hZ, hh⟩ := hP
  have hx := Bd.exec
  have hby := Bd.bytes
  have hml : c.maxLocals = 1 := hml0
  have hown : s.vm.findClass cs4 = some m.cls := findClass_of_methodNamed Bd.named
  have hnm := (name_of_methodNamed Bd.named Bd.method).1
  have X0 : Stand p l e ({ frames := 0, cells := 0, slots := 0, locals := 0 } : Room) s m #[(.int x0)] below meth c s₁ [] 0 0 := Stand.of_body Bd
  have e0 : s₁.heap = h0 := by rw [← hh, Bd.state]; rfl
  have N0 := Fr.nil n0
  have pre0 : ∀ t, Steps p.tables e below (s₁.setTop (mkF m 0 #[.val (.int x0)] [])) t → Steps p.tables e below (s₁.setTop (entryFrame m #[(.int x0)] 1)) t := fun t k => castTop (by first | (simp [entryFrame, mkF, argsToLocals, Value.category]; done) | rfl) k
  have f7 := f6.ext O0.2
  obtain ⟨T8, X8, e8, st8⟩ := getS2 X0 hx hZ hown (host := "") (Or.inl (ww hw 34 rfl)) Via.refl e0 f7 (g := (mkF m 41 #[.val (.int x0)] [])) rfl (hb hby d3_41)
  obtain ⟨fs, hr, hrun, hended, hW, hsame⟩ := X8.leave (v := some (.ref r1)) (fun h => by rw [Bd.returns] at h; cases h)
  refine ⟨_, _, pre0 _ ?_, hrun, hended, _, _, rfl, ?_, ⟨_, rfl⟩, hW, hsame.mono (by decide) (by decide)⟩
  · show Steps p.tables e below (s₁.setTop (mkF m 0 #[.val (.int x0)] [])) _
    refine XS.iloadN X0.here hx rfl (hb hby d3_0) rfl ?_
    refine XS.iconst X0.here hx rfl (hb hby d3_1) ?_
    refine XS.icmpYes X0.here hx rfl (pc0 := 2) (pc' := 9) rfl (hb hby d3_2) rfl (feq hc1).2 (by decide) (by decide) ?_
    show Steps p.tables e below (s₁.setTop (mkF m 9 #[.val (.int x0)] [])) _
    refine XS.iloadN X0.here hx rfl (hb hby d3_9) rfl ?_
    refine XS.iconst X0.here hx rfl (hb hby d3_10) ?_
    refine XS.icmpYes X0.here hx rfl (pc0 := 11) (pc' := 18) rfl (hb hby d3_11) rfl (feq hc2).2 (by decide) (by decide) ?_
    show Steps p.tables e below (s₁.setTop (mkF m 18 #[.val (.int x0)] [])) _
    refine XS.iloadN X0.here hx rfl (hb hby d3_18) rfl ?_
    refine XS.iconst X0.here hx rfl (hb hby d3_19) ?_
    refine XS.icmpYes X0.here hx rfl (pc0 := 20) (pc' := 27) rfl (hb hby d3_20) rfl (feq hc3).2 (by decide) (by decide) ?_
    show Steps p.tables e below (s₁.setTop (mkF m 27 #[.val (.int x0)] [])) _
    refine XS.iloadN X0.here hx rfl (hb hby d3_27) rfl ?_
    refine XS.iconst X0.here hx rfl (hb hby d3_28) ?_
    refine XS.icmpYes X0.here hx rfl (pc0 := 29) (pc' := 36) rfl (hb hby d3_29) rfl (feq hc4).2 (by decide) (by decide) ?_
    show Steps p.tables e below (s₁.setTop (mkF m 36 #[.val (.int x0)] [])) _
    refine XS.iloadN X0.here hx rfl (hb hby d3_36) rfl ?_
    refine XS.iconst X0.here hx rfl (hb hby d3_37) ?_
    refine XS.icmpNo X0.here hx rfl (hb hby d3_38) rfl (teq hc5).2 ?_
    refine st8 _ ?_
    show Steps p.tables e below (T8.setTop (mkF m 44 #[.val (.int x0)] [(.ref r1)])) _
    exact retOut X8 hx (i := .areturn) Bd.returns rfl (Or.inr (Or.inr (Or.inr (Or.inr ⟨rfl, rfl, rfl⟩)))) (hb hby d3_44) hr
  · show Q3_6 Z x0 r1 h0 n0 _ T8.heap _
    rw [e8]
    exact ⟨rfl, N0, rfl⟩
def Q0_6 (Z : State) (x0 : Int32) (x1 : Int32) (r2 : Addr) (c3 : ClassId) (r4 : Addr) (r5 : Addr) (r6 : Addr) (r7 : Addr) (r8 : Addr) (r9 : Addr) (h0 : Heap) (n0 : Nat) (v : Option Value) (h : Heap) (L : List Loc) : Prop := v = some (.int (1 : Int32)) ∧ Fr n0 L
set_option maxRecDepth 65536 in
set_option maxHeartbeats 40000000 in
theorem rm0_6 (l : Launch) (Z : State) (a0 : Array Value) (hw : ∀ d ∈ tables_1, d.before a0 Z = true) (ws : List Jvm.Cond) (x0 : Int32) (x1 : Int32) (r2 : Addr) (c3 : ClassId) (r4 : Addr) (r5 : Addr) (r6 : Addr) (r7 : Addr) (r8 : Addr) (r9 : Addr) (h0 : Heap) (n0 : Nat) (O0 : Old Z n0 h0) (f1 : Sta Z Z.heap cs0 "$VALUES" cs1 (.ref r2)) (f2 : Exa Z Z.heap r2 cs1) (f3 : Arv Z Z.heap r2 c3 (.object cs0) (6 : Int32) [(.ref r4), (.ref r5), (.ref r6), (.ref r7), (.ref r8), (.ref r9)] .null) (f4 : Fld Z Z.heap r4 cs0 "code" "I" (.int (1 : Int32))) (hc5 : (1 : Int32) = x0) (f6 : Fld Z Z.heap r5 cs0 "code" "I" (.int (2 : Int32))) (hc7 : ¬ ((2 : Int32) = x0)) (f8 : Fld Z Z.heap r6 cs0 "code" "I" (.int (3 : Int32))) (hc9 : ¬ ((3 : Int32) = x0)) (f10 : Fld Z Z.heap r7 cs0 "code" "I" (.int (4 : Int32))) (hc11 : ¬ ((4 : Int32) = x0)) (f12 : Fld Z Z.heap r8 cs0 "code" "I" (.int (5 : Int32))) (hc13 : ¬ ((5 : Int32) = x0)) (f14 : Fld Z Z.heap r9 cs0 "code" "I" (.int (6 : Int32))) (hc15 : ¬ ((6 : Int32) = x0)) (hc17 : ¬ ((1 : Int32) = (x1 &&& (7 : Int32)))) (hc18 : ¬ ((2 : Int32) = (x1 &&& (7 : Int32)))) (hc19 : ¬ ((3 : Int32) = (x1 &&& (7 : Int32)))) (hc20 : ¬ ((4 : Int32) = (x1 &&& (7 : Int32)))) (hc21 : (5 : Int32) = (x1 &&& (7 : Int32))) (hc22 : ¬ ((6 : Int32) = (x1 &&& (7 : Int32)))) (hc25 : x0 = (1 : Int32)) (f26 : Sta Z Z.heap cs0 "I32" cs5 (.ref r4)) (hc29 : ¬ ((x1 &&& (7 : Int32)) = (1 : Int32))) (hc30 : ¬ ((x1 &&& (7 : Int32)) = (2 : Int32))) (hc31 : ¬ ((x1 &&& (7 : Int32)) = (3 : Int32))) (hc32 : ¬ ((x1 &&& (7 : Int32)) = (4 : Int32))) (hc33 : (x1 &&& (7 : Int32)) = (5 : Int32)) (f34 : Sta Z Z.heap cs0 "TEXT" cs5 (.ref r8)) :
    MetFree l x (head1 (Jvm.Cond.code x code maxLocals ret :: ws) room_1) (fun a U => a = #[(.int x0), (.int x1)] ∧ Z.Warmed39 U.vm ∧ U.heap = h0) (fun _ _ _ _ _ => True) (fun _ U o U' => ∃ v L, o = .returned v ∧ Q0_6 Z x0 x1 r2 c3 r4 r5 r6 r7 r8 r9 h0 n0 v U'.heap L ∧ FrameEnd U o U' L room_1.cells room_1.slots) := by
  refine MetFree.of_bodySF (plainFor_of_name pn_com_example_wiregather_wiregather_wire_FieldTypeOfCodePinLaw) hisR ?_
  intro p e s m args below meth c s₁ Bd hml0 hP hK
  obtain ⟨rfl, hZ, hh⟩ := hP
  have hx := Bd.exec
  have hby := Bd.bytes
  have hml : c.maxLocals = 5 := hml0
  have hown : s.vm.findClass cs4 = some m.cls := findClass_of_methodNamed Bd.named
  have hnm := (name_of_methodNamed Bd.named Bd.method).1
  have X0 : Stand p l e room_1 s m #[(.int x0), (.int x1)] below meth c s₁ [] 0 0 := Stand.of_body Bd
  have e0 : s₁.heap = h0 := by rw [← hh, Bd.state]; rfl
  have N0 := Fr.nil n0
  have pre0 : ∀ t, Steps p.tables e below (s₁.setTop (mkF m 0 #[.val (.int x0), .val (.int x1), .unset, .unset, .unset] [])) t → Steps p.tables e below (s₁.setTop (entryFrame m #[(.int x0), (.int x1)] maxLocals)) t := fun t k => castTop (by first | (simp [entryFrame, mkF, argsToLocals, Value.category, maxLocals]; done) | rfl) k
  obtain ⟨_, _, ⟨T16, L16, k16, n16⟩, -, X16, ⟨Lc16, hQ16, l16, y16, z16⟩, st16⟩ := Jvm.LawKit.callS X0 hx (y := (⟨cs0, "ofCode", cs3⟩ : MethodName)) hown (mvT hZ (ww hw 0 rfl)) (mvT hZ (ww hw 1 rfl)) (mvT hZ (ww hw 2 rfl)) (mvT hZ (ww hw 3 rfl)) (by decide) (backOf (W := 0) (rm1_1 l Z a0 hw [] x0 r2 c3 r4 r5 r6 r7 r8 r9 h0 n0 O0 f1 f2 f3 f4 hc5 f6 hc7 f8 hc9 f10 hc11 f12 hc13 f14 hc15) hZ (ww hw 3 rfl) (ww hw 2 rfl) (by decide) (by decide)) (g := (mkF m 6 #[.val (.int x0), .val (.int x1), .val (.int (x1 &&& (7 : Int32))), .unset, .unset] [(.int x0)])) rfl (by rw [hml]; rfl) (argsL := [(.int x0)]) (rest := []) (lenOf pd__I_Lcom_example_wiregather_wiregather_wire_FieldType_ rfl) rfl (by show 2 * 0 + _ ≤ _; exact Nat.le_of_eq rfl) (hb hby at_6) (fun _ _ => ⟨rfl, e0, (by decide : 0 + 1 ≤ _), (by decide : 0 + 6 ≤ _)⟩)
  dsimp only [Pt.U, Pt.locs, Pt.cells, Pt.slots] at X16 l16 y16 z16 st16 hQ16
  subst l16 y16 z16
  obtain ⟨rfl, N16q, K16⟩ := hQ16
  have N16 := Fr.app N0 N16q
  have o23 := Old.keep O0 K16 all0
  obtain ⟨_, _, ⟨T24, L24, k24, n24⟩, -, X24, ⟨Lc24, hQ24, l24, y24, z24⟩, st24⟩ := Jvm.LawKit.callS X16 hx (y := (⟨cs0, "ofCode", cs3⟩ : MethodName)) hown (mvT hZ (ww hw 0 rfl)) (mvT hZ (ww hw 1 rfl)) (mvT hZ (ww hw 2 rfl)) (mvT hZ (ww hw 3 rfl)) (by decide) (backOf (W := 0) (rm1_6 l Z a0 hw [] (x1 &&& (7 : Int32)) r2 c3 r4 r5 r6 r7 r8 r9 T16.heap n0 o23 f1 f2 f3 f4 hc17 f6 hc18 f8 hc19 f10 hc20 f12 hc21 f14 hc22) hZ (ww hw 3 rfl) (ww hw 2 rfl) (by decide) (by decide)) (g := (mkF m 11 #[.val (.int x0), .val (.int x1), .val (.int (x1 &&& (7 : Int32))), .val (.ref r4), .unset] [(.int (x1 &&& (7 : Int32)))])) rfl (by rw [hml]; rfl) (argsL := [(.int (x1 &&& (7 : Int32)))]) (rest := []) (lenOf pd__I_Lcom_example_wiregather_wiregather_wire_FieldType_ rfl) rfl (by show 2 * 0 + _ ≤ _; exact Nat.le_of_eq rfl) (hb hby at_11) (fun _ _ => ⟨rfl, rfl, (by decide : 1 + 1 ≤ _), (by decide : 6 + 6 ≤ _)⟩)
  dsimp only [Pt.U, Pt.locs, Pt.cells, Pt.slots] at X24 l24 y24 z24 st24 hQ24
  subst l24 y24 z24
  obtain ⟨rfl, N24q, K24⟩ := hQ24
  have N24 := Fr.app N16 N24q
  have o27 := Old.keep o23 K24 all0
  obtain ⟨_, _, ⟨T28, L28, k28, n28⟩, -, X28, ⟨Lc28, hQ28, l28, y28, z28⟩, st28⟩ := Jvm.LawKit.callS X24 hx (y := (⟨cs4, "expected", cs3⟩ : MethodName)) hown (mvT hZ (ww hw 27 rfl)) (mvT hZ (ww hw 28 rfl)) (mvT hZ (ww hw 29 rfl)) (mvT hZ (ww hw 30 rfl)) (by decide) (backOf (W := 1) (rm3_1 l Z a0 hw [] x0 r4 T24.heap n0 o27 hc25 f26) hZ (ww hw 30 rfl) (ww hw 29 rfl) (by decide) (by decide)) (g := (mkF m 18 #[.val (.int x0), .val (.int x1), .val (.int (x1 &&& (7 : Int32))), .val (.ref r4), .val (.ref r8)] [(.int x0), (.ref r4)])) rfl (by rw [hml]; rfl) (argsL := [(.int x0)]) (rest := [(.ref r4)]) (lenOf pd__I_Lcom_example_wiregather_wiregather_wire_FieldType_ rfl) rfl (by show 2 * 0 + _ ≤ _; exact Nat.le_of_eq rfl) (hb hby at_18) (fun _ _ => ⟨rfl, rfl, (by decide : 2 + 0 ≤ _), (by decide : 12 + 0 ≤ _)⟩)
  dsimp only [Pt.U, Pt.locs, Pt.cells, Pt.slots] at X28 l28 y28 z28 st28 hQ28
  subst l28 y28 z28
  obtain ⟨rfl, N28q, E28⟩ := hQ28
  have N28 := Fr.app N24 N28q
  obtain ⟨_, _, ⟨T35, L35, k35, n35⟩, -, X35, ⟨Lc35, hQ35, l35, y35, z35⟩, st35⟩ := Jvm.LawKit.callS X28 hx (y := (⟨cs4, "expected", cs3⟩ : MethodName)) hown (mvT hZ (ww hw 27 rfl)) (mvT hZ (ww hw 28 rfl)) (mvT hZ (ww hw 29 rfl)) (mvT hZ (ww hw 30 rfl)) (by decide) (backOf (W := 1) (rm3_6 l Z a0 hw [] (x1 &&& (7 : Int32)) r8 T24.heap n0 o27 hc29 hc30 hc31 hc32 hc33 f34) hZ (ww hw 30 rfl) (ww hw 29 rfl) (by decide) (by decide)) (g := (mkF m 27 #[.val (.int x0), .val (.int x1), .val (.int (x1 &&& (7 : Int32))), .val (.ref r4), .val (.ref r8)] [(.int (x1 &&& (7 : Int32))), (.ref r8)])) rfl (by rw [hml]; rfl) (argsL := [(.int (x1 &&& (7 : Int32)))]) (rest := [(.ref r8)]) (lenOf pd__I_Lcom_example_wiregather_wiregather_wire_FieldType_ rfl) rfl (by show 2 * 0 + _ ≤ _; exact Nat.le_of_eq rfl) (hb hby at_27) (fun _ _ => ⟨rfl, E28, (by decide : 2 + 0 ≤ _), (by decide : 12 + 0 ≤ _)⟩)
  dsimp only [Pt.U, Pt.locs, Pt.cells, Pt.slots] at X35 l35 y35 z35 st35 hQ35
  subst l35 y35 z35
  obtain ⟨rfl, N35q, E35⟩ := hQ35
  have N35 := Fr.app N28 N35q
  obtain ⟨fs, hr, hrun, hended, hW, hsame⟩ := X35.leave (v := some (.int (1 : Int32))) (fun h => by rw [Bd.returns] at h; cases h)
  refine ⟨_, _, pre0 _ ?_, hrun, hended, _, _, rfl, ?_, ⟨_, rfl⟩, hW, hsame.mono (by decide) (by decide)⟩
  · show Steps p.tables e below (s₁.setTop (mkF m 0 #[.val (.int x0), .val (.int x1), .unset, .unset, .unset] [])) _
    refine XS.iloadN X0.here hx rfl (hb hby at_0) rfl ?_
    refine XS.bipush X0.here hx rfl (hb hby at_1) ?_
    refine XS.iand X0.here hx rfl (hb hby at_3) rfl ?_
    refine XS.istoreN X0.here hx rfl (hb hby at_4) rfl (l' := #[.val (.int x0), .val (.int x1), .val (.int (x1 &&& (7 : Int32))), .unset, .unset]) rfl ?_
    show Steps p.tables e below (s₁.setTop (mkF m 5 #[.val (.int x0), .val (.int x1), .val (.int (x1 &&& (7 : Int32))), .unset, .unset] [])) _
    refine XS.iloadN X0.here hx rfl (hb hby at_5) rfl ?_
    refine st16 _ ?_
    show Steps p.tables e below (T16.setTop (mkF m 9 #[.val (.int x0), .val (.int x1), .val (.int (x1 &&& (7 : Int32))), .unset, .unset] [(.ref r4)])) _
    refine XS.astoreN X16.here hx rfl (hb hby at_9) rfl rfl (l' := #[.val (.int x0), .val (.int x1), .val (.int (x1 &&& (7 : Int32))), .val (.ref r4), .unset]) rfl ?_
    refine XS.iloadN X16.here hx rfl (hb hby at_10) rfl ?_
    refine st24 _ ?_
    show Steps p.tables e below (T24.setTop (mkF m 14 #[.val (.int x0), .val (.int x1), .val (.int (x1 &&& (7 : Int32))), .val (.ref r4), .unset] [(.ref r8)])) _
    refine XS.astore X24.here hx rfl (hb hby at_14) rfl rfl (l' := #[.val (.int x0), .val (.int x1), .val (.int (x1 &&& (7 : Int32))), .val (.ref r4), .val (.ref r8)]) rfl ?_
    refine XS.aloadN X24.here hx rfl (hb hby at_16) rfl rfl ?_
    refine XS.iloadN X24.here hx rfl (hb hby at_17) rfl ?_
    refine st28 _ ?_
    show Steps p.tables e below (T28.setTop (mkF m 21 #[.val (.int x0), .val (.int x1), .val (.int (x1 &&& (7 : Int32))), .val (.ref r4), .val (.ref r8)] [(.ref r4), (.ref r4)])) _
    refine Jvm.RoadKit.acmp (g := (mkF m 21 #[.val (.int x0), .val (.int x1), .val (.int (x1 &&& (7 : Int32))), .val (.ref r4), .val (.ref r8)] [(.ref r4), (.ref r4)])) X28 hx rfl rfl rfl (pc0 := 21) (pc' := 24) (same := true) rfl (hb hby at_21) rfl (decide_eq_true rfl) (by decide) (by decide) ?_
    show Steps p.tables e below (T28.setTop (mkF m 24 #[.val (.int x0), .val (.int x1), .val (.int (x1 &&& (7 : Int32))), .val (.ref r4), .val (.ref r8)] [])) _
    refine XS.aload X28.here hx rfl (hb hby at_24) rfl rfl ?_
    refine XS.iloadN X28.here hx rfl (hb hby at_26) rfl ?_
    refine st35 _ ?_
    show Steps p.tables e below (T35.setTop (mkF m 30 #[.val (.int x0), .val (.int x1), .val (.int (x1 &&& (7 : Int32))), .val (.ref r4), .val (.ref r8)] [(.ref r8), (.ref r8)])) _
    refine Jvm.RoadKit.acmp (g := (mkF m 30 #[.val (.int x0), .val (.int x1), .val (.int (x1 &&& (7 : Int32))), .val (.ref r4), .val (.ref r8)] [(.ref r8), (.ref r8)])) X35 hx rfl rfl rfl (pc0 := 30) (pc' := 33) (same := true) rfl (hb hby at_30) rfl (decide_eq_true rfl) (by decide) (by decide) ?_
    show Steps p.tables e below (T35.setTop (mkF m 33 #[.val (.int x0), .val (.int x1), .val (.int (x1 &&& (7 : Int32))), .val (.ref r4), .val (.ref r8)] [])) _
    refine XS.iconst X35.here hx rfl (hb hby at_33) ?_
    refine XS.goto X35.here hx rfl (pc0 := 34) (pc' := 38) rfl (hb hby at_34) (by decide) (by decide) ?_
    show Steps p.tables e below (T35.setTop (mkF m 38 #[.val (.int x0), .val (.int x1), .val (.int (x1 &&& (7 : Int32))), .val (.ref r4), .val (.ref r8)] [(.int (1 : Int32))])) _
    exact retN X35 hx (t := .boolean) Bd.returns (by simp) (hb hby at_38) hr
  · show Q0_6 Z x0 x1 r2 c3 r4 r5 r6 r7 r8 r9 h0 n0 _ T35.heap _
    rw [E35]
    exact ⟨rfl, N35⟩
def Q1_7 (Z : State) (x0 : Int32) (r1 : Addr) (c2 : ClassId) (r3 : Addr) (r4 : Addr) (r5 : Addr) (r6 : Addr) (r7 : Addr) (r8 : Addr) (h0 : Heap) (n0 : Nat) (v : Option Value) (h : Heap) (L : List Loc) : Prop := v = some (.ref r8) ∧ Fr n0 L ∧ Keep h0 h []
set_option maxRecDepth 65536 in
set_option maxHeartbeats 40000000 in
theorem rm1_7 (l : Launch) (Z : State) (a0 : Array Value) (hw : ∀ d ∈ tables_1, d.before a0 Z = true) (ws : List Jvm.Cond) (x0 : Int32) (r1 : Addr) (c2 : ClassId) (r3 : Addr) (r4 : Addr) (r5 : Addr) (r6 : Addr) (r7 : Addr) (r8 : Addr) (h0 : Heap) (n0 : Nat) (O0 : Old Z n0 h0) (f1 : Sta Z Z.heap cs0 "$VALUES" cs1 (.ref r1)) (f2 : Exa Z Z.heap r1 cs1) (f3 : Arv Z Z.heap r1 c2 (.object cs0) (6 : Int32) [(.ref r3), (.ref r4), (.ref r5), (.ref r6), (.ref r7), (.ref r8)] .null) (f10 : Fld Z Z.heap r3 cs0 "code" "I" (.int (1 : Int32))) (hc14 : ¬ ((1 : Int32) = x0)) (f16 : Fld Z Z.heap r4 cs0 "code" "I" (.int (2 : Int32))) (hc19 : ¬ ((2 : Int32) = x0)) (f21 : Fld Z Z.heap r5 cs0 "code" "I" (.int (3 : Int32))) (hc24 : ¬ ((3 : Int32) = x0)) (f26 : Fld Z Z.heap r6 cs0 "code" "I" (.int (4 : Int32))) (hc29 : ¬ ((4 : Int32) = x0)) (f31 : Fld Z Z.heap r7 cs0 "code" "I" (.int (5 : Int32))) (hc34 : ¬ ((5 : Int32) = x0)) (f36 : Fld Z Z.heap r8 cs0 "code" "I" (.int (6 : Int32))) (hc39 : (6 : Int32) = x0) :
    MetFree l (⟨cs0, "ofCode", cs3⟩ : MethodName) (head1 (Jvm.Cond.code (⟨cs0, "ofCode", cs3⟩ : MethodName) prog_72_method_7_code 6 (some (.object cs0)) :: ws) ({ frames := 2, cells := 1, slots := 6, locals := 25 } : Room)) (fun a U => a = #[(.int x0)] ∧ Z.Warmed39 U.vm ∧ U.heap = h0) (fun _ _ _ _ _ => True) (fun _ U o U' => ∃ v L, o = .returned v ∧ Q1_7 Z x0 r1 c2 r3 r4 r5 r6 r7 r8 h0 n0 v U'.heap L ∧ FrameEnd U o U' L ({ frames := 2, cells := 1, slots := 6, locals := 25 } : Room).cells ({ frames := 2, cells := 1, slots := 6, locals := 25 } : Room).slots) := by
  refine MetFree.of_bodySF (plainFor_of_name pn_com_example_wiregather_wiregather_wire_FieldType) hisR ?_
  intro p e s m args below meth c s₁ Bd hml0 hP hK
  obtain ⟨rfl, hZ, hh⟩ := hP
  have hx := Bd.exec
  have hby := Bd.bytes
  have hml : c.maxLocals = 6 := hml0
  have hown : s.vm.findClass cs0 = some m.cls := findClass_of_methodNamed Bd.named
  have hnm := (name_of_methodNamed Bd.named Bd.method).1
  have X0 : Stand p l e ({ frames := 2, cells := 1, slots := 6, locals := 25 } : Room) s m #[(.int x0)] below meth c s₁ [] 0 0 := Stand.of_body Bd
  have e0 : s₁.heap = h0 := by rw [← hh, Bd.state]; rfl
  have N0 := Fr.nil n0
  have pre0 : ∀ t, Steps p.tables e below (s₁.setTop (mkF m 0 #[.val (.int x0), .unset, .unset, .unset, .unset, .unset] [])) t → Steps p.tables e below (s₁.setTop (entryFrame m #[(.int x0)] 6)) t := fun t k => castTop (by first | (simp [entryFrame, mkF, argsToLocals, Value.category]; done) | rfl) k
  obtain ⟨_, _, ⟨T4, L4, k4, n4⟩, -, X4, ⟨Lc4, hQ4, l4, y4, z4⟩, st4⟩ := Jvm.LawKit.callS X0 hx (y := (⟨cs0, "values", cs2⟩ : MethodName)) hown (mvT hZ (ww hw 4 rfl)) (mvT hZ (ww hw 5 rfl)) (mvT hZ (ww hw 2 rfl)) (mvT hZ (ww hw 6 rfl)) (by decide) (backOf (W := 0) (rm2_1 l Z a0 hw [] r1 c2 r3 r4 r5 r6 r7 r8 h0 n0 O0 f1 f2 f3) hZ (ww hw 6 rfl) (ww hw 2 rfl) (by decide) (by decide)) (g := (mkF m 2 #[.val (.int x0), .val .null, .unset, .unset, .unset, .unset] [])) rfl (by rw [hml]; rfl) (argsL := []) (rest := []) (lenOf pd____Lcom_example_wiregather_wiregather_wire_FieldType_ rfl) rfl (by show 2 * 0 + _ ≤ _; exact Nat.le_of_eq rfl) (hb hby d1_2) (fun _ _ => ⟨rfl, e0, (by decide : 0 + 1 ≤ _), (by decide : 0 + 6 ≤ _)⟩)
  dsimp only [Pt.U, Pt.locs, Pt.cells, Pt.slots] at X4 l4 y4 z4 st4 hQ4
  subst l4 y4 z4
  obtain ⟨b4_0, rfl, N4q, K4, f5, f6, f7⟩ := hQ4
  have N4 := Fr.app N0 N4q
  obtain ⟨clq8, Arq8, qq8, Sq8, Nq8, Hq8, Gq8⟩ := id f7
  obtain ⟨clq9, Arq9, qq9, Sq9, Nq9, Hq9, Gq9⟩ := id f7
  have o11 := Old.keep O0 K4 all0
  have f12 := f10.ext o11.2
  obtain ⟨T13, X13, e13, st13⟩ := getF X4 hx hZ hown (host := "") (Or.inl (ww hw 25 rfl)) Via.refl rfl f12 (g := (mkF m 26 #[.val (.int x0), .val .null, .val (.ref b4_0), .val (.int (6 : Int32)), .val (.int (0 : Int32)), .val (.ref r3)] [(.ref r3)])) rfl rfl (hb hby d1_26)
  obtain ⟨clq15, Arq15, qq15, Sq15, Nq15, Hq15, Gq15⟩ := id f7
  have f17 := f16.ext o11.2
  obtain ⟨T18, X18, e18, st18⟩ := getF X13 hx hZ hown (host := "") (Or.inl (ww hw 25 rfl)) Via.refl e13 f17 (g := (mkF m 26 #[.val (.int x0), .val .null, .val (.ref b4_0), .val (.int (6 : Int32)), .val (.int (1 : Int32)), .val (.ref r4)] [(.ref r4)])) rfl rfl (hb hby d1_26)
  obtain ⟨clq20, Arq20, qq20, Sq20, Nq20, Hq20, Gq20⟩ := id f7
  have f22 := f21.ext o11.2
  obtain ⟨T23, X23, e23, st23⟩ := getF X18 hx hZ hown (host := "") (Or.inl (ww hw 25 rfl)) Via.refl e18 f22 (g := (mkF m 26 #[.val (.int x0), .val .null, .val (.ref b4_0), .val (.int (6 : Int32)), .val (.int (2 : Int32)), .val (.ref r5)] [(.ref r5)])) rfl rfl (hb hby d1_26)
  obtain ⟨clq25, Arq25, qq25, Sq25, Nq25, Hq25, Gq25⟩ := id f7
  have f27 := f26.ext o11.2
  obtain ⟨T28, X28, e28, st28⟩ := getF X23 hx hZ hown (host := "") (Or.inl (ww hw 25 rfl)) Via.refl e23 f27 (g := (mkF m 26 #[.val (.int x0), .val .null, .val (.ref b4_0), .val (.int (6 : Int32)), .val (.int (3 : Int32)), .val (.ref r6)] [(.ref r6)])) rfl rfl (hb hby d1_26)
  obtain ⟨clq30, Arq30, qq30, Sq30, Nq30, Hq30, Gq30⟩ := id f7
  have f32 := f31.ext o11.2
  obtain ⟨T33, X33, e33, st33⟩ := getF X28 hx hZ hown (host := "") (Or.inl (ww hw 25 rfl)) Via.refl e28 f32 (g := (mkF m 26 #[.val (.int x0), .val .null, .val (.ref b4_0), .val (.int (6 : Int32)), .val (.int (4 : Int32)), .val (.ref r7)] [(.ref r7)])) rfl rfl (hb hby d1_26)
  obtain ⟨clq35, Arq35, qq35, Sq35, Nq35, Hq35, Gq35⟩ := id f7
  have f37 := f36.ext o11.2
  obtain ⟨T38, X38, e38, st38⟩ := getF X33 hx hZ hown (host := "") (Or.inl (ww hw 25 rfl)) Via.refl e33 f37 (g := (mkF m 26 #[.val (.int x0), .val .null, .val (.ref b4_0), .val (.int (6 : Int32)), .val (.int (5 : Int32)), .val (.ref r8)] [(.ref r8)])) rfl rfl (hb hby d1_26)
  have kp40 : Keep h0 T4.heap [] := (Keep.refl h0 []).trans K4 all0
  obtain ⟨fs, hr, hrun, hended, hW, hsame⟩ := X38.leave (v := some (.ref r8)) (fun h => by rw [Bd.returns] at h; cases h)
  refine ⟨_, _, pre0 _ ?_, hrun, hended, _, _, rfl, ?_, ⟨_, rfl⟩, hW, hsame.mono (by decide) (by decide)⟩
  · show Steps p.tables e below (s₁.setTop (mkF m 0 #[.val (.int x0), .unset, .unset, .unset, .unset, .unset] [])) _
    refine XS.aconstNull X0.here hx rfl (hb hby d1_0) ?_
    refine XS.astoreN X0.here hx rfl (hb hby d1_1) rfl rfl (l' := #[.val (.int x0), .val .null, .unset, .unset, .unset, .unset]) rfl ?_
    refine st4 _ ?_
    show Steps p.tables e below (T4.setTop (mkF m 5 #[.val (.int x0), .val .null, .unset, .unset, .unset, .unset] [(.ref b4_0)])) _
    refine XS.astoreN X4.here hx rfl (hb hby d1_5) rfl rfl (l' := #[.val (.int x0), .val .null, .val (.ref b4_0), .unset, .unset, .unset]) rfl ?_
    refine XS.aloadN X4.here hx rfl (hb hby d1_6) rfl rfl ?_
    refine X4.arraylength hx (Arq8.1) (State.isArrayOf_alike hZ.alike Arq8.2.1) (g := (mkF m 7 #[.val (.int x0), .val .null, .val (.ref b4_0), .unset, .unset, .unset] [(.ref b4_0)])) rfl rfl (hb hby d1_7) _ ?_
    rw [len_of Sq8 Nq8]
    show Steps p.tables e below (T4.setTop (mkF m 8 #[.val (.int x0), .val .null, .val (.ref b4_0), .unset, .unset, .unset] [(.int (6 : Int32))])) _
    refine XS.istoreN X4.here hx rfl (hb hby d1_8) rfl (l' := #[.val (.int x0), .val .null, .val (.ref b4_0), .val (.int (6 : Int32)), .unset, .unset]) rfl ?_
    refine XS.iconst X4.here hx rfl (hb hby d1_9) ?_
    refine XS.istore X4.here hx rfl (hb hby d1_10) rfl (l' := #[.val (.int x0), .val .null, .val (.ref b4_0), .val (.int (6 : Int32)), .val (.int (0 : Int32)), .unset]) rfl ?_
    refine XS.iload X4.here hx rfl (hb hby d1_12) rfl ?_
    show Steps p.tables e below (T4.setTop (mkF m 14 #[.val (.int x0), .val .null, .val (.ref b4_0), .val (.int (6 : Int32)), .val (.int (0 : Int32)), .unset] [(.int (0 : Int32))])) _
    refine XS.iloadN X4.here hx rfl (hb hby d1_14) rfl ?_
    refine XS.icmpNo X4.here hx rfl (hb hby d1_15) rfl (tlt (by decide : (0 : Int32) < (6 : Int32))).2.1 ?_
    refine XS.aloadN X4.here hx rfl (hb hby d1_18) rfl rfl ?_
    refine XS.iload X4.here hx rfl (hb hby d1_19) rfl ?_
    show Steps p.tables e below (T4.setTop (mkF m 21 #[.val (.int x0), .val .null, .val (.ref b4_0), .val (.int (6 : Int32)), .val (.int (0 : Int32)), .unset] [(.int (0 : Int32)), (.ref b4_0)])) _
    refine X4.aaload hx (j := (0 : Int32)) (v := (.ref r3)) (Arq9.1) (State.isArrayOf_alike hZ.alike Arq9.2.1) rfl Arq9.2.2 (inb_of Sq9 ⟨(by decide : ¬ ((0 : Int32) < (0 : Int32))), (by decide : (0 : Int32) < (6 : Int32))⟩) (Has.at Hq9 (inb_of Sq9 ⟨(by decide : ¬ ((0 : Int32) < (0 : Int32))), (by decide : (0 : Int32) < (6 : Int32))⟩) rfl) (g := (mkF m 21 #[.val (.int x0), .val .null, .val (.ref b4_0), .val (.int (6 : Int32)), .val (.int (0 : Int32)), .unset] [(.int (0 : Int32)), (.ref b4_0)])) rfl rfl (hb hby d1_21) _ ?_
    show Steps p.tables e below (T4.setTop (mkF m 22 #[.val (.int x0), .val .null, .val (.ref b4_0), .val (.int (6 : Int32)), .val (.int (0 : Int32)), .unset] [(.ref r3)])) _
    refine XS.astore X4.here hx rfl (hb hby d1_22) rfl rfl (l' := #[.val (.int x0), .val .null, .val (.ref b4_0), .val (.int (6 : Int32)), .val (.int (0 : Int32)), .val (.ref r3)]) rfl ?_
    refine XS.aload X4.here hx rfl (hb hby d1_24) rfl rfl ?_
    refine st13 _ ?_
    show Steps p.tables e below (T13.setTop (mkF m 29 #[.val (.int x0), .val .null, .val (.ref b4_0), .val (.int (6 : Int32)), .val (.int (0 : Int32)), .val (.ref r3)] [(.int (1 : Int32))])) _
    refine XS.iloadN X13.here hx rfl (hb hby d1_29) rfl ?_
    refine XS.icmpYes X13.here hx rfl (pc0 := 30) (pc' := 36) rfl (hb hby d1_30) rfl (feq hc14).2 (by decide) (by decide) ?_
    show Steps p.tables e below (T13.setTop (mkF m 36 #[.val (.int x0), .val .null, .val (.ref b4_0), .val (.int (6 : Int32)), .val (.int (0 : Int32)), .val (.ref r3)] [])) _
    refine XS.iinc X13.here hx rfl (hb hby d1_36) rfl (l' := #[.val (.int x0), .val .null, .val (.ref b4_0), .val (.int (6 : Int32)), .val (.int (1 : Int32)), .val (.ref r3)]) rfl ?_
    refine XS.goto X13.here hx rfl (pc0 := 39) (pc' := 12) rfl (hb hby d1_39) (by decide) (by decide) ?_
    show Steps p.tables e below (T13.setTop (mkF m 12 #[.val (.int x0), .val .null, .val (.ref b4_0), .val (.int (6 : Int32)), .val (.int (1 : Int32)), .val (.ref r3)] [])) _
    refine XS.iload X13.here hx rfl (hb hby d1_12) rfl ?_
    refine XS.iloadN X13.here hx rfl (hb hby d1_14) rfl ?_
    refine XS.icmpNo X13.here hx rfl (hb hby d1_15) rfl (tlt (by decide : (1 : Int32) < (6 : Int32))).2.1 ?_
    refine XS.aloadN X13.here hx rfl (hb hby d1_18) rfl rfl ?_
    show Steps p.tables e below (T13.setTop (mkF m 19 #[.val (.int x0), .val .null, .val (.ref b4_0), .val (.int (6 : Int32)), .val (.int (1 : Int32)), .val (.ref r3)] [(.ref b4_0)])) _
    refine XS.iload X13.here hx rfl (hb hby d1_19) rfl ?_
    refine X13.aaload hx (j := (1 : Int32)) (v := (.ref r4)) (by rw [e13]; exact Arq15.1) (State.isArrayOf_alike hZ.alike Arq15.2.1) rfl Arq15.2.2 (inb_of Sq15 ⟨(by decide : ¬ ((1 : Int32) < (0 : Int32))), (by decide : (1 : Int32) < (6 : Int32))⟩) (Has.at Hq15 (inb_of Sq15 ⟨(by decide : ¬ ((1 : Int32) < (0 : Int32))), (by decide : (1 : Int32) < (6 : Int32))⟩) rfl) (g := (mkF m 21 #[.val (.int x0), .val .null, .val (.ref b4_0), .val (.int (6 : Int32)), .val (.int (1 : Int32)), .val (.ref r3)] [(.int (1 : Int32)), (.ref b4_0)])) rfl rfl (hb hby d1_21) _ ?_
    show Steps p.tables e below (T13.setTop (mkF m 22 #[.val (.int x0), .val .null, .val (.ref b4_0), .val (.int (6 : Int32)), .val (.int (1 : Int32)), .val (.ref r3)] [(.ref r4)])) _
    refine XS.astore X13.here hx rfl (hb hby d1_22) rfl rfl (l' := #[.val (.int x0), .val .null, .val (.ref b4_0), .val (.int (6 : Int32)), .val (.int (1 : Int32)), .val (.ref r4)]) rfl ?_
    refine XS.aload X13.here hx rfl (hb hby d1_24) rfl rfl ?_
    refine st18 _ ?_
    show Steps p.tables e below (T18.setTop (mkF m 29 #[.val (.int x0), .val .null, .val (.ref b4_0), .val (.int (6 : Int32)), .val (.int (1 : Int32)), .val (.ref r4)] [(.int (2 : Int32))])) _
    refine XS.iloadN X18.here hx rfl (hb hby d1_29) rfl ?_
    refine XS.icmpYes X18.here hx rfl (pc0 := 30) (pc' := 36) rfl (hb hby d1_30) rfl (feq hc19).2 (by decide) (by decide) ?_
    show Steps p.tables e below (T18.setTop (mkF m 36 #[.val (.int x0), .val .null, .val (.ref b4_0), .val (.int (6 : Int32)), .val (.int (1 : Int32)), .val (.ref r4)] [])) _
    refine XS.iinc X18.here hx rfl (hb hby d1_36) rfl (l' := #[.val (.int x0), .val .null, .val (.ref b4_0), .val (.int (6 : Int32)), .val (.int (2 : Int32)), .val (.ref r4)]) rfl ?_
    refine XS.goto X18.here hx rfl (pc0 := 39) (pc' := 12) rfl (hb hby d1_39) (by decide) (by decide) ?_
    show Steps p.tables e below (T18.setTop (mkF m 12 #[.val (.int x0), .val .null, .val (.ref b4_0), .val (.int (6 : Int32)), .val (.int (2 : Int32)), .val (.ref r4)] [])) _
    refine XS.iload X18.here hx rfl (hb hby d1_12) rfl ?_
    refine XS.iloadN X18.here hx rfl (hb hby d1_14) rfl ?_
    refine XS.icmpNo X18.here hx rfl (hb hby d1_15) rfl (tlt (by decide : (2 : Int32) < (6 : Int32))).2.1 ?_
    refine XS.aloadN X18.here hx rfl (hb hby d1_18) rfl rfl ?_
    show Steps p.tables e below (T18.setTop (mkF m 19 #[.val (.int x0), .val .null, .val (.ref b4_0), .val (.int (6 : Int32)), .val (.int (2 : Int32)), .val (.ref r4)] [(.ref b4_0)])) _
    refine XS.iload X18.here hx rfl (hb hby d1_19) rfl ?_
    refine X18.aaload hx (j := (2 : Int32)) (v := (.ref r5)) (by rw [e18]; exact Arq20.1) (State.isArrayOf_alike hZ.alike Arq20.2.1) rfl Arq20.2.2 (inb_of Sq20 ⟨(by decide : ¬ ((2 : Int32) < (0 : Int32))), (by decide : (2 : Int32) < (6 : Int32))⟩) (Has.at Hq20 (inb_of Sq20 ⟨(by decide : ¬ ((2 : Int32) < (0 : Int32))), (by decide : (2 : Int32) < (6 : Int32))⟩) rfl) (g := (mkF m 21 #[.val (.int x0), .val .null, .val (.ref b4_0), .val (.int (6 : Int32)), .val (.int (2 : Int32)), .val (.ref r4)] [(.int (2 : Int32)), (.ref b4_0)])) rfl rfl (hb hby d1_21) _ ?_
    show Steps p.tables e below (T18.setTop (mkF m 22 #[.val (.int x0), .val .null, .val (.ref b4_0), .val (.int (6 : Int32)), .val (.int (2 : Int32)), .val (.ref r4)] [(.ref r5)])) _
    refine XS.astore X18.here hx rfl (hb hby d1_22) rfl rfl (l' := #[.val (.int x0), .val .null, .val (.ref b4_0), .val (.int (6 : Int32)), .val (.int (2 : Int32)), .val (.ref r5)]) rfl ?_
    refine XS.aload X18.here hx rfl (hb hby d1_24) rfl rfl ?_
    refine st23 _ ?_
    show Steps p.tables e below (T23.setTop (mkF m 29 #[.val (.int x0), .val .null, .val (.ref b4_0), .val (.int (6 : Int32)), .val (.int (2 : Int32)), .val (.ref r5)] [(.int (3 : Int32))])) _
    refine XS.iloadN X23.here hx rfl (hb hby d1_29) rfl ?_
    refine XS.icmpYes X23.here hx rfl (pc0 := 30) (pc' := 36) rfl (hb hby d1_30) rfl (feq hc24).2 (by decide) (by decide) ?_
    show Steps p.tables e below (T23.setTop (mkF m 36 #[.val (.int x0), .val .null, .val (.ref b4_0), .val (.int (6 : Int32)), .val (.int (2 : Int32)), .val (.ref r5)] [])) _
    refine XS.iinc X23.here hx rfl (hb hby d1_36) rfl (l' := #[.val (.int x0), .val .null, .val (.ref b4_0), .val (.int (6 : Int32)), .val (.int (3 : Int32)), .val (.ref r5)]) rfl ?_
    refine XS.goto X23.here hx rfl (pc0 := 39) (pc' := 12) rfl (hb hby d1_39) (by decide) (by decide) ?_
    show Steps p.tables e below (T23.setTop (mkF m 12 #[.val (.int x0), .val .null, .val (.ref b4_0), .val (.int (6 : Int32)), .val (.int (3 : Int32)), .val (.ref r5)] [])) _
    refine XS.iload X23.here hx rfl (hb hby d1_12) rfl ?_
    refine XS.iloadN X23.here hx rfl (hb hby d1_14) rfl ?_
    refine XS.icmpNo X23.here hx rfl (hb hby d1_15) rfl (tlt (by decide : (3 : Int32) < (6 : Int32))).2.1 ?_
    refine XS.aloadN X23.here hx rfl (hb hby d1_18) rfl rfl ?_
    show Steps p.tables e below (T23.setTop (mkF m 19 #[.val (.int x0), .val .null, .val (.ref b4_0), .val (.int (6 : Int32)), .val (.int (3 : Int32)), .val (.ref r5)] [(.ref b4_0)])) _
    refine XS.iload X23.here hx rfl (hb hby d1_19) rfl ?_
    refine X23.aaload hx (j := (3 : Int32)) (v := (.ref r6)) (by rw [e23]; exact Arq25.1) (State.isArrayOf_alike hZ.alike Arq25.2.1) rfl Arq25.2.2 (inb_of Sq25 ⟨(by decide : ¬ ((3 : Int32) < (0 : Int32))), (by decide : (3 : Int32) < (6 : Int32))⟩) (Has.at Hq25 (inb_of Sq25 ⟨(by decide : ¬ ((3 : Int32) < (0 : Int32))), (by decide : (3 : Int32) < (6 : Int32))⟩) rfl) (g := (mkF m 21 #[.val (.int x0), .val .null, .val (.ref b4_0), .val (.int (6 : Int32)), .val (.int (3 : Int32)), .val (.ref r5)] [(.int (3 : Int32)), (.ref b4_0)])) rfl rfl (hb hby d1_21) _ ?_
    show Steps p.tables e below (T23.setTop (mkF m 22 #[.val (.int x0), .val .null, .val (.ref b4_0), .val (.int (6 : Int32)), .val (.int (3 : Int32)), .val (.ref r5)] [(.ref r6)])) _
    refine XS.astore X23.here hx rfl (hb hby d1_22) rfl rfl (l' := #[.val (.int x0), .val .null, .val (.ref b4_0), .val (.int (6 : Int32)), .val (.int (3 : Int32)), .val (.ref r6)]) rfl ?_
    refine XS.aload X23.here hx rfl (hb hby d1_24) rfl rfl ?_
    refine st28 _ ?_
    show Steps p.tables e below (T28.setTop (mkF m 29 #[.val (.int x0), .val .null, .val (.ref b4_0), .val (.int (6 : Int32)), .val (.int (3 : Int32)), .val (.ref r6)] [(.int (4 : Int32))])) _
    refine XS.iloadN X28.here hx rfl (hb hby d1_29) rfl ?_
    refine XS.icmpYes X28.here hx rfl (pc0 := 30) (pc' := 36) rfl (hb hby d1_30) rfl (feq hc29).2 (by decide) (by decide) ?_
    show Steps p.tables e below (T28.setTop (mkF m 36 #[.val (.int x0), .val .null, .val (.ref b4_0), .val (.int (6 : Int32)), .val (.int (3 : Int32)), .val (.ref r6)] [])) _
    refine XS.iinc X28.here hx rfl (hb hby d1_36) rfl (l' := #[.val (.int x0), .val .null, .val (.ref b4_0), .val (.int (6 : Int32)), .val (.int (4 : Int32)), .val (.ref r6)]) rfl ?_
    refine XS.goto X28.here hx rfl (pc0 := 39) (pc' := 12) rfl (hb hby d1_39) (by decide) (by decide) ?_
    show Steps p.tables e below (T28.setTop (mkF m 12 #[.val (.int x0), .val .null, .val (.ref b4_0), .val (.int (6 : Int32)), .val (.int (4 : Int32)), .val (.ref r6)] [])) _
    refine XS.iload X28.here hx rfl (hb hby d1_12) rfl ?_
    refine XS.iloadN X28.here hx rfl (hb hby d1_14) rfl ?_
    refine XS.icmpNo X28.here hx rfl (hb hby d1_15) rfl (tlt (by decide : (4 : Int32) < (6 : Int32))).2.1 ?_
    refine XS.aloadN X28.here hx rfl (hb hby d1_18) rfl rfl ?_
    show Steps p.tables e below (T28.setTop (mkF m 19 #[.val (.int x0), .val .null, .val (.ref b4_0), .val (.int (6 : Int32)), .val (.int (4 : Int32)), .val (.ref r6)] [(.ref b4_0)])) _
    refine XS.iload X28.here hx rfl (hb hby d1_19) rfl ?_
    refine X28.aaload hx (j := (4 : Int32)) (v := (.ref r7)) (by rw [e28]; exact Arq30.1) (State.isArrayOf_alike hZ.alike Arq30.2.1) rfl Arq30.2.2 (inb_of Sq30 ⟨(by decide : ¬ ((4 : Int32) < (0 : Int32))), (by decide : (4 : Int32) < (6 : Int32))⟩) (Has.at Hq30 (inb_of Sq30 ⟨(by decide : ¬ ((4 : Int32) < (0 : Int32))), (by decide : (4 : Int32) < (6 : Int32))⟩) rfl) (g := (mkF m 21 #[.val (.int x0), .val .null, .val (.ref b4_0), .val (.int (6 : Int32)), .val (.int (4 : Int32)), .val (.ref r6)] [(.int (4 : Int32)), (.ref b4_0)])) rfl rfl (hb hby d1_21) _ ?_
    show Steps p.tables e below (T28.setTop (mkF m 22 #[.val (.int x0), .val .null, .val (.ref b4_0), .val (.int (6 : Int32)), .val (.int (4 : Int32)), .val (.ref r6)] [(.ref r7)])) _
    refine XS.astore X28.here hx rfl (hb hby d1_22) rfl rfl (l' := #[.val (.int x0), .val .null, .val (.ref b4_0), .val (.int (6 : Int32)), .val (.int (4 : Int32)), .val (.ref r7)]) rfl ?_
    refine XS.aload X28.here hx rfl (hb hby d1_24) rfl rfl ?_
    refine st33 _ ?_
    show Steps p.tables e below (T33.setTop (mkF m 29 #[.val (.int x0), .val .null, .val (.ref b4_0), .val (.int (6 : Int32)), .val (.int (4 : Int32)), .val (.ref r7)] [(.int (5 : Int32))])) _
    refine XS.iloadN X33.here hx rfl (hb hby d1_29) rfl ?_
    refine XS.icmpYes X33.here hx rfl (pc0 := 30) (pc' := 36) rfl (hb hby d1_30) rfl (feq hc34).2 (by decide) (by decide) ?_
    show Steps p.tables e below (T33.setTop (mkF m 36 #[.val (.int x0), .val .null, .val (.ref b4_0), .val (.int (6 : Int32)), .val (.int (4 : Int32)), .val (.ref r7)] [])) _
    refine XS.iinc X33.here hx rfl (hb hby d1_36) rfl (l' := #[.val (.int x0), .val .null, .val (.ref b4_0), .val (.int (6 : Int32)), .val (.int (5 : Int32)), .val (.ref r7)]) rfl ?_
    refine XS.goto X33.here hx rfl (pc0 := 39) (pc' := 12) rfl (hb hby d1_39) (by decide) (by decide) ?_
    show Steps p.tables e below (T33.setTop (mkF m 12 #[.val (.int x0), .val .null, .val (.ref b4_0), .val (.int (6 : Int32)), .val (.int (5 : Int32)), .val (.ref r7)] [])) _
    refine XS.iload X33.here hx rfl (hb hby d1_12) rfl ?_
    refine XS.iloadN X33.here hx rfl (hb hby d1_14) rfl ?_
    refine XS.icmpNo X33.here hx rfl (hb hby d1_15) rfl (tlt (by decide : (5 : Int32) < (6 : Int32))).2.1 ?_
    refine XS.aloadN X33.here hx rfl (hb hby d1_18) rfl rfl ?_
    show Steps p.tables e below (T33.setTop (mkF m 19 #[.val (.int x0), .val .null, .val (.ref b4_0), .val (.int (6 : Int32)), .val (.int (5 : Int32)), .val (.ref r7)] [(.ref b4_0)])) _
    refine XS.iload X33.here hx rfl (hb hby d1_19) rfl ?_
    refine X33.aaload hx (j := (5 : Int32)) (v := (.ref r8)) (by rw [e33]; exact Arq35.1) (State.isArrayOf_alike hZ.alike Arq35.2.1) rfl Arq35.2.2 (inb_of Sq35 ⟨(by decide : ¬ ((5 : Int32) < (0 : Int32))), (by decide : (5 : Int32) < (6 : Int32))⟩) (Has.at Hq35 (inb_of Sq35 ⟨(by decide : ¬ ((5 : Int32) < (0 : Int32))), (by decide : (5 : Int32) < (6 : Int32))⟩) rfl) (g := (mkF m 21 #[.val (.int x0), .val .null, .val (.ref b4_0), .val (.int (6 : Int32)), .val (.int (5 : Int32)), .val (.ref r7)] [(.int (5 : Int32)), (.ref b4_0)])) rfl rfl (hb hby d1_21) _ ?_
    show Steps p.tables e below (T33.setTop (mkF m 22 #[.val (.int x0), .val .null, .val (.ref b4_0), .val (.int (6 : Int32)), .val (.int (5 : Int32)), .val (.ref r7)] [(.ref r8)])) _
    refine XS.astore X33.here hx rfl (hb hby d1_22) rfl rfl (l' := #[.val (.int x0), .val .null, .val (.ref b4_0), .val (.int (6 : Int32)), .val (.int (5 : Int32)), .val (.ref r8)]) rfl ?_
    refine XS.aload X33.here hx rfl (hb hby d1_24) rfl rfl ?_
    refine st38 _ ?_
    show Steps p.tables e below (T38.setTop (mkF m 29 #[.val (.int x0), .val .null, .val (.ref b4_0), .val (.int (6 : Int32)), .val (.int (5 : Int32)), .val (.ref r8)] [(.int (6 : Int32))])) _
    refine XS.iloadN X38.here hx rfl (hb hby d1_29) rfl ?_
    refine XS.icmpNo X38.here hx rfl (hb hby d1_30) rfl (teq hc39).2 ?_
    refine XS.aload X38.here hx rfl (hb hby d1_33) rfl rfl ?_
    refine XS.astoreN X38.here hx rfl (hb hby d1_35) rfl rfl (l' := #[.val (.int x0), .val (.ref r8), .val (.ref b4_0), .val (.int (6 : Int32)), .val (.int (5 : Int32)), .val (.ref r8)]) rfl ?_
    show Steps p.tables e below (T38.setTop (mkF m 36 #[.val (.int x0), .val (.ref r8), .val (.ref b4_0), .val (.int (6 : Int32)), .val (.int (5 : Int32)), .val (.ref r8)] [])) _
    refine XS.iinc X38.here hx rfl (hb hby d1_36) rfl (l' := #[.val (.int x0), .val (.ref r8), .val (.ref b4_0), .val (.int (6 : Int32)), .val (.int (6 : Int32)), .val (.ref r8)]) rfl ?_
    refine XS.goto X38.here hx rfl (pc0 := 39) (pc' := 12) rfl (hb hby d1_39) (by decide) (by decide) ?_
    show Steps p.tables e below (T38.setTop (mkF m 12 #[.val (.int x0), .val (.ref r8), .val (.ref b4_0), .val (.int (6 : Int32)), .val (.int (6 : Int32)), .val (.ref r8)] [])) _
    refine XS.iload X38.here hx rfl (hb hby d1_12) rfl ?_
    refine XS.iloadN X38.here hx rfl (hb hby d1_14) rfl ?_
    refine XS.icmpYes X38.here hx rfl (pc0 := 15) (pc' := 42) rfl (hb hby d1_15) rfl (flt (by decide : ¬ ((6 : Int32) < (6 : Int32)))).2.1 (by decide) (by decide) ?_
    show Steps p.tables e below (T38.setTop (mkF m 42 #[.val (.int x0), .val (.ref r8), .val (.ref b4_0), .val (.int (6 : Int32)), .val (.int (6 : Int32)), .val (.ref r8)] [])) _
    refine XS.aloadN X38.here hx rfl (hb hby d1_42) rfl rfl ?_
    exact retOut X38 hx (i := .areturn) Bd.returns rfl (Or.inr (Or.inr (Or.inr (Or.inr ⟨rfl, rfl, rfl⟩)))) (hb hby d1_43) hr
  · show Q1_7 Z x0 r1 c2 r3 r4 r5 r6 r7 r8 h0 n0 _ T38.heap _
    rw [e38]
    exact ⟨rfl, N4, kp40⟩
theorem d3_51 : decode method_2_code 51 = .ok (.getstatic 25, 3) := by decide +kernel
theorem d3_54 : decode method_2_code 54 = .ok (.areturn, 1) := by decide +kernel
def Q3_7 (Z : State) (x0 : Int32) (r1 : Addr) (h0 : Heap) (n0 : Nat) (v : Option Value) (h : Heap) (L : List Loc) : Prop := v = some (.ref r1) ∧ Fr n0 L ∧ h = h0
set_option maxRecDepth 65536 in
set_option maxHeartbeats 40000000 in
theorem rm3_7 (l : Launch) (Z : State) (a0 : Array Value) (hw : ∀ d ∈ tables_1, d.before a0 Z = true) (ws : List Jvm.Cond) (x0 : Int32) (r1 : Addr) (h0 : Heap) (n0 : Nat) (O0 : Old Z n0 h0) (hc1 : ¬ (x0 = (1 : Int32))) (hc2 : ¬ (x0 = (2 : Int32))) (hc3 : ¬ (x0 = (3 : Int32))) (hc4 : ¬ (x0 = (4 : Int32))) (hc5 : ¬ (x0 = (5 : Int32))) (hc6 : x0 = (6 : Int32)) (f7 : Sta Z Z.heap cs0 "GUID" cs5 (.ref r1)) :
    MetFree l (⟨cs4, "expected", cs3⟩ : MethodName) (head1 (Jvm.Cond.code (⟨cs4, "expected", cs3⟩ : MethodName) method_2_code 1 (some (.object cs0)) :: ws) ({ frames := 0, cells := 0, slots := 0, locals := 0 } : Room)) (fun a U => a = #[(.int x0)] ∧ Z.Warmed39 U.vm ∧ U.heap = h0) (fun _ _ _ _ _ => True) (fun _ U o U' => ∃ v L, o = .returned v ∧ Q3_7 Z x0 r1 h0 n0 v U'.heap L ∧ FrameEnd U o U' L ({ frames := 0, cells := 0, slots := 0, locals := 0 } : Room).cells ({ frames := 0, cells := 0, slots := 0, locals := 0 } : Room).slots) := by
  refine MetFree.of_bodySF (plainFor_of_name pn_com_example_wiregather_wiregather_wire_FieldTypeOfCodePinLaw) hisR ?_
  intro p e s m args below meth c s₁ Bd hml0 hP hK
  obtain ⟨rfl, hZ, hh⟩ := hP
  have hx := Bd.exec
  have hby := Bd.bytes
  have hml : c.maxLocals = 1 := hml0
  have hown : s.vm.findClass cs4 = some m.cls := findClass_of_methodNamed Bd.named
  have hnm := (name_of_methodNamed Bd.named Bd.method).1
  have X0 : Stand p l e ({ frames := 0, cells := 0, slots := 0, locals := 0 } : Room) s m #[(.int x0)] below meth c s₁ [] 0 0 := Stand.of_body Bd
  have e0 : s₁.heap = h0 := by rw [← hh, Bd.state]; rfl
  have N0 := Fr.nil n0
  have pre0 : ∀ t, Steps p.tables e below (s₁.setTop (mkF m 0 #[.val (.int x0)] [])) t → Steps p.tables e below (s₁.setTop (entryFrame m #[(.int x0)] 1)) t := fun t k => castTop (by first | (simp [entryFrame, mkF, argsToLocals, Value.category]; done) | rfl) k
  have f8 := f7.ext O0.2
  obtain ⟨T9, X9, e9, st9⟩ := getS2 X0 hx hZ hown (host := "") (Or.inl (ww hw 35 rfl)) Via.refl e0 f8 (g := (mkF m 51 #[.val (.int x0)] [])) rfl (hb hby d3_51)
  obtain ⟨fs, hr, hrun, hended, hW, hsame⟩ := X9.leave (v := some (.ref r1)) (fun h => by rw [Bd.returns] at h; cases h)
  refine ⟨_, _, pre0 _ ?_, hrun, hended, _, _, rfl, ?_, ⟨_, rfl⟩, hW, hsame.mono (by decide) (by decide)⟩
  · show Steps p.tables e below (s₁.setTop (mkF m 0 #[.val (.int x0)] [])) _
    refine XS.iloadN X0.here hx rfl (hb hby d3_0) rfl ?_
    refine XS.iconst X0.here hx rfl (hb hby d3_1) ?_
    refine XS.icmpYes X0.here hx rfl (pc0 := 2) (pc' := 9) rfl (hb hby d3_2) rfl (feq hc1).2 (by decide) (by decide) ?_
    show Steps p.tables e below (s₁.setTop (mkF m 9 #[.val (.int x0)] [])) _
    refine XS.iloadN X0.here hx rfl (hb hby d3_9) rfl ?_
    refine XS.iconst X0.here hx rfl (hb hby d3_10) ?_
    refine XS.icmpYes X0.here hx rfl (pc0 := 11) (pc' := 18) rfl (hb hby d3_11) rfl (feq hc2).2 (by decide) (by decide) ?_
    show Steps p.tables e below (s₁.setTop (mkF m 18 #[.val (.int x0)] [])) _
    refine XS.iloadN X0.here hx rfl (hb hby d3_18) rfl ?_
    refine XS.iconst X0.here hx rfl (hb hby d3_19) ?_
    refine XS.icmpYes X0.here hx rfl (pc0 := 20) (pc' := 27) rfl (hb hby d3_20) rfl (feq hc3).2 (by decide) (by decide) ?_
    show Steps p.tables e below (s₁.setTop (mkF m 27 #[.val (.int x0)] [])) _
    refine XS.iloadN X0.here hx rfl (hb hby d3_27) rfl ?_
    refine XS.iconst X0.here hx rfl (hb hby d3_28) ?_
    refine XS.icmpYes X0.here hx rfl (pc0 := 29) (pc' := 36) rfl (hb hby d3_29) rfl (feq hc4).2 (by decide) (by decide) ?_
    show Steps p.tables e below (s₁.setTop (mkF m 36 #[.val (.int x0)] [])) _
    refine XS.iloadN X0.here hx rfl (hb hby d3_36) rfl ?_
    refine XS.iconst X0.here hx rfl (hb hby d3_37) ?_
    refine XS.icmpYes X0.here hx rfl (pc0 := 38) (pc' := 45) rfl (hb hby d3_38) rfl (feq hc5).2 (by decide) (by decide) ?_
    show Steps p.tables e below (s₁.setTop (mkF m 45 #[.val (.int x0)] [])) _
    refine XS.iloadN X0.here hx rfl (hb hby d3_45) rfl ?_
    refine XS.bipush X0.here hx rfl (hb hby d3_46) ?_
    refine XS.icmpNo X0.here hx rfl (hb hby d3_48) rfl (teq hc6).2 ?_
    refine st9 _ ?_
    show Steps p.tables e below (T9.setTop (mkF m 54 #[.val (.int x0)] [(.ref r1)])) _
    exact retOut X9 hx (i := .areturn) Bd.returns rfl (Or.inr (Or.inr (Or.inr (Or.inr ⟨rfl, rfl, rfl⟩)))) (hb hby d3_54) hr
  · show Q3_7 Z x0 r1 h0 n0 _ T9.heap _
    rw [e9]
    exact ⟨rfl, N0, rfl⟩
def Q0_7 (Z : State) (x0 : Int32) (x1 : Int32) (r2 : Addr) (c3 : ClassId) (r4 : Addr) (r5 : Addr) (r6 : Addr) (r7 : Addr) (r8 : Addr) (r9 : Addr) (h0 : Heap) (n0 : Nat) (v : Option Value) (h : Heap) (L : List Loc) : Prop := v = some (.int (1 : Int32)) ∧ Fr n0 L
set_option maxRecDepth 65536 in
set_option maxHeartbeats 40000000 in
theorem rm0_7 (l : Launch) (Z : State) (a0 : Array Value) (hw : ∀ d ∈ tables_1, d.before a0 Z = true) (ws : List Jvm.Cond) (x0 : Int32) (x1 : Int32) (r2 : Addr) (c3 : ClassId) (r4 : Addr) (r5 : Addr) (r6 : Addr) (r7 : Addr) (r8 : Addr) (r9 : Addr) (h0 : Heap) (n0 : Nat) (O0 : Old Z n0 h0) (f1 : Sta Z Z.heap cs0 "$VALUES" cs1 (.ref r2)) (f2 : Exa Z Z.heap r2 cs1) (f3 : Arv Z Z.heap r2 c3 (.object cs0) (6 : Int32) [(.ref r4), (.ref r5), (.ref r6), (.ref r7), (.ref r8), (.ref r9)] .null) (f4 : Fld Z Z.heap r4 cs0 "code" "I" (.int (1 : Int32))) (hc5 : (1 : Int32) = x0) (f6 : Fld Z Z.heap r5 cs0 "code" "I" (.int (2 : Int32))) (hc7 : ¬ ((2 : Int32) = x0)) (f8 : Fld Z Z.heap r6 cs0 "code" "I" (.int (3 : Int32))) (hc9 : ¬ ((3 : Int32) = x0)) (f10 : Fld Z Z.heap r7 cs0 "code" "I" (.int (4 : Int32))) (hc11 : ¬ ((4 : Int32) = x0)) (f12 : Fld Z Z.heap r8 cs0 "code" "I" (.int (5 : Int32))) (hc13 : ¬ ((5 : Int32) = x0)) (f14 : Fld Z Z.heap r9 cs0 "code" "I" (.int (6 : Int32))) (hc15 : ¬ ((6 : Int32) = x0)) (hc17 : ¬ ((1 : Int32) = (x1 &&& (7 : Int32)))) (hc18 : ¬ ((2 : Int32) = (x1 &&& (7 : Int32)))) (hc19 : ¬ ((3 : Int32) = (x1 &&& (7 : Int32)))) (hc20 : ¬ ((4 : Int32) = (x1 &&& (7 : Int32)))) (hc21 : ¬ ((5 : Int32) = (x1 &&& (7 : Int32)))) (hc22 : (6 : Int32) = (x1 &&& (7 : Int32))) (hc25 : x0 = (1 : Int32)) (f26 : Sta Z Z.heap cs0 "I32" cs5 (.ref r4)) (hc29 : ¬ ((x1 &&& (7 : Int32)) = (1 : Int32))) (hc30 : ¬ ((x1 &&& (7 : Int32)) = (2 : Int32))) (hc31 : ¬ ((x1 &&& (7 : Int32)) = (3 : Int32))) (hc32 : ¬ ((x1 &&& (7 : Int32)) = (4 : Int32))) (hc33 : ¬ ((x1 &&& (7 : Int32)) = (5 : Int32))) (hc34 : (x1 &&& (7 : Int32)) = (6 : Int32)) (f35 : Sta Z Z.heap cs0 "GUID" cs5 (.ref r9)) :
    MetFree l x (head1 (Jvm.Cond.code x code maxLocals ret :: ws) room_1) (fun a U => a = #[(.int x0), (.int x1)] ∧ Z.Warmed39 U.vm ∧ U.heap = h0) (fun _ _ _ _ _ => True) (fun _ U o U' => ∃ v L, o = .returned v ∧ Q0_7 Z x0 x1 r2 c3 r4 r5 r6 r7 r8 r9 h0 n0 v U'.heap L ∧ FrameEnd U o U' L room_1.cells room_1.slots) := by
  refine MetFree.of_bodySF (plainFor_of_name pn_com_example_wiregather_wiregather_wire_FieldTypeOfCodePinLaw) hisR ?_
  intro p e s m args below meth c s₁ Bd hml0 hP hK
  obtain ⟨rfl, hZ, hh⟩ := hP
  have hx := Bd.exec
  have hby := Bd.bytes
  have hml : c.maxLocals = 5 := hml0
  have hown : s.vm.findClass cs4 = some m.cls := findClass_of_methodNamed Bd.named
  have hnm := (name_of_methodNamed Bd.named Bd.method).1
  have X0 : Stand p l e room_1 s m #[(.int x0), (.int x1)] below meth c s₁ [] 0 0 := Stand.of_body Bd
  have e0 : s₁.heap = h0 := by rw [← hh, Bd.state]; rfl
  have N0 := Fr.nil n0
  have pre0 : ∀ t, Steps p.tables e below (s₁.setTop (mkF m 0 #[.val (.int x0), .val (.int x1), .unset, .unset, .unset] [])) t → Steps p.tables e below (s₁.setTop (entryFrame m #[(.int x0), (.int x1)] maxLocals)) t := fun t k => castTop (by first | (simp [entryFrame, mkF, argsToLocals, Value.category, maxLocals]; done) | rfl) k
  obtain ⟨_, _, ⟨T16, L16, k16, n16⟩, -, X16, ⟨Lc16, hQ16, l16, y16, z16⟩, st16⟩ := Jvm.LawKit.callS X0 hx (y := (⟨cs0, "ofCode", cs3⟩ : MethodName)) hown (mvT hZ (ww hw 0 rfl)) (mvT hZ (ww hw 1 rfl)) (mvT hZ (ww hw 2 rfl)) (mvT hZ (ww hw 3 rfl)) (by decide) (backOf (W := 0) (rm1_1 l Z a0 hw [] x0 r2 c3 r4 r5 r6 r7 r8 r9 h0 n0 O0 f1 f2 f3 f4 hc5 f6 hc7 f8 hc9 f10 hc11 f12 hc13 f14 hc15) hZ (ww hw 3 rfl) (ww hw 2 rfl) (by decide) (by decide)) (g := (mkF m 6 #[.val (.int x0), .val (.int x1), .val (.int (x1 &&& (7 : Int32))), .unset, .unset] [(.int x0)])) rfl (by rw [hml]; rfl) (argsL := [(.int x0)]) (rest := []) (lenOf pd__I_Lcom_example_wiregather_wiregather_wire_FieldType_ rfl) rfl (by show 2 * 0 + _ ≤ _; exact Nat.le_of_eq rfl) (hb hby at_6) (fun _ _ => ⟨rfl, e0, (by decide : 0 + 1 ≤ _), (by decide : 0 + 6 ≤ _)⟩)
  dsimp only [Pt.U, Pt.locs, Pt.cells, Pt.slots] at X16 l16 y16 z16 st16 hQ16
  subst l16 y16 z16
  obtain ⟨rfl, N16q, K16⟩ := hQ16
  have N16 := Fr.app N0 N16q
  have o23 := Old.keep O0 K16 all0
  obtain ⟨_, _, ⟨T24, L24, k24, n24⟩, -, X24, ⟨Lc24, hQ24, l24, y24, z24⟩, st24⟩ := Jvm.LawKit.callS X16 hx (y := (⟨cs0, "ofCode", cs3⟩ : MethodName)) hown (mvT hZ (ww hw 0 rfl)) (mvT hZ (ww hw 1 rfl)) (mvT hZ (ww hw 2 rfl)) (mvT hZ (ww hw 3 rfl)) (by decide) (backOf (W := 0) (rm1_7 l Z a0 hw [] (x1 &&& (7 : Int32)) r2 c3 r4 r5 r6 r7 r8 r9 T16.heap n0 o23 f1 f2 f3 f4 hc17 f6 hc18 f8 hc19 f10 hc20 f12 hc21 f14 hc22) hZ (ww hw 3 rfl) (ww hw 2 rfl) (by decide) (by decide)) (g := (mkF m 11 #[.val (.int x0), .val (.int x1), .val (.int (x1 &&& (7 : Int32))), .val (.ref r4), .unset] [(.int (x1 &&& (7 : Int32)))])) rfl (by rw [hml]; rfl) (argsL := [(.int (x1 &&& (7 : Int32)))]) (rest := []) (lenOf pd__I_Lcom_example_wiregather_wiregather_wire_FieldType_ rfl) rfl (by show 2 * 0 + _ ≤ _; exact Nat.le_of_eq rfl) (hb hby at_11) (fun _ _ => ⟨rfl, rfl, (by decide : 1 + 1 ≤ _), (by decide : 6 + 6 ≤ _)⟩)
  dsimp only [Pt.U, Pt.locs, Pt.cells, Pt.slots] at X24 l24 y24 z24 st24 hQ24
  subst l24 y24 z24
  obtain ⟨rfl, N24q, K24⟩ := hQ24
  have N24 := Fr.app N16 N24q
  have o27 := Old.keep o23 K24 all0
  obtain ⟨_, _, ⟨T28, L28, k28, n28⟩, -, X28, ⟨Lc28, hQ28, l28, y28, z28⟩, st28⟩ := Jvm.LawKit.callS X24 hx (y := (⟨cs4, "expected", cs3⟩ : MethodName)) hown (mvT hZ (ww hw 27 rfl)) (mvT hZ (ww hw 28 rfl)) (mvT hZ (ww hw 29 rfl)) (mvT hZ (ww hw 30 rfl)) (by decide) (backOf (W := 1) (rm3_1 l Z a0 hw [] x0 r4 T24.heap n0 o27 hc25 f26) hZ (ww hw 30 rfl) (ww hw 29 rfl) (by decide) (by decide)) (g := (mkF m 18 #[.val (.int x0), .val (.int x1), .val (.int (x1 &&& (7 : Int32))), .val (.ref r4), .val (.ref r9)] [(.int x0), (.ref r4)])) rfl (by rw [hml]; rfl) (argsL := [(.int x0)]) (rest := [(.ref r4)]) (lenOf pd__I_Lcom_example_wiregather_wiregather_wire_FieldType_ rfl) rfl (by show 2 * 0 + _ ≤ _; exact Nat.le_of_eq rfl) (hb hby at_18) (fun _ _ => ⟨rfl, rfl, (by decide : 2 + 0 ≤ _), (by decide : 12 + 0 ≤ _)⟩)
  dsimp only [Pt.U, Pt.locs, Pt.cells, Pt.slots] at X28 l28 y28 z28 st28 hQ28
  subst l28 y28 z28
  obtain ⟨rfl, N28q, E28⟩ := hQ28
  have N28 := Fr.app N24 N28q
  obtain ⟨_, _, ⟨T36, L36, k36, n36⟩, -, X36, ⟨Lc36, hQ36, l36, y36, z36⟩, st36⟩ := Jvm.LawKit.callS X28 hx (y := (⟨cs4, "expected", cs3⟩ : MethodName)) hown (mvT hZ (ww hw 27 rfl)) (mvT hZ (ww hw 28 rfl)) (mvT hZ (ww hw 29 rfl)) (mvT hZ (ww hw 30 rfl)) (by decide) (backOf (W := 1) (rm3_7 l Z a0 hw [] (x1 &&& (7 : Int32)) r9 T24.heap n0 o27 hc29 hc30 hc31 hc32 hc33 hc34 f35) hZ (ww hw 30 rfl) (ww hw 29 rfl) (by decide) (by decide)) (g := (mkF m 27 #[.val (.int x0), .val (.int x1), .val (.int (x1 &&& (7 : Int32))), .val (.ref r4), .val (.ref r9)] [(.int (x1 &&& (7 : Int32))), (.ref r9)])) rfl (by rw [hml]; rfl) (argsL := [(.int (x1 &&& (7 : Int32)))]) (rest := [(.ref r9)]) (lenOf pd__I_Lcom_example_wiregather_wiregather_wire_FieldType_ rfl) rfl (by show 2 * 0 + _ ≤ _; exact Nat.le_of_eq rfl) (hb hby at_27) (fun _ _ => ⟨rfl, E28, (by decide : 2 + 0 ≤ _), (by decide : 12 + 0 ≤ _)⟩)
  dsimp only [Pt.U, Pt.locs, Pt.cells, Pt.slots] at X36 l36 y36 z36 st36 hQ36
  subst l36 y36 z36
  obtain ⟨rfl, N36q, E36⟩ := hQ36
  have N36 := Fr.app N28 N36q
  obtain ⟨fs, hr, hrun, hended, hW, hsame⟩ := X36.leave (v := some (.int (1 : Int32))) (fun h => by rw [Bd.returns] at h; cases h)
  refine ⟨_, _, pre0 _ ?_, hrun, hended, _, _, rfl, ?_, ⟨_, rfl⟩, hW, hsame.mono (by decide) (by decide)⟩
  · show Steps p.tables e below (s₁.setTop (mkF m 0 #[.val (.int x0), .val (.int x1), .unset, .unset, .unset] [])) _
    refine XS.iloadN X0.here hx rfl (hb hby at_0) rfl ?_
    refine XS.bipush X0.here hx rfl (hb hby at_1) ?_
    refine XS.iand X0.here hx rfl (hb hby at_3) rfl ?_
    refine XS.istoreN X0.here hx rfl (hb hby at_4) rfl (l' := #[.val (.int x0), .val (.int x1), .val (.int (x1 &&& (7 : Int32))), .unset, .unset]) rfl ?_
    show Steps p.tables e below (s₁.setTop (mkF m 5 #[.val (.int x0), .val (.int x1), .val (.int (x1 &&& (7 : Int32))), .unset, .unset] [])) _
    refine XS.iloadN X0.here hx rfl (hb hby at_5) rfl ?_
    refine st16 _ ?_
    show Steps p.tables e below (T16.setTop (mkF m 9 #[.val (.int x0), .val (.int x1), .val (.int (x1 &&& (7 : Int32))), .unset, .unset] [(.ref r4)])) _
    refine XS.astoreN X16.here hx rfl (hb hby at_9) rfl rfl (l' := #[.val (.int x0), .val (.int x1), .val (.int (x1 &&& (7 : Int32))), .val (.ref r4), .unset]) rfl ?_
    refine XS.iloadN X16.here hx rfl (hb hby at_10) rfl ?_
    refine st24 _ ?_
    show Steps p.tables e below (T24.setTop (mkF m 14 #[.val (.int x0), .val (.int x1), .val (.int (x1 &&& (7 : Int32))), .val (.ref r4), .unset] [(.ref r9)])) _
    refine XS.astore X24.here hx rfl (hb hby at_14) rfl rfl (l' := #[.val (.int x0), .val (.int x1), .val (.int (x1 &&& (7 : Int32))), .val (.ref r4), .val (.ref r9)]) rfl ?_
    refine XS.aloadN X24.here hx rfl (hb hby at_16) rfl rfl ?_
    refine XS.iloadN X24.here hx rfl (hb hby at_17) rfl ?_
    refine st28 _ ?_
    show Steps p.tables e below (T28.setTop (mkF m 21 #[.val (.int x0), .val (.int x1), .val (.int (x1 &&& (7 : Int32))), .val (.ref r4), .val (.ref r9)] [(.ref r4), (.ref r4)])) _
    refine Jvm.RoadKit.acmp (g := (mkF m 21 #[.val (.int x0), .val (.int x1), .val (.int (x1 &&& (7 : Int32))), .val (.ref r4), .val (.ref r9)] [(.ref r4), (.ref r4)])) X28 hx rfl rfl rfl (pc0 := 21) (pc' := 24) (same := true) rfl (hb hby at_21) rfl (decide_eq_true rfl) (by decide) (by decide) ?_
    show Steps p.tables e below (T28.setTop (mkF m 24 #[.val (.int x0), .val (.int x1), .val (.int (x1 &&& (7 : Int32))), .val (.ref r4), .val (.ref r9)] [])) _
    refine XS.aload X28.here hx rfl (hb hby at_24) rfl rfl ?_
    refine XS.iloadN X28.here hx rfl (hb hby at_26) rfl ?_
    refine st36 _ ?_
    show Steps p.tables e below (T36.setTop (mkF m 30 #[.val (.int x0), .val (.int x1), .val (.int (x1 &&& (7 : Int32))), .val (.ref r4), .val (.ref r9)] [(.ref r9), (.ref r9)])) _
    refine Jvm.RoadKit.acmp (g := (mkF m 30 #[.val (.int x0), .val (.int x1), .val (.int (x1 &&& (7 : Int32))), .val (.ref r4), .val (.ref r9)] [(.ref r9), (.ref r9)])) X36 hx rfl rfl rfl (pc0 := 30) (pc' := 33) (same := true) rfl (hb hby at_30) rfl (decide_eq_true rfl) (by decide) (by decide) ?_
    show Steps p.tables e below (T36.setTop (mkF m 33 #[.val (.int x0), .val (.int x1), .val (.int (x1 &&& (7 : Int32))), .val (.ref r4), .val (.ref r9)] [])) _
    refine XS.iconst X36.here hx rfl (hb hby at_33) ?_
    refine XS.goto X36.here hx rfl (pc0 := 34) (pc' := 38) rfl (hb hby at_34) (by decide) (by decide) ?_
    show Steps p.tables e below (T36.setTop (mkF m 38 #[.val (.int x0), .val (.int x1), .val (.int (x1 &&& (7 : Int32))), .val (.ref r4), .val (.ref r9)] [(.int (1 : Int32))])) _
    exact retN X36 hx (t := .boolean) Bd.returns (by simp) (hb hby at_38) hr
  · show Q0_7 Z x0 x1 r2 c3 r4 r5 r6 r7 r8 r9 h0 n0 _ T36.heap _
    rw [E36]
    exact ⟨rfl, N36⟩
def Q0_8 (Z : State) (x0 : Int32) (x1 : Int32) (r2 : Addr) (c3 : ClassId) (r4 : Addr) (r5 : Addr) (r6 : Addr) (r7 : Addr) (r8 : Addr) (r9 : Addr) (h0 : Heap) (n0 : Nat) (v : Option Value) (h : Heap) (L : List Loc) : Prop := v = some (.int (1 : Int32)) ∧ Fr n0 L
set_option maxRecDepth 65536 in
set_option maxHeartbeats 40000000 in
theorem rm0_8 (l : Launch) (Z : State) (a0 : Array Value) (hw : ∀ d ∈ tables_1, d.before a0 Z = true) (ws : List Jvm.Cond) (x0 : Int32) (x1 : Int32) (r2 : Addr) (c3 : ClassId) (r4 : Addr) (r5 : Addr) (r6 : Addr) (r7 : Addr) (r8 : Addr) (r9 : Addr) (h0 : Heap) (n0 : Nat) (O0 : Old Z n0 h0) (f1 : Sta Z Z.heap cs0 "$VALUES" cs1 (.ref r2)) (f2 : Exa Z Z.heap r2 cs1) (f3 : Arv Z Z.heap r2 c3 (.object cs0) (6 : Int32) [(.ref r4), (.ref r5), (.ref r6), (.ref r7), (.ref r8), (.ref r9)] .null) (f4 : Fld Z Z.heap r4 cs0 "code" "I" (.int (1 : Int32))) (hc5 : ¬ ((1 : Int32) = x0)) (f6 : Fld Z Z.heap r5 cs0 "code" "I" (.int (2 : Int32))) (hc7 : (2 : Int32) = x0) (f8 : Fld Z Z.heap r6 cs0 "code" "I" (.int (3 : Int32))) (hc9 : ¬ ((3 : Int32) = x0)) (f10 : Fld Z Z.heap r7 cs0 "code" "I" (.int (4 : Int32))) (hc11 : ¬ ((4 : Int32) = x0)) (f12 : Fld Z Z.heap r8 cs0 "code" "I" (.int (5 : Int32))) (hc13 : ¬ ((5 : Int32) = x0)) (f14 : Fld Z Z.heap r9 cs0 "code" "I" (.int (6 : Int32))) (hc15 : ¬ ((6 : Int32) = x0)) (hc17 : ¬ ((1 : Int32) = (x1 &&& (7 : Int32)))) (hc18 : ¬ ((2 : Int32) = (x1 &&& (7 : Int32)))) (hc19 : ¬ ((3 : Int32) = (x1 &&& (7 : Int32)))) (hc20 : ¬ ((4 : Int32) = (x1 &&& (7 : Int32)))) (hc21 : ¬ ((5 : Int32) = (x1 &&& (7 : Int32)))) (hc22 : ¬ ((6 : Int32) = (x1 &&& (7 : Int32)))) (hc25 : ¬ (x0 = (1 : Int32))) (hc26 : x0 = (2 : Int32)) (f27 : Sta Z Z.heap cs0 "U32" cs5 (.ref r5)) (hc30 : ¬ ((x1 &&& (7 : Int32)) = (1 : Int32))) (hc31 : ¬ ((x1 &&& (7 : Int32)) = (2 : Int32))) (hc32 : ¬ ((x1 &&& (7 : Int32)) = (3 : Int32))) (hc33 : ¬ ((x1 &&& (7 : Int32)) = (4 : Int32))) (hc34 : ¬ ((x1 &&& (7 : Int32)) = (5 : Int32))) (hc35 : ¬ ((x1 &&& (7 : Int32)) = (6 : Int32))) :
    MetFree l x (head1 (Jvm.Cond.code x code maxLocals ret :: ws) room_1) (fun a U => a = #[(.int x0), (.int x1)] ∧ Z.Warmed39 U.vm ∧ U.heap = h0) (fun _ _ _ _ _ => True) (fun _ U o U' => ∃ v L, o = .returned v ∧ Q0_8 Z x0 x1 r2 c3 r4 r5 r6 r7 r8 r9 h0 n0 v U'.heap L ∧ FrameEnd U o U' L room_1.cells room_1.slots) := by
  refine MetFree.of_bodySF (plainFor_of_name pn_com_example_wiregather_wiregather_wire_FieldTypeOfCodePinLaw) hisR ?_
  intro p e s m args below meth c s₁ Bd hml0 hP hK
  obtain ⟨rfl, hZ, hh⟩ := hP
  have hx := Bd.exec
  have hby := Bd.bytes
  have hml : c.maxLocals = 5 := hml0
  have hown : s.vm.findClass cs4 = some m.cls := findClass_of_methodNamed Bd.named
  have hnm := (name_of_methodNamed Bd.named Bd.method).1
  have X0 : Stand p l e room_1 s m #[(.int x0), (.int x1)] below meth c s₁ [] 0 0 := Stand.of_body Bd
  have e0 : s₁.heap = h0 := by rw [← hh, Bd.state]; rfl
  have N0 := Fr.nil n0
  have pre0 : ∀ t, Steps p.tables e below (s₁.setTop (mkF m 0 #[.val (.int x0), .val (.int x1), .unset, .unset, .unset] [])) t → Steps p.tables e below (s₁.setTop (entryFrame m #[(.int x0), (.int x1)] maxLocals)) t := fun t k => castTop (by first | (simp [entryFrame, mkF, argsToLocals, Value.category, maxLocals]; done) | rfl) k
  obtain ⟨_, _, ⟨T16, L16, k16, n16⟩, -, X16, ⟨Lc16, hQ16, l16, y16, z16⟩, st16⟩ := Jvm.LawKit.callS X0 hx (y := (⟨cs0, "ofCode", cs3⟩ : MethodName)) hown (mvT hZ (ww hw 0 rfl)) (mvT hZ (ww hw 1 rfl)) (mvT hZ (ww hw 2 rfl)) (mvT hZ (ww hw 3 rfl)) (by decide) (backOf (W := 0) (rm1_3 l Z a0 hw [] x0 r2 c3 r4 r5 r6 r7 r8 r9 h0 n0 O0 f1 f2 f3 f4 hc5 f6 hc7 f8 hc9 f10 hc11 f12 hc13 f14 hc15) hZ (ww hw 3 rfl) (ww hw 2 rfl) (by decide) (by decide)) (g := (mkF m 6 #[.val (.int x0), .val (.int x1), .val (.int (x1 &&& (7 : Int32))), .unset, .unset] [(.int x0)])) rfl (by rw [hml]; rfl) (argsL := [(.int x0)]) (rest := []) (lenOf pd__I_Lcom_example_wiregather_wiregather_wire_FieldType_ rfl) rfl (by show 2 * 0 + _ ≤ _; exact Nat.le_of_eq rfl) (hb hby at_6) (fun _ _ => ⟨rfl, e0, (by decide : 0 + 1 ≤ _), (by decide : 0 + 6 ≤ _)⟩)
  dsimp only [Pt.U, Pt.locs, Pt.cells, Pt.slots] at X16 l16 y16 z16 st16 hQ16
  subst l16 y16 z16
  obtain ⟨rfl, N16q, K16⟩ := hQ16
  have N16 := Fr.app N0 N16q
  have o23 := Old.keep O0 K16 all0
  obtain ⟨_, _, ⟨T24, L24, k24, n24⟩, -, X24, ⟨Lc24, hQ24, l24, y24, z24⟩, st24⟩ := Jvm.LawKit.callS X16 hx (y := (⟨cs0, "ofCode", cs3⟩ : MethodName)) hown (mvT hZ (ww hw 0 rfl)) (mvT hZ (ww hw 1 rfl)) (mvT hZ (ww hw 2 rfl)) (mvT hZ (ww hw 3 rfl)) (by decide) (backOf (W := 0) (rm1_2 l Z a0 hw [] (x1 &&& (7 : Int32)) r2 c3 r4 r5 r6 r7 r8 r9 T16.heap n0 o23 f1 f2 f3 f4 hc17 f6 hc18 f8 hc19 f10 hc20 f12 hc21 f14 hc22) hZ (ww hw 3 rfl) (ww hw 2 rfl) (by decide) (by decide)) (g := (mkF m 11 #[.val (.int x0), .val (.int x1), .val (.int (x1 &&& (7 : Int32))), .val (.ref r5), .unset] [(.int (x1 &&& (7 : Int32)))])) rfl (by rw [hml]; rfl) (argsL := [(.int (x1 &&& (7 : Int32)))]) (rest := []) (lenOf pd__I_Lcom_example_wiregather_wiregather_wire_FieldType_ rfl) rfl (by show 2 * 0 + _ ≤ _; exact Nat.le_of_eq rfl) (hb hby at_11) (fun _ _ => ⟨rfl, rfl, (by decide : 1 + 1 ≤ _), (by decide : 6 + 6 ≤ _)⟩)
  dsimp only [Pt.U, Pt.locs, Pt.cells, Pt.slots] at X24 l24 y24 z24 st24 hQ24
  subst l24 y24 z24
  obtain ⟨rfl, N24q, K24⟩ := hQ24
  have N24 := Fr.app N16 N24q
  have o28 := Old.keep o23 K24 all0
  obtain ⟨_, _, ⟨T29, L29, k29, n29⟩, -, X29, ⟨Lc29, hQ29, l29, y29, z29⟩, st29⟩ := Jvm.LawKit.callS X24 hx (y := (⟨cs4, "expected", cs3⟩ : MethodName)) hown (mvT hZ (ww hw 27 rfl)) (mvT hZ (ww hw 28 rfl)) (mvT hZ (ww hw 29 rfl)) (mvT hZ (ww hw 30 rfl)) (by decide) (backOf (W := 1) (rm3_3 l Z a0 hw [] x0 r5 T24.heap n0 o28 hc25 hc26 f27) hZ (ww hw 30 rfl) (ww hw 29 rfl) (by decide) (by decide)) (g := (mkF m 18 #[.val (.int x0), .val (.int x1), .val (.int (x1 &&& (7 : Int32))), .val (.ref r5), .val .null] [(.int x0), (.ref r5)])) rfl (by rw [hml]; rfl) (argsL := [(.int x0)]) (rest := [(.ref r5)]) (lenOf pd__I_Lcom_example_wiregather_wiregather_wire_FieldType_ rfl) rfl (by show 2 * 0 + _ ≤ _; exact Nat.le_of_eq rfl) (hb hby at_18) (fun _ _ => ⟨rfl, rfl, (by decide : 2 + 0 ≤ _), (by decide : 12 + 0 ≤ _)⟩)
  dsimp only [Pt.U, Pt.locs, Pt.cells, Pt.slots] at X29 l29 y29 z29 st29 hQ29
  subst l29 y29 z29
  obtain ⟨rfl, N29q, E29⟩ := hQ29
  have N29 := Fr.app N24 N29q
  obtain ⟨_, _, ⟨T36, L36, k36, n36⟩, -, X36, ⟨Lc36, hQ36, l36, y36, z36⟩, st36⟩ := Jvm.LawKit.callS X29 hx (y := (⟨cs4, "expected", cs3⟩ : MethodName)) hown (mvT hZ (ww hw 27 rfl)) (mvT hZ (ww hw 28 rfl)) (mvT hZ (ww hw 29 rfl)) (mvT hZ (ww hw 30 rfl)) (by decide) (backOf (W := 1) (rm3_2 l Z a0 hw [] (x1 &&& (7 : Int32)) T24.heap n0 o28 hc30 hc31 hc32 hc33 hc34 hc35) hZ (ww hw 30 rfl) (ww hw 29 rfl) (by decide) (by decide)) (g := (mkF m 27 #[.val (.int x0), .val (.int x1), .val (.int (x1 &&& (7 : Int32))), .val (.ref r5), .val .null] [(.int (x1 &&& (7 : Int32))), .null])) rfl (by rw [hml]; rfl) (argsL := [(.int (x1 &&& (7 : Int32)))]) (rest := [.null]) (lenOf pd__I_Lcom_example_wiregather_wiregather_wire_FieldType_ rfl) rfl (by show 2 * 0 + _ ≤ _; exact Nat.le_of_eq rfl) (hb hby at_27) (fun _ _ => ⟨rfl, E29, (by decide : 2 + 0 ≤ _), (by decide : 12 + 0 ≤ _)⟩)
  dsimp only [Pt.U, Pt.locs, Pt.cells, Pt.slots] at X36 l36 y36 z36 st36 hQ36
  subst l36 y36 z36
  obtain ⟨rfl, N36q, E36⟩ := hQ36
  have N36 := Fr.app N29 N36q
  obtain ⟨fs, hr, hrun, hended, hW, hsame⟩ := X36.leave (v := some (.int (1 : Int32))) (fun h => by rw [Bd.returns] at h; cases h)
  refine ⟨_, _, pre0 _ ?_, hrun, hended, _, _, rfl, ?_, ⟨_, rfl⟩, hW, hsame.mono (by decide) (by decide)⟩
  · show Steps p.tables e below (s₁.setTop (mkF m 0 #[.val (.int x0), .val (.int x1), .unset, .unset, .unset] [])) _
    refine XS.iloadN X0.here hx rfl (hb hby at_0) rfl ?_
    refine XS.bipush X0.here hx rfl (hb hby at_1) ?_
    refine XS.iand X0.here hx rfl (hb hby at_3) rfl ?_
    refine XS.istoreN X0.here hx rfl (hb hby at_4) rfl (l' := #[.val (.int x0), .val (.int x1), .val (.int (x1 &&& (7 : Int32))), .unset, .unset]) rfl ?_
    show Steps p.tables e below (s₁.setTop (mkF m 5 #[.val (.int x0), .val (.int x1), .val (.int (x1 &&& (7 : Int32))), .unset, .unset] [])) _
    refine XS.iloadN X0.here hx rfl (hb hby at_5) rfl ?_
    refine st16 _ ?_
    show Steps p.tables e below (T16.setTop (mkF m 9 #[.val (.int x0), .val (.int x1), .val (.int (x1 &&& (7 : Int32))), .unset, .unset] [(.ref r5)])) _
    refine XS.astoreN X16.here hx rfl (hb hby at_9) rfl rfl (l' := #[.val (.int x0), .val (.int x1), .val (.int (x1 &&& (7 : Int32))), .val (.ref r5), .unset]) rfl ?_
    refine XS.iloadN X16.here hx rfl (hb hby at_10) rfl ?_
    refine st24 _ ?_
    show Steps p.tables e below (T24.setTop (mkF m 14 #[.val (.int x0), .val (.int x1), .val (.int (x1 &&& (7 : Int32))), .val (.ref r5), .unset] [.null])) _
    refine XS.astore X24.here hx rfl (hb hby at_14) rfl rfl (l' := #[.val (.int x0), .val (.int x1), .val (.int (x1 &&& (7 : Int32))), .val (.ref r5), .val .null]) rfl ?_
    refine XS.aloadN X24.here hx rfl (hb hby at_16) rfl rfl ?_
    refine XS.iloadN X24.here hx rfl (hb hby at_17) rfl ?_
    refine st29 _ ?_
    show Steps p.tables e below (T29.setTop (mkF m 21 #[.val (.int x0), .val (.int x1), .val (.int (x1 &&& (7 : Int32))), .val (.ref r5), .val .null] [(.ref r5), (.ref r5)])) _
    refine Jvm.RoadKit.acmp (g := (mkF m 21 #[.val (.int x0), .val (.int x1), .val (.int (x1 &&& (7 : Int32))), .val (.ref r5), .val .null] [(.ref r5), (.ref r5)])) X29 hx rfl rfl rfl (pc0 := 21) (pc' := 24) (same := true) rfl (hb hby at_21) rfl (decide_eq_true rfl) (by decide) (by decide) ?_
    show Steps p.tables e below (T29.setTop (mkF m 24 #[.val (.int x0), .val (.int x1), .val (.int (x1 &&& (7 : Int32))), .val (.ref r5), .val .null] [])) _
    refine XS.aload X29.here hx rfl (hb hby at_24) rfl rfl ?_
    refine XS.iloadN X29.here hx rfl (hb hby at_26) rfl ?_
    refine st36 _ ?_
    show Steps p.tables e below (T36.setTop (mkF m 30 #[.val (.int x0), .val (.int x1), .val (.int (x1 &&& (7 : Int32))), .val (.ref r5), .val .null] [.null, .null])) _
    refine Jvm.RoadKit.acmp (g := (mkF m 30 #[.val (.int x0), .val (.int x1), .val (.int (x1 &&& (7 : Int32))), .val (.ref r5), .val .null] [.null, .null])) X36 hx rfl rfl rfl (pc0 := 30) (pc' := 33) (same := true) rfl (hb hby at_30) rfl (decide_eq_true rfl) (by decide) (by decide) ?_
    show Steps p.tables e below (T36.setTop (mkF m 33 #[.val (.int x0), .val (.int x1), .val (.int (x1 &&& (7 : Int32))), .val (.ref r5), .val .null] [])) _
    refine XS.iconst X36.here hx rfl (hb hby at_33) ?_
    refine XS.goto X36.here hx rfl (pc0 := 34) (pc' := 38) rfl (hb hby at_34) (by decide) (by decide) ?_
    show Steps p.tables e below (T36.setTop (mkF m 38 #[.val (.int x0), .val (.int x1), .val (.int (x1 &&& (7 : Int32))), .val (.ref r5), .val .null] [(.int (1 : Int32))])) _
    exact retN X36 hx (t := .boolean) Bd.returns (by simp) (hb hby at_38) hr
  · show Q0_8 Z x0 x1 r2 c3 r4 r5 r6 r7 r8 r9 h0 n0 _ T36.heap _
    rw [E36]
    exact ⟨rfl, N36⟩
def Q0_9 (Z : State) (x0 : Int32) (x1 : Int32) (r2 : Addr) (c3 : ClassId) (r4 : Addr) (r5 : Addr) (r6 : Addr) (r7 : Addr) (r8 : Addr) (r9 : Addr) (h0 : Heap) (n0 : Nat) (v : Option Value) (h : Heap) (L : List Loc) : Prop := v = some (.int (1 : Int32)) ∧ Fr n0 L
set_option maxRecDepth 65536 in
set_option maxHeartbeats 40000000 in
theorem rm0_9 (l : Launch) (Z : State) (a0 : Array Value) (hw : ∀ d ∈ tables_1, d.before a0 Z = true) (ws : List Jvm.Cond) (x0 : Int32) (x1 : Int32) (r2 : Addr) (c3 : ClassId) (r4 : Addr) (r5 : Addr) (r6 : Addr) (r7 : Addr) (r8 : Addr) (r9 : Addr) (h0 : Heap) (n0 : Nat) (O0 : Old Z n0 h0) (f1 : Sta Z Z.heap cs0 "$VALUES" cs1 (.ref r2)) (f2 : Exa Z Z.heap r2 cs1) (f3 : Arv Z Z.heap r2 c3 (.object cs0) (6 : Int32) [(.ref r4), (.ref r5), (.ref r6), (.ref r7), (.ref r8), (.ref r9)] .null) (f4 : Fld Z Z.heap r4 cs0 "code" "I" (.int (1 : Int32))) (hc5 : ¬ ((1 : Int32) = x0)) (f6 : Fld Z Z.heap r5 cs0 "code" "I" (.int (2 : Int32))) (hc7 : (2 : Int32) = x0) (f8 : Fld Z Z.heap r6 cs0 "code" "I" (.int (3 : Int32))) (hc9 : ¬ ((3 : Int32) = x0)) (f10 : Fld Z Z.heap r7 cs0 "code" "I" (.int (4 : Int32))) (hc11 : ¬ ((4 : Int32) = x0)) (f12 : Fld Z Z.heap r8 cs0 "code" "I" (.int (5 : Int32))) (hc13 : ¬ ((5 : Int32) = x0)) (f14 : Fld Z Z.heap r9 cs0 "code" "I" (.int (6 : Int32))) (hc15 : ¬ ((6 : Int32) = x0)) (hc17 : (1 : Int32) = (x1 &&& (7 : Int32))) (hc18 : ¬ ((2 : Int32) = (x1 &&& (7 : Int32)))) (hc19 : ¬ ((3 : Int32) = (x1 &&& (7 : Int32)))) (hc20 : ¬ ((4 : Int32) = (x1 &&& (7 : Int32)))) (hc21 : ¬ ((5 : Int32) = (x1 &&& (7 : Int32)))) (hc22 : ¬ ((6 : Int32) = (x1 &&& (7 : Int32)))) (hc25 : ¬ (x0 = (1 : Int32))) (hc26 : x0 = (2 : Int32)) (f27 : Sta Z Z.heap cs0 "U32" cs5 (.ref r5)) (hc30 : (x1 &&& (7 : Int32)) = (1 : Int32)) (f31 : Sta Z Z.heap cs0 "I32" cs5 (.ref r4)) :
    MetFree l x (head1 (Jvm.Cond.code x code maxLocals ret :: ws) room_1) (fun a U => a = #[(.int x0), (.int x1)] ∧ Z.Warmed39 U.vm ∧ U.heap = h0) (fun _ _ _ _ _ => True) (fun _ U o U' => ∃ v L, o = .returned v ∧ Q0_9 Z x0 x1 r2 c3 r4 r5 r6 r7 r8 r9 h0 n0 v U'.heap L ∧ FrameEnd U o U' L room_1.cells room_1.slots) := by
  refine MetFree.of_bodySF (plainFor_of_name pn_com_example_wiregather_wiregather_wire_FieldTypeOfCodePinLaw) hisR ?_
  intro p e s m args below meth c s₁ Bd hml0 hP hK
  obtain ⟨rfl, hZ, hh⟩ := hP
  have hx := Bd.exec
  have hby := Bd.bytes
  have hml : c.maxLocals = 5 := hml0
  have hown : s.vm.findClass cs4 = some m.cls := findClass_of_methodNamed Bd.named
  have hnm := (name_of_methodNamed Bd.named Bd.method).1
  have X0 : Stand p l e room_1 s m #[(.int x0), (.int x1)] below meth c s₁ [] 0 0 := Stand.of_body Bd
  have e0 : s₁.heap = h0 := by rw [← hh, Bd.state]; rfl
  have N0 := Fr.nil n0
  have pre0 : ∀ t, Steps p.tables e below (s₁.setTop (mkF m 0 #[.val (.int x0), .val (.int x1), .unset, .unset, .unset] [])) t → Steps p.tables e below (s₁.setTop (entryFrame m #[(.int x0), (.int x1)] maxLocals)) t := fun t k => castTop (by first | (simp [entryFrame, mkF, argsToLocals, Value.category, maxLocals]; done) | rfl) k
  obtain ⟨_, _, ⟨T16, L16, k16, n16⟩, -, X16, ⟨Lc16, hQ16, l16, y16, z16⟩, st16⟩ := Jvm.LawKit.callS X0 hx (y := (⟨cs0, "ofCode", cs3⟩ : MethodName)) hown (mvT hZ (ww hw 0 rfl)) (mvT hZ (ww hw 1 rfl)) (mvT hZ (ww hw 2 rfl)) (mvT hZ (ww hw 3 rfl)) (by decide) (backOf (W := 0) (rm1_3 l Z a0 hw [] x0 r2 c3 r4 r5 r6 r7 r8 r9 h0 n0 O0 f1 f2 f3 f4 hc5 f6 hc7 f8 hc9 f10 hc11 f12 hc13 f14 hc15) hZ (ww hw 3 rfl) (ww hw 2 rfl) (by decide) (by decide)) (g := (mkF m 6 #[.val (.int x0), .val (.int x1), .val (.int (x1 &&& (7 : Int32))), .unset, .unset] [(.int x0)])) rfl (by rw [hml]; rfl) (argsL := [(.int x0)]) (rest := []) (lenOf pd__I_Lcom_example_wiregather_wiregather_wire_FieldType_ rfl) rfl (by show 2 * 0 + _ ≤ _; exact Nat.le_of_eq rfl) (hb hby at_6) (fun _ _ => ⟨rfl, e0, (by decide : 0 + 1 ≤ _), (by decide : 0 + 6 ≤ _)⟩)
  dsimp only [Pt.U, Pt.locs, Pt.cells, Pt.slots] at X16 l16 y16 z16 st16 hQ16
  subst l16 y16 z16
  obtain ⟨rfl, N16q, K16⟩ := hQ16
  have N16 := Fr.app N0 N16q
  have o23 := Old.keep O0 K16 all0
  obtain ⟨_, _, ⟨T24, L24, k24, n24⟩, -, X24, ⟨Lc24, hQ24, l24, y24, z24⟩, st24⟩ := Jvm.LawKit.callS X16 hx (y := (⟨cs0, "ofCode", cs3⟩ : MethodName)) hown (mvT hZ (ww hw 0 rfl)) (mvT hZ (ww hw 1 rfl)) (mvT hZ (ww hw 2 rfl)) (mvT hZ (ww hw 3 rfl)) (by decide) (backOf (W := 0) (rm1_1 l Z a0 hw [] (x1 &&& (7 : Int32)) r2 c3 r4 r5 r6 r7 r8 r9 T16.heap n0 o23 f1 f2 f3 f4 hc17 f6 hc18 f8 hc19 f10 hc20 f12 hc21 f14 hc22) hZ (ww hw 3 rfl) (ww hw 2 rfl) (by decide) (by decide)) (g := (mkF m 11 #[.val (.int x0), .val (.int x1), .val (.int (x1 &&& (7 : Int32))), .val (.ref r5), .unset] [(.int (x1 &&& (7 : Int32)))])) rfl (by rw [hml]; rfl) (argsL := [(.int (x1 &&& (7 : Int32)))]) (rest := []) (lenOf pd__I_Lcom_example_wiregather_wiregather_wire_FieldType_ rfl) rfl (by show 2 * 0 + _ ≤ _; exact Nat.le_of_eq rfl) (hb hby at_11) (fun _ _ => ⟨rfl, rfl, (by decide : 1 + 1 ≤ _), (by decide : 6 + 6 ≤ _)⟩)
  dsimp only [Pt.U, Pt.locs, Pt.cells, Pt.slots] at X24 l24 y24 z24 st24 hQ24
  subst l24 y24 z24
  obtain ⟨rfl, N24q, K24⟩ := hQ24
  have N24 := Fr.app N16 N24q
  have o28 := Old.keep o23 K24 all0
  obtain ⟨_, _, ⟨T29, L29, k29, n29⟩, -, X29, ⟨Lc29, hQ29, l29, y29, z29⟩, st29⟩ := Jvm.LawKit.callS X24 hx (y := (⟨cs4, "expected", cs3⟩ : MethodName)) hown (mvT hZ (ww hw 27 rfl)) (mvT hZ (ww hw 28 rfl)) (mvT hZ (ww hw 29 rfl)) (mvT hZ (ww hw 30 rfl)) (by decide) (backOf (W := 1) (rm3_3 l Z a0 hw [] x0 r5 T24.heap n0 o28 hc25 hc26 f27) hZ (ww hw 30 rfl) (ww hw 29 rfl) (by decide) (by decide)) (g := (mkF m 18 #[.val (.int x0), .val (.int x1), .val (.int (x1 &&& (7 : Int32))), .val (.ref r5), .val (.ref r4)] [(.int x0), (.ref r5)])) rfl (by rw [hml]; rfl) (argsL := [(.int x0)]) (rest := [(.ref r5)]) (lenOf pd__I_Lcom_example_wiregather_wiregather_wire_FieldType_ rfl) rfl (by show 2 * 0 + _ ≤ _; exact Nat.le_of_eq rfl) (hb hby at_18) (fun _ _ => ⟨rfl, rfl, (by decide : 2 + 0 ≤ _), (by decide : 12 + 0 ≤ _)⟩)
  dsimp only [Pt.U, Pt.locs, Pt.cells, Pt.slots] at X29 l29 y29 z29 st29 hQ29
  subst l29 y29 z29
  obtain ⟨rfl, N29q, E29⟩ := hQ29
  have N29 := Fr.app N24 N29q
  obtain ⟨_, _, ⟨T32, L32, k32, n32⟩, -, X32, ⟨Lc32, hQ32, l32, y32, z32⟩, st32⟩ := Jvm.LawKit.callS X29 hx (y := (⟨cs4, "expected", cs3⟩ : MethodName)) hown (mvT hZ (ww hw 27 rfl)) (mvT hZ (ww hw 28 rfl)) (mvT hZ (ww hw 29 rfl)) (mvT hZ (ww hw 30 rfl)) (by decide) (backOf (W := 1) (rm3_1 l Z a0 hw [] (x1 &&& (7 : Int32)) r4 T24.heap n0 o28 hc30 f31) hZ (ww hw 30 rfl) (ww hw 29 rfl) (by decide) (by decide)) (g := (mkF m 27 #[.val (.int x0), .val (.int x1), .val (.int (x1 &&& (7 : Int32))), .val (.ref r5), .val (.ref r4)] [(.int (x1 &&& (7 : Int32))), (.ref r4)])) rfl (by rw [hml]; rfl) (argsL := [(.int (x1 &&& (7 : Int32)))]) (rest := [(.ref r4)]) (lenOf pd__I_Lcom_example_wiregather_wiregather_wire_FieldType_ rfl) rfl (by show 2 * 0 + _ ≤ _; exact Nat.le_of_eq rfl) (hb hby at_27) (fun _ _ => ⟨rfl, E29, (by decide : 2 + 0 ≤ _), (by decide : 12 + 0 ≤ _)⟩)
  dsimp only [Pt.U, Pt.locs, Pt.cells, Pt.slots] at X32 l32 y32 z32 st32 hQ32
  subst l32 y32 z32
  obtain ⟨rfl, N32q, E32⟩ := hQ32
  have N32 := Fr.app N29 N32q
  obtain ⟨fs, hr, hrun, hended, hW, hsame⟩ := X32.leave (v := some (.int (1 : Int32))) (fun h => by rw [Bd.returns] at h; cases h)
  refine ⟨_, _, pre0 _ ?_, hrun, hended, _, _, rfl, ?_, ⟨_, rfl⟩, hW, hsame.mono (by decide) (by decide)⟩
  · show Steps p.tables e below (s₁.setTop (mkF m 0 #[.val (.int x0), .val (.int x1), .unset, .unset, .unset] [])) _
    refine XS.iloadN X0.here hx rfl (hb hby at_0) rfl ?_
    refine XS.bipush X0.here hx rfl (hb hby at_1) ?_
    refine XS.iand X0.here hx rfl (hb hby at_3) rfl ?_
    refine XS.istoreN X0.here hx rfl (hb hby at_4) rfl (l' := #[.val (.int x0), .val (.int x1), .val (.int (x1 &&& (7 : Int32))), .unset, .unset]) rfl ?_
    show Steps p.tables e below (s₁.setTop (mkF m 5 #[.val (.int x0), .val (.int x1), .val (.int (x1 &&& (7 : Int32))), .unset, .unset] [])) _
    refine XS.iloadN X0.here hx rfl (hb hby at_5) rfl ?_
    refine st16 _ ?_
    show Steps p.tables e below (T16.setTop (mkF m 9 #[.val (.int x0), .val (.int x1), .val (.int (x1 &&& (7 : Int32))), .unset, .unset] [(.ref r5)])) _
    refine XS.astoreN X16.here hx rfl (hb hby at_9) rfl rfl (l' := #[.val (.int x0), .val (.int x1), .val (.int (x1 &&& (7 : Int32))), .val (.ref r5), .unset]) rfl ?_
    refine XS.iloadN X16.here hx rfl (hb hby at_10) rfl ?_
    refine st24 _ ?_
    show Steps p.tables e below (T24.setTop (mkF m 14 #[.val (.int x0), .val (.int x1), .val (.int (x1 &&& (7 : Int32))), .val (.ref r5), .unset] [(.ref r4)])) _
    refine XS.astore X24.here hx rfl (hb hby at_14) rfl rfl (l' := #[.val (.int x0), .val (.int x1), .val (.int (x1 &&& (7 : Int32))), .val (.ref r5), .val (.ref r4)]) rfl ?_
    refine XS.aloadN X24.here hx rfl (hb hby at_16) rfl rfl ?_
    refine XS.iloadN X24.here hx rfl (hb hby at_17) rfl ?_
    refine st29 _ ?_
    show Steps p.tables e below (T29.setTop (mkF m 21 #[.val (.int x0), .val (.int x1), .val (.int (x1 &&& (7 : Int32))), .val (.ref r5), .val (.ref r4)] [(.ref r5), (.ref r5)])) _
    refine Jvm.RoadKit.acmp (g := (mkF m 21 #[.val (.int x0), .val (.int x1), .val (.int (x1 &&& (7 : Int32))), .val (.ref r5), .val (.ref r4)] [(.ref r5), (.ref r5)])) X29 hx rfl rfl rfl (pc0 := 21) (pc' := 24) (same := true) rfl (hb hby at_21) rfl (decide_eq_true rfl) (by decide) (by decide) ?_
    show Steps p.tables e below (T29.setTop (mkF m 24 #[.val (.int x0), .val (.int x1), .val (.int (x1 &&& (7 : Int32))), .val (.ref r5), .val (.ref r4)] [])) _
    refine XS.aload X29.here hx rfl (hb hby at_24) rfl rfl ?_
    refine XS.iloadN X29.here hx rfl (hb hby at_26) rfl ?_
    refine st32 _ ?_
    show Steps p.tables e below (T32.setTop (mkF m 30 #[.val (.int x0), .val (.int x1), .val (.int (x1 &&& (7 : Int32))), .val (.ref r5), .val (.ref r4)] [(.ref r4), (.ref r4)])) _
    refine Jvm.RoadKit.acmp (g := (mkF m 30 #[.val (.int x0), .val (.int x1), .val (.int (x1 &&& (7 : Int32))), .val (.ref r5), .val (.ref r4)] [(.ref r4), (.ref r4)])) X32 hx rfl rfl rfl (pc0 := 30) (pc' := 33) (same := true) rfl (hb hby at_30) rfl (decide_eq_true rfl) (by decide) (by decide) ?_
    show Steps p.tables e below (T32.setTop (mkF m 33 #[.val (.int x0), .val (.int x1), .val (.int (x1 &&& (7 : Int32))), .val (.ref r5), .val (.ref r4)] [])) _
    refine XS.iconst X32.here hx rfl (hb hby at_33) ?_
    refine XS.goto X32.here hx rfl (pc0 := 34) (pc' := 38) rfl (hb hby at_34) (by decide) (by decide) ?_
    show Steps p.tables e below (T32.setTop (mkF m 38 #[.val (.int x0), .val (.int x1), .val (.int (x1 &&& (7 : Int32))), .val (.ref r5), .val (.ref r4)] [(.int (1 : Int32))])) _
    exact retN X32 hx (t := .boolean) Bd.returns (by simp) (hb hby at_38) hr
  · show Q0_9 Z x0 x1 r2 c3 r4 r5 r6 r7 r8 r9 h0 n0 _ T32.heap _
    rw [E32]
    exact ⟨rfl, N32⟩
def Q0_10 (Z : State) (x0 : Int32) (x1 : Int32) (r2 : Addr) (c3 : ClassId) (r4 : Addr) (r5 : Addr) (r6 : Addr) (r7 : Addr) (r8 : Addr) (r9 : Addr) (h0 : Heap) (n0 : Nat) (v : Option Value) (h : Heap) (L : List Loc) : Prop := v = some (.int (1 : Int32)) ∧ Fr n0 L
set_option maxRecDepth 65536 in
set_option maxHeartbeats 40000000 in
theorem rm0_10 (l : Launch) (Z : State) (a0 : Array Value) (hw : ∀ d ∈ tables_1, d.before a0 Z = true) (ws : List Jvm.Cond) (x0 : Int32) (x1 : Int32) (r2 : Addr) (c3 : ClassId) (r4 : Addr) (r5 : Addr) (r6 : Addr) (r7 : Addr) (r8 : Addr) (r9 : Addr) (h0 : Heap) (n0 : Nat) (O0 : Old Z n0 h0) (f1 : Sta Z Z.heap cs0 "$VALUES" cs1 (.ref r2)) (f2 : Exa Z Z.heap r2 cs1) (f3 : Arv Z Z.heap r2 c3 (.object cs0) (6 : Int32) [(.ref r4), (.ref r5), (.ref r6), (.ref r7), (.ref r8), (.ref r9)] .null) (f4 : Fld Z Z.heap r4 cs0 "code" "I" (.int (1 : Int32))) (hc5 : ¬ ((1 : Int32) = x0)) (f6 : Fld Z Z.heap r5 cs0 "code" "I" (.int (2 : Int32))) (hc7 : (2 : Int32) = x0) (f8 : Fld Z Z.heap r6 cs0 "code" "I" (.int (3 : Int32))) (hc9 : ¬ ((3 : Int32) = x0)) (f10 : Fld Z Z.heap r7 cs0 "code" "I" (.int (4 : Int32))) (hc11 : ¬ ((4 : Int32) = x0)) (f12 : Fld Z Z.heap r8 cs0 "code" "I" (.int (5 : Int32))) (hc13 : ¬ ((5 : Int32) = x0)) (f14 : Fld Z Z.heap r9 cs0 "code" "I" (.int (6 : Int32))) (hc15 : ¬ ((6 : Int32) = x0)) (hc17 : ¬ ((1 : Int32) = (x1 &&& (7 : Int32)))) (hc18 : (2 : Int32) = (x1 &&& (7 : Int32))) (hc19 : ¬ ((3 : Int32) = (x1 &&& (7 : Int32)))) (hc20 : ¬ ((4 : Int32) = (x1 &&& (7 : Int32)))) (hc21 : ¬ ((5 : Int32) = (x1 &&& (7 : Int32)))) (hc22 : ¬ ((6 : Int32) = (x1 &&& (7 : Int32)))) (hc25 : ¬ (x0 = (1 : Int32))) (hc26 : x0 = (2 : Int32)) (f27 : Sta Z Z.heap cs0 "U32" cs5 (.ref r5)) (hc30 : ¬ ((x1 &&& (7 : Int32)) = (1 : Int32))) (hc31 : (x1 &&& (7 : Int32)) = (2 : Int32)) :
    MetFree l x (head1 (Jvm.Cond.code x code maxLocals ret :: ws) room_1) (fun a U => a = #[(.int x0), (.int x1)] ∧ Z.Warmed39 U.vm ∧ U.heap = h0) (fun _ _ _ _ _ => True) (fun _ U o U' => ∃ v L, o = .returned v ∧ Q0_10 Z x0 x1 r2 c3 r4 r5 r6 r7 r8 r9 h0 n0 v U'.heap L ∧ FrameEnd U o U' L room_1.cells room_1.slots) := by
  refine MetFree.of_bodySF (plainFor_of_name pn_com_example_wiregather_wiregather_wire_FieldTypeOfCodePinLaw) hisR ?_
  intro p e s m args below meth c s₁ Bd hml0 hP hK
  obtain ⟨rfl, hZ, hh⟩ := hP
  have hx := Bd.exec
  have hby := Bd.bytes
  have hml : c.maxLocals = 5 := hml0
  have hown : s.vm.findClass cs4 = some m.cls := findClass_of_methodNamed Bd.named
  have hnm := (name_of_methodNamed Bd.named Bd.method).1
  have X0 : Stand p l e room_1 s m #[(.int x0), (.int x1)] below meth c s₁ [] 0 0 := Stand.of_body Bd
  have e0 : s₁.heap = h0 := by rw [← hh, Bd.state]; rfl
  have N0 := Fr.nil n0
  have pre0 : ∀ t, Steps p.tables e below (s₁.setTop (mkF m 0 #[.val (.int x0), .val (.int x1), .unset, .unset, .unset] [])) t → Steps p.tables e below (s₁.setTop (entryFrame m #[(.int x0), (.int x1)] maxLocals)) t := fun t k => castTop (by first | (simp [entryFrame, mkF, argsToLocals, Value.category, maxLocals]; done) | rfl) k
  obtain ⟨_, _, ⟨T16, L16, k16, n16⟩, -, X16, ⟨Lc16, hQ16, l16, y16, z16⟩, st16⟩ := Jvm.LawKit.callS X0 hx (y := (⟨cs0, "ofCode", cs3⟩ : MethodName)) hown (mvT hZ (ww hw 0 rfl)) (mvT hZ (ww hw 1 rfl)) (mvT hZ (ww hw 2 rfl)) (mvT hZ (ww hw 3 rfl)) (by decide) (backOf (W := 0) (rm1_3 l Z a0 hw [] x0 r2 c3 r4 r5 r6 r7 r8 r9 h0 n0 O0 f1 f2 f3 f4 hc5 f6 hc7 f8 hc9 f10 hc11 f12 hc13 f14 hc15) hZ (ww hw 3 rfl) (ww hw 2 rfl) (by decide) (by decide)) (g := (mkF m 6 #[.val (.int x0), .val (.int x1), .val (.int (x1 &&& (7 : Int32))), .unset, .unset] [(.int x0)])) rfl (by rw [hml]; rfl) (argsL := [(.int x0)]) (rest := []) (lenOf pd__I_Lcom_example_wiregather_wiregather_wire_FieldType_ rfl) rfl (by show 2 * 0 + _ ≤ _; exact Nat.le_of_eq rfl) (hb hby at_6) (fun _ _ => ⟨rfl, e0, (by decide : 0 + 1 ≤ _), (by decide : 0 + 6 ≤ _)⟩)
  dsimp only [Pt.U, Pt.locs, Pt.cells, Pt.slots] at X16 l16 y16 z16 st16 hQ16
  subst l16 y16 z16
  obtain ⟨rfl, N16q, K16⟩ := hQ16
  have N16 := Fr.app N0 N16q
  have o23 := Old.keep O0 K16 all0
  obtain ⟨_, _, ⟨T24, L24, k24, n24⟩, -, X24, ⟨Lc24, hQ24, l24, y24, z24⟩, st24⟩ := Jvm.LawKit.callS X16 hx (y := (⟨cs0, "ofCode", cs3⟩ : MethodName)) hown (mvT hZ (ww hw 0 rfl)) (mvT hZ (ww hw 1 rfl)) (mvT hZ (ww hw 2 rfl)) (mvT hZ (ww hw 3 rfl)) (by decide) (backOf (W := 0) (rm1_3 l Z a0 hw [] (x1 &&& (7 : Int32)) r2 c3 r4 r5 r6 r7 r8 r9 T16.heap n0 o23 f1 f2 f3 f4 hc17 f6 hc18 f8 hc19 f10 hc20 f12 hc21 f14 hc22) hZ (ww hw 3 rfl) (ww hw 2 rfl) (by decide) (by decide)) (g := (mkF m 11 #[.val (.int x0), .val (.int x1), .val (.int (x1 &&& (7 : Int32))), .val (.ref r5), .unset] [(.int (x1 &&& (7 : Int32)))])) rfl (by rw [hml]; rfl) (argsL := [(.int (x1 &&& (7 : Int32)))]) (rest := []) (lenOf pd__I_Lcom_example_wiregather_wiregather_wire_FieldType_ rfl) rfl (by show 2 * 0 + _ ≤ _; exact Nat.le_of_eq rfl) (hb hby at_11) (fun _ _ => ⟨rfl, rfl, (by decide : 1 + 1 ≤ _), (by decide : 6 + 6 ≤ _)⟩)
  dsimp only [Pt.U, Pt.locs, Pt.cells, Pt.slots] at X24 l24 y24 z24 st24 hQ24
  subst l24 y24 z24
  obtain ⟨rfl, N24q, K24⟩ := hQ24
  have N24 := Fr.app N16 N24q
  have o28 := Old.keep o23 K24 all0
  obtain ⟨_, _, ⟨T29, L29, k29, n29⟩, -, X29, ⟨Lc29, hQ29, l29, y29, z29⟩, st29⟩ := Jvm.LawKit.callS X24 hx (y := (⟨cs4, "expected", cs3⟩ : MethodName)) hown (mvT hZ (ww hw 27 rfl)) (mvT hZ (ww hw 28 rfl)) (mvT hZ (ww hw 29 rfl)) (mvT hZ (ww hw 30 rfl)) (by decide) (backOf (W := 1) (rm3_3 l Z a0 hw [] x0 r5 T24.heap n0 o28 hc25 hc26 f27) hZ (ww hw 30 rfl) (ww hw 29 rfl) (by decide) (by decide)) (g := (mkF m 18 #[.val (.int x0), .val (.int x1), .val (.int (x1 &&& (7 : Int32))), .val (.ref r5), .val (.ref r5)] [(.int x0), (.ref r5)])) rfl (by rw [hml]; rfl) (argsL := [(.int x0)]) (rest := [(.ref r5)]) (lenOf pd__I_Lcom_example_wiregather_wiregather_wire_FieldType_ rfl) rfl (by show 2 * 0 + _ ≤ _; exact Nat.le_of_eq rfl) (hb hby at_18) (fun _ _ => ⟨rfl, rfl, (by decide : 2 + 0 ≤ _), (by decide : 12 + 0 ≤ _)⟩)
  dsimp only [Pt.U, Pt.locs, Pt.cells, Pt.slots] at X29 l29 y29 z29 st29 hQ29
  subst l29 y29 z29
  obtain ⟨rfl, N29q, E29⟩ := hQ29
  have N29 := Fr.app N24 N29q
  obtain ⟨_, _, ⟨T32, L32, k32, n32⟩, -, X32, ⟨Lc32, hQ32, l32, y32, z32⟩, st32⟩ := Jvm.LawKit.callS X29 hx (y := (⟨cs4, "expected", cs3⟩ : MethodName)) hown (mvT hZ (ww hw 27 rfl)) (mvT hZ (ww hw 28 rfl)) (mvT hZ (ww hw 29 rfl)) (mvT hZ (ww hw 30 rfl)) (by decide) (backOf (W := 1) (rm3_3 l Z a0 hw [] (x1 &&& (7 : Int32)) r5 T24.heap n0 o28 hc30 hc31 f27) hZ (ww hw 30 rfl) (ww hw 29 rfl) (by decide) (by decide)) (g := (mkF m 27 #[.val (.int x0), .val (.int x1), .val (.int (x1 &&& (7 : Int32))), .val (.ref r5), .val (.ref r5)] [(.int (x1 &&& (7 : Int32))), (.ref r5)])) rfl (by rw [hml]; rfl) (argsL := [(.int (x1 &&& (7 : Int32)))]) (rest := [(.ref r5)]) (lenOf pd__I_Lcom_example_wiregather_wiregather_wire_FieldType_ rfl) rfl (by show 2 * 0 + _ ≤ _; exact Nat.le_of_eq rfl) (hb hby at_27) (fun _ _ => ⟨rfl, E29, (by decide : 2 + 0 ≤ _), (by decide : 12 + 0 ≤ _)⟩)
  dsimp only [Pt.U, Pt.locs, Pt.cells, Pt.slots] at X32 l32 y32 z32 st32 hQ32
  subst l32 y32 z32
  obtain ⟨rfl, N32q, E32⟩ := hQ32
  have N32 := Fr.app N29 N32q
  obtain ⟨fs, hr, hrun, hended, hW, hsame⟩ := X32.leave (v := some (.int (1 : Int32))) (fun h => by rw [Bd.returns] at h; cases h)
  refine ⟨_, _, pre0 _ ?_, hrun, hended, _, _, rfl, ?_, ⟨_, rfl⟩, hW, hsame.mono (by decide) (by decide)⟩
  · show Steps p.tables e below (s₁.setTop (mkF m 0 #[.val (.int x0), .val (.int x1), .unset, .unset, .unset] [])) _
    refine XS.iloadN X0.here hx rfl (hb hby at_0) rfl ?_
    refine XS.bipush X0.here hx rfl (hb hby at_1) ?_
    refine XS.iand X0.here hx rfl (hb hby at_3) rfl ?_
    refine XS.istoreN X0.here hx rfl (hb hby at_4) rfl (l' := #[.val (.int x0), .val (.int x1), .val (.int (x1 &&& (7 : Int32))), .unset, .unset]) rfl ?_
    show Steps p.tables e below (s₁.setTop (mkF m 5 #[.val (.int x0), .val (.int x1), .val (.int (x1 &&& (7 : Int32))), .unset, .unset] [])) _
    refine XS.iloadN X0.here hx rfl (hb hby at_5) rfl ?_
    refine st16 _ ?_
    show Steps p.tables e below (T16.setTop (mkF m 9 #[.val (.int x0), .val (.int x1), .val (.int (x1 &&& (7 : Int32))), .unset, .unset] [(.ref r5)])) _
    refine XS.astoreN X16.here hx rfl (hb hby at_9) rfl rfl (l' := #[.val (.int x0), .val (.int x1), .val (.int (x1 &&& (7 : Int32))), .val (.ref r5), .unset]) rfl ?_
    refine XS.iloadN X16.here hx rfl (hb hby at_10) rfl ?_
    refine st24 _ ?_
    show Steps p.tables e below (T24.setTop (mkF m 14 #[.val (.int x0), .val (.int x1), .val (.int (x1 &&& (7 : Int32))), .val (.ref r5), .unset] [(.ref r5)])) _
    refine XS.astore X24.here hx rfl (hb hby at_14) rfl rfl (l' := #[.val (.int x0), .val (.int x1), .val (.int (x1 &&& (7 : Int32))), .val (.ref r5), .val (.ref r5)]) rfl ?_
    refine XS.aloadN X24.here hx rfl (hb hby at_16) rfl rfl ?_
    refine XS.iloadN X24.here hx rfl (hb hby at_17) rfl ?_
    refine st29 _ ?_
    show Steps p.tables e below (T29.setTop (mkF m 21 #[.val (.int x0), .val (.int x1), .val (.int (x1 &&& (7 : Int32))), .val (.ref r5), .val (.ref r5)] [(.ref r5), (.ref r5)])) _
    refine Jvm.RoadKit.acmp (g := (mkF m 21 #[.val (.int x0), .val (.int x1), .val (.int (x1 &&& (7 : Int32))), .val (.ref r5), .val (.ref r5)] [(.ref r5), (.ref r5)])) X29 hx rfl rfl rfl (pc0 := 21) (pc' := 24) (same := true) rfl (hb hby at_21) rfl (decide_eq_true rfl) (by decide) (by decide) ?_
    show Steps p.tables e below (T29.setTop (mkF m 24 #[.val (.int x0), .val (.int x1), .val (.int (x1 &&& (7 : Int32))), .val (.ref r5), .val (.ref r5)] [])) _
    refine XS.aload X29.here hx rfl (hb hby at_24) rfl rfl ?_
    refine XS.iloadN X29.here hx rfl (hb hby at_26) rfl ?_
    refine st32 _ ?_
    show Steps p.tables e below (T32.setTop (mkF m 30 #[.val (.int x0), .val (.int x1), .val (.int (x1 &&& (7 : Int32))), .val (.ref r5), .val (.ref r5)] [(.ref r5), (.ref r5)])) _
    refine Jvm.RoadKit.acmp (g := (mkF m 30 #[.val (.int x0), .val (.int x1), .val (.int (x1 &&& (7 : Int32))), .val (.ref r5), .val (.ref r5)] [(.ref r5), (.ref r5)])) X32 hx rfl rfl rfl (pc0 := 30) (pc' := 33) (same := true) rfl (hb hby at_30) rfl (decide_eq_true rfl) (by decide) (by decide) ?_
    show Steps p.tables e below (T32.setTop (mkF m 33 #[.val (.int x0), .val (.int x1), .val (.int (x1 &&& (7 : Int32))), .val (.ref r5), .val (.ref r5)] [])) _
    refine XS.iconst X32.here hx rfl (hb hby at_33) ?_
    refine XS.goto X32.here hx rfl (pc0 := 34) (pc' := 38) rfl (hb hby at_34) (by decide) (by decide) ?_
    show Steps p.tables e below (T32.setTop (mkF m 38 #[.val (.int x0), .val (.int x1), .val (.int (x1 &&& (7 : Int32))), .val (.ref r5), .val (.ref r5)] [(.int (1 : Int32))])) _
    exact retN X32 hx (t := .boolean) Bd.returns (by simp) (hb hby at_38) hr
  · show Q0_10 Z x0 x1 r2 c3 r4 r5 r6 r7 r8 r9 h0 n0 _ T32.heap _
    rw [E32]
    exact ⟨rfl, N32⟩
def Q0_11 (Z : State) (x0 : Int32) (x1 : Int32) (r2 : Addr) (c3 : ClassId) (r4 : Addr) (r5 : Addr) (r6 : Addr) (r7 : Addr) (r8 : Addr) (r9 : Addr) (h0 : Heap) (n0 : Nat) (v : Option Value) (h : Heap) (L : List Loc) : Prop := v = some (.int (1 : Int32)) ∧ Fr n0 L
set_option maxRecDepth 65536 in
set_option maxHeartbeats 40000000 in
theorem rm0_11 (l : Launch) (Z : State) (a0 : Array Value) (hw : ∀ d ∈ tables_1, d.before a0 Z = true) (ws : List Jvm.Cond) (x0 : Int32) (x1 : Int32) (r2 : Addr) (c3 : ClassId) (r4 : Addr) (r5 : Addr) (r6 : Addr) (r7 : Addr) (r8 : Addr) (r9 : Addr) (h0 : Heap) (n0 : Nat) (O0 : Old Z n0 h0) (f1 : Sta Z Z.heap cs0 "$VALUES" cs1 (.ref r2)) (f2 : Exa Z Z.heap r2 cs1) (f3 : Arv Z Z.heap r2 c3 (.object cs0) (6 : Int32) [(.ref r4), (.ref r5), (.ref r6), (.ref r7), (.ref r8), (.ref r9)] .null) (f4 : Fld Z Z.heap r4 cs0 "code" "I" (.int (1 : Int32))) (hc5 : ¬ ((1 : Int32) = x0)) (f6 : Fld Z Z.heap r5 cs0 "code" "I" (.int (2 : Int32))) (hc7 : (2 : Int32) = x0) (f8 : Fld Z Z.heap r6 cs0 "code" "I" (.int (3 : Int32))) (hc9 : ¬ ((3 : Int32) = x0)) (f10 : Fld Z Z.heap r7 cs0 "code" "I" (.int (4 : Int32))) (hc11 : ¬ ((4 : Int32) = x0)) (f12 : Fld Z Z.heap r8 cs0 "code" "I" (.int (5 : Int32))) (hc13 : ¬ ((5 : Int32) = x0)) (f14 : Fld Z Z.heap r9 cs0 "code" "I" (.int (6 : Int32))) (hc15 : ¬ ((6 : Int32) = x0)) (hc17 : ¬ ((1 : Int32) = (x1 &&& (7 : Int32)))) (hc18 : ¬ ((2 : Int32) = (x1 &&& (7 : Int32)))) (hc19 : (3 : Int32) = (x1 &&& (7 : Int32))) (hc20 : ¬ ((4 : Int32) = (x1 &&& (7 : Int32)))) (hc21 : ¬ ((5 : Int32) = (x1 &&& (7 : Int32)))) (hc22 : ¬ ((6 : Int32) = (x1 &&& (7 : Int32)))) (hc25 : ¬ (x0 = (1 : Int32))) (hc26 : x0 = (2 : Int32)) (f27 : Sta Z Z.heap cs0 "U32" cs5 (.ref r5)) (hc30 : ¬ ((x1 &&& (7 : Int32)) = (1 : Int32))) (hc31 : ¬ ((x1 &&& (7 : Int32)) = (2 : Int32))) (hc32 : (x1 &&& (7 : Int32)) = (3 : Int32)) (f33 : Sta Z Z.heap cs0 "F32" cs5 (.ref r6)) :
    MetFree l x (head1 (Jvm.Cond.code x code maxLocals ret :: ws) room_1) (fun a U => a = #[(.int x0), (.int x1)] ∧ Z.Warmed39 U.vm ∧ U.heap = h0) (fun _ _ _ _ _ => True) (fun _ U o U' => ∃ v L, o = .returned v ∧ Q0_11 Z x0 x1 r2 c3 r4 r5 r6 r7 r8 r9 h0 n0 v U'.heap L ∧ FrameEnd U o U' L room_1.cells room_1.slots) := by
  refine MetFree.of_bodySF (plainFor_of_name pn_com_example_wiregather_wiregather_wire_FieldTypeOfCodePinLaw) hisR ?_
  intro p e s m args below meth c s₁ Bd hml0 hP hK
  obtain ⟨rfl, hZ, hh⟩ := hP
  have hx := Bd.exec
  have hby := Bd.bytes
  have hml : c.maxLocals = 5 := hml0
  have hown : s.vm.findClass cs4 = some m.cls := findClass_of_methodNamed Bd.named
  have hnm := (name_of_methodNamed Bd.named Bd.method).1
  have X0 : Stand p l e room_1 s m #[(.int x0), (.int x1)] below meth c s₁ [] 0 0 := Stand.of_body Bd
  have e0 : s₁.heap = h0 := by rw [← hh, Bd.state]; rfl
  have N0 := Fr.nil n0
  have pre0 : ∀ t, Steps p.tables e below (s₁.setTop (mkF m 0 #[.val (.int x0), .val (.int x1), .unset, .unset, .unset] [])) t → Steps p.tables e below (s₁.setTop (entryFrame m #[(.int x0), (.int x1)] maxLocals)) t := fun t k => castTop (by first | (simp [entryFrame, mkF, argsToLocals, Value.category, maxLocals]; done) | rfl) k
  obtain ⟨_, _, ⟨T16, L16, k16, n16⟩, -, X16, ⟨Lc16, hQ16, l16, y16, z16⟩, st16⟩ := Jvm.LawKit.callS X0 hx (y := (⟨cs0, "ofCode", cs3⟩ : MethodName)) hown (mvT hZ (ww hw 0 rfl)) (mvT hZ (ww hw 1 rfl)) (mvT hZ (ww hw 2 rfl)) (mvT hZ (ww hw 3 rfl)) (by decide) (backOf (W := 0) (rm1_3 l Z a0 hw [] x0 r2 c3 r4 r5 r6 r7 r8 r9 h0 n0 O0 f1 f2 f3 f4 hc5 f6 hc7 f8 hc9 f10 hc11 f12 hc13 f14 hc15) hZ (ww hw 3 rfl) (ww hw 2 rfl) (by decide) (by decide)) (g := (mkF m 6 #[.val (.int x0), .val (.int x1), .val (.int (x1 &&& (7 : Int32))), .unset, .unset] [(.int x0)])) rfl (by rw [hml]; rfl) (argsL := [(.int x0)]) (rest := []) (lenOf pd__I_Lcom_example_wiregather_wiregather_wire_FieldType_ rfl) rfl (by show 2 * 0 + _ ≤ _; exact Nat.le_of_eq rfl) (hb hby at_6) (fun _ _ => ⟨rfl, e0, (by decide : 0 + 1 ≤ _), (by decide : 0 + 6 ≤ _)⟩)
  dsimp only [Pt.U, Pt.locs, Pt.cells, Pt.slots] at X16 l16 y16 z16 st16 hQ16
  subst l16 y16 z16
  obtain ⟨rfl, N16q, K16⟩ := hQ16
  have N16 := Fr.app N0 N16q
  have o23 := Old.keep O0 K16 all0
  obtain ⟨_, _, ⟨T24, L24, k24, n24⟩, -, X24, ⟨Lc24, hQ24, l24, y24, z24⟩, st24⟩ := Jvm.LawKit.callS X16 hx (y := (⟨cs0, "ofCode", cs3⟩ : MethodName)) hown (mvT hZ (ww hw 0 rfl)) (mvT hZ (ww hw 1 rfl)) (mvT hZ (ww hw 2 rfl)) (mvT hZ (ww hw 3 rfl)) (by decide) (backOf (W := 0) (rm1_4 l Z a0 hw [] (x1 &&& (7 : Int32)) r2 c3 r4 r5 r6 r7 r8 r9 T16.heap n0 o23 f1 f2 f3 f4 hc17 f6 hc18 f8 hc19 f10 hc20 f12 hc21 f14 hc22) hZ (ww hw 3 rfl) (ww hw 2 rfl) (by decide) (by decide)) (g := (mkF m 11 #[.val (.int x0), .val (.int x1), .val (.int (x1 &&& (7 : Int32))), .val (.ref r5), .unset] [(.int (x1 &&& (7 : Int32)))])) rfl (by rw [hml]; rfl) (argsL := [(.int (x1 &&& (7 : Int32)))]) (rest := []) (lenOf pd__I_Lcom_example_wiregather_wiregather_wire_FieldType_ rfl) rfl (by show 2 * 0 + _ ≤ _; exact Nat.le_of_eq rfl) (hb hby at_11) (fun _ _ => ⟨rfl, rfl, (by decide : 1 + 1 ≤ _), (by decide : 6 + 6 ≤ _)⟩)
  dsimp only [Pt.U, Pt.locs, Pt.cells, Pt.slots] at X24 l24 y24 z24 st24 hQ24
  subst l24 y24 z24
  obtain ⟨rfl, N24q, K24⟩ := hQ24
  have N24 := Fr.app N16 N24q
  have o28 := Old.keep o23 K24 all0
  obtain ⟨_, _, ⟨T29, L29, k29, n29⟩, -, X29, ⟨Lc29, hQ29, l29, y29, z29⟩, st29⟩ := Jvm.LawKit.callS X24 hx (y := (⟨cs4, "expected", cs3⟩ : MethodName)) hown (mvT hZ (ww hw 27 rfl)) (mvT hZ (ww hw 28 rfl)) (mvT hZ (ww hw 29 rfl)) (mvT hZ (ww hw 30 rfl)) (by decide) (backOf (W := 1) (rm3_3 l Z a0 hw [] x0 r5 T24.heap n0 o28 hc25 hc26 f27) hZ (ww hw 30 rfl) (ww hw 29 rfl) (by decide) (by decide)) (g := (mkF m 18 #[.val (.int x0), .val (.int x1), .val (.int (x1 &&& (7 : Int32))), .val (.ref r5), .val (.ref r6)] [(.int x0), (.ref r5)])) rfl (by rw [hml]; rfl) (argsL := [(.int x0)]) (rest := [(.ref r5)]) (lenOf pd__I_Lcom_example_wiregather_wiregather_wire_FieldType_ rfl) rfl (by show 2 * 0 + _ ≤ _; exact Nat.le_of_eq rfl) (hb hby at_18) (fun _ _ => ⟨rfl, rfl, (by decide : 2 + 0 ≤ _), (by decide : 12 + 0 ≤ _)⟩)
  dsimp only [Pt.U, Pt.locs, Pt.cells, Pt.slots] at X29 l29 y29 z29 st29 hQ29
  subst l29 y29 z29
  obtain ⟨rfl, N29q, E29⟩ := hQ29
  have N29 := Fr.app N24 N29q
  obtain ⟨_, _, ⟨T34, L34, k34, n34⟩, -, X34, ⟨Lc34, hQ34, l34, y34, z34⟩, st34⟩ := Jvm.LawKit.callS X29 hx (y := (⟨cs4, "expected", cs3⟩ : MethodName)) hown (mvT hZ (ww hw 27 rfl)) (mvT hZ (ww hw 28 rfl)) (mvT hZ (ww hw 29 rfl)) (mvT hZ (ww hw 30 rfl)) (by decide) (backOf (W := 1) (rm3_4 l Z a0 hw [] (x1 &&& (7 : Int32)) r6 T24.heap n0 o28 hc30 hc31 hc32 f33) hZ (ww hw 30 rfl) (ww hw 29 rfl) (by decide) (by decide)) (g := (mkF m 27 #[.val (.int x0), .val (.int x1), .val (.int (x1 &&& (7 : Int32))), .val (.ref r5), .val (.ref r6)] [(.int (x1 &&& (7 : Int32))), (.ref r6)])) rfl (by rw [hml]; rfl) (argsL := [(.int (x1 &&& (7 : Int32)))]) (rest := [(.ref r6)]) (lenOf pd__I_Lcom_example_wiregather_wiregather_wire_FieldType_ rfl) rfl (by show 2 * 0 + _ ≤ _; exact Nat.le_of_eq rfl) (hb hby at_27) (fun _ _ => ⟨rfl, E29, (by decide : 2 + 0 ≤ _), (by decide : 12 + 0 ≤ _)⟩)
  dsimp only [Pt.U, Pt.locs, Pt.cells, Pt.slots] at X34 l34 y34 z34 st34 hQ34
  subst l34 y34 z34
  obtain ⟨rfl, N34q, E34⟩ := hQ34
  have N34 := Fr.app N29 N34q
  obtain ⟨fs, hr, hrun, hended, hW, hsame⟩ := X34.leave (v := some (.int (1 : Int32))) (fun h => by rw [Bd.returns] at h; cases h)
  refine ⟨_, _, pre0 _ ?_, hrun, hended, _, _, rfl, ?_, ⟨_, rfl⟩, hW, hsame.mono (by decide) (by decide)⟩
  · show Steps p.tables e below (s₁.setTop (mkF m 0 #[.val (.int x0), .val (.int x1), .unset, .unset, .unset] [])) _
    refine XS.iloadN X0.here hx rfl (hb hby at_0) rfl ?_
    refine XS.bipush X0.here hx rfl (hb hby at_1) ?_
    refine XS.iand X0.here hx rfl (hb hby at_3) rfl ?_
    refine XS.istoreN X0.here hx rfl (hb hby at_4) rfl (l' := #[.val (.int x0), .val (.int x1), .val (.int (x1 &&& (7 : Int32))), .unset, .unset]) rfl ?_
    show Steps p.tables e below (s₁.setTop (mkF m 5 #[.val (.int x0), .val (.int x1), .val (.int (x1 &&& (7 : Int32))), .unset, .unset] [])) _
    refine XS.iloadN X0.here hx rfl (hb hby at_5) rfl ?_
    refine st16 _ ?_
    show Steps p.tables e below (T16.setTop (mkF m 9 #[.val (.int x0), .val (.int x1), .val (.int (x1 &&& (7 : Int32))), .unset, .unset] [(.ref r5)])) _
    refine XS.astoreN X16.here hx rfl (hb hby at_9) rfl rfl (l' := #[.val (.int x0), .val (.int x1), .val (.int (x1 &&& (7 : Int32))), .val (.ref r5), .unset]) rfl ?_
    refine XS.iloadN X16.here hx rfl (hb hby at_10) rfl ?_
    refine st24 _ ?_
    show Steps p.tables e below (T24.setTop (mkF m 14 #[.val (.int x0), .val (.int x1), .val (.int (x1 &&& (7 : Int32))), .val (.ref r5), .unset] [(.ref r6)])) _
    refine XS.astore X24.here hx rfl (hb hby at_14) rfl rfl (l' := #[.val (.int x0), .val (.int x1), .val (.int (x1 &&& (7 : Int32))), .val (.ref r5), .val (.ref r6)]) rfl ?_
    refine XS.aloadN X24.here hx rfl (hb hby at_16) rfl rfl ?_
    refine XS.iloadN X24.here hx rfl (hb hby at_17) rfl ?_
    refine st29 _ ?_
    show Steps p.tables e below (T29.setTop (mkF m 21 #[.val (.int x0), .val (.int x1), .val (.int (x1 &&& (7 : Int32))), .val (.ref r5), .val (.ref r6)] [(.ref r5), (.ref r5)])) _
    refine Jvm.RoadKit.acmp (g := (mkF m 21 #[.val (.int x0), .val (.int x1), .val (.int (x1 &&& (7 : Int32))), .val (.ref r5), .val (.ref r6)] [(.ref r5), (.ref r5)])) X29 hx rfl rfl rfl (pc0 := 21) (pc' := 24) (same := true) rfl (hb hby at_21) rfl (decide_eq_true rfl) (by decide) (by decide) ?_
    show Steps p.tables e below (T29.setTop (mkF m 24 #[.val (.int x0), .val (.int x1), .val (.int (x1 &&& (7 : Int32))), .val (.ref r5), .val (.ref r6)] [])) _
    refine XS.aload X29.here hx rfl (hb hby at_24) rfl rfl ?_
    refine XS.iloadN X29.here hx rfl (hb hby at_26) rfl ?_
    refine st34 _ ?_
    show Steps p.tables e below (T34.setTop (mkF m 30 #[.val (.int x0), .val (.int x1), .val (.int (x1 &&& (7 : Int32))), .val (.ref r5), .val (.ref r6)] [(.ref r6), (.ref r6)])) _
    refine Jvm.RoadKit.acmp (g := (mkF m 30 #[.val (.int x0), .val (.int x1), .val (.int (x1 &&& (7 : Int32))), .val (.ref r5), .val (.ref r6)] [(.ref r6), (.ref r6)])) X34 hx rfl rfl rfl (pc0 := 30) (pc' := 33) (same := true) rfl (hb hby at_30) rfl (decide_eq_true rfl) (by decide) (by decide) ?_
    show Steps p.tables e below (T34.setTop (mkF m 33 #[.val (.int x0), .val (.int x1), .val (.int (x1 &&& (7 : Int32))), .val (.ref r5), .val (.ref r6)] [])) _
    refine XS.iconst X34.here hx rfl (hb hby at_33) ?_
    refine XS.goto X34.here hx rfl (pc0 := 34) (pc' := 38) rfl (hb hby at_34) (by decide) (by decide) ?_
    show Steps p.tables e below (T34.setTop (mkF m 38 #[.val (.int x0), .val (.int x1), .val (.int (x1 &&& (7 : Int32))), .val (.ref r5), .val (.ref r6)] [(.int (1 : Int32))])) _
    exact retN X34 hx (t := .boolean) Bd.returns (by simp) (hb hby at_38) hr
  · show Q0_11 Z x0 x1 r2 c3 r4 r5 r6 r7 r8 r9 h0 n0 _ T34.heap _
    rw [E34]
    exact ⟨rfl, N34⟩
def Q0_12 (Z : State) (x0 : Int32) (x1 : Int32) (r2 : Addr) (c3 : ClassId) (r4 : Addr) (r5 : Addr) (r6 : Addr) (r7 : Addr) (r8 : Addr) (r9 : Addr) (h0 : Heap) (n0 : Nat) (v : Option Value) (h : Heap) (L : List Loc) : Prop := v = some (.int (1 : Int32)) ∧ Fr n0 L
set_option maxRecDepth 65536 in
set_option maxHeartbeats 40000000 in
theorem rm0_12 (l : Launch) (Z : State) (a0 : Array Value) (hw : ∀ d ∈ tables_1, d.before a0 Z = true) (ws : List Jvm.Cond) (x0 : Int32) (x1 : Int32) (r2 : Addr) (c3 : ClassId) (r4 : Addr) (r5 : Addr) (r6 : Addr) (r7 : Addr) (r8 : Addr) (r9 : Addr) (h0 : Heap) (n0 : Nat) (O0 : Old Z n0 h0) (f1 : Sta Z Z.heap cs0 "$VALUES" cs1 (.ref r2)) (f2 : Exa Z Z.heap r2 cs1) (f3 : Arv Z Z.heap r2 c3 (.object cs0) (6 : Int32) [(.ref r4), (.ref r5), (.ref r6), (.ref r7), (.ref r8), (.ref r9)] .null) (f4 : Fld Z Z.heap r4 cs0 "code" "I" (.int (1 : Int32))) (hc5 : ¬ ((1 : Int32) = x0)) (f6 : Fld Z Z.heap r5 cs0 "code" "I" (.int (2 : Int32))) (hc7 : (2 : Int32) = x0) (f8 : Fld Z Z.heap r6 cs0 "code" "I" (.int (3 : Int32))) (hc9 : ¬ ((3 : Int32) = x0)) (f10 : Fld Z Z.heap r7 cs0 "code" "I" (.int (4 : Int32))) (hc11 : ¬ ((4 : Int32) = x0)) (f12 : Fld Z Z.heap r8 cs0 "code" "I" (.int (5 : Int32))) (hc13 : ¬ ((5 : Int32) = x0)) (f14 : Fld Z Z.heap r9 cs0 "code" "I" (.int (6 : Int32))) (hc15 : ¬ ((6 : Int32) = x0)) (hc17 : ¬ ((1 : Int32) = (x1 &&& (7 : Int32)))) (hc18 : ¬ ((2 : Int32) = (x1 &&& (7 : Int32)))) (hc19 : ¬ ((3 : Int32) = (x1 &&& (7 : Int32)))) (hc20 : (4 : Int32) = (x1 &&& (7 : Int32))) (hc21 : ¬ ((5 : Int32) = (x1 &&& (7 : Int32)))) (hc22 : ¬ ((6 : Int32) = (x1 &&& (7 : Int32)))) (hc25 : ¬ (x0 = (1 : Int32))) (hc26 : x0 = (2 : Int32)) (f27 : Sta Z Z.heap cs0 "U32" cs5 (.ref r5)) (hc30 : ¬ ((x1 &&& (7 : Int32)) = (1 : Int32))) (hc31 : ¬ ((x1 &&& (7 : Int32)) = (2 : Int32))) (hc32 : ¬ ((x1 &&& (7 : Int32)) = (3 : Int32))) (hc33 : (x1 &&& (7 : Int32)) = (4 : Int32)) (f34 : Sta Z Z.heap cs0 "F64" cs5 (.ref r7)) :
    MetFree l x (head1 (Jvm.Cond.code x code maxLocals ret :: ws) room_1) (fun a U => a = #[(.int x0), (.int x1)] ∧ Z.Warmed39 U.vm ∧ U.heap = h0) (fun _ _ _ _ _ => True) (fun _ U o U' => ∃ v L, o = .returned v ∧ Q0_12 Z x0 x1 r2 c3 r4 r5 r6 r7 r8 r9 h0 n0 v U'.heap L ∧ FrameEnd U o U' L room_1.cells room_1.slots) := by
  refine MetFree.of_bodySF (plainFor_of_name pn_com_example_wiregather_wiregather_wire_FieldTypeOfCodePinLaw) hisR ?_
  intro p e s m args below meth c s₁ Bd hml0 hP hK
  obtain ⟨rfl, hZ, hh⟩ := hP
  have hx := Bd.exec
  have hby := Bd.bytes
  have hml : c.maxLocals = 5 := hml0
  have hown : s.vm.findClass cs4 = some m.cls := findClass_of_methodNamed Bd.named
  have hnm := (name_of_methodNamed Bd.named Bd.method).1
  have X0 : Stand p l e room_1 s m #[(.int x0), (.int x1)] below meth c s₁ [] 0 0 := Stand.of_body Bd
  have e0 : s₁.heap = h0 := by rw [← hh, Bd.state]; rfl
  have N0 := Fr.nil n0
  have pre0 : ∀ t, Steps p.tables e below (s₁.setTop (mkF m 0 #[.val (.int x0), .val (.int x1), .unset, .unset, .unset] [])) t → Steps p.tables e below (s₁.setTop (entryFrame m #[(.int x0), (.int x1)] maxLocals)) t := fun t k => castTop (by first | (simp [entryFrame, mkF, argsToLocals, Value.category, maxLocals]; done) | rfl) k
  obtain ⟨_, _, ⟨T16, L16, k16, n16⟩, -, X16, ⟨Lc16, hQ16, l16, y16, z16⟩, st16⟩ := Jvm.LawKit.callS X0 hx (y := (⟨cs0, "ofCode", cs3⟩ : MethodName)) hown (mvT hZ (ww hw 0 rfl)) (mvT hZ (ww hw 1 rfl)) (mvT hZ (ww hw 2 rfl)) (mvT hZ (ww hw 3 rfl)) (by decide) (backOf (W := 0) (rm1_3 l Z a0 hw [] x0 r2 c3 r4 r5 r6 r7 r8 r9 h0 n0 O0 f1 f2 f3 f4 hc5 f6 hc7 f8 hc9 f10 hc11 f12 hc13 f14 hc15) hZ (ww hw 3 rfl) (ww hw 2 rfl) (by decide) (by decide)) (g := (mkF m 6 #[.val (.int x0), .val (.int x1), .val (.int (x1 &&& (7 : Int32))), .unset, .unset] [(.int x0)])) rfl (by rw [hml]; rfl) (argsL := [(.int x0)]) (rest := []) (lenOf pd__I_Lcom_example_wiregather_wiregather_wire_FieldType_ rfl) rfl (by show 2 * 0 + _ ≤ _; exact Nat.le_of_eq rfl) (hb hby at_6) (fun _ _ => ⟨rfl, e0, (by decide : 0 + 1 ≤ _), (by decide : 0 + 6 ≤ _)⟩)
  dsimp only [Pt.U, Pt.locs, Pt.cells, Pt.slots] at X16 l16 y16 z16 st16 hQ16
  subst l16 y16 z16
  obtain ⟨rfl, N16q, K16⟩ := hQ16
  have N16 := Fr.app N0 N16q
  have o23 := Old.keep O0 K16 all0
  obtain ⟨_, _, ⟨T24, L24, k24, n24⟩, -, X24, ⟨Lc24, hQ24, l24, y24, z24⟩, st24⟩ := Jvm.LawKit.callS X16 hx (y := (⟨cs0, "ofCode", cs3⟩ : MethodName)) hown (mvT hZ (ww hw 0 rfl)) (mvT hZ (ww hw 1 rfl)) (mvT hZ (ww hw 2 rfl)) (mvT hZ (ww hw 3 rfl)) (by decide) (backOf (W := 0) (rm1_5 l Z a0 hw [] (x1 &&& (7 : Int32)) r2 c3 r4 r5 r6 r7 r8 r9 T16.heap n0 o23 f1 f2 f3 f4 hc17 f6 hc18 f8 hc19 f10 hc20 f12 hc21 f14 hc22) hZ (ww hw 3 rfl) (ww hw 2 rfl) (by decide) (by decide)) (g := (mkF m 11 #[.val (.int x0), .val (.int x1), .val (.int (x1 &&& (7 : Int32))), .val (.ref r5), .unset] [(.int (x1 &&& (7 : Int32)))])) rfl (by rw [hml]; rfl) (argsL := [(.int (x1 &&& (7 : Int32)))]) (rest := []) (lenOf pd__I_Lcom_example_wiregather_wiregather_wire_FieldType_ rfl) rfl (by show 2 * 0 + _ ≤ _; exact Nat.le_of_eq rfl) (hb hby at_11) (fun _ _ => ⟨rfl, rfl, (by decide : 1 + 1 ≤ _), (by decide : 6 + 6 ≤ _)⟩)
  dsimp only [Pt.U, Pt.locs, Pt.cells, Pt.slots] at X24 l24 y24 z24 st24 hQ24
  subst l24 y24 z24
  obtain ⟨rfl, N24q, K24⟩ := hQ24
  have N24 := Fr.app N16 N24q
  have o28 := Old.keep o23 K24 all0
  obtain ⟨_, _, ⟨T29, L29, k29, n29⟩, -, X29, ⟨Lc29, hQ29, l29, y29, z29⟩, st29⟩ := Jvm.LawKit.callS X24 hx (y := (⟨cs4, "expected", cs3⟩ : MethodName)) hown (mvT hZ (ww hw 27 rfl)) (mvT hZ (ww hw 28 rfl)) (mvT hZ (ww hw 29 rfl)) (mvT hZ (ww hw 30 rfl)) (by decide) (backOf (W := 1) (rm3_3 l Z a0 hw [] x0 r5 T24.heap n0 o28 hc25 hc26 f27) hZ (ww hw 30 rfl) (ww hw 29 rfl) (by decide) (by decide)) (g := (mkF m 18 #[.val (.int x0), .val (.int x1), .val (.int (x1 &&& (7 : Int32))), .val (.ref r5), .val (.ref r7)] [(.int x0), (.ref r5)])) rfl (by rw [hml]; rfl) (argsL := [(.int x0)]) (rest := [(.ref r5)]) (lenOf pd__I_Lcom_example_wiregather_wiregather_wire_FieldType_ rfl) rfl (by show 2 * 0 + _ ≤ _; exact Nat.le_of_eq rfl) (hb hby at_18) (fun _ _ => ⟨rfl, rfl, (by decide : 2 + 0 ≤ _), (by decide : 12 + 0 ≤ _)⟩)
  dsimp only [Pt.U, Pt.locs, Pt.cells, Pt.slots] at X29 l29 y29 z29 st29 hQ29
  subst l29 y29 z29
  obtain ⟨rfl, N29q, E29⟩ := hQ29
  have N29 := Fr.app N24 N29q
  obtain ⟨_, _, ⟨T35, L35, k35, n35⟩, -, X35, ⟨Lc35, hQ35, l35, y35, z35⟩, st35⟩ := Jvm.LawKit.callS X29 hx (y := (⟨cs4, "expected", cs3⟩ : MethodName)) hown (mvT hZ (ww hw 27 rfl)) (mvT hZ (ww hw 28 rfl)) (mvT hZ (ww hw 29 rfl)) (mvT hZ (ww hw 30 rfl)) (by decide) (backOf (W := 1) (rm3_5 l Z a0 hw [] (x1 &&& (7 : Int32)) r7 T24.heap n0 o28 hc30 hc31 hc32 hc33 f34) hZ (ww hw 30 rfl) (ww hw 29 rfl) (by decide) (by decide)) (g := (mkF m 27 #[.val (.int x0), .val (.int x1), .val (.int (x1 &&& (7 : Int32))), .val (.ref r5), .val (.ref r7)] [(.int (x1 &&& (7 : Int32))), (.ref r7)])) rfl (by rw [hml]; rfl) (argsL := [(.int (x1 &&& (7 : Int32)))]) (rest := [(.ref r7)]) (lenOf pd__I_Lcom_example_wiregather_wiregather_wire_FieldType_ rfl) rfl (by show 2 * 0 + _ ≤ _; exact Nat.le_of_eq rfl) (hb hby at_27) (fun _ _ => ⟨rfl, E29, (by decide : 2 + 0 ≤ _), (by decide : 12 + 0 ≤ _)⟩)
  dsimp only [Pt.U, Pt.locs, Pt.cells, Pt.slots] at X35 l35 y35 z35 st35 hQ35
  subst l35 y35 z35
  obtain ⟨rfl, N35q, E35⟩ := hQ35
  have N35 := Fr.app N29 N35q
  obtain ⟨fs, hr, hrun, hended, hW, hsame⟩ := X35.leave (v := some (.int (1 : Int32))) (fun h => by rw [Bd.returns] at h; cases h)
  refine ⟨_, _, pre0 _ ?_, hrun, hended, _, _, rfl, ?_, ⟨_, rfl⟩, hW, hsame.mono (by decide) (by decide)⟩
  · show Steps p.tables e below (s₁.setTop (mkF m 0 #[.val (.int x0), .val (.int x1), .unset, .unset, .unset] [])) _
    refine XS.iloadN X0.here hx rfl (hb hby at_0) rfl ?_
    refine XS.bipush X0.here hx rfl (hb hby at_1) ?_
    refine XS.iand X0.here hx rfl (hb hby at_3) rfl ?_
    refine XS.istoreN X0.here hx rfl (hb hby at_4) rfl (l' := #[.val (.int x0), .val (.int x1), .val (.int (x1 &&& (7 : Int32))), .unset, .unset]) rfl ?_
    show Steps p.tables e below (s₁.setTop (mkF m 5 #[.val (.int x0), .val (.int x1), .val (.int (x1 &&& (7 : Int32))), .unset, .unset] [])) _
    refine XS.iloadN X0.here hx rfl (hb hby at_5) rfl ?_
    refine st16 _ ?_
    show Steps p.tables e below (T16.setTop (mkF m 9 #[.val (.int x0), .val (.int x1), .val (.int (x1 &&& (7 : Int32))), .unset, .unset] [(.ref r5)])) _
    refine XS.astoreN X16.here hx rfl (hb hby at_9) rfl rfl (l' := #[.val (.int x0), .val (.int x1), .val (.int (x1 &&& (7 : Int32))), .val (.ref r5), .unset]) rfl ?_
    refine XS.iloadN X16.here hx rfl (hb hby at_10) rfl ?_
    refine st24 _ ?_
    show Steps p.tables e below (T24.setTop (mkF m 14 #[.val (.int x0), .val (.int x1), .val (.int (x1 &&& (7 : Int32))), .val (.ref r5), .unset] [(.ref r7)])) _
    refine XS.astore X24.here hx rfl (hb hby at_14) rfl rfl (l' := #[.val (.int x0), .val (.int x1), .val (.int (x1 &&& (7 : Int32))), .val (.ref r5), .val (.ref r7)]) rfl ?_
    refine XS.aloadN X24.here hx rfl (hb hby at_16) rfl rfl ?_
    refine XS.iloadN X24.here hx rfl (hb hby at_17) rfl ?_
    refine st29 _ ?_
    show Steps p.tables e below (T29.setTop (mkF m 21 #[.val (.int x0), .val (.int x1), .val (.int (x1 &&& (7 : Int32))), .val (.ref r5), .val (.ref r7)] [(.ref r5), (.ref r5)])) _
    refine Jvm.RoadKit.acmp (g := (mkF m 21 #[.val (.int x0), .val (.int x1), .val (.int (x1 &&& (7 : Int32))), .val (.ref r5), .val (.ref r7)] [(.ref r5), (.ref r5)])) X29 hx rfl rfl rfl (pc0 := 21) (pc' := 24) (same := true) rfl (hb hby at_21) rfl (decide_eq_true rfl) (by decide) (by decide) ?_
    show Steps p.tables e below (T29.setTop (mkF m 24 #[.val (.int x0), .val (.int x1), .val (.int (x1 &&& (7 : Int32))), .val (.ref r5), .val (.ref r7)] [])) _
    refine XS.aload X29.here hx rfl (hb hby at_24) rfl rfl ?_
    refine XS.iloadN X29.here hx rfl (hb hby at_26) rfl ?_
    refine st35 _ ?_
    show Steps p.tables e below (T35.setTop (mkF m 30 #[.val (.int x0), .val (.int x1), .val (.int (x1 &&& (7 : Int32))), .val (.ref r5), .val (.ref r7)] [(.ref r7), (.ref r7)])) _
    refine Jvm.RoadKit.acmp (g := (mkF m 30 #[.val (.int x0), .val (.int x1), .val (.int (x1 &&& (7 : Int32))), .val (.ref r5), .val (.ref r7)] [(.ref r7), (.ref r7)])) X35 hx rfl rfl rfl (pc0 := 30) (pc' := 33) (same := true) rfl (hb hby at_30) rfl (decide_eq_true rfl) (by decide) (by decide) ?_
    show Steps p.tables e below (T35.setTop (mkF m 33 #[.val (.int x0), .val (.int x1), .val (.int (x1 &&& (7 : Int32))), .val (.ref r5), .val (.ref r7)] [])) _
    refine XS.iconst X35.here hx rfl (hb hby at_33) ?_
    refine XS.goto X35.here hx rfl (pc0 := 34) (pc' := 38) rfl (hb hby at_34) (by decide) (by decide) ?_
    show Steps p.tables e below (T35.setTop (mkF m 38 #[.val (.int x0), .val (.int x1), .val (.int (x1 &&& (7 : Int32))), .val (.ref r5), .val (.ref r7)] [(.int (1 : Int32))])) _
    exact retN X35 hx (t := .boolean) Bd.returns (by simp) (hb hby at_38) hr
  · show Q0_12 Z x0 x1 r2 c3 r4 r5 r6 r7 r8 r9 h0 n0 _ T35.heap _
    rw [E35]
    exact ⟨rfl, N35⟩
def Q0_13 (Z : State) (x0 : Int32) (x1 : Int32) (r2 : Addr) (c3 : ClassId) (r4 : Addr) (r5 : Addr) (r6 : Addr) (r7 : Addr) (r8 : Addr) (r9 : Addr) (h0 : Heap) (n0 : Nat) (v : Option Value) (h : Heap) (L : List Loc) : Prop := v = some (.int (1 : Int32)) ∧ Fr n0 L
set_option maxRecDepth 65536 in
set_option maxHeartbeats 40000000 in
theorem rm0_13 (l : Launch) (Z : State) (a0 : Array Value) (hw : ∀ d ∈ tables_1, d.before a0 Z = true) (ws : List Jvm.Cond) (x0 : Int32) (x1 : Int32) (r2 : Addr) (c3 : ClassId) (r4 : Addr) (r5 : Addr) (r6 : Addr) (r7 : Addr) (r8 : Addr) (r9 : Addr) (h0 : Heap) (n0 : Nat) (O0 : Old Z n0 h0) (f1 : Sta Z Z.heap cs0 "$VALUES" cs1 (.ref r2)) (f2 : Exa Z Z.heap r2 cs1) (f3 : Arv Z Z.heap r2 c3 (.object cs0) (6 : Int32) [(.ref r4), (.ref r5), (.ref r6), (.ref r7), (.ref r8), (.ref r9)] .null) (f4 : Fld Z Z.heap r4 cs0 "code" "I" (.int (1 : Int32))) (hc5 : ¬ ((1 : Int32) = x0)) (f6 : Fld Z Z.heap r5 cs0 "code" "I" (.int (2 : Int32))) (hc7 : (2 : Int32) = x0) (f8 : Fld Z Z.heap r6 cs0 "code" "I" (.int (3 : Int32))) (hc9 : ¬ ((3 : Int32) = x0)) (f10 : Fld Z Z.heap r7 cs0 "code" "I" (.int (4 : Int32))) (hc11 : ¬ ((4 : Int32) = x0)) (f12 : Fld Z Z.heap r8 cs0 "code" "I" (.int (5 : Int32))) (hc13 : ¬ ((5 : Int32) = x0)) (f14 : Fld Z Z.heap r9 cs0 "code" "I" (.int (6 : Int32))) (hc15 : ¬ ((6 : Int32) = x0)) (hc17 : ¬ ((1 : Int32) = (x1 &&& (7 : Int32)))) (hc18 : ¬ ((2 : Int32) = (x1 &&& (7 : Int32)))) (hc19 : ¬ ((3 : Int32) = (x1 &&& (7 : Int32)))) (hc20 : ¬ ((4 : Int32) = (x1 &&& (7 : Int32)))) (hc21 : (5 : Int32) = (x1 &&& (7 : Int32))) (hc22 : ¬ ((6 : Int32) = (x1 &&& (7 : Int32)))) (hc25 : ¬ (x0 = (1 : Int32))) (hc26 : x0 = (2 : Int32)) (f27 : Sta Z Z.heap cs0 "U32" cs5 (.ref r5)) (hc30 : ¬ ((x1 &&& (7 : Int32)) = (1 : Int32))) (hc31 : ¬ ((x1 &&& (7 : Int32)) = (2 : Int32))) (hc32 : ¬ ((x1 &&& (7 : Int32)) = (3 : Int32))) (hc33 : ¬ ((x1 &&& (7 : Int32)) = (4 : Int32))) (hc34 : (x1 &&& (7 : Int32)) = (5 : Int32)) (f35 : Sta Z Z.heap cs0 "TEXT" cs5 (.ref r8)) :
    MetFree l x (head1 (Jvm.Cond.code x code maxLocals ret :: ws) room_1) (fun a U => a = #[(.int x0), (.int x1)] ∧ Z.Warmed39 U.vm ∧ U.heap = h0) (fun _ _ _ _ _ => True) (fun _ U o U' => ∃ v L, o = .returned v ∧ Q0_13 Z x0 x1 r2 c3 r4 r5 r6 r7 r8 r9 h0 n0 v U'.heap L ∧ FrameEnd U o U' L room_1.cells room_1.slots) := by
  refine MetFree.of_bodySF (plainFor_of_name pn_com_example_wiregather_wiregather_wire_FieldTypeOfCodePinLaw) hisR ?_
  intro p e s m args below meth c s₁ Bd hml0 hP hK
  obtain ⟨rfl, hZ, hh⟩ := hP
  have hx := Bd.exec
  have hby := Bd.bytes
  have hml : c.maxLocals = 5 := hml0
  have hown : s.vm.findClass cs4 = some m.cls := findClass_of_methodNamed Bd.named
  have hnm := (name_of_methodNamed Bd.named Bd.method).1
  have X0 : Stand p l e room_1 s m #[(.int x0), (.int x1)] below meth c s₁ [] 0 0 := Stand.of_body Bd
  have e0 : s₁.heap = h0 := by rw [← hh, Bd.state]; rfl
  have N0 := Fr.nil n0
  have pre0 : ∀ t, Steps p.tables e below (s₁.setTop (mkF m 0 #[.val (.int x0), .val (.int x1), .unset, .unset, .unset] [])) t → Steps p.tables e below (s₁.setTop (entryFrame m #[(.int x0), (.int x1)] maxLocals)) t := fun t k => castTop (by first | (simp [entryFrame, mkF, argsToLocals, Value.category, maxLocals]; done) | rfl) k
  obtain ⟨_, _, ⟨T16, L16, k16, n16⟩, -, X16, ⟨Lc16, hQ16, l16, y16, z16⟩, st16⟩ := Jvm.LawKit.callS X0 hx (y := (⟨cs0, "ofCode", cs3⟩ : MethodName)) hown (mvT hZ (ww hw 0 rfl)) (mvT hZ (ww hw 1 rfl)) (mvT hZ (ww hw 2 rfl)) (mvT hZ (ww hw 3 rfl)) (by decide) (backOf (W := 0) (rm1_3 l Z a0 hw [] x0 r2 c3 r4 r5 r6 r7 r8 r9 h0 n0 O0 f1 f2 f3 f4 hc5 f6 hc7 f8 hc9 f10 hc11 f12 hc13 f14 hc15) hZ (ww hw 3 rfl) (ww hw 2 rfl) (by decide) (by decide)) (g := (mkF m 6 #[.val (.int x0), .val (.int x1), .val (.int (x1 &&& (7 : Int32))), .unset, .unset] [(.int x0)])) rfl (by rw [hml]; rfl) (argsL := [(.int x0)]) (rest := []) (lenOf pd__I_Lcom_example_wiregather_wiregather_wire_FieldType_ rfl) rfl (by show 2 * 0 + _ ≤ _; exact Nat.le_of_eq rfl) (hb hby at_6) (fun _ _ => ⟨rfl, e0, (by decide : 0 + 1 ≤ _), (by decide : 0 + 6 ≤ _)⟩)
  dsimp only [Pt.U, Pt.locs, Pt.cells, Pt.slots] at X16 l16 y16 z16 st16 hQ16
  subst l16 y16 z16
  obtain ⟨rfl, N16q, K16⟩ := hQ16
  have N16 := Fr.app N0 N16q
  have o23 := Old.keep O0 K16 all0
  obtain ⟨_, _, ⟨T24, L24, k24, n24⟩, -, X24, ⟨Lc24, hQ24, l24, y24, z24⟩, st24⟩ := Jvm.LawKit.callS X16 hx (y := (⟨cs0, "ofCode", cs3⟩ : MethodName)) hown (mvT hZ (ww hw 0 rfl)) (mvT hZ (ww hw 1 rfl)) (mvT hZ (ww hw 2 rfl)) (mvT hZ (ww hw 3 rfl)) (by decide) (backOf (W := 0) (rm1_6 l Z a0 hw [] (x1 &&& (7 : Int32)) r2 c3 r4 r5 r6 r7 r8 r9 T16.heap n0 o23 f1 f2 f3 f4 hc17 f6 hc18 f8 hc19 f10 hc20 f12 hc21 f14 hc22) hZ (ww hw 3 rfl) (ww hw 2 rfl) (by decide) (by decide)) (g := (mkF m 11 #[.val (.int x0), .val (.int x1), .val (.int (x1 &&& (7 : Int32))), .val (.ref r5), .unset] [(.int (x1 &&& (7 : Int32)))])) rfl (by rw [hml]; rfl) (argsL := [(.int (x1 &&& (7 : Int32)))]) (rest := []) (lenOf pd__I_Lcom_example_wiregather_wiregather_wire_FieldType_ rfl) rfl (by show 2 * 0 + _ ≤ _; exact Nat.le_of_eq rfl) (hb hby at_11) (fun _ _ => ⟨rfl, rfl, (by decide : 1 + 1 ≤ _), (by decide : 6 + 6 ≤ _)⟩)
  dsimp only [Pt.U, Pt.locs, Pt.cells, Pt.slots] at X24 l24 y24 z24 st24 hQ24
  subst l24 y24 z24
  obtain ⟨rfl, N24q, K24⟩ := hQ24
  have N24 := Fr.app N16 N24q
  have o28 := Old.keep o23 K24 all0
  obtain ⟨_, _, ⟨T29, L29, k29, n29⟩, -, X29, ⟨Lc29, hQ29, l29, y29, z29⟩, st29⟩ := Jvm.LawKit.callS X24 hx (y := (⟨cs4, "expected", cs3⟩ : MethodName)) hown (mvT hZ (ww hw 27 rfl)) (mvT hZ (ww hw 28 rfl)) (mvT hZ (ww hw 29 rfl)) (mvT hZ (ww hw 30 rfl)) (by decide) (backOf (W := 1) (rm3_3 l Z a0 hw [] x0 r5 T24.heap n0 o28 hc25 hc26 f27) hZ (ww hw 30 rfl) (ww hw 29 rfl) (by decide) (by decide)) (g := (mkF m 18 #[.val (.int x0), .val (.int x1), .val (.int (x1 &&& (7 : Int32))), .val (.ref r5), .val (.ref r8)] [(.int x0), (.ref r5)])) rfl (by rw [hml]; rfl) (argsL := [(.int x0)]) (rest := [(.ref r5)]) (lenOf pd__I_Lcom_example_wiregather_wiregather_wire_FieldType_ rfl) rfl (by show 2 * 0 + _ ≤ _; exact Nat.le_of_eq rfl) (hb hby at_18) (fun _ _ => ⟨rfl, rfl, (by decide : 2 + 0 ≤ _), (by decide : 12 + 0 ≤ _)⟩)
  dsimp only [Pt.U, Pt.locs, Pt.cells, Pt.slots] at X29 l29 y29 z29 st29 hQ29
  subst l29 y29 z29
  obtain ⟨rfl, N29q, E29⟩ := hQ29
  have N29 := Fr.app N24 N29q
  obtain ⟨_, _, ⟨T36, L36, k36, n36⟩, -, X36, ⟨Lc36, hQ36, l36, y36, z36⟩, st36⟩ := Jvm.LawKit.callS X29 hx (y := (⟨cs4, "expected", cs3⟩ : MethodName)) hown (mvT hZ (ww hw 27 rfl)) (mvT hZ (ww hw 28 rfl)) (mvT hZ (ww hw 29 rfl)) (mvT hZ (ww hw 30 rfl)) (by decide) (backOf (W := 1) (rm3_6 l Z a0 hw [] (x1 &&& (7 : Int32)) r8 T24.heap n0 o28 hc30 hc31 hc32 hc33 hc34 f35) hZ (ww hw 30 rfl) (ww hw 29 rfl) (by decide) (by decide)) (g := (mkF m 27 #[.val (.int x0), .val (.int x1), .val (.int (x1 &&& (7 : Int32))), .val (.ref r5), .val (.ref r8)] [(.int (x1 &&& (7 : Int32))), (.ref r8)])) rfl (by rw [hml]; rfl) (argsL := [(.int (x1 &&& (7 : Int32)))]) (rest := [(.ref r8)]) (lenOf pd__I_Lcom_example_wiregather_wiregather_wire_FieldType_ rfl) rfl (by show 2 * 0 + _ ≤ _; exact Nat.le_of_eq rfl) (hb hby at_27) (fun _ _ => ⟨rfl, E29, (by decide : 2 + 0 ≤ _), (by decide : 12 + 0 ≤ _)⟩)
  dsimp only [Pt.U, Pt.locs, Pt.cells, Pt.slots] at X36 l36 y36 z36 st36 hQ36
  subst l36 y36 z36
  obtain ⟨rfl, N36q, E36⟩ := hQ36
  have N36 := Fr.app N29 N36q
  obtain ⟨fs, hr, hrun, hended, hW, hsame⟩ := X36.leave (v := some (.int (1 : Int32))) (fun h => by rw [Bd.returns] at h; cases h)
  refine ⟨_, _, pre0 _ ?_, hrun, hended, _, _, rfl, ?_, ⟨_, rfl⟩, hW, hsame.mono (by decide) (by decide)⟩
  · show Steps p.tables e below (s₁.setTop (mkF m 0 #[.val (.int x0), .val (.int x1), .unset, .unset, .unset] [])) _
    refine XS.iloadN X0.here hx rfl (hb hby at_0) rfl ?_
    refine XS.bipush X0.here hx rfl (hb hby at_1) ?_
    refine XS.iand X0.here hx rfl (hb hby at_3) rfl ?_
    refine XS.istoreN X0.here hx rfl (hb hby at_4) rfl (l' := #[.val (.int x0), .val (.int x1), .val (.int (x1 &&& (7 : Int32))), .unset, .unset]) rfl ?_
    show Steps p.tables e below (s₁.setTop (mkF m 5 #[.val (.int x0), .val (.int x1), .val (.int (x1 &&& (7 : Int32))), .unset, .unset] [])) _
    refine XS.iloadN X0.here hx rfl (hb hby at_5) rfl ?_
    refine st16 _ ?_
    show Steps p.tables e below (T16.setTop (mkF m 9 #[.val (.int x0), .val (.int x1), .val (.int (x1 &&& (7 : Int32))), .unset, .unset] [(.ref r5)])) _
    refine XS.astoreN X16.here hx rfl (hb hby at_9) rfl rfl (l' := #[.val (.int x0), .val (.int x1), .val (.int (x1 &&& (7 : Int32))), .val (.ref r5), .unset]) rfl ?_
    refine XS.iloadN X16.here hx rfl (hb hby at_10) rfl ?_
    refine st24 _ ?_
    show Steps p.tables e below (T24.setTop (mkF m 14 #[.val (.int x0), .val (.int x1), .val (.int (x1 &&& (7 : Int32))), .val (.ref r5), .unset] [(.ref r8)])) _
    refine XS.astore X24.here hx rfl (hb hby at_14) rfl rfl (l' := #[.val (.int x0), .val (.int x1), .val (.int (x1 &&& (7 : Int32))), .val (.ref r5), .val (.ref r8)]) rfl ?_
    refine XS.aloadN X24.here hx rfl (hb hby at_16) rfl rfl ?_
    refine XS.iloadN X24.here hx rfl (hb hby at_17) rfl ?_
    refine st29 _ ?_
    show Steps p.tables e below (T29.setTop (mkF m 21 #[.val (.int x0), .val (.int x1), .val (.int (x1 &&& (7 : Int32))), .val (.ref r5), .val (.ref r8)] [(.ref r5), (.ref r5)])) _
    refine Jvm.RoadKit.acmp (g := (mkF m 21 #[.val (.int x0), .val (.int x1), .val (.int (x1 &&& (7 : Int32))), .val (.ref r5), .val (.ref r8)] [(.ref r5), (.ref r5)])) X29 hx rfl rfl rfl (pc0 := 21) (pc' := 24) (same := true) rfl (hb hby at_21) rfl (decide_eq_true rfl) (by decide) (by decide) ?_
    show Steps p.tables e below (T29.setTop (mkF m 24 #[.val (.int x0), .val (.int x1), .val (.int (x1 &&& (7 : Int32))), .val (.ref r5), .val (.ref r8)] [])) _
    refine XS.aload X29.here hx rfl (hb hby at_24) rfl rfl ?_
    refine XS.iloadN X29.here hx rfl (hb hby at_26) rfl ?_
    refine st36 _ ?_
    show Steps p.tables e below (T36.setTop (mkF m 30 #[.val (.int x0), .val (.int x1), .val (.int (x1 &&& (7 : Int32))), .val (.ref r5), .val (.ref r8)] [(.ref r8), (.ref r8)])) _
    refine Jvm.RoadKit.acmp (g := (mkF m 30 #[.val (.int x0), .val (.int x1), .val (.int (x1 &&& (7 : Int32))), .val (.ref r5), .val (.ref r8)] [(.ref r8), (.ref r8)])) X36 hx rfl rfl rfl (pc0 := 30) (pc' := 33) (same := true) rfl (hb hby at_30) rfl (decide_eq_true rfl) (by decide) (by decide) ?_
    show Steps p.tables e below (T36.setTop (mkF m 33 #[.val (.int x0), .val (.int x1), .val (.int (x1 &&& (7 : Int32))), .val (.ref r5), .val (.ref r8)] [])) _
    refine XS.iconst X36.here hx rfl (hb hby at_33) ?_
    refine XS.goto X36.here hx rfl (pc0 := 34) (pc' := 38) rfl (hb hby at_34) (by decide) (by decide) ?_
    show Steps p.tables e below (T36.setTop (mkF m 38 #[.val (.int x0), .val (.int x1), .val (.int (x1 &&& (7 : Int32))), .val (.ref r5), .val (.ref r8)] [(.int (1 : Int32))])) _
    exact retN X36 hx (t := .boolean) Bd.returns (by simp) (hb hby at_38) hr
  · show Q0_13 Z x0 x1 r2 c3 r4 r5 r6 r7 r8 r9 h0 n0 _ T36.heap _
    rw [E36]
    exact ⟨rfl, N36⟩
def Q0_14 (Z : State) (x0 : Int32) (x1 : Int32) (r2 : Addr) (c3 : ClassId) (r4 : Addr) (r5 : Addr) (r6 : Addr) (r7 : Addr) (r8 : Addr) (r9 : Addr) (h0 : Heap) (n0 : Nat) (v : Option Value) (h : Heap) (L : List Loc) : Prop := v = some (.int (1 : Int32)) ∧ Fr n0 L
set_option maxRecDepth 65536 in
set_option maxHeartbeats 40000000 in
theorem rm0_14 (l : Launch) (Z : State) (a0 : Array Value) (hw : ∀ d ∈ tables_1, d.before a0 Z = true) (ws : List Jvm.Cond) (x0 : Int32) (x1 : Int32) (r2 : Addr) (c3 : ClassId) (r4 : Addr) (r5 : Addr) (r6 : Addr) (r7 : Addr) (r8 : Addr) (r9 : Addr) (h0 : Heap) (n0 : Nat) (O0 : Old Z n0 h0) (f1 : Sta Z Z.heap cs0 "$VALUES" cs1 (.ref r2)) (f2 : Exa Z Z.heap r2 cs1) (f3 : Arv Z Z.heap r2 c3 (.object cs0) (6 : Int32) [(.ref r4), (.ref r5), (.ref r6), (.ref r7), (.ref r8), (.ref r9)] .null) (f4 : Fld Z Z.heap r4 cs0 "code" "I" (.int (1 : Int32))) (hc5 : ¬ ((1 : Int32) = x0)) (f6 : Fld Z Z.heap r5 cs0 "code" "I" (.int (2 : Int32))) (hc7 : (2 : Int32) = x0) (f8 : Fld Z Z.heap r6 cs0 "code" "I" (.int (3 : Int32))) (hc9 : ¬ ((3 : Int32) = x0)) (f10 : Fld Z Z.heap r7 cs0 "code" "I" (.int (4 : Int32))) (hc11 : ¬ ((4 : Int32) = x0)) (f12 : Fld Z Z.heap r8 cs0 "code" "I" (.int (5 : Int32))) (hc13 : ¬ ((5 : Int32) = x0)) (f14 : Fld Z Z.heap r9 cs0 "code" "I" (.int (6 : Int32))) (hc15 : ¬ ((6 : Int32) = x0)) (hc17 : ¬ ((1 : Int32) = (x1 &&& (7 : Int32)))) (hc18 : ¬ ((2 : Int32) = (x1 &&& (7 : Int32)))) (hc19 : ¬ ((3 : Int32) = (x1 &&& (7 : Int32)))) (hc20 : ¬ ((4 : Int32) = (x1 &&& (7 : Int32)))) (hc21 : ¬ ((5 : Int32) = (x1 &&& (7 : Int32)))) (hc22 : (6 : Int32) = (x1 &&& (7 : Int32))) (hc25 : ¬ (x0 = (1 : Int32))) (hc26 : x0 = (2 : Int32)) (f27 : Sta Z Z.heap cs0 "U32" cs5 (.ref r5)) (hc30 : ¬ ((x1 &&& (7 : Int32)) = (1 : Int32))) (hc31 : ¬ ((x1 &&& (7 : Int32)) = (2 : Int32))) (hc32 : ¬ ((x1 &&& (7 : Int32)) = (3 : Int32))) (hc33 : ¬ ((x1 &&& (7 : Int32)) = (4 : Int32))) (hc34 : ¬ ((x1 &&& (7 : Int32)) = (5 : Int32))) (hc35 : (x1 &&& (7 : Int32)) = (6 : Int32)) (f36 : Sta Z Z.heap cs0 "GUID" cs5 (.ref r9)) :
    MetFree l x (head1 (Jvm.Cond.code x code maxLocals ret :: ws) room_1) (fun a U => a = #[(.int x0), (.int x1)] ∧ Z.Warmed39 U.vm ∧ U.heap = h0) (fun _ _ _ _ _ => True) (fun _ U o U' => ∃ v L, o = .returned v ∧ Q0_14 Z x0 x1 r2 c3 r4 r5 r6 r7 r8 r9 h0 n0 v U'.heap L ∧ FrameEnd U o U' L room_1.cells room_1.slots) := by
  refine MetFree.of_bodySF (plainFor_of_name pn_com_example_wiregather_wiregather_wire_FieldTypeOfCodePinLaw) hisR ?_
  intro p e s m args below meth c s₁ Bd hml0 hP hK
  obtain ⟨rfl, hZ, hh⟩ := hP
  have hx := Bd.exec
  have hby := Bd.bytes
  have hml : c.maxLocals = 5 := hml0
  have hown : s.vm.findClass cs4 = some m.cls := findClass_of_methodNamed Bd.named
  have hnm := (name_of_methodNamed Bd.named Bd.method).1
  have X0 : Stand p l e room_1 s m #[(.int x0), (.int x1)] below meth c s₁ [] 0 0 := Stand.of_body Bd
  have e0 : s₁.heap = h0 := by rw [← hh, Bd.state]; rfl
  have N0 := Fr.nil n0
  have pre0 : ∀ t, Steps p.tables e below (s₁.setTop (mkF m 0 #[.val (.int x0), .val (.int x1), .unset, .unset, .unset] [])) t → Steps p.tables e below (s₁.setTop (entryFrame m #[(.int x0), (.int x1)] maxLocals)) t := fun t k => castTop (by first | (simp [entryFrame, mkF, argsToLocals, Value.category, maxLocals]; done) | rfl) k
  obtain ⟨_, _, ⟨T16, L16, k16, n16⟩, -, X16, ⟨Lc16, hQ16, l16, y16, z16⟩, st16⟩ := Jvm.LawKit.callS X0 hx (y := (⟨cs0, "ofCode", cs3⟩ : MethodName)) hown (mvT hZ (ww hw 0 rfl)) (mvT hZ (ww hw 1 rfl)) (mvT hZ (ww hw 2 rfl)) (mvT hZ (ww hw 3 rfl)) (by decide) (backOf (W := 0) (rm1_3 l Z a0 hw [] x0 r2 c3 r4 r5 r6 r7 r8 r9 h0 n0 O0 f1 f2 f3 f4 hc5 f6 hc7 f8 hc9 f10 hc11 f12 hc13 f14 hc15) hZ (ww hw 3 rfl) (ww hw 2 rfl) (by decide) (by decide)) (g := (mkF m 6 #[.val (.int x0), .val (.int x1), .val (.int (x1 &&& (7 : Int32))), .unset, .unset] [(.int x0)])) rfl (by rw [hml]; rfl) (argsL := [(.int x0)]) (rest := []) (lenOf pd__I_Lcom_example_wiregather_wiregather_wire_FieldType_ rfl) rfl (by show 2 * 0 + _ ≤ _; exact Nat.le_of_eq rfl) (hb hby at_6) (fun _ _ => ⟨rfl, e0, (by decide : 0 + 1 ≤ _), (by decide : 0 + 6 ≤ _)⟩)
  dsimp only [Pt.U, Pt.locs, Pt.cells, Pt.slots] at X16 l16 y16 z16 st16 hQ16
  subst l16 y16 z16
  obtain ⟨rfl, N16q, K16⟩ := hQ16
  have N16 := Fr.app N0 N16q
  have o23 := Old.keep O0 K16 all0
  obtain ⟨_, _, ⟨T24, L24, k24, n24⟩, -, X24, ⟨Lc24, hQ24, l24, y24, z24⟩, st24⟩ := Jvm.LawKit.callS X16 hx (y := (⟨cs0, "ofCode", cs3⟩ : MethodName)) hown (mvT hZ (ww hw 0 rfl)) (mvT hZ (ww hw 1 rfl)) (mvT hZ (ww hw 2 rfl)) (mvT hZ (ww hw 3 rfl)) (by decide) (backOf (W := 0) (rm1_7 l Z a0 hw [] (x1 &&& (7 : Int32)) r2 c3 r4 r5 r6 r7 r8 r9 T16.heap n0 o23 f1 f2 f3 f4 hc17 f6 hc18 f8 hc19 f10 hc20 f12 hc21 f14 hc22) hZ (ww hw 3 rfl) (ww hw 2 rfl) (by decide) (by decide)) (g := (mkF m 11 #[.val (.int x0), .val (.int x1), .val (.int (x1 &&& (7 : Int32))), .val (.ref r5), .unset] [(.int (x1 &&& (7 : Int32)))])) rfl (by rw [hml]; rfl) (argsL := [(.int (x1 &&& (7 : Int32)))]) (rest := []) (lenOf pd__I_Lcom_example_wiregather_wiregather_wire_FieldType_ rfl) rfl (by show 2 * 0 + _ ≤ _; exact Nat.le_of_eq rfl) (hb hby at_11) (fun _ _ => ⟨rfl, rfl, (by decide : 1 + 1 ≤ _), (by decide : 6 + 6 ≤ _)⟩)
  dsimp only [Pt.U, Pt.locs, Pt.cells, Pt.slots] at X24 l24 y24 z24 st24 hQ24
  subst l24 y24 z24
  obtain ⟨rfl, N24q, K24⟩ := hQ24
  have N24 := Fr.app N16 N24q
  have o28 := Old.keep o23 K24 all0
  obtain ⟨_, _, ⟨T29, L29, k29, n29⟩, -, X29, ⟨Lc29, hQ29, l29, y29, z29⟩, st29⟩ := Jvm.LawKit.callS X24 hx (y := (⟨cs4, "expected", cs3⟩ : MethodName)) hown (mvT hZ (ww hw 27 rfl)) (mvT hZ (ww hw 28 rfl)) (mvT hZ (ww hw 29 rfl)) (mvT hZ (ww hw 30 rfl)) (by decide) (backOf (W := 1) (rm3_3 l Z a0 hw [] x0 r5 T24.heap n0 o28 hc25 hc26 f27) hZ (ww hw 30 rfl) (ww hw 29 rfl) (by decide) (by decide)) (g := (mkF m 18 #[.val (.int x0), .val (.int x1), .val (.int (x1 &&& (7 : Int32))), .val (.ref r5), .val (.ref r9)] [(.int x0), (.ref r5)])) rfl (by rw [hml]; rfl) (argsL := [(.int x0)]) (rest := [(.ref r5)]) (lenOf pd__I_Lcom_example_wiregather_wiregather_wire_FieldType_ rfl) rfl (by show 2 * 0 + _ ≤ _; exact Nat.le_of_eq rfl) (hb hby at_18) (fun _ _ => ⟨rfl, rfl, (by decide : 2 + 0 ≤ _), (by decide : 12 + 0 ≤ _)⟩)
  dsimp only [Pt.U, Pt.locs, Pt.cells, Pt.slots] at X29 l29 y29 z29 st29 hQ29
  subst l29 y29 z29
  obtain ⟨rfl, N29q, E29⟩ := hQ29
  have N29 := Fr.app N24 N29q
  obtain ⟨_, _, ⟨T37, L37, k37, n37⟩, -, X37, ⟨Lc37, hQ37, l37, y37, z37⟩, st37⟩ := Jvm.LawKit.callS X29 hx (y := (⟨cs4, "expected", cs3⟩ : MethodName)) hown (mvT hZ (ww hw 27 rfl)) (mvT hZ (ww hw 28 rfl)) (mvT hZ (ww hw 29 rfl)) (mvT hZ (ww hw 30 rfl)) (by decide) (backOf (W := 1) (rm3_7 l Z a0 hw [] (x1 &&& (7 : Int32)) r9 T24.heap n0 o28 hc30 hc31 hc32 hc33 hc34 hc35 f36) hZ (ww hw 30 rfl) (ww hw 29 rfl) (by decide) (by decide)) (g := (mkF m 27 #[.val (.int x0), .val (.int x1), .val (.int (x1 &&& (7 : Int32))), .val (.ref r5), .val (.ref r9)] [(.int (x1 &&& (7 : Int32))), (.ref r9)])) rfl (by rw [hml]; rfl) (argsL := [(.int (x1 &&& (7 : Int32)))]) (rest := [(.ref r9)]) (lenOf pd__I_Lcom_example_wiregather_wiregather_wire_FieldType_ rfl) rfl (by show 2 * 0 + _ ≤ _; exact Nat.le_of_eq rfl) (hb hby at_27) (fun _ _ => ⟨rfl, E29, (by decide : 2 + 0 ≤ _), (by decide : 12 + 0 ≤ _)⟩)
  dsimp only [Pt.U, Pt.locs, Pt.cells, Pt.slots] at X37 l37 y37 z37 st37 hQ37
  subst l37 y37 z37
  obtain ⟨rfl, N37q, E37⟩ := hQ37
  have N37 := Fr.app N29 N37q
  obtain ⟨fs, hr, hrun, hended, hW, hsame⟩ := X37.leave (v := some (.int (1 : Int32))) (fun h => by rw [Bd.returns] at h; cases h)
  refine ⟨_, _, pre0 _ ?_, hrun, hended, _, _, rfl, ?_, ⟨_, rfl⟩, hW, hsame.mono (by decide) (by decide)⟩
  · show Steps p.tables e below (s₁.setTop (mkF m 0 #[.val (.int x0), .val (.int x1), .unset, .unset, .unset] [])) _
    refine XS.iloadN X0.here hx rfl (hb hby at_0) rfl ?_
    refine XS.bipush X0.here hx rfl (hb hby at_1) ?_
    refine XS.iand X0.here hx rfl (hb hby at_3) rfl ?_
    refine XS.istoreN X0.here hx rfl (hb hby at_4) rfl (l' := #[.val (.int x0), .val (.int x1), .val (.int (x1 &&& (7 : Int32))), .unset, .unset]) rfl ?_
    show Steps p.tables e below (s₁.setTop (mkF m 5 #[.val (.int x0), .val (.int x1), .val (.int (x1 &&& (7 : Int32))), .unset, .unset] [])) _
    refine XS.iloadN X0.here hx rfl (hb hby at_5) rfl ?_
    refine st16 _ ?_
    show Steps p.tables e below (T16.setTop (mkF m 9 #[.val (.int x0), .val (.int x1), .val (.int (x1 &&& (7 : Int32))), .unset, .unset] [(.ref r5)])) _
    refine XS.astoreN X16.here hx rfl (hb hby at_9) rfl rfl (l' := #[.val (.int x0), .val (.int x1), .val (.int (x1 &&& (7 : Int32))), .val (.ref r5), .unset]) rfl ?_
    refine XS.iloadN X16.here hx rfl (hb hby at_10) rfl ?_
    refine st24 _ ?_
    show Steps p.tables e below (T24.setTop (mkF m 14 #[.val (.int x0), .val (.int x1), .val (.int (x1 &&& (7 : Int32))), .val (.ref r5), .unset] [(.ref r9)])) _
    refine XS.astore X24.here hx rfl (hb hby at_14) rfl rfl (l' := #[.val (.int x0), .val (.int x1), .val (.int (x1 &&& (7 : Int32))), .val (.ref r5), .val (.ref r9)]) rfl ?_
    refine XS.aloadN X24.here hx rfl (hb hby at_16) rfl rfl ?_
    refine XS.iloadN X24.here hx rfl (hb hby at_17) rfl ?_
    refine st29 _ ?_
    show Steps p.tables e below (T29.setTop (mkF m 21 #[.val (.int x0), .val (.int x1), .val (.int (x1 &&& (7 : Int32))), .val (.ref r5), .val (.ref r9)] [(.ref r5), (.ref r5)])) _
    refine Jvm.RoadKit.acmp (g := (mkF m 21 #[.val (.int x0), .val (.int x1), .val (.int (x1 &&& (7 : Int32))), .val (.ref r5), .val (.ref r9)] [(.ref r5), (.ref r5)])) X29 hx rfl rfl rfl (pc0 := 21) (pc' := 24) (same := true) rfl (hb hby at_21) rfl (decide_eq_true rfl) (by decide) (by decide) ?_
    show Steps p.tables e below (T29.setTop (mkF m 24 #[.val (.int x0), .val (.int x1), .val (.int (x1 &&& (7 : Int32))), .val (.ref r5), .val (.ref r9)] [])) _
    refine XS.aload X29.here hx rfl (hb hby at_24) rfl rfl ?_
    refine XS.iloadN X29.here hx rfl (hb hby at_26) rfl ?_
    refine st37 _ ?_
    show Steps p.tables e below (T37.setTop (mkF m 30 #[.val (.int x0), .val (.int x1), .val (.int (x1 &&& (7 : Int32))), .val (.ref r5), .val (.ref r9)] [(.ref r9), (.ref r9)])) _
    refine Jvm.RoadKit.acmp (g := (mkF m 30 #[.val (.int x0), .val (.int x1), .val (.int (x1 &&& (7 : Int32))), .val (.ref r5), .val (.ref r9)] [(.ref r9), (.ref r9)])) X37 hx rfl rfl rfl (pc0 := 30) (pc' := 33) (same := true) rfl (hb hby at_30) rfl (decide_eq_true rfl) (by decide) (by decide) ?_
    show Steps p.tables e below (T37.setTop (mkF m 33 #[.val (.int x0), .val (.int x1), .val (.int (x1 &&& (7 : Int32))), .val (.ref r5), .val (.ref r9)] [])) _
    refine XS.iconst X37.here hx rfl (hb hby at_33) ?_
    refine XS.goto X37.here hx rfl (pc0 := 34) (pc' := 38) rfl (hb hby at_34) (by decide) (by decide) ?_
    show Steps p.tables e below (T37.setTop (mkF m 38 #[.val (.int x0), .val (.int x1), .val (.int (x1 &&& (7 : Int32))), .val (.ref r5), .val (.ref r9)] [(.int (1 : Int32))])) _
    exact retN X37 hx (t := .boolean) Bd.returns (by simp) (hb hby at_38) hr
  · show Q0_14 Z x0 x1 r2 c3 r4 r5 r6 r7 r8 r9 h0 n0 _ T37.heap _
    rw [E37]
    exact ⟨rfl, N37⟩
def Q0_15 (Z : State) (x0 : Int32) (x1 : Int32) (r2 : Addr) (c3 : ClassId) (r4 : Addr) (r5 : Addr) (r6 : Addr) (r7 : Addr) (r8 : Addr) (r9 : Addr) (h0 : Heap) (n0 : Nat) (v : Option Value) (h : Heap) (L : List Loc) : Prop := v = some (.int (1 : Int32)) ∧ Fr n0 L
set_option maxRecDepth 65536 in
set_option maxHeartbeats 40000000 in
theorem rm0_15 (l : Launch) (Z : State) (a0 : Array Value) (hw : ∀ d ∈ tables_1, d.before a0 Z = true) (ws : List Jvm.Cond) (x0 : Int32) (x1 : Int32) (r2 : Addr) (c3 : ClassId) (r4 : Addr) (r5 : Addr) (r6 : Addr) (r7 : Addr) (r8 : Addr) (r9 : Addr) (h0 : Heap) (n0 : Nat) (O0 : Old Z n0 h0) (f1 : Sta Z Z.heap cs0 "$VALUES" cs1 (.ref r2)) (f2 : Exa Z Z.heap r2 cs1) (f3 : Arv Z Z.heap r2 c3 (.object cs0) (6 : Int32) [(.ref r4), (.ref r5), (.ref r6), (.ref r7), (.ref r8), (.ref r9)] .null) (f4 : Fld Z Z.heap r4 cs0 "code" "I" (.int (1 : Int32))) (hc5 : ¬ ((1 : Int32) = x0)) (f6 : Fld Z Z.heap r5 cs0 "code" "I" (.int (2 : Int32))) (hc7 : ¬ ((2 : Int32) = x0)) (f8 : Fld Z Z.heap r6 cs0 "code" "I" (.int (3 : Int32))) (hc9 : (3 : Int32) = x0) (f10 : Fld Z Z.heap r7 cs0 "code" "I" (.int (4 : Int32))) (hc11 : ¬ ((4 : Int32) = x0)) (f12 : Fld Z Z.heap r8 cs0 "code" "I" (.int (5 : Int32))) (hc13 : ¬ ((5 : Int32) = x0)) (f14 : Fld Z Z.heap r9 cs0 "code" "I" (.int (6 : Int32))) (hc15 : ¬ ((6 : Int32) = x0)) (hc17 : ¬ ((1 : Int32) = (x1 &&& (7 : Int32)))) (hc18 : ¬ ((2 : Int32) = (x1 &&& (7 : Int32)))) (hc19 : ¬ ((3 : Int32) = (x1 &&& (7 : Int32)))) (hc20 : ¬ ((4 : Int32) = (x1 &&& (7 : Int32)))) (hc21 : ¬ ((5 : Int32) = (x1 &&& (7 : Int32)))) (hc22 : ¬ ((6 : Int32) = (x1 &&& (7 : Int32)))) (hc25 : ¬ (x0 = (1 : Int32))) (hc26 : ¬ (x0 = (2 : Int32))) (hc27 : x0 = (3 : Int32)) (f28 : Sta Z Z.heap cs0 "F32" cs5 (.ref r6)) (hc31 : ¬ ((x1 &&& (7 : Int32)) = (1 : Int32))) (hc32 : ¬ ((x1 &&& (7 : Int32)) = (2 : Int32))) (hc33 : ¬ ((x1 &&& (7 : Int32)) = (3 : Int32))) (hc34 : ¬ ((x1 &&& (7 : Int32)) = (4 : Int32))) (hc35 : ¬ ((x1 &&& (7 : Int32)) = (5 : Int32))) (hc36 : ¬ ((x1 &&& (7 : Int32)) = (6 : Int32))) :
    MetFree l x (head1 (Jvm.Cond.code x code maxLocals ret :: ws) room_1) (fun a U => a = #[(.int x0), (.int x1)] ∧ Z.Warmed39 U.vm ∧ U.heap = h0) (fun _ _ _ _ _ => True) (fun _ U o U' => ∃ v L, o = .returned v ∧ Q0_15 Z x0 x1 r2 c3 r4 r5 r6 r7 r8 r9 h0 n0 v U'.heap L ∧ FrameEnd U o U' L room_1.cells room_1.slots) := by
  refine MetFree.of_bodySF (plainFor_of_name pn_com_example_wiregather_wiregather_wire_FieldTypeOfCodePinLaw) hisR ?_
  intro p e s m args below meth c s₁ Bd hml0 hP hK
  obtain ⟨rfl, hZ, hh⟩ := hP
  have hx := Bd.exec
  have hby := Bd.bytes
  have hml : c.maxLocals = 5 := hml0
  have hown : s.vm.findClass cs4 = some m.cls := findClass_of_methodNamed Bd.named
  have hnm := (name_of_methodNamed Bd.named Bd.method).1
  have X0 : Stand p l e room_1 s m #[(.int x0), (.int x1)] below meth c s₁ [] 0 0 := Stand.of_body Bd
  have e0 : s₁.heap = h0 := by rw [← hh, Bd.state]; rfl
  have N0 := Fr.nil n0
  have pre0 : ∀ t, Steps p.tables e below (s₁.setTop (mkF m 0 #[.val (.int x0), .val (.int x1), .unset, .unset, .unset] [])) t → Steps p.tables e below (s₁.setTop (entryFrame m #[(.int x0), (.int x1)] maxLocals)) t := fun t k => castTop (by first | (simp [entryFrame, mkF, argsToLocals, Value.category, maxLocals]; done) | rfl) k
  obtain ⟨_, _, ⟨T16, L16, k16, n16⟩, -, X16, ⟨Lc16, hQ16, l16, y16, z16⟩, st16⟩ := Jvm.LawKit.callS X0 hx (y := (⟨cs0, "ofCode", cs3⟩ : MethodName)) hown (mvT hZ (ww hw 0 rfl)) (mvT hZ (ww hw 1 rfl)) (mvT hZ (ww hw 2 rfl)) (mvT hZ (ww hw 3 rfl)) (by decide) (backOf (W := 0) (rm1_4 l Z a0 hw [] x0 r2 c3 r4 r5 r6 r7 r8 r9 h0 n0 O0 f1 f2 f3 f4 hc5 f6 hc7 f8 hc9 f10 hc11 f12 hc13 f14 hc15) hZ (ww hw 3 rfl) (ww hw 2 rfl) (by decide) (by decide)) (g := (mkF m 6 #[.val (.int x0), .val (.int x1), .val (.int (x1 &&& (7 : Int32))), .unset, .unset] [(.int x0)])) rfl (by rw [hml]; rfl) (argsL := [(.int x0)]) (rest := []) (lenOf pd__I_Lcom_example_wiregather_wiregather_wire_FieldType_ rfl) rfl (by show 2 * 0 + _ ≤ _; exact Nat.le_of_eq rfl) (hb hby at_6) (fun _ _ => ⟨rfl, e0, (by decide : 0 + 1 ≤ _), (by decide : 0 + 6 ≤ _)⟩)
  dsimp only [Pt.U, Pt.locs, Pt.cells, Pt.slots] at X16 l16 y16 z16 st16 hQ16
  subst l16 y16 z16
  obtain ⟨rfl, N16q, K16⟩ := hQ16
  have N16 := Fr.app N0 N16q
  have o23 := Old.keep O0 K16 all0
  obtain ⟨_, _, ⟨T24, L24, k24, n24⟩, -, X24, ⟨Lc24, hQ24, l24, y24, z24⟩, st24⟩ := Jvm.LawKit.callS X16 hx (y := (⟨cs0, "ofCode", cs3⟩ : MethodName)) hown (mvT hZ (ww hw 0 rfl)) (mvT hZ (ww hw 1 rfl)) (mvT hZ (ww hw 2 rfl)) (mvT hZ (ww hw 3 rfl)) (by decide) (backOf (W := 0) (rm1_2 l Z a0 hw [] (x1 &&& (7 : Int32)) r2 c3 r4 r5 r6 r7 r8 r9 T16.heap n0 o23 f1 f2 f3 f4 hc17 f6 hc18 f8 hc19 f10 hc20 f12 hc21 f14 hc22) hZ (ww hw 3 rfl) (ww hw 2 rfl) (by decide) (by decide)) (g := (mkF m 11 #[.val (.int x0), .val (.int x1), .val (.int (x1 &&& (7 : Int32))), .val (.ref r6), .unset] [(.int (x1 &&& (7 : Int32)))])) rfl (by rw [hml]; rfl) (argsL := [(.int (x1 &&& (7 : Int32)))]) (rest := []) (lenOf pd__I_Lcom_example_wiregather_wiregather_wire_FieldType_ rfl) rfl (by show 2 * 0 + _ ≤ _; exact Nat.le_of_eq rfl) (hb hby at_11) (fun _ _ => ⟨rfl, rfl, (by decide : 1 + 1 ≤ _), (by decide : 6 + 6 ≤ _)⟩)
  dsimp only [Pt.U, Pt.locs, Pt.cells, Pt.slots] at X24 l24 y24 z24 st24 hQ24
  subst l24 y24 z24
  obtain ⟨rfl, N24q, K24⟩ := hQ24
  have N24 := Fr.app N16 N24q
  have o29 := Old.keep o23 K24 all0
  obtain ⟨_, _, ⟨T30, L30, k30, n30⟩, -, X30, ⟨Lc30, hQ30, l30, y30, z30⟩, st30⟩ := Jvm.LawKit.callS X24 hx (y := (⟨cs4, "expected", cs3⟩ : MethodName)) hown (mvT hZ (ww hw 27 rfl)) (mvT hZ (ww hw 28 rfl)) (mvT hZ (ww hw 29 rfl)) (mvT hZ (ww hw 30 rfl)) (by decide) (backOf (W := 1) (rm3_4 l Z a0 hw [] x0 r6 T24.heap n0 o29 hc25 hc26 hc27 f28) hZ (ww hw 30 rfl) (ww hw 29 rfl) (by decide) (by decide)) (g := (mkF m 18 #[.val (.int x0), .val (.int x1), .val (.int (x1 &&& (7 : Int32))), .val (.ref r6), .val .null] [(.int x0), (.ref r6)])) rfl (by rw [hml]; rfl) (argsL := [(.int x0)]) (rest := [(.ref r6)]) (lenOf pd__I_Lcom_example_wiregather_wiregather_wire_FieldType_ rfl) rfl (by show 2 * 0 + _ ≤ _; exact Nat.le_of_eq rfl) (hb hby at_18) (fun _ _ => ⟨rfl, rfl, (by decide : 2 + 0 ≤ _), (by decide : 12 + 0 ≤ _)⟩)
  dsimp only [Pt.U, Pt.locs, Pt.cells, Pt.slots] at X30 l30 y30 z30 st30 hQ30
  subst l30 y30 z30
  obtain ⟨rfl, N30q, E30⟩ := hQ30
  have N30 := Fr.app N24 N30q
  obtain ⟨_, _, ⟨T37, L37, k37, n37⟩, -, X37, ⟨Lc37, hQ37, l37, y37, z37⟩, st37⟩ := Jvm.LawKit.callS X30 hx (y := (⟨cs4, "expected", cs3⟩ : MethodName)) hown (mvT hZ (ww hw 27 rfl)) (mvT hZ (ww hw 28 rfl)) (mvT hZ (ww hw 29 rfl)) (mvT hZ (ww hw 30 rfl)) (by decide) (backOf (W := 1) (rm3_2 l Z a0 hw [] (x1 &&& (7 : Int32)) T24.heap n0 o29 hc31 hc32 hc33 hc34 hc35 hc36) hZ (ww hw 30 rfl) (ww hw 29 rfl) (by decide) (by decide)) (g := (mkF m 27 #[.val (.int x0), .val (.int x1), .val (.int (x1 &&& (7 : Int32))), .val (.ref r6), .val .null] [(.int (x1 &&& (7 : Int32))), .null])) rfl (by rw [hml]; rfl) (argsL := [(.int (x1 &&& (7 : Int32)))]) (rest := [.null]) (lenOf pd__I_Lcom_example_wiregather_wiregather_wire_FieldType_ rfl) rfl (by show 2 * 0 + _ ≤ _; exact Nat.le_of_eq rfl) (hb hby at_27) (fun _ _ => ⟨rfl, E30, (by decide : 2 + 0 ≤ _), (by decide : 12 + 0 ≤ _)⟩)
  dsimp only [Pt.U, Pt.locs, Pt.cells, Pt.slots] at X37 l37 y37 z37 st37 hQ37
  subst l37 y37 z37
  obtain ⟨rfl, N37q, E37⟩ := hQ37
  have N37 := Fr.app N30 N37q
  obtain ⟨fs, hr, hrun, hended, hW, hsame⟩ := X37.leave (v := some (.int (1 : Int32))) (fun h => by rw [Bd.returns] at h; cases h)
  refine ⟨_, _, pre0 _ ?_, hrun, hended, _, _, rfl, ?_, ⟨_, rfl⟩, hW, hsame.mono (by decide) (by decide)⟩
  · show Steps p.tables e below (s₁.setTop (mkF m 0 #[.val (.int x0), .val (.int x1), .unset, .unset, .unset] [])) _
    refine XS.iloadN X0.here hx rfl (hb hby at_0) rfl ?_
    refine XS.bipush X0.here hx rfl (hb hby at_1) ?_
    refine XS.iand X0.here hx rfl (hb hby at_3) rfl ?_
    refine XS.istoreN X0.here hx rfl (hb hby at_4) rfl (l' := #[.val (.int x0), .val (.int x1), .val (.int (x1 &&& (7 : Int32))), .unset, .unset]) rfl ?_
    show Steps p.tables e below (s₁.setTop (mkF m 5 #[.val (.int x0), .val (.int x1), .val (.int (x1 &&& (7 : Int32))), .unset, .unset] [])) _
    refine XS.iloadN X0.here hx rfl (hb hby at_5) rfl ?_
    refine st16 _ ?_
    show Steps p.tables e below (T16.setTop (mkF m 9 #[.val (.int x0), .val (.int x1), .val (.int (x1 &&& (7 : Int32))), .unset, .unset] [(.ref r6)])) _
    refine XS.astoreN X16.here hx rfl (hb hby at_9) rfl rfl (l' := #[.val (.int x0), .val (.int x1), .val (.int (x1 &&& (7 : Int32))), .val (.ref r6), .unset]) rfl ?_
    refine XS.iloadN X16.here hx rfl (hb hby at_10) rfl ?_
    refine st24 _ ?_
    show Steps p.tables e below (T24.setTop (mkF m 14 #[.val (.int x0), .val (.int x1), .val (.int (x1 &&& (7 : Int32))), .val (.ref r6), .unset] [.null])) _
    refine XS.astore X24.here hx rfl (hb hby at_14) rfl rfl (l' := #[.val (.int x0), .val (.int x1), .val (.int (x1 &&& (7 : Int32))), .val (.ref r6), .val .null]) rfl ?_
    refine XS.aloadN X24.here hx rfl (hb hby at_16) rfl rfl ?_
    refine XS.iloadN X24.here hx rfl (hb hby at_17) rfl ?_
    refine st30 _ ?_
    show Steps p.tables e below (T30.setTop (mkF m 21 #[.val (.int x0), .val (.int x1), .val (.int (x1 &&& (7 : Int32))), .val (.ref r6), .val .null] [(.ref r6), (.ref r6)])) _
    refine Jvm.RoadKit.acmp (g := (mkF m 21 #[.val (.int x0), .val (.int x1), .val (.int (x1 &&& (7 : Int32))), .val (.ref r6), .val .null] [(.ref r6), (.ref r6)])) X30 hx rfl rfl rfl (pc0 := 21) (pc' := 24) (same := true) rfl (hb hby at_21) rfl (decide_eq_true rfl) (by decide) (by decide) ?_
    show Steps p.tables e below (T30.setTop (mkF m 24 #[.val (.int x0), .val (.int x1), .val (.int (x1 &&& (7 : Int32))), .val (.ref r6), .val .null] [])) _
    refine XS.aload X30.here hx rfl (hb hby at_24) rfl rfl ?_
    refine XS.iloadN X30.here hx rfl (hb hby at_26) rfl ?_
    refine st37 _ ?_
    show Steps p.tables e below (T37.setTop (mkF m 30 #[.val (.int x0), .val (.int x1), .val (.int (x1 &&& (7 : Int32))), .val (.ref r6), .val .null] [.null, .null])) _
    refine Jvm.RoadKit.acmp (g := (mkF m 30 #[.val (.int x0), .val (.int x1), .val (.int (x1 &&& (7 : Int32))), .val (.ref r6), .val .null] [.null, .null])) X37 hx rfl rfl rfl (pc0 := 30) (pc' := 33) (same := true) rfl (hb hby at_30) rfl (decide_eq_true rfl) (by decide) (by decide) ?_
    show Steps p.tables e below (T37.setTop (mkF m 33 #[.val (.int x0), .val (.int x1), .val (.int (x1 &&& (7 : Int32))), .val (.ref r6), .val .null] [])) _
    refine XS.iconst X37.here hx rfl (hb hby at_33) ?_
    refine XS.goto X37.here hx rfl (pc0 := 34) (pc' := 38) rfl (hb hby at_34) (by decide) (by decide) ?_
    show Steps p.tables e below (T37.setTop (mkF m 38 #[.val (.int x0), .val (.int x1), .val (.int (x1 &&& (7 : Int32))), .val (.ref r6), .val .null] [(.int (1 : Int32))])) _
    exact retN X37 hx (t := .boolean) Bd.returns (by simp) (hb hby at_38) hr
  · show Q0_15 Z x0 x1 r2 c3 r4 r5 r6 r7 r8 r9 h0 n0 _ T37.heap _
    rw [E37]
    exact ⟨rfl, N37⟩
def Q0_16 (Z : State) (x0 : Int32) (x1 : Int32) (r2 : Addr) (c3 : ClassId) (r4 : Addr) (r5 : Addr) (r6 : Addr) (r7 : Addr) (r8 : Addr) (r9 : Addr) (h0 : Heap) (n0 : Nat) (v : Option Value) (h : Heap) (L : List Loc) : Prop := v = some (.int (1 : Int32)) ∧ Fr n0 L
set_option maxRecDepth 65536 in
set_option maxHeartbeats 40000000 in
theorem rm0_16 (l : Launch) (Z : State) (a0 : Array Value) (hw : ∀ d ∈ tables_1, d.before a0 Z = true) (ws : List Jvm.Cond) (x0 : Int32) (x1 : Int32) (r2 : Addr) (c3 : ClassId) (r4 : Addr) (r5 : Addr) (r6 : Addr) (r7 : Addr) (r8 : Addr) (r9 : Addr) (h0 : Heap) (n0 : Nat) (O0 : Old Z n0 h0) (f1 : Sta Z Z.heap cs0 "$VALUES" cs1 (.ref r2)) (f2 : Exa Z Z.heap r2 cs1) (f3 : Arv Z Z.heap r2 c3 (.object cs0) (6 : Int32) [(.ref r4), (.ref r5), (.ref r6), (.ref r7), (.ref r8), (.ref r9)] .null) (f4 : Fld Z Z.heap r4 cs0 "code" "I" (.int (1 : Int32))) (hc5 : ¬ ((1 : Int32) = x0)) (f6 : Fld Z Z.heap r5 cs0 "code" "I" (.int (2 : Int32))) (hc7 : ¬ ((2 : Int32) = x0)) (f8 : Fld Z Z.heap r6 cs0 "code" "I" (.int (3 : Int32))) (hc9 : (3 : Int32) = x0) (f10 : Fld Z Z.heap r7 cs0 "code" "I" (.int (4 : Int32))) (hc11 : ¬ ((4 : Int32) = x0)) (f12 : Fld Z Z.heap r8 cs0 "code" "I" (.int (5 : Int32))) (hc13 : ¬ ((5 : Int32) = x0)) (f14 : Fld Z Z.heap r9 cs0 "code" "I" (.int (6 : Int32))) (hc15 : ¬ ((6 : Int32) = x0)) (hc17 : (1 : Int32) = (x1 &&& (7 : Int32))) (hc18 : ¬ ((2 : Int32) = (x1 &&& (7 : Int32)))) (hc19 : ¬ ((3 : Int32) = (x1 &&& (7 : Int32)))) (hc20 : ¬ ((4 : Int32) = (x1 &&& (7 : Int32)))) (hc21 : ¬ ((5 : Int32) = (x1 &&& (7 : Int32)))) (hc22 : ¬ ((6 : Int32) = (x1 &&& (7 : Int32)))) (hc25 : ¬ (x0 = (1 : Int32))) (hc26 : ¬ (x0 = (2 : Int32))) (hc27 : x0 = (3 : Int32)) (f28 : Sta Z Z.heap cs0 "F32" cs5 (.ref r6)) (hc31 : (x1 &&& (7 : Int32)) = (1 : Int32)) (f32 : Sta Z Z.heap cs0 "I32" cs5 (.ref r4)) :
    MetFree l x (head1 (Jvm.Cond.code x code maxLocals ret :: ws) room_1) (fun a U => a = #[(.int x0), (.int x1)] ∧ Z.Warmed39 U.vm ∧ U.heap = h0) (fun _ _ _ _ _ => True) (fun _ U o U' => ∃ v L, o = .returned v ∧ Q0_16 Z x0 x1 r2 c3 r4 r5 r6 r7 r8 r9 h0 n0 v U'.heap L ∧ FrameEnd U o U' L room_1.cells room_1.slots) := by
  refine MetFree.of_bodySF (plainFor_of_name pn_com_example_wiregather_wiregather_wire_FieldTypeOfCodePinLaw) hisR ?_
  intro p e s m args below meth c s₁ Bd hml0 hP hK
  obtain ⟨rfl, hZ, hh⟩ := hP
  have hx := Bd.exec
  have hby := Bd.bytes
  have hml : c.maxLocals = 5 := hml0
  have hown : s.vm.findClass cs4 = some m.cls := findClass_of_methodNamed Bd.named
  have hnm := (name_of_methodNamed Bd.named Bd.method).1
  have X0 : Stand p l e room_1 s m #[(.int x0), (.int x1)] below meth c s₁ [] 0 0 := Stand.of_body Bd
  have e0 : s₁.heap = h0 := by rw [← hh, Bd.state]; rfl
  have N0 := Fr.nil n0
  have pre0 : ∀ t, Steps p.tables e below (s₁.setTop (mkF m 0 #[.val (.int x0), .val (.int x1), .unset, .unset, .unset] [])) t → Steps p.tables e below (s₁.setTop (entryFrame m #[(.int x0), (.int x1)] maxLocals)) t := fun t k => castTop (by first | (simp [entryFrame, mkF, argsToLocals, Value.category, maxLocals]; done) | rfl) k
  obtain ⟨_, _, ⟨T16, L16, k16, n16⟩, -, X16, ⟨Lc16, hQ16, l16, y16, z16⟩, st16⟩ := Jvm.LawKit.callS X0 hx (y := (⟨cs0, "ofCode", cs3⟩ : MethodName)) hown (mvT hZ (ww hw 0 rfl)) (mvT hZ (ww hw 1 rfl)) (mvT hZ (ww hw 2 rfl)) (mvT hZ (ww hw 3 rfl)) (by decide) (backOf (W := 0) (rm1_4 l Z a0 hw [] x0 r2 c3 r4 r5 r6 r7 r8 r9 h0 n0 O0 f1 f2 f3 f4 hc5 f6 hc7 f8 hc9 f10 hc11 f12 hc13 f14 hc15) hZ (ww hw 3 rfl) (ww hw 2 rfl) (by decide) (by decide)) (g := (mkF m 6 #[.val (.int x0), .val (.int x1), .val (.int (x1 &&& (7 : Int32))), .unset, .unset] [(.int x0)])) rfl (by rw [hml]; rfl) (argsL := [(.int x0)]) (rest := []) (lenOf pd__I_Lcom_example_wiregather_wiregather_wire_FieldType_ rfl) rfl (by show 2 * 0 + _ ≤ _; exact Nat.le_of_eq rfl) (hb hby at_6) (fun _ _ => ⟨rfl, e0, (by decide : 0 + 1 ≤ _), (by decide : 0 + 6 ≤ _)⟩)
  dsimp only [Pt.U, Pt.locs, Pt.cells, Pt.slots] at X16 l16 y16 z16 st16 hQ16
  subst l16 y16 z16
  obtain ⟨rfl, N16q, K16⟩ := hQ16
  have N16 := Fr.app N0 N16q
  have o23 := Old.keep O0 K16 all0
  obtain ⟨_, _, ⟨T24, L24, k24, n24⟩, -, X24, ⟨Lc24, hQ24, l24, y24, z24⟩, st24⟩ := Jvm.LawKit.callS X16 hx (y := (⟨cs0, "ofCode", cs3⟩ : MethodName)) hown (mvT hZ (ww hw 0 rfl)) (mvT hZ (ww hw 1 rfl)) (mvT hZ (ww hw 2 rfl)) (mvT hZ (ww hw 3 rfl)) (by decide) (backOf (W := 0) (rm1_1 l Z a0 hw [] (x1 &&& (7 : Int32)) r2 c3 r4 r5 r6 r7 r8 r9 T16.heap n0 o23 f1 f2 f3 f4 hc17 f6 hc18 f8 hc19 f10 hc20 f12 hc21 f14 hc22) hZ (ww hw 3 rfl) (ww hw 2 rfl) (by decide) (by decide)) (g := (mkF m 11 #[.val (.int x0), .val (.int x1), .val (.int (x1 &&& (7 : Int32))), .val (.ref r6), .unset] [(.int (x1 &&& (7 : Int32)))])) rfl (by rw [hml]; rfl) (argsL := [(.int (x1 &&& (7 : Int32)))]) (rest := []) (lenOf pd__I_Lcom_example_wiregather_wiregather_wire_FieldType_ rfl) rfl (by show 2 * 0 + _ ≤ _; exact Nat.le_of_eq rfl) (hb hby at_11) (fun _ _ => ⟨rfl, rfl, (by decide : 1 + 1 ≤ _), (by decide : 6 + 6 ≤ _)⟩)
  dsimp only [Pt.U, Pt.locs, Pt.cells, Pt.slots] at X24 l24 y24 z24 st24 hQ24
  subst l24 y24 z24
  obtain ⟨rfl, N24q, K24⟩ := hQ24
  have N24 := Fr.app N16 N24q
  have o29 := Old.keep o23 K24 all0
  obtain ⟨_, _, ⟨T30, L30, k30, n30⟩, -, X30, ⟨Lc30, hQ30, l30, y30, z30⟩, st30⟩ := Jvm.LawKit.callS X24 hx (y := (⟨cs4, "expected", cs3⟩ : MethodName)) hown (mvT hZ (ww hw 27 rfl)) (mvT hZ (ww hw 28 rfl)) (mvT hZ (ww hw 29 rfl)) (mvT hZ (ww hw 30 rfl)) (by decide) (backOf (W := 1) (rm3_4 l Z a0 hw [] x0 r6 T24.heap n0 o29 hc25 hc26 hc27 f28) hZ (ww hw 30 rfl) (ww hw 29 rfl) (by decide) (by decide)) (g := (mkF m 18 #[.val (.int x0), .val (.int x1), .val (.int (x1 &&& (7 : Int32))), .val (.ref r6), .val (.ref r4)] [(.int x0), (.ref r6)])) rfl (by rw [hml]; rfl) (argsL := [(.int x0)]) (rest := [(.ref r6)]) (lenOf pd__I_Lcom_example_wiregather_wiregather_wire_FieldType_ rfl) rfl (by show 2 * 0 + _ ≤ _; exact Nat.le_of_eq rfl) (hb hby at_18) (fun _ _ => ⟨rfl, rfl, (by decide : 2 + 0 ≤ _), (by decide : 12 + 0 ≤ _)⟩)
  dsimp only [Pt.U, Pt.locs, Pt.cells, Pt.slots] at X30 l30 y30 z30 st30 hQ30
  subst l30 y30 z30
  obtain ⟨rfl, N30q, E30⟩ := hQ30
  have N30 := Fr.app N24 N30q
  obtain ⟨_, _, ⟨T33, L33, k33, n33⟩, -, X33, ⟨Lc33, hQ33, l33, y33, z33⟩, st33⟩ := Jvm.LawKit.callS X30 hx (y := (⟨cs4, "expected", cs3⟩ : MethodName)) hown (mvT hZ (ww hw 27 rfl)) (mvT hZ (ww hw 28 rfl)) (mvT hZ (ww hw 29 rfl)) (mvT hZ (ww hw 30 rfl)) (by decide) (backOf (W := 1) (rm3_1 l Z a0 hw [] (x1 &&& (7 : Int32)) r4 T24.heap n0 o29 hc31 f32) hZ (ww hw 30 rfl) (ww hw 29 rfl) (by decide) (by decide)) (g := (mkF m 27 #[.val (.int x0), .val (.int x1), .val (.int (x1 &&& (7 : Int32))), .val (.ref r6), .val (.ref r4)] [(.int (x1 &&& (7 : Int32))), (.ref r4)])) rfl (by rw [hml]; rfl) (argsL := [(.int (x1 &&& (7 : Int32)))]) (rest := [(.ref r4)]) (lenOf pd__I_Lcom_example_wiregather_wiregather_wire_FieldType_ rfl) rfl (by show 2 * 0 + _ ≤ _; exact Nat.le_of_eq rfl) (hb hby at_27) (fun _ _ => ⟨rfl, E30, (by decide : 2 + 0 ≤ _), (by decide : 12 + 0 ≤ _)⟩)
  dsimp only [Pt.U, Pt.locs, Pt.cells, Pt.slots] at X33 l33 y33 z33 st33 hQ33
  subst l33 y33 z33
  obtain ⟨rfl, N33q, E33⟩ := hQ33
  have N33 := Fr.app N30 N33q
  obtain ⟨fs, hr, hrun, hended, hW, hsame⟩ := X33.leave (v := some (.int (1 : Int32))) (fun h => by rw [Bd.returns] at h; cases h)
  refine ⟨_, _, pre0 _ ?_, hrun, hended, _, _, rfl, ?_, ⟨_, rfl⟩, hW, hsame.mono (by decide) (by decide)⟩
  · show Steps p.tables e below (s₁.setTop (mkF m 0 #[.val (.int x0), .val (.int x1), .unset, .unset, .unset] [])) _
    refine XS.iloadN X0.here hx rfl (hb hby at_0) rfl ?_
    refine XS.bipush X0.here hx rfl (hb hby at_1) ?_
    refine XS.iand X0.here hx rfl (hb hby at_3) rfl ?_
    refine XS.istoreN X0.here hx rfl (hb hby at_4) rfl (l' := #[.val (.int x0), .val (.int x1), .val (.int (x1 &&& (7 : Int32))), .unset, .unset]) rfl ?_
    show Steps p.tables e below (s₁.setTop (mkF m 5 #[.val (.int x0), .val (.int x1), .val (.int (x1 &&& (7 : Int32))), .unset, .unset] [])) _
    refine XS.iloadN X0.here hx rfl (hb hby at_5) rfl ?_
    refine st16 _ ?_
    show Steps p.tables e below (T16.setTop (mkF m 9 #[.val (.int x0), .val (.int x1), .val (.int (x1 &&& (7 : Int32))), .unset, .unset] [(.ref r6)])) _
    refine XS.astoreN X16.here hx rfl (hb hby at_9) rfl rfl (l' := #[.val (.int x0), .val (.int x1), .val (.int (x1 &&& (7 : Int32))), .val (.ref r6), .unset]) rfl ?_
    refine XS.iloadN X16.here hx rfl (hb hby at_10) rfl ?_
    refine st24 _ ?_
    show Steps p.tables e below (T24.setTop (mkF m 14 #[.val (.int x0), .val (.int x1), .val (.int (x1 &&& (7 : Int32))), .val (.ref r6), .unset] [(.ref r4)])) _
    refine XS.astore X24.here hx rfl (hb hby at_14) rfl rfl (l' := #[.val (.int x0), .val (.int x1), .val (.int (x1 &&& (7 : Int32))), .val (.ref r6), .val (.ref r4)]) rfl ?_
    refine XS.aloadN X24.here hx rfl (hb hby at_16) rfl rfl ?_
    refine XS.iloadN X24.here hx rfl (hb hby at_17) rfl ?_
    refine st30 _ ?_
    show Steps p.tables e below (T30.setTop (mkF m 21 #[.val (.int x0), .val (.int x1), .val (.int (x1 &&& (7 : Int32))), .val (.ref r6), .val (.ref r4)] [(.ref r6), (.ref r6)])) _
    refine Jvm.RoadKit.acmp (g := (mkF m 21 #[.val (.int x0), .val (.int x1), .val (.int (x1 &&& (7 : Int32))), .val (.ref r6), .val (.ref r4)] [(.ref r6), (.ref r6)])) X30 hx rfl rfl rfl (pc0 := 21) (pc' := 24) (same := true) rfl (hb hby at_21) rfl (decide_eq_true rfl) (by decide) (by decide) ?_
    show Steps p.tables e below (T30.setTop (mkF m 24 #[.val (.int x0), .val (.int x1), .val (.int (x1 &&& (7 : Int32))), .val (.ref r6), .val (.ref r4)] [])) _
    refine XS.aload X30.here hx rfl (hb hby at_24) rfl rfl ?_
    refine XS.iloadN X30.here hx rfl (hb hby at_26) rfl ?_
    refine st33 _ ?_
    show Steps p.tables e below (T33.setTop (mkF m 30 #[.val (.int x0), .val (.int x1), .val (.int (x1 &&& (7 : Int32))), .val (.ref r6), .val (.ref r4)] [(.ref r4), (.ref r4)])) _
    refine Jvm.RoadKit.acmp (g := (mkF m 30 #[.val (.int x0), .val (.int x1), .val (.int (x1 &&& (7 : Int32))), .val (.ref r6), .val (.ref r4)] [(.ref r4), (.ref r4)])) X33 hx rfl rfl rfl (pc0 := 30) (pc' := 33) (same := true) rfl (hb hby at_30) rfl (decide_eq_true rfl) (by decide) (by decide) ?_
    show Steps p.tables e below (T33.setTop (mkF m 33 #[.val (.int x0), .val (.int x1), .val (.int (x1 &&& (7 : Int32))), .val (.ref r6), .val (.ref r4)] [])) _
    refine XS.iconst X33.here hx rfl (hb hby at_33) ?_
    refine XS.goto X33.here hx rfl (pc0 := 34) (pc' := 38) rfl (hb hby at_34) (by decide) (by decide) ?_
    show Steps p.tables e below (T33.setTop (mkF m 38 #[.val (.int x0), .val (.int x1), .val (.int (x1 &&& (7 : Int32))), .val (.ref r6), .val (.ref r4)] [(.int (1 : Int32))])) _
    exact retN X33 hx (t := .boolean) Bd.returns (by simp) (hb hby at_38) hr
  · show Q0_16 Z x0 x1 r2 c3 r4 r5 r6 r7 r8 r9 h0 n0 _ T33.heap _
    rw [E33]
    exact ⟨rfl, N33⟩
def Q0_17 (Z : State) (x0 : Int32) (x1 : Int32) (r2 : Addr) (c3 : ClassId) (r4 : Addr) (r5 : Addr) (r6 : Addr) (r7 : Addr) (r8 : Addr) (r9 : Addr) (h0 : Heap) (n0 : Nat) (v : Option Value) (h : Heap) (L : List Loc) : Prop := v = some (.int (1 : Int32)) ∧ Fr n0 L
set_option maxRecDepth 65536 in
set_option maxHeartbeats 40000000 in
theorem rm0_17 (l : Launch) (Z : State) (a0 : Array Value) (hw : ∀ d ∈ tables_1, d.before a0 Z = true) (ws : List Jvm.Cond) (x0 : Int32) (x1 : Int32) (r2 : Addr) (c3 : ClassId) (r4 : Addr) (r5 : Addr) (r6 : Addr) (r7 : Addr) (r8 : Addr) (r9 : Addr) (h0 : Heap) (n0 : Nat) (O0 : Old Z n0 h0) (f1 : Sta Z Z.heap cs0 "$VALUES" cs1 (.ref r2)) (f2 : Exa Z Z.heap r2 cs1) (f3 : Arv Z Z.heap r2 c3 (.object cs0) (6 : Int32) [(.ref r4), (.ref r5), (.ref r6), (.ref r7), (.ref r8), (.ref r9)] .null) (f4 : Fld Z Z.heap r4 cs0 "code" "I" (.int (1 : Int32))) (hc5 : ¬ ((1 : Int32) = x0)) (f6 : Fld Z Z.heap r5 cs0 "code" "I" (.int (2 : Int32))) (hc7 : ¬ ((2 : Int32) = x0)) (f8 : Fld Z Z.heap r6 cs0 "code" "I" (.int (3 : Int32))) (hc9 : (3 : Int32) = x0) (f10 : Fld Z Z.heap r7 cs0 "code" "I" (.int (4 : Int32))) (hc11 : ¬ ((4 : Int32) = x0)) (f12 : Fld Z Z.heap r8 cs0 "code" "I" (.int (5 : Int32))) (hc13 : ¬ ((5 : Int32) = x0)) (f14 : Fld Z Z.heap r9 cs0 "code" "I" (.int (6 : Int32))) (hc15 : ¬ ((6 : Int32) = x0)) (hc17 : ¬ ((1 : Int32) = (x1 &&& (7 : Int32)))) (hc18 : (2 : Int32) = (x1 &&& (7 : Int32))) (hc19 : ¬ ((3 : Int32) = (x1 &&& (7 : Int32)))) (hc20 : ¬ ((4 : Int32) = (x1 &&& (7 : Int32)))) (hc21 : ¬ ((5 : Int32) = (x1 &&& (7 : Int32)))) (hc22 : ¬ ((6 : Int32) = (x1 &&& (7 : Int32)))) (hc25 : ¬ (x0 = (1 : Int32))) (hc26 : ¬ (x0 = (2 : Int32))) (hc27 : x0 = (3 : Int32)) (f28 : Sta Z Z.heap cs0 "F32" cs5 (.ref r6)) (hc31 : ¬ ((x1 &&& (7 : Int32)) = (1 : Int32))) (hc32 : (x1 &&& (7 : Int32)) = (2 : Int32)) (f33 : Sta Z Z.heap cs0 "U32" cs5 (.ref r5)) :
    MetFree l x (head1 (Jvm.Cond.code x code maxLocals ret :: ws) room_1) (fun a U => a = #[(.int x0), (.int x1)] ∧ Z.Warmed39 U.vm ∧ U.heap = h0) (fun _ _ _ _ _ => True) (fun _ U o U' => ∃ v L, o = .returned v ∧ Q0_17 Z x0 x1 r2 c3 r4 r5 r6 r7 r8 r9 h0 n0 v U'.heap L ∧ FrameEnd U o U' L room_1.cells room_1.slots) := by
  refine MetFree.of_bodySF (plainFor_of_name pn_com_example_wiregather_wiregather_wire_FieldTypeOfCodePinLaw) hisR ?_
  intro p e s m args below meth c s₁ Bd hml0 hP hK
  obtain ⟨rfl, hZ, hh⟩ := hP
  have hx := Bd.exec
  have hby := Bd.bytes
  have hml : c.maxLocals = 5 := hml0
  have hown : s.vm.findClass cs4 = some m.cls := findClass_of_methodNamed Bd.named
  have hnm := (name_of_methodNamed Bd.named Bd.method).1
  have X0 : Stand p l e room_1 s m #[(.int x0), (.int x1)] below meth c s₁ [] 0 0 := Stand.of_body Bd
  have e0 : s₁.heap = h0 := by rw [← hh, Bd.state]; rfl
  have N0 := Fr.nil n0
  have pre0 : ∀ t, Steps p.tables e below (s₁.setTop (mkF m 0 #[.val (.int x0), .val (.int x1), .unset, .unset, .unset] [])) t → Steps p.tables e below (s₁.setTop (entryFrame m #[(.int x0), (.int x1)] maxLocals)) t := fun t k => castTop (by first | (simp [entryFrame, mkF, argsToLocals, Value.category, maxLocals]; done) | rfl) k
  obtain ⟨_, _, ⟨T16, L16, k16, n16⟩, -, X16, ⟨Lc16, hQ16, l16, y16, z16⟩, st16⟩ := Jvm.LawKit.callS X0 hx (y := (⟨cs0, "ofCode", cs3⟩ : MethodName)) hown (mvT hZ (ww hw 0 rfl)) (mvT hZ (ww hw 1 rfl)) (mvT hZ (ww hw 2 rfl)) (mvT hZ (ww hw 3 rfl)) (by decide) (backOf (W := 0) (rm1_4 l Z a0 hw [] x0 r2 c3 r4 r5 r6 r7 r8 r9 h0 n0 O0 f1 f2 f3 f4 hc5 f6 hc7 f8 hc9 f10 hc11 f12 hc13 f14 hc15) hZ (ww hw 3 rfl) (ww hw 2 rfl) (by decide) (by decide)) (g := (mkF m 6 #[.val (.int x0), .val (.int x1), .val (.int (x1 &&& (7 : Int32))), .unset, .unset] [(.int x0)])) rfl (by rw [hml]; rfl) (argsL := [(.int x0)]) (rest := []) (lenOf pd__I_Lcom_example_wiregather_wiregather_wire_FieldType_ rfl) rfl (by show 2 * 0 + _ ≤ _; exact Nat.le_of_eq rfl) (hb hby at_6) (fun _ _ => ⟨rfl, e0, (by decide : 0 + 1 ≤ _), (by decide : 0 + 6 ≤ _)⟩)
  dsimp only [Pt.U, Pt.locs, Pt.cells, Pt.slots] at X16 l16 y16 z16 st16 hQ16
  subst l16 y16 z16
  obtain ⟨rfl, N16q, K16⟩ := hQ16
  have N16 := Fr.app N0 N16q
  have o23 := Old.keep O0 K16 all0
  obtain ⟨_, _, ⟨T24, L24, k24, n24⟩, -, X24, ⟨Lc24, hQ24, l24, y24, z24⟩, st24⟩ := Jvm.LawKit.callS X16 hx (y := (⟨cs0, "ofCode", cs3⟩ : MethodName)) hown (mvT hZ (ww hw 0 rfl)) (mvT hZ (ww hw 1 rfl)) (mvT hZ (ww hw 2 rfl)) (mvT hZ (ww hw 3 rfl)) (by decide) (backOf (W := 0) (rm1_3 l Z a0 hw [] (x1 &&& (7 : Int32)) r2 c3 r4 r5 r6 r7 r8 r9 T16.heap n0 o23 f1 f2 f3 f4 hc17 f6 hc18 f8 hc19 f10 hc20 f12 hc21 f14 hc22) hZ (ww hw 3 rfl) (ww hw 2 rfl) (by decide) (by decide)) (g := (mkF m 11 #[.val (.int x0), .val (.int x1), .val (.int (x1 &&& (7 : Int32))), .val (.ref r6), .unset] [(.int (x1 &&& (7 : Int32)))])) rfl (by rw [hml]; rfl) (argsL := [(.int (x1 &&& (7 : Int32)))]) (rest := []) (lenOf pd__I_Lcom_example_wiregather_wiregather_wire_FieldType_ rfl) rfl (by show 2 * 0 + _ ≤ _; exact Nat.le_of_eq rfl) (hb hby at_11) (fun _ _ => ⟨rfl, rfl, (by decide : 1 + 1 ≤ _), (by decide : 6 + 6 ≤ _)⟩)
  dsimp only [Pt.U, Pt.locs, Pt.cells, Pt.slots] at X24 l24 y24 z24 st24 hQ24
  subst l24 y24 z24
  obtain ⟨rfl, N24q, K24⟩ := hQ24
  have N24 := Fr.app N16 N24q
  have o29 := Old.keep o23 K24 all0
  obtain ⟨_, _, ⟨T30, L30, k30, n30⟩, -, X30, ⟨Lc30, hQ30, l30, y30, z30⟩, st30⟩ := Jvm.LawKit.callS X24 hx (y := (⟨cs4, "expected", cs3⟩ : MethodName)) hown (mvT hZ (ww hw 27 rfl)) (mvT hZ (ww hw 28 rfl)) (mvT hZ (ww hw 29 rfl)) (mvT hZ (ww hw 30 rfl)) (by decide) (backOf (W := 1) (rm3_4 l Z a0 hw [] x0 r6 T24.heap n0 o29 hc25 hc26 hc27 f28) hZ (ww hw 30 rfl) (ww hw 29 rfl) (by decide) (by decide)) (g := (mkF m 18 #[.val (.int x0), .val (.int x1), .val (.int (x1 &&& (7 : Int32))), .val (.ref r6), .val (.ref r5)] [(.int x0), (.ref r6)])) rfl (by rw [hml]; rfl) (argsL := [(.int x0)]) (rest := [(.ref r6)]) (lenOf pd__I_Lcom_example_wiregather_wiregather_wire_FieldType_ rfl) rfl (by show 2 * 0 + _ ≤ _; exact Nat.le_of_eq rfl) (hb hby at_18) (fun _ _ => ⟨rfl, rfl, (by decide : 2 + 0 ≤ _), (by decide : 12 + 0 ≤ _)⟩)
  dsimp only [Pt.U, Pt.locs, Pt.cells, Pt.slots] at X30 l30 y30 z30 st30 hQ30
  subst l30 y30 z30
  obtain ⟨rfl, N30q, E30⟩ := hQ30
  have N30 := Fr.app N24 N30q
  obtain ⟨_, _, ⟨T34, L34, k34, n34⟩, -, X34, ⟨Lc34, hQ34, l34, y34, z34⟩, st34⟩ := Jvm.LawKit.callS X30 hx (y := (⟨cs4, "expected", cs3⟩ : MethodName)) hown (mvT hZ (ww hw 27 rfl)) (mvT hZ (ww hw 28 rfl)) (mvT hZ (ww hw 29 rfl)) (mvT hZ (ww hw 30 rfl)) (by decide) (backOf (W := 1) (rm3_3 l Z a0 hw [] (x1 &&& (7 : Int32)) r5 T24.heap n0 o29 hc31 hc32 f33) hZ (ww hw 30 rfl) (ww hw 29 rfl) (by decide) (by decide)) (g := (mkF m 27 #[.val (.int x0), .val (.int x1), .val (.int (x1 &&& (7 : Int32))), .val (.ref r6), .val (.ref r5)] [(.int (x1 &&& (7 : Int32))), (.ref r5)])) rfl (by rw [hml]; rfl) (argsL := [(.int (x1 &&& (7 : Int32)))]) (rest := [(.ref r5)]) (lenOf pd__I_Lcom_example_wiregather_wiregather_wire_FieldType_ rfl) rfl (by show 2 * 0 + _ ≤ _; exact Nat.le_of_eq rfl) (hb hby at_27) (fun _ _ => ⟨rfl, E30, (by decide : 2 + 0 ≤ _), (by decide : 12 + 0 ≤ _)⟩)
  dsimp only [Pt.U, Pt.locs, Pt.cells, Pt.slots] at X34 l34 y34 z34 st34 hQ34
  subst l34 y34 z34
  obtain ⟨rfl, N34q, E34⟩ := hQ34
  have N34 := Fr.app N30 N34q
  obtain ⟨fs, hr, hrun, hended, hW, hsame⟩ := X34.leave (v := some (.int (1 : Int32))) (fun h => by rw [Bd.returns] at h; cases h)
  refine ⟨_, _, pre0 _ ?_, hrun, hended, _, _, rfl, ?_, ⟨_, rfl⟩, hW, hsame.mono (by decide) (by decide)⟩
  · show Steps p.tables e below (s₁.setTop (mkF m 0 #[.val (.int x0), .val (.int x1), .unset, .unset, .unset] [])) _
    refine XS.iloadN X0.here hx rfl (hb hby at_0) rfl ?_
    refine XS.bipush X0.here hx rfl (hb hby at_1) ?_
    refine XS.iand X0.here hx rfl (hb hby at_3) rfl ?_
    refine XS.istoreN X0.here hx rfl (hb hby at_4) rfl (l' := #[.val (.int x0), .val (.int x1), .val (.int (x1 &&& (7 : Int32))), .unset, .unset]) rfl ?_
    show Steps p.tables e below (s₁.setTop (mkF m 5 #[.val (.int x0), .val (.int x1), .val (.int (x1 &&& (7 : Int32))), .unset, .unset] [])) _
    refine XS.iloadN X0.here hx rfl (hb hby at_5) rfl ?_
    refine st16 _ ?_
    show Steps p.tables e below (T16.setTop (mkF m 9 #[.val (.int x0), .val (.int x1), .val (.int (x1 &&& (7 : Int32))), .unset, .unset] [(.ref r6)])) _
    refine XS.astoreN X16.here hx rfl (hb hby at_9) rfl rfl (l' := #[.val (.int x0), .val (.int x1), .val (.int (x1 &&& (7 : Int32))), .val (.ref r6), .unset]) rfl ?_
    refine XS.iloadN X16.here hx rfl (hb hby at_10) rfl ?_
    refine st24 _ ?_
    show Steps p.tables e below (T24.setTop (mkF m 14 #[.val (.int x0), .val (.int x1), .val (.int (x1 &&& (7 : Int32))), .val (.ref r6), .unset] [(.ref r5)])) _
    refine XS.astore X24.here hx rfl (hb hby at_14) rfl rfl (l' := #[.val (.int x0), .val (.int x1), .val (.int (x1 &&& (7 : Int32))), .val (.ref r6), .val (.ref r5)]) rfl ?_
    refine XS.aloadN X24.here hx rfl (hb hby at_16) rfl rfl ?_
    refine XS.iloadN X24.here hx rfl (hb hby at_17) rfl ?_
    refine st30 _ ?_
    show Steps p.tables e below (T30.setTop (mkF m 21 #[.val (.int x0), .val (.int x1), .val (.int (x1 &&& (7 : Int32))), .val (.ref r6), .val (.ref r5)] [(.ref r6), (.ref r6)])) _
    refine Jvm.RoadKit.acmp (g := (mkF m 21 #[.val (.int x0), .val (.int x1), .val (.int (x1 &&& (7 : Int32))), .val (.ref r6), .val (.ref r5)] [(.ref r6), (.ref r6)])) X30 hx rfl rfl rfl (pc0 := 21) (pc' := 24) (same := true) rfl (hb hby at_21) rfl (decide_eq_true rfl) (by decide) (by decide) ?_
    show Steps p.tables e below (T30.setTop (mkF m 24 #[.val (.int x0), .val (.int x1), .val (.int (x1 &&& (7 : Int32))), .val (.ref r6), .val (.ref r5)] [])) _
    refine XS.aload X30.here hx rfl (hb hby at_24) rfl rfl ?_
    refine XS.iloadN X30.here hx rfl (hb hby at_26) rfl ?_
    refine st34 _ ?_
    show Steps p.tables e below (T34.setTop (mkF m 30 #[.val (.int x0), .val (.int x1), .val (.int (x1 &&& (7 : Int32))), .val (.ref r6), .val (.ref r5)] [(.ref r5), (.ref r5)])) _
    refine Jvm.RoadKit.acmp (g := (mkF m 30 #[.val (.int x0), .val (.int x1), .val (.int (x1 &&& (7 : Int32))), .val (.ref r6), .val (.ref r5)] [(.ref r5), (.ref r5)])) X34 hx rfl rfl rfl (pc0 := 30) (pc' := 33) (same := true) rfl (hb hby at_30) rfl (decide_eq_true rfl) (by decide) (by decide) ?_
    show Steps p.tables e below (T34.setTop (mkF m 33 #[.val (.int x0), .val (.int x1), .val (.int (x1 &&& (7 : Int32))), .val (.ref r6), .val (.ref r5)] [])) _
    refine XS.iconst X34.here hx rfl (hb hby at_33) ?_
    refine XS.goto X34.here hx rfl (pc0 := 34) (pc' := 38) rfl (hb hby at_34) (by decide) (by decide) ?_
    show Steps p.tables e below (T34.setTop (mkF m 38 #[.val (.int x0), .val (.int x1), .val (.int (x1 &&& (7 : Int32))), .val (.ref r6), .val (.ref r5)] [(.int (1 : Int32))])) _
    exact retN X34 hx (t := .boolean) Bd.returns (by simp) (hb hby at_38) hr
  · show Q0_17 Z x0 x1 r2 c3 r4 r5 r6 r7 r8 r9 h0 n0 _ T34.heap _
    rw [E34]
    exact ⟨rfl, N34⟩
def Q0_18 (Z : State) (x0 : Int32) (x1 : Int32) (r2 : Addr) (c3 : ClassId) (r4 : Addr) (r5 : Addr) (r6 : Addr) (r7 : Addr) (r8 : Addr) (r9 : Addr) (h0 : Heap) (n0 : Nat) (v : Option Value) (h : Heap) (L : List Loc) : Prop := v = some (.int (1 : Int32)) ∧ Fr n0 L
set_option maxRecDepth 65536 in
set_option maxHeartbeats 40000000 in
theorem rm0_18 (l : Launch) (Z : State) (a0 : Array Value) (hw : ∀ d ∈ tables_1, d.before a0 Z = true) (ws : List Jvm.Cond) (x0 : Int32) (x1 : Int32) (r2 : Addr) (c3 : ClassId) (r4 : Addr) (r5 : Addr) (r6 : Addr) (r7 : Addr) (r8 : Addr) (r9 : Addr) (h0 : Heap) (n0 : Nat) (O0 : Old Z n0 h0) (f1 : Sta Z Z.heap cs0 "$VALUES" cs1 (.ref r2)) (f2 : Exa Z Z.heap r2 cs1) (f3 : Arv Z Z.heap r2 c3 (.object cs0) (6 : Int32) [(.ref r4), (.ref r5), (.ref r6), (.ref r7), (.ref r8), (.ref r9)] .null) (f4 : Fld Z Z.heap r4 cs0 "code" "I" (.int (1 : Int32))) (hc5 : ¬ ((1 : Int32) = x0)) (f6 : Fld Z Z.heap r5 cs0 "code" "I" (.int (2 : Int32))) (hc7 : ¬ ((2 : Int32) = x0)) (f8 : Fld Z Z.heap r6 cs0 "code" "I" (.int (3 : Int32))) (hc9 : (3 : Int32) = x0) (f10 : Fld Z Z.heap r7 cs0 "code" "I" (.int (4 : Int32))) (hc11 : ¬ ((4 : Int32) = x0)) (f12 : Fld Z Z.heap r8 cs0 "code" "I" (.int (5 : Int32))) (hc13 : ¬ ((5 : Int32) = x0)) (f14 : Fld Z Z.heap r9 cs0 "code" "I" (.int (6 : Int32))) (hc15 : ¬ ((6 : Int32) = x0)) (hc17 : ¬ ((1 : Int32) = (x1 &&& (7 : Int32)))) (hc18 : ¬ ((2 : Int32) = (x1 &&& (7 : Int32)))) (hc19 : (3 : Int32) = (x1 &&& (7 : Int32))) (hc20 : ¬ ((4 : Int32) = (x1 &&& (7 : Int32)))) (hc21 : ¬ ((5 : Int32) = (x1 &&& (7 : Int32)))) (hc22 : ¬ ((6 : Int32) = (x1 &&& (7 : Int32)))) (hc25 : ¬ (x0 = (1 : Int32))) (hc26 : ¬ (x0 = (2 : Int32))) (hc27 : x0 = (3 : Int32)) (f28 : Sta Z Z.heap cs0 "F32" cs5 (.ref r6)) (hc31 : ¬ ((x1 &&& (7 : Int32)) = (1 : Int32))) (hc32 : ¬ ((x1 &&& (7 : Int32)) = (2 : Int32))) (hc33 : (x1 &&& (7 : Int32)) = (3 : Int32)) :
    MetFree l x (head1 (Jvm.Cond.code x code maxLocals ret :: ws) room_1) (fun a U => a = #[(.int x0), (.int x1)] ∧ Z.Warmed39 U.vm ∧ U.heap = h0) (fun _ _ _ _ _ => True) (fun _ U o U' => ∃ v L, o = .returned v ∧ Q0_18 Z x0 x1 r2 c3 r4 r5 r6 r7 r8 r9 h0 n0 v U'.heap L ∧ FrameEnd U o U' L room_1.cells room_1.slots) := by
  refine MetFree.of_bodySF (plainFor_of_name pn_com_example_wiregather_wiregather_wire_FieldTypeOfCodePinLaw) hisR ?_
  intro p e s m args below meth c s₁ Bd hml0 hP hK
  obtain ⟨rfl, hZ, hh⟩ := hP
  have hx := Bd.exec
  have hby := Bd.bytes
  have hml : c.maxLocals = 5 := hml0
  have hown : s.vm.findClass cs4 = some m.cls := findClass_of_methodNamed Bd.named
  have hnm := (name_of_methodNamed Bd.named Bd.method).1
  have X0 : Stand p l e room_1 s m #[(.int x0), (.int x1)] below meth c s₁ [] 0 0 := Stand.of_body Bd
  have e0 : s₁.heap = h0 := by rw [← hh, Bd.state]; rfl
  have N0 := Fr.nil n0
  have pre0 : ∀ t, Steps p.tables e below (s₁.setTop (mkF m 0 #[.val (.int x0), .val (.int x1), .unset, .unset, .unset] [])) t → Steps p.tables e below (s₁.setTop (entryFrame m #[(.int x0), (.int x1)] maxLocals)) t := fun t k => castTop (by first | (simp [entryFrame, mkF, argsToLocals, Value.category, maxLocals]; done) | rfl) k
  obtain ⟨_, _, ⟨T16, L16, k16, n16⟩, -, X16, ⟨Lc16, hQ16, l16, y16, z16⟩, st16⟩ := Jvm.LawKit.callS X0 hx (y := (⟨cs0, "ofCode", cs3⟩ : MethodName)) hown (mvT hZ (ww hw 0 rfl)) (mvT hZ (ww hw 1 rfl)) (mvT hZ (ww hw 2 rfl)) (mvT hZ (ww hw 3 rfl)) (by decide) (backOf (W := 0) (rm1_4 l Z a0 hw [] x0 r2 c3 r4 r5 r6 r7 r8 r9 h0 n0 O0 f1 f2 f3 f4 hc5 f6 hc7 f8 hc9 f10 hc11 f12 hc13 f14 hc15) hZ (ww hw 3 rfl) (ww hw 2 rfl) (by decide) (by decide)) (g := (mkF m 6 #[.val (.int x0), .val (.int x1), .val (.int (x1 &&& (7 : Int32))), .unset, .unset] [(.int x0)])) rfl (by rw [hml]; rfl) (argsL := [(.int x0)]) (rest := []) (lenOf pd__I_Lcom_example_wiregather_wiregather_wire_FieldType_ rfl) rfl (by show 2 * 0 + _ ≤ _; exact Nat.le_of_eq rfl) (hb hby at_6) (fun _ _ => ⟨rfl, e0, (by decide : 0 + 1 ≤ _), (by decide : 0 + 6 ≤ _)⟩)
  dsimp only [Pt.U, Pt.locs, Pt.cells, Pt.slots] at X16 l16 y16 z16 st16 hQ16
  subst l16 y16 z16
  obtain ⟨rfl, N16q, K16⟩ := hQ16
  have N16 := Fr.app N0 N16q
  have o23 := Old.keep O0 K16 all0
  obtain ⟨_, _, ⟨T24, L24, k24, n24⟩, -, X24, ⟨Lc24, hQ24, l24, y24, z24⟩, st24⟩ := Jvm.LawKit.callS X16 hx (y := (⟨cs0, "ofCode", cs3⟩ : MethodName)) hown (mvT hZ (ww hw 0 rfl)) (mvT hZ (ww hw 1 rfl)) (mvT hZ (ww hw 2 rfl)) (mvT hZ (ww hw 3 rfl)) (by decide) (backOf (W := 0) (rm1_4 l Z a0 hw [] (x1 &&& (7 : Int32)) r2 c3 r4 r5 r6 r7 r8 r9 T16.heap n0 o23 f1 f2 f3 f4 hc17 f6 hc18 f8 hc19 f10 hc20 f12 hc21 f14 hc22) hZ (ww hw 3 rfl) (ww hw 2 rfl) (by decide) (by decide)) (g := (mkF m 11 #[.val (.int x0), .val (.int x1), .val (.int (x1 &&& (7 : Int32))), .val (.ref r6), .unset] [(.int (x1 &&& (7 : Int32)))])) rfl (by rw [hml]; rfl) (argsL := [(.int (x1 &&& (7 : Int32)))]) (rest := []) (lenOf pd__I_Lcom_example_wiregather_wiregather_wire_FieldType_ rfl) rfl (by show 2 * 0 + _ ≤ _; exact Nat.le_of_eq rfl) (hb hby at_11) (fun _ _ => ⟨rfl, rfl, (by decide : 1 + 1 ≤ _), (by decide : 6 + 6 ≤ _)⟩)
  dsimp only [Pt.U, Pt.locs, Pt.cells, Pt.slots] at X24 l24 y24 z24 st24 hQ24
  subst l24 y24 z24
  obtain ⟨rfl, N24q, K24⟩ := hQ24
  have N24 := Fr.app N16 N24q
  have o29 := Old.keep o23 K24 all0
  obtain ⟨_, _, ⟨T30, L30, k30, n30⟩, -, X30, ⟨Lc30, hQ30, l30, y30, z30⟩, st30⟩ := Jvm.LawKit.callS X24 hx (y := (⟨cs4, "expected", cs3⟩ : MethodName)) hown (mvT hZ (ww hw 27 rfl)) (mvT hZ (ww hw 28 rfl)) (mvT hZ (ww hw 29 rfl)) (mvT hZ (ww hw 30 rfl)) (by decide) (backOf (W := 1) (rm3_4 l Z a0 hw [] x0 r6 T24.heap n0 o29 hc25 hc26 hc27 f28) hZ (ww hw 30 rfl) (ww hw 29 rfl) (by decide) (by decide)) (g := (mkF m 18 #[.val (.int x0), .val (.int x1), .val (.int (x1 &&& (7 : Int32))), .val (.ref r6), .val (.ref r6)] [(.int x0), (.ref r6)])) rfl (by rw [hml]; rfl) (argsL := [(.int x0)]) (rest := [(.ref r6)]) (lenOf pd__I_Lcom_example_wiregather_wiregather_wire_FieldType_ rfl) rfl (by show 2 * 0 + _ ≤ _; exact Nat.le_of_eq rfl) (hb hby at_18) (fun _ _ => ⟨rfl, rfl, (by decide : 2 + 0 ≤ _), (by decide : 12 + 0 ≤ _)⟩)
  dsimp only [Pt.U, Pt.locs, Pt.cells, Pt.slots] at X30 l30 y30 z30 st30 hQ30
  subst l30 y30 z30
  obtain ⟨rfl, N30q, E30⟩ := hQ30
  have N30 := Fr.app N24 N30q
  obtain ⟨_, _, ⟨T34, L34, k34, n34⟩, -, X34, ⟨Lc34, hQ34, l34, y34, z34⟩, st34⟩ := Jvm.LawKit.callS X30 hx (y := (⟨cs4, "expected", cs3⟩ : MethodName)) hown (mvT hZ (ww hw 27 rfl)) (mvT hZ (ww hw 28 rfl)) (mvT hZ (ww hw 29 rfl)) (mvT hZ (ww hw 30 rfl)) (by decide) (backOf (W := 1) (rm3_4 l Z a0 hw [] (x1 &&& (7 : Int32)) r6 T24.heap n0 o29 hc31 hc32 hc33 f28) hZ (ww hw 30 rfl) (ww hw 29 rfl) (by decide) (by decide)) (g := (mkF m 27 #[.val (.int x0), .val (.int x1), .val (.int (x1 &&& (7 : Int32))), .val (.ref r6), .val (.ref r6)] [(.int (x1 &&& (7 : Int32))), (.ref r6)])) rfl (by rw [hml]; rfl) (argsL := [(.int (x1 &&& (7 : Int32)))]) (rest := [(.ref r6)]) (lenOf pd__I_Lcom_example_wiregather_wiregather_wire_FieldType_ rfl) rfl (by show 2 * 0 + _ ≤ _; exact Nat.le_of_eq rfl) (hb hby at_27) (fun _ _ => ⟨rfl, E30, (by decide : 2 + 0 ≤ _), (by decide : 12 + 0 ≤ _)⟩)
  dsimp only [Pt.U, Pt.locs, Pt.cells, Pt.slots] at X34 l34 y34 z34 st34 hQ34
  subst l34 y34 z34
  obtain ⟨rfl, N34q, E34⟩ := hQ34
  have N34 := Fr.app N30 N34q
  obtain ⟨fs, hr, hrun, hended, hW, hsame⟩ := X34.leave (v := some (.int (1 : Int32))) (fun h => by rw [Bd.returns] at h; cases h)
  refine ⟨_, _, pre0 _ ?_, hrun, hended, _, _, rfl, ?_, ⟨_, rfl⟩, hW, hsame.mono (by decide) (by decide)⟩
  · show Steps p.tables e below (s₁.setTop (mkF m 0 #[.val (.int x0), .val (.int x1), .unset, .unset, .unset] [])) _
    refine XS.iloadN X0.here hx rfl (hb hby at_0) rfl ?_
    refine XS.bipush X0.here hx rfl (hb hby at_1) ?_
    refine XS.iand X0.here hx rfl (hb hby at_3) rfl ?_
    refine XS.istoreN X0.here hx rfl (hb hby at_4) rfl (l' := #[.val (.int x0), .val (.int x1), .val (.int (x1 &&& (7 : Int32))), .unset, .unset]) rfl ?_
    show Steps p.tables e below (s₁.setTop (mkF m 5 #[.val (.int x0), .val (.int x1), .val (.int (x1 &&& (7 : Int32))), .unset, .unset] [])) _
    refine XS.iloadN X0.here hx rfl (hb hby at_5) rfl ?_
    refine st16 _ ?_
    show Steps p.tables e below (T16.setTop (mkF m 9 #[.val (.int x0), .val (.int x1), .val (.int (x1 &&& (7 : Int32))), .unset, .unset] [(.ref r6)])) _
    refine XS.astoreN X16.here hx rfl (hb hby at_9) rfl rfl (l' := #[.val (.int x0), .val (.int x1), .val (.int (x1 &&& (7 : Int32))), .val (.ref r6), .unset]) rfl ?_
    refine XS.iloadN X16.here hx rfl (hb hby at_10) rfl ?_
    refine st24 _ ?_
    show Steps p.tables e below (T24.setTop (mkF m 14 #[.val (.int x0), .val (.int x1), .val (.int (x1 &&& (7 : Int32))), .val (.ref r6), .unset] [(.ref r6)])) _
    refine XS.astore X24.here hx rfl (hb hby at_14) rfl rfl (l' := #[.val (.int x0), .val (.int x1), .val (.int (x1 &&& (7 : Int32))), .val (.ref r6), .val (.ref r6)]) rfl ?_
    refine XS.aloadN X24.here hx rfl (hb hby at_16) rfl rfl ?_
    refine XS.iloadN X24.here hx rfl (hb hby at_17) rfl ?_
    refine st30 _ ?_
    show Steps p.tables e below (T30.setTop (mkF m 21 #[.val (.int x0), .val (.int x1), .val (.int (x1 &&& (7 : Int32))), .val (.ref r6), .val (.ref r6)] [(.ref r6), (.ref r6)])) _
    refine Jvm.RoadKit.acmp (g := (mkF m 21 #[.val (.int x0), .val (.int x1), .val (.int (x1 &&& (7 : Int32))), .val (.ref r6), .val (.ref r6)] [(.ref r6), (.ref r6)])) X30 hx rfl rfl rfl (pc0 := 21) (pc' := 24) (same := true) rfl (hb hby at_21) rfl (decide_eq_true rfl) (by decide) (by decide) ?_
    show Steps p.tables e below (T30.setTop (mkF m 24 #[.val (.int x0), .val (.int x1), .val (.int (x1 &&& (7 : Int32))), .val (.ref r6), .val (.ref r6)] [])) _
    refine XS.aload X30.here hx rfl (hb hby at_24) rfl rfl ?_
    refine XS.iloadN X30.here hx rfl (hb hby at_26) rfl ?_
    refine st34 _ ?_
    show Steps p.tables e below (T34.setTop (mkF m 30 #[.val (.int x0), .val (.int x1), .val (.int (x1 &&& (7 : Int32))), .val (.ref r6), .val (.ref r6)] [(.ref r6), (.ref r6)])) _
    refine Jvm.RoadKit.acmp (g := (mkF m 30 #[.val (.int x0), .val (.int x1), .val (.int (x1 &&& (7 : Int32))), .val (.ref r6), .val (.ref r6)] [(.ref r6), (.ref r6)])) X34 hx rfl rfl rfl (pc0 := 30) (pc' := 33) (same := true) rfl (hb hby at_30) rfl (decide_eq_true rfl) (by decide) (by decide) ?_
    show Steps p.tables e below (T34.setTop (mkF m 33 #[.val (.int x0), .val (.int x1), .val (.int (x1 &&& (7 : Int32))), .val (.ref r6), .val (.ref r6)] [])) _
    refine XS.iconst X34.here hx rfl (hb hby at_33) ?_
    refine XS.goto X34.here hx rfl (pc0 := 34) (pc' := 38) rfl (hb hby at_34) (by decide) (by decide) ?_
    show Steps p.tables e below (T34.setTop (mkF m 38 #[.val (.int x0), .val (.int x1), .val (.int (x1 &&& (7 : Int32))), .val (.ref r6), .val (.ref r6)] [(.int (1 : Int32))])) _
    exact retN X34 hx (t := .boolean) Bd.returns (by simp) (hb hby at_38) hr
  · show Q0_18 Z x0 x1 r2 c3 r4 r5 r6 r7 r8 r9 h0 n0 _ T34.heap _
    rw [E34]
    exact ⟨rfl, N34⟩
def Q0_19 (Z : State) (x0 : Int32) (x1 : Int32) (r2 : Addr) (c3 : ClassId) (r4 : Addr) (r5 : Addr) (r6 : Addr) (r7 : Addr) (r8 : Addr) (r9 : Addr) (h0 : Heap) (n0 : Nat) (v : Option Value) (h : Heap) (L : List Loc) : Prop := v = some (.int (1 : Int32)) ∧ Fr n0 L
set_option maxRecDepth 65536 in
set_option maxHeartbeats 40000000 in
theorem rm0_19 (l : Launch) (Z : State) (a0 : Array Value) (hw : ∀ d ∈ tables_1, d.before a0 Z = true) (ws : List Jvm.Cond) (x0 : Int32) (x1 : Int32) (r2 : Addr) (c3 : ClassId) (r4 : Addr) (r5 : Addr) (r6 : Addr) (r7 : Addr) (r8 : Addr) (r9 : Addr) (h0 : Heap) (n0 : Nat) (O0 : Old Z n0 h0) (f1 : Sta Z Z.heap cs0 "$VALUES" cs1 (.ref r2)) (f2 : Exa Z Z.heap r2 cs1) (f3 : Arv Z Z.heap r2 c3 (.object cs0) (6 : Int32) [(.ref r4), (.ref r5), (.ref r6), (.ref r7), (.ref r8), (.ref r9)] .null) (f4 : Fld Z Z.heap r4 cs0 "code" "I" (.int (1 : Int32))) (hc5 : ¬ ((1 : Int32) = x0)) (f6 : Fld Z Z.heap r5 cs0 "code" "I" (.int (2 : Int32))) (hc7 : ¬ ((2 : Int32) = x0)) (f8 : Fld Z Z.heap r6 cs0 "code" "I" (.int (3 : Int32))) (hc9 : (3 : Int32) = x0) (f10 : Fld Z Z.heap r7 cs0 "code" "I" (.int (4 : Int32))) (hc11 : ¬ ((4 : Int32) = x0)) (f12 : Fld Z Z.heap r8 cs0 "code" "I" (.int (5 : Int32))) (hc13 : ¬ ((5 : Int32) = x0)) (f14 : Fld Z Z.heap r9 cs0 "code" "I" (.int (6 : Int32))) (hc15 : ¬ ((6 : Int32) = x0)) (hc17 : ¬ ((1 : Int32) = (x1 &&& (7 : Int32)))) (hc18 : ¬ ((2 : Int32) = (x1 &&& (7 : Int32)))) (hc19 : ¬ ((3 : Int32) = (x1 &&& (7 : Int32)))) (hc20 : (4 : Int32) = (x1 &&& (7 : Int32))) (hc21 : ¬ ((5 : Int32) = (x1 &&& (7 : Int32)))) (hc22 : ¬ ((6 : Int32) = (x1 &&& (7 : Int32)))) (hc25 : ¬ (x0 = (1 : Int32))) (hc26 : ¬ (x0 = (2 : Int32))) (hc27 : x0 = (3 : Int32)) (f28 : Sta Z Z.heap cs0 "F32" cs5 (.ref r6)) (hc31 : ¬ ((x1 &&& (7 : Int32)) = (1 : Int32))) (hc32 : ¬ ((x1 &&& (7 : Int32)) = (2 : Int32))) (hc33 : ¬ ((x1 &&& (7 : Int32)) = (3 : Int32))) (hc34 : (x1 &&& (7 : Int32)) = (4 : Int32)) (f35 : Sta Z Z.heap cs0 "F64" cs5 (.ref r7)) :
    MetFree l x (head1 (Jvm.Cond.code x code maxLocals ret :: ws) room_1) (fun a U => a = #[(.int x0), (.int x1)] ∧ Z.Warmed39 U.vm ∧ U.heap = h0) (fun _ _ _ _ _ => True) (fun _ U o U' => ∃ v L, o = .returned v ∧ Q0_19 Z x0 x1 r2 c3 r4 r5 r6 r7 r8 r9 h0 n0 v U'.heap L ∧ FrameEnd U o U' L room_1.cells room_1.slots) := by
  refine MetFree.of_bodySF (plainFor_of_name pn_com_example_wiregather_wiregather_wire_FieldTypeOfCodePinLaw) hisR ?_
  intro p e s m args below meth c s₁ Bd hml0 hP hK
  obtain ⟨rfl, hZ, hh⟩ := hP
  have hx := Bd.exec
  have hby := Bd.bytes
  have hml : c.maxLocals = 5 := hml0
  have hown : s.vm.findClass cs4 = some m.cls := findClass_of_methodNamed Bd.named
  have hnm := (name_of_methodNamed Bd.named Bd.method).1
  have X0 : Stand p l e room_1 s m #[(.int x0), (.int x1)] below meth c s₁ [] 0 0 := Stand.of_body Bd
  have e0 : s₁.heap = h0 := by rw [← hh, Bd.state]; rfl
  have N0 := Fr.nil n0
  have pre0 : ∀ t, Steps p.tables e below (s₁.setTop (mkF m 0 #[.val (.int x0), .val (.int x1), .unset, .unset, .unset] [])) t → Steps p.tables e below (s₁.setTop (entryFrame m #[(.int x0), (.int x1)] maxLocals)) t := fun t k => castTop (by first | (simp [entryFrame, mkF, argsToLocals, Value.category, maxLocals]; done) | rfl) k
  obtain ⟨_, _, ⟨T16, L16, k16, n16⟩, -, X16, ⟨Lc16, hQ16, l16, y16, z16⟩, st16⟩ := Jvm.LawKit.callS X0 hx (y := (⟨cs0, "ofCode", cs3⟩ : MethodName)) hown (mvT hZ (ww hw 0 rfl)) (mvT hZ (ww hw 1 rfl)) (mvT hZ (ww hw 2 rfl)) (mvT hZ (ww hw 3 rfl)) (by decide) (backOf (W := 0) (rm1_4 l Z a0 hw [] x0 r2 c3 r4 r5 r6 r7 r8 r9 h0 n0 O0 f1 f2 f3 f4 hc5 f6 hc7 f8 hc9 f10 hc11 f12 hc13 f14 hc15) hZ (ww hw 3 rfl) (ww hw 2 rfl) (by decide) (by decide)) (g := (mkF m 6 #[.val (.int x0), .val (.int x1), .val (.int (x1 &&& (7 : Int32))), .unset, .unset] [(.int x0)])) rfl (by rw [hml]; rfl) (argsL := [(.int x0)]) (rest := []) (lenOf pd__I_Lcom_example_wiregather_wiregather_wire_FieldType_ rfl) rfl (by show 2 * 0 + _ ≤ _; exact Nat.le_of_eq rfl) (hb hby at_6) (fun _ _ => ⟨rfl, e0, (by decide : 0 + 1 ≤ _), (by decide : 0 + 6 ≤ _)⟩)
  dsimp only [Pt.U, Pt.locs, Pt.cells, Pt.slots] at X16 l16 y16 z16 st16 hQ16
  subst l16 y16 z16
  obtain ⟨rfl, N16q, K16⟩ := hQ16
  have N16 := Fr.app N0 N16q
  have o23 := Old.keep O0 K16 all0
  obtain ⟨_, _, ⟨T24, L24, k24, n24⟩, -, X24, ⟨Lc24, hQ24, l24, y24, z24⟩, st24⟩ := Jvm.LawKit.callS X16 hx (y := (⟨cs0, "ofCode", cs3⟩ : MethodName)) hown (mvT hZ (ww hw 0 rfl)) (mvT hZ (ww hw 1 rfl)) (mvT hZ (ww hw 2 rfl)) (mvT hZ (ww hw 3 rfl)) (by decide) (backOf (W := 0) (rm1_5 l Z a0 hw [] (x1 &&& (7 : Int32)) r2 c3 r4 r5 r6 r7 r8 r9 T16.heap n0 o23 f1 f2 f3 f4 hc17 f6 hc18 f8 hc19 f10 hc20 f12 hc21 f14 hc22) hZ (ww hw 3 rfl) (ww hw 2 rfl) (by decide) (by decide)) (g := (mkF m 11 #[.val (.int x0), .val (.int x1), .val (.int (x1 &&& (7 : Int32))), .val (.ref r6), .unset] [(.int (x1 &&& (7 : Int32)))])) rfl (by rw [hml]; rfl) (argsL := [(.int (x1 &&& (7 : Int32)))]) (rest := []) (lenOf pd__I_Lcom_example_wiregather_wiregather_wire_FieldType_ rfl) rfl (by show 2 * 0 + _ ≤ _; exact Nat.le_of_eq rfl) (hb hby at_11) (fun _ _ => ⟨rfl, rfl, (by decide : 1 + 1 ≤ _), (by decide : 6 + 6 ≤ _)⟩)
  dsimp only [Pt.U, Pt.locs, Pt.cells, Pt.slots] at X24 l24 y24 z24 st24 hQ24
  subst l24 y24 z24
  obtain ⟨rfl, N24q, K24⟩ := hQ24
  have N24 := Fr.app N16 N24q
  have o29 := Old.keep o23 K24 all0
  obtain ⟨_, _, ⟨T30, L30, k30, n30⟩, -, X30, ⟨Lc30, hQ30, l30, y30, z30⟩, st30⟩ := Jvm.LawKit.callS X24 hx (y := (⟨cs4, "expected", cs3⟩ : MethodName)) hown (mvT hZ (ww hw 27 rfl)) (mvT hZ (ww hw 28 rfl)) (mvT hZ (ww hw 29 rfl)) (mvT hZ (ww hw 30 rfl)) (by decide) (backOf (W := 1) (rm3_4 l Z a0 hw [] x0 r6 T24.heap n0 o29 hc25 hc26 hc27 f28) hZ (ww hw 30 rfl) (ww hw 29 rfl) (by decide) (by decide)) (g := (mkF m 18 #[.val (.int x0), .val (.int x1), .val (.int (x1 &&& (7 : Int32))), .val (.ref r6), .val (.ref r7)] [(.int x0), (.ref r6)])) rfl (by rw [hml]; rfl) (argsL := [(.int x0)]) (rest := [(.ref r6)]) (lenOf pd__I_Lcom_example_wiregather_wiregather_wire_FieldType_ rfl) rfl (by show 2 * 0 + _ ≤ _; exact Nat.le_of_eq rfl) (hb hby at_18) (fun _ _ => ⟨rfl, rfl, (by decide : 2 + 0 ≤ _), (by decide : 12 + 0 ≤ _)⟩)
  dsimp only [Pt.U, Pt.locs, Pt.cells, Pt.slots] at X30 l30 y30 z30 st30 hQ30
  subst l30 y30 z30
  obtain ⟨rfl, N30q, E30⟩ := hQ30
  have N30 := Fr.app N24 N30q
  obtain ⟨_, _, ⟨T36, L36, k36, n36⟩, -, X36, ⟨Lc36, hQ36, l36, y36, z36⟩, st36⟩ := Jvm.LawKit.callS X30 hx (y := (⟨cs4, "expected", cs3⟩ : MethodName)) hown (mvT hZ (ww hw 27 rfl)) (mvT hZ (ww hw 28 rfl)) (mvT hZ (ww hw 29 rfl)) (mvT hZ (ww hw 30 rfl)) (by decide) (backOf (W := 1) (rm3_5 l Z a0 hw [] (x1 &&& (7 : Int32)) r7 T24.heap n0 o29 hc31 hc32 hc33 hc34 f35) hZ (ww hw 30 rfl) (ww hw 29 rfl) (by decide) (by decide)) (g := (mkF m 27 #[.val (.int x0), .val (.int x1), .val (.int (x1 &&& (7 : Int32))), .val (.ref r6), .val (.ref r7)] [(.int (x1 &&& (7 : Int32))), (.ref r7)])) rfl (by rw [hml]; rfl) (argsL := [(.int (x1 &&& (7 : Int32)))]) (rest := [(.ref r7)]) (lenOf pd__I_Lcom_example_wiregather_wiregather_wire_FieldType_ rfl) rfl (by show 2 * 0 + _ ≤ _; exact Nat.le_of_eq rfl) (hb hby at_27) (fun _ _ => ⟨rfl, E30, (by decide : 2 + 0 ≤ _), (by decide : 12 + 0 ≤ _)⟩)
  dsimp only [Pt.U, Pt.locs, Pt.cells, Pt.slots] at X36 l36 y36 z36 st36 hQ36
  subst l36 y36 z36
  obtain ⟨rfl, N36q, E36⟩ := hQ36
  have N36 := Fr.app N30 N36q
  obtain ⟨fs, hr, hrun, hended, hW, hsame⟩ := X36.leave (v := some (.int (1 : Int32))) (fun h => by rw [Bd.returns] at h; cases h)
  refine ⟨_, _, pre0 _ ?_, hrun, hended, _, _, rfl, ?_, ⟨_, rfl⟩, hW, hsame.mono (by decide) (by decide)⟩
  · show Steps p.tables e below (s₁.setTop (mkF m 0 #[.val (.int x0), .val (.int x1), .unset, .unset, .unset] [])) _
    refine XS.iloadN X0.here hx rfl (hb hby at_0) rfl ?_
    refine XS.bipush X0.here hx rfl (hb hby at_1) ?_
    refine XS.iand X0.here hx rfl (hb hby at_3) rfl ?_
    refine XS.istoreN X0.here hx rfl (hb hby at_4) rfl (l' := #[.val (.int x0), .val (.int x1), .val (.int (x1 &&& (7 : Int32))), .unset, .unset]) rfl ?_
    show Steps p.tables e below (s₁.setTop (mkF m 5 #[.val (.int x0), .val (.int x1), .val (.int (x1 &&& (7 : Int32))), .unset, .unset] [])) _
    refine XS.iloadN X0.here hx rfl (hb hby at_5) rfl ?_
    refine st16 _ ?_
    show Steps p.tables e below (T16.setTop (mkF m 9 #[.val (.int x0), .val (.int x1), .val (.int (x1 &&& (7 : Int32))), .unset, .unset] [(.ref r6)])) _
    refine XS.astoreN X16.here hx rfl (hb hby at_9) rfl rfl (l' := #[.val (.int x0), .val (.int x1), .val (.int (x1 &&& (7 : Int32))), .val (.ref r6), .unset]) rfl ?_
    refine XS.iloadN X16.here hx rfl (hb hby at_10) rfl ?_
    refine st24 _ ?_
    show Steps p.tables e below (T24.setTop (mkF m 14 #[.val (.int x0), .val (.int x1), .val (.int (x1 &&& (7 : Int32))), .val (.ref r6), .unset] [(.ref r7)])) _
    refine XS.astore X24.here hx rfl (hb hby at_14) rfl rfl (l' := #[.val (.int x0), .val (.int x1), .val (.int (x1 &&& (7 : Int32))), .val (.ref r6), .val (.ref r7)]) rfl ?_
    refine XS.aloadN X24.here hx rfl (hb hby at_16) rfl rfl ?_
    refine XS.iloadN X24.here hx rfl (hb hby at_17) rfl ?_
    refine st30 _ ?_
    show Steps p.tables e below (T30.setTop (mkF m 21 #[.val (.int x0), .val (.int x1), .val (.int (x1 &&& (7 : Int32))), .val (.ref r6), .val (.ref r7)] [(.ref r6), (.ref r6)])) _
    refine Jvm.RoadKit.acmp (g := (mkF m 21 #[.val (.int x0), .val (.int x1), .val (.int (x1 &&& (7 : Int32))), .val (.ref r6), .val (.ref r7)] [(.ref r6), (.ref r6)])) X30 hx rfl rfl rfl (pc0 := 21) (pc' := 24) (same := true) rfl (hb hby at_21) rfl (decide_eq_true rfl) (by decide) (by decide) ?_
    show Steps p.tables e below (T30.setTop (mkF m 24 #[.val (.int x0), .val (.int x1), .val (.int (x1 &&& (7 : Int32))), .val (.ref r6), .val (.ref r7)] [])) _
    refine XS.aload X30.here hx rfl (hb hby at_24) rfl rfl ?_
    refine XS.iloadN X30.here hx rfl (hb hby at_26) rfl ?_
    refine st36 _ ?_
    show Steps p.tables e below (T36.setTop (mkF m 30 #[.val (.int x0), .val (.int x1), .val (.int (x1 &&& (7 : Int32))), .val (.ref r6), .val (.ref r7)] [(.ref r7), (.ref r7)])) _
    refine Jvm.RoadKit.acmp (g := (mkF m 30 #[.val (.int x0), .val (.int x1), .val (.int (x1 &&& (7 : Int32))), .val (.ref r6), .val (.ref r7)] [(.ref r7), (.ref r7)])) X36 hx rfl rfl rfl (pc0 := 30) (pc' := 33) (same := true) rfl (hb hby at_30) rfl (decide_eq_true rfl) (by decide) (by decide) ?_
    show Steps p.tables e below (T36.setTop (mkF m 33 #[.val (.int x0), .val (.int x1), .val (.int (x1 &&& (7 : Int32))), .val (.ref r6), .val (.ref r7)] [])) _
    refine XS.iconst X36.here hx rfl (hb hby at_33) ?_
    refine XS.goto X36.here hx rfl (pc0 := 34) (pc' := 38) rfl (hb hby at_34) (by decide) (by decide) ?_
    show Steps p.tables e below (T36.setTop (mkF m 38 #[.val (.int x0), .val (.int x1), .val (.int (x1 &&& (7 : Int32))), .val (.ref r6), .val (.ref r7)] [(.int (1 : Int32))])) _
    exact retN X36 hx (t := .boolean) Bd.returns (by simp) (hb hby at_38) hr
  · show Q0_19 Z x0 x1 r2 c3 r4 r5 r6 r7 r8 r9 h0 n0 _ T36.heap _
    rw [E36]
    exact ⟨rfl, N36⟩
def Q0_20 (Z : State) (x0 : Int32) (x1 : Int32) (r2 : Addr) (c3 : ClassId) (r4 : Addr) (r5 : Addr) (r6 : Addr) (r7 : Addr) (r8 : Addr) (r9 : Addr) (h0 : Heap) (n0 : Nat) (v : Option Value) (h : Heap) (L : List Loc) : Prop := v = some (.int (1 : Int32)) ∧ Fr n0 L
set_option maxRecDepth 65536 in
set_option maxHeartbeats 40000000 in
theorem rm0_20 (l : Launch) (Z : State) (a0 : Array Value) (hw : ∀ d ∈ tables_1, d.before a0 Z = true) (ws : List Jvm.Cond) (x0 : Int32) (x1 : Int32) (r2 : Addr) (c3 : ClassId) (r4 : Addr) (r5 : Addr) (r6 : Addr) (r7 : Addr) (r8 : Addr) (r9 : Addr) (h0 : Heap) (n0 : Nat) (O0 : Old Z n0 h0) (f1 : Sta Z Z.heap cs0 "$VALUES" cs1 (.ref r2)) (f2 : Exa Z Z.heap r2 cs1) (f3 : Arv Z Z.heap r2 c3 (.object cs0) (6 : Int32) [(.ref r4), (.ref r5), (.ref r6), (.ref r7), (.ref r8), (.ref r9)] .null) (f4 : Fld Z Z.heap r4 cs0 "code" "I" (.int (1 : Int32))) (hc5 : ¬ ((1 : Int32) = x0)) (f6 : Fld Z Z.heap r5 cs0 "code" "I" (.int (2 : Int32))) (hc7 : ¬ ((2 : Int32) = x0)) (f8 : Fld Z Z.heap r6 cs0 "code" "I" (.int (3 : Int32))) (hc9 : (3 : Int32) = x0) (f10 : Fld Z Z.heap r7 cs0 "code" "I" (.int (4 : Int32))) (hc11 : ¬ ((4 : Int32) = x0)) (f12 : Fld Z Z.heap r8 cs0 "code" "I" (.int (5 : Int32))) (hc13 : ¬ ((5 : Int32) = x0)) (f14 : Fld Z Z.heap r9 cs0 "code" "I" (.int (6 : Int32))) (hc15 : ¬ ((6 : Int32) = x0)) (hc17 : ¬ ((1 : Int32) = (x1 &&& (7 : Int32)))) (hc18 : ¬ ((2 : Int32) = (x1 &&& (7 : Int32)))) (hc19 : ¬ ((3 : Int32) = (x1 &&& (7 : Int32)))) (hc20 : ¬ ((4 : Int32) = (x1 &&& (7 : Int32)))) (hc21 : (5 : Int32) = (x1 &&& (7 : Int32))) (hc22 : ¬ ((6 : Int32) = (x1 &&& (7 : Int32)))) (hc25 : ¬ (x0 = (1 : Int32))) (hc26 : ¬ (x0 = (2 : Int32))) (hc27 : x0 = (3 : Int32)) (f28 : Sta Z Z.heap cs0 "F32" cs5 (.ref r6)) (hc31 : ¬ ((x1 &&& (7 : Int32)) = (1 : Int32))) (hc32 : ¬ ((x1 &&& (7 : Int32)) = (2 : Int32))) (hc33 : ¬ ((x1 &&& (7 : Int32)) = (3 : Int32))) (hc34 : ¬ ((x1 &&& (7 : Int32)) = (4 : Int32))) (hc35 : (x1 &&& (7 : Int32)) = (5 : Int32)) (f36 : Sta Z Z.heap cs0 "TEXT" cs5 (.ref r8)) :
    MetFree l x (head1 (Jvm.Cond.code x code maxLocals ret :: ws) room_1) (fun a U => a = #[(.int x0), (.int x1)] ∧ Z.Warmed39 U.vm ∧ U.heap = h0) (fun _ _ _ _ _ => True) (fun _ U o U' => ∃ v L, o = .returned v ∧ Q0_20 Z x0 x1 r2 c3 r4 r5 r6 r7 r8 r9 h0 n0 v U'.heap L ∧ FrameEnd U o U' L room_1.cells room_1.slots) := by
  refine MetFree.of_bodySF (plainFor_of_name pn_com_example_wiregather_wiregather_wire_FieldTypeOfCodePinLaw) hisR ?_
  intro p e s m args below meth c s₁ Bd hml0 hP hK
  obtain ⟨rfl, hZ, hh⟩ := hP
  have hx := Bd.exec
  have hby := Bd.bytes
  have hml : c.maxLocals = 5 := hml0
  have hown : s.vm.findClass cs4 = some m.cls := findClass_of_methodNamed Bd.named
  have hnm := (name_of_methodNamed Bd.named Bd.method).1
  have X0 : Stand p l e room_1 s m #[(.int x0), (.int x1)] below meth c s₁ [] 0 0 := Stand.of_body Bd
  have e0 : s₁.heap = h0 := by rw [← hh, Bd.state]; rfl
  have N0 := Fr.nil n0
  have pre0 : ∀ t, Steps p.tables e below (s₁.setTop (mkF m 0 #[.val (.int x0), .val (.int x1), .unset, .unset, .unset] [])) t → Steps p.tables e below (s₁.setTop (entryFrame m #[(.int x0), (.int x1)] maxLocals)) t := fun t k => castTop (by first | (simp [entryFrame, mkF, argsToLocals, Value.category, maxLocals]; done) | rfl) k
  obtain ⟨_, _, ⟨T16, L16, k16, n16⟩, -, X16, ⟨Lc16, hQ16, l16, y16, z16⟩, st16⟩ := Jvm.LawKit.callS X0 hx (y := (⟨cs0, "ofCode", cs3⟩ : MethodName)) hown (mvT hZ (ww hw 0 rfl)) (mvT hZ (ww hw 1 rfl)) (mvT hZ (ww hw 2 rfl)) (mvT hZ (ww hw 3 rfl)) (by decide) (backOf (W := 0) (rm1_4 l Z a0 hw [] x0 r2 c3 r4 r5 r6 r7 r8 r9 h0 n0 O0 f1 f2 f3 f4 hc5 f6 hc7 f8 hc9 f10 hc11 f12 hc13 f14 hc15) hZ (ww hw 3 rfl) (ww hw 2 rfl) (by decide) (by decide)) (g := (mkF m 6 #[.val (.int x0), .val (.int x1), .val (.int (x1 &&& (7 : Int32))), .unset, .unset] [(.int x0)])) rfl (by rw [hml]; rfl) (argsL := [(.int x0)]) (rest := []) (lenOf pd__I_Lcom_example_wiregather_wiregather_wire_FieldType_ rfl) rfl (by show 2 * 0 + _ ≤ _; exact Nat.le_of_eq rfl) (hb hby at_6) (fun _ _ => ⟨rfl, e0, (by decide : 0 + 1 ≤ _), (by decide : 0 + 6 ≤ _)⟩)
  dsimp only [Pt.U, Pt.locs, Pt.cells, Pt.slots] at X16 l16 y16 z16 st16 hQ16
  subst l16 y16 z16
  obtain ⟨rfl, N16q, K16⟩ := hQ16
  have N16 := Fr.app N0 N16q
  have o23 := Old.keep O0 K16 all0
  obtain ⟨_, _, ⟨T24, L24, k24, n24⟩, -, X24, ⟨Lc24, hQ24, l24, y24, z24⟩, st24⟩ := Jvm.LawKit.callS X16 hx (y := (⟨cs0, "ofCode", cs3⟩ : MethodName)) hown (mvT hZ (ww hw 0 rfl)) (mvT hZ (ww hw 1 rfl)) (mvT hZ (ww hw 2 rfl)) (mvT hZ (ww hw 3 rfl)) (by decide) (backOf (W := 0) (rm1_6 l Z a0 hw [] (x1 &&& (7 : Int32)) r2 c3 r4 r5 r6 r7 r8 r9 T16.heap n0 o23 f1 f2 f3 f4 hc17 f6 hc18 f8 hc19 f10 hc20 f12 hc21 f14 hc22) hZ (ww hw 3 rfl) (ww hw 2 rfl) (by decide) (by decide)) (g := (mkF m 11 #[.val (.int x0), .val (.int x1), .val (.int (x1 &&& (7 : Int32))), .val (.ref r6), .unset] [(.int (x1 &&& (7 : Int32)))])) rfl (by rw [hml]; rfl) (argsL := [(.int (x1 &&& (7 : Int32)))]) (rest := []) (lenOf pd__I_Lcom_example_wiregather_wiregather_wire_FieldType_ rfl) rfl (by show 2 * 0 + _ ≤ _; exact Nat.le_of_eq rfl) (hb hby at_11) (fun _ _ => ⟨rfl, rfl, (by decide : 1 + 1 ≤ _), (by decide : 6 + 6 ≤ _)⟩)
  dsimp only [Pt.U, Pt.locs, Pt.cells, Pt.slots] at X24 l24 y24 z24 st24 hQ24
  subst l24 y24 z24
  obtain ⟨rfl, N24q, K24⟩ := hQ24
  have N24 := Fr.app N16 N24q
  have o29 := Old.keep o23 K24 all0
  obtain ⟨_, _, ⟨T30, L30, k30, n30⟩, -, X30, ⟨Lc30, hQ30, l30, y30, z30⟩, st30⟩ := Jvm.LawKit.callS X24 hx (y := (⟨cs4, "expected", cs3⟩ : MethodName)) hown (mvT hZ (ww hw 27 rfl)) (mvT hZ (ww hw 28 rfl)) (mvT hZ (ww hw 29 rfl)) (mvT hZ (ww hw 30 rfl)) (by decide) (backOf (W := 1) (rm3_4 l Z a0 hw [] x0 r6 T24.heap n0 o29 hc25 hc26 hc27 f28) hZ (ww hw 30 rfl) (ww hw 29 rfl) (by decide) (by decide)) (g := (mkF m 18 #[.val (.int x0), .val (.int x1), .val (.int (x1 &&& (7 : Int32))), .val (.ref r6), .val (.ref r8)] [(.int x0), (.ref r6)])) rfl (by rw [hml]; rfl) (argsL := [(.int x0)]) (rest := [(.ref r6)]) (lenOf pd__I_Lcom_example_wiregather_wiregather_wire_FieldType_ rfl) rfl (by show 2 * 0 + _ ≤ _; exact Nat.le_of_eq rfl) (hb hby at_18) (fun _ _ => ⟨rfl, rfl, (by decide : 2 + 0 ≤ _), (by decide : 12 + 0 ≤ _)⟩)
  dsimp only [Pt.U, Pt.locs, Pt.cells, Pt.slots] at X30 l30 y30 z30 st30 hQ30
  subst l30 y30 z30
  obtain ⟨rfl, N30q, E30⟩ := hQ30
  have N30 := Fr.app N24 N30q
  obtain ⟨_, _, ⟨T37, L37, k37, n37⟩, -, X37, ⟨Lc37, hQ37, l37, y37, z37⟩, st37⟩ := Jvm.LawKit.callS X30 hx (y := (⟨cs4, "expected", cs3⟩ : MethodName)) hown (mvT hZ (ww hw 27 rfl)) (mvT hZ (ww hw 28 rfl)) (mvT hZ (ww hw 29 rfl)) (mvT hZ (ww hw 30 rfl)) (by decide) (backOf (W := 1) (rm3_6 l Z a0 hw [] (x1 &&& (7 : Int32)) r8 T24.heap n0 o29 hc31 hc32 hc33 hc34 hc35 f36) hZ (ww hw 30 rfl) (ww hw 29 rfl) (by decide) (by decide)) (g := (mkF m 27 #[.val (.int x0), .val (.int x1), .val (.int (x1 &&& (7 : Int32))), .val (.ref r6), .val (.ref r8)] [(.int (x1 &&& (7 : Int32))), (.ref r8)])) rfl (by rw [hml]; rfl) (argsL := [(.int (x1 &&& (7 : Int32)))]) (rest := [(.ref r8)]) (lenOf pd__I_Lcom_example_wiregather_wiregather_wire_FieldType_ rfl) rfl (by show 2 * 0 + _ ≤ _; exact Nat.le_of_eq rfl) (hb hby at_27) (fun _ _ => ⟨rfl, E30, (by decide : 2 + 0 ≤ _), (by decide : 12 + 0 ≤ _)⟩)
  dsimp only [Pt.U, Pt.locs, Pt.cells, Pt.slots] at X37 l37 y37 z37 st37 hQ37
  subst l37 y37 z37
  obtain ⟨rfl, N37q, E37⟩ := hQ37
  have N37 := Fr.app N30 N37q
  obtain ⟨fs, hr, hrun, hended, hW, hsame⟩ := X37.leave (v := some (.int (1 : Int32))) (fun h => by rw [Bd.returns] at h; cases h)
  refine ⟨_, _, pre0 _ ?_, hrun, hended, _, _, rfl, ?_, ⟨_, rfl⟩, hW, hsame.mono (by decide) (by decide)⟩
  · show Steps p.tables e below (s₁.setTop (mkF m 0 #[.val (.int x0), .val (.int x1), .unset, .unset, .unset] [])) _
    refine XS.iloadN X0.here hx rfl (hb hby at_0) rfl ?_
    refine XS.bipush X0.here hx rfl (hb hby at_1) ?_
    refine XS.iand X0.here hx rfl (hb hby at_3) rfl ?_
    refine XS.istoreN X0.here hx rfl (hb hby at_4) rfl (l' := #[.val (.int x0), .val (.int x1), .val (.int (x1 &&& (7 : Int32))), .unset, .unset]) rfl ?_
    show Steps p.tables e below (s₁.setTop (mkF m 5 #[.val (.int x0), .val (.int x1), .val (.int (x1 &&& (7 : Int32))), .unset, .unset] [])) _
    refine XS.iloadN X0.here hx rfl (hb hby at_5) rfl ?_
    refine st16 _ ?_
    show Steps p.tables e below (T16.setTop (mkF m 9 #[.val (.int x0), .val (.int x1), .val (.int (x1 &&& (7 : Int32))), .unset, .unset] [(.ref r6)])) _
    refine XS.astoreN X16.here hx rfl (hb hby at_9) rfl rfl (l' := #[.val (.int x0), .val (.int x1), .val (.int (x1 &&& (7 : Int32))), .val (.ref r6), .unset]) rfl ?_
    refine XS.iloadN X16.here hx rfl (hb hby at_10) rfl ?_
    refine st24 _ ?_
    show Steps p.tables e below (T24.setTop (mkF m 14 #[.val (.int x0), .val (.int x1), .val (.int (x1 &&& (7 : Int32))), .val (.ref r6), .unset] [(.ref r8)])) _
    refine XS.astore X24.here hx rfl (hb hby at_14) rfl rfl (l' := #[.val (.int x0), .val (.int x1), .val (.int (x1 &&& (7 : Int32))), .val (.ref r6), .val (.ref r8)]) rfl ?_
    refine XS.aloadN X24.here hx rfl (hb hby at_16) rfl rfl ?_
    refine XS.iloadN X24.here hx rfl (hb hby at_17) rfl ?_
    refine st30 _ ?_
    show Steps p.tables e below (T30.setTop (mkF m 21 #[.val (.int x0), .val (.int x1), .val (.int (x1 &&& (7 : Int32))), .val (.ref r6), .val (.ref r8)] [(.ref r6), (.ref r6)])) _
    refine Jvm.RoadKit.acmp (g := (mkF m 21 #[.val (.int x0), .val (.int x1), .val (.int (x1 &&& (7 : Int32))), .val (.ref r6), .val (.ref r8)] [(.ref r6), (.ref r6)])) X30 hx rfl rfl rfl (pc0 := 21) (pc' := 24) (same := true) rfl (hb hby at_21) rfl (decide_eq_true rfl) (by decide) (by decide) ?_
    show Steps p.tables e below (T30.setTop (mkF m 24 #[.val (.int x0), .val (.int x1), .val (.int (x1 &&& (7 : Int32))), .val (.ref r6), .val (.ref r8)] [])) _
    refine XS.aload X30.here hx rfl (hb hby at_24) rfl rfl ?_
    refine XS.iloadN X30.here hx rfl (hb hby at_26) rfl ?_
    refine st37 _ ?_
    show Steps p.tables e below (T37.setTop (mkF m 30 #[.val (.int x0), .val (.int x1), .val (.int (x1 &&& (7 : Int32))), .val (.ref r6), .val (.ref r8)] [(.ref r8), (.ref r8)])) _
    refine Jvm.RoadKit.acmp (g := (mkF m 30 #[.val (.int x0), .val (.int x1), .val (.int (x1 &&& (7 : Int32))), .val (.ref r6), .val (.ref r8)] [(.ref r8), (.ref r8)])) X37 hx rfl rfl rfl (pc0 := 30) (pc' := 33) (same := true) rfl (hb hby at_30) rfl (decide_eq_true rfl) (by decide) (by decide) ?_
    show Steps p.tables e below (T37.setTop (mkF m 33 #[.val (.int x0), .val (.int x1), .val (.int (x1 &&& (7 : Int32))), .val (.ref r6), .val (.ref r8)] [])) _
    refine XS.iconst X37.here hx rfl (hb hby at_33) ?_
    refine XS.goto X37.here hx rfl (pc0 := 34) (pc' := 38) rfl (hb hby at_34) (by decide) (by decide) ?_
    show Steps p.tables e below (T37.setTop (mkF m 38 #[.val (.int x0), .val (.int x1), .val (.int (x1 &&& (7 : Int32))), .val (.ref r6), .val (.ref r8)] [(.int (1 : Int32))])) _
    exact retN X37 hx (t := .boolean) Bd.returns (by simp) (hb hby at_38) hr
  · show Q0_20 Z x0 x1 r2 c3 r4 r5 r6 r7 r8 r9 h0 n0 _ T37.heap _
    rw [E37]
    exact ⟨rfl, N37⟩
def Q0_21 (Z : State) (x0 : Int32) (x1 : Int32) (r2 : Addr) (c3 : ClassId) (r4 : Addr) (r5 : Addr) (r6 : Addr) (r7 : Addr) (r8 : Addr) (r9 : Addr) (h0 : Heap) (n0 : Nat) (v : Option Value) (h : Heap) (L : List Loc) : Prop := v = some (.int (1 : Int32)) ∧ Fr n0 L
set_option maxRecDepth 65536 in
set_option maxHeartbeats 40000000 in
theorem rm0_21 (l : Launch) (Z : State) (a0 : Array Value) (hw : ∀ d ∈ tables_1, d.before a0 Z = true) (ws : List Jvm.Cond) (x0 : Int32) (x1 : Int32) (r2 : Addr) (c3 : ClassId) (r4 : Addr) (r5 : Addr) (r6 : Addr) (r7 : Addr) (r8 : Addr) (r9 : Addr) (h0 : Heap) (n0 : Nat) (O0 : Old Z n0 h0) (f1 : Sta Z Z.heap cs0 "$VALUES" cs1 (.ref r2)) (f2 : Exa Z Z.heap r2 cs1) (f3 : Arv Z Z.heap r2 c3 (.object cs0) (6 : Int32) [(.ref r4), (.ref r5), (.ref r6), (.ref r7), (.ref r8), (.ref r9)] .null) (f4 : Fld Z Z.heap r4 cs0 "code" "I" (.int (1 : Int32))) (hc5 : ¬ ((1 : Int32) = x0)) (f6 : Fld Z Z.heap r5 cs0 "code" "I" (.int (2 : Int32))) (hc7 : ¬ ((2 : Int32) = x0)) (f8 : Fld Z Z.heap r6 cs0 "code" "I" (.int (3 : Int32))) (hc9 : (3 : Int32) = x0) (f10 : Fld Z Z.heap r7 cs0 "code" "I" (.int (4 : Int32))) (hc11 : ¬ ((4 : Int32) = x0)) (f12 : Fld Z Z.heap r8 cs0 "code" "I" (.int (5 : Int32))) (hc13 : ¬ ((5 : Int32) = x0)) (f14 : Fld Z Z.heap r9 cs0 "code" "I" (.int (6 : Int32))) (hc15 : ¬ ((6 : Int32) = x0)) (hc17 : ¬ ((1 : Int32) = (x1 &&& (7 : Int32)))) (hc18 : ¬ ((2 : Int32) = (x1 &&& (7 : Int32)))) (hc19 : ¬ ((3 : Int32) = (x1 &&& (7 : Int32)))) (hc20 : ¬ ((4 : Int32) = (x1 &&& (7 : Int32)))) (hc21 : ¬ ((5 : Int32) = (x1 &&& (7 : Int32)))) (hc22 : (6 : Int32) = (x1 &&& (7 : Int32))) (hc25 : ¬ (x0 = (1 : Int32))) (hc26 : ¬ (x0 = (2 : Int32))) (hc27 : x0 = (3 : Int32)) (f28 : Sta Z Z.heap cs0 "F32" cs5 (.ref r6)) (hc31 : ¬ ((x1 &&& (7 : Int32)) = (1 : Int32))) (hc32 : ¬ ((x1 &&& (7 : Int32)) = (2 : Int32))) (hc33 : ¬ ((x1 &&& (7 : Int32)) = (3 : Int32))) (hc34 : ¬ ((x1 &&& (7 : Int32)) = (4 : Int32))) (hc35 : ¬ ((x1 &&& (7 : Int32)) = (5 : Int32))) (hc36 : (x1 &&& (7 : Int32)) = (6 : Int32)) (f37 : Sta Z Z.heap cs0 "GUID" cs5 (.ref r9)) :
    MetFree l x (head1 (Jvm.Cond.code x code maxLocals ret :: ws) room_1) (fun a U => a = #[(.int x0), (.int x1)] ∧ Z.Warmed39 U.vm ∧ U.heap = h0) (fun _ _ _ _ _ => True) (fun _ U o U' => ∃ v L, o = .returned v ∧ Q0_21 Z x0 x1 r2 c3 r4 r5 r6 r7 r8 r9 h0 n0 v U'.heap L ∧ FrameEnd U o U' L room_1.cells room_1.slots) := by
  refine MetFree.of_bodySF (plainFor_of_name pn_com_example_wiregather_wiregather_wire_FieldTypeOfCodePinLaw) hisR ?_
  intro p e s m args below meth c s₁ Bd hml0 hP hK
  obtain ⟨rfl, hZ, hh⟩ := hP
  have hx := Bd.exec
  have hby := Bd.bytes
  have hml : c.maxLocals = 5 := hml0
  have hown : s.vm.findClass cs4 = some m.cls := findClass_of_methodNamed Bd.named
  have hnm := (name_of_methodNamed Bd.named Bd.method).1
  have X0 : Stand p l e room_1 s m #[(.int x0), (.int x1)] below meth c s₁ [] 0 0 := Stand.of_body Bd
  have e0 : s₁.heap = h0 := by rw [← hh, Bd.state]; rfl
  have N0 := Fr.nil n0
  have pre0 : ∀ t, Steps p.tables e below (s₁.setTop (mkF m 0 #[.val (.int x0), .val (.int x1), .unset, .unset, .unset] [])) t → Steps p.tables e below (s₁.setTop (entryFrame m #[(.int x0), (.int x1)] maxLocals)) t := fun t k => castTop (by first | (simp [entryFrame, mkF, argsToLocals, Value.category, maxLocals]; done) | rfl) k
  obtain ⟨_, _, ⟨T16, L16, k16, n16⟩, -, X16, ⟨Lc16, hQ16, l16, y16, z16⟩, st16⟩ := Jvm.LawKit.callS X0 hx (y := (⟨cs0, "ofCode", cs3⟩ : MethodName)) hown (mvT hZ (ww hw 0 rfl)) (mvT hZ (ww hw 1 rfl)) (mvT hZ (ww hw 2 rfl)) (mvT hZ (ww hw 3 rfl)) (by decide) (backOf (W := 0) (rm1_4 l Z a0 hw [] x0 r2 c3 r4 r5 r6 r7 r8 r9 h0 n0 O0 f1 f2 f3 f4 hc5 f6 hc7 f8 hc9 f10 hc11 f12 hc13 f14 hc15) hZ (ww hw 3 rfl) (ww hw 2 rfl) (by decide) (by decide)) (g := (mkF m 6 #[.val (.int x0), .val (.int x1), .val (.int (x1 &&& (7 : Int32))), .unset, .unset] [(.int x0)])) rfl (by rw [hml]; rfl) (argsL := [(.int x0)]) (rest := []) (lenOf pd__I_Lcom_example_wiregather_wiregather_wire_FieldType_ rfl) rfl (by show 2 * 0 + _ ≤ _; exact Nat.le_of_eq rfl) (hb hby at_6) (fun _ _ => ⟨rfl, e0, (by decide : 0 + 1 ≤ _), (by decide : 0 + 6 ≤ _)⟩)
  dsimp only [Pt.U, Pt.locs, Pt.cells, Pt.slots] at X16 l16 y16 z16 st16 hQ16
  subst l16 y16 z16
  obtain ⟨rfl, N16q, K16⟩ := hQ16
  have N16 := Fr.app N0 N16q
  have o23 := Old.keep O0 K16 all0
  obtain ⟨_, _, ⟨T24, L24, k24, n24⟩, -, X24, ⟨Lc24, hQ24, l24, y24, z24⟩, st24⟩ := Jvm.LawKit.callS X16 hx (y := (⟨cs0, "ofCode", cs3⟩ : MethodName)) hown (mvT hZ (ww hw 0 rfl)) (mvT hZ (ww hw 1 rfl)) (mvT hZ (ww hw 2 rfl)) (mvT hZ (ww hw 3 rfl)) (by decide) (backOf (W := 0) (rm1_7 l Z a0 hw [] (x1 &&& (7 : Int32)) r2 c3 r4 r5 r6 r7 r8 r9 T16.heap n0 o23 f1 f2 f3 f4 hc17 f6 hc18 f8 hc19 f10 hc20 f12 hc21 f14 hc22) hZ (ww hw 3 rfl) (ww hw 2 rfl) (by decide) (by decide)) (g := (mkF m 11 #[.val (.int x0), .val (.int x1), .val (.int (x1 &&& (7 : Int32))), .val (.ref r6), .unset] [(.int (x1 &&& (7 : Int32)))])) rfl (by rw [hml]; rfl) (argsL := [(.int (x1 &&& (7 : Int32)))]) (rest := []) (lenOf pd__I_Lcom_example_wiregather_wiregather_wire_FieldType_ rfl) rfl (by show 2 * 0 + _ ≤ _; exact Nat.le_of_eq rfl) (hb hby at_11) (fun _ _ => ⟨rfl, rfl, (by decide : 1 + 1 ≤ _), (by decide : 6 + 6 ≤ _)⟩)
  dsimp only [Pt.U, Pt.locs, Pt.cells, Pt.slots] at X24 l24 y24 z24 st24 hQ24
  subst l24 y24 z24
  obtain ⟨rfl, N24q, K24⟩ := hQ24
  have N24 := Fr.app N16 N24q
  have o29 := Old.keep o23 K24 all0
  obtain ⟨_, _, ⟨T30, L30, k30, n30⟩, -, X30, ⟨Lc30, hQ30, l30, y30, z30⟩, st30⟩ := Jvm.LawKit.callS X24 hx (y := (⟨cs4, "expected", cs3⟩ : MethodName)) hown (mvT hZ (ww hw 27 rfl)) (mvT hZ (ww hw 28 rfl)) (mvT hZ (ww hw 29 rfl)) (mvT hZ (ww hw 30 rfl)) (by decide) (backOf (W := 1) (rm3_4 l Z a0 hw [] x0 r6 T24.heap n0 o29 hc25 hc26 hc27 f28) hZ (ww hw 30 rfl) (ww hw 29 rfl) (by decide) (by decide)) (g := (mkF m 18 #[.val (.int x0), .val (.int x1), .val (.int (x1 &&& (7 : Int32))), .val (.ref r6), .val (.ref r9)] [(.int x0), (.ref r6)])) rfl (by rw [hml]; rfl) (argsL := [(.int x0)]) (rest := [(.ref r6)]) (lenOf pd__I_Lcom_example_wiregather_wiregather_wire_FieldType_ rfl) rfl (by show 2 * 0 + _ ≤ _; exact Nat.le_of_eq rfl) (hb hby at_18) (fun _ _ => ⟨rfl, rfl, (by decide : 2 + 0 ≤ _), (by decide : 12 + 0 ≤ _)⟩)
  dsimp only [Pt.U, Pt.locs, Pt.cells, Pt.slots] at X30 l30 y30 z30 st30 hQ30
  subst l30 y30 z30
  obtain ⟨rfl, N30q, E30⟩ := hQ30
  have N30 := Fr.app N24 N30q
  obtain ⟨_, _, ⟨T38, L38, k38, n38⟩, -, X38, ⟨Lc38, hQ38, l38, y38, z38⟩, st38⟩ := Jvm.LawKit.callS X30 hx (y := (⟨cs4, "expected", cs3⟩ : MethodName)) hown (mvT hZ (ww hw 27 rfl)) (mvT hZ (ww hw 28 rfl)) (mvT hZ (ww hw 29 rfl)) (mvT hZ (ww hw 30 rfl)) (by decide) (backOf (W := 1) (rm3_7 l Z a0 hw [] (x1 &&& (7 : Int32)) r9 T24.heap n0 o29 hc31 hc32 hc33 hc34 hc35 hc36 f37) hZ (ww hw 30 rfl) (ww hw 29 rfl) (by decide) (by decide)) (g := (mkF m 27 #[.val (.int x0), .val (.int x1), .val (.int (x1 &&& (7 : Int32))), .val (.ref r6), .val (.ref r9)] [(.int (x1 &&& (7 : Int32))), (.ref r9)])) rfl (by rw [hml]; rfl) (argsL := [(.int (x1 &&& (7 : Int32)))]) (rest := [(.ref r9)]) (lenOf pd__I_Lcom_example_wiregather_wiregather_wire_FieldType_ rfl) rfl (by show 2 * 0 + _ ≤ _; exact Nat.le_of_eq rfl) (hb hby at_27) (fun _ _ => ⟨rfl, E30, (by decide : 2 + 0 ≤ _), (by decide : 12 + 0 ≤ _)⟩)
  dsimp only [Pt.U, Pt.locs, Pt.cells, Pt.slots] at X38 l38 y38 z38 st38 hQ38
  subst l38 y38 z38
  obtain ⟨rfl, N38q, E38⟩ := hQ38
  have N38 := Fr.app N30 N38q
  obtain ⟨fs, hr, hrun, hended, hW, hsame⟩ := X38.leave (v := some (.int (1 : Int32))) (fun h => by rw [Bd.returns] at h; cases h)
  refine ⟨_, _, pre0 _ ?_, hrun, hended, _, _, rfl, ?_, ⟨_, rfl⟩, hW, hsame.mono (by decide) (by decide)⟩
  · show Steps p.tables e below (s₁.setTop (mkF m 0 #[.val (.int x0), .val (.int x1), .unset, .unset, .unset] [])) _
    refine XS.iloadN X0.here hx rfl (hb hby at_0) rfl ?_
    refine XS.bipush X0.here hx rfl (hb hby at_1) ?_
    refine XS.iand X0.here hx rfl (hb hby at_3) rfl ?_
    refine XS.istoreN X0.here hx rfl (hb hby at_4) rfl (l' := #[.val (.int x0), .val (.int x1), .val (.int (x1 &&& (7 : Int32))), .unset, .unset]) rfl ?_
    show Steps p.tables e below (s₁.setTop (mkF m 5 #[.val (.int x0), .val (.int x1), .val (.int (x1 &&& (7 : Int32))), .unset, .unset] [])) _
    refine XS.iloadN X0.here hx rfl (hb hby at_5) rfl ?_
    refine st16 _ ?_
    show Steps p.tables e below (T16.setTop (mkF m 9 #[.val (.int x0), .val (.int x1), .val (.int (x1 &&& (7 : Int32))), .unset, .unset] [(.ref r6)])) _
    refine XS.astoreN X16.here hx rfl (hb hby at_9) rfl rfl (l' := #[.val (.int x0), .val (.int x1), .val (.int (x1 &&& (7 : Int32))), .val (.ref r6), .unset]) rfl ?_
    refine XS.iloadN X16.here hx rfl (hb hby at_10) rfl ?_
    refine st24 _ ?_
    show Steps p.tables e below (T24.setTop (mkF m 14 #[.val (.int x0), .val (.int x1), .val (.int (x1 &&& (7 : Int32))), .val (.ref r6), .unset] [(.ref r9)])) _
    refine XS.astore X24.here hx rfl (hb hby at_14) rfl rfl (l' := #[.val (.int x0), .val (.int x1), .val (.int (x1 &&& (7 : Int32))), .val (.ref r6), .val (.ref r9)]) rfl ?_
    refine XS.aloadN X24.here hx rfl (hb hby at_16) rfl rfl ?_
    refine XS.iloadN X24.here hx rfl (hb hby at_17) rfl ?_
    refine st30 _ ?_
    show Steps p.tables e below (T30.setTop (mkF m 21 #[.val (.int x0), .val (.int x1), .val (.int (x1 &&& (7 : Int32))), .val (.ref r6), .val (.ref r9)] [(.ref r6), (.ref r6)])) _
    refine Jvm.RoadKit.acmp (g := (mkF m 21 #[.val (.int x0), .val (.int x1), .val (.int (x1 &&& (7 : Int32))), .val (.ref r6), .val (.ref r9)] [(.ref r6), (.ref r6)])) X30 hx rfl rfl rfl (pc0 := 21) (pc' := 24) (same := true) rfl (hb hby at_21) rfl (decide_eq_true rfl) (by decide) (by decide) ?_
    show Steps p.tables e below (T30.setTop (mkF m 24 #[.val (.int x0), .val (.int x1), .val (.int (x1 &&& (7 : Int32))), .val (.ref r6), .val (.ref r9)] [])) _
    refine XS.aload X30.here hx rfl (hb hby at_24) rfl rfl ?_
    refine XS.iloadN X30.here hx rfl (hb hby at_26) rfl ?_
    refine st38 _ ?_
    show Steps p.tables e below (T38.setTop (mkF m 30 #[.val (.int x0), .val (.int x1), .val (.int (x1 &&& (7 : Int32))), .val (.ref r6), .val (.ref r9)] [(.ref r9), (.ref r9)])) _
    refine Jvm.RoadKit.acmp (g := (mkF m 30 #[.val (.int x0), .val (.int x1), .val (.int (x1 &&& (7 : Int32))), .val (.ref r6), .val (.ref r9)] [(.ref r9), (.ref r9)])) X38 hx rfl rfl rfl (pc0 := 30) (pc' := 33) (same := true) rfl (hb hby at_30) rfl (decide_eq_true rfl) (by decide) (by decide) ?_
    show Steps p.tables e below (T38.setTop (mkF m 33 #[.val (.int x0), .val (.int x1), .val (.int (x1 &&& (7 : Int32))), .val (.ref r6), .val (.ref r9)] [])) _
    refine XS.iconst X38.here hx rfl (hb hby at_33) ?_
    refine XS.goto X38.here hx rfl (pc0 := 34) (pc' := 38) rfl (hb hby at_34) (by decide) (by decide) ?_
    show Steps p.tables e below (T38.setTop (mkF m 38 #[.val (.int x0), .val (.int x1), .val (.int (x1 &&& (7 : Int32))), .val (.ref r6), .val (.ref r9)] [(.int (1 : Int32))])) _
    exact retN X38 hx (t := .boolean) Bd.returns (by simp) (hb hby at_38) hr
  · show Q0_21 Z x0 x1 r2 c3 r4 r5 r6 r7 r8 r9 h0 n0 _ T38.heap _
    rw [E38]
    exact ⟨rfl, N38⟩
def Q0_22 (Z : State) (x0 : Int32) (x1 : Int32) (r2 : Addr) (c3 : ClassId) (r4 : Addr) (r5 : Addr) (r6 : Addr) (r7 : Addr) (r8 : Addr) (r9 : Addr) (h0 : Heap) (n0 : Nat) (v : Option Value) (h : Heap) (L : List Loc) : Prop := v = some (.int (1 : Int32)) ∧ Fr n0 L
set_option maxRecDepth 65536 in
set_option maxHeartbeats 40000000 in
theorem rm0_22 (l : Launch) (Z : State) (a0 : Array Value) (hw : ∀ d ∈ tables_1, d.before a0 Z = true) (ws : List Jvm.Cond) (x0 : Int32) (x1 : Int32) (r2 : Addr) (c3 : ClassId) (r4 : Addr) (r5 : Addr) (r6 : Addr) (r7 : Addr) (r8 : Addr) (r9 : Addr) (h0 : Heap) (n0 : Nat) (O0 : Old Z n0 h0) (f1 : Sta Z Z.heap cs0 "$VALUES" cs1 (.ref r2)) (f2 : Exa Z Z.heap r2 cs1) (f3 : Arv Z Z.heap r2 c3 (.object cs0) (6 : Int32) [(.ref r4), (.ref r5), (.ref r6), (.ref r7), (.ref r8), (.ref r9)] .null) (f4 : Fld Z Z.heap r4 cs0 "code" "I" (.int (1 : Int32))) (hc5 : ¬ ((1 : Int32) = x0)) (f6 : Fld Z Z.heap r5 cs0 "code" "I" (.int (2 : Int32))) (hc7 : ¬ ((2 : Int32) = x0)) (f8 : Fld Z Z.heap r6 cs0 "code" "I" (.int (3 : Int32))) (hc9 : ¬ ((3 : Int32) = x0)) (f10 : Fld Z Z.heap r7 cs0 "code" "I" (.int (4 : Int32))) (hc11 : (4 : Int32) = x0) (f12 : Fld Z Z.heap r8 cs0 "code" "I" (.int (5 : Int32))) (hc13 : ¬ ((5 : Int32) = x0)) (f14 : Fld Z Z.heap r9 cs0 "code" "I" (.int (6 : Int32))) (hc15 : ¬ ((6 : Int32) = x0)) (hc17 : ¬ ((1 : Int32) = (x1 &&& (7 : Int32)))) (hc18 : ¬ ((2 : Int32) = (x1 &&& (7 : Int32)))) (hc19 : ¬ ((3 : Int32) = (x1 &&& (7 : Int32)))) (hc20 : ¬ ((4 : Int32) = (x1 &&& (7 : Int32)))) (hc21 : ¬ ((5 : Int32) = (x1 &&& (7 : Int32)))) (hc22 : ¬ ((6 : Int32) = (x1 &&& (7 : Int32)))) (hc25 : ¬ (x0 = (1 : Int32))) (hc26 : ¬ (x0 = (2 : Int32))) (hc27 : ¬ (x0 = (3 : Int32))) (hc28 : x0 = (4 : Int32)) (f29 : Sta Z Z.heap cs0 "F64" cs5 (.ref r7)) (hc32 : ¬ ((x1 &&& (7 : Int32)) = (1 : Int32))) (hc33 : ¬ ((x1 &&& (7 : Int32)) = (2 : Int32))) (hc34 : ¬ ((x1 &&& (7 : Int32)) = (3 : Int32))) (hc35 : ¬ ((x1 &&& (7 : Int32)) = (4 : Int32))) (hc36 : ¬ ((x1 &&& (7 : Int32)) = (5 : Int32))) (hc37 : ¬ ((x1 &&& (7 : Int32)) = (6 : Int32))) :
    MetFree l x (head1 (Jvm.Cond.code x code maxLocals ret :: ws) room_1) (fun a U => a = #[(.int x0), (.int x1)] ∧ Z.Warmed39 U.vm ∧ U.heap = h0) (fun _ _ _ _ _ => True) (fun _ U o U' => ∃ v L, o = .returned v ∧ Q0_22 Z x0 x1 r2 c3 r4 r5 r6 r7 r8 r9 h0 n0 v U'.heap L ∧ FrameEnd U o U' L room_1.cells room_1.slots) := by
  refine MetFree.of_bodySF (plainFor_of_name pn_com_example_wiregather_wiregather_wire_FieldTypeOfCodePinLaw) hisR ?_
  intro p e s m args below meth c s₁ Bd hml0 hP hK
  obtain ⟨rfl, hZ, hh⟩ := hP
  have hx := Bd.exec
  have hby := Bd.bytes
  have hml : c.maxLocals = 5 := hml0
  have hown : s.vm.findClass cs4 = some m.cls := findClass_of_methodNamed Bd.named
  have hnm := (name_of_methodNamed Bd.named Bd.method).1
  have X0 : Stand p l e room_1 s m #[(.int x0), (.int x1)] below meth c s₁ [] 0 0 := Stand.of_body Bd
  have e0 : s₁.heap = h0 := by rw [← hh, Bd.state]; rfl
  have N0 := Fr.nil n0
  have pre0 : ∀ t, Steps p.tables e below (s₁.setTop (mkF m 0 #[.val (.int x0), .val (.int x1), .unset, .unset, .unset] [])) t → Steps p.tables e below (s₁.setTop (entryFrame m #[(.int x0), (.int x1)] maxLocals)) t := fun t k => castTop (by first | (simp [entryFrame, mkF, argsToLocals, Value.category, maxLocals]; done) | rfl) k
  obtain ⟨_, _, ⟨T16, L16, k16, n16⟩, -, X16, ⟨Lc16, hQ16, l16, y16, z16⟩, st16⟩ := Jvm.LawKit.callS X0 hx (y := (⟨cs0, "ofCode", cs3⟩ : MethodName)) hown (mvT hZ (ww hw 0 rfl)) (mvT hZ (ww hw 1 rfl)) (mvT hZ (ww hw 2 rfl)) (mvT hZ (ww hw 3 rfl)) (by decide) (backOf (W := 0) (rm1_5 l Z a0 hw [] x0 r2 c3 r4 r5 r6 r7 r8 r9 h0 n0 O0 f1 f2 f3 f4 hc5 f6 hc7 f8 hc9 f10 hc11 f12 hc13 f14 hc15) hZ (ww hw 3 rfl) (ww hw 2 rfl) (by decide) (by decide)) (g := (mkF m 6 #[.val (.int x0), .val (.int x1), .val (.int (x1 &&& (7 : Int32))), .unset, .unset] [(.int x0)])) rfl (by rw [hml]; rfl) (argsL := [(.int x0)]) (rest := []) (lenOf pd__I_Lcom_example_wiregather_wiregather_wire_FieldType_ rfl) rfl (by show 2 * 0 + _ ≤ _; exact Nat.le_of_eq rfl) (hb hby at_6) (fun _ _ => ⟨rfl, e0, (by decide : 0 + 1 ≤ _), (by decide : 0 + 6 ≤ _)⟩)
  dsimp only [Pt.U, Pt.locs, Pt.cells, Pt.slots] at X16 l16 y16 z16 st16 hQ16
  subst l16 y16 z16
  obtain ⟨rfl, N16q, K16⟩ := hQ16
  have N16 := Fr.app N0 N16q
  have o23 := Old.keep O0 K16 all0
  obtain ⟨_, _, ⟨T24, L24, k24, n24⟩, -, X24, ⟨Lc24, hQ24, l24, y24, z24⟩, st24⟩ := Jvm.LawKit.callS X16 hx (y := (⟨cs0, "ofCode", cs3⟩ : MethodName)) hown (mvT hZ (ww hw 0 rfl)) (mvT hZ (ww hw 1 rfl)) (mvT hZ (ww hw 2 rfl)) (mvT hZ (ww hw 3 rfl)) (by decide) (backOf (W := 0) (rm1_2 l Z a0 hw [] (x1 &&& (7 : Int32)) r2 c3 r4 r5 r6 r7 r8 r9 T16.heap n0 o23 f1 f2 f3 f4 hc17 f6 hc18 f8 hc19 f10 hc20 f12 hc21 f14 hc22) hZ (ww hw 3 rfl) (ww hw 2 rfl) (by decide) (by decide)) (g := (mkF m 11 #[.val (.int x0), .val (.int x1), .val (.int (x1 &&& (7 : Int32))), .val (.ref r7), .unset] [(.int (x1 &&& (7 : Int32)))])) rfl (by rw [hml]; rfl) (argsL := [(.int (x1 &&& (7 : Int32)))]) (rest := []) (lenOf pd__I_Lcom_example_wiregather_wiregather_wire_FieldType_ rfl) rfl (by show 2 * 0 + _ ≤ _; exact Nat.le_of_eq rfl) (hb hby at_11) (fun _ _ => ⟨rfl, rfl, (by decide : 1 + 1 ≤ _), (by decide : 6 + 6 ≤ _)⟩)
  dsimp only [Pt.U, Pt.locs, Pt.cells, Pt.slots] at X24 l24 y24 z24 st24 hQ24
  subst l24 y24 z24
  obtain ⟨rfl, N24q, K24⟩ := hQ24
  have N24 := Fr.app N16 N24q
  have o30 := Old.keep o23 K24 all0
  obtain ⟨_, _, ⟨T31, L31, k31, n31⟩, -, X31, ⟨Lc31, hQ31, l31, y31, z31⟩, st31⟩ := Jvm.LawKit.callS X24 hx (y := (⟨cs4, "expected", cs3⟩ : MethodName)) hown (mvT hZ (ww hw 27 rfl)) (mvT hZ (ww hw 28 rfl)) (mvT hZ (ww hw 29 rfl)) (mvT hZ (ww hw 30 rfl)) (by decide) (backOf (W := 1) (rm3_5 l Z a0 hw [] x0 r7 T24.heap n0 o30 hc25 hc26 hc27 hc28 f29) hZ (ww hw 30 rfl) (ww hw 29 rfl) (by decide) (by decide)) (g := (mkF m 18 #[.val (.int x0), .val (.int x1), .val (.int (x1 &&& (7 : Int32))), .val (.ref r7), .val .null] [(.int x0), (.ref r7)])) rfl (by rw [hml]; rfl) (argsL := [(.int x0)]) (rest := [(.ref r7)]) (lenOf pd__I_Lcom_example_wiregather_wiregather_wire_FieldType_ rfl) rfl (by show 2 * 0 + _ ≤ _; exact Nat.le_of_eq rfl) (hb hby at_18) (fun _ _ => ⟨rfl, rfl, (by decide : 2 + 0 ≤ _), (by decide : 12 + 0 ≤ _)⟩)
  dsimp only [Pt.U, Pt.locs, Pt.cells, Pt.slots] at X31 l31 y31 z31 st31 hQ31
  subst l31 y31 z31
  obtain ⟨rfl, N31q, E31⟩ := hQ31
  have N31 := Fr.app N24 N31q
  obtain ⟨_, _, ⟨T38, L38, k38, n38⟩, -, X38, ⟨Lc38, hQ38, l38, y38, z38⟩, st38⟩ := Jvm.LawKit.callS X31 hx (y := (⟨cs4, "expected", cs3⟩ : MethodName)) hown (mvT hZ (ww hw 27 rfl)) (mvT hZ (ww hw 28 rfl)) (mvT hZ (ww hw 29 rfl)) (mvT hZ (ww hw 30 rfl)) (by decide) (backOf (W := 1) (rm3_2 l Z a0 hw [] (x1 &&& (7 : Int32)) T24.heap n0 o30 hc32 hc33 hc34 hc35 hc36 hc37) hZ (ww hw 30 rfl) (ww hw 29 rfl) (by decide) (by decide)) (g := (mkF m 27 #[.val (.int x0), .val (.int x1), .val (.int (x1 &&& (7 : Int32))), .val (.ref r7), .val .null] [(.int (x1 &&& (7 : Int32))), .null])) rfl (by rw [hml]; rfl) (argsL := [(.int (x1 &&& (7 : Int32)))]) (rest := [.null]) (lenOf pd__I_Lcom_example_wiregather_wiregather_wire_FieldType_ rfl) rfl (by show 2 * 0 + _ ≤ _; exact Nat.le_of_eq rfl) (hb hby at_27) (fun _ _ => ⟨rfl, E31, (by decide : 2 + 0 ≤ _), (by decide : 12 + 0 ≤ _)⟩)
  dsimp only [Pt.U, Pt.locs, Pt.cells, Pt.slots] at X38 l38 y38 z38 st38 hQ38
  subst l38 y38 z38
  obtain ⟨rfl, N38q, E38⟩ := hQ38
  have N38 := Fr.app N31 N38q
  obtain ⟨fs, hr, hrun, hended, hW, hsame⟩ := X38.leave (v := some (.int (1 : Int32))) (fun h => by rw [Bd.returns] at h; cases h)
  refine ⟨_, _, pre0 _ ?_, hrun, hended, _, _, rfl, ?_, ⟨_, rfl⟩, hW, hsame.mono (by decide) (by decide)⟩
  · show Steps p.tables e below (s₁.setTop (mkF m 0 #[.val (.int x0), .val (.int x1), .unset, .unset, .unset] [])) _
    refine XS.iloadN X0.here hx rfl (hb hby at_0) rfl ?_
    refine XS.bipush X0.here hx rfl (hb hby at_1) ?_
    refine XS.iand X0.here hx rfl (hb hby at_3) rfl ?_
    refine XS.istoreN X0.here hx rfl (hb hby at_4) rfl (l' := #[.val (.int x0), .val (.int x1), .val (.int (x1 &&& (7 : Int32))), .unset, .unset]) rfl ?_
    show Steps p.tables e below (s₁.setTop (mkF m 5 #[.val (.int x0), .val (.int x1), .val (.int (x1 &&& (7 : Int32))), .unset, .unset] [])) _
    refine XS.iloadN X0.here hx rfl (hb hby at_5) rfl ?_
    refine st16 _ ?_
    show Steps p.tables e below (T16.setTop (mkF m 9 #[.val (.int x0), .val (.int x1), .val (.int (x1 &&& (7 : Int32))), .unset, .unset] [(.ref r7)])) _
    refine XS.astoreN X16.here hx rfl (hb hby at_9) rfl rfl (l' := #[.val (.int x0), .val (.int x1), .val (.int (x1 &&& (7 : Int32))), .val (.ref r7), .unset]) rfl ?_
    refine XS.iloadN X16.here hx rfl (hb hby at_10) rfl ?_
    refine st24 _ ?_
    show Steps p.tables e below (T24.setTop (mkF m 14 #[.val (.int x0), .val (.int x1), .val (.int (x1 &&& (7 : Int32))), .val (.ref r7), .unset] [.null])) _
    refine XS.astore X24.here hx rfl (hb hby at_14) rfl rfl (l' := #[.val (.int x0), .val (.int x1), .val (.int (x1 &&& (7 : Int32))), .val (.ref r7), .val .null]) rfl ?_
    refine XS.aloadN X24.here hx rfl (hb hby at_16) rfl rfl ?_
    refine XS.iloadN X24.here hx rfl (hb hby at_17) rfl ?_
    refine st31 _ ?_
    show Steps p.tables e below (T31.setTop (mkF m 21 #[.val (.int x0), .val (.int x1), .val (.int (x1 &&& (7 : Int32))), .val (.ref r7), .val .null] [(.ref r7), (.ref r7)])) _
    refine Jvm.RoadKit.acmp (g := (mkF m 21 #[.val (.int x0), .val (.int x1), .val (.int (x1 &&& (7 : Int32))), .val (.ref r7), .val .null] [(.ref r7), (.ref r7)])) X31 hx rfl rfl rfl (pc0 := 21) (pc' := 24) (same := true) rfl (hb hby at_21) rfl (decide_eq_true rfl) (by decide) (by decide) ?_
    show Steps p.tables e below (T31.setTop (mkF m 24 #[.val (.int x0), .val (.int x1), .val (.int (x1 &&& (7 : Int32))), .val (.ref r7), .val .null] [])) _
    refine XS.aload X31.here hx rfl (hb hby at_24) rfl rfl ?_
    refine XS.iloadN X31.here hx rfl (hb hby at_26) rfl ?_
    refine st38 _ ?_
    show Steps p.tables e below (T38.setTop (mkF m 30 #[.val (.int x0), .val (.int x1), .val (.int (x1 &&& (7 : Int32))), .val (.ref r7), .val .null] [.null, .null])) _
    refine Jvm.RoadKit.acmp (g := (mkF m 30 #[.val (.int x0), .val (.int x1), .val (.int (x1 &&& (7 : Int32))), .val (.ref r7), .val .null] [.null, .null])) X38 hx rfl rfl rfl (pc0 := 30) (pc' := 33) (same := true) rfl (hb hby at_30) rfl (decide_eq_true rfl) (by decide) (by decide) ?_
    show Steps p.tables e below (T38.setTop (mkF m 33 #[.val (.int x0), .val (.int x1), .val (.int (x1 &&& (7 : Int32))), .val (.ref r7), .val .null] [])) _
    refine XS.iconst X38.here hx rfl (hb hby at_33) ?_
    refine XS.goto X38.here hx rfl (pc0 := 34) (pc' := 38) rfl (hb hby at_34) (by decide) (by decide) ?_
    show Steps p.tables e below (T38.setTop (mkF m 38 #[.val (.int x0), .val (.int x1), .val (.int (x1 &&& (7 : Int32))), .val (.ref r7), .val .null] [(.int (1 : Int32))])) _
    exact retN X38 hx (t := .boolean) Bd.returns (by simp) (hb hby at_38) hr
  · show Q0_22 Z x0 x1 r2 c3 r4 r5 r6 r7 r8 r9 h0 n0 _ T38.heap _
    rw [E38]
    exact ⟨rfl, N38⟩
def Q0_23 (Z : State) (x0 : Int32) (x1 : Int32) (r2 : Addr) (c3 : ClassId) (r4 : Addr) (r5 : Addr) (r6 : Addr) (r7 : Addr) (r8 : Addr) (r9 : Addr) (h0 : Heap) (n0 : Nat) (v : Option Value) (h : Heap) (L : List Loc) : Prop := v = some (.int (1 : Int32)) ∧ Fr n0 L
set_option maxRecDepth 65536 in
set_option maxHeartbeats 40000000 in
theorem rm0_23 (l : Launch) (Z : State) (a0 : Array Value) (hw : ∀ d ∈ tables_1, d.before a0 Z = true) (ws : List Jvm.Cond) (x0 : Int32) (x1 : Int32) (r2 : Addr) (c3 : ClassId) (r4 : Addr) (r5 : Addr) (r6 : Addr) (r7 : Addr) (r8 : Addr) (r9 : Addr) (h0 : Heap) (n0 : Nat) (O0 : Old Z n0 h0) (f1 : Sta Z Z.heap cs0 "$VALUES" cs1 (.ref r2)) (f2 : Exa Z Z.heap r2 cs1) (f3 : Arv Z Z.heap r2 c3 (.object cs0) (6 : Int32) [(.ref r4), (.ref r5), (.ref r6), (.ref r7), (.ref r8), (.ref r9)] .null) (f4 : Fld Z Z.heap r4 cs0 "code" "I" (.int (1 : Int32))) (hc5 : ¬ ((1 : Int32) = x0)) (f6 : Fld Z Z.heap r5 cs0 "code" "I" (.int (2 : Int32))) (hc7 : ¬ ((2 : Int32) = x0)) (f8 : Fld Z Z.heap r6 cs0 "code" "I" (.int (3 : Int32))) (hc9 : ¬ ((3 : Int32) = x0)) (f10 : Fld Z Z.heap r7 cs0 "code" "I" (.int (4 : Int32))) (hc11 : (4 : Int32) = x0) (f12 : Fld Z Z.heap r8 cs0 "code" "I" (.int (5 : Int32))) (hc13 : ¬ ((5 : Int32) = x0)) (f14 : Fld Z Z.heap r9 cs0 "code" "I" (.int (6 : Int32))) (hc15 : ¬ ((6 : Int32) = x0)) (hc17 : (1 : Int32) = (x1 &&& (7 : Int32))) (hc18 : ¬ ((2 : Int32) = (x1 &&& (7 : Int32)))) (hc19 : ¬ ((3 : Int32) = (x1 &&& (7 : Int32)))) (hc20 : ¬ ((4 : Int32) = (x1 &&& (7 : Int32)))) (hc21 : ¬ ((5 : Int32) = (x1 &&& (7 : Int32)))) (hc22 : ¬ ((6 : Int32) = (x1 &&& (7 : Int32)))) (hc25 : ¬ (x0 = (1 : Int32))) (hc26 : ¬ (x0 = (2 : Int32))) (hc27 : ¬ (x0 = (3 : Int32))) (hc28 : x0 = (4 : Int32)) (f29 : Sta Z Z.heap cs0 "F64" cs5 (.ref r7)) (hc32 : (x1 &&& (7 : Int32)) = (1 : Int32)) (f33 : Sta Z Z.heap cs0 "I32" cs5 (.ref r4)) :
    MetFree l x (head1 (Jvm.Cond.code x code maxLocals ret :: ws) room_1) (fun a U => a = #[(.int x0), (.int x1)] ∧ Z.Warmed39 U.vm ∧ U.heap = h0) (fun _ _ _ _ _ => True) (fun _ U o U' => ∃ v L, o = .returned v ∧ Q0_23 Z x0 x1 r2 c3 r4 r5 r6 r7 r8 r9 h0 n0 v U'.heap L ∧ FrameEnd U o U' L room_1.cells room_1.slots) := by
  refine MetFree.of_bodySF (plainFor_of_name pn_com_example_wiregather_wiregather_wire_FieldTypeOfCodePinLaw) hisR ?_
  intro p e s m args below meth c s₁ Bd hml0 hP hK
  obtain ⟨rfl, hZ, hh⟩ := hP
  have hx := Bd.exec
  have hby := Bd.bytes
  have hml : c.maxLocals = 5 := hml0
  have hown : s.vm.findClass cs4 = some m.cls := findClass_of_methodNamed Bd.named
  have hnm := (name_of_methodNamed Bd.named Bd.method).1
  have X0 : Stand p l e room_1 s m #[(.int x0), (.int x1)] below meth c s₁ [] 0 0 := Stand.of_body Bd
  have e0 : s₁.heap = h0 := by rw [← hh, Bd.state]; rfl
  have N0 := Fr.nil n0
  have pre0 : ∀ t, Steps p.tables e below (s₁.setTop (mkF m 0 #[.val (.int x0), .val (.int x1), .unset, .unset, .unset] [])) t → Steps p.tables e below (s₁.setTop (entryFrame m #[(.int x0), (.int x1)] maxLocals)) t := fun t k => castTop (by first | (simp [entryFrame, mkF, argsToLocals, Value.category, maxLocals]; done) | rfl) k
  obtain ⟨_, _, ⟨T16, L16, k16, n16⟩, -, X16, ⟨Lc16, hQ16, l16, y16, z16⟩, st16⟩ := Jvm.LawKit.callS X0 hx (y := (⟨cs0, "ofCode", cs3⟩ : MethodName)) hown (mvT hZ (ww hw 0 rfl)) (mvT hZ (ww hw 1 rfl)) (mvT hZ (ww hw 2 rfl)) (mvT hZ (ww hw 3 rfl)) (by decide) (backOf (W := 0) (rm1_5 l Z a0 hw [] x0 r2 c3 r4 r5 r6 r7 r8 r9 h0 n0 O0 f1 f2 f3 f4 hc5 f6 hc7 f8 hc9 f10 hc11 f12 hc13 f14 hc15) hZ (ww hw 3 rfl) (ww hw 2 rfl) (by decide) (by decide)) (g := (mkF m 6 #[.val (.int x0), .val (.int x1), .val (.int (x1 &&& (7 : Int32))), .unset, .unset] [(.int x0)])) rfl (by rw [hml]; rfl) (argsL := [(.int x0)]) (rest := []) (lenOf pd__I_Lcom_example_wiregather_wiregather_wire_FieldType_ rfl) rfl (by show 2 * 0 + _ ≤ _; exact Nat.le_of_eq rfl) (hb hby at_6) (fun _ _ => ⟨rfl, e0, (by decide : 0 + 1 ≤ _), (by decide : 0 + 6 ≤ _)⟩)
  dsimp only [Pt.U, Pt.locs, Pt.cells, Pt.slots] at X16 l16 y16 z16 st16 hQ16
  subst l16 y16 z16
  obtain ⟨rfl, N16q, K16⟩ := hQ16
  have N16 := Fr.app N0 N16q
  have o23 := Old.keep O0 K16 all0
  obtain ⟨_, _, ⟨T24, L24, k24, n24⟩, -, X24, ⟨Lc24, hQ24, l24, y24, z24⟩, st24⟩ := Jvm.LawKit.callS X16 hx (y := (⟨cs0, "ofCode", cs3⟩ : MethodName)) hown (mvT hZ (ww hw 0 rfl)) (mvT hZ (ww hw 1 rfl)) (mvT hZ (ww hw 2 rfl)) (mvT hZ (ww hw 3 rfl)) (by decide) (backOf (W := 0) (rm1_1 l Z a0 hw [] (x1 &&& (7 : Int32)) r2 c3 r4 r5 r6 r7 r8 r9 T16.heap n0 o23 f1 f2 f3 f4 hc17 f6 hc18 f8 hc19 f10 hc20 f12 hc21 f14 hc22) hZ (ww hw 3 rfl) (ww hw 2 rfl) (by decide) (by decide)) (g := (mkF m 11 #[.val (.int x0), .val (.int x1), .val (.int (x1 &&& (7 : Int32))), .val (.ref r7), .unset] [(.int (x1 &&& (7 : Int32)))])) rfl (by rw [hml]; rfl) (argsL := [(.int (x1 &&& (7 : Int32)))]) (rest := []) (lenOf pd__I_Lcom_example_wiregather_wiregather_wire_FieldType_ rfl) rfl (by show 2 * 0 + _ ≤ _; exact Nat.le_of_eq rfl) (hb hby at_11) (fun _ _ => ⟨rfl, rfl, (by decide : 1 + 1 ≤ _), (by decide : 6 + 6 ≤ _)⟩)
  dsimp only [Pt.U, Pt.locs, Pt.cells, Pt.slots] at X24 l24 y24 z24 st24 hQ24
  subst l24 y24 z24
  obtain ⟨rfl, N24q, K24⟩ := hQ24
  have N24 := Fr.app N16 N24q
  have o30 := Old.keep o23 K24 all0
  obtain ⟨_, _, ⟨T31, L31, k31, n31⟩, -, X31, ⟨Lc31, hQ31, l31, y31, z31⟩, st31⟩ := Jvm.LawKit.callS X24 hx (y := (⟨cs4, "expected", cs3⟩ : MethodName)) hown (mvT hZ (ww hw 27 rfl)) (mvT hZ (ww hw 28 rfl)) (mvT hZ (ww hw 29 rfl)) (mvT hZ (ww hw 30 rfl)) (by decide) (backOf (W := 1) (rm3_5 l Z a0 hw [] x0 r7 T24.heap n0 o30 hc25 hc26 hc27 hc28 f29) hZ (ww hw 30 rfl) (ww hw 29 rfl) (by decide) (by decide)) (g := (mkF m 18 #[.val (.int x0), .val (.int x1), .val (.int (x1 &&& (7 : Int32))), .val (.ref r7), .val (.ref r4)] [(.int x0), (.ref r7)])) rfl (by rw [hml]; rfl) (argsL := [(.int x0)]) (rest := [(.ref r7)]) (lenOf pd__I_Lcom_example_wiregather_wiregather_wire_FieldType_ rfl) rfl (by show 2 * 0 + _ ≤ _; exact Nat.le_of_eq rfl) (hb hby at_18) (fun _ _ => ⟨rfl, rfl, (by decide : 2 + 0 ≤ _), (by decide : 12 + 0 ≤ _)⟩)
  dsimp only [Pt.U, Pt.locs, Pt.cells, Pt.slots] at X31 l31 y31 z31 st31 hQ31
  subst l31 y31 z31
  obtain ⟨rfl, N31q, E31⟩ := hQ31
  have N31 := Fr.app N24 N31q
  obtain ⟨_, _, ⟨T34, L34, k34, n34⟩, -, X34, ⟨Lc34, hQ34, l34, y34, z34⟩, st34⟩ := Jvm.LawKit.callS X31 hx (y := (⟨cs4, "expected", cs3⟩ : MethodName)) hown (mvT hZ (ww hw 27 rfl)) (mvT hZ (ww hw 28 rfl)) (mvT hZ (ww hw 29 rfl)) (mvT hZ (ww hw 30 rfl)) (by decide) (backOf (W := 1) (rm3_1 l Z a0 hw [] (x1 &&& (7 : Int32)) r4 T24.heap n0 o30 hc32 f33) hZ (ww hw 30 rfl) (ww hw 29 rfl) (by decide) (by decide)) (g := (mkF m 27 #[.val (.int x0), .val (.int x1), .val (.int (x1 &&& (7 : Int32))), .val (.ref r7), .val (.ref r4)] [(.int (x1 &&& (7 : Int32))), (.ref r4)])) rfl (by rw [hml]; rfl) (argsL := [(.int (x1 &&& (7 : Int32)))]) (rest := [(.ref r4)]) (lenOf pd__I_Lcom_example_wiregather_wiregather_wire_FieldType_ rfl) rfl (by show 2 * 0 + _ ≤ _; exact Nat.le_of_eq rfl) (hb hby at_27) (fun _ _ => ⟨rfl, E31, (by decide : 2 + 0 ≤ _), (by decide : 12 + 0 ≤ _)⟩)
  dsimp only [Pt.U, Pt.locs, Pt.cells, Pt.slots] at X34 l34 y34 z34 st34 hQ34
  subst l34 y34 z34
  obtain ⟨rfl, N34q, E34⟩ := hQ34
  have N34 := Fr.app N31 N34q
  obtain ⟨fs, hr, hrun, hended, hW, hsame⟩ := X34.leave (v := some (.int (1 : Int32))) (fun h => by rw [Bd.returns] at h; cases h)
  refine ⟨_, _, pre0 _ ?_, hrun, hended, _, _, rfl, ?_, ⟨_, rfl⟩, hW, hsame.mono (by decide) (by decide)⟩
  · show Steps p.tables e below (s₁.setTop (mkF m 0 #[.val (.int x0), .val (.int x1), .unset, .unset, .unset] [])) _
    refine XS.iloadN X0.here hx rfl (hb hby at_0) rfl ?_
    refine XS.bipush X0.here hx rfl (hb hby at_1) ?_
    refine XS.iand X0.here hx rfl (hb hby at_3) rfl ?_
    refine XS.istoreN X0.here hx rfl (hb hby at_4) rfl (l' := #[.val (.int x0), .val (.int x1), .val (.int (x1 &&& (7 : Int32))), .unset, .unset]) rfl ?_
    show Steps p.tables e below (s₁.setTop (mkF m 5 #[.val (.int x0), .val (.int x1), .val (.int (x1 &&& (7 : Int32))), .unset, .unset] [])) _
    refine XS.iloadN X0.here hx rfl (hb hby at_5) rfl ?_
    refine st16 _ ?_
    show Steps p.tables e below (T16.setTop (mkF m 9 #[.val (.int x0), .val (.int x1), .val (.int (x1 &&& (7 : Int32))), .unset, .unset] [(.ref r7)])) _
    refine XS.astoreN X16.here hx rfl (hb hby at_9) rfl rfl (l' := #[.val (.int x0), .val (.int x1), .val (.int (x1 &&& (7 : Int32))), .val (.ref r7), .unset]) rfl ?_
    refine XS.iloadN X16.here hx rfl (hb hby at_10) rfl ?_
    refine st24 _ ?_
    show Steps p.tables e below (T24.setTop (mkF m 14 #[.val (.int x0), .val (.int x1), .val (.int (x1 &&& (7 : Int32))), .val (.ref r7), .unset] [(.ref r4)])) _
    refine XS.astore X24.here hx rfl (hb hby at_14) rfl rfl (l' := #[.val (.int x0), .val (.int x1), .val (.int (x1 &&& (7 : Int32))), .val (.ref r7), .val (.ref r4)]) rfl ?_
    refine XS.aloadN X24.here hx rfl (hb hby at_16) rfl rfl ?_
    refine XS.iloadN X24.here hx rfl (hb hby at_17) rfl ?_
    refine st31 _ ?_
    show Steps p.tables e below (T31.setTop (mkF m 21 #[.val (.int x0), .val (.int x1), .val (.int (x1 &&& (7 : Int32))), .val (.ref r7), .val (.ref r4)] [(.ref r7), (.ref r7)])) _
    refine Jvm.RoadKit.acmp (g := (mkF m 21 #[.val (.int x0), .val (.int x1), .val (.int (x1 &&& (7 : Int32))), .val (.ref r7), .val (.ref r4)] [(.ref r7), (.ref r7)])) X31 hx rfl rfl rfl (pc0 := 21) (pc' := 24) (same := true) rfl (hb hby at_21) rfl (decide_eq_true rfl) (by decide) (by decide) ?_
    show Steps p.tables e below (T31.setTop (mkF m 24 #[.val (.int x0), .val (.int x1), .val (.int (x1 &&& (7 : Int32))), .val (.ref r7), .val (.ref r4)] [])) _
    refine XS.aload X31.here hx rfl (hb hby at_24) rfl rfl ?_
    refine XS.iloadN X31.here hx rfl (hb hby at_26) rfl ?_
    refine st34 _ ?_
    show Steps p.tables e below (T34.setTop (mkF m 30 #[.val (.int x0), .val (.int x1), .val (.int (x1 &&& (7 : Int32))), .val (.ref r7), .val (.ref r4)] [(.ref r4), (.ref r4)])) _
    refine Jvm.RoadKit.acmp (g := (mkF m 30 #[.val (.int x0), .val (.int x1), .val (.int (x1 &&& (7 : Int32))), .val (.ref r7), .val (.ref r4)] [(.ref r4), (.ref r4)])) X34 hx rfl rfl rfl (pc0 := 30) (pc' := 33) (same := true) rfl (hb hby at_30) rfl (decide_eq_true rfl) (by decide) (by decide) ?_
    show Steps p.tables e below (T34.setTop (mkF m 33 #[.val (.int x0), .val (.int x1), .val (.int (x1 &&& (7 : Int32))), .val (.ref r7), .val (.ref r4)] [])) _
    refine XS.iconst X34.here hx rfl (hb hby at_33) ?_
    refine XS.goto X34.here hx rfl (pc0 := 34) (pc' := 38) rfl (hb hby at_34) (by decide) (by decide) ?_
    show Steps p.tables e below (T34.setTop (mkF m 38 #[.val (.int x0), .val (.int x1), .val (.int (x1 &&& (7 : Int32))), .val (.ref r7), .val (.ref r4)] [(.int (1 : Int32))])) _
    exact retN X34 hx (t := .boolean) Bd.returns (by simp) (hb hby at_38) hr
  · show Q0_23 Z x0 x1 r2 c3 r4 r5 r6 r7 r8 r9 h0 n0 _ T34.heap _
    rw [E34]
    exact ⟨rfl, N34⟩
def Q0_24 (Z : State) (x0 : Int32) (x1 : Int32) (r2 : Addr) (c3 : ClassId) (r4 : Addr) (r5 : Addr) (r6 : Addr) (r7 : Addr) (r8 : Addr) (r9 : Addr) (h0 : Heap) (n0 : Nat) (v : Option Value) (h : Heap) (L : List Loc) : Prop := v = some (.int (1 : Int32)) ∧ Fr n0 L
set_option maxRecDepth 65536 in
set_option maxHeartbeats 40000000 in
theorem rm0_24 (l : Launch) (Z : State) (a0 : Array Value) (hw : ∀ d ∈ tables_1, d.before a0 Z = true) (ws : List Jvm.Cond) (x0 : Int32) (x1 : Int32) (r2 : Addr) (c3 : ClassId) (r4 : Addr) (r5 : Addr) (r6 : Addr) (r7 : Addr) (r8 : Addr) (r9 : Addr) (h0 : Heap) (n0 : Nat) (O0 : Old Z n0 h0) (f1 : Sta Z Z.heap cs0 "$VALUES" cs1 (.ref r2)) (f2 : Exa Z Z.heap r2 cs1) (f3 : Arv Z Z.heap r2 c3 (.object cs0) (6 : Int32) [(.ref r4), (.ref r5), (.ref r6), (.ref r7), (.ref r8), (.ref r9)] .null) (f4 : Fld Z Z.heap r4 cs0 "code" "I" (.int (1 : Int32))) (hc5 : ¬ ((1 : Int32) = x0)) (f6 : Fld Z Z.heap r5 cs0 "code" "I" (.int (2 : Int32))) (hc7 : ¬ ((2 : Int32) = x0)) (f8 : Fld Z Z.heap r6 cs0 "code" "I" (.int (3 : Int32))) (hc9 : ¬ ((3 : Int32) = x0)) (f10 : Fld Z Z.heap r7 cs0 "code" "I" (.int (4 : Int32))) (hc11 : (4 : Int32) = x0) (f12 : Fld Z Z.heap r8 cs0 "code" "I" (.int (5 : Int32))) (hc13 : ¬ ((5 : Int32) = x0)) (f14 : Fld Z Z.heap r9 cs0 "code" "I" (.int (6 : Int32))) (hc15 : ¬ ((6 : Int32) = x0)) (hc17 : ¬ ((1 : Int32) = (x1 &&& (7 : Int32)))) (hc18 : (2 : Int32) = (x1 &&& (7 : Int32))) (hc19 : ¬ ((3 : Int32) = (x1 &&& (7 : Int32)))) (hc20 : ¬ ((4 : Int32) = (x1 &&& (7 : Int32)))) (hc21 : ¬ ((5 : Int32) = (x1 &&& (7 : Int32)))) (hc22 : ¬ ((6 : Int32) = (x1 &&& (7 : Int32)))) (hc25 : ¬ (x0 = (1 : Int32))) (hc26 : ¬ (x0 = (2 : Int32))) (hc27 : ¬ (x0 = (3 : Int32))) (hc28 : x0 = (4 : Int32)) (f29 : Sta Z Z.heap cs0 "F64" cs5 (.ref r7)) (hc32 : ¬ ((x1 &&& (7 : Int32)) = (1 : Int32))) (hc33 : (x1 &&& (7 : Int32)) = (2 : Int32)) (f34 : Sta Z Z.heap cs0 "U32" cs5 (.ref r5)) :
    MetFree l x (head1 (Jvm.Cond.code x code maxLocals ret :: ws) room_1) (fun a U => a = #[(.int x0), (.int x1)] ∧ Z.Warmed39 U.vm ∧ U.heap = h0) (fun _ _ _ _ _ => True) (fun _ U o U' => ∃ v L, o = .returned v ∧ Q0_24 Z x0 x1 r2 c3 r4 r5 r6 r7 r8 r9 h0 n0 v U'.heap L ∧ FrameEnd U o U' L room_1.cells room_1.slots) := by
  refine MetFree.of_bodySF (plainFor_of_name pn_com_example_wiregather_wiregather_wire_FieldTypeOfCodePinLaw) hisR ?_
  intro p e s m args below meth c s₁ Bd hml0 hP hK
  obtain ⟨rfl, hZ, hh⟩ := hP
  have hx := Bd.exec
  have hby := Bd.bytes
  have hml : c.maxLocals = 5 := hml0
  have hown : s.vm.findClass cs4 = some m.cls := findClass_of_methodNamed Bd.named
  have hnm := (name_of_methodNamed Bd.named Bd.method).1
  have X0 : Stand p l e room_1 s m #[(.int x0), (.int x1)] below meth c s₁ [] 0 0 := Stand.of_body Bd
  have e0 : s₁.heap = h0 := by rw [← hh, Bd.state]; rfl
  have N0 := Fr.nil n0
  have pre0 : ∀ t, Steps p.tables e below (s₁.setTop (mkF m 0 #[.val (.int x0), .val (.int x1), .unset, .unset, .unset] [])) t → Steps p.tables e below (s₁.setTop (entryFrame m #[(.int x0), (.int x1)] maxLocals)) t := fun t k => castTop (by first | (simp [entryFrame, mkF, argsToLocals, Value.category, maxLocals]; done) | rfl) k
  obtain ⟨_, _, ⟨T16, L16, k16, n16⟩, -, X16, ⟨Lc16, hQ16, l16, y16, z16⟩, st16⟩ := Jvm.LawKit.callS X0 hx (y := (⟨cs0, "ofCode", cs3⟩ : MethodName)) hown (mvT hZ (ww hw 0 rfl)) (mvT hZ (ww hw 1 rfl)) (mvT hZ (ww hw 2 rfl)) (mvT hZ (ww hw 3 rfl)) (by decide) (backOf (W := 0) (rm1_5 l Z a0 hw [] x0 r2 c3 r4 r5 r6 r7 r8 r9 h0 n0 O0 f1 f2 f3 f4 hc5 f6 hc7 f8 hc9 f10 hc11 f12 hc13 f14 hc15) hZ (ww hw 3 rfl) (ww hw 2 rfl) (by decide) (by decide)) (g := (mkF m 6 #[.val (.int x0), .val (.int x1), .val (.int (x1 &&& (7 : Int32))), .unset, .unset] [(.int x0)])) rfl (by rw [hml]; rfl) (argsL := [(.int x0)]) (rest := []) (lenOf pd__I_Lcom_example_wiregather_wiregather_wire_FieldType_ rfl) rfl (by show 2 * 0 + _ ≤ _; exact Nat.le_of_eq rfl) (hb hby at_6) (fun _ _ => ⟨rfl, e0, (by decide : 0 + 1 ≤ _), (by decide : 0 + 6 ≤ _)⟩)
  dsimp only [Pt.U, Pt.locs, Pt.cells, Pt.slots] at X16 l16 y16 z16 st16 hQ16
  subst l16 y16 z16
  obtain ⟨rfl, N16q, K16⟩ := hQ16
  have N16 := Fr.app N0 N16q
  have o23 := Old.keep O0 K16 all0
  obtain ⟨_, _, ⟨T24, L24, k24, n24⟩, -, X24, ⟨Lc24, hQ24, l24, y24, z24⟩, st24⟩ := Jvm.LawKit.callS X16 hx (y := (⟨cs0, "ofCode", cs3⟩ : MethodName)) hown (mvT hZ (ww hw 0 rfl)) (mvT hZ (ww hw 1 rfl)) (mvT hZ (ww hw 2 rfl)) (mvT hZ (ww hw 3 rfl)) (by decide) (backOf (W := 0) (rm1_3 l Z a0 hw [] (x1 &&& (7 : Int32)) r2 c3 r4 r5 r6 r7 r8 r9 T16.heap n0 o23 f1 f2 f3 f4 hc17 f6 hc18 f8 hc19 f10 hc20 f12 hc21 f14 hc22) hZ (ww hw 3 rfl) (ww hw 2 rfl) (by decide) (by decide)) (g := (mkF m 11 #[.val (.int x0), .val (.int x1), .val (.int (x1 &&& (7 : Int32))), .val (.ref r7), .unset] [(.int (x1 &&& (7 : Int32)))])) rfl (by rw [hml]; rfl) (argsL := [(.int (x1 &&& (7 : Int32)))]) (rest := []) (lenOf pd__I_Lcom_example_wiregather_wiregather_wire_FieldType_ rfl) rfl (by show 2 * 0 + _ ≤ _; exact Nat.le_of_eq rfl) (hb hby at_11) (fun _ _ => ⟨rfl, rfl, (by decide : 1 + 1 ≤ _), (by decide : 6 + 6 ≤ _)⟩)
  dsimp only [Pt.U, Pt.locs, Pt.cells, Pt.slots] at X24 l24 y24 z24 st24 hQ24
  subst l24 y24 z24
  obtain ⟨rfl, N24q, K24⟩ := hQ24
  have N24 := Fr.app N16 N24q
  have o30 := Old.keep o23 K24 all0
  obtain ⟨_, _, ⟨T31, L31, k31, n31⟩, -, X31, ⟨Lc31, hQ31, l31, y31, z31⟩, st31⟩ := Jvm.LawKit.callS X24 hx (y := (⟨cs4, "expected", cs3⟩ : MethodName)) hown (mvT hZ (ww hw 27 rfl)) (mvT hZ (ww hw 28 rfl)) (mvT hZ (ww hw 29 rfl)) (mvT hZ (ww hw 30 rfl)) (by decide) (backOf (W := 1) (rm3_5 l Z a0 hw [] x0 r7 T24.heap n0 o30 hc25 hc26 hc27 hc28 f29) hZ (ww hw 30 rfl) (ww hw 29 rfl) (by decide) (by decide)) (g := (mkF m 18 #[.val (.int x0), .val (.int x1), .val (.int (x1 &&& (7 : Int32))), .val (.ref r7), .val (.ref r5)] [(.int x0), (.ref r7)])) rfl (by rw [hml]; rfl) (argsL := [(.int x0)]) (rest := [(.ref r7)]) (lenOf pd__I_Lcom_example_wiregather_wiregather_wire_FieldType_ rfl) rfl (by show 2 * 0 + _ ≤ _; exact Nat.le_of_eq rfl) (hb hby at_18) (fun _ _ => ⟨rfl, rfl, (by decide : 2 + 0 ≤ _), (by decide : 12 + 0 ≤ _)⟩)
  dsimp only [Pt.U, Pt.locs, Pt.cells, Pt.slots] at X31 l31 y31 z31 st31 hQ31
  subst l31 y31 z31
  obtain ⟨rfl, N31q, E31⟩ := hQ31
  have N31 := Fr.app N24 N31q
  obtain ⟨_, _, ⟨T35, L35, k35, n35⟩, -, X35, ⟨Lc35, hQ35, l35, y35, z35⟩, st35⟩ := Jvm.LawKit.callS X31 hx (y := (⟨cs4, "expected", cs3⟩ : MethodName)) hown (mvT hZ (ww hw 27 rfl)) (mvT hZ (ww hw 28 rfl)) (mvT hZ (ww hw 29 rfl)) (mvT hZ (ww hw 30 rfl)) (by decide) (backOf (W := 1) (rm3_3 l Z a0 hw [] (x1 &&& (7 : Int32)) r5 T24.heap n0 o30 hc32 hc33 f34) hZ (ww hw 30 rfl) (ww hw 29 rfl) (by decide) (by decide)) (g := (mkF m 27 #[.val (.int x0), .val (.int x1), .val (.int (x1 &&& (7 : Int32))), .val (.ref r7), .val (.ref r5)] [(.int (x1 &&& (7 : Int32))), (.ref r5)])) rfl (by rw [hml]; rfl) (argsL := [(.int (x1 &&& (7 : Int32)))]) (rest := [(.ref r5)]) (lenOf pd__I_Lcom_example_wiregather_wiregather_wire_FieldType_ rfl) rfl (by show 2 * 0 + _ ≤ _; exact Nat.le_of_eq rfl) (hb hby at_27) (fun _ _ => ⟨rfl, E31, (by decide : 2 + 0 ≤ _), (by decide : 12 + 0 ≤ _)⟩)
  dsimp only [Pt.U, Pt.locs, Pt.cells, Pt.slots] at X35 l35 y35 z35 st35 hQ35
  subst l35 y35 z35
  obtain ⟨rfl, N35q, E35⟩ := hQ35
  have N35 := Fr.app N31 N35q
  obtain ⟨fs, hr, hrun, hended, hW, hsame⟩ := X35.leave (v := some (.int (1 : Int32))) (fun h => by rw [Bd.returns] at h; cases h)
  refine ⟨_, _, pre0 _ ?_, hrun, hended, _, _, rfl, ?_, ⟨_, rfl⟩, hW, hsame.mono (by decide) (by decide)⟩
  · show Steps p.tables e below (s₁.setTop (mkF m 0 #[.val (.int x0), .val (.int x1), .unset, .unset, .unset] [])) _
    refine XS.iloadN X0.here hx rfl (hb hby at_0) rfl ?_
    refine XS.bipush X0.here hx rfl (hb hby at_1) ?_
    refine XS.iand X0.here hx rfl (hb hby at_3) rfl ?_
    refine XS.istoreN X0.here hx rfl (hb hby at_4) rfl (l' := #[.val (.int x0), .val (.int x1), .val (.int (x1 &&& (7 : Int32))), .unset, .unset]) rfl ?_
    show Steps p.tables e below (s₁.setTop (mkF m 5 #[.val (.int x0), .val (.int x1), .val (.int (x1 &&& (7 : Int32))), .unset, .unset] [])) _
    refine XS.iloadN X0.here hx rfl (hb hby at_5) rfl ?_
    refine st16 _ ?_
    show Steps p.tables e below (T16.setTop (mkF m 9 #[.val (.int x0), .val (.int x1), .val (.int (x1 &&& (7 : Int32))), .unset, .unset] [(.ref r7)])) _
    refine XS.astoreN X16.here hx rfl (hb hby at_9) rfl rfl (l' := #[.val (.int x0), .val (.int x1), .val (.int (x1 &&& (7 : Int32))), .val (.ref r7), .unset]) rfl ?_
    refine XS.iloadN X16.here hx rfl (hb hby at_10) rfl ?_
    refine st24 _ ?_
    show Steps p.tables e below (T24.setTop (mkF m 14 #[.val (.int x0), .val (.int x1), .val (.int (x1 &&& (7 : Int32))), .val (.ref r7), .unset] [(.ref r5)])) _
    refine XS.astore X24.here hx rfl (hb hby at_14) rfl rfl (l' := #[.val (.int x0), .val (.int x1), .val (.int (x1 &&& (7 : Int32))), .val (.ref r7), .val (.ref r5)]) rfl ?_
    refine XS.aloadN X24.here hx rfl (hb hby at_16) rfl rfl ?_
    refine XS.iloadN X24.here hx rfl (hb hby at_17) rfl ?_
    refine st31 _ ?_
    show Steps p.tables e below (T31.setTop (mkF m 21 #[.val (.int x0), .val (.int x1), .val (.int (x1 &&& (7 : Int32))), .val (.ref r7), .val (.ref r5)] [(.ref r7), (.ref r7)])) _
    refine Jvm.RoadKit.acmp (g := (mkF m 21 #[.val (.int x0), .val (.int x1), .val (.int (x1 &&& (7 : Int32))), .val (.ref r7), .val (.ref r5)] [(.ref r7), (.ref r7)])) X31 hx rfl rfl rfl (pc0 := 21) (pc' := 24) (same := true) rfl (hb hby at_21) rfl (decide_eq_true rfl) (by decide) (by decide) ?_
    show Steps p.tables e below (T31.setTop (mkF m 24 #[.val (.int x0), .val (.int x1), .val (.int (x1 &&& (7 : Int32))), .val (.ref r7), .val (.ref r5)] [])) _
    refine XS.aload X31.here hx rfl (hb hby at_24) rfl rfl ?_
    refine XS.iloadN X31.here hx rfl (hb hby at_26) rfl ?_
    refine st35 _ ?_
    show Steps p.tables e below (T35.setTop (mkF m 30 #[.val (.int x0), .val (.int x1), .val (.int (x1 &&& (7 : Int32))), .val (.ref r7), .val (.ref r5)] [(.ref r5), (.ref r5)])) _
    refine Jvm.RoadKit.acmp (g := (mkF m 30 #[.val (.int x0), .val (.int x1), .val (.int (x1 &&& (7 : Int32))), .val (.ref r7), .val (.ref r5)] [(.ref r5), (.ref r5)])) X35 hx rfl rfl rfl (pc0 := 30) (pc' := 33) (same := true) rfl (hb hby at_30) rfl (decide_eq_true rfl) (by decide) (by decide) ?_
    show Steps p.tables e below (T35.setTop (mkF m 33 #[.val (.int x0), .val (.int x1), .val (.int (x1 &&& (7 : Int32))), .val (.ref r7), .val (.ref r5)] [])) _
    refine XS.iconst X35.here hx rfl (hb hby at_33) ?_
    refine XS.goto X35.here hx rfl (pc0 := 34) (pc' := 38) rfl (hb hby at_34) (by decide) (by decide) ?_
    show Steps p.tables e below (T35.setTop (mkF m 38 #[.val (.int x0), .val (.int x1), .val (.int (x1 &&& (7 : Int32))), .val (.ref r7), .val (.ref r5)] [(.int (1 : Int32))])) _
    exact retN X35 hx (t := .boolean) Bd.returns (by simp) (hb hby at_38) hr
  · show Q0_24 Z x0 x1 r2 c3 r4 r5 r6 r7 r8 r9 h0 n0 _ T35.heap _
    rw [E35]
    exact ⟨rfl, N35⟩
def Q0_25 (Z : State) (x0 : Int32) (x1 : Int32) (r2 : Addr) (c3 : ClassId) (r4 : Addr) (r5 : Addr) (r6 : Addr) (r7 : Addr) (r8 : Addr) (r9 : Addr) (h0 : Heap) (n0 : Nat) (v : Option Value) (h : Heap) (L : List Loc) : Prop := v = some (.int (1 : Int32)) ∧ Fr n0 L
set_option maxRecDepth 65536 in
set_option maxHeartbeats 40000000 in
theorem rm0_25 (l : Launch) (Z : State) (a0 : Array Value) (hw : ∀ d ∈ tables_1, d.before a0 Z = true) (ws : List Jvm.Cond) (x0 : Int32) (x1 : Int32) (r2 : Addr) (c3 : ClassId) (r4 : Addr) (r5 : Addr) (r6 : Addr) (r7 : Addr) (r8 : Addr) (r9 : Addr) (h0 : Heap) (n0 : Nat) (O0 : Old Z n0 h0) (f1 : Sta Z Z.heap cs0 "$VALUES" cs1 (.ref r2)) (f2 : Exa Z Z.heap r2 cs1) (f3 : Arv Z Z.heap r2 c3 (.object cs0) (6 : Int32) [(.ref r4), (.ref r5), (.ref r6), (.ref r7), (.ref r8), (.ref r9)] .null) (f4 : Fld Z Z.heap r4 cs0 "code" "I" (.int (1 : Int32))) (hc5 : ¬ ((1 : Int32) = x0)) (f6 : Fld Z Z.heap r5 cs0 "code" "I" (.int (2 : Int32))) (hc7 : ¬ ((2 : Int32) = x0)) (f8 : Fld Z Z.heap r6 cs0 "code" "I" (.int (3 : Int32))) (hc9 : ¬ ((3 : Int32) = x0)) (f10 : Fld Z Z.heap r7 cs0 "code" "I" (.int (4 : Int32))) (hc11 : (4 : Int32) = x0) (f12 : Fld Z Z.heap r8 cs0 "code" "I" (.int (5 : Int32))) (hc13 : ¬ ((5 : Int32) = x0)) (f14 : Fld Z Z.heap r9 cs0 "code" "I" (.int (6 : Int32))) (hc15 : ¬ ((6 : Int32) = x0)) (hc17 : ¬ ((1 : Int32) = (x1 &&& (7 : Int32)))) (hc18 : ¬ ((2 : Int32) = (x1 &&& (7 : Int32)))) (hc19 : (3 : Int32) = (x1 &&& (7 : Int32))) (hc20 : ¬ ((4 : Int32) = (x1 &&& (7 : Int32)))) (hc21 : ¬ ((5 : Int32) = (x1 &&& (7 : Int32)))) (hc22 : ¬ ((6 : Int32) = (x1 &&& (7 : Int32)))) (hc25 : ¬ (x0 = (1 : Int32))) (hc26 : ¬ (x0 = (2 : Int32))) (hc27 : ¬ (x0 = (3 : Int32))) (hc28 : x0 = (4 : Int32)) (f29 : Sta Z Z.heap cs0 "F64" cs5 (.ref r7)) (hc32 : ¬ ((x1 &&& (7 : Int32)) = (1 : Int32))) (hc33 : ¬ ((x1 &&& (7 : Int32)) = (2 : Int32))) (hc34 : (x1 &&& (7 : Int32)) = (3 : Int32)) (f35 : Sta Z Z.heap cs0 "F32" cs5 (.ref r6)) :
    MetFree l x (head1 (Jvm.Cond.code x code maxLocals ret :: ws) room_1) (fun a U => a = #[(.int x0), (.int x1)] ∧ Z.Warmed39 U.vm ∧ U.heap = h0) (fun _ _ _ _ _ => True) (fun _ U o U' => ∃ v L, o = .returned v ∧ Q0_25 Z x0 x1 r2 c3 r4 r5 r6 r7 r8 r9 h0 n0 v U'.heap L ∧ FrameEnd U o U' L room_1.cells room_1.slots) := by
  refine MetFree.of_bodySF (plainFor_of_name pn_com_example_wiregather_wiregather_wire_FieldTypeOfCodePinLaw) hisR ?_
  intro p e s m args below meth c s₁ Bd hml0 hP hK
  obtain ⟨rfl, hZ, hh⟩ := hP
  have hx := Bd.exec
  have hby := Bd.bytes
  have hml : c.maxLocals = 5 := hml0
  have hown : s.vm.findClass cs4 = some m.cls := findClass_of_methodNamed Bd.named
  have hnm := (name_of_methodNamed Bd.named Bd.method).1
  have X0 : Stand p l e room_1 s m #[(.int x0), (.int x1)] below meth c s₁ [] 0 0 := Stand.of_body Bd
  have e0 : s₁.heap = h0 := by rw [← hh, Bd.state]; rfl
  have N0 := Fr.nil n0
  have pre0 : ∀ t, Steps p.tables e below (s₁.setTop (mkF m 0 #[.val (.int x0), .val (.int x1), .unset, .unset, .unset] [])) t → Steps p.tables e below (s₁.setTop (entryFrame m #[(.int x0), (.int x1)] maxLocals)) t := fun t k => castTop (by first | (simp [entryFrame, mkF, argsToLocals, Value.category, maxLocals]; done) | rfl) k
  obtain ⟨_, _, ⟨T16, L16, k16, n16⟩, -, X16, ⟨Lc16, hQ16, l16, y16, z16⟩, st16⟩ := Jvm.LawKit.callS X0 hx (y := (⟨cs0, "ofCode", cs3⟩ : MethodName)) hown (mvT hZ (ww hw 0 rfl)) (mvT hZ (ww hw 1 rfl)) (mvT hZ (ww hw 2 rfl)) (mvT hZ (ww hw 3 rfl)) (by decide) (backOf (W := 0) (rm1_5 l Z a0 hw [] x0 r2 c3 r4 r5 r6 r7 r8 r9 h0 n0 O0 f1 f2 f3 f4 hc5 f6 hc7 f8 hc9 f10 hc11 f12 hc13 f14 hc15) hZ (ww hw 3 rfl) (ww hw 2 rfl) (by decide) (by decide)) (g := (mkF m 6 #[.val (.int x0), .val (.int x1), .val (.int (x1 &&& (7 : Int32))), .unset, .unset] [(.int x0)])) rfl (by rw [hml]; rfl) (argsL := [(.int x0)]) (rest := []) (lenOf pd__I_Lcom_example_wiregather_wiregather_wire_FieldType_ rfl) rfl (by show 2 * 0 + _ ≤ _; exact Nat.le_of_eq rfl) (hb hby at_6) (fun _ _ => ⟨rfl, e0, (by decide : 0 + 1 ≤ _), (by decide : 0 + 6 ≤ _)⟩)
  dsimp only [Pt.U, Pt.locs, Pt.cells, Pt.slots] at X16 l16 y16 z16 st16 hQ16
  subst l16 y16 z16
  obtain ⟨rfl, N16q, K16⟩ := hQ16
  have N16 := Fr.app N0 N16q
  have o23 := Old.keep O0 K16 all0
  obtain ⟨_, _, ⟨T24, L24, k24, n24⟩, -, X24, ⟨Lc24, hQ24, l24, y24, z24⟩, st24⟩ := Jvm.LawKit.callS X16 hx (y := (⟨cs0, "ofCode", cs3⟩ : MethodName)) hown (mvT hZ (ww hw 0 rfl)) (mvT hZ (ww hw 1 rfl)) (mvT hZ (ww hw 2 rfl)) (mvT hZ (ww hw 3 rfl)) (by decide) (backOf (W := 0) (rm1_4 l Z a0 hw [] (x1 &&& (7 : Int32)) r2 c3 r4 r5 r6 r7 r8 r9 T16.heap n0 o23 f1 f2 f3 f4 hc17 f6 hc18 f8 hc19 f10 hc20 f12 hc21 f14 hc22) hZ (ww hw 3 rfl) (ww hw 2 rfl) (by decide) (by decide)) (g := (mkF m 11 #[.val (.int x0), .val (.int x1), .val (.int (x1 &&& (7 : Int32))), .val (.ref r7), .unset] [(.int (x1 &&& (7 : Int32)))])) rfl (by rw [hml]; rfl) (argsL := [(.int (x1 &&& (7 : Int32)))]) (rest := []) (lenOf pd__I_Lcom_example_wiregather_wiregather_wire_FieldType_ rfl) rfl (by show 2 * 0 + _ ≤ _; exact Nat.le_of_eq rfl) (hb hby at_11) (fun _ _ => ⟨rfl, rfl, (by decide : 1 + 1 ≤ _), (by decide : 6 + 6 ≤ _)⟩)
  dsimp only [Pt.U, Pt.locs, Pt.cells, Pt.slots] at X24 l24 y24 z24 st24 hQ24
  subst l24 y24 z24
  obtain ⟨rfl, N24q, K24⟩ := hQ24
  have N24 := Fr.app N16 N24q
  have o30 := Old.keep o23 K24 all0
  obtain ⟨_, _, ⟨T31, L31, k31, n31⟩, -, X31, ⟨Lc31, hQ31, l31, y31, z31⟩, st31⟩ := Jvm.LawKit.callS X24 hx (y := (⟨cs4, "expected", cs3⟩ : MethodName)) hown (mvT hZ (ww hw 27 rfl)) (mvT hZ (ww hw 28 rfl)) (mvT hZ (ww hw 29 rfl)) (mvT hZ (ww hw 30 rfl)) (by decide) (backOf (W := 1) (rm3_5 l Z a0 hw [] x0 r7 T24.heap n0 o30 hc25 hc26 hc27 hc28 f29) hZ (ww hw 30 rfl) (ww hw 29 rfl) (by decide) (by decide)) (g := (mkF m 18 #[.val (.int x0), .val (.int x1), .val (.int (x1 &&& (7 : Int32))), .val (.ref r7), .val (.ref r6)] [(.int x0), (.ref r7)])) rfl (by rw [hml]; rfl) (argsL := [(.int x0)]) (rest := [(.ref r7)]) (lenOf pd__I_Lcom_example_wiregather_wiregather_wire_FieldType_ rfl) rfl (by show 2 * 0 + _ ≤ _; exact Nat.le_of_eq rfl) (hb hby at_18) (fun _ _ => ⟨rfl, rfl, (by decide : 2 + 0 ≤ _), (by decide : 12 + 0 ≤ _)⟩)
  dsimp only [Pt.U, Pt.locs, Pt.cells, Pt.slots] at X31 l31 y31 z31 st31 hQ31
  subst l31 y31 z31
  obtain ⟨rfl, N31q, E31⟩ := hQ31
  have N31 := Fr.app N24 N31q
  obtain ⟨_, _, ⟨T36, L36, k36, n36⟩, -, X36, ⟨Lc36, hQ36, l36, y36, z36⟩, st36⟩ := Jvm.LawKit.callS X31 hx (y := (⟨cs4, "expected", cs3⟩ : MethodName)) hown (mvT hZ (ww hw 27 rfl)) (mvT hZ (ww hw 28 rfl)) (mvT hZ (ww hw 29 rfl)) (mvT hZ (ww hw 30 rfl)) (by decide) (backOf (W := 1) (rm3_4 l Z a0 hw [] (x1 &&& (7 : Int32)) r6 T24.heap n0 o30 hc32 hc33 hc34 f35) hZ (ww hw 30 rfl) (ww hw 29 rfl) (by decide) (by decide)) (g := (mkF m 27 #[.val (.int x0), .val (.int x1), .val (.int (x1 &&& (7 : Int32))), .val (.ref r7), .val (.ref r6)] [(.int (x1 &&& (7 : Int32))), (.ref r6)])) rfl (by rw [hml]; rfl) (argsL := [(.int (x1 &&& (7 : Int32)))]) (rest := [(.ref r6)]) (lenOf pd__I_Lcom_example_wiregather_wiregather_wire_FieldType_ rfl) rfl (by show 2 * 0 + _ ≤ _; exact Nat.le_of_eq rfl) (hb hby at_27) (fun _ _ => ⟨rfl, E31, (by decide : 2 + 0 ≤ _), (by decide : 12 + 0 ≤ _)⟩)
  dsimp only [Pt.U, Pt.locs, Pt.cells, Pt.slots] at X36 l36 y36 z36 st36 hQ36
  subst l36 y36 z36
  obtain ⟨rfl, N36q, E36⟩ := hQ36
  have N36 := Fr.app N31 N36q
  obtain ⟨fs, hr, hrun, hended, hW, hsame⟩ := X36.leave (v := some (.int (1 : Int32))) (fun h => by rw [Bd.returns] at h; cases h)
  refine ⟨_, _, pre0 _ ?_, hrun, hended, _, _, rfl, ?_, ⟨_, rfl⟩, hW, hsame.mono (by decide) (by decide)⟩
  · show Steps p.tables e below (s₁.setTop (mkF m 0 #[.val (.int x0), .val (.int x1), .unset, .unset, .unset] [])) _
    refine XS.iloadN X0.here hx rfl (hb hby at_0) rfl ?_
    refine XS.bipush X0.here hx rfl (hb hby at_1) ?_
    refine XS.iand X0.here hx rfl (hb hby at_3) rfl ?_
    refine XS.istoreN X0.here hx rfl (hb hby at_4) rfl (l' := #[.val (.int x0), .val (.int x1), .val (.int (x1 &&& (7 : Int32))), .unset, .unset]) rfl ?_
    show Steps p.tables e below (s₁.setTop (mkF m 5 #[.val (.int x0), .val (.int x1), .val (.int (x1 &&& (7 : Int32))), .unset, .unset] [])) _
    refine XS.iloadN X0.here hx rfl (hb hby at_5) rfl ?_
    refine st16 _ ?_
    show Steps p.tables e below (T16.setTop (mkF m 9 #[.val (.int x0), .val (.int x1), .val (.int (x1 &&& (7 : Int32))), .unset, .unset] [(.ref r7)])) _
    refine XS.astoreN X16.here hx rfl (hb hby at_9) rfl rfl (l' := #[.val (.int x0), .val (.int x1), .val (.int (x1 &&& (7 : Int32))), .val (.ref r7), .unset]) rfl ?_
    refine XS.iloadN X16.here hx rfl (hb hby at_10) rfl ?_
    refine st24 _ ?_
    show Steps p.tables e below (T24.setTop (mkF m 14 #[.val (.int x0), .val (.int x1), .val (.int (x1 &&& (7 : Int32))), .val (.ref r7), .unset] [(.ref r6)])) _
    refine XS.astore X24.here hx rfl (hb hby at_14) rfl rfl (l' := #[.val (.int x0), .val (.int x1), .val (.int (x1 &&& (7 : Int32))), .val (.ref r7), .val (.ref r6)]) rfl ?_
    refine XS.aloadN X24.here hx rfl (hb hby at_16) rfl rfl ?_
    refine XS.iloadN X24.here hx rfl (hb hby at_17) rfl ?_
    refine st31 _ ?_
    show Steps p.tables e below (T31.setTop (mkF m 21 #[.val (.int x0), .val (.int x1), .val (.int (x1 &&& (7 : Int32))), .val (.ref r7), .val (.ref r6)] [(.ref r7), (.ref r7)])) _
    refine Jvm.RoadKit.acmp (g := (mkF m 21 #[.val (.int x0), .val (.int x1), .val (.int (x1 &&& (7 : Int32))), .val (.ref r7), .val (.ref r6)] [(.ref r7), (.ref r7)])) X31 hx rfl rfl rfl (pc0 := 21) (pc' := 24) (same := true) rfl (hb hby at_21) rfl (decide_eq_true rfl) (by decide) (by decide) ?_
    show Steps p.tables e below (T31.setTop (mkF m 24 #[.val (.int x0), .val (.int x1), .val (.int (x1 &&& (7 : Int32))), .val (.ref r7), .val (.ref r6)] [])) _
    refine XS.aload X31.here hx rfl (hb hby at_24) rfl rfl ?_
    refine XS.iloadN X31.here hx rfl (hb hby at_26) rfl ?_
    refine st36 _ ?_
    show Steps p.tables e below (T36.setTop (mkF m 30 #[.val (.int x0), .val (.int x1), .val (.int (x1 &&& (7 : Int32))), .val (.ref r7), .val (.ref r6)] [(.ref r6), (.ref r6)])) _
    refine Jvm.RoadKit.acmp (g := (mkF m 30 #[.val (.int x0), .val (.int x1), .val (.int (x1 &&& (7 : Int32))), .val (.ref r7), .val (.ref r6)] [(.ref r6), (.ref r6)])) X36 hx rfl rfl rfl (pc0 := 30) (pc' := 33) (same := true) rfl (hb hby at_30) rfl (decide_eq_true rfl) (by decide) (by decide) ?_
    show Steps p.tables e below (T36.setTop (mkF m 33 #[.val (.int x0), .val (.int x1), .val (.int (x1 &&& (7 : Int32))), .val (.ref r7), .val (.ref r6)] [])) _
    refine XS.iconst X36.here hx rfl (hb hby at_33) ?_
    refine XS.goto X36.here hx rfl (pc0 := 34) (pc' := 38) rfl (hb hby at_34) (by decide) (by decide) ?_
    show Steps p.tables e below (T36.setTop (mkF m 38 #[.val (.int x0), .val (.int x1), .val (.int (x1 &&& (7 : Int32))), .val (.ref r7), .val (.ref r6)] [(.int (1 : Int32))])) _
    exact retN X36 hx (t := .boolean) Bd.returns (by simp) (hb hby at_38) hr
  · show Q0_25 Z x0 x1 r2 c3 r4 r5 r6 r7 r8 r9 h0 n0 _ T36.heap _
    rw [E36]
    exact ⟨rfl, N36⟩
def Q0_26 (Z : State) (x0 : Int32) (x1 : Int32) (r2 : Addr) (c3 : ClassId) (r4 : Addr) (r5 : Addr) (r6 : Addr) (r7 : Addr) (r8 : Addr) (r9 : Addr) (h0 : Heap) (n0 : Nat) (v : Option Value) (h : Heap) (L : List Loc) : Prop := v = some (.int (1 : Int32)) ∧ Fr n0 L
set_option maxRecDepth 65536 in
set_option maxHeartbeats 40000000 in
theorem rm0_26 (l : Launch) (Z : State) (a0 : Array Value) (hw : ∀ d ∈ tables_1, d.before a0 Z = true) (ws : List Jvm.Cond) (x0 : Int32) (x1 : Int32) (r2 : Addr) (c3 : ClassId) (r4 : Addr) (r5 : Addr) (r6 : Addr) (r7 : Addr) (r8 : Addr) (r9 : Addr) (h0 : Heap) (n0 : Nat) (O0 : Old Z n0 h0) (f1 : Sta Z Z.heap cs0 "$VALUES" cs1 (.ref r2)) (f2 : Exa Z Z.heap r2 cs1) (f3 : Arv Z Z.heap r2 c3 (.object cs0) (6 : Int32) [(.ref r4), (.ref r5), (.ref r6), (.ref r7), (.ref r8), (.ref r9)] .null) (f4 : Fld Z Z.heap r4 cs0 "code" "I" (.int (1 : Int32))) (hc5 : ¬ ((1 : Int32) = x0)) (f6 : Fld Z Z.heap r5 cs0 "code" "I" (.int (2 : Int32))) (hc7 : ¬ ((2 : Int32) = x0)) (f8 : Fld Z Z.heap r6 cs0 "code" "I" (.int (3 : Int32))) (hc9 : ¬ ((3 : Int32) = x0)) (f10 : Fld Z Z.heap r7 cs0 "code" "I" (.int (4 : Int32))) (hc11 : (4 : Int32) = x0) (f12 : Fld Z Z.heap r8 cs0 "code" "I" (.int (5 : Int32))) (hc13 : ¬ ((5 : Int32) = x0)) (f14 : Fld Z Z.heap r9 cs0 "code" "I" (.int (6 : Int32))) (hc15 : ¬ ((6 : Int32) = x0)) (hc17 : ¬ ((1 : Int32) = (x1 &&& (7 : Int32)))) (hc18 : ¬ ((2 : Int32) = (x1 &&& (7 : Int32)))) (hc19 : ¬ ((3 : Int32) = (x1 &&& (7 : Int32)))) (hc20 : (4 : Int32) = (x1 &&& (7 : Int32))) (hc21 : ¬ ((5 : Int32) = (x1 &&& (7 : Int32)))) (hc22 : ¬ ((6 : Int32) = (x1 &&& (7 : Int32)))) (hc25 : ¬ (x0 = (1 : Int32))) (hc26 : ¬ (x0 = (2 : Int32))) (hc27 : ¬ (x0 = (3 : Int32))) (hc28 : x0 = (4 : Int32)) (f29 : Sta Z Z.heap cs0 "F64" cs5 (.ref r7)) (hc32 : ¬ ((x1 &&& (7 : Int32)) = (1 : Int32))) (hc33 : ¬ ((x1 &&& (7 : Int32)) = (2 : Int32))) (hc34 : ¬ ((x1 &&& (7 : Int32)) = (3 : Int32))) (hc35 : (x1 &&& (7 : Int32)) = (4 : Int32)) :
    MetFree l x (head1 (Jvm.Cond.code x code maxLocals ret :: ws) room_1) (fun a U => a = #[(.int x0), (.int x1)] ∧ Z.Warmed39 U.vm ∧ U.heap = h0) (fun _ _ _ _ _ => True) (fun _ U o U' => ∃ v L, o = .returned v ∧ Q0_26 Z x0 x1 r2 c3 r4 r5 r6 r7 r8 r9 h0 n0 v U'.heap L ∧ FrameEnd U o U' L room_1.cells room_1.slots) := by
  refine MetFree.of_bodySF (plainFor_of_name pn_com_example_wiregather_wiregather_wire_FieldTypeOfCodePinLaw) hisR ?_
  intro p e s m args below meth c s₁ Bd hml0 hP hK
  obtain ⟨rfl, hZ, hh⟩ := hP
  have hx := Bd.exec
  have hby := Bd.bytes
  have hml : c.maxLocals = 5 := hml0
  have hown : s.vm.findClass cs4 = some m.cls := findClass_of_methodNamed Bd.named
  have hnm := (name_of_methodNamed Bd.named Bd.method).1
  have X0 : Stand p l e room_1 s m #[(.int x0), (.int x1)] below meth c s₁ [] 0 0 := Stand.of_body Bd
  have e0 : s₁.heap = h0 := by rw [← hh, Bd.state]; rfl
  have N0 := Fr.nil n0
  have pre0 : ∀ t, Steps p.tables e below (s₁.setTop (mkF m 0 #[.val (.int x0), .val (.int x1), .unset, .unset, .unset] [])) t → Steps p.tables e below (s₁.setTop (entryFrame m #[(.int x0), (.int x1)] maxLocals)) t := fun t k => castTop (by first | (simp [entryFrame, mkF, argsToLocals, Value.category, maxLocals]; done) | rfl) k
  obtain ⟨_, _, ⟨T16, L16, k16, n16⟩, -, X16, ⟨Lc16, hQ16, l16, y16, z16⟩, st16⟩ := Jvm.LawKit.callS X0 hx (y := (⟨cs0, "ofCode", cs3⟩ : MethodName)) hown (mvT hZ (ww hw 0 rfl)) (mvT hZ (ww hw 1 rfl)) (mvT hZ (ww hw 2 rfl)) (mvT hZ (ww hw 3 rfl)) (by decide) (backOf (W := 0) (rm1_5 l Z a0 hw [] x0 r2 c3 r4 r5 r6 r7 r8 r9 h0 n0 O0 f1 f2 f3 f4 hc5 f6 hc7 f8 hc9 f10 hc11 f12 hc13 f14 hc15) hZ (ww hw 3 rfl) (ww hw 2 rfl) (by decide) (by decide)) (g := (mkF m 6 #[.val (.int x0), .val (.int x1), .val (.int (x1 &&& (7 : Int32))), .unset, .unset] [(.int x0)])) rfl (by rw [hml]; rfl) (argsL := [(.int x0)]) (rest := []) (lenOf pd__I_Lcom_example_wiregather_wiregather_wire_FieldType_ rfl) rfl (by show 2 * 0 + _ ≤ _; exact Nat.le_of_eq rfl) (hb hby at_6) (fun _ _ => ⟨rfl, e0, (by decide : 0 + 1 ≤ _), (by decide : 0 + 6 ≤ _)⟩)
  dsimp only [Pt.U, Pt.locs, Pt.cells, Pt.slots] at X16 l16 y16 z16 st16 hQ16
  subst l16 y16 z16
  obtain ⟨rfl, N16q, K16⟩ := hQ16
  have N16 := Fr.app N0 N16q
  have o23 := Old.keep O0 K16 all0
  obtain ⟨_, _, ⟨T24, L24, k24, n24⟩, -, X24, ⟨Lc24, hQ24, l24, y24, z24⟩, st24⟩ := Jvm.LawKit.callS X16 hx (y := (⟨cs0, "ofCode", cs3⟩ : MethodName)) hown (mvT hZ (ww hw 0 rfl)) (mvT hZ (ww hw 1 rfl)) (mvT hZ (ww hw 2 rfl)) (mvT hZ (ww hw 3 rfl)) (by decide) (backOf (W := 0) (rm1_5 l Z a0 hw [] (x1 &&& (7 : Int32)) r2 c3 r4 r5 r6 r7 r8 r9 T16.heap n0 o23 f1 f2 f3 f4 hc17 f6 hc18 f8 hc19 f10 hc20 f12 hc21 f14 hc22) hZ (ww hw 3 rfl) (ww hw 2 rfl) (by decide) (by decide)) (g := (mkF m 11 #[.val (.int x0), .val (.int x1), .val (.int (x1 &&& (7 : Int32))), .val (.ref r7), .unset] [(.int (x1 &&& (7 : Int32)))])) rfl (by rw [hml]; rfl) (argsL := [(.int (x1 &&& (7 : Int32)))]) (rest := []) (lenOf pd__I_Lcom_example_wiregather_wiregather_wire_FieldType_ rfl) rfl (by show 2 * 0 + _ ≤ _; exact Nat.le_of_eq rfl) (hb hby at_11) (fun _ _ => ⟨rfl, rfl, (by decide : 1 + 1 ≤ _), (by decide : 6 + 6 ≤ _)⟩)
  dsimp only [Pt.U, Pt.locs, Pt.cells, Pt.slots] at X24 l24 y24 z24 st24 hQ24
  subst l24 y24 z24
  obtain ⟨rfl, N24q, K24⟩ := hQ24
  have N24 := Fr.app N16 N24q
  have o30 := Old.keep o23 K24 all0
  obtain ⟨_, _, ⟨T31, L31, k31, n31⟩, -, X31, ⟨Lc31, hQ31, l31, y31, z31⟩, st31⟩ := Jvm.LawKit.callS X24 hx (y := (⟨cs4, "expected", cs3⟩ : MethodName)) hown (mvT hZ (ww hw 27 rfl)) (mvT hZ (ww hw 28 rfl)) (mvT hZ (ww hw 29 rfl)) (mvT hZ (ww hw 30 rfl)) (by decide) (backOf (W := 1) (rm3_5 l Z a0 hw [] x0 r7 T24.heap n0 o30 hc25 hc26 hc27 hc28 f29) hZ (ww hw 30 rfl) (ww hw 29 rfl) (by decide) (by decide)) (g := (mkF m 18 #[.val (.int x0), .val (.int x1), .val (.int (x1 &&& (7 : Int32))), .val (.ref r7), .val (.ref r7)] [(.int x0), (.ref r7)])) rfl (by rw [hml]; rfl) (argsL := [(.int x0)]) (rest := [(.ref r7)]) (lenOf pd__I_Lcom_example_wiregather_wiregather_wire_FieldType_ rfl) rfl (by show 2 * 0 + _ ≤ _; exact Nat.le_of_eq rfl) (hb hby at_18) (fun _ _ => ⟨rfl, rfl, (by decide : 2 + 0 ≤ _), (by decide : 12 + 0 ≤ _)⟩)
  dsimp only [Pt.U, Pt.locs, Pt.cells, Pt.slots] at X31 l31 y31 z31 st31 hQ31
  subst l31 y31 z31
  obtain ⟨rfl, N31q, E31⟩ := hQ31
  have N31 := Fr.app N24 N31q
  obtain ⟨_, _, ⟨T36, L36, k36, n36⟩, -, X36, ⟨Lc36, hQ36, l36, y36, z36⟩, st36⟩ := Jvm.LawKit.callS X31 hx (y := (⟨cs4, "expected", cs3⟩ : MethodName)) hown (mvT hZ (ww hw 27 rfl)) (mvT hZ (ww hw 28 rfl)) (mvT hZ (ww hw 29 rfl)) (mvT hZ (ww hw 30 rfl)) (by decide) (backOf (W := 1) (rm3_5 l Z a0 hw [] (x1 &&& (7 : Int32)) r7 T24.heap n0 o30 hc32 hc33 hc34 hc35 f29) hZ (ww hw 30 rfl) (ww hw 29 rfl) (by decide) (by decide)) (g := (mkF m 27 #[.val (.int x0), .val (.int x1), .val (.int (x1 &&& (7 : Int32))), .val (.ref r7), .val (.ref r7)] [(.int (x1 &&& (7 : Int32))), (.ref r7)])) rfl (by rw [hml]; rfl) (argsL := [(.int (x1 &&& (7 : Int32)))]) (rest := [(.ref r7)]) (lenOf pd__I_Lcom_example_wiregather_wiregather_wire_FieldType_ rfl) rfl (by show 2 * 0 + _ ≤ _; exact Nat.le_of_eq rfl) (hb hby at_27) (fun _ _ => ⟨rfl, E31, (by decide : 2 + 0 ≤ _), (by decide : 12 + 0 ≤ _)⟩)
  dsimp only [Pt.U, Pt.locs, Pt.cells, Pt.slots] at X36 l36 y36 z36 st36 hQ36
  subst l36 y36 z36
  obtain ⟨rfl, N36q, E36⟩ := hQ36
  have N36 := Fr.app N31 N36q
  obtain ⟨fs, hr, hrun, hended, hW, hsame⟩ := X36.leave (v := some (.int (1 : Int32))) (fun h => by rw [Bd.returns] at h; cases h)
  refine ⟨_, _, pre0 _ ?_, hrun, hended, _, _, rfl, ?_, ⟨_, rfl⟩, hW, hsame.mono (by decide) (by decide)⟩
  · show Steps p.tables e below (s₁.setTop (mkF m 0 #[.val (.int x0), .val (.int x1), .unset, .unset, .unset] [])) _
    refine XS.iloadN X0.here hx rfl (hb hby at_0) rfl ?_
    refine XS.bipush X0.here hx rfl (hb hby at_1) ?_
    refine XS.iand X0.here hx rfl (hb hby at_3) rfl ?_
    refine XS.istoreN X0.here hx rfl (hb hby at_4) rfl (l' := #[.val (.int x0), .val (.int x1), .val (.int (x1 &&& (7 : Int32))), .unset, .unset]) rfl ?_
    show Steps p.tables e below (s₁.setTop (mkF m 5 #[.val (.int x0), .val (.int x1), .val (.int (x1 &&& (7 : Int32))), .unset, .unset] [])) _
    refine XS.iloadN X0.here hx rfl (hb hby at_5) rfl ?_
    refine st16 _ ?_
    show Steps p.tables e below (T16.setTop (mkF m 9 #[.val (.int x0), .val (.int x1), .val (.int (x1 &&& (7 : Int32))), .unset, .unset] [(.ref r7)])) _
    refine XS.astoreN X16.here hx rfl (hb hby at_9) rfl rfl (l' := #[.val (.int x0), .val (.int x1), .val (.int (x1 &&& (7 : Int32))), .val (.ref r7), .unset]) rfl ?_
    refine XS.iloadN X16.here hx rfl (hb hby at_10) rfl ?_
    refine st24 _ ?_
    show Steps p.tables e below (T24.setTop (mkF m 14 #[.val (.int x0), .val (.int x1), .val (.int (x1 &&& (7 : Int32))), .val (.ref r7), .unset] [(.ref r7)])) _
    refine XS.astore X24.here hx rfl (hb hby at_14) rfl rfl (l' := #[.val (.int x0), .val (.int x1), .val (.int (x1 &&& (7 : Int32))), .val (.ref r7), .val (.ref r7)]) rfl ?_
    refine XS.aloadN X24.here hx rfl (hb hby at_16) rfl rfl ?_
    refine XS.iloadN X24.here hx rfl (hb hby at_17) rfl ?_
    refine st31 _ ?_
    show Steps p.tables e below (T31.setTop (mkF m 21 #[.val (.int x0), .val (.int x1), .val (.int (x1 &&& (7 : Int32))), .val (.ref r7), .val (.ref r7)] [(.ref r7), (.ref r7)])) _
    refine Jvm.RoadKit.acmp (g := (mkF m 21 #[.val (.int x0), .val (.int x1), .val (.int (x1 &&& (7 : Int32))), .val (.ref r7), .val (.ref r7)] [(.ref r7), (.ref r7)])) X31 hx rfl rfl rfl (pc0 := 21) (pc' := 24) (same := true) rfl (hb hby at_21) rfl (decide_eq_true rfl) (by decide) (by decide) ?_
    show Steps p.tables e below (T31.setTop (mkF m 24 #[.val (.int x0), .val (.int x1), .val (.int (x1 &&& (7 : Int32))), .val (.ref r7), .val (.ref r7)] [])) _
    refine XS.aload X31.here hx rfl (hb hby at_24) rfl rfl ?_
    refine XS.iloadN X31.here hx rfl (hb hby at_26) rfl ?_
    refine st36 _ ?_
    show Steps p.tables e below (T36.setTop (mkF m 30 #[.val (.int x0), .val (.int x1), .val (.int (x1 &&& (7 : Int32))), .val (.ref r7), .val (.ref r7)] [(.ref r7), (.ref r7)])) _
    refine Jvm.RoadKit.acmp (g := (mkF m 30 #[.val (.int x0), .val (.int x1), .val (.int (x1 &&& (7 : Int32))), .val (.ref r7), .val (.ref r7)] [(.ref r7), (.ref r7)])) X36 hx rfl rfl rfl (pc0 := 30) (pc' := 33) (same := true) rfl (hb hby at_30) rfl (decide_eq_true rfl) (by decide) (by decide) ?_
    show Steps p.tables e below (T36.setTop (mkF m 33 #[.val (.int x0), .val (.int x1), .val (.int (x1 &&& (7 : Int32))), .val (.ref r7), .val (.ref r7)] [])) _
    refine XS.iconst X36.here hx rfl (hb hby at_33) ?_
    refine XS.goto X36.here hx rfl (pc0 := 34) (pc' := 38) rfl (hb hby at_34) (by decide) (by decide) ?_
    show Steps p.tables e below (T36.setTop (mkF m 38 #[.val (.int x0), .val (.int x1), .val (.int (x1 &&& (7 : Int32))), .val (.ref r7), .val (.ref r7)] [(.int (1 : Int32))])) _
    exact retN X36 hx (t := .boolean) Bd.returns (by simp) (hb hby at_38) hr
  · show Q0_26 Z x0 x1 r2 c3 r4 r5 r6 r7 r8 r9 h0 n0 _ T36.heap _
    rw [E36]
    exact ⟨rfl, N36⟩
def Q0_27 (Z : State) (x0 : Int32) (x1 : Int32) (r2 : Addr) (c3 : ClassId) (r4 : Addr) (r5 : Addr) (r6 : Addr) (r7 : Addr) (r8 : Addr) (r9 : Addr) (h0 : Heap) (n0 : Nat) (v : Option Value) (h : Heap) (L : List Loc) : Prop := v = some (.int (1 : Int32)) ∧ Fr n0 L
set_option maxRecDepth 65536 in
set_option maxHeartbeats 40000000 in
theorem rm0_27 (l : Launch) (Z : State) (a0 : Array Value) (hw : ∀ d ∈ tables_1, d.before a0 Z = true) (ws : List Jvm.Cond) (x0 : Int32) (x1 : Int32) (r2 : Addr) (c3 : ClassId) (r4 : Addr) (r5 : Addr) (r6 : Addr) (r7 : Addr) (r8 : Addr) (r9 : Addr) (h0 : Heap) (n0 : Nat) (O0 : Old Z n0 h0) (f1 : Sta Z Z.heap cs0 "$VALUES" cs1 (.ref r2)) (f2 : Exa Z Z.heap r2 cs1) (f3 : Arv Z Z.heap r2 c3 (.object cs0) (6 : Int32) [(.ref r4), (.ref r5), (.ref r6), (.ref r7), (.ref r8), (.ref r9)] .null) (f4 : Fld Z Z.heap r4 cs0 "code" "I" (.int (1 : Int32))) (hc5 : ¬ ((1 : Int32) = x0)) (f6 : Fld Z Z.heap r5 cs0 "code" "I" (.int (2 : Int32))) (hc7 : ¬ ((2 : Int32) = x0)) (f8 : Fld Z Z.heap r6 cs0 "code" "I" (.int (3 : Int32))) (hc9 : ¬ ((3 : Int32) = x0)) (f10 : Fld Z Z.heap r7 cs0 "code" "I" (.int (4 : Int32))) (hc11 : (4 : Int32) = x0) (f12 : Fld Z Z.heap r8 cs0 "code" "I" (.int (5 : Int32))) (hc13 : ¬ ((5 : Int32) = x0)) (f14 : Fld Z Z.heap r9 cs0 "code" "I" (.int (6 : Int32))) (hc15 : ¬ ((6 : Int32) = x0)) (hc17 : ¬ ((1 : Int32) = (x1 &&& (7 : Int32)))) (hc18 : ¬ ((2 : Int32) = (x1 &&& (7 : Int32)))) (hc19 : ¬ ((3 : Int32) = (x1 &&& (7 : Int32)))) (hc20 : ¬ ((4 : Int32) = (x1 &&& (7 : Int32)))) (hc21 : (5 : Int32) = (x1 &&& (7 : Int32))) (hc22 : ¬ ((6 : Int32) = (x1 &&& (7 : Int32)))) (hc25 : ¬ (x0 = (1 : Int32))) (hc26 : ¬ (x0 = (2 : Int32))) (hc27 : ¬ (x0 = (3 : Int32))) (hc28 : x0 = (4 : Int32)) (f29 : Sta Z Z.heap cs0 "F64" cs5 (.ref r7)) (hc32 : ¬ ((x1 &&& (7 : Int32)) = (1 : Int32))) (hc33 : ¬ ((x1 &&& (7 : Int32)) = (2 : Int32))) (hc34 : ¬ ((x1 &&& (7 : Int32)) = (3 : Int32))) (hc35 : ¬ ((x1 &&& (7 : Int32)) = (4 : Int32))) (hc36 : (x1 &&& (7 : Int32)) = (5 : Int32)) (f37 : Sta Z Z.heap cs0 "TEXT" cs5 (.ref r8)) :
    MetFree l x (head1 (Jvm.Cond.code x code maxLocals ret :: ws) room_1) (fun a U => a = #[(.int x0), (.int x1)] ∧ Z.Warmed39 U.vm ∧ U.heap = h0) (fun _ _ _ _ _ => True) (fun _ U o U' => ∃ v L, o = .returned v ∧ Q0_27 Z x0 x1 r2 c3 r4 r5 r6 r7 r8 r9 h0 n0 v U'.heap L ∧ FrameEnd U o U' L room_1.cells room_1.slots) := by
  refine MetFree.of_bodySF (plainFor_of_name pn_com_example_wiregather_wiregather_wire_FieldTypeOfCodePinLaw) hisR ?_
  intro p e s m args below meth c s₁ Bd hml0 hP hK
  obtain ⟨rfl, hZ, hh⟩ := hP
  have hx := Bd.exec
  have hby := Bd.bytes
  have hml : c.maxLocals = 5 := hml0
  have hown : s.vm.findClass cs4 = some m.cls := findClass_of_methodNamed Bd.named
  have hnm := (name_of_methodNamed Bd.named Bd.method).1
  have X0 : Stand p l e room_1 s m #[(.int x0), (.int x1)] below meth c s₁ [] 0 0 := Stand.of_body Bd
  have e0 : s₁.heap = h0 := by rw [← hh, Bd.state]; rfl
  have N0 := Fr.nil n0
  have pre0 : ∀ t, Steps p.tables e below (s₁.setTop (mkF m 0 #[.val (.int x0), .val (.int x1), .unset, .unset, .unset] [])) t → Steps p.tables e below (s₁.setTop (entryFrame m #[(.int x0), (.int x1)] maxLocals)) t := fun t k => castTop (by first | (simp [entryFrame, mkF, argsToLocals, Value.category, maxLocals]; done) | rfl) k
  obtain ⟨_, _, ⟨T16, L16, k16, n16⟩, -, X16, ⟨Lc16, hQ16, l16, y16, z16⟩, st16⟩ := Jvm.LawKit.callS X0 hx (y := (⟨cs0, "ofCode", cs3⟩ : MethodName)) hown (mvT hZ (ww hw 0 rfl)) (mvT hZ (ww hw 1 rfl)) (mvT hZ (ww hw 2 rfl)) (mvT hZ (ww hw 3 rfl)) (by decide) (backOf (W := 0) (rm1_5 l Z a0 hw [] x0 r2 c3 r4 r5 r6 r7 r8 r9 h0 n0 O0 f1 f2 f3 f4 hc5 f6 hc7 f8 hc9 f10 hc11 f12 hc13 f14 hc15) hZ (ww hw 3 rfl) (ww hw 2 rfl) (by decide) (by decide)) (g := (mkF m 6 #[.val (.int x0), .val (.int x1), .val (.int (x1 &&& (7 : Int32))), .unset, .unset] [(.int x0)])) rfl (by rw [hml]; rfl) (argsL := [(.int x0)]) (rest := []) (lenOf pd__I_Lcom_example_wiregather_wiregather_wire_FieldType_ rfl) rfl (by show 2 * 0 + _ ≤ _; exact Nat.le_of_eq rfl) (hb hby at_6) (fun _ _ => ⟨rfl, e0, (by decide : 0 + 1 ≤ _), (by decide : 0 + 6 ≤ _)⟩)
  dsimp only [Pt.U, Pt.locs, Pt.cells, Pt.slots] at X16 l16 y16 z16 st16 hQ16
  subst l16 y16 z16
  obtain ⟨rfl, N16q, K16⟩ := hQ16
  have N16 := Fr.app N0 N16q
  have o23 := Old.keep O0 K16 all0
  obtain ⟨_, _, ⟨T24, L24, k24, n24⟩, -, X24, ⟨Lc24, hQ24, l24, y24, z24⟩, st24⟩ := Jvm.LawKit.callS X16 hx (y := (⟨cs0, "ofCode", cs3⟩ : MethodName)) hown (mvT hZ (ww hw 0 rfl)) (mvT hZ (ww hw 1 rfl)) (mvT hZ (ww hw 2 rfl)) (mvT hZ (ww hw 3 rfl)) (by decide) (backOf (W := 0) (rm1_6 l Z a0 hw [] (x1 &&& (7 : Int32)) r2 c3 r4 r5 r6 r7 r8 r9 T16.heap n0 o23 f1 f2 f3 f4 hc17 f6 hc18 f8 hc19 f10 hc20 f12 hc21 f14 hc22) hZ (ww hw 3 rfl) (ww hw 2 rfl) (by decide) (by decide)) (g := (mkF m 11 #[.val (.int x0), .val (.int x1), .val (.int (x1 &&& (7 : Int32))), .val (.ref r7), .unset] [(.int (x1 &&& (7 : Int32)))])) rfl (by rw [hml]; rfl) (argsL := [(.int (x1 &&& (7 : Int32)))]) (rest := []) (lenOf pd__I_Lcom_example_wiregather_wiregather_wire_FieldType_ rfl) rfl (by show 2 * 0 + _ ≤ _; exact Nat.le_of_eq rfl) (hb hby at_11) (fun _ _ => ⟨rfl, rfl, (by decide : 1 + 1 ≤ _), (by decide : 6 + 6 ≤ _)⟩)
  dsimp only [Pt.U, Pt.locs, Pt.cells, Pt.slots] at X24 l24 y24 z24 st24 hQ24
  subst l24 y24 z24
  obtain ⟨rfl, N24q, K24⟩ := hQ24
  have N24 := Fr.app N16 N24q
  have o30 := Old.keep o23 K24 all0
  obtain ⟨_, _, ⟨T31, L31, k31, n31⟩, -, X31, ⟨Lc31, hQ31, l31, y31, z31⟩, st31⟩ := Jvm.LawKit.callS X24 hx (y := (⟨cs4, "expected", cs3⟩ : MethodName)) hown (mvT hZ (ww hw 27 rfl)) (mvT hZ (ww hw 28 rfl)) (mvT hZ (ww hw 29 rfl)) (mvT hZ (ww hw 30 rfl)) (by decide) (backOf (W := 1) (rm3_5 l Z a0 hw [] x0 r7 T24.heap n0 o30 hc25 hc26 hc27 hc28 f29) hZ (ww hw 30 rfl) (ww hw 29 rfl) (by decide) (by decide)) (g := (mkF m 18 #[.val (.int x0), .val (.int x1), .val (.int (x1 &&& (7 : Int32))), .val (.ref r7), .val (.ref r8)] [(.int x0), (.ref r7)])) rfl (by rw [hml]; rfl) (argsL := [(.int x0)]) (rest := [(.ref r7)]) (lenOf pd__I_Lcom_example_wiregather_wiregather_wire_FieldType_ rfl) rfl (by show 2 * 0 + _ ≤ _; exact Nat.le_of_eq rfl) (hb hby at_18) (fun _ _ => ⟨rfl, rfl, (by decide : 2 + 0 ≤ _), (by decide : 12 + 0 ≤ _)⟩)
  dsimp only [Pt.U, Pt.locs, Pt.cells, Pt.slots] at X31 l31 y31 z31 st31 hQ31
  subst l31 y31 z31
  obtain ⟨rfl, N31q, E31⟩ := hQ31
  have N31 := Fr.app N24 N31q
  obtain ⟨_, _, ⟨T38, L38, k38, n38⟩, -, X38, ⟨Lc38, hQ38, l38, y38, z38⟩, st38⟩ := Jvm.LawKit.callS X31 hx (y := (⟨cs4, "expected", cs3⟩ : MethodName)) hown (mvT hZ (ww hw 27 rfl)) (mvT hZ (ww hw 28 rfl)) (mvT hZ (ww hw 29 rfl)) (mvT hZ (ww hw 30 rfl)) (by decide) (backOf (W := 1) (rm3_6 l Z a0 hw [] (x1 &&& (7 : Int32)) r8 T24.heap n0 o30 hc32 hc33 hc34 hc35 hc36 f37) hZ (ww hw 30 rfl) (ww hw 29 rfl) (by decide) (by decide)) (g := (mkF m 27 #[.val (.int x0), .val (.int x1), .val (.int (x1 &&& (7 : Int32))), .val (.ref r7), .val (.ref r8)] [(.int (x1 &&& (7 : Int32))), (.ref r8)])) rfl (by rw [hml]; rfl) (argsL := [(.int (x1 &&& (7 : Int32)))]) (rest := [(.ref r8)]) (lenOf pd__I_Lcom_example_wiregather_wiregather_wire_FieldType_ rfl) rfl (by show 2 * 0 + _ ≤ _; exact Nat.le_of_eq rfl) (hb hby at_27) (fun _ _ => ⟨rfl, E31, (by decide : 2 + 0 ≤ _), (by decide : 12 + 0 ≤ _)⟩)
  dsimp only [Pt.U, Pt.locs, Pt.cells, Pt.slots] at X38 l38 y38 z38 st38 hQ38
  subst l38 y38 z38
  obtain ⟨rfl, N38q, E38⟩ := hQ38
  have N38 := Fr.app N31 N38q
  obtain ⟨fs, hr, hrun, hended, hW, hsame⟩ := X38.leave (v := some (.int (1 : Int32))) (fun h => by rw [Bd.returns] at h; cases h)
  refine ⟨_, _, pre0 _ ?_, hrun, hended, _, _, rfl, ?_, ⟨_, rfl⟩, hW, hsame.mono (by decide) (by decide)⟩
  · show Steps p.tables e below (s₁.setTop (mkF m 0 #[.val (.int x0), .val (.int x1), .unset, .unset, .unset] [])) _
    refine XS.iloadN X0.here hx rfl (hb hby at_0) rfl ?_
    refine XS.bipush X0.here hx rfl (hb hby at_1) ?_
    refine XS.iand X0.here hx rfl (hb hby at_3) rfl ?_
    refine XS.istoreN X0.here hx rfl (hb hby at_4) rfl (l' := #[.val (.int x0), .val (.int x1), .val (.int (x1 &&& (7 : Int32))), .unset, .unset]) rfl ?_
    show Steps p.tables e below (s₁.setTop (mkF m 5 #[.val (.int x0), .val (.int x1), .val (.int (x1 &&& (7 : Int32))), .unset, .unset] [])) _
    refine XS.iloadN X0.here hx rfl (hb hby at_5) rfl ?_
    refine st16 _ ?_
    show Steps p.tables e below (T16.setTop (mkF m 9 #[.val (.int x0), .val (.int x1), .val (.int (x1 &&& (7 : Int32))), .unset, .unset] [(.ref r7)])) _
    refine XS.astoreN X16.here hx rfl (hb hby at_9) rfl rfl (l' := #[.val (.int x0), .val (.int x1), .val (.int (x1 &&& (7 : Int32))), .val (.ref r7), .unset]) rfl ?_
    refine XS.iloadN X16.here hx rfl (hb hby at_10) rfl ?_
    refine st24 _ ?_
    show Steps p.tables e below (T24.setTop (mkF m 14 #[.val (.int x0), .val (.int x1), .val (.int (x1 &&& (7 : Int32))), .val (.ref r7), .unset] [(.ref r8)])) _
    refine XS.astore X24.here hx rfl (hb hby at_14) rfl rfl (l' := #[.val (.int x0), .val (.int x1), .val (.int (x1 &&& (7 : Int32))), .val (.ref r7), .val (.ref r8)]) rfl ?_
    refine XS.aloadN X24.here hx rfl (hb hby at_16) rfl rfl ?_
    refine XS.iloadN X24.here hx rfl (hb hby at_17) rfl ?_
    refine st31 _ ?_
    show Steps p.tables e below (T31.setTop (mkF m 21 #[.val (.int x0), .val (.int x1), .val (.int (x1 &&& (7 : Int32))), .val (.ref r7), .val (.ref r8)] [(.ref r7), (.ref r7)])) _
    refine Jvm.RoadKit.acmp (g := (mkF m 21 #[.val (.int x0), .val (.int x1), .val (.int (x1 &&& (7 : Int32))), .val (.ref r7), .val (.ref r8)] [(.ref r7), (.ref r7)])) X31 hx rfl rfl rfl (pc0 := 21) (pc' := 24) (same := true) rfl (hb hby at_21) rfl (decide_eq_true rfl) (by decide) (by decide) ?_
    show Steps p.tables e below (T31.setTop (mkF m 24 #[.val (.int x0), .val (.int x1), .val (.int (x1 &&& (7 : Int32))), .val (.ref r7), .val (.ref r8)] [])) _
    refine XS.aload X31.here hx rfl (hb hby at_24) rfl rfl ?_
    refine XS.iloadN X31.here hx rfl (hb hby at_26) rfl ?_
    refine st38 _ ?_
    show Steps p.tables e below (T38.setTop (mkF m 30 #[.val (.int x0), .val (.int x1), .val (.int (x1 &&& (7 : Int32))), .val (.ref r7), .val (.ref r8)] [(.ref r8), (.ref r8)])) _
    refine Jvm.RoadKit.acmp (g := (mkF m 30 #[.val (.int x0), .val (.int x1), .val (.int (x1 &&& (7 : Int32))), .val (.ref r7), .val (.ref r8)] [(.ref r8), (.ref r8)])) X38 hx rfl rfl rfl (pc0 := 30) (pc' := 33) (same := true) rfl (hb hby at_30) rfl (decide_eq_true rfl) (by decide) (by decide) ?_
    show Steps p.tables e below (T38.setTop (mkF m 33 #[.val (.int x0), .val (.int x1), .val (.int (x1 &&& (7 : Int32))), .val (.ref r7), .val (.ref r8)] [])) _
    refine XS.iconst X38.here hx rfl (hb hby at_33) ?_
    refine XS.goto X38.here hx rfl (pc0 := 34) (pc' := 38) rfl (hb hby at_34) (by decide) (by decide) ?_
    show Steps p.tables e below (T38.setTop (mkF m 38 #[.val (.int x0), .val (.int x1), .val (.int (x1 &&& (7 : Int32))), .val (.ref r7), .val (.ref r8)] [(.int (1 : Int32))])) _
    exact retN X38 hx (t := .boolean) Bd.returns (by simp) (hb hby at_38) hr
  · show Q0_27 Z x0 x1 r2 c3 r4 r5 r6 r7 r8 r9 h0 n0 _ T38.heap _
    rw [E38]
    exact ⟨rfl, N38⟩
def Q0_28 (Z : State) (x0 : Int32) (x1 : Int32) (r2 : Addr) (c3 : ClassId) (r4 : Addr) (r5 : Addr) (r6 : Addr) (r7 : Addr) (r8 : Addr) (r9 : Addr) (h0 : Heap) (n0 : Nat) (v : Option Value) (h : Heap) (L : List Loc) : Prop := v = some (.int (1 : Int32)) ∧ Fr n0 L
set_option maxRecDepth 65536 in
set_option maxHeartbeats 40000000 in
theorem rm0_28 (l : Launch) (Z : State) (a0 : Array Value) (hw : ∀ d ∈ tables_1, d.before a0 Z = true) (ws : List Jvm.Cond) (x0 : Int32) (x1 : Int32) (r2 : Addr) (c3 : ClassId) (r4 : Addr) (r5 : Addr) (r6 : Addr) (r7 : Addr) (r8 : Addr) (r9 : Addr) (h0 : Heap) (n0 : Nat) (O0 : Old Z n0 h0) (f1 : Sta Z Z.heap cs0 "$VALUES" cs1 (.ref r2)) (f2 : Exa Z Z.heap r2 cs1) (f3 : Arv Z Z.heap r2 c3 (.object cs0) (6 : Int32) [(.ref r4), (.ref r5), (.ref r6), (.ref r7), (.ref r8), (.ref r9)] .null) (f4 : Fld Z Z.heap r4 cs0 "code" "I" (.int (1 : Int32))) (hc5 : ¬ ((1 : Int32) = x0)) (f6 : Fld Z Z.heap r5 cs0 "code" "I" (.int (2 : Int32))) (hc7 : ¬ ((2 : Int32) = x0)) (f8 : Fld Z Z.heap r6 cs0 "code" "I" (.int (3 : Int32))) (hc9 : ¬ ((3 : Int32) = x0)) (f10 : Fld Z Z.heap r7 cs0 "code" "I" (.int (4 : Int32))) (hc11 : (4 : Int32) = x0) (f12 : Fld Z Z.heap r8 cs0 "code" "I" (.int (5 : Int32))) (hc13 : ¬ ((5 : Int32) = x0)) (f14 : Fld Z Z.heap r9 cs0 "code" "I" (.int (6 : Int32))) (hc15 : ¬ ((6 : Int32) = x0)) (hc17 : ¬ ((1 : Int32) = (x1 &&& (7 : Int32)))) (hc18 : ¬ ((2 : Int32) = (x1 &&& (7 : Int32)))) (hc19 : ¬ ((3 : Int32) = (x1 &&& (7 : Int32)))) (hc20 : ¬ ((4 : Int32) = (x1 &&& (7 : Int32)))) (hc21 : ¬ ((5 : Int32) = (x1 &&& (7 : Int32)))) (hc22 : (6 : Int32) = (x1 &&& (7 : Int32))) (hc25 : ¬ (x0 = (1 : Int32))) (hc26 : ¬ (x0 = (2 : Int32))) (hc27 : ¬ (x0 = (3 : Int32))) (hc28 : x0 = (4 : Int32)) (f29 : Sta Z Z.heap cs0 "F64" cs5 (.ref r7)) (hc32 : ¬ ((x1 &&& (7 : Int32)) = (1 : Int32))) (hc33 : ¬ ((x1 &&& (7 : Int32)) = (2 : Int32))) (hc34 : ¬ ((x1 &&& (7 : Int32)) = (3 : Int32))) (hc35 : ¬ ((x1 &&& (7 : Int32)) = (4 : Int32))) (hc36 : ¬ ((x1 &&& (7 : Int32)) = (5 : Int32))) (hc37 : (x1 &&& (7 : Int32)) = (6 : Int32)) (f38 : Sta Z Z.heap cs0 "GUID" cs5 (.ref r9)) :
    MetFree l x (head1 (Jvm.Cond.code x code maxLocals ret :: ws) room_1) (fun a U => a = #[(.int x0), (.int x1)] ∧ Z.Warmed39 U.vm ∧ U.heap = h0) (fun _ _ _ _ _ => True) (fun _ U o U' => ∃ v L, o = .returned v ∧ Q0_28 Z x0 x1 r2 c3 r4 r5 r6 r7 r8 r9 h0 n0 v U'.heap L ∧ FrameEnd U o U' L room_1.cells room_1.slots) := by
  refine MetFree.of_bodySF (plainFor_of_name pn_com_example_wiregather_wiregather_wire_FieldTypeOfCodePinLaw) hisR ?_
  intro p e s m args below meth c s₁ Bd hml0 hP hK
  obtain ⟨rfl, hZ, hh⟩ := hP
  have hx := Bd.exec
  have hby := Bd.bytes
  have hml : c.maxLocals = 5 := hml0
  have hown : s.vm.findClass cs4 = some m.cls := findClass_of_methodNamed Bd.named
  have hnm := (name_of_methodNamed Bd.named Bd.method).1
  have X0 : Stand p l e room_1 s m #[(.int x0), (.int x1)] below meth c s₁ [] 0 0 := Stand.of_body Bd
  have e0 : s₁.heap = h0 := by rw [← hh, Bd.state]; rfl
  have N0 := Fr.nil n0
  have pre0 : ∀ t, Steps p.tables e below (s₁.setTop (mkF m 0 #[.val (.int x0), .val (.int x1), .unset, .unset, .unset] [])) t → Steps p.tables e below (s₁.setTop (entryFrame m #[(.int x0), (.int x1)] maxLocals)) t := fun t k => castTop (by first | (simp [entryFrame, mkF, argsToLocals, Value.category, maxLocals]; done) | rfl) k
  obtain ⟨_, _, ⟨T16, L16, k16, n16⟩, -, X16, ⟨Lc16, hQ16, l16, y16, z16⟩, st16⟩ := Jvm.LawKit.callS X0 hx (y := (⟨cs0, "ofCode", cs3⟩ : MethodName)) hown (mvT hZ (ww hw 0 rfl)) (mvT hZ (ww hw 1 rfl)) (mvT hZ (ww hw 2 rfl)) (mvT hZ (ww hw 3 rfl)) (by decide) (backOf (W := 0) (rm1_5 l Z a0 hw [] x0 r2 c3 r4 r5 r6 r7 r8 r9 h0 n0 O0 f1 f2 f3 f4 hc5 f6 hc7 f8 hc9 f10 hc11 f12 hc13 f14 hc15) hZ (ww hw 3 rfl) (ww hw 2 rfl) (by decide) (by decide)) (g := (mkF m 6 #[.val (.int x0), .val (.int x1), .val (.int (x1 &&& (7 : Int32))), .unset, .unset] [(.int x0)])) rfl (by rw [hml]; rfl) (argsL := [(.int x0)]) (rest := []) (lenOf pd__I_Lcom_example_wiregather_wiregather_wire_FieldType_ rfl) rfl (by show 2 * 0 + _ ≤ _; exact Nat.le_of_eq rfl) (hb hby at_6) (fun _ _ => ⟨rfl, e0, (by decide : 0 + 1 ≤ _), (by decide : 0 + 6 ≤ _)⟩)
  dsimp only [Pt.U, Pt.locs, Pt.cells, Pt.slots] at X16 l16 y16 z16 st16 hQ16
  subst l16 y16 z16
  obtain ⟨rfl, N16q, K16⟩ := hQ16
  have N16 := Fr.app N0 N16q
  have o23 := Old.keep O0 K16 all0
  obtain ⟨_, _, ⟨T24, L24, k24, n24⟩, -, X24, ⟨Lc24, hQ24, l24, y24, z24⟩, st24⟩ := Jvm.LawKit.callS X16 hx (y := (⟨cs0, "ofCode", cs3⟩ : MethodName)) hown (mvT hZ (ww hw 0 rfl)) (mvT hZ (ww hw 1 rfl)) (mvT hZ (ww hw 2 rfl)) (mvT hZ (ww hw 3 rfl)) (by decide) (backOf (W := 0) (rm1_7 l Z a0 hw [] (x1 &&& (7 : Int32)) r2 c3 r4 r5 r6 r7 r8 r9 T16.heap n0 o23 f1 f2 f3 f4 hc17 f6 hc18 f8 hc19 f10 hc20 f12 hc21 f14 hc22) hZ (ww hw 3 rfl) (ww hw 2 rfl) (by decide) (by decide)) (g := (mkF m 11 #[.val (.int x0), .val (.int x1), .val (.int (x1 &&& (7 : Int32))), .val (.ref r7), .unset] [(.int (x1 &&& (7 : Int32)))])) rfl (by rw [hml]; rfl) (argsL := [(.int (x1 &&& (7 : Int32)))]) (rest := []) (lenOf pd__I_Lcom_example_wiregather_wiregather_wire_FieldType_ rfl) rfl (by show 2 * 0 + _ ≤ _; exact Nat.le_of_eq rfl) (hb hby at_11) (fun _ _ => ⟨rfl, rfl, (by decide : 1 + 1 ≤ _), (by decide : 6 + 6 ≤ _)⟩)
  dsimp only [Pt.U, Pt.locs, Pt.cells, Pt.slots] at X24 l24 y24 z24 st24 hQ24
  subst l24 y24 z24
  obtain ⟨rfl, N24q, K24⟩ := hQ24
  have N24 := Fr.app N16 N24q
  have o30 := Old.keep o23 K24 all0
  obtain ⟨_, _, ⟨T31, L31, k31, n31⟩, -, X31, ⟨Lc31, hQ31, l31, y31, z31⟩, st31⟩ := Jvm.LawKit.callS X24 hx (y := (⟨cs4, "expected", cs3⟩ : MethodName)) hown (mvT hZ (ww hw 27 rfl)) (mvT hZ (ww hw 28 rfl)) (mvT hZ (ww hw 29 rfl)) (mvT hZ (ww hw 30 rfl)) (by decide) (backOf (W := 1) (rm3_5 l Z a0 hw [] x0 r7 T24.heap n0 o30 hc25 hc26 hc27 hc28 f29) hZ (ww hw 30 rfl) (ww hw 29 rfl) (by decide) (by decide)) (g := (mkF m 18 #[.val (.int x0), .val (.int x1), .val (.int (x1 &&& (7 : Int32))), .val (.ref r7), .val (.ref r9)] [(.int x0), (.ref r7)])) rfl (by rw [hml]; rfl) (argsL := [(.int x0)]) (rest := [(.ref r7)]) (lenOf pd__I_Lcom_example_wiregather_wiregather_wire_FieldType_ rfl) rfl (by show 2 * 0 + _ ≤ _; exact Nat.le_of_eq rfl) (hb hby at_18) (fun _ _ => ⟨rfl, rfl, (by decide : 2 + 0 ≤ _), (by decide : 12 + 0 ≤ _)⟩)
  dsimp only [Pt.U, Pt.locs, Pt.cells, Pt.slots] at X31 l31 y31 z31 st31 hQ31
  subst l31 y31 z31
  obtain ⟨rfl, N31q, E31⟩ := hQ31
  have N31 := Fr.app N24 N31q
  obtain ⟨_, _, ⟨T39, L39, k39, n39⟩, -, X39, ⟨Lc39, hQ39, l39, y39, z39⟩, st39⟩ := Jvm.LawKit.callS X31 hx (y := (⟨cs4, "expected", cs3⟩ : MethodName)) hown (mvT hZ (ww hw 27 rfl)) (mvT hZ (ww hw 28 rfl)) (mvT hZ (ww hw 29 rfl)) (mvT hZ (ww hw 30 rfl)) (by decide) (backOf (W := 1) (rm3_7 l Z a0 hw [] (x1 &&& (7 : Int32)) r9 T24.heap n0 o30 hc32 hc33 hc34 hc35 hc36 hc37 f38) hZ (ww hw 30 rfl) (ww hw 29 rfl) (by decide) (by decide)) (g := (mkF m 27 #[.val (.int x0), .val (.int x1), .val (.int (x1 &&& (7 : Int32))), .val (.ref r7), .val (.ref r9)] [(.int (x1 &&& (7 : Int32))), (.ref r9)])) rfl (by rw [hml]; rfl) (argsL := [(.int (x1 &&& (7 : Int32)))]) (rest := [(.ref r9)]) (lenOf pd__I_Lcom_example_wiregather_wiregather_wire_FieldType_ rfl) rfl (by show 2 * 0 + _ ≤ _; exact Nat.le_of_eq rfl) (hb hby at_27) (fun _ _ => ⟨rfl, E31, (by decide : 2 + 0 ≤ _), (by decide : 12 + 0 ≤ _)⟩)
  dsimp only [Pt.U, Pt.locs, Pt.cells, Pt.slots] at X39 l39 y39 z39 st39 hQ39
  subst l39 y39 z39
  obtain ⟨rfl, N39q, E39⟩ := hQ39
  have N39 := Fr.app N31 N39q
  obtain ⟨fs, hr, hrun, hended, hW, hsame⟩ := X39.leave (v := some (.int (1 : Int32))) (fun h => by rw [Bd.returns] at h; cases h)
  refine ⟨_, _, pre0 _ ?_, hrun, hended, _, _, rfl, ?_, ⟨_, rfl⟩, hW, hsame.mono (by decide) (by decide)⟩
  · show Steps p.tables e below (s₁.setTop (mkF m 0 #[.val (.int x0), .val (.int x1), .unset, .unset, .unset] [])) _
    refine XS.iloadN X0.here hx rfl (hb hby at_0) rfl ?_
    refine XS.bipush X0.here hx rfl (hb hby at_1) ?_
    refine XS.iand X0.here hx rfl (hb hby at_3) rfl ?_
    refine XS.istoreN X0.here hx rfl (hb hby at_4) rfl (l' := #[.val (.int x0), .val (.int x1), .val (.int (x1 &&& (7 : Int32))), .unset, .unset]) rfl ?_
    show Steps p.tables e below (s₁.setTop (mkF m 5 #[.val (.int x0), .val (.int x1), .val (.int (x1 &&& (7 : Int32))), .unset, .unset] [])) _
    refine XS.iloadN X0.here hx rfl (hb hby at_5) rfl ?_
    refine st16 _ ?_
    show Steps p.tables e below (T16.setTop (mkF m 9 #[.val (.int x0), .val (.int x1), .val (.int (x1 &&& (7 : Int32))), .unset, .unset] [(.ref r7)])) _
    refine XS.astoreN X16.here hx rfl (hb hby at_9) rfl rfl (l' := #[.val (.int x0), .val (.int x1), .val (.int (x1 &&& (7 : Int32))), .val (.ref r7), .unset]) rfl ?_
    refine XS.iloadN X16.here hx rfl (hb hby at_10) rfl ?_
    refine st24 _ ?_
    show Steps p.tables e below (T24.setTop (mkF m 14 #[.val (.int x0), .val (.int x1), .val (.int (x1 &&& (7 : Int32))), .val (.ref r7), .unset] [(.ref r9)])) _
    refine XS.astore X24.here hx rfl (hb hby at_14) rfl rfl (l' := #[.val (.int x0), .val (.int x1), .val (.int (x1 &&& (7 : Int32))), .val (.ref r7), .val (.ref r9)]) rfl ?_
    refine XS.aloadN X24.here hx rfl (hb hby at_16) rfl rfl ?_
    refine XS.iloadN X24.here hx rfl (hb hby at_17) rfl ?_
    refine st31 _ ?_
    show Steps p.tables e below (T31.setTop (mkF m 21 #[.val (.int x0), .val (.int x1), .val (.int (x1 &&& (7 : Int32))), .val (.ref r7), .val (.ref r9)] [(.ref r7), (.ref r7)])) _
    refine Jvm.RoadKit.acmp (g := (mkF m 21 #[.val (.int x0), .val (.int x1), .val (.int (x1 &&& (7 : Int32))), .val (.ref r7), .val (.ref r9)] [(.ref r7), (.ref r7)])) X31 hx rfl rfl rfl (pc0 := 21) (pc' := 24) (same := true) rfl (hb hby at_21) rfl (decide_eq_true rfl) (by decide) (by decide) ?_
    show Steps p.tables e below (T31.setTop (mkF m 24 #[.val (.int x0), .val (.int x1), .val (.int (x1 &&& (7 : Int32))), .val (.ref r7), .val (.ref r9)] [])) _
    refine XS.aload X31.here hx rfl (hb hby at_24) rfl rfl ?_
    refine XS.iloadN X31.here hx rfl (hb hby at_26) rfl ?_
    refine st39 _ ?_
    show Steps p.tables e below (T39.setTop (mkF m 30 #[.val (.int x0), .val (.int x1), .val (.int (x1 &&& (7 : Int32))), .val (.ref r7), .val (.ref r9)] [(.ref r9), (.ref r9)])) _
    refine Jvm.RoadKit.acmp (g := (mkF m 30 #[.val (.int x0), .val (.int x1), .val (.int (x1 &&& (7 : Int32))), .val (.ref r7), .val (.ref r9)] [(.ref r9), (.ref r9)])) X39 hx rfl rfl rfl (pc0 := 30) (pc' := 33) (same := true) rfl (hb hby at_30) rfl (decide_eq_true rfl) (by decide) (by decide) ?_
    show Steps p.tables e below (T39.setTop (mkF m 33 #[.val (.int x0), .val (.int x1), .val (.int (x1 &&& (7 : Int32))), .val (.ref r7), .val (.ref r9)] [])) _
    refine XS.iconst X39.here hx rfl (hb hby at_33) ?_
    refine XS.goto X39.here hx rfl (pc0 := 34) (pc' := 38) rfl (hb hby at_34) (by decide) (by decide) ?_
    show Steps p.tables e below (T39.setTop (mkF m 38 #[.val (.int x0), .val (.int x1), .val (.int (x1 &&& (7 : Int32))), .val (.ref r7), .val (.ref r9)] [(.int (1 : Int32))])) _
    exact retN X39 hx (t := .boolean) Bd.returns (by simp) (hb hby at_38) hr
  · show Q0_28 Z x0 x1 r2 c3 r4 r5 r6 r7 r8 r9 h0 n0 _ T39.heap _
    rw [E39]
    exact ⟨rfl, N39⟩
def Q0_29 (Z : State) (x0 : Int32) (x1 : Int32) (r2 : Addr) (c3 : ClassId) (r4 : Addr) (r5 : Addr) (r6 : Addr) (r7 : Addr) (r8 : Addr) (r9 : Addr) (h0 : Heap) (n0 : Nat) (v : Option Value) (h : Heap) (L : List Loc) : Prop := v = some (.int (1 : Int32)) ∧ Fr n0 L
set_option maxRecDepth 65536 in
set_option maxHeartbeats 40000000 in
theorem rm0_29 (l : Launch) (Z : State) (a0 : Array Value) (hw : ∀ d ∈ tables_1, d.before a0 Z = true) (ws : List Jvm.Cond) (x0 : Int32) (x1 : Int32) (r2 : Addr) (c3 : ClassId) (r4 : Addr) (r5 : Addr) (r6 : Addr) (r7 : Addr) (r8 : Addr) (r9 : Addr) (h0 : Heap) (n0 : Nat) (O0 : Old Z n0 h0) (f1 : Sta Z Z.heap cs0 "$VALUES" cs1 (.ref r2)) (f2 : Exa Z Z.heap r2 cs1) (f3 : Arv Z Z.heap r2 c3 (.object cs0) (6 : Int32) [(.ref r4), (.ref r5), (.ref r6), (.ref r7), (.ref r8), (.ref r9)] .null) (f4 : Fld Z Z.heap r4 cs0 "code" "I" (.int (1 : Int32))) (hc5 : ¬ ((1 : Int32) = x0)) (f6 : Fld Z Z.heap r5 cs0 "code" "I" (.int (2 : Int32))) (hc7 : ¬ ((2 : Int32) = x0)) (f8 : Fld Z Z.heap r6 cs0 "code" "I" (.int (3 : Int32))) (hc9 : ¬ ((3 : Int32) = x0)) (f10 : Fld Z Z.heap r7 cs0 "code" "I" (.int (4 : Int32))) (hc11 : ¬ ((4 : Int32) = x0)) (f12 : Fld Z Z.heap r8 cs0 "code" "I" (.int (5 : Int32))) (hc13 : (5 : Int32) = x0) (f14 : Fld Z Z.heap r9 cs0 "code" "I" (.int (6 : Int32))) (hc15 : ¬ ((6 : Int32) = x0)) (hc17 : ¬ ((1 : Int32) = (x1 &&& (7 : Int32)))) (hc18 : ¬ ((2 : Int32) = (x1 &&& (7 : Int32)))) (hc19 : ¬ ((3 : Int32) = (x1 &&& (7 : Int32)))) (hc20 : ¬ ((4 : Int32) = (x1 &&& (7 : Int32)))) (hc21 : ¬ ((5 : Int32) = (x1 &&& (7 : Int32)))) (hc22 : ¬ ((6 : Int32) = (x1 &&& (7 : Int32)))) (hc25 : ¬ (x0 = (1 : Int32))) (hc26 : ¬ (x0 = (2 : Int32))) (hc27 : ¬ (x0 = (3 : Int32))) (hc28 : ¬ (x0 = (4 : Int32))) (hc29 : x0 = (5 : Int32)) (f30 : Sta Z Z.heap cs0 "TEXT" cs5 (.ref r8)) (hc33 : ¬ ((x1 &&& (7 : Int32)) = (1 : Int32))) (hc34 : ¬ ((x1 &&& (7 : Int32)) = (2 : Int32))) (hc35 : ¬ ((x1 &&& (7 : Int32)) = (3 : Int32))) (hc36 : ¬ ((x1 &&& (7 : Int32)) = (4 : Int32))) (hc37 : ¬ ((x1 &&& (7 : Int32)) = (5 : Int32))) (hc38 : ¬ ((x1 &&& (7 : Int32)) = (6 : Int32))) :
    MetFree l x (head1 (Jvm.Cond.code x code maxLocals ret :: ws) room_1) (fun a U => a = #[(.int x0), (.int x1)] ∧ Z.Warmed39 U.vm ∧ U.heap = h0) (fun _ _ _ _ _ => True) (fun _ U o U' => ∃ v L, o = .returned v ∧ Q0_29 Z x0 x1 r2 c3 r4 r5 r6 r7 r8 r9 h0 n0 v U'.heap L ∧ FrameEnd U o U' L room_1.cells room_1.slots) := by
  refine MetFree.of_bodySF (plainFor_of_name pn_com_example_wiregather_wiregather_wire_FieldTypeOfCodePinLaw) hisR ?_
  intro p e s m args below meth c s₁ Bd hml0 hP hK
  obtain ⟨rfl, hZ, hh⟩ := hP
  have hx := Bd.exec
  have hby := Bd.bytes
  have hml : c.maxLocals = 5 := hml0
  have hown : s.vm.findClass cs4 = some m.cls := findClass_of_methodNamed Bd.named
  have hnm := (name_of_methodNamed Bd.named Bd.method).1
  have X0 : Stand p l e room_1 s m #[(.int x0), (.int x1)] below meth c s₁ [] 0 0 := Stand.of_body Bd
  have e0 : s₁.heap = h0 := by rw [← hh, Bd.state]; rfl
  have N0 := Fr.nil n0
  have pre0 : ∀ t, Steps p.tables e below (s₁.setTop (mkF m 0 #[.val (.int x0), .val (.int x1), .unset, .unset, .unset] [])) t → Steps p.tables e below (s₁.setTop (entryFrame m #[(.int x0), (.int x1)] maxLocals)) t := fun t k => castTop (by first | (simp [entryFrame, mkF, argsToLocals, Value.category, maxLocals]; done) | rfl) k
  obtain ⟨_, _, ⟨T16, L16, k16, n16⟩, -, X16, ⟨Lc16, hQ16, l16, y16, z16⟩, st16⟩ := Jvm.LawKit.callS X0 hx (y := (⟨cs0, "ofCode", cs3⟩ : MethodName)) hown (mvT hZ (ww hw 0 rfl)) (mvT hZ (ww hw 1 rfl)) (mvT hZ (ww hw 2 rfl)) (mvT hZ (ww hw 3 rfl)) (by decide) (backOf (W := 0) (rm1_6 l Z a0 hw [] x0 r2 c3 r4 r5 r6 r7 r8 r9 h0 n0 O0 f1 f2 f3 f4 hc5 f6 hc7 f8 hc9 f10 hc11 f12 hc13 f14 hc15) hZ (ww hw 3 rfl) (ww hw 2 rfl) (by decide) (by decide)) (g := (mkF m 6 #[.val (.int x0), .val (.int x1), .val (.int (x1 &&& (7 : Int32))), .unset, .unset] [(.int x0)])) rfl (by rw [hml]; rfl) (argsL := [(.int x0)]) (rest := []) (lenOf pd__I_Lcom_example_wiregather_wiregather_wire_FieldType_ rfl) rfl (by show 2 * 0 + _ ≤ _; exact Nat.le_of_eq rfl) (hb hby at_6) (fun _ _ => ⟨rfl, e0, (by decide : 0 + 1 ≤ _), (by decide : 0 + 6 ≤ _)⟩)
  dsimp only [Pt.U, Pt.locs, Pt.cells, Pt.slots] at X16 l16 y16 z16 st16 hQ16
  subst l16 y16 z16
  obtain ⟨rfl, N16q, K16⟩ := hQ16
  have N16 := Fr.app N0 N16q
  have o23 := Old.keep O0 K16 all0
  obtain ⟨_, _, ⟨T24, L24, k24, n24⟩, -, X24, ⟨Lc24, hQ24, l24, y24, z24⟩, st24⟩ := Jvm.LawKit.callS X16 hx (y := (⟨cs0, "ofCode", cs3⟩ : MethodName)) hown (mvT hZ (ww hw 0 rfl)) (mvT hZ (ww hw 1 rfl)) (mvT hZ (ww hw 2 rfl)) (mvT hZ (ww hw 3 rfl)) (by decide) (backOf (W := 0) (rm1_2 l Z a0 hw [] (x1 &&& (7 : Int32)) r2 c3 r4 r5 r6 r7 r8 r9 T16.heap n0 o23 f1 f2 f3 f4 hc17 f6 hc18 f8 hc19 f10 hc20 f12 hc21 f14 hc22) hZ (ww hw 3 rfl) (ww hw 2 rfl) (by decide) (by decide)) (g := (mkF m 11 #[.val (.int x0), .val (.int x1), .val (.int (x1 &&& (7 : Int32))), .val (.ref r8), .unset] [(.int (x1 &&& (7 : Int32)))])) rfl (by rw [hml]; rfl) (argsL := [(.int (x1 &&& (7 : Int32)))]) (rest := []) (lenOf pd__I_Lcom_example_wiregather_wiregather_wire_FieldType_ rfl) rfl (by show 2 * 0 + _ ≤ _; exact Nat.le_of_eq rfl) (hb hby at_11) (fun _ _ => ⟨rfl, rfl, (by decide : 1 + 1 ≤ _), (by decide : 6 + 6 ≤ _)⟩)
  dsimp only [Pt.U, Pt.locs, Pt.cells, Pt.slots] at X24 l24 y24 z24 st24 hQ24
  subst l24 y24 z24
  obtain ⟨rfl, N24q, K24⟩ := hQ24
  have N24 := Fr.app N16 N24q
  have o31 := Old.keep o23 K24 all0
  obtain ⟨_, _, ⟨T32, L32, k32, n32⟩, -, X32, ⟨Lc32, hQ32, l32, y32, z32⟩, st32⟩ := Jvm.LawKit.callS X24 hx (y := (⟨cs4, "expected", cs3⟩ : MethodName)) hown (mvT hZ (ww hw 27 rfl)) (mvT hZ (ww hw 28 rfl)) (mvT hZ (ww hw 29 rfl)) (mvT hZ (ww hw 30 rfl)) (by decide) (backOf (W := 1) (rm3_6 l Z a0 hw [] x0 r8 T24.heap n0 o31 hc25 hc26 hc27 hc28 hc29 f30) hZ (ww hw 30 rfl) (ww hw 29 rfl) (by decide) (by decide)) (g := (mkF m 18 #[.val (.int x0), .val (.int x1), .val (.int (x1 &&& (7 : Int32))), .val (.ref r8), .val .null] [(.int x0), (.ref r8)])) rfl (by rw [hml]; rfl) (argsL := [(.int x0)]) (rest := [(.ref r8)]) (lenOf pd__I_Lcom_example_wiregather_wiregather_wire_FieldType_ rfl) rfl (by show 2 * 0 + _ ≤ _; exact Nat.le_of_eq rfl) (hb hby at_18) (fun _ _ => ⟨rfl, rfl, (by decide : 2 + 0 ≤ _), (by decide : 12 + 0 ≤ _)⟩)
  dsimp only [Pt.U, Pt.locs, Pt.cells, Pt.slots] at X32 l32 y32 z32 st32 hQ32
  subst l32 y32 z32
  obtain ⟨rfl, N32q, E32⟩ := hQ32
  have N32 := Fr.app N24 N32q
  obtain ⟨_, _, ⟨T39, L39, k39, n39⟩, -, X39, ⟨Lc39, hQ39, l39, y39, z39⟩, st39⟩ := Jvm.LawKit.callS X32 hx (y := (⟨cs4, "expected", cs3⟩ : MethodName)) hown (mvT hZ (ww hw 27 rfl)) (mvT hZ (ww hw 28 rfl)) (mvT hZ (ww hw 29 rfl)) (mvT hZ (ww hw 30 rfl)) (by decide) (backOf (W := 1) (rm3_2 l Z a0 hw [] (x1 &&& (7 : Int32)) T24.heap n0 o31 hc33 hc34 hc35 hc36 hc37 hc38) hZ (ww hw 30 rfl) (ww hw 29 rfl) (by decide) (by decide)) (g := (mkF m 27 #[.val (.int x0), .val (.int x1), .val (.int (x1 &&& (7 : Int32))), .val (.ref r8), .val .null] [(.int (x1 &&& (7 : Int32))), .null])) rfl (by rw [hml]; rfl) (argsL := [(.int (x1 &&& (7 : Int32)))]) (rest := [.null]) (lenOf pd__I_Lcom_example_wiregather_wiregather_wire_FieldType_ rfl) rfl (by show 2 * 0 + _ ≤ _; exact Nat.le_of_eq rfl) (hb hby at_27) (fun _ _ => ⟨rfl, E32, (by decide : 2 + 0 ≤ _), (by decide : 12 + 0 ≤ _)⟩)
  dsimp only [Pt.U, Pt.locs, Pt.cells, Pt.slots] at X39 l39 y39 z39 st39 hQ39
  subst l39 y39 z39
  obtain ⟨rfl, N39q, E39⟩ := hQ39
  have N39 := Fr.app N32 N39q
  obtain ⟨fs, hr, hrun, hended, hW, hsame⟩ := X39.leave (v := some (.int (1 : Int32))) (fun h => by rw [Bd.returns] at h; cases h)
  refine ⟨_, _, pre0 _ ?_, hrun, hended, _, _, rfl, ?_, ⟨_, rfl⟩, hW, hsame.mono (by decide) (by decide)⟩
  · show Steps p.tables e below (s₁.setTop (mkF m 0 #[.val (.int x0), .val (.int x1), .unset, .unset, .unset] [])) _
    refine XS.iloadN X0.here hx rfl (hb hby at_0) rfl ?_
    refine XS.bipush X0.here hx rfl (hb hby at_1) ?_
    refine XS.iand X0.here hx rfl (hb hby at_3) rfl ?_
    refine XS.istoreN X0.here hx rfl (hb hby at_4) rfl (l' := #[.val (.int x0), .val (.int x1), .val (.int (x1 &&& (7 : Int32))), .unset, .unset]) rfl ?_
    show Steps p.tables e below (s₁.setTop (mkF m 5 #[.val (.int x0), .val (.int x1), .val (.int (x1 &&& (7 : Int32))), .unset, .unset] [])) _
    refine XS.iloadN X0.here hx rfl (hb hby at_5) rfl ?_
    refine st16 _ ?_
    show Steps p.tables e below (T16.setTop (mkF m 9 #[.val (.int x0), .val (.int x1), .val (.int (x1 &&& (7 : Int32))), .unset, .unset] [(.ref r8)])) _
    refine XS.astoreN X16.here hx rfl (hb hby at_9) rfl rfl (l' := #[.val (.int x0), .val (.int x1), .val (.int (x1 &&& (7 : Int32))), .val (.ref r8), .unset]) rfl ?_
    refine XS.iloadN X16.here hx rfl (hb hby at_10) rfl ?_
    refine st24 _ ?_
    show Steps p.tables e below (T24.setTop (mkF m 14 #[.val (.int x0), .val (.int x1), .val (.int (x1 &&& (7 : Int32))), .val (.ref r8), .unset] [.null])) _
    refine XS.astore X24.here hx rfl (hb hby at_14) rfl rfl (l' := #[.val (.int x0), .val (.int x1), .val (.int (x1 &&& (7 : Int32))), .val (.ref r8), .val .null]) rfl ?_
    refine XS.aloadN X24.here hx rfl (hb hby at_16) rfl rfl ?_
    refine XS.iloadN X24.here hx rfl (hb hby at_17) rfl ?_
    refine st32 _ ?_
    show Steps p.tables e below (T32.setTop (mkF m 21 #[.val (.int x0), .val (.int x1), .val (.int (x1 &&& (7 : Int32))), .val (.ref r8), .val .null] [(.ref r8), (.ref r8)])) _
    refine Jvm.RoadKit.acmp (g := (mkF m 21 #[.val (.int x0), .val (.int x1), .val (.int (x1 &&& (7 : Int32))), .val (.ref r8), .val .null] [(.ref r8), (.ref r8)])) X32 hx rfl rfl rfl (pc0 := 21) (pc' := 24) (same := true) rfl (hb hby at_21) rfl (decide_eq_true rfl) (by decide) (by decide) ?_
    show Steps p.tables e below (T32.setTop (mkF m 24 #[.val (.int x0), .val (.int x1), .val (.int (x1 &&& (7 : Int32))), .val (.ref r8), .val .null] [])) _
    refine XS.aload X32.here hx rfl (hb hby at_24) rfl rfl ?_
    refine XS.iloadN X32.here hx rfl (hb hby at_26) rfl ?_
    refine st39 _ ?_
    show Steps p.tables e below (T39.setTop (mkF m 30 #[.val (.int x0), .val (.int x1), .val (.int (x1 &&& (7 : Int32))), .val (.ref r8), .val .null] [.null, .null])) _
    refine Jvm.RoadKit.acmp (g := (mkF m 30 #[.val (.int x0), .val (.int x1), .val (.int (x1 &&& (7 : Int32))), .val (.ref r8), .val .null] [.null, .null])) X39 hx rfl rfl rfl (pc0 := 30) (pc' := 33) (same := true) rfl (hb hby at_30) rfl (decide_eq_true rfl) (by decide) (by decide) ?_
    show Steps p.tables e below (T39.setTop (mkF m 33 #[.val (.int x0), .val (.int x1), .val (.int (x1 &&& (7 : Int32))), .val (.ref r8), .val .null] [])) _
    refine XS.iconst X39.here hx rfl (hb hby at_33) ?_
    refine XS.goto X39.here hx rfl (pc0 := 34) (pc' := 38) rfl (hb hby at_34) (by decide) (by decide) ?_
    show Steps p.tables e below (T39.setTop (mkF m 38 #[.val (.int x0), .val (.int x1), .val (.int (x1 &&& (7 : Int32))), .val (.ref r8), .val .null] [(.int (1 : Int32))])) _
    exact retN X39 hx (t := .boolean) Bd.returns (by simp) (hb hby at_38) hr
  · show Q0_29 Z x0 x1 r2 c3 r4 r5 r6 r7 r8 r9 h0 n0 _ T39.heap _
    rw [E39]
    exact ⟨rfl, N39⟩
def Q0_30 (Z : State) (x0 : Int32) (x1 : Int32) (r2 : Addr) (c3 : ClassId) (r4 : Addr) (r5 : Addr) (r6 : Addr) (r7 : Addr) (r8 : Addr) (r9 : Addr) (h0 : Heap) (n0 : Nat) (v : Option Value) (h : Heap) (L : List Loc) : Prop := v = some (.int (1 : Int32)) ∧ Fr n0 L
set_option maxRecDepth 65536 in
set_option maxHeartbeats 40000000 in
theorem rm0_30 (l : Launch) (Z : State) (a0 : Array Value) (hw : ∀ d ∈ tables_1, d.before a0 Z = true) (ws : List Jvm.Cond) (x0 : Int32) (x1 : Int32) (r2 : Addr) (c3 : ClassId) (r4 : Addr) (r5 : Addr) (r6 : Addr) (r7 : Addr) (r8 : Addr) (r9 : Addr) (h0 : Heap) (n0 : Nat) (O0 : Old Z n0 h0) (f1 : Sta Z Z.heap cs0 "$VALUES" cs1 (.ref r2)) (f2 : Exa Z Z.heap r2 cs1) (f3 : Arv Z Z.heap r2 c3 (.object cs0) (6 : Int32) [(.ref r4), (.ref r5), (.ref r6), (.ref r7), (.ref r8), (.ref r9)] .null) (f4 : Fld Z Z.heap r4 cs0 "code" "I" (.int (1 : Int32))) (hc5 : ¬ ((1 : Int32) = x0)) (f6 : Fld Z Z.heap r5 cs0 "code" "I" (.int (2 : Int32))) (hc7 : ¬ ((2 : Int32) = x0)) (f8 : Fld Z Z.heap r6 cs0 "code" "I" (.int (3 : Int32))) (hc9 : ¬ ((3 : Int32) = x0)) (f10 : Fld Z Z.heap r7 cs0 "code" "I" (.int (4 : Int32))) (hc11 : ¬ ((4 : Int32) = x0)) (f12 : Fld Z Z.heap r8 cs0 "code" "I" (.int (5 : Int32))) (hc13 : (5 : Int32) = x0) (f14 : Fld Z Z.heap r9 cs0 "code" "I" (.int (6 : Int32))) (hc15 : ¬ ((6 : Int32) = x0)) (hc17 : (1 : Int32) = (x1 &&& (7 : Int32))) (hc18 : ¬ ((2 : Int32) = (x1 &&& (7 : Int32)))) (hc19 : ¬ ((3 : Int32) = (x1 &&& (7 : Int32)))) (hc20 : ¬ ((4 : Int32) = (x1 &&& (7 : Int32)))) (hc21 : ¬ ((5 : Int32) = (x1 &&& (7 : Int32)))) (hc22 : ¬ ((6 : Int32) = (x1 &&& (7 : Int32)))) (hc25 : ¬ (x0 = (1 : Int32))) (hc26 : ¬ (x0 = (2 : Int32))) (hc27 : ¬ (x0 = (3 : Int32))) (hc28 : ¬ (x0 = (4 : Int32))) (hc29 : x0 = (5 : Int32)) (f30 : Sta Z Z.heap cs0 "TEXT" cs5 (.ref r8)) (hc33 : (x1 &&& (7 : Int32)) = (1 : Int32)) (f34 : Sta Z Z.heap cs0 "I32" cs5 (.ref r4)) :
    MetFree l x (head1 (Jvm.Cond.code x code maxLocals ret :: ws) room_1) (fun a U => a = #[(.int x0), (.int x1)] ∧ Z.Warmed39 U.vm ∧ U.heap = h0) (fun _ _ _ _ _ => True) (fun _ U o U' => ∃ v L, o = .returned v ∧ Q0_30 Z x0 x1 r2 c3 r4 r5 r6 r7 r8 r9 h0 n0 v U'.heap L ∧ FrameEnd U o U' L room_1.cells room_1.slots) := by
  refine MetFree.of_bodySF (plainFor_of_name pn_com_example_wiregather_wiregather_wire_FieldTypeOfCodePinLaw) hisR ?_
  intro p e s m args below meth c s₁ Bd hml0 hP hK
  obtain ⟨rfl, hZ, hh⟩ := hP
  have hx := Bd.exec
  have hby := Bd.bytes
  have hml : c.maxLocals = 5 := hml0
  have hown : s.vm.findClass cs4 = some m.cls := findClass_of_methodNamed Bd.named
  have hnm := (name_of_methodNamed Bd.named Bd.method).1
  have X0 : Stand p l e room_1 s m #[(.int x0), (.int x1)] below meth c s₁ [] 0 0 := Stand.of_body Bd
  have e0 : s₁.heap = h0 := by rw [← hh, Bd.state]; rfl
  have N0 := Fr.nil n0
  have pre0 : ∀ t, Steps p.tables e below (s₁.setTop (mkF m 0 #[.val (.int x0), .val (.int x1), .unset, .unset, .unset] [])) t → Steps p.tables e below (s₁.setTop (entryFrame m #[(.int x0), (.int x1)] maxLocals)) t := fun t k => castTop (by first | (simp [entryFrame, mkF, argsToLocals, Value.category, maxLocals]; done) | rfl) k
  obtain ⟨_, _, ⟨T16, L16, k16, n16⟩, -, X16, ⟨Lc16, hQ16, l16, y16, z16⟩, st16⟩ := Jvm.LawKit.callS X0 hx (y := (⟨cs0, "ofCode", cs3⟩ : MethodName)) hown (mvT hZ (ww hw 0 rfl)) (mvT hZ (ww hw 1 rfl)) (mvT hZ (ww hw 2 rfl)) (mvT hZ (ww hw 3 rfl)) (by decide) (backOf (W := 0) (rm1_6 l Z a0 hw [] x0 r2 c3 r4 r5 r6 r7 r8 r9 h0 n0 O0 f1 f2 f3 f4 hc5 f6 hc7 f8 hc9 f10 hc11 f12 hc13 f14 hc15) hZ (ww hw 3 rfl) (ww hw 2 rfl) (by decide) (by decide)) (g := (mkF m 6 #[.val (.int x0), .val (.int x1), .val (.int (x1 &&& (7 : Int32))), .unset, .unset] [(.int x0)])) rfl (by rw [hml]; rfl) (argsL := [(.int x0)]) (rest := []) (lenOf pd__I_Lcom_example_wiregather_wiregather_wire_FieldType_ rfl) rfl (by show 2 * 0 + _ ≤ _; exact Nat.le_of_eq rfl) (hb hby at_6) (fun _ _ => ⟨rfl, e0, (by decide : 0 + 1 ≤ _), (by decide : 0 + 6 ≤ _)⟩)
  dsimp only [Pt.U, Pt.locs, Pt.cells, Pt.slots] at X16 l16 y16 z16 st16 hQ16
  subst l16 y16 z16
  obtain ⟨rfl, N16q, K16⟩ := hQ16
  have N16 := Fr.app N0 N16q
  have o23 := Old.keep O0 K16 all0
  obtain ⟨_, _, ⟨T24, L24, k24, n24⟩, -, X24, ⟨Lc24, hQ24, l24, y24, z24⟩, st24⟩ := Jvm.LawKit.callS X16 hx (y := (⟨cs0, "ofCode", cs3⟩ : MethodName)) hown (mvT hZ (ww hw 0 rfl)) (mvT hZ (ww hw 1 rfl)) (mvT hZ (ww hw 2 rfl)) (mvT hZ (ww hw 3 rfl)) (by decide) (backOf (W := 0) (rm1_1 l Z a0 hw [] (x1 &&& (7 : Int32)) r2 c3 r4 r5 r6 r7 r8 r9 T16.heap n0 o23 f1 f2 f3 f4 hc17 f6 hc18 f8 hc19 f10 hc20 f12 hc21 f14 hc22) hZ (ww hw 3 rfl) (ww hw 2 rfl) (by decide) (by decide)) (g := (mkF m 11 #[.val (.int x0), .val (.int x1), .val (.int (x1 &&& (7 : Int32))), .val (.ref r8), .unset] [(.int (x1 &&& (7 : Int32)))])) rfl (by rw [hml]; rfl) (argsL := [(.int (x1 &&& (7 : Int32)))]) (rest := []) (lenOf pd__I_Lcom_example_wiregather_wiregather_wire_FieldType_ rfl) rfl (by show 2 * 0 + _ ≤ _; exact Nat.le_of_eq rfl) (hb hby at_11) (fun _ _ => ⟨rfl, rfl, (by decide : 1 + 1 ≤ _), (by decide : 6 + 6 ≤ _)⟩)
  dsimp only [Pt.U, Pt.locs, Pt.cells, Pt.slots] at X24 l24 y24 z24 st24 hQ24
  subst l24 y24 z24
  obtain ⟨rfl, N24q, K24⟩ := hQ24
  have N24 := Fr.app N16 N24q
  have o31 := Old.keep o23 K24 all0
  obtain ⟨_, _, ⟨T32, L32, k32, n32⟩, -, X32, ⟨Lc32, hQ32, l32, y32, z32⟩, st32⟩ := Jvm.LawKit.callS X24 hx (y := (⟨cs4, "expected", cs3⟩ : MethodName)) hown (mvT hZ (ww hw 27 rfl)) (mvT hZ (ww hw 28 rfl)) (mvT hZ (ww hw 29 rfl)) (mvT hZ (ww hw 30 rfl)) (by decide) (backOf (W := 1) (rm3_6 l Z a0 hw [] x0 r8 T24.heap n0 o31 hc25 hc26 hc27 hc28 hc29 f30) hZ (ww hw 30 rfl) (ww hw 29 rfl) (by decide) (by decide)) (g := (mkF m 18 #[.val (.int x0), .val (.int x1), .val (.int (x1 &&& (7 : Int32))), .val (.ref r8), .val (.ref r4)] [(.int x0), (.ref r8)])) rfl (by rw [hml]; rfl) (argsL := [(.int x0)]) (rest := [(.ref r8)]) (lenOf pd__I_Lcom_example_wiregather_wiregather_wire_FieldType_ rfl) rfl (by show 2 * 0 + _ ≤ _; exact Nat.le_of_eq rfl) (hb hby at_18) (fun _ _ => ⟨rfl, rfl, (by decide : 2 + 0 ≤ _), (by decide : 12 + 0 ≤ _)⟩)
  dsimp only [Pt.U, Pt.locs, Pt.cells, Pt.slots] at X32 l32 y32 z32 st32 hQ32
  subst l32 y32 z32
  obtain ⟨rfl, N32q, E32⟩ := hQ32
  have N32 := Fr.app N24 N32q
  obtain ⟨_, _, ⟨T35, L35, k35, n35⟩, -, X35, ⟨Lc35, hQ35, l35, y35, z35⟩, st35⟩ := Jvm.LawKit.callS X32 hx (y := (⟨cs4, "expected", cs3⟩ : MethodName)) hown (mvT hZ (ww hw 27 rfl)) (mvT hZ (ww hw 28 rfl)) (mvT hZ (ww hw 29 rfl)) (mvT hZ (ww hw 30 rfl)) (by decide) (backOf (W := 1) (rm3_1 l Z a0 hw [] (x1 &&& (7 : Int32)) r4 T24.heap n0 o31 hc33 f34) hZ (ww hw 30 rfl) (ww hw 29 rfl) (by decide) (by decide)) (g := (mkF m 27 #[.val (.int x0), .val (.int x1), .val (.int (x1 &&& (7 : Int32))), .val (.ref r8), .val (.ref r4)] [(.int (x1 &&& (7 : Int32))), (.ref r4)])) rfl (by rw [hml]; rfl) (argsL := [(.int (x1 &&& (7 : Int32)))]) (rest := [(.ref r4)]) (lenOf pd__I_Lcom_example_wiregather_wiregather_wire_FieldType_ rfl) rfl (by show 2 * 0 + _ ≤ _; exact Nat.le_of_eq rfl) (hb hby at_27) (fun _ _ => ⟨rfl, E32, (by decide : 2 + 0 ≤ _), (by decide : 12 + 0 ≤ _)⟩)
  dsimp only [Pt.U, Pt.locs, Pt.cells, Pt.slots] at X35 l35 y35 z35 st35 hQ35
  subst l35 y35 z35
  obtain ⟨rfl, N35q, E35⟩ := hQ35
  have N35 := Fr.app N32 N35q
  obtain ⟨fs, hr, hrun, hended, hW, hsame⟩ := X35.leave (v := some (.int (1 : Int32))) (fun h => by rw [Bd.returns] at h; cases h)
  refine ⟨_, _, pre0 _ ?_, hrun, hended, _, _, rfl, ?_, ⟨_, rfl⟩, hW, hsame.mono (by decide) (by decide)⟩
  · show Steps p.tables e below (s₁.setTop (mkF m 0 #[.val (.int x0), .val (.int x1), .unset, .unset, .unset] [])) _
    refine XS.iloadN X0.here hx rfl (hb hby at_0) rfl ?_
    refine XS.bipush X0.here hx rfl (hb hby at_1) ?_
    refine XS.iand X0.here hx rfl (hb hby at_3) rfl ?_
    refine XS.istoreN X0.here hx rfl (hb hby at_4) rfl (l' := #[.val (.int x0), .val (.int x1), .val (.int (x1 &&& (7 : Int32))), .unset, .unset]) rfl ?_
    show Steps p.tables e below (s₁.setTop (mkF m 5 #[.val (.int x0), .val (.int x1), .val (.int (x1 &&& (7 : Int32))), .unset, .unset] [])) _
    refine XS.iloadN X0.here hx rfl (hb hby at_5) rfl ?_
    refine st16 _ ?_
    show Steps p.tables e below (T16.setTop (mkF m 9 #[.val (.int x0), .val (.int x1), .val (.int (x1 &&& (7 : Int32))), .unset, .unset] [(.ref r8)])) _
    refine XS.astoreN X16.here hx rfl (hb hby at_9) rfl rfl (l' := #[.val (.int x0), .val (.int x1), .val (.int (x1 &&& (7 : Int32))), .val (.ref r8), .unset]) rfl ?_
    refine XS.iloadN X16.here hx rfl (hb hby at_10) rfl ?_
    refine st24 _ ?_
    show Steps p.tables e below (T24.setTop (mkF m 14 #[.val (.int x0), .val (.int x1), .val (.int (x1 &&& (7 : Int32))), .val (.ref r8), .unset] [(.ref r4)])) _
    refine XS.astore X24.here hx rfl (hb hby at_14) rfl rfl (l' := #[.val (.int x0), .val (.int x1), .val (.int (x1 &&& (7 : Int32))), .val (.ref r8), .val (.ref r4)]) rfl ?_
    refine XS.aloadN X24.here hx rfl (hb hby at_16) rfl rfl ?_
    refine XS.iloadN X24.here hx rfl (hb hby at_17) rfl ?_
    refine st32 _ ?_
    show Steps p.tables e below (T32.setTop (mkF m 21 #[.val (.int x0), .val (.int x1), .val (.int (x1 &&& (7 : Int32))), .val (.ref r8), .val (.ref r4)] [(.ref r8), (.ref r8)])) _
    refine Jvm.RoadKit.acmp (g := (mkF m 21 #[.val (.int x0), .val (.int x1), .val (.int (x1 &&& (7 : Int32))), .val (.ref r8), .val (.ref r4)] [(.ref r8), (.ref r8)])) X32 hx rfl rfl rfl (pc0 := 21) (pc' := 24) (same := true) rfl (hb hby at_21) rfl (decide_eq_true rfl) (by decide) (by decide) ?_
    show Steps p.tables e below (T32.setTop (mkF m 24 #[.val (.int x0), .val (.int x1), .val (.int (x1 &&& (7 : Int32))), .val (.ref r8), .val (.ref r4)] [])) _
    refine XS.aload X32.here hx rfl (hb hby at_24) rfl rfl ?_
    refine XS.iloadN X32.here hx rfl (hb hby at_26) rfl ?_
    refine st35 _ ?_
    show Steps p.tables e below (T35.setTop (mkF m 30 #[.val (.int x0), .val (.int x1), .val (.int (x1 &&& (7 : Int32))), .val (.ref r8), .val (.ref r4)] [(.ref r4), (.ref r4)])) _
    refine Jvm.RoadKit.acmp (g := (mkF m 30 #[.val (.int x0), .val (.int x1), .val (.int (x1 &&& (7 : Int32))), .val (.ref r8), .val (.ref r4)] [(.ref r4), (.ref r4)])) X35 hx rfl rfl rfl (pc0 := 30) (pc' := 33) (same := true) rfl (hb hby at_30) rfl (decide_eq_true rfl) (by decide) (by decide) ?_
    show Steps p.tables e below (T35.setTop (mkF m 33 #[.val (.int x0), .val (.int x1), .val (.int (x1 &&& (7 : Int32))), .val (.ref r8), .val (.ref r4)] [])) _
    refine XS.iconst X35.here hx rfl (hb hby at_33) ?_
    refine XS.goto X35.here hx rfl (pc0 := 34) (pc' := 38) rfl (hb hby at_34) (by decide) (by decide) ?_
    show Steps p.tables e below (T35.setTop (mkF m 38 #[.val (.int x0), .val (.int x1), .val (.int (x1 &&& (7 : Int32))), .val (.ref r8), .val (.ref r4)] [(.int (1 : Int32))])) _
    exact retN X35 hx (t := .boolean) Bd.returns (by simp) (hb hby at_38) hr
  · show Q0_30 Z x0 x1 r2 c3 r4 r5 r6 r7 r8 r9 h0 n0 _ T35.heap _
    rw [E35]
    exact ⟨rfl, N35⟩
def Q0_31 (Z : State) (x0 : Int32) (x1 : Int32) (r2 : Addr) (c3 : ClassId) (r4 : Addr) (r5 : Addr) (r6 : Addr) (r7 : Addr) (r8 : Addr) (r9 : Addr) (h0 : Heap) (n0 : Nat) (v : Option Value) (h : Heap) (L : List Loc) : Prop := v = some (.int (1 : Int32)) ∧ Fr n0 L
set_option maxRecDepth 65536 in
set_option maxHeartbeats 40000000 in
theorem rm0_31 (l : Launch) (Z : State) (a0 : Array Value) (hw : ∀ d ∈ tables_1, d.before a0 Z = true) (ws : List Jvm.Cond) (x0 : Int32) (x1 : Int32) (r2 : Addr) (c3 : ClassId) (r4 : Addr) (r5 : Addr) (r6 : Addr) (r7 : Addr) (r8 : Addr) (r9 : Addr) (h0 : Heap) (n0 : Nat) (O0 : Old Z n0 h0) (f1 : Sta Z Z.heap cs0 "$VALUES" cs1 (.ref r2)) (f2 : Exa Z Z.heap r2 cs1) (f3 : Arv Z Z.heap r2 c3 (.object cs0) (6 : Int32) [(.ref r4), (.ref r5), (.ref r6), (.ref r7), (.ref r8), (.ref r9)] .null) (f4 : Fld Z Z.heap r4 cs0 "code" "I" (.int (1 : Int32))) (hc5 : ¬ ((1 : Int32) = x0)) (f6 : Fld Z Z.heap r5 cs0 "code" "I" (.int (2 : Int32))) (hc7 : ¬ ((2 : Int32) = x0)) (f8 : Fld Z Z.heap r6 cs0 "code" "I" (.int (3 : Int32))) (hc9 : ¬ ((3 : Int32) = x0)) (f10 : Fld Z Z.heap r7 cs0 "code" "I" (.int (4 : Int32))) (hc11 : ¬ ((4 : Int32) = x0)) (f12 : Fld Z Z.heap r8 cs0 "code" "I" (.int (5 : Int32))) (hc13 : (5 : Int32) = x0) (f14 : Fld Z Z.heap r9 cs0 "code" "I" (.int (6 : Int32))) (hc15 : ¬ ((6 : Int32) = x0)) (hc17 : ¬ ((1 : Int32) = (x1 &&& (7 : Int32)))) (hc18 : (2 : Int32) = (x1 &&& (7 : Int32))) (hc19 : ¬ ((3 : Int32) = (x1 &&& (7 : Int32)))) (hc20 : ¬ ((4 : Int32) = (x1 &&& (7 : Int32)))) (hc21 : ¬ ((5 : Int32) = (x1 &&& (7 : Int32)))) (hc22 : ¬ ((6 : Int32) = (x1 &&& (7 : Int32)))) (hc25 : ¬ (x0 = (1 : Int32))) (hc26 : ¬ (x0 = (2 : Int32))) (hc27 : ¬ (x0 = (3 : Int32))) (hc28 : ¬ (x0 = (4 : Int32))) (hc29 : x0 = (5 : Int32)) (f30 : Sta Z Z.heap cs0 "TEXT" cs5 (.ref r8)) (hc33 : ¬ ((x1 &&& (7 : Int32)) = (1 : Int32))) (hc34 : (x1 &&& (7 : Int32)) = (2 : Int32)) (f35 : Sta Z Z.heap cs0 "U32" cs5 (.ref r5)) :
    MetFree l x (head1 (Jvm.Cond.code x code maxLocals ret :: ws) room_1) (fun a U => a = #[(.int x0), (.int x1)] ∧ Z.Warmed39 U.vm ∧ U.heap = h0) (fun _ _ _ _ _ => True) (fun _ U o U' => ∃ v L, o = .returned v ∧ Q0_31 Z x0 x1 r2 c3 r4 r5 r6 r7 r8 r9 h0 n0 v U'.heap L ∧ FrameEnd U o U' L room_1.cells room_1.slots) := by
  refine MetFree.of_bodySF (plainFor_of_name pn_com_example_wiregather_wiregather_wire_FieldTypeOfCodePinLaw) hisR ?_
  intro p e s m args below meth c s₁ Bd hml0 hP hK
  obtain ⟨rfl, hZ, hh⟩ := hP
  have hx := Bd.exec
  have hby := Bd.bytes
  have hml : c.maxLocals = 5 := hml0
  have hown : s.vm.findClass cs4 = some m.cls := findClass_of_methodNamed Bd.named
  have hnm := (name_of_methodNamed Bd.named Bd.method).1
  have X0 : Stand p l e room_1 s m #[(.int x0), (.int x1)] below meth c s₁ [] 0 0 := Stand.of_body Bd
  have e0 : s₁.heap = h0 := by rw [← hh, Bd.state]; rfl
  have N0 := Fr.nil n0
  have pre0 : ∀ t, Steps p.tables e below (s₁.setTop (mkF m 0 #[.val (.int x0), .val (.int x1), .unset, .unset, .unset] [])) t → Steps p.tables e below (s₁.setTop (entryFrame m #[(.int x0), (.int x1)] maxLocals)) t := fun t k => castTop (by first | (simp [entryFrame, mkF, argsToLocals, Value.category, maxLocals]; done) | rfl) k
  obtain ⟨_, _, ⟨T16, L16, k16, n16⟩, -, X16, ⟨Lc16, hQ16, l16, y16, z16⟩, st16⟩ := Jvm.LawKit.callS X0 hx (y := (⟨cs0, "ofCode", cs3⟩ : MethodName)) hown (mvT hZ (ww hw 0 rfl)) (mvT hZ (ww hw 1 rfl)) (mvT hZ (ww hw 2 rfl)) (mvT hZ (ww hw 3 rfl)) (by decide) (backOf (W := 0) (rm1_6 l Z a0 hw [] x0 r2 c3 r4 r5 r6 r7 r8 r9 h0 n0 O0 f1 f2 f3 f4 hc5 f6 hc7 f8 hc9 f10 hc11 f12 hc13 f14 hc15) hZ (ww hw 3 rfl) (ww hw 2 rfl) (by decide) (by decide)) (g := (mkF m 6 #[.val (.int x0), .val (.int x1), .val (.int (x1 &&& (7 : Int32))), .unset, .unset] [(.int x0)])) rfl (by rw [hml]; rfl) (argsL := [(.int x0)]) (rest := []) (lenOf pd__I_Lcom_example_wiregather_wiregather_wire_FieldType_ rfl) rfl (by show 2 * 0 + _ ≤ _; exact Nat.le_of_eq rfl) (hb hby at_6) (fun _ _ => ⟨rfl, e0, (by decide : 0 + 1 ≤ _), (by decide : 0 + 6 ≤ _)⟩)
  dsimp only [Pt.U, Pt.locs, Pt.cells, Pt.slots] at X16 l16 y16 z16 st16 hQ16
  subst l16 y16 z16
  obtain ⟨rfl, N16q, K16⟩ := hQ16
  have N16 := Fr.app N0 N16q
  have o23 := Old.keep O0 K16 all0
  obtain ⟨_, _, ⟨T24, L24, k24, n24⟩, -, X24, ⟨Lc24, hQ24, l24, y24, z24⟩, st24⟩ := Jvm.LawKit.callS X16 hx (y := (⟨cs0, "ofCode", cs3⟩ : MethodName)) hown (mvT hZ (ww hw 0 rfl)) (mvT hZ (ww hw 1 rfl)) (mvT hZ (ww hw 2 rfl)) (mvT hZ (ww hw 3 rfl)) (by decide) (backOf (W := 0) (rm1_3 l Z a0 hw [] (x1 &&& (7 : Int32)) r2 c3 r4 r5 r6 r7 r8 r9 T16.heap n0 o23 f1 f2 f3 f4 hc17 f6 hc18 f8 hc19 f10 hc20 f12 hc21 f14 hc22) hZ (ww hw 3 rfl) (ww hw 2 rfl) (by decide) (by decide)) (g := (mkF m 11 #[.val (.int x0), .val (.int x1), .val (.int (x1 &&& (7 : Int32))), .val (.ref r8), .unset] [(.int (x1 &&& (7 : Int32)))])) rfl (by rw [hml]; rfl) (argsL := [(.int (x1 &&& (7 : Int32)))]) (rest := []) (lenOf pd__I_Lcom_example_wiregather_wiregather_wire_FieldType_ rfl) rfl (by show 2 * 0 + _ ≤ _; exact Nat.le_of_eq rfl) (hb hby at_11) (fun _ _ => ⟨rfl, rfl, (by decide : 1 + 1 ≤ _), (by decide : 6 + 6 ≤ _)⟩)
  dsimp only [Pt.U, Pt.locs, Pt.cells, Pt.slots] at X24 l24 y24 z24 st24 hQ24
  subst l24 y24 z24
  obtain ⟨rfl, N24q, K24⟩ := hQ24
  have N24 := Fr.app N16 N24q
  have o31 := Old.keep o23 K24 all0
  obtain ⟨_, _, ⟨T32, L32, k32, n32⟩, -, X32, ⟨Lc32, hQ32, l32, y32, z32⟩, st32⟩ := Jvm.LawKit.callS X24 hx (y := (⟨cs4, "expected", cs3⟩ : MethodName)) hown (mvT hZ (ww hw 27 rfl)) (mvT hZ (ww hw 28 rfl)) (mvT hZ (ww hw 29 rfl)) (mvT hZ (ww hw 30 rfl)) (by decide) (backOf (W := 1) (rm3_6 l Z a0 hw [] x0 r8 T24.heap n0 o31 hc25 hc26 hc27 hc28 hc29 f30) hZ (ww hw 30 rfl) (ww hw 29 rfl) (by decide) (by decide)) (g := (mkF m 18 #[.val (.int x0), .val (.int x1), .val (.int (x1 &&& (7 : Int32))), .val (.ref r8), .val (.ref r5)] [(.int x0), (.ref r8)])) rfl (by rw [hml]; rfl) (argsL := [(.int x0)]) (rest := [(.ref r8)]) (lenOf pd__I_Lcom_example_wiregather_wiregather_wire_FieldType_ rfl) rfl (by show 2 * 0 + _ ≤ _; exact Nat.le_of_eq rfl) (hb hby at_18) (fun _ _ => ⟨rfl, rfl, (by decide : 2 + 0 ≤ _), (by decide : 12 + 0 ≤ _)⟩)
  dsimp only [Pt.U, Pt.locs, Pt.cells, Pt.slots] at X32 l32 y32 z32 st32 hQ32
  subst l32 y32 z32
  obtain ⟨rfl, N32q, E32⟩ := hQ32
  have N32 := Fr.app N24 N32q
  obtain ⟨_, _, ⟨T36, L36, k36, n36⟩, -, X36, ⟨Lc36, hQ36, l36, y36, z36⟩, st36⟩ := Jvm.LawKit.callS X32 hx (y := (⟨cs4, "expected", cs3⟩ : MethodName)) hown (mvT hZ (ww hw 27 rfl)) (mvT hZ (ww hw 28 rfl)) (mvT hZ (ww hw 29 rfl)) (mvT hZ (ww hw 30 rfl)) (by decide) (backOf (W := 1) (rm3_3 l Z a0 hw [] (x1 &&& (7 : Int32)) r5 T24.heap n0 o31 hc33 hc34 f35) hZ (ww hw 30 rfl) (ww hw 29 rfl) (by decide) (by decide)) (g := (mkF m 27 #[.val (.int x0), .val (.int x1), .val (.int (x1 &&& (7 : Int32))), .val (.ref r8), .val (.ref r5)] [(.int (x1 &&& (7 : Int32))), (.ref r5)])) rfl (by rw [hml]; rfl) (argsL := [(.int (x1 &&& (7 : Int32)))]) (rest := [(.ref r5)]) (lenOf pd__I_Lcom_example_wiregather_wiregather_wire_FieldType_ rfl) rfl (by show 2 * 0 + _ ≤ _; exact Nat.le_of_eq rfl) (hb hby at_27) (fun _ _ => ⟨rfl, E32, (by decide : 2 + 0 ≤ _), (by decide : 12 + 0 ≤ _)⟩)
  dsimp only [Pt.U, Pt.locs, Pt.cells, Pt.slots] at X36 l36 y36 z36 st36 hQ36
  subst l36 y36 z36
  obtain ⟨rfl, N36q, E36⟩ := hQ36
  have N36 := Fr.app N32 N36q
  obtain ⟨fs, hr, hrun, hended, hW, hsame⟩ := X36.leave (v := some (.int (1 : Int32))) (fun h => by rw [Bd.returns] at h; cases h)
  refine ⟨_, _, pre0 _ ?_, hrun, hended, _, _, rfl, ?_, ⟨_, rfl⟩, hW, hsame.mono (by decide) (by decide)⟩
  · show Steps p.tables e below (s₁.setTop (mkF m 0 #[.val (.int x0), .val (.int x1), .unset, .unset, .unset] [])) _
    refine XS.iloadN X0.here hx rfl (hb hby at_0) rfl ?_
    refine XS.bipush X0.here hx rfl (hb hby at_1) ?_
    refine XS.iand X0.here hx rfl (hb hby at_3) rfl ?_
    refine XS.istoreN X0.here hx rfl (hb hby at_4) rfl (l' := #[.val (.int x0), .val (.int x1), .val (.int (x1 &&& (7 : Int32))), .unset, .unset]) rfl ?_
    show Steps p.tables e below (s₁.setTop (mkF m 5 #[.val (.int x0), .val (.int x1), .val (.int (x1 &&& (7 : Int32))), .unset, .unset] [])) _
    refine XS.iloadN X0.here hx rfl (hb hby at_5) rfl ?_
    refine st16 _ ?_
    show Steps p.tables e below (T16.setTop (mkF m 9 #[.val (.int x0), .val (.int x1), .val (.int (x1 &&& (7 : Int32))), .unset, .unset] [(.ref r8)])) _
    refine XS.astoreN X16.here hx rfl (hb hby at_9) rfl rfl (l' := #[.val (.int x0), .val (.int x1), .val (.int (x1 &&& (7 : Int32))), .val (.ref r8), .unset]) rfl ?_
    refine XS.iloadN X16.here hx rfl (hb hby at_10) rfl ?_
    refine st24 _ ?_
    show Steps p.tables e below (T24.setTop (mkF m 14 #[.val (.int x0), .val (.int x1), .val (.int (x1 &&& (7 : Int32))), .val (.ref r8), .unset] [(.ref r5)])) _
    refine XS.astore X24.here hx rfl (hb hby at_14) rfl rfl (l' := #[.val (.int x0), .val (.int x1), .val (.int (x1 &&& (7 : Int32))), .val (.ref r8), .val (.ref r5)]) rfl ?_
    refine XS.aloadN X24.here hx rfl (hb hby at_16) rfl rfl ?_
    refine XS.iloadN X24.here hx rfl (hb hby at_17) rfl ?_
    refine st32 _ ?_
    show Steps p.tables e below (T32.setTop (mkF m 21 #[.val (.int x0), .val (.int x1), .val (.int (x1 &&& (7 : Int32))), .val (.ref r8), .val (.ref r5)] [(.ref r8), (.ref r8)])) _
    refine Jvm.RoadKit.acmp (g := (mkF m 21 #[.val (.int x0), .val (.int x1), .val (.int (x1 &&& (7 : Int32))), .val (.ref r8), .val (.ref r5)] [(.ref r8), (.ref r8)])) X32 hx rfl rfl rfl (pc0 := 21) (pc' := 24) (same := true) rfl (hb hby at_21) rfl (decide_eq_true rfl) (by decide) (by decide) ?_
    show Steps p.tables e below (T32.setTop (mkF m 24 #[.val (.int x0), .val (.int x1), .val (.int (x1 &&& (7 : Int32))), .val (.ref r8), .val (.ref r5)] [])) _
    refine XS.aload X32.here hx rfl (hb hby at_24) rfl rfl ?_
    refine XS.iloadN X32.here hx rfl (hb hby at_26) rfl ?_
    refine st36 _ ?_
    show Steps p.tables e below (T36.setTop (mkF m 30 #[.val (.int x0), .val (.int x1), .val (.int (x1 &&& (7 : Int32))), .val (.ref r8), .val (.ref r5)] [(.ref r5), (.ref r5)])) _
    refine Jvm.RoadKit.acmp (g := (mkF m 30 #[.val (.int x0), .val (.int x1), .val (.int (x1 &&& (7 : Int32))), .val (.ref r8), .val (.ref r5)] [(.ref r5), (.ref r5)])) X36 hx rfl rfl rfl (pc0 := 30) (pc' := 33) (same := true) rfl (hb hby at_30) rfl (decide_eq_true rfl) (by decide) (by decide) ?_
    show Steps p.tables e below (T36.setTop (mkF m 33 #[.val (.int x0), .val (.int x1), .val (.int (x1 &&& (7 : Int32))), .val (.ref r8), .val (.ref r5)] [])) _
    refine XS.iconst X36.here hx rfl (hb hby at_33) ?_
    refine XS.goto X36.here hx rfl (pc0 := 34) (pc' := 38) rfl (hb hby at_34) (by decide) (by decide) ?_
    show Steps p.tables e below (T36.setTop (mkF m 38 #[.val (.int x0), .val (.int x1), .val (.int (x1 &&& (7 : Int32))), .val (.ref r8), .val (.ref r5)] [(.int (1 : Int32))])) _
    exact retN X36 hx (t := .boolean) Bd.returns (by simp) (hb hby at_38) hr
  · show Q0_31 Z x0 x1 r2 c3 r4 r5 r6 r7 r8 r9 h0 n0 _ T36.heap _
    rw [E36]
    exact ⟨rfl, N36⟩
def Q0_32 (Z : State) (x0 : Int32) (x1 : Int32) (r2 : Addr) (c3 : ClassId) (r4 : Addr) (r5 : Addr) (r6 : Addr) (r7 : Addr) (r8 : Addr) (r9 : Addr) (h0 : Heap) (n0 : Nat) (v : Option Value) (h : Heap) (L : List Loc) : Prop := v = some (.int (1 : Int32)) ∧ Fr n0 L
set_option maxRecDepth 65536 in
set_option maxHeartbeats 40000000 in
theorem rm0_32 (l : Launch) (Z : State) (a0 : Array Value) (hw : ∀ d ∈ tables_1, d.before a0 Z = true) (ws : List Jvm.Cond) (x0 : Int32) (x1 : Int32) (r2 : Addr) (c3 : ClassId) (r4 : Addr) (r5 : Addr) (r6 : Addr) (r7 : Addr) (r8 : Addr) (r9 : Addr) (h0 : Heap) (n0 : Nat) (O0 : Old Z n0 h0) (f1 : Sta Z Z.heap cs0 "$VALUES" cs1 (.ref r2)) (f2 : Exa Z Z.heap r2 cs1) (f3 : Arv Z Z.heap r2 c3 (.object cs0) (6 : Int32) [(.ref r4), (.ref r5), (.ref r6), (.ref r7), (.ref r8), (.ref r9)] .null) (f4 : Fld Z Z.heap r4 cs0 "code" "I" (.int (1 : Int32))) (hc5 : ¬ ((1 : Int32) = x0)) (f6 : Fld Z Z.heap r5 cs0 "code" "I" (.int (2 : Int32))) (hc7 : ¬ ((2 : Int32) = x0)) (f8 : Fld Z Z.heap r6 cs0 "code" "I" (.int (3 : Int32))) (hc9 : ¬ ((3 : Int32) = x0)) (f10 : Fld Z Z.heap r7 cs0 "code" "I" (.int (4 : Int32))) (hc11 : ¬ ((4 : Int32) = x0)) (f12 : Fld Z Z.heap r8 cs0 "code" "I" (.int (5 : Int32))) (hc13 : (5 : Int32) = x0) (f14 : Fld Z Z.heap r9 cs0 "code" "I" (.int (6 : Int32))) (hc15 : ¬ ((6 : Int32) = x0)) (hc17 : ¬ ((1 : Int32) = (x1 &&& (7 : Int32)))) (hc18 : ¬ ((2 : Int32) = (x1 &&& (7 : Int32)))) (hc19 : (3 : Int32) = (x1 &&& (7 : Int32))) (hc20 : ¬ ((4 : Int32) = (x1 &&& (7 : Int32)))) (hc21 : ¬ ((5 : Int32) = (x1 &&& (7 : Int32)))) (hc22 : ¬ ((6 : Int32) = (x1 &&& (7 : Int32)))) (hc25 : ¬ (x0 = (1 : Int32))) (hc26 : ¬ (x0 = (2 : Int32))) (hc27 : ¬ (x0 = (3 : Int32))) (hc28 : ¬ (x0 = (4 : Int32))) (hc29 : x0 = (5 : Int32)) (f30 : Sta Z Z.heap cs0 "TEXT" cs5 (.ref r8)) (hc33 : ¬ ((x1 &&& (7 : Int32)) = (1 : Int32))) (hc34 : ¬ ((x1 &&& (7 : Int32)) = (2 : Int32))) (hc35 : (x1 &&& (7 : Int32)) = (3 : Int32)) (f36 : Sta Z Z.heap cs0 "F32" cs5 (.ref r6)) :
    MetFree l x (head1 (Jvm.Cond.code x code maxLocals ret :: ws) room_1) (fun a U => a = #[(.int x0), (.int x1)] ∧ Z.Warmed39 U.vm ∧ U.heap = h0) (fun _ _ _ _ _ => True) (fun _ U o U' => ∃ v L, o = .returned v ∧ Q0_32 Z x0 x1 r2 c3 r4 r5 r6 r7 r8 r9 h0 n0 v U'.heap L ∧ FrameEnd U o U' L room_1.cells room_1.slots) := by
  refine MetFree.of_bodySF (plainFor_of_name pn_com_example_wiregather_wiregather_wire_FieldTypeOfCodePinLaw) hisR ?_
  intro p e s m args below meth c s₁ Bd hml0 hP hK
  obtain ⟨rfl, hZ, hh⟩ := hP
  have hx := Bd.exec
  have hby := Bd.bytes
  have hml : c.maxLocals = 5 := hml0
  have hown : s.vm.findClass cs4 = some m.cls := findClass_of_methodNamed Bd.named
  have hnm := (name_of_methodNamed Bd.named Bd.method).1
  have X0 : Stand p l e room_1 s m #[(.int x0), (.int x1)] below meth c s₁ [] 0 0 := Stand.of_body Bd
  have e0 : s₁.heap = h0 := by rw [← hh, Bd.state]; rfl
  have N0 := Fr.nil n0
  have pre0 : ∀ t, Steps p.tables e below (s₁.setTop (mkF m 0 #[.val (.int x0), .val (.int x1), .unset, .unset, .unset] [])) t → Steps p.tables e below (s₁.setTop (entryFrame m #[(.int x0), (.int x1)] maxLocals)) t := fun t k => castTop (by first | (simp [entryFrame, mkF, argsToLocals, Value.category, maxLocals]; done) | rfl) k
  obtain ⟨_, _, ⟨T16, L16, k16, n16⟩, -, X16, ⟨Lc16, hQ16, l16, y16, z16⟩, st16⟩ := Jvm.LawKit.callS X0 hx (y := (⟨cs0, "ofCode", cs3⟩ : MethodName)) hown (mvT hZ (ww hw 0 rfl)) (mvT hZ (ww hw 1 rfl)) (mvT hZ (ww hw 2 rfl)) (mvT hZ (ww hw 3 rfl)) (by decide) (backOf (W := 0) (rm1_6 l Z a0 hw [] x0 r2 c3 r4 r5 r6 r7 r8 r9 h0 n0 O0 f1 f2 f3 f4 hc5 f6 hc7 f8 hc9 f10 hc11 f12 hc13 f14 hc15) hZ (ww hw 3 rfl) (ww hw 2 rfl) (by decide) (by decide)) (g := (mkF m 6 #[.val (.int x0), .val (.int x1), .val (.int (x1 &&& (7 : Int32))), .unset, .unset] [(.int x0)])) rfl (by rw [hml]; rfl) (argsL := [(.int x0)]) (rest := []) (lenOf pd__I_Lcom_example_wiregather_wiregather_wire_FieldType_ rfl) rfl (by show 2 * 0 + _ ≤ _; exact Nat.le_of_eq rfl) (hb hby at_6) (fun _ _ => ⟨rfl, e0, (by decide : 0 + 1 ≤ _), (by decide : 0 + 6 ≤ _)⟩)
  dsimp only [Pt.U, Pt.locs, Pt.cells, Pt.slots] at X16 l16 y16 z16 st16 hQ16
  subst l16 y16 z16
  obtain ⟨rfl, N16q, K16⟩ := hQ16
  have N16 := Fr.app N0 N16q
  have o23 := Old.keep O0 K16 all0
  obtain ⟨_, _, ⟨T24, L24, k24, n24⟩, -, X24, ⟨Lc24, hQ24, l24, y24, z24⟩, st24⟩ := Jvm.LawKit.callS X16 hx (y := (⟨cs0, "ofCode", cs3⟩ : MethodName)) hown (mvT hZ (ww hw 0 rfl)) (mvT hZ (ww hw 1 rfl)) (mvT hZ (ww hw 2 rfl)) (mvT hZ (ww hw 3 rfl)) (by decide) (backOf (W := 0) (rm1_4 l Z a0 hw [] (x1 &&& (7 : Int32)) r2 c3 r4 r5 r6 r7 r8 r9 T16.heap n0 o23 f1 f2 f3 f4 hc17 f6 hc18 f8 hc19 f10 hc20 f12 hc21 f14 hc22) hZ (ww hw 3 rfl) (ww hw 2 rfl) (by decide) (by decide)) (g := (mkF m 11 #[.val (.int x0), .val (.int x1), .val (.int (x1 &&& (7 : Int32))), .val (.ref r8), .unset] [(.int (x1 &&& (7 : Int32)))])) rfl (by rw [hml]; rfl) (argsL := [(.int (x1 &&& (7 : Int32)))]) (rest := []) (lenOf pd__I_Lcom_example_wiregather_wiregather_wire_FieldType_ rfl) rfl (by show 2 * 0 + _ ≤ _; exact Nat.le_of_eq rfl) (hb hby at_11) (fun _ _ => ⟨rfl, rfl, (by decide : 1 + 1 ≤ _), (by decide : 6 + 6 ≤ _)⟩)
  dsimp only [Pt.U, Pt.locs, Pt.cells, Pt.slots] at X24 l24 y24 z24 st24 hQ24
  subst l24 y24 z24
  obtain ⟨rfl, N24q, K24⟩ := hQ24
  have N24 := Fr.app N16 N24q
  have o31 := Old.keep o23 K24 all0
  obtain ⟨_, _, ⟨T32, L32, k32, n32⟩, -, X32, ⟨Lc32, hQ32, l32, y32, z32⟩, st32⟩ := Jvm.LawKit.callS X24 hx (y := (⟨cs4, "expected", cs3⟩ : MethodName)) hown (mvT hZ (ww hw 27 rfl)) (mvT hZ (ww hw 28 rfl)) (mvT hZ (ww hw 29 rfl)) (mvT hZ (ww hw 30 rfl)) (by decide) (backOf (W := 1) (rm3_6 l Z a0 hw [] x0 r8 T24.heap n0 o31 hc25 hc26 hc27 hc28 hc29 f30) hZ (ww hw 30 rfl) (ww hw 29 rfl) (by decide) (by decide)) (g := (mkF m 18 #[.val (.int x0), .val (.int x1), .val (.int (x1 &&& (7 : Int32))), .val (.ref r8), .val (.ref r6)] [(.int x0), (.ref r8)])) rfl (by rw [hml]; rfl) (argsL := [(.int x0)]) (rest := [(.ref r8)]) (lenOf pd__I_Lcom_example_wiregather_wiregather_wire_FieldType_ rfl) rfl (by show 2 * 0 + _ ≤ _; exact Nat.le_of_eq rfl) (hb hby at_18) (fun _ _ => ⟨rfl, rfl, (by decide : 2 + 0 ≤ _), (by decide : 12 + 0 ≤ _)⟩)
  dsimp only [Pt.U, Pt.locs, Pt.cells, Pt.slots] at X32 l32 y32 z32 st32 hQ32
  subst l32 y32 z32
  obtain ⟨rfl, N32q, E32⟩ := hQ32
  have N32 := Fr.app N24 N32q
  obtain ⟨_, _, ⟨T37, L37, k37, n37⟩, -, X37, ⟨Lc37, hQ37, l37, y37, z37⟩, st37⟩ := Jvm.LawKit.callS X32 hx (y := (⟨cs4, "expected", cs3⟩ : MethodName)) hown (mvT hZ (ww hw 27 rfl)) (mvT hZ (ww hw 28 rfl)) (mvT hZ (ww hw 29 rfl)) (mvT hZ (ww hw 30 rfl)) (by decide) (backOf (W := 1) (rm3_4 l Z a0 hw [] (x1 &&& (7 : Int32)) r6 T24.heap n0 o31 hc33 hc34 hc35 f36) hZ (ww hw 30 rfl) (ww hw 29 rfl) (by decide) (by decide)) (g := (mkF m 27 #[.val (.int x0), .val (.int x1), .val (.int (x1 &&& (7 : Int32))), .val (.ref r8), .val (.ref r6)] [(.int (x1 &&& (7 : Int32))), (.ref r6)])) rfl (by rw [hml]; rfl) (argsL := [(.int (x1 &&& (7 : Int32)))]) (rest := [(.ref r6)]) (lenOf pd__I_Lcom_example_wiregather_wiregather_wire_FieldType_ rfl) rfl (by show 2 * 0 + _ ≤ _; exact Nat.le_of_eq rfl) (hb hby at_27) (fun _ _ => ⟨rfl, E32, (by decide : 2 + 0 ≤ _), (by decide : 12 + 0 ≤ _)⟩)
  dsimp only [Pt.U, Pt.locs, Pt.cells, Pt.slots] at X37 l37 y37 z37 st37 hQ37
  subst l37 y37 z37
  obtain ⟨rfl, N37q, E37⟩ := hQ37
  have N37 := Fr.app N32 N37q
  obtain ⟨fs, hr, hrun, hended, hW, hsame⟩ := X37.leave (v := some (.int (1 : Int32))) (fun h => by rw [Bd.returns] at h; cases h)
  refine ⟨_, _, pre0 _ ?_, hrun, hended, _, _, rfl, ?_, ⟨_, rfl⟩, hW, hsame.mono (by decide) (by decide)⟩
  · show Steps p.tables e below (s₁.setTop (mkF m 0 #[.val (.int x0), .val (.int x1), .unset, .unset, .unset] [])) _
    refine XS.iloadN X0.here hx rfl (hb hby at_0) rfl ?_
    refine XS.bipush X0.here hx rfl (hb hby at_1) ?_
    refine XS.iand X0.here hx rfl (hb hby at_3) rfl ?_
    refine XS.istoreN X0.here hx rfl (hb hby at_4) rfl (l' := #[.val (.int x0), .val (.int x1), .val (.int (x1 &&& (7 : Int32))), .unset, .unset]) rfl ?_
    show Steps p.tables e below (s₁.setTop (mkF m 5 #[.val (.int x0), .val (.int x1), .val (.int (x1 &&& (7 : Int32))), .unset, .unset] [])) _
    refine XS.iloadN X0.here hx rfl (hb hby at_5) rfl ?_
    refine st16 _ ?_
    show Steps p.tables e below (T16.setTop (mkF m 9 #[.val (.int x0), .val (.int x1), .val (.int (x1 &&& (7 : Int32))), .unset, .unset] [(.ref r8)])) _
    refine XS.astoreN X16.here hx rfl (hb hby at_9) rfl rfl (l' := #[.val (.int x0), .val (.int x1), .val (.int (x1 &&& (7 : Int32))), .val (.ref r8), .unset]) rfl ?_
    refine XS.iloadN X16.here hx rfl (hb hby at_10) rfl ?_
    refine st24 _ ?_
    show Steps p.tables e below (T24.setTop (mkF m 14 #[.val (.int x0), .val (.int x1), .val (.int (x1 &&& (7 : Int32))), .val (.ref r8), .unset] [(.ref r6)])) _
    refine XS.astore X24.here hx rfl (hb hby at_14) rfl rfl (l' := #[.val (.int x0), .val (.int x1), .val (.int (x1 &&& (7 : Int32))), .val (.ref r8), .val (.ref r6)]) rfl ?_
    refine XS.aloadN X24.here hx rfl (hb hby at_16) rfl rfl ?_
    refine XS.iloadN X24.here hx rfl (hb hby at_17) rfl ?_
    refine st32 _ ?_
    show Steps p.tables e below (T32.setTop (mkF m 21 #[.val (.int x0), .val (.int x1), .val (.int (x1 &&& (7 : Int32))), .val (.ref r8), .val (.ref r6)] [(.ref r8), (.ref r8)])) _
    refine Jvm.RoadKit.acmp (g := (mkF m 21 #[.val (.int x0), .val (.int x1), .val (.int (x1 &&& (7 : Int32))), .val (.ref r8), .val (.ref r6)] [(.ref r8), (.ref r8)])) X32 hx rfl rfl rfl (pc0 := 21) (pc' := 24) (same := true) rfl (hb hby at_21) rfl (decide_eq_true rfl) (by decide) (by decide) ?_
    show Steps p.tables e below (T32.setTop (mkF m 24 #[.val (.int x0), .val (.int x1), .val (.int (x1 &&& (7 : Int32))), .val (.ref r8), .val (.ref r6)] [])) _
    refine XS.aload X32.here hx rfl (hb hby at_24) rfl rfl ?_
    refine XS.iloadN X32.here hx rfl (hb hby at_26) rfl ?_
    refine st37 _ ?_
    show Steps p.tables e below (T37.setTop (mkF m 30 #[.val (.int x0), .val (.int x1), .val (.int (x1 &&& (7 : Int32))), .val (.ref r8), .val (.ref r6)] [(.ref r6), (.ref r6)])) _
    refine Jvm.RoadKit.acmp (g := (mkF m 30 #[.val (.int x0), .val (.int x1), .val (.int (x1 &&& (7 : Int32))), .val (.ref r8), .val (.ref r6)] [(.ref r6), (.ref r6)])) X37 hx rfl rfl rfl (pc0 := 30) (pc' := 33) (same := true) rfl (hb hby at_30) rfl (decide_eq_true rfl) (by decide) (by decide) ?_
    show Steps p.tables e below (T37.setTop (mkF m 33 #[.val (.int x0), .val (.int x1), .val (.int (x1 &&& (7 : Int32))), .val (.ref r8), .val (.ref r6)] [])) _
    refine XS.iconst X37.here hx rfl (hb hby at_33) ?_
    refine XS.goto X37.here hx rfl (pc0 := 34) (pc' := 38) rfl (hb hby at_34) (by decide) (by decide) ?_
    show Steps p.tables e below (T37.setTop (mkF m 38 #[.val (.int x0), .val (.int x1), .val (.int (x1 &&& (7 : Int32))), .val (.ref r8), .val (.ref r6)] [(.int (1 : Int32))])) _
    exact retN X37 hx (t := .boolean) Bd.returns (by simp) (hb hby at_38) hr
  · show Q0_32 Z x0 x1 r2 c3 r4 r5 r6 r7 r8 r9 h0 n0 _ T37.heap _
    rw [E37]
    exact ⟨rfl, N37⟩
def Q0_33 (Z : State) (x0 : Int32) (x1 : Int32) (r2 : Addr) (c3 : ClassId) (r4 : Addr) (r5 : Addr) (r6 : Addr) (r7 : Addr) (r8 : Addr) (r9 : Addr) (h0 : Heap) (n0 : Nat) (v : Option Value) (h : Heap) (L : List Loc) : Prop := v = some (.int (1 : Int32)) ∧ Fr n0 L
set_option maxRecDepth 65536 in
set_option maxHeartbeats 40000000 in
theorem rm0_33 (l : Launch) (Z : State) (a0 : Array Value) (hw : ∀ d ∈ tables_1, d.before a0 Z = true) (ws : List Jvm.Cond) (x0 : Int32) (x1 : Int32) (r2 : Addr) (c3 : ClassId) (r4 : Addr) (r5 : Addr) (r6 : Addr) (r7 : Addr) (r8 : Addr) (r9 : Addr) (h0 : Heap) (n0 : Nat) (O0 : Old Z n0 h0) (f1 : Sta Z Z.heap cs0 "$VALUES" cs1 (.ref r2)) (f2 : Exa Z Z.heap r2 cs1) (f3 : Arv Z Z.heap r2 c3 (.object cs0) (6 : Int32) [(.ref r4), (.ref r5), (.ref r6), (.ref r7), (.ref r8), (.ref r9)] .null) (f4 : Fld Z Z.heap r4 cs0 "code" "I" (.int (1 : Int32))) (hc5 : ¬ ((1 : Int32) = x0)) (f6 : Fld Z Z.heap r5 cs0 "code" "I" (.int (2 : Int32))) (hc7 : ¬ ((2 : Int32) = x0)) (f8 : Fld Z Z.heap r6 cs0 "code" "I" (.int (3 : Int32))) (hc9 : ¬ ((3 : Int32) = x0)) (f10 : Fld Z Z.heap r7 cs0 "code" "I" (.int (4 : Int32))) (hc11 : ¬ ((4 : Int32) = x0)) (f12 : Fld Z Z.heap r8 cs0 "code" "I" (.int (5 : Int32))) (hc13 : (5 : Int32) = x0) (f14 : Fld Z Z.heap r9 cs0 "code" "I" (.int (6 : Int32))) (hc15 : ¬ ((6 : Int32) = x0)) (hc17 : ¬ ((1 : Int32) = (x1 &&& (7 : Int32)))) (hc18 : ¬ ((2 : Int32) = (x1 &&& (7 : Int32)))) (hc19 : ¬ ((3 : Int32) = (x1 &&& (7 : Int32)))) (hc20 : (4 : Int32) = (x1 &&& (7 : Int32))) (hc21 : ¬ ((5 : Int32) = (x1 &&& (7 : Int32)))) (hc22 : ¬ ((6 : Int32) = (x1 &&& (7 : Int32)))) (hc25 : ¬ (x0 = (1 : Int32))) (hc26 : ¬ (x0 = (2 : Int32))) (hc27 : ¬ (x0 = (3 : Int32))) (hc28 : ¬ (x0 = (4 : Int32))) (hc29 : x0 = (5 : Int32)) (f30 : Sta Z Z.heap cs0 "TEXT" cs5 (.ref r8)) (hc33 : ¬ ((x1 &&& (7 : Int32)) = (1 : Int32))) (hc34 : ¬ ((x1 &&& (7 : Int32)) = (2 : Int32))) (hc35 : ¬ ((x1 &&& (7 : Int32)) = (3 : Int32))) (hc36 : (x1 &&& (7 : Int32)) = (4 : Int32)) (f37 : Sta Z Z.heap cs0 "F64" cs5 (.ref r7)) :
    MetFree l x (head1 (Jvm.Cond.code x code maxLocals ret :: ws) room_1) (fun a U => a = #[(.int x0), (.int x1)] ∧ Z.Warmed39 U.vm ∧ U.heap = h0) (fun _ _ _ _ _ => True) (fun _ U o U' => ∃ v L, o = .returned v ∧ Q0_33 Z x0 x1 r2 c3 r4 r5 r6 r7 r8 r9 h0 n0 v U'.heap L ∧ FrameEnd U o U' L room_1.cells room_1.slots) := by
  refine MetFree.of_bodySF (plainFor_of_name pn_com_example_wiregather_wiregather_wire_FieldTypeOfCodePinLaw) hisR ?_
  intro p e s m args below meth c s₁ Bd hml0 hP hK
  obtain ⟨rfl, hZ, hh⟩ := hP
  have hx := Bd.exec
  have hby := Bd.bytes
  have hml : c.maxLocals = 5 := hml0
  have hown : s.vm.findClass cs4 = some m.cls := findClass_of_methodNamed Bd.named
  have hnm := (name_of_methodNamed Bd.named Bd.method).1
  have X0 : Stand p l e room_1 s m #[(.int x0), (.int x1)] below meth c s₁ [] 0 0 := Stand.of_body Bd
  have e0 : s₁.heap = h0 := by rw [← hh, Bd.state]; rfl
  have N0 := Fr.nil n0
  have pre0 : ∀ t, Steps p.tables e below (s₁.setTop (mkF m 0 #[.val (.int x0), .val (.int x1), .unset, .unset, .unset] [])) t → Steps p.tables e below (s₁.setTop (entryFrame m #[(.int x0), (.int x1)] maxLocals)) t := fun t k => castTop (by first | (simp [entryFrame, mkF, argsToLocals, Value.category, maxLocals]; done) | rfl) k
  obtain ⟨_, _, ⟨T16, L16, k16, n16⟩, -, X16, ⟨Lc16, hQ16, l16, y16, z16⟩, st16⟩ := Jvm.LawKit.callS X0 hx (y := (⟨cs0, "ofCode", cs3⟩ : MethodName)) hown (mvT hZ (ww hw 0 rfl)) (mvT hZ (ww hw 1 rfl)) (mvT hZ (ww hw 2 rfl)) (mvT hZ (ww hw 3 rfl)) (by decide) (backOf (W := 0) (rm1_6 l Z a0 hw [] x0 r2 c3 r4 r5 r6 r7 r8 r9 h0 n0 O0 f1 f2 f3 f4 hc5 f6 hc7 f8 hc9 f10 hc11 f12 hc13 f14 hc15) hZ (ww hw 3 rfl) (ww hw 2 rfl) (by decide) (by decide)) (g := (mkF m 6 #[.val (.int x0), .val (.int x1), .val (.int (x1 &&& (7 : Int32))), .unset, .unset] [(.int x0)])) rfl (by rw [hml]; rfl) (argsL := [(.int x0)]) (rest := []) (lenOf pd__I_Lcom_example_wiregather_wiregather_wire_FieldType_ rfl) rfl (by show 2 * 0 + _ ≤ _; exact Nat.le_of_eq rfl) (hb hby at_6) (fun _ _ => ⟨rfl, e0, (by decide : 0 + 1 ≤ _), (by decide : 0 + 6 ≤ _)⟩)
  dsimp only [Pt.U, Pt.locs, Pt.cells, Pt.slots] at X16 l16 y16 z16 st16 hQ16
  subst l16 y16 z16
  obtain ⟨rfl, N16q, K16⟩ := hQ16
  have N16 := Fr.app N0 N16q
  have o23 := Old.keep O0 K16 all0
  obtain ⟨_, _, ⟨T24, L24, k24, n24⟩, -, X24, ⟨Lc24, hQ24, l24, y24, z24⟩, st24⟩ := Jvm.LawKit.callS X16 hx (y := (⟨cs0, "ofCode", cs3⟩ : MethodName)) hown (mvT hZ (ww hw 0 rfl)) (mvT hZ (ww hw 1 rfl)) (mvT hZ (ww hw 2 rfl)) (mvT hZ (ww hw 3 rfl)) (by decide) (backOf (W := 0) (rm1_5 l Z a0 hw [] (x1 &&& (7 : Int32)) r2 c3 r4 r5 r6 r7 r8 r9 T16.heap n0 o23 f1 f2 f3 f4 hc17 f6 hc18 f8 hc19 f10 hc20 f12 hc21 f14 hc22) hZ (ww hw 3 rfl) (ww hw 2 rfl) (by decide) (by decide)) (g := (mkF m 11 #[.val (.int x0), .val (.int x1), .val (.int (x1 &&& (7 : Int32))), .val (.ref r8), .unset] [(.int (x1 &&& (7 : Int32)))])) rfl (by rw [hml]; rfl) (argsL := [(.int (x1 &&& (7 : Int32)))]) (rest := []) (lenOf pd__I_Lcom_example_wiregather_wiregather_wire_FieldType_ rfl) rfl (by show 2 * 0 + _ ≤ _; exact Nat.le_of_eq rfl) (hb hby at_11) (fun _ _ => ⟨rfl, rfl, (by decide : 1 + 1 ≤ _), (by decide : 6 + 6 ≤ _)⟩)
  dsimp only [Pt.U, Pt.locs, Pt.cells, Pt.slots] at X24 l24 y24 z24 st24 hQ24
  subst l24 y24 z24
  obtain ⟨rfl, N24q, K24⟩ := hQ24
  have N24 := Fr.app N16 N24q
  have o31 := Old.keep o23 K24 all0
  obtain ⟨_, _, ⟨T32, L32, k32, n32⟩, -, X32, ⟨Lc32, hQ32, l32, y32, z32⟩, st32⟩ := Jvm.LawKit.callS X24 hx (y := (⟨cs4, "expected", cs3⟩ : MethodName)) hown (mvT hZ (ww hw 27 rfl)) (mvT hZ (ww hw 28 rfl)) (mvT hZ (ww hw 29 rfl)) (mvT hZ (ww hw 30 rfl)) (by decide) (backOf (W := 1) (rm3_6 l Z a0 hw [] x0 r8 T24.heap n0 o31 hc25 hc26 hc27 hc28 hc29 f30) hZ (ww hw 30 rfl) (ww hw 29 rfl) (by decide) (by decide)) (g := (mkF m 18 #[.val (.int x0), .val (.int x1), .val (.int (x1 &&& (7 : Int32))), .val (.ref r8), .val (.ref r7)] [(.int x0), (.ref r8)])) rfl (by rw [hml]; rfl) (argsL := [(.int x0)]) (rest := [(.ref r8)]) (lenOf pd__I_Lcom_example_wiregather_wiregather_wire_FieldType_ rfl) rfl (by show 2 * 0 + _ ≤ _; exact Nat.le_of_eq rfl) (hb hby at_18) (fun _ _ => ⟨rfl, rfl, (by decide : 2 + 0 ≤ _), (by decide : 12 + 0 ≤ _)⟩)
  dsimp only [Pt.U, Pt.locs, Pt.cells, Pt.slots] at X32 l32 y32 z32 st32 hQ32
  subst l32 y32 z32
  obtain ⟨rfl, N32q, E32⟩ := hQ32
  have N32 := Fr.app N24 N32q
  obtain ⟨_, _, ⟨T38, L38, k38, n38⟩, -, X38, ⟨Lc38, hQ38, l38, y38, z38⟩, st38⟩ := Jvm.LawKit.callS X32 hx (y := (⟨cs4, "expected", cs3⟩ : MethodName)) hown (mvT hZ (ww hw 27 rfl)) (mvT hZ (ww hw 28 rfl)) (mvT hZ (ww hw 29 rfl)) (mvT hZ (ww hw 30 rfl)) (by decide) (backOf (W := 1) (rm3_5 l Z a0 hw [] (x1 &&& (7 : Int32)) r7 T24.heap n0 o31 hc33 hc34 hc35 hc36 f37) hZ (ww hw 30 rfl) (ww hw 29 rfl) (by decide) (by decide)) (g := (mkF m 27 #[.val (.int x0), .val (.int x1), .val (.int (x1 &&& (7 : Int32))), .val (.ref r8), .val (.ref r7)] [(.int (x1 &&& (7 : Int32))), (.ref r7)])) rfl (by rw [hml]; rfl) (argsL := [(.int (x1 &&& (7 : Int32)))]) (rest := [(.ref r7)]) (lenOf pd__I_Lcom_example_wiregather_wiregather_wire_FieldType_ rfl) rfl (by show 2 * 0 + _ ≤ _; exact Nat.le_of_eq rfl) (hb hby at_27) (fun _ _ => ⟨rfl, E32, (by decide : 2 + 0 ≤ _), (by decide : 12 + 0 ≤ _)⟩)
  dsimp only [Pt.U, Pt.locs, Pt.cells, Pt.slots] at X38 l38 y38 z38 st38 hQ38
  subst l38 y38 z38
  obtain ⟨rfl, N38q, E38⟩ := hQ38
  have N38 := Fr.app N32 N38q
  obtain ⟨fs, hr, hrun, hended, hW, hsame⟩ := X38.leave (v := some (.int (1 : Int32))) (fun h => by rw [Bd.returns] at h; cases h)
  refine ⟨_, _, pre0 _ ?_, hrun, hended, _, _, rfl, ?_, ⟨_, rfl⟩, hW, hsame.mono (by decide) (by decide)⟩
  · show Steps p.tables e below (s₁.setTop (mkF m 0 #[.val (.int x0), .val (.int x1), .unset, .unset, .unset] [])) _
    refine XS.iloadN X0.here hx rfl (hb hby at_0) rfl ?_
    refine XS.bipush X0.here hx rfl (hb hby at_1) ?_
    refine XS.iand X0.here hx rfl (hb hby at_3) rfl ?_
    refine XS.istoreN X0.here hx rfl (hb hby at_4) rfl (l' := #[.val (.int x0), .val (.int x1), .val (.int (x1 &&& (7 : Int32))), .unset, .unset]) rfl ?_
    show Steps p.tables e below (s₁.setTop (mkF m 5 #[.val (.int x0), .val (.int x1), .val (.int (x1 &&& (7 : Int32))), .unset, .unset] [])) _
    refine XS.iloadN X0.here hx rfl (hb hby at_5) rfl ?_
    refine st16 _ ?_
    show Steps p.tables e below (T16.setTop (mkF m 9 #[.val (.int x0), .val (.int x1), .val (.int (x1 &&& (7 : Int32))), .unset, .unset] [(.ref r8)])) _
    refine XS.astoreN X16.here hx rfl (hb hby at_9) rfl rfl (l' := #[.val (.int x0), .val (.int x1), .val (.int (x1 &&& (7 : Int32))), .val (.ref r8), .unset]) rfl ?_
    refine XS.iloadN X16.here hx rfl (hb hby at_10) rfl ?_
    refine st24 _ ?_
    show Steps p.tables e below (T24.setTop (mkF m 14 #[.val (.int x0), .val (.int x1), .val (.int (x1 &&& (7 : Int32))), .val (.ref r8), .unset] [(.ref r7)])) _
    refine XS.astore X24.here hx rfl (hb hby at_14) rfl rfl (l' := #[.val (.int x0), .val (.int x1), .val (.int (x1 &&& (7 : Int32))), .val (.ref r8), .val (.ref r7)]) rfl ?_
    refine XS.aloadN X24.here hx rfl (hb hby at_16) rfl rfl ?_
    refine XS.iloadN X24.here hx rfl (hb hby at_17) rfl ?_
    refine st32 _ ?_
    show Steps p.tables e below (T32.setTop (mkF m 21 #[.val (.int x0), .val (.int x1), .val (.int (x1 &&& (7 : Int32))), .val (.ref r8), .val (.ref r7)] [(.ref r8), (.ref r8)])) _
    refine Jvm.RoadKit.acmp (g := (mkF m 21 #[.val (.int x0), .val (.int x1), .val (.int (x1 &&& (7 : Int32))), .val (.ref r8), .val (.ref r7)] [(.ref r8), (.ref r8)])) X32 hx rfl rfl rfl (pc0 := 21) (pc' := 24) (same := true) rfl (hb hby at_21) rfl (decide_eq_true rfl) (by decide) (by decide) ?_
    show Steps p.tables e below (T32.setTop (mkF m 24 #[.val (.int x0), .val (.int x1), .val (.int (x1 &&& (7 : Int32))), .val (.ref r8), .val (.ref r7)] [])) _
    refine XS.aload X32.here hx rfl (hb hby at_24) rfl rfl ?_
    refine XS.iloadN X32.here hx rfl (hb hby at_26) rfl ?_
    refine st38 _ ?_
    show Steps p.tables e below (T38.setTop (mkF m 30 #[.val (.int x0), .val (.int x1), .val (.int (x1 &&& (7 : Int32))), .val (.ref r8), .val (.ref r7)] [(.ref r7), (.ref r7)])) _
    refine Jvm.RoadKit.acmp (g := (mkF m 30 #[.val (.int x0), .val (.int x1), .val (.int (x1 &&& (7 : Int32))), .val (.ref r8), .val (.ref r7)] [(.ref r7), (.ref r7)])) X38 hx rfl rfl rfl (pc0 := 30) (pc' := 33) (same := true) rfl (hb hby at_30) rfl (decide_eq_true rfl) (by decide) (by decide) ?_
    show Steps p.tables e below (T38.setTop (mkF m 33 #[.val (.int x0), .val (.int x1), .val (.int (x1 &&& (7 : Int32))), .val (.ref r8), .val (.ref r7)] [])) _
    refine XS.iconst X38.here hx rfl (hb hby at_33) ?_
    refine XS.goto X38.here hx rfl (pc0 := 34) (pc' := 38) rfl (hb hby at_34) (by decide) (by decide) ?_
    show Steps p.tables e below (T38.setTop (mkF m 38 #[.val (.int x0), .val (.int x1), .val (.int (x1 &&& (7 : Int32))), .val (.ref r8), .val (.ref r7)] [(.int (1 : Int32))])) _
    exact retN X38 hx (t := .boolean) Bd.returns (by simp) (hb hby at_38) hr
  · show Q0_33 Z x0 x1 r2 c3 r4 r5 r6 r7 r8 r9 h0 n0 _ T38.heap _
    rw [E38]
    exact ⟨rfl, N38⟩
def Q0_34 (Z : State) (x0 : Int32) (x1 : Int32) (r2 : Addr) (c3 : ClassId) (r4 : Addr) (r5 : Addr) (r6 : Addr) (r7 : Addr) (r8 : Addr) (r9 : Addr) (h0 : Heap) (n0 : Nat) (v : Option Value) (h : Heap) (L : List Loc) : Prop := v = some (.int (1 : Int32)) ∧ Fr n0 L
set_option maxRecDepth 65536 in
set_option maxHeartbeats 40000000 in
theorem rm0_34 (l : Launch) (Z : State) (a0 : Array Value) (hw : ∀ d ∈ tables_1, d.before a0 Z = true) (ws : List Jvm.Cond) (x0 : Int32) (x1 : Int32) (r2 : Addr) (c3 : ClassId) (r4 : Addr) (r5 : Addr) (r6 : Addr) (r7 : Addr) (r8 : Addr) (r9 : Addr) (h0 : Heap) (n0 : Nat) (O0 : Old Z n0 h0) (f1 : Sta Z Z.heap cs0 "$VALUES" cs1 (.ref r2)) (f2 : Exa Z Z.heap r2 cs1) (f3 : Arv Z Z.heap r2 c3 (.object cs0) (6 : Int32) [(.ref r4), (.ref r5), (.ref r6), (.ref r7), (.ref r8), (.ref r9)] .null) (f4 : Fld Z Z.heap r4 cs0 "code" "I" (.int (1 : Int32))) (hc5 : ¬ ((1 : Int32) = x0)) (f6 : Fld Z Z.heap r5 cs0 "code" "I" (.int (2 : Int32))) (hc7 : ¬ ((2 : Int32) = x0)) (f8 : Fld Z Z.heap r6 cs0 "code" "I" (.int (3 : Int32))) (hc9 : ¬ ((3 : Int32) = x0)) (f10 : Fld Z Z.heap r7 cs0 "code" "I" (.int (4 : Int32))) (hc11 : ¬ ((4 : Int32) = x0)) (f12 : Fld Z Z.heap r8 cs0 "code" "I" (.int (5 : Int32))) (hc13 : (5 : Int32) = x0) (f14 : Fld Z Z.heap r9 cs0 "code" "I" (.int (6 : Int32))) (hc15 : ¬ ((6 : Int32) = x0)) (hc17 : ¬ ((1 : Int32) = (x1 &&& (7 : Int32)))) (hc18 : ¬ ((2 : Int32) = (x1 &&& (7 : Int32)))) (hc19 : ¬ ((3 : Int32) = (x1 &&& (7 : Int32)))) (hc20 : ¬ ((4 : Int32) = (x1 &&& (7 : Int32)))) (hc21 : (5 : Int32) = (x1 &&& (7 : Int32))) (hc22 : ¬ ((6 : Int32) = (x1 &&& (7 : Int32)))) (hc25 : ¬ (x0 = (1 : Int32))) (hc26 : ¬ (x0 = (2 : Int32))) (hc27 : ¬ (x0 = (3 : Int32))) (hc28 : ¬ (x0 = (4 : Int32))) (hc29 : x0 = (5 : Int32)) (f30 : Sta Z Z.heap cs0 "TEXT" cs5 (.ref r8)) (hc33 : ¬ ((x1 &&& (7 : Int32)) = (1 : Int32))) (hc34 : ¬ ((x1 &&& (7 : Int32)) = (2 : Int32))) (hc35 : ¬ ((x1 &&& (7 : Int32)) = (3 : Int32))) (hc36 : ¬ ((x1 &&& (7 : Int32)) = (4 : Int32))) (hc37 : (x1 &&& (7 : Int32)) = (5 : Int32)) :
    MetFree l x (head1 (Jvm.Cond.code x code maxLocals ret :: ws) room_1) (fun a U => a = #[(.int x0), (.int x1)] ∧ Z.Warmed39 U.vm ∧ U.heap = h0) (fun _ _ _ _ _ => True) (fun _ U o U' => ∃ v L, o = .returned v ∧ Q0_34 Z x0 x1 r2 c3 r4 r5 r6 r7 r8 r9 h0 n0 v U'.heap L ∧ FrameEnd U o U' L room_1.cells room_1.slots) := by
  refine MetFree.of_bodySF (plainFor_of_name pn_com_example_wiregather_wiregather_wire_FieldTypeOfCodePinLaw) hisR ?_
  intro p e s m args below meth c s₁ Bd hml0 hP hK
  obtain ⟨rfl, hZ, hh⟩ := hP
  have hx := Bd.exec
  have hby := Bd.bytes
  have hml : c.maxLocals = 5 := hml0
  have hown : s.vm.findClass cs4 = some m.cls := findClass_of_methodNamed Bd.named
  have hnm := (name_of_methodNamed Bd.named Bd.method).1
  have X0 : Stand p l e room_1 s m #[(.int x0), (.int x1)] below meth c s₁ [] 0 0 := Stand.of_body Bd
  have e0 : s₁.heap = h0 := by rw [← hh, Bd.state]; rfl
  have N0 := Fr.nil n0
  have pre0 : ∀ t, Steps p.tables e below (s₁.setTop (mkF m 0 #[.val (.int x0), .val (.int x1), .unset, .unset, .unset] [])) t → Steps p.tables e below (s₁.setTop (entryFrame m #[(.int x0), (.int x1)] maxLocals)) t := fun t k => castTop (by first | (simp [entryFrame, mkF, argsToLocals, Value.category, maxLocals]; done) | rfl) k
  obtain ⟨_, _, ⟨T16, L16, k16, n16⟩, -, X16, ⟨Lc16, hQ16, l16, y16, z16⟩, st16⟩ := Jvm.LawKit.callS X0 hx (y := (⟨cs0, "ofCode", cs3⟩ : MethodName)) hown (mvT hZ (ww hw 0 rfl)) (mvT hZ (ww hw 1 rfl)) (mvT hZ (ww hw 2 rfl)) (mvT hZ (ww hw 3 rfl)) (by decide) (backOf (W := 0) (rm1_6 l Z a0 hw [] x0 r2 c3 r4 r5 r6 r7 r8 r9 h0 n0 O0 f1 f2 f3 f4 hc5 f6 hc7 f8 hc9 f10 hc11 f12 hc13 f14 hc15) hZ (ww hw 3 rfl) (ww hw 2 rfl) (by decide) (by decide)) (g := (mkF m 6 #[.val (.int x0), .val (.int x1), .val (.int (x1 &&& (7 : Int32))), .unset, .unset] [(.int x0)])) rfl (by rw [hml]; rfl) (argsL := [(.int x0)]) (rest := []) (lenOf pd__I_Lcom_example_wiregather_wiregather_wire_FieldType_ rfl) rfl (by show 2 * 0 + _ ≤ _; exact Nat.le_of_eq rfl) (hb hby at_6) (fun _ _ => ⟨rfl, e0, (by decide : 0 + 1 ≤ _), (by decide : 0 + 6 ≤ _)⟩)
  dsimp only [Pt.U, Pt.locs, Pt.cells, Pt.slots] at X16 l16 y16 z16 st16 hQ16
  subst l16 y16 z16
  obtain ⟨rfl, N16q, K16⟩ := hQ16
  have N16 := Fr.app N0 N16q
  have o23 := Old.keep O0 K16 all0
  obtain ⟨_, _, ⟨T24, L24, k24, n24⟩, -, X24, ⟨Lc24, hQ24, l24, y24, z24⟩, st24⟩ := Jvm.LawKit.callS X16 hx (y := (⟨cs0, "ofCode", cs3⟩ : MethodName)) hown (mvT hZ (ww hw 0 rfl)) (mvT hZ (ww hw 1 rfl)) (mvT hZ (ww hw 2 rfl)) (mvT hZ (ww hw 3 rfl)) (by decide) (backOf (W := 0) (rm1_6 l Z a0 hw [] (x1 &&& (7 : Int32)) r2 c3 r4 r5 r6 r7 r8 r9 T16.heap n0 o23 f1 f2 f3 f4 hc17 f6 hc18 f8 hc19 f10 hc20 f12 hc21 f14 hc22) hZ (ww hw 3 rfl) (ww hw 2 rfl) (by decide) (by decide)) (g := (mkF m 11 #[.val (.int x0), .val (.int x1), .val (.int (x1 &&& (7 : Int32))), .val (.ref r8), .unset] [(.int (x1 &&& (7 : Int32)))])) rfl (by rw [hml]; rfl) (argsL := [(.int (x1 &&& (7 : Int32)))]) (rest := []) (lenOf pd__I_Lcom_example_wiregather_wiregather_wire_FieldType_ rfl) rfl (by show 2 * 0 + _ ≤ _; exact Nat.le_of_eq rfl) (hb hby at_11) (fun _ _ => ⟨rfl, rfl, (by decide : 1 + 1 ≤ _), (by decide : 6 + 6 ≤ _)⟩)
  dsimp only [Pt.U, Pt.locs, Pt.cells, Pt.slots] at X24 l24 y24 z24 st24 hQ24
  subst l24 y24 z24
  obtain ⟨rfl, N24q, K24⟩ := hQ24
  have N24 := Fr.app N16 N24q
  have o31 := Old.keep o23 K24 all0
  obtain ⟨_, _, ⟨T32, L32, k32, n32⟩, -, X32, ⟨Lc32, hQ32, l32, y32, z32⟩, st32⟩ := Jvm.LawKit.callS X24 hx (y := (⟨cs4, "expected", cs3⟩ : MethodName)) hown (mvT hZ (ww hw 27 rfl)) (mvT hZ (ww hw 28 rfl)) (mvT hZ (ww hw 29 rfl)) (mvT hZ (ww hw 30 rfl)) (by decide) (backOf (W := 1) (rm3_6 l Z a0 hw [] x0 r8 T24.heap n0 o31 hc25 hc26 hc27 hc28 hc29 f30) hZ (ww hw 30 rfl) (ww hw 29 rfl) (by decide) (by decide)) (g := (mkF m 18 #[.val (.int x0), .val (.int x1), .val (.int (x1 &&& (7 : Int32))), .val (.ref r8), .val (.ref r8)] [(.int x0), (.ref r8)])) rfl (by rw [hml]; rfl) (argsL := [(.int x0)]) (rest := [(.ref r8)]) (lenOf pd__I_Lcom_example_wiregather_wiregather_wire_FieldType_ rfl) rfl (by show 2 * 0 + _ ≤ _; exact Nat.le_of_eq rfl) (hb hby at_18) (fun _ _ => ⟨rfl, rfl, (by decide : 2 + 0 ≤ _), (by decide : 12 + 0 ≤ _)⟩)
  dsimp only [Pt.U, Pt.locs, Pt.cells, Pt.slots] at X32 l32 y32 z32 st32 hQ32
  subst l32 y32 z32
  obtain ⟨rfl, N32q, E32⟩ := hQ32
  have N32 := Fr.app N24 N32q
  obtain ⟨_, _, ⟨T38, L38, k38, n38⟩, -, X38, ⟨Lc38, hQ38, l38, y38, z38⟩, st38⟩ := Jvm.LawKit.callS X32 hx (y := (⟨cs4, "expected", cs3⟩ : MethodName)) hown (mvT hZ (ww hw 27 rfl)) (mvT hZ (ww hw 28 rfl)) (mvT hZ (ww hw 29 rfl)) (mvT hZ (ww hw 30 rfl)) (by decide) (backOf (W := 1) (rm3_6 l Z a0 hw [] (x1 &&& (7 : Int32)) r8 T24.heap n0 o31 hc33 hc34 hc35 hc36 hc37 f30) hZ (ww hw 30 rfl) (ww hw 29 rfl) (by decide) (by decide)) (g := (mkF m 27 #[.val (.int x0), .val (.int x1), .val (.int (x1 &&& (7 : Int32))), .val (.ref r8), .val (.ref r8)] [(.int (x1 &&& (7 : Int32))), (.ref r8)])) rfl (by rw [hml]; rfl) (argsL := [(.int (x1 &&& (7 : Int32)))]) (rest := [(.ref r8)]) (lenOf pd__I_Lcom_example_wiregather_wiregather_wire_FieldType_ rfl) rfl (by show 2 * 0 + _ ≤ _; exact Nat.le_of_eq rfl) (hb hby at_27) (fun _ _ => ⟨rfl, E32, (by decide : 2 + 0 ≤ _), (by decide : 12 + 0 ≤ _)⟩)
  dsimp only [Pt.U, Pt.locs, Pt.cells, Pt.slots] at X38 l38 y38 z38 st38 hQ38
  subst l38 y38 z38
  obtain ⟨rfl, N38q, E38⟩ := hQ38
  have N38 := Fr.app N32 N38q
  obtain ⟨fs, hr, hrun, hended, hW, hsame⟩ := X38.leave (v := some (.int (1 : Int32))) (fun h => by rw [Bd.returns] at h; cases h)
  refine ⟨_, _, pre0 _ ?_, hrun, hended, _, _, rfl, ?_, ⟨_, rfl⟩, hW, hsame.mono (by decide) (by decide)⟩
  · show Steps p.tables e below (s₁.setTop (mkF m 0 #[.val (.int x0), .val (.int x1), .unset, .unset, .unset] [])) _
    refine XS.iloadN X0.here hx rfl (hb hby at_0) rfl ?_
    refine XS.bipush X0.here hx rfl (hb hby at_1) ?_
    refine XS.iand X0.here hx rfl (hb hby at_3) rfl ?_
    refine XS.istoreN X0.here hx rfl (hb hby at_4) rfl (l' := #[.val (.int x0), .val (.int x1), .val (.int (x1 &&& (7 : Int32))), .unset, .unset]) rfl ?_
    show Steps p.tables e below (s₁.setTop (mkF m 5 #[.val (.int x0), .val (.int x1), .val (.int (x1 &&& (7 : Int32))), .unset, .unset] [])) _
    refine XS.iloadN X0.here hx rfl (hb hby at_5) rfl ?_
    refine st16 _ ?_
    show Steps p.tables e below (T16.setTop (mkF m 9 #[.val (.int x0), .val (.int x1), .val (.int (x1 &&& (7 : Int32))), .unset, .unset] [(.ref r8)])) _
    refine XS.astoreN X16.here hx rfl (hb hby at_9) rfl rfl (l' := #[.val (.int x0), .val (.int x1), .val (.int (x1 &&& (7 : Int32))), .val (.ref r8), .unset]) rfl ?_
    refine XS.iloadN X16.here hx rfl (hb hby at_10) rfl ?_
    refine st24 _ ?_
    show Steps p.tables e below (T24.setTop (mkF m 14 #[.val (.int x0), .val (.int x1), .val (.int (x1 &&& (7 : Int32))), .val (.ref r8), .unset] [(.ref r8)])) _
    refine XS.astore X24.here hx rfl (hb hby at_14) rfl rfl (l' := #[.val (.int x0), .val (.int x1), .val (.int (x1 &&& (7 : Int32))), .val (.ref r8), .val (.ref r8)]) rfl ?_
    refine XS.aloadN X24.here hx rfl (hb hby at_16) rfl rfl ?_
    refine XS.iloadN X24.here hx rfl (hb hby at_17) rfl ?_
    refine st32 _ ?_
    show Steps p.tables e below (T32.setTop (mkF m 21 #[.val (.int x0), .val (.int x1), .val (.int (x1 &&& (7 : Int32))), .val (.ref r8), .val (.ref r8)] [(.ref r8), (.ref r8)])) _
    refine Jvm.RoadKit.acmp (g := (mkF m 21 #[.val (.int x0), .val (.int x1), .val (.int (x1 &&& (7 : Int32))), .val (.ref r8), .val (.ref r8)] [(.ref r8), (.ref r8)])) X32 hx rfl rfl rfl (pc0 := 21) (pc' := 24) (same := true) rfl (hb hby at_21) rfl (decide_eq_true rfl) (by decide) (by decide) ?_
    show Steps p.tables e below (T32.setTop (mkF m 24 #[.val (.int x0), .val (.int x1), .val (.int (x1 &&& (7 : Int32))), .val (.ref r8), .val (.ref r8)] [])) _
    refine XS.aload X32.here hx rfl (hb hby at_24) rfl rfl ?_
    refine XS.iloadN X32.here hx rfl (hb hby at_26) rfl ?_
    refine st38 _ ?_
    show Steps p.tables e below (T38.setTop (mkF m 30 #[.val (.int x0), .val (.int x1), .val (.int (x1 &&& (7 : Int32))), .val (.ref r8), .val (.ref r8)] [(.ref r8), (.ref r8)])) _
    refine Jvm.RoadKit.acmp (g := (mkF m 30 #[.val (.int x0), .val (.int x1), .val (.int (x1 &&& (7 : Int32))), .val (.ref r8), .val (.ref r8)] [(.ref r8), (.ref r8)])) X38 hx rfl rfl rfl (pc0 := 30) (pc' := 33) (same := true) rfl (hb hby at_30) rfl (decide_eq_true rfl) (by decide) (by decide) ?_
    show Steps p.tables e below (T38.setTop (mkF m 33 #[.val (.int x0), .val (.int x1), .val (.int (x1 &&& (7 : Int32))), .val (.ref r8), .val (.ref r8)] [])) _
    refine XS.iconst X38.here hx rfl (hb hby at_33) ?_
    refine XS.goto X38.here hx rfl (pc0 := 34) (pc' := 38) rfl (hb hby at_34) (by decide) (by decide) ?_
    show Steps p.tables e below (T38.setTop (mkF m 38 #[.val (.int x0), .val (.int x1), .val (.int (x1 &&& (7 : Int32))), .val (.ref r8), .val (.ref r8)] [(.int (1 : Int32))])) _
    exact retN X38 hx (t := .boolean) Bd.returns (by simp) (hb hby at_38) hr
  · show Q0_34 Z x0 x1 r2 c3 r4 r5 r6 r7 r8 r9 h0 n0 _ T38.heap _
    rw [E38]
    exact ⟨rfl, N38⟩
def Q0_35 (Z : State) (x0 : Int32) (x1 : Int32) (r2 : Addr) (c3 : ClassId) (r4 : Addr) (r5 : Addr) (r6 : Addr) (r7 : Addr) (r8 : Addr) (r9 : Addr) (h0 : Heap) (n0 : Nat) (v : Option Value) (h : Heap) (L : List Loc) : Prop := v = some (.int (1 : Int32)) ∧ Fr n0 L
set_option maxRecDepth 65536 in
set_option maxHeartbeats 40000000 in
theorem rm0_35 (l : Launch) (Z : State) (a0 : Array Value) (hw : ∀ d ∈ tables_1, d.before a0 Z = true) (ws : List Jvm.Cond) (x0 : Int32) (x1 : Int32) (r2 : Addr) (c3 : ClassId) (r4 : Addr) (r5 : Addr) (r6 : Addr) (r7 : Addr) (r8 : Addr) (r9 : Addr) (h0 : Heap) (n0 : Nat) (O0 : Old Z n0 h0) (f1 : Sta Z Z.heap cs0 "$VALUES" cs1 (.ref r2)) (f2 : Exa Z Z.heap r2 cs1) (f3 : Arv Z Z.heap r2 c3 (.object cs0) (6 : Int32) [(.ref r4), (.ref r5), (.ref r6), (.ref r7), (.ref r8), (.ref r9)] .null) (f4 : Fld Z Z.heap r4 cs0 "code" "I" (.int (1 : Int32))) (hc5 : ¬ ((1 : Int32) = x0)) (f6 : Fld Z Z.heap r5 cs0 "code" "I" (.int (2 : Int32))) (hc7 : ¬ ((2 : Int32) = x0)) (f8 : Fld Z Z.heap r6 cs0 "code" "I" (.int (3 : Int32))) (hc9 : ¬ ((3 : Int32) = x0)) (f10 : Fld Z Z.heap r7 cs0 "code" "I" (.int (4 : Int32))) (hc11 : ¬ ((4 : Int32) = x0)) (f12 : Fld Z Z.heap r8 cs0 "code" "I" (.int (5 : Int32))) (hc13 : (5 : Int32) = x0) (f14 : Fld Z Z.heap r9 cs0 "code" "I" (.int (6 : Int32))) (hc15 : ¬ ((6 : Int32) = x0)) (hc17 : ¬ ((1 : Int32) = (x1 &&& (7 : Int32)))) (hc18 : ¬ ((2 : Int32) = (x1 &&& (7 : Int32)))) (hc19 : ¬ ((3 : Int32) = (x1 &&& (7 : Int32)))) (hc20 : ¬ ((4 : Int32) = (x1 &&& (7 : Int32)))) (hc21 : ¬ ((5 : Int32) = (x1 &&& (7 : Int32)))) (hc22 : (6 : Int32) = (x1 &&& (7 : Int32))) (hc25 : ¬ (x0 = (1 : Int32))) (hc26 : ¬ (x0 = (2 : Int32))) (hc27 : ¬ (x0 = (3 : Int32))) (hc28 : ¬ (x0 = (4 : Int32))) (hc29 : x0 = (5 : Int32)) (f30 : Sta Z Z.heap cs0 "TEXT" cs5 (.ref r8)) (hc33 : ¬ ((x1 &&& (7 : Int32)) = (1 : Int32))) (hc34 : ¬ ((x1 &&& (7 : Int32)) = (2 : Int32))) (hc35 : ¬ ((x1 &&& (7 : Int32)) = (3 : Int32))) (hc36 : ¬ ((x1 &&& (7 : Int32)) = (4 : Int32))) (hc37 : ¬ ((x1 &&& (7 : Int32)) = (5 : Int32))) (hc38 : (x1 &&& (7 : Int32)) = (6 : Int32)) (f39 : Sta Z Z.heap cs0 "GUID" cs5 (.ref r9)) :
    MetFree l x (head1 (Jvm.Cond.code x code maxLocals ret :: ws) room_1) (fun a U => a = #[(.int x0), (.int x1)] ∧ Z.Warmed39 U.vm ∧ U.heap = h0) (fun _ _ _ _ _ => True) (fun _ U o U' => ∃ v L, o = .returned v ∧ Q0_35 Z x0 x1 r2 c3 r4 r5 r6 r7 r8 r9 h0 n0 v U'.heap L ∧ FrameEnd U o U' L room_1.cells room_1.slots) := by
  refine MetFree.of_bodySF (plainFor_of_name pn_com_example_wiregather_wiregather_wire_FieldTypeOfCodePinLaw) hisR ?_
  intro p e s m args below meth c s₁ Bd hml0 hP hK
  obtain ⟨rfl, hZ, hh⟩ := hP
  have hx := Bd.exec
  have hby := Bd.bytes
  have hml : c.maxLocals = 5 := hml0
  have hown : s.vm.findClass cs4 = some m.cls := findClass_of_methodNamed Bd.named
  have hnm := (name_of_methodNamed Bd.named Bd.method).1
  have X0 : Stand p l e room_1 s m #[(.int x0), (.int x1)] below meth c s₁ [] 0 0 := Stand.of_body Bd
  have e0 : s₁.heap = h0 := by rw [← hh, Bd.state]; rfl
  have N0 := Fr.nil n0
  have pre0 : ∀ t, Steps p.tables e below (s₁.setTop (mkF m 0 #[.val (.int x0), .val (.int x1), .unset, .unset, .unset] [])) t → Steps p.tables e below (s₁.setTop (entryFrame m #[(.int x0), (.int x1)] maxLocals)) t := fun t k => castTop (by first | (simp [entryFrame, mkF, argsToLocals, Value.category, maxLocals]; done) | rfl) k
  obtain ⟨_, _, ⟨T16, L16, k16, n16⟩, -, X16, ⟨Lc16, hQ16, l16, y16, z16⟩, st16⟩ := Jvm.LawKit.callS X0 hx (y := (⟨cs0, "ofCode", cs3⟩ : MethodName)) hown (mvT hZ (ww hw 0 rfl)) (mvT hZ (ww hw 1 rfl)) (mvT hZ (ww hw 2 rfl)) (mvT hZ (ww hw 3 rfl)) (by decide) (backOf (W := 0) (rm1_6 l Z a0 hw [] x0 r2 c3 r4 r5 r6 r7 r8 r9 h0 n0 O0 f1 f2 f3 f4 hc5 f6 hc7 f8 hc9 f10 hc11 f12 hc13 f14 hc15) hZ (ww hw 3 rfl) (ww hw 2 rfl) (by decide) (by decide)) (g := (mkF m 6 #[.val (.int x0), .val (.int x1), .val (.int (x1 &&& (7 : Int32))), .unset, .unset] [(.int x0)])) rfl (by rw [hml]; rfl) (argsL := [(.int x0)]) (rest := []) (lenOf pd__I_Lcom_example_wiregather_wiregather_wire_FieldType_ rfl) rfl (by show 2 * 0 + _ ≤ _; exact Nat.le_of_eq rfl) (hb hby at_6) (fun _ _ => ⟨rfl, e0, (by decide : 0 + 1 ≤ _), (by decide : 0 + 6 ≤ _)⟩)
  dsimp only [Pt.U, Pt.locs, Pt.cells, Pt.slots] at X16 l16 y16 z16 st16 hQ16
  subst l16 y16 z16
  obtain ⟨rfl, N16q, K16⟩ := hQ16
  have N16 := Fr.app N0 N16q
  have o23 := Old.keep O0 K16 all0
  obtain ⟨_, _, ⟨T24, L24, k24, n24⟩, -, X24, ⟨Lc24, hQ24, l24, y24, z24⟩, st24⟩ := Jvm.LawKit.callS X16 hx (y := (⟨cs0, "ofCode", cs3⟩ : MethodName)) hown (mvT hZ (ww hw 0 rfl)) (mvT hZ (ww hw 1 rfl)) (mvT hZ (ww hw 2 rfl)) (mvT hZ (ww hw 3 rfl)) (by decide) (backOf (W := 0) (rm1_7 l Z a0 hw [] (x1 &&& (7 : Int32)) r2 c3 r4 r5 r6 r7 r8 r9 T16.heap n0 o23 f1 f2 f3 f4 hc17 f6 hc18 f8 hc19 f10 hc20 f12 hc21 f14 hc22) hZ (ww hw 3 rfl) (ww hw 2 rfl) (by decide) (by decide)) (g := (mkF m 11 #[.val (.int x0), .val (.int x1), .val (.int (x1 &&& (7 : Int32))), .val (.ref r8), .unset] [(.int (x1 &&& (7 : Int32)))])) rfl (by rw [hml]; rfl) (argsL := [(.int (x1 &&& (7 : Int32)))]) (rest := []) (lenOf pd__I_Lcom_example_wiregather_wiregather_wire_FieldType_ rfl) rfl (by show 2 * 0 + _ ≤ _; exact Nat.le_of_eq rfl) (hb hby at_11) (fun _ _ => ⟨rfl, rfl, (by decide : 1 + 1 ≤ _), (by decide : 6 + 6 ≤ _)⟩)
  dsimp only [Pt.U, Pt.locs, Pt.cells, Pt.slots] at X24 l24 y24 z24 st24 hQ24
  subst l24 y24 z24
  obtain ⟨rfl, N24q, K24⟩ := hQ24
  have N24 := Fr.app N16 N24q
  have o31 := Old.keep o23 K24 all0
  obtain ⟨_, _, ⟨T32, L32, k32, n32⟩, -, X32, ⟨Lc32, hQ32, l32, y32, z32⟩, st32⟩ := Jvm.LawKit.callS X24 hx (y := (⟨cs4, "expected", cs3⟩ : MethodName)) hown (mvT hZ (ww hw 27 rfl)) (mvT hZ (ww hw 28 rfl)) (mvT hZ (ww hw 29 rfl)) (mvT hZ (ww hw 30 rfl)) (by decide) (backOf (W := 1) (rm3_6 l Z a0 hw [] x0 r8 T24.heap n0 o31 hc25 hc26 hc27 hc28 hc29 f30) hZ (ww hw 30 rfl) (ww hw 29 rfl) (by decide) (by decide)) (g := (mkF m 18 #[.val (.int x0), .val (.int x1), .val (.int (x1 &&& (7 : Int32))), .val (.ref r8), .val (.ref r9)] [(.int x0), (.ref r8)])) rfl (by rw [hml]; rfl) (argsL := [(.int x0)]) (rest := [(.ref r8)]) (lenOf pd__I_Lcom_example_wiregather_wiregather_wire_FieldType_ rfl) rfl (by show 2 * 0 + _ ≤ _; exact Nat.le_of_eq rfl) (hb hby at_18) (fun _ _ => ⟨rfl, rfl, (by decide : 2 + 0 ≤ _), (by decide : 12 + 0 ≤ _)⟩)
  dsimp only [Pt.U, Pt.locs, Pt.cells, Pt.slots] at X32 l32 y32 z32 st32 hQ32
  subst l32 y32 z32
  obtain ⟨rfl, N32q, E32⟩ := hQ32
  have N32 := Fr.app N24 N32q
  obtain ⟨_, _, ⟨T40, L40, k40, n40⟩, -, X40, ⟨Lc40, hQ40, l40, y40, z40⟩, st40⟩ := Jvm.LawKit.callS X32 hx (y := (⟨cs4, "expected", cs3⟩ : MethodName)) hown (mvT hZ (ww hw 27 rfl)) (mvT hZ (ww hw 28 rfl)) (mvT hZ (ww hw 29 rfl)) (mvT hZ (ww hw 30 rfl)) (by decide) (backOf (W := 1) (rm3_7 l Z a0 hw [] (x1 &&& (7 : Int32)) r9 T24.heap n0 o31 hc33 hc34 hc35 hc36 hc37 hc38 f39) hZ (ww hw 30 rfl) (ww hw 29 rfl) (by decide) (by decide)) (g := (mkF m 27 #[.val (.int x0), .val (.int x1), .val (.int (x1 &&& (7 : Int32))), .val (.ref r8), .val (.ref r9)] [(.int (x1 &&& (7 : Int32))), (.ref r9)])) rfl (by rw [hml]; rfl) (argsL := [(.int (x1 &&& (7 : Int32)))]) (rest := [(.ref r9)]) (lenOf pd__I_Lcom_example_wiregather_wiregather_wire_FieldType_ rfl) rfl (by show 2 * 0 + _ ≤ _; exact Nat.le_of_eq rfl) (hb hby at_27) (fun _ _ => ⟨rfl, E32, (by decide : 2 + 0 ≤ _), (by decide : 12 + 0 ≤ _)⟩)
  dsimp only [Pt.U, Pt.locs, Pt.cells, Pt.slots] at X40 l40 y40 z40 st40 hQ40
  subst l40 y40 z40
  obtain ⟨rfl, N40q, E40⟩ := hQ40
  have N40 := Fr.app N32 N40q
  obtain ⟨fs, hr, hrun, hended, hW, hsame⟩ := X40.leave (v := some (.int (1 : Int32))) (fun h => by rw [Bd.returns] at h; cases h)
  refine ⟨_, _, pre0 _ ?_, hrun, hended, _, _, rfl, ?_, ⟨_, rfl⟩, hW, hsame.mono (by decide) (by decide)⟩
  · show Steps p.tables e below (s₁.setTop (mkF m 0 #[.val (.int x0), .val (.int x1), .unset, .unset, .unset] [])) _
    refine XS.iloadN X0.here hx rfl (hb hby at_0) rfl ?_
    refine XS.bipush X0.here hx rfl (hb hby at_1) ?_
    refine XS.iand X0.here hx rfl (hb hby at_3) rfl ?_
    refine XS.istoreN X0.here hx rfl (hb hby at_4) rfl (l' := #[.val (.int x0), .val (.int x1), .val (.int (x1 &&& (7 : Int32))), .unset, .unset]) rfl ?_
    show Steps p.tables e below (s₁.setTop (mkF m 5 #[.val (.int x0), .val (.int x1), .val (.int (x1 &&& (7 : Int32))), .unset, .unset] [])) _
    refine XS.iloadN X0.here hx rfl (hb hby at_5) rfl ?_
    refine st16 _ ?_
    show Steps p.tables e below (T16.setTop (mkF m 9 #[.val (.int x0), .val (.int x1), .val (.int (x1 &&& (7 : Int32))), .unset, .unset] [(.ref r8)])) _
    refine XS.astoreN X16.here hx rfl (hb hby at_9) rfl rfl (l' := #[.val (.int x0), .val (.int x1), .val (.int (x1 &&& (7 : Int32))), .val (.ref r8), .unset]) rfl ?_
    refine XS.iloadN X16.here hx rfl (hb hby at_10) rfl ?_
    refine st24 _ ?_
    show Steps p.tables e below (T24.setTop (mkF m 14 #[.val (.int x0), .val (.int x1), .val (.int (x1 &&& (7 : Int32))), .val (.ref r8), .unset] [(.ref r9)])) _
    refine XS.astore X24.here hx rfl (hb hby at_14) rfl rfl (l' := #[.val (.int x0), .val (.int x1), .val (.int (x1 &&& (7 : Int32))), .val (.ref r8), .val (.ref r9)]) rfl ?_
    refine XS.aloadN X24.here hx rfl (hb hby at_16) rfl rfl ?_
    refine XS.iloadN X24.here hx rfl (hb hby at_17) rfl ?_
    refine st32 _ ?_
    show Steps p.tables e below (T32.setTop (mkF m 21 #[.val (.int x0), .val (.int x1), .val (.int (x1 &&& (7 : Int32))), .val (.ref r8), .val (.ref r9)] [(.ref r8), (.ref r8)])) _
    refine Jvm.RoadKit.acmp (g := (mkF m 21 #[.val (.int x0), .val (.int x1), .val (.int (x1 &&& (7 : Int32))), .val (.ref r8), .val (.ref r9)] [(.ref r8), (.ref r8)])) X32 hx rfl rfl rfl (pc0 := 21) (pc' := 24) (same := true) rfl (hb hby at_21) rfl (decide_eq_true rfl) (by decide) (by decide) ?_
    show Steps p.tables e below (T32.setTop (mkF m 24 #[.val (.int x0), .val (.int x1), .val (.int (x1 &&& (7 : Int32))), .val (.ref r8), .val (.ref r9)] [])) _
    refine XS.aload X32.here hx rfl (hb hby at_24) rfl rfl ?_
    refine XS.iloadN X32.here hx rfl (hb hby at_26) rfl ?_
    refine st40 _ ?_
    show Steps p.tables e below (T40.setTop (mkF m 30 #[.val (.int x0), .val (.int x1), .val (.int (x1 &&& (7 : Int32))), .val (.ref r8), .val (.ref r9)] [(.ref r9), (.ref r9)])) _
    refine Jvm.RoadKit.acmp (g := (mkF m 30 #[.val (.int x0), .val (.int x1), .val (.int (x1 &&& (7 : Int32))), .val (.ref r8), .val (.ref r9)] [(.ref r9), (.ref r9)])) X40 hx rfl rfl rfl (pc0 := 30) (pc' := 33) (same := true) rfl (hb hby at_30) rfl (decide_eq_true rfl) (by decide) (by decide) ?_
    show Steps p.tables e below (T40.setTop (mkF m 33 #[.val (.int x0), .val (.int x1), .val (.int (x1 &&& (7 : Int32))), .val (.ref r8), .val (.ref r9)] [])) _
    refine XS.iconst X40.here hx rfl (hb hby at_33) ?_
    refine XS.goto X40.here hx rfl (pc0 := 34) (pc' := 38) rfl (hb hby at_34) (by decide) (by decide) ?_
    show Steps p.tables e below (T40.setTop (mkF m 38 #[.val (.int x0), .val (.int x1), .val (.int (x1 &&& (7 : Int32))), .val (.ref r8), .val (.ref r9)] [(.int (1 : Int32))])) _
    exact retN X40 hx (t := .boolean) Bd.returns (by simp) (hb hby at_38) hr
  · show Q0_35 Z x0 x1 r2 c3 r4 r5 r6 r7 r8 r9 h0 n0 _ T40.heap _
    rw [E40]
    exact ⟨rfl, N40⟩
def Q0_36 (Z : State) (x0 : Int32) (x1 : Int32) (r2 : Addr) (c3 : ClassId) (r4 : Addr) (r5 : Addr) (r6 : Addr) (r7 : Addr) (r8 : Addr) (r9 : Addr) (h0 : Heap) (n0 : Nat) (v : Option Value) (h : Heap) (L : List Loc) : Prop := v = some (.int (1 : Int32)) ∧ Fr n0 L
set_option maxRecDepth 65536 in
set_option maxHeartbeats 40000000 in
theorem rm0_36 (l : Launch) (Z : State) (a0 : Array Value) (hw : ∀ d ∈ tables_1, d.before a0 Z = true) (ws : List Jvm.Cond) (x0 : Int32) (x1 : Int32) (r2 : Addr) (c3 : ClassId) (r4 : Addr) (r5 : Addr) (r6 : Addr) (r7 : Addr) (r8 : Addr) (r9 : Addr) (h0 : Heap) (n0 : Nat) (O0 : Old Z n0 h0) (f1 : Sta Z Z.heap cs0 "$VALUES" cs1 (.ref r2)) (f2 : Exa Z Z.heap r2 cs1) (f3 : Arv Z Z.heap r2 c3 (.object cs0) (6 : Int32) [(.ref r4), (.ref r5), (.ref r6), (.ref r7), (.ref r8), (.ref r9)] .null) (f4 : Fld Z Z.heap r4 cs0 "code" "I" (.int (1 : Int32))) (hc5 : ¬ ((1 : Int32) = x0)) (f6 : Fld Z Z.heap r5 cs0 "code" "I" (.int (2 : Int32))) (hc7 : ¬ ((2 : Int32) = x0)) (f8 : Fld Z Z.heap r6 cs0 "code" "I" (.int (3 : Int32))) (hc9 : ¬ ((3 : Int32) = x0)) (f10 : Fld Z Z.heap r7 cs0 "code" "I" (.int (4 : Int32))) (hc11 : ¬ ((4 : Int32) = x0)) (f12 : Fld Z Z.heap r8 cs0 "code" "I" (.int (5 : Int32))) (hc13 : ¬ ((5 : Int32) = x0)) (f14 : Fld Z Z.heap r9 cs0 "code" "I" (.int (6 : Int32))) (hc15 : (6 : Int32) = x0) (hc17 : ¬ ((1 : Int32) = (x1 &&& (7 : Int32)))) (hc18 : ¬ ((2 : Int32) = (x1 &&& (7 : Int32)))) (hc19 : ¬ ((3 : Int32) = (x1 &&& (7 : Int32)))) (hc20 : ¬ ((4 : Int32) = (x1 &&& (7 : Int32)))) (hc21 : ¬ ((5 : Int32) = (x1 &&& (7 : Int32)))) (hc22 : ¬ ((6 : Int32) = (x1 &&& (7 : Int32)))) (hc25 : ¬ (x0 = (1 : Int32))) (hc26 : ¬ (x0 = (2 : Int32))) (hc27 : ¬ (x0 = (3 : Int32))) (hc28 : ¬ (x0 = (4 : Int32))) (hc29 : ¬ (x0 = (5 : Int32))) (hc30 : x0 = (6 : Int32)) (f31 : Sta Z Z.heap cs0 "GUID" cs5 (.ref r9)) (hc34 : ¬ ((x1 &&& (7 : Int32)) = (1 : Int32))) (hc35 : ¬ ((x1 &&& (7 : Int32)) = (2 : Int32))) (hc36 : ¬ ((x1 &&& (7 : Int32)) = (3 : Int32))) (hc37 : ¬ ((x1 &&& (7 : Int32)) = (4 : Int32))) (hc38 : ¬ ((x1 &&& (7 : Int32)) = (5 : Int32))) (hc39 : ¬ ((x1 &&& (7 : Int32)) = (6 : Int32))) :
    MetFree l x (head1 (Jvm.Cond.code x code maxLocals ret :: ws) room_1) (fun a U => a = #[(.int x0), (.int x1)] ∧ Z.Warmed39 U.vm ∧ U.heap = h0) (fun _ _ _ _ _ => True) (fun _ U o U' => ∃ v L, o = .returned v ∧ Q0_36 Z x0 x1 r2 c3 r4 r5 r6 r7 r8 r9 h0 n0 v U'.heap L ∧ FrameEnd U o U' L room_1.cells room_1.slots) := by
  refine MetFree.of_bodySF (plainFor_of_name pn_com_example_wiregather_wiregather_wire_FieldTypeOfCodePinLaw) hisR ?_
  intro p e s m args below meth c s₁ Bd hml0 hP hK
  obtain ⟨rfl, hZ, hh⟩ := hP
  have hx := Bd.exec
  have hby := Bd.bytes
  have hml : c.maxLocals = 5 := hml0
  have hown : s.vm.findClass cs4 = some m.cls := findClass_of_methodNamed Bd.named
  have hnm := (name_of_methodNamed Bd.named Bd.method).1
  have X0 : Stand p l e room_1 s m #[(.int x0), (.int x1)] below meth c s₁ [] 0 0 := Stand.of_body Bd
  have e0 : s₁.heap = h0 := by rw [← hh, Bd.state]; rfl
  have N0 := Fr.nil n0
  have pre0 : ∀ t, Steps p.tables e below (s₁.setTop (mkF m 0 #[.val (.int x0), .val (.int x1), .unset, .unset, .unset] [])) t → Steps p.tables e below (s₁.setTop (entryFrame m #[(.int x0), (.int x1)] maxLocals)) t := fun t k => castTop (by first | (simp [entryFrame, mkF, argsToLocals, Value.category, maxLocals]; done) | rfl) k
  obtain ⟨_, _, ⟨T16, L16, k16, n16⟩, -, X16, ⟨Lc16, hQ16, l16, y16, z16⟩, st16⟩ := Jvm.LawKit.callS X0 hx (y := (⟨cs0, "ofCode", cs3⟩ : MethodName)) hown (mvT hZ (ww hw 0 rfl)) (mvT hZ (ww hw 1 rfl)) (mvT hZ (ww hw 2 rfl)) (mvT hZ (ww hw 3 rfl)) (by decide) (backOf (W := 0) (rm1_7 l Z a0 hw [] x0 r2 c3 r4 r5 r6 r7 r8 r9 h0 n0 O0 f1 f2 f3 f4 hc5 f6 hc7 f8 hc9 f10 hc11 f12 hc13 f14 hc15) hZ (ww hw 3 rfl) (ww hw 2 rfl) (by decide) (by decide)) (g := (mkF m 6 #[.val (.int x0), .val (.int x1), .val (.int (x1 &&& (7 : Int32))), .unset, .unset] [(.int x0)])) rfl (by rw [hml]; rfl) (argsL := [(.int x0)]) (rest := []) (lenOf pd__I_Lcom_example_wiregather_wiregather_wire_FieldType_ rfl) rfl (by show 2 * 0 + _ ≤ _; exact Nat.le_of_eq rfl) (hb hby at_6) (fun _ _ => ⟨rfl, e0, (by decide : 0 + 1 ≤ _), (by decide : 0 + 6 ≤ _)⟩)
  dsimp only [Pt.U, Pt.locs, Pt.cells, Pt.slots] at X16 l16 y16 z16 st16 hQ16
  subst l16 y16 z16
  obtain ⟨rfl, N16q, K16⟩ := hQ16
  have N16 := Fr.app N0 N16q
  have o23 := Old.keep O0 K16 all0
  obtain ⟨_, _, ⟨T24, L24, k24, n24⟩, -, X24, ⟨Lc24, hQ24, l24, y24, z24⟩, st24⟩ := Jvm.LawKit.callS X16 hx (y := (⟨cs0, "ofCode", cs3⟩ : MethodName)) hown (mvT hZ (ww hw 0 rfl)) (mvT hZ (ww hw 1 rfl)) (mvT hZ (ww hw 2 rfl)) (mvT hZ (ww hw 3 rfl)) (by decide) (backOf (W := 0) (rm1_2 l Z a0 hw [] (x1 &&& (7 : Int32)) r2 c3 r4 r5 r6 r7 r8 r9 T16.heap n0 o23 f1 f2 f3 f4 hc17 f6 hc18 f8 hc19 f10 hc20 f12 hc21 f14 hc22) hZ (ww hw 3 rfl) (ww hw 2 rfl) (by decide) (by decide)) (g := (mkF m 11 #[.val (.int x0), .val (.int x1), .val (.int (x1 &&& (7 : Int32))), .val (.ref r9), .unset] [(.int (x1 &&& (7 : Int32)))])) rfl (by rw [hml]; rfl) (argsL := [(.int (x1 &&& (7 : Int32)))]) (rest := []) (lenOf pd__I_Lcom_example_wiregather_wiregather_wire_FieldType_ rfl) rfl (by show 2 * 0 + _ ≤ _; exact Nat.le_of_eq rfl) (hb hby at_11) (fun _ _ => ⟨rfl, rfl, (by decide : 1 + 1 ≤ _), (by decide : 6 + 6 ≤ _)⟩)
  dsimp only [Pt.U, Pt.locs, Pt.cells, Pt.slots] at X24 l24 y24 z24 st24 hQ24
  subst l24 y24 z24
  obtain ⟨rfl, N24q, K24⟩ := hQ24
  have N24 := Fr.app N16 N24q
  have o32 := Old.keep o23 K24 all0
  obtain ⟨_, _, ⟨T33, L33, k33, n33⟩, -, X33, ⟨Lc33, hQ33, l33, y33, z33⟩, st33⟩ := Jvm.LawKit.callS X24 hx (y := (⟨cs4, "expected", cs3⟩ : MethodName)) hown (mvT hZ (ww hw 27 rfl)) (mvT hZ (ww hw 28 rfl)) (mvT hZ (ww hw 29 rfl)) (mvT hZ (ww hw 30 rfl)) (by decide) (backOf (W := 1) (rm3_7 l Z a0 hw [] x0 r9 T24.heap n0 o32 hc25 hc26 hc27 hc28 hc29 hc30 f31) hZ (ww hw 30 rfl) (ww hw 29 rfl) (by decide) (by decide)) (g := (mkF m 18 #[.val (.int x0), .val (.int x1), .val (.int (x1 &&& (7 : Int32))), .val (.ref r9), .val .null] [(.int x0), (.ref r9)])) rfl (by rw [hml]; rfl) (argsL := [(.int x0)]) (rest := [(.ref r9)]) (lenOf pd__I_Lcom_example_wiregather_wiregather_wire_FieldType_ rfl) rfl (by show 2 * 0 + _ ≤ _; exact Nat.le_of_eq rfl) (hb hby at_18) (fun _ _ => ⟨rfl, rfl, (by decide : 2 + 0 ≤ _), (by decide : 12 + 0 ≤ _)⟩)
  dsimp only [Pt.U, Pt.locs, Pt.cells, Pt.slots] at X33 l33 y33 z33 st33 hQ33
  subst l33 y33 z33
  obtain ⟨rfl, N33q, E33⟩ := hQ33
  have N33 := Fr.app N24 N33q
  obtain ⟨_, _, ⟨T40, L40, k40, n40⟩, -, X40, ⟨Lc40, hQ40, l40, y40, z40⟩, st40⟩ := Jvm.LawKit.callS X33 hx (y := (⟨cs4, "expected", cs3⟩ : MethodName)) hown (mvT hZ (ww hw 27 rfl)) (mvT hZ (ww hw 28 rfl)) (mvT hZ (ww hw 29 rfl)) (mvT hZ (ww hw 30 rfl)) (by decide) (backOf (W := 1) (rm3_2 l Z a0 hw [] (x1 &&& (7 : Int32)) T24.heap n0 o32 hc34 hc35 hc36 hc37 hc38 hc39) hZ (ww hw 30 rfl) (ww hw 29 rfl) (by decide) (by decide)) (g := (mkF m 27 #[.val (.int x0), .val (.int x1), .val (.int (x1 &&& (7 : Int32))), .val (.ref r9), .val .null] [(.int (x1 &&& (7 : Int32))), .null])) rfl (by rw [hml]; rfl) (argsL := [(.int (x1 &&& (7 : Int32)))]) (rest := [.null]) (lenOf pd__I_Lcom_example_wiregather_wiregather_wire_FieldType_ rfl) rfl (by show 2 * 0 + _ ≤ _; exact Nat.le_of_eq rfl) (hb hby at_27) (fun _ _ => ⟨rfl, E33, (by decide : 2 + 0 ≤ _), (by decide : 12 + 0 ≤ _)⟩)
  dsimp only [Pt.U, Pt.locs, Pt.cells, Pt.slots] at X40 l40 y40 z40 st40 hQ40
  subst l40 y40 z40
  obtain ⟨rfl, N40q, E40⟩ := hQ40
  have N40 := Fr.app N33 N40q
  obtain ⟨fs, hr, hrun, hended, hW, hsame⟩ := X40.leave (v := some (.int (1 : Int32))) (fun h => by rw [Bd.returns] at h; cases h)
  refine ⟨_, _, pre0 _ ?_, hrun, hended, _, _, rfl, ?_, ⟨_, rfl⟩, hW, hsame.mono (by decide) (by decide)⟩
  · show Steps p.tables e below (s₁.setTop (mkF m 0 #[.val (.int x0), .val (.int x1), .unset, .unset, .unset] [])) _
    refine XS.iloadN X0.here hx rfl (hb hby at_0) rfl ?_
    refine XS.bipush X0.here hx rfl (hb hby at_1) ?_
    refine XS.iand X0.here hx rfl (hb hby at_3) rfl ?_
    refine XS.istoreN X0.here hx rfl (hb hby at_4) rfl (l' := #[.val (.int x0), .val (.int x1), .val (.int (x1 &&& (7 : Int32))), .unset, .unset]) rfl ?_
    show Steps p.tables e below (s₁.setTop (mkF m 5 #[.val (.int x0), .val (.int x1), .val (.int (x1 &&& (7 : Int32))), .unset, .unset] [])) _
    refine XS.iloadN X0.here hx rfl (hb hby at_5) rfl ?_
    refine st16 _ ?_
    show Steps p.tables e below (T16.setTop (mkF m 9 #[.val (.int x0), .val (.int x1), .val (.int (x1 &&& (7 : Int32))), .unset, .unset] [(.ref r9)])) _
    refine XS.astoreN X16.here hx rfl (hb hby at_9) rfl rfl (l' := #[.val (.int x0), .val (.int x1), .val (.int (x1 &&& (7 : Int32))), .val (.ref r9), .unset]) rfl ?_
    refine XS.iloadN X16.here hx rfl (hb hby at_10) rfl ?_
    refine st24 _ ?_
    show Steps p.tables e below (T24.setTop (mkF m 14 #[.val (.int x0), .val (.int x1), .val (.int (x1 &&& (7 : Int32))), .val (.ref r9), .unset] [.null])) _
    refine XS.astore X24.here hx rfl (hb hby at_14) rfl rfl (l' := #[.val (.int x0), .val (.int x1), .val (.int (x1 &&& (7 : Int32))), .val (.ref r9), .val .null]) rfl ?_
    refine XS.aloadN X24.here hx rfl (hb hby at_16) rfl rfl ?_
    refine XS.iloadN X24.here hx rfl (hb hby at_17) rfl ?_
    refine st33 _ ?_
    show Steps p.tables e below (T33.setTop (mkF m 21 #[.val (.int x0), .val (.int x1), .val (.int (x1 &&& (7 : Int32))), .val (.ref r9), .val .null] [(.ref r9), (.ref r9)])) _
    refine Jvm.RoadKit.acmp (g := (mkF m 21 #[.val (.int x0), .val (.int x1), .val (.int (x1 &&& (7 : Int32))), .val (.ref r9), .val .null] [(.ref r9), (.ref r9)])) X33 hx rfl rfl rfl (pc0 := 21) (pc' := 24) (same := true) rfl (hb hby at_21) rfl (decide_eq_true rfl) (by decide) (by decide) ?_
    show Steps p.tables e below (T33.setTop (mkF m 24 #[.val (.int x0), .val (.int x1), .val (.int (x1 &&& (7 : Int32))), .val (.ref r9), .val .null] [])) _
    refine XS.aload X33.here hx rfl (hb hby at_24) rfl rfl ?_
    refine XS.iloadN X33.here hx rfl (hb hby at_26) rfl ?_
    refine st40 _ ?_
    show Steps p.tables e below (T40.setTop (mkF m 30 #[.val (.int x0), .val (.int x1), .val (.int (x1 &&& (7 : Int32))), .val (.ref r9), .val .null] [.null, .null])) _
    refine Jvm.RoadKit.acmp (g := (mkF m 30 #[.val (.int x0), .val (.int x1), .val (.int (x1 &&& (7 : Int32))), .val (.ref r9), .val .null] [.null, .null])) X40 hx rfl rfl rfl (pc0 := 30) (pc' := 33) (same := true) rfl (hb hby at_30) rfl (decide_eq_true rfl) (by decide) (by decide) ?_
    show Steps p.tables e below (T40.setTop (mkF m 33 #[.val (.int x0), .val (.int x1), .val (.int (x1 &&& (7 : Int32))), .val (.ref r9), .val .null] [])) _
    refine XS.iconst X40.here hx rfl (hb hby at_33) ?_
    refine XS.goto X40.here hx rfl (pc0 := 34) (pc' := 38) rfl (hb hby at_34) (by decide) (by decide) ?_
    show Steps p.tables e below (T40.setTop (mkF m 38 #[.val (.int x0), .val (.int x1), .val (.int (x1 &&& (7 : Int32))), .val (.ref r9), .val .null] [(.int (1 : Int32))])) _
    exact retN X40 hx (t := .boolean) Bd.returns (by simp) (hb hby at_38) hr
  · show Q0_36 Z x0 x1 r2 c3 r4 r5 r6 r7 r8 r9 h0 n0 _ T40.heap _
    rw [E40]
    exact ⟨rfl, N40⟩
def Q0_37 (Z : State) (x0 : Int32) (x1 : Int32) (r2 : Addr) (c3 : ClassId) (r4 : Addr) (r5 : Addr) (r6 : Addr) (r7 : Addr) (r8 : Addr) (r9 : Addr) (h0 : Heap) (n0 : Nat) (v : Option Value) (h : Heap) (L : List Loc) : Prop := v = some (.int (1 : Int32)) ∧ Fr n0 L
set_option maxRecDepth 65536 in
set_option maxHeartbeats 40000000 in
theorem rm0_37 (l : Launch) (Z : State) (a0 : Array Value) (hw : ∀ d ∈ tables_1, d.before a0 Z = true) (ws : List Jvm.Cond) (x0 : Int32) (x1 : Int32) (r2 : Addr) (c3 : ClassId) (r4 : Addr) (r5 : Addr) (r6 : Addr) (r7 : Addr) (r8 : Addr) (r9 : Addr) (h0 : Heap) (n0 : Nat) (O0 : Old Z n0 h0) (f1 : Sta Z Z.heap cs0 "$VALUES" cs1 (.ref r2)) (f2 : Exa Z Z.heap r2 cs1) (f3 : Arv Z Z.heap r2 c3 (.object cs0) (6 : Int32) [(.ref r4), (.ref r5), (.ref r6), (.ref r7), (.ref r8), (.ref r9)] .null) (f4 : Fld Z Z.heap r4 cs0 "code" "I" (.int (1 : Int32))) (hc5 : ¬ ((1 : Int32) = x0)) (f6 : Fld Z Z.heap r5 cs0 "code" "I" (.int (2 : Int32))) (hc7 : ¬ ((2 : Int32) = x0)) (f8 : Fld Z Z.heap r6 cs0 "code" "I" (.int (3 : Int32))) (hc9 : ¬ ((3 : Int32) = x0)) (f10 : Fld Z Z.heap r7 cs0 "code" "I" (.int (4 : Int32))) (hc11 : ¬ ((4 : Int32) = x0)) (f12 : Fld Z Z.heap r8 cs0 "code" "I" (.int (5 : Int32))) (hc13 : ¬ ((5 : Int32) = x0)) (f14 : Fld Z Z.heap r9 cs0 "code" "I" (.int (6 : Int32))) (hc15 : (6 : Int32) = x0) (hc17 : (1 : Int32) = (x1 &&& (7 : Int32))) (hc18 : ¬ ((2 : Int32) = (x1 &&& (7 : Int32)))) (hc19 : ¬ ((3 : Int32) = (x1 &&& (7 : Int32)))) (hc20 : ¬ ((4 : Int32) = (x1 &&& (7 : Int32)))) (hc21 : ¬ ((5 : Int32) = (x1 &&& (7 : Int32)))) (hc22 : ¬ ((6 : Int32) = (x1 &&& (7 : Int32)))) (hc25 : ¬ (x0 = (1 : Int32))) (hc26 : ¬ (x0 = (2 : Int32))) (hc27 : ¬ (x0 = (3 : Int32))) (hc28 : ¬ (x0 = (4 : Int32))) (hc29 : ¬ (x0 = (5 : Int32))) (hc30 : x0 = (6 : Int32)) (f31 : Sta Z Z.heap cs0 "GUID" cs5 (.ref r9)) (hc34 : (x1 &&& (7 : Int32)) = (1 : Int32)) (f35 : Sta Z Z.heap cs0 "I32" cs5 (.ref r4)) :
    MetFree l x (head1 (Jvm.Cond.code x code maxLocals ret :: ws) room_1) (fun a U => a = #[(.int x0), (.int x1)] ∧ Z.Warmed39 U.vm ∧ U.heap = h0) (fun _ _ _ _ _ => True) (fun _ U o U' => ∃ v L, o = .returned v ∧ Q0_37 Z x0 x1 r2 c3 r4 r5 r6 r7 r8 r9 h0 n0 v U'.heap L ∧ FrameEnd U o U' L room_1.cells room_1.slots) := by
  refine MetFree.of_bodySF (plainFor_of_name pn_com_example_wiregather_wiregather_wire_FieldTypeOfCodePinLaw) hisR ?_
  intro p e s m args below meth c s₁ Bd hml0 hP hK
  obtain ⟨rfl, hZ, hh⟩ := hP
  have hx := Bd.exec
  have hby := Bd.bytes
  have hml : c.maxLocals = 5 := hml0
  have hown : s.vm.findClass cs4 = some m.cls := findClass_of_methodNamed Bd.named
  have hnm := (name_of_methodNamed Bd.named Bd.method).1
  have X0 : Stand p l e room_1 s m #[(.int x0), (.int x1)] below meth c s₁ [] 0 0 := Stand.of_body Bd
  have e0 : s₁.heap = h0 := by rw [← hh, Bd.state]; rfl
  have N0 := Fr.nil n0
  have pre0 : ∀ t, Steps p.tables e below (s₁.setTop (mkF m 0 #[.val (.int x0), .val (.int x1), .unset, .unset, .unset] [])) t → Steps p.tables e below (s₁.setTop (entryFrame m #[(.int x0), (.int x1)] maxLocals)) t := fun t k => castTop (by first | (simp [entryFrame, mkF, argsToLocals, Value.category, maxLocals]; done) | rfl) k
  obtain ⟨_, _, ⟨T16, L16, k16, n16⟩, -, X16, ⟨Lc16, hQ16, l16, y16, z16⟩, st16⟩ := Jvm.LawKit.callS X0 hx (y := (⟨cs0, "ofCode", cs3⟩ : MethodName)) hown (mvT hZ (ww hw 0 rfl)) (mvT hZ (ww hw 1 rfl)) (mvT hZ (ww hw 2 rfl)) (mvT hZ (ww hw 3 rfl)) (by decide) (backOf (W := 0) (rm1_7 l Z a0 hw [] x0 r2 c3 r4 r5 r6 r7 r8 r9 h0 n0 O0 f1 f2 f3 f4 hc5 f6 hc7 f8 hc9 f10 hc11 f12 hc13 f14 hc15) hZ (ww hw 3 rfl) (ww hw 2 rfl) (by decide) (by decide)) (g := (mkF m 6 #[.val (.int x0), .val (.int x1), .val (.int (x1 &&& (7 : Int32))), .unset, .unset] [(.int x0)])) rfl (by rw [hml]; rfl) (argsL := [(.int x0)]) (rest := []) (lenOf pd__I_Lcom_example_wiregather_wiregather_wire_FieldType_ rfl) rfl (by show 2 * 0 + _ ≤ _; exact Nat.le_of_eq rfl) (hb hby at_6) (fun _ _ => ⟨rfl, e0, (by decide : 0 + 1 ≤ _), (by decide : 0 + 6 ≤ _)⟩)
  dsimp only [Pt.U, Pt.locs, Pt.cells, Pt.slots] at X16 l16 y16 z16 st16 hQ16
  subst l16 y16 z16
  obtain ⟨rfl, N16q, K16⟩ := hQ16
  have N16 := Fr.app N0 N16q
  have o23 := Old.keep O0 K16 all0
  obtain ⟨_, _, ⟨T24, L24, k24, n24⟩, -, X24, ⟨Lc24, hQ24, l24, y24, z24⟩, st24⟩ := Jvm.LawKit.callS X16 hx (y := (⟨cs0, "ofCode", cs3⟩ : MethodName)) hown (mvT hZ (ww hw 0 rfl)) (mvT hZ (ww hw 1 rfl)) (mvT hZ (ww hw 2 rfl)) (mvT hZ (ww hw 3 rfl)) (by decide) (backOf (W := 0) (rm1_1 l Z a0 hw [] (x1 &&& (7 : Int32)) r2 c3 r4 r5 r6 r7 r8 r9 T16.heap n0 o23 f1 f2 f3 f4 hc17 f6 hc18 f8 hc19 f10 hc20 f12 hc21 f14 hc22) hZ (ww hw 3 rfl) (ww hw 2 rfl) (by decide) (by decide)) (g := (mkF m 11 #[.val (.int x0), .val (.int x1), .val (.int (x1 &&& (7 : Int32))), .val (.ref r9), .unset] [(.int (x1 &&& (7 : Int32)))])) rfl (by rw [hml]; rfl) (argsL := [(.int (x1 &&& (7 : Int32)))]) (rest := []) (lenOf pd__I_Lcom_example_wiregather_wiregather_wire_FieldType_ rfl) rfl (by show 2 * 0 + _ ≤ _; exact Nat.le_of_eq rfl) (hb hby at_11) (fun _ _ => ⟨rfl, rfl, (by decide : 1 + 1 ≤ _), (by decide : 6 + 6 ≤ _)⟩)
  dsimp only [Pt.U, Pt.locs, Pt.cells, Pt.slots] at X24 l24 y24 z24 st24 hQ24
  subst l24 y24 z24
  obtain ⟨rfl, N24q, K24⟩ := hQ24
  have N24 := Fr.app N16 N24q
  have o32 := Old.keep o23 K24 all0
  obtain ⟨_, _, ⟨T33, L33, k33, n33⟩, -, X33, ⟨Lc33, hQ33, l33, y33, z33⟩, st33⟩ := Jvm.LawKit.callS X24 hx (y := (⟨cs4, "expected", cs3⟩ : MethodName)) hown (mvT hZ (ww hw 27 rfl)) (mvT hZ (ww hw 28 rfl)) (mvT hZ (ww hw 29 rfl)) (mvT hZ (ww hw 30 rfl)) (by decide) (backOf (W := 1) (rm3_7 l Z a0 hw [] x0 r9 T24.heap n0 o32 hc25 hc26 hc27 hc28 hc29 hc30 f31) hZ (ww hw 30 rfl) (ww hw 29 rfl) (by decide) (by decide)) (g := (mkF m 18 #[.val (.int x0), .val (.int x1), .val (.int (x1 &&& (7 : Int32))), .val (.ref r9), .val (.ref r4)] [(.int x0), (.ref r9)])) rfl (by rw [hml]; rfl) (argsL := [(.int x0)]) (rest := [(.ref r9)]) (lenOf pd__I_Lcom_example_wiregather_wiregather_wire_FieldType_ rfl) rfl (by show 2 * 0 + _ ≤ _; exact Nat.le_of_eq rfl) (hb hby at_18) (fun _ _ => ⟨rfl, rfl, (by decide : 2 + 0 ≤ _), (by decide : 12 + 0 ≤ _)⟩)
  dsimp only [Pt.U, Pt.locs, Pt.cells, Pt.slots] at X33 l33 y33 z33 st33 hQ33
  subst l33 y33 z33
  obtain ⟨rfl, N33q, E33⟩ := hQ33
  have N33 := Fr.app N24 N33q
  obtain ⟨_, _, ⟨T36, L36, k36, n36⟩, -, X36, ⟨Lc36, hQ36, l36, y36, z36⟩, st36⟩ := Jvm.LawKit.callS X33 hx (y := (⟨cs4, "expected", cs3⟩ : MethodName)) hown (mvT hZ (ww hw 27 rfl)) (mvT hZ (ww hw 28 rfl)) (mvT hZ (ww hw 29 rfl)) (mvT hZ (ww hw 30 rfl)) (by decide) (backOf (W := 1) (rm3_1 l Z a0 hw [] (x1 &&& (7 : Int32)) r4 T24.heap n0 o32 hc34 f35) hZ (ww hw 30 rfl) (ww hw 29 rfl) (by decide) (by decide)) (g := (mkF m 27 #[.val (.int x0), .val (.int x1), .val (.int (x1 &&& (7 : Int32))), .val (.ref r9), .val (.ref r4)] [(.int (x1 &&& (7 : Int32))), (.ref r4)])) rfl (by rw [hml]; rfl) (argsL := [(.int (x1 &&& (7 : Int32)))]) (rest := [(.ref r4)]) (lenOf pd__I_Lcom_example_wiregather_wiregather_wire_FieldType_ rfl) rfl (by show 2 * 0 + _ ≤ _; exact Nat.le_of_eq rfl) (hb hby at_27) (fun _ _ => ⟨rfl, E33, (by decide : 2 + 0 ≤ _), (by decide : 12 + 0 ≤ _)⟩)
  dsimp only [Pt.U, Pt.locs, Pt.cells, Pt.slots] at X36 l36 y36 z36 st36 hQ36
  subst l36 y36 z36
  obtain ⟨rfl, N36q, E36⟩ := hQ36
  have N36 := Fr.app N33 N36q
  obtain ⟨fs, hr, hrun, hended, hW, hsame⟩ := X36.leave (v := some (.int (1 : Int32))) (fun h => by rw [Bd.returns] at h; cases h)
  refine ⟨_, _, pre0 _ ?_, hrun, hended, _, _, rfl, ?_, ⟨_, rfl⟩, hW, hsame.mono (by decide) (by decide)⟩
  · show Steps p.tables e below (s₁.setTop (mkF m 0 #[.val (.int x0), .val (.int x1), .unset, .unset, .unset] [])) _
    refine XS.iloadN X0.here hx rfl (hb hby at_0) rfl ?_
    refine XS.bipush X0.here hx rfl (hb hby at_1) ?_
    refine XS.iand X0.here hx rfl (hb hby at_3) rfl ?_
    refine XS.istoreN X0.here hx rfl (hb hby at_4) rfl (l' := #[.val (.int x0), .val (.int x1), .val (.int (x1 &&& (7 : Int32))), .unset, .unset]) rfl ?_
    show Steps p.tables e below (s₁.setTop (mkF m 5 #[.val (.int x0), .val (.int x1), .val (.int (x1 &&& (7 : Int32))), .unset, .unset] [])) _
    refine XS.iloadN X0.here hx rfl (hb hby at_5) rfl ?_
    refine st16 _ ?_
    show Steps p.tables e below (T16.setTop (mkF m 9 #[.val (.int x0), .val (.int x1), .val (.int (x1 &&& (7 : Int32))), .unset, .unset] [(.ref r9)])) _
    refine XS.astoreN X16.here hx rfl (hb hby at_9) rfl rfl (l' := #[.val (.int x0), .val (.int x1), .val (.int (x1 &&& (7 : Int32))), .val (.ref r9), .unset]) rfl ?_
    refine XS.iloadN X16.here hx rfl (hb hby at_10) rfl ?_
    refine st24 _ ?_
    show Steps p.tables e below (T24.setTop (mkF m 14 #[.val (.int x0), .val (.int x1), .val (.int (x1 &&& (7 : Int32))), .val (.ref r9), .unset] [(.ref r4)])) _
    refine XS.astore X24.here hx rfl (hb hby at_14) rfl rfl (l' := #[.val (.int x0), .val (.int x1), .val (.int (x1 &&& (7 : Int32))), .val (.ref r9), .val (.ref r4)]) rfl ?_
    refine XS.aloadN X24.here hx rfl (hb hby at_16) rfl rfl ?_
    refine XS.iloadN X24.here hx rfl (hb hby at_17) rfl ?_
    refine st33 _ ?_
    show Steps p.tables e below (T33.setTop (mkF m 21 #[.val (.int x0), .val (.int x1), .val (.int (x1 &&& (7 : Int32))), .val (.ref r9), .val (.ref r4)] [(.ref r9), (.ref r9)])) _
    refine Jvm.RoadKit.acmp (g := (mkF m 21 #[.val (.int x0), .val (.int x1), .val (.int (x1 &&& (7 : Int32))), .val (.ref r9), .val (.ref r4)] [(.ref r9), (.ref r9)])) X33 hx rfl rfl rfl (pc0 := 21) (pc' := 24) (same := true) rfl (hb hby at_21) rfl (decide_eq_true rfl) (by decide) (by decide) ?_
    show Steps p.tables e below (T33.setTop (mkF m 24 #[.val (.int x0), .val (.int x1), .val (.int (x1 &&& (7 : Int32))), .val (.ref r9), .val (.ref r4)] [])) _
    refine XS.aload X33.here hx rfl (hb hby at_24) rfl rfl ?_
    refine XS.iloadN X33.here hx rfl (hb hby at_26) rfl ?_
    refine st36 _ ?_
    show Steps p.tables e below (T36.setTop (mkF m 30 #[.val (.int x0), .val (.int x1), .val (.int (x1 &&& (7 : Int32))), .val (.ref r9), .val (.ref r4)] [(.ref r4), (.ref r4)])) _
    refine Jvm.RoadKit.acmp (g := (mkF m 30 #[.val (.int x0), .val (.int x1), .val (.int (x1 &&& (7 : Int32))), .val (.ref r9), .val (.ref r4)] [(.ref r4), (.ref r4)])) X36 hx rfl rfl rfl (pc0 := 30) (pc' := 33) (same := true) rfl (hb hby at_30) rfl (decide_eq_true rfl) (by decide) (by decide) ?_
    show Steps p.tables e below (T36.setTop (mkF m 33 #[.val (.int x0), .val (.int x1), .val (.int (x1 &&& (7 : Int32))), .val (.ref r9), .val (.ref r4)] [])) _
    refine XS.iconst X36.here hx rfl (hb hby at_33) ?_
    refine XS.goto X36.here hx rfl (pc0 := 34) (pc' := 38) rfl (hb hby at_34) (by decide) (by decide) ?_
    show Steps p.tables e below (T36.setTop (mkF m 38 #[.val (.int x0), .val (.int x1), .val (.int (x1 &&& (7 : Int32))), .val (.ref r9), .val (.ref r4)] [(.int (1 : Int32))])) _
    exact retN X36 hx (t := .boolean) Bd.returns (by simp) (hb hby at_38) hr
  · show Q0_37 Z x0 x1 r2 c3 r4 r5 r6 r7 r8 r9 h0 n0 _ T36.heap _
    rw [E36]
    exact ⟨rfl, N36⟩
def Q0_38 (Z : State) (x0 : Int32) (x1 : Int32) (r2 : Addr) (c3 : ClassId) (r4 : Addr) (r5 : Addr) (r6 : Addr) (r7 : Addr) (r8 : Addr) (r9 : Addr) (h0 : Heap) (n0 : Nat) (v : Option Value) (h : Heap) (L : List Loc) : Prop := v = some (.int (1 : Int32)) ∧ Fr n0 L
set_option maxRecDepth 65536 in
set_option maxHeartbeats 40000000 in
theorem rm0_38 (l : Launch) (Z : State) (a0 : Array Value) (hw : ∀ d ∈ tables_1, d.before a0 Z = true) (ws : List Jvm.Cond) (x0 : Int32) (x1 : Int32) (r2 : Addr) (c3 : ClassId) (r4 : Addr) (r5 : Addr) (r6 : Addr) (r7 : Addr) (r8 : Addr) (r9 : Addr) (h0 : Heap) (n0 : Nat) (O0 : Old Z n0 h0) (f1 : Sta Z Z.heap cs0 "$VALUES" cs1 (.ref r2)) (f2 : Exa Z Z.heap r2 cs1) (f3 : Arv Z Z.heap r2 c3 (.object cs0) (6 : Int32) [(.ref r4), (.ref r5), (.ref r6), (.ref r7), (.ref r8), (.ref r9)] .null) (f4 : Fld Z Z.heap r4 cs0 "code" "I" (.int (1 : Int32))) (hc5 : ¬ ((1 : Int32) = x0)) (f6 : Fld Z Z.heap r5 cs0 "code" "I" (.int (2 : Int32))) (hc7 : ¬ ((2 : Int32) = x0)) (f8 : Fld Z Z.heap r6 cs0 "code" "I" (.int (3 : Int32))) (hc9 : ¬ ((3 : Int32) = x0)) (f10 : Fld Z Z.heap r7 cs0 "code" "I" (.int (4 : Int32))) (hc11 : ¬ ((4 : Int32) = x0)) (f12 : Fld Z Z.heap r8 cs0 "code" "I" (.int (5 : Int32))) (hc13 : ¬ ((5 : Int32) = x0)) (f14 : Fld Z Z.heap r9 cs0 "code" "I" (.int (6 : Int32))) (hc15 : (6 : Int32) = x0) (hc17 : ¬ ((1 : Int32) = (x1 &&& (7 : Int32)))) (hc18 : (2 : Int32) = (x1 &&& (7 : Int32))) (hc19 : ¬ ((3 : Int32) = (x1 &&& (7 : Int32)))) (hc20 : ¬ ((4 : Int32) = (x1 &&& (7 : Int32)))) (hc21 : ¬ ((5 : Int32) = (x1 &&& (7 : Int32)))) (hc22 : ¬ ((6 : Int32) = (x1 &&& (7 : Int32)))) (hc25 : ¬ (x0 = (1 : Int32))) (hc26 : ¬ (x0 = (2 : Int32))) (hc27 : ¬ (x0 = (3 : Int32))) (hc28 : ¬ (x0 = (4 : Int32))) (hc29 : ¬ (x0 = (5 : Int32))) (hc30 : x0 = (6 : Int32)) (f31 : Sta Z Z.heap cs0 "GUID" cs5 (.ref r9)) (hc34 : ¬ ((x1 &&& (7 : Int32)) = (1 : Int32))) (hc35 : (x1 &&& (7 : Int32)) = (2 : Int32)) (f36 : Sta Z Z.heap cs0 "U32" cs5 (.ref r5)) :
    MetFree l x (head1 (Jvm.Cond.code x code maxLocals ret :: ws) room_1) (fun a U => a = #[(.int x0), (.int x1)] ∧ Z.Warmed39 U.vm ∧ U.heap = h0) (fun _ _ _ _ _ => True) (fun _ U o U' => ∃ v L, o = .returned v ∧ Q0_38 Z x0 x1 r2 c3 r4 r5 r6 r7 r8 r9 h0 n0 v U'.heap L ∧ FrameEnd U o U' L room_1.cells room_1.slots) := by
  refine MetFree.of_bodySF (plainFor_of_name pn_com_example_wiregather_wiregather_wire_FieldTypeOfCodePinLaw) hisR ?_
  intro p e s m args below meth c s₁ Bd hml0 hP hK
  obtain ⟨rfl, hZ, hh⟩ := hP
  have hx := Bd.exec
  have hby := Bd.bytes
  have hml : c.maxLocals = 5 := hml0
  have hown : s.vm.findClass cs4 = some m.cls := findClass_of_methodNamed Bd.named
  have hnm := (name_of_methodNamed Bd.named Bd.method).1
  have X0 : Stand p l e room_1 s m #[(.int x0), (.int x1)] below meth c s₁ [] 0 0 := Stand.of_body Bd
  have e0 : s₁.heap = h0 := by rw [← hh, Bd.state]; rfl
  have N0 := Fr.nil n0
  have pre0 : ∀ t, Steps p.tables e below (s₁.setTop (mkF m 0 #[.val (.int x0), .val (.int x1), .unset, .unset, .unset] [])) t → Steps p.tables e below (s₁.setTop (entryFrame m #[(.int x0), (.int x1)] maxLocals)) t := fun t k => castTop (by first | (simp [entryFrame, mkF, argsToLocals, Value.category, maxLocals]; done) | rfl) k
  obtain ⟨_, _, ⟨T16, L16, k16, n16⟩, -, X16, ⟨Lc16, hQ16, l16, y16, z16⟩, st16⟩ := Jvm.LawKit.callS X0 hx (y := (⟨cs0, "ofCode", cs3⟩ : MethodName)) hown (mvT hZ (ww hw 0 rfl)) (mvT hZ (ww hw 1 rfl)) (mvT hZ (ww hw 2 rfl)) (mvT hZ (ww hw 3 rfl)) (by decide) (backOf (W := 0) (rm1_7 l Z a0 hw [] x0 r2 c3 r4 r5 r6 r7 r8 r9 h0 n0 O0 f1 f2 f3 f4 hc5 f6 hc7 f8 hc9 f10 hc11 f12 hc13 f14 hc15) hZ (ww hw 3 rfl) (ww hw 2 rfl) (by decide) (by decide)) (g := (mkF m 6 #[.val (.int x0), .val (.int x1), .val (.int (x1 &&& (7 : Int32))), .unset, .unset] [(.int x0)])) rfl (by rw [hml]; rfl) (argsL := [(.int x0)]) (rest := []) (lenOf pd__I_Lcom_example_wiregather_wiregather_wire_FieldType_ rfl) rfl (by show 2 * 0 + _ ≤ _; exact Nat.le_of_eq rfl) (hb hby at_6) (fun _ _ => ⟨rfl, e0, (by decide : 0 + 1 ≤ _), (by decide : 0 + 6 ≤ _)⟩)
  dsimp only [Pt.U, Pt.locs, Pt.cells, Pt.slots] at X16 l16 y16 z16 st16 hQ16
  subst l16 y16 z16
  obtain ⟨rfl, N16q, K16⟩ := hQ16
  have N16 := Fr.app N0 N16q
  have o23 := Old.keep O0 K16 all0
  obtain ⟨_, _, ⟨T24, L24, k24, n24⟩, -, X24, ⟨Lc24, hQ24, l24, y24, z24⟩, st24⟩ := Jvm.LawKit.callS X16 hx (y := (⟨cs0, "ofCode", cs3⟩ : MethodName)) hown (mvT hZ (ww hw 0 rfl)) (mvT hZ (ww hw 1 rfl)) (mvT hZ (ww hw 2 rfl)) (mvT hZ (ww hw 3 rfl)) (by decide) (backOf (W := 0) (rm1_3 l Z a0 hw [] (x1 &&& (7 : Int32)) r2 c3 r4 r5 r6 r7 r8 r9 T16.heap n0 o23 f1 f2 f3 f4 hc17 f6 hc18 f8 hc19 f10 hc20 f12 hc21 f14 hc22) hZ (ww hw 3 rfl) (ww hw 2 rfl) (by decide) (by decide)) (g := (mkF m 11 #[.val (.int x0), .val (.int x1), .val (.int (x1 &&& (7 : Int32))), .val (.ref r9), .unset] [(.int (x1 &&& (7 : Int32)))])) rfl (by rw [hml]; rfl) (argsL := [(.int (x1 &&& (7 : Int32)))]) (rest := []) (lenOf pd__I_Lcom_example_wiregather_wiregather_wire_FieldType_ rfl) rfl (by show 2 * 0 + _ ≤ _; exact Nat.le_of_eq rfl) (hb hby at_11) (fun _ _ => ⟨rfl, rfl, (by decide : 1 + 1 ≤ _), (by decide : 6 + 6 ≤ _)⟩)
  dsimp only [Pt.U, Pt.locs, Pt.cells, Pt.slots] at X24 l24 y24 z24 st24 hQ24
  subst l24 y24 z24
  obtain ⟨rfl, N24q, K24⟩ := hQ24
  have N24 := Fr.app N16 N24q
  have o32 := Old.keep o23 K24 all0
  obtain ⟨_, _, ⟨T33, L33, k33, n33⟩, -, X33, ⟨Lc33, hQ33, l33, y33, z33⟩, st33⟩ := Jvm.LawKit.callS X24 hx (y := (⟨cs4, "expected", cs3⟩ : MethodName)) hown (mvT hZ (ww hw 27 rfl)) (mvT hZ (ww hw 28 rfl)) (mvT hZ (ww hw 29 rfl)) (mvT hZ (ww hw 30 rfl)) (by decide) (backOf (W := 1) (rm3_7 l Z a0 hw [] x0 r9 T24.heap n0 o32 hc25 hc26 hc27 hc28 hc29 hc30 f31) hZ (ww hw 30 rfl) (ww hw 29 rfl) (by decide) (by decide)) (g := (mkF m 18 #[.val (.int x0), .val (.int x1), .val (.int (x1 &&& (7 : Int32))), .val (.ref r9), .val (.ref r5)] [(.int x0), (.ref r9)])) rfl (by rw [hml]; rfl) (argsL := [(.int x0)]) (rest := [(.ref r9)]) (lenOf pd__I_Lcom_example_wiregather_wiregather_wire_FieldType_ rfl) rfl (by show 2 * 0 + _ ≤ _; exact Nat.le_of_eq rfl) (hb hby at_18) (fun _ _ => ⟨rfl, rfl, (by decide : 2 + 0 ≤ _), (by decide : 12 + 0 ≤ _)⟩)
  dsimp only [Pt.U, Pt.locs, Pt.cells, Pt.slots] at X33 l33 y33 z33 st33 hQ33
  subst l33 y33 z33
  obtain ⟨rfl, N33q, E33⟩ := hQ33
  have N33 := Fr.app N24 N33q
  obtain ⟨_, _, ⟨T37, L37, k37, n37⟩, -, X37, ⟨Lc37, hQ37, l37, y37, z37⟩, st37⟩ := Jvm.LawKit.callS X33 hx (y := (⟨cs4, "expected", cs3⟩ : MethodName)) hown (mvT hZ (ww hw 27 rfl)) (mvT hZ (ww hw 28 rfl)) (mvT hZ (ww hw 29 rfl)) (mvT hZ (ww hw 30 rfl)) (by decide) (backOf (W := 1) (rm3_3 l Z a0 hw [] (x1 &&& (7 : Int32)) r5 T24.heap n0 o32 hc34 hc35 f36) hZ (ww hw 30 rfl) (ww hw 29 rfl) (by decide) (by decide)) (g := (mkF m 27 #[.val (.int x0), .val (.int x1), .val (.int (x1 &&& (7 : Int32))), .val (.ref r9), .val (.ref r5)] [(.int (x1 &&& (7 : Int32))), (.ref r5)])) rfl (by rw [hml]; rfl) (argsL := [(.int (x1 &&& (7 : Int32)))]) (rest := [(.ref r5)]) (lenOf pd__I_Lcom_example_wiregather_wiregather_wire_FieldType_ rfl) rfl (by show 2 * 0 + _ ≤ _; exact Nat.le_of_eq rfl) (hb hby at_27) (fun _ _ => ⟨rfl, E33, (by decide : 2 + 0 ≤ _), (by decide : 12 + 0 ≤ _)⟩)
  dsimp only [Pt.U, Pt.locs, Pt.cells, Pt.slots] at X37 l37 y37 z37 st37 hQ37
  subst l37 y37 z37
  obtain ⟨rfl, N37q, E37⟩ := hQ37
  have N37 := Fr.app N33 N37q
  obtain ⟨fs, hr, hrun, hended, hW, hsame⟩ := X37.leave (v := some (.int (1 : Int32))) (fun h => by rw [Bd.returns] at h; cases h)
  refine ⟨_, _, pre0 _ ?_, hrun, hended, _, _, rfl, ?_, ⟨_, rfl⟩, hW, hsame.mono (by decide) (by decide)⟩
  · show Steps p.tables e below (s₁.setTop (mkF m 0 #[.val (.int x0), .val (.int x1), .unset, .unset, .unset] [])) _
    refine XS.iloadN X0.here hx rfl (hb hby at_0) rfl ?_
    refine XS.bipush X0.here hx rfl (hb hby at_1) ?_
    refine XS.iand X0.here hx rfl (hb hby at_3) rfl ?_
    refine XS.istoreN X0.here hx rfl (hb hby at_4) rfl (l' := #[.val (.int x0), .val (.int x1), .val (.int (x1 &&& (7 : Int32))), .unset, .unset]) rfl ?_
    show Steps p.tables e below (s₁.setTop (mkF m 5 #[.val (.int x0), .val (.int x1), .val (.int (x1 &&& (7 : Int32))), .unset, .unset] [])) _
    refine XS.iloadN X0.here hx rfl (hb hby at_5) rfl ?_
    refine st16 _ ?_
    show Steps p.tables e below (T16.setTop (mkF m 9 #[.val (.int x0), .val (.int x1), .val (.int (x1 &&& (7 : Int32))), .unset, .unset] [(.ref r9)])) _
    refine XS.astoreN X16.here hx rfl (hb hby at_9) rfl rfl (l' := #[.val (.int x0), .val (.int x1), .val (.int (x1 &&& (7 : Int32))), .val (.ref r9), .unset]) rfl ?_
    refine XS.iloadN X16.here hx rfl (hb hby at_10) rfl ?_
    refine st24 _ ?_
    show Steps p.tables e below (T24.setTop (mkF m 14 #[.val (.int x0), .val (.int x1), .val (.int (x1 &&& (7 : Int32))), .val (.ref r9), .unset] [(.ref r5)])) _
    refine XS.astore X24.here hx rfl (hb hby at_14) rfl rfl (l' := #[.val (.int x0), .val (.int x1), .val (.int (x1 &&& (7 : Int32))), .val (.ref r9), .val (.ref r5)]) rfl ?_
    refine XS.aloadN X24.here hx rfl (hb hby at_16) rfl rfl ?_
    refine XS.iloadN X24.here hx rfl (hb hby at_17) rfl ?_
    refine st33 _ ?_
    show Steps p.tables e below (T33.setTop (mkF m 21 #[.val (.int x0), .val (.int x1), .val (.int (x1 &&& (7 : Int32))), .val (.ref r9), .val (.ref r5)] [(.ref r9), (.ref r9)])) _
    refine Jvm.RoadKit.acmp (g := (mkF m 21 #[.val (.int x0), .val (.int x1), .val (.int (x1 &&& (7 : Int32))), .val (.ref r9), .val (.ref r5)] [(.ref r9), (.ref r9)])) X33 hx rfl rfl rfl (pc0 := 21) (pc' := 24) (same := true) rfl (hb hby at_21) rfl (decide_eq_true rfl) (by decide) (by decide) ?_
    show Steps p.tables e below (T33.setTop (mkF m 24 #[.val (.int x0), .val (.int x1), .val (.int (x1 &&& (7 : Int32))), .val (.ref r9), .val (.ref r5)] [])) _
    refine XS.aload X33.here hx rfl (hb hby at_24) rfl rfl ?_
    refine XS.iloadN X33.here hx rfl (hb hby at_26) rfl ?_
    refine st37 _ ?_
    show Steps p.tables e below (T37.setTop (mkF m 30 #[.val (.int x0), .val (.int x1), .val (.int (x1 &&& (7 : Int32))), .val (.ref r9), .val (.ref r5)] [(.ref r5), (.ref r5)])) _
    refine Jvm.RoadKit.acmp (g := (mkF m 30 #[.val (.int x0), .val (.int x1), .val (.int (x1 &&& (7 : Int32))), .val (.ref r9), .val (.ref r5)] [(.ref r5), (.ref r5)])) X37 hx rfl rfl rfl (pc0 := 30) (pc' := 33) (same := true) rfl (hb hby at_30) rfl (decide_eq_true rfl) (by decide) (by decide) ?_
    show Steps p.tables e below (T37.setTop (mkF m 33 #[.val (.int x0), .val (.int x1), .val (.int (x1 &&& (7 : Int32))), .val (.ref r9), .val (.ref r5)] [])) _
    refine XS.iconst X37.here hx rfl (hb hby at_33) ?_
    refine XS.goto X37.here hx rfl (pc0 := 34) (pc' := 38) rfl (hb hby at_34) (by decide) (by decide) ?_
    show Steps p.tables e below (T37.setTop (mkF m 38 #[.val (.int x0), .val (.int x1), .val (.int (x1 &&& (7 : Int32))), .val (.ref r9), .val (.ref r5)] [(.int (1 : Int32))])) _
    exact retN X37 hx (t := .boolean) Bd.returns (by simp) (hb hby at_38) hr
  · show Q0_38 Z x0 x1 r2 c3 r4 r5 r6 r7 r8 r9 h0 n0 _ T37.heap _
    rw [E37]
    exact ⟨rfl, N37⟩
def Q0_39 (Z : State) (x0 : Int32) (x1 : Int32) (r2 : Addr) (c3 : ClassId) (r4 : Addr) (r5 : Addr) (r6 : Addr) (r7 : Addr) (r8 : Addr) (r9 : Addr) (h0 : Heap) (n0 : Nat) (v : Option Value) (h : Heap) (L : List Loc) : Prop := v = some (.int (1 : Int32)) ∧ Fr n0 L
set_option maxRecDepth 65536 in
set_option maxHeartbeats 40000000 in
theorem rm0_39 (l : Launch) (Z : State) (a0 : Array Value) (hw : ∀ d ∈ tables_1, d.before a0 Z = true) (ws : List Jvm.Cond) (x0 : Int32) (x1 : Int32) (r2 : Addr) (c3 : ClassId) (r4 : Addr) (r5 : Addr) (r6 : Addr) (r7 : Addr) (r8 : Addr) (r9 : Addr) (h0 : Heap) (n0 : Nat) (O0 : Old Z n0 h0) (f1 : Sta Z Z.heap cs0 "$VALUES" cs1 (.ref r2)) (f2 : Exa Z Z.heap r2 cs1) (f3 : Arv Z Z.heap r2 c3 (.object cs0) (6 : Int32) [(.ref r4), (.ref r5), (.ref r6), (.ref r7), (.ref r8), (.ref r9)] .null) (f4 : Fld Z Z.heap r4 cs0 "code" "I" (.int (1 : Int32))) (hc5 : ¬ ((1 : Int32) = x0)) (f6 : Fld Z Z.heap r5 cs0 "code" "I" (.int (2 : Int32))) (hc7 : ¬ ((2 : Int32) = x0)) (f8 : Fld Z Z.heap r6 cs0 "code" "I" (.int (3 : Int32))) (hc9 : ¬ ((3 : Int32) = x0)) (f10 : Fld Z Z.heap r7 cs0 "code" "I" (.int (4 : Int32))) (hc11 : ¬ ((4 : Int32) = x0)) (f12 : Fld Z Z.heap r8 cs0 "code" "I" (.int (5 : Int32))) (hc13 : ¬ ((5 : Int32) = x0)) (f14 : Fld Z Z.heap r9 cs0 "code" "I" (.int (6 : Int32))) (hc15 : (6 : Int32) = x0) (hc17 : ¬ ((1 : Int32) = (x1 &&& (7 : Int32)))) (hc18 : ¬ ((2 : Int32) = (x1 &&& (7 : Int32)))) (hc19 : (3 : Int32) = (x1 &&& (7 : Int32))) (hc20 : ¬ ((4 : Int32) = (x1 &&& (7 : Int32)))) (hc21 : ¬ ((5 : Int32) = (x1 &&& (7 : Int32)))) (hc22 : ¬ ((6 : Int32) = (x1 &&& (7 : Int32)))) (hc25 : ¬ (x0 = (1 : Int32))) (hc26 : ¬ (x0 = (2 : Int32))) (hc27 : ¬ (x0 = (3 : Int32))) (hc28 : ¬ (x0 = (4 : Int32))) (hc29 : ¬ (x0 = (5 : Int32))) (hc30 : x0 = (6 : Int32)) (f31 : Sta Z Z.heap cs0 "GUID" cs5 (.ref r9)) (hc34 : ¬ ((x1 &&& (7 : Int32)) = (1 : Int32))) (hc35 : ¬ ((x1 &&& (7 : Int32)) = (2 : Int32))) (hc36 : (x1 &&& (7 : Int32)) = (3 : Int32)) (f37 : Sta Z Z.heap cs0 "F32" cs5 (.ref r6)) :
    MetFree l x (head1 (Jvm.Cond.code x code maxLocals ret :: ws) room_1) (fun a U => a = #[(.int x0), (.int x1)] ∧ Z.Warmed39 U.vm ∧ U.heap = h0) (fun _ _ _ _ _ => True) (fun _ U o U' => ∃ v L, o = .returned v ∧ Q0_39 Z x0 x1 r2 c3 r4 r5 r6 r7 r8 r9 h0 n0 v U'.heap L ∧ FrameEnd U o U' L room_1.cells room_1.slots) := by
  refine MetFree.of_bodySF (plainFor_of_name pn_com_example_wiregather_wiregather_wire_FieldTypeOfCodePinLaw) hisR ?_
  intro p e s m args below meth c s₁ Bd hml0 hP hK
  obtain ⟨rfl, hZ, hh⟩ := hP
  have hx := Bd.exec
  have hby := Bd.bytes
  have hml : c.maxLocals = 5 := hml0
  have hown : s.vm.findClass cs4 = some m.cls := findClass_of_methodNamed Bd.named
  have hnm := (name_of_methodNamed Bd.named Bd.method).1
  have X0 : Stand p l e room_1 s m #[(.int x0), (.int x1)] below meth c s₁ [] 0 0 := Stand.of_body Bd
  have e0 : s₁.heap = h0 := by rw [← hh, Bd.state]; rfl
  have N0 := Fr.nil n0
  have pre0 : ∀ t, Steps p.tables e below (s₁.setTop (mkF m 0 #[.val (.int x0), .val (.int x1), .unset, .unset, .unset] [])) t → Steps p.tables e below (s₁.setTop (entryFrame m #[(.int x0), (.int x1)] maxLocals)) t := fun t k => castTop (by first | (simp [entryFrame, mkF, argsToLocals, Value.category, maxLocals]; done) | rfl) k
  obtain ⟨_, _, ⟨T16, L16, k16, n16⟩, -, X16, ⟨Lc16, hQ16, l16, y16, z16⟩, st16⟩ := Jvm.LawKit.callS X0 hx (y := (⟨cs0, "ofCode", cs3⟩ : MethodName)) hown (mvT hZ (ww hw 0 rfl)) (mvT hZ (ww hw 1 rfl)) (mvT hZ (ww hw 2 rfl)) (mvT hZ (ww hw 3 rfl)) (by decide) (backOf (W := 0) (rm1_7 l Z a0 hw [] x0 r2 c3 r4 r5 r6 r7 r8 r9 h0 n0 O0 f1 f2 f3 f4 hc5 f6 hc7 f8 hc9 f10 hc11 f12 hc13 f14 hc15) hZ (ww hw 3 rfl) (ww hw 2 rfl) (by decide) (by decide)) (g := (mkF m 6 #[.val (.int x0), .val (.int x1), .val (.int (x1 &&& (7 : Int32))), .unset, .unset] [(.int x0)])) rfl (by rw [hml]; rfl) (argsL := [(.int x0)]) (rest := []) (lenOf pd__I_Lcom_example_wiregather_wiregather_wire_FieldType_ rfl) rfl (by show 2 * 0 + _ ≤ _; exact Nat.le_of_eq rfl) (hb hby at_6) (fun _ _ => ⟨rfl, e0, (by decide : 0 + 1 ≤ _), (by decide : 0 + 6 ≤ _)⟩)
  dsimp only [Pt.U, Pt.locs, Pt.cells, Pt.slots] at X16 l16 y16 z16 st16 hQ16
  subst l16 y16 z16
  obtain ⟨rfl, N16q, K16⟩ := hQ16
  have N16 := Fr.app N0 N16q
  have o23 := Old.keep O0 K16 all0
  obtain ⟨_, _, ⟨T24, L24, k24, n24⟩, -, X24, ⟨Lc24, hQ24, l24, y24, z24⟩, st24⟩ := Jvm.LawKit.callS X16 hx (y := (⟨cs0, "ofCode", cs3⟩ : MethodName)) hown (mvT hZ (ww hw 0 rfl)) (mvT hZ (ww hw 1 rfl)) (mvT hZ (ww hw 2 rfl)) (mvT hZ (ww hw 3 rfl)) (by decide) (backOf (W := 0) (rm1_4 l Z a0 hw [] (x1 &&& (7 : Int32)) r2 c3 r4 r5 r6 r7 r8 r9 T16.heap n0 o23 f1 f2 f3 f4 hc17 f6 hc18 f8 hc19 f10 hc20 f12 hc21 f14 hc22) hZ (ww hw 3 rfl) (ww hw 2 rfl) (by decide) (by decide)) (g := (mkF m 11 #[.val (.int x0), .val (.int x1), .val (.int (x1 &&& (7 : Int32))), .val (.ref r9), .unset] [(.int (x1 &&& (7 : Int32)))])) rfl (by rw [hml]; rfl) (argsL := [(.int (x1 &&& (7 : Int32)))]) (rest := []) (lenOf pd__I_Lcom_example_wiregather_wiregather_wire_FieldType_ rfl) rfl (by show 2 * 0 + _ ≤ _; exact Nat.le_of_eq rfl) (hb hby at_11) (fun _ _ => ⟨rfl, rfl, (by decide : 1 + 1 ≤ _), (by decide : 6 + 6 ≤ _)⟩)
  dsimp only [Pt.U, Pt.locs, Pt.cells, Pt.slots] at X24 l24 y24 z24 st24 hQ24
  subst l24 y24 z24
  obtain ⟨rfl, N24q, K24⟩ := hQ24
  have N24 := Fr.app N16 N24q
  have o32 := Old.keep o23 K24 all0
  obtain ⟨_, _, ⟨T33, L33, k33, n33⟩, -, X33, ⟨Lc33, hQ33, l33, y33, z33⟩, st33⟩ := Jvm.LawKit.callS X24 hx (y := (⟨cs4, "expected", cs3⟩ : MethodName)) hown (mvT hZ (ww hw 27 rfl)) (mvT hZ (ww hw 28 rfl)) (mvT hZ (ww hw 29 rfl)) (mvT hZ (ww hw 30 rfl)) (by decide) (backOf (W := 1) (rm3_7 l Z a0 hw [] x0 r9 T24.heap n0 o32 hc25 hc26 hc27 hc28 hc29 hc30 f31) hZ (ww hw 30 rfl) (ww hw 29 rfl) (by decide) (by decide)) (g := (mkF m 18 #[.val (.int x0), .val (.int x1), .val (.int (x1 &&& (7 : Int32))), .val (.ref r9), .val (.ref r6)] [(.int x0), (.ref r9)])) rfl (by rw [hml]; rfl) (argsL := [(.int x0)]) (rest := [(.ref r9)]) (lenOf pd__I_Lcom_example_wiregather_wiregather_wire_FieldType_ rfl) rfl (by show 2 * 0 + _ ≤ _; exact Nat.le_of_eq rfl) (hb hby at_18) (fun _ _ => ⟨rfl, rfl, (by decide : 2 + 0 ≤ _), (by decide : 12 + 0 ≤ _)⟩)
  dsimp only [Pt.U, Pt.locs, Pt.cells, Pt.slots] at X33 l33 y33 z33 st33 hQ33
  subst l33 y33 z33
  obtain ⟨rfl, N33q, E33⟩ := hQ33
  have N33 := Fr.app N24 N33q
  obtain ⟨_, _, ⟨T38, L38, k38, n38⟩, -, X38, ⟨Lc38, hQ38, l38, y38, z38⟩, st38⟩ := Jvm.LawKit.callS X33 hx (y := (⟨cs4, "expected", cs3⟩ : MethodName)) hown (mvT hZ (ww hw 27 rfl)) (mvT hZ (ww hw 28 rfl)) (mvT hZ (ww hw 29 rfl)) (mvT hZ (ww hw 30 rfl)) (by decide) (backOf (W := 1) (rm3_4 l Z a0 hw [] (x1 &&& (7 : Int32)) r6 T24.heap n0 o32 hc34 hc35 hc36 f37) hZ (ww hw 30 rfl) (ww hw 29 rfl) (by decide) (by decide)) (g := (mkF m 27 #[.val (.int x0), .val (.int x1), .val (.int (x1 &&& (7 : Int32))), .val (.ref r9), .val (.ref r6)] [(.int (x1 &&& (7 : Int32))), (.ref r6)])) rfl (by rw [hml]; rfl) (argsL := [(.int (x1 &&& (7 : Int32)))]) (rest := [(.ref r6)]) (lenOf pd__I_Lcom_example_wiregather_wiregather_wire_FieldType_ rfl) rfl (by show 2 * 0 + _ ≤ _; exact Nat.le_of_eq rfl) (hb hby at_27) (fun _ _ => ⟨rfl, E33, (by decide : 2 + 0 ≤ _), (by decide : 12 + 0 ≤ _)⟩)
  dsimp only [Pt.U, Pt.locs, Pt.cells, Pt.slots] at X38 l38 y38 z38 st38 hQ38
  subst l38 y38 z38
  obtain ⟨rfl, N38q, E38⟩ := hQ38
  have N38 := Fr.app N33 N38q
  obtain ⟨fs, hr, hrun, hended, hW, hsame⟩ := X38.leave (v := some (.int (1 : Int32))) (fun h => by rw [Bd.returns] at h; cases h)
  refine ⟨_, _, pre0 _ ?_, hrun, hended, _, _, rfl, ?_, ⟨_, rfl⟩, hW, hsame.mono (by decide) (by decide)⟩
  · show Steps p.tables e below (s₁.setTop (mkF m 0 #[.val (.int x0), .val (.int x1), .unset, .unset, .unset] [])) _
    refine XS.iloadN X0.here hx rfl (hb hby at_0) rfl ?_
    refine XS.bipush X0.here hx rfl (hb hby at_1) ?_
    refine XS.iand X0.here hx rfl (hb hby at_3) rfl ?_
    refine XS.istoreN X0.here hx rfl (hb hby at_4) rfl (l' := #[.val (.int x0), .val (.int x1), .val (.int (x1 &&& (7 : Int32))), .unset, .unset]) rfl ?_
    show Steps p.tables e below (s₁.setTop (mkF m 5 #[.val (.int x0), .val (.int x1), .val (.int (x1 &&& (7 : Int32))), .unset, .unset] [])) _
    refine XS.iloadN X0.here hx rfl (hb hby at_5) rfl ?_
    refine st16 _ ?_
    show Steps p.tables e below (T16.setTop (mkF m 9 #[.val (.int x0), .val (.int x1), .val (.int (x1 &&& (7 : Int32))), .unset, .unset] [(.ref r9)])) _
    refine XS.astoreN X16.here hx rfl (hb hby at_9) rfl rfl (l' := #[.val (.int x0), .val (.int x1), .val (.int (x1 &&& (7 : Int32))), .val (.ref r9), .unset]) rfl ?_
    refine XS.iloadN X16.here hx rfl (hb hby at_10) rfl ?_
    refine st24 _ ?_
    show Steps p.tables e below (T24.setTop (mkF m 14 #[.val (.int x0), .val (.int x1), .val (.int (x1 &&& (7 : Int32))), .val (.ref r9), .unset] [(.ref r6)])) _
    refine XS.astore X24.here hx rfl (hb hby at_14) rfl rfl (l' := #[.val (.int x0), .val (.int x1), .val (.int (x1 &&& (7 : Int32))), .val (.ref r9), .val (.ref r6)]) rfl ?_
    refine XS.aloadN X24.here hx rfl (hb hby at_16) rfl rfl ?_
    refine XS.iloadN X24.here hx rfl (hb hby at_17) rfl ?_
    refine st33 _ ?_
    show Steps p.tables e below (T33.setTop (mkF m 21 #[.val (.int x0), .val (.int x1), .val (.int (x1 &&& (7 : Int32))), .val (.ref r9), .val (.ref r6)] [(.ref r9), (.ref r9)])) _
    refine Jvm.RoadKit.acmp (g := (mkF m 21 #[.val (.int x0), .val (.int x1), .val (.int (x1 &&& (7 : Int32))), .val (.ref r9), .val (.ref r6)] [(.ref r9), (.ref r9)])) X33 hx rfl rfl rfl (pc0 := 21) (pc' := 24) (same := true) rfl (hb hby at_21) rfl (decide_eq_true rfl) (by decide) (by decide) ?_
    show Steps p.tables e below (T33.setTop (mkF m 24 #[.val (.int x0), .val (.int x1), .val (.int (x1 &&& (7 : Int32))), .val (.ref r9), .val (.ref r6)] [])) _
    refine XS.aload X33.here hx rfl (hb hby at_24) rfl rfl ?_
    refine XS.iloadN X33.here hx rfl (hb hby at_26) rfl ?_
    refine st38 _ ?_
    show Steps p.tables e below (T38.setTop (mkF m 30 #[.val (.int x0), .val (.int x1), .val (.int (x1 &&& (7 : Int32))), .val (.ref r9), .val (.ref r6)] [(.ref r6), (.ref r6)])) _
    refine Jvm.RoadKit.acmp (g := (mkF m 30 #[.val (.int x0), .val (.int x1), .val (.int (x1 &&& (7 : Int32))), .val (.ref r9), .val (.ref r6)] [(.ref r6), (.ref r6)])) X38 hx rfl rfl rfl (pc0 := 30) (pc' := 33) (same := true) rfl (hb hby at_30) rfl (decide_eq_true rfl) (by decide) (by decide) ?_
    show Steps p.tables e below (T38.setTop (mkF m 33 #[.val (.int x0), .val (.int x1), .val (.int (x1 &&& (7 : Int32))), .val (.ref r9), .val (.ref r6)] [])) _
    refine XS.iconst X38.here hx rfl (hb hby at_33) ?_
    refine XS.goto X38.here hx rfl (pc0 := 34) (pc' := 38) rfl (hb hby at_34) (by decide) (by decide) ?_
    show Steps p.tables e below (T38.setTop (mkF m 38 #[.val (.int x0), .val (.int x1), .val (.int (x1 &&& (7 : Int32))), .val (.ref r9), .val (.ref r6)] [(.int (1 : Int32))])) _
    exact retN X38 hx (t := .boolean) Bd.returns (by simp) (hb hby at_38) hr
  · show Q0_39 Z x0 x1 r2 c3 r4 r5 r6 r7 r8 r9 h0 n0 _ T38.heap _
    rw [E38]
    exact ⟨rfl, N38⟩
def Q0_40 (Z : State) (x0 : Int32) (x1 : Int32) (r2 : Addr) (c3 : ClassId) (r4 : Addr) (r5 : Addr) (r6 : Addr) (r7 : Addr) (r8 : Addr) (r9 : Addr) (h0 : Heap) (n0 : Nat) (v : Option Value) (h : Heap) (L : List Loc) : Prop := v = some (.int (1 : Int32)) ∧ Fr n0 L
set_option maxRecDepth 65536 in
set_option maxHeartbeats 40000000 in
theorem rm0_40 (l : Launch) (Z : State) (a0 : Array Value) (hw : ∀ d ∈ tables_1, d.before a0 Z = true) (ws : List Jvm.Cond) (x0 : Int32) (x1 : Int32) (r2 : Addr) (c3 : ClassId) (r4 : Addr) (r5 : Addr) (r6 : Addr) (r7 : Addr) (r8 : Addr) (r9 : Addr) (h0 : Heap) (n0 : Nat) (O0 : Old Z n0 h0) (f1 : Sta Z Z.heap cs0 "$VALUES" cs1 (.ref r2)) (f2 : Exa Z Z.heap r2 cs1) (f3 : Arv Z Z.heap r2 c3 (.object cs0) (6 : Int32) [(.ref r4), (.ref r5), (.ref r6), (.ref r7), (.ref r8), (.ref r9)] .null) (f4 : Fld Z Z.heap r4 cs0 "code" "I" (.int (1 : Int32))) (hc5 : ¬ ((1 : Int32) = x0)) (f6 : Fld Z Z.heap r5 cs0 "code" "I" (.int (2 : Int32))) (hc7 : ¬ ((2 : Int32) = x0)) (f8 : Fld Z Z.heap r6 cs0 "code" "I" (.int (3 : Int32))) (hc9 : ¬ ((3 : Int32) = x0)) (f10 : Fld Z Z.heap r7 cs0 "code" "I" (.int (4 : Int32))) (hc11 : ¬ ((4 : Int32) = x0)) (f12 : Fld Z Z.heap r8 cs0 "code" "I" (.int (5 : Int32))) (hc13 : ¬ ((5 : Int32) = x0)) (f14 : Fld Z Z.heap r9 cs0 "code" "I" (.int (6 : Int32))) (hc15 : (6 : Int32) = x0) (hc17 : ¬ ((1 : Int32) = (x1 &&& (7 : Int32)))) (hc18 : ¬ ((2 : Int32) = (x1 &&& (7 : Int32)))) (hc19 : ¬ ((3 : Int32) = (x1 &&& (7 : Int32)))) (hc20 : (4 : Int32) = (x1 &&& (7 : Int32))) (hc21 : ¬ ((5 : Int32) = (x1 &&& (7 : Int32)))) (hc22 : ¬ ((6 : Int32) = (x1 &&& (7 : Int32)))) (hc25 : ¬ (x0 = (1 : Int32))) (hc26 : ¬ (x0 = (2 : Int32))) (hc27 : ¬ (x0 = (3 : Int32))) (hc28 : ¬ (x0 = (4 : Int32))) (hc29 : ¬ (x0 = (5 : Int32))) (hc30 : x0 = (6 : Int32)) (f31 : Sta Z Z.heap cs0 "GUID" cs5 (.ref r9)) (hc34 : ¬ ((x1 &&& (7 : Int32)) = (1 : Int32))) (hc35 : ¬ ((x1 &&& (7 : Int32)) = (2 : Int32))) (hc36 : ¬ ((x1 &&& (7 : Int32)) = (3 : Int32))) (hc37 : (x1 &&& (7 : Int32)) = (4 : Int32)) (f38 : Sta Z Z.heap cs0 "F64" cs5 (.ref r7)) :
    MetFree l x (head1 (Jvm.Cond.code x code maxLocals ret :: ws) room_1) (fun a U => a = #[(.int x0), (.int x1)] ∧ Z.Warmed39 U.vm ∧ U.heap = h0) (fun _ _ _ _ _ => True) (fun _ U o U' => ∃ v L, o = .returned v ∧ Q0_40 Z x0 x1 r2 c3 r4 r5 r6 r7 r8 r9 h0 n0 v U'.heap L ∧ FrameEnd U o U' L room_1.cells room_1.slots) := by
  refine MetFree.of_bodySF (plainFor_of_name pn_com_example_wiregather_wiregather_wire_FieldTypeOfCodePinLaw) hisR ?_
  intro p e s m args below meth c s₁ Bd hml0 hP hK
  obtain ⟨rfl, hZ, hh⟩ := hP
  have hx := Bd.exec
  have hby := Bd.bytes
  have hml : c.maxLocals = 5 := hml0
  have hown : s.vm.findClass cs4 = some m.cls := findClass_of_methodNamed Bd.named
  have hnm := (name_of_methodNamed Bd.named Bd.method).1
  have X0 : Stand p l e room_1 s m #[(.int x0), (.int x1)] below meth c s₁ [] 0 0 := Stand.of_body Bd
  have e0 : s₁.heap = h0 := by rw [← hh, Bd.state]; rfl
  have N0 := Fr.nil n0
  have pre0 : ∀ t, Steps p.tables e below (s₁.setTop (mkF m 0 #[.val (.int x0), .val (.int x1), .unset, .unset, .unset] [])) t → Steps p.tables e below (s₁.setTop (entryFrame m #[(.int x0), (.int x1)] maxLocals)) t := fun t k => castTop (by first | (simp [entryFrame, mkF, argsToLocals, Value.category, maxLocals]; done) | rfl) k
  obtain ⟨_, _, ⟨T16, L16, k16, n16⟩, -, X16, ⟨Lc16, hQ16, l16, y16, z16⟩, st16⟩ := Jvm.LawKit.callS X0 hx (y := (⟨cs0, "ofCode", cs3⟩ : MethodName)) hown (mvT hZ (ww hw 0 rfl)) (mvT hZ (ww hw 1 rfl)) (mvT hZ (ww hw 2 rfl)) (mvT hZ (ww hw 3 rfl)) (by decide) (backOf (W := 0) (rm1_7 l Z a0 hw [] x0 r2 c3 r4 r5 r6 r7 r8 r9 h0 n0 O0 f1 f2 f3 f4 hc5 f6 hc7 f8 hc9 f10 hc11 f12 hc13 f14 hc15) hZ (ww hw 3 rfl) (ww hw 2 rfl) (by decide) (by decide)) (g := (mkF m 6 #[.val (.int x0), .val (.int x1), .val (.int (x1 &&& (7 : Int32))), .unset, .unset] [(.int x0)])) rfl (by rw [hml]; rfl) (argsL := [(.int x0)]) (rest := []) (lenOf pd__I_Lcom_example_wiregather_wiregather_wire_FieldType_ rfl) rfl (by show 2 * 0 + _ ≤ _; exact Nat.le_of_eq rfl) (hb hby at_6) (fun _ _ => ⟨rfl, e0, (by decide : 0 + 1 ≤ _), (by decide : 0 + 6 ≤ _)⟩)
  dsimp only [Pt.U, Pt.locs, Pt.cells, Pt.slots] at X16 l16 y16 z16 st16 hQ16
  subst l16 y16 z16
  obtain ⟨rfl, N16q, K16⟩ := hQ16
  have N16 := Fr.app N0 N16q
  have o23 := Old.keep O0 K16 all0
  obtain ⟨_, _, ⟨T24, L24, k24, n24⟩, -, X24, ⟨Lc24, hQ24, l24, y24, z24⟩, st24⟩ := Jvm.LawKit.callS X16 hx (y := (⟨cs0, "ofCode", cs3⟩ : MethodName)) hown (mvT hZ (ww hw 0 rfl)) (mvT hZ (ww hw 1 rfl)) (mvT hZ (ww hw 2 rfl)) (mvT hZ (ww hw 3 rfl)) (by decide) (backOf (W := 0) (rm1_5 l Z a0 hw [] (x1 &&& (7 : Int32)) r2 c3 r4 r5 r6 r7 r8 r9 T16.heap n0 o23 f1 f2 f3 f4 hc17 f6 hc18 f8 hc19 f10 hc20 f12 hc21 f14 hc22) hZ (ww hw 3 rfl) (ww hw 2 rfl) (by decide) (by decide)) (g := (mkF m 11 #[.val (.int x0), .val (.int x1), .val (.int (x1 &&& (7 : Int32))), .val (.ref r9), .unset] [(.int (x1 &&& (7 : Int32)))])) rfl (by rw [hml]; rfl) (argsL := [(.int (x1 &&& (7 : Int32)))]) (rest := []) (lenOf pd__I_Lcom_example_wiregather_wiregather_wire_FieldType_ rfl) rfl (by show 2 * 0 + _ ≤ _; exact Nat.le_of_eq rfl) (hb hby at_11) (fun _ _ => ⟨rfl, rfl, (by decide : 1 + 1 ≤ _), (by decide : 6 + 6 ≤ _)⟩)
  dsimp only [Pt.U, Pt.locs, Pt.cells, Pt.slots] at X24 l24 y24 z24 st24 hQ24
  subst l24 y24 z24
  obtain ⟨rfl, N24q, K24⟩ := hQ24
  have N24 := Fr.app N16 N24q
  have o32 := Old.keep o23 K24 all0
  obtain ⟨_, _, ⟨T33, L33, k33, n33⟩, -, X33, ⟨Lc33, hQ33, l33, y33, z33⟩, st33⟩ := Jvm.LawKit.callS X24 hx (y := (⟨cs4, "expected", cs3⟩ : MethodName)) hown (mvT hZ (ww hw 27 rfl)) (mvT hZ (ww hw 28 rfl)) (mvT hZ (ww hw 29 rfl)) (mvT hZ (ww hw 30 rfl)) (by decide) (backOf (W := 1) (rm3_7 l Z a0 hw [] x0 r9 T24.heap n0 o32 hc25 hc26 hc27 hc28 hc29 hc30 f31) hZ (ww hw 30 rfl) (ww hw 29 rfl) (by decide) (by decide)) (g := (mkF m 18 #[.val (.int x0), .val (.int x1), .val (.int (x1 &&& (7 : Int32))), .val (.ref r9), .val (.ref r7)] [(.int x0), (.ref r9)])) rfl (by rw [hml]; rfl) (argsL := [(.int x0)]) (rest := [(.ref r9)]) (lenOf pd__I_Lcom_example_wiregather_wiregather_wire_FieldType_ rfl) rfl (by show 2 * 0 + _ ≤ _; exact Nat.le_of_eq rfl) (hb hby at_18) (fun _ _ => ⟨rfl, rfl, (by decide : 2 + 0 ≤ _), (by decide : 12 + 0 ≤ _)⟩)
  dsimp only [Pt.U, Pt.locs, Pt.cells, Pt.slots] at X33 l33 y33 z33 st33 hQ33
  subst l33 y33 z33
  obtain ⟨rfl, N33q, E33⟩ := hQ33
  have N33 := Fr.app N24 N33q
  obtain ⟨_, _, ⟨T39, L39, k39, n39⟩, -, X39, ⟨Lc39, hQ39, l39, y39, z39⟩, st39⟩ := Jvm.LawKit.callS X33 hx (y := (⟨cs4, "expected", cs3⟩ : MethodName)) hown (mvT hZ (ww hw 27 rfl)) (mvT hZ (ww hw 28 rfl)) (mvT hZ (ww hw 29 rfl)) (mvT hZ (ww hw 30 rfl)) (by decide) (backOf (W := 1) (rm3_5 l Z a0 hw [] (x1 &&& (7 : Int32)) r7 T24.heap n0 o32 hc34 hc35 hc36 hc37 f38) hZ (ww hw 30 rfl) (ww hw 29 rfl) (by decide) (by decide)) (g := (mkF m 27 #[.val (.int x0), .val (.int x1), .val (.int (x1 &&& (7 : Int32))), .val (.ref r9), .val (.ref r7)] [(.int (x1 &&& (7 : Int32))), (.ref r7)])) rfl (by rw [hml]; rfl) (argsL := [(.int (x1 &&& (7 : Int32)))]) (rest := [(.ref r7)]) (lenOf pd__I_Lcom_example_wiregather_wiregather_wire_FieldType_ rfl) rfl (by show 2 * 0 + _ ≤ _; exact Nat.le_of_eq rfl) (hb hby at_27) (fun _ _ => ⟨rfl, E33, (by decide : 2 + 0 ≤ _), (by decide : 12 + 0 ≤ _)⟩)
  dsimp only [Pt.U, Pt.locs, Pt.cells, Pt.slots] at X39 l39 y39 z39 st39 hQ39
  subst l39 y39 z39
  obtain ⟨rfl, N39q, E39⟩ := hQ39
  have N39 := Fr.app N33 N39q
  obtain ⟨fs, hr, hrun, hended, hW, hsame⟩ := X39.leave (v := some (.int (1 : Int32))) (fun h => by rw [Bd.returns] at h; cases h)
  refine ⟨_, _, pre0 _ ?_, hrun, hended, _, _, rfl, ?_, ⟨_, rfl⟩, hW, hsame.mono (by decide) (by decide)⟩
  · show Steps p.tables e below (s₁.setTop (mkF m 0 #[.val (.int x0), .val (.int x1), .unset, .unset, .unset] [])) _
    refine XS.iloadN X0.here hx rfl (hb hby at_0) rfl ?_
    refine XS.bipush X0.here hx rfl (hb hby at_1) ?_
    refine XS.iand X0.here hx rfl (hb hby at_3) rfl ?_
    refine XS.istoreN X0.here hx rfl (hb hby at_4) rfl (l' := #[.val (.int x0), .val (.int x1), .val (.int (x1 &&& (7 : Int32))), .unset, .unset]) rfl ?_
    show Steps p.tables e below (s₁.setTop (mkF m 5 #[.val (.int x0), .val (.int x1), .val (.int (x1 &&& (7 : Int32))), .unset, .unset] [])) _
    refine XS.iloadN X0.here hx rfl (hb hby at_5) rfl ?_
    refine st16 _ ?_
    show Steps p.tables e below (T16.setTop (mkF m 9 #[.val (.int x0), .val (.int x1), .val (.int (x1 &&& (7 : Int32))), .unset, .unset] [(.ref r9)])) _
    refine XS.astoreN X16.here hx rfl (hb hby at_9) rfl rfl (l' := #[.val (.int x0), .val (.int x1), .val (.int (x1 &&& (7 : Int32))), .val (.ref r9), .unset]) rfl ?_
    refine XS.iloadN X16.here hx rfl (hb hby at_10) rfl ?_
    refine st24 _ ?_
    show Steps p.tables e below (T24.setTop (mkF m 14 #[.val (.int x0), .val (.int x1), .val (.int (x1 &&& (7 : Int32))), .val (.ref r9), .unset] [(.ref r7)])) _
    refine XS.astore X24.here hx rfl (hb hby at_14) rfl rfl (l' := #[.val (.int x0), .val (.int x1), .val (.int (x1 &&& (7 : Int32))), .val (.ref r9), .val (.ref r7)]) rfl ?_
    refine XS.aloadN X24.here hx rfl (hb hby at_16) rfl rfl ?_
    refine XS.iloadN X24.here hx rfl (hb hby at_17) rfl ?_
    refine st33 _ ?_
    show Steps p.tables e below (T33.setTop (mkF m 21 #[.val (.int x0), .val (.int x1), .val (.int (x1 &&& (7 : Int32))), .val (.ref r9), .val (.ref r7)] [(.ref r9), (.ref r9)])) _
    refine Jvm.RoadKit.acmp (g := (mkF m 21 #[.val (.int x0), .val (.int x1), .val (.int (x1 &&& (7 : Int32))), .val (.ref r9), .val (.ref r7)] [(.ref r9), (.ref r9)])) X33 hx rfl rfl rfl (pc0 := 21) (pc' := 24) (same := true) rfl (hb hby at_21) rfl (decide_eq_true rfl) (by decide) (by decide) ?_
    show Steps p.tables e below (T33.setTop (mkF m 24 #[.val (.int x0), .val (.int x1), .val (.int (x1 &&& (7 : Int32))), .val (.ref r9), .val (.ref r7)] [])) _
    refine XS.aload X33.here hx rfl (hb hby at_24) rfl rfl ?_
    refine XS.iloadN X33.here hx rfl (hb hby at_26) rfl ?_
    refine st39 _ ?_
    show Steps p.tables e below (T39.setTop (mkF m 30 #[.val (.int x0), .val (.int x1), .val (.int (x1 &&& (7 : Int32))), .val (.ref r9), .val (.ref r7)] [(.ref r7), (.ref r7)])) _
    refine Jvm.RoadKit.acmp (g := (mkF m 30 #[.val (.int x0), .val (.int x1), .val (.int (x1 &&& (7 : Int32))), .val (.ref r9), .val (.ref r7)] [(.ref r7), (.ref r7)])) X39 hx rfl rfl rfl (pc0 := 30) (pc' := 33) (same := true) rfl (hb hby at_30) rfl (decide_eq_true rfl) (by decide) (by decide) ?_
    show Steps p.tables e below (T39.setTop (mkF m 33 #[.val (.int x0), .val (.int x1), .val (.int (x1 &&& (7 : Int32))), .val (.ref r9), .val (.ref r7)] [])) _
    refine XS.iconst X39.here hx rfl (hb hby at_33) ?_
    refine XS.goto X39.here hx rfl (pc0 := 34) (pc' := 38) rfl (hb hby at_34) (by decide) (by decide) ?_
    show Steps p.tables e below (T39.setTop (mkF m 38 #[.val (.int x0), .val (.int x1), .val (.int (x1 &&& (7 : Int32))), .val (.ref r9), .val (.ref r7)] [(.int (1 : Int32))])) _
    exact retN X39 hx (t := .boolean) Bd.returns (by simp) (hb hby at_38) hr
  · show Q0_40 Z x0 x1 r2 c3 r4 r5 r6 r7 r8 r9 h0 n0 _ T39.heap _
    rw [E39]
    exact ⟨rfl, N39⟩
def Q0_41 (Z : State) (x0 : Int32) (x1 : Int32) (r2 : Addr) (c3 : ClassId) (r4 : Addr) (r5 : Addr) (r6 : Addr) (r7 : Addr) (r8 : Addr) (r9 : Addr) (h0 : Heap) (n0 : Nat) (v : Option Value) (h : Heap) (L : List Loc) : Prop := v = some (.int (1 : Int32)) ∧ Fr n0 L
set_option maxRecDepth 65536 in
set_option maxHeartbeats 40000000 in
theorem rm0_41 (l : Launch) (Z : State) (a0 : Array Value) (hw : ∀ d ∈ tables_1, d.before a0 Z = true) (ws : List Jvm.Cond) (x0 : Int32) (x1 : Int32) (r2 : Addr) (c3 : ClassId) (r4 : Addr) (r5 : Addr) (r6 : Addr) (r7 : Addr) (r8 : Addr) (r9 : Addr) (h0 : Heap) (n0 : Nat) (O0 : Old Z n0 h0) (f1 : Sta Z Z.heap cs0 "$VALUES" cs1 (.ref r2)) (f2 : Exa Z Z.heap r2 cs1) (f3 : Arv Z Z.heap r2 c3 (.object cs0) (6 : Int32) [(.ref r4), (.ref r5), (.ref r6), (.ref r7), (.ref r8), (.ref r9)] .null) (f4 : Fld Z Z.heap r4 cs0 "code" "I" (.int (1 : Int32))) (hc5 : ¬ ((1 : Int32) = x0)) (f6 : Fld Z Z.heap r5 cs0 "code" "I" (.int (2 : Int32))) (hc7 : ¬ ((2 : Int32) = x0)) (f8 : Fld Z Z.heap r6 cs0 "code" "I" (.int (3 : Int32))) (hc9 : ¬ ((3 : Int32) = x0)) (f10 : Fld Z Z.heap r7 cs0 "code" "I" (.int (4 : Int32))) (hc11 : ¬ ((4 : Int32) = x0)) (f12 : Fld Z Z.heap r8 cs0 "code" "I" (.int (5 : Int32))) (hc13 : ¬ ((5 : Int32) = x0)) (f14 : Fld Z Z.heap r9 cs0 "code" "I" (.int (6 : Int32))) (hc15 : (6 : Int32) = x0) (hc17 : ¬ ((1 : Int32) = (x1 &&& (7 : Int32)))) (hc18 : ¬ ((2 : Int32) = (x1 &&& (7 : Int32)))) (hc19 : ¬ ((3 : Int32) = (x1 &&& (7 : Int32)))) (hc20 : ¬ ((4 : Int32) = (x1 &&& (7 : Int32)))) (hc21 : (5 : Int32) = (x1 &&& (7 : Int32))) (hc22 : ¬ ((6 : Int32) = (x1 &&& (7 : Int32)))) (hc25 : ¬ (x0 = (1 : Int32))) (hc26 : ¬ (x0 = (2 : Int32))) (hc27 : ¬ (x0 = (3 : Int32))) (hc28 : ¬ (x0 = (4 : Int32))) (hc29 : ¬ (x0 = (5 : Int32))) (hc30 : x0 = (6 : Int32)) (f31 : Sta Z Z.heap cs0 "GUID" cs5 (.ref r9)) (hc34 : ¬ ((x1 &&& (7 : Int32)) = (1 : Int32))) (hc35 : ¬ ((x1 &&& (7 : Int32)) = (2 : Int32))) (hc36 : ¬ ((x1 &&& (7 : Int32)) = (3 : Int32))) (hc37 : ¬ ((x1 &&& (7 : Int32)) = (4 : Int32))) (hc38 : (x1 &&& (7 : Int32)) = (5 : Int32)) (f39 : Sta Z Z.heap cs0 "TEXT" cs5 (.ref r8)) :
    MetFree l x (head1 (Jvm.Cond.code x code maxLocals ret :: ws) room_1) (fun a U => a = #[(.int x0), (.int x1)] ∧ Z.Warmed39 U.vm ∧ U.heap = h0) (fun _ _ _ _ _ => True) (fun _ U o U' => ∃ v L, o = .returned v ∧ Q0_41 Z x0 x1 r2 c3 r4 r5 r6 r7 r8 r9 h0 n0 v U'.heap L ∧ FrameEnd U o U' L room_1.cells room_1.slots) := by
  refine MetFree.of_bodySF (plainFor_of_name pn_com_example_wiregather_wiregather_wire_FieldTypeOfCodePinLaw) hisR ?_
  intro p e s m args below meth c s₁ Bd hml0 hP hK
  obtain ⟨rfl, hZ, hh⟩ := hP
  have hx := Bd.exec
  have hby := Bd.bytes
  have hml : c.maxLocals = 5 := hml0
  have hown : s.vm.findClass cs4 = some m.cls := findClass_of_methodNamed Bd.named
  have hnm := (name_of_methodNamed Bd.named Bd.method).1
  have X0 : Stand p l e room_1 s m #[(.int x0), (.int x1)] below meth c s₁ [] 0 0 := Stand.of_body Bd
  have e0 : s₁.heap = h0 := by rw [← hh, Bd.state]; rfl
  have N0 := Fr.nil n0
  have pre0 : ∀ t, Steps p.tables e below (s₁.setTop (mkF m 0 #[.val (.int x0), .val (.int x1), .unset, .unset, .unset] [])) t → Steps p.tables e below (s₁.setTop (entryFrame m #[(.int x0), (.int x1)] maxLocals)) t := fun t k => castTop (by first | (simp [entryFrame, mkF, argsToLocals, Value.category, maxLocals]; done) | rfl) k
  obtain ⟨_, _, ⟨T16, L16, k16, n16⟩, -, X16, ⟨Lc16, hQ16, l16, y16, z16⟩, st16⟩ := Jvm.LawKit.callS X0 hx (y := (⟨cs0, "ofCode", cs3⟩ : MethodName)) hown (mvT hZ (ww hw 0 rfl)) (mvT hZ (ww hw 1 rfl)) (mvT hZ (ww hw 2 rfl)) (mvT hZ (ww hw 3 rfl)) (by decide) (backOf (W := 0) (rm1_7 l Z a0 hw [] x0 r2 c3 r4 r5 r6 r7 r8 r9 h0 n0 O0 f1 f2 f3 f4 hc5 f6 hc7 f8 hc9 f10 hc11 f12 hc13 f14 hc15) hZ (ww hw 3 rfl) (ww hw 2 rfl) (by decide) (by decide)) (g := (mkF m 6 #[.val (.int x0), .val (.int x1), .val (.int (x1 &&& (7 : Int32))), .unset, .unset] [(.int x0)])) rfl (by rw [hml]; rfl) (argsL := [(.int x0)]) (rest := []) (lenOf pd__I_Lcom_example_wiregather_wiregather_wire_FieldType_ rfl) rfl (by show 2 * 0 + _ ≤ _; exact Nat.le_of_eq rfl) (hb hby at_6) (fun _ _ => ⟨rfl, e0, (by decide : 0 + 1 ≤ _), (by decide : 0 + 6 ≤ _)⟩)
  dsimp only [Pt.U, Pt.locs, Pt.cells, Pt.slots] at X16 l16 y16 z16 st16 hQ16
  subst l16 y16 z16
  obtain ⟨rfl, N16q, K16⟩ := hQ16
  have N16 := Fr.app N0 N16q
  have o23 := Old.keep O0 K16 all0
  obtain ⟨_, _, ⟨T24, L24, k24, n24⟩, -, X24, ⟨Lc24, hQ24, l24, y24, z24⟩, st24⟩ := Jvm.LawKit.callS X16 hx (y := (⟨cs0, "ofCode", cs3⟩ : MethodName)) hown (mvT hZ (ww hw 0 rfl)) (mvT hZ (ww hw 1 rfl)) (mvT hZ (ww hw 2 rfl)) (mvT hZ (ww hw 3 rfl)) (by decide) (backOf (W := 0) (rm1_6 l Z a0 hw [] (x1 &&& (7 : Int32)) r2 c3 r4 r5 r6 r7 r8 r9 T16.heap n0 o23 f1 f2 f3 f4 hc17 f6 hc18 f8 hc19 f10 hc20 f12 hc21 f14 hc22) hZ (ww hw 3 rfl) (ww hw 2 rfl) (by decide) (by decide)) (g := (mkF m 11 #[.val (.int x0), .val (.int x1), .val (.int (x1 &&& (7 : Int32))), .val (.ref r9), .unset] [(.int (x1 &&& (7 : Int32)))])) rfl (by rw [hml]; rfl) (argsL := [(.int (x1 &&& (7 : Int32)))]) (rest := []) (lenOf pd__I_Lcom_example_wiregather_wiregather_wire_FieldType_ rfl) rfl (by show 2 * 0 + _ ≤ _; exact Nat.le_of_eq rfl) (hb hby at_11) (fun _ _ => ⟨rfl, rfl, (by decide : 1 + 1 ≤ _), (by decide : 6 + 6 ≤ _)⟩)
  dsimp only [Pt.U, Pt.locs, Pt.cells, Pt.slots] at X24 l24 y24 z24 st24 hQ24
  subst l24 y24 z24
  obtain ⟨rfl, N24q, K24⟩ := hQ24
  have N24 := Fr.app N16 N24q
  have o32 := Old.keep o23 K24 all0
  obtain ⟨_, _, ⟨T33, L33, k33, n33⟩, -, X33, ⟨Lc33, hQ33, l33, y33, z33⟩, st33⟩ := Jvm.LawKit.callS X24 hx (y := (⟨cs4, "expected", cs3⟩ : MethodName)) hown (mvT hZ (ww hw 27 rfl)) (mvT hZ (ww hw 28 rfl)) (mvT hZ (ww hw 29 rfl)) (mvT hZ (ww hw 30 rfl)) (by decide) (backOf (W := 1) (rm3_7 l Z a0 hw [] x0 r9 T24.heap n0 o32 hc25 hc26 hc27 hc28 hc29 hc30 f31) hZ (ww hw 30 rfl) (ww hw 29 rfl) (by decide) (by decide)) (g := (mkF m 18 #[.val (.int x0), .val (.int x1), .val (.int (x1 &&& (7 : Int32))), .val (.ref r9), .val (.ref r8)] [(.int x0), (.ref r9)])) rfl (by rw [hml]; rfl) (argsL := [(.int x0)]) (rest := [(.ref r9)]) (lenOf pd__I_Lcom_example_wiregather_wiregather_wire_FieldType_ rfl) rfl (by show 2 * 0 + _ ≤ _; exact Nat.le_of_eq rfl) (hb hby at_18) (fun _ _ => ⟨rfl, rfl, (by decide : 2 + 0 ≤ _), (by decide : 12 + 0 ≤ _)⟩)
  dsimp only [Pt.U, Pt.locs, Pt.cells, Pt.slots] at X33 l33 y33 z33 st33 hQ33
  subst l33 y33 z33
  obtain ⟨rfl, N33q, E33⟩ := hQ33
  have N33 := Fr.app N24 N33q
  obtain ⟨_, _, ⟨T40, L40, k40, n40⟩, -, X40, ⟨Lc40, hQ40, l40, y40, z40⟩, st40⟩ := Jvm.LawKit.callS X33 hx (y := (⟨cs4, "expected", cs3⟩ : MethodName)) hown (mvT hZ (ww hw 27 rfl)) (mvT hZ (ww hw 28 rfl)) (mvT hZ (ww hw 29 rfl)) (mvT hZ (ww hw 30 rfl)) (by decide) (backOf (W := 1) (rm3_6 l Z a0 hw [] (x1 &&& (7 : Int32)) r8 T24.heap n0 o32 hc34 hc35 hc36 hc37 hc38 f39) hZ (ww hw 30 rfl) (ww hw 29 rfl) (by decide) (by decide)) (g := (mkF m 27 #[.val (.int x0), .val (.int x1), .val (.int (x1 &&& (7 : Int32))), .val (.ref r9), .val (.ref r8)] [(.int (x1 &&& (7 : Int32))), (.ref r8)])) rfl (by rw [hml]; rfl) (argsL := [(.int (x1 &&& (7 : Int32)))]) (rest := [(.ref r8)]) (lenOf pd__I_Lcom_example_wiregather_wiregather_wire_FieldType_ rfl) rfl (by show 2 * 0 + _ ≤ _; exact Nat.le_of_eq rfl) (hb hby at_27) (fun _ _ => ⟨rfl, E33, (by decide : 2 + 0 ≤ _), (by decide : 12 + 0 ≤ _)⟩)
  dsimp only [Pt.U, Pt.locs, Pt.cells, Pt.slots] at X40 l40 y40 z40 st40 hQ40
  subst l40 y40 z40
  obtain ⟨rfl, N40q, E40⟩ := hQ40
  have N40 := Fr.app N33 N40q
  obtain ⟨fs, hr, hrun, hended, hW, hsame⟩ := X40.leave (v := some (.int (1 : Int32))) (fun h => by rw [Bd.returns] at h; cases h)
  refine ⟨_, _, pre0 _ ?_, hrun, hended, _, _, rfl, ?_, ⟨_, rfl⟩, hW, hsame.mono (by decide) (by decide)⟩
  · show Steps p.tables e below (s₁.setTop (mkF m 0 #[.val (.int x0), .val (.int x1), .unset, .unset, .unset] [])) _
    refine XS.iloadN X0.here hx rfl (hb hby at_0) rfl ?_
    refine XS.bipush X0.here hx rfl (hb hby at_1) ?_
    refine XS.iand X0.here hx rfl (hb hby at_3) rfl ?_
    refine XS.istoreN X0.here hx rfl (hb hby at_4) rfl (l' := #[.val (.int x0), .val (.int x1), .val (.int (x1 &&& (7 : Int32))), .unset, .unset]) rfl ?_
    show Steps p.tables e below (s₁.setTop (mkF m 5 #[.val (.int x0), .val (.int x1), .val (.int (x1 &&& (7 : Int32))), .unset, .unset] [])) _
    refine XS.iloadN X0.here hx rfl (hb hby at_5) rfl ?_
    refine st16 _ ?_
    show Steps p.tables e below (T16.setTop (mkF m 9 #[.val (.int x0), .val (.int x1), .val (.int (x1 &&& (7 : Int32))), .unset, .unset] [(.ref r9)])) _
    refine XS.astoreN X16.here hx rfl (hb hby at_9) rfl rfl (l' := #[.val (.int x0), .val (.int x1), .val (.int (x1 &&& (7 : Int32))), .val (.ref r9), .unset]) rfl ?_
    refine XS.iloadN X16.here hx rfl (hb hby at_10) rfl ?_
    refine st24 _ ?_
    show Steps p.tables e below (T24.setTop (mkF m 14 #[.val (.int x0), .val (.int x1), .val (.int (x1 &&& (7 : Int32))), .val (.ref r9), .unset] [(.ref r8)])) _
    refine XS.astore X24.here hx rfl (hb hby at_14) rfl rfl (l' := #[.val (.int x0), .val (.int x1), .val (.int (x1 &&& (7 : Int32))), .val (.ref r9), .val (.ref r8)]) rfl ?_
    refine XS.aloadN X24.here hx rfl (hb hby at_16) rfl rfl ?_
    refine XS.iloadN X24.here hx rfl (hb hby at_17) rfl ?_
    refine st33 _ ?_
    show Steps p.tables e below (T33.setTop (mkF m 21 #[.val (.int x0), .val (.int x1), .val (.int (x1 &&& (7 : Int32))), .val (.ref r9), .val (.ref r8)] [(.ref r9), (.ref r9)])) _
    refine Jvm.RoadKit.acmp (g := (mkF m 21 #[.val (.int x0), .val (.int x1), .val (.int (x1 &&& (7 : Int32))), .val (.ref r9), .val (.ref r8)] [(.ref r9), (.ref r9)])) X33 hx rfl rfl rfl (pc0 := 21) (pc' := 24) (same := true) rfl (hb hby at_21) rfl (decide_eq_true rfl) (by decide) (by decide) ?_
    show Steps p.tables e below (T33.setTop (mkF m 24 #[.val (.int x0), .val (.int x1), .val (.int (x1 &&& (7 : Int32))), .val (.ref r9), .val (.ref r8)] [])) _
    refine XS.aload X33.here hx rfl (hb hby at_24) rfl rfl ?_
    refine XS.iloadN X33.here hx rfl (hb hby at_26) rfl ?_
    refine st40 _ ?_
    show Steps p.tables e below (T40.setTop (mkF m 30 #[.val (.int x0), .val (.int x1), .val (.int (x1 &&& (7 : Int32))), .val (.ref r9), .val (.ref r8)] [(.ref r8), (.ref r8)])) _
    refine Jvm.RoadKit.acmp (g := (mkF m 30 #[.val (.int x0), .val (.int x1), .val (.int (x1 &&& (7 : Int32))), .val (.ref r9), .val (.ref r8)] [(.ref r8), (.ref r8)])) X40 hx rfl rfl rfl (pc0 := 30) (pc' := 33) (same := true) rfl (hb hby at_30) rfl (decide_eq_true rfl) (by decide) (by decide) ?_
    show Steps p.tables e below (T40.setTop (mkF m 33 #[.val (.int x0), .val (.int x1), .val (.int (x1 &&& (7 : Int32))), .val (.ref r9), .val (.ref r8)] [])) _
    refine XS.iconst X40.here hx rfl (hb hby at_33) ?_
    refine XS.goto X40.here hx rfl (pc0 := 34) (pc' := 38) rfl (hb hby at_34) (by decide) (by decide) ?_
    show Steps p.tables e below (T40.setTop (mkF m 38 #[.val (.int x0), .val (.int x1), .val (.int (x1 &&& (7 : Int32))), .val (.ref r9), .val (.ref r8)] [(.int (1 : Int32))])) _
    exact retN X40 hx (t := .boolean) Bd.returns (by simp) (hb hby at_38) hr
  · show Q0_41 Z x0 x1 r2 c3 r4 r5 r6 r7 r8 r9 h0 n0 _ T40.heap _
    rw [E40]
    exact ⟨rfl, N40⟩
def Q0_42 (Z : State) (x0 : Int32) (x1 : Int32) (r2 : Addr) (c3 : ClassId) (r4 : Addr) (r5 : Addr) (r6 : Addr) (r7 : Addr) (r8 : Addr) (r9 : Addr) (h0 : Heap) (n0 : Nat) (v : Option Value) (h : Heap) (L : List Loc) : Prop := v = some (.int (1 : Int32)) ∧ Fr n0 L
set_option maxRecDepth 65536 in
set_option maxHeartbeats 40000000 in
theorem rm0_42 (l : Launch) (Z : State) (a0 : Array Value) (hw : ∀ d ∈ tables_1, d.before a0 Z = true) (ws : List Jvm.Cond) (x0 : Int32) (x1 : Int32) (r2 : Addr) (c3 : ClassId) (r4 : Addr) (r5 : Addr) (r6 : Addr) (r7 : Addr) (r8 : Addr) (r9 : Addr) (h0 : Heap) (n0 : Nat) (O0 : Old Z n0 h0) (f1 : Sta Z Z.heap cs0 "$VALUES" cs1 (.ref r2)) (f2 : Exa Z Z.heap r2 cs1) (f3 : Arv Z Z.heap r2 c3 (.object cs0) (6 : Int32) [(.ref r4), (.ref r5), (.ref r6), (.ref r7), (.ref r8), (.ref r9)] .null) (f4 : Fld Z Z.heap r4 cs0 "code" "I" (.int (1 : Int32))) (hc5 : ¬ ((1 : Int32) = x0)) (f6 : Fld Z Z.heap r5 cs0 "code" "I" (.int (2 : Int32))) (hc7 : ¬ ((2 : Int32) = x0)) (f8 : Fld Z Z.heap r6 cs0 "code" "I" (.int (3 : Int32))) (hc9 : ¬ ((3 : Int32) = x0)) (f10 : Fld Z Z.heap r7 cs0 "code" "I" (.int (4 : Int32))) (hc11 : ¬ ((4 : Int32) = x0)) (f12 : Fld Z Z.heap r8 cs0 "code" "I" (.int (5 : Int32))) (hc13 : ¬ ((5 : Int32) = x0)) (f14 : Fld Z Z.heap r9 cs0 "code" "I" (.int (6 : Int32))) (hc15 : (6 : Int32) = x0) (hc17 : ¬ ((1 : Int32) = (x1 &&& (7 : Int32)))) (hc18 : ¬ ((2 : Int32) = (x1 &&& (7 : Int32)))) (hc19 : ¬ ((3 : Int32) = (x1 &&& (7 : Int32)))) (hc20 : ¬ ((4 : Int32) = (x1 &&& (7 : Int32)))) (hc21 : ¬ ((5 : Int32) = (x1 &&& (7 : Int32)))) (hc22 : (6 : Int32) = (x1 &&& (7 : Int32))) (hc25 : ¬ (x0 = (1 : Int32))) (hc26 : ¬ (x0 = (2 : Int32))) (hc27 : ¬ (x0 = (3 : Int32))) (hc28 : ¬ (x0 = (4 : Int32))) (hc29 : ¬ (x0 = (5 : Int32))) (hc30 : x0 = (6 : Int32)) (f31 : Sta Z Z.heap cs0 "GUID" cs5 (.ref r9)) (hc34 : ¬ ((x1 &&& (7 : Int32)) = (1 : Int32))) (hc35 : ¬ ((x1 &&& (7 : Int32)) = (2 : Int32))) (hc36 : ¬ ((x1 &&& (7 : Int32)) = (3 : Int32))) (hc37 : ¬ ((x1 &&& (7 : Int32)) = (4 : Int32))) (hc38 : ¬ ((x1 &&& (7 : Int32)) = (5 : Int32))) (hc39 : (x1 &&& (7 : Int32)) = (6 : Int32)) :
    MetFree l x (head1 (Jvm.Cond.code x code maxLocals ret :: ws) room_1) (fun a U => a = #[(.int x0), (.int x1)] ∧ Z.Warmed39 U.vm ∧ U.heap = h0) (fun _ _ _ _ _ => True) (fun _ U o U' => ∃ v L, o = .returned v ∧ Q0_42 Z x0 x1 r2 c3 r4 r5 r6 r7 r8 r9 h0 n0 v U'.heap L ∧ FrameEnd U o U' L room_1.cells room_1.slots) := by
  refine MetFree.of_bodySF (plainFor_of_name pn_com_example_wiregather_wiregather_wire_FieldTypeOfCodePinLaw) hisR ?_
  intro p e s m args below meth c s₁ Bd hml0 hP hK
  obtain ⟨rfl, hZ, hh⟩ := hP
  have hx := Bd.exec
  have hby := Bd.bytes
  have hml : c.maxLocals = 5 := hml0
  have hown : s.vm.findClass cs4 = some m.cls := findClass_of_methodNamed Bd.named
  have hnm := (name_of_methodNamed Bd.named Bd.method).1
  have X0 : Stand p l e room_1 s m #[(.int x0), (.int x1)] below meth c s₁ [] 0 0 := Stand.of_body Bd
  have e0 : s₁.heap = h0 := by rw [← hh, Bd.state]; rfl
  have N0 := Fr.nil n0
  have pre0 : ∀ t, Steps p.tables e below (s₁.setTop (mkF m 0 #[.val (.int x0), .val (.int x1), .unset, .unset, .unset] [])) t → Steps p.tables e below (s₁.setTop (entryFrame m #[(.int x0), (.int x1)] maxLocals)) t := fun t k => castTop (by first | (simp [entryFrame, mkF, argsToLocals, Value.category, maxLocals]; done) | rfl) k
  obtain ⟨_, _, ⟨T16, L16, k16, n16⟩, -, X16, ⟨Lc16, hQ16, l16, y16, z16⟩, st16⟩ := Jvm.LawKit.callS X0 hx (y := (⟨cs0, "ofCode", cs3⟩ : MethodName)) hown (mvT hZ (ww hw 0 rfl)) (mvT hZ (ww hw 1 rfl)) (mvT hZ (ww hw 2 rfl)) (mvT hZ (ww hw 3 rfl)) (by decide) (backOf (W := 0) (rm1_7 l Z a0 hw [] x0 r2 c3 r4 r5 r6 r7 r8 r9 h0 n0 O0 f1 f2 f3 f4 hc5 f6 hc7 f8 hc9 f10 hc11 f12 hc13 f14 hc15) hZ (ww hw 3 rfl) (ww hw 2 rfl) (by decide) (by decide)) (g := (mkF m 6 #[.val (.int x0), .val (.int x1), .val (.int (x1 &&& (7 : Int32))), .unset, .unset] [(.int x0)])) rfl (by rw [hml]; rfl) (argsL := [(.int x0)]) (rest := []) (lenOf pd__I_Lcom_example_wiregather_wiregather_wire_FieldType_ rfl) rfl (by show 2 * 0 + _ ≤ _; exact Nat.le_of_eq rfl) (hb hby at_6) (fun _ _ => ⟨rfl, e0, (by decide : 0 + 1 ≤ _), (by decide : 0 + 6 ≤ _)⟩)
  dsimp only [Pt.U, Pt.locs, Pt.cells, Pt.slots] at X16 l16 y16 z16 st16 hQ16
  subst l16 y16 z16
  obtain ⟨rfl, N16q, K16⟩ := hQ16
  have N16 := Fr.app N0 N16q
  have o23 := Old.keep O0 K16 all0
  obtain ⟨_, _, ⟨T24, L24, k24, n24⟩, -, X24, ⟨Lc24, hQ24, l24, y24, z24⟩, st24⟩ := Jvm.LawKit.callS X16 hx (y := (⟨cs0, "ofCode", cs3⟩ : MethodName)) hown (mvT hZ (ww hw 0 rfl)) (mvT hZ (ww hw 1 rfl)) (mvT hZ (ww hw 2 rfl)) (mvT hZ (ww hw 3 rfl)) (by decide) (backOf (W := 0) (rm1_7 l Z a0 hw [] (x1 &&& (7 : Int32)) r2 c3 r4 r5 r6 r7 r8 r9 T16.heap n0 o23 f1 f2 f3 f4 hc17 f6 hc18 f8 hc19 f10 hc20 f12 hc21 f14 hc22) hZ (ww hw 3 rfl) (ww hw 2 rfl) (by decide) (by decide)) (g := (mkF m 11 #[.val (.int x0), .val (.int x1), .val (.int (x1 &&& (7 : Int32))), .val (.ref r9), .unset] [(.int (x1 &&& (7 : Int32)))])) rfl (by rw [hml]; rfl) (argsL := [(.int (x1 &&& (7 : Int32)))]) (rest := []) (lenOf pd__I_Lcom_example_wiregather_wiregather_wire_FieldType_ rfl) rfl (by show 2 * 0 + _ ≤ _; exact Nat.le_of_eq rfl) (hb hby at_11) (fun _ _ => ⟨rfl, rfl, (by decide : 1 + 1 ≤ _), (by decide : 6 + 6 ≤ _)⟩)
  dsimp only [Pt.U, Pt.locs, Pt.cells, Pt.slots] at X24 l24 y24 z24 st24 hQ24
  subst l24 y24 z24
  obtain ⟨rfl, N24q, K24⟩ := hQ24
  have N24 := Fr.app N16 N24q
  have o32 := Old.keep o23 K24 all0
  obtain ⟨_, _, ⟨T33, L33, k33, n33⟩, -, X33, ⟨Lc33, hQ33, l33, y33, z33⟩, st33⟩ := Jvm.LawKit.callS X24 hx (y := (⟨cs4, "expected", cs3⟩ : MethodName)) hown (mvT hZ (ww hw 27 rfl)) (mvT hZ (ww hw 28 rfl)) (mvT hZ (ww hw 29 rfl)) (mvT hZ (ww hw 30 rfl)) (by decide) (backOf (W := 1) (rm3_7 l Z a0 hw [] x0 r9 T24.heap n0 o32 hc25 hc26 hc27 hc28 hc29 hc30 f31) hZ (ww hw 30 rfl) (ww hw 29 rfl) (by decide) (by decide)) (g := (mkF m 18 #[.val (.int x0), .val (.int x1), .val (.int (x1 &&& (7 : Int32))), .val (.ref r9), .val (.ref r9)] [(.int x0), (.ref r9)])) rfl (by rw [hml]; rfl) (argsL := [(.int x0)]) (rest := [(.ref r9)]) (lenOf pd__I_Lcom_example_wiregather_wiregather_wire_FieldType_ rfl) rfl (by show 2 * 0 + _ ≤ _; exact Nat.le_of_eq rfl) (hb hby at_18) (fun _ _ => ⟨rfl, rfl, (by decide : 2 + 0 ≤ _), (by decide : 12 + 0 ≤ _)⟩)
  dsimp only [Pt.U, Pt.locs, Pt.cells, Pt.slots] at X33 l33 y33 z33 st33 hQ33
  subst l33 y33 z33
  obtain ⟨rfl, N33q, E33⟩ := hQ33
  have N33 := Fr.app N24 N33q
  obtain ⟨_, _, ⟨T40, L40, k40, n40⟩, -, X40, ⟨Lc40, hQ40, l40, y40, z40⟩, st40⟩ := Jvm.LawKit.callS X33 hx (y := (⟨cs4, "expected", cs3⟩ : MethodName)) hown (mvT hZ (ww hw 27 rfl)) (mvT hZ (ww hw 28 rfl)) (mvT hZ (ww hw 29 rfl)) (mvT hZ (ww hw 30 rfl)) (by decide) (backOf (W := 1) (rm3_7 l Z a0 hw [] (x1 &&& (7 : Int32)) r9 T24.heap n0 o32 hc34 hc35 hc36 hc37 hc38 hc39 f31) hZ (ww hw 30 rfl) (ww hw 29 rfl) (by decide) (by decide)) (g := (mkF m 27 #[.val (.int x0), .val (.int x1), .val (.int (x1 &&& (7 : Int32))), .val (.ref r9), .val (.ref r9)] [(.int (x1 &&& (7 : Int32))), (.ref r9)])) rfl (by rw [hml]; rfl) (argsL := [(.int (x1 &&& (7 : Int32)))]) (rest := [(.ref r9)]) (lenOf pd__I_Lcom_example_wiregather_wiregather_wire_FieldType_ rfl) rfl (by show 2 * 0 + _ ≤ _; exact Nat.le_of_eq rfl) (hb hby at_27) (fun _ _ => ⟨rfl, E33, (by decide : 2 + 0 ≤ _), (by decide : 12 + 0 ≤ _)⟩)
  dsimp only [Pt.U, Pt.locs, Pt.cells, Pt.slots] at X40 l40 y40 z40 st40 hQ40
  subst l40 y40 z40
  obtain ⟨rfl, N40q, E40⟩ := hQ40
  have N40 := Fr.app N33 N40q
  obtain ⟨fs, hr, hrun, hended, hW, hsame⟩ := X40.leave (v := some (.int (1 : Int32))) (fun h => by rw [Bd.returns] at h; cases h)
  refine ⟨_, _, pre0 _ ?_, hrun, hended, _, _, rfl, ?_, ⟨_, rfl⟩, hW, hsame.mono (by decide) (by decide)⟩
  · show Steps p.tables e below (s₁.setTop (mkF m 0 #[.val (.int x0), .val (.int x1), .unset, .unset, .unset] [])) _
    refine XS.iloadN X0.here hx rfl (hb hby at_0) rfl ?_
    refine XS.bipush X0.here hx rfl (hb hby at_1) ?_
    refine XS.iand X0.here hx rfl (hb hby at_3) rfl ?_
    refine XS.istoreN X0.here hx rfl (hb hby at_4) rfl (l' := #[.val (.int x0), .val (.int x1), .val (.int (x1 &&& (7 : Int32))), .unset, .unset]) rfl ?_
    show Steps p.tables e below (s₁.setTop (mkF m 5 #[.val (.int x0), .val (.int x1), .val (.int (x1 &&& (7 : Int32))), .unset, .unset] [])) _
    refine XS.iloadN X0.here hx rfl (hb hby at_5) rfl ?_
    refine st16 _ ?_
    show Steps p.tables e below (T16.setTop (mkF m 9 #[.val (.int x0), .val (.int x1), .val (.int (x1 &&& (7 : Int32))), .unset, .unset] [(.ref r9)])) _
    refine XS.astoreN X16.here hx rfl (hb hby at_9) rfl rfl (l' := #[.val (.int x0), .val (.int x1), .val (.int (x1 &&& (7 : Int32))), .val (.ref r9), .unset]) rfl ?_
    refine XS.iloadN X16.here hx rfl (hb hby at_10) rfl ?_
    refine st24 _ ?_
    show Steps p.tables e below (T24.setTop (mkF m 14 #[.val (.int x0), .val (.int x1), .val (.int (x1 &&& (7 : Int32))), .val (.ref r9), .unset] [(.ref r9)])) _
    refine XS.astore X24.here hx rfl (hb hby at_14) rfl rfl (l' := #[.val (.int x0), .val (.int x1), .val (.int (x1 &&& (7 : Int32))), .val (.ref r9), .val (.ref r9)]) rfl ?_
    refine XS.aloadN X24.here hx rfl (hb hby at_16) rfl rfl ?_
    refine XS.iloadN X24.here hx rfl (hb hby at_17) rfl ?_
    refine st33 _ ?_
    show Steps p.tables e below (T33.setTop (mkF m 21 #[.val (.int x0), .val (.int x1), .val (.int (x1 &&& (7 : Int32))), .val (.ref r9), .val (.ref r9)] [(.ref r9), (.ref r9)])) _
    refine Jvm.RoadKit.acmp (g := (mkF m 21 #[.val (.int x0), .val (.int x1), .val (.int (x1 &&& (7 : Int32))), .val (.ref r9), .val (.ref r9)] [(.ref r9), (.ref r9)])) X33 hx rfl rfl rfl (pc0 := 21) (pc' := 24) (same := true) rfl (hb hby at_21) rfl (decide_eq_true rfl) (by decide) (by decide) ?_
    show Steps p.tables e below (T33.setTop (mkF m 24 #[.val (.int x0), .val (.int x1), .val (.int (x1 &&& (7 : Int32))), .val (.ref r9), .val (.ref r9)] [])) _
    refine XS.aload X33.here hx rfl (hb hby at_24) rfl rfl ?_
    refine XS.iloadN X33.here hx rfl (hb hby at_26) rfl ?_
    refine st40 _ ?_
    show Steps p.tables e below (T40.setTop (mkF m 30 #[.val (.int x0), .val (.int x1), .val (.int (x1 &&& (7 : Int32))), .val (.ref r9), .val (.ref r9)] [(.ref r9), (.ref r9)])) _
    refine Jvm.RoadKit.acmp (g := (mkF m 30 #[.val (.int x0), .val (.int x1), .val (.int (x1 &&& (7 : Int32))), .val (.ref r9), .val (.ref r9)] [(.ref r9), (.ref r9)])) X40 hx rfl rfl rfl (pc0 := 30) (pc' := 33) (same := true) rfl (hb hby at_30) rfl (decide_eq_true rfl) (by decide) (by decide) ?_
    show Steps p.tables e below (T40.setTop (mkF m 33 #[.val (.int x0), .val (.int x1), .val (.int (x1 &&& (7 : Int32))), .val (.ref r9), .val (.ref r9)] [])) _
    refine XS.iconst X40.here hx rfl (hb hby at_33) ?_
    refine XS.goto X40.here hx rfl (pc0 := 34) (pc' := 38) rfl (hb hby at_34) (by decide) (by decide) ?_
    show Steps p.tables e below (T40.setTop (mkF m 38 #[.val (.int x0), .val (.int x1), .val (.int (x1 &&& (7 : Int32))), .val (.ref r9), .val (.ref r9)] [(.int (1 : Int32))])) _
    exact retN X40 hx (t := .boolean) Bd.returns (by simp) (hb hby at_38) hr
  · show Q0_42 Z x0 x1 r2 c3 r4 r5 r6 r7 r8 r9 h0 n0 _ T40.heap _
    rw [E40]
    exact ⟨rfl, N40⟩
def Q0_43 (Z : State) (x0 : Int32) (x1 : Int32) (r2 : Addr) (c3 : ClassId) (r4 : Addr) (r5 : Addr) (r6 : Addr) (r7 : Addr) (r8 : Addr) (r9 : Addr) (h0 : Heap) (n0 : Nat) (v : Option Value) (h : Heap) (L : List Loc) : Prop := v = some (.int (1 : Int32)) ∧ Fr n0 L
set_option maxRecDepth 65536 in
set_option maxHeartbeats 40000000 in
theorem rm0_43 (l : Launch) (Z : State) (a0 : Array Value) (hw : ∀ d ∈ tables_1, d.before a0 Z = true) (ws : List Jvm.Cond) (x0 : Int32) (x1 : Int32) (r2 : Addr) (c3 : ClassId) (r4 : Addr) (r5 : Addr) (r6 : Addr) (r7 : Addr) (r8 : Addr) (r9 : Addr) (h0 : Heap) (n0 : Nat) (O0 : Old Z n0 h0) (f1 : Sta Z Z.heap cs0 "$VALUES" cs1 (.ref r2)) (f2 : Exa Z Z.heap r2 cs1) (f3 : Arv Z Z.heap r2 c3 (.object cs0) (6 : Int32) [(.ref r4), (.ref r5), (.ref r6), (.ref r7), (.ref r8), (.ref r9)] .null) (f4 : Fld Z Z.heap r4 cs0 "code" "I" (.int (1 : Int32))) (hc5 : ¬ ((1 : Int32) = x0)) (f6 : Fld Z Z.heap r5 cs0 "code" "I" (.int (2 : Int32))) (hc7 : ¬ ((2 : Int32) = x0)) (f8 : Fld Z Z.heap r6 cs0 "code" "I" (.int (3 : Int32))) (hc9 : ¬ ((3 : Int32) = x0)) (f10 : Fld Z Z.heap r7 cs0 "code" "I" (.int (4 : Int32))) (hc11 : ¬ ((4 : Int32) = x0)) (f12 : Fld Z Z.heap r8 cs0 "code" "I" (.int (5 : Int32))) (hc13 : ¬ ((5 : Int32) = x0)) (f14 : Fld Z Z.heap r9 cs0 "code" "I" (.int (6 : Int32))) (hc15 : ¬ ((6 : Int32) = x0)) (hc17 : ¬ ((1 : Int32) = (x1 &&& (7 : Int32)))) (hc18 : ¬ ((2 : Int32) = (x1 &&& (7 : Int32)))) (hc19 : ¬ ((3 : Int32) = (x1 &&& (7 : Int32)))) (hc20 : ¬ ((4 : Int32) = (x1 &&& (7 : Int32)))) (hc21 : ¬ ((5 : Int32) = (x1 &&& (7 : Int32)))) (hc22 : ¬ ((6 : Int32) = (x1 &&& (7 : Int32)))) (hc25 : ¬ (x0 = (1 : Int32))) (hc26 : ¬ (x0 = (2 : Int32))) (hc27 : ¬ (x0 = (3 : Int32))) (hc28 : ¬ (x0 = (4 : Int32))) (hc29 : ¬ (x0 = (5 : Int32))) (hc30 : ¬ (x0 = (6 : Int32))) (hc33 : ¬ ((x1 &&& (7 : Int32)) = (1 : Int32))) (hc34 : ¬ ((x1 &&& (7 : Int32)) = (2 : Int32))) (hc35 : ¬ ((x1 &&& (7 : Int32)) = (3 : Int32))) (hc36 : ¬ ((x1 &&& (7 : Int32)) = (4 : Int32))) (hc37 : ¬ ((x1 &&& (7 : Int32)) = (5 : Int32))) (hc38 : ¬ ((x1 &&& (7 : Int32)) = (6 : Int32))) :
    MetFree l x (head1 (Jvm.Cond.code x code maxLocals ret :: ws) room_1) (fun a U => a = #[(.int x0), (.int x1)] ∧ Z.Warmed39 U.vm ∧ U.heap = h0) (fun _ _ _ _ _ => True) (fun _ U o U' => ∃ v L, o = .returned v ∧ Q0_43 Z x0 x1 r2 c3 r4 r5 r6 r7 r8 r9 h0 n0 v U'.heap L ∧ FrameEnd U o U' L room_1.cells room_1.slots) := by
  refine MetFree.of_bodySF (plainFor_of_name pn_com_example_wiregather_wiregather_wire_FieldTypeOfCodePinLaw) hisR ?_
  intro p e s m args below meth c s₁ Bd hml0 hP hK
  obtain ⟨rfl, hZ, hh⟩ := hP
  have hx := Bd.exec
  have hby := Bd.bytes
  have hml : c.maxLocals = 5 := hml0
  have hown : s.vm.findClass cs4 = some m.cls := findClass_of_methodNamed Bd.named
  have hnm := (name_of_methodNamed Bd.named Bd.method).1
  have X0 : Stand p l e room_1 s m #[(.int x0), (.int x1)] below meth c s₁ [] 0 0 := Stand.of_body Bd
  have e0 : s₁.heap = h0 := by rw [← hh, Bd.state]; rfl
  have N0 := Fr.nil n0
  have pre0 : ∀ t, Steps p.tables e below (s₁.setTop (mkF m 0 #[.val (.int x0), .val (.int x1), .unset, .unset, .unset] [])) t → Steps p.tables e below (s₁.setTop (entryFrame m #[(.int x0), (.int x1)] maxLocals)) t := fun t k => castTop (by first | (simp [entryFrame, mkF, argsToLocals, Value.category, maxLocals]; done) | rfl) k
  obtain ⟨_, _, ⟨T16, L16, k16, n16⟩, -, X16, ⟨Lc16, hQ16, l16, y16, z16⟩, st16⟩ := Jvm.LawKit.callS X0 hx (y := (⟨cs0, "ofCode", cs3⟩ : MethodName)) hown (mvT hZ (ww hw 0 rfl)) (mvT hZ (ww hw 1 rfl)) (mvT hZ (ww hw 2 rfl)) (mvT hZ (ww hw 3 rfl)) (by decide) (backOf (W := 0) (rm1_2 l Z a0 hw [] x0 r2 c3 r4 r5 r6 r7 r8 r9 h0 n0 O0 f1 f2 f3 f4 hc5 f6 hc7 f8 hc9 f10 hc11 f12 hc13 f14 hc15) hZ (ww hw 3 rfl) (ww hw 2 rfl) (by decide) (by decide)) (g := (mkF m 6 #[.val (.int x0), .val (.int x1), .val (.int (x1 &&& (7 : Int32))), .unset, .unset] [(.int x0)])) rfl (by rw [hml]; rfl) (argsL := [(.int x0)]) (rest := []) (lenOf pd__I_Lcom_example_wiregather_wiregather_wire_FieldType_ rfl) rfl (by show 2 * 0 + _ ≤ _; exact Nat.le_of_eq rfl) (hb hby at_6) (fun _ _ => ⟨rfl, e0, (by decide : 0 + 1 ≤ _), (by decide : 0 + 6 ≤ _)⟩)
  dsimp only [Pt.U, Pt.locs, Pt.cells, Pt.slots] at X16 l16 y16 z16 st16 hQ16
  subst l16 y16 z16
  obtain ⟨rfl, N16q, K16⟩ := hQ16
  have N16 := Fr.app N0 N16q
  have o23 := Old.keep O0 K16 all0
  obtain ⟨_, _, ⟨T24, L24, k24, n24⟩, -, X24, ⟨Lc24, hQ24, l24, y24, z24⟩, st24⟩ := Jvm.LawKit.callS X16 hx (y := (⟨cs0, "ofCode", cs3⟩ : MethodName)) hown (mvT hZ (ww hw 0 rfl)) (mvT hZ (ww hw 1 rfl)) (mvT hZ (ww hw 2 rfl)) (mvT hZ (ww hw 3 rfl)) (by decide) (backOf (W := 0) (rm1_2 l Z a0 hw [] (x1 &&& (7 : Int32)) r2 c3 r4 r5 r6 r7 r8 r9 T16.heap n0 o23 f1 f2 f3 f4 hc17 f6 hc18 f8 hc19 f10 hc20 f12 hc21 f14 hc22) hZ (ww hw 3 rfl) (ww hw 2 rfl) (by decide) (by decide)) (g := (mkF m 11 #[.val (.int x0), .val (.int x1), .val (.int (x1 &&& (7 : Int32))), .val .null, .unset] [(.int (x1 &&& (7 : Int32)))])) rfl (by rw [hml]; rfl) (argsL := [(.int (x1 &&& (7 : Int32)))]) (rest := []) (lenOf pd__I_Lcom_example_wiregather_wiregather_wire_FieldType_ rfl) rfl (by show 2 * 0 + _ ≤ _; exact Nat.le_of_eq rfl) (hb hby at_11) (fun _ _ => ⟨rfl, rfl, (by decide : 1 + 1 ≤ _), (by decide : 6 + 6 ≤ _)⟩)
  dsimp only [Pt.U, Pt.locs, Pt.cells, Pt.slots] at X24 l24 y24 z24 st24 hQ24
  subst l24 y24 z24
  obtain ⟨rfl, N24q, K24⟩ := hQ24
  have N24 := Fr.app N16 N24q
  have o31 := Old.keep o23 K24 all0
  obtain ⟨_, _, ⟨T32, L32, k32, n32⟩, -, X32, ⟨Lc32, hQ32, l32, y32, z32⟩, st32⟩ := Jvm.LawKit.callS X24 hx (y := (⟨cs4, "expected", cs3⟩ : MethodName)) hown (mvT hZ (ww hw 27 rfl)) (mvT hZ (ww hw 28 rfl)) (mvT hZ (ww hw 29 rfl)) (mvT hZ (ww hw 30 rfl)) (by decide) (backOf (W := 1) (rm3_2 l Z a0 hw [] x0 T24.heap n0 o31 hc25 hc26 hc27 hc28 hc29 hc30) hZ (ww hw 30 rfl) (ww hw 29 rfl) (by decide) (by decide)) (g := (mkF m 18 #[.val (.int x0), .val (.int x1), .val (.int (x1 &&& (7 : Int32))), .val .null, .val .null] [(.int x0), .null])) rfl (by rw [hml]; rfl) (argsL := [(.int x0)]) (rest := [.null]) (lenOf pd__I_Lcom_example_wiregather_wiregather_wire_FieldType_ rfl) rfl (by show 2 * 0 + _ ≤ _; exact Nat.le_of_eq rfl) (hb hby at_18) (fun _ _ => ⟨rfl, rfl, (by decide : 2 + 0 ≤ _), (by decide : 12 + 0 ≤ _)⟩)
  dsimp only [Pt.U, Pt.locs, Pt.cells, Pt.slots] at X32 l32 y32 z32 st32 hQ32
  subst l32 y32 z32
  obtain ⟨rfl, N32q, E32⟩ := hQ32
  have N32 := Fr.app N24 N32q
  obtain ⟨_, _, ⟨T39, L39, k39, n39⟩, -, X39, ⟨Lc39, hQ39, l39, y39, z39⟩, st39⟩ := Jvm.LawKit.callS X32 hx (y := (⟨cs4, "expected", cs3⟩ : MethodName)) hown (mvT hZ (ww hw 27 rfl)) (mvT hZ (ww hw 28 rfl)) (mvT hZ (ww hw 29 rfl)) (mvT hZ (ww hw 30 rfl)) (by decide) (backOf (W := 1) (rm3_2 l Z a0 hw [] (x1 &&& (7 : Int32)) T24.heap n0 o31 hc33 hc34 hc35 hc36 hc37 hc38) hZ (ww hw 30 rfl) (ww hw 29 rfl) (by decide) (by decide)) (g := (mkF m 27 #[.val (.int x0), .val (.int x1), .val (.int (x1 &&& (7 : Int32))), .val .null, .val .null] [(.int (x1 &&& (7 : Int32))), .null])) rfl (by rw [hml]; rfl) (argsL := [(.int (x1 &&& (7 : Int32)))]) (rest := [.null]) (lenOf pd__I_Lcom_example_wiregather_wiregather_wire_FieldType_ rfl) rfl (by show 2 * 0 + _ ≤ _; exact Nat.le_of_eq rfl) (hb hby at_27) (fun _ _ => ⟨rfl, E32, (by decide : 2 + 0 ≤ _), (by decide : 12 + 0 ≤ _)⟩)
  dsimp only [Pt.U, Pt.locs, Pt.cells, Pt.slots] at X39 l39 y39 z39 st39 hQ39
  subst l39 y39 z39
  obtain ⟨rfl, N39q, E39⟩ := hQ39
  have N39 := Fr.app N32 N39q
  obtain ⟨fs, hr, hrun, hended, hW, hsame⟩ := X39.leave (v := some (.int (1 : Int32))) (fun h => by rw [Bd.returns] at h; cases h)
  refine ⟨_, _, pre0 _ ?_, hrun, hended, _, _, rfl, ?_, ⟨_, rfl⟩, hW, hsame.mono (by decide) (by decide)⟩
  · show Steps p.tables e below (s₁.setTop (mkF m 0 #[.val (.int x0), .val (.int x1), .unset, .unset, .unset] [])) _
    refine XS.iloadN X0.here hx rfl (hb hby at_0) rfl ?_
    refine XS.bipush X0.here hx rfl (hb hby at_1) ?_
    refine XS.iand X0.here hx rfl (hb hby at_3) rfl ?_
    refine XS.istoreN X0.here hx rfl (hb hby at_4) rfl (l' := #[.val (.int x0), .val (.int x1), .val (.int (x1 &&& (7 : Int32))), .unset, .unset]) rfl ?_
    show Steps p.tables e below (s₁.setTop (mkF m 5 #[.val (.int x0), .val (.int x1), .val (.int (x1 &&& (7 : Int32))), .unset, .unset] [])) _
    refine XS.iloadN X0.here hx rfl (hb hby at_5) rfl ?_
    refine st16 _ ?_
    show Steps p.tables e below (T16.setTop (mkF m 9 #[.val (.int x0), .val (.int x1), .val (.int (x1 &&& (7 : Int32))), .unset, .unset] [.null])) _
    refine XS.astoreN X16.here hx rfl (hb hby at_9) rfl rfl (l' := #[.val (.int x0), .val (.int x1), .val (.int (x1 &&& (7 : Int32))), .val .null, .unset]) rfl ?_
    refine XS.iloadN X16.here hx rfl (hb hby at_10) rfl ?_
    refine st24 _ ?_
    show Steps p.tables e below (T24.setTop (mkF m 14 #[.val (.int x0), .val (.int x1), .val (.int (x1 &&& (7 : Int32))), .val .null, .unset] [.null])) _
    refine XS.astore X24.here hx rfl (hb hby at_14) rfl rfl (l' := #[.val (.int x0), .val (.int x1), .val (.int (x1 &&& (7 : Int32))), .val .null, .val .null]) rfl ?_
    refine XS.aloadN X24.here hx rfl (hb hby at_16) rfl rfl ?_
    refine XS.iloadN X24.here hx rfl (hb hby at_17) rfl ?_
    refine st32 _ ?_
    show Steps p.tables e below (T32.setTop (mkF m 21 #[.val (.int x0), .val (.int x1), .val (.int (x1 &&& (7 : Int32))), .val .null, .val .null] [.null, .null])) _
    refine Jvm.RoadKit.acmp (g := (mkF m 21 #[.val (.int x0), .val (.int x1), .val (.int (x1 &&& (7 : Int32))), .val .null, .val .null] [.null, .null])) X32 hx rfl rfl rfl (pc0 := 21) (pc' := 24) (same := true) rfl (hb hby at_21) rfl (decide_eq_true rfl) (by decide) (by decide) ?_
    show Steps p.tables e below (T32.setTop (mkF m 24 #[.val (.int x0), .val (.int x1), .val (.int (x1 &&& (7 : Int32))), .val .null, .val .null] [])) _
    refine XS.aload X32.here hx rfl (hb hby at_24) rfl rfl ?_
    refine XS.iloadN X32.here hx rfl (hb hby at_26) rfl ?_
    refine st39 _ ?_
    show Steps p.tables e below (T39.setTop (mkF m 30 #[.val (.int x0), .val (.int x1), .val (.int (x1 &&& (7 : Int32))), .val .null, .val .null] [.null, .null])) _
    refine Jvm.RoadKit.acmp (g := (mkF m 30 #[.val (.int x0), .val (.int x1), .val (.int (x1 &&& (7 : Int32))), .val .null, .val .null] [.null, .null])) X39 hx rfl rfl rfl (pc0 := 30) (pc' := 33) (same := true) rfl (hb hby at_30) rfl (decide_eq_true rfl) (by decide) (by decide) ?_
    show Steps p.tables e below (T39.setTop (mkF m 33 #[.val (.int x0), .val (.int x1), .val (.int (x1 &&& (7 : Int32))), .val .null, .val .null] [])) _
    refine XS.iconst X39.here hx rfl (hb hby at_33) ?_
    refine XS.goto X39.here hx rfl (pc0 := 34) (pc' := 38) rfl (hb hby at_34) (by decide) (by decide) ?_
    show Steps p.tables e below (T39.setTop (mkF m 38 #[.val (.int x0), .val (.int x1), .val (.int (x1 &&& (7 : Int32))), .val .null, .val .null] [(.int (1 : Int32))])) _
    exact retN X39 hx (t := .boolean) Bd.returns (by simp) (hb hby at_38) hr
  · show Q0_43 Z x0 x1 r2 c3 r4 r5 r6 r7 r8 r9 h0 n0 _ T39.heap _
    rw [E39]
    exact ⟨rfl, N39⟩
def Q0_44 (Z : State) (x0 : Int32) (x1 : Int32) (r2 : Addr) (c3 : ClassId) (r4 : Addr) (r5 : Addr) (r6 : Addr) (r7 : Addr) (r8 : Addr) (r9 : Addr) (h0 : Heap) (n0 : Nat) (v : Option Value) (h : Heap) (L : List Loc) : Prop := v = some (.int (1 : Int32)) ∧ Fr n0 L
set_option maxRecDepth 65536 in
set_option maxHeartbeats 40000000 in
theorem rm0_44 (l : Launch) (Z : State) (a0 : Array Value) (hw : ∀ d ∈ tables_1, d.before a0 Z = true) (ws : List Jvm.Cond) (x0 : Int32) (x1 : Int32) (r2 : Addr) (c3 : ClassId) (r4 : Addr) (r5 : Addr) (r6 : Addr) (r7 : Addr) (r8 : Addr) (r9 : Addr) (h0 : Heap) (n0 : Nat) (O0 : Old Z n0 h0) (f1 : Sta Z Z.heap cs0 "$VALUES" cs1 (.ref r2)) (f2 : Exa Z Z.heap r2 cs1) (f3 : Arv Z Z.heap r2 c3 (.object cs0) (6 : Int32) [(.ref r4), (.ref r5), (.ref r6), (.ref r7), (.ref r8), (.ref r9)] .null) (f4 : Fld Z Z.heap r4 cs0 "code" "I" (.int (1 : Int32))) (hc5 : ¬ ((1 : Int32) = x0)) (f6 : Fld Z Z.heap r5 cs0 "code" "I" (.int (2 : Int32))) (hc7 : ¬ ((2 : Int32) = x0)) (f8 : Fld Z Z.heap r6 cs0 "code" "I" (.int (3 : Int32))) (hc9 : ¬ ((3 : Int32) = x0)) (f10 : Fld Z Z.heap r7 cs0 "code" "I" (.int (4 : Int32))) (hc11 : ¬ ((4 : Int32) = x0)) (f12 : Fld Z Z.heap r8 cs0 "code" "I" (.int (5 : Int32))) (hc13 : ¬ ((5 : Int32) = x0)) (f14 : Fld Z Z.heap r9 cs0 "code" "I" (.int (6 : Int32))) (hc15 : ¬ ((6 : Int32) = x0)) (hc17 : (1 : Int32) = (x1 &&& (7 : Int32))) (hc18 : ¬ ((2 : Int32) = (x1 &&& (7 : Int32)))) (hc19 : ¬ ((3 : Int32) = (x1 &&& (7 : Int32)))) (hc20 : ¬ ((4 : Int32) = (x1 &&& (7 : Int32)))) (hc21 : ¬ ((5 : Int32) = (x1 &&& (7 : Int32)))) (hc22 : ¬ ((6 : Int32) = (x1 &&& (7 : Int32)))) (hc25 : ¬ (x0 = (1 : Int32))) (hc26 : ¬ (x0 = (2 : Int32))) (hc27 : ¬ (x0 = (3 : Int32))) (hc28 : ¬ (x0 = (4 : Int32))) (hc29 : ¬ (x0 = (5 : Int32))) (hc30 : ¬ (x0 = (6 : Int32))) (hc33 : (x1 &&& (7 : Int32)) = (1 : Int32)) (f34 : Sta Z Z.heap cs0 "I32" cs5 (.ref r4)) :
    MetFree l x (head1 (Jvm.Cond.code x code maxLocals ret :: ws) room_1) (fun a U => a = #[(.int x0), (.int x1)] ∧ Z.Warmed39 U.vm ∧ U.heap = h0) (fun _ _ _ _ _ => True) (fun _ U o U' => ∃ v L, o = .returned v ∧ Q0_44 Z x0 x1 r2 c3 r4 r5 r6 r7 r8 r9 h0 n0 v U'.heap L ∧ FrameEnd U o U' L room_1.cells room_1.slots) := by
  refine MetFree.of_bodySF (plainFor_of_name pn_com_example_wiregather_wiregather_wire_FieldTypeOfCodePinLaw) hisR ?_
  intro p e s m args below meth c s₁ Bd hml0 hP hK
  obtain ⟨rfl, hZ, hh⟩ := hP
  have hx := Bd.exec
  have hby := Bd.bytes
  have hml : c.maxLocals = 5 := hml0
  have hown : s.vm.findClass cs4 = some m.cls := findClass_of_methodNamed Bd.named
  have hnm := (name_of_methodNamed Bd.named Bd.method).1
  have X0 : Stand p l e room_1 s m #[(.int x0), (.int x1)] below meth c s₁ [] 0 0 := Stand.of_body Bd
  have e0 : s₁.heap = h0 := by rw [← hh, Bd.state]; rfl
  have N0 := Fr.nil n0
  have pre0 : ∀ t, Steps p.tables e below (s₁.setTop (mkF m 0 #[.val (.int x0), .val (.int x1), .unset, .unset, .unset] [])) t → Steps p.tables e below (s₁.setTop (entryFrame m #[(.int x0), (.int x1)] maxLocals)) t := fun t k => castTop (by first | (simp [entryFrame, mkF, argsToLocals, Value.category, maxLocals]; done) | rfl) k
  obtain ⟨_, _, ⟨T16, L16, k16, n16⟩, -, X16, ⟨Lc16, hQ16, l16, y16, z16⟩, st16⟩ := Jvm.LawKit.callS X0 hx (y := (⟨cs0, "ofCode", cs3⟩ : MethodName)) hown (mvT hZ (ww hw 0 rfl)) (mvT hZ (ww hw 1 rfl)) (mvT hZ (ww hw 2 rfl)) (mvT hZ (ww hw 3 rfl)) (by decide) (backOf (W := 0) (rm1_2 l Z a0 hw [] x0 r2 c3 r4 r5 r6 r7 r8 r9 h0 n0 O0 f1 f2 f3 f4 hc5 f6 hc7 f8 hc9 f10 hc11 f12 hc13 f14 hc15) hZ (ww hw 3 rfl) (ww hw 2 rfl) (by decide) (by decide)) (g := (mkF m 6 #[.val (.int x0), .val (.int x1), .val (.int (x1 &&& (7 : Int32))), .unset, .unset] [(.int x0)])) rfl (by rw [hml]; rfl) (argsL := [(.int x0)]) (rest := []) (lenOf pd__I_Lcom_example_wiregather_wiregather_wire_FieldType_ rfl) rfl (by show 2 * 0 + _ ≤ _; exact Nat.le_of_eq rfl) (hb hby at_6) (fun _ _ => ⟨rfl, e0, (by decide : 0 + 1 ≤ _), (by decide : 0 + 6 ≤ _)⟩)
  dsimp only [Pt.U, Pt.locs, Pt.cells, Pt.slots] at X16 l16 y16 z16 st16 hQ16
  subst l16 y16 z16
  obtain ⟨rfl, N16q, K16⟩ := hQ16
  have N16 := Fr.app N0 N16q
  have o23 := Old.keep O0 K16 all0
  obtain ⟨_, _, ⟨T24, L24, k24, n24⟩, -, X24, ⟨Lc24, hQ24, l24, y24, z24⟩, st24⟩ := Jvm.LawKit.callS X16 hx (y := (⟨cs0, "ofCode", cs3⟩ : MethodName)) hown (mvT hZ (ww hw 0 rfl)) (mvT hZ (ww hw 1 rfl)) (mvT hZ (ww hw 2 rfl)) (mvT hZ (ww hw 3 rfl)) (by decide) (backOf (W := 0) (rm1_1 l Z a0 hw [] (x1 &&& (7 : Int32)) r2 c3 r4 r5 r6 r7 r8 r9 T16.heap n0 o23 f1 f2 f3 f4 hc17 f6 hc18 f8 hc19 f10 hc20 f12 hc21 f14 hc22) hZ (ww hw 3 rfl) (ww hw 2 rfl) (by decide) (by decide)) (g := (mkF m 11 #[.val (.int x0), .val (.int x1), .val (.int (x1 &&& (7 : Int32))), .val .null, .unset] [(.int (x1 &&& (7 : Int32)))])) rfl (by rw [hml]; rfl) (argsL := [(.int (x1 &&& (7 : Int32)))]) (rest := []) (lenOf pd__I_Lcom_example_wiregather_wiregather_wire_FieldType_ rfl) rfl (by show 2 * 0 + _ ≤ _; exact Nat.le_of_eq rfl) (hb hby at_11) (fun _ _ => ⟨rfl, rfl, (by decide : 1 + 1 ≤ _), (by decide : 6 + 6 ≤ _)⟩)
  dsimp only [Pt.U, Pt.locs, Pt.cells, Pt.slots] at X24 l24 y24 z24 st24 hQ24
  subst l24 y24 z24
  obtain ⟨rfl, N24q, K24⟩ := hQ24
  have N24 := Fr.app N16 N24q
  have o31 := Old.keep o23 K24 all0
  obtain ⟨_, _, ⟨T32, L32, k32, n32⟩, -, X32, ⟨Lc32, hQ32, l32, y32, z32⟩, st32⟩ := Jvm.LawKit.callS X24 hx (y := (⟨cs4, "expected", cs3⟩ : MethodName)) hown (mvT hZ (ww hw 27 rfl)) (mvT hZ (ww hw 28 rfl)) (mvT hZ (ww hw 29 rfl)) (mvT hZ (ww hw 30 rfl)) (by decide) (backOf (W := 1) (rm3_2 l Z a0 hw [] x0 T24.heap n0 o31 hc25 hc26 hc27 hc28 hc29 hc30) hZ (ww hw 30 rfl) (ww hw 29 rfl) (by decide) (by decide)) (g := (mkF m 18 #[.val (.int x0), .val (.int x1), .val (.int (x1 &&& (7 : Int32))), .val .null, .val (.ref r4)] [(.int x0), .null])) rfl (by rw [hml]; rfl) (argsL := [(.int x0)]) (rest := [.null]) (lenOf pd__I_Lcom_example_wiregather_wiregather_wire_FieldType_ rfl) rfl (by show 2 * 0 + _ ≤ _; exact Nat.le_of_eq rfl) (hb hby at_18) (fun _ _ => ⟨rfl, rfl, (by decide : 2 + 0 ≤ _), (by decide : 12 + 0 ≤ _)⟩)
  dsimp only [Pt.U, Pt.locs, Pt.cells, Pt.slots] at X32 l32 y32 z32 st32 hQ32
  subst l32 y32 z32
  obtain ⟨rfl, N32q, E32⟩ := hQ32
  have N32 := Fr.app N24 N32q
  obtain ⟨_, _, ⟨T35, L35, k35, n35⟩, -, X35, ⟨Lc35, hQ35, l35, y35, z35⟩, st35⟩ := Jvm.LawKit.callS X32 hx (y := (⟨cs4, "expected", cs3⟩ : MethodName)) hown (mvT hZ (ww hw 27 rfl)) (mvT hZ (ww hw 28 rfl)) (mvT hZ (ww hw 29 rfl)) (mvT hZ (ww hw 30 rfl)) (by decide) (backOf (W := 1) (rm3_1 l Z a0 hw [] (x1 &&& (7 : Int32)) r4 T24.heap n0 o31 hc33 f34) hZ (ww hw 30 rfl) (ww hw 29 rfl) (by decide) (by decide)) (g := (mkF m 27 #[.val (.int x0), .val (.int x1), .val (.int (x1 &&& (7 : Int32))), .val .null, .val (.ref r4)] [(.int (x1 &&& (7 : Int32))), (.ref r4)])) rfl (by rw [hml]; rfl) (argsL := [(.int (x1 &&& (7 : Int32)))]) (rest := [(.ref r4)]) (lenOf pd__I_Lcom_example_wiregather_wiregather_wire_FieldType_ rfl) rfl (by show 2 * 0 + _ ≤ _; exact Nat.le_of_eq rfl) (hb hby at_27) (fun _ _ => ⟨rfl, E32, (by decide : 2 + 0 ≤ _), (by decide : 12 + 0 ≤ _)⟩)
  dsimp only [Pt.U, Pt.locs, Pt.cells, Pt.slots] at X35 l35 y35 z35 st35 hQ35
  subst l35 y35 z35
  obtain ⟨rfl, N35q, E35⟩ := hQ35
  have N35 := Fr.app N32 N35q
  obtain ⟨fs, hr, hrun, hended, hW, hsame⟩ := X35.leave (v := some (.int (1 : Int32))) (fun h => by rw [Bd.returns] at h; cases h)
  refine ⟨_, _, pre0 _ ?_, hrun, hended, _, _, rfl, ?_, ⟨_, rfl⟩, hW, hsame.mono (by decide) (by decide)⟩
  · show Steps p.tables e below (s₁.setTop (mkF m 0 #[.val (.int x0), .val (.int x1), .unset, .unset, .unset] [])) _
    refine XS.iloadN X0.here hx rfl (hb hby at_0) rfl ?_
    refine XS.bipush X0.here hx rfl (hb hby at_1) ?_
    refine XS.iand X0.here hx rfl (hb hby at_3) rfl ?_
    refine XS.istoreN X0.here hx rfl (hb hby at_4) rfl (l' := #[.val (.int x0), .val (.int x1), .val (.int (x1 &&& (7 : Int32))), .unset, .unset]) rfl ?_
    show Steps p.tables e below (s₁.setTop (mkF m 5 #[.val (.int x0), .val (.int x1), .val (.int (x1 &&& (7 : Int32))), .unset, .unset] [])) _
    refine XS.iloadN X0.here hx rfl (hb hby at_5) rfl ?_
    refine st16 _ ?_
    show Steps p.tables e below (T16.setTop (mkF m 9 #[.val (.int x0), .val (.int x1), .val (.int (x1 &&& (7 : Int32))), .unset, .unset] [.null])) _
    refine XS.astoreN X16.here hx rfl (hb hby at_9) rfl rfl (l' := #[.val (.int x0), .val (.int x1), .val (.int (x1 &&& (7 : Int32))), .val .null, .unset]) rfl ?_
    refine XS.iloadN X16.here hx rfl (hb hby at_10) rfl ?_
    refine st24 _ ?_
    show Steps p.tables e below (T24.setTop (mkF m 14 #[.val (.int x0), .val (.int x1), .val (.int (x1 &&& (7 : Int32))), .val .null, .unset] [(.ref r4)])) _
    refine XS.astore X24.here hx rfl (hb hby at_14) rfl rfl (l' := #[.val (.int x0), .val (.int x1), .val (.int (x1 &&& (7 : Int32))), .val .null, .val (.ref r4)]) rfl ?_
    refine XS.aloadN X24.here hx rfl (hb hby at_16) rfl rfl ?_
    refine XS.iloadN X24.here hx rfl (hb hby at_17) rfl ?_
    refine st32 _ ?_
    show Steps p.tables e below (T32.setTop (mkF m 21 #[.val (.int x0), .val (.int x1), .val (.int (x1 &&& (7 : Int32))), .val .null, .val (.ref r4)] [.null, .null])) _
    refine Jvm.RoadKit.acmp (g := (mkF m 21 #[.val (.int x0), .val (.int x1), .val (.int (x1 &&& (7 : Int32))), .val .null, .val (.ref r4)] [.null, .null])) X32 hx rfl rfl rfl (pc0 := 21) (pc' := 24) (same := true) rfl (hb hby at_21) rfl (decide_eq_true rfl) (by decide) (by decide) ?_
    show Steps p.tables e below (T32.setTop (mkF m 24 #[.val (.int x0), .val (.int x1), .val (.int (x1 &&& (7 : Int32))), .val .null, .val (.ref r4)] [])) _
    refine XS.aload X32.here hx rfl (hb hby at_24) rfl rfl ?_
    refine XS.iloadN X32.here hx rfl (hb hby at_26) rfl ?_
    refine st35 _ ?_
    show Steps p.tables e below (T35.setTop (mkF m 30 #[.val (.int x0), .val (.int x1), .val (.int (x1 &&& (7 : Int32))), .val .null, .val (.ref r4)] [(.ref r4), (.ref r4)])) _
    refine Jvm.RoadKit.acmp (g := (mkF m 30 #[.val (.int x0), .val (.int x1), .val (.int (x1 &&& (7 : Int32))), .val .null, .val (.ref r4)] [(.ref r4), (.ref r4)])) X35 hx rfl rfl rfl (pc0 := 30) (pc' := 33) (same := true) rfl (hb hby at_30) rfl (decide_eq_true rfl) (by decide) (by decide) ?_
    show Steps p.tables e below (T35.setTop (mkF m 33 #[.val (.int x0), .val (.int x1), .val (.int (x1 &&& (7 : Int32))), .val .null, .val (.ref r4)] [])) _
    refine XS.iconst X35.here hx rfl (hb hby at_33) ?_
    refine XS.goto X35.here hx rfl (pc0 := 34) (pc' := 38) rfl (hb hby at_34) (by decide) (by decide) ?_
    show Steps p.tables e below (T35.setTop (mkF m 38 #[.val (.int x0), .val (.int x1), .val (.int (x1 &&& (7 : Int32))), .val .null, .val (.ref r4)] [(.int (1 : Int32))])) _
    exact retN X35 hx (t := .boolean) Bd.returns (by simp) (hb hby at_38) hr
  · show Q0_44 Z x0 x1 r2 c3 r4 r5 r6 r7 r8 r9 h0 n0 _ T35.heap _
    rw [E35]
    exact ⟨rfl, N35⟩
def Q0_45 (Z : State) (x0 : Int32) (x1 : Int32) (r2 : Addr) (c3 : ClassId) (r4 : Addr) (r5 : Addr) (r6 : Addr) (r7 : Addr) (r8 : Addr) (r9 : Addr) (h0 : Heap) (n0 : Nat) (v : Option Value) (h : Heap) (L : List Loc) : Prop := v = some (.int (1 : Int32)) ∧ Fr n0 L
set_option maxRecDepth 65536 in
set_option maxHeartbeats 40000000 in
theorem rm0_45 (l : Launch) (Z : State) (a0 : Array Value) (hw : ∀ d ∈ tables_1, d.before a0 Z = true) (ws : List Jvm.Cond) (x0 : Int32) (x1 : Int32) (r2 : Addr) (c3 : ClassId) (r4 : Addr) (r5 : Addr) (r6 : Addr) (r7 : Addr) (r8 : Addr) (r9 : Addr) (h0 : Heap) (n0 : Nat) (O0 : Old Z n0 h0) (f1 : Sta Z Z.heap cs0 "$VALUES" cs1 (.ref r2)) (f2 : Exa Z Z.heap r2 cs1) (f3 : Arv Z Z.heap r2 c3 (.object cs0) (6 : Int32) [(.ref r4), (.ref r5), (.ref r6), (.ref r7), (.ref r8), (.ref r9)] .null) (f4 : Fld Z Z.heap r4 cs0 "code" "I" (.int (1 : Int32))) (hc5 : ¬ ((1 : Int32) = x0)) (f6 : Fld Z Z.heap r5 cs0 "code" "I" (.int (2 : Int32))) (hc7 : ¬ ((2 : Int32) = x0)) (f8 : Fld Z Z.heap r6 cs0 "code" "I" (.int (3 : Int32))) (hc9 : ¬ ((3 : Int32) = x0)) (f10 : Fld Z Z.heap r7 cs0 "code" "I" (.int (4 : Int32))) (hc11 : ¬ ((4 : Int32) = x0)) (f12 : Fld Z Z.heap r8 cs0 "code" "I" (.int (5 : Int32))) (hc13 : ¬ ((5 : Int32) = x0)) (f14 : Fld Z Z.heap r9 cs0 "code" "I" (.int (6 : Int32))) (hc15 : ¬ ((6 : Int32) = x0)) (hc17 : ¬ ((1 : Int32) = (x1 &&& (7 : Int32)))) (hc18 : (2 : Int32) = (x1 &&& (7 : Int32))) (hc19 : ¬ ((3 : Int32) = (x1 &&& (7 : Int32)))) (hc20 : ¬ ((4 : Int32) = (x1 &&& (7 : Int32)))) (hc21 : ¬ ((5 : Int32) = (x1 &&& (7 : Int32)))) (hc22 : ¬ ((6 : Int32) = (x1 &&& (7 : Int32)))) (hc25 : ¬ (x0 = (1 : Int32))) (hc26 : ¬ (x0 = (2 : Int32))) (hc27 : ¬ (x0 = (3 : Int32))) (hc28 : ¬ (x0 = (4 : Int32))) (hc29 : ¬ (x0 = (5 : Int32))) (hc30 : ¬ (x0 = (6 : Int32))) (hc33 : ¬ ((x1 &&& (7 : Int32)) = (1 : Int32))) (hc34 : (x1 &&& (7 : Int32)) = (2 : Int32)) (f35 : Sta Z Z.heap cs0 "U32" cs5 (.ref r5)) :
    MetFree l x (head1 (Jvm.Cond.code x code maxLocals ret :: ws) room_1) (fun a U => a = #[(.int x0), (.int x1)] ∧ Z.Warmed39 U.vm ∧ U.heap = h0) (fun _ _ _ _ _ => True) (fun _ U o U' => ∃ v L, o = .returned v ∧ Q0_45 Z x0 x1 r2 c3 r4 r5 r6 r7 r8 r9 h0 n0 v U'.heap L ∧ FrameEnd U o U' L room_1.cells room_1.slots) := by
  refine MetFree.of_bodySF (plainFor_of_name pn_com_example_wiregather_wiregather_wire_FieldTypeOfCodePinLaw) hisR ?_
  intro p e s m args below meth c s₁ Bd hml0 hP hK
  obtain ⟨rfl, hZ, hh⟩ := hP
  have hx := Bd.exec
  have hby := Bd.bytes
  have hml : c.maxLocals = 5 := hml0
  have hown : s.vm.findClass cs4 = some m.cls := findClass_of_methodNamed Bd.named
  have hnm := (name_of_methodNamed Bd.named Bd.method).1
  have X0 : Stand p l e room_1 s m #[(.int x0), (.int x1)] below meth c s₁ [] 0 0 := Stand.of_body Bd
  have e0 : s₁.heap = h0 := by rw [← hh, Bd.state]; rfl
  have N0 := Fr.nil n0
  have pre0 : ∀ t, Steps p.tables e below (s₁.setTop (mkF m 0 #[.val (.int x0), .val (.int x1), .unset, .unset, .unset] [])) t → Steps p.tables e below (s₁.setTop (entryFrame m #[(.int x0), (.int x1)] maxLocals)) t := fun t k => castTop (by first | (simp [entryFrame, mkF, argsToLocals, Value.category, maxLocals]; done) | rfl) k
  obtain ⟨_, _, ⟨T16, L16, k16, n16⟩, -, X16, ⟨Lc16, hQ16, l16, y16, z16⟩, st16⟩ := Jvm.LawKit.callS X0 hx (y := (⟨cs0, "ofCode", cs3⟩ : MethodName)) hown (mvT hZ (ww hw 0 rfl)) (mvT hZ (ww hw 1 rfl)) (mvT hZ (ww hw 2 rfl)) (mvT hZ (ww hw 3 rfl)) (by decide) (backOf (W := 0) (rm1_2 l Z a0 hw [] x0 r2 c3 r4 r5 r6 r7 r8 r9 h0 n0 O0 f1 f2 f3 f4 hc5 f6 hc7 f8 hc9 f10 hc11 f12 hc13 f14 hc15) hZ (ww hw 3 rfl) (ww hw 2 rfl) (by decide) (by decide)) (g := (mkF m 6 #[.val (.int x0), .val (.int x1), .val (.int (x1 &&& (7 : Int32))), .unset, .unset] [(.int x0)])) rfl (by rw [hml]; rfl) (argsL := [(.int x0)]) (rest := []) (lenOf pd__I_Lcom_example_wiregather_wiregather_wire_FieldType_ rfl) rfl (by show 2 * 0 + _ ≤ _; exact Nat.le_of_eq rfl) (hb hby at_6) (fun _ _ => ⟨rfl, e0, (by decide : 0 + 1 ≤ _), (by decide : 0 + 6 ≤ _)⟩)
  dsimp only [Pt.U, Pt.locs, Pt.cells, Pt.slots] at X16 l16 y16 z16 st16 hQ16
  subst l16 y16 z16
  obtain ⟨rfl, N16q, K16⟩ := hQ16
  have N16 := Fr.app N0 N16q
  have o23 := Old.keep O0 K16 all0
  obtain ⟨_, _, ⟨T24, L24, k24, n24⟩, -, X24, ⟨Lc24, hQ24, l24, y24, z24⟩, st24⟩ := Jvm.LawKit.callS X16 hx (y := (⟨cs0, "ofCode", cs3⟩ : MethodName)) hown (mvT hZ (ww hw 0 rfl)) (mvT hZ (ww hw 1 rfl)) (mvT hZ (ww hw 2 rfl)) (mvT hZ (ww hw 3 rfl)) (by decide) (backOf (W := 0) (rm1_3 l Z a0 hw [] (x1 &&& (7 : Int32)) r2 c3 r4 r5 r6 r7 r8 r9 T16.heap n0 o23 f1 f2 f3 f4 hc17 f6 hc18 f8 hc19 f10 hc20 f12 hc21 f14 hc22) hZ (ww hw 3 rfl) (ww hw 2 rfl) (by decide) (by decide)) (g := (mkF m 11 #[.val (.int x0), .val (.int x1), .val (.int (x1 &&& (7 : Int32))), .val .null, .unset] [(.int (x1 &&& (7 : Int32)))])) rfl (by rw [hml]; rfl) (argsL := [(.int (x1 &&& (7 : Int32)))]) (rest := []) (lenOf pd__I_Lcom_example_wiregather_wiregather_wire_FieldType_ rfl) rfl (by show 2 * 0 + _ ≤ _; exact Nat.le_of_eq rfl) (hb hby at_11) (fun _ _ => ⟨rfl, rfl, (by decide : 1 + 1 ≤ _), (by decide : 6 + 6 ≤ _)⟩)
  dsimp only [Pt.U, Pt.locs, Pt.cells, Pt.slots] at X24 l24 y24 z24 st24 hQ24
  subst l24 y24 z24
  obtain ⟨rfl, N24q, K24⟩ := hQ24
  have N24 := Fr.app N16 N24q
  have o31 := Old.keep o23 K24 all0
  obtain ⟨_, _, ⟨T32, L32, k32, n32⟩, -, X32, ⟨Lc32, hQ32, l32, y32, z32⟩, st32⟩ := Jvm.LawKit.callS X24 hx (y := (⟨cs4, "expected", cs3⟩ : MethodName)) hown (mvT hZ (ww hw 27 rfl)) (mvT hZ (ww hw 28 rfl)) (mvT hZ (ww hw 29 rfl)) (mvT hZ (ww hw 30 rfl)) (by decide) (backOf (W := 1) (rm3_2 l Z a0 hw [] x0 T24.heap n0 o31 hc25 hc26 hc27 hc28 hc29 hc30) hZ (ww hw 30 rfl) (ww hw 29 rfl) (by decide) (by decide)) (g := (mkF m 18 #[.val (.int x0), .val (.int x1), .val (.int (x1 &&& (7 : Int32))), .val .null, .val (.ref r5)] [(.int x0), .null])) rfl (by rw [hml]; rfl) (argsL := [(.int x0)]) (rest := [.null]) (lenOf pd__I_Lcom_example_wiregather_wiregather_wire_FieldType_ rfl) rfl (by show 2 * 0 + _ ≤ _; exact Nat.le_of_eq rfl) (hb hby at_18) (fun _ _ => ⟨rfl, rfl, (by decide : 2 + 0 ≤ _), (by decide : 12 + 0 ≤ _)⟩)
  dsimp only [Pt.U, Pt.locs, Pt.cells, Pt.slots] at X32 l32 y32 z32 st32 hQ32
  subst l32 y32 z32
  obtain ⟨rfl, N32q, E32⟩ := hQ32
  have N32 := Fr.app N24 N32q
  obtain ⟨_, _, ⟨T36, L36, k36, n36⟩, -, X36, ⟨Lc36, hQ36, l36, y36, z36⟩, st36⟩ := Jvm.LawKit.callS X32 hx (y := (⟨cs4, "expected", cs3⟩ : MethodName)) hown (mvT hZ (ww hw 27 rfl)) (mvT hZ (ww hw 28 rfl)) (mvT hZ (ww hw 29 rfl)) (mvT hZ (ww hw 30 rfl)) (by decide) (backOf (W := 1) (rm3_3 l Z a0 hw [] (x1 &&& (7 : Int32)) r5 T24.heap n0 o31 hc33 hc34 f35) hZ (ww hw 30 rfl) (ww hw 29 rfl) (by decide) (by decide)) (g := (mkF m 27 #[.val (.int x0), .val (.int x1), .val (.int (x1 &&& (7 : Int32))), .val .null, .val (.ref r5)] [(.int (x1 &&& (7 : Int32))), (.ref r5)])) rfl (by rw [hml]; rfl) (argsL := [(.int (x1 &&& (7 : Int32)))]) (rest := [(.ref r5)]) (lenOf pd__I_Lcom_example_wiregather_wiregather_wire_FieldType_ rfl) rfl (by show 2 * 0 + _ ≤ _; exact Nat.le_of_eq rfl) (hb hby at_27) (fun _ _ => ⟨rfl, E32, (by decide : 2 + 0 ≤ _), (by decide : 12 + 0 ≤ _)⟩)
  dsimp only [Pt.U, Pt.locs, Pt.cells, Pt.slots] at X36 l36 y36 z36 st36 hQ36
  subst l36 y36 z36
  obtain ⟨rfl, N36q, E36⟩ := hQ36
  have N36 := Fr.app N32 N36q
  obtain ⟨fs, hr, hrun, hended, hW, hsame⟩ := X36.leave (v := some (.int (1 : Int32))) (fun h => by rw [Bd.returns] at h; cases h)
  refine ⟨_, _, pre0 _ ?_, hrun, hended, _, _, rfl, ?_, ⟨_, rfl⟩, hW, hsame.mono (by decide) (by decide)⟩
  · show Steps p.tables e below (s₁.setTop (mkF m 0 #[.val (.int x0), .val (.int x1), .unset, .unset, .unset] [])) _
    refine XS.iloadN X0.here hx rfl (hb hby at_0) rfl ?_
    refine XS.bipush X0.here hx rfl (hb hby at_1) ?_
    refine XS.iand X0.here hx rfl (hb hby at_3) rfl ?_
    refine XS.istoreN X0.here hx rfl (hb hby at_4) rfl (l' := #[.val (.int x0), .val (.int x1), .val (.int (x1 &&& (7 : Int32))), .unset, .unset]) rfl ?_
    show Steps p.tables e below (s₁.setTop (mkF m 5 #[.val (.int x0), .val (.int x1), .val (.int (x1 &&& (7 : Int32))), .unset, .unset] [])) _
    refine XS.iloadN X0.here hx rfl (hb hby at_5) rfl ?_
    refine st16 _ ?_
    show Steps p.tables e below (T16.setTop (mkF m 9 #[.val (.int x0), .val (.int x1), .val (.int (x1 &&& (7 : Int32))), .unset, .unset] [.null])) _
    refine XS.astoreN X16.here hx rfl (hb hby at_9) rfl rfl (l' := #[.val (.int x0), .val (.int x1), .val (.int (x1 &&& (7 : Int32))), .val .null, .unset]) rfl ?_
    refine XS.iloadN X16.here hx rfl (hb hby at_10) rfl ?_
    refine st24 _ ?_
    show Steps p.tables e below (T24.setTop (mkF m 14 #[.val (.int x0), .val (.int x1), .val (.int (x1 &&& (7 : Int32))), .val .null, .unset] [(.ref r5)])) _
    refine XS.astore X24.here hx rfl (hb hby at_14) rfl rfl (l' := #[.val (.int x0), .val (.int x1), .val (.int (x1 &&& (7 : Int32))), .val .null, .val (.ref r5)]) rfl ?_
    refine XS.aloadN X24.here hx rfl (hb hby at_16) rfl rfl ?_
    refine XS.iloadN X24.here hx rfl (hb hby at_17) rfl ?_
    refine st32 _ ?_
    show Steps p.tables e below (T32.setTop (mkF m 21 #[.val (.int x0), .val (.int x1), .val (.int (x1 &&& (7 : Int32))), .val .null, .val (.ref r5)] [.null, .null])) _
    refine Jvm.RoadKit.acmp (g := (mkF m 21 #[.val (.int x0), .val (.int x1), .val (.int (x1 &&& (7 : Int32))), .val .null, .val (.ref r5)] [.null, .null])) X32 hx rfl rfl rfl (pc0 := 21) (pc' := 24) (same := true) rfl (hb hby at_21) rfl (decide_eq_true rfl) (by decide) (by decide) ?_
    show Steps p.tables e below (T32.setTop (mkF m 24 #[.val (.int x0), .val (.int x1), .val (.int (x1 &&& (7 : Int32))), .val .null, .val (.ref r5)] [])) _
    refine XS.aload X32.here hx rfl (hb hby at_24) rfl rfl ?_
    refine XS.iloadN X32.here hx rfl (hb hby at_26) rfl ?_
    refine st36 _ ?_
    show Steps p.tables e below (T36.setTop (mkF m 30 #[.val (.int x0), .val (.int x1), .val (.int (x1 &&& (7 : Int32))), .val .null, .val (.ref r5)] [(.ref r5), (.ref r5)])) _
    refine Jvm.RoadKit.acmp (g := (mkF m 30 #[.val (.int x0), .val (.int x1), .val (.int (x1 &&& (7 : Int32))), .val .null, .val (.ref r5)] [(.ref r5), (.ref r5)])) X36 hx rfl rfl rfl (pc0 := 30) (pc' := 33) (same := true) rfl (hb hby at_30) rfl (decide_eq_true rfl) (by decide) (by decide) ?_
    show Steps p.tables e below (T36.setTop (mkF m 33 #[.val (.int x0), .val (.int x1), .val (.int (x1 &&& (7 : Int32))), .val .null, .val (.ref r5)] [])) _
    refine XS.iconst X36.here hx rfl (hb hby at_33) ?_
    refine XS.goto X36.here hx rfl (pc0 := 34) (pc' := 38) rfl (hb hby at_34) (by decide) (by decide) ?_
    show Steps p.tables e below (T36.setTop (mkF m 38 #[.val (.int x0), .val (.int x1), .val (.int (x1 &&& (7 : Int32))), .val .null, .val (.ref r5)] [(.int (1 : Int32))])) _
    exact retN X36 hx (t := .boolean) Bd.returns (by simp) (hb hby at_38) hr
  · show Q0_45 Z x0 x1 r2 c3 r4 r5 r6 r7 r8 r9 h0 n0 _ T36.heap _
    rw [E36]
    exact ⟨rfl, N36⟩
def Q0_46 (Z : State) (x0 : Int32) (x1 : Int32) (r2 : Addr) (c3 : ClassId) (r4 : Addr) (r5 : Addr) (r6 : Addr) (r7 : Addr) (r8 : Addr) (r9 : Addr) (h0 : Heap) (n0 : Nat) (v : Option Value) (h : Heap) (L : List Loc) : Prop := v = some (.int (1 : Int32)) ∧ Fr n0 L
set_option maxRecDepth 65536 in
set_option maxHeartbeats 40000000 in
theorem rm0_46 (l : Launch) (Z : State) (a0 : Array Value) (hw : ∀ d ∈ tables_1, d.before a0 Z = true) (ws : List Jvm.Cond) (x0 : Int32) (x1 : Int32) (r2 : Addr) (c3 : ClassId) (r4 : Addr) (r5 : Addr) (r6 : Addr) (r7 : Addr) (r8 : Addr) (r9 : Addr) (h0 : Heap) (n0 : Nat) (O0 : Old Z n0 h0) (f1 : Sta Z Z.heap cs0 "$VALUES" cs1 (.ref r2)) (f2 : Exa Z Z.heap r2 cs1) (f3 : Arv Z Z.heap r2 c3 (.object cs0) (6 : Int32) [(.ref r4), (.ref r5), (.ref r6), (.ref r7), (.ref r8), (.ref r9)] .null) (f4 : Fld Z Z.heap r4 cs0 "code" "I" (.int (1 : Int32))) (hc5 : ¬ ((1 : Int32) = x0)) (f6 : Fld Z Z.heap r5 cs0 "code" "I" (.int (2 : Int32))) (hc7 : ¬ ((2 : Int32) = x0)) (f8 : Fld Z Z.heap r6 cs0 "code" "I" (.int (3 : Int32))) (hc9 : ¬ ((3 : Int32) = x0)) (f10 : Fld Z Z.heap r7 cs0 "code" "I" (.int (4 : Int32))) (hc11 : ¬ ((4 : Int32) = x0)) (f12 : Fld Z Z.heap r8 cs0 "code" "I" (.int (5 : Int32))) (hc13 : ¬ ((5 : Int32) = x0)) (f14 : Fld Z Z.heap r9 cs0 "code" "I" (.int (6 : Int32))) (hc15 : ¬ ((6 : Int32) = x0)) (hc17 : ¬ ((1 : Int32) = (x1 &&& (7 : Int32)))) (hc18 : ¬ ((2 : Int32) = (x1 &&& (7 : Int32)))) (hc19 : (3 : Int32) = (x1 &&& (7 : Int32))) (hc20 : ¬ ((4 : Int32) = (x1 &&& (7 : Int32)))) (hc21 : ¬ ((5 : Int32) = (x1 &&& (7 : Int32)))) (hc22 : ¬ ((6 : Int32) = (x1 &&& (7 : Int32)))) (hc25 : ¬ (x0 = (1 : Int32))) (hc26 : ¬ (x0 = (2 : Int32))) (hc27 : ¬ (x0 = (3 : Int32))) (hc28 : ¬ (x0 = (4 : Int32))) (hc29 : ¬ (x0 = (5 : Int32))) (hc30 : ¬ (x0 = (6 : Int32))) (hc33 : ¬ ((x1 &&& (7 : Int32)) = (1 : Int32))) (hc34 : ¬ ((x1 &&& (7 : Int32)) = (2 : Int32))) (hc35 : (x1 &&& (7 : Int32)) = (3 : Int32)) (f36 : Sta Z Z.heap cs0 "F32" cs5 (.ref r6)) :
    MetFree l x (head1 (Jvm.Cond.code x code maxLocals ret :: ws) room_1) (fun a U => a = #[(.int x0), (.int x1)] ∧ Z.Warmed39 U.vm ∧ U.heap = h0) (fun _ _ _ _ _ => True) (fun _ U o U' => ∃ v L, o = .returned v ∧ Q0_46 Z x0 x1 r2 c3 r4 r5 r6 r7 r8 r9 h0 n0 v U'.heap L ∧ FrameEnd U o U' L room_1.cells room_1.slots) := by
  refine MetFree.of_bodySF (plainFor_of_name pn_com_example_wiregather_wiregather_wire_FieldTypeOfCodePinLaw) hisR ?_
  intro p e s m args below meth c s₁ Bd hml0 hP hK
  obtain ⟨rfl, hZ, hh⟩ := hP
  have hx := Bd.exec
  have hby := Bd.bytes
  have hml : c.maxLocals = 5 := hml0
  have hown : s.vm.findClass cs4 = some m.cls := findClass_of_methodNamed Bd.named
  have hnm := (name_of_methodNamed Bd.named Bd.method).1
  have X0 : Stand p l e room_1 s m #[(.int x0), (.int x1)] below meth c s₁ [] 0 0 := Stand.of_body Bd
  have e0 : s₁.heap = h0 := by rw [← hh, Bd.state]; rfl
  have N0 := Fr.nil n0
  have pre0 : ∀ t, Steps p.tables e below (s₁.setTop (mkF m 0 #[.val (.int x0), .val (.int x1), .unset, .unset, .unset] [])) t → Steps p.tables e below (s₁.setTop (entryFrame m #[(.int x0), (.int x1)] maxLocals)) t := fun t k => castTop (by first | (simp [entryFrame, mkF, argsToLocals, Value.category, maxLocals]; done) | rfl) k
  obtain ⟨_, _, ⟨T16, L16, k16, n16⟩, -, X16, ⟨Lc16, hQ16, l16, y16, z16⟩, st16⟩ := Jvm.LawKit.callS X0 hx (y := (⟨cs0, "ofCode", cs3⟩ : MethodName)) hown (mvT hZ (ww hw 0 rfl)) (mvT hZ (ww hw 1 rfl)) (mvT hZ (ww hw 2 rfl)) (mvT hZ (ww hw 3 rfl)) (by decide) (backOf (W := 0) (rm1_2 l Z a0 hw [] x0 r2 c3 r4 r5 r6 r7 r8 r9 h0 n0 O0 f1 f2 f3 f4 hc5 f6 hc7 f8 hc9 f10 hc11 f12 hc13 f14 hc15) hZ (ww hw 3 rfl) (ww hw 2 rfl) (by decide) (by decide)) (g := (mkF m 6 #[.val (.int x0), .val (.int x1), .val (.int (x1 &&& (7 : Int32))), .unset, .unset] [(.int x0)])) rfl (by rw [hml]; rfl) (argsL := [(.int x0)]) (rest := []) (lenOf pd__I_Lcom_example_wiregather_wiregather_wire_FieldType_ rfl) rfl (by show 2 * 0 + _ ≤ _; exact Nat.le_of_eq rfl) (hb hby at_6) (fun _ _ => ⟨rfl, e0, (by decide : 0 + 1 ≤ _), (by decide : 0 + 6 ≤ _)⟩)
  dsimp only [Pt.U, Pt.locs, Pt.cells, Pt.slots] at X16 l16 y16 z16 st16 hQ16
  subst l16 y16 z16
  obtain ⟨rfl, N16q, K16⟩ := hQ16
  have N16 := Fr.app N0 N16q
  have o23 := Old.keep O0 K16 all0
  obtain ⟨_, _, ⟨T24, L24, k24, n24⟩, -, X24, ⟨Lc24, hQ24, l24, y24, z24⟩, st24⟩ := Jvm.LawKit.callS X16 hx (y := (⟨cs0, "ofCode", cs3⟩ : MethodName)) hown (mvT hZ (ww hw 0 rfl)) (mvT hZ (ww hw 1 rfl)) (mvT hZ (ww hw 2 rfl)) (mvT hZ (ww hw 3 rfl)) (by decide) (backOf (W := 0) (rm1_4 l Z a0 hw [] (x1 &&& (7 : Int32)) r2 c3 r4 r5 r6 r7 r8 r9 T16.heap n0 o23 f1 f2 f3 f4 hc17 f6 hc18 f8 hc19 f10 hc20 f12 hc21 f14 hc22) hZ (ww hw 3 rfl) (ww hw 2 rfl) (by decide) (by decide)) (g := (mkF m 11 #[.val (.int x0), .val (.int x1), .val (.int (x1 &&& (7 : Int32))), .val .null, .unset] [(.int (x1 &&& (7 : Int32)))])) rfl (by rw [hml]; rfl) (argsL := [(.int (x1 &&& (7 : Int32)))]) (rest := []) (lenOf pd__I_Lcom_example_wiregather_wiregather_wire_FieldType_ rfl) rfl (by show 2 * 0 + _ ≤ _; exact Nat.le_of_eq rfl) (hb hby at_11) (fun _ _ => ⟨rfl, rfl, (by decide : 1 + 1 ≤ _), (by decide : 6 + 6 ≤ _)⟩)
  dsimp only [Pt.U, Pt.locs, Pt.cells, Pt.slots] at X24 l24 y24 z24 st24 hQ24
  subst l24 y24 z24
  obtain ⟨rfl, N24q, K24⟩ := hQ24
  have N24 := Fr.app N16 N24q
  have o31 := Old.keep o23 K24 all0
  obtain ⟨_, _, ⟨T32, L32, k32, n32⟩, -, X32, ⟨Lc32, hQ32, l32, y32, z32⟩, st32⟩ := Jvm.LawKit.callS X24 hx (y := (⟨cs4, "expected", cs3⟩ : MethodName)) hown (mvT hZ (ww hw 27 rfl)) (mvT hZ (ww hw 28 rfl)) (mvT hZ (ww hw 29 rfl)) (mvT hZ (ww hw 30 rfl)) (by decide) (backOf (W := 1) (rm3_2 l Z a0 hw [] x0 T24.heap n0 o31 hc25 hc26 hc27 hc28 hc29 hc30) hZ (ww hw 30 rfl) (ww hw 29 rfl) (by decide) (by decide)) (g := (mkF m 18 #[.val (.int x0), .val (.int x1), .val (.int (x1 &&& (7 : Int32))), .val .null, .val (.ref r6)] [(.int x0), .null])) rfl (by rw [hml]; rfl) (argsL := [(.int x0)]) (rest := [.null]) (lenOf pd__I_Lcom_example_wiregather_wiregather_wire_FieldType_ rfl) rfl (by show 2 * 0 + _ ≤ _; exact Nat.le_of_eq rfl) (hb hby at_18) (fun _ _ => ⟨rfl, rfl, (by decide : 2 + 0 ≤ _), (by decide : 12 + 0 ≤ _)⟩)
  dsimp only [Pt.U, Pt.locs, Pt.cells, Pt.slots] at X32 l32 y32 z32 st32 hQ32
  subst l32 y32 z32
  obtain ⟨rfl, N32q, E32⟩ := hQ32
  have N32 := Fr.app N24 N32q
  obtain ⟨_, _, ⟨T37, L37, k37, n37⟩, -, X37, ⟨Lc37, hQ37, l37, y37, z37⟩, st37⟩ := Jvm.LawKit.callS X32 hx (y := (⟨cs4, "expected", cs3⟩ : MethodName)) hown (mvT hZ (ww hw 27 rfl)) (mvT hZ (ww hw 28 rfl)) (mvT hZ (ww hw 29 rfl)) (mvT hZ (ww hw 30 rfl)) (by decide) (backOf (W := 1) (rm3_4 l Z a0 hw [] (x1 &&& (7 : Int32)) r6 T24.heap n0 o31 hc33 hc34 hc35 f36) hZ (ww hw 30 rfl) (ww hw 29 rfl) (by decide) (by decide)) (g := (mkF m 27 #[.val (.int x0), .val (.int x1), .val (.int (x1 &&& (7 : Int32))), .val .null, .val (.ref r6)] [(.int (x1 &&& (7 : Int32))), (.ref r6)])) rfl (by rw [hml]; rfl) (argsL := [(.int (x1 &&& (7 : Int32)))]) (rest := [(.ref r6)]) (lenOf pd__I_Lcom_example_wiregather_wiregather_wire_FieldType_ rfl) rfl (by show 2 * 0 + _ ≤ _; exact Nat.le_of_eq rfl) (hb hby at_27) (fun _ _ => ⟨rfl, E32, (by decide : 2 + 0 ≤ _), (by decide : 12 + 0 ≤ _)⟩)
  dsimp only [Pt.U, Pt.locs, Pt.cells, Pt.slots] at X37 l37 y37 z37 st37 hQ37
  subst l37 y37 z37
  obtain ⟨rfl, N37q, E37⟩ := hQ37
  have N37 := Fr.app N32 N37q
  obtain ⟨fs, hr, hrun, hended, hW, hsame⟩ := X37.leave (v := some (.int (1 : Int32))) (fun h => by rw [Bd.returns] at h; cases h)
  refine ⟨_, _, pre0 _ ?_, hrun, hended, _, _, rfl, ?_, ⟨_, rfl⟩, hW, hsame.mono (by decide) (by decide)⟩
  · show Steps p.tables e below (s₁.setTop (mkF m 0 #[.val (.int x0), .val (.int x1), .unset, .unset, .unset] [])) _
    refine XS.iloadN X0.here hx rfl (hb hby at_0) rfl ?_
    refine XS.bipush X0.here hx rfl (hb hby at_1) ?_
    refine XS.iand X0.here hx rfl (hb hby at_3) rfl ?_
    refine XS.istoreN X0.here hx rfl (hb hby at_4) rfl (l' := #[.val (.int x0), .val (.int x1), .val (.int (x1 &&& (7 : Int32))), .unset, .unset]) rfl ?_
    show Steps p.tables e below (s₁.setTop (mkF m 5 #[.val (.int x0), .val (.int x1), .val (.int (x1 &&& (7 : Int32))), .unset, .unset] [])) _
    refine XS.iloadN X0.here hx rfl (hb hby at_5) rfl ?_
    refine st16 _ ?_
    show Steps p.tables e below (T16.setTop (mkF m 9 #[.val (.int x0), .val (.int x1), .val (.int (x1 &&& (7 : Int32))), .unset, .unset] [.null])) _
    refine XS.astoreN X16.here hx rfl (hb hby at_9) rfl rfl (l' := #[.val (.int x0), .val (.int x1), .val (.int (x1 &&& (7 : Int32))), .val .null, .unset]) rfl ?_
    refine XS.iloadN X16.here hx rfl (hb hby at_10) rfl ?_
    refine st24 _ ?_
    show Steps p.tables e below (T24.setTop (mkF m 14 #[.val (.int x0), .val (.int x1), .val (.int (x1 &&& (7 : Int32))), .val .null, .unset] [(.ref r6)])) _
    refine XS.astore X24.here hx rfl (hb hby at_14) rfl rfl (l' := #[.val (.int x0), .val (.int x1), .val (.int (x1 &&& (7 : Int32))), .val .null, .val (.ref r6)]) rfl ?_
    refine XS.aloadN X24.here hx rfl (hb hby at_16) rfl rfl ?_
    refine XS.iloadN X24.here hx rfl (hb hby at_17) rfl ?_
    refine st32 _ ?_
    show Steps p.tables e below (T32.setTop (mkF m 21 #[.val (.int x0), .val (.int x1), .val (.int (x1 &&& (7 : Int32))), .val .null, .val (.ref r6)] [.null, .null])) _
    refine Jvm.RoadKit.acmp (g := (mkF m 21 #[.val (.int x0), .val (.int x1), .val (.int (x1 &&& (7 : Int32))), .val .null, .val (.ref r6)] [.null, .null])) X32 hx rfl rfl rfl (pc0 := 21) (pc' := 24) (same := true) rfl (hb hby at_21) rfl (decide_eq_true rfl) (by decide) (by decide) ?_
    show Steps p.tables e below (T32.setTop (mkF m 24 #[.val (.int x0), .val (.int x1), .val (.int (x1 &&& (7 : Int32))), .val .null, .val (.ref r6)] [])) _
    refine XS.aload X32.here hx rfl (hb hby at_24) rfl rfl ?_
    refine XS.iloadN X32.here hx rfl (hb hby at_26) rfl ?_
    refine st37 _ ?_
    show Steps p.tables e below (T37.setTop (mkF m 30 #[.val (.int x0), .val (.int x1), .val (.int (x1 &&& (7 : Int32))), .val .null, .val (.ref r6)] [(.ref r6), (.ref r6)])) _
    refine Jvm.RoadKit.acmp (g := (mkF m 30 #[.val (.int x0), .val (.int x1), .val (.int (x1 &&& (7 : Int32))), .val .null, .val (.ref r6)] [(.ref r6), (.ref r6)])) X37 hx rfl rfl rfl (pc0 := 30) (pc' := 33) (same := true) rfl (hb hby at_30) rfl (decide_eq_true rfl) (by decide) (by decide) ?_
    show Steps p.tables e below (T37.setTop (mkF m 33 #[.val (.int x0), .val (.int x1), .val (.int (x1 &&& (7 : Int32))), .val .null, .val (.ref r6)] [])) _
    refine XS.iconst X37.here hx rfl (hb hby at_33) ?_
    refine XS.goto X37.here hx rfl (pc0 := 34) (pc' := 38) rfl (hb hby at_34) (by decide) (by decide) ?_
    show Steps p.tables e below (T37.setTop (mkF m 38 #[.val (.int x0), .val (.int x1), .val (.int (x1 &&& (7 : Int32))), .val .null, .val (.ref r6)] [(.int (1 : Int32))])) _
    exact retN X37 hx (t := .boolean) Bd.returns (by simp) (hb hby at_38) hr
  · show Q0_46 Z x0 x1 r2 c3 r4 r5 r6 r7 r8 r9 h0 n0 _ T37.heap _
    rw [E37]
    exact ⟨rfl, N37⟩
def Q0_47 (Z : State) (x0 : Int32) (x1 : Int32) (r2 : Addr) (c3 : ClassId) (r4 : Addr) (r5 : Addr) (r6 : Addr) (r7 : Addr) (r8 : Addr) (r9 : Addr) (h0 : Heap) (n0 : Nat) (v : Option Value) (h : Heap) (L : List Loc) : Prop := v = some (.int (1 : Int32)) ∧ Fr n0 L
set_option maxRecDepth 65536 in
set_option maxHeartbeats 40000000 in
theorem rm0_47 (l : Launch) (Z : State) (a0 : Array Value) (hw : ∀ d ∈ tables_1, d.before a0 Z = true) (ws : List Jvm.Cond) (x0 : Int32) (x1 : Int32) (r2 : Addr) (c3 : ClassId) (r4 : Addr) (r5 : Addr) (r6 : Addr) (r7 : Addr) (r8 : Addr) (r9 : Addr) (h0 : Heap) (n0 : Nat) (O0 : Old Z n0 h0) (f1 : Sta Z Z.heap cs0 "$VALUES" cs1 (.ref r2)) (f2 : Exa Z Z.heap r2 cs1) (f3 : Arv Z Z.heap r2 c3 (.object cs0) (6 : Int32) [(.ref r4), (.ref r5), (.ref r6), (.ref r7), (.ref r8), (.ref r9)] .null) (f4 : Fld Z Z.heap r4 cs0 "code" "I" (.int (1 : Int32))) (hc5 : ¬ ((1 : Int32) = x0)) (f6 : Fld Z Z.heap r5 cs0 "code" "I" (.int (2 : Int32))) (hc7 : ¬ ((2 : Int32) = x0)) (f8 : Fld Z Z.heap r6 cs0 "code" "I" (.int (3 : Int32))) (hc9 : ¬ ((3 : Int32) = x0)) (f10 : Fld Z Z.heap r7 cs0 "code" "I" (.int (4 : Int32))) (hc11 : ¬ ((4 : Int32) = x0)) (f12 : Fld Z Z.heap r8 cs0 "code" "I" (.int (5 : Int32))) (hc13 : ¬ ((5 : Int32) = x0)) (f14 : Fld Z Z.heap r9 cs0 "code" "I" (.int (6 : Int32))) (hc15 : ¬ ((6 : Int32) = x0)) (hc17 : ¬ ((1 : Int32) = (x1 &&& (7 : Int32)))) (hc18 : ¬ ((2 : Int32) = (x1 &&& (7 : Int32)))) (hc19 : ¬ ((3 : Int32) = (x1 &&& (7 : Int32)))) (hc20 : (4 : Int32) = (x1 &&& (7 : Int32))) (hc21 : ¬ ((5 : Int32) = (x1 &&& (7 : Int32)))) (hc22 : ¬ ((6 : Int32) = (x1 &&& (7 : Int32)))) (hc25 : ¬ (x0 = (1 : Int32))) (hc26 : ¬ (x0 = (2 : Int32))) (hc27 : ¬ (x0 = (3 : Int32))) (hc28 : ¬ (x0 = (4 : Int32))) (hc29 : ¬ (x0 = (5 : Int32))) (hc30 : ¬ (x0 = (6 : Int32))) (hc33 : ¬ ((x1 &&& (7 : Int32)) = (1 : Int32))) (hc34 : ¬ ((x1 &&& (7 : Int32)) = (2 : Int32))) (hc35 : ¬ ((x1 &&& (7 : Int32)) = (3 : Int32))) (hc36 : (x1 &&& (7 : Int32)) = (4 : Int32)) (f37 : Sta Z Z.heap cs0 "F64" cs5 (.ref r7)) :
    MetFree l x (head1 (Jvm.Cond.code x code maxLocals ret :: ws) room_1) (fun a U => a = #[(.int x0), (.int x1)] ∧ Z.Warmed39 U.vm ∧ U.heap = h0) (fun _ _ _ _ _ => True) (fun _ U o U' => ∃ v L, o = .returned v ∧ Q0_47 Z x0 x1 r2 c3 r4 r5 r6 r7 r8 r9 h0 n0 v U'.heap L ∧ FrameEnd U o U' L room_1.cells room_1.slots) := by
  refine MetFree.of_bodySF (plainFor_of_name pn_com_example_wiregather_wiregather_wire_FieldTypeOfCodePinLaw) hisR ?_
  intro p e s m args below meth c s₁ Bd hml0 hP hK
  obtain ⟨rfl, hZ, hh⟩ := hP
  have hx := Bd.exec
  have hby := Bd.bytes
  have hml : c.maxLocals = 5 := hml0
  have hown : s.vm.findClass cs4 = some m.cls := findClass_of_methodNamed Bd.named
  have hnm := (name_of_methodNamed Bd.named Bd.method).1
  have X0 : Stand p l e room_1 s m #[(.int x0), (.int x1)] below meth c s₁ [] 0 0 := Stand.of_body Bd
  have e0 : s₁.heap = h0 := by rw [← hh, Bd.state]; rfl
  have N0 := Fr.nil n0
  have pre0 : ∀ t, Steps p.tables e below (s₁.setTop (mkF m 0 #[.val (.int x0), .val (.int x1), .unset, .unset, .unset] [])) t → Steps p.tables e below (s₁.setTop (entryFrame m #[(.int x0), (.int x1)] maxLocals)) t := fun t k => castTop (by first | (simp [entryFrame, mkF, argsToLocals, Value.category, maxLocals]; done) | rfl) k
  obtain ⟨_, _, ⟨T16, L16, k16, n16⟩, -, X16, ⟨Lc16, hQ16, l16, y16, z16⟩, st16⟩ := Jvm.LawKit.callS X0 hx (y := (⟨cs0, "ofCode", cs3⟩ : MethodName)) hown (mvT hZ (ww hw 0 rfl)) (mvT hZ (ww hw 1 rfl)) (mvT hZ (ww hw 2 rfl)) (mvT hZ (ww hw 3 rfl)) (by decide) (backOf (W := 0) (rm1_2 l Z a0 hw [] x0 r2 c3 r4 r5 r6 r7 r8 r9 h0 n0 O0 f1 f2 f3 f4 hc5 f6 hc7 f8 hc9 f10 hc11 f12 hc13 f14 hc15) hZ (ww hw 3 rfl) (ww hw 2 rfl) (by decide) (by decide)) (g := (mkF m 6 #[.val (.int x0), .val (.int x1), .val (.int (x1 &&& (7 : Int32))), .unset, .unset] [(.int x0)])) rfl (by rw [hml]; rfl) (argsL := [(.int x0)]) (rest := []) (lenOf pd__I_Lcom_example_wiregather_wiregather_wire_FieldType_ rfl) rfl (by show 2 * 0 + _ ≤ _; exact Nat.le_of_eq rfl) (hb hby at_6) (fun _ _ => ⟨rfl, e0, (by decide : 0 + 1 ≤ _), (by decide : 0 + 6 ≤ _)⟩)
  dsimp only [Pt.U, Pt.locs, Pt.cells, Pt.slots] at X16 l16 y16 z16 st16 hQ16
  subst l16 y16 z16
  obtain ⟨rfl, N16q, K16⟩ := hQ16
  have N16 := Fr.app N0 N16q
  have o23 := Old.keep O0 K16 all0
  obtain ⟨_, _, ⟨T24, L24, k24, n24⟩, -, X24, ⟨Lc24, hQ24, l24, y24, z24⟩, st24⟩ := Jvm.LawKit.callS X16 hx (y := (⟨cs0, "ofCode", cs3⟩ : MethodName)) hown (mvT hZ (ww hw 0 rfl)) (mvT hZ (ww hw 1 rfl)) (mvT hZ (ww hw 2 rfl)) (mvT hZ (ww hw 3 rfl)) (by decide) (backOf (W := 0) (rm1_5 l Z a0 hw [] (x1 &&& (7 : Int32)) r2 c3 r4 r5 r6 r7 r8 r9 T16.heap n0 o23 f1 f2 f3 f4 hc17 f6 hc18 f8 hc19 f10 hc20 f12 hc21 f14 hc22) hZ (ww hw 3 rfl) (ww hw 2 rfl) (by decide) (by decide)) (g := (mkF m 11 #[.val (.int x0), .val (.int x1), .val (.int (x1 &&& (7 : Int32))), .val .null, .unset] [(.int (x1 &&& (7 : Int32)))])) rfl (by rw [hml]; rfl) (argsL := [(.int (x1 &&& (7 : Int32)))]) (rest := []) (lenOf pd__I_Lcom_example_wiregather_wiregather_wire_FieldType_ rfl) rfl (by show 2 * 0 + _ ≤ _; exact Nat.le_of_eq rfl) (hb hby at_11) (fun _ _ => ⟨rfl, rfl, (by decide : 1 + 1 ≤ _), (by decide : 6 + 6 ≤ _)⟩)
  dsimp only [Pt.U, Pt.locs, Pt.cells, Pt.slots] at X24 l24 y24 z24 st24 hQ24
  subst l24 y24 z24
  obtain ⟨rfl, N24q, K24⟩ := hQ24
  have N24 := Fr.app N16 N24q
  have o31 := Old.keep o23 K24 all0
  obtain ⟨_, _, ⟨T32, L32, k32, n32⟩, -, X32, ⟨Lc32, hQ32, l32, y32, z32⟩, st32⟩ := Jvm.LawKit.callS X24 hx (y := (⟨cs4, "expected", cs3⟩ : MethodName)) hown (mvT hZ (ww hw 27 rfl)) (mvT hZ (ww hw 28 rfl)) (mvT hZ (ww hw 29 rfl)) (mvT hZ (ww hw 30 rfl)) (by decide) (backOf (W := 1) (rm3_2 l Z a0 hw [] x0 T24.heap n0 o31 hc25 hc26 hc27 hc28 hc29 hc30) hZ (ww hw 30 rfl) (ww hw 29 rfl) (by decide) (by decide)) (g := (mkF m 18 #[.val (.int x0), .val (.int x1), .val (.int (x1 &&& (7 : Int32))), .val .null, .val (.ref r7)] [(.int x0), .null])) rfl (by rw [hml]; rfl) (argsL := [(.int x0)]) (rest := [.null]) (lenOf pd__I_Lcom_example_wiregather_wiregather_wire_FieldType_ rfl) rfl (by show 2 * 0 + _ ≤ _; exact Nat.le_of_eq rfl) (hb hby at_18) (fun _ _ => ⟨rfl, rfl, (by decide : 2 + 0 ≤ _), (by decide : 12 + 0 ≤ _)⟩)
  dsimp only [Pt.U, Pt.locs, Pt.cells, Pt.slots] at X32 l32 y32 z32 st32 hQ32
  subst l32 y32 z32
  obtain ⟨rfl, N32q, E32⟩ := hQ32
  have N32 := Fr.app N24 N32q
  obtain ⟨_, _, ⟨T38, L38, k38, n38⟩, -, X38, ⟨Lc38, hQ38, l38, y38, z38⟩, st38⟩ := Jvm.LawKit.callS X32 hx (y := (⟨cs4, "expected", cs3⟩ : MethodName)) hown (mvT hZ (ww hw 27 rfl)) (mvT hZ (ww hw 28 rfl)) (mvT hZ (ww hw 29 rfl)) (mvT hZ (ww hw 30 rfl)) (by decide) (backOf (W := 1) (rm3_5 l Z a0 hw [] (x1 &&& (7 : Int32)) r7 T24.heap n0 o31 hc33 hc34 hc35 hc36 f37) hZ (ww hw 30 rfl) (ww hw 29 rfl) (by decide) (by decide)) (g := (mkF m 27 #[.val (.int x0), .val (.int x1), .val (.int (x1 &&& (7 : Int32))), .val .null, .val (.ref r7)] [(.int (x1 &&& (7 : Int32))), (.ref r7)])) rfl (by rw [hml]; rfl) (argsL := [(.int (x1 &&& (7 : Int32)))]) (rest := [(.ref r7)]) (lenOf pd__I_Lcom_example_wiregather_wiregather_wire_FieldType_ rfl) rfl (by show 2 * 0 + _ ≤ _; exact Nat.le_of_eq rfl) (hb hby at_27) (fun _ _ => ⟨rfl, E32, (by decide : 2 + 0 ≤ _), (by decide : 12 + 0 ≤ _)⟩)
  dsimp only [Pt.U, Pt.locs, Pt.cells, Pt.slots] at X38 l38 y38 z38 st38 hQ38
  subst l38 y38 z38
  obtain ⟨rfl, N38q, E38⟩ := hQ38
  have N38 := Fr.app N32 N38q
  obtain ⟨fs, hr, hrun, hended, hW, hsame⟩ := X38.leave (v := some (.int (1 : Int32))) (fun h => by rw [Bd.returns] at h; cases h)
  refine ⟨_, _, pre0 _ ?_, hrun, hended, _, _, rfl, ?_, ⟨_, rfl⟩, hW, hsame.mono (by decide) (by decide)⟩
  · show Steps p.tables e below (s₁.setTop (mkF m 0 #[.val (.int x0), .val (.int x1), .unset, .unset, .unset] [])) _
    refine XS.iloadN X0.here hx rfl (hb hby at_0) rfl ?_
    refine XS.bipush X0.here hx rfl (hb hby at_1) ?_
    refine XS.iand X0.here hx rfl (hb hby at_3) rfl ?_
    refine XS.istoreN X0.here hx rfl (hb hby at_4) rfl (l' := #[.val (.int x0), .val (.int x1), .val (.int (x1 &&& (7 : Int32))), .unset, .unset]) rfl ?_
    show Steps p.tables e below (s₁.setTop (mkF m 5 #[.val (.int x0), .val (.int x1), .val (.int (x1 &&& (7 : Int32))), .unset, .unset] [])) _
    refine XS.iloadN X0.here hx rfl (hb hby at_5) rfl ?_
    refine st16 _ ?_
    show Steps p.tables e below (T16.setTop (mkF m 9 #[.val (.int x0), .val (.int x1), .val (.int (x1 &&& (7 : Int32))), .unset, .unset] [.null])) _
    refine XS.astoreN X16.here hx rfl (hb hby at_9) rfl rfl (l' := #[.val (.int x0), .val (.int x1), .val (.int (x1 &&& (7 : Int32))), .val .null, .unset]) rfl ?_
    refine XS.iloadN X16.here hx rfl (hb hby at_10) rfl ?_
    refine st24 _ ?_
    show Steps p.tables e below (T24.setTop (mkF m 14 #[.val (.int x0), .val (.int x1), .val (.int (x1 &&& (7 : Int32))), .val .null, .unset] [(.ref r7)])) _
    refine XS.astore X24.here hx rfl (hb hby at_14) rfl rfl (l' := #[.val (.int x0), .val (.int x1), .val (.int (x1 &&& (7 : Int32))), .val .null, .val (.ref r7)]) rfl ?_
    refine XS.aloadN X24.here hx rfl (hb hby at_16) rfl rfl ?_
    refine XS.iloadN X24.here hx rfl (hb hby at_17) rfl ?_
    refine st32 _ ?_
    show Steps p.tables e below (T32.setTop (mkF m 21 #[.val (.int x0), .val (.int x1), .val (.int (x1 &&& (7 : Int32))), .val .null, .val (.ref r7)] [.null, .null])) _
    refine Jvm.RoadKit.acmp (g := (mkF m 21 #[.val (.int x0), .val (.int x1), .val (.int (x1 &&& (7 : Int32))), .val .null, .val (.ref r7)] [.null, .null])) X32 hx rfl rfl rfl (pc0 := 21) (pc' := 24) (same := true) rfl (hb hby at_21) rfl (decide_eq_true rfl) (by decide) (by decide) ?_
    show Steps p.tables e below (T32.setTop (mkF m 24 #[.val (.int x0), .val (.int x1), .val (.int (x1 &&& (7 : Int32))), .val .null, .val (.ref r7)] [])) _
    refine XS.aload X32.here hx rfl (hb hby at_24) rfl rfl ?_
    refine XS.iloadN X32.here hx rfl (hb hby at_26) rfl ?_
    refine st38 _ ?_
    show Steps p.tables e below (T38.setTop (mkF m 30 #[.val (.int x0), .val (.int x1), .val (.int (x1 &&& (7 : Int32))), .val .null, .val (.ref r7)] [(.ref r7), (.ref r7)])) _
    refine Jvm.RoadKit.acmp (g := (mkF m 30 #[.val (.int x0), .val (.int x1), .val (.int (x1 &&& (7 : Int32))), .val .null, .val (.ref r7)] [(.ref r7), (.ref r7)])) X38 hx rfl rfl rfl (pc0 := 30) (pc' := 33) (same := true) rfl (hb hby at_30) rfl (decide_eq_true rfl) (by decide) (by decide) ?_
    show Steps p.tables e below (T38.setTop (mkF m 33 #[.val (.int x0), .val (.int x1), .val (.int (x1 &&& (7 : Int32))), .val .null, .val (.ref r7)] [])) _
    refine XS.iconst X38.here hx rfl (hb hby at_33) ?_
    refine XS.goto X38.here hx rfl (pc0 := 34) (pc' := 38) rfl (hb hby at_34) (by decide) (by decide) ?_
    show Steps p.tables e below (T38.setTop (mkF m 38 #[.val (.int x0), .val (.int x1), .val (.int (x1 &&& (7 : Int32))), .val .null, .val (.ref r7)] [(.int (1 : Int32))])) _
    exact retN X38 hx (t := .boolean) Bd.returns (by simp) (hb hby at_38) hr
  · show Q0_47 Z x0 x1 r2 c3 r4 r5 r6 r7 r8 r9 h0 n0 _ T38.heap _
    rw [E38]
    exact ⟨rfl, N38⟩
def Q0_48 (Z : State) (x0 : Int32) (x1 : Int32) (r2 : Addr) (c3 : ClassId) (r4 : Addr) (r5 : Addr) (r6 : Addr) (r7 : Addr) (r8 : Addr) (r9 : Addr) (h0 : Heap) (n0 : Nat) (v : Option Value) (h : Heap) (L : List Loc) : Prop := v = some (.int (1 : Int32)) ∧ Fr n0 L
set_option maxRecDepth 65536 in
set_option maxHeartbeats 40000000 in
theorem rm0_48 (l : Launch) (Z : State) (a0 : Array Value) (hw : ∀ d ∈ tables_1, d.before a0 Z = true) (ws : List Jvm.Cond) (x0 : Int32) (x1 : Int32) (r2 : Addr) (c3 : ClassId) (r4 : Addr) (r5 : Addr) (r6 : Addr) (r7 : Addr) (r8 : Addr) (r9 : Addr) (h0 : Heap) (n0 : Nat) (O0 : Old Z n0 h0) (f1 : Sta Z Z.heap cs0 "$VALUES" cs1 (.ref r2)) (f2 : Exa Z Z.heap r2 cs1) (f3 : Arv Z Z.heap r2 c3 (.object cs0) (6 : Int32) [(.ref r4), (.ref r5), (.ref r6), (.ref r7), (.ref r8), (.ref r9)] .null) (f4 : Fld Z Z.heap r4 cs0 "code" "I" (.int (1 : Int32))) (hc5 : ¬ ((1 : Int32) = x0)) (f6 : Fld Z Z.heap r5 cs0 "code" "I" (.int (2 : Int32))) (hc7 : ¬ ((2 : Int32) = x0)) (f8 : Fld Z Z.heap r6 cs0 "code" "I" (.int (3 : Int32))) (hc9 : ¬ ((3 : Int32) = x0)) (f10 : Fld Z Z.heap r7 cs0 "code" "I" (.int (4 : Int32))) (hc11 : ¬ ((4 : Int32) = x0)) (f12 : Fld Z Z.heap r8 cs0 "code" "I" (.int (5 : Int32))) (hc13 : ¬ ((5 : Int32) = x0)) (f14 : Fld Z Z.heap r9 cs0 "code" "I" (.int (6 : Int32))) (hc15 : ¬ ((6 : Int32) = x0)) (hc17 : ¬ ((1 : Int32) = (x1 &&& (7 : Int32)))) (hc18 : ¬ ((2 : Int32) = (x1 &&& (7 : Int32)))) (hc19 : ¬ ((3 : Int32) = (x1 &&& (7 : Int32)))) (hc20 : ¬ ((4 : Int32) = (x1 &&& (7 : Int32)))) (hc21 : (5 : Int32) = (x1 &&& (7 : Int32))) (hc22 : ¬ ((6 : Int32) = (x1 &&& (7 : Int32)))) (hc25 : ¬ (x0 = (1 : Int32))) (hc26 : ¬ (x0 = (2 : Int32))) (hc27 : ¬ (x0 = (3 : Int32))) (hc28 : ¬ (x0 = (4 : Int32))) (hc29 : ¬ (x0 = (5 : Int32))) (hc30 : ¬ (x0 = (6 : Int32))) (hc33 : ¬ ((x1 &&& (7 : Int32)) = (1 : Int32))) (hc34 : ¬ ((x1 &&& (7 : Int32)) = (2 : Int32))) (hc35 : ¬ ((x1 &&& (7 : Int32)) = (3 : Int32))) (hc36 : ¬ ((x1 &&& (7 : Int32)) = (4 : Int32))) (hc37 : (x1 &&& (7 : Int32)) = (5 : Int32)) (f38 : Sta Z Z.heap cs0 "TEXT" cs5 (.ref r8)) :
    MetFree l x (head1 (Jvm.Cond.code x code maxLocals ret :: ws) room_1) (fun a U => a = #[(.int x0), (.int x1)] ∧ Z.Warmed39 U.vm ∧ U.heap = h0) (fun _ _ _ _ _ => True) (fun _ U o U' => ∃ v L, o = .returned v ∧ Q0_48 Z x0 x1 r2 c3 r4 r5 r6 r7 r8 r9 h0 n0 v U'.heap L ∧ FrameEnd U o U' L room_1.cells room_1.slots) := by
  refine MetFree.of_bodySF (plainFor_of_name pn_com_example_wiregather_wiregather_wire_FieldTypeOfCodePinLaw) hisR ?_
  intro p e s m args below meth c s₁ Bd hml0 hP hK
  obtain ⟨rfl, hZ, hh⟩ := hP
  have hx := Bd.exec
  have hby := Bd.bytes
  have hml : c.maxLocals = 5 := hml0
  have hown : s.vm.findClass cs4 = some m.cls := findClass_of_methodNamed Bd.named
  have hnm := (name_of_methodNamed Bd.named Bd.method).1
  have X0 : Stand p l e room_1 s m #[(.int x0), (.int x1)] below meth c s₁ [] 0 0 := Stand.of_body Bd
  have e0 : s₁.heap = h0 := by rw [← hh, Bd.state]; rfl
  have N0 := Fr.nil n0
  have pre0 : ∀ t, Steps p.tables e below (s₁.setTop (mkF m 0 #[.val (.int x0), .val (.int x1), .unset, .unset, .unset] [])) t → Steps p.tables e below (s₁.setTop (entryFrame m #[(.int x0), (.int x1)] maxLocals)) t := fun t k => castTop (by first | (simp [entryFrame, mkF, argsToLocals, Value.category, maxLocals]; done) | rfl) k
  obtain ⟨_, _, ⟨T16, L16, k16, n16⟩, -, X16, ⟨Lc16, hQ16, l16, y16, z16⟩, st16⟩ := Jvm.LawKit.callS X0 hx (y := (⟨cs0, "ofCode", cs3⟩ : MethodName)) hown (mvT hZ (ww hw 0 rfl)) (mvT hZ (ww hw 1 rfl)) (mvT hZ (ww hw 2 rfl)) (mvT hZ (ww hw 3 rfl)) (by decide) (backOf (W := 0) (rm1_2 l Z a0 hw [] x0 r2 c3 r4 r5 r6 r7 r8 r9 h0 n0 O0 f1 f2 f3 f4 hc5 f6 hc7 f8 hc9 f10 hc11 f12 hc13 f14 hc15) hZ (ww hw 3 rfl) (ww hw 2 rfl) (by decide) (by decide)) (g := (mkF m 6 #[.val (.int x0), .val (.int x1), .val (.int (x1 &&& (7 : Int32))), .unset, .unset] [(.int x0)])) rfl (by rw [hml]; rfl) (argsL := [(.int x0)]) (rest := []) (lenOf pd__I_Lcom_example_wiregather_wiregather_wire_FieldType_ rfl) rfl (by show 2 * 0 + _ ≤ _; exact Nat.le_of_eq rfl) (hb hby at_6) (fun _ _ => ⟨rfl, e0, (by decide : 0 + 1 ≤ _), (by decide : 0 + 6 ≤ _)⟩)
  dsimp only [Pt.U, Pt.locs, Pt.cells, Pt.slots] at X16 l16 y16 z16 st16 hQ16
  subst l16 y16 z16
  obtain ⟨rfl, N16q, K16⟩ := hQ16
  have N16 := Fr.app N0 N16q
  have o23 := Old.keep O0 K16 all0
  obtain ⟨_, _, ⟨T24, L24, k24, n24⟩, -, X24, ⟨Lc24, hQ24, l24, y24, z24⟩, st24⟩ := Jvm.LawKit.callS X16 hx (y := (⟨cs0, "ofCode", cs3⟩ : MethodName)) hown (mvT hZ (ww hw 0 rfl)) (mvT hZ (ww hw 1 rfl)) (mvT hZ (ww hw 2 rfl)) (mvT hZ (ww hw 3 rfl)) (by decide) (backOf (W := 0) (rm1_6 l Z a0 hw [] (x1 &&& (7 : Int32)) r2 c3 r4 r5 r6 r7 r8 r9 T16.heap n0 o23 f1 f2 f3 f4 hc17 f6 hc18 f8 hc19 f10 hc20 f12 hc21 f14 hc22) hZ (ww hw 3 rfl) (ww hw 2 rfl) (by decide) (by decide)) (g := (mkF m 11 #[.val (.int x0), .val (.int x1), .val (.int (x1 &&& (7 : Int32))), .val .null, .unset] [(.int (x1 &&& (7 : Int32)))])) rfl (by rw [hml]; rfl) (argsL := [(.int (x1 &&& (7 : Int32)))]) (rest := []) (lenOf pd__I_Lcom_example_wiregather_wiregather_wire_FieldType_ rfl) rfl (by show 2 * 0 + _ ≤ _; exact Nat.le_of_eq rfl) (hb hby at_11) (fun _ _ => ⟨rfl, rfl, (by decide : 1 + 1 ≤ _), (by decide : 6 + 6 ≤ _)⟩)
  dsimp only [Pt.U, Pt.locs, Pt.cells, Pt.slots] at X24 l24 y24 z24 st24 hQ24
  subst l24 y24 z24
  obtain ⟨rfl, N24q, K24⟩ := hQ24
  have N24 := Fr.app N16 N24q
  have o31 := Old.keep o23 K24 all0
  obtain ⟨_, _, ⟨T32, L32, k32, n32⟩, -, X32, ⟨Lc32, hQ32, l32, y32, z32⟩, st32⟩ := Jvm.LawKit.callS X24 hx (y := (⟨cs4, "expected", cs3⟩ : MethodName)) hown (mvT hZ (ww hw 27 rfl)) (mvT hZ (ww hw 28 rfl)) (mvT hZ (ww hw 29 rfl)) (mvT hZ (ww hw 30 rfl)) (by decide) (backOf (W := 1) (rm3_2 l Z a0 hw [] x0 T24.heap n0 o31 hc25 hc26 hc27 hc28 hc29 hc30) hZ (ww hw 30 rfl) (ww hw 29 rfl) (by decide) (by decide)) (g := (mkF m 18 #[.val (.int x0), .val (.int x1), .val (.int (x1 &&& (7 : Int32))), .val .null, .val (.ref r8)] [(.int x0), .null])) rfl (by rw [hml]; rfl) (argsL := [(.int x0)]) (rest := [.null]) (lenOf pd__I_Lcom_example_wiregather_wiregather_wire_FieldType_ rfl) rfl (by show 2 * 0 + _ ≤ _; exact Nat.le_of_eq rfl) (hb hby at_18) (fun _ _ => ⟨rfl, rfl, (by decide : 2 + 0 ≤ _), (by decide : 12 + 0 ≤ _)⟩)
  dsimp only [Pt.U, Pt.locs, Pt.cells, Pt.slots] at X32 l32 y32 z32 st32 hQ32
  subst l32 y32 z32
  obtain ⟨rfl, N32q, E32⟩ := hQ32
  have N32 := Fr.app N24 N32q
  obtain ⟨_, _, ⟨T39, L39, k39, n39⟩, -, X39, ⟨Lc39, hQ39, l39, y39, z39⟩, st39⟩ := Jvm.LawKit.callS X32 hx (y := (⟨cs4, "expected", cs3⟩ : MethodName)) hown (mvT hZ (ww hw 27 rfl)) (mvT hZ (ww hw 28 rfl)) (mvT hZ (ww hw 29 rfl)) (mvT hZ (ww hw 30 rfl)) (by decide) (backOf (W := 1) (rm3_6 l Z a0 hw [] (x1 &&& (7 : Int32)) r8 T24.heap n0 o31 hc33 hc34 hc35 hc36 hc37 f38) hZ (ww hw 30 rfl) (ww hw 29 rfl) (by decide) (by decide)) (g := (mkF m 27 #[.val (.int x0), .val (.int x1), .val (.int (x1 &&& (7 : Int32))), .val .null, .val (.ref r8)] [(.int (x1 &&& (7 : Int32))), (.ref r8)])) rfl (by rw [hml]; rfl) (argsL := [(.int (x1 &&& (7 : Int32)))]) (rest := [(.ref r8)]) (lenOf pd__I_Lcom_example_wiregather_wiregather_wire_FieldType_ rfl) rfl (by show 2 * 0 + _ ≤ _; exact Nat.le_of_eq rfl) (hb hby at_27) (fun _ _ => ⟨rfl, E32, (by decide : 2 + 0 ≤ _), (by decide : 12 + 0 ≤ _)⟩)
  dsimp only [Pt.U, Pt.locs, Pt.cells, Pt.slots] at X39 l39 y39 z39 st39 hQ39
  subst l39 y39 z39
  obtain ⟨rfl, N39q, E39⟩ := hQ39
  have N39 := Fr.app N32 N39q
  obtain ⟨fs, hr, hrun, hended, hW, hsame⟩ := X39.leave (v := some (.int (1 : Int32))) (fun h => by rw [Bd.returns] at h; cases h)
  refine ⟨_, _, pre0 _ ?_, hrun, hended, _, _, rfl, ?_, ⟨_, rfl⟩, hW, hsame.mono (by decide) (by decide)⟩
  · show Steps p.tables e below (s₁.setTop (mkF m 0 #[.val (.int x0), .val (.int x1), .unset, .unset, .unset] [])) _
    refine XS.iloadN X0.here hx rfl (hb hby at_0) rfl ?_
    refine XS.bipush X0.here hx rfl (hb hby at_1) ?_
    refine XS.iand X0.here hx rfl (hb hby at_3) rfl ?_
    refine XS.istoreN X0.here hx rfl (hb hby at_4) rfl (l' := #[.val (.int x0), .val (.int x1), .val (.int (x1 &&& (7 : Int32))), .unset, .unset]) rfl ?_
    show Steps p.tables e below (s₁.setTop (mkF m 5 #[.val (.int x0), .val (.int x1), .val (.int (x1 &&& (7 : Int32))), .unset, .unset] [])) _
    refine XS.iloadN X0.here hx rfl (hb hby at_5) rfl ?_
    refine st16 _ ?_
    show Steps p.tables e below (T16.setTop (mkF m 9 #[.val (.int x0), .val (.int x1), .val (.int (x1 &&& (7 : Int32))), .unset, .unset] [.null])) _
    refine XS.astoreN X16.here hx rfl (hb hby at_9) rfl rfl (l' := #[.val (.int x0), .val (.int x1), .val (.int (x1 &&& (7 : Int32))), .val .null, .unset]) rfl ?_
    refine XS.iloadN X16.here hx rfl (hb hby at_10) rfl ?_
    refine st24 _ ?_
    show Steps p.tables e below (T24.setTop (mkF m 14 #[.val (.int x0), .val (.int x1), .val (.int (x1 &&& (7 : Int32))), .val .null, .unset] [(.ref r8)])) _
    refine XS.astore X24.here hx rfl (hb hby at_14) rfl rfl (l' := #[.val (.int x0), .val (.int x1), .val (.int (x1 &&& (7 : Int32))), .val .null, .val (.ref r8)]) rfl ?_
    refine XS.aloadN X24.here hx rfl (hb hby at_16) rfl rfl ?_
    refine XS.iloadN X24.here hx rfl (hb hby at_17) rfl ?_
    refine st32 _ ?_
    show Steps p.tables e below (T32.setTop (mkF m 21 #[.val (.int x0), .val (.int x1), .val (.int (x1 &&& (7 : Int32))), .val .null, .val (.ref r8)] [.null, .null])) _
    refine Jvm.RoadKit.acmp (g := (mkF m 21 #[.val (.int x0), .val (.int x1), .val (.int (x1 &&& (7 : Int32))), .val .null, .val (.ref r8)] [.null, .null])) X32 hx rfl rfl rfl (pc0 := 21) (pc' := 24) (same := true) rfl (hb hby at_21) rfl (decide_eq_true rfl) (by decide) (by decide) ?_
    show Steps p.tables e below (T32.setTop (mkF m 24 #[.val (.int x0), .val (.int x1), .val (.int (x1 &&& (7 : Int32))), .val .null, .val (.ref r8)] [])) _
    refine XS.aload X32.here hx rfl (hb hby at_24) rfl rfl ?_
    refine XS.iloadN X32.here hx rfl (hb hby at_26) rfl ?_
    refine st39 _ ?_
    show Steps p.tables e below (T39.setTop (mkF m 30 #[.val (.int x0), .val (.int x1), .val (.int (x1 &&& (7 : Int32))), .val .null, .val (.ref r8)] [(.ref r8), (.ref r8)])) _
    refine Jvm.RoadKit.acmp (g := (mkF m 30 #[.val (.int x0), .val (.int x1), .val (.int (x1 &&& (7 : Int32))), .val .null, .val (.ref r8)] [(.ref r8), (.ref r8)])) X39 hx rfl rfl rfl (pc0 := 30) (pc' := 33) (same := true) rfl (hb hby at_30) rfl (decide_eq_true rfl) (by decide) (by decide) ?_
    show Steps p.tables e below (T39.setTop (mkF m 33 #[.val (.int x0), .val (.int x1), .val (.int (x1 &&& (7 : Int32))), .val .null, .val (.ref r8)] [])) _
    refine XS.iconst X39.here hx rfl (hb hby at_33) ?_
    refine XS.goto X39.here hx rfl (pc0 := 34) (pc' := 38) rfl (hb hby at_34) (by decide) (by decide) ?_
    show Steps p.tables e below (T39.setTop (mkF m 38 #[.val (.int x0), .val (.int x1), .val (.int (x1 &&& (7 : Int32))), .val .null, .val (.ref r8)] [(.int (1 : Int32))])) _
    exact retN X39 hx (t := .boolean) Bd.returns (by simp) (hb hby at_38) hr
  · show Q0_48 Z x0 x1 r2 c3 r4 r5 r6 r7 r8 r9 h0 n0 _ T39.heap _
    rw [E39]
    exact ⟨rfl, N39⟩
def Q0_49 (Z : State) (x0 : Int32) (x1 : Int32) (r2 : Addr) (c3 : ClassId) (r4 : Addr) (r5 : Addr) (r6 : Addr) (r7 : Addr) (r8 : Addr) (r9 : Addr) (h0 : Heap) (n0 : Nat) (v : Option Value) (h : Heap) (L : List Loc) : Prop := v = some (.int (1 : Int32)) ∧ Fr n0 L
set_option maxRecDepth 65536 in
set_option maxHeartbeats 40000000 in
theorem rm0_49 (l : Launch) (Z : State) (a0 : Array Value) (hw : ∀ d ∈ tables_1, d.before a0 Z = true) (ws : List Jvm.Cond) (x0 : Int32) (x1 : Int32) (r2 : Addr) (c3 : ClassId) (r4 : Addr) (r5 : Addr) (r6 : Addr) (r7 : Addr) (r8 : Addr) (r9 : Addr) (h0 : Heap) (n0 : Nat) (O0 : Old Z n0 h0) (f1 : Sta Z Z.heap cs0 "$VALUES" cs1 (.ref r2)) (f2 : Exa Z Z.heap r2 cs1) (f3 : Arv Z Z.heap r2 c3 (.object cs0) (6 : Int32) [(.ref r4), (.ref r5), (.ref r6), (.ref r7), (.ref r8), (.ref r9)] .null) (f4 : Fld Z Z.heap r4 cs0 "code" "I" (.int (1 : Int32))) (hc5 : ¬ ((1 : Int32) = x0)) (f6 : Fld Z Z.heap r5 cs0 "code" "I" (.int (2 : Int32))) (hc7 : ¬ ((2 : Int32) = x0)) (f8 : Fld Z Z.heap r6 cs0 "code" "I" (.int (3 : Int32))) (hc9 : ¬ ((3 : Int32) = x0)) (f10 : Fld Z Z.heap r7 cs0 "code" "I" (.int (4 : Int32))) (hc11 : ¬ ((4 : Int32) = x0)) (f12 : Fld Z Z.heap r8 cs0 "code" "I" (.int (5 : Int32))) (hc13 : ¬ ((5 : Int32) = x0)) (f14 : Fld Z Z.heap r9 cs0 "code" "I" (.int (6 : Int32))) (hc15 : ¬ ((6 : Int32) = x0)) (hc17 : ¬ ((1 : Int32) = (x1 &&& (7 : Int32)))) (hc18 : ¬ ((2 : Int32) = (x1 &&& (7 : Int32)))) (hc19 : ¬ ((3 : Int32) = (x1 &&& (7 : Int32)))) (hc20 : ¬ ((4 : Int32) = (x1 &&& (7 : Int32)))) (hc21 : ¬ ((5 : Int32) = (x1 &&& (7 : Int32)))) (hc22 : (6 : Int32) = (x1 &&& (7 : Int32))) (hc25 : ¬ (x0 = (1 : Int32))) (hc26 : ¬ (x0 = (2 : Int32))) (hc27 : ¬ (x0 = (3 : Int32))) (hc28 : ¬ (x0 = (4 : Int32))) (hc29 : ¬ (x0 = (5 : Int32))) (hc30 : ¬ (x0 = (6 : Int32))) (hc33 : ¬ ((x1 &&& (7 : Int32)) = (1 : Int32))) (hc34 : ¬ ((x1 &&& (7 : Int32)) = (2 : Int32))) (hc35 : ¬ ((x1 &&& (7 : Int32)) = (3 : Int32))) (hc36 : ¬ ((x1 &&& (7 : Int32)) = (4 : Int32))) (hc37 : ¬ ((x1 &&& (7 : Int32)) = (5 : Int32))) (hc38 : (x1 &&& (7 : Int32)) = (6 : Int32)) (f39 : Sta Z Z.heap cs0 "GUID" cs5 (.ref r9)) :
    MetFree l x (head1 (Jvm.Cond.code x code maxLocals ret :: ws) room_1) (fun a U => a = #[(.int x0), (.int x1)] ∧ Z.Warmed39 U.vm ∧ U.heap = h0) (fun _ _ _ _ _ => True) (fun _ U o U' => ∃ v L, o = .returned v ∧ Q0_49 Z x0 x1 r2 c3 r4 r5 r6 r7 r8 r9 h0 n0 v U'.heap L ∧ FrameEnd U o U' L room_1.cells room_1.slots) := by
  refine MetFree.of_bodySF (plainFor_of_name pn_com_example_wiregather_wiregather_wire_FieldTypeOfCodePinLaw) hisR ?_
  intro p e s m args below meth c s₁ Bd hml0 hP hK
  obtain ⟨rfl, hZ, hh⟩ := hP
  have hx := Bd.exec
  have hby := Bd.bytes
  have hml : c.maxLocals = 5 := hml0
  have hown : s.vm.findClass cs4 = some m.cls := findClass_of_methodNamed Bd.named
  have hnm := (name_of_methodNamed Bd.named Bd.method).1
  have X0 : Stand p l e room_1 s m #[(.int x0), (.int x1)] below meth c s₁ [] 0 0 := Stand.of_body Bd
  have e0 : s₁.heap = h0 := by rw [← hh, Bd.state]; rfl
  have N0 := Fr.nil n0
  have pre0 : ∀ t, Steps p.tables e below (s₁.setTop (mkF m 0 #[.val (.int x0), .val (.int x1), .unset, .unset, .unset] [])) t → Steps p.tables e below (s₁.setTop (entryFrame m #[(.int x0), (.int x1)] maxLocals)) t := fun t k => castTop (by first | (simp [entryFrame, mkF, argsToLocals, Value.category, maxLocals]; done) | rfl) k
  obtain ⟨_, _, ⟨T16, L16, k16, n16⟩, -, X16, ⟨Lc16, hQ16, l16, y16, z16⟩, st16⟩ := Jvm.LawKit.callS X0 hx (y := (⟨cs0, "ofCode", cs3⟩ : MethodName)) hown (mvT hZ (ww hw 0 rfl)) (mvT hZ (ww hw 1 rfl)) (mvT hZ (ww hw 2 rfl)) (mvT hZ (ww hw 3 rfl)) (by decide) (backOf (W := 0) (rm1_2 l Z a0 hw [] x0 r2 c3 r4 r5 r6 r7 r8 r9 h0 n0 O0 f1 f2 f3 f4 hc5 f6 hc7 f8 hc9 f10 hc11 f12 hc13 f14 hc15) hZ (ww hw 3 rfl) (ww hw 2 rfl) (by decide) (by decide)) (g := (mkF m 6 #[.val (.int x0), .val (.int x1), .val (.int (x1 &&& (7 : Int32))), .unset, .unset] [(.int x0)])) rfl (by rw [hml]; rfl) (argsL := [(.int x0)]) (rest := []) (lenOf pd__I_Lcom_example_wiregather_wiregather_wire_FieldType_ rfl) rfl (by show 2 * 0 + _ ≤ _; exact Nat.le_of_eq rfl) (hb hby at_6) (fun _ _ => ⟨rfl, e0, (by decide : 0 + 1 ≤ _), (by decide : 0 + 6 ≤ _)⟩)
  dsimp only [Pt.U, Pt.locs, Pt.cells, Pt.slots] at X16 l16 y16 z16 st16 hQ16
  subst l16 y16 z16
  obtain ⟨rfl, N16q, K16⟩ := hQ16
  have N16 := Fr.app N0 N16q
  have o23 := Old.keep O0 K16 all0
  obtain ⟨_, _, ⟨T24, L24, k24, n24⟩, -, X24, ⟨Lc24, hQ24, l24, y24, z24⟩, st24⟩ := Jvm.LawKit.callS X16 hx (y := (⟨cs0, "ofCode", cs3⟩ : MethodName)) hown (mvT hZ (ww hw 0 rfl)) (mvT hZ (ww hw 1 rfl)) (mvT hZ (ww hw 2 rfl)) (mvT hZ (ww hw 3 rfl)) (by decide) (backOf (W := 0) (rm1_7 l Z a0 hw [] (x1 &&& (7 : Int32)) r2 c3 r4 r5 r6 r7 r8 r9 T16.heap n0 o23 f1 f2 f3 f4 hc17 f6 hc18 f8 hc19 f10 hc20 f12 hc21 f14 hc22) hZ (ww hw 3 rfl) (ww hw 2 rfl) (by decide) (by decide)) (g := (mkF m 11 #[.val (.int x0), .val (.int x1), .val (.int (x1 &&& (7 : Int32))), .val .null, .unset] [(.int (x1 &&& (7 : Int32)))])) rfl (by rw [hml]; rfl) (argsL := [(.int (x1 &&& (7 : Int32)))]) (rest := []) (lenOf pd__I_Lcom_example_wiregather_wiregather_wire_FieldType_ rfl) rfl (by show 2 * 0 + _ ≤ _; exact Nat.le_of_eq rfl) (hb hby at_11) (fun _ _ => ⟨rfl, rfl, (by decide : 1 + 1 ≤ _), (by decide : 6 + 6 ≤ _)⟩)
  dsimp only [Pt.U, Pt.locs, Pt.cells, Pt.slots] at X24 l24 y24 z24 st24 hQ24
  subst l24 y24 z24
  obtain ⟨rfl, N24q, K24⟩ := hQ24
  have N24 := Fr.app N16 N24q
  have o31 := Old.keep o23 K24 all0
  obtain ⟨_, _, ⟨T32, L32, k32, n32⟩, -, X32, ⟨Lc32, hQ32, l32, y32, z32⟩, st32⟩ := Jvm.LawKit.callS X24 hx (y := (⟨cs4, "expected", cs3⟩ : MethodName)) hown (mvT hZ (ww hw 27 rfl)) (mvT hZ (ww hw 28 rfl)) (mvT hZ (ww hw 29 rfl)) (mvT hZ (ww hw 30 rfl)) (by decide) (backOf (W := 1) (rm3_2 l Z a0 hw [] x0 T24.heap n0 o31 hc25 hc26 hc27 hc28 hc29 hc30) hZ (ww hw 30 rfl) (ww hw 29 rfl) (by decide) (by decide)) (g := (mkF m 18 #[.val (.int x0), .val (.int x1), .val (.int (x1 &&& (7 : Int32))), .val .null, .val (.ref r9)] [(.int x0), .null])) rfl (by rw [hml]; rfl) (argsL := [(.int x0)]) (rest := [.null]) (lenOf pd__I_Lcom_example_wiregather_wiregather_wire_FieldType_ rfl) rfl (by show 2 * 0 + _ ≤ _; exact Nat.le_of_eq rfl) (hb hby at_18) (fun _ _ => ⟨rfl, rfl, (by decide : 2 + 0 ≤ _), (by decide : 12 + 0 ≤ _)⟩)
  dsimp only [Pt.U, Pt.locs, Pt.cells, Pt.slots] at X32 l32 y32 z32 st32 hQ32
  subst l32 y32 z32
  obtain ⟨rfl, N32q, E32⟩ := hQ32
  have N32 := Fr.app N24 N32q
  obtain ⟨_, _, ⟨T40, L40, k40, n40⟩, -, X40, ⟨Lc40, hQ40, l40, y40, z40⟩, st40⟩ := Jvm.LawKit.callS X32 hx (y := (⟨cs4, "expected", cs3⟩ : MethodName)) hown (mvT hZ (ww hw 27 rfl)) (mvT hZ (ww hw 28 rfl)) (mvT hZ (ww hw 29 rfl)) (mvT hZ (ww hw 30 rfl)) (by decide) (backOf (W := 1) (rm3_7 l Z a0 hw [] (x1 &&& (7 : Int32)) r9 T24.heap n0 o31 hc33 hc34 hc35 hc36 hc37 hc38 f39) hZ (ww hw 30 rfl) (ww hw 29 rfl) (by decide) (by decide)) (g := (mkF m 27 #[.val (.int x0), .val (.int x1), .val (.int (x1 &&& (7 : Int32))), .val .null, .val (.ref r9)] [(.int (x1 &&& (7 : Int32))), (.ref r9)])) rfl (by rw [hml]; rfl) (argsL := [(.int (x1 &&& (7 : Int32)))]) (rest := [(.ref r9)]) (lenOf pd__I_Lcom_example_wiregather_wiregather_wire_FieldType_ rfl) rfl (by show 2 * 0 + _ ≤ _; exact Nat.le_of_eq rfl) (hb hby at_27) (fun _ _ => ⟨rfl, E32, (by decide : 2 + 0 ≤ _), (by decide : 12 + 0 ≤ _)⟩)
  dsimp only [Pt.U, Pt.locs, Pt.cells, Pt.slots] at X40 l40 y40 z40 st40 hQ40
  subst l40 y40 z40
  obtain ⟨rfl, N40q, E40⟩ := hQ40
  have N40 := Fr.app N32 N40q
  obtain ⟨fs, hr, hrun, hended, hW, hsame⟩ := X40.leave (v := some (.int (1 : Int32))) (fun h => by rw [Bd.returns] at h; cases h)
  refine ⟨_, _, pre0 _ ?_, hrun, hended, _, _, rfl, ?_, ⟨_, rfl⟩, hW, hsame.mono (by decide) (by decide)⟩
  · show Steps p.tables e below (s₁.setTop (mkF m 0 #[.val (.int x0), .val (.int x1), .unset, .unset, .unset] [])) _
    refine XS.iloadN X0.here hx rfl (hb hby at_0) rfl ?_
    refine XS.bipush X0.here hx rfl (hb hby at_1) ?_
    refine XS.iand X0.here hx rfl (hb hby at_3) rfl ?_
    refine XS.istoreN X0.here hx rfl (hb hby at_4) rfl (l' := #[.val (.int x0), .val (.int x1), .val (.int (x1 &&& (7 : Int32))), .unset, .unset]) rfl ?_
    show Steps p.tables e below (s₁.setTop (mkF m 5 #[.val (.int x0), .val (.int x1), .val (.int (x1 &&& (7 : Int32))), .unset, .unset] [])) _
    refine XS.iloadN X0.here hx rfl (hb hby at_5) rfl ?_
    refine st16 _ ?_
    show Steps p.tables e below (T16.setTop (mkF m 9 #[.val (.int x0), .val (.int x1), .val (.int (x1 &&& (7 : Int32))), .unset, .unset] [.null])) _
    refine XS.astoreN X16.here hx rfl (hb hby at_9) rfl rfl (l' := #[.val (.int x0), .val (.int x1), .val (.int (x1 &&& (7 : Int32))), .val .null, .unset]) rfl ?_
    refine XS.iloadN X16.here hx rfl (hb hby at_10) rfl ?_
    refine st24 _ ?_
    show Steps p.tables e below (T24.setTop (mkF m 14 #[.val (.int x0), .val (.int x1), .val (.int (x1 &&& (7 : Int32))), .val .null, .unset] [(.ref r9)])) _
    refine XS.astore X24.here hx rfl (hb hby at_14) rfl rfl (l' := #[.val (.int x0), .val (.int x1), .val (.int (x1 &&& (7 : Int32))), .val .null, .val (.ref r9)]) rfl ?_
    refine XS.aloadN X24.here hx rfl (hb hby at_16) rfl rfl ?_
    refine XS.iloadN X24.here hx rfl (hb hby at_17) rfl ?_
    refine st32 _ ?_
    show Steps p.tables e below (T32.setTop (mkF m 21 #[.val (.int x0), .val (.int x1), .val (.int (x1 &&& (7 : Int32))), .val .null, .val (.ref r9)] [.null, .null])) _
    refine Jvm.RoadKit.acmp (g := (mkF m 21 #[.val (.int x0), .val (.int x1), .val (.int (x1 &&& (7 : Int32))), .val .null, .val (.ref r9)] [.null, .null])) X32 hx rfl rfl rfl (pc0 := 21) (pc' := 24) (same := true) rfl (hb hby at_21) rfl (decide_eq_true rfl) (by decide) (by decide) ?_
    show Steps p.tables e below (T32.setTop (mkF m 24 #[.val (.int x0), .val (.int x1), .val (.int (x1 &&& (7 : Int32))), .val .null, .val (.ref r9)] [])) _
    refine XS.aload X32.here hx rfl (hb hby at_24) rfl rfl ?_
    refine XS.iloadN X32.here hx rfl (hb hby at_26) rfl ?_
    refine st40 _ ?_
    show Steps p.tables e below (T40.setTop (mkF m 30 #[.val (.int x0), .val (.int x1), .val (.int (x1 &&& (7 : Int32))), .val .null, .val (.ref r9)] [(.ref r9), (.ref r9)])) _
    refine Jvm.RoadKit.acmp (g := (mkF m 30 #[.val (.int x0), .val (.int x1), .val (.int (x1 &&& (7 : Int32))), .val .null, .val (.ref r9)] [(.ref r9), (.ref r9)])) X40 hx rfl rfl rfl (pc0 := 30) (pc' := 33) (same := true) rfl (hb hby at_30) rfl (decide_eq_true rfl) (by decide) (by decide) ?_
    show Steps p.tables e below (T40.setTop (mkF m 33 #[.val (.int x0), .val (.int x1), .val (.int (x1 &&& (7 : Int32))), .val .null, .val (.ref r9)] [])) _
    refine XS.iconst X40.here hx rfl (hb hby at_33) ?_
    refine XS.goto X40.here hx rfl (pc0 := 34) (pc' := 38) rfl (hb hby at_34) (by decide) (by decide) ?_
    show Steps p.tables e below (T40.setTop (mkF m 38 #[.val (.int x0), .val (.int x1), .val (.int (x1 &&& (7 : Int32))), .val .null, .val (.ref r9)] [(.int (1 : Int32))])) _
    exact retN X40 hx (t := .boolean) Bd.returns (by simp) (hb hby at_38) hr
  · show Q0_49 Z x0 x1 r2 c3 r4 r5 r6 r7 r8 r9 h0 n0 _ T40.heap _
    rw [E40]
    exact ⟨rfl, N40⟩
set_option maxRecDepth 65536 in
set_option maxHeartbeats 40000000 in
theorem comes_1 {Post : Tables → Env → Array Value → State → Outcome → State → Prop} (hpost : ∀ tb e args s v u, (limb_1_1.after args s (.returned v) u = true ∧ limb_1_2.after args s (.returned v) u = true ∧ True) → FrameEnd s (.returned v) u (Jvm.fieldLocs frame_1_writes args s ++ Jvm.arrayLocs frame_1_arrays args s ++ Jvm.staticLocs frame_1_statics s) 16 128 → Post tb e args s (.returned v) u) :
    ArmFor flags0 classFile x code maxLocals ret World_1 tables_1 room_1 Calls_1 rest_1 Pre_1 Post := by
  intro l hfl _ _ p e ha hc hk s m args below hf hA hF happ hP
  obtain ⟨hcalls, hrest, hpre⟩ := hP
  obtain ⟨-, -, -, hnamed, -, -, -, hat⟩ := (Spec.applies_iff hf).mp happ
  obtain ⟨hg, hn⟩ := and_e (Cond.before_iff.mp (show (Jvm.Cond.and given_1 narrow_1).before args s = true from hpre))
  obtain ⟨g0, hg⟩ := and_e hg
  obtain ⟨ga0, hg⟩ := and_e hg
  obtain ⟨w0, w1, rfl⟩ : ∃ w0 w1 : Value, args = #[w0, w1] := by
    have hs : args.size = 2 := by simpa [Cond.value, given_1] using g0
    obtain ⟨L⟩ := args
    match L, hs with
    | [w0, w1], _ => exact ⟨w0, w1, rfl⟩
  have hw := fun d (hd : d ∈ tables_1) => atoms_spec (ws := Jvm.Cond.code x code maxLocals ret :: tables_1) hat d (List.mem_cons_of_mem _ hd)
  have hfit : Fit s := fun {y c} hc i hi => by
    obtain ⟨ha, rfl⟩ := Array.getElem?_eq_some_iff.mp hc
    have q := List.all_eq_true.mp ((Array.all_eq_true_iff_forall_mem.mp hF) _ (Array.getElem_mem ha)) i (List.mem_range.mpr hi)
    simpa [Array.getElem?_eq_getElem hi] using q
  obtain ⟨i0, ei0⟩ := is_v ga0
  obtain rfl : w0 = (.int i0) := Option.some.inj ei0
  obtain ⟨i1, ei1⟩ := is_v hg
  obtain rfl : w1 = (.int i1) := Option.some.inj ei1
  suffices hM : MetFree l x (head1 (Jvm.Cond.code x code maxLocals ret :: tables_1) room_1) (fun a U => a = #[(.int i0), (.int i1)] ∧ s.Warmed39 U.vm ∧ U.heap = s.heap) (fun _ _ _ _ _ => True) (fun _ U o U' => ∃ v L, o = .returned v ∧ (v = some (.int (1 : Int32)) ∧ Fr s.heap.size L) ∧ FrameEnd U o U' L room_1.cells room_1.slots) by
    obtain ⟨n, o, h1, h2, h3, _, L, rfl, ⟨rfl, N⟩, hq⟩ := hM p e ha hc hk s m _ below hf ((Spec.applies_iff_loose hf).mp happ).1 ⟨rfl, State.Warmed39.refl s, rfl⟩ trivial
    refine ⟨n, _, h1, h2, h3, hpost _ _ _ _ _ _ ⟨Cond.after_iff.mpr rfl, Cond.after_iff.mpr (eq_i res_at (Term.int_eval (1)) rfl), trivial⟩ ⟨hq.1, hq.2.1, (hq.2.2.sift fun y hy => Or.inr (N y hy)).mono (by decide) (by decide)⟩⟩
  obtain ⟨hAr, hn⟩ := and_e hn
  obtain ⟨hEx, hn⟩ := and_e hn
  obtain ⟨hLen, hn⟩ := and_e hn
  obtain ⟨hxI32, hn⟩ := and_e hn
  obtain ⟨helI32, hn⟩ := and_e hn
  obtain ⟨hxU32, hn⟩ := and_e hn
  obtain ⟨helU32, hn⟩ := and_e hn
  obtain ⟨hxF32, hn⟩ := and_e hn
  obtain ⟨helF32, hn⟩ := and_e hn
  obtain ⟨hxF64, hn⟩ := and_e hn
  obtain ⟨helF64, hn⟩ := and_e hn
  obtain ⟨hxTEXT, hn⟩ := and_e hn
  obtain ⟨helTEXT, hn⟩ := and_e hn
  obtain ⟨hxGUID, hn⟩ := and_e hn
  obtain ⟨helGUID, hn⟩ := and_e hn
  obtain ⟨hcI32, hn⟩ := and_e hn
  obtain ⟨hcU32, hn⟩ := and_e hn
  obtain ⟨hcF32, hn⟩ := and_e hn
  obtain ⟨hcF64, hn⟩ := and_e hn
  obtain ⟨hcTEXT, hn⟩ := and_e hn
  have hcGUID := hn
  obtain ⟨rV, eV⟩ := exa_v hEx
  have SV := Sta.start eV (Or.inl (ww hw 22 rfl))
  have EV := Exa.start eV hEx
  obtain ⟨cV, AV⟩ := Arr.start eV hAr
  obtain ⟨rI32, eI32⟩ := exa_v hxI32
  have SI32 := Sta.start eI32 (Or.inr ⟨(ww hw 2 rfl), (ww hw 16 rfl)⟩)
  have EI32 := Exa.start eI32 hxI32
  have FI32 := Fld.start ((fld_at eI32).symm.trans (eqv_i (y := 1) rfl hcI32))
  have LI32 := (elem_in (own_eqr eI32 helI32) eV (Term.int_eval (0)) AV.1).2
  obtain ⟨rU32, eU32⟩ := exa_v hxU32
  have SU32 := Sta.start eU32 (Or.inr ⟨(ww hw 2 rfl), (ww hw 17 rfl)⟩)
  have EU32 := Exa.start eU32 hxU32
  have FU32 := Fld.start ((fld_at eU32).symm.trans (eqv_i (y := 2) rfl hcU32))
  have LU32 := (elem_in (own_eqr eU32 helU32) eV (Term.int_eval (1)) AV.1).2
  obtain ⟨rF32, eF32⟩ := exa_v hxF32
  have SF32 := Sta.start eF32 (Or.inr ⟨(ww hw 2 rfl), (ww hw 18 rfl)⟩)
  have EF32 := Exa.start eF32 hxF32
  have FF32 := Fld.start ((fld_at eF32).symm.trans (eqv_i (y := 3) rfl hcF32))
  have LF32 := (elem_in (own_eqr eF32 helF32) eV (Term.int_eval (2)) AV.1).2
  obtain ⟨rF64, eF64⟩ := exa_v hxF64
  have SF64 := Sta.start eF64 (Or.inr ⟨(ww hw 2 rfl), (ww hw 19 rfl)⟩)
  have EF64 := Exa.start eF64 hxF64
  have FF64 := Fld.start ((fld_at eF64).symm.trans (eqv_i (y := 4) rfl hcF64))
  have LF64 := (elem_in (own_eqr eF64 helF64) eV (Term.int_eval (3)) AV.1).2
  obtain ⟨rTEXT, eTEXT⟩ := exa_v hxTEXT
  have STEXT := Sta.start eTEXT (Or.inr ⟨(ww hw 2 rfl), (ww hw 20 rfl)⟩)
  have ETEXT := Exa.start eTEXT hxTEXT
  have FTEXT := Fld.start ((fld_at eTEXT).symm.trans (eqv_i (y := 5) rfl hcTEXT))
  have LTEXT := (elem_in (own_eqr eTEXT helTEXT) eV (Term.int_eval (4)) AV.1).2
  obtain ⟨rGUID, eGUID⟩ := exa_v hxGUID
  have SGUID := Sta.start eGUID (Or.inr ⟨(ww hw 2 rfl), (ww hw 21 rfl)⟩)
  have EGUID := Exa.start eGUID hxGUID
  have FGUID := Fld.start ((fld_at eGUID).symm.trans (eqv_i (y := 6) rfl hcGUID))
  have LGUID := (elem_in (own_eqr eGUID helGUID) eV (Term.int_eval (5)) AV.1).2
  have hlt := own_len hLen eV AV
  have VV : Arv s s.heap rV cV.cls (.object cs0) (6 : Int32) [(.ref rI32), (.ref rU32), (.ref rF32), (.ref rF64), (.ref rTEXT), (.ref rGUID)] .null := Arv.start hfit AV hlt.1 hlt.2 (by decide) rfl ⟨LI32, LU32, LF32, LF64, LTEXT, LGUID, trivial⟩
  by_cases ca : i0 = (1 : Int32)
  · subst ca
    by_cases cb : (i1 &&& (7 : Int32)) = (1 : Int32)
    · exact rm0_2 l s _ hw tables_1 (1 : Int32) i1 rV cV.cls rI32 rU32 rF32 rF64 rTEXT rGUID _ _ (Old.start s) SV EV VV FI32 rfl FU32 (by decide) FF32 (by decide) FF64 (by decide) FTEXT (by decide) FGUID (by decide) cb.symm (by rw [cb]; decide) (by rw [cb]; decide) (by rw [cb]; decide) (by rw [cb]; decide) (by rw [cb]; decide) rfl SI32 cb
    have nb1 := cb
    clear cb
    by_cases cb : (i1 &&& (7 : Int32)) = (2 : Int32)
    · exact rm0_3 l s _ hw tables_1 (1 : Int32) i1 rV cV.cls rI32 rU32 rF32 rF64 rTEXT rGUID _ _ (Old.start s) SV EV VV FI32 rfl FU32 (by decide) FF32 (by decide) FF64 (by decide) FTEXT (by decide) FGUID (by decide) (by rw [cb]; decide) cb.symm (by rw [cb]; decide) (by rw [cb]; decide) (by rw [cb]; decide) (by rw [cb]; decide) rfl SI32 (by rw [cb]; decide) cb SU32
    have nb2 := cb
    clear cb
    by_cases cb : (i1 &&& (7 : Int32)) = (3 : Int32)
    · exact rm0_4 l s _ hw tables_1 (1 : Int32) i1 rV cV.cls rI32 rU32 rF32 rF64 rTEXT rGUID _ _ (Old.start s) SV EV VV FI32 rfl FU32 (by decide) FF32 (by decide) FF64 (by decide) FTEXT (by decide) FGUID (by decide) (by rw [cb]; decide) (by rw [cb]; decide) cb.symm (by rw [cb]; decide) (by rw [cb]; decide) (by rw [cb]; decide) rfl SI32 (by rw [cb]; decide) (by rw [cb]; decide) cb SF32
    have nb3 := cb
    clear cb
    by_cases cb : (i1 &&& (7 : Int32)) = (4 : Int32)
    · exact rm0_5 l s _ hw tables_1 (1 : Int32) i1 rV cV.cls rI32 rU32 rF32 rF64 rTEXT rGUID _ _ (Old.start s) SV EV VV FI32 rfl FU32 (by decide) FF32 (by decide) FF64 (by decide) FTEXT (by decide) FGUID (by decide) (by rw [cb]; decide) (by rw [cb]; decide) (by rw [cb]; decide) cb.symm (by rw [cb]; decide) (by rw [cb]; decide) rfl SI32 (by rw [cb]; decide) (by rw [cb]; decide) (by rw [cb]; decide) cb SF64
    have nb4 := cb
    clear cb
    by_cases cb : (i1 &&& (7 : Int32)) = (5 : Int32)
    · exact rm0_6 l s _ hw tables_1 (1 : Int32) i1 rV cV.cls rI32 rU32 rF32 rF64 rTEXT rGUID _ _ (Old.start s) SV EV VV FI32 rfl FU32 (by decide) FF32 (by decide) FF64 (by decide) FTEXT (by decide) FGUID (by decide) (by rw [cb]; decide) (by rw [cb]; decide) (by rw [cb]; decide) (by rw [cb]; decide) cb.symm (by rw [cb]; decide) rfl SI32 (by rw [cb]; decide) (by rw [cb]; decide) (by rw [cb]; decide) (by rw [cb]; decide) cb STEXT
    have nb5 := cb
    clear cb
    by_cases cb : (i1 &&& (7 : Int32)) = (6 : Int32)
    · exact rm0_7 l s _ hw tables_1 (1 : Int32) i1 rV cV.cls rI32 rU32 rF32 rF64 rTEXT rGUID _ _ (Old.start s) SV EV VV FI32 rfl FU32 (by decide) FF32 (by decide) FF64 (by decide) FTEXT (by decide) FGUID (by decide) (by rw [cb]; decide) (by rw [cb]; decide) (by rw [cb]; decide) (by rw [cb]; decide) (by rw [cb]; decide) cb.symm rfl SI32 (by rw [cb]; decide) (by rw [cb]; decide) (by rw [cb]; decide) (by rw [cb]; decide) (by rw [cb]; decide) cb SGUID
    have nb6 := cb
    clear cb
    exact rm0_1 l s _ hw tables_1 (1 : Int32) i1 rV cV.cls rI32 rU32 rF32 rF64 rTEXT rGUID _ _ (Old.start s) SV EV VV FI32 rfl FU32 (by decide) FF32 (by decide) FF64 (by decide) FTEXT (by decide) FGUID (by decide) (fun h => nb1 h.symm) (fun h => nb2 h.symm) (fun h => nb3 h.symm) (fun h => nb4 h.symm) (fun h => nb5 h.symm) (fun h => nb6 h.symm) rfl SI32 (fun h => nb1 h) (fun h => nb2 h) (fun h => nb3 h) (fun h => nb4 h) (fun h => nb5 h) (fun h => nb6 h)
  have na1 := ca
  clear ca
  by_cases ca : i0 = (2 : Int32)
  · subst ca
    by_cases cb : (i1 &&& (7 : Int32)) = (1 : Int32)
    · exact rm0_9 l s _ hw tables_1 (2 : Int32) i1 rV cV.cls rI32 rU32 rF32 rF64 rTEXT rGUID _ _ (Old.start s) SV EV VV FI32 (by decide) FU32 rfl FF32 (by decide) FF64 (by decide) FTEXT (by decide) FGUID (by decide) cb.symm (by rw [cb]; decide) (by rw [cb]; decide) (by rw [cb]; decide) (by rw [cb]; decide) (by rw [cb]; decide) (by decide) rfl SU32 cb SI32
    have nb1 := cb
    clear cb
    by_cases cb : (i1 &&& (7 : Int32)) = (2 : Int32)
    · exact rm0_10 l s _ hw tables_1 (2 : Int32) i1 rV cV.cls rI32 rU32 rF32 rF64 rTEXT rGUID _ _ (Old.start s) SV EV VV FI32 (by decide) FU32 rfl FF32 (by decide) FF64 (by decide) FTEXT (by decide) FGUID (by decide) (by rw [cb]; decide) cb.symm (by rw [cb]; decide) (by rw [cb]; decide) (by rw [cb]; decide) (by rw [cb]; decide) (by decide) rfl SU32 (by rw [cb]; decide) cb
    have nb2 := cb
    clear cb
    by_cases cb : (i1 &&& (7 : Int32)) = (3 : Int32)
    · exact rm0_11 l s _ hw tables_1 (2 : Int32) i1 rV cV.cls rI32 rU32 rF32 rF64 rTEXT rGUID _ _ (Old.start s) SV EV VV FI32 (by decide) FU32 rfl FF32 (by decide) FF64 (by decide) FTEXT (by decide) FGUID (by decide) (by rw [cb]; decide) (by rw [cb]; decide) cb.symm (by rw [cb]; decide) (by rw [cb]; decide) (by rw [cb]; decide) (by decide) rfl SU32 (by rw [cb]; decide) (by rw [cb]; decide) cb SF32
    have nb3 := cb
    clear cb
    by_cases cb : (i1 &&& (7 : Int32)) = (4 : Int32)
    · exact rm0_12 l s _ hw tables_1 (2 : Int32) i1 rV cV.cls rI32 rU32 rF32 rF64 rTEXT rGUID _ _ (Old.start s) SV EV VV FI32 (by decide) FU32 rfl FF32 (by decide) FF64 (by decide) FTEXT (by decide) FGUID (by decide) (by rw [cb]; decide) (by rw [cb]; decide) (by rw [cb]; decide) cb.symm (by rw [cb]; decide) (by rw [cb]; decide) (by decide) rfl SU32 (by rw [cb]; decide) (by rw [cb]; decide) (by rw [cb]; decide) cb SF64
    have nb4 := cb
    clear cb
    by_cases cb : (i1 &&& (7 : Int32)) = (5 : Int32)
    · exact rm0_13 l s _ hw tables_1 (2 : Int32) i1 rV cV.cls rI32 rU32 rF32 rF64 rTEXT rGUID _ _ (Old.start s) SV EV VV FI32 (by decide) FU32 rfl FF32 (by decide) FF64 (by decide) FTEXT (by decide) FGUID (by decide) (by rw [cb]; decide) (by rw [cb]; decide) (by rw [cb]; decide) (by rw [cb]; decide) cb.symm (by rw [cb]; decide) (by decide) rfl SU32 (by rw [cb]; decide) (by rw [cb]; decide) (by rw [cb]; decide) (by rw [cb]; decide) cb STEXT
    have nb5 := cb
    clear cb
    by_cases cb : (i1 &&& (7 : Int32)) = (6 : Int32)
    · exact rm0_14 l s _ hw tables_1 (2 : Int32) i1 rV cV.cls rI32 rU32 rF32 rF64 rTEXT rGUID _ _ (Old.start s) SV EV VV FI32 (by decide) FU32 rfl FF32 (by decide) FF64 (by decide) FTEXT (by decide) FGUID (by decide) (by rw [cb]; decide) (by rw [cb]; decide) (by rw [cb]; decide) (by rw [cb]; decide) (by rw [cb]; decide) cb.symm (by decide) rfl SU32 (by rw [cb]; decide) (by rw [cb]; decide) (by rw [cb]; decide) (by rw [cb]; decide) (by rw [cb]; decide) cb SGUID
    have nb6 := cb
    clear cb
    exact rm0_8 l s _ hw tables_1 (2 : Int32) i1 rV cV.cls rI32 rU32 rF32 rF64 rTEXT rGUID _ _ (Old.start s) SV EV VV FI32 (by decide) FU32 rfl FF32 (by decide) FF64 (by decide) FTEXT (by decide) FGUID (by decide) (fun h => nb1 h.symm) (fun h => nb2 h.symm) (fun h => nb3 h.symm) (fun h => nb4 h.symm) (fun h => nb5 h.symm) (fun h => nb6 h.symm) (by decide) rfl SU32 (fun h => nb1 h) (fun h => nb2 h) (fun h => nb3 h) (fun h => nb4 h) (fun h => nb5 h) (fun h => nb6 h)
  have na2 := ca
  clear ca
  by_cases ca : i0 = (3 : Int32)
  · subst ca
    by_cases cb : (i1 &&& (7 : Int32)) = (1 : Int32)
    · exact rm0_16 l s _ hw tables_1 (3 : Int32) i1 rV cV.cls rI32 rU32 rF32 rF64 rTEXT rGUID _ _ (Old.start s) SV EV VV FI32 (by decide) FU32 (by decide) FF32 rfl FF64 (by decide) FTEXT (by decide) FGUID (by decide) cb.symm (by rw [cb]; decide) (by rw [cb]; decide) (by rw [cb]; decide) (by rw [cb]; decide) (by rw [cb]; decide) (by decide) (by decide) rfl SF32 cb SI32
    have nb1 := cb
    clear cb
    by_cases cb : (i1 &&& (7 : Int32)) = (2 : Int32)
    · exact rm0_17 l s _ hw tables_1 (3 : Int32) i1 rV cV.cls rI32 rU32 rF32 rF64 rTEXT rGUID _ _ (Old.start s) SV EV VV FI32 (by decide) FU32 (by decide) FF32 rfl FF64 (by decide) FTEXT (by decide) FGUID (by decide) (by rw [cb]; decide) cb.symm (by rw [cb]; decide) (by rw [cb]; decide) (by rw [cb]; decide) (by rw [cb]; decide) (by decide) (by decide) rfl SF32 (by rw [cb]; decide) cb SU32
    have nb2 := cb
    clear cb
    by_cases cb : (i1 &&& (7 : Int32)) = (3 : Int32)
    · exact rm0_18 l s _ hw tables_1 (3 : Int32) i1 rV cV.cls rI32 rU32 rF32 rF64 rTEXT rGUID _ _ (Old.start s) SV EV VV FI32 (by decide) FU32 (by decide) FF32 rfl FF64 (by decide) FTEXT (by decide) FGUID (by decide) (by rw [cb]; decide) (by rw [cb]; decide) cb.symm (by rw [cb]; decide) (by rw [cb]; decide) (by rw [cb]; decide) (by decide) (by decide) rfl SF32 (by rw [cb]; decide) (by rw [cb]; decide) cb
    have nb3 := cb
    clear cb
    by_cases cb : (i1 &&& (7 : Int32)) = (4 : Int32)
    · exact rm0_19 l s _ hw tables_1 (3 : Int32) i1 rV cV.cls rI32 rU32 rF32 rF64 rTEXT rGUID _ _ (Old.start s) SV EV VV FI32 (by decide) FU32 (by decide) FF32 rfl FF64 (by decide) FTEXT (by decide) FGUID (by decide) (by rw [cb]; decide) (by rw [cb]; decide) (by rw [cb]; decide) cb.symm (by rw [cb]; decide) (by rw [cb]; decide) (by decide) (by decide) rfl SF32 (by rw [cb]; decide) (by rw [cb]; decide) (by rw [cb]; decide) cb SF64
    have nb4 := cb
    clear cb
    by_cases cb : (i1 &&& (7 : Int32)) = (5 : Int32)
    · exact rm0_20 l s _ hw tables_1 (3 : Int32) i1 rV cV.cls rI32 rU32 rF32 rF64 rTEXT rGUID _ _ (Old.start s) SV EV VV FI32 (by decide) FU32 (by decide) FF32 rfl FF64 (by decide) FTEXT (by decide) FGUID (by decide) (by rw [cb]; decide) (by rw [cb]; decide) (by rw [cb]; decide) (by rw [cb]; decide) cb.symm (by rw [cb]; decide) (by decide) (by decide) rfl SF32 (by rw [cb]; decide) (by rw [cb]; decide) (by rw [cb]; decide) (by rw [cb]; decide) cb STEXT
    have nb5 := cb
    clear cb
    by_cases cb : (i1 &&& (7 : Int32)) = (6 : Int32)
    · exact rm0_21 l s _ hw tables_1 (3 : Int32) i1 rV cV.cls rI32 rU32 rF32 rF64 rTEXT rGUID _ _ (Old.start s) SV EV VV FI32 (by decide) FU32 (by decide) FF32 rfl FF64 (by decide) FTEXT (by decide) FGUID (by decide) (by rw [cb]; decide) (by rw [cb]; decide) (by rw [cb]; decide) (by rw [cb]; decide) (by rw [cb]; decide) cb.symm (by decide) (by decide) rfl SF32 (by rw [cb]; decide) (by rw [cb]; decide) (by rw [cb]; decide) (by rw [cb]; decide) (by rw [cb]; decide) cb SGUID
    have nb6 := cb
    clear cb
    exact rm0_15 l s _ hw tables_1 (3 : Int32) i1 rV cV.cls rI32 rU32 rF32 rF64 rTEXT rGUID _ _ (Old.start s) SV EV VV FI32 (by decide) FU32 (by decide) FF32 rfl FF64 (by decide) FTEXT (by decide) FGUID (by decide) (fun h => nb1 h.symm) (fun h => nb2 h.symm) (fun h => nb3 h.symm) (fun h => nb4 h.symm) (fun h => nb5 h.symm) (fun h => nb6 h.symm) (by decide) (by decide) rfl SF32 (fun h => nb1 h) (fun h => nb2 h) (fun h => nb3 h) (fun h => nb4 h) (fun h => nb5 h) (fun h => nb6 h)
  have na3 := ca
  clear ca
  by_cases ca : i0 = (4 : Int32)
  · subst ca
    by_cases cb : (i1 &&& (7 : Int32)) = (1 : Int32)
    · exact rm0_23 l s _ hw tables_1 (4 : Int32) i1 rV cV.cls rI32 rU32 rF32 rF64 rTEXT rGUID _ _ (Old.start s) SV EV VV FI32 (by decide) FU32 (by decide) FF32 (by decide) FF64 rfl FTEXT (by decide) FGUID (by decide) cb.symm (by rw [cb]; decide) (by rw [cb]; decide) (by rw [cb]; decide) (by rw [cb]; decide) (by rw [cb]; decide) (by decide) (by decide) (by decide) rfl SF64 cb SI32
    have nb1 := cb
    clear cb
    by_cases cb : (i1 &&& (7 : Int32)) = (2 : Int32)
    · exact rm0_24 l s _ hw tables_1 (4 : Int32) i1 rV cV.cls rI32 rU32 rF32 rF64 rTEXT rGUID _ _ (Old.start s) SV EV VV FI32 (by decide) FU32 (by decide) FF32 (by decide) FF64 rfl FTEXT (by decide) FGUID (by decide) (by rw [cb]; decide) cb.symm (by rw [cb]; decide) (by rw [cb]; decide) (by rw [cb]; decide) (by rw [cb]; decide) (by decide) (by decide) (by decide) rfl SF64 (by rw [cb]; decide) cb SU32
    have nb2 := cb
    clear cb
    by_cases cb : (i1 &&& (7 : Int32)) = (3 : Int32)
    · exact rm0_25 l s _ hw tables_1 (4 : Int32) i1 rV cV.cls rI32 rU32 rF32 rF64 rTEXT rGUID _ _ (Old.start s) SV EV VV FI32 (by decide) FU32 (by decide) FF32 (by decide) FF64 rfl FTEXT (by decide) FGUID (by decide) (by rw [cb]; decide) (by rw [cb]; decide) cb.symm (by rw [cb]; decide) (by rw [cb]; decide) (by rw [cb]; decide) (by decide) (by decide) (by decide) rfl SF64 (by rw [cb]; decide) (by rw [cb]; decide) cb SF32
    have nb3 := cb
    clear cb
    by_cases cb : (i1 &&& (7 : Int32)) = (4 : Int32)
    · exact rm0_26 l s _ hw tables_1 (4 : Int32) i1 rV cV.cls rI32 rU32 rF32 rF64 rTEXT rGUID _ _ (Old.start s) SV EV VV FI32 (by decide) FU32 (by decide) FF32 (by decide) FF64 rfl FTEXT (by decide) FGUID (by decide) (by rw [cb]; decide) (by rw [cb]; decide) (by rw [cb]; decide) cb.symm (by rw [cb]; decide) (by rw [cb]; decide) (by decide) (by decide) (by decide) rfl SF64 (by rw [cb]; decide) (by rw [cb]; decide) (by rw [cb]; decide) cb
    have nb4 := cb
    clear cb
    by_cases cb : (i1 &&& (7 : Int32)) = (5 : Int32)
    · exact rm0_27 l s _ hw tables_1 (4 : Int32) i1 rV cV.cls rI32 rU32 rF32 rF64 rTEXT rGUID _ _ (Old.start s) SV EV VV FI32 (by decide) FU32 (by decide) FF32 (by decide) FF64 rfl FTEXT (by decide) FGUID (by decide) (by rw [cb]; decide) (by rw [cb]; decide) (by rw [cb]; decide) (by rw [cb]; decide) cb.symm (by rw [cb]; decide) (by decide) (by decide) (by decide) rfl SF64 (by rw [cb]; decide) (by rw [cb]; decide) (by rw [cb]; decide) (by rw [cb]; decide) cb STEXT
    have nb5 := cb
    clear cb
    by_cases cb : (i1 &&& (7 : Int32)) = (6 : Int32)
    · exact rm0_28 l s _ hw tables_1 (4 : Int32) i1 rV cV.cls rI32 rU32 rF32 rF64 rTEXT rGUID _ _ (Old.start s) SV EV VV FI32 (by decide) FU32 (by decide) FF32 (by decide) FF64 rfl FTEXT (by decide) FGUID (by decide) (by rw [cb]; decide) (by rw [cb]; decide) (by rw [cb]; decide) (by rw [cb]; decide) (by rw [cb]; decide) cb.symm (by decide) (by decide) (by decide) rfl SF64 (by rw [cb]; decide) (by rw [cb]; decide) (by rw [cb]; decide) (by rw [cb]; decide) (by rw [cb]; decide) cb SGUID
    have nb6 := cb
    clear cb
    exact rm0_22 l s _ hw tables_1 (4 : Int32) i1 rV cV.cls rI32 rU32 rF32 rF64 rTEXT rGUID _ _ (Old.start s) SV EV VV FI32 (by decide) FU32 (by decide) FF32 (by decide) FF64 rfl FTEXT (by decide) FGUID (by decide) (fun h => nb1 h.symm) (fun h => nb2 h.symm) (fun h => nb3 h.symm) (fun h => nb4 h.symm) (fun h => nb5 h.symm) (fun h => nb6 h.symm) (by decide) (by decide) (by decide) rfl SF64 (fun h => nb1 h) (fun h => nb2 h) (fun h => nb3 h) (fun h => nb4 h) (fun h => nb5 h) (fun h => nb6 h)
  have na4 := ca
  clear ca
  by_cases ca : i0 = (5 : Int32)
  · subst ca
    by_cases cb : (i1 &&& (7 : Int32)) = (1 : Int32)
    · exact rm0_30 l s _ hw tables_1 (5 : Int32) i1 rV cV.cls rI32 rU32 rF32 rF64 rTEXT rGUID _ _ (Old.start s) SV EV VV FI32 (by decide) FU32 (by decide) FF32 (by decide) FF64 (by decide) FTEXT rfl FGUID (by decide) cb.symm (by rw [cb]; decide) (by rw [cb]; decide) (by rw [cb]; decide) (by rw [cb]; decide) (by rw [cb]; decide) (by decide) (by decide) (by decide) (by decide) rfl STEXT cb SI32
    have nb1 := cb
    clear cb
    by_cases cb : (i1 &&& (7 : Int32)) = (2 : Int32)
    · exact rm0_31 l s _ hw tables_1 (5 : Int32) i1 rV cV.cls rI32 rU32 rF32 rF64 rTEXT rGUID _ _ (Old.start s) SV EV VV FI32 (by decide) FU32 (by decide) FF32 (by decide) FF64 (by decide) FTEXT rfl FGUID (by decide) (by rw [cb]; decide) cb.symm (by rw [cb]; decide) (by rw [cb]; decide) (by rw [cb]; decide) (by rw [cb]; decide) (by decide) (by decide) (by decide) (by decide) rfl STEXT (by rw [cb]; decide) cb SU32
    have nb2 := cb
    clear cb
    by_cases cb : (i1 &&& (7 : Int32)) = (3 : Int32)
    · exact rm0_32 l s _ hw tables_1 (5 : Int32) i1 rV cV.cls rI32 rU32 rF32 rF64 rTEXT rGUID _ _ (Old.start s) SV EV VV FI32 (by decide) FU32 (by decide) FF32 (by decide) FF64 (by decide) FTEXT rfl FGUID (by decide) (by rw [cb]; decide) (by rw [cb]; decide) cb.symm (by rw [cb]; decide) (by rw [cb]; decide) (by rw [cb]; decide) (by decide) (by decide) (by decide) (by decide) rfl STEXT (by rw [cb]; decide) (by rw [cb]; decide) cb SF32
    have nb3 := cb
    clear cb
    by_cases cb : (i1 &&& (7 : Int32)) = (4 : Int32)
    · exact rm0_33 l s _ hw tables_1 (5 : Int32) i1 rV cV.cls rI32 rU32 rF32 rF64 rTEXT rGUID _ _ (Old.start s) SV EV VV FI32 (by decide) FU32 (by decide) FF32 (by decide) FF64 (by decide) FTEXT rfl FGUID (by decide) (by rw [cb]; decide) (by rw [cb]; decide) (by rw [cb]; decide) cb.symm (by rw [cb]; decide) (by rw [cb]; decide) (by decide) (by decide) (by decide) (by decide) rfl STEXT (by rw [cb]; decide) (by rw [cb]; decide) (by rw [cb]; decide) cb SF64
    have nb4 := cb
    clear cb
    by_cases cb : (i1 &&& (7 : Int32)) = (5 : Int32)
    · exact rm0_34 l s _ hw tables_1 (5 : Int32) i1 rV cV.cls rI32 rU32 rF32 rF64 rTEXT rGUID _ _ (Old.start s) SV EV VV FI32 (by decide) FU32 (by decide) FF32 (by decide) FF64 (by decide) FTEXT rfl FGUID (by decide) (by rw [cb]; decide) (by rw [cb]; decide) (by rw [cb]; decide) (by rw [cb]; decide) cb.symm (by rw [cb]; decide) (by decide) (by decide) (by decide) (by decide) rfl STEXT (by rw [cb]; decide) (by rw [cb]; decide) (by rw [cb]; decide) (by rw [cb]; decide) cb
    have nb5 := cb
    clear cb
    by_cases cb : (i1 &&& (7 : Int32)) = (6 : Int32)
    · exact rm0_35 l s _ hw tables_1 (5 : Int32) i1 rV cV.cls rI32 rU32 rF32 rF64 rTEXT rGUID _ _ (Old.start s) SV EV VV FI32 (by decide) FU32 (by decide) FF32 (by decide) FF64 (by decide) FTEXT rfl FGUID (by decide) (by rw [cb]; decide) (by rw [cb]; decide) (by rw [cb]; decide) (by rw [cb]; decide) (by rw [cb]; decide) cb.symm (by decide) (by decide) (by decide) (by decide) rfl STEXT (by rw [cb]; decide) (by rw [cb]; decide) (by rw [cb]; decide) (by rw [cb]; decide) (by rw [cb]; decide) cb SGUID
    have nb6 := cb
    clear cb
    exact rm0_29 l s _ hw tables_1 (5 : Int32) i1 rV cV.cls rI32 rU32 rF32 rF64 rTEXT rGUID _ _ (Old.start s) SV EV VV FI32 (by decide) FU32 (by decide) FF32 (by decide) FF64 (by decide) FTEXT rfl FGUID (by decide) (fun h => nb1 h.symm) (fun h => nb2 h.symm) (fun h => nb3 h.symm) (fun h => nb4 h.symm) (fun h => nb5 h.symm) (fun h => nb6 h.symm) (by decide) (by decide) (by decide) (by decide) rfl STEXT (fun h => nb1 h) (fun h => nb2 h) (fun h => nb3 h) (fun h => nb4 h) (fun h => nb5 h) (fun h => nb6 h)
  have na5 := ca
  clear ca
  by_cases ca : i0 = (6 : Int32)
  · subst ca
    by_cases cb : (i1 &&& (7 : Int32)) = (1 : Int32)
    · exact rm0_37 l s _ hw tables_1 (6 : Int32) i1 rV cV.cls rI32 rU32 rF32 rF64 rTEXT rGUID _ _ (Old.start s) SV EV VV FI32 (by decide) FU32 (by decide) FF32 (by decide) FF64 (by decide) FTEXT (by decide) FGUID rfl cb.symm (by rw [cb]; decide) (by rw [cb]; decide) (by rw [cb]; decide) (by rw [cb]; decide) (by rw [cb]; decide) (by decide) (by decide) (by decide) (by decide) (by decide) rfl SGUID cb SI32
    have nb1 := cb
    clear cb
    by_cases cb : (i1 &&& (7 : Int32)) = (2 : Int32)
    · exact rm0_38 l s _ hw tables_1 (6 : Int32) i1 rV cV.cls rI32 rU32 rF32 rF64 rTEXT rGUID _ _ (Old.start s) SV EV VV FI32 (by decide) FU32 (by decide) FF32 (by decide) FF64 (by decide) FTEXT (by decide) FGUID rfl (by rw [cb]; decide) cb.symm (by rw [cb]; decide) (by rw [cb]; decide) (by rw [cb]; decide) (by rw [cb]; decide) (by decide) (by decide) (by decide) (by decide) (by decide) rfl SGUID (by rw [cb]; decide) cb SU32
    have nb2 := cb
    clear cb
    by_cases cb : (i1 &&& (7 : Int32)) = (3 : Int32)
    · exact rm0_39 l s _ hw tables_1 (6 : Int32) i1 rV cV.cls rI32 rU32 rF32 rF64 rTEXT rGUID _ _ (Old.start s) SV EV VV FI32 (by decide) FU32 (by decide) FF32 (by decide) FF64 (by decide) FTEXT (by decide) FGUID rfl (by rw [cb]; decide) (by rw [cb]; decide) cb.symm (by rw [cb]; decide) (by rw [cb]; decide) (by rw [cb]; decide) (by decide) (by decide) (by decide) (by decide) (by decide) rfl SGUID (by rw [cb]; decide) (by rw [cb]; decide) cb SF32
    have nb3 := cb
    clear cb
    by_cases cb : (i1 &&& (7 : Int32)) = (4 : Int32)
    · exact rm0_40 l s _ hw tables_1 (6 : Int32) i1 rV cV.cls rI32 rU32 rF32 rF64 rTEXT rGUID _ _ (Old.start s) SV EV VV FI32 (by decide) FU32 (by decide) FF32 (by decide) FF64 (by decide) FTEXT (by decide) FGUID rfl (by rw [cb]; decide) (by rw [cb]; decide) (by rw [cb]; decide) cb.symm (by rw [cb]; decide) (by rw [cb]; decide) (by decide) (by decide) (by decide) (by decide) (by decide) rfl SGUID (by rw [cb]; decide) (by rw [cb]; decide) (by rw [cb]; decide) cb SF64
    have nb4 := cb
    clear cb
    by_cases cb : (i1 &&& (7 : Int32)) = (5 : Int32)
    · exact rm0_41 l s _ hw tables_1 (6 : Int32) i1 rV cV.cls rI32 rU32 rF32 rF64 rTEXT rGUID _ _ (Old.start s) SV EV VV FI32 (by decide) FU32 (by decide) FF32 (by decide) FF64 (by decide) FTEXT (by decide) FGUID rfl (by rw [cb]; decide) (by rw [cb]; decide) (by rw [cb]; decide) (by rw [cb]; decide) cb.symm (by rw [cb]; decide) (by decide) (by decide) (by decide) (by decide) (by decide) rfl SGUID (by rw [cb]; decide) (by rw [cb]; decide) (by rw [cb]; decide) (by rw [cb]; decide) cb STEXT
    have nb5 := cb
    clear cb
    by_cases cb : (i1 &&& (7 : Int32)) = (6 : Int32)
    · exact rm0_42 l s _ hw tables_1 (6 : Int32) i1 rV cV.cls rI32 rU32 rF32 rF64 rTEXT rGUID _ _ (Old.start s) SV EV VV FI32 (by decide) FU32 (by decide) FF32 (by decide) FF64 (by decide) FTEXT (by decide) FGUID rfl (by rw [cb]; decide) (by rw [cb]; decide) (by rw [cb]; decide) (by rw [cb]; decide) (by rw [cb]; decide) cb.symm (by decide) (by decide) (by decide) (by decide) (by decide) rfl SGUID (by rw [cb]; decide) (by rw [cb]; decide) (by rw [cb]; decide) (by rw [cb]; decide) (by rw [cb]; decide) cb
    have nb6 := cb
    clear cb
    exact rm0_36 l s _ hw tables_1 (6 : Int32) i1 rV cV.cls rI32 rU32 rF32 rF64 rTEXT rGUID _ _ (Old.start s) SV EV VV FI32 (by decide) FU32 (by decide) FF32 (by decide) FF64 (by decide) FTEXT (by decide) FGUID rfl (fun h => nb1 h.symm) (fun h => nb2 h.symm) (fun h => nb3 h.symm) (fun h => nb4 h.symm) (fun h => nb5 h.symm) (fun h => nb6 h.symm) (by decide) (by decide) (by decide) (by decide) (by decide) rfl SGUID (fun h => nb1 h) (fun h => nb2 h) (fun h => nb3 h) (fun h => nb4 h) (fun h => nb5 h) (fun h => nb6 h)
  have na6 := ca
  clear ca
  by_cases cb : (i1 &&& (7 : Int32)) = (1 : Int32)
  · exact rm0_44 l s _ hw tables_1 i0 i1 rV cV.cls rI32 rU32 rF32 rF64 rTEXT rGUID _ _ (Old.start s) SV EV VV FI32 (fun h => na1 h.symm) FU32 (fun h => na2 h.symm) FF32 (fun h => na3 h.symm) FF64 (fun h => na4 h.symm) FTEXT (fun h => na5 h.symm) FGUID (fun h => na6 h.symm) cb.symm (by rw [cb]; decide) (by rw [cb]; decide) (by rw [cb]; decide) (by rw [cb]; decide) (by rw [cb]; decide) (fun h => na1 h) (fun h => na2 h) (fun h => na3 h) (fun h => na4 h) (fun h => na5 h) (fun h => na6 h) cb SI32
  have nb1 := cb
  clear cb
  by_cases cb : (i1 &&& (7 : Int32)) = (2 : Int32)
  · exact rm0_45 l s _ hw tables_1 i0 i1 rV cV.cls rI32 rU32 rF32 rF64 rTEXT rGUID _ _ (Old.start s) SV EV VV FI32 (fun h => na1 h.symm) FU32 (fun h => na2 h.symm) FF32 (fun h => na3 h.symm) FF64 (fun h => na4 h.symm) FTEXT (fun h => na5 h.symm) FGUID (fun h => na6 h.symm) (by rw [cb]; decide) cb.symm (by rw [cb]; decide) (by rw [cb]; decide) (by rw [cb]; decide) (by rw [cb]; decide) (fun h => na1 h) (fun h => na2 h) (fun h => na3 h) (fun h => na4 h) (fun h => na5 h) (fun h => na6 h) (by rw [cb]; decide) cb SU32
  have nb2 := cb
  clear cb
  by_cases cb : (i1 &&& (7 : Int32)) = (3 : Int32)
  · exact rm0_46 l s _ hw tables_1 i0 i1 rV cV.cls rI32 rU32 rF32 rF64 rTEXT rGUID _ _ (Old.start s) SV EV VV FI32 (fun h => na1 h.symm) FU32 (fun h => na2 h.symm) FF32 (fun h => na3 h.symm) FF64 (fun h => na4 h.symm) FTEXT (fun h => na5 h.symm) FGUID (fun h => na6 h.symm) (by rw [cb]; decide) (by rw [cb]; decide) cb.symm (by rw [cb]; decide) (by rw [cb]; decide) (by rw [cb]; decide) (fun h => na1 h) (fun h => na2 h) (fun h => na3 h) (fun h => na4 h) (fun h => na5 h) (fun h => na6 h) (by rw [cb]; decide) (by rw [cb]; decide) cb SF32
  have nb3 := cb
  clear cb
  by_cases cb : (i1 &&& (7 : Int32)) = (4 : Int32)
  · exact rm0_47 l s _ hw tables_1 i0 i1 rV cV.cls rI32 rU32 rF32 rF64 rTEXT rGUID _ _ (Old.start s) SV EV VV FI32 (fun h => na1 h.symm) FU32 (fun h => na2 h.symm) FF32 (fun h => na3 h.symm) FF64 (fun h => na4 h.symm) FTEXT (fun h => na5 h.symm) FGUID (fun h => na6 h.symm) (by rw [cb]; decide) (by rw [cb]; decide) (by rw [cb]; decide) cb.symm (by rw [cb]; decide) (by rw [cb]; decide) (fun h => na1 h) (fun h => na2 h) (fun h => na3 h) (fun h => na4 h) (fun h => na5 h) (fun h => na6 h) (by rw [cb]; decide) (by rw [cb]; decide) (by rw [cb]; decide) cb SF64
  have nb4 := cb
  clear cb
  by_cases cb : (i1 &&& (7 : Int32)) = (5 : Int32)
  · exact rm0_48 l s _ hw tables_1 i0 i1 rV cV.cls rI32 rU32 rF32 rF64 rTEXT rGUID _ _ (Old.start s) SV EV VV FI32 (fun h => na1 h.symm) FU32 (fun h => na2 h.symm) FF32 (fun h => na3 h.symm) FF64 (fun h => na4 h.symm) FTEXT (fun h => na5 h.symm) FGUID (fun h => na6 h.symm) (by rw [cb]; decide) (by rw [cb]; decide) (by rw [cb]; decide) (by rw [cb]; decide) cb.symm (by rw [cb]; decide) (fun h => na1 h) (fun h => na2 h) (fun h => na3 h) (fun h => na4 h) (fun h => na5 h) (fun h => na6 h) (by rw [cb]; decide) (by rw [cb]; decide) (by rw [cb]; decide) (by rw [cb]; decide) cb STEXT
  have nb5 := cb
  clear cb
  by_cases cb : (i1 &&& (7 : Int32)) = (6 : Int32)
  · exact rm0_49 l s _ hw tables_1 i0 i1 rV cV.cls rI32 rU32 rF32 rF64 rTEXT rGUID _ _ (Old.start s) SV EV VV FI32 (fun h => na1 h.symm) FU32 (fun h => na2 h.symm) FF32 (fun h => na3 h.symm) FF64 (fun h => na4 h.symm) FTEXT (fun h => na5 h.symm) FGUID (fun h => na6 h.symm) (by rw [cb]; decide) (by rw [cb]; decide) (by rw [cb]; decide) (by rw [cb]; decide) (by rw [cb]; decide) cb.symm (fun h => na1 h) (fun h => na2 h) (fun h => na3 h) (fun h => na4 h) (fun h => na5 h) (fun h => na6 h) (by rw [cb]; decide) (by rw [cb]; decide) (by rw [cb]; decide) (by rw [cb]; decide) (by rw [cb]; decide) cb SGUID
  have nb6 := cb
  clear cb
  exact rm0_43 l s _ hw tables_1 i0 i1 rV cV.cls rI32 rU32 rF32 rF64 rTEXT rGUID _ _ (Old.start s) SV EV VV FI32 (fun h => na1 h.symm) FU32 (fun h => na2 h.symm) FF32 (fun h => na3 h.symm) FF64 (fun h => na4 h.symm) FTEXT (fun h => na5 h.symm) FGUID (fun h => na6 h.symm) (fun h => nb1 h.symm) (fun h => nb2 h.symm) (fun h => nb3 h.symm) (fun h => nb4 h.symm) (fun h => nb5 h.symm) (fun h => nb6 h.symm) (fun h => na1 h) (fun h => na2 h) (fun h => na3 h) (fun h => na4 h) (fun h => na5 h) (fun h => na6 h) (fun h => nb1 h) (fun h => nb2 h) (fun h => nb3 h) (fun h => nb4 h) (fun h => nb5 h) (fun h => nb6 h)
theorem main_1_1 : Claimed_1_1 := comes_1 fun _ _ _ _ _ _ h hF => ⟨h.1, hF⟩
theorem main_1_2 : Claimed_1_2 := comes_1 fun _ _ _ _ _ _ h hF => ⟨h.2.1, hF⟩
end Jvm.Pilot.@@N@@
namespace Jvm.Pilot.@@N@@
open Jvm Jvm.ClassFile Sem Op Lib Jvm.Free Jvm.Stand Jvm.Pilot.@@N@@.Jvm.D
/-! MADE BY PROGRAM (witnessworld.py) out of the Statement's table words and the real class files: 13 classes; the members and pool entries that the words name. The judged class is class 1, her method 2. -/
namespace start1
open Jvm.ClassFile
def u (s : String) : CpInfo := .utf8 (stringToUtf16 s)
/-- a pool by its gaps: so many unusable entries, then the entry; so many at the end -/
def gap : Nat → List CpInfo → List CpInfo
  | 0, r => r
  | n + 1, r => .unusable :: gap n r
def poolList (es : List (Nat × CpInfo)) (last : Nat) : List CpInfo := es.foldr (fun e r => gap e.1 (e.2 :: r)) (gap last [])
def pool (es : List (Nat × CpInfo)) (last : Nat) : Array CpInfo := ⟨poolList es last⟩
def fileOf (pool : Array CpInfo) (this : Nat) (attrs : Array Attribute := #[]) (ms : Array MethodInfo := #[]) (fl : Nat := 33) (sup : Nat := 0) (ifs : Array Nat := #[]) (fds : Array FieldInfo := #[]) : ClassFile where
  minorVersion := 0
  majorVersion := 65
  constantPool := pool
  accessFlags := fl
  thisClass := this
  superClass := sup
  interfaces := ifs
  fields := fds
  methods := ms
  attributes := attrs
def plain (name : String) (sup : Option ClassId) : Class where
  name := name
  kind := .ordinary
  loader := none
  accessFlags := 33
  super := sup
  interfaces := #[]
  cf := none
  fields := #[]
  methods := #[]
  instanceTypes := #[]
  staticTypes := #[]
  resolved := #[]
  callSites := []
  init := .initialized
  statics := none
  mirror := none

def pool0 : Array CpInfo := pool [(5, u "<init>"), (0, u "()V"), (1, .class_ 10), (1, u "java/lang/Object"), (85, u "clone"), (0, u "()Ljava/lang/Object;")] 26

def k0m0 : Method := { name := "<init>", desc := "()V", sig := { parameters := [], returnType := none }, accessFlags := 1, code := none }
def k0m1 : Method := { name := "clone", desc := "()Ljava/lang/Object;", sig := { parameters := [], returnType := some (.object "java/lang/Object") }, accessFlags := 260, code := none }
/-- java/lang/Object -/
def k0 : Class := { plain "java/lang/Object" none with
  accessFlags := 33
  interfaces := #[]
  cf := some (fileOf pool0 8 #[] #[{ accessFlags := 1, nameIndex := 5, descriptorIndex := 6, attributes := #[] }, { accessFlags := 260, nameIndex := 96, descriptorIndex := 97, attributes := #[] }] 33 0 #[] #[])
  fields := #[]
  methods := #[k0m0, k0m1]
  instanceTypes := #[]
  staticTypes := #[]
  resolved := Array.replicate 124 none
  statics := none }

def pool1 : Array CpInfo := pool [(2, .class_ 4), (1, u "java/lang/Object"), (0, u "<init>"), (0, u "()V"), (0, .fieldref 8 9), (0, .class_ 10), (0, .nameAndType 11 12), (0, u "com/example/wiregather/wiregather/wire/FieldType"), (0, u "I32"), (0, u "Lcom/example/wiregather/wiregather/wire/FieldType;"), (0, .fieldref 8 14), (0, .nameAndType 15 12), (0, u "U32"), (0, .fieldref 8 17), (0, .nameAndType 18 12), (0, u "F32"), (0, .fieldref 8 20), (0, .nameAndType 21 12), (0, u "F64"), (0, .fieldref 8 23), (0, .nameAndType 24 12), (0, u "TEXT"), (0, .fieldref 8 26), (0, .nameAndType 27 12), (0, u "GUID"), (0, .methodref 8 29), (0, .nameAndType 30 31), (0, u "ofCode"), (0, u "(I)Lcom/example/wiregather/wiregather/wire/FieldType;"), (0, .methodref 33 34), (0, .class_ 35), (0, .nameAndType 36 31), (0, u "com/example/wiregather/wiregather/wire/FieldTypeOfCodePinLaw"), (0, u "expected"), (3, u "law"), (0, u "(II)Z")] 2

def k1m0 : Method := { name := "<init>", desc := "()V", sig := { parameters := [], returnType := none }, accessFlags := 1, code := none }
def k1c1 : Code := { maxStack := 2, maxLocals := 1, code := method_2_code, exceptionTable := #[], attributes := #[] }
def k1m1 : Method := { name := "expected", desc := "(I)Lcom/example/wiregather/wiregather/wire/FieldType;", sig := { parameters := [.int], returnType := some (.object "com/example/wiregather/wiregather/wire/FieldType") }, accessFlags := 10, code := some k1c1 }
def k1c2 : Code := { maxStack := 2, maxLocals := 5, code := code, exceptionTable := #[], attributes := #[] }
def k1m2 : Method := { name := "law", desc := "(II)Z", sig := { parameters := [.int, .int], returnType := some .boolean }, accessFlags := 9, code := some k1c2 }
/-- com/example/wiregather/wiregather/wire/FieldTypeOfCodePinLaw -/
def k1 : Class := { plain "com/example/wiregather/wiregather/wire/FieldTypeOfCodePinLaw" (some 0) with
  accessFlags := 49
  interfaces := #[]
  cf := some (fileOf pool1 33 #[] #[{ accessFlags := 1, nameIndex := 5, descriptorIndex := 6, attributes := #[] }, { accessFlags := 10, nameIndex := 36, descriptorIndex := 31, attributes := #[] }, { accessFlags := 9, nameIndex := 40, descriptorIndex := 41, attributes := #[] }] 49 2 #[] #[])
  fields := #[]
  methods := #[k1m0, k1m1, k1m2]
  instanceTypes := #[]
  staticTypes := #[]
  resolved := Array.replicate 44 none
  statics := none }

def pool2 : Array CpInfo := pool [(1, .class_ 2), (0, u "java/lang/constant/Constable"), (0, .class_ 4), (0, u "java/lang/Object")] 6

/-- java/lang/constant/Constable -/
def k2 : Class := { plain "java/lang/constant/Constable" (some 0) with
  accessFlags := 1537
  interfaces := #[]
  cf := some (fileOf pool2 1 #[] #[] 1537 3 #[] #[])
  fields := #[]
  methods := #[]
  instanceTypes := #[]
  staticTypes := #[]
  resolved := Array.replicate 11 none
  statics := none }

def pool3 : Array CpInfo := pool [(1, .class_ 2), (0, u "java/lang/Comparable"), (0, .class_ 4), (0, u "java/lang/Object")] 7

/-- java/lang/Comparable -/
def k3 : Class := { plain "java/lang/Comparable" (some 0) with
  accessFlags := 1537
  interfaces := #[]
  cf := some (fileOf pool3 1 #[] #[] 1537 3 #[] #[])
  fields := #[]
  methods := #[]
  instanceTypes := #[]
  staticTypes := #[]
  resolved := Array.replicate 12 none
  statics := none }

def pool4 : Array CpInfo := pool [(1, .class_ 2), (0, u "java/io/Serializable"), (0, .class_ 4), (0, u "java/lang/Object")] 2

/-- java/io/Serializable -/
def k4 : Class := { plain "java/io/Serializable" (some 0) with
  accessFlags := 1537
  interfaces := #[]
  cf := some (fileOf pool4 1 #[] #[] 1537 3 #[] #[])
  fields := #[]
  methods := #[]
  instanceTypes := #[]
  staticTypes := #[]
  resolved := Array.replicate 7 none
  statics := none }

def pool5 : Array CpInfo := pool [(2, .class_ 4), (1, u "java/lang/Enum"), (0, u "name"), (0, u "Ljava/lang/String;"), (2, u "ordinal"), (0, u "I"), (1, .class_ 14), (1, u "java/lang/Object"), (4, u "hash"), (86, .class_ 108), (1, u "java/lang/Enum$EnumDesc"), (2, .class_ 112), (0, u "java/lang/constant/Constable"), (0, .class_ 114), (0, u "java/lang/Comparable"), (0, .class_ 116), (0, u "java/io/Serializable")] 87

/-- java/lang/Enum -/
def k5 : Class := { plain "java/lang/Enum" (some 0) with
  accessFlags := 1057
  interfaces := #[2, 3, 4]
  cf := some (fileOf pool5 2 #[.nestMembers #[106]] #[] 1057 12 #[111, 113, 115] #[{ accessFlags := 18, nameIndex := 5, descriptorIndex := 6, attributes := #[] }, { accessFlags := 18, nameIndex := 9, descriptorIndex := 10, attributes := #[] }, { accessFlags := 2, nameIndex := 19, descriptorIndex := 10, attributes := #[] }])
  fields := #[{ name := "name", type := (.object "java/lang/String"), accessFlags := 18, slot := 0, constantValue := 0 }, { name := "ordinal", type := .int, accessFlags := 18, slot := 1, constantValue := 0 }, { name := "hash", type := .int, accessFlags := 2, slot := 2, constantValue := 0 }]
  methods := #[]
  instanceTypes := #[(.object "java/lang/String"), .int, .int]
  staticTypes := #[]
  resolved := Array.replicate 204 none
  statics := none }

def pool6 : Array CpInfo := pool [(1, .class_ 2), (0, u "com/example/wiregather/wiregather/wire/FieldType"), (2, u "I32"), (0, u "Lcom/example/wiregather/wiregather/wire/FieldType;"), (2, u "U32"), (2, u "F32"), (2, u "F64"), (2, u "TEXT"), (2, u "GUID"), (0, .fieldref 1 23), (0, .nameAndType 24 25), (0, u "$VALUES"), (0, u "[Lcom/example/wiregather/wiregather/wire/FieldType;"), (0, .methodref 27 28), (0, .class_ 25), (0, .nameAndType 29 30), (0, u "clone"), (0, u "()Ljava/lang/Object;"), (1, .class_ 34), (1, u "java/lang/Enum"), (6, .fieldref 1 42), (0, .nameAndType 43 44), (0, u "code"), (0, u "I"), (2, u "label"), (0, u "Ljava/lang/String;"), (2, u "words"), (0, .methodref 1 53), (0, .nameAndType 54 55), (0, u "values"), (0, u "()[Lcom/example/wiregather/wiregather/wire/FieldType;"), (38, u "ofCode"), (0, u "(I)Lcom/example/wiregather/wiregather/wire/FieldType;")] 7

def k6c0 : Code := { maxStack := 1, maxLocals := 0, code := prog_72_method_1_code, exceptionTable := #[], attributes := #[] }
def k6m0 : Method := { name := "values", desc := "()[Lcom/example/wiregather/wiregather/wire/FieldType;", sig := { parameters := [], returnType := some (.array (.object "com/example/wiregather/wiregather/wire/FieldType")) }, accessFlags := 9, code := some k6c0 }
def k6c1 : Code := { maxStack := 2, maxLocals := 6, code := prog_72_method_7_code, exceptionTable := #[], attributes := #[] }
def k6m1 : Method := { name := "ofCode", desc := "(I)Lcom/example/wiregather/wiregather/wire/FieldType;", sig := { parameters := [.int], returnType := some (.object "com/example/wiregather/wiregather/wire/FieldType") }, accessFlags := 9, code := some k6c1 }
/-- com/example/wiregather/wiregather/wire/FieldType -/
def k6 : Class := { plain "com/example/wiregather/wiregather/wire/FieldType" (some 5) with
  accessFlags := 16433
  interfaces := #[]
  cf := some (fileOf pool6 1 #[] #[{ accessFlags := 9, nameIndex := 54, descriptorIndex := 55, attributes := #[] }, { accessFlags := 9, nameIndex := 94, descriptorIndex := 95, attributes := #[] }] 16433 32 #[] #[{ accessFlags := 16409, nameIndex := 5, descriptorIndex := 6, attributes := #[] }, { accessFlags := 16409, nameIndex := 9, descriptorIndex := 6, attributes := #[] }, { accessFlags := 16409, nameIndex := 12, descriptorIndex := 6, attributes := #[] }, { accessFlags := 16409, nameIndex := 15, descriptorIndex := 6, attributes := #[] }, { accessFlags := 16409, nameIndex := 18, descriptorIndex := 6, attributes := #[] }, { accessFlags := 16409, nameIndex := 21, descriptorIndex := 6, attributes := #[] }, { accessFlags := 18, nameIndex := 43, descriptorIndex := 44, attributes := #[] }, { accessFlags := 18, nameIndex := 47, descriptorIndex := 48, attributes := #[] }, { accessFlags := 18, nameIndex := 51, descriptorIndex := 44, attributes := #[] }, { accessFlags := 4122, nameIndex := 24, descriptorIndex := 25, attributes := #[] }])
  fields := #[{ name := "I32", type := (.object "com/example/wiregather/wiregather/wire/FieldType"), accessFlags := 16409, slot := 0, constantValue := 0 }, { name := "U32", type := (.object "com/example/wiregather/wiregather/wire/FieldType"), accessFlags := 16409, slot := 1, constantValue := 0 }, { name := "F32", type := (.object "com/example/wiregather/wiregather/wire/FieldType"), accessFlags := 16409, slot := 2, constantValue := 0 }, { name := "F64", type := (.object "com/example/wiregather/wiregather/wire/FieldType"), accessFlags := 16409, slot := 3, constantValue := 0 }, { name := "TEXT", type := (.object "com/example/wiregather/wiregather/wire/FieldType"), accessFlags := 16409, slot := 4, constantValue := 0 }, { name := "GUID", type := (.object "com/example/wiregather/wiregather/wire/FieldType"), accessFlags := 16409, slot := 5, constantValue := 0 }, { name := "code", type := .int, accessFlags := 18, slot := 3, constantValue := 0 }, { name := "label", type := (.object "java/lang/String"), accessFlags := 18, slot := 4, constantValue := 0 }, { name := "words", type := .int, accessFlags := 18, slot := 5, constantValue := 0 }, { name := "$VALUES", type := (.array (.object "com/example/wiregather/wiregather/wire/FieldType")), accessFlags := 4122, slot := 6, constantValue := 0 }]
  methods := #[k6m0, k6m1]
  instanceTypes := #[(.object "java/lang/String"), .int, .int, .int, (.object "java/lang/String"), .int]
  staticTypes := #[(.object "com/example/wiregather/wiregather/wire/FieldType"), (.object "com/example/wiregather/wiregather/wire/FieldType"), (.object "com/example/wiregather/wiregather/wire/FieldType"), (.object "com/example/wiregather/wiregather/wire/FieldType"), (.object "com/example/wiregather/wiregather/wire/FieldType"), (.object "com/example/wiregather/wiregather/wire/FieldType"), (.array (.object "com/example/wiregather/wiregather/wire/FieldType"))]
  resolved := Array.replicate 103 none
  statics := some 0 }

def pool7 : Array CpInfo := pool [(1, .class_ 2), (0, u "java/lang/Cloneable"), (0, .class_ 4), (0, u "java/lang/Object")] 2

/-- java/lang/Cloneable -/
def k7 : Class := { plain "java/lang/Cloneable" (some 0) with
  accessFlags := 1537
  interfaces := #[]
  cf := some (fileOf pool7 1 #[] #[] 1537 3 #[] #[])
  fields := #[]
  methods := #[]
  instanceTypes := #[]
  staticTypes := #[]
  resolved := Array.replicate 7 none
  statics := none }

/-- the primitive byte -/
def k8 : Class := { plain "byte" none with kind := .primitive 'B', accessFlags := 0x411 }
/-- [B -/
def k9 : Class := { plain "[B" (some 0) with kind := .array 8 .byte, interfaces := #[7, 4], accessFlags := 1041 }

/-- the primitive int -/
def k10 : Class := { plain "int" none with kind := .primitive 'I', accessFlags := 0x411 }
/-- [I -/
def k11 : Class := { plain "[I" (some 0) with kind := .array 10 .int, interfaces := #[7, 4], accessFlags := 1041 }

/-- [Lcom/example/wiregather/wiregather/wire/FieldType; -/
def k12 : Class := { plain "[Lcom/example/wiregather/wiregather/wire/FieldType;" (some 0) with kind := .array 6 (.object "com/example/wiregather/wiregather/wire/FieldType"), interfaces := #[7, 4], accessFlags := 1041 }

def heap : Heap := #[{ cls := 6, slots := #[.ref 2, .ref 3, .ref 4, .ref 5, .ref 6, .ref 7, .ref 1], vm := .statics 6 },
  { cls := 12, slots := #[.ref 2, .ref 3, .ref 4, .ref 5, .ref 6, .ref 7], vm := .none },
  { cls := 6, slots := #[.null, .int 0, .int 0, .int 1, .null, .int 0], vm := .none },
  { cls := 6, slots := #[.null, .int 1, .int 0, .int 2, .null, .int 0], vm := .none },
  { cls := 6, slots := #[.null, .int 2, .int 0, .int 3, .null, .int 0], vm := .none },
  { cls := 6, slots := #[.null, .int 3, .int 0, .int 4, .null, .int 0], vm := .none },
  { cls := 6, slots := #[.null, .int 4, .int 0, .int 5, .null, .int 0], vm := .none },
  { cls := 6, slots := #[.null, .int 5, .int 0, .int 6, .null, .int 0], vm := .none }]
def classes : Array Class := #[k0, k1, k2, k3, k4, k5, k6, k7, k8, k9, k10, k11, k12]
def interned : List (Array UInt16 × Addr) := []
def slotsUsed : Nat := 49
def theMethod : MethodId := ⟨1, 2⟩
def args0 : Array Value := #[.int 5, .int 2]
def aboutOver (below : List Frame) : State where
  vm := { classes := classes, interned := interned.toArray }
  heap := heap
  slotsUsed := slotsUsed
  threads := #[{ frames := .invoking theMethod args0 :: below }]
def below0 : List Frame := [.native { method := ⟨0, 0⟩, args := #[] }]
def about1 : State := aboutOver below0
def p0 : Program := .bare "" "" ""
def e0 : Env := launch0.env 0 0 0
theorem w_frames : about1.frames = Frame.invoking theMethod args0 :: below0 := rfl
set_option maxRecDepth 65536 in
theorem w_args : argsFit about1.vm theMethod args0 = true := by decide +kernel
set_option maxRecDepth 65536 in
theorem w_heap : heapFits about1 = true := by decide +kernel
set_option maxRecDepth 65536 in
theorem w_runnable : about1.curStatus? = some .runnable := by decide +kernel
set_option maxRecDepth 65536 in
theorem w_alone : about1.alone = true := by decide +kernel
set_option maxRecDepth 65536 in
theorem w_named : about1.methodNamed? x = some theMethod := by decide +kernel
set_option maxRecDepth 65536 in
theorem w_hears : about1.hears theMethod below0 = true := by decide +kernel
set_option maxRecDepth 65536 in
theorem w_ripe : about1.ripe theMethod args0 below0 = true := by decide +kernel
theorem w_running : about1.status = .running := rfl
set_option maxRecDepth 65536 in
theorem w_room : about1.hasRoom e0.platform room_1 = true :=
  launch0.hasRoom_least _ room_1 (by decide +kernel) (by decide +kernel) (by decide +kernel) (by decide +kernel) (by decide +kernel) (by decide +kernel)
theorem allAtoms_all (ts : List Jvm.Cond) (a : Array Jvm.Value) (st : Jvm.State) : (allAtoms ts).before a st = ts.all (fun c => c.before a st) := by
  induction ts with
  | nil => rfl
  | cons c t ih =>
    show (Jvm.Cond.and c (allAtoms t)).before a st = _
    rw [Jvm.Cond.before_and, ih, List.all_cons]
def words1 : List Jvm.Cond := Jvm.Cond.code x code maxLocals ret :: tables_1
/-- a 'code' word, met by the world's own term for the bytes: nothing is compared byte by byte -/
theorem code_word {y : MethodName} {bytes : ByteArray} {mx : Nat} {rt : Option FieldType} {a : Array Value} {s : State} {m : MethodId} {meth : Method} {c : Code} (h1 : s.methodNamed? y = some m) (h2 : s.vm.method? m = some meth) (h3 : meth.code = some c) (h4 : c.code = bytes)
    (h5 : (c.maxLocals == mx && c.exceptionTable.isEmpty && decide (c.maxStack ≤ mostOperands) && decide (meth.sig.returnType = rt) && !meth.locks && decide (parseMethodDescriptor y.desc = some meth.sig)) = true) : (Jvm.Cond.code y bytes mx rt).before a s = true := by
  simp only [Bool.and_eq_true, beq_iff_eq, Bool.not_eq_true', decide_eq_true_eq] at h5
  obtain ⟨⟨⟨⟨⟨g1, g2⟩, g3⟩, g4⟩, g5⟩, g6⟩ := h5
  simp [Cond.before, Cond.holds, Cond.value, h1, h2, h3, h4, g1, g2, g3, g4, g5, g6]
def isCode : Jvm.Cond → Bool
  | .code _ _ _ _ => true
  | _ => false
theorem all_split {L : List Jvm.Cond} {P : Jvm.Cond → Bool} (h1 : L.all (fun c => isCode c || P c) = true) (h2 : ∀ c ∈ L.filter isCode, P c = true) : L.all P = true := by
  refine List.all_eq_true.mpr fun c hc => ?_
  have h := List.all_eq_true.mp h1 c hc
  rcases Bool.eq_false_or_eq_true (isCode c) with hi | hi
  · exact h2 c (List.mem_filter.mpr ⟨hc, hi⟩)
  · simpa [hi] using h
set_option maxRecDepth 65536 in
theorem w_c0 : (Jvm.Cond.code x code maxLocals ret).before args0 about1 = true := code_word (m := ⟨1, 2⟩) (meth := k1m2) (c := k1c2) (by decide +kernel) rfl rfl rfl (by decide +kernel)
set_option maxRecDepth 65536 in
theorem w_c1 : (Jvm.Cond.code ({ cls := "com/example/wiregather/wiregather/wire/FieldType", name := "ofCode", desc := "(I)Lcom/example/wiregather/wiregather/wire/FieldType;" } : Jvm.MethodName) prog_72_method_7_code (6 : Nat) (Option.some (Jvm.ClassFile.FieldType.object "com/example/wiregather/wiregather/wire/FieldType"))).before args0 about1 = true := code_word (m := ⟨6, 1⟩) (meth := k6m1) (c := k6c1) (by decide +kernel) rfl rfl rfl (by decide +kernel)
set_option maxRecDepth 65536 in
theorem w_c2 : (Jvm.Cond.code ({ cls := "com/example/wiregather/wiregather/wire/FieldType", name := "values", desc := "()[Lcom/example/wiregather/wiregather/wire/FieldType;" } : Jvm.MethodName) prog_72_method_1_code (0 : Nat) (Option.some (Jvm.ClassFile.FieldType.array (Jvm.ClassFile.FieldType.object "com/example/wiregather/wiregather/wire/FieldType")))).before args0 about1 = true := code_word (m := ⟨6, 0⟩) (meth := k6m0) (c := k6c0) (by decide +kernel) rfl rfl rfl (by decide +kernel)
set_option maxRecDepth 65536 in
theorem w_c3 : (Jvm.Cond.code ({ cls := "com/example/wiregather/wiregather/wire/FieldTypeOfCodePinLaw", name := "expected", desc := "(I)Lcom/example/wiregather/wiregather/wire/FieldType;" } : Jvm.MethodName) method_2_code (1 : Nat) (Option.some (Jvm.ClassFile.FieldType.object "com/example/wiregather/wiregather/wire/FieldType"))).before args0 about1 = true := code_word (m := ⟨1, 1⟩) (meth := k1m1) (c := k1c1) (by decide +kernel) rfl rfl rfl (by decide +kernel)
def codes1 : List Jvm.Cond := [Jvm.Cond.code x code maxLocals ret, Jvm.Cond.code ({ cls := "com/example/wiregather/wiregather/wire/FieldType", name := "ofCode", desc := "(I)Lcom/example/wiregather/wiregather/wire/FieldType;" } : Jvm.MethodName) prog_72_method_7_code (6 : Nat) (Option.some (Jvm.ClassFile.FieldType.object "com/example/wiregather/wiregather/wire/FieldType")), Jvm.Cond.code ({ cls := "com/example/wiregather/wiregather/wire/FieldType", name := "values", desc := "()[Lcom/example/wiregather/wiregather/wire/FieldType;" } : Jvm.MethodName) prog_72_method_1_code (0 : Nat) (Option.some (Jvm.ClassFile.FieldType.array (Jvm.ClassFile.FieldType.object "com/example/wiregather/wiregather/wire/FieldType"))), Jvm.Cond.code ({ cls := "com/example/wiregather/wiregather/wire/FieldTypeOfCodePinLaw", name := "expected", desc := "(I)Lcom/example/wiregather/wiregather/wire/FieldType;" } : Jvm.MethodName) method_2_code (1 : Nat) (Option.some (Jvm.ClassFile.FieldType.object "com/example/wiregather/wiregather/wire/FieldType"))]
set_option maxRecDepth 65536 in
theorem codes_eq : words1.filter isCode = codes1 := rfl
theorem w_codes : ∀ c ∈ words1.filter isCode, c.before args0 about1 = true := by
  rw [codes_eq]
  intro c hc
  simp only [codes1, List.mem_cons, List.not_mem_nil, or_false] at hc
  rcases hc with rfl | rfl | rfl | rfl
  · exact w_c0
  · exact w_c1
  · exact w_c2
  · exact w_c3
set_option maxRecDepth 65536 in
theorem w_t1 : (words1.take 24).all (fun c => isCode c || c.before args0 about1) = true := by decide +kernel
set_option maxRecDepth 65536 in
theorem w_t2 : (words1.drop 24).all (fun c => isCode c || c.before args0 about1) = true := by decide +kernel
theorem w_tables : (allAtoms (Jvm.Cond.code x code maxLocals ret :: tables_1)).before args0 about1 = true := by
  rw [allAtoms_all]
  show words1.all (fun c => c.before args0 about1) = true
  refine all_split ?_ w_codes
  rw [← List.take_append_drop 24 words1, List.all_append, w_t1, w_t2]
  rfl
set_option maxRecDepth 65536 in
theorem w_case : (Jvm.Cond.and given_1 narrow_1).before args0 about1 = true := by decide +kernel
theorem w_applies : (headSpec (Jvm.Cond.code x code maxLocals ret :: tables_1) room_1).applies x e0.platform about1 = true :=
  (Spec.applies_iff w_frames).mpr ⟨w_running, w_runnable, w_alone, w_named, w_hears, w_ripe, w_room, w_tables⟩
theorem atStart : AtStart classFile x code maxLocals ret World_1 tables_1 room_1 Calls_1 rest_1 Pre_1 launch0 p0 e0 about1 theMethod args0 below0 :=
  ⟨lists_1, trivial, launch0.admits_env _ _ _, launch0.least_env, fairChoices_fair.cas, fairChoices_fair.clock, w_frames, w_args, w_heap, w_applies, trivial, trivial, w_case⟩
end start1
theorem witness_1 : WitnessClaimed_1 := ⟨start1.p0, start1.e0, start1.about1, start1.theMethod, start1.args0, start1.below0, start1.atStart⟩
end Jvm.Pilot.@@N@@
