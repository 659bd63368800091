import JvmDerived
import JvmDerived.Pilot.@@N@@Statement
import JvmDerived.Pilot.@@N@@Code
set_option linter.unusedVariables false
set_option linter.unusedSimpArgs false
namespace Jvm.Pilot.@@N@@
open Jvm Jvm.ClassFile Sem Op Lib Jvm.Free Jvm.Stand Jvm.LawKit Jvm.RoadKit Bundle Jvm.Pilot.@@N@@.Jvm.D
theorem ww {Z : State} {a0 : Array Value} (hw : ∀ d ∈ tables_1, d.before a0 Z = true) (i : Nat) {d : Jvm.Cond} (h : tables_1[i]? = some d) : d.before a0 Z = true := hw d (List.mem_of_getElem? h)
theorem d1_0 : decode prog_42_method_4_code 0 = .ok (.aload_n 0, 1) := by decide +kernel
theorem d1_1 : decode prog_42_method_4_code 1 = .ok (.getstatic 3, 3) := by decide +kernel
theorem d1_4 : decode prog_42_method_4_code 4 = .ok (.if_acmp .ne 7, 3) := by decide +kernel
theorem d1_7 : decode prog_42_method_4_code 7 = .ok (.iconst 1, 1) := by decide +kernel
theorem d1_8 : decode prog_42_method_4_code 8 = .ok (.goto 4, 3) := by decide +kernel
theorem d1_12 : decode prog_42_method_4_code 12 = .ok (.ireturn, 1) := by decide +kernel
theorem pn_com_example_basketwright_basketwright_core_ScreenMeasure : plainName "com/example/basketwright/basketwright/core/ScreenMeasure" = true := by first | (simp [plainName, overriddenIn]; done) | decide +kernel
def Q1_1 (Z : State) (r0 : Addr) (h0 : Heap) (n0 : Nat) (v : Option Value) (h : Heap) (L : List Loc) : Prop := v = some (.int (1 : Int32)) ∧ Fr n0 L ∧ h = h0
set_option maxRecDepth 65536 in
set_option maxHeartbeats 40000000 in
theorem rm1_1 (l : Launch) (Z : State) (a0 : Array Value) (hw : ∀ d ∈ tables_1, d.before a0 Z = true) (ws : List Jvm.Cond) (r0 : Addr) (h0 : Heap) (n0 : Nat) (O0 : Old Z n0 h0) (f1 : Sta Z Z.heap "com/example/basketwright/basketwright/core/ScreenMeasure" "AVERAGE_DAILY_VALUE_TRADED" "Lcom/example/basketwright/basketwright/core/ScreenMeasure;" (.ref r0)) :
    MetFree l (⟨"com/example/basketwright/basketwright/core/ScreenMeasure", "hasMonths", "()Z"⟩ : MethodName) (head1 (Jvm.Cond.code (⟨"com/example/basketwright/basketwright/core/ScreenMeasure", "hasMonths", "()Z"⟩ : MethodName) prog_42_method_4_code 1 (some .boolean) :: ws) ({ frames := 0, cells := 0, slots := 0, locals := 0 } : Room)) (fun a U => a = #[(.ref r0)] ∧ Z.Warmed39 U.vm ∧ U.heap = h0) (fun _ _ _ _ _ => True) (fun _ U o U' => ∃ v L, o = .returned v ∧ Q1_1 Z r0 h0 n0 v U'.heap L ∧ FrameEnd U o U' L ({ frames := 0, cells := 0, slots := 0, locals := 0 } : Room).cells ({ frames := 0, cells := 0, slots := 0, locals := 0 } : Room).slots) := by
  refine MetFree.of_bodySF (plainFor_of_name pn_com_example_basketwright_basketwright_core_ScreenMeasure) hisR ?_
  intro p e s m args below meth c s₁ Bd hml0 hP hK
  obtain ⟨rfl, hZ, hh⟩ := hP
  have hx := Bd.exec
  have hby := Bd.bytes
  have hml : c.maxLocals = 1 := hml0
  have hown : s.vm.findClass "com/example/basketwright/basketwright/core/ScreenMeasure" = some m.cls := findClass_of_methodNamed Bd.named
  have hnm := (name_of_methodNamed Bd.named Bd.method).1
  have X0 : Stand p l e ({ frames := 0, cells := 0, slots := 0, locals := 0 } : Room) s m #[(.ref r0)] below meth c s₁ [] 0 0 := Stand.of_body Bd
  have e0 : s₁.heap = h0 := by rw [← hh, Bd.state]; rfl
  have N0 := Fr.nil n0
  have pre0 : ∀ t, Steps p.tables e below (s₁.setTop (mkF m 0 #[.val (.ref r0)] [])) t → Steps p.tables e below (s₁.setTop (entryFrame m #[(.ref r0)] 1)) t := fun t k => castTop (by first | (simp [entryFrame, mkF, argsToLocals, Value.category]; done) | rfl) k
  have f2 := f1.ext O0.2
  obtain ⟨T3, X3, e3, st3⟩ := getS2 X0 hx hZ hown (host := "") (Or.inl (ww hw 8 rfl)) Via.refl e0 f2 (g := (mkF m 1 #[.val (.ref r0)] [(.ref r0)])) rfl (hb hby d1_1)
  obtain ⟨fs, hr, hrun, hended, hW, hsame⟩ := X3.leave (v := some (.int (1 : Int32))) (fun h => by rw [Bd.returns] at h; cases h)
  refine ⟨_, _, pre0 _ ?_, hrun, hended, _, _, rfl, ?_, ⟨_, rfl⟩, hW, hsame.mono (by decide) (by decide)⟩
  · show Steps p.tables e below (s₁.setTop (mkF m 0 #[.val (.ref r0)] [])) _
    refine XS.aloadN X0.here hx rfl (hb hby d1_0) rfl rfl ?_
    show Steps p.tables e below (s₁.setTop (mkF m 1 #[.val (.ref r0)] [(.ref r0)])) _
    refine st3 _ ?_
    show Steps p.tables e below (T3.setTop (mkF m 4 #[.val (.ref r0)] [(.ref r0), (.ref r0)])) _
    refine Jvm.RoadKit.acmp (g := (mkF m 4 #[.val (.ref r0)] [(.ref r0), (.ref r0)])) X3 hx rfl rfl rfl (pc0 := 4) (pc' := 7) (same := true) rfl (hb hby d1_4) rfl (decide_eq_true rfl) (by decide) (by decide) ?_
    show Steps p.tables e below (T3.setTop (mkF m 7 #[.val (.ref r0)] [])) _
    refine XS.iconst X3.here hx rfl (hb hby d1_7) ?_
    show Steps p.tables e below (T3.setTop (mkF m 8 #[.val (.ref r0)] [(.int (1 : Int32))])) _
    refine XS.goto X3.here hx rfl (pc0 := 8) (pc' := 12) rfl (hb hby d1_8) (by decide) (by decide) ?_
    show Steps p.tables e below (T3.setTop (mkF m 12 #[.val (.ref r0)] [(.int (1 : Int32))])) _
    exact retN X3 hx (t := .boolean) Bd.returns (by simp) (hb hby d1_12) hr
  · show Q1_1 Z r0 h0 n0 _ T3.heap _
    rw [e3]
    exact ⟨rfl, N0, rfl⟩
theorem pd___Z : parseMethodDescriptor "()Z" = some ⟨[], some .boolean⟩ := by decide +kernel
theorem pn_com_example_basketwright_basketwright_core_ScreenMeasureHasMonthsPinLaw : plainName "com/example/basketwright/basketwright/core/ScreenMeasureHasMonthsPinLaw" = true := by first | (simp [plainName, overriddenIn]; done) | decide +kernel
def Q0_1 (Z : State) (x0 : Int32) (r1 : Addr) (h0 : Heap) (n0 : Nat) (v : Option Value) (h : Heap) (L : List Loc) : Prop := v = some (.int (1 : Int32)) ∧ Fr n0 L
set_option maxRecDepth 65536 in
set_option maxHeartbeats 40000000 in
theorem rm0_1 (l : Launch) (Z : State) (a0 : Array Value) (hw : ∀ d ∈ tables_1, d.before a0 Z = true) (ws : List Jvm.Cond) (x0 : Int32) (r1 : Addr) (h0 : Heap) (n0 : Nat) (O0 : Old Z n0 h0) (hc1 : (x0 &&& (1 : Int32)) = (0 : Int32)) (f2 : Sta Z Z.heap "com/example/basketwright/basketwright/core/ScreenMeasure" "AVERAGE_DAILY_VALUE_TRADED" "Lcom/example/basketwright/basketwright/core/ScreenMeasure;" (.ref r1)) (f5 : Exa Z Z.heap r1 "com/example/basketwright/basketwright/core/ScreenMeasure") :
    MetFree l x (head1 (Jvm.Cond.code x code maxLocals ret :: ws) room_1) (fun a U => a = #[(.int x0)] ∧ Z.Warmed39 U.vm ∧ U.heap = h0) (fun _ _ _ _ _ => True) (fun _ U o U' => ∃ v L, o = .returned v ∧ Q0_1 Z x0 r1 h0 n0 v U'.heap L ∧ FrameEnd U o U' L room_1.cells room_1.slots) := by
  refine MetFree.of_bodySF (plainFor_of_name pn_com_example_basketwright_basketwright_core_ScreenMeasureHasMonthsPinLaw) hisR ?_
  intro p e s m args below meth c s₁ Bd hml0 hP hK
  obtain ⟨rfl, hZ, hh⟩ := hP
  have hx := Bd.exec
  have hby := Bd.bytes
  have hml : c.maxLocals = 4 := hml0
  have hown : s.vm.findClass "com/example/basketwright/basketwright/core/ScreenMeasureHasMonthsPinLaw" = some m.cls := findClass_of_methodNamed Bd.named
  have hnm := (name_of_methodNamed Bd.named Bd.method).1
  have X0 : Stand p l e room_1 s m #[(.int x0)] below meth c s₁ [] 0 0 := Stand.of_body Bd
  have e0 : s₁.heap = h0 := by rw [← hh, Bd.state]; rfl
  have N0 := Fr.nil n0
  have pre0 : ∀ t, Steps p.tables e below (s₁.setTop (mkF m 0 #[.val (.int x0), .unset, .unset, .unset] [])) t → Steps p.tables e below (s₁.setTop (entryFrame m #[(.int x0)] maxLocals)) t := fun t k => castTop (by first | (simp [entryFrame, mkF, argsToLocals, Value.category, maxLocals]; done) | rfl) k
  have f3 := f2.ext O0.2
  obtain ⟨T4, X4, e4, st4⟩ := getS2 X0 hx hZ hown (host := "") (Or.inl (ww hw 0 rfl)) Via.refl e0 f3 (g := (mkF m 16 #[.val (.int x0), .val (.int (1 : Int32)), .unset, .unset] [])) rfl (hb hby at_16)
  have f6 := f5.ext O0.2
  obtain ⟨cqq8, kqq8, qq8a, qq8b, qq8c⟩ := isOf hZ e4 f6
  obtain ⟨_, _, ⟨T7, L7, k7, n7⟩, -, X7, ⟨Lc7, hQ7, l7, y7, z7⟩, st7⟩ := X4.virtualBack hx (y := (⟨"com/example/basketwright/basketwright/core/ScreenMeasure", "hasMonths", "()Z"⟩ : MethodName)) (z := (⟨"com/example/basketwright/basketwright/core/ScreenMeasure", "hasMonths", "()Z"⟩ : MethodName)) hown (mvT hZ (ww hw 3 rfl)) (mvT hZ (ww hw 4 rfl)) (notFace_of_selects (args := #[]) (mvT hZ (ww hw 6 rfl))) (mvT hZ (ww hw 6 rfl)) (mvT hZ (ww hw 5 rfl)) (by decide) (backOf (W := 0) (rm1_1 l Z a0 hw [] r1 h0 n0 O0 f2) hZ (ww hw 7 rfl) (ww hw 1 rfl) (by decide) (by decide)) qq8a qq8c (g := (mkF m 38 #[.val (.int x0), .val (.int (1 : Int32)), .val (.ref r1), .val (.int (1 : Int32))] [(.ref r1)])) rfl (by rw [hml]; rfl) (Steps.refl _) (argsL := []) (rest := []) (lenOf pd___Z rfl) rfl (by show 2 * 0 + _ ≤ _; exact Nat.le_of_eq rfl) (hb hby at_38) (fun _ _ => ⟨rfl, e4, (by decide : 0 + 0 ≤ _), (by decide : 0 + 0 ≤ _)⟩)
  dsimp only [Pt.U, Pt.locs, Pt.cells, Pt.slots] at X7 l7 y7 z7 st7 hQ7
  subst l7 y7 z7
  obtain ⟨rfl, N7q, E7⟩ := hQ7
  have N7 := Fr.app N0 N7q
  obtain ⟨fs, hr, hrun, hended, hW, hsame⟩ := X7.leave (v := some (.int (1 : Int32))) (fun h => by rw [Bd.returns] at h; cases h)
  refine ⟨_, _, pre0 _ ?_, hrun, hended, _, _, rfl, ?_, ⟨_, rfl⟩, hW, hsame.mono (by decide) (by decide)⟩
  · show Steps p.tables e below (s₁.setTop (mkF m 0 #[.val (.int x0), .unset, .unset, .unset] [])) _
    refine XS.iloadN X0.here hx rfl (hb hby at_0) rfl ?_
    show Steps p.tables e below (s₁.setTop (mkF m 1 #[.val (.int x0), .unset, .unset, .unset] [(.int x0)])) _
    refine XS.iconst X0.here hx rfl (hb hby at_1) ?_
    show Steps p.tables e below (s₁.setTop (mkF m 2 #[.val (.int x0), .unset, .unset, .unset] [(.int (1 : Int32)), (.int x0)])) _
    refine XS.iand X0.here hx rfl (hb hby at_2) rfl ?_
    show Steps p.tables e below (s₁.setTop (mkF m 3 #[.val (.int x0), .unset, .unset, .unset] [(.int (x0 &&& (1 : Int32)))])) _
    refine XS.ifNo X0.here hx rfl (hb hby at_3) rfl ((if0 _ _).trans (teq hc1).2) ?_
    show Steps p.tables e below (s₁.setTop (mkF m 6 #[.val (.int x0), .unset, .unset, .unset] [])) _
    refine XS.iconst X0.here hx rfl (hb hby at_6) ?_
    show Steps p.tables e below (s₁.setTop (mkF m 7 #[.val (.int x0), .unset, .unset, .unset] [(.int (1 : Int32))])) _
    refine XS.goto X0.here hx rfl (pc0 := 7) (pc' := 11) rfl (hb hby at_7) (by decide) (by decide) ?_
    show Steps p.tables e below (s₁.setTop (mkF m 11 #[.val (.int x0), .unset, .unset, .unset] [(.int (1 : Int32))])) _
    refine XS.istoreN X0.here hx rfl (hb hby at_11) rfl (l' := #[.val (.int x0), .val (.int (1 : Int32)), .unset, .unset]) rfl ?_
    show Steps p.tables e below (s₁.setTop (mkF m 12 #[.val (.int x0), .val (.int (1 : Int32)), .unset, .unset] [])) _
    refine XS.iloadN X0.here hx rfl (hb hby at_12) rfl ?_
    show Steps p.tables e below (s₁.setTop (mkF m 13 #[.val (.int x0), .val (.int (1 : Int32)), .unset, .unset] [(.int (1 : Int32))])) _
    refine XS.ifNo X0.here hx rfl (hb hby at_13) rfl ((if0 _ _).trans (feq (by decide : ¬ ((1 : Int32) = (0 : Int32)))).1) ?_
    show Steps p.tables e below (s₁.setTop (mkF m 16 #[.val (.int x0), .val (.int (1 : Int32)), .unset, .unset] [])) _
    refine st4 _ ?_
    show Steps p.tables e below (T4.setTop (mkF m 19 #[.val (.int x0), .val (.int (1 : Int32)), .unset, .unset] [(.ref r1)])) _
    refine XS.goto X4.here hx rfl (pc0 := 19) (pc' := 25) rfl (hb hby at_19) (by decide) (by decide) ?_
    show Steps p.tables e below (T4.setTop (mkF m 25 #[.val (.int x0), .val (.int (1 : Int32)), .unset, .unset] [(.ref r1)])) _
    refine XS.astoreN X4.here hx rfl (hb hby at_25) rfl rfl (l' := #[.val (.int x0), .val (.int (1 : Int32)), .val (.ref r1), .unset]) rfl ?_
    show Steps p.tables e below (T4.setTop (mkF m 26 #[.val (.int x0), .val (.int (1 : Int32)), .val (.ref r1), .unset] [])) _
    refine XS.iloadN X4.here hx rfl (hb hby at_26) rfl ?_
    show Steps p.tables e below (T4.setTop (mkF m 27 #[.val (.int x0), .val (.int (1 : Int32)), .val (.ref r1), .unset] [(.int (1 : Int32))])) _
    refine XS.ifNo X4.here hx rfl (hb hby at_27) rfl ((if0 _ _).trans (feq (by decide : ¬ ((1 : Int32) = (0 : Int32)))).1) ?_
    show Steps p.tables e below (T4.setTop (mkF m 30 #[.val (.int x0), .val (.int (1 : Int32)), .val (.ref r1), .unset] [])) _
    refine XS.iconst X4.here hx rfl (hb hby at_30) ?_
    show Steps p.tables e below (T4.setTop (mkF m 31 #[.val (.int x0), .val (.int (1 : Int32)), .val (.ref r1), .unset] [(.int (1 : Int32))])) _
    refine XS.istoreN X4.here hx rfl (hb hby at_31) rfl (l' := #[.val (.int x0), .val (.int (1 : Int32)), .val (.ref r1), .val (.int (1 : Int32))]) rfl ?_
    show Steps p.tables e below (T4.setTop (mkF m 32 #[.val (.int x0), .val (.int (1 : Int32)), .val (.ref r1), .val (.int (1 : Int32))] [])) _
    refine XS.goto X4.here hx rfl (pc0 := 32) (pc' := 37) rfl (hb hby at_32) (by decide) (by decide) ?_
    show Steps p.tables e below (T4.setTop (mkF m 37 #[.val (.int x0), .val (.int (1 : Int32)), .val (.ref r1), .val (.int (1 : Int32))] [])) _
    refine XS.aloadN X4.here hx rfl (hb hby at_37) rfl rfl ?_
    show Steps p.tables e below (T4.setTop (mkF m 38 #[.val (.int x0), .val (.int (1 : Int32)), .val (.ref r1), .val (.int (1 : Int32))] [(.ref r1)])) _
    refine st7.trans ?_
    show Steps p.tables e below (T7.setTop (mkF m 41 #[.val (.int x0), .val (.int (1 : Int32)), .val (.ref r1), .val (.int (1 : Int32))] [(.int (1 : Int32))])) _
    refine XS.iloadN X7.here hx rfl (hb hby at_41) rfl ?_
    show Steps p.tables e below (T7.setTop (mkF m 42 #[.val (.int x0), .val (.int (1 : Int32)), .val (.ref r1), .val (.int (1 : Int32))] [(.int (1 : Int32)), (.int (1 : Int32))])) _
    refine XS.icmpNo X7.here hx rfl (hb hby at_42) rfl (teq (rfl : (1 : Int32) = (1 : Int32))).2 ?_
    show Steps p.tables e below (T7.setTop (mkF m 45 #[.val (.int x0), .val (.int (1 : Int32)), .val (.ref r1), .val (.int (1 : Int32))] [])) _
    refine XS.iconst X7.here hx rfl (hb hby at_45) ?_
    show Steps p.tables e below (T7.setTop (mkF m 46 #[.val (.int x0), .val (.int (1 : Int32)), .val (.ref r1), .val (.int (1 : Int32))] [(.int (1 : Int32))])) _
    refine XS.goto X7.here hx rfl (pc0 := 46) (pc' := 50) rfl (hb hby at_46) (by decide) (by decide) ?_
    show Steps p.tables e below (T7.setTop (mkF m 50 #[.val (.int x0), .val (.int (1 : Int32)), .val (.ref r1), .val (.int (1 : Int32))] [(.int (1 : Int32))])) _
    exact retN X7 hx (t := .boolean) Bd.returns (by simp) (hb hby at_50) hr
  · show Q0_1 Z x0 r1 h0 n0 _ T7.heap _
    rw [E7]
    exact ⟨rfl, N7⟩
theorem d1_11 : decode prog_42_method_4_code 11 = .ok (.iconst 0, 1) := by decide +kernel
def Q1_2 (Z : State) (r0 : Addr) (r1 : Addr) (h0 : Heap) (n0 : Nat) (v : Option Value) (h : Heap) (L : List Loc) : Prop := v = some (.int (0 : Int32)) ∧ Fr n0 L ∧ h = h0
set_option maxRecDepth 65536 in
set_option maxHeartbeats 40000000 in
theorem rm1_2 (l : Launch) (Z : State) (a0 : Array Value) (hw : ∀ d ∈ tables_1, d.before a0 Z = true) (ws : List Jvm.Cond) (r0 : Addr) (r1 : Addr) (h0 : Heap) (n0 : Nat) (O0 : Old Z n0 h0) (f1 : Sta Z Z.heap "com/example/basketwright/basketwright/core/ScreenMeasure" "AVERAGE_DAILY_VALUE_TRADED" "Lcom/example/basketwright/basketwright/core/ScreenMeasure;" (.ref r1)) (n4 : r0 ≠ r1) :
    MetFree l (⟨"com/example/basketwright/basketwright/core/ScreenMeasure", "hasMonths", "()Z"⟩ : MethodName) (head1 (Jvm.Cond.code (⟨"com/example/basketwright/basketwright/core/ScreenMeasure", "hasMonths", "()Z"⟩ : MethodName) prog_42_method_4_code 1 (some .boolean) :: ws) ({ frames := 0, cells := 0, slots := 0, locals := 0 } : Room)) (fun a U => a = #[(.ref r0)] ∧ Z.Warmed39 U.vm ∧ U.heap = h0) (fun _ _ _ _ _ => True) (fun _ U o U' => ∃ v L, o = .returned v ∧ Q1_2 Z r0 r1 h0 n0 v U'.heap L ∧ FrameEnd U o U' L ({ frames := 0, cells := 0, slots := 0, locals := 0 } : Room).cells ({ frames := 0, cells := 0, slots := 0, locals := 0 } : Room).slots) := by
  refine MetFree.of_bodySF (plainFor_of_name pn_com_example_basketwright_basketwright_core_ScreenMeasure) hisR ?_
  intro p e s m args below meth c s₁ Bd hml0 hP hK
  obtain ⟨rfl, hZ, hh⟩ := hP
  have hx := Bd.exec
  have hby := Bd.bytes
  have hml : c.maxLocals = 1 := hml0
  have hown : s.vm.findClass "com/example/basketwright/basketwright/core/ScreenMeasure" = some m.cls := findClass_of_methodNamed Bd.named
  have hnm := (name_of_methodNamed Bd.named Bd.method).1
  have X0 : Stand p l e ({ frames := 0, cells := 0, slots := 0, locals := 0 } : Room) s m #[(.ref r0)] below meth c s₁ [] 0 0 := Stand.of_body Bd
  have e0 : s₁.heap = h0 := by rw [← hh, Bd.state]; rfl
  have N0 := Fr.nil n0
  have pre0 : ∀ t, Steps p.tables e below (s₁.setTop (mkF m 0 #[.val (.ref r0)] [])) t → Steps p.tables e below (s₁.setTop (entryFrame m #[(.ref r0)] 1)) t := fun t k => castTop (by first | (simp [entryFrame, mkF, argsToLocals, Value.category]; done) | rfl) k
  have f2 := f1.ext O0.2
  obtain ⟨T3, X3, e3, st3⟩ := getS2 X0 hx hZ hown (host := "") (Or.inl (ww hw 8 rfl)) Via.refl e0 f2 (g := (mkF m 1 #[.val (.ref r0)] [(.ref r0)])) rfl (hb hby d1_1)
  obtain ⟨fs, hr, hrun, hended, hW, hsame⟩ := X3.leave (v := some (.int (0 : Int32))) (fun h => by rw [Bd.returns] at h; cases h)
  refine ⟨_, _, pre0 _ ?_, hrun, hended, _, _, rfl, ?_, ⟨_, rfl⟩, hW, hsame.mono (by decide) (by decide)⟩
  · show Steps p.tables e below (s₁.setTop (mkF m 0 #[.val (.ref r0)] [])) _
    refine XS.aloadN X0.here hx rfl (hb hby d1_0) rfl rfl ?_
    show Steps p.tables e below (s₁.setTop (mkF m 1 #[.val (.ref r0)] [(.ref r0)])) _
    refine st3 _ ?_
    show Steps p.tables e below (T3.setTop (mkF m 4 #[.val (.ref r0)] [(.ref r1), (.ref r0)])) _
    refine Jvm.RoadKit.acmp (g := (mkF m 4 #[.val (.ref r0)] [(.ref r1), (.ref r0)])) X3 hx rfl rfl rfl (pc0 := 4) (pc' := 11) (same := false) rfl (hb hby d1_4) rfl (decide_eq_false fun q => n4 (Value.ref.inj q)) (by decide) (by decide) ?_
    show Steps p.tables e below (T3.setTop (mkF m 11 #[.val (.ref r0)] [])) _
    refine XS.iconst X3.here hx rfl (hb hby d1_11) ?_
    show Steps p.tables e below (T3.setTop (mkF m 12 #[.val (.ref r0)] [(.int (0 : Int32))])) _
    exact retN X3 hx (t := .boolean) Bd.returns (by simp) (hb hby d1_12) hr
  · show Q1_2 Z r0 r1 h0 n0 _ T3.heap _
    rw [e3]
    exact ⟨rfl, N0, rfl⟩
def Q0_2 (Z : State) (x0 : Int32) (r1 : Addr) (r2 : Addr) (h0 : Heap) (n0 : Nat) (v : Option Value) (h : Heap) (L : List Loc) : Prop := v = some (.int (1 : Int32)) ∧ Fr n0 L
set_option maxRecDepth 65536 in
set_option maxHeartbeats 40000000 in
theorem rm0_2 (l : Launch) (Z : State) (a0 : Array Value) (hw : ∀ d ∈ tables_1, d.before a0 Z = true) (ws : List Jvm.Cond) (x0 : Int32) (r1 : Addr) (r2 : Addr) (h0 : Heap) (n0 : Nat) (O0 : Old Z n0 h0) (hc1 : ¬ ((x0 &&& (1 : Int32)) = (0 : Int32))) (f2 : Sta Z Z.heap "com/example/basketwright/basketwright/core/ScreenMeasure" "FREE_FLOAT_MARKET_CAP" "Lcom/example/basketwright/basketwright/core/ScreenMeasure;" (.ref r1)) (f5 : Exa Z Z.heap r1 "com/example/basketwright/basketwright/core/ScreenMeasure") (f7 : Sta Z Z.heap "com/example/basketwright/basketwright/core/ScreenMeasure" "AVERAGE_DAILY_VALUE_TRADED" "Lcom/example/basketwright/basketwright/core/ScreenMeasure;" (.ref r2)) (n8 : r1 ≠ r2) :
    MetFree l x (head1 (Jvm.Cond.code x code maxLocals ret :: ws) room_1) (fun a U => a = #[(.int x0)] ∧ Z.Warmed39 U.vm ∧ U.heap = h0) (fun _ _ _ _ _ => True) (fun _ U o U' => ∃ v L, o = .returned v ∧ Q0_2 Z x0 r1 r2 h0 n0 v U'.heap L ∧ FrameEnd U o U' L room_1.cells room_1.slots) := by
  refine MetFree.of_bodySF (plainFor_of_name pn_com_example_basketwright_basketwright_core_ScreenMeasureHasMonthsPinLaw) hisR ?_
  intro p e s m args below meth c s₁ Bd hml0 hP hK
  obtain ⟨rfl, hZ, hh⟩ := hP
  have hx := Bd.exec
  have hby := Bd.bytes
  have hml : c.maxLocals = 4 := hml0
  have hown : s.vm.findClass "com/example/basketwright/basketwright/core/ScreenMeasureHasMonthsPinLaw" = some m.cls := findClass_of_methodNamed Bd.named
  have hnm := (name_of_methodNamed Bd.named Bd.method).1
  have X0 : Stand p l e room_1 s m #[(.int x0)] below meth c s₁ [] 0 0 := Stand.of_body Bd
  have e0 : s₁.heap = h0 := by rw [← hh, Bd.state]; rfl
  have N0 := Fr.nil n0
  have pre0 : ∀ t, Steps p.tables e below (s₁.setTop (mkF m 0 #[.val (.int x0), .unset, .unset, .unset] [])) t → Steps p.tables e below (s₁.setTop (entryFrame m #[(.int x0)] maxLocals)) t := fun t k => castTop (by first | (simp [entryFrame, mkF, argsToLocals, Value.category, maxLocals]; done) | rfl) k
  have f3 := f2.ext O0.2
  obtain ⟨T4, X4, e4, st4⟩ := getS2 X0 hx hZ hown (host := "") (Or.inl (ww hw 9 rfl)) Via.refl e0 f3 (g := (mkF m 22 #[.val (.int x0), .val (.int (0 : Int32)), .unset, .unset] [])) rfl (hb hby at_22)
  have f6 := f5.ext O0.2
  obtain ⟨cqq10, kqq10, qq10a, qq10b, qq10c⟩ := isOf hZ e4 f6
  obtain ⟨_, _, ⟨T9, L9, k9, n9⟩, -, X9, ⟨Lc9, hQ9, l9, y9, z9⟩, st9⟩ := X4.virtualBack hx (y := (⟨"com/example/basketwright/basketwright/core/ScreenMeasure", "hasMonths", "()Z"⟩ : MethodName)) (z := (⟨"com/example/basketwright/basketwright/core/ScreenMeasure", "hasMonths", "()Z"⟩ : MethodName)) hown (mvT hZ (ww hw 3 rfl)) (mvT hZ (ww hw 4 rfl)) (notFace_of_selects (args := #[]) (mvT hZ (ww hw 6 rfl))) (mvT hZ (ww hw 6 rfl)) (mvT hZ (ww hw 5 rfl)) (by decide) (backOf (W := 0) (rm1_2 l Z a0 hw [] r1 r2 h0 n0 O0 f7 n8) hZ (ww hw 7 rfl) (ww hw 1 rfl) (by decide) (by decide)) qq10a qq10c (g := (mkF m 38 #[.val (.int x0), .val (.int (0 : Int32)), .val (.ref r1), .val (.int (0 : Int32))] [(.ref r1)])) rfl (by rw [hml]; rfl) (Steps.refl _) (argsL := []) (rest := []) (lenOf pd___Z rfl) rfl (by show 2 * 0 + _ ≤ _; exact Nat.le_of_eq rfl) (hb hby at_38) (fun _ _ => ⟨rfl, e4, (by decide : 0 + 0 ≤ _), (by decide : 0 + 0 ≤ _)⟩)
  dsimp only [Pt.U, Pt.locs, Pt.cells, Pt.slots] at X9 l9 y9 z9 st9 hQ9
  subst l9 y9 z9
  obtain ⟨rfl, N9q, E9⟩ := hQ9
  have N9 := Fr.app N0 N9q
  obtain ⟨fs, hr, hrun, hended, hW, hsame⟩ := X9.leave (v := some (.int (1 : Int32))) (fun h => by rw [Bd.returns] at h; cases h)
  refine ⟨_, _, pre0 _ ?_, hrun, hended, _, _, rfl, ?_, ⟨_, rfl⟩, hW, hsame.mono (by decide) (by decide)⟩
  · show Steps p.tables e below (s₁.setTop (mkF m 0 #[.val (.int x0), .unset, .unset, .unset] [])) _
    refine XS.iloadN X0.here hx rfl (hb hby at_0) rfl ?_
    show Steps p.tables e below (s₁.setTop (mkF m 1 #[.val (.int x0), .unset, .unset, .unset] [(.int x0)])) _
    refine XS.iconst X0.here hx rfl (hb hby at_1) ?_
    show Steps p.tables e below (s₁.setTop (mkF m 2 #[.val (.int x0), .unset, .unset, .unset] [(.int (1 : Int32)), (.int x0)])) _
    refine XS.iand X0.here hx rfl (hb hby at_2) rfl ?_
    show Steps p.tables e below (s₁.setTop (mkF m 3 #[.val (.int x0), .unset, .unset, .unset] [(.int (x0 &&& (1 : Int32)))])) _
    refine XS.ifYes X0.here hx rfl (pc0 := 3) (pc' := 10) rfl (hb hby at_3) rfl ((if0 _ _).trans (feq hc1).2) (by decide) (by decide) ?_
    show Steps p.tables e below (s₁.setTop (mkF m 10 #[.val (.int x0), .unset, .unset, .unset] [])) _
    refine XS.iconst X0.here hx rfl (hb hby at_10) ?_
    show Steps p.tables e below (s₁.setTop (mkF m 11 #[.val (.int x0), .unset, .unset, .unset] [(.int (0 : Int32))])) _
    refine XS.istoreN X0.here hx rfl (hb hby at_11) rfl (l' := #[.val (.int x0), .val (.int (0 : Int32)), .unset, .unset]) rfl ?_
    show Steps p.tables e below (s₁.setTop (mkF m 12 #[.val (.int x0), .val (.int (0 : Int32)), .unset, .unset] [])) _
    refine XS.iloadN X0.here hx rfl (hb hby at_12) rfl ?_
    show Steps p.tables e below (s₁.setTop (mkF m 13 #[.val (.int x0), .val (.int (0 : Int32)), .unset, .unset] [(.int (0 : Int32))])) _
    refine XS.ifYes X0.here hx rfl (pc0 := 13) (pc' := 22) rfl (hb hby at_13) rfl ((if0 _ _).trans (teq (rfl : (0 : Int32) = (0 : Int32))).1) (by decide) (by decide) ?_
    show Steps p.tables e below (s₁.setTop (mkF m 22 #[.val (.int x0), .val (.int (0 : Int32)), .unset, .unset] [])) _
    refine st4 _ ?_
    show Steps p.tables e below (T4.setTop (mkF m 25 #[.val (.int x0), .val (.int (0 : Int32)), .unset, .unset] [(.ref r1)])) _
    refine XS.astoreN X4.here hx rfl (hb hby at_25) rfl rfl (l' := #[.val (.int x0), .val (.int (0 : Int32)), .val (.ref r1), .unset]) rfl ?_
    show Steps p.tables e below (T4.setTop (mkF m 26 #[.val (.int x0), .val (.int (0 : Int32)), .val (.ref r1), .unset] [])) _
    refine XS.iloadN X4.here hx rfl (hb hby at_26) rfl ?_
    show Steps p.tables e below (T4.setTop (mkF m 27 #[.val (.int x0), .val (.int (0 : Int32)), .val (.ref r1), .unset] [(.int (0 : Int32))])) _
    refine XS.ifYes X4.here hx rfl (pc0 := 27) (pc' := 35) rfl (hb hby at_27) rfl ((if0 _ _).trans (teq (rfl : (0 : Int32) = (0 : Int32))).1) (by decide) (by decide) ?_
    show Steps p.tables e below (T4.setTop (mkF m 35 #[.val (.int x0), .val (.int (0 : Int32)), .val (.ref r1), .unset] [])) _
    refine XS.iconst X4.here hx rfl (hb hby at_35) ?_
    show Steps p.tables e below (T4.setTop (mkF m 36 #[.val (.int x0), .val (.int (0 : Int32)), .val (.ref r1), .unset] [(.int (0 : Int32))])) _
    refine XS.istoreN X4.here hx rfl (hb hby at_36) rfl (l' := #[.val (.int x0), .val (.int (0 : Int32)), .val (.ref r1), .val (.int (0 : Int32))]) rfl ?_
    show Steps p.tables e below (T4.setTop (mkF m 37 #[.val (.int x0), .val (.int (0 : Int32)), .val (.ref r1), .val (.int (0 : Int32))] [])) _
    refine XS.aloadN X4.here hx rfl (hb hby at_37) rfl rfl ?_
    show Steps p.tables e below (T4.setTop (mkF m 38 #[.val (.int x0), .val (.int (0 : Int32)), .val (.ref r1), .val (.int (0 : Int32))] [(.ref r1)])) _
    refine st9.trans ?_
    show Steps p.tables e below (T9.setTop (mkF m 41 #[.val (.int x0), .val (.int (0 : Int32)), .val (.ref r1), .val (.int (0 : Int32))] [(.int (0 : Int32))])) _
    refine XS.iloadN X9.here hx rfl (hb hby at_41) rfl ?_
    show Steps p.tables e below (T9.setTop (mkF m 42 #[.val (.int x0), .val (.int (0 : Int32)), .val (.ref r1), .val (.int (0 : Int32))] [(.int (0 : Int32)), (.int (0 : Int32))])) _
    refine XS.icmpNo X9.here hx rfl (hb hby at_42) rfl (teq (rfl : (0 : Int32) = (0 : Int32))).2 ?_
    show Steps p.tables e below (T9.setTop (mkF m 45 #[.val (.int x0), .val (.int (0 : Int32)), .val (.ref r1), .val (.int (0 : Int32))] [])) _
    refine XS.iconst X9.here hx rfl (hb hby at_45) ?_
    show Steps p.tables e below (T9.setTop (mkF m 46 #[.val (.int x0), .val (.int (0 : Int32)), .val (.ref r1), .val (.int (0 : Int32))] [(.int (1 : Int32))])) _
    refine XS.goto X9.here hx rfl (pc0 := 46) (pc' := 50) rfl (hb hby at_46) (by decide) (by decide) ?_
    show Steps p.tables e below (T9.setTop (mkF m 50 #[.val (.int x0), .val (.int (0 : Int32)), .val (.ref r1), .val (.int (0 : Int32))] [(.int (1 : Int32))])) _
    exact retN X9 hx (t := .boolean) Bd.returns (by simp) (hb hby at_50) hr
  · show Q0_2 Z x0 r1 r2 h0 n0 _ T9.heap _
    rw [E9]
    exact ⟨rfl, N9⟩
set_option maxRecDepth 65536 in
set_option maxHeartbeats 40000000 in
theorem comes_1 {Post : Tables → Env → Array Value → State → Outcome → State → Prop} (hpost : ∀ tb e args s v u, (limb_1_1.after args s (.returned v) u = true ∧ limb_1_2.after args s (.returned v) u = true ∧ True) → FrameEnd s (.returned v) u (Jvm.fieldLocs frame_1_writes args s ++ Jvm.arrayLocs frame_1_arrays args s ++ Jvm.staticLocs frame_1_statics s) 0 0 → Post tb e args s (.returned v) u) :
    ArmFor flags0 classFile x code maxLocals ret World_1 tables_1 room_1 Calls_1 rest_1 Pre_1 Post := by
  intro l hfl _ _ p e ha hc hk s m args below hf hA hF happ hP
  obtain ⟨hcalls, hrest, hpre⟩ := hP
  obtain ⟨-, -, -, hnamed, -, -, -, hat⟩ := (Spec.applies_iff hf).mp happ
  obtain ⟨hg, hn⟩ := and_e (Cond.before_iff.mp (show (Jvm.Cond.and given_1 narrow_1).before args s = true from hpre))
  obtain ⟨g0, hg⟩ := and_e hg
  obtain ⟨w0, rfl⟩ : ∃ w0 : Value, args = #[w0] := by
    have hs : args.size = 1 := by simpa [Cond.value, given_1] using g0
    obtain ⟨L⟩ := args
    match L, hs with
    | [w0], _ => exact ⟨w0, rfl⟩
  have hw := fun d (hd : d ∈ tables_1) => atoms_spec (ws := Jvm.Cond.code x code maxLocals ret :: tables_1) hat d (List.mem_cons_of_mem _ hd)
  have hfit : Fit s := fun {y c} hc i hi => by
    obtain ⟨ha, rfl⟩ := Array.getElem?_eq_some_iff.mp hc
    have q := List.all_eq_true.mp ((Array.all_eq_true_iff_forall_mem.mp hF) _ (Array.getElem_mem ha)) i (List.mem_range.mpr hi)
    simpa [Array.getElem?_eq_getElem hi] using q
  obtain ⟨i0, ei0⟩ := is_v hg
  obtain rfl : w0 = (.int i0) := Option.some.inj ei0
  suffices hM : MetFree l x (head1 (Jvm.Cond.code x code maxLocals ret :: tables_1) room_1) (fun a U => a = #[(.int i0)] ∧ s.Warmed39 U.vm ∧ U.heap = s.heap) (fun _ _ _ _ _ => True) (fun _ U o U' => ∃ v L, o = .returned v ∧ (v = some (.int (1 : Int32)) ∧ Fr s.heap.size L) ∧ FrameEnd U o U' L room_1.cells room_1.slots) by
    obtain ⟨n, o, h1, h2, h3, _, L, rfl, ⟨rfl, N⟩, hq⟩ := hM p e ha hc hk s m _ below hf ((Spec.applies_iff_loose hf).mp happ).1 ⟨rfl, State.Warmed39.refl s, rfl⟩ trivial
    refine ⟨n, _, h1, h2, h3, hpost _ _ _ _ _ _ ⟨Cond.after_iff.mpr rfl, Cond.after_iff.mpr (eq_i res_at (Term.int_eval (1)) rfl), trivial⟩ ⟨hq.1, hq.2.1, (hq.2.2.sift fun y hy => Or.inr (N y hy)).mono (by decide) (by decide)⟩⟩
  obtain ⟨hx1, hn⟩ := and_e hn
  obtain ⟨hx2, hn⟩ := and_e hn
  obtain ⟨ho1, ho2⟩ := and_e hn
  obtain ⟨rA, eA⟩ := exa_v hx1
  obtain ⟨rB, eB⟩ := exa_v hx2
  have SA := Sta.start eA (Or.inr ⟨ww hw 1 rfl, ww hw 2 rfl⟩)
  have SB := Sta.start eB (Or.inr ⟨ww hw 1 rfl, ww hw 10 rfl⟩)
  have EA := Exa.start eA hx1
  have EB := Exa.start eB hx2
  have fB := Fld.start ((fld_at eB).symm.trans (eqv_i (y := 1) rfl ho1))
  have fA := Fld.start ((fld_at eA).symm.trans (eqv_i (y := 0) rfl ho2))
  have nBA : rB ≠ rA := Fld.ne fB fA (by simp)
  by_cases hq : (i0 &&& (1 : Int32)) = (0 : Int32)
  · exact rm0_1 l s _ hw tables_1 i0 rA _ _ (Old.start s) hq SA EA
  · exact rm0_2 l s _ hw tables_1 i0 rB rA _ _ (Old.start s) hq SB EB SA nBA
theorem main_1_1 : Claimed_1_1 := comes_1 fun _ _ _ _ _ _ h hF => ⟨h.1, hF⟩
theorem main_1_2 : Claimed_1_2 := comes_1 fun _ _ _ _ _ _ h hF => ⟨h.2.1, hF⟩
end Jvm.Pilot.@@N@@
namespace Jvm.Pilot.@@N@@
open Jvm Jvm.ClassFile Sem Op Lib Jvm.Free Jvm.Stand Jvm.Pilot.@@N@@.Jvm.D
/-! MADE BY PROGRAM (witnessworld.py) out of the Statement's table words and the real class files: 10 classes; the members and pool entries that the words name. The judged class is class 1, her method 1. -/
namespace start1
open Jvm.ClassFile
def u (s : String) : CpInfo := .utf8 (stringToUtf16 s)
/-- a pool by its gaps: so many unusable entries, then the entry; so many at the end -/
def gap : Nat → List CpInfo → List CpInfo
  | 0, r => r
  | n + 1, r => .unusable :: gap n r
def poolList (es : List (Nat × CpInfo)) (last : Nat) : List CpInfo := es.foldr (fun e r => gap e.1 (e.2 :: r)) (gap last [])
def pool (es : List (Nat × CpInfo)) (last : Nat) : Array CpInfo := ⟨poolList es last⟩
def fileOf (pool : Array CpInfo) (this : Nat) (attrs : Array Attribute := #[]) (ms : Array MethodInfo := #[]) (fl : Nat := 33) (sup : Nat := 0) (ifs : Array Nat := #[]) (fds : Array FieldInfo := #[]) : ClassFile where
  minorVersion := 0
  majorVersion := 65
  constantPool := pool
  accessFlags := fl
  thisClass := this
  superClass := sup
  interfaces := ifs
  fields := fds
  methods := ms
  attributes := attrs
def plain (name : String) (sup : Option ClassId) : Class where
  name := name
  kind := .ordinary
  loader := none
  accessFlags := 33
  super := sup
  interfaces := #[]
  cf := none
  fields := #[]
  methods := #[]
  instanceTypes := #[]
  staticTypes := #[]
  resolved := #[]
  callSites := []
  init := .initialized
  statics := none
  mirror := none

def pool0 : Array CpInfo := pool [(5, u "<init>"), (0, u "()V"), (1, .class_ 10), (1, u "java/lang/Object")] 113

def k0m0 : Method := { name := "<init>", desc := "()V", sig := { parameters := [], returnType := none }, accessFlags := 1, code := none }
/-- java/lang/Object -/
def k0 : Class := { plain "java/lang/Object" none with
  accessFlags := 33
  interfaces := #[]
  cf := some (fileOf pool0 8 #[] #[{ accessFlags := 1, nameIndex := 5, descriptorIndex := 6, attributes := #[] }] 33 0 #[] #[])
  fields := #[]
  methods := #[k0m0]
  instanceTypes := #[]
  staticTypes := #[]
  resolved := Array.replicate 124 none
  statics := none }

def pool1 : Array CpInfo := pool [(2, .class_ 4), (1, u "java/lang/Object"), (0, u "<init>"), (0, u "()V"), (0, .fieldref 8 9), (0, .class_ 10), (0, .nameAndType 11 12), (0, u "com/example/basketwright/basketwright/core/ScreenMeasure"), (0, u "AVERAGE_DAILY_VALUE_TRADED"), (0, u "Lcom/example/basketwright/basketwright/core/ScreenMeasure;"), (0, .fieldref 8 14), (0, .nameAndType 15 12), (0, u "FREE_FLOAT_MARKET_CAP"), (0, .methodref 8 17), (0, .nameAndType 18 19), (0, u "hasMonths"), (0, u "()Z"), (0, .class_ 21), (0, u "com/example/basketwright/basketwright/core/ScreenMeasureHasMonthsPinLaw"), (2, u "law"), (0, u "(I)Z")] 3

def k1m0 : Method := { name := "<init>", desc := "()V", sig := { parameters := [], returnType := none }, accessFlags := 1, code := none }
def k1c1 : Code := { maxStack := 2, maxLocals := 4, code := code, exceptionTable := #[], attributes := #[] }
def k1m1 : Method := { name := "law", desc := "(I)Z", sig := { parameters := [.int], returnType := some .boolean }, accessFlags := 9, code := some k1c1 }
/-- com/example/basketwright/basketwright/core/ScreenMeasureHasMonthsPinLaw -/
def k1 : Class := { plain "com/example/basketwright/basketwright/core/ScreenMeasureHasMonthsPinLaw" (some 0) with
  accessFlags := 49
  interfaces := #[]
  cf := some (fileOf pool1 20 #[] #[{ accessFlags := 1, nameIndex := 5, descriptorIndex := 6, attributes := #[] }, { accessFlags := 9, nameIndex := 24, descriptorIndex := 25, attributes := #[] }] 49 2 #[] #[])
  fields := #[]
  methods := #[k1m0, k1m1]
  instanceTypes := #[]
  staticTypes := #[]
  resolved := Array.replicate 29 none
  statics := none }

def pool2 : Array CpInfo := pool [(1, .class_ 2), (0, u "java/lang/constant/Constable"), (0, .class_ 4), (0, u "java/lang/Object")] 6

/-- java/lang/constant/Constable -/
def k2 : Class := { plain "java/lang/constant/Constable" (some 0) with
  accessFlags := 1537
  interfaces := #[]
  cf := some (fileOf pool2 1 #[] #[] 1537 3 #[] #[])
  fields := #[]
  methods := #[]
  instanceTypes := #[]
  staticTypes := #[]
  resolved := Array.replicate 11 none
  statics := none }

def pool3 : Array CpInfo := pool [(1, .class_ 2), (0, u "java/lang/Comparable"), (0, .class_ 4), (0, u "java/lang/Object")] 7

/-- java/lang/Comparable -/
def k3 : Class := { plain "java/lang/Comparable" (some 0) with
  accessFlags := 1537
  interfaces := #[]
  cf := some (fileOf pool3 1 #[] #[] 1537 3 #[] #[])
  fields := #[]
  methods := #[]
  instanceTypes := #[]
  staticTypes := #[]
  resolved := Array.replicate 12 none
  statics := none }

def pool4 : Array CpInfo := pool [(1, .class_ 2), (0, u "java/io/Serializable"), (0, .class_ 4), (0, u "java/lang/Object")] 2

/-- java/io/Serializable -/
def k4 : Class := { plain "java/io/Serializable" (some 0) with
  accessFlags := 1537
  interfaces := #[]
  cf := some (fileOf pool4 1 #[] #[] 1537 3 #[] #[])
  fields := #[]
  methods := #[]
  instanceTypes := #[]
  staticTypes := #[]
  resolved := Array.replicate 7 none
  statics := none }

def pool5 : Array CpInfo := pool [(2, .class_ 4), (1, u "java/lang/Enum"), (0, u "name"), (0, u "Ljava/lang/String;"), (2, u "ordinal"), (0, u "I"), (1, .class_ 14), (1, u "java/lang/Object"), (4, u "hash"), (86, .class_ 108), (1, u "java/lang/Enum$EnumDesc"), (2, .class_ 112), (0, u "java/lang/constant/Constable"), (0, .class_ 114), (0, u "java/lang/Comparable"), (0, .class_ 116), (0, u "java/io/Serializable")] 87

/-- java/lang/Enum -/
def k5 : Class := { plain "java/lang/Enum" (some 0) with
  accessFlags := 1057
  interfaces := #[2, 3, 4]
  cf := some (fileOf pool5 2 #[.nestMembers #[106]] #[] 1057 12 #[111, 113, 115] #[{ accessFlags := 18, nameIndex := 5, descriptorIndex := 6, attributes := #[] }, { accessFlags := 18, nameIndex := 9, descriptorIndex := 10, attributes := #[] }, { accessFlags := 2, nameIndex := 19, descriptorIndex := 10, attributes := #[] }])
  fields := #[{ name := "name", type := (.object "java/lang/String"), accessFlags := 18, slot := 0, constantValue := 0 }, { name := "ordinal", type := .int, accessFlags := 18, slot := 1, constantValue := 0 }, { name := "hash", type := .int, accessFlags := 2, slot := 2, constantValue := 0 }]
  methods := #[]
  instanceTypes := #[(.object "java/lang/String"), .int, .int]
  staticTypes := #[]
  resolved := Array.replicate 204 none
  statics := none }

def pool6 : Array CpInfo := pool [(1, .class_ 2), (0, u "com/example/basketwright/basketwright/core/ScreenMeasure"), (0, .fieldref 1 4), (0, .nameAndType 5 6), (0, u "AVERAGE_DAILY_VALUE_TRADED"), (0, u "Lcom/example/basketwright/basketwright/core/ScreenMeasure;"), (2, u "FREE_FLOAT_MARKET_CAP"), (2, u "$VALUES"), (0, u "[Lcom/example/basketwright/basketwright/core/ScreenMeasure;"), (6, .class_ 22), (1, u "java/lang/Enum"), (36, u "hasMonths"), (0, u "()Z")] 6

def k6c0 : Code := { maxStack := 2, maxLocals := 1, code := prog_42_method_4_code, exceptionTable := #[], attributes := #[] }
def k6m0 : Method := { name := "hasMonths", desc := "()Z", sig := { parameters := [], returnType := some .boolean }, accessFlags := 1, code := some k6c0 }
/-- com/example/basketwright/basketwright/core/ScreenMeasure -/
def k6 : Class := { plain "com/example/basketwright/basketwright/core/ScreenMeasure" (some 5) with
  accessFlags := 16433
  interfaces := #[]
  cf := some (fileOf pool6 1 #[] #[{ accessFlags := 1, nameIndex := 59, descriptorIndex := 60, attributes := #[] }] 16433 20 #[] #[{ accessFlags := 16409, nameIndex := 5, descriptorIndex := 6, attributes := #[] }, { accessFlags := 16409, nameIndex := 9, descriptorIndex := 6, attributes := #[] }, { accessFlags := 4122, nameIndex := 12, descriptorIndex := 13, attributes := #[] }])
  fields := #[{ name := "AVERAGE_DAILY_VALUE_TRADED", type := (.object "com/example/basketwright/basketwright/core/ScreenMeasure"), accessFlags := 16409, slot := 0, constantValue := 0 }, { name := "FREE_FLOAT_MARKET_CAP", type := (.object "com/example/basketwright/basketwright/core/ScreenMeasure"), accessFlags := 16409, slot := 1, constantValue := 0 }, { name := "$VALUES", type := (.array (.object "com/example/basketwright/basketwright/core/ScreenMeasure")), accessFlags := 4122, slot := 2, constantValue := 0 }]
  methods := #[k6m0]
  instanceTypes := #[(.object "java/lang/String"), .int, .int]
  staticTypes := #[(.object "com/example/basketwright/basketwright/core/ScreenMeasure"), (.object "com/example/basketwright/basketwright/core/ScreenMeasure"), (.array (.object "com/example/basketwright/basketwright/core/ScreenMeasure"))]
  resolved := Array.replicate 67 none
  statics := some 0 }

def pool7 : Array CpInfo := pool [(1, u "java/lang/Cloneable"), (0, .class_ 1), (0, u "java/lang/Object"), (0, .class_ 3)] 3

/-- java/lang/Cloneable -/
def k7 : Class := { plain "java/lang/Cloneable" (some 0) with
  accessFlags := 1537
  interfaces := #[]
  cf := some (fileOf pool7 2 #[] #[] 1537 4 #[] #[])
  fields := #[]
  methods := #[]
  instanceTypes := #[]
  staticTypes := #[]
  resolved := Array.replicate 8 none
  statics := none }

/-- the primitive byte -/
def k8 : Class := { plain "byte" none with kind := .primitive 'B', accessFlags := 0x411 }
/-- [B -/
def k9 : Class := { plain "[B" (some 0) with kind := .array 8 .byte, interfaces := #[7, 4], accessFlags := 1041 }

def heap : Heap := #[{ cls := 6, slots := #[.ref 1, .ref 2, .null], vm := .statics 6 },
  { cls := 6, slots := #[.null, .int 0, .int 0], vm := .none },
  { cls := 6, slots := #[.null, .int 1, .int 0], vm := .none }]
def classes : Array Class := #[k0, k1, k2, k3, k4, k5, k6, k7, k8, k9]
def interned : List (Array UInt16 × Addr) := []
def slotsUsed : Nat := 9
def theMethod : MethodId := ⟨1, 1⟩
def args0 : Array Value := #[.int 5]
def aboutOver (below : List Frame) : State where
  vm := { classes := classes, interned := interned.toArray }
  heap := heap
  slotsUsed := slotsUsed
  threads := #[{ frames := .invoking theMethod args0 :: below }]
def below0 : List Frame := [.native { method := ⟨0, 0⟩, args := #[] }]
def about1 : State := aboutOver below0
def p0 : Program := .bare "" "" ""
def e0 : Env := launch0.env 0 0 0
theorem w_frames : about1.frames = Frame.invoking theMethod args0 :: below0 := rfl
set_option maxRecDepth 65536 in
theorem w_args : argsFit about1.vm theMethod args0 = true := by decide +kernel
set_option maxRecDepth 65536 in
theorem w_heap : heapFits about1 = true := by decide +kernel
set_option maxRecDepth 65536 in
theorem w_runnable : about1.curStatus? = some .runnable := by decide +kernel
set_option maxRecDepth 65536 in
theorem w_alone : about1.alone = true := by decide +kernel
set_option maxRecDepth 65536 in
theorem w_named : about1.methodNamed? x = some theMethod := by decide +kernel
set_option maxRecDepth 65536 in
theorem w_hears : about1.hears theMethod below0 = true := by decide +kernel
set_option maxRecDepth 65536 in
theorem w_ripe : about1.ripe theMethod args0 below0 = true := by decide +kernel
theorem w_running : about1.status = .running := rfl
set_option maxRecDepth 65536 in
theorem w_room : about1.hasRoom e0.platform room_1 = true :=
  launch0.hasRoom_least _ room_1 (by decide +kernel) (by decide +kernel) (by decide +kernel) (by decide +kernel) (by decide +kernel) (by decide +kernel)
theorem allAtoms_all (ts : List Jvm.Cond) (a : Array Jvm.Value) (st : Jvm.State) : (allAtoms ts).before a st = ts.all (fun c => c.before a st) := by
  induction ts with
  | nil => rfl
  | cons c t ih =>
    show (Jvm.Cond.and c (allAtoms t)).before a st = _
    rw [Jvm.Cond.before_and, ih, List.all_cons]
def words1 : List Jvm.Cond := Jvm.Cond.code x code maxLocals ret :: tables_1
/-- a 'code' word, met by the world's own term for the bytes: nothing is compared byte by byte -/
theorem code_word {y : MethodName} {bytes : ByteArray} {mx : Nat} {rt : Option FieldType} {a : Array Value} {s : State} {m : MethodId} {meth : Method} {c : Code} (h1 : s.methodNamed? y = some m) (h2 : s.vm.method? m = some meth) (h3 : meth.code = some c) (h4 : c.code = bytes)
    (h5 : (c.maxLocals == mx && c.exceptionTable.isEmpty && decide (c.maxStack ≤ mostOperands) && decide (meth.sig.returnType = rt) && !meth.locks && decide (parseMethodDescriptor y.desc = some meth.sig)) = true) : (Jvm.Cond.code y bytes mx rt).before a s = true := by
  simp only [Bool.and_eq_true, beq_iff_eq, Bool.not_eq_true', decide_eq_true_eq] at h5
  obtain ⟨⟨⟨⟨⟨g1, g2⟩, g3⟩, g4⟩, g5⟩, g6⟩ := h5
  simp [Cond.before, Cond.holds, Cond.value, h1, h2, h3, h4, g1, g2, g3, g4, g5, g6]
def isCode : Jvm.Cond → Bool
  | .code _ _ _ _ => true
  | _ => false
theorem all_split {L : List Jvm.Cond} {P : Jvm.Cond → Bool} (h1 : L.all (fun c => isCode c || P c) = true) (h2 : ∀ c ∈ L.filter isCode, P c = true) : L.all P = true := by
  refine List.all_eq_true.mpr fun c hc => ?_
  have h := List.all_eq_true.mp h1 c hc
  rcases Bool.eq_false_or_eq_true (isCode c) with hi | hi
  · exact h2 c (List.mem_filter.mpr ⟨hc, hi⟩)
  · simpa [hi] using h
set_option maxRecDepth 65536 in
theorem w_c0 : (Jvm.Cond.code x code maxLocals ret).before args0 about1 = true := code_word (m := ⟨1, 1⟩) (meth := k1m1) (c := k1c1) (by decide +kernel) rfl rfl rfl (by decide +kernel)
set_option maxRecDepth 65536 in
theorem w_c1 : (Jvm.Cond.code ({ cls := "com/example/basketwright/basketwright/core/ScreenMeasure", name := "hasMonths", desc := "()Z" } : Jvm.MethodName) prog_42_method_4_code (1 : Nat) (Option.some Jvm.ClassFile.FieldType.boolean)).before args0 about1 = true := code_word (m := ⟨6, 0⟩) (meth := k6m0) (c := k6c0) (by decide +kernel) rfl rfl rfl (by decide +kernel)
def codes1 : List Jvm.Cond := [Jvm.Cond.code x code maxLocals ret, Jvm.Cond.code ({ cls := "com/example/basketwright/basketwright/core/ScreenMeasure", name := "hasMonths", desc := "()Z" } : Jvm.MethodName) prog_42_method_4_code (1 : Nat) (Option.some Jvm.ClassFile.FieldType.boolean)]
set_option maxRecDepth 65536 in
theorem codes_eq : words1.filter isCode = codes1 := rfl
theorem w_codes : ∀ c ∈ words1.filter isCode, c.before args0 about1 = true := by
  rw [codes_eq]
  intro c hc
  simp only [codes1, List.mem_cons, List.not_mem_nil, or_false] at hc
  rcases hc with rfl | rfl
  · exact w_c0
  · exact w_c1
set_option maxRecDepth 65536 in
theorem w_t1 : words1.all (fun c => isCode c || c.before args0 about1) = true := by decide +kernel
theorem w_tables : (allAtoms (Jvm.Cond.code x code maxLocals ret :: tables_1)).before args0 about1 = true := by
  rw [allAtoms_all]
  show words1.all (fun c => c.before args0 about1) = true
  refine all_split ?_ w_codes
  rw [w_t1]
set_option maxRecDepth 65536 in
theorem w_case : (Jvm.Cond.and given_1 narrow_1).before args0 about1 = true := by decide +kernel
theorem w_applies : (headSpec (Jvm.Cond.code x code maxLocals ret :: tables_1) room_1).applies x e0.platform about1 = true :=
  (Spec.applies_iff w_frames).mpr ⟨w_running, w_runnable, w_alone, w_named, w_hears, w_ripe, w_room, w_tables⟩
theorem atStart : AtStart classFile x code maxLocals ret World_1 tables_1 room_1 Calls_1 rest_1 Pre_1 launch0 p0 e0 about1 theMethod args0 below0 :=
  ⟨lists_1, trivial, launch0.admits_env _ _ _, launch0.least_env, fairChoices_fair.cas, fairChoices_fair.clock, w_frames, w_args, w_heap, w_applies, trivial, trivial, w_case⟩
end start1
theorem witness_1 : WitnessClaimed_1 := ⟨start1.p0, start1.e0, start1.about1, start1.theMethod, start1.args0, start1.below0, start1.atStart⟩
end Jvm.Pilot.@@N@@
