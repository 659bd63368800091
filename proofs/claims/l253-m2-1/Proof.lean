import JvmDerived
import JvmDerived.Pilot.@@N@@Statement
import JvmDerived.Pilot.@@N@@Code
set_option linter.unusedVariables false
set_option linter.unusedSimpArgs false
namespace Jvm.Pilot.@@N@@
open Jvm Jvm.ClassFile Sem Op Lib Jvm.Free Jvm.Stand Jvm.LawKit Jvm.RoadKit Bundle Jvm.Pilot.@@N@@.Jvm.D
theorem ww {Z : State} {a0 : Array Value} (hw : ∀ d ∈ tables_1, d.before a0 Z = true) (i : Nat) {d : Jvm.Cond} (h : tables_1[i]? = some d) : d.before a0 Z = true := hw d (List.mem_of_getElem? h)
abbrev cs0 : String := "com/example/links_to_ranks/linkstoranks/LongList"
abbrev cs1 : String := "com/example/links_to_ranks/linkstoranks/LongList$View"
abbrev cs2 : String := "()Lcom/example/links_to_ranks/linkstoranks/LongList$View;"
abbrev cs3 : String := "com/example/links_to_ranks/linkstoranks/LongListViewPinLaw"
section OwnRef
variable {p : Program} {l : Launch} {e : Env} {R : Room} {s : State} {m : MethodId} {args : Array Value} {below : List Frame} {meth : Method} {c : Code} {T : State} {locs : List Loc} {cells slots : Nat}
theorem own_specialRef (X : Stand p l e R s m args below meth c T locs cells slots) (hexec : p.tables.exec = Jvm.exec) {Z : State} {a0 : Array Value} (hZ : Z.Warmed39 s.vm) {own : String} {index : Nat} {y : MethodName} (hy1 : y.name = "<init>")
    (hown : s.vm.findClass own = some m.cls) (w1 : (Jvm.Cond.methodRef own index y).before a0 Z = true) (hinst : (Jvm.Cond.instanceMethod y).before args s = true)
    {bytes : ByteArray} {maxL : Nat} (hcode : (Jvm.Cond.code y bytes maxL none).before args s = true)
    (hy : y.cls ≠ "java/lang/invoke/MethodHandle" ∧ y.cls ≠ "java/lang/invoke/VarHandle")
    {W : Nat} {Pre : Pt → Array Value → Prop} {Post : Pt → Array Value → Option Value → Pt → Prop} (hK : Back l R p e below s args y 3 W Pre Post)
    {g : JFrame} (hg : g.method = m) (hsize : g.locals.size = c.maxLocals) {s₀ : State} (hcome : Steps p.tables e below s₀ (T.setTop g)) {a : Addr} {argsL rest : List Value}
    (hlen : ∀ sig, parseMethodDescriptor y.desc = some sig → argsL.length = sig.parameters.length) (hstack : g.stack = argsL.reverse ++ .ref a :: rest) (hW : 2 * g.monitorRoom + (rest.map fun v => v.category).sum ≤ W)
    (hdg : decode c.code g.pc = .ok (.invokespecial index, 3)) (hpre : ∀ vm₁, s.WarmedH vm₁ → Pre ⟨T.setVm vm₁, locs, cells, slots⟩ (.ref a :: argsL).toArray) :
    ∃ (v : Option Value) (vm₁ : Vm) (B : Pt), s.WarmedH vm₁ ∧ Stand p l e R s m args below meth c B.U B.locs B.cells B.slots ∧ Post ⟨T.setVm vm₁, locs, cells, slots⟩ (.ref a :: argsL).toArray v B ∧
      Steps p.tables e below s₀ (B.U.setTop { g with pc := g.pc + 3, stack := v.toList ++ rest }) := by
  obtain ⟨obj, methO, hnO, hmO, hstO, habO⟩ := Cond.instanceMethod_spec hinst
  obtain ⟨methO', cO, hmO', hcO, hbO, hlO, -, hlockO, -, hsigO⟩ := Cond.code_spec hnO hcode
  cases hmO.symm.trans hmO'
  obtain ⟨kO, hkO, hnameO⟩ := className_of_methodNamed hnO
  obtain ⟨hnameMO, hdescO⟩ := name_of_methodNamed hnO hmO
  have hZT : Z.Warmed39 T.vm := wtrans hZ X.warmed
  have hnT : T.methodNamed? y = some obj := X.named hnO
  have hnZ : Z.methodNamed? y = some obj := by rw [← State.methodNamed?_setVm hZT.alike]; exact hnT
  have w2 := Cond.methodRef_warmed39 hZT hnZ hy w1
  have hcurT : (Z.setVm T.vm).vm.findClass own = some m.cls := by rw [show (Z.setVm T.vm).vm = T.vm from rfl, X.warmed.alike.findClass]; exact hown
  obtain ⟨mm, c', hfnd, hready, hfindc, hres⟩ := Cond.methodRef_named e (s := Z.setVm T.vm) hcurT w2
  have hfound0 : (Z.setVm T.vm).methodFound? y.cls y.name y.desc = some obj := State.methodFound?_of_named (s := Z.setVm T.vm) hnT hy
  obtain rfl : mm = obj := Option.some.inj (hfnd.symm.trans hfound0)
  have hco : c' = mm.cls := Option.some.inj (hfindc.symm.trans (findClass_of_methodNamed (s := Z.setVm T.vm) hnT))
  subst hco
  obtain ⟨kO₂, hkO₂, heO₂⟩ := X.warmed.alike.2.2 _ _ hkO
  have hmO₂ : T.vm.method? mm = some methO := by rw [X.warmed.alike.method?]; exact hmO
  have hfound : lookupSpecial T.vm mm.cls "<init>" methO.desc = .method mm := by
    rw [X.warmed.alike.lookupSpecial, hdescO, ← hy1]; exact lookupSpecial_of_named hnO hmO hstO
  have hstep : ∀ target, (∀ acts, Steps p.tables e below (doInvoke e (T.setTop { g with stack := rest }) acts mm (.ref a :: argsL).toArray).1 target) → Steps p.tables e below (T.setTop g) target := by
    intro target hrest
    subst hg
    jvm_step X.here [hexec, hdg, invokespecial.wp_init (e := e) (s := T) (k := kO₂) (meth := methO) (m := mm) (a := a) (args := argsL) (rest := rest) (f := g) X.here.top hres hready hkO₂ hmO₂ (by rw [hnameMO]; exact hy1) hstO habO hfound (hlen _ hsigO) hstack]
    exact hrest
  have X₁ := X.noted X.warmed
  obtain ⟨v, B, X', hpost, hsteps⟩ := hK m meth c ⟨T.setVm T.vm, locs, cells, slots⟩ { g with stack := rest } (.invokespecial index) mm (.ref a :: argsL).toArray X₁ hg hsize hdg hW (X₁.named hnO) (hpre T.vm X.warmed)
  exact ⟨v, T.vm, B, X.warmed, X', hpost, (hcome.trans (hstep _ fun acts => by rw [doInvoke_state]; exact Steps.refl _)).trans hsteps⟩
end OwnRef
theorem own_and3 (x : Int32) : (x &&& (3 : Int32)) = (0 : Int32) ∨ (x &&& (3 : Int32)) = (1 : Int32) ∨ (x &&& (3 : Int32)) = (2 : Int32) ∨ (x &&& (3 : Int32)) = (3 : Int32) := by
  have h : ∀ y : BitVec 32, (y &&& 3#32) = 0#32 ∨ (y &&& 3#32) = 1#32 ∨ (y &&& 3#32) = 2#32 ∨ (y &&& 3#32) = 3#32 := fun y => by
    have e : (y &&& 3#32).toNat = y.toNat % 4 := by rw [BitVec.toNat_and]; exact Nat.and_two_pow_sub_one_eq_mod y.toNat 2
    have hl : y.toNat % 4 < 4 := Nat.mod_lt _ (by decide)
    have : (y &&& 3#32).toNat = 0 ∨ (y &&& 3#32).toNat = 1 ∨ (y &&& 3#32).toNat = 2 ∨ (y &&& 3#32).toNat = 3 := by omega
    rcases this with h | h | h | h
    · exact Or.inl (BitVec.eq_of_toNat_eq h)
    · exact Or.inr (Or.inl (BitVec.eq_of_toNat_eq h))
    · exact Or.inr (Or.inr (Or.inl (BitVec.eq_of_toNat_eq h)))
    · exact Or.inr (Or.inr (Or.inr (BitVec.eq_of_toNat_eq h)))
  rcases h x.toBitVec with q | q | q | q
  · exact Or.inl (Int32.toBitVec_inj.mp q)
  · exact Or.inr (Or.inl (Int32.toBitVec_inj.mp q))
  · exact Or.inr (Or.inr (Or.inl (Int32.toBitVec_inj.mp q)))
  · exact Or.inr (Or.inr (Or.inr (Int32.toBitVec_inj.mp q)))
theorem own_str : ∀ a ∈ Bundle.stringAtoms, a ∈ tables_1 := by decide +kernel
theorem d1_0 : decode prog_13_method_1_code 0 = .ok (.aload_n 0, 1) := by decide +kernel
theorem d1_1 : decode prog_13_method_1_code 1 = .ok (.invokespecial 5, 3) := by decide +kernel
theorem d1_4 : decode prog_13_method_1_code 4 = .ok (.aload_n 0, 1) := by decide +kernel
theorem d1_5 : decode prog_13_method_1_code 5 = .ok (.iconst 1, 1) := by decide +kernel
theorem d1_6 : decode prog_13_method_1_code 6 = .ok (.anewarray 11, 3) := by decide +kernel
theorem d1_9 : decode prog_13_method_1_code 9 = .ok (.dup, 1) := by decide +kernel
theorem d1_10 : decode prog_13_method_1_code 10 = .ok (.iconst 0, 1) := by decide +kernel
theorem d1_11 : decode prog_13_method_1_code 11 = .ok (.sipush 1024, 3) := by decide +kernel
theorem d1_14 : decode prog_13_method_1_code 14 = .ok (.newarray .long, 2) := by decide +kernel
theorem d1_16 : decode prog_13_method_1_code 16 = .ok (.aastore, 1) := by decide +kernel
theorem d1_17 : decode prog_13_method_1_code 17 = .ok (.putfield 13, 3) := by decide +kernel
theorem d1_20 : decode prog_13_method_1_code 20 = .ok (.aload_n 0, 1) := by decide +kernel
theorem d1_21 : decode prog_13_method_1_code 21 = .ok (.aload_n 0, 1) := by decide +kernel
theorem d1_22 : decode prog_13_method_1_code 22 = .ok (.getfield 13, 3) := by decide +kernel
theorem d1_25 : decode prog_13_method_1_code 25 = .ok (.iconst 0, 1) := by decide +kernel
theorem d1_26 : decode prog_13_method_1_code 26 = .ok (.aaload, 1) := by decide +kernel
theorem d1_27 : decode prog_13_method_1_code 27 = .ok (.putfield 17, 3) := by decide +kernel
theorem d1_30 : decode prog_13_method_1_code 30 = .ok (.aload_n 0, 1) := by decide +kernel
theorem d1_31 : decode prog_13_method_1_code 31 = .ok (.aload_n 1, 1) := by decide +kernel
theorem d1_32 : decode prog_13_method_1_code 32 = .ok (.putfield 20, 3) := by decide +kernel
theorem d1_35 : decode prog_13_method_1_code 35 = .ok (.return_, 1) := by decide +kernel
theorem pn_com_example_links_to_ranks_linkstoranks_LongList : plainName cs0 = true := by first | (simp [plainName, overriddenIn]; done) | decide +kernel
def Q1_1 (Z : State) (r0 : Addr) (r1 : Addr) (h0 : Heap) (n0 : Nat) (v : Option Value) (h : Heap) (L : List Loc) : Prop := ∃ (b2 : Addr) (b3 : Addr) (k2 : ClassId) (k3 : ClassId), v = none ∧ Fr n0 L ∧ Keep h0 h [r0] ∧ Fld Z h r0 cs0 "chunks" "[[J" (.ref b2) ∧ Fld Z h r0 cs0 "filling" "[J" (.ref b3) ∧ Fld Z h r0 cs0 "items" "Ljava/lang/String;" (.ref r1) ∧ Fld Z h r0 cs0 "size" "I" (.int (0 : Int32)) ∧ Fld Z h r0 cs0 "filled" "I" (.int (0 : Int32)) ∧ h0.size ≤ b2 ∧ Arv Z h b2 k2 (.array .long) (1 : Int32) [(.ref b3)] .null ∧ Exa Z h b2 "[[J" ∧ OvrA Z k2 .long "[J" ∧ h0.size ≤ b3 ∧ Arv Z h b3 k3 .long (1024 : Int32) [(.long (0 : Int64)), (.long (0 : Int64)), (.long (0 : Int64)), (.long (0 : Int64)), (.long (0 : Int64)), (.long (0 : Int64)), (.long (0 : Int64)), (.long (0 : Int64))] (.long (0 : Int64)) ∧ Exa Z h b3 "[J" ∧ b2 ≠ b3
set_option maxRecDepth 65536 in
set_option maxHeartbeats 40000000 in
theorem rm1_1 (l : Launch) (Z : State) (a0 : Array Value) (hw : ∀ d ∈ tables_1, d.before a0 Z = true) (ws : List Jvm.Cond) (r0 : Addr) (r1 : Addr) (h0 : Heap) (n0 : Nat) (O0 : Old Z n0 h0) (f9 : Exa Z h0 r0 cs0) (f11 : Fld Z h0 r0 cs0 "chunks" "[[J" .null) (l12 : r0 < h0.size) (g15 : n0 ≤ r0) (f21 : Fld Z h0 r0 cs0 "filling" "[J" .null) (f25 : Fld Z h0 r0 cs0 "items" "Ljava/lang/String;" .null) (f28 : Fld Z h0 r0 cs0 "size" "I" (.int (0 : Int32))) (f30 : Fld Z h0 r0 cs0 "filled" "I" (.int (0 : Int32))) :
    MetFree l (⟨cs0, "<init>", "(Ljava/lang/String;)V"⟩ : MethodName) (head1 (Jvm.Cond.code (⟨cs0, "<init>", "(Ljava/lang/String;)V"⟩ : MethodName) prog_13_method_1_code 2 none :: ws) ({ frames := 1, cells := 2, slots := 1025, locals := 12 } : Room)) (fun a U => a = #[(.ref r0), (.ref r1)] ∧ Z.Warmed39 U.vm ∧ U.heap = h0) (fun _ _ _ _ _ => True) (fun _ U o U' => ∃ v L, o = .returned v ∧ Q1_1 Z r0 r1 h0 n0 v U'.heap L ∧ FrameEnd U o U' L ({ frames := 1, cells := 2, slots := 1025, locals := 12 } : Room).cells ({ frames := 1, cells := 2, slots := 1025, locals := 12 } : Room).slots) := by
  refine MetFree.of_bodySF (plainFor_of_name pn_com_example_links_to_ranks_linkstoranks_LongList) hisR ?_
  intro p e s m args below meth c s₁ Bd hml0 hP hK
  obtain ⟨rfl, hZ, hh⟩ := hP
  have hx := Bd.exec
  have hby := Bd.bytes
  have hml : c.maxLocals = 2 := hml0
  have hown : s.vm.findClass cs0 = some m.cls := findClass_of_methodNamed Bd.named
  have hnm := (name_of_methodNamed Bd.named Bd.method).1
  have X0 : Stand p l e ({ frames := 1, cells := 2, slots := 1025, locals := 12 } : Room) s m #[(.ref r0), (.ref r1)] below meth c s₁ [] 0 0 := Stand.of_body Bd
  have e0 : s₁.heap = h0 := by rw [← hh, Bd.state]; rfl
  have N0 := Fr.nil n0
  have pre0 : ∀ t, Steps p.tables e below (s₁.setTop (mkF m 0 #[.val (.ref r0), .val (.ref r1)] [])) t → Steps p.tables e below (s₁.setTop (entryFrame m #[(.ref r0), (.ref r1)] 2)) t := fun t k => castTop (by first | (simp [entryFrame, mkF, argsToLocals, Value.category]; done) | rfl) k
  obtain ⟨T1, X1, e1, st1⟩ := initO X0 hx hZ hown (ww hw 14 rfl) (ww hw 15 rfl) (ww hw 16 rfl) e0 (g := (mkF m 1 #[.val (.ref r0), .val (.ref r1)] [(.ref r0)])) rfl (by rw [hml]; rfl) rfl (hb hby d1_1) (by decide) (W := 0) (by show 2 * 0 + _ ≤ _; exact Nat.le_of_eq rfl) (by decide)
  obtain ⟨T2, h2, k2, X2, e2, E2, A2, B2, O2, st2⟩ := newRA X1 hx hZ hown (C := "[J") (ty := .long) rfl (ww hw 17 rfl) (ww hw 18 rfl) e1 (g := (mkF m 6 #[.val (.ref r0), .val (.ref r1)] [(.int (1 : Int32)), (.ref r0)])) rfl (hb hby d1_6) rfl (by decide) (cap := 1) (by decide) (by decide) (by decide) (by decide) (ad := "[[J") rfl
  obtain ⟨b2, g2⟩ : ∃ z, z = h0.size := ⟨_, rfl⟩
  rw [← g2] at A2 B2 st2
  have V2 : Arv Z h2 b2 k2 (.array .long) (1 : Int32) [.null] .null := (Arv.new A2 (by decide)).pad (pad_rep [] .null 1)
  obtain ⟨T3, h3, k3, X3, e3, E3, A3, B3, st3⟩ := newPE X2 hx hZ (ww hw 19 rfl) e2 (g := (mkF m 14 #[.val (.ref r0), .val (.ref r1)] [(.int (1024 : Int32)), (.int (0 : Int32)), (.ref b2), (.ref b2), (.ref r0)])) rfl (hb hby d1_14) rfl (by decide) (cap := 1024) (by decide) (by decide) (by decide) (by decide) (ad := "[J") rfl
  obtain ⟨b3, g3⟩ : ∃ z, z = h2.size := ⟨_, rfl⟩
  rw [← g3] at A3 B3 st3
  have V3 : Arv Z h3 b3 k3 .long (1024 : Int32) [(.long (0 : Int64)), (.long (0 : Int64)), (.long (0 : Int64)), (.long (0 : Int64)), (.long (0 : Int64)), (.long (0 : Int64)), (.long (0 : Int64)), (.long (0 : Int64))] (.long (0 : Int64)) := (Arv.new A3 (by decide)).pad (pad_rep [] (.long (0 : Int64)) 8)
  have f4 := (V2.ext E3)
  obtain ⟨clq5, Arq5, qq5, Sq5, Nq5, Hq5, Gq5⟩ := id f4
  have zz6 : n0 ≤ h0.size := by rw [← O0.1]; exact O0.2.1
  have g7 := Nat.le_trans zz6 (Nat.le_of_eq g2.symm)
  obtain ⟨T8, h8, X8, e8, W8, st8⟩ := stR X3 hx hZ e3 Arq5 (j := (0 : Int32)) (inb_of Sq5 ⟨(by decide : ¬ ((0 : Int32) < (0 : Int32))), (by decide : (0 : Int32) < (1 : Int32))⟩) rfl (Sto.ofVA Arq5 qq5 O2 (Ins.self B3)) (g := (mkF m 16 #[.val (.ref r0), .val (.ref r1)] [(.ref b3), (.int (0 : Int32)), (.ref b2), (.ref b2), (.ref r0)])) rfl rfl (hb hby d1_16)
  have V8 : Arv Z h8 b2 k2 (.array .long) (1 : Int32) [(.ref b3)] .null := Arv.set Arq5 qq5 Sq5 Nq5 Hq5 Gq5 rfl W8 0 rfl (Nat.le_of_ble_eq_true rfl)
  have N8 := Fr.snoc X8 N0 g7
  have f10 := (((f9.ext E2).ext E3).wr W8)
  have n13 := Nat.ne_of_lt (Nat.lt_of_lt_of_le l12 (Nat.le_of_eq g2.symm))
  have f14 := (((f11.ext E2).ext E3).other W8 (Or.inl n13))
  obtain ⟨T16, h16, X16, e16, W16, st16⟩ := putF X8 hx hZ hown (host := "") (Or.inl (ww hw 21 rfl)) Via.refl e8 f14 f10 (Or.inl (ww hw 22 rfl)) (ww hw 1 rfl) (ty := (.array (.array .long))) (by decide) rfl rfl (g := (mkF m 17 #[.val (.ref r0), .val (.ref r1)] [(.ref b2), (.ref r0)])) rfl rfl (hb hby d1_17)
  have Fw16 := f14.same W16
  have N16 := Fr.snoc X16 N8 g15
  obtain ⟨T17, X17, e17, st17⟩ := getF X16 hx hZ hown (host := "") (Or.inl (ww hw 21 rfl)) Via.refl e16 Fw16 (g := (mkF m 22 #[.val (.ref r0), .val (.ref r1)] [(.ref r0), (.ref r0)])) rfl rfl (hb hby d1_22)
  have f18 := (V8.other W16 (Ne.symm n13))
  obtain ⟨clq19, Arq19, qq19, Sq19, Nq19, Hq19, Gq19⟩ := id f18
  have f20 := (f10.wr W16)
  have f22 := ((((f21.ext E2).ext E3).other W8 (Or.inl n13)).other W16 (Or.inr (slot_ne (Or.inl (ww hw 24 rfl)) (Or.inl (ww hw 22 rfl)) (by decide) (t := (.array .long)) (t' := (.array (.array .long))) (by decide) (by decide))))
  obtain ⟨T23, h23, X23, e23, W23, st23⟩ := putF X17 hx hZ hown (host := "") (Or.inl (ww hw 23 rfl)) Via.refl e17 f22 f20 (Or.inl (ww hw 24 rfl)) (ww hw 1 rfl) (ty := (.array .long)) (by decide) rfl rfl (g := (mkF m 27 #[.val (.ref r0), .val (.ref r1)] [(.ref b3), (.ref r0)])) rfl rfl (hb hby d1_27)
  have Fw23 := f22.same W23
  have N23 := Fr.snoc X23 N16 g15
  have f24 := (f20.wr W23)
  have f26 := (((((f25.ext E2).ext E3).other W8 (Or.inl n13)).other W16 (Or.inr (slot_ne (Or.inr (ww hw 26 rfl)) (Or.inl (ww hw 22 rfl)) (by decide) (t := (.object "java/lang/String")) (t' := (.array (.array .long))) (by decide) (by decide)))).other W23 (Or.inr (slot_ne (Or.inr (ww hw 26 rfl)) (Or.inl (ww hw 24 rfl)) (by decide) (t := (.object "java/lang/String")) (t' := (.array .long)) (by decide) (by decide))))
  obtain ⟨T27, h27, X27, e27, W27, st27⟩ := putF X23 hx hZ hown (host := "") (Or.inl (ww hw 25 rfl)) Via.refl e23 f26 f24 (Or.inr ⟨(ww hw 26 rfl), rfl, hnm⟩) (ww hw 1 rfl) (ty := (.object "java/lang/String")) (by decide) rfl rfl (g := (mkF m 32 #[.val (.ref r0), .val (.ref r1)] [(.ref r1), (.ref r0)])) rfl rfl (hb hby d1_32)
  have Fw27 := f26.same W27
  have N27 := Fr.snoc X27 N23 g15
  have f29 := ((((((f28.ext E2).ext E3).other W8 (Or.inl n13)).other W16 (Or.inr (slot_ne (Or.inl (ww hw 36 rfl)) (Or.inl (ww hw 22 rfl)) (by decide) (t := .int) (t' := (.array (.array .long))) (by decide) (by decide)))).other W23 (Or.inr (slot_ne (Or.inl (ww hw 36 rfl)) (Or.inl (ww hw 24 rfl)) (by decide) (t := .int) (t' := (.array .long)) (by decide) (by decide)))).other W27 (Or.inr (slot_ne (Or.inl (ww hw 36 rfl)) (Or.inr (ww hw 26 rfl)) (by decide) (t := .int) (t' := (.object "java/lang/String")) (by decide) (by decide))))
  have f31 := ((((((f30.ext E2).ext E3).other W8 (Or.inl n13)).other W16 (Or.inr (slot_ne (Or.inl (ww hw 51 rfl)) (Or.inl (ww hw 22 rfl)) (by decide) (t := .int) (t' := (.array (.array .long))) (by decide) (by decide)))).other W23 (Or.inr (slot_ne (Or.inl (ww hw 51 rfl)) (Or.inl (ww hw 24 rfl)) (by decide) (t := .int) (t' := (.array .long)) (by decide) (by decide)))).other W27 (Or.inr (slot_ne (Or.inl (ww hw 51 rfl)) (Or.inr (ww hw 26 rfl)) (by decide) (t := .int) (t' := (.object "java/lang/String")) (by decide) (by decide))))
  have f32 := ((Fw16.other W23 (Or.inr (slot_ne (Or.inl (ww hw 22 rfl)) (Or.inl (ww hw 24 rfl)) (by decide) (t := (.array (.array .long))) (t' := (.array .long)) (by decide) (by decide)))).other W27 (Or.inr (slot_ne (Or.inl (ww hw 22 rfl)) (Or.inr (ww hw 26 rfl)) (by decide) (t := (.array (.array .long))) (t' := (.object "java/lang/String")) (by decide) (by decide))))
  have f33 := (Fw23.other W27 (Or.inr (slot_ne (Or.inl (ww hw 24 rfl)) (Or.inr (ww hw 26 rfl)) (by decide) (t := (.array .long)) (t' := (.object "java/lang/String")) (by decide) (by decide))))
  have f34 := ((f18.other W23 (Ne.symm n13)).other W27 (Ne.symm n13))
  have f35 := (((((B2.ext E3).wr W8).wr W16).wr W23).wr W27)
  have zs36 := E2.1
  have n37 := Nat.ne_of_lt (Nat.lt_of_lt_of_le V2.lt (Nat.le_of_eq g3.symm))
  have n38 := Nat.ne_of_lt (Nat.lt_of_lt_of_le (Nat.lt_of_lt_of_le l12 zs36) (Nat.le_of_eq g3.symm))
  have f39 := ((((V3.other W8 (Ne.symm n37)).other W16 (Ne.symm n38)).other W23 (Ne.symm n38)).other W27 (Ne.symm n38))
  have f40 := ((((B3.wr W8).wr W16).wr W23).wr W27)
  have kp41 : Keep h0 h2 [r0] := (Keep.refl h0 [r0]).ext E2
  have kp42 : Keep h0 h3 [r0] := kp41.ext E3
  have kp43 : Keep h0 h8 [r0] := kp42.wr W8 (Or.inr (Nat.le_of_eq g2.symm))
  have kp44 : Keep h0 h16 [r0] := kp43.wr W16 (Or.inl (List.mem_of_getElem? (i := 0) rfl))
  have kp45 : Keep h0 h23 [r0] := kp44.wr W23 (Or.inl (List.mem_of_getElem? (i := 0) rfl))
  have kp46 : Keep h0 h27 [r0] := kp45.wr W27 (Or.inl (List.mem_of_getElem? (i := 0) rfl))
  obtain ⟨fs, hr, hrun, hended, hW, hsame⟩ := X27.leave (v := none) (fun _ => rfl)
  refine ⟨_, _, pre0 _ ?_, hrun, hended, _, _, rfl, ?_, ⟨_, rfl⟩, hW, hsame.mono (by decide) (by decide)⟩
  · show Steps p.tables e below (s₁.setTop (mkF m 0 #[.val (.ref r0), .val (.ref r1)] [])) _
    refine XS.aloadN X0.here hx rfl (hb hby d1_0) rfl rfl ?_
    show Steps p.tables e below (s₁.setTop (mkF m 1 #[.val (.ref r0), .val (.ref r1)] [(.ref r0)])) _
    refine st1 _ ?_
    show Steps p.tables e below (T1.setTop (mkF m 4 #[.val (.ref r0), .val (.ref r1)] [])) _
    refine XS.aloadN X1.here hx rfl (hb hby d1_4) rfl rfl ?_
    show Steps p.tables e below (T1.setTop (mkF m 5 #[.val (.ref r0), .val (.ref r1)] [(.ref r0)])) _
    refine XS.iconst X1.here hx rfl (hb hby d1_5) ?_
    show Steps p.tables e below (T1.setTop (mkF m 6 #[.val (.ref r0), .val (.ref r1)] [(.int (1 : Int32)), (.ref r0)])) _
    refine st2 _ ?_
    show Steps p.tables e below (T2.setTop (mkF m 9 #[.val (.ref r0), .val (.ref r1)] [(.ref b2), (.ref r0)])) _
    refine XS.dup X2.here hx rfl (hb hby d1_9) rfl rfl ?_
    show Steps p.tables e below (T2.setTop (mkF m 10 #[.val (.ref r0), .val (.ref r1)] [(.ref b2), (.ref b2), (.ref r0)])) _
    refine XS.iconst X2.here hx rfl (hb hby d1_10) ?_
    show Steps p.tables e below (T2.setTop (mkF m 11 #[.val (.ref r0), .val (.ref r1)] [(.int (0 : Int32)), (.ref b2), (.ref b2), (.ref r0)])) _
    refine XS.sipush X2.here hx rfl (hb hby d1_11) ?_
    show Steps p.tables e below (T2.setTop (mkF m 14 #[.val (.ref r0), .val (.ref r1)] [(.int (1024 : Int32)), (.int (0 : Int32)), (.ref b2), (.ref b2), (.ref r0)])) _
    refine st3 _ ?_
    show Steps p.tables e below (T3.setTop (mkF m 16 #[.val (.ref r0), .val (.ref r1)] [(.ref b3), (.int (0 : Int32)), (.ref b2), (.ref b2), (.ref r0)])) _
    refine st8 _ ?_
    show Steps p.tables e below (T8.setTop (mkF m 17 #[.val (.ref r0), .val (.ref r1)] [(.ref b2), (.ref r0)])) _
    refine st16 _ ?_
    show Steps p.tables e below (T16.setTop (mkF m 20 #[.val (.ref r0), .val (.ref r1)] [])) _
    refine XS.aloadN X16.here hx rfl (hb hby d1_20) rfl rfl ?_
    show Steps p.tables e below (T16.setTop (mkF m 21 #[.val (.ref r0), .val (.ref r1)] [(.ref r0)])) _
    refine XS.aloadN X16.here hx rfl (hb hby d1_21) rfl rfl ?_
    show Steps p.tables e below (T16.setTop (mkF m 22 #[.val (.ref r0), .val (.ref r1)] [(.ref r0), (.ref r0)])) _
    refine st17 _ ?_
    show Steps p.tables e below (T17.setTop (mkF m 25 #[.val (.ref r0), .val (.ref r1)] [(.ref b2), (.ref r0)])) _
    refine XS.iconst X17.here hx rfl (hb hby d1_25) ?_
    show Steps p.tables e below (T17.setTop (mkF m 26 #[.val (.ref r0), .val (.ref r1)] [(.int (0 : Int32)), (.ref b2), (.ref r0)])) _
    refine X17.aaload hx (j := (0 : Int32)) (v := (.ref b3)) (by rw [e17]; exact Arq19.1) (State.isArrayOf_alike hZ.alike Arq19.2.1) rfl Arq19.2.2 (inb_of Sq19 ⟨(by decide : ¬ ((0 : Int32) < (0 : Int32))), (by decide : (0 : Int32) < (1 : Int32))⟩) (Has.at Hq19 (inb_of Sq19 ⟨(by decide : ¬ ((0 : Int32) < (0 : Int32))), (by decide : (0 : Int32) < (1 : Int32))⟩) rfl) (g := (mkF m 26 #[.val (.ref r0), .val (.ref r1)] [(.int (0 : Int32)), (.ref b2), (.ref r0)])) rfl rfl (hb hby d1_26) _ ?_
    show Steps p.tables e below (T17.setTop (mkF m 27 #[.val (.ref r0), .val (.ref r1)] [(.ref b3), (.ref r0)])) _
    refine st23 _ ?_
    show Steps p.tables e below (T23.setTop (mkF m 30 #[.val (.ref r0), .val (.ref r1)] [])) _
    refine XS.aloadN X23.here hx rfl (hb hby d1_30) rfl rfl ?_
    show Steps p.tables e below (T23.setTop (mkF m 31 #[.val (.ref r0), .val (.ref r1)] [(.ref r0)])) _
    refine XS.aloadN X23.here hx rfl (hb hby d1_31) rfl rfl ?_
    show Steps p.tables e below (T23.setTop (mkF m 32 #[.val (.ref r0), .val (.ref r1)] [(.ref r1), (.ref r0)])) _
    refine st27 _ ?_
    show Steps p.tables e below (T27.setTop (mkF m 35 #[.val (.ref r0), .val (.ref r1)] [])) _
    exact X27.returnOut hx Bd.returns (hb hby d1_35) hr
  · show Q1_1 Z r0 r1 h0 n0 _ T27.heap _
    rw [e27]
    exact ⟨b2, b3, k2, k3, rfl, N27, kp46, f32, f33, Fw27, f29, f31, (Nat.le_of_eq g2.symm), f34, f35, O2, (Nat.le_trans zs36 (Nat.le_of_eq g3.symm)), f39, f40, n37⟩
theorem pd__Ljava_lang_String__V : parseMethodDescriptor "(Ljava/lang/String;)V" = some ⟨[(.object "java/lang/String")], none⟩ := by decide +kernel
theorem d3_0 : decode prog_13_method_4_code 0 = .ok (.new 34, 3) := by decide +kernel
theorem d3_3 : decode prog_13_method_4_code 3 = .ok (.dup, 1) := by decide +kernel
theorem d3_4 : decode prog_13_method_4_code 4 = .ok (.aload_n 0, 1) := by decide +kernel
theorem d3_5 : decode prog_13_method_4_code 5 = .ok (.getfield 13, 3) := by decide +kernel
theorem d3_8 : decode prog_13_method_4_code 8 = .ok (.aload_n 0, 1) := by decide +kernel
theorem d3_9 : decode prog_13_method_4_code 9 = .ok (.getfield 31, 3) := by decide +kernel
theorem d3_12 : decode prog_13_method_4_code 12 = .ok (.invokespecial 36, 3) := by decide +kernel
theorem d4_0 : decode prog_14_method_1_code 0 = .ok (.aload_n 0, 1) := by decide +kernel
theorem d4_1 : decode prog_14_method_1_code 1 = .ok (.invokespecial 3, 3) := by decide +kernel
theorem d4_4 : decode prog_14_method_1_code 4 = .ok (.aload_n 0, 1) := by decide +kernel
theorem d4_5 : decode prog_14_method_1_code 5 = .ok (.aload_n 1, 1) := by decide +kernel
theorem d4_6 : decode prog_14_method_1_code 6 = .ok (.putfield 9, 3) := by decide +kernel
theorem d4_9 : decode prog_14_method_1_code 9 = .ok (.aload_n 0, 1) := by decide +kernel
theorem d4_10 : decode prog_14_method_1_code 10 = .ok (.iload_n 2, 1) := by decide +kernel
theorem d4_11 : decode prog_14_method_1_code 11 = .ok (.putfield 15, 3) := by decide +kernel
theorem d4_14 : decode prog_14_method_1_code 14 = .ok (.return_, 1) := by decide +kernel
theorem pn_com_example_links_to_ranks_linkstoranks_LongList_View : plainName cs1 = true := by first | (simp [plainName, overriddenIn]; done) | decide +kernel
def Q4_1 (Z : State) (r0 : Addr) (r1 : Addr) (h0 : Heap) (n0 : Nat) (v : Option Value) (h : Heap) (L : List Loc) : Prop := v = none ∧ Fr n0 L ∧ Keep h0 h [r0] ∧ Fld Z h r0 cs1 "chunks" "[[J" (.ref r1) ∧ Fld Z h r0 cs1 "size" "I" (.int (0 : Int32))
set_option maxRecDepth 65536 in
set_option maxHeartbeats 40000000 in
theorem rm4_1 (l : Launch) (Z : State) (a0 : Array Value) (hw : ∀ d ∈ tables_1, d.before a0 Z = true) (ws : List Jvm.Cond) (r0 : Addr) (r1 : Addr) (h0 : Heap) (n0 : Nat) (O0 : Old Z n0 h0) (f2 : Exa Z h0 r0 cs1) (f3 : Fld Z h0 r0 cs1 "chunks" "[[J" .null) (g4 : n0 ≤ r0) (f7 : Fld Z h0 r0 cs1 "size" "I" (.int (0 : Int32))) :
    MetFree l (⟨cs1, "<init>", "([[JI)V"⟩ : MethodName) (head1 (Jvm.Cond.code (⟨cs1, "<init>", "([[JI)V"⟩ : MethodName) prog_14_method_1_code 3 none :: ws) ({ frames := 1, cells := 0, slots := 0, locals := 12 } : Room)) (fun a U => a = #[(.ref r0), (.ref r1), (.int (0 : Int32))] ∧ Z.Warmed39 U.vm ∧ U.heap = h0) (fun _ _ _ _ _ => True) (fun _ U o U' => ∃ v L, o = .returned v ∧ Q4_1 Z r0 r1 h0 n0 v U'.heap L ∧ FrameEnd U o U' L ({ frames := 1, cells := 0, slots := 0, locals := 12 } : Room).cells ({ frames := 1, cells := 0, slots := 0, locals := 12 } : Room).slots) := by
  refine MetFree.of_bodySF (plainFor_of_name pn_com_example_links_to_ranks_linkstoranks_LongList_View) hisR ?_
  intro p e s m args below meth c s₁ Bd hml0 hP hK
  obtain ⟨rfl, hZ, hh⟩ := hP
  have hx := Bd.exec
  have hby := Bd.bytes
  have hml : c.maxLocals = 3 := hml0
  have hown : s.vm.findClass cs1 = some m.cls := findClass_of_methodNamed Bd.named
  have hnm := (name_of_methodNamed Bd.named Bd.method).1
  have X0 : Stand p l e ({ frames := 1, cells := 0, slots := 0, locals := 12 } : Room) s m #[(.ref r0), (.ref r1), (.int (0 : Int32))] below meth c s₁ [] 0 0 := Stand.of_body Bd
  have e0 : s₁.heap = h0 := by rw [← hh, Bd.state]; rfl
  have N0 := Fr.nil n0
  have pre0 : ∀ t, Steps p.tables e below (s₁.setTop (mkF m 0 #[.val (.ref r0), .val (.ref r1), .val (.int (0 : Int32))] [])) t → Steps p.tables e below (s₁.setTop (entryFrame m #[(.ref r0), (.ref r1), (.int (0 : Int32))] 3)) t := fun t k => castTop (by first | (simp [entryFrame, mkF, argsToLocals, Value.category]; done) | rfl) k
  obtain ⟨T1, X1, e1, st1⟩ := initO X0 hx hZ hown (ww hw 40 rfl) (ww hw 15 rfl) (ww hw 16 rfl) e0 (g := (mkF m 1 #[.val (.ref r0), .val (.ref r1), .val (.int (0 : Int32))] [(.ref r0)])) rfl (by rw [hml]; rfl) rfl (hb hby d4_1) (by decide) (W := 0) (by show 2 * 0 + _ ≤ _; exact Nat.le_of_eq rfl) (by decide)
  obtain ⟨T5, h5, X5, e5, W5, st5⟩ := putF X1 hx hZ hown (host := "") (Or.inl (ww hw 41 rfl)) Via.refl e1 f3 f2 (Or.inr ⟨(ww hw 42 rfl), rfl, hnm⟩) (ww hw 33 rfl) (ty := (.array (.array .long))) (by decide) rfl rfl (g := (mkF m 6 #[.val (.ref r0), .val (.ref r1), .val (.int (0 : Int32))] [(.ref r1), (.ref r0)])) rfl rfl (hb hby d4_6)
  have Fw5 := f3.same W5
  have N5 := Fr.snoc X5 N0 g4
  have f6 := (f2.wr W5)
  have f8 := (f7.other W5 (Or.inr (slot_ne (Or.inr (ww hw 44 rfl)) (Or.inr (ww hw 42 rfl)) (by decide) (t := .int) (t' := (.array (.array .long))) (by decide) (by decide))))
  obtain ⟨T9, h9, X9, e9, W9, st9⟩ := putF X5 hx hZ hown (host := "") (Or.inl (ww hw 43 rfl)) Via.refl e5 f8 f6 (Or.inr ⟨(ww hw 44 rfl), rfl, hnm⟩) (ww hw 33 rfl) (ty := .int) (by decide) rfl rfl (g := (mkF m 11 #[.val (.ref r0), .val (.ref r1), .val (.int (0 : Int32))] [(.int (0 : Int32)), (.ref r0)])) rfl rfl (hb hby d4_11)
  have Fw9 := f8.same W9
  have N9 := Fr.snoc X9 N5 g4
  have f10 := (Fw5.other W9 (Or.inr (slot_ne (Or.inr (ww hw 42 rfl)) (Or.inr (ww hw 44 rfl)) (by decide) (t := (.array (.array .long))) (t' := .int) (by decide) (by decide))))
  have kp11 : Keep h0 h5 [r0] := (Keep.refl h0 [r0]).wr W5 (Or.inl (List.mem_of_getElem? (i := 0) rfl))
  have kp12 : Keep h0 h9 [r0] := kp11.wr W9 (Or.inl (List.mem_of_getElem? (i := 0) rfl))
  obtain ⟨fs, hr, hrun, hended, hW, hsame⟩ := X9.leave (v := none) (fun _ => rfl)
  refine ⟨_, _, pre0 _ ?_, hrun, hended, _, _, rfl, ?_, ⟨_, rfl⟩, hW, hsame.mono (by decide) (by decide)⟩
  · show Steps p.tables e below (s₁.setTop (mkF m 0 #[.val (.ref r0), .val (.ref r1), .val (.int (0 : Int32))] [])) _
    refine XS.aloadN X0.here hx rfl (hb hby d4_0) rfl rfl ?_
    show Steps p.tables e below (s₁.setTop (mkF m 1 #[.val (.ref r0), .val (.ref r1), .val (.int (0 : Int32))] [(.ref r0)])) _
    refine st1 _ ?_
    show Steps p.tables e below (T1.setTop (mkF m 4 #[.val (.ref r0), .val (.ref r1), .val (.int (0 : Int32))] [])) _
    refine XS.aloadN X1.here hx rfl (hb hby d4_4) rfl rfl ?_
    show Steps p.tables e below (T1.setTop (mkF m 5 #[.val (.ref r0), .val (.ref r1), .val (.int (0 : Int32))] [(.ref r0)])) _
    refine XS.aloadN X1.here hx rfl (hb hby d4_5) rfl rfl ?_
    show Steps p.tables e below (T1.setTop (mkF m 6 #[.val (.ref r0), .val (.ref r1), .val (.int (0 : Int32))] [(.ref r1), (.ref r0)])) _
    refine st5 _ ?_
    show Steps p.tables e below (T5.setTop (mkF m 9 #[.val (.ref r0), .val (.ref r1), .val (.int (0 : Int32))] [])) _
    refine XS.aloadN X5.here hx rfl (hb hby d4_9) rfl rfl ?_
    show Steps p.tables e below (T5.setTop (mkF m 10 #[.val (.ref r0), .val (.ref r1), .val (.int (0 : Int32))] [(.ref r0)])) _
    refine XS.iloadN X5.here hx rfl (hb hby d4_10) rfl ?_
    show Steps p.tables e below (T5.setTop (mkF m 11 #[.val (.ref r0), .val (.ref r1), .val (.int (0 : Int32))] [(.int (0 : Int32)), (.ref r0)])) _
    refine st9 _ ?_
    show Steps p.tables e below (T9.setTop (mkF m 14 #[.val (.ref r0), .val (.ref r1), .val (.int (0 : Int32))] [])) _
    exact X9.returnOut hx Bd.returns (hb hby d4_14) hr
  · show Q4_1 Z r0 r1 h0 n0 _ T9.heap _
    rw [e9]
    exact ⟨rfl, N9, kp12, f10, Fw9⟩
theorem pd____JI_V : parseMethodDescriptor "([[JI)V" = some ⟨[(.array (.array .long)), .int], none⟩ := by decide +kernel
theorem d3_15 : decode prog_13_method_4_code 15 = .ok (.areturn, 1) := by decide +kernel
def Q3_1 (Z : State) (r0 : Addr) (r1 : Addr) (h0 : Heap) (n0 : Nat) (v : Option Value) (h : Heap) (L : List Loc) : Prop := ∃ (b1 : Addr), v = some (.ref b1) ∧ Fr n0 L ∧ Keep h0 h [] ∧ h0.size ≤ b1 ∧ Exa Z h b1 cs1 ∧ Fld Z h b1 cs1 "chunks" "[[J" (.ref r1) ∧ Fld Z h b1 cs1 "size" "I" (.int (0 : Int32))
set_option maxRecDepth 65536 in
set_option maxHeartbeats 40000000 in
theorem rm3_1 (l : Launch) (Z : State) (a0 : Array Value) (hw : ∀ d ∈ tables_1, d.before a0 Z = true) (ws : List Jvm.Cond) (r0 : Addr) (r1 : Addr) (h0 : Heap) (n0 : Nat) (O0 : Old Z n0 h0) (f4 : Fld Z h0 r0 cs0 "chunks" "[[J" (.ref r1)) (f7 : Fld Z h0 r0 cs0 "size" "I" (.int (0 : Int32))) :
    MetFree l (⟨cs0, "view", cs2⟩ : MethodName) (head1 (Jvm.Cond.code (⟨cs0, "view", cs2⟩ : MethodName) prog_13_method_4_code 1 (some (.object cs1)) :: ws) ({ frames := 2, cells := 1, slots := 2, locals := 27 } : Room)) (fun a U => a = #[(.ref r0)] ∧ Z.Warmed39 U.vm ∧ U.heap = h0) (fun _ _ _ _ _ => True) (fun _ U o U' => ∃ v L, o = .returned v ∧ Q3_1 Z r0 r1 h0 n0 v U'.heap L ∧ FrameEnd U o U' L ({ frames := 2, cells := 1, slots := 2, locals := 27 } : Room).cells ({ frames := 2, cells := 1, slots := 2, locals := 27 } : Room).slots) := by
  refine MetFree.of_bodySF (plainFor_of_name pn_com_example_links_to_ranks_linkstoranks_LongList) hisR ?_
  intro p e s m args below meth c s₁ Bd hml0 hP hK
  obtain ⟨rfl, hZ, hh⟩ := hP
  have hx := Bd.exec
  have hby := Bd.bytes
  have hml : c.maxLocals = 1 := hml0
  have hown : s.vm.findClass cs0 = some m.cls := findClass_of_methodNamed Bd.named
  have hnm := (name_of_methodNamed Bd.named Bd.method).1
  have X0 : Stand p l e ({ frames := 2, cells := 1, slots := 2, locals := 27 } : Room) s m #[(.ref r0)] below meth c s₁ [] 0 0 := Stand.of_body Bd
  have e0 : s₁.heap = h0 := by rw [← hh, Bd.state]; rfl
  have N0 := Fr.nil n0
  have pre0 : ∀ t, Steps p.tables e below (s₁.setTop (mkF m 0 #[.val (.ref r0)] [])) t → Steps p.tables e below (s₁.setTop (entryFrame m #[(.ref r0)] 1)) t := fun t k => castTop (by first | (simp [entryFrame, mkF, argsToLocals, Value.category]; done) | rfl) k
  obtain ⟨T1, h1, X1, e1, E1, A1, D1, -, st1⟩ := newO X0 hx hZ hown (ww hw 32 rfl) (ww hw 33 rfl) (ww hw 34 rfl) e0 (g := (mkF m 0 #[.val (.ref r0)] [])) rfl (hb hby d3_0) (by decide) (by decide)
  obtain ⟨b1, g1⟩ : ∃ z, z = h0.size := ⟨_, rfl⟩
  rw [← g1] at A1 D1 st1
  have f2 : Fld Z h1 b1 cs1 "chunks" "[[J" .null := D1 (Or.inr (ww hw 42 rfl)) (ty := (.array (.array .long))) (by decide)
  have f3 : Fld Z h1 b1 cs1 "size" "I" (.int (0 : Int32)) := D1 (Or.inr (ww hw 44 rfl)) (ty := .int) (by decide)
  have f5 := (f4.ext E1)
  obtain ⟨T6, X6, e6, st6⟩ := getF X1 hx hZ hown (host := "") (Or.inl (ww hw 21 rfl)) Via.refl e1 f5 (g := (mkF m 5 #[.val (.ref r0)] [(.ref r0), (.ref b1), (.ref b1)])) rfl rfl (hb hby d3_5)
  have f8 := (f7.ext E1)
  obtain ⟨T9, X9, e9, st9⟩ := getF X6 hx hZ hown (host := "") (Or.inl (ww hw 35 rfl)) Via.refl e6 f8 (g := (mkF m 9 #[.val (.ref r0)] [(.ref r0), (.ref r1), (.ref b1), (.ref b1)])) rfl rfl (hb hby d3_9)
  have zz10 : n0 ≤ h0.size := by rw [← O0.1]; exact O0.2.1
  have g11 := Nat.le_trans zz10 (Nat.le_of_eq g1.symm)
  have o12 := Old.ext O0 E1
  obtain ⟨_, _, ⟨T13, L13, k13, n13⟩, -, X13, ⟨Lc13, hQ13, l13, y13, z13⟩, st13⟩ := own_specialRef X9 hx hZ (y := (⟨cs1, "<init>", "([[JI)V"⟩ : MethodName)) rfl hown (ww hw 37 rfl) (mvT hZ (ww hw 38 rfl)) (mvT hZ (ww hw 39 rfl)) (by decide) (backOf (W := 1) (rm4_1 l Z a0 hw [] b1 r1 h1 n0 o12 A1 f2 g11 f3) hZ (ww hw 39 rfl) (ww hw 34 rfl) (by decide) (by decide)) (g := (mkF m 12 #[.val (.ref r0)] [(.int (0 : Int32)), (.ref r1), (.ref b1), (.ref b1)])) rfl (by rw [hml]; rfl) (Steps.refl _) (a := b1) (argsL := [(.ref r1), (.int (0 : Int32))]) (rest := [(.ref b1)]) (lenOf pd____JI_V rfl) rfl (by show 2 * 0 + _ ≤ _; exact Nat.le_of_eq rfl) (hb hby d3_12) (fun _ _ => ⟨rfl, e9, (by decide : 1 + 0 ≤ _), (by decide : 2 + 0 ≤ _)⟩)
  dsimp only [Pt.U, Pt.locs, Pt.cells, Pt.slots] at X13 l13 y13 z13 st13 hQ13
  subst l13 y13 z13
  obtain ⟨rfl, N13q, K13, f14, f15⟩ := hQ13
  have N13 := Fr.app N0 N13q
  have f16 := (A1.keep K13)
  have kp17 : Keep h0 h1 [] := (Keep.refl h0 []).ext E1
  have kp18 : Keep h0 T13.heap [] := kp17.trans K13 (allS (Or.inr (Nat.le_of_eq g1.symm)) all0)
  obtain ⟨fs, hr, hrun, hended, hW, hsame⟩ := X13.leave (v := some (.ref b1)) (fun h => by rw [Bd.returns] at h; cases h)
  refine ⟨_, _, pre0 _ ?_, hrun, hended, _, _, rfl, ?_, ⟨_, rfl⟩, hW, hsame.mono (by decide) (by decide)⟩
  · show Steps p.tables e below (s₁.setTop (mkF m 0 #[.val (.ref r0)] [])) _
    refine st1 _ ?_
    show Steps p.tables e below (T1.setTop (mkF m 3 #[.val (.ref r0)] [(.ref b1)])) _
    refine XS.dup X1.here hx rfl (hb hby d3_3) rfl rfl ?_
    show Steps p.tables e below (T1.setTop (mkF m 4 #[.val (.ref r0)] [(.ref b1), (.ref b1)])) _
    refine XS.aloadN X1.here hx rfl (hb hby d3_4) rfl rfl ?_
    show Steps p.tables e below (T1.setTop (mkF m 5 #[.val (.ref r0)] [(.ref r0), (.ref b1), (.ref b1)])) _
    refine st6 _ ?_
    show Steps p.tables e below (T6.setTop (mkF m 8 #[.val (.ref r0)] [(.ref r1), (.ref b1), (.ref b1)])) _
    refine XS.aloadN X6.here hx rfl (hb hby d3_8) rfl rfl ?_
    show Steps p.tables e below (T6.setTop (mkF m 9 #[.val (.ref r0)] [(.ref r0), (.ref r1), (.ref b1), (.ref b1)])) _
    refine st9 _ ?_
    show Steps p.tables e below (T9.setTop (mkF m 12 #[.val (.ref r0)] [(.int (0 : Int32)), (.ref r1), (.ref b1), (.ref b1)])) _
    refine st13.trans ?_
    show Steps p.tables e below (T13.setTop (mkF m 15 #[.val (.ref r0)] [(.ref b1)])) _
    exact retOut X13 hx (i := .areturn) Bd.returns rfl (Or.inr (Or.inr (Or.inr (Or.inr ⟨rfl, rfl, rfl⟩)))) (hb hby d3_15) hr
  · show Q3_1 Z r0 r1 h0 n0 _ T13.heap _
    exact ⟨b1, rfl, N13, kp18, (Nat.le_of_eq g1.symm), f16, f14, f15⟩
theorem pd___Lcom_example_links_to_ranks_linkstoranks_LongList_View_ : parseMethodDescriptor cs2 = some ⟨[], some (.object cs1)⟩ := by decide +kernel
theorem d5_0 : decode prog_13_method_2_code 0 = .ok (.aload_n 0, 1) := by decide +kernel
theorem d5_1 : decode prog_13_method_2_code 1 = .ok (.getfield 24, 3) := by decide +kernel
theorem d5_4 : decode prog_13_method_2_code 4 = .ok (.aload_n 0, 1) := by decide +kernel
theorem d5_5 : decode prog_13_method_2_code 5 = .ok (.getfield 17, 3) := by decide +kernel
theorem d5_8 : decode prog_13_method_2_code 8 = .ok (.arraylength, 1) := by decide +kernel
theorem d5_9 : decode prog_13_method_2_code 9 = .ok (.if_icmp .ne 7, 3) := by decide +kernel
theorem d5_16 : decode prog_13_method_2_code 16 = .ok (.aload_n 0, 1) := by decide +kernel
theorem d5_17 : decode prog_13_method_2_code 17 = .ok (.getfield 17, 3) := by decide +kernel
theorem d5_20 : decode prog_13_method_2_code 20 = .ok (.aload_n 0, 1) := by decide +kernel
theorem d5_21 : decode prog_13_method_2_code 21 = .ok (.dup, 1) := by decide +kernel
theorem d5_22 : decode prog_13_method_2_code 22 = .ok (.getfield 24, 3) := by decide +kernel
theorem d5_25 : decode prog_13_method_2_code 25 = .ok (.dup_x1, 1) := by decide +kernel
theorem d5_26 : decode prog_13_method_2_code 26 = .ok (.iconst 1, 1) := by decide +kernel
theorem d5_27 : decode prog_13_method_2_code 27 = .ok (.iadd, 1) := by decide +kernel
theorem d5_28 : decode prog_13_method_2_code 28 = .ok (.putfield 24, 3) := by decide +kernel
theorem d5_31 : decode prog_13_method_2_code 31 = .ok (.lload_n 1, 1) := by decide +kernel
theorem d5_32 : decode prog_13_method_2_code 32 = .ok (.lastore, 1) := by decide +kernel
theorem d5_33 : decode prog_13_method_2_code 33 = .ok (.aload_n 0, 1) := by decide +kernel
theorem d5_34 : decode prog_13_method_2_code 34 = .ok (.dup, 1) := by decide +kernel
theorem d5_35 : decode prog_13_method_2_code 35 = .ok (.getfield 31, 3) := by decide +kernel
theorem d5_38 : decode prog_13_method_2_code 38 = .ok (.iconst 1, 1) := by decide +kernel
theorem d5_39 : decode prog_13_method_2_code 39 = .ok (.iadd, 1) := by decide +kernel
theorem d5_40 : decode prog_13_method_2_code 40 = .ok (.putfield 31, 3) := by decide +kernel
theorem d5_43 : decode prog_13_method_2_code 43 = .ok (.return_, 1) := by decide +kernel
def Q5_1 (Z : State) (r0 : Addr) (y1 : Int64) (r2 : Addr) (c3 : ClassId) (r4 : Addr) (r5 : Addr) (h0 : Heap) (n0 : Nat) (v : Option Value) (h : Heap) (L : List Loc) : Prop := v = none ∧ Fr n0 L ∧ Keep h0 h [r0, r2] ∧ Fld Z h r0 cs0 "filled" "I" (.int (1 : Int32)) ∧ Fld Z h r0 cs0 "filling" "[J" (.ref r2) ∧ Fld Z h r0 cs0 "size" "I" (.int (1 : Int32)) ∧ Fld Z h r0 cs0 "chunks" "[[J" (.ref r4) ∧ Fld Z h r0 cs0 "items" "Ljava/lang/String;" (.ref r5) ∧ Arv Z h r2 c3 .long (1024 : Int32) [(.long y1), (.long (0 : Int64)), (.long (0 : Int64)), (.long (0 : Int64)), (.long (0 : Int64)), (.long (0 : Int64)), (.long (0 : Int64)), (.long (0 : Int64))] (.long (0 : Int64))
set_option maxRecDepth 65536 in
set_option maxHeartbeats 40000000 in
theorem rm5_1 (l : Launch) (Z : State) (a0 : Array Value) (hw : ∀ d ∈ tables_1, d.before a0 Z = true) (ws : List Jvm.Cond) (r0 : Addr) (y1 : Int64) (r2 : Addr) (c3 : ClassId) (r4 : Addr) (r5 : Addr) (h0 : Heap) (n0 : Nat) (O0 : Old Z n0 h0) (f1 : Fld Z h0 r0 cs0 "filled" "I" (.int (0 : Int32))) (f3 : Fld Z h0 r0 cs0 "filling" "[J" (.ref r2)) (f5 : Arv Z h0 r2 c3 .long (1024 : Int32) [(.long (0 : Int64)), (.long (0 : Int64)), (.long (0 : Int64)), (.long (0 : Int64)), (.long (0 : Int64)), (.long (0 : Int64)), (.long (0 : Int64)), (.long (0 : Int64))] (.long (0 : Int64))) (f9 : Exa Z h0 r0 cs0) (g10 : n0 ≤ r0) (n12 : r2 ≠ r0) (g15 : n0 ≤ r2) (f17 : Fld Z h0 r0 cs0 "size" "I" (.int (0 : Int32))) (f22 : Fld Z h0 r0 cs0 "chunks" "[[J" (.ref r4)) (f24 : Fld Z h0 r0 cs0 "items" "Ljava/lang/String;" (.ref r5)) :
    MetFree l (⟨cs0, "add", "(J)V"⟩ : MethodName) (head1 (Jvm.Cond.code (⟨cs0, "add", "(J)V"⟩ : MethodName) prog_13_method_2_code 3 none :: ws) ({ frames := 0, cells := 0, slots := 0, locals := 0 } : Room)) (fun a U => a = #[(.ref r0), (.long y1)] ∧ Z.Warmed39 U.vm ∧ U.heap = h0) (fun _ _ _ _ _ => True) (fun _ U o U' => ∃ v L, o = .returned v ∧ Q5_1 Z r0 y1 r2 c3 r4 r5 h0 n0 v U'.heap L ∧ FrameEnd U o U' L ({ frames := 0, cells := 0, slots := 0, locals := 0 } : Room).cells ({ frames := 0, cells := 0, slots := 0, locals := 0 } : Room).slots) := by
  refine MetFree.of_bodySF (plainFor_of_name pn_com_example_links_to_ranks_linkstoranks_LongList) hisR ?_
  intro p e s m args below meth c s₁ Bd hml0 hP hK
  obtain ⟨rfl, hZ, hh⟩ := hP
  have hx := Bd.exec
  have hby := Bd.bytes
  have hml : c.maxLocals = 3 := hml0
  have hown : s.vm.findClass cs0 = some m.cls := findClass_of_methodNamed Bd.named
  have hnm := (name_of_methodNamed Bd.named Bd.method).1
  have X0 : Stand p l e ({ frames := 0, cells := 0, slots := 0, locals := 0 } : Room) s m #[(.ref r0), (.long y1)] below meth c s₁ [] 0 0 := Stand.of_body Bd
  have e0 : s₁.heap = h0 := by rw [← hh, Bd.state]; rfl
  have N0 := Fr.nil n0
  have pre0 : ∀ t, Steps p.tables e below (s₁.setTop (mkF m 0 #[.val (.ref r0), .val (.long y1), .second] [])) t → Steps p.tables e below (s₁.setTop (entryFrame m #[(.ref r0), (.long y1)] 3)) t := fun t k => castTop (by first | (simp [entryFrame, mkF, argsToLocals, Value.category]; done) | rfl) k
  obtain ⟨T2, X2, e2, st2⟩ := getF X0 hx hZ hown (host := "") (Or.inl (ww hw 50 rfl)) Via.refl e0 f1 (g := (mkF m 1 #[.val (.ref r0), .val (.long y1), .second] [(.ref r0)])) rfl rfl (hb hby d5_1)
  obtain ⟨T4, X4, e4, st4⟩ := getF X2 hx hZ hown (host := "") (Or.inl (ww hw 23 rfl)) Via.refl e2 f3 (g := (mkF m 5 #[.val (.ref r0), .val (.long y1), .second] [(.ref r0), (.int (0 : Int32))])) rfl rfl (hb hby d5_5)
  obtain ⟨clq6, Arq6, qq6, Sq6, Nq6, Hq6, Gq6⟩ := id f5
  obtain ⟨T7, X7, e7, st7⟩ := getF X4 hx hZ hown (host := "") (Or.inl (ww hw 23 rfl)) Via.refl e4 f3 (g := (mkF m 17 #[.val (.ref r0), .val (.long y1), .second] [(.ref r0)])) rfl rfl (hb hby d5_17)
  obtain ⟨T8, X8, e8, st8⟩ := getF X7 hx hZ hown (host := "") (Or.inl (ww hw 50 rfl)) Via.refl e7 f1 (g := (mkF m 22 #[.val (.ref r0), .val (.long y1), .second] [(.ref r0), (.ref r0), (.ref r2)])) rfl rfl (hb hby d5_22)
  obtain ⟨T11, h11, X11, e11, W11, st11⟩ := putF X8 hx hZ hown (host := "") (Or.inl (ww hw 50 rfl)) Via.refl e8 f1 f9 (Or.inl (ww hw 51 rfl)) (ww hw 1 rfl) (ty := .int) (by decide) rfl rfl (g := (mkF m 28 #[.val (.ref r0), .val (.long y1), .second] [(.int (1 : Int32)), (.ref r0), (.int (0 : Int32)), (.ref r2)])) rfl rfl (hb hby d5_28)
  have Fw11 := f1.same W11
  have N11 := Fr.snoc X11 N0 g10
  have f13 := (f5.other W11 n12)
  obtain ⟨clq14, Arq14, qq14, Sq14, Nq14, Hq14, Gq14⟩ := id f13
  obtain ⟨T16, h16, X16, e16, W16, st16⟩ := stJ X11 hx hZ e11 Arq14 (j := (0 : Int32)) (inb_of Sq14 ⟨(by decide : ¬ ((0 : Int32) < (0 : Int32))), (by decide : (0 : Int32) < (1024 : Int32))⟩) (g := (mkF m 32 #[.val (.ref r0), .val (.long y1), .second] [(.long y1), (.int (0 : Int32)), (.ref r2)])) rfl rfl (hb hby d5_32)
  have V16 : Arv Z h16 r2 c3 .long (1024 : Int32) [(.long y1), (.long (0 : Int64)), (.long (0 : Int64)), (.long (0 : Int64)), (.long (0 : Int64)), (.long (0 : Int64)), (.long (0 : Int64)), (.long (0 : Int64))] (.long (0 : Int64)) := Arv.set Arq14 qq14 Sq14 Nq14 Hq14 Gq14 rfl W16 0 rfl (Nat.le_of_ble_eq_true rfl)
  have N16 := Fr.snoc X16 N11 g15
  have f18 := ((f17.other W11 (Or.inr (slot_ne (Or.inl (ww hw 36 rfl)) (Or.inl (ww hw 51 rfl)) (by decide) (t := .int) (t' := .int) (by decide) (by decide)))).other W16 (Or.inl (Ne.symm n12)))
  obtain ⟨T19, X19, e19, st19⟩ := getF X16 hx hZ hown (host := "") (Or.inl (ww hw 35 rfl)) Via.refl e16 f18 (g := (mkF m 35 #[.val (.ref r0), .val (.long y1), .second] [(.ref r0), (.ref r0)])) rfl rfl (hb hby d5_35)
  have f20 := ((f9.wr W11).wr W16)
  obtain ⟨T21, h21, X21, e21, W21, st21⟩ := putF X19 hx hZ hown (host := "") (Or.inl (ww hw 35 rfl)) Via.refl e19 f18 f20 (Or.inl (ww hw 36 rfl)) (ww hw 1 rfl) (ty := .int) (by decide) rfl rfl (g := (mkF m 40 #[.val (.ref r0), .val (.long y1), .second] [(.int (1 : Int32)), (.ref r0)])) rfl rfl (hb hby d5_40)
  have Fw21 := f18.same W21
  have N21 := Fr.snoc X21 N16 g10
  have f23 := (((f22.other W11 (Or.inr (slot_ne (Or.inl (ww hw 22 rfl)) (Or.inl (ww hw 51 rfl)) (by decide) (t := (.array (.array .long))) (t' := .int) (by decide) (by decide)))).other W16 (Or.inl (Ne.symm n12))).other W21 (Or.inr (slot_ne (Or.inl (ww hw 22 rfl)) (Or.inl (ww hw 36 rfl)) (by decide) (t := (.array (.array .long))) (t' := .int) (by decide) (by decide))))
  have f25 := (((f24.other W11 (Or.inr (slot_ne (Or.inr (ww hw 26 rfl)) (Or.inl (ww hw 51 rfl)) (by decide) (t := (.object "java/lang/String")) (t' := .int) (by decide) (by decide)))).other W16 (Or.inl (Ne.symm n12))).other W21 (Or.inr (slot_ne (Or.inr (ww hw 26 rfl)) (Or.inl (ww hw 36 rfl)) (by decide) (t := (.object "java/lang/String")) (t' := .int) (by decide) (by decide))))
  have f26 := ((Fw11.other W16 (Or.inl (Ne.symm n12))).other W21 (Or.inr (slot_ne (Or.inl (ww hw 51 rfl)) (Or.inl (ww hw 36 rfl)) (by decide) (t := .int) (t' := .int) (by decide) (by decide))))
  have f27 := (((f3.other W11 (Or.inr (slot_ne (Or.inl (ww hw 24 rfl)) (Or.inl (ww hw 51 rfl)) (by decide) (t := (.array .long)) (t' := .int) (by decide) (by decide)))).other W16 (Or.inl (Ne.symm n12))).other W21 (Or.inr (slot_ne (Or.inl (ww hw 24 rfl)) (Or.inl (ww hw 36 rfl)) (by decide) (t := (.array .long)) (t' := .int) (by decide) (by decide))))
  have f28 := (V16.other W21 n12)
  have kp29 : Keep h0 h11 [r0, r2] := (Keep.refl h0 [r0, r2]).wr W11 (Or.inl (List.mem_of_getElem? (i := 0) rfl))
  have kp30 : Keep h0 h16 [r0, r2] := kp29.wr W16 (Or.inl (List.mem_of_getElem? (i := 1) rfl))
  have kp31 : Keep h0 h21 [r0, r2] := kp30.wr W21 (Or.inl (List.mem_of_getElem? (i := 0) rfl))
  obtain ⟨fs, hr, hrun, hended, hW, hsame⟩ := X21.leave (v := none) (fun _ => rfl)
  refine ⟨_, _, pre0 _ ?_, hrun, hended, _, _, rfl, ?_, ⟨_, rfl⟩, hW, hsame.mono (by decide) (by decide)⟩
  · show Steps p.tables e below (s₁.setTop (mkF m 0 #[.val (.ref r0), .val (.long y1), .second] [])) _
    refine XS.aloadN X0.here hx rfl (hb hby d5_0) rfl rfl ?_
    show Steps p.tables e below (s₁.setTop (mkF m 1 #[.val (.ref r0), .val (.long y1), .second] [(.ref r0)])) _
    refine st2 _ ?_
    show Steps p.tables e below (T2.setTop (mkF m 4 #[.val (.ref r0), .val (.long y1), .second] [(.int (0 : Int32))])) _
    refine XS.aloadN X2.here hx rfl (hb hby d5_4) rfl rfl ?_
    show Steps p.tables e below (T2.setTop (mkF m 5 #[.val (.ref r0), .val (.long y1), .second] [(.ref r0), (.int (0 : Int32))])) _
    refine st4 _ ?_
    show Steps p.tables e below (T4.setTop (mkF m 8 #[.val (.ref r0), .val (.long y1), .second] [(.ref r2), (.int (0 : Int32))])) _
    refine X4.arraylength hx (by rw [e4]; exact Arq6.1) (State.isArrayOf_alike hZ.alike Arq6.2.1) (g := (mkF m 8 #[.val (.ref r0), .val (.long y1), .second] [(.ref r2), (.int (0 : Int32))])) rfl rfl (hb hby d5_8) _ ?_
    rw [len_of Sq6 Nq6]
    show Steps p.tables e below (T4.setTop (mkF m 9 #[.val (.ref r0), .val (.long y1), .second] [(.int (1024 : Int32)), (.int (0 : Int32))])) _
    refine XS.icmpYes X4.here hx rfl (pc0 := 9) (pc' := 16) rfl (hb hby d5_9) rfl (feq (by decide : ¬ ((0 : Int32) = (1024 : Int32)))).2 (by decide) (by decide) ?_
    show Steps p.tables e below (T4.setTop (mkF m 16 #[.val (.ref r0), .val (.long y1), .second] [])) _
    refine XS.aloadN X4.here hx rfl (hb hby d5_16) rfl rfl ?_
    show Steps p.tables e below (T4.setTop (mkF m 17 #[.val (.ref r0), .val (.long y1), .second] [(.ref r0)])) _
    refine st7 _ ?_
    show Steps p.tables e below (T7.setTop (mkF m 20 #[.val (.ref r0), .val (.long y1), .second] [(.ref r2)])) _
    refine XS.aloadN X7.here hx rfl (hb hby d5_20) rfl rfl ?_
    show Steps p.tables e below (T7.setTop (mkF m 21 #[.val (.ref r0), .val (.long y1), .second] [(.ref r0), (.ref r2)])) _
    refine XS.dup X7.here hx rfl (hb hby d5_21) rfl rfl ?_
    show Steps p.tables e below (T7.setTop (mkF m 22 #[.val (.ref r0), .val (.long y1), .second] [(.ref r0), (.ref r0), (.ref r2)])) _
    refine st8 _ ?_
    show Steps p.tables e below (T8.setTop (mkF m 25 #[.val (.ref r0), .val (.long y1), .second] [(.int (0 : Int32)), (.ref r0), (.ref r2)])) _
    refine XS.dupX1 X8.here hx rfl (hb hby d5_25) rfl rfl rfl ?_
    show Steps p.tables e below (T8.setTop (mkF m 26 #[.val (.ref r0), .val (.long y1), .second] [(.int (0 : Int32)), (.ref r0), (.int (0 : Int32)), (.ref r2)])) _
    refine XS.iconst X8.here hx rfl (hb hby d5_26) ?_
    show Steps p.tables e below (T8.setTop (mkF m 27 #[.val (.ref r0), .val (.long y1), .second] [(.int (1 : Int32)), (.int (0 : Int32)), (.ref r0), (.int (0 : Int32)), (.ref r2)])) _
    refine XS.iadd X8.here hx rfl (hb hby d5_27) rfl ?_
    show Steps p.tables e below (T8.setTop (mkF m 28 #[.val (.ref r0), .val (.long y1), .second] [(.int (1 : Int32)), (.ref r0), (.int (0 : Int32)), (.ref r2)])) _
    refine st11 _ ?_
    show Steps p.tables e below (T11.setTop (mkF m 31 #[.val (.ref r0), .val (.long y1), .second] [(.int (0 : Int32)), (.ref r2)])) _
    refine XS.lloadN X11.here hx rfl (hb hby d5_31) rfl ?_
    show Steps p.tables e below (T11.setTop (mkF m 32 #[.val (.ref r0), .val (.long y1), .second] [(.long y1), (.int (0 : Int32)), (.ref r2)])) _
    refine st16 _ ?_
    show Steps p.tables e below (T16.setTop (mkF m 33 #[.val (.ref r0), .val (.long y1), .second] [])) _
    refine XS.aloadN X16.here hx rfl (hb hby d5_33) rfl rfl ?_
    show Steps p.tables e below (T16.setTop (mkF m 34 #[.val (.ref r0), .val (.long y1), .second] [(.ref r0)])) _
    refine XS.dup X16.here hx rfl (hb hby d5_34) rfl rfl ?_
    show Steps p.tables e below (T16.setTop (mkF m 35 #[.val (.ref r0), .val (.long y1), .second] [(.ref r0), (.ref r0)])) _
    refine st19 _ ?_
    show Steps p.tables e below (T19.setTop (mkF m 38 #[.val (.ref r0), .val (.long y1), .second] [(.int (0 : Int32)), (.ref r0)])) _
    refine XS.iconst X19.here hx rfl (hb hby d5_38) ?_
    show Steps p.tables e below (T19.setTop (mkF m 39 #[.val (.ref r0), .val (.long y1), .second] [(.int (1 : Int32)), (.int (0 : Int32)), (.ref r0)])) _
    refine XS.iadd X19.here hx rfl (hb hby d5_39) rfl ?_
    show Steps p.tables e below (T19.setTop (mkF m 40 #[.val (.ref r0), .val (.long y1), .second] [(.int (1 : Int32)), (.ref r0)])) _
    refine st21 _ ?_
    show Steps p.tables e below (T21.setTop (mkF m 43 #[.val (.ref r0), .val (.long y1), .second] [])) _
    exact X21.returnOut hx Bd.returns (hb hby d5_43) hr
  · show Q5_1 Z r0 y1 r2 c3 r4 r5 h0 n0 _ T21.heap _
    rw [e21]
    exact ⟨rfl, N21, kp31, f26, f27, Fw21, f23, f25, f28⟩
theorem pd__J_V : parseMethodDescriptor "(J)V" = some ⟨[.long], none⟩ := by decide +kernel
def Q4_2 (Z : State) (r0 : Addr) (r1 : Addr) (h0 : Heap) (n0 : Nat) (v : Option Value) (h : Heap) (L : List Loc) : Prop := v = none ∧ Fr n0 L ∧ Keep h0 h [r0] ∧ Fld Z h r0 cs1 "chunks" "[[J" (.ref r1) ∧ Fld Z h r0 cs1 "size" "I" (.int (1 : Int32))
set_option maxRecDepth 65536 in
set_option maxHeartbeats 40000000 in
theorem rm4_2 (l : Launch) (Z : State) (a0 : Array Value) (hw : ∀ d ∈ tables_1, d.before a0 Z = true) (ws : List Jvm.Cond) (r0 : Addr) (r1 : Addr) (h0 : Heap) (n0 : Nat) (O0 : Old Z n0 h0) (f2 : Exa Z h0 r0 cs1) (f3 : Fld Z h0 r0 cs1 "chunks" "[[J" .null) (g4 : n0 ≤ r0) (f7 : Fld Z h0 r0 cs1 "size" "I" (.int (0 : Int32))) :
    MetFree l (⟨cs1, "<init>", "([[JI)V"⟩ : MethodName) (head1 (Jvm.Cond.code (⟨cs1, "<init>", "([[JI)V"⟩ : MethodName) prog_14_method_1_code 3 none :: ws) ({ frames := 1, cells := 0, slots := 0, locals := 12 } : Room)) (fun a U => a = #[(.ref r0), (.ref r1), (.int (1 : Int32))] ∧ Z.Warmed39 U.vm ∧ U.heap = h0) (fun _ _ _ _ _ => True) (fun _ U o U' => ∃ v L, o = .returned v ∧ Q4_2 Z r0 r1 h0 n0 v U'.heap L ∧ FrameEnd U o U' L ({ frames := 1, cells := 0, slots := 0, locals := 12 } : Room).cells ({ frames := 1, cells := 0, slots := 0, locals := 12 } : Room).slots) := by
  refine MetFree.of_bodySF (plainFor_of_name pn_com_example_links_to_ranks_linkstoranks_LongList_View) hisR ?_
  intro p e s m args below meth c s₁ Bd hml0 hP hK
  obtain ⟨rfl, hZ, hh⟩ := hP
  have hx := Bd.exec
  have hby := Bd.bytes
  have hml : c.maxLocals = 3 := hml0
  have hown : s.vm.findClass cs1 = some m.cls := findClass_of_methodNamed Bd.named
  have hnm := (name_of_methodNamed Bd.named Bd.method).1
  have X0 : Stand p l e ({ frames := 1, cells := 0, slots := 0, locals := 12 } : Room) s m #[(.ref r0), (.ref r1), (.int (1 : Int32))] below meth c s₁ [] 0 0 := Stand.of_body Bd
  have e0 : s₁.heap = h0 := by rw [← hh, Bd.state]; rfl
  have N0 := Fr.nil n0
  have pre0 : ∀ t, Steps p.tables e below (s₁.setTop (mkF m 0 #[.val (.ref r0), .val (.ref r1), .val (.int (1 : Int32))] [])) t → Steps p.tables e below (s₁.setTop (entryFrame m #[(.ref r0), (.ref r1), (.int (1 : Int32))] 3)) t := fun t k => castTop (by first | (simp [entryFrame, mkF, argsToLocals, Value.category]; done) | rfl) k
  obtain ⟨T1, X1, e1, st1⟩ := initO X0 hx hZ hown (ww hw 40 rfl) (ww hw 15 rfl) (ww hw 16 rfl) e0 (g := (mkF m 1 #[.val (.ref r0), .val (.ref r1), .val (.int (1 : Int32))] [(.ref r0)])) rfl (by rw [hml]; rfl) rfl (hb hby d4_1) (by decide) (W := 0) (by show 2 * 0 + _ ≤ _; exact Nat.le_of_eq rfl) (by decide)
  obtain ⟨T5, h5, X5, e5, W5, st5⟩ := putF X1 hx hZ hown (host := "") (Or.inl (ww hw 41 rfl)) Via.refl e1 f3 f2 (Or.inr ⟨(ww hw 42 rfl), rfl, hnm⟩) (ww hw 33 rfl) (ty := (.array (.array .long))) (by decide) rfl rfl (g := (mkF m 6 #[.val (.ref r0), .val (.ref r1), .val (.int (1 : Int32))] [(.ref r1), (.ref r0)])) rfl rfl (hb hby d4_6)
  have Fw5 := f3.same W5
  have N5 := Fr.snoc X5 N0 g4
  have f6 := (f2.wr W5)
  have f8 := (f7.other W5 (Or.inr (slot_ne (Or.inr (ww hw 44 rfl)) (Or.inr (ww hw 42 rfl)) (by decide) (t := .int) (t' := (.array (.array .long))) (by decide) (by decide))))
  obtain ⟨T9, h9, X9, e9, W9, st9⟩ := putF X5 hx hZ hown (host := "") (Or.inl (ww hw 43 rfl)) Via.refl e5 f8 f6 (Or.inr ⟨(ww hw 44 rfl), rfl, hnm⟩) (ww hw 33 rfl) (ty := .int) (by decide) rfl rfl (g := (mkF m 11 #[.val (.ref r0), .val (.ref r1), .val (.int (1 : Int32))] [(.int (1 : Int32)), (.ref r0)])) rfl rfl (hb hby d4_11)
  have Fw9 := f8.same W9
  have N9 := Fr.snoc X9 N5 g4
  have f10 := (Fw5.other W9 (Or.inr (slot_ne (Or.inr (ww hw 42 rfl)) (Or.inr (ww hw 44 rfl)) (by decide) (t := (.array (.array .long))) (t' := .int) (by decide) (by decide))))
  have kp11 : Keep h0 h5 [r0] := (Keep.refl h0 [r0]).wr W5 (Or.inl (List.mem_of_getElem? (i := 0) rfl))
  have kp12 : Keep h0 h9 [r0] := kp11.wr W9 (Or.inl (List.mem_of_getElem? (i := 0) rfl))
  obtain ⟨fs, hr, hrun, hended, hW, hsame⟩ := X9.leave (v := none) (fun _ => rfl)
  refine ⟨_, _, pre0 _ ?_, hrun, hended, _, _, rfl, ?_, ⟨_, rfl⟩, hW, hsame.mono (by decide) (by decide)⟩
  · show Steps p.tables e below (s₁.setTop (mkF m 0 #[.val (.ref r0), .val (.ref r1), .val (.int (1 : Int32))] [])) _
    refine XS.aloadN X0.here hx rfl (hb hby d4_0) rfl rfl ?_
    show Steps p.tables e below (s₁.setTop (mkF m 1 #[.val (.ref r0), .val (.ref r1), .val (.int (1 : Int32))] [(.ref r0)])) _
    refine st1 _ ?_
    show Steps p.tables e below (T1.setTop (mkF m 4 #[.val (.ref r0), .val (.ref r1), .val (.int (1 : Int32))] [])) _
    refine XS.aloadN X1.here hx rfl (hb hby d4_4) rfl rfl ?_
    show Steps p.tables e below (T1.setTop (mkF m 5 #[.val (.ref r0), .val (.ref r1), .val (.int (1 : Int32))] [(.ref r0)])) _
    refine XS.aloadN X1.here hx rfl (hb hby d4_5) rfl rfl ?_
    show Steps p.tables e below (T1.setTop (mkF m 6 #[.val (.ref r0), .val (.ref r1), .val (.int (1 : Int32))] [(.ref r1), (.ref r0)])) _
    refine st5 _ ?_
    show Steps p.tables e below (T5.setTop (mkF m 9 #[.val (.ref r0), .val (.ref r1), .val (.int (1 : Int32))] [])) _
    refine XS.aloadN X5.here hx rfl (hb hby d4_9) rfl rfl ?_
    show Steps p.tables e below (T5.setTop (mkF m 10 #[.val (.ref r0), .val (.ref r1), .val (.int (1 : Int32))] [(.ref r0)])) _
    refine XS.iloadN X5.here hx rfl (hb hby d4_10) rfl ?_
    show Steps p.tables e below (T5.setTop (mkF m 11 #[.val (.ref r0), .val (.ref r1), .val (.int (1 : Int32))] [(.int (1 : Int32)), (.ref r0)])) _
    refine st9 _ ?_
    show Steps p.tables e below (T9.setTop (mkF m 14 #[.val (.ref r0), .val (.ref r1), .val (.int (1 : Int32))] [])) _
    exact X9.returnOut hx Bd.returns (hb hby d4_14) hr
  · show Q4_2 Z r0 r1 h0 n0 _ T9.heap _
    rw [e9]
    exact ⟨rfl, N9, kp12, f10, Fw9⟩
def Q3_2 (Z : State) (r0 : Addr) (r1 : Addr) (h0 : Heap) (n0 : Nat) (v : Option Value) (h : Heap) (L : List Loc) : Prop := ∃ (b1 : Addr), v = some (.ref b1) ∧ Fr n0 L ∧ Keep h0 h [] ∧ h0.size ≤ b1 ∧ Exa Z h b1 cs1 ∧ Fld Z h b1 cs1 "chunks" "[[J" (.ref r1) ∧ Fld Z h b1 cs1 "size" "I" (.int (1 : Int32))
set_option maxRecDepth 65536 in
set_option maxHeartbeats 40000000 in
theorem rm3_2 (l : Launch) (Z : State) (a0 : Array Value) (hw : ∀ d ∈ tables_1, d.before a0 Z = true) (ws : List Jvm.Cond) (r0 : Addr) (r1 : Addr) (h0 : Heap) (n0 : Nat) (O0 : Old Z n0 h0) (f4 : Fld Z h0 r0 cs0 "chunks" "[[J" (.ref r1)) (f7 : Fld Z h0 r0 cs0 "size" "I" (.int (1 : Int32))) :
    MetFree l (⟨cs0, "view", cs2⟩ : MethodName) (head1 (Jvm.Cond.code (⟨cs0, "view", cs2⟩ : MethodName) prog_13_method_4_code 1 (some (.object cs1)) :: ws) ({ frames := 2, cells := 1, slots := 2, locals := 27 } : Room)) (fun a U => a = #[(.ref r0)] ∧ Z.Warmed39 U.vm ∧ U.heap = h0) (fun _ _ _ _ _ => True) (fun _ U o U' => ∃ v L, o = .returned v ∧ Q3_2 Z r0 r1 h0 n0 v U'.heap L ∧ FrameEnd U o U' L ({ frames := 2, cells := 1, slots := 2, locals := 27 } : Room).cells ({ frames := 2, cells := 1, slots := 2, locals := 27 } : Room).slots) := by
  refine MetFree.of_bodySF (plainFor_of_name pn_com_example_links_to_ranks_linkstoranks_LongList) hisR ?_
  intro p e s m args below meth c s₁ Bd hml0 hP hK
  obtain ⟨rfl, hZ, hh⟩ := hP
  have hx := Bd.exec
  have hby := Bd.bytes
  have hml : c.maxLocals = 1 := hml0
  have hown : s.vm.findClass cs0 = some m.cls := findClass_of_methodNamed Bd.named
  have hnm := (name_of_methodNamed Bd.named Bd.method).1
  have X0 : Stand p l e ({ frames := 2, cells := 1, slots := 2, locals := 27 } : Room) s m #[(.ref r0)] below meth c s₁ [] 0 0 := Stand.of_body Bd
  have e0 : s₁.heap = h0 := by rw [← hh, Bd.state]; rfl
  have N0 := Fr.nil n0
  have pre0 : ∀ t, Steps p.tables e below (s₁.setTop (mkF m 0 #[.val (.ref r0)] [])) t → Steps p.tables e below (s₁.setTop (entryFrame m #[(.ref r0)] 1)) t := fun t k => castTop (by first | (simp [entryFrame, mkF, argsToLocals, Value.category]; done) | rfl) k
  obtain ⟨T1, h1, X1, e1, E1, A1, D1, -, st1⟩ := newO X0 hx hZ hown (ww hw 32 rfl) (ww hw 33 rfl) (ww hw 34 rfl) e0 (g := (mkF m 0 #[.val (.ref r0)] [])) rfl (hb hby d3_0) (by decide) (by decide)
  obtain ⟨b1, g1⟩ : ∃ z, z = h0.size := ⟨_, rfl⟩
  rw [← g1] at A1 D1 st1
  have f2 : Fld Z h1 b1 cs1 "chunks" "[[J" .null := D1 (Or.inr (ww hw 42 rfl)) (ty := (.array (.array .long))) (by decide)
  have f3 : Fld Z h1 b1 cs1 "size" "I" (.int (0 : Int32)) := D1 (Or.inr (ww hw 44 rfl)) (ty := .int) (by decide)
  have f5 := (f4.ext E1)
  obtain ⟨T6, X6, e6, st6⟩ := getF X1 hx hZ hown (host := "") (Or.inl (ww hw 21 rfl)) Via.refl e1 f5 (g := (mkF m 5 #[.val (.ref r0)] [(.ref r0), (.ref b1), (.ref b1)])) rfl rfl (hb hby d3_5)
  have f8 := (f7.ext E1)
  obtain ⟨T9, X9, e9, st9⟩ := getF X6 hx hZ hown (host := "") (Or.inl (ww hw 35 rfl)) Via.refl e6 f8 (g := (mkF m 9 #[.val (.ref r0)] [(.ref r0), (.ref r1), (.ref b1), (.ref b1)])) rfl rfl (hb hby d3_9)
  have zz10 : n0 ≤ h0.size := by rw [← O0.1]; exact O0.2.1
  have g11 := Nat.le_trans zz10 (Nat.le_of_eq g1.symm)
  have o12 := Old.ext O0 E1
  obtain ⟨_, _, ⟨T13, L13, k13, n13⟩, -, X13, ⟨Lc13, hQ13, l13, y13, z13⟩, st13⟩ := own_specialRef X9 hx hZ (y := (⟨cs1, "<init>", "([[JI)V"⟩ : MethodName)) rfl hown (ww hw 37 rfl) (mvT hZ (ww hw 38 rfl)) (mvT hZ (ww hw 39 rfl)) (by decide) (backOf (W := 1) (rm4_2 l Z a0 hw [] b1 r1 h1 n0 o12 A1 f2 g11 f3) hZ (ww hw 39 rfl) (ww hw 34 rfl) (by decide) (by decide)) (g := (mkF m 12 #[.val (.ref r0)] [(.int (1 : Int32)), (.ref r1), (.ref b1), (.ref b1)])) rfl (by rw [hml]; rfl) (Steps.refl _) (a := b1) (argsL := [(.ref r1), (.int (1 : Int32))]) (rest := [(.ref b1)]) (lenOf pd____JI_V rfl) rfl (by show 2 * 0 + _ ≤ _; exact Nat.le_of_eq rfl) (hb hby d3_12) (fun _ _ => ⟨rfl, e9, (by decide : 1 + 0 ≤ _), (by decide : 2 + 0 ≤ _)⟩)
  dsimp only [Pt.U, Pt.locs, Pt.cells, Pt.slots] at X13 l13 y13 z13 st13 hQ13
  subst l13 y13 z13
  obtain ⟨rfl, N13q, K13, f14, f15⟩ := hQ13
  have N13 := Fr.app N0 N13q
  have f16 := (A1.keep K13)
  have kp17 : Keep h0 h1 [] := (Keep.refl h0 []).ext E1
  have kp18 : Keep h0 T13.heap [] := kp17.trans K13 (allS (Or.inr (Nat.le_of_eq g1.symm)) all0)
  obtain ⟨fs, hr, hrun, hended, hW, hsame⟩ := X13.leave (v := some (.ref b1)) (fun h => by rw [Bd.returns] at h; cases h)
  refine ⟨_, _, pre0 _ ?_, hrun, hended, _, _, rfl, ?_, ⟨_, rfl⟩, hW, hsame.mono (by decide) (by decide)⟩
  · show Steps p.tables e below (s₁.setTop (mkF m 0 #[.val (.ref r0)] [])) _
    refine st1 _ ?_
    show Steps p.tables e below (T1.setTop (mkF m 3 #[.val (.ref r0)] [(.ref b1)])) _
    refine XS.dup X1.here hx rfl (hb hby d3_3) rfl rfl ?_
    show Steps p.tables e below (T1.setTop (mkF m 4 #[.val (.ref r0)] [(.ref b1), (.ref b1)])) _
    refine XS.aloadN X1.here hx rfl (hb hby d3_4) rfl rfl ?_
    show Steps p.tables e below (T1.setTop (mkF m 5 #[.val (.ref r0)] [(.ref r0), (.ref b1), (.ref b1)])) _
    refine st6 _ ?_
    show Steps p.tables e below (T6.setTop (mkF m 8 #[.val (.ref r0)] [(.ref r1), (.ref b1), (.ref b1)])) _
    refine XS.aloadN X6.here hx rfl (hb hby d3_8) rfl rfl ?_
    show Steps p.tables e below (T6.setTop (mkF m 9 #[.val (.ref r0)] [(.ref r0), (.ref r1), (.ref b1), (.ref b1)])) _
    refine st9 _ ?_
    show Steps p.tables e below (T9.setTop (mkF m 12 #[.val (.ref r0)] [(.int (1 : Int32)), (.ref r1), (.ref b1), (.ref b1)])) _
    refine st13.trans ?_
    show Steps p.tables e below (T13.setTop (mkF m 15 #[.val (.ref r0)] [(.ref b1)])) _
    exact retOut X13 hx (i := .areturn) Bd.returns rfl (Or.inr (Or.inr (Or.inr (Or.inr ⟨rfl, rfl, rfl⟩)))) (hb hby d3_15) hr
  · show Q3_2 Z r0 r1 h0 n0 _ T13.heap _
    exact ⟨b1, rfl, N13, kp18, (Nat.le_of_eq g1.symm), f16, f14, f15⟩
theorem d6_0 : decode prog_14_method_2_code 0 = .ok (.aload_n 0, 1) := by decide +kernel
theorem d6_1 : decode prog_14_method_2_code 1 = .ok (.getfield 15, 3) := by decide +kernel
theorem d6_4 : decode prog_14_method_2_code 4 = .ok (.ireturn, 1) := by decide +kernel
def Q6_1 (Z : State) (r0 : Addr) (h0 : Heap) (n0 : Nat) (v : Option Value) (h : Heap) (L : List Loc) : Prop := v = some (.int (0 : Int32)) ∧ Fr n0 L ∧ h = h0
set_option maxRecDepth 65536 in
set_option maxHeartbeats 40000000 in
theorem rm6_1 (l : Launch) (Z : State) (a0 : Array Value) (hw : ∀ d ∈ tables_1, d.before a0 Z = true) (ws : List Jvm.Cond) (r0 : Addr) (h0 : Heap) (n0 : Nat) (O0 : Old Z n0 h0) (f1 : Fld Z h0 r0 cs1 "size" "I" (.int (0 : Int32))) :
    MetFree l (⟨cs1, "size", "()I"⟩ : MethodName) (head1 (Jvm.Cond.code (⟨cs1, "size", "()I"⟩ : MethodName) prog_14_method_2_code 1 (some .int) :: ws) ({ frames := 0, cells := 0, slots := 0, locals := 0 } : Room)) (fun a U => a = #[(.ref r0)] ∧ Z.Warmed39 U.vm ∧ U.heap = h0) (fun _ _ _ _ _ => True) (fun _ U o U' => ∃ v L, o = .returned v ∧ Q6_1 Z r0 h0 n0 v U'.heap L ∧ FrameEnd U o U' L ({ frames := 0, cells := 0, slots := 0, locals := 0 } : Room).cells ({ frames := 0, cells := 0, slots := 0, locals := 0 } : Room).slots) := by
  refine MetFree.of_bodySF (plainFor_of_name pn_com_example_links_to_ranks_linkstoranks_LongList_View) hisR ?_
  intro p e s m args below meth c s₁ Bd hml0 hP hK
  obtain ⟨rfl, hZ, hh⟩ := hP
  have hx := Bd.exec
  have hby := Bd.bytes
  have hml : c.maxLocals = 1 := hml0
  have hown : s.vm.findClass cs1 = some m.cls := findClass_of_methodNamed Bd.named
  have hnm := (name_of_methodNamed Bd.named Bd.method).1
  have X0 : Stand p l e ({ frames := 0, cells := 0, slots := 0, locals := 0 } : Room) s m #[(.ref r0)] below meth c s₁ [] 0 0 := Stand.of_body Bd
  have e0 : s₁.heap = h0 := by rw [← hh, Bd.state]; rfl
  have N0 := Fr.nil n0
  have pre0 : ∀ t, Steps p.tables e below (s₁.setTop (mkF m 0 #[.val (.ref r0)] [])) t → Steps p.tables e below (s₁.setTop (entryFrame m #[(.ref r0)] 1)) t := fun t k => castTop (by first | (simp [entryFrame, mkF, argsToLocals, Value.category]; done) | rfl) k
  obtain ⟨T2, X2, e2, st2⟩ := getF X0 hx hZ hown (host := "") (Or.inl (ww hw 43 rfl)) Via.refl e0 f1 (g := (mkF m 1 #[.val (.ref r0)] [(.ref r0)])) rfl rfl (hb hby d6_1)
  obtain ⟨fs, hr, hrun, hended, hW, hsame⟩ := X2.leave (v := some (.int (0 : Int32))) (fun h => by rw [Bd.returns] at h; cases h)
  refine ⟨_, _, pre0 _ ?_, hrun, hended, _, _, rfl, ?_, ⟨_, rfl⟩, hW, hsame.mono (by decide) (by decide)⟩
  · show Steps p.tables e below (s₁.setTop (mkF m 0 #[.val (.ref r0)] [])) _
    refine XS.aloadN X0.here hx rfl (hb hby d6_0) rfl rfl ?_
    show Steps p.tables e below (s₁.setTop (mkF m 1 #[.val (.ref r0)] [(.ref r0)])) _
    refine st2 _ ?_
    show Steps p.tables e below (T2.setTop (mkF m 4 #[.val (.ref r0)] [(.int (0 : Int32))])) _
    exact retOut X2 hx (i := .ireturn) Bd.returns rfl (Or.inl ⟨rfl, Or.inl rfl, _, rfl⟩) (hb hby d6_4) hr
  · show Q6_1 Z r0 h0 n0 _ T2.heap _
    rw [e2]
    exact ⟨rfl, N0, rfl⟩
theorem pd___I : parseMethodDescriptor "()I" = some ⟨[], some .int⟩ := by decide +kernel
def Q6_2 (Z : State) (r0 : Addr) (h0 : Heap) (n0 : Nat) (v : Option Value) (h : Heap) (L : List Loc) : Prop := v = some (.int (1 : Int32)) ∧ Fr n0 L ∧ h = h0
set_option maxRecDepth 65536 in
set_option maxHeartbeats 40000000 in
theorem rm6_2 (l : Launch) (Z : State) (a0 : Array Value) (hw : ∀ d ∈ tables_1, d.before a0 Z = true) (ws : List Jvm.Cond) (r0 : Addr) (h0 : Heap) (n0 : Nat) (O0 : Old Z n0 h0) (f1 : Fld Z h0 r0 cs1 "size" "I" (.int (1 : Int32))) :
    MetFree l (⟨cs1, "size", "()I"⟩ : MethodName) (head1 (Jvm.Cond.code (⟨cs1, "size", "()I"⟩ : MethodName) prog_14_method_2_code 1 (some .int) :: ws) ({ frames := 0, cells := 0, slots := 0, locals := 0 } : Room)) (fun a U => a = #[(.ref r0)] ∧ Z.Warmed39 U.vm ∧ U.heap = h0) (fun _ _ _ _ _ => True) (fun _ U o U' => ∃ v L, o = .returned v ∧ Q6_2 Z r0 h0 n0 v U'.heap L ∧ FrameEnd U o U' L ({ frames := 0, cells := 0, slots := 0, locals := 0 } : Room).cells ({ frames := 0, cells := 0, slots := 0, locals := 0 } : Room).slots) := by
  refine MetFree.of_bodySF (plainFor_of_name pn_com_example_links_to_ranks_linkstoranks_LongList_View) hisR ?_
  intro p e s m args below meth c s₁ Bd hml0 hP hK
  obtain ⟨rfl, hZ, hh⟩ := hP
  have hx := Bd.exec
  have hby := Bd.bytes
  have hml : c.maxLocals = 1 := hml0
  have hown : s.vm.findClass cs1 = some m.cls := findClass_of_methodNamed Bd.named
  have hnm := (name_of_methodNamed Bd.named Bd.method).1
  have X0 : Stand p l e ({ frames := 0, cells := 0, slots := 0, locals := 0 } : Room) s m #[(.ref r0)] below meth c s₁ [] 0 0 := Stand.of_body Bd
  have e0 : s₁.heap = h0 := by rw [← hh, Bd.state]; rfl
  have N0 := Fr.nil n0
  have pre0 : ∀ t, Steps p.tables e below (s₁.setTop (mkF m 0 #[.val (.ref r0)] [])) t → Steps p.tables e below (s₁.setTop (entryFrame m #[(.ref r0)] 1)) t := fun t k => castTop (by first | (simp [entryFrame, mkF, argsToLocals, Value.category]; done) | rfl) k
  obtain ⟨T2, X2, e2, st2⟩ := getF X0 hx hZ hown (host := "") (Or.inl (ww hw 43 rfl)) Via.refl e0 f1 (g := (mkF m 1 #[.val (.ref r0)] [(.ref r0)])) rfl rfl (hb hby d6_1)
  obtain ⟨fs, hr, hrun, hended, hW, hsame⟩ := X2.leave (v := some (.int (1 : Int32))) (fun h => by rw [Bd.returns] at h; cases h)
  refine ⟨_, _, pre0 _ ?_, hrun, hended, _, _, rfl, ?_, ⟨_, rfl⟩, hW, hsame.mono (by decide) (by decide)⟩
  · show Steps p.tables e below (s₁.setTop (mkF m 0 #[.val (.ref r0)] [])) _
    refine XS.aloadN X0.here hx rfl (hb hby d6_0) rfl rfl ?_
    show Steps p.tables e below (s₁.setTop (mkF m 1 #[.val (.ref r0)] [(.ref r0)])) _
    refine st2 _ ?_
    show Steps p.tables e below (T2.setTop (mkF m 4 #[.val (.ref r0)] [(.int (1 : Int32))])) _
    exact retOut X2 hx (i := .ireturn) Bd.returns rfl (Or.inl ⟨rfl, Or.inl rfl, _, rfl⟩) (hb hby d6_4) hr
  · show Q6_2 Z r0 h0 n0 _ T2.heap _
    rw [e2]
    exact ⟨rfl, N0, rfl⟩
theorem d7_0 : decode prog_14_method_3_code 0 = .ok (.aload_n 0, 1) := by decide +kernel
theorem d7_1 : decode prog_14_method_3_code 1 = .ok (.getfield 9, 3) := by decide +kernel
theorem d7_4 : decode prog_14_method_3_code 4 = .ok (.iload_n 1, 1) := by decide +kernel
theorem d7_5 : decode prog_14_method_3_code 5 = .ok (.bipush 18, 2) := by decide +kernel
theorem d7_7 : decode prog_14_method_3_code 7 = .ok (.iushr, 1) := by decide +kernel
theorem d7_8 : decode prog_14_method_3_code 8 = .ok (.aaload, 1) := by decide +kernel
theorem d7_9 : decode prog_14_method_3_code 9 = .ok (.iload_n 1, 1) := by decide +kernel
theorem d7_10 : decode prog_14_method_3_code 10 = .ok (.ldc 19, 2) := by decide +kernel
theorem d7_12 : decode prog_14_method_3_code 12 = .ok (.iand, 1) := by decide +kernel
theorem d7_13 : decode prog_14_method_3_code 13 = .ok (.laload, 1) := by decide +kernel
theorem d7_14 : decode prog_14_method_3_code 14 = .ok (.lreturn, 1) := by decide +kernel
def Q7_1 (Z : State) (r0 : Addr) (r1 : Addr) (c2 : ClassId) (r3 : Addr) (c4 : ClassId) (y5 : Int64) (h0 : Heap) (n0 : Nat) (v : Option Value) (h : Heap) (L : List Loc) : Prop := v = some (.long y5) ∧ Fr n0 L ∧ h = h0
set_option maxRecDepth 65536 in
set_option maxHeartbeats 40000000 in
theorem rm7_1 (l : Launch) (Z : State) (a0 : Array Value) (hw : ∀ d ∈ tables_1, d.before a0 Z = true) (ws : List Jvm.Cond) (r0 : Addr) (r1 : Addr) (c2 : ClassId) (r3 : Addr) (c4 : ClassId) (y5 : Int64) (h0 : Heap) (n0 : Nat) (O0 : Old Z n0 h0) (f1 : Fld Z h0 r0 cs1 "chunks" "[[J" (.ref r1)) (f3 : Arv Z h0 r1 c2 (.array .long) (1 : Int32) [(.ref r3)] .null) (f5 : Arv Z h0 r3 c4 .long (1024 : Int32) [(.long y5), (.long (0 : Int64)), (.long (0 : Int64)), (.long (0 : Int64)), (.long (0 : Int64)), (.long (0 : Int64)), (.long (0 : Int64)), (.long (0 : Int64))] (.long (0 : Int64))) :
    MetFree l (⟨cs1, "get", "(I)J"⟩ : MethodName) (head1 (Jvm.Cond.code (⟨cs1, "get", "(I)J"⟩ : MethodName) prog_14_method_3_code 2 (some .long) :: ws) ({ frames := 0, cells := 0, slots := 0, locals := 0 } : Room)) (fun a U => a = #[(.ref r0), (.int (0 : Int32))] ∧ Z.Warmed39 U.vm ∧ U.heap = h0) (fun _ _ _ _ _ => True) (fun _ U o U' => ∃ v L, o = .returned v ∧ Q7_1 Z r0 r1 c2 r3 c4 y5 h0 n0 v U'.heap L ∧ FrameEnd U o U' L ({ frames := 0, cells := 0, slots := 0, locals := 0 } : Room).cells ({ frames := 0, cells := 0, slots := 0, locals := 0 } : Room).slots) := by
  refine MetFree.of_bodySF (plainFor_of_name pn_com_example_links_to_ranks_linkstoranks_LongList_View) hisR ?_
  intro p e s m args below meth c s₁ Bd hml0 hP hK
  obtain ⟨rfl, hZ, hh⟩ := hP
  have hx := Bd.exec
  have hby := Bd.bytes
  have hml : c.maxLocals = 2 := hml0
  have hown : s.vm.findClass cs1 = some m.cls := findClass_of_methodNamed Bd.named
  have hnm := (name_of_methodNamed Bd.named Bd.method).1
  have X0 : Stand p l e ({ frames := 0, cells := 0, slots := 0, locals := 0 } : Room) s m #[(.ref r0), (.int (0 : Int32))] below meth c s₁ [] 0 0 := Stand.of_body Bd
  have e0 : s₁.heap = h0 := by rw [← hh, Bd.state]; rfl
  have N0 := Fr.nil n0
  have pre0 : ∀ t, Steps p.tables e below (s₁.setTop (mkF m 0 #[.val (.ref r0), .val (.int (0 : Int32))] [])) t → Steps p.tables e below (s₁.setTop (entryFrame m #[(.ref r0), (.int (0 : Int32))] 2)) t := fun t k => castTop (by first | (simp [entryFrame, mkF, argsToLocals, Value.category]; done) | rfl) k
  obtain ⟨T2, X2, e2, st2⟩ := getF X0 hx hZ hown (host := "") (Or.inl (ww hw 41 rfl)) Via.refl e0 f1 (g := (mkF m 1 #[.val (.ref r0), .val (.int (0 : Int32))] [(.ref r0)])) rfl rfl (hb hby d7_1)
  obtain ⟨clq4, Arq4, qq4, Sq4, Nq4, Hq4, Gq4⟩ := id f3
  obtain ⟨clq6, Arq6, qq6, Sq6, Nq6, Hq6, Gq6⟩ := id f5
  obtain ⟨fs, hr, hrun, hended, hW, hsame⟩ := X2.leave (v := some (.long y5)) (fun h => by rw [Bd.returns] at h; cases h)
  refine ⟨_, _, pre0 _ ?_, hrun, hended, _, _, rfl, ?_, ⟨_, rfl⟩, hW, hsame.mono (by decide) (by decide)⟩
  · show Steps p.tables e below (s₁.setTop (mkF m 0 #[.val (.ref r0), .val (.int (0 : Int32))] [])) _
    refine XS.aloadN X0.here hx rfl (hb hby d7_0) rfl rfl ?_
    show Steps p.tables e below (s₁.setTop (mkF m 1 #[.val (.ref r0), .val (.int (0 : Int32))] [(.ref r0)])) _
    refine st2 _ ?_
    show Steps p.tables e below (T2.setTop (mkF m 4 #[.val (.ref r0), .val (.int (0 : Int32))] [(.ref r1)])) _
    refine XS.iloadN X2.here hx rfl (hb hby d7_4) rfl ?_
    show Steps p.tables e below (T2.setTop (mkF m 5 #[.val (.ref r0), .val (.int (0 : Int32))] [(.int (0 : Int32)), (.ref r1)])) _
    refine XS.bipush X2.here hx rfl (hb hby d7_5) ?_
    show Steps p.tables e below (T2.setTop (mkF m 7 #[.val (.ref r0), .val (.int (0 : Int32))] [(.int (18 : Int32)), (.int (0 : Int32)), (.ref r1)])) _
    refine XS.iushr X2.here hx rfl (hb hby d7_7) rfl ?_
    show Steps p.tables e below (T2.setTop (mkF m 8 #[.val (.ref r0), .val (.int (0 : Int32))] [(.int (0 : Int32)), (.ref r1)])) _
    refine X2.aaload hx (j := (0 : Int32)) (v := (.ref r3)) (by rw [e2]; exact Arq4.1) (State.isArrayOf_alike hZ.alike Arq4.2.1) rfl Arq4.2.2 (inb_of Sq4 ⟨(by decide : ¬ ((0 : Int32) < (0 : Int32))), (by decide : (0 : Int32) < (1 : Int32))⟩) (Has.at Hq4 (inb_of Sq4 ⟨(by decide : ¬ ((0 : Int32) < (0 : Int32))), (by decide : (0 : Int32) < (1 : Int32))⟩) rfl) (g := (mkF m 8 #[.val (.ref r0), .val (.int (0 : Int32))] [(.int (0 : Int32)), (.ref r1)])) rfl rfl (hb hby d7_8) _ ?_
    show Steps p.tables e below (T2.setTop (mkF m 9 #[.val (.ref r0), .val (.int (0 : Int32))] [(.ref r3)])) _
    refine XS.iloadN X2.here hx rfl (hb hby d7_9) rfl ?_
    show Steps p.tables e below (T2.setTop (mkF m 10 #[.val (.ref r0), .val (.int (0 : Int32))] [(.int (0 : Int32)), (.ref r3)])) _
    refine X2.ldcInt hx hown (mvT hZ (ww hw 62 rfl)) (g := (mkF m 10 #[.val (.ref r0), .val (.int (0 : Int32))] [(.int (0 : Int32)), (.ref r3)])) rfl (hb hby d7_10) _ ?_
    show Steps p.tables e below (T2.setTop (mkF m 12 #[.val (.ref r0), .val (.int (0 : Int32))] [(.int (262143 : Int32)), (.int (0 : Int32)), (.ref r3)])) _
    refine XS.iand X2.here hx rfl (hb hby d7_12) rfl ?_
    show Steps p.tables e below (T2.setTop (mkF m 13 #[.val (.ref r0), .val (.int (0 : Int32))] [(.int (0 : Int32)), (.ref r3)])) _
    refine X2.laload hx (j := (0 : Int32)) (v := (.long y5)) (by rw [e2]; exact Arq6.1) (State.isArrayOf_alike hZ.alike Arq6.2.1) Arq6.2.2 (inb_of Sq6 ⟨(by decide : ¬ ((0 : Int32) < (0 : Int32))), (by decide : (0 : Int32) < (1024 : Int32))⟩) (Has.at Hq6 (inb_of Sq6 ⟨(by decide : ¬ ((0 : Int32) < (0 : Int32))), (by decide : (0 : Int32) < (1024 : Int32))⟩) rfl) (g := (mkF m 13 #[.val (.ref r0), .val (.int (0 : Int32))] [(.int (0 : Int32)), (.ref r3)])) rfl rfl (hb hby d7_13) _ ?_
    show Steps p.tables e below (T2.setTop (mkF m 14 #[.val (.ref r0), .val (.int (0 : Int32))] [(.long y5)])) _
    exact retOut X2 hx (i := .lreturn) Bd.returns rfl (Or.inr (Or.inl ⟨rfl, rfl, _, rfl⟩)) (hb hby d7_14) hr
  · show Q7_1 Z r0 r1 c2 r3 c4 y5 h0 n0 _ T2.heap _
    rw [e2]
    exact ⟨rfl, N0, rfl⟩
theorem pd__I_J : parseMethodDescriptor "(I)J" = some ⟨[.int], some .long⟩ := by decide +kernel
theorem pn_com_example_links_to_ranks_linkstoranks_LongListViewPinLaw : plainName cs3 = true := by first | (simp [plainName, overriddenIn]; done) | decide +kernel
def Q0_1 (Z : State) (x0 : Int32) (y1 : Int64) (y2 : Int64) (y3 : Int64) (y4 : Int64) (h0 : Heap) (n0 : Nat) (v : Option Value) (h : Heap) (L : List Loc) : Prop := v = some (.int (1 : Int32)) ∧ Fr n0 L
set_option maxRecDepth 65536 in
set_option maxHeartbeats 40000000 in
theorem rm0_1 (l : Launch) (Z : State) (a0 : Array Value) (hw : ∀ d ∈ tables_1, d.before a0 Z = true) (ws : List Jvm.Cond) (x0 : Int32) (y1 : Int64) (y2 : Int64) (y3 : Int64) (y4 : Int64) (h0 : Heap) (n0 : Nat) (O0 : Old Z n0 h0) (hc34 : (x0 &&& (3 : Int32)) = (0 : Int32)) :
    MetFree l x (head1 (Jvm.Cond.code x code maxLocals ret :: ws) room_1) (fun a U => a = #[(.int x0), (.long y1), (.long y2), (.long y3), (.long y4)] ∧ Z.Warmed39 U.vm ∧ U.heap = h0) (fun _ _ _ _ _ => True) (fun _ U o U' => ∃ v L, o = .returned v ∧ Q0_1 Z x0 y1 y2 y3 y4 h0 n0 v U'.heap L ∧ ReturnedEndW U o U' L room_1.cells room_1.slots) := by
  refine MetFree.of_bodySF (plainFor_of_name pn_com_example_links_to_ranks_linkstoranks_LongListViewPinLaw) hisR ?_
  intro p e s m args below meth c s₁ Bd hml0 hP hK
  obtain ⟨rfl, hZ, hh⟩ := hP
  have hx := Bd.exec
  have hby := Bd.bytes
  have hml : c.maxLocals = 14 := hml0
  have hown : s.vm.findClass cs3 = some m.cls := findClass_of_methodNamed Bd.named
  have hnm := (name_of_methodNamed Bd.named Bd.method).1
  have X0 : Stand p l e room_1 s m #[(.int x0), (.long y1), (.long y2), (.long y3), (.long y4)] below meth c s₁ [] 0 0 := Stand.of_body Bd
  have e0 : s₁.heap = h0 := by rw [← hh, Bd.state]; rfl
  have N0 := Fr.nil n0
  have pre0 : ∀ t, Steps p.tables e below (s₁.setTop (mkF m 0 #[.val (.int x0), .val (.long y1), .second, .val (.long y2), .second, .val (.long y3), .second, .val (.long y4), .second, .unset, .unset, .unset, .unset, .unset] [])) t → Steps p.tables e below (s₁.setTop (entryFrame m #[(.int x0), (.long y1), (.long y2), (.long y3), (.long y4)] maxLocals)) t := fun t k => castTop (by first | (simp [entryFrame, mkF, argsToLocals, Value.category, maxLocals]; done) | rfl) k
  obtain ⟨T1, h1, X1, e1, E1, A1, D1, -, st1⟩ := newO X0 hx hZ hown (ww hw 0 rfl) (ww hw 1 rfl) (ww hw 2 rfl) e0 (g := (mkF m 0 #[.val (.int x0), .val (.long y1), .second, .val (.long y2), .second, .val (.long y3), .second, .val (.long y4), .second, .unset, .unset, .unset, .unset, .unset] [])) rfl (hb hby at_0) (by decide) (by decide)
  obtain ⟨b1, g1⟩ : ∃ z, z = h0.size := ⟨_, rfl⟩
  rw [← g1] at A1 D1 st1
  have f2 : Fld Z h1 b1 cs0 "chunks" "[[J" .null := D1 (Or.inl (ww hw 22 rfl)) (ty := (.array (.array .long))) (by decide)
  have f3 : Fld Z h1 b1 cs0 "filling" "[J" .null := D1 (Or.inl (ww hw 24 rfl)) (ty := (.array .long)) (by decide)
  have f4 : Fld Z h1 b1 cs0 "items" "Ljava/lang/String;" .null := D1 (Or.inr (ww hw 26 rfl)) (ty := (.object "java/lang/String")) (by decide)
  have f5 : Fld Z h1 b1 cs0 "size" "I" (.int (0 : Int32)) := D1 (Or.inl (ww hw 36 rfl)) (ty := .int) (by decide)
  have f6 : Fld Z h1 b1 cs0 "filled" "I" (.int (0 : Int32)) := D1 (Or.inl (ww hw 51 rfl)) (ty := .int) (by decide)
  have hS7 := (State.WarmedH.refl s).since 0
  have hstr : ∀ a ∈ Bundle.stringAtoms, a.before a0 Z = true := fun a q => hw a (own_str a q)
  obtain ⟨a8, T8, h8, kk8, X8, e8, E8, hS8, hk8, hZ8, ho8, st8⟩ := ldcS (s := s) (vm0 := s.vm) X1 hx hZ hown (ww hw 3 rfl) hstr e1 hS7 (Nat.zero_le _) (g := (mkF m 4 #[.val (.int x0), .val (.long y1), .second, .val (.long y2), .second, .val (.long y3), .second, .val (.long y4), .second, .unset, .unset, .unset, .unset, .unset] [(.ref b1), (.ref b1)])) rfl (hb hby at_4) (n := 20) (by decide) (by decide) (by decide) (by decide)
  have f9 := (A1.ext E8)
  have f10 := (f2.ext E8)
  have zs11 := E8.1
  have zz12 : n0 ≤ h0.size := by rw [← O0.1]; exact O0.2.1
  have g13 := Nat.le_trans zz12 (Nat.le_of_eq g1.symm)
  have f14 := (f3.ext E8)
  have f15 := (f4.ext E8)
  have f16 := (f5.ext E8)
  have f17 := (f6.ext E8)
  have o18 := Old.ext O0 E1
  have o19 := Old.ext o18 E8
  obtain ⟨_, _, ⟨T20, L20, k20, n20⟩, -, X20, ⟨Lc20, hQ20, l20, y20, z20⟩, st20⟩ := X8.specialBack hx (y := (⟨cs0, "<init>", "(Ljava/lang/String;)V"⟩ : MethodName)) rfl ho8 (mvT hZ8 (ww hw 11 rfl)) (mvT hZ8 (ww hw 12 rfl)) (mvT hZ8 (ww hw 13 rfl)) (by decide) (backOf (W := 1) (rm1_1 l Z a0 hw [] b1 a8 h8 n0 o19 f9 f10 (Nat.lt_of_lt_of_le A1.lt zs11) g13 f14 f15 f16 f17) hZ8 (ww hw 13 rfl) (ww hw 2 rfl) (by decide) (by decide)) (g := (mkF m 6 #[.val (.int x0), .val (.long y1), .second, .val (.long y2), .second, .val (.long y3), .second, .val (.long y4), .second, .unset, .unset, .unset, .unset, .unset] [(.ref a8), (.ref b1), (.ref b1)])) rfl (by rw [hml]; rfl) (Steps.refl _) (a := b1) (argsL := [(.ref a8)]) (rest := [(.ref b1)]) (lenOf pd__Ljava_lang_String__V rfl) rfl (by show 2 * 0 + _ ≤ _; exact Nat.le_of_eq rfl) (hb hby at_6) (fun _ _ => ⟨rfl, e8, (by decide : 3 + 2 ≤ _), (by decide : 29 + 1025 ≤ _)⟩)
  dsimp only [Pt.U, Pt.locs, Pt.cells, Pt.slots] at X20 l20 y20 z20 st20 hQ20
  subst l20 y20 z20
  obtain ⟨b20_0, b20_1, k20_0, k20_1, rfl, N20q, K20, f21, f22, f23, f24, f25, f26, f27, f28, f29, f30, f31, f32, f33⟩ := hQ20
  have N20 := Fr.app N0 N20q
  have o35 := Old.keep o19 K20 (allS g13 all0)
  have f37 := (f9.keep K20)
  obtain ⟨cqq38, kqq38, qq38a, qq38b, qq38c⟩ := isOf hZ8 rfl f37
  obtain ⟨_, _, ⟨T36, L36, k36, n36⟩, -, X36, ⟨Lc36, hQ36, l36, y36, z36⟩, st36⟩ := X20.virtualBack hx (y := (⟨cs0, "view", cs2⟩ : MethodName)) (z := (⟨cs0, "view", cs2⟩ : MethodName)) ho8 (mvT hZ8 (ww hw 27 rfl)) (mvT hZ8 (ww hw 28 rfl)) (notFace_of_selects (args := #[]) (mvT hZ8 (ww hw 30 rfl))) (mvT hZ8 (ww hw 30 rfl)) (mvT hZ8 (ww hw 29 rfl)) (by decide) (backOf (W := 0) (rm3_1 l Z a0 hw [] b1 b20_0 T20.heap n0 o35 f21 f24) hZ8 (ww hw 31 rfl) (ww hw 2 rfl) (by decide) (by decide)) qq38a qq38c (g := (mkF m 54 #[.val (.int x0), .val (.long y1), .second, .val (.long y2), .second, .val (.long y3), .second, .val (.long y4), .second, .val (.ref b1), .val (.int (0 : Int32)), .unset, .unset, .unset] [(.ref b1)])) rfl (by rw [hml]; rfl) (Steps.refl _) (argsL := []) (rest := []) (lenOf pd___Lcom_example_links_to_ranks_linkstoranks_LongList_View_ rfl) rfl (by show 2 * 0 + _ ≤ _; exact Nat.le_of_eq rfl) (hb hby at_54) (fun _ _ => ⟨rfl, rfl, (by decide : 5 + 1 ≤ _), (by decide : 1054 + 2 ≤ _)⟩)
  dsimp only [Pt.U, Pt.locs, Pt.cells, Pt.slots] at X36 l36 y36 z36 st36 hQ36
  subst l36 y36 z36
  obtain ⟨b36_0, rfl, N36q, K36, f39, f40, f41, f42⟩ := hQ36
  have N36 := Fr.app N20 N36q
  have f43 := (f25.keep K36 nin0)
  have f44 := (f22.keep K36 nin0)
  have f45 := (f31.keep K36 nin0)
  have f46 := (f37.keep K36)
  have n47 := Nat.ne_of_lt (Nat.lt_of_lt_of_le (Nat.lt_of_lt_of_le A1.lt zs11) f30)
  have zz48 : n0 ≤ h8.size := by rw [← o19.1]; exact o19.2.1
  have g49 := Nat.le_trans zz48 f30
  have f50 := (f24.keep K36 nin0)
  have f51 := (f21.keep K36 nin0)
  have f52 := (f23.keep K36 nin0)
  have o53 := Old.keep o35 K36 all0
  obtain ⟨cqq55, kqq55, qq55a, qq55b, qq55c⟩ := isOf hZ8 rfl f46
  obtain ⟨_, _, ⟨T54, L54, k54, n54⟩, -, X54, ⟨Lc54, hQ54, l54, y54, z54⟩, st54⟩ := X36.virtualBack hx (y := (⟨cs0, "add", "(J)V"⟩ : MethodName)) (z := (⟨cs0, "add", "(J)V"⟩ : MethodName)) ho8 (mvT hZ8 (ww hw 45 rfl)) (mvT hZ8 (ww hw 46 rfl)) (notFace_of_selects (args := #[]) (mvT hZ8 (ww hw 48 rfl))) (mvT hZ8 (ww hw 48 rfl)) (mvT hZ8 (ww hw 47 rfl)) (by decide) (backOf (W := 0) (rm5_1 l Z a0 hw [] b1 y4 b20_1 k20_1 b20_0 a8 T36.heap n0 o53 f43 f44 f45 f46 g13 (Ne.symm n47) g49 f50 f51 f52) hZ8 (ww hw 49 rfl) (ww hw 2 rfl) (by decide) (by decide)) qq55a qq55c (g := (mkF m 63 #[.val (.int x0), .val (.long y1), .second, .val (.long y2), .second, .val (.long y3), .second, .val (.long y4), .second, .val (.ref b1), .val (.int (0 : Int32)), .val (.ref b36_0), .unset, .unset] [(.long y4), (.ref b1)])) rfl (by rw [hml]; rfl) (Steps.refl _) (argsL := [(.long y4)]) (rest := []) (lenOf pd__J_V rfl) rfl (by show 2 * 0 + _ ≤ _; exact Nat.le_of_eq rfl) (hb hby at_63) (fun _ _ => ⟨rfl, rfl, (by decide : 6 + 0 ≤ _), (by decide : 1056 + 0 ≤ _)⟩)
  dsimp only [Pt.U, Pt.locs, Pt.cells, Pt.slots] at X54 l54 y54 z54 st54 hQ54
  subst l54 y54 z54
  obtain ⟨rfl, N54q, K54, f56, f57, f58, f59, f60, f61⟩ := hQ54
  have N54 := Fr.app N36 N54q
  have o62 := Old.keep o53 K54 (allS g13 (allS g49 all0))
  have f64 := (f46.keep K54)
  obtain ⟨cqq65, kqq65, qq65a, qq65b, qq65c⟩ := isOf hZ8 rfl f64
  obtain ⟨_, _, ⟨T63, L63, k63, n63⟩, -, X63, ⟨Lc63, hQ63, l63, y63, z63⟩, st63⟩ := X54.virtualBack hx (y := (⟨cs0, "view", cs2⟩ : MethodName)) (z := (⟨cs0, "view", cs2⟩ : MethodName)) ho8 (mvT hZ8 (ww hw 27 rfl)) (mvT hZ8 (ww hw 28 rfl)) (notFace_of_selects (args := #[]) (mvT hZ8 (ww hw 30 rfl))) (mvT hZ8 (ww hw 30 rfl)) (mvT hZ8 (ww hw 29 rfl)) (by decide) (backOf (W := 0) (rm3_2 l Z a0 hw [] b1 b20_0 T54.heap n0 o62 f59 f58) hZ8 (ww hw 31 rfl) (ww hw 2 rfl) (by decide) (by decide)) qq65a qq65c (g := (mkF m 68 #[.val (.int x0), .val (.long y1), .second, .val (.long y2), .second, .val (.long y3), .second, .val (.long y4), .second, .val (.ref b1), .val (.int (0 : Int32)), .val (.ref b36_0), .unset, .unset] [(.ref b1)])) rfl (by rw [hml]; rfl) (Steps.refl _) (argsL := []) (rest := []) (lenOf pd___Lcom_example_links_to_ranks_linkstoranks_LongList_View_ rfl) rfl (by show 2 * 0 + _ ≤ _; exact Nat.le_of_eq rfl) (hb hby at_68) (fun _ _ => ⟨rfl, rfl, (by decide : 6 + 1 ≤ _), (by decide : 1056 + 2 ≤ _)⟩)
  dsimp only [Pt.U, Pt.locs, Pt.cells, Pt.slots] at X63 l63 y63 z63 st63 hQ63
  subst l63 y63 z63
  obtain ⟨b63_0, rfl, N63q, K63, f66, f67, f68, f69⟩ := hQ63
  have N63 := Fr.app N54 N63q
  have n70 := Nat.ne_of_lt (Nat.lt_of_lt_of_le f31.lt f39)
  have zs71 := Nat.le_trans zs11 K20.1
  have n72 := Nat.ne_of_lt (Nat.lt_of_lt_of_le (Nat.lt_of_lt_of_le A1.lt zs71) f39)
  have f73 := ((f42.keep K54 (ninS (Ne.symm n72) (ninS (Ne.symm n70) nin0))).keep K63 nin0)
  have o74 := Old.keep o62 K63 all0
  have f76 := ((f40.keep K54).keep K63)
  obtain ⟨cqq77, kqq77, qq77a, qq77b, qq77c⟩ := isOf hZ8 rfl f76
  obtain ⟨_, _, ⟨T75, L75, k75, n75⟩, -, X75, ⟨Lc75, hQ75, l75, y75, z75⟩, st75⟩ := X63.virtualBack hx (y := (⟨cs1, "size", "()I"⟩ : MethodName)) (z := (⟨cs1, "size", "()I"⟩ : MethodName)) ho8 (mvT hZ8 (ww hw 52 rfl)) (mvT hZ8 (ww hw 53 rfl)) (notFace_of_selects (args := #[]) (mvT hZ8 (ww hw 55 rfl))) (mvT hZ8 (ww hw 55 rfl)) (mvT hZ8 (ww hw 54 rfl)) (by decide) (backOf (W := 0) (rm6_1 l Z a0 hw [] b36_0 T63.heap n0 o74 f73) hZ8 (ww hw 56 rfl) (ww hw 34 rfl) (by decide) (by decide)) qq77a qq77c (g := (mkF m 75 #[.val (.int x0), .val (.long y1), .second, .val (.long y2), .second, .val (.long y3), .second, .val (.long y4), .second, .val (.ref b1), .val (.int (0 : Int32)), .val (.ref b36_0), .val (.ref b63_0), .unset] [(.ref b36_0)])) rfl (by rw [hml]; rfl) (Steps.refl _) (argsL := []) (rest := []) (lenOf pd___I rfl) rfl (by show 2 * 0 + _ ≤ _; exact Nat.le_of_eq rfl) (hb hby at_75) (fun _ _ => ⟨rfl, rfl, (by decide : 7 + 0 ≤ _), (by decide : 1058 + 0 ≤ _)⟩)
  dsimp only [Pt.U, Pt.locs, Pt.cells, Pt.slots] at X75 l75 y75 z75 st75 hQ75
  subst l75 y75 z75
  obtain ⟨rfl, N75q, E75⟩ := hQ75
  have N75 := Fr.app N63 N75q
  obtain ⟨cqq79, kqq79, qq79a, qq79b, qq79c⟩ := isOf hZ8 E75 f67
  obtain ⟨_, _, ⟨T78, L78, k78, n78⟩, -, X78, ⟨Lc78, hQ78, l78, y78, z78⟩, st78⟩ := X75.virtualBack hx (y := (⟨cs1, "size", "()I"⟩ : MethodName)) (z := (⟨cs1, "size", "()I"⟩ : MethodName)) ho8 (mvT hZ8 (ww hw 52 rfl)) (mvT hZ8 (ww hw 53 rfl)) (notFace_of_selects (args := #[]) (mvT hZ8 (ww hw 55 rfl))) (mvT hZ8 (ww hw 55 rfl)) (mvT hZ8 (ww hw 54 rfl)) (by decide) (backOf (W := 0) (rm6_2 l Z a0 hw [] b63_0 T63.heap n0 o74 f69) hZ8 (ww hw 56 rfl) (ww hw 34 rfl) (by decide) (by decide)) qq79a qq79c (g := (mkF m 85 #[.val (.int x0), .val (.long y1), .second, .val (.long y2), .second, .val (.long y3), .second, .val (.long y4), .second, .val (.ref b1), .val (.int (0 : Int32)), .val (.ref b36_0), .val (.ref b63_0), .unset] [(.ref b63_0)])) rfl (by rw [hml]; rfl) (Steps.refl _) (argsL := []) (rest := []) (lenOf pd___I rfl) rfl (by show 2 * 0 + _ ≤ _; exact Nat.le_of_eq rfl) (hb hby at_85) (fun _ _ => ⟨rfl, E75, (by decide : 7 + 0 ≤ _), (by decide : 1058 + 0 ≤ _)⟩)
  dsimp only [Pt.U, Pt.locs, Pt.cells, Pt.slots] at X78 l78 y78 z78 st78 hQ78
  subst l78 y78 z78
  obtain ⟨rfl, N78q, E78⟩ := hQ78
  have N78 := Fr.app N75 N78q
  have n80 := Nat.ne_of_lt (Nat.lt_of_lt_of_le (Nat.lt_of_lt_of_le A1.lt zs11) f26)
  have f81 := (((f27.keep K36 nin0).keep K54 (ninS (Ne.symm n80) (ninS f33 nin0))).keep K63 nin0)
  have f82 := (f61.keep K63 nin0)
  obtain ⟨cqq84, kqq84, qq84a, qq84b, qq84c⟩ := isOf hZ8 E78 f67
  obtain ⟨_, _, ⟨T83, L83, k83, n83⟩, -, X83, ⟨Lc83, hQ83, l83, y83, z83⟩, st83⟩ := X78.virtualBack hx (y := (⟨cs1, "get", "(I)J"⟩ : MethodName)) (z := (⟨cs1, "get", "(I)J"⟩ : MethodName)) ho8 (mvT hZ8 (ww hw 57 rfl)) (mvT hZ8 (ww hw 58 rfl)) (notFace_of_selects (args := #[]) (mvT hZ8 (ww hw 60 rfl))) (mvT hZ8 (ww hw 60 rfl)) (mvT hZ8 (ww hw 59 rfl)) (by decide) (backOf (W := 0) (rm7_1 l Z a0 hw [] b63_0 b20_0 k20_0 b20_1 k20_1 y4 T63.heap n0 o74 f68 f81 f82) hZ8 (ww hw 61 rfl) (ww hw 34 rfl) (by decide) (by decide)) qq84a qq84c (g := (mkF m 99 #[.val (.int x0), .val (.long y1), .second, .val (.long y2), .second, .val (.long y3), .second, .val (.long y4), .second, .val (.ref b1), .val (.int (0 : Int32)), .val (.ref b36_0), .val (.ref b63_0), .unset] [(.int (0 : Int32)), (.ref b63_0)])) rfl (by rw [hml]; rfl) (Steps.refl _) (argsL := [(.int (0 : Int32))]) (rest := []) (lenOf pd__I_J rfl) rfl (by show 2 * 0 + _ ≤ _; exact Nat.le_of_eq rfl) (hb hby at_99) (fun _ _ => ⟨rfl, E78, (by decide : 7 + 0 ≤ _), (by decide : 1058 + 0 ≤ _)⟩)
  dsimp only [Pt.U, Pt.locs, Pt.cells, Pt.slots] at X83 l83 y83 z83 st83 hQ83
  subst l83 y83 z83
  obtain ⟨rfl, N83q, E83⟩ := hQ83
  have N83 := Fr.app N78 N83q
  have zs85 := K20.1
  have zs86 := Nat.le_trans zs85 K36.1
  have zs87 := Nat.le_trans zs86 K54.1
  have zs88 := Nat.le_trans zs87 K63.1
  obtain ⟨fs, hr, hrun, hended, hend⟩ := leaveW (s := s) (vm₁ := T8.vm) X83 hS8 (by rw [E83]; exact (Nat.le_trans hk8 zs88)) (v := some (.int (1 : Int32))) (fun h => by rw [Bd.returns] at h; cases h)
  refine ⟨_, _, pre0 _ ?_, hrun, hended, _, _, rfl, ?_, hend.1, hend.2.1, hend.2.2.1, hend.2.2.2.mono (by decide) (by decide)⟩
  · show Steps p.tables e below (s₁.setTop (mkF m 0 #[.val (.int x0), .val (.long y1), .second, .val (.long y2), .second, .val (.long y3), .second, .val (.long y4), .second, .unset, .unset, .unset, .unset, .unset] [])) _
    refine st1 _ ?_
    show Steps p.tables e below (T1.setTop (mkF m 3 #[.val (.int x0), .val (.long y1), .second, .val (.long y2), .second, .val (.long y3), .second, .val (.long y4), .second, .unset, .unset, .unset, .unset, .unset] [(.ref b1)])) _
    refine XS.dup X1.here hx rfl (hb hby at_3) rfl rfl ?_
    show Steps p.tables e below (T1.setTop (mkF m 4 #[.val (.int x0), .val (.long y1), .second, .val (.long y2), .second, .val (.long y3), .second, .val (.long y4), .second, .unset, .unset, .unset, .unset, .unset] [(.ref b1), (.ref b1)])) _
    refine st8 _ ?_
    show Steps p.tables e below (T8.setTop (mkF m 6 #[.val (.int x0), .val (.long y1), .second, .val (.long y2), .second, .val (.long y3), .second, .val (.long y4), .second, .unset, .unset, .unset, .unset, .unset] [(.ref a8), (.ref b1), (.ref b1)])) _
    refine st20.trans ?_
    show Steps p.tables e below (T20.setTop (mkF m 9 #[.val (.int x0), .val (.long y1), .second, .val (.long y2), .second, .val (.long y3), .second, .val (.long y4), .second, .unset, .unset, .unset, .unset, .unset] [(.ref b1)])) _
    refine XS.astore X20.here hx rfl (hb hby at_9) rfl rfl (l' := #[.val (.int x0), .val (.long y1), .second, .val (.long y2), .second, .val (.long y3), .second, .val (.long y4), .second, .val (.ref b1), .unset, .unset, .unset, .unset]) rfl ?_
    show Steps p.tables e below (T20.setTop (mkF m 11 #[.val (.int x0), .val (.long y1), .second, .val (.long y2), .second, .val (.long y3), .second, .val (.long y4), .second, .val (.ref b1), .unset, .unset, .unset, .unset] [])) _
    refine XS.iloadN X20.here hx rfl (hb hby at_11) rfl ?_
    show Steps p.tables e below (T20.setTop (mkF m 12 #[.val (.int x0), .val (.long y1), .second, .val (.long y2), .second, .val (.long y3), .second, .val (.long y4), .second, .val (.ref b1), .unset, .unset, .unset, .unset] [(.int x0)])) _
    refine XS.iconst X20.here hx rfl (hb hby at_12) ?_
    show Steps p.tables e below (T20.setTop (mkF m 13 #[.val (.int x0), .val (.long y1), .second, .val (.long y2), .second, .val (.long y3), .second, .val (.long y4), .second, .val (.ref b1), .unset, .unset, .unset, .unset] [(.int (3 : Int32)), (.int x0)])) _
    refine XS.iand X20.here hx rfl (hb hby at_13) rfl ?_
    rw [hc34]
    show Steps p.tables e below (T20.setTop (mkF m 14 #[.val (.int x0), .val (.long y1), .second, .val (.long y2), .second, .val (.long y3), .second, .val (.long y4), .second, .val (.ref b1), .unset, .unset, .unset, .unset] [(.int (0 : Int32))])) _
    refine XS.istore X20.here hx rfl (hb hby at_14) rfl (l' := #[.val (.int x0), .val (.long y1), .second, .val (.long y2), .second, .val (.long y3), .second, .val (.long y4), .second, .val (.ref b1), .val (.int (0 : Int32)), .unset, .unset, .unset]) rfl ?_
    show Steps p.tables e below (T20.setTop (mkF m 16 #[.val (.int x0), .val (.long y1), .second, .val (.long y2), .second, .val (.long y3), .second, .val (.long y4), .second, .val (.ref b1), .val (.int (0 : Int32)), .unset, .unset, .unset] [])) _
    refine XS.iload X20.here hx rfl (hb hby at_16) rfl ?_
    show Steps p.tables e below (T20.setTop (mkF m 18 #[.val (.int x0), .val (.long y1), .second, .val (.long y2), .second, .val (.long y3), .second, .val (.long y4), .second, .val (.ref b1), .val (.int (0 : Int32)), .unset, .unset, .unset] [(.int (0 : Int32))])) _
    refine XS.ifYes X20.here hx rfl (pc0 := 18) (pc' := 27) rfl (hb hby at_18) rfl ((if0 _ _).trans (flt (by decide : ¬ ((0 : Int32) < (0 : Int32)))).2.2.2) (by decide) (by decide) ?_
    show Steps p.tables e below (T20.setTop (mkF m 27 #[.val (.int x0), .val (.long y1), .second, .val (.long y2), .second, .val (.long y3), .second, .val (.long y4), .second, .val (.ref b1), .val (.int (0 : Int32)), .unset, .unset, .unset] [])) _
    refine XS.iload X20.here hx rfl (hb hby at_27) rfl ?_
    show Steps p.tables e below (T20.setTop (mkF m 29 #[.val (.int x0), .val (.long y1), .second, .val (.long y2), .second, .val (.long y3), .second, .val (.long y4), .second, .val (.ref b1), .val (.int (0 : Int32)), .unset, .unset, .unset] [(.int (0 : Int32))])) _
    refine XS.iconst X20.here hx rfl (hb hby at_29) ?_
    show Steps p.tables e below (T20.setTop (mkF m 30 #[.val (.int x0), .val (.long y1), .second, .val (.long y2), .second, .val (.long y3), .second, .val (.long y4), .second, .val (.ref b1), .val (.int (0 : Int32)), .unset, .unset, .unset] [(.int (1 : Int32)), (.int (0 : Int32))])) _
    refine XS.icmpYes X20.here hx rfl (pc0 := 30) (pc' := 39) rfl (hb hby at_30) rfl (flt (by decide : ¬ ((1 : Int32) < (0 : Int32)))).2.2.2 (by decide) (by decide) ?_
    show Steps p.tables e below (T20.setTop (mkF m 39 #[.val (.int x0), .val (.long y1), .second, .val (.long y2), .second, .val (.long y3), .second, .val (.long y4), .second, .val (.ref b1), .val (.int (0 : Int32)), .unset, .unset, .unset] [])) _
    refine XS.iload X20.here hx rfl (hb hby at_39) rfl ?_
    show Steps p.tables e below (T20.setTop (mkF m 41 #[.val (.int x0), .val (.long y1), .second, .val (.long y2), .second, .val (.long y3), .second, .val (.long y4), .second, .val (.ref b1), .val (.int (0 : Int32)), .unset, .unset, .unset] [(.int (0 : Int32))])) _
    refine XS.iconst X20.here hx rfl (hb hby at_41) ?_
    show Steps p.tables e below (T20.setTop (mkF m 42 #[.val (.int x0), .val (.long y1), .second, .val (.long y2), .second, .val (.long y3), .second, .val (.long y4), .second, .val (.ref b1), .val (.int (0 : Int32)), .unset, .unset, .unset] [(.int (2 : Int32)), (.int (0 : Int32))])) _
    refine XS.icmpYes X20.here hx rfl (pc0 := 42) (pc' := 52) rfl (hb hby at_42) rfl (flt (by decide : ¬ ((2 : Int32) < (0 : Int32)))).2.2.2 (by decide) (by decide) ?_
    show Steps p.tables e below (T20.setTop (mkF m 52 #[.val (.int x0), .val (.long y1), .second, .val (.long y2), .second, .val (.long y3), .second, .val (.long y4), .second, .val (.ref b1), .val (.int (0 : Int32)), .unset, .unset, .unset] [])) _
    refine XS.aload X20.here hx rfl (hb hby at_52) rfl rfl ?_
    show Steps p.tables e below (T20.setTop (mkF m 54 #[.val (.int x0), .val (.long y1), .second, .val (.long y2), .second, .val (.long y3), .second, .val (.long y4), .second, .val (.ref b1), .val (.int (0 : Int32)), .unset, .unset, .unset] [(.ref b1)])) _
    refine st36.trans ?_
    show Steps p.tables e below (T36.setTop (mkF m 57 #[.val (.int x0), .val (.long y1), .second, .val (.long y2), .second, .val (.long y3), .second, .val (.long y4), .second, .val (.ref b1), .val (.int (0 : Int32)), .unset, .unset, .unset] [(.ref b36_0)])) _
    refine XS.astore X36.here hx rfl (hb hby at_57) rfl rfl (l' := #[.val (.int x0), .val (.long y1), .second, .val (.long y2), .second, .val (.long y3), .second, .val (.long y4), .second, .val (.ref b1), .val (.int (0 : Int32)), .val (.ref b36_0), .unset, .unset]) rfl ?_
    show Steps p.tables e below (T36.setTop (mkF m 59 #[.val (.int x0), .val (.long y1), .second, .val (.long y2), .second, .val (.long y3), .second, .val (.long y4), .second, .val (.ref b1), .val (.int (0 : Int32)), .val (.ref b36_0), .unset, .unset] [])) _
    refine XS.aload X36.here hx rfl (hb hby at_59) rfl rfl ?_
    show Steps p.tables e below (T36.setTop (mkF m 61 #[.val (.int x0), .val (.long y1), .second, .val (.long y2), .second, .val (.long y3), .second, .val (.long y4), .second, .val (.ref b1), .val (.int (0 : Int32)), .val (.ref b36_0), .unset, .unset] [(.ref b1)])) _
    refine XS.lload X36.here hx rfl (hb hby at_61) rfl ?_
    show Steps p.tables e below (T36.setTop (mkF m 63 #[.val (.int x0), .val (.long y1), .second, .val (.long y2), .second, .val (.long y3), .second, .val (.long y4), .second, .val (.ref b1), .val (.int (0 : Int32)), .val (.ref b36_0), .unset, .unset] [(.long y4), (.ref b1)])) _
    refine st54.trans ?_
    show Steps p.tables e below (T54.setTop (mkF m 66 #[.val (.int x0), .val (.long y1), .second, .val (.long y2), .second, .val (.long y3), .second, .val (.long y4), .second, .val (.ref b1), .val (.int (0 : Int32)), .val (.ref b36_0), .unset, .unset] [])) _
    refine XS.aload X54.here hx rfl (hb hby at_66) rfl rfl ?_
    show Steps p.tables e below (T54.setTop (mkF m 68 #[.val (.int x0), .val (.long y1), .second, .val (.long y2), .second, .val (.long y3), .second, .val (.long y4), .second, .val (.ref b1), .val (.int (0 : Int32)), .val (.ref b36_0), .unset, .unset] [(.ref b1)])) _
    refine st63.trans ?_
    show Steps p.tables e below (T63.setTop (mkF m 71 #[.val (.int x0), .val (.long y1), .second, .val (.long y2), .second, .val (.long y3), .second, .val (.long y4), .second, .val (.ref b1), .val (.int (0 : Int32)), .val (.ref b36_0), .unset, .unset] [(.ref b63_0)])) _
    refine XS.astore X63.here hx rfl (hb hby at_71) rfl rfl (l' := #[.val (.int x0), .val (.long y1), .second, .val (.long y2), .second, .val (.long y3), .second, .val (.long y4), .second, .val (.ref b1), .val (.int (0 : Int32)), .val (.ref b36_0), .val (.ref b63_0), .unset]) rfl ?_
    show Steps p.tables e below (T63.setTop (mkF m 73 #[.val (.int x0), .val (.long y1), .second, .val (.long y2), .second, .val (.long y3), .second, .val (.long y4), .second, .val (.ref b1), .val (.int (0 : Int32)), .val (.ref b36_0), .val (.ref b63_0), .unset] [])) _
    refine XS.aload X63.here hx rfl (hb hby at_73) rfl rfl ?_
    show Steps p.tables e below (T63.setTop (mkF m 75 #[.val (.int x0), .val (.long y1), .second, .val (.long y2), .second, .val (.long y3), .second, .val (.long y4), .second, .val (.ref b1), .val (.int (0 : Int32)), .val (.ref b36_0), .val (.ref b63_0), .unset] [(.ref b36_0)])) _
    refine st75.trans ?_
    show Steps p.tables e below (T75.setTop (mkF m 78 #[.val (.int x0), .val (.long y1), .second, .val (.long y2), .second, .val (.long y3), .second, .val (.long y4), .second, .val (.ref b1), .val (.int (0 : Int32)), .val (.ref b36_0), .val (.ref b63_0), .unset] [(.int (0 : Int32))])) _
    refine XS.iload X75.here hx rfl (hb hby at_78) rfl ?_
    show Steps p.tables e below (T75.setTop (mkF m 80 #[.val (.int x0), .val (.long y1), .second, .val (.long y2), .second, .val (.long y3), .second, .val (.long y4), .second, .val (.ref b1), .val (.int (0 : Int32)), .val (.ref b36_0), .val (.ref b63_0), .unset] [(.int (0 : Int32)), (.int (0 : Int32))])) _
    refine XS.icmpNo X75.here hx rfl (hb hby at_80) rfl (teq (rfl : (0 : Int32) = (0 : Int32))).2 ?_
    show Steps p.tables e below (T75.setTop (mkF m 83 #[.val (.int x0), .val (.long y1), .second, .val (.long y2), .second, .val (.long y3), .second, .val (.long y4), .second, .val (.ref b1), .val (.int (0 : Int32)), .val (.ref b36_0), .val (.ref b63_0), .unset] [])) _
    refine XS.aload X75.here hx rfl (hb hby at_83) rfl rfl ?_
    show Steps p.tables e below (T75.setTop (mkF m 85 #[.val (.int x0), .val (.long y1), .second, .val (.long y2), .second, .val (.long y3), .second, .val (.long y4), .second, .val (.ref b1), .val (.int (0 : Int32)), .val (.ref b36_0), .val (.ref b63_0), .unset] [(.ref b63_0)])) _
    refine st78.trans ?_
    show Steps p.tables e below (T78.setTop (mkF m 88 #[.val (.int x0), .val (.long y1), .second, .val (.long y2), .second, .val (.long y3), .second, .val (.long y4), .second, .val (.ref b1), .val (.int (0 : Int32)), .val (.ref b36_0), .val (.ref b63_0), .unset] [(.int (1 : Int32))])) _
    refine XS.iload X78.here hx rfl (hb hby at_88) rfl ?_
    show Steps p.tables e below (T78.setTop (mkF m 90 #[.val (.int x0), .val (.long y1), .second, .val (.long y2), .second, .val (.long y3), .second, .val (.long y4), .second, .val (.ref b1), .val (.int (0 : Int32)), .val (.ref b36_0), .val (.ref b63_0), .unset] [(.int (0 : Int32)), (.int (1 : Int32))])) _
    refine XS.iconst X78.here hx rfl (hb hby at_90) ?_
    show Steps p.tables e below (T78.setTop (mkF m 91 #[.val (.int x0), .val (.long y1), .second, .val (.long y2), .second, .val (.long y3), .second, .val (.long y4), .second, .val (.ref b1), .val (.int (0 : Int32)), .val (.ref b36_0), .val (.ref b63_0), .unset] [(.int (1 : Int32)), (.int (0 : Int32)), (.int (1 : Int32))])) _
    refine XS.iadd X78.here hx rfl (hb hby at_91) rfl ?_
    show Steps p.tables e below (T78.setTop (mkF m 92 #[.val (.int x0), .val (.long y1), .second, .val (.long y2), .second, .val (.long y3), .second, .val (.long y4), .second, .val (.ref b1), .val (.int (0 : Int32)), .val (.ref b36_0), .val (.ref b63_0), .unset] [(.int (1 : Int32)), (.int (1 : Int32))])) _
    refine XS.icmpNo X78.here hx rfl (hb hby at_92) rfl (teq (rfl : (1 : Int32) = (1 : Int32))).2 ?_
    show Steps p.tables e below (T78.setTop (mkF m 95 #[.val (.int x0), .val (.long y1), .second, .val (.long y2), .second, .val (.long y3), .second, .val (.long y4), .second, .val (.ref b1), .val (.int (0 : Int32)), .val (.ref b36_0), .val (.ref b63_0), .unset] [])) _
    refine XS.aload X78.here hx rfl (hb hby at_95) rfl rfl ?_
    show Steps p.tables e below (T78.setTop (mkF m 97 #[.val (.int x0), .val (.long y1), .second, .val (.long y2), .second, .val (.long y3), .second, .val (.long y4), .second, .val (.ref b1), .val (.int (0 : Int32)), .val (.ref b36_0), .val (.ref b63_0), .unset] [(.ref b63_0)])) _
    refine XS.iload X78.here hx rfl (hb hby at_97) rfl ?_
    show Steps p.tables e below (T78.setTop (mkF m 99 #[.val (.int x0), .val (.long y1), .second, .val (.long y2), .second, .val (.long y3), .second, .val (.long y4), .second, .val (.ref b1), .val (.int (0 : Int32)), .val (.ref b36_0), .val (.ref b63_0), .unset] [(.int (0 : Int32)), (.ref b63_0)])) _
    refine st83.trans ?_
    show Steps p.tables e below (T83.setTop (mkF m 102 #[.val (.int x0), .val (.long y1), .second, .val (.long y2), .second, .val (.long y3), .second, .val (.long y4), .second, .val (.ref b1), .val (.int (0 : Int32)), .val (.ref b36_0), .val (.ref b63_0), .unset] [(.long y4)])) _
    refine XS.lload X83.here hx rfl (hb hby at_102) rfl ?_
    show Steps p.tables e below (T83.setTop (mkF m 104 #[.val (.int x0), .val (.long y1), .second, .val (.long y2), .second, .val (.long y3), .second, .val (.long y4), .second, .val (.ref b1), .val (.int (0 : Int32)), .val (.ref b36_0), .val (.ref b63_0), .unset] [(.long y4), (.long y4)])) _
    refine XS.lcmp X83.here hx rfl (hb hby at_104) rfl ?_
    show Steps p.tables e below (T83.setTop (mkF m 105 #[.val (.int x0), .val (.long y1), .second, .val (.long y2), .second, .val (.long y3), .second, .val (.long y4), .second, .val (.ref b1), .val (.int (0 : Int32)), .val (.ref b36_0), .val (.ref b63_0), .unset] [(.int (lcmpW y4 y4))])) _
    refine XS.ifNo X83.here hx rfl (hb hby at_105) rfl ((if0 _ _).trans (teq ((by rw [lcW]; exact (lc_eq _ _).mpr (rfl : y4 = y4)) : (lcmpW y4 y4) = (0 : Int32))).2) ?_
    show Steps p.tables e below (T83.setTop (mkF m 108 #[.val (.int x0), .val (.long y1), .second, .val (.long y2), .second, .val (.long y3), .second, .val (.long y4), .second, .val (.ref b1), .val (.int (0 : Int32)), .val (.ref b36_0), .val (.ref b63_0), .unset] [])) _
    refine XS.iconst X83.here hx rfl (hb hby at_108) ?_
    show Steps p.tables e below (T83.setTop (mkF m 109 #[.val (.int x0), .val (.long y1), .second, .val (.long y2), .second, .val (.long y3), .second, .val (.long y4), .second, .val (.ref b1), .val (.int (0 : Int32)), .val (.ref b36_0), .val (.ref b63_0), .unset] [(.int (1 : Int32))])) _
    refine XS.goto X83.here hx rfl (pc0 := 109) (pc' := 113) rfl (hb hby at_109) (by decide) (by decide) ?_
    show Steps p.tables e below (T83.setTop (mkF m 113 #[.val (.int x0), .val (.long y1), .second, .val (.long y2), .second, .val (.long y3), .second, .val (.long y4), .second, .val (.ref b1), .val (.int (0 : Int32)), .val (.ref b36_0), .val (.ref b63_0), .unset] [(.int (1 : Int32))])) _
    refine XS.istore X83.here hx rfl (hb hby at_113) rfl (l' := #[.val (.int x0), .val (.long y1), .second, .val (.long y2), .second, .val (.long y3), .second, .val (.long y4), .second, .val (.ref b1), .val (.int (0 : Int32)), .val (.ref b36_0), .val (.ref b63_0), .val (.int (1 : Int32))]) rfl ?_
    show Steps p.tables e below (T83.setTop (mkF m 115 #[.val (.int x0), .val (.long y1), .second, .val (.long y2), .second, .val (.long y3), .second, .val (.long y4), .second, .val (.ref b1), .val (.int (0 : Int32)), .val (.ref b36_0), .val (.ref b63_0), .val (.int (1 : Int32))] [])) _
    refine XS.iload X83.here hx rfl (hb hby at_115) rfl ?_
    show Steps p.tables e below (T83.setTop (mkF m 117 #[.val (.int x0), .val (.long y1), .second, .val (.long y2), .second, .val (.long y3), .second, .val (.long y4), .second, .val (.ref b1), .val (.int (0 : Int32)), .val (.ref b36_0), .val (.ref b63_0), .val (.int (1 : Int32))] [(.int (0 : Int32))])) _
    refine XS.ifYes X83.here hx rfl (pc0 := 117) (pc' := 154) rfl (hb hby at_117) rfl ((if0 _ _).trans (flt (by decide : ¬ ((0 : Int32) < (0 : Int32)))).2.2.2) (by decide) (by decide) ?_
    show Steps p.tables e below (T83.setTop (mkF m 154 #[.val (.int x0), .val (.long y1), .second, .val (.long y2), .second, .val (.long y3), .second, .val (.long y4), .second, .val (.ref b1), .val (.int (0 : Int32)), .val (.ref b36_0), .val (.ref b63_0), .val (.int (1 : Int32))] [])) _
    refine XS.iload X83.here hx rfl (hb hby at_154) rfl ?_
    show Steps p.tables e below (T83.setTop (mkF m 156 #[.val (.int x0), .val (.long y1), .second, .val (.long y2), .second, .val (.long y3), .second, .val (.long y4), .second, .val (.ref b1), .val (.int (0 : Int32)), .val (.ref b36_0), .val (.ref b63_0), .val (.int (1 : Int32))] [(.int (0 : Int32))])) _
    refine XS.iconst X83.here hx rfl (hb hby at_156) ?_
    show Steps p.tables e below (T83.setTop (mkF m 157 #[.val (.int x0), .val (.long y1), .second, .val (.long y2), .second, .val (.long y3), .second, .val (.long y4), .second, .val (.ref b1), .val (.int (0 : Int32)), .val (.ref b36_0), .val (.ref b63_0), .val (.int (1 : Int32))] [(.int (1 : Int32)), (.int (0 : Int32))])) _
    refine XS.icmpYes X83.here hx rfl (pc0 := 157) (pc' := 183) rfl (hb hby at_157) rfl (flt (by decide : ¬ ((1 : Int32) < (0 : Int32)))).2.2.2 (by decide) (by decide) ?_
    show Steps p.tables e below (T83.setTop (mkF m 183 #[.val (.int x0), .val (.long y1), .second, .val (.long y2), .second, .val (.long y3), .second, .val (.long y4), .second, .val (.ref b1), .val (.int (0 : Int32)), .val (.ref b36_0), .val (.ref b63_0), .val (.int (1 : Int32))] [])) _
    refine XS.iload X83.here hx rfl (hb hby at_183) rfl ?_
    show Steps p.tables e below (T83.setTop (mkF m 185 #[.val (.int x0), .val (.long y1), .second, .val (.long y2), .second, .val (.long y3), .second, .val (.long y4), .second, .val (.ref b1), .val (.int (0 : Int32)), .val (.ref b36_0), .val (.ref b63_0), .val (.int (1 : Int32))] [(.int (0 : Int32))])) _
    refine XS.iconst X83.here hx rfl (hb hby at_185) ?_
    show Steps p.tables e below (T83.setTop (mkF m 186 #[.val (.int x0), .val (.long y1), .second, .val (.long y2), .second, .val (.long y3), .second, .val (.long y4), .second, .val (.ref b1), .val (.int (0 : Int32)), .val (.ref b36_0), .val (.ref b63_0), .val (.int (1 : Int32))] [(.int (2 : Int32)), (.int (0 : Int32))])) _
    refine XS.icmpYes X83.here hx rfl (pc0 := 186) (pc' := 213) rfl (hb hby at_186) rfl (flt (by decide : ¬ ((2 : Int32) < (0 : Int32)))).2.2.2 (by decide) (by decide) ?_
    show Steps p.tables e below (T83.setTop (mkF m 213 #[.val (.int x0), .val (.long y1), .second, .val (.long y2), .second, .val (.long y3), .second, .val (.long y4), .second, .val (.ref b1), .val (.int (0 : Int32)), .val (.ref b36_0), .val (.ref b63_0), .val (.int (1 : Int32))] [])) _
    refine XS.iload X83.here hx rfl (hb hby at_213) rfl ?_
    show Steps p.tables e below (T83.setTop (mkF m 215 #[.val (.int x0), .val (.long y1), .second, .val (.long y2), .second, .val (.long y3), .second, .val (.long y4), .second, .val (.ref b1), .val (.int (0 : Int32)), .val (.ref b36_0), .val (.ref b63_0), .val (.int (1 : Int32))] [(.int (1 : Int32))])) _
    exact retN X83 hx (t := .boolean) Bd.returns (by simp) (hb hby at_215) hr
  · show Q0_1 Z x0 y1 y2 y3 y4 h0 n0 _ T83.heap _
    rw [E83]
    exact ⟨rfl, N83⟩
def Q5_2 (Z : State) (r0 : Addr) (y1 : Int64) (r2 : Addr) (c3 : ClassId) (y4 : Int64) (r5 : Addr) (r6 : Addr) (h0 : Heap) (n0 : Nat) (v : Option Value) (h : Heap) (L : List Loc) : Prop := v = none ∧ Fr n0 L ∧ Keep h0 h [r0, r2] ∧ Fld Z h r0 cs0 "filled" "I" (.int (2 : Int32)) ∧ Fld Z h r0 cs0 "filling" "[J" (.ref r2) ∧ Fld Z h r0 cs0 "size" "I" (.int (2 : Int32)) ∧ Fld Z h r0 cs0 "chunks" "[[J" (.ref r5) ∧ Fld Z h r0 cs0 "items" "Ljava/lang/String;" (.ref r6) ∧ Arv Z h r2 c3 .long (1024 : Int32) [(.long y4), (.long y1), (.long (0 : Int64)), (.long (0 : Int64)), (.long (0 : Int64)), (.long (0 : Int64)), (.long (0 : Int64)), (.long (0 : Int64))] (.long (0 : Int64))
set_option maxRecDepth 65536 in
set_option maxHeartbeats 40000000 in
theorem rm5_2 (l : Launch) (Z : State) (a0 : Array Value) (hw : ∀ d ∈ tables_1, d.before a0 Z = true) (ws : List Jvm.Cond) (r0 : Addr) (y1 : Int64) (r2 : Addr) (c3 : ClassId) (y4 : Int64) (r5 : Addr) (r6 : Addr) (h0 : Heap) (n0 : Nat) (O0 : Old Z n0 h0) (f1 : Fld Z h0 r0 cs0 "filled" "I" (.int (1 : Int32))) (f3 : Fld Z h0 r0 cs0 "filling" "[J" (.ref r2)) (f5 : Arv Z h0 r2 c3 .long (1024 : Int32) [(.long y4), (.long (0 : Int64)), (.long (0 : Int64)), (.long (0 : Int64)), (.long (0 : Int64)), (.long (0 : Int64)), (.long (0 : Int64)), (.long (0 : Int64))] (.long (0 : Int64))) (f9 : Exa Z h0 r0 cs0) (g10 : n0 ≤ r0) (n12 : r2 ≠ r0) (g15 : n0 ≤ r2) (f17 : Fld Z h0 r0 cs0 "size" "I" (.int (1 : Int32))) (f22 : Fld Z h0 r0 cs0 "chunks" "[[J" (.ref r5)) (f24 : Fld Z h0 r0 cs0 "items" "Ljava/lang/String;" (.ref r6)) :
    MetFree l (⟨cs0, "add", "(J)V"⟩ : MethodName) (head1 (Jvm.Cond.code (⟨cs0, "add", "(J)V"⟩ : MethodName) prog_13_method_2_code 3 none :: ws) ({ frames := 0, cells := 0, slots := 0, locals := 0 } : Room)) (fun a U => a = #[(.ref r0), (.long y1)] ∧ Z.Warmed39 U.vm ∧ U.heap = h0) (fun _ _ _ _ _ => True) (fun _ U o U' => ∃ v L, o = .returned v ∧ Q5_2 Z r0 y1 r2 c3 y4 r5 r6 h0 n0 v U'.heap L ∧ FrameEnd U o U' L ({ frames := 0, cells := 0, slots := 0, locals := 0 } : Room).cells ({ frames := 0, cells := 0, slots := 0, locals := 0 } : Room).slots) := by
  refine MetFree.of_bodySF (plainFor_of_name pn_com_example_links_to_ranks_linkstoranks_LongList) hisR ?_
  intro p e s m args below meth c s₁ Bd hml0 hP hK
  obtain ⟨rfl, hZ, hh⟩ := hP
  have hx := Bd.exec
  have hby := Bd.bytes
  have hml : c.maxLocals = 3 := hml0
  have hown : s.vm.findClass cs0 = some m.cls := findClass_of_methodNamed Bd.named
  have hnm := (name_of_methodNamed Bd.named Bd.method).1
  have X0 : Stand p l e ({ frames := 0, cells := 0, slots := 0, locals := 0 } : Room) s m #[(.ref r0), (.long y1)] below meth c s₁ [] 0 0 := Stand.of_body Bd
  have e0 : s₁.heap = h0 := by rw [← hh, Bd.state]; rfl
  have N0 := Fr.nil n0
  have pre0 : ∀ t, Steps p.tables e below (s₁.setTop (mkF m 0 #[.val (.ref r0), .val (.long y1), .second] [])) t → Steps p.tables e below (s₁.setTop (entryFrame m #[(.ref r0), (.long y1)] 3)) t := fun t k => castTop (by first | (simp [entryFrame, mkF, argsToLocals, Value.category]; done) | rfl) k
  obtain ⟨T2, X2, e2, st2⟩ := getF X0 hx hZ hown (host := "") (Or.inl (ww hw 50 rfl)) Via.refl e0 f1 (g := (mkF m 1 #[.val (.ref r0), .val (.long y1), .second] [(.ref r0)])) rfl rfl (hb hby d5_1)
  obtain ⟨T4, X4, e4, st4⟩ := getF X2 hx hZ hown (host := "") (Or.inl (ww hw 23 rfl)) Via.refl e2 f3 (g := (mkF m 5 #[.val (.ref r0), .val (.long y1), .second] [(.ref r0), (.int (1 : Int32))])) rfl rfl (hb hby d5_5)
  obtain ⟨clq6, Arq6, qq6, Sq6, Nq6, Hq6, Gq6⟩ := id f5
  obtain ⟨T7, X7, e7, st7⟩ := getF X4 hx hZ hown (host := "") (Or.inl (ww hw 23 rfl)) Via.refl e4 f3 (g := (mkF m 17 #[.val (.ref r0), .val (.long y1), .second] [(.ref r0)])) rfl rfl (hb hby d5_17)
  obtain ⟨T8, X8, e8, st8⟩ := getF X7 hx hZ hown (host := "") (Or.inl (ww hw 50 rfl)) Via.refl e7 f1 (g := (mkF m 22 #[.val (.ref r0), .val (.long y1), .second] [(.ref r0), (.ref r0), (.ref r2)])) rfl rfl (hb hby d5_22)
  obtain ⟨T11, h11, X11, e11, W11, st11⟩ := putF X8 hx hZ hown (host := "") (Or.inl (ww hw 50 rfl)) Via.refl e8 f1 f9 (Or.inl (ww hw 51 rfl)) (ww hw 1 rfl) (ty := .int) (by decide) rfl rfl (g := (mkF m 28 #[.val (.ref r0), .val (.long y1), .second] [(.int (2 : Int32)), (.ref r0), (.int (1 : Int32)), (.ref r2)])) rfl rfl (hb hby d5_28)
  have Fw11 := f1.same W11
  have N11 := Fr.snoc X11 N0 g10
  have f13 := (f5.other W11 n12)
  obtain ⟨clq14, Arq14, qq14, Sq14, Nq14, Hq14, Gq14⟩ := id f13
  obtain ⟨T16, h16, X16, e16, W16, st16⟩ := stJ X11 hx hZ e11 Arq14 (j := (1 : Int32)) (inb_of Sq14 ⟨(by decide : ¬ ((1 : Int32) < (0 : Int32))), (by decide : (1 : Int32) < (1024 : Int32))⟩) (g := (mkF m 32 #[.val (.ref r0), .val (.long y1), .second] [(.long y1), (.int (1 : Int32)), (.ref r2)])) rfl rfl (hb hby d5_32)
  have V16 : Arv Z h16 r2 c3 .long (1024 : Int32) [(.long y4), (.long y1), (.long (0 : Int64)), (.long (0 : Int64)), (.long (0 : Int64)), (.long (0 : Int64)), (.long (0 : Int64)), (.long (0 : Int64))] (.long (0 : Int64)) := Arv.set Arq14 qq14 Sq14 Nq14 Hq14 Gq14 rfl W16 1 rfl (Nat.le_of_ble_eq_true rfl)
  have N16 := Fr.snoc X16 N11 g15
  have f18 := ((f17.other W11 (Or.inr (slot_ne (Or.inl (ww hw 36 rfl)) (Or.inl (ww hw 51 rfl)) (by decide) (t := .int) (t' := .int) (by decide) (by decide)))).other W16 (Or.inl (Ne.symm n12)))
  obtain ⟨T19, X19, e19, st19⟩ := getF X16 hx hZ hown (host := "") (Or.inl (ww hw 35 rfl)) Via.refl e16 f18 (g := (mkF m 35 #[.val (.ref r0), .val (.long y1), .second] [(.ref r0), (.ref r0)])) rfl rfl (hb hby d5_35)
  have f20 := ((f9.wr W11).wr W16)
  obtain ⟨T21, h21, X21, e21, W21, st21⟩ := putF X19 hx hZ hown (host := "") (Or.inl (ww hw 35 rfl)) Via.refl e19 f18 f20 (Or.inl (ww hw 36 rfl)) (ww hw 1 rfl) (ty := .int) (by decide) rfl rfl (g := (mkF m 40 #[.val (.ref r0), .val (.long y1), .second] [(.int (2 : Int32)), (.ref r0)])) rfl rfl (hb hby d5_40)
  have Fw21 := f18.same W21
  have N21 := Fr.snoc X21 N16 g10
  have f23 := (((f22.other W11 (Or.inr (slot_ne (Or.inl (ww hw 22 rfl)) (Or.inl (ww hw 51 rfl)) (by decide) (t := (.array (.array .long))) (t' := .int) (by decide) (by decide)))).other W16 (Or.inl (Ne.symm n12))).other W21 (Or.inr (slot_ne (Or.inl (ww hw 22 rfl)) (Or.inl (ww hw 36 rfl)) (by decide) (t := (.array (.array .long))) (t' := .int) (by decide) (by decide))))
  have f25 := (((f24.other W11 (Or.inr (slot_ne (Or.inr (ww hw 26 rfl)) (Or.inl (ww hw 51 rfl)) (by decide) (t := (.object "java/lang/String")) (t' := .int) (by decide) (by decide)))).other W16 (Or.inl (Ne.symm n12))).other W21 (Or.inr (slot_ne (Or.inr (ww hw 26 rfl)) (Or.inl (ww hw 36 rfl)) (by decide) (t := (.object "java/lang/String")) (t' := .int) (by decide) (by decide))))
  have f26 := ((Fw11.other W16 (Or.inl (Ne.symm n12))).other W21 (Or.inr (slot_ne (Or.inl (ww hw 51 rfl)) (Or.inl (ww hw 36 rfl)) (by decide) (t := .int) (t' := .int) (by decide) (by decide))))
  have f27 := (((f3.other W11 (Or.inr (slot_ne (Or.inl (ww hw 24 rfl)) (Or.inl (ww hw 51 rfl)) (by decide) (t := (.array .long)) (t' := .int) (by decide) (by decide)))).other W16 (Or.inl (Ne.symm n12))).other W21 (Or.inr (slot_ne (Or.inl (ww hw 24 rfl)) (Or.inl (ww hw 36 rfl)) (by decide) (t := (.array .long)) (t' := .int) (by decide) (by decide))))
  have f28 := (V16.other W21 n12)
  have kp29 : Keep h0 h11 [r0, r2] := (Keep.refl h0 [r0, r2]).wr W11 (Or.inl (List.mem_of_getElem? (i := 0) rfl))
  have kp30 : Keep h0 h16 [r0, r2] := kp29.wr W16 (Or.inl (List.mem_of_getElem? (i := 1) rfl))
  have kp31 : Keep h0 h21 [r0, r2] := kp30.wr W21 (Or.inl (List.mem_of_getElem? (i := 0) rfl))
  obtain ⟨fs, hr, hrun, hended, hW, hsame⟩ := X21.leave (v := none) (fun _ => rfl)
  refine ⟨_, _, pre0 _ ?_, hrun, hended, _, _, rfl, ?_, ⟨_, rfl⟩, hW, hsame.mono (by decide) (by decide)⟩
  · show Steps p.tables e below (s₁.setTop (mkF m 0 #[.val (.ref r0), .val (.long y1), .second] [])) _
    refine XS.aloadN X0.here hx rfl (hb hby d5_0) rfl rfl ?_
    show Steps p.tables e below (s₁.setTop (mkF m 1 #[.val (.ref r0), .val (.long y1), .second] [(.ref r0)])) _
    refine st2 _ ?_
    show Steps p.tables e below (T2.setTop (mkF m 4 #[.val (.ref r0), .val (.long y1), .second] [(.int (1 : Int32))])) _
    refine XS.aloadN X2.here hx rfl (hb hby d5_4) rfl rfl ?_
    show Steps p.tables e below (T2.setTop (mkF m 5 #[.val (.ref r0), .val (.long y1), .second] [(.ref r0), (.int (1 : Int32))])) _
    refine st4 _ ?_
    show Steps p.tables e below (T4.setTop (mkF m 8 #[.val (.ref r0), .val (.long y1), .second] [(.ref r2), (.int (1 : Int32))])) _
    refine X4.arraylength hx (by rw [e4]; exact Arq6.1) (State.isArrayOf_alike hZ.alike Arq6.2.1) (g := (mkF m 8 #[.val (.ref r0), .val (.long y1), .second] [(.ref r2), (.int (1 : Int32))])) rfl rfl (hb hby d5_8) _ ?_
    rw [len_of Sq6 Nq6]
    show Steps p.tables e below (T4.setTop (mkF m 9 #[.val (.ref r0), .val (.long y1), .second] [(.int (1024 : Int32)), (.int (1 : Int32))])) _
    refine XS.icmpYes X4.here hx rfl (pc0 := 9) (pc' := 16) rfl (hb hby d5_9) rfl (feq (by decide : ¬ ((1 : Int32) = (1024 : Int32)))).2 (by decide) (by decide) ?_
    show Steps p.tables e below (T4.setTop (mkF m 16 #[.val (.ref r0), .val (.long y1), .second] [])) _
    refine XS.aloadN X4.here hx rfl (hb hby d5_16) rfl rfl ?_
    show Steps p.tables e below (T4.setTop (mkF m 17 #[.val (.ref r0), .val (.long y1), .second] [(.ref r0)])) _
    refine st7 _ ?_
    show Steps p.tables e below (T7.setTop (mkF m 20 #[.val (.ref r0), .val (.long y1), .second] [(.ref r2)])) _
    refine XS.aloadN X7.here hx rfl (hb hby d5_20) rfl rfl ?_
    show Steps p.tables e below (T7.setTop (mkF m 21 #[.val (.ref r0), .val (.long y1), .second] [(.ref r0), (.ref r2)])) _
    refine XS.dup X7.here hx rfl (hb hby d5_21) rfl rfl ?_
    show Steps p.tables e below (T7.setTop (mkF m 22 #[.val (.ref r0), .val (.long y1), .second] [(.ref r0), (.ref r0), (.ref r2)])) _
    refine st8 _ ?_
    show Steps p.tables e below (T8.setTop (mkF m 25 #[.val (.ref r0), .val (.long y1), .second] [(.int (1 : Int32)), (.ref r0), (.ref r2)])) _
    refine XS.dupX1 X8.here hx rfl (hb hby d5_25) rfl rfl rfl ?_
    show Steps p.tables e below (T8.setTop (mkF m 26 #[.val (.ref r0), .val (.long y1), .second] [(.int (1 : Int32)), (.ref r0), (.int (1 : Int32)), (.ref r2)])) _
    refine XS.iconst X8.here hx rfl (hb hby d5_26) ?_
    show Steps p.tables e below (T8.setTop (mkF m 27 #[.val (.ref r0), .val (.long y1), .second] [(.int (1 : Int32)), (.int (1 : Int32)), (.ref r0), (.int (1 : Int32)), (.ref r2)])) _
    refine XS.iadd X8.here hx rfl (hb hby d5_27) rfl ?_
    show Steps p.tables e below (T8.setTop (mkF m 28 #[.val (.ref r0), .val (.long y1), .second] [(.int (2 : Int32)), (.ref r0), (.int (1 : Int32)), (.ref r2)])) _
    refine st11 _ ?_
    show Steps p.tables e below (T11.setTop (mkF m 31 #[.val (.ref r0), .val (.long y1), .second] [(.int (1 : Int32)), (.ref r2)])) _
    refine XS.lloadN X11.here hx rfl (hb hby d5_31) rfl ?_
    show Steps p.tables e below (T11.setTop (mkF m 32 #[.val (.ref r0), .val (.long y1), .second] [(.long y1), (.int (1 : Int32)), (.ref r2)])) _
    refine st16 _ ?_
    show Steps p.tables e below (T16.setTop (mkF m 33 #[.val (.ref r0), .val (.long y1), .second] [])) _
    refine XS.aloadN X16.here hx rfl (hb hby d5_33) rfl rfl ?_
    show Steps p.tables e below (T16.setTop (mkF m 34 #[.val (.ref r0), .val (.long y1), .second] [(.ref r0)])) _
    refine XS.dup X16.here hx rfl (hb hby d5_34) rfl rfl ?_
    show Steps p.tables e below (T16.setTop (mkF m 35 #[.val (.ref r0), .val (.long y1), .second] [(.ref r0), (.ref r0)])) _
    refine st19 _ ?_
    show Steps p.tables e below (T19.setTop (mkF m 38 #[.val (.ref r0), .val (.long y1), .second] [(.int (1 : Int32)), (.ref r0)])) _
    refine XS.iconst X19.here hx rfl (hb hby d5_38) ?_
    show Steps p.tables e below (T19.setTop (mkF m 39 #[.val (.ref r0), .val (.long y1), .second] [(.int (1 : Int32)), (.int (1 : Int32)), (.ref r0)])) _
    refine XS.iadd X19.here hx rfl (hb hby d5_39) rfl ?_
    show Steps p.tables e below (T19.setTop (mkF m 40 #[.val (.ref r0), .val (.long y1), .second] [(.int (2 : Int32)), (.ref r0)])) _
    refine st21 _ ?_
    show Steps p.tables e below (T21.setTop (mkF m 43 #[.val (.ref r0), .val (.long y1), .second] [])) _
    exact X21.returnOut hx Bd.returns (hb hby d5_43) hr
  · show Q5_2 Z r0 y1 r2 c3 y4 r5 r6 h0 n0 _ T21.heap _
    rw [e21]
    exact ⟨rfl, N21, kp31, f26, f27, Fw21, f23, f25, f28⟩
def Q4_3 (Z : State) (r0 : Addr) (r1 : Addr) (h0 : Heap) (n0 : Nat) (v : Option Value) (h : Heap) (L : List Loc) : Prop := v = none ∧ Fr n0 L ∧ Keep h0 h [r0] ∧ Fld Z h r0 cs1 "chunks" "[[J" (.ref r1) ∧ Fld Z h r0 cs1 "size" "I" (.int (2 : Int32))
set_option maxRecDepth 65536 in
set_option maxHeartbeats 40000000 in
theorem rm4_3 (l : Launch) (Z : State) (a0 : Array Value) (hw : ∀ d ∈ tables_1, d.before a0 Z = true) (ws : List Jvm.Cond) (r0 : Addr) (r1 : Addr) (h0 : Heap) (n0 : Nat) (O0 : Old Z n0 h0) (f2 : Exa Z h0 r0 cs1) (f3 : Fld Z h0 r0 cs1 "chunks" "[[J" .null) (g4 : n0 ≤ r0) (f7 : Fld Z h0 r0 cs1 "size" "I" (.int (0 : Int32))) :
    MetFree l (⟨cs1, "<init>", "([[JI)V"⟩ : MethodName) (head1 (Jvm.Cond.code (⟨cs1, "<init>", "([[JI)V"⟩ : MethodName) prog_14_method_1_code 3 none :: ws) ({ frames := 1, cells := 0, slots := 0, locals := 12 } : Room)) (fun a U => a = #[(.ref r0), (.ref r1), (.int (2 : Int32))] ∧ Z.Warmed39 U.vm ∧ U.heap = h0) (fun _ _ _ _ _ => True) (fun _ U o U' => ∃ v L, o = .returned v ∧ Q4_3 Z r0 r1 h0 n0 v U'.heap L ∧ FrameEnd U o U' L ({ frames := 1, cells := 0, slots := 0, locals := 12 } : Room).cells ({ frames := 1, cells := 0, slots := 0, locals := 12 } : Room).slots) := by
  refine MetFree.of_bodySF (plainFor_of_name pn_com_example_links_to_ranks_linkstoranks_LongList_View) hisR ?_
  intro p e s m args below meth c s₁ Bd hml0 hP hK
  obtain ⟨rfl, hZ, hh⟩ := hP
  have hx := Bd.exec
  have hby := Bd.bytes
  have hml : c.maxLocals = 3 := hml0
  have hown : s.vm.findClass cs1 = some m.cls := findClass_of_methodNamed Bd.named
  have hnm := (name_of_methodNamed Bd.named Bd.method).1
  have X0 : Stand p l e ({ frames := 1, cells := 0, slots := 0, locals := 12 } : Room) s m #[(.ref r0), (.ref r1), (.int (2 : Int32))] below meth c s₁ [] 0 0 := Stand.of_body Bd
  have e0 : s₁.heap = h0 := by rw [← hh, Bd.state]; rfl
  have N0 := Fr.nil n0
  have pre0 : ∀ t, Steps p.tables e below (s₁.setTop (mkF m 0 #[.val (.ref r0), .val (.ref r1), .val (.int (2 : Int32))] [])) t → Steps p.tables e below (s₁.setTop (entryFrame m #[(.ref r0), (.ref r1), (.int (2 : Int32))] 3)) t := fun t k => castTop (by first | (simp [entryFrame, mkF, argsToLocals, Value.category]; done) | rfl) k
  obtain ⟨T1, X1, e1, st1⟩ := initO X0 hx hZ hown (ww hw 40 rfl) (ww hw 15 rfl) (ww hw 16 rfl) e0 (g := (mkF m 1 #[.val (.ref r0), .val (.ref r1), .val (.int (2 : Int32))] [(.ref r0)])) rfl (by rw [hml]; rfl) rfl (hb hby d4_1) (by decide) (W := 0) (by show 2 * 0 + _ ≤ _; exact Nat.le_of_eq rfl) (by decide)
  obtain ⟨T5, h5, X5, e5, W5, st5⟩ := putF X1 hx hZ hown (host := "") (Or.inl (ww hw 41 rfl)) Via.refl e1 f3 f2 (Or.inr ⟨(ww hw 42 rfl), rfl, hnm⟩) (ww hw 33 rfl) (ty := (.array (.array .long))) (by decide) rfl rfl (g := (mkF m 6 #[.val (.ref r0), .val (.ref r1), .val (.int (2 : Int32))] [(.ref r1), (.ref r0)])) rfl rfl (hb hby d4_6)
  have Fw5 := f3.same W5
  have N5 := Fr.snoc X5 N0 g4
  have f6 := (f2.wr W5)
  have f8 := (f7.other W5 (Or.inr (slot_ne (Or.inr (ww hw 44 rfl)) (Or.inr (ww hw 42 rfl)) (by decide) (t := .int) (t' := (.array (.array .long))) (by decide) (by decide))))
  obtain ⟨T9, h9, X9, e9, W9, st9⟩ := putF X5 hx hZ hown (host := "") (Or.inl (ww hw 43 rfl)) Via.refl e5 f8 f6 (Or.inr ⟨(ww hw 44 rfl), rfl, hnm⟩) (ww hw 33 rfl) (ty := .int) (by decide) rfl rfl (g := (mkF m 11 #[.val (.ref r0), .val (.ref r1), .val (.int (2 : Int32))] [(.int (2 : Int32)), (.ref r0)])) rfl rfl (hb hby d4_11)
  have Fw9 := f8.same W9
  have N9 := Fr.snoc X9 N5 g4
  have f10 := (Fw5.other W9 (Or.inr (slot_ne (Or.inr (ww hw 42 rfl)) (Or.inr (ww hw 44 rfl)) (by decide) (t := (.array (.array .long))) (t' := .int) (by decide) (by decide))))
  have kp11 : Keep h0 h5 [r0] := (Keep.refl h0 [r0]).wr W5 (Or.inl (List.mem_of_getElem? (i := 0) rfl))
  have kp12 : Keep h0 h9 [r0] := kp11.wr W9 (Or.inl (List.mem_of_getElem? (i := 0) rfl))
  obtain ⟨fs, hr, hrun, hended, hW, hsame⟩ := X9.leave (v := none) (fun _ => rfl)
  refine ⟨_, _, pre0 _ ?_, hrun, hended, _, _, rfl, ?_, ⟨_, rfl⟩, hW, hsame.mono (by decide) (by decide)⟩
  · show Steps p.tables e below (s₁.setTop (mkF m 0 #[.val (.ref r0), .val (.ref r1), .val (.int (2 : Int32))] [])) _
    refine XS.aloadN X0.here hx rfl (hb hby d4_0) rfl rfl ?_
    show Steps p.tables e below (s₁.setTop (mkF m 1 #[.val (.ref r0), .val (.ref r1), .val (.int (2 : Int32))] [(.ref r0)])) _
    refine st1 _ ?_
    show Steps p.tables e below (T1.setTop (mkF m 4 #[.val (.ref r0), .val (.ref r1), .val (.int (2 : Int32))] [])) _
    refine XS.aloadN X1.here hx rfl (hb hby d4_4) rfl rfl ?_
    show Steps p.tables e below (T1.setTop (mkF m 5 #[.val (.ref r0), .val (.ref r1), .val (.int (2 : Int32))] [(.ref r0)])) _
    refine XS.aloadN X1.here hx rfl (hb hby d4_5) rfl rfl ?_
    show Steps p.tables e below (T1.setTop (mkF m 6 #[.val (.ref r0), .val (.ref r1), .val (.int (2 : Int32))] [(.ref r1), (.ref r0)])) _
    refine st5 _ ?_
    show Steps p.tables e below (T5.setTop (mkF m 9 #[.val (.ref r0), .val (.ref r1), .val (.int (2 : Int32))] [])) _
    refine XS.aloadN X5.here hx rfl (hb hby d4_9) rfl rfl ?_
    show Steps p.tables e below (T5.setTop (mkF m 10 #[.val (.ref r0), .val (.ref r1), .val (.int (2 : Int32))] [(.ref r0)])) _
    refine XS.iloadN X5.here hx rfl (hb hby d4_10) rfl ?_
    show Steps p.tables e below (T5.setTop (mkF m 11 #[.val (.ref r0), .val (.ref r1), .val (.int (2 : Int32))] [(.int (2 : Int32)), (.ref r0)])) _
    refine st9 _ ?_
    show Steps p.tables e below (T9.setTop (mkF m 14 #[.val (.ref r0), .val (.ref r1), .val (.int (2 : Int32))] [])) _
    exact X9.returnOut hx Bd.returns (hb hby d4_14) hr
  · show Q4_3 Z r0 r1 h0 n0 _ T9.heap _
    rw [e9]
    exact ⟨rfl, N9, kp12, f10, Fw9⟩
def Q3_3 (Z : State) (r0 : Addr) (r1 : Addr) (h0 : Heap) (n0 : Nat) (v : Option Value) (h : Heap) (L : List Loc) : Prop := ∃ (b1 : Addr), v = some (.ref b1) ∧ Fr n0 L ∧ Keep h0 h [] ∧ h0.size ≤ b1 ∧ Exa Z h b1 cs1 ∧ Fld Z h b1 cs1 "chunks" "[[J" (.ref r1) ∧ Fld Z h b1 cs1 "size" "I" (.int (2 : Int32))
set_option maxRecDepth 65536 in
set_option maxHeartbeats 40000000 in
theorem rm3_3 (l : Launch) (Z : State) (a0 : Array Value) (hw : ∀ d ∈ tables_1, d.before a0 Z = true) (ws : List Jvm.Cond) (r0 : Addr) (r1 : Addr) (h0 : Heap) (n0 : Nat) (O0 : Old Z n0 h0) (f4 : Fld Z h0 r0 cs0 "chunks" "[[J" (.ref r1)) (f7 : Fld Z h0 r0 cs0 "size" "I" (.int (2 : Int32))) :
    MetFree l (⟨cs0, "view", cs2⟩ : MethodName) (head1 (Jvm.Cond.code (⟨cs0, "view", cs2⟩ : MethodName) prog_13_method_4_code 1 (some (.object cs1)) :: ws) ({ frames := 2, cells := 1, slots := 2, locals := 27 } : Room)) (fun a U => a = #[(.ref r0)] ∧ Z.Warmed39 U.vm ∧ U.heap = h0) (fun _ _ _ _ _ => True) (fun _ U o U' => ∃ v L, o = .returned v ∧ Q3_3 Z r0 r1 h0 n0 v U'.heap L ∧ FrameEnd U o U' L ({ frames := 2, cells := 1, slots := 2, locals := 27 } : Room).cells ({ frames := 2, cells := 1, slots := 2, locals := 27 } : Room).slots) := by
  refine MetFree.of_bodySF (plainFor_of_name pn_com_example_links_to_ranks_linkstoranks_LongList) hisR ?_
  intro p e s m args below meth c s₁ Bd hml0 hP hK
  obtain ⟨rfl, hZ, hh⟩ := hP
  have hx := Bd.exec
  have hby := Bd.bytes
  have hml : c.maxLocals = 1 := hml0
  have hown : s.vm.findClass cs0 = some m.cls := findClass_of_methodNamed Bd.named
  have hnm := (name_of_methodNamed Bd.named Bd.method).1
  have X0 : Stand p l e ({ frames := 2, cells := 1, slots := 2, locals := 27 } : Room) s m #[(.ref r0)] below meth c s₁ [] 0 0 := Stand.of_body Bd
  have e0 : s₁.heap = h0 := by rw [← hh, Bd.state]; rfl
  have N0 := Fr.nil n0
  have pre0 : ∀ t, Steps p.tables e below (s₁.setTop (mkF m 0 #[.val (.ref r0)] [])) t → Steps p.tables e below (s₁.setTop (entryFrame m #[(.ref r0)] 1)) t := fun t k => castTop (by first | (simp [entryFrame, mkF, argsToLocals, Value.category]; done) | rfl) k
  obtain ⟨T1, h1, X1, e1, E1, A1, D1, -, st1⟩ := newO X0 hx hZ hown (ww hw 32 rfl) (ww hw 33 rfl) (ww hw 34 rfl) e0 (g := (mkF m 0 #[.val (.ref r0)] [])) rfl (hb hby d3_0) (by decide) (by decide)
  obtain ⟨b1, g1⟩ : ∃ z, z = h0.size := ⟨_, rfl⟩
  rw [← g1] at A1 D1 st1
  have f2 : Fld Z h1 b1 cs1 "chunks" "[[J" .null := D1 (Or.inr (ww hw 42 rfl)) (ty := (.array (.array .long))) (by decide)
  have f3 : Fld Z h1 b1 cs1 "size" "I" (.int (0 : Int32)) := D1 (Or.inr (ww hw 44 rfl)) (ty := .int) (by decide)
  have f5 := (f4.ext E1)
  obtain ⟨T6, X6, e6, st6⟩ := getF X1 hx hZ hown (host := "") (Or.inl (ww hw 21 rfl)) Via.refl e1 f5 (g := (mkF m 5 #[.val (.ref r0)] [(.ref r0), (.ref b1), (.ref b1)])) rfl rfl (hb hby d3_5)
  have f8 := (f7.ext E1)
  obtain ⟨T9, X9, e9, st9⟩ := getF X6 hx hZ hown (host := "") (Or.inl (ww hw 35 rfl)) Via.refl e6 f8 (g := (mkF m 9 #[.val (.ref r0)] [(.ref r0), (.ref r1), (.ref b1), (.ref b1)])) rfl rfl (hb hby d3_9)
  have zz10 : n0 ≤ h0.size := by rw [← O0.1]; exact O0.2.1
  have g11 := Nat.le_trans zz10 (Nat.le_of_eq g1.symm)
  have o12 := Old.ext O0 E1
  obtain ⟨_, _, ⟨T13, L13, k13, n13⟩, -, X13, ⟨Lc13, hQ13, l13, y13, z13⟩, st13⟩ := own_specialRef X9 hx hZ (y := (⟨cs1, "<init>", "([[JI)V"⟩ : MethodName)) rfl hown (ww hw 37 rfl) (mvT hZ (ww hw 38 rfl)) (mvT hZ (ww hw 39 rfl)) (by decide) (backOf (W := 1) (rm4_3 l Z a0 hw [] b1 r1 h1 n0 o12 A1 f2 g11 f3) hZ (ww hw 39 rfl) (ww hw 34 rfl) (by decide) (by decide)) (g := (mkF m 12 #[.val (.ref r0)] [(.int (2 : Int32)), (.ref r1), (.ref b1), (.ref b1)])) rfl (by rw [hml]; rfl) (Steps.refl _) (a := b1) (argsL := [(.ref r1), (.int (2 : Int32))]) (rest := [(.ref b1)]) (lenOf pd____JI_V rfl) rfl (by show 2 * 0 + _ ≤ _; exact Nat.le_of_eq rfl) (hb hby d3_12) (fun _ _ => ⟨rfl, e9, (by decide : 1 + 0 ≤ _), (by decide : 2 + 0 ≤ _)⟩)
  dsimp only [Pt.U, Pt.locs, Pt.cells, Pt.slots] at X13 l13 y13 z13 st13 hQ13
  subst l13 y13 z13
  obtain ⟨rfl, N13q, K13, f14, f15⟩ := hQ13
  have N13 := Fr.app N0 N13q
  have f16 := (A1.keep K13)
  have kp17 : Keep h0 h1 [] := (Keep.refl h0 []).ext E1
  have kp18 : Keep h0 T13.heap [] := kp17.trans K13 (allS (Or.inr (Nat.le_of_eq g1.symm)) all0)
  obtain ⟨fs, hr, hrun, hended, hW, hsame⟩ := X13.leave (v := some (.ref b1)) (fun h => by rw [Bd.returns] at h; cases h)
  refine ⟨_, _, pre0 _ ?_, hrun, hended, _, _, rfl, ?_, ⟨_, rfl⟩, hW, hsame.mono (by decide) (by decide)⟩
  · show Steps p.tables e below (s₁.setTop (mkF m 0 #[.val (.ref r0)] [])) _
    refine st1 _ ?_
    show Steps p.tables e below (T1.setTop (mkF m 3 #[.val (.ref r0)] [(.ref b1)])) _
    refine XS.dup X1.here hx rfl (hb hby d3_3) rfl rfl ?_
    show Steps p.tables e below (T1.setTop (mkF m 4 #[.val (.ref r0)] [(.ref b1), (.ref b1)])) _
    refine XS.aloadN X1.here hx rfl (hb hby d3_4) rfl rfl ?_
    show Steps p.tables e below (T1.setTop (mkF m 5 #[.val (.ref r0)] [(.ref r0), (.ref b1), (.ref b1)])) _
    refine st6 _ ?_
    show Steps p.tables e below (T6.setTop (mkF m 8 #[.val (.ref r0)] [(.ref r1), (.ref b1), (.ref b1)])) _
    refine XS.aloadN X6.here hx rfl (hb hby d3_8) rfl rfl ?_
    show Steps p.tables e below (T6.setTop (mkF m 9 #[.val (.ref r0)] [(.ref r0), (.ref r1), (.ref b1), (.ref b1)])) _
    refine st9 _ ?_
    show Steps p.tables e below (T9.setTop (mkF m 12 #[.val (.ref r0)] [(.int (2 : Int32)), (.ref r1), (.ref b1), (.ref b1)])) _
    refine st13.trans ?_
    show Steps p.tables e below (T13.setTop (mkF m 15 #[.val (.ref r0)] [(.ref b1)])) _
    exact retOut X13 hx (i := .areturn) Bd.returns rfl (Or.inr (Or.inr (Or.inr (Or.inr ⟨rfl, rfl, rfl⟩)))) (hb hby d3_15) hr
  · show Q3_3 Z r0 r1 h0 n0 _ T13.heap _
    exact ⟨b1, rfl, N13, kp18, (Nat.le_of_eq g1.symm), f16, f14, f15⟩
def Q6_3 (Z : State) (r0 : Addr) (h0 : Heap) (n0 : Nat) (v : Option Value) (h : Heap) (L : List Loc) : Prop := v = some (.int (2 : Int32)) ∧ Fr n0 L ∧ h = h0
set_option maxRecDepth 65536 in
set_option maxHeartbeats 40000000 in
theorem rm6_3 (l : Launch) (Z : State) (a0 : Array Value) (hw : ∀ d ∈ tables_1, d.before a0 Z = true) (ws : List Jvm.Cond) (r0 : Addr) (h0 : Heap) (n0 : Nat) (O0 : Old Z n0 h0) (f1 : Fld Z h0 r0 cs1 "size" "I" (.int (2 : Int32))) :
    MetFree l (⟨cs1, "size", "()I"⟩ : MethodName) (head1 (Jvm.Cond.code (⟨cs1, "size", "()I"⟩ : MethodName) prog_14_method_2_code 1 (some .int) :: ws) ({ frames := 0, cells := 0, slots := 0, locals := 0 } : Room)) (fun a U => a = #[(.ref r0)] ∧ Z.Warmed39 U.vm ∧ U.heap = h0) (fun _ _ _ _ _ => True) (fun _ U o U' => ∃ v L, o = .returned v ∧ Q6_3 Z r0 h0 n0 v U'.heap L ∧ FrameEnd U o U' L ({ frames := 0, cells := 0, slots := 0, locals := 0 } : Room).cells ({ frames := 0, cells := 0, slots := 0, locals := 0 } : Room).slots) := by
  refine MetFree.of_bodySF (plainFor_of_name pn_com_example_links_to_ranks_linkstoranks_LongList_View) hisR ?_
  intro p e s m args below meth c s₁ Bd hml0 hP hK
  obtain ⟨rfl, hZ, hh⟩ := hP
  have hx := Bd.exec
  have hby := Bd.bytes
  have hml : c.maxLocals = 1 := hml0
  have hown : s.vm.findClass cs1 = some m.cls := findClass_of_methodNamed Bd.named
  have hnm := (name_of_methodNamed Bd.named Bd.method).1
  have X0 : Stand p l e ({ frames := 0, cells := 0, slots := 0, locals := 0 } : Room) s m #[(.ref r0)] below meth c s₁ [] 0 0 := Stand.of_body Bd
  have e0 : s₁.heap = h0 := by rw [← hh, Bd.state]; rfl
  have N0 := Fr.nil n0
  have pre0 : ∀ t, Steps p.tables e below (s₁.setTop (mkF m 0 #[.val (.ref r0)] [])) t → Steps p.tables e below (s₁.setTop (entryFrame m #[(.ref r0)] 1)) t := fun t k => castTop (by first | (simp [entryFrame, mkF, argsToLocals, Value.category]; done) | rfl) k
  obtain ⟨T2, X2, e2, st2⟩ := getF X0 hx hZ hown (host := "") (Or.inl (ww hw 43 rfl)) Via.refl e0 f1 (g := (mkF m 1 #[.val (.ref r0)] [(.ref r0)])) rfl rfl (hb hby d6_1)
  obtain ⟨fs, hr, hrun, hended, hW, hsame⟩ := X2.leave (v := some (.int (2 : Int32))) (fun h => by rw [Bd.returns] at h; cases h)
  refine ⟨_, _, pre0 _ ?_, hrun, hended, _, _, rfl, ?_, ⟨_, rfl⟩, hW, hsame.mono (by decide) (by decide)⟩
  · show Steps p.tables e below (s₁.setTop (mkF m 0 #[.val (.ref r0)] [])) _
    refine XS.aloadN X0.here hx rfl (hb hby d6_0) rfl rfl ?_
    show Steps p.tables e below (s₁.setTop (mkF m 1 #[.val (.ref r0)] [(.ref r0)])) _
    refine st2 _ ?_
    show Steps p.tables e below (T2.setTop (mkF m 4 #[.val (.ref r0)] [(.int (2 : Int32))])) _
    exact retOut X2 hx (i := .ireturn) Bd.returns rfl (Or.inl ⟨rfl, Or.inl rfl, _, rfl⟩) (hb hby d6_4) hr
  · show Q6_3 Z r0 h0 n0 _ T2.heap _
    rw [e2]
    exact ⟨rfl, N0, rfl⟩
def Q7_2 (Z : State) (r0 : Addr) (r1 : Addr) (c2 : ClassId) (r3 : Addr) (c4 : ClassId) (y5 : Int64) (y6 : Int64) (h0 : Heap) (n0 : Nat) (v : Option Value) (h : Heap) (L : List Loc) : Prop := v = some (.long y6) ∧ Fr n0 L ∧ h = h0
set_option maxRecDepth 65536 in
set_option maxHeartbeats 40000000 in
theorem rm7_2 (l : Launch) (Z : State) (a0 : Array Value) (hw : ∀ d ∈ tables_1, d.before a0 Z = true) (ws : List Jvm.Cond) (r0 : Addr) (r1 : Addr) (c2 : ClassId) (r3 : Addr) (c4 : ClassId) (y5 : Int64) (y6 : Int64) (h0 : Heap) (n0 : Nat) (O0 : Old Z n0 h0) (f1 : Fld Z h0 r0 cs1 "chunks" "[[J" (.ref r1)) (f3 : Arv Z h0 r1 c2 (.array .long) (1 : Int32) [(.ref r3)] .null) (f5 : Arv Z h0 r3 c4 .long (1024 : Int32) [(.long y5), (.long y6), (.long (0 : Int64)), (.long (0 : Int64)), (.long (0 : Int64)), (.long (0 : Int64)), (.long (0 : Int64)), (.long (0 : Int64))] (.long (0 : Int64))) :
    MetFree l (⟨cs1, "get", "(I)J"⟩ : MethodName) (head1 (Jvm.Cond.code (⟨cs1, "get", "(I)J"⟩ : MethodName) prog_14_method_3_code 2 (some .long) :: ws) ({ frames := 0, cells := 0, slots := 0, locals := 0 } : Room)) (fun a U => a = #[(.ref r0), (.int (1 : Int32))] ∧ Z.Warmed39 U.vm ∧ U.heap = h0) (fun _ _ _ _ _ => True) (fun _ U o U' => ∃ v L, o = .returned v ∧ Q7_2 Z r0 r1 c2 r3 c4 y5 y6 h0 n0 v U'.heap L ∧ FrameEnd U o U' L ({ frames := 0, cells := 0, slots := 0, locals := 0 } : Room).cells ({ frames := 0, cells := 0, slots := 0, locals := 0 } : Room).slots) := by
  refine MetFree.of_bodySF (plainFor_of_name pn_com_example_links_to_ranks_linkstoranks_LongList_View) hisR ?_
  intro p e s m args below meth c s₁ Bd hml0 hP hK
  obtain ⟨rfl, hZ, hh⟩ := hP
  have hx := Bd.exec
  have hby := Bd.bytes
  have hml : c.maxLocals = 2 := hml0
  have hown : s.vm.findClass cs1 = some m.cls := findClass_of_methodNamed Bd.named
  have hnm := (name_of_methodNamed Bd.named Bd.method).1
  have X0 : Stand p l e ({ frames := 0, cells := 0, slots := 0, locals := 0 } : Room) s m #[(.ref r0), (.int (1 : Int32))] below meth c s₁ [] 0 0 := Stand.of_body Bd
  have e0 : s₁.heap = h0 := by rw [← hh, Bd.state]; rfl
  have N0 := Fr.nil n0
  have pre0 : ∀ t, Steps p.tables e below (s₁.setTop (mkF m 0 #[.val (.ref r0), .val (.int (1 : Int32))] [])) t → Steps p.tables e below (s₁.setTop (entryFrame m #[(.ref r0), (.int (1 : Int32))] 2)) t := fun t k => castTop (by first | (simp [entryFrame, mkF, argsToLocals, Value.category]; done) | rfl) k
  obtain ⟨T2, X2, e2, st2⟩ := getF X0 hx hZ hown (host := "") (Or.inl (ww hw 41 rfl)) Via.refl e0 f1 (g := (mkF m 1 #[.val (.ref r0), .val (.int (1 : Int32))] [(.ref r0)])) rfl rfl (hb hby d7_1)
  obtain ⟨clq4, Arq4, qq4, Sq4, Nq4, Hq4, Gq4⟩ := id f3
  obtain ⟨clq6, Arq6, qq6, Sq6, Nq6, Hq6, Gq6⟩ := id f5
  obtain ⟨fs, hr, hrun, hended, hW, hsame⟩ := X2.leave (v := some (.long y6)) (fun h => by rw [Bd.returns] at h; cases h)
  refine ⟨_, _, pre0 _ ?_, hrun, hended, _, _, rfl, ?_, ⟨_, rfl⟩, hW, hsame.mono (by decide) (by decide)⟩
  · show Steps p.tables e below (s₁.setTop (mkF m 0 #[.val (.ref r0), .val (.int (1 : Int32))] [])) _
    refine XS.aloadN X0.here hx rfl (hb hby d7_0) rfl rfl ?_
    show Steps p.tables e below (s₁.setTop (mkF m 1 #[.val (.ref r0), .val (.int (1 : Int32))] [(.ref r0)])) _
    refine st2 _ ?_
    show Steps p.tables e below (T2.setTop (mkF m 4 #[.val (.ref r0), .val (.int (1 : Int32))] [(.ref r1)])) _
    refine XS.iloadN X2.here hx rfl (hb hby d7_4) rfl ?_
    show Steps p.tables e below (T2.setTop (mkF m 5 #[.val (.ref r0), .val (.int (1 : Int32))] [(.int (1 : Int32)), (.ref r1)])) _
    refine XS.bipush X2.here hx rfl (hb hby d7_5) ?_
    show Steps p.tables e below (T2.setTop (mkF m 7 #[.val (.ref r0), .val (.int (1 : Int32))] [(.int (18 : Int32)), (.int (1 : Int32)), (.ref r1)])) _
    refine XS.iushr X2.here hx rfl (hb hby d7_7) rfl ?_
    show Steps p.tables e below (T2.setTop (mkF m 8 #[.val (.ref r0), .val (.int (1 : Int32))] [(.int (0 : Int32)), (.ref r1)])) _
    refine X2.aaload hx (j := (0 : Int32)) (v := (.ref r3)) (by rw [e2]; exact Arq4.1) (State.isArrayOf_alike hZ.alike Arq4.2.1) rfl Arq4.2.2 (inb_of Sq4 ⟨(by decide : ¬ ((0 : Int32) < (0 : Int32))), (by decide : (0 : Int32) < (1 : Int32))⟩) (Has.at Hq4 (inb_of Sq4 ⟨(by decide : ¬ ((0 : Int32) < (0 : Int32))), (by decide : (0 : Int32) < (1 : Int32))⟩) rfl) (g := (mkF m 8 #[.val (.ref r0), .val (.int (1 : Int32))] [(.int (0 : Int32)), (.ref r1)])) rfl rfl (hb hby d7_8) _ ?_
    show Steps p.tables e below (T2.setTop (mkF m 9 #[.val (.ref r0), .val (.int (1 : Int32))] [(.ref r3)])) _
    refine XS.iloadN X2.here hx rfl (hb hby d7_9) rfl ?_
    show Steps p.tables e below (T2.setTop (mkF m 10 #[.val (.ref r0), .val (.int (1 : Int32))] [(.int (1 : Int32)), (.ref r3)])) _
    refine X2.ldcInt hx hown (mvT hZ (ww hw 62 rfl)) (g := (mkF m 10 #[.val (.ref r0), .val (.int (1 : Int32))] [(.int (1 : Int32)), (.ref r3)])) rfl (hb hby d7_10) _ ?_
    show Steps p.tables e below (T2.setTop (mkF m 12 #[.val (.ref r0), .val (.int (1 : Int32))] [(.int (262143 : Int32)), (.int (1 : Int32)), (.ref r3)])) _
    refine XS.iand X2.here hx rfl (hb hby d7_12) rfl ?_
    show Steps p.tables e below (T2.setTop (mkF m 13 #[.val (.ref r0), .val (.int (1 : Int32))] [(.int (1 : Int32)), (.ref r3)])) _
    refine X2.laload hx (j := (1 : Int32)) (v := (.long y6)) (by rw [e2]; exact Arq6.1) (State.isArrayOf_alike hZ.alike Arq6.2.1) Arq6.2.2 (inb_of Sq6 ⟨(by decide : ¬ ((1 : Int32) < (0 : Int32))), (by decide : (1 : Int32) < (1024 : Int32))⟩) (Has.at Hq6 (inb_of Sq6 ⟨(by decide : ¬ ((1 : Int32) < (0 : Int32))), (by decide : (1 : Int32) < (1024 : Int32))⟩) rfl) (g := (mkF m 13 #[.val (.ref r0), .val (.int (1 : Int32))] [(.int (1 : Int32)), (.ref r3)])) rfl rfl (hb hby d7_13) _ ?_
    show Steps p.tables e below (T2.setTop (mkF m 14 #[.val (.ref r0), .val (.int (1 : Int32))] [(.long y6)])) _
    exact retOut X2 hx (i := .lreturn) Bd.returns rfl (Or.inr (Or.inl ⟨rfl, rfl, _, rfl⟩)) (hb hby d7_14) hr
  · show Q7_2 Z r0 r1 c2 r3 c4 y5 y6 h0 n0 _ T2.heap _
    rw [e2]
    exact ⟨rfl, N0, rfl⟩
def Q7_3 (Z : State) (r0 : Addr) (r1 : Addr) (c2 : ClassId) (r3 : Addr) (c4 : ClassId) (y5 : Int64) (y6 : Int64) (h0 : Heap) (n0 : Nat) (v : Option Value) (h : Heap) (L : List Loc) : Prop := v = some (.long y5) ∧ Fr n0 L ∧ h = h0
set_option maxRecDepth 65536 in
set_option maxHeartbeats 40000000 in
theorem rm7_3 (l : Launch) (Z : State) (a0 : Array Value) (hw : ∀ d ∈ tables_1, d.before a0 Z = true) (ws : List Jvm.Cond) (r0 : Addr) (r1 : Addr) (c2 : ClassId) (r3 : Addr) (c4 : ClassId) (y5 : Int64) (y6 : Int64) (h0 : Heap) (n0 : Nat) (O0 : Old Z n0 h0) (f1 : Fld Z h0 r0 cs1 "chunks" "[[J" (.ref r1)) (f3 : Arv Z h0 r1 c2 (.array .long) (1 : Int32) [(.ref r3)] .null) (f5 : Arv Z h0 r3 c4 .long (1024 : Int32) [(.long y5), (.long y6), (.long (0 : Int64)), (.long (0 : Int64)), (.long (0 : Int64)), (.long (0 : Int64)), (.long (0 : Int64)), (.long (0 : Int64))] (.long (0 : Int64))) :
    MetFree l (⟨cs1, "get", "(I)J"⟩ : MethodName) (head1 (Jvm.Cond.code (⟨cs1, "get", "(I)J"⟩ : MethodName) prog_14_method_3_code 2 (some .long) :: ws) ({ frames := 0, cells := 0, slots := 0, locals := 0 } : Room)) (fun a U => a = #[(.ref r0), (.int (0 : Int32))] ∧ Z.Warmed39 U.vm ∧ U.heap = h0) (fun _ _ _ _ _ => True) (fun _ U o U' => ∃ v L, o = .returned v ∧ Q7_3 Z r0 r1 c2 r3 c4 y5 y6 h0 n0 v U'.heap L ∧ FrameEnd U o U' L ({ frames := 0, cells := 0, slots := 0, locals := 0 } : Room).cells ({ frames := 0, cells := 0, slots := 0, locals := 0 } : Room).slots) := by
  refine MetFree.of_bodySF (plainFor_of_name pn_com_example_links_to_ranks_linkstoranks_LongList_View) hisR ?_
  intro p e s m args below meth c s₁ Bd hml0 hP hK
  obtain ⟨rfl, hZ, hh⟩ := hP
  have hx := Bd.exec
  have hby := Bd.bytes
  have hml : c.maxLocals = 2 := hml0
  have hown : s.vm.findClass cs1 = some m.cls := findClass_of_methodNamed Bd.named
  have hnm := (name_of_methodNamed Bd.named Bd.method).1
  have X0 : Stand p l e ({ frames := 0, cells := 0, slots := 0, locals := 0 } : Room) s m #[(.ref r0), (.int (0 : Int32))] below meth c s₁ [] 0 0 := Stand.of_body Bd
  have e0 : s₁.heap = h0 := by rw [← hh, Bd.state]; rfl
  have N0 := Fr.nil n0
  have pre0 : ∀ t, Steps p.tables e below (s₁.setTop (mkF m 0 #[.val (.ref r0), .val (.int (0 : Int32))] [])) t → Steps p.tables e below (s₁.setTop (entryFrame m #[(.ref r0), (.int (0 : Int32))] 2)) t := fun t k => castTop (by first | (simp [entryFrame, mkF, argsToLocals, Value.category]; done) | rfl) k
  obtain ⟨T2, X2, e2, st2⟩ := getF X0 hx hZ hown (host := "") (Or.inl (ww hw 41 rfl)) Via.refl e0 f1 (g := (mkF m 1 #[.val (.ref r0), .val (.int (0 : Int32))] [(.ref r0)])) rfl rfl (hb hby d7_1)
  obtain ⟨clq4, Arq4, qq4, Sq4, Nq4, Hq4, Gq4⟩ := id f3
  obtain ⟨clq6, Arq6, qq6, Sq6, Nq6, Hq6, Gq6⟩ := id f5
  obtain ⟨fs, hr, hrun, hended, hW, hsame⟩ := X2.leave (v := some (.long y5)) (fun h => by rw [Bd.returns] at h; cases h)
  refine ⟨_, _, pre0 _ ?_, hrun, hended, _, _, rfl, ?_, ⟨_, rfl⟩, hW, hsame.mono (by decide) (by decide)⟩
  · show Steps p.tables e below (s₁.setTop (mkF m 0 #[.val (.ref r0), .val (.int (0 : Int32))] [])) _
    refine XS.aloadN X0.here hx rfl (hb hby d7_0) rfl rfl ?_
    show Steps p.tables e below (s₁.setTop (mkF m 1 #[.val (.ref r0), .val (.int (0 : Int32))] [(.ref r0)])) _
    refine st2 _ ?_
    show Steps p.tables e below (T2.setTop (mkF m 4 #[.val (.ref r0), .val (.int (0 : Int32))] [(.ref r1)])) _
    refine XS.iloadN X2.here hx rfl (hb hby d7_4) rfl ?_
    show Steps p.tables e below (T2.setTop (mkF m 5 #[.val (.ref r0), .val (.int (0 : Int32))] [(.int (0 : Int32)), (.ref r1)])) _
    refine XS.bipush X2.here hx rfl (hb hby d7_5) ?_
    show Steps p.tables e below (T2.setTop (mkF m 7 #[.val (.ref r0), .val (.int (0 : Int32))] [(.int (18 : Int32)), (.int (0 : Int32)), (.ref r1)])) _
    refine XS.iushr X2.here hx rfl (hb hby d7_7) rfl ?_
    show Steps p.tables e below (T2.setTop (mkF m 8 #[.val (.ref r0), .val (.int (0 : Int32))] [(.int (0 : Int32)), (.ref r1)])) _
    refine X2.aaload hx (j := (0 : Int32)) (v := (.ref r3)) (by rw [e2]; exact Arq4.1) (State.isArrayOf_alike hZ.alike Arq4.2.1) rfl Arq4.2.2 (inb_of Sq4 ⟨(by decide : ¬ ((0 : Int32) < (0 : Int32))), (by decide : (0 : Int32) < (1 : Int32))⟩) (Has.at Hq4 (inb_of Sq4 ⟨(by decide : ¬ ((0 : Int32) < (0 : Int32))), (by decide : (0 : Int32) < (1 : Int32))⟩) rfl) (g := (mkF m 8 #[.val (.ref r0), .val (.int (0 : Int32))] [(.int (0 : Int32)), (.ref r1)])) rfl rfl (hb hby d7_8) _ ?_
    show Steps p.tables e below (T2.setTop (mkF m 9 #[.val (.ref r0), .val (.int (0 : Int32))] [(.ref r3)])) _
    refine XS.iloadN X2.here hx rfl (hb hby d7_9) rfl ?_
    show Steps p.tables e below (T2.setTop (mkF m 10 #[.val (.ref r0), .val (.int (0 : Int32))] [(.int (0 : Int32)), (.ref r3)])) _
    refine X2.ldcInt hx hown (mvT hZ (ww hw 62 rfl)) (g := (mkF m 10 #[.val (.ref r0), .val (.int (0 : Int32))] [(.int (0 : Int32)), (.ref r3)])) rfl (hb hby d7_10) _ ?_
    show Steps p.tables e below (T2.setTop (mkF m 12 #[.val (.ref r0), .val (.int (0 : Int32))] [(.int (262143 : Int32)), (.int (0 : Int32)), (.ref r3)])) _
    refine XS.iand X2.here hx rfl (hb hby d7_12) rfl ?_
    show Steps p.tables e below (T2.setTop (mkF m 13 #[.val (.ref r0), .val (.int (0 : Int32))] [(.int (0 : Int32)), (.ref r3)])) _
    refine X2.laload hx (j := (0 : Int32)) (v := (.long y5)) (by rw [e2]; exact Arq6.1) (State.isArrayOf_alike hZ.alike Arq6.2.1) Arq6.2.2 (inb_of Sq6 ⟨(by decide : ¬ ((0 : Int32) < (0 : Int32))), (by decide : (0 : Int32) < (1024 : Int32))⟩) (Has.at Hq6 (inb_of Sq6 ⟨(by decide : ¬ ((0 : Int32) < (0 : Int32))), (by decide : (0 : Int32) < (1024 : Int32))⟩) rfl) (g := (mkF m 13 #[.val (.ref r0), .val (.int (0 : Int32))] [(.int (0 : Int32)), (.ref r3)])) rfl rfl (hb hby d7_13) _ ?_
    show Steps p.tables e below (T2.setTop (mkF m 14 #[.val (.ref r0), .val (.int (0 : Int32))] [(.long y5)])) _
    exact retOut X2 hx (i := .lreturn) Bd.returns rfl (Or.inr (Or.inl ⟨rfl, rfl, _, rfl⟩)) (hb hby d7_14) hr
  · show Q7_3 Z r0 r1 c2 r3 c4 y5 y6 h0 n0 _ T2.heap _
    rw [e2]
    exact ⟨rfl, N0, rfl⟩
def Q0_2 (Z : State) (x0 : Int32) (y1 : Int64) (y2 : Int64) (y3 : Int64) (y4 : Int64) (h0 : Heap) (n0 : Nat) (v : Option Value) (h : Heap) (L : List Loc) : Prop := v = some (.int (1 : Int32)) ∧ Fr n0 L
set_option maxRecDepth 65536 in
set_option maxHeartbeats 40000000 in
theorem rm0_2 (l : Launch) (Z : State) (a0 : Array Value) (hw : ∀ d ∈ tables_1, d.before a0 Z = true) (ws : List Jvm.Cond) (x0 : Int32) (y1 : Int64) (y2 : Int64) (y3 : Int64) (y4 : Int64) (h0 : Heap) (n0 : Nat) (O0 : Old Z n0 h0) (hc34 : (x0 &&& (3 : Int32)) = (1 : Int32)) :
    MetFree l x (head1 (Jvm.Cond.code x code maxLocals ret :: ws) room_1) (fun a U => a = #[(.int x0), (.long y1), (.long y2), (.long y3), (.long y4)] ∧ Z.Warmed39 U.vm ∧ U.heap = h0) (fun _ _ _ _ _ => True) (fun _ U o U' => ∃ v L, o = .returned v ∧ Q0_2 Z x0 y1 y2 y3 y4 h0 n0 v U'.heap L ∧ ReturnedEndW U o U' L room_1.cells room_1.slots) := by
  refine MetFree.of_bodySF (plainFor_of_name pn_com_example_links_to_ranks_linkstoranks_LongListViewPinLaw) hisR ?_
  intro p e s m args below meth c s₁ Bd hml0 hP hK
  obtain ⟨rfl, hZ, hh⟩ := hP
  have hx := Bd.exec
  have hby := Bd.bytes
  have hml : c.maxLocals = 14 := hml0
  have hown : s.vm.findClass cs3 = some m.cls := findClass_of_methodNamed Bd.named
  have hnm := (name_of_methodNamed Bd.named Bd.method).1
  have X0 : Stand p l e room_1 s m #[(.int x0), (.long y1), (.long y2), (.long y3), (.long y4)] below meth c s₁ [] 0 0 := Stand.of_body Bd
  have e0 : s₁.heap = h0 := by rw [← hh, Bd.state]; rfl
  have N0 := Fr.nil n0
  have pre0 : ∀ t, Steps p.tables e below (s₁.setTop (mkF m 0 #[.val (.int x0), .val (.long y1), .second, .val (.long y2), .second, .val (.long y3), .second, .val (.long y4), .second, .unset, .unset, .unset, .unset, .unset] [])) t → Steps p.tables e below (s₁.setTop (entryFrame m #[(.int x0), (.long y1), (.long y2), (.long y3), (.long y4)] maxLocals)) t := fun t k => castTop (by first | (simp [entryFrame, mkF, argsToLocals, Value.category, maxLocals]; done) | rfl) k
  obtain ⟨T1, h1, X1, e1, E1, A1, D1, -, st1⟩ := newO X0 hx hZ hown (ww hw 0 rfl) (ww hw 1 rfl) (ww hw 2 rfl) e0 (g := (mkF m 0 #[.val (.int x0), .val (.long y1), .second, .val (.long y2), .second, .val (.long y3), .second, .val (.long y4), .second, .unset, .unset, .unset, .unset, .unset] [])) rfl (hb hby at_0) (by decide) (by decide)
  obtain ⟨b1, g1⟩ : ∃ z, z = h0.size := ⟨_, rfl⟩
  rw [← g1] at A1 D1 st1
  have f2 : Fld Z h1 b1 cs0 "chunks" "[[J" .null := D1 (Or.inl (ww hw 22 rfl)) (ty := (.array (.array .long))) (by decide)
  have f3 : Fld Z h1 b1 cs0 "filling" "[J" .null := D1 (Or.inl (ww hw 24 rfl)) (ty := (.array .long)) (by decide)
  have f4 : Fld Z h1 b1 cs0 "items" "Ljava/lang/String;" .null := D1 (Or.inr (ww hw 26 rfl)) (ty := (.object "java/lang/String")) (by decide)
  have f5 : Fld Z h1 b1 cs0 "size" "I" (.int (0 : Int32)) := D1 (Or.inl (ww hw 36 rfl)) (ty := .int) (by decide)
  have f6 : Fld Z h1 b1 cs0 "filled" "I" (.int (0 : Int32)) := D1 (Or.inl (ww hw 51 rfl)) (ty := .int) (by decide)
  have hS7 := (State.WarmedH.refl s).since 0
  have hstr : ∀ a ∈ Bundle.stringAtoms, a.before a0 Z = true := fun a q => hw a (own_str a q)
  obtain ⟨a8, T8, h8, kk8, X8, e8, E8, hS8, hk8, hZ8, ho8, st8⟩ := ldcS (s := s) (vm0 := s.vm) X1 hx hZ hown (ww hw 3 rfl) hstr e1 hS7 (Nat.zero_le _) (g := (mkF m 4 #[.val (.int x0), .val (.long y1), .second, .val (.long y2), .second, .val (.long y3), .second, .val (.long y4), .second, .unset, .unset, .unset, .unset, .unset] [(.ref b1), (.ref b1)])) rfl (hb hby at_4) (n := 20) (by decide) (by decide) (by decide) (by decide)
  have f9 := (A1.ext E8)
  have f10 := (f2.ext E8)
  have zs11 := E8.1
  have zz12 : n0 ≤ h0.size := by rw [← O0.1]; exact O0.2.1
  have g13 := Nat.le_trans zz12 (Nat.le_of_eq g1.symm)
  have f14 := (f3.ext E8)
  have f15 := (f4.ext E8)
  have f16 := (f5.ext E8)
  have f17 := (f6.ext E8)
  have o18 := Old.ext O0 E1
  have o19 := Old.ext o18 E8
  obtain ⟨_, _, ⟨T20, L20, k20, n20⟩, -, X20, ⟨Lc20, hQ20, l20, y20, z20⟩, st20⟩ := X8.specialBack hx (y := (⟨cs0, "<init>", "(Ljava/lang/String;)V"⟩ : MethodName)) rfl ho8 (mvT hZ8 (ww hw 11 rfl)) (mvT hZ8 (ww hw 12 rfl)) (mvT hZ8 (ww hw 13 rfl)) (by decide) (backOf (W := 1) (rm1_1 l Z a0 hw [] b1 a8 h8 n0 o19 f9 f10 (Nat.lt_of_lt_of_le A1.lt zs11) g13 f14 f15 f16 f17) hZ8 (ww hw 13 rfl) (ww hw 2 rfl) (by decide) (by decide)) (g := (mkF m 6 #[.val (.int x0), .val (.long y1), .second, .val (.long y2), .second, .val (.long y3), .second, .val (.long y4), .second, .unset, .unset, .unset, .unset, .unset] [(.ref a8), (.ref b1), (.ref b1)])) rfl (by rw [hml]; rfl) (Steps.refl _) (a := b1) (argsL := [(.ref a8)]) (rest := [(.ref b1)]) (lenOf pd__Ljava_lang_String__V rfl) rfl (by show 2 * 0 + _ ≤ _; exact Nat.le_of_eq rfl) (hb hby at_6) (fun _ _ => ⟨rfl, e8, (by decide : 3 + 2 ≤ _), (by decide : 29 + 1025 ≤ _)⟩)
  dsimp only [Pt.U, Pt.locs, Pt.cells, Pt.slots] at X20 l20 y20 z20 st20 hQ20
  subst l20 y20 z20
  obtain ⟨b20_0, b20_1, k20_0, k20_1, rfl, N20q, K20, f21, f22, f23, f24, f25, f26, f27, f28, f29, f30, f31, f32, f33⟩ := hQ20
  have N20 := Fr.app N0 N20q
  have f35 := (f9.keep K20)
  have n36 := Nat.ne_of_lt (Nat.lt_of_lt_of_le (Nat.lt_of_lt_of_le A1.lt zs11) f30)
  have zz37 : n0 ≤ h8.size := by rw [← o19.1]; exact o19.2.1
  have g38 := Nat.le_trans zz37 f30
  have o39 := Old.keep o19 K20 (allS g13 all0)
  obtain ⟨cqq41, kqq41, qq41a, qq41b, qq41c⟩ := isOf hZ8 rfl f35
  obtain ⟨_, _, ⟨T40, L40, k40, n40⟩, -, X40, ⟨Lc40, hQ40, l40, y40, z40⟩, st40⟩ := X20.virtualBack hx (y := (⟨cs0, "add", "(J)V"⟩ : MethodName)) (z := (⟨cs0, "add", "(J)V"⟩ : MethodName)) ho8 (mvT hZ8 (ww hw 45 rfl)) (mvT hZ8 (ww hw 46 rfl)) (notFace_of_selects (args := #[]) (mvT hZ8 (ww hw 48 rfl))) (mvT hZ8 (ww hw 48 rfl)) (mvT hZ8 (ww hw 47 rfl)) (by decide) (backOf (W := 0) (rm5_1 l Z a0 hw [] b1 y1 b20_1 k20_1 b20_0 a8 T20.heap n0 o39 f25 f22 f31 f35 g13 (Ne.symm n36) g38 f24 f21 f23) hZ8 (ww hw 49 rfl) (ww hw 2 rfl) (by decide) (by decide)) qq41a qq41c (g := (mkF m 24 #[.val (.int x0), .val (.long y1), .second, .val (.long y2), .second, .val (.long y3), .second, .val (.long y4), .second, .val (.ref b1), .val (.int (1 : Int32)), .unset, .unset, .unset] [(.long y1), (.ref b1)])) rfl (by rw [hml]; rfl) (Steps.refl _) (argsL := [(.long y1)]) (rest := []) (lenOf pd__J_V rfl) rfl (by show 2 * 0 + _ ≤ _; exact Nat.le_of_eq rfl) (hb hby at_24) (fun _ _ => ⟨rfl, rfl, (by decide : 5 + 0 ≤ _), (by decide : 1054 + 0 ≤ _)⟩)
  dsimp only [Pt.U, Pt.locs, Pt.cells, Pt.slots] at X40 l40 y40 z40 st40 hQ40
  subst l40 y40 z40
  obtain ⟨rfl, N40q, K40, f42, f43, f44, f45, f46, f47⟩ := hQ40
  have N40 := Fr.app N20 N40q
  have o48 := Old.keep o39 K40 (allS g13 (allS g38 all0))
  have f50 := (f35.keep K40)
  obtain ⟨cqq51, kqq51, qq51a, qq51b, qq51c⟩ := isOf hZ8 rfl f50
  obtain ⟨_, _, ⟨T49, L49, k49, n49⟩, -, X49, ⟨Lc49, hQ49, l49, y49, z49⟩, st49⟩ := X40.virtualBack hx (y := (⟨cs0, "view", cs2⟩ : MethodName)) (z := (⟨cs0, "view", cs2⟩ : MethodName)) ho8 (mvT hZ8 (ww hw 27 rfl)) (mvT hZ8 (ww hw 28 rfl)) (notFace_of_selects (args := #[]) (mvT hZ8 (ww hw 30 rfl))) (mvT hZ8 (ww hw 30 rfl)) (mvT hZ8 (ww hw 29 rfl)) (by decide) (backOf (W := 0) (rm3_2 l Z a0 hw [] b1 b20_0 T40.heap n0 o48 f45 f44) hZ8 (ww hw 31 rfl) (ww hw 2 rfl) (by decide) (by decide)) qq51a qq51c (g := (mkF m 54 #[.val (.int x0), .val (.long y1), .second, .val (.long y2), .second, .val (.long y3), .second, .val (.long y4), .second, .val (.ref b1), .val (.int (1 : Int32)), .unset, .unset, .unset] [(.ref b1)])) rfl (by rw [hml]; rfl) (Steps.refl _) (argsL := []) (rest := []) (lenOf pd___Lcom_example_links_to_ranks_linkstoranks_LongList_View_ rfl) rfl (by show 2 * 0 + _ ≤ _; exact Nat.le_of_eq rfl) (hb hby at_54) (fun _ _ => ⟨rfl, rfl, (by decide : 5 + 1 ≤ _), (by decide : 1054 + 2 ≤ _)⟩)
  dsimp only [Pt.U, Pt.locs, Pt.cells, Pt.slots] at X49 l49 y49 z49 st49 hQ49
  subst l49 y49 z49
  obtain ⟨b49_0, rfl, N49q, K49, f52, f53, f54, f55⟩ := hQ49
  have N49 := Fr.app N40 N49q
  have f56 := (f42.keep K49 nin0)
  have f57 := (f43.keep K49 nin0)
  have f58 := (f47.keep K49 nin0)
  have f59 := (f50.keep K49)
  have f60 := (f44.keep K49 nin0)
  have f61 := (f45.keep K49 nin0)
  have f62 := (f46.keep K49 nin0)
  have o63 := Old.keep o48 K49 all0
  obtain ⟨cqq65, kqq65, qq65a, qq65b, qq65c⟩ := isOf hZ8 rfl f59
  obtain ⟨_, _, ⟨T64, L64, k64, n64⟩, -, X64, ⟨Lc64, hQ64, l64, y64, z64⟩, st64⟩ := X49.virtualBack hx (y := (⟨cs0, "add", "(J)V"⟩ : MethodName)) (z := (⟨cs0, "add", "(J)V"⟩ : MethodName)) ho8 (mvT hZ8 (ww hw 45 rfl)) (mvT hZ8 (ww hw 46 rfl)) (notFace_of_selects (args := #[]) (mvT hZ8 (ww hw 48 rfl))) (mvT hZ8 (ww hw 48 rfl)) (mvT hZ8 (ww hw 47 rfl)) (by decide) (backOf (W := 0) (rm5_2 l Z a0 hw [] b1 y4 b20_1 k20_1 y1 b20_0 a8 T49.heap n0 o63 f56 f57 f58 f59 g13 (Ne.symm n36) g38 f60 f61 f62) hZ8 (ww hw 49 rfl) (ww hw 2 rfl) (by decide) (by decide)) qq65a qq65c (g := (mkF m 63 #[.val (.int x0), .val (.long y1), .second, .val (.long y2), .second, .val (.long y3), .second, .val (.long y4), .second, .val (.ref b1), .val (.int (1 : Int32)), .val (.ref b49_0), .unset, .unset] [(.long y4), (.ref b1)])) rfl (by rw [hml]; rfl) (Steps.refl _) (argsL := [(.long y4)]) (rest := []) (lenOf pd__J_V rfl) rfl (by show 2 * 0 + _ ≤ _; exact Nat.le_of_eq rfl) (hb hby at_63) (fun _ _ => ⟨rfl, rfl, (by decide : 6 + 0 ≤ _), (by decide : 1056 + 0 ≤ _)⟩)
  dsimp only [Pt.U, Pt.locs, Pt.cells, Pt.slots] at X64 l64 y64 z64 st64 hQ64
  subst l64 y64 z64
  obtain ⟨rfl, N64q, K64, f66, f67, f68, f69, f70, f71⟩ := hQ64
  have N64 := Fr.app N49 N64q
  have o72 := Old.keep o63 K64 (allS g13 (allS g38 all0))
  have f74 := (f59.keep K64)
  obtain ⟨cqq75, kqq75, qq75a, qq75b, qq75c⟩ := isOf hZ8 rfl f74
  obtain ⟨_, _, ⟨T73, L73, k73, n73⟩, -, X73, ⟨Lc73, hQ73, l73, y73, z73⟩, st73⟩ := X64.virtualBack hx (y := (⟨cs0, "view", cs2⟩ : MethodName)) (z := (⟨cs0, "view", cs2⟩ : MethodName)) ho8 (mvT hZ8 (ww hw 27 rfl)) (mvT hZ8 (ww hw 28 rfl)) (notFace_of_selects (args := #[]) (mvT hZ8 (ww hw 30 rfl))) (mvT hZ8 (ww hw 30 rfl)) (mvT hZ8 (ww hw 29 rfl)) (by decide) (backOf (W := 0) (rm3_3 l Z a0 hw [] b1 b20_0 T64.heap n0 o72 f69 f68) hZ8 (ww hw 31 rfl) (ww hw 2 rfl) (by decide) (by decide)) qq75a qq75c (g := (mkF m 68 #[.val (.int x0), .val (.long y1), .second, .val (.long y2), .second, .val (.long y3), .second, .val (.long y4), .second, .val (.ref b1), .val (.int (1 : Int32)), .val (.ref b49_0), .unset, .unset] [(.ref b1)])) rfl (by rw [hml]; rfl) (Steps.refl _) (argsL := []) (rest := []) (lenOf pd___Lcom_example_links_to_ranks_linkstoranks_LongList_View_ rfl) rfl (by show 2 * 0 + _ ≤ _; exact Nat.le_of_eq rfl) (hb hby at_68) (fun _ _ => ⟨rfl, rfl, (by decide : 6 + 1 ≤ _), (by decide : 1056 + 2 ≤ _)⟩)
  dsimp only [Pt.U, Pt.locs, Pt.cells, Pt.slots] at X73 l73 y73 z73 st73 hQ73
  subst l73 y73 z73
  obtain ⟨b73_0, rfl, N73q, K73, f76, f77, f78, f79⟩ := hQ73
  have N73 := Fr.app N64 N73q
  have zs80 := K40.1
  have n81 := Nat.ne_of_lt (Nat.lt_of_lt_of_le (Nat.lt_of_lt_of_le f31.lt zs80) f52)
  have zs82 := Nat.le_trans zs11 K20.1
  have zs83 := Nat.le_trans zs82 K40.1
  have n84 := Nat.ne_of_lt (Nat.lt_of_lt_of_le (Nat.lt_of_lt_of_le A1.lt zs83) f52)
  have f85 := ((f55.keep K64 (ninS (Ne.symm n84) (ninS (Ne.symm n81) nin0))).keep K73 nin0)
  have o86 := Old.keep o72 K73 all0
  have f88 := ((f53.keep K64).keep K73)
  obtain ⟨cqq89, kqq89, qq89a, qq89b, qq89c⟩ := isOf hZ8 rfl f88
  obtain ⟨_, _, ⟨T87, L87, k87, n87⟩, -, X87, ⟨Lc87, hQ87, l87, y87, z87⟩, st87⟩ := X73.virtualBack hx (y := (⟨cs1, "size", "()I"⟩ : MethodName)) (z := (⟨cs1, "size", "()I"⟩ : MethodName)) ho8 (mvT hZ8 (ww hw 52 rfl)) (mvT hZ8 (ww hw 53 rfl)) (notFace_of_selects (args := #[]) (mvT hZ8 (ww hw 55 rfl))) (mvT hZ8 (ww hw 55 rfl)) (mvT hZ8 (ww hw 54 rfl)) (by decide) (backOf (W := 0) (rm6_2 l Z a0 hw [] b49_0 T73.heap n0 o86 f85) hZ8 (ww hw 56 rfl) (ww hw 34 rfl) (by decide) (by decide)) qq89a qq89c (g := (mkF m 75 #[.val (.int x0), .val (.long y1), .second, .val (.long y2), .second, .val (.long y3), .second, .val (.long y4), .second, .val (.ref b1), .val (.int (1 : Int32)), .val (.ref b49_0), .val (.ref b73_0), .unset] [(.ref b49_0)])) rfl (by rw [hml]; rfl) (Steps.refl _) (argsL := []) (rest := []) (lenOf pd___I rfl) rfl (by show 2 * 0 + _ ≤ _; exact Nat.le_of_eq rfl) (hb hby at_75) (fun _ _ => ⟨rfl, rfl, (by decide : 7 + 0 ≤ _), (by decide : 1058 + 0 ≤ _)⟩)
  dsimp only [Pt.U, Pt.locs, Pt.cells, Pt.slots] at X87 l87 y87 z87 st87 hQ87
  subst l87 y87 z87
  obtain ⟨rfl, N87q, E87⟩ := hQ87
  have N87 := Fr.app N73 N87q
  obtain ⟨cqq91, kqq91, qq91a, qq91b, qq91c⟩ := isOf hZ8 E87 f77
  obtain ⟨_, _, ⟨T90, L90, k90, n90⟩, -, X90, ⟨Lc90, hQ90, l90, y90, z90⟩, st90⟩ := X87.virtualBack hx (y := (⟨cs1, "size", "()I"⟩ : MethodName)) (z := (⟨cs1, "size", "()I"⟩ : MethodName)) ho8 (mvT hZ8 (ww hw 52 rfl)) (mvT hZ8 (ww hw 53 rfl)) (notFace_of_selects (args := #[]) (mvT hZ8 (ww hw 55 rfl))) (mvT hZ8 (ww hw 55 rfl)) (mvT hZ8 (ww hw 54 rfl)) (by decide) (backOf (W := 0) (rm6_3 l Z a0 hw [] b73_0 T73.heap n0 o86 f79) hZ8 (ww hw 56 rfl) (ww hw 34 rfl) (by decide) (by decide)) qq91a qq91c (g := (mkF m 85 #[.val (.int x0), .val (.long y1), .second, .val (.long y2), .second, .val (.long y3), .second, .val (.long y4), .second, .val (.ref b1), .val (.int (1 : Int32)), .val (.ref b49_0), .val (.ref b73_0), .unset] [(.ref b73_0)])) rfl (by rw [hml]; rfl) (Steps.refl _) (argsL := []) (rest := []) (lenOf pd___I rfl) rfl (by show 2 * 0 + _ ≤ _; exact Nat.le_of_eq rfl) (hb hby at_85) (fun _ _ => ⟨rfl, E87, (by decide : 7 + 0 ≤ _), (by decide : 1058 + 0 ≤ _)⟩)
  dsimp only [Pt.U, Pt.locs, Pt.cells, Pt.slots] at X90 l90 y90 z90 st90 hQ90
  subst l90 y90 z90
  obtain ⟨rfl, N90q, E90⟩ := hQ90
  have N90 := Fr.app N87 N90q
  have n92 := Nat.ne_of_lt (Nat.lt_of_lt_of_le (Nat.lt_of_lt_of_le A1.lt zs11) f26)
  have f93 := ((((f27.keep K40 (ninS (Ne.symm n92) (ninS f33 nin0))).keep K49 nin0).keep K64 (ninS (Ne.symm n92) (ninS f33 nin0))).keep K73 nin0)
  have f94 := (f71.keep K73 nin0)
  obtain ⟨cqq96, kqq96, qq96a, qq96b, qq96c⟩ := isOf hZ8 E90 f77
  obtain ⟨_, _, ⟨T95, L95, k95, n95⟩, -, X95, ⟨Lc95, hQ95, l95, y95, z95⟩, st95⟩ := X90.virtualBack hx (y := (⟨cs1, "get", "(I)J"⟩ : MethodName)) (z := (⟨cs1, "get", "(I)J"⟩ : MethodName)) ho8 (mvT hZ8 (ww hw 57 rfl)) (mvT hZ8 (ww hw 58 rfl)) (notFace_of_selects (args := #[]) (mvT hZ8 (ww hw 60 rfl))) (mvT hZ8 (ww hw 60 rfl)) (mvT hZ8 (ww hw 59 rfl)) (by decide) (backOf (W := 0) (rm7_2 l Z a0 hw [] b73_0 b20_0 k20_0 b20_1 k20_1 y1 y4 T73.heap n0 o86 f78 f93 f94) hZ8 (ww hw 61 rfl) (ww hw 34 rfl) (by decide) (by decide)) qq96a qq96c (g := (mkF m 99 #[.val (.int x0), .val (.long y1), .second, .val (.long y2), .second, .val (.long y3), .second, .val (.long y4), .second, .val (.ref b1), .val (.int (1 : Int32)), .val (.ref b49_0), .val (.ref b73_0), .unset] [(.int (1 : Int32)), (.ref b73_0)])) rfl (by rw [hml]; rfl) (Steps.refl _) (argsL := [(.int (1 : Int32))]) (rest := []) (lenOf pd__I_J rfl) rfl (by show 2 * 0 + _ ≤ _; exact Nat.le_of_eq rfl) (hb hby at_99) (fun _ _ => ⟨rfl, E90, (by decide : 7 + 0 ≤ _), (by decide : 1058 + 0 ≤ _)⟩)
  dsimp only [Pt.U, Pt.locs, Pt.cells, Pt.slots] at X95 l95 y95 z95 st95 hQ95
  subst l95 y95 z95
  obtain ⟨rfl, N95q, E95⟩ := hQ95
  have N95 := Fr.app N90 N95q
  have f97 := ((f54.keep K64 (ninS (Ne.symm n84) (ninS (Ne.symm n81) nin0))).keep K73 nin0)
  obtain ⟨cqq99, kqq99, qq99a, qq99b, qq99c⟩ := isOf hZ8 E95 f88
  obtain ⟨_, _, ⟨T98, L98, k98, n98⟩, -, X98, ⟨Lc98, hQ98, l98, y98, z98⟩, st98⟩ := X95.virtualBack hx (y := (⟨cs1, "get", "(I)J"⟩ : MethodName)) (z := (⟨cs1, "get", "(I)J"⟩ : MethodName)) ho8 (mvT hZ8 (ww hw 57 rfl)) (mvT hZ8 (ww hw 58 rfl)) (notFace_of_selects (args := #[]) (mvT hZ8 (ww hw 60 rfl))) (mvT hZ8 (ww hw 60 rfl)) (mvT hZ8 (ww hw 59 rfl)) (by decide) (backOf (W := 0) (rm7_3 l Z a0 hw [] b49_0 b20_0 k20_0 b20_1 k20_1 y1 y4 T73.heap n0 o86 f97 f93 f94) hZ8 (ww hw 61 rfl) (ww hw 34 rfl) (by decide) (by decide)) qq99a qq99c (g := (mkF m 128 #[.val (.int x0), .val (.long y1), .second, .val (.long y2), .second, .val (.long y3), .second, .val (.long y4), .second, .val (.ref b1), .val (.int (1 : Int32)), .val (.ref b49_0), .val (.ref b73_0), .val (.int (1 : Int32))] [(.int (0 : Int32)), (.ref b49_0)])) rfl (by rw [hml]; rfl) (Steps.refl _) (argsL := [(.int (0 : Int32))]) (rest := []) (lenOf pd__I_J rfl) rfl (by show 2 * 0 + _ ≤ _; exact Nat.le_of_eq rfl) (hb hby at_128) (fun _ _ => ⟨rfl, E95, (by decide : 7 + 0 ≤ _), (by decide : 1058 + 0 ≤ _)⟩)
  dsimp only [Pt.U, Pt.locs, Pt.cells, Pt.slots] at X98 l98 y98 z98 st98 hQ98
  subst l98 y98 z98
  obtain ⟨rfl, N98q, E98⟩ := hQ98
  have N98 := Fr.app N95 N98q
  obtain ⟨cqq101, kqq101, qq101a, qq101b, qq101c⟩ := isOf hZ8 E98 f77
  obtain ⟨_, _, ⟨T100, L100, k100, n100⟩, -, X100, ⟨Lc100, hQ100, l100, y100, z100⟩, st100⟩ := X98.virtualBack hx (y := (⟨cs1, "get", "(I)J"⟩ : MethodName)) (z := (⟨cs1, "get", "(I)J"⟩ : MethodName)) ho8 (mvT hZ8 (ww hw 57 rfl)) (mvT hZ8 (ww hw 58 rfl)) (notFace_of_selects (args := #[]) (mvT hZ8 (ww hw 60 rfl))) (mvT hZ8 (ww hw 60 rfl)) (mvT hZ8 (ww hw 59 rfl)) (by decide) (backOf (W := 0) (rm7_3 l Z a0 hw [] b73_0 b20_0 k20_0 b20_1 k20_1 y1 y4 T73.heap n0 o86 f78 f93 f94) hZ8 (ww hw 61 rfl) (ww hw 34 rfl) (by decide) (by decide)) qq101a qq101c (g := (mkF m 139 #[.val (.int x0), .val (.long y1), .second, .val (.long y2), .second, .val (.long y3), .second, .val (.long y4), .second, .val (.ref b1), .val (.int (1 : Int32)), .val (.ref b49_0), .val (.ref b73_0), .val (.int (1 : Int32))] [(.int (0 : Int32)), (.ref b73_0)])) rfl (by rw [hml]; rfl) (Steps.refl _) (argsL := [(.int (0 : Int32))]) (rest := []) (lenOf pd__I_J rfl) rfl (by show 2 * 0 + _ ≤ _; exact Nat.le_of_eq rfl) (hb hby at_139) (fun _ _ => ⟨rfl, E98, (by decide : 7 + 0 ≤ _), (by decide : 1058 + 0 ≤ _)⟩)
  dsimp only [Pt.U, Pt.locs, Pt.cells, Pt.slots] at X100 l100 y100 z100 st100 hQ100
  subst l100 y100 z100
  obtain ⟨rfl, N100q, E100⟩ := hQ100
  have N100 := Fr.app N98 N100q
  have zs102 := K20.1
  have zs103 := Nat.le_trans zs102 K40.1
  have zs104 := Nat.le_trans zs103 K49.1
  have zs105 := Nat.le_trans zs104 K64.1
  have zs106 := Nat.le_trans zs105 K73.1
  obtain ⟨fs, hr, hrun, hended, hend⟩ := leaveW (s := s) (vm₁ := T8.vm) X100 hS8 (by rw [E100]; exact (Nat.le_trans hk8 zs106)) (v := some (.int (1 : Int32))) (fun h => by rw [Bd.returns] at h; cases h)
  refine ⟨_, _, pre0 _ ?_, hrun, hended, _, _, rfl, ?_, hend.1, hend.2.1, hend.2.2.1, hend.2.2.2.mono (by decide) (by decide)⟩
  · show Steps p.tables e below (s₁.setTop (mkF m 0 #[.val (.int x0), .val (.long y1), .second, .val (.long y2), .second, .val (.long y3), .second, .val (.long y4), .second, .unset, .unset, .unset, .unset, .unset] [])) _
    refine st1 _ ?_
    show Steps p.tables e below (T1.setTop (mkF m 3 #[.val (.int x0), .val (.long y1), .second, .val (.long y2), .second, .val (.long y3), .second, .val (.long y4), .second, .unset, .unset, .unset, .unset, .unset] [(.ref b1)])) _
    refine XS.dup X1.here hx rfl (hb hby at_3) rfl rfl ?_
    show Steps p.tables e below (T1.setTop (mkF m 4 #[.val (.int x0), .val (.long y1), .second, .val (.long y2), .second, .val (.long y3), .second, .val (.long y4), .second, .unset, .unset, .unset, .unset, .unset] [(.ref b1), (.ref b1)])) _
    refine st8 _ ?_
    show Steps p.tables e below (T8.setTop (mkF m 6 #[.val (.int x0), .val (.long y1), .second, .val (.long y2), .second, .val (.long y3), .second, .val (.long y4), .second, .unset, .unset, .unset, .unset, .unset] [(.ref a8), (.ref b1), (.ref b1)])) _
    refine st20.trans ?_
    show Steps p.tables e below (T20.setTop (mkF m 9 #[.val (.int x0), .val (.long y1), .second, .val (.long y2), .second, .val (.long y3), .second, .val (.long y4), .second, .unset, .unset, .unset, .unset, .unset] [(.ref b1)])) _
    refine XS.astore X20.here hx rfl (hb hby at_9) rfl rfl (l' := #[.val (.int x0), .val (.long y1), .second, .val (.long y2), .second, .val (.long y3), .second, .val (.long y4), .second, .val (.ref b1), .unset, .unset, .unset, .unset]) rfl ?_
    show Steps p.tables e below (T20.setTop (mkF m 11 #[.val (.int x0), .val (.long y1), .second, .val (.long y2), .second, .val (.long y3), .second, .val (.long y4), .second, .val (.ref b1), .unset, .unset, .unset, .unset] [])) _
    refine XS.iloadN X20.here hx rfl (hb hby at_11) rfl ?_
    show Steps p.tables e below (T20.setTop (mkF m 12 #[.val (.int x0), .val (.long y1), .second, .val (.long y2), .second, .val (.long y3), .second, .val (.long y4), .second, .val (.ref b1), .unset, .unset, .unset, .unset] [(.int x0)])) _
    refine XS.iconst X20.here hx rfl (hb hby at_12) ?_
    show Steps p.tables e below (T20.setTop (mkF m 13 #[.val (.int x0), .val (.long y1), .second, .val (.long y2), .second, .val (.long y3), .second, .val (.long y4), .second, .val (.ref b1), .unset, .unset, .unset, .unset] [(.int (3 : Int32)), (.int x0)])) _
    refine XS.iand X20.here hx rfl (hb hby at_13) rfl ?_
    rw [hc34]
    show Steps p.tables e below (T20.setTop (mkF m 14 #[.val (.int x0), .val (.long y1), .second, .val (.long y2), .second, .val (.long y3), .second, .val (.long y4), .second, .val (.ref b1), .unset, .unset, .unset, .unset] [(.int (1 : Int32))])) _
    refine XS.istore X20.here hx rfl (hb hby at_14) rfl (l' := #[.val (.int x0), .val (.long y1), .second, .val (.long y2), .second, .val (.long y3), .second, .val (.long y4), .second, .val (.ref b1), .val (.int (1 : Int32)), .unset, .unset, .unset]) rfl ?_
    show Steps p.tables e below (T20.setTop (mkF m 16 #[.val (.int x0), .val (.long y1), .second, .val (.long y2), .second, .val (.long y3), .second, .val (.long y4), .second, .val (.ref b1), .val (.int (1 : Int32)), .unset, .unset, .unset] [])) _
    refine XS.iload X20.here hx rfl (hb hby at_16) rfl ?_
    show Steps p.tables e below (T20.setTop (mkF m 18 #[.val (.int x0), .val (.long y1), .second, .val (.long y2), .second, .val (.long y3), .second, .val (.long y4), .second, .val (.ref b1), .val (.int (1 : Int32)), .unset, .unset, .unset] [(.int (1 : Int32))])) _
    refine XS.ifNo X20.here hx rfl (hb hby at_18) rfl ((if0 _ _).trans (tlt (by decide : (0 : Int32) < (1 : Int32))).2.2.2) ?_
    show Steps p.tables e below (T20.setTop (mkF m 21 #[.val (.int x0), .val (.long y1), .second, .val (.long y2), .second, .val (.long y3), .second, .val (.long y4), .second, .val (.ref b1), .val (.int (1 : Int32)), .unset, .unset, .unset] [])) _
    refine XS.aload X20.here hx rfl (hb hby at_21) rfl rfl ?_
    show Steps p.tables e below (T20.setTop (mkF m 23 #[.val (.int x0), .val (.long y1), .second, .val (.long y2), .second, .val (.long y3), .second, .val (.long y4), .second, .val (.ref b1), .val (.int (1 : Int32)), .unset, .unset, .unset] [(.ref b1)])) _
    refine XS.lloadN X20.here hx rfl (hb hby at_23) rfl ?_
    show Steps p.tables e below (T20.setTop (mkF m 24 #[.val (.int x0), .val (.long y1), .second, .val (.long y2), .second, .val (.long y3), .second, .val (.long y4), .second, .val (.ref b1), .val (.int (1 : Int32)), .unset, .unset, .unset] [(.long y1), (.ref b1)])) _
    refine st40.trans ?_
    show Steps p.tables e below (T40.setTop (mkF m 27 #[.val (.int x0), .val (.long y1), .second, .val (.long y2), .second, .val (.long y3), .second, .val (.long y4), .second, .val (.ref b1), .val (.int (1 : Int32)), .unset, .unset, .unset] [])) _
    refine XS.iload X40.here hx rfl (hb hby at_27) rfl ?_
    show Steps p.tables e below (T40.setTop (mkF m 29 #[.val (.int x0), .val (.long y1), .second, .val (.long y2), .second, .val (.long y3), .second, .val (.long y4), .second, .val (.ref b1), .val (.int (1 : Int32)), .unset, .unset, .unset] [(.int (1 : Int32))])) _
    refine XS.iconst X40.here hx rfl (hb hby at_29) ?_
    show Steps p.tables e below (T40.setTop (mkF m 30 #[.val (.int x0), .val (.long y1), .second, .val (.long y2), .second, .val (.long y3), .second, .val (.long y4), .second, .val (.ref b1), .val (.int (1 : Int32)), .unset, .unset, .unset] [(.int (1 : Int32)), (.int (1 : Int32))])) _
    refine XS.icmpYes X40.here hx rfl (pc0 := 30) (pc' := 39) rfl (hb hby at_30) rfl (flt (by decide : ¬ ((1 : Int32) < (1 : Int32)))).2.2.2 (by decide) (by decide) ?_
    show Steps p.tables e below (T40.setTop (mkF m 39 #[.val (.int x0), .val (.long y1), .second, .val (.long y2), .second, .val (.long y3), .second, .val (.long y4), .second, .val (.ref b1), .val (.int (1 : Int32)), .unset, .unset, .unset] [])) _
    refine XS.iload X40.here hx rfl (hb hby at_39) rfl ?_
    show Steps p.tables e below (T40.setTop (mkF m 41 #[.val (.int x0), .val (.long y1), .second, .val (.long y2), .second, .val (.long y3), .second, .val (.long y4), .second, .val (.ref b1), .val (.int (1 : Int32)), .unset, .unset, .unset] [(.int (1 : Int32))])) _
    refine XS.iconst X40.here hx rfl (hb hby at_41) ?_
    show Steps p.tables e below (T40.setTop (mkF m 42 #[.val (.int x0), .val (.long y1), .second, .val (.long y2), .second, .val (.long y3), .second, .val (.long y4), .second, .val (.ref b1), .val (.int (1 : Int32)), .unset, .unset, .unset] [(.int (2 : Int32)), (.int (1 : Int32))])) _
    refine XS.icmpYes X40.here hx rfl (pc0 := 42) (pc' := 52) rfl (hb hby at_42) rfl (flt (by decide : ¬ ((2 : Int32) < (1 : Int32)))).2.2.2 (by decide) (by decide) ?_
    show Steps p.tables e below (T40.setTop (mkF m 52 #[.val (.int x0), .val (.long y1), .second, .val (.long y2), .second, .val (.long y3), .second, .val (.long y4), .second, .val (.ref b1), .val (.int (1 : Int32)), .unset, .unset, .unset] [])) _
    refine XS.aload X40.here hx rfl (hb hby at_52) rfl rfl ?_
    show Steps p.tables e below (T40.setTop (mkF m 54 #[.val (.int x0), .val (.long y1), .second, .val (.long y2), .second, .val (.long y3), .second, .val (.long y4), .second, .val (.ref b1), .val (.int (1 : Int32)), .unset, .unset, .unset] [(.ref b1)])) _
    refine st49.trans ?_
    show Steps p.tables e below (T49.setTop (mkF m 57 #[.val (.int x0), .val (.long y1), .second, .val (.long y2), .second, .val (.long y3), .second, .val (.long y4), .second, .val (.ref b1), .val (.int (1 : Int32)), .unset, .unset, .unset] [(.ref b49_0)])) _
    refine XS.astore X49.here hx rfl (hb hby at_57) rfl rfl (l' := #[.val (.int x0), .val (.long y1), .second, .val (.long y2), .second, .val (.long y3), .second, .val (.long y4), .second, .val (.ref b1), .val (.int (1 : Int32)), .val (.ref b49_0), .unset, .unset]) rfl ?_
    show Steps p.tables e below (T49.setTop (mkF m 59 #[.val (.int x0), .val (.long y1), .second, .val (.long y2), .second, .val (.long y3), .second, .val (.long y4), .second, .val (.ref b1), .val (.int (1 : Int32)), .val (.ref b49_0), .unset, .unset] [])) _
    refine XS.aload X49.here hx rfl (hb hby at_59) rfl rfl ?_
    show Steps p.tables e below (T49.setTop (mkF m 61 #[.val (.int x0), .val (.long y1), .second, .val (.long y2), .second, .val (.long y3), .second, .val (.long y4), .second, .val (.ref b1), .val (.int (1 : Int32)), .val (.ref b49_0), .unset, .unset] [(.ref b1)])) _
    refine XS.lload X49.here hx rfl (hb hby at_61) rfl ?_
    show Steps p.tables e below (T49.setTop (mkF m 63 #[.val (.int x0), .val (.long y1), .second, .val (.long y2), .second, .val (.long y3), .second, .val (.long y4), .second, .val (.ref b1), .val (.int (1 : Int32)), .val (.ref b49_0), .unset, .unset] [(.long y4), (.ref b1)])) _
    refine st64.trans ?_
    show Steps p.tables e below (T64.setTop (mkF m 66 #[.val (.int x0), .val (.long y1), .second, .val (.long y2), .second, .val (.long y3), .second, .val (.long y4), .second, .val (.ref b1), .val (.int (1 : Int32)), .val (.ref b49_0), .unset, .unset] [])) _
    refine XS.aload X64.here hx rfl (hb hby at_66) rfl rfl ?_
    show Steps p.tables e below (T64.setTop (mkF m 68 #[.val (.int x0), .val (.long y1), .second, .val (.long y2), .second, .val (.long y3), .second, .val (.long y4), .second, .val (.ref b1), .val (.int (1 : Int32)), .val (.ref b49_0), .unset, .unset] [(.ref b1)])) _
    refine st73.trans ?_
    show Steps p.tables e below (T73.setTop (mkF m 71 #[.val (.int x0), .val (.long y1), .second, .val (.long y2), .second, .val (.long y3), .second, .val (.long y4), .second, .val (.ref b1), .val (.int (1 : Int32)), .val (.ref b49_0), .unset, .unset] [(.ref b73_0)])) _
    refine XS.astore X73.here hx rfl (hb hby at_71) rfl rfl (l' := #[.val (.int x0), .val (.long y1), .second, .val (.long y2), .second, .val (.long y3), .second, .val (.long y4), .second, .val (.ref b1), .val (.int (1 : Int32)), .val (.ref b49_0), .val (.ref b73_0), .unset]) rfl ?_
    show Steps p.tables e below (T73.setTop (mkF m 73 #[.val (.int x0), .val (.long y1), .second, .val (.long y2), .second, .val (.long y3), .second, .val (.long y4), .second, .val (.ref b1), .val (.int (1 : Int32)), .val (.ref b49_0), .val (.ref b73_0), .unset] [])) _
    refine XS.aload X73.here hx rfl (hb hby at_73) rfl rfl ?_
    show Steps p.tables e below (T73.setTop (mkF m 75 #[.val (.int x0), .val (.long y1), .second, .val (.long y2), .second, .val (.long y3), .second, .val (.long y4), .second, .val (.ref b1), .val (.int (1 : Int32)), .val (.ref b49_0), .val (.ref b73_0), .unset] [(.ref b49_0)])) _
    refine st87.trans ?_
    show Steps p.tables e below (T87.setTop (mkF m 78 #[.val (.int x0), .val (.long y1), .second, .val (.long y2), .second, .val (.long y3), .second, .val (.long y4), .second, .val (.ref b1), .val (.int (1 : Int32)), .val (.ref b49_0), .val (.ref b73_0), .unset] [(.int (1 : Int32))])) _
    refine XS.iload X87.here hx rfl (hb hby at_78) rfl ?_
    show Steps p.tables e below (T87.setTop (mkF m 80 #[.val (.int x0), .val (.long y1), .second, .val (.long y2), .second, .val (.long y3), .second, .val (.long y4), .second, .val (.ref b1), .val (.int (1 : Int32)), .val (.ref b49_0), .val (.ref b73_0), .unset] [(.int (1 : Int32)), (.int (1 : Int32))])) _
    refine XS.icmpNo X87.here hx rfl (hb hby at_80) rfl (teq (rfl : (1 : Int32) = (1 : Int32))).2 ?_
    show Steps p.tables e below (T87.setTop (mkF m 83 #[.val (.int x0), .val (.long y1), .second, .val (.long y2), .second, .val (.long y3), .second, .val (.long y4), .second, .val (.ref b1), .val (.int (1 : Int32)), .val (.ref b49_0), .val (.ref b73_0), .unset] [])) _
    refine XS.aload X87.here hx rfl (hb hby at_83) rfl rfl ?_
    show Steps p.tables e below (T87.setTop (mkF m 85 #[.val (.int x0), .val (.long y1), .second, .val (.long y2), .second, .val (.long y3), .second, .val (.long y4), .second, .val (.ref b1), .val (.int (1 : Int32)), .val (.ref b49_0), .val (.ref b73_0), .unset] [(.ref b73_0)])) _
    refine st90.trans ?_
    show Steps p.tables e below (T90.setTop (mkF m 88 #[.val (.int x0), .val (.long y1), .second, .val (.long y2), .second, .val (.long y3), .second, .val (.long y4), .second, .val (.ref b1), .val (.int (1 : Int32)), .val (.ref b49_0), .val (.ref b73_0), .unset] [(.int (2 : Int32))])) _
    refine XS.iload X90.here hx rfl (hb hby at_88) rfl ?_
    show Steps p.tables e below (T90.setTop (mkF m 90 #[.val (.int x0), .val (.long y1), .second, .val (.long y2), .second, .val (.long y3), .second, .val (.long y4), .second, .val (.ref b1), .val (.int (1 : Int32)), .val (.ref b49_0), .val (.ref b73_0), .unset] [(.int (1 : Int32)), (.int (2 : Int32))])) _
    refine XS.iconst X90.here hx rfl (hb hby at_90) ?_
    show Steps p.tables e below (T90.setTop (mkF m 91 #[.val (.int x0), .val (.long y1), .second, .val (.long y2), .second, .val (.long y3), .second, .val (.long y4), .second, .val (.ref b1), .val (.int (1 : Int32)), .val (.ref b49_0), .val (.ref b73_0), .unset] [(.int (1 : Int32)), (.int (1 : Int32)), (.int (2 : Int32))])) _
    refine XS.iadd X90.here hx rfl (hb hby at_91) rfl ?_
    show Steps p.tables e below (T90.setTop (mkF m 92 #[.val (.int x0), .val (.long y1), .second, .val (.long y2), .second, .val (.long y3), .second, .val (.long y4), .second, .val (.ref b1), .val (.int (1 : Int32)), .val (.ref b49_0), .val (.ref b73_0), .unset] [(.int (2 : Int32)), (.int (2 : Int32))])) _
    refine XS.icmpNo X90.here hx rfl (hb hby at_92) rfl (teq (rfl : (2 : Int32) = (2 : Int32))).2 ?_
    show Steps p.tables e below (T90.setTop (mkF m 95 #[.val (.int x0), .val (.long y1), .second, .val (.long y2), .second, .val (.long y3), .second, .val (.long y4), .second, .val (.ref b1), .val (.int (1 : Int32)), .val (.ref b49_0), .val (.ref b73_0), .unset] [])) _
    refine XS.aload X90.here hx rfl (hb hby at_95) rfl rfl ?_
    show Steps p.tables e below (T90.setTop (mkF m 97 #[.val (.int x0), .val (.long y1), .second, .val (.long y2), .second, .val (.long y3), .second, .val (.long y4), .second, .val (.ref b1), .val (.int (1 : Int32)), .val (.ref b49_0), .val (.ref b73_0), .unset] [(.ref b73_0)])) _
    refine XS.iload X90.here hx rfl (hb hby at_97) rfl ?_
    show Steps p.tables e below (T90.setTop (mkF m 99 #[.val (.int x0), .val (.long y1), .second, .val (.long y2), .second, .val (.long y3), .second, .val (.long y4), .second, .val (.ref b1), .val (.int (1 : Int32)), .val (.ref b49_0), .val (.ref b73_0), .unset] [(.int (1 : Int32)), (.ref b73_0)])) _
    refine st95.trans ?_
    show Steps p.tables e below (T95.setTop (mkF m 102 #[.val (.int x0), .val (.long y1), .second, .val (.long y2), .second, .val (.long y3), .second, .val (.long y4), .second, .val (.ref b1), .val (.int (1 : Int32)), .val (.ref b49_0), .val (.ref b73_0), .unset] [(.long y4)])) _
    refine XS.lload X95.here hx rfl (hb hby at_102) rfl ?_
    show Steps p.tables e below (T95.setTop (mkF m 104 #[.val (.int x0), .val (.long y1), .second, .val (.long y2), .second, .val (.long y3), .second, .val (.long y4), .second, .val (.ref b1), .val (.int (1 : Int32)), .val (.ref b49_0), .val (.ref b73_0), .unset] [(.long y4), (.long y4)])) _
    refine XS.lcmp X95.here hx rfl (hb hby at_104) rfl ?_
    show Steps p.tables e below (T95.setTop (mkF m 105 #[.val (.int x0), .val (.long y1), .second, .val (.long y2), .second, .val (.long y3), .second, .val (.long y4), .second, .val (.ref b1), .val (.int (1 : Int32)), .val (.ref b49_0), .val (.ref b73_0), .unset] [(.int (lcmpW y4 y4))])) _
    refine XS.ifNo X95.here hx rfl (hb hby at_105) rfl ((if0 _ _).trans (teq ((by rw [lcW]; exact (lc_eq _ _).mpr (rfl : y4 = y4)) : (lcmpW y4 y4) = (0 : Int32))).2) ?_
    show Steps p.tables e below (T95.setTop (mkF m 108 #[.val (.int x0), .val (.long y1), .second, .val (.long y2), .second, .val (.long y3), .second, .val (.long y4), .second, .val (.ref b1), .val (.int (1 : Int32)), .val (.ref b49_0), .val (.ref b73_0), .unset] [])) _
    refine XS.iconst X95.here hx rfl (hb hby at_108) ?_
    show Steps p.tables e below (T95.setTop (mkF m 109 #[.val (.int x0), .val (.long y1), .second, .val (.long y2), .second, .val (.long y3), .second, .val (.long y4), .second, .val (.ref b1), .val (.int (1 : Int32)), .val (.ref b49_0), .val (.ref b73_0), .unset] [(.int (1 : Int32))])) _
    refine XS.goto X95.here hx rfl (pc0 := 109) (pc' := 113) rfl (hb hby at_109) (by decide) (by decide) ?_
    show Steps p.tables e below (T95.setTop (mkF m 113 #[.val (.int x0), .val (.long y1), .second, .val (.long y2), .second, .val (.long y3), .second, .val (.long y4), .second, .val (.ref b1), .val (.int (1 : Int32)), .val (.ref b49_0), .val (.ref b73_0), .unset] [(.int (1 : Int32))])) _
    refine XS.istore X95.here hx rfl (hb hby at_113) rfl (l' := #[.val (.int x0), .val (.long y1), .second, .val (.long y2), .second, .val (.long y3), .second, .val (.long y4), .second, .val (.ref b1), .val (.int (1 : Int32)), .val (.ref b49_0), .val (.ref b73_0), .val (.int (1 : Int32))]) rfl ?_
    show Steps p.tables e below (T95.setTop (mkF m 115 #[.val (.int x0), .val (.long y1), .second, .val (.long y2), .second, .val (.long y3), .second, .val (.long y4), .second, .val (.ref b1), .val (.int (1 : Int32)), .val (.ref b49_0), .val (.ref b73_0), .val (.int (1 : Int32))] [])) _
    refine XS.iload X95.here hx rfl (hb hby at_115) rfl ?_
    show Steps p.tables e below (T95.setTop (mkF m 117 #[.val (.int x0), .val (.long y1), .second, .val (.long y2), .second, .val (.long y3), .second, .val (.long y4), .second, .val (.ref b1), .val (.int (1 : Int32)), .val (.ref b49_0), .val (.ref b73_0), .val (.int (1 : Int32))] [(.int (1 : Int32))])) _
    refine XS.ifNo X95.here hx rfl (hb hby at_117) rfl ((if0 _ _).trans (tlt (by decide : (0 : Int32) < (1 : Int32))).2.2.2) ?_
    show Steps p.tables e below (T95.setTop (mkF m 120 #[.val (.int x0), .val (.long y1), .second, .val (.long y2), .second, .val (.long y3), .second, .val (.long y4), .second, .val (.ref b1), .val (.int (1 : Int32)), .val (.ref b49_0), .val (.ref b73_0), .val (.int (1 : Int32))] [])) _
    refine XS.iload X95.here hx rfl (hb hby at_120) rfl ?_
    show Steps p.tables e below (T95.setTop (mkF m 122 #[.val (.int x0), .val (.long y1), .second, .val (.long y2), .second, .val (.long y3), .second, .val (.long y4), .second, .val (.ref b1), .val (.int (1 : Int32)), .val (.ref b49_0), .val (.ref b73_0), .val (.int (1 : Int32))] [(.int (1 : Int32))])) _
    refine XS.ifNo X95.here hx rfl (hb hby at_122) rfl ((if0 _ _).trans (feq (by decide : ¬ ((1 : Int32) = (0 : Int32)))).1) ?_
    show Steps p.tables e below (T95.setTop (mkF m 125 #[.val (.int x0), .val (.long y1), .second, .val (.long y2), .second, .val (.long y3), .second, .val (.long y4), .second, .val (.ref b1), .val (.int (1 : Int32)), .val (.ref b49_0), .val (.ref b73_0), .val (.int (1 : Int32))] [])) _
    refine XS.aload X95.here hx rfl (hb hby at_125) rfl rfl ?_
    show Steps p.tables e below (T95.setTop (mkF m 127 #[.val (.int x0), .val (.long y1), .second, .val (.long y2), .second, .val (.long y3), .second, .val (.long y4), .second, .val (.ref b1), .val (.int (1 : Int32)), .val (.ref b49_0), .val (.ref b73_0), .val (.int (1 : Int32))] [(.ref b49_0)])) _
    refine XS.iconst X95.here hx rfl (hb hby at_127) ?_
    show Steps p.tables e below (T95.setTop (mkF m 128 #[.val (.int x0), .val (.long y1), .second, .val (.long y2), .second, .val (.long y3), .second, .val (.long y4), .second, .val (.ref b1), .val (.int (1 : Int32)), .val (.ref b49_0), .val (.ref b73_0), .val (.int (1 : Int32))] [(.int (0 : Int32)), (.ref b49_0)])) _
    refine st98.trans ?_
    show Steps p.tables e below (T98.setTop (mkF m 131 #[.val (.int x0), .val (.long y1), .second, .val (.long y2), .second, .val (.long y3), .second, .val (.long y4), .second, .val (.ref b1), .val (.int (1 : Int32)), .val (.ref b49_0), .val (.ref b73_0), .val (.int (1 : Int32))] [(.long y1)])) _
    refine XS.lloadN X98.here hx rfl (hb hby at_131) rfl ?_
    show Steps p.tables e below (T98.setTop (mkF m 132 #[.val (.int x0), .val (.long y1), .second, .val (.long y2), .second, .val (.long y3), .second, .val (.long y4), .second, .val (.ref b1), .val (.int (1 : Int32)), .val (.ref b49_0), .val (.ref b73_0), .val (.int (1 : Int32))] [(.long y1), (.long y1)])) _
    refine XS.lcmp X98.here hx rfl (hb hby at_132) rfl ?_
    show Steps p.tables e below (T98.setTop (mkF m 133 #[.val (.int x0), .val (.long y1), .second, .val (.long y2), .second, .val (.long y3), .second, .val (.long y4), .second, .val (.ref b1), .val (.int (1 : Int32)), .val (.ref b49_0), .val (.ref b73_0), .val (.int (1 : Int32))] [(.int (lcmpW y1 y1))])) _
    refine XS.ifNo X98.here hx rfl (hb hby at_133) rfl ((if0 _ _).trans (teq ((by rw [lcW]; exact (lc_eq _ _).mpr (rfl : y1 = y1)) : (lcmpW y1 y1) = (0 : Int32))).2) ?_
    show Steps p.tables e below (T98.setTop (mkF m 136 #[.val (.int x0), .val (.long y1), .second, .val (.long y2), .second, .val (.long y3), .second, .val (.long y4), .second, .val (.ref b1), .val (.int (1 : Int32)), .val (.ref b49_0), .val (.ref b73_0), .val (.int (1 : Int32))] [])) _
    refine XS.aload X98.here hx rfl (hb hby at_136) rfl rfl ?_
    show Steps p.tables e below (T98.setTop (mkF m 138 #[.val (.int x0), .val (.long y1), .second, .val (.long y2), .second, .val (.long y3), .second, .val (.long y4), .second, .val (.ref b1), .val (.int (1 : Int32)), .val (.ref b49_0), .val (.ref b73_0), .val (.int (1 : Int32))] [(.ref b73_0)])) _
    refine XS.iconst X98.here hx rfl (hb hby at_138) ?_
    show Steps p.tables e below (T98.setTop (mkF m 139 #[.val (.int x0), .val (.long y1), .second, .val (.long y2), .second, .val (.long y3), .second, .val (.long y4), .second, .val (.ref b1), .val (.int (1 : Int32)), .val (.ref b49_0), .val (.ref b73_0), .val (.int (1 : Int32))] [(.int (0 : Int32)), (.ref b73_0)])) _
    refine st100.trans ?_
    show Steps p.tables e below (T100.setTop (mkF m 142 #[.val (.int x0), .val (.long y1), .second, .val (.long y2), .second, .val (.long y3), .second, .val (.long y4), .second, .val (.ref b1), .val (.int (1 : Int32)), .val (.ref b49_0), .val (.ref b73_0), .val (.int (1 : Int32))] [(.long y1)])) _
    refine XS.lloadN X100.here hx rfl (hb hby at_142) rfl ?_
    show Steps p.tables e below (T100.setTop (mkF m 143 #[.val (.int x0), .val (.long y1), .second, .val (.long y2), .second, .val (.long y3), .second, .val (.long y4), .second, .val (.ref b1), .val (.int (1 : Int32)), .val (.ref b49_0), .val (.ref b73_0), .val (.int (1 : Int32))] [(.long y1), (.long y1)])) _
    refine XS.lcmp X100.here hx rfl (hb hby at_143) rfl ?_
    show Steps p.tables e below (T100.setTop (mkF m 144 #[.val (.int x0), .val (.long y1), .second, .val (.long y2), .second, .val (.long y3), .second, .val (.long y4), .second, .val (.ref b1), .val (.int (1 : Int32)), .val (.ref b49_0), .val (.ref b73_0), .val (.int (1 : Int32))] [(.int (lcmpW y1 y1))])) _
    refine XS.ifNo X100.here hx rfl (hb hby at_144) rfl ((if0 _ _).trans (teq ((by rw [lcW]; exact (lc_eq _ _).mpr (rfl : y1 = y1)) : (lcmpW y1 y1) = (0 : Int32))).2) ?_
    show Steps p.tables e below (T100.setTop (mkF m 147 #[.val (.int x0), .val (.long y1), .second, .val (.long y2), .second, .val (.long y3), .second, .val (.long y4), .second, .val (.ref b1), .val (.int (1 : Int32)), .val (.ref b49_0), .val (.ref b73_0), .val (.int (1 : Int32))] [])) _
    refine XS.iconst X100.here hx rfl (hb hby at_147) ?_
    show Steps p.tables e below (T100.setTop (mkF m 148 #[.val (.int x0), .val (.long y1), .second, .val (.long y2), .second, .val (.long y3), .second, .val (.long y4), .second, .val (.ref b1), .val (.int (1 : Int32)), .val (.ref b49_0), .val (.ref b73_0), .val (.int (1 : Int32))] [(.int (1 : Int32))])) _
    refine XS.goto X100.here hx rfl (pc0 := 148) (pc' := 152) rfl (hb hby at_148) (by decide) (by decide) ?_
    show Steps p.tables e below (T100.setTop (mkF m 152 #[.val (.int x0), .val (.long y1), .second, .val (.long y2), .second, .val (.long y3), .second, .val (.long y4), .second, .val (.ref b1), .val (.int (1 : Int32)), .val (.ref b49_0), .val (.ref b73_0), .val (.int (1 : Int32))] [(.int (1 : Int32))])) _
    refine XS.istore X100.here hx rfl (hb hby at_152) rfl (l' := #[.val (.int x0), .val (.long y1), .second, .val (.long y2), .second, .val (.long y3), .second, .val (.long y4), .second, .val (.ref b1), .val (.int (1 : Int32)), .val (.ref b49_0), .val (.ref b73_0), .val (.int (1 : Int32))]) rfl ?_
    show Steps p.tables e below (T100.setTop (mkF m 154 #[.val (.int x0), .val (.long y1), .second, .val (.long y2), .second, .val (.long y3), .second, .val (.long y4), .second, .val (.ref b1), .val (.int (1 : Int32)), .val (.ref b49_0), .val (.ref b73_0), .val (.int (1 : Int32))] [])) _
    refine XS.iload X100.here hx rfl (hb hby at_154) rfl ?_
    show Steps p.tables e below (T100.setTop (mkF m 156 #[.val (.int x0), .val (.long y1), .second, .val (.long y2), .second, .val (.long y3), .second, .val (.long y4), .second, .val (.ref b1), .val (.int (1 : Int32)), .val (.ref b49_0), .val (.ref b73_0), .val (.int (1 : Int32))] [(.int (1 : Int32))])) _
    refine XS.iconst X100.here hx rfl (hb hby at_156) ?_
    show Steps p.tables e below (T100.setTop (mkF m 157 #[.val (.int x0), .val (.long y1), .second, .val (.long y2), .second, .val (.long y3), .second, .val (.long y4), .second, .val (.ref b1), .val (.int (1 : Int32)), .val (.ref b49_0), .val (.ref b73_0), .val (.int (1 : Int32))] [(.int (1 : Int32)), (.int (1 : Int32))])) _
    refine XS.icmpYes X100.here hx rfl (pc0 := 157) (pc' := 183) rfl (hb hby at_157) rfl (flt (by decide : ¬ ((1 : Int32) < (1 : Int32)))).2.2.2 (by decide) (by decide) ?_
    show Steps p.tables e below (T100.setTop (mkF m 183 #[.val (.int x0), .val (.long y1), .second, .val (.long y2), .second, .val (.long y3), .second, .val (.long y4), .second, .val (.ref b1), .val (.int (1 : Int32)), .val (.ref b49_0), .val (.ref b73_0), .val (.int (1 : Int32))] [])) _
    refine XS.iload X100.here hx rfl (hb hby at_183) rfl ?_
    show Steps p.tables e below (T100.setTop (mkF m 185 #[.val (.int x0), .val (.long y1), .second, .val (.long y2), .second, .val (.long y3), .second, .val (.long y4), .second, .val (.ref b1), .val (.int (1 : Int32)), .val (.ref b49_0), .val (.ref b73_0), .val (.int (1 : Int32))] [(.int (1 : Int32))])) _
    refine XS.iconst X100.here hx rfl (hb hby at_185) ?_
    show Steps p.tables e below (T100.setTop (mkF m 186 #[.val (.int x0), .val (.long y1), .second, .val (.long y2), .second, .val (.long y3), .second, .val (.long y4), .second, .val (.ref b1), .val (.int (1 : Int32)), .val (.ref b49_0), .val (.ref b73_0), .val (.int (1 : Int32))] [(.int (2 : Int32)), (.int (1 : Int32))])) _
    refine XS.icmpYes X100.here hx rfl (pc0 := 186) (pc' := 213) rfl (hb hby at_186) rfl (flt (by decide : ¬ ((2 : Int32) < (1 : Int32)))).2.2.2 (by decide) (by decide) ?_
    show Steps p.tables e below (T100.setTop (mkF m 213 #[.val (.int x0), .val (.long y1), .second, .val (.long y2), .second, .val (.long y3), .second, .val (.long y4), .second, .val (.ref b1), .val (.int (1 : Int32)), .val (.ref b49_0), .val (.ref b73_0), .val (.int (1 : Int32))] [])) _
    refine XS.iload X100.here hx rfl (hb hby at_213) rfl ?_
    show Steps p.tables e below (T100.setTop (mkF m 215 #[.val (.int x0), .val (.long y1), .second, .val (.long y2), .second, .val (.long y3), .second, .val (.long y4), .second, .val (.ref b1), .val (.int (1 : Int32)), .val (.ref b49_0), .val (.ref b73_0), .val (.int (1 : Int32))] [(.int (1 : Int32))])) _
    exact retN X100 hx (t := .boolean) Bd.returns (by simp) (hb hby at_215) hr
  · show Q0_2 Z x0 y1 y2 y3 y4 h0 n0 _ T100.heap _
    rw [E100]
    exact ⟨rfl, N100⟩
def Q5_3 (Z : State) (r0 : Addr) (y1 : Int64) (r2 : Addr) (c3 : ClassId) (y4 : Int64) (y5 : Int64) (r6 : Addr) (r7 : Addr) (h0 : Heap) (n0 : Nat) (v : Option Value) (h : Heap) (L : List Loc) : Prop := v = none ∧ Fr n0 L ∧ Keep h0 h [r0, r2] ∧ Fld Z h r0 cs0 "filled" "I" (.int (3 : Int32)) ∧ Fld Z h r0 cs0 "filling" "[J" (.ref r2) ∧ Fld Z h r0 cs0 "size" "I" (.int (3 : Int32)) ∧ Fld Z h r0 cs0 "chunks" "[[J" (.ref r6) ∧ Fld Z h r0 cs0 "items" "Ljava/lang/String;" (.ref r7) ∧ Arv Z h r2 c3 .long (1024 : Int32) [(.long y4), (.long y5), (.long y1), (.long (0 : Int64)), (.long (0 : Int64)), (.long (0 : Int64)), (.long (0 : Int64)), (.long (0 : Int64))] (.long (0 : Int64))
set_option maxRecDepth 65536 in
set_option maxHeartbeats 40000000 in
theorem rm5_3 (l : Launch) (Z : State) (a0 : Array Value) (hw : ∀ d ∈ tables_1, d.before a0 Z = true) (ws : List Jvm.Cond) (r0 : Addr) (y1 : Int64) (r2 : Addr) (c3 : ClassId) (y4 : Int64) (y5 : Int64) (r6 : Addr) (r7 : Addr) (h0 : Heap) (n0 : Nat) (O0 : Old Z n0 h0) (f1 : Fld Z h0 r0 cs0 "filled" "I" (.int (2 : Int32))) (f3 : Fld Z h0 r0 cs0 "filling" "[J" (.ref r2)) (f5 : Arv Z h0 r2 c3 .long (1024 : Int32) [(.long y4), (.long y5), (.long (0 : Int64)), (.long (0 : Int64)), (.long (0 : Int64)), (.long (0 : Int64)), (.long (0 : Int64)), (.long (0 : Int64))] (.long (0 : Int64))) (f9 : Exa Z h0 r0 cs0) (g10 : n0 ≤ r0) (n12 : r2 ≠ r0) (g15 : n0 ≤ r2) (f17 : Fld Z h0 r0 cs0 "size" "I" (.int (2 : Int32))) (f22 : Fld Z h0 r0 cs0 "chunks" "[[J" (.ref r6)) (f24 : Fld Z h0 r0 cs0 "items" "Ljava/lang/String;" (.ref r7)) :
    MetFree l (⟨cs0, "add", "(J)V"⟩ : MethodName) (head1 (Jvm.Cond.code (⟨cs0, "add", "(J)V"⟩ : MethodName) prog_13_method_2_code 3 none :: ws) ({ frames := 0, cells := 0, slots := 0, locals := 0 } : Room)) (fun a U => a = #[(.ref r0), (.long y1)] ∧ Z.Warmed39 U.vm ∧ U.heap = h0) (fun _ _ _ _ _ => True) (fun _ U o U' => ∃ v L, o = .returned v ∧ Q5_3 Z r0 y1 r2 c3 y4 y5 r6 r7 h0 n0 v U'.heap L ∧ FrameEnd U o U' L ({ frames := 0, cells := 0, slots := 0, locals := 0 } : Room).cells ({ frames := 0, cells := 0, slots := 0, locals := 0 } : Room).slots) := by
  refine MetFree.of_bodySF (plainFor_of_name pn_com_example_links_to_ranks_linkstoranks_LongList) hisR ?_
  intro p e s m args below meth c s₁ Bd hml0 hP hK
  obtain ⟨rfl, hZ, hh⟩ := hP
  have hx := Bd.exec
  have hby := Bd.bytes
  have hml : c.maxLocals = 3 := hml0
  have hown : s.vm.findClass cs0 = some m.cls := findClass_of_methodNamed Bd.named
  have hnm := (name_of_methodNamed Bd.named Bd.method).1
  have X0 : Stand p l e ({ frames := 0, cells := 0, slots := 0, locals := 0 } : Room) s m #[(.ref r0), (.long y1)] below meth c s₁ [] 0 0 := Stand.of_body Bd
  have e0 : s₁.heap = h0 := by rw [← hh, Bd.state]; rfl
  have N0 := Fr.nil n0
  have pre0 : ∀ t, Steps p.tables e below (s₁.setTop (mkF m 0 #[.val (.ref r0), .val (.long y1), .second] [])) t → Steps p.tables e below (s₁.setTop (entryFrame m #[(.ref r0), (.long y1)] 3)) t := fun t k => castTop (by first | (simp [entryFrame, mkF, argsToLocals, Value.category]; done) | rfl) k
  obtain ⟨T2, X2, e2, st2⟩ := getF X0 hx hZ hown (host := "") (Or.inl (ww hw 50 rfl)) Via.refl e0 f1 (g := (mkF m 1 #[.val (.ref r0), .val (.long y1), .second] [(.ref r0)])) rfl rfl (hb hby d5_1)
  obtain ⟨T4, X4, e4, st4⟩ := getF X2 hx hZ hown (host := "") (Or.inl (ww hw 23 rfl)) Via.refl e2 f3 (g := (mkF m 5 #[.val (.ref r0), .val (.long y1), .second] [(.ref r0), (.int (2 : Int32))])) rfl rfl (hb hby d5_5)
  obtain ⟨clq6, Arq6, qq6, Sq6, Nq6, Hq6, Gq6⟩ := id f5
  obtain ⟨T7, X7, e7, st7⟩ := getF X4 hx hZ hown (host := "") (Or.inl (ww hw 23 rfl)) Via.refl e4 f3 (g := (mkF m 17 #[.val (.ref r0), .val (.long y1), .second] [(.ref r0)])) rfl rfl (hb hby d5_17)
  obtain ⟨T8, X8, e8, st8⟩ := getF X7 hx hZ hown (host := "") (Or.inl (ww hw 50 rfl)) Via.refl e7 f1 (g := (mkF m 22 #[.val (.ref r0), .val (.long y1), .second] [(.ref r0), (.ref r0), (.ref r2)])) rfl rfl (hb hby d5_22)
  obtain ⟨T11, h11, X11, e11, W11, st11⟩ := putF X8 hx hZ hown (host := "") (Or.inl (ww hw 50 rfl)) Via.refl e8 f1 f9 (Or.inl (ww hw 51 rfl)) (ww hw 1 rfl) (ty := .int) (by decide) rfl rfl (g := (mkF m 28 #[.val (.ref r0), .val (.long y1), .second] [(.int (3 : Int32)), (.ref r0), (.int (2 : Int32)), (.ref r2)])) rfl rfl (hb hby d5_28)
  have Fw11 := f1.same W11
  have N11 := Fr.snoc X11 N0 g10
  have f13 := (f5.other W11 n12)
  obtain ⟨clq14, Arq14, qq14, Sq14, Nq14, Hq14, Gq14⟩ := id f13
  obtain ⟨T16, h16, X16, e16, W16, st16⟩ := stJ X11 hx hZ e11 Arq14 (j := (2 : Int32)) (inb_of Sq14 ⟨(by decide : ¬ ((2 : Int32) < (0 : Int32))), (by decide : (2 : Int32) < (1024 : Int32))⟩) (g := (mkF m 32 #[.val (.ref r0), .val (.long y1), .second] [(.long y1), (.int (2 : Int32)), (.ref r2)])) rfl rfl (hb hby d5_32)
  have V16 : Arv Z h16 r2 c3 .long (1024 : Int32) [(.long y4), (.long y5), (.long y1), (.long (0 : Int64)), (.long (0 : Int64)), (.long (0 : Int64)), (.long (0 : Int64)), (.long (0 : Int64))] (.long (0 : Int64)) := Arv.set Arq14 qq14 Sq14 Nq14 Hq14 Gq14 rfl W16 2 rfl (Nat.le_of_ble_eq_true rfl)
  have N16 := Fr.snoc X16 N11 g15
  have f18 := ((f17.other W11 (Or.inr (slot_ne (Or.inl (ww hw 36 rfl)) (Or.inl (ww hw 51 rfl)) (by decide) (t := .int) (t' := .int) (by decide) (by decide)))).other W16 (Or.inl (Ne.symm n12)))
  obtain ⟨T19, X19, e19, st19⟩ := getF X16 hx hZ hown (host := "") (Or.inl (ww hw 35 rfl)) Via.refl e16 f18 (g := (mkF m 35 #[.val (.ref r0), .val (.long y1), .second] [(.ref r0), (.ref r0)])) rfl rfl (hb hby d5_35)
  have f20 := ((f9.wr W11).wr W16)
  obtain ⟨T21, h21, X21, e21, W21, st21⟩ := putF X19 hx hZ hown (host := "") (Or.inl (ww hw 35 rfl)) Via.refl e19 f18 f20 (Or.inl (ww hw 36 rfl)) (ww hw 1 rfl) (ty := .int) (by decide) rfl rfl (g := (mkF m 40 #[.val (.ref r0), .val (.long y1), .second] [(.int (3 : Int32)), (.ref r0)])) rfl rfl (hb hby d5_40)
  have Fw21 := f18.same W21
  have N21 := Fr.snoc X21 N16 g10
  have f23 := (((f22.other W11 (Or.inr (slot_ne (Or.inl (ww hw 22 rfl)) (Or.inl (ww hw 51 rfl)) (by decide) (t := (.array (.array .long))) (t' := .int) (by decide) (by decide)))).other W16 (Or.inl (Ne.symm n12))).other W21 (Or.inr (slot_ne (Or.inl (ww hw 22 rfl)) (Or.inl (ww hw 36 rfl)) (by decide) (t := (.array (.array .long))) (t' := .int) (by decide) (by decide))))
  have f25 := (((f24.other W11 (Or.inr (slot_ne (Or.inr (ww hw 26 rfl)) (Or.inl (ww hw 51 rfl)) (by decide) (t := (.object "java/lang/String")) (t' := .int) (by decide) (by decide)))).other W16 (Or.inl (Ne.symm n12))).other W21 (Or.inr (slot_ne (Or.inr (ww hw 26 rfl)) (Or.inl (ww hw 36 rfl)) (by decide) (t := (.object "java/lang/String")) (t' := .int) (by decide) (by decide))))
  have f26 := ((Fw11.other W16 (Or.inl (Ne.symm n12))).other W21 (Or.inr (slot_ne (Or.inl (ww hw 51 rfl)) (Or.inl (ww hw 36 rfl)) (by decide) (t := .int) (t' := .int) (by decide) (by decide))))
  have f27 := (((f3.other W11 (Or.inr (slot_ne (Or.inl (ww hw 24 rfl)) (Or.inl (ww hw 51 rfl)) (by decide) (t := (.array .long)) (t' := .int) (by decide) (by decide)))).other W16 (Or.inl (Ne.symm n12))).other W21 (Or.inr (slot_ne (Or.inl (ww hw 24 rfl)) (Or.inl (ww hw 36 rfl)) (by decide) (t := (.array .long)) (t' := .int) (by decide) (by decide))))
  have f28 := (V16.other W21 n12)
  have kp29 : Keep h0 h11 [r0, r2] := (Keep.refl h0 [r0, r2]).wr W11 (Or.inl (List.mem_of_getElem? (i := 0) rfl))
  have kp30 : Keep h0 h16 [r0, r2] := kp29.wr W16 (Or.inl (List.mem_of_getElem? (i := 1) rfl))
  have kp31 : Keep h0 h21 [r0, r2] := kp30.wr W21 (Or.inl (List.mem_of_getElem? (i := 0) rfl))
  obtain ⟨fs, hr, hrun, hended, hW, hsame⟩ := X21.leave (v := none) (fun _ => rfl)
  refine ⟨_, _, pre0 _ ?_, hrun, hended, _, _, rfl, ?_, ⟨_, rfl⟩, hW, hsame.mono (by decide) (by decide)⟩
  · show Steps p.tables e below (s₁.setTop (mkF m 0 #[.val (.ref r0), .val (.long y1), .second] [])) _
    refine XS.aloadN X0.here hx rfl (hb hby d5_0) rfl rfl ?_
    show Steps p.tables e below (s₁.setTop (mkF m 1 #[.val (.ref r0), .val (.long y1), .second] [(.ref r0)])) _
    refine st2 _ ?_
    show Steps p.tables e below (T2.setTop (mkF m 4 #[.val (.ref r0), .val (.long y1), .second] [(.int (2 : Int32))])) _
    refine XS.aloadN X2.here hx rfl (hb hby d5_4) rfl rfl ?_
    show Steps p.tables e below (T2.setTop (mkF m 5 #[.val (.ref r0), .val (.long y1), .second] [(.ref r0), (.int (2 : Int32))])) _
    refine st4 _ ?_
    show Steps p.tables e below (T4.setTop (mkF m 8 #[.val (.ref r0), .val (.long y1), .second] [(.ref r2), (.int (2 : Int32))])) _
    refine X4.arraylength hx (by rw [e4]; exact Arq6.1) (State.isArrayOf_alike hZ.alike Arq6.2.1) (g := (mkF m 8 #[.val (.ref r0), .val (.long y1), .second] [(.ref r2), (.int (2 : Int32))])) rfl rfl (hb hby d5_8) _ ?_
    rw [len_of Sq6 Nq6]
    show Steps p.tables e below (T4.setTop (mkF m 9 #[.val (.ref r0), .val (.long y1), .second] [(.int (1024 : Int32)), (.int (2 : Int32))])) _
    refine XS.icmpYes X4.here hx rfl (pc0 := 9) (pc' := 16) rfl (hb hby d5_9) rfl (feq (by decide : ¬ ((2 : Int32) = (1024 : Int32)))).2 (by decide) (by decide) ?_
    show Steps p.tables e below (T4.setTop (mkF m 16 #[.val (.ref r0), .val (.long y1), .second] [])) _
    refine XS.aloadN X4.here hx rfl (hb hby d5_16) rfl rfl ?_
    show Steps p.tables e below (T4.setTop (mkF m 17 #[.val (.ref r0), .val (.long y1), .second] [(.ref r0)])) _
    refine st7 _ ?_
    show Steps p.tables e below (T7.setTop (mkF m 20 #[.val (.ref r0), .val (.long y1), .second] [(.ref r2)])) _
    refine XS.aloadN X7.here hx rfl (hb hby d5_20) rfl rfl ?_
    show Steps p.tables e below (T7.setTop (mkF m 21 #[.val (.ref r0), .val (.long y1), .second] [(.ref r0), (.ref r2)])) _
    refine XS.dup X7.here hx rfl (hb hby d5_21) rfl rfl ?_
    show Steps p.tables e below (T7.setTop (mkF m 22 #[.val (.ref r0), .val (.long y1), .second] [(.ref r0), (.ref r0), (.ref r2)])) _
    refine st8 _ ?_
    show Steps p.tables e below (T8.setTop (mkF m 25 #[.val (.ref r0), .val (.long y1), .second] [(.int (2 : Int32)), (.ref r0), (.ref r2)])) _
    refine XS.dupX1 X8.here hx rfl (hb hby d5_25) rfl rfl rfl ?_
    show Steps p.tables e below (T8.setTop (mkF m 26 #[.val (.ref r0), .val (.long y1), .second] [(.int (2 : Int32)), (.ref r0), (.int (2 : Int32)), (.ref r2)])) _
    refine XS.iconst X8.here hx rfl (hb hby d5_26) ?_
    show Steps p.tables e below (T8.setTop (mkF m 27 #[.val (.ref r0), .val (.long y1), .second] [(.int (1 : Int32)), (.int (2 : Int32)), (.ref r0), (.int (2 : Int32)), (.ref r2)])) _
    refine XS.iadd X8.here hx rfl (hb hby d5_27) rfl ?_
    show Steps p.tables e below (T8.setTop (mkF m 28 #[.val (.ref r0), .val (.long y1), .second] [(.int (3 : Int32)), (.ref r0), (.int (2 : Int32)), (.ref r2)])) _
    refine st11 _ ?_
    show Steps p.tables e below (T11.setTop (mkF m 31 #[.val (.ref r0), .val (.long y1), .second] [(.int (2 : Int32)), (.ref r2)])) _
    refine XS.lloadN X11.here hx rfl (hb hby d5_31) rfl ?_
    show Steps p.tables e below (T11.setTop (mkF m 32 #[.val (.ref r0), .val (.long y1), .second] [(.long y1), (.int (2 : Int32)), (.ref r2)])) _
    refine st16 _ ?_
    show Steps p.tables e below (T16.setTop (mkF m 33 #[.val (.ref r0), .val (.long y1), .second] [])) _
    refine XS.aloadN X16.here hx rfl (hb hby d5_33) rfl rfl ?_
    show Steps p.tables e below (T16.setTop (mkF m 34 #[.val (.ref r0), .val (.long y1), .second] [(.ref r0)])) _
    refine XS.dup X16.here hx rfl (hb hby d5_34) rfl rfl ?_
    show Steps p.tables e below (T16.setTop (mkF m 35 #[.val (.ref r0), .val (.long y1), .second] [(.ref r0), (.ref r0)])) _
    refine st19 _ ?_
    show Steps p.tables e below (T19.setTop (mkF m 38 #[.val (.ref r0), .val (.long y1), .second] [(.int (2 : Int32)), (.ref r0)])) _
    refine XS.iconst X19.here hx rfl (hb hby d5_38) ?_
    show Steps p.tables e below (T19.setTop (mkF m 39 #[.val (.ref r0), .val (.long y1), .second] [(.int (1 : Int32)), (.int (2 : Int32)), (.ref r0)])) _
    refine XS.iadd X19.here hx rfl (hb hby d5_39) rfl ?_
    show Steps p.tables e below (T19.setTop (mkF m 40 #[.val (.ref r0), .val (.long y1), .second] [(.int (3 : Int32)), (.ref r0)])) _
    refine st21 _ ?_
    show Steps p.tables e below (T21.setTop (mkF m 43 #[.val (.ref r0), .val (.long y1), .second] [])) _
    exact X21.returnOut hx Bd.returns (hb hby d5_43) hr
  · show Q5_3 Z r0 y1 r2 c3 y4 y5 r6 r7 h0 n0 _ T21.heap _
    rw [e21]
    exact ⟨rfl, N21, kp31, f26, f27, Fw21, f23, f25, f28⟩
def Q4_4 (Z : State) (r0 : Addr) (r1 : Addr) (h0 : Heap) (n0 : Nat) (v : Option Value) (h : Heap) (L : List Loc) : Prop := v = none ∧ Fr n0 L ∧ Keep h0 h [r0] ∧ Fld Z h r0 cs1 "chunks" "[[J" (.ref r1) ∧ Fld Z h r0 cs1 "size" "I" (.int (3 : Int32))
set_option maxRecDepth 65536 in
set_option maxHeartbeats 40000000 in
theorem rm4_4 (l : Launch) (Z : State) (a0 : Array Value) (hw : ∀ d ∈ tables_1, d.before a0 Z = true) (ws : List Jvm.Cond) (r0 : Addr) (r1 : Addr) (h0 : Heap) (n0 : Nat) (O0 : Old Z n0 h0) (f2 : Exa Z h0 r0 cs1) (f3 : Fld Z h0 r0 cs1 "chunks" "[[J" .null) (g4 : n0 ≤ r0) (f7 : Fld Z h0 r0 cs1 "size" "I" (.int (0 : Int32))) :
    MetFree l (⟨cs1, "<init>", "([[JI)V"⟩ : MethodName) (head1 (Jvm.Cond.code (⟨cs1, "<init>", "([[JI)V"⟩ : MethodName) prog_14_method_1_code 3 none :: ws) ({ frames := 1, cells := 0, slots := 0, locals := 12 } : Room)) (fun a U => a = #[(.ref r0), (.ref r1), (.int (3 : Int32))] ∧ Z.Warmed39 U.vm ∧ U.heap = h0) (fun _ _ _ _ _ => True) (fun _ U o U' => ∃ v L, o = .returned v ∧ Q4_4 Z r0 r1 h0 n0 v U'.heap L ∧ FrameEnd U o U' L ({ frames := 1, cells := 0, slots := 0, locals := 12 } : Room).cells ({ frames := 1, cells := 0, slots := 0, locals := 12 } : Room).slots) := by
  refine MetFree.of_bodySF (plainFor_of_name pn_com_example_links_to_ranks_linkstoranks_LongList_View) hisR ?_
  intro p e s m args below meth c s₁ Bd hml0 hP hK
  obtain ⟨rfl, hZ, hh⟩ := hP
  have hx := Bd.exec
  have hby := Bd.bytes
  have hml : c.maxLocals = 3 := hml0
  have hown : s.vm.findClass cs1 = some m.cls := findClass_of_methodNamed Bd.named
  have hnm := (name_of_methodNamed Bd.named Bd.method).1
  have X0 : Stand p l e ({ frames := 1, cells := 0, slots := 0, locals := 12 } : Room) s m #[(.ref r0), (.ref r1), (.int (3 : Int32))] below meth c s₁ [] 0 0 := Stand.of_body Bd
  have e0 : s₁.heap = h0 := by rw [← hh, Bd.state]; rfl
  have N0 := Fr.nil n0
  have pre0 : ∀ t, Steps p.tables e below (s₁.setTop (mkF m 0 #[.val (.ref r0), .val (.ref r1), .val (.int (3 : Int32))] [])) t → Steps p.tables e below (s₁.setTop (entryFrame m #[(.ref r0), (.ref r1), (.int (3 : Int32))] 3)) t := fun t k => castTop (by first | (simp [entryFrame, mkF, argsToLocals, Value.category]; done) | rfl) k
  obtain ⟨T1, X1, e1, st1⟩ := initO X0 hx hZ hown (ww hw 40 rfl) (ww hw 15 rfl) (ww hw 16 rfl) e0 (g := (mkF m 1 #[.val (.ref r0), .val (.ref r1), .val (.int (3 : Int32))] [(.ref r0)])) rfl (by rw [hml]; rfl) rfl (hb hby d4_1) (by decide) (W := 0) (by show 2 * 0 + _ ≤ _; exact Nat.le_of_eq rfl) (by decide)
  obtain ⟨T5, h5, X5, e5, W5, st5⟩ := putF X1 hx hZ hown (host := "") (Or.inl (ww hw 41 rfl)) Via.refl e1 f3 f2 (Or.inr ⟨(ww hw 42 rfl), rfl, hnm⟩) (ww hw 33 rfl) (ty := (.array (.array .long))) (by decide) rfl rfl (g := (mkF m 6 #[.val (.ref r0), .val (.ref r1), .val (.int (3 : Int32))] [(.ref r1), (.ref r0)])) rfl rfl (hb hby d4_6)
  have Fw5 := f3.same W5
  have N5 := Fr.snoc X5 N0 g4
  have f6 := (f2.wr W5)
  have f8 := (f7.other W5 (Or.inr (slot_ne (Or.inr (ww hw 44 rfl)) (Or.inr (ww hw 42 rfl)) (by decide) (t := .int) (t' := (.array (.array .long))) (by decide) (by decide))))
  obtain ⟨T9, h9, X9, e9, W9, st9⟩ := putF X5 hx hZ hown (host := "") (Or.inl (ww hw 43 rfl)) Via.refl e5 f8 f6 (Or.inr ⟨(ww hw 44 rfl), rfl, hnm⟩) (ww hw 33 rfl) (ty := .int) (by decide) rfl rfl (g := (mkF m 11 #[.val (.ref r0), .val (.ref r1), .val (.int (3 : Int32))] [(.int (3 : Int32)), (.ref r0)])) rfl rfl (hb hby d4_11)
  have Fw9 := f8.same W9
  have N9 := Fr.snoc X9 N5 g4
  have f10 := (Fw5.other W9 (Or.inr (slot_ne (Or.inr (ww hw 42 rfl)) (Or.inr (ww hw 44 rfl)) (by decide) (t := (.array (.array .long))) (t' := .int) (by decide) (by decide))))
  have kp11 : Keep h0 h5 [r0] := (Keep.refl h0 [r0]).wr W5 (Or.inl (List.mem_of_getElem? (i := 0) rfl))
  have kp12 : Keep h0 h9 [r0] := kp11.wr W9 (Or.inl (List.mem_of_getElem? (i := 0) rfl))
  obtain ⟨fs, hr, hrun, hended, hW, hsame⟩ := X9.leave (v := none) (fun _ => rfl)
  refine ⟨_, _, pre0 _ ?_, hrun, hended, _, _, rfl, ?_, ⟨_, rfl⟩, hW, hsame.mono (by decide) (by decide)⟩
  · show Steps p.tables e below (s₁.setTop (mkF m 0 #[.val (.ref r0), .val (.ref r1), .val (.int (3 : Int32))] [])) _
    refine XS.aloadN X0.here hx rfl (hb hby d4_0) rfl rfl ?_
    show Steps p.tables e below (s₁.setTop (mkF m 1 #[.val (.ref r0), .val (.ref r1), .val (.int (3 : Int32))] [(.ref r0)])) _
    refine st1 _ ?_
    show Steps p.tables e below (T1.setTop (mkF m 4 #[.val (.ref r0), .val (.ref r1), .val (.int (3 : Int32))] [])) _
    refine XS.aloadN X1.here hx rfl (hb hby d4_4) rfl rfl ?_
    show Steps p.tables e below (T1.setTop (mkF m 5 #[.val (.ref r0), .val (.ref r1), .val (.int (3 : Int32))] [(.ref r0)])) _
    refine XS.aloadN X1.here hx rfl (hb hby d4_5) rfl rfl ?_
    show Steps p.tables e below (T1.setTop (mkF m 6 #[.val (.ref r0), .val (.ref r1), .val (.int (3 : Int32))] [(.ref r1), (.ref r0)])) _
    refine st5 _ ?_
    show Steps p.tables e below (T5.setTop (mkF m 9 #[.val (.ref r0), .val (.ref r1), .val (.int (3 : Int32))] [])) _
    refine XS.aloadN X5.here hx rfl (hb hby d4_9) rfl rfl ?_
    show Steps p.tables e below (T5.setTop (mkF m 10 #[.val (.ref r0), .val (.ref r1), .val (.int (3 : Int32))] [(.ref r0)])) _
    refine XS.iloadN X5.here hx rfl (hb hby d4_10) rfl ?_
    show Steps p.tables e below (T5.setTop (mkF m 11 #[.val (.ref r0), .val (.ref r1), .val (.int (3 : Int32))] [(.int (3 : Int32)), (.ref r0)])) _
    refine st9 _ ?_
    show Steps p.tables e below (T9.setTop (mkF m 14 #[.val (.ref r0), .val (.ref r1), .val (.int (3 : Int32))] [])) _
    exact X9.returnOut hx Bd.returns (hb hby d4_14) hr
  · show Q4_4 Z r0 r1 h0 n0 _ T9.heap _
    rw [e9]
    exact ⟨rfl, N9, kp12, f10, Fw9⟩
def Q3_4 (Z : State) (r0 : Addr) (r1 : Addr) (h0 : Heap) (n0 : Nat) (v : Option Value) (h : Heap) (L : List Loc) : Prop := ∃ (b1 : Addr), v = some (.ref b1) ∧ Fr n0 L ∧ Keep h0 h [] ∧ h0.size ≤ b1 ∧ Exa Z h b1 cs1 ∧ Fld Z h b1 cs1 "chunks" "[[J" (.ref r1) ∧ Fld Z h b1 cs1 "size" "I" (.int (3 : Int32))
set_option maxRecDepth 65536 in
set_option maxHeartbeats 40000000 in
theorem rm3_4 (l : Launch) (Z : State) (a0 : Array Value) (hw : ∀ d ∈ tables_1, d.before a0 Z = true) (ws : List Jvm.Cond) (r0 : Addr) (r1 : Addr) (h0 : Heap) (n0 : Nat) (O0 : Old Z n0 h0) (f4 : Fld Z h0 r0 cs0 "chunks" "[[J" (.ref r1)) (f7 : Fld Z h0 r0 cs0 "size" "I" (.int (3 : Int32))) :
    MetFree l (⟨cs0, "view", cs2⟩ : MethodName) (head1 (Jvm.Cond.code (⟨cs0, "view", cs2⟩ : MethodName) prog_13_method_4_code 1 (some (.object cs1)) :: ws) ({ frames := 2, cells := 1, slots := 2, locals := 27 } : Room)) (fun a U => a = #[(.ref r0)] ∧ Z.Warmed39 U.vm ∧ U.heap = h0) (fun _ _ _ _ _ => True) (fun _ U o U' => ∃ v L, o = .returned v ∧ Q3_4 Z r0 r1 h0 n0 v U'.heap L ∧ FrameEnd U o U' L ({ frames := 2, cells := 1, slots := 2, locals := 27 } : Room).cells ({ frames := 2, cells := 1, slots := 2, locals := 27 } : Room).slots) := by
  refine MetFree.of_bodySF (plainFor_of_name pn_com_example_links_to_ranks_linkstoranks_LongList) hisR ?_
  intro p e s m args below meth c s₁ Bd hml0 hP hK
  obtain ⟨rfl, hZ, hh⟩ := hP
  have hx := Bd.exec
  have hby := Bd.bytes
  have hml : c.maxLocals = 1 := hml0
  have hown : s.vm.findClass cs0 = some m.cls := findClass_of_methodNamed Bd.named
  have hnm := (name_of_methodNamed Bd.named Bd.method).1
  have X0 : Stand p l e ({ frames := 2, cells := 1, slots := 2, locals := 27 } : Room) s m #[(.ref r0)] below meth c s₁ [] 0 0 := Stand.of_body Bd
  have e0 : s₁.heap = h0 := by rw [← hh, Bd.state]; rfl
  have N0 := Fr.nil n0
  have pre0 : ∀ t, Steps p.tables e below (s₁.setTop (mkF m 0 #[.val (.ref r0)] [])) t → Steps p.tables e below (s₁.setTop (entryFrame m #[(.ref r0)] 1)) t := fun t k => castTop (by first | (simp [entryFrame, mkF, argsToLocals, Value.category]; done) | rfl) k
  obtain ⟨T1, h1, X1, e1, E1, A1, D1, -, st1⟩ := newO X0 hx hZ hown (ww hw 32 rfl) (ww hw 33 rfl) (ww hw 34 rfl) e0 (g := (mkF m 0 #[.val (.ref r0)] [])) rfl (hb hby d3_0) (by decide) (by decide)
  obtain ⟨b1, g1⟩ : ∃ z, z = h0.size := ⟨_, rfl⟩
  rw [← g1] at A1 D1 st1
  have f2 : Fld Z h1 b1 cs1 "chunks" "[[J" .null := D1 (Or.inr (ww hw 42 rfl)) (ty := (.array (.array .long))) (by decide)
  have f3 : Fld Z h1 b1 cs1 "size" "I" (.int (0 : Int32)) := D1 (Or.inr (ww hw 44 rfl)) (ty := .int) (by decide)
  have f5 := (f4.ext E1)
  obtain ⟨T6, X6, e6, st6⟩ := getF X1 hx hZ hown (host := "") (Or.inl (ww hw 21 rfl)) Via.refl e1 f5 (g := (mkF m 5 #[.val (.ref r0)] [(.ref r0), (.ref b1), (.ref b1)])) rfl rfl (hb hby d3_5)
  have f8 := (f7.ext E1)
  obtain ⟨T9, X9, e9, st9⟩ := getF X6 hx hZ hown (host := "") (Or.inl (ww hw 35 rfl)) Via.refl e6 f8 (g := (mkF m 9 #[.val (.ref r0)] [(.ref r0), (.ref r1), (.ref b1), (.ref b1)])) rfl rfl (hb hby d3_9)
  have zz10 : n0 ≤ h0.size := by rw [← O0.1]; exact O0.2.1
  have g11 := Nat.le_trans zz10 (Nat.le_of_eq g1.symm)
  have o12 := Old.ext O0 E1
  obtain ⟨_, _, ⟨T13, L13, k13, n13⟩, -, X13, ⟨Lc13, hQ13, l13, y13, z13⟩, st13⟩ := own_specialRef X9 hx hZ (y := (⟨cs1, "<init>", "([[JI)V"⟩ : MethodName)) rfl hown (ww hw 37 rfl) (mvT hZ (ww hw 38 rfl)) (mvT hZ (ww hw 39 rfl)) (by decide) (backOf (W := 1) (rm4_4 l Z a0 hw [] b1 r1 h1 n0 o12 A1 f2 g11 f3) hZ (ww hw 39 rfl) (ww hw 34 rfl) (by decide) (by decide)) (g := (mkF m 12 #[.val (.ref r0)] [(.int (3 : Int32)), (.ref r1), (.ref b1), (.ref b1)])) rfl (by rw [hml]; rfl) (Steps.refl _) (a := b1) (argsL := [(.ref r1), (.int (3 : Int32))]) (rest := [(.ref b1)]) (lenOf pd____JI_V rfl) rfl (by show 2 * 0 + _ ≤ _; exact Nat.le_of_eq rfl) (hb hby d3_12) (fun _ _ => ⟨rfl, e9, (by decide : 1 + 0 ≤ _), (by decide : 2 + 0 ≤ _)⟩)
  dsimp only [Pt.U, Pt.locs, Pt.cells, Pt.slots] at X13 l13 y13 z13 st13 hQ13
  subst l13 y13 z13
  obtain ⟨rfl, N13q, K13, f14, f15⟩ := hQ13
  have N13 := Fr.app N0 N13q
  have f16 := (A1.keep K13)
  have kp17 : Keep h0 h1 [] := (Keep.refl h0 []).ext E1
  have kp18 : Keep h0 T13.heap [] := kp17.trans K13 (allS (Or.inr (Nat.le_of_eq g1.symm)) all0)
  obtain ⟨fs, hr, hrun, hended, hW, hsame⟩ := X13.leave (v := some (.ref b1)) (fun h => by rw [Bd.returns] at h; cases h)
  refine ⟨_, _, pre0 _ ?_, hrun, hended, _, _, rfl, ?_, ⟨_, rfl⟩, hW, hsame.mono (by decide) (by decide)⟩
  · show Steps p.tables e below (s₁.setTop (mkF m 0 #[.val (.ref r0)] [])) _
    refine st1 _ ?_
    show Steps p.tables e below (T1.setTop (mkF m 3 #[.val (.ref r0)] [(.ref b1)])) _
    refine XS.dup X1.here hx rfl (hb hby d3_3) rfl rfl ?_
    show Steps p.tables e below (T1.setTop (mkF m 4 #[.val (.ref r0)] [(.ref b1), (.ref b1)])) _
    refine XS.aloadN X1.here hx rfl (hb hby d3_4) rfl rfl ?_
    show Steps p.tables e below (T1.setTop (mkF m 5 #[.val (.ref r0)] [(.ref r0), (.ref b1), (.ref b1)])) _
    refine st6 _ ?_
    show Steps p.tables e below (T6.setTop (mkF m 8 #[.val (.ref r0)] [(.ref r1), (.ref b1), (.ref b1)])) _
    refine XS.aloadN X6.here hx rfl (hb hby d3_8) rfl rfl ?_
    show Steps p.tables e below (T6.setTop (mkF m 9 #[.val (.ref r0)] [(.ref r0), (.ref r1), (.ref b1), (.ref b1)])) _
    refine st9 _ ?_
    show Steps p.tables e below (T9.setTop (mkF m 12 #[.val (.ref r0)] [(.int (3 : Int32)), (.ref r1), (.ref b1), (.ref b1)])) _
    refine st13.trans ?_
    show Steps p.tables e below (T13.setTop (mkF m 15 #[.val (.ref r0)] [(.ref b1)])) _
    exact retOut X13 hx (i := .areturn) Bd.returns rfl (Or.inr (Or.inr (Or.inr (Or.inr ⟨rfl, rfl, rfl⟩)))) (hb hby d3_15) hr
  · show Q3_4 Z r0 r1 h0 n0 _ T13.heap _
    exact ⟨b1, rfl, N13, kp18, (Nat.le_of_eq g1.symm), f16, f14, f15⟩
def Q6_4 (Z : State) (r0 : Addr) (h0 : Heap) (n0 : Nat) (v : Option Value) (h : Heap) (L : List Loc) : Prop := v = some (.int (3 : Int32)) ∧ Fr n0 L ∧ h = h0
set_option maxRecDepth 65536 in
set_option maxHeartbeats 40000000 in
theorem rm6_4 (l : Launch) (Z : State) (a0 : Array Value) (hw : ∀ d ∈ tables_1, d.before a0 Z = true) (ws : List Jvm.Cond) (r0 : Addr) (h0 : Heap) (n0 : Nat) (O0 : Old Z n0 h0) (f1 : Fld Z h0 r0 cs1 "size" "I" (.int (3 : Int32))) :
    MetFree l (⟨cs1, "size", "()I"⟩ : MethodName) (head1 (Jvm.Cond.code (⟨cs1, "size", "()I"⟩ : MethodName) prog_14_method_2_code 1 (some .int) :: ws) ({ frames := 0, cells := 0, slots := 0, locals := 0 } : Room)) (fun a U => a = #[(.ref r0)] ∧ Z.Warmed39 U.vm ∧ U.heap = h0) (fun _ _ _ _ _ => True) (fun _ U o U' => ∃ v L, o = .returned v ∧ Q6_4 Z r0 h0 n0 v U'.heap L ∧ FrameEnd U o U' L ({ frames := 0, cells := 0, slots := 0, locals := 0 } : Room).cells ({ frames := 0, cells := 0, slots := 0, locals := 0 } : Room).slots) := by
  refine MetFree.of_bodySF (plainFor_of_name pn_com_example_links_to_ranks_linkstoranks_LongList_View) hisR ?_
  intro p e s m args below meth c s₁ Bd hml0 hP hK
  obtain ⟨rfl, hZ, hh⟩ := hP
  have hx := Bd.exec
  have hby := Bd.bytes
  have hml : c.maxLocals = 1 := hml0
  have hown : s.vm.findClass cs1 = some m.cls := findClass_of_methodNamed Bd.named
  have hnm := (name_of_methodNamed Bd.named Bd.method).1
  have X0 : Stand p l e ({ frames := 0, cells := 0, slots := 0, locals := 0 } : Room) s m #[(.ref r0)] below meth c s₁ [] 0 0 := Stand.of_body Bd
  have e0 : s₁.heap = h0 := by rw [← hh, Bd.state]; rfl
  have N0 := Fr.nil n0
  have pre0 : ∀ t, Steps p.tables e below (s₁.setTop (mkF m 0 #[.val (.ref r0)] [])) t → Steps p.tables e below (s₁.setTop (entryFrame m #[(.ref r0)] 1)) t := fun t k => castTop (by first | (simp [entryFrame, mkF, argsToLocals, Value.category]; done) | rfl) k
  obtain ⟨T2, X2, e2, st2⟩ := getF X0 hx hZ hown (host := "") (Or.inl (ww hw 43 rfl)) Via.refl e0 f1 (g := (mkF m 1 #[.val (.ref r0)] [(.ref r0)])) rfl rfl (hb hby d6_1)
  obtain ⟨fs, hr, hrun, hended, hW, hsame⟩ := X2.leave (v := some (.int (3 : Int32))) (fun h => by rw [Bd.returns] at h; cases h)
  refine ⟨_, _, pre0 _ ?_, hrun, hended, _, _, rfl, ?_, ⟨_, rfl⟩, hW, hsame.mono (by decide) (by decide)⟩
  · show Steps p.tables e below (s₁.setTop (mkF m 0 #[.val (.ref r0)] [])) _
    refine XS.aloadN X0.here hx rfl (hb hby d6_0) rfl rfl ?_
    show Steps p.tables e below (s₁.setTop (mkF m 1 #[.val (.ref r0)] [(.ref r0)])) _
    refine st2 _ ?_
    show Steps p.tables e below (T2.setTop (mkF m 4 #[.val (.ref r0)] [(.int (3 : Int32))])) _
    exact retOut X2 hx (i := .ireturn) Bd.returns rfl (Or.inl ⟨rfl, Or.inl rfl, _, rfl⟩) (hb hby d6_4) hr
  · show Q6_4 Z r0 h0 n0 _ T2.heap _
    rw [e2]
    exact ⟨rfl, N0, rfl⟩
def Q7_4 (Z : State) (r0 : Addr) (r1 : Addr) (c2 : ClassId) (r3 : Addr) (c4 : ClassId) (y5 : Int64) (y6 : Int64) (y7 : Int64) (h0 : Heap) (n0 : Nat) (v : Option Value) (h : Heap) (L : List Loc) : Prop := v = some (.long y7) ∧ Fr n0 L ∧ h = h0
set_option maxRecDepth 65536 in
set_option maxHeartbeats 40000000 in
theorem rm7_4 (l : Launch) (Z : State) (a0 : Array Value) (hw : ∀ d ∈ tables_1, d.before a0 Z = true) (ws : List Jvm.Cond) (r0 : Addr) (r1 : Addr) (c2 : ClassId) (r3 : Addr) (c4 : ClassId) (y5 : Int64) (y6 : Int64) (y7 : Int64) (h0 : Heap) (n0 : Nat) (O0 : Old Z n0 h0) (f1 : Fld Z h0 r0 cs1 "chunks" "[[J" (.ref r1)) (f3 : Arv Z h0 r1 c2 (.array .long) (1 : Int32) [(.ref r3)] .null) (f5 : Arv Z h0 r3 c4 .long (1024 : Int32) [(.long y5), (.long y6), (.long y7), (.long (0 : Int64)), (.long (0 : Int64)), (.long (0 : Int64)), (.long (0 : Int64)), (.long (0 : Int64))] (.long (0 : Int64))) :
    MetFree l (⟨cs1, "get", "(I)J"⟩ : MethodName) (head1 (Jvm.Cond.code (⟨cs1, "get", "(I)J"⟩ : MethodName) prog_14_method_3_code 2 (some .long) :: ws) ({ frames := 0, cells := 0, slots := 0, locals := 0 } : Room)) (fun a U => a = #[(.ref r0), (.int (2 : Int32))] ∧ Z.Warmed39 U.vm ∧ U.heap = h0) (fun _ _ _ _ _ => True) (fun _ U o U' => ∃ v L, o = .returned v ∧ Q7_4 Z r0 r1 c2 r3 c4 y5 y6 y7 h0 n0 v U'.heap L ∧ FrameEnd U o U' L ({ frames := 0, cells := 0, slots := 0, locals := 0 } : Room).cells ({ frames := 0, cells := 0, slots := 0, locals := 0 } : Room).slots) := by
  refine MetFree.of_bodySF (plainFor_of_name pn_com_example_links_to_ranks_linkstoranks_LongList_View) hisR ?_
  intro p e s m args below meth c s₁ Bd hml0 hP hK
  obtain ⟨rfl, hZ, hh⟩ := hP
  have hx := Bd.exec
  have hby := Bd.bytes
  have hml : c.maxLocals = 2 := hml0
  have hown : s.vm.findClass cs1 = some m.cls := findClass_of_methodNamed Bd.named
  have hnm := (name_of_methodNamed Bd.named Bd.method).1
  have X0 : Stand p l e ({ frames := 0, cells := 0, slots := 0, locals := 0 } : Room) s m #[(.ref r0), (.int (2 : Int32))] below meth c s₁ [] 0 0 := Stand.of_body Bd
  have e0 : s₁.heap = h0 := by rw [← hh, Bd.state]; rfl
  have N0 := Fr.nil n0
  have pre0 : ∀ t, Steps p.tables e below (s₁.setTop (mkF m 0 #[.val (.ref r0), .val (.int (2 : Int32))] [])) t → Steps p.tables e below (s₁.setTop (entryFrame m #[(.ref r0), (.int (2 : Int32))] 2)) t := fun t k => castTop (by first | (simp [entryFrame, mkF, argsToLocals, Value.category]; done) | rfl) k
  obtain ⟨T2, X2, e2, st2⟩ := getF X0 hx hZ hown (host := "") (Or.inl (ww hw 41 rfl)) Via.refl e0 f1 (g := (mkF m 1 #[.val (.ref r0), .val (.int (2 : Int32))] [(.ref r0)])) rfl rfl (hb hby d7_1)
  obtain ⟨clq4, Arq4, qq4, Sq4, Nq4, Hq4, Gq4⟩ := id f3
  obtain ⟨clq6, Arq6, qq6, Sq6, Nq6, Hq6, Gq6⟩ := id f5
  obtain ⟨fs, hr, hrun, hended, hW, hsame⟩ := X2.leave (v := some (.long y7)) (fun h => by rw [Bd.returns] at h; cases h)
  refine ⟨_, _, pre0 _ ?_, hrun, hended, _, _, rfl, ?_, ⟨_, rfl⟩, hW, hsame.mono (by decide) (by decide)⟩
  · show Steps p.tables e below (s₁.setTop (mkF m 0 #[.val (.ref r0), .val (.int (2 : Int32))] [])) _
    refine XS.aloadN X0.here hx rfl (hb hby d7_0) rfl rfl ?_
    show Steps p.tables e below (s₁.setTop (mkF m 1 #[.val (.ref r0), .val (.int (2 : Int32))] [(.ref r0)])) _
    refine st2 _ ?_
    show Steps p.tables e below (T2.setTop (mkF m 4 #[.val (.ref r0), .val (.int (2 : Int32))] [(.ref r1)])) _
    refine XS.iloadN X2.here hx rfl (hb hby d7_4) rfl ?_
    show Steps p.tables e below (T2.setTop (mkF m 5 #[.val (.ref r0), .val (.int (2 : Int32))] [(.int (2 : Int32)), (.ref r1)])) _
    refine XS.bipush X2.here hx rfl (hb hby d7_5) ?_
    show Steps p.tables e below (T2.setTop (mkF m 7 #[.val (.ref r0), .val (.int (2 : Int32))] [(.int (18 : Int32)), (.int (2 : Int32)), (.ref r1)])) _
    refine XS.iushr X2.here hx rfl (hb hby d7_7) rfl ?_
    show Steps p.tables e below (T2.setTop (mkF m 8 #[.val (.ref r0), .val (.int (2 : Int32))] [(.int (0 : Int32)), (.ref r1)])) _
    refine X2.aaload hx (j := (0 : Int32)) (v := (.ref r3)) (by rw [e2]; exact Arq4.1) (State.isArrayOf_alike hZ.alike Arq4.2.1) rfl Arq4.2.2 (inb_of Sq4 ⟨(by decide : ¬ ((0 : Int32) < (0 : Int32))), (by decide : (0 : Int32) < (1 : Int32))⟩) (Has.at Hq4 (inb_of Sq4 ⟨(by decide : ¬ ((0 : Int32) < (0 : Int32))), (by decide : (0 : Int32) < (1 : Int32))⟩) rfl) (g := (mkF m 8 #[.val (.ref r0), .val (.int (2 : Int32))] [(.int (0 : Int32)), (.ref r1)])) rfl rfl (hb hby d7_8) _ ?_
    show Steps p.tables e below (T2.setTop (mkF m 9 #[.val (.ref r0), .val (.int (2 : Int32))] [(.ref r3)])) _
    refine XS.iloadN X2.here hx rfl (hb hby d7_9) rfl ?_
    show Steps p.tables e below (T2.setTop (mkF m 10 #[.val (.ref r0), .val (.int (2 : Int32))] [(.int (2 : Int32)), (.ref r3)])) _
    refine X2.ldcInt hx hown (mvT hZ (ww hw 62 rfl)) (g := (mkF m 10 #[.val (.ref r0), .val (.int (2 : Int32))] [(.int (2 : Int32)), (.ref r3)])) rfl (hb hby d7_10) _ ?_
    show Steps p.tables e below (T2.setTop (mkF m 12 #[.val (.ref r0), .val (.int (2 : Int32))] [(.int (262143 : Int32)), (.int (2 : Int32)), (.ref r3)])) _
    refine XS.iand X2.here hx rfl (hb hby d7_12) rfl ?_
    show Steps p.tables e below (T2.setTop (mkF m 13 #[.val (.ref r0), .val (.int (2 : Int32))] [(.int (2 : Int32)), (.ref r3)])) _
    refine X2.laload hx (j := (2 : Int32)) (v := (.long y7)) (by rw [e2]; exact Arq6.1) (State.isArrayOf_alike hZ.alike Arq6.2.1) Arq6.2.2 (inb_of Sq6 ⟨(by decide : ¬ ((2 : Int32) < (0 : Int32))), (by decide : (2 : Int32) < (1024 : Int32))⟩) (Has.at Hq6 (inb_of Sq6 ⟨(by decide : ¬ ((2 : Int32) < (0 : Int32))), (by decide : (2 : Int32) < (1024 : Int32))⟩) rfl) (g := (mkF m 13 #[.val (.ref r0), .val (.int (2 : Int32))] [(.int (2 : Int32)), (.ref r3)])) rfl rfl (hb hby d7_13) _ ?_
    show Steps p.tables e below (T2.setTop (mkF m 14 #[.val (.ref r0), .val (.int (2 : Int32))] [(.long y7)])) _
    exact retOut X2 hx (i := .lreturn) Bd.returns rfl (Or.inr (Or.inl ⟨rfl, rfl, _, rfl⟩)) (hb hby d7_14) hr
  · show Q7_4 Z r0 r1 c2 r3 c4 y5 y6 y7 h0 n0 _ T2.heap _
    rw [e2]
    exact ⟨rfl, N0, rfl⟩
def Q7_5 (Z : State) (r0 : Addr) (r1 : Addr) (c2 : ClassId) (r3 : Addr) (c4 : ClassId) (y5 : Int64) (y6 : Int64) (y7 : Int64) (h0 : Heap) (n0 : Nat) (v : Option Value) (h : Heap) (L : List Loc) : Prop := v = some (.long y5) ∧ Fr n0 L ∧ h = h0
set_option maxRecDepth 65536 in
set_option maxHeartbeats 40000000 in
theorem rm7_5 (l : Launch) (Z : State) (a0 : Array Value) (hw : ∀ d ∈ tables_1, d.before a0 Z = true) (ws : List Jvm.Cond) (r0 : Addr) (r1 : Addr) (c2 : ClassId) (r3 : Addr) (c4 : ClassId) (y5 : Int64) (y6 : Int64) (y7 : Int64) (h0 : Heap) (n0 : Nat) (O0 : Old Z n0 h0) (f1 : Fld Z h0 r0 cs1 "chunks" "[[J" (.ref r1)) (f3 : Arv Z h0 r1 c2 (.array .long) (1 : Int32) [(.ref r3)] .null) (f5 : Arv Z h0 r3 c4 .long (1024 : Int32) [(.long y5), (.long y6), (.long y7), (.long (0 : Int64)), (.long (0 : Int64)), (.long (0 : Int64)), (.long (0 : Int64)), (.long (0 : Int64))] (.long (0 : Int64))) :
    MetFree l (⟨cs1, "get", "(I)J"⟩ : MethodName) (head1 (Jvm.Cond.code (⟨cs1, "get", "(I)J"⟩ : MethodName) prog_14_method_3_code 2 (some .long) :: ws) ({ frames := 0, cells := 0, slots := 0, locals := 0 } : Room)) (fun a U => a = #[(.ref r0), (.int (0 : Int32))] ∧ Z.Warmed39 U.vm ∧ U.heap = h0) (fun _ _ _ _ _ => True) (fun _ U o U' => ∃ v L, o = .returned v ∧ Q7_5 Z r0 r1 c2 r3 c4 y5 y6 y7 h0 n0 v U'.heap L ∧ FrameEnd U o U' L ({ frames := 0, cells := 0, slots := 0, locals := 0 } : Room).cells ({ frames := 0, cells := 0, slots := 0, locals := 0 } : Room).slots) := by
  refine MetFree.of_bodySF (plainFor_of_name pn_com_example_links_to_ranks_linkstoranks_LongList_View) hisR ?_
  intro p e s m args below meth c s₁ Bd hml0 hP hK
  obtain ⟨rfl, hZ, hh⟩ := hP
  have hx := Bd.exec
  have hby := Bd.bytes
  have hml : c.maxLocals = 2 := hml0
  have hown : s.vm.findClass cs1 = some m.cls := findClass_of_methodNamed Bd.named
  have hnm := (name_of_methodNamed Bd.named Bd.method).1
  have X0 : Stand p l e ({ frames := 0, cells := 0, slots := 0, locals := 0 } : Room) s m #[(.ref r0), (.int (0 : Int32))] below meth c s₁ [] 0 0 := Stand.of_body Bd
  have e0 : s₁.heap = h0 := by rw [← hh, Bd.state]; rfl
  have N0 := Fr.nil n0
  have pre0 : ∀ t, Steps p.tables e below (s₁.setTop (mkF m 0 #[.val (.ref r0), .val (.int (0 : Int32))] [])) t → Steps p.tables e below (s₁.setTop (entryFrame m #[(.ref r0), (.int (0 : Int32))] 2)) t := fun t k => castTop (by first | (simp [entryFrame, mkF, argsToLocals, Value.category]; done) | rfl) k
  obtain ⟨T2, X2, e2, st2⟩ := getF X0 hx hZ hown (host := "") (Or.inl (ww hw 41 rfl)) Via.refl e0 f1 (g := (mkF m 1 #[.val (.ref r0), .val (.int (0 : Int32))] [(.ref r0)])) rfl rfl (hb hby d7_1)
  obtain ⟨clq4, Arq4, qq4, Sq4, Nq4, Hq4, Gq4⟩ := id f3
  obtain ⟨clq6, Arq6, qq6, Sq6, Nq6, Hq6, Gq6⟩ := id f5
  obtain ⟨fs, hr, hrun, hended, hW, hsame⟩ := X2.leave (v := some (.long y5)) (fun h => by rw [Bd.returns] at h; cases h)
  refine ⟨_, _, pre0 _ ?_, hrun, hended, _, _, rfl, ?_, ⟨_, rfl⟩, hW, hsame.mono (by decide) (by decide)⟩
  · show Steps p.tables e below (s₁.setTop (mkF m 0 #[.val (.ref r0), .val (.int (0 : Int32))] [])) _
    refine XS.aloadN X0.here hx rfl (hb hby d7_0) rfl rfl ?_
    show Steps p.tables e below (s₁.setTop (mkF m 1 #[.val (.ref r0), .val (.int (0 : Int32))] [(.ref r0)])) _
    refine st2 _ ?_
    show Steps p.tables e below (T2.setTop (mkF m 4 #[.val (.ref r0), .val (.int (0 : Int32))] [(.ref r1)])) _
    refine XS.iloadN X2.here hx rfl (hb hby d7_4) rfl ?_
    show Steps p.tables e below (T2.setTop (mkF m 5 #[.val (.ref r0), .val (.int (0 : Int32))] [(.int (0 : Int32)), (.ref r1)])) _
    refine XS.bipush X2.here hx rfl (hb hby d7_5) ?_
    show Steps p.tables e below (T2.setTop (mkF m 7 #[.val (.ref r0), .val (.int (0 : Int32))] [(.int (18 : Int32)), (.int (0 : Int32)), (.ref r1)])) _
    refine XS.iushr X2.here hx rfl (hb hby d7_7) rfl ?_
    show Steps p.tables e below (T2.setTop (mkF m 8 #[.val (.ref r0), .val (.int (0 : Int32))] [(.int (0 : Int32)), (.ref r1)])) _
    refine X2.aaload hx (j := (0 : Int32)) (v := (.ref r3)) (by rw [e2]; exact Arq4.1) (State.isArrayOf_alike hZ.alike Arq4.2.1) rfl Arq4.2.2 (inb_of Sq4 ⟨(by decide : ¬ ((0 : Int32) < (0 : Int32))), (by decide : (0 : Int32) < (1 : Int32))⟩) (Has.at Hq4 (inb_of Sq4 ⟨(by decide : ¬ ((0 : Int32) < (0 : Int32))), (by decide : (0 : Int32) < (1 : Int32))⟩) rfl) (g := (mkF m 8 #[.val (.ref r0), .val (.int (0 : Int32))] [(.int (0 : Int32)), (.ref r1)])) rfl rfl (hb hby d7_8) _ ?_
    show Steps p.tables e below (T2.setTop (mkF m 9 #[.val (.ref r0), .val (.int (0 : Int32))] [(.ref r3)])) _
    refine XS.iloadN X2.here hx rfl (hb hby d7_9) rfl ?_
    show Steps p.tables e below (T2.setTop (mkF m 10 #[.val (.ref r0), .val (.int (0 : Int32))] [(.int (0 : Int32)), (.ref r3)])) _
    refine X2.ldcInt hx hown (mvT hZ (ww hw 62 rfl)) (g := (mkF m 10 #[.val (.ref r0), .val (.int (0 : Int32))] [(.int (0 : Int32)), (.ref r3)])) rfl (hb hby d7_10) _ ?_
    show Steps p.tables e below (T2.setTop (mkF m 12 #[.val (.ref r0), .val (.int (0 : Int32))] [(.int (262143 : Int32)), (.int (0 : Int32)), (.ref r3)])) _
    refine XS.iand X2.here hx rfl (hb hby d7_12) rfl ?_
    show Steps p.tables e below (T2.setTop (mkF m 13 #[.val (.ref r0), .val (.int (0 : Int32))] [(.int (0 : Int32)), (.ref r3)])) _
    refine X2.laload hx (j := (0 : Int32)) (v := (.long y5)) (by rw [e2]; exact Arq6.1) (State.isArrayOf_alike hZ.alike Arq6.2.1) Arq6.2.2 (inb_of Sq6 ⟨(by decide : ¬ ((0 : Int32) < (0 : Int32))), (by decide : (0 : Int32) < (1024 : Int32))⟩) (Has.at Hq6 (inb_of Sq6 ⟨(by decide : ¬ ((0 : Int32) < (0 : Int32))), (by decide : (0 : Int32) < (1024 : Int32))⟩) rfl) (g := (mkF m 13 #[.val (.ref r0), .val (.int (0 : Int32))] [(.int (0 : Int32)), (.ref r3)])) rfl rfl (hb hby d7_13) _ ?_
    show Steps p.tables e below (T2.setTop (mkF m 14 #[.val (.ref r0), .val (.int (0 : Int32))] [(.long y5)])) _
    exact retOut X2 hx (i := .lreturn) Bd.returns rfl (Or.inr (Or.inl ⟨rfl, rfl, _, rfl⟩)) (hb hby d7_14) hr
  · show Q7_5 Z r0 r1 c2 r3 c4 y5 y6 y7 h0 n0 _ T2.heap _
    rw [e2]
    exact ⟨rfl, N0, rfl⟩
def Q7_6 (Z : State) (r0 : Addr) (r1 : Addr) (c2 : ClassId) (r3 : Addr) (c4 : ClassId) (y5 : Int64) (y6 : Int64) (y7 : Int64) (h0 : Heap) (n0 : Nat) (v : Option Value) (h : Heap) (L : List Loc) : Prop := v = some (.long y6) ∧ Fr n0 L ∧ h = h0
set_option maxRecDepth 65536 in
set_option maxHeartbeats 40000000 in
theorem rm7_6 (l : Launch) (Z : State) (a0 : Array Value) (hw : ∀ d ∈ tables_1, d.before a0 Z = true) (ws : List Jvm.Cond) (r0 : Addr) (r1 : Addr) (c2 : ClassId) (r3 : Addr) (c4 : ClassId) (y5 : Int64) (y6 : Int64) (y7 : Int64) (h0 : Heap) (n0 : Nat) (O0 : Old Z n0 h0) (f1 : Fld Z h0 r0 cs1 "chunks" "[[J" (.ref r1)) (f3 : Arv Z h0 r1 c2 (.array .long) (1 : Int32) [(.ref r3)] .null) (f5 : Arv Z h0 r3 c4 .long (1024 : Int32) [(.long y5), (.long y6), (.long y7), (.long (0 : Int64)), (.long (0 : Int64)), (.long (0 : Int64)), (.long (0 : Int64)), (.long (0 : Int64))] (.long (0 : Int64))) :
    MetFree l (⟨cs1, "get", "(I)J"⟩ : MethodName) (head1 (Jvm.Cond.code (⟨cs1, "get", "(I)J"⟩ : MethodName) prog_14_method_3_code 2 (some .long) :: ws) ({ frames := 0, cells := 0, slots := 0, locals := 0 } : Room)) (fun a U => a = #[(.ref r0), (.int (1 : Int32))] ∧ Z.Warmed39 U.vm ∧ U.heap = h0) (fun _ _ _ _ _ => True) (fun _ U o U' => ∃ v L, o = .returned v ∧ Q7_6 Z r0 r1 c2 r3 c4 y5 y6 y7 h0 n0 v U'.heap L ∧ FrameEnd U o U' L ({ frames := 0, cells := 0, slots := 0, locals := 0 } : Room).cells ({ frames := 0, cells := 0, slots := 0, locals := 0 } : Room).slots) := by
  refine MetFree.of_bodySF (plainFor_of_name pn_com_example_links_to_ranks_linkstoranks_LongList_View) hisR ?_
  intro p e s m args below meth c s₁ Bd hml0 hP hK
  obtain ⟨rfl, hZ, hh⟩ := hP
  have hx := Bd.exec
  have hby := Bd.bytes
  have hml : c.maxLocals = 2 := hml0
  have hown : s.vm.findClass cs1 = some m.cls := findClass_of_methodNamed Bd.named
  have hnm := (name_of_methodNamed Bd.named Bd.method).1
  have X0 : Stand p l e ({ frames := 0, cells := 0, slots := 0, locals := 0 } : Room) s m #[(.ref r0), (.int (1 : Int32))] below meth c s₁ [] 0 0 := Stand.of_body Bd
  have e0 : s₁.heap = h0 := by rw [← hh, Bd.state]; rfl
  have N0 := Fr.nil n0
  have pre0 : ∀ t, Steps p.tables e below (s₁.setTop (mkF m 0 #[.val (.ref r0), .val (.int (1 : Int32))] [])) t → Steps p.tables e below (s₁.setTop (entryFrame m #[(.ref r0), (.int (1 : Int32))] 2)) t := fun t k => castTop (by first | (simp [entryFrame, mkF, argsToLocals, Value.category]; done) | rfl) k
  obtain ⟨T2, X2, e2, st2⟩ := getF X0 hx hZ hown (host := "") (Or.inl (ww hw 41 rfl)) Via.refl e0 f1 (g := (mkF m 1 #[.val (.ref r0), .val (.int (1 : Int32))] [(.ref r0)])) rfl rfl (hb hby d7_1)
  obtain ⟨clq4, Arq4, qq4, Sq4, Nq4, Hq4, Gq4⟩ := id f3
  obtain ⟨clq6, Arq6, qq6, Sq6, Nq6, Hq6, Gq6⟩ := id f5
  obtain ⟨fs, hr, hrun, hended, hW, hsame⟩ := X2.leave (v := some (.long y6)) (fun h => by rw [Bd.returns] at h; cases h)
  refine ⟨_, _, pre0 _ ?_, hrun, hended, _, _, rfl, ?_, ⟨_, rfl⟩, hW, hsame.mono (by decide) (by decide)⟩
  · show Steps p.tables e below (s₁.setTop (mkF m 0 #[.val (.ref r0), .val (.int (1 : Int32))] [])) _
    refine XS.aloadN X0.here hx rfl (hb hby d7_0) rfl rfl ?_
    show Steps p.tables e below (s₁.setTop (mkF m 1 #[.val (.ref r0), .val (.int (1 : Int32))] [(.ref r0)])) _
    refine st2 _ ?_
    show Steps p.tables e below (T2.setTop (mkF m 4 #[.val (.ref r0), .val (.int (1 : Int32))] [(.ref r1)])) _
    refine XS.iloadN X2.here hx rfl (hb hby d7_4) rfl ?_
    show Steps p.tables e below (T2.setTop (mkF m 5 #[.val (.ref r0), .val (.int (1 : Int32))] [(.int (1 : Int32)), (.ref r1)])) _
    refine XS.bipush X2.here hx rfl (hb hby d7_5) ?_
    show Steps p.tables e below (T2.setTop (mkF m 7 #[.val (.ref r0), .val (.int (1 : Int32))] [(.int (18 : Int32)), (.int (1 : Int32)), (.ref r1)])) _
    refine XS.iushr X2.here hx rfl (hb hby d7_7) rfl ?_
    show Steps p.tables e below (T2.setTop (mkF m 8 #[.val (.ref r0), .val (.int (1 : Int32))] [(.int (0 : Int32)), (.ref r1)])) _
    refine X2.aaload hx (j := (0 : Int32)) (v := (.ref r3)) (by rw [e2]; exact Arq4.1) (State.isArrayOf_alike hZ.alike Arq4.2.1) rfl Arq4.2.2 (inb_of Sq4 ⟨(by decide : ¬ ((0 : Int32) < (0 : Int32))), (by decide : (0 : Int32) < (1 : Int32))⟩) (Has.at Hq4 (inb_of Sq4 ⟨(by decide : ¬ ((0 : Int32) < (0 : Int32))), (by decide : (0 : Int32) < (1 : Int32))⟩) rfl) (g := (mkF m 8 #[.val (.ref r0), .val (.int (1 : Int32))] [(.int (0 : Int32)), (.ref r1)])) rfl rfl (hb hby d7_8) _ ?_
    show Steps p.tables e below (T2.setTop (mkF m 9 #[.val (.ref r0), .val (.int (1 : Int32))] [(.ref r3)])) _
    refine XS.iloadN X2.here hx rfl (hb hby d7_9) rfl ?_
    show Steps p.tables e below (T2.setTop (mkF m 10 #[.val (.ref r0), .val (.int (1 : Int32))] [(.int (1 : Int32)), (.ref r3)])) _
    refine X2.ldcInt hx hown (mvT hZ (ww hw 62 rfl)) (g := (mkF m 10 #[.val (.ref r0), .val (.int (1 : Int32))] [(.int (1 : Int32)), (.ref r3)])) rfl (hb hby d7_10) _ ?_
    show Steps p.tables e below (T2.setTop (mkF m 12 #[.val (.ref r0), .val (.int (1 : Int32))] [(.int (262143 : Int32)), (.int (1 : Int32)), (.ref r3)])) _
    refine XS.iand X2.here hx rfl (hb hby d7_12) rfl ?_
    show Steps p.tables e below (T2.setTop (mkF m 13 #[.val (.ref r0), .val (.int (1 : Int32))] [(.int (1 : Int32)), (.ref r3)])) _
    refine X2.laload hx (j := (1 : Int32)) (v := (.long y6)) (by rw [e2]; exact Arq6.1) (State.isArrayOf_alike hZ.alike Arq6.2.1) Arq6.2.2 (inb_of Sq6 ⟨(by decide : ¬ ((1 : Int32) < (0 : Int32))), (by decide : (1 : Int32) < (1024 : Int32))⟩) (Has.at Hq6 (inb_of Sq6 ⟨(by decide : ¬ ((1 : Int32) < (0 : Int32))), (by decide : (1 : Int32) < (1024 : Int32))⟩) rfl) (g := (mkF m 13 #[.val (.ref r0), .val (.int (1 : Int32))] [(.int (1 : Int32)), (.ref r3)])) rfl rfl (hb hby d7_13) _ ?_
    show Steps p.tables e below (T2.setTop (mkF m 14 #[.val (.ref r0), .val (.int (1 : Int32))] [(.long y6)])) _
    exact retOut X2 hx (i := .lreturn) Bd.returns rfl (Or.inr (Or.inl ⟨rfl, rfl, _, rfl⟩)) (hb hby d7_14) hr
  · show Q7_6 Z r0 r1 c2 r3 c4 y5 y6 y7 h0 n0 _ T2.heap _
    rw [e2]
    exact ⟨rfl, N0, rfl⟩
def Q0_3 (Z : State) (x0 : Int32) (y1 : Int64) (y2 : Int64) (y3 : Int64) (y4 : Int64) (h0 : Heap) (n0 : Nat) (v : Option Value) (h : Heap) (L : List Loc) : Prop := v = some (.int (1 : Int32)) ∧ Fr n0 L
set_option maxRecDepth 65536 in
set_option maxHeartbeats 40000000 in
theorem rm0_3 (l : Launch) (Z : State) (a0 : Array Value) (hw : ∀ d ∈ tables_1, d.before a0 Z = true) (ws : List Jvm.Cond) (x0 : Int32) (y1 : Int64) (y2 : Int64) (y3 : Int64) (y4 : Int64) (h0 : Heap) (n0 : Nat) (O0 : Old Z n0 h0) (hc34 : (x0 &&& (3 : Int32)) = (2 : Int32)) :
    MetFree l x (head1 (Jvm.Cond.code x code maxLocals ret :: ws) room_1) (fun a U => a = #[(.int x0), (.long y1), (.long y2), (.long y3), (.long y4)] ∧ Z.Warmed39 U.vm ∧ U.heap = h0) (fun _ _ _ _ _ => True) (fun _ U o U' => ∃ v L, o = .returned v ∧ Q0_3 Z x0 y1 y2 y3 y4 h0 n0 v U'.heap L ∧ ReturnedEndW U o U' L room_1.cells room_1.slots) := by
  refine MetFree.of_bodySF (plainFor_of_name pn_com_example_links_to_ranks_linkstoranks_LongListViewPinLaw) hisR ?_
  intro p e s m args below meth c s₁ Bd hml0 hP hK
  obtain ⟨rfl, hZ, hh⟩ := hP
  have hx := Bd.exec
  have hby := Bd.bytes
  have hml : c.maxLocals = 14 := hml0
  have hown : s.vm.findClass cs3 = some m.cls := findClass_of_methodNamed Bd.named
  have hnm := (name_of_methodNamed Bd.named Bd.method).1
  have X0 : Stand p l e room_1 s m #[(.int x0), (.long y1), (.long y2), (.long y3), (.long y4)] below meth c s₁ [] 0 0 := Stand.of_body Bd
  have e0 : s₁.heap = h0 := by rw [← hh, Bd.state]; rfl
  have N0 := Fr.nil n0
  have pre0 : ∀ t, Steps p.tables e below (s₁.setTop (mkF m 0 #[.val (.int x0), .val (.long y1), .second, .val (.long y2), .second, .val (.long y3), .second, .val (.long y4), .second, .unset, .unset, .unset, .unset, .unset] [])) t → Steps p.tables e below (s₁.setTop (entryFrame m #[(.int x0), (.long y1), (.long y2), (.long y3), (.long y4)] maxLocals)) t := fun t k => castTop (by first | (simp [entryFrame, mkF, argsToLocals, Value.category, maxLocals]; done) | rfl) k
  obtain ⟨T1, h1, X1, e1, E1, A1, D1, -, st1⟩ := newO X0 hx hZ hown (ww hw 0 rfl) (ww hw 1 rfl) (ww hw 2 rfl) e0 (g := (mkF m 0 #[.val (.int x0), .val (.long y1), .second, .val (.long y2), .second, .val (.long y3), .second, .val (.long y4), .second, .unset, .unset, .unset, .unset, .unset] [])) rfl (hb hby at_0) (by decide) (by decide)
  obtain ⟨b1, g1⟩ : ∃ z, z = h0.size := ⟨_, rfl⟩
  rw [← g1] at A1 D1 st1
  have f2 : Fld Z h1 b1 cs0 "chunks" "[[J" .null := D1 (Or.inl (ww hw 22 rfl)) (ty := (.array (.array .long))) (by decide)
  have f3 : Fld Z h1 b1 cs0 "filling" "[J" .null := D1 (Or.inl (ww hw 24 rfl)) (ty := (.array .long)) (by decide)
  have f4 : Fld Z h1 b1 cs0 "items" "Ljava/lang/String;" .null := D1 (Or.inr (ww hw 26 rfl)) (ty := (.object "java/lang/String")) (by decide)
  have f5 : Fld Z h1 b1 cs0 "size" "I" (.int (0 : Int32)) := D1 (Or.inl (ww hw 36 rfl)) (ty := .int) (by decide)
  have f6 : Fld Z h1 b1 cs0 "filled" "I" (.int (0 : Int32)) := D1 (Or.inl (ww hw 51 rfl)) (ty := .int) (by decide)
  have hS7 := (State.WarmedH.refl s).since 0
  have hstr : ∀ a ∈ Bundle.stringAtoms, a.before a0 Z = true := fun a q => hw a (own_str a q)
  obtain ⟨a8, T8, h8, kk8, X8, e8, E8, hS8, hk8, hZ8, ho8, st8⟩ := ldcS (s := s) (vm0 := s.vm) X1 hx hZ hown (ww hw 3 rfl) hstr e1 hS7 (Nat.zero_le _) (g := (mkF m 4 #[.val (.int x0), .val (.long y1), .second, .val (.long y2), .second, .val (.long y3), .second, .val (.long y4), .second, .unset, .unset, .unset, .unset, .unset] [(.ref b1), (.ref b1)])) rfl (hb hby at_4) (n := 20) (by decide) (by decide) (by decide) (by decide)
  have f9 := (A1.ext E8)
  have f10 := (f2.ext E8)
  have zs11 := E8.1
  have zz12 : n0 ≤ h0.size := by rw [← O0.1]; exact O0.2.1
  have g13 := Nat.le_trans zz12 (Nat.le_of_eq g1.symm)
  have f14 := (f3.ext E8)
  have f15 := (f4.ext E8)
  have f16 := (f5.ext E8)
  have f17 := (f6.ext E8)
  have o18 := Old.ext O0 E1
  have o19 := Old.ext o18 E8
  obtain ⟨_, _, ⟨T20, L20, k20, n20⟩, -, X20, ⟨Lc20, hQ20, l20, y20, z20⟩, st20⟩ := X8.specialBack hx (y := (⟨cs0, "<init>", "(Ljava/lang/String;)V"⟩ : MethodName)) rfl ho8 (mvT hZ8 (ww hw 11 rfl)) (mvT hZ8 (ww hw 12 rfl)) (mvT hZ8 (ww hw 13 rfl)) (by decide) (backOf (W := 1) (rm1_1 l Z a0 hw [] b1 a8 h8 n0 o19 f9 f10 (Nat.lt_of_lt_of_le A1.lt zs11) g13 f14 f15 f16 f17) hZ8 (ww hw 13 rfl) (ww hw 2 rfl) (by decide) (by decide)) (g := (mkF m 6 #[.val (.int x0), .val (.long y1), .second, .val (.long y2), .second, .val (.long y3), .second, .val (.long y4), .second, .unset, .unset, .unset, .unset, .unset] [(.ref a8), (.ref b1), (.ref b1)])) rfl (by rw [hml]; rfl) (Steps.refl _) (a := b1) (argsL := [(.ref a8)]) (rest := [(.ref b1)]) (lenOf pd__Ljava_lang_String__V rfl) rfl (by show 2 * 0 + _ ≤ _; exact Nat.le_of_eq rfl) (hb hby at_6) (fun _ _ => ⟨rfl, e8, (by decide : 3 + 2 ≤ _), (by decide : 29 + 1025 ≤ _)⟩)
  dsimp only [Pt.U, Pt.locs, Pt.cells, Pt.slots] at X20 l20 y20 z20 st20 hQ20
  subst l20 y20 z20
  obtain ⟨b20_0, b20_1, k20_0, k20_1, rfl, N20q, K20, f21, f22, f23, f24, f25, f26, f27, f28, f29, f30, f31, f32, f33⟩ := hQ20
  have N20 := Fr.app N0 N20q
  have f35 := (f9.keep K20)
  have n36 := Nat.ne_of_lt (Nat.lt_of_lt_of_le (Nat.lt_of_lt_of_le A1.lt zs11) f30)
  have zz37 : n0 ≤ h8.size := by rw [← o19.1]; exact o19.2.1
  have g38 := Nat.le_trans zz37 f30
  have o39 := Old.keep o19 K20 (allS g13 all0)
  obtain ⟨cqq41, kqq41, qq41a, qq41b, qq41c⟩ := isOf hZ8 rfl f35
  obtain ⟨_, _, ⟨T40, L40, k40, n40⟩, -, X40, ⟨Lc40, hQ40, l40, y40, z40⟩, st40⟩ := X20.virtualBack hx (y := (⟨cs0, "add", "(J)V"⟩ : MethodName)) (z := (⟨cs0, "add", "(J)V"⟩ : MethodName)) ho8 (mvT hZ8 (ww hw 45 rfl)) (mvT hZ8 (ww hw 46 rfl)) (notFace_of_selects (args := #[]) (mvT hZ8 (ww hw 48 rfl))) (mvT hZ8 (ww hw 48 rfl)) (mvT hZ8 (ww hw 47 rfl)) (by decide) (backOf (W := 0) (rm5_1 l Z a0 hw [] b1 y1 b20_1 k20_1 b20_0 a8 T20.heap n0 o39 f25 f22 f31 f35 g13 (Ne.symm n36) g38 f24 f21 f23) hZ8 (ww hw 49 rfl) (ww hw 2 rfl) (by decide) (by decide)) qq41a qq41c (g := (mkF m 24 #[.val (.int x0), .val (.long y1), .second, .val (.long y2), .second, .val (.long y3), .second, .val (.long y4), .second, .val (.ref b1), .val (.int (2 : Int32)), .unset, .unset, .unset] [(.long y1), (.ref b1)])) rfl (by rw [hml]; rfl) (Steps.refl _) (argsL := [(.long y1)]) (rest := []) (lenOf pd__J_V rfl) rfl (by show 2 * 0 + _ ≤ _; exact Nat.le_of_eq rfl) (hb hby at_24) (fun _ _ => ⟨rfl, rfl, (by decide : 5 + 0 ≤ _), (by decide : 1054 + 0 ≤ _)⟩)
  dsimp only [Pt.U, Pt.locs, Pt.cells, Pt.slots] at X40 l40 y40 z40 st40 hQ40
  subst l40 y40 z40
  obtain ⟨rfl, N40q, K40, f42, f43, f44, f45, f46, f47⟩ := hQ40
  have N40 := Fr.app N20 N40q
  have f48 := (f35.keep K40)
  have o49 := Old.keep o39 K40 (allS g13 (allS g38 all0))
  obtain ⟨cqq51, kqq51, qq51a, qq51b, qq51c⟩ := isOf hZ8 rfl f48
  obtain ⟨_, _, ⟨T50, L50, k50, n50⟩, -, X50, ⟨Lc50, hQ50, l50, y50, z50⟩, st50⟩ := X40.virtualBack hx (y := (⟨cs0, "add", "(J)V"⟩ : MethodName)) (z := (⟨cs0, "add", "(J)V"⟩ : MethodName)) ho8 (mvT hZ8 (ww hw 45 rfl)) (mvT hZ8 (ww hw 46 rfl)) (notFace_of_selects (args := #[]) (mvT hZ8 (ww hw 48 rfl))) (mvT hZ8 (ww hw 48 rfl)) (mvT hZ8 (ww hw 47 rfl)) (by decide) (backOf (W := 0) (rm5_2 l Z a0 hw [] b1 y2 b20_1 k20_1 y1 b20_0 a8 T40.heap n0 o49 f42 f43 f47 f48 g13 (Ne.symm n36) g38 f44 f45 f46) hZ8 (ww hw 49 rfl) (ww hw 2 rfl) (by decide) (by decide)) qq51a qq51c (g := (mkF m 36 #[.val (.int x0), .val (.long y1), .second, .val (.long y2), .second, .val (.long y3), .second, .val (.long y4), .second, .val (.ref b1), .val (.int (2 : Int32)), .unset, .unset, .unset] [(.long y2), (.ref b1)])) rfl (by rw [hml]; rfl) (Steps.refl _) (argsL := [(.long y2)]) (rest := []) (lenOf pd__J_V rfl) rfl (by show 2 * 0 + _ ≤ _; exact Nat.le_of_eq rfl) (hb hby at_36) (fun _ _ => ⟨rfl, rfl, (by decide : 5 + 0 ≤ _), (by decide : 1054 + 0 ≤ _)⟩)
  dsimp only [Pt.U, Pt.locs, Pt.cells, Pt.slots] at X50 l50 y50 z50 st50 hQ50
  subst l50 y50 z50
  obtain ⟨rfl, N50q, K50, f52, f53, f54, f55, f56, f57⟩ := hQ50
  have N50 := Fr.app N40 N50q
  have o58 := Old.keep o49 K50 (allS g13 (allS g38 all0))
  have f60 := (f48.keep K50)
  obtain ⟨cqq61, kqq61, qq61a, qq61b, qq61c⟩ := isOf hZ8 rfl f60
  obtain ⟨_, _, ⟨T59, L59, k59, n59⟩, -, X59, ⟨Lc59, hQ59, l59, y59, z59⟩, st59⟩ := X50.virtualBack hx (y := (⟨cs0, "view", cs2⟩ : MethodName)) (z := (⟨cs0, "view", cs2⟩ : MethodName)) ho8 (mvT hZ8 (ww hw 27 rfl)) (mvT hZ8 (ww hw 28 rfl)) (notFace_of_selects (args := #[]) (mvT hZ8 (ww hw 30 rfl))) (mvT hZ8 (ww hw 30 rfl)) (mvT hZ8 (ww hw 29 rfl)) (by decide) (backOf (W := 0) (rm3_3 l Z a0 hw [] b1 b20_0 T50.heap n0 o58 f55 f54) hZ8 (ww hw 31 rfl) (ww hw 2 rfl) (by decide) (by decide)) qq61a qq61c (g := (mkF m 54 #[.val (.int x0), .val (.long y1), .second, .val (.long y2), .second, .val (.long y3), .second, .val (.long y4), .second, .val (.ref b1), .val (.int (2 : Int32)), .unset, .unset, .unset] [(.ref b1)])) rfl (by rw [hml]; rfl) (Steps.refl _) (argsL := []) (rest := []) (lenOf pd___Lcom_example_links_to_ranks_linkstoranks_LongList_View_ rfl) rfl (by show 2 * 0 + _ ≤ _; exact Nat.le_of_eq rfl) (hb hby at_54) (fun _ _ => ⟨rfl, rfl, (by decide : 5 + 1 ≤ _), (by decide : 1054 + 2 ≤ _)⟩)
  dsimp only [Pt.U, Pt.locs, Pt.cells, Pt.slots] at X59 l59 y59 z59 st59 hQ59
  subst l59 y59 z59
  obtain ⟨b59_0, rfl, N59q, K59, f62, f63, f64, f65⟩ := hQ59
  have N59 := Fr.app N50 N59q
  have f66 := (f52.keep K59 nin0)
  have f67 := (f53.keep K59 nin0)
  have f68 := (f57.keep K59 nin0)
  have f69 := (f60.keep K59)
  have f70 := (f54.keep K59 nin0)
  have f71 := (f55.keep K59 nin0)
  have f72 := (f56.keep K59 nin0)
  have o73 := Old.keep o58 K59 all0
  obtain ⟨cqq75, kqq75, qq75a, qq75b, qq75c⟩ := isOf hZ8 rfl f69
  obtain ⟨_, _, ⟨T74, L74, k74, n74⟩, -, X74, ⟨Lc74, hQ74, l74, y74, z74⟩, st74⟩ := X59.virtualBack hx (y := (⟨cs0, "add", "(J)V"⟩ : MethodName)) (z := (⟨cs0, "add", "(J)V"⟩ : MethodName)) ho8 (mvT hZ8 (ww hw 45 rfl)) (mvT hZ8 (ww hw 46 rfl)) (notFace_of_selects (args := #[]) (mvT hZ8 (ww hw 48 rfl))) (mvT hZ8 (ww hw 48 rfl)) (mvT hZ8 (ww hw 47 rfl)) (by decide) (backOf (W := 0) (rm5_3 l Z a0 hw [] b1 y4 b20_1 k20_1 y1 y2 b20_0 a8 T59.heap n0 o73 f66 f67 f68 f69 g13 (Ne.symm n36) g38 f70 f71 f72) hZ8 (ww hw 49 rfl) (ww hw 2 rfl) (by decide) (by decide)) qq75a qq75c (g := (mkF m 63 #[.val (.int x0), .val (.long y1), .second, .val (.long y2), .second, .val (.long y3), .second, .val (.long y4), .second, .val (.ref b1), .val (.int (2 : Int32)), .val (.ref b59_0), .unset, .unset] [(.long y4), (.ref b1)])) rfl (by rw [hml]; rfl) (Steps.refl _) (argsL := [(.long y4)]) (rest := []) (lenOf pd__J_V rfl) rfl (by show 2 * 0 + _ ≤ _; exact Nat.le_of_eq rfl) (hb hby at_63) (fun _ _ => ⟨rfl, rfl, (by decide : 6 + 0 ≤ _), (by decide : 1056 + 0 ≤ _)⟩)
  dsimp only [Pt.U, Pt.locs, Pt.cells, Pt.slots] at X74 l74 y74 z74 st74 hQ74
  subst l74 y74 z74
  obtain ⟨rfl, N74q, K74, f76, f77, f78, f79, f80, f81⟩ := hQ74
  have N74 := Fr.app N59 N74q
  have o82 := Old.keep o73 K74 (allS g13 (allS g38 all0))
  have f84 := (f69.keep K74)
  obtain ⟨cqq85, kqq85, qq85a, qq85b, qq85c⟩ := isOf hZ8 rfl f84
  obtain ⟨_, _, ⟨T83, L83, k83, n83⟩, -, X83, ⟨Lc83, hQ83, l83, y83, z83⟩, st83⟩ := X74.virtualBack hx (y := (⟨cs0, "view", cs2⟩ : MethodName)) (z := (⟨cs0, "view", cs2⟩ : MethodName)) ho8 (mvT hZ8 (ww hw 27 rfl)) (mvT hZ8 (ww hw 28 rfl)) (notFace_of_selects (args := #[]) (mvT hZ8 (ww hw 30 rfl))) (mvT hZ8 (ww hw 30 rfl)) (mvT hZ8 (ww hw 29 rfl)) (by decide) (backOf (W := 0) (rm3_4 l Z a0 hw [] b1 b20_0 T74.heap n0 o82 f79 f78) hZ8 (ww hw 31 rfl) (ww hw 2 rfl) (by decide) (by decide)) qq85a qq85c (g := (mkF m 68 #[.val (.int x0), .val (.long y1), .second, .val (.long y2), .second, .val (.long y3), .second, .val (.long y4), .second, .val (.ref b1), .val (.int (2 : Int32)), .val (.ref b59_0), .unset, .unset] [(.ref b1)])) rfl (by rw [hml]; rfl) (Steps.refl _) (argsL := []) (rest := []) (lenOf pd___Lcom_example_links_to_ranks_linkstoranks_LongList_View_ rfl) rfl (by show 2 * 0 + _ ≤ _; exact Nat.le_of_eq rfl) (hb hby at_68) (fun _ _ => ⟨rfl, rfl, (by decide : 6 + 1 ≤ _), (by decide : 1056 + 2 ≤ _)⟩)
  dsimp only [Pt.U, Pt.locs, Pt.cells, Pt.slots] at X83 l83 y83 z83 st83 hQ83
  subst l83 y83 z83
  obtain ⟨b83_0, rfl, N83q, K83, f86, f87, f88, f89⟩ := hQ83
  have N83 := Fr.app N74 N83q
  have zs90 := K40.1
  have zs91 := Nat.le_trans zs90 K50.1
  have n92 := Nat.ne_of_lt (Nat.lt_of_lt_of_le (Nat.lt_of_lt_of_le f31.lt zs91) f62)
  have zs93 := Nat.le_trans zs11 K20.1
  have zs94 := Nat.le_trans zs93 K40.1
  have zs95 := Nat.le_trans zs94 K50.1
  have n96 := Nat.ne_of_lt (Nat.lt_of_lt_of_le (Nat.lt_of_lt_of_le A1.lt zs95) f62)
  have f97 := ((f65.keep K74 (ninS (Ne.symm n96) (ninS (Ne.symm n92) nin0))).keep K83 nin0)
  have o98 := Old.keep o82 K83 all0
  have f100 := ((f63.keep K74).keep K83)
  obtain ⟨cqq101, kqq101, qq101a, qq101b, qq101c⟩ := isOf hZ8 rfl f100
  obtain ⟨_, _, ⟨T99, L99, k99, n99⟩, -, X99, ⟨Lc99, hQ99, l99, y99, z99⟩, st99⟩ := X83.virtualBack hx (y := (⟨cs1, "size", "()I"⟩ : MethodName)) (z := (⟨cs1, "size", "()I"⟩ : MethodName)) ho8 (mvT hZ8 (ww hw 52 rfl)) (mvT hZ8 (ww hw 53 rfl)) (notFace_of_selects (args := #[]) (mvT hZ8 (ww hw 55 rfl))) (mvT hZ8 (ww hw 55 rfl)) (mvT hZ8 (ww hw 54 rfl)) (by decide) (backOf (W := 0) (rm6_3 l Z a0 hw [] b59_0 T83.heap n0 o98 f97) hZ8 (ww hw 56 rfl) (ww hw 34 rfl) (by decide) (by decide)) qq101a qq101c (g := (mkF m 75 #[.val (.int x0), .val (.long y1), .second, .val (.long y2), .second, .val (.long y3), .second, .val (.long y4), .second, .val (.ref b1), .val (.int (2 : Int32)), .val (.ref b59_0), .val (.ref b83_0), .unset] [(.ref b59_0)])) rfl (by rw [hml]; rfl) (Steps.refl _) (argsL := []) (rest := []) (lenOf pd___I rfl) rfl (by show 2 * 0 + _ ≤ _; exact Nat.le_of_eq rfl) (hb hby at_75) (fun _ _ => ⟨rfl, rfl, (by decide : 7 + 0 ≤ _), (by decide : 1058 + 0 ≤ _)⟩)
  dsimp only [Pt.U, Pt.locs, Pt.cells, Pt.slots] at X99 l99 y99 z99 st99 hQ99
  subst l99 y99 z99
  obtain ⟨rfl, N99q, E99⟩ := hQ99
  have N99 := Fr.app N83 N99q
  obtain ⟨cqq103, kqq103, qq103a, qq103b, qq103c⟩ := isOf hZ8 E99 f87
  obtain ⟨_, _, ⟨T102, L102, k102, n102⟩, -, X102, ⟨Lc102, hQ102, l102, y102, z102⟩, st102⟩ := X99.virtualBack hx (y := (⟨cs1, "size", "()I"⟩ : MethodName)) (z := (⟨cs1, "size", "()I"⟩ : MethodName)) ho8 (mvT hZ8 (ww hw 52 rfl)) (mvT hZ8 (ww hw 53 rfl)) (notFace_of_selects (args := #[]) (mvT hZ8 (ww hw 55 rfl))) (mvT hZ8 (ww hw 55 rfl)) (mvT hZ8 (ww hw 54 rfl)) (by decide) (backOf (W := 0) (rm6_4 l Z a0 hw [] b83_0 T83.heap n0 o98 f89) hZ8 (ww hw 56 rfl) (ww hw 34 rfl) (by decide) (by decide)) qq103a qq103c (g := (mkF m 85 #[.val (.int x0), .val (.long y1), .second, .val (.long y2), .second, .val (.long y3), .second, .val (.long y4), .second, .val (.ref b1), .val (.int (2 : Int32)), .val (.ref b59_0), .val (.ref b83_0), .unset] [(.ref b83_0)])) rfl (by rw [hml]; rfl) (Steps.refl _) (argsL := []) (rest := []) (lenOf pd___I rfl) rfl (by show 2 * 0 + _ ≤ _; exact Nat.le_of_eq rfl) (hb hby at_85) (fun _ _ => ⟨rfl, E99, (by decide : 7 + 0 ≤ _), (by decide : 1058 + 0 ≤ _)⟩)
  dsimp only [Pt.U, Pt.locs, Pt.cells, Pt.slots] at X102 l102 y102 z102 st102 hQ102
  subst l102 y102 z102
  obtain ⟨rfl, N102q, E102⟩ := hQ102
  have N102 := Fr.app N99 N102q
  have n104 := Nat.ne_of_lt (Nat.lt_of_lt_of_le (Nat.lt_of_lt_of_le A1.lt zs11) f26)
  have f105 := (((((f27.keep K40 (ninS (Ne.symm n104) (ninS f33 nin0))).keep K50 (ninS (Ne.symm n104) (ninS f33 nin0))).keep K59 nin0).keep K74 (ninS (Ne.symm n104) (ninS f33 nin0))).keep K83 nin0)
  have f106 := (f81.keep K83 nin0)
  obtain ⟨cqq108, kqq108, qq108a, qq108b, qq108c⟩ := isOf hZ8 E102 f87
  obtain ⟨_, _, ⟨T107, L107, k107, n107⟩, -, X107, ⟨Lc107, hQ107, l107, y107, z107⟩, st107⟩ := X102.virtualBack hx (y := (⟨cs1, "get", "(I)J"⟩ : MethodName)) (z := (⟨cs1, "get", "(I)J"⟩ : MethodName)) ho8 (mvT hZ8 (ww hw 57 rfl)) (mvT hZ8 (ww hw 58 rfl)) (notFace_of_selects (args := #[]) (mvT hZ8 (ww hw 60 rfl))) (mvT hZ8 (ww hw 60 rfl)) (mvT hZ8 (ww hw 59 rfl)) (by decide) (backOf (W := 0) (rm7_4 l Z a0 hw [] b83_0 b20_0 k20_0 b20_1 k20_1 y1 y2 y4 T83.heap n0 o98 f88 f105 f106) hZ8 (ww hw 61 rfl) (ww hw 34 rfl) (by decide) (by decide)) qq108a qq108c (g := (mkF m 99 #[.val (.int x0), .val (.long y1), .second, .val (.long y2), .second, .val (.long y3), .second, .val (.long y4), .second, .val (.ref b1), .val (.int (2 : Int32)), .val (.ref b59_0), .val (.ref b83_0), .unset] [(.int (2 : Int32)), (.ref b83_0)])) rfl (by rw [hml]; rfl) (Steps.refl _) (argsL := [(.int (2 : Int32))]) (rest := []) (lenOf pd__I_J rfl) rfl (by show 2 * 0 + _ ≤ _; exact Nat.le_of_eq rfl) (hb hby at_99) (fun _ _ => ⟨rfl, E102, (by decide : 7 + 0 ≤ _), (by decide : 1058 + 0 ≤ _)⟩)
  dsimp only [Pt.U, Pt.locs, Pt.cells, Pt.slots] at X107 l107 y107 z107 st107 hQ107
  subst l107 y107 z107
  obtain ⟨rfl, N107q, E107⟩ := hQ107
  have N107 := Fr.app N102 N107q
  have f109 := ((f64.keep K74 (ninS (Ne.symm n96) (ninS (Ne.symm n92) nin0))).keep K83 nin0)
  obtain ⟨cqq111, kqq111, qq111a, qq111b, qq111c⟩ := isOf hZ8 E107 f100
  obtain ⟨_, _, ⟨T110, L110, k110, n110⟩, -, X110, ⟨Lc110, hQ110, l110, y110, z110⟩, st110⟩ := X107.virtualBack hx (y := (⟨cs1, "get", "(I)J"⟩ : MethodName)) (z := (⟨cs1, "get", "(I)J"⟩ : MethodName)) ho8 (mvT hZ8 (ww hw 57 rfl)) (mvT hZ8 (ww hw 58 rfl)) (notFace_of_selects (args := #[]) (mvT hZ8 (ww hw 60 rfl))) (mvT hZ8 (ww hw 60 rfl)) (mvT hZ8 (ww hw 59 rfl)) (by decide) (backOf (W := 0) (rm7_5 l Z a0 hw [] b59_0 b20_0 k20_0 b20_1 k20_1 y1 y2 y4 T83.heap n0 o98 f109 f105 f106) hZ8 (ww hw 61 rfl) (ww hw 34 rfl) (by decide) (by decide)) qq111a qq111c (g := (mkF m 128 #[.val (.int x0), .val (.long y1), .second, .val (.long y2), .second, .val (.long y3), .second, .val (.long y4), .second, .val (.ref b1), .val (.int (2 : Int32)), .val (.ref b59_0), .val (.ref b83_0), .val (.int (1 : Int32))] [(.int (0 : Int32)), (.ref b59_0)])) rfl (by rw [hml]; rfl) (Steps.refl _) (argsL := [(.int (0 : Int32))]) (rest := []) (lenOf pd__I_J rfl) rfl (by show 2 * 0 + _ ≤ _; exact Nat.le_of_eq rfl) (hb hby at_128) (fun _ _ => ⟨rfl, E107, (by decide : 7 + 0 ≤ _), (by decide : 1058 + 0 ≤ _)⟩)
  dsimp only [Pt.U, Pt.locs, Pt.cells, Pt.slots] at X110 l110 y110 z110 st110 hQ110
  subst l110 y110 z110
  obtain ⟨rfl, N110q, E110⟩ := hQ110
  have N110 := Fr.app N107 N110q
  obtain ⟨cqq113, kqq113, qq113a, qq113b, qq113c⟩ := isOf hZ8 E110 f87
  obtain ⟨_, _, ⟨T112, L112, k112, n112⟩, -, X112, ⟨Lc112, hQ112, l112, y112, z112⟩, st112⟩ := X110.virtualBack hx (y := (⟨cs1, "get", "(I)J"⟩ : MethodName)) (z := (⟨cs1, "get", "(I)J"⟩ : MethodName)) ho8 (mvT hZ8 (ww hw 57 rfl)) (mvT hZ8 (ww hw 58 rfl)) (notFace_of_selects (args := #[]) (mvT hZ8 (ww hw 60 rfl))) (mvT hZ8 (ww hw 60 rfl)) (mvT hZ8 (ww hw 59 rfl)) (by decide) (backOf (W := 0) (rm7_5 l Z a0 hw [] b83_0 b20_0 k20_0 b20_1 k20_1 y1 y2 y4 T83.heap n0 o98 f88 f105 f106) hZ8 (ww hw 61 rfl) (ww hw 34 rfl) (by decide) (by decide)) qq113a qq113c (g := (mkF m 139 #[.val (.int x0), .val (.long y1), .second, .val (.long y2), .second, .val (.long y3), .second, .val (.long y4), .second, .val (.ref b1), .val (.int (2 : Int32)), .val (.ref b59_0), .val (.ref b83_0), .val (.int (1 : Int32))] [(.int (0 : Int32)), (.ref b83_0)])) rfl (by rw [hml]; rfl) (Steps.refl _) (argsL := [(.int (0 : Int32))]) (rest := []) (lenOf pd__I_J rfl) rfl (by show 2 * 0 + _ ≤ _; exact Nat.le_of_eq rfl) (hb hby at_139) (fun _ _ => ⟨rfl, E110, (by decide : 7 + 0 ≤ _), (by decide : 1058 + 0 ≤ _)⟩)
  dsimp only [Pt.U, Pt.locs, Pt.cells, Pt.slots] at X112 l112 y112 z112 st112 hQ112
  subst l112 y112 z112
  obtain ⟨rfl, N112q, E112⟩ := hQ112
  have N112 := Fr.app N110 N112q
  obtain ⟨cqq115, kqq115, qq115a, qq115b, qq115c⟩ := isOf hZ8 E112 f100
  obtain ⟨_, _, ⟨T114, L114, k114, n114⟩, -, X114, ⟨Lc114, hQ114, l114, y114, z114⟩, st114⟩ := X112.virtualBack hx (y := (⟨cs1, "get", "(I)J"⟩ : MethodName)) (z := (⟨cs1, "get", "(I)J"⟩ : MethodName)) ho8 (mvT hZ8 (ww hw 57 rfl)) (mvT hZ8 (ww hw 58 rfl)) (notFace_of_selects (args := #[]) (mvT hZ8 (ww hw 60 rfl))) (mvT hZ8 (ww hw 60 rfl)) (mvT hZ8 (ww hw 59 rfl)) (by decide) (backOf (W := 0) (rm7_6 l Z a0 hw [] b59_0 b20_0 k20_0 b20_1 k20_1 y1 y2 y4 T83.heap n0 o98 f109 f105 f106) hZ8 (ww hw 61 rfl) (ww hw 34 rfl) (by decide) (by decide)) qq115a qq115c (g := (mkF m 168 #[.val (.int x0), .val (.long y1), .second, .val (.long y2), .second, .val (.long y3), .second, .val (.long y4), .second, .val (.ref b1), .val (.int (2 : Int32)), .val (.ref b59_0), .val (.ref b83_0), .val (.int (1 : Int32))] [(.int (1 : Int32)), (.ref b59_0)])) rfl (by rw [hml]; rfl) (Steps.refl _) (argsL := [(.int (1 : Int32))]) (rest := []) (lenOf pd__I_J rfl) rfl (by show 2 * 0 + _ ≤ _; exact Nat.le_of_eq rfl) (hb hby at_168) (fun _ _ => ⟨rfl, E112, (by decide : 7 + 0 ≤ _), (by decide : 1058 + 0 ≤ _)⟩)
  dsimp only [Pt.U, Pt.locs, Pt.cells, Pt.slots] at X114 l114 y114 z114 st114 hQ114
  subst l114 y114 z114
  obtain ⟨rfl, N114q, E114⟩ := hQ114
  have N114 := Fr.app N112 N114q
  have zs116 := K20.1
  have zs117 := Nat.le_trans zs116 K40.1
  have zs118 := Nat.le_trans zs117 K50.1
  have zs119 := Nat.le_trans zs118 K59.1
  have zs120 := Nat.le_trans zs119 K74.1
  have zs121 := Nat.le_trans zs120 K83.1
  obtain ⟨fs, hr, hrun, hended, hend⟩ := leaveW (s := s) (vm₁ := T8.vm) X114 hS8 (by rw [E114]; exact (Nat.le_trans hk8 zs121)) (v := some (.int (1 : Int32))) (fun h => by rw [Bd.returns] at h; cases h)
  refine ⟨_, _, pre0 _ ?_, hrun, hended, _, _, rfl, ?_, hend.1, hend.2.1, hend.2.2.1, hend.2.2.2.mono (by decide) (by decide)⟩
  · show Steps p.tables e below (s₁.setTop (mkF m 0 #[.val (.int x0), .val (.long y1), .second, .val (.long y2), .second, .val (.long y3), .second, .val (.long y4), .second, .unset, .unset, .unset, .unset, .unset] [])) _
    refine st1 _ ?_
    show Steps p.tables e below (T1.setTop (mkF m 3 #[.val (.int x0), .val (.long y1), .second, .val (.long y2), .second, .val (.long y3), .second, .val (.long y4), .second, .unset, .unset, .unset, .unset, .unset] [(.ref b1)])) _
    refine XS.dup X1.here hx rfl (hb hby at_3) rfl rfl ?_
    show Steps p.tables e below (T1.setTop (mkF m 4 #[.val (.int x0), .val (.long y1), .second, .val (.long y2), .second, .val (.long y3), .second, .val (.long y4), .second, .unset, .unset, .unset, .unset, .unset] [(.ref b1), (.ref b1)])) _
    refine st8 _ ?_
    show Steps p.tables e below (T8.setTop (mkF m 6 #[.val (.int x0), .val (.long y1), .second, .val (.long y2), .second, .val (.long y3), .second, .val (.long y4), .second, .unset, .unset, .unset, .unset, .unset] [(.ref a8), (.ref b1), (.ref b1)])) _
    refine st20.trans ?_
    show Steps p.tables e below (T20.setTop (mkF m 9 #[.val (.int x0), .val (.long y1), .second, .val (.long y2), .second, .val (.long y3), .second, .val (.long y4), .second, .unset, .unset, .unset, .unset, .unset] [(.ref b1)])) _
    refine XS.astore X20.here hx rfl (hb hby at_9) rfl rfl (l' := #[.val (.int x0), .val (.long y1), .second, .val (.long y2), .second, .val (.long y3), .second, .val (.long y4), .second, .val (.ref b1), .unset, .unset, .unset, .unset]) rfl ?_
    show Steps p.tables e below (T20.setTop (mkF m 11 #[.val (.int x0), .val (.long y1), .second, .val (.long y2), .second, .val (.long y3), .second, .val (.long y4), .second, .val (.ref b1), .unset, .unset, .unset, .unset] [])) _
    refine XS.iloadN X20.here hx rfl (hb hby at_11) rfl ?_
    show Steps p.tables e below (T20.setTop (mkF m 12 #[.val (.int x0), .val (.long y1), .second, .val (.long y2), .second, .val (.long y3), .second, .val (.long y4), .second, .val (.ref b1), .unset, .unset, .unset, .unset] [(.int x0)])) _
    refine XS.iconst X20.here hx rfl (hb hby at_12) ?_
    show Steps p.tables e below (T20.setTop (mkF m 13 #[.val (.int x0), .val (.long y1), .second, .val (.long y2), .second, .val (.long y3), .second, .val (.long y4), .second, .val (.ref b1), .unset, .unset, .unset, .unset] [(.int (3 : Int32)), (.int x0)])) _
    refine XS.iand X20.here hx rfl (hb hby at_13) rfl ?_
    rw [hc34]
    show Steps p.tables e below (T20.setTop (mkF m 14 #[.val (.int x0), .val (.long y1), .second, .val (.long y2), .second, .val (.long y3), .second, .val (.long y4), .second, .val (.ref b1), .unset, .unset, .unset, .unset] [(.int (2 : Int32))])) _
    refine XS.istore X20.here hx rfl (hb hby at_14) rfl (l' := #[.val (.int x0), .val (.long y1), .second, .val (.long y2), .second, .val (.long y3), .second, .val (.long y4), .second, .val (.ref b1), .val (.int (2 : Int32)), .unset, .unset, .unset]) rfl ?_
    show Steps p.tables e below (T20.setTop (mkF m 16 #[.val (.int x0), .val (.long y1), .second, .val (.long y2), .second, .val (.long y3), .second, .val (.long y4), .second, .val (.ref b1), .val (.int (2 : Int32)), .unset, .unset, .unset] [])) _
    refine XS.iload X20.here hx rfl (hb hby at_16) rfl ?_
    show Steps p.tables e below (T20.setTop (mkF m 18 #[.val (.int x0), .val (.long y1), .second, .val (.long y2), .second, .val (.long y3), .second, .val (.long y4), .second, .val (.ref b1), .val (.int (2 : Int32)), .unset, .unset, .unset] [(.int (2 : Int32))])) _
    refine XS.ifNo X20.here hx rfl (hb hby at_18) rfl ((if0 _ _).trans (tlt (by decide : (0 : Int32) < (2 : Int32))).2.2.2) ?_
    show Steps p.tables e below (T20.setTop (mkF m 21 #[.val (.int x0), .val (.long y1), .second, .val (.long y2), .second, .val (.long y3), .second, .val (.long y4), .second, .val (.ref b1), .val (.int (2 : Int32)), .unset, .unset, .unset] [])) _
    refine XS.aload X20.here hx rfl (hb hby at_21) rfl rfl ?_
    show Steps p.tables e below (T20.setTop (mkF m 23 #[.val (.int x0), .val (.long y1), .second, .val (.long y2), .second, .val (.long y3), .second, .val (.long y4), .second, .val (.ref b1), .val (.int (2 : Int32)), .unset, .unset, .unset] [(.ref b1)])) _
    refine XS.lloadN X20.here hx rfl (hb hby at_23) rfl ?_
    show Steps p.tables e below (T20.setTop (mkF m 24 #[.val (.int x0), .val (.long y1), .second, .val (.long y2), .second, .val (.long y3), .second, .val (.long y4), .second, .val (.ref b1), .val (.int (2 : Int32)), .unset, .unset, .unset] [(.long y1), (.ref b1)])) _
    refine st40.trans ?_
    show Steps p.tables e below (T40.setTop (mkF m 27 #[.val (.int x0), .val (.long y1), .second, .val (.long y2), .second, .val (.long y3), .second, .val (.long y4), .second, .val (.ref b1), .val (.int (2 : Int32)), .unset, .unset, .unset] [])) _
    refine XS.iload X40.here hx rfl (hb hby at_27) rfl ?_
    show Steps p.tables e below (T40.setTop (mkF m 29 #[.val (.int x0), .val (.long y1), .second, .val (.long y2), .second, .val (.long y3), .second, .val (.long y4), .second, .val (.ref b1), .val (.int (2 : Int32)), .unset, .unset, .unset] [(.int (2 : Int32))])) _
    refine XS.iconst X40.here hx rfl (hb hby at_29) ?_
    show Steps p.tables e below (T40.setTop (mkF m 30 #[.val (.int x0), .val (.long y1), .second, .val (.long y2), .second, .val (.long y3), .second, .val (.long y4), .second, .val (.ref b1), .val (.int (2 : Int32)), .unset, .unset, .unset] [(.int (1 : Int32)), (.int (2 : Int32))])) _
    refine XS.icmpNo X40.here hx rfl (hb hby at_30) rfl (tlt (by decide : (1 : Int32) < (2 : Int32))).2.2.2 ?_
    show Steps p.tables e below (T40.setTop (mkF m 33 #[.val (.int x0), .val (.long y1), .second, .val (.long y2), .second, .val (.long y3), .second, .val (.long y4), .second, .val (.ref b1), .val (.int (2 : Int32)), .unset, .unset, .unset] [])) _
    refine XS.aload X40.here hx rfl (hb hby at_33) rfl rfl ?_
    show Steps p.tables e below (T40.setTop (mkF m 35 #[.val (.int x0), .val (.long y1), .second, .val (.long y2), .second, .val (.long y3), .second, .val (.long y4), .second, .val (.ref b1), .val (.int (2 : Int32)), .unset, .unset, .unset] [(.ref b1)])) _
    refine XS.lloadN X40.here hx rfl (hb hby at_35) rfl ?_
    show Steps p.tables e below (T40.setTop (mkF m 36 #[.val (.int x0), .val (.long y1), .second, .val (.long y2), .second, .val (.long y3), .second, .val (.long y4), .second, .val (.ref b1), .val (.int (2 : Int32)), .unset, .unset, .unset] [(.long y2), (.ref b1)])) _
    refine st50.trans ?_
    show Steps p.tables e below (T50.setTop (mkF m 39 #[.val (.int x0), .val (.long y1), .second, .val (.long y2), .second, .val (.long y3), .second, .val (.long y4), .second, .val (.ref b1), .val (.int (2 : Int32)), .unset, .unset, .unset] [])) _
    refine XS.iload X50.here hx rfl (hb hby at_39) rfl ?_
    show Steps p.tables e below (T50.setTop (mkF m 41 #[.val (.int x0), .val (.long y1), .second, .val (.long y2), .second, .val (.long y3), .second, .val (.long y4), .second, .val (.ref b1), .val (.int (2 : Int32)), .unset, .unset, .unset] [(.int (2 : Int32))])) _
    refine XS.iconst X50.here hx rfl (hb hby at_41) ?_
    show Steps p.tables e below (T50.setTop (mkF m 42 #[.val (.int x0), .val (.long y1), .second, .val (.long y2), .second, .val (.long y3), .second, .val (.long y4), .second, .val (.ref b1), .val (.int (2 : Int32)), .unset, .unset, .unset] [(.int (2 : Int32)), (.int (2 : Int32))])) _
    refine XS.icmpYes X50.here hx rfl (pc0 := 42) (pc' := 52) rfl (hb hby at_42) rfl (flt (by decide : ¬ ((2 : Int32) < (2 : Int32)))).2.2.2 (by decide) (by decide) ?_
    show Steps p.tables e below (T50.setTop (mkF m 52 #[.val (.int x0), .val (.long y1), .second, .val (.long y2), .second, .val (.long y3), .second, .val (.long y4), .second, .val (.ref b1), .val (.int (2 : Int32)), .unset, .unset, .unset] [])) _
    refine XS.aload X50.here hx rfl (hb hby at_52) rfl rfl ?_
    show Steps p.tables e below (T50.setTop (mkF m 54 #[.val (.int x0), .val (.long y1), .second, .val (.long y2), .second, .val (.long y3), .second, .val (.long y4), .second, .val (.ref b1), .val (.int (2 : Int32)), .unset, .unset, .unset] [(.ref b1)])) _
    refine st59.trans ?_
    show Steps p.tables e below (T59.setTop (mkF m 57 #[.val (.int x0), .val (.long y1), .second, .val (.long y2), .second, .val (.long y3), .second, .val (.long y4), .second, .val (.ref b1), .val (.int (2 : Int32)), .unset, .unset, .unset] [(.ref b59_0)])) _
    refine XS.astore X59.here hx rfl (hb hby at_57) rfl rfl (l' := #[.val (.int x0), .val (.long y1), .second, .val (.long y2), .second, .val (.long y3), .second, .val (.long y4), .second, .val (.ref b1), .val (.int (2 : Int32)), .val (.ref b59_0), .unset, .unset]) rfl ?_
    show Steps p.tables e below (T59.setTop (mkF m 59 #[.val (.int x0), .val (.long y1), .second, .val (.long y2), .second, .val (.long y3), .second, .val (.long y4), .second, .val (.ref b1), .val (.int (2 : Int32)), .val (.ref b59_0), .unset, .unset] [])) _
    refine XS.aload X59.here hx rfl (hb hby at_59) rfl rfl ?_
    show Steps p.tables e below (T59.setTop (mkF m 61 #[.val (.int x0), .val (.long y1), .second, .val (.long y2), .second, .val (.long y3), .second, .val (.long y4), .second, .val (.ref b1), .val (.int (2 : Int32)), .val (.ref b59_0), .unset, .unset] [(.ref b1)])) _
    refine XS.lload X59.here hx rfl (hb hby at_61) rfl ?_
    show Steps p.tables e below (T59.setTop (mkF m 63 #[.val (.int x0), .val (.long y1), .second, .val (.long y2), .second, .val (.long y3), .second, .val (.long y4), .second, .val (.ref b1), .val (.int (2 : Int32)), .val (.ref b59_0), .unset, .unset] [(.long y4), (.ref b1)])) _
    refine st74.trans ?_
    show Steps p.tables e below (T74.setTop (mkF m 66 #[.val (.int x0), .val (.long y1), .second, .val (.long y2), .second, .val (.long y3), .second, .val (.long y4), .second, .val (.ref b1), .val (.int (2 : Int32)), .val (.ref b59_0), .unset, .unset] [])) _
    refine XS.aload X74.here hx rfl (hb hby at_66) rfl rfl ?_
    show Steps p.tables e below (T74.setTop (mkF m 68 #[.val (.int x0), .val (.long y1), .second, .val (.long y2), .second, .val (.long y3), .second, .val (.long y4), .second, .val (.ref b1), .val (.int (2 : Int32)), .val (.ref b59_0), .unset, .unset] [(.ref b1)])) _
    refine st83.trans ?_
    show Steps p.tables e below (T83.setTop (mkF m 71 #[.val (.int x0), .val (.long y1), .second, .val (.long y2), .second, .val (.long y3), .second, .val (.long y4), .second, .val (.ref b1), .val (.int (2 : Int32)), .val (.ref b59_0), .unset, .unset] [(.ref b83_0)])) _
    refine XS.astore X83.here hx rfl (hb hby at_71) rfl rfl (l' := #[.val (.int x0), .val (.long y1), .second, .val (.long y2), .second, .val (.long y3), .second, .val (.long y4), .second, .val (.ref b1), .val (.int (2 : Int32)), .val (.ref b59_0), .val (.ref b83_0), .unset]) rfl ?_
    show Steps p.tables e below (T83.setTop (mkF m 73 #[.val (.int x0), .val (.long y1), .second, .val (.long y2), .second, .val (.long y3), .second, .val (.long y4), .second, .val (.ref b1), .val (.int (2 : Int32)), .val (.ref b59_0), .val (.ref b83_0), .unset] [])) _
    refine XS.aload X83.here hx rfl (hb hby at_73) rfl rfl ?_
    show Steps p.tables e below (T83.setTop (mkF m 75 #[.val (.int x0), .val (.long y1), .second, .val (.long y2), .second, .val (.long y3), .second, .val (.long y4), .second, .val (.ref b1), .val (.int (2 : Int32)), .val (.ref b59_0), .val (.ref b83_0), .unset] [(.ref b59_0)])) _
    refine st99.trans ?_
    show Steps p.tables e below (T99.setTop (mkF m 78 #[.val (.int x0), .val (.long y1), .second, .val (.long y2), .second, .val (.long y3), .second, .val (.long y4), .second, .val (.ref b1), .val (.int (2 : Int32)), .val (.ref b59_0), .val (.ref b83_0), .unset] [(.int (2 : Int32))])) _
    refine XS.iload X99.here hx rfl (hb hby at_78) rfl ?_
    show Steps p.tables e below (T99.setTop (mkF m 80 #[.val (.int x0), .val (.long y1), .second, .val (.long y2), .second, .val (.long y3), .second, .val (.long y4), .second, .val (.ref b1), .val (.int (2 : Int32)), .val (.ref b59_0), .val (.ref b83_0), .unset] [(.int (2 : Int32)), (.int (2 : Int32))])) _
    refine XS.icmpNo X99.here hx rfl (hb hby at_80) rfl (teq (rfl : (2 : Int32) = (2 : Int32))).2 ?_
    show Steps p.tables e below (T99.setTop (mkF m 83 #[.val (.int x0), .val (.long y1), .second, .val (.long y2), .second, .val (.long y3), .second, .val (.long y4), .second, .val (.ref b1), .val (.int (2 : Int32)), .val (.ref b59_0), .val (.ref b83_0), .unset] [])) _
    refine XS.aload X99.here hx rfl (hb hby at_83) rfl rfl ?_
    show Steps p.tables e below (T99.setTop (mkF m 85 #[.val (.int x0), .val (.long y1), .second, .val (.long y2), .second, .val (.long y3), .second, .val (.long y4), .second, .val (.ref b1), .val (.int (2 : Int32)), .val (.ref b59_0), .val (.ref b83_0), .unset] [(.ref b83_0)])) _
    refine st102.trans ?_
    show Steps p.tables e below (T102.setTop (mkF m 88 #[.val (.int x0), .val (.long y1), .second, .val (.long y2), .second, .val (.long y3), .second, .val (.long y4), .second, .val (.ref b1), .val (.int (2 : Int32)), .val (.ref b59_0), .val (.ref b83_0), .unset] [(.int (3 : Int32))])) _
    refine XS.iload X102.here hx rfl (hb hby at_88) rfl ?_
    show Steps p.tables e below (T102.setTop (mkF m 90 #[.val (.int x0), .val (.long y1), .second, .val (.long y2), .second, .val (.long y3), .second, .val (.long y4), .second, .val (.ref b1), .val (.int (2 : Int32)), .val (.ref b59_0), .val (.ref b83_0), .unset] [(.int (2 : Int32)), (.int (3 : Int32))])) _
    refine XS.iconst X102.here hx rfl (hb hby at_90) ?_
    show Steps p.tables e below (T102.setTop (mkF m 91 #[.val (.int x0), .val (.long y1), .second, .val (.long y2), .second, .val (.long y3), .second, .val (.long y4), .second, .val (.ref b1), .val (.int (2 : Int32)), .val (.ref b59_0), .val (.ref b83_0), .unset] [(.int (1 : Int32)), (.int (2 : Int32)), (.int (3 : Int32))])) _
    refine XS.iadd X102.here hx rfl (hb hby at_91) rfl ?_
    show Steps p.tables e below (T102.setTop (mkF m 92 #[.val (.int x0), .val (.long y1), .second, .val (.long y2), .second, .val (.long y3), .second, .val (.long y4), .second, .val (.ref b1), .val (.int (2 : Int32)), .val (.ref b59_0), .val (.ref b83_0), .unset] [(.int (3 : Int32)), (.int (3 : Int32))])) _
    refine XS.icmpNo X102.here hx rfl (hb hby at_92) rfl (teq (rfl : (3 : Int32) = (3 : Int32))).2 ?_
    show Steps p.tables e below (T102.setTop (mkF m 95 #[.val (.int x0), .val (.long y1), .second, .val (.long y2), .second, .val (.long y3), .second, .val (.long y4), .second, .val (.ref b1), .val (.int (2 : Int32)), .val (.ref b59_0), .val (.ref b83_0), .unset] [])) _
    refine XS.aload X102.here hx rfl (hb hby at_95) rfl rfl ?_
    show Steps p.tables e below (T102.setTop (mkF m 97 #[.val (.int x0), .val (.long y1), .second, .val (.long y2), .second, .val (.long y3), .second, .val (.long y4), .second, .val (.ref b1), .val (.int (2 : Int32)), .val (.ref b59_0), .val (.ref b83_0), .unset] [(.ref b83_0)])) _
    refine XS.iload X102.here hx rfl (hb hby at_97) rfl ?_
    show Steps p.tables e below (T102.setTop (mkF m 99 #[.val (.int x0), .val (.long y1), .second, .val (.long y2), .second, .val (.long y3), .second, .val (.long y4), .second, .val (.ref b1), .val (.int (2 : Int32)), .val (.ref b59_0), .val (.ref b83_0), .unset] [(.int (2 : Int32)), (.ref b83_0)])) _
    refine st107.trans ?_
    show Steps p.tables e below (T107.setTop (mkF m 102 #[.val (.int x0), .val (.long y1), .second, .val (.long y2), .second, .val (.long y3), .second, .val (.long y4), .second, .val (.ref b1), .val (.int (2 : Int32)), .val (.ref b59_0), .val (.ref b83_0), .unset] [(.long y4)])) _
    refine XS.lload X107.here hx rfl (hb hby at_102) rfl ?_
    show Steps p.tables e below (T107.setTop (mkF m 104 #[.val (.int x0), .val (.long y1), .second, .val (.long y2), .second, .val (.long y3), .second, .val (.long y4), .second, .val (.ref b1), .val (.int (2 : Int32)), .val (.ref b59_0), .val (.ref b83_0), .unset] [(.long y4), (.long y4)])) _
    refine XS.lcmp X107.here hx rfl (hb hby at_104) rfl ?_
    show Steps p.tables e below (T107.setTop (mkF m 105 #[.val (.int x0), .val (.long y1), .second, .val (.long y2), .second, .val (.long y3), .second, .val (.long y4), .second, .val (.ref b1), .val (.int (2 : Int32)), .val (.ref b59_0), .val (.ref b83_0), .unset] [(.int (lcmpW y4 y4))])) _
    refine XS.ifNo X107.here hx rfl (hb hby at_105) rfl ((if0 _ _).trans (teq ((by rw [lcW]; exact (lc_eq _ _).mpr (rfl : y4 = y4)) : (lcmpW y4 y4) = (0 : Int32))).2) ?_
    show Steps p.tables e below (T107.setTop (mkF m 108 #[.val (.int x0), .val (.long y1), .second, .val (.long y2), .second, .val (.long y3), .second, .val (.long y4), .second, .val (.ref b1), .val (.int (2 : Int32)), .val (.ref b59_0), .val (.ref b83_0), .unset] [])) _
    refine XS.iconst X107.here hx rfl (hb hby at_108) ?_
    show Steps p.tables e below (T107.setTop (mkF m 109 #[.val (.int x0), .val (.long y1), .second, .val (.long y2), .second, .val (.long y3), .second, .val (.long y4), .second, .val (.ref b1), .val (.int (2 : Int32)), .val (.ref b59_0), .val (.ref b83_0), .unset] [(.int (1 : Int32))])) _
    refine XS.goto X107.here hx rfl (pc0 := 109) (pc' := 113) rfl (hb hby at_109) (by decide) (by decide) ?_
    show Steps p.tables e below (T107.setTop (mkF m 113 #[.val (.int x0), .val (.long y1), .second, .val (.long y2), .second, .val (.long y3), .second, .val (.long y4), .second, .val (.ref b1), .val (.int (2 : Int32)), .val (.ref b59_0), .val (.ref b83_0), .unset] [(.int (1 : Int32))])) _
    refine XS.istore X107.here hx rfl (hb hby at_113) rfl (l' := #[.val (.int x0), .val (.long y1), .second, .val (.long y2), .second, .val (.long y3), .second, .val (.long y4), .second, .val (.ref b1), .val (.int (2 : Int32)), .val (.ref b59_0), .val (.ref b83_0), .val (.int (1 : Int32))]) rfl ?_
    show Steps p.tables e below (T107.setTop (mkF m 115 #[.val (.int x0), .val (.long y1), .second, .val (.long y2), .second, .val (.long y3), .second, .val (.long y4), .second, .val (.ref b1), .val (.int (2 : Int32)), .val (.ref b59_0), .val (.ref b83_0), .val (.int (1 : Int32))] [])) _
    refine XS.iload X107.here hx rfl (hb hby at_115) rfl ?_
    show Steps p.tables e below (T107.setTop (mkF m 117 #[.val (.int x0), .val (.long y1), .second, .val (.long y2), .second, .val (.long y3), .second, .val (.long y4), .second, .val (.ref b1), .val (.int (2 : Int32)), .val (.ref b59_0), .val (.ref b83_0), .val (.int (1 : Int32))] [(.int (2 : Int32))])) _
    refine XS.ifNo X107.here hx rfl (hb hby at_117) rfl ((if0 _ _).trans (tlt (by decide : (0 : Int32) < (2 : Int32))).2.2.2) ?_
    show Steps p.tables e below (T107.setTop (mkF m 120 #[.val (.int x0), .val (.long y1), .second, .val (.long y2), .second, .val (.long y3), .second, .val (.long y4), .second, .val (.ref b1), .val (.int (2 : Int32)), .val (.ref b59_0), .val (.ref b83_0), .val (.int (1 : Int32))] [])) _
    refine XS.iload X107.here hx rfl (hb hby at_120) rfl ?_
    show Steps p.tables e below (T107.setTop (mkF m 122 #[.val (.int x0), .val (.long y1), .second, .val (.long y2), .second, .val (.long y3), .second, .val (.long y4), .second, .val (.ref b1), .val (.int (2 : Int32)), .val (.ref b59_0), .val (.ref b83_0), .val (.int (1 : Int32))] [(.int (1 : Int32))])) _
    refine XS.ifNo X107.here hx rfl (hb hby at_122) rfl ((if0 _ _).trans (feq (by decide : ¬ ((1 : Int32) = (0 : Int32)))).1) ?_
    show Steps p.tables e below (T107.setTop (mkF m 125 #[.val (.int x0), .val (.long y1), .second, .val (.long y2), .second, .val (.long y3), .second, .val (.long y4), .second, .val (.ref b1), .val (.int (2 : Int32)), .val (.ref b59_0), .val (.ref b83_0), .val (.int (1 : Int32))] [])) _
    refine XS.aload X107.here hx rfl (hb hby at_125) rfl rfl ?_
    show Steps p.tables e below (T107.setTop (mkF m 127 #[.val (.int x0), .val (.long y1), .second, .val (.long y2), .second, .val (.long y3), .second, .val (.long y4), .second, .val (.ref b1), .val (.int (2 : Int32)), .val (.ref b59_0), .val (.ref b83_0), .val (.int (1 : Int32))] [(.ref b59_0)])) _
    refine XS.iconst X107.here hx rfl (hb hby at_127) ?_
    show Steps p.tables e below (T107.setTop (mkF m 128 #[.val (.int x0), .val (.long y1), .second, .val (.long y2), .second, .val (.long y3), .second, .val (.long y4), .second, .val (.ref b1), .val (.int (2 : Int32)), .val (.ref b59_0), .val (.ref b83_0), .val (.int (1 : Int32))] [(.int (0 : Int32)), (.ref b59_0)])) _
    refine st110.trans ?_
    show Steps p.tables e below (T110.setTop (mkF m 131 #[.val (.int x0), .val (.long y1), .second, .val (.long y2), .second, .val (.long y3), .second, .val (.long y4), .second, .val (.ref b1), .val (.int (2 : Int32)), .val (.ref b59_0), .val (.ref b83_0), .val (.int (1 : Int32))] [(.long y1)])) _
    refine XS.lloadN X110.here hx rfl (hb hby at_131) rfl ?_
    show Steps p.tables e below (T110.setTop (mkF m 132 #[.val (.int x0), .val (.long y1), .second, .val (.long y2), .second, .val (.long y3), .second, .val (.long y4), .second, .val (.ref b1), .val (.int (2 : Int32)), .val (.ref b59_0), .val (.ref b83_0), .val (.int (1 : Int32))] [(.long y1), (.long y1)])) _
    refine XS.lcmp X110.here hx rfl (hb hby at_132) rfl ?_
    show Steps p.tables e below (T110.setTop (mkF m 133 #[.val (.int x0), .val (.long y1), .second, .val (.long y2), .second, .val (.long y3), .second, .val (.long y4), .second, .val (.ref b1), .val (.int (2 : Int32)), .val (.ref b59_0), .val (.ref b83_0), .val (.int (1 : Int32))] [(.int (lcmpW y1 y1))])) _
    refine XS.ifNo X110.here hx rfl (hb hby at_133) rfl ((if0 _ _).trans (teq ((by rw [lcW]; exact (lc_eq _ _).mpr (rfl : y1 = y1)) : (lcmpW y1 y1) = (0 : Int32))).2) ?_
    show Steps p.tables e below (T110.setTop (mkF m 136 #[.val (.int x0), .val (.long y1), .second, .val (.long y2), .second, .val (.long y3), .second, .val (.long y4), .second, .val (.ref b1), .val (.int (2 : Int32)), .val (.ref b59_0), .val (.ref b83_0), .val (.int (1 : Int32))] [])) _
    refine XS.aload X110.here hx rfl (hb hby at_136) rfl rfl ?_
    show Steps p.tables e below (T110.setTop (mkF m 138 #[.val (.int x0), .val (.long y1), .second, .val (.long y2), .second, .val (.long y3), .second, .val (.long y4), .second, .val (.ref b1), .val (.int (2 : Int32)), .val (.ref b59_0), .val (.ref b83_0), .val (.int (1 : Int32))] [(.ref b83_0)])) _
    refine XS.iconst X110.here hx rfl (hb hby at_138) ?_
    show Steps p.tables e below (T110.setTop (mkF m 139 #[.val (.int x0), .val (.long y1), .second, .val (.long y2), .second, .val (.long y3), .second, .val (.long y4), .second, .val (.ref b1), .val (.int (2 : Int32)), .val (.ref b59_0), .val (.ref b83_0), .val (.int (1 : Int32))] [(.int (0 : Int32)), (.ref b83_0)])) _
    refine st112.trans ?_
    show Steps p.tables e below (T112.setTop (mkF m 142 #[.val (.int x0), .val (.long y1), .second, .val (.long y2), .second, .val (.long y3), .second, .val (.long y4), .second, .val (.ref b1), .val (.int (2 : Int32)), .val (.ref b59_0), .val (.ref b83_0), .val (.int (1 : Int32))] [(.long y1)])) _
    refine XS.lloadN X112.here hx rfl (hb hby at_142) rfl ?_
    show Steps p.tables e below (T112.setTop (mkF m 143 #[.val (.int x0), .val (.long y1), .second, .val (.long y2), .second, .val (.long y3), .second, .val (.long y4), .second, .val (.ref b1), .val (.int (2 : Int32)), .val (.ref b59_0), .val (.ref b83_0), .val (.int (1 : Int32))] [(.long y1), (.long y1)])) _
    refine XS.lcmp X112.here hx rfl (hb hby at_143) rfl ?_
    show Steps p.tables e below (T112.setTop (mkF m 144 #[.val (.int x0), .val (.long y1), .second, .val (.long y2), .second, .val (.long y3), .second, .val (.long y4), .second, .val (.ref b1), .val (.int (2 : Int32)), .val (.ref b59_0), .val (.ref b83_0), .val (.int (1 : Int32))] [(.int (lcmpW y1 y1))])) _
    refine XS.ifNo X112.here hx rfl (hb hby at_144) rfl ((if0 _ _).trans (teq ((by rw [lcW]; exact (lc_eq _ _).mpr (rfl : y1 = y1)) : (lcmpW y1 y1) = (0 : Int32))).2) ?_
    show Steps p.tables e below (T112.setTop (mkF m 147 #[.val (.int x0), .val (.long y1), .second, .val (.long y2), .second, .val (.long y3), .second, .val (.long y4), .second, .val (.ref b1), .val (.int (2 : Int32)), .val (.ref b59_0), .val (.ref b83_0), .val (.int (1 : Int32))] [])) _
    refine XS.iconst X112.here hx rfl (hb hby at_147) ?_
    show Steps p.tables e below (T112.setTop (mkF m 148 #[.val (.int x0), .val (.long y1), .second, .val (.long y2), .second, .val (.long y3), .second, .val (.long y4), .second, .val (.ref b1), .val (.int (2 : Int32)), .val (.ref b59_0), .val (.ref b83_0), .val (.int (1 : Int32))] [(.int (1 : Int32))])) _
    refine XS.goto X112.here hx rfl (pc0 := 148) (pc' := 152) rfl (hb hby at_148) (by decide) (by decide) ?_
    show Steps p.tables e below (T112.setTop (mkF m 152 #[.val (.int x0), .val (.long y1), .second, .val (.long y2), .second, .val (.long y3), .second, .val (.long y4), .second, .val (.ref b1), .val (.int (2 : Int32)), .val (.ref b59_0), .val (.ref b83_0), .val (.int (1 : Int32))] [(.int (1 : Int32))])) _
    refine XS.istore X112.here hx rfl (hb hby at_152) rfl (l' := #[.val (.int x0), .val (.long y1), .second, .val (.long y2), .second, .val (.long y3), .second, .val (.long y4), .second, .val (.ref b1), .val (.int (2 : Int32)), .val (.ref b59_0), .val (.ref b83_0), .val (.int (1 : Int32))]) rfl ?_
    show Steps p.tables e below (T112.setTop (mkF m 154 #[.val (.int x0), .val (.long y1), .second, .val (.long y2), .second, .val (.long y3), .second, .val (.long y4), .second, .val (.ref b1), .val (.int (2 : Int32)), .val (.ref b59_0), .val (.ref b83_0), .val (.int (1 : Int32))] [])) _
    refine XS.iload X112.here hx rfl (hb hby at_154) rfl ?_
    show Steps p.tables e below (T112.setTop (mkF m 156 #[.val (.int x0), .val (.long y1), .second, .val (.long y2), .second, .val (.long y3), .second, .val (.long y4), .second, .val (.ref b1), .val (.int (2 : Int32)), .val (.ref b59_0), .val (.ref b83_0), .val (.int (1 : Int32))] [(.int (2 : Int32))])) _
    refine XS.iconst X112.here hx rfl (hb hby at_156) ?_
    show Steps p.tables e below (T112.setTop (mkF m 157 #[.val (.int x0), .val (.long y1), .second, .val (.long y2), .second, .val (.long y3), .second, .val (.long y4), .second, .val (.ref b1), .val (.int (2 : Int32)), .val (.ref b59_0), .val (.ref b83_0), .val (.int (1 : Int32))] [(.int (1 : Int32)), (.int (2 : Int32))])) _
    refine XS.icmpNo X112.here hx rfl (hb hby at_157) rfl (tlt (by decide : (1 : Int32) < (2 : Int32))).2.2.2 ?_
    show Steps p.tables e below (T112.setTop (mkF m 160 #[.val (.int x0), .val (.long y1), .second, .val (.long y2), .second, .val (.long y3), .second, .val (.long y4), .second, .val (.ref b1), .val (.int (2 : Int32)), .val (.ref b59_0), .val (.ref b83_0), .val (.int (1 : Int32))] [])) _
    refine XS.iload X112.here hx rfl (hb hby at_160) rfl ?_
    show Steps p.tables e below (T112.setTop (mkF m 162 #[.val (.int x0), .val (.long y1), .second, .val (.long y2), .second, .val (.long y3), .second, .val (.long y4), .second, .val (.ref b1), .val (.int (2 : Int32)), .val (.ref b59_0), .val (.ref b83_0), .val (.int (1 : Int32))] [(.int (1 : Int32))])) _
    refine XS.ifNo X112.here hx rfl (hb hby at_162) rfl ((if0 _ _).trans (feq (by decide : ¬ ((1 : Int32) = (0 : Int32)))).1) ?_
    show Steps p.tables e below (T112.setTop (mkF m 165 #[.val (.int x0), .val (.long y1), .second, .val (.long y2), .second, .val (.long y3), .second, .val (.long y4), .second, .val (.ref b1), .val (.int (2 : Int32)), .val (.ref b59_0), .val (.ref b83_0), .val (.int (1 : Int32))] [])) _
    refine XS.aload X112.here hx rfl (hb hby at_165) rfl rfl ?_
    show Steps p.tables e below (T112.setTop (mkF m 167 #[.val (.int x0), .val (.long y1), .second, .val (.long y2), .second, .val (.long y3), .second, .val (.long y4), .second, .val (.ref b1), .val (.int (2 : Int32)), .val (.ref b59_0), .val (.ref b83_0), .val (.int (1 : Int32))] [(.ref b59_0)])) _
    refine XS.iconst X112.here hx rfl (hb hby at_167) ?_
    show Steps p.tables e below (T112.setTop (mkF m 168 #[.val (.int x0), .val (.long y1), .second, .val (.long y2), .second, .val (.long y3), .second, .val (.long y4), .second, .val (.ref b1), .val (.int (2 : Int32)), .val (.ref b59_0), .val (.ref b83_0), .val (.int (1 : Int32))] [(.int (1 : Int32)), (.ref b59_0)])) _
    refine st114.trans ?_
    show Steps p.tables e below (T114.setTop (mkF m 171 #[.val (.int x0), .val (.long y1), .second, .val (.long y2), .second, .val (.long y3), .second, .val (.long y4), .second, .val (.ref b1), .val (.int (2 : Int32)), .val (.ref b59_0), .val (.ref b83_0), .val (.int (1 : Int32))] [(.long y2)])) _
    refine XS.lloadN X114.here hx rfl (hb hby at_171) rfl ?_
    show Steps p.tables e below (T114.setTop (mkF m 172 #[.val (.int x0), .val (.long y1), .second, .val (.long y2), .second, .val (.long y3), .second, .val (.long y4), .second, .val (.ref b1), .val (.int (2 : Int32)), .val (.ref b59_0), .val (.ref b83_0), .val (.int (1 : Int32))] [(.long y2), (.long y2)])) _
    refine XS.lcmp X114.here hx rfl (hb hby at_172) rfl ?_
    show Steps p.tables e below (T114.setTop (mkF m 173 #[.val (.int x0), .val (.long y1), .second, .val (.long y2), .second, .val (.long y3), .second, .val (.long y4), .second, .val (.ref b1), .val (.int (2 : Int32)), .val (.ref b59_0), .val (.ref b83_0), .val (.int (1 : Int32))] [(.int (lcmpW y2 y2))])) _
    refine XS.ifNo X114.here hx rfl (hb hby at_173) rfl ((if0 _ _).trans (teq ((by rw [lcW]; exact (lc_eq _ _).mpr (rfl : y2 = y2)) : (lcmpW y2 y2) = (0 : Int32))).2) ?_
    show Steps p.tables e below (T114.setTop (mkF m 176 #[.val (.int x0), .val (.long y1), .second, .val (.long y2), .second, .val (.long y3), .second, .val (.long y4), .second, .val (.ref b1), .val (.int (2 : Int32)), .val (.ref b59_0), .val (.ref b83_0), .val (.int (1 : Int32))] [])) _
    refine XS.iconst X114.here hx rfl (hb hby at_176) ?_
    show Steps p.tables e below (T114.setTop (mkF m 177 #[.val (.int x0), .val (.long y1), .second, .val (.long y2), .second, .val (.long y3), .second, .val (.long y4), .second, .val (.ref b1), .val (.int (2 : Int32)), .val (.ref b59_0), .val (.ref b83_0), .val (.int (1 : Int32))] [(.int (1 : Int32))])) _
    refine XS.goto X114.here hx rfl (pc0 := 177) (pc' := 181) rfl (hb hby at_177) (by decide) (by decide) ?_
    show Steps p.tables e below (T114.setTop (mkF m 181 #[.val (.int x0), .val (.long y1), .second, .val (.long y2), .second, .val (.long y3), .second, .val (.long y4), .second, .val (.ref b1), .val (.int (2 : Int32)), .val (.ref b59_0), .val (.ref b83_0), .val (.int (1 : Int32))] [(.int (1 : Int32))])) _
    refine XS.istore X114.here hx rfl (hb hby at_181) rfl (l' := #[.val (.int x0), .val (.long y1), .second, .val (.long y2), .second, .val (.long y3), .second, .val (.long y4), .second, .val (.ref b1), .val (.int (2 : Int32)), .val (.ref b59_0), .val (.ref b83_0), .val (.int (1 : Int32))]) rfl ?_
    show Steps p.tables e below (T114.setTop (mkF m 183 #[.val (.int x0), .val (.long y1), .second, .val (.long y2), .second, .val (.long y3), .second, .val (.long y4), .second, .val (.ref b1), .val (.int (2 : Int32)), .val (.ref b59_0), .val (.ref b83_0), .val (.int (1 : Int32))] [])) _
    refine XS.iload X114.here hx rfl (hb hby at_183) rfl ?_
    show Steps p.tables e below (T114.setTop (mkF m 185 #[.val (.int x0), .val (.long y1), .second, .val (.long y2), .second, .val (.long y3), .second, .val (.long y4), .second, .val (.ref b1), .val (.int (2 : Int32)), .val (.ref b59_0), .val (.ref b83_0), .val (.int (1 : Int32))] [(.int (2 : Int32))])) _
    refine XS.iconst X114.here hx rfl (hb hby at_185) ?_
    show Steps p.tables e below (T114.setTop (mkF m 186 #[.val (.int x0), .val (.long y1), .second, .val (.long y2), .second, .val (.long y3), .second, .val (.long y4), .second, .val (.ref b1), .val (.int (2 : Int32)), .val (.ref b59_0), .val (.ref b83_0), .val (.int (1 : Int32))] [(.int (2 : Int32)), (.int (2 : Int32))])) _
    refine XS.icmpYes X114.here hx rfl (pc0 := 186) (pc' := 213) rfl (hb hby at_186) rfl (flt (by decide : ¬ ((2 : Int32) < (2 : Int32)))).2.2.2 (by decide) (by decide) ?_
    show Steps p.tables e below (T114.setTop (mkF m 213 #[.val (.int x0), .val (.long y1), .second, .val (.long y2), .second, .val (.long y3), .second, .val (.long y4), .second, .val (.ref b1), .val (.int (2 : Int32)), .val (.ref b59_0), .val (.ref b83_0), .val (.int (1 : Int32))] [])) _
    refine XS.iload X114.here hx rfl (hb hby at_213) rfl ?_
    show Steps p.tables e below (T114.setTop (mkF m 215 #[.val (.int x0), .val (.long y1), .second, .val (.long y2), .second, .val (.long y3), .second, .val (.long y4), .second, .val (.ref b1), .val (.int (2 : Int32)), .val (.ref b59_0), .val (.ref b83_0), .val (.int (1 : Int32))] [(.int (1 : Int32))])) _
    exact retN X114 hx (t := .boolean) Bd.returns (by simp) (hb hby at_215) hr
  · show Q0_3 Z x0 y1 y2 y3 y4 h0 n0 _ T114.heap _
    rw [E114]
    exact ⟨rfl, N114⟩
def Q5_4 (Z : State) (r0 : Addr) (y1 : Int64) (r2 : Addr) (c3 : ClassId) (y4 : Int64) (y5 : Int64) (y6 : Int64) (r7 : Addr) (r8 : Addr) (h0 : Heap) (n0 : Nat) (v : Option Value) (h : Heap) (L : List Loc) : Prop := v = none ∧ Fr n0 L ∧ Keep h0 h [r0, r2] ∧ Fld Z h r0 cs0 "filled" "I" (.int (4 : Int32)) ∧ Fld Z h r0 cs0 "filling" "[J" (.ref r2) ∧ Fld Z h r0 cs0 "size" "I" (.int (4 : Int32)) ∧ Fld Z h r0 cs0 "chunks" "[[J" (.ref r7) ∧ Fld Z h r0 cs0 "items" "Ljava/lang/String;" (.ref r8) ∧ Arv Z h r2 c3 .long (1024 : Int32) [(.long y4), (.long y5), (.long y6), (.long y1), (.long (0 : Int64)), (.long (0 : Int64)), (.long (0 : Int64)), (.long (0 : Int64))] (.long (0 : Int64))
set_option maxRecDepth 65536 in
set_option maxHeartbeats 40000000 in
theorem rm5_4 (l : Launch) (Z : State) (a0 : Array Value) (hw : ∀ d ∈ tables_1, d.before a0 Z = true) (ws : List Jvm.Cond) (r0 : Addr) (y1 : Int64) (r2 : Addr) (c3 : ClassId) (y4 : Int64) (y5 : Int64) (y6 : Int64) (r7 : Addr) (r8 : Addr) (h0 : Heap) (n0 : Nat) (O0 : Old Z n0 h0) (f1 : Fld Z h0 r0 cs0 "filled" "I" (.int (3 : Int32))) (f3 : Fld Z h0 r0 cs0 "filling" "[J" (.ref r2)) (f5 : Arv Z h0 r2 c3 .long (1024 : Int32) [(.long y4), (.long y5), (.long y6), (.long (0 : Int64)), (.long (0 : Int64)), (.long (0 : Int64)), (.long (0 : Int64)), (.long (0 : Int64))] (.long (0 : Int64))) (f9 : Exa Z h0 r0 cs0) (g10 : n0 ≤ r0) (n12 : r2 ≠ r0) (g15 : n0 ≤ r2) (f17 : Fld Z h0 r0 cs0 "size" "I" (.int (3 : Int32))) (f22 : Fld Z h0 r0 cs0 "chunks" "[[J" (.ref r7)) (f24 : Fld Z h0 r0 cs0 "items" "Ljava/lang/String;" (.ref r8)) :
    MetFree l (⟨cs0, "add", "(J)V"⟩ : MethodName) (head1 (Jvm.Cond.code (⟨cs0, "add", "(J)V"⟩ : MethodName) prog_13_method_2_code 3 none :: ws) ({ frames := 0, cells := 0, slots := 0, locals := 0 } : Room)) (fun a U => a = #[(.ref r0), (.long y1)] ∧ Z.Warmed39 U.vm ∧ U.heap = h0) (fun _ _ _ _ _ => True) (fun _ U o U' => ∃ v L, o = .returned v ∧ Q5_4 Z r0 y1 r2 c3 y4 y5 y6 r7 r8 h0 n0 v U'.heap L ∧ FrameEnd U o U' L ({ frames := 0, cells := 0, slots := 0, locals := 0 } : Room).cells ({ frames := 0, cells := 0, slots := 0, locals := 0 } : Room).slots) := by
  refine MetFree.of_bodySF (plainFor_of_name pn_com_example_links_to_ranks_linkstoranks_LongList) hisR ?_
  intro p e s m args below meth c s₁ Bd hml0 hP hK
  obtain ⟨rfl, hZ, hh⟩ := hP
  have hx := Bd.exec
  have hby := Bd.bytes
  have hml : c.maxLocals = 3 := hml0
  have hown : s.vm.findClass cs0 = some m.cls := findClass_of_methodNamed Bd.named
  have hnm := (name_of_methodNamed Bd.named Bd.method).1
  have X0 : Stand p l e ({ frames := 0, cells := 0, slots := 0, locals := 0 } : Room) s m #[(.ref r0), (.long y1)] below meth c s₁ [] 0 0 := Stand.of_body Bd
  have e0 : s₁.heap = h0 := by rw [← hh, Bd.state]; rfl
  have N0 := Fr.nil n0
  have pre0 : ∀ t, Steps p.tables e below (s₁.setTop (mkF m 0 #[.val (.ref r0), .val (.long y1), .second] [])) t → Steps p.tables e below (s₁.setTop (entryFrame m #[(.ref r0), (.long y1)] 3)) t := fun t k => castTop (by first | (simp [entryFrame, mkF, argsToLocals, Value.category]; done) | rfl) k
  obtain ⟨T2, X2, e2, st2⟩ := getF X0 hx hZ hown (host := "") (Or.inl (ww hw 50 rfl)) Via.refl e0 f1 (g := (mkF m 1 #[.val (.ref r0), .val (.long y1), .second] [(.ref r0)])) rfl rfl (hb hby d5_1)
  obtain ⟨T4, X4, e4, st4⟩ := getF X2 hx hZ hown (host := "") (Or.inl (ww hw 23 rfl)) Via.refl e2 f3 (g := (mkF m 5 #[.val (.ref r0), .val (.long y1), .second] [(.ref r0), (.int (3 : Int32))])) rfl rfl (hb hby d5_5)
  obtain ⟨clq6, Arq6, qq6, Sq6, Nq6, Hq6, Gq6⟩ := id f5
  obtain ⟨T7, X7, e7, st7⟩ := getF X4 hx hZ hown (host := "") (Or.inl (ww hw 23 rfl)) Via.refl e4 f3 (g := (mkF m 17 #[.val (.ref r0), .val (.long y1), .second] [(.ref r0)])) rfl rfl (hb hby d5_17)
  obtain ⟨T8, X8, e8, st8⟩ := getF X7 hx hZ hown (host := "") (Or.inl (ww hw 50 rfl)) Via.refl e7 f1 (g := (mkF m 22 #[.val (.ref r0), .val (.long y1), .second] [(.ref r0), (.ref r0), (.ref r2)])) rfl rfl (hb hby d5_22)
  obtain ⟨T11, h11, X11, e11, W11, st11⟩ := putF X8 hx hZ hown (host := "") (Or.inl (ww hw 50 rfl)) Via.refl e8 f1 f9 (Or.inl (ww hw 51 rfl)) (ww hw 1 rfl) (ty := .int) (by decide) rfl rfl (g := (mkF m 28 #[.val (.ref r0), .val (.long y1), .second] [(.int (4 : Int32)), (.ref r0), (.int (3 : Int32)), (.ref r2)])) rfl rfl (hb hby d5_28)
  have Fw11 := f1.same W11
  have N11 := Fr.snoc X11 N0 g10
  have f13 := (f5.other W11 n12)
  obtain ⟨clq14, Arq14, qq14, Sq14, Nq14, Hq14, Gq14⟩ := id f13
  obtain ⟨T16, h16, X16, e16, W16, st16⟩ := stJ X11 hx hZ e11 Arq14 (j := (3 : Int32)) (inb_of Sq14 ⟨(by decide : ¬ ((3 : Int32) < (0 : Int32))), (by decide : (3 : Int32) < (1024 : Int32))⟩) (g := (mkF m 32 #[.val (.ref r0), .val (.long y1), .second] [(.long y1), (.int (3 : Int32)), (.ref r2)])) rfl rfl (hb hby d5_32)
  have V16 : Arv Z h16 r2 c3 .long (1024 : Int32) [(.long y4), (.long y5), (.long y6), (.long y1), (.long (0 : Int64)), (.long (0 : Int64)), (.long (0 : Int64)), (.long (0 : Int64))] (.long (0 : Int64)) := Arv.set Arq14 qq14 Sq14 Nq14 Hq14 Gq14 rfl W16 3 rfl (Nat.le_of_ble_eq_true rfl)
  have N16 := Fr.snoc X16 N11 g15
  have f18 := ((f17.other W11 (Or.inr (slot_ne (Or.inl (ww hw 36 rfl)) (Or.inl (ww hw 51 rfl)) (by decide) (t := .int) (t' := .int) (by decide) (by decide)))).other W16 (Or.inl (Ne.symm n12)))
  obtain ⟨T19, X19, e19, st19⟩ := getF X16 hx hZ hown (host := "") (Or.inl (ww hw 35 rfl)) Via.refl e16 f18 (g := (mkF m 35 #[.val (.ref r0), .val (.long y1), .second] [(.ref r0), (.ref r0)])) rfl rfl (hb hby d5_35)
  have f20 := ((f9.wr W11).wr W16)
  obtain ⟨T21, h21, X21, e21, W21, st21⟩ := putF X19 hx hZ hown (host := "") (Or.inl (ww hw 35 rfl)) Via.refl e19 f18 f20 (Or.inl (ww hw 36 rfl)) (ww hw 1 rfl) (ty := .int) (by decide) rfl rfl (g := (mkF m 40 #[.val (.ref r0), .val (.long y1), .second] [(.int (4 : Int32)), (.ref r0)])) rfl rfl (hb hby d5_40)
  have Fw21 := f18.same W21
  have N21 := Fr.snoc X21 N16 g10
  have f23 := (((f22.other W11 (Or.inr (slot_ne (Or.inl (ww hw 22 rfl)) (Or.inl (ww hw 51 rfl)) (by decide) (t := (.array (.array .long))) (t' := .int) (by decide) (by decide)))).other W16 (Or.inl (Ne.symm n12))).other W21 (Or.inr (slot_ne (Or.inl (ww hw 22 rfl)) (Or.inl (ww hw 36 rfl)) (by decide) (t := (.array (.array .long))) (t' := .int) (by decide) (by decide))))
  have f25 := (((f24.other W11 (Or.inr (slot_ne (Or.inr (ww hw 26 rfl)) (Or.inl (ww hw 51 rfl)) (by decide) (t := (.object "java/lang/String")) (t' := .int) (by decide) (by decide)))).other W16 (Or.inl (Ne.symm n12))).other W21 (Or.inr (slot_ne (Or.inr (ww hw 26 rfl)) (Or.inl (ww hw 36 rfl)) (by decide) (t := (.object "java/lang/String")) (t' := .int) (by decide) (by decide))))
  have f26 := ((Fw11.other W16 (Or.inl (Ne.symm n12))).other W21 (Or.inr (slot_ne (Or.inl (ww hw 51 rfl)) (Or.inl (ww hw 36 rfl)) (by decide) (t := .int) (t' := .int) (by decide) (by decide))))
  have f27 := (((f3.other W11 (Or.inr (slot_ne (Or.inl (ww hw 24 rfl)) (Or.inl (ww hw 51 rfl)) (by decide) (t := (.array .long)) (t' := .int) (by decide) (by decide)))).other W16 (Or.inl (Ne.symm n12))).other W21 (Or.inr (slot_ne (Or.inl (ww hw 24 rfl)) (Or.inl (ww hw 36 rfl)) (by decide) (t := (.array .long)) (t' := .int) (by decide) (by decide))))
  have f28 := (V16.other W21 n12)
  have kp29 : Keep h0 h11 [r0, r2] := (Keep.refl h0 [r0, r2]).wr W11 (Or.inl (List.mem_of_getElem? (i := 0) rfl))
  have kp30 : Keep h0 h16 [r0, r2] := kp29.wr W16 (Or.inl (List.mem_of_getElem? (i := 1) rfl))
  have kp31 : Keep h0 h21 [r0, r2] := kp30.wr W21 (Or.inl (List.mem_of_getElem? (i := 0) rfl))
  obtain ⟨fs, hr, hrun, hended, hW, hsame⟩ := X21.leave (v := none) (fun _ => rfl)
  refine ⟨_, _, pre0 _ ?_, hrun, hended, _, _, rfl, ?_, ⟨_, rfl⟩, hW, hsame.mono (by decide) (by decide)⟩
  · show Steps p.tables e below (s₁.setTop (mkF m 0 #[.val (.ref r0), .val (.long y1), .second] [])) _
    refine XS.aloadN X0.here hx rfl (hb hby d5_0) rfl rfl ?_
    show Steps p.tables e below (s₁.setTop (mkF m 1 #[.val (.ref r0), .val (.long y1), .second] [(.ref r0)])) _
    refine st2 _ ?_
    show Steps p.tables e below (T2.setTop (mkF m 4 #[.val (.ref r0), .val (.long y1), .second] [(.int (3 : Int32))])) _
    refine XS.aloadN X2.here hx rfl (hb hby d5_4) rfl rfl ?_
    show Steps p.tables e below (T2.setTop (mkF m 5 #[.val (.ref r0), .val (.long y1), .second] [(.ref r0), (.int (3 : Int32))])) _
    refine st4 _ ?_
    show Steps p.tables e below (T4.setTop (mkF m 8 #[.val (.ref r0), .val (.long y1), .second] [(.ref r2), (.int (3 : Int32))])) _
    refine X4.arraylength hx (by rw [e4]; exact Arq6.1) (State.isArrayOf_alike hZ.alike Arq6.2.1) (g := (mkF m 8 #[.val (.ref r0), .val (.long y1), .second] [(.ref r2), (.int (3 : Int32))])) rfl rfl (hb hby d5_8) _ ?_
    rw [len_of Sq6 Nq6]
    show Steps p.tables e below (T4.setTop (mkF m 9 #[.val (.ref r0), .val (.long y1), .second] [(.int (1024 : Int32)), (.int (3 : Int32))])) _
    refine XS.icmpYes X4.here hx rfl (pc0 := 9) (pc' := 16) rfl (hb hby d5_9) rfl (feq (by decide : ¬ ((3 : Int32) = (1024 : Int32)))).2 (by decide) (by decide) ?_
    show Steps p.tables e below (T4.setTop (mkF m 16 #[.val (.ref r0), .val (.long y1), .second] [])) _
    refine XS.aloadN X4.here hx rfl (hb hby d5_16) rfl rfl ?_
    show Steps p.tables e below (T4.setTop (mkF m 17 #[.val (.ref r0), .val (.long y1), .second] [(.ref r0)])) _
    refine st7 _ ?_
    show Steps p.tables e below (T7.setTop (mkF m 20 #[.val (.ref r0), .val (.long y1), .second] [(.ref r2)])) _
    refine XS.aloadN X7.here hx rfl (hb hby d5_20) rfl rfl ?_
    show Steps p.tables e below (T7.setTop (mkF m 21 #[.val (.ref r0), .val (.long y1), .second] [(.ref r0), (.ref r2)])) _
    refine XS.dup X7.here hx rfl (hb hby d5_21) rfl rfl ?_
    show Steps p.tables e below (T7.setTop (mkF m 22 #[.val (.ref r0), .val (.long y1), .second] [(.ref r0), (.ref r0), (.ref r2)])) _
    refine st8 _ ?_
    show Steps p.tables e below (T8.setTop (mkF m 25 #[.val (.ref r0), .val (.long y1), .second] [(.int (3 : Int32)), (.ref r0), (.ref r2)])) _
    refine XS.dupX1 X8.here hx rfl (hb hby d5_25) rfl rfl rfl ?_
    show Steps p.tables e below (T8.setTop (mkF m 26 #[.val (.ref r0), .val (.long y1), .second] [(.int (3 : Int32)), (.ref r0), (.int (3 : Int32)), (.ref r2)])) _
    refine XS.iconst X8.here hx rfl (hb hby d5_26) ?_
    show Steps p.tables e below (T8.setTop (mkF m 27 #[.val (.ref r0), .val (.long y1), .second] [(.int (1 : Int32)), (.int (3 : Int32)), (.ref r0), (.int (3 : Int32)), (.ref r2)])) _
    refine XS.iadd X8.here hx rfl (hb hby d5_27) rfl ?_
    show Steps p.tables e below (T8.setTop (mkF m 28 #[.val (.ref r0), .val (.long y1), .second] [(.int (4 : Int32)), (.ref r0), (.int (3 : Int32)), (.ref r2)])) _
    refine st11 _ ?_
    show Steps p.tables e below (T11.setTop (mkF m 31 #[.val (.ref r0), .val (.long y1), .second] [(.int (3 : Int32)), (.ref r2)])) _
    refine XS.lloadN X11.here hx rfl (hb hby d5_31) rfl ?_
    show Steps p.tables e below (T11.setTop (mkF m 32 #[.val (.ref r0), .val (.long y1), .second] [(.long y1), (.int (3 : Int32)), (.ref r2)])) _
    refine st16 _ ?_
    show Steps p.tables e below (T16.setTop (mkF m 33 #[.val (.ref r0), .val (.long y1), .second] [])) _
    refine XS.aloadN X16.here hx rfl (hb hby d5_33) rfl rfl ?_
    show Steps p.tables e below (T16.setTop (mkF m 34 #[.val (.ref r0), .val (.long y1), .second] [(.ref r0)])) _
    refine XS.dup X16.here hx rfl (hb hby d5_34) rfl rfl ?_
    show Steps p.tables e below (T16.setTop (mkF m 35 #[.val (.ref r0), .val (.long y1), .second] [(.ref r0), (.ref r0)])) _
    refine st19 _ ?_
    show Steps p.tables e below (T19.setTop (mkF m 38 #[.val (.ref r0), .val (.long y1), .second] [(.int (3 : Int32)), (.ref r0)])) _
    refine XS.iconst X19.here hx rfl (hb hby d5_38) ?_
    show Steps p.tables e below (T19.setTop (mkF m 39 #[.val (.ref r0), .val (.long y1), .second] [(.int (1 : Int32)), (.int (3 : Int32)), (.ref r0)])) _
    refine XS.iadd X19.here hx rfl (hb hby d5_39) rfl ?_
    show Steps p.tables e below (T19.setTop (mkF m 40 #[.val (.ref r0), .val (.long y1), .second] [(.int (4 : Int32)), (.ref r0)])) _
    refine st21 _ ?_
    show Steps p.tables e below (T21.setTop (mkF m 43 #[.val (.ref r0), .val (.long y1), .second] [])) _
    exact X21.returnOut hx Bd.returns (hb hby d5_43) hr
  · show Q5_4 Z r0 y1 r2 c3 y4 y5 y6 r7 r8 h0 n0 _ T21.heap _
    rw [e21]
    exact ⟨rfl, N21, kp31, f26, f27, Fw21, f23, f25, f28⟩
def Q4_5 (Z : State) (r0 : Addr) (r1 : Addr) (h0 : Heap) (n0 : Nat) (v : Option Value) (h : Heap) (L : List Loc) : Prop := v = none ∧ Fr n0 L ∧ Keep h0 h [r0] ∧ Fld Z h r0 cs1 "chunks" "[[J" (.ref r1) ∧ Fld Z h r0 cs1 "size" "I" (.int (4 : Int32))
set_option maxRecDepth 65536 in
set_option maxHeartbeats 40000000 in
theorem rm4_5 (l : Launch) (Z : State) (a0 : Array Value) (hw : ∀ d ∈ tables_1, d.before a0 Z = true) (ws : List Jvm.Cond) (r0 : Addr) (r1 : Addr) (h0 : Heap) (n0 : Nat) (O0 : Old Z n0 h0) (f2 : Exa Z h0 r0 cs1) (f3 : Fld Z h0 r0 cs1 "chunks" "[[J" .null) (g4 : n0 ≤ r0) (f7 : Fld Z h0 r0 cs1 "size" "I" (.int (0 : Int32))) :
    MetFree l (⟨cs1, "<init>", "([[JI)V"⟩ : MethodName) (head1 (Jvm.Cond.code (⟨cs1, "<init>", "([[JI)V"⟩ : MethodName) prog_14_method_1_code 3 none :: ws) ({ frames := 1, cells := 0, slots := 0, locals := 12 } : Room)) (fun a U => a = #[(.ref r0), (.ref r1), (.int (4 : Int32))] ∧ Z.Warmed39 U.vm ∧ U.heap = h0) (fun _ _ _ _ _ => True) (fun _ U o U' => ∃ v L, o = .returned v ∧ Q4_5 Z r0 r1 h0 n0 v U'.heap L ∧ FrameEnd U o U' L ({ frames := 1, cells := 0, slots := 0, locals := 12 } : Room).cells ({ frames := 1, cells := 0, slots := 0, locals := 12 } : Room).slots) := by
  refine MetFree.of_bodySF (plainFor_of_name pn_com_example_links_to_ranks_linkstoranks_LongList_View) hisR ?_
  intro p e s m args below meth c s₁ Bd hml0 hP hK
  obtain ⟨rfl, hZ, hh⟩ := hP
  have hx := Bd.exec
  have hby := Bd.bytes
  have hml : c.maxLocals = 3 := hml0
  have hown : s.vm.findClass cs1 = some m.cls := findClass_of_methodNamed Bd.named
  have hnm := (name_of_methodNamed Bd.named Bd.method).1
  have X0 : Stand p l e ({ frames := 1, cells := 0, slots := 0, locals := 12 } : Room) s m #[(.ref r0), (.ref r1), (.int (4 : Int32))] below meth c s₁ [] 0 0 := Stand.of_body Bd
  have e0 : s₁.heap = h0 := by rw [← hh, Bd.state]; rfl
  have N0 := Fr.nil n0
  have pre0 : ∀ t, Steps p.tables e below (s₁.setTop (mkF m 0 #[.val (.ref r0), .val (.ref r1), .val (.int (4 : Int32))] [])) t → Steps p.tables e below (s₁.setTop (entryFrame m #[(.ref r0), (.ref r1), (.int (4 : Int32))] 3)) t := fun t k => castTop (by first | (simp [entryFrame, mkF, argsToLocals, Value.category]; done) | rfl) k
  obtain ⟨T1, X1, e1, st1⟩ := initO X0 hx hZ hown (ww hw 40 rfl) (ww hw 15 rfl) (ww hw 16 rfl) e0 (g := (mkF m 1 #[.val (.ref r0), .val (.ref r1), .val (.int (4 : Int32))] [(.ref r0)])) rfl (by rw [hml]; rfl) rfl (hb hby d4_1) (by decide) (W := 0) (by show 2 * 0 + _ ≤ _; exact Nat.le_of_eq rfl) (by decide)
  obtain ⟨T5, h5, X5, e5, W5, st5⟩ := putF X1 hx hZ hown (host := "") (Or.inl (ww hw 41 rfl)) Via.refl e1 f3 f2 (Or.inr ⟨(ww hw 42 rfl), rfl, hnm⟩) (ww hw 33 rfl) (ty := (.array (.array .long))) (by decide) rfl rfl (g := (mkF m 6 #[.val (.ref r0), .val (.ref r1), .val (.int (4 : Int32))] [(.ref r1), (.ref r0)])) rfl rfl (hb hby d4_6)
  have Fw5 := f3.same W5
  have N5 := Fr.snoc X5 N0 g4
  have f6 := (f2.wr W5)
  have f8 := (f7.other W5 (Or.inr (slot_ne (Or.inr (ww hw 44 rfl)) (Or.inr (ww hw 42 rfl)) (by decide) (t := .int) (t' := (.array (.array .long))) (by decide) (by decide))))
  obtain ⟨T9, h9, X9, e9, W9, st9⟩ := putF X5 hx hZ hown (host := "") (Or.inl (ww hw 43 rfl)) Via.refl e5 f8 f6 (Or.inr ⟨(ww hw 44 rfl), rfl, hnm⟩) (ww hw 33 rfl) (ty := .int) (by decide) rfl rfl (g := (mkF m 11 #[.val (.ref r0), .val (.ref r1), .val (.int (4 : Int32))] [(.int (4 : Int32)), (.ref r0)])) rfl rfl (hb hby d4_11)
  have Fw9 := f8.same W9
  have N9 := Fr.snoc X9 N5 g4
  have f10 := (Fw5.other W9 (Or.inr (slot_ne (Or.inr (ww hw 42 rfl)) (Or.inr (ww hw 44 rfl)) (by decide) (t := (.array (.array .long))) (t' := .int) (by decide) (by decide))))
  have kp11 : Keep h0 h5 [r0] := (Keep.refl h0 [r0]).wr W5 (Or.inl (List.mem_of_getElem? (i := 0) rfl))
  have kp12 : Keep h0 h9 [r0] := kp11.wr W9 (Or.inl (List.mem_of_getElem? (i := 0) rfl))
  obtain ⟨fs, hr, hrun, hended, hW, hsame⟩ := X9.leave (v := none) (fun _ => rfl)
  refine ⟨_, _, pre0 _ ?_, hrun, hended, _, _, rfl, ?_, ⟨_, rfl⟩, hW, hsame.mono (by decide) (by decide)⟩
  · show Steps p.tables e below (s₁.setTop (mkF m 0 #[.val (.ref r0), .val (.ref r1), .val (.int (4 : Int32))] [])) _
    refine XS.aloadN X0.here hx rfl (hb hby d4_0) rfl rfl ?_
    show Steps p.tables e below (s₁.setTop (mkF m 1 #[.val (.ref r0), .val (.ref r1), .val (.int (4 : Int32))] [(.ref r0)])) _
    refine st1 _ ?_
    show Steps p.tables e below (T1.setTop (mkF m 4 #[.val (.ref r0), .val (.ref r1), .val (.int (4 : Int32))] [])) _
    refine XS.aloadN X1.here hx rfl (hb hby d4_4) rfl rfl ?_
    show Steps p.tables e below (T1.setTop (mkF m 5 #[.val (.ref r0), .val (.ref r1), .val (.int (4 : Int32))] [(.ref r0)])) _
    refine XS.aloadN X1.here hx rfl (hb hby d4_5) rfl rfl ?_
    show Steps p.tables e below (T1.setTop (mkF m 6 #[.val (.ref r0), .val (.ref r1), .val (.int (4 : Int32))] [(.ref r1), (.ref r0)])) _
    refine st5 _ ?_
    show Steps p.tables e below (T5.setTop (mkF m 9 #[.val (.ref r0), .val (.ref r1), .val (.int (4 : Int32))] [])) _
    refine XS.aloadN X5.here hx rfl (hb hby d4_9) rfl rfl ?_
    show Steps p.tables e below (T5.setTop (mkF m 10 #[.val (.ref r0), .val (.ref r1), .val (.int (4 : Int32))] [(.ref r0)])) _
    refine XS.iloadN X5.here hx rfl (hb hby d4_10) rfl ?_
    show Steps p.tables e below (T5.setTop (mkF m 11 #[.val (.ref r0), .val (.ref r1), .val (.int (4 : Int32))] [(.int (4 : Int32)), (.ref r0)])) _
    refine st9 _ ?_
    show Steps p.tables e below (T9.setTop (mkF m 14 #[.val (.ref r0), .val (.ref r1), .val (.int (4 : Int32))] [])) _
    exact X9.returnOut hx Bd.returns (hb hby d4_14) hr
  · show Q4_5 Z r0 r1 h0 n0 _ T9.heap _
    rw [e9]
    exact ⟨rfl, N9, kp12, f10, Fw9⟩
def Q3_5 (Z : State) (r0 : Addr) (r1 : Addr) (h0 : Heap) (n0 : Nat) (v : Option Value) (h : Heap) (L : List Loc) : Prop := ∃ (b1 : Addr), v = some (.ref b1) ∧ Fr n0 L ∧ Keep h0 h [] ∧ h0.size ≤ b1 ∧ Exa Z h b1 cs1 ∧ Fld Z h b1 cs1 "chunks" "[[J" (.ref r1) ∧ Fld Z h b1 cs1 "size" "I" (.int (4 : Int32))
set_option maxRecDepth 65536 in
set_option maxHeartbeats 40000000 in
theorem rm3_5 (l : Launch) (Z : State) (a0 : Array Value) (hw : ∀ d ∈ tables_1, d.before a0 Z = true) (ws : List Jvm.Cond) (r0 : Addr) (r1 : Addr) (h0 : Heap) (n0 : Nat) (O0 : Old Z n0 h0) (f4 : Fld Z h0 r0 cs0 "chunks" "[[J" (.ref r1)) (f7 : Fld Z h0 r0 cs0 "size" "I" (.int (4 : Int32))) :
    MetFree l (⟨cs0, "view", cs2⟩ : MethodName) (head1 (Jvm.Cond.code (⟨cs0, "view", cs2⟩ : MethodName) prog_13_method_4_code 1 (some (.object cs1)) :: ws) ({ frames := 2, cells := 1, slots := 2, locals := 27 } : Room)) (fun a U => a = #[(.ref r0)] ∧ Z.Warmed39 U.vm ∧ U.heap = h0) (fun _ _ _ _ _ => True) (fun _ U o U' => ∃ v L, o = .returned v ∧ Q3_5 Z r0 r1 h0 n0 v U'.heap L ∧ FrameEnd U o U' L ({ frames := 2, cells := 1, slots := 2, locals := 27 } : Room).cells ({ frames := 2, cells := 1, slots := 2, locals := 27 } : Room).slots) := by
  refine MetFree.of_bodySF (plainFor_of_name pn_com_example_links_to_ranks_linkstoranks_LongList) hisR ?_
  intro p e s m args below meth c s₁ Bd hml0 hP hK
  obtain ⟨rfl, hZ, hh⟩ := hP
  have hx := Bd.exec
  have hby := Bd.bytes
  have hml : c.maxLocals = 1 := hml0
  have hown : s.vm.findClass cs0 = some m.cls := findClass_of_methodNamed Bd.named
  have hnm := (name_of_methodNamed Bd.named Bd.method).1
  have X0 : Stand p l e ({ frames := 2, cells := 1, slots := 2, locals := 27 } : Room) s m #[(.ref r0)] below meth c s₁ [] 0 0 := Stand.of_body Bd
  have e0 : s₁.heap = h0 := by rw [← hh, Bd.state]; rfl
  have N0 := Fr.nil n0
  have pre0 : ∀ t, Steps p.tables e below (s₁.setTop (mkF m 0 #[.val (.ref r0)] [])) t → Steps p.tables e below (s₁.setTop (entryFrame m #[(.ref r0)] 1)) t := fun t k => castTop (by first | (simp [entryFrame, mkF, argsToLocals, Value.category]; done) | rfl) k
  obtain ⟨T1, h1, X1, e1, E1, A1, D1, -, st1⟩ := newO X0 hx hZ hown (ww hw 32 rfl) (ww hw 33 rfl) (ww hw 34 rfl) e0 (g := (mkF m 0 #[.val (.ref r0)] [])) rfl (hb hby d3_0) (by decide) (by decide)
  obtain ⟨b1, g1⟩ : ∃ z, z = h0.size := ⟨_, rfl⟩
  rw [← g1] at A1 D1 st1
  have f2 : Fld Z h1 b1 cs1 "chunks" "[[J" .null := D1 (Or.inr (ww hw 42 rfl)) (ty := (.array (.array .long))) (by decide)
  have f3 : Fld Z h1 b1 cs1 "size" "I" (.int (0 : Int32)) := D1 (Or.inr (ww hw 44 rfl)) (ty := .int) (by decide)
  have f5 := (f4.ext E1)
  obtain ⟨T6, X6, e6, st6⟩ := getF X1 hx hZ hown (host := "") (Or.inl (ww hw 21 rfl)) Via.refl e1 f5 (g := (mkF m 5 #[.val (.ref r0)] [(.ref r0), (.ref b1), (.ref b1)])) rfl rfl (hb hby d3_5)
  have f8 := (f7.ext E1)
  obtain ⟨T9, X9, e9, st9⟩ := getF X6 hx hZ hown (host := "") (Or.inl (ww hw 35 rfl)) Via.refl e6 f8 (g := (mkF m 9 #[.val (.ref r0)] [(.ref r0), (.ref r1), (.ref b1), (.ref b1)])) rfl rfl (hb hby d3_9)
  have zz10 : n0 ≤ h0.size := by rw [← O0.1]; exact O0.2.1
  have g11 := Nat.le_trans zz10 (Nat.le_of_eq g1.symm)
  have o12 := Old.ext O0 E1
  obtain ⟨_, _, ⟨T13, L13, k13, n13⟩, -, X13, ⟨Lc13, hQ13, l13, y13, z13⟩, st13⟩ := own_specialRef X9 hx hZ (y := (⟨cs1, "<init>", "([[JI)V"⟩ : MethodName)) rfl hown (ww hw 37 rfl) (mvT hZ (ww hw 38 rfl)) (mvT hZ (ww hw 39 rfl)) (by decide) (backOf (W := 1) (rm4_5 l Z a0 hw [] b1 r1 h1 n0 o12 A1 f2 g11 f3) hZ (ww hw 39 rfl) (ww hw 34 rfl) (by decide) (by decide)) (g := (mkF m 12 #[.val (.ref r0)] [(.int (4 : Int32)), (.ref r1), (.ref b1), (.ref b1)])) rfl (by rw [hml]; rfl) (Steps.refl _) (a := b1) (argsL := [(.ref r1), (.int (4 : Int32))]) (rest := [(.ref b1)]) (lenOf pd____JI_V rfl) rfl (by show 2 * 0 + _ ≤ _; exact Nat.le_of_eq rfl) (hb hby d3_12) (fun _ _ => ⟨rfl, e9, (by decide : 1 + 0 ≤ _), (by decide : 2 + 0 ≤ _)⟩)
  dsimp only [Pt.U, Pt.locs, Pt.cells, Pt.slots] at X13 l13 y13 z13 st13 hQ13
  subst l13 y13 z13
  obtain ⟨rfl, N13q, K13, f14, f15⟩ := hQ13
  have N13 := Fr.app N0 N13q
  have f16 := (A1.keep K13)
  have kp17 : Keep h0 h1 [] := (Keep.refl h0 []).ext E1
  have kp18 : Keep h0 T13.heap [] := kp17.trans K13 (allS (Or.inr (Nat.le_of_eq g1.symm)) all0)
  obtain ⟨fs, hr, hrun, hended, hW, hsame⟩ := X13.leave (v := some (.ref b1)) (fun h => by rw [Bd.returns] at h; cases h)
  refine ⟨_, _, pre0 _ ?_, hrun, hended, _, _, rfl, ?_, ⟨_, rfl⟩, hW, hsame.mono (by decide) (by decide)⟩
  · show Steps p.tables e below (s₁.setTop (mkF m 0 #[.val (.ref r0)] [])) _
    refine st1 _ ?_
    show Steps p.tables e below (T1.setTop (mkF m 3 #[.val (.ref r0)] [(.ref b1)])) _
    refine XS.dup X1.here hx rfl (hb hby d3_3) rfl rfl ?_
    show Steps p.tables e below (T1.setTop (mkF m 4 #[.val (.ref r0)] [(.ref b1), (.ref b1)])) _
    refine XS.aloadN X1.here hx rfl (hb hby d3_4) rfl rfl ?_
    show Steps p.tables e below (T1.setTop (mkF m 5 #[.val (.ref r0)] [(.ref r0), (.ref b1), (.ref b1)])) _
    refine st6 _ ?_
    show Steps p.tables e below (T6.setTop (mkF m 8 #[.val (.ref r0)] [(.ref r1), (.ref b1), (.ref b1)])) _
    refine XS.aloadN X6.here hx rfl (hb hby d3_8) rfl rfl ?_
    show Steps p.tables e below (T6.setTop (mkF m 9 #[.val (.ref r0)] [(.ref r0), (.ref r1), (.ref b1), (.ref b1)])) _
    refine st9 _ ?_
    show Steps p.tables e below (T9.setTop (mkF m 12 #[.val (.ref r0)] [(.int (4 : Int32)), (.ref r1), (.ref b1), (.ref b1)])) _
    refine st13.trans ?_
    show Steps p.tables e below (T13.setTop (mkF m 15 #[.val (.ref r0)] [(.ref b1)])) _
    exact retOut X13 hx (i := .areturn) Bd.returns rfl (Or.inr (Or.inr (Or.inr (Or.inr ⟨rfl, rfl, rfl⟩)))) (hb hby d3_15) hr
  · show Q3_5 Z r0 r1 h0 n0 _ T13.heap _
    exact ⟨b1, rfl, N13, kp18, (Nat.le_of_eq g1.symm), f16, f14, f15⟩
def Q6_5 (Z : State) (r0 : Addr) (h0 : Heap) (n0 : Nat) (v : Option Value) (h : Heap) (L : List Loc) : Prop := v = some (.int (4 : Int32)) ∧ Fr n0 L ∧ h = h0
set_option maxRecDepth 65536 in
set_option maxHeartbeats 40000000 in
theorem rm6_5 (l : Launch) (Z : State) (a0 : Array Value) (hw : ∀ d ∈ tables_1, d.before a0 Z = true) (ws : List Jvm.Cond) (r0 : Addr) (h0 : Heap) (n0 : Nat) (O0 : Old Z n0 h0) (f1 : Fld Z h0 r0 cs1 "size" "I" (.int (4 : Int32))) :
    MetFree l (⟨cs1, "size", "()I"⟩ : MethodName) (head1 (Jvm.Cond.code (⟨cs1, "size", "()I"⟩ : MethodName) prog_14_method_2_code 1 (some .int) :: ws) ({ frames := 0, cells := 0, slots := 0, locals := 0 } : Room)) (fun a U => a = #[(.ref r0)] ∧ Z.Warmed39 U.vm ∧ U.heap = h0) (fun _ _ _ _ _ => True) (fun _ U o U' => ∃ v L, o = .returned v ∧ Q6_5 Z r0 h0 n0 v U'.heap L ∧ FrameEnd U o U' L ({ frames := 0, cells := 0, slots := 0, locals := 0 } : Room).cells ({ frames := 0, cells := 0, slots := 0, locals := 0 } : Room).slots) := by
  refine MetFree.of_bodySF (plainFor_of_name pn_com_example_links_to_ranks_linkstoranks_LongList_View) hisR ?_
  intro p e s m args below meth c s₁ Bd hml0 hP hK
  obtain ⟨rfl, hZ, hh⟩ := hP
  have hx := Bd.exec
  have hby := Bd.bytes
  have hml : c.maxLocals = 1 := hml0
  have hown : s.vm.findClass cs1 = some m.cls := findClass_of_methodNamed Bd.named
  have hnm := (name_of_methodNamed Bd.named Bd.method).1
  have X0 : Stand p l e ({ frames := 0, cells := 0, slots := 0, locals := 0 } : Room) s m #[(.ref r0)] below meth c s₁ [] 0 0 := Stand.of_body Bd
  have e0 : s₁.heap = h0 := by rw [← hh, Bd.state]; rfl
  have N0 := Fr.nil n0
  have pre0 : ∀ t, Steps p.tables e below (s₁.setTop (mkF m 0 #[.val (.ref r0)] [])) t → Steps p.tables e below (s₁.setTop (entryFrame m #[(.ref r0)] 1)) t := fun t k => castTop (by first | (simp [entryFrame, mkF, argsToLocals, Value.category]; done) | rfl) k
  obtain ⟨T2, X2, e2, st2⟩ := getF X0 hx hZ hown (host := "") (Or.inl (ww hw 43 rfl)) Via.refl e0 f1 (g := (mkF m 1 #[.val (.ref r0)] [(.ref r0)])) rfl rfl (hb hby d6_1)
  obtain ⟨fs, hr, hrun, hended, hW, hsame⟩ := X2.leave (v := some (.int (4 : Int32))) (fun h => by rw [Bd.returns] at h; cases h)
  refine ⟨_, _, pre0 _ ?_, hrun, hended, _, _, rfl, ?_, ⟨_, rfl⟩, hW, hsame.mono (by decide) (by decide)⟩
  · show Steps p.tables e below (s₁.setTop (mkF m 0 #[.val (.ref r0)] [])) _
    refine XS.aloadN X0.here hx rfl (hb hby d6_0) rfl rfl ?_
    show Steps p.tables e below (s₁.setTop (mkF m 1 #[.val (.ref r0)] [(.ref r0)])) _
    refine st2 _ ?_
    show Steps p.tables e below (T2.setTop (mkF m 4 #[.val (.ref r0)] [(.int (4 : Int32))])) _
    exact retOut X2 hx (i := .ireturn) Bd.returns rfl (Or.inl ⟨rfl, Or.inl rfl, _, rfl⟩) (hb hby d6_4) hr
  · show Q6_5 Z r0 h0 n0 _ T2.heap _
    rw [e2]
    exact ⟨rfl, N0, rfl⟩
def Q7_7 (Z : State) (r0 : Addr) (r1 : Addr) (c2 : ClassId) (r3 : Addr) (c4 : ClassId) (y5 : Int64) (y6 : Int64) (y7 : Int64) (y8 : Int64) (h0 : Heap) (n0 : Nat) (v : Option Value) (h : Heap) (L : List Loc) : Prop := v = some (.long y8) ∧ Fr n0 L ∧ h = h0
set_option maxRecDepth 65536 in
set_option maxHeartbeats 40000000 in
theorem rm7_7 (l : Launch) (Z : State) (a0 : Array Value) (hw : ∀ d ∈ tables_1, d.before a0 Z = true) (ws : List Jvm.Cond) (r0 : Addr) (r1 : Addr) (c2 : ClassId) (r3 : Addr) (c4 : ClassId) (y5 : Int64) (y6 : Int64) (y7 : Int64) (y8 : Int64) (h0 : Heap) (n0 : Nat) (O0 : Old Z n0 h0) (f1 : Fld Z h0 r0 cs1 "chunks" "[[J" (.ref r1)) (f3 : Arv Z h0 r1 c2 (.array .long) (1 : Int32) [(.ref r3)] .null) (f5 : Arv Z h0 r3 c4 .long (1024 : Int32) [(.long y5), (.long y6), (.long y7), (.long y8), (.long (0 : Int64)), (.long (0 : Int64)), (.long (0 : Int64)), (.long (0 : Int64))] (.long (0 : Int64))) :
    MetFree l (⟨cs1, "get", "(I)J"⟩ : MethodName) (head1 (Jvm.Cond.code (⟨cs1, "get", "(I)J"⟩ : MethodName) prog_14_method_3_code 2 (some .long) :: ws) ({ frames := 0, cells := 0, slots := 0, locals := 0 } : Room)) (fun a U => a = #[(.ref r0), (.int (3 : Int32))] ∧ Z.Warmed39 U.vm ∧ U.heap = h0) (fun _ _ _ _ _ => True) (fun _ U o U' => ∃ v L, o = .returned v ∧ Q7_7 Z r0 r1 c2 r3 c4 y5 y6 y7 y8 h0 n0 v U'.heap L ∧ FrameEnd U o U' L ({ frames := 0, cells := 0, slots := 0, locals := 0 } : Room).cells ({ frames := 0, cells := 0, slots := 0, locals := 0 } : Room).slots) := by
  refine MetFree.of_bodySF (plainFor_of_name pn_com_example_links_to_ranks_linkstoranks_LongList_View) hisR ?_
  intro p e s m args below meth c s₁ Bd hml0 hP hK
  obtain ⟨rfl, hZ, hh⟩ := hP
  have hx := Bd.exec
  have hby := Bd.bytes
  have hml : c.maxLocals = 2 := hml0
  have hown : s.vm.findClass cs1 = some m.cls := findClass_of_methodNamed Bd.named
  have hnm := (name_of_methodNamed Bd.named Bd.method).1
  have X0 : Stand p l e ({ frames := 0, cells := 0, slots := 0, locals := 0 } : Room) s m #[(.ref r0), (.int (3 : Int32))] below meth c s₁ [] 0 0 := Stand.of_body Bd
  have e0 : s₁.heap = h0 := by rw [← hh, Bd.state]; rfl
  have N0 := Fr.nil n0
  have pre0 : ∀ t, Steps p.tables e below (s₁.setTop (mkF m 0 #[.val (.ref r0), .val (.int (3 : Int32))] [])) t → Steps p.tables e below (s₁.setTop (entryFrame m #[(.ref r0), (.int (3 : Int32))] 2)) t := fun t k => castTop (by first | (simp [entryFrame, mkF, argsToLocals, Value.category]; done) | rfl) k
  obtain ⟨T2, X2, e2, st2⟩ := getF X0 hx hZ hown (host := "") (Or.inl (ww hw 41 rfl)) Via.refl e0 f1 (g := (mkF m 1 #[.val (.ref r0), .val (.int (3 : Int32))] [(.ref r0)])) rfl rfl (hb hby d7_1)
  obtain ⟨clq4, Arq4, qq4, Sq4, Nq4, Hq4, Gq4⟩ := id f3
  obtain ⟨clq6, Arq6, qq6, Sq6, Nq6, Hq6, Gq6⟩ := id f5
  obtain ⟨fs, hr, hrun, hended, hW, hsame⟩ := X2.leave (v := some (.long y8)) (fun h => by rw [Bd.returns] at h; cases h)
  refine ⟨_, _, pre0 _ ?_, hrun, hended, _, _, rfl, ?_, ⟨_, rfl⟩, hW, hsame.mono (by decide) (by decide)⟩
  · show Steps p.tables e below (s₁.setTop (mkF m 0 #[.val (.ref r0), .val (.int (3 : Int32))] [])) _
    refine XS.aloadN X0.here hx rfl (hb hby d7_0) rfl rfl ?_
    show Steps p.tables e below (s₁.setTop (mkF m 1 #[.val (.ref r0), .val (.int (3 : Int32))] [(.ref r0)])) _
    refine st2 _ ?_
    show Steps p.tables e below (T2.setTop (mkF m 4 #[.val (.ref r0), .val (.int (3 : Int32))] [(.ref r1)])) _
    refine XS.iloadN X2.here hx rfl (hb hby d7_4) rfl ?_
    show Steps p.tables e below (T2.setTop (mkF m 5 #[.val (.ref r0), .val (.int (3 : Int32))] [(.int (3 : Int32)), (.ref r1)])) _
    refine XS.bipush X2.here hx rfl (hb hby d7_5) ?_
    show Steps p.tables e below (T2.setTop (mkF m 7 #[.val (.ref r0), .val (.int (3 : Int32))] [(.int (18 : Int32)), (.int (3 : Int32)), (.ref r1)])) _
    refine XS.iushr X2.here hx rfl (hb hby d7_7) rfl ?_
    show Steps p.tables e below (T2.setTop (mkF m 8 #[.val (.ref r0), .val (.int (3 : Int32))] [(.int (0 : Int32)), (.ref r1)])) _
    refine X2.aaload hx (j := (0 : Int32)) (v := (.ref r3)) (by rw [e2]; exact Arq4.1) (State.isArrayOf_alike hZ.alike Arq4.2.1) rfl Arq4.2.2 (inb_of Sq4 ⟨(by decide : ¬ ((0 : Int32) < (0 : Int32))), (by decide : (0 : Int32) < (1 : Int32))⟩) (Has.at Hq4 (inb_of Sq4 ⟨(by decide : ¬ ((0 : Int32) < (0 : Int32))), (by decide : (0 : Int32) < (1 : Int32))⟩) rfl) (g := (mkF m 8 #[.val (.ref r0), .val (.int (3 : Int32))] [(.int (0 : Int32)), (.ref r1)])) rfl rfl (hb hby d7_8) _ ?_
    show Steps p.tables e below (T2.setTop (mkF m 9 #[.val (.ref r0), .val (.int (3 : Int32))] [(.ref r3)])) _
    refine XS.iloadN X2.here hx rfl (hb hby d7_9) rfl ?_
    show Steps p.tables e below (T2.setTop (mkF m 10 #[.val (.ref r0), .val (.int (3 : Int32))] [(.int (3 : Int32)), (.ref r3)])) _
    refine X2.ldcInt hx hown (mvT hZ (ww hw 62 rfl)) (g := (mkF m 10 #[.val (.ref r0), .val (.int (3 : Int32))] [(.int (3 : Int32)), (.ref r3)])) rfl (hb hby d7_10) _ ?_
    show Steps p.tables e below (T2.setTop (mkF m 12 #[.val (.ref r0), .val (.int (3 : Int32))] [(.int (262143 : Int32)), (.int (3 : Int32)), (.ref r3)])) _
    refine XS.iand X2.here hx rfl (hb hby d7_12) rfl ?_
    show Steps p.tables e below (T2.setTop (mkF m 13 #[.val (.ref r0), .val (.int (3 : Int32))] [(.int (3 : Int32)), (.ref r3)])) _
    refine X2.laload hx (j := (3 : Int32)) (v := (.long y8)) (by rw [e2]; exact Arq6.1) (State.isArrayOf_alike hZ.alike Arq6.2.1) Arq6.2.2 (inb_of Sq6 ⟨(by decide : ¬ ((3 : Int32) < (0 : Int32))), (by decide : (3 : Int32) < (1024 : Int32))⟩) (Has.at Hq6 (inb_of Sq6 ⟨(by decide : ¬ ((3 : Int32) < (0 : Int32))), (by decide : (3 : Int32) < (1024 : Int32))⟩) rfl) (g := (mkF m 13 #[.val (.ref r0), .val (.int (3 : Int32))] [(.int (3 : Int32)), (.ref r3)])) rfl rfl (hb hby d7_13) _ ?_
    show Steps p.tables e below (T2.setTop (mkF m 14 #[.val (.ref r0), .val (.int (3 : Int32))] [(.long y8)])) _
    exact retOut X2 hx (i := .lreturn) Bd.returns rfl (Or.inr (Or.inl ⟨rfl, rfl, _, rfl⟩)) (hb hby d7_14) hr
  · show Q7_7 Z r0 r1 c2 r3 c4 y5 y6 y7 y8 h0 n0 _ T2.heap _
    rw [e2]
    exact ⟨rfl, N0, rfl⟩
def Q7_8 (Z : State) (r0 : Addr) (r1 : Addr) (c2 : ClassId) (r3 : Addr) (c4 : ClassId) (y5 : Int64) (y6 : Int64) (y7 : Int64) (y8 : Int64) (h0 : Heap) (n0 : Nat) (v : Option Value) (h : Heap) (L : List Loc) : Prop := v = some (.long y5) ∧ Fr n0 L ∧ h = h0
set_option maxRecDepth 65536 in
set_option maxHeartbeats 40000000 in
theorem rm7_8 (l : Launch) (Z : State) (a0 : Array Value) (hw : ∀ d ∈ tables_1, d.before a0 Z = true) (ws : List Jvm.Cond) (r0 : Addr) (r1 : Addr) (c2 : ClassId) (r3 : Addr) (c4 : ClassId) (y5 : Int64) (y6 : Int64) (y7 : Int64) (y8 : Int64) (h0 : Heap) (n0 : Nat) (O0 : Old Z n0 h0) (f1 : Fld Z h0 r0 cs1 "chunks" "[[J" (.ref r1)) (f3 : Arv Z h0 r1 c2 (.array .long) (1 : Int32) [(.ref r3)] .null) (f5 : Arv Z h0 r3 c4 .long (1024 : Int32) [(.long y5), (.long y6), (.long y7), (.long y8), (.long (0 : Int64)), (.long (0 : Int64)), (.long (0 : Int64)), (.long (0 : Int64))] (.long (0 : Int64))) :
    MetFree l (⟨cs1, "get", "(I)J"⟩ : MethodName) (head1 (Jvm.Cond.code (⟨cs1, "get", "(I)J"⟩ : MethodName) prog_14_method_3_code 2 (some .long) :: ws) ({ frames := 0, cells := 0, slots := 0, locals := 0 } : Room)) (fun a U => a = #[(.ref r0), (.int (0 : Int32))] ∧ Z.Warmed39 U.vm ∧ U.heap = h0) (fun _ _ _ _ _ => True) (fun _ U o U' => ∃ v L, o = .returned v ∧ Q7_8 Z r0 r1 c2 r3 c4 y5 y6 y7 y8 h0 n0 v U'.heap L ∧ FrameEnd U o U' L ({ frames := 0, cells := 0, slots := 0, locals := 0 } : Room).cells ({ frames := 0, cells := 0, slots := 0, locals := 0 } : Room).slots) := by
  refine MetFree.of_bodySF (plainFor_of_name pn_com_example_links_to_ranks_linkstoranks_LongList_View) hisR ?_
  intro p e s m args below meth c s₁ Bd hml0 hP hK
  obtain ⟨rfl, hZ, hh⟩ := hP
  have hx := Bd.exec
  have hby := Bd.bytes
  have hml : c.maxLocals = 2 := hml0
  have hown : s.vm.findClass cs1 = some m.cls := findClass_of_methodNamed Bd.named
  have hnm := (name_of_methodNamed Bd.named Bd.method).1
  have X0 : Stand p l e ({ frames := 0, cells := 0, slots := 0, locals := 0 } : Room) s m #[(.ref r0), (.int (0 : Int32))] below meth c s₁ [] 0 0 := Stand.of_body Bd
  have e0 : s₁.heap = h0 := by rw [← hh, Bd.state]; rfl
  have N0 := Fr.nil n0
  have pre0 : ∀ t, Steps p.tables e below (s₁.setTop (mkF m 0 #[.val (.ref r0), .val (.int (0 : Int32))] [])) t → Steps p.tables e below (s₁.setTop (entryFrame m #[(.ref r0), (.int (0 : Int32))] 2)) t := fun t k => castTop (by first | (simp [entryFrame, mkF, argsToLocals, Value.category]; done) | rfl) k
  obtain ⟨T2, X2, e2, st2⟩ := getF X0 hx hZ hown (host := "") (Or.inl (ww hw 41 rfl)) Via.refl e0 f1 (g := (mkF m 1 #[.val (.ref r0), .val (.int (0 : Int32))] [(.ref r0)])) rfl rfl (hb hby d7_1)
  obtain ⟨clq4, Arq4, qq4, Sq4, Nq4, Hq4, Gq4⟩ := id f3
  obtain ⟨clq6, Arq6, qq6, Sq6, Nq6, Hq6, Gq6⟩ := id f5
  obtain ⟨fs, hr, hrun, hended, hW, hsame⟩ := X2.leave (v := some (.long y5)) (fun h => by rw [Bd.returns] at h; cases h)
  refine ⟨_, _, pre0 _ ?_, hrun, hended, _, _, rfl, ?_, ⟨_, rfl⟩, hW, hsame.mono (by decide) (by decide)⟩
  · show Steps p.tables e below (s₁.setTop (mkF m 0 #[.val (.ref r0), .val (.int (0 : Int32))] [])) _
    refine XS.aloadN X0.here hx rfl (hb hby d7_0) rfl rfl ?_
    show Steps p.tables e below (s₁.setTop (mkF m 1 #[.val (.ref r0), .val (.int (0 : Int32))] [(.ref r0)])) _
    refine st2 _ ?_
    show Steps p.tables e below (T2.setTop (mkF m 4 #[.val (.ref r0), .val (.int (0 : Int32))] [(.ref r1)])) _
    refine XS.iloadN X2.here hx rfl (hb hby d7_4) rfl ?_
    show Steps p.tables e below (T2.setTop (mkF m 5 #[.val (.ref r0), .val (.int (0 : Int32))] [(.int (0 : Int32)), (.ref r1)])) _
    refine XS.bipush X2.here hx rfl (hb hby d7_5) ?_
    show Steps p.tables e below (T2.setTop (mkF m 7 #[.val (.ref r0), .val (.int (0 : Int32))] [(.int (18 : Int32)), (.int (0 : Int32)), (.ref r1)])) _
    refine XS.iushr X2.here hx rfl (hb hby d7_7) rfl ?_
    show Steps p.tables e below (T2.setTop (mkF m 8 #[.val (.ref r0), .val (.int (0 : Int32))] [(.int (0 : Int32)), (.ref r1)])) _
    refine X2.aaload hx (j := (0 : Int32)) (v := (.ref r3)) (by rw [e2]; exact Arq4.1) (State.isArrayOf_alike hZ.alike Arq4.2.1) rfl Arq4.2.2 (inb_of Sq4 ⟨(by decide : ¬ ((0 : Int32) < (0 : Int32))), (by decide : (0 : Int32) < (1 : Int32))⟩) (Has.at Hq4 (inb_of Sq4 ⟨(by decide : ¬ ((0 : Int32) < (0 : Int32))), (by decide : (0 : Int32) < (1 : Int32))⟩) rfl) (g := (mkF m 8 #[.val (.ref r0), .val (.int (0 : Int32))] [(.int (0 : Int32)), (.ref r1)])) rfl rfl (hb hby d7_8) _ ?_
    show Steps p.tables e below (T2.setTop (mkF m 9 #[.val (.ref r0), .val (.int (0 : Int32))] [(.ref r3)])) _
    refine XS.iloadN X2.here hx rfl (hb hby d7_9) rfl ?_
    show Steps p.tables e below (T2.setTop (mkF m 10 #[.val (.ref r0), .val (.int (0 : Int32))] [(.int (0 : Int32)), (.ref r3)])) _
    refine X2.ldcInt hx hown (mvT hZ (ww hw 62 rfl)) (g := (mkF m 10 #[.val (.ref r0), .val (.int (0 : Int32))] [(.int (0 : Int32)), (.ref r3)])) rfl (hb hby d7_10) _ ?_
    show Steps p.tables e below (T2.setTop (mkF m 12 #[.val (.ref r0), .val (.int (0 : Int32))] [(.int (262143 : Int32)), (.int (0 : Int32)), (.ref r3)])) _
    refine XS.iand X2.here hx rfl (hb hby d7_12) rfl ?_
    show Steps p.tables e below (T2.setTop (mkF m 13 #[.val (.ref r0), .val (.int (0 : Int32))] [(.int (0 : Int32)), (.ref r3)])) _
    refine X2.laload hx (j := (0 : Int32)) (v := (.long y5)) (by rw [e2]; exact Arq6.1) (State.isArrayOf_alike hZ.alike Arq6.2.1) Arq6.2.2 (inb_of Sq6 ⟨(by decide : ¬ ((0 : Int32) < (0 : Int32))), (by decide : (0 : Int32) < (1024 : Int32))⟩) (Has.at Hq6 (inb_of Sq6 ⟨(by decide : ¬ ((0 : Int32) < (0 : Int32))), (by decide : (0 : Int32) < (1024 : Int32))⟩) rfl) (g := (mkF m 13 #[.val (.ref r0), .val (.int (0 : Int32))] [(.int (0 : Int32)), (.ref r3)])) rfl rfl (hb hby d7_13) _ ?_
    show Steps p.tables e below (T2.setTop (mkF m 14 #[.val (.ref r0), .val (.int (0 : Int32))] [(.long y5)])) _
    exact retOut X2 hx (i := .lreturn) Bd.returns rfl (Or.inr (Or.inl ⟨rfl, rfl, _, rfl⟩)) (hb hby d7_14) hr
  · show Q7_8 Z r0 r1 c2 r3 c4 y5 y6 y7 y8 h0 n0 _ T2.heap _
    rw [e2]
    exact ⟨rfl, N0, rfl⟩
def Q7_9 (Z : State) (r0 : Addr) (r1 : Addr) (c2 : ClassId) (r3 : Addr) (c4 : ClassId) (y5 : Int64) (y6 : Int64) (y7 : Int64) (y8 : Int64) (h0 : Heap) (n0 : Nat) (v : Option Value) (h : Heap) (L : List Loc) : Prop := v = some (.long y6) ∧ Fr n0 L ∧ h = h0
set_option maxRecDepth 65536 in
set_option maxHeartbeats 40000000 in
theorem rm7_9 (l : Launch) (Z : State) (a0 : Array Value) (hw : ∀ d ∈ tables_1, d.before a0 Z = true) (ws : List Jvm.Cond) (r0 : Addr) (r1 : Addr) (c2 : ClassId) (r3 : Addr) (c4 : ClassId) (y5 : Int64) (y6 : Int64) (y7 : Int64) (y8 : Int64) (h0 : Heap) (n0 : Nat) (O0 : Old Z n0 h0) (f1 : Fld Z h0 r0 cs1 "chunks" "[[J" (.ref r1)) (f3 : Arv Z h0 r1 c2 (.array .long) (1 : Int32) [(.ref r3)] .null) (f5 : Arv Z h0 r3 c4 .long (1024 : Int32) [(.long y5), (.long y6), (.long y7), (.long y8), (.long (0 : Int64)), (.long (0 : Int64)), (.long (0 : Int64)), (.long (0 : Int64))] (.long (0 : Int64))) :
    MetFree l (⟨cs1, "get", "(I)J"⟩ : MethodName) (head1 (Jvm.Cond.code (⟨cs1, "get", "(I)J"⟩ : MethodName) prog_14_method_3_code 2 (some .long) :: ws) ({ frames := 0, cells := 0, slots := 0, locals := 0 } : Room)) (fun a U => a = #[(.ref r0), (.int (1 : Int32))] ∧ Z.Warmed39 U.vm ∧ U.heap = h0) (fun _ _ _ _ _ => True) (fun _ U o U' => ∃ v L, o = .returned v ∧ Q7_9 Z r0 r1 c2 r3 c4 y5 y6 y7 y8 h0 n0 v U'.heap L ∧ FrameEnd U o U' L ({ frames := 0, cells := 0, slots := 0, locals := 0 } : Room).cells ({ frames := 0, cells := 0, slots := 0, locals := 0 } : Room).slots) := by
  refine MetFree.of_bodySF (plainFor_of_name pn_com_example_links_to_ranks_linkstoranks_LongList_View) hisR ?_
  intro p e s m args below meth c s₁ Bd hml0 hP hK
  obtain ⟨rfl, hZ, hh⟩ := hP
  have hx := Bd.exec
  have hby := Bd.bytes
  have hml : c.maxLocals = 2 := hml0
  have hown : s.vm.findClass cs1 = some m.cls := findClass_of_methodNamed Bd.named
  have hnm := (name_of_methodNamed Bd.named Bd.method).1
  have X0 : Stand p l e ({ frames := 0, cells := 0, slots := 0, locals := 0 } : Room) s m #[(.ref r0), (.int (1 : Int32))] below meth c s₁ [] 0 0 := Stand.of_body Bd
  have e0 : s₁.heap = h0 := by rw [← hh, Bd.state]; rfl
  have N0 := Fr.nil n0
  have pre0 : ∀ t, Steps p.tables e below (s₁.setTop (mkF m 0 #[.val (.ref r0), .val (.int (1 : Int32))] [])) t → Steps p.tables e below (s₁.setTop (entryFrame m #[(.ref r0), (.int (1 : Int32))] 2)) t := fun t k => castTop (by first | (simp [entryFrame, mkF, argsToLocals, Value.category]; done) | rfl) k
  obtain ⟨T2, X2, e2, st2⟩ := getF X0 hx hZ hown (host := "") (Or.inl (ww hw 41 rfl)) Via.refl e0 f1 (g := (mkF m 1 #[.val (.ref r0), .val (.int (1 : Int32))] [(.ref r0)])) rfl rfl (hb hby d7_1)
  obtain ⟨clq4, Arq4, qq4, Sq4, Nq4, Hq4, Gq4⟩ := id f3
  obtain ⟨clq6, Arq6, qq6, Sq6, Nq6, Hq6, Gq6⟩ := id f5
  obtain ⟨fs, hr, hrun, hended, hW, hsame⟩ := X2.leave (v := some (.long y6)) (fun h => by rw [Bd.returns] at h; cases h)
  refine ⟨_, _, pre0 _ ?_, hrun, hended, _, _, rfl, ?_, ⟨_, rfl⟩, hW, hsame.mono (by decide) (by decide)⟩
  · show Steps p.tables e below (s₁.setTop (mkF m 0 #[.val (.ref r0), .val (.int (1 : Int32))] [])) _
    refine XS.aloadN X0.here hx rfl (hb hby d7_0) rfl rfl ?_
    show Steps p.tables e below (s₁.setTop (mkF m 1 #[.val (.ref r0), .val (.int (1 : Int32))] [(.ref r0)])) _
    refine st2 _ ?_
    show Steps p.tables e below (T2.setTop (mkF m 4 #[.val (.ref r0), .val (.int (1 : Int32))] [(.ref r1)])) _
    refine XS.iloadN X2.here hx rfl (hb hby d7_4) rfl ?_
    show Steps p.tables e below (T2.setTop (mkF m 5 #[.val (.ref r0), .val (.int (1 : Int32))] [(.int (1 : Int32)), (.ref r1)])) _
    refine XS.bipush X2.here hx rfl (hb hby d7_5) ?_
    show Steps p.tables e below (T2.setTop (mkF m 7 #[.val (.ref r0), .val (.int (1 : Int32))] [(.int (18 : Int32)), (.int (1 : Int32)), (.ref r1)])) _
    refine XS.iushr X2.here hx rfl (hb hby d7_7) rfl ?_
    show Steps p.tables e below (T2.setTop (mkF m 8 #[.val (.ref r0), .val (.int (1 : Int32))] [(.int (0 : Int32)), (.ref r1)])) _
    refine X2.aaload hx (j := (0 : Int32)) (v := (.ref r3)) (by rw [e2]; exact Arq4.1) (State.isArrayOf_alike hZ.alike Arq4.2.1) rfl Arq4.2.2 (inb_of Sq4 ⟨(by decide : ¬ ((0 : Int32) < (0 : Int32))), (by decide : (0 : Int32) < (1 : Int32))⟩) (Has.at Hq4 (inb_of Sq4 ⟨(by decide : ¬ ((0 : Int32) < (0 : Int32))), (by decide : (0 : Int32) < (1 : Int32))⟩) rfl) (g := (mkF m 8 #[.val (.ref r0), .val (.int (1 : Int32))] [(.int (0 : Int32)), (.ref r1)])) rfl rfl (hb hby d7_8) _ ?_
    show Steps p.tables e below (T2.setTop (mkF m 9 #[.val (.ref r0), .val (.int (1 : Int32))] [(.ref r3)])) _
    refine XS.iloadN X2.here hx rfl (hb hby d7_9) rfl ?_
    show Steps p.tables e below (T2.setTop (mkF m 10 #[.val (.ref r0), .val (.int (1 : Int32))] [(.int (1 : Int32)), (.ref r3)])) _
    refine X2.ldcInt hx hown (mvT hZ (ww hw 62 rfl)) (g := (mkF m 10 #[.val (.ref r0), .val (.int (1 : Int32))] [(.int (1 : Int32)), (.ref r3)])) rfl (hb hby d7_10) _ ?_
    show Steps p.tables e below (T2.setTop (mkF m 12 #[.val (.ref r0), .val (.int (1 : Int32))] [(.int (262143 : Int32)), (.int (1 : Int32)), (.ref r3)])) _
    refine XS.iand X2.here hx rfl (hb hby d7_12) rfl ?_
    show Steps p.tables e below (T2.setTop (mkF m 13 #[.val (.ref r0), .val (.int (1 : Int32))] [(.int (1 : Int32)), (.ref r3)])) _
    refine X2.laload hx (j := (1 : Int32)) (v := (.long y6)) (by rw [e2]; exact Arq6.1) (State.isArrayOf_alike hZ.alike Arq6.2.1) Arq6.2.2 (inb_of Sq6 ⟨(by decide : ¬ ((1 : Int32) < (0 : Int32))), (by decide : (1 : Int32) < (1024 : Int32))⟩) (Has.at Hq6 (inb_of Sq6 ⟨(by decide : ¬ ((1 : Int32) < (0 : Int32))), (by decide : (1 : Int32) < (1024 : Int32))⟩) rfl) (g := (mkF m 13 #[.val (.ref r0), .val (.int (1 : Int32))] [(.int (1 : Int32)), (.ref r3)])) rfl rfl (hb hby d7_13) _ ?_
    show Steps p.tables e below (T2.setTop (mkF m 14 #[.val (.ref r0), .val (.int (1 : Int32))] [(.long y6)])) _
    exact retOut X2 hx (i := .lreturn) Bd.returns rfl (Or.inr (Or.inl ⟨rfl, rfl, _, rfl⟩)) (hb hby d7_14) hr
  · show Q7_9 Z r0 r1 c2 r3 c4 y5 y6 y7 y8 h0 n0 _ T2.heap _
    rw [e2]
    exact ⟨rfl, N0, rfl⟩
def Q7_10 (Z : State) (r0 : Addr) (r1 : Addr) (c2 : ClassId) (r3 : Addr) (c4 : ClassId) (y5 : Int64) (y6 : Int64) (y7 : Int64) (y8 : Int64) (h0 : Heap) (n0 : Nat) (v : Option Value) (h : Heap) (L : List Loc) : Prop := v = some (.long y7) ∧ Fr n0 L ∧ h = h0
set_option maxRecDepth 65536 in
set_option maxHeartbeats 40000000 in
theorem rm7_10 (l : Launch) (Z : State) (a0 : Array Value) (hw : ∀ d ∈ tables_1, d.before a0 Z = true) (ws : List Jvm.Cond) (r0 : Addr) (r1 : Addr) (c2 : ClassId) (r3 : Addr) (c4 : ClassId) (y5 : Int64) (y6 : Int64) (y7 : Int64) (y8 : Int64) (h0 : Heap) (n0 : Nat) (O0 : Old Z n0 h0) (f1 : Fld Z h0 r0 cs1 "chunks" "[[J" (.ref r1)) (f3 : Arv Z h0 r1 c2 (.array .long) (1 : Int32) [(.ref r3)] .null) (f5 : Arv Z h0 r3 c4 .long (1024 : Int32) [(.long y5), (.long y6), (.long y7), (.long y8), (.long (0 : Int64)), (.long (0 : Int64)), (.long (0 : Int64)), (.long (0 : Int64))] (.long (0 : Int64))) :
    MetFree l (⟨cs1, "get", "(I)J"⟩ : MethodName) (head1 (Jvm.Cond.code (⟨cs1, "get", "(I)J"⟩ : MethodName) prog_14_method_3_code 2 (some .long) :: ws) ({ frames := 0, cells := 0, slots := 0, locals := 0 } : Room)) (fun a U => a = #[(.ref r0), (.int (2 : Int32))] ∧ Z.Warmed39 U.vm ∧ U.heap = h0) (fun _ _ _ _ _ => True) (fun _ U o U' => ∃ v L, o = .returned v ∧ Q7_10 Z r0 r1 c2 r3 c4 y5 y6 y7 y8 h0 n0 v U'.heap L ∧ FrameEnd U o U' L ({ frames := 0, cells := 0, slots := 0, locals := 0 } : Room).cells ({ frames := 0, cells := 0, slots := 0, locals := 0 } : Room).slots) := by
  refine MetFree.of_bodySF (plainFor_of_name pn_com_example_links_to_ranks_linkstoranks_LongList_View) hisR ?_
  intro p e s m args below meth c s₁ Bd hml0 hP hK
  obtain ⟨rfl, hZ, hh⟩ := hP
  have hx := Bd.exec
  have hby := Bd.bytes
  have hml : c.maxLocals = 2 := hml0
  have hown : s.vm.findClass cs1 = some m.cls := findClass_of_methodNamed Bd.named
  have hnm := (name_of_methodNamed Bd.named Bd.method).1
  have X0 : Stand p l e ({ frames := 0, cells := 0, slots := 0, locals := 0 } : Room) s m #[(.ref r0), (.int (2 : Int32))] below meth c s₁ [] 0 0 := Stand.of_body Bd
  have e0 : s₁.heap = h0 := by rw [← hh, Bd.state]; rfl
  have N0 := Fr.nil n0
  have pre0 : ∀ t, Steps p.tables e below (s₁.setTop (mkF m 0 #[.val (.ref r0), .val (.int (2 : Int32))] [])) t → Steps p.tables e below (s₁.setTop (entryFrame m #[(.ref r0), (.int (2 : Int32))] 2)) t := fun t k => castTop (by first | (simp [entryFrame, mkF, argsToLocals, Value.category]; done) | rfl) k
  obtain ⟨T2, X2, e2, st2⟩ := getF X0 hx hZ hown (host := "") (Or.inl (ww hw 41 rfl)) Via.refl e0 f1 (g := (mkF m 1 #[.val (.ref r0), .val (.int (2 : Int32))] [(.ref r0)])) rfl rfl (hb hby d7_1)
  obtain ⟨clq4, Arq4, qq4, Sq4, Nq4, Hq4, Gq4⟩ := id f3
  obtain ⟨clq6, Arq6, qq6, Sq6, Nq6, Hq6, Gq6⟩ := id f5
  obtain ⟨fs, hr, hrun, hended, hW, hsame⟩ := X2.leave (v := some (.long y7)) (fun h => by rw [Bd.returns] at h; cases h)
  refine ⟨_, _, pre0 _ ?_, hrun, hended, _, _, rfl, ?_, ⟨_, rfl⟩, hW, hsame.mono (by decide) (by decide)⟩
  · show Steps p.tables e below (s₁.setTop (mkF m 0 #[.val (.ref r0), .val (.int (2 : Int32))] [])) _
    refine XS.aloadN X0.here hx rfl (hb hby d7_0) rfl rfl ?_
    show Steps p.tables e below (s₁.setTop (mkF m 1 #[.val (.ref r0), .val (.int (2 : Int32))] [(.ref r0)])) _
    refine st2 _ ?_
    show Steps p.tables e below (T2.setTop (mkF m 4 #[.val (.ref r0), .val (.int (2 : Int32))] [(.ref r1)])) _
    refine XS.iloadN X2.here hx rfl (hb hby d7_4) rfl ?_
    show Steps p.tables e below (T2.setTop (mkF m 5 #[.val (.ref r0), .val (.int (2 : Int32))] [(.int (2 : Int32)), (.ref r1)])) _
    refine XS.bipush X2.here hx rfl (hb hby d7_5) ?_
    show Steps p.tables e below (T2.setTop (mkF m 7 #[.val (.ref r0), .val (.int (2 : Int32))] [(.int (18 : Int32)), (.int (2 : Int32)), (.ref r1)])) _
    refine XS.iushr X2.here hx rfl (hb hby d7_7) rfl ?_
    show Steps p.tables e below (T2.setTop (mkF m 8 #[.val (.ref r0), .val (.int (2 : Int32))] [(.int (0 : Int32)), (.ref r1)])) _
    refine X2.aaload hx (j := (0 : Int32)) (v := (.ref r3)) (by rw [e2]; exact Arq4.1) (State.isArrayOf_alike hZ.alike Arq4.2.1) rfl Arq4.2.2 (inb_of Sq4 ⟨(by decide : ¬ ((0 : Int32) < (0 : Int32))), (by decide : (0 : Int32) < (1 : Int32))⟩) (Has.at Hq4 (inb_of Sq4 ⟨(by decide : ¬ ((0 : Int32) < (0 : Int32))), (by decide : (0 : Int32) < (1 : Int32))⟩) rfl) (g := (mkF m 8 #[.val (.ref r0), .val (.int (2 : Int32))] [(.int (0 : Int32)), (.ref r1)])) rfl rfl (hb hby d7_8) _ ?_
    show Steps p.tables e below (T2.setTop (mkF m 9 #[.val (.ref r0), .val (.int (2 : Int32))] [(.ref r3)])) _
    refine XS.iloadN X2.here hx rfl (hb hby d7_9) rfl ?_
    show Steps p.tables e below (T2.setTop (mkF m 10 #[.val (.ref r0), .val (.int (2 : Int32))] [(.int (2 : Int32)), (.ref r3)])) _
    refine X2.ldcInt hx hown (mvT hZ (ww hw 62 rfl)) (g := (mkF m 10 #[.val (.ref r0), .val (.int (2 : Int32))] [(.int (2 : Int32)), (.ref r3)])) rfl (hb hby d7_10) _ ?_
    show Steps p.tables e below (T2.setTop (mkF m 12 #[.val (.ref r0), .val (.int (2 : Int32))] [(.int (262143 : Int32)), (.int (2 : Int32)), (.ref r3)])) _
    refine XS.iand X2.here hx rfl (hb hby d7_12) rfl ?_
    show Steps p.tables e below (T2.setTop (mkF m 13 #[.val (.ref r0), .val (.int (2 : Int32))] [(.int (2 : Int32)), (.ref r3)])) _
    refine X2.laload hx (j := (2 : Int32)) (v := (.long y7)) (by rw [e2]; exact Arq6.1) (State.isArrayOf_alike hZ.alike Arq6.2.1) Arq6.2.2 (inb_of Sq6 ⟨(by decide : ¬ ((2 : Int32) < (0 : Int32))), (by decide : (2 : Int32) < (1024 : Int32))⟩) (Has.at Hq6 (inb_of Sq6 ⟨(by decide : ¬ ((2 : Int32) < (0 : Int32))), (by decide : (2 : Int32) < (1024 : Int32))⟩) rfl) (g := (mkF m 13 #[.val (.ref r0), .val (.int (2 : Int32))] [(.int (2 : Int32)), (.ref r3)])) rfl rfl (hb hby d7_13) _ ?_
    show Steps p.tables e below (T2.setTop (mkF m 14 #[.val (.ref r0), .val (.int (2 : Int32))] [(.long y7)])) _
    exact retOut X2 hx (i := .lreturn) Bd.returns rfl (Or.inr (Or.inl ⟨rfl, rfl, _, rfl⟩)) (hb hby d7_14) hr
  · show Q7_10 Z r0 r1 c2 r3 c4 y5 y6 y7 y8 h0 n0 _ T2.heap _
    rw [e2]
    exact ⟨rfl, N0, rfl⟩
def Q0_4 (Z : State) (x0 : Int32) (y1 : Int64) (y2 : Int64) (y3 : Int64) (y4 : Int64) (h0 : Heap) (n0 : Nat) (v : Option Value) (h : Heap) (L : List Loc) : Prop := v = some (.int (1 : Int32)) ∧ Fr n0 L
set_option maxRecDepth 65536 in
set_option maxHeartbeats 40000000 in
theorem rm0_4 (l : Launch) (Z : State) (a0 : Array Value) (hw : ∀ d ∈ tables_1, d.before a0 Z = true) (ws : List Jvm.Cond) (x0 : Int32) (y1 : Int64) (y2 : Int64) (y3 : Int64) (y4 : Int64) (h0 : Heap) (n0 : Nat) (O0 : Old Z n0 h0) (hc34 : (x0 &&& (3 : Int32)) = (3 : Int32)) :
    MetFree l x (head1 (Jvm.Cond.code x code maxLocals ret :: ws) room_1) (fun a U => a = #[(.int x0), (.long y1), (.long y2), (.long y3), (.long y4)] ∧ Z.Warmed39 U.vm ∧ U.heap = h0) (fun _ _ _ _ _ => True) (fun _ U o U' => ∃ v L, o = .returned v ∧ Q0_4 Z x0 y1 y2 y3 y4 h0 n0 v U'.heap L ∧ ReturnedEndW U o U' L room_1.cells room_1.slots) := by
  refine MetFree.of_bodySF (plainFor_of_name pn_com_example_links_to_ranks_linkstoranks_LongListViewPinLaw) hisR ?_
  intro p e s m args below meth c s₁ Bd hml0 hP hK
  obtain ⟨rfl, hZ, hh⟩ := hP
  have hx := Bd.exec
  have hby := Bd.bytes
  have hml : c.maxLocals = 14 := hml0
  have hown : s.vm.findClass cs3 = some m.cls := findClass_of_methodNamed Bd.named
  have hnm := (name_of_methodNamed Bd.named Bd.method).1
  have X0 : Stand p l e room_1 s m #[(.int x0), (.long y1), (.long y2), (.long y3), (.long y4)] below meth c s₁ [] 0 0 := Stand.of_body Bd
  have e0 : s₁.heap = h0 := by rw [← hh, Bd.state]; rfl
  have N0 := Fr.nil n0
  have pre0 : ∀ t, Steps p.tables e below (s₁.setTop (mkF m 0 #[.val (.int x0), .val (.long y1), .second, .val (.long y2), .second, .val (.long y3), .second, .val (.long y4), .second, .unset, .unset, .unset, .unset, .unset] [])) t → Steps p.tables e below (s₁.setTop (entryFrame m #[(.int x0), (.long y1), (.long y2), (.long y3), (.long y4)] maxLocals)) t := fun t k => castTop (by first | (simp [entryFrame, mkF, argsToLocals, Value.category, maxLocals]; done) | rfl) k
  obtain ⟨T1, h1, X1, e1, E1, A1, D1, -, st1⟩ := newO X0 hx hZ hown (ww hw 0 rfl) (ww hw 1 rfl) (ww hw 2 rfl) e0 (g := (mkF m 0 #[.val (.int x0), .val (.long y1), .second, .val (.long y2), .second, .val (.long y3), .second, .val (.long y4), .second, .unset, .unset, .unset, .unset, .unset] [])) rfl (hb hby at_0) (by decide) (by decide)
  obtain ⟨b1, g1⟩ : ∃ z, z = h0.size := ⟨_, rfl⟩
  rw [← g1] at A1 D1 st1
  have f2 : Fld Z h1 b1 cs0 "chunks" "[[J" .null := D1 (Or.inl (ww hw 22 rfl)) (ty := (.array (.array .long))) (by decide)
  have f3 : Fld Z h1 b1 cs0 "filling" "[J" .null := D1 (Or.inl (ww hw 24 rfl)) (ty := (.array .long)) (by decide)
  have f4 : Fld Z h1 b1 cs0 "items" "Ljava/lang/String;" .null := D1 (Or.inr (ww hw 26 rfl)) (ty := (.object "java/lang/String")) (by decide)
  have f5 : Fld Z h1 b1 cs0 "size" "I" (.int (0 : Int32)) := D1 (Or.inl (ww hw 36 rfl)) (ty := .int) (by decide)
  have f6 : Fld Z h1 b1 cs0 "filled" "I" (.int (0 : Int32)) := D1 (Or.inl (ww hw 51 rfl)) (ty := .int) (by decide)
  have hS7 := (State.WarmedH.refl s).since 0
  have hstr : ∀ a ∈ Bundle.stringAtoms, a.before a0 Z = true := fun a q => hw a (own_str a q)
  obtain ⟨a8, T8, h8, kk8, X8, e8, E8, hS8, hk8, hZ8, ho8, st8⟩ := ldcS (s := s) (vm0 := s.vm) X1 hx hZ hown (ww hw 3 rfl) hstr e1 hS7 (Nat.zero_le _) (g := (mkF m 4 #[.val (.int x0), .val (.long y1), .second, .val (.long y2), .second, .val (.long y3), .second, .val (.long y4), .second, .unset, .unset, .unset, .unset, .unset] [(.ref b1), (.ref b1)])) rfl (hb hby at_4) (n := 20) (by decide) (by decide) (by decide) (by decide)
  have f9 := (A1.ext E8)
  have f10 := (f2.ext E8)
  have zs11 := E8.1
  have zz12 : n0 ≤ h0.size := by rw [← O0.1]; exact O0.2.1
  have g13 := Nat.le_trans zz12 (Nat.le_of_eq g1.symm)
  have f14 := (f3.ext E8)
  have f15 := (f4.ext E8)
  have f16 := (f5.ext E8)
  have f17 := (f6.ext E8)
  have o18 := Old.ext O0 E1
  have o19 := Old.ext o18 E8
  obtain ⟨_, _, ⟨T20, L20, k20, n20⟩, -, X20, ⟨Lc20, hQ20, l20, y20, z20⟩, st20⟩ := X8.specialBack hx (y := (⟨cs0, "<init>", "(Ljava/lang/String;)V"⟩ : MethodName)) rfl ho8 (mvT hZ8 (ww hw 11 rfl)) (mvT hZ8 (ww hw 12 rfl)) (mvT hZ8 (ww hw 13 rfl)) (by decide) (backOf (W := 1) (rm1_1 l Z a0 hw [] b1 a8 h8 n0 o19 f9 f10 (Nat.lt_of_lt_of_le A1.lt zs11) g13 f14 f15 f16 f17) hZ8 (ww hw 13 rfl) (ww hw 2 rfl) (by decide) (by decide)) (g := (mkF m 6 #[.val (.int x0), .val (.long y1), .second, .val (.long y2), .second, .val (.long y3), .second, .val (.long y4), .second, .unset, .unset, .unset, .unset, .unset] [(.ref a8), (.ref b1), (.ref b1)])) rfl (by rw [hml]; rfl) (Steps.refl _) (a := b1) (argsL := [(.ref a8)]) (rest := [(.ref b1)]) (lenOf pd__Ljava_lang_String__V rfl) rfl (by show 2 * 0 + _ ≤ _; exact Nat.le_of_eq rfl) (hb hby at_6) (fun _ _ => ⟨rfl, e8, (by decide : 3 + 2 ≤ _), (by decide : 29 + 1025 ≤ _)⟩)
  dsimp only [Pt.U, Pt.locs, Pt.cells, Pt.slots] at X20 l20 y20 z20 st20 hQ20
  subst l20 y20 z20
  obtain ⟨b20_0, b20_1, k20_0, k20_1, rfl, N20q, K20, f21, f22, f23, f24, f25, f26, f27, f28, f29, f30, f31, f32, f33⟩ := hQ20
  have N20 := Fr.app N0 N20q
  have f35 := (f9.keep K20)
  have n36 := Nat.ne_of_lt (Nat.lt_of_lt_of_le (Nat.lt_of_lt_of_le A1.lt zs11) f30)
  have zz37 : n0 ≤ h8.size := by rw [← o19.1]; exact o19.2.1
  have g38 := Nat.le_trans zz37 f30
  have o39 := Old.keep o19 K20 (allS g13 all0)
  obtain ⟨cqq41, kqq41, qq41a, qq41b, qq41c⟩ := isOf hZ8 rfl f35
  obtain ⟨_, _, ⟨T40, L40, k40, n40⟩, -, X40, ⟨Lc40, hQ40, l40, y40, z40⟩, st40⟩ := X20.virtualBack hx (y := (⟨cs0, "add", "(J)V"⟩ : MethodName)) (z := (⟨cs0, "add", "(J)V"⟩ : MethodName)) ho8 (mvT hZ8 (ww hw 45 rfl)) (mvT hZ8 (ww hw 46 rfl)) (notFace_of_selects (args := #[]) (mvT hZ8 (ww hw 48 rfl))) (mvT hZ8 (ww hw 48 rfl)) (mvT hZ8 (ww hw 47 rfl)) (by decide) (backOf (W := 0) (rm5_1 l Z a0 hw [] b1 y1 b20_1 k20_1 b20_0 a8 T20.heap n0 o39 f25 f22 f31 f35 g13 (Ne.symm n36) g38 f24 f21 f23) hZ8 (ww hw 49 rfl) (ww hw 2 rfl) (by decide) (by decide)) qq41a qq41c (g := (mkF m 24 #[.val (.int x0), .val (.long y1), .second, .val (.long y2), .second, .val (.long y3), .second, .val (.long y4), .second, .val (.ref b1), .val (.int (3 : Int32)), .unset, .unset, .unset] [(.long y1), (.ref b1)])) rfl (by rw [hml]; rfl) (Steps.refl _) (argsL := [(.long y1)]) (rest := []) (lenOf pd__J_V rfl) rfl (by show 2 * 0 + _ ≤ _; exact Nat.le_of_eq rfl) (hb hby at_24) (fun _ _ => ⟨rfl, rfl, (by decide : 5 + 0 ≤ _), (by decide : 1054 + 0 ≤ _)⟩)
  dsimp only [Pt.U, Pt.locs, Pt.cells, Pt.slots] at X40 l40 y40 z40 st40 hQ40
  subst l40 y40 z40
  obtain ⟨rfl, N40q, K40, f42, f43, f44, f45, f46, f47⟩ := hQ40
  have N40 := Fr.app N20 N40q
  have f48 := (f35.keep K40)
  have o49 := Old.keep o39 K40 (allS g13 (allS g38 all0))
  obtain ⟨cqq51, kqq51, qq51a, qq51b, qq51c⟩ := isOf hZ8 rfl f48
  obtain ⟨_, _, ⟨T50, L50, k50, n50⟩, -, X50, ⟨Lc50, hQ50, l50, y50, z50⟩, st50⟩ := X40.virtualBack hx (y := (⟨cs0, "add", "(J)V"⟩ : MethodName)) (z := (⟨cs0, "add", "(J)V"⟩ : MethodName)) ho8 (mvT hZ8 (ww hw 45 rfl)) (mvT hZ8 (ww hw 46 rfl)) (notFace_of_selects (args := #[]) (mvT hZ8 (ww hw 48 rfl))) (mvT hZ8 (ww hw 48 rfl)) (mvT hZ8 (ww hw 47 rfl)) (by decide) (backOf (W := 0) (rm5_2 l Z a0 hw [] b1 y2 b20_1 k20_1 y1 b20_0 a8 T40.heap n0 o49 f42 f43 f47 f48 g13 (Ne.symm n36) g38 f44 f45 f46) hZ8 (ww hw 49 rfl) (ww hw 2 rfl) (by decide) (by decide)) qq51a qq51c (g := (mkF m 36 #[.val (.int x0), .val (.long y1), .second, .val (.long y2), .second, .val (.long y3), .second, .val (.long y4), .second, .val (.ref b1), .val (.int (3 : Int32)), .unset, .unset, .unset] [(.long y2), (.ref b1)])) rfl (by rw [hml]; rfl) (Steps.refl _) (argsL := [(.long y2)]) (rest := []) (lenOf pd__J_V rfl) rfl (by show 2 * 0 + _ ≤ _; exact Nat.le_of_eq rfl) (hb hby at_36) (fun _ _ => ⟨rfl, rfl, (by decide : 5 + 0 ≤ _), (by decide : 1054 + 0 ≤ _)⟩)
  dsimp only [Pt.U, Pt.locs, Pt.cells, Pt.slots] at X50 l50 y50 z50 st50 hQ50
  subst l50 y50 z50
  obtain ⟨rfl, N50q, K50, f52, f53, f54, f55, f56, f57⟩ := hQ50
  have N50 := Fr.app N40 N50q
  have f58 := (f48.keep K50)
  have o59 := Old.keep o49 K50 (allS g13 (allS g38 all0))
  obtain ⟨cqq61, kqq61, qq61a, qq61b, qq61c⟩ := isOf hZ8 rfl f58
  obtain ⟨_, _, ⟨T60, L60, k60, n60⟩, -, X60, ⟨Lc60, hQ60, l60, y60, z60⟩, st60⟩ := X50.virtualBack hx (y := (⟨cs0, "add", "(J)V"⟩ : MethodName)) (z := (⟨cs0, "add", "(J)V"⟩ : MethodName)) ho8 (mvT hZ8 (ww hw 45 rfl)) (mvT hZ8 (ww hw 46 rfl)) (notFace_of_selects (args := #[]) (mvT hZ8 (ww hw 48 rfl))) (mvT hZ8 (ww hw 48 rfl)) (mvT hZ8 (ww hw 47 rfl)) (by decide) (backOf (W := 0) (rm5_3 l Z a0 hw [] b1 y3 b20_1 k20_1 y1 y2 b20_0 a8 T50.heap n0 o59 f52 f53 f57 f58 g13 (Ne.symm n36) g38 f54 f55 f56) hZ8 (ww hw 49 rfl) (ww hw 2 rfl) (by decide) (by decide)) qq61a qq61c (g := (mkF m 49 #[.val (.int x0), .val (.long y1), .second, .val (.long y2), .second, .val (.long y3), .second, .val (.long y4), .second, .val (.ref b1), .val (.int (3 : Int32)), .unset, .unset, .unset] [(.long y3), (.ref b1)])) rfl (by rw [hml]; rfl) (Steps.refl _) (argsL := [(.long y3)]) (rest := []) (lenOf pd__J_V rfl) rfl (by show 2 * 0 + _ ≤ _; exact Nat.le_of_eq rfl) (hb hby at_49) (fun _ _ => ⟨rfl, rfl, (by decide : 5 + 0 ≤ _), (by decide : 1054 + 0 ≤ _)⟩)
  dsimp only [Pt.U, Pt.locs, Pt.cells, Pt.slots] at X60 l60 y60 z60 st60 hQ60
  subst l60 y60 z60
  obtain ⟨rfl, N60q, K60, f62, f63, f64, f65, f66, f67⟩ := hQ60
  have N60 := Fr.app N50 N60q
  have o68 := Old.keep o59 K60 (allS g13 (allS g38 all0))
  have f70 := (f58.keep K60)
  obtain ⟨cqq71, kqq71, qq71a, qq71b, qq71c⟩ := isOf hZ8 rfl f70
  obtain ⟨_, _, ⟨T69, L69, k69, n69⟩, -, X69, ⟨Lc69, hQ69, l69, y69, z69⟩, st69⟩ := X60.virtualBack hx (y := (⟨cs0, "view", cs2⟩ : MethodName)) (z := (⟨cs0, "view", cs2⟩ : MethodName)) ho8 (mvT hZ8 (ww hw 27 rfl)) (mvT hZ8 (ww hw 28 rfl)) (notFace_of_selects (args := #[]) (mvT hZ8 (ww hw 30 rfl))) (mvT hZ8 (ww hw 30 rfl)) (mvT hZ8 (ww hw 29 rfl)) (by decide) (backOf (W := 0) (rm3_4 l Z a0 hw [] b1 b20_0 T60.heap n0 o68 f65 f64) hZ8 (ww hw 31 rfl) (ww hw 2 rfl) (by decide) (by decide)) qq71a qq71c (g := (mkF m 54 #[.val (.int x0), .val (.long y1), .second, .val (.long y2), .second, .val (.long y3), .second, .val (.long y4), .second, .val (.ref b1), .val (.int (3 : Int32)), .unset, .unset, .unset] [(.ref b1)])) rfl (by rw [hml]; rfl) (Steps.refl _) (argsL := []) (rest := []) (lenOf pd___Lcom_example_links_to_ranks_linkstoranks_LongList_View_ rfl) rfl (by show 2 * 0 + _ ≤ _; exact Nat.le_of_eq rfl) (hb hby at_54) (fun _ _ => ⟨rfl, rfl, (by decide : 5 + 1 ≤ _), (by decide : 1054 + 2 ≤ _)⟩)
  dsimp only [Pt.U, Pt.locs, Pt.cells, Pt.slots] at X69 l69 y69 z69 st69 hQ69
  subst l69 y69 z69
  obtain ⟨b69_0, rfl, N69q, K69, f72, f73, f74, f75⟩ := hQ69
  have N69 := Fr.app N60 N69q
  have f76 := (f62.keep K69 nin0)
  have f77 := (f63.keep K69 nin0)
  have f78 := (f67.keep K69 nin0)
  have f79 := (f70.keep K69)
  have f80 := (f64.keep K69 nin0)
  have f81 := (f65.keep K69 nin0)
  have f82 := (f66.keep K69 nin0)
  have o83 := Old.keep o68 K69 all0
  obtain ⟨cqq85, kqq85, qq85a, qq85b, qq85c⟩ := isOf hZ8 rfl f79
  obtain ⟨_, _, ⟨T84, L84, k84, n84⟩, -, X84, ⟨Lc84, hQ84, l84, y84, z84⟩, st84⟩ := X69.virtualBack hx (y := (⟨cs0, "add", "(J)V"⟩ : MethodName)) (z := (⟨cs0, "add", "(J)V"⟩ : MethodName)) ho8 (mvT hZ8 (ww hw 45 rfl)) (mvT hZ8 (ww hw 46 rfl)) (notFace_of_selects (args := #[]) (mvT hZ8 (ww hw 48 rfl))) (mvT hZ8 (ww hw 48 rfl)) (mvT hZ8 (ww hw 47 rfl)) (by decide) (backOf (W := 0) (rm5_4 l Z a0 hw [] b1 y4 b20_1 k20_1 y1 y2 y3 b20_0 a8 T69.heap n0 o83 f76 f77 f78 f79 g13 (Ne.symm n36) g38 f80 f81 f82) hZ8 (ww hw 49 rfl) (ww hw 2 rfl) (by decide) (by decide)) qq85a qq85c (g := (mkF m 63 #[.val (.int x0), .val (.long y1), .second, .val (.long y2), .second, .val (.long y3), .second, .val (.long y4), .second, .val (.ref b1), .val (.int (3 : Int32)), .val (.ref b69_0), .unset, .unset] [(.long y4), (.ref b1)])) rfl (by rw [hml]; rfl) (Steps.refl _) (argsL := [(.long y4)]) (rest := []) (lenOf pd__J_V rfl) rfl (by show 2 * 0 + _ ≤ _; exact Nat.le_of_eq rfl) (hb hby at_63) (fun _ _ => ⟨rfl, rfl, (by decide : 6 + 0 ≤ _), (by decide : 1056 + 0 ≤ _)⟩)
  dsimp only [Pt.U, Pt.locs, Pt.cells, Pt.slots] at X84 l84 y84 z84 st84 hQ84
  subst l84 y84 z84
  obtain ⟨rfl, N84q, K84, f86, f87, f88, f89, f90, f91⟩ := hQ84
  have N84 := Fr.app N69 N84q
  have o92 := Old.keep o83 K84 (allS g13 (allS g38 all0))
  have f94 := (f79.keep K84)
  obtain ⟨cqq95, kqq95, qq95a, qq95b, qq95c⟩ := isOf hZ8 rfl f94
  obtain ⟨_, _, ⟨T93, L93, k93, n93⟩, -, X93, ⟨Lc93, hQ93, l93, y93, z93⟩, st93⟩ := X84.virtualBack hx (y := (⟨cs0, "view", cs2⟩ : MethodName)) (z := (⟨cs0, "view", cs2⟩ : MethodName)) ho8 (mvT hZ8 (ww hw 27 rfl)) (mvT hZ8 (ww hw 28 rfl)) (notFace_of_selects (args := #[]) (mvT hZ8 (ww hw 30 rfl))) (mvT hZ8 (ww hw 30 rfl)) (mvT hZ8 (ww hw 29 rfl)) (by decide) (backOf (W := 0) (rm3_5 l Z a0 hw [] b1 b20_0 T84.heap n0 o92 f89 f88) hZ8 (ww hw 31 rfl) (ww hw 2 rfl) (by decide) (by decide)) qq95a qq95c (g := (mkF m 68 #[.val (.int x0), .val (.long y1), .second, .val (.long y2), .second, .val (.long y3), .second, .val (.long y4), .second, .val (.ref b1), .val (.int (3 : Int32)), .val (.ref b69_0), .unset, .unset] [(.ref b1)])) rfl (by rw [hml]; rfl) (Steps.refl _) (argsL := []) (rest := []) (lenOf pd___Lcom_example_links_to_ranks_linkstoranks_LongList_View_ rfl) rfl (by show 2 * 0 + _ ≤ _; exact Nat.le_of_eq rfl) (hb hby at_68) (fun _ _ => ⟨rfl, rfl, (by decide : 6 + 1 ≤ _), (by decide : 1056 + 2 ≤ _)⟩)
  dsimp only [Pt.U, Pt.locs, Pt.cells, Pt.slots] at X93 l93 y93 z93 st93 hQ93
  subst l93 y93 z93
  obtain ⟨b93_0, rfl, N93q, K93, f96, f97, f98, f99⟩ := hQ93
  have N93 := Fr.app N84 N93q
  have zs100 := K40.1
  have zs101 := Nat.le_trans zs100 K50.1
  have zs102 := Nat.le_trans zs101 K60.1
  have n103 := Nat.ne_of_lt (Nat.lt_of_lt_of_le (Nat.lt_of_lt_of_le f31.lt zs102) f72)
  have zs104 := Nat.le_trans zs11 K20.1
  have zs105 := Nat.le_trans zs104 K40.1
  have zs106 := Nat.le_trans zs105 K50.1
  have zs107 := Nat.le_trans zs106 K60.1
  have n108 := Nat.ne_of_lt (Nat.lt_of_lt_of_le (Nat.lt_of_lt_of_le A1.lt zs107) f72)
  have f109 := ((f75.keep K84 (ninS (Ne.symm n108) (ninS (Ne.symm n103) nin0))).keep K93 nin0)
  have o110 := Old.keep o92 K93 all0
  have f112 := ((f73.keep K84).keep K93)
  obtain ⟨cqq113, kqq113, qq113a, qq113b, qq113c⟩ := isOf hZ8 rfl f112
  obtain ⟨_, _, ⟨T111, L111, k111, n111⟩, -, X111, ⟨Lc111, hQ111, l111, y111, z111⟩, st111⟩ := X93.virtualBack hx (y := (⟨cs1, "size", "()I"⟩ : MethodName)) (z := (⟨cs1, "size", "()I"⟩ : MethodName)) ho8 (mvT hZ8 (ww hw 52 rfl)) (mvT hZ8 (ww hw 53 rfl)) (notFace_of_selects (args := #[]) (mvT hZ8 (ww hw 55 rfl))) (mvT hZ8 (ww hw 55 rfl)) (mvT hZ8 (ww hw 54 rfl)) (by decide) (backOf (W := 0) (rm6_4 l Z a0 hw [] b69_0 T93.heap n0 o110 f109) hZ8 (ww hw 56 rfl) (ww hw 34 rfl) (by decide) (by decide)) qq113a qq113c (g := (mkF m 75 #[.val (.int x0), .val (.long y1), .second, .val (.long y2), .second, .val (.long y3), .second, .val (.long y4), .second, .val (.ref b1), .val (.int (3 : Int32)), .val (.ref b69_0), .val (.ref b93_0), .unset] [(.ref b69_0)])) rfl (by rw [hml]; rfl) (Steps.refl _) (argsL := []) (rest := []) (lenOf pd___I rfl) rfl (by show 2 * 0 + _ ≤ _; exact Nat.le_of_eq rfl) (hb hby at_75) (fun _ _ => ⟨rfl, rfl, (by decide : 7 + 0 ≤ _), (by decide : 1058 + 0 ≤ _)⟩)
  dsimp only [Pt.U, Pt.locs, Pt.cells, Pt.slots] at X111 l111 y111 z111 st111 hQ111
  subst l111 y111 z111
  obtain ⟨rfl, N111q, E111⟩ := hQ111
  have N111 := Fr.app N93 N111q
  obtain ⟨cqq115, kqq115, qq115a, qq115b, qq115c⟩ := isOf hZ8 E111 f97
  obtain ⟨_, _, ⟨T114, L114, k114, n114⟩, -, X114, ⟨Lc114, hQ114, l114, y114, z114⟩, st114⟩ := X111.virtualBack hx (y := (⟨cs1, "size", "()I"⟩ : MethodName)) (z := (⟨cs1, "size", "()I"⟩ : MethodName)) ho8 (mvT hZ8 (ww hw 52 rfl)) (mvT hZ8 (ww hw 53 rfl)) (notFace_of_selects (args := #[]) (mvT hZ8 (ww hw 55 rfl))) (mvT hZ8 (ww hw 55 rfl)) (mvT hZ8 (ww hw 54 rfl)) (by decide) (backOf (W := 0) (rm6_5 l Z a0 hw [] b93_0 T93.heap n0 o110 f99) hZ8 (ww hw 56 rfl) (ww hw 34 rfl) (by decide) (by decide)) qq115a qq115c (g := (mkF m 85 #[.val (.int x0), .val (.long y1), .second, .val (.long y2), .second, .val (.long y3), .second, .val (.long y4), .second, .val (.ref b1), .val (.int (3 : Int32)), .val (.ref b69_0), .val (.ref b93_0), .unset] [(.ref b93_0)])) rfl (by rw [hml]; rfl) (Steps.refl _) (argsL := []) (rest := []) (lenOf pd___I rfl) rfl (by show 2 * 0 + _ ≤ _; exact Nat.le_of_eq rfl) (hb hby at_85) (fun _ _ => ⟨rfl, E111, (by decide : 7 + 0 ≤ _), (by decide : 1058 + 0 ≤ _)⟩)
  dsimp only [Pt.U, Pt.locs, Pt.cells, Pt.slots] at X114 l114 y114 z114 st114 hQ114
  subst l114 y114 z114
  obtain ⟨rfl, N114q, E114⟩ := hQ114
  have N114 := Fr.app N111 N114q
  have n116 := Nat.ne_of_lt (Nat.lt_of_lt_of_le (Nat.lt_of_lt_of_le A1.lt zs11) f26)
  have f117 := ((((((f27.keep K40 (ninS (Ne.symm n116) (ninS f33 nin0))).keep K50 (ninS (Ne.symm n116) (ninS f33 nin0))).keep K60 (ninS (Ne.symm n116) (ninS f33 nin0))).keep K69 nin0).keep K84 (ninS (Ne.symm n116) (ninS f33 nin0))).keep K93 nin0)
  have f118 := (f91.keep K93 nin0)
  obtain ⟨cqq120, kqq120, qq120a, qq120b, qq120c⟩ := isOf hZ8 E114 f97
  obtain ⟨_, _, ⟨T119, L119, k119, n119⟩, -, X119, ⟨Lc119, hQ119, l119, y119, z119⟩, st119⟩ := X114.virtualBack hx (y := (⟨cs1, "get", "(I)J"⟩ : MethodName)) (z := (⟨cs1, "get", "(I)J"⟩ : MethodName)) ho8 (mvT hZ8 (ww hw 57 rfl)) (mvT hZ8 (ww hw 58 rfl)) (notFace_of_selects (args := #[]) (mvT hZ8 (ww hw 60 rfl))) (mvT hZ8 (ww hw 60 rfl)) (mvT hZ8 (ww hw 59 rfl)) (by decide) (backOf (W := 0) (rm7_7 l Z a0 hw [] b93_0 b20_0 k20_0 b20_1 k20_1 y1 y2 y3 y4 T93.heap n0 o110 f98 f117 f118) hZ8 (ww hw 61 rfl) (ww hw 34 rfl) (by decide) (by decide)) qq120a qq120c (g := (mkF m 99 #[.val (.int x0), .val (.long y1), .second, .val (.long y2), .second, .val (.long y3), .second, .val (.long y4), .second, .val (.ref b1), .val (.int (3 : Int32)), .val (.ref b69_0), .val (.ref b93_0), .unset] [(.int (3 : Int32)), (.ref b93_0)])) rfl (by rw [hml]; rfl) (Steps.refl _) (argsL := [(.int (3 : Int32))]) (rest := []) (lenOf pd__I_J rfl) rfl (by show 2 * 0 + _ ≤ _; exact Nat.le_of_eq rfl) (hb hby at_99) (fun _ _ => ⟨rfl, E114, (by decide : 7 + 0 ≤ _), (by decide : 1058 + 0 ≤ _)⟩)
  dsimp only [Pt.U, Pt.locs, Pt.cells, Pt.slots] at X119 l119 y119 z119 st119 hQ119
  subst l119 y119 z119
  obtain ⟨rfl, N119q, E119⟩ := hQ119
  have N119 := Fr.app N114 N119q
  have f121 := ((f74.keep K84 (ninS (Ne.symm n108) (ninS (Ne.symm n103) nin0))).keep K93 nin0)
  obtain ⟨cqq123, kqq123, qq123a, qq123b, qq123c⟩ := isOf hZ8 E119 f112
  obtain ⟨_, _, ⟨T122, L122, k122, n122⟩, -, X122, ⟨Lc122, hQ122, l122, y122, z122⟩, st122⟩ := X119.virtualBack hx (y := (⟨cs1, "get", "(I)J"⟩ : MethodName)) (z := (⟨cs1, "get", "(I)J"⟩ : MethodName)) ho8 (mvT hZ8 (ww hw 57 rfl)) (mvT hZ8 (ww hw 58 rfl)) (notFace_of_selects (args := #[]) (mvT hZ8 (ww hw 60 rfl))) (mvT hZ8 (ww hw 60 rfl)) (mvT hZ8 (ww hw 59 rfl)) (by decide) (backOf (W := 0) (rm7_8 l Z a0 hw [] b69_0 b20_0 k20_0 b20_1 k20_1 y1 y2 y3 y4 T93.heap n0 o110 f121 f117 f118) hZ8 (ww hw 61 rfl) (ww hw 34 rfl) (by decide) (by decide)) qq123a qq123c (g := (mkF m 128 #[.val (.int x0), .val (.long y1), .second, .val (.long y2), .second, .val (.long y3), .second, .val (.long y4), .second, .val (.ref b1), .val (.int (3 : Int32)), .val (.ref b69_0), .val (.ref b93_0), .val (.int (1 : Int32))] [(.int (0 : Int32)), (.ref b69_0)])) rfl (by rw [hml]; rfl) (Steps.refl _) (argsL := [(.int (0 : Int32))]) (rest := []) (lenOf pd__I_J rfl) rfl (by show 2 * 0 + _ ≤ _; exact Nat.le_of_eq rfl) (hb hby at_128) (fun _ _ => ⟨rfl, E119, (by decide : 7 + 0 ≤ _), (by decide : 1058 + 0 ≤ _)⟩)
  dsimp only [Pt.U, Pt.locs, Pt.cells, Pt.slots] at X122 l122 y122 z122 st122 hQ122
  subst l122 y122 z122
  obtain ⟨rfl, N122q, E122⟩ := hQ122
  have N122 := Fr.app N119 N122q
  obtain ⟨cqq125, kqq125, qq125a, qq125b, qq125c⟩ := isOf hZ8 E122 f97
  obtain ⟨_, _, ⟨T124, L124, k124, n124⟩, -, X124, ⟨Lc124, hQ124, l124, y124, z124⟩, st124⟩ := X122.virtualBack hx (y := (⟨cs1, "get", "(I)J"⟩ : MethodName)) (z := (⟨cs1, "get", "(I)J"⟩ : MethodName)) ho8 (mvT hZ8 (ww hw 57 rfl)) (mvT hZ8 (ww hw 58 rfl)) (notFace_of_selects (args := #[]) (mvT hZ8 (ww hw 60 rfl))) (mvT hZ8 (ww hw 60 rfl)) (mvT hZ8 (ww hw 59 rfl)) (by decide) (backOf (W := 0) (rm7_8 l Z a0 hw [] b93_0 b20_0 k20_0 b20_1 k20_1 y1 y2 y3 y4 T93.heap n0 o110 f98 f117 f118) hZ8 (ww hw 61 rfl) (ww hw 34 rfl) (by decide) (by decide)) qq125a qq125c (g := (mkF m 139 #[.val (.int x0), .val (.long y1), .second, .val (.long y2), .second, .val (.long y3), .second, .val (.long y4), .second, .val (.ref b1), .val (.int (3 : Int32)), .val (.ref b69_0), .val (.ref b93_0), .val (.int (1 : Int32))] [(.int (0 : Int32)), (.ref b93_0)])) rfl (by rw [hml]; rfl) (Steps.refl _) (argsL := [(.int (0 : Int32))]) (rest := []) (lenOf pd__I_J rfl) rfl (by show 2 * 0 + _ ≤ _; exact Nat.le_of_eq rfl) (hb hby at_139) (fun _ _ => ⟨rfl, E122, (by decide : 7 + 0 ≤ _), (by decide : 1058 + 0 ≤ _)⟩)
  dsimp only [Pt.U, Pt.locs, Pt.cells, Pt.slots] at X124 l124 y124 z124 st124 hQ124
  subst l124 y124 z124
  obtain ⟨rfl, N124q, E124⟩ := hQ124
  have N124 := Fr.app N122 N124q
  obtain ⟨cqq127, kqq127, qq127a, qq127b, qq127c⟩ := isOf hZ8 E124 f112
  obtain ⟨_, _, ⟨T126, L126, k126, n126⟩, -, X126, ⟨Lc126, hQ126, l126, y126, z126⟩, st126⟩ := X124.virtualBack hx (y := (⟨cs1, "get", "(I)J"⟩ : MethodName)) (z := (⟨cs1, "get", "(I)J"⟩ : MethodName)) ho8 (mvT hZ8 (ww hw 57 rfl)) (mvT hZ8 (ww hw 58 rfl)) (notFace_of_selects (args := #[]) (mvT hZ8 (ww hw 60 rfl))) (mvT hZ8 (ww hw 60 rfl)) (mvT hZ8 (ww hw 59 rfl)) (by decide) (backOf (W := 0) (rm7_9 l Z a0 hw [] b69_0 b20_0 k20_0 b20_1 k20_1 y1 y2 y3 y4 T93.heap n0 o110 f121 f117 f118) hZ8 (ww hw 61 rfl) (ww hw 34 rfl) (by decide) (by decide)) qq127a qq127c (g := (mkF m 168 #[.val (.int x0), .val (.long y1), .second, .val (.long y2), .second, .val (.long y3), .second, .val (.long y4), .second, .val (.ref b1), .val (.int (3 : Int32)), .val (.ref b69_0), .val (.ref b93_0), .val (.int (1 : Int32))] [(.int (1 : Int32)), (.ref b69_0)])) rfl (by rw [hml]; rfl) (Steps.refl _) (argsL := [(.int (1 : Int32))]) (rest := []) (lenOf pd__I_J rfl) rfl (by show 2 * 0 + _ ≤ _; exact Nat.le_of_eq rfl) (hb hby at_168) (fun _ _ => ⟨rfl, E124, (by decide : 7 + 0 ≤ _), (by decide : 1058 + 0 ≤ _)⟩)
  dsimp only [Pt.U, Pt.locs, Pt.cells, Pt.slots] at X126 l126 y126 z126 st126 hQ126
  subst l126 y126 z126
  obtain ⟨rfl, N126q, E126⟩ := hQ126
  have N126 := Fr.app N124 N126q
  obtain ⟨cqq129, kqq129, qq129a, qq129b, qq129c⟩ := isOf hZ8 E126 f112
  obtain ⟨_, _, ⟨T128, L128, k128, n128⟩, -, X128, ⟨Lc128, hQ128, l128, y128, z128⟩, st128⟩ := X126.virtualBack hx (y := (⟨cs1, "get", "(I)J"⟩ : MethodName)) (z := (⟨cs1, "get", "(I)J"⟩ : MethodName)) ho8 (mvT hZ8 (ww hw 57 rfl)) (mvT hZ8 (ww hw 58 rfl)) (notFace_of_selects (args := #[]) (mvT hZ8 (ww hw 60 rfl))) (mvT hZ8 (ww hw 60 rfl)) (mvT hZ8 (ww hw 59 rfl)) (by decide) (backOf (W := 0) (rm7_10 l Z a0 hw [] b69_0 b20_0 k20_0 b20_1 k20_1 y1 y2 y3 y4 T93.heap n0 o110 f121 f117 f118) hZ8 (ww hw 61 rfl) (ww hw 34 rfl) (by decide) (by decide)) qq129a qq129c (g := (mkF m 197 #[.val (.int x0), .val (.long y1), .second, .val (.long y2), .second, .val (.long y3), .second, .val (.long y4), .second, .val (.ref b1), .val (.int (3 : Int32)), .val (.ref b69_0), .val (.ref b93_0), .val (.int (1 : Int32))] [(.int (2 : Int32)), (.ref b69_0)])) rfl (by rw [hml]; rfl) (Steps.refl _) (argsL := [(.int (2 : Int32))]) (rest := []) (lenOf pd__I_J rfl) rfl (by show 2 * 0 + _ ≤ _; exact Nat.le_of_eq rfl) (hb hby at_197) (fun _ _ => ⟨rfl, E126, (by decide : 7 + 0 ≤ _), (by decide : 1058 + 0 ≤ _)⟩)
  dsimp only [Pt.U, Pt.locs, Pt.cells, Pt.slots] at X128 l128 y128 z128 st128 hQ128
  subst l128 y128 z128
  obtain ⟨rfl, N128q, E128⟩ := hQ128
  have N128 := Fr.app N126 N128q
  have zs130 := K20.1
  have zs131 := Nat.le_trans zs130 K40.1
  have zs132 := Nat.le_trans zs131 K50.1
  have zs133 := Nat.le_trans zs132 K60.1
  have zs134 := Nat.le_trans zs133 K69.1
  have zs135 := Nat.le_trans zs134 K84.1
  have zs136 := Nat.le_trans zs135 K93.1
  obtain ⟨fs, hr, hrun, hended, hend⟩ := leaveW (s := s) (vm₁ := T8.vm) X128 hS8 (by rw [E128]; exact (Nat.le_trans hk8 zs136)) (v := some (.int (1 : Int32))) (fun h => by rw [Bd.returns] at h; cases h)
  refine ⟨_, _, pre0 _ ?_, hrun, hended, _, _, rfl, ?_, hend.1, hend.2.1, hend.2.2.1, hend.2.2.2.mono (by decide) (by decide)⟩
  · show Steps p.tables e below (s₁.setTop (mkF m 0 #[.val (.int x0), .val (.long y1), .second, .val (.long y2), .second, .val (.long y3), .second, .val (.long y4), .second, .unset, .unset, .unset, .unset, .unset] [])) _
    refine st1 _ ?_
    show Steps p.tables e below (T1.setTop (mkF m 3 #[.val (.int x0), .val (.long y1), .second, .val (.long y2), .second, .val (.long y3), .second, .val (.long y4), .second, .unset, .unset, .unset, .unset, .unset] [(.ref b1)])) _
    refine XS.dup X1.here hx rfl (hb hby at_3) rfl rfl ?_
    show Steps p.tables e below (T1.setTop (mkF m 4 #[.val (.int x0), .val (.long y1), .second, .val (.long y2), .second, .val (.long y3), .second, .val (.long y4), .second, .unset, .unset, .unset, .unset, .unset] [(.ref b1), (.ref b1)])) _
    refine st8 _ ?_
    show Steps p.tables e below (T8.setTop (mkF m 6 #[.val (.int x0), .val (.long y1), .second, .val (.long y2), .second, .val (.long y3), .second, .val (.long y4), .second, .unset, .unset, .unset, .unset, .unset] [(.ref a8), (.ref b1), (.ref b1)])) _
    refine st20.trans ?_
    show Steps p.tables e below (T20.setTop (mkF m 9 #[.val (.int x0), .val (.long y1), .second, .val (.long y2), .second, .val (.long y3), .second, .val (.long y4), .second, .unset, .unset, .unset, .unset, .unset] [(.ref b1)])) _
    refine XS.astore X20.here hx rfl (hb hby at_9) rfl rfl (l' := #[.val (.int x0), .val (.long y1), .second, .val (.long y2), .second, .val (.long y3), .second, .val (.long y4), .second, .val (.ref b1), .unset, .unset, .unset, .unset]) rfl ?_
    show Steps p.tables e below (T20.setTop (mkF m 11 #[.val (.int x0), .val (.long y1), .second, .val (.long y2), .second, .val (.long y3), .second, .val (.long y4), .second, .val (.ref b1), .unset, .unset, .unset, .unset] [])) _
    refine XS.iloadN X20.here hx rfl (hb hby at_11) rfl ?_
    show Steps p.tables e below (T20.setTop (mkF m 12 #[.val (.int x0), .val (.long y1), .second, .val (.long y2), .second, .val (.long y3), .second, .val (.long y4), .second, .val (.ref b1), .unset, .unset, .unset, .unset] [(.int x0)])) _
    refine XS.iconst X20.here hx rfl (hb hby at_12) ?_
    show Steps p.tables e below (T20.setTop (mkF m 13 #[.val (.int x0), .val (.long y1), .second, .val (.long y2), .second, .val (.long y3), .second, .val (.long y4), .second, .val (.ref b1), .unset, .unset, .unset, .unset] [(.int (3 : Int32)), (.int x0)])) _
    refine XS.iand X20.here hx rfl (hb hby at_13) rfl ?_
    rw [hc34]
    show Steps p.tables e below (T20.setTop (mkF m 14 #[.val (.int x0), .val (.long y1), .second, .val (.long y2), .second, .val (.long y3), .second, .val (.long y4), .second, .val (.ref b1), .unset, .unset, .unset, .unset] [(.int (3 : Int32))])) _
    refine XS.istore X20.here hx rfl (hb hby at_14) rfl (l' := #[.val (.int x0), .val (.long y1), .second, .val (.long y2), .second, .val (.long y3), .second, .val (.long y4), .second, .val (.ref b1), .val (.int (3 : Int32)), .unset, .unset, .unset]) rfl ?_
    show Steps p.tables e below (T20.setTop (mkF m 16 #[.val (.int x0), .val (.long y1), .second, .val (.long y2), .second, .val (.long y3), .second, .val (.long y4), .second, .val (.ref b1), .val (.int (3 : Int32)), .unset, .unset, .unset] [])) _
    refine XS.iload X20.here hx rfl (hb hby at_16) rfl ?_
    show Steps p.tables e below (T20.setTop (mkF m 18 #[.val (.int x0), .val (.long y1), .second, .val (.long y2), .second, .val (.long y3), .second, .val (.long y4), .second, .val (.ref b1), .val (.int (3 : Int32)), .unset, .unset, .unset] [(.int (3 : Int32))])) _
    refine XS.ifNo X20.here hx rfl (hb hby at_18) rfl ((if0 _ _).trans (tlt (by decide : (0 : Int32) < (3 : Int32))).2.2.2) ?_
    show Steps p.tables e below (T20.setTop (mkF m 21 #[.val (.int x0), .val (.long y1), .second, .val (.long y2), .second, .val (.long y3), .second, .val (.long y4), .second, .val (.ref b1), .val (.int (3 : Int32)), .unset, .unset, .unset] [])) _
    refine XS.aload X20.here hx rfl (hb hby at_21) rfl rfl ?_
    show Steps p.tables e below (T20.setTop (mkF m 23 #[.val (.int x0), .val (.long y1), .second, .val (.long y2), .second, .val (.long y3), .second, .val (.long y4), .second, .val (.ref b1), .val (.int (3 : Int32)), .unset, .unset, .unset] [(.ref b1)])) _
    refine XS.lloadN X20.here hx rfl (hb hby at_23) rfl ?_
    show Steps p.tables e below (T20.setTop (mkF m 24 #[.val (.int x0), .val (.long y1), .second, .val (.long y2), .second, .val (.long y3), .second, .val (.long y4), .second, .val (.ref b1), .val (.int (3 : Int32)), .unset, .unset, .unset] [(.long y1), (.ref b1)])) _
    refine st40.trans ?_
    show Steps p.tables e below (T40.setTop (mkF m 27 #[.val (.int x0), .val (.long y1), .second, .val (.long y2), .second, .val (.long y3), .second, .val (.long y4), .second, .val (.ref b1), .val (.int (3 : Int32)), .unset, .unset, .unset] [])) _
    refine XS.iload X40.here hx rfl (hb hby at_27) rfl ?_
    show Steps p.tables e below (T40.setTop (mkF m 29 #[.val (.int x0), .val (.long y1), .second, .val (.long y2), .second, .val (.long y3), .second, .val (.long y4), .second, .val (.ref b1), .val (.int (3 : Int32)), .unset, .unset, .unset] [(.int (3 : Int32))])) _
    refine XS.iconst X40.here hx rfl (hb hby at_29) ?_
    show Steps p.tables e below (T40.setTop (mkF m 30 #[.val (.int x0), .val (.long y1), .second, .val (.long y2), .second, .val (.long y3), .second, .val (.long y4), .second, .val (.ref b1), .val (.int (3 : Int32)), .unset, .unset, .unset] [(.int (1 : Int32)), (.int (3 : Int32))])) _
    refine XS.icmpNo X40.here hx rfl (hb hby at_30) rfl (tlt (by decide : (1 : Int32) < (3 : Int32))).2.2.2 ?_
    show Steps p.tables e below (T40.setTop (mkF m 33 #[.val (.int x0), .val (.long y1), .second, .val (.long y2), .second, .val (.long y3), .second, .val (.long y4), .second, .val (.ref b1), .val (.int (3 : Int32)), .unset, .unset, .unset] [])) _
    refine XS.aload X40.here hx rfl (hb hby at_33) rfl rfl ?_
    show Steps p.tables e below (T40.setTop (mkF m 35 #[.val (.int x0), .val (.long y1), .second, .val (.long y2), .second, .val (.long y3), .second, .val (.long y4), .second, .val (.ref b1), .val (.int (3 : Int32)), .unset, .unset, .unset] [(.ref b1)])) _
    refine XS.lloadN X40.here hx rfl (hb hby at_35) rfl ?_
    show Steps p.tables e below (T40.setTop (mkF m 36 #[.val (.int x0), .val (.long y1), .second, .val (.long y2), .second, .val (.long y3), .second, .val (.long y4), .second, .val (.ref b1), .val (.int (3 : Int32)), .unset, .unset, .unset] [(.long y2), (.ref b1)])) _
    refine st50.trans ?_
    show Steps p.tables e below (T50.setTop (mkF m 39 #[.val (.int x0), .val (.long y1), .second, .val (.long y2), .second, .val (.long y3), .second, .val (.long y4), .second, .val (.ref b1), .val (.int (3 : Int32)), .unset, .unset, .unset] [])) _
    refine XS.iload X50.here hx rfl (hb hby at_39) rfl ?_
    show Steps p.tables e below (T50.setTop (mkF m 41 #[.val (.int x0), .val (.long y1), .second, .val (.long y2), .second, .val (.long y3), .second, .val (.long y4), .second, .val (.ref b1), .val (.int (3 : Int32)), .unset, .unset, .unset] [(.int (3 : Int32))])) _
    refine XS.iconst X50.here hx rfl (hb hby at_41) ?_
    show Steps p.tables e below (T50.setTop (mkF m 42 #[.val (.int x0), .val (.long y1), .second, .val (.long y2), .second, .val (.long y3), .second, .val (.long y4), .second, .val (.ref b1), .val (.int (3 : Int32)), .unset, .unset, .unset] [(.int (2 : Int32)), (.int (3 : Int32))])) _
    refine XS.icmpNo X50.here hx rfl (hb hby at_42) rfl (tlt (by decide : (2 : Int32) < (3 : Int32))).2.2.2 ?_
    show Steps p.tables e below (T50.setTop (mkF m 45 #[.val (.int x0), .val (.long y1), .second, .val (.long y2), .second, .val (.long y3), .second, .val (.long y4), .second, .val (.ref b1), .val (.int (3 : Int32)), .unset, .unset, .unset] [])) _
    refine XS.aload X50.here hx rfl (hb hby at_45) rfl rfl ?_
    show Steps p.tables e below (T50.setTop (mkF m 47 #[.val (.int x0), .val (.long y1), .second, .val (.long y2), .second, .val (.long y3), .second, .val (.long y4), .second, .val (.ref b1), .val (.int (3 : Int32)), .unset, .unset, .unset] [(.ref b1)])) _
    refine XS.lload X50.here hx rfl (hb hby at_47) rfl ?_
    show Steps p.tables e below (T50.setTop (mkF m 49 #[.val (.int x0), .val (.long y1), .second, .val (.long y2), .second, .val (.long y3), .second, .val (.long y4), .second, .val (.ref b1), .val (.int (3 : Int32)), .unset, .unset, .unset] [(.long y3), (.ref b1)])) _
    refine st60.trans ?_
    show Steps p.tables e below (T60.setTop (mkF m 52 #[.val (.int x0), .val (.long y1), .second, .val (.long y2), .second, .val (.long y3), .second, .val (.long y4), .second, .val (.ref b1), .val (.int (3 : Int32)), .unset, .unset, .unset] [])) _
    refine XS.aload X60.here hx rfl (hb hby at_52) rfl rfl ?_
    show Steps p.tables e below (T60.setTop (mkF m 54 #[.val (.int x0), .val (.long y1), .second, .val (.long y2), .second, .val (.long y3), .second, .val (.long y4), .second, .val (.ref b1), .val (.int (3 : Int32)), .unset, .unset, .unset] [(.ref b1)])) _
    refine st69.trans ?_
    show Steps p.tables e below (T69.setTop (mkF m 57 #[.val (.int x0), .val (.long y1), .second, .val (.long y2), .second, .val (.long y3), .second, .val (.long y4), .second, .val (.ref b1), .val (.int (3 : Int32)), .unset, .unset, .unset] [(.ref b69_0)])) _
    refine XS.astore X69.here hx rfl (hb hby at_57) rfl rfl (l' := #[.val (.int x0), .val (.long y1), .second, .val (.long y2), .second, .val (.long y3), .second, .val (.long y4), .second, .val (.ref b1), .val (.int (3 : Int32)), .val (.ref b69_0), .unset, .unset]) rfl ?_
    show Steps p.tables e below (T69.setTop (mkF m 59 #[.val (.int x0), .val (.long y1), .second, .val (.long y2), .second, .val (.long y3), .second, .val (.long y4), .second, .val (.ref b1), .val (.int (3 : Int32)), .val (.ref b69_0), .unset, .unset] [])) _
    refine XS.aload X69.here hx rfl (hb hby at_59) rfl rfl ?_
    show Steps p.tables e below (T69.setTop (mkF m 61 #[.val (.int x0), .val (.long y1), .second, .val (.long y2), .second, .val (.long y3), .second, .val (.long y4), .second, .val (.ref b1), .val (.int (3 : Int32)), .val (.ref b69_0), .unset, .unset] [(.ref b1)])) _
    refine XS.lload X69.here hx rfl (hb hby at_61) rfl ?_
    show Steps p.tables e below (T69.setTop (mkF m 63 #[.val (.int x0), .val (.long y1), .second, .val (.long y2), .second, .val (.long y3), .second, .val (.long y4), .second, .val (.ref b1), .val (.int (3 : Int32)), .val (.ref b69_0), .unset, .unset] [(.long y4), (.ref b1)])) _
    refine st84.trans ?_
    show Steps p.tables e below (T84.setTop (mkF m 66 #[.val (.int x0), .val (.long y1), .second, .val (.long y2), .second, .val (.long y3), .second, .val (.long y4), .second, .val (.ref b1), .val (.int (3 : Int32)), .val (.ref b69_0), .unset, .unset] [])) _
    refine XS.aload X84.here hx rfl (hb hby at_66) rfl rfl ?_
    show Steps p.tables e below (T84.setTop (mkF m 68 #[.val (.int x0), .val (.long y1), .second, .val (.long y2), .second, .val (.long y3), .second, .val (.long y4), .second, .val (.ref b1), .val (.int (3 : Int32)), .val (.ref b69_0), .unset, .unset] [(.ref b1)])) _
    refine st93.trans ?_
    show Steps p.tables e below (T93.setTop (mkF m 71 #[.val (.int x0), .val (.long y1), .second, .val (.long y2), .second, .val (.long y3), .second, .val (.long y4), .second, .val (.ref b1), .val (.int (3 : Int32)), .val (.ref b69_0), .unset, .unset] [(.ref b93_0)])) _
    refine XS.astore X93.here hx rfl (hb hby at_71) rfl rfl (l' := #[.val (.int x0), .val (.long y1), .second, .val (.long y2), .second, .val (.long y3), .second, .val (.long y4), .second, .val (.ref b1), .val (.int (3 : Int32)), .val (.ref b69_0), .val (.ref b93_0), .unset]) rfl ?_
    show Steps p.tables e below (T93.setTop (mkF m 73 #[.val (.int x0), .val (.long y1), .second, .val (.long y2), .second, .val (.long y3), .second, .val (.long y4), .second, .val (.ref b1), .val (.int (3 : Int32)), .val (.ref b69_0), .val (.ref b93_0), .unset] [])) _
    refine XS.aload X93.here hx rfl (hb hby at_73) rfl rfl ?_
    show Steps p.tables e below (T93.setTop (mkF m 75 #[.val (.int x0), .val (.long y1), .second, .val (.long y2), .second, .val (.long y3), .second, .val (.long y4), .second, .val (.ref b1), .val (.int (3 : Int32)), .val (.ref b69_0), .val (.ref b93_0), .unset] [(.ref b69_0)])) _
    refine st111.trans ?_
    show Steps p.tables e below (T111.setTop (mkF m 78 #[.val (.int x0), .val (.long y1), .second, .val (.long y2), .second, .val (.long y3), .second, .val (.long y4), .second, .val (.ref b1), .val (.int (3 : Int32)), .val (.ref b69_0), .val (.ref b93_0), .unset] [(.int (3 : Int32))])) _
    refine XS.iload X111.here hx rfl (hb hby at_78) rfl ?_
    show Steps p.tables e below (T111.setTop (mkF m 80 #[.val (.int x0), .val (.long y1), .second, .val (.long y2), .second, .val (.long y3), .second, .val (.long y4), .second, .val (.ref b1), .val (.int (3 : Int32)), .val (.ref b69_0), .val (.ref b93_0), .unset] [(.int (3 : Int32)), (.int (3 : Int32))])) _
    refine XS.icmpNo X111.here hx rfl (hb hby at_80) rfl (teq (rfl : (3 : Int32) = (3 : Int32))).2 ?_
    show Steps p.tables e below (T111.setTop (mkF m 83 #[.val (.int x0), .val (.long y1), .second, .val (.long y2), .second, .val (.long y3), .second, .val (.long y4), .second, .val (.ref b1), .val (.int (3 : Int32)), .val (.ref b69_0), .val (.ref b93_0), .unset] [])) _
    refine XS.aload X111.here hx rfl (hb hby at_83) rfl rfl ?_
    show Steps p.tables e below (T111.setTop (mkF m 85 #[.val (.int x0), .val (.long y1), .second, .val (.long y2), .second, .val (.long y3), .second, .val (.long y4), .second, .val (.ref b1), .val (.int (3 : Int32)), .val (.ref b69_0), .val (.ref b93_0), .unset] [(.ref b93_0)])) _
    refine st114.trans ?_
    show Steps p.tables e below (T114.setTop (mkF m 88 #[.val (.int x0), .val (.long y1), .second, .val (.long y2), .second, .val (.long y3), .second, .val (.long y4), .second, .val (.ref b1), .val (.int (3 : Int32)), .val (.ref b69_0), .val (.ref b93_0), .unset] [(.int (4 : Int32))])) _
    refine XS.iload X114.here hx rfl (hb hby at_88) rfl ?_
    show Steps p.tables e below (T114.setTop (mkF m 90 #[.val (.int x0), .val (.long y1), .second, .val (.long y2), .second, .val (.long y3), .second, .val (.long y4), .second, .val (.ref b1), .val (.int (3 : Int32)), .val (.ref b69_0), .val (.ref b93_0), .unset] [(.int (3 : Int32)), (.int (4 : Int32))])) _
    refine XS.iconst X114.here hx rfl (hb hby at_90) ?_
    show Steps p.tables e below (T114.setTop (mkF m 91 #[.val (.int x0), .val (.long y1), .second, .val (.long y2), .second, .val (.long y3), .second, .val (.long y4), .second, .val (.ref b1), .val (.int (3 : Int32)), .val (.ref b69_0), .val (.ref b93_0), .unset] [(.int (1 : Int32)), (.int (3 : Int32)), (.int (4 : Int32))])) _
    refine XS.iadd X114.here hx rfl (hb hby at_91) rfl ?_
    show Steps p.tables e below (T114.setTop (mkF m 92 #[.val (.int x0), .val (.long y1), .second, .val (.long y2), .second, .val (.long y3), .second, .val (.long y4), .second, .val (.ref b1), .val (.int (3 : Int32)), .val (.ref b69_0), .val (.ref b93_0), .unset] [(.int (4 : Int32)), (.int (4 : Int32))])) _
    refine XS.icmpNo X114.here hx rfl (hb hby at_92) rfl (teq (rfl : (4 : Int32) = (4 : Int32))).2 ?_
    show Steps p.tables e below (T114.setTop (mkF m 95 #[.val (.int x0), .val (.long y1), .second, .val (.long y2), .second, .val (.long y3), .second, .val (.long y4), .second, .val (.ref b1), .val (.int (3 : Int32)), .val (.ref b69_0), .val (.ref b93_0), .unset] [])) _
    refine XS.aload X114.here hx rfl (hb hby at_95) rfl rfl ?_
    show Steps p.tables e below (T114.setTop (mkF m 97 #[.val (.int x0), .val (.long y1), .second, .val (.long y2), .second, .val (.long y3), .second, .val (.long y4), .second, .val (.ref b1), .val (.int (3 : Int32)), .val (.ref b69_0), .val (.ref b93_0), .unset] [(.ref b93_0)])) _
    refine XS.iload X114.here hx rfl (hb hby at_97) rfl ?_
    show Steps p.tables e below (T114.setTop (mkF m 99 #[.val (.int x0), .val (.long y1), .second, .val (.long y2), .second, .val (.long y3), .second, .val (.long y4), .second, .val (.ref b1), .val (.int (3 : Int32)), .val (.ref b69_0), .val (.ref b93_0), .unset] [(.int (3 : Int32)), (.ref b93_0)])) _
    refine st119.trans ?_
    show Steps p.tables e below (T119.setTop (mkF m 102 #[.val (.int x0), .val (.long y1), .second, .val (.long y2), .second, .val (.long y3), .second, .val (.long y4), .second, .val (.ref b1), .val (.int (3 : Int32)), .val (.ref b69_0), .val (.ref b93_0), .unset] [(.long y4)])) _
    refine XS.lload X119.here hx rfl (hb hby at_102) rfl ?_
    show Steps p.tables e below (T119.setTop (mkF m 104 #[.val (.int x0), .val (.long y1), .second, .val (.long y2), .second, .val (.long y3), .second, .val (.long y4), .second, .val (.ref b1), .val (.int (3 : Int32)), .val (.ref b69_0), .val (.ref b93_0), .unset] [(.long y4), (.long y4)])) _
    refine XS.lcmp X119.here hx rfl (hb hby at_104) rfl ?_
    show Steps p.tables e below (T119.setTop (mkF m 105 #[.val (.int x0), .val (.long y1), .second, .val (.long y2), .second, .val (.long y3), .second, .val (.long y4), .second, .val (.ref b1), .val (.int (3 : Int32)), .val (.ref b69_0), .val (.ref b93_0), .unset] [(.int (lcmpW y4 y4))])) _
    refine XS.ifNo X119.here hx rfl (hb hby at_105) rfl ((if0 _ _).trans (teq ((by rw [lcW]; exact (lc_eq _ _).mpr (rfl : y4 = y4)) : (lcmpW y4 y4) = (0 : Int32))).2) ?_
    show Steps p.tables e below (T119.setTop (mkF m 108 #[.val (.int x0), .val (.long y1), .second, .val (.long y2), .second, .val (.long y3), .second, .val (.long y4), .second, .val (.ref b1), .val (.int (3 : Int32)), .val (.ref b69_0), .val (.ref b93_0), .unset] [])) _
    refine XS.iconst X119.here hx rfl (hb hby at_108) ?_
    show Steps p.tables e below (T119.setTop (mkF m 109 #[.val (.int x0), .val (.long y1), .second, .val (.long y2), .second, .val (.long y3), .second, .val (.long y4), .second, .val (.ref b1), .val (.int (3 : Int32)), .val (.ref b69_0), .val (.ref b93_0), .unset] [(.int (1 : Int32))])) _
    refine XS.goto X119.here hx rfl (pc0 := 109) (pc' := 113) rfl (hb hby at_109) (by decide) (by decide) ?_
    show Steps p.tables e below (T119.setTop (mkF m 113 #[.val (.int x0), .val (.long y1), .second, .val (.long y2), .second, .val (.long y3), .second, .val (.long y4), .second, .val (.ref b1), .val (.int (3 : Int32)), .val (.ref b69_0), .val (.ref b93_0), .unset] [(.int (1 : Int32))])) _
    refine XS.istore X119.here hx rfl (hb hby at_113) rfl (l' := #[.val (.int x0), .val (.long y1), .second, .val (.long y2), .second, .val (.long y3), .second, .val (.long y4), .second, .val (.ref b1), .val (.int (3 : Int32)), .val (.ref b69_0), .val (.ref b93_0), .val (.int (1 : Int32))]) rfl ?_
    show Steps p.tables e below (T119.setTop (mkF m 115 #[.val (.int x0), .val (.long y1), .second, .val (.long y2), .second, .val (.long y3), .second, .val (.long y4), .second, .val (.ref b1), .val (.int (3 : Int32)), .val (.ref b69_0), .val (.ref b93_0), .val (.int (1 : Int32))] [])) _
    refine XS.iload X119.here hx rfl (hb hby at_115) rfl ?_
    show Steps p.tables e below (T119.setTop (mkF m 117 #[.val (.int x0), .val (.long y1), .second, .val (.long y2), .second, .val (.long y3), .second, .val (.long y4), .second, .val (.ref b1), .val (.int (3 : Int32)), .val (.ref b69_0), .val (.ref b93_0), .val (.int (1 : Int32))] [(.int (3 : Int32))])) _
    refine XS.ifNo X119.here hx rfl (hb hby at_117) rfl ((if0 _ _).trans (tlt (by decide : (0 : Int32) < (3 : Int32))).2.2.2) ?_
    show Steps p.tables e below (T119.setTop (mkF m 120 #[.val (.int x0), .val (.long y1), .second, .val (.long y2), .second, .val (.long y3), .second, .val (.long y4), .second, .val (.ref b1), .val (.int (3 : Int32)), .val (.ref b69_0), .val (.ref b93_0), .val (.int (1 : Int32))] [])) _
    refine XS.iload X119.here hx rfl (hb hby at_120) rfl ?_
    show Steps p.tables e below (T119.setTop (mkF m 122 #[.val (.int x0), .val (.long y1), .second, .val (.long y2), .second, .val (.long y3), .second, .val (.long y4), .second, .val (.ref b1), .val (.int (3 : Int32)), .val (.ref b69_0), .val (.ref b93_0), .val (.int (1 : Int32))] [(.int (1 : Int32))])) _
    refine XS.ifNo X119.here hx rfl (hb hby at_122) rfl ((if0 _ _).trans (feq (by decide : ¬ ((1 : Int32) = (0 : Int32)))).1) ?_
    show Steps p.tables e below (T119.setTop (mkF m 125 #[.val (.int x0), .val (.long y1), .second, .val (.long y2), .second, .val (.long y3), .second, .val (.long y4), .second, .val (.ref b1), .val (.int (3 : Int32)), .val (.ref b69_0), .val (.ref b93_0), .val (.int (1 : Int32))] [])) _
    refine XS.aload X119.here hx rfl (hb hby at_125) rfl rfl ?_
    show Steps p.tables e below (T119.setTop (mkF m 127 #[.val (.int x0), .val (.long y1), .second, .val (.long y2), .second, .val (.long y3), .second, .val (.long y4), .second, .val (.ref b1), .val (.int (3 : Int32)), .val (.ref b69_0), .val (.ref b93_0), .val (.int (1 : Int32))] [(.ref b69_0)])) _
    refine XS.iconst X119.here hx rfl (hb hby at_127) ?_
    show Steps p.tables e below (T119.setTop (mkF m 128 #[.val (.int x0), .val (.long y1), .second, .val (.long y2), .second, .val (.long y3), .second, .val (.long y4), .second, .val (.ref b1), .val (.int (3 : Int32)), .val (.ref b69_0), .val (.ref b93_0), .val (.int (1 : Int32))] [(.int (0 : Int32)), (.ref b69_0)])) _
    refine st122.trans ?_
    show Steps p.tables e below (T122.setTop (mkF m 131 #[.val (.int x0), .val (.long y1), .second, .val (.long y2), .second, .val (.long y3), .second, .val (.long y4), .second, .val (.ref b1), .val (.int (3 : Int32)), .val (.ref b69_0), .val (.ref b93_0), .val (.int (1 : Int32))] [(.long y1)])) _
    refine XS.lloadN X122.here hx rfl (hb hby at_131) rfl ?_
    show Steps p.tables e below (T122.setTop (mkF m 132 #[.val (.int x0), .val (.long y1), .second, .val (.long y2), .second, .val (.long y3), .second, .val (.long y4), .second, .val (.ref b1), .val (.int (3 : Int32)), .val (.ref b69_0), .val (.ref b93_0), .val (.int (1 : Int32))] [(.long y1), (.long y1)])) _
    refine XS.lcmp X122.here hx rfl (hb hby at_132) rfl ?_
    show Steps p.tables e below (T122.setTop (mkF m 133 #[.val (.int x0), .val (.long y1), .second, .val (.long y2), .second, .val (.long y3), .second, .val (.long y4), .second, .val (.ref b1), .val (.int (3 : Int32)), .val (.ref b69_0), .val (.ref b93_0), .val (.int (1 : Int32))] [(.int (lcmpW y1 y1))])) _
    refine XS.ifNo X122.here hx rfl (hb hby at_133) rfl ((if0 _ _).trans (teq ((by rw [lcW]; exact (lc_eq _ _).mpr (rfl : y1 = y1)) : (lcmpW y1 y1) = (0 : Int32))).2) ?_
    show Steps p.tables e below (T122.setTop (mkF m 136 #[.val (.int x0), .val (.long y1), .second, .val (.long y2), .second, .val (.long y3), .second, .val (.long y4), .second, .val (.ref b1), .val (.int (3 : Int32)), .val (.ref b69_0), .val (.ref b93_0), .val (.int (1 : Int32))] [])) _
    refine XS.aload X122.here hx rfl (hb hby at_136) rfl rfl ?_
    show Steps p.tables e below (T122.setTop (mkF m 138 #[.val (.int x0), .val (.long y1), .second, .val (.long y2), .second, .val (.long y3), .second, .val (.long y4), .second, .val (.ref b1), .val (.int (3 : Int32)), .val (.ref b69_0), .val (.ref b93_0), .val (.int (1 : Int32))] [(.ref b93_0)])) _
    refine XS.iconst X122.here hx rfl (hb hby at_138) ?_
    show Steps p.tables e below (T122.setTop (mkF m 139 #[.val (.int x0), .val (.long y1), .second, .val (.long y2), .second, .val (.long y3), .second, .val (.long y4), .second, .val (.ref b1), .val (.int (3 : Int32)), .val (.ref b69_0), .val (.ref b93_0), .val (.int (1 : Int32))] [(.int (0 : Int32)), (.ref b93_0)])) _
    refine st124.trans ?_
    show Steps p.tables e below (T124.setTop (mkF m 142 #[.val (.int x0), .val (.long y1), .second, .val (.long y2), .second, .val (.long y3), .second, .val (.long y4), .second, .val (.ref b1), .val (.int (3 : Int32)), .val (.ref b69_0), .val (.ref b93_0), .val (.int (1 : Int32))] [(.long y1)])) _
    refine XS.lloadN X124.here hx rfl (hb hby at_142) rfl ?_
    show Steps p.tables e below (T124.setTop (mkF m 143 #[.val (.int x0), .val (.long y1), .second, .val (.long y2), .second, .val (.long y3), .second, .val (.long y4), .second, .val (.ref b1), .val (.int (3 : Int32)), .val (.ref b69_0), .val (.ref b93_0), .val (.int (1 : Int32))] [(.long y1), (.long y1)])) _
    refine XS.lcmp X124.here hx rfl (hb hby at_143) rfl ?_
    show Steps p.tables e below (T124.setTop (mkF m 144 #[.val (.int x0), .val (.long y1), .second, .val (.long y2), .second, .val (.long y3), .second, .val (.long y4), .second, .val (.ref b1), .val (.int (3 : Int32)), .val (.ref b69_0), .val (.ref b93_0), .val (.int (1 : Int32))] [(.int (lcmpW y1 y1))])) _
    refine XS.ifNo X124.here hx rfl (hb hby at_144) rfl ((if0 _ _).trans (teq ((by rw [lcW]; exact (lc_eq _ _).mpr (rfl : y1 = y1)) : (lcmpW y1 y1) = (0 : Int32))).2) ?_
    show Steps p.tables e below (T124.setTop (mkF m 147 #[.val (.int x0), .val (.long y1), .second, .val (.long y2), .second, .val (.long y3), .second, .val (.long y4), .second, .val (.ref b1), .val (.int (3 : Int32)), .val (.ref b69_0), .val (.ref b93_0), .val (.int (1 : Int32))] [])) _
    refine XS.iconst X124.here hx rfl (hb hby at_147) ?_
    show Steps p.tables e below (T124.setTop (mkF m 148 #[.val (.int x0), .val (.long y1), .second, .val (.long y2), .second, .val (.long y3), .second, .val (.long y4), .second, .val (.ref b1), .val (.int (3 : Int32)), .val (.ref b69_0), .val (.ref b93_0), .val (.int (1 : Int32))] [(.int (1 : Int32))])) _
    refine XS.goto X124.here hx rfl (pc0 := 148) (pc' := 152) rfl (hb hby at_148) (by decide) (by decide) ?_
    show Steps p.tables e below (T124.setTop (mkF m 152 #[.val (.int x0), .val (.long y1), .second, .val (.long y2), .second, .val (.long y3), .second, .val (.long y4), .second, .val (.ref b1), .val (.int (3 : Int32)), .val (.ref b69_0), .val (.ref b93_0), .val (.int (1 : Int32))] [(.int (1 : Int32))])) _
    refine XS.istore X124.here hx rfl (hb hby at_152) rfl (l' := #[.val (.int x0), .val (.long y1), .second, .val (.long y2), .second, .val (.long y3), .second, .val (.long y4), .second, .val (.ref b1), .val (.int (3 : Int32)), .val (.ref b69_0), .val (.ref b93_0), .val (.int (1 : Int32))]) rfl ?_
    show Steps p.tables e below (T124.setTop (mkF m 154 #[.val (.int x0), .val (.long y1), .second, .val (.long y2), .second, .val (.long y3), .second, .val (.long y4), .second, .val (.ref b1), .val (.int (3 : Int32)), .val (.ref b69_0), .val (.ref b93_0), .val (.int (1 : Int32))] [])) _
    refine XS.iload X124.here hx rfl (hb hby at_154) rfl ?_
    show Steps p.tables e below (T124.setTop (mkF m 156 #[.val (.int x0), .val (.long y1), .second, .val (.long y2), .second, .val (.long y3), .second, .val (.long y4), .second, .val (.ref b1), .val (.int (3 : Int32)), .val (.ref b69_0), .val (.ref b93_0), .val (.int (1 : Int32))] [(.int (3 : Int32))])) _
    refine XS.iconst X124.here hx rfl (hb hby at_156) ?_
    show Steps p.tables e below (T124.setTop (mkF m 157 #[.val (.int x0), .val (.long y1), .second, .val (.long y2), .second, .val (.long y3), .second, .val (.long y4), .second, .val (.ref b1), .val (.int (3 : Int32)), .val (.ref b69_0), .val (.ref b93_0), .val (.int (1 : Int32))] [(.int (1 : Int32)), (.int (3 : Int32))])) _
    refine XS.icmpNo X124.here hx rfl (hb hby at_157) rfl (tlt (by decide : (1 : Int32) < (3 : Int32))).2.2.2 ?_
    show Steps p.tables e below (T124.setTop (mkF m 160 #[.val (.int x0), .val (.long y1), .second, .val (.long y2), .second, .val (.long y3), .second, .val (.long y4), .second, .val (.ref b1), .val (.int (3 : Int32)), .val (.ref b69_0), .val (.ref b93_0), .val (.int (1 : Int32))] [])) _
    refine XS.iload X124.here hx rfl (hb hby at_160) rfl ?_
    show Steps p.tables e below (T124.setTop (mkF m 162 #[.val (.int x0), .val (.long y1), .second, .val (.long y2), .second, .val (.long y3), .second, .val (.long y4), .second, .val (.ref b1), .val (.int (3 : Int32)), .val (.ref b69_0), .val (.ref b93_0), .val (.int (1 : Int32))] [(.int (1 : Int32))])) _
    refine XS.ifNo X124.here hx rfl (hb hby at_162) rfl ((if0 _ _).trans (feq (by decide : ¬ ((1 : Int32) = (0 : Int32)))).1) ?_
    show Steps p.tables e below (T124.setTop (mkF m 165 #[.val (.int x0), .val (.long y1), .second, .val (.long y2), .second, .val (.long y3), .second, .val (.long y4), .second, .val (.ref b1), .val (.int (3 : Int32)), .val (.ref b69_0), .val (.ref b93_0), .val (.int (1 : Int32))] [])) _
    refine XS.aload X124.here hx rfl (hb hby at_165) rfl rfl ?_
    show Steps p.tables e below (T124.setTop (mkF m 167 #[.val (.int x0), .val (.long y1), .second, .val (.long y2), .second, .val (.long y3), .second, .val (.long y4), .second, .val (.ref b1), .val (.int (3 : Int32)), .val (.ref b69_0), .val (.ref b93_0), .val (.int (1 : Int32))] [(.ref b69_0)])) _
    refine XS.iconst X124.here hx rfl (hb hby at_167) ?_
    show Steps p.tables e below (T124.setTop (mkF m 168 #[.val (.int x0), .val (.long y1), .second, .val (.long y2), .second, .val (.long y3), .second, .val (.long y4), .second, .val (.ref b1), .val (.int (3 : Int32)), .val (.ref b69_0), .val (.ref b93_0), .val (.int (1 : Int32))] [(.int (1 : Int32)), (.ref b69_0)])) _
    refine st126.trans ?_
    show Steps p.tables e below (T126.setTop (mkF m 171 #[.val (.int x0), .val (.long y1), .second, .val (.long y2), .second, .val (.long y3), .second, .val (.long y4), .second, .val (.ref b1), .val (.int (3 : Int32)), .val (.ref b69_0), .val (.ref b93_0), .val (.int (1 : Int32))] [(.long y2)])) _
    refine XS.lloadN X126.here hx rfl (hb hby at_171) rfl ?_
    show Steps p.tables e below (T126.setTop (mkF m 172 #[.val (.int x0), .val (.long y1), .second, .val (.long y2), .second, .val (.long y3), .second, .val (.long y4), .second, .val (.ref b1), .val (.int (3 : Int32)), .val (.ref b69_0), .val (.ref b93_0), .val (.int (1 : Int32))] [(.long y2), (.long y2)])) _
    refine XS.lcmp X126.here hx rfl (hb hby at_172) rfl ?_
    show Steps p.tables e below (T126.setTop (mkF m 173 #[.val (.int x0), .val (.long y1), .second, .val (.long y2), .second, .val (.long y3), .second, .val (.long y4), .second, .val (.ref b1), .val (.int (3 : Int32)), .val (.ref b69_0), .val (.ref b93_0), .val (.int (1 : Int32))] [(.int (lcmpW y2 y2))])) _
    refine XS.ifNo X126.here hx rfl (hb hby at_173) rfl ((if0 _ _).trans (teq ((by rw [lcW]; exact (lc_eq _ _).mpr (rfl : y2 = y2)) : (lcmpW y2 y2) = (0 : Int32))).2) ?_
    show Steps p.tables e below (T126.setTop (mkF m 176 #[.val (.int x0), .val (.long y1), .second, .val (.long y2), .second, .val (.long y3), .second, .val (.long y4), .second, .val (.ref b1), .val (.int (3 : Int32)), .val (.ref b69_0), .val (.ref b93_0), .val (.int (1 : Int32))] [])) _
    refine XS.iconst X126.here hx rfl (hb hby at_176) ?_
    show Steps p.tables e below (T126.setTop (mkF m 177 #[.val (.int x0), .val (.long y1), .second, .val (.long y2), .second, .val (.long y3), .second, .val (.long y4), .second, .val (.ref b1), .val (.int (3 : Int32)), .val (.ref b69_0), .val (.ref b93_0), .val (.int (1 : Int32))] [(.int (1 : Int32))])) _
    refine XS.goto X126.here hx rfl (pc0 := 177) (pc' := 181) rfl (hb hby at_177) (by decide) (by decide) ?_
    show Steps p.tables e below (T126.setTop (mkF m 181 #[.val (.int x0), .val (.long y1), .second, .val (.long y2), .second, .val (.long y3), .second, .val (.long y4), .second, .val (.ref b1), .val (.int (3 : Int32)), .val (.ref b69_0), .val (.ref b93_0), .val (.int (1 : Int32))] [(.int (1 : Int32))])) _
    refine XS.istore X126.here hx rfl (hb hby at_181) rfl (l' := #[.val (.int x0), .val (.long y1), .second, .val (.long y2), .second, .val (.long y3), .second, .val (.long y4), .second, .val (.ref b1), .val (.int (3 : Int32)), .val (.ref b69_0), .val (.ref b93_0), .val (.int (1 : Int32))]) rfl ?_
    show Steps p.tables e below (T126.setTop (mkF m 183 #[.val (.int x0), .val (.long y1), .second, .val (.long y2), .second, .val (.long y3), .second, .val (.long y4), .second, .val (.ref b1), .val (.int (3 : Int32)), .val (.ref b69_0), .val (.ref b93_0), .val (.int (1 : Int32))] [])) _
    refine XS.iload X126.here hx rfl (hb hby at_183) rfl ?_
    show Steps p.tables e below (T126.setTop (mkF m 185 #[.val (.int x0), .val (.long y1), .second, .val (.long y2), .second, .val (.long y3), .second, .val (.long y4), .second, .val (.ref b1), .val (.int (3 : Int32)), .val (.ref b69_0), .val (.ref b93_0), .val (.int (1 : Int32))] [(.int (3 : Int32))])) _
    refine XS.iconst X126.here hx rfl (hb hby at_185) ?_
    show Steps p.tables e below (T126.setTop (mkF m 186 #[.val (.int x0), .val (.long y1), .second, .val (.long y2), .second, .val (.long y3), .second, .val (.long y4), .second, .val (.ref b1), .val (.int (3 : Int32)), .val (.ref b69_0), .val (.ref b93_0), .val (.int (1 : Int32))] [(.int (2 : Int32)), (.int (3 : Int32))])) _
    refine XS.icmpNo X126.here hx rfl (hb hby at_186) rfl (tlt (by decide : (2 : Int32) < (3 : Int32))).2.2.2 ?_
    show Steps p.tables e below (T126.setTop (mkF m 189 #[.val (.int x0), .val (.long y1), .second, .val (.long y2), .second, .val (.long y3), .second, .val (.long y4), .second, .val (.ref b1), .val (.int (3 : Int32)), .val (.ref b69_0), .val (.ref b93_0), .val (.int (1 : Int32))] [])) _
    refine XS.iload X126.here hx rfl (hb hby at_189) rfl ?_
    show Steps p.tables e below (T126.setTop (mkF m 191 #[.val (.int x0), .val (.long y1), .second, .val (.long y2), .second, .val (.long y3), .second, .val (.long y4), .second, .val (.ref b1), .val (.int (3 : Int32)), .val (.ref b69_0), .val (.ref b93_0), .val (.int (1 : Int32))] [(.int (1 : Int32))])) _
    refine XS.ifNo X126.here hx rfl (hb hby at_191) rfl ((if0 _ _).trans (feq (by decide : ¬ ((1 : Int32) = (0 : Int32)))).1) ?_
    show Steps p.tables e below (T126.setTop (mkF m 194 #[.val (.int x0), .val (.long y1), .second, .val (.long y2), .second, .val (.long y3), .second, .val (.long y4), .second, .val (.ref b1), .val (.int (3 : Int32)), .val (.ref b69_0), .val (.ref b93_0), .val (.int (1 : Int32))] [])) _
    refine XS.aload X126.here hx rfl (hb hby at_194) rfl rfl ?_
    show Steps p.tables e below (T126.setTop (mkF m 196 #[.val (.int x0), .val (.long y1), .second, .val (.long y2), .second, .val (.long y3), .second, .val (.long y4), .second, .val (.ref b1), .val (.int (3 : Int32)), .val (.ref b69_0), .val (.ref b93_0), .val (.int (1 : Int32))] [(.ref b69_0)])) _
    refine XS.iconst X126.here hx rfl (hb hby at_196) ?_
    show Steps p.tables e below (T126.setTop (mkF m 197 #[.val (.int x0), .val (.long y1), .second, .val (.long y2), .second, .val (.long y3), .second, .val (.long y4), .second, .val (.ref b1), .val (.int (3 : Int32)), .val (.ref b69_0), .val (.ref b93_0), .val (.int (1 : Int32))] [(.int (2 : Int32)), (.ref b69_0)])) _
    refine st128.trans ?_
    show Steps p.tables e below (T128.setTop (mkF m 200 #[.val (.int x0), .val (.long y1), .second, .val (.long y2), .second, .val (.long y3), .second, .val (.long y4), .second, .val (.ref b1), .val (.int (3 : Int32)), .val (.ref b69_0), .val (.ref b93_0), .val (.int (1 : Int32))] [(.long y3)])) _
    refine XS.lload X128.here hx rfl (hb hby at_200) rfl ?_
    show Steps p.tables e below (T128.setTop (mkF m 202 #[.val (.int x0), .val (.long y1), .second, .val (.long y2), .second, .val (.long y3), .second, .val (.long y4), .second, .val (.ref b1), .val (.int (3 : Int32)), .val (.ref b69_0), .val (.ref b93_0), .val (.int (1 : Int32))] [(.long y3), (.long y3)])) _
    refine XS.lcmp X128.here hx rfl (hb hby at_202) rfl ?_
    show Steps p.tables e below (T128.setTop (mkF m 203 #[.val (.int x0), .val (.long y1), .second, .val (.long y2), .second, .val (.long y3), .second, .val (.long y4), .second, .val (.ref b1), .val (.int (3 : Int32)), .val (.ref b69_0), .val (.ref b93_0), .val (.int (1 : Int32))] [(.int (lcmpW y3 y3))])) _
    refine XS.ifNo X128.here hx rfl (hb hby at_203) rfl ((if0 _ _).trans (teq ((by rw [lcW]; exact (lc_eq _ _).mpr (rfl : y3 = y3)) : (lcmpW y3 y3) = (0 : Int32))).2) ?_
    show Steps p.tables e below (T128.setTop (mkF m 206 #[.val (.int x0), .val (.long y1), .second, .val (.long y2), .second, .val (.long y3), .second, .val (.long y4), .second, .val (.ref b1), .val (.int (3 : Int32)), .val (.ref b69_0), .val (.ref b93_0), .val (.int (1 : Int32))] [])) _
    refine XS.iconst X128.here hx rfl (hb hby at_206) ?_
    show Steps p.tables e below (T128.setTop (mkF m 207 #[.val (.int x0), .val (.long y1), .second, .val (.long y2), .second, .val (.long y3), .second, .val (.long y4), .second, .val (.ref b1), .val (.int (3 : Int32)), .val (.ref b69_0), .val (.ref b93_0), .val (.int (1 : Int32))] [(.int (1 : Int32))])) _
    refine XS.goto X128.here hx rfl (pc0 := 207) (pc' := 211) rfl (hb hby at_207) (by decide) (by decide) ?_
    show Steps p.tables e below (T128.setTop (mkF m 211 #[.val (.int x0), .val (.long y1), .second, .val (.long y2), .second, .val (.long y3), .second, .val (.long y4), .second, .val (.ref b1), .val (.int (3 : Int32)), .val (.ref b69_0), .val (.ref b93_0), .val (.int (1 : Int32))] [(.int (1 : Int32))])) _
    refine XS.istore X128.here hx rfl (hb hby at_211) rfl (l' := #[.val (.int x0), .val (.long y1), .second, .val (.long y2), .second, .val (.long y3), .second, .val (.long y4), .second, .val (.ref b1), .val (.int (3 : Int32)), .val (.ref b69_0), .val (.ref b93_0), .val (.int (1 : Int32))]) rfl ?_
    show Steps p.tables e below (T128.setTop (mkF m 213 #[.val (.int x0), .val (.long y1), .second, .val (.long y2), .second, .val (.long y3), .second, .val (.long y4), .second, .val (.ref b1), .val (.int (3 : Int32)), .val (.ref b69_0), .val (.ref b93_0), .val (.int (1 : Int32))] [])) _
    refine XS.iload X128.here hx rfl (hb hby at_213) rfl ?_
    show Steps p.tables e below (T128.setTop (mkF m 215 #[.val (.int x0), .val (.long y1), .second, .val (.long y2), .second, .val (.long y3), .second, .val (.long y4), .second, .val (.ref b1), .val (.int (3 : Int32)), .val (.ref b69_0), .val (.ref b93_0), .val (.int (1 : Int32))] [(.int (1 : Int32))])) _
    exact retN X128 hx (t := .boolean) Bd.returns (by simp) (hb hby at_215) hr
  · show Q0_4 Z x0 y1 y2 y3 y4 h0 n0 _ T128.heap _
    rw [E128]
    exact ⟨rfl, N128⟩
set_option maxRecDepth 65536 in
set_option maxHeartbeats 40000000 in
theorem comes_1 {Post : Tables → Env → Array Value → State → Outcome → State → Prop} (hpost : ∀ tb e args s v u, (limb_1_1.after args s (.returned v) u = true ∧ limb_1_2.after args s (.returned v) u = true ∧ True) → ReturnedEndW s (.returned v) u (Jvm.fieldLocs frame_1_writes args s ++ Jvm.arrayLocs frame_1_arrays args s ++ Jvm.staticLocs frame_1_statics s) 24 3200 → Post tb e args s (.returned v) u) :
    ArmFor flags0 classFile x code maxLocals ret World_1 tables_1 room_1 Calls_1 rest_1 Pre_1 Post := by
  intro l hfl _ _ p e ha hc hk s m args below hf hA hF happ hP
  obtain ⟨hcalls, hrest, hpre⟩ := hP
  obtain ⟨-, -, -, hnamed, -, -, -, hat⟩ := (Spec.applies_iff hf).mp happ
  obtain ⟨hg, hn⟩ := and_e (Cond.before_iff.mp (show (Jvm.Cond.and given_1 narrow_1).before args s = true from hpre))
  obtain ⟨g0, hg⟩ := and_e hg
  obtain ⟨ga0, hg⟩ := and_e hg
  obtain ⟨ga1, hg⟩ := and_e hg
  obtain ⟨ga2, hg⟩ := and_e hg
  obtain ⟨ga3, hg⟩ := and_e hg
  obtain ⟨w0, w1, w2, w3, w4, rfl⟩ : ∃ w0 w1 w2 w3 w4 : Value, args = #[w0, w1, w2, w3, w4] := by
    have hs : args.size = 5 := by simpa [Cond.value, given_1] using g0
    obtain ⟨L⟩ := args
    match L, hs with
    | [w0, w1, w2, w3, w4], _ => exact ⟨w0, w1, w2, w3, w4, rfl⟩
  have hw := fun d (hd : d ∈ tables_1) => atoms_spec (ws := Jvm.Cond.code x code maxLocals ret :: tables_1) hat d (List.mem_cons_of_mem _ hd)
  have hfit : Fit s := fun {y c} hc i hi => by
    obtain ⟨ha, rfl⟩ := Array.getElem?_eq_some_iff.mp hc
    have q := List.all_eq_true.mp ((Array.all_eq_true_iff_forall_mem.mp hF) _ (Array.getElem_mem ha)) i (List.mem_range.mpr hi)
    simpa [Array.getElem?_eq_getElem hi] using q
  obtain ⟨i0, ei0⟩ := is_v ga0
  obtain rfl : w0 = (.int i0) := Option.some.inj ei0
  obtain ⟨i1, ei1⟩ := isL_v ga1
  obtain rfl : w1 = (.long i1) := Option.some.inj ei1
  obtain ⟨i2, ei2⟩ := isL_v ga2
  obtain rfl : w2 = (.long i2) := Option.some.inj ei2
  obtain ⟨i3, ei3⟩ := isL_v ga3
  obtain rfl : w3 = (.long i3) := Option.some.inj ei3
  obtain ⟨i4, ei4⟩ := isL_v hg
  obtain rfl : w4 = (.long i4) := Option.some.inj ei4
  suffices hM : MetFree l x (head1 (Jvm.Cond.code x code maxLocals ret :: tables_1) room_1) (fun a U => a = #[(.int i0), (.long i1), (.long i2), (.long i3), (.long i4)] ∧ s.Warmed39 U.vm ∧ U.heap = s.heap) (fun _ _ _ _ _ => True) (fun _ U o U' => ∃ v L, o = .returned v ∧ (v = some (.int (1 : Int32)) ∧ Fr s.heap.size L) ∧ ReturnedEndW U o U' L room_1.cells room_1.slots) by
    obtain ⟨n, o, h1, h2, h3, _, L, rfl, ⟨rfl, N⟩, hq⟩ := hM p e ha hc hk s m _ below hf ((Spec.applies_iff_loose hf).mp happ).1 ⟨rfl, State.Warmed39.refl s, rfl⟩ trivial
    refine ⟨n, _, h1, h2, h3, hpost _ _ _ _ _ _ ⟨Cond.after_iff.mpr rfl, Cond.after_iff.mpr (eq_i res_at (Term.int_eval (1)) rfl), trivial⟩ ⟨hq.1, hq.2.1, hq.2.2.1, (hq.2.2.2.sift fun y hy => Or.inr (N y hy)).mono (by decide) (by decide)⟩⟩
  have hs := own_and3 i0
  by_cases c0 : (i0 &&& (3 : Int32)) = (0 : Int32)
  · exact rm0_1 l s _ hw tables_1 i0 i1 i2 i3 i4 _ _ (Old.start s) c0
  by_cases c1 : (i0 &&& (3 : Int32)) = (1 : Int32)
  · exact rm0_2 l s _ hw tables_1 i0 i1 i2 i3 i4 _ _ (Old.start s) c1
  by_cases c2 : (i0 &&& (3 : Int32)) = (2 : Int32)
  · exact rm0_3 l s _ hw tables_1 i0 i1 i2 i3 i4 _ _ (Old.start s) c2
  have c3 : (i0 &&& (3 : Int32)) = (3 : Int32) := by rcases hs with h | h | h | h <;> first | exact absurd h c0 | exact absurd h c1 | exact absurd h c2 | exact h
  exact rm0_4 l s _ hw tables_1 i0 i1 i2 i3 i4 _ _ (Old.start s) c3
theorem main_1_1 : Claimed_1_1 := comes_1 fun _ _ _ _ _ _ h hF => ⟨h.1, hF⟩
theorem main_1_2 : Claimed_1_2 := comes_1 fun _ _ _ _ _ _ h hF => ⟨h.2.1, hF⟩
end Jvm.Pilot.@@N@@
namespace Jvm.Pilot.@@N@@
open Jvm Jvm.ClassFile Sem Op Lib Jvm.Free Jvm.Stand Jvm.Pilot.@@N@@.Jvm.D
/-! MADE BY PROGRAM (witnessworld.py) out of the Statement's table words and the real class files: 17 classes; the members and pool entries that the words name. The judged class is class 1, her method 1. -/
namespace start1
open Jvm.ClassFile
def u (s : String) : CpInfo := .utf8 (stringToUtf16 s)
/-- a pool by its gaps: so many unusable entries, then the entry; so many at the end -/
def gap : Nat → List CpInfo → List CpInfo
  | 0, r => r
  | n + 1, r => .unusable :: gap n r
def poolList (es : List (Nat × CpInfo)) (last : Nat) : List CpInfo := es.foldr (fun e r => gap e.1 (e.2 :: r)) (gap last [])
def pool (es : List (Nat × CpInfo)) (last : Nat) : Array CpInfo := ⟨poolList es last⟩
def fileOf (pool : Array CpInfo) (this : Nat) (attrs : Array Attribute := #[]) (ms : Array MethodInfo := #[]) (fl : Nat := 33) (sup : Nat := 0) (ifs : Array Nat := #[]) (fds : Array FieldInfo := #[]) : ClassFile where
  minorVersion := 0
  majorVersion := 65
  constantPool := pool
  accessFlags := fl
  thisClass := this
  superClass := sup
  interfaces := ifs
  fields := fds
  methods := ms
  attributes := attrs
def plain (name : String) (sup : Option ClassId) : Class where
  name := name
  kind := .ordinary
  loader := none
  accessFlags := 33
  super := sup
  interfaces := #[]
  cf := none
  fields := #[]
  methods := #[]
  instanceTypes := #[]
  staticTypes := #[]
  resolved := #[]
  callSites := []
  init := .initialized
  statics := none
  mirror := none

def pool0 : Array CpInfo := pool [(5, u "<init>"), (0, u "()V"), (1, .class_ 10), (1, u "java/lang/Object")] 113

def k0c0 : Code := { maxStack := 0, maxLocals := 1, code := object_method_1_code, exceptionTable := #[], attributes := #[] }
def k0m0 : Method := { name := "<init>", desc := "()V", sig := { parameters := [], returnType := none }, accessFlags := 1, code := some k0c0 }
/-- java/lang/Object -/
def k0 : Class := { plain "java/lang/Object" none with
  accessFlags := 33
  interfaces := #[]
  cf := some (fileOf pool0 8 #[] #[{ accessFlags := 1, nameIndex := 5, descriptorIndex := 6, attributes := #[] }] 33 0 #[] #[])
  fields := #[]
  methods := #[k0m0]
  instanceTypes := #[]
  staticTypes := #[]
  resolved := Array.replicate 124 none
  statics := none }

def pool1 : Array CpInfo := pool [(2, .class_ 4), (1, u "java/lang/Object"), (0, u "<init>"), (0, u "()V"), (0, .class_ 8), (0, u "com/example/links_to_ranks/linkstoranks/LongList"), (0, .string 10), (0, u "links"), (0, .methodref 7 12), (0, .nameAndType 5 13), (0, u "(Ljava/lang/String;)V"), (0, .methodref 7 15), (0, .nameAndType 16 17), (0, u "add"), (0, u "(J)V"), (0, .methodref 7 19), (0, .nameAndType 20 21), (0, u "view"), (0, u "()Lcom/example/links_to_ranks/linkstoranks/LongList$View;"), (0, .methodref 23 24), (0, .class_ 25), (0, .nameAndType 26 27), (0, u "com/example/links_to_ranks/linkstoranks/LongList$View"), (0, u "size"), (0, u "()I"), (0, .methodref 23 29), (0, .nameAndType 30 31), (0, u "get"), (0, u "(I)J"), (0, .class_ 33), (0, u "com/example/links_to_ranks/linkstoranks/LongListViewPinLaw"), (2, u "law"), (0, u "(IJJJJ)Z")] 5

def k1m0 : Method := { name := "<init>", desc := "()V", sig := { parameters := [], returnType := none }, accessFlags := 1, code := none }
def k1c1 : Code := { maxStack := 4, maxLocals := 14, code := code, exceptionTable := #[], attributes := #[] }
def k1m1 : Method := { name := "law", desc := "(IJJJJ)Z", sig := { parameters := [.int, .long, .long, .long, .long], returnType := some .boolean }, accessFlags := 9, code := some k1c1 }
/-- com/example/links_to_ranks/linkstoranks/LongListViewPinLaw -/
def k1 : Class := { plain "com/example/links_to_ranks/linkstoranks/LongListViewPinLaw" (some 0) with
  accessFlags := 49
  interfaces := #[]
  cf := some (fileOf pool1 32 #[] #[{ accessFlags := 1, nameIndex := 5, descriptorIndex := 6, attributes := #[] }, { accessFlags := 9, nameIndex := 36, descriptorIndex := 37, attributes := #[] }] 49 2 #[] #[])
  fields := #[]
  methods := #[k1m0, k1m1]
  instanceTypes := #[]
  staticTypes := #[]
  resolved := Array.replicate 43 none
  statics := none }

def pool2 : Array CpInfo := pool [(1, .class_ 2), (0, u "com/example/links_to_ranks/linkstoranks/LongList"), (2, .methodref 6 7), (0, .class_ 8), (0, .nameAndType 9 10), (0, u "java/lang/Object"), (0, u "<init>"), (0, u "()V"), (0, .class_ 12), (0, u "[J"), (0, .fieldref 1 14), (0, .nameAndType 15 16), (0, u "chunks"), (0, u "[[J"), (0, .fieldref 1 18), (0, .nameAndType 19 12), (0, u "filling"), (0, .fieldref 1 21), (0, .nameAndType 22 23), (0, u "items"), (0, u "Ljava/lang/String;"), (0, .fieldref 1 25), (0, .nameAndType 26 27), (0, u "filled"), (0, u "I"), (3, .fieldref 1 32), (0, .nameAndType 33 27), (0, u "size"), (0, .class_ 35), (0, u "com/example/links_to_ranks/linkstoranks/LongList$View"), (0, .methodref 34 37), (0, .nameAndType 9 38), (0, u "([[JI)V"), (9, u "(Ljava/lang/String;)V"), (17, u "CHUNK_BITS"), (2, u "CHUNK_SIZE"), (0, u "CHUNK_MASK"), (1, u "MAX_SIZE"), (2, u "add"), (0, u "(J)V"), (2, u "view"), (0, u "()Lcom/example/links_to_ranks/linkstoranks/LongList$View;")] 19

def k2c0 : Code := { maxStack := 5, maxLocals := 2, code := prog_13_method_1_code, exceptionTable := #[], attributes := #[] }
def k2m0 : Method := { name := "<init>", desc := "(Ljava/lang/String;)V", sig := { parameters := [(.object "java/lang/String")], returnType := none }, accessFlags := 0, code := some k2c0 }
def k2c1 : Code := { maxStack := 5, maxLocals := 3, code := prog_13_method_2_code, exceptionTable := #[], attributes := #[] }
def k2m1 : Method := { name := "add", desc := "(J)V", sig := { parameters := [.long], returnType := none }, accessFlags := 0, code := some k2c1 }
def k2c2 : Code := { maxStack := 4, maxLocals := 1, code := prog_13_method_4_code, exceptionTable := #[], attributes := #[] }
def k2m2 : Method := { name := "view", desc := "()Lcom/example/links_to_ranks/linkstoranks/LongList$View;", sig := { parameters := [], returnType := some (.object "com/example/links_to_ranks/linkstoranks/LongList$View") }, accessFlags := 0, code := some k2c2 }
/-- com/example/links_to_ranks/linkstoranks/LongList -/
def k2 : Class := { plain "com/example/links_to_ranks/linkstoranks/LongList" (some 0) with
  accessFlags := 48
  interfaces := #[]
  cf := some (fileOf pool2 1 #[.nestMembers #[34]] #[{ accessFlags := 0, nameIndex := 9, descriptorIndex := 48, attributes := #[] }, { accessFlags := 0, nameIndex := 75, descriptorIndex := 76, attributes := #[] }, { accessFlags := 0, nameIndex := 79, descriptorIndex := 80, attributes := #[] }] 48 6 #[] #[{ accessFlags := 26, nameIndex := 66, descriptorIndex := 27, attributes := #[] }, { accessFlags := 26, nameIndex := 69, descriptorIndex := 27, attributes := #[] }, { accessFlags := 26, nameIndex := 70, descriptorIndex := 27, attributes := #[] }, { accessFlags := 24, nameIndex := 72, descriptorIndex := 27, attributes := #[] }, { accessFlags := 18, nameIndex := 22, descriptorIndex := 23, attributes := #[] }, { accessFlags := 2, nameIndex := 15, descriptorIndex := 16, attributes := #[] }, { accessFlags := 2, nameIndex := 19, descriptorIndex := 12, attributes := #[] }, { accessFlags := 2, nameIndex := 26, descriptorIndex := 27, attributes := #[] }, { accessFlags := 2, nameIndex := 33, descriptorIndex := 27, attributes := #[] }])
  fields := #[{ name := "CHUNK_BITS", type := .int, accessFlags := 26, slot := 0, constantValue := 0 }, { name := "CHUNK_SIZE", type := .int, accessFlags := 26, slot := 1, constantValue := 0 }, { name := "CHUNK_MASK", type := .int, accessFlags := 26, slot := 2, constantValue := 0 }, { name := "MAX_SIZE", type := .int, accessFlags := 24, slot := 3, constantValue := 0 }, { name := "items", type := (.object "java/lang/String"), accessFlags := 18, slot := 0, constantValue := 0 }, { name := "chunks", type := (.array (.array .long)), accessFlags := 2, slot := 1, constantValue := 0 }, { name := "filling", type := (.array .long), accessFlags := 2, slot := 2, constantValue := 0 }, { name := "filled", type := .int, accessFlags := 2, slot := 3, constantValue := 0 }, { name := "size", type := .int, accessFlags := 2, slot := 4, constantValue := 0 }]
  methods := #[k2m0, k2m1, k2m2]
  instanceTypes := #[(.object "java/lang/String"), (.array (.array .long)), (.array .long), .int, .int]
  staticTypes := #[.int, .int, .int, .int]
  resolved := ((Array.replicate 100 none).set! 34 (some (.cls 9))).set! 36 (some (.method ⟨9, 0⟩))
  statics := none }

def pool3 : Array CpInfo := pool [(1, .class_ 2), (0, u "java/io/Serializable"), (0, .class_ 4), (0, u "java/lang/Object")] 2

/-- java/io/Serializable -/
def k3 : Class := { plain "java/io/Serializable" (some 0) with
  accessFlags := 1537
  interfaces := #[]
  cf := some (fileOf pool3 1 #[] #[] 1537 3 #[] #[])
  fields := #[]
  methods := #[]
  instanceTypes := #[]
  staticTypes := #[]
  resolved := Array.replicate 7 none
  statics := none }

def pool4 : Array CpInfo := pool [(1, .class_ 2), (0, u "java/lang/Comparable"), (0, .class_ 4), (0, u "java/lang/Object")] 7

/-- java/lang/Comparable -/
def k4 : Class := { plain "java/lang/Comparable" (some 0) with
  accessFlags := 1537
  interfaces := #[]
  cf := some (fileOf pool4 1 #[] #[] 1537 3 #[] #[])
  fields := #[]
  methods := #[]
  instanceTypes := #[]
  staticTypes := #[]
  resolved := Array.replicate 12 none
  statics := none }

def pool5 : Array CpInfo := pool [(2, .class_ 4), (1, u "java/lang/CharSequence"), (42, .class_ 48), (0, u "java/lang/CharSequence$1CodePointIterator"), (10, .class_ 60), (0, u "java/lang/CharSequence$1CharIterator"), (5, .class_ 67), (0, u "java/lang/Object")] 63

/-- java/lang/CharSequence -/
def k5 : Class := { plain "java/lang/CharSequence" (some 0) with
  accessFlags := 1537
  interfaces := #[]
  cf := some (fileOf pool5 2 #[.nestMembers #[47, 59]] #[] 1537 66 #[] #[])
  fields := #[]
  methods := #[]
  instanceTypes := #[]
  staticTypes := #[]
  resolved := Array.replicate 131 none
  statics := none }

def pool6 : Array CpInfo := pool [(1, .class_ 2), (0, u "java/lang/constant/Constable"), (0, .class_ 4), (0, u "java/lang/Object")] 6

/-- java/lang/constant/Constable -/
def k6 : Class := { plain "java/lang/constant/Constable" (some 0) with
  accessFlags := 1537
  interfaces := #[]
  cf := some (fileOf pool6 1 #[] #[] 1537 3 #[] #[])
  fields := #[]
  methods := #[]
  instanceTypes := #[]
  staticTypes := #[]
  resolved := Array.replicate 11 none
  statics := none }

def pool7 : Array CpInfo := pool [(1, .class_ 2), (0, u "java/lang/constant/ConstantDesc"), (0, .class_ 4), (0, u "java/lang/Object")] 32

/-- java/lang/constant/ConstantDesc -/
def k7 : Class := { plain "java/lang/constant/ConstantDesc" (some 0) with
  accessFlags := 1537
  interfaces := #[]
  cf := some (fileOf pool7 1 #[] #[] 1537 3 #[] #[])
  fields := #[]
  methods := #[]
  instanceTypes := #[]
  staticTypes := #[]
  resolved := Array.replicate 37 none
  statics := none }

def pool8 : Array CpInfo := pool [(2, .class_ 4), (1, u "java/lang/Object"), (0, u "<init>"), (0, u "()V"), (3, .class_ 12), (1, u "java/lang/String"), (0, u "value"), (0, u "[B"), (2, u "coder"), (0, u "B"), (2, u "hash"), (0, u "I"), (2, u "hashIsZero"), (0, u "Z"), (13, u "COMPACT_STRINGS"), (534, .class_ 576), (0, u "java/lang/CharSequence"), (22, u "CASE_INSENSITIVE_ORDER"), (0, u "Ljava/util/Comparator;"), (500, u "serialPersistentFields"), (0, u "[Ljava/io/ObjectStreamField;"), (0, .class_ 1104), (0, u "java/lang/String$CaseInsensitiveComparator"), (1, .class_ 1107), (0, u "java/io/Serializable"), (0, .class_ 1109), (0, u "java/lang/Comparable"), (0, .class_ 1111), (0, u "java/lang/constant/Constable"), (0, .class_ 1113), (0, u "java/lang/constant/ConstantDesc"), (2, u "serialVersionUID"), (0, u "J"), (3, u "REPL"), (0, u "C"), (2, u "LATIN1"), (1, u "UTF16")] 323

def k8m0 : Method := { name := "<init>", desc := "()V", sig := { parameters := [], returnType := none }, accessFlags := 1, code := none }
/-- java/lang/String -/
def k8 : Class := { plain "java/lang/String" (some 0) with
  accessFlags := 49
  interfaces := #[3, 4, 5, 6, 7]
  cf := some (fileOf pool8 10 #[.nestMembers #[1103]] #[{ accessFlags := 1, nameIndex := 5, descriptorIndex := 6, attributes := #[] }] 49 2 #[1106, 1108, 575, 1110, 1112] #[{ accessFlags := 18, nameIndex := 13, descriptorIndex := 14, attributes := #[] }, { accessFlags := 18, nameIndex := 17, descriptorIndex := 18, attributes := #[] }, { accessFlags := 2, nameIndex := 21, descriptorIndex := 22, attributes := #[] }, { accessFlags := 2, nameIndex := 25, descriptorIndex := 26, attributes := #[] }, { accessFlags := 26, nameIndex := 1116, descriptorIndex := 1117, attributes := #[] }, { accessFlags := 24, nameIndex := 40, descriptorIndex := 26, attributes := #[] }, { accessFlags := 26, nameIndex := 1101, descriptorIndex := 1102, attributes := #[] }, { accessFlags := 26, nameIndex := 1121, descriptorIndex := 1122, attributes := #[] }, { accessFlags := 25, nameIndex := 599, descriptorIndex := 600, attributes := #[] }, { accessFlags := 24, nameIndex := 1125, descriptorIndex := 18, attributes := #[] }, { accessFlags := 24, nameIndex := 1127, descriptorIndex := 18, attributes := #[] }])
  fields := #[{ name := "value", type := (.array .byte), accessFlags := 18, slot := 0, constantValue := 0 }, { name := "coder", type := .byte, accessFlags := 18, slot := 1, constantValue := 0 }, { name := "hash", type := .int, accessFlags := 2, slot := 2, constantValue := 0 }, { name := "hashIsZero", type := .boolean, accessFlags := 2, slot := 3, constantValue := 0 }, { name := "serialVersionUID", type := .long, accessFlags := 26, slot := 0, constantValue := 0 }, { name := "COMPACT_STRINGS", type := .boolean, accessFlags := 24, slot := 1, constantValue := 0 }, { name := "serialPersistentFields", type := (.array (.object "java/io/ObjectStreamField")), accessFlags := 26, slot := 2, constantValue := 0 }, { name := "REPL", type := .char, accessFlags := 26, slot := 3, constantValue := 0 }, { name := "CASE_INSENSITIVE_ORDER", type := (.object "java/util/Comparator"), accessFlags := 25, slot := 4, constantValue := 0 }, { name := "LATIN1", type := .byte, accessFlags := 24, slot := 5, constantValue := 0 }, { name := "UTF16", type := .byte, accessFlags := 24, slot := 6, constantValue := 0 }]
  methods := #[k8m0]
  instanceTypes := #[(.array .byte), .byte, .int, .boolean]
  staticTypes := #[.long, .boolean, (.array (.object "java/io/ObjectStreamField")), .char, (.object "java/util/Comparator"), .byte, .byte]
  resolved := Array.replicate 1451 none
  statics := none }

def pool9 : Array CpInfo := pool [(1, .class_ 2), (0, u "com/example/links_to_ranks/linkstoranks/LongList"), (0, .methodref 4 5), (0, .class_ 6), (0, .nameAndType 7 8), (0, u "java/lang/Object"), (0, u "<init>"), (0, u "()V"), (0, .fieldref 10 11), (0, .class_ 12), (0, .nameAndType 13 14), (0, u "com/example/links_to_ranks/linkstoranks/LongList$View"), (0, u "chunks"), (0, u "[[J"), (0, .fieldref 10 16), (0, .nameAndType 17 18), (0, u "size"), (0, u "I"), (0, .integer 262143), (0, u "([[JI)V"), (2, u "()I"), (0, u "get"), (0, u "(I)J")] 5

def k9c0 : Code := { maxStack := 2, maxLocals := 3, code := prog_14_method_1_code, exceptionTable := #[], attributes := #[] }
def k9m0 : Method := { name := "<init>", desc := "([[JI)V", sig := { parameters := [(.array (.array .long)), .int], returnType := none }, accessFlags := 2, code := some k9c0 }
def k9c1 : Code := { maxStack := 1, maxLocals := 1, code := prog_14_method_2_code, exceptionTable := #[], attributes := #[] }
def k9m1 : Method := { name := "size", desc := "()I", sig := { parameters := [], returnType := some .int }, accessFlags := 0, code := some k9c1 }
def k9c2 : Code := { maxStack := 3, maxLocals := 2, code := prog_14_method_3_code, exceptionTable := #[], attributes := #[] }
def k9m2 : Method := { name := "get", desc := "(I)J", sig := { parameters := [.int], returnType := some .long }, accessFlags := 0, code := some k9c2 }
/-- com/example/links_to_ranks/linkstoranks/LongList$View -/
def k9 : Class := { plain "com/example/links_to_ranks/linkstoranks/LongList$View" (some 0) with
  accessFlags := 48
  interfaces := #[]
  cf := some (fileOf pool9 10 #[.nestHost 1] #[{ accessFlags := 2, nameIndex := 7, descriptorIndex := 20, attributes := #[] }, { accessFlags := 0, nameIndex := 17, descriptorIndex := 23, attributes := #[] }, { accessFlags := 0, nameIndex := 24, descriptorIndex := 25, attributes := #[] }] 48 4 #[] #[{ accessFlags := 18, nameIndex := 13, descriptorIndex := 14, attributes := #[] }, { accessFlags := 18, nameIndex := 17, descriptorIndex := 18, attributes := #[] }])
  fields := #[{ name := "chunks", type := (.array (.array .long)), accessFlags := 18, slot := 0, constantValue := 0 }, { name := "size", type := .int, accessFlags := 18, slot := 1, constantValue := 0 }]
  methods := #[k9m0, k9m1, k9m2]
  instanceTypes := #[(.array (.array .long)), .int]
  staticTypes := #[]
  resolved := Array.replicate 31 none
  statics := none }

def pool10 : Array CpInfo := pool [(1, u "java/lang/Cloneable"), (0, .class_ 1), (0, u "java/lang/Object"), (0, .class_ 3)] 3

/-- java/lang/Cloneable -/
def k10 : Class := { plain "java/lang/Cloneable" (some 0) with
  accessFlags := 1537
  interfaces := #[]
  cf := some (fileOf pool10 2 #[] #[] 1537 4 #[] #[])
  fields := #[]
  methods := #[]
  instanceTypes := #[]
  staticTypes := #[]
  resolved := Array.replicate 8 none
  statics := none }

/-- the primitive byte -/
def k11 : Class := { plain "byte" none with kind := .primitive 'B', accessFlags := 0x411 }
/-- [B -/
def k12 : Class := { plain "[B" (some 0) with kind := .array 11 .byte, interfaces := #[10, 3], accessFlags := 1041 }

/-- the primitive int -/
def k13 : Class := { plain "int" none with kind := .primitive 'I', accessFlags := 0x411 }
/-- [I -/
def k14 : Class := { plain "[I" (some 0) with kind := .array 13 .int, interfaces := #[10, 3], accessFlags := 1041 }

/-- the primitive long -/
def k15 : Class := { plain "long" none with kind := .primitive 'J', accessFlags := 0x411 }
/-- [J -/
def k16 : Class := { plain "[J" (some 0) with kind := .array 15 .long, interfaces := #[10, 3], accessFlags := 1041 }

/-- [[J -/
def k17 : Class := { plain "[[J" (some 0) with kind := .array 16 (.array .long), interfaces := #[10, 3], accessFlags := 1041 }

def heap : Heap := #[]
def classes : Array Class := #[k0, k1, k2, k3, k4, k5, k6, k7, k8, k9, k10, k11, k12, k13, k14, k15, k16, k17]
def interned : List (Array UInt16 × Addr) := []
def slotsUsed : Nat := 0
def theMethod : MethodId := ⟨1, 1⟩
def args0 : Array Value := #[.int 2, .long 5, .long 6, .long 7, .long 8]
def aboutOver (below : List Frame) : State where
  vm := { classes := classes, interned := interned.toArray }
  heap := heap
  slotsUsed := slotsUsed
  threads := #[{ frames := .invoking theMethod args0 :: below }]
def below0 : List Frame := [.native { method := ⟨0, 0⟩, args := #[] }]
def about1 : State := aboutOver below0
def p0 : Program := .bare "" "" ""
def e0 : Env := launch0.env 0 0 0
theorem w_frames : about1.frames = Frame.invoking theMethod args0 :: below0 := rfl
set_option maxRecDepth 65536 in
theorem w_args : argsFit about1.vm theMethod args0 = true := by decide +kernel
set_option maxRecDepth 65536 in
theorem w_heap : heapFits about1 = true := by decide +kernel
set_option maxRecDepth 65536 in
theorem w_runnable : about1.curStatus? = some .runnable := by decide +kernel
set_option maxRecDepth 65536 in
theorem w_alone : about1.alone = true := by decide +kernel
set_option maxRecDepth 65536 in
theorem w_named : about1.methodNamed? x = some theMethod := by decide +kernel
set_option maxRecDepth 65536 in
theorem w_hears : about1.hears theMethod below0 = true := by decide +kernel
set_option maxRecDepth 65536 in
theorem w_ripe : about1.ripe theMethod args0 below0 = true := by decide +kernel
theorem w_running : about1.status = .running := rfl
set_option maxRecDepth 65536 in
theorem w_room : about1.hasRoom e0.platform room_1 = true :=
  launch0.hasRoom_least _ room_1 (by decide +kernel) (by decide +kernel) (by decide +kernel) (by decide +kernel) (by decide +kernel) (by decide +kernel)
theorem allAtoms_all (ts : List Jvm.Cond) (a : Array Jvm.Value) (st : Jvm.State) : (allAtoms ts).before a st = ts.all (fun c => c.before a st) := by
  induction ts with
  | nil => rfl
  | cons c t ih =>
    show (Jvm.Cond.and c (allAtoms t)).before a st = _
    rw [Jvm.Cond.before_and, ih, List.all_cons]
def words1 : List Jvm.Cond := Jvm.Cond.code x code maxLocals ret :: tables_1
/-- a 'code' word, met by the world's own term for the bytes: nothing is compared byte by byte -/
theorem code_word {y : MethodName} {bytes : ByteArray} {mx : Nat} {rt : Option FieldType} {a : Array Value} {s : State} {m : MethodId} {meth : Method} {c : Code} (h1 : s.methodNamed? y = some m) (h2 : s.vm.method? m = some meth) (h3 : meth.code = some c) (h4 : c.code = bytes)
    (h5 : (c.maxLocals == mx && c.exceptionTable.isEmpty && decide (c.maxStack ≤ mostOperands) && decide (meth.sig.returnType = rt) && !meth.locks && decide (parseMethodDescriptor y.desc = some meth.sig)) = true) : (Jvm.Cond.code y bytes mx rt).before a s = true := by
  simp only [Bool.and_eq_true, beq_iff_eq, Bool.not_eq_true', decide_eq_true_eq] at h5
  obtain ⟨⟨⟨⟨⟨g1, g2⟩, g3⟩, g4⟩, g5⟩, g6⟩ := h5
  simp [Cond.before, Cond.holds, Cond.value, h1, h2, h3, h4, g1, g2, g3, g4, g5, g6]
def isCode : Jvm.Cond → Bool
  | .code _ _ _ _ => true
  | _ => false
theorem all_split {L : List Jvm.Cond} {P : Jvm.Cond → Bool} (h1 : L.all (fun c => isCode c || P c) = true) (h2 : ∀ c ∈ L.filter isCode, P c = true) : L.all P = true := by
  refine List.all_eq_true.mpr fun c hc => ?_
  have h := List.all_eq_true.mp h1 c hc
  rcases Bool.eq_false_or_eq_true (isCode c) with hi | hi
  · exact h2 c (List.mem_filter.mpr ⟨hc, hi⟩)
  · simpa [hi] using h
set_option maxRecDepth 65536 in
theorem w_c0 : (Jvm.Cond.code x code maxLocals ret).before args0 about1 = true := code_word (m := ⟨1, 1⟩) (meth := k1m1) (c := k1c1) (by decide +kernel) rfl rfl rfl (by decide +kernel)
set_option maxRecDepth 65536 in
theorem w_c1 : (Jvm.Cond.code ({ cls := "com/example/links_to_ranks/linkstoranks/LongList", name := "<init>", desc := "(Ljava/lang/String;)V" } : Jvm.MethodName) prog_13_method_1_code (2 : Nat) (Option.none : Option Jvm.ClassFile.FieldType)).before args0 about1 = true := code_word (m := ⟨2, 0⟩) (meth := k2m0) (c := k2c0) (by decide +kernel) rfl rfl rfl (by decide +kernel)
set_option maxRecDepth 65536 in
theorem w_c2 : (Jvm.Cond.code ({ cls := "java/lang/Object", name := "<init>", desc := "()V" } : Jvm.MethodName) object_method_1_code (1 : Nat) (Option.none : Option Jvm.ClassFile.FieldType)).before args0 about1 = true := code_word (m := ⟨0, 0⟩) (meth := k0m0) (c := k0c0) (by decide +kernel) rfl rfl rfl (by decide +kernel)
set_option maxRecDepth 65536 in
theorem w_c3 : (Jvm.Cond.code ({ cls := "com/example/links_to_ranks/linkstoranks/LongList", name := "view", desc := "()Lcom/example/links_to_ranks/linkstoranks/LongList$View;" } : Jvm.MethodName) prog_13_method_4_code (1 : Nat) (Option.some (Jvm.ClassFile.FieldType.object "com/example/links_to_ranks/linkstoranks/LongList$View"))).before args0 about1 = true := code_word (m := ⟨2, 2⟩) (meth := k2m2) (c := k2c2) (by decide +kernel) rfl rfl rfl (by decide +kernel)
set_option maxRecDepth 65536 in
theorem w_c4 : (Jvm.Cond.code ({ cls := "com/example/links_to_ranks/linkstoranks/LongList$View", name := "<init>", desc := "([[JI)V" } : Jvm.MethodName) prog_14_method_1_code (3 : Nat) (Option.none : Option Jvm.ClassFile.FieldType)).before args0 about1 = true := code_word (m := ⟨9, 0⟩) (meth := k9m0) (c := k9c0) (by decide +kernel) rfl rfl rfl (by decide +kernel)
set_option maxRecDepth 65536 in
theorem w_c5 : (Jvm.Cond.code ({ cls := "com/example/links_to_ranks/linkstoranks/LongList", name := "add", desc := "(J)V" } : Jvm.MethodName) prog_13_method_2_code (3 : Nat) (Option.none : Option Jvm.ClassFile.FieldType)).before args0 about1 = true := code_word (m := ⟨2, 1⟩) (meth := k2m1) (c := k2c1) (by decide +kernel) rfl rfl rfl (by decide +kernel)
set_option maxRecDepth 65536 in
theorem w_c6 : (Jvm.Cond.code ({ cls := "com/example/links_to_ranks/linkstoranks/LongList$View", name := "size", desc := "()I" } : Jvm.MethodName) prog_14_method_2_code (1 : Nat) (Option.some Jvm.ClassFile.FieldType.int)).before args0 about1 = true := code_word (m := ⟨9, 1⟩) (meth := k9m1) (c := k9c1) (by decide +kernel) rfl rfl rfl (by decide +kernel)
set_option maxRecDepth 65536 in
theorem w_c7 : (Jvm.Cond.code ({ cls := "com/example/links_to_ranks/linkstoranks/LongList$View", name := "get", desc := "(I)J" } : Jvm.MethodName) prog_14_method_3_code (2 : Nat) (Option.some Jvm.ClassFile.FieldType.long)).before args0 about1 = true := code_word (m := ⟨9, 2⟩) (meth := k9m2) (c := k9c2) (by decide +kernel) rfl rfl rfl (by decide +kernel)
def codes1 : List Jvm.Cond := [Jvm.Cond.code x code maxLocals ret, Jvm.Cond.code ({ cls := "com/example/links_to_ranks/linkstoranks/LongList", name := "<init>", desc := "(Ljava/lang/String;)V" } : Jvm.MethodName) prog_13_method_1_code (2 : Nat) (Option.none : Option Jvm.ClassFile.FieldType), Jvm.Cond.code ({ cls := "java/lang/Object", name := "<init>", desc := "()V" } : Jvm.MethodName) object_method_1_code (1 : Nat) (Option.none : Option Jvm.ClassFile.FieldType), Jvm.Cond.code ({ cls := "com/example/links_to_ranks/linkstoranks/LongList", name := "view", desc := "()Lcom/example/links_to_ranks/linkstoranks/LongList$View;" } : Jvm.MethodName) prog_13_method_4_code (1 : Nat) (Option.some (Jvm.ClassFile.FieldType.object "com/example/links_to_ranks/linkstoranks/LongList$View")), Jvm.Cond.code ({ cls := "com/example/links_to_ranks/linkstoranks/LongList$View", name := "<init>", desc := "([[JI)V" } : Jvm.MethodName) prog_14_method_1_code (3 : Nat) (Option.none : Option Jvm.ClassFile.FieldType), Jvm.Cond.code ({ cls := "com/example/links_to_ranks/linkstoranks/LongList", name := "add", desc := "(J)V" } : Jvm.MethodName) prog_13_method_2_code (3 : Nat) (Option.none : Option Jvm.ClassFile.FieldType), Jvm.Cond.code ({ cls := "com/example/links_to_ranks/linkstoranks/LongList$View", name := "size", desc := "()I" } : Jvm.MethodName) prog_14_method_2_code (1 : Nat) (Option.some Jvm.ClassFile.FieldType.int), Jvm.Cond.code ({ cls := "com/example/links_to_ranks/linkstoranks/LongList$View", name := "get", desc := "(I)J" } : Jvm.MethodName) prog_14_method_3_code (2 : Nat) (Option.some Jvm.ClassFile.FieldType.long)]
set_option maxRecDepth 65536 in
theorem codes_eq : words1.filter isCode = codes1 := rfl
theorem w_codes : ∀ c ∈ words1.filter isCode, c.before args0 about1 = true := by
  rw [codes_eq]
  intro c hc
  simp only [codes1, List.mem_cons, List.not_mem_nil, or_false] at hc
  rcases hc with rfl | rfl | rfl | rfl | rfl | rfl | rfl | rfl
  · exact w_c0
  · exact w_c1
  · exact w_c2
  · exact w_c3
  · exact w_c4
  · exact w_c5
  · exact w_c6
  · exact w_c7
set_option maxRecDepth 65536 in
theorem w_t1 : (words1.take 24).all (fun c => isCode c || c.before args0 about1) = true := by decide +kernel
set_option maxRecDepth 65536 in
theorem w_t2 : ((words1.drop 24).take 24).all (fun c => isCode c || c.before args0 about1) = true := by decide +kernel
set_option maxRecDepth 65536 in
theorem w_t3 : ((words1.drop 24).drop 24).all (fun c => isCode c || c.before args0 about1) = true := by decide +kernel
theorem w_tables : (allAtoms (Jvm.Cond.code x code maxLocals ret :: tables_1)).before args0 about1 = true := by
  rw [allAtoms_all]
  show words1.all (fun c => c.before args0 about1) = true
  refine all_split ?_ w_codes
  rw [← List.take_append_drop 24 words1, List.all_append, w_t1, ← List.take_append_drop 24 (words1.drop 24), List.all_append, w_t2, w_t3]
  rfl
set_option maxRecDepth 65536 in
theorem w_case : (Jvm.Cond.and given_1 narrow_1).before args0 about1 = true := by decide +kernel
theorem w_applies : (headSpec (Jvm.Cond.code x code maxLocals ret :: tables_1) room_1).applies x e0.platform about1 = true :=
  (Spec.applies_iff w_frames).mpr ⟨w_running, w_runnable, w_alone, w_named, w_hears, w_ripe, w_room, w_tables⟩
theorem atStart : AtStart classFile x code maxLocals ret World_1 tables_1 room_1 Calls_1 rest_1 Pre_1 launch0 p0 e0 about1 theMethod args0 below0 :=
  ⟨lists_1, trivial, launch0.admits_env _ _ _, launch0.least_env, fairChoices_fair.cas, fairChoices_fair.clock, w_frames, w_args, w_heap, w_applies, trivial, trivial, w_case⟩
end start1
theorem witness_1 : WitnessClaimed_1 := ⟨start1.p0, start1.e0, start1.about1, start1.theMethod, start1.args0, start1.below0, start1.atStart⟩
end Jvm.Pilot.@@N@@
