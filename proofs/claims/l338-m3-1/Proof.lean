import JvmDerived
import JvmDerived.Pilot.@@N@@Statement
import JvmDerived.Pilot.@@N@@Code
set_option linter.unusedVariables false
set_option linter.unusedSimpArgs false
namespace Jvm.Pilot.@@N@@
open Jvm Jvm.ClassFile Sem Op Lib Jvm.Free Jvm.Stand Jvm.LawKit Jvm.RoadKit Bundle Jvm.Pilot.@@N@@.Jvm.D
theorem ww {Z : State} {a0 : Array Value} (hw : ∀ d ∈ tables_1, d.before a0 Z = true) (i : Nat) {d : Jvm.Cond} (h : tables_1[i]? = some d) : d.before a0 Z = true := hw d (List.mem_of_getElem? h)
abbrev cs0 : String := "java/util/AbstractCollection"
abbrev cs1 : String := "DEFAULTCAPACITY_EMPTY_ELEMENTDATA"
abbrev cs2 : String := "java/util/ImmutableCollections"
abbrev cs3 : String := "Ljava/util/ImmutableCollections$ListN;"
abbrev cs4 : String := "(Ljava/util/Collection;)Ljava/util/List;"
abbrev cs5 : String := "com/example/weaverbird/weaverbird/bind/Binding"
abbrev cs6 : String := "(Ljava/lang/Object;Ljava/util/List;)V"
abbrev cs7 : String := "java/util/ImmutableCollections$ListN"
abbrev cs8 : String := "com/example/weaverbird/weaverbird/bind/BindingHasErrorsPinLaw"
abbrev cs9 : String := "java/lang/Integer$IntegerCache"
abbrev cs10 : String := "com/example/weaverbird/weaverbird/bind/FieldError"
abbrev cs11 : String := "(Ljava/lang/String;Ljava/lang/String;Ljava/lang/String;Ljava/lang/String;)V"
abbrev cs12 : String := "(Ljava/lang/Object;[Ljava/lang/Object;I)V"
abbrev cs13 : String := "([Ljava/lang/Object;ILjava/lang/Class;)[Ljava/lang/Object;"
abbrev cs14 : String := "([Ljava/lang/Object;I)[Ljava/lang/Object;"
abbrev cs15 : String := "java/util/ImmutableCollections$AbstractImmutableCollection"
abbrev cs16 : String := "java/util/ImmutableCollections$AbstractImmutableList"
abbrev cs17 : String := "(Ljava/lang/Object;)Ljava/lang/Object;"
abbrev cs18 : String := "java/util/ImmutableCollections$List12"
abbrev cs19 : String := "([Ljava/lang/Object;)Ljava/util/List;"
abbrev cs20 : String := "(Ljava/lang/Object;Ljava/lang/Object;)V"
theorem own_eqr {args : Array Value} {Z : State} {a b : Term} {x : Addr} (hb : b.eval args Z none [] Z = some (.ref x)) (h : (Jvm.Cond.eq a b).value args Z none Z [] = some true) : a.eval args Z none [] Z = some (.ref x) := by
  obtain ⟨u, w, e1, e2, k1, k2⟩ := cmp_v (Or.inl h)
  cases hb.symm.trans e2
  have hu : u.isRef = true := by cases u <;> simp [Kin, Value.isRef] at k1 k2 ⊢
  have := gotT (eq_R e1 e2 hu rfl) h
  rw [e1, this]
theorem own_len {args : Array Value} {Z : State} {t : Term} {x : Addr} {cl : Cell} {ty : FieldType} {n : Int32} (h : (Jvm.Cond.eq (.length t) (.int n)).value args Z none Z [] = some true) (ht : t.eval args Z none [] Z = some (.ref x)) (A : Arr Z Z.heap x cl ty) : cl.slots.size < 2 ^ 31 ∧ cl.slots.size.toInt32 = n := by
  have e1 := eqv_i (y := n) rfl h
  have ha := Arr.fin (Vm.Alike.refl _) A
  have hl : cl.slots.size < 2 ^ 31 := by
    by_cases q : cl.slots.size < 2 ^ 31
    · exact q
    · simp [Term.eval, ht, ha, q] at e1
  rw [len_f ht ha hl] at e1
  exact ⟨hl, by simpa using e1⟩
theorem own_all {args : Array Value} {Z : State} {t : Term} {a : Addr} {c : Cell} {ty : FieldType} {K : String} {B : Jvm.Cond} (et : ∀ idx, t.eval args Z none idx Z = some (.ref a)) (A : Arr Z Z.heap a c ty)
    (h : (Jvm.Cond.all t (.and (.exactly (.elem t (.index 0)) K) B)).value args Z none Z [] = some true) : ∀ j : Int32, ¬ (j < 0 ∨ c.slots.size ≤ j.toNatClampNeg) → ∃ r : Addr, c.slots[j.toNatClampNeg]? = some (.ref r) := fun j hj => by
  have nn : ¬ j < 0 := fun x => hj (Or.inl x)
  obtain ⟨u1, -⟩ := and_e (Cond.all_elim (et []) (A.fin (Vm.Alike.refl _)) h j.toNatClampNeg (Nat.lt_of_not_le fun x => hj (Or.inr x)))
  obtain ⟨box, eb⟩ := exa_v u1
  exact ⟨box, (elem_f (et _) (idx_at nn) (A.fin (Vm.Alike.refl _)) nn).symm.trans eb⟩
theorem own_size {c : Cell} {n : Int32} {k : Nat} (h : c.slots.size < 2 ^ 31 ∧ c.slots.size.toInt32 = n) (hn : n.toNatClampNeg = k) : c.slots.size = k := by
  have e := len_toInt h.1
  rw [h.2] at e
  rw [← hn, Int32.toNatClampNeg, e]; rfl
theorem own_NSroot {Z : State} {a0 : Array Value} {O K : String} {n : Nat} (w : (Jvm.Cond.noSuperclass O).before a0 Z = true) (wk : (Jvm.Cond.instantiable K n).before a0 Z = true) (hn : O ≠ K) : NS Z O K := by
  obtain ⟨c, k, h1, h2, h3, -, -⟩ := Cond.noSuperclass_spec w
  obtain ⟨t, kt, g1, -⟩ := Cond.instantiable_spec wk
  have ne := ids_ne h1 g1 hn
  refine ⟨c, t, h1, g1, fun fuel => ?_⟩
  cases fuel with
  | zero => rfl
  | succ f => simp [Vm.isSubclassAux, ne, h2, h3]
theorem own_NSno {Z : State} {a0 : Array Value} {C S K : String} {n : Nat} (w : (Jvm.Cond.superclass C S).before a0 Z = true) (wk : (Jvm.Cond.instantiable K n).before a0 Z = true) (nn : NS Z C K) (hn : C ≠ K) : ∃ c t, Z.vm.findClass C = some c ∧ Z.vm.findClass K = some t ∧ Z.vm.assignable c t = false := by
  obtain ⟨c, t, h0, g0, n3⟩ := nn
  obtain ⟨p, k, kp, h1, h2, h3, h4, h5, -, h7⟩ := Cond.superclass_spec h0 w
  obtain ⟨t', kt, g1, g2, g3, g4, -⟩ := Cond.instantiable_spec wk
  cases g0.symm.trans g1
  have gi : kt.isInterface = false := by simp at g4; exact g4.1
  have ne := ids_ne h0 g0 hn
  refine ⟨c, _, h0, g0, ?_⟩
  show Z.vm.assignableAux (255 + 1) c _ = false
  simp [Vm.assignableAux, ne, h2, g2, h5, g3, gi, Vm.isSubclass, n3]
def own_Mir (Z : State) (C : String) (mr : Addr) : Prop := ∃ (c : ClassId) (k : Class), Z.vm.findClass C = some c ∧ Z.vm.classes[c]? = some k ∧ k.mirror = some mr
section OwnMir
variable {p : Program} {l : Launch} {e : Env} {R : Room} {s : State} {m : MethodId} {args : Array Value} {below : List Frame} {meth : Method} {c : Code} {T : State} {locs : List Loc} {cells slots : Nat} {Z : State} {a0 : Array Value} {h : Heap}
theorem own_gcls (X : Stand p l e R s m args below meth c T locs cells slots) (hx : p.tables.exec = Jvm.exec) (hZ : Z.Warmed39 s.vm) {own C : String} {index : Nat} {a : Addr} (hown : s.vm.findClass own = some m.cls)
    (w1 : (Jvm.Cond.methodLink own index ⟨"java/lang/Object", "getClass", "()Ljava/lang/Class;"⟩).before a0 Z = true) (w2 : (Jvm.Cond.declares ⟨"java/lang/Object", "getClass", "()Ljava/lang/Class;"⟩).before a0 Z = true) (w3 : (Jvm.Cond.noSuperclass "java/lang/Object").before a0 Z = true) (w4 : (Jvm.Cond.selects C ⟨"java/lang/Object", "getClass", "()Ljava/lang/Class;"⟩ ⟨"java/lang/Object", "getClass", "()Ljava/lang/Class;"⟩).before a0 Z = true)
    (w5 : (Jvm.Cond.instanceMethod ⟨"java/lang/Object", "getClass", "()Ljava/lang/Class;"⟩).before a0 Z = true) (w6 : (Jvm.Cond.native ⟨"java/lang/Object", "getClass", "()Ljava/lang/Class;"⟩).before a0 Z = true) (eT : T.heap = h) (E : Exa Z h a C) {mr : Addr} (M : own_Mir Z C mr)
    {g : JFrame} (hg : g.method = m) (hsize : g.locals.size = c.maxLocals) {rest : List Value} (hs : g.stack = .ref a :: rest) (hd : decode c.code g.pc = .ok (.invokevirtual index, 3)) (hf : 1 ≤ R.frames) {W : Nat} (hW : 2 * g.monitorRoom + (rest.map fun v => v.category).sum ≤ W) (hl : W + (nativeFrameWords "java/lang/Object" "getClass" 1 + 11) ≤ R.locals) :
    ∃ T', Stand p l e R s m args below meth c T' locs cells slots ∧ T'.heap = h ∧ ∀ target, Steps p.tables e below (T'.setTop { g with pc := g.pc + 3, stack := .ref mr :: rest }) target → Steps p.tables e below (T.setTop g) target := by
  obtain ⟨cB, kB, i1, i2, i3⟩ := isOf hZ eT E
  obtain ⟨cc, kc, m1, m2, m3⟩ := M
  rw [hZ.alike.findClass] at i1
  cases i1.symm.trans m1
  obtain ⟨k', q, ek⟩ := hZ.alike.2.2 _ _ m2
  obtain ⟨vm', X', st⟩ := X.getClassOf hx hown (mvT hZ w1) (mvT hZ w2) (nf_top (args := #[]) (mvT hZ w3)) (mvT hZ w4) (mvT hZ w5) (mvT hZ w6) (by rw [hZ.alike.findClass]; exact m1) i3 q (by rw [ek]; exact m3) hg hsize hs hd hf (by omega)
  exact ⟨_, X', eT, st⟩
theorem own_ldcM (X : Stand p l e R s m args below meth c T locs cells slots) (hx : p.tables.exec = Jvm.exec) (hZ : Z.Warmed39 s.vm) {own C : String} {index : Nat} (hown : s.vm.findClass own = some m.cls) (w : (Jvm.Cond.classLink own index C).before a0 Z = true) (eT : T.heap = h) {mr : Addr} (M : own_Mir Z C mr)
    {g : JFrame} (hg : g.method = m) (hd : decode c.code g.pc = .ok (.ldc index, 2)) :
    ∃ T', Stand p l e R s m args below meth c T' locs cells slots ∧ T'.heap = h ∧ ∀ target, Steps p.tables e below (T'.setTop { g with pc := g.pc + 2, stack := .ref mr :: g.stack }) target → Steps p.tables e below (T.setTop g) target := by
  obtain ⟨cc, kc, m1, m2, m3⟩ := M
  obtain ⟨k', q, ek⟩ := hZ.alike.2.2 _ _ m2
  have hf : s.vm.findClass C = some cc := by rw [hZ.alike.findClass]; exact m1
  have hm : k'.mirror = some mr := by rw [ek]; exact m3
  obtain ⟨vm', X', st⟩ := X.ldcMirror hx (C := C) (a := mr) hown (mvT hZ w) (by simp [Term.eval, hf, q, hm]) hg hd
  exact ⟨_, X', eT, st⟩
end OwnMir
theorem own_and3 (x : Int32) : (x &&& (3 : Int32)) = (0 : Int32) ∨ (x &&& (3 : Int32)) = (1 : Int32) ∨ (x &&& (3 : Int32)) = (2 : Int32) ∨ (x &&& (3 : Int32)) = (3 : Int32) := by
  have h : ∀ y : BitVec 32, (y &&& 3#32) = 0#32 ∨ (y &&& 3#32) = 1#32 ∨ (y &&& 3#32) = 2#32 ∨ (y &&& 3#32) = 3#32 := fun y => by
    have e : (y &&& 3#32).toNat = y.toNat % 4 := by rw [BitVec.toNat_and]; exact Nat.and_two_pow_sub_one_eq_mod y.toNat 2
    have hl : y.toNat % 4 < 4 := Nat.mod_lt _ (by decide)
    have : (y &&& 3#32).toNat = 0 ∨ (y &&& 3#32).toNat = 1 ∨ (y &&& 3#32).toNat = 2 ∨ (y &&& 3#32).toNat = 3 := by omega
    rcases this with h | h | h | h
    · exact Or.inl (BitVec.eq_of_toNat_eq h)
    · exact Or.inr (Or.inl (BitVec.eq_of_toNat_eq h))
    · exact Or.inr (Or.inr (Or.inl (BitVec.eq_of_toNat_eq h)))
    · exact Or.inr (Or.inr (Or.inr (BitVec.eq_of_toNat_eq h)))
  rcases h x.toBitVec with q | q | q | q
  · exact Or.inl (Int32.toBitVec_inj.mp q)
  · exact Or.inr (Or.inl (Int32.toBitVec_inj.mp q))
  · exact Or.inr (Or.inr (Or.inl (Int32.toBitVec_inj.mp q)))
  · exact Or.inr (Or.inr (Or.inr (Int32.toBitVec_inj.mp q)))
theorem own_mvMN {Z s : State} {a0 args : Array Value} {own host : String} {y : MethodName} {index : Nat} (hZ : Z.Warmed39 s.vm) (w : (Jvm.Cond.methodLinkNest own index y host).before a0 Z = true) : (Jvm.Cond.methodLinkNest own index y host).before args s = true := (Cond.methodLinkNest_wide hZ w :)
theorem d2_0 : decode jdk_38_method_2_code 0 = .ok (.aload_n 0, 1) := by decide +kernel
theorem d2_1 : decode jdk_38_method_2_code 1 = .ok (.invokespecial 1, 3) := by decide +kernel
theorem d3_0 : decode jdk_39_method_1_code 0 = .ok (.aload_n 0, 1) := by decide +kernel
theorem d3_1 : decode jdk_39_method_1_code 1 = .ok (.invokespecial 1, 3) := by decide +kernel
theorem d4_0 : decode jdk_22_method_1_code 0 = .ok (.aload_n 0, 1) := by decide +kernel
theorem d4_1 : decode jdk_22_method_1_code 1 = .ok (.invokespecial 1, 3) := by decide +kernel
theorem d4_4 : decode jdk_22_method_1_code 4 = .ok (.return_, 1) := by decide +kernel
theorem pn_java_util_AbstractCollection : plainName cs0 = true := by first | (simp [plainName, overriddenIn]; done) | decide +kernel
def Q4_1 (Z : State) (r0 : Addr) (h0 : Heap) (n0 : Nat) (v : Option Value) (h : Heap) (L : List Loc) : Prop := v = none ∧ Fr n0 L ∧ h = h0
set_option maxRecDepth 65536 in
set_option maxHeartbeats 40000000 in
theorem rm4_1 (l : Launch) (Z : State) (a0 : Array Value) (hw : ∀ d ∈ tables_1, d.before a0 Z = true) (ws : List Jvm.Cond) (r0 : Addr) (h0 : Heap) (n0 : Nat) (O0 : Old Z n0 h0) :
    MetFree l (⟨cs0, "<init>", "()V"⟩ : MethodName) (head1 (Jvm.Cond.code (⟨cs0, "<init>", "()V"⟩ : MethodName) jdk_22_method_1_code 1 none :: ws) ({ frames := 1, cells := 0, slots := 0, locals := 12 } : Room)) (fun a U => a = #[(.ref r0)] ∧ Z.Warmed39 U.vm ∧ U.heap = h0) (fun _ _ _ _ _ => True) (fun _ U o U' => ∃ v L, o = .returned v ∧ Q4_1 Z r0 h0 n0 v U'.heap L ∧ FrameEnd U o U' L ({ frames := 1, cells := 0, slots := 0, locals := 12 } : Room).cells ({ frames := 1, cells := 0, slots := 0, locals := 12 } : Room).slots) := by
  refine MetFree.of_bodySF (plainFor_of_name pn_java_util_AbstractCollection) hisR ?_
  intro p e s m args below meth c s₁ Bd hml0 hP hK
  obtain ⟨rfl, hZ, hh⟩ := hP
  have hx := Bd.exec
  have hby := Bd.bytes
  have hml : c.maxLocals = 1 := hml0
  have hown : s.vm.findClass cs0 = some m.cls := findClass_of_methodNamed Bd.named
  have hnm := (name_of_methodNamed Bd.named Bd.method).1
  have X0 : Stand p l e ({ frames := 1, cells := 0, slots := 0, locals := 12 } : Room) s m #[(.ref r0)] below meth c s₁ [] 0 0 := Stand.of_body Bd
  have e0 : s₁.heap = h0 := by rw [← hh, Bd.state]; rfl
  have N0 := Fr.nil n0
  have pre0 : ∀ t, Steps p.tables e below (s₁.setTop (mkF m 0 #[.val (.ref r0)] [])) t → Steps p.tables e below (s₁.setTop (entryFrame m #[(.ref r0)] 1)) t := fun t k => castTop (by first | (simp [entryFrame, mkF, argsToLocals, Value.category]; done) | rfl) k
  obtain ⟨T1, X1, e1, st1⟩ := initO X0 hx hZ hown (ww hw 25 rfl) (ww hw 26 rfl) (ww hw 27 rfl) e0 (g := (mkF m 1 #[.val (.ref r0)] [(.ref r0)])) rfl (by rw [hml]; rfl) rfl (hb hby d4_1) (by decide) (W := 0) (by show 2 * 0 + _ ≤ _; exact Nat.le_of_eq rfl) (by decide)
  obtain ⟨fs, hr, hrun, hended, hW, hsame⟩ := X1.leave (v := none) (fun _ => rfl)
  refine ⟨_, _, pre0 _ ?_, hrun, hended, _, _, rfl, ?_, ⟨_, rfl⟩, hW, hsame.mono (by decide) (by decide)⟩
  · show Steps p.tables e below (s₁.setTop (mkF m 0 #[.val (.ref r0)] [])) _
    refine XS.aloadN X0.here hx rfl (hb hby d4_0) rfl rfl ?_
    refine st1 _ ?_
    show Steps p.tables e below (T1.setTop (mkF m 4 #[.val (.ref r0)] [])) _
    exact X1.returnOut hx Bd.returns (hb hby d4_4) hr
  · show Q4_1 Z r0 h0 n0 _ T1.heap _
    rw [e1]
    exact ⟨rfl, N0, rfl⟩
theorem pd___V : parseMethodDescriptor "()V" = some ⟨[], none⟩ := by decide +kernel
theorem d3_4 : decode jdk_39_method_1_code 4 = .ok (.aload_n 0, 1) := by decide +kernel
theorem d3_5 : decode jdk_39_method_1_code 5 = .ok (.iconst 0, 1) := by decide +kernel
theorem d3_6 : decode jdk_39_method_1_code 6 = .ok (.putfield 7, 3) := by decide +kernel
theorem d3_9 : decode jdk_39_method_1_code 9 = .ok (.return_, 1) := by decide +kernel
theorem pn_java_util_AbstractList : plainName "java/util/AbstractList" = true := by first | (simp [plainName, overriddenIn]; done) | decide +kernel
def Q3_1 (Z : State) (r0 : Addr) (h0 : Heap) (n0 : Nat) (v : Option Value) (h : Heap) (L : List Loc) : Prop := v = none ∧ Fr n0 L ∧ Keep h0 h [r0] ∧ Fld Z h r0 "java/util/AbstractList" "modCount" "I" (.int (0 : Int32)) ∧ Fld Z h r0 "java/util/ArrayList" "elementData" "[Ljava/lang/Object;" .null ∧ Fld Z h r0 "java/util/ArrayList" "size" "I" (.int (0 : Int32))
set_option maxRecDepth 65536 in
set_option maxHeartbeats 40000000 in
theorem rm3_1 (l : Launch) (Z : State) (a0 : Array Value) (hw : ∀ d ∈ tables_1, d.before a0 Z = true) (ws : List Jvm.Cond) (r0 : Addr) (h0 : Heap) (n0 : Nat) (O0 : Old Z n0 h0) (f2 : Exa Z h0 r0 "java/util/ArrayList") (f3 : Fld Z h0 r0 "java/util/AbstractList" "modCount" "I" (.int (0 : Int32))) (g4 : n0 ≤ r0) (f6 : Fld Z h0 r0 "java/util/ArrayList" "elementData" "[Ljava/lang/Object;" .null) (f8 : Fld Z h0 r0 "java/util/ArrayList" "size" "I" (.int (0 : Int32))) :
    MetFree l (⟨"java/util/AbstractList", "<init>", "()V"⟩ : MethodName) (head1 (Jvm.Cond.code (⟨"java/util/AbstractList", "<init>", "()V"⟩ : MethodName) jdk_39_method_1_code 1 none :: ws) ({ frames := 2, cells := 0, slots := 0, locals := 24 } : Room)) (fun a U => a = #[(.ref r0)] ∧ Z.Warmed39 U.vm ∧ U.heap = h0) (fun _ _ _ _ _ => True) (fun _ U o U' => ∃ v L, o = .returned v ∧ Q3_1 Z r0 h0 n0 v U'.heap L ∧ FrameEnd U o U' L ({ frames := 2, cells := 0, slots := 0, locals := 24 } : Room).cells ({ frames := 2, cells := 0, slots := 0, locals := 24 } : Room).slots) := by
  refine MetFree.of_bodySF (plainFor_of_name pn_java_util_AbstractList) hisR ?_
  intro p e s m args below meth c s₁ Bd hml0 hP hK
  obtain ⟨rfl, hZ, hh⟩ := hP
  have hx := Bd.exec
  have hby := Bd.bytes
  have hml : c.maxLocals = 1 := hml0
  have hown : s.vm.findClass "java/util/AbstractList" = some m.cls := findClass_of_methodNamed Bd.named
  have hnm := (name_of_methodNamed Bd.named Bd.method).1
  have X0 : Stand p l e ({ frames := 2, cells := 0, slots := 0, locals := 24 } : Room) s m #[(.ref r0)] below meth c s₁ [] 0 0 := Stand.of_body Bd
  have e0 : s₁.heap = h0 := by rw [← hh, Bd.state]; rfl
  have N0 := Fr.nil n0
  have pre0 : ∀ t, Steps p.tables e below (s₁.setTop (mkF m 0 #[.val (.ref r0)] [])) t → Steps p.tables e below (s₁.setTop (entryFrame m #[(.ref r0)] 1)) t := fun t k => castTop (by first | (simp [entryFrame, mkF, argsToLocals, Value.category]; done) | rfl) k
  obtain ⟨_, _, ⟨T1, L1, k1, n1⟩, -, X1, ⟨Lc1, hQ1, l1, y1, z1⟩, st1⟩ := X0.specialBack hx (y := (⟨cs0, "<init>", "()V"⟩ : MethodName)) rfl hown (mvT hZ (ww hw 19 rfl)) (mvT hZ (ww hw 20 rfl)) (mvT hZ (ww hw 24 rfl)) (by decide) (backOf (W := 0) (rm4_1 l Z a0 hw [] r0 h0 n0 O0) hZ (ww hw 24 rfl) (ww hw 23 rfl) (by decide) (by decide)) (g := (mkF m 1 #[.val (.ref r0)] [(.ref r0)])) rfl (by rw [hml]; rfl) (Steps.refl _) (a := r0) (argsL := []) (rest := []) (lenOf pd___V rfl) rfl (by show 2 * 0 + _ ≤ _; exact Nat.le_of_eq rfl) (hb hby d3_1) (fun _ _ => ⟨rfl, e0, (by decide : 0 + 0 ≤ _), (by decide : 0 + 0 ≤ _)⟩)
  dsimp only [Pt.U, Pt.locs, Pt.cells, Pt.slots] at X1 l1 y1 z1 st1 hQ1
  subst l1 y1 z1
  obtain ⟨rfl, N1q, E1⟩ := hQ1
  have N1 := Fr.app N0 N1q
  obtain ⟨T5, h5, X5, e5, W5, st5⟩ := putF X1 hx hZ hown (host := "") (Or.inl (ww hw 28 rfl)) Via.refl E1 f3 f2 (Or.inl (ww hw 29 rfl)) (ww hw 8 rfl) (ty := .int) (by decide) rfl rfl (g := (mkF m 6 #[.val (.ref r0)] [(.int (0 : Int32)), (.ref r0)])) rfl rfl (hb hby d3_6)
  have Fw5 := f3.same W5
  have N5 := Fr.snoc X5 N1 g4
  have f7 := (f6.other W5 (Or.inr (slot_ne (Or.inl (ww hw 32 rfl)) (Or.inl (ww hw 29 rfl)) (by decide) (t := (.array (.object "java/lang/Object"))) (t' := .int) (by decide) (by decide))))
  have f9 := (f8.other W5 (Or.inr (slot_ne (Or.inl (ww hw 66 rfl)) (Or.inl (ww hw 29 rfl)) (by decide) (t := .int) (t' := .int) (by decide) (by decide))))
  have kp10 : Keep h0 h5 [r0] := (Keep.refl h0 [r0]).wr W5 (Or.inl (List.mem_of_getElem? (i := 0) rfl))
  obtain ⟨fs, hr, hrun, hended, hW, hsame⟩ := X5.leave (v := none) (fun _ => rfl)
  refine ⟨_, _, pre0 _ ?_, hrun, hended, _, _, rfl, ?_, ⟨_, rfl⟩, hW, hsame.mono (by decide) (by decide)⟩
  · show Steps p.tables e below (s₁.setTop (mkF m 0 #[.val (.ref r0)] [])) _
    refine XS.aloadN X0.here hx rfl (hb hby d3_0) rfl rfl ?_
    refine st1.trans ?_
    show Steps p.tables e below (T1.setTop (mkF m 4 #[.val (.ref r0)] [])) _
    refine XS.aloadN X1.here hx rfl (hb hby d3_4) rfl rfl ?_
    refine XS.iconst X1.here hx rfl (hb hby d3_5) ?_
    refine st5 _ ?_
    show Steps p.tables e below (T5.setTop (mkF m 9 #[.val (.ref r0)] [])) _
    exact X5.returnOut hx Bd.returns (hb hby d3_9) hr
  · show Q3_1 Z r0 h0 n0 _ T5.heap _
    rw [e5]
    exact ⟨rfl, N5, kp10, Fw5, f7, f9⟩
theorem d2_4 : decode jdk_38_method_2_code 4 = .ok (.aload_n 0, 1) := by decide +kernel
theorem d2_5 : decode jdk_38_method_2_code 5 = .ok (.getstatic 39, 3) := by decide +kernel
theorem d2_8 : decode jdk_38_method_2_code 8 = .ok (.putfield 9, 3) := by decide +kernel
theorem d2_11 : decode jdk_38_method_2_code 11 = .ok (.return_, 1) := by decide +kernel
theorem pn_java_util_ArrayList : plainName "java/util/ArrayList" = true := by first | (simp [plainName, overriddenIn]; done) | decide +kernel
def Q2_1 (Z : State) (r0 : Addr) (r1 : Addr) (h0 : Heap) (n0 : Nat) (v : Option Value) (h : Heap) (L : List Loc) : Prop := v = none ∧ Fr n0 L ∧ Keep h0 h [r0] ∧ Fld Z h r0 "java/util/AbstractList" "modCount" "I" (.int (0 : Int32)) ∧ Fld Z h r0 "java/util/ArrayList" "elementData" "[Ljava/lang/Object;" (.ref r1) ∧ Fld Z h r0 "java/util/ArrayList" "size" "I" (.int (0 : Int32))
set_option maxRecDepth 65536 in
set_option maxHeartbeats 40000000 in
theorem rm2_1 (l : Launch) (Z : State) (a0 : Array Value) (hw : ∀ d ∈ tables_1, d.before a0 Z = true) (ws : List Jvm.Cond) (r0 : Addr) (r1 : Addr) (h0 : Heap) (n0 : Nat) (O0 : Old Z n0 h0) (f1 : Exa Z h0 r0 "java/util/ArrayList") (f2 : Fld Z h0 r0 "java/util/AbstractList" "modCount" "I" (.int (0 : Int32))) (g3 : n0 ≤ r0) (f4 : Fld Z h0 r0 "java/util/ArrayList" "elementData" "[Ljava/lang/Object;" .null) (f5 : Fld Z h0 r0 "java/util/ArrayList" "size" "I" (.int (0 : Int32))) (f10 : Sta Z Z.heap "java/util/ArrayList" cs1 "[Ljava/lang/Object;" (.ref r1)) :
    MetFree l (⟨"java/util/ArrayList", "<init>", "()V"⟩ : MethodName) (head1 (Jvm.Cond.code (⟨"java/util/ArrayList", "<init>", "()V"⟩ : MethodName) jdk_38_method_2_code 1 none :: ws) ({ frames := 3, cells := 0, slots := 0, locals := 36 } : Room)) (fun a U => a = #[(.ref r0)] ∧ Z.Warmed39 U.vm ∧ U.heap = h0) (fun _ _ _ _ _ => True) (fun _ U o U' => ∃ v L, o = .returned v ∧ Q2_1 Z r0 r1 h0 n0 v U'.heap L ∧ FrameEnd U o U' L ({ frames := 3, cells := 0, slots := 0, locals := 36 } : Room).cells ({ frames := 3, cells := 0, slots := 0, locals := 36 } : Room).slots) := by
  refine MetFree.of_bodySF (plainFor_of_name pn_java_util_ArrayList) hisR ?_
  intro p e s m args below meth c s₁ Bd hml0 hP hK
  obtain ⟨rfl, hZ, hh⟩ := hP
  have hx := Bd.exec
  have hby := Bd.bytes
  have hml : c.maxLocals = 1 := hml0
  have hown : s.vm.findClass "java/util/ArrayList" = some m.cls := findClass_of_methodNamed Bd.named
  have hnm := (name_of_methodNamed Bd.named Bd.method).1
  have X0 : Stand p l e ({ frames := 3, cells := 0, slots := 0, locals := 36 } : Room) s m #[(.ref r0)] below meth c s₁ [] 0 0 := Stand.of_body Bd
  have e0 : s₁.heap = h0 := by rw [← hh, Bd.state]; rfl
  have N0 := Fr.nil n0
  have pre0 : ∀ t, Steps p.tables e below (s₁.setTop (mkF m 0 #[.val (.ref r0)] [])) t → Steps p.tables e below (s₁.setTop (entryFrame m #[(.ref r0)] 1)) t := fun t k => castTop (by first | (simp [entryFrame, mkF, argsToLocals, Value.category]; done) | rfl) k
  obtain ⟨_, _, ⟨T6, L6, k6, n6⟩, -, X6, ⟨Lc6, hQ6, l6, y6, z6⟩, st6⟩ := X0.specialBack hx (y := (⟨"java/util/AbstractList", "<init>", "()V"⟩ : MethodName)) rfl hown (mvT hZ (ww hw 13 rfl)) (mvT hZ (ww hw 14 rfl)) (mvT hZ (ww hw 18 rfl)) (by decide) (backOf (W := 0) (rm3_1 l Z a0 hw [] r0 h0 n0 O0 f1 f2 g3 f4 f5) hZ (ww hw 18 rfl) (ww hw 17 rfl) (by decide) (by decide)) (g := (mkF m 1 #[.val (.ref r0)] [(.ref r0)])) rfl (by rw [hml]; rfl) (Steps.refl _) (a := r0) (argsL := []) (rest := []) (lenOf pd___V rfl) rfl (by show 2 * 0 + _ ≤ _; exact Nat.le_of_eq rfl) (hb hby d2_1) (fun _ _ => ⟨rfl, e0, (by decide : 0 + 0 ≤ _), (by decide : 0 + 0 ≤ _)⟩)
  dsimp only [Pt.U, Pt.locs, Pt.cells, Pt.slots] at X6 l6 y6 z6 st6 hQ6
  subst l6 y6 z6
  obtain ⟨rfl, N6q, K6, f7, f8, f9⟩ := hQ6
  have N6 := Fr.app N0 N6q
  have o11 := Old.keep O0 K6 (allS g3 all0)
  have f12 := f10.ext o11.2
  obtain ⟨T13, X13, e13, st13⟩ := getS2 X6 hx hZ hown (host := "") (Or.inl (ww hw 30 rfl)) Via.refl rfl f12 (g := (mkF m 5 #[.val (.ref r0)] [(.ref r0)])) rfl (hb hby d2_5)
  have f14 := (f1.keep K6)
  obtain ⟨T15, h15, X15, e15, W15, st15⟩ := putF X13 hx hZ hown (host := "") (Or.inl (ww hw 31 rfl)) Via.refl e13 f8 f14 (Or.inl (ww hw 32 rfl)) (ww hw 8 rfl) (ty := (.array (.object "java/lang/Object"))) (by decide) rfl rfl (g := (mkF m 8 #[.val (.ref r0)] [(.ref r1), (.ref r0)])) rfl rfl (hb hby d2_8)
  have Fw15 := f8.same W15
  have N15 := Fr.snoc X15 N6 g3
  have f16 := (f7.other W15 (Or.inr (slot_ne (Or.inl (ww hw 29 rfl)) (Or.inl (ww hw 32 rfl)) (by decide) (t := .int) (t' := (.array (.object "java/lang/Object"))) (by decide) (by decide))))
  have f17 := (f9.other W15 (Or.inr (slot_ne (Or.inl (ww hw 66 rfl)) (Or.inl (ww hw 32 rfl)) (by decide) (t := .int) (t' := (.array (.object "java/lang/Object"))) (by decide) (by decide))))
  have kp18 : Keep h0 T6.heap [r0] := (Keep.refl h0 [r0]).trans K6 (allS (Or.inl (List.mem_of_getElem? (i := 0) rfl)) all0)
  have kp19 : Keep h0 h15 [r0] := kp18.wr W15 (Or.inl (List.mem_of_getElem? (i := 0) rfl))
  obtain ⟨fs, hr, hrun, hended, hW, hsame⟩ := X15.leave (v := none) (fun _ => rfl)
  refine ⟨_, _, pre0 _ ?_, hrun, hended, _, _, rfl, ?_, ⟨_, rfl⟩, hW, hsame.mono (by decide) (by decide)⟩
  · show Steps p.tables e below (s₁.setTop (mkF m 0 #[.val (.ref r0)] [])) _
    refine XS.aloadN X0.here hx rfl (hb hby d2_0) rfl rfl ?_
    refine st6.trans ?_
    show Steps p.tables e below (T6.setTop (mkF m 4 #[.val (.ref r0)] [])) _
    refine XS.aloadN X6.here hx rfl (hb hby d2_4) rfl rfl ?_
    refine st13 _ ?_
    show Steps p.tables e below (T13.setTop (mkF m 8 #[.val (.ref r0)] [(.ref r1), (.ref r0)])) _
    refine st15 _ ?_
    show Steps p.tables e below (T15.setTop (mkF m 11 #[.val (.ref r0)] [])) _
    exact X15.returnOut hx Bd.returns (hb hby d2_11) hr
  · show Q2_1 Z r0 r1 h0 n0 _ T15.heap _
    rw [e15]
    exact ⟨rfl, N15, kp19, f16, Fw15, f17⟩
theorem d6_0 : decode prog_4_method_1_code 0 = .ok (.aload_n 0, 1) := by decide +kernel
theorem d6_1 : decode prog_4_method_1_code 1 = .ok (.invokespecial 1, 3) := by decide +kernel
theorem d6_4 : decode prog_4_method_1_code 4 = .ok (.aload_n 0, 1) := by decide +kernel
theorem d6_5 : decode prog_4_method_1_code 5 = .ok (.aload_n 1, 1) := by decide +kernel
theorem d6_6 : decode prog_4_method_1_code 6 = .ok (.putfield 7, 3) := by decide +kernel
theorem d6_9 : decode prog_4_method_1_code 9 = .ok (.aload_n 0, 1) := by decide +kernel
theorem d6_10 : decode prog_4_method_1_code 10 = .ok (.aload_n 2, 1) := by decide +kernel
theorem d6_11 : decode prog_4_method_1_code 11 = .ok (.invokestatic 13, 3) := by decide +kernel
theorem d7_0 : decode jdk_40_method_48_code 0 = .ok (.aload_n 0, 1) := by decide +kernel
theorem d7_1 : decode jdk_40_method_48_code 1 = .ok (.invokestatic 112, 3) := by decide +kernel
theorem d8_0 : decode jdk_56_method_3_code 0 = .ok (.aload_n 0, 1) := by decide +kernel
theorem d8_1 : decode jdk_56_method_3_code 1 = .ok (.instanceof 10, 3) := by decide +kernel
theorem d8_4 : decode jdk_56_method_3_code 4 = .ok (.ifCond .ne 22, 3) := by decide +kernel
theorem d8_7 : decode jdk_56_method_3_code 7 = .ok (.aload_n 0, 1) := by decide +kernel
theorem d8_8 : decode jdk_56_method_3_code 8 = .ok (.instanceof 12, 3) := by decide +kernel
theorem d8_11 : decode jdk_56_method_3_code 11 = .ok (.ifCond .eq 20, 3) := by decide +kernel
theorem d8_31 : decode jdk_56_method_3_code 31 = .ok (.aload_n 0, 1) := by decide +kernel
theorem d8_32 : decode jdk_56_method_3_code 32 = .ok (.invokeinterface 20 1, 5) := by decide +kernel
theorem d9_0 : decode jdk_38_method_9_code 0 = .ok (.aload_n 0, 1) := by decide +kernel
theorem d9_1 : decode jdk_38_method_9_code 1 = .ok (.getfield 48, 3) := by decide +kernel
theorem d9_4 : decode jdk_38_method_9_code 4 = .ok (.ifCond .ne 7, 3) := by decide +kernel
theorem d9_7 : decode jdk_38_method_9_code 7 = .ok (.iconst 1, 1) := by decide +kernel
theorem d9_8 : decode jdk_38_method_9_code 8 = .ok (.goto 4, 3) := by decide +kernel
theorem d9_12 : decode jdk_38_method_9_code 12 = .ok (.ireturn, 1) := by decide +kernel
def Q9_1 (Z : State) (r0 : Addr) (h0 : Heap) (n0 : Nat) (v : Option Value) (h : Heap) (L : List Loc) : Prop := v = some (.int (1 : Int32)) ∧ Fr n0 L ∧ h = h0
set_option maxRecDepth 65536 in
set_option maxHeartbeats 40000000 in
theorem rm9_1 (l : Launch) (Z : State) (a0 : Array Value) (hw : ∀ d ∈ tables_1, d.before a0 Z = true) (ws : List Jvm.Cond) (r0 : Addr) (h0 : Heap) (n0 : Nat) (O0 : Old Z n0 h0) (f1 : Fld Z h0 r0 "java/util/ArrayList" "size" "I" (.int (0 : Int32))) :
    MetFree l (⟨"java/util/ArrayList", "isEmpty", "()Z"⟩ : MethodName) (head1 (Jvm.Cond.code (⟨"java/util/ArrayList", "isEmpty", "()Z"⟩ : MethodName) jdk_38_method_9_code 1 (some .boolean) :: ws) ({ frames := 0, cells := 0, slots := 0, locals := 0 } : Room)) (fun a U => a = #[(.ref r0)] ∧ Z.Warmed39 U.vm ∧ U.heap = h0) (fun _ _ _ _ _ => True) (fun _ U o U' => ∃ v L, o = .returned v ∧ Q9_1 Z r0 h0 n0 v U'.heap L ∧ FrameEnd U o U' L ({ frames := 0, cells := 0, slots := 0, locals := 0 } : Room).cells ({ frames := 0, cells := 0, slots := 0, locals := 0 } : Room).slots) := by
  refine MetFree.of_bodySF (plainFor_of_name pn_java_util_ArrayList) hisR ?_
  intro p e s m args below meth c s₁ Bd hml0 hP hK
  obtain ⟨rfl, hZ, hh⟩ := hP
  have hx := Bd.exec
  have hby := Bd.bytes
  have hml : c.maxLocals = 1 := hml0
  have hown : s.vm.findClass "java/util/ArrayList" = some m.cls := findClass_of_methodNamed Bd.named
  have hnm := (name_of_methodNamed Bd.named Bd.method).1
  have X0 : Stand p l e ({ frames := 0, cells := 0, slots := 0, locals := 0 } : Room) s m #[(.ref r0)] below meth c s₁ [] 0 0 := Stand.of_body Bd
  have e0 : s₁.heap = h0 := by rw [← hh, Bd.state]; rfl
  have N0 := Fr.nil n0
  have pre0 : ∀ t, Steps p.tables e below (s₁.setTop (mkF m 0 #[.val (.ref r0)] [])) t → Steps p.tables e below (s₁.setTop (entryFrame m #[(.ref r0)] 1)) t := fun t k => castTop (by first | (simp [entryFrame, mkF, argsToLocals, Value.category]; done) | rfl) k
  obtain ⟨T2, X2, e2, st2⟩ := getF X0 hx hZ hown (host := "") (Or.inl (ww hw 65 rfl)) Via.refl e0 f1 (g := (mkF m 1 #[.val (.ref r0)] [(.ref r0)])) rfl rfl (hb hby d9_1)
  obtain ⟨fs, hr, hrun, hended, hW, hsame⟩ := X2.leave (v := some (.int (1 : Int32))) (fun h => by rw [Bd.returns] at h; cases h)
  refine ⟨_, _, pre0 _ ?_, hrun, hended, _, _, rfl, ?_, ⟨_, rfl⟩, hW, hsame.mono (by decide) (by decide)⟩
  · show Steps p.tables e below (s₁.setTop (mkF m 0 #[.val (.ref r0)] [])) _
    refine XS.aloadN X0.here hx rfl (hb hby d9_0) rfl rfl ?_
    refine st2 _ ?_
    show Steps p.tables e below (T2.setTop (mkF m 4 #[.val (.ref r0)] [(.int (0 : Int32))])) _
    refine XS.ifNo X2.here hx rfl (hb hby d9_4) rfl ((if0 _ _).trans (teq (rfl : (0 : Int32) = (0 : Int32))).2) ?_
    refine XS.iconst X2.here hx rfl (hb hby d9_7) ?_
    refine XS.goto X2.here hx rfl (pc0 := 8) (pc' := 12) rfl (hb hby d9_8) (by decide) (by decide) ?_
    show Steps p.tables e below (T2.setTop (mkF m 12 #[.val (.ref r0)] [(.int (1 : Int32))])) _
    exact retN X2 hx (t := .boolean) Bd.returns (by simp) (hb hby d9_12) hr
  · show Q9_1 Z r0 h0 n0 _ T2.heap _
    rw [e2]
    exact ⟨rfl, N0, rfl⟩
theorem pd___Z : parseMethodDescriptor "()Z" = some ⟨[], some .boolean⟩ := by decide +kernel
theorem d8_37 : decode jdk_56_method_3_code 37 = .ok (.ifCond .eq 7, 3) := by decide +kernel
theorem d8_40 : decode jdk_56_method_3_code 40 = .ok (.invokestatic 26, 3) := by decide +kernel
theorem d10_0 : decode jdk_40_method_36_code 0 = .ok (.getstatic 90, 3) := by decide +kernel
theorem d10_3 : decode jdk_40_method_36_code 3 = .ok (.areturn, 1) := by decide +kernel
theorem pn_java_util_List : plainName "java/util/List" = true := by first | (simp [plainName, overriddenIn]; done) | decide +kernel
def Q10_1 (Z : State) (r0 : Addr) (h0 : Heap) (n0 : Nat) (v : Option Value) (h : Heap) (L : List Loc) : Prop := v = some (.ref r0) ∧ Fr n0 L ∧ h = h0
set_option maxRecDepth 65536 in
set_option maxHeartbeats 40000000 in
theorem rm10_1 (l : Launch) (Z : State) (a0 : Array Value) (hw : ∀ d ∈ tables_1, d.before a0 Z = true) (ws : List Jvm.Cond) (r0 : Addr) (h0 : Heap) (n0 : Nat) (O0 : Old Z n0 h0) (f1 : Sta Z Z.heap cs2 "EMPTY_LIST" cs3 (.ref r0)) :
    MetFree l (⟨"java/util/List", "of", "()Ljava/util/List;"⟩ : MethodName) (head1 (Jvm.Cond.code (⟨"java/util/List", "of", "()Ljava/util/List;"⟩ : MethodName) jdk_40_method_36_code 0 (some (.object "java/util/List")) :: ws) ({ frames := 0, cells := 0, slots := 0, locals := 0 } : Room)) (fun a U => a = #[] ∧ Z.Warmed39 U.vm ∧ U.heap = h0) (fun _ _ _ _ _ => True) (fun _ U o U' => ∃ v L, o = .returned v ∧ Q10_1 Z r0 h0 n0 v U'.heap L ∧ FrameEnd U o U' L ({ frames := 0, cells := 0, slots := 0, locals := 0 } : Room).cells ({ frames := 0, cells := 0, slots := 0, locals := 0 } : Room).slots) := by
  refine MetFree.of_bodySF (plainFor_of_name pn_java_util_List) hisR ?_
  intro p e s m args below meth c s₁ Bd hml0 hP hK
  obtain ⟨rfl, hZ, hh⟩ := hP
  have hx := Bd.exec
  have hby := Bd.bytes
  have hml : c.maxLocals = 0 := hml0
  have hown : s.vm.findClass "java/util/List" = some m.cls := findClass_of_methodNamed Bd.named
  have hnm := (name_of_methodNamed Bd.named Bd.method).1
  have X0 : Stand p l e ({ frames := 0, cells := 0, slots := 0, locals := 0 } : Room) s m #[] below meth c s₁ [] 0 0 := Stand.of_body Bd
  have e0 : s₁.heap = h0 := by rw [← hh, Bd.state]; rfl
  have N0 := Fr.nil n0
  have pre0 : ∀ t, Steps p.tables e below (s₁.setTop (mkF m 0 #[] [])) t → Steps p.tables e below (s₁.setTop (entryFrame m #[] 0)) t := fun t k => castTop (by first | (simp [entryFrame, mkF, argsToLocals, Value.category]; done) | rfl) k
  have f2 := f1.ext O0.2
  obtain ⟨T3, X3, e3, st3⟩ := getS2 X0 hx hZ hown (host := "") (Or.inl (ww hw 70 rfl)) Via.refl e0 f2 (g := (mkF m 0 #[] [])) rfl (hb hby d10_0)
  obtain ⟨fs, hr, hrun, hended, hW, hsame⟩ := X3.leave (v := some (.ref r0)) (fun h => by rw [Bd.returns] at h; cases h)
  refine ⟨_, _, pre0 _ ?_, hrun, hended, _, _, rfl, ?_, ⟨_, rfl⟩, hW, hsame.mono (by decide) (by decide)⟩
  · show Steps p.tables e below (s₁.setTop (mkF m 0 #[] [])) _
    refine st3 _ ?_
    show Steps p.tables e below (T3.setTop (mkF m 3 #[] [(.ref r0)])) _
    exact retOut X3 hx (i := .areturn) Bd.returns rfl (Or.inr (Or.inr (Or.inr (Or.inr ⟨rfl, rfl, rfl⟩)))) (hb hby d10_3) hr
  · show Q10_1 Z r0 h0 n0 _ T3.heap _
    rw [e3]
    exact ⟨rfl, N0, rfl⟩
theorem pd___Ljava_util_List_ : parseMethodDescriptor "()Ljava/util/List;" = some ⟨[], some (.object "java/util/List")⟩ := by decide +kernel
theorem d8_43 : decode jdk_56_method_3_code 43 = .ok (.areturn, 1) := by decide +kernel
theorem pn_java_util_ImmutableCollections : plainName cs2 = true := by first | (simp [plainName, overriddenIn]; done) | decide +kernel
def Q8_1 (Z : State) (r0 : Addr) (r1 : Addr) (h0 : Heap) (n0 : Nat) (v : Option Value) (h : Heap) (L : List Loc) : Prop := v = some (.ref r1) ∧ Fr n0 L ∧ h = h0
set_option maxRecDepth 65536 in
set_option maxHeartbeats 40000000 in
theorem rm8_1 (l : Launch) (Z : State) (a0 : Array Value) (hw : ∀ d ∈ tables_1, d.before a0 Z = true) (ws : List Jvm.Cond) (r0 : Addr) (r1 : Addr) (h0 : Heap) (n0 : Nat) (O0 : Old Z n0 h0) (f1 : Exa Z h0 r0 "java/util/ArrayList") (f4 : Fld Z h0 r0 "java/util/ArrayList" "size" "I" (.int (0 : Int32))) (f7 : Sta Z Z.heap cs2 "EMPTY_LIST" cs3 (.ref r1)) :
    MetFree l (⟨cs2, "listCopy", cs4⟩ : MethodName) (head1 (Jvm.Cond.code (⟨cs2, "listCopy", cs4⟩ : MethodName) jdk_56_method_3_code 2 (some (.object "java/util/List")) :: ws) ({ frames := 1, cells := 0, slots := 0, locals := 12 } : Room)) (fun a U => a = #[(.ref r0)] ∧ Z.Warmed39 U.vm ∧ U.heap = h0) (fun _ _ _ _ _ => True) (fun _ U o U' => ∃ v L, o = .returned v ∧ Q8_1 Z r0 r1 h0 n0 v U'.heap L ∧ FrameEnd U o U' L ({ frames := 1, cells := 0, slots := 0, locals := 12 } : Room).cells ({ frames := 1, cells := 0, slots := 0, locals := 12 } : Room).slots) := by
  refine MetFree.of_bodySF (plainFor_of_name pn_java_util_ImmutableCollections) hisR ?_
  intro p e s m args below meth c s₁ Bd hml0 hP hK
  obtain ⟨rfl, hZ, hh⟩ := hP
  have hx := Bd.exec
  have hby := Bd.bytes
  have hml : c.maxLocals = 2 := hml0
  have hown : s.vm.findClass cs2 = some m.cls := findClass_of_methodNamed Bd.named
  have hnm := (name_of_methodNamed Bd.named Bd.method).1
  have X0 : Stand p l e ({ frames := 1, cells := 0, slots := 0, locals := 12 } : Room) s m #[(.ref r0)] below meth c s₁ [] 0 0 := Stand.of_body Bd
  have e0 : s₁.heap = h0 := by rw [← hh, Bd.state]; rfl
  have N0 := Fr.nil n0
  have pre0 : ∀ t, Steps p.tables e below (s₁.setTop (mkF m 0 #[.val (.ref r0), .unset] [])) t → Steps p.tables e below (s₁.setTop (entryFrame m #[(.ref r0)] 2)) t := fun t k => castTop (by first | (simp [entryFrame, mkF, argsToLocals, Value.category]; done) | rfl) k
  obtain ⟨T2, X2, e2, st2⟩ := instNo X0 hx hZ hown (ww hw 50 rfl) e0 f1 (own_NSno (ww hw 51 rfl) (ww hw 192 rfl) (NS.step (ww hw 51 rfl) (NS.step (ww hw 52 rfl) (NS.step (ww hw 53 rfl) (own_NSroot (ww hw 54 rfl) (ww hw 192 rfl) (by decide)) (by decide)) (by decide)) (by decide)) (by decide)) (g := (mkF m 1 #[.val (.ref r0), .unset] [(.ref r0)])) rfl rfl (hb hby d8_1)
  obtain ⟨T3, X3, e3, st3⟩ := instNo X2 hx hZ hown (ww hw 55 rfl) e2 f1 (own_NSno (ww hw 51 rfl) (ww hw 241 rfl) (NS.step (ww hw 51 rfl) (NS.step (ww hw 52 rfl) (NS.step (ww hw 53 rfl) (own_NSroot (ww hw 54 rfl) (ww hw 241 rfl) (by decide)) (by decide)) (by decide)) (by decide)) (by decide)) (g := (mkF m 8 #[.val (.ref r0), .unset] [(.ref r0)])) rfl rfl (hb hby d8_8)
  obtain ⟨cqq6, kqq6, qq6a, qq6b, qq6c⟩ := isOf hZ e3 f1
  obtain ⟨_, _, ⟨T5, L5, k5, n5⟩, -, X5, ⟨Lc5, hQ5, l5, y5, z5⟩, st5⟩ := X3.interfaceBack hx (xi := (⟨"java/util/Collection", "isEmpty", "()Z"⟩ : MethodName)) (y := (⟨"java/util/ArrayList", "isEmpty", "()Z"⟩ : MethodName)) hown (mvT hZ (ww hw 56 rfl)) (mvT hZ (ww hw 57 rfl)) (mvT hZ (ww hw 58 rfl)) (mvT hZ (ww hw 59 rfl)) (mvT hZ (ww hw 60 rfl)) (mvT hZ (ww hw 61 rfl)) (mvT hZ (ww hw 62 rfl)) (mvT hZ (ww hw 63 rfl)) (by decide) (backOf (W := 0) (rm9_1 l Z a0 hw [] r0 h0 n0 O0 f4) hZ (ww hw 64 rfl) (ww hw 9 rfl) (by decide) (by decide)) qq6a qq6b qq6c (g := (mkF m 32 #[.val (.ref r0), .unset] [(.ref r0)])) rfl (by rw [hml]; rfl) (Steps.refl _) (argsL := []) (rest := []) (lenOf pd___Z rfl) rfl (by show 2 * 0 + _ ≤ _; exact Nat.le_of_eq rfl) (hb hby d8_32) (fun _ _ => ⟨rfl, e3, (by decide : 0 + 0 ≤ _), (by decide : 0 + 0 ≤ _)⟩)
  dsimp only [Pt.U, Pt.locs, Pt.cells, Pt.slots] at X5 l5 y5 z5 st5 hQ5
  subst l5 y5 z5
  obtain ⟨rfl, N5q, E5⟩ := hQ5
  have N5 := Fr.app N0 N5q
  obtain ⟨_, _, ⟨T8, L8, k8, n8⟩, -, X8, ⟨Lc8, hQ8, l8, y8, z8⟩, st8⟩ := Jvm.LawKit.callS X5 hx (y := (⟨"java/util/List", "of", "()Ljava/util/List;"⟩ : MethodName)) hown (mvT hZ (ww hw 67 rfl)) (mvT hZ (ww hw 68 rfl)) (mvT hZ (ww hw 44 rfl)) (mvT hZ (ww hw 69 rfl)) (by decide) (backOf (W := 0) (rm10_1 l Z a0 hw [] r1 h0 n0 O0 f7) hZ (ww hw 69 rfl) (ww hw 44 rfl) (by decide) (by decide)) (g := (mkF m 40 #[.val (.ref r0), .unset] [])) rfl (by rw [hml]; rfl) (argsL := []) (rest := []) (lenOf pd___Ljava_util_List_ rfl) rfl (by show 2 * 0 + _ ≤ _; exact Nat.le_of_eq rfl) (hb hby d8_40) (fun _ _ => ⟨rfl, E5, (by decide : 0 + 0 ≤ _), (by decide : 0 + 0 ≤ _)⟩)
  dsimp only [Pt.U, Pt.locs, Pt.cells, Pt.slots] at X8 l8 y8 z8 st8 hQ8
  subst l8 y8 z8
  obtain ⟨rfl, N8q, E8⟩ := hQ8
  have N8 := Fr.app N5 N8q
  obtain ⟨fs, hr, hrun, hended, hW, hsame⟩ := X8.leave (v := some (.ref r1)) (fun h => by rw [Bd.returns] at h; cases h)
  refine ⟨_, _, pre0 _ ?_, hrun, hended, _, _, rfl, ?_, ⟨_, rfl⟩, hW, hsame.mono (by decide) (by decide)⟩
  · show Steps p.tables e below (s₁.setTop (mkF m 0 #[.val (.ref r0), .unset] [])) _
    refine XS.aloadN X0.here hx rfl (hb hby d8_0) rfl rfl ?_
    refine st2 _ ?_
    show Steps p.tables e below (T2.setTop (mkF m 4 #[.val (.ref r0), .unset] [(.int (0 : Int32))])) _
    refine XS.ifNo X2.here hx rfl (hb hby d8_4) rfl ((if0 _ _).trans (teq (rfl : (0 : Int32) = (0 : Int32))).2) ?_
    refine XS.aloadN X2.here hx rfl (hb hby d8_7) rfl rfl ?_
    refine st3 _ ?_
    show Steps p.tables e below (T3.setTop (mkF m 11 #[.val (.ref r0), .unset] [(.int (0 : Int32))])) _
    refine XS.ifYes X3.here hx rfl (pc0 := 11) (pc' := 31) rfl (hb hby d8_11) rfl ((if0 _ _).trans (teq (rfl : (0 : Int32) = (0 : Int32))).1) (by decide) (by decide) ?_
    show Steps p.tables e below (T3.setTop (mkF m 31 #[.val (.ref r0), .unset] [])) _
    refine XS.aloadN X3.here hx rfl (hb hby d8_31) rfl rfl ?_
    refine st5.trans ?_
    show Steps p.tables e below (T5.setTop (mkF m 37 #[.val (.ref r0), .unset] [(.int (1 : Int32))])) _
    refine XS.ifNo X5.here hx rfl (hb hby d8_37) rfl ((if0 _ _).trans (feq (by decide : ¬ ((1 : Int32) = (0 : Int32)))).1) ?_
    refine st8 _ ?_
    show Steps p.tables e below (T8.setTop (mkF m 43 #[.val (.ref r0), .unset] [(.ref r1)])) _
    exact retOut X8 hx (i := .areturn) Bd.returns rfl (Or.inr (Or.inr (Or.inr (Or.inr ⟨rfl, rfl, rfl⟩)))) (hb hby d8_43) hr
  · show Q8_1 Z r0 r1 h0 n0 _ T8.heap _
    rw [E8]
    exact ⟨rfl, N8, rfl⟩
theorem pd__Ljava_util_Collection__Ljava_util_List_ : parseMethodDescriptor cs4 = some ⟨[(.object "java/util/Collection")], some (.object "java/util/List")⟩ := by decide +kernel
theorem d7_4 : decode jdk_40_method_48_code 4 = .ok (.areturn, 1) := by decide +kernel
def Q7_1 (Z : State) (r0 : Addr) (r1 : Addr) (h0 : Heap) (n0 : Nat) (v : Option Value) (h : Heap) (L : List Loc) : Prop := v = some (.ref r1) ∧ Fr n0 L ∧ h = h0
set_option maxRecDepth 65536 in
set_option maxHeartbeats 40000000 in
theorem rm7_1 (l : Launch) (Z : State) (a0 : Array Value) (hw : ∀ d ∈ tables_1, d.before a0 Z = true) (ws : List Jvm.Cond) (r0 : Addr) (r1 : Addr) (h0 : Heap) (n0 : Nat) (O0 : Old Z n0 h0) (f1 : Exa Z h0 r0 "java/util/ArrayList") (f2 : Fld Z h0 r0 "java/util/ArrayList" "size" "I" (.int (0 : Int32))) (f3 : Sta Z Z.heap cs2 "EMPTY_LIST" cs3 (.ref r1)) :
    MetFree l (⟨"java/util/List", "copyOf", cs4⟩ : MethodName) (head1 (Jvm.Cond.code (⟨"java/util/List", "copyOf", cs4⟩ : MethodName) jdk_40_method_48_code 1 (some (.object "java/util/List")) :: ws) ({ frames := 2, cells := 0, slots := 0, locals := 25 } : Room)) (fun a U => a = #[(.ref r0)] ∧ Z.Warmed39 U.vm ∧ U.heap = h0) (fun _ _ _ _ _ => True) (fun _ U o U' => ∃ v L, o = .returned v ∧ Q7_1 Z r0 r1 h0 n0 v U'.heap L ∧ FrameEnd U o U' L ({ frames := 2, cells := 0, slots := 0, locals := 25 } : Room).cells ({ frames := 2, cells := 0, slots := 0, locals := 25 } : Room).slots) := by
  refine MetFree.of_bodySF (plainFor_of_name pn_java_util_List) hisR ?_
  intro p e s m args below meth c s₁ Bd hml0 hP hK
  obtain ⟨rfl, hZ, hh⟩ := hP
  have hx := Bd.exec
  have hby := Bd.bytes
  have hml : c.maxLocals = 1 := hml0
  have hown : s.vm.findClass "java/util/List" = some m.cls := findClass_of_methodNamed Bd.named
  have hnm := (name_of_methodNamed Bd.named Bd.method).1
  have X0 : Stand p l e ({ frames := 2, cells := 0, slots := 0, locals := 25 } : Room) s m #[(.ref r0)] below meth c s₁ [] 0 0 := Stand.of_body Bd
  have e0 : s₁.heap = h0 := by rw [← hh, Bd.state]; rfl
  have N0 := Fr.nil n0
  have pre0 : ∀ t, Steps p.tables e below (s₁.setTop (mkF m 0 #[.val (.ref r0)] [])) t → Steps p.tables e below (s₁.setTop (entryFrame m #[(.ref r0)] 1)) t := fun t k => castTop (by first | (simp [entryFrame, mkF, argsToLocals, Value.category]; done) | rfl) k
  obtain ⟨_, _, ⟨T4, L4, k4, n4⟩, -, X4, ⟨Lc4, hQ4, l4, y4, z4⟩, st4⟩ := Jvm.LawKit.callS X0 hx (y := (⟨cs2, "listCopy", cs4⟩ : MethodName)) hown (mvT hZ (ww hw 46 rfl)) (mvT hZ (ww hw 47 rfl)) (mvT hZ (ww hw 48 rfl)) (mvT hZ (ww hw 49 rfl)) (by decide) (backOf (W := 0) (rm8_1 l Z a0 hw [] r0 r1 h0 n0 O0 f1 f2 f3) hZ (ww hw 49 rfl) (ww hw 48 rfl) (by decide) (by decide)) (g := (mkF m 1 #[.val (.ref r0)] [(.ref r0)])) rfl (by rw [hml]; rfl) (argsL := [(.ref r0)]) (rest := []) (lenOf pd__Ljava_util_Collection__Ljava_util_List_ rfl) rfl (by show 2 * 0 + _ ≤ _; exact Nat.le_of_eq rfl) (hb hby d7_1) (fun _ _ => ⟨rfl, e0, (by decide : 0 + 0 ≤ _), (by decide : 0 + 0 ≤ _)⟩)
  dsimp only [Pt.U, Pt.locs, Pt.cells, Pt.slots] at X4 l4 y4 z4 st4 hQ4
  subst l4 y4 z4
  obtain ⟨rfl, N4q, E4⟩ := hQ4
  have N4 := Fr.app N0 N4q
  obtain ⟨fs, hr, hrun, hended, hW, hsame⟩ := X4.leave (v := some (.ref r1)) (fun h => by rw [Bd.returns] at h; cases h)
  refine ⟨_, _, pre0 _ ?_, hrun, hended, _, _, rfl, ?_, ⟨_, rfl⟩, hW, hsame.mono (by decide) (by decide)⟩
  · show Steps p.tables e below (s₁.setTop (mkF m 0 #[.val (.ref r0)] [])) _
    refine XS.aloadN X0.here hx rfl (hb hby d7_0) rfl rfl ?_
    refine st4 _ ?_
    show Steps p.tables e below (T4.setTop (mkF m 4 #[.val (.ref r0)] [(.ref r1)])) _
    exact retOut X4 hx (i := .areturn) Bd.returns rfl (Or.inr (Or.inr (Or.inr (Or.inr ⟨rfl, rfl, rfl⟩)))) (hb hby d7_4) hr
  · show Q7_1 Z r0 r1 h0 n0 _ T4.heap _
    rw [E4]
    exact ⟨rfl, N4, rfl⟩
theorem d6_14 : decode prog_4_method_1_code 14 = .ok (.putfield 19, 3) := by decide +kernel
theorem d6_17 : decode prog_4_method_1_code 17 = .ok (.return_, 1) := by decide +kernel
theorem pn_com_example_weaverbird_weaverbird_bind_Binding : plainName cs5 = true := by first | (simp [plainName, overriddenIn]; done) | decide +kernel
def Q6_1 (Z : State) (r0 : Addr) (r1 : Addr) (r2 : Addr) (h0 : Heap) (n0 : Nat) (v : Option Value) (h : Heap) (L : List Loc) : Prop := v = none ∧ Fr n0 L ∧ Keep h0 h [r0] ∧ Fld Z h r0 cs5 "value" "Ljava/lang/Object;" .null ∧ Fld Z h r0 cs5 "errors" "Ljava/util/List;" (.ref r2)
set_option maxRecDepth 65536 in
set_option maxHeartbeats 40000000 in
theorem rm6_1 (l : Launch) (Z : State) (a0 : Array Value) (hw : ∀ d ∈ tables_1, d.before a0 Z = true) (ws : List Jvm.Cond) (r0 : Addr) (r1 : Addr) (r2 : Addr) (h0 : Heap) (n0 : Nat) (O0 : Old Z n0 h0) (f2 : Exa Z h0 r0 cs5) (f3 : Fld Z h0 r0 cs5 "value" "Ljava/lang/Object;" .null) (g4 : n0 ≤ r0) (f6 : Exa Z h0 r1 "java/util/ArrayList") (f8 : Fld Z h0 r1 "java/util/ArrayList" "size" "I" (.int (0 : Int32))) (n9 : r1 ≠ r0) (f11 : Sta Z Z.heap cs2 "EMPTY_LIST" cs3 (.ref r2)) (f15 : Fld Z h0 r0 cs5 "errors" "Ljava/util/List;" .null) :
    MetFree l (⟨cs5, "<init>", cs6⟩ : MethodName) (head1 (Jvm.Cond.code (⟨cs5, "<init>", cs6⟩ : MethodName) prog_4_method_1_code 3 none :: ws) ({ frames := 3, cells := 0, slots := 0, locals := 38 } : Room)) (fun a U => a = #[(.ref r0), .null, (.ref r1)] ∧ Z.Warmed39 U.vm ∧ U.heap = h0) (fun _ _ _ _ _ => True) (fun _ U o U' => ∃ v L, o = .returned v ∧ Q6_1 Z r0 r1 r2 h0 n0 v U'.heap L ∧ FrameEnd U o U' L ({ frames := 3, cells := 0, slots := 0, locals := 38 } : Room).cells ({ frames := 3, cells := 0, slots := 0, locals := 38 } : Room).slots) := by
  refine MetFree.of_bodySF (plainFor_of_name pn_com_example_weaverbird_weaverbird_bind_Binding) hisR ?_
  intro p e s m args below meth c s₁ Bd hml0 hP hK
  obtain ⟨rfl, hZ, hh⟩ := hP
  have hx := Bd.exec
  have hby := Bd.bytes
  have hml : c.maxLocals = 3 := hml0
  have hown : s.vm.findClass cs5 = some m.cls := findClass_of_methodNamed Bd.named
  have hnm := (name_of_methodNamed Bd.named Bd.method).1
  have X0 : Stand p l e ({ frames := 3, cells := 0, slots := 0, locals := 38 } : Room) s m #[(.ref r0), .null, (.ref r1)] below meth c s₁ [] 0 0 := Stand.of_body Bd
  have e0 : s₁.heap = h0 := by rw [← hh, Bd.state]; rfl
  have N0 := Fr.nil n0
  have pre0 : ∀ t, Steps p.tables e below (s₁.setTop (mkF m 0 #[.val (.ref r0), .val .null, .val (.ref r1)] [])) t → Steps p.tables e below (s₁.setTop (entryFrame m #[(.ref r0), .null, (.ref r1)] 3)) t := fun t k => castTop (by first | (simp [entryFrame, mkF, argsToLocals, Value.category]; done) | rfl) k
  obtain ⟨T1, X1, e1, st1⟩ := initO X0 hx hZ hown (ww hw 39 rfl) (ww hw 26 rfl) (ww hw 27 rfl) e0 (g := (mkF m 1 #[.val (.ref r0), .val .null, .val (.ref r1)] [(.ref r0)])) rfl (by rw [hml]; rfl) rfl (hb hby d6_1) (by decide) (W := 0) (by show 2 * 0 + _ ≤ _; exact Nat.le_of_eq rfl) (by decide)
  obtain ⟨T5, h5, X5, e5, W5, st5⟩ := putF X1 hx hZ hown (host := "") (Or.inl (ww hw 40 rfl)) Via.refl e1 f3 f2 (Or.inr ⟨(ww hw 41 rfl), rfl, hnm⟩) (ww hw 34 rfl) (ty := (.object "java/lang/Object")) (by decide) rfl rfl (g := (mkF m 6 #[.val (.ref r0), .val .null, .val (.ref r1)] [.null, (.ref r0)])) rfl rfl (hb hby d6_6)
  have Fw5 := f3.same W5
  have N5 := Fr.snoc X5 N0 g4
  have f7 := (f6.wr W5)
  have f10 := (f8.other W5 (Or.inl n9))
  have o12 := Old.wr O0 W5 g4
  obtain ⟨_, _, ⟨T13, L13, k13, n13⟩, -, X13, ⟨Lc13, hQ13, l13, y13, z13⟩, st13⟩ := Jvm.LawKit.callS X5 hx (y := (⟨"java/util/List", "copyOf", cs4⟩ : MethodName)) hown (mvT hZ (ww hw 42 rfl)) (mvT hZ (ww hw 43 rfl)) (mvT hZ (ww hw 44 rfl)) (mvT hZ (ww hw 45 rfl)) (by decide) (backOf (W := 1) (rm7_1 l Z a0 hw [] r1 r2 h5 n0 o12 f7 f10 f11) hZ (ww hw 45 rfl) (ww hw 44 rfl) (by decide) (by decide)) (g := (mkF m 11 #[.val (.ref r0), .val .null, .val (.ref r1)] [(.ref r1), (.ref r0)])) rfl (by rw [hml]; rfl) (argsL := [(.ref r1)]) (rest := [(.ref r0)]) (lenOf pd__Ljava_util_Collection__Ljava_util_List_ rfl) rfl (by show 2 * 0 + _ ≤ _; exact Nat.le_of_eq rfl) (hb hby d6_11) (fun _ _ => ⟨rfl, e5, (by decide : 0 + 0 ≤ _), (by decide : 0 + 0 ≤ _)⟩)
  dsimp only [Pt.U, Pt.locs, Pt.cells, Pt.slots] at X13 l13 y13 z13 st13 hQ13
  subst l13 y13 z13
  obtain ⟨rfl, N13q, E13⟩ := hQ13
  have N13 := Fr.app N5 N13q
  have f14 := (f2.wr W5)
  have f16 := (f15.other W5 (Or.inr (slot_ne (Or.inr (ww hw 72 rfl)) (Or.inr (ww hw 41 rfl)) (by decide) (t := (.object "java/util/List")) (t' := (.object "java/lang/Object")) (by decide) (by decide))))
  obtain ⟨T17, h17, X17, e17, W17, st17⟩ := putF X13 hx hZ hown (host := "") (Or.inl (ww hw 71 rfl)) Via.refl E13 f16 f14 (Or.inr ⟨(ww hw 72 rfl), rfl, hnm⟩) (ww hw 34 rfl) (ty := (.object "java/util/List")) (by decide) rfl rfl (g := (mkF m 14 #[.val (.ref r0), .val .null, .val (.ref r1)] [(.ref r2), (.ref r0)])) rfl rfl (hb hby d6_14)
  have Fw17 := f16.same W17
  have N17 := Fr.snoc X17 N13 g4
  have f18 := (Fw5.other W17 (Or.inr (slot_ne (Or.inr (ww hw 41 rfl)) (Or.inr (ww hw 72 rfl)) (by decide) (t := (.object "java/lang/Object")) (t' := (.object "java/util/List")) (by decide) (by decide))))
  have kp19 : Keep h0 h5 [r0] := (Keep.refl h0 [r0]).wr W5 (Or.inl (List.mem_of_getElem? (i := 0) rfl))
  have kp20 : Keep h0 h17 [r0] := kp19.wr W17 (Or.inl (List.mem_of_getElem? (i := 0) rfl))
  obtain ⟨fs, hr, hrun, hended, hW, hsame⟩ := X17.leave (v := none) (fun _ => rfl)
  refine ⟨_, _, pre0 _ ?_, hrun, hended, _, _, rfl, ?_, ⟨_, rfl⟩, hW, hsame.mono (by decide) (by decide)⟩
  · show Steps p.tables e below (s₁.setTop (mkF m 0 #[.val (.ref r0), .val .null, .val (.ref r1)] [])) _
    refine XS.aloadN X0.here hx rfl (hb hby d6_0) rfl rfl ?_
    refine st1 _ ?_
    show Steps p.tables e below (T1.setTop (mkF m 4 #[.val (.ref r0), .val .null, .val (.ref r1)] [])) _
    refine XS.aloadN X1.here hx rfl (hb hby d6_4) rfl rfl ?_
    refine XS.aloadN X1.here hx rfl (hb hby d6_5) rfl rfl ?_
    refine st5 _ ?_
    show Steps p.tables e below (T5.setTop (mkF m 9 #[.val (.ref r0), .val .null, .val (.ref r1)] [])) _
    refine XS.aloadN X5.here hx rfl (hb hby d6_9) rfl rfl ?_
    refine XS.aloadN X5.here hx rfl (hb hby d6_10) rfl rfl ?_
    refine st13 _ ?_
    show Steps p.tables e below (T13.setTop (mkF m 14 #[.val (.ref r0), .val .null, .val (.ref r1)] [(.ref r2), (.ref r0)])) _
    refine st17 _ ?_
    show Steps p.tables e below (T17.setTop (mkF m 17 #[.val (.ref r0), .val .null, .val (.ref r1)] [])) _
    exact X17.returnOut hx Bd.returns (hb hby d6_17) hr
  · show Q6_1 Z r0 r1 r2 h0 n0 _ T17.heap _
    rw [e17]
    exact ⟨rfl, N17, kp20, f18, Fw17⟩
theorem pd__Ljava_lang_Object_Ljava_util_List__V : parseMethodDescriptor cs6 = some ⟨[(.object "java/lang/Object"), (.object "java/util/List")], none⟩ := by decide +kernel
theorem d11_0 : decode prog_4_method_4_code 0 = .ok (.aload_n 0, 1) := by decide +kernel
theorem d11_1 : decode prog_4_method_4_code 1 = .ok (.getfield 19, 3) := by decide +kernel
theorem d11_4 : decode prog_4_method_4_code 4 = .ok (.invokeinterface 23 1, 5) := by decide +kernel
theorem d12_0 : decode jdk_45_method_2_code 0 = .ok (.aload_n 0, 1) := by decide +kernel
theorem d12_1 : decode jdk_45_method_2_code 1 = .ok (.getfield 7, 3) := by decide +kernel
theorem d12_4 : decode jdk_45_method_2_code 4 = .ok (.arraylength, 1) := by decide +kernel
theorem d12_5 : decode jdk_45_method_2_code 5 = .ok (.ifCond .ne 7, 3) := by decide +kernel
theorem d12_8 : decode jdk_45_method_2_code 8 = .ok (.iconst 1, 1) := by decide +kernel
theorem d12_9 : decode jdk_45_method_2_code 9 = .ok (.goto 4, 3) := by decide +kernel
theorem d12_13 : decode jdk_45_method_2_code 13 = .ok (.ireturn, 1) := by decide +kernel
theorem pn_java_util_ImmutableCollections_ListN : plainName cs7 = true := by first | (simp [plainName, overriddenIn]; done) | decide +kernel
def Q12_1 (Z : State) (r0 : Addr) (r1 : Addr) (c2 : ClassId) (h0 : Heap) (n0 : Nat) (v : Option Value) (h : Heap) (L : List Loc) : Prop := v = some (.int (1 : Int32)) ∧ Fr n0 L ∧ h = h0
set_option maxRecDepth 65536 in
set_option maxHeartbeats 40000000 in
theorem rm12_1 (l : Launch) (Z : State) (a0 : Array Value) (hw : ∀ d ∈ tables_1, d.before a0 Z = true) (ws : List Jvm.Cond) (r0 : Addr) (r1 : Addr) (c2 : ClassId) (h0 : Heap) (n0 : Nat) (O0 : Old Z n0 h0) (f1 : Fld Z Z.heap r0 cs7 "elements" "[Ljava/lang/Object;" (.ref r1)) (f4 : Arv Z Z.heap r1 c2 (.object "java/lang/Object") (0 : Int32) [] .null) :
    MetFree l (⟨cs7, "isEmpty", "()Z"⟩ : MethodName) (head1 (Jvm.Cond.code (⟨cs7, "isEmpty", "()Z"⟩ : MethodName) jdk_45_method_2_code 1 (some .boolean) :: ws) ({ frames := 0, cells := 0, slots := 0, locals := 0 } : Room)) (fun a U => a = #[(.ref r0)] ∧ Z.Warmed39 U.vm ∧ U.heap = h0) (fun _ _ _ _ _ => True) (fun _ U o U' => ∃ v L, o = .returned v ∧ Q12_1 Z r0 r1 c2 h0 n0 v U'.heap L ∧ FrameEnd U o U' L ({ frames := 0, cells := 0, slots := 0, locals := 0 } : Room).cells ({ frames := 0, cells := 0, slots := 0, locals := 0 } : Room).slots) := by
  refine MetFree.of_bodySF (plainFor_of_name pn_java_util_ImmutableCollections_ListN) hisR ?_
  intro p e s m args below meth c s₁ Bd hml0 hP hK
  obtain ⟨rfl, hZ, hh⟩ := hP
  have hx := Bd.exec
  have hby := Bd.bytes
  have hml : c.maxLocals = 1 := hml0
  have hown : s.vm.findClass cs7 = some m.cls := findClass_of_methodNamed Bd.named
  have hnm := (name_of_methodNamed Bd.named Bd.method).1
  have X0 : Stand p l e ({ frames := 0, cells := 0, slots := 0, locals := 0 } : Room) s m #[(.ref r0)] below meth c s₁ [] 0 0 := Stand.of_body Bd
  have e0 : s₁.heap = h0 := by rw [← hh, Bd.state]; rfl
  have N0 := Fr.nil n0
  have pre0 : ∀ t, Steps p.tables e below (s₁.setTop (mkF m 0 #[.val (.ref r0)] [])) t → Steps p.tables e below (s₁.setTop (entryFrame m #[(.ref r0)] 1)) t := fun t k => castTop (by first | (simp [entryFrame, mkF, argsToLocals, Value.category]; done) | rfl) k
  have f2 := f1.ext O0.2
  obtain ⟨T3, X3, e3, st3⟩ := getF X0 hx hZ hown (host := "") (Or.inl (ww hw 88 rfl)) Via.refl e0 f2 (g := (mkF m 1 #[.val (.ref r0)] [(.ref r0)])) rfl rfl (hb hby d12_1)
  have f5 := f4.ext O0.2
  obtain ⟨clq6, Arq6, qq6, Sq6, Nq6, Hq6, Gq6⟩ := id f5
  obtain ⟨fs, hr, hrun, hended, hW, hsame⟩ := X3.leave (v := some (.int (1 : Int32))) (fun h => by rw [Bd.returns] at h; cases h)
  refine ⟨_, _, pre0 _ ?_, hrun, hended, _, _, rfl, ?_, ⟨_, rfl⟩, hW, hsame.mono (by decide) (by decide)⟩
  · show Steps p.tables e below (s₁.setTop (mkF m 0 #[.val (.ref r0)] [])) _
    refine XS.aloadN X0.here hx rfl (hb hby d12_0) rfl rfl ?_
    refine st3 _ ?_
    show Steps p.tables e below (T3.setTop (mkF m 4 #[.val (.ref r0)] [(.ref r1)])) _
    refine X3.arraylength hx (by rw [e3]; exact Arq6.1) (State.isArrayOf_alike hZ.alike Arq6.2.1) (g := (mkF m 4 #[.val (.ref r0)] [(.ref r1)])) rfl rfl (hb hby d12_4) _ ?_
    rw [len_of Sq6 Nq6]
    show Steps p.tables e below (T3.setTop (mkF m 5 #[.val (.ref r0)] [(.int (0 : Int32))])) _
    refine XS.ifNo X3.here hx rfl (hb hby d12_5) rfl ((if0 _ _).trans (teq (rfl : (0 : Int32) = (0 : Int32))).2) ?_
    refine XS.iconst X3.here hx rfl (hb hby d12_8) ?_
    refine XS.goto X3.here hx rfl (pc0 := 9) (pc' := 13) rfl (hb hby d12_9) (by decide) (by decide) ?_
    show Steps p.tables e below (T3.setTop (mkF m 13 #[.val (.ref r0)] [(.int (1 : Int32))])) _
    exact retN X3 hx (t := .boolean) Bd.returns (by simp) (hb hby d12_13) hr
  · show Q12_1 Z r0 r1 c2 h0 n0 _ T3.heap _
    rw [e3]
    exact ⟨rfl, N0, rfl⟩
theorem d11_9 : decode prog_4_method_4_code 9 = .ok (.ifCond .ne 7, 3) := by decide +kernel
theorem d11_16 : decode prog_4_method_4_code 16 = .ok (.iconst 0, 1) := by decide +kernel
theorem d11_17 : decode prog_4_method_4_code 17 = .ok (.ireturn, 1) := by decide +kernel
def Q11_1 (Z : State) (r0 : Addr) (r1 : Addr) (r2 : Addr) (c3 : ClassId) (h0 : Heap) (n0 : Nat) (v : Option Value) (h : Heap) (L : List Loc) : Prop := v = some (.int (0 : Int32)) ∧ Fr n0 L ∧ h = h0
set_option maxRecDepth 65536 in
set_option maxHeartbeats 40000000 in
theorem rm11_1 (l : Launch) (Z : State) (a0 : Array Value) (hw : ∀ d ∈ tables_1, d.before a0 Z = true) (ws : List Jvm.Cond) (r0 : Addr) (r1 : Addr) (r2 : Addr) (c3 : ClassId) (h0 : Heap) (n0 : Nat) (O0 : Old Z n0 h0) (f1 : Fld Z h0 r0 cs5 "errors" "Ljava/util/List;" (.ref r1)) (f3 : Exa Z Z.heap r1 cs7) (f5 : Fld Z Z.heap r1 cs7 "elements" "[Ljava/lang/Object;" (.ref r2)) (f6 : Arv Z Z.heap r2 c3 (.object "java/lang/Object") (0 : Int32) [] .null) :
    MetFree l (⟨cs5, "hasErrors", "()Z"⟩ : MethodName) (head1 (Jvm.Cond.code (⟨cs5, "hasErrors", "()Z"⟩ : MethodName) prog_4_method_4_code 1 (some .boolean) :: ws) ({ frames := 1, cells := 0, slots := 0, locals := 12 } : Room)) (fun a U => a = #[(.ref r0)] ∧ Z.Warmed39 U.vm ∧ U.heap = h0) (fun _ _ _ _ _ => True) (fun _ U o U' => ∃ v L, o = .returned v ∧ Q11_1 Z r0 r1 r2 c3 h0 n0 v U'.heap L ∧ FrameEnd U o U' L ({ frames := 1, cells := 0, slots := 0, locals := 12 } : Room).cells ({ frames := 1, cells := 0, slots := 0, locals := 12 } : Room).slots) := by
  refine MetFree.of_bodySF (plainFor_of_name pn_com_example_weaverbird_weaverbird_bind_Binding) hisR ?_
  intro p e s m args below meth c s₁ Bd hml0 hP hK
  obtain ⟨rfl, hZ, hh⟩ := hP
  have hx := Bd.exec
  have hby := Bd.bytes
  have hml : c.maxLocals = 1 := hml0
  have hown : s.vm.findClass cs5 = some m.cls := findClass_of_methodNamed Bd.named
  have hnm := (name_of_methodNamed Bd.named Bd.method).1
  have X0 : Stand p l e ({ frames := 1, cells := 0, slots := 0, locals := 12 } : Room) s m #[(.ref r0)] below meth c s₁ [] 0 0 := Stand.of_body Bd
  have e0 : s₁.heap = h0 := by rw [← hh, Bd.state]; rfl
  have N0 := Fr.nil n0
  have pre0 : ∀ t, Steps p.tables e below (s₁.setTop (mkF m 0 #[.val (.ref r0)] [])) t → Steps p.tables e below (s₁.setTop (entryFrame m #[(.ref r0)] 1)) t := fun t k => castTop (by first | (simp [entryFrame, mkF, argsToLocals, Value.category]; done) | rfl) k
  obtain ⟨T2, X2, e2, st2⟩ := getF X0 hx hZ hown (host := "") (Or.inl (ww hw 71 rfl)) Via.refl e0 f1 (g := (mkF m 1 #[.val (.ref r0)] [(.ref r0)])) rfl rfl (hb hby d11_1)
  have f4 := f3.ext O0.2
  obtain ⟨cqq8, kqq8, qq8a, qq8b, qq8c⟩ := isOf hZ e2 f4
  obtain ⟨_, _, ⟨T7, L7, k7, n7⟩, -, X7, ⟨Lc7, hQ7, l7, y7, z7⟩, st7⟩ := X2.interfaceBack hx (xi := (⟨"java/util/List", "isEmpty", "()Z"⟩ : MethodName)) (y := (⟨cs7, "isEmpty", "()Z"⟩ : MethodName)) hown (mvT hZ (ww hw 78 rfl)) (mvT hZ (ww hw 79 rfl)) (mvT hZ (ww hw 80 rfl)) (mvT hZ (ww hw 81 rfl)) (mvT hZ (ww hw 82 rfl)) (mvT hZ (ww hw 83 rfl)) (mvT hZ (ww hw 84 rfl)) (mvT hZ (ww hw 85 rfl)) (by decide) (backOf (W := 0) (rm12_1 l Z a0 hw [] r1 r2 c3 h0 n0 O0 f5 f6) hZ (ww hw 87 rfl) (ww hw 86 rfl) (by decide) (by decide)) qq8a qq8b qq8c (g := (mkF m 4 #[.val (.ref r0)] [(.ref r1)])) rfl (by rw [hml]; rfl) (Steps.refl _) (argsL := []) (rest := []) (lenOf pd___Z rfl) rfl (by show 2 * 0 + _ ≤ _; exact Nat.le_of_eq rfl) (hb hby d11_4) (fun _ _ => ⟨rfl, e2, (by decide : 0 + 0 ≤ _), (by decide : 0 + 0 ≤ _)⟩)
  dsimp only [Pt.U, Pt.locs, Pt.cells, Pt.slots] at X7 l7 y7 z7 st7 hQ7
  subst l7 y7 z7
  obtain ⟨rfl, N7q, E7⟩ := hQ7
  have N7 := Fr.app N0 N7q
  obtain ⟨fs, hr, hrun, hended, hW, hsame⟩ := X7.leave (v := some (.int (0 : Int32))) (fun h => by rw [Bd.returns] at h; cases h)
  refine ⟨_, _, pre0 _ ?_, hrun, hended, _, _, rfl, ?_, ⟨_, rfl⟩, hW, hsame.mono (by decide) (by decide)⟩
  · show Steps p.tables e below (s₁.setTop (mkF m 0 #[.val (.ref r0)] [])) _
    refine XS.aloadN X0.here hx rfl (hb hby d11_0) rfl rfl ?_
    refine st2 _ ?_
    show Steps p.tables e below (T2.setTop (mkF m 4 #[.val (.ref r0)] [(.ref r1)])) _
    refine st7.trans ?_
    show Steps p.tables e below (T7.setTop (mkF m 9 #[.val (.ref r0)] [(.int (1 : Int32))])) _
    refine XS.ifYes X7.here hx rfl (pc0 := 9) (pc' := 16) rfl (hb hby d11_9) rfl ((if0 _ _).trans (feq (by decide : ¬ ((1 : Int32) = (0 : Int32)))).2) (by decide) (by decide) ?_
    show Steps p.tables e below (T7.setTop (mkF m 16 #[.val (.ref r0)] [])) _
    refine XS.iconst X7.here hx rfl (hb hby d11_16) ?_
    exact retN X7 hx (t := .boolean) Bd.returns (by simp) (hb hby d11_17) hr
  · show Q11_1 Z r0 r1 r2 c3 h0 n0 _ T7.heap _
    rw [E7]
    exact ⟨rfl, N7, rfl⟩
theorem d13_0 : decode prog_4_method_3_code 0 = .ok (.aload_n 0, 1) := by decide +kernel
theorem d13_1 : decode prog_4_method_3_code 1 = .ok (.getfield 19, 3) := by decide +kernel
theorem d13_4 : decode prog_4_method_3_code 4 = .ok (.areturn, 1) := by decide +kernel
def Q13_1 (Z : State) (r0 : Addr) (r1 : Addr) (h0 : Heap) (n0 : Nat) (v : Option Value) (h : Heap) (L : List Loc) : Prop := v = some (.ref r1) ∧ Fr n0 L ∧ h = h0
set_option maxRecDepth 65536 in
set_option maxHeartbeats 40000000 in
theorem rm13_1 (l : Launch) (Z : State) (a0 : Array Value) (hw : ∀ d ∈ tables_1, d.before a0 Z = true) (ws : List Jvm.Cond) (r0 : Addr) (r1 : Addr) (h0 : Heap) (n0 : Nat) (O0 : Old Z n0 h0) (f1 : Fld Z h0 r0 cs5 "errors" "Ljava/util/List;" (.ref r1)) :
    MetFree l (⟨cs5, "errors", "()Ljava/util/List;"⟩ : MethodName) (head1 (Jvm.Cond.code (⟨cs5, "errors", "()Ljava/util/List;"⟩ : MethodName) prog_4_method_3_code 1 (some (.object "java/util/List")) :: ws) ({ frames := 0, cells := 0, slots := 0, locals := 0 } : Room)) (fun a U => a = #[(.ref r0)] ∧ Z.Warmed39 U.vm ∧ U.heap = h0) (fun _ _ _ _ _ => True) (fun _ U o U' => ∃ v L, o = .returned v ∧ Q13_1 Z r0 r1 h0 n0 v U'.heap L ∧ FrameEnd U o U' L ({ frames := 0, cells := 0, slots := 0, locals := 0 } : Room).cells ({ frames := 0, cells := 0, slots := 0, locals := 0 } : Room).slots) := by
  refine MetFree.of_bodySF (plainFor_of_name pn_com_example_weaverbird_weaverbird_bind_Binding) hisR ?_
  intro p e s m args below meth c s₁ Bd hml0 hP hK
  obtain ⟨rfl, hZ, hh⟩ := hP
  have hx := Bd.exec
  have hby := Bd.bytes
  have hml : c.maxLocals = 1 := hml0
  have hown : s.vm.findClass cs5 = some m.cls := findClass_of_methodNamed Bd.named
  have hnm := (name_of_methodNamed Bd.named Bd.method).1
  have X0 : Stand p l e ({ frames := 0, cells := 0, slots := 0, locals := 0 } : Room) s m #[(.ref r0)] below meth c s₁ [] 0 0 := Stand.of_body Bd
  have e0 : s₁.heap = h0 := by rw [← hh, Bd.state]; rfl
  have N0 := Fr.nil n0
  have pre0 : ∀ t, Steps p.tables e below (s₁.setTop (mkF m 0 #[.val (.ref r0)] [])) t → Steps p.tables e below (s₁.setTop (entryFrame m #[(.ref r0)] 1)) t := fun t k => castTop (by first | (simp [entryFrame, mkF, argsToLocals, Value.category]; done) | rfl) k
  obtain ⟨T2, X2, e2, st2⟩ := getF X0 hx hZ hown (host := "") (Or.inl (ww hw 71 rfl)) Via.refl e0 f1 (g := (mkF m 1 #[.val (.ref r0)] [(.ref r0)])) rfl rfl (hb hby d13_1)
  obtain ⟨fs, hr, hrun, hended, hW, hsame⟩ := X2.leave (v := some (.ref r1)) (fun h => by rw [Bd.returns] at h; cases h)
  refine ⟨_, _, pre0 _ ?_, hrun, hended, _, _, rfl, ?_, ⟨_, rfl⟩, hW, hsame.mono (by decide) (by decide)⟩
  · show Steps p.tables e below (s₁.setTop (mkF m 0 #[.val (.ref r0)] [])) _
    refine XS.aloadN X0.here hx rfl (hb hby d13_0) rfl rfl ?_
    refine st2 _ ?_
    show Steps p.tables e below (T2.setTop (mkF m 4 #[.val (.ref r0)] [(.ref r1)])) _
    exact retOut X2 hx (i := .areturn) Bd.returns rfl (Or.inr (Or.inr (Or.inr (Or.inr ⟨rfl, rfl, rfl⟩)))) (hb hby d13_4) hr
  · show Q13_1 Z r0 r1 h0 n0 _ T2.heap _
    rw [e2]
    exact ⟨rfl, N0, rfl⟩
theorem d14_0 : decode jdk_45_method_3_code 0 = .ok (.aload_n 0, 1) := by decide +kernel
theorem d14_1 : decode jdk_45_method_3_code 1 = .ok (.getfield 7, 3) := by decide +kernel
theorem d14_4 : decode jdk_45_method_3_code 4 = .ok (.arraylength, 1) := by decide +kernel
theorem d14_5 : decode jdk_45_method_3_code 5 = .ok (.ireturn, 1) := by decide +kernel
def Q14_1 (Z : State) (r0 : Addr) (r1 : Addr) (c2 : ClassId) (h0 : Heap) (n0 : Nat) (v : Option Value) (h : Heap) (L : List Loc) : Prop := v = some (.int (0 : Int32)) ∧ Fr n0 L ∧ h = h0
set_option maxRecDepth 65536 in
set_option maxHeartbeats 40000000 in
theorem rm14_1 (l : Launch) (Z : State) (a0 : Array Value) (hw : ∀ d ∈ tables_1, d.before a0 Z = true) (ws : List Jvm.Cond) (r0 : Addr) (r1 : Addr) (c2 : ClassId) (h0 : Heap) (n0 : Nat) (O0 : Old Z n0 h0) (f1 : Fld Z Z.heap r0 cs7 "elements" "[Ljava/lang/Object;" (.ref r1)) (f4 : Arv Z Z.heap r1 c2 (.object "java/lang/Object") (0 : Int32) [] .null) :
    MetFree l (⟨cs7, "size", "()I"⟩ : MethodName) (head1 (Jvm.Cond.code (⟨cs7, "size", "()I"⟩ : MethodName) jdk_45_method_3_code 1 (some .int) :: ws) ({ frames := 0, cells := 0, slots := 0, locals := 0 } : Room)) (fun a U => a = #[(.ref r0)] ∧ Z.Warmed39 U.vm ∧ U.heap = h0) (fun _ _ _ _ _ => True) (fun _ U o U' => ∃ v L, o = .returned v ∧ Q14_1 Z r0 r1 c2 h0 n0 v U'.heap L ∧ FrameEnd U o U' L ({ frames := 0, cells := 0, slots := 0, locals := 0 } : Room).cells ({ frames := 0, cells := 0, slots := 0, locals := 0 } : Room).slots) := by
  refine MetFree.of_bodySF (plainFor_of_name pn_java_util_ImmutableCollections_ListN) hisR ?_
  intro p e s m args below meth c s₁ Bd hml0 hP hK
  obtain ⟨rfl, hZ, hh⟩ := hP
  have hx := Bd.exec
  have hby := Bd.bytes
  have hml : c.maxLocals = 1 := hml0
  have hown : s.vm.findClass cs7 = some m.cls := findClass_of_methodNamed Bd.named
  have hnm := (name_of_methodNamed Bd.named Bd.method).1
  have X0 : Stand p l e ({ frames := 0, cells := 0, slots := 0, locals := 0 } : Room) s m #[(.ref r0)] below meth c s₁ [] 0 0 := Stand.of_body Bd
  have e0 : s₁.heap = h0 := by rw [← hh, Bd.state]; rfl
  have N0 := Fr.nil n0
  have pre0 : ∀ t, Steps p.tables e below (s₁.setTop (mkF m 0 #[.val (.ref r0)] [])) t → Steps p.tables e below (s₁.setTop (entryFrame m #[(.ref r0)] 1)) t := fun t k => castTop (by first | (simp [entryFrame, mkF, argsToLocals, Value.category]; done) | rfl) k
  have f2 := f1.ext O0.2
  obtain ⟨T3, X3, e3, st3⟩ := getF X0 hx hZ hown (host := "") (Or.inl (ww hw 88 rfl)) Via.refl e0 f2 (g := (mkF m 1 #[.val (.ref r0)] [(.ref r0)])) rfl rfl (hb hby d14_1)
  have f5 := f4.ext O0.2
  obtain ⟨clq6, Arq6, qq6, Sq6, Nq6, Hq6, Gq6⟩ := id f5
  obtain ⟨fs, hr, hrun, hended, hW, hsame⟩ := X3.leave (v := some (.int (0 : Int32))) (fun h => by rw [Bd.returns] at h; cases h)
  refine ⟨_, _, pre0 _ ?_, hrun, hended, _, _, rfl, ?_, ⟨_, rfl⟩, hW, hsame.mono (by decide) (by decide)⟩
  · show Steps p.tables e below (s₁.setTop (mkF m 0 #[.val (.ref r0)] [])) _
    refine XS.aloadN X0.here hx rfl (hb hby d14_0) rfl rfl ?_
    refine st3 _ ?_
    show Steps p.tables e below (T3.setTop (mkF m 4 #[.val (.ref r0)] [(.ref r1)])) _
    refine X3.arraylength hx (by rw [e3]; exact Arq6.1) (State.isArrayOf_alike hZ.alike Arq6.2.1) (g := (mkF m 4 #[.val (.ref r0)] [(.ref r1)])) rfl rfl (hb hby d14_4) _ ?_
    rw [len_of Sq6 Nq6]
    show Steps p.tables e below (T3.setTop (mkF m 5 #[.val (.ref r0)] [(.int (0 : Int32))])) _
    exact retOut X3 hx (i := .ireturn) Bd.returns rfl (Or.inl ⟨rfl, Or.inl rfl, _, rfl⟩) (hb hby d14_5) hr
  · show Q14_1 Z r0 r1 c2 h0 n0 _ T3.heap _
    rw [e3]
    exact ⟨rfl, N0, rfl⟩
theorem pd___I : parseMethodDescriptor "()I" = some ⟨[], some .int⟩ := by decide +kernel
theorem pn_com_example_weaverbird_weaverbird_bind_BindingHasErrorsPinLaw : plainName cs8 = true := by first | (simp [plainName, overriddenIn]; done) | decide +kernel
def Q0_1 (Z : State) (x0 : Int32) (x1 : Int32) (x2 : Int32) (r3 : Addr) (r4 : Addr) (r5 : Addr) (c6 : ClassId) (h0 : Heap) (n0 : Nat) (v : Option Value) (h : Heap) (L : List Loc) : Prop := v = some (.int (1 : Int32)) ∧ Fr n0 L
set_option maxRecDepth 65536 in
set_option maxHeartbeats 40000000 in
theorem rm0_1 (l : Launch) (Z : State) (a0 : Array Value) (hw : ∀ d ∈ tables_1, d.before a0 Z = true) (ws : List Jvm.Cond) (x0 : Int32) (x1 : Int32) (x2 : Int32) (r3 : Addr) (r4 : Addr) (r5 : Addr) (c6 : ClassId) (h0 : Heap) (n0 : Nat) (O0 : Old Z n0 h0) (hc1 : (x0 &&& (3 : Int32)) = (0 : Int32)) (hc2 : ¬ ((x2 &&& (1 : Int32)) = (0 : Int32))) (f9 : Sta Z Z.heap "java/util/ArrayList" cs1 "[Ljava/lang/Object;" (.ref r3)) (f25 : Sta Z Z.heap cs2 "EMPTY_LIST" cs3 (.ref r4)) (f30 : Exa Z Z.heap r4 cs7) (f31 : Fld Z Z.heap r4 cs7 "elements" "[Ljava/lang/Object;" (.ref r5)) (f32 : Arv Z Z.heap r5 c6 (.object "java/lang/Object") (0 : Int32) [] .null) :
    MetFree l x (head1 (Jvm.Cond.code x code maxLocals ret :: ws) room_1) (fun a U => a = #[(.int x0), (.int x1), (.int x2)] ∧ Z.Warmed39 U.vm ∧ U.heap = h0) (fun _ _ _ _ _ => True) (fun _ U o U' => ∃ v L, o = .returned v ∧ Q0_1 Z x0 x1 x2 r3 r4 r5 c6 h0 n0 v U'.heap L ∧ ReturnedEndW U o U' L room_1.cells room_1.slots) := by
  refine MetFree.of_bodySF (plainFor_of_name pn_com_example_weaverbird_weaverbird_bind_BindingHasErrorsPinLaw) hisR ?_
  intro p e s m args below meth c s₁ Bd hml0 hP hK
  obtain ⟨rfl, hZ, hh⟩ := hP
  have hx := Bd.exec
  have hby := Bd.bytes
  have hml : c.maxLocals = 10 := hml0
  have hown : s.vm.findClass cs8 = some m.cls := findClass_of_methodNamed Bd.named
  have hnm := (name_of_methodNamed Bd.named Bd.method).1
  have X0 : Stand p l e room_1 s m #[(.int x0), (.int x1), (.int x2)] below meth c s₁ [] 0 0 := Stand.of_body Bd
  have e0 : s₁.heap = h0 := by rw [← hh, Bd.state]; rfl
  have N0 := Fr.nil n0
  have pre0 : ∀ t, Steps p.tables e below (s₁.setTop (mkF m 0 #[.val (.int x0), .val (.int x1), .val (.int x2), .unset, .unset, .unset, .unset, .unset, .unset, .unset] [])) t → Steps p.tables e below (s₁.setTop (entryFrame m #[(.int x0), (.int x1), (.int x2)] maxLocals)) t := fun t k => castTop (by first | (simp [entryFrame, mkF, argsToLocals, Value.category, maxLocals]; done) | rfl) k
  obtain ⟨T3, h3, X3, e3, E3, A3, D3, -, st3⟩ := newO X0 hx hZ hown (ww hw 7 rfl) (ww hw 8 rfl) (ww hw 9 rfl) e0 (g := (mkF m 32 #[.val (.int x0), .val (.int x1), .val (.int x2), .val (.int (0 : Int32)), .val (.int (1 : Int32)), .val .null, .unset, .unset, .unset, .unset] [])) rfl (hb hby at_32) (by decide) (by decide)
  obtain ⟨b3, g3⟩ : ∃ z, z = h0.size := ⟨_, rfl⟩
  rw [← g3] at A3 D3 st3
  have f4 : Fld Z h3 b3 "java/util/AbstractList" "modCount" "I" (.int (0 : Int32)) := D3 (Or.inl (ww hw 29 rfl)) (ty := .int) (by decide)
  have f5 : Fld Z h3 b3 "java/util/ArrayList" "elementData" "[Ljava/lang/Object;" .null := D3 (Or.inl (ww hw 32 rfl)) (ty := (.array (.object "java/lang/Object"))) (by decide)
  have f6 : Fld Z h3 b3 "java/util/ArrayList" "size" "I" (.int (0 : Int32)) := D3 (Or.inl (ww hw 66 rfl)) (ty := .int) (by decide)
  have zz7 : n0 ≤ h0.size := by rw [← O0.1]; exact O0.2.1
  have g8 := Nat.le_trans zz7 (Nat.le_of_eq g3.symm)
  have o10 := Old.ext O0 E3
  obtain ⟨_, _, ⟨T11, L11, k11, n11⟩, -, X11, ⟨Lc11, hQ11, l11, y11, z11⟩, st11⟩ := X3.specialBack hx (y := (⟨"java/util/ArrayList", "<init>", "()V"⟩ : MethodName)) rfl hown (mvT hZ (ww hw 10 rfl)) (mvT hZ (ww hw 11 rfl)) (mvT hZ (ww hw 12 rfl)) (by decide) (backOf (W := 1) (rm2_1 l Z a0 hw [] b3 r3 h3 n0 o10 A3 f4 g8 f5 f6 f9) hZ (ww hw 12 rfl) (ww hw 9 rfl) (by decide) (by decide)) (g := (mkF m 36 #[.val (.int x0), .val (.int x1), .val (.int x2), .val (.int (0 : Int32)), .val (.int (1 : Int32)), .val .null, .unset, .unset, .unset, .unset] [(.ref b3), (.ref b3)])) rfl (by rw [hml]; rfl) (Steps.refl _) (a := b3) (argsL := []) (rest := [(.ref b3)]) (lenOf pd___V rfl) rfl (by show 2 * 0 + _ ≤ _; exact Nat.le_of_eq rfl) (hb hby at_36) (fun _ _ => ⟨rfl, e3, (by decide : 1 + 0 ≤ _), (by decide : 3 + 0 ≤ _)⟩)
  dsimp only [Pt.U, Pt.locs, Pt.cells, Pt.slots] at X11 l11 y11 z11 st11 hQ11
  subst l11 y11 z11
  obtain ⟨rfl, N11q, K11, f12, f13, f14⟩ := hQ11
  have N11 := Fr.app N0 N11q
  obtain ⟨T15, h15, X15, e15, E15, A15, D15, -, st15⟩ := newO X11 hx hZ hown (ww hw 33 rfl) (ww hw 34 rfl) (ww hw 35 rfl) rfl (g := (mkF m 118 #[.val (.int x0), .val (.int x1), .val (.int x2), .val (.int (0 : Int32)), .val (.int (1 : Int32)), .val .null, .val (.ref b3), .unset, .unset, .unset] [])) rfl (hb hby at_118) (by decide) (by decide)
  obtain ⟨b15, g15⟩ : ∃ z, z = T11.heap.size := ⟨_, rfl⟩
  rw [← g15] at A15 D15 st15
  have f16 : Fld Z h15 b15 cs5 "value" "Ljava/lang/Object;" .null := D15 (Or.inr (ww hw 41 rfl)) (ty := (.object "java/lang/Object")) (by decide)
  have f17 : Fld Z h15 b15 cs5 "errors" "Ljava/util/List;" .null := D15 (Or.inr (ww hw 72 rfl)) (ty := (.object "java/util/List")) (by decide)
  have o19 := Old.keep o10 K11 (allS g8 all0)
  have zz18 : n0 ≤ T11.heap.size := by rw [← o19.1]; exact o19.2.1
  have g20 := Nat.le_trans zz18 (Nat.le_of_eq g15.symm)
  have f21 := ((A3.keep K11).ext E15)
  have f22 := (f14.ext E15)
  have zs23 := K11.1
  have n24 := Nat.ne_of_lt (Nat.lt_of_lt_of_le (Nat.lt_of_lt_of_le A3.lt zs23) (Nat.le_of_eq g15.symm))
  have o26 := Old.ext o19 E15
  obtain ⟨_, _, ⟨T27, L27, k27, n27⟩, -, X27, ⟨Lc27, hQ27, l27, y27, z27⟩, st27⟩ := X15.specialBack hx (y := (⟨cs5, "<init>", cs6⟩ : MethodName)) rfl hown (mvT hZ (ww hw 36 rfl)) (mvT hZ (ww hw 37 rfl)) (mvT hZ (ww hw 38 rfl)) (by decide) (backOf (W := 1) (rm6_1 l Z a0 hw [] b15 b3 r4 h15 n0 o26 A15 f16 g20 f21 f22 n24 f25 f17) hZ (ww hw 38 rfl) (ww hw 35 rfl) (by decide) (by decide)) (g := (mkF m 126 #[.val (.int x0), .val (.int x1), .val (.int x2), .val (.int (0 : Int32)), .val (.int (1 : Int32)), .val .null, .val (.ref b3), .unset, .unset, .unset] [(.ref b3), .null, (.ref b15), (.ref b15)])) rfl (by rw [hml]; rfl) (Steps.refl _) (a := b15) (argsL := [.null, (.ref b3)]) (rest := [(.ref b15)]) (lenOf pd__Ljava_lang_Object_Ljava_util_List__V rfl) rfl (by show 2 * 0 + _ ≤ _; exact Nat.le_of_eq rfl) (hb hby at_126) (fun _ _ => ⟨rfl, e15, (by decide : 2 + 0 ≤ _), (by decide : 5 + 0 ≤ _)⟩)
  dsimp only [Pt.U, Pt.locs, Pt.cells, Pt.slots] at X27 l27 y27 z27 st27 hQ27
  subst l27 y27 z27
  obtain ⟨rfl, N27q, K27, f28, f29⟩ := hQ27
  have N27 := Fr.app N11 N27q
  have o33 := Old.keep o26 K27 (allS g20 all0)
  have f35 := (A15.keep K27)
  obtain ⟨cqq36, kqq36, qq36a, qq36b, qq36c⟩ := isOf hZ rfl f35
  obtain ⟨_, _, ⟨T34, L34, k34, n34⟩, -, X34, ⟨Lc34, hQ34, l34, y34, z34⟩, st34⟩ := X27.virtualBack hx (y := (⟨cs5, "hasErrors", "()Z"⟩ : MethodName)) (z := (⟨cs5, "hasErrors", "()Z"⟩ : MethodName)) hown (mvT hZ (ww hw 73 rfl)) (mvT hZ (ww hw 74 rfl)) (notFace_of_selects (args := #[]) (mvT hZ (ww hw 76 rfl))) (mvT hZ (ww hw 76 rfl)) (mvT hZ (ww hw 75 rfl)) (by decide) (backOf (W := 0) (rm11_1 l Z a0 hw [] b15 r4 r5 c6 T27.heap n0 o33 f29 f30 f31 f32) hZ (ww hw 77 rfl) (ww hw 35 rfl) (by decide) (by decide)) qq36a qq36c (g := (mkF m 133 #[.val (.int x0), .val (.int x1), .val (.int x2), .val (.int (0 : Int32)), .val (.int (1 : Int32)), .val .null, .val (.ref b3), .val (.ref b15), .unset, .unset] [(.ref b15)])) rfl (by rw [hml]; rfl) (Steps.refl _) (argsL := []) (rest := []) (lenOf pd___Z rfl) rfl (by show 2 * 0 + _ ≤ _; exact Nat.le_of_eq rfl) (hb hby at_133) (fun _ _ => ⟨rfl, rfl, (by decide : 2 + 0 ≤ _), (by decide : 5 + 0 ≤ _)⟩)
  dsimp only [Pt.U, Pt.locs, Pt.cells, Pt.slots] at X34 l34 y34 z34 st34 hQ34
  subst l34 y34 z34
  obtain ⟨rfl, N34q, E34⟩ := hQ34
  have N34 := Fr.app N27 N34q
  obtain ⟨cqq38, kqq38, qq38a, qq38b, qq38c⟩ := isOf hZ E34 f35
  obtain ⟨_, _, ⟨T37, L37, k37, n37⟩, -, X37, ⟨Lc37, hQ37, l37, y37, z37⟩, st37⟩ := X34.virtualBack hx (y := (⟨cs5, "errors", "()Ljava/util/List;"⟩ : MethodName)) (z := (⟨cs5, "errors", "()Ljava/util/List;"⟩ : MethodName)) hown (mvT hZ (ww hw 90 rfl)) (mvT hZ (ww hw 91 rfl)) (notFace_of_selects (args := #[]) (mvT hZ (ww hw 93 rfl))) (mvT hZ (ww hw 93 rfl)) (mvT hZ (ww hw 92 rfl)) (by decide) (backOf (W := 0) (rm13_1 l Z a0 hw [] b15 r4 T27.heap n0 o33 f29) hZ (ww hw 94 rfl) (ww hw 35 rfl) (by decide) (by decide)) qq38a qq38c (g := (mkF m 140 #[.val (.int x0), .val (.int x1), .val (.int x2), .val (.int (0 : Int32)), .val (.int (1 : Int32)), .val .null, .val (.ref b3), .val (.ref b15), .val (.int (0 : Int32)), .unset] [(.ref b15)])) rfl (by rw [hml]; rfl) (Steps.refl _) (argsL := []) (rest := []) (lenOf pd___Ljava_util_List_ rfl) rfl (by show 2 * 0 + _ ≤ _; exact Nat.le_of_eq rfl) (hb hby at_140) (fun _ _ => ⟨rfl, E34, (by decide : 2 + 0 ≤ _), (by decide : 5 + 0 ≤ _)⟩)
  dsimp only [Pt.U, Pt.locs, Pt.cells, Pt.slots] at X37 l37 y37 z37 st37 hQ37
  subst l37 y37 z37
  obtain ⟨rfl, N37q, E37⟩ := hQ37
  have N37 := Fr.app N34 N37q
  have f40 := f30.ext o33.2
  obtain ⟨cqq41, kqq41, qq41a, qq41b, qq41c⟩ := isOf hZ E37 f40
  obtain ⟨_, _, ⟨T39, L39, k39, n39⟩, -, X39, ⟨Lc39, hQ39, l39, y39, z39⟩, st39⟩ := X37.interfaceBack hx (xi := (⟨"java/util/List", "size", "()I"⟩ : MethodName)) (y := (⟨cs7, "size", "()I"⟩ : MethodName)) hown (mvT hZ (ww hw 95 rfl)) (mvT hZ (ww hw 96 rfl)) (mvT hZ (ww hw 97 rfl)) (mvT hZ (ww hw 98 rfl)) (mvT hZ (ww hw 99 rfl)) (mvT hZ (ww hw 100 rfl)) (mvT hZ (ww hw 101 rfl)) (mvT hZ (ww hw 85 rfl)) (by decide) (backOf (W := 0) (rm14_1 l Z a0 hw [] r4 r5 c6 T27.heap n0 o33 f31 f32) hZ (ww hw 102 rfl) (ww hw 86 rfl) (by decide) (by decide)) qq41a qq41b qq41c (g := (mkF m 143 #[.val (.int x0), .val (.int x1), .val (.int x2), .val (.int (0 : Int32)), .val (.int (1 : Int32)), .val .null, .val (.ref b3), .val (.ref b15), .val (.int (0 : Int32)), .unset] [(.ref r4)])) rfl (by rw [hml]; rfl) (Steps.refl _) (argsL := []) (rest := []) (lenOf pd___I rfl) rfl (by show 2 * 0 + _ ≤ _; exact Nat.le_of_eq rfl) (hb hby at_143) (fun _ _ => ⟨rfl, E37, (by decide : 2 + 0 ≤ _), (by decide : 5 + 0 ≤ _)⟩)
  dsimp only [Pt.U, Pt.locs, Pt.cells, Pt.slots] at X39 l39 y39 z39 st39 hQ39
  subst l39 y39 z39
  obtain ⟨rfl, N39q, E39⟩ := hQ39
  have N39 := Fr.app N37 N39q
  obtain ⟨fs, hr, hrun, hended, hW, hsame⟩ := X39.leave (v := some (.int (1 : Int32))) (fun h => by rw [Bd.returns] at h; cases h)
  refine ⟨_, _, pre0 _ ?_, hrun, hended, _, _, rfl, ?_, ReturnedEndW.of_narrow ⟨_, rfl⟩ hW (hsame.mono (by decide) (by decide))⟩
  · show Steps p.tables e below (s₁.setTop (mkF m 0 #[.val (.int x0), .val (.int x1), .val (.int x2), .unset, .unset, .unset, .unset, .unset, .unset, .unset] [])) _
    refine XS.iloadN X0.here hx rfl (hb hby at_0) rfl ?_
    refine XS.iconst X0.here hx rfl (hb hby at_1) ?_
    refine XS.iand X0.here hx rfl (hb hby at_2) rfl ?_
    show Steps p.tables e below (s₁.setTop (mkF m 3 #[.val (.int x0), .val (.int x1), .val (.int x2), .unset, .unset, .unset, .unset, .unset, .unset, .unset] [(.int (x0 &&& (3 : Int32)))])) _
    rw [hc1]
    show Steps p.tables e below (s₁.setTop (mkF m 3 #[.val (.int x0), .val (.int x1), .val (.int x2), .unset, .unset, .unset, .unset, .unset, .unset, .unset] [(.int (0 : Int32))])) _
    refine XS.istoreN X0.here hx rfl (hb hby at_3) rfl (l' := #[.val (.int x0), .val (.int x1), .val (.int x2), .val (.int (0 : Int32)), .unset, .unset, .unset, .unset, .unset, .unset]) rfl ?_
    refine XS.iloadN X0.here hx rfl (hb hby at_4) rfl ?_
    refine XS.iconst X0.here hx rfl (hb hby at_5) ?_
    refine XS.iand X0.here hx rfl (hb hby at_6) rfl ?_
    show Steps p.tables e below (s₁.setTop (mkF m 7 #[.val (.int x0), .val (.int x1), .val (.int x2), .val (.int (0 : Int32)), .unset, .unset, .unset, .unset, .unset, .unset] [(.int (x2 &&& (1 : Int32)))])) _
    refine XS.ifNo X0.here hx rfl (hb hby at_7) rfl ((if0 _ _).trans (feq hc2).1) ?_
    refine XS.iconst X0.here hx rfl (hb hby at_10) ?_
    refine XS.goto X0.here hx rfl (pc0 := 11) (pc' := 15) rfl (hb hby at_11) (by decide) (by decide) ?_
    show Steps p.tables e below (s₁.setTop (mkF m 15 #[.val (.int x0), .val (.int x1), .val (.int x2), .val (.int (0 : Int32)), .unset, .unset, .unset, .unset, .unset, .unset] [(.int (1 : Int32))])) _
    refine XS.istore X0.here hx rfl (hb hby at_15) rfl (l' := #[.val (.int x0), .val (.int x1), .val (.int x2), .val (.int (0 : Int32)), .val (.int (1 : Int32)), .unset, .unset, .unset, .unset, .unset]) rfl ?_
    refine XS.iload X0.here hx rfl (hb hby at_17) rfl ?_
    refine XS.ifNo X0.here hx rfl (hb hby at_19) rfl ((if0 _ _).trans (feq (by decide : ¬ ((1 : Int32) = (0 : Int32)))).1) ?_
    refine XS.aconstNull X0.here hx rfl (hb hby at_22) ?_
    show Steps p.tables e below (s₁.setTop (mkF m 23 #[.val (.int x0), .val (.int x1), .val (.int x2), .val (.int (0 : Int32)), .val (.int (1 : Int32)), .unset, .unset, .unset, .unset, .unset] [.null])) _
    refine XS.goto X0.here hx rfl (pc0 := 23) (pc' := 30) rfl (hb hby at_23) (by decide) (by decide) ?_
    show Steps p.tables e below (s₁.setTop (mkF m 30 #[.val (.int x0), .val (.int x1), .val (.int x2), .val (.int (0 : Int32)), .val (.int (1 : Int32)), .unset, .unset, .unset, .unset, .unset] [.null])) _
    refine XS.astore X0.here hx rfl (hb hby at_30) rfl rfl (l' := #[.val (.int x0), .val (.int x1), .val (.int x2), .val (.int (0 : Int32)), .val (.int (1 : Int32)), .val .null, .unset, .unset, .unset, .unset]) rfl ?_
    refine st3 _ ?_
    show Steps p.tables e below (T3.setTop (mkF m 35 #[.val (.int x0), .val (.int x1), .val (.int x2), .val (.int (0 : Int32)), .val (.int (1 : Int32)), .val .null, .unset, .unset, .unset, .unset] [(.ref b3)])) _
    refine XS.dup X3.here hx rfl (hb hby at_35) rfl rfl ?_
    refine st11.trans ?_
    show Steps p.tables e below (T11.setTop (mkF m 39 #[.val (.int x0), .val (.int x1), .val (.int x2), .val (.int (0 : Int32)), .val (.int (1 : Int32)), .val .null, .unset, .unset, .unset, .unset] [(.ref b3)])) _
    refine XS.astore X11.here hx rfl (hb hby at_39) rfl rfl (l' := #[.val (.int x0), .val (.int x1), .val (.int x2), .val (.int (0 : Int32)), .val (.int (1 : Int32)), .val .null, .val (.ref b3), .unset, .unset, .unset]) rfl ?_
    refine XS.iloadN X11.here hx rfl (hb hby at_41) rfl ?_
    refine XS.iconst X11.here hx rfl (hb hby at_42) ?_
    refine XS.icmpYes X11.here hx rfl (pc0 := 43) (pc' := 67) rfl (hb hby at_43) rfl (tlt (by decide : (0 : Int32) < (1 : Int32))).1 (by decide) (by decide) ?_
    show Steps p.tables e below (T11.setTop (mkF m 67 #[.val (.int x0), .val (.int x1), .val (.int x2), .val (.int (0 : Int32)), .val (.int (1 : Int32)), .val .null, .val (.ref b3), .unset, .unset, .unset] [])) _
    refine XS.iloadN X11.here hx rfl (hb hby at_67) rfl ?_
    refine XS.iconst X11.here hx rfl (hb hby at_68) ?_
    refine XS.icmpYes X11.here hx rfl (pc0 := 69) (pc' := 92) rfl (hb hby at_69) rfl (tlt (by decide : (0 : Int32) < (2 : Int32))).1 (by decide) (by decide) ?_
    show Steps p.tables e below (T11.setTop (mkF m 92 #[.val (.int x0), .val (.int x1), .val (.int x2), .val (.int (0 : Int32)), .val (.int (1 : Int32)), .val .null, .val (.ref b3), .unset, .unset, .unset] [])) _
    refine XS.iloadN X11.here hx rfl (hb hby at_92) rfl ?_
    refine XS.iconst X11.here hx rfl (hb hby at_93) ?_
    refine XS.icmpYes X11.here hx rfl (pc0 := 94) (pc' := 118) rfl (hb hby at_94) rfl (tlt (by decide : (0 : Int32) < (3 : Int32))).1 (by decide) (by decide) ?_
    show Steps p.tables e below (T11.setTop (mkF m 118 #[.val (.int x0), .val (.int x1), .val (.int x2), .val (.int (0 : Int32)), .val (.int (1 : Int32)), .val .null, .val (.ref b3), .unset, .unset, .unset] [])) _
    refine st15 _ ?_
    show Steps p.tables e below (T15.setTop (mkF m 121 #[.val (.int x0), .val (.int x1), .val (.int x2), .val (.int (0 : Int32)), .val (.int (1 : Int32)), .val .null, .val (.ref b3), .unset, .unset, .unset] [(.ref b15)])) _
    refine XS.dup X15.here hx rfl (hb hby at_121) rfl rfl ?_
    refine XS.aload X15.here hx rfl (hb hby at_122) rfl rfl ?_
    refine XS.aload X15.here hx rfl (hb hby at_124) rfl rfl ?_
    refine st27.trans ?_
    show Steps p.tables e below (T27.setTop (mkF m 129 #[.val (.int x0), .val (.int x1), .val (.int x2), .val (.int (0 : Int32)), .val (.int (1 : Int32)), .val .null, .val (.ref b3), .unset, .unset, .unset] [(.ref b15)])) _
    refine XS.astore X27.here hx rfl (hb hby at_129) rfl rfl (l' := #[.val (.int x0), .val (.int x1), .val (.int x2), .val (.int (0 : Int32)), .val (.int (1 : Int32)), .val .null, .val (.ref b3), .val (.ref b15), .unset, .unset]) rfl ?_
    refine XS.aload X27.here hx rfl (hb hby at_131) rfl rfl ?_
    refine st34.trans ?_
    show Steps p.tables e below (T34.setTop (mkF m 136 #[.val (.int x0), .val (.int x1), .val (.int x2), .val (.int (0 : Int32)), .val (.int (1 : Int32)), .val .null, .val (.ref b3), .val (.ref b15), .unset, .unset] [(.int (0 : Int32))])) _
    refine XS.istore X34.here hx rfl (hb hby at_136) rfl (l' := #[.val (.int x0), .val (.int x1), .val (.int x2), .val (.int (0 : Int32)), .val (.int (1 : Int32)), .val .null, .val (.ref b3), .val (.ref b15), .val (.int (0 : Int32)), .unset]) rfl ?_
    refine XS.aload X34.here hx rfl (hb hby at_138) rfl rfl ?_
    refine st37.trans ?_
    show Steps p.tables e below (T37.setTop (mkF m 143 #[.val (.int x0), .val (.int x1), .val (.int x2), .val (.int (0 : Int32)), .val (.int (1 : Int32)), .val .null, .val (.ref b3), .val (.ref b15), .val (.int (0 : Int32)), .unset] [(.ref r4)])) _
    refine st39.trans ?_
    show Steps p.tables e below (T39.setTop (mkF m 148 #[.val (.int x0), .val (.int x1), .val (.int x2), .val (.int (0 : Int32)), .val (.int (1 : Int32)), .val .null, .val (.ref b3), .val (.ref b15), .val (.int (0 : Int32)), .unset] [(.int (0 : Int32))])) _
    refine XS.istore X39.here hx rfl (hb hby at_148) rfl (l' := #[.val (.int x0), .val (.int x1), .val (.int x2), .val (.int (0 : Int32)), .val (.int (1 : Int32)), .val .null, .val (.ref b3), .val (.ref b15), .val (.int (0 : Int32)), .val (.int (0 : Int32))]) rfl ?_
    refine XS.iload X39.here hx rfl (hb hby at_150) rfl ?_
    refine XS.iloadN X39.here hx rfl (hb hby at_152) rfl ?_
    refine XS.ifYes X39.here hx rfl (pc0 := 153) (pc' := 160) rfl (hb hby at_153) rfl ((if0 _ _).trans (teq (rfl : (0 : Int32) = (0 : Int32))).1) (by decide) (by decide) ?_
    show Steps p.tables e below (T39.setTop (mkF m 160 #[.val (.int x0), .val (.int x1), .val (.int x2), .val (.int (0 : Int32)), .val (.int (1 : Int32)), .val .null, .val (.ref b3), .val (.ref b15), .val (.int (0 : Int32)), .val (.int (0 : Int32))] [(.int (0 : Int32))])) _
    refine XS.iconst X39.here hx rfl (hb hby at_160) ?_
    refine XS.icmpNo X39.here hx rfl (hb hby at_161) rfl (teq (rfl : (0 : Int32) = (0 : Int32))).2 ?_
    refine XS.iload X39.here hx rfl (hb hby at_164) rfl ?_
    refine XS.iloadN X39.here hx rfl (hb hby at_166) rfl ?_
    show Steps p.tables e below (T39.setTop (mkF m 167 #[.val (.int x0), .val (.int x1), .val (.int x2), .val (.int (0 : Int32)), .val (.int (1 : Int32)), .val .null, .val (.ref b3), .val (.ref b15), .val (.int (0 : Int32)), .val (.int (0 : Int32))] [(.int (0 : Int32)), (.int (0 : Int32))])) _
    refine XS.icmpNo X39.here hx rfl (hb hby at_167) rfl (teq (rfl : (0 : Int32) = (0 : Int32))).2 ?_
    refine XS.iload X39.here hx rfl (hb hby at_170) rfl ?_
    refine XS.iload X39.here hx rfl (hb hby at_172) rfl ?_
    refine XS.ifYes X39.here hx rfl (pc0 := 174) (pc' := 181) rfl (hb hby at_174) rfl ((if0 _ _).trans (teq (rfl : (0 : Int32) = (0 : Int32))).1) (by decide) (by decide) ?_
    show Steps p.tables e below (T39.setTop (mkF m 181 #[.val (.int x0), .val (.int x1), .val (.int x2), .val (.int (0 : Int32)), .val (.int (1 : Int32)), .val .null, .val (.ref b3), .val (.ref b15), .val (.int (0 : Int32)), .val (.int (0 : Int32))] [(.int (0 : Int32))])) _
    refine XS.iconst X39.here hx rfl (hb hby at_181) ?_
    refine XS.icmpNo X39.here hx rfl (hb hby at_182) rfl (teq (rfl : (0 : Int32) = (0 : Int32))).2 ?_
    refine XS.iconst X39.here hx rfl (hb hby at_185) ?_
    refine XS.goto X39.here hx rfl (pc0 := 186) (pc' := 190) rfl (hb hby at_186) (by decide) (by decide) ?_
    show Steps p.tables e below (T39.setTop (mkF m 190 #[.val (.int x0), .val (.int x1), .val (.int x2), .val (.int (0 : Int32)), .val (.int (1 : Int32)), .val .null, .val (.ref b3), .val (.ref b15), .val (.int (0 : Int32)), .val (.int (0 : Int32))] [(.int (1 : Int32))])) _
    exact retN X39 hx (t := .boolean) Bd.returns (by simp) (hb hby at_190) hr
  · show Q0_1 Z x0 x1 x2 r3 r4 r5 c6 h0 n0 _ T39.heap _
    rw [E39]
    exact ⟨rfl, N39⟩
theorem d1_0 : decode jdk_33_method_22_code 0 = .ok (.iload_n 0, 1) := by decide +kernel
theorem d1_1 : decode jdk_33_method_22_code 1 = .ok (.bipush (-128), 2) := by decide +kernel
theorem d1_3 : decode jdk_33_method_22_code 3 = .ok (.if_icmp .lt 20, 3) := by decide +kernel
theorem d1_6 : decode jdk_33_method_22_code 6 = .ok (.iload_n 0, 1) := by decide +kernel
theorem d1_7 : decode jdk_33_method_22_code 7 = .ok (.getstatic 191, 3) := by decide +kernel
theorem d1_10 : decode jdk_33_method_22_code 10 = .ok (.if_icmp .gt 13, 3) := by decide +kernel
theorem d1_13 : decode jdk_33_method_22_code 13 = .ok (.getstatic 195, 3) := by decide +kernel
theorem d1_16 : decode jdk_33_method_22_code 16 = .ok (.iload_n 0, 1) := by decide +kernel
theorem d1_17 : decode jdk_33_method_22_code 17 = .ok (.sipush 128, 3) := by decide +kernel
theorem d1_20 : decode jdk_33_method_22_code 20 = .ok (.iadd, 1) := by decide +kernel
theorem d1_21 : decode jdk_33_method_22_code 21 = .ok (.aaload, 1) := by decide +kernel
theorem d1_22 : decode jdk_33_method_22_code 22 = .ok (.areturn, 1) := by decide +kernel
theorem pn_java_lang_Integer : plainName "java/lang/Integer" = true := by first | (simp [plainName, overriddenIn]; done) | decide +kernel
def Q1_1 (Z : State) (x0 : Int32) (r1 : Addr) (d2 : Cell) (r3 : Addr) (h0 : Heap) (n0 : Nat) (v : Option Value) (h : Heap) (L : List Loc) : Prop := v = some (.ref r3) ∧ Fr n0 L ∧ h = h0
set_option maxRecDepth 65536 in
set_option maxHeartbeats 40000000 in
theorem rm1_1 (l : Launch) (Z : State) (a0 : Array Value) (hw : ∀ d ∈ tables_1, d.before a0 Z = true) (ws : List Jvm.Cond) (x0 : Int32) (r1 : Addr) (d2 : Cell) (r3 : Addr) (h0 : Heap) (n0 : Nat) (O0 : Old Z n0 h0) (hc1 : ¬ (x0 < (-128 : Int32))) (f2 : Sta Z Z.heap cs9 "high" "I" (.int (127 : Int32))) (hc5 : ¬ ((127 : Int32) < x0)) (f6 : Sta Z Z.heap cs9 "cache" "[Ljava/lang/Integer;" (.ref r1)) (f9 : Arr Z Z.heap r1 d2 (.object "java/lang/Integer")) (hc11 : d2.slots[((x0 + (128 : Int32))).toNatClampNeg]? = some (.ref r3)) (hc12 : ¬ ((x0 + (128 : Int32)) < 0 ∨ d2.slots.size ≤ ((x0 + (128 : Int32))).toNatClampNeg)) :
    MetFree l (⟨"java/lang/Integer", "valueOf", "(I)Ljava/lang/Integer;"⟩ : MethodName) (head1 (Jvm.Cond.code (⟨"java/lang/Integer", "valueOf", "(I)Ljava/lang/Integer;"⟩ : MethodName) jdk_33_method_22_code 1 (some (.object "java/lang/Integer")) :: ws) ({ frames := 4, cells := 1, slots := 1, locals := 60 } : Room)) (fun a U => a = #[(.int x0)] ∧ Z.Warmed39 U.vm ∧ U.heap = h0) (fun _ _ _ _ _ => True) (fun _ U o U' => ∃ v L, o = .returned v ∧ Q1_1 Z x0 r1 d2 r3 h0 n0 v U'.heap L ∧ FrameEnd U o U' L ({ frames := 4, cells := 1, slots := 1, locals := 60 } : Room).cells ({ frames := 4, cells := 1, slots := 1, locals := 60 } : Room).slots) := by
  refine MetFree.of_bodySF (plainFor_of_name pn_java_lang_Integer) hisR ?_
  intro p e s m args below meth c s₁ Bd hml0 hP hK
  obtain ⟨rfl, hZ, hh⟩ := hP
  have hx := Bd.exec
  have hby := Bd.bytes
  have hml : c.maxLocals = 1 := hml0
  have hown : s.vm.findClass "java/lang/Integer" = some m.cls := findClass_of_methodNamed Bd.named
  have hnm := (name_of_methodNamed Bd.named Bd.method).1
  have X0 : Stand p l e ({ frames := 4, cells := 1, slots := 1, locals := 60 } : Room) s m #[(.int x0)] below meth c s₁ [] 0 0 := Stand.of_body Bd
  have e0 : s₁.heap = h0 := by rw [← hh, Bd.state]; rfl
  have N0 := Fr.nil n0
  have pre0 : ∀ t, Steps p.tables e below (s₁.setTop (mkF m 0 #[.val (.int x0)] [])) t → Steps p.tables e below (s₁.setTop (entryFrame m #[(.int x0)] 1)) t := fun t k => castTop (by first | (simp [entryFrame, mkF, argsToLocals, Value.category]; done) | rfl) k
  have f3 := f2.ext O0.2
  obtain ⟨T4, X4, e4, st4⟩ := getS2 X0 hx hZ hown (host := "") (Or.inl (ww hw 4 rfl)) Via.refl e0 f3 (g := (mkF m 7 #[.val (.int x0)] [(.int x0)])) rfl (hb hby d1_7)
  have f7 := f6.ext O0.2
  obtain ⟨T8, X8, e8, st8⟩ := getS2 X4 hx hZ hown (host := "") (Or.inl (ww hw 6 rfl)) Via.refl e4 f7 (g := (mkF m 13 #[.val (.int x0)] [])) rfl (hb hby d1_13)
  have f10 := f9.ext O0.2
  obtain ⟨fs, hr, hrun, hended, hW, hsame⟩ := X8.leave (v := some (.ref r3)) (fun h => by rw [Bd.returns] at h; cases h)
  refine ⟨_, _, pre0 _ ?_, hrun, hended, _, _, rfl, ?_, ⟨_, rfl⟩, hW, hsame.mono (by decide) (by decide)⟩
  · show Steps p.tables e below (s₁.setTop (mkF m 0 #[.val (.int x0)] [])) _
    refine XS.iloadN X0.here hx rfl (hb hby d1_0) rfl ?_
    refine XS.bipush X0.here hx rfl (hb hby d1_1) ?_
    refine XS.icmpNo X0.here hx rfl (hb hby d1_3) rfl (flt hc1).1 ?_
    refine XS.iloadN X0.here hx rfl (hb hby d1_6) rfl ?_
    show Steps p.tables e below (s₁.setTop (mkF m 7 #[.val (.int x0)] [(.int x0)])) _
    refine st4 _ ?_
    show Steps p.tables e below (T4.setTop (mkF m 10 #[.val (.int x0)] [(.int (127 : Int32)), (.int x0)])) _
    refine XS.icmpNo X4.here hx rfl (hb hby d1_10) rfl (flt hc5).2.2.1 ?_
    refine st8 _ ?_
    show Steps p.tables e below (T8.setTop (mkF m 16 #[.val (.int x0)] [(.ref r1)])) _
    refine XS.iloadN X8.here hx rfl (hb hby d1_16) rfl ?_
    refine XS.sipush X8.here hx rfl (hb hby d1_17) ?_
    refine XS.iadd X8.here hx rfl (hb hby d1_20) rfl ?_
    refine X8.aaload hx (j := (x0 + (128 : Int32))) (v := (.ref r3)) (by rw [e8]; exact f10.1) (State.isArrayOf_alike hZ.alike f10.2.1) rfl f10.2.2 hc12 hc11 (g := (mkF m 21 #[.val (.int x0)] [(.int (x0 + (128 : Int32))), (.ref r1)])) rfl rfl (hb hby d1_21) _ ?_
    show Steps p.tables e below (T8.setTop (mkF m 22 #[.val (.int x0)] [(.ref r3)])) _
    exact retOut X8 hx (i := .areturn) Bd.returns rfl (Or.inr (Or.inr (Or.inr (Or.inr ⟨rfl, rfl, rfl⟩)))) (hb hby d1_22) hr
  · show Q1_1 Z x0 r1 d2 r3 h0 n0 _ T8.heap _
    rw [e8]
    exact ⟨rfl, N0, rfl⟩
theorem d1_23 : decode jdk_33_method_22_code 23 = .ok (.new 1, 3) := by decide +kernel
theorem d1_26 : decode jdk_33_method_22_code 26 = .ok (.dup, 1) := by decide +kernel
theorem d1_27 : decode jdk_33_method_22_code 27 = .ok (.iload_n 0, 1) := by decide +kernel
theorem d1_28 : decode jdk_33_method_22_code 28 = .ok (.invokespecial 199, 3) := by decide +kernel
theorem d35_0 : decode jdk_33_method_23_code 0 = .ok (.aload_n 0, 1) := by decide +kernel
theorem d35_1 : decode jdk_33_method_23_code 1 = .ok (.invokespecial 202, 3) := by decide +kernel
theorem d36_0 : decode jdk_18_method_1_code 0 = .ok (.aload_n 0, 1) := by decide +kernel
theorem d36_1 : decode jdk_18_method_1_code 1 = .ok (.invokespecial 1, 3) := by decide +kernel
theorem d36_4 : decode jdk_18_method_1_code 4 = .ok (.return_, 1) := by decide +kernel
theorem pn_java_lang_Number : plainName "java/lang/Number" = true := by first | (simp [plainName, overriddenIn]; done) | decide +kernel
def Q36_1 (Z : State) (r0 : Addr) (h0 : Heap) (n0 : Nat) (v : Option Value) (h : Heap) (L : List Loc) : Prop := v = none ∧ Fr n0 L ∧ h = h0
set_option maxRecDepth 65536 in
set_option maxHeartbeats 40000000 in
theorem rm36_1 (l : Launch) (Z : State) (a0 : Array Value) (hw : ∀ d ∈ tables_1, d.before a0 Z = true) (ws : List Jvm.Cond) (r0 : Addr) (h0 : Heap) (n0 : Nat) (O0 : Old Z n0 h0) :
    MetFree l (⟨"java/lang/Number", "<init>", "()V"⟩ : MethodName) (head1 (Jvm.Cond.code (⟨"java/lang/Number", "<init>", "()V"⟩ : MethodName) jdk_18_method_1_code 1 none :: ws) ({ frames := 1, cells := 0, slots := 0, locals := 12 } : Room)) (fun a U => a = #[(.ref r0)] ∧ Z.Warmed39 U.vm ∧ U.heap = h0) (fun _ _ _ _ _ => True) (fun _ U o U' => ∃ v L, o = .returned v ∧ Q36_1 Z r0 h0 n0 v U'.heap L ∧ FrameEnd U o U' L ({ frames := 1, cells := 0, slots := 0, locals := 12 } : Room).cells ({ frames := 1, cells := 0, slots := 0, locals := 12 } : Room).slots) := by
  refine MetFree.of_bodySF (plainFor_of_name pn_java_lang_Number) hisR ?_
  intro p e s m args below meth c s₁ Bd hml0 hP hK
  obtain ⟨rfl, hZ, hh⟩ := hP
  have hx := Bd.exec
  have hby := Bd.bytes
  have hml : c.maxLocals = 1 := hml0
  have hown : s.vm.findClass "java/lang/Number" = some m.cls := findClass_of_methodNamed Bd.named
  have hnm := (name_of_methodNamed Bd.named Bd.method).1
  have X0 : Stand p l e ({ frames := 1, cells := 0, slots := 0, locals := 12 } : Room) s m #[(.ref r0)] below meth c s₁ [] 0 0 := Stand.of_body Bd
  have e0 : s₁.heap = h0 := by rw [← hh, Bd.state]; rfl
  have N0 := Fr.nil n0
  have pre0 : ∀ t, Steps p.tables e below (s₁.setTop (mkF m 0 #[.val (.ref r0)] [])) t → Steps p.tables e below (s₁.setTop (entryFrame m #[(.ref r0)] 1)) t := fun t k => castTop (by first | (simp [entryFrame, mkF, argsToLocals, Value.category]; done) | rfl) k
  obtain ⟨T1, X1, e1, st1⟩ := initO X0 hx hZ hown (ww hw 267 rfl) (ww hw 26 rfl) (ww hw 27 rfl) e0 (g := (mkF m 1 #[.val (.ref r0)] [(.ref r0)])) rfl (by rw [hml]; rfl) rfl (hb hby d36_1) (by decide) (W := 0) (by show 2 * 0 + _ ≤ _; exact Nat.le_of_eq rfl) (by decide)
  obtain ⟨fs, hr, hrun, hended, hW, hsame⟩ := X1.leave (v := none) (fun _ => rfl)
  refine ⟨_, _, pre0 _ ?_, hrun, hended, _, _, rfl, ?_, ⟨_, rfl⟩, hW, hsame.mono (by decide) (by decide)⟩
  · show Steps p.tables e below (s₁.setTop (mkF m 0 #[.val (.ref r0)] [])) _
    refine XS.aloadN X0.here hx rfl (hb hby d36_0) rfl rfl ?_
    refine st1 _ ?_
    show Steps p.tables e below (T1.setTop (mkF m 4 #[.val (.ref r0)] [])) _
    exact X1.returnOut hx Bd.returns (hb hby d36_4) hr
  · show Q36_1 Z r0 h0 n0 _ T1.heap _
    rw [e1]
    exact ⟨rfl, N0, rfl⟩
theorem d35_4 : decode jdk_33_method_23_code 4 = .ok (.aload_n 0, 1) := by decide +kernel
theorem d35_5 : decode jdk_33_method_23_code 5 = .ok (.iload_n 1, 1) := by decide +kernel
theorem d35_6 : decode jdk_33_method_23_code 6 = .ok (.putfield 205, 3) := by decide +kernel
theorem d35_9 : decode jdk_33_method_23_code 9 = .ok (.return_, 1) := by decide +kernel
def Q35_1 (Z : State) (r0 : Addr) (x1 : Int32) (h0 : Heap) (n0 : Nat) (v : Option Value) (h : Heap) (L : List Loc) : Prop := v = none ∧ Fr n0 L ∧ Keep h0 h [r0] ∧ Fld Z h r0 "java/lang/Integer" "value" "I" (.int x1)
set_option maxRecDepth 65536 in
set_option maxHeartbeats 40000000 in
theorem rm35_1 (l : Launch) (Z : State) (a0 : Array Value) (hw : ∀ d ∈ tables_1, d.before a0 Z = true) (ws : List Jvm.Cond) (r0 : Addr) (x1 : Int32) (h0 : Heap) (n0 : Nat) (O0 : Old Z n0 h0) (f2 : Exa Z h0 r0 "java/lang/Integer") (f3 : Fld Z h0 r0 "java/lang/Integer" "value" "I" (.int (0 : Int32))) (g4 : n0 ≤ r0) :
    MetFree l (⟨"java/lang/Integer", "<init>", "(I)V"⟩ : MethodName) (head1 (Jvm.Cond.code (⟨"java/lang/Integer", "<init>", "(I)V"⟩ : MethodName) jdk_33_method_23_code 2 none :: ws) ({ frames := 2, cells := 0, slots := 0, locals := 24 } : Room)) (fun a U => a = #[(.ref r0), (.int x1)] ∧ Z.Warmed39 U.vm ∧ U.heap = h0) (fun _ _ _ _ _ => True) (fun _ U o U' => ∃ v L, o = .returned v ∧ Q35_1 Z r0 x1 h0 n0 v U'.heap L ∧ FrameEnd U o U' L ({ frames := 2, cells := 0, slots := 0, locals := 24 } : Room).cells ({ frames := 2, cells := 0, slots := 0, locals := 24 } : Room).slots) := by
  refine MetFree.of_bodySF (plainFor_of_name pn_java_lang_Integer) hisR ?_
  intro p e s m args below meth c s₁ Bd hml0 hP hK
  obtain ⟨rfl, hZ, hh⟩ := hP
  have hx := Bd.exec
  have hby := Bd.bytes
  have hml : c.maxLocals = 2 := hml0
  have hown : s.vm.findClass "java/lang/Integer" = some m.cls := findClass_of_methodNamed Bd.named
  have hnm := (name_of_methodNamed Bd.named Bd.method).1
  have X0 : Stand p l e ({ frames := 2, cells := 0, slots := 0, locals := 24 } : Room) s m #[(.ref r0), (.int x1)] below meth c s₁ [] 0 0 := Stand.of_body Bd
  have e0 : s₁.heap = h0 := by rw [← hh, Bd.state]; rfl
  have N0 := Fr.nil n0
  have pre0 : ∀ t, Steps p.tables e below (s₁.setTop (mkF m 0 #[.val (.ref r0), .val (.int x1)] [])) t → Steps p.tables e below (s₁.setTop (entryFrame m #[(.ref r0), (.int x1)] 2)) t := fun t k => castTop (by first | (simp [entryFrame, mkF, argsToLocals, Value.category]; done) | rfl) k
  obtain ⟨_, _, ⟨T1, L1, k1, n1⟩, -, X1, ⟨Lc1, hQ1, l1, y1, z1⟩, st1⟩ := X0.specialBack hx (y := (⟨"java/lang/Number", "<init>", "()V"⟩ : MethodName)) rfl hown (mvT hZ (ww hw 261 rfl)) (mvT hZ (ww hw 262 rfl)) (mvT hZ (ww hw 266 rfl)) (by decide) (backOf (W := 0) (rm36_1 l Z a0 hw [] r0 h0 n0 O0) hZ (ww hw 266 rfl) (ww hw 265 rfl) (by decide) (by decide)) (g := (mkF m 1 #[.val (.ref r0), .val (.int x1)] [(.ref r0)])) rfl (by rw [hml]; rfl) (Steps.refl _) (a := r0) (argsL := []) (rest := []) (lenOf pd___V rfl) rfl (by show 2 * 0 + _ ≤ _; exact Nat.le_of_eq rfl) (hb hby d35_1) (fun _ _ => ⟨rfl, e0, (by decide : 0 + 0 ≤ _), (by decide : 0 + 0 ≤ _)⟩)
  dsimp only [Pt.U, Pt.locs, Pt.cells, Pt.slots] at X1 l1 y1 z1 st1 hQ1
  subst l1 y1 z1
  obtain ⟨rfl, N1q, E1⟩ := hQ1
  have N1 := Fr.app N0 N1q
  obtain ⟨T5, h5, X5, e5, W5, st5⟩ := putF X1 hx hZ hown (host := "") (Or.inl (ww hw 268 rfl)) Via.refl E1 f3 f2 (Or.inr ⟨(ww hw 269 rfl), rfl, hnm⟩) (ww hw 256 rfl) (ty := .int) (by decide) rfl rfl (g := (mkF m 6 #[.val (.ref r0), .val (.int x1)] [(.int x1), (.ref r0)])) rfl rfl (hb hby d35_6)
  have Fw5 := f3.same W5
  have N5 := Fr.snoc X5 N1 g4
  have kp6 : Keep h0 h5 [r0] := (Keep.refl h0 [r0]).wr W5 (Or.inl (List.mem_of_getElem? (i := 0) rfl))
  obtain ⟨fs, hr, hrun, hended, hW, hsame⟩ := X5.leave (v := none) (fun _ => rfl)
  refine ⟨_, _, pre0 _ ?_, hrun, hended, _, _, rfl, ?_, ⟨_, rfl⟩, hW, hsame.mono (by decide) (by decide)⟩
  · show Steps p.tables e below (s₁.setTop (mkF m 0 #[.val (.ref r0), .val (.int x1)] [])) _
    refine XS.aloadN X0.here hx rfl (hb hby d35_0) rfl rfl ?_
    refine st1.trans ?_
    show Steps p.tables e below (T1.setTop (mkF m 4 #[.val (.ref r0), .val (.int x1)] [])) _
    refine XS.aloadN X1.here hx rfl (hb hby d35_4) rfl rfl ?_
    refine XS.iloadN X1.here hx rfl (hb hby d35_5) rfl ?_
    refine st5 _ ?_
    show Steps p.tables e below (T5.setTop (mkF m 9 #[.val (.ref r0), .val (.int x1)] [])) _
    exact X5.returnOut hx Bd.returns (hb hby d35_9) hr
  · show Q35_1 Z r0 x1 h0 n0 _ T5.heap _
    rw [e5]
    exact ⟨rfl, N5, kp6, Fw5⟩
theorem pd__I_V : parseMethodDescriptor "(I)V" = some ⟨[.int], none⟩ := by decide +kernel
theorem d1_31 : decode jdk_33_method_22_code 31 = .ok (.areturn, 1) := by decide +kernel
def Q1_2 (Z : State) (x0 : Int32) (h0 : Heap) (n0 : Nat) (v : Option Value) (h : Heap) (L : List Loc) : Prop := ∃ (b6 : Addr), v = some (.ref b6) ∧ Fr n0 L ∧ Keep h0 h [] ∧ h0.size ≤ b6 ∧ Exa Z h b6 "java/lang/Integer" ∧ Fld Z h b6 "java/lang/Integer" "value" "I" (.int x0)
set_option maxRecDepth 65536 in
set_option maxHeartbeats 40000000 in
theorem rm1_2 (l : Launch) (Z : State) (a0 : Array Value) (hw : ∀ d ∈ tables_1, d.before a0 Z = true) (ws : List Jvm.Cond) (x0 : Int32) (h0 : Heap) (n0 : Nat) (O0 : Old Z n0 h0) (hc1 : ¬ (x0 < (-128 : Int32))) (f2 : Sta Z Z.heap cs9 "high" "I" (.int (127 : Int32))) (hc5 : (127 : Int32) < x0) :
    MetFree l (⟨"java/lang/Integer", "valueOf", "(I)Ljava/lang/Integer;"⟩ : MethodName) (head1 (Jvm.Cond.code (⟨"java/lang/Integer", "valueOf", "(I)Ljava/lang/Integer;"⟩ : MethodName) jdk_33_method_22_code 1 (some (.object "java/lang/Integer")) :: ws) ({ frames := 4, cells := 1, slots := 1, locals := 60 } : Room)) (fun a U => a = #[(.int x0)] ∧ Z.Warmed39 U.vm ∧ U.heap = h0) (fun _ _ _ _ _ => True) (fun _ U o U' => ∃ v L, o = .returned v ∧ Q1_2 Z x0 h0 n0 v U'.heap L ∧ FrameEnd U o U' L ({ frames := 4, cells := 1, slots := 1, locals := 60 } : Room).cells ({ frames := 4, cells := 1, slots := 1, locals := 60 } : Room).slots) := by
  refine MetFree.of_bodySF (plainFor_of_name pn_java_lang_Integer) hisR ?_
  intro p e s m args below meth c s₁ Bd hml0 hP hK
  obtain ⟨rfl, hZ, hh⟩ := hP
  have hx := Bd.exec
  have hby := Bd.bytes
  have hml : c.maxLocals = 1 := hml0
  have hown : s.vm.findClass "java/lang/Integer" = some m.cls := findClass_of_methodNamed Bd.named
  have hnm := (name_of_methodNamed Bd.named Bd.method).1
  have X0 : Stand p l e ({ frames := 4, cells := 1, slots := 1, locals := 60 } : Room) s m #[(.int x0)] below meth c s₁ [] 0 0 := Stand.of_body Bd
  have e0 : s₁.heap = h0 := by rw [← hh, Bd.state]; rfl
  have N0 := Fr.nil n0
  have pre0 : ∀ t, Steps p.tables e below (s₁.setTop (mkF m 0 #[.val (.int x0)] [])) t → Steps p.tables e below (s₁.setTop (entryFrame m #[(.int x0)] 1)) t := fun t k => castTop (by first | (simp [entryFrame, mkF, argsToLocals, Value.category]; done) | rfl) k
  have f3 := f2.ext O0.2
  obtain ⟨T4, X4, e4, st4⟩ := getS2 X0 hx hZ hown (host := "") (Or.inl (ww hw 4 rfl)) Via.refl e0 f3 (g := (mkF m 7 #[.val (.int x0)] [(.int x0)])) rfl (hb hby d1_7)
  obtain ⟨T6, h6, X6, e6, E6, A6, D6, -, st6⟩ := newO X4 hx hZ hown (ww hw 255 rfl) (ww hw 256 rfl) (ww hw 2 rfl) e4 (g := (mkF m 23 #[.val (.int x0)] [])) rfl (hb hby d1_23) (by decide) (by decide)
  obtain ⟨b6, g6⟩ : ∃ z, z = h0.size := ⟨_, rfl⟩
  rw [← g6] at A6 D6 st6
  have f7 : Fld Z h6 b6 "java/lang/Integer" "value" "I" (.int (0 : Int32)) := D6 (Or.inr (ww hw 269 rfl)) (ty := .int) (by decide)
  have zz8 : n0 ≤ h0.size := by rw [← O0.1]; exact O0.2.1
  have g9 := Nat.le_trans zz8 (Nat.le_of_eq g6.symm)
  have o10 := Old.ext O0 E6
  obtain ⟨_, _, ⟨T11, L11, k11, n11⟩, -, X11, ⟨Lc11, hQ11, l11, y11, z11⟩, st11⟩ := X6.specialBack hx (y := (⟨"java/lang/Integer", "<init>", "(I)V"⟩ : MethodName)) rfl hown (mvT hZ (ww hw 257 rfl)) (mvT hZ (ww hw 258 rfl)) (mvT hZ (ww hw 260 rfl)) (by decide) (backOf (W := 1) (rm35_1 l Z a0 hw [] b6 x0 h6 n0 o10 A6 f7 g9) hZ (ww hw 260 rfl) (ww hw 2 rfl) (by decide) (by decide)) (g := (mkF m 28 #[.val (.int x0)] [(.int x0), (.ref b6), (.ref b6)])) rfl (by rw [hml]; rfl) (Steps.refl _) (a := b6) (argsL := [(.int x0)]) (rest := [(.ref b6)]) (lenOf pd__I_V rfl) rfl (by show 2 * 0 + _ ≤ _; exact Nat.le_of_eq rfl) (hb hby d1_28) (fun _ _ => ⟨rfl, e6, (by decide : 1 + 0 ≤ _), (by decide : 1 + 0 ≤ _)⟩)
  dsimp only [Pt.U, Pt.locs, Pt.cells, Pt.slots] at X11 l11 y11 z11 st11 hQ11
  subst l11 y11 z11
  obtain ⟨rfl, N11q, K11, f12⟩ := hQ11
  have N11 := Fr.app N0 N11q
  have f13 := (A6.keep K11)
  have kp14 : Keep h0 h6 [] := (Keep.refl h0 []).ext E6
  have kp15 : Keep h0 T11.heap [] := kp14.trans K11 (allS (Or.inr (Nat.le_of_eq g6.symm)) all0)
  obtain ⟨fs, hr, hrun, hended, hW, hsame⟩ := X11.leave (v := some (.ref b6)) (fun h => by rw [Bd.returns] at h; cases h)
  refine ⟨_, _, pre0 _ ?_, hrun, hended, _, _, rfl, ?_, ⟨_, rfl⟩, hW, hsame.mono (by decide) (by decide)⟩
  · show Steps p.tables e below (s₁.setTop (mkF m 0 #[.val (.int x0)] [])) _
    refine XS.iloadN X0.here hx rfl (hb hby d1_0) rfl ?_
    refine XS.bipush X0.here hx rfl (hb hby d1_1) ?_
    refine XS.icmpNo X0.here hx rfl (hb hby d1_3) rfl (flt hc1).1 ?_
    refine XS.iloadN X0.here hx rfl (hb hby d1_6) rfl ?_
    show Steps p.tables e below (s₁.setTop (mkF m 7 #[.val (.int x0)] [(.int x0)])) _
    refine st4 _ ?_
    show Steps p.tables e below (T4.setTop (mkF m 10 #[.val (.int x0)] [(.int (127 : Int32)), (.int x0)])) _
    refine XS.icmpYes X4.here hx rfl (pc0 := 10) (pc' := 23) rfl (hb hby d1_10) rfl (tlt hc5).2.2.1 (by decide) (by decide) ?_
    show Steps p.tables e below (T4.setTop (mkF m 23 #[.val (.int x0)] [])) _
    refine st6 _ ?_
    show Steps p.tables e below (T6.setTop (mkF m 26 #[.val (.int x0)] [(.ref b6)])) _
    refine XS.dup X6.here hx rfl (hb hby d1_26) rfl rfl ?_
    refine XS.iloadN X6.here hx rfl (hb hby d1_27) rfl ?_
    refine st11.trans ?_
    show Steps p.tables e below (T11.setTop (mkF m 31 #[.val (.int x0)] [(.ref b6)])) _
    exact retOut X11 hx (i := .areturn) Bd.returns rfl (Or.inr (Or.inr (Or.inr (Or.inr ⟨rfl, rfl, rfl⟩)))) (hb hby d1_31) hr
  · show Q1_2 Z x0 h0 n0 _ T11.heap _
    exact ⟨b6, rfl, N11, kp15, (Nat.le_of_eq g6.symm), f13, f12⟩
def Q1_3 (Z : State) (x0 : Int32) (h0 : Heap) (n0 : Nat) (v : Option Value) (h : Heap) (L : List Loc) : Prop := ∃ (b2 : Addr), v = some (.ref b2) ∧ Fr n0 L ∧ Keep h0 h [] ∧ h0.size ≤ b2 ∧ Exa Z h b2 "java/lang/Integer" ∧ Fld Z h b2 "java/lang/Integer" "value" "I" (.int x0)
set_option maxRecDepth 65536 in
set_option maxHeartbeats 40000000 in
theorem rm1_3 (l : Launch) (Z : State) (a0 : Array Value) (hw : ∀ d ∈ tables_1, d.before a0 Z = true) (ws : List Jvm.Cond) (x0 : Int32) (h0 : Heap) (n0 : Nat) (O0 : Old Z n0 h0) (hc1 : x0 < (-128 : Int32)) :
    MetFree l (⟨"java/lang/Integer", "valueOf", "(I)Ljava/lang/Integer;"⟩ : MethodName) (head1 (Jvm.Cond.code (⟨"java/lang/Integer", "valueOf", "(I)Ljava/lang/Integer;"⟩ : MethodName) jdk_33_method_22_code 1 (some (.object "java/lang/Integer")) :: ws) ({ frames := 4, cells := 1, slots := 1, locals := 60 } : Room)) (fun a U => a = #[(.int x0)] ∧ Z.Warmed39 U.vm ∧ U.heap = h0) (fun _ _ _ _ _ => True) (fun _ U o U' => ∃ v L, o = .returned v ∧ Q1_3 Z x0 h0 n0 v U'.heap L ∧ FrameEnd U o U' L ({ frames := 4, cells := 1, slots := 1, locals := 60 } : Room).cells ({ frames := 4, cells := 1, slots := 1, locals := 60 } : Room).slots) := by
  refine MetFree.of_bodySF (plainFor_of_name pn_java_lang_Integer) hisR ?_
  intro p e s m args below meth c s₁ Bd hml0 hP hK
  obtain ⟨rfl, hZ, hh⟩ := hP
  have hx := Bd.exec
  have hby := Bd.bytes
  have hml : c.maxLocals = 1 := hml0
  have hown : s.vm.findClass "java/lang/Integer" = some m.cls := findClass_of_methodNamed Bd.named
  have hnm := (name_of_methodNamed Bd.named Bd.method).1
  have X0 : Stand p l e ({ frames := 4, cells := 1, slots := 1, locals := 60 } : Room) s m #[(.int x0)] below meth c s₁ [] 0 0 := Stand.of_body Bd
  have e0 : s₁.heap = h0 := by rw [← hh, Bd.state]; rfl
  have N0 := Fr.nil n0
  have pre0 : ∀ t, Steps p.tables e below (s₁.setTop (mkF m 0 #[.val (.int x0)] [])) t → Steps p.tables e below (s₁.setTop (entryFrame m #[(.int x0)] 1)) t := fun t k => castTop (by first | (simp [entryFrame, mkF, argsToLocals, Value.category]; done) | rfl) k
  obtain ⟨T2, h2, X2, e2, E2, A2, D2, -, st2⟩ := newO X0 hx hZ hown (ww hw 255 rfl) (ww hw 256 rfl) (ww hw 2 rfl) e0 (g := (mkF m 23 #[.val (.int x0)] [])) rfl (hb hby d1_23) (by decide) (by decide)
  obtain ⟨b2, g2⟩ : ∃ z, z = h0.size := ⟨_, rfl⟩
  rw [← g2] at A2 D2 st2
  have f3 : Fld Z h2 b2 "java/lang/Integer" "value" "I" (.int (0 : Int32)) := D2 (Or.inr (ww hw 269 rfl)) (ty := .int) (by decide)
  have zz4 : n0 ≤ h0.size := by rw [← O0.1]; exact O0.2.1
  have g5 := Nat.le_trans zz4 (Nat.le_of_eq g2.symm)
  have o6 := Old.ext O0 E2
  obtain ⟨_, _, ⟨T7, L7, k7, n7⟩, -, X7, ⟨Lc7, hQ7, l7, y7, z7⟩, st7⟩ := X2.specialBack hx (y := (⟨"java/lang/Integer", "<init>", "(I)V"⟩ : MethodName)) rfl hown (mvT hZ (ww hw 257 rfl)) (mvT hZ (ww hw 258 rfl)) (mvT hZ (ww hw 260 rfl)) (by decide) (backOf (W := 1) (rm35_1 l Z a0 hw [] b2 x0 h2 n0 o6 A2 f3 g5) hZ (ww hw 260 rfl) (ww hw 2 rfl) (by decide) (by decide)) (g := (mkF m 28 #[.val (.int x0)] [(.int x0), (.ref b2), (.ref b2)])) rfl (by rw [hml]; rfl) (Steps.refl _) (a := b2) (argsL := [(.int x0)]) (rest := [(.ref b2)]) (lenOf pd__I_V rfl) rfl (by show 2 * 0 + _ ≤ _; exact Nat.le_of_eq rfl) (hb hby d1_28) (fun _ _ => ⟨rfl, e2, (by decide : 1 + 0 ≤ _), (by decide : 1 + 0 ≤ _)⟩)
  dsimp only [Pt.U, Pt.locs, Pt.cells, Pt.slots] at X7 l7 y7 z7 st7 hQ7
  subst l7 y7 z7
  obtain ⟨rfl, N7q, K7, f8⟩ := hQ7
  have N7 := Fr.app N0 N7q
  have f9 := (A2.keep K7)
  have kp10 : Keep h0 h2 [] := (Keep.refl h0 []).ext E2
  have kp11 : Keep h0 T7.heap [] := kp10.trans K7 (allS (Or.inr (Nat.le_of_eq g2.symm)) all0)
  obtain ⟨fs, hr, hrun, hended, hW, hsame⟩ := X7.leave (v := some (.ref b2)) (fun h => by rw [Bd.returns] at h; cases h)
  refine ⟨_, _, pre0 _ ?_, hrun, hended, _, _, rfl, ?_, ⟨_, rfl⟩, hW, hsame.mono (by decide) (by decide)⟩
  · show Steps p.tables e below (s₁.setTop (mkF m 0 #[.val (.int x0)] [])) _
    refine XS.iloadN X0.here hx rfl (hb hby d1_0) rfl ?_
    refine XS.bipush X0.here hx rfl (hb hby d1_1) ?_
    refine XS.icmpYes X0.here hx rfl (pc0 := 3) (pc' := 23) rfl (hb hby d1_3) rfl (tlt hc1).1 (by decide) (by decide) ?_
    show Steps p.tables e below (s₁.setTop (mkF m 23 #[.val (.int x0)] [])) _
    refine st2 _ ?_
    show Steps p.tables e below (T2.setTop (mkF m 26 #[.val (.int x0)] [(.ref b2)])) _
    refine XS.dup X2.here hx rfl (hb hby d1_26) rfl rfl ?_
    refine XS.iloadN X2.here hx rfl (hb hby d1_27) rfl ?_
    refine st7.trans ?_
    show Steps p.tables e below (T7.setTop (mkF m 31 #[.val (.int x0)] [(.ref b2)])) _
    exact retOut X7 hx (i := .areturn) Bd.returns rfl (Or.inr (Or.inr (Or.inr (Or.inr ⟨rfl, rfl, rfl⟩)))) (hb hby d1_31) hr
  · show Q1_3 Z x0 h0 n0 _ T7.heap _
    exact ⟨b2, rfl, N7, kp11, (Nat.le_of_eq g2.symm), f9, f8⟩
def QvalueOf (Z : State) (h0 : Heap) (n0 : Nat) (v : Option Value) (h : Heap) (L : List Loc) : Prop := ∃ (b : Addr), v = some (.ref b) ∧ Fr n0 L ∧ Keep h0 h [] ∧ True
set_option maxHeartbeats 4000000 in
theorem rmvalueOf (l : Launch) (Z : State) (a0 : Array Value) (hw : ∀ d ∈ tables_1, d.before a0 Z = true) (ws : List Jvm.Cond) (x0 : Int32) (r1 : Addr) (d2 : Cell) (h0 : Heap) (n0 : Nat) (O0 : Old Z n0 h0) (f1 : Sta Z Z.heap cs9 "high" "I" (.int (127 : Int32))) (f2 : Sta Z Z.heap cs9 "cache" "[Ljava/lang/Integer;" (.ref r1)) (f3 : Arr Z Z.heap r1 d2 (.object "java/lang/Integer")) (f4 : d2.slots.size = 256) (f5 : ∀ j : Int32, ¬ (j < 0 ∨ d2.slots.size ≤ j.toNatClampNeg) → ∃ r : Addr, d2.slots[j.toNatClampNeg]? = some (.ref r)) :
    MetFree l (⟨"java/lang/Integer", "valueOf", "(I)Ljava/lang/Integer;"⟩ : MethodName) (head1 (Jvm.Cond.code (⟨"java/lang/Integer", "valueOf", "(I)Ljava/lang/Integer;"⟩ : MethodName) jdk_33_method_22_code 1 (some (.object "java/lang/Integer")) :: ws) ({ frames := 4, cells := 1, slots := 1, locals := 60 } : Room)) (fun a U => a = #[(.int x0)] ∧ Z.Warmed39 U.vm ∧ U.heap = h0) (fun _ _ _ _ _ => True) (fun _ U o U' => ∃ v L, o = .returned v ∧ QvalueOf Z h0 n0 v U'.heap L ∧ FrameEnd U o U' L ({ frames := 4, cells := 1, slots := 1, locals := 60 } : Room).cells ({ frames := 4, cells := 1, slots := 1, locals := 60 } : Room).slots) := by
  intro p e ha hc hk s m args below hf happ hP hK
  by_cases c1 : x0 < (-128 : Int32)
  · obtain ⟨n, o, h1, h2, h3, v, L, rfl, hQ, hE⟩ := rm1_3 l Z a0 hw ws x0 h0 n0 O0 c1 p e ha hc hk s m args below hf happ hP hK
    obtain ⟨b, rfl, N, K, -⟩ := hQ
    exact ⟨n, _, h1, h2, h3, _, L, rfl, ⟨b, rfl, N, K, trivial⟩, hE⟩
  by_cases c2 : (127 : Int32) < x0
  · obtain ⟨n, o, h1, h2, h3, v, L, rfl, hQ, hE⟩ := rm1_2 l Z a0 hw ws x0 h0 n0 O0 c1 f1 c2 p e ha hc hk s m args below hf happ hP hK
    obtain ⟨b, rfl, N, K, -⟩ := hQ
    exact ⟨n, _, h1, h2, h3, _, L, rfl, ⟨b, rfl, N, K, trivial⟩, hE⟩
  have q1 : -128 ≤ x0.toInt := by rw [Int32.lt_iff_toInt_lt] at c1; have : (-128 : Int32).toInt = -128 := rfl; omega
  have q2 : x0.toInt ≤ 127 := by rw [Int32.lt_iff_toInt_lt] at c2; have : (127 : Int32).toInt = 127 := rfl; omega
  have q3 : (x0 + (128 : Int32)).toInt = x0.toInt + 128 := by rw [Int32.toInt_add]; have : (128 : Int32).toInt = 128 := rfl; rw [this]; exact Int.bmod_eq_of_le (by omega) (by omega)
  have q4 : ¬ ((x0 + (128 : Int32)) < 0 ∨ d2.slots.size ≤ ((x0 + (128 : Int32))).toNatClampNeg) := by rw [f4, Int32.lt_iff_toInt_lt, Int32.toNatClampNeg, q3]; have : (0 : Int32).toInt = 0 := rfl; omega
  obtain ⟨r, q5⟩ := f5 (x0 + (128 : Int32)) q4
  obtain ⟨n, o, h1, h2, h3, v, L, rfl, hQ, hE⟩ := rm1_1 l Z a0 hw ws x0 r1 d2 r h0 n0 O0 c1 f1 c2 f2 f3 q5 q4 p e ha hc hk s m args below hf happ hP hK
  obtain ⟨rfl, N, rfl⟩ := hQ
  exact ⟨n, _, h1, h2, h3, _, L, rfl, ⟨r, rfl, N, Keep.refl _ _, trivial⟩, hE⟩
theorem pd__I_Ljava_lang_Integer_ : parseMethodDescriptor "(I)Ljava/lang/Integer;" = some ⟨[.int], some (.object "java/lang/Integer")⟩ := by decide +kernel
def Q6_2 (Z : State) (r0 : Addr) (r1 : Addr) (r2 : Addr) (r3 : Addr) (h0 : Heap) (n0 : Nat) (v : Option Value) (h : Heap) (L : List Loc) : Prop := v = none ∧ Fr n0 L ∧ Keep h0 h [r0] ∧ Fld Z h r0 cs5 "value" "Ljava/lang/Object;" (.ref r1) ∧ Fld Z h r0 cs5 "errors" "Ljava/util/List;" (.ref r3)
set_option maxRecDepth 65536 in
set_option maxHeartbeats 40000000 in
theorem rm6_2 (l : Launch) (Z : State) (a0 : Array Value) (hw : ∀ d ∈ tables_1, d.before a0 Z = true) (ws : List Jvm.Cond) (r0 : Addr) (r1 : Addr) (r2 : Addr) (r3 : Addr) (h0 : Heap) (n0 : Nat) (O0 : Old Z n0 h0) (f2 : Exa Z h0 r0 cs5) (f3 : Fld Z h0 r0 cs5 "value" "Ljava/lang/Object;" .null) (g4 : n0 ≤ r0) (f6 : Exa Z h0 r2 "java/util/ArrayList") (f8 : Fld Z h0 r2 "java/util/ArrayList" "size" "I" (.int (0 : Int32))) (n9 : r2 ≠ r0) (f11 : Sta Z Z.heap cs2 "EMPTY_LIST" cs3 (.ref r3)) (f15 : Fld Z h0 r0 cs5 "errors" "Ljava/util/List;" .null) :
    MetFree l (⟨cs5, "<init>", cs6⟩ : MethodName) (head1 (Jvm.Cond.code (⟨cs5, "<init>", cs6⟩ : MethodName) prog_4_method_1_code 3 none :: ws) ({ frames := 3, cells := 0, slots := 0, locals := 38 } : Room)) (fun a U => a = #[(.ref r0), (.ref r1), (.ref r2)] ∧ Z.Warmed39 U.vm ∧ U.heap = h0) (fun _ _ _ _ _ => True) (fun _ U o U' => ∃ v L, o = .returned v ∧ Q6_2 Z r0 r1 r2 r3 h0 n0 v U'.heap L ∧ FrameEnd U o U' L ({ frames := 3, cells := 0, slots := 0, locals := 38 } : Room).cells ({ frames := 3, cells := 0, slots := 0, locals := 38 } : Room).slots) := by
  refine MetFree.of_bodySF (plainFor_of_name pn_com_example_weaverbird_weaverbird_bind_Binding) hisR ?_
  intro p e s m args below meth c s₁ Bd hml0 hP hK
  obtain ⟨rfl, hZ, hh⟩ := hP
  have hx := Bd.exec
  have hby := Bd.bytes
  have hml : c.maxLocals = 3 := hml0
  have hown : s.vm.findClass cs5 = some m.cls := findClass_of_methodNamed Bd.named
  have hnm := (name_of_methodNamed Bd.named Bd.method).1
  have X0 : Stand p l e ({ frames := 3, cells := 0, slots := 0, locals := 38 } : Room) s m #[(.ref r0), (.ref r1), (.ref r2)] below meth c s₁ [] 0 0 := Stand.of_body Bd
  have e0 : s₁.heap = h0 := by rw [← hh, Bd.state]; rfl
  have N0 := Fr.nil n0
  have pre0 : ∀ t, Steps p.tables e below (s₁.setTop (mkF m 0 #[.val (.ref r0), .val (.ref r1), .val (.ref r2)] [])) t → Steps p.tables e below (s₁.setTop (entryFrame m #[(.ref r0), (.ref r1), (.ref r2)] 3)) t := fun t k => castTop (by first | (simp [entryFrame, mkF, argsToLocals, Value.category]; done) | rfl) k
  obtain ⟨T1, X1, e1, st1⟩ := initO X0 hx hZ hown (ww hw 39 rfl) (ww hw 26 rfl) (ww hw 27 rfl) e0 (g := (mkF m 1 #[.val (.ref r0), .val (.ref r1), .val (.ref r2)] [(.ref r0)])) rfl (by rw [hml]; rfl) rfl (hb hby d6_1) (by decide) (W := 0) (by show 2 * 0 + _ ≤ _; exact Nat.le_of_eq rfl) (by decide)
  obtain ⟨T5, h5, X5, e5, W5, st5⟩ := putF X1 hx hZ hown (host := "") (Or.inl (ww hw 40 rfl)) Via.refl e1 f3 f2 (Or.inr ⟨(ww hw 41 rfl), rfl, hnm⟩) (ww hw 34 rfl) (ty := (.object "java/lang/Object")) (by decide) rfl rfl (g := (mkF m 6 #[.val (.ref r0), .val (.ref r1), .val (.ref r2)] [(.ref r1), (.ref r0)])) rfl rfl (hb hby d6_6)
  have Fw5 := f3.same W5
  have N5 := Fr.snoc X5 N0 g4
  have f7 := (f6.wr W5)
  have f10 := (f8.other W5 (Or.inl n9))
  have o12 := Old.wr O0 W5 g4
  obtain ⟨_, _, ⟨T13, L13, k13, n13⟩, -, X13, ⟨Lc13, hQ13, l13, y13, z13⟩, st13⟩ := Jvm.LawKit.callS X5 hx (y := (⟨"java/util/List", "copyOf", cs4⟩ : MethodName)) hown (mvT hZ (ww hw 42 rfl)) (mvT hZ (ww hw 43 rfl)) (mvT hZ (ww hw 44 rfl)) (mvT hZ (ww hw 45 rfl)) (by decide) (backOf (W := 1) (rm7_1 l Z a0 hw [] r2 r3 h5 n0 o12 f7 f10 f11) hZ (ww hw 45 rfl) (ww hw 44 rfl) (by decide) (by decide)) (g := (mkF m 11 #[.val (.ref r0), .val (.ref r1), .val (.ref r2)] [(.ref r2), (.ref r0)])) rfl (by rw [hml]; rfl) (argsL := [(.ref r2)]) (rest := [(.ref r0)]) (lenOf pd__Ljava_util_Collection__Ljava_util_List_ rfl) rfl (by show 2 * 0 + _ ≤ _; exact Nat.le_of_eq rfl) (hb hby d6_11) (fun _ _ => ⟨rfl, e5, (by decide : 0 + 0 ≤ _), (by decide : 0 + 0 ≤ _)⟩)
  dsimp only [Pt.U, Pt.locs, Pt.cells, Pt.slots] at X13 l13 y13 z13 st13 hQ13
  subst l13 y13 z13
  obtain ⟨rfl, N13q, E13⟩ := hQ13
  have N13 := Fr.app N5 N13q
  have f14 := (f2.wr W5)
  have f16 := (f15.other W5 (Or.inr (slot_ne (Or.inr (ww hw 72 rfl)) (Or.inr (ww hw 41 rfl)) (by decide) (t := (.object "java/util/List")) (t' := (.object "java/lang/Object")) (by decide) (by decide))))
  obtain ⟨T17, h17, X17, e17, W17, st17⟩ := putF X13 hx hZ hown (host := "") (Or.inl (ww hw 71 rfl)) Via.refl E13 f16 f14 (Or.inr ⟨(ww hw 72 rfl), rfl, hnm⟩) (ww hw 34 rfl) (ty := (.object "java/util/List")) (by decide) rfl rfl (g := (mkF m 14 #[.val (.ref r0), .val (.ref r1), .val (.ref r2)] [(.ref r3), (.ref r0)])) rfl rfl (hb hby d6_14)
  have Fw17 := f16.same W17
  have N17 := Fr.snoc X17 N13 g4
  have f18 := (Fw5.other W17 (Or.inr (slot_ne (Or.inr (ww hw 41 rfl)) (Or.inr (ww hw 72 rfl)) (by decide) (t := (.object "java/lang/Object")) (t' := (.object "java/util/List")) (by decide) (by decide))))
  have kp19 : Keep h0 h5 [r0] := (Keep.refl h0 [r0]).wr W5 (Or.inl (List.mem_of_getElem? (i := 0) rfl))
  have kp20 : Keep h0 h17 [r0] := kp19.wr W17 (Or.inl (List.mem_of_getElem? (i := 0) rfl))
  obtain ⟨fs, hr, hrun, hended, hW, hsame⟩ := X17.leave (v := none) (fun _ => rfl)
  refine ⟨_, _, pre0 _ ?_, hrun, hended, _, _, rfl, ?_, ⟨_, rfl⟩, hW, hsame.mono (by decide) (by decide)⟩
  · show Steps p.tables e below (s₁.setTop (mkF m 0 #[.val (.ref r0), .val (.ref r1), .val (.ref r2)] [])) _
    refine XS.aloadN X0.here hx rfl (hb hby d6_0) rfl rfl ?_
    refine st1 _ ?_
    show Steps p.tables e below (T1.setTop (mkF m 4 #[.val (.ref r0), .val (.ref r1), .val (.ref r2)] [])) _
    refine XS.aloadN X1.here hx rfl (hb hby d6_4) rfl rfl ?_
    refine XS.aloadN X1.here hx rfl (hb hby d6_5) rfl rfl ?_
    refine st5 _ ?_
    show Steps p.tables e below (T5.setTop (mkF m 9 #[.val (.ref r0), .val (.ref r1), .val (.ref r2)] [])) _
    refine XS.aloadN X5.here hx rfl (hb hby d6_9) rfl rfl ?_
    refine XS.aloadN X5.here hx rfl (hb hby d6_10) rfl rfl ?_
    refine st13 _ ?_
    show Steps p.tables e below (T13.setTop (mkF m 14 #[.val (.ref r0), .val (.ref r1), .val (.ref r2)] [(.ref r3), (.ref r0)])) _
    refine st17 _ ?_
    show Steps p.tables e below (T17.setTop (mkF m 17 #[.val (.ref r0), .val (.ref r1), .val (.ref r2)] [])) _
    exact X17.returnOut hx Bd.returns (hb hby d6_17) hr
  · show Q6_2 Z r0 r1 r2 r3 h0 n0 _ T17.heap _
    rw [e17]
    exact ⟨rfl, N17, kp20, f18, Fw17⟩
def Q0_2 (Z : State) (x0 : Int32) (x1 : Int32) (x2 : Int32) (r3 : Addr) (d4 : Cell) (r5 : Addr) (r6 : Addr) (r7 : Addr) (c8 : ClassId) (h0 : Heap) (n0 : Nat) (v : Option Value) (h : Heap) (L : List Loc) : Prop := v = some (.int (1 : Int32)) ∧ Fr n0 L
set_option maxRecDepth 65536 in
set_option maxHeartbeats 40000000 in
theorem rm0_2 (l : Launch) (Z : State) (a0 : Array Value) (hw : ∀ d ∈ tables_1, d.before a0 Z = true) (ws : List Jvm.Cond) (x0 : Int32) (x1 : Int32) (x2 : Int32) (r3 : Addr) (d4 : Cell) (r5 : Addr) (r6 : Addr) (r7 : Addr) (c8 : ClassId) (h0 : Heap) (n0 : Nat) (O0 : Old Z n0 h0) (hc1 : (x0 &&& (3 : Int32)) = (0 : Int32)) (hc2 : (x2 &&& (1 : Int32)) = (0 : Int32)) (f3 : Sta Z Z.heap cs9 "high" "I" (.int (127 : Int32))) (f4 : Sta Z Z.heap cs9 "cache" "[Ljava/lang/Integer;" (.ref r3)) (f5 : Arr Z Z.heap r3 d4 (.object "java/lang/Integer")) (hc6 : d4.slots.size = 256) (hc7 : ∀ j : Int32, ¬ (j < 0 ∨ d4.slots.size ≤ j.toNatClampNeg) → ∃ r : Addr, d4.slots[j.toNatClampNeg]? = some (.ref r)) (f17 : Sta Z Z.heap "java/util/ArrayList" cs1 "[Ljava/lang/Object;" (.ref r5)) (f33 : Sta Z Z.heap cs2 "EMPTY_LIST" cs3 (.ref r6)) (f38 : Exa Z Z.heap r6 cs7) (f39 : Fld Z Z.heap r6 cs7 "elements" "[Ljava/lang/Object;" (.ref r7)) (f40 : Arv Z Z.heap r7 c8 (.object "java/lang/Object") (0 : Int32) [] .null) :
    MetFree l x (head1 (Jvm.Cond.code x code maxLocals ret :: ws) room_1) (fun a U => a = #[(.int x0), (.int x1), (.int x2)] ∧ Z.Warmed39 U.vm ∧ U.heap = h0) (fun _ _ _ _ _ => True) (fun _ U o U' => ∃ v L, o = .returned v ∧ Q0_2 Z x0 x1 x2 r3 d4 r5 r6 r7 c8 h0 n0 v U'.heap L ∧ ReturnedEndW U o U' L room_1.cells room_1.slots) := by
  refine MetFree.of_bodySF (plainFor_of_name pn_com_example_weaverbird_weaverbird_bind_BindingHasErrorsPinLaw) hisR ?_
  intro p e s m args below meth c s₁ Bd hml0 hP hK
  obtain ⟨rfl, hZ, hh⟩ := hP
  have hx := Bd.exec
  have hby := Bd.bytes
  have hml : c.maxLocals = 10 := hml0
  have hown : s.vm.findClass cs8 = some m.cls := findClass_of_methodNamed Bd.named
  have hnm := (name_of_methodNamed Bd.named Bd.method).1
  have X0 : Stand p l e room_1 s m #[(.int x0), (.int x1), (.int x2)] below meth c s₁ [] 0 0 := Stand.of_body Bd
  have e0 : s₁.heap = h0 := by rw [← hh, Bd.state]; rfl
  have N0 := Fr.nil n0
  have pre0 : ∀ t, Steps p.tables e below (s₁.setTop (mkF m 0 #[.val (.int x0), .val (.int x1), .val (.int x2), .unset, .unset, .unset, .unset, .unset, .unset, .unset] [])) t → Steps p.tables e below (s₁.setTop (entryFrame m #[(.int x0), (.int x1), (.int x2)] maxLocals)) t := fun t k => castTop (by first | (simp [entryFrame, mkF, argsToLocals, Value.category, maxLocals]; done) | rfl) k
  obtain ⟨_, _, ⟨T8, L8, k8, n8⟩, -, X8, ⟨Lc8, hQ8, l8, y8, z8⟩, st8⟩ := Jvm.LawKit.callS X0 hx (y := (⟨"java/lang/Integer", "valueOf", "(I)Ljava/lang/Integer;"⟩ : MethodName)) hown (mvT hZ (ww hw 0 rfl)) (mvT hZ (ww hw 1 rfl)) (mvT hZ (ww hw 2 rfl)) (mvT hZ (ww hw 3 rfl)) (by decide) (backOf (W := 0) (rmvalueOf l Z a0 hw [] x1 r3 d4 h0 n0 O0 f3 f4 f5 hc6 hc7) hZ (ww hw 3 rfl) (ww hw 2 rfl) (by decide) (by decide)) (g := (mkF m 27 #[.val (.int x0), .val (.int x1), .val (.int x2), .val (.int (0 : Int32)), .val (.int (0 : Int32)), .unset, .unset, .unset, .unset, .unset] [(.int x1)])) rfl (by rw [hml]; rfl) (argsL := [(.int x1)]) (rest := []) (lenOf pd__I_Ljava_lang_Integer_ rfl) rfl (by show 2 * 0 + _ ≤ _; exact Nat.le_of_eq rfl) (hb hby at_27) (fun _ _ => ⟨rfl, e0, (by decide : 0 + 1 ≤ _), (by decide : 0 + 1 ≤ _)⟩)
  dsimp only [Pt.U, Pt.locs, Pt.cells, Pt.slots] at X8 l8 y8 z8 st8 hQ8
  subst l8 y8 z8
  obtain ⟨b8_0, rfl, N8q, K8, f9⟩ := hQ8
  have N8 := Fr.app N0 N8q
  obtain ⟨T10, h10, X10, e10, E10, A10, D10, -, st10⟩ := newO X8 hx hZ hown (ww hw 7 rfl) (ww hw 8 rfl) (ww hw 9 rfl) rfl (g := (mkF m 32 #[.val (.int x0), .val (.int x1), .val (.int x2), .val (.int (0 : Int32)), .val (.int (0 : Int32)), .val (.ref b8_0), .unset, .unset, .unset, .unset] [])) rfl (hb hby at_32) (by decide) (by decide)
  obtain ⟨b10, g10⟩ : ∃ z, z = T8.heap.size := ⟨_, rfl⟩
  rw [← g10] at A10 D10 st10
  have f11 : Fld Z h10 b10 "java/util/AbstractList" "modCount" "I" (.int (0 : Int32)) := D10 (Or.inl (ww hw 29 rfl)) (ty := .int) (by decide)
  have f12 : Fld Z h10 b10 "java/util/ArrayList" "elementData" "[Ljava/lang/Object;" .null := D10 (Or.inl (ww hw 32 rfl)) (ty := (.array (.object "java/lang/Object"))) (by decide)
  have f13 : Fld Z h10 b10 "java/util/ArrayList" "size" "I" (.int (0 : Int32)) := D10 (Or.inl (ww hw 66 rfl)) (ty := .int) (by decide)
  have o15 := Old.keep O0 K8 all0
  have zz14 : n0 ≤ T8.heap.size := by rw [← o15.1]; exact o15.2.1
  have g16 := Nat.le_trans zz14 (Nat.le_of_eq g10.symm)
  have o18 := Old.ext o15 E10
  obtain ⟨_, _, ⟨T19, L19, k19, n19⟩, -, X19, ⟨Lc19, hQ19, l19, y19, z19⟩, st19⟩ := X10.specialBack hx (y := (⟨"java/util/ArrayList", "<init>", "()V"⟩ : MethodName)) rfl hown (mvT hZ (ww hw 10 rfl)) (mvT hZ (ww hw 11 rfl)) (mvT hZ (ww hw 12 rfl)) (by decide) (backOf (W := 1) (rm2_1 l Z a0 hw [] b10 r5 h10 n0 o18 A10 f11 g16 f12 f13 f17) hZ (ww hw 12 rfl) (ww hw 9 rfl) (by decide) (by decide)) (g := (mkF m 36 #[.val (.int x0), .val (.int x1), .val (.int x2), .val (.int (0 : Int32)), .val (.int (0 : Int32)), .val (.ref b8_0), .unset, .unset, .unset, .unset] [(.ref b10), (.ref b10)])) rfl (by rw [hml]; rfl) (Steps.refl _) (a := b10) (argsL := []) (rest := [(.ref b10)]) (lenOf pd___V rfl) rfl (by show 2 * 0 + _ ≤ _; exact Nat.le_of_eq rfl) (hb hby at_36) (fun _ _ => ⟨rfl, e10, (by decide : 2 + 0 ≤ _), (by decide : 4 + 0 ≤ _)⟩)
  dsimp only [Pt.U, Pt.locs, Pt.cells, Pt.slots] at X19 l19 y19 z19 st19 hQ19
  subst l19 y19 z19
  obtain ⟨rfl, N19q, K19, f20, f21, f22⟩ := hQ19
  have N19 := Fr.app N8 N19q
  obtain ⟨T23, h23, X23, e23, E23, A23, D23, -, st23⟩ := newO X19 hx hZ hown (ww hw 33 rfl) (ww hw 34 rfl) (ww hw 35 rfl) rfl (g := (mkF m 118 #[.val (.int x0), .val (.int x1), .val (.int x2), .val (.int (0 : Int32)), .val (.int (0 : Int32)), .val (.ref b8_0), .val (.ref b10), .unset, .unset, .unset] [])) rfl (hb hby at_118) (by decide) (by decide)
  obtain ⟨b23, g23⟩ : ∃ z, z = T19.heap.size := ⟨_, rfl⟩
  rw [← g23] at A23 D23 st23
  have f24 : Fld Z h23 b23 cs5 "value" "Ljava/lang/Object;" .null := D23 (Or.inr (ww hw 41 rfl)) (ty := (.object "java/lang/Object")) (by decide)
  have f25 : Fld Z h23 b23 cs5 "errors" "Ljava/util/List;" .null := D23 (Or.inr (ww hw 72 rfl)) (ty := (.object "java/util/List")) (by decide)
  have o27 := Old.keep o18 K19 (allS g16 all0)
  have zz26 : n0 ≤ T19.heap.size := by rw [← o27.1]; exact o27.2.1
  have g28 := Nat.le_trans zz26 (Nat.le_of_eq g23.symm)
  have f29 := ((A10.keep K19).ext E23)
  have f30 := (f22.ext E23)
  have zs31 := K19.1
  have n32 := Nat.ne_of_lt (Nat.lt_of_lt_of_le (Nat.lt_of_lt_of_le A10.lt zs31) (Nat.le_of_eq g23.symm))
  have o34 := Old.ext o27 E23
  obtain ⟨_, _, ⟨T35, L35, k35, n35⟩, -, X35, ⟨Lc35, hQ35, l35, y35, z35⟩, st35⟩ := X23.specialBack hx (y := (⟨cs5, "<init>", cs6⟩ : MethodName)) rfl hown (mvT hZ (ww hw 36 rfl)) (mvT hZ (ww hw 37 rfl)) (mvT hZ (ww hw 38 rfl)) (by decide) (backOf (W := 1) (rm6_2 l Z a0 hw [] b23 b8_0 b10 r6 h23 n0 o34 A23 f24 g28 f29 f30 n32 f33 f25) hZ (ww hw 38 rfl) (ww hw 35 rfl) (by decide) (by decide)) (g := (mkF m 126 #[.val (.int x0), .val (.int x1), .val (.int x2), .val (.int (0 : Int32)), .val (.int (0 : Int32)), .val (.ref b8_0), .val (.ref b10), .unset, .unset, .unset] [(.ref b10), (.ref b8_0), (.ref b23), (.ref b23)])) rfl (by rw [hml]; rfl) (Steps.refl _) (a := b23) (argsL := [(.ref b8_0), (.ref b10)]) (rest := [(.ref b23)]) (lenOf pd__Ljava_lang_Object_Ljava_util_List__V rfl) rfl (by show 2 * 0 + _ ≤ _; exact Nat.le_of_eq rfl) (hb hby at_126) (fun _ _ => ⟨rfl, e23, (by decide : 3 + 0 ≤ _), (by decide : 6 + 0 ≤ _)⟩)
  dsimp only [Pt.U, Pt.locs, Pt.cells, Pt.slots] at X35 l35 y35 z35 st35 hQ35
  subst l35 y35 z35
  obtain ⟨rfl, N35q, K35, f36, f37⟩ := hQ35
  have N35 := Fr.app N19 N35q
  have o41 := Old.keep o34 K35 (allS g28 all0)
  have f43 := (A23.keep K35)
  obtain ⟨cqq44, kqq44, qq44a, qq44b, qq44c⟩ := isOf hZ rfl f43
  obtain ⟨_, _, ⟨T42, L42, k42, n42⟩, -, X42, ⟨Lc42, hQ42, l42, y42, z42⟩, st42⟩ := X35.virtualBack hx (y := (⟨cs5, "hasErrors", "()Z"⟩ : MethodName)) (z := (⟨cs5, "hasErrors", "()Z"⟩ : MethodName)) hown (mvT hZ (ww hw 73 rfl)) (mvT hZ (ww hw 74 rfl)) (notFace_of_selects (args := #[]) (mvT hZ (ww hw 76 rfl))) (mvT hZ (ww hw 76 rfl)) (mvT hZ (ww hw 75 rfl)) (by decide) (backOf (W := 0) (rm11_1 l Z a0 hw [] b23 r6 r7 c8 T35.heap n0 o41 f37 f38 f39 f40) hZ (ww hw 77 rfl) (ww hw 35 rfl) (by decide) (by decide)) qq44a qq44c (g := (mkF m 133 #[.val (.int x0), .val (.int x1), .val (.int x2), .val (.int (0 : Int32)), .val (.int (0 : Int32)), .val (.ref b8_0), .val (.ref b10), .val (.ref b23), .unset, .unset] [(.ref b23)])) rfl (by rw [hml]; rfl) (Steps.refl _) (argsL := []) (rest := []) (lenOf pd___Z rfl) rfl (by show 2 * 0 + _ ≤ _; exact Nat.le_of_eq rfl) (hb hby at_133) (fun _ _ => ⟨rfl, rfl, (by decide : 3 + 0 ≤ _), (by decide : 6 + 0 ≤ _)⟩)
  dsimp only [Pt.U, Pt.locs, Pt.cells, Pt.slots] at X42 l42 y42 z42 st42 hQ42
  subst l42 y42 z42
  obtain ⟨rfl, N42q, E42⟩ := hQ42
  have N42 := Fr.app N35 N42q
  obtain ⟨cqq46, kqq46, qq46a, qq46b, qq46c⟩ := isOf hZ E42 f43
  obtain ⟨_, _, ⟨T45, L45, k45, n45⟩, -, X45, ⟨Lc45, hQ45, l45, y45, z45⟩, st45⟩ := X42.virtualBack hx (y := (⟨cs5, "errors", "()Ljava/util/List;"⟩ : MethodName)) (z := (⟨cs5, "errors", "()Ljava/util/List;"⟩ : MethodName)) hown (mvT hZ (ww hw 90 rfl)) (mvT hZ (ww hw 91 rfl)) (notFace_of_selects (args := #[]) (mvT hZ (ww hw 93 rfl))) (mvT hZ (ww hw 93 rfl)) (mvT hZ (ww hw 92 rfl)) (by decide) (backOf (W := 0) (rm13_1 l Z a0 hw [] b23 r6 T35.heap n0 o41 f37) hZ (ww hw 94 rfl) (ww hw 35 rfl) (by decide) (by decide)) qq46a qq46c (g := (mkF m 140 #[.val (.int x0), .val (.int x1), .val (.int x2), .val (.int (0 : Int32)), .val (.int (0 : Int32)), .val (.ref b8_0), .val (.ref b10), .val (.ref b23), .val (.int (0 : Int32)), .unset] [(.ref b23)])) rfl (by rw [hml]; rfl) (Steps.refl _) (argsL := []) (rest := []) (lenOf pd___Ljava_util_List_ rfl) rfl (by show 2 * 0 + _ ≤ _; exact Nat.le_of_eq rfl) (hb hby at_140) (fun _ _ => ⟨rfl, E42, (by decide : 3 + 0 ≤ _), (by decide : 6 + 0 ≤ _)⟩)
  dsimp only [Pt.U, Pt.locs, Pt.cells, Pt.slots] at X45 l45 y45 z45 st45 hQ45
  subst l45 y45 z45
  obtain ⟨rfl, N45q, E45⟩ := hQ45
  have N45 := Fr.app N42 N45q
  have f48 := f38.ext o41.2
  obtain ⟨cqq49, kqq49, qq49a, qq49b, qq49c⟩ := isOf hZ E45 f48
  obtain ⟨_, _, ⟨T47, L47, k47, n47⟩, -, X47, ⟨Lc47, hQ47, l47, y47, z47⟩, st47⟩ := X45.interfaceBack hx (xi := (⟨"java/util/List", "size", "()I"⟩ : MethodName)) (y := (⟨cs7, "size", "()I"⟩ : MethodName)) hown (mvT hZ (ww hw 95 rfl)) (mvT hZ (ww hw 96 rfl)) (mvT hZ (ww hw 97 rfl)) (mvT hZ (ww hw 98 rfl)) (mvT hZ (ww hw 99 rfl)) (mvT hZ (ww hw 100 rfl)) (mvT hZ (ww hw 101 rfl)) (mvT hZ (ww hw 85 rfl)) (by decide) (backOf (W := 0) (rm14_1 l Z a0 hw [] r6 r7 c8 T35.heap n0 o41 f39 f40) hZ (ww hw 102 rfl) (ww hw 86 rfl) (by decide) (by decide)) qq49a qq49b qq49c (g := (mkF m 143 #[.val (.int x0), .val (.int x1), .val (.int x2), .val (.int (0 : Int32)), .val (.int (0 : Int32)), .val (.ref b8_0), .val (.ref b10), .val (.ref b23), .val (.int (0 : Int32)), .unset] [(.ref r6)])) rfl (by rw [hml]; rfl) (Steps.refl _) (argsL := []) (rest := []) (lenOf pd___I rfl) rfl (by show 2 * 0 + _ ≤ _; exact Nat.le_of_eq rfl) (hb hby at_143) (fun _ _ => ⟨rfl, E45, (by decide : 3 + 0 ≤ _), (by decide : 6 + 0 ≤ _)⟩)
  dsimp only [Pt.U, Pt.locs, Pt.cells, Pt.slots] at X47 l47 y47 z47 st47 hQ47
  subst l47 y47 z47
  obtain ⟨rfl, N47q, E47⟩ := hQ47
  have N47 := Fr.app N45 N47q
  obtain ⟨fs, hr, hrun, hended, hW, hsame⟩ := X47.leave (v := some (.int (1 : Int32))) (fun h => by rw [Bd.returns] at h; cases h)
  refine ⟨_, _, pre0 _ ?_, hrun, hended, _, _, rfl, ?_, ReturnedEndW.of_narrow ⟨_, rfl⟩ hW (hsame.mono (by decide) (by decide))⟩
  · show Steps p.tables e below (s₁.setTop (mkF m 0 #[.val (.int x0), .val (.int x1), .val (.int x2), .unset, .unset, .unset, .unset, .unset, .unset, .unset] [])) _
    refine XS.iloadN X0.here hx rfl (hb hby at_0) rfl ?_
    refine XS.iconst X0.here hx rfl (hb hby at_1) ?_
    refine XS.iand X0.here hx rfl (hb hby at_2) rfl ?_
    show Steps p.tables e below (s₁.setTop (mkF m 3 #[.val (.int x0), .val (.int x1), .val (.int x2), .unset, .unset, .unset, .unset, .unset, .unset, .unset] [(.int (x0 &&& (3 : Int32)))])) _
    rw [hc1]
    show Steps p.tables e below (s₁.setTop (mkF m 3 #[.val (.int x0), .val (.int x1), .val (.int x2), .unset, .unset, .unset, .unset, .unset, .unset, .unset] [(.int (0 : Int32))])) _
    refine XS.istoreN X0.here hx rfl (hb hby at_3) rfl (l' := #[.val (.int x0), .val (.int x1), .val (.int x2), .val (.int (0 : Int32)), .unset, .unset, .unset, .unset, .unset, .unset]) rfl ?_
    refine XS.iloadN X0.here hx rfl (hb hby at_4) rfl ?_
    refine XS.iconst X0.here hx rfl (hb hby at_5) ?_
    refine XS.iand X0.here hx rfl (hb hby at_6) rfl ?_
    show Steps p.tables e below (s₁.setTop (mkF m 7 #[.val (.int x0), .val (.int x1), .val (.int x2), .val (.int (0 : Int32)), .unset, .unset, .unset, .unset, .unset, .unset] [(.int (x2 &&& (1 : Int32)))])) _
    refine XS.ifYes X0.here hx rfl (pc0 := 7) (pc' := 14) rfl (hb hby at_7) rfl ((if0 _ _).trans (teq hc2).1) (by decide) (by decide) ?_
    show Steps p.tables e below (s₁.setTop (mkF m 14 #[.val (.int x0), .val (.int x1), .val (.int x2), .val (.int (0 : Int32)), .unset, .unset, .unset, .unset, .unset, .unset] [])) _
    refine XS.iconst X0.here hx rfl (hb hby at_14) ?_
    refine XS.istore X0.here hx rfl (hb hby at_15) rfl (l' := #[.val (.int x0), .val (.int x1), .val (.int x2), .val (.int (0 : Int32)), .val (.int (0 : Int32)), .unset, .unset, .unset, .unset, .unset]) rfl ?_
    refine XS.iload X0.here hx rfl (hb hby at_17) rfl ?_
    refine XS.ifYes X0.here hx rfl (pc0 := 19) (pc' := 26) rfl (hb hby at_19) rfl ((if0 _ _).trans (teq (rfl : (0 : Int32) = (0 : Int32))).1) (by decide) (by decide) ?_
    show Steps p.tables e below (s₁.setTop (mkF m 26 #[.val (.int x0), .val (.int x1), .val (.int x2), .val (.int (0 : Int32)), .val (.int (0 : Int32)), .unset, .unset, .unset, .unset, .unset] [])) _
    refine XS.iloadN X0.here hx rfl (hb hby at_26) rfl ?_
    refine st8 _ ?_
    show Steps p.tables e below (T8.setTop (mkF m 30 #[.val (.int x0), .val (.int x1), .val (.int x2), .val (.int (0 : Int32)), .val (.int (0 : Int32)), .unset, .unset, .unset, .unset, .unset] [(.ref b8_0)])) _
    refine XS.astore X8.here hx rfl (hb hby at_30) rfl rfl (l' := #[.val (.int x0), .val (.int x1), .val (.int x2), .val (.int (0 : Int32)), .val (.int (0 : Int32)), .val (.ref b8_0), .unset, .unset, .unset, .unset]) rfl ?_
    refine st10 _ ?_
    show Steps p.tables e below (T10.setTop (mkF m 35 #[.val (.int x0), .val (.int x1), .val (.int x2), .val (.int (0 : Int32)), .val (.int (0 : Int32)), .val (.ref b8_0), .unset, .unset, .unset, .unset] [(.ref b10)])) _
    refine XS.dup X10.here hx rfl (hb hby at_35) rfl rfl ?_
    refine st19.trans ?_
    show Steps p.tables e below (T19.setTop (mkF m 39 #[.val (.int x0), .val (.int x1), .val (.int x2), .val (.int (0 : Int32)), .val (.int (0 : Int32)), .val (.ref b8_0), .unset, .unset, .unset, .unset] [(.ref b10)])) _
    refine XS.astore X19.here hx rfl (hb hby at_39) rfl rfl (l' := #[.val (.int x0), .val (.int x1), .val (.int x2), .val (.int (0 : Int32)), .val (.int (0 : Int32)), .val (.ref b8_0), .val (.ref b10), .unset, .unset, .unset]) rfl ?_
    refine XS.iloadN X19.here hx rfl (hb hby at_41) rfl ?_
    refine XS.iconst X19.here hx rfl (hb hby at_42) ?_
    refine XS.icmpYes X19.here hx rfl (pc0 := 43) (pc' := 67) rfl (hb hby at_43) rfl (tlt (by decide : (0 : Int32) < (1 : Int32))).1 (by decide) (by decide) ?_
    show Steps p.tables e below (T19.setTop (mkF m 67 #[.val (.int x0), .val (.int x1), .val (.int x2), .val (.int (0 : Int32)), .val (.int (0 : Int32)), .val (.ref b8_0), .val (.ref b10), .unset, .unset, .unset] [])) _
    refine XS.iloadN X19.here hx rfl (hb hby at_67) rfl ?_
    refine XS.iconst X19.here hx rfl (hb hby at_68) ?_
    refine XS.icmpYes X19.here hx rfl (pc0 := 69) (pc' := 92) rfl (hb hby at_69) rfl (tlt (by decide : (0 : Int32) < (2 : Int32))).1 (by decide) (by decide) ?_
    show Steps p.tables e below (T19.setTop (mkF m 92 #[.val (.int x0), .val (.int x1), .val (.int x2), .val (.int (0 : Int32)), .val (.int (0 : Int32)), .val (.ref b8_0), .val (.ref b10), .unset, .unset, .unset] [])) _
    refine XS.iloadN X19.here hx rfl (hb hby at_92) rfl ?_
    refine XS.iconst X19.here hx rfl (hb hby at_93) ?_
    refine XS.icmpYes X19.here hx rfl (pc0 := 94) (pc' := 118) rfl (hb hby at_94) rfl (tlt (by decide : (0 : Int32) < (3 : Int32))).1 (by decide) (by decide) ?_
    show Steps p.tables e below (T19.setTop (mkF m 118 #[.val (.int x0), .val (.int x1), .val (.int x2), .val (.int (0 : Int32)), .val (.int (0 : Int32)), .val (.ref b8_0), .val (.ref b10), .unset, .unset, .unset] [])) _
    refine st23 _ ?_
    show Steps p.tables e below (T23.setTop (mkF m 121 #[.val (.int x0), .val (.int x1), .val (.int x2), .val (.int (0 : Int32)), .val (.int (0 : Int32)), .val (.ref b8_0), .val (.ref b10), .unset, .unset, .unset] [(.ref b23)])) _
    refine XS.dup X23.here hx rfl (hb hby at_121) rfl rfl ?_
    refine XS.aload X23.here hx rfl (hb hby at_122) rfl rfl ?_
    refine XS.aload X23.here hx rfl (hb hby at_124) rfl rfl ?_
    refine st35.trans ?_
    show Steps p.tables e below (T35.setTop (mkF m 129 #[.val (.int x0), .val (.int x1), .val (.int x2), .val (.int (0 : Int32)), .val (.int (0 : Int32)), .val (.ref b8_0), .val (.ref b10), .unset, .unset, .unset] [(.ref b23)])) _
    refine XS.astore X35.here hx rfl (hb hby at_129) rfl rfl (l' := #[.val (.int x0), .val (.int x1), .val (.int x2), .val (.int (0 : Int32)), .val (.int (0 : Int32)), .val (.ref b8_0), .val (.ref b10), .val (.ref b23), .unset, .unset]) rfl ?_
    refine XS.aload X35.here hx rfl (hb hby at_131) rfl rfl ?_
    refine st42.trans ?_
    show Steps p.tables e below (T42.setTop (mkF m 136 #[.val (.int x0), .val (.int x1), .val (.int x2), .val (.int (0 : Int32)), .val (.int (0 : Int32)), .val (.ref b8_0), .val (.ref b10), .val (.ref b23), .unset, .unset] [(.int (0 : Int32))])) _
    refine XS.istore X42.here hx rfl (hb hby at_136) rfl (l' := #[.val (.int x0), .val (.int x1), .val (.int x2), .val (.int (0 : Int32)), .val (.int (0 : Int32)), .val (.ref b8_0), .val (.ref b10), .val (.ref b23), .val (.int (0 : Int32)), .unset]) rfl ?_
    refine XS.aload X42.here hx rfl (hb hby at_138) rfl rfl ?_
    refine st45.trans ?_
    show Steps p.tables e below (T45.setTop (mkF m 143 #[.val (.int x0), .val (.int x1), .val (.int x2), .val (.int (0 : Int32)), .val (.int (0 : Int32)), .val (.ref b8_0), .val (.ref b10), .val (.ref b23), .val (.int (0 : Int32)), .unset] [(.ref r6)])) _
    refine st47.trans ?_
    show Steps p.tables e below (T47.setTop (mkF m 148 #[.val (.int x0), .val (.int x1), .val (.int x2), .val (.int (0 : Int32)), .val (.int (0 : Int32)), .val (.ref b8_0), .val (.ref b10), .val (.ref b23), .val (.int (0 : Int32)), .unset] [(.int (0 : Int32))])) _
    refine XS.istore X47.here hx rfl (hb hby at_148) rfl (l' := #[.val (.int x0), .val (.int x1), .val (.int x2), .val (.int (0 : Int32)), .val (.int (0 : Int32)), .val (.ref b8_0), .val (.ref b10), .val (.ref b23), .val (.int (0 : Int32)), .val (.int (0 : Int32))]) rfl ?_
    refine XS.iload X47.here hx rfl (hb hby at_150) rfl ?_
    refine XS.iloadN X47.here hx rfl (hb hby at_152) rfl ?_
    refine XS.ifYes X47.here hx rfl (pc0 := 153) (pc' := 160) rfl (hb hby at_153) rfl ((if0 _ _).trans (teq (rfl : (0 : Int32) = (0 : Int32))).1) (by decide) (by decide) ?_
    show Steps p.tables e below (T47.setTop (mkF m 160 #[.val (.int x0), .val (.int x1), .val (.int x2), .val (.int (0 : Int32)), .val (.int (0 : Int32)), .val (.ref b8_0), .val (.ref b10), .val (.ref b23), .val (.int (0 : Int32)), .val (.int (0 : Int32))] [(.int (0 : Int32))])) _
    refine XS.iconst X47.here hx rfl (hb hby at_160) ?_
    refine XS.icmpNo X47.here hx rfl (hb hby at_161) rfl (teq (rfl : (0 : Int32) = (0 : Int32))).2 ?_
    refine XS.iload X47.here hx rfl (hb hby at_164) rfl ?_
    refine XS.iloadN X47.here hx rfl (hb hby at_166) rfl ?_
    show Steps p.tables e below (T47.setTop (mkF m 167 #[.val (.int x0), .val (.int x1), .val (.int x2), .val (.int (0 : Int32)), .val (.int (0 : Int32)), .val (.ref b8_0), .val (.ref b10), .val (.ref b23), .val (.int (0 : Int32)), .val (.int (0 : Int32))] [(.int (0 : Int32)), (.int (0 : Int32))])) _
    refine XS.icmpNo X47.here hx rfl (hb hby at_167) rfl (teq (rfl : (0 : Int32) = (0 : Int32))).2 ?_
    refine XS.iload X47.here hx rfl (hb hby at_170) rfl ?_
    refine XS.iload X47.here hx rfl (hb hby at_172) rfl ?_
    refine XS.ifYes X47.here hx rfl (pc0 := 174) (pc' := 181) rfl (hb hby at_174) rfl ((if0 _ _).trans (teq (rfl : (0 : Int32) = (0 : Int32))).1) (by decide) (by decide) ?_
    show Steps p.tables e below (T47.setTop (mkF m 181 #[.val (.int x0), .val (.int x1), .val (.int x2), .val (.int (0 : Int32)), .val (.int (0 : Int32)), .val (.ref b8_0), .val (.ref b10), .val (.ref b23), .val (.int (0 : Int32)), .val (.int (0 : Int32))] [(.int (0 : Int32))])) _
    refine XS.iconst X47.here hx rfl (hb hby at_181) ?_
    refine XS.icmpNo X47.here hx rfl (hb hby at_182) rfl (teq (rfl : (0 : Int32) = (0 : Int32))).2 ?_
    refine XS.iconst X47.here hx rfl (hb hby at_185) ?_
    refine XS.goto X47.here hx rfl (pc0 := 186) (pc' := 190) rfl (hb hby at_186) (by decide) (by decide) ?_
    show Steps p.tables e below (T47.setTop (mkF m 190 #[.val (.int x0), .val (.int x1), .val (.int x2), .val (.int (0 : Int32)), .val (.int (0 : Int32)), .val (.ref b8_0), .val (.ref b10), .val (.ref b23), .val (.int (0 : Int32)), .val (.int (0 : Int32))] [(.int (1 : Int32))])) _
    exact retN X47 hx (t := .boolean) Bd.returns (by simp) (hb hby at_190) hr
  · show Q0_2 Z x0 x1 x2 r3 d4 r5 r6 r7 c8 h0 n0 _ T47.heap _
    rw [E47]
    exact ⟨rfl, N47⟩
theorem own_str : ∀ a ∈ Bundle.stringAtoms, a ∈ tables_1 := by decide +kernel
theorem d15_0 : decode prog_7_method_1_code 0 = .ok (.aload_n 0, 1) := by decide +kernel
theorem d15_1 : decode prog_7_method_1_code 1 = .ok (.invokespecial 1, 3) := by decide +kernel
theorem d15_4 : decode prog_7_method_1_code 4 = .ok (.aload_n 0, 1) := by decide +kernel
theorem d15_5 : decode prog_7_method_1_code 5 = .ok (.aload_n 1, 1) := by decide +kernel
theorem d15_6 : decode prog_7_method_1_code 6 = .ok (.putfield 7, 3) := by decide +kernel
theorem d15_9 : decode prog_7_method_1_code 9 = .ok (.aload_n 0, 1) := by decide +kernel
theorem d15_10 : decode prog_7_method_1_code 10 = .ok (.aload_n 2, 1) := by decide +kernel
theorem d15_11 : decode prog_7_method_1_code 11 = .ok (.putfield 13, 3) := by decide +kernel
theorem d15_14 : decode prog_7_method_1_code 14 = .ok (.aload_n 0, 1) := by decide +kernel
theorem d15_15 : decode prog_7_method_1_code 15 = .ok (.aload_n 3, 1) := by decide +kernel
theorem d15_16 : decode prog_7_method_1_code 16 = .ok (.putfield 16, 3) := by decide +kernel
theorem d15_19 : decode prog_7_method_1_code 19 = .ok (.aload_n 0, 1) := by decide +kernel
theorem d15_20 : decode prog_7_method_1_code 20 = .ok (.aload 4, 2) := by decide +kernel
theorem d15_22 : decode prog_7_method_1_code 22 = .ok (.putfield 19, 3) := by decide +kernel
theorem d15_25 : decode prog_7_method_1_code 25 = .ok (.return_, 1) := by decide +kernel
theorem pn_com_example_weaverbird_weaverbird_bind_FieldError : plainName cs10 = true := by first | (simp [plainName, overriddenIn]; done) | decide +kernel
def Q15_1 (Z : State) (r0 : Addr) (r1 : Addr) (r2 : Addr) (r3 : Addr) (r4 : Addr) (h0 : Heap) (n0 : Nat) (v : Option Value) (h : Heap) (L : List Loc) : Prop := v = none ∧ Fr n0 L ∧ Keep h0 h [r0] ∧ Fld Z h r0 cs10 "path" "Ljava/lang/String;" (.ref r1) ∧ Fld Z h r0 cs10 "code" "Ljava/lang/String;" (.ref r2) ∧ Fld Z h r0 cs10 "rejected" "Ljava/lang/String;" (.ref r3) ∧ Fld Z h r0 cs10 "message" "Ljava/lang/String;" (.ref r4)
set_option maxRecDepth 65536 in
set_option maxHeartbeats 40000000 in
theorem rm15_1 (l : Launch) (Z : State) (a0 : Array Value) (hw : ∀ d ∈ tables_1, d.before a0 Z = true) (ws : List Jvm.Cond) (r0 : Addr) (r1 : Addr) (r2 : Addr) (r3 : Addr) (r4 : Addr) (h0 : Heap) (n0 : Nat) (O0 : Old Z n0 h0) (f2 : Exa Z h0 r0 cs10) (f3 : Fld Z h0 r0 cs10 "path" "Ljava/lang/String;" .null) (g4 : n0 ≤ r0) (f7 : Fld Z h0 r0 cs10 "code" "Ljava/lang/String;" .null) (f11 : Fld Z h0 r0 cs10 "rejected" "Ljava/lang/String;" .null) (f15 : Fld Z h0 r0 cs10 "message" "Ljava/lang/String;" .null) :
    MetFree l (⟨cs10, "<init>", cs11⟩ : MethodName) (head1 (Jvm.Cond.code (⟨cs10, "<init>", cs11⟩ : MethodName) prog_7_method_1_code 5 none :: ws) ({ frames := 1, cells := 0, slots := 0, locals := 12 } : Room)) (fun a U => a = #[(.ref r0), (.ref r1), (.ref r2), (.ref r3), (.ref r4)] ∧ Z.Warmed39 U.vm ∧ U.heap = h0) (fun _ _ _ _ _ => True) (fun _ U o U' => ∃ v L, o = .returned v ∧ Q15_1 Z r0 r1 r2 r3 r4 h0 n0 v U'.heap L ∧ FrameEnd U o U' L ({ frames := 1, cells := 0, slots := 0, locals := 12 } : Room).cells ({ frames := 1, cells := 0, slots := 0, locals := 12 } : Room).slots) := by
  refine MetFree.of_bodySF (plainFor_of_name pn_com_example_weaverbird_weaverbird_bind_FieldError) hisR ?_
  intro p e s m args below meth c s₁ Bd hml0 hP hK
  obtain ⟨rfl, hZ, hh⟩ := hP
  have hx := Bd.exec
  have hby := Bd.bytes
  have hml : c.maxLocals = 5 := hml0
  have hown : s.vm.findClass cs10 = some m.cls := findClass_of_methodNamed Bd.named
  have hnm := (name_of_methodNamed Bd.named Bd.method).1
  have X0 : Stand p l e ({ frames := 1, cells := 0, slots := 0, locals := 12 } : Room) s m #[(.ref r0), (.ref r1), (.ref r2), (.ref r3), (.ref r4)] below meth c s₁ [] 0 0 := Stand.of_body Bd
  have e0 : s₁.heap = h0 := by rw [← hh, Bd.state]; rfl
  have N0 := Fr.nil n0
  have pre0 : ∀ t, Steps p.tables e below (s₁.setTop (mkF m 0 #[.val (.ref r0), .val (.ref r1), .val (.ref r2), .val (.ref r3), .val (.ref r4)] [])) t → Steps p.tables e below (s₁.setTop (entryFrame m #[(.ref r0), (.ref r1), (.ref r2), (.ref r3), (.ref r4)] 5)) t := fun t k => castTop (by first | (simp [entryFrame, mkF, argsToLocals, Value.category]; done) | rfl) k
  obtain ⟨T1, X1, e1, st1⟩ := initO X0 hx hZ hown (ww hw 120 rfl) (ww hw 26 rfl) (ww hw 27 rfl) e0 (g := (mkF m 1 #[.val (.ref r0), .val (.ref r1), .val (.ref r2), .val (.ref r3), .val (.ref r4)] [(.ref r0)])) rfl (by rw [hml]; rfl) rfl (hb hby d15_1) (by decide) (W := 0) (by show 2 * 0 + _ ≤ _; exact Nat.le_of_eq rfl) (by decide)
  obtain ⟨T5, h5, X5, e5, W5, st5⟩ := putF X1 hx hZ hown (host := "") (Or.inl (ww hw 121 rfl)) Via.refl e1 f3 f2 (Or.inr ⟨(ww hw 122 rfl), rfl, hnm⟩) (ww hw 104 rfl) (ty := (.object "java/lang/String")) (by decide) rfl rfl (g := (mkF m 6 #[.val (.ref r0), .val (.ref r1), .val (.ref r2), .val (.ref r3), .val (.ref r4)] [(.ref r1), (.ref r0)])) rfl rfl (hb hby d15_6)
  have Fw5 := f3.same W5
  have N5 := Fr.snoc X5 N0 g4
  have f6 := (f2.wr W5)
  have f8 := (f7.other W5 (Or.inr (slot_ne (Or.inr (ww hw 124 rfl)) (Or.inr (ww hw 122 rfl)) (by decide) (t := (.object "java/lang/String")) (t' := (.object "java/lang/String")) (by decide) (by decide))))
  obtain ⟨T9, h9, X9, e9, W9, st9⟩ := putF X5 hx hZ hown (host := "") (Or.inl (ww hw 123 rfl)) Via.refl e5 f8 f6 (Or.inr ⟨(ww hw 124 rfl), rfl, hnm⟩) (ww hw 104 rfl) (ty := (.object "java/lang/String")) (by decide) rfl rfl (g := (mkF m 11 #[.val (.ref r0), .val (.ref r1), .val (.ref r2), .val (.ref r3), .val (.ref r4)] [(.ref r2), (.ref r0)])) rfl rfl (hb hby d15_11)
  have Fw9 := f8.same W9
  have N9 := Fr.snoc X9 N5 g4
  have f10 := (f6.wr W9)
  have f12 := ((f11.other W5 (Or.inr (slot_ne (Or.inr (ww hw 126 rfl)) (Or.inr (ww hw 122 rfl)) (by decide) (t := (.object "java/lang/String")) (t' := (.object "java/lang/String")) (by decide) (by decide)))).other W9 (Or.inr (slot_ne (Or.inr (ww hw 126 rfl)) (Or.inr (ww hw 124 rfl)) (by decide) (t := (.object "java/lang/String")) (t' := (.object "java/lang/String")) (by decide) (by decide))))
  obtain ⟨T13, h13, X13, e13, W13, st13⟩ := putF X9 hx hZ hown (host := "") (Or.inl (ww hw 125 rfl)) Via.refl e9 f12 f10 (Or.inr ⟨(ww hw 126 rfl), rfl, hnm⟩) (ww hw 104 rfl) (ty := (.object "java/lang/String")) (by decide) rfl rfl (g := (mkF m 16 #[.val (.ref r0), .val (.ref r1), .val (.ref r2), .val (.ref r3), .val (.ref r4)] [(.ref r3), (.ref r0)])) rfl rfl (hb hby d15_16)
  have Fw13 := f12.same W13
  have N13 := Fr.snoc X13 N9 g4
  have f14 := (f10.wr W13)
  have f16 := (((f15.other W5 (Or.inr (slot_ne (Or.inr (ww hw 128 rfl)) (Or.inr (ww hw 122 rfl)) (by decide) (t := (.object "java/lang/String")) (t' := (.object "java/lang/String")) (by decide) (by decide)))).other W9 (Or.inr (slot_ne (Or.inr (ww hw 128 rfl)) (Or.inr (ww hw 124 rfl)) (by decide) (t := (.object "java/lang/String")) (t' := (.object "java/lang/String")) (by decide) (by decide)))).other W13 (Or.inr (slot_ne (Or.inr (ww hw 128 rfl)) (Or.inr (ww hw 126 rfl)) (by decide) (t := (.object "java/lang/String")) (t' := (.object "java/lang/String")) (by decide) (by decide))))
  obtain ⟨T17, h17, X17, e17, W17, st17⟩ := putF X13 hx hZ hown (host := "") (Or.inl (ww hw 127 rfl)) Via.refl e13 f16 f14 (Or.inr ⟨(ww hw 128 rfl), rfl, hnm⟩) (ww hw 104 rfl) (ty := (.object "java/lang/String")) (by decide) rfl rfl (g := (mkF m 22 #[.val (.ref r0), .val (.ref r1), .val (.ref r2), .val (.ref r3), .val (.ref r4)] [(.ref r4), (.ref r0)])) rfl rfl (hb hby d15_22)
  have Fw17 := f16.same W17
  have N17 := Fr.snoc X17 N13 g4
  have f18 := (((Fw5.other W9 (Or.inr (slot_ne (Or.inr (ww hw 122 rfl)) (Or.inr (ww hw 124 rfl)) (by decide) (t := (.object "java/lang/String")) (t' := (.object "java/lang/String")) (by decide) (by decide)))).other W13 (Or.inr (slot_ne (Or.inr (ww hw 122 rfl)) (Or.inr (ww hw 126 rfl)) (by decide) (t := (.object "java/lang/String")) (t' := (.object "java/lang/String")) (by decide) (by decide)))).other W17 (Or.inr (slot_ne (Or.inr (ww hw 122 rfl)) (Or.inr (ww hw 128 rfl)) (by decide) (t := (.object "java/lang/String")) (t' := (.object "java/lang/String")) (by decide) (by decide))))
  have f19 := ((Fw9.other W13 (Or.inr (slot_ne (Or.inr (ww hw 124 rfl)) (Or.inr (ww hw 126 rfl)) (by decide) (t := (.object "java/lang/String")) (t' := (.object "java/lang/String")) (by decide) (by decide)))).other W17 (Or.inr (slot_ne (Or.inr (ww hw 124 rfl)) (Or.inr (ww hw 128 rfl)) (by decide) (t := (.object "java/lang/String")) (t' := (.object "java/lang/String")) (by decide) (by decide))))
  have f20 := (Fw13.other W17 (Or.inr (slot_ne (Or.inr (ww hw 126 rfl)) (Or.inr (ww hw 128 rfl)) (by decide) (t := (.object "java/lang/String")) (t' := (.object "java/lang/String")) (by decide) (by decide))))
  have kp21 : Keep h0 h5 [r0] := (Keep.refl h0 [r0]).wr W5 (Or.inl (List.mem_of_getElem? (i := 0) rfl))
  have kp22 : Keep h0 h9 [r0] := kp21.wr W9 (Or.inl (List.mem_of_getElem? (i := 0) rfl))
  have kp23 : Keep h0 h13 [r0] := kp22.wr W13 (Or.inl (List.mem_of_getElem? (i := 0) rfl))
  have kp24 : Keep h0 h17 [r0] := kp23.wr W17 (Or.inl (List.mem_of_getElem? (i := 0) rfl))
  obtain ⟨fs, hr, hrun, hended, hW, hsame⟩ := X17.leave (v := none) (fun _ => rfl)
  refine ⟨_, _, pre0 _ ?_, hrun, hended, _, _, rfl, ?_, ⟨_, rfl⟩, hW, hsame.mono (by decide) (by decide)⟩
  · show Steps p.tables e below (s₁.setTop (mkF m 0 #[.val (.ref r0), .val (.ref r1), .val (.ref r2), .val (.ref r3), .val (.ref r4)] [])) _
    refine XS.aloadN X0.here hx rfl (hb hby d15_0) rfl rfl ?_
    refine st1 _ ?_
    show Steps p.tables e below (T1.setTop (mkF m 4 #[.val (.ref r0), .val (.ref r1), .val (.ref r2), .val (.ref r3), .val (.ref r4)] [])) _
    refine XS.aloadN X1.here hx rfl (hb hby d15_4) rfl rfl ?_
    refine XS.aloadN X1.here hx rfl (hb hby d15_5) rfl rfl ?_
    refine st5 _ ?_
    show Steps p.tables e below (T5.setTop (mkF m 9 #[.val (.ref r0), .val (.ref r1), .val (.ref r2), .val (.ref r3), .val (.ref r4)] [])) _
    refine XS.aloadN X5.here hx rfl (hb hby d15_9) rfl rfl ?_
    refine XS.aloadN X5.here hx rfl (hb hby d15_10) rfl rfl ?_
    refine st9 _ ?_
    show Steps p.tables e below (T9.setTop (mkF m 14 #[.val (.ref r0), .val (.ref r1), .val (.ref r2), .val (.ref r3), .val (.ref r4)] [])) _
    refine XS.aloadN X9.here hx rfl (hb hby d15_14) rfl rfl ?_
    refine XS.aloadN X9.here hx rfl (hb hby d15_15) rfl rfl ?_
    refine st13 _ ?_
    show Steps p.tables e below (T13.setTop (mkF m 19 #[.val (.ref r0), .val (.ref r1), .val (.ref r2), .val (.ref r3), .val (.ref r4)] [])) _
    refine XS.aloadN X13.here hx rfl (hb hby d15_19) rfl rfl ?_
    refine XS.aload X13.here hx rfl (hb hby d15_20) rfl rfl ?_
    refine st17 _ ?_
    show Steps p.tables e below (T17.setTop (mkF m 25 #[.val (.ref r0), .val (.ref r1), .val (.ref r2), .val (.ref r3), .val (.ref r4)] [])) _
    exact X17.returnOut hx Bd.returns (hb hby d15_25) hr
  · show Q15_1 Z r0 r1 r2 r3 r4 h0 n0 _ T17.heap _
    rw [e17]
    exact ⟨rfl, N17, kp24, f18, f19, f20, Fw17⟩
theorem pd__Ljava_lang_String_Ljava_lang_String_Ljava_lang_String_Ljava_lang_String__V : parseMethodDescriptor cs11 = some ⟨[(.object "java/lang/String"), (.object "java/lang/String"), (.object "java/lang/String"), (.object "java/lang/String")], none⟩ := by decide +kernel
theorem d16_0 : decode jdk_38_method_25_code 0 = .ok (.aload_n 0, 1) := by decide +kernel
theorem d16_1 : decode jdk_38_method_25_code 1 = .ok (.dup, 1) := by decide +kernel
theorem d16_2 : decode jdk_38_method_25_code 2 = .ok (.getfield 63, 3) := by decide +kernel
theorem d16_5 : decode jdk_38_method_25_code 5 = .ok (.iconst 1, 1) := by decide +kernel
theorem d16_6 : decode jdk_38_method_25_code 6 = .ok (.iadd, 1) := by decide +kernel
theorem d16_7 : decode jdk_38_method_25_code 7 = .ok (.putfield 63, 3) := by decide +kernel
theorem d16_10 : decode jdk_38_method_25_code 10 = .ok (.aload_n 0, 1) := by decide +kernel
theorem d16_11 : decode jdk_38_method_25_code 11 = .ok (.aload_n 1, 1) := by decide +kernel
theorem d16_12 : decode jdk_38_method_25_code 12 = .ok (.aload_n 0, 1) := by decide +kernel
theorem d16_13 : decode jdk_38_method_25_code 13 = .ok (.getfield 9, 3) := by decide +kernel
theorem d16_16 : decode jdk_38_method_25_code 16 = .ok (.aload_n 0, 1) := by decide +kernel
theorem d16_17 : decode jdk_38_method_25_code 17 = .ok (.getfield 48, 3) := by decide +kernel
theorem d16_20 : decode jdk_38_method_25_code 20 = .ok (.invokevirtual 131, 3) := by decide +kernel
theorem d17_0 : decode jdk_38_method_24_code 0 = .ok (.iload_n 3, 1) := by decide +kernel
theorem d17_1 : decode jdk_38_method_24_code 1 = .ok (.aload_n 2, 1) := by decide +kernel
theorem d17_2 : decode jdk_38_method_24_code 2 = .ok (.arraylength, 1) := by decide +kernel
theorem d17_3 : decode jdk_38_method_24_code 3 = .ok (.if_icmp .ne 8, 3) := by decide +kernel
theorem d17_6 : decode jdk_38_method_24_code 6 = .ok (.aload_n 0, 1) := by decide +kernel
theorem d17_7 : decode jdk_38_method_24_code 7 = .ok (.invokevirtual 129, 3) := by decide +kernel
theorem d18_0 : decode jdk_38_method_7_code 0 = .ok (.aload_n 0, 1) := by decide +kernel
theorem d18_1 : decode jdk_38_method_7_code 1 = .ok (.aload_n 0, 1) := by decide +kernel
theorem d18_2 : decode jdk_38_method_7_code 2 = .ok (.getfield 48, 3) := by decide +kernel
theorem d18_5 : decode jdk_38_method_7_code 5 = .ok (.iconst 1, 1) := by decide +kernel
theorem d18_6 : decode jdk_38_method_7_code 6 = .ok (.iadd, 1) := by decide +kernel
theorem d18_7 : decode jdk_38_method_7_code 7 = .ok (.invokevirtual 69, 3) := by decide +kernel
theorem d19_0 : decode jdk_38_method_6_code 0 = .ok (.aload_n 0, 1) := by decide +kernel
theorem d19_1 : decode jdk_38_method_6_code 1 = .ok (.getfield 9, 3) := by decide +kernel
theorem d19_4 : decode jdk_38_method_6_code 4 = .ok (.arraylength, 1) := by decide +kernel
theorem d19_5 : decode jdk_38_method_6_code 5 = .ok (.istore_n 2, 1) := by decide +kernel
theorem d19_6 : decode jdk_38_method_6_code 6 = .ok (.iload_n 2, 1) := by decide +kernel
theorem d19_7 : decode jdk_38_method_6_code 7 = .ok (.ifCond .gt 13, 3) := by decide +kernel
theorem d19_10 : decode jdk_38_method_6_code 10 = .ok (.aload_n 0, 1) := by decide +kernel
theorem d19_11 : decode jdk_38_method_6_code 11 = .ok (.getfield 9, 3) := by decide +kernel
theorem d19_14 : decode jdk_38_method_6_code 14 = .ok (.getstatic 39, 3) := by decide +kernel
theorem d19_17 : decode jdk_38_method_6_code 17 = .ok (.if_acmp .eq 28, 3) := by decide +kernel
theorem d19_45 : decode jdk_38_method_6_code 45 = .ok (.aload_n 0, 1) := by decide +kernel
theorem d19_46 : decode jdk_38_method_6_code 46 = .ok (.bipush 10, 2) := by decide +kernel
theorem d19_48 : decode jdk_38_method_6_code 48 = .ok (.iload_n 1, 1) := by decide +kernel
theorem d19_49 : decode jdk_38_method_6_code 49 = .ok (.invokestatic 79, 3) := by decide +kernel
theorem d20_0 : decode jdk_29_method_65_code 0 = .ok (.iload_n 0, 1) := by decide +kernel
theorem d20_1 : decode jdk_29_method_65_code 1 = .ok (.iload_n 1, 1) := by decide +kernel
theorem d20_2 : decode jdk_29_method_65_code 2 = .ok (.if_icmp .lt 7, 3) := by decide +kernel
theorem d20_5 : decode jdk_29_method_65_code 5 = .ok (.iload_n 0, 1) := by decide +kernel
theorem d20_6 : decode jdk_29_method_65_code 6 = .ok (.goto 4, 3) := by decide +kernel
theorem d20_10 : decode jdk_29_method_65_code 10 = .ok (.ireturn, 1) := by decide +kernel
def Q20_1 (Z : State)  (h0 : Heap) (n0 : Nat) (v : Option Value) (h : Heap) (L : List Loc) : Prop := v = some (.int (10 : Int32)) ∧ Fr n0 L ∧ h = h0
set_option maxRecDepth 65536 in
set_option maxHeartbeats 40000000 in
theorem rm20_1 (l : Launch) (Z : State) (a0 : Array Value) (hw : ∀ d ∈ tables_1, d.before a0 Z = true) (ws : List Jvm.Cond)  (h0 : Heap) (n0 : Nat) (O0 : Old Z n0 h0) :
    MetFree l (⟨"java/lang/Math", "max", "(II)I"⟩ : MethodName) (head1 (Jvm.Cond.code (⟨"java/lang/Math", "max", "(II)I"⟩ : MethodName) jdk_29_method_65_code 2 (some .int) :: ws) ({ frames := 0, cells := 0, slots := 0, locals := 0 } : Room)) (fun a U => a = #[(.int (10 : Int32)), (.int (1 : Int32))] ∧ Z.Warmed39 U.vm ∧ U.heap = h0) (fun _ _ _ _ _ => True) (fun _ U o U' => ∃ v L, o = .returned v ∧ Q20_1 Z  h0 n0 v U'.heap L ∧ FrameEnd U o U' L ({ frames := 0, cells := 0, slots := 0, locals := 0 } : Room).cells ({ frames := 0, cells := 0, slots := 0, locals := 0 } : Room).slots) := by
  refine MetFree.of_bodySF (Jvm.Free.JP.mathPlain rfl (by decide +kernel)) hisR ?_
  intro p e s m args below meth c s₁ Bd hml0 hP hK
  obtain ⟨rfl, hZ, hh⟩ := hP
  have hx := Bd.exec
  have hby := Bd.bytes
  have hml : c.maxLocals = 2 := hml0
  have hown : s.vm.findClass "java/lang/Math" = some m.cls := findClass_of_methodNamed Bd.named
  have hnm := (name_of_methodNamed Bd.named Bd.method).1
  have X0 : Stand p l e ({ frames := 0, cells := 0, slots := 0, locals := 0 } : Room) s m #[(.int (10 : Int32)), (.int (1 : Int32))] below meth c s₁ [] 0 0 := Stand.of_body Bd
  have e0 : s₁.heap = h0 := by rw [← hh, Bd.state]; rfl
  have N0 := Fr.nil n0
  have pre0 : ∀ t, Steps p.tables e below (s₁.setTop (mkF m 0 #[.val (.int (10 : Int32)), .val (.int (1 : Int32))] [])) t → Steps p.tables e below (s₁.setTop (entryFrame m #[(.int (10 : Int32)), (.int (1 : Int32))] 2)) t := fun t k => castTop (by first | (simp [entryFrame, mkF, argsToLocals, Value.category]; done) | rfl) k
  obtain ⟨fs, hr, hrun, hended, hW, hsame⟩ := X0.leave (v := some (.int (10 : Int32))) (fun h => by rw [Bd.returns] at h; cases h)
  refine ⟨_, _, pre0 _ ?_, hrun, hended, _, _, rfl, ?_, ⟨_, rfl⟩, hW, hsame.mono (by decide) (by decide)⟩
  · show Steps p.tables e below (s₁.setTop (mkF m 0 #[.val (.int (10 : Int32)), .val (.int (1 : Int32))] [])) _
    refine XS.iloadN X0.here hx rfl (hb hby d20_0) rfl ?_
    refine XS.iloadN X0.here hx rfl (hb hby d20_1) rfl ?_
    refine XS.icmpNo X0.here hx rfl (hb hby d20_2) rfl (flt (by decide : ¬ ((10 : Int32) < (1 : Int32)))).1 ?_
    refine XS.iloadN X0.here hx rfl (hb hby d20_5) rfl ?_
    show Steps p.tables e below (s₁.setTop (mkF m 6 #[.val (.int (10 : Int32)), .val (.int (1 : Int32))] [(.int (10 : Int32))])) _
    refine XS.goto X0.here hx rfl (pc0 := 6) (pc' := 10) rfl (hb hby d20_6) (by decide) (by decide) ?_
    show Steps p.tables e below (s₁.setTop (mkF m 10 #[.val (.int (10 : Int32)), .val (.int (1 : Int32))] [(.int (10 : Int32))])) _
    exact retOut X0 hx (i := .ireturn) Bd.returns rfl (Or.inl ⟨rfl, Or.inl rfl, _, rfl⟩) (hb hby d20_10) hr
  · show Q20_1 Z  h0 n0 _ s₁.heap _
    rw [e0]
    exact ⟨rfl, N0, rfl⟩
theorem pd__II_I : parseMethodDescriptor "(II)I" = some ⟨[.int, .int], some .int⟩ := by decide +kernel
theorem d19_52 : decode jdk_38_method_6_code 52 = .ok (.anewarray 7, 3) := by decide +kernel
theorem d19_55 : decode jdk_38_method_6_code 55 = .ok (.dup_x1, 1) := by decide +kernel
theorem d19_56 : decode jdk_38_method_6_code 56 = .ok (.putfield 9, 3) := by decide +kernel
theorem d19_59 : decode jdk_38_method_6_code 59 = .ok (.areturn, 1) := by decide +kernel
def Q19_1 (Z : State) (r0 : Addr) (r1 : Addr) (c2 : ClassId) (h0 : Heap) (n0 : Nat) (v : Option Value) (h : Heap) (L : List Loc) : Prop := ∃ (b11 : Addr) (k11 : ClassId), v = some (.ref b11) ∧ Fr n0 L ∧ Keep h0 h [r0] ∧ Fld Z h r0 "java/util/ArrayList" "elementData" "[Ljava/lang/Object;" (.ref b11) ∧ Fld Z h r0 "java/util/ArrayList" "size" "I" (.int (0 : Int32)) ∧ Fld Z h r0 "java/util/AbstractList" "modCount" "I" (.int (1 : Int32)) ∧ h0.size ≤ b11 ∧ Arv Z h b11 k11 (.object "java/lang/Object") (10 : Int32) [.null, .null, .null, .null, .null, .null, .null, .null, .null, .null] .null ∧ Exa Z h b11 "[Ljava/lang/Object;" ∧ Ovr Z k11 "java/lang/Object"
set_option maxRecDepth 65536 in
set_option maxHeartbeats 40000000 in
theorem rm19_1 (l : Launch) (Z : State) (a0 : Array Value) (hw : ∀ d ∈ tables_1, d.before a0 Z = true) (ws : List Jvm.Cond) (r0 : Addr) (r1 : Addr) (c2 : ClassId) (h0 : Heap) (n0 : Nat) (O0 : Old Z n0 h0) (f1 : Fld Z h0 r0 "java/util/ArrayList" "elementData" "[Ljava/lang/Object;" (.ref r1)) (f3 : Arv Z Z.heap r1 c2 (.object "java/lang/Object") (0 : Int32) [] .null) (f7 : Sta Z Z.heap "java/util/ArrayList" cs1 "[Ljava/lang/Object;" (.ref r1)) (f12 : Exa Z h0 r0 "java/util/ArrayList") (g15 : n0 ≤ r0) (f17 : Fld Z h0 r0 "java/util/ArrayList" "size" "I" (.int (0 : Int32))) (f19 : Fld Z h0 r0 "java/util/AbstractList" "modCount" "I" (.int (1 : Int32))) (l21 : r0 < h0.size) :
    MetFree l (⟨"java/util/ArrayList", "grow", "(I)[Ljava/lang/Object;"⟩ : MethodName) (head1 (Jvm.Cond.code (⟨"java/util/ArrayList", "grow", "(I)[Ljava/lang/Object;"⟩ : MethodName) jdk_38_method_6_code 4 (some (.array (.object "java/lang/Object"))) :: ws) ({ frames := 1, cells := 1, slots := 10, locals := 14 } : Room)) (fun a U => a = #[(.ref r0), (.int (1 : Int32))] ∧ Z.Warmed39 U.vm ∧ U.heap = h0) (fun _ _ _ _ _ => True) (fun _ U o U' => ∃ v L, o = .returned v ∧ Q19_1 Z r0 r1 c2 h0 n0 v U'.heap L ∧ FrameEnd U o U' L ({ frames := 1, cells := 1, slots := 10, locals := 14 } : Room).cells ({ frames := 1, cells := 1, slots := 10, locals := 14 } : Room).slots) := by
  refine MetFree.of_bodySF (plainFor_of_name pn_java_util_ArrayList) hisR ?_
  intro p e s m args below meth c s₁ Bd hml0 hP hK
  obtain ⟨rfl, hZ, hh⟩ := hP
  have hx := Bd.exec
  have hby := Bd.bytes
  have hml : c.maxLocals = 4 := hml0
  have hown : s.vm.findClass "java/util/ArrayList" = some m.cls := findClass_of_methodNamed Bd.named
  have hnm := (name_of_methodNamed Bd.named Bd.method).1
  have X0 : Stand p l e ({ frames := 1, cells := 1, slots := 10, locals := 14 } : Room) s m #[(.ref r0), (.int (1 : Int32))] below meth c s₁ [] 0 0 := Stand.of_body Bd
  have e0 : s₁.heap = h0 := by rw [← hh, Bd.state]; rfl
  have N0 := Fr.nil n0
  have pre0 : ∀ t, Steps p.tables e below (s₁.setTop (mkF m 0 #[.val (.ref r0), .val (.int (1 : Int32)), .unset, .unset] [])) t → Steps p.tables e below (s₁.setTop (entryFrame m #[(.ref r0), (.int (1 : Int32))] 4)) t := fun t k => castTop (by first | (simp [entryFrame, mkF, argsToLocals, Value.category]; done) | rfl) k
  obtain ⟨T2, X2, e2, st2⟩ := getF X0 hx hZ hown (host := "") (Or.inl (ww hw 31 rfl)) Via.refl e0 f1 (g := (mkF m 1 #[.val (.ref r0), .val (.int (1 : Int32)), .unset, .unset] [(.ref r0)])) rfl rfl (hb hby d19_1)
  have f4 := f3.ext O0.2
  obtain ⟨clq5, Arq5, qq5, Sq5, Nq5, Hq5, Gq5⟩ := id f4
  obtain ⟨T6, X6, e6, st6⟩ := getF X2 hx hZ hown (host := "") (Or.inl (ww hw 31 rfl)) Via.refl e2 f1 (g := (mkF m 11 #[.val (.ref r0), .val (.int (1 : Int32)), .val (.int (0 : Int32)), .unset] [(.ref r0)])) rfl rfl (hb hby d19_11)
  have f8 := f7.ext O0.2
  obtain ⟨T9, X9, e9, st9⟩ := getS2 X6 hx hZ hown (host := "") (Or.inl (ww hw 30 rfl)) Via.refl e6 f8 (g := (mkF m 14 #[.val (.ref r0), .val (.int (1 : Int32)), .val (.int (0 : Int32)), .unset] [(.ref r1)])) rfl (hb hby d19_14)
  obtain ⟨_, _, ⟨T10, L10, k10, n10⟩, -, X10, ⟨Lc10, hQ10, l10, y10, z10⟩, st10⟩ := Jvm.LawKit.callS X9 hx (y := (⟨"java/lang/Math", "max", "(II)I"⟩ : MethodName)) hown (mvT hZ (ww hw 151 rfl)) (mvT hZ (ww hw 152 rfl)) (mvT hZ (ww hw 153 rfl)) (mvT hZ (ww hw 154 rfl)) (by decide) (backOf (W := 1) (rm20_1 l Z a0 hw [] h0 n0 O0) hZ (ww hw 154 rfl) (ww hw 153 rfl) (by decide) (by decide)) (g := (mkF m 49 #[.val (.ref r0), .val (.int (1 : Int32)), .val (.int (0 : Int32)), .unset] [(.int (1 : Int32)), (.int (10 : Int32)), (.ref r0)])) rfl (by rw [hml]; rfl) (argsL := [(.int (10 : Int32)), (.int (1 : Int32))]) (rest := [(.ref r0)]) (lenOf pd__II_I rfl) rfl (by show 2 * 0 + _ ≤ _; exact Nat.le_of_eq rfl) (hb hby d19_49) (fun _ _ => ⟨rfl, e9, (by decide : 0 + 0 ≤ _), (by decide : 0 + 0 ≤ _)⟩)
  dsimp only [Pt.U, Pt.locs, Pt.cells, Pt.slots] at X10 l10 y10 z10 st10 hQ10
  subst l10 y10 z10
  obtain ⟨rfl, N10q, E10⟩ := hQ10
  have N10 := Fr.app N0 N10q
  obtain ⟨T11, h11, k11, X11, e11, E11, A11, B11, O11, st11⟩ := newRE X10 hx hZ hown (ww hw 155 rfl) (ww hw 156 rfl) E10 (g := (mkF m 52 #[.val (.ref r0), .val (.int (1 : Int32)), .val (.int (0 : Int32)), .unset] [(.int (10 : Int32)), (.ref r0)])) rfl (hb hby d19_52) rfl (by decide) (cap := 10) (by decide) (by decide) (by decide) (by decide) (ad := "[Ljava/lang/Object;") rfl
  obtain ⟨b11, g11⟩ : ∃ z, z = h0.size := ⟨_, rfl⟩
  rw [← g11] at A11 B11 st11
  have V11 : Arv Z h11 b11 k11 (.object "java/lang/Object") (10 : Int32) [.null, .null, .null, .null, .null, .null, .null, .null, .null, .null] .null := (Arv.new A11 (by decide)).pad (pad_rep [] .null 10)
  have f13 := (f12.ext E11)
  have f14 := (f1.ext E11)
  obtain ⟨T16, h16, X16, e16, W16, st16⟩ := putF X11 hx hZ hown (host := "") (Or.inl (ww hw 31 rfl)) Via.refl e11 f14 f13 (Or.inl (ww hw 32 rfl)) (ww hw 8 rfl) (ty := (.array (.object "java/lang/Object"))) (by decide) rfl rfl (g := (mkF m 56 #[.val (.ref r0), .val (.int (1 : Int32)), .val (.int (0 : Int32)), .unset] [(.ref b11), (.ref r0), (.ref b11)])) rfl rfl (hb hby d19_56)
  have Fw16 := f14.same W16
  have N16 := Fr.snoc X16 N10 g15
  have f18 := ((f17.ext E11).other W16 (Or.inr (slot_ne (Or.inl (ww hw 66 rfl)) (Or.inl (ww hw 32 rfl)) (by decide) (t := .int) (t' := (.array (.object "java/lang/Object"))) (by decide) (by decide))))
  have f20 := ((f19.ext E11).other W16 (Or.inr (slot_ne (Or.inl (ww hw 29 rfl)) (Or.inl (ww hw 32 rfl)) (by decide) (t := .int) (t' := (.array (.object "java/lang/Object"))) (by decide) (by decide))))
  have n22 := Nat.ne_of_lt (Nat.lt_of_lt_of_le l21 (Nat.le_of_eq g11.symm))
  have f23 := (V11.other W16 (Ne.symm n22))
  have f24 := (B11.wr W16)
  have kp25 : Keep h0 h11 [r0] := (Keep.refl h0 [r0]).ext E11
  have kp26 : Keep h0 h16 [r0] := kp25.wr W16 (Or.inl (List.mem_of_getElem? (i := 0) rfl))
  obtain ⟨fs, hr, hrun, hended, hW, hsame⟩ := X16.leave (v := some (.ref b11)) (fun h => by rw [Bd.returns] at h; cases h)
  refine ⟨_, _, pre0 _ ?_, hrun, hended, _, _, rfl, ?_, ⟨_, rfl⟩, hW, hsame.mono (by decide) (by decide)⟩
  · show Steps p.tables e below (s₁.setTop (mkF m 0 #[.val (.ref r0), .val (.int (1 : Int32)), .unset, .unset] [])) _
    refine XS.aloadN X0.here hx rfl (hb hby d19_0) rfl rfl ?_
    refine st2 _ ?_
    show Steps p.tables e below (T2.setTop (mkF m 4 #[.val (.ref r0), .val (.int (1 : Int32)), .unset, .unset] [(.ref r1)])) _
    refine X2.arraylength hx (by rw [e2]; exact Arq5.1) (State.isArrayOf_alike hZ.alike Arq5.2.1) (g := (mkF m 4 #[.val (.ref r0), .val (.int (1 : Int32)), .unset, .unset] [(.ref r1)])) rfl rfl (hb hby d19_4) _ ?_
    rw [len_of Sq5 Nq5]
    show Steps p.tables e below (T2.setTop (mkF m 5 #[.val (.ref r0), .val (.int (1 : Int32)), .unset, .unset] [(.int (0 : Int32))])) _
    refine XS.istoreN X2.here hx rfl (hb hby d19_5) rfl (l' := #[.val (.ref r0), .val (.int (1 : Int32)), .val (.int (0 : Int32)), .unset]) rfl ?_
    refine XS.iloadN X2.here hx rfl (hb hby d19_6) rfl ?_
    refine XS.ifNo X2.here hx rfl (hb hby d19_7) rfl ((if0 _ _).trans (flt (by decide : ¬ ((0 : Int32) < (0 : Int32)))).2.2.1) ?_
    refine XS.aloadN X2.here hx rfl (hb hby d19_10) rfl rfl ?_
    show Steps p.tables e below (T2.setTop (mkF m 11 #[.val (.ref r0), .val (.int (1 : Int32)), .val (.int (0 : Int32)), .unset] [(.ref r0)])) _
    refine st6 _ ?_
    show Steps p.tables e below (T6.setTop (mkF m 14 #[.val (.ref r0), .val (.int (1 : Int32)), .val (.int (0 : Int32)), .unset] [(.ref r1)])) _
    refine st9 _ ?_
    show Steps p.tables e below (T9.setTop (mkF m 17 #[.val (.ref r0), .val (.int (1 : Int32)), .val (.int (0 : Int32)), .unset] [(.ref r1), (.ref r1)])) _
    refine Jvm.RoadKit.acmp (g := (mkF m 17 #[.val (.ref r0), .val (.int (1 : Int32)), .val (.int (0 : Int32)), .unset] [(.ref r1), (.ref r1)])) X9 hx rfl rfl rfl (pc0 := 17) (pc' := 45) (same := true) rfl (hb hby d19_17) rfl (decide_eq_true rfl) (by decide) (by decide) ?_
    show Steps p.tables e below (T9.setTop (mkF m 45 #[.val (.ref r0), .val (.int (1 : Int32)), .val (.int (0 : Int32)), .unset] [])) _
    refine XS.aloadN X9.here hx rfl (hb hby d19_45) rfl rfl ?_
    refine XS.bipush X9.here hx rfl (hb hby d19_46) ?_
    refine XS.iloadN X9.here hx rfl (hb hby d19_48) rfl ?_
    refine st10 _ ?_
    show Steps p.tables e below (T10.setTop (mkF m 52 #[.val (.ref r0), .val (.int (1 : Int32)), .val (.int (0 : Int32)), .unset] [(.int (10 : Int32)), (.ref r0)])) _
    refine st11 _ ?_
    show Steps p.tables e below (T11.setTop (mkF m 55 #[.val (.ref r0), .val (.int (1 : Int32)), .val (.int (0 : Int32)), .unset] [(.ref b11), (.ref r0)])) _
    refine XS.dupX1 X11.here hx rfl (hb hby d19_55) rfl rfl rfl ?_
    refine st16 _ ?_
    show Steps p.tables e below (T16.setTop (mkF m 59 #[.val (.ref r0), .val (.int (1 : Int32)), .val (.int (0 : Int32)), .unset] [(.ref b11)])) _
    exact retOut X16 hx (i := .areturn) Bd.returns rfl (Or.inr (Or.inr (Or.inr (Or.inr ⟨rfl, rfl, rfl⟩)))) (hb hby d19_59) hr
  · show Q19_1 Z r0 r1 c2 h0 n0 _ T16.heap _
    rw [e16]
    exact ⟨b11, k11, rfl, N16, kp26, Fw16, f18, f20, (Nat.le_of_eq g11.symm), f23, f24, O11⟩
theorem pd__I__Ljava_lang_Object_ : parseMethodDescriptor "(I)[Ljava/lang/Object;" = some ⟨[.int], some (.array (.object "java/lang/Object"))⟩ := by decide +kernel
theorem d18_10 : decode jdk_38_method_7_code 10 = .ok (.areturn, 1) := by decide +kernel
def Q18_1 (Z : State) (r0 : Addr) (r1 : Addr) (c2 : ClassId) (h0 : Heap) (n0 : Nat) (v : Option Value) (h : Heap) (L : List Loc) : Prop := ∃ (b10_0 : Addr) (k10_0 : ClassId), v = some (.ref b10_0) ∧ Fr n0 L ∧ Keep h0 h [r0] ∧ Fld Z h r0 "java/util/ArrayList" "elementData" "[Ljava/lang/Object;" (.ref b10_0) ∧ Fld Z h r0 "java/util/ArrayList" "size" "I" (.int (0 : Int32)) ∧ Fld Z h r0 "java/util/AbstractList" "modCount" "I" (.int (1 : Int32)) ∧ h0.size ≤ b10_0 ∧ Arv Z h b10_0 k10_0 (.object "java/lang/Object") (10 : Int32) [.null, .null, .null, .null, .null, .null, .null, .null, .null, .null] .null ∧ Exa Z h b10_0 "[Ljava/lang/Object;" ∧ Ovr Z k10_0 "java/lang/Object"
set_option maxRecDepth 65536 in
set_option maxHeartbeats 40000000 in
theorem rm18_1 (l : Launch) (Z : State) (a0 : Array Value) (hw : ∀ d ∈ tables_1, d.before a0 Z = true) (ws : List Jvm.Cond) (r0 : Addr) (r1 : Addr) (c2 : ClassId) (h0 : Heap) (n0 : Nat) (O0 : Old Z n0 h0) (f1 : Fld Z h0 r0 "java/util/ArrayList" "size" "I" (.int (0 : Int32))) (f3 : Exa Z h0 r0 "java/util/ArrayList") (f4 : Fld Z h0 r0 "java/util/ArrayList" "elementData" "[Ljava/lang/Object;" (.ref r1)) (f5 : Arv Z Z.heap r1 c2 (.object "java/lang/Object") (0 : Int32) [] .null) (f6 : Sta Z Z.heap "java/util/ArrayList" cs1 "[Ljava/lang/Object;" (.ref r1)) (g7 : n0 ≤ r0) (f8 : Fld Z h0 r0 "java/util/AbstractList" "modCount" "I" (.int (1 : Int32))) (l9 : r0 < h0.size) :
    MetFree l (⟨"java/util/ArrayList", "grow", "()[Ljava/lang/Object;"⟩ : MethodName) (head1 (Jvm.Cond.code (⟨"java/util/ArrayList", "grow", "()[Ljava/lang/Object;"⟩ : MethodName) jdk_38_method_7_code 1 (some (.array (.object "java/lang/Object"))) :: ws) ({ frames := 2, cells := 1, slots := 10, locals := 29 } : Room)) (fun a U => a = #[(.ref r0)] ∧ Z.Warmed39 U.vm ∧ U.heap = h0) (fun _ _ _ _ _ => True) (fun _ U o U' => ∃ v L, o = .returned v ∧ Q18_1 Z r0 r1 c2 h0 n0 v U'.heap L ∧ FrameEnd U o U' L ({ frames := 2, cells := 1, slots := 10, locals := 29 } : Room).cells ({ frames := 2, cells := 1, slots := 10, locals := 29 } : Room).slots) := by
  refine MetFree.of_bodySF (plainFor_of_name pn_java_util_ArrayList) hisR ?_
  intro p e s m args below meth c s₁ Bd hml0 hP hK
  obtain ⟨rfl, hZ, hh⟩ := hP
  have hx := Bd.exec
  have hby := Bd.bytes
  have hml : c.maxLocals = 1 := hml0
  have hown : s.vm.findClass "java/util/ArrayList" = some m.cls := findClass_of_methodNamed Bd.named
  have hnm := (name_of_methodNamed Bd.named Bd.method).1
  have X0 : Stand p l e ({ frames := 2, cells := 1, slots := 10, locals := 29 } : Room) s m #[(.ref r0)] below meth c s₁ [] 0 0 := Stand.of_body Bd
  have e0 : s₁.heap = h0 := by rw [← hh, Bd.state]; rfl
  have N0 := Fr.nil n0
  have pre0 : ∀ t, Steps p.tables e below (s₁.setTop (mkF m 0 #[.val (.ref r0)] [])) t → Steps p.tables e below (s₁.setTop (entryFrame m #[(.ref r0)] 1)) t := fun t k => castTop (by first | (simp [entryFrame, mkF, argsToLocals, Value.category]; done) | rfl) k
  obtain ⟨T2, X2, e2, st2⟩ := getF X0 hx hZ hown (host := "") (Or.inl (ww hw 65 rfl)) Via.refl e0 f1 (g := (mkF m 2 #[.val (.ref r0)] [(.ref r0), (.ref r0)])) rfl rfl (hb hby d18_2)
  obtain ⟨cqq11, qq11, qq11'⟩ := f3.cell
  obtain ⟨_, _, ⟨T10, L10, k10, n10⟩, -, X10, ⟨Lc10, hQ10, l10, y10, z10⟩, st10⟩ := X2.privateBack hx (y := (⟨"java/util/ArrayList", "grow", "(I)[Ljava/lang/Object;"⟩ : MethodName)) hown (mvT hZ (ww hw 146 rfl)) (mvT hZ (ww hw 147 rfl)) (mvT hZ (ww hw 149 rfl)) (Cond.privateMethod_at (mvP hZ (ww hw 148 rfl) (args := #[]))) (mvT hZ (ww hw 150 rfl)) (by decide) (backOf (W := 0) (rm19_1 l Z a0 hw [] r0 r1 c2 h0 n0 O0 f4 f5 f6 f3 g7 f1 f8 l9) hZ (ww hw 150 rfl) (ww hw 9 rfl) (by decide) (by decide)) (g := (mkF m 7 #[.val (.ref r0)] [(.int (1 : Int32)), (.ref r0)])) rfl (by rw [hml]; rfl) (Steps.refl _) (a := r0) (by rw [e2]; exact qq11) qq11' (argsL := [(.int (1 : Int32))]) (rest := []) (lenOf pd__I__Ljava_lang_Object_ rfl) rfl (by show 2 * 0 + _ ≤ _; exact Nat.le_of_eq rfl) (hb hby d18_7) (fun _ _ => ⟨rfl, e2, (by decide : 0 + 1 ≤ _), (by decide : 0 + 10 ≤ _)⟩)
  dsimp only [Pt.U, Pt.locs, Pt.cells, Pt.slots] at X10 l10 y10 z10 st10 hQ10
  subst l10 y10 z10
  obtain ⟨b10_0, k10_0, rfl, N10q, K10, f12, f13, f14, f15, f16, f17, f18⟩ := hQ10
  have N10 := Fr.app N0 N10q
  have kp19 : Keep h0 T10.heap [r0] := (Keep.refl h0 [r0]).trans K10 (allS (Or.inl (List.mem_of_getElem? (i := 0) rfl)) all0)
  obtain ⟨fs, hr, hrun, hended, hW, hsame⟩ := X10.leave (v := some (.ref b10_0)) (fun h => by rw [Bd.returns] at h; cases h)
  refine ⟨_, _, pre0 _ ?_, hrun, hended, _, _, rfl, ?_, ⟨_, rfl⟩, hW, hsame.mono (by decide) (by decide)⟩
  · show Steps p.tables e below (s₁.setTop (mkF m 0 #[.val (.ref r0)] [])) _
    refine XS.aloadN X0.here hx rfl (hb hby d18_0) rfl rfl ?_
    refine XS.aloadN X0.here hx rfl (hb hby d18_1) rfl rfl ?_
    refine st2 _ ?_
    show Steps p.tables e below (T2.setTop (mkF m 5 #[.val (.ref r0)] [(.int (0 : Int32)), (.ref r0)])) _
    refine XS.iconst X2.here hx rfl (hb hby d18_5) ?_
    refine XS.iadd X2.here hx rfl (hb hby d18_6) rfl ?_
    refine st10.trans ?_
    show Steps p.tables e below (T10.setTop (mkF m 10 #[.val (.ref r0)] [(.ref b10_0)])) _
    exact retOut X10 hx (i := .areturn) Bd.returns rfl (Or.inr (Or.inr (Or.inr (Or.inr ⟨rfl, rfl, rfl⟩)))) (hb hby d18_10) hr
  · show Q18_1 Z r0 r1 c2 h0 n0 _ T10.heap _
    exact ⟨b10_0, k10_0, rfl, N10, kp19, f12, f13, f14, f15, f16, f17, f18⟩
theorem pd____Ljava_lang_Object_ : parseMethodDescriptor "()[Ljava/lang/Object;" = some ⟨[], some (.array (.object "java/lang/Object"))⟩ := by decide +kernel
theorem d17_10 : decode jdk_38_method_24_code 10 = .ok (.astore_n 2, 1) := by decide +kernel
theorem d17_11 : decode jdk_38_method_24_code 11 = .ok (.aload_n 2, 1) := by decide +kernel
theorem d17_12 : decode jdk_38_method_24_code 12 = .ok (.iload_n 3, 1) := by decide +kernel
theorem d17_13 : decode jdk_38_method_24_code 13 = .ok (.aload_n 1, 1) := by decide +kernel
theorem d17_14 : decode jdk_38_method_24_code 14 = .ok (.aastore, 1) := by decide +kernel
theorem d17_15 : decode jdk_38_method_24_code 15 = .ok (.aload_n 0, 1) := by decide +kernel
theorem d17_16 : decode jdk_38_method_24_code 16 = .ok (.iload_n 3, 1) := by decide +kernel
theorem d17_17 : decode jdk_38_method_24_code 17 = .ok (.iconst 1, 1) := by decide +kernel
theorem d17_18 : decode jdk_38_method_24_code 18 = .ok (.iadd, 1) := by decide +kernel
theorem d17_19 : decode jdk_38_method_24_code 19 = .ok (.putfield 48, 3) := by decide +kernel
theorem d17_22 : decode jdk_38_method_24_code 22 = .ok (.return_, 1) := by decide +kernel
def Q17_1 (Z : State) (r0 : Addr) (r1 : Addr) (r2 : Addr) (c3 : ClassId) (h0 : Heap) (n0 : Nat) (v : Option Value) (h : Heap) (L : List Loc) : Prop := ∃ (b11_0 : Addr) (k11_0 : ClassId), v = none ∧ Fr n0 L ∧ Keep h0 h [r0] ∧ Fld Z h r0 "java/util/ArrayList" "elementData" "[Ljava/lang/Object;" (.ref b11_0) ∧ Fld Z h r0 "java/util/ArrayList" "size" "I" (.int (1 : Int32)) ∧ Fld Z h r0 "java/util/AbstractList" "modCount" "I" (.int (1 : Int32)) ∧ h0.size ≤ b11_0 ∧ Arv Z h b11_0 k11_0 (.object "java/lang/Object") (10 : Int32) [(.ref r1), .null, .null, .null, .null, .null, .null, .null, .null, .null] .null ∧ Exa Z h b11_0 "[Ljava/lang/Object;" ∧ Ovr Z k11_0 "java/lang/Object"
set_option maxRecDepth 65536 in
set_option maxHeartbeats 40000000 in
theorem rm17_1 (l : Launch) (Z : State) (a0 : Array Value) (hw : ∀ d ∈ tables_1, d.before a0 Z = true) (ws : List Jvm.Cond) (r0 : Addr) (r1 : Addr) (r2 : Addr) (c3 : ClassId) (h0 : Heap) (n0 : Nat) (O0 : Old Z n0 h0) (f1 : Arv Z Z.heap r2 c3 (.object "java/lang/Object") (0 : Int32) [] .null) (f4 : Exa Z h0 r0 "java/util/ArrayList") (f5 : Fld Z h0 r0 "java/util/ArrayList" "size" "I" (.int (0 : Int32))) (f6 : Fld Z h0 r0 "java/util/ArrayList" "elementData" "[Ljava/lang/Object;" (.ref r2)) (f7 : Sta Z Z.heap "java/util/ArrayList" cs1 "[Ljava/lang/Object;" (.ref r2)) (g8 : n0 ≤ r0) (f9 : Fld Z h0 r0 "java/util/AbstractList" "modCount" "I" (.int (1 : Int32))) (l10 : r0 < h0.size) (f21 : Exa Z h0 r1 cs10) :
    MetFree l (⟨"java/util/ArrayList", "add", cs12⟩ : MethodName) (head1 (Jvm.Cond.code (⟨"java/util/ArrayList", "add", cs12⟩ : MethodName) jdk_38_method_24_code 4 none :: ws) ({ frames := 3, cells := 1, slots := 10, locals := 41 } : Room)) (fun a U => a = #[(.ref r0), (.ref r1), (.ref r2), (.int (0 : Int32))] ∧ Z.Warmed39 U.vm ∧ U.heap = h0) (fun _ _ _ _ _ => True) (fun _ U o U' => ∃ v L, o = .returned v ∧ Q17_1 Z r0 r1 r2 c3 h0 n0 v U'.heap L ∧ FrameEnd U o U' L ({ frames := 3, cells := 1, slots := 10, locals := 41 } : Room).cells ({ frames := 3, cells := 1, slots := 10, locals := 41 } : Room).slots) := by
  refine MetFree.of_bodySF (plainFor_of_name pn_java_util_ArrayList) hisR ?_
  intro p e s m args below meth c s₁ Bd hml0 hP hK
  obtain ⟨rfl, hZ, hh⟩ := hP
  have hx := Bd.exec
  have hby := Bd.bytes
  have hml : c.maxLocals = 4 := hml0
  have hown : s.vm.findClass "java/util/ArrayList" = some m.cls := findClass_of_methodNamed Bd.named
  have hnm := (name_of_methodNamed Bd.named Bd.method).1
  have X0 : Stand p l e ({ frames := 3, cells := 1, slots := 10, locals := 41 } : Room) s m #[(.ref r0), (.ref r1), (.ref r2), (.int (0 : Int32))] below meth c s₁ [] 0 0 := Stand.of_body Bd
  have e0 : s₁.heap = h0 := by rw [← hh, Bd.state]; rfl
  have N0 := Fr.nil n0
  have pre0 : ∀ t, Steps p.tables e below (s₁.setTop (mkF m 0 #[.val (.ref r0), .val (.ref r1), .val (.ref r2), .val (.int (0 : Int32))] [])) t → Steps p.tables e below (s₁.setTop (entryFrame m #[(.ref r0), (.ref r1), (.ref r2), (.int (0 : Int32))] 4)) t := fun t k => castTop (by first | (simp [entryFrame, mkF, argsToLocals, Value.category]; done) | rfl) k
  have f2 := f1.ext O0.2
  obtain ⟨clq3, Arq3, qq3, Sq3, Nq3, Hq3, Gq3⟩ := id f2
  obtain ⟨cqq12, qq12, qq12'⟩ := f4.cell
  obtain ⟨_, _, ⟨T11, L11, k11, n11⟩, -, X11, ⟨Lc11, hQ11, l11, y11, z11⟩, st11⟩ := X0.privateBack hx (y := (⟨"java/util/ArrayList", "grow", "()[Ljava/lang/Object;"⟩ : MethodName)) hown (mvT hZ (ww hw 141 rfl)) (mvT hZ (ww hw 142 rfl)) (mvT hZ (ww hw 144 rfl)) (Cond.privateMethod_at (mvP hZ (ww hw 143 rfl) (args := #[]))) (mvT hZ (ww hw 145 rfl)) (by decide) (backOf (W := 0) (rm18_1 l Z a0 hw [] r0 r2 c3 h0 n0 O0 f5 f4 f6 f1 f7 g8 f9 l10) hZ (ww hw 145 rfl) (ww hw 9 rfl) (by decide) (by decide)) (g := (mkF m 7 #[.val (.ref r0), .val (.ref r1), .val (.ref r2), .val (.int (0 : Int32))] [(.ref r0)])) rfl (by rw [hml]; rfl) (Steps.refl _) (a := r0) (by rw [e0]; exact qq12) qq12' (argsL := []) (rest := []) (lenOf pd____Ljava_lang_Object_ rfl) rfl (by show 2 * 0 + _ ≤ _; exact Nat.le_of_eq rfl) (hb hby d17_7) (fun _ _ => ⟨rfl, e0, (by decide : 0 + 1 ≤ _), (by decide : 0 + 10 ≤ _)⟩)
  dsimp only [Pt.U, Pt.locs, Pt.cells, Pt.slots] at X11 l11 y11 z11 st11 hQ11
  subst l11 y11 z11
  obtain ⟨b11_0, k11_0, rfl, N11q, K11, f13, f14, f15, f16, f17, f18, f19⟩ := hQ11
  have N11 := Fr.app N0 N11q
  obtain ⟨clq20, Arq20, qq20, Sq20, Nq20, Hq20, Gq20⟩ := id f17
  have f22 := (f21.keep K11)
  have zz23 : n0 ≤ h0.size := by rw [← O0.1]; exact O0.2.1
  have g24 := Nat.le_trans zz23 f16
  obtain ⟨T25, h25, X25, e25, W25, st25⟩ := stR X11 hx hZ rfl Arq20 (j := (0 : Int32)) (inb_of Sq20 ⟨(by decide : ¬ ((0 : Int32) < (0 : Int32))), (by decide : (0 : Int32) < (10 : Int32))⟩) rfl (Sto.ofV Arq20 qq20 f19 (Ins.of_exa f22 (ww hw 157 rfl))) (g := (mkF m 14 #[.val (.ref r0), .val (.ref r1), .val (.ref b11_0), .val (.int (0 : Int32))] [(.ref r1), (.int (0 : Int32)), (.ref b11_0)])) rfl rfl (hb hby d17_14)
  have V25 : Arv Z h25 b11_0 k11_0 (.object "java/lang/Object") (10 : Int32) [(.ref r1), .null, .null, .null, .null, .null, .null, .null, .null, .null] .null := Arv.set Arq20 qq20 Sq20 Nq20 Hq20 Gq20 rfl W25 0 rfl (Nat.le_of_ble_eq_true rfl)
  have N25 := Fr.snoc X25 N11 g24
  have f26 := ((f4.keep K11).wr W25)
  have n27 := Nat.ne_of_lt (Nat.lt_of_lt_of_le l10 f16)
  have f28 := (f14.other W25 (Or.inl n27))
  obtain ⟨T29, h29, X29, e29, W29, st29⟩ := putF X25 hx hZ hown (host := "") (Or.inl (ww hw 65 rfl)) Via.refl e25 f28 f26 (Or.inl (ww hw 66 rfl)) (ww hw 8 rfl) (ty := .int) (by decide) rfl rfl (g := (mkF m 19 #[.val (.ref r0), .val (.ref r1), .val (.ref b11_0), .val (.int (0 : Int32))] [(.int (1 : Int32)), (.ref r0)])) rfl rfl (hb hby d17_19)
  have Fw29 := f28.same W29
  have N29 := Fr.snoc X29 N25 g8
  have f30 := ((f13.other W25 (Or.inl n27)).other W29 (Or.inr (slot_ne (Or.inl (ww hw 32 rfl)) (Or.inl (ww hw 66 rfl)) (by decide) (t := (.array (.object "java/lang/Object"))) (t' := .int) (by decide) (by decide))))
  have f31 := ((f15.other W25 (Or.inl n27)).other W29 (Or.inr (slot_ne (Or.inl (ww hw 29 rfl)) (Or.inl (ww hw 66 rfl)) (by decide) (t := .int) (t' := .int) (by decide) (by decide))))
  have f32 := (V25.other W29 (Ne.symm n27))
  have f33 := ((f18.wr W25).wr W29)
  have kp34 : Keep h0 T11.heap [r0] := (Keep.refl h0 [r0]).trans K11 (allS (Or.inl (List.mem_of_getElem? (i := 0) rfl)) all0)
  have kp35 : Keep h0 h25 [r0] := kp34.wr W25 (Or.inr f16)
  have kp36 : Keep h0 h29 [r0] := kp35.wr W29 (Or.inl (List.mem_of_getElem? (i := 0) rfl))
  obtain ⟨fs, hr, hrun, hended, hW, hsame⟩ := X29.leave (v := none) (fun _ => rfl)
  refine ⟨_, _, pre0 _ ?_, hrun, hended, _, _, rfl, ?_, ⟨_, rfl⟩, hW, hsame.mono (by decide) (by decide)⟩
  · show Steps p.tables e below (s₁.setTop (mkF m 0 #[.val (.ref r0), .val (.ref r1), .val (.ref r2), .val (.int (0 : Int32))] [])) _
    refine XS.iloadN X0.here hx rfl (hb hby d17_0) rfl ?_
    refine XS.aloadN X0.here hx rfl (hb hby d17_1) rfl rfl ?_
    refine X0.arraylength hx (by rw [e0]; exact Arq3.1) (State.isArrayOf_alike hZ.alike Arq3.2.1) (g := (mkF m 2 #[.val (.ref r0), .val (.ref r1), .val (.ref r2), .val (.int (0 : Int32))] [(.ref r2), (.int (0 : Int32))])) rfl rfl (hb hby d17_2) _ ?_
    rw [len_of Sq3 Nq3]
    show Steps p.tables e below (s₁.setTop (mkF m 3 #[.val (.ref r0), .val (.ref r1), .val (.ref r2), .val (.int (0 : Int32))] [(.int (0 : Int32)), (.int (0 : Int32))])) _
    refine XS.icmpNo X0.here hx rfl (hb hby d17_3) rfl (teq (rfl : (0 : Int32) = (0 : Int32))).2 ?_
    refine XS.aloadN X0.here hx rfl (hb hby d17_6) rfl rfl ?_
    refine st11.trans ?_
    show Steps p.tables e below (T11.setTop (mkF m 10 #[.val (.ref r0), .val (.ref r1), .val (.ref r2), .val (.int (0 : Int32))] [(.ref b11_0)])) _
    refine XS.astoreN X11.here hx rfl (hb hby d17_10) rfl rfl (l' := #[.val (.ref r0), .val (.ref r1), .val (.ref b11_0), .val (.int (0 : Int32))]) rfl ?_
    refine XS.aloadN X11.here hx rfl (hb hby d17_11) rfl rfl ?_
    refine XS.iloadN X11.here hx rfl (hb hby d17_12) rfl ?_
    refine XS.aloadN X11.here hx rfl (hb hby d17_13) rfl rfl ?_
    show Steps p.tables e below (T11.setTop (mkF m 14 #[.val (.ref r0), .val (.ref r1), .val (.ref b11_0), .val (.int (0 : Int32))] [(.ref r1), (.int (0 : Int32)), (.ref b11_0)])) _
    refine st25 _ ?_
    show Steps p.tables e below (T25.setTop (mkF m 15 #[.val (.ref r0), .val (.ref r1), .val (.ref b11_0), .val (.int (0 : Int32))] [])) _
    refine XS.aloadN X25.here hx rfl (hb hby d17_15) rfl rfl ?_
    refine XS.iloadN X25.here hx rfl (hb hby d17_16) rfl ?_
    refine XS.iconst X25.here hx rfl (hb hby d17_17) ?_
    refine XS.iadd X25.here hx rfl (hb hby d17_18) rfl ?_
    show Steps p.tables e below (T25.setTop (mkF m 19 #[.val (.ref r0), .val (.ref r1), .val (.ref b11_0), .val (.int (0 : Int32))] [(.int (1 : Int32)), (.ref r0)])) _
    refine st29 _ ?_
    show Steps p.tables e below (T29.setTop (mkF m 22 #[.val (.ref r0), .val (.ref r1), .val (.ref b11_0), .val (.int (0 : Int32))] [])) _
    exact X29.returnOut hx Bd.returns (hb hby d17_22) hr
  · show Q17_1 Z r0 r1 r2 c3 h0 n0 _ T29.heap _
    rw [e29]
    exact ⟨b11_0, k11_0, rfl, N29, kp36, f30, Fw29, f31, f16, f32, f33, f19⟩
theorem pd__Ljava_lang_Object__Ljava_lang_Object_I_V : parseMethodDescriptor cs12 = some ⟨[(.object "java/lang/Object"), (.array (.object "java/lang/Object")), .int], none⟩ := by decide +kernel
theorem d16_23 : decode jdk_38_method_25_code 23 = .ok (.iconst 1, 1) := by decide +kernel
theorem d16_24 : decode jdk_38_method_25_code 24 = .ok (.ireturn, 1) := by decide +kernel
def Q16_1 (Z : State) (r0 : Addr) (r1 : Addr) (r2 : Addr) (c3 : ClassId) (h0 : Heap) (n0 : Nat) (v : Option Value) (h : Heap) (L : List Loc) : Prop := ∃ (b20_0 : Addr) (k20_0 : ClassId), v = some (.int (1 : Int32)) ∧ Fr n0 L ∧ Keep h0 h [r0] ∧ Fld Z h r0 "java/util/ArrayList" "elementData" "[Ljava/lang/Object;" (.ref b20_0) ∧ Fld Z h r0 "java/util/ArrayList" "size" "I" (.int (1 : Int32)) ∧ Fld Z h r0 "java/util/AbstractList" "modCount" "I" (.int (1 : Int32)) ∧ h0.size ≤ b20_0 ∧ Arv Z h b20_0 k20_0 (.object "java/lang/Object") (10 : Int32) [(.ref r1), .null, .null, .null, .null, .null, .null, .null, .null, .null] .null ∧ Exa Z h b20_0 "[Ljava/lang/Object;" ∧ Ovr Z k20_0 "java/lang/Object"
set_option maxRecDepth 65536 in
set_option maxHeartbeats 40000000 in
theorem rm16_1 (l : Launch) (Z : State) (a0 : Array Value) (hw : ∀ d ∈ tables_1, d.before a0 Z = true) (ws : List Jvm.Cond) (r0 : Addr) (r1 : Addr) (r2 : Addr) (c3 : ClassId) (h0 : Heap) (n0 : Nat) (O0 : Old Z n0 h0) (f1 : Fld Z h0 r0 "java/util/AbstractList" "modCount" "I" (.int (0 : Int32))) (f3 : Exa Z h0 r0 "java/util/ArrayList") (g4 : n0 ≤ r0) (f6 : Fld Z h0 r0 "java/util/ArrayList" "elementData" "[Ljava/lang/Object;" (.ref r2)) (f9 : Fld Z h0 r0 "java/util/ArrayList" "size" "I" (.int (0 : Int32))) (f12 : Arv Z Z.heap r2 c3 (.object "java/lang/Object") (0 : Int32) [] .null) (f14 : Sta Z Z.heap "java/util/ArrayList" cs1 "[Ljava/lang/Object;" (.ref r2)) (l15 : r0 < h0.size) (f17 : Exa Z h0 r1 cs10) :
    MetFree l (⟨"java/util/ArrayList", "add", "(Ljava/lang/Object;)Z"⟩ : MethodName) (head1 (Jvm.Cond.code (⟨"java/util/ArrayList", "add", "(Ljava/lang/Object;)Z"⟩ : MethodName) jdk_38_method_25_code 2 (some .boolean) :: ws) ({ frames := 4, cells := 1, slots := 10, locals := 56 } : Room)) (fun a U => a = #[(.ref r0), (.ref r1)] ∧ Z.Warmed39 U.vm ∧ U.heap = h0) (fun _ _ _ _ _ => True) (fun _ U o U' => ∃ v L, o = .returned v ∧ Q16_1 Z r0 r1 r2 c3 h0 n0 v U'.heap L ∧ FrameEnd U o U' L ({ frames := 4, cells := 1, slots := 10, locals := 56 } : Room).cells ({ frames := 4, cells := 1, slots := 10, locals := 56 } : Room).slots) := by
  refine MetFree.of_bodySF (plainFor_of_name pn_java_util_ArrayList) hisR ?_
  intro p e s m args below meth c s₁ Bd hml0 hP hK
  obtain ⟨rfl, hZ, hh⟩ := hP
  have hx := Bd.exec
  have hby := Bd.bytes
  have hml : c.maxLocals = 2 := hml0
  have hown : s.vm.findClass "java/util/ArrayList" = some m.cls := findClass_of_methodNamed Bd.named
  have hnm := (name_of_methodNamed Bd.named Bd.method).1
  have X0 : Stand p l e ({ frames := 4, cells := 1, slots := 10, locals := 56 } : Room) s m #[(.ref r0), (.ref r1)] below meth c s₁ [] 0 0 := Stand.of_body Bd
  have e0 : s₁.heap = h0 := by rw [← hh, Bd.state]; rfl
  have N0 := Fr.nil n0
  have pre0 : ∀ t, Steps p.tables e below (s₁.setTop (mkF m 0 #[.val (.ref r0), .val (.ref r1)] [])) t → Steps p.tables e below (s₁.setTop (entryFrame m #[(.ref r0), (.ref r1)] 2)) t := fun t k => castTop (by first | (simp [entryFrame, mkF, argsToLocals, Value.category]; done) | rfl) k
  obtain ⟨T2, X2, e2, st2⟩ := getF X0 hx hZ hown (host := "") (Or.inl (ww hw 134 rfl)) (Via.of (ww hw 135 rfl)) e0 f1 (g := (mkF m 2 #[.val (.ref r0), .val (.ref r1)] [(.ref r0), (.ref r0)])) rfl rfl (hb hby d16_2)
  obtain ⟨T5, h5, X5, e5, W5, st5⟩ := putF X2 hx hZ hown (host := "") (Or.inl (ww hw 134 rfl)) (Via.of (ww hw 135 rfl)) e2 f1 f3 (Or.inl (ww hw 29 rfl)) (ww hw 8 rfl) (ty := .int) (by decide) rfl rfl (g := (mkF m 7 #[.val (.ref r0), .val (.ref r1)] [(.int (1 : Int32)), (.ref r0)])) rfl rfl (hb hby d16_7)
  have Fw5 := f1.same W5
  have N5 := Fr.snoc X5 N0 g4
  have f7 := (f6.other W5 (Or.inr (slot_ne (Or.inl (ww hw 32 rfl)) (Or.inl (ww hw 29 rfl)) (by decide) (t := (.array (.object "java/lang/Object"))) (t' := .int) (by decide) (by decide))))
  obtain ⟨T8, X8, e8, st8⟩ := getF X5 hx hZ hown (host := "") (Or.inl (ww hw 31 rfl)) Via.refl e5 f7 (g := (mkF m 13 #[.val (.ref r0), .val (.ref r1)] [(.ref r0), (.ref r1), (.ref r0)])) rfl rfl (hb hby d16_13)
  have f10 := (f9.other W5 (Or.inr (slot_ne (Or.inl (ww hw 66 rfl)) (Or.inl (ww hw 29 rfl)) (by decide) (t := .int) (t' := .int) (by decide) (by decide))))
  obtain ⟨T11, X11, e11, st11⟩ := getF X8 hx hZ hown (host := "") (Or.inl (ww hw 65 rfl)) Via.refl e8 f10 (g := (mkF m 17 #[.val (.ref r0), .val (.ref r1)] [(.ref r0), (.ref r2), (.ref r1), (.ref r0)])) rfl rfl (hb hby d16_17)
  have f13 := (f3.wr W5)
  have zs16 := (Nat.le_of_eq W5.size.symm)
  have f18 := (f17.wr W5)
  have o19 := Old.wr O0 W5 g4
  obtain ⟨cqq21, qq21, qq21'⟩ := f13.cell
  obtain ⟨_, _, ⟨T20, L20, k20, n20⟩, -, X20, ⟨Lc20, hQ20, l20, y20, z20⟩, st20⟩ := X11.privateBack hx (y := (⟨"java/util/ArrayList", "add", cs12⟩ : MethodName)) hown (mvT hZ (ww hw 136 rfl)) (mvT hZ (ww hw 137 rfl)) (mvT hZ (ww hw 139 rfl)) (Cond.privateMethod_at (mvP hZ (ww hw 138 rfl) (args := #[]))) (mvT hZ (ww hw 140 rfl)) (by decide) (backOf (W := 0) (rm17_1 l Z a0 hw [] r0 r1 r2 c3 h5 n0 o19 f12 f13 f10 f7 f14 g4 Fw5 (Nat.lt_of_lt_of_le l15 zs16) f18) hZ (ww hw 140 rfl) (ww hw 9 rfl) (by decide) (by decide)) (g := (mkF m 20 #[.val (.ref r0), .val (.ref r1)] [(.int (0 : Int32)), (.ref r2), (.ref r1), (.ref r0)])) rfl (by rw [hml]; rfl) (Steps.refl _) (a := r0) (by rw [e11]; exact qq21) qq21' (argsL := [(.ref r1), (.ref r2), (.int (0 : Int32))]) (rest := []) (lenOf pd__Ljava_lang_Object__Ljava_lang_Object_I_V rfl) rfl (by show 2 * 0 + _ ≤ _; exact Nat.le_of_eq rfl) (hb hby d16_20) (fun _ _ => ⟨rfl, e11, (by decide : 0 + 1 ≤ _), (by decide : 0 + 10 ≤ _)⟩)
  dsimp only [Pt.U, Pt.locs, Pt.cells, Pt.slots] at X20 l20 y20 z20 st20 hQ20
  subst l20 y20 z20
  obtain ⟨b20_0, k20_0, rfl, N20q, K20, f22, f23, f24, f25, f26, f27, f28⟩ := hQ20
  have N20 := Fr.app N5 N20q
  have kp29 : Keep h0 h5 [r0] := (Keep.refl h0 [r0]).wr W5 (Or.inl (List.mem_of_getElem? (i := 0) rfl))
  have kp30 : Keep h0 T20.heap [r0] := kp29.trans K20 (allS (Or.inl (List.mem_of_getElem? (i := 0) rfl)) all0)
  obtain ⟨fs, hr, hrun, hended, hW, hsame⟩ := X20.leave (v := some (.int (1 : Int32))) (fun h => by rw [Bd.returns] at h; cases h)
  refine ⟨_, _, pre0 _ ?_, hrun, hended, _, _, rfl, ?_, ⟨_, rfl⟩, hW, hsame.mono (by decide) (by decide)⟩
  · show Steps p.tables e below (s₁.setTop (mkF m 0 #[.val (.ref r0), .val (.ref r1)] [])) _
    refine XS.aloadN X0.here hx rfl (hb hby d16_0) rfl rfl ?_
    refine XS.dup X0.here hx rfl (hb hby d16_1) rfl rfl ?_
    refine st2 _ ?_
    show Steps p.tables e below (T2.setTop (mkF m 5 #[.val (.ref r0), .val (.ref r1)] [(.int (0 : Int32)), (.ref r0)])) _
    refine XS.iconst X2.here hx rfl (hb hby d16_5) ?_
    refine XS.iadd X2.here hx rfl (hb hby d16_6) rfl ?_
    refine st5 _ ?_
    show Steps p.tables e below (T5.setTop (mkF m 10 #[.val (.ref r0), .val (.ref r1)] [])) _
    refine XS.aloadN X5.here hx rfl (hb hby d16_10) rfl rfl ?_
    refine XS.aloadN X5.here hx rfl (hb hby d16_11) rfl rfl ?_
    refine XS.aloadN X5.here hx rfl (hb hby d16_12) rfl rfl ?_
    refine st8 _ ?_
    show Steps p.tables e below (T8.setTop (mkF m 16 #[.val (.ref r0), .val (.ref r1)] [(.ref r2), (.ref r1), (.ref r0)])) _
    refine XS.aloadN X8.here hx rfl (hb hby d16_16) rfl rfl ?_
    refine st11 _ ?_
    show Steps p.tables e below (T11.setTop (mkF m 20 #[.val (.ref r0), .val (.ref r1)] [(.int (0 : Int32)), (.ref r2), (.ref r1), (.ref r0)])) _
    refine st20.trans ?_
    show Steps p.tables e below (T20.setTop (mkF m 23 #[.val (.ref r0), .val (.ref r1)] [])) _
    refine XS.iconst X20.here hx rfl (hb hby d16_23) ?_
    exact retN X20 hx (t := .boolean) Bd.returns (by simp) (hb hby d16_24) hr
  · show Q16_1 Z r0 r1 r2 c3 h0 n0 _ T20.heap _
    exact ⟨b20_0, k20_0, rfl, N20, kp30, f22, f23, f24, (Nat.le_trans zs16 f25), f26, f27, f28⟩
theorem pd__Ljava_lang_Object__Z : parseMethodDescriptor "(Ljava/lang/Object;)Z" = some ⟨[(.object "java/lang/Object")], some .boolean⟩ := by decide +kernel
theorem d9_11 : decode jdk_38_method_9_code 11 = .ok (.iconst 0, 1) := by decide +kernel
def Q9_2 (Z : State) (r0 : Addr) (h0 : Heap) (n0 : Nat) (v : Option Value) (h : Heap) (L : List Loc) : Prop := v = some (.int (0 : Int32)) ∧ Fr n0 L ∧ h = h0
set_option maxRecDepth 65536 in
set_option maxHeartbeats 40000000 in
theorem rm9_2 (l : Launch) (Z : State) (a0 : Array Value) (hw : ∀ d ∈ tables_1, d.before a0 Z = true) (ws : List Jvm.Cond) (r0 : Addr) (h0 : Heap) (n0 : Nat) (O0 : Old Z n0 h0) (f1 : Fld Z h0 r0 "java/util/ArrayList" "size" "I" (.int (1 : Int32))) :
    MetFree l (⟨"java/util/ArrayList", "isEmpty", "()Z"⟩ : MethodName) (head1 (Jvm.Cond.code (⟨"java/util/ArrayList", "isEmpty", "()Z"⟩ : MethodName) jdk_38_method_9_code 1 (some .boolean) :: ws) ({ frames := 0, cells := 0, slots := 0, locals := 0 } : Room)) (fun a U => a = #[(.ref r0)] ∧ Z.Warmed39 U.vm ∧ U.heap = h0) (fun _ _ _ _ _ => True) (fun _ U o U' => ∃ v L, o = .returned v ∧ Q9_2 Z r0 h0 n0 v U'.heap L ∧ FrameEnd U o U' L ({ frames := 0, cells := 0, slots := 0, locals := 0 } : Room).cells ({ frames := 0, cells := 0, slots := 0, locals := 0 } : Room).slots) := by
  refine MetFree.of_bodySF (plainFor_of_name pn_java_util_ArrayList) hisR ?_
  intro p e s m args below meth c s₁ Bd hml0 hP hK
  obtain ⟨rfl, hZ, hh⟩ := hP
  have hx := Bd.exec
  have hby := Bd.bytes
  have hml : c.maxLocals = 1 := hml0
  have hown : s.vm.findClass "java/util/ArrayList" = some m.cls := findClass_of_methodNamed Bd.named
  have hnm := (name_of_methodNamed Bd.named Bd.method).1
  have X0 : Stand p l e ({ frames := 0, cells := 0, slots := 0, locals := 0 } : Room) s m #[(.ref r0)] below meth c s₁ [] 0 0 := Stand.of_body Bd
  have e0 : s₁.heap = h0 := by rw [← hh, Bd.state]; rfl
  have N0 := Fr.nil n0
  have pre0 : ∀ t, Steps p.tables e below (s₁.setTop (mkF m 0 #[.val (.ref r0)] [])) t → Steps p.tables e below (s₁.setTop (entryFrame m #[(.ref r0)] 1)) t := fun t k => castTop (by first | (simp [entryFrame, mkF, argsToLocals, Value.category]; done) | rfl) k
  obtain ⟨T2, X2, e2, st2⟩ := getF X0 hx hZ hown (host := "") (Or.inl (ww hw 65 rfl)) Via.refl e0 f1 (g := (mkF m 1 #[.val (.ref r0)] [(.ref r0)])) rfl rfl (hb hby d9_1)
  obtain ⟨fs, hr, hrun, hended, hW, hsame⟩ := X2.leave (v := some (.int (0 : Int32))) (fun h => by rw [Bd.returns] at h; cases h)
  refine ⟨_, _, pre0 _ ?_, hrun, hended, _, _, rfl, ?_, ⟨_, rfl⟩, hW, hsame.mono (by decide) (by decide)⟩
  · show Steps p.tables e below (s₁.setTop (mkF m 0 #[.val (.ref r0)] [])) _
    refine XS.aloadN X0.here hx rfl (hb hby d9_0) rfl rfl ?_
    refine st2 _ ?_
    show Steps p.tables e below (T2.setTop (mkF m 4 #[.val (.ref r0)] [(.int (1 : Int32))])) _
    refine XS.ifYes X2.here hx rfl (pc0 := 4) (pc' := 11) rfl (hb hby d9_4) rfl ((if0 _ _).trans (feq (by decide : ¬ ((1 : Int32) = (0 : Int32)))).2) (by decide) (by decide) ?_
    show Steps p.tables e below (T2.setTop (mkF m 11 #[.val (.ref r0)] [])) _
    refine XS.iconst X2.here hx rfl (hb hby d9_11) ?_
    exact retN X2 hx (t := .boolean) Bd.returns (by simp) (hb hby d9_12) hr
  · show Q9_2 Z r0 h0 n0 _ T2.heap _
    rw [e2]
    exact ⟨rfl, N0, rfl⟩
theorem d8_44 : decode jdk_56_method_3_code 44 = .ok (.aload_n 0, 1) := by decide +kernel
theorem d8_45 : decode jdk_56_method_3_code 45 = .ok (.invokeinterface 30 1, 5) := by decide +kernel
theorem d21_0 : decode jdk_38_method_16_code 0 = .ok (.aload_n 0, 1) := by decide +kernel
theorem d21_1 : decode jdk_38_method_16_code 1 = .ok (.getfield 9, 3) := by decide +kernel
theorem d21_4 : decode jdk_38_method_16_code 4 = .ok (.aload_n 0, 1) := by decide +kernel
theorem d21_5 : decode jdk_38_method_16_code 5 = .ok (.getfield 48, 3) := by decide +kernel
theorem d21_8 : decode jdk_38_method_16_code 8 = .ok (.invokestatic 66, 3) := by decide +kernel
theorem d22_0 : decode jdk_65_method_119_code 0 = .ok (.aload_n 0, 1) := by decide +kernel
theorem d22_1 : decode jdk_65_method_119_code 1 = .ok (.iload_n 1, 1) := by decide +kernel
theorem d22_2 : decode jdk_65_method_119_code 2 = .ok (.aload_n 0, 1) := by decide +kernel
theorem d22_3 : decode jdk_65_method_119_code 3 = .ok (.invokevirtual 86, 3) := by decide +kernel
theorem d22_6 : decode jdk_65_method_119_code 6 = .ok (.invokestatic 300, 3) := by decide +kernel
theorem d23_0 : decode jdk_65_method_120_code 0 = .ok (.aload_n 2, 1) := by decide +kernel
theorem d23_1 : decode jdk_65_method_120_code 1 = .ok (.ldc 110, 2) := by decide +kernel
theorem d23_3 : decode jdk_65_method_120_code 3 = .ok (.if_acmp .ne 10, 3) := by decide +kernel
theorem d23_6 : decode jdk_65_method_120_code 6 = .ok (.iload_n 1, 1) := by decide +kernel
theorem d23_7 : decode jdk_65_method_120_code 7 = .ok (.anewarray 2, 3) := by decide +kernel
theorem d23_10 : decode jdk_65_method_120_code 10 = .ok (.goto 14, 3) := by decide +kernel
theorem d23_24 : decode jdk_65_method_120_code 24 = .ok (.astore_n 3, 1) := by decide +kernel
theorem d23_25 : decode jdk_65_method_120_code 25 = .ok (.aload_n 0, 1) := by decide +kernel
theorem d23_26 : decode jdk_65_method_120_code 26 = .ok (.iconst 0, 1) := by decide +kernel
theorem d23_27 : decode jdk_65_method_120_code 27 = .ok (.aload_n 3, 1) := by decide +kernel
theorem d23_28 : decode jdk_65_method_120_code 28 = .ok (.iconst 0, 1) := by decide +kernel
theorem d23_29 : decode jdk_65_method_120_code 29 = .ok (.aload_n 0, 1) := by decide +kernel
theorem d23_30 : decode jdk_65_method_120_code 30 = .ok (.arraylength, 1) := by decide +kernel
theorem d23_31 : decode jdk_65_method_120_code 31 = .ok (.iload_n 1, 1) := by decide +kernel
theorem d23_32 : decode jdk_65_method_120_code 32 = .ok (.invokestatic 304, 3) := by decide +kernel
theorem d24_0 : decode jdk_29_method_69_code 0 = .ok (.iload_n 0, 1) := by decide +kernel
theorem d24_1 : decode jdk_29_method_69_code 1 = .ok (.iload_n 1, 1) := by decide +kernel
theorem d24_2 : decode jdk_29_method_69_code 2 = .ok (.if_icmp .gt 7, 3) := by decide +kernel
theorem d24_9 : decode jdk_29_method_69_code 9 = .ok (.iload_n 1, 1) := by decide +kernel
theorem d24_10 : decode jdk_29_method_69_code 10 = .ok (.ireturn, 1) := by decide +kernel
def Q24_1 (Z : State)  (h0 : Heap) (n0 : Nat) (v : Option Value) (h : Heap) (L : List Loc) : Prop := v = some (.int (1 : Int32)) ∧ Fr n0 L ∧ h = h0
set_option maxRecDepth 65536 in
set_option maxHeartbeats 40000000 in
theorem rm24_1 (l : Launch) (Z : State) (a0 : Array Value) (hw : ∀ d ∈ tables_1, d.before a0 Z = true) (ws : List Jvm.Cond)  (h0 : Heap) (n0 : Nat) (O0 : Old Z n0 h0) :
    MetFree l (⟨"java/lang/Math", "min", "(II)I"⟩ : MethodName) (head1 (Jvm.Cond.code (⟨"java/lang/Math", "min", "(II)I"⟩ : MethodName) jdk_29_method_69_code 2 (some .int) :: ws) ({ frames := 0, cells := 0, slots := 0, locals := 0 } : Room)) (fun a U => a = #[(.int (10 : Int32)), (.int (1 : Int32))] ∧ Z.Warmed39 U.vm ∧ U.heap = h0) (fun _ _ _ _ _ => True) (fun _ U o U' => ∃ v L, o = .returned v ∧ Q24_1 Z  h0 n0 v U'.heap L ∧ FrameEnd U o U' L ({ frames := 0, cells := 0, slots := 0, locals := 0 } : Room).cells ({ frames := 0, cells := 0, slots := 0, locals := 0 } : Room).slots) := by
  refine MetFree.of_bodySF (Jvm.Free.JP.mathPlain rfl (by decide +kernel)) hisR ?_
  intro p e s m args below meth c s₁ Bd hml0 hP hK
  obtain ⟨rfl, hZ, hh⟩ := hP
  have hx := Bd.exec
  have hby := Bd.bytes
  have hml : c.maxLocals = 2 := hml0
  have hown : s.vm.findClass "java/lang/Math" = some m.cls := findClass_of_methodNamed Bd.named
  have hnm := (name_of_methodNamed Bd.named Bd.method).1
  have X0 : Stand p l e ({ frames := 0, cells := 0, slots := 0, locals := 0 } : Room) s m #[(.int (10 : Int32)), (.int (1 : Int32))] below meth c s₁ [] 0 0 := Stand.of_body Bd
  have e0 : s₁.heap = h0 := by rw [← hh, Bd.state]; rfl
  have N0 := Fr.nil n0
  have pre0 : ∀ t, Steps p.tables e below (s₁.setTop (mkF m 0 #[.val (.int (10 : Int32)), .val (.int (1 : Int32))] [])) t → Steps p.tables e below (s₁.setTop (entryFrame m #[(.int (10 : Int32)), (.int (1 : Int32))] 2)) t := fun t k => castTop (by first | (simp [entryFrame, mkF, argsToLocals, Value.category]; done) | rfl) k
  obtain ⟨fs, hr, hrun, hended, hW, hsame⟩ := X0.leave (v := some (.int (1 : Int32))) (fun h => by rw [Bd.returns] at h; cases h)
  refine ⟨_, _, pre0 _ ?_, hrun, hended, _, _, rfl, ?_, ⟨_, rfl⟩, hW, hsame.mono (by decide) (by decide)⟩
  · show Steps p.tables e below (s₁.setTop (mkF m 0 #[.val (.int (10 : Int32)), .val (.int (1 : Int32))] [])) _
    refine XS.iloadN X0.here hx rfl (hb hby d24_0) rfl ?_
    refine XS.iloadN X0.here hx rfl (hb hby d24_1) rfl ?_
    refine XS.icmpYes X0.here hx rfl (pc0 := 2) (pc' := 9) rfl (hb hby d24_2) rfl (tlt (by decide : (1 : Int32) < (10 : Int32))).2.2.1 (by decide) (by decide) ?_
    show Steps p.tables e below (s₁.setTop (mkF m 9 #[.val (.int (10 : Int32)), .val (.int (1 : Int32))] [])) _
    refine XS.iloadN X0.here hx rfl (hb hby d24_9) rfl ?_
    exact retOut X0 hx (i := .ireturn) Bd.returns rfl (Or.inl ⟨rfl, Or.inl rfl, _, rfl⟩) (hb hby d24_10) hr
  · show Q24_1 Z  h0 n0 _ s₁.heap _
    rw [e0]
    exact ⟨rfl, N0, rfl⟩
theorem d23_35 : decode jdk_65_method_120_code 35 = .ok (.invokestatic 150, 3) := by decide +kernel
theorem d23_38 : decode jdk_65_method_120_code 38 = .ok (.aload_n 3, 1) := by decide +kernel
theorem d23_39 : decode jdk_65_method_120_code 39 = .ok (.areturn, 1) := by decide +kernel
theorem pn_java_util_Arrays : plainName "java/util/Arrays" = true := by first | (simp [plainName, overriddenIn]; done) | decide +kernel
def Q23_1 (Z : State) (r0 : Addr) (r1 : Addr) (c2 : ClassId) (r3 : Addr) (h0 : Heap) (n0 : Nat) (v : Option Value) (h : Heap) (L : List Loc) : Prop := ∃ (b3 : Addr) (k3 : ClassId), v = some (.ref b3) ∧ Fr n0 L ∧ Keep h0 h [] ∧ h0.size ≤ b3 ∧ Arv Z h b3 k3 (.object "java/lang/Object") (1 : Int32) [(.ref r3)] .null ∧ Exa Z h b3 "[Ljava/lang/Object;" ∧ Ovr Z k3 "java/lang/Object"
set_option maxRecDepth 65536 in
set_option maxHeartbeats 40000000 in
theorem rm23_1 (l : Launch) (Z : State) (a0 : Array Value) (hw : ∀ d ∈ tables_1, d.before a0 Z = true) (ws : List Jvm.Cond) (r0 : Addr) (r1 : Addr) (c2 : ClassId) (r3 : Addr) (h0 : Heap) (n0 : Nat) (O0 : Old Z n0 h0) (f1 : own_Mir Z "[Ljava/lang/Object;" r1) (f4 : Arv Z h0 r0 c2 (.object "java/lang/Object") (10 : Int32) [(.ref r3), .null, .null, .null, .null, .null, .null, .null, .null, .null] .null) (f10 : Exa Z h0 r3 cs10) :
    MetFree l (⟨"java/util/Arrays", "copyOf", cs13⟩ : MethodName) (head1 (Jvm.Cond.code (⟨"java/util/Arrays", "copyOf", cs13⟩ : MethodName) jdk_65_method_120_code 4 (some (.array (.object "java/lang/Object"))) :: ws) ({ frames := 1, cells := 1, slots := 1, locals := 24 } : Room)) (fun a U => a = #[(.ref r0), (.int (1 : Int32)), (.ref r1)] ∧ Z.Warmed39 U.vm ∧ U.heap = h0) (fun _ _ _ _ _ => True) (fun _ U o U' => ∃ v L, o = .returned v ∧ Q23_1 Z r0 r1 c2 r3 h0 n0 v U'.heap L ∧ FrameEnd U o U' L ({ frames := 1, cells := 1, slots := 1, locals := 24 } : Room).cells ({ frames := 1, cells := 1, slots := 1, locals := 24 } : Room).slots) := by
  refine MetFree.of_bodySF (plainFor_of_name pn_java_util_Arrays) hisR ?_
  intro p e s m args below meth c s₁ Bd hml0 hP hK
  obtain ⟨rfl, hZ, hh⟩ := hP
  have hx := Bd.exec
  have hby := Bd.bytes
  have hml : c.maxLocals = 4 := hml0
  have hown : s.vm.findClass "java/util/Arrays" = some m.cls := findClass_of_methodNamed Bd.named
  have hnm := (name_of_methodNamed Bd.named Bd.method).1
  have X0 : Stand p l e ({ frames := 1, cells := 1, slots := 1, locals := 24 } : Room) s m #[(.ref r0), (.int (1 : Int32)), (.ref r1)] below meth c s₁ [] 0 0 := Stand.of_body Bd
  have e0 : s₁.heap = h0 := by rw [← hh, Bd.state]; rfl
  have N0 := Fr.nil n0
  have pre0 : ∀ t, Steps p.tables e below (s₁.setTop (mkF m 0 #[.val (.ref r0), .val (.int (1 : Int32)), .val (.ref r1), .unset] [])) t → Steps p.tables e below (s₁.setTop (entryFrame m #[(.ref r0), (.int (1 : Int32)), (.ref r1)] 4)) t := fun t k => castTop (by first | (simp [entryFrame, mkF, argsToLocals, Value.category]; done) | rfl) k
  obtain ⟨T2, X2, e2, st2⟩ := own_ldcM X0 hx hZ hown (ww hw 179 rfl) e0 f1 (g := (mkF m 1 #[.val (.ref r0), .val (.int (1 : Int32)), .val (.ref r1), .unset] [(.ref r1)])) rfl (hb hby d23_1)
  obtain ⟨T3, h3, k3, X3, e3, E3, A3, B3, O3, st3⟩ := newRE X2 hx hZ hown (ww hw 180 rfl) (ww hw 156 rfl) e2 (g := (mkF m 7 #[.val (.ref r0), .val (.int (1 : Int32)), .val (.ref r1), .unset] [(.int (1 : Int32))])) rfl (hb hby d23_7) rfl (by decide) (cap := 1) (by decide) (by decide) (by decide) (by decide) (ad := "[Ljava/lang/Object;") rfl
  obtain ⟨b3, g3⟩ : ∃ z, z = h0.size := ⟨_, rfl⟩
  rw [← g3] at A3 B3 st3
  have V3 : Arv Z h3 b3 k3 (.object "java/lang/Object") (1 : Int32) [.null] .null := (Arv.new A3 (by decide)).pad (pad_rep [] .null 1)
  have f5 := (f4.ext E3)
  obtain ⟨clq6, Arq6, qq6, Sq6, Nq6, Hq6, Gq6⟩ := id f5
  have o7 := Old.ext O0 E3
  obtain ⟨_, _, ⟨T8, L8, k8, n8⟩, -, X8, ⟨Lc8, hQ8, l8, y8, z8⟩, st8⟩ := Jvm.LawKit.callS X3 hx (y := (⟨"java/lang/Math", "min", "(II)I"⟩ : MethodName)) hown (mvT hZ (ww hw 181 rfl)) (mvT hZ (ww hw 182 rfl)) (mvT hZ (ww hw 153 rfl)) (mvT hZ (ww hw 183 rfl)) (by decide) (backOf (W := 4) (rm24_1 l Z a0 hw [] h3 n0 o7) hZ (ww hw 183 rfl) (ww hw 153 rfl) (by decide) (by decide)) (g := (mkF m 32 #[.val (.ref r0), .val (.int (1 : Int32)), .val (.ref r1), .val (.ref b3)] [(.int (1 : Int32)), (.int (10 : Int32)), (.int (0 : Int32)), (.ref b3), (.int (0 : Int32)), (.ref r0)])) rfl (by rw [hml]; rfl) (argsL := [(.int (10 : Int32)), (.int (1 : Int32))]) (rest := [(.int (0 : Int32)), (.ref b3), (.int (0 : Int32)), (.ref r0)]) (lenOf pd__II_I rfl) rfl (by show 2 * 0 + _ ≤ _; exact Nat.le_of_eq rfl) (hb hby d23_32) (fun _ _ => ⟨rfl, e3, (by decide : 1 + 0 ≤ _), (by decide : 1 + 0 ≤ _)⟩)
  dsimp only [Pt.U, Pt.locs, Pt.cells, Pt.slots] at X8 l8 y8 z8 st8 hQ8
  subst l8 y8 z8
  obtain ⟨rfl, N8q, E8⟩ := hQ8
  have N8 := Fr.app N0 N8q
  obtain ⟨clq9, Arq9, qq9, Sq9, Nq9, Hq9, Gq9⟩ := id V3
  have f11 := (f10.ext E3)
  have zz12 : n0 ≤ h0.size := by rw [← O0.1]; exact O0.2.1
  have g13 := Nat.le_trans zz12 (Nat.le_of_eq g3.symm)
  obtain ⟨T14, h14, L14, X14, e14, N14, K14, B14, st14⟩ := cpA X8 hx hZ hown (ww hw 184 rfl) (ww hw 187 rfl) (ww hw 185 rfl) (ww hw 186 rfl) E8 f5 V3 (us := [(.ref r3)]) (Or.inr ⟨rfl, rfl, (And.intro (Sto.ofV Arq9 qq9 O3 (Ins.of_exa f11 (ww hw 157 rfl))) trivial)⟩) (by decide) (by decide) (by decide) (by decide) (by decide) rfl (by decide) N8 g13 (g := (mkF m 35 #[.val (.ref r0), .val (.int (1 : Int32)), .val (.ref r1), .val (.ref b3)] [(.int (1 : Int32)), (.int (0 : Int32)), (.ref b3), (.int (0 : Int32)), (.ref r0)])) rfl (by rw [hml]; rfl) rfl (hb hby d23_35) (by decide) (W := 0) (by show 2 * 0 + _ ≤ _; exact Nat.le_of_eq rfl) (by decide)
  have V14 : Arv Z h14 b3 k3 (.object "java/lang/Object") (1 : Int32) [(.ref r3)] .null := B14
  have f15 := (B3.keep K14)
  have kp16 : Keep h0 h3 [] := (Keep.refl h0 []).ext E3
  have kp17 : Keep h0 h14 [] := kp16.trans K14 (allS (Or.inr (Nat.le_of_eq g3.symm)) all0)
  obtain ⟨fs, hr, hrun, hended, hW, hsame⟩ := X14.leave (v := some (.ref b3)) (fun h => by rw [Bd.returns] at h; cases h)
  refine ⟨_, _, pre0 _ ?_, hrun, hended, _, _, rfl, ?_, ⟨_, rfl⟩, hW, hsame.mono (by decide) (by decide)⟩
  · show Steps p.tables e below (s₁.setTop (mkF m 0 #[.val (.ref r0), .val (.int (1 : Int32)), .val (.ref r1), .unset] [])) _
    refine XS.aloadN X0.here hx rfl (hb hby d23_0) rfl rfl ?_
    refine st2 _ ?_
    show Steps p.tables e below (T2.setTop (mkF m 3 #[.val (.ref r0), .val (.int (1 : Int32)), .val (.ref r1), .unset] [(.ref r1), (.ref r1)])) _
    refine Jvm.RoadKit.acmp (g := (mkF m 3 #[.val (.ref r0), .val (.int (1 : Int32)), .val (.ref r1), .unset] [(.ref r1), (.ref r1)])) X2 hx rfl rfl rfl (pc0 := 3) (pc' := 6) (same := true) rfl (hb hby d23_3) rfl (decide_eq_true rfl) (by decide) (by decide) ?_
    show Steps p.tables e below (T2.setTop (mkF m 6 #[.val (.ref r0), .val (.int (1 : Int32)), .val (.ref r1), .unset] [])) _
    refine XS.iloadN X2.here hx rfl (hb hby d23_6) rfl ?_
    refine st3 _ ?_
    show Steps p.tables e below (T3.setTop (mkF m 10 #[.val (.ref r0), .val (.int (1 : Int32)), .val (.ref r1), .unset] [(.ref b3)])) _
    refine XS.goto X3.here hx rfl (pc0 := 10) (pc' := 24) rfl (hb hby d23_10) (by decide) (by decide) ?_
    show Steps p.tables e below (T3.setTop (mkF m 24 #[.val (.ref r0), .val (.int (1 : Int32)), .val (.ref r1), .unset] [(.ref b3)])) _
    refine XS.astoreN X3.here hx rfl (hb hby d23_24) rfl rfl (l' := #[.val (.ref r0), .val (.int (1 : Int32)), .val (.ref r1), .val (.ref b3)]) rfl ?_
    refine XS.aloadN X3.here hx rfl (hb hby d23_25) rfl rfl ?_
    refine XS.iconst X3.here hx rfl (hb hby d23_26) ?_
    refine XS.aloadN X3.here hx rfl (hb hby d23_27) rfl rfl ?_
    show Steps p.tables e below (T3.setTop (mkF m 28 #[.val (.ref r0), .val (.int (1 : Int32)), .val (.ref r1), .val (.ref b3)] [(.ref b3), (.int (0 : Int32)), (.ref r0)])) _
    refine XS.iconst X3.here hx rfl (hb hby d23_28) ?_
    refine XS.aloadN X3.here hx rfl (hb hby d23_29) rfl rfl ?_
    refine X3.arraylength hx (by rw [e3]; exact Arq6.1) (State.isArrayOf_alike hZ.alike Arq6.2.1) (g := (mkF m 30 #[.val (.ref r0), .val (.int (1 : Int32)), .val (.ref r1), .val (.ref b3)] [(.ref r0), (.int (0 : Int32)), (.ref b3), (.int (0 : Int32)), (.ref r0)])) rfl rfl (hb hby d23_30) _ ?_
    rw [len_of Sq6 Nq6]
    show Steps p.tables e below (T3.setTop (mkF m 31 #[.val (.ref r0), .val (.int (1 : Int32)), .val (.ref r1), .val (.ref b3)] [(.int (10 : Int32)), (.int (0 : Int32)), (.ref b3), (.int (0 : Int32)), (.ref r0)])) _
    refine XS.iloadN X3.here hx rfl (hb hby d23_31) rfl ?_
    refine st8 _ ?_
    show Steps p.tables e below (T8.setTop (mkF m 35 #[.val (.ref r0), .val (.int (1 : Int32)), .val (.ref r1), .val (.ref b3)] [(.int (1 : Int32)), (.int (0 : Int32)), (.ref b3), (.int (0 : Int32)), (.ref r0)])) _
    refine st14 _ ?_
    show Steps p.tables e below (T14.setTop (mkF m 38 #[.val (.ref r0), .val (.int (1 : Int32)), .val (.ref r1), .val (.ref b3)] [])) _
    refine XS.aloadN X14.here hx rfl (hb hby d23_38) rfl rfl ?_
    exact retOut X14 hx (i := .areturn) Bd.returns rfl (Or.inr (Or.inr (Or.inr (Or.inr ⟨rfl, rfl, rfl⟩)))) (hb hby d23_39) hr
  · show Q23_1 Z r0 r1 c2 r3 h0 n0 _ T14.heap _
    rw [e14]
    exact ⟨b3, k3, rfl, N14, kp17, (Nat.le_of_eq g3.symm), V14, f15, O3⟩
theorem pd___Ljava_lang_Object_ILjava_lang_Class___Ljava_lang_Object_ : parseMethodDescriptor cs13 = some ⟨[(.array (.object "java/lang/Object")), .int, (.object "java/lang/Class")], some (.array (.object "java/lang/Object"))⟩ := by decide +kernel
theorem d22_9 : decode jdk_65_method_119_code 9 = .ok (.areturn, 1) := by decide +kernel
def Q22_1 (Z : State) (r0 : Addr) (r1 : Addr) (c2 : ClassId) (r3 : Addr) (h0 : Heap) (n0 : Nat) (v : Option Value) (h : Heap) (L : List Loc) : Prop := ∃ (b6_0 : Addr) (k6_0 : ClassId), v = some (.ref b6_0) ∧ Fr n0 L ∧ Keep h0 h [] ∧ h0.size ≤ b6_0 ∧ Arv Z h b6_0 k6_0 (.object "java/lang/Object") (1 : Int32) [(.ref r3)] .null ∧ Exa Z h b6_0 "[Ljava/lang/Object;" ∧ Ovr Z k6_0 "java/lang/Object"
set_option maxRecDepth 65536 in
set_option maxHeartbeats 40000000 in
theorem rm22_1 (l : Launch) (Z : State) (a0 : Array Value) (hw : ∀ d ∈ tables_1, d.before a0 Z = true) (ws : List Jvm.Cond) (r0 : Addr) (r1 : Addr) (c2 : ClassId) (r3 : Addr) (h0 : Heap) (n0 : Nat) (O0 : Old Z n0 h0) (f1 : Exa Z h0 r0 "[Ljava/lang/Object;") (f2 : own_Mir Z "[Ljava/lang/Object;" r1) (f4 : Arv Z h0 r0 c2 (.object "java/lang/Object") (10 : Int32) [(.ref r3), .null, .null, .null, .null, .null, .null, .null, .null, .null] .null) (f5 : Exa Z h0 r3 cs10) :
    MetFree l (⟨"java/util/Arrays", "copyOf", cs14⟩ : MethodName) (head1 (Jvm.Cond.code (⟨"java/util/Arrays", "copyOf", cs14⟩ : MethodName) jdk_65_method_119_code 2 (some (.array (.object "java/lang/Object"))) :: ws) ({ frames := 2, cells := 1, slots := 1, locals := 39 } : Room)) (fun a U => a = #[(.ref r0), (.int (1 : Int32))] ∧ Z.Warmed39 U.vm ∧ U.heap = h0) (fun _ _ _ _ _ => True) (fun _ U o U' => ∃ v L, o = .returned v ∧ Q22_1 Z r0 r1 c2 r3 h0 n0 v U'.heap L ∧ FrameEnd U o U' L ({ frames := 2, cells := 1, slots := 1, locals := 39 } : Room).cells ({ frames := 2, cells := 1, slots := 1, locals := 39 } : Room).slots) := by
  refine MetFree.of_bodySF (plainFor_of_name pn_java_util_Arrays) hisR ?_
  intro p e s m args below meth c s₁ Bd hml0 hP hK
  obtain ⟨rfl, hZ, hh⟩ := hP
  have hx := Bd.exec
  have hby := Bd.bytes
  have hml : c.maxLocals = 2 := hml0
  have hown : s.vm.findClass "java/util/Arrays" = some m.cls := findClass_of_methodNamed Bd.named
  have hnm := (name_of_methodNamed Bd.named Bd.method).1
  have X0 : Stand p l e ({ frames := 2, cells := 1, slots := 1, locals := 39 } : Room) s m #[(.ref r0), (.int (1 : Int32))] below meth c s₁ [] 0 0 := Stand.of_body Bd
  have e0 : s₁.heap = h0 := by rw [← hh, Bd.state]; rfl
  have N0 := Fr.nil n0
  have pre0 : ∀ t, Steps p.tables e below (s₁.setTop (mkF m 0 #[.val (.ref r0), .val (.int (1 : Int32))] [])) t → Steps p.tables e below (s₁.setTop (entryFrame m #[(.ref r0), (.int (1 : Int32))] 2)) t := fun t k => castTop (by first | (simp [entryFrame, mkF, argsToLocals, Value.category]; done) | rfl) k
  obtain ⟨T3, X3, e3, st3⟩ := own_gcls X0 hx hZ hown (ww hw 170 rfl) (ww hw 171 rfl) (ww hw 54 rfl) (ww hw 173 rfl) (ww hw 172 rfl) (ww hw 174 rfl) e0 f1 f2 (g := (mkF m 3 #[.val (.ref r0), .val (.int (1 : Int32))] [(.ref r0), (.int (1 : Int32)), (.ref r0)])) rfl (by rw [hml]; rfl) rfl (hb hby d22_3) (by decide) (W := 2) (by show 2 * 0 + _ ≤ _; exact Nat.le_of_eq rfl) (by decide)
  obtain ⟨_, _, ⟨T6, L6, k6, n6⟩, -, X6, ⟨Lc6, hQ6, l6, y6, z6⟩, st6⟩ := Jvm.LawKit.callS X3 hx (y := (⟨"java/util/Arrays", "copyOf", cs13⟩ : MethodName)) hown (mvT hZ (ww hw 176 rfl)) (mvT hZ (ww hw 177 rfl)) (mvT hZ (ww hw 168 rfl)) (mvT hZ (ww hw 178 rfl)) (by decide) (backOf (W := 0) (rm23_1 l Z a0 hw [] r0 r1 c2 r3 h0 n0 O0 f2 f4 f5) hZ (ww hw 178 rfl) (ww hw 168 rfl) (by decide) (by decide)) (g := (mkF m 6 #[.val (.ref r0), .val (.int (1 : Int32))] [(.ref r1), (.int (1 : Int32)), (.ref r0)])) rfl (by rw [hml]; rfl) (argsL := [(.ref r0), (.int (1 : Int32)), (.ref r1)]) (rest := []) (lenOf pd___Ljava_lang_Object_ILjava_lang_Class___Ljava_lang_Object_ rfl) rfl (by show 2 * 0 + _ ≤ _; exact Nat.le_of_eq rfl) (hb hby d22_6) (fun _ _ => ⟨rfl, e3, (by decide : 0 + 1 ≤ _), (by decide : 0 + 1 ≤ _)⟩)
  dsimp only [Pt.U, Pt.locs, Pt.cells, Pt.slots] at X6 l6 y6 z6 st6 hQ6
  subst l6 y6 z6
  obtain ⟨b6_0, k6_0, rfl, N6q, K6, f7, f8, f9, f10⟩ := hQ6
  have N6 := Fr.app N0 N6q
  have kp11 : Keep h0 T6.heap [] := (Keep.refl h0 []).trans K6 all0
  obtain ⟨fs, hr, hrun, hended, hW, hsame⟩ := X6.leave (v := some (.ref b6_0)) (fun h => by rw [Bd.returns] at h; cases h)
  refine ⟨_, _, pre0 _ ?_, hrun, hended, _, _, rfl, ?_, ⟨_, rfl⟩, hW, hsame.mono (by decide) (by decide)⟩
  · show Steps p.tables e below (s₁.setTop (mkF m 0 #[.val (.ref r0), .val (.int (1 : Int32))] [])) _
    refine XS.aloadN X0.here hx rfl (hb hby d22_0) rfl rfl ?_
    refine XS.iloadN X0.here hx rfl (hb hby d22_1) rfl ?_
    refine XS.aloadN X0.here hx rfl (hb hby d22_2) rfl rfl ?_
    refine st3 _ ?_
    show Steps p.tables e below (T3.setTop (mkF m 6 #[.val (.ref r0), .val (.int (1 : Int32))] [(.ref r1), (.int (1 : Int32)), (.ref r0)])) _
    refine st6 _ ?_
    show Steps p.tables e below (T6.setTop (mkF m 9 #[.val (.ref r0), .val (.int (1 : Int32))] [(.ref b6_0)])) _
    exact retOut X6 hx (i := .areturn) Bd.returns rfl (Or.inr (Or.inr (Or.inr (Or.inr ⟨rfl, rfl, rfl⟩)))) (hb hby d22_9) hr
  · show Q22_1 Z r0 r1 c2 r3 h0 n0 _ T6.heap _
    exact ⟨b6_0, k6_0, rfl, N6, kp11, f7, f8, f9, f10⟩
theorem pd___Ljava_lang_Object_I__Ljava_lang_Object_ : parseMethodDescriptor cs14 = some ⟨[(.array (.object "java/lang/Object")), .int], some (.array (.object "java/lang/Object"))⟩ := by decide +kernel
theorem d21_11 : decode jdk_38_method_16_code 11 = .ok (.areturn, 1) := by decide +kernel
def Q21_1 (Z : State) (r0 : Addr) (r1 : Addr) (r2 : Addr) (c3 : ClassId) (r4 : Addr) (h0 : Heap) (n0 : Nat) (v : Option Value) (h : Heap) (L : List Loc) : Prop := ∃ (b9_0 : Addr) (k9_0 : ClassId), v = some (.ref b9_0) ∧ Fr n0 L ∧ Keep h0 h [] ∧ h0.size ≤ b9_0 ∧ Arv Z h b9_0 k9_0 (.object "java/lang/Object") (1 : Int32) [(.ref r4)] .null ∧ Exa Z h b9_0 "[Ljava/lang/Object;" ∧ Ovr Z k9_0 "java/lang/Object"
set_option maxRecDepth 65536 in
set_option maxHeartbeats 40000000 in
theorem rm21_1 (l : Launch) (Z : State) (a0 : Array Value) (hw : ∀ d ∈ tables_1, d.before a0 Z = true) (ws : List Jvm.Cond) (r0 : Addr) (r1 : Addr) (r2 : Addr) (c3 : ClassId) (r4 : Addr) (h0 : Heap) (n0 : Nat) (O0 : Old Z n0 h0) (f1 : Fld Z h0 r0 "java/util/ArrayList" "elementData" "[Ljava/lang/Object;" (.ref r1)) (f3 : Fld Z h0 r0 "java/util/ArrayList" "size" "I" (.int (1 : Int32))) (f5 : Exa Z h0 r1 "[Ljava/lang/Object;") (f6 : own_Mir Z "[Ljava/lang/Object;" r2) (f7 : Arv Z h0 r1 c3 (.object "java/lang/Object") (10 : Int32) [(.ref r4), .null, .null, .null, .null, .null, .null, .null, .null, .null] .null) (f8 : Exa Z h0 r4 cs10) :
    MetFree l (⟨"java/util/ArrayList", "toArray", "()[Ljava/lang/Object;"⟩ : MethodName) (head1 (Jvm.Cond.code (⟨"java/util/ArrayList", "toArray", "()[Ljava/lang/Object;"⟩ : MethodName) jdk_38_method_16_code 1 (some (.array (.object "java/lang/Object"))) :: ws) ({ frames := 3, cells := 1, slots := 1, locals := 52 } : Room)) (fun a U => a = #[(.ref r0)] ∧ Z.Warmed39 U.vm ∧ U.heap = h0) (fun _ _ _ _ _ => True) (fun _ U o U' => ∃ v L, o = .returned v ∧ Q21_1 Z r0 r1 r2 c3 r4 h0 n0 v U'.heap L ∧ FrameEnd U o U' L ({ frames := 3, cells := 1, slots := 1, locals := 52 } : Room).cells ({ frames := 3, cells := 1, slots := 1, locals := 52 } : Room).slots) := by
  refine MetFree.of_bodySF (plainFor_of_name pn_java_util_ArrayList) hisR ?_
  intro p e s m args below meth c s₁ Bd hml0 hP hK
  obtain ⟨rfl, hZ, hh⟩ := hP
  have hx := Bd.exec
  have hby := Bd.bytes
  have hml : c.maxLocals = 1 := hml0
  have hown : s.vm.findClass "java/util/ArrayList" = some m.cls := findClass_of_methodNamed Bd.named
  have hnm := (name_of_methodNamed Bd.named Bd.method).1
  have X0 : Stand p l e ({ frames := 3, cells := 1, slots := 1, locals := 52 } : Room) s m #[(.ref r0)] below meth c s₁ [] 0 0 := Stand.of_body Bd
  have e0 : s₁.heap = h0 := by rw [← hh, Bd.state]; rfl
  have N0 := Fr.nil n0
  have pre0 : ∀ t, Steps p.tables e below (s₁.setTop (mkF m 0 #[.val (.ref r0)] [])) t → Steps p.tables e below (s₁.setTop (entryFrame m #[(.ref r0)] 1)) t := fun t k => castTop (by first | (simp [entryFrame, mkF, argsToLocals, Value.category]; done) | rfl) k
  obtain ⟨T2, X2, e2, st2⟩ := getF X0 hx hZ hown (host := "") (Or.inl (ww hw 31 rfl)) Via.refl e0 f1 (g := (mkF m 1 #[.val (.ref r0)] [(.ref r0)])) rfl rfl (hb hby d21_1)
  obtain ⟨T4, X4, e4, st4⟩ := getF X2 hx hZ hown (host := "") (Or.inl (ww hw 65 rfl)) Via.refl e2 f3 (g := (mkF m 5 #[.val (.ref r0)] [(.ref r0), (.ref r1)])) rfl rfl (hb hby d21_5)
  obtain ⟨_, _, ⟨T9, L9, k9, n9⟩, -, X9, ⟨Lc9, hQ9, l9, y9, z9⟩, st9⟩ := Jvm.LawKit.callS X4 hx (y := (⟨"java/util/Arrays", "copyOf", cs14⟩ : MethodName)) hown (mvT hZ (ww hw 166 rfl)) (mvT hZ (ww hw 167 rfl)) (mvT hZ (ww hw 168 rfl)) (mvT hZ (ww hw 169 rfl)) (by decide) (backOf (W := 0) (rm22_1 l Z a0 hw [] r1 r2 c3 r4 h0 n0 O0 f5 f6 f7 f8) hZ (ww hw 169 rfl) (ww hw 168 rfl) (by decide) (by decide)) (g := (mkF m 8 #[.val (.ref r0)] [(.int (1 : Int32)), (.ref r1)])) rfl (by rw [hml]; rfl) (argsL := [(.ref r1), (.int (1 : Int32))]) (rest := []) (lenOf pd___Ljava_lang_Object_I__Ljava_lang_Object_ rfl) rfl (by show 2 * 0 + _ ≤ _; exact Nat.le_of_eq rfl) (hb hby d21_8) (fun _ _ => ⟨rfl, e4, (by decide : 0 + 1 ≤ _), (by decide : 0 + 1 ≤ _)⟩)
  dsimp only [Pt.U, Pt.locs, Pt.cells, Pt.slots] at X9 l9 y9 z9 st9 hQ9
  subst l9 y9 z9
  obtain ⟨b9_0, k9_0, rfl, N9q, K9, f10, f11, f12, f13⟩ := hQ9
  have N9 := Fr.app N0 N9q
  have kp14 : Keep h0 T9.heap [] := (Keep.refl h0 []).trans K9 all0
  obtain ⟨fs, hr, hrun, hended, hW, hsame⟩ := X9.leave (v := some (.ref b9_0)) (fun h => by rw [Bd.returns] at h; cases h)
  refine ⟨_, _, pre0 _ ?_, hrun, hended, _, _, rfl, ?_, ⟨_, rfl⟩, hW, hsame.mono (by decide) (by decide)⟩
  · show Steps p.tables e below (s₁.setTop (mkF m 0 #[.val (.ref r0)] [])) _
    refine XS.aloadN X0.here hx rfl (hb hby d21_0) rfl rfl ?_
    refine st2 _ ?_
    show Steps p.tables e below (T2.setTop (mkF m 4 #[.val (.ref r0)] [(.ref r1)])) _
    refine XS.aloadN X2.here hx rfl (hb hby d21_4) rfl rfl ?_
    refine st4 _ ?_
    show Steps p.tables e below (T4.setTop (mkF m 8 #[.val (.ref r0)] [(.int (1 : Int32)), (.ref r1)])) _
    refine st9 _ ?_
    show Steps p.tables e below (T9.setTop (mkF m 11 #[.val (.ref r0)] [(.ref b9_0)])) _
    exact retOut X9 hx (i := .areturn) Bd.returns rfl (Or.inr (Or.inr (Or.inr (Or.inr ⟨rfl, rfl, rfl⟩)))) (hb hby d21_11) hr
  · show Q21_1 Z r0 r1 r2 c3 r4 h0 n0 _ T9.heap _
    exact ⟨b9_0, k9_0, rfl, N9, kp14, f10, f11, f12, f13⟩
theorem d8_50 : decode jdk_56_method_3_code 50 = .ok (.invokestatic 34, 3) := by decide +kernel
theorem d25_0 : decode jdk_40_method_47_code 0 = .ok (.aload_n 0, 1) := by decide +kernel
theorem d25_1 : decode jdk_40_method_47_code 1 = .ok (.arraylength, 1) := by decide +kernel
theorem d25_2 : decode jdk_40_method_47_code 2 = .ok (.tableswitch 57 0 2 #[26, 32, 43], 26) := by decide +kernel
theorem d25_34 : decode jdk_40_method_47_code 34 = .ok (.new 96, 3) := by decide +kernel
theorem d25_37 : decode jdk_40_method_47_code 37 = .ok (.dup, 1) := by decide +kernel
theorem d25_38 : decode jdk_40_method_47_code 38 = .ok (.aload_n 0, 1) := by decide +kernel
theorem d25_39 : decode jdk_40_method_47_code 39 = .ok (.iconst 0, 1) := by decide +kernel
theorem d25_40 : decode jdk_40_method_47_code 40 = .ok (.aaload, 1) := by decide +kernel
theorem d25_41 : decode jdk_40_method_47_code 41 = .ok (.invokespecial 98, 3) := by decide +kernel
theorem d26_0 : decode jdk_44_method_1_code 0 = .ok (.aload_n 0, 1) := by decide +kernel
theorem d26_1 : decode jdk_44_method_1_code 1 = .ok (.invokespecial 1, 3) := by decide +kernel
theorem d27_0 : decode jdk_46_method_1_code 0 = .ok (.aload_n 0, 1) := by decide +kernel
theorem d27_1 : decode jdk_46_method_1_code 1 = .ok (.invokespecial 1, 3) := by decide +kernel
theorem d28_0 : decode jdk_47_method_1_code 0 = .ok (.aload_n 0, 1) := by decide +kernel
theorem d28_1 : decode jdk_47_method_1_code 1 = .ok (.invokespecial 1, 3) := by decide +kernel
theorem d28_4 : decode jdk_47_method_1_code 4 = .ok (.return_, 1) := by decide +kernel
theorem pn_java_util_ImmutableCollections_AbstractImmutableCollection : plainName cs15 = true := by first | (simp [plainName, overriddenIn]; done) | decide +kernel
def Q28_1 (Z : State) (r0 : Addr) (h0 : Heap) (n0 : Nat) (v : Option Value) (h : Heap) (L : List Loc) : Prop := v = none ∧ Fr n0 L ∧ h = h0
set_option maxRecDepth 65536 in
set_option maxHeartbeats 40000000 in
theorem rm28_1 (l : Launch) (Z : State) (a0 : Array Value) (hw : ∀ d ∈ tables_1, d.before a0 Z = true) (ws : List Jvm.Cond) (r0 : Addr) (h0 : Heap) (n0 : Nat) (O0 : Old Z n0 h0) :
    MetFree l (⟨cs15, "<init>", "()V"⟩ : MethodName) (head1 (Jvm.Cond.code (⟨cs15, "<init>", "()V"⟩ : MethodName) jdk_47_method_1_code 1 none :: ws) ({ frames := 2, cells := 0, slots := 0, locals := 24 } : Room)) (fun a U => a = #[(.ref r0)] ∧ Z.Warmed39 U.vm ∧ U.heap = h0) (fun _ _ _ _ _ => True) (fun _ U o U' => ∃ v L, o = .returned v ∧ Q28_1 Z r0 h0 n0 v U'.heap L ∧ FrameEnd U o U' L ({ frames := 2, cells := 0, slots := 0, locals := 24 } : Room).cells ({ frames := 2, cells := 0, slots := 0, locals := 24 } : Room).slots) := by
  refine MetFree.of_bodySF (plainFor_of_name pn_java_util_ImmutableCollections_AbstractImmutableCollection) hisR ?_
  intro p e s m args below meth c s₁ Bd hml0 hP hK
  obtain ⟨rfl, hZ, hh⟩ := hP
  have hx := Bd.exec
  have hby := Bd.bytes
  have hml : c.maxLocals = 1 := hml0
  have hown : s.vm.findClass cs15 = some m.cls := findClass_of_methodNamed Bd.named
  have hnm := (name_of_methodNamed Bd.named Bd.method).1
  have X0 : Stand p l e ({ frames := 2, cells := 0, slots := 0, locals := 24 } : Room) s m #[(.ref r0)] below meth c s₁ [] 0 0 := Stand.of_body Bd
  have e0 : s₁.heap = h0 := by rw [← hh, Bd.state]; rfl
  have N0 := Fr.nil n0
  have pre0 : ∀ t, Steps p.tables e below (s₁.setTop (mkF m 0 #[.val (.ref r0)] [])) t → Steps p.tables e below (s₁.setTop (entryFrame m #[(.ref r0)] 1)) t := fun t k => castTop (by first | (simp [entryFrame, mkF, argsToLocals, Value.category]; done) | rfl) k
  obtain ⟨_, _, ⟨T1, L1, k1, n1⟩, -, X1, ⟨Lc1, hQ1, l1, y1, z1⟩, st1⟩ := X0.specialBack hx (y := (⟨cs0, "<init>", "()V"⟩ : MethodName)) rfl hown (mvT hZ (ww hw 210 rfl)) (mvT hZ (ww hw 20 rfl)) (mvT hZ (ww hw 24 rfl)) (by decide) (backOf (W := 0) (rm4_1 l Z a0 hw [] r0 h0 n0 O0) hZ (ww hw 24 rfl) (ww hw 23 rfl) (by decide) (by decide)) (g := (mkF m 1 #[.val (.ref r0)] [(.ref r0)])) rfl (by rw [hml]; rfl) (Steps.refl _) (a := r0) (argsL := []) (rest := []) (lenOf pd___V rfl) rfl (by show 2 * 0 + _ ≤ _; exact Nat.le_of_eq rfl) (hb hby d28_1) (fun _ _ => ⟨rfl, e0, (by decide : 0 + 0 ≤ _), (by decide : 0 + 0 ≤ _)⟩)
  dsimp only [Pt.U, Pt.locs, Pt.cells, Pt.slots] at X1 l1 y1 z1 st1 hQ1
  subst l1 y1 z1
  obtain ⟨rfl, N1q, E1⟩ := hQ1
  have N1 := Fr.app N0 N1q
  obtain ⟨fs, hr, hrun, hended, hW, hsame⟩ := X1.leave (v := none) (fun _ => rfl)
  refine ⟨_, _, pre0 _ ?_, hrun, hended, _, _, rfl, ?_, ⟨_, rfl⟩, hW, hsame.mono (by decide) (by decide)⟩
  · show Steps p.tables e below (s₁.setTop (mkF m 0 #[.val (.ref r0)] [])) _
    refine XS.aloadN X0.here hx rfl (hb hby d28_0) rfl rfl ?_
    refine st1.trans ?_
    show Steps p.tables e below (T1.setTop (mkF m 4 #[.val (.ref r0)] [])) _
    exact X1.returnOut hx Bd.returns (hb hby d28_4) hr
  · show Q28_1 Z r0 h0 n0 _ T1.heap _
    rw [E1]
    exact ⟨rfl, N1, rfl⟩
theorem d27_4 : decode jdk_46_method_1_code 4 = .ok (.return_, 1) := by decide +kernel
theorem pn_java_util_ImmutableCollections_AbstractImmutableList : plainName cs16 = true := by first | (simp [plainName, overriddenIn]; done) | decide +kernel
def Q27_1 (Z : State) (r0 : Addr) (h0 : Heap) (n0 : Nat) (v : Option Value) (h : Heap) (L : List Loc) : Prop := v = none ∧ Fr n0 L ∧ h = h0
set_option maxRecDepth 65536 in
set_option maxHeartbeats 40000000 in
theorem rm27_1 (l : Launch) (Z : State) (a0 : Array Value) (hw : ∀ d ∈ tables_1, d.before a0 Z = true) (ws : List Jvm.Cond) (r0 : Addr) (h0 : Heap) (n0 : Nat) (O0 : Old Z n0 h0) :
    MetFree l (⟨cs16, "<init>", "()V"⟩ : MethodName) (head1 (Jvm.Cond.code (⟨cs16, "<init>", "()V"⟩ : MethodName) jdk_46_method_1_code 1 none :: ws) ({ frames := 3, cells := 0, slots := 0, locals := 36 } : Room)) (fun a U => a = #[(.ref r0)] ∧ Z.Warmed39 U.vm ∧ U.heap = h0) (fun _ _ _ _ _ => True) (fun _ U o U' => ∃ v L, o = .returned v ∧ Q27_1 Z r0 h0 n0 v U'.heap L ∧ FrameEnd U o U' L ({ frames := 3, cells := 0, slots := 0, locals := 36 } : Room).cells ({ frames := 3, cells := 0, slots := 0, locals := 36 } : Room).slots) := by
  refine MetFree.of_bodySF (plainFor_of_name pn_java_util_ImmutableCollections_AbstractImmutableList) hisR ?_
  intro p e s m args below meth c s₁ Bd hml0 hP hK
  obtain ⟨rfl, hZ, hh⟩ := hP
  have hx := Bd.exec
  have hby := Bd.bytes
  have hml : c.maxLocals = 1 := hml0
  have hown : s.vm.findClass cs16 = some m.cls := findClass_of_methodNamed Bd.named
  have hnm := (name_of_methodNamed Bd.named Bd.method).1
  have X0 : Stand p l e ({ frames := 3, cells := 0, slots := 0, locals := 36 } : Room) s m #[(.ref r0)] below meth c s₁ [] 0 0 := Stand.of_body Bd
  have e0 : s₁.heap = h0 := by rw [← hh, Bd.state]; rfl
  have N0 := Fr.nil n0
  have pre0 : ∀ t, Steps p.tables e below (s₁.setTop (mkF m 0 #[.val (.ref r0)] [])) t → Steps p.tables e below (s₁.setTop (entryFrame m #[(.ref r0)] 1)) t := fun t k => castTop (by first | (simp [entryFrame, mkF, argsToLocals, Value.category]; done) | rfl) k
  obtain ⟨_, _, ⟨T1, L1, k1, n1⟩, -, X1, ⟨Lc1, hQ1, l1, y1, z1⟩, st1⟩ := X0.specialBack hx (y := (⟨cs15, "<init>", "()V"⟩ : MethodName)) rfl hown (mvT hZ (ww hw 204 rfl)) (mvT hZ (ww hw 205 rfl)) (mvT hZ (ww hw 209 rfl)) (by decide) (backOf (W := 0) (rm28_1 l Z a0 hw [] r0 h0 n0 O0) hZ (ww hw 209 rfl) (ww hw 208 rfl) (by decide) (by decide)) (g := (mkF m 1 #[.val (.ref r0)] [(.ref r0)])) rfl (by rw [hml]; rfl) (Steps.refl _) (a := r0) (argsL := []) (rest := []) (lenOf pd___V rfl) rfl (by show 2 * 0 + _ ≤ _; exact Nat.le_of_eq rfl) (hb hby d27_1) (fun _ _ => ⟨rfl, e0, (by decide : 0 + 0 ≤ _), (by decide : 0 + 0 ≤ _)⟩)
  dsimp only [Pt.U, Pt.locs, Pt.cells, Pt.slots] at X1 l1 y1 z1 st1 hQ1
  subst l1 y1 z1
  obtain ⟨rfl, N1q, E1⟩ := hQ1
  have N1 := Fr.app N0 N1q
  obtain ⟨fs, hr, hrun, hended, hW, hsame⟩ := X1.leave (v := none) (fun _ => rfl)
  refine ⟨_, _, pre0 _ ?_, hrun, hended, _, _, rfl, ?_, ⟨_, rfl⟩, hW, hsame.mono (by decide) (by decide)⟩
  · show Steps p.tables e below (s₁.setTop (mkF m 0 #[.val (.ref r0)] [])) _
    refine XS.aloadN X0.here hx rfl (hb hby d27_0) rfl rfl ?_
    refine st1.trans ?_
    show Steps p.tables e below (T1.setTop (mkF m 4 #[.val (.ref r0)] [])) _
    exact X1.returnOut hx Bd.returns (hb hby d27_4) hr
  · show Q27_1 Z r0 h0 n0 _ T1.heap _
    rw [E1]
    exact ⟨rfl, N1, rfl⟩
theorem d26_4 : decode jdk_44_method_1_code 4 = .ok (.aload_n 0, 1) := by decide +kernel
theorem d26_5 : decode jdk_44_method_1_code 5 = .ok (.aload_n 1, 1) := by decide +kernel
theorem d26_6 : decode jdk_44_method_1_code 6 = .ok (.invokestatic 7, 3) := by decide +kernel
theorem d29_0 : decode jdk_31_method_10_code 0 = .ok (.aload_n 0, 1) := by decide +kernel
theorem d29_1 : decode jdk_31_method_10_code 1 = .ok (.ifnonnull 11, 3) := by decide +kernel
theorem d29_12 : decode jdk_31_method_10_code 12 = .ok (.aload_n 0, 1) := by decide +kernel
theorem d29_13 : decode jdk_31_method_10_code 13 = .ok (.areturn, 1) := by decide +kernel
theorem pn_java_util_Objects : plainName "java/util/Objects" = true := by first | (simp [plainName, overriddenIn]; done) | decide +kernel
def Q29_1 (Z : State) (r0 : Addr) (h0 : Heap) (n0 : Nat) (v : Option Value) (h : Heap) (L : List Loc) : Prop := v = some (.ref r0) ∧ Fr n0 L ∧ h = h0
set_option maxRecDepth 65536 in
set_option maxHeartbeats 40000000 in
theorem rm29_1 (l : Launch) (Z : State) (a0 : Array Value) (hw : ∀ d ∈ tables_1, d.before a0 Z = true) (ws : List Jvm.Cond) (r0 : Addr) (h0 : Heap) (n0 : Nat) (O0 : Old Z n0 h0) :
    MetFree l (⟨"java/util/Objects", "requireNonNull", cs17⟩ : MethodName) (head1 (Jvm.Cond.code (⟨"java/util/Objects", "requireNonNull", cs17⟩ : MethodName) jdk_31_method_10_code 1 (some (.object "java/lang/Object")) :: ws) ({ frames := 0, cells := 0, slots := 0, locals := 0 } : Room)) (fun a U => a = #[(.ref r0)] ∧ Z.Warmed39 U.vm ∧ U.heap = h0) (fun _ _ _ _ _ => True) (fun _ U o U' => ∃ v L, o = .returned v ∧ Q29_1 Z r0 h0 n0 v U'.heap L ∧ FrameEnd U o U' L ({ frames := 0, cells := 0, slots := 0, locals := 0 } : Room).cells ({ frames := 0, cells := 0, slots := 0, locals := 0 } : Room).slots) := by
  refine MetFree.of_bodySF (plainFor_of_name pn_java_util_Objects) hisR ?_
  intro p e s m args below meth c s₁ Bd hml0 hP hK
  obtain ⟨rfl, hZ, hh⟩ := hP
  have hx := Bd.exec
  have hby := Bd.bytes
  have hml : c.maxLocals = 1 := hml0
  have hown : s.vm.findClass "java/util/Objects" = some m.cls := findClass_of_methodNamed Bd.named
  have hnm := (name_of_methodNamed Bd.named Bd.method).1
  have X0 : Stand p l e ({ frames := 0, cells := 0, slots := 0, locals := 0 } : Room) s m #[(.ref r0)] below meth c s₁ [] 0 0 := Stand.of_body Bd
  have e0 : s₁.heap = h0 := by rw [← hh, Bd.state]; rfl
  have N0 := Fr.nil n0
  have pre0 : ∀ t, Steps p.tables e below (s₁.setTop (mkF m 0 #[.val (.ref r0)] [])) t → Steps p.tables e below (s₁.setTop (entryFrame m #[(.ref r0)] 1)) t := fun t k => castTop (by first | (simp [entryFrame, mkF, argsToLocals, Value.category]; done) | rfl) k
  obtain ⟨fs, hr, hrun, hended, hW, hsame⟩ := X0.leave (v := some (.ref r0)) (fun h => by rw [Bd.returns] at h; cases h)
  refine ⟨_, _, pre0 _ ?_, hrun, hended, _, _, rfl, ?_, ⟨_, rfl⟩, hW, hsame.mono (by decide) (by decide)⟩
  · show Steps p.tables e below (s₁.setTop (mkF m 0 #[.val (.ref r0)] [])) _
    refine XS.aloadN X0.here hx rfl (hb hby d29_0) rfl rfl ?_
    refine XS.ifnonnullYes X0.here hx rfl (pc0 := 1) (pc' := 12) rfl (hb hby d29_1) rfl (by decide) (by decide) ?_
    show Steps p.tables e below (s₁.setTop (mkF m 12 #[.val (.ref r0)] [])) _
    refine XS.aloadN X0.here hx rfl (hb hby d29_12) rfl rfl ?_
    exact retOut X0 hx (i := .areturn) Bd.returns rfl (Or.inr (Or.inr (Or.inr (Or.inr ⟨rfl, rfl, rfl⟩)))) (hb hby d29_13) hr
  · show Q29_1 Z r0 h0 n0 _ s₁.heap _
    rw [e0]
    exact ⟨rfl, N0, rfl⟩
theorem pd__Ljava_lang_Object__Ljava_lang_Object_ : parseMethodDescriptor cs17 = some ⟨[(.object "java/lang/Object")], some (.object "java/lang/Object")⟩ := by decide +kernel
theorem d26_9 : decode jdk_44_method_1_code 9 = .ok (.putfield 13, 3) := by decide +kernel
theorem d26_12 : decode jdk_44_method_1_code 12 = .ok (.aload_n 0, 1) := by decide +kernel
theorem d26_13 : decode jdk_44_method_1_code 13 = .ok (.getstatic 19, 3) := by decide +kernel
theorem d26_16 : decode jdk_44_method_1_code 16 = .ok (.putfield 24, 3) := by decide +kernel
theorem d26_19 : decode jdk_44_method_1_code 19 = .ok (.return_, 1) := by decide +kernel
theorem pn_java_util_ImmutableCollections_List12 : plainName cs18 = true := by first | (simp [plainName, overriddenIn]; done) | decide +kernel
def Q26_1 (Z : State) (r0 : Addr) (r1 : Addr) (r2 : Addr) (h0 : Heap) (n0 : Nat) (v : Option Value) (h : Heap) (L : List Loc) : Prop := v = none ∧ Fr n0 L ∧ Keep h0 h [r0] ∧ Fld Z h r0 cs18 "e0" "Ljava/lang/Object;" (.ref r1) ∧ Fld Z h r0 cs18 "e1" "Ljava/lang/Object;" (.ref r2)
set_option maxRecDepth 65536 in
set_option maxHeartbeats 40000000 in
theorem rm26_1 (l : Launch) (Z : State) (a0 : Array Value) (hw : ∀ d ∈ tables_1, d.before a0 Z = true) (ws : List Jvm.Cond) (r0 : Addr) (r1 : Addr) (r2 : Addr) (h0 : Heap) (n0 : Nat) (O0 : Old Z n0 h0) (f3 : Exa Z h0 r0 cs18) (f4 : Fld Z h0 r0 cs18 "e0" "Ljava/lang/Object;" .null) (g5 : n0 ≤ r0) (f7 : Sta Z Z.heap cs2 "EMPTY" "Ljava/lang/Object;" (.ref r2)) (f12 : Fld Z h0 r0 cs18 "e1" "Ljava/lang/Object;" .null) :
    MetFree l (⟨cs18, "<init>", "(Ljava/lang/Object;)V"⟩ : MethodName) (head1 (Jvm.Cond.code (⟨cs18, "<init>", "(Ljava/lang/Object;)V"⟩ : MethodName) jdk_44_method_1_code 2 none :: ws) ({ frames := 4, cells := 0, slots := 0, locals := 48 } : Room)) (fun a U => a = #[(.ref r0), (.ref r1)] ∧ Z.Warmed39 U.vm ∧ U.heap = h0) (fun _ _ _ _ _ => True) (fun _ U o U' => ∃ v L, o = .returned v ∧ Q26_1 Z r0 r1 r2 h0 n0 v U'.heap L ∧ FrameEnd U o U' L ({ frames := 4, cells := 0, slots := 0, locals := 48 } : Room).cells ({ frames := 4, cells := 0, slots := 0, locals := 48 } : Room).slots) := by
  refine MetFree.of_bodySF (plainFor_of_name pn_java_util_ImmutableCollections_List12) hisR ?_
  intro p e s m args below meth c s₁ Bd hml0 hP hK
  obtain ⟨rfl, hZ, hh⟩ := hP
  have hx := Bd.exec
  have hby := Bd.bytes
  have hml : c.maxLocals = 2 := hml0
  have hown : s.vm.findClass cs18 = some m.cls := findClass_of_methodNamed Bd.named
  have hnm := (name_of_methodNamed Bd.named Bd.method).1
  have X0 : Stand p l e ({ frames := 4, cells := 0, slots := 0, locals := 48 } : Room) s m #[(.ref r0), (.ref r1)] below meth c s₁ [] 0 0 := Stand.of_body Bd
  have e0 : s₁.heap = h0 := by rw [← hh, Bd.state]; rfl
  have N0 := Fr.nil n0
  have pre0 : ∀ t, Steps p.tables e below (s₁.setTop (mkF m 0 #[.val (.ref r0), .val (.ref r1)] [])) t → Steps p.tables e below (s₁.setTop (entryFrame m #[(.ref r0), (.ref r1)] 2)) t := fun t k => castTop (by first | (simp [entryFrame, mkF, argsToLocals, Value.category]; done) | rfl) k
  obtain ⟨_, _, ⟨T1, L1, k1, n1⟩, -, X1, ⟨Lc1, hQ1, l1, y1, z1⟩, st1⟩ := X0.specialBack hx (y := (⟨cs16, "<init>", "()V"⟩ : MethodName)) rfl hown (mvT hZ (ww hw 198 rfl)) (mvT hZ (ww hw 199 rfl)) (mvT hZ (ww hw 203 rfl)) (by decide) (backOf (W := 0) (rm27_1 l Z a0 hw [] r0 h0 n0 O0) hZ (ww hw 203 rfl) (ww hw 202 rfl) (by decide) (by decide)) (g := (mkF m 1 #[.val (.ref r0), .val (.ref r1)] [(.ref r0)])) rfl (by rw [hml]; rfl) (Steps.refl _) (a := r0) (argsL := []) (rest := []) (lenOf pd___V rfl) rfl (by show 2 * 0 + _ ≤ _; exact Nat.le_of_eq rfl) (hb hby d26_1) (fun _ _ => ⟨rfl, e0, (by decide : 0 + 0 ≤ _), (by decide : 0 + 0 ≤ _)⟩)
  dsimp only [Pt.U, Pt.locs, Pt.cells, Pt.slots] at X1 l1 y1 z1 st1 hQ1
  subst l1 y1 z1
  obtain ⟨rfl, N1q, E1⟩ := hQ1
  have N1 := Fr.app N0 N1q
  obtain ⟨_, _, ⟨T2, L2, k2, n2⟩, -, X2, ⟨Lc2, hQ2, l2, y2, z2⟩, st2⟩ := Jvm.LawKit.callS X1 hx (y := (⟨"java/util/Objects", "requireNonNull", cs17⟩ : MethodName)) hown (mvT hZ (ww hw 212 rfl)) (mvT hZ (ww hw 213 rfl)) (mvT hZ (ww hw 214 rfl)) (mvT hZ (ww hw 215 rfl)) (by decide) (backOf (W := 1) (rm29_1 l Z a0 hw [] r1 h0 n0 O0) hZ (ww hw 215 rfl) (ww hw 214 rfl) (by decide) (by decide)) (g := (mkF m 6 #[.val (.ref r0), .val (.ref r1)] [(.ref r1), (.ref r0)])) rfl (by rw [hml]; rfl) (argsL := [(.ref r1)]) (rest := [(.ref r0)]) (lenOf pd__Ljava_lang_Object__Ljava_lang_Object_ rfl) rfl (by show 2 * 0 + _ ≤ _; exact Nat.le_of_eq rfl) (hb hby d26_6) (fun _ _ => ⟨rfl, E1, (by decide : 0 + 0 ≤ _), (by decide : 0 + 0 ≤ _)⟩)
  dsimp only [Pt.U, Pt.locs, Pt.cells, Pt.slots] at X2 l2 y2 z2 st2 hQ2
  subst l2 y2 z2
  obtain ⟨rfl, N2q, E2⟩ := hQ2
  have N2 := Fr.app N1 N2q
  obtain ⟨T6, h6, X6, e6, W6, st6⟩ := putF X2 hx hZ hown (host := "") (Or.inl (ww hw 216 rfl)) Via.refl E2 f4 f3 (Or.inr ⟨(ww hw 217 rfl), rfl, hnm⟩) (ww hw 192 rfl) (ty := (.object "java/lang/Object")) (by decide) rfl rfl (g := (mkF m 9 #[.val (.ref r0), .val (.ref r1)] [(.ref r1), (.ref r0)])) rfl rfl (hb hby d26_9)
  have Fw6 := f4.same W6
  have N6 := Fr.snoc X6 N2 g5
  have o8 := Old.wr O0 W6 g5
  have f9 := f7.ext o8.2
  obtain ⟨T10, X10, e10, st10⟩ := getS2 X6 hx hZ hown (Or.inr (ww hw 218 rfl)) Via.refl e6 f9 (g := (mkF m 13 #[.val (.ref r0), .val (.ref r1)] [(.ref r0)])) rfl (hb hby d26_13)
  have f11 := (f3.wr W6)
  have f13 := (f12.other W6 (Or.inr (slot_ne (Or.inr (ww hw 220 rfl)) (Or.inr (ww hw 217 rfl)) (by decide) (t := (.object "java/lang/Object")) (t' := (.object "java/lang/Object")) (by decide) (by decide))))
  obtain ⟨T14, h14, X14, e14, W14, st14⟩ := putF X10 hx hZ hown (host := "") (Or.inl (ww hw 219 rfl)) Via.refl e10 f13 f11 (Or.inr ⟨(ww hw 220 rfl), rfl, hnm⟩) (ww hw 192 rfl) (ty := (.object "java/lang/Object")) (by decide) rfl rfl (g := (mkF m 16 #[.val (.ref r0), .val (.ref r1)] [(.ref r2), (.ref r0)])) rfl rfl (hb hby d26_16)
  have Fw14 := f13.same W14
  have N14 := Fr.snoc X14 N6 g5
  have f15 := (Fw6.other W14 (Or.inr (slot_ne (Or.inr (ww hw 217 rfl)) (Or.inr (ww hw 220 rfl)) (by decide) (t := (.object "java/lang/Object")) (t' := (.object "java/lang/Object")) (by decide) (by decide))))
  have kp16 : Keep h0 h6 [r0] := (Keep.refl h0 [r0]).wr W6 (Or.inl (List.mem_of_getElem? (i := 0) rfl))
  have kp17 : Keep h0 h14 [r0] := kp16.wr W14 (Or.inl (List.mem_of_getElem? (i := 0) rfl))
  obtain ⟨fs, hr, hrun, hended, hW, hsame⟩ := X14.leave (v := none) (fun _ => rfl)
  refine ⟨_, _, pre0 _ ?_, hrun, hended, _, _, rfl, ?_, ⟨_, rfl⟩, hW, hsame.mono (by decide) (by decide)⟩
  · show Steps p.tables e below (s₁.setTop (mkF m 0 #[.val (.ref r0), .val (.ref r1)] [])) _
    refine XS.aloadN X0.here hx rfl (hb hby d26_0) rfl rfl ?_
    refine st1.trans ?_
    show Steps p.tables e below (T1.setTop (mkF m 4 #[.val (.ref r0), .val (.ref r1)] [])) _
    refine XS.aloadN X1.here hx rfl (hb hby d26_4) rfl rfl ?_
    refine XS.aloadN X1.here hx rfl (hb hby d26_5) rfl rfl ?_
    refine st2 _ ?_
    show Steps p.tables e below (T2.setTop (mkF m 9 #[.val (.ref r0), .val (.ref r1)] [(.ref r1), (.ref r0)])) _
    refine st6 _ ?_
    show Steps p.tables e below (T6.setTop (mkF m 12 #[.val (.ref r0), .val (.ref r1)] [])) _
    refine XS.aloadN X6.here hx rfl (hb hby d26_12) rfl rfl ?_
    refine st10 _ ?_
    show Steps p.tables e below (T10.setTop (mkF m 16 #[.val (.ref r0), .val (.ref r1)] [(.ref r2), (.ref r0)])) _
    refine st14 _ ?_
    show Steps p.tables e below (T14.setTop (mkF m 19 #[.val (.ref r0), .val (.ref r1)] [])) _
    exact X14.returnOut hx Bd.returns (hb hby d26_19) hr
  · show Q26_1 Z r0 r1 r2 h0 n0 _ T14.heap _
    rw [e14]
    exact ⟨rfl, N14, kp17, f15, Fw14⟩
theorem pd__Ljava_lang_Object__V : parseMethodDescriptor "(Ljava/lang/Object;)V" = some ⟨[(.object "java/lang/Object")], none⟩ := by decide +kernel
theorem d25_44 : decode jdk_40_method_47_code 44 = .ok (.areturn, 1) := by decide +kernel
def Q25_1 (Z : State) (r0 : Addr) (c1 : ClassId) (r2 : Addr) (r3 : Addr) (h0 : Heap) (n0 : Nat) (v : Option Value) (h : Heap) (L : List Loc) : Prop := ∃ (b3 : Addr), v = some (.ref b3) ∧ Fr n0 L ∧ Keep h0 h [] ∧ h0.size ≤ b3 ∧ Exa Z h b3 cs18 ∧ Fld Z h b3 cs18 "e0" "Ljava/lang/Object;" (.ref r2) ∧ Fld Z h b3 cs18 "e1" "Ljava/lang/Object;" (.ref r3)
set_option maxRecDepth 65536 in
set_option maxHeartbeats 40000000 in
theorem rm25_1 (l : Launch) (Z : State) (a0 : Array Value) (hw : ∀ d ∈ tables_1, d.before a0 Z = true) (ws : List Jvm.Cond) (r0 : Addr) (c1 : ClassId) (r2 : Addr) (r3 : Addr) (h0 : Heap) (n0 : Nat) (O0 : Old Z n0 h0) (f1 : Arv Z h0 r0 c1 (.object "java/lang/Object") (1 : Int32) [(.ref r2)] .null) (f10 : Sta Z Z.heap cs2 "EMPTY" "Ljava/lang/Object;" (.ref r3)) :
    MetFree l (⟨"java/util/List", "of", cs19⟩ : MethodName) (head1 (Jvm.Cond.code (⟨"java/util/List", "of", cs19⟩ : MethodName) jdk_40_method_47_code 2 (some (.object "java/util/List")) :: ws) ({ frames := 5, cells := 1, slots := 2, locals := 62 } : Room)) (fun a U => a = #[(.ref r0)] ∧ Z.Warmed39 U.vm ∧ U.heap = h0) (fun _ _ _ _ _ => True) (fun _ U o U' => ∃ v L, o = .returned v ∧ Q25_1 Z r0 c1 r2 r3 h0 n0 v U'.heap L ∧ FrameEnd U o U' L ({ frames := 5, cells := 1, slots := 2, locals := 62 } : Room).cells ({ frames := 5, cells := 1, slots := 2, locals := 62 } : Room).slots) := by
  refine MetFree.of_bodySF (plainFor_of_name pn_java_util_List) hisR ?_
  intro p e s m args below meth c s₁ Bd hml0 hP hK
  obtain ⟨rfl, hZ, hh⟩ := hP
  have hx := Bd.exec
  have hby := Bd.bytes
  have hml : c.maxLocals = 2 := hml0
  have hown : s.vm.findClass "java/util/List" = some m.cls := findClass_of_methodNamed Bd.named
  have hnm := (name_of_methodNamed Bd.named Bd.method).1
  have X0 : Stand p l e ({ frames := 5, cells := 1, slots := 2, locals := 62 } : Room) s m #[(.ref r0)] below meth c s₁ [] 0 0 := Stand.of_body Bd
  have e0 : s₁.heap = h0 := by rw [← hh, Bd.state]; rfl
  have N0 := Fr.nil n0
  have pre0 : ∀ t, Steps p.tables e below (s₁.setTop (mkF m 0 #[.val (.ref r0), .unset] [])) t → Steps p.tables e below (s₁.setTop (entryFrame m #[(.ref r0)] 2)) t := fun t k => castTop (by first | (simp [entryFrame, mkF, argsToLocals, Value.category]; done) | rfl) k
  obtain ⟨clq2, Arq2, qq2, Sq2, Nq2, Hq2, Gq2⟩ := id f1
  obtain ⟨T3, h3, X3, e3, E3, A3, D3, -, st3⟩ := newO X0 hx hZ hown (ww hw 191 rfl) (ww hw 192 rfl) (ww hw 193 rfl) e0 (g := (mkF m 34 #[.val (.ref r0), .unset] [])) rfl (hb hby d25_34) (by decide) (by decide)
  obtain ⟨b3, g3⟩ : ∃ z, z = h0.size := ⟨_, rfl⟩
  rw [← g3] at A3 D3 st3
  have f4 : Fld Z h3 b3 cs18 "e0" "Ljava/lang/Object;" .null := D3 (Or.inr (ww hw 217 rfl)) (ty := (.object "java/lang/Object")) (by decide)
  have f5 : Fld Z h3 b3 cs18 "e1" "Ljava/lang/Object;" .null := D3 (Or.inr (ww hw 220 rfl)) (ty := (.object "java/lang/Object")) (by decide)
  have f6 := (f1.ext E3)
  obtain ⟨clq7, Arq7, qq7, Sq7, Nq7, Hq7, Gq7⟩ := id f6
  have zz8 : n0 ≤ h0.size := by rw [← O0.1]; exact O0.2.1
  have g9 := Nat.le_trans zz8 (Nat.le_of_eq g3.symm)
  have o11 := Old.ext O0 E3
  obtain ⟨_, _, ⟨T12, L12, k12, n12⟩, -, X12, ⟨Lc12, hQ12, l12, y12, z12⟩, st12⟩ := X3.specialBack hx (y := (⟨cs18, "<init>", "(Ljava/lang/Object;)V"⟩ : MethodName)) rfl hown (mvT hZ (ww hw 194 rfl)) (mvT hZ (ww hw 195 rfl)) (mvT hZ (ww hw 197 rfl)) (by decide) (backOf (W := 1) (rm26_1 l Z a0 hw [] b3 r2 r3 h3 n0 o11 A3 f4 g9 f10 f5) hZ (ww hw 197 rfl) (ww hw 193 rfl) (by decide) (by decide)) (g := (mkF m 41 #[.val (.ref r0), .unset] [(.ref r2), (.ref b3), (.ref b3)])) rfl (by rw [hml]; rfl) (Steps.refl _) (a := b3) (argsL := [(.ref r2)]) (rest := [(.ref b3)]) (lenOf pd__Ljava_lang_Object__V rfl) rfl (by show 2 * 0 + _ ≤ _; exact Nat.le_of_eq rfl) (hb hby d25_41) (fun _ _ => ⟨rfl, e3, (by decide : 1 + 0 ≤ _), (by decide : 2 + 0 ≤ _)⟩)
  dsimp only [Pt.U, Pt.locs, Pt.cells, Pt.slots] at X12 l12 y12 z12 st12 hQ12
  subst l12 y12 z12
  obtain ⟨rfl, N12q, K12, f13, f14⟩ := hQ12
  have N12 := Fr.app N0 N12q
  have f15 := (A3.keep K12)
  have kp16 : Keep h0 h3 [] := (Keep.refl h0 []).ext E3
  have kp17 : Keep h0 T12.heap [] := kp16.trans K12 (allS (Or.inr (Nat.le_of_eq g3.symm)) all0)
  obtain ⟨fs, hr, hrun, hended, hW, hsame⟩ := X12.leave (v := some (.ref b3)) (fun h => by rw [Bd.returns] at h; cases h)
  refine ⟨_, _, pre0 _ ?_, hrun, hended, _, _, rfl, ?_, ⟨_, rfl⟩, hW, hsame.mono (by decide) (by decide)⟩
  · show Steps p.tables e below (s₁.setTop (mkF m 0 #[.val (.ref r0), .unset] [])) _
    refine XS.aloadN X0.here hx rfl (hb hby d25_0) rfl rfl ?_
    refine X0.arraylength hx (by rw [e0]; exact Arq2.1) (State.isArrayOf_alike hZ.alike Arq2.2.1) (g := (mkF m 1 #[.val (.ref r0), .unset] [(.ref r0)])) rfl rfl (hb hby d25_1) _ ?_
    rw [len_of Sq2 Nq2]
    show Steps p.tables e below (s₁.setTop (mkF m 2 #[.val (.ref r0), .unset] [(.int (1 : Int32))])) _
    refine XS.tswIn X0.here hx rfl (pc0 := 2) (pc' := 34) rfl (hb hby d25_2) rfl (by decide) rfl (by decide) (by decide) ?_
    refine st3 _ ?_
    show Steps p.tables e below (T3.setTop (mkF m 37 #[.val (.ref r0), .unset] [(.ref b3)])) _
    refine XS.dup X3.here hx rfl (hb hby d25_37) rfl rfl ?_
    refine XS.aloadN X3.here hx rfl (hb hby d25_38) rfl rfl ?_
    refine XS.iconst X3.here hx rfl (hb hby d25_39) ?_
    refine X3.aaload hx (j := (0 : Int32)) (v := (.ref r2)) (by rw [e3]; exact Arq7.1) (State.isArrayOf_alike hZ.alike Arq7.2.1) rfl Arq7.2.2 (inb_of Sq7 ⟨(by decide : ¬ ((0 : Int32) < (0 : Int32))), (by decide : (0 : Int32) < (1 : Int32))⟩) (Has.at Hq7 (inb_of Sq7 ⟨(by decide : ¬ ((0 : Int32) < (0 : Int32))), (by decide : (0 : Int32) < (1 : Int32))⟩) rfl) (g := (mkF m 40 #[.val (.ref r0), .unset] [(.int (0 : Int32)), (.ref r0), (.ref b3), (.ref b3)])) rfl rfl (hb hby d25_40) _ ?_
    show Steps p.tables e below (T3.setTop (mkF m 41 #[.val (.ref r0), .unset] [(.ref r2), (.ref b3), (.ref b3)])) _
    refine st12.trans ?_
    show Steps p.tables e below (T12.setTop (mkF m 44 #[.val (.ref r0), .unset] [(.ref b3)])) _
    exact retOut X12 hx (i := .areturn) Bd.returns rfl (Or.inr (Or.inr (Or.inr (Or.inr ⟨rfl, rfl, rfl⟩)))) (hb hby d25_44) hr
  · show Q25_1 Z r0 c1 r2 r3 h0 n0 _ T12.heap _
    exact ⟨b3, rfl, N12, kp17, (Nat.le_of_eq g3.symm), f15, f13, f14⟩
theorem pd___Ljava_lang_Object__Ljava_util_List_ : parseMethodDescriptor cs19 = some ⟨[(.array (.object "java/lang/Object"))], some (.object "java/util/List")⟩ := by decide +kernel
theorem d8_53 : decode jdk_56_method_3_code 53 = .ok (.areturn, 1) := by decide +kernel
def Q8_2 (Z : State) (r0 : Addr) (r1 : Addr) (r2 : Addr) (c3 : ClassId) (r4 : Addr) (r5 : Addr) (h0 : Heap) (n0 : Nat) (v : Option Value) (h : Heap) (L : List Loc) : Prop := ∃ (b20_0 : Addr), v = some (.ref b20_0) ∧ Fr n0 L ∧ Keep h0 h [] ∧ h0.size ≤ b20_0 ∧ Exa Z h b20_0 cs18 ∧ Fld Z h b20_0 cs18 "e0" "Ljava/lang/Object;" (.ref r4) ∧ Fld Z h b20_0 cs18 "e1" "Ljava/lang/Object;" (.ref r5)
set_option maxRecDepth 65536 in
set_option maxHeartbeats 40000000 in
theorem rm8_2 (l : Launch) (Z : State) (a0 : Array Value) (hw : ∀ d ∈ tables_1, d.before a0 Z = true) (ws : List Jvm.Cond) (r0 : Addr) (r1 : Addr) (r2 : Addr) (c3 : ClassId) (r4 : Addr) (r5 : Addr) (h0 : Heap) (n0 : Nat) (O0 : Old Z n0 h0) (f1 : Exa Z h0 r0 "java/util/ArrayList") (f4 : Fld Z h0 r0 "java/util/ArrayList" "size" "I" (.int (1 : Int32))) (f7 : Fld Z h0 r0 "java/util/ArrayList" "elementData" "[Ljava/lang/Object;" (.ref r1)) (f8 : Exa Z h0 r1 "[Ljava/lang/Object;") (f9 : own_Mir Z "[Ljava/lang/Object;" r2) (f10 : Arv Z h0 r1 c3 (.object "java/lang/Object") (10 : Int32) [(.ref r4), .null, .null, .null, .null, .null, .null, .null, .null, .null] .null) (f11 : Exa Z h0 r4 cs10) (f18 : Sta Z Z.heap cs2 "EMPTY" "Ljava/lang/Object;" (.ref r5)) :
    MetFree l (⟨cs2, "listCopy", cs4⟩ : MethodName) (head1 (Jvm.Cond.code (⟨cs2, "listCopy", cs4⟩ : MethodName) jdk_56_method_3_code 2 (some (.object "java/util/List")) :: ws) ({ frames := 6, cells := 2, slots := 3, locals := 75 } : Room)) (fun a U => a = #[(.ref r0)] ∧ Z.Warmed39 U.vm ∧ U.heap = h0) (fun _ _ _ _ _ => True) (fun _ U o U' => ∃ v L, o = .returned v ∧ Q8_2 Z r0 r1 r2 c3 r4 r5 h0 n0 v U'.heap L ∧ FrameEnd U o U' L ({ frames := 6, cells := 2, slots := 3, locals := 75 } : Room).cells ({ frames := 6, cells := 2, slots := 3, locals := 75 } : Room).slots) := by
  refine MetFree.of_bodySF (plainFor_of_name pn_java_util_ImmutableCollections) hisR ?_
  intro p e s m args below meth c s₁ Bd hml0 hP hK
  obtain ⟨rfl, hZ, hh⟩ := hP
  have hx := Bd.exec
  have hby := Bd.bytes
  have hml : c.maxLocals = 2 := hml0
  have hown : s.vm.findClass cs2 = some m.cls := findClass_of_methodNamed Bd.named
  have hnm := (name_of_methodNamed Bd.named Bd.method).1
  have X0 : Stand p l e ({ frames := 6, cells := 2, slots := 3, locals := 75 } : Room) s m #[(.ref r0)] below meth c s₁ [] 0 0 := Stand.of_body Bd
  have e0 : s₁.heap = h0 := by rw [← hh, Bd.state]; rfl
  have N0 := Fr.nil n0
  have pre0 : ∀ t, Steps p.tables e below (s₁.setTop (mkF m 0 #[.val (.ref r0), .unset] [])) t → Steps p.tables e below (s₁.setTop (entryFrame m #[(.ref r0)] 2)) t := fun t k => castTop (by first | (simp [entryFrame, mkF, argsToLocals, Value.category]; done) | rfl) k
  obtain ⟨T2, X2, e2, st2⟩ := instNo X0 hx hZ hown (ww hw 50 rfl) e0 f1 (own_NSno (ww hw 51 rfl) (ww hw 192 rfl) (NS.step (ww hw 51 rfl) (NS.step (ww hw 52 rfl) (NS.step (ww hw 53 rfl) (own_NSroot (ww hw 54 rfl) (ww hw 192 rfl) (by decide)) (by decide)) (by decide)) (by decide)) (by decide)) (g := (mkF m 1 #[.val (.ref r0), .unset] [(.ref r0)])) rfl rfl (hb hby d8_1)
  obtain ⟨T3, X3, e3, st3⟩ := instNo X2 hx hZ hown (ww hw 55 rfl) e2 f1 (own_NSno (ww hw 51 rfl) (ww hw 241 rfl) (NS.step (ww hw 51 rfl) (NS.step (ww hw 52 rfl) (NS.step (ww hw 53 rfl) (own_NSroot (ww hw 54 rfl) (ww hw 241 rfl) (by decide)) (by decide)) (by decide)) (by decide)) (by decide)) (g := (mkF m 8 #[.val (.ref r0), .unset] [(.ref r0)])) rfl rfl (hb hby d8_8)
  obtain ⟨cqq6, kqq6, qq6a, qq6b, qq6c⟩ := isOf hZ e3 f1
  obtain ⟨_, _, ⟨T5, L5, k5, n5⟩, -, X5, ⟨Lc5, hQ5, l5, y5, z5⟩, st5⟩ := X3.interfaceBack hx (xi := (⟨"java/util/Collection", "isEmpty", "()Z"⟩ : MethodName)) (y := (⟨"java/util/ArrayList", "isEmpty", "()Z"⟩ : MethodName)) hown (mvT hZ (ww hw 56 rfl)) (mvT hZ (ww hw 57 rfl)) (mvT hZ (ww hw 58 rfl)) (mvT hZ (ww hw 59 rfl)) (mvT hZ (ww hw 60 rfl)) (mvT hZ (ww hw 61 rfl)) (mvT hZ (ww hw 62 rfl)) (mvT hZ (ww hw 63 rfl)) (by decide) (backOf (W := 0) (rm9_2 l Z a0 hw [] r0 h0 n0 O0 f4) hZ (ww hw 64 rfl) (ww hw 9 rfl) (by decide) (by decide)) qq6a qq6b qq6c (g := (mkF m 32 #[.val (.ref r0), .unset] [(.ref r0)])) rfl (by rw [hml]; rfl) (Steps.refl _) (argsL := []) (rest := []) (lenOf pd___Z rfl) rfl (by show 2 * 0 + _ ≤ _; exact Nat.le_of_eq rfl) (hb hby d8_32) (fun _ _ => ⟨rfl, e3, (by decide : 0 + 0 ≤ _), (by decide : 0 + 0 ≤ _)⟩)
  dsimp only [Pt.U, Pt.locs, Pt.cells, Pt.slots] at X5 l5 y5 z5 st5 hQ5
  subst l5 y5 z5
  obtain ⟨rfl, N5q, E5⟩ := hQ5
  have N5 := Fr.app N0 N5q
  obtain ⟨cqq13, kqq13, qq13a, qq13b, qq13c⟩ := isOf hZ E5 f1
  obtain ⟨_, _, ⟨T12, L12, k12, n12⟩, -, X12, ⟨Lc12, hQ12, l12, y12, z12⟩, st12⟩ := X5.interfaceBack hx (xi := (⟨"java/util/Collection", "toArray", "()[Ljava/lang/Object;"⟩ : MethodName)) (y := (⟨"java/util/ArrayList", "toArray", "()[Ljava/lang/Object;"⟩ : MethodName)) hown (mvT hZ (ww hw 158 rfl)) (mvT hZ (ww hw 159 rfl)) (mvT hZ (ww hw 160 rfl)) (mvT hZ (ww hw 161 rfl)) (mvT hZ (ww hw 162 rfl)) (mvT hZ (ww hw 163 rfl)) (mvT hZ (ww hw 164 rfl)) (mvT hZ (ww hw 63 rfl)) (by decide) (backOf (W := 0) (rm21_1 l Z a0 hw [] r0 r1 r2 c3 r4 h0 n0 O0 f7 f4 f8 f9 f10 f11) hZ (ww hw 165 rfl) (ww hw 9 rfl) (by decide) (by decide)) qq13a qq13b qq13c (g := (mkF m 45 #[.val (.ref r0), .unset] [(.ref r0)])) rfl (by rw [hml]; rfl) (Steps.refl _) (argsL := []) (rest := []) (lenOf pd____Ljava_lang_Object_ rfl) rfl (by show 2 * 0 + _ ≤ _; exact Nat.le_of_eq rfl) (hb hby d8_45) (fun _ _ => ⟨rfl, E5, (by decide : 0 + 1 ≤ _), (by decide : 0 + 1 ≤ _)⟩)
  dsimp only [Pt.U, Pt.locs, Pt.cells, Pt.slots] at X12 l12 y12 z12 st12 hQ12
  subst l12 y12 z12
  obtain ⟨b12_0, k12_0, rfl, N12q, K12, f14, f15, f16, f17⟩ := hQ12
  have N12 := Fr.app N5 N12q
  have o19 := Old.keep O0 K12 all0
  obtain ⟨_, _, ⟨T20, L20, k20, n20⟩, -, X20, ⟨Lc20, hQ20, l20, y20, z20⟩, st20⟩ := Jvm.LawKit.callS X12 hx (y := (⟨"java/util/List", "of", cs19⟩ : MethodName)) hown (mvT hZ (ww hw 188 rfl)) (mvT hZ (ww hw 189 rfl)) (mvT hZ (ww hw 44 rfl)) (mvT hZ (ww hw 190 rfl)) (by decide) (backOf (W := 0) (rm25_1 l Z a0 hw [] b12_0 k12_0 r4 r5 T12.heap n0 o19 f15 f18) hZ (ww hw 190 rfl) (ww hw 44 rfl) (by decide) (by decide)) (g := (mkF m 50 #[.val (.ref r0), .unset] [(.ref b12_0)])) rfl (by rw [hml]; rfl) (argsL := [(.ref b12_0)]) (rest := []) (lenOf pd___Ljava_lang_Object__Ljava_util_List_ rfl) rfl (by show 2 * 0 + _ ≤ _; exact Nat.le_of_eq rfl) (hb hby d8_50) (fun _ _ => ⟨rfl, rfl, (by decide : 1 + 1 ≤ _), (by decide : 1 + 2 ≤ _)⟩)
  dsimp only [Pt.U, Pt.locs, Pt.cells, Pt.slots] at X20 l20 y20 z20 st20 hQ20
  subst l20 y20 z20
  obtain ⟨b20_0, rfl, N20q, K20, f21, f22, f23, f24⟩ := hQ20
  have N20 := Fr.app N12 N20q
  have zs25 := K12.1
  have kp26 : Keep h0 T12.heap [] := (Keep.refl h0 []).trans K12 all0
  have kp27 : Keep h0 T20.heap [] := kp26.trans K20 all0
  obtain ⟨fs, hr, hrun, hended, hW, hsame⟩ := X20.leave (v := some (.ref b20_0)) (fun h => by rw [Bd.returns] at h; cases h)
  refine ⟨_, _, pre0 _ ?_, hrun, hended, _, _, rfl, ?_, ⟨_, rfl⟩, hW, hsame.mono (by decide) (by decide)⟩
  · show Steps p.tables e below (s₁.setTop (mkF m 0 #[.val (.ref r0), .unset] [])) _
    refine XS.aloadN X0.here hx rfl (hb hby d8_0) rfl rfl ?_
    refine st2 _ ?_
    show Steps p.tables e below (T2.setTop (mkF m 4 #[.val (.ref r0), .unset] [(.int (0 : Int32))])) _
    refine XS.ifNo X2.here hx rfl (hb hby d8_4) rfl ((if0 _ _).trans (teq (rfl : (0 : Int32) = (0 : Int32))).2) ?_
    refine XS.aloadN X2.here hx rfl (hb hby d8_7) rfl rfl ?_
    refine st3 _ ?_
    show Steps p.tables e below (T3.setTop (mkF m 11 #[.val (.ref r0), .unset] [(.int (0 : Int32))])) _
    refine XS.ifYes X3.here hx rfl (pc0 := 11) (pc' := 31) rfl (hb hby d8_11) rfl ((if0 _ _).trans (teq (rfl : (0 : Int32) = (0 : Int32))).1) (by decide) (by decide) ?_
    show Steps p.tables e below (T3.setTop (mkF m 31 #[.val (.ref r0), .unset] [])) _
    refine XS.aloadN X3.here hx rfl (hb hby d8_31) rfl rfl ?_
    refine st5.trans ?_
    show Steps p.tables e below (T5.setTop (mkF m 37 #[.val (.ref r0), .unset] [(.int (0 : Int32))])) _
    refine XS.ifYes X5.here hx rfl (pc0 := 37) (pc' := 44) rfl (hb hby d8_37) rfl ((if0 _ _).trans (teq (rfl : (0 : Int32) = (0 : Int32))).1) (by decide) (by decide) ?_
    show Steps p.tables e below (T5.setTop (mkF m 44 #[.val (.ref r0), .unset] [])) _
    refine XS.aloadN X5.here hx rfl (hb hby d8_44) rfl rfl ?_
    refine st12.trans ?_
    show Steps p.tables e below (T12.setTop (mkF m 50 #[.val (.ref r0), .unset] [(.ref b12_0)])) _
    refine st20 _ ?_
    show Steps p.tables e below (T20.setTop (mkF m 53 #[.val (.ref r0), .unset] [(.ref b20_0)])) _
    exact retOut X20 hx (i := .areturn) Bd.returns rfl (Or.inr (Or.inr (Or.inr (Or.inr ⟨rfl, rfl, rfl⟩)))) (hb hby d8_53) hr
  · show Q8_2 Z r0 r1 r2 c3 r4 r5 h0 n0 _ T20.heap _
    exact ⟨b20_0, rfl, N20, kp27, (Nat.le_trans zs25 f21), f22, f23, f24⟩
def Q7_2 (Z : State) (r0 : Addr) (r1 : Addr) (r2 : Addr) (c3 : ClassId) (r4 : Addr) (r5 : Addr) (h0 : Heap) (n0 : Nat) (v : Option Value) (h : Heap) (L : List Loc) : Prop := ∃ (b9_0 : Addr), v = some (.ref b9_0) ∧ Fr n0 L ∧ Keep h0 h [] ∧ h0.size ≤ b9_0 ∧ Exa Z h b9_0 cs18 ∧ Fld Z h b9_0 cs18 "e0" "Ljava/lang/Object;" (.ref r4) ∧ Fld Z h b9_0 cs18 "e1" "Ljava/lang/Object;" (.ref r5)
set_option maxRecDepth 65536 in
set_option maxHeartbeats 40000000 in
theorem rm7_2 (l : Launch) (Z : State) (a0 : Array Value) (hw : ∀ d ∈ tables_1, d.before a0 Z = true) (ws : List Jvm.Cond) (r0 : Addr) (r1 : Addr) (r2 : Addr) (c3 : ClassId) (r4 : Addr) (r5 : Addr) (h0 : Heap) (n0 : Nat) (O0 : Old Z n0 h0) (f1 : Exa Z h0 r0 "java/util/ArrayList") (f2 : Fld Z h0 r0 "java/util/ArrayList" "size" "I" (.int (1 : Int32))) (f3 : Fld Z h0 r0 "java/util/ArrayList" "elementData" "[Ljava/lang/Object;" (.ref r1)) (f4 : Exa Z h0 r1 "[Ljava/lang/Object;") (f5 : own_Mir Z "[Ljava/lang/Object;" r2) (f6 : Arv Z h0 r1 c3 (.object "java/lang/Object") (10 : Int32) [(.ref r4), .null, .null, .null, .null, .null, .null, .null, .null, .null] .null) (f7 : Exa Z h0 r4 cs10) (f8 : Sta Z Z.heap cs2 "EMPTY" "Ljava/lang/Object;" (.ref r5)) :
    MetFree l (⟨"java/util/List", "copyOf", cs4⟩ : MethodName) (head1 (Jvm.Cond.code (⟨"java/util/List", "copyOf", cs4⟩ : MethodName) jdk_40_method_48_code 1 (some (.object "java/util/List")) :: ws) ({ frames := 7, cells := 2, slots := 3, locals := 88 } : Room)) (fun a U => a = #[(.ref r0)] ∧ Z.Warmed39 U.vm ∧ U.heap = h0) (fun _ _ _ _ _ => True) (fun _ U o U' => ∃ v L, o = .returned v ∧ Q7_2 Z r0 r1 r2 c3 r4 r5 h0 n0 v U'.heap L ∧ FrameEnd U o U' L ({ frames := 7, cells := 2, slots := 3, locals := 88 } : Room).cells ({ frames := 7, cells := 2, slots := 3, locals := 88 } : Room).slots) := by
  refine MetFree.of_bodySF (plainFor_of_name pn_java_util_List) hisR ?_
  intro p e s m args below meth c s₁ Bd hml0 hP hK
  obtain ⟨rfl, hZ, hh⟩ := hP
  have hx := Bd.exec
  have hby := Bd.bytes
  have hml : c.maxLocals = 1 := hml0
  have hown : s.vm.findClass "java/util/List" = some m.cls := findClass_of_methodNamed Bd.named
  have hnm := (name_of_methodNamed Bd.named Bd.method).1
  have X0 : Stand p l e ({ frames := 7, cells := 2, slots := 3, locals := 88 } : Room) s m #[(.ref r0)] below meth c s₁ [] 0 0 := Stand.of_body Bd
  have e0 : s₁.heap = h0 := by rw [← hh, Bd.state]; rfl
  have N0 := Fr.nil n0
  have pre0 : ∀ t, Steps p.tables e below (s₁.setTop (mkF m 0 #[.val (.ref r0)] [])) t → Steps p.tables e below (s₁.setTop (entryFrame m #[(.ref r0)] 1)) t := fun t k => castTop (by first | (simp [entryFrame, mkF, argsToLocals, Value.category]; done) | rfl) k
  obtain ⟨_, _, ⟨T9, L9, k9, n9⟩, -, X9, ⟨Lc9, hQ9, l9, y9, z9⟩, st9⟩ := Jvm.LawKit.callS X0 hx (y := (⟨cs2, "listCopy", cs4⟩ : MethodName)) hown (mvT hZ (ww hw 46 rfl)) (mvT hZ (ww hw 47 rfl)) (mvT hZ (ww hw 48 rfl)) (mvT hZ (ww hw 49 rfl)) (by decide) (backOf (W := 0) (rm8_2 l Z a0 hw [] r0 r1 r2 c3 r4 r5 h0 n0 O0 f1 f2 f3 f4 f5 f6 f7 f8) hZ (ww hw 49 rfl) (ww hw 48 rfl) (by decide) (by decide)) (g := (mkF m 1 #[.val (.ref r0)] [(.ref r0)])) rfl (by rw [hml]; rfl) (argsL := [(.ref r0)]) (rest := []) (lenOf pd__Ljava_util_Collection__Ljava_util_List_ rfl) rfl (by show 2 * 0 + _ ≤ _; exact Nat.le_of_eq rfl) (hb hby d7_1) (fun _ _ => ⟨rfl, e0, (by decide : 0 + 2 ≤ _), (by decide : 0 + 3 ≤ _)⟩)
  dsimp only [Pt.U, Pt.locs, Pt.cells, Pt.slots] at X9 l9 y9 z9 st9 hQ9
  subst l9 y9 z9
  obtain ⟨b9_0, rfl, N9q, K9, f10, f11, f12, f13⟩ := hQ9
  have N9 := Fr.app N0 N9q
  have kp14 : Keep h0 T9.heap [] := (Keep.refl h0 []).trans K9 all0
  obtain ⟨fs, hr, hrun, hended, hW, hsame⟩ := X9.leave (v := some (.ref b9_0)) (fun h => by rw [Bd.returns] at h; cases h)
  refine ⟨_, _, pre0 _ ?_, hrun, hended, _, _, rfl, ?_, ⟨_, rfl⟩, hW, hsame.mono (by decide) (by decide)⟩
  · show Steps p.tables e below (s₁.setTop (mkF m 0 #[.val (.ref r0)] [])) _
    refine XS.aloadN X0.here hx rfl (hb hby d7_0) rfl rfl ?_
    refine st9 _ ?_
    show Steps p.tables e below (T9.setTop (mkF m 4 #[.val (.ref r0)] [(.ref b9_0)])) _
    exact retOut X9 hx (i := .areturn) Bd.returns rfl (Or.inr (Or.inr (Or.inr (Or.inr ⟨rfl, rfl, rfl⟩)))) (hb hby d7_4) hr
  · show Q7_2 Z r0 r1 r2 c3 r4 r5 h0 n0 _ T9.heap _
    exact ⟨b9_0, rfl, N9, kp14, f10, f11, f12, f13⟩
def Q6_3 (Z : State) (r0 : Addr) (r1 : Addr) (r2 : Addr) (r3 : Addr) (c4 : ClassId) (r5 : Addr) (r6 : Addr) (h0 : Heap) (n0 : Nat) (v : Option Value) (h : Heap) (L : List Loc) : Prop := ∃ (b23_0 : Addr), v = none ∧ Fr n0 L ∧ Keep h0 h [r0] ∧ Fld Z h r0 cs5 "value" "Ljava/lang/Object;" .null ∧ Fld Z h r0 cs5 "errors" "Ljava/util/List;" (.ref b23_0) ∧ h0.size ≤ b23_0 ∧ Exa Z h b23_0 cs18 ∧ Fld Z h b23_0 cs18 "e0" "Ljava/lang/Object;" (.ref r5) ∧ Fld Z h b23_0 cs18 "e1" "Ljava/lang/Object;" (.ref r6)
set_option maxRecDepth 65536 in
set_option maxHeartbeats 40000000 in
theorem rm6_3 (l : Launch) (Z : State) (a0 : Array Value) (hw : ∀ d ∈ tables_1, d.before a0 Z = true) (ws : List Jvm.Cond) (r0 : Addr) (r1 : Addr) (r2 : Addr) (r3 : Addr) (c4 : ClassId) (r5 : Addr) (r6 : Addr) (h0 : Heap) (n0 : Nat) (O0 : Old Z n0 h0) (f2 : Exa Z h0 r0 cs5) (f3 : Fld Z h0 r0 cs5 "value" "Ljava/lang/Object;" .null) (g4 : n0 ≤ r0) (f6 : Exa Z h0 r1 "java/util/ArrayList") (f8 : Fld Z h0 r1 "java/util/ArrayList" "size" "I" (.int (1 : Int32))) (n9 : r1 ≠ r0) (f11 : Fld Z h0 r1 "java/util/ArrayList" "elementData" "[Ljava/lang/Object;" (.ref r2)) (f13 : Exa Z h0 r2 "[Ljava/lang/Object;") (f15 : own_Mir Z "[Ljava/lang/Object;" r3) (f16 : Arv Z h0 r2 c4 (.object "java/lang/Object") (10 : Int32) [(.ref r5), .null, .null, .null, .null, .null, .null, .null, .null, .null] .null) (n17 : r2 ≠ r0) (f19 : Exa Z h0 r5 cs10) (f21 : Sta Z Z.heap cs2 "EMPTY" "Ljava/lang/Object;" (.ref r6)) (f29 : Fld Z h0 r0 cs5 "errors" "Ljava/util/List;" .null) (l35 : r0 < h0.size) :
    MetFree l (⟨cs5, "<init>", cs6⟩ : MethodName) (head1 (Jvm.Cond.code (⟨cs5, "<init>", cs6⟩ : MethodName) prog_4_method_1_code 3 none :: ws) ({ frames := 8, cells := 2, slots := 3, locals := 101 } : Room)) (fun a U => a = #[(.ref r0), .null, (.ref r1)] ∧ Z.Warmed39 U.vm ∧ U.heap = h0) (fun _ _ _ _ _ => True) (fun _ U o U' => ∃ v L, o = .returned v ∧ Q6_3 Z r0 r1 r2 r3 c4 r5 r6 h0 n0 v U'.heap L ∧ FrameEnd U o U' L ({ frames := 8, cells := 2, slots := 3, locals := 101 } : Room).cells ({ frames := 8, cells := 2, slots := 3, locals := 101 } : Room).slots) := by
  refine MetFree.of_bodySF (plainFor_of_name pn_com_example_weaverbird_weaverbird_bind_Binding) hisR ?_
  intro p e s m args below meth c s₁ Bd hml0 hP hK
  obtain ⟨rfl, hZ, hh⟩ := hP
  have hx := Bd.exec
  have hby := Bd.bytes
  have hml : c.maxLocals = 3 := hml0
  have hown : s.vm.findClass cs5 = some m.cls := findClass_of_methodNamed Bd.named
  have hnm := (name_of_methodNamed Bd.named Bd.method).1
  have X0 : Stand p l e ({ frames := 8, cells := 2, slots := 3, locals := 101 } : Room) s m #[(.ref r0), .null, (.ref r1)] below meth c s₁ [] 0 0 := Stand.of_body Bd
  have e0 : s₁.heap = h0 := by rw [← hh, Bd.state]; rfl
  have N0 := Fr.nil n0
  have pre0 : ∀ t, Steps p.tables e below (s₁.setTop (mkF m 0 #[.val (.ref r0), .val .null, .val (.ref r1)] [])) t → Steps p.tables e below (s₁.setTop (entryFrame m #[(.ref r0), .null, (.ref r1)] 3)) t := fun t k => castTop (by first | (simp [entryFrame, mkF, argsToLocals, Value.category]; done) | rfl) k
  obtain ⟨T1, X1, e1, st1⟩ := initO X0 hx hZ hown (ww hw 39 rfl) (ww hw 26 rfl) (ww hw 27 rfl) e0 (g := (mkF m 1 #[.val (.ref r0), .val .null, .val (.ref r1)] [(.ref r0)])) rfl (by rw [hml]; rfl) rfl (hb hby d6_1) (by decide) (W := 0) (by show 2 * 0 + _ ≤ _; exact Nat.le_of_eq rfl) (by decide)
  obtain ⟨T5, h5, X5, e5, W5, st5⟩ := putF X1 hx hZ hown (host := "") (Or.inl (ww hw 40 rfl)) Via.refl e1 f3 f2 (Or.inr ⟨(ww hw 41 rfl), rfl, hnm⟩) (ww hw 34 rfl) (ty := (.object "java/lang/Object")) (by decide) rfl rfl (g := (mkF m 6 #[.val (.ref r0), .val .null, .val (.ref r1)] [.null, (.ref r0)])) rfl rfl (hb hby d6_6)
  have Fw5 := f3.same W5
  have N5 := Fr.snoc X5 N0 g4
  have f7 := (f6.wr W5)
  have f10 := (f8.other W5 (Or.inl n9))
  have f12 := (f11.other W5 (Or.inl n9))
  have f14 := (f13.wr W5)
  have f18 := (f16.other W5 n17)
  have f20 := (f19.wr W5)
  have o22 := Old.wr O0 W5 g4
  obtain ⟨_, _, ⟨T23, L23, k23, n23⟩, -, X23, ⟨Lc23, hQ23, l23, y23, z23⟩, st23⟩ := Jvm.LawKit.callS X5 hx (y := (⟨"java/util/List", "copyOf", cs4⟩ : MethodName)) hown (mvT hZ (ww hw 42 rfl)) (mvT hZ (ww hw 43 rfl)) (mvT hZ (ww hw 44 rfl)) (mvT hZ (ww hw 45 rfl)) (by decide) (backOf (W := 1) (rm7_2 l Z a0 hw [] r1 r2 r3 c4 r5 r6 h5 n0 o22 f7 f10 f12 f14 f15 f18 f20 f21) hZ (ww hw 45 rfl) (ww hw 44 rfl) (by decide) (by decide)) (g := (mkF m 11 #[.val (.ref r0), .val .null, .val (.ref r1)] [(.ref r1), (.ref r0)])) rfl (by rw [hml]; rfl) (argsL := [(.ref r1)]) (rest := [(.ref r0)]) (lenOf pd__Ljava_util_Collection__Ljava_util_List_ rfl) rfl (by show 2 * 0 + _ ≤ _; exact Nat.le_of_eq rfl) (hb hby d6_11) (fun _ _ => ⟨rfl, e5, (by decide : 0 + 2 ≤ _), (by decide : 0 + 3 ≤ _)⟩)
  dsimp only [Pt.U, Pt.locs, Pt.cells, Pt.slots] at X23 l23 y23 z23 st23 hQ23
  subst l23 y23 z23
  obtain ⟨b23_0, rfl, N23q, K23, f24, f25, f26, f27⟩ := hQ23
  have N23 := Fr.app N5 N23q
  have f28 := ((f2.wr W5).keep K23)
  have f30 := ((f29.other W5 (Or.inr (slot_ne (Or.inr (ww hw 72 rfl)) (Or.inr (ww hw 41 rfl)) (by decide) (t := (.object "java/util/List")) (t' := (.object "java/lang/Object")) (by decide) (by decide)))).keep K23 nin0)
  obtain ⟨T31, h31, X31, e31, W31, st31⟩ := putF X23 hx hZ hown (host := "") (Or.inl (ww hw 71 rfl)) Via.refl rfl f30 f28 (Or.inr ⟨(ww hw 72 rfl), rfl, hnm⟩) (ww hw 34 rfl) (ty := (.object "java/util/List")) (by decide) rfl rfl (g := (mkF m 14 #[.val (.ref r0), .val .null, .val (.ref r1)] [(.ref b23_0), (.ref r0)])) rfl rfl (hb hby d6_14)
  have Fw31 := f30.same W31
  have N31 := Fr.snoc X31 N23 g4
  have f32 := ((Fw5.keep K23 nin0).other W31 (Or.inr (slot_ne (Or.inr (ww hw 41 rfl)) (Or.inr (ww hw 72 rfl)) (by decide) (t := (.object "java/lang/Object")) (t' := (.object "java/util/List")) (by decide) (by decide))))
  have zs33 := (Nat.le_of_eq W5.size.symm)
  have f34 := (f25.wr W31)
  have n36 := Nat.ne_of_lt (Nat.lt_of_lt_of_le (Nat.lt_of_lt_of_le l35 zs33) f24)
  have f37 := (f26.other W31 (Or.inl (Ne.symm n36)))
  have f38 := (f27.other W31 (Or.inl (Ne.symm n36)))
  have kp39 : Keep h0 h5 [r0] := (Keep.refl h0 [r0]).wr W5 (Or.inl (List.mem_of_getElem? (i := 0) rfl))
  have kp40 : Keep h0 T23.heap [r0] := kp39.trans K23 all0
  have kp41 : Keep h0 h31 [r0] := kp40.wr W31 (Or.inl (List.mem_of_getElem? (i := 0) rfl))
  obtain ⟨fs, hr, hrun, hended, hW, hsame⟩ := X31.leave (v := none) (fun _ => rfl)
  refine ⟨_, _, pre0 _ ?_, hrun, hended, _, _, rfl, ?_, ⟨_, rfl⟩, hW, hsame.mono (by decide) (by decide)⟩
  · show Steps p.tables e below (s₁.setTop (mkF m 0 #[.val (.ref r0), .val .null, .val (.ref r1)] [])) _
    refine XS.aloadN X0.here hx rfl (hb hby d6_0) rfl rfl ?_
    refine st1 _ ?_
    show Steps p.tables e below (T1.setTop (mkF m 4 #[.val (.ref r0), .val .null, .val (.ref r1)] [])) _
    refine XS.aloadN X1.here hx rfl (hb hby d6_4) rfl rfl ?_
    refine XS.aloadN X1.here hx rfl (hb hby d6_5) rfl rfl ?_
    refine st5 _ ?_
    show Steps p.tables e below (T5.setTop (mkF m 9 #[.val (.ref r0), .val .null, .val (.ref r1)] [])) _
    refine XS.aloadN X5.here hx rfl (hb hby d6_9) rfl rfl ?_
    refine XS.aloadN X5.here hx rfl (hb hby d6_10) rfl rfl ?_
    refine st23 _ ?_
    show Steps p.tables e below (T23.setTop (mkF m 14 #[.val (.ref r0), .val .null, .val (.ref r1)] [(.ref b23_0), (.ref r0)])) _
    refine st31 _ ?_
    show Steps p.tables e below (T31.setTop (mkF m 17 #[.val (.ref r0), .val .null, .val (.ref r1)] [])) _
    exact X31.returnOut hx Bd.returns (hb hby d6_17) hr
  · show Q6_3 Z r0 r1 r2 r3 c4 r5 r6 h0 n0 _ T31.heap _
    rw [e31]
    exact ⟨b23_0, rfl, N31, kp41, f32, Fw31, (Nat.le_trans zs33 f24), f34, f37, f38⟩
theorem d30_0 : decode jdk_44_method_4_code 0 = .ok (.iconst 0, 1) := by decide +kernel
theorem d30_1 : decode jdk_44_method_4_code 1 = .ok (.ireturn, 1) := by decide +kernel
def Q30_1 (Z : State) (r0 : Addr) (h0 : Heap) (n0 : Nat) (v : Option Value) (h : Heap) (L : List Loc) : Prop := v = some (.int (0 : Int32)) ∧ Fr n0 L ∧ h = h0
set_option maxRecDepth 65536 in
set_option maxHeartbeats 40000000 in
theorem rm30_1 (l : Launch) (Z : State) (a0 : Array Value) (hw : ∀ d ∈ tables_1, d.before a0 Z = true) (ws : List Jvm.Cond) (r0 : Addr) (h0 : Heap) (n0 : Nat) (O0 : Old Z n0 h0) :
    MetFree l (⟨cs18, "isEmpty", "()Z"⟩ : MethodName) (head1 (Jvm.Cond.code (⟨cs18, "isEmpty", "()Z"⟩ : MethodName) jdk_44_method_4_code 1 (some .boolean) :: ws) ({ frames := 0, cells := 0, slots := 0, locals := 0 } : Room)) (fun a U => a = #[(.ref r0)] ∧ Z.Warmed39 U.vm ∧ U.heap = h0) (fun _ _ _ _ _ => True) (fun _ U o U' => ∃ v L, o = .returned v ∧ Q30_1 Z r0 h0 n0 v U'.heap L ∧ FrameEnd U o U' L ({ frames := 0, cells := 0, slots := 0, locals := 0 } : Room).cells ({ frames := 0, cells := 0, slots := 0, locals := 0 } : Room).slots) := by
  refine MetFree.of_bodySF (plainFor_of_name pn_java_util_ImmutableCollections_List12) hisR ?_
  intro p e s m args below meth c s₁ Bd hml0 hP hK
  obtain ⟨rfl, hZ, hh⟩ := hP
  have hx := Bd.exec
  have hby := Bd.bytes
  have hml : c.maxLocals = 1 := hml0
  have hown : s.vm.findClass cs18 = some m.cls := findClass_of_methodNamed Bd.named
  have hnm := (name_of_methodNamed Bd.named Bd.method).1
  have X0 : Stand p l e ({ frames := 0, cells := 0, slots := 0, locals := 0 } : Room) s m #[(.ref r0)] below meth c s₁ [] 0 0 := Stand.of_body Bd
  have e0 : s₁.heap = h0 := by rw [← hh, Bd.state]; rfl
  have N0 := Fr.nil n0
  have pre0 : ∀ t, Steps p.tables e below (s₁.setTop (mkF m 0 #[.val (.ref r0)] [])) t → Steps p.tables e below (s₁.setTop (entryFrame m #[(.ref r0)] 1)) t := fun t k => castTop (by first | (simp [entryFrame, mkF, argsToLocals, Value.category]; done) | rfl) k
  obtain ⟨fs, hr, hrun, hended, hW, hsame⟩ := X0.leave (v := some (.int (0 : Int32))) (fun h => by rw [Bd.returns] at h; cases h)
  refine ⟨_, _, pre0 _ ?_, hrun, hended, _, _, rfl, ?_, ⟨_, rfl⟩, hW, hsame.mono (by decide) (by decide)⟩
  · show Steps p.tables e below (s₁.setTop (mkF m 0 #[.val (.ref r0)] [])) _
    refine XS.iconst X0.here hx rfl (hb hby d30_0) ?_
    exact retN X0 hx (t := .boolean) Bd.returns (by simp) (hb hby d30_1) hr
  · show Q30_1 Z r0 h0 n0 _ s₁.heap _
    rw [e0]
    exact ⟨rfl, N0, rfl⟩
theorem d11_12 : decode prog_4_method_4_code 12 = .ok (.iconst 1, 1) := by decide +kernel
theorem d11_13 : decode prog_4_method_4_code 13 = .ok (.goto 4, 3) := by decide +kernel
def Q11_2 (Z : State) (r0 : Addr) (r1 : Addr) (h0 : Heap) (n0 : Nat) (v : Option Value) (h : Heap) (L : List Loc) : Prop := v = some (.int (1 : Int32)) ∧ Fr n0 L ∧ h = h0
set_option maxRecDepth 65536 in
set_option maxHeartbeats 40000000 in
theorem rm11_2 (l : Launch) (Z : State) (a0 : Array Value) (hw : ∀ d ∈ tables_1, d.before a0 Z = true) (ws : List Jvm.Cond) (r0 : Addr) (r1 : Addr) (h0 : Heap) (n0 : Nat) (O0 : Old Z n0 h0) (f1 : Fld Z h0 r0 cs5 "errors" "Ljava/util/List;" (.ref r1)) (f3 : Exa Z h0 r1 cs18) :
    MetFree l (⟨cs5, "hasErrors", "()Z"⟩ : MethodName) (head1 (Jvm.Cond.code (⟨cs5, "hasErrors", "()Z"⟩ : MethodName) prog_4_method_4_code 1 (some .boolean) :: ws) ({ frames := 1, cells := 0, slots := 0, locals := 12 } : Room)) (fun a U => a = #[(.ref r0)] ∧ Z.Warmed39 U.vm ∧ U.heap = h0) (fun _ _ _ _ _ => True) (fun _ U o U' => ∃ v L, o = .returned v ∧ Q11_2 Z r0 r1 h0 n0 v U'.heap L ∧ FrameEnd U o U' L ({ frames := 1, cells := 0, slots := 0, locals := 12 } : Room).cells ({ frames := 1, cells := 0, slots := 0, locals := 12 } : Room).slots) := by
  refine MetFree.of_bodySF (plainFor_of_name pn_com_example_weaverbird_weaverbird_bind_Binding) hisR ?_
  intro p e s m args below meth c s₁ Bd hml0 hP hK
  obtain ⟨rfl, hZ, hh⟩ := hP
  have hx := Bd.exec
  have hby := Bd.bytes
  have hml : c.maxLocals = 1 := hml0
  have hown : s.vm.findClass cs5 = some m.cls := findClass_of_methodNamed Bd.named
  have hnm := (name_of_methodNamed Bd.named Bd.method).1
  have X0 : Stand p l e ({ frames := 1, cells := 0, slots := 0, locals := 12 } : Room) s m #[(.ref r0)] below meth c s₁ [] 0 0 := Stand.of_body Bd
  have e0 : s₁.heap = h0 := by rw [← hh, Bd.state]; rfl
  have N0 := Fr.nil n0
  have pre0 : ∀ t, Steps p.tables e below (s₁.setTop (mkF m 0 #[.val (.ref r0)] [])) t → Steps p.tables e below (s₁.setTop (entryFrame m #[(.ref r0)] 1)) t := fun t k => castTop (by first | (simp [entryFrame, mkF, argsToLocals, Value.category]; done) | rfl) k
  obtain ⟨T2, X2, e2, st2⟩ := getF X0 hx hZ hown (host := "") (Or.inl (ww hw 71 rfl)) Via.refl e0 f1 (g := (mkF m 1 #[.val (.ref r0)] [(.ref r0)])) rfl rfl (hb hby d11_1)
  obtain ⟨cqq5, kqq5, qq5a, qq5b, qq5c⟩ := isOf hZ e2 f3
  obtain ⟨_, _, ⟨T4, L4, k4, n4⟩, -, X4, ⟨Lc4, hQ4, l4, y4, z4⟩, st4⟩ := X2.interfaceBack hx (xi := (⟨"java/util/List", "isEmpty", "()Z"⟩ : MethodName)) (y := (⟨cs18, "isEmpty", "()Z"⟩ : MethodName)) hown (mvT hZ (ww hw 78 rfl)) (mvT hZ (ww hw 79 rfl)) (mvT hZ (ww hw 80 rfl)) (mvT hZ (ww hw 221 rfl)) (mvT hZ (ww hw 222 rfl)) (mvT hZ (ww hw 223 rfl)) (mvT hZ (ww hw 224 rfl)) (mvT hZ (ww hw 225 rfl)) (by decide) (backOf (W := 0) (rm30_1 l Z a0 hw [] r1 h0 n0 O0) hZ (ww hw 226 rfl) (ww hw 193 rfl) (by decide) (by decide)) qq5a qq5b qq5c (g := (mkF m 4 #[.val (.ref r0)] [(.ref r1)])) rfl (by rw [hml]; rfl) (Steps.refl _) (argsL := []) (rest := []) (lenOf pd___Z rfl) rfl (by show 2 * 0 + _ ≤ _; exact Nat.le_of_eq rfl) (hb hby d11_4) (fun _ _ => ⟨rfl, e2, (by decide : 0 + 0 ≤ _), (by decide : 0 + 0 ≤ _)⟩)
  dsimp only [Pt.U, Pt.locs, Pt.cells, Pt.slots] at X4 l4 y4 z4 st4 hQ4
  subst l4 y4 z4
  obtain ⟨rfl, N4q, E4⟩ := hQ4
  have N4 := Fr.app N0 N4q
  obtain ⟨fs, hr, hrun, hended, hW, hsame⟩ := X4.leave (v := some (.int (1 : Int32))) (fun h => by rw [Bd.returns] at h; cases h)
  refine ⟨_, _, pre0 _ ?_, hrun, hended, _, _, rfl, ?_, ⟨_, rfl⟩, hW, hsame.mono (by decide) (by decide)⟩
  · show Steps p.tables e below (s₁.setTop (mkF m 0 #[.val (.ref r0)] [])) _
    refine XS.aloadN X0.here hx rfl (hb hby d11_0) rfl rfl ?_
    refine st2 _ ?_
    show Steps p.tables e below (T2.setTop (mkF m 4 #[.val (.ref r0)] [(.ref r1)])) _
    refine st4.trans ?_
    show Steps p.tables e below (T4.setTop (mkF m 9 #[.val (.ref r0)] [(.int (0 : Int32))])) _
    refine XS.ifNo X4.here hx rfl (hb hby d11_9) rfl ((if0 _ _).trans (teq (rfl : (0 : Int32) = (0 : Int32))).2) ?_
    refine XS.iconst X4.here hx rfl (hb hby d11_12) ?_
    refine XS.goto X4.here hx rfl (pc0 := 13) (pc' := 17) rfl (hb hby d11_13) (by decide) (by decide) ?_
    show Steps p.tables e below (T4.setTop (mkF m 17 #[.val (.ref r0)] [(.int (1 : Int32))])) _
    exact retN X4 hx (t := .boolean) Bd.returns (by simp) (hb hby d11_17) hr
  · show Q11_2 Z r0 r1 h0 n0 _ T4.heap _
    rw [E4]
    exact ⟨rfl, N4, rfl⟩
theorem d31_0 : decode jdk_44_method_3_code 0 = .ok (.aload_n 0, 1) := by decide +kernel
theorem d31_1 : decode jdk_44_method_3_code 1 = .ok (.getfield 24, 3) := by decide +kernel
theorem d31_4 : decode jdk_44_method_3_code 4 = .ok (.getstatic 19, 3) := by decide +kernel
theorem d31_7 : decode jdk_44_method_3_code 7 = .ok (.if_acmp .eq 7, 3) := by decide +kernel
theorem d31_14 : decode jdk_44_method_3_code 14 = .ok (.iconst 1, 1) := by decide +kernel
theorem d31_15 : decode jdk_44_method_3_code 15 = .ok (.ireturn, 1) := by decide +kernel
def Q31_1 (Z : State) (r0 : Addr) (r1 : Addr) (h0 : Heap) (n0 : Nat) (v : Option Value) (h : Heap) (L : List Loc) : Prop := v = some (.int (1 : Int32)) ∧ Fr n0 L ∧ h = h0
set_option maxRecDepth 65536 in
set_option maxHeartbeats 40000000 in
theorem rm31_1 (l : Launch) (Z : State) (a0 : Array Value) (hw : ∀ d ∈ tables_1, d.before a0 Z = true) (ws : List Jvm.Cond) (r0 : Addr) (r1 : Addr) (h0 : Heap) (n0 : Nat) (O0 : Old Z n0 h0) (f1 : Fld Z h0 r0 cs18 "e1" "Ljava/lang/Object;" (.ref r1)) (f3 : Sta Z Z.heap cs2 "EMPTY" "Ljava/lang/Object;" (.ref r1)) :
    MetFree l (⟨cs18, "size", "()I"⟩ : MethodName) (head1 (Jvm.Cond.code (⟨cs18, "size", "()I"⟩ : MethodName) jdk_44_method_3_code 1 (some .int) :: ws) ({ frames := 0, cells := 0, slots := 0, locals := 0 } : Room)) (fun a U => a = #[(.ref r0)] ∧ Z.Warmed39 U.vm ∧ U.heap = h0) (fun _ _ _ _ _ => True) (fun _ U o U' => ∃ v L, o = .returned v ∧ Q31_1 Z r0 r1 h0 n0 v U'.heap L ∧ FrameEnd U o U' L ({ frames := 0, cells := 0, slots := 0, locals := 0 } : Room).cells ({ frames := 0, cells := 0, slots := 0, locals := 0 } : Room).slots) := by
  refine MetFree.of_bodySF (plainFor_of_name pn_java_util_ImmutableCollections_List12) hisR ?_
  intro p e s m args below meth c s₁ Bd hml0 hP hK
  obtain ⟨rfl, hZ, hh⟩ := hP
  have hx := Bd.exec
  have hby := Bd.bytes
  have hml : c.maxLocals = 1 := hml0
  have hown : s.vm.findClass cs18 = some m.cls := findClass_of_methodNamed Bd.named
  have hnm := (name_of_methodNamed Bd.named Bd.method).1
  have X0 : Stand p l e ({ frames := 0, cells := 0, slots := 0, locals := 0 } : Room) s m #[(.ref r0)] below meth c s₁ [] 0 0 := Stand.of_body Bd
  have e0 : s₁.heap = h0 := by rw [← hh, Bd.state]; rfl
  have N0 := Fr.nil n0
  have pre0 : ∀ t, Steps p.tables e below (s₁.setTop (mkF m 0 #[.val (.ref r0)] [])) t → Steps p.tables e below (s₁.setTop (entryFrame m #[(.ref r0)] 1)) t := fun t k => castTop (by first | (simp [entryFrame, mkF, argsToLocals, Value.category]; done) | rfl) k
  obtain ⟨T2, X2, e2, st2⟩ := getF X0 hx hZ hown (host := "") (Or.inl (ww hw 219 rfl)) Via.refl e0 f1 (g := (mkF m 1 #[.val (.ref r0)] [(.ref r0)])) rfl rfl (hb hby d31_1)
  have f4 := f3.ext O0.2
  obtain ⟨T5, X5, e5, st5⟩ := getS2 X2 hx hZ hown (Or.inr (ww hw 218 rfl)) Via.refl e2 f4 (g := (mkF m 4 #[.val (.ref r0)] [(.ref r1)])) rfl (hb hby d31_4)
  obtain ⟨fs, hr, hrun, hended, hW, hsame⟩ := X5.leave (v := some (.int (1 : Int32))) (fun h => by rw [Bd.returns] at h; cases h)
  refine ⟨_, _, pre0 _ ?_, hrun, hended, _, _, rfl, ?_, ⟨_, rfl⟩, hW, hsame.mono (by decide) (by decide)⟩
  · show Steps p.tables e below (s₁.setTop (mkF m 0 #[.val (.ref r0)] [])) _
    refine XS.aloadN X0.here hx rfl (hb hby d31_0) rfl rfl ?_
    refine st2 _ ?_
    show Steps p.tables e below (T2.setTop (mkF m 4 #[.val (.ref r0)] [(.ref r1)])) _
    refine st5 _ ?_
    show Steps p.tables e below (T5.setTop (mkF m 7 #[.val (.ref r0)] [(.ref r1), (.ref r1)])) _
    refine Jvm.RoadKit.acmp (g := (mkF m 7 #[.val (.ref r0)] [(.ref r1), (.ref r1)])) X5 hx rfl rfl rfl (pc0 := 7) (pc' := 14) (same := true) rfl (hb hby d31_7) rfl (decide_eq_true rfl) (by decide) (by decide) ?_
    show Steps p.tables e below (T5.setTop (mkF m 14 #[.val (.ref r0)] [])) _
    refine XS.iconst X5.here hx rfl (hb hby d31_14) ?_
    exact retOut X5 hx (i := .ireturn) Bd.returns rfl (Or.inl ⟨rfl, Or.inl rfl, _, rfl⟩) (hb hby d31_15) hr
  · show Q31_1 Z r0 r1 h0 n0 _ T5.heap _
    rw [e5]
    exact ⟨rfl, N0, rfl⟩
def Q0_3 (Z : State) (x0 : Int32) (x1 : Int32) (x2 : Int32) (r3 : Addr) (c4 : ClassId) (r5 : Addr) (r6 : Addr) (h0 : Heap) (n0 : Nat) (v : Option Value) (h : Heap) (L : List Loc) : Prop := v = some (.int (1 : Int32)) ∧ Fr n0 L
set_option maxRecDepth 65536 in
set_option maxHeartbeats 40000000 in
theorem rm0_3 (l : Launch) (Z : State) (a0 : Array Value) (hw : ∀ d ∈ tables_1, d.before a0 Z = true) (ws : List Jvm.Cond) (x0 : Int32) (x1 : Int32) (x2 : Int32) (r3 : Addr) (c4 : ClassId) (r5 : Addr) (r6 : Addr) (h0 : Heap) (n0 : Nat) (O0 : Old Z n0 h0) (hc1 : (x0 &&& (3 : Int32)) = (1 : Int32)) (hc2 : ¬ ((x2 &&& (1 : Int32)) = (0 : Int32))) (f9 : Sta Z Z.heap "java/util/ArrayList" cs1 "[Ljava/lang/Object;" (.ref r3)) (f49 : Arv Z Z.heap r3 c4 (.object "java/lang/Object") (0 : Int32) [] .null) (f79 : own_Mir Z "[Ljava/lang/Object;" r5) (f83 : Sta Z Z.heap cs2 "EMPTY" "Ljava/lang/Object;" (.ref r6)) :
    MetFree l x (head1 (Jvm.Cond.code x code maxLocals ret :: ws) room_1) (fun a U => a = #[(.int x0), (.int x1), (.int x2)] ∧ Z.Warmed39 U.vm ∧ U.heap = h0) (fun _ _ _ _ _ => True) (fun _ U o U' => ∃ v L, o = .returned v ∧ Q0_3 Z x0 x1 x2 r3 c4 r5 r6 h0 n0 v U'.heap L ∧ ReturnedEndW U o U' L room_1.cells room_1.slots) := by
  refine MetFree.of_bodySF (plainFor_of_name pn_com_example_weaverbird_weaverbird_bind_BindingHasErrorsPinLaw) hisR ?_
  intro p e s m args below meth c s₁ Bd hml0 hP hK
  obtain ⟨rfl, hZ, hh⟩ := hP
  have hx := Bd.exec
  have hby := Bd.bytes
  have hml : c.maxLocals = 10 := hml0
  have hown : s.vm.findClass cs8 = some m.cls := findClass_of_methodNamed Bd.named
  have hnm := (name_of_methodNamed Bd.named Bd.method).1
  have X0 : Stand p l e room_1 s m #[(.int x0), (.int x1), (.int x2)] below meth c s₁ [] 0 0 := Stand.of_body Bd
  have e0 : s₁.heap = h0 := by rw [← hh, Bd.state]; rfl
  have N0 := Fr.nil n0
  have pre0 : ∀ t, Steps p.tables e below (s₁.setTop (mkF m 0 #[.val (.int x0), .val (.int x1), .val (.int x2), .unset, .unset, .unset, .unset, .unset, .unset, .unset] [])) t → Steps p.tables e below (s₁.setTop (entryFrame m #[(.int x0), (.int x1), (.int x2)] maxLocals)) t := fun t k => castTop (by first | (simp [entryFrame, mkF, argsToLocals, Value.category, maxLocals]; done) | rfl) k
  obtain ⟨T3, h3, X3, e3, E3, A3, D3, -, st3⟩ := newO X0 hx hZ hown (ww hw 7 rfl) (ww hw 8 rfl) (ww hw 9 rfl) e0 (g := (mkF m 32 #[.val (.int x0), .val (.int x1), .val (.int x2), .val (.int (1 : Int32)), .val (.int (1 : Int32)), .val .null, .unset, .unset, .unset, .unset] [])) rfl (hb hby at_32) (by decide) (by decide)
  obtain ⟨b3, g3⟩ : ∃ z, z = h0.size := ⟨_, rfl⟩
  rw [← g3] at A3 D3 st3
  have f4 : Fld Z h3 b3 "java/util/AbstractList" "modCount" "I" (.int (0 : Int32)) := D3 (Or.inl (ww hw 29 rfl)) (ty := .int) (by decide)
  have f5 : Fld Z h3 b3 "java/util/ArrayList" "elementData" "[Ljava/lang/Object;" .null := D3 (Or.inl (ww hw 32 rfl)) (ty := (.array (.object "java/lang/Object"))) (by decide)
  have f6 : Fld Z h3 b3 "java/util/ArrayList" "size" "I" (.int (0 : Int32)) := D3 (Or.inl (ww hw 66 rfl)) (ty := .int) (by decide)
  have zz7 : n0 ≤ h0.size := by rw [← O0.1]; exact O0.2.1
  have g8 := Nat.le_trans zz7 (Nat.le_of_eq g3.symm)
  have o10 := Old.ext O0 E3
  obtain ⟨_, _, ⟨T11, L11, k11, n11⟩, -, X11, ⟨Lc11, hQ11, l11, y11, z11⟩, st11⟩ := X3.specialBack hx (y := (⟨"java/util/ArrayList", "<init>", "()V"⟩ : MethodName)) rfl hown (mvT hZ (ww hw 10 rfl)) (mvT hZ (ww hw 11 rfl)) (mvT hZ (ww hw 12 rfl)) (by decide) (backOf (W := 1) (rm2_1 l Z a0 hw [] b3 r3 h3 n0 o10 A3 f4 g8 f5 f6 f9) hZ (ww hw 12 rfl) (ww hw 9 rfl) (by decide) (by decide)) (g := (mkF m 36 #[.val (.int x0), .val (.int x1), .val (.int x2), .val (.int (1 : Int32)), .val (.int (1 : Int32)), .val .null, .unset, .unset, .unset, .unset] [(.ref b3), (.ref b3)])) rfl (by rw [hml]; rfl) (Steps.refl _) (a := b3) (argsL := []) (rest := [(.ref b3)]) (lenOf pd___V rfl) rfl (by show 2 * 0 + _ ≤ _; exact Nat.le_of_eq rfl) (hb hby at_36) (fun _ _ => ⟨rfl, e3, (by decide : 1 + 0 ≤ _), (by decide : 3 + 0 ≤ _)⟩)
  dsimp only [Pt.U, Pt.locs, Pt.cells, Pt.slots] at X11 l11 y11 z11 st11 hQ11
  subst l11 y11 z11
  obtain ⟨rfl, N11q, K11, f12, f13, f14⟩ := hQ11
  have N11 := Fr.app N0 N11q
  obtain ⟨T15, h15, X15, e15, E15, A15, D15, -, st15⟩ := newO X11 hx hZ hown (ww hw 103 rfl) (ww hw 104 rfl) (ww hw 105 rfl) rfl (g := (mkF m 48 #[.val (.int x0), .val (.int x1), .val (.int x2), .val (.int (1 : Int32)), .val (.int (1 : Int32)), .val .null, .val (.ref b3), .unset, .unset, .unset] [(.ref b3)])) rfl (hb hby at_48) (by decide) (by decide)
  obtain ⟨b15, g15⟩ : ∃ z, z = T11.heap.size := ⟨_, rfl⟩
  rw [← g15] at A15 D15 st15
  have f16 : Fld Z h15 b15 cs10 "path" "Ljava/lang/String;" .null := D15 (Or.inr (ww hw 122 rfl)) (ty := (.object "java/lang/String")) (by decide)
  have f17 : Fld Z h15 b15 cs10 "code" "Ljava/lang/String;" .null := D15 (Or.inr (ww hw 124 rfl)) (ty := (.object "java/lang/String")) (by decide)
  have f18 : Fld Z h15 b15 cs10 "rejected" "Ljava/lang/String;" .null := D15 (Or.inr (ww hw 126 rfl)) (ty := (.object "java/lang/String")) (by decide)
  have f19 : Fld Z h15 b15 cs10 "message" "Ljava/lang/String;" .null := D15 (Or.inr (ww hw 128 rfl)) (ty := (.object "java/lang/String")) (by decide)
  have hS20 := (State.WarmedH.refl s).since 0
  have hstr : ∀ a ∈ Bundle.stringAtoms, a.before a0 Z = true := fun a q => hw a (own_str a q)
  obtain ⟨a21, T21, h21, kk21, X21, e21, E21, hS21, hk21, hZ21, ho21, st21⟩ := ldcS (s := s) (vm0 := s.vm) X15 hx hZ hown (ww hw 106 rfl) hstr e15 hS20 (Nat.zero_le _) (g := (mkF m 52 #[.val (.int x0), .val (.int x1), .val (.int x2), .val (.int (1 : Int32)), .val (.int (1 : Int32)), .val .null, .val (.ref b3), .unset, .unset, .unset] [(.ref b15), (.ref b15), (.ref b3)])) rfl (hb hby at_52) (n := 4) (by decide) (by decide) (by decide) (by decide)
  obtain ⟨a22, T22, h22, kk22, X22, e22, E22, hS22, hk22, hZ22, ho22, st22⟩ := ldcS (s := s) (vm0 := T21.vm) X21 hx hZ21 ho21 (ww hw 114 rfl) hstr e21 hS21 hk21 (g := (mkF m 54 #[.val (.int x0), .val (.int x1), .val (.int x2), .val (.int (1 : Int32)), .val (.int (1 : Int32)), .val .null, .val (.ref b3), .unset, .unset, .unset] [(.ref a21), (.ref b15), (.ref b15), (.ref b3)])) rfl (hb hby at_54) (n := 32) (by decide) (by decide) (by decide) (by decide)
  obtain ⟨a23, T23, h23, kk23, X23, e23, E23, hS23, hk23, hZ23, ho23, st23⟩ := ldcS (s := s) (vm0 := T22.vm) X22 hx hZ22 ho22 (ww hw 115 rfl) hstr e22 hS22 hk22 (g := (mkF m 56 #[.val (.int x0), .val (.int x1), .val (.int x2), .val (.int (1 : Int32)), .val (.int (1 : Int32)), .val .null, .val (.ref b3), .unset, .unset, .unset] [(.ref a22), (.ref a21), (.ref b15), (.ref b15), (.ref b3)])) rfl (hb hby at_56) (n := 0) (by decide) (by decide) (by decide) (by decide)
  obtain ⟨a24, T24, h24, kk24, X24, e24, E24, hS24, hk24, hZ24, ho24, st24⟩ := ldcS (s := s) (vm0 := T23.vm) X23 hx hZ23 ho23 (ww hw 116 rfl) hstr e23 hS23 hk23 (g := (mkF m 58 #[.val (.int x0), .val (.int x1), .val (.int x2), .val (.int (1 : Int32)), .val (.int (1 : Int32)), .val .null, .val (.ref b3), .unset, .unset, .unset] [(.ref a23), (.ref a22), (.ref a21), (.ref b15), (.ref b15), (.ref b3)])) rfl (hb hby at_58) (n := 4) (by decide) (by decide) (by decide) (by decide)
  have f25 := ((((A15.ext E21).ext E22).ext E23).ext E24)
  have f26 := ((((f16.ext E21).ext E22).ext E23).ext E24)
  have o28 := Old.keep o10 K11 (allS g8 all0)
  have zz27 : n0 ≤ T11.heap.size := by rw [← o28.1]; exact o28.2.1
  have g29 := Nat.le_trans zz27 (Nat.le_of_eq g15.symm)
  have f30 := ((((f17.ext E21).ext E22).ext E23).ext E24)
  have f31 := ((((f18.ext E21).ext E22).ext E23).ext E24)
  have f32 := ((((f19.ext E21).ext E22).ext E23).ext E24)
  have o33 := Old.ext o28 E15
  have o34 := Old.ext o33 E21
  have o35 := Old.ext o34 E22
  have o36 := Old.ext o35 E23
  have o37 := Old.ext o36 E24
  obtain ⟨_, _, ⟨T38, L38, k38, n38⟩, -, X38, ⟨Lc38, hQ38, l38, y38, z38⟩, st38⟩ := X24.specialBack hx (y := (⟨cs10, "<init>", cs11⟩ : MethodName)) rfl ho24 (mvT hZ24 (ww hw 117 rfl)) (mvT hZ24 (ww hw 118 rfl)) (mvT hZ24 (ww hw 119 rfl)) (by decide) (backOf (W := 2) (rm15_1 l Z a0 hw [] b15 a21 a22 a23 a24 h24 n0 o37 f25 f26 g29 f30 f31 f32) hZ24 (ww hw 119 rfl) (ww hw 105 rfl) (by decide) (by decide)) (g := (mkF m 60 #[.val (.int x0), .val (.int x1), .val (.int x2), .val (.int (1 : Int32)), .val (.int (1 : Int32)), .val .null, .val (.ref b3), .unset, .unset, .unset] [(.ref a24), (.ref a23), (.ref a22), (.ref a21), (.ref b15), (.ref b15), (.ref b3)])) rfl (by rw [hml]; rfl) (Steps.refl _) (a := b15) (argsL := [(.ref a21), (.ref a22), (.ref a23), (.ref a24)]) (rest := [(.ref b15), (.ref b3)]) (lenOf pd__Ljava_lang_String_Ljava_lang_String_Ljava_lang_String_Ljava_lang_String__V rfl) rfl (by show 2 * 0 + _ ≤ _; exact Nat.le_of_eq rfl) (hb hby at_60) (fun _ _ => ⟨rfl, e24, (by decide : 10 + 0 ≤ _), (by decide : 63 + 0 ≤ _)⟩)
  dsimp only [Pt.U, Pt.locs, Pt.cells, Pt.slots] at X38 l38 y38 z38 st38 hQ38
  subst l38 y38 z38
  obtain ⟨rfl, N38q, K38, f39, f40, f41, f42⟩ := hQ38
  have N38 := Fr.app N11 N38q
  have zs43 := K11.1
  have n44 := Nat.ne_of_lt (Nat.lt_of_lt_of_le (Nat.lt_of_lt_of_le A3.lt zs43) (Nat.le_of_eq g15.symm))
  have f45 := ((((((f12.ext E15).ext E21).ext E22).ext E23).ext E24).keep K38 (ninS n44 nin0))
  have f46 := (((((((A3.keep K11).ext E15).ext E21).ext E22).ext E23).ext E24).keep K38)
  have f47 := ((((((f13.ext E15).ext E21).ext E22).ext E23).ext E24).keep K38 (ninS n44 nin0))
  have f48 := ((((((f14.ext E15).ext E21).ext E22).ext E23).ext E24).keep K38 (ninS n44 nin0))
  have zs50 := Nat.le_trans zs43 E15.1
  have zs51 := Nat.le_trans zs50 E21.1
  have zs52 := Nat.le_trans zs51 E22.1
  have zs53 := Nat.le_trans zs52 E23.1
  have zs54 := Nat.le_trans zs53 E24.1
  have zs55 := Nat.le_trans zs54 K38.1
  have f56 := (f25.keep K38)
  have o57 := Old.keep o37 K38 (allS g29 all0)
  obtain ⟨cqq59, kqq59, qq59a, qq59b, qq59c⟩ := isOf hZ24 rfl f46
  obtain ⟨_, _, ⟨T58, L58, k58, n58⟩, -, X58, ⟨Lc58, hQ58, l58, y58, z58⟩, st58⟩ := X38.virtualBack hx (y := (⟨"java/util/ArrayList", "add", "(Ljava/lang/Object;)Z"⟩ : MethodName)) (z := (⟨"java/util/ArrayList", "add", "(Ljava/lang/Object;)Z"⟩ : MethodName)) ho24 (mvT hZ24 (ww hw 129 rfl)) (mvT hZ24 (ww hw 130 rfl)) (notFace_of_selects (args := #[]) (mvT hZ24 (ww hw 132 rfl))) (mvT hZ24 (ww hw 132 rfl)) (mvT hZ24 (ww hw 131 rfl)) (by decide) (backOf (W := 0) (rm16_1 l Z a0 hw [] b3 b15 r3 c4 T38.heap n0 o57 f45 f46 g8 f47 f48 f49 f9 (Nat.lt_of_lt_of_le A3.lt zs55) f56) hZ24 (ww hw 133 rfl) (ww hw 9 rfl) (by decide) (by decide)) qq59a qq59c (g := (mkF m 63 #[.val (.int x0), .val (.int x1), .val (.int x2), .val (.int (1 : Int32)), .val (.int (1 : Int32)), .val .null, .val (.ref b3), .unset, .unset, .unset] [(.ref b15), (.ref b3)])) rfl (by rw [hml]; rfl) (Steps.refl _) (argsL := [(.ref b15)]) (rest := []) (lenOf pd__Ljava_lang_Object__Z rfl) rfl (by show 2 * 0 + _ ≤ _; exact Nat.le_of_eq rfl) (hb hby at_63) (fun _ _ => ⟨rfl, rfl, (by decide : 10 + 1 ≤ _), (by decide : 63 + 10 ≤ _)⟩)
  dsimp only [Pt.U, Pt.locs, Pt.cells, Pt.slots] at X58 l58 y58 z58 st58 hQ58
  subst l58 y58 z58
  obtain ⟨b58_0, k58_0, rfl, N58q, K58, f60, f61, f62, f63, f64, f65, f66⟩ := hQ58
  have N58 := Fr.app N38 N58q
  obtain ⟨T67, h67, X67, e67, E67, A67, D67, -, st67⟩ := newO X58 hx hZ24 ho24 (ww hw 33 rfl) (ww hw 34 rfl) (ww hw 35 rfl) rfl (g := (mkF m 118 #[.val (.int x0), .val (.int x1), .val (.int x2), .val (.int (1 : Int32)), .val (.int (1 : Int32)), .val .null, .val (.ref b3), .unset, .unset, .unset] [])) rfl (hb hby at_118) (by decide) (by decide)
  obtain ⟨b67, g67⟩ : ∃ z, z = T58.heap.size := ⟨_, rfl⟩
  rw [← g67] at A67 D67 st67
  have f68 : Fld Z h67 b67 cs5 "value" "Ljava/lang/Object;" .null := D67 (Or.inr (ww hw 41 rfl)) (ty := (.object "java/lang/Object")) (by decide)
  have f69 : Fld Z h67 b67 cs5 "errors" "Ljava/util/List;" .null := D67 (Or.inr (ww hw 72 rfl)) (ty := (.object "java/util/List")) (by decide)
  have o71 := Old.keep o57 K58 (allS g8 all0)
  have zz70 : n0 ≤ T58.heap.size := by rw [← o71.1]; exact o71.2.1
  have g72 := Nat.le_trans zz70 (Nat.le_of_eq g67.symm)
  have f73 := ((f46.keep K58).ext E67)
  have f74 := (f61.ext E67)
  have zs75 := Nat.le_trans zs55 K58.1
  have n76 := Nat.ne_of_lt (Nat.lt_of_lt_of_le (Nat.lt_of_lt_of_le A3.lt zs75) (Nat.le_of_eq g67.symm))
  have f77 := (f60.ext E67)
  have f78 := (f65.ext E67)
  have f80 := (f64.ext E67)
  have n81 := Nat.ne_of_lt (Nat.lt_of_lt_of_le f64.lt (Nat.le_of_eq g67.symm))
  have f82 := ((f56.keep K58).ext E67)
  have o84 := Old.ext o71 E67
  obtain ⟨_, _, ⟨T85, L85, k85, n85⟩, -, X85, ⟨Lc85, hQ85, l85, y85, z85⟩, st85⟩ := X67.specialBack hx (y := (⟨cs5, "<init>", cs6⟩ : MethodName)) rfl ho24 (mvT hZ24 (ww hw 36 rfl)) (mvT hZ24 (ww hw 37 rfl)) (mvT hZ24 (ww hw 38 rfl)) (by decide) (backOf (W := 1) (rm6_3 l Z a0 hw [] b67 b3 b58_0 r5 k58_0 b15 r6 h67 n0 o84 A67 f68 g72 f73 f74 n76 f77 f78 f79 f80 n81 f82 f83 f69 A67.lt) hZ24 (ww hw 38 rfl) (ww hw 35 rfl) (by decide) (by decide)) (g := (mkF m 126 #[.val (.int x0), .val (.int x1), .val (.int x2), .val (.int (1 : Int32)), .val (.int (1 : Int32)), .val .null, .val (.ref b3), .unset, .unset, .unset] [(.ref b3), .null, (.ref b67), (.ref b67)])) rfl (by rw [hml]; rfl) (Steps.refl _) (a := b67) (argsL := [.null, (.ref b3)]) (rest := [(.ref b67)]) (lenOf pd__Ljava_lang_Object_Ljava_util_List__V rfl) rfl (by show 2 * 0 + _ ≤ _; exact Nat.le_of_eq rfl) (hb hby at_126) (fun _ _ => ⟨rfl, e67, (by decide : 12 + 2 ≤ _), (by decide : 75 + 3 ≤ _)⟩)
  dsimp only [Pt.U, Pt.locs, Pt.cells, Pt.slots] at X85 l85 y85 z85 st85 hQ85
  subst l85 y85 z85
  obtain ⟨b85_0, rfl, N85q, K85, f86, f87, f88, f89, f90, f91⟩ := hQ85
  have N85 := Fr.app N58 N85q
  have o92 := Old.keep o84 K85 (allS g72 all0)
  have f94 := (A67.keep K85)
  obtain ⟨cqq95, kqq95, qq95a, qq95b, qq95c⟩ := isOf hZ24 rfl f94
  obtain ⟨_, _, ⟨T93, L93, k93, n93⟩, -, X93, ⟨Lc93, hQ93, l93, y93, z93⟩, st93⟩ := X85.virtualBack hx (y := (⟨cs5, "hasErrors", "()Z"⟩ : MethodName)) (z := (⟨cs5, "hasErrors", "()Z"⟩ : MethodName)) ho24 (mvT hZ24 (ww hw 73 rfl)) (mvT hZ24 (ww hw 74 rfl)) (notFace_of_selects (args := #[]) (mvT hZ24 (ww hw 76 rfl))) (mvT hZ24 (ww hw 76 rfl)) (mvT hZ24 (ww hw 75 rfl)) (by decide) (backOf (W := 0) (rm11_2 l Z a0 hw [] b67 b85_0 T85.heap n0 o92 f87 f89) hZ24 (ww hw 77 rfl) (ww hw 35 rfl) (by decide) (by decide)) qq95a qq95c (g := (mkF m 133 #[.val (.int x0), .val (.int x1), .val (.int x2), .val (.int (1 : Int32)), .val (.int (1 : Int32)), .val .null, .val (.ref b3), .val (.ref b67), .unset, .unset] [(.ref b67)])) rfl (by rw [hml]; rfl) (Steps.refl _) (argsL := []) (rest := []) (lenOf pd___Z rfl) rfl (by show 2 * 0 + _ ≤ _; exact Nat.le_of_eq rfl) (hb hby at_133) (fun _ _ => ⟨rfl, rfl, (by decide : 14 + 0 ≤ _), (by decide : 78 + 0 ≤ _)⟩)
  dsimp only [Pt.U, Pt.locs, Pt.cells, Pt.slots] at X93 l93 y93 z93 st93 hQ93
  subst l93 y93 z93
  obtain ⟨rfl, N93q, E93⟩ := hQ93
  have N93 := Fr.app N85 N93q
  obtain ⟨cqq97, kqq97, qq97a, qq97b, qq97c⟩ := isOf hZ24 E93 f94
  obtain ⟨_, _, ⟨T96, L96, k96, n96⟩, -, X96, ⟨Lc96, hQ96, l96, y96, z96⟩, st96⟩ := X93.virtualBack hx (y := (⟨cs5, "errors", "()Ljava/util/List;"⟩ : MethodName)) (z := (⟨cs5, "errors", "()Ljava/util/List;"⟩ : MethodName)) ho24 (mvT hZ24 (ww hw 90 rfl)) (mvT hZ24 (ww hw 91 rfl)) (notFace_of_selects (args := #[]) (mvT hZ24 (ww hw 93 rfl))) (mvT hZ24 (ww hw 93 rfl)) (mvT hZ24 (ww hw 92 rfl)) (by decide) (backOf (W := 0) (rm13_1 l Z a0 hw [] b67 b85_0 T85.heap n0 o92 f87) hZ24 (ww hw 94 rfl) (ww hw 35 rfl) (by decide) (by decide)) qq97a qq97c (g := (mkF m 140 #[.val (.int x0), .val (.int x1), .val (.int x2), .val (.int (1 : Int32)), .val (.int (1 : Int32)), .val .null, .val (.ref b3), .val (.ref b67), .val (.int (1 : Int32)), .unset] [(.ref b67)])) rfl (by rw [hml]; rfl) (Steps.refl _) (argsL := []) (rest := []) (lenOf pd___Ljava_util_List_ rfl) rfl (by show 2 * 0 + _ ≤ _; exact Nat.le_of_eq rfl) (hb hby at_140) (fun _ _ => ⟨rfl, E93, (by decide : 14 + 0 ≤ _), (by decide : 78 + 0 ≤ _)⟩)
  dsimp only [Pt.U, Pt.locs, Pt.cells, Pt.slots] at X96 l96 y96 z96 st96 hQ96
  subst l96 y96 z96
  obtain ⟨rfl, N96q, E96⟩ := hQ96
  have N96 := Fr.app N93 N96q
  obtain ⟨cqq99, kqq99, qq99a, qq99b, qq99c⟩ := isOf hZ24 E96 f89
  obtain ⟨_, _, ⟨T98, L98, k98, n98⟩, -, X98, ⟨Lc98, hQ98, l98, y98, z98⟩, st98⟩ := X96.interfaceBack hx (xi := (⟨"java/util/List", "size", "()I"⟩ : MethodName)) (y := (⟨cs18, "size", "()I"⟩ : MethodName)) ho24 (mvT hZ24 (ww hw 95 rfl)) (mvT hZ24 (ww hw 96 rfl)) (mvT hZ24 (ww hw 97 rfl)) (mvT hZ24 (ww hw 227 rfl)) (mvT hZ24 (ww hw 228 rfl)) (mvT hZ24 (ww hw 229 rfl)) (mvT hZ24 (ww hw 230 rfl)) (mvT hZ24 (ww hw 225 rfl)) (by decide) (backOf (W := 0) (rm31_1 l Z a0 hw [] b85_0 r6 T85.heap n0 o92 f91 f83) hZ24 (ww hw 231 rfl) (ww hw 193 rfl) (by decide) (by decide)) qq99a qq99b qq99c (g := (mkF m 143 #[.val (.int x0), .val (.int x1), .val (.int x2), .val (.int (1 : Int32)), .val (.int (1 : Int32)), .val .null, .val (.ref b3), .val (.ref b67), .val (.int (1 : Int32)), .unset] [(.ref b85_0)])) rfl (by rw [hml]; rfl) (Steps.refl _) (argsL := []) (rest := []) (lenOf pd___I rfl) rfl (by show 2 * 0 + _ ≤ _; exact Nat.le_of_eq rfl) (hb hby at_143) (fun _ _ => ⟨rfl, E96, (by decide : 14 + 0 ≤ _), (by decide : 78 + 0 ≤ _)⟩)
  dsimp only [Pt.U, Pt.locs, Pt.cells, Pt.slots] at X98 l98 y98 z98 st98 hQ98
  subst l98 y98 z98
  obtain ⟨rfl, N98q, E98⟩ := hQ98
  have N98 := Fr.app N96 N98q
  have zs100 := K38.1
  have zs101 := Nat.le_trans zs100 K58.1
  have zs102 := Nat.le_trans zs101 E67.1
  have zs103 := Nat.le_trans zs102 K85.1
  obtain ⟨fs, hr, hrun, hended, hend⟩ := leaveW (s := s) (vm₁ := T24.vm) X98 hS24 (by rw [E98]; exact (Nat.le_trans hk24 zs103)) (v := some (.int (1 : Int32))) (fun h => by rw [Bd.returns] at h; cases h)
  refine ⟨_, _, pre0 _ ?_, hrun, hended, _, _, rfl, ?_, hend.1, hend.2.1, hend.2.2.1, hend.2.2.2.mono (by decide) (by decide)⟩
  · show Steps p.tables e below (s₁.setTop (mkF m 0 #[.val (.int x0), .val (.int x1), .val (.int x2), .unset, .unset, .unset, .unset, .unset, .unset, .unset] [])) _
    refine XS.iloadN X0.here hx rfl (hb hby at_0) rfl ?_
    refine XS.iconst X0.here hx rfl (hb hby at_1) ?_
    refine XS.iand X0.here hx rfl (hb hby at_2) rfl ?_
    show Steps p.tables e below (s₁.setTop (mkF m 3 #[.val (.int x0), .val (.int x1), .val (.int x2), .unset, .unset, .unset, .unset, .unset, .unset, .unset] [(.int (x0 &&& (3 : Int32)))])) _
    rw [hc1]
    show Steps p.tables e below (s₁.setTop (mkF m 3 #[.val (.int x0), .val (.int x1), .val (.int x2), .unset, .unset, .unset, .unset, .unset, .unset, .unset] [(.int (1 : Int32))])) _
    refine XS.istoreN X0.here hx rfl (hb hby at_3) rfl (l' := #[.val (.int x0), .val (.int x1), .val (.int x2), .val (.int (1 : Int32)), .unset, .unset, .unset, .unset, .unset, .unset]) rfl ?_
    refine XS.iloadN X0.here hx rfl (hb hby at_4) rfl ?_
    refine XS.iconst X0.here hx rfl (hb hby at_5) ?_
    refine XS.iand X0.here hx rfl (hb hby at_6) rfl ?_
    show Steps p.tables e below (s₁.setTop (mkF m 7 #[.val (.int x0), .val (.int x1), .val (.int x2), .val (.int (1 : Int32)), .unset, .unset, .unset, .unset, .unset, .unset] [(.int (x2 &&& (1 : Int32)))])) _
    refine XS.ifNo X0.here hx rfl (hb hby at_7) rfl ((if0 _ _).trans (feq hc2).1) ?_
    refine XS.iconst X0.here hx rfl (hb hby at_10) ?_
    refine XS.goto X0.here hx rfl (pc0 := 11) (pc' := 15) rfl (hb hby at_11) (by decide) (by decide) ?_
    show Steps p.tables e below (s₁.setTop (mkF m 15 #[.val (.int x0), .val (.int x1), .val (.int x2), .val (.int (1 : Int32)), .unset, .unset, .unset, .unset, .unset, .unset] [(.int (1 : Int32))])) _
    refine XS.istore X0.here hx rfl (hb hby at_15) rfl (l' := #[.val (.int x0), .val (.int x1), .val (.int x2), .val (.int (1 : Int32)), .val (.int (1 : Int32)), .unset, .unset, .unset, .unset, .unset]) rfl ?_
    refine XS.iload X0.here hx rfl (hb hby at_17) rfl ?_
    refine XS.ifNo X0.here hx rfl (hb hby at_19) rfl ((if0 _ _).trans (feq (by decide : ¬ ((1 : Int32) = (0 : Int32)))).1) ?_
    refine XS.aconstNull X0.here hx rfl (hb hby at_22) ?_
    show Steps p.tables e below (s₁.setTop (mkF m 23 #[.val (.int x0), .val (.int x1), .val (.int x2), .val (.int (1 : Int32)), .val (.int (1 : Int32)), .unset, .unset, .unset, .unset, .unset] [.null])) _
    refine XS.goto X0.here hx rfl (pc0 := 23) (pc' := 30) rfl (hb hby at_23) (by decide) (by decide) ?_
    show Steps p.tables e below (s₁.setTop (mkF m 30 #[.val (.int x0), .val (.int x1), .val (.int x2), .val (.int (1 : Int32)), .val (.int (1 : Int32)), .unset, .unset, .unset, .unset, .unset] [.null])) _
    refine XS.astore X0.here hx rfl (hb hby at_30) rfl rfl (l' := #[.val (.int x0), .val (.int x1), .val (.int x2), .val (.int (1 : Int32)), .val (.int (1 : Int32)), .val .null, .unset, .unset, .unset, .unset]) rfl ?_
    refine st3 _ ?_
    show Steps p.tables e below (T3.setTop (mkF m 35 #[.val (.int x0), .val (.int x1), .val (.int x2), .val (.int (1 : Int32)), .val (.int (1 : Int32)), .val .null, .unset, .unset, .unset, .unset] [(.ref b3)])) _
    refine XS.dup X3.here hx rfl (hb hby at_35) rfl rfl ?_
    refine st11.trans ?_
    show Steps p.tables e below (T11.setTop (mkF m 39 #[.val (.int x0), .val (.int x1), .val (.int x2), .val (.int (1 : Int32)), .val (.int (1 : Int32)), .val .null, .unset, .unset, .unset, .unset] [(.ref b3)])) _
    refine XS.astore X11.here hx rfl (hb hby at_39) rfl rfl (l' := #[.val (.int x0), .val (.int x1), .val (.int x2), .val (.int (1 : Int32)), .val (.int (1 : Int32)), .val .null, .val (.ref b3), .unset, .unset, .unset]) rfl ?_
    refine XS.iloadN X11.here hx rfl (hb hby at_41) rfl ?_
    refine XS.iconst X11.here hx rfl (hb hby at_42) ?_
    refine XS.icmpNo X11.here hx rfl (hb hby at_43) rfl (flt (by decide : ¬ ((1 : Int32) < (1 : Int32)))).1 ?_
    show Steps p.tables e below (T11.setTop (mkF m 46 #[.val (.int x0), .val (.int x1), .val (.int x2), .val (.int (1 : Int32)), .val (.int (1 : Int32)), .val .null, .val (.ref b3), .unset, .unset, .unset] [])) _
    refine XS.aload X11.here hx rfl (hb hby at_46) rfl rfl ?_
    refine st15 _ ?_
    show Steps p.tables e below (T15.setTop (mkF m 51 #[.val (.int x0), .val (.int x1), .val (.int x2), .val (.int (1 : Int32)), .val (.int (1 : Int32)), .val .null, .val (.ref b3), .unset, .unset, .unset] [(.ref b15), (.ref b3)])) _
    refine XS.dup X15.here hx rfl (hb hby at_51) rfl rfl ?_
    refine st21 _ ?_
    show Steps p.tables e below (T21.setTop (mkF m 54 #[.val (.int x0), .val (.int x1), .val (.int x2), .val (.int (1 : Int32)), .val (.int (1 : Int32)), .val .null, .val (.ref b3), .unset, .unset, .unset] [(.ref a21), (.ref b15), (.ref b15), (.ref b3)])) _
    refine st22 _ ?_
    show Steps p.tables e below (T22.setTop (mkF m 56 #[.val (.int x0), .val (.int x1), .val (.int x2), .val (.int (1 : Int32)), .val (.int (1 : Int32)), .val .null, .val (.ref b3), .unset, .unset, .unset] [(.ref a22), (.ref a21), (.ref b15), (.ref b15), (.ref b3)])) _
    refine st23 _ ?_
    show Steps p.tables e below (T23.setTop (mkF m 58 #[.val (.int x0), .val (.int x1), .val (.int x2), .val (.int (1 : Int32)), .val (.int (1 : Int32)), .val .null, .val (.ref b3), .unset, .unset, .unset] [(.ref a23), (.ref a22), (.ref a21), (.ref b15), (.ref b15), (.ref b3)])) _
    refine st24 _ ?_
    show Steps p.tables e below (T24.setTop (mkF m 60 #[.val (.int x0), .val (.int x1), .val (.int x2), .val (.int (1 : Int32)), .val (.int (1 : Int32)), .val .null, .val (.ref b3), .unset, .unset, .unset] [(.ref a24), (.ref a23), (.ref a22), (.ref a21), (.ref b15), (.ref b15), (.ref b3)])) _
    refine st38.trans ?_
    show Steps p.tables e below (T38.setTop (mkF m 63 #[.val (.int x0), .val (.int x1), .val (.int x2), .val (.int (1 : Int32)), .val (.int (1 : Int32)), .val .null, .val (.ref b3), .unset, .unset, .unset] [(.ref b15), (.ref b3)])) _
    refine st58.trans ?_
    show Steps p.tables e below (T58.setTop (mkF m 66 #[.val (.int x0), .val (.int x1), .val (.int x2), .val (.int (1 : Int32)), .val (.int (1 : Int32)), .val .null, .val (.ref b3), .unset, .unset, .unset] [(.int (1 : Int32))])) _
    refine XS.pop X58.here hx rfl (hb hby at_66) rfl rfl ?_
    refine XS.iloadN X58.here hx rfl (hb hby at_67) rfl ?_
    refine XS.iconst X58.here hx rfl (hb hby at_68) ?_
    refine XS.icmpYes X58.here hx rfl (pc0 := 69) (pc' := 92) rfl (hb hby at_69) rfl (tlt (by decide : (1 : Int32) < (2 : Int32))).1 (by decide) (by decide) ?_
    show Steps p.tables e below (T58.setTop (mkF m 92 #[.val (.int x0), .val (.int x1), .val (.int x2), .val (.int (1 : Int32)), .val (.int (1 : Int32)), .val .null, .val (.ref b3), .unset, .unset, .unset] [])) _
    refine XS.iloadN X58.here hx rfl (hb hby at_92) rfl ?_
    refine XS.iconst X58.here hx rfl (hb hby at_93) ?_
    refine XS.icmpYes X58.here hx rfl (pc0 := 94) (pc' := 118) rfl (hb hby at_94) rfl (tlt (by decide : (1 : Int32) < (3 : Int32))).1 (by decide) (by decide) ?_
    show Steps p.tables e below (T58.setTop (mkF m 118 #[.val (.int x0), .val (.int x1), .val (.int x2), .val (.int (1 : Int32)), .val (.int (1 : Int32)), .val .null, .val (.ref b3), .unset, .unset, .unset] [])) _
    refine st67 _ ?_
    show Steps p.tables e below (T67.setTop (mkF m 121 #[.val (.int x0), .val (.int x1), .val (.int x2), .val (.int (1 : Int32)), .val (.int (1 : Int32)), .val .null, .val (.ref b3), .unset, .unset, .unset] [(.ref b67)])) _
    refine XS.dup X67.here hx rfl (hb hby at_121) rfl rfl ?_
    refine XS.aload X67.here hx rfl (hb hby at_122) rfl rfl ?_
    refine XS.aload X67.here hx rfl (hb hby at_124) rfl rfl ?_
    refine st85.trans ?_
    show Steps p.tables e below (T85.setTop (mkF m 129 #[.val (.int x0), .val (.int x1), .val (.int x2), .val (.int (1 : Int32)), .val (.int (1 : Int32)), .val .null, .val (.ref b3), .unset, .unset, .unset] [(.ref b67)])) _
    refine XS.astore X85.here hx rfl (hb hby at_129) rfl rfl (l' := #[.val (.int x0), .val (.int x1), .val (.int x2), .val (.int (1 : Int32)), .val (.int (1 : Int32)), .val .null, .val (.ref b3), .val (.ref b67), .unset, .unset]) rfl ?_
    refine XS.aload X85.here hx rfl (hb hby at_131) rfl rfl ?_
    refine st93.trans ?_
    show Steps p.tables e below (T93.setTop (mkF m 136 #[.val (.int x0), .val (.int x1), .val (.int x2), .val (.int (1 : Int32)), .val (.int (1 : Int32)), .val .null, .val (.ref b3), .val (.ref b67), .unset, .unset] [(.int (1 : Int32))])) _
    refine XS.istore X93.here hx rfl (hb hby at_136) rfl (l' := #[.val (.int x0), .val (.int x1), .val (.int x2), .val (.int (1 : Int32)), .val (.int (1 : Int32)), .val .null, .val (.ref b3), .val (.ref b67), .val (.int (1 : Int32)), .unset]) rfl ?_
    refine XS.aload X93.here hx rfl (hb hby at_138) rfl rfl ?_
    refine st96.trans ?_
    show Steps p.tables e below (T96.setTop (mkF m 143 #[.val (.int x0), .val (.int x1), .val (.int x2), .val (.int (1 : Int32)), .val (.int (1 : Int32)), .val .null, .val (.ref b3), .val (.ref b67), .val (.int (1 : Int32)), .unset] [(.ref b85_0)])) _
    refine st98.trans ?_
    show Steps p.tables e below (T98.setTop (mkF m 148 #[.val (.int x0), .val (.int x1), .val (.int x2), .val (.int (1 : Int32)), .val (.int (1 : Int32)), .val .null, .val (.ref b3), .val (.ref b67), .val (.int (1 : Int32)), .unset] [(.int (1 : Int32))])) _
    refine XS.istore X98.here hx rfl (hb hby at_148) rfl (l' := #[.val (.int x0), .val (.int x1), .val (.int x2), .val (.int (1 : Int32)), .val (.int (1 : Int32)), .val .null, .val (.ref b3), .val (.ref b67), .val (.int (1 : Int32)), .val (.int (1 : Int32))]) rfl ?_
    refine XS.iload X98.here hx rfl (hb hby at_150) rfl ?_
    refine XS.iloadN X98.here hx rfl (hb hby at_152) rfl ?_
    refine XS.ifNo X98.here hx rfl (hb hby at_153) rfl ((if0 _ _).trans (feq (by decide : ¬ ((1 : Int32) = (0 : Int32)))).1) ?_
    show Steps p.tables e below (T98.setTop (mkF m 156 #[.val (.int x0), .val (.int x1), .val (.int x2), .val (.int (1 : Int32)), .val (.int (1 : Int32)), .val .null, .val (.ref b3), .val (.ref b67), .val (.int (1 : Int32)), .val (.int (1 : Int32))] [(.int (1 : Int32))])) _
    refine XS.iconst X98.here hx rfl (hb hby at_156) ?_
    refine XS.goto X98.here hx rfl (pc0 := 157) (pc' := 161) rfl (hb hby at_157) (by decide) (by decide) ?_
    show Steps p.tables e below (T98.setTop (mkF m 161 #[.val (.int x0), .val (.int x1), .val (.int x2), .val (.int (1 : Int32)), .val (.int (1 : Int32)), .val .null, .val (.ref b3), .val (.ref b67), .val (.int (1 : Int32)), .val (.int (1 : Int32))] [(.int (1 : Int32)), (.int (1 : Int32))])) _
    refine XS.icmpNo X98.here hx rfl (hb hby at_161) rfl (teq (rfl : (1 : Int32) = (1 : Int32))).2 ?_
    refine XS.iload X98.here hx rfl (hb hby at_164) rfl ?_
    refine XS.iloadN X98.here hx rfl (hb hby at_166) rfl ?_
    refine XS.icmpNo X98.here hx rfl (hb hby at_167) rfl (teq (rfl : (1 : Int32) = (1 : Int32))).2 ?_
    show Steps p.tables e below (T98.setTop (mkF m 170 #[.val (.int x0), .val (.int x1), .val (.int x2), .val (.int (1 : Int32)), .val (.int (1 : Int32)), .val .null, .val (.ref b3), .val (.ref b67), .val (.int (1 : Int32)), .val (.int (1 : Int32))] [])) _
    refine XS.iload X98.here hx rfl (hb hby at_170) rfl ?_
    refine XS.iload X98.here hx rfl (hb hby at_172) rfl ?_
    refine XS.ifNo X98.here hx rfl (hb hby at_174) rfl ((if0 _ _).trans (feq (by decide : ¬ ((1 : Int32) = (0 : Int32)))).1) ?_
    refine XS.iconst X98.here hx rfl (hb hby at_177) ?_
    show Steps p.tables e below (T98.setTop (mkF m 178 #[.val (.int x0), .val (.int x1), .val (.int x2), .val (.int (1 : Int32)), .val (.int (1 : Int32)), .val .null, .val (.ref b3), .val (.ref b67), .val (.int (1 : Int32)), .val (.int (1 : Int32))] [(.int (1 : Int32)), (.int (1 : Int32))])) _
    refine XS.goto X98.here hx rfl (pc0 := 178) (pc' := 182) rfl (hb hby at_178) (by decide) (by decide) ?_
    show Steps p.tables e below (T98.setTop (mkF m 182 #[.val (.int x0), .val (.int x1), .val (.int x2), .val (.int (1 : Int32)), .val (.int (1 : Int32)), .val .null, .val (.ref b3), .val (.ref b67), .val (.int (1 : Int32)), .val (.int (1 : Int32))] [(.int (1 : Int32)), (.int (1 : Int32))])) _
    refine XS.icmpNo X98.here hx rfl (hb hby at_182) rfl (teq (rfl : (1 : Int32) = (1 : Int32))).2 ?_
    refine XS.iconst X98.here hx rfl (hb hby at_185) ?_
    refine XS.goto X98.here hx rfl (pc0 := 186) (pc' := 190) rfl (hb hby at_186) (by decide) (by decide) ?_
    show Steps p.tables e below (T98.setTop (mkF m 190 #[.val (.int x0), .val (.int x1), .val (.int x2), .val (.int (1 : Int32)), .val (.int (1 : Int32)), .val .null, .val (.ref b3), .val (.ref b67), .val (.int (1 : Int32)), .val (.int (1 : Int32))] [(.int (1 : Int32))])) _
    exact retN X98 hx (t := .boolean) Bd.returns (by simp) (hb hby at_190) hr
  · show Q0_3 Z x0 x1 x2 r3 c4 r5 r6 h0 n0 _ T98.heap _
    rw [E98]
    exact ⟨rfl, N98⟩
def Q6_4 (Z : State) (r0 : Addr) (r1 : Addr) (r2 : Addr) (r3 : Addr) (r4 : Addr) (c5 : ClassId) (r6 : Addr) (r7 : Addr) (h0 : Heap) (n0 : Nat) (v : Option Value) (h : Heap) (L : List Loc) : Prop := ∃ (b23_0 : Addr), v = none ∧ Fr n0 L ∧ Keep h0 h [r0] ∧ Fld Z h r0 cs5 "value" "Ljava/lang/Object;" (.ref r1) ∧ Fld Z h r0 cs5 "errors" "Ljava/util/List;" (.ref b23_0) ∧ h0.size ≤ b23_0 ∧ Exa Z h b23_0 cs18 ∧ Fld Z h b23_0 cs18 "e0" "Ljava/lang/Object;" (.ref r6) ∧ Fld Z h b23_0 cs18 "e1" "Ljava/lang/Object;" (.ref r7)
set_option maxRecDepth 65536 in
set_option maxHeartbeats 40000000 in
theorem rm6_4 (l : Launch) (Z : State) (a0 : Array Value) (hw : ∀ d ∈ tables_1, d.before a0 Z = true) (ws : List Jvm.Cond) (r0 : Addr) (r1 : Addr) (r2 : Addr) (r3 : Addr) (r4 : Addr) (c5 : ClassId) (r6 : Addr) (r7 : Addr) (h0 : Heap) (n0 : Nat) (O0 : Old Z n0 h0) (f2 : Exa Z h0 r0 cs5) (f3 : Fld Z h0 r0 cs5 "value" "Ljava/lang/Object;" .null) (g4 : n0 ≤ r0) (f6 : Exa Z h0 r2 "java/util/ArrayList") (f8 : Fld Z h0 r2 "java/util/ArrayList" "size" "I" (.int (1 : Int32))) (n9 : r2 ≠ r0) (f11 : Fld Z h0 r2 "java/util/ArrayList" "elementData" "[Ljava/lang/Object;" (.ref r3)) (f13 : Exa Z h0 r3 "[Ljava/lang/Object;") (f15 : own_Mir Z "[Ljava/lang/Object;" r4) (f16 : Arv Z h0 r3 c5 (.object "java/lang/Object") (10 : Int32) [(.ref r6), .null, .null, .null, .null, .null, .null, .null, .null, .null] .null) (n17 : r3 ≠ r0) (f19 : Exa Z h0 r6 cs10) (f21 : Sta Z Z.heap cs2 "EMPTY" "Ljava/lang/Object;" (.ref r7)) (f29 : Fld Z h0 r0 cs5 "errors" "Ljava/util/List;" .null) (l35 : r0 < h0.size) :
    MetFree l (⟨cs5, "<init>", cs6⟩ : MethodName) (head1 (Jvm.Cond.code (⟨cs5, "<init>", cs6⟩ : MethodName) prog_4_method_1_code 3 none :: ws) ({ frames := 8, cells := 2, slots := 3, locals := 101 } : Room)) (fun a U => a = #[(.ref r0), (.ref r1), (.ref r2)] ∧ Z.Warmed39 U.vm ∧ U.heap = h0) (fun _ _ _ _ _ => True) (fun _ U o U' => ∃ v L, o = .returned v ∧ Q6_4 Z r0 r1 r2 r3 r4 c5 r6 r7 h0 n0 v U'.heap L ∧ FrameEnd U o U' L ({ frames := 8, cells := 2, slots := 3, locals := 101 } : Room).cells ({ frames := 8, cells := 2, slots := 3, locals := 101 } : Room).slots) := by
  refine MetFree.of_bodySF (plainFor_of_name pn_com_example_weaverbird_weaverbird_bind_Binding) hisR ?_
  intro p e s m args below meth c s₁ Bd hml0 hP hK
  obtain ⟨rfl, hZ, hh⟩ := hP
  have hx := Bd.exec
  have hby := Bd.bytes
  have hml : c.maxLocals = 3 := hml0
  have hown : s.vm.findClass cs5 = some m.cls := findClass_of_methodNamed Bd.named
  have hnm := (name_of_methodNamed Bd.named Bd.method).1
  have X0 : Stand p l e ({ frames := 8, cells := 2, slots := 3, locals := 101 } : Room) s m #[(.ref r0), (.ref r1), (.ref r2)] below meth c s₁ [] 0 0 := Stand.of_body Bd
  have e0 : s₁.heap = h0 := by rw [← hh, Bd.state]; rfl
  have N0 := Fr.nil n0
  have pre0 : ∀ t, Steps p.tables e below (s₁.setTop (mkF m 0 #[.val (.ref r0), .val (.ref r1), .val (.ref r2)] [])) t → Steps p.tables e below (s₁.setTop (entryFrame m #[(.ref r0), (.ref r1), (.ref r2)] 3)) t := fun t k => castTop (by first | (simp [entryFrame, mkF, argsToLocals, Value.category]; done) | rfl) k
  obtain ⟨T1, X1, e1, st1⟩ := initO X0 hx hZ hown (ww hw 39 rfl) (ww hw 26 rfl) (ww hw 27 rfl) e0 (g := (mkF m 1 #[.val (.ref r0), .val (.ref r1), .val (.ref r2)] [(.ref r0)])) rfl (by rw [hml]; rfl) rfl (hb hby d6_1) (by decide) (W := 0) (by show 2 * 0 + _ ≤ _; exact Nat.le_of_eq rfl) (by decide)
  obtain ⟨T5, h5, X5, e5, W5, st5⟩ := putF X1 hx hZ hown (host := "") (Or.inl (ww hw 40 rfl)) Via.refl e1 f3 f2 (Or.inr ⟨(ww hw 41 rfl), rfl, hnm⟩) (ww hw 34 rfl) (ty := (.object "java/lang/Object")) (by decide) rfl rfl (g := (mkF m 6 #[.val (.ref r0), .val (.ref r1), .val (.ref r2)] [(.ref r1), (.ref r0)])) rfl rfl (hb hby d6_6)
  have Fw5 := f3.same W5
  have N5 := Fr.snoc X5 N0 g4
  have f7 := (f6.wr W5)
  have f10 := (f8.other W5 (Or.inl n9))
  have f12 := (f11.other W5 (Or.inl n9))
  have f14 := (f13.wr W5)
  have f18 := (f16.other W5 n17)
  have f20 := (f19.wr W5)
  have o22 := Old.wr O0 W5 g4
  obtain ⟨_, _, ⟨T23, L23, k23, n23⟩, -, X23, ⟨Lc23, hQ23, l23, y23, z23⟩, st23⟩ := Jvm.LawKit.callS X5 hx (y := (⟨"java/util/List", "copyOf", cs4⟩ : MethodName)) hown (mvT hZ (ww hw 42 rfl)) (mvT hZ (ww hw 43 rfl)) (mvT hZ (ww hw 44 rfl)) (mvT hZ (ww hw 45 rfl)) (by decide) (backOf (W := 1) (rm7_2 l Z a0 hw [] r2 r3 r4 c5 r6 r7 h5 n0 o22 f7 f10 f12 f14 f15 f18 f20 f21) hZ (ww hw 45 rfl) (ww hw 44 rfl) (by decide) (by decide)) (g := (mkF m 11 #[.val (.ref r0), .val (.ref r1), .val (.ref r2)] [(.ref r2), (.ref r0)])) rfl (by rw [hml]; rfl) (argsL := [(.ref r2)]) (rest := [(.ref r0)]) (lenOf pd__Ljava_util_Collection__Ljava_util_List_ rfl) rfl (by show 2 * 0 + _ ≤ _; exact Nat.le_of_eq rfl) (hb hby d6_11) (fun _ _ => ⟨rfl, e5, (by decide : 0 + 2 ≤ _), (by decide : 0 + 3 ≤ _)⟩)
  dsimp only [Pt.U, Pt.locs, Pt.cells, Pt.slots] at X23 l23 y23 z23 st23 hQ23
  subst l23 y23 z23
  obtain ⟨b23_0, rfl, N23q, K23, f24, f25, f26, f27⟩ := hQ23
  have N23 := Fr.app N5 N23q
  have f28 := ((f2.wr W5).keep K23)
  have f30 := ((f29.other W5 (Or.inr (slot_ne (Or.inr (ww hw 72 rfl)) (Or.inr (ww hw 41 rfl)) (by decide) (t := (.object "java/util/List")) (t' := (.object "java/lang/Object")) (by decide) (by decide)))).keep K23 nin0)
  obtain ⟨T31, h31, X31, e31, W31, st31⟩ := putF X23 hx hZ hown (host := "") (Or.inl (ww hw 71 rfl)) Via.refl rfl f30 f28 (Or.inr ⟨(ww hw 72 rfl), rfl, hnm⟩) (ww hw 34 rfl) (ty := (.object "java/util/List")) (by decide) rfl rfl (g := (mkF m 14 #[.val (.ref r0), .val (.ref r1), .val (.ref r2)] [(.ref b23_0), (.ref r0)])) rfl rfl (hb hby d6_14)
  have Fw31 := f30.same W31
  have N31 := Fr.snoc X31 N23 g4
  have f32 := ((Fw5.keep K23 nin0).other W31 (Or.inr (slot_ne (Or.inr (ww hw 41 rfl)) (Or.inr (ww hw 72 rfl)) (by decide) (t := (.object "java/lang/Object")) (t' := (.object "java/util/List")) (by decide) (by decide))))
  have zs33 := (Nat.le_of_eq W5.size.symm)
  have f34 := (f25.wr W31)
  have n36 := Nat.ne_of_lt (Nat.lt_of_lt_of_le (Nat.lt_of_lt_of_le l35 zs33) f24)
  have f37 := (f26.other W31 (Or.inl (Ne.symm n36)))
  have f38 := (f27.other W31 (Or.inl (Ne.symm n36)))
  have kp39 : Keep h0 h5 [r0] := (Keep.refl h0 [r0]).wr W5 (Or.inl (List.mem_of_getElem? (i := 0) rfl))
  have kp40 : Keep h0 T23.heap [r0] := kp39.trans K23 all0
  have kp41 : Keep h0 h31 [r0] := kp40.wr W31 (Or.inl (List.mem_of_getElem? (i := 0) rfl))
  obtain ⟨fs, hr, hrun, hended, hW, hsame⟩ := X31.leave (v := none) (fun _ => rfl)
  refine ⟨_, _, pre0 _ ?_, hrun, hended, _, _, rfl, ?_, ⟨_, rfl⟩, hW, hsame.mono (by decide) (by decide)⟩
  · show Steps p.tables e below (s₁.setTop (mkF m 0 #[.val (.ref r0), .val (.ref r1), .val (.ref r2)] [])) _
    refine XS.aloadN X0.here hx rfl (hb hby d6_0) rfl rfl ?_
    refine st1 _ ?_
    show Steps p.tables e below (T1.setTop (mkF m 4 #[.val (.ref r0), .val (.ref r1), .val (.ref r2)] [])) _
    refine XS.aloadN X1.here hx rfl (hb hby d6_4) rfl rfl ?_
    refine XS.aloadN X1.here hx rfl (hb hby d6_5) rfl rfl ?_
    refine st5 _ ?_
    show Steps p.tables e below (T5.setTop (mkF m 9 #[.val (.ref r0), .val (.ref r1), .val (.ref r2)] [])) _
    refine XS.aloadN X5.here hx rfl (hb hby d6_9) rfl rfl ?_
    refine XS.aloadN X5.here hx rfl (hb hby d6_10) rfl rfl ?_
    refine st23 _ ?_
    show Steps p.tables e below (T23.setTop (mkF m 14 #[.val (.ref r0), .val (.ref r1), .val (.ref r2)] [(.ref b23_0), (.ref r0)])) _
    refine st31 _ ?_
    show Steps p.tables e below (T31.setTop (mkF m 17 #[.val (.ref r0), .val (.ref r1), .val (.ref r2)] [])) _
    exact X31.returnOut hx Bd.returns (hb hby d6_17) hr
  · show Q6_4 Z r0 r1 r2 r3 r4 c5 r6 r7 h0 n0 _ T31.heap _
    rw [e31]
    exact ⟨b23_0, rfl, N31, kp41, f32, Fw31, (Nat.le_trans zs33 f24), f34, f37, f38⟩
def Q0_4 (Z : State) (x0 : Int32) (x1 : Int32) (x2 : Int32) (r3 : Addr) (d4 : Cell) (r5 : Addr) (c6 : ClassId) (r7 : Addr) (r8 : Addr) (h0 : Heap) (n0 : Nat) (v : Option Value) (h : Heap) (L : List Loc) : Prop := v = some (.int (1 : Int32)) ∧ Fr n0 L
set_option maxRecDepth 65536 in
set_option maxHeartbeats 40000000 in
theorem rm0_4 (l : Launch) (Z : State) (a0 : Array Value) (hw : ∀ d ∈ tables_1, d.before a0 Z = true) (ws : List Jvm.Cond) (x0 : Int32) (x1 : Int32) (x2 : Int32) (r3 : Addr) (d4 : Cell) (r5 : Addr) (c6 : ClassId) (r7 : Addr) (r8 : Addr) (h0 : Heap) (n0 : Nat) (O0 : Old Z n0 h0) (hc1 : (x0 &&& (3 : Int32)) = (1 : Int32)) (hc2 : (x2 &&& (1 : Int32)) = (0 : Int32)) (f3 : Sta Z Z.heap cs9 "high" "I" (.int (127 : Int32))) (f4 : Sta Z Z.heap cs9 "cache" "[Ljava/lang/Integer;" (.ref r3)) (f5 : Arr Z Z.heap r3 d4 (.object "java/lang/Integer")) (hc6 : d4.slots.size = 256) (hc7 : ∀ j : Int32, ¬ (j < 0 ∨ d4.slots.size ≤ j.toNatClampNeg) → ∃ r : Addr, d4.slots[j.toNatClampNeg]? = some (.ref r)) (f17 : Sta Z Z.heap "java/util/ArrayList" cs1 "[Ljava/lang/Object;" (.ref r5)) (f57 : Arv Z Z.heap r5 c6 (.object "java/lang/Object") (0 : Int32) [] .null) (f87 : own_Mir Z "[Ljava/lang/Object;" r7) (f91 : Sta Z Z.heap cs2 "EMPTY" "Ljava/lang/Object;" (.ref r8)) :
    MetFree l x (head1 (Jvm.Cond.code x code maxLocals ret :: ws) room_1) (fun a U => a = #[(.int x0), (.int x1), (.int x2)] ∧ Z.Warmed39 U.vm ∧ U.heap = h0) (fun _ _ _ _ _ => True) (fun _ U o U' => ∃ v L, o = .returned v ∧ Q0_4 Z x0 x1 x2 r3 d4 r5 c6 r7 r8 h0 n0 v U'.heap L ∧ ReturnedEndW U o U' L room_1.cells room_1.slots) := by
  refine MetFree.of_bodySF (plainFor_of_name pn_com_example_weaverbird_weaverbird_bind_BindingHasErrorsPinLaw) hisR ?_
  intro p e s m args below meth c s₁ Bd hml0 hP hK
  obtain ⟨rfl, hZ, hh⟩ := hP
  have hx := Bd.exec
  have hby := Bd.bytes
  have hml : c.maxLocals = 10 := hml0
  have hown : s.vm.findClass cs8 = some m.cls := findClass_of_methodNamed Bd.named
  have hnm := (name_of_methodNamed Bd.named Bd.method).1
  have X0 : Stand p l e room_1 s m #[(.int x0), (.int x1), (.int x2)] below meth c s₁ [] 0 0 := Stand.of_body Bd
  have e0 : s₁.heap = h0 := by rw [← hh, Bd.state]; rfl
  have N0 := Fr.nil n0
  have pre0 : ∀ t, Steps p.tables e below (s₁.setTop (mkF m 0 #[.val (.int x0), .val (.int x1), .val (.int x2), .unset, .unset, .unset, .unset, .unset, .unset, .unset] [])) t → Steps p.tables e below (s₁.setTop (entryFrame m #[(.int x0), (.int x1), (.int x2)] maxLocals)) t := fun t k => castTop (by first | (simp [entryFrame, mkF, argsToLocals, Value.category, maxLocals]; done) | rfl) k
  obtain ⟨_, _, ⟨T8, L8, k8, n8⟩, -, X8, ⟨Lc8, hQ8, l8, y8, z8⟩, st8⟩ := Jvm.LawKit.callS X0 hx (y := (⟨"java/lang/Integer", "valueOf", "(I)Ljava/lang/Integer;"⟩ : MethodName)) hown (mvT hZ (ww hw 0 rfl)) (mvT hZ (ww hw 1 rfl)) (mvT hZ (ww hw 2 rfl)) (mvT hZ (ww hw 3 rfl)) (by decide) (backOf (W := 0) (rmvalueOf l Z a0 hw [] x1 r3 d4 h0 n0 O0 f3 f4 f5 hc6 hc7) hZ (ww hw 3 rfl) (ww hw 2 rfl) (by decide) (by decide)) (g := (mkF m 27 #[.val (.int x0), .val (.int x1), .val (.int x2), .val (.int (1 : Int32)), .val (.int (0 : Int32)), .unset, .unset, .unset, .unset, .unset] [(.int x1)])) rfl (by rw [hml]; rfl) (argsL := [(.int x1)]) (rest := []) (lenOf pd__I_Ljava_lang_Integer_ rfl) rfl (by show 2 * 0 + _ ≤ _; exact Nat.le_of_eq rfl) (hb hby at_27) (fun _ _ => ⟨rfl, e0, (by decide : 0 + 1 ≤ _), (by decide : 0 + 1 ≤ _)⟩)
  dsimp only [Pt.U, Pt.locs, Pt.cells, Pt.slots] at X8 l8 y8 z8 st8 hQ8
  subst l8 y8 z8
  obtain ⟨b8_0, rfl, N8q, K8, f9⟩ := hQ8
  have N8 := Fr.app N0 N8q
  obtain ⟨T10, h10, X10, e10, E10, A10, D10, -, st10⟩ := newO X8 hx hZ hown (ww hw 7 rfl) (ww hw 8 rfl) (ww hw 9 rfl) rfl (g := (mkF m 32 #[.val (.int x0), .val (.int x1), .val (.int x2), .val (.int (1 : Int32)), .val (.int (0 : Int32)), .val (.ref b8_0), .unset, .unset, .unset, .unset] [])) rfl (hb hby at_32) (by decide) (by decide)
  obtain ⟨b10, g10⟩ : ∃ z, z = T8.heap.size := ⟨_, rfl⟩
  rw [← g10] at A10 D10 st10
  have f11 : Fld Z h10 b10 "java/util/AbstractList" "modCount" "I" (.int (0 : Int32)) := D10 (Or.inl (ww hw 29 rfl)) (ty := .int) (by decide)
  have f12 : Fld Z h10 b10 "java/util/ArrayList" "elementData" "[Ljava/lang/Object;" .null := D10 (Or.inl (ww hw 32 rfl)) (ty := (.array (.object "java/lang/Object"))) (by decide)
  have f13 : Fld Z h10 b10 "java/util/ArrayList" "size" "I" (.int (0 : Int32)) := D10 (Or.inl (ww hw 66 rfl)) (ty := .int) (by decide)
  have o15 := Old.keep O0 K8 all0
  have zz14 : n0 ≤ T8.heap.size := by rw [← o15.1]; exact o15.2.1
  have g16 := Nat.le_trans zz14 (Nat.le_of_eq g10.symm)
  have o18 := Old.ext o15 E10
  obtain ⟨_, _, ⟨T19, L19, k19, n19⟩, -, X19, ⟨Lc19, hQ19, l19, y19, z19⟩, st19⟩ := X10.specialBack hx (y := (⟨"java/util/ArrayList", "<init>", "()V"⟩ : MethodName)) rfl hown (mvT hZ (ww hw 10 rfl)) (mvT hZ (ww hw 11 rfl)) (mvT hZ (ww hw 12 rfl)) (by decide) (backOf (W := 1) (rm2_1 l Z a0 hw [] b10 r5 h10 n0 o18 A10 f11 g16 f12 f13 f17) hZ (ww hw 12 rfl) (ww hw 9 rfl) (by decide) (by decide)) (g := (mkF m 36 #[.val (.int x0), .val (.int x1), .val (.int x2), .val (.int (1 : Int32)), .val (.int (0 : Int32)), .val (.ref b8_0), .unset, .unset, .unset, .unset] [(.ref b10), (.ref b10)])) rfl (by rw [hml]; rfl) (Steps.refl _) (a := b10) (argsL := []) (rest := [(.ref b10)]) (lenOf pd___V rfl) rfl (by show 2 * 0 + _ ≤ _; exact Nat.le_of_eq rfl) (hb hby at_36) (fun _ _ => ⟨rfl, e10, (by decide : 2 + 0 ≤ _), (by decide : 4 + 0 ≤ _)⟩)
  dsimp only [Pt.U, Pt.locs, Pt.cells, Pt.slots] at X19 l19 y19 z19 st19 hQ19
  subst l19 y19 z19
  obtain ⟨rfl, N19q, K19, f20, f21, f22⟩ := hQ19
  have N19 := Fr.app N8 N19q
  obtain ⟨T23, h23, X23, e23, E23, A23, D23, -, st23⟩ := newO X19 hx hZ hown (ww hw 103 rfl) (ww hw 104 rfl) (ww hw 105 rfl) rfl (g := (mkF m 48 #[.val (.int x0), .val (.int x1), .val (.int x2), .val (.int (1 : Int32)), .val (.int (0 : Int32)), .val (.ref b8_0), .val (.ref b10), .unset, .unset, .unset] [(.ref b10)])) rfl (hb hby at_48) (by decide) (by decide)
  obtain ⟨b23, g23⟩ : ∃ z, z = T19.heap.size := ⟨_, rfl⟩
  rw [← g23] at A23 D23 st23
  have f24 : Fld Z h23 b23 cs10 "path" "Ljava/lang/String;" .null := D23 (Or.inr (ww hw 122 rfl)) (ty := (.object "java/lang/String")) (by decide)
  have f25 : Fld Z h23 b23 cs10 "code" "Ljava/lang/String;" .null := D23 (Or.inr (ww hw 124 rfl)) (ty := (.object "java/lang/String")) (by decide)
  have f26 : Fld Z h23 b23 cs10 "rejected" "Ljava/lang/String;" .null := D23 (Or.inr (ww hw 126 rfl)) (ty := (.object "java/lang/String")) (by decide)
  have f27 : Fld Z h23 b23 cs10 "message" "Ljava/lang/String;" .null := D23 (Or.inr (ww hw 128 rfl)) (ty := (.object "java/lang/String")) (by decide)
  have hS28 := (State.WarmedH.refl s).since 0
  have hstr : ∀ a ∈ Bundle.stringAtoms, a.before a0 Z = true := fun a q => hw a (own_str a q)
  obtain ⟨a29, T29, h29, kk29, X29, e29, E29, hS29, hk29, hZ29, ho29, st29⟩ := ldcS (s := s) (vm0 := s.vm) X23 hx hZ hown (ww hw 106 rfl) hstr e23 hS28 (Nat.zero_le _) (g := (mkF m 52 #[.val (.int x0), .val (.int x1), .val (.int x2), .val (.int (1 : Int32)), .val (.int (0 : Int32)), .val (.ref b8_0), .val (.ref b10), .unset, .unset, .unset] [(.ref b23), (.ref b23), (.ref b10)])) rfl (hb hby at_52) (n := 4) (by decide) (by decide) (by decide) (by decide)
  obtain ⟨a30, T30, h30, kk30, X30, e30, E30, hS30, hk30, hZ30, ho30, st30⟩ := ldcS (s := s) (vm0 := T29.vm) X29 hx hZ29 ho29 (ww hw 114 rfl) hstr e29 hS29 hk29 (g := (mkF m 54 #[.val (.int x0), .val (.int x1), .val (.int x2), .val (.int (1 : Int32)), .val (.int (0 : Int32)), .val (.ref b8_0), .val (.ref b10), .unset, .unset, .unset] [(.ref a29), (.ref b23), (.ref b23), (.ref b10)])) rfl (hb hby at_54) (n := 32) (by decide) (by decide) (by decide) (by decide)
  obtain ⟨a31, T31, h31, kk31, X31, e31, E31, hS31, hk31, hZ31, ho31, st31⟩ := ldcS (s := s) (vm0 := T30.vm) X30 hx hZ30 ho30 (ww hw 115 rfl) hstr e30 hS30 hk30 (g := (mkF m 56 #[.val (.int x0), .val (.int x1), .val (.int x2), .val (.int (1 : Int32)), .val (.int (0 : Int32)), .val (.ref b8_0), .val (.ref b10), .unset, .unset, .unset] [(.ref a30), (.ref a29), (.ref b23), (.ref b23), (.ref b10)])) rfl (hb hby at_56) (n := 0) (by decide) (by decide) (by decide) (by decide)
  obtain ⟨a32, T32, h32, kk32, X32, e32, E32, hS32, hk32, hZ32, ho32, st32⟩ := ldcS (s := s) (vm0 := T31.vm) X31 hx hZ31 ho31 (ww hw 116 rfl) hstr e31 hS31 hk31 (g := (mkF m 58 #[.val (.int x0), .val (.int x1), .val (.int x2), .val (.int (1 : Int32)), .val (.int (0 : Int32)), .val (.ref b8_0), .val (.ref b10), .unset, .unset, .unset] [(.ref a31), (.ref a30), (.ref a29), (.ref b23), (.ref b23), (.ref b10)])) rfl (hb hby at_58) (n := 4) (by decide) (by decide) (by decide) (by decide)
  have f33 := ((((A23.ext E29).ext E30).ext E31).ext E32)
  have f34 := ((((f24.ext E29).ext E30).ext E31).ext E32)
  have o36 := Old.keep o18 K19 (allS g16 all0)
  have zz35 : n0 ≤ T19.heap.size := by rw [← o36.1]; exact o36.2.1
  have g37 := Nat.le_trans zz35 (Nat.le_of_eq g23.symm)
  have f38 := ((((f25.ext E29).ext E30).ext E31).ext E32)
  have f39 := ((((f26.ext E29).ext E30).ext E31).ext E32)
  have f40 := ((((f27.ext E29).ext E30).ext E31).ext E32)
  have o41 := Old.ext o36 E23
  have o42 := Old.ext o41 E29
  have o43 := Old.ext o42 E30
  have o44 := Old.ext o43 E31
  have o45 := Old.ext o44 E32
  obtain ⟨_, _, ⟨T46, L46, k46, n46⟩, -, X46, ⟨Lc46, hQ46, l46, y46, z46⟩, st46⟩ := X32.specialBack hx (y := (⟨cs10, "<init>", cs11⟩ : MethodName)) rfl ho32 (mvT hZ32 (ww hw 117 rfl)) (mvT hZ32 (ww hw 118 rfl)) (mvT hZ32 (ww hw 119 rfl)) (by decide) (backOf (W := 2) (rm15_1 l Z a0 hw [] b23 a29 a30 a31 a32 h32 n0 o45 f33 f34 g37 f38 f39 f40) hZ32 (ww hw 119 rfl) (ww hw 105 rfl) (by decide) (by decide)) (g := (mkF m 60 #[.val (.int x0), .val (.int x1), .val (.int x2), .val (.int (1 : Int32)), .val (.int (0 : Int32)), .val (.ref b8_0), .val (.ref b10), .unset, .unset, .unset] [(.ref a32), (.ref a31), (.ref a30), (.ref a29), (.ref b23), (.ref b23), (.ref b10)])) rfl (by rw [hml]; rfl) (Steps.refl _) (a := b23) (argsL := [(.ref a29), (.ref a30), (.ref a31), (.ref a32)]) (rest := [(.ref b23), (.ref b10)]) (lenOf pd__Ljava_lang_String_Ljava_lang_String_Ljava_lang_String_Ljava_lang_String__V rfl) rfl (by show 2 * 0 + _ ≤ _; exact Nat.le_of_eq rfl) (hb hby at_60) (fun _ _ => ⟨rfl, e32, (by decide : 11 + 0 ≤ _), (by decide : 64 + 0 ≤ _)⟩)
  dsimp only [Pt.U, Pt.locs, Pt.cells, Pt.slots] at X46 l46 y46 z46 st46 hQ46
  subst l46 y46 z46
  obtain ⟨rfl, N46q, K46, f47, f48, f49, f50⟩ := hQ46
  have N46 := Fr.app N19 N46q
  have zs51 := K19.1
  have n52 := Nat.ne_of_lt (Nat.lt_of_lt_of_le (Nat.lt_of_lt_of_le A10.lt zs51) (Nat.le_of_eq g23.symm))
  have f53 := ((((((f20.ext E23).ext E29).ext E30).ext E31).ext E32).keep K46 (ninS n52 nin0))
  have f54 := (((((((A10.keep K19).ext E23).ext E29).ext E30).ext E31).ext E32).keep K46)
  have f55 := ((((((f21.ext E23).ext E29).ext E30).ext E31).ext E32).keep K46 (ninS n52 nin0))
  have f56 := ((((((f22.ext E23).ext E29).ext E30).ext E31).ext E32).keep K46 (ninS n52 nin0))
  have zs58 := Nat.le_trans zs51 E23.1
  have zs59 := Nat.le_trans zs58 E29.1
  have zs60 := Nat.le_trans zs59 E30.1
  have zs61 := Nat.le_trans zs60 E31.1
  have zs62 := Nat.le_trans zs61 E32.1
  have zs63 := Nat.le_trans zs62 K46.1
  have f64 := (f33.keep K46)
  have o65 := Old.keep o45 K46 (allS g37 all0)
  obtain ⟨cqq67, kqq67, qq67a, qq67b, qq67c⟩ := isOf hZ32 rfl f54
  obtain ⟨_, _, ⟨T66, L66, k66, n66⟩, -, X66, ⟨Lc66, hQ66, l66, y66, z66⟩, st66⟩ := X46.virtualBack hx (y := (⟨"java/util/ArrayList", "add", "(Ljava/lang/Object;)Z"⟩ : MethodName)) (z := (⟨"java/util/ArrayList", "add", "(Ljava/lang/Object;)Z"⟩ : MethodName)) ho32 (mvT hZ32 (ww hw 129 rfl)) (mvT hZ32 (ww hw 130 rfl)) (notFace_of_selects (args := #[]) (mvT hZ32 (ww hw 132 rfl))) (mvT hZ32 (ww hw 132 rfl)) (mvT hZ32 (ww hw 131 rfl)) (by decide) (backOf (W := 0) (rm16_1 l Z a0 hw [] b10 b23 r5 c6 T46.heap n0 o65 f53 f54 g16 f55 f56 f57 f17 (Nat.lt_of_lt_of_le A10.lt zs63) f64) hZ32 (ww hw 133 rfl) (ww hw 9 rfl) (by decide) (by decide)) qq67a qq67c (g := (mkF m 63 #[.val (.int x0), .val (.int x1), .val (.int x2), .val (.int (1 : Int32)), .val (.int (0 : Int32)), .val (.ref b8_0), .val (.ref b10), .unset, .unset, .unset] [(.ref b23), (.ref b10)])) rfl (by rw [hml]; rfl) (Steps.refl _) (argsL := [(.ref b23)]) (rest := []) (lenOf pd__Ljava_lang_Object__Z rfl) rfl (by show 2 * 0 + _ ≤ _; exact Nat.le_of_eq rfl) (hb hby at_63) (fun _ _ => ⟨rfl, rfl, (by decide : 11 + 1 ≤ _), (by decide : 64 + 10 ≤ _)⟩)
  dsimp only [Pt.U, Pt.locs, Pt.cells, Pt.slots] at X66 l66 y66 z66 st66 hQ66
  subst l66 y66 z66
  obtain ⟨b66_0, k66_0, rfl, N66q, K66, f68, f69, f70, f71, f72, f73, f74⟩ := hQ66
  have N66 := Fr.app N46 N66q
  obtain ⟨T75, h75, X75, e75, E75, A75, D75, -, st75⟩ := newO X66 hx hZ32 ho32 (ww hw 33 rfl) (ww hw 34 rfl) (ww hw 35 rfl) rfl (g := (mkF m 118 #[.val (.int x0), .val (.int x1), .val (.int x2), .val (.int (1 : Int32)), .val (.int (0 : Int32)), .val (.ref b8_0), .val (.ref b10), .unset, .unset, .unset] [])) rfl (hb hby at_118) (by decide) (by decide)
  obtain ⟨b75, g75⟩ : ∃ z, z = T66.heap.size := ⟨_, rfl⟩
  rw [← g75] at A75 D75 st75
  have f76 : Fld Z h75 b75 cs5 "value" "Ljava/lang/Object;" .null := D75 (Or.inr (ww hw 41 rfl)) (ty := (.object "java/lang/Object")) (by decide)
  have f77 : Fld Z h75 b75 cs5 "errors" "Ljava/util/List;" .null := D75 (Or.inr (ww hw 72 rfl)) (ty := (.object "java/util/List")) (by decide)
  have o79 := Old.keep o65 K66 (allS g16 all0)
  have zz78 : n0 ≤ T66.heap.size := by rw [← o79.1]; exact o79.2.1
  have g80 := Nat.le_trans zz78 (Nat.le_of_eq g75.symm)
  have f81 := ((f54.keep K66).ext E75)
  have f82 := (f69.ext E75)
  have zs83 := Nat.le_trans zs63 K66.1
  have n84 := Nat.ne_of_lt (Nat.lt_of_lt_of_le (Nat.lt_of_lt_of_le A10.lt zs83) (Nat.le_of_eq g75.symm))
  have f85 := (f68.ext E75)
  have f86 := (f73.ext E75)
  have f88 := (f72.ext E75)
  have n89 := Nat.ne_of_lt (Nat.lt_of_lt_of_le f72.lt (Nat.le_of_eq g75.symm))
  have f90 := ((f64.keep K66).ext E75)
  have o92 := Old.ext o79 E75
  obtain ⟨_, _, ⟨T93, L93, k93, n93⟩, -, X93, ⟨Lc93, hQ93, l93, y93, z93⟩, st93⟩ := X75.specialBack hx (y := (⟨cs5, "<init>", cs6⟩ : MethodName)) rfl ho32 (mvT hZ32 (ww hw 36 rfl)) (mvT hZ32 (ww hw 37 rfl)) (mvT hZ32 (ww hw 38 rfl)) (by decide) (backOf (W := 1) (rm6_4 l Z a0 hw [] b75 b8_0 b10 b66_0 r7 k66_0 b23 r8 h75 n0 o92 A75 f76 g80 f81 f82 n84 f85 f86 f87 f88 n89 f90 f91 f77 A75.lt) hZ32 (ww hw 38 rfl) (ww hw 35 rfl) (by decide) (by decide)) (g := (mkF m 126 #[.val (.int x0), .val (.int x1), .val (.int x2), .val (.int (1 : Int32)), .val (.int (0 : Int32)), .val (.ref b8_0), .val (.ref b10), .unset, .unset, .unset] [(.ref b10), (.ref b8_0), (.ref b75), (.ref b75)])) rfl (by rw [hml]; rfl) (Steps.refl _) (a := b75) (argsL := [(.ref b8_0), (.ref b10)]) (rest := [(.ref b75)]) (lenOf pd__Ljava_lang_Object_Ljava_util_List__V rfl) rfl (by show 2 * 0 + _ ≤ _; exact Nat.le_of_eq rfl) (hb hby at_126) (fun _ _ => ⟨rfl, e75, (by decide : 13 + 2 ≤ _), (by decide : 76 + 3 ≤ _)⟩)
  dsimp only [Pt.U, Pt.locs, Pt.cells, Pt.slots] at X93 l93 y93 z93 st93 hQ93
  subst l93 y93 z93
  obtain ⟨b93_0, rfl, N93q, K93, f94, f95, f96, f97, f98, f99⟩ := hQ93
  have N93 := Fr.app N66 N93q
  have o100 := Old.keep o92 K93 (allS g80 all0)
  have f102 := (A75.keep K93)
  obtain ⟨cqq103, kqq103, qq103a, qq103b, qq103c⟩ := isOf hZ32 rfl f102
  obtain ⟨_, _, ⟨T101, L101, k101, n101⟩, -, X101, ⟨Lc101, hQ101, l101, y101, z101⟩, st101⟩ := X93.virtualBack hx (y := (⟨cs5, "hasErrors", "()Z"⟩ : MethodName)) (z := (⟨cs5, "hasErrors", "()Z"⟩ : MethodName)) ho32 (mvT hZ32 (ww hw 73 rfl)) (mvT hZ32 (ww hw 74 rfl)) (notFace_of_selects (args := #[]) (mvT hZ32 (ww hw 76 rfl))) (mvT hZ32 (ww hw 76 rfl)) (mvT hZ32 (ww hw 75 rfl)) (by decide) (backOf (W := 0) (rm11_2 l Z a0 hw [] b75 b93_0 T93.heap n0 o100 f95 f97) hZ32 (ww hw 77 rfl) (ww hw 35 rfl) (by decide) (by decide)) qq103a qq103c (g := (mkF m 133 #[.val (.int x0), .val (.int x1), .val (.int x2), .val (.int (1 : Int32)), .val (.int (0 : Int32)), .val (.ref b8_0), .val (.ref b10), .val (.ref b75), .unset, .unset] [(.ref b75)])) rfl (by rw [hml]; rfl) (Steps.refl _) (argsL := []) (rest := []) (lenOf pd___Z rfl) rfl (by show 2 * 0 + _ ≤ _; exact Nat.le_of_eq rfl) (hb hby at_133) (fun _ _ => ⟨rfl, rfl, (by decide : 15 + 0 ≤ _), (by decide : 79 + 0 ≤ _)⟩)
  dsimp only [Pt.U, Pt.locs, Pt.cells, Pt.slots] at X101 l101 y101 z101 st101 hQ101
  subst l101 y101 z101
  obtain ⟨rfl, N101q, E101⟩ := hQ101
  have N101 := Fr.app N93 N101q
  obtain ⟨cqq105, kqq105, qq105a, qq105b, qq105c⟩ := isOf hZ32 E101 f102
  obtain ⟨_, _, ⟨T104, L104, k104, n104⟩, -, X104, ⟨Lc104, hQ104, l104, y104, z104⟩, st104⟩ := X101.virtualBack hx (y := (⟨cs5, "errors", "()Ljava/util/List;"⟩ : MethodName)) (z := (⟨cs5, "errors", "()Ljava/util/List;"⟩ : MethodName)) ho32 (mvT hZ32 (ww hw 90 rfl)) (mvT hZ32 (ww hw 91 rfl)) (notFace_of_selects (args := #[]) (mvT hZ32 (ww hw 93 rfl))) (mvT hZ32 (ww hw 93 rfl)) (mvT hZ32 (ww hw 92 rfl)) (by decide) (backOf (W := 0) (rm13_1 l Z a0 hw [] b75 b93_0 T93.heap n0 o100 f95) hZ32 (ww hw 94 rfl) (ww hw 35 rfl) (by decide) (by decide)) qq105a qq105c (g := (mkF m 140 #[.val (.int x0), .val (.int x1), .val (.int x2), .val (.int (1 : Int32)), .val (.int (0 : Int32)), .val (.ref b8_0), .val (.ref b10), .val (.ref b75), .val (.int (1 : Int32)), .unset] [(.ref b75)])) rfl (by rw [hml]; rfl) (Steps.refl _) (argsL := []) (rest := []) (lenOf pd___Ljava_util_List_ rfl) rfl (by show 2 * 0 + _ ≤ _; exact Nat.le_of_eq rfl) (hb hby at_140) (fun _ _ => ⟨rfl, E101, (by decide : 15 + 0 ≤ _), (by decide : 79 + 0 ≤ _)⟩)
  dsimp only [Pt.U, Pt.locs, Pt.cells, Pt.slots] at X104 l104 y104 z104 st104 hQ104
  subst l104 y104 z104
  obtain ⟨rfl, N104q, E104⟩ := hQ104
  have N104 := Fr.app N101 N104q
  obtain ⟨cqq107, kqq107, qq107a, qq107b, qq107c⟩ := isOf hZ32 E104 f97
  obtain ⟨_, _, ⟨T106, L106, k106, n106⟩, -, X106, ⟨Lc106, hQ106, l106, y106, z106⟩, st106⟩ := X104.interfaceBack hx (xi := (⟨"java/util/List", "size", "()I"⟩ : MethodName)) (y := (⟨cs18, "size", "()I"⟩ : MethodName)) ho32 (mvT hZ32 (ww hw 95 rfl)) (mvT hZ32 (ww hw 96 rfl)) (mvT hZ32 (ww hw 97 rfl)) (mvT hZ32 (ww hw 227 rfl)) (mvT hZ32 (ww hw 228 rfl)) (mvT hZ32 (ww hw 229 rfl)) (mvT hZ32 (ww hw 230 rfl)) (mvT hZ32 (ww hw 225 rfl)) (by decide) (backOf (W := 0) (rm31_1 l Z a0 hw [] b93_0 r8 T93.heap n0 o100 f99 f91) hZ32 (ww hw 231 rfl) (ww hw 193 rfl) (by decide) (by decide)) qq107a qq107b qq107c (g := (mkF m 143 #[.val (.int x0), .val (.int x1), .val (.int x2), .val (.int (1 : Int32)), .val (.int (0 : Int32)), .val (.ref b8_0), .val (.ref b10), .val (.ref b75), .val (.int (1 : Int32)), .unset] [(.ref b93_0)])) rfl (by rw [hml]; rfl) (Steps.refl _) (argsL := []) (rest := []) (lenOf pd___I rfl) rfl (by show 2 * 0 + _ ≤ _; exact Nat.le_of_eq rfl) (hb hby at_143) (fun _ _ => ⟨rfl, E104, (by decide : 15 + 0 ≤ _), (by decide : 79 + 0 ≤ _)⟩)
  dsimp only [Pt.U, Pt.locs, Pt.cells, Pt.slots] at X106 l106 y106 z106 st106 hQ106
  subst l106 y106 z106
  obtain ⟨rfl, N106q, E106⟩ := hQ106
  have N106 := Fr.app N104 N106q
  have zs108 := K46.1
  have zs109 := Nat.le_trans zs108 K66.1
  have zs110 := Nat.le_trans zs109 E75.1
  have zs111 := Nat.le_trans zs110 K93.1
  obtain ⟨fs, hr, hrun, hended, hend⟩ := leaveW (s := s) (vm₁ := T32.vm) X106 hS32 (by rw [E106]; exact (Nat.le_trans hk32 zs111)) (v := some (.int (1 : Int32))) (fun h => by rw [Bd.returns] at h; cases h)
  refine ⟨_, _, pre0 _ ?_, hrun, hended, _, _, rfl, ?_, hend.1, hend.2.1, hend.2.2.1, hend.2.2.2.mono (by decide) (by decide)⟩
  · show Steps p.tables e below (s₁.setTop (mkF m 0 #[.val (.int x0), .val (.int x1), .val (.int x2), .unset, .unset, .unset, .unset, .unset, .unset, .unset] [])) _
    refine XS.iloadN X0.here hx rfl (hb hby at_0) rfl ?_
    refine XS.iconst X0.here hx rfl (hb hby at_1) ?_
    refine XS.iand X0.here hx rfl (hb hby at_2) rfl ?_
    show Steps p.tables e below (s₁.setTop (mkF m 3 #[.val (.int x0), .val (.int x1), .val (.int x2), .unset, .unset, .unset, .unset, .unset, .unset, .unset] [(.int (x0 &&& (3 : Int32)))])) _
    rw [hc1]
    show Steps p.tables e below (s₁.setTop (mkF m 3 #[.val (.int x0), .val (.int x1), .val (.int x2), .unset, .unset, .unset, .unset, .unset, .unset, .unset] [(.int (1 : Int32))])) _
    refine XS.istoreN X0.here hx rfl (hb hby at_3) rfl (l' := #[.val (.int x0), .val (.int x1), .val (.int x2), .val (.int (1 : Int32)), .unset, .unset, .unset, .unset, .unset, .unset]) rfl ?_
    refine XS.iloadN X0.here hx rfl (hb hby at_4) rfl ?_
    refine XS.iconst X0.here hx rfl (hb hby at_5) ?_
    refine XS.iand X0.here hx rfl (hb hby at_6) rfl ?_
    show Steps p.tables e below (s₁.setTop (mkF m 7 #[.val (.int x0), .val (.int x1), .val (.int x2), .val (.int (1 : Int32)), .unset, .unset, .unset, .unset, .unset, .unset] [(.int (x2 &&& (1 : Int32)))])) _
    refine XS.ifYes X0.here hx rfl (pc0 := 7) (pc' := 14) rfl (hb hby at_7) rfl ((if0 _ _).trans (teq hc2).1) (by decide) (by decide) ?_
    show Steps p.tables e below (s₁.setTop (mkF m 14 #[.val (.int x0), .val (.int x1), .val (.int x2), .val (.int (1 : Int32)), .unset, .unset, .unset, .unset, .unset, .unset] [])) _
    refine XS.iconst X0.here hx rfl (hb hby at_14) ?_
    refine XS.istore X0.here hx rfl (hb hby at_15) rfl (l' := #[.val (.int x0), .val (.int x1), .val (.int x2), .val (.int (1 : Int32)), .val (.int (0 : Int32)), .unset, .unset, .unset, .unset, .unset]) rfl ?_
    refine XS.iload X0.here hx rfl (hb hby at_17) rfl ?_
    refine XS.ifYes X0.here hx rfl (pc0 := 19) (pc' := 26) rfl (hb hby at_19) rfl ((if0 _ _).trans (teq (rfl : (0 : Int32) = (0 : Int32))).1) (by decide) (by decide) ?_
    show Steps p.tables e below (s₁.setTop (mkF m 26 #[.val (.int x0), .val (.int x1), .val (.int x2), .val (.int (1 : Int32)), .val (.int (0 : Int32)), .unset, .unset, .unset, .unset, .unset] [])) _
    refine XS.iloadN X0.here hx rfl (hb hby at_26) rfl ?_
    refine st8 _ ?_
    show Steps p.tables e below (T8.setTop (mkF m 30 #[.val (.int x0), .val (.int x1), .val (.int x2), .val (.int (1 : Int32)), .val (.int (0 : Int32)), .unset, .unset, .unset, .unset, .unset] [(.ref b8_0)])) _
    refine XS.astore X8.here hx rfl (hb hby at_30) rfl rfl (l' := #[.val (.int x0), .val (.int x1), .val (.int x2), .val (.int (1 : Int32)), .val (.int (0 : Int32)), .val (.ref b8_0), .unset, .unset, .unset, .unset]) rfl ?_
    refine st10 _ ?_
    show Steps p.tables e below (T10.setTop (mkF m 35 #[.val (.int x0), .val (.int x1), .val (.int x2), .val (.int (1 : Int32)), .val (.int (0 : Int32)), .val (.ref b8_0), .unset, .unset, .unset, .unset] [(.ref b10)])) _
    refine XS.dup X10.here hx rfl (hb hby at_35) rfl rfl ?_
    refine st19.trans ?_
    show Steps p.tables e below (T19.setTop (mkF m 39 #[.val (.int x0), .val (.int x1), .val (.int x2), .val (.int (1 : Int32)), .val (.int (0 : Int32)), .val (.ref b8_0), .unset, .unset, .unset, .unset] [(.ref b10)])) _
    refine XS.astore X19.here hx rfl (hb hby at_39) rfl rfl (l' := #[.val (.int x0), .val (.int x1), .val (.int x2), .val (.int (1 : Int32)), .val (.int (0 : Int32)), .val (.ref b8_0), .val (.ref b10), .unset, .unset, .unset]) rfl ?_
    refine XS.iloadN X19.here hx rfl (hb hby at_41) rfl ?_
    refine XS.iconst X19.here hx rfl (hb hby at_42) ?_
    refine XS.icmpNo X19.here hx rfl (hb hby at_43) rfl (flt (by decide : ¬ ((1 : Int32) < (1 : Int32)))).1 ?_
    show Steps p.tables e below (T19.setTop (mkF m 46 #[.val (.int x0), .val (.int x1), .val (.int x2), .val (.int (1 : Int32)), .val (.int (0 : Int32)), .val (.ref b8_0), .val (.ref b10), .unset, .unset, .unset] [])) _
    refine XS.aload X19.here hx rfl (hb hby at_46) rfl rfl ?_
    refine st23 _ ?_
    show Steps p.tables e below (T23.setTop (mkF m 51 #[.val (.int x0), .val (.int x1), .val (.int x2), .val (.int (1 : Int32)), .val (.int (0 : Int32)), .val (.ref b8_0), .val (.ref b10), .unset, .unset, .unset] [(.ref b23), (.ref b10)])) _
    refine XS.dup X23.here hx rfl (hb hby at_51) rfl rfl ?_
    refine st29 _ ?_
    show Steps p.tables e below (T29.setTop (mkF m 54 #[.val (.int x0), .val (.int x1), .val (.int x2), .val (.int (1 : Int32)), .val (.int (0 : Int32)), .val (.ref b8_0), .val (.ref b10), .unset, .unset, .unset] [(.ref a29), (.ref b23), (.ref b23), (.ref b10)])) _
    refine st30 _ ?_
    show Steps p.tables e below (T30.setTop (mkF m 56 #[.val (.int x0), .val (.int x1), .val (.int x2), .val (.int (1 : Int32)), .val (.int (0 : Int32)), .val (.ref b8_0), .val (.ref b10), .unset, .unset, .unset] [(.ref a30), (.ref a29), (.ref b23), (.ref b23), (.ref b10)])) _
    refine st31 _ ?_
    show Steps p.tables e below (T31.setTop (mkF m 58 #[.val (.int x0), .val (.int x1), .val (.int x2), .val (.int (1 : Int32)), .val (.int (0 : Int32)), .val (.ref b8_0), .val (.ref b10), .unset, .unset, .unset] [(.ref a31), (.ref a30), (.ref a29), (.ref b23), (.ref b23), (.ref b10)])) _
    refine st32 _ ?_
    show Steps p.tables e below (T32.setTop (mkF m 60 #[.val (.int x0), .val (.int x1), .val (.int x2), .val (.int (1 : Int32)), .val (.int (0 : Int32)), .val (.ref b8_0), .val (.ref b10), .unset, .unset, .unset] [(.ref a32), (.ref a31), (.ref a30), (.ref a29), (.ref b23), (.ref b23), (.ref b10)])) _
    refine st46.trans ?_
    show Steps p.tables e below (T46.setTop (mkF m 63 #[.val (.int x0), .val (.int x1), .val (.int x2), .val (.int (1 : Int32)), .val (.int (0 : Int32)), .val (.ref b8_0), .val (.ref b10), .unset, .unset, .unset] [(.ref b23), (.ref b10)])) _
    refine st66.trans ?_
    show Steps p.tables e below (T66.setTop (mkF m 66 #[.val (.int x0), .val (.int x1), .val (.int x2), .val (.int (1 : Int32)), .val (.int (0 : Int32)), .val (.ref b8_0), .val (.ref b10), .unset, .unset, .unset] [(.int (1 : Int32))])) _
    refine XS.pop X66.here hx rfl (hb hby at_66) rfl rfl ?_
    refine XS.iloadN X66.here hx rfl (hb hby at_67) rfl ?_
    refine XS.iconst X66.here hx rfl (hb hby at_68) ?_
    refine XS.icmpYes X66.here hx rfl (pc0 := 69) (pc' := 92) rfl (hb hby at_69) rfl (tlt (by decide : (1 : Int32) < (2 : Int32))).1 (by decide) (by decide) ?_
    show Steps p.tables e below (T66.setTop (mkF m 92 #[.val (.int x0), .val (.int x1), .val (.int x2), .val (.int (1 : Int32)), .val (.int (0 : Int32)), .val (.ref b8_0), .val (.ref b10), .unset, .unset, .unset] [])) _
    refine XS.iloadN X66.here hx rfl (hb hby at_92) rfl ?_
    refine XS.iconst X66.here hx rfl (hb hby at_93) ?_
    refine XS.icmpYes X66.here hx rfl (pc0 := 94) (pc' := 118) rfl (hb hby at_94) rfl (tlt (by decide : (1 : Int32) < (3 : Int32))).1 (by decide) (by decide) ?_
    show Steps p.tables e below (T66.setTop (mkF m 118 #[.val (.int x0), .val (.int x1), .val (.int x2), .val (.int (1 : Int32)), .val (.int (0 : Int32)), .val (.ref b8_0), .val (.ref b10), .unset, .unset, .unset] [])) _
    refine st75 _ ?_
    show Steps p.tables e below (T75.setTop (mkF m 121 #[.val (.int x0), .val (.int x1), .val (.int x2), .val (.int (1 : Int32)), .val (.int (0 : Int32)), .val (.ref b8_0), .val (.ref b10), .unset, .unset, .unset] [(.ref b75)])) _
    refine XS.dup X75.here hx rfl (hb hby at_121) rfl rfl ?_
    refine XS.aload X75.here hx rfl (hb hby at_122) rfl rfl ?_
    refine XS.aload X75.here hx rfl (hb hby at_124) rfl rfl ?_
    refine st93.trans ?_
    show Steps p.tables e below (T93.setTop (mkF m 129 #[.val (.int x0), .val (.int x1), .val (.int x2), .val (.int (1 : Int32)), .val (.int (0 : Int32)), .val (.ref b8_0), .val (.ref b10), .unset, .unset, .unset] [(.ref b75)])) _
    refine XS.astore X93.here hx rfl (hb hby at_129) rfl rfl (l' := #[.val (.int x0), .val (.int x1), .val (.int x2), .val (.int (1 : Int32)), .val (.int (0 : Int32)), .val (.ref b8_0), .val (.ref b10), .val (.ref b75), .unset, .unset]) rfl ?_
    refine XS.aload X93.here hx rfl (hb hby at_131) rfl rfl ?_
    refine st101.trans ?_
    show Steps p.tables e below (T101.setTop (mkF m 136 #[.val (.int x0), .val (.int x1), .val (.int x2), .val (.int (1 : Int32)), .val (.int (0 : Int32)), .val (.ref b8_0), .val (.ref b10), .val (.ref b75), .unset, .unset] [(.int (1 : Int32))])) _
    refine XS.istore X101.here hx rfl (hb hby at_136) rfl (l' := #[.val (.int x0), .val (.int x1), .val (.int x2), .val (.int (1 : Int32)), .val (.int (0 : Int32)), .val (.ref b8_0), .val (.ref b10), .val (.ref b75), .val (.int (1 : Int32)), .unset]) rfl ?_
    refine XS.aload X101.here hx rfl (hb hby at_138) rfl rfl ?_
    refine st104.trans ?_
    show Steps p.tables e below (T104.setTop (mkF m 143 #[.val (.int x0), .val (.int x1), .val (.int x2), .val (.int (1 : Int32)), .val (.int (0 : Int32)), .val (.ref b8_0), .val (.ref b10), .val (.ref b75), .val (.int (1 : Int32)), .unset] [(.ref b93_0)])) _
    refine st106.trans ?_
    show Steps p.tables e below (T106.setTop (mkF m 148 #[.val (.int x0), .val (.int x1), .val (.int x2), .val (.int (1 : Int32)), .val (.int (0 : Int32)), .val (.ref b8_0), .val (.ref b10), .val (.ref b75), .val (.int (1 : Int32)), .unset] [(.int (1 : Int32))])) _
    refine XS.istore X106.here hx rfl (hb hby at_148) rfl (l' := #[.val (.int x0), .val (.int x1), .val (.int x2), .val (.int (1 : Int32)), .val (.int (0 : Int32)), .val (.ref b8_0), .val (.ref b10), .val (.ref b75), .val (.int (1 : Int32)), .val (.int (1 : Int32))]) rfl ?_
    refine XS.iload X106.here hx rfl (hb hby at_150) rfl ?_
    refine XS.iloadN X106.here hx rfl (hb hby at_152) rfl ?_
    refine XS.ifNo X106.here hx rfl (hb hby at_153) rfl ((if0 _ _).trans (feq (by decide : ¬ ((1 : Int32) = (0 : Int32)))).1) ?_
    show Steps p.tables e below (T106.setTop (mkF m 156 #[.val (.int x0), .val (.int x1), .val (.int x2), .val (.int (1 : Int32)), .val (.int (0 : Int32)), .val (.ref b8_0), .val (.ref b10), .val (.ref b75), .val (.int (1 : Int32)), .val (.int (1 : Int32))] [(.int (1 : Int32))])) _
    refine XS.iconst X106.here hx rfl (hb hby at_156) ?_
    refine XS.goto X106.here hx rfl (pc0 := 157) (pc' := 161) rfl (hb hby at_157) (by decide) (by decide) ?_
    show Steps p.tables e below (T106.setTop (mkF m 161 #[.val (.int x0), .val (.int x1), .val (.int x2), .val (.int (1 : Int32)), .val (.int (0 : Int32)), .val (.ref b8_0), .val (.ref b10), .val (.ref b75), .val (.int (1 : Int32)), .val (.int (1 : Int32))] [(.int (1 : Int32)), (.int (1 : Int32))])) _
    refine XS.icmpNo X106.here hx rfl (hb hby at_161) rfl (teq (rfl : (1 : Int32) = (1 : Int32))).2 ?_
    refine XS.iload X106.here hx rfl (hb hby at_164) rfl ?_
    refine XS.iloadN X106.here hx rfl (hb hby at_166) rfl ?_
    refine XS.icmpNo X106.here hx rfl (hb hby at_167) rfl (teq (rfl : (1 : Int32) = (1 : Int32))).2 ?_
    show Steps p.tables e below (T106.setTop (mkF m 170 #[.val (.int x0), .val (.int x1), .val (.int x2), .val (.int (1 : Int32)), .val (.int (0 : Int32)), .val (.ref b8_0), .val (.ref b10), .val (.ref b75), .val (.int (1 : Int32)), .val (.int (1 : Int32))] [])) _
    refine XS.iload X106.here hx rfl (hb hby at_170) rfl ?_
    refine XS.iload X106.here hx rfl (hb hby at_172) rfl ?_
    refine XS.ifNo X106.here hx rfl (hb hby at_174) rfl ((if0 _ _).trans (feq (by decide : ¬ ((1 : Int32) = (0 : Int32)))).1) ?_
    refine XS.iconst X106.here hx rfl (hb hby at_177) ?_
    show Steps p.tables e below (T106.setTop (mkF m 178 #[.val (.int x0), .val (.int x1), .val (.int x2), .val (.int (1 : Int32)), .val (.int (0 : Int32)), .val (.ref b8_0), .val (.ref b10), .val (.ref b75), .val (.int (1 : Int32)), .val (.int (1 : Int32))] [(.int (1 : Int32)), (.int (1 : Int32))])) _
    refine XS.goto X106.here hx rfl (pc0 := 178) (pc' := 182) rfl (hb hby at_178) (by decide) (by decide) ?_
    show Steps p.tables e below (T106.setTop (mkF m 182 #[.val (.int x0), .val (.int x1), .val (.int x2), .val (.int (1 : Int32)), .val (.int (0 : Int32)), .val (.ref b8_0), .val (.ref b10), .val (.ref b75), .val (.int (1 : Int32)), .val (.int (1 : Int32))] [(.int (1 : Int32)), (.int (1 : Int32))])) _
    refine XS.icmpNo X106.here hx rfl (hb hby at_182) rfl (teq (rfl : (1 : Int32) = (1 : Int32))).2 ?_
    refine XS.iconst X106.here hx rfl (hb hby at_185) ?_
    refine XS.goto X106.here hx rfl (pc0 := 186) (pc' := 190) rfl (hb hby at_186) (by decide) (by decide) ?_
    show Steps p.tables e below (T106.setTop (mkF m 190 #[.val (.int x0), .val (.int x1), .val (.int x2), .val (.int (1 : Int32)), .val (.int (0 : Int32)), .val (.ref b8_0), .val (.ref b10), .val (.ref b75), .val (.int (1 : Int32)), .val (.int (1 : Int32))] [(.int (1 : Int32))])) _
    exact retN X106 hx (t := .boolean) Bd.returns (by simp) (hb hby at_190) hr
  · show Q0_4 Z x0 x1 x2 r3 d4 r5 c6 r7 r8 h0 n0 _ T106.heap _
    rw [E106]
    exact ⟨rfl, N106⟩
def Q15_2 (Z : State) (r0 : Addr) (r1 : Addr) (r2 : Addr) (r3 : Addr) (h0 : Heap) (n0 : Nat) (v : Option Value) (h : Heap) (L : List Loc) : Prop := v = none ∧ Fr n0 L ∧ Keep h0 h [r0] ∧ Fld Z h r0 cs10 "path" "Ljava/lang/String;" (.ref r1) ∧ Fld Z h r0 cs10 "code" "Ljava/lang/String;" (.ref r2) ∧ Fld Z h r0 cs10 "rejected" "Ljava/lang/String;" .null ∧ Fld Z h r0 cs10 "message" "Ljava/lang/String;" (.ref r3)
set_option maxRecDepth 65536 in
set_option maxHeartbeats 40000000 in
theorem rm15_2 (l : Launch) (Z : State) (a0 : Array Value) (hw : ∀ d ∈ tables_1, d.before a0 Z = true) (ws : List Jvm.Cond) (r0 : Addr) (r1 : Addr) (r2 : Addr) (r3 : Addr) (h0 : Heap) (n0 : Nat) (O0 : Old Z n0 h0) (f2 : Exa Z h0 r0 cs10) (f3 : Fld Z h0 r0 cs10 "path" "Ljava/lang/String;" .null) (g4 : n0 ≤ r0) (f7 : Fld Z h0 r0 cs10 "code" "Ljava/lang/String;" .null) (f11 : Fld Z h0 r0 cs10 "rejected" "Ljava/lang/String;" .null) (f15 : Fld Z h0 r0 cs10 "message" "Ljava/lang/String;" .null) :
    MetFree l (⟨cs10, "<init>", cs11⟩ : MethodName) (head1 (Jvm.Cond.code (⟨cs10, "<init>", cs11⟩ : MethodName) prog_7_method_1_code 5 none :: ws) ({ frames := 1, cells := 0, slots := 0, locals := 12 } : Room)) (fun a U => a = #[(.ref r0), (.ref r1), (.ref r2), .null, (.ref r3)] ∧ Z.Warmed39 U.vm ∧ U.heap = h0) (fun _ _ _ _ _ => True) (fun _ U o U' => ∃ v L, o = .returned v ∧ Q15_2 Z r0 r1 r2 r3 h0 n0 v U'.heap L ∧ FrameEnd U o U' L ({ frames := 1, cells := 0, slots := 0, locals := 12 } : Room).cells ({ frames := 1, cells := 0, slots := 0, locals := 12 } : Room).slots) := by
  refine MetFree.of_bodySF (plainFor_of_name pn_com_example_weaverbird_weaverbird_bind_FieldError) hisR ?_
  intro p e s m args below meth c s₁ Bd hml0 hP hK
  obtain ⟨rfl, hZ, hh⟩ := hP
  have hx := Bd.exec
  have hby := Bd.bytes
  have hml : c.maxLocals = 5 := hml0
  have hown : s.vm.findClass cs10 = some m.cls := findClass_of_methodNamed Bd.named
  have hnm := (name_of_methodNamed Bd.named Bd.method).1
  have X0 : Stand p l e ({ frames := 1, cells := 0, slots := 0, locals := 12 } : Room) s m #[(.ref r0), (.ref r1), (.ref r2), .null, (.ref r3)] below meth c s₁ [] 0 0 := Stand.of_body Bd
  have e0 : s₁.heap = h0 := by rw [← hh, Bd.state]; rfl
  have N0 := Fr.nil n0
  have pre0 : ∀ t, Steps p.tables e below (s₁.setTop (mkF m 0 #[.val (.ref r0), .val (.ref r1), .val (.ref r2), .val .null, .val (.ref r3)] [])) t → Steps p.tables e below (s₁.setTop (entryFrame m #[(.ref r0), (.ref r1), (.ref r2), .null, (.ref r3)] 5)) t := fun t k => castTop (by first | (simp [entryFrame, mkF, argsToLocals, Value.category]; done) | rfl) k
  obtain ⟨T1, X1, e1, st1⟩ := initO X0 hx hZ hown (ww hw 120 rfl) (ww hw 26 rfl) (ww hw 27 rfl) e0 (g := (mkF m 1 #[.val (.ref r0), .val (.ref r1), .val (.ref r2), .val .null, .val (.ref r3)] [(.ref r0)])) rfl (by rw [hml]; rfl) rfl (hb hby d15_1) (by decide) (W := 0) (by show 2 * 0 + _ ≤ _; exact Nat.le_of_eq rfl) (by decide)
  obtain ⟨T5, h5, X5, e5, W5, st5⟩ := putF X1 hx hZ hown (host := "") (Or.inl (ww hw 121 rfl)) Via.refl e1 f3 f2 (Or.inr ⟨(ww hw 122 rfl), rfl, hnm⟩) (ww hw 104 rfl) (ty := (.object "java/lang/String")) (by decide) rfl rfl (g := (mkF m 6 #[.val (.ref r0), .val (.ref r1), .val (.ref r2), .val .null, .val (.ref r3)] [(.ref r1), (.ref r0)])) rfl rfl (hb hby d15_6)
  have Fw5 := f3.same W5
  have N5 := Fr.snoc X5 N0 g4
  have f6 := (f2.wr W5)
  have f8 := (f7.other W5 (Or.inr (slot_ne (Or.inr (ww hw 124 rfl)) (Or.inr (ww hw 122 rfl)) (by decide) (t := (.object "java/lang/String")) (t' := (.object "java/lang/String")) (by decide) (by decide))))
  obtain ⟨T9, h9, X9, e9, W9, st9⟩ := putF X5 hx hZ hown (host := "") (Or.inl (ww hw 123 rfl)) Via.refl e5 f8 f6 (Or.inr ⟨(ww hw 124 rfl), rfl, hnm⟩) (ww hw 104 rfl) (ty := (.object "java/lang/String")) (by decide) rfl rfl (g := (mkF m 11 #[.val (.ref r0), .val (.ref r1), .val (.ref r2), .val .null, .val (.ref r3)] [(.ref r2), (.ref r0)])) rfl rfl (hb hby d15_11)
  have Fw9 := f8.same W9
  have N9 := Fr.snoc X9 N5 g4
  have f10 := (f6.wr W9)
  have f12 := ((f11.other W5 (Or.inr (slot_ne (Or.inr (ww hw 126 rfl)) (Or.inr (ww hw 122 rfl)) (by decide) (t := (.object "java/lang/String")) (t' := (.object "java/lang/String")) (by decide) (by decide)))).other W9 (Or.inr (slot_ne (Or.inr (ww hw 126 rfl)) (Or.inr (ww hw 124 rfl)) (by decide) (t := (.object "java/lang/String")) (t' := (.object "java/lang/String")) (by decide) (by decide))))
  obtain ⟨T13, h13, X13, e13, W13, st13⟩ := putF X9 hx hZ hown (host := "") (Or.inl (ww hw 125 rfl)) Via.refl e9 f12 f10 (Or.inr ⟨(ww hw 126 rfl), rfl, hnm⟩) (ww hw 104 rfl) (ty := (.object "java/lang/String")) (by decide) rfl rfl (g := (mkF m 16 #[.val (.ref r0), .val (.ref r1), .val (.ref r2), .val .null, .val (.ref r3)] [.null, (.ref r0)])) rfl rfl (hb hby d15_16)
  have Fw13 := f12.same W13
  have N13 := Fr.snoc X13 N9 g4
  have f14 := (f10.wr W13)
  have f16 := (((f15.other W5 (Or.inr (slot_ne (Or.inr (ww hw 128 rfl)) (Or.inr (ww hw 122 rfl)) (by decide) (t := (.object "java/lang/String")) (t' := (.object "java/lang/String")) (by decide) (by decide)))).other W9 (Or.inr (slot_ne (Or.inr (ww hw 128 rfl)) (Or.inr (ww hw 124 rfl)) (by decide) (t := (.object "java/lang/String")) (t' := (.object "java/lang/String")) (by decide) (by decide)))).other W13 (Or.inr (slot_ne (Or.inr (ww hw 128 rfl)) (Or.inr (ww hw 126 rfl)) (by decide) (t := (.object "java/lang/String")) (t' := (.object "java/lang/String")) (by decide) (by decide))))
  obtain ⟨T17, h17, X17, e17, W17, st17⟩ := putF X13 hx hZ hown (host := "") (Or.inl (ww hw 127 rfl)) Via.refl e13 f16 f14 (Or.inr ⟨(ww hw 128 rfl), rfl, hnm⟩) (ww hw 104 rfl) (ty := (.object "java/lang/String")) (by decide) rfl rfl (g := (mkF m 22 #[.val (.ref r0), .val (.ref r1), .val (.ref r2), .val .null, .val (.ref r3)] [(.ref r3), (.ref r0)])) rfl rfl (hb hby d15_22)
  have Fw17 := f16.same W17
  have N17 := Fr.snoc X17 N13 g4
  have f18 := (((Fw5.other W9 (Or.inr (slot_ne (Or.inr (ww hw 122 rfl)) (Or.inr (ww hw 124 rfl)) (by decide) (t := (.object "java/lang/String")) (t' := (.object "java/lang/String")) (by decide) (by decide)))).other W13 (Or.inr (slot_ne (Or.inr (ww hw 122 rfl)) (Or.inr (ww hw 126 rfl)) (by decide) (t := (.object "java/lang/String")) (t' := (.object "java/lang/String")) (by decide) (by decide)))).other W17 (Or.inr (slot_ne (Or.inr (ww hw 122 rfl)) (Or.inr (ww hw 128 rfl)) (by decide) (t := (.object "java/lang/String")) (t' := (.object "java/lang/String")) (by decide) (by decide))))
  have f19 := ((Fw9.other W13 (Or.inr (slot_ne (Or.inr (ww hw 124 rfl)) (Or.inr (ww hw 126 rfl)) (by decide) (t := (.object "java/lang/String")) (t' := (.object "java/lang/String")) (by decide) (by decide)))).other W17 (Or.inr (slot_ne (Or.inr (ww hw 124 rfl)) (Or.inr (ww hw 128 rfl)) (by decide) (t := (.object "java/lang/String")) (t' := (.object "java/lang/String")) (by decide) (by decide))))
  have f20 := (Fw13.other W17 (Or.inr (slot_ne (Or.inr (ww hw 126 rfl)) (Or.inr (ww hw 128 rfl)) (by decide) (t := (.object "java/lang/String")) (t' := (.object "java/lang/String")) (by decide) (by decide))))
  have kp21 : Keep h0 h5 [r0] := (Keep.refl h0 [r0]).wr W5 (Or.inl (List.mem_of_getElem? (i := 0) rfl))
  have kp22 : Keep h0 h9 [r0] := kp21.wr W9 (Or.inl (List.mem_of_getElem? (i := 0) rfl))
  have kp23 : Keep h0 h13 [r0] := kp22.wr W13 (Or.inl (List.mem_of_getElem? (i := 0) rfl))
  have kp24 : Keep h0 h17 [r0] := kp23.wr W17 (Or.inl (List.mem_of_getElem? (i := 0) rfl))
  obtain ⟨fs, hr, hrun, hended, hW, hsame⟩ := X17.leave (v := none) (fun _ => rfl)
  refine ⟨_, _, pre0 _ ?_, hrun, hended, _, _, rfl, ?_, ⟨_, rfl⟩, hW, hsame.mono (by decide) (by decide)⟩
  · show Steps p.tables e below (s₁.setTop (mkF m 0 #[.val (.ref r0), .val (.ref r1), .val (.ref r2), .val .null, .val (.ref r3)] [])) _
    refine XS.aloadN X0.here hx rfl (hb hby d15_0) rfl rfl ?_
    refine st1 _ ?_
    show Steps p.tables e below (T1.setTop (mkF m 4 #[.val (.ref r0), .val (.ref r1), .val (.ref r2), .val .null, .val (.ref r3)] [])) _
    refine XS.aloadN X1.here hx rfl (hb hby d15_4) rfl rfl ?_
    refine XS.aloadN X1.here hx rfl (hb hby d15_5) rfl rfl ?_
    refine st5 _ ?_
    show Steps p.tables e below (T5.setTop (mkF m 9 #[.val (.ref r0), .val (.ref r1), .val (.ref r2), .val .null, .val (.ref r3)] [])) _
    refine XS.aloadN X5.here hx rfl (hb hby d15_9) rfl rfl ?_
    refine XS.aloadN X5.here hx rfl (hb hby d15_10) rfl rfl ?_
    refine st9 _ ?_
    show Steps p.tables e below (T9.setTop (mkF m 14 #[.val (.ref r0), .val (.ref r1), .val (.ref r2), .val .null, .val (.ref r3)] [])) _
    refine XS.aloadN X9.here hx rfl (hb hby d15_14) rfl rfl ?_
    refine XS.aloadN X9.here hx rfl (hb hby d15_15) rfl rfl ?_
    refine st13 _ ?_
    show Steps p.tables e below (T13.setTop (mkF m 19 #[.val (.ref r0), .val (.ref r1), .val (.ref r2), .val .null, .val (.ref r3)] [])) _
    refine XS.aloadN X13.here hx rfl (hb hby d15_19) rfl rfl ?_
    refine XS.aload X13.here hx rfl (hb hby d15_20) rfl rfl ?_
    refine st17 _ ?_
    show Steps p.tables e below (T17.setTop (mkF m 25 #[.val (.ref r0), .val (.ref r1), .val (.ref r2), .val .null, .val (.ref r3)] [])) _
    exact X17.returnOut hx Bd.returns (hb hby d15_25) hr
  · show Q15_2 Z r0 r1 r2 r3 h0 n0 _ T17.heap _
    rw [e17]
    exact ⟨rfl, N17, kp24, f18, f19, f20, Fw17⟩
def Q17_2 (Z : State) (r0 : Addr) (r1 : Addr) (r2 : Addr) (c3 : ClassId) (r4 : Addr) (h0 : Heap) (n0 : Nat) (v : Option Value) (h : Heap) (L : List Loc) : Prop := v = none ∧ Fr n0 L ∧ Keep h0 h [r2, r0] ∧ Arv Z h r2 c3 (.object "java/lang/Object") (10 : Int32) [(.ref r4), (.ref r1), .null, .null, .null, .null, .null, .null, .null, .null] .null ∧ Fld Z h r0 "java/util/ArrayList" "size" "I" (.int (2 : Int32)) ∧ Fld Z h r0 "java/util/AbstractList" "modCount" "I" (.int (2 : Int32)) ∧ Fld Z h r0 "java/util/ArrayList" "elementData" "[Ljava/lang/Object;" (.ref r2)
set_option maxRecDepth 65536 in
set_option maxHeartbeats 40000000 in
theorem rm17_2 (l : Launch) (Z : State) (a0 : Array Value) (hw : ∀ d ∈ tables_1, d.before a0 Z = true) (ws : List Jvm.Cond) (r0 : Addr) (r1 : Addr) (r2 : Addr) (c3 : ClassId) (r4 : Addr) (h0 : Heap) (n0 : Nat) (O0 : Old Z n0 h0) (f1 : Arv Z h0 r2 c3 (.object "java/lang/Object") (10 : Int32) [(.ref r4), .null, .null, .null, .null, .null, .null, .null, .null, .null] .null) (f4 : Ovr Z c3 "java/lang/Object") (f5 : Exa Z h0 r1 cs10) (g6 : n0 ≤ r2) (f8 : Exa Z h0 r0 "java/util/ArrayList") (f10 : Fld Z h0 r0 "java/util/ArrayList" "size" "I" (.int (1 : Int32))) (n11 : r0 ≠ r2) (g13 : n0 ≤ r0) (f15 : Fld Z h0 r0 "java/util/AbstractList" "modCount" "I" (.int (2 : Int32))) (f17 : Fld Z h0 r0 "java/util/ArrayList" "elementData" "[Ljava/lang/Object;" (.ref r2)) :
    MetFree l (⟨"java/util/ArrayList", "add", cs12⟩ : MethodName) (head1 (Jvm.Cond.code (⟨"java/util/ArrayList", "add", cs12⟩ : MethodName) jdk_38_method_24_code 4 none :: ws) ({ frames := 0, cells := 0, slots := 0, locals := 0 } : Room)) (fun a U => a = #[(.ref r0), (.ref r1), (.ref r2), (.int (1 : Int32))] ∧ Z.Warmed39 U.vm ∧ U.heap = h0) (fun _ _ _ _ _ => True) (fun _ U o U' => ∃ v L, o = .returned v ∧ Q17_2 Z r0 r1 r2 c3 r4 h0 n0 v U'.heap L ∧ FrameEnd U o U' L ({ frames := 0, cells := 0, slots := 0, locals := 0 } : Room).cells ({ frames := 0, cells := 0, slots := 0, locals := 0 } : Room).slots) := by
  refine MetFree.of_bodySF (plainFor_of_name pn_java_util_ArrayList) hisR ?_
  intro p e s m args below meth c s₁ Bd hml0 hP hK
  obtain ⟨rfl, hZ, hh⟩ := hP
  have hx := Bd.exec
  have hby := Bd.bytes
  have hml : c.maxLocals = 4 := hml0
  have hown : s.vm.findClass "java/util/ArrayList" = some m.cls := findClass_of_methodNamed Bd.named
  have hnm := (name_of_methodNamed Bd.named Bd.method).1
  have X0 : Stand p l e ({ frames := 0, cells := 0, slots := 0, locals := 0 } : Room) s m #[(.ref r0), (.ref r1), (.ref r2), (.int (1 : Int32))] below meth c s₁ [] 0 0 := Stand.of_body Bd
  have e0 : s₁.heap = h0 := by rw [← hh, Bd.state]; rfl
  have N0 := Fr.nil n0
  have pre0 : ∀ t, Steps p.tables e below (s₁.setTop (mkF m 0 #[.val (.ref r0), .val (.ref r1), .val (.ref r2), .val (.int (1 : Int32))] [])) t → Steps p.tables e below (s₁.setTop (entryFrame m #[(.ref r0), (.ref r1), (.ref r2), (.int (1 : Int32))] 4)) t := fun t k => castTop (by first | (simp [entryFrame, mkF, argsToLocals, Value.category]; done) | rfl) k
  obtain ⟨clq2, Arq2, qq2, Sq2, Nq2, Hq2, Gq2⟩ := id f1
  obtain ⟨clq3, Arq3, qq3, Sq3, Nq3, Hq3, Gq3⟩ := id f1
  obtain ⟨T7, h7, X7, e7, W7, st7⟩ := stR X0 hx hZ e0 Arq3 (j := (1 : Int32)) (inb_of Sq3 ⟨(by decide : ¬ ((1 : Int32) < (0 : Int32))), (by decide : (1 : Int32) < (10 : Int32))⟩) rfl (Sto.ofV Arq3 qq3 f4 (Ins.of_exa f5 (ww hw 157 rfl))) (g := (mkF m 14 #[.val (.ref r0), .val (.ref r1), .val (.ref r2), .val (.int (1 : Int32))] [(.ref r1), (.int (1 : Int32)), (.ref r2)])) rfl rfl (hb hby d17_14)
  have V7 : Arv Z h7 r2 c3 (.object "java/lang/Object") (10 : Int32) [(.ref r4), (.ref r1), .null, .null, .null, .null, .null, .null, .null, .null] .null := Arv.set Arq3 qq3 Sq3 Nq3 Hq3 Gq3 rfl W7 1 rfl (Nat.le_of_ble_eq_true rfl)
  have N7 := Fr.snoc X7 N0 g6
  have f9 := (f8.wr W7)
  have f12 := (f10.other W7 (Or.inl n11))
  obtain ⟨T14, h14, X14, e14, W14, st14⟩ := putF X7 hx hZ hown (host := "") (Or.inl (ww hw 65 rfl)) Via.refl e7 f12 f9 (Or.inl (ww hw 66 rfl)) (ww hw 8 rfl) (ty := .int) (by decide) rfl rfl (g := (mkF m 19 #[.val (.ref r0), .val (.ref r1), .val (.ref r2), .val (.int (1 : Int32))] [(.int (2 : Int32)), (.ref r0)])) rfl rfl (hb hby d17_19)
  have Fw14 := f12.same W14
  have N14 := Fr.snoc X14 N7 g13
  have f16 := ((f15.other W7 (Or.inl n11)).other W14 (Or.inr (slot_ne (Or.inl (ww hw 29 rfl)) (Or.inl (ww hw 66 rfl)) (by decide) (t := .int) (t' := .int) (by decide) (by decide))))
  have f18 := ((f17.other W7 (Or.inl n11)).other W14 (Or.inr (slot_ne (Or.inl (ww hw 32 rfl)) (Or.inl (ww hw 66 rfl)) (by decide) (t := (.array (.object "java/lang/Object"))) (t' := .int) (by decide) (by decide))))
  have f19 := (V7.other W14 (Ne.symm n11))
  have kp20 : Keep h0 h7 [r2, r0] := (Keep.refl h0 [r2, r0]).wr W7 (Or.inl (List.mem_of_getElem? (i := 0) rfl))
  have kp21 : Keep h0 h14 [r2, r0] := kp20.wr W14 (Or.inl (List.mem_of_getElem? (i := 1) rfl))
  obtain ⟨fs, hr, hrun, hended, hW, hsame⟩ := X14.leave (v := none) (fun _ => rfl)
  refine ⟨_, _, pre0 _ ?_, hrun, hended, _, _, rfl, ?_, ⟨_, rfl⟩, hW, hsame.mono (by decide) (by decide)⟩
  · show Steps p.tables e below (s₁.setTop (mkF m 0 #[.val (.ref r0), .val (.ref r1), .val (.ref r2), .val (.int (1 : Int32))] [])) _
    refine XS.iloadN X0.here hx rfl (hb hby d17_0) rfl ?_
    refine XS.aloadN X0.here hx rfl (hb hby d17_1) rfl rfl ?_
    refine X0.arraylength hx (by rw [e0]; exact Arq2.1) (State.isArrayOf_alike hZ.alike Arq2.2.1) (g := (mkF m 2 #[.val (.ref r0), .val (.ref r1), .val (.ref r2), .val (.int (1 : Int32))] [(.ref r2), (.int (1 : Int32))])) rfl rfl (hb hby d17_2) _ ?_
    rw [len_of Sq2 Nq2]
    show Steps p.tables e below (s₁.setTop (mkF m 3 #[.val (.ref r0), .val (.ref r1), .val (.ref r2), .val (.int (1 : Int32))] [(.int (10 : Int32)), (.int (1 : Int32))])) _
    refine XS.icmpYes X0.here hx rfl (pc0 := 3) (pc' := 11) rfl (hb hby d17_3) rfl (feq (by decide : ¬ ((1 : Int32) = (10 : Int32)))).2 (by decide) (by decide) ?_
    show Steps p.tables e below (s₁.setTop (mkF m 11 #[.val (.ref r0), .val (.ref r1), .val (.ref r2), .val (.int (1 : Int32))] [])) _
    refine XS.aloadN X0.here hx rfl (hb hby d17_11) rfl rfl ?_
    refine XS.iloadN X0.here hx rfl (hb hby d17_12) rfl ?_
    refine XS.aloadN X0.here hx rfl (hb hby d17_13) rfl rfl ?_
    refine st7 _ ?_
    show Steps p.tables e below (T7.setTop (mkF m 15 #[.val (.ref r0), .val (.ref r1), .val (.ref r2), .val (.int (1 : Int32))] [])) _
    refine XS.aloadN X7.here hx rfl (hb hby d17_15) rfl rfl ?_
    refine XS.iloadN X7.here hx rfl (hb hby d17_16) rfl ?_
    refine XS.iconst X7.here hx rfl (hb hby d17_17) ?_
    refine XS.iadd X7.here hx rfl (hb hby d17_18) rfl ?_
    show Steps p.tables e below (T7.setTop (mkF m 19 #[.val (.ref r0), .val (.ref r1), .val (.ref r2), .val (.int (1 : Int32))] [(.int (2 : Int32)), (.ref r0)])) _
    refine st14 _ ?_
    show Steps p.tables e below (T14.setTop (mkF m 22 #[.val (.ref r0), .val (.ref r1), .val (.ref r2), .val (.int (1 : Int32))] [])) _
    exact X14.returnOut hx Bd.returns (hb hby d17_22) hr
  · show Q17_2 Z r0 r1 r2 c3 r4 h0 n0 _ T14.heap _
    rw [e14]
    exact ⟨rfl, N14, kp21, f19, Fw14, f16, f18⟩
def Q16_2 (Z : State) (r0 : Addr) (r1 : Addr) (r2 : Addr) (c3 : ClassId) (r4 : Addr) (h0 : Heap) (n0 : Nat) (v : Option Value) (h : Heap) (L : List Loc) : Prop := v = some (.int (1 : Int32)) ∧ Fr n0 L ∧ Keep h0 h [r0, r2] ∧ Fld Z h r0 "java/util/ArrayList" "size" "I" (.int (2 : Int32)) ∧ Fld Z h r0 "java/util/AbstractList" "modCount" "I" (.int (2 : Int32)) ∧ Fld Z h r0 "java/util/ArrayList" "elementData" "[Ljava/lang/Object;" (.ref r2) ∧ Arv Z h r2 c3 (.object "java/lang/Object") (10 : Int32) [(.ref r4), (.ref r1), .null, .null, .null, .null, .null, .null, .null, .null] .null
set_option maxRecDepth 65536 in
set_option maxHeartbeats 40000000 in
theorem rm16_2 (l : Launch) (Z : State) (a0 : Array Value) (hw : ∀ d ∈ tables_1, d.before a0 Z = true) (ws : List Jvm.Cond) (r0 : Addr) (r1 : Addr) (r2 : Addr) (c3 : ClassId) (r4 : Addr) (h0 : Heap) (n0 : Nat) (O0 : Old Z n0 h0) (f1 : Fld Z h0 r0 "java/util/AbstractList" "modCount" "I" (.int (1 : Int32))) (f3 : Exa Z h0 r0 "java/util/ArrayList") (g4 : n0 ≤ r0) (f6 : Fld Z h0 r0 "java/util/ArrayList" "elementData" "[Ljava/lang/Object;" (.ref r2)) (f9 : Fld Z h0 r0 "java/util/ArrayList" "size" "I" (.int (1 : Int32))) (f12 : Arv Z h0 r2 c3 (.object "java/lang/Object") (10 : Int32) [(.ref r4), .null, .null, .null, .null, .null, .null, .null, .null, .null] .null) (n13 : r2 ≠ r0) (f15 : Ovr Z c3 "java/lang/Object") (f16 : Exa Z h0 r1 cs10) (g18 : n0 ≤ r2) :
    MetFree l (⟨"java/util/ArrayList", "add", "(Ljava/lang/Object;)Z"⟩ : MethodName) (head1 (Jvm.Cond.code (⟨"java/util/ArrayList", "add", "(Ljava/lang/Object;)Z"⟩ : MethodName) jdk_38_method_25_code 2 (some .boolean) :: ws) ({ frames := 1, cells := 0, slots := 0, locals := 15 } : Room)) (fun a U => a = #[(.ref r0), (.ref r1)] ∧ Z.Warmed39 U.vm ∧ U.heap = h0) (fun _ _ _ _ _ => True) (fun _ U o U' => ∃ v L, o = .returned v ∧ Q16_2 Z r0 r1 r2 c3 r4 h0 n0 v U'.heap L ∧ FrameEnd U o U' L ({ frames := 1, cells := 0, slots := 0, locals := 15 } : Room).cells ({ frames := 1, cells := 0, slots := 0, locals := 15 } : Room).slots) := by
  refine MetFree.of_bodySF (plainFor_of_name pn_java_util_ArrayList) hisR ?_
  intro p e s m args below meth c s₁ Bd hml0 hP hK
  obtain ⟨rfl, hZ, hh⟩ := hP
  have hx := Bd.exec
  have hby := Bd.bytes
  have hml : c.maxLocals = 2 := hml0
  have hown : s.vm.findClass "java/util/ArrayList" = some m.cls := findClass_of_methodNamed Bd.named
  have hnm := (name_of_methodNamed Bd.named Bd.method).1
  have X0 : Stand p l e ({ frames := 1, cells := 0, slots := 0, locals := 15 } : Room) s m #[(.ref r0), (.ref r1)] below meth c s₁ [] 0 0 := Stand.of_body Bd
  have e0 : s₁.heap = h0 := by rw [← hh, Bd.state]; rfl
  have N0 := Fr.nil n0
  have pre0 : ∀ t, Steps p.tables e below (s₁.setTop (mkF m 0 #[.val (.ref r0), .val (.ref r1)] [])) t → Steps p.tables e below (s₁.setTop (entryFrame m #[(.ref r0), (.ref r1)] 2)) t := fun t k => castTop (by first | (simp [entryFrame, mkF, argsToLocals, Value.category]; done) | rfl) k
  obtain ⟨T2, X2, e2, st2⟩ := getF X0 hx hZ hown (host := "") (Or.inl (ww hw 134 rfl)) (Via.of (ww hw 135 rfl)) e0 f1 (g := (mkF m 2 #[.val (.ref r0), .val (.ref r1)] [(.ref r0), (.ref r0)])) rfl rfl (hb hby d16_2)
  obtain ⟨T5, h5, X5, e5, W5, st5⟩ := putF X2 hx hZ hown (host := "") (Or.inl (ww hw 134 rfl)) (Via.of (ww hw 135 rfl)) e2 f1 f3 (Or.inl (ww hw 29 rfl)) (ww hw 8 rfl) (ty := .int) (by decide) rfl rfl (g := (mkF m 7 #[.val (.ref r0), .val (.ref r1)] [(.int (2 : Int32)), (.ref r0)])) rfl rfl (hb hby d16_7)
  have Fw5 := f1.same W5
  have N5 := Fr.snoc X5 N0 g4
  have f7 := (f6.other W5 (Or.inr (slot_ne (Or.inl (ww hw 32 rfl)) (Or.inl (ww hw 29 rfl)) (by decide) (t := (.array (.object "java/lang/Object"))) (t' := .int) (by decide) (by decide))))
  obtain ⟨T8, X8, e8, st8⟩ := getF X5 hx hZ hown (host := "") (Or.inl (ww hw 31 rfl)) Via.refl e5 f7 (g := (mkF m 13 #[.val (.ref r0), .val (.ref r1)] [(.ref r0), (.ref r1), (.ref r0)])) rfl rfl (hb hby d16_13)
  have f10 := (f9.other W5 (Or.inr (slot_ne (Or.inl (ww hw 66 rfl)) (Or.inl (ww hw 29 rfl)) (by decide) (t := .int) (t' := .int) (by decide) (by decide))))
  obtain ⟨T11, X11, e11, st11⟩ := getF X8 hx hZ hown (host := "") (Or.inl (ww hw 65 rfl)) Via.refl e8 f10 (g := (mkF m 17 #[.val (.ref r0), .val (.ref r1)] [(.ref r0), (.ref r2), (.ref r1), (.ref r0)])) rfl rfl (hb hby d16_17)
  have f14 := (f12.other W5 n13)
  have f17 := (f16.wr W5)
  have f19 := (f3.wr W5)
  have o20 := Old.wr O0 W5 g4
  obtain ⟨cqq22, qq22, qq22'⟩ := f19.cell
  obtain ⟨_, _, ⟨T21, L21, k21, n21⟩, -, X21, ⟨Lc21, hQ21, l21, y21, z21⟩, st21⟩ := X11.privateBack hx (y := (⟨"java/util/ArrayList", "add", cs12⟩ : MethodName)) hown (mvT hZ (ww hw 136 rfl)) (mvT hZ (ww hw 137 rfl)) (mvT hZ (ww hw 139 rfl)) (Cond.privateMethod_at (mvP hZ (ww hw 138 rfl) (args := #[]))) (mvT hZ (ww hw 140 rfl)) (by decide) (backOf (W := 0) (rm17_2 l Z a0 hw [] r0 r1 r2 c3 r4 h5 n0 o20 f14 f15 f17 g18 f19 f10 (Ne.symm n13) g4 Fw5 f7) hZ (ww hw 140 rfl) (ww hw 9 rfl) (by decide) (by decide)) (g := (mkF m 20 #[.val (.ref r0), .val (.ref r1)] [(.int (1 : Int32)), (.ref r2), (.ref r1), (.ref r0)])) rfl (by rw [hml]; rfl) (Steps.refl _) (a := r0) (by rw [e11]; exact qq22) qq22' (argsL := [(.ref r1), (.ref r2), (.int (1 : Int32))]) (rest := []) (lenOf pd__Ljava_lang_Object__Ljava_lang_Object_I_V rfl) rfl (by show 2 * 0 + _ ≤ _; exact Nat.le_of_eq rfl) (hb hby d16_20) (fun _ _ => ⟨rfl, e11, (by decide : 0 + 0 ≤ _), (by decide : 0 + 0 ≤ _)⟩)
  dsimp only [Pt.U, Pt.locs, Pt.cells, Pt.slots] at X21 l21 y21 z21 st21 hQ21
  subst l21 y21 z21
  obtain ⟨rfl, N21q, K21, f23, f24, f25, f26⟩ := hQ21
  have N21 := Fr.app N5 N21q
  have kp27 : Keep h0 h5 [r0, r2] := (Keep.refl h0 [r0, r2]).wr W5 (Or.inl (List.mem_of_getElem? (i := 0) rfl))
  have kp28 : Keep h0 T21.heap [r0, r2] := kp27.trans K21 (allS (Or.inl (List.mem_of_getElem? (i := 1) rfl)) (allS (Or.inl (List.mem_of_getElem? (i := 0) rfl)) all0))
  obtain ⟨fs, hr, hrun, hended, hW, hsame⟩ := X21.leave (v := some (.int (1 : Int32))) (fun h => by rw [Bd.returns] at h; cases h)
  refine ⟨_, _, pre0 _ ?_, hrun, hended, _, _, rfl, ?_, ⟨_, rfl⟩, hW, hsame.mono (by decide) (by decide)⟩
  · show Steps p.tables e below (s₁.setTop (mkF m 0 #[.val (.ref r0), .val (.ref r1)] [])) _
    refine XS.aloadN X0.here hx rfl (hb hby d16_0) rfl rfl ?_
    refine XS.dup X0.here hx rfl (hb hby d16_1) rfl rfl ?_
    refine st2 _ ?_
    show Steps p.tables e below (T2.setTop (mkF m 5 #[.val (.ref r0), .val (.ref r1)] [(.int (1 : Int32)), (.ref r0)])) _
    refine XS.iconst X2.here hx rfl (hb hby d16_5) ?_
    refine XS.iadd X2.here hx rfl (hb hby d16_6) rfl ?_
    refine st5 _ ?_
    show Steps p.tables e below (T5.setTop (mkF m 10 #[.val (.ref r0), .val (.ref r1)] [])) _
    refine XS.aloadN X5.here hx rfl (hb hby d16_10) rfl rfl ?_
    refine XS.aloadN X5.here hx rfl (hb hby d16_11) rfl rfl ?_
    refine XS.aloadN X5.here hx rfl (hb hby d16_12) rfl rfl ?_
    refine st8 _ ?_
    show Steps p.tables e below (T8.setTop (mkF m 16 #[.val (.ref r0), .val (.ref r1)] [(.ref r2), (.ref r1), (.ref r0)])) _
    refine XS.aloadN X8.here hx rfl (hb hby d16_16) rfl rfl ?_
    refine st11 _ ?_
    show Steps p.tables e below (T11.setTop (mkF m 20 #[.val (.ref r0), .val (.ref r1)] [(.int (1 : Int32)), (.ref r2), (.ref r1), (.ref r0)])) _
    refine st21.trans ?_
    show Steps p.tables e below (T21.setTop (mkF m 23 #[.val (.ref r0), .val (.ref r1)] [])) _
    refine XS.iconst X21.here hx rfl (hb hby d16_23) ?_
    exact retN X21 hx (t := .boolean) Bd.returns (by simp) (hb hby d16_24) hr
  · show Q16_2 Z r0 r1 r2 c3 r4 h0 n0 _ T21.heap _
    exact ⟨rfl, N21, kp28, f24, f25, f26, f23⟩
def Q9_3 (Z : State) (r0 : Addr) (h0 : Heap) (n0 : Nat) (v : Option Value) (h : Heap) (L : List Loc) : Prop := v = some (.int (0 : Int32)) ∧ Fr n0 L ∧ h = h0
set_option maxRecDepth 65536 in
set_option maxHeartbeats 40000000 in
theorem rm9_3 (l : Launch) (Z : State) (a0 : Array Value) (hw : ∀ d ∈ tables_1, d.before a0 Z = true) (ws : List Jvm.Cond) (r0 : Addr) (h0 : Heap) (n0 : Nat) (O0 : Old Z n0 h0) (f1 : Fld Z h0 r0 "java/util/ArrayList" "size" "I" (.int (2 : Int32))) :
    MetFree l (⟨"java/util/ArrayList", "isEmpty", "()Z"⟩ : MethodName) (head1 (Jvm.Cond.code (⟨"java/util/ArrayList", "isEmpty", "()Z"⟩ : MethodName) jdk_38_method_9_code 1 (some .boolean) :: ws) ({ frames := 0, cells := 0, slots := 0, locals := 0 } : Room)) (fun a U => a = #[(.ref r0)] ∧ Z.Warmed39 U.vm ∧ U.heap = h0) (fun _ _ _ _ _ => True) (fun _ U o U' => ∃ v L, o = .returned v ∧ Q9_3 Z r0 h0 n0 v U'.heap L ∧ FrameEnd U o U' L ({ frames := 0, cells := 0, slots := 0, locals := 0 } : Room).cells ({ frames := 0, cells := 0, slots := 0, locals := 0 } : Room).slots) := by
  refine MetFree.of_bodySF (plainFor_of_name pn_java_util_ArrayList) hisR ?_
  intro p e s m args below meth c s₁ Bd hml0 hP hK
  obtain ⟨rfl, hZ, hh⟩ := hP
  have hx := Bd.exec
  have hby := Bd.bytes
  have hml : c.maxLocals = 1 := hml0
  have hown : s.vm.findClass "java/util/ArrayList" = some m.cls := findClass_of_methodNamed Bd.named
  have hnm := (name_of_methodNamed Bd.named Bd.method).1
  have X0 : Stand p l e ({ frames := 0, cells := 0, slots := 0, locals := 0 } : Room) s m #[(.ref r0)] below meth c s₁ [] 0 0 := Stand.of_body Bd
  have e0 : s₁.heap = h0 := by rw [← hh, Bd.state]; rfl
  have N0 := Fr.nil n0
  have pre0 : ∀ t, Steps p.tables e below (s₁.setTop (mkF m 0 #[.val (.ref r0)] [])) t → Steps p.tables e below (s₁.setTop (entryFrame m #[(.ref r0)] 1)) t := fun t k => castTop (by first | (simp [entryFrame, mkF, argsToLocals, Value.category]; done) | rfl) k
  obtain ⟨T2, X2, e2, st2⟩ := getF X0 hx hZ hown (host := "") (Or.inl (ww hw 65 rfl)) Via.refl e0 f1 (g := (mkF m 1 #[.val (.ref r0)] [(.ref r0)])) rfl rfl (hb hby d9_1)
  obtain ⟨fs, hr, hrun, hended, hW, hsame⟩ := X2.leave (v := some (.int (0 : Int32))) (fun h => by rw [Bd.returns] at h; cases h)
  refine ⟨_, _, pre0 _ ?_, hrun, hended, _, _, rfl, ?_, ⟨_, rfl⟩, hW, hsame.mono (by decide) (by decide)⟩
  · show Steps p.tables e below (s₁.setTop (mkF m 0 #[.val (.ref r0)] [])) _
    refine XS.aloadN X0.here hx rfl (hb hby d9_0) rfl rfl ?_
    refine st2 _ ?_
    show Steps p.tables e below (T2.setTop (mkF m 4 #[.val (.ref r0)] [(.int (2 : Int32))])) _
    refine XS.ifYes X2.here hx rfl (pc0 := 4) (pc' := 11) rfl (hb hby d9_4) rfl ((if0 _ _).trans (feq (by decide : ¬ ((2 : Int32) = (0 : Int32)))).2) (by decide) (by decide) ?_
    show Steps p.tables e below (T2.setTop (mkF m 11 #[.val (.ref r0)] [])) _
    refine XS.iconst X2.here hx rfl (hb hby d9_11) ?_
    exact retN X2 hx (t := .boolean) Bd.returns (by simp) (hb hby d9_12) hr
  · show Q9_3 Z r0 h0 n0 _ T2.heap _
    rw [e2]
    exact ⟨rfl, N0, rfl⟩
def Q24_2 (Z : State)  (h0 : Heap) (n0 : Nat) (v : Option Value) (h : Heap) (L : List Loc) : Prop := v = some (.int (2 : Int32)) ∧ Fr n0 L ∧ h = h0
set_option maxRecDepth 65536 in
set_option maxHeartbeats 40000000 in
theorem rm24_2 (l : Launch) (Z : State) (a0 : Array Value) (hw : ∀ d ∈ tables_1, d.before a0 Z = true) (ws : List Jvm.Cond)  (h0 : Heap) (n0 : Nat) (O0 : Old Z n0 h0) :
    MetFree l (⟨"java/lang/Math", "min", "(II)I"⟩ : MethodName) (head1 (Jvm.Cond.code (⟨"java/lang/Math", "min", "(II)I"⟩ : MethodName) jdk_29_method_69_code 2 (some .int) :: ws) ({ frames := 0, cells := 0, slots := 0, locals := 0 } : Room)) (fun a U => a = #[(.int (10 : Int32)), (.int (2 : Int32))] ∧ Z.Warmed39 U.vm ∧ U.heap = h0) (fun _ _ _ _ _ => True) (fun _ U o U' => ∃ v L, o = .returned v ∧ Q24_2 Z  h0 n0 v U'.heap L ∧ FrameEnd U o U' L ({ frames := 0, cells := 0, slots := 0, locals := 0 } : Room).cells ({ frames := 0, cells := 0, slots := 0, locals := 0 } : Room).slots) := by
  refine MetFree.of_bodySF (Jvm.Free.JP.mathPlain rfl (by decide +kernel)) hisR ?_
  intro p e s m args below meth c s₁ Bd hml0 hP hK
  obtain ⟨rfl, hZ, hh⟩ := hP
  have hx := Bd.exec
  have hby := Bd.bytes
  have hml : c.maxLocals = 2 := hml0
  have hown : s.vm.findClass "java/lang/Math" = some m.cls := findClass_of_methodNamed Bd.named
  have hnm := (name_of_methodNamed Bd.named Bd.method).1
  have X0 : Stand p l e ({ frames := 0, cells := 0, slots := 0, locals := 0 } : Room) s m #[(.int (10 : Int32)), (.int (2 : Int32))] below meth c s₁ [] 0 0 := Stand.of_body Bd
  have e0 : s₁.heap = h0 := by rw [← hh, Bd.state]; rfl
  have N0 := Fr.nil n0
  have pre0 : ∀ t, Steps p.tables e below (s₁.setTop (mkF m 0 #[.val (.int (10 : Int32)), .val (.int (2 : Int32))] [])) t → Steps p.tables e below (s₁.setTop (entryFrame m #[(.int (10 : Int32)), (.int (2 : Int32))] 2)) t := fun t k => castTop (by first | (simp [entryFrame, mkF, argsToLocals, Value.category]; done) | rfl) k
  obtain ⟨fs, hr, hrun, hended, hW, hsame⟩ := X0.leave (v := some (.int (2 : Int32))) (fun h => by rw [Bd.returns] at h; cases h)
  refine ⟨_, _, pre0 _ ?_, hrun, hended, _, _, rfl, ?_, ⟨_, rfl⟩, hW, hsame.mono (by decide) (by decide)⟩
  · show Steps p.tables e below (s₁.setTop (mkF m 0 #[.val (.int (10 : Int32)), .val (.int (2 : Int32))] [])) _
    refine XS.iloadN X0.here hx rfl (hb hby d24_0) rfl ?_
    refine XS.iloadN X0.here hx rfl (hb hby d24_1) rfl ?_
    refine XS.icmpYes X0.here hx rfl (pc0 := 2) (pc' := 9) rfl (hb hby d24_2) rfl (tlt (by decide : (2 : Int32) < (10 : Int32))).2.2.1 (by decide) (by decide) ?_
    show Steps p.tables e below (s₁.setTop (mkF m 9 #[.val (.int (10 : Int32)), .val (.int (2 : Int32))] [])) _
    refine XS.iloadN X0.here hx rfl (hb hby d24_9) rfl ?_
    exact retOut X0 hx (i := .ireturn) Bd.returns rfl (Or.inl ⟨rfl, Or.inl rfl, _, rfl⟩) (hb hby d24_10) hr
  · show Q24_2 Z  h0 n0 _ s₁.heap _
    rw [e0]
    exact ⟨rfl, N0, rfl⟩
def Q23_2 (Z : State) (r0 : Addr) (r1 : Addr) (c2 : ClassId) (r3 : Addr) (r4 : Addr) (h0 : Heap) (n0 : Nat) (v : Option Value) (h : Heap) (L : List Loc) : Prop := ∃ (b3 : Addr) (k3 : ClassId), v = some (.ref b3) ∧ Fr n0 L ∧ Keep h0 h [] ∧ h0.size ≤ b3 ∧ Arv Z h b3 k3 (.object "java/lang/Object") (2 : Int32) [(.ref r3), (.ref r4)] .null ∧ Exa Z h b3 "[Ljava/lang/Object;" ∧ Ovr Z k3 "java/lang/Object"
set_option maxRecDepth 65536 in
set_option maxHeartbeats 40000000 in
theorem rm23_2 (l : Launch) (Z : State) (a0 : Array Value) (hw : ∀ d ∈ tables_1, d.before a0 Z = true) (ws : List Jvm.Cond) (r0 : Addr) (r1 : Addr) (c2 : ClassId) (r3 : Addr) (r4 : Addr) (h0 : Heap) (n0 : Nat) (O0 : Old Z n0 h0) (f1 : own_Mir Z "[Ljava/lang/Object;" r1) (f4 : Arv Z h0 r0 c2 (.object "java/lang/Object") (10 : Int32) [(.ref r3), (.ref r4), .null, .null, .null, .null, .null, .null, .null, .null] .null) (f10 : Exa Z h0 r4 cs10) (f12 : Exa Z h0 r3 cs10) :
    MetFree l (⟨"java/util/Arrays", "copyOf", cs13⟩ : MethodName) (head1 (Jvm.Cond.code (⟨"java/util/Arrays", "copyOf", cs13⟩ : MethodName) jdk_65_method_120_code 4 (some (.array (.object "java/lang/Object"))) :: ws) ({ frames := 1, cells := 1, slots := 2, locals := 24 } : Room)) (fun a U => a = #[(.ref r0), (.int (2 : Int32)), (.ref r1)] ∧ Z.Warmed39 U.vm ∧ U.heap = h0) (fun _ _ _ _ _ => True) (fun _ U o U' => ∃ v L, o = .returned v ∧ Q23_2 Z r0 r1 c2 r3 r4 h0 n0 v U'.heap L ∧ FrameEnd U o U' L ({ frames := 1, cells := 1, slots := 2, locals := 24 } : Room).cells ({ frames := 1, cells := 1, slots := 2, locals := 24 } : Room).slots) := by
  refine MetFree.of_bodySF (plainFor_of_name pn_java_util_Arrays) hisR ?_
  intro p e s m args below meth c s₁ Bd hml0 hP hK
  obtain ⟨rfl, hZ, hh⟩ := hP
  have hx := Bd.exec
  have hby := Bd.bytes
  have hml : c.maxLocals = 4 := hml0
  have hown : s.vm.findClass "java/util/Arrays" = some m.cls := findClass_of_methodNamed Bd.named
  have hnm := (name_of_methodNamed Bd.named Bd.method).1
  have X0 : Stand p l e ({ frames := 1, cells := 1, slots := 2, locals := 24 } : Room) s m #[(.ref r0), (.int (2 : Int32)), (.ref r1)] below meth c s₁ [] 0 0 := Stand.of_body Bd
  have e0 : s₁.heap = h0 := by rw [← hh, Bd.state]; rfl
  have N0 := Fr.nil n0
  have pre0 : ∀ t, Steps p.tables e below (s₁.setTop (mkF m 0 #[.val (.ref r0), .val (.int (2 : Int32)), .val (.ref r1), .unset] [])) t → Steps p.tables e below (s₁.setTop (entryFrame m #[(.ref r0), (.int (2 : Int32)), (.ref r1)] 4)) t := fun t k => castTop (by first | (simp [entryFrame, mkF, argsToLocals, Value.category]; done) | rfl) k
  obtain ⟨T2, X2, e2, st2⟩ := own_ldcM X0 hx hZ hown (ww hw 179 rfl) e0 f1 (g := (mkF m 1 #[.val (.ref r0), .val (.int (2 : Int32)), .val (.ref r1), .unset] [(.ref r1)])) rfl (hb hby d23_1)
  obtain ⟨T3, h3, k3, X3, e3, E3, A3, B3, O3, st3⟩ := newRE X2 hx hZ hown (ww hw 180 rfl) (ww hw 156 rfl) e2 (g := (mkF m 7 #[.val (.ref r0), .val (.int (2 : Int32)), .val (.ref r1), .unset] [(.int (2 : Int32))])) rfl (hb hby d23_7) rfl (by decide) (cap := 2) (by decide) (by decide) (by decide) (by decide) (ad := "[Ljava/lang/Object;") rfl
  obtain ⟨b3, g3⟩ : ∃ z, z = h0.size := ⟨_, rfl⟩
  rw [← g3] at A3 B3 st3
  have V3 : Arv Z h3 b3 k3 (.object "java/lang/Object") (2 : Int32) [.null, .null] .null := (Arv.new A3 (by decide)).pad (pad_rep [] .null 2)
  have f5 := (f4.ext E3)
  obtain ⟨clq6, Arq6, qq6, Sq6, Nq6, Hq6, Gq6⟩ := id f5
  have o7 := Old.ext O0 E3
  obtain ⟨_, _, ⟨T8, L8, k8, n8⟩, -, X8, ⟨Lc8, hQ8, l8, y8, z8⟩, st8⟩ := Jvm.LawKit.callS X3 hx (y := (⟨"java/lang/Math", "min", "(II)I"⟩ : MethodName)) hown (mvT hZ (ww hw 181 rfl)) (mvT hZ (ww hw 182 rfl)) (mvT hZ (ww hw 153 rfl)) (mvT hZ (ww hw 183 rfl)) (by decide) (backOf (W := 4) (rm24_2 l Z a0 hw [] h3 n0 o7) hZ (ww hw 183 rfl) (ww hw 153 rfl) (by decide) (by decide)) (g := (mkF m 32 #[.val (.ref r0), .val (.int (2 : Int32)), .val (.ref r1), .val (.ref b3)] [(.int (2 : Int32)), (.int (10 : Int32)), (.int (0 : Int32)), (.ref b3), (.int (0 : Int32)), (.ref r0)])) rfl (by rw [hml]; rfl) (argsL := [(.int (10 : Int32)), (.int (2 : Int32))]) (rest := [(.int (0 : Int32)), (.ref b3), (.int (0 : Int32)), (.ref r0)]) (lenOf pd__II_I rfl) rfl (by show 2 * 0 + _ ≤ _; exact Nat.le_of_eq rfl) (hb hby d23_32) (fun _ _ => ⟨rfl, e3, (by decide : 1 + 0 ≤ _), (by decide : 2 + 0 ≤ _)⟩)
  dsimp only [Pt.U, Pt.locs, Pt.cells, Pt.slots] at X8 l8 y8 z8 st8 hQ8
  subst l8 y8 z8
  obtain ⟨rfl, N8q, E8⟩ := hQ8
  have N8 := Fr.app N0 N8q
  obtain ⟨clq9, Arq9, qq9, Sq9, Nq9, Hq9, Gq9⟩ := id V3
  have f11 := (f10.ext E3)
  have f13 := (f12.ext E3)
  have zz14 : n0 ≤ h0.size := by rw [← O0.1]; exact O0.2.1
  have g15 := Nat.le_trans zz14 (Nat.le_of_eq g3.symm)
  obtain ⟨T16, h16, L16, X16, e16, N16, K16, B16, st16⟩ := cpA X8 hx hZ hown (ww hw 184 rfl) (ww hw 187 rfl) (ww hw 185 rfl) (ww hw 186 rfl) E8 f5 V3 (us := [(.ref r3), (.ref r4)]) (Or.inr ⟨rfl, rfl, (And.intro (Sto.ofV Arq9 qq9 O3 (Ins.of_exa f13 (ww hw 157 rfl))) (And.intro (Sto.ofV Arq9 qq9 O3 (Ins.of_exa f11 (ww hw 157 rfl))) trivial))⟩) (by decide) (by decide) (by decide) (by decide) (by decide) rfl (by decide) N8 g15 (g := (mkF m 35 #[.val (.ref r0), .val (.int (2 : Int32)), .val (.ref r1), .val (.ref b3)] [(.int (2 : Int32)), (.int (0 : Int32)), (.ref b3), (.int (0 : Int32)), (.ref r0)])) rfl (by rw [hml]; rfl) rfl (hb hby d23_35) (by decide) (W := 0) (by show 2 * 0 + _ ≤ _; exact Nat.le_of_eq rfl) (by decide)
  have V16 : Arv Z h16 b3 k3 (.object "java/lang/Object") (2 : Int32) [(.ref r3), (.ref r4)] .null := B16
  have f17 := (B3.keep K16)
  have kp18 : Keep h0 h3 [] := (Keep.refl h0 []).ext E3
  have kp19 : Keep h0 h16 [] := kp18.trans K16 (allS (Or.inr (Nat.le_of_eq g3.symm)) all0)
  obtain ⟨fs, hr, hrun, hended, hW, hsame⟩ := X16.leave (v := some (.ref b3)) (fun h => by rw [Bd.returns] at h; cases h)
  refine ⟨_, _, pre0 _ ?_, hrun, hended, _, _, rfl, ?_, ⟨_, rfl⟩, hW, hsame.mono (by decide) (by decide)⟩
  · show Steps p.tables e below (s₁.setTop (mkF m 0 #[.val (.ref r0), .val (.int (2 : Int32)), .val (.ref r1), .unset] [])) _
    refine XS.aloadN X0.here hx rfl (hb hby d23_0) rfl rfl ?_
    refine st2 _ ?_
    show Steps p.tables e below (T2.setTop (mkF m 3 #[.val (.ref r0), .val (.int (2 : Int32)), .val (.ref r1), .unset] [(.ref r1), (.ref r1)])) _
    refine Jvm.RoadKit.acmp (g := (mkF m 3 #[.val (.ref r0), .val (.int (2 : Int32)), .val (.ref r1), .unset] [(.ref r1), (.ref r1)])) X2 hx rfl rfl rfl (pc0 := 3) (pc' := 6) (same := true) rfl (hb hby d23_3) rfl (decide_eq_true rfl) (by decide) (by decide) ?_
    show Steps p.tables e below (T2.setTop (mkF m 6 #[.val (.ref r0), .val (.int (2 : Int32)), .val (.ref r1), .unset] [])) _
    refine XS.iloadN X2.here hx rfl (hb hby d23_6) rfl ?_
    refine st3 _ ?_
    show Steps p.tables e below (T3.setTop (mkF m 10 #[.val (.ref r0), .val (.int (2 : Int32)), .val (.ref r1), .unset] [(.ref b3)])) _
    refine XS.goto X3.here hx rfl (pc0 := 10) (pc' := 24) rfl (hb hby d23_10) (by decide) (by decide) ?_
    show Steps p.tables e below (T3.setTop (mkF m 24 #[.val (.ref r0), .val (.int (2 : Int32)), .val (.ref r1), .unset] [(.ref b3)])) _
    refine XS.astoreN X3.here hx rfl (hb hby d23_24) rfl rfl (l' := #[.val (.ref r0), .val (.int (2 : Int32)), .val (.ref r1), .val (.ref b3)]) rfl ?_
    refine XS.aloadN X3.here hx rfl (hb hby d23_25) rfl rfl ?_
    refine XS.iconst X3.here hx rfl (hb hby d23_26) ?_
    refine XS.aloadN X3.here hx rfl (hb hby d23_27) rfl rfl ?_
    show Steps p.tables e below (T3.setTop (mkF m 28 #[.val (.ref r0), .val (.int (2 : Int32)), .val (.ref r1), .val (.ref b3)] [(.ref b3), (.int (0 : Int32)), (.ref r0)])) _
    refine XS.iconst X3.here hx rfl (hb hby d23_28) ?_
    refine XS.aloadN X3.here hx rfl (hb hby d23_29) rfl rfl ?_
    refine X3.arraylength hx (by rw [e3]; exact Arq6.1) (State.isArrayOf_alike hZ.alike Arq6.2.1) (g := (mkF m 30 #[.val (.ref r0), .val (.int (2 : Int32)), .val (.ref r1), .val (.ref b3)] [(.ref r0), (.int (0 : Int32)), (.ref b3), (.int (0 : Int32)), (.ref r0)])) rfl rfl (hb hby d23_30) _ ?_
    rw [len_of Sq6 Nq6]
    show Steps p.tables e below (T3.setTop (mkF m 31 #[.val (.ref r0), .val (.int (2 : Int32)), .val (.ref r1), .val (.ref b3)] [(.int (10 : Int32)), (.int (0 : Int32)), (.ref b3), (.int (0 : Int32)), (.ref r0)])) _
    refine XS.iloadN X3.here hx rfl (hb hby d23_31) rfl ?_
    refine st8 _ ?_
    show Steps p.tables e below (T8.setTop (mkF m 35 #[.val (.ref r0), .val (.int (2 : Int32)), .val (.ref r1), .val (.ref b3)] [(.int (2 : Int32)), (.int (0 : Int32)), (.ref b3), (.int (0 : Int32)), (.ref r0)])) _
    refine st16 _ ?_
    show Steps p.tables e below (T16.setTop (mkF m 38 #[.val (.ref r0), .val (.int (2 : Int32)), .val (.ref r1), .val (.ref b3)] [])) _
    refine XS.aloadN X16.here hx rfl (hb hby d23_38) rfl rfl ?_
    exact retOut X16 hx (i := .areturn) Bd.returns rfl (Or.inr (Or.inr (Or.inr (Or.inr ⟨rfl, rfl, rfl⟩)))) (hb hby d23_39) hr
  · show Q23_2 Z r0 r1 c2 r3 r4 h0 n0 _ T16.heap _
    rw [e16]
    exact ⟨b3, k3, rfl, N16, kp19, (Nat.le_of_eq g3.symm), V16, f17, O3⟩
def Q22_2 (Z : State) (r0 : Addr) (r1 : Addr) (c2 : ClassId) (r3 : Addr) (r4 : Addr) (h0 : Heap) (n0 : Nat) (v : Option Value) (h : Heap) (L : List Loc) : Prop := ∃ (b7_0 : Addr) (k7_0 : ClassId), v = some (.ref b7_0) ∧ Fr n0 L ∧ Keep h0 h [] ∧ h0.size ≤ b7_0 ∧ Arv Z h b7_0 k7_0 (.object "java/lang/Object") (2 : Int32) [(.ref r3), (.ref r4)] .null ∧ Exa Z h b7_0 "[Ljava/lang/Object;" ∧ Ovr Z k7_0 "java/lang/Object"
set_option maxRecDepth 65536 in
set_option maxHeartbeats 40000000 in
theorem rm22_2 (l : Launch) (Z : State) (a0 : Array Value) (hw : ∀ d ∈ tables_1, d.before a0 Z = true) (ws : List Jvm.Cond) (r0 : Addr) (r1 : Addr) (c2 : ClassId) (r3 : Addr) (r4 : Addr) (h0 : Heap) (n0 : Nat) (O0 : Old Z n0 h0) (f1 : Exa Z h0 r0 "[Ljava/lang/Object;") (f2 : own_Mir Z "[Ljava/lang/Object;" r1) (f4 : Arv Z h0 r0 c2 (.object "java/lang/Object") (10 : Int32) [(.ref r3), (.ref r4), .null, .null, .null, .null, .null, .null, .null, .null] .null) (f5 : Exa Z h0 r4 cs10) (f6 : Exa Z h0 r3 cs10) :
    MetFree l (⟨"java/util/Arrays", "copyOf", cs14⟩ : MethodName) (head1 (Jvm.Cond.code (⟨"java/util/Arrays", "copyOf", cs14⟩ : MethodName) jdk_65_method_119_code 2 (some (.array (.object "java/lang/Object"))) :: ws) ({ frames := 2, cells := 1, slots := 2, locals := 39 } : Room)) (fun a U => a = #[(.ref r0), (.int (2 : Int32))] ∧ Z.Warmed39 U.vm ∧ U.heap = h0) (fun _ _ _ _ _ => True) (fun _ U o U' => ∃ v L, o = .returned v ∧ Q22_2 Z r0 r1 c2 r3 r4 h0 n0 v U'.heap L ∧ FrameEnd U o U' L ({ frames := 2, cells := 1, slots := 2, locals := 39 } : Room).cells ({ frames := 2, cells := 1, slots := 2, locals := 39 } : Room).slots) := by
  refine MetFree.of_bodySF (plainFor_of_name pn_java_util_Arrays) hisR ?_
  intro p e s m args below meth c s₁ Bd hml0 hP hK
  obtain ⟨rfl, hZ, hh⟩ := hP
  have hx := Bd.exec
  have hby := Bd.bytes
  have hml : c.maxLocals = 2 := hml0
  have hown : s.vm.findClass "java/util/Arrays" = some m.cls := findClass_of_methodNamed Bd.named
  have hnm := (name_of_methodNamed Bd.named Bd.method).1
  have X0 : Stand p l e ({ frames := 2, cells := 1, slots := 2, locals := 39 } : Room) s m #[(.ref r0), (.int (2 : Int32))] below meth c s₁ [] 0 0 := Stand.of_body Bd
  have e0 : s₁.heap = h0 := by rw [← hh, Bd.state]; rfl
  have N0 := Fr.nil n0
  have pre0 : ∀ t, Steps p.tables e below (s₁.setTop (mkF m 0 #[.val (.ref r0), .val (.int (2 : Int32))] [])) t → Steps p.tables e below (s₁.setTop (entryFrame m #[(.ref r0), (.int (2 : Int32))] 2)) t := fun t k => castTop (by first | (simp [entryFrame, mkF, argsToLocals, Value.category]; done) | rfl) k
  obtain ⟨T3, X3, e3, st3⟩ := own_gcls X0 hx hZ hown (ww hw 170 rfl) (ww hw 171 rfl) (ww hw 54 rfl) (ww hw 173 rfl) (ww hw 172 rfl) (ww hw 174 rfl) e0 f1 f2 (g := (mkF m 3 #[.val (.ref r0), .val (.int (2 : Int32))] [(.ref r0), (.int (2 : Int32)), (.ref r0)])) rfl (by rw [hml]; rfl) rfl (hb hby d22_3) (by decide) (W := 2) (by show 2 * 0 + _ ≤ _; exact Nat.le_of_eq rfl) (by decide)
  obtain ⟨_, _, ⟨T7, L7, k7, n7⟩, -, X7, ⟨Lc7, hQ7, l7, y7, z7⟩, st7⟩ := Jvm.LawKit.callS X3 hx (y := (⟨"java/util/Arrays", "copyOf", cs13⟩ : MethodName)) hown (mvT hZ (ww hw 176 rfl)) (mvT hZ (ww hw 177 rfl)) (mvT hZ (ww hw 168 rfl)) (mvT hZ (ww hw 178 rfl)) (by decide) (backOf (W := 0) (rm23_2 l Z a0 hw [] r0 r1 c2 r3 r4 h0 n0 O0 f2 f4 f5 f6) hZ (ww hw 178 rfl) (ww hw 168 rfl) (by decide) (by decide)) (g := (mkF m 6 #[.val (.ref r0), .val (.int (2 : Int32))] [(.ref r1), (.int (2 : Int32)), (.ref r0)])) rfl (by rw [hml]; rfl) (argsL := [(.ref r0), (.int (2 : Int32)), (.ref r1)]) (rest := []) (lenOf pd___Ljava_lang_Object_ILjava_lang_Class___Ljava_lang_Object_ rfl) rfl (by show 2 * 0 + _ ≤ _; exact Nat.le_of_eq rfl) (hb hby d22_6) (fun _ _ => ⟨rfl, e3, (by decide : 0 + 1 ≤ _), (by decide : 0 + 2 ≤ _)⟩)
  dsimp only [Pt.U, Pt.locs, Pt.cells, Pt.slots] at X7 l7 y7 z7 st7 hQ7
  subst l7 y7 z7
  obtain ⟨b7_0, k7_0, rfl, N7q, K7, f8, f9, f10, f11⟩ := hQ7
  have N7 := Fr.app N0 N7q
  have kp12 : Keep h0 T7.heap [] := (Keep.refl h0 []).trans K7 all0
  obtain ⟨fs, hr, hrun, hended, hW, hsame⟩ := X7.leave (v := some (.ref b7_0)) (fun h => by rw [Bd.returns] at h; cases h)
  refine ⟨_, _, pre0 _ ?_, hrun, hended, _, _, rfl, ?_, ⟨_, rfl⟩, hW, hsame.mono (by decide) (by decide)⟩
  · show Steps p.tables e below (s₁.setTop (mkF m 0 #[.val (.ref r0), .val (.int (2 : Int32))] [])) _
    refine XS.aloadN X0.here hx rfl (hb hby d22_0) rfl rfl ?_
    refine XS.iloadN X0.here hx rfl (hb hby d22_1) rfl ?_
    refine XS.aloadN X0.here hx rfl (hb hby d22_2) rfl rfl ?_
    refine st3 _ ?_
    show Steps p.tables e below (T3.setTop (mkF m 6 #[.val (.ref r0), .val (.int (2 : Int32))] [(.ref r1), (.int (2 : Int32)), (.ref r0)])) _
    refine st7 _ ?_
    show Steps p.tables e below (T7.setTop (mkF m 9 #[.val (.ref r0), .val (.int (2 : Int32))] [(.ref b7_0)])) _
    exact retOut X7 hx (i := .areturn) Bd.returns rfl (Or.inr (Or.inr (Or.inr (Or.inr ⟨rfl, rfl, rfl⟩)))) (hb hby d22_9) hr
  · show Q22_2 Z r0 r1 c2 r3 r4 h0 n0 _ T7.heap _
    exact ⟨b7_0, k7_0, rfl, N7, kp12, f8, f9, f10, f11⟩
def Q21_2 (Z : State) (r0 : Addr) (r1 : Addr) (r2 : Addr) (c3 : ClassId) (r4 : Addr) (r5 : Addr) (h0 : Heap) (n0 : Nat) (v : Option Value) (h : Heap) (L : List Loc) : Prop := ∃ (b10_0 : Addr) (k10_0 : ClassId), v = some (.ref b10_0) ∧ Fr n0 L ∧ Keep h0 h [] ∧ h0.size ≤ b10_0 ∧ Arv Z h b10_0 k10_0 (.object "java/lang/Object") (2 : Int32) [(.ref r4), (.ref r5)] .null ∧ Exa Z h b10_0 "[Ljava/lang/Object;" ∧ Ovr Z k10_0 "java/lang/Object"
set_option maxRecDepth 65536 in
set_option maxHeartbeats 40000000 in
theorem rm21_2 (l : Launch) (Z : State) (a0 : Array Value) (hw : ∀ d ∈ tables_1, d.before a0 Z = true) (ws : List Jvm.Cond) (r0 : Addr) (r1 : Addr) (r2 : Addr) (c3 : ClassId) (r4 : Addr) (r5 : Addr) (h0 : Heap) (n0 : Nat) (O0 : Old Z n0 h0) (f1 : Fld Z h0 r0 "java/util/ArrayList" "elementData" "[Ljava/lang/Object;" (.ref r1)) (f3 : Fld Z h0 r0 "java/util/ArrayList" "size" "I" (.int (2 : Int32))) (f5 : Exa Z h0 r1 "[Ljava/lang/Object;") (f6 : own_Mir Z "[Ljava/lang/Object;" r2) (f7 : Arv Z h0 r1 c3 (.object "java/lang/Object") (10 : Int32) [(.ref r4), (.ref r5), .null, .null, .null, .null, .null, .null, .null, .null] .null) (f8 : Exa Z h0 r5 cs10) (f9 : Exa Z h0 r4 cs10) :
    MetFree l (⟨"java/util/ArrayList", "toArray", "()[Ljava/lang/Object;"⟩ : MethodName) (head1 (Jvm.Cond.code (⟨"java/util/ArrayList", "toArray", "()[Ljava/lang/Object;"⟩ : MethodName) jdk_38_method_16_code 1 (some (.array (.object "java/lang/Object"))) :: ws) ({ frames := 3, cells := 1, slots := 2, locals := 52 } : Room)) (fun a U => a = #[(.ref r0)] ∧ Z.Warmed39 U.vm ∧ U.heap = h0) (fun _ _ _ _ _ => True) (fun _ U o U' => ∃ v L, o = .returned v ∧ Q21_2 Z r0 r1 r2 c3 r4 r5 h0 n0 v U'.heap L ∧ FrameEnd U o U' L ({ frames := 3, cells := 1, slots := 2, locals := 52 } : Room).cells ({ frames := 3, cells := 1, slots := 2, locals := 52 } : Room).slots) := by
  refine MetFree.of_bodySF (plainFor_of_name pn_java_util_ArrayList) hisR ?_
  intro p e s m args below meth c s₁ Bd hml0 hP hK
  obtain ⟨rfl, hZ, hh⟩ := hP
  have hx := Bd.exec
  have hby := Bd.bytes
  have hml : c.maxLocals = 1 := hml0
  have hown : s.vm.findClass "java/util/ArrayList" = some m.cls := findClass_of_methodNamed Bd.named
  have hnm := (name_of_methodNamed Bd.named Bd.method).1
  have X0 : Stand p l e ({ frames := 3, cells := 1, slots := 2, locals := 52 } : Room) s m #[(.ref r0)] below meth c s₁ [] 0 0 := Stand.of_body Bd
  have e0 : s₁.heap = h0 := by rw [← hh, Bd.state]; rfl
  have N0 := Fr.nil n0
  have pre0 : ∀ t, Steps p.tables e below (s₁.setTop (mkF m 0 #[.val (.ref r0)] [])) t → Steps p.tables e below (s₁.setTop (entryFrame m #[(.ref r0)] 1)) t := fun t k => castTop (by first | (simp [entryFrame, mkF, argsToLocals, Value.category]; done) | rfl) k
  obtain ⟨T2, X2, e2, st2⟩ := getF X0 hx hZ hown (host := "") (Or.inl (ww hw 31 rfl)) Via.refl e0 f1 (g := (mkF m 1 #[.val (.ref r0)] [(.ref r0)])) rfl rfl (hb hby d21_1)
  obtain ⟨T4, X4, e4, st4⟩ := getF X2 hx hZ hown (host := "") (Or.inl (ww hw 65 rfl)) Via.refl e2 f3 (g := (mkF m 5 #[.val (.ref r0)] [(.ref r0), (.ref r1)])) rfl rfl (hb hby d21_5)
  obtain ⟨_, _, ⟨T10, L10, k10, n10⟩, -, X10, ⟨Lc10, hQ10, l10, y10, z10⟩, st10⟩ := Jvm.LawKit.callS X4 hx (y := (⟨"java/util/Arrays", "copyOf", cs14⟩ : MethodName)) hown (mvT hZ (ww hw 166 rfl)) (mvT hZ (ww hw 167 rfl)) (mvT hZ (ww hw 168 rfl)) (mvT hZ (ww hw 169 rfl)) (by decide) (backOf (W := 0) (rm22_2 l Z a0 hw [] r1 r2 c3 r4 r5 h0 n0 O0 f5 f6 f7 f8 f9) hZ (ww hw 169 rfl) (ww hw 168 rfl) (by decide) (by decide)) (g := (mkF m 8 #[.val (.ref r0)] [(.int (2 : Int32)), (.ref r1)])) rfl (by rw [hml]; rfl) (argsL := [(.ref r1), (.int (2 : Int32))]) (rest := []) (lenOf pd___Ljava_lang_Object_I__Ljava_lang_Object_ rfl) rfl (by show 2 * 0 + _ ≤ _; exact Nat.le_of_eq rfl) (hb hby d21_8) (fun _ _ => ⟨rfl, e4, (by decide : 0 + 1 ≤ _), (by decide : 0 + 2 ≤ _)⟩)
  dsimp only [Pt.U, Pt.locs, Pt.cells, Pt.slots] at X10 l10 y10 z10 st10 hQ10
  subst l10 y10 z10
  obtain ⟨b10_0, k10_0, rfl, N10q, K10, f11, f12, f13, f14⟩ := hQ10
  have N10 := Fr.app N0 N10q
  have kp15 : Keep h0 T10.heap [] := (Keep.refl h0 []).trans K10 all0
  obtain ⟨fs, hr, hrun, hended, hW, hsame⟩ := X10.leave (v := some (.ref b10_0)) (fun h => by rw [Bd.returns] at h; cases h)
  refine ⟨_, _, pre0 _ ?_, hrun, hended, _, _, rfl, ?_, ⟨_, rfl⟩, hW, hsame.mono (by decide) (by decide)⟩
  · show Steps p.tables e below (s₁.setTop (mkF m 0 #[.val (.ref r0)] [])) _
    refine XS.aloadN X0.here hx rfl (hb hby d21_0) rfl rfl ?_
    refine st2 _ ?_
    show Steps p.tables e below (T2.setTop (mkF m 4 #[.val (.ref r0)] [(.ref r1)])) _
    refine XS.aloadN X2.here hx rfl (hb hby d21_4) rfl rfl ?_
    refine st4 _ ?_
    show Steps p.tables e below (T4.setTop (mkF m 8 #[.val (.ref r0)] [(.int (2 : Int32)), (.ref r1)])) _
    refine st10 _ ?_
    show Steps p.tables e below (T10.setTop (mkF m 11 #[.val (.ref r0)] [(.ref b10_0)])) _
    exact retOut X10 hx (i := .areturn) Bd.returns rfl (Or.inr (Or.inr (Or.inr (Or.inr ⟨rfl, rfl, rfl⟩)))) (hb hby d21_11) hr
  · show Q21_2 Z r0 r1 r2 c3 r4 r5 h0 n0 _ T10.heap _
    exact ⟨b10_0, k10_0, rfl, N10, kp15, f11, f12, f13, f14⟩
theorem d25_45 : decode jdk_40_method_47_code 45 = .ok (.new 96, 3) := by decide +kernel
theorem d25_48 : decode jdk_40_method_47_code 48 = .ok (.dup, 1) := by decide +kernel
theorem d25_49 : decode jdk_40_method_47_code 49 = .ok (.aload_n 0, 1) := by decide +kernel
theorem d25_50 : decode jdk_40_method_47_code 50 = .ok (.iconst 0, 1) := by decide +kernel
theorem d25_51 : decode jdk_40_method_47_code 51 = .ok (.aaload, 1) := by decide +kernel
theorem d25_52 : decode jdk_40_method_47_code 52 = .ok (.aload_n 0, 1) := by decide +kernel
theorem d25_53 : decode jdk_40_method_47_code 53 = .ok (.iconst 1, 1) := by decide +kernel
theorem d25_54 : decode jdk_40_method_47_code 54 = .ok (.aaload, 1) := by decide +kernel
theorem d25_55 : decode jdk_40_method_47_code 55 = .ok (.invokespecial 100, 3) := by decide +kernel
theorem d34_0 : decode jdk_44_method_2_code 0 = .ok (.aload_n 0, 1) := by decide +kernel
theorem d34_1 : decode jdk_44_method_2_code 1 = .ok (.invokespecial 1, 3) := by decide +kernel
theorem d34_4 : decode jdk_44_method_2_code 4 = .ok (.aload_n 0, 1) := by decide +kernel
theorem d34_5 : decode jdk_44_method_2_code 5 = .ok (.aload_n 1, 1) := by decide +kernel
theorem d34_6 : decode jdk_44_method_2_code 6 = .ok (.invokestatic 7, 3) := by decide +kernel
theorem d34_9 : decode jdk_44_method_2_code 9 = .ok (.putfield 13, 3) := by decide +kernel
theorem d34_12 : decode jdk_44_method_2_code 12 = .ok (.aload_n 0, 1) := by decide +kernel
theorem d34_13 : decode jdk_44_method_2_code 13 = .ok (.aload_n 2, 1) := by decide +kernel
theorem d34_14 : decode jdk_44_method_2_code 14 = .ok (.invokestatic 7, 3) := by decide +kernel
theorem d34_17 : decode jdk_44_method_2_code 17 = .ok (.putfield 24, 3) := by decide +kernel
theorem d34_20 : decode jdk_44_method_2_code 20 = .ok (.return_, 1) := by decide +kernel
def Q34_1 (Z : State) (r0 : Addr) (r1 : Addr) (r2 : Addr) (h0 : Heap) (n0 : Nat) (v : Option Value) (h : Heap) (L : List Loc) : Prop := v = none ∧ Fr n0 L ∧ Keep h0 h [r0] ∧ Fld Z h r0 cs18 "e0" "Ljava/lang/Object;" (.ref r1) ∧ Fld Z h r0 cs18 "e1" "Ljava/lang/Object;" (.ref r2)
set_option maxRecDepth 65536 in
set_option maxHeartbeats 40000000 in
theorem rm34_1 (l : Launch) (Z : State) (a0 : Array Value) (hw : ∀ d ∈ tables_1, d.before a0 Z = true) (ws : List Jvm.Cond) (r0 : Addr) (r1 : Addr) (r2 : Addr) (h0 : Heap) (n0 : Nat) (O0 : Old Z n0 h0) (f3 : Exa Z h0 r0 cs18) (f4 : Fld Z h0 r0 cs18 "e0" "Ljava/lang/Object;" .null) (g5 : n0 ≤ r0) (f10 : Fld Z h0 r0 cs18 "e1" "Ljava/lang/Object;" .null) :
    MetFree l (⟨cs18, "<init>", cs20⟩ : MethodName) (head1 (Jvm.Cond.code (⟨cs18, "<init>", cs20⟩ : MethodName) jdk_44_method_2_code 3 none :: ws) ({ frames := 4, cells := 0, slots := 0, locals := 48 } : Room)) (fun a U => a = #[(.ref r0), (.ref r1), (.ref r2)] ∧ Z.Warmed39 U.vm ∧ U.heap = h0) (fun _ _ _ _ _ => True) (fun _ U o U' => ∃ v L, o = .returned v ∧ Q34_1 Z r0 r1 r2 h0 n0 v U'.heap L ∧ FrameEnd U o U' L ({ frames := 4, cells := 0, slots := 0, locals := 48 } : Room).cells ({ frames := 4, cells := 0, slots := 0, locals := 48 } : Room).slots) := by
  refine MetFree.of_bodySF (plainFor_of_name pn_java_util_ImmutableCollections_List12) hisR ?_
  intro p e s m args below meth c s₁ Bd hml0 hP hK
  obtain ⟨rfl, hZ, hh⟩ := hP
  have hx := Bd.exec
  have hby := Bd.bytes
  have hml : c.maxLocals = 3 := hml0
  have hown : s.vm.findClass cs18 = some m.cls := findClass_of_methodNamed Bd.named
  have hnm := (name_of_methodNamed Bd.named Bd.method).1
  have X0 : Stand p l e ({ frames := 4, cells := 0, slots := 0, locals := 48 } : Room) s m #[(.ref r0), (.ref r1), (.ref r2)] below meth c s₁ [] 0 0 := Stand.of_body Bd
  have e0 : s₁.heap = h0 := by rw [← hh, Bd.state]; rfl
  have N0 := Fr.nil n0
  have pre0 : ∀ t, Steps p.tables e below (s₁.setTop (mkF m 0 #[.val (.ref r0), .val (.ref r1), .val (.ref r2)] [])) t → Steps p.tables e below (s₁.setTop (entryFrame m #[(.ref r0), (.ref r1), (.ref r2)] 3)) t := fun t k => castTop (by first | (simp [entryFrame, mkF, argsToLocals, Value.category]; done) | rfl) k
  obtain ⟨_, _, ⟨T1, L1, k1, n1⟩, -, X1, ⟨Lc1, hQ1, l1, y1, z1⟩, st1⟩ := X0.specialBack hx (y := (⟨cs16, "<init>", "()V"⟩ : MethodName)) rfl hown (mvT hZ (ww hw 198 rfl)) (mvT hZ (ww hw 199 rfl)) (mvT hZ (ww hw 203 rfl)) (by decide) (backOf (W := 0) (rm27_1 l Z a0 hw [] r0 h0 n0 O0) hZ (ww hw 203 rfl) (ww hw 202 rfl) (by decide) (by decide)) (g := (mkF m 1 #[.val (.ref r0), .val (.ref r1), .val (.ref r2)] [(.ref r0)])) rfl (by rw [hml]; rfl) (Steps.refl _) (a := r0) (argsL := []) (rest := []) (lenOf pd___V rfl) rfl (by show 2 * 0 + _ ≤ _; exact Nat.le_of_eq rfl) (hb hby d34_1) (fun _ _ => ⟨rfl, e0, (by decide : 0 + 0 ≤ _), (by decide : 0 + 0 ≤ _)⟩)
  dsimp only [Pt.U, Pt.locs, Pt.cells, Pt.slots] at X1 l1 y1 z1 st1 hQ1
  subst l1 y1 z1
  obtain ⟨rfl, N1q, E1⟩ := hQ1
  have N1 := Fr.app N0 N1q
  obtain ⟨_, _, ⟨T2, L2, k2, n2⟩, -, X2, ⟨Lc2, hQ2, l2, y2, z2⟩, st2⟩ := Jvm.LawKit.callS X1 hx (y := (⟨"java/util/Objects", "requireNonNull", cs17⟩ : MethodName)) hown (mvT hZ (ww hw 212 rfl)) (mvT hZ (ww hw 213 rfl)) (mvT hZ (ww hw 214 rfl)) (mvT hZ (ww hw 215 rfl)) (by decide) (backOf (W := 1) (rm29_1 l Z a0 hw [] r1 h0 n0 O0) hZ (ww hw 215 rfl) (ww hw 214 rfl) (by decide) (by decide)) (g := (mkF m 6 #[.val (.ref r0), .val (.ref r1), .val (.ref r2)] [(.ref r1), (.ref r0)])) rfl (by rw [hml]; rfl) (argsL := [(.ref r1)]) (rest := [(.ref r0)]) (lenOf pd__Ljava_lang_Object__Ljava_lang_Object_ rfl) rfl (by show 2 * 0 + _ ≤ _; exact Nat.le_of_eq rfl) (hb hby d34_6) (fun _ _ => ⟨rfl, E1, (by decide : 0 + 0 ≤ _), (by decide : 0 + 0 ≤ _)⟩)
  dsimp only [Pt.U, Pt.locs, Pt.cells, Pt.slots] at X2 l2 y2 z2 st2 hQ2
  subst l2 y2 z2
  obtain ⟨rfl, N2q, E2⟩ := hQ2
  have N2 := Fr.app N1 N2q
  obtain ⟨T6, h6, X6, e6, W6, st6⟩ := putF X2 hx hZ hown (host := "") (Or.inl (ww hw 216 rfl)) Via.refl E2 f4 f3 (Or.inr ⟨(ww hw 217 rfl), rfl, hnm⟩) (ww hw 192 rfl) (ty := (.object "java/lang/Object")) (by decide) rfl rfl (g := (mkF m 9 #[.val (.ref r0), .val (.ref r1), .val (.ref r2)] [(.ref r1), (.ref r0)])) rfl rfl (hb hby d34_9)
  have Fw6 := f4.same W6
  have N6 := Fr.snoc X6 N2 g5
  have o7 := Old.wr O0 W6 g5
  obtain ⟨_, _, ⟨T8, L8, k8, n8⟩, -, X8, ⟨Lc8, hQ8, l8, y8, z8⟩, st8⟩ := Jvm.LawKit.callS X6 hx (y := (⟨"java/util/Objects", "requireNonNull", cs17⟩ : MethodName)) hown (mvT hZ (ww hw 212 rfl)) (mvT hZ (ww hw 213 rfl)) (mvT hZ (ww hw 214 rfl)) (mvT hZ (ww hw 215 rfl)) (by decide) (backOf (W := 1) (rm29_1 l Z a0 hw [] r2 h6 n0 o7) hZ (ww hw 215 rfl) (ww hw 214 rfl) (by decide) (by decide)) (g := (mkF m 14 #[.val (.ref r0), .val (.ref r1), .val (.ref r2)] [(.ref r2), (.ref r0)])) rfl (by rw [hml]; rfl) (argsL := [(.ref r2)]) (rest := [(.ref r0)]) (lenOf pd__Ljava_lang_Object__Ljava_lang_Object_ rfl) rfl (by show 2 * 0 + _ ≤ _; exact Nat.le_of_eq rfl) (hb hby d34_14) (fun _ _ => ⟨rfl, e6, (by decide : 0 + 0 ≤ _), (by decide : 0 + 0 ≤ _)⟩)
  dsimp only [Pt.U, Pt.locs, Pt.cells, Pt.slots] at X8 l8 y8 z8 st8 hQ8
  subst l8 y8 z8
  obtain ⟨rfl, N8q, E8⟩ := hQ8
  have N8 := Fr.app N6 N8q
  have f9 := (f3.wr W6)
  have f11 := (f10.other W6 (Or.inr (slot_ne (Or.inr (ww hw 220 rfl)) (Or.inr (ww hw 217 rfl)) (by decide) (t := (.object "java/lang/Object")) (t' := (.object "java/lang/Object")) (by decide) (by decide))))
  obtain ⟨T12, h12, X12, e12, W12, st12⟩ := putF X8 hx hZ hown (host := "") (Or.inl (ww hw 219 rfl)) Via.refl E8 f11 f9 (Or.inr ⟨(ww hw 220 rfl), rfl, hnm⟩) (ww hw 192 rfl) (ty := (.object "java/lang/Object")) (by decide) rfl rfl (g := (mkF m 17 #[.val (.ref r0), .val (.ref r1), .val (.ref r2)] [(.ref r2), (.ref r0)])) rfl rfl (hb hby d34_17)
  have Fw12 := f11.same W12
  have N12 := Fr.snoc X12 N8 g5
  have f13 := (Fw6.other W12 (Or.inr (slot_ne (Or.inr (ww hw 217 rfl)) (Or.inr (ww hw 220 rfl)) (by decide) (t := (.object "java/lang/Object")) (t' := (.object "java/lang/Object")) (by decide) (by decide))))
  have kp14 : Keep h0 h6 [r0] := (Keep.refl h0 [r0]).wr W6 (Or.inl (List.mem_of_getElem? (i := 0) rfl))
  have kp15 : Keep h0 h12 [r0] := kp14.wr W12 (Or.inl (List.mem_of_getElem? (i := 0) rfl))
  obtain ⟨fs, hr, hrun, hended, hW, hsame⟩ := X12.leave (v := none) (fun _ => rfl)
  refine ⟨_, _, pre0 _ ?_, hrun, hended, _, _, rfl, ?_, ⟨_, rfl⟩, hW, hsame.mono (by decide) (by decide)⟩
  · show Steps p.tables e below (s₁.setTop (mkF m 0 #[.val (.ref r0), .val (.ref r1), .val (.ref r2)] [])) _
    refine XS.aloadN X0.here hx rfl (hb hby d34_0) rfl rfl ?_
    refine st1.trans ?_
    show Steps p.tables e below (T1.setTop (mkF m 4 #[.val (.ref r0), .val (.ref r1), .val (.ref r2)] [])) _
    refine XS.aloadN X1.here hx rfl (hb hby d34_4) rfl rfl ?_
    refine XS.aloadN X1.here hx rfl (hb hby d34_5) rfl rfl ?_
    refine st2 _ ?_
    show Steps p.tables e below (T2.setTop (mkF m 9 #[.val (.ref r0), .val (.ref r1), .val (.ref r2)] [(.ref r1), (.ref r0)])) _
    refine st6 _ ?_
    show Steps p.tables e below (T6.setTop (mkF m 12 #[.val (.ref r0), .val (.ref r1), .val (.ref r2)] [])) _
    refine XS.aloadN X6.here hx rfl (hb hby d34_12) rfl rfl ?_
    refine XS.aloadN X6.here hx rfl (hb hby d34_13) rfl rfl ?_
    refine st8 _ ?_
    show Steps p.tables e below (T8.setTop (mkF m 17 #[.val (.ref r0), .val (.ref r1), .val (.ref r2)] [(.ref r2), (.ref r0)])) _
    refine st12 _ ?_
    show Steps p.tables e below (T12.setTop (mkF m 20 #[.val (.ref r0), .val (.ref r1), .val (.ref r2)] [])) _
    exact X12.returnOut hx Bd.returns (hb hby d34_20) hr
  · show Q34_1 Z r0 r1 r2 h0 n0 _ T12.heap _
    rw [e12]
    exact ⟨rfl, N12, kp15, f13, Fw12⟩
theorem pd__Ljava_lang_Object_Ljava_lang_Object__V : parseMethodDescriptor cs20 = some ⟨[(.object "java/lang/Object"), (.object "java/lang/Object")], none⟩ := by decide +kernel
theorem d25_58 : decode jdk_40_method_47_code 58 = .ok (.areturn, 1) := by decide +kernel
def Q25_2 (Z : State) (r0 : Addr) (c1 : ClassId) (r2 : Addr) (r3 : Addr) (h0 : Heap) (n0 : Nat) (v : Option Value) (h : Heap) (L : List Loc) : Prop := ∃ (b3 : Addr), v = some (.ref b3) ∧ Fr n0 L ∧ Keep h0 h [] ∧ h0.size ≤ b3 ∧ Exa Z h b3 cs18 ∧ Fld Z h b3 cs18 "e0" "Ljava/lang/Object;" (.ref r2) ∧ Fld Z h b3 cs18 "e1" "Ljava/lang/Object;" (.ref r3)
set_option maxRecDepth 65536 in
set_option maxHeartbeats 40000000 in
theorem rm25_2 (l : Launch) (Z : State) (a0 : Array Value) (hw : ∀ d ∈ tables_1, d.before a0 Z = true) (ws : List Jvm.Cond) (r0 : Addr) (c1 : ClassId) (r2 : Addr) (r3 : Addr) (h0 : Heap) (n0 : Nat) (O0 : Old Z n0 h0) (f1 : Arv Z h0 r0 c1 (.object "java/lang/Object") (2 : Int32) [(.ref r2), (.ref r3)] .null) :
    MetFree l (⟨"java/util/List", "of", cs19⟩ : MethodName) (head1 (Jvm.Cond.code (⟨"java/util/List", "of", cs19⟩ : MethodName) jdk_40_method_47_code 2 (some (.object "java/util/List")) :: ws) ({ frames := 5, cells := 1, slots := 2, locals := 63 } : Room)) (fun a U => a = #[(.ref r0)] ∧ Z.Warmed39 U.vm ∧ U.heap = h0) (fun _ _ _ _ _ => True) (fun _ U o U' => ∃ v L, o = .returned v ∧ Q25_2 Z r0 c1 r2 r3 h0 n0 v U'.heap L ∧ FrameEnd U o U' L ({ frames := 5, cells := 1, slots := 2, locals := 63 } : Room).cells ({ frames := 5, cells := 1, slots := 2, locals := 63 } : Room).slots) := by
  refine MetFree.of_bodySF (plainFor_of_name pn_java_util_List) hisR ?_
  intro p e s m args below meth c s₁ Bd hml0 hP hK
  obtain ⟨rfl, hZ, hh⟩ := hP
  have hx := Bd.exec
  have hby := Bd.bytes
  have hml : c.maxLocals = 2 := hml0
  have hown : s.vm.findClass "java/util/List" = some m.cls := findClass_of_methodNamed Bd.named
  have hnm := (name_of_methodNamed Bd.named Bd.method).1
  have X0 : Stand p l e ({ frames := 5, cells := 1, slots := 2, locals := 63 } : Room) s m #[(.ref r0)] below meth c s₁ [] 0 0 := Stand.of_body Bd
  have e0 : s₁.heap = h0 := by rw [← hh, Bd.state]; rfl
  have N0 := Fr.nil n0
  have pre0 : ∀ t, Steps p.tables e below (s₁.setTop (mkF m 0 #[.val (.ref r0), .unset] [])) t → Steps p.tables e below (s₁.setTop (entryFrame m #[(.ref r0)] 2)) t := fun t k => castTop (by first | (simp [entryFrame, mkF, argsToLocals, Value.category]; done) | rfl) k
  obtain ⟨clq2, Arq2, qq2, Sq2, Nq2, Hq2, Gq2⟩ := id f1
  obtain ⟨T3, h3, X3, e3, E3, A3, D3, -, st3⟩ := newO X0 hx hZ hown (ww hw 191 rfl) (ww hw 192 rfl) (ww hw 193 rfl) e0 (g := (mkF m 45 #[.val (.ref r0), .unset] [])) rfl (hb hby d25_45) (by decide) (by decide)
  obtain ⟨b3, g3⟩ : ∃ z, z = h0.size := ⟨_, rfl⟩
  rw [← g3] at A3 D3 st3
  have f4 : Fld Z h3 b3 cs18 "e0" "Ljava/lang/Object;" .null := D3 (Or.inr (ww hw 217 rfl)) (ty := (.object "java/lang/Object")) (by decide)
  have f5 : Fld Z h3 b3 cs18 "e1" "Ljava/lang/Object;" .null := D3 (Or.inr (ww hw 220 rfl)) (ty := (.object "java/lang/Object")) (by decide)
  have f6 := (f1.ext E3)
  obtain ⟨clq7, Arq7, qq7, Sq7, Nq7, Hq7, Gq7⟩ := id f6
  obtain ⟨clq8, Arq8, qq8, Sq8, Nq8, Hq8, Gq8⟩ := id f6
  have zz9 : n0 ≤ h0.size := by rw [← O0.1]; exact O0.2.1
  have g10 := Nat.le_trans zz9 (Nat.le_of_eq g3.symm)
  have o11 := Old.ext O0 E3
  obtain ⟨_, _, ⟨T12, L12, k12, n12⟩, -, X12, ⟨Lc12, hQ12, l12, y12, z12⟩, st12⟩ := X3.specialBack hx (y := (⟨cs18, "<init>", cs20⟩ : MethodName)) rfl hown (mvT hZ (ww hw 252 rfl)) (mvT hZ (ww hw 253 rfl)) (mvT hZ (ww hw 254 rfl)) (by decide) (backOf (W := 1) (rm34_1 l Z a0 hw [] b3 r2 r3 h3 n0 o11 A3 f4 g10 f5) hZ (ww hw 254 rfl) (ww hw 193 rfl) (by decide) (by decide)) (g := (mkF m 55 #[.val (.ref r0), .unset] [(.ref r3), (.ref r2), (.ref b3), (.ref b3)])) rfl (by rw [hml]; rfl) (Steps.refl _) (a := b3) (argsL := [(.ref r2), (.ref r3)]) (rest := [(.ref b3)]) (lenOf pd__Ljava_lang_Object_Ljava_lang_Object__V rfl) rfl (by show 2 * 0 + _ ≤ _; exact Nat.le_of_eq rfl) (hb hby d25_55) (fun _ _ => ⟨rfl, e3, (by decide : 1 + 0 ≤ _), (by decide : 2 + 0 ≤ _)⟩)
  dsimp only [Pt.U, Pt.locs, Pt.cells, Pt.slots] at X12 l12 y12 z12 st12 hQ12
  subst l12 y12 z12
  obtain ⟨rfl, N12q, K12, f13, f14⟩ := hQ12
  have N12 := Fr.app N0 N12q
  have f15 := (A3.keep K12)
  have kp16 : Keep h0 h3 [] := (Keep.refl h0 []).ext E3
  have kp17 : Keep h0 T12.heap [] := kp16.trans K12 (allS (Or.inr (Nat.le_of_eq g3.symm)) all0)
  obtain ⟨fs, hr, hrun, hended, hW, hsame⟩ := X12.leave (v := some (.ref b3)) (fun h => by rw [Bd.returns] at h; cases h)
  refine ⟨_, _, pre0 _ ?_, hrun, hended, _, _, rfl, ?_, ⟨_, rfl⟩, hW, hsame.mono (by decide) (by decide)⟩
  · show Steps p.tables e below (s₁.setTop (mkF m 0 #[.val (.ref r0), .unset] [])) _
    refine XS.aloadN X0.here hx rfl (hb hby d25_0) rfl rfl ?_
    refine X0.arraylength hx (by rw [e0]; exact Arq2.1) (State.isArrayOf_alike hZ.alike Arq2.2.1) (g := (mkF m 1 #[.val (.ref r0), .unset] [(.ref r0)])) rfl rfl (hb hby d25_1) _ ?_
    rw [len_of Sq2 Nq2]
    show Steps p.tables e below (s₁.setTop (mkF m 2 #[.val (.ref r0), .unset] [(.int (2 : Int32))])) _
    refine XS.tswIn X0.here hx rfl (pc0 := 2) (pc' := 45) rfl (hb hby d25_2) rfl (by decide) rfl (by decide) (by decide) ?_
    refine st3 _ ?_
    show Steps p.tables e below (T3.setTop (mkF m 48 #[.val (.ref r0), .unset] [(.ref b3)])) _
    refine XS.dup X3.here hx rfl (hb hby d25_48) rfl rfl ?_
    refine XS.aloadN X3.here hx rfl (hb hby d25_49) rfl rfl ?_
    refine XS.iconst X3.here hx rfl (hb hby d25_50) ?_
    refine X3.aaload hx (j := (0 : Int32)) (v := (.ref r2)) (by rw [e3]; exact Arq7.1) (State.isArrayOf_alike hZ.alike Arq7.2.1) rfl Arq7.2.2 (inb_of Sq7 ⟨(by decide : ¬ ((0 : Int32) < (0 : Int32))), (by decide : (0 : Int32) < (2 : Int32))⟩) (Has.at Hq7 (inb_of Sq7 ⟨(by decide : ¬ ((0 : Int32) < (0 : Int32))), (by decide : (0 : Int32) < (2 : Int32))⟩) rfl) (g := (mkF m 51 #[.val (.ref r0), .unset] [(.int (0 : Int32)), (.ref r0), (.ref b3), (.ref b3)])) rfl rfl (hb hby d25_51) _ ?_
    show Steps p.tables e below (T3.setTop (mkF m 52 #[.val (.ref r0), .unset] [(.ref r2), (.ref b3), (.ref b3)])) _
    refine XS.aloadN X3.here hx rfl (hb hby d25_52) rfl rfl ?_
    refine XS.iconst X3.here hx rfl (hb hby d25_53) ?_
    refine X3.aaload hx (j := (1 : Int32)) (v := (.ref r3)) (by rw [e3]; exact Arq8.1) (State.isArrayOf_alike hZ.alike Arq8.2.1) rfl Arq8.2.2 (inb_of Sq8 ⟨(by decide : ¬ ((1 : Int32) < (0 : Int32))), (by decide : (1 : Int32) < (2 : Int32))⟩) (Has.at Hq8 (inb_of Sq8 ⟨(by decide : ¬ ((1 : Int32) < (0 : Int32))), (by decide : (1 : Int32) < (2 : Int32))⟩) rfl) (g := (mkF m 54 #[.val (.ref r0), .unset] [(.int (1 : Int32)), (.ref r0), (.ref r2), (.ref b3), (.ref b3)])) rfl rfl (hb hby d25_54) _ ?_
    show Steps p.tables e below (T3.setTop (mkF m 55 #[.val (.ref r0), .unset] [(.ref r3), (.ref r2), (.ref b3), (.ref b3)])) _
    refine st12.trans ?_
    show Steps p.tables e below (T12.setTop (mkF m 58 #[.val (.ref r0), .unset] [(.ref b3)])) _
    exact retOut X12 hx (i := .areturn) Bd.returns rfl (Or.inr (Or.inr (Or.inr (Or.inr ⟨rfl, rfl, rfl⟩)))) (hb hby d25_58) hr
  · show Q25_2 Z r0 c1 r2 r3 h0 n0 _ T12.heap _
    exact ⟨b3, rfl, N12, kp17, (Nat.le_of_eq g3.symm), f15, f13, f14⟩
def Q8_3 (Z : State) (r0 : Addr) (r1 : Addr) (r2 : Addr) (c3 : ClassId) (r4 : Addr) (r5 : Addr) (h0 : Heap) (n0 : Nat) (v : Option Value) (h : Heap) (L : List Loc) : Prop := ∃ (b20_0 : Addr), v = some (.ref b20_0) ∧ Fr n0 L ∧ Keep h0 h [] ∧ h0.size ≤ b20_0 ∧ Exa Z h b20_0 cs18 ∧ Fld Z h b20_0 cs18 "e0" "Ljava/lang/Object;" (.ref r4) ∧ Fld Z h b20_0 cs18 "e1" "Ljava/lang/Object;" (.ref r5)
set_option maxRecDepth 65536 in
set_option maxHeartbeats 40000000 in
theorem rm8_3 (l : Launch) (Z : State) (a0 : Array Value) (hw : ∀ d ∈ tables_1, d.before a0 Z = true) (ws : List Jvm.Cond) (r0 : Addr) (r1 : Addr) (r2 : Addr) (c3 : ClassId) (r4 : Addr) (r5 : Addr) (h0 : Heap) (n0 : Nat) (O0 : Old Z n0 h0) (f1 : Exa Z h0 r0 "java/util/ArrayList") (f4 : Fld Z h0 r0 "java/util/ArrayList" "size" "I" (.int (2 : Int32))) (f7 : Fld Z h0 r0 "java/util/ArrayList" "elementData" "[Ljava/lang/Object;" (.ref r1)) (f8 : Exa Z h0 r1 "[Ljava/lang/Object;") (f9 : own_Mir Z "[Ljava/lang/Object;" r2) (f10 : Arv Z h0 r1 c3 (.object "java/lang/Object") (10 : Int32) [(.ref r4), (.ref r5), .null, .null, .null, .null, .null, .null, .null, .null] .null) (f11 : Exa Z h0 r5 cs10) (f12 : Exa Z h0 r4 cs10) :
    MetFree l (⟨cs2, "listCopy", cs4⟩ : MethodName) (head1 (Jvm.Cond.code (⟨cs2, "listCopy", cs4⟩ : MethodName) jdk_56_method_3_code 2 (some (.object "java/util/List")) :: ws) ({ frames := 6, cells := 2, slots := 4, locals := 76 } : Room)) (fun a U => a = #[(.ref r0)] ∧ Z.Warmed39 U.vm ∧ U.heap = h0) (fun _ _ _ _ _ => True) (fun _ U o U' => ∃ v L, o = .returned v ∧ Q8_3 Z r0 r1 r2 c3 r4 r5 h0 n0 v U'.heap L ∧ FrameEnd U o U' L ({ frames := 6, cells := 2, slots := 4, locals := 76 } : Room).cells ({ frames := 6, cells := 2, slots := 4, locals := 76 } : Room).slots) := by
  refine MetFree.of_bodySF (plainFor_of_name pn_java_util_ImmutableCollections) hisR ?_
  intro p e s m args below meth c s₁ Bd hml0 hP hK
  obtain ⟨rfl, hZ, hh⟩ := hP
  have hx := Bd.exec
  have hby := Bd.bytes
  have hml : c.maxLocals = 2 := hml0
  have hown : s.vm.findClass cs2 = some m.cls := findClass_of_methodNamed Bd.named
  have hnm := (name_of_methodNamed Bd.named Bd.method).1
  have X0 : Stand p l e ({ frames := 6, cells := 2, slots := 4, locals := 76 } : Room) s m #[(.ref r0)] below meth c s₁ [] 0 0 := Stand.of_body Bd
  have e0 : s₁.heap = h0 := by rw [← hh, Bd.state]; rfl
  have N0 := Fr.nil n0
  have pre0 : ∀ t, Steps p.tables e below (s₁.setTop (mkF m 0 #[.val (.ref r0), .unset] [])) t → Steps p.tables e below (s₁.setTop (entryFrame m #[(.ref r0)] 2)) t := fun t k => castTop (by first | (simp [entryFrame, mkF, argsToLocals, Value.category]; done) | rfl) k
  obtain ⟨T2, X2, e2, st2⟩ := instNo X0 hx hZ hown (ww hw 50 rfl) e0 f1 (own_NSno (ww hw 51 rfl) (ww hw 192 rfl) (NS.step (ww hw 51 rfl) (NS.step (ww hw 52 rfl) (NS.step (ww hw 53 rfl) (own_NSroot (ww hw 54 rfl) (ww hw 192 rfl) (by decide)) (by decide)) (by decide)) (by decide)) (by decide)) (g := (mkF m 1 #[.val (.ref r0), .unset] [(.ref r0)])) rfl rfl (hb hby d8_1)
  obtain ⟨T3, X3, e3, st3⟩ := instNo X2 hx hZ hown (ww hw 55 rfl) e2 f1 (own_NSno (ww hw 51 rfl) (ww hw 241 rfl) (NS.step (ww hw 51 rfl) (NS.step (ww hw 52 rfl) (NS.step (ww hw 53 rfl) (own_NSroot (ww hw 54 rfl) (ww hw 241 rfl) (by decide)) (by decide)) (by decide)) (by decide)) (by decide)) (g := (mkF m 8 #[.val (.ref r0), .unset] [(.ref r0)])) rfl rfl (hb hby d8_8)
  obtain ⟨cqq6, kqq6, qq6a, qq6b, qq6c⟩ := isOf hZ e3 f1
  obtain ⟨_, _, ⟨T5, L5, k5, n5⟩, -, X5, ⟨Lc5, hQ5, l5, y5, z5⟩, st5⟩ := X3.interfaceBack hx (xi := (⟨"java/util/Collection", "isEmpty", "()Z"⟩ : MethodName)) (y := (⟨"java/util/ArrayList", "isEmpty", "()Z"⟩ : MethodName)) hown (mvT hZ (ww hw 56 rfl)) (mvT hZ (ww hw 57 rfl)) (mvT hZ (ww hw 58 rfl)) (mvT hZ (ww hw 59 rfl)) (mvT hZ (ww hw 60 rfl)) (mvT hZ (ww hw 61 rfl)) (mvT hZ (ww hw 62 rfl)) (mvT hZ (ww hw 63 rfl)) (by decide) (backOf (W := 0) (rm9_3 l Z a0 hw [] r0 h0 n0 O0 f4) hZ (ww hw 64 rfl) (ww hw 9 rfl) (by decide) (by decide)) qq6a qq6b qq6c (g := (mkF m 32 #[.val (.ref r0), .unset] [(.ref r0)])) rfl (by rw [hml]; rfl) (Steps.refl _) (argsL := []) (rest := []) (lenOf pd___Z rfl) rfl (by show 2 * 0 + _ ≤ _; exact Nat.le_of_eq rfl) (hb hby d8_32) (fun _ _ => ⟨rfl, e3, (by decide : 0 + 0 ≤ _), (by decide : 0 + 0 ≤ _)⟩)
  dsimp only [Pt.U, Pt.locs, Pt.cells, Pt.slots] at X5 l5 y5 z5 st5 hQ5
  subst l5 y5 z5
  obtain ⟨rfl, N5q, E5⟩ := hQ5
  have N5 := Fr.app N0 N5q
  obtain ⟨cqq14, kqq14, qq14a, qq14b, qq14c⟩ := isOf hZ E5 f1
  obtain ⟨_, _, ⟨T13, L13, k13, n13⟩, -, X13, ⟨Lc13, hQ13, l13, y13, z13⟩, st13⟩ := X5.interfaceBack hx (xi := (⟨"java/util/Collection", "toArray", "()[Ljava/lang/Object;"⟩ : MethodName)) (y := (⟨"java/util/ArrayList", "toArray", "()[Ljava/lang/Object;"⟩ : MethodName)) hown (mvT hZ (ww hw 158 rfl)) (mvT hZ (ww hw 159 rfl)) (mvT hZ (ww hw 160 rfl)) (mvT hZ (ww hw 161 rfl)) (mvT hZ (ww hw 162 rfl)) (mvT hZ (ww hw 163 rfl)) (mvT hZ (ww hw 164 rfl)) (mvT hZ (ww hw 63 rfl)) (by decide) (backOf (W := 0) (rm21_2 l Z a0 hw [] r0 r1 r2 c3 r4 r5 h0 n0 O0 f7 f4 f8 f9 f10 f11 f12) hZ (ww hw 165 rfl) (ww hw 9 rfl) (by decide) (by decide)) qq14a qq14b qq14c (g := (mkF m 45 #[.val (.ref r0), .unset] [(.ref r0)])) rfl (by rw [hml]; rfl) (Steps.refl _) (argsL := []) (rest := []) (lenOf pd____Ljava_lang_Object_ rfl) rfl (by show 2 * 0 + _ ≤ _; exact Nat.le_of_eq rfl) (hb hby d8_45) (fun _ _ => ⟨rfl, E5, (by decide : 0 + 1 ≤ _), (by decide : 0 + 2 ≤ _)⟩)
  dsimp only [Pt.U, Pt.locs, Pt.cells, Pt.slots] at X13 l13 y13 z13 st13 hQ13
  subst l13 y13 z13
  obtain ⟨b13_0, k13_0, rfl, N13q, K13, f15, f16, f17, f18⟩ := hQ13
  have N13 := Fr.app N5 N13q
  have o19 := Old.keep O0 K13 all0
  obtain ⟨_, _, ⟨T20, L20, k20, n20⟩, -, X20, ⟨Lc20, hQ20, l20, y20, z20⟩, st20⟩ := Jvm.LawKit.callS X13 hx (y := (⟨"java/util/List", "of", cs19⟩ : MethodName)) hown (mvT hZ (ww hw 188 rfl)) (mvT hZ (ww hw 189 rfl)) (mvT hZ (ww hw 44 rfl)) (mvT hZ (ww hw 190 rfl)) (by decide) (backOf (W := 0) (rm25_2 l Z a0 hw [] b13_0 k13_0 r4 r5 T13.heap n0 o19 f16) hZ (ww hw 190 rfl) (ww hw 44 rfl) (by decide) (by decide)) (g := (mkF m 50 #[.val (.ref r0), .unset] [(.ref b13_0)])) rfl (by rw [hml]; rfl) (argsL := [(.ref b13_0)]) (rest := []) (lenOf pd___Ljava_lang_Object__Ljava_util_List_ rfl) rfl (by show 2 * 0 + _ ≤ _; exact Nat.le_of_eq rfl) (hb hby d8_50) (fun _ _ => ⟨rfl, rfl, (by decide : 1 + 1 ≤ _), (by decide : 2 + 2 ≤ _)⟩)
  dsimp only [Pt.U, Pt.locs, Pt.cells, Pt.slots] at X20 l20 y20 z20 st20 hQ20
  subst l20 y20 z20
  obtain ⟨b20_0, rfl, N20q, K20, f21, f22, f23, f24⟩ := hQ20
  have N20 := Fr.app N13 N20q
  have zs25 := K13.1
  have kp26 : Keep h0 T13.heap [] := (Keep.refl h0 []).trans K13 all0
  have kp27 : Keep h0 T20.heap [] := kp26.trans K20 all0
  obtain ⟨fs, hr, hrun, hended, hW, hsame⟩ := X20.leave (v := some (.ref b20_0)) (fun h => by rw [Bd.returns] at h; cases h)
  refine ⟨_, _, pre0 _ ?_, hrun, hended, _, _, rfl, ?_, ⟨_, rfl⟩, hW, hsame.mono (by decide) (by decide)⟩
  · show Steps p.tables e below (s₁.setTop (mkF m 0 #[.val (.ref r0), .unset] [])) _
    refine XS.aloadN X0.here hx rfl (hb hby d8_0) rfl rfl ?_
    refine st2 _ ?_
    show Steps p.tables e below (T2.setTop (mkF m 4 #[.val (.ref r0), .unset] [(.int (0 : Int32))])) _
    refine XS.ifNo X2.here hx rfl (hb hby d8_4) rfl ((if0 _ _).trans (teq (rfl : (0 : Int32) = (0 : Int32))).2) ?_
    refine XS.aloadN X2.here hx rfl (hb hby d8_7) rfl rfl ?_
    refine st3 _ ?_
    show Steps p.tables e below (T3.setTop (mkF m 11 #[.val (.ref r0), .unset] [(.int (0 : Int32))])) _
    refine XS.ifYes X3.here hx rfl (pc0 := 11) (pc' := 31) rfl (hb hby d8_11) rfl ((if0 _ _).trans (teq (rfl : (0 : Int32) = (0 : Int32))).1) (by decide) (by decide) ?_
    show Steps p.tables e below (T3.setTop (mkF m 31 #[.val (.ref r0), .unset] [])) _
    refine XS.aloadN X3.here hx rfl (hb hby d8_31) rfl rfl ?_
    refine st5.trans ?_
    show Steps p.tables e below (T5.setTop (mkF m 37 #[.val (.ref r0), .unset] [(.int (0 : Int32))])) _
    refine XS.ifYes X5.here hx rfl (pc0 := 37) (pc' := 44) rfl (hb hby d8_37) rfl ((if0 _ _).trans (teq (rfl : (0 : Int32) = (0 : Int32))).1) (by decide) (by decide) ?_
    show Steps p.tables e below (T5.setTop (mkF m 44 #[.val (.ref r0), .unset] [])) _
    refine XS.aloadN X5.here hx rfl (hb hby d8_44) rfl rfl ?_
    refine st13.trans ?_
    show Steps p.tables e below (T13.setTop (mkF m 50 #[.val (.ref r0), .unset] [(.ref b13_0)])) _
    refine st20 _ ?_
    show Steps p.tables e below (T20.setTop (mkF m 53 #[.val (.ref r0), .unset] [(.ref b20_0)])) _
    exact retOut X20 hx (i := .areturn) Bd.returns rfl (Or.inr (Or.inr (Or.inr (Or.inr ⟨rfl, rfl, rfl⟩)))) (hb hby d8_53) hr
  · show Q8_3 Z r0 r1 r2 c3 r4 r5 h0 n0 _ T20.heap _
    exact ⟨b20_0, rfl, N20, kp27, (Nat.le_trans zs25 f21), f22, f23, f24⟩
def Q7_3 (Z : State) (r0 : Addr) (r1 : Addr) (r2 : Addr) (c3 : ClassId) (r4 : Addr) (r5 : Addr) (h0 : Heap) (n0 : Nat) (v : Option Value) (h : Heap) (L : List Loc) : Prop := ∃ (b9_0 : Addr), v = some (.ref b9_0) ∧ Fr n0 L ∧ Keep h0 h [] ∧ h0.size ≤ b9_0 ∧ Exa Z h b9_0 cs18 ∧ Fld Z h b9_0 cs18 "e0" "Ljava/lang/Object;" (.ref r4) ∧ Fld Z h b9_0 cs18 "e1" "Ljava/lang/Object;" (.ref r5)
set_option maxRecDepth 65536 in
set_option maxHeartbeats 40000000 in
theorem rm7_3 (l : Launch) (Z : State) (a0 : Array Value) (hw : ∀ d ∈ tables_1, d.before a0 Z = true) (ws : List Jvm.Cond) (r0 : Addr) (r1 : Addr) (r2 : Addr) (c3 : ClassId) (r4 : Addr) (r5 : Addr) (h0 : Heap) (n0 : Nat) (O0 : Old Z n0 h0) (f1 : Exa Z h0 r0 "java/util/ArrayList") (f2 : Fld Z h0 r0 "java/util/ArrayList" "size" "I" (.int (2 : Int32))) (f3 : Fld Z h0 r0 "java/util/ArrayList" "elementData" "[Ljava/lang/Object;" (.ref r1)) (f4 : Exa Z h0 r1 "[Ljava/lang/Object;") (f5 : own_Mir Z "[Ljava/lang/Object;" r2) (f6 : Arv Z h0 r1 c3 (.object "java/lang/Object") (10 : Int32) [(.ref r4), (.ref r5), .null, .null, .null, .null, .null, .null, .null, .null] .null) (f7 : Exa Z h0 r5 cs10) (f8 : Exa Z h0 r4 cs10) :
    MetFree l (⟨"java/util/List", "copyOf", cs4⟩ : MethodName) (head1 (Jvm.Cond.code (⟨"java/util/List", "copyOf", cs4⟩ : MethodName) jdk_40_method_48_code 1 (some (.object "java/util/List")) :: ws) ({ frames := 7, cells := 2, slots := 4, locals := 89 } : Room)) (fun a U => a = #[(.ref r0)] ∧ Z.Warmed39 U.vm ∧ U.heap = h0) (fun _ _ _ _ _ => True) (fun _ U o U' => ∃ v L, o = .returned v ∧ Q7_3 Z r0 r1 r2 c3 r4 r5 h0 n0 v U'.heap L ∧ FrameEnd U o U' L ({ frames := 7, cells := 2, slots := 4, locals := 89 } : Room).cells ({ frames := 7, cells := 2, slots := 4, locals := 89 } : Room).slots) := by
  refine MetFree.of_bodySF (plainFor_of_name pn_java_util_List) hisR ?_
  intro p e s m args below meth c s₁ Bd hml0 hP hK
  obtain ⟨rfl, hZ, hh⟩ := hP
  have hx := Bd.exec
  have hby := Bd.bytes
  have hml : c.maxLocals = 1 := hml0
  have hown : s.vm.findClass "java/util/List" = some m.cls := findClass_of_methodNamed Bd.named
  have hnm := (name_of_methodNamed Bd.named Bd.method).1
  have X0 : Stand p l e ({ frames := 7, cells := 2, slots := 4, locals := 89 } : Room) s m #[(.ref r0)] below meth c s₁ [] 0 0 := Stand.of_body Bd
  have e0 : s₁.heap = h0 := by rw [← hh, Bd.state]; rfl
  have N0 := Fr.nil n0
  have pre0 : ∀ t, Steps p.tables e below (s₁.setTop (mkF m 0 #[.val (.ref r0)] [])) t → Steps p.tables e below (s₁.setTop (entryFrame m #[(.ref r0)] 1)) t := fun t k => castTop (by first | (simp [entryFrame, mkF, argsToLocals, Value.category]; done) | rfl) k
  obtain ⟨_, _, ⟨T9, L9, k9, n9⟩, -, X9, ⟨Lc9, hQ9, l9, y9, z9⟩, st9⟩ := Jvm.LawKit.callS X0 hx (y := (⟨cs2, "listCopy", cs4⟩ : MethodName)) hown (mvT hZ (ww hw 46 rfl)) (mvT hZ (ww hw 47 rfl)) (mvT hZ (ww hw 48 rfl)) (mvT hZ (ww hw 49 rfl)) (by decide) (backOf (W := 0) (rm8_3 l Z a0 hw [] r0 r1 r2 c3 r4 r5 h0 n0 O0 f1 f2 f3 f4 f5 f6 f7 f8) hZ (ww hw 49 rfl) (ww hw 48 rfl) (by decide) (by decide)) (g := (mkF m 1 #[.val (.ref r0)] [(.ref r0)])) rfl (by rw [hml]; rfl) (argsL := [(.ref r0)]) (rest := []) (lenOf pd__Ljava_util_Collection__Ljava_util_List_ rfl) rfl (by show 2 * 0 + _ ≤ _; exact Nat.le_of_eq rfl) (hb hby d7_1) (fun _ _ => ⟨rfl, e0, (by decide : 0 + 2 ≤ _), (by decide : 0 + 4 ≤ _)⟩)
  dsimp only [Pt.U, Pt.locs, Pt.cells, Pt.slots] at X9 l9 y9 z9 st9 hQ9
  subst l9 y9 z9
  obtain ⟨b9_0, rfl, N9q, K9, f10, f11, f12, f13⟩ := hQ9
  have N9 := Fr.app N0 N9q
  have kp14 : Keep h0 T9.heap [] := (Keep.refl h0 []).trans K9 all0
  obtain ⟨fs, hr, hrun, hended, hW, hsame⟩ := X9.leave (v := some (.ref b9_0)) (fun h => by rw [Bd.returns] at h; cases h)
  refine ⟨_, _, pre0 _ ?_, hrun, hended, _, _, rfl, ?_, ⟨_, rfl⟩, hW, hsame.mono (by decide) (by decide)⟩
  · show Steps p.tables e below (s₁.setTop (mkF m 0 #[.val (.ref r0)] [])) _
    refine XS.aloadN X0.here hx rfl (hb hby d7_0) rfl rfl ?_
    refine st9 _ ?_
    show Steps p.tables e below (T9.setTop (mkF m 4 #[.val (.ref r0)] [(.ref b9_0)])) _
    exact retOut X9 hx (i := .areturn) Bd.returns rfl (Or.inr (Or.inr (Or.inr (Or.inr ⟨rfl, rfl, rfl⟩)))) (hb hby d7_4) hr
  · show Q7_3 Z r0 r1 r2 c3 r4 r5 h0 n0 _ T9.heap _
    exact ⟨b9_0, rfl, N9, kp14, f10, f11, f12, f13⟩
def Q6_5 (Z : State) (r0 : Addr) (r1 : Addr) (r2 : Addr) (r3 : Addr) (c4 : ClassId) (r5 : Addr) (r6 : Addr) (h0 : Heap) (n0 : Nat) (v : Option Value) (h : Heap) (L : List Loc) : Prop := ∃ (b24_0 : Addr), v = none ∧ Fr n0 L ∧ Keep h0 h [r0] ∧ Fld Z h r0 cs5 "value" "Ljava/lang/Object;" .null ∧ Fld Z h r0 cs5 "errors" "Ljava/util/List;" (.ref b24_0) ∧ h0.size ≤ b24_0 ∧ Exa Z h b24_0 cs18 ∧ Fld Z h b24_0 cs18 "e0" "Ljava/lang/Object;" (.ref r5) ∧ Fld Z h b24_0 cs18 "e1" "Ljava/lang/Object;" (.ref r6)
set_option maxRecDepth 65536 in
set_option maxHeartbeats 40000000 in
theorem rm6_5 (l : Launch) (Z : State) (a0 : Array Value) (hw : ∀ d ∈ tables_1, d.before a0 Z = true) (ws : List Jvm.Cond) (r0 : Addr) (r1 : Addr) (r2 : Addr) (r3 : Addr) (c4 : ClassId) (r5 : Addr) (r6 : Addr) (h0 : Heap) (n0 : Nat) (O0 : Old Z n0 h0) (f2 : Exa Z h0 r0 cs5) (f3 : Fld Z h0 r0 cs5 "value" "Ljava/lang/Object;" .null) (g4 : n0 ≤ r0) (f6 : Exa Z h0 r1 "java/util/ArrayList") (f8 : Fld Z h0 r1 "java/util/ArrayList" "size" "I" (.int (2 : Int32))) (n9 : r1 ≠ r0) (f11 : Fld Z h0 r1 "java/util/ArrayList" "elementData" "[Ljava/lang/Object;" (.ref r2)) (f13 : Exa Z h0 r2 "[Ljava/lang/Object;") (f15 : own_Mir Z "[Ljava/lang/Object;" r3) (f16 : Arv Z h0 r2 c4 (.object "java/lang/Object") (10 : Int32) [(.ref r5), (.ref r6), .null, .null, .null, .null, .null, .null, .null, .null] .null) (n17 : r2 ≠ r0) (f19 : Exa Z h0 r6 cs10) (f21 : Exa Z h0 r5 cs10) (f30 : Fld Z h0 r0 cs5 "errors" "Ljava/util/List;" .null) (l36 : r0 < h0.size) :
    MetFree l (⟨cs5, "<init>", cs6⟩ : MethodName) (head1 (Jvm.Cond.code (⟨cs5, "<init>", cs6⟩ : MethodName) prog_4_method_1_code 3 none :: ws) ({ frames := 8, cells := 2, slots := 4, locals := 102 } : Room)) (fun a U => a = #[(.ref r0), .null, (.ref r1)] ∧ Z.Warmed39 U.vm ∧ U.heap = h0) (fun _ _ _ _ _ => True) (fun _ U o U' => ∃ v L, o = .returned v ∧ Q6_5 Z r0 r1 r2 r3 c4 r5 r6 h0 n0 v U'.heap L ∧ FrameEnd U o U' L ({ frames := 8, cells := 2, slots := 4, locals := 102 } : Room).cells ({ frames := 8, cells := 2, slots := 4, locals := 102 } : Room).slots) := by
  refine MetFree.of_bodySF (plainFor_of_name pn_com_example_weaverbird_weaverbird_bind_Binding) hisR ?_
  intro p e s m args below meth c s₁ Bd hml0 hP hK
  obtain ⟨rfl, hZ, hh⟩ := hP
  have hx := Bd.exec
  have hby := Bd.bytes
  have hml : c.maxLocals = 3 := hml0
  have hown : s.vm.findClass cs5 = some m.cls := findClass_of_methodNamed Bd.named
  have hnm := (name_of_methodNamed Bd.named Bd.method).1
  have X0 : Stand p l e ({ frames := 8, cells := 2, slots := 4, locals := 102 } : Room) s m #[(.ref r0), .null, (.ref r1)] below meth c s₁ [] 0 0 := Stand.of_body Bd
  have e0 : s₁.heap = h0 := by rw [← hh, Bd.state]; rfl
  have N0 := Fr.nil n0
  have pre0 : ∀ t, Steps p.tables e below (s₁.setTop (mkF m 0 #[.val (.ref r0), .val .null, .val (.ref r1)] [])) t → Steps p.tables e below (s₁.setTop (entryFrame m #[(.ref r0), .null, (.ref r1)] 3)) t := fun t k => castTop (by first | (simp [entryFrame, mkF, argsToLocals, Value.category]; done) | rfl) k
  obtain ⟨T1, X1, e1, st1⟩ := initO X0 hx hZ hown (ww hw 39 rfl) (ww hw 26 rfl) (ww hw 27 rfl) e0 (g := (mkF m 1 #[.val (.ref r0), .val .null, .val (.ref r1)] [(.ref r0)])) rfl (by rw [hml]; rfl) rfl (hb hby d6_1) (by decide) (W := 0) (by show 2 * 0 + _ ≤ _; exact Nat.le_of_eq rfl) (by decide)
  obtain ⟨T5, h5, X5, e5, W5, st5⟩ := putF X1 hx hZ hown (host := "") (Or.inl (ww hw 40 rfl)) Via.refl e1 f3 f2 (Or.inr ⟨(ww hw 41 rfl), rfl, hnm⟩) (ww hw 34 rfl) (ty := (.object "java/lang/Object")) (by decide) rfl rfl (g := (mkF m 6 #[.val (.ref r0), .val .null, .val (.ref r1)] [.null, (.ref r0)])) rfl rfl (hb hby d6_6)
  have Fw5 := f3.same W5
  have N5 := Fr.snoc X5 N0 g4
  have f7 := (f6.wr W5)
  have f10 := (f8.other W5 (Or.inl n9))
  have f12 := (f11.other W5 (Or.inl n9))
  have f14 := (f13.wr W5)
  have f18 := (f16.other W5 n17)
  have f20 := (f19.wr W5)
  have f22 := (f21.wr W5)
  have o23 := Old.wr O0 W5 g4
  obtain ⟨_, _, ⟨T24, L24, k24, n24⟩, -, X24, ⟨Lc24, hQ24, l24, y24, z24⟩, st24⟩ := Jvm.LawKit.callS X5 hx (y := (⟨"java/util/List", "copyOf", cs4⟩ : MethodName)) hown (mvT hZ (ww hw 42 rfl)) (mvT hZ (ww hw 43 rfl)) (mvT hZ (ww hw 44 rfl)) (mvT hZ (ww hw 45 rfl)) (by decide) (backOf (W := 1) (rm7_3 l Z a0 hw [] r1 r2 r3 c4 r5 r6 h5 n0 o23 f7 f10 f12 f14 f15 f18 f20 f22) hZ (ww hw 45 rfl) (ww hw 44 rfl) (by decide) (by decide)) (g := (mkF m 11 #[.val (.ref r0), .val .null, .val (.ref r1)] [(.ref r1), (.ref r0)])) rfl (by rw [hml]; rfl) (argsL := [(.ref r1)]) (rest := [(.ref r0)]) (lenOf pd__Ljava_util_Collection__Ljava_util_List_ rfl) rfl (by show 2 * 0 + _ ≤ _; exact Nat.le_of_eq rfl) (hb hby d6_11) (fun _ _ => ⟨rfl, e5, (by decide : 0 + 2 ≤ _), (by decide : 0 + 4 ≤ _)⟩)
  dsimp only [Pt.U, Pt.locs, Pt.cells, Pt.slots] at X24 l24 y24 z24 st24 hQ24
  subst l24 y24 z24
  obtain ⟨b24_0, rfl, N24q, K24, f25, f26, f27, f28⟩ := hQ24
  have N24 := Fr.app N5 N24q
  have f29 := ((f2.wr W5).keep K24)
  have f31 := ((f30.other W5 (Or.inr (slot_ne (Or.inr (ww hw 72 rfl)) (Or.inr (ww hw 41 rfl)) (by decide) (t := (.object "java/util/List")) (t' := (.object "java/lang/Object")) (by decide) (by decide)))).keep K24 nin0)
  obtain ⟨T32, h32, X32, e32, W32, st32⟩ := putF X24 hx hZ hown (host := "") (Or.inl (ww hw 71 rfl)) Via.refl rfl f31 f29 (Or.inr ⟨(ww hw 72 rfl), rfl, hnm⟩) (ww hw 34 rfl) (ty := (.object "java/util/List")) (by decide) rfl rfl (g := (mkF m 14 #[.val (.ref r0), .val .null, .val (.ref r1)] [(.ref b24_0), (.ref r0)])) rfl rfl (hb hby d6_14)
  have Fw32 := f31.same W32
  have N32 := Fr.snoc X32 N24 g4
  have f33 := ((Fw5.keep K24 nin0).other W32 (Or.inr (slot_ne (Or.inr (ww hw 41 rfl)) (Or.inr (ww hw 72 rfl)) (by decide) (t := (.object "java/lang/Object")) (t' := (.object "java/util/List")) (by decide) (by decide))))
  have zs34 := (Nat.le_of_eq W5.size.symm)
  have f35 := (f26.wr W32)
  have n37 := Nat.ne_of_lt (Nat.lt_of_lt_of_le (Nat.lt_of_lt_of_le l36 zs34) f25)
  have f38 := (f27.other W32 (Or.inl (Ne.symm n37)))
  have f39 := (f28.other W32 (Or.inl (Ne.symm n37)))
  have kp40 : Keep h0 h5 [r0] := (Keep.refl h0 [r0]).wr W5 (Or.inl (List.mem_of_getElem? (i := 0) rfl))
  have kp41 : Keep h0 T24.heap [r0] := kp40.trans K24 all0
  have kp42 : Keep h0 h32 [r0] := kp41.wr W32 (Or.inl (List.mem_of_getElem? (i := 0) rfl))
  obtain ⟨fs, hr, hrun, hended, hW, hsame⟩ := X32.leave (v := none) (fun _ => rfl)
  refine ⟨_, _, pre0 _ ?_, hrun, hended, _, _, rfl, ?_, ⟨_, rfl⟩, hW, hsame.mono (by decide) (by decide)⟩
  · show Steps p.tables e below (s₁.setTop (mkF m 0 #[.val (.ref r0), .val .null, .val (.ref r1)] [])) _
    refine XS.aloadN X0.here hx rfl (hb hby d6_0) rfl rfl ?_
    refine st1 _ ?_
    show Steps p.tables e below (T1.setTop (mkF m 4 #[.val (.ref r0), .val .null, .val (.ref r1)] [])) _
    refine XS.aloadN X1.here hx rfl (hb hby d6_4) rfl rfl ?_
    refine XS.aloadN X1.here hx rfl (hb hby d6_5) rfl rfl ?_
    refine st5 _ ?_
    show Steps p.tables e below (T5.setTop (mkF m 9 #[.val (.ref r0), .val .null, .val (.ref r1)] [])) _
    refine XS.aloadN X5.here hx rfl (hb hby d6_9) rfl rfl ?_
    refine XS.aloadN X5.here hx rfl (hb hby d6_10) rfl rfl ?_
    refine st24 _ ?_
    show Steps p.tables e below (T24.setTop (mkF m 14 #[.val (.ref r0), .val .null, .val (.ref r1)] [(.ref b24_0), (.ref r0)])) _
    refine st32 _ ?_
    show Steps p.tables e below (T32.setTop (mkF m 17 #[.val (.ref r0), .val .null, .val (.ref r1)] [])) _
    exact X32.returnOut hx Bd.returns (hb hby d6_17) hr
  · show Q6_5 Z r0 r1 r2 r3 c4 r5 r6 h0 n0 _ T32.heap _
    rw [e32]
    exact ⟨b24_0, rfl, N32, kp42, f33, Fw32, (Nat.le_trans zs34 f25), f35, f38, f39⟩
theorem d31_10 : decode jdk_44_method_3_code 10 = .ok (.iconst 2, 1) := by decide +kernel
theorem d31_11 : decode jdk_44_method_3_code 11 = .ok (.goto 4, 3) := by decide +kernel
def Q31_2 (Z : State) (r0 : Addr) (r1 : Addr) (r2 : Addr) (h0 : Heap) (n0 : Nat) (v : Option Value) (h : Heap) (L : List Loc) : Prop := v = some (.int (2 : Int32)) ∧ Fr n0 L ∧ h = h0
set_option maxRecDepth 65536 in
set_option maxHeartbeats 40000000 in
theorem rm31_2 (l : Launch) (Z : State) (a0 : Array Value) (hw : ∀ d ∈ tables_1, d.before a0 Z = true) (ws : List Jvm.Cond) (r0 : Addr) (r1 : Addr) (r2 : Addr) (h0 : Heap) (n0 : Nat) (O0 : Old Z n0 h0) (f1 : Fld Z h0 r0 cs18 "e1" "Ljava/lang/Object;" (.ref r1)) (f3 : Sta Z Z.heap cs2 "EMPTY" "Ljava/lang/Object;" (.ref r2)) (f6 : Exa Z Z.heap r2 "java/lang/Object") (g7 : n0 ≤ r1) :
    MetFree l (⟨cs18, "size", "()I"⟩ : MethodName) (head1 (Jvm.Cond.code (⟨cs18, "size", "()I"⟩ : MethodName) jdk_44_method_3_code 1 (some .int) :: ws) ({ frames := 0, cells := 0, slots := 0, locals := 0 } : Room)) (fun a U => a = #[(.ref r0)] ∧ Z.Warmed39 U.vm ∧ U.heap = h0) (fun _ _ _ _ _ => True) (fun _ U o U' => ∃ v L, o = .returned v ∧ Q31_2 Z r0 r1 r2 h0 n0 v U'.heap L ∧ FrameEnd U o U' L ({ frames := 0, cells := 0, slots := 0, locals := 0 } : Room).cells ({ frames := 0, cells := 0, slots := 0, locals := 0 } : Room).slots) := by
  refine MetFree.of_bodySF (plainFor_of_name pn_java_util_ImmutableCollections_List12) hisR ?_
  intro p e s m args below meth c s₁ Bd hml0 hP hK
  obtain ⟨rfl, hZ, hh⟩ := hP
  have hx := Bd.exec
  have hby := Bd.bytes
  have hml : c.maxLocals = 1 := hml0
  have hown : s.vm.findClass cs18 = some m.cls := findClass_of_methodNamed Bd.named
  have hnm := (name_of_methodNamed Bd.named Bd.method).1
  have X0 : Stand p l e ({ frames := 0, cells := 0, slots := 0, locals := 0 } : Room) s m #[(.ref r0)] below meth c s₁ [] 0 0 := Stand.of_body Bd
  have e0 : s₁.heap = h0 := by rw [← hh, Bd.state]; rfl
  have N0 := Fr.nil n0
  have pre0 : ∀ t, Steps p.tables e below (s₁.setTop (mkF m 0 #[.val (.ref r0)] [])) t → Steps p.tables e below (s₁.setTop (entryFrame m #[(.ref r0)] 1)) t := fun t k => castTop (by first | (simp [entryFrame, mkF, argsToLocals, Value.category]; done) | rfl) k
  obtain ⟨T2, X2, e2, st2⟩ := getF X0 hx hZ hown (host := "") (Or.inl (ww hw 219 rfl)) Via.refl e0 f1 (g := (mkF m 1 #[.val (.ref r0)] [(.ref r0)])) rfl rfl (hb hby d31_1)
  have f4 := f3.ext O0.2
  obtain ⟨T5, X5, e5, st5⟩ := getS2 X2 hx hZ hown (Or.inr (ww hw 218 rfl)) Via.refl e2 f4 (g := (mkF m 4 #[.val (.ref r0)] [(.ref r1)])) rfl (hb hby d31_4)
  have n8 := Old.ne O0 f6.lt g7
  obtain ⟨fs, hr, hrun, hended, hW, hsame⟩ := X5.leave (v := some (.int (2 : Int32))) (fun h => by rw [Bd.returns] at h; cases h)
  refine ⟨_, _, pre0 _ ?_, hrun, hended, _, _, rfl, ?_, ⟨_, rfl⟩, hW, hsame.mono (by decide) (by decide)⟩
  · show Steps p.tables e below (s₁.setTop (mkF m 0 #[.val (.ref r0)] [])) _
    refine XS.aloadN X0.here hx rfl (hb hby d31_0) rfl rfl ?_
    refine st2 _ ?_
    show Steps p.tables e below (T2.setTop (mkF m 4 #[.val (.ref r0)] [(.ref r1)])) _
    refine st5 _ ?_
    show Steps p.tables e below (T5.setTop (mkF m 7 #[.val (.ref r0)] [(.ref r2), (.ref r1)])) _
    refine Jvm.RoadKit.acmp (g := (mkF m 7 #[.val (.ref r0)] [(.ref r2), (.ref r1)])) X5 hx rfl rfl rfl (pc0 := 7) (pc' := 10) (same := false) rfl (hb hby d31_7) rfl (decide_eq_false fun q => (Ne.symm n8) (Value.ref.inj q)) (by decide) (by decide) ?_
    show Steps p.tables e below (T5.setTop (mkF m 10 #[.val (.ref r0)] [])) _
    refine XS.iconst X5.here hx rfl (hb hby d31_10) ?_
    refine XS.goto X5.here hx rfl (pc0 := 11) (pc' := 15) rfl (hb hby d31_11) (by decide) (by decide) ?_
    show Steps p.tables e below (T5.setTop (mkF m 15 #[.val (.ref r0)] [(.int (2 : Int32))])) _
    exact retOut X5 hx (i := .ireturn) Bd.returns rfl (Or.inl ⟨rfl, Or.inl rfl, _, rfl⟩) (hb hby d31_15) hr
  · show Q31_2 Z r0 r1 r2 h0 n0 _ T5.heap _
    rw [e5]
    exact ⟨rfl, N0, rfl⟩
def Q0_5 (Z : State) (x0 : Int32) (x1 : Int32) (x2 : Int32) (r3 : Addr) (c4 : ClassId) (r5 : Addr) (r6 : Addr) (h0 : Heap) (n0 : Nat) (v : Option Value) (h : Heap) (L : List Loc) : Prop := v = some (.int (1 : Int32)) ∧ Fr n0 L
set_option maxRecDepth 65536 in
set_option maxHeartbeats 40000000 in
theorem rm0_5 (l : Launch) (Z : State) (a0 : Array Value) (hw : ∀ d ∈ tables_1, d.before a0 Z = true) (ws : List Jvm.Cond) (x0 : Int32) (x1 : Int32) (x2 : Int32) (r3 : Addr) (c4 : ClassId) (r5 : Addr) (r6 : Addr) (h0 : Heap) (n0 : Nat) (O0 : Old Z n0 h0) (hc1 : (x0 &&& (3 : Int32)) = (2 : Int32)) (hc2 : ¬ ((x2 &&& (1 : Int32)) = (0 : Int32))) (f9 : Sta Z Z.heap "java/util/ArrayList" cs1 "[Ljava/lang/Object;" (.ref r3)) (f49 : Arv Z Z.heap r3 c4 (.object "java/lang/Object") (0 : Int32) [] .null) (f131 : own_Mir Z "[Ljava/lang/Object;" r5) (f156 : Sta Z Z.heap cs2 "EMPTY" "Ljava/lang/Object;" (.ref r6)) (f157 : Exa Z Z.heap r6 "java/lang/Object") :
    MetFree l x (head1 (Jvm.Cond.code x code maxLocals ret :: ws) room_1) (fun a U => a = #[(.int x0), (.int x1), (.int x2)] ∧ Z.Warmed39 U.vm ∧ U.heap = h0) (fun _ _ _ _ _ => True) (fun _ U o U' => ∃ v L, o = .returned v ∧ Q0_5 Z x0 x1 x2 r3 c4 r5 r6 h0 n0 v U'.heap L ∧ ReturnedEndW U o U' L room_1.cells room_1.slots) := by
  refine MetFree.of_bodySF (plainFor_of_name pn_com_example_weaverbird_weaverbird_bind_BindingHasErrorsPinLaw) hisR ?_
  intro p e s m args below meth c s₁ Bd hml0 hP hK
  obtain ⟨rfl, hZ, hh⟩ := hP
  have hx := Bd.exec
  have hby := Bd.bytes
  have hml : c.maxLocals = 10 := hml0
  have hown : s.vm.findClass cs8 = some m.cls := findClass_of_methodNamed Bd.named
  have hnm := (name_of_methodNamed Bd.named Bd.method).1
  have X0 : Stand p l e room_1 s m #[(.int x0), (.int x1), (.int x2)] below meth c s₁ [] 0 0 := Stand.of_body Bd
  have e0 : s₁.heap = h0 := by rw [← hh, Bd.state]; rfl
  have N0 := Fr.nil n0
  have pre0 : ∀ t, Steps p.tables e below (s₁.setTop (mkF m 0 #[.val (.int x0), .val (.int x1), .val (.int x2), .unset, .unset, .unset, .unset, .unset, .unset, .unset] [])) t → Steps p.tables e below (s₁.setTop (entryFrame m #[(.int x0), (.int x1), (.int x2)] maxLocals)) t := fun t k => castTop (by first | (simp [entryFrame, mkF, argsToLocals, Value.category, maxLocals]; done) | rfl) k
  obtain ⟨T3, h3, X3, e3, E3, A3, D3, -, st3⟩ := newO X0 hx hZ hown (ww hw 7 rfl) (ww hw 8 rfl) (ww hw 9 rfl) e0 (g := (mkF m 32 #[.val (.int x0), .val (.int x1), .val (.int x2), .val (.int (2 : Int32)), .val (.int (1 : Int32)), .val .null, .unset, .unset, .unset, .unset] [])) rfl (hb hby at_32) (by decide) (by decide)
  obtain ⟨b3, g3⟩ : ∃ z, z = h0.size := ⟨_, rfl⟩
  rw [← g3] at A3 D3 st3
  have f4 : Fld Z h3 b3 "java/util/AbstractList" "modCount" "I" (.int (0 : Int32)) := D3 (Or.inl (ww hw 29 rfl)) (ty := .int) (by decide)
  have f5 : Fld Z h3 b3 "java/util/ArrayList" "elementData" "[Ljava/lang/Object;" .null := D3 (Or.inl (ww hw 32 rfl)) (ty := (.array (.object "java/lang/Object"))) (by decide)
  have f6 : Fld Z h3 b3 "java/util/ArrayList" "size" "I" (.int (0 : Int32)) := D3 (Or.inl (ww hw 66 rfl)) (ty := .int) (by decide)
  have zz7 : n0 ≤ h0.size := by rw [← O0.1]; exact O0.2.1
  have g8 := Nat.le_trans zz7 (Nat.le_of_eq g3.symm)
  have o10 := Old.ext O0 E3
  obtain ⟨_, _, ⟨T11, L11, k11, n11⟩, -, X11, ⟨Lc11, hQ11, l11, y11, z11⟩, st11⟩ := X3.specialBack hx (y := (⟨"java/util/ArrayList", "<init>", "()V"⟩ : MethodName)) rfl hown (mvT hZ (ww hw 10 rfl)) (mvT hZ (ww hw 11 rfl)) (mvT hZ (ww hw 12 rfl)) (by decide) (backOf (W := 1) (rm2_1 l Z a0 hw [] b3 r3 h3 n0 o10 A3 f4 g8 f5 f6 f9) hZ (ww hw 12 rfl) (ww hw 9 rfl) (by decide) (by decide)) (g := (mkF m 36 #[.val (.int x0), .val (.int x1), .val (.int x2), .val (.int (2 : Int32)), .val (.int (1 : Int32)), .val .null, .unset, .unset, .unset, .unset] [(.ref b3), (.ref b3)])) rfl (by rw [hml]; rfl) (Steps.refl _) (a := b3) (argsL := []) (rest := [(.ref b3)]) (lenOf pd___V rfl) rfl (by show 2 * 0 + _ ≤ _; exact Nat.le_of_eq rfl) (hb hby at_36) (fun _ _ => ⟨rfl, e3, (by decide : 1 + 0 ≤ _), (by decide : 3 + 0 ≤ _)⟩)
  dsimp only [Pt.U, Pt.locs, Pt.cells, Pt.slots] at X11 l11 y11 z11 st11 hQ11
  subst l11 y11 z11
  obtain ⟨rfl, N11q, K11, f12, f13, f14⟩ := hQ11
  have N11 := Fr.app N0 N11q
  obtain ⟨T15, h15, X15, e15, E15, A15, D15, -, st15⟩ := newO X11 hx hZ hown (ww hw 103 rfl) (ww hw 104 rfl) (ww hw 105 rfl) rfl (g := (mkF m 48 #[.val (.int x0), .val (.int x1), .val (.int x2), .val (.int (2 : Int32)), .val (.int (1 : Int32)), .val .null, .val (.ref b3), .unset, .unset, .unset] [(.ref b3)])) rfl (hb hby at_48) (by decide) (by decide)
  obtain ⟨b15, g15⟩ : ∃ z, z = T11.heap.size := ⟨_, rfl⟩
  rw [← g15] at A15 D15 st15
  have f16 : Fld Z h15 b15 cs10 "path" "Ljava/lang/String;" .null := D15 (Or.inr (ww hw 122 rfl)) (ty := (.object "java/lang/String")) (by decide)
  have f17 : Fld Z h15 b15 cs10 "code" "Ljava/lang/String;" .null := D15 (Or.inr (ww hw 124 rfl)) (ty := (.object "java/lang/String")) (by decide)
  have f18 : Fld Z h15 b15 cs10 "rejected" "Ljava/lang/String;" .null := D15 (Or.inr (ww hw 126 rfl)) (ty := (.object "java/lang/String")) (by decide)
  have f19 : Fld Z h15 b15 cs10 "message" "Ljava/lang/String;" .null := D15 (Or.inr (ww hw 128 rfl)) (ty := (.object "java/lang/String")) (by decide)
  have hS20 := (State.WarmedH.refl s).since 0
  have hstr : ∀ a ∈ Bundle.stringAtoms, a.before a0 Z = true := fun a q => hw a (own_str a q)
  obtain ⟨a21, T21, h21, kk21, X21, e21, E21, hS21, hk21, hZ21, ho21, st21⟩ := ldcS (s := s) (vm0 := s.vm) X15 hx hZ hown (ww hw 106 rfl) hstr e15 hS20 (Nat.zero_le _) (g := (mkF m 52 #[.val (.int x0), .val (.int x1), .val (.int x2), .val (.int (2 : Int32)), .val (.int (1 : Int32)), .val .null, .val (.ref b3), .unset, .unset, .unset] [(.ref b15), (.ref b15), (.ref b3)])) rfl (hb hby at_52) (n := 4) (by decide) (by decide) (by decide) (by decide)
  obtain ⟨a22, T22, h22, kk22, X22, e22, E22, hS22, hk22, hZ22, ho22, st22⟩ := ldcS (s := s) (vm0 := T21.vm) X21 hx hZ21 ho21 (ww hw 114 rfl) hstr e21 hS21 hk21 (g := (mkF m 54 #[.val (.int x0), .val (.int x1), .val (.int x2), .val (.int (2 : Int32)), .val (.int (1 : Int32)), .val .null, .val (.ref b3), .unset, .unset, .unset] [(.ref a21), (.ref b15), (.ref b15), (.ref b3)])) rfl (hb hby at_54) (n := 32) (by decide) (by decide) (by decide) (by decide)
  obtain ⟨a23, T23, h23, kk23, X23, e23, E23, hS23, hk23, hZ23, ho23, st23⟩ := ldcS (s := s) (vm0 := T22.vm) X22 hx hZ22 ho22 (ww hw 115 rfl) hstr e22 hS22 hk22 (g := (mkF m 56 #[.val (.int x0), .val (.int x1), .val (.int x2), .val (.int (2 : Int32)), .val (.int (1 : Int32)), .val .null, .val (.ref b3), .unset, .unset, .unset] [(.ref a22), (.ref a21), (.ref b15), (.ref b15), (.ref b3)])) rfl (hb hby at_56) (n := 0) (by decide) (by decide) (by decide) (by decide)
  obtain ⟨a24, T24, h24, kk24, X24, e24, E24, hS24, hk24, hZ24, ho24, st24⟩ := ldcS (s := s) (vm0 := T23.vm) X23 hx hZ23 ho23 (ww hw 116 rfl) hstr e23 hS23 hk23 (g := (mkF m 58 #[.val (.int x0), .val (.int x1), .val (.int x2), .val (.int (2 : Int32)), .val (.int (1 : Int32)), .val .null, .val (.ref b3), .unset, .unset, .unset] [(.ref a23), (.ref a22), (.ref a21), (.ref b15), (.ref b15), (.ref b3)])) rfl (hb hby at_58) (n := 4) (by decide) (by decide) (by decide) (by decide)
  have f25 := ((((A15.ext E21).ext E22).ext E23).ext E24)
  have f26 := ((((f16.ext E21).ext E22).ext E23).ext E24)
  have o28 := Old.keep o10 K11 (allS g8 all0)
  have zz27 : n0 ≤ T11.heap.size := by rw [← o28.1]; exact o28.2.1
  have g29 := Nat.le_trans zz27 (Nat.le_of_eq g15.symm)
  have f30 := ((((f17.ext E21).ext E22).ext E23).ext E24)
  have f31 := ((((f18.ext E21).ext E22).ext E23).ext E24)
  have f32 := ((((f19.ext E21).ext E22).ext E23).ext E24)
  have o33 := Old.ext o28 E15
  have o34 := Old.ext o33 E21
  have o35 := Old.ext o34 E22
  have o36 := Old.ext o35 E23
  have o37 := Old.ext o36 E24
  obtain ⟨_, _, ⟨T38, L38, k38, n38⟩, -, X38, ⟨Lc38, hQ38, l38, y38, z38⟩, st38⟩ := X24.specialBack hx (y := (⟨cs10, "<init>", cs11⟩ : MethodName)) rfl ho24 (mvT hZ24 (ww hw 117 rfl)) (mvT hZ24 (ww hw 118 rfl)) (mvT hZ24 (ww hw 119 rfl)) (by decide) (backOf (W := 2) (rm15_1 l Z a0 hw [] b15 a21 a22 a23 a24 h24 n0 o37 f25 f26 g29 f30 f31 f32) hZ24 (ww hw 119 rfl) (ww hw 105 rfl) (by decide) (by decide)) (g := (mkF m 60 #[.val (.int x0), .val (.int x1), .val (.int x2), .val (.int (2 : Int32)), .val (.int (1 : Int32)), .val .null, .val (.ref b3), .unset, .unset, .unset] [(.ref a24), (.ref a23), (.ref a22), (.ref a21), (.ref b15), (.ref b15), (.ref b3)])) rfl (by rw [hml]; rfl) (Steps.refl _) (a := b15) (argsL := [(.ref a21), (.ref a22), (.ref a23), (.ref a24)]) (rest := [(.ref b15), (.ref b3)]) (lenOf pd__Ljava_lang_String_Ljava_lang_String_Ljava_lang_String_Ljava_lang_String__V rfl) rfl (by show 2 * 0 + _ ≤ _; exact Nat.le_of_eq rfl) (hb hby at_60) (fun _ _ => ⟨rfl, e24, (by decide : 10 + 0 ≤ _), (by decide : 63 + 0 ≤ _)⟩)
  dsimp only [Pt.U, Pt.locs, Pt.cells, Pt.slots] at X38 l38 y38 z38 st38 hQ38
  subst l38 y38 z38
  obtain ⟨rfl, N38q, K38, f39, f40, f41, f42⟩ := hQ38
  have N38 := Fr.app N11 N38q
  have zs43 := K11.1
  have n44 := Nat.ne_of_lt (Nat.lt_of_lt_of_le (Nat.lt_of_lt_of_le A3.lt zs43) (Nat.le_of_eq g15.symm))
  have f45 := ((((((f12.ext E15).ext E21).ext E22).ext E23).ext E24).keep K38 (ninS n44 nin0))
  have f46 := (((((((A3.keep K11).ext E15).ext E21).ext E22).ext E23).ext E24).keep K38)
  have f47 := ((((((f13.ext E15).ext E21).ext E22).ext E23).ext E24).keep K38 (ninS n44 nin0))
  have f48 := ((((((f14.ext E15).ext E21).ext E22).ext E23).ext E24).keep K38 (ninS n44 nin0))
  have zs50 := Nat.le_trans zs43 E15.1
  have zs51 := Nat.le_trans zs50 E21.1
  have zs52 := Nat.le_trans zs51 E22.1
  have zs53 := Nat.le_trans zs52 E23.1
  have zs54 := Nat.le_trans zs53 E24.1
  have zs55 := Nat.le_trans zs54 K38.1
  have f56 := (f25.keep K38)
  have o57 := Old.keep o37 K38 (allS g29 all0)
  obtain ⟨cqq59, kqq59, qq59a, qq59b, qq59c⟩ := isOf hZ24 rfl f46
  obtain ⟨_, _, ⟨T58, L58, k58, n58⟩, -, X58, ⟨Lc58, hQ58, l58, y58, z58⟩, st58⟩ := X38.virtualBack hx (y := (⟨"java/util/ArrayList", "add", "(Ljava/lang/Object;)Z"⟩ : MethodName)) (z := (⟨"java/util/ArrayList", "add", "(Ljava/lang/Object;)Z"⟩ : MethodName)) ho24 (mvT hZ24 (ww hw 129 rfl)) (mvT hZ24 (ww hw 130 rfl)) (notFace_of_selects (args := #[]) (mvT hZ24 (ww hw 132 rfl))) (mvT hZ24 (ww hw 132 rfl)) (mvT hZ24 (ww hw 131 rfl)) (by decide) (backOf (W := 0) (rm16_1 l Z a0 hw [] b3 b15 r3 c4 T38.heap n0 o57 f45 f46 g8 f47 f48 f49 f9 (Nat.lt_of_lt_of_le A3.lt zs55) f56) hZ24 (ww hw 133 rfl) (ww hw 9 rfl) (by decide) (by decide)) qq59a qq59c (g := (mkF m 63 #[.val (.int x0), .val (.int x1), .val (.int x2), .val (.int (2 : Int32)), .val (.int (1 : Int32)), .val .null, .val (.ref b3), .unset, .unset, .unset] [(.ref b15), (.ref b3)])) rfl (by rw [hml]; rfl) (Steps.refl _) (argsL := [(.ref b15)]) (rest := []) (lenOf pd__Ljava_lang_Object__Z rfl) rfl (by show 2 * 0 + _ ≤ _; exact Nat.le_of_eq rfl) (hb hby at_63) (fun _ _ => ⟨rfl, rfl, (by decide : 10 + 1 ≤ _), (by decide : 63 + 10 ≤ _)⟩)
  dsimp only [Pt.U, Pt.locs, Pt.cells, Pt.slots] at X58 l58 y58 z58 st58 hQ58
  subst l58 y58 z58
  obtain ⟨b58_0, k58_0, rfl, N58q, K58, f60, f61, f62, f63, f64, f65, f66⟩ := hQ58
  have N58 := Fr.app N38 N58q
  obtain ⟨T67, h67, X67, e67, E67, A67, D67, -, st67⟩ := newO X58 hx hZ24 ho24 (ww hw 103 rfl) (ww hw 104 rfl) (ww hw 105 rfl) rfl (g := (mkF m 74 #[.val (.int x0), .val (.int x1), .val (.int x2), .val (.int (2 : Int32)), .val (.int (1 : Int32)), .val .null, .val (.ref b3), .unset, .unset, .unset] [(.ref b3)])) rfl (hb hby at_74) (by decide) (by decide)
  obtain ⟨b67, g67⟩ : ∃ z, z = T58.heap.size := ⟨_, rfl⟩
  rw [← g67] at A67 D67 st67
  have f68 : Fld Z h67 b67 cs10 "path" "Ljava/lang/String;" .null := D67 (Or.inr (ww hw 122 rfl)) (ty := (.object "java/lang/String")) (by decide)
  have f69 : Fld Z h67 b67 cs10 "code" "Ljava/lang/String;" .null := D67 (Or.inr (ww hw 124 rfl)) (ty := (.object "java/lang/String")) (by decide)
  have f70 : Fld Z h67 b67 cs10 "rejected" "Ljava/lang/String;" .null := D67 (Or.inr (ww hw 126 rfl)) (ty := (.object "java/lang/String")) (by decide)
  have f71 : Fld Z h67 b67 cs10 "message" "Ljava/lang/String;" .null := D67 (Or.inr (ww hw 128 rfl)) (ty := (.object "java/lang/String")) (by decide)
  have zs73 := K38.1
  have zs74 := Nat.le_trans zs73 K58.1
  have zs75 := Nat.le_trans zs74 E67.1
  obtain ⟨a72, T72, h72, kk72, X72, e72, E72, hS72, hk72, hZ72, ho72, st72⟩ := ldcS (s := s) (vm0 := T24.vm) X67 hx hZ24 ho24 (ww hw 232 rfl) hstr e67 hS24 (Nat.le_trans hk24 zs75) (g := (mkF m 78 #[.val (.int x0), .val (.int x1), .val (.int x2), .val (.int (2 : Int32)), .val (.int (1 : Int32)), .val .null, .val (.ref b3), .unset, .unset, .unset] [(.ref b67), (.ref b67), (.ref b3)])) rfl (hb hby at_78) (n := 4) (by decide) (by decide) (by decide) (by decide)
  obtain ⟨a76, T76, h76, kk76, X76, e76, E76, hS76, hk76, hZ76, ho76, st76⟩ := ldcS (s := s) (vm0 := T72.vm) X72 hx hZ72 ho72 (ww hw 233 rfl) hstr e72 hS72 hk72 (g := (mkF m 80 #[.val (.int x0), .val (.int x1), .val (.int x2), .val (.int (2 : Int32)), .val (.int (1 : Int32)), .val .null, .val (.ref b3), .unset, .unset, .unset] [(.ref a72), (.ref b67), (.ref b67), (.ref b3)])) rfl (hb hby at_80) (n := 20) (by decide) (by decide) (by decide) (by decide)
  obtain ⟨a77, T77, h77, kk77, X77, e77, E77, hS77, hk77, hZ77, ho77, st77⟩ := ldcS (s := s) (vm0 := T76.vm) X76 hx hZ76 ho76 (ww hw 116 rfl) hstr e76 hS76 hk76 (g := (mkF m 83 #[.val (.int x0), .val (.int x1), .val (.int x2), .val (.int (2 : Int32)), .val (.int (1 : Int32)), .val .null, .val (.ref b3), .unset, .unset, .unset] [.null, (.ref a76), (.ref a72), (.ref b67), (.ref b67), (.ref b3)])) rfl (hb hby at_83) (n := 4) (by decide) (by decide) (by decide) (by decide)
  have f78 := (((A67.ext E72).ext E76).ext E77)
  have f79 := (((f68.ext E72).ext E76).ext E77)
  have o81 := Old.keep o57 K58 (allS g8 all0)
  have zz80 : n0 ≤ T58.heap.size := by rw [← o81.1]; exact o81.2.1
  have g82 := Nat.le_trans zz80 (Nat.le_of_eq g67.symm)
  have f83 := (((f69.ext E72).ext E76).ext E77)
  have f84 := (((f70.ext E72).ext E76).ext E77)
  have f85 := (((f71.ext E72).ext E76).ext E77)
  have o86 := Old.ext o81 E67
  have o87 := Old.ext o86 E72
  have o88 := Old.ext o87 E76
  have o89 := Old.ext o88 E77
  obtain ⟨_, _, ⟨T90, L90, k90, n90⟩, -, X90, ⟨Lc90, hQ90, l90, y90, z90⟩, st90⟩ := X77.specialBack hx (y := (⟨cs10, "<init>", cs11⟩ : MethodName)) rfl ho77 (mvT hZ77 (ww hw 117 rfl)) (mvT hZ77 (ww hw 118 rfl)) (mvT hZ77 (ww hw 119 rfl)) (by decide) (backOf (W := 2) (rm15_2 l Z a0 hw [] b67 a72 a76 a77 h77 n0 o89 f78 f79 g82 f83 f84 f85) hZ77 (ww hw 119 rfl) (ww hw 105 rfl) (by decide) (by decide)) (g := (mkF m 85 #[.val (.int x0), .val (.int x1), .val (.int x2), .val (.int (2 : Int32)), .val (.int (1 : Int32)), .val .null, .val (.ref b3), .unset, .unset, .unset] [(.ref a77), .null, (.ref a76), (.ref a72), (.ref b67), (.ref b67), (.ref b3)])) rfl (by rw [hml]; rfl) (Steps.refl _) (a := b67) (argsL := [(.ref a72), (.ref a76), .null, (.ref a77)]) (rest := [(.ref b67), (.ref b3)]) (lenOf pd__Ljava_lang_String_Ljava_lang_String_Ljava_lang_String_Ljava_lang_String__V rfl) rfl (by show 2 * 0 + _ ≤ _; exact Nat.le_of_eq rfl) (hb hby at_85) (fun _ _ => ⟨rfl, e77, (by decide : 18 + 0 ≤ _), (by decide : 117 + 0 ≤ _)⟩)
  dsimp only [Pt.U, Pt.locs, Pt.cells, Pt.slots] at X90 l90 y90 z90 st90 hQ90
  subst l90 y90 z90
  obtain ⟨rfl, N90q, K90, f91, f92, f93, f94⟩ := hQ90
  have N90 := Fr.app N58 N90q
  have zs95 := Nat.le_trans zs55 K58.1
  have n96 := Nat.ne_of_lt (Nat.lt_of_lt_of_le (Nat.lt_of_lt_of_le A3.lt zs95) (Nat.le_of_eq g67.symm))
  have f97 := (((((f62.ext E67).ext E72).ext E76).ext E77).keep K90 (ninS n96 nin0))
  have f98 := ((((((f46.keep K58).ext E67).ext E72).ext E76).ext E77).keep K90)
  have f99 := (((((f60.ext E67).ext E72).ext E76).ext E77).keep K90 (ninS n96 nin0))
  have f100 := (((((f61.ext E67).ext E72).ext E76).ext E77).keep K90 (ninS n96 nin0))
  have n101 := Nat.ne_of_lt (Nat.lt_of_lt_of_le f64.lt (Nat.le_of_eq g67.symm))
  have f102 := (((((f64.ext E67).ext E72).ext E76).ext E77).keep K90 (ninS n101 nin0))
  have n103 := Nat.ne_of_lt (Nat.lt_of_lt_of_le (Nat.lt_of_lt_of_le A3.lt zs55) f63)
  have f104 := (f78.keep K90)
  have zz105 : n0 ≤ T38.heap.size := by rw [← o57.1]; exact o57.2.1
  have g106 := Nat.le_trans zz105 f63
  have o107 := Old.keep o89 K90 (allS g82 all0)
  obtain ⟨cqq109, kqq109, qq109a, qq109b, qq109c⟩ := isOf hZ77 rfl f98
  obtain ⟨_, _, ⟨T108, L108, k108, n108⟩, -, X108, ⟨Lc108, hQ108, l108, y108, z108⟩, st108⟩ := X90.virtualBack hx (y := (⟨"java/util/ArrayList", "add", "(Ljava/lang/Object;)Z"⟩ : MethodName)) (z := (⟨"java/util/ArrayList", "add", "(Ljava/lang/Object;)Z"⟩ : MethodName)) ho77 (mvT hZ77 (ww hw 129 rfl)) (mvT hZ77 (ww hw 130 rfl)) (notFace_of_selects (args := #[]) (mvT hZ77 (ww hw 132 rfl))) (mvT hZ77 (ww hw 132 rfl)) (mvT hZ77 (ww hw 131 rfl)) (by decide) (backOf (W := 0) (rm16_2 l Z a0 hw [] b3 b67 b58_0 k58_0 b15 T90.heap n0 o107 f97 f98 g8 f99 f100 f102 (Ne.symm n103) f66 f104 g106) hZ77 (ww hw 133 rfl) (ww hw 9 rfl) (by decide) (by decide)) qq109a qq109c (g := (mkF m 88 #[.val (.int x0), .val (.int x1), .val (.int x2), .val (.int (2 : Int32)), .val (.int (1 : Int32)), .val .null, .val (.ref b3), .unset, .unset, .unset] [(.ref b67), (.ref b3)])) rfl (by rw [hml]; rfl) (Steps.refl _) (argsL := [(.ref b67)]) (rest := []) (lenOf pd__Ljava_lang_Object__Z rfl) rfl (by show 2 * 0 + _ ≤ _; exact Nat.le_of_eq rfl) (hb hby at_88) (fun _ _ => ⟨rfl, rfl, (by decide : 18 + 0 ≤ _), (by decide : 117 + 0 ≤ _)⟩)
  dsimp only [Pt.U, Pt.locs, Pt.cells, Pt.slots] at X108 l108 y108 z108 st108 hQ108
  subst l108 y108 z108
  obtain ⟨rfl, N108q, K108, f110, f111, f112, f113⟩ := hQ108
  have N108 := Fr.app N90 N108q
  obtain ⟨T114, h114, X114, e114, E114, A114, D114, -, st114⟩ := newO X108 hx hZ77 ho77 (ww hw 33 rfl) (ww hw 34 rfl) (ww hw 35 rfl) rfl (g := (mkF m 118 #[.val (.int x0), .val (.int x1), .val (.int x2), .val (.int (2 : Int32)), .val (.int (1 : Int32)), .val .null, .val (.ref b3), .unset, .unset, .unset] [])) rfl (hb hby at_118) (by decide) (by decide)
  obtain ⟨b114, g114⟩ : ∃ z, z = T108.heap.size := ⟨_, rfl⟩
  rw [← g114] at A114 D114 st114
  have f115 : Fld Z h114 b114 cs5 "value" "Ljava/lang/Object;" .null := D114 (Or.inr (ww hw 41 rfl)) (ty := (.object "java/lang/Object")) (by decide)
  have f116 : Fld Z h114 b114 cs5 "errors" "Ljava/util/List;" .null := D114 (Or.inr (ww hw 72 rfl)) (ty := (.object "java/util/List")) (by decide)
  have o118 := Old.keep o107 K108 (allS g8 (allS g106 all0))
  have zz117 : n0 ≤ T108.heap.size := by rw [← o118.1]; exact o118.2.1
  have g119 := Nat.le_trans zz117 (Nat.le_of_eq g114.symm)
  have f120 := ((f98.keep K108).ext E114)
  have f121 := (f110.ext E114)
  have zs122 := Nat.le_trans zs95 E67.1
  have zs123 := Nat.le_trans zs122 E72.1
  have zs124 := Nat.le_trans zs123 E76.1
  have zs125 := Nat.le_trans zs124 E77.1
  have zs126 := Nat.le_trans zs125 K90.1
  have zs127 := Nat.le_trans zs126 K108.1
  have n128 := Nat.ne_of_lt (Nat.lt_of_lt_of_le (Nat.lt_of_lt_of_le A3.lt zs127) (Nat.le_of_eq g114.symm))
  have f129 := (f112.ext E114)
  have f130 := (((((((f65.ext E67).ext E72).ext E76).ext E77).keep K90).keep K108).ext E114)
  have f132 := (f113.ext E114)
  have zs133 := E67.1
  have zs134 := Nat.le_trans zs133 E72.1
  have zs135 := Nat.le_trans zs134 E76.1
  have zs136 := Nat.le_trans zs135 E77.1
  have zs137 := Nat.le_trans zs136 K90.1
  have zs138 := Nat.le_trans zs137 K108.1
  have n139 := Nat.ne_of_lt (Nat.lt_of_lt_of_le (Nat.lt_of_lt_of_le f64.lt zs138) (Nat.le_of_eq g114.symm))
  have f140 := ((f104.keep K108).ext E114)
  have f141 := ((((((((f56.keep K58).ext E67).ext E72).ext E76).ext E77).keep K90).keep K108).ext E114)
  have o142 := Old.ext o118 E114
  obtain ⟨_, _, ⟨T143, L143, k143, n143⟩, -, X143, ⟨Lc143, hQ143, l143, y143, z143⟩, st143⟩ := X114.specialBack hx (y := (⟨cs5, "<init>", cs6⟩ : MethodName)) rfl ho77 (mvT hZ77 (ww hw 36 rfl)) (mvT hZ77 (ww hw 37 rfl)) (mvT hZ77 (ww hw 38 rfl)) (by decide) (backOf (W := 1) (rm6_5 l Z a0 hw [] b114 b3 b58_0 r5 k58_0 b15 b67 h114 n0 o142 A114 f115 g119 f120 f121 n128 f129 f130 f131 f132 n139 f140 f141 f116 A114.lt) hZ77 (ww hw 38 rfl) (ww hw 35 rfl) (by decide) (by decide)) (g := (mkF m 126 #[.val (.int x0), .val (.int x1), .val (.int x2), .val (.int (2 : Int32)), .val (.int (1 : Int32)), .val .null, .val (.ref b3), .unset, .unset, .unset] [(.ref b3), .null, (.ref b114), (.ref b114)])) rfl (by rw [hml]; rfl) (Steps.refl _) (a := b114) (argsL := [.null, (.ref b3)]) (rest := [(.ref b114)]) (lenOf pd__Ljava_lang_Object_Ljava_util_List__V rfl) rfl (by show 2 * 0 + _ ≤ _; exact Nat.le_of_eq rfl) (hb hby at_126) (fun _ _ => ⟨rfl, e114, (by decide : 19 + 2 ≤ _), (by decide : 119 + 4 ≤ _)⟩)
  dsimp only [Pt.U, Pt.locs, Pt.cells, Pt.slots] at X143 l143 y143 z143 st143 hQ143
  subst l143 y143 z143
  obtain ⟨b143_0, rfl, N143q, K143, f144, f145, f146, f147, f148, f149⟩ := hQ143
  have N143 := Fr.app N108 N143q
  have o150 := Old.keep o142 K143 (allS g119 all0)
  have f152 := (A114.keep K143)
  obtain ⟨cqq153, kqq153, qq153a, qq153b, qq153c⟩ := isOf hZ77 rfl f152
  obtain ⟨_, _, ⟨T151, L151, k151, n151⟩, -, X151, ⟨Lc151, hQ151, l151, y151, z151⟩, st151⟩ := X143.virtualBack hx (y := (⟨cs5, "hasErrors", "()Z"⟩ : MethodName)) (z := (⟨cs5, "hasErrors", "()Z"⟩ : MethodName)) ho77 (mvT hZ77 (ww hw 73 rfl)) (mvT hZ77 (ww hw 74 rfl)) (notFace_of_selects (args := #[]) (mvT hZ77 (ww hw 76 rfl))) (mvT hZ77 (ww hw 76 rfl)) (mvT hZ77 (ww hw 75 rfl)) (by decide) (backOf (W := 0) (rm11_2 l Z a0 hw [] b114 b143_0 T143.heap n0 o150 f145 f147) hZ77 (ww hw 77 rfl) (ww hw 35 rfl) (by decide) (by decide)) qq153a qq153c (g := (mkF m 133 #[.val (.int x0), .val (.int x1), .val (.int x2), .val (.int (2 : Int32)), .val (.int (1 : Int32)), .val .null, .val (.ref b3), .val (.ref b114), .unset, .unset] [(.ref b114)])) rfl (by rw [hml]; rfl) (Steps.refl _) (argsL := []) (rest := []) (lenOf pd___Z rfl) rfl (by show 2 * 0 + _ ≤ _; exact Nat.le_of_eq rfl) (hb hby at_133) (fun _ _ => ⟨rfl, rfl, (by decide : 21 + 0 ≤ _), (by decide : 123 + 0 ≤ _)⟩)
  dsimp only [Pt.U, Pt.locs, Pt.cells, Pt.slots] at X151 l151 y151 z151 st151 hQ151
  subst l151 y151 z151
  obtain ⟨rfl, N151q, E151⟩ := hQ151
  have N151 := Fr.app N143 N151q
  obtain ⟨cqq155, kqq155, qq155a, qq155b, qq155c⟩ := isOf hZ77 E151 f152
  obtain ⟨_, _, ⟨T154, L154, k154, n154⟩, -, X154, ⟨Lc154, hQ154, l154, y154, z154⟩, st154⟩ := X151.virtualBack hx (y := (⟨cs5, "errors", "()Ljava/util/List;"⟩ : MethodName)) (z := (⟨cs5, "errors", "()Ljava/util/List;"⟩ : MethodName)) ho77 (mvT hZ77 (ww hw 90 rfl)) (mvT hZ77 (ww hw 91 rfl)) (notFace_of_selects (args := #[]) (mvT hZ77 (ww hw 93 rfl))) (mvT hZ77 (ww hw 93 rfl)) (mvT hZ77 (ww hw 92 rfl)) (by decide) (backOf (W := 0) (rm13_1 l Z a0 hw [] b114 b143_0 T143.heap n0 o150 f145) hZ77 (ww hw 94 rfl) (ww hw 35 rfl) (by decide) (by decide)) qq155a qq155c (g := (mkF m 140 #[.val (.int x0), .val (.int x1), .val (.int x2), .val (.int (2 : Int32)), .val (.int (1 : Int32)), .val .null, .val (.ref b3), .val (.ref b114), .val (.int (1 : Int32)), .unset] [(.ref b114)])) rfl (by rw [hml]; rfl) (Steps.refl _) (argsL := []) (rest := []) (lenOf pd___Ljava_util_List_ rfl) rfl (by show 2 * 0 + _ ≤ _; exact Nat.le_of_eq rfl) (hb hby at_140) (fun _ _ => ⟨rfl, E151, (by decide : 21 + 0 ≤ _), (by decide : 123 + 0 ≤ _)⟩)
  dsimp only [Pt.U, Pt.locs, Pt.cells, Pt.slots] at X154 l154 y154 z154 st154 hQ154
  subst l154 y154 z154
  obtain ⟨rfl, N154q, E154⟩ := hQ154
  have N154 := Fr.app N151 N154q
  obtain ⟨cqq159, kqq159, qq159a, qq159b, qq159c⟩ := isOf hZ77 E154 f147
  obtain ⟨_, _, ⟨T158, L158, k158, n158⟩, -, X158, ⟨Lc158, hQ158, l158, y158, z158⟩, st158⟩ := X154.interfaceBack hx (xi := (⟨"java/util/List", "size", "()I"⟩ : MethodName)) (y := (⟨cs18, "size", "()I"⟩ : MethodName)) ho77 (mvT hZ77 (ww hw 95 rfl)) (mvT hZ77 (ww hw 96 rfl)) (mvT hZ77 (ww hw 97 rfl)) (mvT hZ77 (ww hw 227 rfl)) (mvT hZ77 (ww hw 228 rfl)) (mvT hZ77 (ww hw 229 rfl)) (mvT hZ77 (ww hw 230 rfl)) (mvT hZ77 (ww hw 225 rfl)) (by decide) (backOf (W := 0) (rm31_2 l Z a0 hw [] b143_0 b67 r6 T143.heap n0 o150 f149 f156 f157 g82) hZ77 (ww hw 231 rfl) (ww hw 193 rfl) (by decide) (by decide)) qq159a qq159b qq159c (g := (mkF m 143 #[.val (.int x0), .val (.int x1), .val (.int x2), .val (.int (2 : Int32)), .val (.int (1 : Int32)), .val .null, .val (.ref b3), .val (.ref b114), .val (.int (1 : Int32)), .unset] [(.ref b143_0)])) rfl (by rw [hml]; rfl) (Steps.refl _) (argsL := []) (rest := []) (lenOf pd___I rfl) rfl (by show 2 * 0 + _ ≤ _; exact Nat.le_of_eq rfl) (hb hby at_143) (fun _ _ => ⟨rfl, E154, (by decide : 21 + 0 ≤ _), (by decide : 123 + 0 ≤ _)⟩)
  dsimp only [Pt.U, Pt.locs, Pt.cells, Pt.slots] at X158 l158 y158 z158 st158 hQ158
  subst l158 y158 z158
  obtain ⟨rfl, N158q, E158⟩ := hQ158
  have N158 := Fr.app N154 N158q
  have zs160 := K90.1
  have zs161 := Nat.le_trans zs160 K108.1
  have zs162 := Nat.le_trans zs161 E114.1
  have zs163 := Nat.le_trans zs162 K143.1
  obtain ⟨fs, hr, hrun, hended, hend⟩ := leaveW (s := s) (vm₁ := T77.vm) X158 hS77 (by rw [E158]; exact (Nat.le_trans hk77 zs163)) (v := some (.int (1 : Int32))) (fun h => by rw [Bd.returns] at h; cases h)
  refine ⟨_, _, pre0 _ ?_, hrun, hended, _, _, rfl, ?_, hend.1, hend.2.1, hend.2.2.1, hend.2.2.2.mono (by decide) (by decide)⟩
  · show Steps p.tables e below (s₁.setTop (mkF m 0 #[.val (.int x0), .val (.int x1), .val (.int x2), .unset, .unset, .unset, .unset, .unset, .unset, .unset] [])) _
    refine XS.iloadN X0.here hx rfl (hb hby at_0) rfl ?_
    refine XS.iconst X0.here hx rfl (hb hby at_1) ?_
    refine XS.iand X0.here hx rfl (hb hby at_2) rfl ?_
    show Steps p.tables e below (s₁.setTop (mkF m 3 #[.val (.int x0), .val (.int x1), .val (.int x2), .unset, .unset, .unset, .unset, .unset, .unset, .unset] [(.int (x0 &&& (3 : Int32)))])) _
    rw [hc1]
    show Steps p.tables e below (s₁.setTop (mkF m 3 #[.val (.int x0), .val (.int x1), .val (.int x2), .unset, .unset, .unset, .unset, .unset, .unset, .unset] [(.int (2 : Int32))])) _
    refine XS.istoreN X0.here hx rfl (hb hby at_3) rfl (l' := #[.val (.int x0), .val (.int x1), .val (.int x2), .val (.int (2 : Int32)), .unset, .unset, .unset, .unset, .unset, .unset]) rfl ?_
    refine XS.iloadN X0.here hx rfl (hb hby at_4) rfl ?_
    refine XS.iconst X0.here hx rfl (hb hby at_5) ?_
    refine XS.iand X0.here hx rfl (hb hby at_6) rfl ?_
    show Steps p.tables e below (s₁.setTop (mkF m 7 #[.val (.int x0), .val (.int x1), .val (.int x2), .val (.int (2 : Int32)), .unset, .unset, .unset, .unset, .unset, .unset] [(.int (x2 &&& (1 : Int32)))])) _
    refine XS.ifNo X0.here hx rfl (hb hby at_7) rfl ((if0 _ _).trans (feq hc2).1) ?_
    refine XS.iconst X0.here hx rfl (hb hby at_10) ?_
    refine XS.goto X0.here hx rfl (pc0 := 11) (pc' := 15) rfl (hb hby at_11) (by decide) (by decide) ?_
    show Steps p.tables e below (s₁.setTop (mkF m 15 #[.val (.int x0), .val (.int x1), .val (.int x2), .val (.int (2 : Int32)), .unset, .unset, .unset, .unset, .unset, .unset] [(.int (1 : Int32))])) _
    refine XS.istore X0.here hx rfl (hb hby at_15) rfl (l' := #[.val (.int x0), .val (.int x1), .val (.int x2), .val (.int (2 : Int32)), .val (.int (1 : Int32)), .unset, .unset, .unset, .unset, .unset]) rfl ?_
    refine XS.iload X0.here hx rfl (hb hby at_17) rfl ?_
    refine XS.ifNo X0.here hx rfl (hb hby at_19) rfl ((if0 _ _).trans (feq (by decide : ¬ ((1 : Int32) = (0 : Int32)))).1) ?_
    refine XS.aconstNull X0.here hx rfl (hb hby at_22) ?_
    show Steps p.tables e below (s₁.setTop (mkF m 23 #[.val (.int x0), .val (.int x1), .val (.int x2), .val (.int (2 : Int32)), .val (.int (1 : Int32)), .unset, .unset, .unset, .unset, .unset] [.null])) _
    refine XS.goto X0.here hx rfl (pc0 := 23) (pc' := 30) rfl (hb hby at_23) (by decide) (by decide) ?_
    show Steps p.tables e below (s₁.setTop (mkF m 30 #[.val (.int x0), .val (.int x1), .val (.int x2), .val (.int (2 : Int32)), .val (.int (1 : Int32)), .unset, .unset, .unset, .unset, .unset] [.null])) _
    refine XS.astore X0.here hx rfl (hb hby at_30) rfl rfl (l' := #[.val (.int x0), .val (.int x1), .val (.int x2), .val (.int (2 : Int32)), .val (.int (1 : Int32)), .val .null, .unset, .unset, .unset, .unset]) rfl ?_
    refine st3 _ ?_
    show Steps p.tables e below (T3.setTop (mkF m 35 #[.val (.int x0), .val (.int x1), .val (.int x2), .val (.int (2 : Int32)), .val (.int (1 : Int32)), .val .null, .unset, .unset, .unset, .unset] [(.ref b3)])) _
    refine XS.dup X3.here hx rfl (hb hby at_35) rfl rfl ?_
    refine st11.trans ?_
    show Steps p.tables e below (T11.setTop (mkF m 39 #[.val (.int x0), .val (.int x1), .val (.int x2), .val (.int (2 : Int32)), .val (.int (1 : Int32)), .val .null, .unset, .unset, .unset, .unset] [(.ref b3)])) _
    refine XS.astore X11.here hx rfl (hb hby at_39) rfl rfl (l' := #[.val (.int x0), .val (.int x1), .val (.int x2), .val (.int (2 : Int32)), .val (.int (1 : Int32)), .val .null, .val (.ref b3), .unset, .unset, .unset]) rfl ?_
    refine XS.iloadN X11.here hx rfl (hb hby at_41) rfl ?_
    refine XS.iconst X11.here hx rfl (hb hby at_42) ?_
    refine XS.icmpNo X11.here hx rfl (hb hby at_43) rfl (flt (by decide : ¬ ((2 : Int32) < (1 : Int32)))).1 ?_
    show Steps p.tables e below (T11.setTop (mkF m 46 #[.val (.int x0), .val (.int x1), .val (.int x2), .val (.int (2 : Int32)), .val (.int (1 : Int32)), .val .null, .val (.ref b3), .unset, .unset, .unset] [])) _
    refine XS.aload X11.here hx rfl (hb hby at_46) rfl rfl ?_
    refine st15 _ ?_
    show Steps p.tables e below (T15.setTop (mkF m 51 #[.val (.int x0), .val (.int x1), .val (.int x2), .val (.int (2 : Int32)), .val (.int (1 : Int32)), .val .null, .val (.ref b3), .unset, .unset, .unset] [(.ref b15), (.ref b3)])) _
    refine XS.dup X15.here hx rfl (hb hby at_51) rfl rfl ?_
    refine st21 _ ?_
    show Steps p.tables e below (T21.setTop (mkF m 54 #[.val (.int x0), .val (.int x1), .val (.int x2), .val (.int (2 : Int32)), .val (.int (1 : Int32)), .val .null, .val (.ref b3), .unset, .unset, .unset] [(.ref a21), (.ref b15), (.ref b15), (.ref b3)])) _
    refine st22 _ ?_
    show Steps p.tables e below (T22.setTop (mkF m 56 #[.val (.int x0), .val (.int x1), .val (.int x2), .val (.int (2 : Int32)), .val (.int (1 : Int32)), .val .null, .val (.ref b3), .unset, .unset, .unset] [(.ref a22), (.ref a21), (.ref b15), (.ref b15), (.ref b3)])) _
    refine st23 _ ?_
    show Steps p.tables e below (T23.setTop (mkF m 58 #[.val (.int x0), .val (.int x1), .val (.int x2), .val (.int (2 : Int32)), .val (.int (1 : Int32)), .val .null, .val (.ref b3), .unset, .unset, .unset] [(.ref a23), (.ref a22), (.ref a21), (.ref b15), (.ref b15), (.ref b3)])) _
    refine st24 _ ?_
    show Steps p.tables e below (T24.setTop (mkF m 60 #[.val (.int x0), .val (.int x1), .val (.int x2), .val (.int (2 : Int32)), .val (.int (1 : Int32)), .val .null, .val (.ref b3), .unset, .unset, .unset] [(.ref a24), (.ref a23), (.ref a22), (.ref a21), (.ref b15), (.ref b15), (.ref b3)])) _
    refine st38.trans ?_
    show Steps p.tables e below (T38.setTop (mkF m 63 #[.val (.int x0), .val (.int x1), .val (.int x2), .val (.int (2 : Int32)), .val (.int (1 : Int32)), .val .null, .val (.ref b3), .unset, .unset, .unset] [(.ref b15), (.ref b3)])) _
    refine st58.trans ?_
    show Steps p.tables e below (T58.setTop (mkF m 66 #[.val (.int x0), .val (.int x1), .val (.int x2), .val (.int (2 : Int32)), .val (.int (1 : Int32)), .val .null, .val (.ref b3), .unset, .unset, .unset] [(.int (1 : Int32))])) _
    refine XS.pop X58.here hx rfl (hb hby at_66) rfl rfl ?_
    refine XS.iloadN X58.here hx rfl (hb hby at_67) rfl ?_
    refine XS.iconst X58.here hx rfl (hb hby at_68) ?_
    refine XS.icmpNo X58.here hx rfl (hb hby at_69) rfl (flt (by decide : ¬ ((2 : Int32) < (2 : Int32)))).1 ?_
    show Steps p.tables e below (T58.setTop (mkF m 72 #[.val (.int x0), .val (.int x1), .val (.int x2), .val (.int (2 : Int32)), .val (.int (1 : Int32)), .val .null, .val (.ref b3), .unset, .unset, .unset] [])) _
    refine XS.aload X58.here hx rfl (hb hby at_72) rfl rfl ?_
    refine st67 _ ?_
    show Steps p.tables e below (T67.setTop (mkF m 77 #[.val (.int x0), .val (.int x1), .val (.int x2), .val (.int (2 : Int32)), .val (.int (1 : Int32)), .val .null, .val (.ref b3), .unset, .unset, .unset] [(.ref b67), (.ref b3)])) _
    refine XS.dup X67.here hx rfl (hb hby at_77) rfl rfl ?_
    refine st72 _ ?_
    show Steps p.tables e below (T72.setTop (mkF m 80 #[.val (.int x0), .val (.int x1), .val (.int x2), .val (.int (2 : Int32)), .val (.int (1 : Int32)), .val .null, .val (.ref b3), .unset, .unset, .unset] [(.ref a72), (.ref b67), (.ref b67), (.ref b3)])) _
    refine st76 _ ?_
    show Steps p.tables e below (T76.setTop (mkF m 82 #[.val (.int x0), .val (.int x1), .val (.int x2), .val (.int (2 : Int32)), .val (.int (1 : Int32)), .val .null, .val (.ref b3), .unset, .unset, .unset] [(.ref a76), (.ref a72), (.ref b67), (.ref b67), (.ref b3)])) _
    refine XS.aconstNull X76.here hx rfl (hb hby at_82) ?_
    refine st77 _ ?_
    show Steps p.tables e below (T77.setTop (mkF m 85 #[.val (.int x0), .val (.int x1), .val (.int x2), .val (.int (2 : Int32)), .val (.int (1 : Int32)), .val .null, .val (.ref b3), .unset, .unset, .unset] [(.ref a77), .null, (.ref a76), (.ref a72), (.ref b67), (.ref b67), (.ref b3)])) _
    refine st90.trans ?_
    show Steps p.tables e below (T90.setTop (mkF m 88 #[.val (.int x0), .val (.int x1), .val (.int x2), .val (.int (2 : Int32)), .val (.int (1 : Int32)), .val .null, .val (.ref b3), .unset, .unset, .unset] [(.ref b67), (.ref b3)])) _
    refine st108.trans ?_
    show Steps p.tables e below (T108.setTop (mkF m 91 #[.val (.int x0), .val (.int x1), .val (.int x2), .val (.int (2 : Int32)), .val (.int (1 : Int32)), .val .null, .val (.ref b3), .unset, .unset, .unset] [(.int (1 : Int32))])) _
    refine XS.pop X108.here hx rfl (hb hby at_91) rfl rfl ?_
    refine XS.iloadN X108.here hx rfl (hb hby at_92) rfl ?_
    refine XS.iconst X108.here hx rfl (hb hby at_93) ?_
    refine XS.icmpYes X108.here hx rfl (pc0 := 94) (pc' := 118) rfl (hb hby at_94) rfl (tlt (by decide : (2 : Int32) < (3 : Int32))).1 (by decide) (by decide) ?_
    show Steps p.tables e below (T108.setTop (mkF m 118 #[.val (.int x0), .val (.int x1), .val (.int x2), .val (.int (2 : Int32)), .val (.int (1 : Int32)), .val .null, .val (.ref b3), .unset, .unset, .unset] [])) _
    refine st114 _ ?_
    show Steps p.tables e below (T114.setTop (mkF m 121 #[.val (.int x0), .val (.int x1), .val (.int x2), .val (.int (2 : Int32)), .val (.int (1 : Int32)), .val .null, .val (.ref b3), .unset, .unset, .unset] [(.ref b114)])) _
    refine XS.dup X114.here hx rfl (hb hby at_121) rfl rfl ?_
    refine XS.aload X114.here hx rfl (hb hby at_122) rfl rfl ?_
    refine XS.aload X114.here hx rfl (hb hby at_124) rfl rfl ?_
    refine st143.trans ?_
    show Steps p.tables e below (T143.setTop (mkF m 129 #[.val (.int x0), .val (.int x1), .val (.int x2), .val (.int (2 : Int32)), .val (.int (1 : Int32)), .val .null, .val (.ref b3), .unset, .unset, .unset] [(.ref b114)])) _
    refine XS.astore X143.here hx rfl (hb hby at_129) rfl rfl (l' := #[.val (.int x0), .val (.int x1), .val (.int x2), .val (.int (2 : Int32)), .val (.int (1 : Int32)), .val .null, .val (.ref b3), .val (.ref b114), .unset, .unset]) rfl ?_
    refine XS.aload X143.here hx rfl (hb hby at_131) rfl rfl ?_
    refine st151.trans ?_
    show Steps p.tables e below (T151.setTop (mkF m 136 #[.val (.int x0), .val (.int x1), .val (.int x2), .val (.int (2 : Int32)), .val (.int (1 : Int32)), .val .null, .val (.ref b3), .val (.ref b114), .unset, .unset] [(.int (1 : Int32))])) _
    refine XS.istore X151.here hx rfl (hb hby at_136) rfl (l' := #[.val (.int x0), .val (.int x1), .val (.int x2), .val (.int (2 : Int32)), .val (.int (1 : Int32)), .val .null, .val (.ref b3), .val (.ref b114), .val (.int (1 : Int32)), .unset]) rfl ?_
    refine XS.aload X151.here hx rfl (hb hby at_138) rfl rfl ?_
    refine st154.trans ?_
    show Steps p.tables e below (T154.setTop (mkF m 143 #[.val (.int x0), .val (.int x1), .val (.int x2), .val (.int (2 : Int32)), .val (.int (1 : Int32)), .val .null, .val (.ref b3), .val (.ref b114), .val (.int (1 : Int32)), .unset] [(.ref b143_0)])) _
    refine st158.trans ?_
    show Steps p.tables e below (T158.setTop (mkF m 148 #[.val (.int x0), .val (.int x1), .val (.int x2), .val (.int (2 : Int32)), .val (.int (1 : Int32)), .val .null, .val (.ref b3), .val (.ref b114), .val (.int (1 : Int32)), .unset] [(.int (2 : Int32))])) _
    refine XS.istore X158.here hx rfl (hb hby at_148) rfl (l' := #[.val (.int x0), .val (.int x1), .val (.int x2), .val (.int (2 : Int32)), .val (.int (1 : Int32)), .val .null, .val (.ref b3), .val (.ref b114), .val (.int (1 : Int32)), .val (.int (2 : Int32))]) rfl ?_
    refine XS.iload X158.here hx rfl (hb hby at_150) rfl ?_
    refine XS.iloadN X158.here hx rfl (hb hby at_152) rfl ?_
    refine XS.ifNo X158.here hx rfl (hb hby at_153) rfl ((if0 _ _).trans (feq (by decide : ¬ ((2 : Int32) = (0 : Int32)))).1) ?_
    show Steps p.tables e below (T158.setTop (mkF m 156 #[.val (.int x0), .val (.int x1), .val (.int x2), .val (.int (2 : Int32)), .val (.int (1 : Int32)), .val .null, .val (.ref b3), .val (.ref b114), .val (.int (1 : Int32)), .val (.int (2 : Int32))] [(.int (1 : Int32))])) _
    refine XS.iconst X158.here hx rfl (hb hby at_156) ?_
    refine XS.goto X158.here hx rfl (pc0 := 157) (pc' := 161) rfl (hb hby at_157) (by decide) (by decide) ?_
    show Steps p.tables e below (T158.setTop (mkF m 161 #[.val (.int x0), .val (.int x1), .val (.int x2), .val (.int (2 : Int32)), .val (.int (1 : Int32)), .val .null, .val (.ref b3), .val (.ref b114), .val (.int (1 : Int32)), .val (.int (2 : Int32))] [(.int (1 : Int32)), (.int (1 : Int32))])) _
    refine XS.icmpNo X158.here hx rfl (hb hby at_161) rfl (teq (rfl : (1 : Int32) = (1 : Int32))).2 ?_
    refine XS.iload X158.here hx rfl (hb hby at_164) rfl ?_
    refine XS.iloadN X158.here hx rfl (hb hby at_166) rfl ?_
    refine XS.icmpNo X158.here hx rfl (hb hby at_167) rfl (teq (rfl : (2 : Int32) = (2 : Int32))).2 ?_
    show Steps p.tables e below (T158.setTop (mkF m 170 #[.val (.int x0), .val (.int x1), .val (.int x2), .val (.int (2 : Int32)), .val (.int (1 : Int32)), .val .null, .val (.ref b3), .val (.ref b114), .val (.int (1 : Int32)), .val (.int (2 : Int32))] [])) _
    refine XS.iload X158.here hx rfl (hb hby at_170) rfl ?_
    refine XS.iload X158.here hx rfl (hb hby at_172) rfl ?_
    refine XS.ifNo X158.here hx rfl (hb hby at_174) rfl ((if0 _ _).trans (feq (by decide : ¬ ((2 : Int32) = (0 : Int32)))).1) ?_
    refine XS.iconst X158.here hx rfl (hb hby at_177) ?_
    show Steps p.tables e below (T158.setTop (mkF m 178 #[.val (.int x0), .val (.int x1), .val (.int x2), .val (.int (2 : Int32)), .val (.int (1 : Int32)), .val .null, .val (.ref b3), .val (.ref b114), .val (.int (1 : Int32)), .val (.int (2 : Int32))] [(.int (1 : Int32)), (.int (1 : Int32))])) _
    refine XS.goto X158.here hx rfl (pc0 := 178) (pc' := 182) rfl (hb hby at_178) (by decide) (by decide) ?_
    show Steps p.tables e below (T158.setTop (mkF m 182 #[.val (.int x0), .val (.int x1), .val (.int x2), .val (.int (2 : Int32)), .val (.int (1 : Int32)), .val .null, .val (.ref b3), .val (.ref b114), .val (.int (1 : Int32)), .val (.int (2 : Int32))] [(.int (1 : Int32)), (.int (1 : Int32))])) _
    refine XS.icmpNo X158.here hx rfl (hb hby at_182) rfl (teq (rfl : (1 : Int32) = (1 : Int32))).2 ?_
    refine XS.iconst X158.here hx rfl (hb hby at_185) ?_
    refine XS.goto X158.here hx rfl (pc0 := 186) (pc' := 190) rfl (hb hby at_186) (by decide) (by decide) ?_
    show Steps p.tables e below (T158.setTop (mkF m 190 #[.val (.int x0), .val (.int x1), .val (.int x2), .val (.int (2 : Int32)), .val (.int (1 : Int32)), .val .null, .val (.ref b3), .val (.ref b114), .val (.int (1 : Int32)), .val (.int (2 : Int32))] [(.int (1 : Int32))])) _
    exact retN X158 hx (t := .boolean) Bd.returns (by simp) (hb hby at_190) hr
  · show Q0_5 Z x0 x1 x2 r3 c4 r5 r6 h0 n0 _ T158.heap _
    rw [E158]
    exact ⟨rfl, N158⟩
def Q6_6 (Z : State) (r0 : Addr) (r1 : Addr) (r2 : Addr) (r3 : Addr) (r4 : Addr) (c5 : ClassId) (r6 : Addr) (r7 : Addr) (h0 : Heap) (n0 : Nat) (v : Option Value) (h : Heap) (L : List Loc) : Prop := ∃ (b24_0 : Addr), v = none ∧ Fr n0 L ∧ Keep h0 h [r0] ∧ Fld Z h r0 cs5 "value" "Ljava/lang/Object;" (.ref r1) ∧ Fld Z h r0 cs5 "errors" "Ljava/util/List;" (.ref b24_0) ∧ h0.size ≤ b24_0 ∧ Exa Z h b24_0 cs18 ∧ Fld Z h b24_0 cs18 "e0" "Ljava/lang/Object;" (.ref r6) ∧ Fld Z h b24_0 cs18 "e1" "Ljava/lang/Object;" (.ref r7)
set_option maxRecDepth 65536 in
set_option maxHeartbeats 40000000 in
theorem rm6_6 (l : Launch) (Z : State) (a0 : Array Value) (hw : ∀ d ∈ tables_1, d.before a0 Z = true) (ws : List Jvm.Cond) (r0 : Addr) (r1 : Addr) (r2 : Addr) (r3 : Addr) (r4 : Addr) (c5 : ClassId) (r6 : Addr) (r7 : Addr) (h0 : Heap) (n0 : Nat) (O0 : Old Z n0 h0) (f2 : Exa Z h0 r0 cs5) (f3 : Fld Z h0 r0 cs5 "value" "Ljava/lang/Object;" .null) (g4 : n0 ≤ r0) (f6 : Exa Z h0 r2 "java/util/ArrayList") (f8 : Fld Z h0 r2 "java/util/ArrayList" "size" "I" (.int (2 : Int32))) (n9 : r2 ≠ r0) (f11 : Fld Z h0 r2 "java/util/ArrayList" "elementData" "[Ljava/lang/Object;" (.ref r3)) (f13 : Exa Z h0 r3 "[Ljava/lang/Object;") (f15 : own_Mir Z "[Ljava/lang/Object;" r4) (f16 : Arv Z h0 r3 c5 (.object "java/lang/Object") (10 : Int32) [(.ref r6), (.ref r7), .null, .null, .null, .null, .null, .null, .null, .null] .null) (n17 : r3 ≠ r0) (f19 : Exa Z h0 r7 cs10) (f21 : Exa Z h0 r6 cs10) (f30 : Fld Z h0 r0 cs5 "errors" "Ljava/util/List;" .null) (l36 : r0 < h0.size) :
    MetFree l (⟨cs5, "<init>", cs6⟩ : MethodName) (head1 (Jvm.Cond.code (⟨cs5, "<init>", cs6⟩ : MethodName) prog_4_method_1_code 3 none :: ws) ({ frames := 8, cells := 2, slots := 4, locals := 102 } : Room)) (fun a U => a = #[(.ref r0), (.ref r1), (.ref r2)] ∧ Z.Warmed39 U.vm ∧ U.heap = h0) (fun _ _ _ _ _ => True) (fun _ U o U' => ∃ v L, o = .returned v ∧ Q6_6 Z r0 r1 r2 r3 r4 c5 r6 r7 h0 n0 v U'.heap L ∧ FrameEnd U o U' L ({ frames := 8, cells := 2, slots := 4, locals := 102 } : Room).cells ({ frames := 8, cells := 2, slots := 4, locals := 102 } : Room).slots) := by
  refine MetFree.of_bodySF (plainFor_of_name pn_com_example_weaverbird_weaverbird_bind_Binding) hisR ?_
  intro p e s m args below meth c s₁ Bd hml0 hP hK
  obtain ⟨rfl, hZ, hh⟩ := hP
  have hx := Bd.exec
  have hby := Bd.bytes
  have hml : c.maxLocals = 3 := hml0
  have hown : s.vm.findClass cs5 = some m.cls := findClass_of_methodNamed Bd.named
  have hnm := (name_of_methodNamed Bd.named Bd.method).1
  have X0 : Stand p l e ({ frames := 8, cells := 2, slots := 4, locals := 102 } : Room) s m #[(.ref r0), (.ref r1), (.ref r2)] below meth c s₁ [] 0 0 := Stand.of_body Bd
  have e0 : s₁.heap = h0 := by rw [← hh, Bd.state]; rfl
  have N0 := Fr.nil n0
  have pre0 : ∀ t, Steps p.tables e below (s₁.setTop (mkF m 0 #[.val (.ref r0), .val (.ref r1), .val (.ref r2)] [])) t → Steps p.tables e below (s₁.setTop (entryFrame m #[(.ref r0), (.ref r1), (.ref r2)] 3)) t := fun t k => castTop (by first | (simp [entryFrame, mkF, argsToLocals, Value.category]; done) | rfl) k
  obtain ⟨T1, X1, e1, st1⟩ := initO X0 hx hZ hown (ww hw 39 rfl) (ww hw 26 rfl) (ww hw 27 rfl) e0 (g := (mkF m 1 #[.val (.ref r0), .val (.ref r1), .val (.ref r2)] [(.ref r0)])) rfl (by rw [hml]; rfl) rfl (hb hby d6_1) (by decide) (W := 0) (by show 2 * 0 + _ ≤ _; exact Nat.le_of_eq rfl) (by decide)
  obtain ⟨T5, h5, X5, e5, W5, st5⟩ := putF X1 hx hZ hown (host := "") (Or.inl (ww hw 40 rfl)) Via.refl e1 f3 f2 (Or.inr ⟨(ww hw 41 rfl), rfl, hnm⟩) (ww hw 34 rfl) (ty := (.object "java/lang/Object")) (by decide) rfl rfl (g := (mkF m 6 #[.val (.ref r0), .val (.ref r1), .val (.ref r2)] [(.ref r1), (.ref r0)])) rfl rfl (hb hby d6_6)
  have Fw5 := f3.same W5
  have N5 := Fr.snoc X5 N0 g4
  have f7 := (f6.wr W5)
  have f10 := (f8.other W5 (Or.inl n9))
  have f12 := (f11.other W5 (Or.inl n9))
  have f14 := (f13.wr W5)
  have f18 := (f16.other W5 n17)
  have f20 := (f19.wr W5)
  have f22 := (f21.wr W5)
  have o23 := Old.wr O0 W5 g4
  obtain ⟨_, _, ⟨T24, L24, k24, n24⟩, -, X24, ⟨Lc24, hQ24, l24, y24, z24⟩, st24⟩ := Jvm.LawKit.callS X5 hx (y := (⟨"java/util/List", "copyOf", cs4⟩ : MethodName)) hown (mvT hZ (ww hw 42 rfl)) (mvT hZ (ww hw 43 rfl)) (mvT hZ (ww hw 44 rfl)) (mvT hZ (ww hw 45 rfl)) (by decide) (backOf (W := 1) (rm7_3 l Z a0 hw [] r2 r3 r4 c5 r6 r7 h5 n0 o23 f7 f10 f12 f14 f15 f18 f20 f22) hZ (ww hw 45 rfl) (ww hw 44 rfl) (by decide) (by decide)) (g := (mkF m 11 #[.val (.ref r0), .val (.ref r1), .val (.ref r2)] [(.ref r2), (.ref r0)])) rfl (by rw [hml]; rfl) (argsL := [(.ref r2)]) (rest := [(.ref r0)]) (lenOf pd__Ljava_util_Collection__Ljava_util_List_ rfl) rfl (by show 2 * 0 + _ ≤ _; exact Nat.le_of_eq rfl) (hb hby d6_11) (fun _ _ => ⟨rfl, e5, (by decide : 0 + 2 ≤ _), (by decide : 0 + 4 ≤ _)⟩)
  dsimp only [Pt.U, Pt.locs, Pt.cells, Pt.slots] at X24 l24 y24 z24 st24 hQ24
  subst l24 y24 z24
  obtain ⟨b24_0, rfl, N24q, K24, f25, f26, f27, f28⟩ := hQ24
  have N24 := Fr.app N5 N24q
  have f29 := ((f2.wr W5).keep K24)
  have f31 := ((f30.other W5 (Or.inr (slot_ne (Or.inr (ww hw 72 rfl)) (Or.inr (ww hw 41 rfl)) (by decide) (t := (.object "java/util/List")) (t' := (.object "java/lang/Object")) (by decide) (by decide)))).keep K24 nin0)
  obtain ⟨T32, h32, X32, e32, W32, st32⟩ := putF X24 hx hZ hown (host := "") (Or.inl (ww hw 71 rfl)) Via.refl rfl f31 f29 (Or.inr ⟨(ww hw 72 rfl), rfl, hnm⟩) (ww hw 34 rfl) (ty := (.object "java/util/List")) (by decide) rfl rfl (g := (mkF m 14 #[.val (.ref r0), .val (.ref r1), .val (.ref r2)] [(.ref b24_0), (.ref r0)])) rfl rfl (hb hby d6_14)
  have Fw32 := f31.same W32
  have N32 := Fr.snoc X32 N24 g4
  have f33 := ((Fw5.keep K24 nin0).other W32 (Or.inr (slot_ne (Or.inr (ww hw 41 rfl)) (Or.inr (ww hw 72 rfl)) (by decide) (t := (.object "java/lang/Object")) (t' := (.object "java/util/List")) (by decide) (by decide))))
  have zs34 := (Nat.le_of_eq W5.size.symm)
  have f35 := (f26.wr W32)
  have n37 := Nat.ne_of_lt (Nat.lt_of_lt_of_le (Nat.lt_of_lt_of_le l36 zs34) f25)
  have f38 := (f27.other W32 (Or.inl (Ne.symm n37)))
  have f39 := (f28.other W32 (Or.inl (Ne.symm n37)))
  have kp40 : Keep h0 h5 [r0] := (Keep.refl h0 [r0]).wr W5 (Or.inl (List.mem_of_getElem? (i := 0) rfl))
  have kp41 : Keep h0 T24.heap [r0] := kp40.trans K24 all0
  have kp42 : Keep h0 h32 [r0] := kp41.wr W32 (Or.inl (List.mem_of_getElem? (i := 0) rfl))
  obtain ⟨fs, hr, hrun, hended, hW, hsame⟩ := X32.leave (v := none) (fun _ => rfl)
  refine ⟨_, _, pre0 _ ?_, hrun, hended, _, _, rfl, ?_, ⟨_, rfl⟩, hW, hsame.mono (by decide) (by decide)⟩
  · show Steps p.tables e below (s₁.setTop (mkF m 0 #[.val (.ref r0), .val (.ref r1), .val (.ref r2)] [])) _
    refine XS.aloadN X0.here hx rfl (hb hby d6_0) rfl rfl ?_
    refine st1 _ ?_
    show Steps p.tables e below (T1.setTop (mkF m 4 #[.val (.ref r0), .val (.ref r1), .val (.ref r2)] [])) _
    refine XS.aloadN X1.here hx rfl (hb hby d6_4) rfl rfl ?_
    refine XS.aloadN X1.here hx rfl (hb hby d6_5) rfl rfl ?_
    refine st5 _ ?_
    show Steps p.tables e below (T5.setTop (mkF m 9 #[.val (.ref r0), .val (.ref r1), .val (.ref r2)] [])) _
    refine XS.aloadN X5.here hx rfl (hb hby d6_9) rfl rfl ?_
    refine XS.aloadN X5.here hx rfl (hb hby d6_10) rfl rfl ?_
    refine st24 _ ?_
    show Steps p.tables e below (T24.setTop (mkF m 14 #[.val (.ref r0), .val (.ref r1), .val (.ref r2)] [(.ref b24_0), (.ref r0)])) _
    refine st32 _ ?_
    show Steps p.tables e below (T32.setTop (mkF m 17 #[.val (.ref r0), .val (.ref r1), .val (.ref r2)] [])) _
    exact X32.returnOut hx Bd.returns (hb hby d6_17) hr
  · show Q6_6 Z r0 r1 r2 r3 r4 c5 r6 r7 h0 n0 _ T32.heap _
    rw [e32]
    exact ⟨b24_0, rfl, N32, kp42, f33, Fw32, (Nat.le_trans zs34 f25), f35, f38, f39⟩
def Q0_6 (Z : State) (x0 : Int32) (x1 : Int32) (x2 : Int32) (r3 : Addr) (d4 : Cell) (r5 : Addr) (c6 : ClassId) (r7 : Addr) (r8 : Addr) (h0 : Heap) (n0 : Nat) (v : Option Value) (h : Heap) (L : List Loc) : Prop := v = some (.int (1 : Int32)) ∧ Fr n0 L
set_option maxRecDepth 65536 in
set_option maxHeartbeats 40000000 in
theorem rm0_6 (l : Launch) (Z : State) (a0 : Array Value) (hw : ∀ d ∈ tables_1, d.before a0 Z = true) (ws : List Jvm.Cond) (x0 : Int32) (x1 : Int32) (x2 : Int32) (r3 : Addr) (d4 : Cell) (r5 : Addr) (c6 : ClassId) (r7 : Addr) (r8 : Addr) (h0 : Heap) (n0 : Nat) (O0 : Old Z n0 h0) (hc1 : (x0 &&& (3 : Int32)) = (2 : Int32)) (hc2 : (x2 &&& (1 : Int32)) = (0 : Int32)) (f3 : Sta Z Z.heap cs9 "high" "I" (.int (127 : Int32))) (f4 : Sta Z Z.heap cs9 "cache" "[Ljava/lang/Integer;" (.ref r3)) (f5 : Arr Z Z.heap r3 d4 (.object "java/lang/Integer")) (hc6 : d4.slots.size = 256) (hc7 : ∀ j : Int32, ¬ (j < 0 ∨ d4.slots.size ≤ j.toNatClampNeg) → ∃ r : Addr, d4.slots[j.toNatClampNeg]? = some (.ref r)) (f17 : Sta Z Z.heap "java/util/ArrayList" cs1 "[Ljava/lang/Object;" (.ref r5)) (f57 : Arv Z Z.heap r5 c6 (.object "java/lang/Object") (0 : Int32) [] .null) (f139 : own_Mir Z "[Ljava/lang/Object;" r7) (f164 : Sta Z Z.heap cs2 "EMPTY" "Ljava/lang/Object;" (.ref r8)) (f165 : Exa Z Z.heap r8 "java/lang/Object") :
    MetFree l x (head1 (Jvm.Cond.code x code maxLocals ret :: ws) room_1) (fun a U => a = #[(.int x0), (.int x1), (.int x2)] ∧ Z.Warmed39 U.vm ∧ U.heap = h0) (fun _ _ _ _ _ => True) (fun _ U o U' => ∃ v L, o = .returned v ∧ Q0_6 Z x0 x1 x2 r3 d4 r5 c6 r7 r8 h0 n0 v U'.heap L ∧ ReturnedEndW U o U' L room_1.cells room_1.slots) := by
  refine MetFree.of_bodySF (plainFor_of_name pn_com_example_weaverbird_weaverbird_bind_BindingHasErrorsPinLaw) hisR ?_
  intro p e s m args below meth c s₁ Bd hml0 hP hK
  obtain ⟨rfl, hZ, hh⟩ := hP
  have hx := Bd.exec
  have hby := Bd.bytes
  have hml : c.maxLocals = 10 := hml0
  have hown : s.vm.findClass cs8 = some m.cls := findClass_of_methodNamed Bd.named
  have hnm := (name_of_methodNamed Bd.named Bd.method).1
  have X0 : Stand p l e room_1 s m #[(.int x0), (.int x1), (.int x2)] below meth c s₁ [] 0 0 := Stand.of_body Bd
  have e0 : s₁.heap = h0 := by rw [← hh, Bd.state]; rfl
  have N0 := Fr.nil n0
  have pre0 : ∀ t, Steps p.tables e below (s₁.setTop (mkF m 0 #[.val (.int x0), .val (.int x1), .val (.int x2), .unset, .unset, .unset, .unset, .unset, .unset, .unset] [])) t → Steps p.tables e below (s₁.setTop (entryFrame m #[(.int x0), (.int x1), (.int x2)] maxLocals)) t := fun t k => castTop (by first | (simp [entryFrame, mkF, argsToLocals, Value.category, maxLocals]; done) | rfl) k
  obtain ⟨_, _, ⟨T8, L8, k8, n8⟩, -, X8, ⟨Lc8, hQ8, l8, y8, z8⟩, st8⟩ := Jvm.LawKit.callS X0 hx (y := (⟨"java/lang/Integer", "valueOf", "(I)Ljava/lang/Integer;"⟩ : MethodName)) hown (mvT hZ (ww hw 0 rfl)) (mvT hZ (ww hw 1 rfl)) (mvT hZ (ww hw 2 rfl)) (mvT hZ (ww hw 3 rfl)) (by decide) (backOf (W := 0) (rmvalueOf l Z a0 hw [] x1 r3 d4 h0 n0 O0 f3 f4 f5 hc6 hc7) hZ (ww hw 3 rfl) (ww hw 2 rfl) (by decide) (by decide)) (g := (mkF m 27 #[.val (.int x0), .val (.int x1), .val (.int x2), .val (.int (2 : Int32)), .val (.int (0 : Int32)), .unset, .unset, .unset, .unset, .unset] [(.int x1)])) rfl (by rw [hml]; rfl) (argsL := [(.int x1)]) (rest := []) (lenOf pd__I_Ljava_lang_Integer_ rfl) rfl (by show 2 * 0 + _ ≤ _; exact Nat.le_of_eq rfl) (hb hby at_27) (fun _ _ => ⟨rfl, e0, (by decide : 0 + 1 ≤ _), (by decide : 0 + 1 ≤ _)⟩)
  dsimp only [Pt.U, Pt.locs, Pt.cells, Pt.slots] at X8 l8 y8 z8 st8 hQ8
  subst l8 y8 z8
  obtain ⟨b8_0, rfl, N8q, K8, f9⟩ := hQ8
  have N8 := Fr.app N0 N8q
  obtain ⟨T10, h10, X10, e10, E10, A10, D10, -, st10⟩ := newO X8 hx hZ hown (ww hw 7 rfl) (ww hw 8 rfl) (ww hw 9 rfl) rfl (g := (mkF m 32 #[.val (.int x0), .val (.int x1), .val (.int x2), .val (.int (2 : Int32)), .val (.int (0 : Int32)), .val (.ref b8_0), .unset, .unset, .unset, .unset] [])) rfl (hb hby at_32) (by decide) (by decide)
  obtain ⟨b10, g10⟩ : ∃ z, z = T8.heap.size := ⟨_, rfl⟩
  rw [← g10] at A10 D10 st10
  have f11 : Fld Z h10 b10 "java/util/AbstractList" "modCount" "I" (.int (0 : Int32)) := D10 (Or.inl (ww hw 29 rfl)) (ty := .int) (by decide)
  have f12 : Fld Z h10 b10 "java/util/ArrayList" "elementData" "[Ljava/lang/Object;" .null := D10 (Or.inl (ww hw 32 rfl)) (ty := (.array (.object "java/lang/Object"))) (by decide)
  have f13 : Fld Z h10 b10 "java/util/ArrayList" "size" "I" (.int (0 : Int32)) := D10 (Or.inl (ww hw 66 rfl)) (ty := .int) (by decide)
  have o15 := Old.keep O0 K8 all0
  have zz14 : n0 ≤ T8.heap.size := by rw [← o15.1]; exact o15.2.1
  have g16 := Nat.le_trans zz14 (Nat.le_of_eq g10.symm)
  have o18 := Old.ext o15 E10
  obtain ⟨_, _, ⟨T19, L19, k19, n19⟩, -, X19, ⟨Lc19, hQ19, l19, y19, z19⟩, st19⟩ := X10.specialBack hx (y := (⟨"java/util/ArrayList", "<init>", "()V"⟩ : MethodName)) rfl hown (mvT hZ (ww hw 10 rfl)) (mvT hZ (ww hw 11 rfl)) (mvT hZ (ww hw 12 rfl)) (by decide) (backOf (W := 1) (rm2_1 l Z a0 hw [] b10 r5 h10 n0 o18 A10 f11 g16 f12 f13 f17) hZ (ww hw 12 rfl) (ww hw 9 rfl) (by decide) (by decide)) (g := (mkF m 36 #[.val (.int x0), .val (.int x1), .val (.int x2), .val (.int (2 : Int32)), .val (.int (0 : Int32)), .val (.ref b8_0), .unset, .unset, .unset, .unset] [(.ref b10), (.ref b10)])) rfl (by rw [hml]; rfl) (Steps.refl _) (a := b10) (argsL := []) (rest := [(.ref b10)]) (lenOf pd___V rfl) rfl (by show 2 * 0 + _ ≤ _; exact Nat.le_of_eq rfl) (hb hby at_36) (fun _ _ => ⟨rfl, e10, (by decide : 2 + 0 ≤ _), (by decide : 4 + 0 ≤ _)⟩)
  dsimp only [Pt.U, Pt.locs, Pt.cells, Pt.slots] at X19 l19 y19 z19 st19 hQ19
  subst l19 y19 z19
  obtain ⟨rfl, N19q, K19, f20, f21, f22⟩ := hQ19
  have N19 := Fr.app N8 N19q
  obtain ⟨T23, h23, X23, e23, E23, A23, D23, -, st23⟩ := newO X19 hx hZ hown (ww hw 103 rfl) (ww hw 104 rfl) (ww hw 105 rfl) rfl (g := (mkF m 48 #[.val (.int x0), .val (.int x1), .val (.int x2), .val (.int (2 : Int32)), .val (.int (0 : Int32)), .val (.ref b8_0), .val (.ref b10), .unset, .unset, .unset] [(.ref b10)])) rfl (hb hby at_48) (by decide) (by decide)
  obtain ⟨b23, g23⟩ : ∃ z, z = T19.heap.size := ⟨_, rfl⟩
  rw [← g23] at A23 D23 st23
  have f24 : Fld Z h23 b23 cs10 "path" "Ljava/lang/String;" .null := D23 (Or.inr (ww hw 122 rfl)) (ty := (.object "java/lang/String")) (by decide)
  have f25 : Fld Z h23 b23 cs10 "code" "Ljava/lang/String;" .null := D23 (Or.inr (ww hw 124 rfl)) (ty := (.object "java/lang/String")) (by decide)
  have f26 : Fld Z h23 b23 cs10 "rejected" "Ljava/lang/String;" .null := D23 (Or.inr (ww hw 126 rfl)) (ty := (.object "java/lang/String")) (by decide)
  have f27 : Fld Z h23 b23 cs10 "message" "Ljava/lang/String;" .null := D23 (Or.inr (ww hw 128 rfl)) (ty := (.object "java/lang/String")) (by decide)
  have hS28 := (State.WarmedH.refl s).since 0
  have hstr : ∀ a ∈ Bundle.stringAtoms, a.before a0 Z = true := fun a q => hw a (own_str a q)
  obtain ⟨a29, T29, h29, kk29, X29, e29, E29, hS29, hk29, hZ29, ho29, st29⟩ := ldcS (s := s) (vm0 := s.vm) X23 hx hZ hown (ww hw 106 rfl) hstr e23 hS28 (Nat.zero_le _) (g := (mkF m 52 #[.val (.int x0), .val (.int x1), .val (.int x2), .val (.int (2 : Int32)), .val (.int (0 : Int32)), .val (.ref b8_0), .val (.ref b10), .unset, .unset, .unset] [(.ref b23), (.ref b23), (.ref b10)])) rfl (hb hby at_52) (n := 4) (by decide) (by decide) (by decide) (by decide)
  obtain ⟨a30, T30, h30, kk30, X30, e30, E30, hS30, hk30, hZ30, ho30, st30⟩ := ldcS (s := s) (vm0 := T29.vm) X29 hx hZ29 ho29 (ww hw 114 rfl) hstr e29 hS29 hk29 (g := (mkF m 54 #[.val (.int x0), .val (.int x1), .val (.int x2), .val (.int (2 : Int32)), .val (.int (0 : Int32)), .val (.ref b8_0), .val (.ref b10), .unset, .unset, .unset] [(.ref a29), (.ref b23), (.ref b23), (.ref b10)])) rfl (hb hby at_54) (n := 32) (by decide) (by decide) (by decide) (by decide)
  obtain ⟨a31, T31, h31, kk31, X31, e31, E31, hS31, hk31, hZ31, ho31, st31⟩ := ldcS (s := s) (vm0 := T30.vm) X30 hx hZ30 ho30 (ww hw 115 rfl) hstr e30 hS30 hk30 (g := (mkF m 56 #[.val (.int x0), .val (.int x1), .val (.int x2), .val (.int (2 : Int32)), .val (.int (0 : Int32)), .val (.ref b8_0), .val (.ref b10), .unset, .unset, .unset] [(.ref a30), (.ref a29), (.ref b23), (.ref b23), (.ref b10)])) rfl (hb hby at_56) (n := 0) (by decide) (by decide) (by decide) (by decide)
  obtain ⟨a32, T32, h32, kk32, X32, e32, E32, hS32, hk32, hZ32, ho32, st32⟩ := ldcS (s := s) (vm0 := T31.vm) X31 hx hZ31 ho31 (ww hw 116 rfl) hstr e31 hS31 hk31 (g := (mkF m 58 #[.val (.int x0), .val (.int x1), .val (.int x2), .val (.int (2 : Int32)), .val (.int (0 : Int32)), .val (.ref b8_0), .val (.ref b10), .unset, .unset, .unset] [(.ref a31), (.ref a30), (.ref a29), (.ref b23), (.ref b23), (.ref b10)])) rfl (hb hby at_58) (n := 4) (by decide) (by decide) (by decide) (by decide)
  have f33 := ((((A23.ext E29).ext E30).ext E31).ext E32)
  have f34 := ((((f24.ext E29).ext E30).ext E31).ext E32)
  have o36 := Old.keep o18 K19 (allS g16 all0)
  have zz35 : n0 ≤ T19.heap.size := by rw [← o36.1]; exact o36.2.1
  have g37 := Nat.le_trans zz35 (Nat.le_of_eq g23.symm)
  have f38 := ((((f25.ext E29).ext E30).ext E31).ext E32)
  have f39 := ((((f26.ext E29).ext E30).ext E31).ext E32)
  have f40 := ((((f27.ext E29).ext E30).ext E31).ext E32)
  have o41 := Old.ext o36 E23
  have o42 := Old.ext o41 E29
  have o43 := Old.ext o42 E30
  have o44 := Old.ext o43 E31
  have o45 := Old.ext o44 E32
  obtain ⟨_, _, ⟨T46, L46, k46, n46⟩, -, X46, ⟨Lc46, hQ46, l46, y46, z46⟩, st46⟩ := X32.specialBack hx (y := (⟨cs10, "<init>", cs11⟩ : MethodName)) rfl ho32 (mvT hZ32 (ww hw 117 rfl)) (mvT hZ32 (ww hw 118 rfl)) (mvT hZ32 (ww hw 119 rfl)) (by decide) (backOf (W := 2) (rm15_1 l Z a0 hw [] b23 a29 a30 a31 a32 h32 n0 o45 f33 f34 g37 f38 f39 f40) hZ32 (ww hw 119 rfl) (ww hw 105 rfl) (by decide) (by decide)) (g := (mkF m 60 #[.val (.int x0), .val (.int x1), .val (.int x2), .val (.int (2 : Int32)), .val (.int (0 : Int32)), .val (.ref b8_0), .val (.ref b10), .unset, .unset, .unset] [(.ref a32), (.ref a31), (.ref a30), (.ref a29), (.ref b23), (.ref b23), (.ref b10)])) rfl (by rw [hml]; rfl) (Steps.refl _) (a := b23) (argsL := [(.ref a29), (.ref a30), (.ref a31), (.ref a32)]) (rest := [(.ref b23), (.ref b10)]) (lenOf pd__Ljava_lang_String_Ljava_lang_String_Ljava_lang_String_Ljava_lang_String__V rfl) rfl (by show 2 * 0 + _ ≤ _; exact Nat.le_of_eq rfl) (hb hby at_60) (fun _ _ => ⟨rfl, e32, (by decide : 11 + 0 ≤ _), (by decide : 64 + 0 ≤ _)⟩)
  dsimp only [Pt.U, Pt.locs, Pt.cells, Pt.slots] at X46 l46 y46 z46 st46 hQ46
  subst l46 y46 z46
  obtain ⟨rfl, N46q, K46, f47, f48, f49, f50⟩ := hQ46
  have N46 := Fr.app N19 N46q
  have zs51 := K19.1
  have n52 := Nat.ne_of_lt (Nat.lt_of_lt_of_le (Nat.lt_of_lt_of_le A10.lt zs51) (Nat.le_of_eq g23.symm))
  have f53 := ((((((f20.ext E23).ext E29).ext E30).ext E31).ext E32).keep K46 (ninS n52 nin0))
  have f54 := (((((((A10.keep K19).ext E23).ext E29).ext E30).ext E31).ext E32).keep K46)
  have f55 := ((((((f21.ext E23).ext E29).ext E30).ext E31).ext E32).keep K46 (ninS n52 nin0))
  have f56 := ((((((f22.ext E23).ext E29).ext E30).ext E31).ext E32).keep K46 (ninS n52 nin0))
  have zs58 := Nat.le_trans zs51 E23.1
  have zs59 := Nat.le_trans zs58 E29.1
  have zs60 := Nat.le_trans zs59 E30.1
  have zs61 := Nat.le_trans zs60 E31.1
  have zs62 := Nat.le_trans zs61 E32.1
  have zs63 := Nat.le_trans zs62 K46.1
  have f64 := (f33.keep K46)
  have o65 := Old.keep o45 K46 (allS g37 all0)
  obtain ⟨cqq67, kqq67, qq67a, qq67b, qq67c⟩ := isOf hZ32 rfl f54
  obtain ⟨_, _, ⟨T66, L66, k66, n66⟩, -, X66, ⟨Lc66, hQ66, l66, y66, z66⟩, st66⟩ := X46.virtualBack hx (y := (⟨"java/util/ArrayList", "add", "(Ljava/lang/Object;)Z"⟩ : MethodName)) (z := (⟨"java/util/ArrayList", "add", "(Ljava/lang/Object;)Z"⟩ : MethodName)) ho32 (mvT hZ32 (ww hw 129 rfl)) (mvT hZ32 (ww hw 130 rfl)) (notFace_of_selects (args := #[]) (mvT hZ32 (ww hw 132 rfl))) (mvT hZ32 (ww hw 132 rfl)) (mvT hZ32 (ww hw 131 rfl)) (by decide) (backOf (W := 0) (rm16_1 l Z a0 hw [] b10 b23 r5 c6 T46.heap n0 o65 f53 f54 g16 f55 f56 f57 f17 (Nat.lt_of_lt_of_le A10.lt zs63) f64) hZ32 (ww hw 133 rfl) (ww hw 9 rfl) (by decide) (by decide)) qq67a qq67c (g := (mkF m 63 #[.val (.int x0), .val (.int x1), .val (.int x2), .val (.int (2 : Int32)), .val (.int (0 : Int32)), .val (.ref b8_0), .val (.ref b10), .unset, .unset, .unset] [(.ref b23), (.ref b10)])) rfl (by rw [hml]; rfl) (Steps.refl _) (argsL := [(.ref b23)]) (rest := []) (lenOf pd__Ljava_lang_Object__Z rfl) rfl (by show 2 * 0 + _ ≤ _; exact Nat.le_of_eq rfl) (hb hby at_63) (fun _ _ => ⟨rfl, rfl, (by decide : 11 + 1 ≤ _), (by decide : 64 + 10 ≤ _)⟩)
  dsimp only [Pt.U, Pt.locs, Pt.cells, Pt.slots] at X66 l66 y66 z66 st66 hQ66
  subst l66 y66 z66
  obtain ⟨b66_0, k66_0, rfl, N66q, K66, f68, f69, f70, f71, f72, f73, f74⟩ := hQ66
  have N66 := Fr.app N46 N66q
  obtain ⟨T75, h75, X75, e75, E75, A75, D75, -, st75⟩ := newO X66 hx hZ32 ho32 (ww hw 103 rfl) (ww hw 104 rfl) (ww hw 105 rfl) rfl (g := (mkF m 74 #[.val (.int x0), .val (.int x1), .val (.int x2), .val (.int (2 : Int32)), .val (.int (0 : Int32)), .val (.ref b8_0), .val (.ref b10), .unset, .unset, .unset] [(.ref b10)])) rfl (hb hby at_74) (by decide) (by decide)
  obtain ⟨b75, g75⟩ : ∃ z, z = T66.heap.size := ⟨_, rfl⟩
  rw [← g75] at A75 D75 st75
  have f76 : Fld Z h75 b75 cs10 "path" "Ljava/lang/String;" .null := D75 (Or.inr (ww hw 122 rfl)) (ty := (.object "java/lang/String")) (by decide)
  have f77 : Fld Z h75 b75 cs10 "code" "Ljava/lang/String;" .null := D75 (Or.inr (ww hw 124 rfl)) (ty := (.object "java/lang/String")) (by decide)
  have f78 : Fld Z h75 b75 cs10 "rejected" "Ljava/lang/String;" .null := D75 (Or.inr (ww hw 126 rfl)) (ty := (.object "java/lang/String")) (by decide)
  have f79 : Fld Z h75 b75 cs10 "message" "Ljava/lang/String;" .null := D75 (Or.inr (ww hw 128 rfl)) (ty := (.object "java/lang/String")) (by decide)
  have zs81 := K46.1
  have zs82 := Nat.le_trans zs81 K66.1
  have zs83 := Nat.le_trans zs82 E75.1
  obtain ⟨a80, T80, h80, kk80, X80, e80, E80, hS80, hk80, hZ80, ho80, st80⟩ := ldcS (s := s) (vm0 := T32.vm) X75 hx hZ32 ho32 (ww hw 232 rfl) hstr e75 hS32 (Nat.le_trans hk32 zs83) (g := (mkF m 78 #[.val (.int x0), .val (.int x1), .val (.int x2), .val (.int (2 : Int32)), .val (.int (0 : Int32)), .val (.ref b8_0), .val (.ref b10), .unset, .unset, .unset] [(.ref b75), (.ref b75), (.ref b10)])) rfl (hb hby at_78) (n := 4) (by decide) (by decide) (by decide) (by decide)
  obtain ⟨a84, T84, h84, kk84, X84, e84, E84, hS84, hk84, hZ84, ho84, st84⟩ := ldcS (s := s) (vm0 := T80.vm) X80 hx hZ80 ho80 (ww hw 233 rfl) hstr e80 hS80 hk80 (g := (mkF m 80 #[.val (.int x0), .val (.int x1), .val (.int x2), .val (.int (2 : Int32)), .val (.int (0 : Int32)), .val (.ref b8_0), .val (.ref b10), .unset, .unset, .unset] [(.ref a80), (.ref b75), (.ref b75), (.ref b10)])) rfl (hb hby at_80) (n := 20) (by decide) (by decide) (by decide) (by decide)
  obtain ⟨a85, T85, h85, kk85, X85, e85, E85, hS85, hk85, hZ85, ho85, st85⟩ := ldcS (s := s) (vm0 := T84.vm) X84 hx hZ84 ho84 (ww hw 116 rfl) hstr e84 hS84 hk84 (g := (mkF m 83 #[.val (.int x0), .val (.int x1), .val (.int x2), .val (.int (2 : Int32)), .val (.int (0 : Int32)), .val (.ref b8_0), .val (.ref b10), .unset, .unset, .unset] [.null, (.ref a84), (.ref a80), (.ref b75), (.ref b75), (.ref b10)])) rfl (hb hby at_83) (n := 4) (by decide) (by decide) (by decide) (by decide)
  have f86 := (((A75.ext E80).ext E84).ext E85)
  have f87 := (((f76.ext E80).ext E84).ext E85)
  have o89 := Old.keep o65 K66 (allS g16 all0)
  have zz88 : n0 ≤ T66.heap.size := by rw [← o89.1]; exact o89.2.1
  have g90 := Nat.le_trans zz88 (Nat.le_of_eq g75.symm)
  have f91 := (((f77.ext E80).ext E84).ext E85)
  have f92 := (((f78.ext E80).ext E84).ext E85)
  have f93 := (((f79.ext E80).ext E84).ext E85)
  have o94 := Old.ext o89 E75
  have o95 := Old.ext o94 E80
  have o96 := Old.ext o95 E84
  have o97 := Old.ext o96 E85
  obtain ⟨_, _, ⟨T98, L98, k98, n98⟩, -, X98, ⟨Lc98, hQ98, l98, y98, z98⟩, st98⟩ := X85.specialBack hx (y := (⟨cs10, "<init>", cs11⟩ : MethodName)) rfl ho85 (mvT hZ85 (ww hw 117 rfl)) (mvT hZ85 (ww hw 118 rfl)) (mvT hZ85 (ww hw 119 rfl)) (by decide) (backOf (W := 2) (rm15_2 l Z a0 hw [] b75 a80 a84 a85 h85 n0 o97 f86 f87 g90 f91 f92 f93) hZ85 (ww hw 119 rfl) (ww hw 105 rfl) (by decide) (by decide)) (g := (mkF m 85 #[.val (.int x0), .val (.int x1), .val (.int x2), .val (.int (2 : Int32)), .val (.int (0 : Int32)), .val (.ref b8_0), .val (.ref b10), .unset, .unset, .unset] [(.ref a85), .null, (.ref a84), (.ref a80), (.ref b75), (.ref b75), (.ref b10)])) rfl (by rw [hml]; rfl) (Steps.refl _) (a := b75) (argsL := [(.ref a80), (.ref a84), .null, (.ref a85)]) (rest := [(.ref b75), (.ref b10)]) (lenOf pd__Ljava_lang_String_Ljava_lang_String_Ljava_lang_String_Ljava_lang_String__V rfl) rfl (by show 2 * 0 + _ ≤ _; exact Nat.le_of_eq rfl) (hb hby at_85) (fun _ _ => ⟨rfl, e85, (by decide : 19 + 0 ≤ _), (by decide : 118 + 0 ≤ _)⟩)
  dsimp only [Pt.U, Pt.locs, Pt.cells, Pt.slots] at X98 l98 y98 z98 st98 hQ98
  subst l98 y98 z98
  obtain ⟨rfl, N98q, K98, f99, f100, f101, f102⟩ := hQ98
  have N98 := Fr.app N66 N98q
  have zs103 := Nat.le_trans zs63 K66.1
  have n104 := Nat.ne_of_lt (Nat.lt_of_lt_of_le (Nat.lt_of_lt_of_le A10.lt zs103) (Nat.le_of_eq g75.symm))
  have f105 := (((((f70.ext E75).ext E80).ext E84).ext E85).keep K98 (ninS n104 nin0))
  have f106 := ((((((f54.keep K66).ext E75).ext E80).ext E84).ext E85).keep K98)
  have f107 := (((((f68.ext E75).ext E80).ext E84).ext E85).keep K98 (ninS n104 nin0))
  have f108 := (((((f69.ext E75).ext E80).ext E84).ext E85).keep K98 (ninS n104 nin0))
  have n109 := Nat.ne_of_lt (Nat.lt_of_lt_of_le f72.lt (Nat.le_of_eq g75.symm))
  have f110 := (((((f72.ext E75).ext E80).ext E84).ext E85).keep K98 (ninS n109 nin0))
  have n111 := Nat.ne_of_lt (Nat.lt_of_lt_of_le (Nat.lt_of_lt_of_le A10.lt zs63) f71)
  have f112 := (f86.keep K98)
  have zz113 : n0 ≤ T46.heap.size := by rw [← o65.1]; exact o65.2.1
  have g114 := Nat.le_trans zz113 f71
  have o115 := Old.keep o97 K98 (allS g90 all0)
  obtain ⟨cqq117, kqq117, qq117a, qq117b, qq117c⟩ := isOf hZ85 rfl f106
  obtain ⟨_, _, ⟨T116, L116, k116, n116⟩, -, X116, ⟨Lc116, hQ116, l116, y116, z116⟩, st116⟩ := X98.virtualBack hx (y := (⟨"java/util/ArrayList", "add", "(Ljava/lang/Object;)Z"⟩ : MethodName)) (z := (⟨"java/util/ArrayList", "add", "(Ljava/lang/Object;)Z"⟩ : MethodName)) ho85 (mvT hZ85 (ww hw 129 rfl)) (mvT hZ85 (ww hw 130 rfl)) (notFace_of_selects (args := #[]) (mvT hZ85 (ww hw 132 rfl))) (mvT hZ85 (ww hw 132 rfl)) (mvT hZ85 (ww hw 131 rfl)) (by decide) (backOf (W := 0) (rm16_2 l Z a0 hw [] b10 b75 b66_0 k66_0 b23 T98.heap n0 o115 f105 f106 g16 f107 f108 f110 (Ne.symm n111) f74 f112 g114) hZ85 (ww hw 133 rfl) (ww hw 9 rfl) (by decide) (by decide)) qq117a qq117c (g := (mkF m 88 #[.val (.int x0), .val (.int x1), .val (.int x2), .val (.int (2 : Int32)), .val (.int (0 : Int32)), .val (.ref b8_0), .val (.ref b10), .unset, .unset, .unset] [(.ref b75), (.ref b10)])) rfl (by rw [hml]; rfl) (Steps.refl _) (argsL := [(.ref b75)]) (rest := []) (lenOf pd__Ljava_lang_Object__Z rfl) rfl (by show 2 * 0 + _ ≤ _; exact Nat.le_of_eq rfl) (hb hby at_88) (fun _ _ => ⟨rfl, rfl, (by decide : 19 + 0 ≤ _), (by decide : 118 + 0 ≤ _)⟩)
  dsimp only [Pt.U, Pt.locs, Pt.cells, Pt.slots] at X116 l116 y116 z116 st116 hQ116
  subst l116 y116 z116
  obtain ⟨rfl, N116q, K116, f118, f119, f120, f121⟩ := hQ116
  have N116 := Fr.app N98 N116q
  obtain ⟨T122, h122, X122, e122, E122, A122, D122, -, st122⟩ := newO X116 hx hZ85 ho85 (ww hw 33 rfl) (ww hw 34 rfl) (ww hw 35 rfl) rfl (g := (mkF m 118 #[.val (.int x0), .val (.int x1), .val (.int x2), .val (.int (2 : Int32)), .val (.int (0 : Int32)), .val (.ref b8_0), .val (.ref b10), .unset, .unset, .unset] [])) rfl (hb hby at_118) (by decide) (by decide)
  obtain ⟨b122, g122⟩ : ∃ z, z = T116.heap.size := ⟨_, rfl⟩
  rw [← g122] at A122 D122 st122
  have f123 : Fld Z h122 b122 cs5 "value" "Ljava/lang/Object;" .null := D122 (Or.inr (ww hw 41 rfl)) (ty := (.object "java/lang/Object")) (by decide)
  have f124 : Fld Z h122 b122 cs5 "errors" "Ljava/util/List;" .null := D122 (Or.inr (ww hw 72 rfl)) (ty := (.object "java/util/List")) (by decide)
  have o126 := Old.keep o115 K116 (allS g16 (allS g114 all0))
  have zz125 : n0 ≤ T116.heap.size := by rw [← o126.1]; exact o126.2.1
  have g127 := Nat.le_trans zz125 (Nat.le_of_eq g122.symm)
  have f128 := ((f106.keep K116).ext E122)
  have f129 := (f118.ext E122)
  have zs130 := Nat.le_trans zs103 E75.1
  have zs131 := Nat.le_trans zs130 E80.1
  have zs132 := Nat.le_trans zs131 E84.1
  have zs133 := Nat.le_trans zs132 E85.1
  have zs134 := Nat.le_trans zs133 K98.1
  have zs135 := Nat.le_trans zs134 K116.1
  have n136 := Nat.ne_of_lt (Nat.lt_of_lt_of_le (Nat.lt_of_lt_of_le A10.lt zs135) (Nat.le_of_eq g122.symm))
  have f137 := (f120.ext E122)
  have f138 := (((((((f73.ext E75).ext E80).ext E84).ext E85).keep K98).keep K116).ext E122)
  have f140 := (f121.ext E122)
  have zs141 := E75.1
  have zs142 := Nat.le_trans zs141 E80.1
  have zs143 := Nat.le_trans zs142 E84.1
  have zs144 := Nat.le_trans zs143 E85.1
  have zs145 := Nat.le_trans zs144 K98.1
  have zs146 := Nat.le_trans zs145 K116.1
  have n147 := Nat.ne_of_lt (Nat.lt_of_lt_of_le (Nat.lt_of_lt_of_le f72.lt zs146) (Nat.le_of_eq g122.symm))
  have f148 := ((f112.keep K116).ext E122)
  have f149 := ((((((((f64.keep K66).ext E75).ext E80).ext E84).ext E85).keep K98).keep K116).ext E122)
  have o150 := Old.ext o126 E122
  obtain ⟨_, _, ⟨T151, L151, k151, n151⟩, -, X151, ⟨Lc151, hQ151, l151, y151, z151⟩, st151⟩ := X122.specialBack hx (y := (⟨cs5, "<init>", cs6⟩ : MethodName)) rfl ho85 (mvT hZ85 (ww hw 36 rfl)) (mvT hZ85 (ww hw 37 rfl)) (mvT hZ85 (ww hw 38 rfl)) (by decide) (backOf (W := 1) (rm6_6 l Z a0 hw [] b122 b8_0 b10 b66_0 r7 k66_0 b23 b75 h122 n0 o150 A122 f123 g127 f128 f129 n136 f137 f138 f139 f140 n147 f148 f149 f124 A122.lt) hZ85 (ww hw 38 rfl) (ww hw 35 rfl) (by decide) (by decide)) (g := (mkF m 126 #[.val (.int x0), .val (.int x1), .val (.int x2), .val (.int (2 : Int32)), .val (.int (0 : Int32)), .val (.ref b8_0), .val (.ref b10), .unset, .unset, .unset] [(.ref b10), (.ref b8_0), (.ref b122), (.ref b122)])) rfl (by rw [hml]; rfl) (Steps.refl _) (a := b122) (argsL := [(.ref b8_0), (.ref b10)]) (rest := [(.ref b122)]) (lenOf pd__Ljava_lang_Object_Ljava_util_List__V rfl) rfl (by show 2 * 0 + _ ≤ _; exact Nat.le_of_eq rfl) (hb hby at_126) (fun _ _ => ⟨rfl, e122, (by decide : 20 + 2 ≤ _), (by decide : 120 + 4 ≤ _)⟩)
  dsimp only [Pt.U, Pt.locs, Pt.cells, Pt.slots] at X151 l151 y151 z151 st151 hQ151
  subst l151 y151 z151
  obtain ⟨b151_0, rfl, N151q, K151, f152, f153, f154, f155, f156, f157⟩ := hQ151
  have N151 := Fr.app N116 N151q
  have o158 := Old.keep o150 K151 (allS g127 all0)
  have f160 := (A122.keep K151)
  obtain ⟨cqq161, kqq161, qq161a, qq161b, qq161c⟩ := isOf hZ85 rfl f160
  obtain ⟨_, _, ⟨T159, L159, k159, n159⟩, -, X159, ⟨Lc159, hQ159, l159, y159, z159⟩, st159⟩ := X151.virtualBack hx (y := (⟨cs5, "hasErrors", "()Z"⟩ : MethodName)) (z := (⟨cs5, "hasErrors", "()Z"⟩ : MethodName)) ho85 (mvT hZ85 (ww hw 73 rfl)) (mvT hZ85 (ww hw 74 rfl)) (notFace_of_selects (args := #[]) (mvT hZ85 (ww hw 76 rfl))) (mvT hZ85 (ww hw 76 rfl)) (mvT hZ85 (ww hw 75 rfl)) (by decide) (backOf (W := 0) (rm11_2 l Z a0 hw [] b122 b151_0 T151.heap n0 o158 f153 f155) hZ85 (ww hw 77 rfl) (ww hw 35 rfl) (by decide) (by decide)) qq161a qq161c (g := (mkF m 133 #[.val (.int x0), .val (.int x1), .val (.int x2), .val (.int (2 : Int32)), .val (.int (0 : Int32)), .val (.ref b8_0), .val (.ref b10), .val (.ref b122), .unset, .unset] [(.ref b122)])) rfl (by rw [hml]; rfl) (Steps.refl _) (argsL := []) (rest := []) (lenOf pd___Z rfl) rfl (by show 2 * 0 + _ ≤ _; exact Nat.le_of_eq rfl) (hb hby at_133) (fun _ _ => ⟨rfl, rfl, (by decide : 22 + 0 ≤ _), (by decide : 124 + 0 ≤ _)⟩)
  dsimp only [Pt.U, Pt.locs, Pt.cells, Pt.slots] at X159 l159 y159 z159 st159 hQ159
  subst l159 y159 z159
  obtain ⟨rfl, N159q, E159⟩ := hQ159
  have N159 := Fr.app N151 N159q
  obtain ⟨cqq163, kqq163, qq163a, qq163b, qq163c⟩ := isOf hZ85 E159 f160
  obtain ⟨_, _, ⟨T162, L162, k162, n162⟩, -, X162, ⟨Lc162, hQ162, l162, y162, z162⟩, st162⟩ := X159.virtualBack hx (y := (⟨cs5, "errors", "()Ljava/util/List;"⟩ : MethodName)) (z := (⟨cs5, "errors", "()Ljava/util/List;"⟩ : MethodName)) ho85 (mvT hZ85 (ww hw 90 rfl)) (mvT hZ85 (ww hw 91 rfl)) (notFace_of_selects (args := #[]) (mvT hZ85 (ww hw 93 rfl))) (mvT hZ85 (ww hw 93 rfl)) (mvT hZ85 (ww hw 92 rfl)) (by decide) (backOf (W := 0) (rm13_1 l Z a0 hw [] b122 b151_0 T151.heap n0 o158 f153) hZ85 (ww hw 94 rfl) (ww hw 35 rfl) (by decide) (by decide)) qq163a qq163c (g := (mkF m 140 #[.val (.int x0), .val (.int x1), .val (.int x2), .val (.int (2 : Int32)), .val (.int (0 : Int32)), .val (.ref b8_0), .val (.ref b10), .val (.ref b122), .val (.int (1 : Int32)), .unset] [(.ref b122)])) rfl (by rw [hml]; rfl) (Steps.refl _) (argsL := []) (rest := []) (lenOf pd___Ljava_util_List_ rfl) rfl (by show 2 * 0 + _ ≤ _; exact Nat.le_of_eq rfl) (hb hby at_140) (fun _ _ => ⟨rfl, E159, (by decide : 22 + 0 ≤ _), (by decide : 124 + 0 ≤ _)⟩)
  dsimp only [Pt.U, Pt.locs, Pt.cells, Pt.slots] at X162 l162 y162 z162 st162 hQ162
  subst l162 y162 z162
  obtain ⟨rfl, N162q, E162⟩ := hQ162
  have N162 := Fr.app N159 N162q
  obtain ⟨cqq167, kqq167, qq167a, qq167b, qq167c⟩ := isOf hZ85 E162 f155
  obtain ⟨_, _, ⟨T166, L166, k166, n166⟩, -, X166, ⟨Lc166, hQ166, l166, y166, z166⟩, st166⟩ := X162.interfaceBack hx (xi := (⟨"java/util/List", "size", "()I"⟩ : MethodName)) (y := (⟨cs18, "size", "()I"⟩ : MethodName)) ho85 (mvT hZ85 (ww hw 95 rfl)) (mvT hZ85 (ww hw 96 rfl)) (mvT hZ85 (ww hw 97 rfl)) (mvT hZ85 (ww hw 227 rfl)) (mvT hZ85 (ww hw 228 rfl)) (mvT hZ85 (ww hw 229 rfl)) (mvT hZ85 (ww hw 230 rfl)) (mvT hZ85 (ww hw 225 rfl)) (by decide) (backOf (W := 0) (rm31_2 l Z a0 hw [] b151_0 b75 r8 T151.heap n0 o158 f157 f164 f165 g90) hZ85 (ww hw 231 rfl) (ww hw 193 rfl) (by decide) (by decide)) qq167a qq167b qq167c (g := (mkF m 143 #[.val (.int x0), .val (.int x1), .val (.int x2), .val (.int (2 : Int32)), .val (.int (0 : Int32)), .val (.ref b8_0), .val (.ref b10), .val (.ref b122), .val (.int (1 : Int32)), .unset] [(.ref b151_0)])) rfl (by rw [hml]; rfl) (Steps.refl _) (argsL := []) (rest := []) (lenOf pd___I rfl) rfl (by show 2 * 0 + _ ≤ _; exact Nat.le_of_eq rfl) (hb hby at_143) (fun _ _ => ⟨rfl, E162, (by decide : 22 + 0 ≤ _), (by decide : 124 + 0 ≤ _)⟩)
  dsimp only [Pt.U, Pt.locs, Pt.cells, Pt.slots] at X166 l166 y166 z166 st166 hQ166
  subst l166 y166 z166
  obtain ⟨rfl, N166q, E166⟩ := hQ166
  have N166 := Fr.app N162 N166q
  have zs168 := K98.1
  have zs169 := Nat.le_trans zs168 K116.1
  have zs170 := Nat.le_trans zs169 E122.1
  have zs171 := Nat.le_trans zs170 K151.1
  obtain ⟨fs, hr, hrun, hended, hend⟩ := leaveW (s := s) (vm₁ := T85.vm) X166 hS85 (by rw [E166]; exact (Nat.le_trans hk85 zs171)) (v := some (.int (1 : Int32))) (fun h => by rw [Bd.returns] at h; cases h)
  refine ⟨_, _, pre0 _ ?_, hrun, hended, _, _, rfl, ?_, hend.1, hend.2.1, hend.2.2.1, hend.2.2.2.mono (by decide) (by decide)⟩
  · show Steps p.tables e below (s₁.setTop (mkF m 0 #[.val (.int x0), .val (.int x1), .val (.int x2), .unset, .unset, .unset, .unset, .unset, .unset, .unset] [])) _
    refine XS.iloadN X0.here hx rfl (hb hby at_0) rfl ?_
    refine XS.iconst X0.here hx rfl (hb hby at_1) ?_
    refine XS.iand X0.here hx rfl (hb hby at_2) rfl ?_
    show Steps p.tables e below (s₁.setTop (mkF m 3 #[.val (.int x0), .val (.int x1), .val (.int x2), .unset, .unset, .unset, .unset, .unset, .unset, .unset] [(.int (x0 &&& (3 : Int32)))])) _
    rw [hc1]
    show Steps p.tables e below (s₁.setTop (mkF m 3 #[.val (.int x0), .val (.int x1), .val (.int x2), .unset, .unset, .unset, .unset, .unset, .unset, .unset] [(.int (2 : Int32))])) _
    refine XS.istoreN X0.here hx rfl (hb hby at_3) rfl (l' := #[.val (.int x0), .val (.int x1), .val (.int x2), .val (.int (2 : Int32)), .unset, .unset, .unset, .unset, .unset, .unset]) rfl ?_
    refine XS.iloadN X0.here hx rfl (hb hby at_4) rfl ?_
    refine XS.iconst X0.here hx rfl (hb hby at_5) ?_
    refine XS.iand X0.here hx rfl (hb hby at_6) rfl ?_
    show Steps p.tables e below (s₁.setTop (mkF m 7 #[.val (.int x0), .val (.int x1), .val (.int x2), .val (.int (2 : Int32)), .unset, .unset, .unset, .unset, .unset, .unset] [(.int (x2 &&& (1 : Int32)))])) _
    refine XS.ifYes X0.here hx rfl (pc0 := 7) (pc' := 14) rfl (hb hby at_7) rfl ((if0 _ _).trans (teq hc2).1) (by decide) (by decide) ?_
    show Steps p.tables e below (s₁.setTop (mkF m 14 #[.val (.int x0), .val (.int x1), .val (.int x2), .val (.int (2 : Int32)), .unset, .unset, .unset, .unset, .unset, .unset] [])) _
    refine XS.iconst X0.here hx rfl (hb hby at_14) ?_
    refine XS.istore X0.here hx rfl (hb hby at_15) rfl (l' := #[.val (.int x0), .val (.int x1), .val (.int x2), .val (.int (2 : Int32)), .val (.int (0 : Int32)), .unset, .unset, .unset, .unset, .unset]) rfl ?_
    refine XS.iload X0.here hx rfl (hb hby at_17) rfl ?_
    refine XS.ifYes X0.here hx rfl (pc0 := 19) (pc' := 26) rfl (hb hby at_19) rfl ((if0 _ _).trans (teq (rfl : (0 : Int32) = (0 : Int32))).1) (by decide) (by decide) ?_
    show Steps p.tables e below (s₁.setTop (mkF m 26 #[.val (.int x0), .val (.int x1), .val (.int x2), .val (.int (2 : Int32)), .val (.int (0 : Int32)), .unset, .unset, .unset, .unset, .unset] [])) _
    refine XS.iloadN X0.here hx rfl (hb hby at_26) rfl ?_
    refine st8 _ ?_
    show Steps p.tables e below (T8.setTop (mkF m 30 #[.val (.int x0), .val (.int x1), .val (.int x2), .val (.int (2 : Int32)), .val (.int (0 : Int32)), .unset, .unset, .unset, .unset, .unset] [(.ref b8_0)])) _
    refine XS.astore X8.here hx rfl (hb hby at_30) rfl rfl (l' := #[.val (.int x0), .val (.int x1), .val (.int x2), .val (.int (2 : Int32)), .val (.int (0 : Int32)), .val (.ref b8_0), .unset, .unset, .unset, .unset]) rfl ?_
    refine st10 _ ?_
    show Steps p.tables e below (T10.setTop (mkF m 35 #[.val (.int x0), .val (.int x1), .val (.int x2), .val (.int (2 : Int32)), .val (.int (0 : Int32)), .val (.ref b8_0), .unset, .unset, .unset, .unset] [(.ref b10)])) _
    refine XS.dup X10.here hx rfl (hb hby at_35) rfl rfl ?_
    refine st19.trans ?_
    show Steps p.tables e below (T19.setTop (mkF m 39 #[.val (.int x0), .val (.int x1), .val (.int x2), .val (.int (2 : Int32)), .val (.int (0 : Int32)), .val (.ref b8_0), .unset, .unset, .unset, .unset] [(.ref b10)])) _
    refine XS.astore X19.here hx rfl (hb hby at_39) rfl rfl (l' := #[.val (.int x0), .val (.int x1), .val (.int x2), .val (.int (2 : Int32)), .val (.int (0 : Int32)), .val (.ref b8_0), .val (.ref b10), .unset, .unset, .unset]) rfl ?_
    refine XS.iloadN X19.here hx rfl (hb hby at_41) rfl ?_
    refine XS.iconst X19.here hx rfl (hb hby at_42) ?_
    refine XS.icmpNo X19.here hx rfl (hb hby at_43) rfl (flt (by decide : ¬ ((2 : Int32) < (1 : Int32)))).1 ?_
    show Steps p.tables e below (T19.setTop (mkF m 46 #[.val (.int x0), .val (.int x1), .val (.int x2), .val (.int (2 : Int32)), .val (.int (0 : Int32)), .val (.ref b8_0), .val (.ref b10), .unset, .unset, .unset] [])) _
    refine XS.aload X19.here hx rfl (hb hby at_46) rfl rfl ?_
    refine st23 _ ?_
    show Steps p.tables e below (T23.setTop (mkF m 51 #[.val (.int x0), .val (.int x1), .val (.int x2), .val (.int (2 : Int32)), .val (.int (0 : Int32)), .val (.ref b8_0), .val (.ref b10), .unset, .unset, .unset] [(.ref b23), (.ref b10)])) _
    refine XS.dup X23.here hx rfl (hb hby at_51) rfl rfl ?_
    refine st29 _ ?_
    show Steps p.tables e below (T29.setTop (mkF m 54 #[.val (.int x0), .val (.int x1), .val (.int x2), .val (.int (2 : Int32)), .val (.int (0 : Int32)), .val (.ref b8_0), .val (.ref b10), .unset, .unset, .unset] [(.ref a29), (.ref b23), (.ref b23), (.ref b10)])) _
    refine st30 _ ?_
    show Steps p.tables e below (T30.setTop (mkF m 56 #[.val (.int x0), .val (.int x1), .val (.int x2), .val (.int (2 : Int32)), .val (.int (0 : Int32)), .val (.ref b8_0), .val (.ref b10), .unset, .unset, .unset] [(.ref a30), (.ref a29), (.ref b23), (.ref b23), (.ref b10)])) _
    refine st31 _ ?_
    show Steps p.tables e below (T31.setTop (mkF m 58 #[.val (.int x0), .val (.int x1), .val (.int x2), .val (.int (2 : Int32)), .val (.int (0 : Int32)), .val (.ref b8_0), .val (.ref b10), .unset, .unset, .unset] [(.ref a31), (.ref a30), (.ref a29), (.ref b23), (.ref b23), (.ref b10)])) _
    refine st32 _ ?_
    show Steps p.tables e below (T32.setTop (mkF m 60 #[.val (.int x0), .val (.int x1), .val (.int x2), .val (.int (2 : Int32)), .val (.int (0 : Int32)), .val (.ref b8_0), .val (.ref b10), .unset, .unset, .unset] [(.ref a32), (.ref a31), (.ref a30), (.ref a29), (.ref b23), (.ref b23), (.ref b10)])) _
    refine st46.trans ?_
    show Steps p.tables e below (T46.setTop (mkF m 63 #[.val (.int x0), .val (.int x1), .val (.int x2), .val (.int (2 : Int32)), .val (.int (0 : Int32)), .val (.ref b8_0), .val (.ref b10), .unset, .unset, .unset] [(.ref b23), (.ref b10)])) _
    refine st66.trans ?_
    show Steps p.tables e below (T66.setTop (mkF m 66 #[.val (.int x0), .val (.int x1), .val (.int x2), .val (.int (2 : Int32)), .val (.int (0 : Int32)), .val (.ref b8_0), .val (.ref b10), .unset, .unset, .unset] [(.int (1 : Int32))])) _
    refine XS.pop X66.here hx rfl (hb hby at_66) rfl rfl ?_
    refine XS.iloadN X66.here hx rfl (hb hby at_67) rfl ?_
    refine XS.iconst X66.here hx rfl (hb hby at_68) ?_
    refine XS.icmpNo X66.here hx rfl (hb hby at_69) rfl (flt (by decide : ¬ ((2 : Int32) < (2 : Int32)))).1 ?_
    show Steps p.tables e below (T66.setTop (mkF m 72 #[.val (.int x0), .val (.int x1), .val (.int x2), .val (.int (2 : Int32)), .val (.int (0 : Int32)), .val (.ref b8_0), .val (.ref b10), .unset, .unset, .unset] [])) _
    refine XS.aload X66.here hx rfl (hb hby at_72) rfl rfl ?_
    refine st75 _ ?_
    show Steps p.tables e below (T75.setTop (mkF m 77 #[.val (.int x0), .val (.int x1), .val (.int x2), .val (.int (2 : Int32)), .val (.int (0 : Int32)), .val (.ref b8_0), .val (.ref b10), .unset, .unset, .unset] [(.ref b75), (.ref b10)])) _
    refine XS.dup X75.here hx rfl (hb hby at_77) rfl rfl ?_
    refine st80 _ ?_
    show Steps p.tables e below (T80.setTop (mkF m 80 #[.val (.int x0), .val (.int x1), .val (.int x2), .val (.int (2 : Int32)), .val (.int (0 : Int32)), .val (.ref b8_0), .val (.ref b10), .unset, .unset, .unset] [(.ref a80), (.ref b75), (.ref b75), (.ref b10)])) _
    refine st84 _ ?_
    show Steps p.tables e below (T84.setTop (mkF m 82 #[.val (.int x0), .val (.int x1), .val (.int x2), .val (.int (2 : Int32)), .val (.int (0 : Int32)), .val (.ref b8_0), .val (.ref b10), .unset, .unset, .unset] [(.ref a84), (.ref a80), (.ref b75), (.ref b75), (.ref b10)])) _
    refine XS.aconstNull X84.here hx rfl (hb hby at_82) ?_
    refine st85 _ ?_
    show Steps p.tables e below (T85.setTop (mkF m 85 #[.val (.int x0), .val (.int x1), .val (.int x2), .val (.int (2 : Int32)), .val (.int (0 : Int32)), .val (.ref b8_0), .val (.ref b10), .unset, .unset, .unset] [(.ref a85), .null, (.ref a84), (.ref a80), (.ref b75), (.ref b75), (.ref b10)])) _
    refine st98.trans ?_
    show Steps p.tables e below (T98.setTop (mkF m 88 #[.val (.int x0), .val (.int x1), .val (.int x2), .val (.int (2 : Int32)), .val (.int (0 : Int32)), .val (.ref b8_0), .val (.ref b10), .unset, .unset, .unset] [(.ref b75), (.ref b10)])) _
    refine st116.trans ?_
    show Steps p.tables e below (T116.setTop (mkF m 91 #[.val (.int x0), .val (.int x1), .val (.int x2), .val (.int (2 : Int32)), .val (.int (0 : Int32)), .val (.ref b8_0), .val (.ref b10), .unset, .unset, .unset] [(.int (1 : Int32))])) _
    refine XS.pop X116.here hx rfl (hb hby at_91) rfl rfl ?_
    refine XS.iloadN X116.here hx rfl (hb hby at_92) rfl ?_
    refine XS.iconst X116.here hx rfl (hb hby at_93) ?_
    refine XS.icmpYes X116.here hx rfl (pc0 := 94) (pc' := 118) rfl (hb hby at_94) rfl (tlt (by decide : (2 : Int32) < (3 : Int32))).1 (by decide) (by decide) ?_
    show Steps p.tables e below (T116.setTop (mkF m 118 #[.val (.int x0), .val (.int x1), .val (.int x2), .val (.int (2 : Int32)), .val (.int (0 : Int32)), .val (.ref b8_0), .val (.ref b10), .unset, .unset, .unset] [])) _
    refine st122 _ ?_
    show Steps p.tables e below (T122.setTop (mkF m 121 #[.val (.int x0), .val (.int x1), .val (.int x2), .val (.int (2 : Int32)), .val (.int (0 : Int32)), .val (.ref b8_0), .val (.ref b10), .unset, .unset, .unset] [(.ref b122)])) _
    refine XS.dup X122.here hx rfl (hb hby at_121) rfl rfl ?_
    refine XS.aload X122.here hx rfl (hb hby at_122) rfl rfl ?_
    refine XS.aload X122.here hx rfl (hb hby at_124) rfl rfl ?_
    refine st151.trans ?_
    show Steps p.tables e below (T151.setTop (mkF m 129 #[.val (.int x0), .val (.int x1), .val (.int x2), .val (.int (2 : Int32)), .val (.int (0 : Int32)), .val (.ref b8_0), .val (.ref b10), .unset, .unset, .unset] [(.ref b122)])) _
    refine XS.astore X151.here hx rfl (hb hby at_129) rfl rfl (l' := #[.val (.int x0), .val (.int x1), .val (.int x2), .val (.int (2 : Int32)), .val (.int (0 : Int32)), .val (.ref b8_0), .val (.ref b10), .val (.ref b122), .unset, .unset]) rfl ?_
    refine XS.aload X151.here hx rfl (hb hby at_131) rfl rfl ?_
    refine st159.trans ?_
    show Steps p.tables e below (T159.setTop (mkF m 136 #[.val (.int x0), .val (.int x1), .val (.int x2), .val (.int (2 : Int32)), .val (.int (0 : Int32)), .val (.ref b8_0), .val (.ref b10), .val (.ref b122), .unset, .unset] [(.int (1 : Int32))])) _
    refine XS.istore X159.here hx rfl (hb hby at_136) rfl (l' := #[.val (.int x0), .val (.int x1), .val (.int x2), .val (.int (2 : Int32)), .val (.int (0 : Int32)), .val (.ref b8_0), .val (.ref b10), .val (.ref b122), .val (.int (1 : Int32)), .unset]) rfl ?_
    refine XS.aload X159.here hx rfl (hb hby at_138) rfl rfl ?_
    refine st162.trans ?_
    show Steps p.tables e below (T162.setTop (mkF m 143 #[.val (.int x0), .val (.int x1), .val (.int x2), .val (.int (2 : Int32)), .val (.int (0 : Int32)), .val (.ref b8_0), .val (.ref b10), .val (.ref b122), .val (.int (1 : Int32)), .unset] [(.ref b151_0)])) _
    refine st166.trans ?_
    show Steps p.tables e below (T166.setTop (mkF m 148 #[.val (.int x0), .val (.int x1), .val (.int x2), .val (.int (2 : Int32)), .val (.int (0 : Int32)), .val (.ref b8_0), .val (.ref b10), .val (.ref b122), .val (.int (1 : Int32)), .unset] [(.int (2 : Int32))])) _
    refine XS.istore X166.here hx rfl (hb hby at_148) rfl (l' := #[.val (.int x0), .val (.int x1), .val (.int x2), .val (.int (2 : Int32)), .val (.int (0 : Int32)), .val (.ref b8_0), .val (.ref b10), .val (.ref b122), .val (.int (1 : Int32)), .val (.int (2 : Int32))]) rfl ?_
    refine XS.iload X166.here hx rfl (hb hby at_150) rfl ?_
    refine XS.iloadN X166.here hx rfl (hb hby at_152) rfl ?_
    refine XS.ifNo X166.here hx rfl (hb hby at_153) rfl ((if0 _ _).trans (feq (by decide : ¬ ((2 : Int32) = (0 : Int32)))).1) ?_
    show Steps p.tables e below (T166.setTop (mkF m 156 #[.val (.int x0), .val (.int x1), .val (.int x2), .val (.int (2 : Int32)), .val (.int (0 : Int32)), .val (.ref b8_0), .val (.ref b10), .val (.ref b122), .val (.int (1 : Int32)), .val (.int (2 : Int32))] [(.int (1 : Int32))])) _
    refine XS.iconst X166.here hx rfl (hb hby at_156) ?_
    refine XS.goto X166.here hx rfl (pc0 := 157) (pc' := 161) rfl (hb hby at_157) (by decide) (by decide) ?_
    show Steps p.tables e below (T166.setTop (mkF m 161 #[.val (.int x0), .val (.int x1), .val (.int x2), .val (.int (2 : Int32)), .val (.int (0 : Int32)), .val (.ref b8_0), .val (.ref b10), .val (.ref b122), .val (.int (1 : Int32)), .val (.int (2 : Int32))] [(.int (1 : Int32)), (.int (1 : Int32))])) _
    refine XS.icmpNo X166.here hx rfl (hb hby at_161) rfl (teq (rfl : (1 : Int32) = (1 : Int32))).2 ?_
    refine XS.iload X166.here hx rfl (hb hby at_164) rfl ?_
    refine XS.iloadN X166.here hx rfl (hb hby at_166) rfl ?_
    refine XS.icmpNo X166.here hx rfl (hb hby at_167) rfl (teq (rfl : (2 : Int32) = (2 : Int32))).2 ?_
    show Steps p.tables e below (T166.setTop (mkF m 170 #[.val (.int x0), .val (.int x1), .val (.int x2), .val (.int (2 : Int32)), .val (.int (0 : Int32)), .val (.ref b8_0), .val (.ref b10), .val (.ref b122), .val (.int (1 : Int32)), .val (.int (2 : Int32))] [])) _
    refine XS.iload X166.here hx rfl (hb hby at_170) rfl ?_
    refine XS.iload X166.here hx rfl (hb hby at_172) rfl ?_
    refine XS.ifNo X166.here hx rfl (hb hby at_174) rfl ((if0 _ _).trans (feq (by decide : ¬ ((2 : Int32) = (0 : Int32)))).1) ?_
    refine XS.iconst X166.here hx rfl (hb hby at_177) ?_
    show Steps p.tables e below (T166.setTop (mkF m 178 #[.val (.int x0), .val (.int x1), .val (.int x2), .val (.int (2 : Int32)), .val (.int (0 : Int32)), .val (.ref b8_0), .val (.ref b10), .val (.ref b122), .val (.int (1 : Int32)), .val (.int (2 : Int32))] [(.int (1 : Int32)), (.int (1 : Int32))])) _
    refine XS.goto X166.here hx rfl (pc0 := 178) (pc' := 182) rfl (hb hby at_178) (by decide) (by decide) ?_
    show Steps p.tables e below (T166.setTop (mkF m 182 #[.val (.int x0), .val (.int x1), .val (.int x2), .val (.int (2 : Int32)), .val (.int (0 : Int32)), .val (.ref b8_0), .val (.ref b10), .val (.ref b122), .val (.int (1 : Int32)), .val (.int (2 : Int32))] [(.int (1 : Int32)), (.int (1 : Int32))])) _
    refine XS.icmpNo X166.here hx rfl (hb hby at_182) rfl (teq (rfl : (1 : Int32) = (1 : Int32))).2 ?_
    refine XS.iconst X166.here hx rfl (hb hby at_185) ?_
    refine XS.goto X166.here hx rfl (pc0 := 186) (pc' := 190) rfl (hb hby at_186) (by decide) (by decide) ?_
    show Steps p.tables e below (T166.setTop (mkF m 190 #[.val (.int x0), .val (.int x1), .val (.int x2), .val (.int (2 : Int32)), .val (.int (0 : Int32)), .val (.ref b8_0), .val (.ref b10), .val (.ref b122), .val (.int (1 : Int32)), .val (.int (2 : Int32))] [(.int (1 : Int32))])) _
    exact retN X166 hx (t := .boolean) Bd.returns (by simp) (hb hby at_190) hr
  · show Q0_6 Z x0 x1 x2 r3 d4 r5 c6 r7 r8 h0 n0 _ T166.heap _
    rw [E166]
    exact ⟨rfl, N166⟩
def Q17_3 (Z : State) (r0 : Addr) (r1 : Addr) (r2 : Addr) (c3 : ClassId) (r4 : Addr) (r5 : Addr) (h0 : Heap) (n0 : Nat) (v : Option Value) (h : Heap) (L : List Loc) : Prop := v = none ∧ Fr n0 L ∧ Keep h0 h [r2, r0] ∧ Arv Z h r2 c3 (.object "java/lang/Object") (10 : Int32) [(.ref r4), (.ref r5), (.ref r1), .null, .null, .null, .null, .null, .null, .null] .null ∧ Fld Z h r0 "java/util/ArrayList" "size" "I" (.int (3 : Int32)) ∧ Fld Z h r0 "java/util/AbstractList" "modCount" "I" (.int (3 : Int32)) ∧ Fld Z h r0 "java/util/ArrayList" "elementData" "[Ljava/lang/Object;" (.ref r2)
set_option maxRecDepth 65536 in
set_option maxHeartbeats 40000000 in
theorem rm17_3 (l : Launch) (Z : State) (a0 : Array Value) (hw : ∀ d ∈ tables_1, d.before a0 Z = true) (ws : List Jvm.Cond) (r0 : Addr) (r1 : Addr) (r2 : Addr) (c3 : ClassId) (r4 : Addr) (r5 : Addr) (h0 : Heap) (n0 : Nat) (O0 : Old Z n0 h0) (f1 : Arv Z h0 r2 c3 (.object "java/lang/Object") (10 : Int32) [(.ref r4), (.ref r5), .null, .null, .null, .null, .null, .null, .null, .null] .null) (f4 : Ovr Z c3 "java/lang/Object") (f5 : Exa Z h0 r1 cs10) (g6 : n0 ≤ r2) (f8 : Exa Z h0 r0 "java/util/ArrayList") (f10 : Fld Z h0 r0 "java/util/ArrayList" "size" "I" (.int (2 : Int32))) (n11 : r0 ≠ r2) (g13 : n0 ≤ r0) (f15 : Fld Z h0 r0 "java/util/AbstractList" "modCount" "I" (.int (3 : Int32))) (f17 : Fld Z h0 r0 "java/util/ArrayList" "elementData" "[Ljava/lang/Object;" (.ref r2)) :
    MetFree l (⟨"java/util/ArrayList", "add", cs12⟩ : MethodName) (head1 (Jvm.Cond.code (⟨"java/util/ArrayList", "add", cs12⟩ : MethodName) jdk_38_method_24_code 4 none :: ws) ({ frames := 0, cells := 0, slots := 0, locals := 0 } : Room)) (fun a U => a = #[(.ref r0), (.ref r1), (.ref r2), (.int (2 : Int32))] ∧ Z.Warmed39 U.vm ∧ U.heap = h0) (fun _ _ _ _ _ => True) (fun _ U o U' => ∃ v L, o = .returned v ∧ Q17_3 Z r0 r1 r2 c3 r4 r5 h0 n0 v U'.heap L ∧ FrameEnd U o U' L ({ frames := 0, cells := 0, slots := 0, locals := 0 } : Room).cells ({ frames := 0, cells := 0, slots := 0, locals := 0 } : Room).slots) := by
  refine MetFree.of_bodySF (plainFor_of_name pn_java_util_ArrayList) hisR ?_
  intro p e s m args below meth c s₁ Bd hml0 hP hK
  obtain ⟨rfl, hZ, hh⟩ := hP
  have hx := Bd.exec
  have hby := Bd.bytes
  have hml : c.maxLocals = 4 := hml0
  have hown : s.vm.findClass "java/util/ArrayList" = some m.cls := findClass_of_methodNamed Bd.named
  have hnm := (name_of_methodNamed Bd.named Bd.method).1
  have X0 : Stand p l e ({ frames := 0, cells := 0, slots := 0, locals := 0 } : Room) s m #[(.ref r0), (.ref r1), (.ref r2), (.int (2 : Int32))] below meth c s₁ [] 0 0 := Stand.of_body Bd
  have e0 : s₁.heap = h0 := by rw [← hh, Bd.state]; rfl
  have N0 := Fr.nil n0
  have pre0 : ∀ t, Steps p.tables e below (s₁.setTop (mkF m 0 #[.val (.ref r0), .val (.ref r1), .val (.ref r2), .val (.int (2 : Int32))] [])) t → Steps p.tables e below (s₁.setTop (entryFrame m #[(.ref r0), (.ref r1), (.ref r2), (.int (2 : Int32))] 4)) t := fun t k => castTop (by first | (simp [entryFrame, mkF, argsToLocals, Value.category]; done) | rfl) k
  obtain ⟨clq2, Arq2, qq2, Sq2, Nq2, Hq2, Gq2⟩ := id f1
  obtain ⟨clq3, Arq3, qq3, Sq3, Nq3, Hq3, Gq3⟩ := id f1
  obtain ⟨T7, h7, X7, e7, W7, st7⟩ := stR X0 hx hZ e0 Arq3 (j := (2 : Int32)) (inb_of Sq3 ⟨(by decide : ¬ ((2 : Int32) < (0 : Int32))), (by decide : (2 : Int32) < (10 : Int32))⟩) rfl (Sto.ofV Arq3 qq3 f4 (Ins.of_exa f5 (ww hw 157 rfl))) (g := (mkF m 14 #[.val (.ref r0), .val (.ref r1), .val (.ref r2), .val (.int (2 : Int32))] [(.ref r1), (.int (2 : Int32)), (.ref r2)])) rfl rfl (hb hby d17_14)
  have V7 : Arv Z h7 r2 c3 (.object "java/lang/Object") (10 : Int32) [(.ref r4), (.ref r5), (.ref r1), .null, .null, .null, .null, .null, .null, .null] .null := Arv.set Arq3 qq3 Sq3 Nq3 Hq3 Gq3 rfl W7 2 rfl (Nat.le_of_ble_eq_true rfl)
  have N7 := Fr.snoc X7 N0 g6
  have f9 := (f8.wr W7)
  have f12 := (f10.other W7 (Or.inl n11))
  obtain ⟨T14, h14, X14, e14, W14, st14⟩ := putF X7 hx hZ hown (host := "") (Or.inl (ww hw 65 rfl)) Via.refl e7 f12 f9 (Or.inl (ww hw 66 rfl)) (ww hw 8 rfl) (ty := .int) (by decide) rfl rfl (g := (mkF m 19 #[.val (.ref r0), .val (.ref r1), .val (.ref r2), .val (.int (2 : Int32))] [(.int (3 : Int32)), (.ref r0)])) rfl rfl (hb hby d17_19)
  have Fw14 := f12.same W14
  have N14 := Fr.snoc X14 N7 g13
  have f16 := ((f15.other W7 (Or.inl n11)).other W14 (Or.inr (slot_ne (Or.inl (ww hw 29 rfl)) (Or.inl (ww hw 66 rfl)) (by decide) (t := .int) (t' := .int) (by decide) (by decide))))
  have f18 := ((f17.other W7 (Or.inl n11)).other W14 (Or.inr (slot_ne (Or.inl (ww hw 32 rfl)) (Or.inl (ww hw 66 rfl)) (by decide) (t := (.array (.object "java/lang/Object"))) (t' := .int) (by decide) (by decide))))
  have f19 := (V7.other W14 (Ne.symm n11))
  have kp20 : Keep h0 h7 [r2, r0] := (Keep.refl h0 [r2, r0]).wr W7 (Or.inl (List.mem_of_getElem? (i := 0) rfl))
  have kp21 : Keep h0 h14 [r2, r0] := kp20.wr W14 (Or.inl (List.mem_of_getElem? (i := 1) rfl))
  obtain ⟨fs, hr, hrun, hended, hW, hsame⟩ := X14.leave (v := none) (fun _ => rfl)
  refine ⟨_, _, pre0 _ ?_, hrun, hended, _, _, rfl, ?_, ⟨_, rfl⟩, hW, hsame.mono (by decide) (by decide)⟩
  · show Steps p.tables e below (s₁.setTop (mkF m 0 #[.val (.ref r0), .val (.ref r1), .val (.ref r2), .val (.int (2 : Int32))] [])) _
    refine XS.iloadN X0.here hx rfl (hb hby d17_0) rfl ?_
    refine XS.aloadN X0.here hx rfl (hb hby d17_1) rfl rfl ?_
    refine X0.arraylength hx (by rw [e0]; exact Arq2.1) (State.isArrayOf_alike hZ.alike Arq2.2.1) (g := (mkF m 2 #[.val (.ref r0), .val (.ref r1), .val (.ref r2), .val (.int (2 : Int32))] [(.ref r2), (.int (2 : Int32))])) rfl rfl (hb hby d17_2) _ ?_
    rw [len_of Sq2 Nq2]
    show Steps p.tables e below (s₁.setTop (mkF m 3 #[.val (.ref r0), .val (.ref r1), .val (.ref r2), .val (.int (2 : Int32))] [(.int (10 : Int32)), (.int (2 : Int32))])) _
    refine XS.icmpYes X0.here hx rfl (pc0 := 3) (pc' := 11) rfl (hb hby d17_3) rfl (feq (by decide : ¬ ((2 : Int32) = (10 : Int32)))).2 (by decide) (by decide) ?_
    show Steps p.tables e below (s₁.setTop (mkF m 11 #[.val (.ref r0), .val (.ref r1), .val (.ref r2), .val (.int (2 : Int32))] [])) _
    refine XS.aloadN X0.here hx rfl (hb hby d17_11) rfl rfl ?_
    refine XS.iloadN X0.here hx rfl (hb hby d17_12) rfl ?_
    refine XS.aloadN X0.here hx rfl (hb hby d17_13) rfl rfl ?_
    refine st7 _ ?_
    show Steps p.tables e below (T7.setTop (mkF m 15 #[.val (.ref r0), .val (.ref r1), .val (.ref r2), .val (.int (2 : Int32))] [])) _
    refine XS.aloadN X7.here hx rfl (hb hby d17_15) rfl rfl ?_
    refine XS.iloadN X7.here hx rfl (hb hby d17_16) rfl ?_
    refine XS.iconst X7.here hx rfl (hb hby d17_17) ?_
    refine XS.iadd X7.here hx rfl (hb hby d17_18) rfl ?_
    show Steps p.tables e below (T7.setTop (mkF m 19 #[.val (.ref r0), .val (.ref r1), .val (.ref r2), .val (.int (2 : Int32))] [(.int (3 : Int32)), (.ref r0)])) _
    refine st14 _ ?_
    show Steps p.tables e below (T14.setTop (mkF m 22 #[.val (.ref r0), .val (.ref r1), .val (.ref r2), .val (.int (2 : Int32))] [])) _
    exact X14.returnOut hx Bd.returns (hb hby d17_22) hr
  · show Q17_3 Z r0 r1 r2 c3 r4 r5 h0 n0 _ T14.heap _
    rw [e14]
    exact ⟨rfl, N14, kp21, f19, Fw14, f16, f18⟩
def Q16_3 (Z : State) (r0 : Addr) (r1 : Addr) (r2 : Addr) (c3 : ClassId) (r4 : Addr) (r5 : Addr) (h0 : Heap) (n0 : Nat) (v : Option Value) (h : Heap) (L : List Loc) : Prop := v = some (.int (1 : Int32)) ∧ Fr n0 L ∧ Keep h0 h [r0, r2] ∧ Fld Z h r0 "java/util/ArrayList" "size" "I" (.int (3 : Int32)) ∧ Fld Z h r0 "java/util/AbstractList" "modCount" "I" (.int (3 : Int32)) ∧ Fld Z h r0 "java/util/ArrayList" "elementData" "[Ljava/lang/Object;" (.ref r2) ∧ Arv Z h r2 c3 (.object "java/lang/Object") (10 : Int32) [(.ref r4), (.ref r5), (.ref r1), .null, .null, .null, .null, .null, .null, .null] .null
set_option maxRecDepth 65536 in
set_option maxHeartbeats 40000000 in
theorem rm16_3 (l : Launch) (Z : State) (a0 : Array Value) (hw : ∀ d ∈ tables_1, d.before a0 Z = true) (ws : List Jvm.Cond) (r0 : Addr) (r1 : Addr) (r2 : Addr) (c3 : ClassId) (r4 : Addr) (r5 : Addr) (h0 : Heap) (n0 : Nat) (O0 : Old Z n0 h0) (f1 : Fld Z h0 r0 "java/util/AbstractList" "modCount" "I" (.int (2 : Int32))) (f3 : Exa Z h0 r0 "java/util/ArrayList") (g4 : n0 ≤ r0) (f6 : Fld Z h0 r0 "java/util/ArrayList" "elementData" "[Ljava/lang/Object;" (.ref r2)) (f9 : Fld Z h0 r0 "java/util/ArrayList" "size" "I" (.int (2 : Int32))) (f12 : Arv Z h0 r2 c3 (.object "java/lang/Object") (10 : Int32) [(.ref r4), (.ref r5), .null, .null, .null, .null, .null, .null, .null, .null] .null) (n13 : r2 ≠ r0) (f15 : Ovr Z c3 "java/lang/Object") (f16 : Exa Z h0 r1 cs10) (g18 : n0 ≤ r2) :
    MetFree l (⟨"java/util/ArrayList", "add", "(Ljava/lang/Object;)Z"⟩ : MethodName) (head1 (Jvm.Cond.code (⟨"java/util/ArrayList", "add", "(Ljava/lang/Object;)Z"⟩ : MethodName) jdk_38_method_25_code 2 (some .boolean) :: ws) ({ frames := 1, cells := 0, slots := 0, locals := 15 } : Room)) (fun a U => a = #[(.ref r0), (.ref r1)] ∧ Z.Warmed39 U.vm ∧ U.heap = h0) (fun _ _ _ _ _ => True) (fun _ U o U' => ∃ v L, o = .returned v ∧ Q16_3 Z r0 r1 r2 c3 r4 r5 h0 n0 v U'.heap L ∧ FrameEnd U o U' L ({ frames := 1, cells := 0, slots := 0, locals := 15 } : Room).cells ({ frames := 1, cells := 0, slots := 0, locals := 15 } : Room).slots) := by
  refine MetFree.of_bodySF (plainFor_of_name pn_java_util_ArrayList) hisR ?_
  intro p e s m args below meth c s₁ Bd hml0 hP hK
  obtain ⟨rfl, hZ, hh⟩ := hP
  have hx := Bd.exec
  have hby := Bd.bytes
  have hml : c.maxLocals = 2 := hml0
  have hown : s.vm.findClass "java/util/ArrayList" = some m.cls := findClass_of_methodNamed Bd.named
  have hnm := (name_of_methodNamed Bd.named Bd.method).1
  have X0 : Stand p l e ({ frames := 1, cells := 0, slots := 0, locals := 15 } : Room) s m #[(.ref r0), (.ref r1)] below meth c s₁ [] 0 0 := Stand.of_body Bd
  have e0 : s₁.heap = h0 := by rw [← hh, Bd.state]; rfl
  have N0 := Fr.nil n0
  have pre0 : ∀ t, Steps p.tables e below (s₁.setTop (mkF m 0 #[.val (.ref r0), .val (.ref r1)] [])) t → Steps p.tables e below (s₁.setTop (entryFrame m #[(.ref r0), (.ref r1)] 2)) t := fun t k => castTop (by first | (simp [entryFrame, mkF, argsToLocals, Value.category]; done) | rfl) k
  obtain ⟨T2, X2, e2, st2⟩ := getF X0 hx hZ hown (host := "") (Or.inl (ww hw 134 rfl)) (Via.of (ww hw 135 rfl)) e0 f1 (g := (mkF m 2 #[.val (.ref r0), .val (.ref r1)] [(.ref r0), (.ref r0)])) rfl rfl (hb hby d16_2)
  obtain ⟨T5, h5, X5, e5, W5, st5⟩ := putF X2 hx hZ hown (host := "") (Or.inl (ww hw 134 rfl)) (Via.of (ww hw 135 rfl)) e2 f1 f3 (Or.inl (ww hw 29 rfl)) (ww hw 8 rfl) (ty := .int) (by decide) rfl rfl (g := (mkF m 7 #[.val (.ref r0), .val (.ref r1)] [(.int (3 : Int32)), (.ref r0)])) rfl rfl (hb hby d16_7)
  have Fw5 := f1.same W5
  have N5 := Fr.snoc X5 N0 g4
  have f7 := (f6.other W5 (Or.inr (slot_ne (Or.inl (ww hw 32 rfl)) (Or.inl (ww hw 29 rfl)) (by decide) (t := (.array (.object "java/lang/Object"))) (t' := .int) (by decide) (by decide))))
  obtain ⟨T8, X8, e8, st8⟩ := getF X5 hx hZ hown (host := "") (Or.inl (ww hw 31 rfl)) Via.refl e5 f7 (g := (mkF m 13 #[.val (.ref r0), .val (.ref r1)] [(.ref r0), (.ref r1), (.ref r0)])) rfl rfl (hb hby d16_13)
  have f10 := (f9.other W5 (Or.inr (slot_ne (Or.inl (ww hw 66 rfl)) (Or.inl (ww hw 29 rfl)) (by decide) (t := .int) (t' := .int) (by decide) (by decide))))
  obtain ⟨T11, X11, e11, st11⟩ := getF X8 hx hZ hown (host := "") (Or.inl (ww hw 65 rfl)) Via.refl e8 f10 (g := (mkF m 17 #[.val (.ref r0), .val (.ref r1)] [(.ref r0), (.ref r2), (.ref r1), (.ref r0)])) rfl rfl (hb hby d16_17)
  have f14 := (f12.other W5 n13)
  have f17 := (f16.wr W5)
  have f19 := (f3.wr W5)
  have o20 := Old.wr O0 W5 g4
  obtain ⟨cqq22, qq22, qq22'⟩ := f19.cell
  obtain ⟨_, _, ⟨T21, L21, k21, n21⟩, -, X21, ⟨Lc21, hQ21, l21, y21, z21⟩, st21⟩ := X11.privateBack hx (y := (⟨"java/util/ArrayList", "add", cs12⟩ : MethodName)) hown (mvT hZ (ww hw 136 rfl)) (mvT hZ (ww hw 137 rfl)) (mvT hZ (ww hw 139 rfl)) (Cond.privateMethod_at (mvP hZ (ww hw 138 rfl) (args := #[]))) (mvT hZ (ww hw 140 rfl)) (by decide) (backOf (W := 0) (rm17_3 l Z a0 hw [] r0 r1 r2 c3 r4 r5 h5 n0 o20 f14 f15 f17 g18 f19 f10 (Ne.symm n13) g4 Fw5 f7) hZ (ww hw 140 rfl) (ww hw 9 rfl) (by decide) (by decide)) (g := (mkF m 20 #[.val (.ref r0), .val (.ref r1)] [(.int (2 : Int32)), (.ref r2), (.ref r1), (.ref r0)])) rfl (by rw [hml]; rfl) (Steps.refl _) (a := r0) (by rw [e11]; exact qq22) qq22' (argsL := [(.ref r1), (.ref r2), (.int (2 : Int32))]) (rest := []) (lenOf pd__Ljava_lang_Object__Ljava_lang_Object_I_V rfl) rfl (by show 2 * 0 + _ ≤ _; exact Nat.le_of_eq rfl) (hb hby d16_20) (fun _ _ => ⟨rfl, e11, (by decide : 0 + 0 ≤ _), (by decide : 0 + 0 ≤ _)⟩)
  dsimp only [Pt.U, Pt.locs, Pt.cells, Pt.slots] at X21 l21 y21 z21 st21 hQ21
  subst l21 y21 z21
  obtain ⟨rfl, N21q, K21, f23, f24, f25, f26⟩ := hQ21
  have N21 := Fr.app N5 N21q
  have kp27 : Keep h0 h5 [r0, r2] := (Keep.refl h0 [r0, r2]).wr W5 (Or.inl (List.mem_of_getElem? (i := 0) rfl))
  have kp28 : Keep h0 T21.heap [r0, r2] := kp27.trans K21 (allS (Or.inl (List.mem_of_getElem? (i := 1) rfl)) (allS (Or.inl (List.mem_of_getElem? (i := 0) rfl)) all0))
  obtain ⟨fs, hr, hrun, hended, hW, hsame⟩ := X21.leave (v := some (.int (1 : Int32))) (fun h => by rw [Bd.returns] at h; cases h)
  refine ⟨_, _, pre0 _ ?_, hrun, hended, _, _, rfl, ?_, ⟨_, rfl⟩, hW, hsame.mono (by decide) (by decide)⟩
  · show Steps p.tables e below (s₁.setTop (mkF m 0 #[.val (.ref r0), .val (.ref r1)] [])) _
    refine XS.aloadN X0.here hx rfl (hb hby d16_0) rfl rfl ?_
    refine XS.dup X0.here hx rfl (hb hby d16_1) rfl rfl ?_
    refine st2 _ ?_
    show Steps p.tables e below (T2.setTop (mkF m 5 #[.val (.ref r0), .val (.ref r1)] [(.int (2 : Int32)), (.ref r0)])) _
    refine XS.iconst X2.here hx rfl (hb hby d16_5) ?_
    refine XS.iadd X2.here hx rfl (hb hby d16_6) rfl ?_
    refine st5 _ ?_
    show Steps p.tables e below (T5.setTop (mkF m 10 #[.val (.ref r0), .val (.ref r1)] [])) _
    refine XS.aloadN X5.here hx rfl (hb hby d16_10) rfl rfl ?_
    refine XS.aloadN X5.here hx rfl (hb hby d16_11) rfl rfl ?_
    refine XS.aloadN X5.here hx rfl (hb hby d16_12) rfl rfl ?_
    refine st8 _ ?_
    show Steps p.tables e below (T8.setTop (mkF m 16 #[.val (.ref r0), .val (.ref r1)] [(.ref r2), (.ref r1), (.ref r0)])) _
    refine XS.aloadN X8.here hx rfl (hb hby d16_16) rfl rfl ?_
    refine st11 _ ?_
    show Steps p.tables e below (T11.setTop (mkF m 20 #[.val (.ref r0), .val (.ref r1)] [(.int (2 : Int32)), (.ref r2), (.ref r1), (.ref r0)])) _
    refine st21.trans ?_
    show Steps p.tables e below (T21.setTop (mkF m 23 #[.val (.ref r0), .val (.ref r1)] [])) _
    refine XS.iconst X21.here hx rfl (hb hby d16_23) ?_
    exact retN X21 hx (t := .boolean) Bd.returns (by simp) (hb hby d16_24) hr
  · show Q16_3 Z r0 r1 r2 c3 r4 r5 h0 n0 _ T21.heap _
    exact ⟨rfl, N21, kp28, f24, f25, f26, f23⟩
def Q9_4 (Z : State) (r0 : Addr) (h0 : Heap) (n0 : Nat) (v : Option Value) (h : Heap) (L : List Loc) : Prop := v = some (.int (0 : Int32)) ∧ Fr n0 L ∧ h = h0
set_option maxRecDepth 65536 in
set_option maxHeartbeats 40000000 in
theorem rm9_4 (l : Launch) (Z : State) (a0 : Array Value) (hw : ∀ d ∈ tables_1, d.before a0 Z = true) (ws : List Jvm.Cond) (r0 : Addr) (h0 : Heap) (n0 : Nat) (O0 : Old Z n0 h0) (f1 : Fld Z h0 r0 "java/util/ArrayList" "size" "I" (.int (3 : Int32))) :
    MetFree l (⟨"java/util/ArrayList", "isEmpty", "()Z"⟩ : MethodName) (head1 (Jvm.Cond.code (⟨"java/util/ArrayList", "isEmpty", "()Z"⟩ : MethodName) jdk_38_method_9_code 1 (some .boolean) :: ws) ({ frames := 0, cells := 0, slots := 0, locals := 0 } : Room)) (fun a U => a = #[(.ref r0)] ∧ Z.Warmed39 U.vm ∧ U.heap = h0) (fun _ _ _ _ _ => True) (fun _ U o U' => ∃ v L, o = .returned v ∧ Q9_4 Z r0 h0 n0 v U'.heap L ∧ FrameEnd U o U' L ({ frames := 0, cells := 0, slots := 0, locals := 0 } : Room).cells ({ frames := 0, cells := 0, slots := 0, locals := 0 } : Room).slots) := by
  refine MetFree.of_bodySF (plainFor_of_name pn_java_util_ArrayList) hisR ?_
  intro p e s m args below meth c s₁ Bd hml0 hP hK
  obtain ⟨rfl, hZ, hh⟩ := hP
  have hx := Bd.exec
  have hby := Bd.bytes
  have hml : c.maxLocals = 1 := hml0
  have hown : s.vm.findClass "java/util/ArrayList" = some m.cls := findClass_of_methodNamed Bd.named
  have hnm := (name_of_methodNamed Bd.named Bd.method).1
  have X0 : Stand p l e ({ frames := 0, cells := 0, slots := 0, locals := 0 } : Room) s m #[(.ref r0)] below meth c s₁ [] 0 0 := Stand.of_body Bd
  have e0 : s₁.heap = h0 := by rw [← hh, Bd.state]; rfl
  have N0 := Fr.nil n0
  have pre0 : ∀ t, Steps p.tables e below (s₁.setTop (mkF m 0 #[.val (.ref r0)] [])) t → Steps p.tables e below (s₁.setTop (entryFrame m #[(.ref r0)] 1)) t := fun t k => castTop (by first | (simp [entryFrame, mkF, argsToLocals, Value.category]; done) | rfl) k
  obtain ⟨T2, X2, e2, st2⟩ := getF X0 hx hZ hown (host := "") (Or.inl (ww hw 65 rfl)) Via.refl e0 f1 (g := (mkF m 1 #[.val (.ref r0)] [(.ref r0)])) rfl rfl (hb hby d9_1)
  obtain ⟨fs, hr, hrun, hended, hW, hsame⟩ := X2.leave (v := some (.int (0 : Int32))) (fun h => by rw [Bd.returns] at h; cases h)
  refine ⟨_, _, pre0 _ ?_, hrun, hended, _, _, rfl, ?_, ⟨_, rfl⟩, hW, hsame.mono (by decide) (by decide)⟩
  · show Steps p.tables e below (s₁.setTop (mkF m 0 #[.val (.ref r0)] [])) _
    refine XS.aloadN X0.here hx rfl (hb hby d9_0) rfl rfl ?_
    refine st2 _ ?_
    show Steps p.tables e below (T2.setTop (mkF m 4 #[.val (.ref r0)] [(.int (3 : Int32))])) _
    refine XS.ifYes X2.here hx rfl (pc0 := 4) (pc' := 11) rfl (hb hby d9_4) rfl ((if0 _ _).trans (feq (by decide : ¬ ((3 : Int32) = (0 : Int32)))).2) (by decide) (by decide) ?_
    show Steps p.tables e below (T2.setTop (mkF m 11 #[.val (.ref r0)] [])) _
    refine XS.iconst X2.here hx rfl (hb hby d9_11) ?_
    exact retN X2 hx (t := .boolean) Bd.returns (by simp) (hb hby d9_12) hr
  · show Q9_4 Z r0 h0 n0 _ T2.heap _
    rw [e2]
    exact ⟨rfl, N0, rfl⟩
def Q24_3 (Z : State)  (h0 : Heap) (n0 : Nat) (v : Option Value) (h : Heap) (L : List Loc) : Prop := v = some (.int (3 : Int32)) ∧ Fr n0 L ∧ h = h0
set_option maxRecDepth 65536 in
set_option maxHeartbeats 40000000 in
theorem rm24_3 (l : Launch) (Z : State) (a0 : Array Value) (hw : ∀ d ∈ tables_1, d.before a0 Z = true) (ws : List Jvm.Cond)  (h0 : Heap) (n0 : Nat) (O0 : Old Z n0 h0) :
    MetFree l (⟨"java/lang/Math", "min", "(II)I"⟩ : MethodName) (head1 (Jvm.Cond.code (⟨"java/lang/Math", "min", "(II)I"⟩ : MethodName) jdk_29_method_69_code 2 (some .int) :: ws) ({ frames := 0, cells := 0, slots := 0, locals := 0 } : Room)) (fun a U => a = #[(.int (10 : Int32)), (.int (3 : Int32))] ∧ Z.Warmed39 U.vm ∧ U.heap = h0) (fun _ _ _ _ _ => True) (fun _ U o U' => ∃ v L, o = .returned v ∧ Q24_3 Z  h0 n0 v U'.heap L ∧ FrameEnd U o U' L ({ frames := 0, cells := 0, slots := 0, locals := 0 } : Room).cells ({ frames := 0, cells := 0, slots := 0, locals := 0 } : Room).slots) := by
  refine MetFree.of_bodySF (Jvm.Free.JP.mathPlain rfl (by decide +kernel)) hisR ?_
  intro p e s m args below meth c s₁ Bd hml0 hP hK
  obtain ⟨rfl, hZ, hh⟩ := hP
  have hx := Bd.exec
  have hby := Bd.bytes
  have hml : c.maxLocals = 2 := hml0
  have hown : s.vm.findClass "java/lang/Math" = some m.cls := findClass_of_methodNamed Bd.named
  have hnm := (name_of_methodNamed Bd.named Bd.method).1
  have X0 : Stand p l e ({ frames := 0, cells := 0, slots := 0, locals := 0 } : Room) s m #[(.int (10 : Int32)), (.int (3 : Int32))] below meth c s₁ [] 0 0 := Stand.of_body Bd
  have e0 : s₁.heap = h0 := by rw [← hh, Bd.state]; rfl
  have N0 := Fr.nil n0
  have pre0 : ∀ t, Steps p.tables e below (s₁.setTop (mkF m 0 #[.val (.int (10 : Int32)), .val (.int (3 : Int32))] [])) t → Steps p.tables e below (s₁.setTop (entryFrame m #[(.int (10 : Int32)), (.int (3 : Int32))] 2)) t := fun t k => castTop (by first | (simp [entryFrame, mkF, argsToLocals, Value.category]; done) | rfl) k
  obtain ⟨fs, hr, hrun, hended, hW, hsame⟩ := X0.leave (v := some (.int (3 : Int32))) (fun h => by rw [Bd.returns] at h; cases h)
  refine ⟨_, _, pre0 _ ?_, hrun, hended, _, _, rfl, ?_, ⟨_, rfl⟩, hW, hsame.mono (by decide) (by decide)⟩
  · show Steps p.tables e below (s₁.setTop (mkF m 0 #[.val (.int (10 : Int32)), .val (.int (3 : Int32))] [])) _
    refine XS.iloadN X0.here hx rfl (hb hby d24_0) rfl ?_
    refine XS.iloadN X0.here hx rfl (hb hby d24_1) rfl ?_
    refine XS.icmpYes X0.here hx rfl (pc0 := 2) (pc' := 9) rfl (hb hby d24_2) rfl (tlt (by decide : (3 : Int32) < (10 : Int32))).2.2.1 (by decide) (by decide) ?_
    show Steps p.tables e below (s₁.setTop (mkF m 9 #[.val (.int (10 : Int32)), .val (.int (3 : Int32))] [])) _
    refine XS.iloadN X0.here hx rfl (hb hby d24_9) rfl ?_
    exact retOut X0 hx (i := .ireturn) Bd.returns rfl (Or.inl ⟨rfl, Or.inl rfl, _, rfl⟩) (hb hby d24_10) hr
  · show Q24_3 Z  h0 n0 _ s₁.heap _
    rw [e0]
    exact ⟨rfl, N0, rfl⟩
def Q23_3 (Z : State) (r0 : Addr) (r1 : Addr) (c2 : ClassId) (r3 : Addr) (r4 : Addr) (r5 : Addr) (h0 : Heap) (n0 : Nat) (v : Option Value) (h : Heap) (L : List Loc) : Prop := ∃ (b3 : Addr) (k3 : ClassId), v = some (.ref b3) ∧ Fr n0 L ∧ Keep h0 h [] ∧ h0.size ≤ b3 ∧ Arv Z h b3 k3 (.object "java/lang/Object") (3 : Int32) [(.ref r3), (.ref r4), (.ref r5)] .null ∧ Exa Z h b3 "[Ljava/lang/Object;" ∧ Ovr Z k3 "java/lang/Object"
set_option maxRecDepth 65536 in
set_option maxHeartbeats 40000000 in
theorem rm23_3 (l : Launch) (Z : State) (a0 : Array Value) (hw : ∀ d ∈ tables_1, d.before a0 Z = true) (ws : List Jvm.Cond) (r0 : Addr) (r1 : Addr) (c2 : ClassId) (r3 : Addr) (r4 : Addr) (r5 : Addr) (h0 : Heap) (n0 : Nat) (O0 : Old Z n0 h0) (f1 : own_Mir Z "[Ljava/lang/Object;" r1) (f4 : Arv Z h0 r0 c2 (.object "java/lang/Object") (10 : Int32) [(.ref r3), (.ref r4), (.ref r5), .null, .null, .null, .null, .null, .null, .null] .null) (f10 : Exa Z h0 r5 cs10) (f12 : Exa Z h0 r4 cs10) (f14 : Exa Z h0 r3 cs10) :
    MetFree l (⟨"java/util/Arrays", "copyOf", cs13⟩ : MethodName) (head1 (Jvm.Cond.code (⟨"java/util/Arrays", "copyOf", cs13⟩ : MethodName) jdk_65_method_120_code 4 (some (.array (.object "java/lang/Object"))) :: ws) ({ frames := 1, cells := 1, slots := 3, locals := 24 } : Room)) (fun a U => a = #[(.ref r0), (.int (3 : Int32)), (.ref r1)] ∧ Z.Warmed39 U.vm ∧ U.heap = h0) (fun _ _ _ _ _ => True) (fun _ U o U' => ∃ v L, o = .returned v ∧ Q23_3 Z r0 r1 c2 r3 r4 r5 h0 n0 v U'.heap L ∧ FrameEnd U o U' L ({ frames := 1, cells := 1, slots := 3, locals := 24 } : Room).cells ({ frames := 1, cells := 1, slots := 3, locals := 24 } : Room).slots) := by
  refine MetFree.of_bodySF (plainFor_of_name pn_java_util_Arrays) hisR ?_
  intro p e s m args below meth c s₁ Bd hml0 hP hK
  obtain ⟨rfl, hZ, hh⟩ := hP
  have hx := Bd.exec
  have hby := Bd.bytes
  have hml : c.maxLocals = 4 := hml0
  have hown : s.vm.findClass "java/util/Arrays" = some m.cls := findClass_of_methodNamed Bd.named
  have hnm := (name_of_methodNamed Bd.named Bd.method).1
  have X0 : Stand p l e ({ frames := 1, cells := 1, slots := 3, locals := 24 } : Room) s m #[(.ref r0), (.int (3 : Int32)), (.ref r1)] below meth c s₁ [] 0 0 := Stand.of_body Bd
  have e0 : s₁.heap = h0 := by rw [← hh, Bd.state]; rfl
  have N0 := Fr.nil n0
  have pre0 : ∀ t, Steps p.tables e below (s₁.setTop (mkF m 0 #[.val (.ref r0), .val (.int (3 : Int32)), .val (.ref r1), .unset] [])) t → Steps p.tables e below (s₁.setTop (entryFrame m #[(.ref r0), (.int (3 : Int32)), (.ref r1)] 4)) t := fun t k => castTop (by first | (simp [entryFrame, mkF, argsToLocals, Value.category]; done) | rfl) k
  obtain ⟨T2, X2, e2, st2⟩ := own_ldcM X0 hx hZ hown (ww hw 179 rfl) e0 f1 (g := (mkF m 1 #[.val (.ref r0), .val (.int (3 : Int32)), .val (.ref r1), .unset] [(.ref r1)])) rfl (hb hby d23_1)
  obtain ⟨T3, h3, k3, X3, e3, E3, A3, B3, O3, st3⟩ := newRE X2 hx hZ hown (ww hw 180 rfl) (ww hw 156 rfl) e2 (g := (mkF m 7 #[.val (.ref r0), .val (.int (3 : Int32)), .val (.ref r1), .unset] [(.int (3 : Int32))])) rfl (hb hby d23_7) rfl (by decide) (cap := 3) (by decide) (by decide) (by decide) (by decide) (ad := "[Ljava/lang/Object;") rfl
  obtain ⟨b3, g3⟩ : ∃ z, z = h0.size := ⟨_, rfl⟩
  rw [← g3] at A3 B3 st3
  have V3 : Arv Z h3 b3 k3 (.object "java/lang/Object") (3 : Int32) [.null, .null, .null] .null := (Arv.new A3 (by decide)).pad (pad_rep [] .null 3)
  have f5 := (f4.ext E3)
  obtain ⟨clq6, Arq6, qq6, Sq6, Nq6, Hq6, Gq6⟩ := id f5
  have o7 := Old.ext O0 E3
  obtain ⟨_, _, ⟨T8, L8, k8, n8⟩, -, X8, ⟨Lc8, hQ8, l8, y8, z8⟩, st8⟩ := Jvm.LawKit.callS X3 hx (y := (⟨"java/lang/Math", "min", "(II)I"⟩ : MethodName)) hown (mvT hZ (ww hw 181 rfl)) (mvT hZ (ww hw 182 rfl)) (mvT hZ (ww hw 153 rfl)) (mvT hZ (ww hw 183 rfl)) (by decide) (backOf (W := 4) (rm24_3 l Z a0 hw [] h3 n0 o7) hZ (ww hw 183 rfl) (ww hw 153 rfl) (by decide) (by decide)) (g := (mkF m 32 #[.val (.ref r0), .val (.int (3 : Int32)), .val (.ref r1), .val (.ref b3)] [(.int (3 : Int32)), (.int (10 : Int32)), (.int (0 : Int32)), (.ref b3), (.int (0 : Int32)), (.ref r0)])) rfl (by rw [hml]; rfl) (argsL := [(.int (10 : Int32)), (.int (3 : Int32))]) (rest := [(.int (0 : Int32)), (.ref b3), (.int (0 : Int32)), (.ref r0)]) (lenOf pd__II_I rfl) rfl (by show 2 * 0 + _ ≤ _; exact Nat.le_of_eq rfl) (hb hby d23_32) (fun _ _ => ⟨rfl, e3, (by decide : 1 + 0 ≤ _), (by decide : 3 + 0 ≤ _)⟩)
  dsimp only [Pt.U, Pt.locs, Pt.cells, Pt.slots] at X8 l8 y8 z8 st8 hQ8
  subst l8 y8 z8
  obtain ⟨rfl, N8q, E8⟩ := hQ8
  have N8 := Fr.app N0 N8q
  obtain ⟨clq9, Arq9, qq9, Sq9, Nq9, Hq9, Gq9⟩ := id V3
  have f11 := (f10.ext E3)
  have f13 := (f12.ext E3)
  have f15 := (f14.ext E3)
  have zz16 : n0 ≤ h0.size := by rw [← O0.1]; exact O0.2.1
  have g17 := Nat.le_trans zz16 (Nat.le_of_eq g3.symm)
  obtain ⟨T18, h18, L18, X18, e18, N18, K18, B18, st18⟩ := cpA X8 hx hZ hown (ww hw 184 rfl) (ww hw 187 rfl) (ww hw 185 rfl) (ww hw 186 rfl) E8 f5 V3 (us := [(.ref r3), (.ref r4), (.ref r5)]) (Or.inr ⟨rfl, rfl, (And.intro (Sto.ofV Arq9 qq9 O3 (Ins.of_exa f15 (ww hw 157 rfl))) (And.intro (Sto.ofV Arq9 qq9 O3 (Ins.of_exa f13 (ww hw 157 rfl))) (And.intro (Sto.ofV Arq9 qq9 O3 (Ins.of_exa f11 (ww hw 157 rfl))) trivial)))⟩) (by decide) (by decide) (by decide) (by decide) (by decide) rfl (by decide) N8 g17 (g := (mkF m 35 #[.val (.ref r0), .val (.int (3 : Int32)), .val (.ref r1), .val (.ref b3)] [(.int (3 : Int32)), (.int (0 : Int32)), (.ref b3), (.int (0 : Int32)), (.ref r0)])) rfl (by rw [hml]; rfl) rfl (hb hby d23_35) (by decide) (W := 0) (by show 2 * 0 + _ ≤ _; exact Nat.le_of_eq rfl) (by decide)
  have V18 : Arv Z h18 b3 k3 (.object "java/lang/Object") (3 : Int32) [(.ref r3), (.ref r4), (.ref r5)] .null := B18
  have f19 := (B3.keep K18)
  have kp20 : Keep h0 h3 [] := (Keep.refl h0 []).ext E3
  have kp21 : Keep h0 h18 [] := kp20.trans K18 (allS (Or.inr (Nat.le_of_eq g3.symm)) all0)
  obtain ⟨fs, hr, hrun, hended, hW, hsame⟩ := X18.leave (v := some (.ref b3)) (fun h => by rw [Bd.returns] at h; cases h)
  refine ⟨_, _, pre0 _ ?_, hrun, hended, _, _, rfl, ?_, ⟨_, rfl⟩, hW, hsame.mono (by decide) (by decide)⟩
  · show Steps p.tables e below (s₁.setTop (mkF m 0 #[.val (.ref r0), .val (.int (3 : Int32)), .val (.ref r1), .unset] [])) _
    refine XS.aloadN X0.here hx rfl (hb hby d23_0) rfl rfl ?_
    refine st2 _ ?_
    show Steps p.tables e below (T2.setTop (mkF m 3 #[.val (.ref r0), .val (.int (3 : Int32)), .val (.ref r1), .unset] [(.ref r1), (.ref r1)])) _
    refine Jvm.RoadKit.acmp (g := (mkF m 3 #[.val (.ref r0), .val (.int (3 : Int32)), .val (.ref r1), .unset] [(.ref r1), (.ref r1)])) X2 hx rfl rfl rfl (pc0 := 3) (pc' := 6) (same := true) rfl (hb hby d23_3) rfl (decide_eq_true rfl) (by decide) (by decide) ?_
    show Steps p.tables e below (T2.setTop (mkF m 6 #[.val (.ref r0), .val (.int (3 : Int32)), .val (.ref r1), .unset] [])) _
    refine XS.iloadN X2.here hx rfl (hb hby d23_6) rfl ?_
    refine st3 _ ?_
    show Steps p.tables e below (T3.setTop (mkF m 10 #[.val (.ref r0), .val (.int (3 : Int32)), .val (.ref r1), .unset] [(.ref b3)])) _
    refine XS.goto X3.here hx rfl (pc0 := 10) (pc' := 24) rfl (hb hby d23_10) (by decide) (by decide) ?_
    show Steps p.tables e below (T3.setTop (mkF m 24 #[.val (.ref r0), .val (.int (3 : Int32)), .val (.ref r1), .unset] [(.ref b3)])) _
    refine XS.astoreN X3.here hx rfl (hb hby d23_24) rfl rfl (l' := #[.val (.ref r0), .val (.int (3 : Int32)), .val (.ref r1), .val (.ref b3)]) rfl ?_
    refine XS.aloadN X3.here hx rfl (hb hby d23_25) rfl rfl ?_
    refine XS.iconst X3.here hx rfl (hb hby d23_26) ?_
    refine XS.aloadN X3.here hx rfl (hb hby d23_27) rfl rfl ?_
    show Steps p.tables e below (T3.setTop (mkF m 28 #[.val (.ref r0), .val (.int (3 : Int32)), .val (.ref r1), .val (.ref b3)] [(.ref b3), (.int (0 : Int32)), (.ref r0)])) _
    refine XS.iconst X3.here hx rfl (hb hby d23_28) ?_
    refine XS.aloadN X3.here hx rfl (hb hby d23_29) rfl rfl ?_
    refine X3.arraylength hx (by rw [e3]; exact Arq6.1) (State.isArrayOf_alike hZ.alike Arq6.2.1) (g := (mkF m 30 #[.val (.ref r0), .val (.int (3 : Int32)), .val (.ref r1), .val (.ref b3)] [(.ref r0), (.int (0 : Int32)), (.ref b3), (.int (0 : Int32)), (.ref r0)])) rfl rfl (hb hby d23_30) _ ?_
    rw [len_of Sq6 Nq6]
    show Steps p.tables e below (T3.setTop (mkF m 31 #[.val (.ref r0), .val (.int (3 : Int32)), .val (.ref r1), .val (.ref b3)] [(.int (10 : Int32)), (.int (0 : Int32)), (.ref b3), (.int (0 : Int32)), (.ref r0)])) _
    refine XS.iloadN X3.here hx rfl (hb hby d23_31) rfl ?_
    refine st8 _ ?_
    show Steps p.tables e below (T8.setTop (mkF m 35 #[.val (.ref r0), .val (.int (3 : Int32)), .val (.ref r1), .val (.ref b3)] [(.int (3 : Int32)), (.int (0 : Int32)), (.ref b3), (.int (0 : Int32)), (.ref r0)])) _
    refine st18 _ ?_
    show Steps p.tables e below (T18.setTop (mkF m 38 #[.val (.ref r0), .val (.int (3 : Int32)), .val (.ref r1), .val (.ref b3)] [])) _
    refine XS.aloadN X18.here hx rfl (hb hby d23_38) rfl rfl ?_
    exact retOut X18 hx (i := .areturn) Bd.returns rfl (Or.inr (Or.inr (Or.inr (Or.inr ⟨rfl, rfl, rfl⟩)))) (hb hby d23_39) hr
  · show Q23_3 Z r0 r1 c2 r3 r4 r5 h0 n0 _ T18.heap _
    rw [e18]
    exact ⟨b3, k3, rfl, N18, kp21, (Nat.le_of_eq g3.symm), V18, f19, O3⟩
def Q22_3 (Z : State) (r0 : Addr) (r1 : Addr) (c2 : ClassId) (r3 : Addr) (r4 : Addr) (r5 : Addr) (h0 : Heap) (n0 : Nat) (v : Option Value) (h : Heap) (L : List Loc) : Prop := ∃ (b8_0 : Addr) (k8_0 : ClassId), v = some (.ref b8_0) ∧ Fr n0 L ∧ Keep h0 h [] ∧ h0.size ≤ b8_0 ∧ Arv Z h b8_0 k8_0 (.object "java/lang/Object") (3 : Int32) [(.ref r3), (.ref r4), (.ref r5)] .null ∧ Exa Z h b8_0 "[Ljava/lang/Object;" ∧ Ovr Z k8_0 "java/lang/Object"
set_option maxRecDepth 65536 in
set_option maxHeartbeats 40000000 in
theorem rm22_3 (l : Launch) (Z : State) (a0 : Array Value) (hw : ∀ d ∈ tables_1, d.before a0 Z = true) (ws : List Jvm.Cond) (r0 : Addr) (r1 : Addr) (c2 : ClassId) (r3 : Addr) (r4 : Addr) (r5 : Addr) (h0 : Heap) (n0 : Nat) (O0 : Old Z n0 h0) (f1 : Exa Z h0 r0 "[Ljava/lang/Object;") (f2 : own_Mir Z "[Ljava/lang/Object;" r1) (f4 : Arv Z h0 r0 c2 (.object "java/lang/Object") (10 : Int32) [(.ref r3), (.ref r4), (.ref r5), .null, .null, .null, .null, .null, .null, .null] .null) (f5 : Exa Z h0 r5 cs10) (f6 : Exa Z h0 r4 cs10) (f7 : Exa Z h0 r3 cs10) :
    MetFree l (⟨"java/util/Arrays", "copyOf", cs14⟩ : MethodName) (head1 (Jvm.Cond.code (⟨"java/util/Arrays", "copyOf", cs14⟩ : MethodName) jdk_65_method_119_code 2 (some (.array (.object "java/lang/Object"))) :: ws) ({ frames := 2, cells := 1, slots := 3, locals := 39 } : Room)) (fun a U => a = #[(.ref r0), (.int (3 : Int32))] ∧ Z.Warmed39 U.vm ∧ U.heap = h0) (fun _ _ _ _ _ => True) (fun _ U o U' => ∃ v L, o = .returned v ∧ Q22_3 Z r0 r1 c2 r3 r4 r5 h0 n0 v U'.heap L ∧ FrameEnd U o U' L ({ frames := 2, cells := 1, slots := 3, locals := 39 } : Room).cells ({ frames := 2, cells := 1, slots := 3, locals := 39 } : Room).slots) := by
  refine MetFree.of_bodySF (plainFor_of_name pn_java_util_Arrays) hisR ?_
  intro p e s m args below meth c s₁ Bd hml0 hP hK
  obtain ⟨rfl, hZ, hh⟩ := hP
  have hx := Bd.exec
  have hby := Bd.bytes
  have hml : c.maxLocals = 2 := hml0
  have hown : s.vm.findClass "java/util/Arrays" = some m.cls := findClass_of_methodNamed Bd.named
  have hnm := (name_of_methodNamed Bd.named Bd.method).1
  have X0 : Stand p l e ({ frames := 2, cells := 1, slots := 3, locals := 39 } : Room) s m #[(.ref r0), (.int (3 : Int32))] below meth c s₁ [] 0 0 := Stand.of_body Bd
  have e0 : s₁.heap = h0 := by rw [← hh, Bd.state]; rfl
  have N0 := Fr.nil n0
  have pre0 : ∀ t, Steps p.tables e below (s₁.setTop (mkF m 0 #[.val (.ref r0), .val (.int (3 : Int32))] [])) t → Steps p.tables e below (s₁.setTop (entryFrame m #[(.ref r0), (.int (3 : Int32))] 2)) t := fun t k => castTop (by first | (simp [entryFrame, mkF, argsToLocals, Value.category]; done) | rfl) k
  obtain ⟨T3, X3, e3, st3⟩ := own_gcls X0 hx hZ hown (ww hw 170 rfl) (ww hw 171 rfl) (ww hw 54 rfl) (ww hw 173 rfl) (ww hw 172 rfl) (ww hw 174 rfl) e0 f1 f2 (g := (mkF m 3 #[.val (.ref r0), .val (.int (3 : Int32))] [(.ref r0), (.int (3 : Int32)), (.ref r0)])) rfl (by rw [hml]; rfl) rfl (hb hby d22_3) (by decide) (W := 2) (by show 2 * 0 + _ ≤ _; exact Nat.le_of_eq rfl) (by decide)
  obtain ⟨_, _, ⟨T8, L8, k8, n8⟩, -, X8, ⟨Lc8, hQ8, l8, y8, z8⟩, st8⟩ := Jvm.LawKit.callS X3 hx (y := (⟨"java/util/Arrays", "copyOf", cs13⟩ : MethodName)) hown (mvT hZ (ww hw 176 rfl)) (mvT hZ (ww hw 177 rfl)) (mvT hZ (ww hw 168 rfl)) (mvT hZ (ww hw 178 rfl)) (by decide) (backOf (W := 0) (rm23_3 l Z a0 hw [] r0 r1 c2 r3 r4 r5 h0 n0 O0 f2 f4 f5 f6 f7) hZ (ww hw 178 rfl) (ww hw 168 rfl) (by decide) (by decide)) (g := (mkF m 6 #[.val (.ref r0), .val (.int (3 : Int32))] [(.ref r1), (.int (3 : Int32)), (.ref r0)])) rfl (by rw [hml]; rfl) (argsL := [(.ref r0), (.int (3 : Int32)), (.ref r1)]) (rest := []) (lenOf pd___Ljava_lang_Object_ILjava_lang_Class___Ljava_lang_Object_ rfl) rfl (by show 2 * 0 + _ ≤ _; exact Nat.le_of_eq rfl) (hb hby d22_6) (fun _ _ => ⟨rfl, e3, (by decide : 0 + 1 ≤ _), (by decide : 0 + 3 ≤ _)⟩)
  dsimp only [Pt.U, Pt.locs, Pt.cells, Pt.slots] at X8 l8 y8 z8 st8 hQ8
  subst l8 y8 z8
  obtain ⟨b8_0, k8_0, rfl, N8q, K8, f9, f10, f11, f12⟩ := hQ8
  have N8 := Fr.app N0 N8q
  have kp13 : Keep h0 T8.heap [] := (Keep.refl h0 []).trans K8 all0
  obtain ⟨fs, hr, hrun, hended, hW, hsame⟩ := X8.leave (v := some (.ref b8_0)) (fun h => by rw [Bd.returns] at h; cases h)
  refine ⟨_, _, pre0 _ ?_, hrun, hended, _, _, rfl, ?_, ⟨_, rfl⟩, hW, hsame.mono (by decide) (by decide)⟩
  · show Steps p.tables e below (s₁.setTop (mkF m 0 #[.val (.ref r0), .val (.int (3 : Int32))] [])) _
    refine XS.aloadN X0.here hx rfl (hb hby d22_0) rfl rfl ?_
    refine XS.iloadN X0.here hx rfl (hb hby d22_1) rfl ?_
    refine XS.aloadN X0.here hx rfl (hb hby d22_2) rfl rfl ?_
    refine st3 _ ?_
    show Steps p.tables e below (T3.setTop (mkF m 6 #[.val (.ref r0), .val (.int (3 : Int32))] [(.ref r1), (.int (3 : Int32)), (.ref r0)])) _
    refine st8 _ ?_
    show Steps p.tables e below (T8.setTop (mkF m 9 #[.val (.ref r0), .val (.int (3 : Int32))] [(.ref b8_0)])) _
    exact retOut X8 hx (i := .areturn) Bd.returns rfl (Or.inr (Or.inr (Or.inr (Or.inr ⟨rfl, rfl, rfl⟩)))) (hb hby d22_9) hr
  · show Q22_3 Z r0 r1 c2 r3 r4 r5 h0 n0 _ T8.heap _
    exact ⟨b8_0, k8_0, rfl, N8, kp13, f9, f10, f11, f12⟩
def Q21_3 (Z : State) (r0 : Addr) (r1 : Addr) (r2 : Addr) (c3 : ClassId) (r4 : Addr) (r5 : Addr) (r6 : Addr) (h0 : Heap) (n0 : Nat) (v : Option Value) (h : Heap) (L : List Loc) : Prop := ∃ (b11_0 : Addr) (k11_0 : ClassId), v = some (.ref b11_0) ∧ Fr n0 L ∧ Keep h0 h [] ∧ h0.size ≤ b11_0 ∧ Arv Z h b11_0 k11_0 (.object "java/lang/Object") (3 : Int32) [(.ref r4), (.ref r5), (.ref r6)] .null ∧ Exa Z h b11_0 "[Ljava/lang/Object;" ∧ Ovr Z k11_0 "java/lang/Object"
set_option maxRecDepth 65536 in
set_option maxHeartbeats 40000000 in
theorem rm21_3 (l : Launch) (Z : State) (a0 : Array Value) (hw : ∀ d ∈ tables_1, d.before a0 Z = true) (ws : List Jvm.Cond) (r0 : Addr) (r1 : Addr) (r2 : Addr) (c3 : ClassId) (r4 : Addr) (r5 : Addr) (r6 : Addr) (h0 : Heap) (n0 : Nat) (O0 : Old Z n0 h0) (f1 : Fld Z h0 r0 "java/util/ArrayList" "elementData" "[Ljava/lang/Object;" (.ref r1)) (f3 : Fld Z h0 r0 "java/util/ArrayList" "size" "I" (.int (3 : Int32))) (f5 : Exa Z h0 r1 "[Ljava/lang/Object;") (f6 : own_Mir Z "[Ljava/lang/Object;" r2) (f7 : Arv Z h0 r1 c3 (.object "java/lang/Object") (10 : Int32) [(.ref r4), (.ref r5), (.ref r6), .null, .null, .null, .null, .null, .null, .null] .null) (f8 : Exa Z h0 r6 cs10) (f9 : Exa Z h0 r5 cs10) (f10 : Exa Z h0 r4 cs10) :
    MetFree l (⟨"java/util/ArrayList", "toArray", "()[Ljava/lang/Object;"⟩ : MethodName) (head1 (Jvm.Cond.code (⟨"java/util/ArrayList", "toArray", "()[Ljava/lang/Object;"⟩ : MethodName) jdk_38_method_16_code 1 (some (.array (.object "java/lang/Object"))) :: ws) ({ frames := 3, cells := 1, slots := 3, locals := 52 } : Room)) (fun a U => a = #[(.ref r0)] ∧ Z.Warmed39 U.vm ∧ U.heap = h0) (fun _ _ _ _ _ => True) (fun _ U o U' => ∃ v L, o = .returned v ∧ Q21_3 Z r0 r1 r2 c3 r4 r5 r6 h0 n0 v U'.heap L ∧ FrameEnd U o U' L ({ frames := 3, cells := 1, slots := 3, locals := 52 } : Room).cells ({ frames := 3, cells := 1, slots := 3, locals := 52 } : Room).slots) := by
  refine MetFree.of_bodySF (plainFor_of_name pn_java_util_ArrayList) hisR ?_
  intro p e s m args below meth c s₁ Bd hml0 hP hK
  obtain ⟨rfl, hZ, hh⟩ := hP
  have hx := Bd.exec
  have hby := Bd.bytes
  have hml : c.maxLocals = 1 := hml0
  have hown : s.vm.findClass "java/util/ArrayList" = some m.cls := findClass_of_methodNamed Bd.named
  have hnm := (name_of_methodNamed Bd.named Bd.method).1
  have X0 : Stand p l e ({ frames := 3, cells := 1, slots := 3, locals := 52 } : Room) s m #[(.ref r0)] below meth c s₁ [] 0 0 := Stand.of_body Bd
  have e0 : s₁.heap = h0 := by rw [← hh, Bd.state]; rfl
  have N0 := Fr.nil n0
  have pre0 : ∀ t, Steps p.tables e below (s₁.setTop (mkF m 0 #[.val (.ref r0)] [])) t → Steps p.tables e below (s₁.setTop (entryFrame m #[(.ref r0)] 1)) t := fun t k => castTop (by first | (simp [entryFrame, mkF, argsToLocals, Value.category]; done) | rfl) k
  obtain ⟨T2, X2, e2, st2⟩ := getF X0 hx hZ hown (host := "") (Or.inl (ww hw 31 rfl)) Via.refl e0 f1 (g := (mkF m 1 #[.val (.ref r0)] [(.ref r0)])) rfl rfl (hb hby d21_1)
  obtain ⟨T4, X4, e4, st4⟩ := getF X2 hx hZ hown (host := "") (Or.inl (ww hw 65 rfl)) Via.refl e2 f3 (g := (mkF m 5 #[.val (.ref r0)] [(.ref r0), (.ref r1)])) rfl rfl (hb hby d21_5)
  obtain ⟨_, _, ⟨T11, L11, k11, n11⟩, -, X11, ⟨Lc11, hQ11, l11, y11, z11⟩, st11⟩ := Jvm.LawKit.callS X4 hx (y := (⟨"java/util/Arrays", "copyOf", cs14⟩ : MethodName)) hown (mvT hZ (ww hw 166 rfl)) (mvT hZ (ww hw 167 rfl)) (mvT hZ (ww hw 168 rfl)) (mvT hZ (ww hw 169 rfl)) (by decide) (backOf (W := 0) (rm22_3 l Z a0 hw [] r1 r2 c3 r4 r5 r6 h0 n0 O0 f5 f6 f7 f8 f9 f10) hZ (ww hw 169 rfl) (ww hw 168 rfl) (by decide) (by decide)) (g := (mkF m 8 #[.val (.ref r0)] [(.int (3 : Int32)), (.ref r1)])) rfl (by rw [hml]; rfl) (argsL := [(.ref r1), (.int (3 : Int32))]) (rest := []) (lenOf pd___Ljava_lang_Object_I__Ljava_lang_Object_ rfl) rfl (by show 2 * 0 + _ ≤ _; exact Nat.le_of_eq rfl) (hb hby d21_8) (fun _ _ => ⟨rfl, e4, (by decide : 0 + 1 ≤ _), (by decide : 0 + 3 ≤ _)⟩)
  dsimp only [Pt.U, Pt.locs, Pt.cells, Pt.slots] at X11 l11 y11 z11 st11 hQ11
  subst l11 y11 z11
  obtain ⟨b11_0, k11_0, rfl, N11q, K11, f12, f13, f14, f15⟩ := hQ11
  have N11 := Fr.app N0 N11q
  have kp16 : Keep h0 T11.heap [] := (Keep.refl h0 []).trans K11 all0
  obtain ⟨fs, hr, hrun, hended, hW, hsame⟩ := X11.leave (v := some (.ref b11_0)) (fun h => by rw [Bd.returns] at h; cases h)
  refine ⟨_, _, pre0 _ ?_, hrun, hended, _, _, rfl, ?_, ⟨_, rfl⟩, hW, hsame.mono (by decide) (by decide)⟩
  · show Steps p.tables e below (s₁.setTop (mkF m 0 #[.val (.ref r0)] [])) _
    refine XS.aloadN X0.here hx rfl (hb hby d21_0) rfl rfl ?_
    refine st2 _ ?_
    show Steps p.tables e below (T2.setTop (mkF m 4 #[.val (.ref r0)] [(.ref r1)])) _
    refine XS.aloadN X2.here hx rfl (hb hby d21_4) rfl rfl ?_
    refine st4 _ ?_
    show Steps p.tables e below (T4.setTop (mkF m 8 #[.val (.ref r0)] [(.int (3 : Int32)), (.ref r1)])) _
    refine st11 _ ?_
    show Steps p.tables e below (T11.setTop (mkF m 11 #[.val (.ref r0)] [(.ref b11_0)])) _
    exact retOut X11 hx (i := .areturn) Bd.returns rfl (Or.inr (Or.inr (Or.inr (Or.inr ⟨rfl, rfl, rfl⟩)))) (hb hby d21_11) hr
  · show Q21_3 Z r0 r1 r2 c3 r4 r5 r6 h0 n0 _ T11.heap _
    exact ⟨b11_0, k11_0, rfl, N11, kp16, f12, f13, f14, f15⟩
theorem d25_59 : decode jdk_40_method_47_code 59 = .ok (.aload_n 0, 1) := by decide +kernel
theorem d25_60 : decode jdk_40_method_47_code 60 = .ok (.invokestatic 109, 3) := by decide +kernel
theorem d32_0 : decode jdk_56_method_4_code 0 = .ok (.aload_n 0, 1) := by decide +kernel
theorem d32_1 : decode jdk_56_method_4_code 1 = .ok (.arraylength, 1) := by decide +kernel
theorem d32_2 : decode jdk_56_method_4_code 2 = .ok (.anewarray 2, 3) := by decide +kernel
theorem d32_5 : decode jdk_56_method_4_code 5 = .ok (.astore_n 1, 1) := by decide +kernel
theorem d32_6 : decode jdk_56_method_4_code 6 = .ok (.iconst 0, 1) := by decide +kernel
theorem d32_7 : decode jdk_56_method_4_code 7 = .ok (.istore_n 2, 1) := by decide +kernel
theorem d32_8 : decode jdk_56_method_4_code 8 = .ok (.iload_n 2, 1) := by decide +kernel
theorem d32_9 : decode jdk_56_method_4_code 9 = .ok (.aload_n 0, 1) := by decide +kernel
theorem d32_10 : decode jdk_56_method_4_code 10 = .ok (.arraylength, 1) := by decide +kernel
theorem d32_11 : decode jdk_56_method_4_code 11 = .ok (.if_icmp .ge 18, 3) := by decide +kernel
theorem d32_14 : decode jdk_56_method_4_code 14 = .ok (.aload_n 1, 1) := by decide +kernel
theorem d32_15 : decode jdk_56_method_4_code 15 = .ok (.iload_n 2, 1) := by decide +kernel
theorem d32_16 : decode jdk_56_method_4_code 16 = .ok (.aload_n 0, 1) := by decide +kernel
theorem d32_17 : decode jdk_56_method_4_code 17 = .ok (.iload_n 2, 1) := by decide +kernel
theorem d32_18 : decode jdk_56_method_4_code 18 = .ok (.aaload, 1) := by decide +kernel
theorem d32_19 : decode jdk_56_method_4_code 19 = .ok (.invokestatic 37, 3) := by decide +kernel
theorem d32_22 : decode jdk_56_method_4_code 22 = .ok (.aastore, 1) := by decide +kernel
theorem d32_23 : decode jdk_56_method_4_code 23 = .ok (.iinc 2 1, 3) := by decide +kernel
theorem d32_26 : decode jdk_56_method_4_code 26 = .ok (.goto (-18), 3) := by decide +kernel
theorem d32_29 : decode jdk_56_method_4_code 29 = .ok (.new 12, 3) := by decide +kernel
theorem d32_32 : decode jdk_56_method_4_code 32 = .ok (.dup, 1) := by decide +kernel
theorem d32_33 : decode jdk_56_method_4_code 33 = .ok (.aload_n 1, 1) := by decide +kernel
theorem d32_34 : decode jdk_56_method_4_code 34 = .ok (.iconst 0, 1) := by decide +kernel
theorem d32_35 : decode jdk_56_method_4_code 35 = .ok (.invokespecial 43, 3) := by decide +kernel
theorem d33_0 : decode jdk_45_method_1_code 0 = .ok (.aload_n 0, 1) := by decide +kernel
theorem d33_1 : decode jdk_45_method_1_code 1 = .ok (.invokespecial 1, 3) := by decide +kernel
theorem d33_4 : decode jdk_45_method_1_code 4 = .ok (.aload_n 0, 1) := by decide +kernel
theorem d33_5 : decode jdk_45_method_1_code 5 = .ok (.aload_n 1, 1) := by decide +kernel
theorem d33_6 : decode jdk_45_method_1_code 6 = .ok (.putfield 7, 3) := by decide +kernel
theorem d33_9 : decode jdk_45_method_1_code 9 = .ok (.aload_n 0, 1) := by decide +kernel
theorem d33_10 : decode jdk_45_method_1_code 10 = .ok (.iload_n 2, 1) := by decide +kernel
theorem d33_11 : decode jdk_45_method_1_code 11 = .ok (.putfield 13, 3) := by decide +kernel
theorem d33_14 : decode jdk_45_method_1_code 14 = .ok (.return_, 1) := by decide +kernel
def Q33_1 (Z : State) (r0 : Addr) (r1 : Addr) (h0 : Heap) (n0 : Nat) (v : Option Value) (h : Heap) (L : List Loc) : Prop := v = none ∧ Fr n0 L ∧ Keep h0 h [r0] ∧ Fld Z h r0 cs7 "elements" "[Ljava/lang/Object;" (.ref r1) ∧ Fld Z h r0 cs7 "allowNulls" "Z" (.int (0 : Int32))
set_option maxRecDepth 65536 in
set_option maxHeartbeats 40000000 in
theorem rm33_1 (l : Launch) (Z : State) (a0 : Array Value) (hw : ∀ d ∈ tables_1, d.before a0 Z = true) (ws : List Jvm.Cond) (r0 : Addr) (r1 : Addr) (h0 : Heap) (n0 : Nat) (O0 : Old Z n0 h0) (f2 : Exa Z h0 r0 cs7) (f3 : Fld Z h0 r0 cs7 "elements" "[Ljava/lang/Object;" .null) (g4 : n0 ≤ r0) (f7 : Fld Z h0 r0 cs7 "allowNulls" "Z" (.int (0 : Int32))) :
    MetFree l (⟨cs7, "<init>", "([Ljava/lang/Object;Z)V"⟩ : MethodName) (head1 (Jvm.Cond.code (⟨cs7, "<init>", "([Ljava/lang/Object;Z)V"⟩ : MethodName) jdk_45_method_1_code 3 none :: ws) ({ frames := 4, cells := 0, slots := 0, locals := 48 } : Room)) (fun a U => a = #[(.ref r0), (.ref r1), (.int (0 : Int32))] ∧ Z.Warmed39 U.vm ∧ U.heap = h0) (fun _ _ _ _ _ => True) (fun _ U o U' => ∃ v L, o = .returned v ∧ Q33_1 Z r0 r1 h0 n0 v U'.heap L ∧ FrameEnd U o U' L ({ frames := 4, cells := 0, slots := 0, locals := 48 } : Room).cells ({ frames := 4, cells := 0, slots := 0, locals := 48 } : Room).slots) := by
  refine MetFree.of_bodySF (plainFor_of_name pn_java_util_ImmutableCollections_ListN) hisR ?_
  intro p e s m args below meth c s₁ Bd hml0 hP hK
  obtain ⟨rfl, hZ, hh⟩ := hP
  have hx := Bd.exec
  have hby := Bd.bytes
  have hml : c.maxLocals = 3 := hml0
  have hown : s.vm.findClass cs7 = some m.cls := findClass_of_methodNamed Bd.named
  have hnm := (name_of_methodNamed Bd.named Bd.method).1
  have X0 : Stand p l e ({ frames := 4, cells := 0, slots := 0, locals := 48 } : Room) s m #[(.ref r0), (.ref r1), (.int (0 : Int32))] below meth c s₁ [] 0 0 := Stand.of_body Bd
  have e0 : s₁.heap = h0 := by rw [← hh, Bd.state]; rfl
  have N0 := Fr.nil n0
  have pre0 : ∀ t, Steps p.tables e below (s₁.setTop (mkF m 0 #[.val (.ref r0), .val (.ref r1), .val (.int (0 : Int32))] [])) t → Steps p.tables e below (s₁.setTop (entryFrame m #[(.ref r0), (.ref r1), (.int (0 : Int32))] 3)) t := fun t k => castTop (by first | (simp [entryFrame, mkF, argsToLocals, Value.category]; done) | rfl) k
  obtain ⟨_, _, ⟨T1, L1, k1, n1⟩, -, X1, ⟨Lc1, hQ1, l1, y1, z1⟩, st1⟩ := X0.specialBack hx (y := (⟨cs16, "<init>", "()V"⟩ : MethodName)) rfl hown (mvT hZ (ww hw 246 rfl)) (mvT hZ (ww hw 199 rfl)) (mvT hZ (ww hw 203 rfl)) (by decide) (backOf (W := 0) (rm27_1 l Z a0 hw [] r0 h0 n0 O0) hZ (ww hw 203 rfl) (ww hw 202 rfl) (by decide) (by decide)) (g := (mkF m 1 #[.val (.ref r0), .val (.ref r1), .val (.int (0 : Int32))] [(.ref r0)])) rfl (by rw [hml]; rfl) (Steps.refl _) (a := r0) (argsL := []) (rest := []) (lenOf pd___V rfl) rfl (by show 2 * 0 + _ ≤ _; exact Nat.le_of_eq rfl) (hb hby d33_1) (fun _ _ => ⟨rfl, e0, (by decide : 0 + 0 ≤ _), (by decide : 0 + 0 ≤ _)⟩)
  dsimp only [Pt.U, Pt.locs, Pt.cells, Pt.slots] at X1 l1 y1 z1 st1 hQ1
  subst l1 y1 z1
  obtain ⟨rfl, N1q, E1⟩ := hQ1
  have N1 := Fr.app N0 N1q
  obtain ⟨T5, h5, X5, e5, W5, st5⟩ := putF X1 hx hZ hown (host := "") (Or.inl (ww hw 88 rfl)) Via.refl E1 f3 f2 (Or.inr ⟨(ww hw 89 rfl), rfl, hnm⟩) (ww hw 241 rfl) (ty := (.array (.object "java/lang/Object"))) (by decide) rfl rfl (g := (mkF m 6 #[.val (.ref r0), .val (.ref r1), .val (.int (0 : Int32))] [(.ref r1), (.ref r0)])) rfl rfl (hb hby d33_6)
  have Fw5 := f3.same W5
  have N5 := Fr.snoc X5 N1 g4
  have f6 := (f2.wr W5)
  have f8 := (f7.other W5 (Or.inr (slot_ne (Or.inr (ww hw 251 rfl)) (Or.inr (ww hw 89 rfl)) (by decide) (t := .boolean) (t' := (.array (.object "java/lang/Object"))) (by decide) (by decide))))
  obtain ⟨T9, h9, X9, e9, W9, st9⟩ := putFN X5 hx hZ hown (ww hw 250 rfl) Via.refl e5 f8 f6 (Or.inr ⟨(ww hw 251 rfl), rfl, hnm⟩) (ww hw 241 rfl) (ty := .boolean) (v' := (.int (0 : Int32))) (by decide) rfl (by decide) (g := (mkF m 11 #[.val (.ref r0), .val (.ref r1), .val (.int (0 : Int32))] [(.int (0 : Int32)), (.ref r0)])) rfl rfl (hb hby d33_11)
  have Fw9 := f8.same W9
  have N9 := Fr.snoc X9 N5 g4
  have f10 := (Fw5.other W9 (Or.inr (slot_ne (Or.inr (ww hw 89 rfl)) (Or.inr (ww hw 251 rfl)) (by decide) (t := (.array (.object "java/lang/Object"))) (t' := .boolean) (by decide) (by decide))))
  have kp11 : Keep h0 h5 [r0] := (Keep.refl h0 [r0]).wr W5 (Or.inl (List.mem_of_getElem? (i := 0) rfl))
  have kp12 : Keep h0 h9 [r0] := kp11.wr W9 (Or.inl (List.mem_of_getElem? (i := 0) rfl))
  obtain ⟨fs, hr, hrun, hended, hW, hsame⟩ := X9.leave (v := none) (fun _ => rfl)
  refine ⟨_, _, pre0 _ ?_, hrun, hended, _, _, rfl, ?_, ⟨_, rfl⟩, hW, hsame.mono (by decide) (by decide)⟩
  · show Steps p.tables e below (s₁.setTop (mkF m 0 #[.val (.ref r0), .val (.ref r1), .val (.int (0 : Int32))] [])) _
    refine XS.aloadN X0.here hx rfl (hb hby d33_0) rfl rfl ?_
    refine st1.trans ?_
    show Steps p.tables e below (T1.setTop (mkF m 4 #[.val (.ref r0), .val (.ref r1), .val (.int (0 : Int32))] [])) _
    refine XS.aloadN X1.here hx rfl (hb hby d33_4) rfl rfl ?_
    refine XS.aloadN X1.here hx rfl (hb hby d33_5) rfl rfl ?_
    refine st5 _ ?_
    show Steps p.tables e below (T5.setTop (mkF m 9 #[.val (.ref r0), .val (.ref r1), .val (.int (0 : Int32))] [])) _
    refine XS.aloadN X5.here hx rfl (hb hby d33_9) rfl rfl ?_
    refine XS.iloadN X5.here hx rfl (hb hby d33_10) rfl ?_
    refine st9 _ ?_
    show Steps p.tables e below (T9.setTop (mkF m 14 #[.val (.ref r0), .val (.ref r1), .val (.int (0 : Int32))] [])) _
    exact X9.returnOut hx Bd.returns (hb hby d33_14) hr
  · show Q33_1 Z r0 r1 h0 n0 _ T9.heap _
    rw [e9]
    exact ⟨rfl, N9, kp12, f10, Fw9⟩
theorem pd___Ljava_lang_Object_Z_V : parseMethodDescriptor "([Ljava/lang/Object;Z)V" = some ⟨[(.array (.object "java/lang/Object")), .boolean], none⟩ := by decide +kernel
theorem d32_38 : decode jdk_56_method_4_code 38 = .ok (.areturn, 1) := by decide +kernel
def Q32_1 (Z : State) (r0 : Addr) (c1 : ClassId) (r2 : Addr) (r3 : Addr) (r4 : Addr) (h0 : Heap) (n0 : Nat) (v : Option Value) (h : Heap) (L : List Loc) : Prop := ∃ (b37 : Addr) (b3 : Addr) (k3 : ClassId), v = some (.ref b37) ∧ Fr n0 L ∧ Keep h0 h [] ∧ h0.size ≤ b37 ∧ Exa Z h b37 cs7 ∧ Fld Z h b37 cs7 "elements" "[Ljava/lang/Object;" (.ref b3) ∧ Fld Z h b37 cs7 "allowNulls" "Z" (.int (0 : Int32)) ∧ h0.size ≤ b3 ∧ Arv Z h b3 k3 (.object "java/lang/Object") (3 : Int32) [(.ref r2), (.ref r3), (.ref r4)] .null ∧ Exa Z h b3 "[Ljava/lang/Object;" ∧ Ovr Z k3 "java/lang/Object" ∧ b37 ≠ b3
set_option maxRecDepth 65536 in
set_option maxHeartbeats 40000000 in
theorem rm32_1 (l : Launch) (Z : State) (a0 : Array Value) (hw : ∀ d ∈ tables_1, d.before a0 Z = true) (ws : List Jvm.Cond) (r0 : Addr) (c1 : ClassId) (r2 : Addr) (r3 : Addr) (r4 : Addr) (h0 : Heap) (n0 : Nat) (O0 : Old Z n0 h0) (f1 : Arv Z h0 r0 c1 (.object "java/lang/Object") (3 : Int32) [(.ref r2), (.ref r3), (.ref r4)] .null) (f10 : Exa Z h0 r2 cs10) (l15 : r0 < h0.size) (f23 : Exa Z h0 r3 cs10) (f32 : Exa Z h0 r4 cs10) :
    MetFree l (⟨cs2, "listFromArray", cs19⟩ : MethodName) (head1 (Jvm.Cond.code (⟨cs2, "listFromArray", cs19⟩ : MethodName) jdk_56_method_4_code 3 (some (.object "java/util/List")) :: ws) ({ frames := 5, cells := 2, slots := 5, locals := 63 } : Room)) (fun a U => a = #[(.ref r0)] ∧ Z.Warmed39 U.vm ∧ U.heap = h0) (fun _ _ _ _ _ => True) (fun _ U o U' => ∃ v L, o = .returned v ∧ Q32_1 Z r0 c1 r2 r3 r4 h0 n0 v U'.heap L ∧ FrameEnd U o U' L ({ frames := 5, cells := 2, slots := 5, locals := 63 } : Room).cells ({ frames := 5, cells := 2, slots := 5, locals := 63 } : Room).slots) := by
  refine MetFree.of_bodySF (plainFor_of_name pn_java_util_ImmutableCollections) hisR ?_
  intro p e s m args below meth c s₁ Bd hml0 hP hK
  obtain ⟨rfl, hZ, hh⟩ := hP
  have hx := Bd.exec
  have hby := Bd.bytes
  have hml : c.maxLocals = 3 := hml0
  have hown : s.vm.findClass cs2 = some m.cls := findClass_of_methodNamed Bd.named
  have hnm := (name_of_methodNamed Bd.named Bd.method).1
  have X0 : Stand p l e ({ frames := 5, cells := 2, slots := 5, locals := 63 } : Room) s m #[(.ref r0)] below meth c s₁ [] 0 0 := Stand.of_body Bd
  have e0 : s₁.heap = h0 := by rw [← hh, Bd.state]; rfl
  have N0 := Fr.nil n0
  have pre0 : ∀ t, Steps p.tables e below (s₁.setTop (mkF m 0 #[.val (.ref r0), .unset, .unset] [])) t → Steps p.tables e below (s₁.setTop (entryFrame m #[(.ref r0)] 3)) t := fun t k => castTop (by first | (simp [entryFrame, mkF, argsToLocals, Value.category]; done) | rfl) k
  obtain ⟨clq2, Arq2, qq2, Sq2, Nq2, Hq2, Gq2⟩ := id f1
  obtain ⟨T3, h3, k3, X3, e3, E3, A3, B3, O3, st3⟩ := newRE X0 hx hZ hown (ww hw 239 rfl) (ww hw 156 rfl) e0 (g := (mkF m 2 #[.val (.ref r0), .unset, .unset] [(.int (3 : Int32))])) rfl (hb hby d32_2) rfl (by decide) (cap := 3) (by decide) (by decide) (by decide) (by decide) (ad := "[Ljava/lang/Object;") rfl
  obtain ⟨b3, g3⟩ : ∃ z, z = h0.size := ⟨_, rfl⟩
  rw [← g3] at A3 B3 st3
  have V3 : Arv Z h3 b3 k3 (.object "java/lang/Object") (3 : Int32) [.null, .null, .null] .null := (Arv.new A3 (by decide)).pad (pad_rep [] .null 3)
  have f4 := (f1.ext E3)
  obtain ⟨clq5, Arq5, qq5, Sq5, Nq5, Hq5, Gq5⟩ := id f4
  obtain ⟨clq6, Arq6, qq6, Sq6, Nq6, Hq6, Gq6⟩ := id f4
  have o7 := Old.ext O0 E3
  obtain ⟨_, _, ⟨T8, L8, k8, n8⟩, -, X8, ⟨Lc8, hQ8, l8, y8, z8⟩, st8⟩ := Jvm.LawKit.callS X3 hx (y := (⟨"java/util/Objects", "requireNonNull", cs17⟩ : MethodName)) hown (mvT hZ (ww hw 240 rfl)) (mvT hZ (ww hw 213 rfl)) (mvT hZ (ww hw 214 rfl)) (mvT hZ (ww hw 215 rfl)) (by decide) (backOf (W := 2) (rm29_1 l Z a0 hw [] r2 h3 n0 o7) hZ (ww hw 215 rfl) (ww hw 214 rfl) (by decide) (by decide)) (g := (mkF m 19 #[.val (.ref r0), .val (.ref b3), .val (.int (0 : Int32))] [(.ref r2), (.int (0 : Int32)), (.ref b3)])) rfl (by rw [hml]; rfl) (argsL := [(.ref r2)]) (rest := [(.int (0 : Int32)), (.ref b3)]) (lenOf pd__Ljava_lang_Object__Ljava_lang_Object_ rfl) rfl (by show 2 * 0 + _ ≤ _; exact Nat.le_of_eq rfl) (hb hby d32_19) (fun _ _ => ⟨rfl, e3, (by decide : 1 + 0 ≤ _), (by decide : 3 + 0 ≤ _)⟩)
  dsimp only [Pt.U, Pt.locs, Pt.cells, Pt.slots] at X8 l8 y8 z8 st8 hQ8
  subst l8 y8 z8
  obtain ⟨rfl, N8q, E8⟩ := hQ8
  have N8 := Fr.app N0 N8q
  obtain ⟨clq9, Arq9, qq9, Sq9, Nq9, Hq9, Gq9⟩ := id V3
  have f11 := (f10.ext E3)
  have zz12 : n0 ≤ h0.size := by rw [← O0.1]; exact O0.2.1
  have g13 := Nat.le_trans zz12 (Nat.le_of_eq g3.symm)
  obtain ⟨T14, h14, X14, e14, W14, st14⟩ := stR X8 hx hZ E8 Arq9 (j := (0 : Int32)) (inb_of Sq9 ⟨(by decide : ¬ ((0 : Int32) < (0 : Int32))), (by decide : (0 : Int32) < (3 : Int32))⟩) rfl (Sto.ofV Arq9 qq9 O3 (Ins.of_exa f11 (ww hw 157 rfl))) (g := (mkF m 22 #[.val (.ref r0), .val (.ref b3), .val (.int (0 : Int32))] [(.ref r2), (.int (0 : Int32)), (.ref b3)])) rfl rfl (hb hby d32_22)
  have V14 : Arv Z h14 b3 k3 (.object "java/lang/Object") (3 : Int32) [(.ref r2), .null, .null] .null := Arv.set Arq9 qq9 Sq9 Nq9 Hq9 Gq9 rfl W14 0 rfl (Nat.le_of_ble_eq_true rfl)
  have N14 := Fr.snoc X14 N8 g13
  have n16 := Nat.ne_of_lt (Nat.lt_of_lt_of_le l15 (Nat.le_of_eq g3.symm))
  have f17 := (f4.other W14 n16)
  obtain ⟨clq18, Arq18, qq18, Sq18, Nq18, Hq18, Gq18⟩ := id f17
  obtain ⟨clq19, Arq19, qq19, Sq19, Nq19, Hq19, Gq19⟩ := id f17
  have o20 := Old.wr o7 W14 g13
  obtain ⟨_, _, ⟨T21, L21, k21, n21⟩, -, X21, ⟨Lc21, hQ21, l21, y21, z21⟩, st21⟩ := Jvm.LawKit.callS X14 hx (y := (⟨"java/util/Objects", "requireNonNull", cs17⟩ : MethodName)) hown (mvT hZ (ww hw 240 rfl)) (mvT hZ (ww hw 213 rfl)) (mvT hZ (ww hw 214 rfl)) (mvT hZ (ww hw 215 rfl)) (by decide) (backOf (W := 2) (rm29_1 l Z a0 hw [] r3 h14 n0 o20) hZ (ww hw 215 rfl) (ww hw 214 rfl) (by decide) (by decide)) (g := (mkF m 19 #[.val (.ref r0), .val (.ref b3), .val (.int (1 : Int32))] [(.ref r3), (.int (1 : Int32)), (.ref b3)])) rfl (by rw [hml]; rfl) (argsL := [(.ref r3)]) (rest := [(.int (1 : Int32)), (.ref b3)]) (lenOf pd__Ljava_lang_Object__Ljava_lang_Object_ rfl) rfl (by show 2 * 0 + _ ≤ _; exact Nat.le_of_eq rfl) (hb hby d32_19) (fun _ _ => ⟨rfl, e14, (by decide : 1 + 0 ≤ _), (by decide : 3 + 0 ≤ _)⟩)
  dsimp only [Pt.U, Pt.locs, Pt.cells, Pt.slots] at X21 l21 y21 z21 st21 hQ21
  subst l21 y21 z21
  obtain ⟨rfl, N21q, E21⟩ := hQ21
  have N21 := Fr.app N14 N21q
  obtain ⟨clq22, Arq22, qq22, Sq22, Nq22, Hq22, Gq22⟩ := id V14
  have f24 := ((f23.ext E3).wr W14)
  obtain ⟨T25, h25, X25, e25, W25, st25⟩ := stR X21 hx hZ E21 Arq22 (j := (1 : Int32)) (inb_of Sq22 ⟨(by decide : ¬ ((1 : Int32) < (0 : Int32))), (by decide : (1 : Int32) < (3 : Int32))⟩) rfl (Sto.ofV Arq22 qq22 O3 (Ins.of_exa f24 (ww hw 157 rfl))) (g := (mkF m 22 #[.val (.ref r0), .val (.ref b3), .val (.int (1 : Int32))] [(.ref r3), (.int (1 : Int32)), (.ref b3)])) rfl rfl (hb hby d32_22)
  have V25 : Arv Z h25 b3 k3 (.object "java/lang/Object") (3 : Int32) [(.ref r2), (.ref r3), .null] .null := Arv.set Arq22 qq22 Sq22 Nq22 Hq22 Gq22 rfl W25 1 rfl (Nat.le_of_ble_eq_true rfl)
  have N25 := Fr.snoc X25 N21 g13
  have f26 := (f17.other W25 n16)
  obtain ⟨clq27, Arq27, qq27, Sq27, Nq27, Hq27, Gq27⟩ := id f26
  obtain ⟨clq28, Arq28, qq28, Sq28, Nq28, Hq28, Gq28⟩ := id f26
  have o29 := Old.wr o20 W25 g13
  obtain ⟨_, _, ⟨T30, L30, k30, n30⟩, -, X30, ⟨Lc30, hQ30, l30, y30, z30⟩, st30⟩ := Jvm.LawKit.callS X25 hx (y := (⟨"java/util/Objects", "requireNonNull", cs17⟩ : MethodName)) hown (mvT hZ (ww hw 240 rfl)) (mvT hZ (ww hw 213 rfl)) (mvT hZ (ww hw 214 rfl)) (mvT hZ (ww hw 215 rfl)) (by decide) (backOf (W := 2) (rm29_1 l Z a0 hw [] r4 h25 n0 o29) hZ (ww hw 215 rfl) (ww hw 214 rfl) (by decide) (by decide)) (g := (mkF m 19 #[.val (.ref r0), .val (.ref b3), .val (.int (2 : Int32))] [(.ref r4), (.int (2 : Int32)), (.ref b3)])) rfl (by rw [hml]; rfl) (argsL := [(.ref r4)]) (rest := [(.int (2 : Int32)), (.ref b3)]) (lenOf pd__Ljava_lang_Object__Ljava_lang_Object_ rfl) rfl (by show 2 * 0 + _ ≤ _; exact Nat.le_of_eq rfl) (hb hby d32_19) (fun _ _ => ⟨rfl, e25, (by decide : 1 + 0 ≤ _), (by decide : 3 + 0 ≤ _)⟩)
  dsimp only [Pt.U, Pt.locs, Pt.cells, Pt.slots] at X30 l30 y30 z30 st30 hQ30
  subst l30 y30 z30
  obtain ⟨rfl, N30q, E30⟩ := hQ30
  have N30 := Fr.app N25 N30q
  obtain ⟨clq31, Arq31, qq31, Sq31, Nq31, Hq31, Gq31⟩ := id V25
  have f33 := (((f32.ext E3).wr W14).wr W25)
  obtain ⟨T34, h34, X34, e34, W34, st34⟩ := stR X30 hx hZ E30 Arq31 (j := (2 : Int32)) (inb_of Sq31 ⟨(by decide : ¬ ((2 : Int32) < (0 : Int32))), (by decide : (2 : Int32) < (3 : Int32))⟩) rfl (Sto.ofV Arq31 qq31 O3 (Ins.of_exa f33 (ww hw 157 rfl))) (g := (mkF m 22 #[.val (.ref r0), .val (.ref b3), .val (.int (2 : Int32))] [(.ref r4), (.int (2 : Int32)), (.ref b3)])) rfl rfl (hb hby d32_22)
  have V34 : Arv Z h34 b3 k3 (.object "java/lang/Object") (3 : Int32) [(.ref r2), (.ref r3), (.ref r4)] .null := Arv.set Arq31 qq31 Sq31 Nq31 Hq31 Gq31 rfl W34 2 rfl (Nat.le_of_ble_eq_true rfl)
  have N34 := Fr.snoc X34 N30 g13
  have f35 := (f26.other W34 n16)
  obtain ⟨clq36, Arq36, qq36, Sq36, Nq36, Hq36, Gq36⟩ := id f35
  obtain ⟨T37, h37, X37, e37, E37, A37, D37, -, st37⟩ := newO X34 hx hZ hown (ww hw 55 rfl) (ww hw 241 rfl) (ww hw 86 rfl) e34 (g := (mkF m 29 #[.val (.ref r0), .val (.ref b3), .val (.int (3 : Int32))] [])) rfl (hb hby d32_29) (by decide) (by decide)
  obtain ⟨b37, g37⟩ : ∃ z, z = h34.size := ⟨_, rfl⟩
  rw [← g37] at A37 D37 st37
  have f38 : Fld Z h37 b37 cs7 "elements" "[Ljava/lang/Object;" .null := D37 (Or.inr (ww hw 89 rfl)) (ty := (.array (.object "java/lang/Object"))) (by decide)
  have f39 : Fld Z h37 b37 cs7 "allowNulls" "Z" (.int (0 : Int32)) := D37 (Or.inr (ww hw 251 rfl)) (ty := .boolean) (by decide)
  have o41 := Old.wr o29 W34 g13
  have zz40 : n0 ≤ h34.size := by rw [← o41.1]; exact o41.2.1
  have g42 := Nat.le_trans zz40 (Nat.le_of_eq g37.symm)
  have o43 := Old.ext o41 E37
  obtain ⟨_, _, ⟨T44, L44, k44, n44⟩, -, X44, ⟨Lc44, hQ44, l44, y44, z44⟩, st44⟩ := X37.specialBackNest hx (y := (⟨cs7, "<init>", "([Ljava/lang/Object;Z)V"⟩ : MethodName)) rfl hown (own_mvMN hZ (ww hw 242 rfl)) (mvT hZ (ww hw 243 rfl)) (mvT hZ (ww hw 245 rfl)) (by decide) (backOf (W := 1) (rm33_1 l Z a0 hw [] b37 b3 h37 n0 o43 A37 f38 g42 f39) hZ (ww hw 245 rfl) (ww hw 86 rfl) (by decide) (by decide)) (g := (mkF m 35 #[.val (.ref r0), .val (.ref b3), .val (.int (3 : Int32))] [(.int (0 : Int32)), (.ref b3), (.ref b37), (.ref b37)])) rfl (by rw [hml]; rfl) (Steps.refl _) (a := b37) (argsL := [(.ref b3), (.int (0 : Int32))]) (rest := [(.ref b37)]) (lenOf pd___Ljava_lang_Object_Z_V rfl) rfl (by show 2 * 0 + _ ≤ _; exact Nat.le_of_eq rfl) (hb hby d32_35) (fun _ _ => ⟨rfl, e37, (by decide : 2 + 0 ≤ _), (by decide : 5 + 0 ≤ _)⟩)
  dsimp only [Pt.U, Pt.locs, Pt.cells, Pt.slots] at X44 l44 y44 z44 st44 hQ44
  subst l44 y44 z44
  obtain ⟨rfl, N44q, K44, f45, f46⟩ := hQ44
  have N44 := Fr.app N34 N44q
  have zs47 := E3.1
  have zs48 := Nat.le_trans zs47 (Nat.le_of_eq W14.size.symm)
  have zs49 := Nat.le_trans zs48 (Nat.le_of_eq W25.size.symm)
  have zs50 := Nat.le_trans zs49 (Nat.le_of_eq W34.size.symm)
  have f51 := (A37.keep K44)
  have zs52 := (Nat.le_of_eq W14.size.symm)
  have zs53 := Nat.le_trans zs52 (Nat.le_of_eq W25.size.symm)
  have zs54 := Nat.le_trans zs53 (Nat.le_of_eq W34.size.symm)
  have n55 := Nat.ne_of_lt (Nat.lt_of_lt_of_le (Nat.lt_of_lt_of_le V3.lt zs54) (Nat.le_of_eq g37.symm))
  have f56 := ((V34.ext E37).keep K44 (ninS n55 nin0))
  have f57 := (((((B3.wr W14).wr W25).wr W34).ext E37).keep K44)
  have kp58 : Keep h0 h3 [] := (Keep.refl h0 []).ext E3
  have kp59 : Keep h0 h14 [] := kp58.wr W14 (Or.inr (Nat.le_of_eq g3.symm))
  have kp60 : Keep h0 h25 [] := kp59.wr W25 (Or.inr (Nat.le_of_eq g3.symm))
  have kp61 : Keep h0 h34 [] := kp60.wr W34 (Or.inr (Nat.le_of_eq g3.symm))
  have kp62 : Keep h0 h37 [] := kp61.ext E37
  have kp63 : Keep h0 T44.heap [] := kp62.trans K44 (allS (Or.inr (Nat.le_trans zs50 (Nat.le_of_eq g37.symm))) all0)
  obtain ⟨fs, hr, hrun, hended, hW, hsame⟩ := X44.leave (v := some (.ref b37)) (fun h => by rw [Bd.returns] at h; cases h)
  refine ⟨_, _, pre0 _ ?_, hrun, hended, _, _, rfl, ?_, ⟨_, rfl⟩, hW, hsame.mono (by decide) (by decide)⟩
  · show Steps p.tables e below (s₁.setTop (mkF m 0 #[.val (.ref r0), .unset, .unset] [])) _
    refine XS.aloadN X0.here hx rfl (hb hby d32_0) rfl rfl ?_
    refine X0.arraylength hx (by rw [e0]; exact Arq2.1) (State.isArrayOf_alike hZ.alike Arq2.2.1) (g := (mkF m 1 #[.val (.ref r0), .unset, .unset] [(.ref r0)])) rfl rfl (hb hby d32_1) _ ?_
    rw [len_of Sq2 Nq2]
    show Steps p.tables e below (s₁.setTop (mkF m 2 #[.val (.ref r0), .unset, .unset] [(.int (3 : Int32))])) _
    refine st3 _ ?_
    show Steps p.tables e below (T3.setTop (mkF m 5 #[.val (.ref r0), .unset, .unset] [(.ref b3)])) _
    refine XS.astoreN X3.here hx rfl (hb hby d32_5) rfl rfl (l' := #[.val (.ref r0), .val (.ref b3), .unset]) rfl ?_
    refine XS.iconst X3.here hx rfl (hb hby d32_6) ?_
    refine XS.istoreN X3.here hx rfl (hb hby d32_7) rfl (l' := #[.val (.ref r0), .val (.ref b3), .val (.int (0 : Int32))]) rfl ?_
    refine XS.iloadN X3.here hx rfl (hb hby d32_8) rfl ?_
    show Steps p.tables e below (T3.setTop (mkF m 9 #[.val (.ref r0), .val (.ref b3), .val (.int (0 : Int32))] [(.int (0 : Int32))])) _
    refine XS.aloadN X3.here hx rfl (hb hby d32_9) rfl rfl ?_
    refine X3.arraylength hx (by rw [e3]; exact Arq5.1) (State.isArrayOf_alike hZ.alike Arq5.2.1) (g := (mkF m 10 #[.val (.ref r0), .val (.ref b3), .val (.int (0 : Int32))] [(.ref r0), (.int (0 : Int32))])) rfl rfl (hb hby d32_10) _ ?_
    rw [len_of Sq5 Nq5]
    show Steps p.tables e below (T3.setTop (mkF m 11 #[.val (.ref r0), .val (.ref b3), .val (.int (0 : Int32))] [(.int (3 : Int32)), (.int (0 : Int32))])) _
    refine XS.icmpNo X3.here hx rfl (hb hby d32_11) rfl (tlt (by decide : (0 : Int32) < (3 : Int32))).2.1 ?_
    refine XS.aloadN X3.here hx rfl (hb hby d32_14) rfl rfl ?_
    refine XS.iloadN X3.here hx rfl (hb hby d32_15) rfl ?_
    refine XS.aloadN X3.here hx rfl (hb hby d32_16) rfl rfl ?_
    show Steps p.tables e below (T3.setTop (mkF m 17 #[.val (.ref r0), .val (.ref b3), .val (.int (0 : Int32))] [(.ref r0), (.int (0 : Int32)), (.ref b3)])) _
    refine XS.iloadN X3.here hx rfl (hb hby d32_17) rfl ?_
    refine X3.aaload hx (j := (0 : Int32)) (v := (.ref r2)) (by rw [e3]; exact Arq6.1) (State.isArrayOf_alike hZ.alike Arq6.2.1) rfl Arq6.2.2 (inb_of Sq6 ⟨(by decide : ¬ ((0 : Int32) < (0 : Int32))), (by decide : (0 : Int32) < (3 : Int32))⟩) (Has.at Hq6 (inb_of Sq6 ⟨(by decide : ¬ ((0 : Int32) < (0 : Int32))), (by decide : (0 : Int32) < (3 : Int32))⟩) rfl) (g := (mkF m 18 #[.val (.ref r0), .val (.ref b3), .val (.int (0 : Int32))] [(.int (0 : Int32)), (.ref r0), (.int (0 : Int32)), (.ref b3)])) rfl rfl (hb hby d32_18) _ ?_
    show Steps p.tables e below (T3.setTop (mkF m 19 #[.val (.ref r0), .val (.ref b3), .val (.int (0 : Int32))] [(.ref r2), (.int (0 : Int32)), (.ref b3)])) _
    refine st8 _ ?_
    show Steps p.tables e below (T8.setTop (mkF m 22 #[.val (.ref r0), .val (.ref b3), .val (.int (0 : Int32))] [(.ref r2), (.int (0 : Int32)), (.ref b3)])) _
    refine st14 _ ?_
    show Steps p.tables e below (T14.setTop (mkF m 23 #[.val (.ref r0), .val (.ref b3), .val (.int (0 : Int32))] [])) _
    refine XS.iinc X14.here hx rfl (hb hby d32_23) rfl (l' := #[.val (.ref r0), .val (.ref b3), .val (.int (1 : Int32))]) rfl ?_
    refine XS.goto X14.here hx rfl (pc0 := 26) (pc' := 8) rfl (hb hby d32_26) (by decide) (by decide) ?_
    show Steps p.tables e below (T14.setTop (mkF m 8 #[.val (.ref r0), .val (.ref b3), .val (.int (1 : Int32))] [])) _
    refine XS.iloadN X14.here hx rfl (hb hby d32_8) rfl ?_
    refine XS.aloadN X14.here hx rfl (hb hby d32_9) rfl rfl ?_
    refine X14.arraylength hx (by rw [e14]; exact Arq18.1) (State.isArrayOf_alike hZ.alike Arq18.2.1) (g := (mkF m 10 #[.val (.ref r0), .val (.ref b3), .val (.int (1 : Int32))] [(.ref r0), (.int (1 : Int32))])) rfl rfl (hb hby d32_10) _ ?_
    rw [len_of Sq18 Nq18]
    show Steps p.tables e below (T14.setTop (mkF m 11 #[.val (.ref r0), .val (.ref b3), .val (.int (1 : Int32))] [(.int (3 : Int32)), (.int (1 : Int32))])) _
    refine XS.icmpNo X14.here hx rfl (hb hby d32_11) rfl (tlt (by decide : (1 : Int32) < (3 : Int32))).2.1 ?_
    refine XS.aloadN X14.here hx rfl (hb hby d32_14) rfl rfl ?_
    refine XS.iloadN X14.here hx rfl (hb hby d32_15) rfl ?_
    refine XS.aloadN X14.here hx rfl (hb hby d32_16) rfl rfl ?_
    show Steps p.tables e below (T14.setTop (mkF m 17 #[.val (.ref r0), .val (.ref b3), .val (.int (1 : Int32))] [(.ref r0), (.int (1 : Int32)), (.ref b3)])) _
    refine XS.iloadN X14.here hx rfl (hb hby d32_17) rfl ?_
    refine X14.aaload hx (j := (1 : Int32)) (v := (.ref r3)) (by rw [e14]; exact Arq19.1) (State.isArrayOf_alike hZ.alike Arq19.2.1) rfl Arq19.2.2 (inb_of Sq19 ⟨(by decide : ¬ ((1 : Int32) < (0 : Int32))), (by decide : (1 : Int32) < (3 : Int32))⟩) (Has.at Hq19 (inb_of Sq19 ⟨(by decide : ¬ ((1 : Int32) < (0 : Int32))), (by decide : (1 : Int32) < (3 : Int32))⟩) rfl) (g := (mkF m 18 #[.val (.ref r0), .val (.ref b3), .val (.int (1 : Int32))] [(.int (1 : Int32)), (.ref r0), (.int (1 : Int32)), (.ref b3)])) rfl rfl (hb hby d32_18) _ ?_
    show Steps p.tables e below (T14.setTop (mkF m 19 #[.val (.ref r0), .val (.ref b3), .val (.int (1 : Int32))] [(.ref r3), (.int (1 : Int32)), (.ref b3)])) _
    refine st21 _ ?_
    show Steps p.tables e below (T21.setTop (mkF m 22 #[.val (.ref r0), .val (.ref b3), .val (.int (1 : Int32))] [(.ref r3), (.int (1 : Int32)), (.ref b3)])) _
    refine st25 _ ?_
    show Steps p.tables e below (T25.setTop (mkF m 23 #[.val (.ref r0), .val (.ref b3), .val (.int (1 : Int32))] [])) _
    refine XS.iinc X25.here hx rfl (hb hby d32_23) rfl (l' := #[.val (.ref r0), .val (.ref b3), .val (.int (2 : Int32))]) rfl ?_
    refine XS.goto X25.here hx rfl (pc0 := 26) (pc' := 8) rfl (hb hby d32_26) (by decide) (by decide) ?_
    show Steps p.tables e below (T25.setTop (mkF m 8 #[.val (.ref r0), .val (.ref b3), .val (.int (2 : Int32))] [])) _
    refine XS.iloadN X25.here hx rfl (hb hby d32_8) rfl ?_
    refine XS.aloadN X25.here hx rfl (hb hby d32_9) rfl rfl ?_
    refine X25.arraylength hx (by rw [e25]; exact Arq27.1) (State.isArrayOf_alike hZ.alike Arq27.2.1) (g := (mkF m 10 #[.val (.ref r0), .val (.ref b3), .val (.int (2 : Int32))] [(.ref r0), (.int (2 : Int32))])) rfl rfl (hb hby d32_10) _ ?_
    rw [len_of Sq27 Nq27]
    show Steps p.tables e below (T25.setTop (mkF m 11 #[.val (.ref r0), .val (.ref b3), .val (.int (2 : Int32))] [(.int (3 : Int32)), (.int (2 : Int32))])) _
    refine XS.icmpNo X25.here hx rfl (hb hby d32_11) rfl (tlt (by decide : (2 : Int32) < (3 : Int32))).2.1 ?_
    refine XS.aloadN X25.here hx rfl (hb hby d32_14) rfl rfl ?_
    refine XS.iloadN X25.here hx rfl (hb hby d32_15) rfl ?_
    refine XS.aloadN X25.here hx rfl (hb hby d32_16) rfl rfl ?_
    show Steps p.tables e below (T25.setTop (mkF m 17 #[.val (.ref r0), .val (.ref b3), .val (.int (2 : Int32))] [(.ref r0), (.int (2 : Int32)), (.ref b3)])) _
    refine XS.iloadN X25.here hx rfl (hb hby d32_17) rfl ?_
    refine X25.aaload hx (j := (2 : Int32)) (v := (.ref r4)) (by rw [e25]; exact Arq28.1) (State.isArrayOf_alike hZ.alike Arq28.2.1) rfl Arq28.2.2 (inb_of Sq28 ⟨(by decide : ¬ ((2 : Int32) < (0 : Int32))), (by decide : (2 : Int32) < (3 : Int32))⟩) (Has.at Hq28 (inb_of Sq28 ⟨(by decide : ¬ ((2 : Int32) < (0 : Int32))), (by decide : (2 : Int32) < (3 : Int32))⟩) rfl) (g := (mkF m 18 #[.val (.ref r0), .val (.ref b3), .val (.int (2 : Int32))] [(.int (2 : Int32)), (.ref r0), (.int (2 : Int32)), (.ref b3)])) rfl rfl (hb hby d32_18) _ ?_
    show Steps p.tables e below (T25.setTop (mkF m 19 #[.val (.ref r0), .val (.ref b3), .val (.int (2 : Int32))] [(.ref r4), (.int (2 : Int32)), (.ref b3)])) _
    refine st30 _ ?_
    show Steps p.tables e below (T30.setTop (mkF m 22 #[.val (.ref r0), .val (.ref b3), .val (.int (2 : Int32))] [(.ref r4), (.int (2 : Int32)), (.ref b3)])) _
    refine st34 _ ?_
    show Steps p.tables e below (T34.setTop (mkF m 23 #[.val (.ref r0), .val (.ref b3), .val (.int (2 : Int32))] [])) _
    refine XS.iinc X34.here hx rfl (hb hby d32_23) rfl (l' := #[.val (.ref r0), .val (.ref b3), .val (.int (3 : Int32))]) rfl ?_
    refine XS.goto X34.here hx rfl (pc0 := 26) (pc' := 8) rfl (hb hby d32_26) (by decide) (by decide) ?_
    show Steps p.tables e below (T34.setTop (mkF m 8 #[.val (.ref r0), .val (.ref b3), .val (.int (3 : Int32))] [])) _
    refine XS.iloadN X34.here hx rfl (hb hby d32_8) rfl ?_
    refine XS.aloadN X34.here hx rfl (hb hby d32_9) rfl rfl ?_
    refine X34.arraylength hx (by rw [e34]; exact Arq36.1) (State.isArrayOf_alike hZ.alike Arq36.2.1) (g := (mkF m 10 #[.val (.ref r0), .val (.ref b3), .val (.int (3 : Int32))] [(.ref r0), (.int (3 : Int32))])) rfl rfl (hb hby d32_10) _ ?_
    rw [len_of Sq36 Nq36]
    show Steps p.tables e below (T34.setTop (mkF m 11 #[.val (.ref r0), .val (.ref b3), .val (.int (3 : Int32))] [(.int (3 : Int32)), (.int (3 : Int32))])) _
    refine XS.icmpYes X34.here hx rfl (pc0 := 11) (pc' := 29) rfl (hb hby d32_11) rfl (flt (by decide : ¬ ((3 : Int32) < (3 : Int32)))).2.1 (by decide) (by decide) ?_
    show Steps p.tables e below (T34.setTop (mkF m 29 #[.val (.ref r0), .val (.ref b3), .val (.int (3 : Int32))] [])) _
    refine st37 _ ?_
    show Steps p.tables e below (T37.setTop (mkF m 32 #[.val (.ref r0), .val (.ref b3), .val (.int (3 : Int32))] [(.ref b37)])) _
    refine XS.dup X37.here hx rfl (hb hby d32_32) rfl rfl ?_
    refine XS.aloadN X37.here hx rfl (hb hby d32_33) rfl rfl ?_
    refine XS.iconst X37.here hx rfl (hb hby d32_34) ?_
    refine st44.trans ?_
    show Steps p.tables e below (T44.setTop (mkF m 38 #[.val (.ref r0), .val (.ref b3), .val (.int (3 : Int32))] [(.ref b37)])) _
    exact retOut X44 hx (i := .areturn) Bd.returns rfl (Or.inr (Or.inr (Or.inr (Or.inr ⟨rfl, rfl, rfl⟩)))) (hb hby d32_38) hr
  · show Q32_1 Z r0 c1 r2 r3 r4 h0 n0 _ T44.heap _
    exact ⟨b37, b3, k3, rfl, N44, kp63, (Nat.le_trans zs50 (Nat.le_of_eq g37.symm)), f51, f45, f46, (Nat.le_of_eq g3.symm), f56, f57, O3, (Ne.symm n55)⟩
theorem d25_63 : decode jdk_40_method_47_code 63 = .ok (.areturn, 1) := by decide +kernel
def Q25_3 (Z : State) (r0 : Addr) (c1 : ClassId) (r2 : Addr) (r3 : Addr) (r4 : Addr) (h0 : Heap) (n0 : Nat) (v : Option Value) (h : Heap) (L : List Loc) : Prop := ∃ (b7_0 : Addr) (b7_1 : Addr) (k7_0 : ClassId), v = some (.ref b7_0) ∧ Fr n0 L ∧ Keep h0 h [] ∧ h0.size ≤ b7_0 ∧ Exa Z h b7_0 cs7 ∧ Fld Z h b7_0 cs7 "elements" "[Ljava/lang/Object;" (.ref b7_1) ∧ Fld Z h b7_0 cs7 "allowNulls" "Z" (.int (0 : Int32)) ∧ h0.size ≤ b7_1 ∧ Arv Z h b7_1 k7_0 (.object "java/lang/Object") (3 : Int32) [(.ref r2), (.ref r3), (.ref r4)] .null ∧ Exa Z h b7_1 "[Ljava/lang/Object;" ∧ Ovr Z k7_0 "java/lang/Object" ∧ b7_0 ≠ b7_1
set_option maxRecDepth 65536 in
set_option maxHeartbeats 40000000 in
theorem rm25_3 (l : Launch) (Z : State) (a0 : Array Value) (hw : ∀ d ∈ tables_1, d.before a0 Z = true) (ws : List Jvm.Cond) (r0 : Addr) (c1 : ClassId) (r2 : Addr) (r3 : Addr) (r4 : Addr) (h0 : Heap) (n0 : Nat) (O0 : Old Z n0 h0) (f1 : Arv Z h0 r0 c1 (.object "java/lang/Object") (3 : Int32) [(.ref r2), (.ref r3), (.ref r4)] .null) (f3 : Exa Z h0 r2 cs10) (l4 : r0 < h0.size) (f5 : Exa Z h0 r3 cs10) (f6 : Exa Z h0 r4 cs10) :
    MetFree l (⟨"java/util/List", "of", cs19⟩ : MethodName) (head1 (Jvm.Cond.code (⟨"java/util/List", "of", cs19⟩ : MethodName) jdk_40_method_47_code 2 (some (.object "java/util/List")) :: ws) ({ frames := 6, cells := 2, slots := 5, locals := 77 } : Room)) (fun a U => a = #[(.ref r0)] ∧ Z.Warmed39 U.vm ∧ U.heap = h0) (fun _ _ _ _ _ => True) (fun _ U o U' => ∃ v L, o = .returned v ∧ Q25_3 Z r0 c1 r2 r3 r4 h0 n0 v U'.heap L ∧ FrameEnd U o U' L ({ frames := 6, cells := 2, slots := 5, locals := 77 } : Room).cells ({ frames := 6, cells := 2, slots := 5, locals := 77 } : Room).slots) := by
  refine MetFree.of_bodySF (plainFor_of_name pn_java_util_List) hisR ?_
  intro p e s m args below meth c s₁ Bd hml0 hP hK
  obtain ⟨rfl, hZ, hh⟩ := hP
  have hx := Bd.exec
  have hby := Bd.bytes
  have hml : c.maxLocals = 2 := hml0
  have hown : s.vm.findClass "java/util/List" = some m.cls := findClass_of_methodNamed Bd.named
  have hnm := (name_of_methodNamed Bd.named Bd.method).1
  have X0 : Stand p l e ({ frames := 6, cells := 2, slots := 5, locals := 77 } : Room) s m #[(.ref r0)] below meth c s₁ [] 0 0 := Stand.of_body Bd
  have e0 : s₁.heap = h0 := by rw [← hh, Bd.state]; rfl
  have N0 := Fr.nil n0
  have pre0 : ∀ t, Steps p.tables e below (s₁.setTop (mkF m 0 #[.val (.ref r0), .unset] [])) t → Steps p.tables e below (s₁.setTop (entryFrame m #[(.ref r0)] 2)) t := fun t k => castTop (by first | (simp [entryFrame, mkF, argsToLocals, Value.category]; done) | rfl) k
  obtain ⟨clq2, Arq2, qq2, Sq2, Nq2, Hq2, Gq2⟩ := id f1
  obtain ⟨_, _, ⟨T7, L7, k7, n7⟩, -, X7, ⟨Lc7, hQ7, l7, y7, z7⟩, st7⟩ := Jvm.LawKit.callS X0 hx (y := (⟨cs2, "listFromArray", cs19⟩ : MethodName)) hown (mvT hZ (ww hw 236 rfl)) (mvT hZ (ww hw 237 rfl)) (mvT hZ (ww hw 48 rfl)) (mvT hZ (ww hw 238 rfl)) (by decide) (backOf (W := 0) (rm32_1 l Z a0 hw [] r0 c1 r2 r3 r4 h0 n0 O0 f1 f3 l4 f5 f6) hZ (ww hw 238 rfl) (ww hw 48 rfl) (by decide) (by decide)) (g := (mkF m 60 #[.val (.ref r0), .unset] [(.ref r0)])) rfl (by rw [hml]; rfl) (argsL := [(.ref r0)]) (rest := []) (lenOf pd___Ljava_lang_Object__Ljava_util_List_ rfl) rfl (by show 2 * 0 + _ ≤ _; exact Nat.le_of_eq rfl) (hb hby d25_60) (fun _ _ => ⟨rfl, e0, (by decide : 0 + 2 ≤ _), (by decide : 0 + 5 ≤ _)⟩)
  dsimp only [Pt.U, Pt.locs, Pt.cells, Pt.slots] at X7 l7 y7 z7 st7 hQ7
  subst l7 y7 z7
  obtain ⟨b7_0, b7_1, k7_0, rfl, N7q, K7, f8, f9, f10, f11, f12, f13, f14, f15, f16⟩ := hQ7
  have N7 := Fr.app N0 N7q
  have kp17 : Keep h0 T7.heap [] := (Keep.refl h0 []).trans K7 all0
  obtain ⟨fs, hr, hrun, hended, hW, hsame⟩ := X7.leave (v := some (.ref b7_0)) (fun h => by rw [Bd.returns] at h; cases h)
  refine ⟨_, _, pre0 _ ?_, hrun, hended, _, _, rfl, ?_, ⟨_, rfl⟩, hW, hsame.mono (by decide) (by decide)⟩
  · show Steps p.tables e below (s₁.setTop (mkF m 0 #[.val (.ref r0), .unset] [])) _
    refine XS.aloadN X0.here hx rfl (hb hby d25_0) rfl rfl ?_
    refine X0.arraylength hx (by rw [e0]; exact Arq2.1) (State.isArrayOf_alike hZ.alike Arq2.2.1) (g := (mkF m 1 #[.val (.ref r0), .unset] [(.ref r0)])) rfl rfl (hb hby d25_1) _ ?_
    rw [len_of Sq2 Nq2]
    show Steps p.tables e below (s₁.setTop (mkF m 2 #[.val (.ref r0), .unset] [(.int (3 : Int32))])) _
    refine XS.tswOut X0.here hx rfl (pc0 := 2) (pc' := 59) rfl (hb hby d25_2) rfl (by decide) (by decide) (by decide) ?_
    refine XS.aloadN X0.here hx rfl (hb hby d25_59) rfl rfl ?_
    refine st7 _ ?_
    show Steps p.tables e below (T7.setTop (mkF m 63 #[.val (.ref r0), .unset] [(.ref b7_0)])) _
    exact retOut X7 hx (i := .areturn) Bd.returns rfl (Or.inr (Or.inr (Or.inr (Or.inr ⟨rfl, rfl, rfl⟩)))) (hb hby d25_63) hr
  · show Q25_3 Z r0 c1 r2 r3 r4 h0 n0 _ T7.heap _
    exact ⟨b7_0, b7_1, k7_0, rfl, N7, kp17, f8, f9, f10, f11, f12, f13, f14, f15, f16⟩
def Q8_4 (Z : State) (r0 : Addr) (r1 : Addr) (r2 : Addr) (c3 : ClassId) (r4 : Addr) (r5 : Addr) (r6 : Addr) (h0 : Heap) (n0 : Nat) (v : Option Value) (h : Heap) (L : List Loc) : Prop := ∃ (b24_0 : Addr) (b24_1 : Addr) (k24_0 : ClassId), v = some (.ref b24_0) ∧ Fr n0 L ∧ Keep h0 h [] ∧ h0.size ≤ b24_0 ∧ Exa Z h b24_0 cs7 ∧ Fld Z h b24_0 cs7 "elements" "[Ljava/lang/Object;" (.ref b24_1) ∧ Fld Z h b24_0 cs7 "allowNulls" "Z" (.int (0 : Int32)) ∧ h0.size ≤ b24_1 ∧ Arv Z h b24_1 k24_0 (.object "java/lang/Object") (3 : Int32) [(.ref r4), (.ref r5), (.ref r6)] .null ∧ Exa Z h b24_1 "[Ljava/lang/Object;" ∧ Ovr Z k24_0 "java/lang/Object" ∧ b24_0 ≠ b24_1
set_option maxRecDepth 65536 in
set_option maxHeartbeats 40000000 in
theorem rm8_4 (l : Launch) (Z : State) (a0 : Array Value) (hw : ∀ d ∈ tables_1, d.before a0 Z = true) (ws : List Jvm.Cond) (r0 : Addr) (r1 : Addr) (r2 : Addr) (c3 : ClassId) (r4 : Addr) (r5 : Addr) (r6 : Addr) (h0 : Heap) (n0 : Nat) (O0 : Old Z n0 h0) (f1 : Exa Z h0 r0 "java/util/ArrayList") (f4 : Fld Z h0 r0 "java/util/ArrayList" "size" "I" (.int (3 : Int32))) (f7 : Fld Z h0 r0 "java/util/ArrayList" "elementData" "[Ljava/lang/Object;" (.ref r1)) (f8 : Exa Z h0 r1 "[Ljava/lang/Object;") (f9 : own_Mir Z "[Ljava/lang/Object;" r2) (f10 : Arv Z h0 r1 c3 (.object "java/lang/Object") (10 : Int32) [(.ref r4), (.ref r5), (.ref r6), .null, .null, .null, .null, .null, .null, .null] .null) (f11 : Exa Z h0 r6 cs10) (f12 : Exa Z h0 r5 cs10) (f13 : Exa Z h0 r4 cs10) :
    MetFree l (⟨cs2, "listCopy", cs4⟩ : MethodName) (head1 (Jvm.Cond.code (⟨cs2, "listCopy", cs4⟩ : MethodName) jdk_56_method_3_code 2 (some (.object "java/util/List")) :: ws) ({ frames := 7, cells := 3, slots := 8, locals := 90 } : Room)) (fun a U => a = #[(.ref r0)] ∧ Z.Warmed39 U.vm ∧ U.heap = h0) (fun _ _ _ _ _ => True) (fun _ U o U' => ∃ v L, o = .returned v ∧ Q8_4 Z r0 r1 r2 c3 r4 r5 r6 h0 n0 v U'.heap L ∧ FrameEnd U o U' L ({ frames := 7, cells := 3, slots := 8, locals := 90 } : Room).cells ({ frames := 7, cells := 3, slots := 8, locals := 90 } : Room).slots) := by
  refine MetFree.of_bodySF (plainFor_of_name pn_java_util_ImmutableCollections) hisR ?_
  intro p e s m args below meth c s₁ Bd hml0 hP hK
  obtain ⟨rfl, hZ, hh⟩ := hP
  have hx := Bd.exec
  have hby := Bd.bytes
  have hml : c.maxLocals = 2 := hml0
  have hown : s.vm.findClass cs2 = some m.cls := findClass_of_methodNamed Bd.named
  have hnm := (name_of_methodNamed Bd.named Bd.method).1
  have X0 : Stand p l e ({ frames := 7, cells := 3, slots := 8, locals := 90 } : Room) s m #[(.ref r0)] below meth c s₁ [] 0 0 := Stand.of_body Bd
  have e0 : s₁.heap = h0 := by rw [← hh, Bd.state]; rfl
  have N0 := Fr.nil n0
  have pre0 : ∀ t, Steps p.tables e below (s₁.setTop (mkF m 0 #[.val (.ref r0), .unset] [])) t → Steps p.tables e below (s₁.setTop (entryFrame m #[(.ref r0)] 2)) t := fun t k => castTop (by first | (simp [entryFrame, mkF, argsToLocals, Value.category]; done) | rfl) k
  obtain ⟨T2, X2, e2, st2⟩ := instNo X0 hx hZ hown (ww hw 50 rfl) e0 f1 (own_NSno (ww hw 51 rfl) (ww hw 192 rfl) (NS.step (ww hw 51 rfl) (NS.step (ww hw 52 rfl) (NS.step (ww hw 53 rfl) (own_NSroot (ww hw 54 rfl) (ww hw 192 rfl) (by decide)) (by decide)) (by decide)) (by decide)) (by decide)) (g := (mkF m 1 #[.val (.ref r0), .unset] [(.ref r0)])) rfl rfl (hb hby d8_1)
  obtain ⟨T3, X3, e3, st3⟩ := instNo X2 hx hZ hown (ww hw 55 rfl) e2 f1 (own_NSno (ww hw 51 rfl) (ww hw 241 rfl) (NS.step (ww hw 51 rfl) (NS.step (ww hw 52 rfl) (NS.step (ww hw 53 rfl) (own_NSroot (ww hw 54 rfl) (ww hw 241 rfl) (by decide)) (by decide)) (by decide)) (by decide)) (by decide)) (g := (mkF m 8 #[.val (.ref r0), .unset] [(.ref r0)])) rfl rfl (hb hby d8_8)
  obtain ⟨cqq6, kqq6, qq6a, qq6b, qq6c⟩ := isOf hZ e3 f1
  obtain ⟨_, _, ⟨T5, L5, k5, n5⟩, -, X5, ⟨Lc5, hQ5, l5, y5, z5⟩, st5⟩ := X3.interfaceBack hx (xi := (⟨"java/util/Collection", "isEmpty", "()Z"⟩ : MethodName)) (y := (⟨"java/util/ArrayList", "isEmpty", "()Z"⟩ : MethodName)) hown (mvT hZ (ww hw 56 rfl)) (mvT hZ (ww hw 57 rfl)) (mvT hZ (ww hw 58 rfl)) (mvT hZ (ww hw 59 rfl)) (mvT hZ (ww hw 60 rfl)) (mvT hZ (ww hw 61 rfl)) (mvT hZ (ww hw 62 rfl)) (mvT hZ (ww hw 63 rfl)) (by decide) (backOf (W := 0) (rm9_4 l Z a0 hw [] r0 h0 n0 O0 f4) hZ (ww hw 64 rfl) (ww hw 9 rfl) (by decide) (by decide)) qq6a qq6b qq6c (g := (mkF m 32 #[.val (.ref r0), .unset] [(.ref r0)])) rfl (by rw [hml]; rfl) (Steps.refl _) (argsL := []) (rest := []) (lenOf pd___Z rfl) rfl (by show 2 * 0 + _ ≤ _; exact Nat.le_of_eq rfl) (hb hby d8_32) (fun _ _ => ⟨rfl, e3, (by decide : 0 + 0 ≤ _), (by decide : 0 + 0 ≤ _)⟩)
  dsimp only [Pt.U, Pt.locs, Pt.cells, Pt.slots] at X5 l5 y5 z5 st5 hQ5
  subst l5 y5 z5
  obtain ⟨rfl, N5q, E5⟩ := hQ5
  have N5 := Fr.app N0 N5q
  obtain ⟨cqq15, kqq15, qq15a, qq15b, qq15c⟩ := isOf hZ E5 f1
  obtain ⟨_, _, ⟨T14, L14, k14, n14⟩, -, X14, ⟨Lc14, hQ14, l14, y14, z14⟩, st14⟩ := X5.interfaceBack hx (xi := (⟨"java/util/Collection", "toArray", "()[Ljava/lang/Object;"⟩ : MethodName)) (y := (⟨"java/util/ArrayList", "toArray", "()[Ljava/lang/Object;"⟩ : MethodName)) hown (mvT hZ (ww hw 158 rfl)) (mvT hZ (ww hw 159 rfl)) (mvT hZ (ww hw 160 rfl)) (mvT hZ (ww hw 161 rfl)) (mvT hZ (ww hw 162 rfl)) (mvT hZ (ww hw 163 rfl)) (mvT hZ (ww hw 164 rfl)) (mvT hZ (ww hw 63 rfl)) (by decide) (backOf (W := 0) (rm21_3 l Z a0 hw [] r0 r1 r2 c3 r4 r5 r6 h0 n0 O0 f7 f4 f8 f9 f10 f11 f12 f13) hZ (ww hw 165 rfl) (ww hw 9 rfl) (by decide) (by decide)) qq15a qq15b qq15c (g := (mkF m 45 #[.val (.ref r0), .unset] [(.ref r0)])) rfl (by rw [hml]; rfl) (Steps.refl _) (argsL := []) (rest := []) (lenOf pd____Ljava_lang_Object_ rfl) rfl (by show 2 * 0 + _ ≤ _; exact Nat.le_of_eq rfl) (hb hby d8_45) (fun _ _ => ⟨rfl, E5, (by decide : 0 + 1 ≤ _), (by decide : 0 + 3 ≤ _)⟩)
  dsimp only [Pt.U, Pt.locs, Pt.cells, Pt.slots] at X14 l14 y14 z14 st14 hQ14
  subst l14 y14 z14
  obtain ⟨b14_0, k14_0, rfl, N14q, K14, f16, f17, f18, f19⟩ := hQ14
  have N14 := Fr.app N5 N14q
  have f20 := (f13.keep K14)
  have f21 := (f12.keep K14)
  have f22 := (f11.keep K14)
  have o23 := Old.keep O0 K14 all0
  obtain ⟨_, _, ⟨T24, L24, k24, n24⟩, -, X24, ⟨Lc24, hQ24, l24, y24, z24⟩, st24⟩ := Jvm.LawKit.callS X14 hx (y := (⟨"java/util/List", "of", cs19⟩ : MethodName)) hown (mvT hZ (ww hw 188 rfl)) (mvT hZ (ww hw 189 rfl)) (mvT hZ (ww hw 44 rfl)) (mvT hZ (ww hw 190 rfl)) (by decide) (backOf (W := 0) (rm25_3 l Z a0 hw [] b14_0 k14_0 r4 r5 r6 T14.heap n0 o23 f17 f20 f17.lt f21 f22) hZ (ww hw 190 rfl) (ww hw 44 rfl) (by decide) (by decide)) (g := (mkF m 50 #[.val (.ref r0), .unset] [(.ref b14_0)])) rfl (by rw [hml]; rfl) (argsL := [(.ref b14_0)]) (rest := []) (lenOf pd___Ljava_lang_Object__Ljava_util_List_ rfl) rfl (by show 2 * 0 + _ ≤ _; exact Nat.le_of_eq rfl) (hb hby d8_50) (fun _ _ => ⟨rfl, rfl, (by decide : 1 + 2 ≤ _), (by decide : 3 + 5 ≤ _)⟩)
  dsimp only [Pt.U, Pt.locs, Pt.cells, Pt.slots] at X24 l24 y24 z24 st24 hQ24
  subst l24 y24 z24
  obtain ⟨b24_0, b24_1, k24_0, rfl, N24q, K24, f25, f26, f27, f28, f29, f30, f31, f32, f33⟩ := hQ24
  have N24 := Fr.app N14 N24q
  have zs34 := K14.1
  have kp35 : Keep h0 T14.heap [] := (Keep.refl h0 []).trans K14 all0
  have kp36 : Keep h0 T24.heap [] := kp35.trans K24 all0
  obtain ⟨fs, hr, hrun, hended, hW, hsame⟩ := X24.leave (v := some (.ref b24_0)) (fun h => by rw [Bd.returns] at h; cases h)
  refine ⟨_, _, pre0 _ ?_, hrun, hended, _, _, rfl, ?_, ⟨_, rfl⟩, hW, hsame.mono (by decide) (by decide)⟩
  · show Steps p.tables e below (s₁.setTop (mkF m 0 #[.val (.ref r0), .unset] [])) _
    refine XS.aloadN X0.here hx rfl (hb hby d8_0) rfl rfl ?_
    refine st2 _ ?_
    show Steps p.tables e below (T2.setTop (mkF m 4 #[.val (.ref r0), .unset] [(.int (0 : Int32))])) _
    refine XS.ifNo X2.here hx rfl (hb hby d8_4) rfl ((if0 _ _).trans (teq (rfl : (0 : Int32) = (0 : Int32))).2) ?_
    refine XS.aloadN X2.here hx rfl (hb hby d8_7) rfl rfl ?_
    refine st3 _ ?_
    show Steps p.tables e below (T3.setTop (mkF m 11 #[.val (.ref r0), .unset] [(.int (0 : Int32))])) _
    refine XS.ifYes X3.here hx rfl (pc0 := 11) (pc' := 31) rfl (hb hby d8_11) rfl ((if0 _ _).trans (teq (rfl : (0 : Int32) = (0 : Int32))).1) (by decide) (by decide) ?_
    show Steps p.tables e below (T3.setTop (mkF m 31 #[.val (.ref r0), .unset] [])) _
    refine XS.aloadN X3.here hx rfl (hb hby d8_31) rfl rfl ?_
    refine st5.trans ?_
    show Steps p.tables e below (T5.setTop (mkF m 37 #[.val (.ref r0), .unset] [(.int (0 : Int32))])) _
    refine XS.ifYes X5.here hx rfl (pc0 := 37) (pc' := 44) rfl (hb hby d8_37) rfl ((if0 _ _).trans (teq (rfl : (0 : Int32) = (0 : Int32))).1) (by decide) (by decide) ?_
    show Steps p.tables e below (T5.setTop (mkF m 44 #[.val (.ref r0), .unset] [])) _
    refine XS.aloadN X5.here hx rfl (hb hby d8_44) rfl rfl ?_
    refine st14.trans ?_
    show Steps p.tables e below (T14.setTop (mkF m 50 #[.val (.ref r0), .unset] [(.ref b14_0)])) _
    refine st24 _ ?_
    show Steps p.tables e below (T24.setTop (mkF m 53 #[.val (.ref r0), .unset] [(.ref b24_0)])) _
    exact retOut X24 hx (i := .areturn) Bd.returns rfl (Or.inr (Or.inr (Or.inr (Or.inr ⟨rfl, rfl, rfl⟩)))) (hb hby d8_53) hr
  · show Q8_4 Z r0 r1 r2 c3 r4 r5 r6 h0 n0 _ T24.heap _
    exact ⟨b24_0, b24_1, k24_0, rfl, N24, kp36, (Nat.le_trans zs34 f25), f26, f27, f28, (Nat.le_trans zs34 f29), f30, f31, f32, f33⟩
def Q7_4 (Z : State) (r0 : Addr) (r1 : Addr) (r2 : Addr) (c3 : ClassId) (r4 : Addr) (r5 : Addr) (r6 : Addr) (h0 : Heap) (n0 : Nat) (v : Option Value) (h : Heap) (L : List Loc) : Prop := ∃ (b10_0 : Addr) (b10_1 : Addr) (k10_0 : ClassId), v = some (.ref b10_0) ∧ Fr n0 L ∧ Keep h0 h [] ∧ h0.size ≤ b10_0 ∧ Exa Z h b10_0 cs7 ∧ Fld Z h b10_0 cs7 "elements" "[Ljava/lang/Object;" (.ref b10_1) ∧ Fld Z h b10_0 cs7 "allowNulls" "Z" (.int (0 : Int32)) ∧ h0.size ≤ b10_1 ∧ Arv Z h b10_1 k10_0 (.object "java/lang/Object") (3 : Int32) [(.ref r4), (.ref r5), (.ref r6)] .null ∧ Exa Z h b10_1 "[Ljava/lang/Object;" ∧ Ovr Z k10_0 "java/lang/Object" ∧ b10_0 ≠ b10_1
set_option maxRecDepth 65536 in
set_option maxHeartbeats 40000000 in
theorem rm7_4 (l : Launch) (Z : State) (a0 : Array Value) (hw : ∀ d ∈ tables_1, d.before a0 Z = true) (ws : List Jvm.Cond) (r0 : Addr) (r1 : Addr) (r2 : Addr) (c3 : ClassId) (r4 : Addr) (r5 : Addr) (r6 : Addr) (h0 : Heap) (n0 : Nat) (O0 : Old Z n0 h0) (f1 : Exa Z h0 r0 "java/util/ArrayList") (f2 : Fld Z h0 r0 "java/util/ArrayList" "size" "I" (.int (3 : Int32))) (f3 : Fld Z h0 r0 "java/util/ArrayList" "elementData" "[Ljava/lang/Object;" (.ref r1)) (f4 : Exa Z h0 r1 "[Ljava/lang/Object;") (f5 : own_Mir Z "[Ljava/lang/Object;" r2) (f6 : Arv Z h0 r1 c3 (.object "java/lang/Object") (10 : Int32) [(.ref r4), (.ref r5), (.ref r6), .null, .null, .null, .null, .null, .null, .null] .null) (f7 : Exa Z h0 r6 cs10) (f8 : Exa Z h0 r5 cs10) (f9 : Exa Z h0 r4 cs10) :
    MetFree l (⟨"java/util/List", "copyOf", cs4⟩ : MethodName) (head1 (Jvm.Cond.code (⟨"java/util/List", "copyOf", cs4⟩ : MethodName) jdk_40_method_48_code 1 (some (.object "java/util/List")) :: ws) ({ frames := 8, cells := 3, slots := 8, locals := 103 } : Room)) (fun a U => a = #[(.ref r0)] ∧ Z.Warmed39 U.vm ∧ U.heap = h0) (fun _ _ _ _ _ => True) (fun _ U o U' => ∃ v L, o = .returned v ∧ Q7_4 Z r0 r1 r2 c3 r4 r5 r6 h0 n0 v U'.heap L ∧ FrameEnd U o U' L ({ frames := 8, cells := 3, slots := 8, locals := 103 } : Room).cells ({ frames := 8, cells := 3, slots := 8, locals := 103 } : Room).slots) := by
  refine MetFree.of_bodySF (plainFor_of_name pn_java_util_List) hisR ?_
  intro p e s m args below meth c s₁ Bd hml0 hP hK
  obtain ⟨rfl, hZ, hh⟩ := hP
  have hx := Bd.exec
  have hby := Bd.bytes
  have hml : c.maxLocals = 1 := hml0
  have hown : s.vm.findClass "java/util/List" = some m.cls := findClass_of_methodNamed Bd.named
  have hnm := (name_of_methodNamed Bd.named Bd.method).1
  have X0 : Stand p l e ({ frames := 8, cells := 3, slots := 8, locals := 103 } : Room) s m #[(.ref r0)] below meth c s₁ [] 0 0 := Stand.of_body Bd
  have e0 : s₁.heap = h0 := by rw [← hh, Bd.state]; rfl
  have N0 := Fr.nil n0
  have pre0 : ∀ t, Steps p.tables e below (s₁.setTop (mkF m 0 #[.val (.ref r0)] [])) t → Steps p.tables e below (s₁.setTop (entryFrame m #[(.ref r0)] 1)) t := fun t k => castTop (by first | (simp [entryFrame, mkF, argsToLocals, Value.category]; done) | rfl) k
  obtain ⟨_, _, ⟨T10, L10, k10, n10⟩, -, X10, ⟨Lc10, hQ10, l10, y10, z10⟩, st10⟩ := Jvm.LawKit.callS X0 hx (y := (⟨cs2, "listCopy", cs4⟩ : MethodName)) hown (mvT hZ (ww hw 46 rfl)) (mvT hZ (ww hw 47 rfl)) (mvT hZ (ww hw 48 rfl)) (mvT hZ (ww hw 49 rfl)) (by decide) (backOf (W := 0) (rm8_4 l Z a0 hw [] r0 r1 r2 c3 r4 r5 r6 h0 n0 O0 f1 f2 f3 f4 f5 f6 f7 f8 f9) hZ (ww hw 49 rfl) (ww hw 48 rfl) (by decide) (by decide)) (g := (mkF m 1 #[.val (.ref r0)] [(.ref r0)])) rfl (by rw [hml]; rfl) (argsL := [(.ref r0)]) (rest := []) (lenOf pd__Ljava_util_Collection__Ljava_util_List_ rfl) rfl (by show 2 * 0 + _ ≤ _; exact Nat.le_of_eq rfl) (hb hby d7_1) (fun _ _ => ⟨rfl, e0, (by decide : 0 + 3 ≤ _), (by decide : 0 + 8 ≤ _)⟩)
  dsimp only [Pt.U, Pt.locs, Pt.cells, Pt.slots] at X10 l10 y10 z10 st10 hQ10
  subst l10 y10 z10
  obtain ⟨b10_0, b10_1, k10_0, rfl, N10q, K10, f11, f12, f13, f14, f15, f16, f17, f18, f19⟩ := hQ10
  have N10 := Fr.app N0 N10q
  have kp20 : Keep h0 T10.heap [] := (Keep.refl h0 []).trans K10 all0
  obtain ⟨fs, hr, hrun, hended, hW, hsame⟩ := X10.leave (v := some (.ref b10_0)) (fun h => by rw [Bd.returns] at h; cases h)
  refine ⟨_, _, pre0 _ ?_, hrun, hended, _, _, rfl, ?_, ⟨_, rfl⟩, hW, hsame.mono (by decide) (by decide)⟩
  · show Steps p.tables e below (s₁.setTop (mkF m 0 #[.val (.ref r0)] [])) _
    refine XS.aloadN X0.here hx rfl (hb hby d7_0) rfl rfl ?_
    refine st10 _ ?_
    show Steps p.tables e below (T10.setTop (mkF m 4 #[.val (.ref r0)] [(.ref b10_0)])) _
    exact retOut X10 hx (i := .areturn) Bd.returns rfl (Or.inr (Or.inr (Or.inr (Or.inr ⟨rfl, rfl, rfl⟩)))) (hb hby d7_4) hr
  · show Q7_4 Z r0 r1 r2 c3 r4 r5 r6 h0 n0 _ T10.heap _
    exact ⟨b10_0, b10_1, k10_0, rfl, N10, kp20, f11, f12, f13, f14, f15, f16, f17, f18, f19⟩
def Q6_7 (Z : State) (r0 : Addr) (r1 : Addr) (r2 : Addr) (r3 : Addr) (c4 : ClassId) (r5 : Addr) (r6 : Addr) (r7 : Addr) (h0 : Heap) (n0 : Nat) (v : Option Value) (h : Heap) (L : List Loc) : Prop := ∃ (b26_0 : Addr) (b26_1 : Addr) (k26_0 : ClassId), v = none ∧ Fr n0 L ∧ Keep h0 h [r0] ∧ Fld Z h r0 cs5 "value" "Ljava/lang/Object;" .null ∧ Fld Z h r0 cs5 "errors" "Ljava/util/List;" (.ref b26_0) ∧ h0.size ≤ b26_0 ∧ Exa Z h b26_0 cs7 ∧ Fld Z h b26_0 cs7 "elements" "[Ljava/lang/Object;" (.ref b26_1) ∧ Fld Z h b26_0 cs7 "allowNulls" "Z" (.int (0 : Int32)) ∧ h0.size ≤ b26_1 ∧ Arv Z h b26_1 k26_0 (.object "java/lang/Object") (3 : Int32) [(.ref r5), (.ref r6), (.ref r7)] .null ∧ Exa Z h b26_1 "[Ljava/lang/Object;" ∧ Ovr Z k26_0 "java/lang/Object" ∧ b26_0 ≠ b26_1
set_option maxRecDepth 65536 in
set_option maxHeartbeats 40000000 in
theorem rm6_7 (l : Launch) (Z : State) (a0 : Array Value) (hw : ∀ d ∈ tables_1, d.before a0 Z = true) (ws : List Jvm.Cond) (r0 : Addr) (r1 : Addr) (r2 : Addr) (r3 : Addr) (c4 : ClassId) (r5 : Addr) (r6 : Addr) (r7 : Addr) (h0 : Heap) (n0 : Nat) (O0 : Old Z n0 h0) (f2 : Exa Z h0 r0 cs5) (f3 : Fld Z h0 r0 cs5 "value" "Ljava/lang/Object;" .null) (g4 : n0 ≤ r0) (f6 : Exa Z h0 r1 "java/util/ArrayList") (f8 : Fld Z h0 r1 "java/util/ArrayList" "size" "I" (.int (3 : Int32))) (n9 : r1 ≠ r0) (f11 : Fld Z h0 r1 "java/util/ArrayList" "elementData" "[Ljava/lang/Object;" (.ref r2)) (f13 : Exa Z h0 r2 "[Ljava/lang/Object;") (f15 : own_Mir Z "[Ljava/lang/Object;" r3) (f16 : Arv Z h0 r2 c4 (.object "java/lang/Object") (10 : Int32) [(.ref r5), (.ref r6), (.ref r7), .null, .null, .null, .null, .null, .null, .null] .null) (n17 : r2 ≠ r0) (f19 : Exa Z h0 r7 cs10) (f21 : Exa Z h0 r6 cs10) (f23 : Exa Z h0 r5 cs10) (f37 : Fld Z h0 r0 cs5 "errors" "Ljava/util/List;" .null) (l43 : r0 < h0.size) :
    MetFree l (⟨cs5, "<init>", cs6⟩ : MethodName) (head1 (Jvm.Cond.code (⟨cs5, "<init>", cs6⟩ : MethodName) prog_4_method_1_code 3 none :: ws) ({ frames := 9, cells := 3, slots := 8, locals := 116 } : Room)) (fun a U => a = #[(.ref r0), .null, (.ref r1)] ∧ Z.Warmed39 U.vm ∧ U.heap = h0) (fun _ _ _ _ _ => True) (fun _ U o U' => ∃ v L, o = .returned v ∧ Q6_7 Z r0 r1 r2 r3 c4 r5 r6 r7 h0 n0 v U'.heap L ∧ FrameEnd U o U' L ({ frames := 9, cells := 3, slots := 8, locals := 116 } : Room).cells ({ frames := 9, cells := 3, slots := 8, locals := 116 } : Room).slots) := by
  refine MetFree.of_bodySF (plainFor_of_name pn_com_example_weaverbird_weaverbird_bind_Binding) hisR ?_
  intro p e s m args below meth c s₁ Bd hml0 hP hK
  obtain ⟨rfl, hZ, hh⟩ := hP
  have hx := Bd.exec
  have hby := Bd.bytes
  have hml : c.maxLocals = 3 := hml0
  have hown : s.vm.findClass cs5 = some m.cls := findClass_of_methodNamed Bd.named
  have hnm := (name_of_methodNamed Bd.named Bd.method).1
  have X0 : Stand p l e ({ frames := 9, cells := 3, slots := 8, locals := 116 } : Room) s m #[(.ref r0), .null, (.ref r1)] below meth c s₁ [] 0 0 := Stand.of_body Bd
  have e0 : s₁.heap = h0 := by rw [← hh, Bd.state]; rfl
  have N0 := Fr.nil n0
  have pre0 : ∀ t, Steps p.tables e below (s₁.setTop (mkF m 0 #[.val (.ref r0), .val .null, .val (.ref r1)] [])) t → Steps p.tables e below (s₁.setTop (entryFrame m #[(.ref r0), .null, (.ref r1)] 3)) t := fun t k => castTop (by first | (simp [entryFrame, mkF, argsToLocals, Value.category]; done) | rfl) k
  obtain ⟨T1, X1, e1, st1⟩ := initO X0 hx hZ hown (ww hw 39 rfl) (ww hw 26 rfl) (ww hw 27 rfl) e0 (g := (mkF m 1 #[.val (.ref r0), .val .null, .val (.ref r1)] [(.ref r0)])) rfl (by rw [hml]; rfl) rfl (hb hby d6_1) (by decide) (W := 0) (by show 2 * 0 + _ ≤ _; exact Nat.le_of_eq rfl) (by decide)
  obtain ⟨T5, h5, X5, e5, W5, st5⟩ := putF X1 hx hZ hown (host := "") (Or.inl (ww hw 40 rfl)) Via.refl e1 f3 f2 (Or.inr ⟨(ww hw 41 rfl), rfl, hnm⟩) (ww hw 34 rfl) (ty := (.object "java/lang/Object")) (by decide) rfl rfl (g := (mkF m 6 #[.val (.ref r0), .val .null, .val (.ref r1)] [.null, (.ref r0)])) rfl rfl (hb hby d6_6)
  have Fw5 := f3.same W5
  have N5 := Fr.snoc X5 N0 g4
  have f7 := (f6.wr W5)
  have f10 := (f8.other W5 (Or.inl n9))
  have f12 := (f11.other W5 (Or.inl n9))
  have f14 := (f13.wr W5)
  have f18 := (f16.other W5 n17)
  have f20 := (f19.wr W5)
  have f22 := (f21.wr W5)
  have f24 := (f23.wr W5)
  have o25 := Old.wr O0 W5 g4
  obtain ⟨_, _, ⟨T26, L26, k26, n26⟩, -, X26, ⟨Lc26, hQ26, l26, y26, z26⟩, st26⟩ := Jvm.LawKit.callS X5 hx (y := (⟨"java/util/List", "copyOf", cs4⟩ : MethodName)) hown (mvT hZ (ww hw 42 rfl)) (mvT hZ (ww hw 43 rfl)) (mvT hZ (ww hw 44 rfl)) (mvT hZ (ww hw 45 rfl)) (by decide) (backOf (W := 1) (rm7_4 l Z a0 hw [] r1 r2 r3 c4 r5 r6 r7 h5 n0 o25 f7 f10 f12 f14 f15 f18 f20 f22 f24) hZ (ww hw 45 rfl) (ww hw 44 rfl) (by decide) (by decide)) (g := (mkF m 11 #[.val (.ref r0), .val .null, .val (.ref r1)] [(.ref r1), (.ref r0)])) rfl (by rw [hml]; rfl) (argsL := [(.ref r1)]) (rest := [(.ref r0)]) (lenOf pd__Ljava_util_Collection__Ljava_util_List_ rfl) rfl (by show 2 * 0 + _ ≤ _; exact Nat.le_of_eq rfl) (hb hby d6_11) (fun _ _ => ⟨rfl, e5, (by decide : 0 + 3 ≤ _), (by decide : 0 + 8 ≤ _)⟩)
  dsimp only [Pt.U, Pt.locs, Pt.cells, Pt.slots] at X26 l26 y26 z26 st26 hQ26
  subst l26 y26 z26
  obtain ⟨b26_0, b26_1, k26_0, rfl, N26q, K26, f27, f28, f29, f30, f31, f32, f33, f34, f35⟩ := hQ26
  have N26 := Fr.app N5 N26q
  have f36 := ((f2.wr W5).keep K26)
  have f38 := ((f37.other W5 (Or.inr (slot_ne (Or.inr (ww hw 72 rfl)) (Or.inr (ww hw 41 rfl)) (by decide) (t := (.object "java/util/List")) (t' := (.object "java/lang/Object")) (by decide) (by decide)))).keep K26 nin0)
  obtain ⟨T39, h39, X39, e39, W39, st39⟩ := putF X26 hx hZ hown (host := "") (Or.inl (ww hw 71 rfl)) Via.refl rfl f38 f36 (Or.inr ⟨(ww hw 72 rfl), rfl, hnm⟩) (ww hw 34 rfl) (ty := (.object "java/util/List")) (by decide) rfl rfl (g := (mkF m 14 #[.val (.ref r0), .val .null, .val (.ref r1)] [(.ref b26_0), (.ref r0)])) rfl rfl (hb hby d6_14)
  have Fw39 := f38.same W39
  have N39 := Fr.snoc X39 N26 g4
  have f40 := ((Fw5.keep K26 nin0).other W39 (Or.inr (slot_ne (Or.inr (ww hw 41 rfl)) (Or.inr (ww hw 72 rfl)) (by decide) (t := (.object "java/lang/Object")) (t' := (.object "java/util/List")) (by decide) (by decide))))
  have zs41 := (Nat.le_of_eq W5.size.symm)
  have f42 := (f28.wr W39)
  have n44 := Nat.ne_of_lt (Nat.lt_of_lt_of_le (Nat.lt_of_lt_of_le l43 zs41) f27)
  have f45 := (f29.other W39 (Or.inl (Ne.symm n44)))
  have f46 := (f30.other W39 (Or.inl (Ne.symm n44)))
  have n47 := Nat.ne_of_lt (Nat.lt_of_lt_of_le (Nat.lt_of_lt_of_le l43 zs41) f31)
  have f48 := (f32.other W39 (Ne.symm n47))
  have f49 := (f33.wr W39)
  have kp50 : Keep h0 h5 [r0] := (Keep.refl h0 [r0]).wr W5 (Or.inl (List.mem_of_getElem? (i := 0) rfl))
  have kp51 : Keep h0 T26.heap [r0] := kp50.trans K26 all0
  have kp52 : Keep h0 h39 [r0] := kp51.wr W39 (Or.inl (List.mem_of_getElem? (i := 0) rfl))
  obtain ⟨fs, hr, hrun, hended, hW, hsame⟩ := X39.leave (v := none) (fun _ => rfl)
  refine ⟨_, _, pre0 _ ?_, hrun, hended, _, _, rfl, ?_, ⟨_, rfl⟩, hW, hsame.mono (by decide) (by decide)⟩
  · show Steps p.tables e below (s₁.setTop (mkF m 0 #[.val (.ref r0), .val .null, .val (.ref r1)] [])) _
    refine XS.aloadN X0.here hx rfl (hb hby d6_0) rfl rfl ?_
    refine st1 _ ?_
    show Steps p.tables e below (T1.setTop (mkF m 4 #[.val (.ref r0), .val .null, .val (.ref r1)] [])) _
    refine XS.aloadN X1.here hx rfl (hb hby d6_4) rfl rfl ?_
    refine XS.aloadN X1.here hx rfl (hb hby d6_5) rfl rfl ?_
    refine st5 _ ?_
    show Steps p.tables e below (T5.setTop (mkF m 9 #[.val (.ref r0), .val .null, .val (.ref r1)] [])) _
    refine XS.aloadN X5.here hx rfl (hb hby d6_9) rfl rfl ?_
    refine XS.aloadN X5.here hx rfl (hb hby d6_10) rfl rfl ?_
    refine st26 _ ?_
    show Steps p.tables e below (T26.setTop (mkF m 14 #[.val (.ref r0), .val .null, .val (.ref r1)] [(.ref b26_0), (.ref r0)])) _
    refine st39 _ ?_
    show Steps p.tables e below (T39.setTop (mkF m 17 #[.val (.ref r0), .val .null, .val (.ref r1)] [])) _
    exact X39.returnOut hx Bd.returns (hb hby d6_17) hr
  · show Q6_7 Z r0 r1 r2 r3 c4 r5 r6 r7 h0 n0 _ T39.heap _
    rw [e39]
    exact ⟨b26_0, b26_1, k26_0, rfl, N39, kp52, f40, Fw39, (Nat.le_trans zs41 f27), f42, f45, f46, (Nat.le_trans zs41 f31), f48, f49, f34, f35⟩
theorem d12_12 : decode jdk_45_method_2_code 12 = .ok (.iconst 0, 1) := by decide +kernel
def Q12_2 (Z : State) (r0 : Addr) (r1 : Addr) (c2 : ClassId) (r3 : Addr) (r4 : Addr) (r5 : Addr) (h0 : Heap) (n0 : Nat) (v : Option Value) (h : Heap) (L : List Loc) : Prop := v = some (.int (0 : Int32)) ∧ Fr n0 L ∧ h = h0
set_option maxRecDepth 65536 in
set_option maxHeartbeats 40000000 in
theorem rm12_2 (l : Launch) (Z : State) (a0 : Array Value) (hw : ∀ d ∈ tables_1, d.before a0 Z = true) (ws : List Jvm.Cond) (r0 : Addr) (r1 : Addr) (c2 : ClassId) (r3 : Addr) (r4 : Addr) (r5 : Addr) (h0 : Heap) (n0 : Nat) (O0 : Old Z n0 h0) (f1 : Fld Z h0 r0 cs7 "elements" "[Ljava/lang/Object;" (.ref r1)) (f3 : Arv Z h0 r1 c2 (.object "java/lang/Object") (3 : Int32) [(.ref r3), (.ref r4), (.ref r5)] .null) :
    MetFree l (⟨cs7, "isEmpty", "()Z"⟩ : MethodName) (head1 (Jvm.Cond.code (⟨cs7, "isEmpty", "()Z"⟩ : MethodName) jdk_45_method_2_code 1 (some .boolean) :: ws) ({ frames := 0, cells := 0, slots := 0, locals := 0 } : Room)) (fun a U => a = #[(.ref r0)] ∧ Z.Warmed39 U.vm ∧ U.heap = h0) (fun _ _ _ _ _ => True) (fun _ U o U' => ∃ v L, o = .returned v ∧ Q12_2 Z r0 r1 c2 r3 r4 r5 h0 n0 v U'.heap L ∧ FrameEnd U o U' L ({ frames := 0, cells := 0, slots := 0, locals := 0 } : Room).cells ({ frames := 0, cells := 0, slots := 0, locals := 0 } : Room).slots) := by
  refine MetFree.of_bodySF (plainFor_of_name pn_java_util_ImmutableCollections_ListN) hisR ?_
  intro p e s m args below meth c s₁ Bd hml0 hP hK
  obtain ⟨rfl, hZ, hh⟩ := hP
  have hx := Bd.exec
  have hby := Bd.bytes
  have hml : c.maxLocals = 1 := hml0
  have hown : s.vm.findClass cs7 = some m.cls := findClass_of_methodNamed Bd.named
  have hnm := (name_of_methodNamed Bd.named Bd.method).1
  have X0 : Stand p l e ({ frames := 0, cells := 0, slots := 0, locals := 0 } : Room) s m #[(.ref r0)] below meth c s₁ [] 0 0 := Stand.of_body Bd
  have e0 : s₁.heap = h0 := by rw [← hh, Bd.state]; rfl
  have N0 := Fr.nil n0
  have pre0 : ∀ t, Steps p.tables e below (s₁.setTop (mkF m 0 #[.val (.ref r0)] [])) t → Steps p.tables e below (s₁.setTop (entryFrame m #[(.ref r0)] 1)) t := fun t k => castTop (by first | (simp [entryFrame, mkF, argsToLocals, Value.category]; done) | rfl) k
  obtain ⟨T2, X2, e2, st2⟩ := getF X0 hx hZ hown (host := "") (Or.inl (ww hw 88 rfl)) Via.refl e0 f1 (g := (mkF m 1 #[.val (.ref r0)] [(.ref r0)])) rfl rfl (hb hby d12_1)
  obtain ⟨clq4, Arq4, qq4, Sq4, Nq4, Hq4, Gq4⟩ := id f3
  obtain ⟨fs, hr, hrun, hended, hW, hsame⟩ := X2.leave (v := some (.int (0 : Int32))) (fun h => by rw [Bd.returns] at h; cases h)
  refine ⟨_, _, pre0 _ ?_, hrun, hended, _, _, rfl, ?_, ⟨_, rfl⟩, hW, hsame.mono (by decide) (by decide)⟩
  · show Steps p.tables e below (s₁.setTop (mkF m 0 #[.val (.ref r0)] [])) _
    refine XS.aloadN X0.here hx rfl (hb hby d12_0) rfl rfl ?_
    refine st2 _ ?_
    show Steps p.tables e below (T2.setTop (mkF m 4 #[.val (.ref r0)] [(.ref r1)])) _
    refine X2.arraylength hx (by rw [e2]; exact Arq4.1) (State.isArrayOf_alike hZ.alike Arq4.2.1) (g := (mkF m 4 #[.val (.ref r0)] [(.ref r1)])) rfl rfl (hb hby d12_4) _ ?_
    rw [len_of Sq4 Nq4]
    show Steps p.tables e below (T2.setTop (mkF m 5 #[.val (.ref r0)] [(.int (3 : Int32))])) _
    refine XS.ifYes X2.here hx rfl (pc0 := 5) (pc' := 12) rfl (hb hby d12_5) rfl ((if0 _ _).trans (feq (by decide : ¬ ((3 : Int32) = (0 : Int32)))).2) (by decide) (by decide) ?_
    show Steps p.tables e below (T2.setTop (mkF m 12 #[.val (.ref r0)] [])) _
    refine XS.iconst X2.here hx rfl (hb hby d12_12) ?_
    exact retN X2 hx (t := .boolean) Bd.returns (by simp) (hb hby d12_13) hr
  · show Q12_2 Z r0 r1 c2 r3 r4 r5 h0 n0 _ T2.heap _
    rw [e2]
    exact ⟨rfl, N0, rfl⟩
def Q11_3 (Z : State) (r0 : Addr) (r1 : Addr) (r2 : Addr) (c3 : ClassId) (r4 : Addr) (r5 : Addr) (r6 : Addr) (h0 : Heap) (n0 : Nat) (v : Option Value) (h : Heap) (L : List Loc) : Prop := v = some (.int (1 : Int32)) ∧ Fr n0 L ∧ h = h0
set_option maxRecDepth 65536 in
set_option maxHeartbeats 40000000 in
theorem rm11_3 (l : Launch) (Z : State) (a0 : Array Value) (hw : ∀ d ∈ tables_1, d.before a0 Z = true) (ws : List Jvm.Cond) (r0 : Addr) (r1 : Addr) (r2 : Addr) (c3 : ClassId) (r4 : Addr) (r5 : Addr) (r6 : Addr) (h0 : Heap) (n0 : Nat) (O0 : Old Z n0 h0) (f1 : Fld Z h0 r0 cs5 "errors" "Ljava/util/List;" (.ref r1)) (f3 : Exa Z h0 r1 cs7) (f4 : Fld Z h0 r1 cs7 "elements" "[Ljava/lang/Object;" (.ref r2)) (f5 : Arv Z h0 r2 c3 (.object "java/lang/Object") (3 : Int32) [(.ref r4), (.ref r5), (.ref r6)] .null) :
    MetFree l (⟨cs5, "hasErrors", "()Z"⟩ : MethodName) (head1 (Jvm.Cond.code (⟨cs5, "hasErrors", "()Z"⟩ : MethodName) prog_4_method_4_code 1 (some .boolean) :: ws) ({ frames := 1, cells := 0, slots := 0, locals := 12 } : Room)) (fun a U => a = #[(.ref r0)] ∧ Z.Warmed39 U.vm ∧ U.heap = h0) (fun _ _ _ _ _ => True) (fun _ U o U' => ∃ v L, o = .returned v ∧ Q11_3 Z r0 r1 r2 c3 r4 r5 r6 h0 n0 v U'.heap L ∧ FrameEnd U o U' L ({ frames := 1, cells := 0, slots := 0, locals := 12 } : Room).cells ({ frames := 1, cells := 0, slots := 0, locals := 12 } : Room).slots) := by
  refine MetFree.of_bodySF (plainFor_of_name pn_com_example_weaverbird_weaverbird_bind_Binding) hisR ?_
  intro p e s m args below meth c s₁ Bd hml0 hP hK
  obtain ⟨rfl, hZ, hh⟩ := hP
  have hx := Bd.exec
  have hby := Bd.bytes
  have hml : c.maxLocals = 1 := hml0
  have hown : s.vm.findClass cs5 = some m.cls := findClass_of_methodNamed Bd.named
  have hnm := (name_of_methodNamed Bd.named Bd.method).1
  have X0 : Stand p l e ({ frames := 1, cells := 0, slots := 0, locals := 12 } : Room) s m #[(.ref r0)] below meth c s₁ [] 0 0 := Stand.of_body Bd
  have e0 : s₁.heap = h0 := by rw [← hh, Bd.state]; rfl
  have N0 := Fr.nil n0
  have pre0 : ∀ t, Steps p.tables e below (s₁.setTop (mkF m 0 #[.val (.ref r0)] [])) t → Steps p.tables e below (s₁.setTop (entryFrame m #[(.ref r0)] 1)) t := fun t k => castTop (by first | (simp [entryFrame, mkF, argsToLocals, Value.category]; done) | rfl) k
  obtain ⟨T2, X2, e2, st2⟩ := getF X0 hx hZ hown (host := "") (Or.inl (ww hw 71 rfl)) Via.refl e0 f1 (g := (mkF m 1 #[.val (.ref r0)] [(.ref r0)])) rfl rfl (hb hby d11_1)
  obtain ⟨cqq7, kqq7, qq7a, qq7b, qq7c⟩ := isOf hZ e2 f3
  obtain ⟨_, _, ⟨T6, L6, k6, n6⟩, -, X6, ⟨Lc6, hQ6, l6, y6, z6⟩, st6⟩ := X2.interfaceBack hx (xi := (⟨"java/util/List", "isEmpty", "()Z"⟩ : MethodName)) (y := (⟨cs7, "isEmpty", "()Z"⟩ : MethodName)) hown (mvT hZ (ww hw 78 rfl)) (mvT hZ (ww hw 79 rfl)) (mvT hZ (ww hw 80 rfl)) (mvT hZ (ww hw 81 rfl)) (mvT hZ (ww hw 82 rfl)) (mvT hZ (ww hw 83 rfl)) (mvT hZ (ww hw 84 rfl)) (mvT hZ (ww hw 85 rfl)) (by decide) (backOf (W := 0) (rm12_2 l Z a0 hw [] r1 r2 c3 r4 r5 r6 h0 n0 O0 f4 f5) hZ (ww hw 87 rfl) (ww hw 86 rfl) (by decide) (by decide)) qq7a qq7b qq7c (g := (mkF m 4 #[.val (.ref r0)] [(.ref r1)])) rfl (by rw [hml]; rfl) (Steps.refl _) (argsL := []) (rest := []) (lenOf pd___Z rfl) rfl (by show 2 * 0 + _ ≤ _; exact Nat.le_of_eq rfl) (hb hby d11_4) (fun _ _ => ⟨rfl, e2, (by decide : 0 + 0 ≤ _), (by decide : 0 + 0 ≤ _)⟩)
  dsimp only [Pt.U, Pt.locs, Pt.cells, Pt.slots] at X6 l6 y6 z6 st6 hQ6
  subst l6 y6 z6
  obtain ⟨rfl, N6q, E6⟩ := hQ6
  have N6 := Fr.app N0 N6q
  obtain ⟨fs, hr, hrun, hended, hW, hsame⟩ := X6.leave (v := some (.int (1 : Int32))) (fun h => by rw [Bd.returns] at h; cases h)
  refine ⟨_, _, pre0 _ ?_, hrun, hended, _, _, rfl, ?_, ⟨_, rfl⟩, hW, hsame.mono (by decide) (by decide)⟩
  · show Steps p.tables e below (s₁.setTop (mkF m 0 #[.val (.ref r0)] [])) _
    refine XS.aloadN X0.here hx rfl (hb hby d11_0) rfl rfl ?_
    refine st2 _ ?_
    show Steps p.tables e below (T2.setTop (mkF m 4 #[.val (.ref r0)] [(.ref r1)])) _
    refine st6.trans ?_
    show Steps p.tables e below (T6.setTop (mkF m 9 #[.val (.ref r0)] [(.int (0 : Int32))])) _
    refine XS.ifNo X6.here hx rfl (hb hby d11_9) rfl ((if0 _ _).trans (teq (rfl : (0 : Int32) = (0 : Int32))).2) ?_
    refine XS.iconst X6.here hx rfl (hb hby d11_12) ?_
    refine XS.goto X6.here hx rfl (pc0 := 13) (pc' := 17) rfl (hb hby d11_13) (by decide) (by decide) ?_
    show Steps p.tables e below (T6.setTop (mkF m 17 #[.val (.ref r0)] [(.int (1 : Int32))])) _
    exact retN X6 hx (t := .boolean) Bd.returns (by simp) (hb hby d11_17) hr
  · show Q11_3 Z r0 r1 r2 c3 r4 r5 r6 h0 n0 _ T6.heap _
    rw [E6]
    exact ⟨rfl, N6, rfl⟩
def Q14_2 (Z : State) (r0 : Addr) (r1 : Addr) (c2 : ClassId) (r3 : Addr) (r4 : Addr) (r5 : Addr) (h0 : Heap) (n0 : Nat) (v : Option Value) (h : Heap) (L : List Loc) : Prop := v = some (.int (3 : Int32)) ∧ Fr n0 L ∧ h = h0
set_option maxRecDepth 65536 in
set_option maxHeartbeats 40000000 in
theorem rm14_2 (l : Launch) (Z : State) (a0 : Array Value) (hw : ∀ d ∈ tables_1, d.before a0 Z = true) (ws : List Jvm.Cond) (r0 : Addr) (r1 : Addr) (c2 : ClassId) (r3 : Addr) (r4 : Addr) (r5 : Addr) (h0 : Heap) (n0 : Nat) (O0 : Old Z n0 h0) (f1 : Fld Z h0 r0 cs7 "elements" "[Ljava/lang/Object;" (.ref r1)) (f3 : Arv Z h0 r1 c2 (.object "java/lang/Object") (3 : Int32) [(.ref r3), (.ref r4), (.ref r5)] .null) :
    MetFree l (⟨cs7, "size", "()I"⟩ : MethodName) (head1 (Jvm.Cond.code (⟨cs7, "size", "()I"⟩ : MethodName) jdk_45_method_3_code 1 (some .int) :: ws) ({ frames := 0, cells := 0, slots := 0, locals := 0 } : Room)) (fun a U => a = #[(.ref r0)] ∧ Z.Warmed39 U.vm ∧ U.heap = h0) (fun _ _ _ _ _ => True) (fun _ U o U' => ∃ v L, o = .returned v ∧ Q14_2 Z r0 r1 c2 r3 r4 r5 h0 n0 v U'.heap L ∧ FrameEnd U o U' L ({ frames := 0, cells := 0, slots := 0, locals := 0 } : Room).cells ({ frames := 0, cells := 0, slots := 0, locals := 0 } : Room).slots) := by
  refine MetFree.of_bodySF (plainFor_of_name pn_java_util_ImmutableCollections_ListN) hisR ?_
  intro p e s m args below meth c s₁ Bd hml0 hP hK
  obtain ⟨rfl, hZ, hh⟩ := hP
  have hx := Bd.exec
  have hby := Bd.bytes
  have hml : c.maxLocals = 1 := hml0
  have hown : s.vm.findClass cs7 = some m.cls := findClass_of_methodNamed Bd.named
  have hnm := (name_of_methodNamed Bd.named Bd.method).1
  have X0 : Stand p l e ({ frames := 0, cells := 0, slots := 0, locals := 0 } : Room) s m #[(.ref r0)] below meth c s₁ [] 0 0 := Stand.of_body Bd
  have e0 : s₁.heap = h0 := by rw [← hh, Bd.state]; rfl
  have N0 := Fr.nil n0
  have pre0 : ∀ t, Steps p.tables e below (s₁.setTop (mkF m 0 #[.val (.ref r0)] [])) t → Steps p.tables e below (s₁.setTop (entryFrame m #[(.ref r0)] 1)) t := fun t k => castTop (by first | (simp [entryFrame, mkF, argsToLocals, Value.category]; done) | rfl) k
  obtain ⟨T2, X2, e2, st2⟩ := getF X0 hx hZ hown (host := "") (Or.inl (ww hw 88 rfl)) Via.refl e0 f1 (g := (mkF m 1 #[.val (.ref r0)] [(.ref r0)])) rfl rfl (hb hby d14_1)
  obtain ⟨clq4, Arq4, qq4, Sq4, Nq4, Hq4, Gq4⟩ := id f3
  obtain ⟨fs, hr, hrun, hended, hW, hsame⟩ := X2.leave (v := some (.int (3 : Int32))) (fun h => by rw [Bd.returns] at h; cases h)
  refine ⟨_, _, pre0 _ ?_, hrun, hended, _, _, rfl, ?_, ⟨_, rfl⟩, hW, hsame.mono (by decide) (by decide)⟩
  · show Steps p.tables e below (s₁.setTop (mkF m 0 #[.val (.ref r0)] [])) _
    refine XS.aloadN X0.here hx rfl (hb hby d14_0) rfl rfl ?_
    refine st2 _ ?_
    show Steps p.tables e below (T2.setTop (mkF m 4 #[.val (.ref r0)] [(.ref r1)])) _
    refine X2.arraylength hx (by rw [e2]; exact Arq4.1) (State.isArrayOf_alike hZ.alike Arq4.2.1) (g := (mkF m 4 #[.val (.ref r0)] [(.ref r1)])) rfl rfl (hb hby d14_4) _ ?_
    rw [len_of Sq4 Nq4]
    show Steps p.tables e below (T2.setTop (mkF m 5 #[.val (.ref r0)] [(.int (3 : Int32))])) _
    exact retOut X2 hx (i := .ireturn) Bd.returns rfl (Or.inl ⟨rfl, Or.inl rfl, _, rfl⟩) (hb hby d14_5) hr
  · show Q14_2 Z r0 r1 c2 r3 r4 r5 h0 n0 _ T2.heap _
    rw [e2]
    exact ⟨rfl, N0, rfl⟩
def Q0_7 (Z : State) (x0 : Int32) (x1 : Int32) (x2 : Int32) (r3 : Addr) (c4 : ClassId) (r5 : Addr) (h0 : Heap) (n0 : Nat) (v : Option Value) (h : Heap) (L : List Loc) : Prop := v = some (.int (1 : Int32)) ∧ Fr n0 L
set_option maxRecDepth 65536 in
set_option maxHeartbeats 40000000 in
theorem rm0_7 (l : Launch) (Z : State) (a0 : Array Value) (hw : ∀ d ∈ tables_1, d.before a0 Z = true) (ws : List Jvm.Cond) (x0 : Int32) (x1 : Int32) (x2 : Int32) (r3 : Addr) (c4 : ClassId) (r5 : Addr) (h0 : Heap) (n0 : Nat) (O0 : Old Z n0 h0) (hc1 : (x0 &&& (3 : Int32)) = (3 : Int32)) (hc2 : ¬ ((x2 &&& (1 : Int32)) = (0 : Int32))) (f9 : Sta Z Z.heap "java/util/ArrayList" cs1 "[Ljava/lang/Object;" (.ref r3)) (f49 : Arv Z Z.heap r3 c4 (.object "java/lang/Object") (0 : Int32) [] .null) (f189 : own_Mir Z "[Ljava/lang/Object;" r5) :
    MetFree l x (head1 (Jvm.Cond.code x code maxLocals ret :: ws) room_1) (fun a U => a = #[(.int x0), (.int x1), (.int x2)] ∧ Z.Warmed39 U.vm ∧ U.heap = h0) (fun _ _ _ _ _ => True) (fun _ U o U' => ∃ v L, o = .returned v ∧ Q0_7 Z x0 x1 x2 r3 c4 r5 h0 n0 v U'.heap L ∧ ReturnedEndW U o U' L room_1.cells room_1.slots) := by
  refine MetFree.of_bodySF (plainFor_of_name pn_com_example_weaverbird_weaverbird_bind_BindingHasErrorsPinLaw) hisR ?_
  intro p e s m args below meth c s₁ Bd hml0 hP hK
  obtain ⟨rfl, hZ, hh⟩ := hP
  have hx := Bd.exec
  have hby := Bd.bytes
  have hml : c.maxLocals = 10 := hml0
  have hown : s.vm.findClass cs8 = some m.cls := findClass_of_methodNamed Bd.named
  have hnm := (name_of_methodNamed Bd.named Bd.method).1
  have X0 : Stand p l e room_1 s m #[(.int x0), (.int x1), (.int x2)] below meth c s₁ [] 0 0 := Stand.of_body Bd
  have e0 : s₁.heap = h0 := by rw [← hh, Bd.state]; rfl
  have N0 := Fr.nil n0
  have pre0 : ∀ t, Steps p.tables e below (s₁.setTop (mkF m 0 #[.val (.int x0), .val (.int x1), .val (.int x2), .unset, .unset, .unset, .unset, .unset, .unset, .unset] [])) t → Steps p.tables e below (s₁.setTop (entryFrame m #[(.int x0), (.int x1), (.int x2)] maxLocals)) t := fun t k => castTop (by first | (simp [entryFrame, mkF, argsToLocals, Value.category, maxLocals]; done) | rfl) k
  obtain ⟨T3, h3, X3, e3, E3, A3, D3, -, st3⟩ := newO X0 hx hZ hown (ww hw 7 rfl) (ww hw 8 rfl) (ww hw 9 rfl) e0 (g := (mkF m 32 #[.val (.int x0), .val (.int x1), .val (.int x2), .val (.int (3 : Int32)), .val (.int (1 : Int32)), .val .null, .unset, .unset, .unset, .unset] [])) rfl (hb hby at_32) (by decide) (by decide)
  obtain ⟨b3, g3⟩ : ∃ z, z = h0.size := ⟨_, rfl⟩
  rw [← g3] at A3 D3 st3
  have f4 : Fld Z h3 b3 "java/util/AbstractList" "modCount" "I" (.int (0 : Int32)) := D3 (Or.inl (ww hw 29 rfl)) (ty := .int) (by decide)
  have f5 : Fld Z h3 b3 "java/util/ArrayList" "elementData" "[Ljava/lang/Object;" .null := D3 (Or.inl (ww hw 32 rfl)) (ty := (.array (.object "java/lang/Object"))) (by decide)
  have f6 : Fld Z h3 b3 "java/util/ArrayList" "size" "I" (.int (0 : Int32)) := D3 (Or.inl (ww hw 66 rfl)) (ty := .int) (by decide)
  have zz7 : n0 ≤ h0.size := by rw [← O0.1]; exact O0.2.1
  have g8 := Nat.le_trans zz7 (Nat.le_of_eq g3.symm)
  have o10 := Old.ext O0 E3
  obtain ⟨_, _, ⟨T11, L11, k11, n11⟩, -, X11, ⟨Lc11, hQ11, l11, y11, z11⟩, st11⟩ := X3.specialBack hx (y := (⟨"java/util/ArrayList", "<init>", "()V"⟩ : MethodName)) rfl hown (mvT hZ (ww hw 10 rfl)) (mvT hZ (ww hw 11 rfl)) (mvT hZ (ww hw 12 rfl)) (by decide) (backOf (W := 1) (rm2_1 l Z a0 hw [] b3 r3 h3 n0 o10 A3 f4 g8 f5 f6 f9) hZ (ww hw 12 rfl) (ww hw 9 rfl) (by decide) (by decide)) (g := (mkF m 36 #[.val (.int x0), .val (.int x1), .val (.int x2), .val (.int (3 : Int32)), .val (.int (1 : Int32)), .val .null, .unset, .unset, .unset, .unset] [(.ref b3), (.ref b3)])) rfl (by rw [hml]; rfl) (Steps.refl _) (a := b3) (argsL := []) (rest := [(.ref b3)]) (lenOf pd___V rfl) rfl (by show 2 * 0 + _ ≤ _; exact Nat.le_of_eq rfl) (hb hby at_36) (fun _ _ => ⟨rfl, e3, (by decide : 1 + 0 ≤ _), (by decide : 3 + 0 ≤ _)⟩)
  dsimp only [Pt.U, Pt.locs, Pt.cells, Pt.slots] at X11 l11 y11 z11 st11 hQ11
  subst l11 y11 z11
  obtain ⟨rfl, N11q, K11, f12, f13, f14⟩ := hQ11
  have N11 := Fr.app N0 N11q
  obtain ⟨T15, h15, X15, e15, E15, A15, D15, -, st15⟩ := newO X11 hx hZ hown (ww hw 103 rfl) (ww hw 104 rfl) (ww hw 105 rfl) rfl (g := (mkF m 48 #[.val (.int x0), .val (.int x1), .val (.int x2), .val (.int (3 : Int32)), .val (.int (1 : Int32)), .val .null, .val (.ref b3), .unset, .unset, .unset] [(.ref b3)])) rfl (hb hby at_48) (by decide) (by decide)
  obtain ⟨b15, g15⟩ : ∃ z, z = T11.heap.size := ⟨_, rfl⟩
  rw [← g15] at A15 D15 st15
  have f16 : Fld Z h15 b15 cs10 "path" "Ljava/lang/String;" .null := D15 (Or.inr (ww hw 122 rfl)) (ty := (.object "java/lang/String")) (by decide)
  have f17 : Fld Z h15 b15 cs10 "code" "Ljava/lang/String;" .null := D15 (Or.inr (ww hw 124 rfl)) (ty := (.object "java/lang/String")) (by decide)
  have f18 : Fld Z h15 b15 cs10 "rejected" "Ljava/lang/String;" .null := D15 (Or.inr (ww hw 126 rfl)) (ty := (.object "java/lang/String")) (by decide)
  have f19 : Fld Z h15 b15 cs10 "message" "Ljava/lang/String;" .null := D15 (Or.inr (ww hw 128 rfl)) (ty := (.object "java/lang/String")) (by decide)
  have hS20 := (State.WarmedH.refl s).since 0
  have hstr : ∀ a ∈ Bundle.stringAtoms, a.before a0 Z = true := fun a q => hw a (own_str a q)
  obtain ⟨a21, T21, h21, kk21, X21, e21, E21, hS21, hk21, hZ21, ho21, st21⟩ := ldcS (s := s) (vm0 := s.vm) X15 hx hZ hown (ww hw 106 rfl) hstr e15 hS20 (Nat.zero_le _) (g := (mkF m 52 #[.val (.int x0), .val (.int x1), .val (.int x2), .val (.int (3 : Int32)), .val (.int (1 : Int32)), .val .null, .val (.ref b3), .unset, .unset, .unset] [(.ref b15), (.ref b15), (.ref b3)])) rfl (hb hby at_52) (n := 4) (by decide) (by decide) (by decide) (by decide)
  obtain ⟨a22, T22, h22, kk22, X22, e22, E22, hS22, hk22, hZ22, ho22, st22⟩ := ldcS (s := s) (vm0 := T21.vm) X21 hx hZ21 ho21 (ww hw 114 rfl) hstr e21 hS21 hk21 (g := (mkF m 54 #[.val (.int x0), .val (.int x1), .val (.int x2), .val (.int (3 : Int32)), .val (.int (1 : Int32)), .val .null, .val (.ref b3), .unset, .unset, .unset] [(.ref a21), (.ref b15), (.ref b15), (.ref b3)])) rfl (hb hby at_54) (n := 32) (by decide) (by decide) (by decide) (by decide)
  obtain ⟨a23, T23, h23, kk23, X23, e23, E23, hS23, hk23, hZ23, ho23, st23⟩ := ldcS (s := s) (vm0 := T22.vm) X22 hx hZ22 ho22 (ww hw 115 rfl) hstr e22 hS22 hk22 (g := (mkF m 56 #[.val (.int x0), .val (.int x1), .val (.int x2), .val (.int (3 : Int32)), .val (.int (1 : Int32)), .val .null, .val (.ref b3), .unset, .unset, .unset] [(.ref a22), (.ref a21), (.ref b15), (.ref b15), (.ref b3)])) rfl (hb hby at_56) (n := 0) (by decide) (by decide) (by decide) (by decide)
  obtain ⟨a24, T24, h24, kk24, X24, e24, E24, hS24, hk24, hZ24, ho24, st24⟩ := ldcS (s := s) (vm0 := T23.vm) X23 hx hZ23 ho23 (ww hw 116 rfl) hstr e23 hS23 hk23 (g := (mkF m 58 #[.val (.int x0), .val (.int x1), .val (.int x2), .val (.int (3 : Int32)), .val (.int (1 : Int32)), .val .null, .val (.ref b3), .unset, .unset, .unset] [(.ref a23), (.ref a22), (.ref a21), (.ref b15), (.ref b15), (.ref b3)])) rfl (hb hby at_58) (n := 4) (by decide) (by decide) (by decide) (by decide)
  have f25 := ((((A15.ext E21).ext E22).ext E23).ext E24)
  have f26 := ((((f16.ext E21).ext E22).ext E23).ext E24)
  have o28 := Old.keep o10 K11 (allS g8 all0)
  have zz27 : n0 ≤ T11.heap.size := by rw [← o28.1]; exact o28.2.1
  have g29 := Nat.le_trans zz27 (Nat.le_of_eq g15.symm)
  have f30 := ((((f17.ext E21).ext E22).ext E23).ext E24)
  have f31 := ((((f18.ext E21).ext E22).ext E23).ext E24)
  have f32 := ((((f19.ext E21).ext E22).ext E23).ext E24)
  have o33 := Old.ext o28 E15
  have o34 := Old.ext o33 E21
  have o35 := Old.ext o34 E22
  have o36 := Old.ext o35 E23
  have o37 := Old.ext o36 E24
  obtain ⟨_, _, ⟨T38, L38, k38, n38⟩, -, X38, ⟨Lc38, hQ38, l38, y38, z38⟩, st38⟩ := X24.specialBack hx (y := (⟨cs10, "<init>", cs11⟩ : MethodName)) rfl ho24 (mvT hZ24 (ww hw 117 rfl)) (mvT hZ24 (ww hw 118 rfl)) (mvT hZ24 (ww hw 119 rfl)) (by decide) (backOf (W := 2) (rm15_1 l Z a0 hw [] b15 a21 a22 a23 a24 h24 n0 o37 f25 f26 g29 f30 f31 f32) hZ24 (ww hw 119 rfl) (ww hw 105 rfl) (by decide) (by decide)) (g := (mkF m 60 #[.val (.int x0), .val (.int x1), .val (.int x2), .val (.int (3 : Int32)), .val (.int (1 : Int32)), .val .null, .val (.ref b3), .unset, .unset, .unset] [(.ref a24), (.ref a23), (.ref a22), (.ref a21), (.ref b15), (.ref b15), (.ref b3)])) rfl (by rw [hml]; rfl) (Steps.refl _) (a := b15) (argsL := [(.ref a21), (.ref a22), (.ref a23), (.ref a24)]) (rest := [(.ref b15), (.ref b3)]) (lenOf pd__Ljava_lang_String_Ljava_lang_String_Ljava_lang_String_Ljava_lang_String__V rfl) rfl (by show 2 * 0 + _ ≤ _; exact Nat.le_of_eq rfl) (hb hby at_60) (fun _ _ => ⟨rfl, e24, (by decide : 10 + 0 ≤ _), (by decide : 63 + 0 ≤ _)⟩)
  dsimp only [Pt.U, Pt.locs, Pt.cells, Pt.slots] at X38 l38 y38 z38 st38 hQ38
  subst l38 y38 z38
  obtain ⟨rfl, N38q, K38, f39, f40, f41, f42⟩ := hQ38
  have N38 := Fr.app N11 N38q
  have zs43 := K11.1
  have n44 := Nat.ne_of_lt (Nat.lt_of_lt_of_le (Nat.lt_of_lt_of_le A3.lt zs43) (Nat.le_of_eq g15.symm))
  have f45 := ((((((f12.ext E15).ext E21).ext E22).ext E23).ext E24).keep K38 (ninS n44 nin0))
  have f46 := (((((((A3.keep K11).ext E15).ext E21).ext E22).ext E23).ext E24).keep K38)
  have f47 := ((((((f13.ext E15).ext E21).ext E22).ext E23).ext E24).keep K38 (ninS n44 nin0))
  have f48 := ((((((f14.ext E15).ext E21).ext E22).ext E23).ext E24).keep K38 (ninS n44 nin0))
  have zs50 := Nat.le_trans zs43 E15.1
  have zs51 := Nat.le_trans zs50 E21.1
  have zs52 := Nat.le_trans zs51 E22.1
  have zs53 := Nat.le_trans zs52 E23.1
  have zs54 := Nat.le_trans zs53 E24.1
  have zs55 := Nat.le_trans zs54 K38.1
  have f56 := (f25.keep K38)
  have o57 := Old.keep o37 K38 (allS g29 all0)
  obtain ⟨cqq59, kqq59, qq59a, qq59b, qq59c⟩ := isOf hZ24 rfl f46
  obtain ⟨_, _, ⟨T58, L58, k58, n58⟩, -, X58, ⟨Lc58, hQ58, l58, y58, z58⟩, st58⟩ := X38.virtualBack hx (y := (⟨"java/util/ArrayList", "add", "(Ljava/lang/Object;)Z"⟩ : MethodName)) (z := (⟨"java/util/ArrayList", "add", "(Ljava/lang/Object;)Z"⟩ : MethodName)) ho24 (mvT hZ24 (ww hw 129 rfl)) (mvT hZ24 (ww hw 130 rfl)) (notFace_of_selects (args := #[]) (mvT hZ24 (ww hw 132 rfl))) (mvT hZ24 (ww hw 132 rfl)) (mvT hZ24 (ww hw 131 rfl)) (by decide) (backOf (W := 0) (rm16_1 l Z a0 hw [] b3 b15 r3 c4 T38.heap n0 o57 f45 f46 g8 f47 f48 f49 f9 (Nat.lt_of_lt_of_le A3.lt zs55) f56) hZ24 (ww hw 133 rfl) (ww hw 9 rfl) (by decide) (by decide)) qq59a qq59c (g := (mkF m 63 #[.val (.int x0), .val (.int x1), .val (.int x2), .val (.int (3 : Int32)), .val (.int (1 : Int32)), .val .null, .val (.ref b3), .unset, .unset, .unset] [(.ref b15), (.ref b3)])) rfl (by rw [hml]; rfl) (Steps.refl _) (argsL := [(.ref b15)]) (rest := []) (lenOf pd__Ljava_lang_Object__Z rfl) rfl (by show 2 * 0 + _ ≤ _; exact Nat.le_of_eq rfl) (hb hby at_63) (fun _ _ => ⟨rfl, rfl, (by decide : 10 + 1 ≤ _), (by decide : 63 + 10 ≤ _)⟩)
  dsimp only [Pt.U, Pt.locs, Pt.cells, Pt.slots] at X58 l58 y58 z58 st58 hQ58
  subst l58 y58 z58
  obtain ⟨b58_0, k58_0, rfl, N58q, K58, f60, f61, f62, f63, f64, f65, f66⟩ := hQ58
  have N58 := Fr.app N38 N58q
  obtain ⟨T67, h67, X67, e67, E67, A67, D67, -, st67⟩ := newO X58 hx hZ24 ho24 (ww hw 103 rfl) (ww hw 104 rfl) (ww hw 105 rfl) rfl (g := (mkF m 74 #[.val (.int x0), .val (.int x1), .val (.int x2), .val (.int (3 : Int32)), .val (.int (1 : Int32)), .val .null, .val (.ref b3), .unset, .unset, .unset] [(.ref b3)])) rfl (hb hby at_74) (by decide) (by decide)
  obtain ⟨b67, g67⟩ : ∃ z, z = T58.heap.size := ⟨_, rfl⟩
  rw [← g67] at A67 D67 st67
  have f68 : Fld Z h67 b67 cs10 "path" "Ljava/lang/String;" .null := D67 (Or.inr (ww hw 122 rfl)) (ty := (.object "java/lang/String")) (by decide)
  have f69 : Fld Z h67 b67 cs10 "code" "Ljava/lang/String;" .null := D67 (Or.inr (ww hw 124 rfl)) (ty := (.object "java/lang/String")) (by decide)
  have f70 : Fld Z h67 b67 cs10 "rejected" "Ljava/lang/String;" .null := D67 (Or.inr (ww hw 126 rfl)) (ty := (.object "java/lang/String")) (by decide)
  have f71 : Fld Z h67 b67 cs10 "message" "Ljava/lang/String;" .null := D67 (Or.inr (ww hw 128 rfl)) (ty := (.object "java/lang/String")) (by decide)
  have zs73 := K38.1
  have zs74 := Nat.le_trans zs73 K58.1
  have zs75 := Nat.le_trans zs74 E67.1
  obtain ⟨a72, T72, h72, kk72, X72, e72, E72, hS72, hk72, hZ72, ho72, st72⟩ := ldcS (s := s) (vm0 := T24.vm) X67 hx hZ24 ho24 (ww hw 232 rfl) hstr e67 hS24 (Nat.le_trans hk24 zs75) (g := (mkF m 78 #[.val (.int x0), .val (.int x1), .val (.int x2), .val (.int (3 : Int32)), .val (.int (1 : Int32)), .val .null, .val (.ref b3), .unset, .unset, .unset] [(.ref b67), (.ref b67), (.ref b3)])) rfl (hb hby at_78) (n := 4) (by decide) (by decide) (by decide) (by decide)
  obtain ⟨a76, T76, h76, kk76, X76, e76, E76, hS76, hk76, hZ76, ho76, st76⟩ := ldcS (s := s) (vm0 := T72.vm) X72 hx hZ72 ho72 (ww hw 233 rfl) hstr e72 hS72 hk72 (g := (mkF m 80 #[.val (.int x0), .val (.int x1), .val (.int x2), .val (.int (3 : Int32)), .val (.int (1 : Int32)), .val .null, .val (.ref b3), .unset, .unset, .unset] [(.ref a72), (.ref b67), (.ref b67), (.ref b3)])) rfl (hb hby at_80) (n := 20) (by decide) (by decide) (by decide) (by decide)
  obtain ⟨a77, T77, h77, kk77, X77, e77, E77, hS77, hk77, hZ77, ho77, st77⟩ := ldcS (s := s) (vm0 := T76.vm) X76 hx hZ76 ho76 (ww hw 116 rfl) hstr e76 hS76 hk76 (g := (mkF m 83 #[.val (.int x0), .val (.int x1), .val (.int x2), .val (.int (3 : Int32)), .val (.int (1 : Int32)), .val .null, .val (.ref b3), .unset, .unset, .unset] [.null, (.ref a76), (.ref a72), (.ref b67), (.ref b67), (.ref b3)])) rfl (hb hby at_83) (n := 4) (by decide) (by decide) (by decide) (by decide)
  have f78 := (((A67.ext E72).ext E76).ext E77)
  have f79 := (((f68.ext E72).ext E76).ext E77)
  have o81 := Old.keep o57 K58 (allS g8 all0)
  have zz80 : n0 ≤ T58.heap.size := by rw [← o81.1]; exact o81.2.1
  have g82 := Nat.le_trans zz80 (Nat.le_of_eq g67.symm)
  have f83 := (((f69.ext E72).ext E76).ext E77)
  have f84 := (((f70.ext E72).ext E76).ext E77)
  have f85 := (((f71.ext E72).ext E76).ext E77)
  have o86 := Old.ext o81 E67
  have o87 := Old.ext o86 E72
  have o88 := Old.ext o87 E76
  have o89 := Old.ext o88 E77
  obtain ⟨_, _, ⟨T90, L90, k90, n90⟩, -, X90, ⟨Lc90, hQ90, l90, y90, z90⟩, st90⟩ := X77.specialBack hx (y := (⟨cs10, "<init>", cs11⟩ : MethodName)) rfl ho77 (mvT hZ77 (ww hw 117 rfl)) (mvT hZ77 (ww hw 118 rfl)) (mvT hZ77 (ww hw 119 rfl)) (by decide) (backOf (W := 2) (rm15_2 l Z a0 hw [] b67 a72 a76 a77 h77 n0 o89 f78 f79 g82 f83 f84 f85) hZ77 (ww hw 119 rfl) (ww hw 105 rfl) (by decide) (by decide)) (g := (mkF m 85 #[.val (.int x0), .val (.int x1), .val (.int x2), .val (.int (3 : Int32)), .val (.int (1 : Int32)), .val .null, .val (.ref b3), .unset, .unset, .unset] [(.ref a77), .null, (.ref a76), (.ref a72), (.ref b67), (.ref b67), (.ref b3)])) rfl (by rw [hml]; rfl) (Steps.refl _) (a := b67) (argsL := [(.ref a72), (.ref a76), .null, (.ref a77)]) (rest := [(.ref b67), (.ref b3)]) (lenOf pd__Ljava_lang_String_Ljava_lang_String_Ljava_lang_String_Ljava_lang_String__V rfl) rfl (by show 2 * 0 + _ ≤ _; exact Nat.le_of_eq rfl) (hb hby at_85) (fun _ _ => ⟨rfl, e77, (by decide : 18 + 0 ≤ _), (by decide : 117 + 0 ≤ _)⟩)
  dsimp only [Pt.U, Pt.locs, Pt.cells, Pt.slots] at X90 l90 y90 z90 st90 hQ90
  subst l90 y90 z90
  obtain ⟨rfl, N90q, K90, f91, f92, f93, f94⟩ := hQ90
  have N90 := Fr.app N58 N90q
  have zs95 := Nat.le_trans zs55 K58.1
  have n96 := Nat.ne_of_lt (Nat.lt_of_lt_of_le (Nat.lt_of_lt_of_le A3.lt zs95) (Nat.le_of_eq g67.symm))
  have f97 := (((((f62.ext E67).ext E72).ext E76).ext E77).keep K90 (ninS n96 nin0))
  have f98 := ((((((f46.keep K58).ext E67).ext E72).ext E76).ext E77).keep K90)
  have f99 := (((((f60.ext E67).ext E72).ext E76).ext E77).keep K90 (ninS n96 nin0))
  have f100 := (((((f61.ext E67).ext E72).ext E76).ext E77).keep K90 (ninS n96 nin0))
  have n101 := Nat.ne_of_lt (Nat.lt_of_lt_of_le f64.lt (Nat.le_of_eq g67.symm))
  have f102 := (((((f64.ext E67).ext E72).ext E76).ext E77).keep K90 (ninS n101 nin0))
  have n103 := Nat.ne_of_lt (Nat.lt_of_lt_of_le (Nat.lt_of_lt_of_le A3.lt zs55) f63)
  have f104 := (f78.keep K90)
  have zz105 : n0 ≤ T38.heap.size := by rw [← o57.1]; exact o57.2.1
  have g106 := Nat.le_trans zz105 f63
  have o107 := Old.keep o89 K90 (allS g82 all0)
  obtain ⟨cqq109, kqq109, qq109a, qq109b, qq109c⟩ := isOf hZ77 rfl f98
  obtain ⟨_, _, ⟨T108, L108, k108, n108⟩, -, X108, ⟨Lc108, hQ108, l108, y108, z108⟩, st108⟩ := X90.virtualBack hx (y := (⟨"java/util/ArrayList", "add", "(Ljava/lang/Object;)Z"⟩ : MethodName)) (z := (⟨"java/util/ArrayList", "add", "(Ljava/lang/Object;)Z"⟩ : MethodName)) ho77 (mvT hZ77 (ww hw 129 rfl)) (mvT hZ77 (ww hw 130 rfl)) (notFace_of_selects (args := #[]) (mvT hZ77 (ww hw 132 rfl))) (mvT hZ77 (ww hw 132 rfl)) (mvT hZ77 (ww hw 131 rfl)) (by decide) (backOf (W := 0) (rm16_2 l Z a0 hw [] b3 b67 b58_0 k58_0 b15 T90.heap n0 o107 f97 f98 g8 f99 f100 f102 (Ne.symm n103) f66 f104 g106) hZ77 (ww hw 133 rfl) (ww hw 9 rfl) (by decide) (by decide)) qq109a qq109c (g := (mkF m 88 #[.val (.int x0), .val (.int x1), .val (.int x2), .val (.int (3 : Int32)), .val (.int (1 : Int32)), .val .null, .val (.ref b3), .unset, .unset, .unset] [(.ref b67), (.ref b3)])) rfl (by rw [hml]; rfl) (Steps.refl _) (argsL := [(.ref b67)]) (rest := []) (lenOf pd__Ljava_lang_Object__Z rfl) rfl (by show 2 * 0 + _ ≤ _; exact Nat.le_of_eq rfl) (hb hby at_88) (fun _ _ => ⟨rfl, rfl, (by decide : 18 + 0 ≤ _), (by decide : 117 + 0 ≤ _)⟩)
  dsimp only [Pt.U, Pt.locs, Pt.cells, Pt.slots] at X108 l108 y108 z108 st108 hQ108
  subst l108 y108 z108
  obtain ⟨rfl, N108q, K108, f110, f111, f112, f113⟩ := hQ108
  have N108 := Fr.app N90 N108q
  obtain ⟨T114, h114, X114, e114, E114, A114, D114, -, st114⟩ := newO X108 hx hZ77 ho77 (ww hw 103 rfl) (ww hw 104 rfl) (ww hw 105 rfl) rfl (g := (mkF m 99 #[.val (.int x0), .val (.int x1), .val (.int x2), .val (.int (3 : Int32)), .val (.int (1 : Int32)), .val .null, .val (.ref b3), .unset, .unset, .unset] [(.ref b3)])) rfl (hb hby at_99) (by decide) (by decide)
  obtain ⟨b114, g114⟩ : ∃ z, z = T108.heap.size := ⟨_, rfl⟩
  rw [← g114] at A114 D114 st114
  have f115 : Fld Z h114 b114 cs10 "path" "Ljava/lang/String;" .null := D114 (Or.inr (ww hw 122 rfl)) (ty := (.object "java/lang/String")) (by decide)
  have f116 : Fld Z h114 b114 cs10 "code" "Ljava/lang/String;" .null := D114 (Or.inr (ww hw 124 rfl)) (ty := (.object "java/lang/String")) (by decide)
  have f117 : Fld Z h114 b114 cs10 "rejected" "Ljava/lang/String;" .null := D114 (Or.inr (ww hw 126 rfl)) (ty := (.object "java/lang/String")) (by decide)
  have f118 : Fld Z h114 b114 cs10 "message" "Ljava/lang/String;" .null := D114 (Or.inr (ww hw 128 rfl)) (ty := (.object "java/lang/String")) (by decide)
  have zs120 := K90.1
  have zs121 := Nat.le_trans zs120 K108.1
  have zs122 := Nat.le_trans zs121 E114.1
  obtain ⟨a119, T119, h119, kk119, X119, e119, E119, hS119, hk119, hZ119, ho119, st119⟩ := ldcS (s := s) (vm0 := T77.vm) X114 hx hZ77 ho77 (ww hw 115 rfl) hstr e114 hS77 (Nat.le_trans hk77 zs122) (g := (mkF m 103 #[.val (.int x0), .val (.int x1), .val (.int x2), .val (.int (3 : Int32)), .val (.int (1 : Int32)), .val .null, .val (.ref b3), .unset, .unset, .unset] [(.ref b114), (.ref b114), (.ref b3)])) rfl (hb hby at_103) (n := 0) (by decide) (by decide) (by decide) (by decide)
  obtain ⟨a123, T123, h123, kk123, X123, e123, E123, hS123, hk123, hZ123, ho123, st123⟩ := ldcS (s := s) (vm0 := T119.vm) X119 hx hZ119 ho119 (ww hw 234 rfl) hstr e119 hS119 hk119 (g := (mkF m 105 #[.val (.int x0), .val (.int x1), .val (.int x2), .val (.int (3 : Int32)), .val (.int (1 : Int32)), .val .null, .val (.ref b3), .unset, .unset, .unset] [(.ref a119), (.ref b114), (.ref b114), (.ref b3)])) rfl (hb hby at_105) (n := 36) (by decide) (by decide) (by decide) (by decide)
  obtain ⟨a124, T124, h124, kk124, X124, e124, E124, hS124, hk124, hZ124, ho124, st124⟩ := ldcS (s := s) (vm0 := T123.vm) X123 hx hZ123 ho123 (ww hw 235 rfl) hstr e123 hS123 hk123 (g := (mkF m 107 #[.val (.int x0), .val (.int x1), .val (.int x2), .val (.int (3 : Int32)), .val (.int (1 : Int32)), .val .null, .val (.ref b3), .unset, .unset, .unset] [(.ref a123), (.ref a119), (.ref b114), (.ref b114), (.ref b3)])) rfl (hb hby at_107) (n := 4) (by decide) (by decide) (by decide) (by decide)
  obtain ⟨a125, T125, h125, kk125, X125, e125, E125, hS125, hk125, hZ125, ho125, st125⟩ := ldcS (s := s) (vm0 := T124.vm) X124 hx hZ124 ho124 (ww hw 116 rfl) hstr e124 hS124 hk124 (g := (mkF m 109 #[.val (.int x0), .val (.int x1), .val (.int x2), .val (.int (3 : Int32)), .val (.int (1 : Int32)), .val .null, .val (.ref b3), .unset, .unset, .unset] [(.ref a124), (.ref a123), (.ref a119), (.ref b114), (.ref b114), (.ref b3)])) rfl (hb hby at_109) (n := 4) (by decide) (by decide) (by decide) (by decide)
  have f126 := ((((A114.ext E119).ext E123).ext E124).ext E125)
  have f127 := ((((f115.ext E119).ext E123).ext E124).ext E125)
  have o129 := Old.keep o107 K108 (allS g8 (allS g106 all0))
  have zz128 : n0 ≤ T108.heap.size := by rw [← o129.1]; exact o129.2.1
  have g130 := Nat.le_trans zz128 (Nat.le_of_eq g114.symm)
  have f131 := ((((f116.ext E119).ext E123).ext E124).ext E125)
  have f132 := ((((f117.ext E119).ext E123).ext E124).ext E125)
  have f133 := ((((f118.ext E119).ext E123).ext E124).ext E125)
  have o134 := Old.ext o129 E114
  have o135 := Old.ext o134 E119
  have o136 := Old.ext o135 E123
  have o137 := Old.ext o136 E124
  have o138 := Old.ext o137 E125
  obtain ⟨_, _, ⟨T139, L139, k139, n139⟩, -, X139, ⟨Lc139, hQ139, l139, y139, z139⟩, st139⟩ := X125.specialBack hx (y := (⟨cs10, "<init>", cs11⟩ : MethodName)) rfl ho125 (mvT hZ125 (ww hw 117 rfl)) (mvT hZ125 (ww hw 118 rfl)) (mvT hZ125 (ww hw 119 rfl)) (by decide) (backOf (W := 2) (rm15_1 l Z a0 hw [] b114 a119 a123 a124 a125 h125 n0 o138 f126 f127 g130 f131 f132 f133) hZ125 (ww hw 119 rfl) (ww hw 105 rfl) (by decide) (by decide)) (g := (mkF m 111 #[.val (.int x0), .val (.int x1), .val (.int x2), .val (.int (3 : Int32)), .val (.int (1 : Int32)), .val .null, .val (.ref b3), .unset, .unset, .unset] [(.ref a125), (.ref a124), (.ref a123), (.ref a119), (.ref b114), (.ref b114), (.ref b3)])) rfl (by rw [hml]; rfl) (Steps.refl _) (a := b114) (argsL := [(.ref a119), (.ref a123), (.ref a124), (.ref a125)]) (rest := [(.ref b114), (.ref b3)]) (lenOf pd__Ljava_lang_String_Ljava_lang_String_Ljava_lang_String_Ljava_lang_String__V rfl) rfl (by show 2 * 0 + _ ≤ _; exact Nat.le_of_eq rfl) (hb hby at_111) (fun _ _ => ⟨rfl, e125, (by decide : 27 + 0 ≤ _), (by decide : 181 + 0 ≤ _)⟩)
  dsimp only [Pt.U, Pt.locs, Pt.cells, Pt.slots] at X139 l139 y139 z139 st139 hQ139
  subst l139 y139 z139
  obtain ⟨rfl, N139q, K139, f140, f141, f142, f143⟩ := hQ139
  have N139 := Fr.app N108 N139q
  have zs144 := Nat.le_trans zs95 E67.1
  have zs145 := Nat.le_trans zs144 E72.1
  have zs146 := Nat.le_trans zs145 E76.1
  have zs147 := Nat.le_trans zs146 E77.1
  have zs148 := Nat.le_trans zs147 K90.1
  have zs149 := Nat.le_trans zs148 K108.1
  have n150 := Nat.ne_of_lt (Nat.lt_of_lt_of_le (Nat.lt_of_lt_of_le A3.lt zs149) (Nat.le_of_eq g114.symm))
  have f151 := ((((((f111.ext E114).ext E119).ext E123).ext E124).ext E125).keep K139 (ninS n150 nin0))
  have f152 := (((((((f98.keep K108).ext E114).ext E119).ext E123).ext E124).ext E125).keep K139)
  have f153 := ((((((f112.ext E114).ext E119).ext E123).ext E124).ext E125).keep K139 (ninS n150 nin0))
  have f154 := ((((((f110.ext E114).ext E119).ext E123).ext E124).ext E125).keep K139 (ninS n150 nin0))
  have zs155 := E67.1
  have zs156 := Nat.le_trans zs155 E72.1
  have zs157 := Nat.le_trans zs156 E76.1
  have zs158 := Nat.le_trans zs157 E77.1
  have zs159 := Nat.le_trans zs158 K90.1
  have zs160 := Nat.le_trans zs159 K108.1
  have n161 := Nat.ne_of_lt (Nat.lt_of_lt_of_le (Nat.lt_of_lt_of_le f64.lt zs160) (Nat.le_of_eq g114.symm))
  have f162 := ((((((f113.ext E114).ext E119).ext E123).ext E124).ext E125).keep K139 (ninS n161 nin0))
  have f163 := (f126.keep K139)
  have o164 := Old.keep o138 K139 (allS g130 all0)
  obtain ⟨cqq166, kqq166, qq166a, qq166b, qq166c⟩ := isOf hZ125 rfl f152
  obtain ⟨_, _, ⟨T165, L165, k165, n165⟩, -, X165, ⟨Lc165, hQ165, l165, y165, z165⟩, st165⟩ := X139.virtualBack hx (y := (⟨"java/util/ArrayList", "add", "(Ljava/lang/Object;)Z"⟩ : MethodName)) (z := (⟨"java/util/ArrayList", "add", "(Ljava/lang/Object;)Z"⟩ : MethodName)) ho125 (mvT hZ125 (ww hw 129 rfl)) (mvT hZ125 (ww hw 130 rfl)) (notFace_of_selects (args := #[]) (mvT hZ125 (ww hw 132 rfl))) (mvT hZ125 (ww hw 132 rfl)) (mvT hZ125 (ww hw 131 rfl)) (by decide) (backOf (W := 0) (rm16_3 l Z a0 hw [] b3 b114 b58_0 k58_0 b15 b67 T139.heap n0 o164 f151 f152 g8 f153 f154 f162 (Ne.symm n103) f66 f163 g106) hZ125 (ww hw 133 rfl) (ww hw 9 rfl) (by decide) (by decide)) qq166a qq166c (g := (mkF m 114 #[.val (.int x0), .val (.int x1), .val (.int x2), .val (.int (3 : Int32)), .val (.int (1 : Int32)), .val .null, .val (.ref b3), .unset, .unset, .unset] [(.ref b114), (.ref b3)])) rfl (by rw [hml]; rfl) (Steps.refl _) (argsL := [(.ref b114)]) (rest := []) (lenOf pd__Ljava_lang_Object__Z rfl) rfl (by show 2 * 0 + _ ≤ _; exact Nat.le_of_eq rfl) (hb hby at_114) (fun _ _ => ⟨rfl, rfl, (by decide : 27 + 0 ≤ _), (by decide : 181 + 0 ≤ _)⟩)
  dsimp only [Pt.U, Pt.locs, Pt.cells, Pt.slots] at X165 l165 y165 z165 st165 hQ165
  subst l165 y165 z165
  obtain ⟨rfl, N165q, K165, f167, f168, f169, f170⟩ := hQ165
  have N165 := Fr.app N139 N165q
  obtain ⟨T171, h171, X171, e171, E171, A171, D171, -, st171⟩ := newO X165 hx hZ125 ho125 (ww hw 33 rfl) (ww hw 34 rfl) (ww hw 35 rfl) rfl (g := (mkF m 118 #[.val (.int x0), .val (.int x1), .val (.int x2), .val (.int (3 : Int32)), .val (.int (1 : Int32)), .val .null, .val (.ref b3), .unset, .unset, .unset] [])) rfl (hb hby at_118) (by decide) (by decide)
  obtain ⟨b171, g171⟩ : ∃ z, z = T165.heap.size := ⟨_, rfl⟩
  rw [← g171] at A171 D171 st171
  have f172 : Fld Z h171 b171 cs5 "value" "Ljava/lang/Object;" .null := D171 (Or.inr (ww hw 41 rfl)) (ty := (.object "java/lang/Object")) (by decide)
  have f173 : Fld Z h171 b171 cs5 "errors" "Ljava/util/List;" .null := D171 (Or.inr (ww hw 72 rfl)) (ty := (.object "java/util/List")) (by decide)
  have o175 := Old.keep o164 K165 (allS g8 (allS g106 all0))
  have zz174 : n0 ≤ T165.heap.size := by rw [← o175.1]; exact o175.2.1
  have g176 := Nat.le_trans zz174 (Nat.le_of_eq g171.symm)
  have f177 := ((f152.keep K165).ext E171)
  have f178 := (f167.ext E171)
  have zs179 := Nat.le_trans zs149 E114.1
  have zs180 := Nat.le_trans zs179 E119.1
  have zs181 := Nat.le_trans zs180 E123.1
  have zs182 := Nat.le_trans zs181 E124.1
  have zs183 := Nat.le_trans zs182 E125.1
  have zs184 := Nat.le_trans zs183 K139.1
  have zs185 := Nat.le_trans zs184 K165.1
  have n186 := Nat.ne_of_lt (Nat.lt_of_lt_of_le (Nat.lt_of_lt_of_le A3.lt zs185) (Nat.le_of_eq g171.symm))
  have f187 := (f169.ext E171)
  have f188 := ((((((((((((((f65.ext E67).ext E72).ext E76).ext E77).keep K90).keep K108).ext E114).ext E119).ext E123).ext E124).ext E125).keep K139).keep K165).ext E171)
  have f190 := (f170.ext E171)
  have zs191 := Nat.le_trans zs160 E114.1
  have zs192 := Nat.le_trans zs191 E119.1
  have zs193 := Nat.le_trans zs192 E123.1
  have zs194 := Nat.le_trans zs193 E124.1
  have zs195 := Nat.le_trans zs194 E125.1
  have zs196 := Nat.le_trans zs195 K139.1
  have zs197 := Nat.le_trans zs196 K165.1
  have n198 := Nat.ne_of_lt (Nat.lt_of_lt_of_le (Nat.lt_of_lt_of_le f64.lt zs197) (Nat.le_of_eq g171.symm))
  have f199 := ((f163.keep K165).ext E171)
  have f200 := (((((((((f104.keep K108).ext E114).ext E119).ext E123).ext E124).ext E125).keep K139).keep K165).ext E171)
  have f201 := (((((((((((((((f56.keep K58).ext E67).ext E72).ext E76).ext E77).keep K90).keep K108).ext E114).ext E119).ext E123).ext E124).ext E125).keep K139).keep K165).ext E171)
  have o202 := Old.ext o175 E171
  obtain ⟨_, _, ⟨T203, L203, k203, n203⟩, -, X203, ⟨Lc203, hQ203, l203, y203, z203⟩, st203⟩ := X171.specialBack hx (y := (⟨cs5, "<init>", cs6⟩ : MethodName)) rfl ho125 (mvT hZ125 (ww hw 36 rfl)) (mvT hZ125 (ww hw 37 rfl)) (mvT hZ125 (ww hw 38 rfl)) (by decide) (backOf (W := 1) (rm6_7 l Z a0 hw [] b171 b3 b58_0 r5 k58_0 b15 b67 b114 h171 n0 o202 A171 f172 g176 f177 f178 n186 f187 f188 f189 f190 n198 f199 f200 f201 f173 A171.lt) hZ125 (ww hw 38 rfl) (ww hw 35 rfl) (by decide) (by decide)) (g := (mkF m 126 #[.val (.int x0), .val (.int x1), .val (.int x2), .val (.int (3 : Int32)), .val (.int (1 : Int32)), .val .null, .val (.ref b3), .unset, .unset, .unset] [(.ref b3), .null, (.ref b171), (.ref b171)])) rfl (by rw [hml]; rfl) (Steps.refl _) (a := b171) (argsL := [.null, (.ref b3)]) (rest := [(.ref b171)]) (lenOf pd__Ljava_lang_Object_Ljava_util_List__V rfl) rfl (by show 2 * 0 + _ ≤ _; exact Nat.le_of_eq rfl) (hb hby at_126) (fun _ _ => ⟨rfl, e171, (by decide : 28 + 3 ≤ _), (by decide : 183 + 8 ≤ _)⟩)
  dsimp only [Pt.U, Pt.locs, Pt.cells, Pt.slots] at X203 l203 y203 z203 st203 hQ203
  subst l203 y203 z203
  obtain ⟨b203_0, b203_1, k203_0, rfl, N203q, K203, f204, f205, f206, f207, f208, f209, f210, f211, f212, f213, f214⟩ := hQ203
  have N203 := Fr.app N165 N203q
  have o215 := Old.keep o202 K203 (allS g176 all0)
  have f217 := (A171.keep K203)
  obtain ⟨cqq218, kqq218, qq218a, qq218b, qq218c⟩ := isOf hZ125 rfl f217
  obtain ⟨_, _, ⟨T216, L216, k216, n216⟩, -, X216, ⟨Lc216, hQ216, l216, y216, z216⟩, st216⟩ := X203.virtualBack hx (y := (⟨cs5, "hasErrors", "()Z"⟩ : MethodName)) (z := (⟨cs5, "hasErrors", "()Z"⟩ : MethodName)) ho125 (mvT hZ125 (ww hw 73 rfl)) (mvT hZ125 (ww hw 74 rfl)) (notFace_of_selects (args := #[]) (mvT hZ125 (ww hw 76 rfl))) (mvT hZ125 (ww hw 76 rfl)) (mvT hZ125 (ww hw 75 rfl)) (by decide) (backOf (W := 0) (rm11_3 l Z a0 hw [] b171 b203_0 b203_1 k203_0 b15 b67 b114 T203.heap n0 o215 f205 f207 f208 f211) hZ125 (ww hw 77 rfl) (ww hw 35 rfl) (by decide) (by decide)) qq218a qq218c (g := (mkF m 133 #[.val (.int x0), .val (.int x1), .val (.int x2), .val (.int (3 : Int32)), .val (.int (1 : Int32)), .val .null, .val (.ref b3), .val (.ref b171), .unset, .unset] [(.ref b171)])) rfl (by rw [hml]; rfl) (Steps.refl _) (argsL := []) (rest := []) (lenOf pd___Z rfl) rfl (by show 2 * 0 + _ ≤ _; exact Nat.le_of_eq rfl) (hb hby at_133) (fun _ _ => ⟨rfl, rfl, (by decide : 31 + 0 ≤ _), (by decide : 191 + 0 ≤ _)⟩)
  dsimp only [Pt.U, Pt.locs, Pt.cells, Pt.slots] at X216 l216 y216 z216 st216 hQ216
  subst l216 y216 z216
  obtain ⟨rfl, N216q, E216⟩ := hQ216
  have N216 := Fr.app N203 N216q
  obtain ⟨cqq220, kqq220, qq220a, qq220b, qq220c⟩ := isOf hZ125 E216 f217
  obtain ⟨_, _, ⟨T219, L219, k219, n219⟩, -, X219, ⟨Lc219, hQ219, l219, y219, z219⟩, st219⟩ := X216.virtualBack hx (y := (⟨cs5, "errors", "()Ljava/util/List;"⟩ : MethodName)) (z := (⟨cs5, "errors", "()Ljava/util/List;"⟩ : MethodName)) ho125 (mvT hZ125 (ww hw 90 rfl)) (mvT hZ125 (ww hw 91 rfl)) (notFace_of_selects (args := #[]) (mvT hZ125 (ww hw 93 rfl))) (mvT hZ125 (ww hw 93 rfl)) (mvT hZ125 (ww hw 92 rfl)) (by decide) (backOf (W := 0) (rm13_1 l Z a0 hw [] b171 b203_0 T203.heap n0 o215 f205) hZ125 (ww hw 94 rfl) (ww hw 35 rfl) (by decide) (by decide)) qq220a qq220c (g := (mkF m 140 #[.val (.int x0), .val (.int x1), .val (.int x2), .val (.int (3 : Int32)), .val (.int (1 : Int32)), .val .null, .val (.ref b3), .val (.ref b171), .val (.int (1 : Int32)), .unset] [(.ref b171)])) rfl (by rw [hml]; rfl) (Steps.refl _) (argsL := []) (rest := []) (lenOf pd___Ljava_util_List_ rfl) rfl (by show 2 * 0 + _ ≤ _; exact Nat.le_of_eq rfl) (hb hby at_140) (fun _ _ => ⟨rfl, E216, (by decide : 31 + 0 ≤ _), (by decide : 191 + 0 ≤ _)⟩)
  dsimp only [Pt.U, Pt.locs, Pt.cells, Pt.slots] at X219 l219 y219 z219 st219 hQ219
  subst l219 y219 z219
  obtain ⟨rfl, N219q, E219⟩ := hQ219
  have N219 := Fr.app N216 N219q
  obtain ⟨cqq222, kqq222, qq222a, qq222b, qq222c⟩ := isOf hZ125 E219 f207
  obtain ⟨_, _, ⟨T221, L221, k221, n221⟩, -, X221, ⟨Lc221, hQ221, l221, y221, z221⟩, st221⟩ := X219.interfaceBack hx (xi := (⟨"java/util/List", "size", "()I"⟩ : MethodName)) (y := (⟨cs7, "size", "()I"⟩ : MethodName)) ho125 (mvT hZ125 (ww hw 95 rfl)) (mvT hZ125 (ww hw 96 rfl)) (mvT hZ125 (ww hw 97 rfl)) (mvT hZ125 (ww hw 98 rfl)) (mvT hZ125 (ww hw 99 rfl)) (mvT hZ125 (ww hw 100 rfl)) (mvT hZ125 (ww hw 101 rfl)) (mvT hZ125 (ww hw 85 rfl)) (by decide) (backOf (W := 0) (rm14_2 l Z a0 hw [] b203_0 b203_1 k203_0 b15 b67 b114 T203.heap n0 o215 f208 f211) hZ125 (ww hw 102 rfl) (ww hw 86 rfl) (by decide) (by decide)) qq222a qq222b qq222c (g := (mkF m 143 #[.val (.int x0), .val (.int x1), .val (.int x2), .val (.int (3 : Int32)), .val (.int (1 : Int32)), .val .null, .val (.ref b3), .val (.ref b171), .val (.int (1 : Int32)), .unset] [(.ref b203_0)])) rfl (by rw [hml]; rfl) (Steps.refl _) (argsL := []) (rest := []) (lenOf pd___I rfl) rfl (by show 2 * 0 + _ ≤ _; exact Nat.le_of_eq rfl) (hb hby at_143) (fun _ _ => ⟨rfl, E219, (by decide : 31 + 0 ≤ _), (by decide : 191 + 0 ≤ _)⟩)
  dsimp only [Pt.U, Pt.locs, Pt.cells, Pt.slots] at X221 l221 y221 z221 st221 hQ221
  subst l221 y221 z221
  obtain ⟨rfl, N221q, E221⟩ := hQ221
  have N221 := Fr.app N219 N221q
  have zs223 := K139.1
  have zs224 := Nat.le_trans zs223 K165.1
  have zs225 := Nat.le_trans zs224 E171.1
  have zs226 := Nat.le_trans zs225 K203.1
  obtain ⟨fs, hr, hrun, hended, hend⟩ := leaveW (s := s) (vm₁ := T125.vm) X221 hS125 (by rw [E221]; exact (Nat.le_trans hk125 zs226)) (v := some (.int (1 : Int32))) (fun h => by rw [Bd.returns] at h; cases h)
  refine ⟨_, _, pre0 _ ?_, hrun, hended, _, _, rfl, ?_, hend.1, hend.2.1, hend.2.2.1, hend.2.2.2.mono (by decide) (by decide)⟩
  · show Steps p.tables e below (s₁.setTop (mkF m 0 #[.val (.int x0), .val (.int x1), .val (.int x2), .unset, .unset, .unset, .unset, .unset, .unset, .unset] [])) _
    refine XS.iloadN X0.here hx rfl (hb hby at_0) rfl ?_
    refine XS.iconst X0.here hx rfl (hb hby at_1) ?_
    refine XS.iand X0.here hx rfl (hb hby at_2) rfl ?_
    show Steps p.tables e below (s₁.setTop (mkF m 3 #[.val (.int x0), .val (.int x1), .val (.int x2), .unset, .unset, .unset, .unset, .unset, .unset, .unset] [(.int (x0 &&& (3 : Int32)))])) _
    rw [hc1]
    show Steps p.tables e below (s₁.setTop (mkF m 3 #[.val (.int x0), .val (.int x1), .val (.int x2), .unset, .unset, .unset, .unset, .unset, .unset, .unset] [(.int (3 : Int32))])) _
    refine XS.istoreN X0.here hx rfl (hb hby at_3) rfl (l' := #[.val (.int x0), .val (.int x1), .val (.int x2), .val (.int (3 : Int32)), .unset, .unset, .unset, .unset, .unset, .unset]) rfl ?_
    refine XS.iloadN X0.here hx rfl (hb hby at_4) rfl ?_
    refine XS.iconst X0.here hx rfl (hb hby at_5) ?_
    refine XS.iand X0.here hx rfl (hb hby at_6) rfl ?_
    show Steps p.tables e below (s₁.setTop (mkF m 7 #[.val (.int x0), .val (.int x1), .val (.int x2), .val (.int (3 : Int32)), .unset, .unset, .unset, .unset, .unset, .unset] [(.int (x2 &&& (1 : Int32)))])) _
    refine XS.ifNo X0.here hx rfl (hb hby at_7) rfl ((if0 _ _).trans (feq hc2).1) ?_
    refine XS.iconst X0.here hx rfl (hb hby at_10) ?_
    refine XS.goto X0.here hx rfl (pc0 := 11) (pc' := 15) rfl (hb hby at_11) (by decide) (by decide) ?_
    show Steps p.tables e below (s₁.setTop (mkF m 15 #[.val (.int x0), .val (.int x1), .val (.int x2), .val (.int (3 : Int32)), .unset, .unset, .unset, .unset, .unset, .unset] [(.int (1 : Int32))])) _
    refine XS.istore X0.here hx rfl (hb hby at_15) rfl (l' := #[.val (.int x0), .val (.int x1), .val (.int x2), .val (.int (3 : Int32)), .val (.int (1 : Int32)), .unset, .unset, .unset, .unset, .unset]) rfl ?_
    refine XS.iload X0.here hx rfl (hb hby at_17) rfl ?_
    refine XS.ifNo X0.here hx rfl (hb hby at_19) rfl ((if0 _ _).trans (feq (by decide : ¬ ((1 : Int32) = (0 : Int32)))).1) ?_
    refine XS.aconstNull X0.here hx rfl (hb hby at_22) ?_
    show Steps p.tables e below (s₁.setTop (mkF m 23 #[.val (.int x0), .val (.int x1), .val (.int x2), .val (.int (3 : Int32)), .val (.int (1 : Int32)), .unset, .unset, .unset, .unset, .unset] [.null])) _
    refine XS.goto X0.here hx rfl (pc0 := 23) (pc' := 30) rfl (hb hby at_23) (by decide) (by decide) ?_
    show Steps p.tables e below (s₁.setTop (mkF m 30 #[.val (.int x0), .val (.int x1), .val (.int x2), .val (.int (3 : Int32)), .val (.int (1 : Int32)), .unset, .unset, .unset, .unset, .unset] [.null])) _
    refine XS.astore X0.here hx rfl (hb hby at_30) rfl rfl (l' := #[.val (.int x0), .val (.int x1), .val (.int x2), .val (.int (3 : Int32)), .val (.int (1 : Int32)), .val .null, .unset, .unset, .unset, .unset]) rfl ?_
    refine st3 _ ?_
    show Steps p.tables e below (T3.setTop (mkF m 35 #[.val (.int x0), .val (.int x1), .val (.int x2), .val (.int (3 : Int32)), .val (.int (1 : Int32)), .val .null, .unset, .unset, .unset, .unset] [(.ref b3)])) _
    refine XS.dup X3.here hx rfl (hb hby at_35) rfl rfl ?_
    refine st11.trans ?_
    show Steps p.tables e below (T11.setTop (mkF m 39 #[.val (.int x0), .val (.int x1), .val (.int x2), .val (.int (3 : Int32)), .val (.int (1 : Int32)), .val .null, .unset, .unset, .unset, .unset] [(.ref b3)])) _
    refine XS.astore X11.here hx rfl (hb hby at_39) rfl rfl (l' := #[.val (.int x0), .val (.int x1), .val (.int x2), .val (.int (3 : Int32)), .val (.int (1 : Int32)), .val .null, .val (.ref b3), .unset, .unset, .unset]) rfl ?_
    refine XS.iloadN X11.here hx rfl (hb hby at_41) rfl ?_
    refine XS.iconst X11.here hx rfl (hb hby at_42) ?_
    refine XS.icmpNo X11.here hx rfl (hb hby at_43) rfl (flt (by decide : ¬ ((3 : Int32) < (1 : Int32)))).1 ?_
    show Steps p.tables e below (T11.setTop (mkF m 46 #[.val (.int x0), .val (.int x1), .val (.int x2), .val (.int (3 : Int32)), .val (.int (1 : Int32)), .val .null, .val (.ref b3), .unset, .unset, .unset] [])) _
    refine XS.aload X11.here hx rfl (hb hby at_46) rfl rfl ?_
    refine st15 _ ?_
    show Steps p.tables e below (T15.setTop (mkF m 51 #[.val (.int x0), .val (.int x1), .val (.int x2), .val (.int (3 : Int32)), .val (.int (1 : Int32)), .val .null, .val (.ref b3), .unset, .unset, .unset] [(.ref b15), (.ref b3)])) _
    refine XS.dup X15.here hx rfl (hb hby at_51) rfl rfl ?_
    refine st21 _ ?_
    show Steps p.tables e below (T21.setTop (mkF m 54 #[.val (.int x0), .val (.int x1), .val (.int x2), .val (.int (3 : Int32)), .val (.int (1 : Int32)), .val .null, .val (.ref b3), .unset, .unset, .unset] [(.ref a21), (.ref b15), (.ref b15), (.ref b3)])) _
    refine st22 _ ?_
    show Steps p.tables e below (T22.setTop (mkF m 56 #[.val (.int x0), .val (.int x1), .val (.int x2), .val (.int (3 : Int32)), .val (.int (1 : Int32)), .val .null, .val (.ref b3), .unset, .unset, .unset] [(.ref a22), (.ref a21), (.ref b15), (.ref b15), (.ref b3)])) _
    refine st23 _ ?_
    show Steps p.tables e below (T23.setTop (mkF m 58 #[.val (.int x0), .val (.int x1), .val (.int x2), .val (.int (3 : Int32)), .val (.int (1 : Int32)), .val .null, .val (.ref b3), .unset, .unset, .unset] [(.ref a23), (.ref a22), (.ref a21), (.ref b15), (.ref b15), (.ref b3)])) _
    refine st24 _ ?_
    show Steps p.tables e below (T24.setTop (mkF m 60 #[.val (.int x0), .val (.int x1), .val (.int x2), .val (.int (3 : Int32)), .val (.int (1 : Int32)), .val .null, .val (.ref b3), .unset, .unset, .unset] [(.ref a24), (.ref a23), (.ref a22), (.ref a21), (.ref b15), (.ref b15), (.ref b3)])) _
    refine st38.trans ?_
    show Steps p.tables e below (T38.setTop (mkF m 63 #[.val (.int x0), .val (.int x1), .val (.int x2), .val (.int (3 : Int32)), .val (.int (1 : Int32)), .val .null, .val (.ref b3), .unset, .unset, .unset] [(.ref b15), (.ref b3)])) _
    refine st58.trans ?_
    show Steps p.tables e below (T58.setTop (mkF m 66 #[.val (.int x0), .val (.int x1), .val (.int x2), .val (.int (3 : Int32)), .val (.int (1 : Int32)), .val .null, .val (.ref b3), .unset, .unset, .unset] [(.int (1 : Int32))])) _
    refine XS.pop X58.here hx rfl (hb hby at_66) rfl rfl ?_
    refine XS.iloadN X58.here hx rfl (hb hby at_67) rfl ?_
    refine XS.iconst X58.here hx rfl (hb hby at_68) ?_
    refine XS.icmpNo X58.here hx rfl (hb hby at_69) rfl (flt (by decide : ¬ ((3 : Int32) < (2 : Int32)))).1 ?_
    show Steps p.tables e below (T58.setTop (mkF m 72 #[.val (.int x0), .val (.int x1), .val (.int x2), .val (.int (3 : Int32)), .val (.int (1 : Int32)), .val .null, .val (.ref b3), .unset, .unset, .unset] [])) _
    refine XS.aload X58.here hx rfl (hb hby at_72) rfl rfl ?_
    refine st67 _ ?_
    show Steps p.tables e below (T67.setTop (mkF m 77 #[.val (.int x0), .val (.int x1), .val (.int x2), .val (.int (3 : Int32)), .val (.int (1 : Int32)), .val .null, .val (.ref b3), .unset, .unset, .unset] [(.ref b67), (.ref b3)])) _
    refine XS.dup X67.here hx rfl (hb hby at_77) rfl rfl ?_
    refine st72 _ ?_
    show Steps p.tables e below (T72.setTop (mkF m 80 #[.val (.int x0), .val (.int x1), .val (.int x2), .val (.int (3 : Int32)), .val (.int (1 : Int32)), .val .null, .val (.ref b3), .unset, .unset, .unset] [(.ref a72), (.ref b67), (.ref b67), (.ref b3)])) _
    refine st76 _ ?_
    show Steps p.tables e below (T76.setTop (mkF m 82 #[.val (.int x0), .val (.int x1), .val (.int x2), .val (.int (3 : Int32)), .val (.int (1 : Int32)), .val .null, .val (.ref b3), .unset, .unset, .unset] [(.ref a76), (.ref a72), (.ref b67), (.ref b67), (.ref b3)])) _
    refine XS.aconstNull X76.here hx rfl (hb hby at_82) ?_
    refine st77 _ ?_
    show Steps p.tables e below (T77.setTop (mkF m 85 #[.val (.int x0), .val (.int x1), .val (.int x2), .val (.int (3 : Int32)), .val (.int (1 : Int32)), .val .null, .val (.ref b3), .unset, .unset, .unset] [(.ref a77), .null, (.ref a76), (.ref a72), (.ref b67), (.ref b67), (.ref b3)])) _
    refine st90.trans ?_
    show Steps p.tables e below (T90.setTop (mkF m 88 #[.val (.int x0), .val (.int x1), .val (.int x2), .val (.int (3 : Int32)), .val (.int (1 : Int32)), .val .null, .val (.ref b3), .unset, .unset, .unset] [(.ref b67), (.ref b3)])) _
    refine st108.trans ?_
    show Steps p.tables e below (T108.setTop (mkF m 91 #[.val (.int x0), .val (.int x1), .val (.int x2), .val (.int (3 : Int32)), .val (.int (1 : Int32)), .val .null, .val (.ref b3), .unset, .unset, .unset] [(.int (1 : Int32))])) _
    refine XS.pop X108.here hx rfl (hb hby at_91) rfl rfl ?_
    refine XS.iloadN X108.here hx rfl (hb hby at_92) rfl ?_
    refine XS.iconst X108.here hx rfl (hb hby at_93) ?_
    refine XS.icmpNo X108.here hx rfl (hb hby at_94) rfl (flt (by decide : ¬ ((3 : Int32) < (3 : Int32)))).1 ?_
    show Steps p.tables e below (T108.setTop (mkF m 97 #[.val (.int x0), .val (.int x1), .val (.int x2), .val (.int (3 : Int32)), .val (.int (1 : Int32)), .val .null, .val (.ref b3), .unset, .unset, .unset] [])) _
    refine XS.aload X108.here hx rfl (hb hby at_97) rfl rfl ?_
    refine st114 _ ?_
    show Steps p.tables e below (T114.setTop (mkF m 102 #[.val (.int x0), .val (.int x1), .val (.int x2), .val (.int (3 : Int32)), .val (.int (1 : Int32)), .val .null, .val (.ref b3), .unset, .unset, .unset] [(.ref b114), (.ref b3)])) _
    refine XS.dup X114.here hx rfl (hb hby at_102) rfl rfl ?_
    refine st119 _ ?_
    show Steps p.tables e below (T119.setTop (mkF m 105 #[.val (.int x0), .val (.int x1), .val (.int x2), .val (.int (3 : Int32)), .val (.int (1 : Int32)), .val .null, .val (.ref b3), .unset, .unset, .unset] [(.ref a119), (.ref b114), (.ref b114), (.ref b3)])) _
    refine st123 _ ?_
    show Steps p.tables e below (T123.setTop (mkF m 107 #[.val (.int x0), .val (.int x1), .val (.int x2), .val (.int (3 : Int32)), .val (.int (1 : Int32)), .val .null, .val (.ref b3), .unset, .unset, .unset] [(.ref a123), (.ref a119), (.ref b114), (.ref b114), (.ref b3)])) _
    refine st124 _ ?_
    show Steps p.tables e below (T124.setTop (mkF m 109 #[.val (.int x0), .val (.int x1), .val (.int x2), .val (.int (3 : Int32)), .val (.int (1 : Int32)), .val .null, .val (.ref b3), .unset, .unset, .unset] [(.ref a124), (.ref a123), (.ref a119), (.ref b114), (.ref b114), (.ref b3)])) _
    refine st125 _ ?_
    show Steps p.tables e below (T125.setTop (mkF m 111 #[.val (.int x0), .val (.int x1), .val (.int x2), .val (.int (3 : Int32)), .val (.int (1 : Int32)), .val .null, .val (.ref b3), .unset, .unset, .unset] [(.ref a125), (.ref a124), (.ref a123), (.ref a119), (.ref b114), (.ref b114), (.ref b3)])) _
    refine st139.trans ?_
    show Steps p.tables e below (T139.setTop (mkF m 114 #[.val (.int x0), .val (.int x1), .val (.int x2), .val (.int (3 : Int32)), .val (.int (1 : Int32)), .val .null, .val (.ref b3), .unset, .unset, .unset] [(.ref b114), (.ref b3)])) _
    refine st165.trans ?_
    show Steps p.tables e below (T165.setTop (mkF m 117 #[.val (.int x0), .val (.int x1), .val (.int x2), .val (.int (3 : Int32)), .val (.int (1 : Int32)), .val .null, .val (.ref b3), .unset, .unset, .unset] [(.int (1 : Int32))])) _
    refine XS.pop X165.here hx rfl (hb hby at_117) rfl rfl ?_
    refine st171 _ ?_
    show Steps p.tables e below (T171.setTop (mkF m 121 #[.val (.int x0), .val (.int x1), .val (.int x2), .val (.int (3 : Int32)), .val (.int (1 : Int32)), .val .null, .val (.ref b3), .unset, .unset, .unset] [(.ref b171)])) _
    refine XS.dup X171.here hx rfl (hb hby at_121) rfl rfl ?_
    refine XS.aload X171.here hx rfl (hb hby at_122) rfl rfl ?_
    refine XS.aload X171.here hx rfl (hb hby at_124) rfl rfl ?_
    refine st203.trans ?_
    show Steps p.tables e below (T203.setTop (mkF m 129 #[.val (.int x0), .val (.int x1), .val (.int x2), .val (.int (3 : Int32)), .val (.int (1 : Int32)), .val .null, .val (.ref b3), .unset, .unset, .unset] [(.ref b171)])) _
    refine XS.astore X203.here hx rfl (hb hby at_129) rfl rfl (l' := #[.val (.int x0), .val (.int x1), .val (.int x2), .val (.int (3 : Int32)), .val (.int (1 : Int32)), .val .null, .val (.ref b3), .val (.ref b171), .unset, .unset]) rfl ?_
    refine XS.aload X203.here hx rfl (hb hby at_131) rfl rfl ?_
    refine st216.trans ?_
    show Steps p.tables e below (T216.setTop (mkF m 136 #[.val (.int x0), .val (.int x1), .val (.int x2), .val (.int (3 : Int32)), .val (.int (1 : Int32)), .val .null, .val (.ref b3), .val (.ref b171), .unset, .unset] [(.int (1 : Int32))])) _
    refine XS.istore X216.here hx rfl (hb hby at_136) rfl (l' := #[.val (.int x0), .val (.int x1), .val (.int x2), .val (.int (3 : Int32)), .val (.int (1 : Int32)), .val .null, .val (.ref b3), .val (.ref b171), .val (.int (1 : Int32)), .unset]) rfl ?_
    refine XS.aload X216.here hx rfl (hb hby at_138) rfl rfl ?_
    refine st219.trans ?_
    show Steps p.tables e below (T219.setTop (mkF m 143 #[.val (.int x0), .val (.int x1), .val (.int x2), .val (.int (3 : Int32)), .val (.int (1 : Int32)), .val .null, .val (.ref b3), .val (.ref b171), .val (.int (1 : Int32)), .unset] [(.ref b203_0)])) _
    refine st221.trans ?_
    show Steps p.tables e below (T221.setTop (mkF m 148 #[.val (.int x0), .val (.int x1), .val (.int x2), .val (.int (3 : Int32)), .val (.int (1 : Int32)), .val .null, .val (.ref b3), .val (.ref b171), .val (.int (1 : Int32)), .unset] [(.int (3 : Int32))])) _
    refine XS.istore X221.here hx rfl (hb hby at_148) rfl (l' := #[.val (.int x0), .val (.int x1), .val (.int x2), .val (.int (3 : Int32)), .val (.int (1 : Int32)), .val .null, .val (.ref b3), .val (.ref b171), .val (.int (1 : Int32)), .val (.int (3 : Int32))]) rfl ?_
    refine XS.iload X221.here hx rfl (hb hby at_150) rfl ?_
    refine XS.iloadN X221.here hx rfl (hb hby at_152) rfl ?_
    refine XS.ifNo X221.here hx rfl (hb hby at_153) rfl ((if0 _ _).trans (feq (by decide : ¬ ((3 : Int32) = (0 : Int32)))).1) ?_
    show Steps p.tables e below (T221.setTop (mkF m 156 #[.val (.int x0), .val (.int x1), .val (.int x2), .val (.int (3 : Int32)), .val (.int (1 : Int32)), .val .null, .val (.ref b3), .val (.ref b171), .val (.int (1 : Int32)), .val (.int (3 : Int32))] [(.int (1 : Int32))])) _
    refine XS.iconst X221.here hx rfl (hb hby at_156) ?_
    refine XS.goto X221.here hx rfl (pc0 := 157) (pc' := 161) rfl (hb hby at_157) (by decide) (by decide) ?_
    show Steps p.tables e below (T221.setTop (mkF m 161 #[.val (.int x0), .val (.int x1), .val (.int x2), .val (.int (3 : Int32)), .val (.int (1 : Int32)), .val .null, .val (.ref b3), .val (.ref b171), .val (.int (1 : Int32)), .val (.int (3 : Int32))] [(.int (1 : Int32)), (.int (1 : Int32))])) _
    refine XS.icmpNo X221.here hx rfl (hb hby at_161) rfl (teq (rfl : (1 : Int32) = (1 : Int32))).2 ?_
    refine XS.iload X221.here hx rfl (hb hby at_164) rfl ?_
    refine XS.iloadN X221.here hx rfl (hb hby at_166) rfl ?_
    refine XS.icmpNo X221.here hx rfl (hb hby at_167) rfl (teq (rfl : (3 : Int32) = (3 : Int32))).2 ?_
    show Steps p.tables e below (T221.setTop (mkF m 170 #[.val (.int x0), .val (.int x1), .val (.int x2), .val (.int (3 : Int32)), .val (.int (1 : Int32)), .val .null, .val (.ref b3), .val (.ref b171), .val (.int (1 : Int32)), .val (.int (3 : Int32))] [])) _
    refine XS.iload X221.here hx rfl (hb hby at_170) rfl ?_
    refine XS.iload X221.here hx rfl (hb hby at_172) rfl ?_
    refine XS.ifNo X221.here hx rfl (hb hby at_174) rfl ((if0 _ _).trans (feq (by decide : ¬ ((3 : Int32) = (0 : Int32)))).1) ?_
    refine XS.iconst X221.here hx rfl (hb hby at_177) ?_
    show Steps p.tables e below (T221.setTop (mkF m 178 #[.val (.int x0), .val (.int x1), .val (.int x2), .val (.int (3 : Int32)), .val (.int (1 : Int32)), .val .null, .val (.ref b3), .val (.ref b171), .val (.int (1 : Int32)), .val (.int (3 : Int32))] [(.int (1 : Int32)), (.int (1 : Int32))])) _
    refine XS.goto X221.here hx rfl (pc0 := 178) (pc' := 182) rfl (hb hby at_178) (by decide) (by decide) ?_
    show Steps p.tables e below (T221.setTop (mkF m 182 #[.val (.int x0), .val (.int x1), .val (.int x2), .val (.int (3 : Int32)), .val (.int (1 : Int32)), .val .null, .val (.ref b3), .val (.ref b171), .val (.int (1 : Int32)), .val (.int (3 : Int32))] [(.int (1 : Int32)), (.int (1 : Int32))])) _
    refine XS.icmpNo X221.here hx rfl (hb hby at_182) rfl (teq (rfl : (1 : Int32) = (1 : Int32))).2 ?_
    refine XS.iconst X221.here hx rfl (hb hby at_185) ?_
    refine XS.goto X221.here hx rfl (pc0 := 186) (pc' := 190) rfl (hb hby at_186) (by decide) (by decide) ?_
    show Steps p.tables e below (T221.setTop (mkF m 190 #[.val (.int x0), .val (.int x1), .val (.int x2), .val (.int (3 : Int32)), .val (.int (1 : Int32)), .val .null, .val (.ref b3), .val (.ref b171), .val (.int (1 : Int32)), .val (.int (3 : Int32))] [(.int (1 : Int32))])) _
    exact retN X221 hx (t := .boolean) Bd.returns (by simp) (hb hby at_190) hr
  · show Q0_7 Z x0 x1 x2 r3 c4 r5 h0 n0 _ T221.heap _
    rw [E221]
    exact ⟨rfl, N221⟩
def Q6_8 (Z : State) (r0 : Addr) (r1 : Addr) (r2 : Addr) (r3 : Addr) (r4 : Addr) (c5 : ClassId) (r6 : Addr) (r7 : Addr) (r8 : Addr) (h0 : Heap) (n0 : Nat) (v : Option Value) (h : Heap) (L : List Loc) : Prop := ∃ (b26_0 : Addr) (b26_1 : Addr) (k26_0 : ClassId), v = none ∧ Fr n0 L ∧ Keep h0 h [r0] ∧ Fld Z h r0 cs5 "value" "Ljava/lang/Object;" (.ref r1) ∧ Fld Z h r0 cs5 "errors" "Ljava/util/List;" (.ref b26_0) ∧ h0.size ≤ b26_0 ∧ Exa Z h b26_0 cs7 ∧ Fld Z h b26_0 cs7 "elements" "[Ljava/lang/Object;" (.ref b26_1) ∧ Fld Z h b26_0 cs7 "allowNulls" "Z" (.int (0 : Int32)) ∧ h0.size ≤ b26_1 ∧ Arv Z h b26_1 k26_0 (.object "java/lang/Object") (3 : Int32) [(.ref r6), (.ref r7), (.ref r8)] .null ∧ Exa Z h b26_1 "[Ljava/lang/Object;" ∧ Ovr Z k26_0 "java/lang/Object" ∧ b26_0 ≠ b26_1
set_option maxRecDepth 65536 in
set_option maxHeartbeats 40000000 in
theorem rm6_8 (l : Launch) (Z : State) (a0 : Array Value) (hw : ∀ d ∈ tables_1, d.before a0 Z = true) (ws : List Jvm.Cond) (r0 : Addr) (r1 : Addr) (r2 : Addr) (r3 : Addr) (r4 : Addr) (c5 : ClassId) (r6 : Addr) (r7 : Addr) (r8 : Addr) (h0 : Heap) (n0 : Nat) (O0 : Old Z n0 h0) (f2 : Exa Z h0 r0 cs5) (f3 : Fld Z h0 r0 cs5 "value" "Ljava/lang/Object;" .null) (g4 : n0 ≤ r0) (f6 : Exa Z h0 r2 "java/util/ArrayList") (f8 : Fld Z h0 r2 "java/util/ArrayList" "size" "I" (.int (3 : Int32))) (n9 : r2 ≠ r0) (f11 : Fld Z h0 r2 "java/util/ArrayList" "elementData" "[Ljava/lang/Object;" (.ref r3)) (f13 : Exa Z h0 r3 "[Ljava/lang/Object;") (f15 : own_Mir Z "[Ljava/lang/Object;" r4) (f16 : Arv Z h0 r3 c5 (.object "java/lang/Object") (10 : Int32) [(.ref r6), (.ref r7), (.ref r8), .null, .null, .null, .null, .null, .null, .null] .null) (n17 : r3 ≠ r0) (f19 : Exa Z h0 r8 cs10) (f21 : Exa Z h0 r7 cs10) (f23 : Exa Z h0 r6 cs10) (f37 : Fld Z h0 r0 cs5 "errors" "Ljava/util/List;" .null) (l43 : r0 < h0.size) :
    MetFree l (⟨cs5, "<init>", cs6⟩ : MethodName) (head1 (Jvm.Cond.code (⟨cs5, "<init>", cs6⟩ : MethodName) prog_4_method_1_code 3 none :: ws) ({ frames := 9, cells := 3, slots := 8, locals := 116 } : Room)) (fun a U => a = #[(.ref r0), (.ref r1), (.ref r2)] ∧ Z.Warmed39 U.vm ∧ U.heap = h0) (fun _ _ _ _ _ => True) (fun _ U o U' => ∃ v L, o = .returned v ∧ Q6_8 Z r0 r1 r2 r3 r4 c5 r6 r7 r8 h0 n0 v U'.heap L ∧ FrameEnd U o U' L ({ frames := 9, cells := 3, slots := 8, locals := 116 } : Room).cells ({ frames := 9, cells := 3, slots := 8, locals := 116 } : Room).slots) := by
  refine MetFree.of_bodySF (plainFor_of_name pn_com_example_weaverbird_weaverbird_bind_Binding) hisR ?_
  intro p e s m args below meth c s₁ Bd hml0 hP hK
  obtain ⟨rfl, hZ, hh⟩ := hP
  have hx := Bd.exec
  have hby := Bd.bytes
  have hml : c.maxLocals = 3 := hml0
  have hown : s.vm.findClass cs5 = some m.cls := findClass_of_methodNamed Bd.named
  have hnm := (name_of_methodNamed Bd.named Bd.method).1
  have X0 : Stand p l e ({ frames := 9, cells := 3, slots := 8, locals := 116 } : Room) s m #[(.ref r0), (.ref r1), (.ref r2)] below meth c s₁ [] 0 0 := Stand.of_body Bd
  have e0 : s₁.heap = h0 := by rw [← hh, Bd.state]; rfl
  have N0 := Fr.nil n0
  have pre0 : ∀ t, Steps p.tables e below (s₁.setTop (mkF m 0 #[.val (.ref r0), .val (.ref r1), .val (.ref r2)] [])) t → Steps p.tables e below (s₁.setTop (entryFrame m #[(.ref r0), (.ref r1), (.ref r2)] 3)) t := fun t k => castTop (by first | (simp [entryFrame, mkF, argsToLocals, Value.category]; done) | rfl) k
  obtain ⟨T1, X1, e1, st1⟩ := initO X0 hx hZ hown (ww hw 39 rfl) (ww hw 26 rfl) (ww hw 27 rfl) e0 (g := (mkF m 1 #[.val (.ref r0), .val (.ref r1), .val (.ref r2)] [(.ref r0)])) rfl (by rw [hml]; rfl) rfl (hb hby d6_1) (by decide) (W := 0) (by show 2 * 0 + _ ≤ _; exact Nat.le_of_eq rfl) (by decide)
  obtain ⟨T5, h5, X5, e5, W5, st5⟩ := putF X1 hx hZ hown (host := "") (Or.inl (ww hw 40 rfl)) Via.refl e1 f3 f2 (Or.inr ⟨(ww hw 41 rfl), rfl, hnm⟩) (ww hw 34 rfl) (ty := (.object "java/lang/Object")) (by decide) rfl rfl (g := (mkF m 6 #[.val (.ref r0), .val (.ref r1), .val (.ref r2)] [(.ref r1), (.ref r0)])) rfl rfl (hb hby d6_6)
  have Fw5 := f3.same W5
  have N5 := Fr.snoc X5 N0 g4
  have f7 := (f6.wr W5)
  have f10 := (f8.other W5 (Or.inl n9))
  have f12 := (f11.other W5 (Or.inl n9))
  have f14 := (f13.wr W5)
  have f18 := (f16.other W5 n17)
  have f20 := (f19.wr W5)
  have f22 := (f21.wr W5)
  have f24 := (f23.wr W5)
  have o25 := Old.wr O0 W5 g4
  obtain ⟨_, _, ⟨T26, L26, k26, n26⟩, -, X26, ⟨Lc26, hQ26, l26, y26, z26⟩, st26⟩ := Jvm.LawKit.callS X5 hx (y := (⟨"java/util/List", "copyOf", cs4⟩ : MethodName)) hown (mvT hZ (ww hw 42 rfl)) (mvT hZ (ww hw 43 rfl)) (mvT hZ (ww hw 44 rfl)) (mvT hZ (ww hw 45 rfl)) (by decide) (backOf (W := 1) (rm7_4 l Z a0 hw [] r2 r3 r4 c5 r6 r7 r8 h5 n0 o25 f7 f10 f12 f14 f15 f18 f20 f22 f24) hZ (ww hw 45 rfl) (ww hw 44 rfl) (by decide) (by decide)) (g := (mkF m 11 #[.val (.ref r0), .val (.ref r1), .val (.ref r2)] [(.ref r2), (.ref r0)])) rfl (by rw [hml]; rfl) (argsL := [(.ref r2)]) (rest := [(.ref r0)]) (lenOf pd__Ljava_util_Collection__Ljava_util_List_ rfl) rfl (by show 2 * 0 + _ ≤ _; exact Nat.le_of_eq rfl) (hb hby d6_11) (fun _ _ => ⟨rfl, e5, (by decide : 0 + 3 ≤ _), (by decide : 0 + 8 ≤ _)⟩)
  dsimp only [Pt.U, Pt.locs, Pt.cells, Pt.slots] at X26 l26 y26 z26 st26 hQ26
  subst l26 y26 z26
  obtain ⟨b26_0, b26_1, k26_0, rfl, N26q, K26, f27, f28, f29, f30, f31, f32, f33, f34, f35⟩ := hQ26
  have N26 := Fr.app N5 N26q
  have f36 := ((f2.wr W5).keep K26)
  have f38 := ((f37.other W5 (Or.inr (slot_ne (Or.inr (ww hw 72 rfl)) (Or.inr (ww hw 41 rfl)) (by decide) (t := (.object "java/util/List")) (t' := (.object "java/lang/Object")) (by decide) (by decide)))).keep K26 nin0)
  obtain ⟨T39, h39, X39, e39, W39, st39⟩ := putF X26 hx hZ hown (host := "") (Or.inl (ww hw 71 rfl)) Via.refl rfl f38 f36 (Or.inr ⟨(ww hw 72 rfl), rfl, hnm⟩) (ww hw 34 rfl) (ty := (.object "java/util/List")) (by decide) rfl rfl (g := (mkF m 14 #[.val (.ref r0), .val (.ref r1), .val (.ref r2)] [(.ref b26_0), (.ref r0)])) rfl rfl (hb hby d6_14)
  have Fw39 := f38.same W39
  have N39 := Fr.snoc X39 N26 g4
  have f40 := ((Fw5.keep K26 nin0).other W39 (Or.inr (slot_ne (Or.inr (ww hw 41 rfl)) (Or.inr (ww hw 72 rfl)) (by decide) (t := (.object "java/lang/Object")) (t' := (.object "java/util/List")) (by decide) (by decide))))
  have zs41 := (Nat.le_of_eq W5.size.symm)
  have f42 := (f28.wr W39)
  have n44 := Nat.ne_of_lt (Nat.lt_of_lt_of_le (Nat.lt_of_lt_of_le l43 zs41) f27)
  have f45 := (f29.other W39 (Or.inl (Ne.symm n44)))
  have f46 := (f30.other W39 (Or.inl (Ne.symm n44)))
  have n47 := Nat.ne_of_lt (Nat.lt_of_lt_of_le (Nat.lt_of_lt_of_le l43 zs41) f31)
  have f48 := (f32.other W39 (Ne.symm n47))
  have f49 := (f33.wr W39)
  have kp50 : Keep h0 h5 [r0] := (Keep.refl h0 [r0]).wr W5 (Or.inl (List.mem_of_getElem? (i := 0) rfl))
  have kp51 : Keep h0 T26.heap [r0] := kp50.trans K26 all0
  have kp52 : Keep h0 h39 [r0] := kp51.wr W39 (Or.inl (List.mem_of_getElem? (i := 0) rfl))
  obtain ⟨fs, hr, hrun, hended, hW, hsame⟩ := X39.leave (v := none) (fun _ => rfl)
  refine ⟨_, _, pre0 _ ?_, hrun, hended, _, _, rfl, ?_, ⟨_, rfl⟩, hW, hsame.mono (by decide) (by decide)⟩
  · show Steps p.tables e below (s₁.setTop (mkF m 0 #[.val (.ref r0), .val (.ref r1), .val (.ref r2)] [])) _
    refine XS.aloadN X0.here hx rfl (hb hby d6_0) rfl rfl ?_
    refine st1 _ ?_
    show Steps p.tables e below (T1.setTop (mkF m 4 #[.val (.ref r0), .val (.ref r1), .val (.ref r2)] [])) _
    refine XS.aloadN X1.here hx rfl (hb hby d6_4) rfl rfl ?_
    refine XS.aloadN X1.here hx rfl (hb hby d6_5) rfl rfl ?_
    refine st5 _ ?_
    show Steps p.tables e below (T5.setTop (mkF m 9 #[.val (.ref r0), .val (.ref r1), .val (.ref r2)] [])) _
    refine XS.aloadN X5.here hx rfl (hb hby d6_9) rfl rfl ?_
    refine XS.aloadN X5.here hx rfl (hb hby d6_10) rfl rfl ?_
    refine st26 _ ?_
    show Steps p.tables e below (T26.setTop (mkF m 14 #[.val (.ref r0), .val (.ref r1), .val (.ref r2)] [(.ref b26_0), (.ref r0)])) _
    refine st39 _ ?_
    show Steps p.tables e below (T39.setTop (mkF m 17 #[.val (.ref r0), .val (.ref r1), .val (.ref r2)] [])) _
    exact X39.returnOut hx Bd.returns (hb hby d6_17) hr
  · show Q6_8 Z r0 r1 r2 r3 r4 c5 r6 r7 r8 h0 n0 _ T39.heap _
    rw [e39]
    exact ⟨b26_0, b26_1, k26_0, rfl, N39, kp52, f40, Fw39, (Nat.le_trans zs41 f27), f42, f45, f46, (Nat.le_trans zs41 f31), f48, f49, f34, f35⟩
def Q0_8 (Z : State) (x0 : Int32) (x1 : Int32) (x2 : Int32) (r3 : Addr) (d4 : Cell) (r5 : Addr) (c6 : ClassId) (r7 : Addr) (h0 : Heap) (n0 : Nat) (v : Option Value) (h : Heap) (L : List Loc) : Prop := v = some (.int (1 : Int32)) ∧ Fr n0 L
set_option maxRecDepth 65536 in
set_option maxHeartbeats 40000000 in
theorem rm0_8 (l : Launch) (Z : State) (a0 : Array Value) (hw : ∀ d ∈ tables_1, d.before a0 Z = true) (ws : List Jvm.Cond) (x0 : Int32) (x1 : Int32) (x2 : Int32) (r3 : Addr) (d4 : Cell) (r5 : Addr) (c6 : ClassId) (r7 : Addr) (h0 : Heap) (n0 : Nat) (O0 : Old Z n0 h0) (hc1 : (x0 &&& (3 : Int32)) = (3 : Int32)) (hc2 : (x2 &&& (1 : Int32)) = (0 : Int32)) (f3 : Sta Z Z.heap cs9 "high" "I" (.int (127 : Int32))) (f4 : Sta Z Z.heap cs9 "cache" "[Ljava/lang/Integer;" (.ref r3)) (f5 : Arr Z Z.heap r3 d4 (.object "java/lang/Integer")) (hc6 : d4.slots.size = 256) (hc7 : ∀ j : Int32, ¬ (j < 0 ∨ d4.slots.size ≤ j.toNatClampNeg) → ∃ r : Addr, d4.slots[j.toNatClampNeg]? = some (.ref r)) (f17 : Sta Z Z.heap "java/util/ArrayList" cs1 "[Ljava/lang/Object;" (.ref r5)) (f57 : Arv Z Z.heap r5 c6 (.object "java/lang/Object") (0 : Int32) [] .null) (f197 : own_Mir Z "[Ljava/lang/Object;" r7) :
    MetFree l x (head1 (Jvm.Cond.code x code maxLocals ret :: ws) room_1) (fun a U => a = #[(.int x0), (.int x1), (.int x2)] ∧ Z.Warmed39 U.vm ∧ U.heap = h0) (fun _ _ _ _ _ => True) (fun _ U o U' => ∃ v L, o = .returned v ∧ Q0_8 Z x0 x1 x2 r3 d4 r5 c6 r7 h0 n0 v U'.heap L ∧ ReturnedEndW U o U' L room_1.cells room_1.slots) := by
  refine MetFree.of_bodySF (plainFor_of_name pn_com_example_weaverbird_weaverbird_bind_BindingHasErrorsPinLaw) hisR ?_
  intro p e s m args below meth c s₁ Bd hml0 hP hK
  obtain ⟨rfl, hZ, hh⟩ := hP
  have hx := Bd.exec
  have hby := Bd.bytes
  have hml : c.maxLocals = 10 := hml0
  have hown : s.vm.findClass cs8 = some m.cls := findClass_of_methodNamed Bd.named
  have hnm := (name_of_methodNamed Bd.named Bd.method).1
  have X0 : Stand p l e room_1 s m #[(.int x0), (.int x1), (.int x2)] below meth c s₁ [] 0 0 := Stand.of_body Bd
  have e0 : s₁.heap = h0 := by rw [← hh, Bd.state]; rfl
  have N0 := Fr.nil n0
  have pre0 : ∀ t, Steps p.tables e below (s₁.setTop (mkF m 0 #[.val (.int x0), .val (.int x1), .val (.int x2), .unset, .unset, .unset, .unset, .unset, .unset, .unset] [])) t → Steps p.tables e below (s₁.setTop (entryFrame m #[(.int x0), (.int x1), (.int x2)] maxLocals)) t := fun t k => castTop (by first | (simp [entryFrame, mkF, argsToLocals, Value.category, maxLocals]; done) | rfl) k
  obtain ⟨_, _, ⟨T8, L8, k8, n8⟩, -, X8, ⟨Lc8, hQ8, l8, y8, z8⟩, st8⟩ := Jvm.LawKit.callS X0 hx (y := (⟨"java/lang/Integer", "valueOf", "(I)Ljava/lang/Integer;"⟩ : MethodName)) hown (mvT hZ (ww hw 0 rfl)) (mvT hZ (ww hw 1 rfl)) (mvT hZ (ww hw 2 rfl)) (mvT hZ (ww hw 3 rfl)) (by decide) (backOf (W := 0) (rmvalueOf l Z a0 hw [] x1 r3 d4 h0 n0 O0 f3 f4 f5 hc6 hc7) hZ (ww hw 3 rfl) (ww hw 2 rfl) (by decide) (by decide)) (g := (mkF m 27 #[.val (.int x0), .val (.int x1), .val (.int x2), .val (.int (3 : Int32)), .val (.int (0 : Int32)), .unset, .unset, .unset, .unset, .unset] [(.int x1)])) rfl (by rw [hml]; rfl) (argsL := [(.int x1)]) (rest := []) (lenOf pd__I_Ljava_lang_Integer_ rfl) rfl (by show 2 * 0 + _ ≤ _; exact Nat.le_of_eq rfl) (hb hby at_27) (fun _ _ => ⟨rfl, e0, (by decide : 0 + 1 ≤ _), (by decide : 0 + 1 ≤ _)⟩)
  dsimp only [Pt.U, Pt.locs, Pt.cells, Pt.slots] at X8 l8 y8 z8 st8 hQ8
  subst l8 y8 z8
  obtain ⟨b8_0, rfl, N8q, K8, f9⟩ := hQ8
  have N8 := Fr.app N0 N8q
  obtain ⟨T10, h10, X10, e10, E10, A10, D10, -, st10⟩ := newO X8 hx hZ hown (ww hw 7 rfl) (ww hw 8 rfl) (ww hw 9 rfl) rfl (g := (mkF m 32 #[.val (.int x0), .val (.int x1), .val (.int x2), .val (.int (3 : Int32)), .val (.int (0 : Int32)), .val (.ref b8_0), .unset, .unset, .unset, .unset] [])) rfl (hb hby at_32) (by decide) (by decide)
  obtain ⟨b10, g10⟩ : ∃ z, z = T8.heap.size := ⟨_, rfl⟩
  rw [← g10] at A10 D10 st10
  have f11 : Fld Z h10 b10 "java/util/AbstractList" "modCount" "I" (.int (0 : Int32)) := D10 (Or.inl (ww hw 29 rfl)) (ty := .int) (by decide)
  have f12 : Fld Z h10 b10 "java/util/ArrayList" "elementData" "[Ljava/lang/Object;" .null := D10 (Or.inl (ww hw 32 rfl)) (ty := (.array (.object "java/lang/Object"))) (by decide)
  have f13 : Fld Z h10 b10 "java/util/ArrayList" "size" "I" (.int (0 : Int32)) := D10 (Or.inl (ww hw 66 rfl)) (ty := .int) (by decide)
  have o15 := Old.keep O0 K8 all0
  have zz14 : n0 ≤ T8.heap.size := by rw [← o15.1]; exact o15.2.1
  have g16 := Nat.le_trans zz14 (Nat.le_of_eq g10.symm)
  have o18 := Old.ext o15 E10
  obtain ⟨_, _, ⟨T19, L19, k19, n19⟩, -, X19, ⟨Lc19, hQ19, l19, y19, z19⟩, st19⟩ := X10.specialBack hx (y := (⟨"java/util/ArrayList", "<init>", "()V"⟩ : MethodName)) rfl hown (mvT hZ (ww hw 10 rfl)) (mvT hZ (ww hw 11 rfl)) (mvT hZ (ww hw 12 rfl)) (by decide) (backOf (W := 1) (rm2_1 l Z a0 hw [] b10 r5 h10 n0 o18 A10 f11 g16 f12 f13 f17) hZ (ww hw 12 rfl) (ww hw 9 rfl) (by decide) (by decide)) (g := (mkF m 36 #[.val (.int x0), .val (.int x1), .val (.int x2), .val (.int (3 : Int32)), .val (.int (0 : Int32)), .val (.ref b8_0), .unset, .unset, .unset, .unset] [(.ref b10), (.ref b10)])) rfl (by rw [hml]; rfl) (Steps.refl _) (a := b10) (argsL := []) (rest := [(.ref b10)]) (lenOf pd___V rfl) rfl (by show 2 * 0 + _ ≤ _; exact Nat.le_of_eq rfl) (hb hby at_36) (fun _ _ => ⟨rfl, e10, (by decide : 2 + 0 ≤ _), (by decide : 4 + 0 ≤ _)⟩)
  dsimp only [Pt.U, Pt.locs, Pt.cells, Pt.slots] at X19 l19 y19 z19 st19 hQ19
  subst l19 y19 z19
  obtain ⟨rfl, N19q, K19, f20, f21, f22⟩ := hQ19
  have N19 := Fr.app N8 N19q
  obtain ⟨T23, h23, X23, e23, E23, A23, D23, -, st23⟩ := newO X19 hx hZ hown (ww hw 103 rfl) (ww hw 104 rfl) (ww hw 105 rfl) rfl (g := (mkF m 48 #[.val (.int x0), .val (.int x1), .val (.int x2), .val (.int (3 : Int32)), .val (.int (0 : Int32)), .val (.ref b8_0), .val (.ref b10), .unset, .unset, .unset] [(.ref b10)])) rfl (hb hby at_48) (by decide) (by decide)
  obtain ⟨b23, g23⟩ : ∃ z, z = T19.heap.size := ⟨_, rfl⟩
  rw [← g23] at A23 D23 st23
  have f24 : Fld Z h23 b23 cs10 "path" "Ljava/lang/String;" .null := D23 (Or.inr (ww hw 122 rfl)) (ty := (.object "java/lang/String")) (by decide)
  have f25 : Fld Z h23 b23 cs10 "code" "Ljava/lang/String;" .null := D23 (Or.inr (ww hw 124 rfl)) (ty := (.object "java/lang/String")) (by decide)
  have f26 : Fld Z h23 b23 cs10 "rejected" "Ljava/lang/String;" .null := D23 (Or.inr (ww hw 126 rfl)) (ty := (.object "java/lang/String")) (by decide)
  have f27 : Fld Z h23 b23 cs10 "message" "Ljava/lang/String;" .null := D23 (Or.inr (ww hw 128 rfl)) (ty := (.object "java/lang/String")) (by decide)
  have hS28 := (State.WarmedH.refl s).since 0
  have hstr : ∀ a ∈ Bundle.stringAtoms, a.before a0 Z = true := fun a q => hw a (own_str a q)
  obtain ⟨a29, T29, h29, kk29, X29, e29, E29, hS29, hk29, hZ29, ho29, st29⟩ := ldcS (s := s) (vm0 := s.vm) X23 hx hZ hown (ww hw 106 rfl) hstr e23 hS28 (Nat.zero_le _) (g := (mkF m 52 #[.val (.int x0), .val (.int x1), .val (.int x2), .val (.int (3 : Int32)), .val (.int (0 : Int32)), .val (.ref b8_0), .val (.ref b10), .unset, .unset, .unset] [(.ref b23), (.ref b23), (.ref b10)])) rfl (hb hby at_52) (n := 4) (by decide) (by decide) (by decide) (by decide)
  obtain ⟨a30, T30, h30, kk30, X30, e30, E30, hS30, hk30, hZ30, ho30, st30⟩ := ldcS (s := s) (vm0 := T29.vm) X29 hx hZ29 ho29 (ww hw 114 rfl) hstr e29 hS29 hk29 (g := (mkF m 54 #[.val (.int x0), .val (.int x1), .val (.int x2), .val (.int (3 : Int32)), .val (.int (0 : Int32)), .val (.ref b8_0), .val (.ref b10), .unset, .unset, .unset] [(.ref a29), (.ref b23), (.ref b23), (.ref b10)])) rfl (hb hby at_54) (n := 32) (by decide) (by decide) (by decide) (by decide)
  obtain ⟨a31, T31, h31, kk31, X31, e31, E31, hS31, hk31, hZ31, ho31, st31⟩ := ldcS (s := s) (vm0 := T30.vm) X30 hx hZ30 ho30 (ww hw 115 rfl) hstr e30 hS30 hk30 (g := (mkF m 56 #[.val (.int x0), .val (.int x1), .val (.int x2), .val (.int (3 : Int32)), .val (.int (0 : Int32)), .val (.ref b8_0), .val (.ref b10), .unset, .unset, .unset] [(.ref a30), (.ref a29), (.ref b23), (.ref b23), (.ref b10)])) rfl (hb hby at_56) (n := 0) (by decide) (by decide) (by decide) (by decide)
  obtain ⟨a32, T32, h32, kk32, X32, e32, E32, hS32, hk32, hZ32, ho32, st32⟩ := ldcS (s := s) (vm0 := T31.vm) X31 hx hZ31 ho31 (ww hw 116 rfl) hstr e31 hS31 hk31 (g := (mkF m 58 #[.val (.int x0), .val (.int x1), .val (.int x2), .val (.int (3 : Int32)), .val (.int (0 : Int32)), .val (.ref b8_0), .val (.ref b10), .unset, .unset, .unset] [(.ref a31), (.ref a30), (.ref a29), (.ref b23), (.ref b23), (.ref b10)])) rfl (hb hby at_58) (n := 4) (by decide) (by decide) (by decide) (by decide)
  have f33 := ((((A23.ext E29).ext E30).ext E31).ext E32)
  have f34 := ((((f24.ext E29).ext E30).ext E31).ext E32)
  have o36 := Old.keep o18 K19 (allS g16 all0)
  have zz35 : n0 ≤ T19.heap.size := by rw [← o36.1]; exact o36.2.1
  have g37 := Nat.le_trans zz35 (Nat.le_of_eq g23.symm)
  have f38 := ((((f25.ext E29).ext E30).ext E31).ext E32)
  have f39 := ((((f26.ext E29).ext E30).ext E31).ext E32)
  have f40 := ((((f27.ext E29).ext E30).ext E31).ext E32)
  have o41 := Old.ext o36 E23
  have o42 := Old.ext o41 E29
  have o43 := Old.ext o42 E30
  have o44 := Old.ext o43 E31
  have o45 := Old.ext o44 E32
  obtain ⟨_, _, ⟨T46, L46, k46, n46⟩, -, X46, ⟨Lc46, hQ46, l46, y46, z46⟩, st46⟩ := X32.specialBack hx (y := (⟨cs10, "<init>", cs11⟩ : MethodName)) rfl ho32 (mvT hZ32 (ww hw 117 rfl)) (mvT hZ32 (ww hw 118 rfl)) (mvT hZ32 (ww hw 119 rfl)) (by decide) (backOf (W := 2) (rm15_1 l Z a0 hw [] b23 a29 a30 a31 a32 h32 n0 o45 f33 f34 g37 f38 f39 f40) hZ32 (ww hw 119 rfl) (ww hw 105 rfl) (by decide) (by decide)) (g := (mkF m 60 #[.val (.int x0), .val (.int x1), .val (.int x2), .val (.int (3 : Int32)), .val (.int (0 : Int32)), .val (.ref b8_0), .val (.ref b10), .unset, .unset, .unset] [(.ref a32), (.ref a31), (.ref a30), (.ref a29), (.ref b23), (.ref b23), (.ref b10)])) rfl (by rw [hml]; rfl) (Steps.refl _) (a := b23) (argsL := [(.ref a29), (.ref a30), (.ref a31), (.ref a32)]) (rest := [(.ref b23), (.ref b10)]) (lenOf pd__Ljava_lang_String_Ljava_lang_String_Ljava_lang_String_Ljava_lang_String__V rfl) rfl (by show 2 * 0 + _ ≤ _; exact Nat.le_of_eq rfl) (hb hby at_60) (fun _ _ => ⟨rfl, e32, (by decide : 11 + 0 ≤ _), (by decide : 64 + 0 ≤ _)⟩)
  dsimp only [Pt.U, Pt.locs, Pt.cells, Pt.slots] at X46 l46 y46 z46 st46 hQ46
  subst l46 y46 z46
  obtain ⟨rfl, N46q, K46, f47, f48, f49, f50⟩ := hQ46
  have N46 := Fr.app N19 N46q
  have zs51 := K19.1
  have n52 := Nat.ne_of_lt (Nat.lt_of_lt_of_le (Nat.lt_of_lt_of_le A10.lt zs51) (Nat.le_of_eq g23.symm))
  have f53 := ((((((f20.ext E23).ext E29).ext E30).ext E31).ext E32).keep K46 (ninS n52 nin0))
  have f54 := (((((((A10.keep K19).ext E23).ext E29).ext E30).ext E31).ext E32).keep K46)
  have f55 := ((((((f21.ext E23).ext E29).ext E30).ext E31).ext E32).keep K46 (ninS n52 nin0))
  have f56 := ((((((f22.ext E23).ext E29).ext E30).ext E31).ext E32).keep K46 (ninS n52 nin0))
  have zs58 := Nat.le_trans zs51 E23.1
  have zs59 := Nat.le_trans zs58 E29.1
  have zs60 := Nat.le_trans zs59 E30.1
  have zs61 := Nat.le_trans zs60 E31.1
  have zs62 := Nat.le_trans zs61 E32.1
  have zs63 := Nat.le_trans zs62 K46.1
  have f64 := (f33.keep K46)
  have o65 := Old.keep o45 K46 (allS g37 all0)
  obtain ⟨cqq67, kqq67, qq67a, qq67b, qq67c⟩ := isOf hZ32 rfl f54
  obtain ⟨_, _, ⟨T66, L66, k66, n66⟩, -, X66, ⟨Lc66, hQ66, l66, y66, z66⟩, st66⟩ := X46.virtualBack hx (y := (⟨"java/util/ArrayList", "add", "(Ljava/lang/Object;)Z"⟩ : MethodName)) (z := (⟨"java/util/ArrayList", "add", "(Ljava/lang/Object;)Z"⟩ : MethodName)) ho32 (mvT hZ32 (ww hw 129 rfl)) (mvT hZ32 (ww hw 130 rfl)) (notFace_of_selects (args := #[]) (mvT hZ32 (ww hw 132 rfl))) (mvT hZ32 (ww hw 132 rfl)) (mvT hZ32 (ww hw 131 rfl)) (by decide) (backOf (W := 0) (rm16_1 l Z a0 hw [] b10 b23 r5 c6 T46.heap n0 o65 f53 f54 g16 f55 f56 f57 f17 (Nat.lt_of_lt_of_le A10.lt zs63) f64) hZ32 (ww hw 133 rfl) (ww hw 9 rfl) (by decide) (by decide)) qq67a qq67c (g := (mkF m 63 #[.val (.int x0), .val (.int x1), .val (.int x2), .val (.int (3 : Int32)), .val (.int (0 : Int32)), .val (.ref b8_0), .val (.ref b10), .unset, .unset, .unset] [(.ref b23), (.ref b10)])) rfl (by rw [hml]; rfl) (Steps.refl _) (argsL := [(.ref b23)]) (rest := []) (lenOf pd__Ljava_lang_Object__Z rfl) rfl (by show 2 * 0 + _ ≤ _; exact Nat.le_of_eq rfl) (hb hby at_63) (fun _ _ => ⟨rfl, rfl, (by decide : 11 + 1 ≤ _), (by decide : 64 + 10 ≤ _)⟩)
  dsimp only [Pt.U, Pt.locs, Pt.cells, Pt.slots] at X66 l66 y66 z66 st66 hQ66
  subst l66 y66 z66
  obtain ⟨b66_0, k66_0, rfl, N66q, K66, f68, f69, f70, f71, f72, f73, f74⟩ := hQ66
  have N66 := Fr.app N46 N66q
  obtain ⟨T75, h75, X75, e75, E75, A75, D75, -, st75⟩ := newO X66 hx hZ32 ho32 (ww hw 103 rfl) (ww hw 104 rfl) (ww hw 105 rfl) rfl (g := (mkF m 74 #[.val (.int x0), .val (.int x1), .val (.int x2), .val (.int (3 : Int32)), .val (.int (0 : Int32)), .val (.ref b8_0), .val (.ref b10), .unset, .unset, .unset] [(.ref b10)])) rfl (hb hby at_74) (by decide) (by decide)
  obtain ⟨b75, g75⟩ : ∃ z, z = T66.heap.size := ⟨_, rfl⟩
  rw [← g75] at A75 D75 st75
  have f76 : Fld Z h75 b75 cs10 "path" "Ljava/lang/String;" .null := D75 (Or.inr (ww hw 122 rfl)) (ty := (.object "java/lang/String")) (by decide)
  have f77 : Fld Z h75 b75 cs10 "code" "Ljava/lang/String;" .null := D75 (Or.inr (ww hw 124 rfl)) (ty := (.object "java/lang/String")) (by decide)
  have f78 : Fld Z h75 b75 cs10 "rejected" "Ljava/lang/String;" .null := D75 (Or.inr (ww hw 126 rfl)) (ty := (.object "java/lang/String")) (by decide)
  have f79 : Fld Z h75 b75 cs10 "message" "Ljava/lang/String;" .null := D75 (Or.inr (ww hw 128 rfl)) (ty := (.object "java/lang/String")) (by decide)
  have zs81 := K46.1
  have zs82 := Nat.le_trans zs81 K66.1
  have zs83 := Nat.le_trans zs82 E75.1
  obtain ⟨a80, T80, h80, kk80, X80, e80, E80, hS80, hk80, hZ80, ho80, st80⟩ := ldcS (s := s) (vm0 := T32.vm) X75 hx hZ32 ho32 (ww hw 232 rfl) hstr e75 hS32 (Nat.le_trans hk32 zs83) (g := (mkF m 78 #[.val (.int x0), .val (.int x1), .val (.int x2), .val (.int (3 : Int32)), .val (.int (0 : Int32)), .val (.ref b8_0), .val (.ref b10), .unset, .unset, .unset] [(.ref b75), (.ref b75), (.ref b10)])) rfl (hb hby at_78) (n := 4) (by decide) (by decide) (by decide) (by decide)
  obtain ⟨a84, T84, h84, kk84, X84, e84, E84, hS84, hk84, hZ84, ho84, st84⟩ := ldcS (s := s) (vm0 := T80.vm) X80 hx hZ80 ho80 (ww hw 233 rfl) hstr e80 hS80 hk80 (g := (mkF m 80 #[.val (.int x0), .val (.int x1), .val (.int x2), .val (.int (3 : Int32)), .val (.int (0 : Int32)), .val (.ref b8_0), .val (.ref b10), .unset, .unset, .unset] [(.ref a80), (.ref b75), (.ref b75), (.ref b10)])) rfl (hb hby at_80) (n := 20) (by decide) (by decide) (by decide) (by decide)
  obtain ⟨a85, T85, h85, kk85, X85, e85, E85, hS85, hk85, hZ85, ho85, st85⟩ := ldcS (s := s) (vm0 := T84.vm) X84 hx hZ84 ho84 (ww hw 116 rfl) hstr e84 hS84 hk84 (g := (mkF m 83 #[.val (.int x0), .val (.int x1), .val (.int x2), .val (.int (3 : Int32)), .val (.int (0 : Int32)), .val (.ref b8_0), .val (.ref b10), .unset, .unset, .unset] [.null, (.ref a84), (.ref a80), (.ref b75), (.ref b75), (.ref b10)])) rfl (hb hby at_83) (n := 4) (by decide) (by decide) (by decide) (by decide)
  have f86 := (((A75.ext E80).ext E84).ext E85)
  have f87 := (((f76.ext E80).ext E84).ext E85)
  have o89 := Old.keep o65 K66 (allS g16 all0)
  have zz88 : n0 ≤ T66.heap.size := by rw [← o89.1]; exact o89.2.1
  have g90 := Nat.le_trans zz88 (Nat.le_of_eq g75.symm)
  have f91 := (((f77.ext E80).ext E84).ext E85)
  have f92 := (((f78.ext E80).ext E84).ext E85)
  have f93 := (((f79.ext E80).ext E84).ext E85)
  have o94 := Old.ext o89 E75
  have o95 := Old.ext o94 E80
  have o96 := Old.ext o95 E84
  have o97 := Old.ext o96 E85
  obtain ⟨_, _, ⟨T98, L98, k98, n98⟩, -, X98, ⟨Lc98, hQ98, l98, y98, z98⟩, st98⟩ := X85.specialBack hx (y := (⟨cs10, "<init>", cs11⟩ : MethodName)) rfl ho85 (mvT hZ85 (ww hw 117 rfl)) (mvT hZ85 (ww hw 118 rfl)) (mvT hZ85 (ww hw 119 rfl)) (by decide) (backOf (W := 2) (rm15_2 l Z a0 hw [] b75 a80 a84 a85 h85 n0 o97 f86 f87 g90 f91 f92 f93) hZ85 (ww hw 119 rfl) (ww hw 105 rfl) (by decide) (by decide)) (g := (mkF m 85 #[.val (.int x0), .val (.int x1), .val (.int x2), .val (.int (3 : Int32)), .val (.int (0 : Int32)), .val (.ref b8_0), .val (.ref b10), .unset, .unset, .unset] [(.ref a85), .null, (.ref a84), (.ref a80), (.ref b75), (.ref b75), (.ref b10)])) rfl (by rw [hml]; rfl) (Steps.refl _) (a := b75) (argsL := [(.ref a80), (.ref a84), .null, (.ref a85)]) (rest := [(.ref b75), (.ref b10)]) (lenOf pd__Ljava_lang_String_Ljava_lang_String_Ljava_lang_String_Ljava_lang_String__V rfl) rfl (by show 2 * 0 + _ ≤ _; exact Nat.le_of_eq rfl) (hb hby at_85) (fun _ _ => ⟨rfl, e85, (by decide : 19 + 0 ≤ _), (by decide : 118 + 0 ≤ _)⟩)
  dsimp only [Pt.U, Pt.locs, Pt.cells, Pt.slots] at X98 l98 y98 z98 st98 hQ98
  subst l98 y98 z98
  obtain ⟨rfl, N98q, K98, f99, f100, f101, f102⟩ := hQ98
  have N98 := Fr.app N66 N98q
  have zs103 := Nat.le_trans zs63 K66.1
  have n104 := Nat.ne_of_lt (Nat.lt_of_lt_of_le (Nat.lt_of_lt_of_le A10.lt zs103) (Nat.le_of_eq g75.symm))
  have f105 := (((((f70.ext E75).ext E80).ext E84).ext E85).keep K98 (ninS n104 nin0))
  have f106 := ((((((f54.keep K66).ext E75).ext E80).ext E84).ext E85).keep K98)
  have f107 := (((((f68.ext E75).ext E80).ext E84).ext E85).keep K98 (ninS n104 nin0))
  have f108 := (((((f69.ext E75).ext E80).ext E84).ext E85).keep K98 (ninS n104 nin0))
  have n109 := Nat.ne_of_lt (Nat.lt_of_lt_of_le f72.lt (Nat.le_of_eq g75.symm))
  have f110 := (((((f72.ext E75).ext E80).ext E84).ext E85).keep K98 (ninS n109 nin0))
  have n111 := Nat.ne_of_lt (Nat.lt_of_lt_of_le (Nat.lt_of_lt_of_le A10.lt zs63) f71)
  have f112 := (f86.keep K98)
  have zz113 : n0 ≤ T46.heap.size := by rw [← o65.1]; exact o65.2.1
  have g114 := Nat.le_trans zz113 f71
  have o115 := Old.keep o97 K98 (allS g90 all0)
  obtain ⟨cqq117, kqq117, qq117a, qq117b, qq117c⟩ := isOf hZ85 rfl f106
  obtain ⟨_, _, ⟨T116, L116, k116, n116⟩, -, X116, ⟨Lc116, hQ116, l116, y116, z116⟩, st116⟩ := X98.virtualBack hx (y := (⟨"java/util/ArrayList", "add", "(Ljava/lang/Object;)Z"⟩ : MethodName)) (z := (⟨"java/util/ArrayList", "add", "(Ljava/lang/Object;)Z"⟩ : MethodName)) ho85 (mvT hZ85 (ww hw 129 rfl)) (mvT hZ85 (ww hw 130 rfl)) (notFace_of_selects (args := #[]) (mvT hZ85 (ww hw 132 rfl))) (mvT hZ85 (ww hw 132 rfl)) (mvT hZ85 (ww hw 131 rfl)) (by decide) (backOf (W := 0) (rm16_2 l Z a0 hw [] b10 b75 b66_0 k66_0 b23 T98.heap n0 o115 f105 f106 g16 f107 f108 f110 (Ne.symm n111) f74 f112 g114) hZ85 (ww hw 133 rfl) (ww hw 9 rfl) (by decide) (by decide)) qq117a qq117c (g := (mkF m 88 #[.val (.int x0), .val (.int x1), .val (.int x2), .val (.int (3 : Int32)), .val (.int (0 : Int32)), .val (.ref b8_0), .val (.ref b10), .unset, .unset, .unset] [(.ref b75), (.ref b10)])) rfl (by rw [hml]; rfl) (Steps.refl _) (argsL := [(.ref b75)]) (rest := []) (lenOf pd__Ljava_lang_Object__Z rfl) rfl (by show 2 * 0 + _ ≤ _; exact Nat.le_of_eq rfl) (hb hby at_88) (fun _ _ => ⟨rfl, rfl, (by decide : 19 + 0 ≤ _), (by decide : 118 + 0 ≤ _)⟩)
  dsimp only [Pt.U, Pt.locs, Pt.cells, Pt.slots] at X116 l116 y116 z116 st116 hQ116
  subst l116 y116 z116
  obtain ⟨rfl, N116q, K116, f118, f119, f120, f121⟩ := hQ116
  have N116 := Fr.app N98 N116q
  obtain ⟨T122, h122, X122, e122, E122, A122, D122, -, st122⟩ := newO X116 hx hZ85 ho85 (ww hw 103 rfl) (ww hw 104 rfl) (ww hw 105 rfl) rfl (g := (mkF m 99 #[.val (.int x0), .val (.int x1), .val (.int x2), .val (.int (3 : Int32)), .val (.int (0 : Int32)), .val (.ref b8_0), .val (.ref b10), .unset, .unset, .unset] [(.ref b10)])) rfl (hb hby at_99) (by decide) (by decide)
  obtain ⟨b122, g122⟩ : ∃ z, z = T116.heap.size := ⟨_, rfl⟩
  rw [← g122] at A122 D122 st122
  have f123 : Fld Z h122 b122 cs10 "path" "Ljava/lang/String;" .null := D122 (Or.inr (ww hw 122 rfl)) (ty := (.object "java/lang/String")) (by decide)
  have f124 : Fld Z h122 b122 cs10 "code" "Ljava/lang/String;" .null := D122 (Or.inr (ww hw 124 rfl)) (ty := (.object "java/lang/String")) (by decide)
  have f125 : Fld Z h122 b122 cs10 "rejected" "Ljava/lang/String;" .null := D122 (Or.inr (ww hw 126 rfl)) (ty := (.object "java/lang/String")) (by decide)
  have f126 : Fld Z h122 b122 cs10 "message" "Ljava/lang/String;" .null := D122 (Or.inr (ww hw 128 rfl)) (ty := (.object "java/lang/String")) (by decide)
  have zs128 := K98.1
  have zs129 := Nat.le_trans zs128 K116.1
  have zs130 := Nat.le_trans zs129 E122.1
  obtain ⟨a127, T127, h127, kk127, X127, e127, E127, hS127, hk127, hZ127, ho127, st127⟩ := ldcS (s := s) (vm0 := T85.vm) X122 hx hZ85 ho85 (ww hw 115 rfl) hstr e122 hS85 (Nat.le_trans hk85 zs130) (g := (mkF m 103 #[.val (.int x0), .val (.int x1), .val (.int x2), .val (.int (3 : Int32)), .val (.int (0 : Int32)), .val (.ref b8_0), .val (.ref b10), .unset, .unset, .unset] [(.ref b122), (.ref b122), (.ref b10)])) rfl (hb hby at_103) (n := 0) (by decide) (by decide) (by decide) (by decide)
  obtain ⟨a131, T131, h131, kk131, X131, e131, E131, hS131, hk131, hZ131, ho131, st131⟩ := ldcS (s := s) (vm0 := T127.vm) X127 hx hZ127 ho127 (ww hw 234 rfl) hstr e127 hS127 hk127 (g := (mkF m 105 #[.val (.int x0), .val (.int x1), .val (.int x2), .val (.int (3 : Int32)), .val (.int (0 : Int32)), .val (.ref b8_0), .val (.ref b10), .unset, .unset, .unset] [(.ref a127), (.ref b122), (.ref b122), (.ref b10)])) rfl (hb hby at_105) (n := 36) (by decide) (by decide) (by decide) (by decide)
  obtain ⟨a132, T132, h132, kk132, X132, e132, E132, hS132, hk132, hZ132, ho132, st132⟩ := ldcS (s := s) (vm0 := T131.vm) X131 hx hZ131 ho131 (ww hw 235 rfl) hstr e131 hS131 hk131 (g := (mkF m 107 #[.val (.int x0), .val (.int x1), .val (.int x2), .val (.int (3 : Int32)), .val (.int (0 : Int32)), .val (.ref b8_0), .val (.ref b10), .unset, .unset, .unset] [(.ref a131), (.ref a127), (.ref b122), (.ref b122), (.ref b10)])) rfl (hb hby at_107) (n := 4) (by decide) (by decide) (by decide) (by decide)
  obtain ⟨a133, T133, h133, kk133, X133, e133, E133, hS133, hk133, hZ133, ho133, st133⟩ := ldcS (s := s) (vm0 := T132.vm) X132 hx hZ132 ho132 (ww hw 116 rfl) hstr e132 hS132 hk132 (g := (mkF m 109 #[.val (.int x0), .val (.int x1), .val (.int x2), .val (.int (3 : Int32)), .val (.int (0 : Int32)), .val (.ref b8_0), .val (.ref b10), .unset, .unset, .unset] [(.ref a132), (.ref a131), (.ref a127), (.ref b122), (.ref b122), (.ref b10)])) rfl (hb hby at_109) (n := 4) (by decide) (by decide) (by decide) (by decide)
  have f134 := ((((A122.ext E127).ext E131).ext E132).ext E133)
  have f135 := ((((f123.ext E127).ext E131).ext E132).ext E133)
  have o137 := Old.keep o115 K116 (allS g16 (allS g114 all0))
  have zz136 : n0 ≤ T116.heap.size := by rw [← o137.1]; exact o137.2.1
  have g138 := Nat.le_trans zz136 (Nat.le_of_eq g122.symm)
  have f139 := ((((f124.ext E127).ext E131).ext E132).ext E133)
  have f140 := ((((f125.ext E127).ext E131).ext E132).ext E133)
  have f141 := ((((f126.ext E127).ext E131).ext E132).ext E133)
  have o142 := Old.ext o137 E122
  have o143 := Old.ext o142 E127
  have o144 := Old.ext o143 E131
  have o145 := Old.ext o144 E132
  have o146 := Old.ext o145 E133
  obtain ⟨_, _, ⟨T147, L147, k147, n147⟩, -, X147, ⟨Lc147, hQ147, l147, y147, z147⟩, st147⟩ := X133.specialBack hx (y := (⟨cs10, "<init>", cs11⟩ : MethodName)) rfl ho133 (mvT hZ133 (ww hw 117 rfl)) (mvT hZ133 (ww hw 118 rfl)) (mvT hZ133 (ww hw 119 rfl)) (by decide) (backOf (W := 2) (rm15_1 l Z a0 hw [] b122 a127 a131 a132 a133 h133 n0 o146 f134 f135 g138 f139 f140 f141) hZ133 (ww hw 119 rfl) (ww hw 105 rfl) (by decide) (by decide)) (g := (mkF m 111 #[.val (.int x0), .val (.int x1), .val (.int x2), .val (.int (3 : Int32)), .val (.int (0 : Int32)), .val (.ref b8_0), .val (.ref b10), .unset, .unset, .unset] [(.ref a133), (.ref a132), (.ref a131), (.ref a127), (.ref b122), (.ref b122), (.ref b10)])) rfl (by rw [hml]; rfl) (Steps.refl _) (a := b122) (argsL := [(.ref a127), (.ref a131), (.ref a132), (.ref a133)]) (rest := [(.ref b122), (.ref b10)]) (lenOf pd__Ljava_lang_String_Ljava_lang_String_Ljava_lang_String_Ljava_lang_String__V rfl) rfl (by show 2 * 0 + _ ≤ _; exact Nat.le_of_eq rfl) (hb hby at_111) (fun _ _ => ⟨rfl, e133, (by decide : 28 + 0 ≤ _), (by decide : 182 + 0 ≤ _)⟩)
  dsimp only [Pt.U, Pt.locs, Pt.cells, Pt.slots] at X147 l147 y147 z147 st147 hQ147
  subst l147 y147 z147
  obtain ⟨rfl, N147q, K147, f148, f149, f150, f151⟩ := hQ147
  have N147 := Fr.app N116 N147q
  have zs152 := Nat.le_trans zs103 E75.1
  have zs153 := Nat.le_trans zs152 E80.1
  have zs154 := Nat.le_trans zs153 E84.1
  have zs155 := Nat.le_trans zs154 E85.1
  have zs156 := Nat.le_trans zs155 K98.1
  have zs157 := Nat.le_trans zs156 K116.1
  have n158 := Nat.ne_of_lt (Nat.lt_of_lt_of_le (Nat.lt_of_lt_of_le A10.lt zs157) (Nat.le_of_eq g122.symm))
  have f159 := ((((((f119.ext E122).ext E127).ext E131).ext E132).ext E133).keep K147 (ninS n158 nin0))
  have f160 := (((((((f106.keep K116).ext E122).ext E127).ext E131).ext E132).ext E133).keep K147)
  have f161 := ((((((f120.ext E122).ext E127).ext E131).ext E132).ext E133).keep K147 (ninS n158 nin0))
  have f162 := ((((((f118.ext E122).ext E127).ext E131).ext E132).ext E133).keep K147 (ninS n158 nin0))
  have zs163 := E75.1
  have zs164 := Nat.le_trans zs163 E80.1
  have zs165 := Nat.le_trans zs164 E84.1
  have zs166 := Nat.le_trans zs165 E85.1
  have zs167 := Nat.le_trans zs166 K98.1
  have zs168 := Nat.le_trans zs167 K116.1
  have n169 := Nat.ne_of_lt (Nat.lt_of_lt_of_le (Nat.lt_of_lt_of_le f72.lt zs168) (Nat.le_of_eq g122.symm))
  have f170 := ((((((f121.ext E122).ext E127).ext E131).ext E132).ext E133).keep K147 (ninS n169 nin0))
  have f171 := (f134.keep K147)
  have o172 := Old.keep o146 K147 (allS g138 all0)
  obtain ⟨cqq174, kqq174, qq174a, qq174b, qq174c⟩ := isOf hZ133 rfl f160
  obtain ⟨_, _, ⟨T173, L173, k173, n173⟩, -, X173, ⟨Lc173, hQ173, l173, y173, z173⟩, st173⟩ := X147.virtualBack hx (y := (⟨"java/util/ArrayList", "add", "(Ljava/lang/Object;)Z"⟩ : MethodName)) (z := (⟨"java/util/ArrayList", "add", "(Ljava/lang/Object;)Z"⟩ : MethodName)) ho133 (mvT hZ133 (ww hw 129 rfl)) (mvT hZ133 (ww hw 130 rfl)) (notFace_of_selects (args := #[]) (mvT hZ133 (ww hw 132 rfl))) (mvT hZ133 (ww hw 132 rfl)) (mvT hZ133 (ww hw 131 rfl)) (by decide) (backOf (W := 0) (rm16_3 l Z a0 hw [] b10 b122 b66_0 k66_0 b23 b75 T147.heap n0 o172 f159 f160 g16 f161 f162 f170 (Ne.symm n111) f74 f171 g114) hZ133 (ww hw 133 rfl) (ww hw 9 rfl) (by decide) (by decide)) qq174a qq174c (g := (mkF m 114 #[.val (.int x0), .val (.int x1), .val (.int x2), .val (.int (3 : Int32)), .val (.int (0 : Int32)), .val (.ref b8_0), .val (.ref b10), .unset, .unset, .unset] [(.ref b122), (.ref b10)])) rfl (by rw [hml]; rfl) (Steps.refl _) (argsL := [(.ref b122)]) (rest := []) (lenOf pd__Ljava_lang_Object__Z rfl) rfl (by show 2 * 0 + _ ≤ _; exact Nat.le_of_eq rfl) (hb hby at_114) (fun _ _ => ⟨rfl, rfl, (by decide : 28 + 0 ≤ _), (by decide : 182 + 0 ≤ _)⟩)
  dsimp only [Pt.U, Pt.locs, Pt.cells, Pt.slots] at X173 l173 y173 z173 st173 hQ173
  subst l173 y173 z173
  obtain ⟨rfl, N173q, K173, f175, f176, f177, f178⟩ := hQ173
  have N173 := Fr.app N147 N173q
  obtain ⟨T179, h179, X179, e179, E179, A179, D179, -, st179⟩ := newO X173 hx hZ133 ho133 (ww hw 33 rfl) (ww hw 34 rfl) (ww hw 35 rfl) rfl (g := (mkF m 118 #[.val (.int x0), .val (.int x1), .val (.int x2), .val (.int (3 : Int32)), .val (.int (0 : Int32)), .val (.ref b8_0), .val (.ref b10), .unset, .unset, .unset] [])) rfl (hb hby at_118) (by decide) (by decide)
  obtain ⟨b179, g179⟩ : ∃ z, z = T173.heap.size := ⟨_, rfl⟩
  rw [← g179] at A179 D179 st179
  have f180 : Fld Z h179 b179 cs5 "value" "Ljava/lang/Object;" .null := D179 (Or.inr (ww hw 41 rfl)) (ty := (.object "java/lang/Object")) (by decide)
  have f181 : Fld Z h179 b179 cs5 "errors" "Ljava/util/List;" .null := D179 (Or.inr (ww hw 72 rfl)) (ty := (.object "java/util/List")) (by decide)
  have o183 := Old.keep o172 K173 (allS g16 (allS g114 all0))
  have zz182 : n0 ≤ T173.heap.size := by rw [← o183.1]; exact o183.2.1
  have g184 := Nat.le_trans zz182 (Nat.le_of_eq g179.symm)
  have f185 := ((f160.keep K173).ext E179)
  have f186 := (f175.ext E179)
  have zs187 := Nat.le_trans zs157 E122.1
  have zs188 := Nat.le_trans zs187 E127.1
  have zs189 := Nat.le_trans zs188 E131.1
  have zs190 := Nat.le_trans zs189 E132.1
  have zs191 := Nat.le_trans zs190 E133.1
  have zs192 := Nat.le_trans zs191 K147.1
  have zs193 := Nat.le_trans zs192 K173.1
  have n194 := Nat.ne_of_lt (Nat.lt_of_lt_of_le (Nat.lt_of_lt_of_le A10.lt zs193) (Nat.le_of_eq g179.symm))
  have f195 := (f177.ext E179)
  have f196 := ((((((((((((((f73.ext E75).ext E80).ext E84).ext E85).keep K98).keep K116).ext E122).ext E127).ext E131).ext E132).ext E133).keep K147).keep K173).ext E179)
  have f198 := (f178.ext E179)
  have zs199 := Nat.le_trans zs168 E122.1
  have zs200 := Nat.le_trans zs199 E127.1
  have zs201 := Nat.le_trans zs200 E131.1
  have zs202 := Nat.le_trans zs201 E132.1
  have zs203 := Nat.le_trans zs202 E133.1
  have zs204 := Nat.le_trans zs203 K147.1
  have zs205 := Nat.le_trans zs204 K173.1
  have n206 := Nat.ne_of_lt (Nat.lt_of_lt_of_le (Nat.lt_of_lt_of_le f72.lt zs205) (Nat.le_of_eq g179.symm))
  have f207 := ((f171.keep K173).ext E179)
  have f208 := (((((((((f112.keep K116).ext E122).ext E127).ext E131).ext E132).ext E133).keep K147).keep K173).ext E179)
  have f209 := (((((((((((((((f64.keep K66).ext E75).ext E80).ext E84).ext E85).keep K98).keep K116).ext E122).ext E127).ext E131).ext E132).ext E133).keep K147).keep K173).ext E179)
  have o210 := Old.ext o183 E179
  obtain ⟨_, _, ⟨T211, L211, k211, n211⟩, -, X211, ⟨Lc211, hQ211, l211, y211, z211⟩, st211⟩ := X179.specialBack hx (y := (⟨cs5, "<init>", cs6⟩ : MethodName)) rfl ho133 (mvT hZ133 (ww hw 36 rfl)) (mvT hZ133 (ww hw 37 rfl)) (mvT hZ133 (ww hw 38 rfl)) (by decide) (backOf (W := 1) (rm6_8 l Z a0 hw [] b179 b8_0 b10 b66_0 r7 k66_0 b23 b75 b122 h179 n0 o210 A179 f180 g184 f185 f186 n194 f195 f196 f197 f198 n206 f207 f208 f209 f181 A179.lt) hZ133 (ww hw 38 rfl) (ww hw 35 rfl) (by decide) (by decide)) (g := (mkF m 126 #[.val (.int x0), .val (.int x1), .val (.int x2), .val (.int (3 : Int32)), .val (.int (0 : Int32)), .val (.ref b8_0), .val (.ref b10), .unset, .unset, .unset] [(.ref b10), (.ref b8_0), (.ref b179), (.ref b179)])) rfl (by rw [hml]; rfl) (Steps.refl _) (a := b179) (argsL := [(.ref b8_0), (.ref b10)]) (rest := [(.ref b179)]) (lenOf pd__Ljava_lang_Object_Ljava_util_List__V rfl) rfl (by show 2 * 0 + _ ≤ _; exact Nat.le_of_eq rfl) (hb hby at_126) (fun _ _ => ⟨rfl, e179, (by decide : 29 + 3 ≤ _), (by decide : 184 + 8 ≤ _)⟩)
  dsimp only [Pt.U, Pt.locs, Pt.cells, Pt.slots] at X211 l211 y211 z211 st211 hQ211
  subst l211 y211 z211
  obtain ⟨b211_0, b211_1, k211_0, rfl, N211q, K211, f212, f213, f214, f215, f216, f217, f218, f219, f220, f221, f222⟩ := hQ211
  have N211 := Fr.app N173 N211q
  have o223 := Old.keep o210 K211 (allS g184 all0)
  have f225 := (A179.keep K211)
  obtain ⟨cqq226, kqq226, qq226a, qq226b, qq226c⟩ := isOf hZ133 rfl f225
  obtain ⟨_, _, ⟨T224, L224, k224, n224⟩, -, X224, ⟨Lc224, hQ224, l224, y224, z224⟩, st224⟩ := X211.virtualBack hx (y := (⟨cs5, "hasErrors", "()Z"⟩ : MethodName)) (z := (⟨cs5, "hasErrors", "()Z"⟩ : MethodName)) ho133 (mvT hZ133 (ww hw 73 rfl)) (mvT hZ133 (ww hw 74 rfl)) (notFace_of_selects (args := #[]) (mvT hZ133 (ww hw 76 rfl))) (mvT hZ133 (ww hw 76 rfl)) (mvT hZ133 (ww hw 75 rfl)) (by decide) (backOf (W := 0) (rm11_3 l Z a0 hw [] b179 b211_0 b211_1 k211_0 b23 b75 b122 T211.heap n0 o223 f213 f215 f216 f219) hZ133 (ww hw 77 rfl) (ww hw 35 rfl) (by decide) (by decide)) qq226a qq226c (g := (mkF m 133 #[.val (.int x0), .val (.int x1), .val (.int x2), .val (.int (3 : Int32)), .val (.int (0 : Int32)), .val (.ref b8_0), .val (.ref b10), .val (.ref b179), .unset, .unset] [(.ref b179)])) rfl (by rw [hml]; rfl) (Steps.refl _) (argsL := []) (rest := []) (lenOf pd___Z rfl) rfl (by show 2 * 0 + _ ≤ _; exact Nat.le_of_eq rfl) (hb hby at_133) (fun _ _ => ⟨rfl, rfl, (by decide : 32 + 0 ≤ _), (by decide : 192 + 0 ≤ _)⟩)
  dsimp only [Pt.U, Pt.locs, Pt.cells, Pt.slots] at X224 l224 y224 z224 st224 hQ224
  subst l224 y224 z224
  obtain ⟨rfl, N224q, E224⟩ := hQ224
  have N224 := Fr.app N211 N224q
  obtain ⟨cqq228, kqq228, qq228a, qq228b, qq228c⟩ := isOf hZ133 E224 f225
  obtain ⟨_, _, ⟨T227, L227, k227, n227⟩, -, X227, ⟨Lc227, hQ227, l227, y227, z227⟩, st227⟩ := X224.virtualBack hx (y := (⟨cs5, "errors", "()Ljava/util/List;"⟩ : MethodName)) (z := (⟨cs5, "errors", "()Ljava/util/List;"⟩ : MethodName)) ho133 (mvT hZ133 (ww hw 90 rfl)) (mvT hZ133 (ww hw 91 rfl)) (notFace_of_selects (args := #[]) (mvT hZ133 (ww hw 93 rfl))) (mvT hZ133 (ww hw 93 rfl)) (mvT hZ133 (ww hw 92 rfl)) (by decide) (backOf (W := 0) (rm13_1 l Z a0 hw [] b179 b211_0 T211.heap n0 o223 f213) hZ133 (ww hw 94 rfl) (ww hw 35 rfl) (by decide) (by decide)) qq228a qq228c (g := (mkF m 140 #[.val (.int x0), .val (.int x1), .val (.int x2), .val (.int (3 : Int32)), .val (.int (0 : Int32)), .val (.ref b8_0), .val (.ref b10), .val (.ref b179), .val (.int (1 : Int32)), .unset] [(.ref b179)])) rfl (by rw [hml]; rfl) (Steps.refl _) (argsL := []) (rest := []) (lenOf pd___Ljava_util_List_ rfl) rfl (by show 2 * 0 + _ ≤ _; exact Nat.le_of_eq rfl) (hb hby at_140) (fun _ _ => ⟨rfl, E224, (by decide : 32 + 0 ≤ _), (by decide : 192 + 0 ≤ _)⟩)
  dsimp only [Pt.U, Pt.locs, Pt.cells, Pt.slots] at X227 l227 y227 z227 st227 hQ227
  subst l227 y227 z227
  obtain ⟨rfl, N227q, E227⟩ := hQ227
  have N227 := Fr.app N224 N227q
  obtain ⟨cqq230, kqq230, qq230a, qq230b, qq230c⟩ := isOf hZ133 E227 f215
  obtain ⟨_, _, ⟨T229, L229, k229, n229⟩, -, X229, ⟨Lc229, hQ229, l229, y229, z229⟩, st229⟩ := X227.interfaceBack hx (xi := (⟨"java/util/List", "size", "()I"⟩ : MethodName)) (y := (⟨cs7, "size", "()I"⟩ : MethodName)) ho133 (mvT hZ133 (ww hw 95 rfl)) (mvT hZ133 (ww hw 96 rfl)) (mvT hZ133 (ww hw 97 rfl)) (mvT hZ133 (ww hw 98 rfl)) (mvT hZ133 (ww hw 99 rfl)) (mvT hZ133 (ww hw 100 rfl)) (mvT hZ133 (ww hw 101 rfl)) (mvT hZ133 (ww hw 85 rfl)) (by decide) (backOf (W := 0) (rm14_2 l Z a0 hw [] b211_0 b211_1 k211_0 b23 b75 b122 T211.heap n0 o223 f216 f219) hZ133 (ww hw 102 rfl) (ww hw 86 rfl) (by decide) (by decide)) qq230a qq230b qq230c (g := (mkF m 143 #[.val (.int x0), .val (.int x1), .val (.int x2), .val (.int (3 : Int32)), .val (.int (0 : Int32)), .val (.ref b8_0), .val (.ref b10), .val (.ref b179), .val (.int (1 : Int32)), .unset] [(.ref b211_0)])) rfl (by rw [hml]; rfl) (Steps.refl _) (argsL := []) (rest := []) (lenOf pd___I rfl) rfl (by show 2 * 0 + _ ≤ _; exact Nat.le_of_eq rfl) (hb hby at_143) (fun _ _ => ⟨rfl, E227, (by decide : 32 + 0 ≤ _), (by decide : 192 + 0 ≤ _)⟩)
  dsimp only [Pt.U, Pt.locs, Pt.cells, Pt.slots] at X229 l229 y229 z229 st229 hQ229
  subst l229 y229 z229
  obtain ⟨rfl, N229q, E229⟩ := hQ229
  have N229 := Fr.app N227 N229q
  have zs231 := K147.1
  have zs232 := Nat.le_trans zs231 K173.1
  have zs233 := Nat.le_trans zs232 E179.1
  have zs234 := Nat.le_trans zs233 K211.1
  obtain ⟨fs, hr, hrun, hended, hend⟩ := leaveW (s := s) (vm₁ := T133.vm) X229 hS133 (by rw [E229]; exact (Nat.le_trans hk133 zs234)) (v := some (.int (1 : Int32))) (fun h => by rw [Bd.returns] at h; cases h)
  refine ⟨_, _, pre0 _ ?_, hrun, hended, _, _, rfl, ?_, hend.1, hend.2.1, hend.2.2.1, hend.2.2.2.mono (by decide) (by decide)⟩
  · show Steps p.tables e below (s₁.setTop (mkF m 0 #[.val (.int x0), .val (.int x1), .val (.int x2), .unset, .unset, .unset, .unset, .unset, .unset, .unset] [])) _
    refine XS.iloadN X0.here hx rfl (hb hby at_0) rfl ?_
    refine XS.iconst X0.here hx rfl (hb hby at_1) ?_
    refine XS.iand X0.here hx rfl (hb hby at_2) rfl ?_
    show Steps p.tables e below (s₁.setTop (mkF m 3 #[.val (.int x0), .val (.int x1), .val (.int x2), .unset, .unset, .unset, .unset, .unset, .unset, .unset] [(.int (x0 &&& (3 : Int32)))])) _
    rw [hc1]
    show Steps p.tables e below (s₁.setTop (mkF m 3 #[.val (.int x0), .val (.int x1), .val (.int x2), .unset, .unset, .unset, .unset, .unset, .unset, .unset] [(.int (3 : Int32))])) _
    refine XS.istoreN X0.here hx rfl (hb hby at_3) rfl (l' := #[.val (.int x0), .val (.int x1), .val (.int x2), .val (.int (3 : Int32)), .unset, .unset, .unset, .unset, .unset, .unset]) rfl ?_
    refine XS.iloadN X0.here hx rfl (hb hby at_4) rfl ?_
    refine XS.iconst X0.here hx rfl (hb hby at_5) ?_
    refine XS.iand X0.here hx rfl (hb hby at_6) rfl ?_
    show Steps p.tables e below (s₁.setTop (mkF m 7 #[.val (.int x0), .val (.int x1), .val (.int x2), .val (.int (3 : Int32)), .unset, .unset, .unset, .unset, .unset, .unset] [(.int (x2 &&& (1 : Int32)))])) _
    refine XS.ifYes X0.here hx rfl (pc0 := 7) (pc' := 14) rfl (hb hby at_7) rfl ((if0 _ _).trans (teq hc2).1) (by decide) (by decide) ?_
    show Steps p.tables e below (s₁.setTop (mkF m 14 #[.val (.int x0), .val (.int x1), .val (.int x2), .val (.int (3 : Int32)), .unset, .unset, .unset, .unset, .unset, .unset] [])) _
    refine XS.iconst X0.here hx rfl (hb hby at_14) ?_
    refine XS.istore X0.here hx rfl (hb hby at_15) rfl (l' := #[.val (.int x0), .val (.int x1), .val (.int x2), .val (.int (3 : Int32)), .val (.int (0 : Int32)), .unset, .unset, .unset, .unset, .unset]) rfl ?_
    refine XS.iload X0.here hx rfl (hb hby at_17) rfl ?_
    refine XS.ifYes X0.here hx rfl (pc0 := 19) (pc' := 26) rfl (hb hby at_19) rfl ((if0 _ _).trans (teq (rfl : (0 : Int32) = (0 : Int32))).1) (by decide) (by decide) ?_
    show Steps p.tables e below (s₁.setTop (mkF m 26 #[.val (.int x0), .val (.int x1), .val (.int x2), .val (.int (3 : Int32)), .val (.int (0 : Int32)), .unset, .unset, .unset, .unset, .unset] [])) _
    refine XS.iloadN X0.here hx rfl (hb hby at_26) rfl ?_
    refine st8 _ ?_
    show Steps p.tables e below (T8.setTop (mkF m 30 #[.val (.int x0), .val (.int x1), .val (.int x2), .val (.int (3 : Int32)), .val (.int (0 : Int32)), .unset, .unset, .unset, .unset, .unset] [(.ref b8_0)])) _
    refine XS.astore X8.here hx rfl (hb hby at_30) rfl rfl (l' := #[.val (.int x0), .val (.int x1), .val (.int x2), .val (.int (3 : Int32)), .val (.int (0 : Int32)), .val (.ref b8_0), .unset, .unset, .unset, .unset]) rfl ?_
    refine st10 _ ?_
    show Steps p.tables e below (T10.setTop (mkF m 35 #[.val (.int x0), .val (.int x1), .val (.int x2), .val (.int (3 : Int32)), .val (.int (0 : Int32)), .val (.ref b8_0), .unset, .unset, .unset, .unset] [(.ref b10)])) _
    refine XS.dup X10.here hx rfl (hb hby at_35) rfl rfl ?_
    refine st19.trans ?_
    show Steps p.tables e below (T19.setTop (mkF m 39 #[.val (.int x0), .val (.int x1), .val (.int x2), .val (.int (3 : Int32)), .val (.int (0 : Int32)), .val (.ref b8_0), .unset, .unset, .unset, .unset] [(.ref b10)])) _
    refine XS.astore X19.here hx rfl (hb hby at_39) rfl rfl (l' := #[.val (.int x0), .val (.int x1), .val (.int x2), .val (.int (3 : Int32)), .val (.int (0 : Int32)), .val (.ref b8_0), .val (.ref b10), .unset, .unset, .unset]) rfl ?_
    refine XS.iloadN X19.here hx rfl (hb hby at_41) rfl ?_
    refine XS.iconst X19.here hx rfl (hb hby at_42) ?_
    refine XS.icmpNo X19.here hx rfl (hb hby at_43) rfl (flt (by decide : ¬ ((3 : Int32) < (1 : Int32)))).1 ?_
    show Steps p.tables e below (T19.setTop (mkF m 46 #[.val (.int x0), .val (.int x1), .val (.int x2), .val (.int (3 : Int32)), .val (.int (0 : Int32)), .val (.ref b8_0), .val (.ref b10), .unset, .unset, .unset] [])) _
    refine XS.aload X19.here hx rfl (hb hby at_46) rfl rfl ?_
    refine st23 _ ?_
    show Steps p.tables e below (T23.setTop (mkF m 51 #[.val (.int x0), .val (.int x1), .val (.int x2), .val (.int (3 : Int32)), .val (.int (0 : Int32)), .val (.ref b8_0), .val (.ref b10), .unset, .unset, .unset] [(.ref b23), (.ref b10)])) _
    refine XS.dup X23.here hx rfl (hb hby at_51) rfl rfl ?_
    refine st29 _ ?_
    show Steps p.tables e below (T29.setTop (mkF m 54 #[.val (.int x0), .val (.int x1), .val (.int x2), .val (.int (3 : Int32)), .val (.int (0 : Int32)), .val (.ref b8_0), .val (.ref b10), .unset, .unset, .unset] [(.ref a29), (.ref b23), (.ref b23), (.ref b10)])) _
    refine st30 _ ?_
    show Steps p.tables e below (T30.setTop (mkF m 56 #[.val (.int x0), .val (.int x1), .val (.int x2), .val (.int (3 : Int32)), .val (.int (0 : Int32)), .val (.ref b8_0), .val (.ref b10), .unset, .unset, .unset] [(.ref a30), (.ref a29), (.ref b23), (.ref b23), (.ref b10)])) _
    refine st31 _ ?_
    show Steps p.tables e below (T31.setTop (mkF m 58 #[.val (.int x0), .val (.int x1), .val (.int x2), .val (.int (3 : Int32)), .val (.int (0 : Int32)), .val (.ref b8_0), .val (.ref b10), .unset, .unset, .unset] [(.ref a31), (.ref a30), (.ref a29), (.ref b23), (.ref b23), (.ref b10)])) _
    refine st32 _ ?_
    show Steps p.tables e below (T32.setTop (mkF m 60 #[.val (.int x0), .val (.int x1), .val (.int x2), .val (.int (3 : Int32)), .val (.int (0 : Int32)), .val (.ref b8_0), .val (.ref b10), .unset, .unset, .unset] [(.ref a32), (.ref a31), (.ref a30), (.ref a29), (.ref b23), (.ref b23), (.ref b10)])) _
    refine st46.trans ?_
    show Steps p.tables e below (T46.setTop (mkF m 63 #[.val (.int x0), .val (.int x1), .val (.int x2), .val (.int (3 : Int32)), .val (.int (0 : Int32)), .val (.ref b8_0), .val (.ref b10), .unset, .unset, .unset] [(.ref b23), (.ref b10)])) _
    refine st66.trans ?_
    show Steps p.tables e below (T66.setTop (mkF m 66 #[.val (.int x0), .val (.int x1), .val (.int x2), .val (.int (3 : Int32)), .val (.int (0 : Int32)), .val (.ref b8_0), .val (.ref b10), .unset, .unset, .unset] [(.int (1 : Int32))])) _
    refine XS.pop X66.here hx rfl (hb hby at_66) rfl rfl ?_
    refine XS.iloadN X66.here hx rfl (hb hby at_67) rfl ?_
    refine XS.iconst X66.here hx rfl (hb hby at_68) ?_
    refine XS.icmpNo X66.here hx rfl (hb hby at_69) rfl (flt (by decide : ¬ ((3 : Int32) < (2 : Int32)))).1 ?_
    show Steps p.tables e below (T66.setTop (mkF m 72 #[.val (.int x0), .val (.int x1), .val (.int x2), .val (.int (3 : Int32)), .val (.int (0 : Int32)), .val (.ref b8_0), .val (.ref b10), .unset, .unset, .unset] [])) _
    refine XS.aload X66.here hx rfl (hb hby at_72) rfl rfl ?_
    refine st75 _ ?_
    show Steps p.tables e below (T75.setTop (mkF m 77 #[.val (.int x0), .val (.int x1), .val (.int x2), .val (.int (3 : Int32)), .val (.int (0 : Int32)), .val (.ref b8_0), .val (.ref b10), .unset, .unset, .unset] [(.ref b75), (.ref b10)])) _
    refine XS.dup X75.here hx rfl (hb hby at_77) rfl rfl ?_
    refine st80 _ ?_
    show Steps p.tables e below (T80.setTop (mkF m 80 #[.val (.int x0), .val (.int x1), .val (.int x2), .val (.int (3 : Int32)), .val (.int (0 : Int32)), .val (.ref b8_0), .val (.ref b10), .unset, .unset, .unset] [(.ref a80), (.ref b75), (.ref b75), (.ref b10)])) _
    refine st84 _ ?_
    show Steps p.tables e below (T84.setTop (mkF m 82 #[.val (.int x0), .val (.int x1), .val (.int x2), .val (.int (3 : Int32)), .val (.int (0 : Int32)), .val (.ref b8_0), .val (.ref b10), .unset, .unset, .unset] [(.ref a84), (.ref a80), (.ref b75), (.ref b75), (.ref b10)])) _
    refine XS.aconstNull X84.here hx rfl (hb hby at_82) ?_
    refine st85 _ ?_
    show Steps p.tables e below (T85.setTop (mkF m 85 #[.val (.int x0), .val (.int x1), .val (.int x2), .val (.int (3 : Int32)), .val (.int (0 : Int32)), .val (.ref b8_0), .val (.ref b10), .unset, .unset, .unset] [(.ref a85), .null, (.ref a84), (.ref a80), (.ref b75), (.ref b75), (.ref b10)])) _
    refine st98.trans ?_
    show Steps p.tables e below (T98.setTop (mkF m 88 #[.val (.int x0), .val (.int x1), .val (.int x2), .val (.int (3 : Int32)), .val (.int (0 : Int32)), .val (.ref b8_0), .val (.ref b10), .unset, .unset, .unset] [(.ref b75), (.ref b10)])) _
    refine st116.trans ?_
    show Steps p.tables e below (T116.setTop (mkF m 91 #[.val (.int x0), .val (.int x1), .val (.int x2), .val (.int (3 : Int32)), .val (.int (0 : Int32)), .val (.ref b8_0), .val (.ref b10), .unset, .unset, .unset] [(.int (1 : Int32))])) _
    refine XS.pop X116.here hx rfl (hb hby at_91) rfl rfl ?_
    refine XS.iloadN X116.here hx rfl (hb hby at_92) rfl ?_
    refine XS.iconst X116.here hx rfl (hb hby at_93) ?_
    refine XS.icmpNo X116.here hx rfl (hb hby at_94) rfl (flt (by decide : ¬ ((3 : Int32) < (3 : Int32)))).1 ?_
    show Steps p.tables e below (T116.setTop (mkF m 97 #[.val (.int x0), .val (.int x1), .val (.int x2), .val (.int (3 : Int32)), .val (.int (0 : Int32)), .val (.ref b8_0), .val (.ref b10), .unset, .unset, .unset] [])) _
    refine XS.aload X116.here hx rfl (hb hby at_97) rfl rfl ?_
    refine st122 _ ?_
    show Steps p.tables e below (T122.setTop (mkF m 102 #[.val (.int x0), .val (.int x1), .val (.int x2), .val (.int (3 : Int32)), .val (.int (0 : Int32)), .val (.ref b8_0), .val (.ref b10), .unset, .unset, .unset] [(.ref b122), (.ref b10)])) _
    refine XS.dup X122.here hx rfl (hb hby at_102) rfl rfl ?_
    refine st127 _ ?_
    show Steps p.tables e below (T127.setTop (mkF m 105 #[.val (.int x0), .val (.int x1), .val (.int x2), .val (.int (3 : Int32)), .val (.int (0 : Int32)), .val (.ref b8_0), .val (.ref b10), .unset, .unset, .unset] [(.ref a127), (.ref b122), (.ref b122), (.ref b10)])) _
    refine st131 _ ?_
    show Steps p.tables e below (T131.setTop (mkF m 107 #[.val (.int x0), .val (.int x1), .val (.int x2), .val (.int (3 : Int32)), .val (.int (0 : Int32)), .val (.ref b8_0), .val (.ref b10), .unset, .unset, .unset] [(.ref a131), (.ref a127), (.ref b122), (.ref b122), (.ref b10)])) _
    refine st132 _ ?_
    show Steps p.tables e below (T132.setTop (mkF m 109 #[.val (.int x0), .val (.int x1), .val (.int x2), .val (.int (3 : Int32)), .val (.int (0 : Int32)), .val (.ref b8_0), .val (.ref b10), .unset, .unset, .unset] [(.ref a132), (.ref a131), (.ref a127), (.ref b122), (.ref b122), (.ref b10)])) _
    refine st133 _ ?_
    show Steps p.tables e below (T133.setTop (mkF m 111 #[.val (.int x0), .val (.int x1), .val (.int x2), .val (.int (3 : Int32)), .val (.int (0 : Int32)), .val (.ref b8_0), .val (.ref b10), .unset, .unset, .unset] [(.ref a133), (.ref a132), (.ref a131), (.ref a127), (.ref b122), (.ref b122), (.ref b10)])) _
    refine st147.trans ?_
    show Steps p.tables e below (T147.setTop (mkF m 114 #[.val (.int x0), .val (.int x1), .val (.int x2), .val (.int (3 : Int32)), .val (.int (0 : Int32)), .val (.ref b8_0), .val (.ref b10), .unset, .unset, .unset] [(.ref b122), (.ref b10)])) _
    refine st173.trans ?_
    show Steps p.tables e below (T173.setTop (mkF m 117 #[.val (.int x0), .val (.int x1), .val (.int x2), .val (.int (3 : Int32)), .val (.int (0 : Int32)), .val (.ref b8_0), .val (.ref b10), .unset, .unset, .unset] [(.int (1 : Int32))])) _
    refine XS.pop X173.here hx rfl (hb hby at_117) rfl rfl ?_
    refine st179 _ ?_
    show Steps p.tables e below (T179.setTop (mkF m 121 #[.val (.int x0), .val (.int x1), .val (.int x2), .val (.int (3 : Int32)), .val (.int (0 : Int32)), .val (.ref b8_0), .val (.ref b10), .unset, .unset, .unset] [(.ref b179)])) _
    refine XS.dup X179.here hx rfl (hb hby at_121) rfl rfl ?_
    refine XS.aload X179.here hx rfl (hb hby at_122) rfl rfl ?_
    refine XS.aload X179.here hx rfl (hb hby at_124) rfl rfl ?_
    refine st211.trans ?_
    show Steps p.tables e below (T211.setTop (mkF m 129 #[.val (.int x0), .val (.int x1), .val (.int x2), .val (.int (3 : Int32)), .val (.int (0 : Int32)), .val (.ref b8_0), .val (.ref b10), .unset, .unset, .unset] [(.ref b179)])) _
    refine XS.astore X211.here hx rfl (hb hby at_129) rfl rfl (l' := #[.val (.int x0), .val (.int x1), .val (.int x2), .val (.int (3 : Int32)), .val (.int (0 : Int32)), .val (.ref b8_0), .val (.ref b10), .val (.ref b179), .unset, .unset]) rfl ?_
    refine XS.aload X211.here hx rfl (hb hby at_131) rfl rfl ?_
    refine st224.trans ?_
    show Steps p.tables e below (T224.setTop (mkF m 136 #[.val (.int x0), .val (.int x1), .val (.int x2), .val (.int (3 : Int32)), .val (.int (0 : Int32)), .val (.ref b8_0), .val (.ref b10), .val (.ref b179), .unset, .unset] [(.int (1 : Int32))])) _
    refine XS.istore X224.here hx rfl (hb hby at_136) rfl (l' := #[.val (.int x0), .val (.int x1), .val (.int x2), .val (.int (3 : Int32)), .val (.int (0 : Int32)), .val (.ref b8_0), .val (.ref b10), .val (.ref b179), .val (.int (1 : Int32)), .unset]) rfl ?_
    refine XS.aload X224.here hx rfl (hb hby at_138) rfl rfl ?_
    refine st227.trans ?_
    show Steps p.tables e below (T227.setTop (mkF m 143 #[.val (.int x0), .val (.int x1), .val (.int x2), .val (.int (3 : Int32)), .val (.int (0 : Int32)), .val (.ref b8_0), .val (.ref b10), .val (.ref b179), .val (.int (1 : Int32)), .unset] [(.ref b211_0)])) _
    refine st229.trans ?_
    show Steps p.tables e below (T229.setTop (mkF m 148 #[.val (.int x0), .val (.int x1), .val (.int x2), .val (.int (3 : Int32)), .val (.int (0 : Int32)), .val (.ref b8_0), .val (.ref b10), .val (.ref b179), .val (.int (1 : Int32)), .unset] [(.int (3 : Int32))])) _
    refine XS.istore X229.here hx rfl (hb hby at_148) rfl (l' := #[.val (.int x0), .val (.int x1), .val (.int x2), .val (.int (3 : Int32)), .val (.int (0 : Int32)), .val (.ref b8_0), .val (.ref b10), .val (.ref b179), .val (.int (1 : Int32)), .val (.int (3 : Int32))]) rfl ?_
    refine XS.iload X229.here hx rfl (hb hby at_150) rfl ?_
    refine XS.iloadN X229.here hx rfl (hb hby at_152) rfl ?_
    refine XS.ifNo X229.here hx rfl (hb hby at_153) rfl ((if0 _ _).trans (feq (by decide : ¬ ((3 : Int32) = (0 : Int32)))).1) ?_
    show Steps p.tables e below (T229.setTop (mkF m 156 #[.val (.int x0), .val (.int x1), .val (.int x2), .val (.int (3 : Int32)), .val (.int (0 : Int32)), .val (.ref b8_0), .val (.ref b10), .val (.ref b179), .val (.int (1 : Int32)), .val (.int (3 : Int32))] [(.int (1 : Int32))])) _
    refine XS.iconst X229.here hx rfl (hb hby at_156) ?_
    refine XS.goto X229.here hx rfl (pc0 := 157) (pc' := 161) rfl (hb hby at_157) (by decide) (by decide) ?_
    show Steps p.tables e below (T229.setTop (mkF m 161 #[.val (.int x0), .val (.int x1), .val (.int x2), .val (.int (3 : Int32)), .val (.int (0 : Int32)), .val (.ref b8_0), .val (.ref b10), .val (.ref b179), .val (.int (1 : Int32)), .val (.int (3 : Int32))] [(.int (1 : Int32)), (.int (1 : Int32))])) _
    refine XS.icmpNo X229.here hx rfl (hb hby at_161) rfl (teq (rfl : (1 : Int32) = (1 : Int32))).2 ?_
    refine XS.iload X229.here hx rfl (hb hby at_164) rfl ?_
    refine XS.iloadN X229.here hx rfl (hb hby at_166) rfl ?_
    refine XS.icmpNo X229.here hx rfl (hb hby at_167) rfl (teq (rfl : (3 : Int32) = (3 : Int32))).2 ?_
    show Steps p.tables e below (T229.setTop (mkF m 170 #[.val (.int x0), .val (.int x1), .val (.int x2), .val (.int (3 : Int32)), .val (.int (0 : Int32)), .val (.ref b8_0), .val (.ref b10), .val (.ref b179), .val (.int (1 : Int32)), .val (.int (3 : Int32))] [])) _
    refine XS.iload X229.here hx rfl (hb hby at_170) rfl ?_
    refine XS.iload X229.here hx rfl (hb hby at_172) rfl ?_
    refine XS.ifNo X229.here hx rfl (hb hby at_174) rfl ((if0 _ _).trans (feq (by decide : ¬ ((3 : Int32) = (0 : Int32)))).1) ?_
    refine XS.iconst X229.here hx rfl (hb hby at_177) ?_
    show Steps p.tables e below (T229.setTop (mkF m 178 #[.val (.int x0), .val (.int x1), .val (.int x2), .val (.int (3 : Int32)), .val (.int (0 : Int32)), .val (.ref b8_0), .val (.ref b10), .val (.ref b179), .val (.int (1 : Int32)), .val (.int (3 : Int32))] [(.int (1 : Int32)), (.int (1 : Int32))])) _
    refine XS.goto X229.here hx rfl (pc0 := 178) (pc' := 182) rfl (hb hby at_178) (by decide) (by decide) ?_
    show Steps p.tables e below (T229.setTop (mkF m 182 #[.val (.int x0), .val (.int x1), .val (.int x2), .val (.int (3 : Int32)), .val (.int (0 : Int32)), .val (.ref b8_0), .val (.ref b10), .val (.ref b179), .val (.int (1 : Int32)), .val (.int (3 : Int32))] [(.int (1 : Int32)), (.int (1 : Int32))])) _
    refine XS.icmpNo X229.here hx rfl (hb hby at_182) rfl (teq (rfl : (1 : Int32) = (1 : Int32))).2 ?_
    refine XS.iconst X229.here hx rfl (hb hby at_185) ?_
    refine XS.goto X229.here hx rfl (pc0 := 186) (pc' := 190) rfl (hb hby at_186) (by decide) (by decide) ?_
    show Steps p.tables e below (T229.setTop (mkF m 190 #[.val (.int x0), .val (.int x1), .val (.int x2), .val (.int (3 : Int32)), .val (.int (0 : Int32)), .val (.ref b8_0), .val (.ref b10), .val (.ref b179), .val (.int (1 : Int32)), .val (.int (3 : Int32))] [(.int (1 : Int32))])) _
    exact retN X229 hx (t := .boolean) Bd.returns (by simp) (hb hby at_190) hr
  · show Q0_8 Z x0 x1 x2 r3 d4 r5 c6 r7 h0 n0 _ T229.heap _
    rw [E229]
    exact ⟨rfl, N229⟩
set_option maxRecDepth 65536 in
set_option maxHeartbeats 40000000 in
theorem comes_1 {Post : Tables → Env → Array Value → State → Outcome → State → Prop} (hpost : ∀ tb e args s v u, (limb_1_1.after args s (.returned v) u = true ∧ limb_1_2.after args s (.returned v) u = true ∧ True) → ReturnedEndW s (.returned v) u (Jvm.fieldLocs frame_1_writes args s ++ Jvm.arrayLocs frame_1_arrays args s ++ Jvm.staticLocs frame_1_statics s) 48 8384 → Post tb e args s (.returned v) u) :
    ArmFor flags0 classFile x code maxLocals ret World_1 tables_1 room_1 Calls_1 rest_1 Pre_1 Post := by
  intro l hfl _ _ p e ha hc hk s m args below hf hA hF happ hP
  obtain ⟨hcalls, hrest, hpre⟩ := hP
  obtain ⟨-, -, -, hnamed, -, -, -, hat⟩ := (Spec.applies_iff hf).mp happ
  obtain ⟨hg, hn⟩ := and_e (Cond.before_iff.mp (show (Jvm.Cond.and given_1 narrow_1).before args s = true from hpre))
  obtain ⟨g0, hg⟩ := and_e hg
  obtain ⟨ga0, hg⟩ := and_e hg
  obtain ⟨ga1, hg⟩ := and_e hg
  obtain ⟨w0, w1, w2, rfl⟩ : ∃ w0 w1 w2 : Value, args = #[w0, w1, w2] := by
    have hs : args.size = 3 := by simpa [Cond.value, given_1] using g0
    obtain ⟨L⟩ := args
    match L, hs with
    | [w0, w1, w2], _ => exact ⟨w0, w1, w2, rfl⟩
  have hw := fun d (hd : d ∈ tables_1) => atoms_spec (ws := Jvm.Cond.code x code maxLocals ret :: tables_1) hat d (List.mem_cons_of_mem _ hd)
  have hfit : Fit s := fun {y c} hc i hi => by
    obtain ⟨ha, rfl⟩ := Array.getElem?_eq_some_iff.mp hc
    have q := List.all_eq_true.mp ((Array.all_eq_true_iff_forall_mem.mp hF) _ (Array.getElem_mem ha)) i (List.mem_range.mpr hi)
    simpa [Array.getElem?_eq_getElem hi] using q
  obtain ⟨hsets, hown0⟩ := atoms_of _ (rest_1_c_eq ▸ (show rest_1_c.before _ s = true from hrest))
  have hr0 := Cond.before_iff.mp hown0
  obtain ⟨i0, ei0⟩ := is_v ga0
  obtain rfl : w0 = (.int i0) := Option.some.inj ei0
  obtain ⟨i1, ei1⟩ := is_v ga1
  obtain rfl : w1 = (.int i1) := Option.some.inj ei1
  obtain ⟨i2, ei2⟩ := is_v hg
  obtain rfl : w2 = (.int i2) := Option.some.inj ei2
  suffices hM : MetFree l x (head1 (Jvm.Cond.code x code maxLocals ret :: tables_1) room_1) (fun a U => a = #[(.int i0), (.int i1), (.int i2)] ∧ s.Warmed39 U.vm ∧ U.heap = s.heap) (fun _ _ _ _ _ => True) (fun _ U o U' => ∃ v L, o = .returned v ∧ (v = some (.int (1 : Int32)) ∧ Fr s.heap.size L) ∧ ReturnedEndW U o U' L room_1.cells room_1.slots) by
    obtain ⟨n, o, h1, h2, h3, _, L, rfl, ⟨rfl, N⟩, hq⟩ := hM p e ha hc hk s m _ below hf ((Spec.applies_iff_loose hf).mp happ).1 ⟨rfl, State.Warmed39.refl s, rfl⟩ trivial
    refine ⟨n, _, h1, h2, h3, hpost _ _ _ _ _ _ ⟨Cond.after_iff.mpr rfl, Cond.after_iff.mpr (eq_i res_at (Term.int_eval (1)) rfl), trivial⟩ ⟨hq.1, hq.2.1, hq.2.2.1, (hq.2.2.2.sift fun y hy => Or.inr (N y hy)).mono (by decide) (by decide)⟩⟩
  have hs := fun (n : Nat) (d : Jvm.Cond) (q : jdkStatics_1[n]? = some d) => Cond.before_iff.mp (hsets d (List.mem_of_getElem? q))
  obtain ⟨rDCE, eDCE⟩ := exa_v (hs 15 _ rfl)
  have SDCE := Sta.start eDCE (Or.inr ⟨(ww hw 9 rfl), (hsets _ (List.mem_of_getElem? (i := 10) rfl))⟩)
  have EDCE := Exa.start eDCE (hs 15 _ rfl)
  obtain ⟨clDCE, ADCE⟩ := Arr.start eDCE (hs 14 _ rfl)
  have hlDCE := own_len (hs 16 _ rfl) eDCE ADCE
  have VDCE : Arv s s.heap rDCE clDCE.cls (.object "java/lang/Object") (0 : Int32) [] .null := Arv.start hfit ADCE hlDCE.1 hlDCE.2 (by decide) rfl trivial
  obtain ⟨rELIST, eELIST⟩ := exa_v (hs 19 _ rfl)
  have SELIST := Sta.start eELIST (Or.inl (hsets _ (List.mem_of_getElem? (i := 18) rfl)))
  have EELIST := Exa.start eELIST (hs 19 _ rfl)
  obtain ⟨rELE, eELE⟩ := exa_v (hs 21 _ rfl)
  have FELE := Fld.start ((fld_at eELIST).symm.trans eELE)
  have EELE := Exa.start eELE (hs 21 _ rfl)
  obtain ⟨clELE, AELE⟩ := Arr.start eELE (hs 20 _ rfl)
  have hlELE := own_len (hs 22 _ rfl) eELE AELE
  have VELE : Arv s s.heap rELE clELE.cls (.object "java/lang/Object") (0 : Int32) [] .null := Arv.start hfit AELE hlELE.1 hlELE.2 (by decide) rfl trivial
  have FELISTn := Fld.start ((fld_at eELIST).symm.trans (eqv_i (y := 0) rfl (hs 23 _ rfl)))
  obtain ⟨rEMPTY, eEMPTY⟩ := exa_v (hs 26 _ rfl)
  have SEMPTY := Sta.start eEMPTY (Or.inl (hsets _ (List.mem_of_getElem? (i := 25) rfl)))
  have EEMPTY := Exa.start eEMPTY (hs 26 _ rfl)
  have SAD := Sta.start (eqv_i (y := 1) rfl (hs 29 _ rfl)) (Or.inl (hsets _ (List.mem_of_getElem? (i := 28) rfl)))
  have Shigh := Sta.start (eqv_i (y := 127) rfl (hs 3 _ rfl)) (Or.inl (hsets _ (List.mem_of_getElem? (i := 1) rfl)))
  obtain ⟨rICACHE, eICACHE⟩ := exa_v (hs 5 _ rfl)
  have SICACHE := Sta.start eICACHE (Or.inr ⟨(ww hw 5 rfl), (hsets _ (List.mem_of_getElem? (i := 2) rfl))⟩)
  have EICACHE := Exa.start eICACHE (hs 5 _ rfl)
  obtain ⟨clICACHE, AICACHE⟩ := Arr.start eICACHE (hs 4 _ rfl)
  have hlICACHE := own_len (hs 6 _ rfl) eICACHE AICACHE
  have zICACHE : clICACHE.slots.size = 256 := own_size hlICACHE rfl
  have aICACHE := own_all (fun _ => eICACHE) AICACHE (hs 7 _ rfl)
  obtain ⟨cMir, kMir, rMir, mm1, mm2, mm3, -⟩ := hcalls.1
  have h3 := own_and3 i0
  rcases h3 with ck | ck | ck | ck
  · by_cases cf : (i2 &&& (1 : Int32)) = (0 : Int32)
    · exact rm0_2 l s _ hw tables_1 i0 i1 i2 rICACHE clICACHE rDCE rELIST rELE clELE.cls _ _ (Old.start s) ck cf Shigh SICACHE AICACHE zICACHE aICACHE SDCE SELIST EELIST FELE VELE
    · exact rm0_1 l s _ hw tables_1 i0 i1 i2 rDCE rELIST rELE clELE.cls _ _ (Old.start s) ck cf SDCE SELIST EELIST FELE VELE
  · by_cases cf : (i2 &&& (1 : Int32)) = (0 : Int32)
    · exact rm0_4 l s _ hw tables_1 i0 i1 i2 rICACHE clICACHE rDCE clDCE.cls rMir rEMPTY _ _ (Old.start s) ck cf Shigh SICACHE AICACHE zICACHE aICACHE SDCE VDCE ⟨cMir, kMir, mm1, mm2, mm3⟩ SEMPTY
    · exact rm0_3 l s _ hw tables_1 i0 i1 i2 rDCE clDCE.cls rMir rEMPTY _ _ (Old.start s) ck cf SDCE VDCE ⟨cMir, kMir, mm1, mm2, mm3⟩ SEMPTY
  · by_cases cf : (i2 &&& (1 : Int32)) = (0 : Int32)
    · exact rm0_6 l s _ hw tables_1 i0 i1 i2 rICACHE clICACHE rDCE clDCE.cls rMir rEMPTY _ _ (Old.start s) ck cf Shigh SICACHE AICACHE zICACHE aICACHE SDCE VDCE ⟨cMir, kMir, mm1, mm2, mm3⟩ SEMPTY EEMPTY
    · exact rm0_5 l s _ hw tables_1 i0 i1 i2 rDCE clDCE.cls rMir rEMPTY _ _ (Old.start s) ck cf SDCE VDCE ⟨cMir, kMir, mm1, mm2, mm3⟩ SEMPTY EEMPTY
  · by_cases cf : (i2 &&& (1 : Int32)) = (0 : Int32)
    · exact rm0_8 l s _ hw tables_1 i0 i1 i2 rICACHE clICACHE rDCE clDCE.cls rMir _ _ (Old.start s) ck cf Shigh SICACHE AICACHE zICACHE aICACHE SDCE VDCE ⟨cMir, kMir, mm1, mm2, mm3⟩
    · exact rm0_7 l s _ hw tables_1 i0 i1 i2 rDCE clDCE.cls rMir _ _ (Old.start s) ck cf SDCE VDCE ⟨cMir, kMir, mm1, mm2, mm3⟩
theorem main_1_1 : Claimed_1_1 := comes_1 fun _ _ _ _ _ _ h hF => ⟨h.1, hF⟩
theorem main_1_2 : Claimed_1_2 := comes_1 fun _ _ _ _ _ _ h hF => ⟨h.2.1, hF⟩
end Jvm.Pilot.@@N@@
namespace Jvm.Pilot.@@N@@
open Jvm Jvm.ClassFile Sem Op Lib Jvm.Free Jvm.Stand Jvm.Pilot.@@N@@.Jvm.D
/-! MADE BY PROGRAM (witnessworld.py) out of the Statement's table words and the real class files: 38 classes; the members and pool entries that the words name. The judged class is class 1, her method 1. -/
namespace start1
open Jvm.ClassFile
def u (s : String) : CpInfo := .utf8 (stringToUtf16 s)
/-- a pool by its gaps: so many unusable entries, then the entry; so many at the end -/
def gap : Nat → List CpInfo → List CpInfo
  | 0, r => r
  | n + 1, r => .unusable :: gap n r
def poolList (es : List (Nat × CpInfo)) (last : Nat) : List CpInfo := es.foldr (fun e r => gap e.1 (e.2 :: r)) (gap last [])
def pool (es : List (Nat × CpInfo)) (last : Nat) : Array CpInfo := ⟨poolList es last⟩
def fileOf (pool : Array CpInfo) (this : Nat) (attrs : Array Attribute := #[]) (ms : Array MethodInfo := #[]) (fl : Nat := 33) (sup : Nat := 0) (ifs : Array Nat := #[]) (fds : Array FieldInfo := #[]) : ClassFile where
  minorVersion := 0
  majorVersion := 65
  constantPool := pool
  accessFlags := fl
  thisClass := this
  superClass := sup
  interfaces := ifs
  fields := fds
  methods := ms
  attributes := attrs
def plain (name : String) (sup : Option ClassId) : Class where
  name := name
  kind := .ordinary
  loader := none
  accessFlags := 33
  super := sup
  interfaces := #[]
  cf := none
  fields := #[]
  methods := #[]
  instanceTypes := #[]
  staticTypes := #[]
  resolved := #[]
  callSites := []
  init := .initialized
  statics := none
  mirror := none

def pool0 : Array CpInfo := pool [(5, u "<init>"), (0, u "()V"), (1, .class_ 10), (1, u "java/lang/Object"), (0, u "getClass"), (0, u "()Ljava/lang/Class;")] 111

def k0c0 : Code := { maxStack := 0, maxLocals := 1, code := object_method_1_code, exceptionTable := #[], attributes := #[] }
def k0m0 : Method := { name := "<init>", desc := "()V", sig := { parameters := [], returnType := none }, accessFlags := 1, code := some k0c0 }
def k0m1 : Method := { name := "getClass", desc := "()Ljava/lang/Class;", sig := { parameters := [], returnType := some (.object "java/lang/Class") }, accessFlags := 273, code := none }
/-- java/lang/Object -/
def k0 : Class := { plain "java/lang/Object" none with
  accessFlags := 33
  interfaces := #[]
  cf := some (fileOf pool0 8 #[] #[{ accessFlags := 1, nameIndex := 5, descriptorIndex := 6, attributes := #[] }, { accessFlags := 273, nameIndex := 11, descriptorIndex := 12, attributes := #[] }] 33 0 #[] #[])
  fields := #[]
  methods := #[k0m0, k0m1]
  instanceTypes := #[]
  staticTypes := #[]
  resolved := Array.replicate 124 none
  statics := none }

def pool1 : Array CpInfo := pool [(2, .class_ 4), (0, .nameAndType 5 6), (0, u "java/lang/Object"), (0, u "<init>"), (0, u "()V"), (0, .methodref 8 9), (0, .class_ 10), (0, .nameAndType 11 12), (0, u "java/lang/Integer"), (0, u "valueOf"), (0, u "(I)Ljava/lang/Integer;"), (0, .class_ 14), (0, u "java/util/ArrayList"), (0, .methodref 13 3), (0, .class_ 17), (0, u "com/example/weaverbird/weaverbird/bind/FieldError"), (0, .string 19), (0, u "a"), (0, .string 21), (0, u "required"), (0, .string 23), (0, u ""), (0, .string 25), (0, u "m"), (0, .methodref 16 27), (0, .nameAndType 5 28), (0, u "(Ljava/lang/String;Ljava/lang/String;Ljava/lang/String;Ljava/lang/String;)V"), (0, .methodref 13 30), (0, .nameAndType 31 32), (0, u "add"), (0, u "(Ljava/lang/Object;)Z"), (0, .string 34), (0, u "b"), (0, .string 36), (0, u "limit"), (0, .string 38), (0, u "malformed"), (0, .string 40), (0, u "x"), (0, .class_ 42), (0, u "com/example/weaverbird/weaverbird/bind/Binding"), (0, .methodref 41 44), (0, .nameAndType 5 45), (0, u "(Ljava/lang/Object;Ljava/util/List;)V"), (0, .methodref 41 47), (0, .nameAndType 48 49), (0, u "hasErrors"), (0, u "()Z"), (0, .methodref 41 51), (0, .nameAndType 52 53), (0, u "errors"), (0, u "()Ljava/util/List;"), (0, .interfaceMethodref 55 56), (0, .class_ 57), (0, .nameAndType 58 59), (0, u "java/util/List"), (0, u "size"), (0, u "()I"), (0, .class_ 61), (0, u "com/example/weaverbird/weaverbird/bind/BindingHasErrorsPinLaw"), (2, u "law"), (0, u "(III)Z")] 3

def k1m0 : Method := { name := "<init>", desc := "()V", sig := { parameters := [], returnType := none }, accessFlags := 1, code := none }
def k1c1 : Code := { maxStack := 7, maxLocals := 10, code := code, exceptionTable := #[], attributes := #[] }
def k1m1 : Method := { name := "law", desc := "(III)Z", sig := { parameters := [.int, .int, .int], returnType := some .boolean }, accessFlags := 9, code := some k1c1 }
/-- com/example/weaverbird/weaverbird/bind/BindingHasErrorsPinLaw -/
def k1 : Class := { plain "com/example/weaverbird/weaverbird/bind/BindingHasErrorsPinLaw" (some 0) with
  accessFlags := 49
  interfaces := #[]
  cf := some (fileOf pool1 60 #[] #[{ accessFlags := 1, nameIndex := 5, descriptorIndex := 6, attributes := #[] }, { accessFlags := 9, nameIndex := 64, descriptorIndex := 65, attributes := #[] }] 49 2 #[] #[])
  fields := #[]
  methods := #[k1m0, k1m1]
  instanceTypes := #[]
  staticTypes := #[]
  resolved := Array.replicate 69 none
  statics := none }

def pool2 : Array CpInfo := pool [(1, .class_ 2), (0, u "java/io/Serializable"), (0, .class_ 4), (0, u "java/lang/Object")] 2

/-- java/io/Serializable -/
def k2 : Class := { plain "java/io/Serializable" (some 0) with
  accessFlags := 1537
  interfaces := #[]
  cf := some (fileOf pool2 1 #[] #[] 1537 3 #[] #[])
  fields := #[]
  methods := #[]
  instanceTypes := #[]
  staticTypes := #[]
  resolved := Array.replicate 7 none
  statics := none }

def pool3 : Array CpInfo := pool [(1, .methodref 2 3), (0, .class_ 4), (0, .nameAndType 5 6), (0, u "java/lang/Object"), (0, u "<init>"), (0, u "()V"), (1, .class_ 10), (1, u "java/lang/Number"), (2, .class_ 14), (0, u "java/io/Serializable"), (0, u "serialVersionUID"), (0, u "J")] 20

def k3c0 : Code := { maxStack := 1, maxLocals := 1, code := jdk_18_method_1_code, exceptionTable := #[], attributes := #[] }
def k3m0 : Method := { name := "<init>", desc := "()V", sig := { parameters := [], returnType := none }, accessFlags := 1, code := some k3c0 }
/-- java/lang/Number -/
def k3 : Class := { plain "java/lang/Number" (some 0) with
  accessFlags := 1057
  interfaces := #[2]
  cf := some (fileOf pool3 8 #[] #[{ accessFlags := 1, nameIndex := 5, descriptorIndex := 6, attributes := #[] }] 1057 2 #[13] #[{ accessFlags := 26, nameIndex := 15, descriptorIndex := 16, attributes := #[] }])
  fields := #[{ name := "serialVersionUID", type := .long, accessFlags := 26, slot := 0, constantValue := 0 }]
  methods := #[k3m0]
  instanceTypes := #[]
  staticTypes := #[.long]
  resolved := Array.replicate 37 none
  statics := none }

def pool4 : Array CpInfo := pool [(1, .class_ 2), (0, u "java/lang/Comparable"), (0, .class_ 4), (0, u "java/lang/Object")] 7

/-- java/lang/Comparable -/
def k4 : Class := { plain "java/lang/Comparable" (some 0) with
  accessFlags := 1537
  interfaces := #[]
  cf := some (fileOf pool4 1 #[] #[] 1537 3 #[] #[])
  fields := #[]
  methods := #[]
  instanceTypes := #[]
  staticTypes := #[]
  resolved := Array.replicate 12 none
  statics := none }

def pool5 : Array CpInfo := pool [(1, .class_ 2), (0, u "java/lang/constant/Constable"), (0, .class_ 4), (0, u "java/lang/Object")] 6

/-- java/lang/constant/Constable -/
def k5 : Class := { plain "java/lang/constant/Constable" (some 0) with
  accessFlags := 1537
  interfaces := #[]
  cf := some (fileOf pool5 1 #[] #[] 1537 3 #[] #[])
  fields := #[]
  methods := #[]
  instanceTypes := #[]
  staticTypes := #[]
  resolved := Array.replicate 11 none
  statics := none }

def pool6 : Array CpInfo := pool [(1, .class_ 2), (0, u "java/lang/constant/ConstantDesc"), (0, .class_ 4), (0, u "java/lang/Object")] 32

/-- java/lang/constant/ConstantDesc -/
def k6 : Class := { plain "java/lang/constant/ConstantDesc" (some 0) with
  accessFlags := 1537
  interfaces := #[]
  cf := some (fileOf pool6 1 #[] #[] 1537 3 #[] #[])
  fields := #[]
  methods := #[]
  instanceTypes := #[]
  staticTypes := #[]
  resolved := Array.replicate 37 none
  statics := none }

def pool7 : Array CpInfo := pool [(1, .class_ 2), (0, u "java/lang/Integer"), (16, u "digits"), (0, u "[C"), (46, u "<init>"), (17, u "DigitOnes"), (0, u "[B"), (2, u "DigitTens"), (10, .nameAndType 67 101), (0, u "()V"), (85, u "valueOf"), (0, u "(I)Ljava/lang/Integer;"), (0, .class_ 190), (0, u "java/lang/Integer$IntegerCache"), (0, .fieldref 189 192), (0, .nameAndType 193 194), (0, u "high"), (0, u "I"), (0, .fieldref 189 196), (0, .nameAndType 197 198), (0, u "cache"), (0, u "[Ljava/lang/Integer;"), (0, .methodref 1 200), (0, .nameAndType 67 201), (0, u "(I)V"), (0, .methodref 203 100), (0, .class_ 204), (0, u "java/lang/Number"), (0, .fieldref 1 206), (0, .nameAndType 207 194), (0, u "value"), (94, u "TYPE"), (0, u "Ljava/lang/Class;"), (0, .class_ 305), (0, u "java/lang/Comparable"), (0, .class_ 307), (0, u "java/lang/constant/Constable"), (0, .class_ 309), (0, u "java/lang/constant/ConstantDesc"), (0, u "MIN_VALUE"), (1, u "MAX_VALUE"), (3, u "SIZE"), (1, u "BYTES"), (1, u "serialVersionUID"), (0, u "J")] 131

def k7c0 : Code := { maxStack := 3, maxLocals := 1, code := jdk_33_method_22_code, exceptionTable := #[], attributes := #[] }
def k7m0 : Method := { name := "valueOf", desc := "(I)Ljava/lang/Integer;", sig := { parameters := [.int], returnType := some (.object "java/lang/Integer") }, accessFlags := 9, code := some k7c0 }
def k7c1 : Code := { maxStack := 2, maxLocals := 2, code := jdk_33_method_23_code, exceptionTable := #[], attributes := #[] }
def k7m1 : Method := { name := "<init>", desc := "(I)V", sig := { parameters := [.int], returnType := none }, accessFlags := 1, code := some k7c1 }
/-- java/lang/Integer -/
def k7 : Class := { plain "java/lang/Integer" (some 3) with
  accessFlags := 49
  interfaces := #[4, 5, 6]
  cf := some (fileOf pool7 1 #[.nestMembers #[189]] #[{ accessFlags := 9, nameIndex := 187, descriptorIndex := 188, attributes := #[] }, { accessFlags := 1, nameIndex := 67, descriptorIndex := 201, attributes := #[] }] 49 203 #[304, 306, 308] #[{ accessFlags := 25, nameIndex := 310, descriptorIndex := 194, attributes := #[] }, { accessFlags := 25, nameIndex := 312, descriptorIndex := 194, attributes := #[] }, { accessFlags := 25, nameIndex := 302, descriptorIndex := 303, attributes := #[] }, { accessFlags := 24, nameIndex := 19, descriptorIndex := 20, attributes := #[] }, { accessFlags := 24, nameIndex := 89, descriptorIndex := 86, attributes := #[] }, { accessFlags := 24, nameIndex := 85, descriptorIndex := 86, attributes := #[] }, { accessFlags := 18, nameIndex := 207, descriptorIndex := 194, attributes := #[] }, { accessFlags := 25, nameIndex := 316, descriptorIndex := 194, attributes := #[] }, { accessFlags := 25, nameIndex := 318, descriptorIndex := 194, attributes := #[] }, { accessFlags := 26, nameIndex := 320, descriptorIndex := 321, attributes := #[] }])
  fields := #[{ name := "MIN_VALUE", type := .int, accessFlags := 25, slot := 0, constantValue := 0 }, { name := "MAX_VALUE", type := .int, accessFlags := 25, slot := 1, constantValue := 0 }, { name := "TYPE", type := (.object "java/lang/Class"), accessFlags := 25, slot := 2, constantValue := 0 }, { name := "digits", type := (.array .char), accessFlags := 24, slot := 3, constantValue := 0 }, { name := "DigitTens", type := (.array .byte), accessFlags := 24, slot := 4, constantValue := 0 }, { name := "DigitOnes", type := (.array .byte), accessFlags := 24, slot := 5, constantValue := 0 }, { name := "value", type := .int, accessFlags := 18, slot := 0, constantValue := 0 }, { name := "SIZE", type := .int, accessFlags := 25, slot := 6, constantValue := 0 }, { name := "BYTES", type := .int, accessFlags := 25, slot := 7, constantValue := 0 }, { name := "serialVersionUID", type := .long, accessFlags := 26, slot := 8, constantValue := 0 }]
  methods := #[k7m0, k7m1]
  instanceTypes := #[.int]
  staticTypes := #[.int, .int, (.object "java/lang/Class"), (.array .char), (.array .byte), (.array .byte), .int, .int, .long]
  resolved := Array.replicate 453 none
  statics := none }

def pool8 : Array CpInfo := pool [(2, .class_ 4), (1, u "java/lang/Object"), (0, u "<init>"), (0, u "()V"), (0, .class_ 8), (0, u "java/lang/Integer"), (7, .class_ 18), (1, u "java/lang/Integer$IntegerCache"), (0, u "$assertionsDisabled"), (0, u "Z"), (26, u "high"), (0, u "I"), (8, u "archivedCache"), (0, u "[Ljava/lang/Integer;"), (12, u "cache"), (0, u "low")] 27

def k8m0 : Method := { name := "<init>", desc := "()V", sig := { parameters := [], returnType := none }, accessFlags := 2, code := none }
/-- java/lang/Integer$IntegerCache -/
def k8 : Class := { plain "java/lang/Integer$IntegerCache" (some 0) with
  accessFlags := 48
  interfaces := #[]
  cf := some (fileOf pool8 16 #[.nestHost 7] #[{ accessFlags := 2, nameIndex := 5, descriptorIndex := 6, attributes := #[] }] 48 2 #[] #[{ accessFlags := 24, nameIndex := 72, descriptorIndex := 48, attributes := #[] }, { accessFlags := 24, nameIndex := 47, descriptorIndex := 48, attributes := #[] }, { accessFlags := 24, nameIndex := 71, descriptorIndex := 58, attributes := #[] }, { accessFlags := 8, nameIndex := 57, descriptorIndex := 58, attributes := #[] }, { accessFlags := 4120, nameIndex := 19, descriptorIndex := 20, attributes := #[] }])
  fields := #[{ name := "low", type := .int, accessFlags := 24, slot := 0, constantValue := 0 }, { name := "high", type := .int, accessFlags := 24, slot := 1, constantValue := 0 }, { name := "cache", type := (.array (.object "java/lang/Integer")), accessFlags := 24, slot := 2, constantValue := 0 }, { name := "archivedCache", type := (.array (.object "java/lang/Integer")), accessFlags := 8, slot := 3, constantValue := 0 }, { name := "$assertionsDisabled", type := .boolean, accessFlags := 4120, slot := 4, constantValue := 0 }]
  methods := #[k8m0]
  instanceTypes := #[]
  staticTypes := #[.int, .int, (.array (.object "java/lang/Integer")), (.array (.object "java/lang/Integer")), .boolean]
  resolved := Array.replicate 100 none
  statics := some 0 }

def pool9 : Array CpInfo := pool [(8, .class_ 10), (1, u "java/lang/Iterable"), (24, .class_ 36), (0, u "java/lang/Object")] 25

/-- java/lang/Iterable -/
def k9 : Class := { plain "java/lang/Iterable" (some 0) with
  accessFlags := 1537
  interfaces := #[]
  cf := some (fileOf pool9 8 #[] #[] 1537 35 #[] #[])
  fields := #[]
  methods := #[]
  instanceTypes := #[]
  staticTypes := #[]
  resolved := Array.replicate 62 none
  statics := none }

def pool10 : Array CpInfo := pool [(10, .class_ 12), (1, u "java/util/Collection"), (0, u "toArray"), (16, u "()Z"), (29, .class_ 61), (0, u "java/lang/Object"), (0, .class_ 63), (0, u "java/lang/Iterable"), (2, u "isEmpty"), (3, u "()[Ljava/lang/Object;")] 44

def k10m0 : Method := { name := "isEmpty", desc := "()Z", sig := { parameters := [], returnType := some .boolean }, accessFlags := 1025, code := none }
def k10m1 : Method := { name := "toArray", desc := "()[Ljava/lang/Object;", sig := { parameters := [], returnType := some (.array (.object "java/lang/Object")) }, accessFlags := 1025, code := none }
/-- java/util/Collection -/
def k10 : Class := { plain "java/util/Collection" (some 0) with
  accessFlags := 1537
  interfaces := #[9]
  cf := some (fileOf pool10 10 #[] #[{ accessFlags := 1025, nameIndex := 66, descriptorIndex := 30, attributes := #[] }, { accessFlags := 1025, nameIndex := 13, descriptorIndex := 70, attributes := #[] }] 1537 60 #[62] #[])
  fields := #[]
  methods := #[k10m0, k10m1]
  instanceTypes := #[]
  staticTypes := #[]
  resolved := Array.replicate 115 none
  statics := none }

def pool11 : Array CpInfo := pool [(1, .methodref 2 3), (0, .class_ 4), (0, .nameAndType 5 6), (0, u "java/lang/Object"), (0, u "<init>"), (0, u "()V"), (1, .class_ 10), (1, u "java/util/AbstractCollection"), (66, .class_ 78), (0, u "java/util/Collection")] 81

def k11c0 : Code := { maxStack := 1, maxLocals := 1, code := jdk_22_method_1_code, exceptionTable := #[], attributes := #[] }
def k11m0 : Method := { name := "<init>", desc := "()V", sig := { parameters := [], returnType := none }, accessFlags := 4, code := some k11c0 }
/-- java/util/AbstractCollection -/
def k11 : Class := { plain "java/util/AbstractCollection" (some 0) with
  accessFlags := 1057
  interfaces := #[10]
  cf := some (fileOf pool11 8 #[] #[{ accessFlags := 4, nameIndex := 5, descriptorIndex := 6, attributes := #[] }] 1057 2 #[77] #[])
  fields := #[]
  methods := #[k11m0]
  instanceTypes := #[]
  staticTypes := #[]
  resolved := Array.replicate 160 none
  statics := none }

def pool12 : Array CpInfo := pool [(8, .class_ 10), (1, u "java/util/SequencedCollection"), (15, .class_ 27), (0, u "java/lang/Object"), (0, .class_ 29), (0, u "java/util/Collection")] 27

/-- java/util/SequencedCollection -/
def k12 : Class := { plain "java/util/SequencedCollection" (some 0) with
  accessFlags := 1537
  interfaces := #[10]
  cf := some (fileOf pool12 8 #[] #[] 1537 26 #[28] #[])
  fields := #[]
  methods := #[]
  instanceTypes := #[]
  staticTypes := #[]
  resolved := Array.replicate 57 none
  statics := none }

def pool13 : Array CpInfo := pool [(8, .class_ 10), (1, u "java/util/List"), (7, u "()Z"), (12, u "(Ljava/lang/Object;)V"), (16, u "<init>"), (18, u "isEmpty"), (11, u "size"), (0, u "()I"), (7, u "of"), (1, .fieldref 91 92), (0, .class_ 93), (0, .nameAndType 94 95), (0, u "java/util/ImmutableCollections"), (0, u "EMPTY_LIST"), (0, u "Ljava/util/ImmutableCollections$ListN;"), (0, .class_ 97), (0, u "java/util/ImmutableCollections$List12"), (0, .methodref 96 99), (0, .nameAndType 48 31), (0, .methodref 96 101), (0, .nameAndType 48 102), (0, u "(Ljava/lang/Object;Ljava/lang/Object;)V"), (0, .class_ 104), (0, u "java/lang/Object"), (3, u "([Ljava/lang/Object;)Ljava/util/List;"), (0, .methodref 91 110), (0, .nameAndType 111 108), (0, u "listFromArray"), (0, .methodref 91 113), (0, .nameAndType 114 115), (0, u "listCopy"), (0, u "(Ljava/util/Collection;)Ljava/util/List;"), (3, u "()Ljava/util/List;"), (0, .class_ 121), (0, u "java/util/SequencedCollection"), (112, u "copyOf")] 16

def k13m0 : Method := { name := "size", desc := "()I", sig := { parameters := [], returnType := some .int }, accessFlags := 1025, code := none }
def k13m1 : Method := { name := "isEmpty", desc := "()Z", sig := { parameters := [], returnType := some .boolean }, accessFlags := 1025, code := none }
def k13c2 : Code := { maxStack := 1, maxLocals := 0, code := jdk_40_method_36_code, exceptionTable := #[], attributes := #[] }
def k13m2 : Method := { name := "of", desc := "()Ljava/util/List;", sig := { parameters := [], returnType := some (.object "java/util/List") }, accessFlags := 9, code := some k13c2 }
def k13c3 : Code := { maxStack := 5, maxLocals := 2, code := jdk_40_method_47_code, exceptionTable := #[], attributes := #[] }
def k13m3 : Method := { name := "of", desc := "([Ljava/lang/Object;)Ljava/util/List;", sig := { parameters := [(.array (.object "java/lang/Object"))], returnType := some (.object "java/util/List") }, accessFlags := 137, code := some k13c3 }
def k13c4 : Code := { maxStack := 1, maxLocals := 1, code := jdk_40_method_48_code, exceptionTable := #[], attributes := #[] }
def k13m4 : Method := { name := "copyOf", desc := "(Ljava/util/Collection;)Ljava/util/List;", sig := { parameters := [(.object "java/util/Collection")], returnType := some (.object "java/util/List") }, accessFlags := 9, code := some k13c4 }
/-- java/util/List -/
def k13 : Class := { plain "java/util/List" (some 0) with
  accessFlags := 1537
  interfaces := #[12]
  cf := some (fileOf pool13 8 #[] #[{ accessFlags := 1025, nameIndex := 79, descriptorIndex := 80, attributes := #[] }, { accessFlags := 1025, nameIndex := 67, descriptorIndex := 18, attributes := #[] }, { accessFlags := 9, nameIndex := 88, descriptorIndex := 119, attributes := #[] }, { accessFlags := 137, nameIndex := 88, descriptorIndex := 108, attributes := #[] }, { accessFlags := 9, nameIndex := 234, descriptorIndex := 115, attributes := #[] }] 1537 103 #[120] #[])
  fields := #[]
  methods := #[k13m0, k13m1, k13m2, k13m3, k13m4]
  instanceTypes := #[]
  staticTypes := #[]
  resolved := Array.replicate 251 none
  statics := none }

def pool14 : Array CpInfo := pool [(1, .methodref 2 3), (0, .class_ 4), (0, .nameAndType 5 6), (0, u "java/util/AbstractCollection"), (0, u "<init>"), (0, u "()V"), (0, .fieldref 8 9), (0, .class_ 10), (0, .nameAndType 11 12), (0, u "java/util/AbstractList"), (0, u "modCount"), (0, u "I"), (64, .class_ 78), (0, u "java/util/AbstractList$Itr"), (3, .class_ 83), (0, u "java/util/AbstractList$ListItr"), (9, .class_ 94), (0, u "java/util/AbstractList$RandomAccessSubList"), (3, .class_ 99), (0, u "java/util/AbstractList$SubList"), (33, .class_ 134), (0, u "java/util/List"), (73, .class_ 209), (0, u "java/util/AbstractList$SubList$1"), (0, .class_ 211), (0, u "java/util/AbstractList$RandomAccessSpliterator")] 6

def k14c0 : Code := { maxStack := 2, maxLocals := 1, code := jdk_39_method_1_code, exceptionTable := #[], attributes := #[] }
def k14m0 : Method := { name := "<init>", desc := "()V", sig := { parameters := [], returnType := none }, accessFlags := 4, code := some k14c0 }
/-- java/util/AbstractList -/
def k14 : Class := { plain "java/util/AbstractList" (some 11) with
  accessFlags := 1057
  interfaces := #[13]
  cf := some (fileOf pool14 8 #[.nestMembers #[93, 98, 208, 210, 82, 77]] #[{ accessFlags := 4, nameIndex := 5, descriptorIndex := 6, attributes := #[] }] 1057 2 #[133] #[{ accessFlags := 132, nameIndex := 11, descriptorIndex := 12, attributes := #[] }])
  fields := #[{ name := "modCount", type := .int, accessFlags := 132, slot := 0, constantValue := 0 }]
  methods := #[k14m0]
  instanceTypes := #[.int]
  staticTypes := #[]
  resolved := Array.replicate 218 none
  statics := none }

def pool15 : Array CpInfo := pool [(1, .class_ 2), (0, u "java/util/RandomAccess"), (0, .class_ 4), (0, u "java/lang/Object")] 2

/-- java/util/RandomAccess -/
def k15 : Class := { plain "java/util/RandomAccess" (some 0) with
  accessFlags := 1537
  interfaces := #[]
  cf := some (fileOf pool15 1 #[] #[] 1537 3 #[] #[])
  fields := #[]
  methods := #[]
  instanceTypes := #[]
  staticTypes := #[]
  resolved := Array.replicate 7 none
  statics := none }

def pool16 : Array CpInfo := pool [(1, .class_ 2), (0, u "java/lang/Cloneable"), (0, .class_ 4), (0, u "java/lang/Object")] 2

/-- java/lang/Cloneable -/
def k16 : Class := { plain "java/lang/Cloneable" (some 0) with
  accessFlags := 1537
  interfaces := #[]
  cf := some (fileOf pool16 1 #[] #[] 1537 3 #[] #[])
  fields := #[]
  methods := #[]
  instanceTypes := #[]
  staticTypes := #[]
  resolved := Array.replicate 7 none
  statics := none }

def pool17 : Array CpInfo := pool [(1, .methodref 2 3), (0, .class_ 4), (0, .nameAndType 5 6), (0, u "java/util/AbstractList"), (0, u "<init>"), (0, u "()V"), (0, .class_ 8), (0, u "java/lang/Object"), (0, .fieldref 10 11), (0, .class_ 12), (0, .nameAndType 13 14), (0, u "java/util/ArrayList"), (0, u "elementData"), (0, u "[Ljava/lang/Object;"), (2, u "EMPTY_ELEMENTDATA"), (21, .fieldref 10 40), (0, .nameAndType 41 14), (0, u "DEFAULTCAPACITY_EMPTY_ELEMENTDATA"), (4, u "toArray"), (0, u "()[Ljava/lang/Object;"), (0, .fieldref 10 49), (0, .nameAndType 50 51), (0, u "size"), (0, u "I"), (6, .class_ 60), (1, u "java/util/Arrays"), (0, u "copyOf"), (1, .fieldref 10 64), (0, .nameAndType 65 51), (0, u "modCount"), (0, .methodref 58 67), (0, .nameAndType 61 68), (0, u "([Ljava/lang/Object;I)[Ljava/lang/Object;"), (0, .methodref 10 70), (0, .nameAndType 71 72), (0, u "grow"), (0, u "(I)[Ljava/lang/Object;"), (6, .methodref 80 81), (0, .class_ 82), (0, .nameAndType 83 84), (0, u "java/lang/Math"), (0, u "max"), (0, u "(II)I"), (11, u "(Ljava/lang/Object;)Z"), (32, .methodref 10 130), (0, .nameAndType 71 47), (0, .methodref 10 132), (0, .nameAndType 133 134), (0, u "add"), (0, u "(Ljava/lang/Object;[Ljava/lang/Object;I)V"), (13, .class_ 149), (0, u "java/util/List"), (23, u "()Z"), (88, .class_ 263), (0, u "java/util/ArrayList$ListItr"), (3, .class_ 268), (0, u "java/util/ArrayList$Itr"), (7, .class_ 277), (0, u "java/util/ArrayList$SubList"), (12, .class_ 291), (0, u "java/util/ArrayList$ArrayListSpliterator"), (37, .class_ 330), (0, u "java/util/RandomAccess"), (0, .class_ 332), (0, u "java/lang/Cloneable"), (0, .class_ 334), (0, u "java/io/Serializable"), (0, u "serialVersionUID"), (0, u "J"), (3, u "DEFAULT_CAPACITY"), (22, u "isEmpty"), (136, .class_ 501), (0, u "java/util/ArrayList$SubList$2"), (0, .class_ 503), (0, u "java/util/ArrayList$SubList$1")] 5

def k17c0 : Code := { maxStack := 2, maxLocals := 1, code := jdk_38_method_2_code, exceptionTable := #[], attributes := #[] }
def k17m0 : Method := { name := "<init>", desc := "()V", sig := { parameters := [], returnType := none }, accessFlags := 1, code := some k17c0 }
def k17c1 : Code := { maxStack := 4, maxLocals := 4, code := jdk_38_method_6_code, exceptionTable := #[], attributes := #[] }
def k17m1 : Method := { name := "grow", desc := "(I)[Ljava/lang/Object;", sig := { parameters := [.int], returnType := some (.array (.object "java/lang/Object")) }, accessFlags := 2, code := some k17c1 }
def k17c2 : Code := { maxStack := 3, maxLocals := 1, code := jdk_38_method_7_code, exceptionTable := #[], attributes := #[] }
def k17m2 : Method := { name := "grow", desc := "()[Ljava/lang/Object;", sig := { parameters := [], returnType := some (.array (.object "java/lang/Object")) }, accessFlags := 2, code := some k17c2 }
def k17c3 : Code := { maxStack := 1, maxLocals := 1, code := jdk_38_method_9_code, exceptionTable := #[], attributes := #[] }
def k17m3 : Method := { name := "isEmpty", desc := "()Z", sig := { parameters := [], returnType := some .boolean }, accessFlags := 1, code := some k17c3 }
def k17c4 : Code := { maxStack := 2, maxLocals := 1, code := jdk_38_method_16_code, exceptionTable := #[], attributes := #[] }
def k17m4 : Method := { name := "toArray", desc := "()[Ljava/lang/Object;", sig := { parameters := [], returnType := some (.array (.object "java/lang/Object")) }, accessFlags := 1, code := some k17c4 }
def k17c5 : Code := { maxStack := 3, maxLocals := 4, code := jdk_38_method_24_code, exceptionTable := #[], attributes := #[] }
def k17m5 : Method := { name := "add", desc := "(Ljava/lang/Object;[Ljava/lang/Object;I)V", sig := { parameters := [(.object "java/lang/Object"), (.array (.object "java/lang/Object")), .int], returnType := none }, accessFlags := 2, code := some k17c5 }
def k17c6 : Code := { maxStack := 4, maxLocals := 2, code := jdk_38_method_25_code, exceptionTable := #[], attributes := #[] }
def k17m6 : Method := { name := "add", desc := "(Ljava/lang/Object;)Z", sig := { parameters := [(.object "java/lang/Object")], returnType := some .boolean }, accessFlags := 1, code := some k17c6 }
/-- java/util/ArrayList -/
def k17 : Class := { plain "java/util/ArrayList" (some 14) with
  accessFlags := 33
  interfaces := #[13, 15, 16, 2]
  cf := some (fileOf pool17 10 #[.nestMembers #[290, 276, 500, 502, 262, 267]] #[{ accessFlags := 1, nameIndex := 5, descriptorIndex := 6, attributes := #[] }, { accessFlags := 2, nameIndex := 71, descriptorIndex := 72, attributes := #[] }, { accessFlags := 2, nameIndex := 71, descriptorIndex := 47, attributes := #[] }, { accessFlags := 1, nameIndex := 363, descriptorIndex := 173, attributes := #[] }, { accessFlags := 1, nameIndex := 46, descriptorIndex := 47, attributes := #[] }, { accessFlags := 2, nameIndex := 133, descriptorIndex := 134, attributes := #[] }, { accessFlags := 1, nameIndex := 133, descriptorIndex := 96, attributes := #[] }] 33 2 #[148, 329, 331, 333] #[{ accessFlags := 26, nameIndex := 335, descriptorIndex := 336, attributes := #[] }, { accessFlags := 26, nameIndex := 340, descriptorIndex := 51, attributes := #[] }, { accessFlags := 26, nameIndex := 17, descriptorIndex := 14, attributes := #[] }, { accessFlags := 26, nameIndex := 41, descriptorIndex := 14, attributes := #[] }, { accessFlags := 128, nameIndex := 13, descriptorIndex := 14, attributes := #[] }, { accessFlags := 2, nameIndex := 50, descriptorIndex := 51, attributes := #[] }])
  fields := #[{ name := "serialVersionUID", type := .long, accessFlags := 26, slot := 0, constantValue := 0 }, { name := "DEFAULT_CAPACITY", type := .int, accessFlags := 26, slot := 1, constantValue := 0 }, { name := "EMPTY_ELEMENTDATA", type := (.array (.object "java/lang/Object")), accessFlags := 26, slot := 2, constantValue := 0 }, { name := "DEFAULTCAPACITY_EMPTY_ELEMENTDATA", type := (.array (.object "java/lang/Object")), accessFlags := 26, slot := 3, constantValue := 0 }, { name := "elementData", type := (.array (.object "java/lang/Object")), accessFlags := 128, slot := 1, constantValue := 0 }, { name := "size", type := .int, accessFlags := 2, slot := 2, constantValue := 0 }]
  methods := #[k17m0, k17m1, k17m2, k17m3, k17m4, k17m5, k17m6]
  instanceTypes := #[.int, (.array (.object "java/lang/Object")), .int]
  staticTypes := #[.long, .int, (.array (.object "java/lang/Object")), (.array (.object "java/lang/Object"))]
  resolved := Array.replicate 509 none
  statics := some 1 }

def pool18 : Array CpInfo := pool [(1, .methodref 2 3), (0, .class_ 4), (0, .nameAndType 5 6), (0, u "java/lang/Object"), (0, u "<init>"), (0, u "()V"), (0, .fieldref 8 9), (0, .class_ 10), (0, .nameAndType 11 12), (0, u "com/example/weaverbird/weaverbird/bind/Binding"), (0, u "value"), (0, u "Ljava/lang/Object;"), (0, .interfaceMethodref 14 15), (0, .class_ 16), (0, .nameAndType 17 18), (0, u "java/util/List"), (0, u "copyOf"), (0, u "(Ljava/util/Collection;)Ljava/util/List;"), (0, .fieldref 8 20), (0, .nameAndType 21 22), (0, u "errors"), (0, u "Ljava/util/List;"), (0, .interfaceMethodref 14 24), (0, .nameAndType 25 26), (0, u "isEmpty"), (0, u "()Z"), (3, u "(Ljava/lang/Object;Ljava/util/List;)V"), (5, u "()Ljava/util/List;"), (1, u "hasErrors")] 4

def k18c0 : Code := { maxStack := 2, maxLocals := 3, code := prog_4_method_1_code, exceptionTable := #[], attributes := #[] }
def k18m0 : Method := { name := "<init>", desc := "(Ljava/lang/Object;Ljava/util/List;)V", sig := { parameters := [(.object "java/lang/Object"), (.object "java/util/List")], returnType := none }, accessFlags := 0, code := some k18c0 }
def k18c1 : Code := { maxStack := 1, maxLocals := 1, code := prog_4_method_3_code, exceptionTable := #[], attributes := #[] }
def k18m1 : Method := { name := "errors", desc := "()Ljava/util/List;", sig := { parameters := [], returnType := some (.object "java/util/List") }, accessFlags := 1, code := some k18c1 }
def k18c2 : Code := { maxStack := 1, maxLocals := 1, code := prog_4_method_4_code, exceptionTable := #[], attributes := #[] }
def k18m2 : Method := { name := "hasErrors", desc := "()Z", sig := { parameters := [], returnType := some .boolean }, accessFlags := 1, code := some k18c2 }
/-- com/example/weaverbird/weaverbird/bind/Binding -/
def k18 : Class := { plain "com/example/weaverbird/weaverbird/bind/Binding" (some 0) with
  accessFlags := 49
  interfaces := #[]
  cf := some (fileOf pool18 8 #[] #[{ accessFlags := 0, nameIndex := 5, descriptorIndex := 30, attributes := #[] }, { accessFlags := 1, nameIndex := 21, descriptorIndex := 36, attributes := #[] }, { accessFlags := 1, nameIndex := 38, descriptorIndex := 26, attributes := #[] }] 49 2 #[] #[{ accessFlags := 18, nameIndex := 11, descriptorIndex := 12, attributes := #[] }, { accessFlags := 18, nameIndex := 21, descriptorIndex := 22, attributes := #[] }])
  fields := #[{ name := "value", type := (.object "java/lang/Object"), accessFlags := 18, slot := 0, constantValue := 0 }, { name := "errors", type := (.object "java/util/List"), accessFlags := 18, slot := 1, constantValue := 0 }]
  methods := #[k18m0, k18m1, k18m2]
  instanceTypes := #[(.object "java/lang/Object"), (.object "java/util/List")]
  staticTypes := #[]
  resolved := Array.replicate 43 none
  statics := none }

def pool19 : Array CpInfo := pool [(2, .class_ 4), (1, u "java/lang/Object"), (0, u "<init>"), (0, u "()V"), (3, .class_ 11), (0, u "java/util/ImmutableCollections$List12"), (0, .class_ 13), (0, u "java/util/ImmutableCollections$ListN"), (3, u "Z"), (0, .class_ 19), (0, u "java/util/List"), (0, .interfaceMethodref 21 22), (0, .class_ 23), (0, .nameAndType 24 25), (0, u "java/util/Collection"), (0, u "isEmpty"), (0, u "()Z"), (0, .interfaceMethodref 18 27), (0, .nameAndType 28 29), (0, u "of"), (0, u "()Ljava/util/List;"), (0, .interfaceMethodref 21 31), (0, .nameAndType 32 33), (0, u "toArray"), (0, u "()[Ljava/lang/Object;"), (0, .interfaceMethodref 18 35), (0, .nameAndType 28 36), (0, u "([Ljava/lang/Object;)Ljava/util/List;"), (0, .methodref 38 39), (0, .class_ 40), (0, .nameAndType 41 42), (0, u "java/util/Objects"), (0, u "requireNonNull"), (0, u "(Ljava/lang/Object;)Ljava/lang/Object;"), (0, .methodref 12 44), (0, .nameAndType 5 45), (0, u "([Ljava/lang/Object;Z)V"), (1, .class_ 49), (1, u "java/util/ImmutableCollections"), (0, u "$assertionsDisabled"), (5, u "[Ljava/lang/Object;"), (5, u "EMPTY_LIST"), (0, u "Ljava/util/ImmutableCollections$ListN;"), (8, u "EMPTY_LIST_NULLS"), (22, u "SALT32L"), (0, u "J"), (2, u "REVERSE"), (6, u "archivedObjects"), (2, u "EMPTY"), (0, u "Ljava/lang/Object;"), (0, .class_ 112), (0, u "java/util/ImmutableCollections$SetN"), (5, u "EMPTY_SET"), (0, u "Ljava/util/ImmutableCollections$SetN;"), (0, .class_ 121), (0, u "java/util/ImmutableCollections$MapN"), (3, u "EMPTY_MAP"), (0, u "Ljava/util/ImmutableCollections$MapN;"), (4, u "EXPAND_FACTOR"), (0, u "I"), (9, u "listCopy"), (0, u "(Ljava/util/Collection;)Ljava/util/List;"), (7, u "listFromArray"), (17, .class_ 170), (0, u "java/util/ImmutableCollections$MapN$MapNIterator"), (0, .class_ 172), (0, u "java/util/ImmutableCollections$MapN$1"), (0, .class_ 174), (0, u "java/util/ImmutableCollections$Map1"), (0, .class_ 176), (0, u "java/util/ImmutableCollections$AbstractImmutableMap"), (0, .class_ 178), (0, u "java/util/ImmutableCollections$SetN$SetNIterator"), (0, .class_ 180), (0, u "java/util/ImmutableCollections$Set12"), (0, .class_ 182), (0, u "java/util/ImmutableCollections$Set12$1"), (0, .class_ 184), (0, u "java/util/ImmutableCollections$AbstractImmutableSet"), (0, .class_ 186), (0, u "java/util/ImmutableCollections$SubList"), (0, .class_ 188), (0, u "java/util/ImmutableCollections$ListItr"), (0, .class_ 190), (0, u "java/util/ImmutableCollections$AbstractImmutableList"), (0, .class_ 192), (0, u "java/util/ImmutableCollections$AbstractImmutableCollection"), (0, .class_ 194), (0, u "java/util/ImmutableCollections$Access"), (0, .class_ 196), (0, u "java/util/ImmutableCollections$Access$1")] 16

def k19m0 : Method := { name := "<init>", desc := "()V", sig := { parameters := [], returnType := none }, accessFlags := 2, code := none }
def k19c1 : Code := { maxStack := 1, maxLocals := 2, code := jdk_56_method_3_code, exceptionTable := #[], attributes := #[] }
def k19m1 : Method := { name := "listCopy", desc := "(Ljava/util/Collection;)Ljava/util/List;", sig := { parameters := [(.object "java/util/Collection")], returnType := some (.object "java/util/List") }, accessFlags := 8, code := some k19c1 }
def k19c2 : Code := { maxStack := 4, maxLocals := 3, code := jdk_56_method_4_code, exceptionTable := #[], attributes := #[] }
def k19m2 : Method := { name := "listFromArray", desc := "([Ljava/lang/Object;)Ljava/util/List;", sig := { parameters := [(.array (.object "java/lang/Object"))], returnType := some (.object "java/util/List") }, accessFlags := 136, code := some k19c2 }
/-- java/util/ImmutableCollections -/
def k19 : Class := { plain "java/util/ImmutableCollections" (some 0) with
  accessFlags := 32
  interfaces := #[]
  cf := some (fileOf pool19 47 #[.nestMembers #[120, 169, 171, 173, 175, 111, 177, 179, 181, 183, 12, 10, 185, 187, 189, 191, 193, 195]] #[{ accessFlags := 2, nameIndex := 5, descriptorIndex := 6, attributes := #[] }, { accessFlags := 8, nameIndex := 142, descriptorIndex := 143, attributes := #[] }, { accessFlags := 136, nameIndex := 151, descriptorIndex := 36, attributes := #[] }] 32 2 #[] #[{ accessFlags := 26, nameIndex := 95, descriptorIndex := 96, attributes := #[] }, { accessFlags := 26, nameIndex := 99, descriptorIndex := 17, attributes := #[] }, { accessFlags := 10, nameIndex := 106, descriptorIndex := 56, attributes := #[] }, { accessFlags := 26, nameIndex := 109, descriptorIndex := 110, attributes := #[] }, { accessFlags := 24, nameIndex := 62, descriptorIndex := 63, attributes := #[] }, { accessFlags := 24, nameIndex := 72, descriptorIndex := 63, attributes := #[] }, { accessFlags := 24, nameIndex := 118, descriptorIndex := 119, attributes := #[] }, { accessFlags := 24, nameIndex := 125, descriptorIndex := 126, attributes := #[] }, { accessFlags := 24, nameIndex := 131, descriptorIndex := 132, attributes := #[] }, { accessFlags := 4120, nameIndex := 50, descriptorIndex := 17, attributes := #[] }])
  fields := #[{ name := "SALT32L", type := .long, accessFlags := 26, slot := 0, constantValue := 0 }, { name := "REVERSE", type := .boolean, accessFlags := 26, slot := 1, constantValue := 0 }, { name := "archivedObjects", type := (.array (.object "java/lang/Object")), accessFlags := 10, slot := 2, constantValue := 0 }, { name := "EMPTY", type := (.object "java/lang/Object"), accessFlags := 26, slot := 3, constantValue := 0 }, { name := "EMPTY_LIST", type := (.object "java/util/ImmutableCollections$ListN"), accessFlags := 24, slot := 4, constantValue := 0 }, { name := "EMPTY_LIST_NULLS", type := (.object "java/util/ImmutableCollections$ListN"), accessFlags := 24, slot := 5, constantValue := 0 }, { name := "EMPTY_SET", type := (.object "java/util/ImmutableCollections$SetN"), accessFlags := 24, slot := 6, constantValue := 0 }, { name := "EMPTY_MAP", type := (.object "java/util/ImmutableCollections$MapN"), accessFlags := 24, slot := 7, constantValue := 0 }, { name := "EXPAND_FACTOR", type := .int, accessFlags := 24, slot := 8, constantValue := 0 }, { name := "$assertionsDisabled", type := .boolean, accessFlags := 4120, slot := 9, constantValue := 0 }]
  methods := #[k19m0, k19m1, k19m2]
  instanceTypes := #[]
  staticTypes := #[.long, .boolean, (.array (.object "java/lang/Object")), (.object "java/lang/Object"), (.object "java/util/ImmutableCollections$ListN"), (.object "java/util/ImmutableCollections$ListN"), (.object "java/util/ImmutableCollections$SetN"), (.object "java/util/ImmutableCollections$MapN"), .int, .boolean]
  resolved := Array.replicate 213 none
  statics := some 2 }

def pool20 : Array CpInfo := pool [(1, .methodref 2 3), (0, .class_ 4), (0, .nameAndType 5 6), (0, u "java/util/AbstractCollection"), (0, u "<init>"), (0, u "()V"), (1, .class_ 10), (1, u "java/util/ImmutableCollections"), (2, .class_ 14), (0, u "java/util/ImmutableCollections$AbstractImmutableCollection")] 41

def k20c0 : Code := { maxStack := 1, maxLocals := 1, code := jdk_47_method_1_code, exceptionTable := #[], attributes := #[] }
def k20m0 : Method := { name := "<init>", desc := "()V", sig := { parameters := [], returnType := none }, accessFlags := 0, code := some k20c0 }
/-- java/util/ImmutableCollections$AbstractImmutableCollection -/
def k20 : Class := { plain "java/util/ImmutableCollections$AbstractImmutableCollection" (some 11) with
  accessFlags := 1056
  interfaces := #[]
  cf := some (fileOf pool20 13 #[.nestHost 8] #[{ accessFlags := 0, nameIndex := 5, descriptorIndex := 6, attributes := #[] }] 1056 2 #[] #[])
  fields := #[]
  methods := #[k20m0]
  instanceTypes := #[]
  staticTypes := #[]
  resolved := Array.replicate 56 none
  statics := none }

def pool21 : Array CpInfo := pool [(1, .methodref 2 3), (0, .class_ 4), (0, .nameAndType 5 6), (0, u "java/util/ImmutableCollections$AbstractImmutableCollection"), (0, u "<init>"), (0, u "()V"), (1, .class_ 10), (1, u "java/util/ImmutableCollections"), (3, .class_ 16), (1, u "java/util/ImmutableCollections$AbstractImmutableList"), (60, .class_ 78), (0, u "java/util/List"), (45, .class_ 125), (0, u "java/util/RandomAccess")] 70

def k21c0 : Code := { maxStack := 1, maxLocals := 1, code := jdk_46_method_1_code, exceptionTable := #[], attributes := #[] }
def k21m0 : Method := { name := "<init>", desc := "()V", sig := { parameters := [], returnType := none }, accessFlags := 0, code := some k21c0 }
/-- java/util/ImmutableCollections$AbstractImmutableList -/
def k21 : Class := { plain "java/util/ImmutableCollections$AbstractImmutableList" (some 20) with
  accessFlags := 1056
  interfaces := #[13, 15]
  cf := some (fileOf pool21 14 #[.nestHost 8] #[{ accessFlags := 0, nameIndex := 5, descriptorIndex := 6, attributes := #[] }] 1056 2 #[77, 124] #[])
  fields := #[]
  methods := #[k21m0]
  instanceTypes := #[]
  staticTypes := #[]
  resolved := Array.replicate 196 none
  statics := none }

def pool22 : Array CpInfo := pool [(1, .methodref 2 3), (0, .class_ 4), (0, .nameAndType 5 6), (0, u "java/util/ImmutableCollections$AbstractImmutableList"), (0, u "<init>"), (0, u "()V"), (0, .methodref 8 9), (0, .class_ 10), (0, .nameAndType 11 12), (0, u "java/util/Objects"), (0, u "requireNonNull"), (0, u "(Ljava/lang/Object;)Ljava/lang/Object;"), (0, .fieldref 14 15), (0, .class_ 16), (0, .nameAndType 17 18), (0, u "java/util/ImmutableCollections$List12"), (0, u "e0"), (0, u "Ljava/lang/Object;"), (0, .fieldref 20 21), (0, .class_ 22), (0, .nameAndType 23 18), (0, u "java/util/ImmutableCollections"), (0, u "EMPTY"), (0, .fieldref 14 25), (0, .nameAndType 26 18), (0, u "e1"), (24, u "size"), (0, u "()I"), (17, .class_ 71), (0, u "java/io/Serializable"), (4, u "(Ljava/lang/Object;)V"), (8, u "(Ljava/lang/Object;Ljava/lang/Object;)V"), (2, u "isEmpty"), (0, u "()Z")] 35

def k22c0 : Code := { maxStack := 2, maxLocals := 2, code := jdk_44_method_1_code, exceptionTable := #[], attributes := #[] }
def k22m0 : Method := { name := "<init>", desc := "(Ljava/lang/Object;)V", sig := { parameters := [(.object "java/lang/Object")], returnType := none }, accessFlags := 0, code := some k22c0 }
def k22c1 : Code := { maxStack := 2, maxLocals := 3, code := jdk_44_method_2_code, exceptionTable := #[], attributes := #[] }
def k22m1 : Method := { name := "<init>", desc := "(Ljava/lang/Object;Ljava/lang/Object;)V", sig := { parameters := [(.object "java/lang/Object"), (.object "java/lang/Object")], returnType := none }, accessFlags := 0, code := some k22c1 }
def k22c2 : Code := { maxStack := 2, maxLocals := 1, code := jdk_44_method_3_code, exceptionTable := #[], attributes := #[] }
def k22m2 : Method := { name := "size", desc := "()I", sig := { parameters := [], returnType := some .int }, accessFlags := 1, code := some k22c2 }
def k22c3 : Code := { maxStack := 1, maxLocals := 1, code := jdk_44_method_4_code, exceptionTable := #[], attributes := #[] }
def k22m3 : Method := { name := "isEmpty", desc := "()Z", sig := { parameters := [], returnType := some .boolean }, accessFlags := 1, code := some k22c3 }
/-- java/util/ImmutableCollections$List12 -/
def k22 : Class := { plain "java/util/ImmutableCollections$List12" (some 21) with
  accessFlags := 48
  interfaces := #[2]
  cf := some (fileOf pool22 14 #[.nestHost 20] #[{ accessFlags := 0, nameIndex := 5, descriptorIndex := 76, attributes := #[] }, { accessFlags := 0, nameIndex := 5, descriptorIndex := 85, attributes := #[] }, { accessFlags := 1, nameIndex := 51, descriptorIndex := 52, attributes := #[] }, { accessFlags := 1, nameIndex := 88, descriptorIndex := 89, attributes := #[] }] 48 2 #[70] #[{ accessFlags := 18, nameIndex := 17, descriptorIndex := 18, attributes := #[] }, { accessFlags := 18, nameIndex := 26, descriptorIndex := 18, attributes := #[] }])
  fields := #[{ name := "e0", type := (.object "java/lang/Object"), accessFlags := 18, slot := 0, constantValue := 0 }, { name := "e1", type := (.object "java/lang/Object"), accessFlags := 18, slot := 1, constantValue := 0 }]
  methods := #[k22m0, k22m1, k22m2, k22m3]
  instanceTypes := #[(.object "java/lang/Object"), (.object "java/lang/Object")]
  staticTypes := #[]
  resolved := Array.replicate 125 none
  statics := none }

def pool23 : Array CpInfo := pool [(1, .methodref 2 3), (0, .class_ 4), (0, .nameAndType 5 6), (0, u "java/util/ImmutableCollections$AbstractImmutableList"), (0, u "<init>"), (0, u "()V"), (0, .fieldref 8 9), (0, .class_ 10), (0, .nameAndType 11 12), (0, u "java/util/ImmutableCollections$ListN"), (0, u "elements"), (0, u "[Ljava/lang/Object;"), (0, .fieldref 8 14), (0, .nameAndType 15 16), (0, u "allowNulls"), (0, u "Z"), (42, .class_ 60), (0, u "java/io/Serializable"), (4, u "([Ljava/lang/Object;Z)V"), (8, u "isEmpty"), (0, u "()Z"), (1, u "size"), (0, u "()I"), (35, .class_ 115), (0, u "java/util/ImmutableCollections")] 3

def k23c0 : Code := { maxStack := 2, maxLocals := 3, code := jdk_45_method_1_code, exceptionTable := #[], attributes := #[] }
def k23m0 : Method := { name := "<init>", desc := "([Ljava/lang/Object;Z)V", sig := { parameters := [(.array (.object "java/lang/Object")), .boolean], returnType := none }, accessFlags := 2, code := some k23c0 }
def k23c1 : Code := { maxStack := 1, maxLocals := 1, code := jdk_45_method_2_code, exceptionTable := #[], attributes := #[] }
def k23m1 : Method := { name := "isEmpty", desc := "()Z", sig := { parameters := [], returnType := some .boolean }, accessFlags := 1, code := some k23c1 }
def k23c2 : Code := { maxStack := 1, maxLocals := 1, code := jdk_45_method_3_code, exceptionTable := #[], attributes := #[] }
def k23m2 : Method := { name := "size", desc := "()I", sig := { parameters := [], returnType := some .int }, accessFlags := 1, code := some k23c2 }
/-- java/util/ImmutableCollections$ListN -/
def k23 : Class := { plain "java/util/ImmutableCollections$ListN" (some 21) with
  accessFlags := 48
  interfaces := #[2]
  cf := some (fileOf pool23 8 #[.nestHost 114] #[{ accessFlags := 2, nameIndex := 5, descriptorIndex := 65, attributes := #[] }, { accessFlags := 1, nameIndex := 74, descriptorIndex := 75, attributes := #[] }, { accessFlags := 1, nameIndex := 77, descriptorIndex := 78, attributes := #[] }] 48 2 #[59] #[{ accessFlags := 18, nameIndex := 11, descriptorIndex := 12, attributes := #[] }, { accessFlags := 18, nameIndex := 15, descriptorIndex := 16, attributes := #[] }])
  fields := #[{ name := "elements", type := (.array (.object "java/lang/Object")), accessFlags := 18, slot := 0, constantValue := 0 }, { name := "allowNulls", type := .boolean, accessFlags := 18, slot := 1, constantValue := 0 }]
  methods := #[k23m0, k23m1, k23m2]
  instanceTypes := #[(.array (.object "java/lang/Object")), .boolean]
  staticTypes := #[]
  resolved := Array.replicate 119 none
  statics := none }

def pool24 : Array CpInfo := pool [(1, .methodref 2 3), (0, .class_ 4), (0, .nameAndType 5 6), (0, u "java/lang/Object"), (0, u "<init>"), (0, u "()V"), (0, .fieldref 8 9), (0, .class_ 10), (0, .nameAndType 11 12), (0, u "com/example/weaverbird/weaverbird/bind/FieldError"), (0, u "path"), (0, u "Ljava/lang/String;"), (0, .fieldref 8 14), (0, .nameAndType 15 12), (0, u "code"), (0, .fieldref 8 17), (0, .nameAndType 18 12), (0, u "rejected"), (0, .fieldref 8 20), (0, .nameAndType 21 12), (0, u "message"), (0, u "(Ljava/lang/String;Ljava/lang/String;Ljava/lang/String;Ljava/lang/String;)V")] 5

def k24c0 : Code := { maxStack := 2, maxLocals := 5, code := prog_7_method_1_code, exceptionTable := #[], attributes := #[] }
def k24m0 : Method := { name := "<init>", desc := "(Ljava/lang/String;Ljava/lang/String;Ljava/lang/String;Ljava/lang/String;)V", sig := { parameters := [(.object "java/lang/String"), (.object "java/lang/String"), (.object "java/lang/String"), (.object "java/lang/String")], returnType := none }, accessFlags := 0, code := some k24c0 }
/-- com/example/weaverbird/weaverbird/bind/FieldError -/
def k24 : Class := { plain "com/example/weaverbird/weaverbird/bind/FieldError" (some 0) with
  accessFlags := 49
  interfaces := #[]
  cf := some (fileOf pool24 8 #[] #[{ accessFlags := 0, nameIndex := 5, descriptorIndex := 22, attributes := #[] }] 49 2 #[] #[{ accessFlags := 18, nameIndex := 11, descriptorIndex := 12, attributes := #[] }, { accessFlags := 18, nameIndex := 15, descriptorIndex := 12, attributes := #[] }, { accessFlags := 18, nameIndex := 18, descriptorIndex := 12, attributes := #[] }, { accessFlags := 18, nameIndex := 21, descriptorIndex := 12, attributes := #[] }])
  fields := #[{ name := "path", type := (.object "java/lang/String"), accessFlags := 18, slot := 0, constantValue := 0 }, { name := "code", type := (.object "java/lang/String"), accessFlags := 18, slot := 1, constantValue := 0 }, { name := "rejected", type := (.object "java/lang/String"), accessFlags := 18, slot := 2, constantValue := 0 }, { name := "message", type := (.object "java/lang/String"), accessFlags := 18, slot := 3, constantValue := 0 }]
  methods := #[k24m0]
  instanceTypes := #[(.object "java/lang/String"), (.object "java/lang/String"), (.object "java/lang/String"), (.object "java/lang/String")]
  staticTypes := #[]
  resolved := Array.replicate 28 none
  statics := none }

def pool25 : Array CpInfo := pool [(2, .class_ 4), (1, u "java/lang/CharSequence"), (42, .class_ 48), (0, u "java/lang/CharSequence$1CodePointIterator"), (10, .class_ 60), (0, u "java/lang/CharSequence$1CharIterator"), (5, .class_ 67), (0, u "java/lang/Object")] 63

/-- java/lang/CharSequence -/
def k25 : Class := { plain "java/lang/CharSequence" (some 0) with
  accessFlags := 1537
  interfaces := #[]
  cf := some (fileOf pool25 2 #[.nestMembers #[47, 59]] #[] 1537 66 #[] #[])
  fields := #[]
  methods := #[]
  instanceTypes := #[]
  staticTypes := #[]
  resolved := Array.replicate 131 none
  statics := none }

def pool26 : Array CpInfo := pool [(2, .class_ 4), (1, u "java/lang/Object"), (0, u "<init>"), (0, u "()V"), (3, .class_ 12), (1, u "java/lang/String"), (0, u "value"), (0, u "[B"), (2, u "coder"), (0, u "B"), (2, u "hash"), (0, u "I"), (2, u "hashIsZero"), (0, u "Z"), (13, u "COMPACT_STRINGS"), (534, .class_ 576), (0, u "java/lang/CharSequence"), (22, u "CASE_INSENSITIVE_ORDER"), (0, u "Ljava/util/Comparator;"), (500, u "serialPersistentFields"), (0, u "[Ljava/io/ObjectStreamField;"), (0, .class_ 1104), (0, u "java/lang/String$CaseInsensitiveComparator"), (1, .class_ 1107), (0, u "java/io/Serializable"), (0, .class_ 1109), (0, u "java/lang/Comparable"), (0, .class_ 1111), (0, u "java/lang/constant/Constable"), (0, .class_ 1113), (0, u "java/lang/constant/ConstantDesc"), (2, u "serialVersionUID"), (0, u "J"), (3, u "REPL"), (0, u "C"), (2, u "LATIN1"), (1, u "UTF16")] 323

def k26m0 : Method := { name := "<init>", desc := "()V", sig := { parameters := [], returnType := none }, accessFlags := 1, code := none }
/-- java/lang/String -/
def k26 : Class := { plain "java/lang/String" (some 0) with
  accessFlags := 49
  interfaces := #[2, 4, 25, 5, 6]
  cf := some (fileOf pool26 10 #[.nestMembers #[1103]] #[{ accessFlags := 1, nameIndex := 5, descriptorIndex := 6, attributes := #[] }] 49 2 #[1106, 1108, 575, 1110, 1112] #[{ accessFlags := 18, nameIndex := 13, descriptorIndex := 14, attributes := #[] }, { accessFlags := 18, nameIndex := 17, descriptorIndex := 18, attributes := #[] }, { accessFlags := 2, nameIndex := 21, descriptorIndex := 22, attributes := #[] }, { accessFlags := 2, nameIndex := 25, descriptorIndex := 26, attributes := #[] }, { accessFlags := 26, nameIndex := 1116, descriptorIndex := 1117, attributes := #[] }, { accessFlags := 24, nameIndex := 40, descriptorIndex := 26, attributes := #[] }, { accessFlags := 26, nameIndex := 1101, descriptorIndex := 1102, attributes := #[] }, { accessFlags := 26, nameIndex := 1121, descriptorIndex := 1122, attributes := #[] }, { accessFlags := 25, nameIndex := 599, descriptorIndex := 600, attributes := #[] }, { accessFlags := 24, nameIndex := 1125, descriptorIndex := 18, attributes := #[] }, { accessFlags := 24, nameIndex := 1127, descriptorIndex := 18, attributes := #[] }])
  fields := #[{ name := "value", type := (.array .byte), accessFlags := 18, slot := 0, constantValue := 0 }, { name := "coder", type := .byte, accessFlags := 18, slot := 1, constantValue := 0 }, { name := "hash", type := .int, accessFlags := 2, slot := 2, constantValue := 0 }, { name := "hashIsZero", type := .boolean, accessFlags := 2, slot := 3, constantValue := 0 }, { name := "serialVersionUID", type := .long, accessFlags := 26, slot := 0, constantValue := 0 }, { name := "COMPACT_STRINGS", type := .boolean, accessFlags := 24, slot := 1, constantValue := 0 }, { name := "serialPersistentFields", type := (.array (.object "java/io/ObjectStreamField")), accessFlags := 26, slot := 2, constantValue := 0 }, { name := "REPL", type := .char, accessFlags := 26, slot := 3, constantValue := 0 }, { name := "CASE_INSENSITIVE_ORDER", type := (.object "java/util/Comparator"), accessFlags := 25, slot := 4, constantValue := 0 }, { name := "LATIN1", type := .byte, accessFlags := 24, slot := 5, constantValue := 0 }, { name := "UTF16", type := .byte, accessFlags := 24, slot := 6, constantValue := 0 }]
  methods := #[k26m0]
  instanceTypes := #[(.array .byte), .byte, .int, .boolean]
  staticTypes := #[.long, .boolean, (.array (.object "java/io/ObjectStreamField")), .char, (.object "java/util/Comparator"), .byte, .byte]
  resolved := Array.replicate 1451 none
  statics := none }

def pool27 : Array CpInfo := pool [(1, .class_ 2), (0, u "java/lang/Math"), (1, .class_ 6), (1, u "java/lang/Object"), (0, u "<init>"), (0, u "()V"), (89, .class_ 100), (1, u "java/lang/Math$RandomNumberGeneratorHolder"), (71, u "negativeZeroFloatBits"), (0, u "J"), (2, u "negativeZeroDoubleBits"), (21, u "max"), (2, u "min"), (43, u "$assertionsDisabled"), (0, u "Z"), (88, u "(II)I"), (2, u "twoToTheDoubleScaleDown"), (0, u "D"), (4, u "twoToTheDoubleScaleUp"), (9, u "E"), (3, u "PI"), (2, u "TAU"), (2, u "DEGREES_TO_RADIANS"), (0, u "RADIANS_TO_DEGREES")] 94

def k27m0 : Method := { name := "<init>", desc := "()V", sig := { parameters := [], returnType := none }, accessFlags := 2, code := none }
def k27c1 : Code := { maxStack := 2, maxLocals := 2, code := jdk_29_method_65_code, exceptionTable := #[], attributes := #[] }
def k27m1 : Method := { name := "max", desc := "(II)I", sig := { parameters := [.int, .int], returnType := some .int }, accessFlags := 9, code := some k27c1 }
def k27c2 : Code := { maxStack := 2, maxLocals := 2, code := jdk_29_method_69_code, exceptionTable := #[], attributes := #[] }
def k27m2 : Method := { name := "min", desc := "(II)I", sig := { parameters := [.int, .int], returnType := some .int }, accessFlags := 9, code := some k27c2 }
/-- java/lang/Math -/
def k27 : Class := { plain "java/lang/Math" (some 0) with
  accessFlags := 49
  interfaces := #[]
  cf := some (fileOf pool27 1 #[.nestMembers #[98]] #[{ accessFlags := 2, nameIndex := 7, descriptorIndex := 8, attributes := #[] }, { accessFlags := 9, nameIndex := 198, descriptorIndex := 335, attributes := #[] }, { accessFlags := 9, nameIndex := 201, descriptorIndex := 335, attributes := #[] }] 49 4 #[] #[{ accessFlags := 25, nameIndex := 354, descriptorIndex := 339, attributes := #[] }, { accessFlags := 25, nameIndex := 358, descriptorIndex := 339, attributes := #[] }, { accessFlags := 25, nameIndex := 361, descriptorIndex := 339, attributes := #[] }, { accessFlags := 26, nameIndex := 364, descriptorIndex := 339, attributes := #[] }, { accessFlags := 26, nameIndex := 365, descriptorIndex := 339, attributes := #[] }, { accessFlags := 26, nameIndex := 172, descriptorIndex := 173, attributes := #[] }, { accessFlags := 26, nameIndex := 176, descriptorIndex := 173, attributes := #[] }, { accessFlags := 8, nameIndex := 344, descriptorIndex := 339, attributes := #[] }, { accessFlags := 8, nameIndex := 338, descriptorIndex := 339, attributes := #[] }, { accessFlags := 4120, nameIndex := 245, descriptorIndex := 246, attributes := #[] }])
  fields := #[{ name := "E", type := .double, accessFlags := 25, slot := 0, constantValue := 0 }, { name := "PI", type := .double, accessFlags := 25, slot := 1, constantValue := 0 }, { name := "TAU", type := .double, accessFlags := 25, slot := 2, constantValue := 0 }, { name := "DEGREES_TO_RADIANS", type := .double, accessFlags := 26, slot := 3, constantValue := 0 }, { name := "RADIANS_TO_DEGREES", type := .double, accessFlags := 26, slot := 4, constantValue := 0 }, { name := "negativeZeroFloatBits", type := .long, accessFlags := 26, slot := 5, constantValue := 0 }, { name := "negativeZeroDoubleBits", type := .long, accessFlags := 26, slot := 6, constantValue := 0 }, { name := "twoToTheDoubleScaleUp", type := .double, accessFlags := 8, slot := 7, constantValue := 0 }, { name := "twoToTheDoubleScaleDown", type := .double, accessFlags := 8, slot := 8, constantValue := 0 }, { name := "$assertionsDisabled", type := .boolean, accessFlags := 4120, slot := 9, constantValue := 0 }]
  methods := #[k27m0, k27m1, k27m2]
  instanceTypes := #[]
  staticTypes := #[.double, .double, .double, .double, .double, .long, .long, .double, .double, .boolean]
  resolved := Array.replicate 460 none
  statics := none }

def pool28 : Array CpInfo := pool [(2, .class_ 4), (1, u "java/lang/Object"), (0, u "<init>"), (0, u "()V"), (7, .class_ 16), (1, u "java/util/Arrays"), (57, .class_ 76), (1, u "java/util/Arrays$NaturalOrder"), (9, .methodref 2 87), (0, .nameAndType 88 89), (0, u "getClass"), (0, u "()Ljava/lang/Class;"), (20, .class_ 111), (0, u "[Ljava/lang/Object;"), (1, .class_ 115), (1, u "java/util/Arrays$LegacyMergeSort"), (1, u "Z"), (32, .methodref 151 152), (0, .class_ 153), (0, .nameAndType 154 155), (0, u "java/lang/System"), (0, u "arraycopy"), (0, u "(Ljava/lang/Object;ILjava/lang/Object;II)V"), (144, .methodref 14 301), (0, .nameAndType 302 303), (0, u "copyOf"), (0, u "([Ljava/lang/Object;ILjava/lang/Class;)[Ljava/lang/Object;"), (0, .methodref 305 306), (0, .class_ 307), (0, .nameAndType 308 309), (0, u "java/lang/Math"), (0, u "min"), (0, u "(II)I"), (65, .class_ 376), (0, u "java/util/Arrays$ArrayList"), (68, u "$assertionsDisabled"), (269, u "MIN_ARRAY_SORT_GRAN"), (0, u "I"), (2, u "INSERTIONSORT_THRESHOLD"), (140, u "([Ljava/lang/Object;I)[Ljava/lang/Object;"), (114, .class_ 976), (0, u "java/util/Arrays$ArrayItr")] 52

def k28m0 : Method := { name := "<init>", desc := "()V", sig := { parameters := [], returnType := none }, accessFlags := 2, code := none }
def k28c1 : Code := { maxStack := 3, maxLocals := 2, code := jdk_65_method_119_code, exceptionTable := #[], attributes := #[] }
def k28m1 : Method := { name := "copyOf", desc := "([Ljava/lang/Object;I)[Ljava/lang/Object;", sig := { parameters := [(.array (.object "java/lang/Object")), .int], returnType := some (.array (.object "java/lang/Object")) }, accessFlags := 9, code := some k28c1 }
def k28c2 : Code := { maxStack := 6, maxLocals := 4, code := jdk_65_method_120_code, exceptionTable := #[], attributes := #[] }
def k28m2 : Method := { name := "copyOf", desc := "([Ljava/lang/Object;ILjava/lang/Class;)[Ljava/lang/Object;", sig := { parameters := [(.array (.object "java/lang/Object")), .int, (.object "java/lang/Class")], returnType := some (.array (.object "java/lang/Object")) }, accessFlags := 9, code := some k28c2 }
/-- java/util/Arrays -/
def k28 : Class := { plain "java/util/Arrays" (some 0) with
  accessFlags := 49
  interfaces := #[]
  cf := some (fileOf pool28 14 #[.nestMembers #[975, 375, 113, 74]] #[{ accessFlags := 2, nameIndex := 5, descriptorIndex := 6, attributes := #[] }, { accessFlags := 9, nameIndex := 302, descriptorIndex := 860, attributes := #[] }, { accessFlags := 9, nameIndex := 302, descriptorIndex := 303, attributes := #[] }] 49 2 #[] #[{ accessFlags := 26, nameIndex := 715, descriptorIndex := 716, attributes := #[] }, { accessFlags := 26, nameIndex := 719, descriptorIndex := 716, attributes := #[] }, { accessFlags := 4120, nameIndex := 445, descriptorIndex := 117, attributes := #[] }])
  fields := #[{ name := "MIN_ARRAY_SORT_GRAN", type := .int, accessFlags := 26, slot := 0, constantValue := 0 }, { name := "INSERTIONSORT_THRESHOLD", type := .int, accessFlags := 26, slot := 1, constantValue := 0 }, { name := "$assertionsDisabled", type := .boolean, accessFlags := 4120, slot := 2, constantValue := 0 }]
  methods := #[k28m0, k28m1, k28m2]
  instanceTypes := #[]
  staticTypes := #[.int, .int, .boolean]
  resolved := Array.replicate 1029 none
  statics := none }

def pool29 : Array CpInfo := pool [(2, .class_ 4), (1, u "java/lang/Object"), (0, u "<init>"), (0, u "()V"), (1, .class_ 10), (1, u "java/lang/System"), (0, u "allowSecurityManager"), (0, u "I"), (16, u "cons"), (0, u "Ljava/io/Console;"), (77, .class_ 110), (1, u "java/lang/System$CallersHolder"), (43, u "initialErrStream"), (0, u "Ljava/io/PrintStream;"), (19, u "security"), (0, u "Ljava/lang/SecurityManager;"), (31, .class_ 209), (0, u "java/lang/System$1"), (7, u "props"), (0, u "Ljava/util/Properties;"), (2, u "lineSeparator"), (0, u "Ljava/lang/String;"), (96, .class_ 321), (1, u "java/lang/System$LoggerFinder"), (5, .class_ 328), (0, u "java/lang/System$Logger"), (67, u "err"), (2, u "out"), (91, u "notSupportedJnuEncoding"), (15, u "in"), (17, u "initialIn"), (0, u "Ljava/io/InputStream;"), (35, u "bootLayer"), (0, u "Ljava/lang/ModuleLayer;"), (99, .class_ 664), (0, u "java/lang/System$2"), (9, u "NEVER"), (2, u "MAYBE"), (49, u "arraycopy"), (0, u "(Ljava/lang/Object;ILjava/lang/Object;II)V"), (72, .class_ 802), (0, u "java/lang/System$Logger$Level")] 31

def k29m0 : Method := { name := "<init>", desc := "()V", sig := { parameters := [], returnType := none }, accessFlags := 2, code := none }
def k29m1 : Method := { name := "arraycopy", desc := "(Ljava/lang/Object;ILjava/lang/Object;II)V", sig := { parameters := [(.object "java/lang/Object"), .int, (.object "java/lang/Object"), .int, .int], returnType := none }, accessFlags := 265, code := none }
/-- java/lang/System -/
def k29 : Class := { plain "java/lang/System" (some 0) with
  accessFlags := 49
  interfaces := #[]
  cf := some (fileOf pool29 8 #[.nestMembers #[319, 327, 801, 108, 663, 208]] #[{ accessFlags := 2, nameIndex := 5, descriptorIndex := 6, attributes := #[] }, { accessFlags := 265, nameIndex := 727, descriptorIndex := 728, attributes := #[] }] 49 2 #[] #[{ accessFlags := 25, nameIndex := 507, descriptorIndex := 526, attributes := #[] }, { accessFlags := 25, nameIndex := 399, descriptorIndex := 155, attributes := #[] }, { accessFlags := 25, nameIndex := 396, descriptorIndex := 155, attributes := #[] }, { accessFlags := 10, nameIndex := 525, descriptorIndex := 526, attributes := #[] }, { accessFlags := 26, nameIndex := 674, descriptorIndex := 12, attributes := #[] }, { accessFlags := 26, nameIndex := 677, descriptorIndex := 12, attributes := #[] }, { accessFlags := 10, nameIndex := 11, descriptorIndex := 12, attributes := #[] }, { accessFlags := 74, nameIndex := 175, descriptorIndex := 176, attributes := #[] }, { accessFlags := 10, nameIndex := 491, descriptorIndex := 222, attributes := #[] }, { accessFlags := 74, nameIndex := 29, descriptorIndex := 30, attributes := #[] }, { accessFlags := 74, nameIndex := 154, descriptorIndex := 155, attributes := #[] }, { accessFlags := 10, nameIndex := 217, descriptorIndex := 218, attributes := #[] }, { accessFlags := 10, nameIndex := 221, descriptorIndex := 222, attributes := #[] }, { accessFlags := 8, nameIndex := 562, descriptorIndex := 563, attributes := #[] }])
  fields := #[{ name := "in", type := (.object "java/io/InputStream"), accessFlags := 25, slot := 0, constantValue := 0 }, { name := "out", type := (.object "java/io/PrintStream"), accessFlags := 25, slot := 1, constantValue := 0 }, { name := "err", type := (.object "java/io/PrintStream"), accessFlags := 25, slot := 2, constantValue := 0 }, { name := "initialIn", type := (.object "java/io/InputStream"), accessFlags := 10, slot := 3, constantValue := 0 }, { name := "NEVER", type := .int, accessFlags := 26, slot := 4, constantValue := 0 }, { name := "MAYBE", type := .int, accessFlags := 26, slot := 5, constantValue := 0 }, { name := "allowSecurityManager", type := .int, accessFlags := 10, slot := 6, constantValue := 0 }, { name := "security", type := (.object "java/lang/SecurityManager"), accessFlags := 74, slot := 7, constantValue := 0 }, { name := "notSupportedJnuEncoding", type := (.object "java/lang/String"), accessFlags := 10, slot := 8, constantValue := 0 }, { name := "cons", type := (.object "java/io/Console"), accessFlags := 74, slot := 9, constantValue := 0 }, { name := "initialErrStream", type := (.object "java/io/PrintStream"), accessFlags := 74, slot := 10, constantValue := 0 }, { name := "props", type := (.object "java/util/Properties"), accessFlags := 10, slot := 11, constantValue := 0 }, { name := "lineSeparator", type := (.object "java/lang/String"), accessFlags := 10, slot := 12, constantValue := 0 }, { name := "bootLayer", type := (.object "java/lang/ModuleLayer"), accessFlags := 8, slot := 13, constantValue := 0 }]
  methods := #[k29m0, k29m1]
  instanceTypes := #[]
  staticTypes := #[(.object "java/io/InputStream"), (.object "java/io/PrintStream"), (.object "java/io/PrintStream"), (.object "java/io/InputStream"), .int, .int, .int, (.object "java/lang/SecurityManager"), (.object "java/lang/String"), (.object "java/io/Console"), (.object "java/io/PrintStream"), (.object "java/util/Properties"), (.object "java/lang/String"), (.object "java/lang/ModuleLayer")]
  resolved := Array.replicate 834 none
  statics := none }

def pool30 : Array CpInfo := pool [(2, .class_ 4), (1, u "java/lang/Object"), (0, u "<init>"), (0, u "()V"), (35, .class_ 44), (1, u "java/util/Objects"), (0, u "requireNonNull"), (0, u "(Ljava/lang/Object;)Ljava/lang/Object;")] 137

def k30m0 : Method := { name := "<init>", desc := "()V", sig := { parameters := [], returnType := none }, accessFlags := 2, code := none }
def k30c1 : Code := { maxStack := 2, maxLocals := 1, code := jdk_31_method_10_code, exceptionTable := #[], attributes := #[] }
def k30m1 : Method := { name := "requireNonNull", desc := "(Ljava/lang/Object;)Ljava/lang/Object;", sig := { parameters := [(.object "java/lang/Object")], returnType := some (.object "java/lang/Object") }, accessFlags := 9, code := some k30c1 }
/-- java/util/Objects -/
def k30 : Class := { plain "java/util/Objects" (some 0) with
  accessFlags := 49
  interfaces := #[]
  cf := some (fileOf pool30 42 #[] #[{ accessFlags := 2, nameIndex := 5, descriptorIndex := 6, attributes := #[] }, { accessFlags := 9, nameIndex := 45, descriptorIndex := 46, attributes := #[] }] 49 2 #[] #[])
  fields := #[]
  methods := #[k30m0, k30m1]
  instanceTypes := #[]
  staticTypes := #[]
  resolved := Array.replicate 184 none
  statics := none }

def pool31 : Array CpInfo := pool [(1, u "java/lang/Class"), (0, .class_ 1), (0, u "java/lang/Object"), (0, .class_ 3)] 0

/-- java/lang/Class -/
def k31 : Class := { plain "java/lang/Class" (some 0) with
  accessFlags := 49
  interfaces := #[]
  cf := some (fileOf pool31 2 #[] #[] 49 4 #[] #[])
  fields := #[]
  methods := #[]
  instanceTypes := #[]
  staticTypes := #[]
  resolved := Array.replicate 5 none
  statics := none }

/-- the primitive byte -/
def k32 : Class := { plain "byte" none with kind := .primitive 'B', accessFlags := 0x411 }
/-- [B -/
def k33 : Class := { plain "[B" (some 0) with kind := .array 32 .byte, interfaces := #[16, 2], accessFlags := 1041 }

/-- the primitive int -/
def k34 : Class := { plain "int" none with kind := .primitive 'I', accessFlags := 0x411 }
/-- [I -/
def k35 : Class := { plain "[I" (some 0) with kind := .array 34 .int, interfaces := #[16, 2], accessFlags := 1041 }

/-- [Ljava/lang/Integer; -/
def k36 : Class := { plain "[Ljava/lang/Integer;" (some 0) with kind := .array 7 (.object "java/lang/Integer"), interfaces := #[16, 2], accessFlags := 1041 }

/-- [Ljava/lang/Object; -/
def k37 : Class := { plain "[Ljava/lang/Object;" (some 0) with kind := .array 0 (.object "java/lang/Object"), interfaces := #[16, 2], accessFlags := 1041, mirror := some 3 }

def heap : Heap := #[{ cls := 8, slots := #[.int 0, .int 127, .ref 4, .null, .int 0], vm := .statics 8 },
  { cls := 17, slots := #[.long 0, .int 0, .ref 263, .ref 264], vm := .statics 17 },
  { cls := 19, slots := #[.long 0, .int 0, .null, .ref 265, .ref 6, .null, .null, .null, .int 0, .int 1], vm := .statics 19 },
  { cls := 31, slots := #[], vm := .mirror 37 },
  { cls := 36, slots := #[.ref 7, .ref 8, .ref 9, .ref 10, .ref 11, .ref 12, .ref 13, .ref 14, .ref 15, .ref 16, .ref 17, .ref 18, .ref 19, .ref 20, .ref 21, .ref 22, .ref 23, .ref 24, .ref 25, .ref 26, .ref 27, .ref 28, .ref 29, .ref 30, .ref 31, .ref 32, .ref 33, .ref 34, .ref 35, .ref 36, .ref 37, .ref 38, .ref 39, .ref 40, .ref 41, .ref 42, .ref 43, .ref 44, .ref 45, .ref 46, .ref 47, .ref 48, .ref 49, .ref 50, .ref 51, .ref 52, .ref 53, .ref 54, .ref 55, .ref 56, .ref 57, .ref 58, .ref 59, .ref 60, .ref 61, .ref 62, .ref 63, .ref 64, .ref 65, .ref 66, .ref 67, .ref 68, .ref 69, .ref 70, .ref 71, .ref 72, .ref 73, .ref 74, .ref 75, .ref 76, .ref 77, .ref 78, .ref 79, .ref 80, .ref 81, .ref 82, .ref 83, .ref 84, .ref 85, .ref 86, .ref 87, .ref 88, .ref 89, .ref 90, .ref 91, .ref 92, .ref 93, .ref 94, .ref 95, .ref 96, .ref 97, .ref 98, .ref 99, .ref 100, .ref 101, .ref 102, .ref 103, .ref 104, .ref 105, .ref 106, .ref 107, .ref 108, .ref 109, .ref 110, .ref 111, .ref 112, .ref 113, .ref 114, .ref 115, .ref 116, .ref 117, .ref 118, .ref 119, .ref 120, .ref 121, .ref 122, .ref 123, .ref 124, .ref 125, .ref 126, .ref 127, .ref 128, .ref 129, .ref 130, .ref 131, .ref 132, .ref 133, .ref 134, .ref 135, .ref 136, .ref 137, .ref 138, .ref 139, .ref 140, .ref 141, .ref 142, .ref 143, .ref 144, .ref 145, .ref 146, .ref 147, .ref 148, .ref 149, .ref 150, .ref 151, .ref 152, .ref 153, .ref 154, .ref 155, .ref 156, .ref 157, .ref 158, .ref 159, .ref 160, .ref 161, .ref 162, .ref 163, .ref 164, .ref 165, .ref 166, .ref 167, .ref 168, .ref 169, .ref 170, .ref 171, .ref 172, .ref 173, .ref 174, .ref 175, .ref 176, .ref 177, .ref 178, .ref 179, .ref 180, .ref 181, .ref 182, .ref 183, .ref 184, .ref 185, .ref 186, .ref 187, .ref 188, .ref 189, .ref 190, .ref 191, .ref 192, .ref 193, .ref 194, .ref 195, .ref 196, .ref 197, .ref 198, .ref 199, .ref 200, .ref 201, .ref 202, .ref 203, .ref 204, .ref 205, .ref 206, .ref 207, .ref 208, .ref 209, .ref 210, .ref 211, .ref 212, .ref 213, .ref 214, .ref 215, .ref 216, .ref 217, .ref 218, .ref 219, .ref 220, .ref 221, .ref 222, .ref 223, .ref 224, .ref 225, .ref 226, .ref 227, .ref 228, .ref 229, .ref 230, .ref 231, .ref 232, .ref 233, .ref 234, .ref 235, .ref 236, .ref 237, .ref 238, .ref 239, .ref 240, .ref 241, .ref 242, .ref 243, .ref 244, .ref 245, .ref 246, .ref 247, .ref 248, .ref 249, .ref 250, .ref 251, .ref 252, .ref 253, .ref 254, .ref 255, .ref 256, .ref 257, .ref 258, .ref 259, .ref 260, .ref 261, .ref 262], vm := .none },
  { cls := 37, slots := #[], vm := .none },
  { cls := 23, slots := #[.ref 5, .int 0], vm := .none },
  { cls := 7, slots := #[.int (-128)], vm := .none },
  { cls := 7, slots := #[.int (-127)], vm := .none },
  { cls := 7, slots := #[.int (-126)], vm := .none },
  { cls := 7, slots := #[.int (-125)], vm := .none },
  { cls := 7, slots := #[.int (-124)], vm := .none },
  { cls := 7, slots := #[.int (-123)], vm := .none },
  { cls := 7, slots := #[.int (-122)], vm := .none },
  { cls := 7, slots := #[.int (-121)], vm := .none },
  { cls := 7, slots := #[.int (-120)], vm := .none },
  { cls := 7, slots := #[.int (-119)], vm := .none },
  { cls := 7, slots := #[.int (-118)], vm := .none },
  { cls := 7, slots := #[.int (-117)], vm := .none },
  { cls := 7, slots := #[.int (-116)], vm := .none },
  { cls := 7, slots := #[.int (-115)], vm := .none },
  { cls := 7, slots := #[.int (-114)], vm := .none },
  { cls := 7, slots := #[.int (-113)], vm := .none },
  { cls := 7, slots := #[.int (-112)], vm := .none },
  { cls := 7, slots := #[.int (-111)], vm := .none },
  { cls := 7, slots := #[.int (-110)], vm := .none },
  { cls := 7, slots := #[.int (-109)], vm := .none },
  { cls := 7, slots := #[.int (-108)], vm := .none },
  { cls := 7, slots := #[.int (-107)], vm := .none },
  { cls := 7, slots := #[.int (-106)], vm := .none },
  { cls := 7, slots := #[.int (-105)], vm := .none },
  { cls := 7, slots := #[.int (-104)], vm := .none },
  { cls := 7, slots := #[.int (-103)], vm := .none },
  { cls := 7, slots := #[.int (-102)], vm := .none },
  { cls := 7, slots := #[.int (-101)], vm := .none },
  { cls := 7, slots := #[.int (-100)], vm := .none },
  { cls := 7, slots := #[.int (-99)], vm := .none },
  { cls := 7, slots := #[.int (-98)], vm := .none },
  { cls := 7, slots := #[.int (-97)], vm := .none },
  { cls := 7, slots := #[.int (-96)], vm := .none },
  { cls := 7, slots := #[.int (-95)], vm := .none },
  { cls := 7, slots := #[.int (-94)], vm := .none },
  { cls := 7, slots := #[.int (-93)], vm := .none },
  { cls := 7, slots := #[.int (-92)], vm := .none },
  { cls := 7, slots := #[.int (-91)], vm := .none },
  { cls := 7, slots := #[.int (-90)], vm := .none },
  { cls := 7, slots := #[.int (-89)], vm := .none },
  { cls := 7, slots := #[.int (-88)], vm := .none },
  { cls := 7, slots := #[.int (-87)], vm := .none },
  { cls := 7, slots := #[.int (-86)], vm := .none },
  { cls := 7, slots := #[.int (-85)], vm := .none },
  { cls := 7, slots := #[.int (-84)], vm := .none },
  { cls := 7, slots := #[.int (-83)], vm := .none },
  { cls := 7, slots := #[.int (-82)], vm := .none },
  { cls := 7, slots := #[.int (-81)], vm := .none },
  { cls := 7, slots := #[.int (-80)], vm := .none },
  { cls := 7, slots := #[.int (-79)], vm := .none },
  { cls := 7, slots := #[.int (-78)], vm := .none },
  { cls := 7, slots := #[.int (-77)], vm := .none },
  { cls := 7, slots := #[.int (-76)], vm := .none },
  { cls := 7, slots := #[.int (-75)], vm := .none },
  { cls := 7, slots := #[.int (-74)], vm := .none },
  { cls := 7, slots := #[.int (-73)], vm := .none },
  { cls := 7, slots := #[.int (-72)], vm := .none },
  { cls := 7, slots := #[.int (-71)], vm := .none },
  { cls := 7, slots := #[.int (-70)], vm := .none },
  { cls := 7, slots := #[.int (-69)], vm := .none },
  { cls := 7, slots := #[.int (-68)], vm := .none },
  { cls := 7, slots := #[.int (-67)], vm := .none },
  { cls := 7, slots := #[.int (-66)], vm := .none },
  { cls := 7, slots := #[.int (-65)], vm := .none },
  { cls := 7, slots := #[.int (-64)], vm := .none },
  { cls := 7, slots := #[.int (-63)], vm := .none },
  { cls := 7, slots := #[.int (-62)], vm := .none },
  { cls := 7, slots := #[.int (-61)], vm := .none },
  { cls := 7, slots := #[.int (-60)], vm := .none },
  { cls := 7, slots := #[.int (-59)], vm := .none },
  { cls := 7, slots := #[.int (-58)], vm := .none },
  { cls := 7, slots := #[.int (-57)], vm := .none },
  { cls := 7, slots := #[.int (-56)], vm := .none },
  { cls := 7, slots := #[.int (-55)], vm := .none },
  { cls := 7, slots := #[.int (-54)], vm := .none },
  { cls := 7, slots := #[.int (-53)], vm := .none },
  { cls := 7, slots := #[.int (-52)], vm := .none },
  { cls := 7, slots := #[.int (-51)], vm := .none },
  { cls := 7, slots := #[.int (-50)], vm := .none },
  { cls := 7, slots := #[.int (-49)], vm := .none },
  { cls := 7, slots := #[.int (-48)], vm := .none },
  { cls := 7, slots := #[.int (-47)], vm := .none },
  { cls := 7, slots := #[.int (-46)], vm := .none },
  { cls := 7, slots := #[.int (-45)], vm := .none },
  { cls := 7, slots := #[.int (-44)], vm := .none },
  { cls := 7, slots := #[.int (-43)], vm := .none },
  { cls := 7, slots := #[.int (-42)], vm := .none },
  { cls := 7, slots := #[.int (-41)], vm := .none },
  { cls := 7, slots := #[.int (-40)], vm := .none },
  { cls := 7, slots := #[.int (-39)], vm := .none },
  { cls := 7, slots := #[.int (-38)], vm := .none },
  { cls := 7, slots := #[.int (-37)], vm := .none },
  { cls := 7, slots := #[.int (-36)], vm := .none },
  { cls := 7, slots := #[.int (-35)], vm := .none },
  { cls := 7, slots := #[.int (-34)], vm := .none },
  { cls := 7, slots := #[.int (-33)], vm := .none },
  { cls := 7, slots := #[.int (-32)], vm := .none },
  { cls := 7, slots := #[.int (-31)], vm := .none },
  { cls := 7, slots := #[.int (-30)], vm := .none },
  { cls := 7, slots := #[.int (-29)], vm := .none },
  { cls := 7, slots := #[.int (-28)], vm := .none },
  { cls := 7, slots := #[.int (-27)], vm := .none },
  { cls := 7, slots := #[.int (-26)], vm := .none },
  { cls := 7, slots := #[.int (-25)], vm := .none },
  { cls := 7, slots := #[.int (-24)], vm := .none },
  { cls := 7, slots := #[.int (-23)], vm := .none },
  { cls := 7, slots := #[.int (-22)], vm := .none },
  { cls := 7, slots := #[.int (-21)], vm := .none },
  { cls := 7, slots := #[.int (-20)], vm := .none },
  { cls := 7, slots := #[.int (-19)], vm := .none },
  { cls := 7, slots := #[.int (-18)], vm := .none },
  { cls := 7, slots := #[.int (-17)], vm := .none },
  { cls := 7, slots := #[.int (-16)], vm := .none },
  { cls := 7, slots := #[.int (-15)], vm := .none },
  { cls := 7, slots := #[.int (-14)], vm := .none },
  { cls := 7, slots := #[.int (-13)], vm := .none },
  { cls := 7, slots := #[.int (-12)], vm := .none },
  { cls := 7, slots := #[.int (-11)], vm := .none },
  { cls := 7, slots := #[.int (-10)], vm := .none },
  { cls := 7, slots := #[.int (-9)], vm := .none },
  { cls := 7, slots := #[.int (-8)], vm := .none },
  { cls := 7, slots := #[.int (-7)], vm := .none },
  { cls := 7, slots := #[.int (-6)], vm := .none },
  { cls := 7, slots := #[.int (-5)], vm := .none },
  { cls := 7, slots := #[.int (-4)], vm := .none },
  { cls := 7, slots := #[.int (-3)], vm := .none },
  { cls := 7, slots := #[.int (-2)], vm := .none },
  { cls := 7, slots := #[.int (-1)], vm := .none },
  { cls := 7, slots := #[.int (0)], vm := .none },
  { cls := 7, slots := #[.int (1)], vm := .none },
  { cls := 7, slots := #[.int (2)], vm := .none },
  { cls := 7, slots := #[.int (3)], vm := .none },
  { cls := 7, slots := #[.int (4)], vm := .none },
  { cls := 7, slots := #[.int (5)], vm := .none },
  { cls := 7, slots := #[.int (6)], vm := .none },
  { cls := 7, slots := #[.int (7)], vm := .none },
  { cls := 7, slots := #[.int (8)], vm := .none },
  { cls := 7, slots := #[.int (9)], vm := .none },
  { cls := 7, slots := #[.int (10)], vm := .none },
  { cls := 7, slots := #[.int (11)], vm := .none },
  { cls := 7, slots := #[.int (12)], vm := .none },
  { cls := 7, slots := #[.int (13)], vm := .none },
  { cls := 7, slots := #[.int (14)], vm := .none },
  { cls := 7, slots := #[.int (15)], vm := .none },
  { cls := 7, slots := #[.int (16)], vm := .none },
  { cls := 7, slots := #[.int (17)], vm := .none },
  { cls := 7, slots := #[.int (18)], vm := .none },
  { cls := 7, slots := #[.int (19)], vm := .none },
  { cls := 7, slots := #[.int (20)], vm := .none },
  { cls := 7, slots := #[.int (21)], vm := .none },
  { cls := 7, slots := #[.int (22)], vm := .none },
  { cls := 7, slots := #[.int (23)], vm := .none },
  { cls := 7, slots := #[.int (24)], vm := .none },
  { cls := 7, slots := #[.int (25)], vm := .none },
  { cls := 7, slots := #[.int (26)], vm := .none },
  { cls := 7, slots := #[.int (27)], vm := .none },
  { cls := 7, slots := #[.int (28)], vm := .none },
  { cls := 7, slots := #[.int (29)], vm := .none },
  { cls := 7, slots := #[.int (30)], vm := .none },
  { cls := 7, slots := #[.int (31)], vm := .none },
  { cls := 7, slots := #[.int (32)], vm := .none },
  { cls := 7, slots := #[.int (33)], vm := .none },
  { cls := 7, slots := #[.int (34)], vm := .none },
  { cls := 7, slots := #[.int (35)], vm := .none },
  { cls := 7, slots := #[.int (36)], vm := .none },
  { cls := 7, slots := #[.int (37)], vm := .none },
  { cls := 7, slots := #[.int (38)], vm := .none },
  { cls := 7, slots := #[.int (39)], vm := .none },
  { cls := 7, slots := #[.int (40)], vm := .none },
  { cls := 7, slots := #[.int (41)], vm := .none },
  { cls := 7, slots := #[.int (42)], vm := .none },
  { cls := 7, slots := #[.int (43)], vm := .none },
  { cls := 7, slots := #[.int (44)], vm := .none },
  { cls := 7, slots := #[.int (45)], vm := .none },
  { cls := 7, slots := #[.int (46)], vm := .none },
  { cls := 7, slots := #[.int (47)], vm := .none },
  { cls := 7, slots := #[.int (48)], vm := .none },
  { cls := 7, slots := #[.int (49)], vm := .none },
  { cls := 7, slots := #[.int (50)], vm := .none },
  { cls := 7, slots := #[.int (51)], vm := .none },
  { cls := 7, slots := #[.int (52)], vm := .none },
  { cls := 7, slots := #[.int (53)], vm := .none },
  { cls := 7, slots := #[.int (54)], vm := .none },
  { cls := 7, slots := #[.int (55)], vm := .none },
  { cls := 7, slots := #[.int (56)], vm := .none },
  { cls := 7, slots := #[.int (57)], vm := .none },
  { cls := 7, slots := #[.int (58)], vm := .none },
  { cls := 7, slots := #[.int (59)], vm := .none },
  { cls := 7, slots := #[.int (60)], vm := .none },
  { cls := 7, slots := #[.int (61)], vm := .none },
  { cls := 7, slots := #[.int (62)], vm := .none },
  { cls := 7, slots := #[.int (63)], vm := .none },
  { cls := 7, slots := #[.int (64)], vm := .none },
  { cls := 7, slots := #[.int (65)], vm := .none },
  { cls := 7, slots := #[.int (66)], vm := .none },
  { cls := 7, slots := #[.int (67)], vm := .none },
  { cls := 7, slots := #[.int (68)], vm := .none },
  { cls := 7, slots := #[.int (69)], vm := .none },
  { cls := 7, slots := #[.int (70)], vm := .none },
  { cls := 7, slots := #[.int (71)], vm := .none },
  { cls := 7, slots := #[.int (72)], vm := .none },
  { cls := 7, slots := #[.int (73)], vm := .none },
  { cls := 7, slots := #[.int (74)], vm := .none },
  { cls := 7, slots := #[.int (75)], vm := .none },
  { cls := 7, slots := #[.int (76)], vm := .none },
  { cls := 7, slots := #[.int (77)], vm := .none },
  { cls := 7, slots := #[.int (78)], vm := .none },
  { cls := 7, slots := #[.int (79)], vm := .none },
  { cls := 7, slots := #[.int (80)], vm := .none },
  { cls := 7, slots := #[.int (81)], vm := .none },
  { cls := 7, slots := #[.int (82)], vm := .none },
  { cls := 7, slots := #[.int (83)], vm := .none },
  { cls := 7, slots := #[.int (84)], vm := .none },
  { cls := 7, slots := #[.int (85)], vm := .none },
  { cls := 7, slots := #[.int (86)], vm := .none },
  { cls := 7, slots := #[.int (87)], vm := .none },
  { cls := 7, slots := #[.int (88)], vm := .none },
  { cls := 7, slots := #[.int (89)], vm := .none },
  { cls := 7, slots := #[.int (90)], vm := .none },
  { cls := 7, slots := #[.int (91)], vm := .none },
  { cls := 7, slots := #[.int (92)], vm := .none },
  { cls := 7, slots := #[.int (93)], vm := .none },
  { cls := 7, slots := #[.int (94)], vm := .none },
  { cls := 7, slots := #[.int (95)], vm := .none },
  { cls := 7, slots := #[.int (96)], vm := .none },
  { cls := 7, slots := #[.int (97)], vm := .none },
  { cls := 7, slots := #[.int (98)], vm := .none },
  { cls := 7, slots := #[.int (99)], vm := .none },
  { cls := 7, slots := #[.int (100)], vm := .none },
  { cls := 7, slots := #[.int (101)], vm := .none },
  { cls := 7, slots := #[.int (102)], vm := .none },
  { cls := 7, slots := #[.int (103)], vm := .none },
  { cls := 7, slots := #[.int (104)], vm := .none },
  { cls := 7, slots := #[.int (105)], vm := .none },
  { cls := 7, slots := #[.int (106)], vm := .none },
  { cls := 7, slots := #[.int (107)], vm := .none },
  { cls := 7, slots := #[.int (108)], vm := .none },
  { cls := 7, slots := #[.int (109)], vm := .none },
  { cls := 7, slots := #[.int (110)], vm := .none },
  { cls := 7, slots := #[.int (111)], vm := .none },
  { cls := 7, slots := #[.int (112)], vm := .none },
  { cls := 7, slots := #[.int (113)], vm := .none },
  { cls := 7, slots := #[.int (114)], vm := .none },
  { cls := 7, slots := #[.int (115)], vm := .none },
  { cls := 7, slots := #[.int (116)], vm := .none },
  { cls := 7, slots := #[.int (117)], vm := .none },
  { cls := 7, slots := #[.int (118)], vm := .none },
  { cls := 7, slots := #[.int (119)], vm := .none },
  { cls := 7, slots := #[.int (120)], vm := .none },
  { cls := 7, slots := #[.int (121)], vm := .none },
  { cls := 7, slots := #[.int (122)], vm := .none },
  { cls := 7, slots := #[.int (123)], vm := .none },
  { cls := 7, slots := #[.int (124)], vm := .none },
  { cls := 7, slots := #[.int (125)], vm := .none },
  { cls := 7, slots := #[.int (126)], vm := .none },
  { cls := 7, slots := #[.int (127)], vm := .none },
  { cls := 37, slots := #[], vm := .none },
  { cls := 37, slots := #[], vm := .none },
  { cls := 0, slots := #[], vm := .none }]
def classes : Array Class := #[k0, k1, k2, k3, k4, k5, k6, k7, k8, k9, k10, k11, k12, k13, k14, k15, k16, k17, k18, k19, k20, k21, k22, k23, k24, k25, k26, k27, k28, k29, k30, k31, k32, k33, k34, k35, k36, k37]
def interned : List (Array UInt16 × Addr) := []
def slotsUsed : Nat := 533
def theMethod : MethodId := ⟨1, 1⟩
def args0 : Array Value := #[.int 2, .int 7, .int 1]
def aboutOver (below : List Frame) : State where
  vm := { classes := classes, interned := interned.toArray }
  heap := heap
  slotsUsed := slotsUsed
  threads := #[{ frames := .invoking theMethod args0 :: below }]
def below0 : List Frame := [.native { method := ⟨0, 0⟩, args := #[] }]
def about1 : State := aboutOver below0
def p0 : Program := .bare "" "" ""
def e0 : Env := launch0.env 0 0 0
theorem w_frames : about1.frames = Frame.invoking theMethod args0 :: below0 := rfl
set_option maxRecDepth 65536 in
theorem w_args : argsFit about1.vm theMethod args0 = true := by decide +kernel
set_option maxRecDepth 65536 in
theorem w_heap : heapFits about1 = true := by decide +kernel
set_option maxRecDepth 65536 in
theorem w_runnable : about1.curStatus? = some .runnable := by decide +kernel
set_option maxRecDepth 65536 in
theorem w_alone : about1.alone = true := by decide +kernel
set_option maxRecDepth 65536 in
theorem w_named : about1.methodNamed? x = some theMethod := by decide +kernel
set_option maxRecDepth 65536 in
theorem w_hears : about1.hears theMethod below0 = true := by decide +kernel
set_option maxRecDepth 65536 in
theorem w_ripe : about1.ripe theMethod args0 below0 = true := by decide +kernel
theorem w_running : about1.status = .running := rfl
set_option maxRecDepth 65536 in
theorem w_room : about1.hasRoom e0.platform room_1 = true :=
  launch0.hasRoom_least _ room_1 (by decide +kernel) (by decide +kernel) (by decide +kernel) (by decide +kernel) (by decide +kernel) (by decide +kernel)
theorem allAtoms_all (ts : List Jvm.Cond) (a : Array Jvm.Value) (st : Jvm.State) : (allAtoms ts).before a st = ts.all (fun c => c.before a st) := by
  induction ts with
  | nil => rfl
  | cons c t ih =>
    show (Jvm.Cond.and c (allAtoms t)).before a st = _
    rw [Jvm.Cond.before_and, ih, List.all_cons]
def words1 : List Jvm.Cond := Jvm.Cond.code x code maxLocals ret :: tables_1
/-- a 'code' word, met by the world's own term for the bytes: nothing is compared byte by byte -/
theorem code_word {y : MethodName} {bytes : ByteArray} {mx : Nat} {rt : Option FieldType} {a : Array Value} {s : State} {m : MethodId} {meth : Method} {c : Code} (h1 : s.methodNamed? y = some m) (h2 : s.vm.method? m = some meth) (h3 : meth.code = some c) (h4 : c.code = bytes)
    (h5 : (c.maxLocals == mx && c.exceptionTable.isEmpty && decide (c.maxStack ≤ mostOperands) && decide (meth.sig.returnType = rt) && !meth.locks && decide (parseMethodDescriptor y.desc = some meth.sig)) = true) : (Jvm.Cond.code y bytes mx rt).before a s = true := by
  simp only [Bool.and_eq_true, beq_iff_eq, Bool.not_eq_true', decide_eq_true_eq] at h5
  obtain ⟨⟨⟨⟨⟨g1, g2⟩, g3⟩, g4⟩, g5⟩, g6⟩ := h5
  simp [Cond.before, Cond.holds, Cond.value, h1, h2, h3, h4, g1, g2, g3, g4, g5, g6]
def isCode : Jvm.Cond → Bool
  | .code _ _ _ _ => true
  | _ => false
theorem all_split {L : List Jvm.Cond} {P : Jvm.Cond → Bool} (h1 : L.all (fun c => isCode c || P c) = true) (h2 : ∀ c ∈ L.filter isCode, P c = true) : L.all P = true := by
  refine List.all_eq_true.mpr fun c hc => ?_
  have h := List.all_eq_true.mp h1 c hc
  rcases Bool.eq_false_or_eq_true (isCode c) with hi | hi
  · exact h2 c (List.mem_filter.mpr ⟨hc, hi⟩)
  · simpa [hi] using h
set_option maxRecDepth 65536 in
theorem w_c0 : (Jvm.Cond.code x code maxLocals ret).before args0 about1 = true := code_word (m := ⟨1, 1⟩) (meth := k1m1) (c := k1c1) (by decide +kernel) rfl rfl rfl (by decide +kernel)
set_option maxRecDepth 65536 in
theorem w_c1 : (Jvm.Cond.code ({ cls := "java/lang/Integer", name := "valueOf", desc := "(I)Ljava/lang/Integer;" } : Jvm.MethodName) jdk_33_method_22_code (1 : Nat) (Option.some (Jvm.ClassFile.FieldType.object "java/lang/Integer"))).before args0 about1 = true := code_word (m := ⟨7, 0⟩) (meth := k7m0) (c := k7c0) (by decide +kernel) rfl rfl rfl (by decide +kernel)
set_option maxRecDepth 65536 in
theorem w_c2 : (Jvm.Cond.code ({ cls := "java/util/ArrayList", name := "<init>", desc := "()V" } : Jvm.MethodName) jdk_38_method_2_code (1 : Nat) (Option.none : Option Jvm.ClassFile.FieldType)).before args0 about1 = true := code_word (m := ⟨17, 0⟩) (meth := k17m0) (c := k17c0) (by decide +kernel) rfl rfl rfl (by decide +kernel)
set_option maxRecDepth 65536 in
theorem w_c3 : (Jvm.Cond.code ({ cls := "java/util/AbstractList", name := "<init>", desc := "()V" } : Jvm.MethodName) jdk_39_method_1_code (1 : Nat) (Option.none : Option Jvm.ClassFile.FieldType)).before args0 about1 = true := code_word (m := ⟨14, 0⟩) (meth := k14m0) (c := k14c0) (by decide +kernel) rfl rfl rfl (by decide +kernel)
set_option maxRecDepth 65536 in
theorem w_c4 : (Jvm.Cond.code ({ cls := "java/util/AbstractCollection", name := "<init>", desc := "()V" } : Jvm.MethodName) jdk_22_method_1_code (1 : Nat) (Option.none : Option Jvm.ClassFile.FieldType)).before args0 about1 = true := code_word (m := ⟨11, 0⟩) (meth := k11m0) (c := k11c0) (by decide +kernel) rfl rfl rfl (by decide +kernel)
set_option maxRecDepth 65536 in
theorem w_c5 : (Jvm.Cond.code ({ cls := "java/lang/Object", name := "<init>", desc := "()V" } : Jvm.MethodName) object_method_1_code (1 : Nat) (Option.none : Option Jvm.ClassFile.FieldType)).before args0 about1 = true := code_word (m := ⟨0, 0⟩) (meth := k0m0) (c := k0c0) (by decide +kernel) rfl rfl rfl (by decide +kernel)
set_option maxRecDepth 65536 in
theorem w_c6 : (Jvm.Cond.code ({ cls := "com/example/weaverbird/weaverbird/bind/Binding", name := "<init>", desc := "(Ljava/lang/Object;Ljava/util/List;)V" } : Jvm.MethodName) prog_4_method_1_code (3 : Nat) (Option.none : Option Jvm.ClassFile.FieldType)).before args0 about1 = true := code_word (m := ⟨18, 0⟩) (meth := k18m0) (c := k18c0) (by decide +kernel) rfl rfl rfl (by decide +kernel)
set_option maxRecDepth 65536 in
theorem w_c7 : (Jvm.Cond.code ({ cls := "java/util/List", name := "copyOf", desc := "(Ljava/util/Collection;)Ljava/util/List;" } : Jvm.MethodName) jdk_40_method_48_code (1 : Nat) (Option.some (Jvm.ClassFile.FieldType.object "java/util/List"))).before args0 about1 = true := code_word (m := ⟨13, 4⟩) (meth := k13m4) (c := k13c4) (by decide +kernel) rfl rfl rfl (by decide +kernel)
set_option maxRecDepth 65536 in
theorem w_c8 : (Jvm.Cond.code ({ cls := "java/util/ImmutableCollections", name := "listCopy", desc := "(Ljava/util/Collection;)Ljava/util/List;" } : Jvm.MethodName) jdk_56_method_3_code (2 : Nat) (Option.some (Jvm.ClassFile.FieldType.object "java/util/List"))).before args0 about1 = true := code_word (m := ⟨19, 1⟩) (meth := k19m1) (c := k19c1) (by decide +kernel) rfl rfl rfl (by decide +kernel)
set_option maxRecDepth 65536 in
theorem w_c9 : (Jvm.Cond.code ({ cls := "java/util/ArrayList", name := "isEmpty", desc := "()Z" } : Jvm.MethodName) jdk_38_method_9_code (1 : Nat) (Option.some Jvm.ClassFile.FieldType.boolean)).before args0 about1 = true := code_word (m := ⟨17, 3⟩) (meth := k17m3) (c := k17c3) (by decide +kernel) rfl rfl rfl (by decide +kernel)
set_option maxRecDepth 65536 in
theorem w_c10 : (Jvm.Cond.code ({ cls := "java/util/List", name := "of", desc := "()Ljava/util/List;" } : Jvm.MethodName) jdk_40_method_36_code (0 : Nat) (Option.some (Jvm.ClassFile.FieldType.object "java/util/List"))).before args0 about1 = true := code_word (m := ⟨13, 2⟩) (meth := k13m2) (c := k13c2) (by decide +kernel) rfl rfl rfl (by decide +kernel)
set_option maxRecDepth 65536 in
theorem w_c11 : (Jvm.Cond.code ({ cls := "com/example/weaverbird/weaverbird/bind/Binding", name := "hasErrors", desc := "()Z" } : Jvm.MethodName) prog_4_method_4_code (1 : Nat) (Option.some Jvm.ClassFile.FieldType.boolean)).before args0 about1 = true := code_word (m := ⟨18, 2⟩) (meth := k18m2) (c := k18c2) (by decide +kernel) rfl rfl rfl (by decide +kernel)
set_option maxRecDepth 65536 in
theorem w_c12 : (Jvm.Cond.code ({ cls := "java/util/ImmutableCollections$ListN", name := "isEmpty", desc := "()Z" } : Jvm.MethodName) jdk_45_method_2_code (1 : Nat) (Option.some Jvm.ClassFile.FieldType.boolean)).before args0 about1 = true := code_word (m := ⟨23, 1⟩) (meth := k23m1) (c := k23c1) (by decide +kernel) rfl rfl rfl (by decide +kernel)
set_option maxRecDepth 65536 in
theorem w_c13 : (Jvm.Cond.code ({ cls := "com/example/weaverbird/weaverbird/bind/Binding", name := "errors", desc := "()Ljava/util/List;" } : Jvm.MethodName) prog_4_method_3_code (1 : Nat) (Option.some (Jvm.ClassFile.FieldType.object "java/util/List"))).before args0 about1 = true := code_word (m := ⟨18, 1⟩) (meth := k18m1) (c := k18c1) (by decide +kernel) rfl rfl rfl (by decide +kernel)
set_option maxRecDepth 65536 in
theorem w_c14 : (Jvm.Cond.code ({ cls := "java/util/ImmutableCollections$ListN", name := "size", desc := "()I" } : Jvm.MethodName) jdk_45_method_3_code (1 : Nat) (Option.some Jvm.ClassFile.FieldType.int)).before args0 about1 = true := code_word (m := ⟨23, 2⟩) (meth := k23m2) (c := k23c2) (by decide +kernel) rfl rfl rfl (by decide +kernel)
set_option maxRecDepth 65536 in
theorem w_c15 : (Jvm.Cond.code ({ cls := "com/example/weaverbird/weaverbird/bind/FieldError", name := "<init>", desc := "(Ljava/lang/String;Ljava/lang/String;Ljava/lang/String;Ljava/lang/String;)V" } : Jvm.MethodName) prog_7_method_1_code (5 : Nat) (Option.none : Option Jvm.ClassFile.FieldType)).before args0 about1 = true := code_word (m := ⟨24, 0⟩) (meth := k24m0) (c := k24c0) (by decide +kernel) rfl rfl rfl (by decide +kernel)
set_option maxRecDepth 65536 in
theorem w_c16 : (Jvm.Cond.code ({ cls := "java/util/ArrayList", name := "add", desc := "(Ljava/lang/Object;)Z" } : Jvm.MethodName) jdk_38_method_25_code (2 : Nat) (Option.some Jvm.ClassFile.FieldType.boolean)).before args0 about1 = true := code_word (m := ⟨17, 6⟩) (meth := k17m6) (c := k17c6) (by decide +kernel) rfl rfl rfl (by decide +kernel)
set_option maxRecDepth 65536 in
theorem w_c17 : (Jvm.Cond.code ({ cls := "java/util/ArrayList", name := "add", desc := "(Ljava/lang/Object;[Ljava/lang/Object;I)V" } : Jvm.MethodName) jdk_38_method_24_code (4 : Nat) (Option.none : Option Jvm.ClassFile.FieldType)).before args0 about1 = true := code_word (m := ⟨17, 5⟩) (meth := k17m5) (c := k17c5) (by decide +kernel) rfl rfl rfl (by decide +kernel)
set_option maxRecDepth 65536 in
theorem w_c18 : (Jvm.Cond.code ({ cls := "java/util/ArrayList", name := "grow", desc := "()[Ljava/lang/Object;" } : Jvm.MethodName) jdk_38_method_7_code (1 : Nat) (Option.some (Jvm.ClassFile.FieldType.array (Jvm.ClassFile.FieldType.object "java/lang/Object")))).before args0 about1 = true := code_word (m := ⟨17, 2⟩) (meth := k17m2) (c := k17c2) (by decide +kernel) rfl rfl rfl (by decide +kernel)
set_option maxRecDepth 65536 in
theorem w_c19 : (Jvm.Cond.code ({ cls := "java/util/ArrayList", name := "grow", desc := "(I)[Ljava/lang/Object;" } : Jvm.MethodName) jdk_38_method_6_code (4 : Nat) (Option.some (Jvm.ClassFile.FieldType.array (Jvm.ClassFile.FieldType.object "java/lang/Object")))).before args0 about1 = true := code_word (m := ⟨17, 1⟩) (meth := k17m1) (c := k17c1) (by decide +kernel) rfl rfl rfl (by decide +kernel)
set_option maxRecDepth 65536 in
theorem w_c20 : (Jvm.Cond.code ({ cls := "java/lang/Math", name := "max", desc := "(II)I" } : Jvm.MethodName) jdk_29_method_65_code (2 : Nat) (Option.some Jvm.ClassFile.FieldType.int)).before args0 about1 = true := code_word (m := ⟨27, 1⟩) (meth := k27m1) (c := k27c1) (by decide +kernel) rfl rfl rfl (by decide +kernel)
set_option maxRecDepth 65536 in
theorem w_c21 : (Jvm.Cond.code ({ cls := "java/util/ArrayList", name := "toArray", desc := "()[Ljava/lang/Object;" } : Jvm.MethodName) jdk_38_method_16_code (1 : Nat) (Option.some (Jvm.ClassFile.FieldType.array (Jvm.ClassFile.FieldType.object "java/lang/Object")))).before args0 about1 = true := code_word (m := ⟨17, 4⟩) (meth := k17m4) (c := k17c4) (by decide +kernel) rfl rfl rfl (by decide +kernel)
set_option maxRecDepth 65536 in
theorem w_c22 : (Jvm.Cond.code ({ cls := "java/util/Arrays", name := "copyOf", desc := "([Ljava/lang/Object;I)[Ljava/lang/Object;" } : Jvm.MethodName) jdk_65_method_119_code (2 : Nat) (Option.some (Jvm.ClassFile.FieldType.array (Jvm.ClassFile.FieldType.object "java/lang/Object")))).before args0 about1 = true := code_word (m := ⟨28, 1⟩) (meth := k28m1) (c := k28c1) (by decide +kernel) rfl rfl rfl (by decide +kernel)
set_option maxRecDepth 65536 in
theorem w_c23 : (Jvm.Cond.code ({ cls := "java/util/Arrays", name := "copyOf", desc := "([Ljava/lang/Object;ILjava/lang/Class;)[Ljava/lang/Object;" } : Jvm.MethodName) jdk_65_method_120_code (4 : Nat) (Option.some (Jvm.ClassFile.FieldType.array (Jvm.ClassFile.FieldType.object "java/lang/Object")))).before args0 about1 = true := code_word (m := ⟨28, 2⟩) (meth := k28m2) (c := k28c2) (by decide +kernel) rfl rfl rfl (by decide +kernel)
set_option maxRecDepth 65536 in
theorem w_c24 : (Jvm.Cond.code ({ cls := "java/lang/Math", name := "min", desc := "(II)I" } : Jvm.MethodName) jdk_29_method_69_code (2 : Nat) (Option.some Jvm.ClassFile.FieldType.int)).before args0 about1 = true := code_word (m := ⟨27, 2⟩) (meth := k27m2) (c := k27c2) (by decide +kernel) rfl rfl rfl (by decide +kernel)
set_option maxRecDepth 65536 in
theorem w_c25 : (Jvm.Cond.code ({ cls := "java/util/List", name := "of", desc := "([Ljava/lang/Object;)Ljava/util/List;" } : Jvm.MethodName) jdk_40_method_47_code (2 : Nat) (Option.some (Jvm.ClassFile.FieldType.object "java/util/List"))).before args0 about1 = true := code_word (m := ⟨13, 3⟩) (meth := k13m3) (c := k13c3) (by decide +kernel) rfl rfl rfl (by decide +kernel)
set_option maxRecDepth 65536 in
theorem w_c26 : (Jvm.Cond.code ({ cls := "java/util/ImmutableCollections$List12", name := "<init>", desc := "(Ljava/lang/Object;)V" } : Jvm.MethodName) jdk_44_method_1_code (2 : Nat) (Option.none : Option Jvm.ClassFile.FieldType)).before args0 about1 = true := code_word (m := ⟨22, 0⟩) (meth := k22m0) (c := k22c0) (by decide +kernel) rfl rfl rfl (by decide +kernel)
set_option maxRecDepth 65536 in
theorem w_c27 : (Jvm.Cond.code ({ cls := "java/util/ImmutableCollections$AbstractImmutableList", name := "<init>", desc := "()V" } : Jvm.MethodName) jdk_46_method_1_code (1 : Nat) (Option.none : Option Jvm.ClassFile.FieldType)).before args0 about1 = true := code_word (m := ⟨21, 0⟩) (meth := k21m0) (c := k21c0) (by decide +kernel) rfl rfl rfl (by decide +kernel)
set_option maxRecDepth 65536 in
theorem w_c28 : (Jvm.Cond.code ({ cls := "java/util/ImmutableCollections$AbstractImmutableCollection", name := "<init>", desc := "()V" } : Jvm.MethodName) jdk_47_method_1_code (1 : Nat) (Option.none : Option Jvm.ClassFile.FieldType)).before args0 about1 = true := code_word (m := ⟨20, 0⟩) (meth := k20m0) (c := k20c0) (by decide +kernel) rfl rfl rfl (by decide +kernel)
set_option maxRecDepth 65536 in
theorem w_c29 : (Jvm.Cond.code ({ cls := "java/util/Objects", name := "requireNonNull", desc := "(Ljava/lang/Object;)Ljava/lang/Object;" } : Jvm.MethodName) jdk_31_method_10_code (1 : Nat) (Option.some (Jvm.ClassFile.FieldType.object "java/lang/Object"))).before args0 about1 = true := code_word (m := ⟨30, 1⟩) (meth := k30m1) (c := k30c1) (by decide +kernel) rfl rfl rfl (by decide +kernel)
set_option maxRecDepth 65536 in
theorem w_c30 : (Jvm.Cond.code ({ cls := "java/util/ImmutableCollections$List12", name := "isEmpty", desc := "()Z" } : Jvm.MethodName) jdk_44_method_4_code (1 : Nat) (Option.some Jvm.ClassFile.FieldType.boolean)).before args0 about1 = true := code_word (m := ⟨22, 3⟩) (meth := k22m3) (c := k22c3) (by decide +kernel) rfl rfl rfl (by decide +kernel)
set_option maxRecDepth 65536 in
theorem w_c31 : (Jvm.Cond.code ({ cls := "java/util/ImmutableCollections$List12", name := "size", desc := "()I" } : Jvm.MethodName) jdk_44_method_3_code (1 : Nat) (Option.some Jvm.ClassFile.FieldType.int)).before args0 about1 = true := code_word (m := ⟨22, 2⟩) (meth := k22m2) (c := k22c2) (by decide +kernel) rfl rfl rfl (by decide +kernel)
set_option maxRecDepth 65536 in
theorem w_c32 : (Jvm.Cond.code ({ cls := "java/util/ImmutableCollections", name := "listFromArray", desc := "([Ljava/lang/Object;)Ljava/util/List;" } : Jvm.MethodName) jdk_56_method_4_code (3 : Nat) (Option.some (Jvm.ClassFile.FieldType.object "java/util/List"))).before args0 about1 = true := code_word (m := ⟨19, 2⟩) (meth := k19m2) (c := k19c2) (by decide +kernel) rfl rfl rfl (by decide +kernel)
set_option maxRecDepth 65536 in
theorem w_c33 : (Jvm.Cond.code ({ cls := "java/util/ImmutableCollections$ListN", name := "<init>", desc := "([Ljava/lang/Object;Z)V" } : Jvm.MethodName) jdk_45_method_1_code (3 : Nat) (Option.none : Option Jvm.ClassFile.FieldType)).before args0 about1 = true := code_word (m := ⟨23, 0⟩) (meth := k23m0) (c := k23c0) (by decide +kernel) rfl rfl rfl (by decide +kernel)
set_option maxRecDepth 65536 in
theorem w_c34 : (Jvm.Cond.code ({ cls := "java/util/ImmutableCollections$List12", name := "<init>", desc := "(Ljava/lang/Object;Ljava/lang/Object;)V" } : Jvm.MethodName) jdk_44_method_2_code (3 : Nat) (Option.none : Option Jvm.ClassFile.FieldType)).before args0 about1 = true := code_word (m := ⟨22, 1⟩) (meth := k22m1) (c := k22c1) (by decide +kernel) rfl rfl rfl (by decide +kernel)
set_option maxRecDepth 65536 in
theorem w_c35 : (Jvm.Cond.code ({ cls := "java/lang/Integer", name := "<init>", desc := "(I)V" } : Jvm.MethodName) jdk_33_method_23_code (2 : Nat) (Option.none : Option Jvm.ClassFile.FieldType)).before args0 about1 = true := code_word (m := ⟨7, 1⟩) (meth := k7m1) (c := k7c1) (by decide +kernel) rfl rfl rfl (by decide +kernel)
set_option maxRecDepth 65536 in
theorem w_c36 : (Jvm.Cond.code ({ cls := "java/lang/Number", name := "<init>", desc := "()V" } : Jvm.MethodName) jdk_18_method_1_code (1 : Nat) (Option.none : Option Jvm.ClassFile.FieldType)).before args0 about1 = true := code_word (m := ⟨3, 0⟩) (meth := k3m0) (c := k3c0) (by decide +kernel) rfl rfl rfl (by decide +kernel)
def codes1 : List Jvm.Cond := [Jvm.Cond.code x code maxLocals ret, Jvm.Cond.code ({ cls := "java/lang/Integer", name := "valueOf", desc := "(I)Ljava/lang/Integer;" } : Jvm.MethodName) jdk_33_method_22_code (1 : Nat) (Option.some (Jvm.ClassFile.FieldType.object "java/lang/Integer")), Jvm.Cond.code ({ cls := "java/util/ArrayList", name := "<init>", desc := "()V" } : Jvm.MethodName) jdk_38_method_2_code (1 : Nat) (Option.none : Option Jvm.ClassFile.FieldType), Jvm.Cond.code ({ cls := "java/util/AbstractList", name := "<init>", desc := "()V" } : Jvm.MethodName) jdk_39_method_1_code (1 : Nat) (Option.none : Option Jvm.ClassFile.FieldType), Jvm.Cond.code ({ cls := "java/util/AbstractCollection", name := "<init>", desc := "()V" } : Jvm.MethodName) jdk_22_method_1_code (1 : Nat) (Option.none : Option Jvm.ClassFile.FieldType), Jvm.Cond.code ({ cls := "java/lang/Object", name := "<init>", desc := "()V" } : Jvm.MethodName) object_method_1_code (1 : Nat) (Option.none : Option Jvm.ClassFile.FieldType), Jvm.Cond.code ({ cls := "com/example/weaverbird/weaverbird/bind/Binding", name := "<init>", desc := "(Ljava/lang/Object;Ljava/util/List;)V" } : Jvm.MethodName) prog_4_method_1_code (3 : Nat) (Option.none : Option Jvm.ClassFile.FieldType), Jvm.Cond.code ({ cls := "java/util/List", name := "copyOf", desc := "(Ljava/util/Collection;)Ljava/util/List;" } : Jvm.MethodName) jdk_40_method_48_code (1 : Nat) (Option.some (Jvm.ClassFile.FieldType.object "java/util/List")), Jvm.Cond.code ({ cls := "java/util/ImmutableCollections", name := "listCopy", desc := "(Ljava/util/Collection;)Ljava/util/List;" } : Jvm.MethodName) jdk_56_method_3_code (2 : Nat) (Option.some (Jvm.ClassFile.FieldType.object "java/util/List")), Jvm.Cond.code ({ cls := "java/util/ArrayList", name := "isEmpty", desc := "()Z" } : Jvm.MethodName) jdk_38_method_9_code (1 : Nat) (Option.some Jvm.ClassFile.FieldType.boolean), Jvm.Cond.code ({ cls := "java/util/List", name := "of", desc := "()Ljava/util/List;" } : Jvm.MethodName) jdk_40_method_36_code (0 : Nat) (Option.some (Jvm.ClassFile.FieldType.object "java/util/List")), Jvm.Cond.code ({ cls := "com/example/weaverbird/weaverbird/bind/Binding", name := "hasErrors", desc := "()Z" } : Jvm.MethodName) prog_4_method_4_code (1 : Nat) (Option.some Jvm.ClassFile.FieldType.boolean), Jvm.Cond.code ({ cls := "java/util/ImmutableCollections$ListN", name := "isEmpty", desc := "()Z" } : Jvm.MethodName) jdk_45_method_2_code (1 : Nat) (Option.some Jvm.ClassFile.FieldType.boolean), Jvm.Cond.code ({ cls := "com/example/weaverbird/weaverbird/bind/Binding", name := "errors", desc := "()Ljava/util/List;" } : Jvm.MethodName) prog_4_method_3_code (1 : Nat) (Option.some (Jvm.ClassFile.FieldType.object "java/util/List")), Jvm.Cond.code ({ cls := "java/util/ImmutableCollections$ListN", name := "size", desc := "()I" } : Jvm.MethodName) jdk_45_method_3_code (1 : Nat) (Option.some Jvm.ClassFile.FieldType.int), Jvm.Cond.code ({ cls := "com/example/weaverbird/weaverbird/bind/FieldError", name := "<init>", desc := "(Ljava/lang/String;Ljava/lang/String;Ljava/lang/String;Ljava/lang/String;)V" } : Jvm.MethodName) prog_7_method_1_code (5 : Nat) (Option.none : Option Jvm.ClassFile.FieldType), Jvm.Cond.code ({ cls := "java/util/ArrayList", name := "add", desc := "(Ljava/lang/Object;)Z" } : Jvm.MethodName) jdk_38_method_25_code (2 : Nat) (Option.some Jvm.ClassFile.FieldType.boolean), Jvm.Cond.code ({ cls := "java/util/ArrayList", name := "add", desc := "(Ljava/lang/Object;[Ljava/lang/Object;I)V" } : Jvm.MethodName) jdk_38_method_24_code (4 : Nat) (Option.none : Option Jvm.ClassFile.FieldType), Jvm.Cond.code ({ cls := "java/util/ArrayList", name := "grow", desc := "()[Ljava/lang/Object;" } : Jvm.MethodName) jdk_38_method_7_code (1 : Nat) (Option.some (Jvm.ClassFile.FieldType.array (Jvm.ClassFile.FieldType.object "java/lang/Object"))), Jvm.Cond.code ({ cls := "java/util/ArrayList", name := "grow", desc := "(I)[Ljava/lang/Object;" } : Jvm.MethodName) jdk_38_method_6_code (4 : Nat) (Option.some (Jvm.ClassFile.FieldType.array (Jvm.ClassFile.FieldType.object "java/lang/Object"))), Jvm.Cond.code ({ cls := "java/lang/Math", name := "max", desc := "(II)I" } : Jvm.MethodName) jdk_29_method_65_code (2 : Nat) (Option.some Jvm.ClassFile.FieldType.int), Jvm.Cond.code ({ cls := "java/util/ArrayList", name := "toArray", desc := "()[Ljava/lang/Object;" } : Jvm.MethodName) jdk_38_method_16_code (1 : Nat) (Option.some (Jvm.ClassFile.FieldType.array (Jvm.ClassFile.FieldType.object "java/lang/Object"))), Jvm.Cond.code ({ cls := "java/util/Arrays", name := "copyOf", desc := "([Ljava/lang/Object;I)[Ljava/lang/Object;" } : Jvm.MethodName) jdk_65_method_119_code (2 : Nat) (Option.some (Jvm.ClassFile.FieldType.array (Jvm.ClassFile.FieldType.object "java/lang/Object"))), Jvm.Cond.code ({ cls := "java/util/Arrays", name := "copyOf", desc := "([Ljava/lang/Object;ILjava/lang/Class;)[Ljava/lang/Object;" } : Jvm.MethodName) jdk_65_method_120_code (4 : Nat) (Option.some (Jvm.ClassFile.FieldType.array (Jvm.ClassFile.FieldType.object "java/lang/Object"))), Jvm.Cond.code ({ cls := "java/lang/Math", name := "min", desc := "(II)I" } : Jvm.MethodName) jdk_29_method_69_code (2 : Nat) (Option.some Jvm.ClassFile.FieldType.int), Jvm.Cond.code ({ cls := "java/util/List", name := "of", desc := "([Ljava/lang/Object;)Ljava/util/List;" } : Jvm.MethodName) jdk_40_method_47_code (2 : Nat) (Option.some (Jvm.ClassFile.FieldType.object "java/util/List")), Jvm.Cond.code ({ cls := "java/util/ImmutableCollections$List12", name := "<init>", desc := "(Ljava/lang/Object;)V" } : Jvm.MethodName) jdk_44_method_1_code (2 : Nat) (Option.none : Option Jvm.ClassFile.FieldType), Jvm.Cond.code ({ cls := "java/util/ImmutableCollections$AbstractImmutableList", name := "<init>", desc := "()V" } : Jvm.MethodName) jdk_46_method_1_code (1 : Nat) (Option.none : Option Jvm.ClassFile.FieldType), Jvm.Cond.code ({ cls := "java/util/ImmutableCollections$AbstractImmutableCollection", name := "<init>", desc := "()V" } : Jvm.MethodName) jdk_47_method_1_code (1 : Nat) (Option.none : Option Jvm.ClassFile.FieldType), Jvm.Cond.code ({ cls := "java/util/Objects", name := "requireNonNull", desc := "(Ljava/lang/Object;)Ljava/lang/Object;" } : Jvm.MethodName) jdk_31_method_10_code (1 : Nat) (Option.some (Jvm.ClassFile.FieldType.object "java/lang/Object")), Jvm.Cond.code ({ cls := "java/util/ImmutableCollections$List12", name := "isEmpty", desc := "()Z" } : Jvm.MethodName) jdk_44_method_4_code (1 : Nat) (Option.some Jvm.ClassFile.FieldType.boolean), Jvm.Cond.code ({ cls := "java/util/ImmutableCollections$List12", name := "size", desc := "()I" } : Jvm.MethodName) jdk_44_method_3_code (1 : Nat) (Option.some Jvm.ClassFile.FieldType.int), Jvm.Cond.code ({ cls := "java/util/ImmutableCollections", name := "listFromArray", desc := "([Ljava/lang/Object;)Ljava/util/List;" } : Jvm.MethodName) jdk_56_method_4_code (3 : Nat) (Option.some (Jvm.ClassFile.FieldType.object "java/util/List")), Jvm.Cond.code ({ cls := "java/util/ImmutableCollections$ListN", name := "<init>", desc := "([Ljava/lang/Object;Z)V" } : Jvm.MethodName) jdk_45_method_1_code (3 : Nat) (Option.none : Option Jvm.ClassFile.FieldType), Jvm.Cond.code ({ cls := "java/util/ImmutableCollections$List12", name := "<init>", desc := "(Ljava/lang/Object;Ljava/lang/Object;)V" } : Jvm.MethodName) jdk_44_method_2_code (3 : Nat) (Option.none : Option Jvm.ClassFile.FieldType), Jvm.Cond.code ({ cls := "java/lang/Integer", name := "<init>", desc := "(I)V" } : Jvm.MethodName) jdk_33_method_23_code (2 : Nat) (Option.none : Option Jvm.ClassFile.FieldType), Jvm.Cond.code ({ cls := "java/lang/Number", name := "<init>", desc := "()V" } : Jvm.MethodName) jdk_18_method_1_code (1 : Nat) (Option.none : Option Jvm.ClassFile.FieldType)]
set_option maxRecDepth 65536 in
theorem codes_eq : words1.filter isCode = codes1 := rfl
theorem w_codes : ∀ c ∈ words1.filter isCode, c.before args0 about1 = true := by
  rw [codes_eq]
  intro c hc
  simp only [codes1, List.mem_cons, List.not_mem_nil, or_false] at hc
  rcases hc with rfl | rfl | rfl | rfl | rfl | rfl | rfl | rfl | rfl | rfl | rfl | rfl | rfl | rfl | rfl | rfl | rfl | rfl | rfl | rfl | rfl | rfl | rfl | rfl | rfl | rfl | rfl | rfl | rfl | rfl | rfl | rfl | rfl | rfl | rfl | rfl | rfl
  · exact w_c0
  · exact w_c1
  · exact w_c2
  · exact w_c3
  · exact w_c4
  · exact w_c5
  · exact w_c6
  · exact w_c7
  · exact w_c8
  · exact w_c9
  · exact w_c10
  · exact w_c11
  · exact w_c12
  · exact w_c13
  · exact w_c14
  · exact w_c15
  · exact w_c16
  · exact w_c17
  · exact w_c18
  · exact w_c19
  · exact w_c20
  · exact w_c21
  · exact w_c22
  · exact w_c23
  · exact w_c24
  · exact w_c25
  · exact w_c26
  · exact w_c27
  · exact w_c28
  · exact w_c29
  · exact w_c30
  · exact w_c31
  · exact w_c32
  · exact w_c33
  · exact w_c34
  · exact w_c35
  · exact w_c36
set_option maxRecDepth 65536 in
theorem w_t1 : (words1.take 24).all (fun c => isCode c || c.before args0 about1) = true := by decide +kernel
set_option maxRecDepth 65536 in
theorem w_t2 : ((words1.drop 24).take 24).all (fun c => isCode c || c.before args0 about1) = true := by decide +kernel
set_option maxRecDepth 65536 in
theorem w_t3 : (((words1.drop 24).drop 24).take 24).all (fun c => isCode c || c.before args0 about1) = true := by decide +kernel
set_option maxRecDepth 65536 in
theorem w_t4 : ((((words1.drop 24).drop 24).drop 24).take 24).all (fun c => isCode c || c.before args0 about1) = true := by decide +kernel
set_option maxRecDepth 65536 in
theorem w_t5 : (((((words1.drop 24).drop 24).drop 24).drop 24).take 24).all (fun c => isCode c || c.before args0 about1) = true := by decide +kernel
set_option maxRecDepth 65536 in
theorem w_t6 : ((((((words1.drop 24).drop 24).drop 24).drop 24).drop 24).take 24).all (fun c => isCode c || c.before args0 about1) = true := by decide +kernel
set_option maxRecDepth 65536 in
theorem w_t7 : (((((((words1.drop 24).drop 24).drop 24).drop 24).drop 24).drop 24).take 24).all (fun c => isCode c || c.before args0 about1) = true := by decide +kernel
set_option maxRecDepth 65536 in
theorem w_t8 : ((((((((words1.drop 24).drop 24).drop 24).drop 24).drop 24).drop 24).drop 24).take 24).all (fun c => isCode c || c.before args0 about1) = true := by decide +kernel
set_option maxRecDepth 65536 in
theorem w_t9 : (((((((((words1.drop 24).drop 24).drop 24).drop 24).drop 24).drop 24).drop 24).drop 24).take 24).all (fun c => isCode c || c.before args0 about1) = true := by decide +kernel
set_option maxRecDepth 65536 in
theorem w_t10 : ((((((((((words1.drop 24).drop 24).drop 24).drop 24).drop 24).drop 24).drop 24).drop 24).drop 24).take 24).all (fun c => isCode c || c.before args0 about1) = true := by decide +kernel
set_option maxRecDepth 65536 in
theorem w_t11 : (((((((((((words1.drop 24).drop 24).drop 24).drop 24).drop 24).drop 24).drop 24).drop 24).drop 24).drop 24).take 24).all (fun c => isCode c || c.before args0 about1) = true := by decide +kernel
set_option maxRecDepth 65536 in
theorem w_t12 : (((((((((((words1.drop 24).drop 24).drop 24).drop 24).drop 24).drop 24).drop 24).drop 24).drop 24).drop 24).drop 24).all (fun c => isCode c || c.before args0 about1) = true := by decide +kernel
theorem w_tables : (allAtoms (Jvm.Cond.code x code maxLocals ret :: tables_1)).before args0 about1 = true := by
  rw [allAtoms_all]
  show words1.all (fun c => c.before args0 about1) = true
  refine all_split ?_ w_codes
  rw [← List.take_append_drop 24 words1, List.all_append, w_t1, ← List.take_append_drop 24 (words1.drop 24), List.all_append, w_t2, ← List.take_append_drop 24 ((words1.drop 24).drop 24), List.all_append, w_t3, ← List.take_append_drop 24 (((words1.drop 24).drop 24).drop 24), List.all_append, w_t4, ← List.take_append_drop 24 ((((words1.drop 24).drop 24).drop 24).drop 24), List.all_append, w_t5, ← List.take_append_drop 24 (((((words1.drop 24).drop 24).drop 24).drop 24).drop 24), List.all_append, w_t6, ← List.take_append_drop 24 ((((((words1.drop 24).drop 24).drop 24).drop 24).drop 24).drop 24), List.all_append, w_t7, ← List.take_append_drop 24 (((((((words1.drop 24).drop 24).drop 24).drop 24).drop 24).drop 24).drop 24), List.all_append, w_t8, ← List.take_append_drop 24 ((((((((words1.drop 24).drop 24).drop 24).drop 24).drop 24).drop 24).drop 24).drop 24), List.all_append, w_t9, ← List.take_append_drop 24 (((((((((words1.drop 24).drop 24).drop 24).drop 24).drop 24).drop 24).drop 24).drop 24).drop 24), List.all_append, w_t10, ← List.take_append_drop 24 ((((((((((words1.drop 24).drop 24).drop 24).drop 24).drop 24).drop 24).drop 24).drop 24).drop 24).drop 24), List.all_append, w_t11, w_t12]
  rfl
set_option maxRecDepth 65536 in
theorem w_rest : rest_1_c.before args0 about1 = true := by decide +kernel
set_option maxRecDepth 65536 in
theorem w_case : (Jvm.Cond.and given_1 narrow_1).before args0 about1 = true := by decide +kernel
theorem w_applies : (headSpec (Jvm.Cond.code x code maxLocals ret :: tables_1) room_1).applies x e0.platform about1 = true :=
  (Spec.applies_iff w_frames).mpr ⟨w_running, w_runnable, w_alone, w_named, w_hears, w_ripe, w_room, w_tables⟩
set_option maxRecDepth 65536 in
theorem atStart : AtStart classFile x code maxLocals ret World_1 tables_1 room_1 Calls_1 rest_1 Pre_1 launch0 p0 e0 about1 theMethod args0 below0 :=
  ⟨lists_1, trivial, launch0.admits_env _ _ _, launch0.least_env, fairChoices_fair.cas, fairChoices_fair.clock, w_frames, w_args, w_heap, w_applies, ⟨⟨37, k37, 3, by decide +kernel, rfl, rfl, _, rfl, rfl⟩, trivial⟩, w_rest, w_case⟩
end start1
theorem witness_1 : WitnessClaimed_1 := ⟨start1.p0, start1.e0, start1.about1, start1.theMethod, start1.args0, start1.below0, start1.atStart⟩
end Jvm.Pilot.@@N@@
