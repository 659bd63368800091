import JvmDerived
import JvmDerived.Pilot.@@N@@Statement
import JvmDerived.Pilot.@@N@@Code
set_option linter.unusedVariables false
set_option linter.unusedSimpArgs false
namespace Jvm.Pilot.@@N@@
open Jvm Jvm.ClassFile Sem Op Lib Jvm.Free Jvm.Stand Jvm.LawKit Jvm.RoadKit Bundle Jvm.Pilot.@@N@@.Jvm.D
theorem own_gd {l : List Value} {j : Int32} {n : Nat} {d v : Value} (h : j.toNatClampNeg = n) (e : l.getD n d = v) : l.getD j.toNatClampNeg d = v := by rw [h]; exact e
theorem own_lenK {l : List Value} {z : Int32} {n : Nat} (e : l.length = n) (h : z.toNatClampNeg = n) : l.length = z.toNatClampNeg := by rw [e, h]
theorem own_W {n W : Nat} (h : n = W) : 2 * 0 + n ≤ W := by omega
abbrev own_HW (a0 : Array Value) (Z : State) : Prop := ∀ d ∈ tables_1, d.before a0 Z = true
abbrev DK (b : ByteArray) (n : Nat) (i : Instr) (k : Nat) : Prop := decode b n = .ok (i, k)
section OwnFin
variable {p : Program} {l : Launch} {e : Env} {R : Room} {s : State} {m : MethodId} {args : Array Value} {below : List Frame} {meth : Method} {c : Code} {locs : List Loc} {cells slots dc ds : Nat} {s₀ : State} {F : Option Value → JFrame} {Q : Option Value → Heap → List Loc → Prop}
theorem own_fin {g : JFrame} {rest : List Value} (H : ∃ (v : Option Value) (vm₁ : Vm) (B : Pt), s.WarmedH vm₁ ∧ Stand p l e R s m args below meth c B.U B.locs B.cells B.slots ∧ (∃ L, Q v B.U.heap L ∧ B.locs = locs ++ L ∧ B.cells = cells + dc ∧ B.slots = slots + ds) ∧ Steps p.tables e below s₀ (B.U.setTop { g with pc := g.pc + 3, stack := v.toList ++ rest })) :
    ∃ v T' Lc, Stand p l e R s m args below meth c T' (locs ++ Lc) (cells + dc) (slots + ds) ∧ Q v T'.heap Lc ∧ Steps p.tables e below s₀ (T'.setTop { g with pc := g.pc + 3, stack := v.toList ++ rest }) := by
  obtain ⟨v, _, ⟨T', L, k, n⟩, -, X, ⟨Lc, hQ, h1, h2, h3⟩, st⟩ := H
  obtain rfl : L = _ := h1
  obtain rfl : k = _ := h2
  obtain rfl : n = _ := h3
  exact ⟨v, T', Lc, X, hQ, st⟩
theorem own_finI {g : JFrame} {rest : List Value} (H : ∃ (v : Option Value) (vm₁ : Vm) (B : Pt), s.WarmedH vm₁ ∧ Stand p l e R s m args below meth c B.U B.locs B.cells B.slots ∧ (∃ L, Q v B.U.heap L ∧ B.locs = locs ++ L ∧ B.cells = cells + dc ∧ B.slots = slots + ds) ∧ Steps p.tables e below s₀ (B.U.setTop { g with pc := g.pc + 5, stack := v.toList ++ rest })) :
    ∃ v T' Lc, Stand p l e R s m args below meth c T' (locs ++ Lc) (cells + dc) (slots + ds) ∧ Q v T'.heap Lc ∧ Steps p.tables e below s₀ (T'.setTop { g with pc := g.pc + 5, stack := v.toList ++ rest }) := by
  obtain ⟨v, _, ⟨T', L, k, n⟩, -, X, ⟨Lc, hQ, h1, h2, h3⟩, st⟩ := H
  obtain rfl : L = _ := h1
  obtain rfl : k = _ := h2
  obtain rfl : n = _ := h3
  exact ⟨v, T', Lc, X, hQ, st⟩
theorem own_finT {g : JFrame} {rest : List Value} (H : ∃ (v : Option Value) (vm₁ : Vm) (B : Pt), s.WarmedH vm₁ ∧ Stand p l e R s m args below meth c B.U B.locs B.cells B.slots ∧ (∃ L, Q v B.U.heap L ∧ B.locs = locs ++ L ∧ B.cells = cells + dc ∧ B.slots = slots + ds) ∧ ∀ target, Steps p.tables e below (B.U.setTop { g with pc := g.pc + 3, stack := v.toList ++ rest }) target → Steps p.tables e below s₀ target) :
    ∃ v T' Lc, Stand p l e R s m args below meth c T' (locs ++ Lc) (cells + dc) (slots + ds) ∧ Q v T'.heap Lc ∧ ∀ target, Steps p.tables e below (T'.setTop { g with pc := g.pc + 3, stack := v.toList ++ rest }) target → Steps p.tables e below s₀ target := by
  obtain ⟨v, _, ⟨T', L, k, n⟩, -, X, ⟨Lc, hQ, h1, h2, h3⟩, st⟩ := H
  obtain rfl : L = _ := h1
  obtain rfl : k = _ := h2
  obtain rfl : n = _ := h3
  exact ⟨v, T', Lc, X, hQ, st⟩
end OwnFin
abbrev own_MF (l : Launch) (y : MethodName) (b : ByteArray) (ml : Nat) (r : Option FieldType) (ws : List Jvm.Cond) (R : Room) (Z : State) (h0 : Heap) (as : Array Value) (Q : Option Value → Heap → List Loc → Prop) : Prop :=
  MetFree l y (head1 (Jvm.Cond.code y b ml r :: ws) R) (fun a U => a = as ∧ Z.Warmed39 U.vm ∧ U.heap = h0) (fun _ _ _ _ _ => True) (fun _ U o U' => ∃ v L, o = .returned v ∧ Q v U'.heap L ∧ FrameEnd U o U' L R.cells R.slots)
theorem own_open {l : Launch} {y : MethodName} {b : ByteArray} {ml : Nat} {r : Option FieldType} {ws : List Jvm.Cond} {R : Room} {Z : State} {h0 : Heap} {as : Array Value} {Q : Option Value → Heap → List Loc → Prop} (hp : plainFor y = true) {L0 : Array Slot} (hL : ∀ m, entryFrame m as ml = mkF m 0 L0 [])
    (H : ∀ (p : Program) (e : Env) (s : State) (m : MethodId) (below : List Frame) (meth : Method) (c : Code) (s₁ : State), p.tables.exec = Jvm.exec → c.code = b → c.maxLocals = ml → meth.sig.returnType = r → s.methodNamed? y = some m ∧ s.vm.method? m = some meth → Z.Warmed39 s.vm → s.vm.findClass y.cls = some m.cls → Stand p l e R s m as below meth c s₁ [] 0 0 → s₁.heap = h0 →
      ∃ v T L cs sl, (r = none → v = none) ∧ Stand p l e R s m as below meth c T L cs sl ∧ cs ≤ R.cells ∧ sl ≤ R.slots ∧ Q v T.heap L ∧ ∀ fs, (∀ (f : JFrame) (acts : List Action), f.method = m → f.locked = none → f.entered = [] → (doReturn e (T.setTop f) acts v).1 = T.setFrames fs) → Steps p.tables e below (s₁.setTop (mkF m 0 L0 [])) (T.setFrames fs)) :
    own_MF l y b ml r ws R Z h0 as Q := by
  refine MetFree.of_bodySF hp hisR ?_
  intro p e s m args below meth c s₁ Bd hml hP hK
  obtain ⟨rfl, hZ, hh⟩ := hP
  have e0 : s₁.heap = h0 := by rw [← hh, Bd.state]; rfl
  obtain ⟨v, T, L, cs, sl, hv, X, hc, hs, hQ, st⟩ := H p e s m below meth c s₁ Bd.exec Bd.bytes hml Bd.returns ⟨Bd.named, Bd.method⟩ hZ (findClass_of_methodNamed Bd.named) (Stand.of_body Bd) e0
  obtain ⟨fs, hr, hrun, hended, hW, hsame⟩ := X.leave (v := v) (fun q => hv (Bd.returns ▸ q))
  exact ⟨_, _, castTop (hL m) (st fs hr), hrun, hended, v, L, rfl, hQ, ⟨_, rfl⟩, hW, hsame.mono hc hs⟩
section OwnCall
variable {p : Program} {l : Launch} {e : Env} {R : Room} {s : State} {m : MethodId} {args : Array Value} {below : List Frame} {meth : Method} {c : Code} {T : State} {locs : List Loc} {cells slots : Nat} {Z : State} {a0 : Array Value} {h : Heap} {own : String} {index : Nat} {y : MethodName} {bytes : ByteArray} {maxL : Nat} {ret : Option FieldType} {rm : Room} {argsL rest : List Value} {Q : Option Value → Heap → List Loc → Prop} {W : Nat} {g : JFrame}
theorem own_cS (X : Stand p l e R s m args below meth c T locs cells slots) (hx : p.tables.exec = Jvm.exec) (hZ : Z.Warmed39 s.vm) (hown : s.vm.findClass own = some m.cls) (eT : T.heap = h) (hM : own_MF l y bytes maxL ret [] rm Z h argsL.toArray Q)
    (w1 : (Jvm.Cond.methodLink own index y).before a0 Z = true) (w2 : (Jvm.Cond.static y).before a0 Z = true) (w3 : (Jvm.Cond.initialized y.cls).before a0 Z = true) (w4 : (Jvm.Cond.code y bytes maxL ret).before a0 Z = true) (hy : y.cls ≠ "java/lang/invoke/MethodHandle" ∧ y.cls ≠ "java/lang/invoke/VarHandle")
    (hf : rm.frames + 1 ≤ R.frames) (hl : W + (maxL + 11) + rm.locals ≤ R.locals) (hc : cells + rm.cells ≤ R.cells) (hs : slots + rm.slots ≤ R.slots) (hg : g.method = m) (hsize : g.locals.size = c.maxLocals)
    (hlen : ∀ sig, parseMethodDescriptor y.desc = some sig → argsL.length = sig.parameters.length) (hst : g.stack = argsL.reverse ++ rest) (hW : 2 * g.monitorRoom + (rest.map fun v => v.category).sum ≤ W) (hd : decode c.code g.pc = .ok (.invokestatic index, 3)) :
    ∃ v T' Lc, Stand p l e R s m args below meth c T' (locs ++ Lc) (cells + rm.cells) (slots + rm.slots) ∧ Q v T'.heap Lc ∧ ∀ target, Steps p.tables e below (T'.setTop { g with pc := g.pc + 3, stack := v.toList ++ rest }) target → Steps p.tables e below (T.setTop g) target :=
  own_finT (Jvm.LawKit.callS X hx hown (mvT hZ w1) (mvT hZ w2) (mvT hZ w3) (mvT hZ w4) hy (backOf hM hZ w4 w3 hf hl) hg hsize hlen hst hW hd (fun _ _ => ⟨rfl, eT, hc, hs⟩))
theorem own_cV {C : String} {a : Addr} (X : Stand p l e R s m args below meth c T locs cells slots) (hx : p.tables.exec = Jvm.exec) (hZ : Z.Warmed39 s.vm) (hown : s.vm.findClass own = some m.cls) (eT : T.heap = h) (hM : own_MF l y bytes maxL ret [] rm Z h (.ref a :: argsL).toArray Q) (E : Exa Z h a C)
    (w1 : (Jvm.Cond.methodLink own index y).before a0 Z = true) (w2 : (Jvm.Cond.declares y).before a0 Z = true) (w3 : (Jvm.Cond.selects C y y).before a0 Z = true) (w5 : (Jvm.Cond.instanceMethod y).before a0 Z = true) (w4 : (Jvm.Cond.code y bytes maxL ret).before a0 Z = true) (w6 : (Jvm.Cond.initialized y.cls).before a0 Z = true) (hy : y.cls ≠ "java/lang/invoke/MethodHandle" ∧ y.cls ≠ "java/lang/invoke/VarHandle")
    (hf : rm.frames + 1 ≤ R.frames) (hl : W + (maxL + 11) + rm.locals ≤ R.locals) (hc : cells + rm.cells ≤ R.cells) (hs : slots + rm.slots ≤ R.slots) (hg : g.method = m) (hsize : g.locals.size = c.maxLocals)
    (hlen : ∀ sig, parseMethodDescriptor y.desc = some sig → argsL.length = sig.parameters.length) (hst : g.stack = argsL.reverse ++ .ref a :: rest) (hW : 2 * g.monitorRoom + (rest.map fun v => v.category).sum ≤ W) (hd : decode c.code g.pc = .ok (.invokevirtual index, 3)) :
    ∃ v T' Lc, Stand p l e R s m args below meth c T' (locs ++ Lc) (cells + rm.cells) (slots + rm.slots) ∧ Q v T'.heap Lc ∧ ∀ target, Steps p.tables e below (T'.setTop { g with pc := g.pc + 3, stack := v.toList ++ rest }) target → Steps p.tables e below (T.setTop g) target := by
  obtain ⟨cB, kB, q1, q2, q3⟩ := isOf hZ eT E
  obtain ⟨v, T', Lc, X', hQ, st⟩ := own_fin (X.virtualBack hx hown (mvT hZ w1) (mvT hZ w2) (notFace_of_selects (args := #[]) (mvT hZ w3)) (mvT hZ w3) (mvT hZ w5) hy (backOf hM hZ w4 w6 hf hl) q1 q3 hg hsize (Steps.refl _) hlen hst hW hd (fun _ _ => ⟨rfl, eT, hc, hs⟩))
  exact ⟨v, T', Lc, X', hQ, fun t k => st.trans k⟩
theorem own_cI {C : String} {a : Addr} {count : Nat} {xi : MethodName} (X : Stand p l e R s m args below meth c T locs cells slots) (hx : p.tables.exec = Jvm.exec) (hZ : Z.Warmed39 s.vm) (hown : s.vm.findClass own = some m.cls) (eT : T.heap = h) (hM : own_MF l y bytes maxL ret [] rm Z h (.ref a :: argsL).toArray Q) (E : Exa Z h a C)
    (w1 : (Jvm.Cond.methodLink own index xi).before a0 Z = true) (w2 : (Jvm.Cond.declares xi).before a0 Z = true) (w7 : (Jvm.Cond.interfaceMethod xi.cls xi.cls xi.name xi.desc).before a0 Z = true) (w3 : (Jvm.Cond.selects C xi y).before a0 Z = true) (w5 : (Jvm.Cond.instanceMethod y).before a0 Z = true) (w8 : (Jvm.Cond.publicMethod y).before a0 Z = true) (w9 : (Jvm.Cond.unhidden C xi.name xi.desc).before a0 Z = true) (wa : (Jvm.Cond.castable C xi.cls).before a0 Z = true) (w4 : (Jvm.Cond.code y bytes maxL ret).before a0 Z = true) (w6 : (Jvm.Cond.initialized y.cls).before a0 Z = true) (hy : xi.cls ≠ "java/lang/invoke/MethodHandle" ∧ xi.cls ≠ "java/lang/invoke/VarHandle")
    (hf : rm.frames + 1 ≤ R.frames) (hl : W + (maxL + 11) + rm.locals ≤ R.locals) (hc : cells + rm.cells ≤ R.cells) (hs : slots + rm.slots ≤ R.slots) (hg : g.method = m) (hsize : g.locals.size = c.maxLocals)
    (hlen : ∀ sig, parseMethodDescriptor xi.desc = some sig → argsL.length = sig.parameters.length) (hst : g.stack = argsL.reverse ++ .ref a :: rest) (hW : 2 * g.monitorRoom + (rest.map fun v => v.category).sum ≤ W) (hd : decode c.code g.pc = .ok (.invokeinterface index count, 5)) (h7 : ((Jvm.Cond.interfaceMethod xi.cls xi.cls xi.name xi.desc).onTables && (Jvm.Cond.interfaceMethod xi.cls xi.cls xi.name xi.desc).keepsFace) = true := by first | rfl | simp [Cond.onTables, Cond.keepsFace, Cond.keeps, Cond.steady]) :
    ∃ v T' Lc, Stand p l e R s m args below meth c T' (locs ++ Lc) (cells + rm.cells) (slots + rm.slots) ∧ Q v T'.heap Lc ∧ ∀ target, Steps p.tables e below (T'.setTop { g with pc := g.pc + 5, stack := v.toList ++ rest }) target → Steps p.tables e below (T.setTop g) target := by
  obtain ⟨cB, kB, q1, q2, q3⟩ := isOf hZ eT E
  obtain ⟨v, T', Lc, X', hQ, st⟩ := own_finI (X.interfaceBack hx hown (mvT hZ w1) (mvT hZ w2) (mvT hZ w7 h7) (mvT hZ w3) (mvT hZ w5) (mvT hZ w8) (mvT hZ w9) (mvT hZ wa) hy (backOf hM hZ w4 w6 hf hl) q1 q2 q3 hg hsize (Steps.refl _) hlen hst hW hd (fun _ _ => ⟨rfl, eT, hc, hs⟩))
  exact ⟨v, T', Lc, X', hQ, fun t k => st.trans k⟩
end OwnCall
section OwnStep
variable {p : Program} {l : Launch} {e : Env} {R : Room} {s : State} {m : MethodId} {args : Array Value} {below : List Frame} {meth : Method} {c : Code} {T target : State} {locs : List Loc} {cells slots : Nat} {b : ByteArray} {g : JFrame}
theorem qiN (X : Stand p l e R s m args below meth c T locs cells slots) (hx : p.tables.exec = Jvm.exec) (y : c.code = b) {k : Fin 4} {v : Int32} (d : decode b g.pc = .ok (.iload_n k, 1)) (hr : Steps p.tables e below (T.setTop { g with pc := g.pc + 1, stack := .int v :: g.stack }) target) (hg : g.method = m := by rfl) (hl : g.locals[k.val]? = some (.val (.int v)) := by rfl) : Steps p.tables e below (T.setTop g) target := XS.iloadN X.here hx hg (hb y d) hl hr
theorem qi (X : Stand p l e R s m args below meth c T locs cells slots) (hx : p.tables.exec = Jvm.exec) (y : c.code = b) {k : Nat} {v : Int32} (d : decode b g.pc = .ok (.iload k, 2)) (hr : Steps p.tables e below (T.setTop { g with pc := g.pc + 2, stack := .int v :: g.stack }) target) (hg : g.method = m := by rfl) (hl : g.locals[k]? = some (.val (.int v)) := by rfl) : Steps p.tables e below (T.setTop g) target := XS.iload X.here hx hg (hb y d) hl hr
theorem qaN (X : Stand p l e R s m args below meth c T locs cells slots) (hx : p.tables.exec = Jvm.exec) (y : c.code = b) {k : Fin 4} {v : Value} (d : decode b g.pc = .ok (.aload_n k, 1)) (hr : Steps p.tables e below (T.setTop { g with pc := g.pc + 1, stack := v :: g.stack }) target) (hg : g.method = m := by rfl) (hl : g.locals[k.val]? = some (.val v) := by rfl) (hv : v.isRef = true := by rfl) : Steps p.tables e below (T.setTop g) target := XS.aloadN X.here hx hg (hb y d) hl hv hr
theorem qa (X : Stand p l e R s m args below meth c T locs cells slots) (hx : p.tables.exec = Jvm.exec) (y : c.code = b) {k : Nat} {v : Value} (d : decode b g.pc = .ok (.aload k, 2)) (hr : Steps p.tables e below (T.setTop { g with pc := g.pc + 2, stack := v :: g.stack }) target) (hg : g.method = m := by rfl) (hl : g.locals[k]? = some (.val v) := by rfl) (hv : v.isRef = true := by rfl) : Steps p.tables e below (T.setTop g) target := XS.aload X.here hx hg (hb y d) hl hv hr
theorem qc (X : Stand p l e R s m args below meth c T locs cells slots) (hx : p.tables.exec = Jvm.exec) (y : c.code = b) {i : Int} (d : decode b g.pc = .ok (.iconst i, 1)) (hr : Steps p.tables e below (T.setTop { g with pc := g.pc + 1, stack := .int (Int32.ofInt i) :: g.stack }) target) (hg : g.method = m := by rfl) : Steps p.tables e below (T.setTop g) target := XS.iconst X.here hx hg (hb y d) hr
theorem qb (X : Stand p l e R s m args below meth c T locs cells slots) (hx : p.tables.exec = Jvm.exec) (y : c.code = b) {i : Int} (d : decode b g.pc = .ok (.bipush i, 2)) (hr : Steps p.tables e below (T.setTop { g with pc := g.pc + 2, stack := .int (Int8.ofInt i).toInt32 :: g.stack }) target) (hg : g.method = m := by rfl) : Steps p.tables e below (T.setTop g) target := XS.bipush X.here hx hg (hb y d) hr
theorem qd (X : Stand p l e R s m args below meth c T locs cells slots) (hx : p.tables.exec = Jvm.exec) (y : c.code = b) {x : Value} {rest : List Value} (d : decode b g.pc = .ok (.dup, 1)) (hr : Steps p.tables e below (T.setTop { g with pc := g.pc + 1, stack := x :: x :: rest }) target) (hg : g.method = m := by rfl) (hs : g.stack = x :: rest := by rfl) (hc : x.category = 1 := by rfl) : Steps p.tables e below (T.setTop g) target := XS.dup X.here hx hg (hb y d) hs hc hr
end OwnStep
theorem ww {Z : State} {a0 : Array Value} (hw : ∀ d ∈ tables_1, d.before a0 Z = true) (i : Nat) {d : Jvm.Cond} (h : tables_1[i]? = some d) : d.before a0 Z = true := hw d (List.mem_of_getElem? h)
set_option maxRecDepth 65536
set_option maxHeartbeats 40000000
abbrev cs0 : String := "com/example/nearmiss/nearmiss/Element"
abbrev cs1 : String := "java/util/AbstractCollection"
abbrev cs2 : String := "DEFAULTCAPACITY_EMPTY_ELEMENTDATA"
abbrev cs3 : String := "(Ljava/lang/Object;[Ljava/lang/Object;I)V"
abbrev cs4 : String := "([Ljava/lang/Object;ILjava/lang/Class;)[Ljava/lang/Object;"
abbrev cs5 : String := "([Ljava/lang/Object;I)[Ljava/lang/Object;"
abbrev cs6 : String := "java/util/ImmutableCollections$AbstractImmutableList"
abbrev cs7 : String := "java/util/ImmutableCollections$List12"
abbrev cs8 : String := "java/util/ImmutableCollections"
abbrev cs9 : String := "([Ljava/lang/Object;)Ljava/util/List;"
abbrev cs10 : String := "(Ljava/util/Collection;)Ljava/util/List;"
abbrev cs11 : String := "com/example/nearmiss/nearmiss/Document"
abbrev cs12 : String := "(Ljava/lang/String;ILjava/util/List;)V"
abbrev cs13 : String := "com/example/nearmiss/nearmiss/DocumentRootPinLaw"
abbrev cs14 : String := "java/util/ImmutableCollections$ListN"
abbrev rR0_0_0_0 : Room := { frames := 0, cells := 0, slots := 0, locals := 0 }
abbrev rR0_1_1_0 : Room := { frames := 0, cells := 1, slots := 1, locals := 0 }
abbrev rR1_0_0_12 : Room := { frames := 1, cells := 0, slots := 0, locals := 12 }
abbrev rR2_2_5_27 : Room := { frames := 2, cells := 2, slots := 5, locals := 27 }
abbrev rR2_0_0_24 : Room := { frames := 2, cells := 0, slots := 0, locals := 24 }
abbrev rR3_0_0_36 : Room := { frames := 3, cells := 0, slots := 0, locals := 36 }
abbrev rR1_1_10_14 : Room := { frames := 1, cells := 1, slots := 10, locals := 14 }
abbrev rR2_1_10_29 : Room := { frames := 2, cells := 1, slots := 10, locals := 29 }
abbrev rR3_1_10_41 : Room := { frames := 3, cells := 1, slots := 10, locals := 41 }
abbrev rR4_1_10_56 : Room := { frames := 4, cells := 1, slots := 10, locals := 56 }
abbrev rR1_1_1_24 : Room := { frames := 1, cells := 1, slots := 1, locals := 24 }
abbrev rR2_1_1_39 : Room := { frames := 2, cells := 1, slots := 1, locals := 39 }
abbrev rR3_1_1_52 : Room := { frames := 3, cells := 1, slots := 1, locals := 52 }
abbrev rR4_0_0_48 : Room := { frames := 4, cells := 0, slots := 0, locals := 48 }
abbrev rR5_1_2_62 : Room := { frames := 5, cells := 1, slots := 2, locals := 62 }
abbrev rR6_2_3_75 : Room := { frames := 6, cells := 2, slots := 3, locals := 75 }
abbrev rR7_2_3_88 : Room := { frames := 7, cells := 2, slots := 3, locals := 88 }
abbrev rR1_2_2_14 : Room := { frames := 1, cells := 2, slots := 2, locals := 14 }
abbrev rR1_0_0_15 : Room := { frames := 1, cells := 0, slots := 0, locals := 15 }
abbrev rR1_0_0_14 : Room := { frames := 1, cells := 0, slots := 0, locals := 14 }
abbrev rR2_1_2_27 : Room := { frames := 2, cells := 1, slots := 2, locals := 27 }
abbrev rR8_5_7_101 : Room := { frames := 8, cells := 5, slots := 7, locals := 101 }
abbrev rR1_0_0_13 : Room := { frames := 1, cells := 0, slots := 0, locals := 13 }
abbrev rR1_1_2_24 : Room := { frames := 1, cells := 1, slots := 2, locals := 24 }
abbrev rR2_1_2_39 : Room := { frames := 2, cells := 1, slots := 2, locals := 39 }
abbrev rR3_1_2_52 : Room := { frames := 3, cells := 1, slots := 2, locals := 52 }
abbrev rR5_1_2_63 : Room := { frames := 5, cells := 1, slots := 2, locals := 63 }
abbrev rR6_2_4_76 : Room := { frames := 6, cells := 2, slots := 4, locals := 76 }
abbrev rR7_2_4_89 : Room := { frames := 7, cells := 2, slots := 4, locals := 89 }
abbrev rR2_0_0_27 : Room := { frames := 2, cells := 0, slots := 0, locals := 27 }
abbrev rR3_0_0_46 : Room := { frames := 3, cells := 0, slots := 0, locals := 46 }
abbrev rR4_0_0_59 : Room := { frames := 4, cells := 0, slots := 0, locals := 59 }
abbrev rR5_2_4_72 : Room := { frames := 5, cells := 2, slots := 4, locals := 72 }
abbrev rR2_1_4_27 : Room := { frames := 2, cells := 1, slots := 4, locals := 27 }
abbrev rR8_5_12_102 : Room := { frames := 8, cells := 5, slots := 12, locals := 102 }
abbrev rR1_1_3_24 : Room := { frames := 1, cells := 1, slots := 3, locals := 24 }
abbrev rR2_1_3_39 : Room := { frames := 2, cells := 1, slots := 3, locals := 39 }
abbrev rR3_1_3_52 : Room := { frames := 3, cells := 1, slots := 3, locals := 52 }
abbrev rR5_2_5_63 : Room := { frames := 5, cells := 2, slots := 5, locals := 63 }
abbrev rR6_2_5_77 : Room := { frames := 6, cells := 2, slots := 5, locals := 77 }
abbrev rR7_3_8_90 : Room := { frames := 7, cells := 3, slots := 8, locals := 90 }
abbrev rR8_3_8_103 : Room := { frames := 8, cells := 3, slots := 8, locals := 103 }
abbrev rR5_2_6_72 : Room := { frames := 5, cells := 2, slots := 6, locals := 72 }
abbrev rR2_1_8_27 : Room := { frames := 2, cells := 1, slots := 8, locals := 27 }
abbrev rR9_6_22_116 : Room := { frames := 9, cells := 6, slots := 22, locals := 116 }
abbrev mN0 : MethodName := ⟨"java/lang/StringLatin1", "canEncode", "(C)Z"⟩
abbrev mN1 : MethodName := ⟨"java/lang/StringLatin1", "toBytes", "(C)[B"⟩
abbrev mN2 : MethodName := ⟨"java/lang/String", "<init>", "([BB)V"⟩
abbrev mN3 : MethodName := ⟨"java/lang/String", "valueOf", "(C)Ljava/lang/String;"⟩
abbrev mN4 : MethodName := ⟨"java/lang/Record", "<init>", "()V"⟩
abbrev mN5 : MethodName := ⟨cs0, "<init>", "(Ljava/lang/String;II)V"⟩
abbrev mN6 : MethodName := ⟨cs1, "<init>", "()V"⟩
abbrev mN7 : MethodName := ⟨"java/util/AbstractList", "<init>", "()V"⟩
abbrev mN8 : MethodName := ⟨"java/util/ArrayList", "<init>", "()V"⟩
abbrev mN9 : MethodName := ⟨"java/lang/Math", "max", "(II)I"⟩
abbrev mN10 : MethodName := ⟨"java/util/ArrayList", "grow", "(I)[Ljava/lang/Object;"⟩
abbrev mN11 : MethodName := ⟨"java/util/ArrayList", "grow", "()[Ljava/lang/Object;"⟩
abbrev mN12 : MethodName := ⟨"java/util/ArrayList", "add", cs3⟩
abbrev mN13 : MethodName := ⟨"java/util/ArrayList", "add", "(Ljava/lang/Object;)Z"⟩
abbrev mN14 : MethodName := ⟨"java/util/ArrayList", "isEmpty", "()Z"⟩
abbrev mN15 : MethodName := ⟨"java/lang/Math", "min", "(II)I"⟩
abbrev mN16 : MethodName := ⟨"java/util/Arrays", "copyOf", cs4⟩
abbrev mN17 : MethodName := ⟨"java/util/Arrays", "copyOf", cs5⟩
abbrev mN18 : MethodName := ⟨"java/util/ArrayList", "toArray", "()[Ljava/lang/Object;"⟩
abbrev mN19 : MethodName := ⟨"java/util/ImmutableCollections$AbstractImmutableCollection", "<init>", "()V"⟩
abbrev mN20 : MethodName := ⟨cs6, "<init>", "()V"⟩
abbrev mN21 : MethodName := ⟨"java/util/Objects", "requireNonNull", "(Ljava/lang/Object;)Ljava/lang/Object;"⟩
abbrev mN22 : MethodName := ⟨cs7, "<init>", "(Ljava/lang/Object;)V"⟩
abbrev mN23 : MethodName := ⟨"java/util/List", "of", cs9⟩
abbrev mN24 : MethodName := ⟨cs8, "listCopy", cs10⟩
abbrev mN25 : MethodName := ⟨"java/util/Collection", "isEmpty", "()Z"⟩
abbrev mN26 : MethodName := ⟨"java/util/Collection", "toArray", "()[Ljava/lang/Object;"⟩
abbrev mN27 : MethodName := ⟨"java/util/List", "copyOf", cs10⟩
abbrev mN28 : MethodName := ⟨cs7, "size", "()I"⟩
abbrev mN29 : MethodName := ⟨cs7, "get", "(I)Ljava/lang/Object;"⟩
abbrev mN30 : MethodName := ⟨cs0, "path", "()Ljava/lang/String;"⟩
abbrev mN31 : MethodName := ⟨cs11, "subtreeEnds", "(Ljava/util/List;)[I"⟩
abbrev mN32 : MethodName := ⟨"java/util/List", "size", "()I"⟩
abbrev mN33 : MethodName := ⟨"java/util/List", "get", "(I)Ljava/lang/Object;"⟩
abbrev mN34 : MethodName := ⟨"java/lang/Integer", "numberOfLeadingZeros", "(I)I"⟩
abbrev mN35 : MethodName := ⟨"java/lang/Integer", "highestOneBit", "(I)I"⟩
abbrev mN36 : MethodName := ⟨"java/lang/String", "isLatin1", "()Z"⟩
abbrev mN37 : MethodName := ⟨"java/lang/StringLatin1", "hashCode", "([B)I"⟩
abbrev mN38 : MethodName := ⟨"java/lang/String", "hashCode", "()I"⟩
abbrev mN39 : MethodName := ⟨cs11, "firstSlot", "([II)I"⟩
abbrev mN40 : MethodName := ⟨cs11, "placesByPath", "(Ljava/util/List;)[I"⟩
abbrev mN41 : MethodName := ⟨cs11, "<init>", cs12⟩
abbrev mN42 : MethodName := ⟨cs11, "root", "()Lcom/example/nearmiss/nearmiss/Element;"⟩
abbrev mN43 : MethodName := ⟨"java/lang/String", "equals", "(Ljava/lang/Object;)Z"⟩
abbrev mN44 : MethodName := ⟨cs0, "start", "()I"⟩
abbrev mN45 : MethodName := ⟨cs0, "end", "()I"⟩
abbrev mN46 : MethodName := ⟨"java/util/List", "add", "(Ljava/lang/Object;)Z"⟩
abbrev mN47 : MethodName := ⟨cs7, "<init>", "(Ljava/lang/Object;Ljava/lang/Object;)V"⟩
abbrev mN48 : MethodName := ⟨"java/lang/String", "coder", "()B"⟩
abbrev mN49 : MethodName := ⟨"java/lang/String", "length", "()I"⟩
abbrev mN50 : MethodName := ⟨"jdk/internal/util/ArraysSupport", "mismatch", "([BI[BII)I"⟩
abbrev mN51 : MethodName := ⟨"java/lang/String", "startsWith", "(Ljava/lang/String;I)Z"⟩
abbrev mN52 : MethodName := ⟨"java/lang/String", "startsWith", "(Ljava/lang/String;)Z"⟩
abbrev mN53 : MethodName := ⟨cs0, "isOnPathTo", "(Ljava/lang/String;)Z"⟩
abbrev mN54 : MethodName := ⟨cs11, "nextSlot", "([II)I"⟩
abbrev mN55 : MethodName := ⟨cs14, "<init>", "([Ljava/lang/Object;Z)V"⟩
abbrev mN56 : MethodName := ⟨cs8, "listFromArray", cs9⟩
abbrev mN57 : MethodName := ⟨cs14, "size", "()I"⟩
abbrev mN58 : MethodName := ⟨cs14, "get", "(I)Ljava/lang/Object;"⟩
abbrev cB1 : ByteArray := jdk_42_method_139_code
abbrev cB2 : ByteArray := jdk_43_method_3_code
abbrev cB3 : ByteArray := jdk_43_method_46_code
abbrev cB4 : ByteArray := jdk_42_method_151_code
abbrev cB6 : ByteArray := prog_7_method_1_code
abbrev cB7 : ByteArray := jdk_30_method_1_code
abbrev cB8 : ByteArray := jdk_38_method_2_code
abbrev cB9 : ByteArray := jdk_39_method_1_code
abbrev cB10 : ByteArray := jdk_22_method_1_code
abbrev cB11 : ByteArray := jdk_38_method_25_code
abbrev cB12 : ByteArray := jdk_38_method_24_code
abbrev cB13 : ByteArray := jdk_38_method_7_code
abbrev cB14 : ByteArray := jdk_38_method_6_code
abbrev cB15 : ByteArray := jdk_29_method_65_code
abbrev cB16 : ByteArray := prog_2_method_1_code
abbrev cB17 : ByteArray := jdk_40_method_48_code
abbrev cB18 : ByteArray := jdk_56_method_3_code
abbrev cB19 : ByteArray := jdk_38_method_9_code
abbrev cB20 : ByteArray := jdk_38_method_16_code
abbrev cB21 : ByteArray := jdk_65_method_119_code
abbrev cB22 : ByteArray := jdk_65_method_120_code
abbrev cB23 : ByteArray := jdk_29_method_69_code
abbrev cB24 : ByteArray := jdk_40_method_47_code
abbrev cB25 : ByteArray := jdk_44_method_1_code
abbrev cB26 : ByteArray := jdk_46_method_1_code
abbrev cB27 : ByteArray := jdk_47_method_1_code
abbrev cB28 : ByteArray := jdk_31_method_10_code
abbrev cB29 : ByteArray := prog_2_method_12_code
abbrev cB30 : ByteArray := jdk_44_method_3_code
abbrev cB31 : ByteArray := jdk_44_method_5_code
abbrev cB32 : ByteArray := prog_7_method_9_code
abbrev cB33 : ByteArray := prog_2_method_9_code
abbrev cB34 : ByteArray := jdk_33_method_45_code
abbrev cB35 : ByteArray := jdk_33_method_47_code
abbrev cB36 : ByteArray := jdk_42_method_78_code
abbrev cB37 : ByteArray := jdk_42_method_154_code
abbrev cB38 : ByteArray := jdk_43_method_21_code
abbrev cB39 : ByteArray := prog_2_method_10_code
abbrev cB40 : ByteArray := prog_2_method_5_code
abbrev cB41 : ByteArray := jdk_42_method_66_code
abbrev cB42 : ByteArray := prog_7_method_10_code
abbrev cB43 : ByteArray := prog_7_method_11_code
abbrev cB54 : ByteArray := jdk_44_method_2_code
abbrev cB48 : ByteArray := prog_7_method_3_code
abbrev cB49 : ByteArray := jdk_42_method_76_code
abbrev cB50 : ByteArray := jdk_42_method_75_code
abbrev cB51 : ByteArray := jdk_42_method_54_code
abbrev cB52 : ByteArray := jdk_42_method_152_code
abbrev cB53 : ByteArray := jdk_48_method_14_code
abbrev cB55 : ByteArray := prog_2_method_11_code
abbrev cB44 : ByteArray := jdk_56_method_4_code
abbrev cB45 : ByteArray := jdk_45_method_1_code
abbrev cB46 : ByteArray := jdk_45_method_3_code
abbrev cB47 : ByteArray := jdk_45_method_4_code
abbrev lI (x : Int32) : Slot := .val (.int x)
abbrev lR (x : Addr) : Slot := .val (.ref x)
abbrev lV (x : Value) : Slot := .val x
abbrev lU : Slot := .unset
abbrev SG (p : Program) (e : Env) (below : List Frame) (T : State) (f : JFrame) (t : State) : Prop := Steps p.tables e below (T.setTop f) t
abbrev vI0 : Value := .int (0 : Int32)
abbrev vI1 : Value := .int (1 : Int32)
abbrev vI2 : Value := .int (2 : Int32)
abbrev vI3 : Value := .int (3 : Int32)
abbrev vI4 : Value := .int (4 : Int32)
abbrev vI7 : Value := .int (7 : Int32)
abbrev vI8 : Value := .int (8 : Int32)
abbrev vI10 : Value := .int (10 : Int32)
abbrev vI29 : Value := .int (29 : Int32)
abbrev vI30 : Value := .int (30 : Int32)
abbrev vI31 : Value := .int (31 : Int32)
abbrev vI255 : Value := .int (255 : Int32)
def own_at (l : List Value) (j : Nat) : Int32 := match l.getD j (.int 0) with
  | .int x => x
  | _ => 0
theorem own_atN {l : List Value} {j : Int32} {n : Nat} {x y : Int32} (h : j.toNatClampNeg = n) (e : l.getD n (.int 0) = .int x) (hn : ¬ x = y) : ¬ own_at l j.toNatClampNeg = y := by
  rw [h]; unfold own_at; rw [e]; exact hn
theorem own_eqr {args : Array Value} {Z : State} {a b : Term} {x : Addr} (hb : b.eval args Z none [] Z = some (.ref x)) (h : (Jvm.Cond.eq a b).value args Z none Z [] = some true) : a.eval args Z none [] Z = some (.ref x) := by
  obtain ⟨u, w, e1, e2, k1, k2⟩ := cmp_v (Or.inl h)
  cases hb.symm.trans e2
  have hu : u.isRef = true := by cases u <;> simp [Kin, Value.isRef] at k1 k2 ⊢
  have := gotT (eq_R e1 e2 hu rfl) h
  rw [e1, this]
theorem own_len {args : Array Value} {Z : State} {t : Term} {x : Addr} {cl : Cell} {ty : FieldType} {n : Int32} (h : (Jvm.Cond.eq (.length t) (.int n)).value args Z none Z [] = some true) (ht : t.eval args Z none [] Z = some (.ref x)) (A : Arr Z Z.heap x cl ty) : cl.slots.size < 2 ^ 31 ∧ cl.slots.size.toInt32 = n := by
  have e1 := eqv_i (y := n) rfl h
  have ha := Arr.fin (Vm.Alike.refl _) A
  have hl : cl.slots.size < 2 ^ 31 := by
    by_cases q : cl.slots.size < 2 ^ 31
    · exact q
    · simp [Term.eval, ht, ha, q] at e1
  rw [len_f ht ha hl] at e1
  exact ⟨hl, by simpa using e1⟩
theorem own_all {args : Array Value} {Z : State} {t : Term} {a : Addr} {c : Cell} {ty : FieldType} {K : String} {B : Jvm.Cond} (et : ∀ idx, t.eval args Z none idx Z = some (.ref a)) (A : Arr Z Z.heap a c ty)
    (h : (Jvm.Cond.all t (.and (.exactly (.elem t (.index 0)) K) B)).value args Z none Z [] = some true) : ∀ j : Int32, ¬ (j < 0 ∨ c.slots.size ≤ j.toNatClampNeg) → ∃ r : Addr, c.slots[j.toNatClampNeg]? = some (.ref r) := fun j hj => by
  have nn : ¬ j < 0 := fun x => hj (Or.inl x)
  obtain ⟨u1, -⟩ := and_e (Cond.all_elim (et []) (A.fin (Vm.Alike.refl _)) h j.toNatClampNeg (Nat.lt_of_not_le fun x => hj (Or.inr x)))
  obtain ⟨box, eb⟩ := exa_v u1
  exact ⟨box, (elem_f (et _) (idx_at nn) (A.fin (Vm.Alike.refl _)) nn).symm.trans eb⟩
theorem own_size {c : Cell} {n : Int32} {k : Nat} (h : c.slots.size < 2 ^ 31 ∧ c.slots.size.toInt32 = n) (hn : n.toNatClampNeg = k) : c.slots.size = k := by
  have e := len_toInt h.1
  rw [h.2] at e
  rw [← hn, Int32.toNatClampNeg, e]; rfl
theorem own_NSroot {Z : State} {a0 : Array Value} {O K : String} {n : Nat} (w : (Jvm.Cond.noSuperclass O).before a0 Z = true) (wk : (Jvm.Cond.instantiable K n).before a0 Z = true) (hn : O ≠ K) : NS Z O K := by
  obtain ⟨c, k, h1, h2, h3, -, -⟩ := Cond.noSuperclass_spec w
  obtain ⟨t, kt, g1, -⟩ := Cond.instantiable_spec wk
  have ne := ids_ne h1 g1 hn
  refine ⟨c, t, h1, g1, fun fuel => ?_⟩
  cases fuel with
  | zero => rfl
  | succ f => simp [Vm.isSubclassAux, ne, h2, h3]
theorem own_NSno {Z : State} {a0 : Array Value} {C S K : String} {n : Nat} (w : (Jvm.Cond.superclass C S).before a0 Z = true) (wk : (Jvm.Cond.instantiable K n).before a0 Z = true) (nn : NS Z C K) (hn : C ≠ K) : ∃ c t, Z.vm.findClass C = some c ∧ Z.vm.findClass K = some t ∧ Z.vm.assignable c t = false := by
  obtain ⟨c, t, h0, g0, n3⟩ := nn
  obtain ⟨p, k, kp, h1, h2, h3, h4, h5, -, h7⟩ := Cond.superclass_spec h0 w
  obtain ⟨t', kt, g1, g2, g3, g4, -⟩ := Cond.instantiable_spec wk
  cases g0.symm.trans g1
  have gi : kt.isInterface = false := by simp at g4; exact g4.1
  have ne := ids_ne h0 g0 hn
  refine ⟨c, _, h0, g0, ?_⟩
  show Z.vm.assignableAux (255 + 1) c _ = false
  simp [Vm.assignableAux, ne, h2, g2, h5, g3, gi, Vm.isSubclass, n3]
theorem own_NSrootS {Z : State} {a0 : Array Value} {O K C : String} {y0 y' : MethodName} (w : (Jvm.Cond.noSuperclass O).before a0 Z = true) (wk : (Jvm.Cond.selects C y0 y').before a0 Z = true) (hc : y'.cls = K) (hn : O ≠ K) : NS Z O K := by
  obtain ⟨c, k, h1, h2, h3, -, -⟩ := Cond.noSuperclass_spec w
  obtain ⟨c2, r2, m2, -, -, q3, -⟩ := Cond.selects_spec wk
  have g1 := findClass_of_methodNamed q3
  rw [hc] at g1
  have ne := ids_ne h1 g1 hn
  refine ⟨c, _, h1, g1, fun fuel => ?_⟩
  cases fuel with
  | zero => rfl
  | succ f => simp [Vm.isSubclassAux, ne, h2, h3]
theorem own_NSnoS {Z : State} {a0 : Array Value} {C S K C' : String} {y0 y' : MethodName} (w : (Jvm.Cond.superclass C S).before a0 Z = true) (wk : (Jvm.Cond.selects C' y0 y').before a0 Z = true) (hc : y'.cls = K) (nn : NS Z C K) (hn : C ≠ K) : ∃ c t, Z.vm.findClass C = some c ∧ Z.vm.findClass K = some t ∧ Z.vm.assignable c t = false := by
  obtain ⟨c, t, h0, g0, n3⟩ := nn
  obtain ⟨p, k, kp, h1, h2, h3, h4, h5, -, h7⟩ := Cond.superclass_spec h0 w
  obtain ⟨c2, r2, m2, -, -, q3, -, kt, g2, gi⟩ := Cond.selects_spec wk
  have g1 := findClass_of_methodNamed q3
  rw [hc] at g1
  cases g0.symm.trans g1
  have ne := ids_ne h0 g0 hn
  refine ⟨c, _, h0, g0, ?_⟩
  show Z.vm.assignableAux (255 + 1) c _ = false
  have ne' : (c == m2.cls) = false := by simpa using ne
  rw [Vm.assignableAux]
  simp only [h2, g2, h5, gi, ne']
  cases hk : kt.kind <;> simp [Vm.isSubclass, n3]
def own_Mir (Z : State) (C : String) (mr : Addr) : Prop := ∃ (c : ClassId) (k : Class), Z.vm.findClass C = some c ∧ Z.vm.classes[c]? = some k ∧ k.mirror = some mr
section OwnMir
variable {p : Program} {l : Launch} {e : Env} {R : Room} {s : State} {m : MethodId} {args : Array Value} {below : List Frame} {meth : Method} {c : Code} {T : State} {locs : List Loc} {cells slots : Nat} {Z : State} {a0 : Array Value} {h : Heap}
theorem own_gcls (X : Stand p l e R s m args below meth c T locs cells slots) (hx : p.tables.exec = Jvm.exec) (hZ : Z.Warmed39 s.vm) {own C : String} {index : Nat} {a : Addr} (hown : s.vm.findClass own = some m.cls)
    (w1 : (Jvm.Cond.methodLink own index ⟨"java/lang/Object", "getClass", "()Ljava/lang/Class;"⟩).before a0 Z = true) (w2 : (Jvm.Cond.declares ⟨"java/lang/Object", "getClass", "()Ljava/lang/Class;"⟩).before a0 Z = true) (w3 : (Jvm.Cond.noSuperclass "java/lang/Object").before a0 Z = true) (w4 : (Jvm.Cond.selects C ⟨"java/lang/Object", "getClass", "()Ljava/lang/Class;"⟩ ⟨"java/lang/Object", "getClass", "()Ljava/lang/Class;"⟩).before a0 Z = true)
    (w5 : (Jvm.Cond.instanceMethod ⟨"java/lang/Object", "getClass", "()Ljava/lang/Class;"⟩).before a0 Z = true) (w6 : (Jvm.Cond.native ⟨"java/lang/Object", "getClass", "()Ljava/lang/Class;"⟩).before a0 Z = true) (eT : T.heap = h) (E : Exa Z h a C) {mr : Addr} (M : own_Mir Z C mr)
    {g : JFrame} (hg : g.method = m) (hsize : g.locals.size = c.maxLocals) {rest : List Value} (hs : g.stack = .ref a :: rest) (hd : decode c.code g.pc = .ok (.invokevirtual index, 3)) (hf : 1 ≤ R.frames) {W : Nat} (hW : 2 * g.monitorRoom + (rest.map fun v => v.category).sum ≤ W) (hl : W + (nativeFrameWords "java/lang/Object" "getClass" 1 + 11) ≤ R.locals) :
    ∃ T', Stand p l e R s m args below meth c T' locs cells slots ∧ T'.heap = h ∧ ∀ target, Steps p.tables e below (T'.setTop { g with pc := g.pc + 3, stack := .ref mr :: rest }) target → Steps p.tables e below (T.setTop g) target := by
  obtain ⟨cB, kB, i1, i2, i3⟩ := isOf hZ eT E
  obtain ⟨cc, kc, m1, m2, m3⟩ := M
  rw [hZ.alike.findClass] at i1
  cases i1.symm.trans m1
  obtain ⟨k', q, ek⟩ := hZ.alike.2.2 _ _ m2
  obtain ⟨vm', X', st⟩ := X.getClassOf hx hown (mvT hZ w1) (mvT hZ w2) (nf_top (args := #[]) (mvT hZ w3)) (mvT hZ w4) (mvT hZ w5) (mvT hZ w6) (by rw [hZ.alike.findClass]; exact m1) i3 q (by rw [ek]; exact m3) hg hsize hs hd hf (by omega)
  exact ⟨_, X', eT, st⟩
theorem own_ldcM (X : Stand p l e R s m args below meth c T locs cells slots) (hx : p.tables.exec = Jvm.exec) (hZ : Z.Warmed39 s.vm) {own C : String} {index : Nat} (hown : s.vm.findClass own = some m.cls) (w : (Jvm.Cond.classLink own index C).before a0 Z = true) (eT : T.heap = h) {mr : Addr} (M : own_Mir Z C mr)
    {g : JFrame} (hg : g.method = m) (hd : decode c.code g.pc = .ok (.ldc index, 2)) :
    ∃ T', Stand p l e R s m args below meth c T' locs cells slots ∧ T'.heap = h ∧ ∀ target, Steps p.tables e below (T'.setTop { g with pc := g.pc + 2, stack := .ref mr :: g.stack }) target → Steps p.tables e below (T.setTop g) target := by
  obtain ⟨cc, kc, m1, m2, m3⟩ := M
  obtain ⟨k', q, ek⟩ := hZ.alike.2.2 _ _ m2
  have hf : s.vm.findClass C = some cc := by rw [hZ.alike.findClass]; exact m1
  have hm : k'.mirror = some mr := by rw [ek]; exact m3
  obtain ⟨vm', X', st⟩ := X.ldcMirror hx (C := C) (a := mr) hown (mvT hZ w) (by simp [Term.eval, hf, q, hm]) hg hd
  exact ⟨_, X', eT, st⟩
end OwnMir
theorem own_mvMN {Z s : State} {a0 args : Array Value} {own host : String} {y : MethodName} {index : Nat} (hZ : Z.Warmed39 s.vm) (w : (Jvm.Cond.methodLinkNest own index y host).before a0 Z = true) : (Jvm.Cond.methodLinkNest own index y host).before args s = true := (Cond.methodLinkNest_wide hZ w :)
theorem own_and255 (x : Int32) : ∃ k : Nat, k < 256 ∧ x &&& (255 : Int32) = Int32.ofNat k := by
  have h : (x &&& 255).toInt = (x.toBitVec &&& 255#32).toInt := rfl
  have h2 : (x.toBitVec &&& 255#32).toNat = x.toBitVec.toNat % 256 := by rw [BitVec.toNat_and]; exact Nat.and_two_pow_sub_one_eq_mod x.toBitVec.toNat 8
  have h3 := Nat.mod_lt x.toBitVec.toNat (show 0 < 256 by decide)
  have h4 : (x.toBitVec &&& 255#32).toInt = ((x.toBitVec &&& 255#32).toNat : Int) := BitVec.toInt_eq_toNat_of_lt (by omega)
  refine ⟨x.toBitVec.toNat % 256, h3, ?_⟩
  apply Int32.toInt_inj.mp
  rw [h, h4, h2, Int32.toInt_ofNat_small (by omega)]
theorem own_andmax (x : Int32) : 0 ≤ (x &&& (2147483647 : Int32)).toInt := by
  have h : (x &&& 2147483647).toInt = (x.toBitVec &&& 2147483647#32).toInt := rfl
  have h2 : (x.toBitVec &&& 2147483647#32).toNat = x.toBitVec.toNat % 2147483648 := by rw [BitVec.toNat_and]; exact Nat.and_two_pow_sub_one_eq_mod x.toBitVec.toNat 31
  have h3 := Nat.mod_lt x.toBitVec.toNat (show 0 < 2147483648 by decide)
  have h4 : (x.toBitVec &&& 2147483647#32).toInt = ((x.toBitVec &&& 2147483647#32).toNat : Int) := BitVec.toInt_eq_toNat_of_lt (by omega)
  rw [h, h4]; omega
theorem own_ush (y : Int32) (n : UInt32) (hn : n.toNat < 32) (h1 : 1 ≤ n.toNat) : ∃ k : Nat, k < 2 ^ (32 - n.toNat) ∧ ((y.toUInt32 >>> n).toInt32) = Int32.ofNat k := by
  have h := y.toUInt32.toNat_lt
  have hz : (y.toUInt32 >>> n).toNat = y.toUInt32.toNat / 2 ^ n.toNat := by rw [UInt32.toNat_shiftRight, Nat.mod_eq_of_lt hn, Nat.shiftRight_eq_div_pow]
  have hlt : y.toUInt32.toNat / 2 ^ n.toNat < 2 ^ (32 - n.toNat) := by
    rw [Nat.div_lt_iff_lt_mul (Nat.two_pow_pos _), ← Nat.pow_add]
    have : 32 - n.toNat + n.toNat = 32 := by omega
    rw [this]; exact h
  refine ⟨_, hlt, ?_⟩
  apply Int32.toInt_inj.mp
  have h31 : y.toUInt32.toNat / 2 ^ n.toNat < 2 ^ 31 := Nat.lt_of_lt_of_le hlt (Nat.pow_le_pow_right (by decide) (by omega))
  rw [Int32.toInt_ofNat_small h31, ← hz]
  show (y.toUInt32 >>> n).toBitVec.toInt = _
  exact BitVec.toInt_eq_toNat_of_lt (by show 2 * (y.toUInt32 >>> n).toNat < _; rw [hz]; omega)
theorem own_us29 (y : Int32) : ∃ k : Nat, k < 8 ∧ ((y.toUInt32 >>> ((29 : Int32) &&& 31).toUInt32).toInt32) = Int32.ofNat k := by
  obtain ⟨k, hk, e⟩ := own_ush y ((29 : Int32) &&& 31).toUInt32 (by decide) (by decide)
  exact ⟨k, Nat.lt_of_lt_of_le hk (by decide), e⟩
theorem own_us30 (y : Int32) : ∃ k : Nat, k < 4 ∧ ((y.toUInt32 >>> ((30 : Int32) &&& 31).toUInt32).toInt32) = Int32.ofNat k := by
  obtain ⟨k, hk, e⟩ := own_ush y ((30 : Int32) &&& 31).toUInt32 (by decide) (by decide)
  exact ⟨k, Nat.lt_of_lt_of_le hk (by decide), e⟩
theorem own_us31 (y : Int32) : ∃ k : Nat, k < 2 ∧ ((y.toUInt32 >>> ((31 : Int32) &&& 31).toUInt32).toInt32) = Int32.ofNat k := by
  obtain ⟨k, hk, e⟩ := own_ush y ((31 : Int32) &&& 31).toUInt32 (by decide) (by decide)
  exact ⟨k, Nat.lt_of_lt_of_le hk (by decide), e⟩
theorem own_itek {P : Prop} [Decidable P] {a b : Int32} {n : Nat} (ha : ∃ k : Nat, k < n ∧ a = Int32.ofNat k) (hb : ∃ k : Nat, k < n ∧ b = Int32.ofNat k) : ∃ k : Nat, k < n ∧ (if P then a else b) = Int32.ofNat k := by
  split
  · exact ha
  · exact hb
theorem own_nxa8 : ∀ k : Nat, k < 8 → ((Int32.ofNat k + (1 : Int32)) &&& (7 : Int32)) = Int32.ofNat ((k + 1) % 8) := by decide +kernel
theorem own_nxa4 : ∀ k : Nat, k < 4 → ((Int32.ofNat k + (1 : Int32)) &&& (3 : Int32)) = Int32.ofNat ((k + 1) % 4) := by decide +kernel
theorem own_nx8 (k : Nat) (hk : k < 8) : ∃ j : Nat, j < 8 ∧ ((Int32.ofNat k + (1 : Int32)) &&& (7 : Int32)) = Int32.ofNat j := ⟨_, Nat.mod_lt _ (by decide), own_nxa8 k hk⟩
theorem own_nx4 (k : Nat) (hk : k < 4) : ∃ j : Nat, j < 4 ∧ ((Int32.ofNat k + (1 : Int32)) &&& (3 : Int32)) = Int32.ofNat j := ⟨_, Nat.mod_lt _ (by decide), own_nxa4 k hk⟩
theorem own_c256 : ∀ k : Nat, k < 256 → ¬ ((255 : Int32) < ((Int32.ofNat k).toUInt32.toUInt16.toUInt32.toInt32)) := by decide +kernel
theorem own_c255 (x : Int32) : ¬ ((255 : Int32) < ((x &&& (255 : Int32)).toUInt32.toUInt16.toUInt32.toInt32)) := by
  obtain ⟨k, hk, e⟩ := own_and255 x
  rw [e]; exact own_c256 k hk
theorem own_and3n (x : Int32) : ∃ k : Nat, k < 4 ∧ x &&& (3 : Int32) = Int32.ofNat k := by
  have h : (x &&& 3).toInt = (x.toBitVec &&& 3#32).toInt := rfl
  have h2 : (x.toBitVec &&& 3#32).toNat = x.toBitVec.toNat % 4 := by rw [BitVec.toNat_and]; exact Nat.and_two_pow_sub_one_eq_mod x.toBitVec.toNat 2
  have h3 := Nat.mod_lt x.toBitVec.toNat (show 0 < 4 by decide)
  have h4 : (x.toBitVec &&& 3#32).toInt = ((x.toBitVec &&& 3#32).toNat : Int) := BitVec.toInt_eq_toNat_of_lt (by omega)
  refine ⟨x.toBitVec.toNat % 4, h3, ?_⟩
  apply Int32.toInt_inj.mp
  rw [h, h4, h2, Int32.toInt_ofNat_small (by omega)]
theorem own_m3 : ∀ k : Nat, k < 4 → Int32.ofNat k % (3 : Int32) = 0 ∨ Int32.ofNat k % (3 : Int32) = 1 ∨ Int32.ofNat k % (3 : Int32) = 2 := by decide +kernel

theorem d1_0 : DK cB1 0 (.getstatic 38) 3 := by decide +kernel
theorem d1_3 : DK cB1 3 (.ifCond .eq 23) 3 := by decide +kernel
theorem d1_6 : DK cB1 6 (.iload_n 0) 1 := by decide +kernel
theorem d1_7 : DK cB1 7 (.invokestatic 1015) 3 := by decide +kernel
theorem d2_0 : DK cB2 0 (.iload_n 0) 1 := by decide +kernel
theorem d2_1 : DK cB2 1 (.sipush 255) 3 := by decide +kernel
theorem d2_4 : DK cB2 4 (.if_icmp .gt 7) 3 := by decide +kernel
theorem d2_7 : DK cB2 7 (.iconst 1) 1 := by decide +kernel
theorem d2_8 : DK cB2 8 (.goto 4) 3 := by decide +kernel
theorem d2_12 : DK cB2 12 (.ireturn) 1 := by decide +kernel
theorem pn_java_lang_StringLatin1 : plainName "java/lang/StringLatin1" = true := by first | (simp [plainName, overriddenIn]; done) | decide +kernel
def Q2_1 (Z : State)  (h0 : Heap) (n0 : Nat) (v : Option Value) (h : Heap) (L : List Loc) : Prop := v = some vI1 ∧ Fr n0 L ∧ h = h0
theorem rm2_1 (l : Launch) (Z : State) (a0 : Array Value) (hw : own_HW a0 Z) (ws : List Jvm.Cond) (x0 : Int32) (h0 : Heap) (n0 : Nat) (O0 : Old Z n0 h0) (hc1 : ¬ ((255 : Int32) < x0)) :
    own_MF l mN0 jdk_43_method_3_code 1 (some .boolean) ws rR0_0_0_0 Z h0 #[(.int x0)] (Q2_1 Z  h0 n0) := by
  refine own_open (plainFor_of_name pn_java_lang_StringLatin1) (L0 := #[lI x0]) (fun _ => by first | (simp [entryFrame, mkF, argsToLocals, Value.category]; done) | rfl) ?_
  intro p e s m below meth c s₁ hx hby hml hret hnn hZ hown X0 e0
  have N0 := Fr.nil n0
  refine ⟨some vI1, _, _, _, _, nofun, X0, by decide, by decide, ?_, fun fs hr => ?_⟩
  · rw [e0]; exact ⟨rfl, N0, rfl⟩
  · show SG p e below s₁ (mkF m 0 #[lI x0] []) _
    refine qiN X0 hx hby d2_0 ?_
    refine XS.sipush X0.here hx rfl (hb hby d2_1) ?_
    refine XS.icmpNo X0.here hx rfl (hb hby d2_4) rfl (flt hc1).2.2.1 ?_
    refine qc X0 hx hby d2_7 ?_
    refine XS.goto X0.here hx rfl (pc0 := 8) (pc' := 12) rfl (hb hby d2_8) (by decide) (by decide) ?_
    exact retN X0 hx (t := .boolean) hret (by simp) (hb hby d2_12) hr
theorem pd__C_Z : parseMethodDescriptor "(C)Z" = some ⟨[.char], some .boolean⟩ := by decide +kernel
theorem d1_10 : DK cB1 10 (.ifCond .eq 16) 3 := by decide +kernel
theorem d1_13 : DK cB1 13 (.new 10) 3 := by decide +kernel
theorem d1_16 : DK cB1 16 (.dup) 1 := by decide +kernel
theorem d1_17 : DK cB1 17 (.iload_n 0) 1 := by decide +kernel
theorem d1_18 : DK cB1 18 (.invokestatic 1018) 3 := by decide +kernel
theorem d3_0 : DK cB3 0 (.iconst 1) 1 := by decide +kernel
theorem d3_1 : DK cB3 1 (.newarray .byte) 2 := by decide +kernel
theorem d3_3 : DK cB3 3 (.dup) 1 := by decide +kernel
theorem d3_4 : DK cB3 4 (.iconst 0) 1 := by decide +kernel
theorem d3_5 : DK cB3 5 (.iload_n 0) 1 := by decide +kernel
theorem d3_6 : DK cB3 6 (.i2b) 1 := by decide +kernel
theorem d3_7 : DK cB3 7 (.bastore) 1 := by decide +kernel
theorem d3_8 : DK cB3 8 (.areturn) 1 := by decide +kernel
def Q3_1 (Z : State) (x0 : Int32) (h0 : Heap) (n0 : Nat) (v : Option Value) (h : Heap) (L : List Loc) : Prop := ∃ (b1 : Addr) (k1 : ClassId), v = some (.ref b1) ∧ Fr n0 L ∧ Keep h0 h [] ∧ h0.size ≤ b1 ∧ Arv Z h b1 k1 .byte (1 : Int32) [(.int ((x0.toInt8.toInt32).toInt8.toInt32))] vI0 ∧ Exa Z h b1 "[B"
theorem rm3_1 (l : Launch) (Z : State) (a0 : Array Value) (hw : own_HW a0 Z) (ws : List Jvm.Cond) (x0 : Int32) (h0 : Heap) (n0 : Nat) (O0 : Old Z n0 h0) :
    own_MF l mN1 jdk_43_method_46_code 1 (some (.array .byte)) ws rR0_1_1_0 Z h0 #[(.int x0)] (Q3_1 Z x0 h0 n0) := by
  refine own_open (plainFor_of_name pn_java_lang_StringLatin1) (L0 := #[lI x0]) (fun _ => by first | (simp [entryFrame, mkF, argsToLocals, Value.category]; done) | rfl) ?_
  intro p e s m below meth c s₁ hx hby hml hret hnn hZ hown X0 e0
  have N0 := Fr.nil n0
  obtain ⟨T1, h1, k1, X1, e1, E1, A1, B1, st1⟩ := newPE X0 hx hZ (ww hw 14 rfl) e0 (g := (mkF m 1 #[lI x0] [vI1])) rfl (hb hby d3_1) rfl (by decide) (cap := 1) (by decide) (by decide) (by decide) (by decide) (ad := "[B") rfl
  obtain ⟨b1, g1⟩ : ∃ z, z = h0.size := ⟨_, rfl⟩
  rw [← g1] at A1 B1 st1
  have V1 : Arv Z h1 b1 k1 .byte (1 : Int32) [vI0] vI0 := (Arv.new A1 (by decide)).pad (pad_rep [] vI0 1)
  obtain ⟨clq2, Arq2, qq2, Sq2, Nq2, Hq2, Gq2⟩ := id V1
  have zz3 : n0 ≤ h0.size := by rw [← O0.1]; exact O0.2.1
  have g4 := Nat.le_trans zz3 (Nat.le_of_eq g1.symm)
  obtain ⟨T5, h5, X5, e5, W5, st5⟩ := stB X1 hx hZ e1 Arq2 (j := (0 : Int32)) (inb_of Sq2 ⟨(by decide : ¬ ((0 : Int32) < (0 : Int32))), (by decide : (0 : Int32) < (1 : Int32))⟩) (g := (mkF m 7 #[lI x0] [(.int (x0.toInt8.toInt32)), vI0, (.ref b1), (.ref b1)])) rfl rfl (hb hby d3_7)
  have V5 : Arv Z h5 b1 k1 .byte (1 : Int32) [(.int ((x0.toInt8.toInt32).toInt8.toInt32))] vI0 := Arv.set Arq2 qq2 Sq2 Nq2 Hq2 Gq2 (fits_nar_byte _) W5 0 rfl (Nat.le_of_ble_eq_true rfl)
  have N5 := Fr.snoc X5 N0 g4
  have f6 := (B1.wr W5)
  have kp7 : Keep h0 h1 [] := (Keep.refl h0 []).ext E1
  have kp8 : Keep h0 h5 [] := kp7.wr W5 (Or.inr (Nat.le_of_eq g1.symm))
  refine ⟨some (.ref b1), _, _, _, _, nofun, X5, by decide, by decide, ?_, fun fs hr => ?_⟩
  · rw [e5]; exact ⟨b1, k1, rfl, N5, kp8, (Nat.le_of_eq g1.symm), V5, f6⟩
  · show SG p e below s₁ (mkF m 0 #[lI x0] []) _
    refine qc X0 hx hby d3_0 ?_
    refine st1 _ ?_
    refine qd X1 hx hby d3_3 ?_
    refine qc X1 hx hby d3_4 ?_
    refine qiN X1 hx hby d3_5 ?_
    refine XS.i2b X1.here hx rfl (hb hby d3_6) rfl ?_
    refine st5 _ ?_
    exact retOut X5 hx (i := .areturn) hret rfl (Or.inr (Or.inr (Or.inr (Or.inr ⟨rfl, rfl, rfl⟩)))) (hb hby d3_8) hr
theorem pd__C__B : parseMethodDescriptor "(C)[B" = some ⟨[.char], some (.array .byte)⟩ := by decide +kernel
theorem d1_21 : DK cB1 21 (.iconst 0) 1 := by decide +kernel
theorem d1_22 : DK cB1 22 (.invokespecial 209) 3 := by decide +kernel
theorem d4_0 : DK cB4 0 (.aload_n 0) 1 := by decide +kernel
theorem d4_1 : DK cB4 1 (.invokespecial 1) 3 := by decide +kernel
theorem d4_4 : DK cB4 4 (.aload_n 0) 1 := by decide +kernel
theorem d4_5 : DK cB4 5 (.aload_n 1) 1 := by decide +kernel
theorem d4_6 : DK cB4 6 (.putfield 9) 3 := by decide +kernel
theorem d4_9 : DK cB4 9 (.aload_n 0) 1 := by decide +kernel
theorem d4_10 : DK cB4 10 (.iload_n 2) 1 := by decide +kernel
theorem d4_11 : DK cB4 11 (.putfield 15) 3 := by decide +kernel
theorem d4_14 : DK cB4 14 (.return_) 1 := by decide +kernel
theorem pn_java_lang_String : plainName "java/lang/String" = true := by first | (simp [plainName, overriddenIn]; done) | decide +kernel
def Q4_1 (Z : State) (r0 r1 : Addr) (h0 : Heap) (n0 : Nat) (v : Option Value) (h : Heap) (L : List Loc) : Prop := v = none ∧ Fr n0 L ∧ Keep h0 h [r0] ∧ Fld Z h r0 "java/lang/String" "value" "[B" (.ref r1) ∧ Fld Z h r0 "java/lang/String" "coder" "B" vI0 ∧ Fld Z h r0 "java/lang/String" "hash" "I" vI0 ∧ Fld Z h r0 "java/lang/String" "hashIsZero" "Z" vI0
theorem rm4_1 (l : Launch) (Z : State) (a0 : Array Value) (hw : own_HW a0 Z) (ws : List Jvm.Cond) (r0 r1 : Addr) (h0 : Heap) (n0 : Nat) (O0 : Old Z n0 h0) (f2 : Exa Z h0 r0 "java/lang/String") (f3 : Fld Z h0 r0 "java/lang/String" "value" "[B" .null) (g4 : n0 ≤ r0) (f7 : Fld Z h0 r0 "java/lang/String" "coder" "B" vI0) (f10 : Fld Z h0 r0 "java/lang/String" "hash" "I" vI0) (f12 : Fld Z h0 r0 "java/lang/String" "hashIsZero" "Z" vI0) :
    own_MF l mN2 jdk_42_method_151_code 3 none ws rR1_0_0_12 Z h0 #[(.ref r0), (.ref r1), vI0] (Q4_1 Z r0 r1 h0 n0) := by
  refine own_open (plainFor_of_name pn_java_lang_String) (L0 := #[lR r0, lR r1, lV vI0]) (fun _ => by first | (simp [entryFrame, mkF, argsToLocals, Value.category]; done) | rfl) ?_
  intro p e s m below meth c s₁ hx hby hml hret hnn hZ hown X0 e0
  have N0 := Fr.nil n0; have w := @ww Z a0 hw
  have hnm := (name_of_methodNamed hnn.1 hnn.2).1
  obtain ⟨T1, X1, e1, st1⟩ := initO X0 hx hZ hown (w 19 rfl) (w 20 rfl) (w 21 rfl) e0 (g := (mkF m 1 #[lR r0, lR r1, lV vI0] [(.ref r0)])) rfl (by rw [hml]; rfl) rfl (hb hby d4_1) (by decide) (W := 0) (own_W rfl) (by decide)
  obtain ⟨T5, h5, X5, e5, W5, st5⟩ := putF X1 hx hZ hown (host := "") (Or.inl (w 22 rfl)) Via.refl e1 f3 f2 (Or.inr ⟨(w 23 rfl), rfl, hnm⟩) (w 10 rfl) (ty := (.array .byte)) (by decide) rfl rfl (g := (mkF m 6 #[lR r0, lR r1, lV vI0] [(.ref r1), (.ref r0)])) rfl rfl (hb hby d4_6)
  have Fw5 := f3.same W5
  have N5 := Fr.snoc X5 N0 g4
  have f6 := (f2.wr W5)
  have f8 := (f7.other W5 (Or.inr (slot_ne (Or.inr (w 25 rfl)) (Or.inr (w 23 rfl)) (by decide) (t := .byte) (t' := (.array .byte)) (by decide) (by decide))))
  obtain ⟨T9, h9, X9, e9, W9, st9⟩ := putFN X5 hx hZ hown (w 24 rfl) Via.refl e5 f8 f6 (Or.inr ⟨(w 25 rfl), rfl, hnm⟩) (w 10 rfl) (ty := .byte) (v' := vI0) (by decide) rfl (by decide) (g := (mkF m 11 #[lR r0, lR r1, lV vI0] [vI0, (.ref r0)])) rfl rfl (hb hby d4_11)
  have Fw9 := f8.same W9
  have N9 := Fr.snoc X9 N5 g4
  have f11 := ((f10.other W5 (Or.inr (slot_ne (Or.inl (w 250 rfl)) (Or.inr (w 23 rfl)) (by decide) (t := .int) (t' := (.array .byte)) (by decide) (by decide)))).other W9 (Or.inr (slot_ne (Or.inl (w 250 rfl)) (Or.inr (w 25 rfl)) (by decide) (t := .int) (t' := .byte) (by decide) (by decide))))
  have f13 := ((f12.other W5 (Or.inr (slot_ne (Or.inl (w 252 rfl)) (Or.inr (w 23 rfl)) (by decide) (t := .boolean) (t' := (.array .byte)) (by decide) (by decide)))).other W9 (Or.inr (slot_ne (Or.inl (w 252 rfl)) (Or.inr (w 25 rfl)) (by decide) (t := .boolean) (t' := .byte) (by decide) (by decide))))
  have f14 := (Fw5.other W9 (Or.inr (slot_ne (Or.inr (w 23 rfl)) (Or.inr (w 25 rfl)) (by decide) (t := (.array .byte)) (t' := .byte) (by decide) (by decide))))
  have kp15 : Keep h0 h5 [r0] := (Keep.refl h0 [r0]).wr W5 (Or.inl (List.mem_of_getElem? (i := 0) rfl))
  have kp16 : Keep h0 h9 [r0] := kp15.wr W9 (Or.inl (List.mem_of_getElem? (i := 0) rfl))
  refine ⟨none, _, _, _, _, (fun _ => rfl), X9, by decide, by decide, ?_, fun fs hr => ?_⟩
  · rw [e9]; exact ⟨rfl, N9, kp16, f14, Fw9, f11, f13⟩
  · show SG p e below s₁ (mkF m 0 #[lR r0, lR r1, lV vI0] []) _
    refine qaN X0 hx hby d4_0 ?_
    refine st1 _ ?_
    refine qaN X1 hx hby d4_4 ?_
    refine qaN X1 hx hby d4_5 ?_
    refine st5 _ ?_
    refine qaN X5 hx hby d4_9 ?_
    refine qiN X5 hx hby d4_10 ?_
    refine st9 _ ?_
    exact X9.returnOut hx hret (hb hby d4_14) hr
theorem pd___BB_V : parseMethodDescriptor "([BB)V" = some ⟨[(.array .byte), .byte], none⟩ := by decide +kernel
theorem d1_25 : DK cB1 25 (.areturn) 1 := by decide +kernel
def Q1_1 (Z : State) (x0 : Int32) (h0 : Heap) (n0 : Nat) (v : Option Value) (h : Heap) (L : List Loc) : Prop := ∃ (b7 b13_0 : Addr) (k13_0 : ClassId), v = some (.ref b7) ∧ Fr n0 L ∧ Keep h0 h [] ∧ h0.size ≤ b7 ∧ Exa Z h b7 "java/lang/String" ∧ Fld Z h b7 "java/lang/String" "value" "[B" (.ref b13_0) ∧ Fld Z h b7 "java/lang/String" "coder" "B" vI0 ∧ Fld Z h b7 "java/lang/String" "hash" "I" vI0 ∧ Fld Z h b7 "java/lang/String" "hashIsZero" "Z" vI0 ∧ h0.size ≤ b13_0 ∧ Arv Z h b13_0 k13_0 .byte (1 : Int32) [(.int ((x0.toInt8.toInt32).toInt8.toInt32))] vI0 ∧ Exa Z h b13_0 "[B" ∧ b7 ≠ b13_0
theorem rm1_1 (l : Launch) (Z : State) (a0 : Array Value) (hw : own_HW a0 Z) (ws : List Jvm.Cond) (x0 x1 : Int32) (h0 : Heap) (n0 : Nat) (O0 : Old Z n0 h0) (f1 : Sta Z Z.heap "java/lang/String" "COMPACT_STRINGS" "Z" (.int x1)) (hc4 : ¬ (x1 = (0 : Int32))) (hc5 : ¬ ((255 : Int32) < x0)) :
    own_MF l mN3 jdk_42_method_139_code 1 (some (.object "java/lang/String")) ws rR2_2_5_27 Z h0 #[(.int x0)] (Q1_1 Z x0 h0 n0) := by
  refine own_open (plainFor_of_name pn_java_lang_String) (L0 := #[lI x0]) (fun _ => by first | (simp [entryFrame, mkF, argsToLocals, Value.category]; done) | rfl) ?_
  intro p e s m below meth c s₁ hx hby hml hret hnn hZ hown X0 e0
  have N0 := Fr.nil n0; have w := @ww Z a0 hw
  have f2 := f1.ext O0.2
  obtain ⟨T3, X3, e3, st3⟩ := getS2 X0 hx hZ hown (host := "") (Or.inl (w 4 rfl)) Via.refl e0 f2 (g := (mkF m 0 #[lI x0] [])) rfl (hb hby d1_0)
  obtain ⟨_, T6, Lc6, X6, hQ6, st6⟩ := own_cS X3 hx hZ hown e3 (rm2_1 l Z a0 hw [] x0 h0 n0 O0 hc5) (w 5 rfl) (w 6 rfl) (w 7 rfl) (w 8 rfl) (by decide) (W := 0) (by decide) (by decide) (by decide) (by decide) (g := (mkF m 7 #[lI x0] [(.int x0)])) rfl (by rw [hml]; rfl) (argsL := [(.int x0)]) (rest := []) (lenOf pd__C_Z rfl) rfl (own_W rfl) (hb hby d1_7)
  obtain ⟨rfl, N6q, E6⟩ := hQ6
  have N6 := Fr.app N0 N6q
  obtain ⟨T7, h7, X7, e7, E7, A7, D7, -, st7⟩ := newO X6 hx hZ hown (w 9 rfl) (w 10 rfl) (w 2 rfl) E6 (g := (mkF m 13 #[lI x0] [])) rfl (hb hby d1_13) (by decide) (by decide)
  obtain ⟨b7, g7⟩ : ∃ z, z = h0.size := ⟨_, rfl⟩
  rw [← g7] at A7 D7 st7
  have f8 : Fld Z h7 b7 "java/lang/String" "value" "[B" .null := D7 (Or.inr (w 23 rfl)) (ty := (.array .byte)) (by decide)
  have f9 : Fld Z h7 b7 "java/lang/String" "coder" "B" vI0 := D7 (Or.inr (w 25 rfl)) (ty := .byte) (by decide)
  have f10 : Fld Z h7 b7 "java/lang/String" "hash" "I" vI0 := D7 (Or.inl (w 250 rfl)) (ty := .int) (by decide)
  have f11 : Fld Z h7 b7 "java/lang/String" "hashIsZero" "Z" vI0 := D7 (Or.inl (w 252 rfl)) (ty := .boolean) (by decide)
  have o12 := Old.ext O0 E7
  obtain ⟨_, T13, Lc13, X13, hQ13, st13⟩ := own_cS X7 hx hZ hown e7 (rm3_1 l Z a0 hw [] x0 h7 n0 o12) (w 11 rfl) (w 12 rfl) (w 7 rfl) (w 13 rfl) (by decide) (W := 2) (by decide) (by decide) (by decide) (by decide) (g := (mkF m 18 #[lI x0] [(.int x0), (.ref b7), (.ref b7)])) rfl (by rw [hml]; rfl) (argsL := [(.int x0)]) (rest := [(.ref b7), (.ref b7)]) (lenOf pd__C__B rfl) rfl (own_W rfl) (hb hby d1_18)
  obtain ⟨b13_0, k13_0, rfl, N13q, K13, f14, f15, f16⟩ := hQ13
  have N13 := Fr.app N6 N13q
  have f17 := (A7.keep K13)
  have f18 := (f8.keep K13 nin0)
  have zz19 : n0 ≤ h0.size := by rw [← O0.1]; exact O0.2.1
  have g20 := Nat.le_trans zz19 (Nat.le_of_eq g7.symm)
  have f21 := (f9.keep K13 nin0)
  have f22 := (f10.keep K13 nin0)
  have f23 := (f11.keep K13 nin0)
  have o24 := Old.keep o12 K13 all0
  obtain ⟨_, T25, Lc25, X25, hQ25, st25⟩ := own_fin (X13.specialBack hx (y := mN2) rfl hown (mvT hZ (w 15 rfl)) (mvT hZ (w 16 rfl)) (mvT hZ (w 18 rfl)) (by decide) (backOf (W := 1) (rm4_1 l Z a0 hw [] b7 b13_0 T13.heap n0 o24 f17 f18 g20 f21 f22 f23) hZ (w 18 rfl) (w 2 rfl) (by decide) (by decide)) (g := (mkF m 22 #[lI x0] [vI0, (.ref b13_0), (.ref b7), (.ref b7)])) rfl (by rw [hml]; rfl) (Steps.refl _) (a := b7) (argsL := [(.ref b13_0), vI0]) (rest := [(.ref b7)]) (lenOf pd___BB_V rfl) rfl (own_W rfl) (hb hby d1_22) (fun _ _ => ⟨rfl, rfl, (by decide : 2 + 0 ≤ _), (by decide : 5 + 0 ≤ _)⟩))
  obtain ⟨rfl, N25q, K25, f26, f27, f28, f29⟩ := hQ25
  have N25 := Fr.app N13 N25q
  have f30 := (f17.keep K25)
  have zs31 := E7.1
  have n32 := Nat.ne_of_lt (Nat.lt_of_lt_of_le A7.lt f14)
  have f33 := (f15.keep K25 (ninS (Ne.symm n32) nin0))
  have f34 := (f16.keep K25)
  have kp35 : Keep h0 h7 [] := (Keep.refl h0 []).ext E7
  have kp36 : Keep h0 T13.heap [] := kp35.trans K13 all0
  have kp37 : Keep h0 T25.heap [] := kp36.trans K25 (allS (Or.inr (Nat.le_of_eq g7.symm)) all0)
  refine ⟨some (.ref b7), _, _, _, _, nofun, X25, by decide, by decide, ?_, fun fs hr => ?_⟩
  · exact ⟨b7, b13_0, k13_0, rfl, N25, kp37, (Nat.le_of_eq g7.symm), f30, f26, f27, f28, f29, (Nat.le_trans zs31 f14), f33, f34, n32⟩
  · show SG p e below s₁ (mkF m 0 #[lI x0] []) _
    refine st3 _ ?_
    refine XS.ifNo X3.here hx rfl (hb hby d1_3) rfl ((if0 _ _).trans (feq hc4).1) ?_
    refine qiN X3 hx hby d1_6 ?_
    refine st6 _ ?_
    refine XS.ifNo X6.here hx rfl (hb hby d1_10) rfl ((if0 _ _).trans (feq (by decide : ¬ ((1 : Int32) = (0 : Int32)))).1) ?_
    refine st7 _ ?_
    refine qd X7 hx hby d1_16 ?_
    refine qiN X7 hx hby d1_17 ?_
    refine st13 _ ?_
    refine qc X13 hx hby d1_21 ?_
    show SG p e below T13 (mkF m 22 #[lI x0] [vI0, (.ref b13_0), (.ref b7), (.ref b7)]) _
    refine st25.trans ?_
    exact retOut X25 hx (i := .areturn) hret rfl (Or.inr (Or.inr (Or.inr (Or.inr ⟨rfl, rfl, rfl⟩)))) (hb hby d1_25) hr
theorem pd__C_Ljava_lang_String_ : parseMethodDescriptor "(C)Ljava/lang/String;" = some ⟨[.char], some (.object "java/lang/String")⟩ := by decide +kernel
theorem d6_0 : DK cB6 0 (.aload_n 0) 1 := by decide +kernel
theorem d6_1 : DK cB6 1 (.invokespecial 1) 3 := by decide +kernel
theorem d7_0 : DK cB7 0 (.aload_n 0) 1 := by decide +kernel
theorem d7_1 : DK cB7 1 (.invokespecial 1) 3 := by decide +kernel
theorem d7_4 : DK cB7 4 (.return_) 1 := by decide +kernel
theorem pn_java_lang_Record : plainName "java/lang/Record" = true := by first | (simp [plainName, overriddenIn]; done) | decide +kernel
def Q7_1 (Z : State)  (h0 : Heap) (n0 : Nat) (v : Option Value) (h : Heap) (L : List Loc) : Prop := v = none ∧ Fr n0 L ∧ h = h0
theorem rm7_1 (l : Launch) (Z : State) (a0 : Array Value) (hw : own_HW a0 Z) (ws : List Jvm.Cond) (r0 : Addr) (h0 : Heap) (n0 : Nat) (O0 : Old Z n0 h0) :
    own_MF l mN4 jdk_30_method_1_code 1 none ws rR1_0_0_12 Z h0 #[(.ref r0)] (Q7_1 Z  h0 n0) := by
  refine own_open (plainFor_of_name pn_java_lang_Record) (L0 := #[lR r0]) (fun _ => by first | (simp [entryFrame, mkF, argsToLocals, Value.category]; done) | rfl) ?_
  intro p e s m below meth c s₁ hx hby hml hret hnn hZ hown X0 e0
  have N0 := Fr.nil n0
  obtain ⟨T1, X1, e1, st1⟩ := initO X0 hx hZ hown (ww hw 37 rfl) (ww hw 20 rfl) (ww hw 21 rfl) e0 (g := (mkF m 1 #[lR r0] [(.ref r0)])) rfl (by rw [hml]; rfl) rfl (hb hby d7_1) (by decide) (W := 0) (own_W rfl) (by decide)
  refine ⟨none, _, _, _, _, (fun _ => rfl), X1, by decide, by decide, ?_, fun fs hr => ?_⟩
  · rw [e1]; exact ⟨rfl, N0, rfl⟩
  · show SG p e below s₁ (mkF m 0 #[lR r0] []) _
    refine qaN X0 hx hby d7_0 ?_
    refine st1 _ ?_
    exact X1.returnOut hx hret (hb hby d7_4) hr
theorem pd___V : parseMethodDescriptor "()V" = some ⟨[], none⟩ := by decide +kernel
theorem d6_4 : DK cB6 4 (.aload_n 0) 1 := by decide +kernel
theorem d6_5 : DK cB6 5 (.aload_n 1) 1 := by decide +kernel
theorem d6_6 : DK cB6 6 (.putfield 7) 3 := by decide +kernel
theorem d6_9 : DK cB6 9 (.aload_n 0) 1 := by decide +kernel
theorem d6_10 : DK cB6 10 (.iload_n 2) 1 := by decide +kernel
theorem d6_11 : DK cB6 11 (.putfield 13) 3 := by decide +kernel
theorem d6_14 : DK cB6 14 (.aload_n 0) 1 := by decide +kernel
theorem d6_15 : DK cB6 15 (.iload_n 3) 1 := by decide +kernel
theorem d6_16 : DK cB6 16 (.putfield 17) 3 := by decide +kernel
theorem d6_19 : DK cB6 19 (.return_) 1 := by decide +kernel
theorem pn_com_example_nearmiss_nearmiss_Element : plainName cs0 = true := by first | (simp [plainName, overriddenIn]; done) | decide +kernel
def Q6_1 (Z : State) (r0 r1 : Addr) (x2 x3 : Int32) (h0 : Heap) (n0 : Nat) (v : Option Value) (h : Heap) (L : List Loc) : Prop := v = none ∧ Fr n0 L ∧ Keep h0 h [r0] ∧ Fld Z h r0 cs0 "path" "Ljava/lang/String;" (.ref r1) ∧ Fld Z h r0 cs0 "start" "I" (.int x2) ∧ Fld Z h r0 cs0 "end" "I" (.int x3)
theorem rm6_1 (l : Launch) (Z : State) (a0 : Array Value) (hw : own_HW a0 Z) (ws : List Jvm.Cond) (r0 r1 : Addr) (x2 x3 : Int32) (h0 : Heap) (n0 : Nat) (O0 : Old Z n0 h0) (f2 : Exa Z h0 r0 cs0) (f3 : Fld Z h0 r0 cs0 "path" "Ljava/lang/String;" .null) (g4 : n0 ≤ r0) (f7 : Fld Z h0 r0 cs0 "start" "I" vI0) (f11 : Fld Z h0 r0 cs0 "end" "I" vI0) :
    own_MF l mN5 prog_7_method_1_code 4 none ws rR2_0_0_24 Z h0 #[(.ref r0), (.ref r1), (.int x2), (.int x3)] (Q6_1 Z r0 r1 x2 x3 h0 n0) := by
  refine own_open (plainFor_of_name pn_com_example_nearmiss_nearmiss_Element) (L0 := #[lR r0, lR r1, lI x2, lI x3]) (fun _ => by first | (simp [entryFrame, mkF, argsToLocals, Value.category]; done) | rfl) ?_
  intro p e s m below meth c s₁ hx hby hml hret hnn hZ hown X0 e0
  have N0 := Fr.nil n0; have w := @ww Z a0 hw
  have hnm := (name_of_methodNamed hnn.1 hnn.2).1
  obtain ⟨_, T1, Lc1, X1, hQ1, st1⟩ := own_fin (X0.specialBack hx (y := mN4) rfl hown (mvT hZ (w 32 rfl)) (mvT hZ (w 33 rfl)) (mvT hZ (w 36 rfl)) (by decide) (backOf (W := 0) (rm7_1 l Z a0 hw [] r0 h0 n0 O0) hZ (w 36 rfl) (w 35 rfl) (by decide) (by decide)) (g := (mkF m 1 #[lR r0, lR r1, lI x2, lI x3] [(.ref r0)])) rfl (by rw [hml]; rfl) (Steps.refl _) (a := r0) (argsL := []) (rest := []) (lenOf pd___V rfl) rfl (own_W rfl) (hb hby d6_1) (fun _ _ => ⟨rfl, e0, (by decide : 0 + 0 ≤ _), (by decide : 0 + 0 ≤ _)⟩))
  obtain ⟨rfl, N1q, E1⟩ := hQ1
  have N1 := Fr.app N0 N1q
  obtain ⟨T5, h5, X5, e5, W5, st5⟩ := putF X1 hx hZ hown (host := "") (Or.inl (w 38 rfl)) Via.refl E1 f3 f2 (Or.inr ⟨(w 39 rfl), rfl, hnm⟩) (w 27 rfl) (ty := (.object "java/lang/String")) (by decide) rfl rfl (g := (mkF m 6 #[lR r0, lR r1, lI x2, lI x3] [(.ref r1), (.ref r0)])) rfl rfl (hb hby d6_6)
  have Fw5 := f3.same W5
  have N5 := Fr.snoc X5 N1 g4
  have f6 := (f2.wr W5)
  have f8 := (f7.other W5 (Or.inr (slot_ne (Or.inr (w 41 rfl)) (Or.inr (w 39 rfl)) (by decide) (t := .int) (t' := (.object "java/lang/String")) (by decide) (by decide))))
  obtain ⟨T9, h9, X9, e9, W9, st9⟩ := putF X5 hx hZ hown (host := "") (Or.inl (w 40 rfl)) Via.refl e5 f8 f6 (Or.inr ⟨(w 41 rfl), rfl, hnm⟩) (w 27 rfl) (ty := .int) (by decide) rfl rfl (g := (mkF m 11 #[lR r0, lR r1, lI x2, lI x3] [(.int x2), (.ref r0)])) rfl rfl (hb hby d6_11)
  have Fw9 := f8.same W9
  have N9 := Fr.snoc X9 N5 g4
  have f10 := (f6.wr W9)
  have f12 := ((f11.other W5 (Or.inr (slot_ne (Or.inr (w 43 rfl)) (Or.inr (w 39 rfl)) (by decide) (t := .int) (t' := (.object "java/lang/String")) (by decide) (by decide)))).other W9 (Or.inr (slot_ne (Or.inr (w 43 rfl)) (Or.inr (w 41 rfl)) (by decide) (t := .int) (t' := .int) (by decide) (by decide))))
  obtain ⟨T13, h13, X13, e13, W13, st13⟩ := putF X9 hx hZ hown (host := "") (Or.inl (w 42 rfl)) Via.refl e9 f12 f10 (Or.inr ⟨(w 43 rfl), rfl, hnm⟩) (w 27 rfl) (ty := .int) (by decide) rfl rfl (g := (mkF m 16 #[lR r0, lR r1, lI x2, lI x3] [(.int x3), (.ref r0)])) rfl rfl (hb hby d6_16)
  have Fw13 := f12.same W13
  have N13 := Fr.snoc X13 N9 g4
  have f14 := ((Fw5.other W9 (Or.inr (slot_ne (Or.inr (w 39 rfl)) (Or.inr (w 41 rfl)) (by decide) (t := (.object "java/lang/String")) (t' := .int) (by decide) (by decide)))).other W13 (Or.inr (slot_ne (Or.inr (w 39 rfl)) (Or.inr (w 43 rfl)) (by decide) (t := (.object "java/lang/String")) (t' := .int) (by decide) (by decide))))
  have f15 := (Fw9.other W13 (Or.inr (slot_ne (Or.inr (w 41 rfl)) (Or.inr (w 43 rfl)) (by decide) (t := .int) (t' := .int) (by decide) (by decide))))
  have kp16 : Keep h0 h5 [r0] := (Keep.refl h0 [r0]).wr W5 (Or.inl (List.mem_of_getElem? (i := 0) rfl))
  have kp17 : Keep h0 h9 [r0] := kp16.wr W9 (Or.inl (List.mem_of_getElem? (i := 0) rfl))
  have kp18 : Keep h0 h13 [r0] := kp17.wr W13 (Or.inl (List.mem_of_getElem? (i := 0) rfl))
  refine ⟨none, _, _, _, _, (fun _ => rfl), X13, by decide, by decide, ?_, fun fs hr => ?_⟩
  · rw [e13]; exact ⟨rfl, N13, kp18, f14, f15, Fw13⟩
  · show SG p e below s₁ (mkF m 0 #[lR r0, lR r1, lI x2, lI x3] []) _
    refine qaN X0 hx hby d6_0 ?_
    refine st1.trans ?_
    refine qaN X1 hx hby d6_4 ?_
    refine qaN X1 hx hby d6_5 ?_
    refine st5 _ ?_
    refine qaN X5 hx hby d6_9 ?_
    refine qiN X5 hx hby d6_10 ?_
    refine st9 _ ?_
    refine qaN X9 hx hby d6_14 ?_
    refine qiN X9 hx hby d6_15 ?_
    show SG p e below T9 (mkF m 16 #[lR r0, lR r1, lI x2, lI x3] [(.int x3), (.ref r0)]) _
    refine st13 _ ?_
    exact X13.returnOut hx hret (hb hby d6_19) hr
theorem pd__Ljava_lang_String_II_V : parseMethodDescriptor "(Ljava/lang/String;II)V" = some ⟨[(.object "java/lang/String"), .int, .int], none⟩ := by decide +kernel
theorem d8_0 : DK cB8 0 (.aload_n 0) 1 := by decide +kernel
theorem d8_1 : DK cB8 1 (.invokespecial 1) 3 := by decide +kernel
theorem d9_0 : DK cB9 0 (.aload_n 0) 1 := by decide +kernel
theorem d9_1 : DK cB9 1 (.invokespecial 1) 3 := by decide +kernel
theorem d10_0 : DK cB10 0 (.aload_n 0) 1 := by decide +kernel
theorem d10_1 : DK cB10 1 (.invokespecial 1) 3 := by decide +kernel
theorem d10_4 : DK cB10 4 (.return_) 1 := by decide +kernel
theorem pn_java_util_AbstractCollection : plainName cs1 = true := by first | (simp [plainName, overriddenIn]; done) | decide +kernel
def Q10_1 (Z : State)  (h0 : Heap) (n0 : Nat) (v : Option Value) (h : Heap) (L : List Loc) : Prop := v = none ∧ Fr n0 L ∧ h = h0
theorem rm10_1 (l : Launch) (Z : State) (a0 : Array Value) (hw : own_HW a0 Z) (ws : List Jvm.Cond) (r0 : Addr) (h0 : Heap) (n0 : Nat) (O0 : Old Z n0 h0) :
    own_MF l mN6 jdk_22_method_1_code 1 none ws rR1_0_0_12 Z h0 #[(.ref r0)] (Q10_1 Z  h0 n0) := by
  refine own_open (plainFor_of_name pn_java_util_AbstractCollection) (L0 := #[lR r0]) (fun _ => by first | (simp [entryFrame, mkF, argsToLocals, Value.category]; done) | rfl) ?_
  intro p e s m below meth c s₁ hx hby hml hret hnn hZ hown X0 e0
  have N0 := Fr.nil n0
  obtain ⟨T1, X1, e1, st1⟩ := initO X0 hx hZ hown (ww hw 62 rfl) (ww hw 20 rfl) (ww hw 21 rfl) e0 (g := (mkF m 1 #[lR r0] [(.ref r0)])) rfl (by rw [hml]; rfl) rfl (hb hby d10_1) (by decide) (W := 0) (own_W rfl) (by decide)
  refine ⟨none, _, _, _, _, (fun _ => rfl), X1, by decide, by decide, ?_, fun fs hr => ?_⟩
  · rw [e1]; exact ⟨rfl, N0, rfl⟩
  · show SG p e below s₁ (mkF m 0 #[lR r0] []) _
    refine qaN X0 hx hby d10_0 ?_
    refine st1 _ ?_
    exact X1.returnOut hx hret (hb hby d10_4) hr
theorem d9_4 : DK cB9 4 (.aload_n 0) 1 := by decide +kernel
theorem d9_5 : DK cB9 5 (.iconst 0) 1 := by decide +kernel
theorem d9_6 : DK cB9 6 (.putfield 7) 3 := by decide +kernel
theorem d9_9 : DK cB9 9 (.return_) 1 := by decide +kernel
theorem pn_java_util_AbstractList : plainName "java/util/AbstractList" = true := by first | (simp [plainName, overriddenIn]; done) | decide +kernel
def Q9_1 (Z : State) (r0 : Addr) (h0 : Heap) (n0 : Nat) (v : Option Value) (h : Heap) (L : List Loc) : Prop := v = none ∧ Fr n0 L ∧ Keep h0 h [r0] ∧ Fld Z h r0 "java/util/AbstractList" "modCount" "I" vI0 ∧ Fld Z h r0 "java/util/ArrayList" "elementData" "[Ljava/lang/Object;" .null ∧ Fld Z h r0 "java/util/ArrayList" "size" "I" vI0
theorem rm9_1 (l : Launch) (Z : State) (a0 : Array Value) (hw : own_HW a0 Z) (ws : List Jvm.Cond) (r0 : Addr) (h0 : Heap) (n0 : Nat) (O0 : Old Z n0 h0) (f2 : Exa Z h0 r0 "java/util/ArrayList") (f3 : Fld Z h0 r0 "java/util/AbstractList" "modCount" "I" vI0) (g4 : n0 ≤ r0) (f6 : Fld Z h0 r0 "java/util/ArrayList" "elementData" "[Ljava/lang/Object;" .null) (f8 : Fld Z h0 r0 "java/util/ArrayList" "size" "I" vI0) :
    own_MF l mN7 jdk_39_method_1_code 1 none ws rR2_0_0_24 Z h0 #[(.ref r0)] (Q9_1 Z r0 h0 n0) := by
  refine own_open (plainFor_of_name pn_java_util_AbstractList) (L0 := #[lR r0]) (fun _ => by first | (simp [entryFrame, mkF, argsToLocals, Value.category]; done) | rfl) ?_
  intro p e s m below meth c s₁ hx hby hml hret hnn hZ hown X0 e0
  have N0 := Fr.nil n0; have w := @ww Z a0 hw
  obtain ⟨_, T1, Lc1, X1, hQ1, st1⟩ := own_fin (X0.specialBack hx (y := mN6) rfl hown (mvT hZ (w 56 rfl)) (mvT hZ (w 57 rfl)) (mvT hZ (w 61 rfl)) (by decide) (backOf (W := 0) (rm10_1 l Z a0 hw [] r0 h0 n0 O0) hZ (w 61 rfl) (w 60 rfl) (by decide) (by decide)) (g := (mkF m 1 #[lR r0] [(.ref r0)])) rfl (by rw [hml]; rfl) (Steps.refl _) (a := r0) (argsL := []) (rest := []) (lenOf pd___V rfl) rfl (own_W rfl) (hb hby d9_1) (fun _ _ => ⟨rfl, e0, (by decide : 0 + 0 ≤ _), (by decide : 0 + 0 ≤ _)⟩))
  obtain ⟨rfl, N1q, E1⟩ := hQ1
  have N1 := Fr.app N0 N1q
  obtain ⟨T5, h5, X5, e5, W5, st5⟩ := putF X1 hx hZ hown (host := "") (Or.inl (w 63 rfl)) Via.refl E1 f3 f2 (Or.inl (w 64 rfl)) (w 45 rfl) (ty := .int) (by decide) rfl rfl (g := (mkF m 6 #[lR r0] [vI0, (.ref r0)])) rfl rfl (hb hby d9_6)
  have Fw5 := f3.same W5
  have N5 := Fr.snoc X5 N1 g4
  have f7 := (f6.other W5 (Or.inr (slot_ne (Or.inl (w 67 rfl)) (Or.inl (w 64 rfl)) (by decide) (t := (.array (.object "java/lang/Object"))) (t' := .int) (by decide) (by decide))))
  have f9 := (f8.other W5 (Or.inr (slot_ne (Or.inl (w 80 rfl)) (Or.inl (w 64 rfl)) (by decide) (t := .int) (t' := .int) (by decide) (by decide))))
  have kp10 : Keep h0 h5 [r0] := (Keep.refl h0 [r0]).wr W5 (Or.inl (List.mem_of_getElem? (i := 0) rfl))
  refine ⟨none, _, _, _, _, (fun _ => rfl), X5, by decide, by decide, ?_, fun fs hr => ?_⟩
  · rw [e5]; exact ⟨rfl, N5, kp10, Fw5, f7, f9⟩
  · show SG p e below s₁ (mkF m 0 #[lR r0] []) _
    refine qaN X0 hx hby d9_0 ?_
    refine st1.trans ?_
    refine qaN X1 hx hby d9_4 ?_
    refine qc X1 hx hby d9_5 ?_
    refine st5 _ ?_
    exact X5.returnOut hx hret (hb hby d9_9) hr
theorem d8_4 : DK cB8 4 (.aload_n 0) 1 := by decide +kernel
theorem d8_5 : DK cB8 5 (.getstatic 39) 3 := by decide +kernel
theorem d8_8 : DK cB8 8 (.putfield 9) 3 := by decide +kernel
theorem d8_11 : DK cB8 11 (.return_) 1 := by decide +kernel
theorem pn_java_util_ArrayList : plainName "java/util/ArrayList" = true := by first | (simp [plainName, overriddenIn]; done) | decide +kernel
def Q8_1 (Z : State) (r0 r1 : Addr) (h0 : Heap) (n0 : Nat) (v : Option Value) (h : Heap) (L : List Loc) : Prop := v = none ∧ Fr n0 L ∧ Keep h0 h [r0] ∧ Fld Z h r0 "java/util/AbstractList" "modCount" "I" vI0 ∧ Fld Z h r0 "java/util/ArrayList" "elementData" "[Ljava/lang/Object;" (.ref r1) ∧ Fld Z h r0 "java/util/ArrayList" "size" "I" vI0
theorem rm8_1 (l : Launch) (Z : State) (a0 : Array Value) (hw : own_HW a0 Z) (ws : List Jvm.Cond) (r0 r1 : Addr) (h0 : Heap) (n0 : Nat) (O0 : Old Z n0 h0) (f1 : Exa Z h0 r0 "java/util/ArrayList") (f2 : Fld Z h0 r0 "java/util/AbstractList" "modCount" "I" vI0) (g3 : n0 ≤ r0) (f4 : Fld Z h0 r0 "java/util/ArrayList" "elementData" "[Ljava/lang/Object;" .null) (f5 : Fld Z h0 r0 "java/util/ArrayList" "size" "I" vI0) (f10 : Sta Z Z.heap "java/util/ArrayList" cs2 "[Ljava/lang/Object;" (.ref r1)) :
    own_MF l mN8 jdk_38_method_2_code 1 none ws rR3_0_0_36 Z h0 #[(.ref r0)] (Q8_1 Z r0 r1 h0 n0) := by
  refine own_open (plainFor_of_name pn_java_util_ArrayList) (L0 := #[lR r0]) (fun _ => by first | (simp [entryFrame, mkF, argsToLocals, Value.category]; done) | rfl) ?_
  intro p e s m below meth c s₁ hx hby hml hret hnn hZ hown X0 e0
  have N0 := Fr.nil n0; have w := @ww Z a0 hw
  obtain ⟨_, T6, Lc6, X6, hQ6, st6⟩ := own_fin (X0.specialBack hx (y := mN7) rfl hown (mvT hZ (w 50 rfl)) (mvT hZ (w 51 rfl)) (mvT hZ (w 55 rfl)) (by decide) (backOf (W := 0) (rm9_1 l Z a0 hw [] r0 h0 n0 O0 f1 f2 g3 f4 f5) hZ (w 55 rfl) (w 54 rfl) (by decide) (by decide)) (g := (mkF m 1 #[lR r0] [(.ref r0)])) rfl (by rw [hml]; rfl) (Steps.refl _) (a := r0) (argsL := []) (rest := []) (lenOf pd___V rfl) rfl (own_W rfl) (hb hby d8_1) (fun _ _ => ⟨rfl, e0, (by decide : 0 + 0 ≤ _), (by decide : 0 + 0 ≤ _)⟩))
  obtain ⟨rfl, N6q, K6, f7, f8, f9⟩ := hQ6
  have N6 := Fr.app N0 N6q
  have o11 := Old.keep O0 K6 (allS g3 all0)
  have f12 := f10.ext o11.2
  obtain ⟨T13, X13, e13, st13⟩ := getS2 X6 hx hZ hown (host := "") (Or.inl (w 65 rfl)) Via.refl rfl f12 (g := (mkF m 5 #[lR r0] [(.ref r0)])) rfl (hb hby d8_5)
  have f14 := (f1.keep K6)
  obtain ⟨T15, h15, X15, e15, W15, st15⟩ := putF X13 hx hZ hown (host := "") (Or.inl (w 66 rfl)) Via.refl e13 f8 f14 (Or.inl (w 67 rfl)) (w 45 rfl) (ty := (.array (.object "java/lang/Object"))) (by decide) rfl rfl (g := (mkF m 8 #[lR r0] [(.ref r1), (.ref r0)])) rfl rfl (hb hby d8_8)
  have Fw15 := f8.same W15
  have N15 := Fr.snoc X15 N6 g3
  have f16 := (f7.other W15 (Or.inr (slot_ne (Or.inl (w 64 rfl)) (Or.inl (w 67 rfl)) (by decide) (t := .int) (t' := (.array (.object "java/lang/Object"))) (by decide) (by decide))))
  have f17 := (f9.other W15 (Or.inr (slot_ne (Or.inl (w 80 rfl)) (Or.inl (w 67 rfl)) (by decide) (t := .int) (t' := (.array (.object "java/lang/Object"))) (by decide) (by decide))))
  have kp18 : Keep h0 T6.heap [r0] := (Keep.refl h0 [r0]).trans K6 (allS (Or.inl (List.mem_of_getElem? (i := 0) rfl)) all0)
  have kp19 : Keep h0 h15 [r0] := kp18.wr W15 (Or.inl (List.mem_of_getElem? (i := 0) rfl))
  refine ⟨none, _, _, _, _, (fun _ => rfl), X15, by decide, by decide, ?_, fun fs hr => ?_⟩
  · rw [e15]; exact ⟨rfl, N15, kp19, f16, Fw15, f17⟩
  · show SG p e below s₁ (mkF m 0 #[lR r0] []) _
    refine qaN X0 hx hby d8_0 ?_
    refine st6.trans ?_
    refine qaN X6 hx hby d8_4 ?_
    refine st13 _ ?_
    refine st15 _ ?_
    exact X15.returnOut hx hret (hb hby d8_11) hr
theorem d11_0 : DK cB11 0 (.aload_n 0) 1 := by decide +kernel
theorem d11_1 : DK cB11 1 (.dup) 1 := by decide +kernel
theorem d11_2 : DK cB11 2 (.getfield 63) 3 := by decide +kernel
theorem d11_5 : DK cB11 5 (.iconst 1) 1 := by decide +kernel
theorem d11_6 : DK cB11 6 (.iadd) 1 := by decide +kernel
theorem d11_7 : DK cB11 7 (.putfield 63) 3 := by decide +kernel
theorem d11_10 : DK cB11 10 (.aload_n 0) 1 := by decide +kernel
theorem d11_11 : DK cB11 11 (.aload_n 1) 1 := by decide +kernel
theorem d11_12 : DK cB11 12 (.aload_n 0) 1 := by decide +kernel
theorem d11_13 : DK cB11 13 (.getfield 9) 3 := by decide +kernel
theorem d11_16 : DK cB11 16 (.aload_n 0) 1 := by decide +kernel
theorem d11_17 : DK cB11 17 (.getfield 48) 3 := by decide +kernel
theorem d11_20 : DK cB11 20 (.invokevirtual 131) 3 := by decide +kernel
theorem d12_0 : DK cB12 0 (.iload_n 3) 1 := by decide +kernel
theorem d12_1 : DK cB12 1 (.aload_n 2) 1 := by decide +kernel
theorem d12_2 : DK cB12 2 (.arraylength) 1 := by decide +kernel
theorem d12_3 : DK cB12 3 (.if_icmp .ne 8) 3 := by decide +kernel
theorem d12_6 : DK cB12 6 (.aload_n 0) 1 := by decide +kernel
theorem d12_7 : DK cB12 7 (.invokevirtual 129) 3 := by decide +kernel
theorem d13_0 : DK cB13 0 (.aload_n 0) 1 := by decide +kernel
theorem d13_1 : DK cB13 1 (.aload_n 0) 1 := by decide +kernel
theorem d13_2 : DK cB13 2 (.getfield 48) 3 := by decide +kernel
theorem d13_5 : DK cB13 5 (.iconst 1) 1 := by decide +kernel
theorem d13_6 : DK cB13 6 (.iadd) 1 := by decide +kernel
theorem d13_7 : DK cB13 7 (.invokevirtual 69) 3 := by decide +kernel
theorem d14_0 : DK cB14 0 (.aload_n 0) 1 := by decide +kernel
theorem d14_1 : DK cB14 1 (.getfield 9) 3 := by decide +kernel
theorem d14_4 : DK cB14 4 (.arraylength) 1 := by decide +kernel
theorem d14_5 : DK cB14 5 (.istore_n 2) 1 := by decide +kernel
theorem d14_6 : DK cB14 6 (.iload_n 2) 1 := by decide +kernel
theorem d14_7 : DK cB14 7 (.ifCond .gt 13) 3 := by decide +kernel
theorem d14_10 : DK cB14 10 (.aload_n 0) 1 := by decide +kernel
theorem d14_11 : DK cB14 11 (.getfield 9) 3 := by decide +kernel
theorem d14_14 : DK cB14 14 (.getstatic 39) 3 := by decide +kernel
theorem d14_17 : DK cB14 17 (.if_acmp .eq 28) 3 := by decide +kernel
theorem d14_45 : DK cB14 45 (.aload_n 0) 1 := by decide +kernel
theorem d14_46 : DK cB14 46 (.bipush 10) 2 := by decide +kernel
theorem d14_48 : DK cB14 48 (.iload_n 1) 1 := by decide +kernel
theorem d14_49 : DK cB14 49 (.invokestatic 79) 3 := by decide +kernel
theorem d15_0 : DK cB15 0 (.iload_n 0) 1 := by decide +kernel
theorem d15_1 : DK cB15 1 (.iload_n 1) 1 := by decide +kernel
theorem d15_2 : DK cB15 2 (.if_icmp .lt 7) 3 := by decide +kernel
theorem d15_5 : DK cB15 5 (.iload_n 0) 1 := by decide +kernel
theorem d15_6 : DK cB15 6 (.goto 4) 3 := by decide +kernel
theorem d15_10 : DK cB15 10 (.ireturn) 1 := by decide +kernel
def Q15_1 (Z : State)  (h0 : Heap) (n0 : Nat) (v : Option Value) (h : Heap) (L : List Loc) : Prop := v = some vI10 ∧ Fr n0 L ∧ h = h0
theorem rm15_1 (l : Launch) (Z : State) (a0 : Array Value) (hw : own_HW a0 Z) (ws : List Jvm.Cond)  (h0 : Heap) (n0 : Nat) (O0 : Old Z n0 h0) :
    own_MF l mN9 jdk_29_method_65_code 2 (some .int) ws rR0_0_0_0 Z h0 #[vI10, vI1] (Q15_1 Z  h0 n0) := by
  refine own_open (Jvm.Free.JP.mathPlain rfl (by decide +kernel)) (L0 := #[lV vI10, lV vI1]) (fun _ => by first | (simp [entryFrame, mkF, argsToLocals, Value.category]; done) | rfl) ?_
  intro p e s m below meth c s₁ hx hby hml hret hnn hZ hown X0 e0
  have N0 := Fr.nil n0
  refine ⟨some vI10, _, _, _, _, nofun, X0, by decide, by decide, ?_, fun fs hr => ?_⟩
  · rw [e0]; exact ⟨rfl, N0, rfl⟩
  · show SG p e below s₁ (mkF m 0 #[lV vI10, lV vI1] []) _
    refine qiN X0 hx hby d15_0 ?_
    refine qiN X0 hx hby d15_1 ?_
    refine XS.icmpNo X0.here hx rfl (hb hby d15_2) rfl (flt (by decide : ¬ ((10 : Int32) < (1 : Int32)))).1 ?_
    refine qiN X0 hx hby d15_5 ?_
    refine XS.goto X0.here hx rfl (pc0 := 6) (pc' := 10) rfl (hb hby d15_6) (by decide) (by decide) ?_
    exact retOut X0 hx (i := .ireturn) hret rfl (Or.inl ⟨rfl, Or.inl rfl, _, rfl⟩) (hb hby d15_10) hr
theorem pd__II_I : parseMethodDescriptor "(II)I" = some ⟨[.int, .int], some .int⟩ := by decide +kernel
theorem d14_52 : DK cB14 52 (.anewarray 7) 3 := by decide +kernel
theorem d14_55 : DK cB14 55 (.dup_x1) 1 := by decide +kernel
theorem d14_56 : DK cB14 56 (.putfield 9) 3 := by decide +kernel
theorem d14_59 : DK cB14 59 (.areturn) 1 := by decide +kernel
def Q14_1 (Z : State) (r0 : Addr) (h0 : Heap) (n0 : Nat) (v : Option Value) (h : Heap) (L : List Loc) : Prop := ∃ (b11 : Addr) (k11 : ClassId), v = some (.ref b11) ∧ Fr n0 L ∧ Keep h0 h [r0] ∧ Fld Z h r0 "java/util/ArrayList" "elementData" "[Ljava/lang/Object;" (.ref b11) ∧ Fld Z h r0 "java/util/ArrayList" "size" "I" vI0 ∧ Fld Z h r0 "java/util/AbstractList" "modCount" "I" vI1 ∧ h0.size ≤ b11 ∧ Arv Z h b11 k11 (.object "java/lang/Object") (10 : Int32) [.null, .null, .null, .null, .null, .null, .null, .null, .null, .null] .null ∧ Exa Z h b11 "[Ljava/lang/Object;" ∧ Ovr Z k11 "java/lang/Object"
theorem rm14_1 (l : Launch) (Z : State) (a0 : Array Value) (hw : own_HW a0 Z) (ws : List Jvm.Cond) (r0 r1 : Addr) (c2 : ClassId) (h0 : Heap) (n0 : Nat) (O0 : Old Z n0 h0) (f1 : Fld Z h0 r0 "java/util/ArrayList" "elementData" "[Ljava/lang/Object;" (.ref r1)) (f3 : Arv Z Z.heap r1 c2 (.object "java/lang/Object") (0 : Int32) [] .null) (f7 : Sta Z Z.heap "java/util/ArrayList" cs2 "[Ljava/lang/Object;" (.ref r1)) (f12 : Exa Z h0 r0 "java/util/ArrayList") (g15 : n0 ≤ r0) (f17 : Fld Z h0 r0 "java/util/ArrayList" "size" "I" vI0) (f19 : Fld Z h0 r0 "java/util/AbstractList" "modCount" "I" vI1) (l21 : r0 < h0.size) :
    own_MF l mN10 jdk_38_method_6_code 4 (some (.array (.object "java/lang/Object"))) ws rR1_1_10_14 Z h0 #[(.ref r0), vI1] (Q14_1 Z r0 h0 n0) := by
  refine own_open (plainFor_of_name pn_java_util_ArrayList) (L0 := #[lR r0, lV vI1, lU, lU]) (fun _ => by first | (simp [entryFrame, mkF, argsToLocals, Value.category]; done) | rfl) ?_
  intro p e s m below meth c s₁ hx hby hml hret hnn hZ hown X0 e0
  have N0 := Fr.nil n0; have w := @ww Z a0 hw
  obtain ⟨T2, X2, e2, st2⟩ := getF X0 hx hZ hown (host := "") (Or.inl (w 66 rfl)) Via.refl e0 f1 (g := (mkF m 1 #[lR r0, lV vI1, lU, lU] [(.ref r0)])) rfl rfl (hb hby d14_1)
  have f4 := f3.ext O0.2
  obtain ⟨clq5, Arq5, qq5, Sq5, Nq5, Hq5, Gq5⟩ := id f4
  obtain ⟨T6, X6, e6, st6⟩ := getF X2 hx hZ hown (host := "") (Or.inl (w 66 rfl)) Via.refl e2 f1 (g := (mkF m 11 #[lR r0, lV vI1, lV vI0, lU] [(.ref r0)])) rfl rfl (hb hby d14_11)
  have f8 := f7.ext O0.2
  obtain ⟨T9, X9, e9, st9⟩ := getS2 X6 hx hZ hown (host := "") (Or.inl (w 65 rfl)) Via.refl e6 f8 (g := (mkF m 14 #[lR r0, lV vI1, lV vI0, lU] [(.ref r1)])) rfl (hb hby d14_14)
  obtain ⟨_, T10, Lc10, X10, hQ10, st10⟩ := own_cS X9 hx hZ hown e9 (rm15_1 l Z a0 hw [] h0 n0 O0) (w 96 rfl) (w 97 rfl) (w 98 rfl) (w 99 rfl) (by decide) (W := 1) (by decide) (by decide) (by decide) (by decide) (g := (mkF m 49 #[lR r0, lV vI1, lV vI0, lU] [vI1, vI10, (.ref r0)])) rfl (by rw [hml]; rfl) (argsL := [vI10, vI1]) (rest := [(.ref r0)]) (lenOf pd__II_I rfl) rfl (own_W rfl) (hb hby d14_49)
  obtain ⟨rfl, N10q, E10⟩ := hQ10
  have N10 := Fr.app N0 N10q
  obtain ⟨T11, h11, k11, X11, e11, E11, A11, B11, O11, st11⟩ := newRE X10 hx hZ hown (w 100 rfl) (w 101 rfl) E10 (g := (mkF m 52 #[lR r0, lV vI1, lV vI0, lU] [vI10, (.ref r0)])) rfl (hb hby d14_52) rfl (by decide) (cap := 10) (by decide) (by decide) (by decide) (by decide) (ad := "[Ljava/lang/Object;") rfl
  obtain ⟨b11, g11⟩ : ∃ z, z = h0.size := ⟨_, rfl⟩
  rw [← g11] at A11 B11 st11
  have V11 : Arv Z h11 b11 k11 (.object "java/lang/Object") (10 : Int32) [.null, .null, .null, .null, .null, .null, .null, .null, .null, .null] .null := (Arv.new A11 (by decide)).pad (pad_rep [] .null 10)
  have f13 := (f12.ext E11)
  have f14 := (f1.ext E11)
  obtain ⟨T16, h16, X16, e16, W16, st16⟩ := putF X11 hx hZ hown (host := "") (Or.inl (w 66 rfl)) Via.refl e11 f14 f13 (Or.inl (w 67 rfl)) (w 45 rfl) (ty := (.array (.object "java/lang/Object"))) (by decide) rfl rfl (g := (mkF m 56 #[lR r0, lV vI1, lV vI0, lU] [(.ref b11), (.ref r0), (.ref b11)])) rfl rfl (hb hby d14_56)
  have Fw16 := f14.same W16
  have N16 := Fr.snoc X16 N10 g15
  have f18 := ((f17.ext E11).other W16 (Or.inr (slot_ne (Or.inl (w 80 rfl)) (Or.inl (w 67 rfl)) (by decide) (t := .int) (t' := (.array (.object "java/lang/Object"))) (by decide) (by decide))))
  have f20 := ((f19.ext E11).other W16 (Or.inr (slot_ne (Or.inl (w 64 rfl)) (Or.inl (w 67 rfl)) (by decide) (t := .int) (t' := (.array (.object "java/lang/Object"))) (by decide) (by decide))))
  have n22 := Nat.ne_of_lt (Nat.lt_of_lt_of_le l21 (Nat.le_of_eq g11.symm))
  have f23 := (V11.other W16 (Ne.symm n22))
  have f24 := (B11.wr W16)
  have kp25 : Keep h0 h11 [r0] := (Keep.refl h0 [r0]).ext E11
  have kp26 : Keep h0 h16 [r0] := kp25.wr W16 (Or.inl (List.mem_of_getElem? (i := 0) rfl))
  refine ⟨some (.ref b11), _, _, _, _, nofun, X16, by decide, by decide, ?_, fun fs hr => ?_⟩
  · rw [e16]; exact ⟨b11, k11, rfl, N16, kp26, Fw16, f18, f20, (Nat.le_of_eq g11.symm), f23, f24, O11⟩
  · show SG p e below s₁ (mkF m 0 #[lR r0, lV vI1, lU, lU] []) _
    refine qaN X0 hx hby d14_0 ?_
    refine st2 _ ?_
    refine X2.arraylength hx (by rw [e2]; exact Arq5.1) (State.isArrayOf_alike hZ.alike Arq5.2.1) (g := (mkF m 4 #[lR r0, lV vI1, lU, lU] [(.ref r1)])) rfl rfl (hb hby d14_4) _ ?_
    rw [len_of Sq5 Nq5]
    refine XS.istoreN X2.here hx rfl (hb hby d14_5) rfl (l' := #[lR r0, lV vI1, lV vI0, lU]) rfl ?_
    refine qiN X2 hx hby d14_6 ?_
    refine XS.ifNo X2.here hx rfl (hb hby d14_7) rfl ((if0 _ _).trans (flt (by decide : ¬ ((0 : Int32) < (0 : Int32)))).2.2.1) ?_
    refine qaN X2 hx hby d14_10 ?_
    refine st6 _ ?_
    refine st9 _ ?_
    refine Jvm.RoadKit.acmp (g := (mkF m 17 #[lR r0, lV vI1, lV vI0, lU] [(.ref r1), (.ref r1)])) X9 hx rfl rfl rfl (pc0 := 17) (pc' := 45) (same := true) rfl (hb hby d14_17) rfl (decide_eq_true rfl) (by decide) (by decide) ?_
    show SG p e below T9 (mkF m 45 #[lR r0, lV vI1, lV vI0, lU] []) _
    refine qaN X9 hx hby d14_45 ?_
    refine qb X9 hx hby d14_46 ?_
    refine qiN X9 hx hby d14_48 ?_
    refine st10 _ ?_
    refine st11 _ ?_
    refine XS.dupX1 X11.here hx rfl (hb hby d14_55) rfl rfl rfl ?_
    refine st16 _ ?_
    exact retOut X16 hx (i := .areturn) hret rfl (Or.inr (Or.inr (Or.inr (Or.inr ⟨rfl, rfl, rfl⟩)))) (hb hby d14_59) hr
theorem pd__I__Ljava_lang_Object_ : parseMethodDescriptor "(I)[Ljava/lang/Object;" = some ⟨[.int], some (.array (.object "java/lang/Object"))⟩ := by decide +kernel
theorem d13_10 : DK cB13 10 (.areturn) 1 := by decide +kernel
def Q13_1 (Z : State) (r0 : Addr) (h0 : Heap) (n0 : Nat) (v : Option Value) (h : Heap) (L : List Loc) : Prop := ∃ (b10_0 : Addr) (k10_0 : ClassId), v = some (.ref b10_0) ∧ Fr n0 L ∧ Keep h0 h [r0] ∧ Fld Z h r0 "java/util/ArrayList" "elementData" "[Ljava/lang/Object;" (.ref b10_0) ∧ Fld Z h r0 "java/util/ArrayList" "size" "I" vI0 ∧ Fld Z h r0 "java/util/AbstractList" "modCount" "I" vI1 ∧ h0.size ≤ b10_0 ∧ Arv Z h b10_0 k10_0 (.object "java/lang/Object") (10 : Int32) [.null, .null, .null, .null, .null, .null, .null, .null, .null, .null] .null ∧ Exa Z h b10_0 "[Ljava/lang/Object;" ∧ Ovr Z k10_0 "java/lang/Object"
theorem rm13_1 (l : Launch) (Z : State) (a0 : Array Value) (hw : own_HW a0 Z) (ws : List Jvm.Cond) (r0 r1 : Addr) (c2 : ClassId) (h0 : Heap) (n0 : Nat) (O0 : Old Z n0 h0) (f1 : Fld Z h0 r0 "java/util/ArrayList" "size" "I" vI0) (f3 : Exa Z h0 r0 "java/util/ArrayList") (f4 : Fld Z h0 r0 "java/util/ArrayList" "elementData" "[Ljava/lang/Object;" (.ref r1)) (f5 : Arv Z Z.heap r1 c2 (.object "java/lang/Object") (0 : Int32) [] .null) (f6 : Sta Z Z.heap "java/util/ArrayList" cs2 "[Ljava/lang/Object;" (.ref r1)) (g7 : n0 ≤ r0) (f8 : Fld Z h0 r0 "java/util/AbstractList" "modCount" "I" vI1) (l9 : r0 < h0.size) :
    own_MF l mN11 jdk_38_method_7_code 1 (some (.array (.object "java/lang/Object"))) ws rR2_1_10_29 Z h0 #[(.ref r0)] (Q13_1 Z r0 h0 n0) := by
  refine own_open (plainFor_of_name pn_java_util_ArrayList) (L0 := #[lR r0]) (fun _ => by first | (simp [entryFrame, mkF, argsToLocals, Value.category]; done) | rfl) ?_
  intro p e s m below meth c s₁ hx hby hml hret hnn hZ hown X0 e0
  have N0 := Fr.nil n0; have w := @ww Z a0 hw
  obtain ⟨T2, X2, e2, st2⟩ := getF X0 hx hZ hown (host := "") (Or.inl (w 79 rfl)) Via.refl e0 f1 (g := (mkF m 2 #[lR r0] [(.ref r0), (.ref r0)])) rfl rfl (hb hby d13_2)
  obtain ⟨cqq11, qq11, qq11'⟩ := f3.cell
  obtain ⟨_, T10, Lc10, X10, hQ10, st10⟩ := own_fin (X2.privateBack hx (y := mN10) hown (mvT hZ (w 91 rfl)) (mvT hZ (w 92 rfl)) (mvT hZ (w 94 rfl)) (Cond.privateMethod_at (mvP hZ (w 93 rfl) (args := #[]))) (mvT hZ (w 95 rfl)) (by decide) (backOf (W := 0) (rm14_1 l Z a0 hw [] r0 r1 c2 h0 n0 O0 f4 f5 f6 f3 g7 f1 f8 l9) hZ (w 95 rfl) (w 46 rfl) (by decide) (by decide)) (g := (mkF m 7 #[lR r0] [vI1, (.ref r0)])) rfl (by rw [hml]; rfl) (Steps.refl _) (a := r0) (by rw [e2]; exact qq11) qq11' (argsL := [vI1]) (rest := []) (lenOf pd__I__Ljava_lang_Object_ rfl) rfl (own_W rfl) (hb hby d13_7) (fun _ _ => ⟨rfl, e2, (by decide : 0 + 1 ≤ _), (by decide : 0 + 10 ≤ _)⟩))
  obtain ⟨b10_0, k10_0, rfl, N10q, K10, f12, f13, f14, f15, f16, f17, f18⟩ := hQ10
  have N10 := Fr.app N0 N10q
  have kp19 : Keep h0 T10.heap [r0] := (Keep.refl h0 [r0]).trans K10 (allS (Or.inl (List.mem_of_getElem? (i := 0) rfl)) all0)
  refine ⟨some (.ref b10_0), _, _, _, _, nofun, X10, by decide, by decide, ?_, fun fs hr => ?_⟩
  · exact ⟨b10_0, k10_0, rfl, N10, kp19, f12, f13, f14, f15, f16, f17, f18⟩
  · show SG p e below s₁ (mkF m 0 #[lR r0] []) _
    refine qaN X0 hx hby d13_0 ?_
    refine qaN X0 hx hby d13_1 ?_
    refine st2 _ ?_
    refine qc X2 hx hby d13_5 ?_
    refine XS.iadd X2.here hx rfl (hb hby d13_6) rfl ?_
    refine st10.trans ?_
    exact retOut X10 hx (i := .areturn) hret rfl (Or.inr (Or.inr (Or.inr (Or.inr ⟨rfl, rfl, rfl⟩)))) (hb hby d13_10) hr
theorem pd____Ljava_lang_Object_ : parseMethodDescriptor "()[Ljava/lang/Object;" = some ⟨[], some (.array (.object "java/lang/Object"))⟩ := by decide +kernel
theorem d12_10 : DK cB12 10 (.astore_n 2) 1 := by decide +kernel
theorem d12_11 : DK cB12 11 (.aload_n 2) 1 := by decide +kernel
theorem d12_12 : DK cB12 12 (.iload_n 3) 1 := by decide +kernel
theorem d12_13 : DK cB12 13 (.aload_n 1) 1 := by decide +kernel
theorem d12_14 : DK cB12 14 (.aastore) 1 := by decide +kernel
theorem d12_15 : DK cB12 15 (.aload_n 0) 1 := by decide +kernel
theorem d12_16 : DK cB12 16 (.iload_n 3) 1 := by decide +kernel
theorem d12_17 : DK cB12 17 (.iconst 1) 1 := by decide +kernel
theorem d12_18 : DK cB12 18 (.iadd) 1 := by decide +kernel
theorem d12_19 : DK cB12 19 (.putfield 48) 3 := by decide +kernel
theorem d12_22 : DK cB12 22 (.return_) 1 := by decide +kernel
def Q12_1 (Z : State) (r0 r1 : Addr) (h0 : Heap) (n0 : Nat) (v : Option Value) (h : Heap) (L : List Loc) : Prop := ∃ (b11_0 : Addr) (k11_0 : ClassId), v = none ∧ Fr n0 L ∧ Keep h0 h [r0] ∧ Fld Z h r0 "java/util/ArrayList" "elementData" "[Ljava/lang/Object;" (.ref b11_0) ∧ Fld Z h r0 "java/util/ArrayList" "size" "I" vI1 ∧ Fld Z h r0 "java/util/AbstractList" "modCount" "I" vI1 ∧ h0.size ≤ b11_0 ∧ Arv Z h b11_0 k11_0 (.object "java/lang/Object") (10 : Int32) [(.ref r1), .null, .null, .null, .null, .null, .null, .null, .null, .null] .null ∧ Exa Z h b11_0 "[Ljava/lang/Object;" ∧ Ovr Z k11_0 "java/lang/Object"
theorem rm12_1 (l : Launch) (Z : State) (a0 : Array Value) (hw : own_HW a0 Z) (ws : List Jvm.Cond) (r0 r1 r2 : Addr) (c3 : ClassId) (h0 : Heap) (n0 : Nat) (O0 : Old Z n0 h0) (f1 : Arv Z Z.heap r2 c3 (.object "java/lang/Object") (0 : Int32) [] .null) (f4 : Exa Z h0 r0 "java/util/ArrayList") (f5 : Fld Z h0 r0 "java/util/ArrayList" "size" "I" vI0) (f6 : Fld Z h0 r0 "java/util/ArrayList" "elementData" "[Ljava/lang/Object;" (.ref r2)) (f7 : Sta Z Z.heap "java/util/ArrayList" cs2 "[Ljava/lang/Object;" (.ref r2)) (g8 : n0 ≤ r0) (f9 : Fld Z h0 r0 "java/util/AbstractList" "modCount" "I" vI1) (l10 : r0 < h0.size) (f21 : Exa Z h0 r1 cs0) :
    own_MF l mN12 jdk_38_method_24_code 4 none ws rR3_1_10_41 Z h0 #[(.ref r0), (.ref r1), (.ref r2), vI0] (Q12_1 Z r0 r1 h0 n0) := by
  refine own_open (plainFor_of_name pn_java_util_ArrayList) (L0 := #[lR r0, lR r1, lR r2, lV vI0]) (fun _ => by first | (simp [entryFrame, mkF, argsToLocals, Value.category]; done) | rfl) ?_
  intro p e s m below meth c s₁ hx hby hml hret hnn hZ hown X0 e0
  have N0 := Fr.nil n0; have w := @ww Z a0 hw
  have f2 := f1.ext O0.2
  obtain ⟨clq3, Arq3, qq3, Sq3, Nq3, Hq3, Gq3⟩ := id f2
  obtain ⟨cqq12, qq12, qq12'⟩ := f4.cell
  obtain ⟨_, T11, Lc11, X11, hQ11, st11⟩ := own_fin (X0.privateBack hx (y := mN11) hown (mvT hZ (w 86 rfl)) (mvT hZ (w 87 rfl)) (mvT hZ (w 89 rfl)) (Cond.privateMethod_at (mvP hZ (w 88 rfl) (args := #[]))) (mvT hZ (w 90 rfl)) (by decide) (backOf (W := 0) (rm13_1 l Z a0 hw [] r0 r2 c3 h0 n0 O0 f5 f4 f6 f1 f7 g8 f9 l10) hZ (w 90 rfl) (w 46 rfl) (by decide) (by decide)) (g := (mkF m 7 #[lR r0, lR r1, lR r2, lV vI0] [(.ref r0)])) rfl (by rw [hml]; rfl) (Steps.refl _) (a := r0) (by rw [e0]; exact qq12) qq12' (argsL := []) (rest := []) (lenOf pd____Ljava_lang_Object_ rfl) rfl (own_W rfl) (hb hby d12_7) (fun _ _ => ⟨rfl, e0, (by decide : 0 + 1 ≤ _), (by decide : 0 + 10 ≤ _)⟩))
  obtain ⟨b11_0, k11_0, rfl, N11q, K11, f13, f14, f15, f16, f17, f18, f19⟩ := hQ11
  have N11 := Fr.app N0 N11q
  obtain ⟨clq20, Arq20, qq20, Sq20, Nq20, Hq20, Gq20⟩ := id f17
  have f22 := (f21.keep K11)
  have zz23 : n0 ≤ h0.size := by rw [← O0.1]; exact O0.2.1
  have g24 := Nat.le_trans zz23 f16
  obtain ⟨T25, h25, X25, e25, W25, st25⟩ := stR X11 hx hZ rfl Arq20 (j := (0 : Int32)) (inb_of Sq20 ⟨(by decide : ¬ ((0 : Int32) < (0 : Int32))), (by decide : (0 : Int32) < (10 : Int32))⟩) rfl (Sto.ofV Arq20 qq20 f19 (Ins.of_exa f22 (w 102 rfl))) (g := (mkF m 14 #[lR r0, lR r1, lR b11_0, lV vI0] [(.ref r1), vI0, (.ref b11_0)])) rfl rfl (hb hby d12_14)
  have V25 : Arv Z h25 b11_0 k11_0 (.object "java/lang/Object") (10 : Int32) [(.ref r1), .null, .null, .null, .null, .null, .null, .null, .null, .null] .null := Arv.set Arq20 qq20 Sq20 Nq20 Hq20 Gq20 rfl W25 0 rfl (Nat.le_of_ble_eq_true rfl)
  have N25 := Fr.snoc X25 N11 g24
  have f26 := ((f4.keep K11).wr W25)
  have n27 := Nat.ne_of_lt (Nat.lt_of_lt_of_le l10 f16)
  have f28 := (f14.other W25 (Or.inl n27))
  obtain ⟨T29, h29, X29, e29, W29, st29⟩ := putF X25 hx hZ hown (host := "") (Or.inl (w 79 rfl)) Via.refl e25 f28 f26 (Or.inl (w 80 rfl)) (w 45 rfl) (ty := .int) (by decide) rfl rfl (g := (mkF m 19 #[lR r0, lR r1, lR b11_0, lV vI0] [vI1, (.ref r0)])) rfl rfl (hb hby d12_19)
  have Fw29 := f28.same W29
  have N29 := Fr.snoc X29 N25 g8
  have f30 := ((f13.other W25 (Or.inl n27)).other W29 (Or.inr (slot_ne (Or.inl (w 67 rfl)) (Or.inl (w 80 rfl)) (by decide) (t := (.array (.object "java/lang/Object"))) (t' := .int) (by decide) (by decide))))
  have f31 := ((f15.other W25 (Or.inl n27)).other W29 (Or.inr (slot_ne (Or.inl (w 64 rfl)) (Or.inl (w 80 rfl)) (by decide) (t := .int) (t' := .int) (by decide) (by decide))))
  have f32 := (V25.other W29 (Ne.symm n27))
  have f33 := ((f18.wr W25).wr W29)
  have kp34 : Keep h0 T11.heap [r0] := (Keep.refl h0 [r0]).trans K11 (allS (Or.inl (List.mem_of_getElem? (i := 0) rfl)) all0)
  have kp35 : Keep h0 h25 [r0] := kp34.wr W25 (Or.inr f16)
  have kp36 : Keep h0 h29 [r0] := kp35.wr W29 (Or.inl (List.mem_of_getElem? (i := 0) rfl))
  refine ⟨none, _, _, _, _, (fun _ => rfl), X29, by decide, by decide, ?_, fun fs hr => ?_⟩
  · rw [e29]; exact ⟨b11_0, k11_0, rfl, N29, kp36, f30, Fw29, f31, f16, f32, f33, f19⟩
  · show SG p e below s₁ (mkF m 0 #[lR r0, lR r1, lR r2, lV vI0] []) _
    refine qiN X0 hx hby d12_0 ?_
    refine qaN X0 hx hby d12_1 ?_
    refine X0.arraylength hx (by rw [e0]; exact Arq3.1) (State.isArrayOf_alike hZ.alike Arq3.2.1) (g := (mkF m 2 #[lR r0, lR r1, lR r2, lV vI0] [(.ref r2), vI0])) rfl rfl (hb hby d12_2) _ ?_
    rw [len_of Sq3 Nq3]
    refine XS.icmpNo X0.here hx rfl (hb hby d12_3) rfl (teq (rfl : (0 : Int32) = (0 : Int32))).2 ?_
    refine qaN X0 hx hby d12_6 ?_
    refine st11.trans ?_
    refine XS.astoreN X11.here hx rfl (hb hby d12_10) rfl rfl (l' := #[lR r0, lR r1, lR b11_0, lV vI0]) rfl ?_
    refine qaN X11 hx hby d12_11 ?_
    refine qiN X11 hx hby d12_12 ?_
    refine qaN X11 hx hby d12_13 ?_
    show SG p e below T11 (mkF m 14 #[lR r0, lR r1, lR b11_0, lV vI0] [(.ref r1), vI0, (.ref b11_0)]) _
    refine st25 _ ?_
    refine qaN X25 hx hby d12_15 ?_
    refine qiN X25 hx hby d12_16 ?_
    refine qc X25 hx hby d12_17 ?_
    refine XS.iadd X25.here hx rfl (hb hby d12_18) rfl ?_
    refine st29 _ ?_
    exact X29.returnOut hx hret (hb hby d12_22) hr
theorem pd__Ljava_lang_Object__Ljava_lang_Object_I_V : parseMethodDescriptor cs3 = some ⟨[(.object "java/lang/Object"), (.array (.object "java/lang/Object")), .int], none⟩ := by decide +kernel
theorem d11_23 : DK cB11 23 (.iconst 1) 1 := by decide +kernel
theorem d11_24 : DK cB11 24 (.ireturn) 1 := by decide +kernel
def Q11_1 (Z : State) (r0 r1 : Addr) (h0 : Heap) (n0 : Nat) (v : Option Value) (h : Heap) (L : List Loc) : Prop := ∃ (b20_0 : Addr) (k20_0 : ClassId), v = some vI1 ∧ Fr n0 L ∧ Keep h0 h [r0] ∧ Fld Z h r0 "java/util/ArrayList" "elementData" "[Ljava/lang/Object;" (.ref b20_0) ∧ Fld Z h r0 "java/util/ArrayList" "size" "I" vI1 ∧ Fld Z h r0 "java/util/AbstractList" "modCount" "I" vI1 ∧ h0.size ≤ b20_0 ∧ Arv Z h b20_0 k20_0 (.object "java/lang/Object") (10 : Int32) [(.ref r1), .null, .null, .null, .null, .null, .null, .null, .null, .null] .null ∧ Exa Z h b20_0 "[Ljava/lang/Object;" ∧ Ovr Z k20_0 "java/lang/Object"
theorem rm11_1 (l : Launch) (Z : State) (a0 : Array Value) (hw : own_HW a0 Z) (ws : List Jvm.Cond) (r0 r1 r2 : Addr) (c3 : ClassId) (h0 : Heap) (n0 : Nat) (O0 : Old Z n0 h0) (f1 : Fld Z h0 r0 "java/util/AbstractList" "modCount" "I" vI0) (f3 : Exa Z h0 r0 "java/util/ArrayList") (g4 : n0 ≤ r0) (f6 : Fld Z h0 r0 "java/util/ArrayList" "elementData" "[Ljava/lang/Object;" (.ref r2)) (f9 : Fld Z h0 r0 "java/util/ArrayList" "size" "I" vI0) (f12 : Arv Z Z.heap r2 c3 (.object "java/lang/Object") (0 : Int32) [] .null) (f14 : Sta Z Z.heap "java/util/ArrayList" cs2 "[Ljava/lang/Object;" (.ref r2)) (l15 : r0 < h0.size) (f17 : Exa Z h0 r1 cs0) :
    own_MF l mN13 jdk_38_method_25_code 2 (some .boolean) ws rR4_1_10_56 Z h0 #[(.ref r0), (.ref r1)] (Q11_1 Z r0 r1 h0 n0) := by
  refine own_open (plainFor_of_name pn_java_util_ArrayList) (L0 := #[lR r0, lR r1]) (fun _ => by first | (simp [entryFrame, mkF, argsToLocals, Value.category]; done) | rfl) ?_
  intro p e s m below meth c s₁ hx hby hml hret hnn hZ hown X0 e0
  have N0 := Fr.nil n0; have w := @ww Z a0 hw
  obtain ⟨T2, X2, e2, st2⟩ := getF X0 hx hZ hown (host := "") (Or.inl (w 77 rfl)) (Via.of (w 78 rfl)) e0 f1 (g := (mkF m 2 #[lR r0, lR r1] [(.ref r0), (.ref r0)])) rfl rfl (hb hby d11_2)
  obtain ⟨T5, h5, X5, e5, W5, st5⟩ := putF X2 hx hZ hown (host := "") (Or.inl (w 77 rfl)) (Via.of (w 78 rfl)) e2 f1 f3 (Or.inl (w 64 rfl)) (w 45 rfl) (ty := .int) (by decide) rfl rfl (g := (mkF m 7 #[lR r0, lR r1] [vI1, (.ref r0)])) rfl rfl (hb hby d11_7)
  have Fw5 := f1.same W5
  have N5 := Fr.snoc X5 N0 g4
  have f7 := (f6.other W5 (Or.inr (slot_ne (Or.inl (w 67 rfl)) (Or.inl (w 64 rfl)) (by decide) (t := (.array (.object "java/lang/Object"))) (t' := .int) (by decide) (by decide))))
  obtain ⟨T8, X8, e8, st8⟩ := getF X5 hx hZ hown (host := "") (Or.inl (w 66 rfl)) Via.refl e5 f7 (g := (mkF m 13 #[lR r0, lR r1] [(.ref r0), (.ref r1), (.ref r0)])) rfl rfl (hb hby d11_13)
  have f10 := (f9.other W5 (Or.inr (slot_ne (Or.inl (w 80 rfl)) (Or.inl (w 64 rfl)) (by decide) (t := .int) (t' := .int) (by decide) (by decide))))
  obtain ⟨T11, X11, e11, st11⟩ := getF X8 hx hZ hown (host := "") (Or.inl (w 79 rfl)) Via.refl e8 f10 (g := (mkF m 17 #[lR r0, lR r1] [(.ref r0), (.ref r2), (.ref r1), (.ref r0)])) rfl rfl (hb hby d11_17)
  have f13 := (f3.wr W5)
  have zs16 := (Nat.le_of_eq W5.size.symm)
  have f18 := (f17.wr W5)
  have o19 := Old.wr O0 W5 g4
  obtain ⟨cqq21, qq21, qq21'⟩ := f13.cell
  obtain ⟨_, T20, Lc20, X20, hQ20, st20⟩ := own_fin (X11.privateBack hx (y := mN12) hown (mvT hZ (w 81 rfl)) (mvT hZ (w 82 rfl)) (mvT hZ (w 84 rfl)) (Cond.privateMethod_at (mvP hZ (w 83 rfl) (args := #[]))) (mvT hZ (w 85 rfl)) (by decide) (backOf (W := 0) (rm12_1 l Z a0 hw [] r0 r1 r2 c3 h5 n0 o19 f12 f13 f10 f7 f14 g4 Fw5 (Nat.lt_of_lt_of_le l15 zs16) f18) hZ (w 85 rfl) (w 46 rfl) (by decide) (by decide)) (g := (mkF m 20 #[lR r0, lR r1] [vI0, (.ref r2), (.ref r1), (.ref r0)])) rfl (by rw [hml]; rfl) (Steps.refl _) (a := r0) (by rw [e11]; exact qq21) qq21' (argsL := [(.ref r1), (.ref r2), vI0]) (rest := []) (lenOf pd__Ljava_lang_Object__Ljava_lang_Object_I_V rfl) rfl (own_W rfl) (hb hby d11_20) (fun _ _ => ⟨rfl, e11, (by decide : 0 + 1 ≤ _), (by decide : 0 + 10 ≤ _)⟩))
  obtain ⟨b20_0, k20_0, rfl, N20q, K20, f22, f23, f24, f25, f26, f27, f28⟩ := hQ20
  have N20 := Fr.app N5 N20q
  have kp29 : Keep h0 h5 [r0] := (Keep.refl h0 [r0]).wr W5 (Or.inl (List.mem_of_getElem? (i := 0) rfl))
  have kp30 : Keep h0 T20.heap [r0] := kp29.trans K20 (allS (Or.inl (List.mem_of_getElem? (i := 0) rfl)) all0)
  refine ⟨some vI1, _, _, _, _, nofun, X20, by decide, by decide, ?_, fun fs hr => ?_⟩
  · exact ⟨b20_0, k20_0, rfl, N20, kp30, f22, f23, f24, (Nat.le_trans zs16 f25), f26, f27, f28⟩
  · show SG p e below s₁ (mkF m 0 #[lR r0, lR r1] []) _
    refine qaN X0 hx hby d11_0 ?_
    refine qd X0 hx hby d11_1 ?_
    refine st2 _ ?_
    refine qc X2 hx hby d11_5 ?_
    refine XS.iadd X2.here hx rfl (hb hby d11_6) rfl ?_
    refine st5 _ ?_
    refine qaN X5 hx hby d11_10 ?_
    refine qaN X5 hx hby d11_11 ?_
    refine qaN X5 hx hby d11_12 ?_
    refine st8 _ ?_
    show SG p e below T8 (mkF m 16 #[lR r0, lR r1] [(.ref r2), (.ref r1), (.ref r0)]) _
    refine qaN X8 hx hby d11_16 ?_
    refine st11 _ ?_
    refine st20.trans ?_
    refine qc X20 hx hby d11_23 ?_
    exact retN X20 hx (t := .boolean) hret (by simp) (hb hby d11_24) hr
theorem pd__Ljava_lang_Object__Z : parseMethodDescriptor "(Ljava/lang/Object;)Z" = some ⟨[(.object "java/lang/Object")], some .boolean⟩ := by decide +kernel
theorem d16_0 : DK cB16 0 (.aload_n 0) 1 := by decide +kernel
theorem d16_1 : DK cB16 1 (.invokespecial 1) 3 := by decide +kernel
theorem d16_4 : DK cB16 4 (.aload_n 0) 1 := by decide +kernel
theorem d16_5 : DK cB16 5 (.aload_n 1) 1 := by decide +kernel
theorem d16_6 : DK cB16 6 (.putfield 7) 3 := by decide +kernel
theorem d16_9 : DK cB16 9 (.aload_n 0) 1 := by decide +kernel
theorem d16_10 : DK cB16 10 (.iload_n 2) 1 := by decide +kernel
theorem d16_11 : DK cB16 11 (.putfield 13) 3 := by decide +kernel
theorem d16_14 : DK cB16 14 (.aload_n 0) 1 := by decide +kernel
theorem d16_15 : DK cB16 15 (.aload_n 3) 1 := by decide +kernel
theorem d16_16 : DK cB16 16 (.invokestatic 17) 3 := by decide +kernel
theorem d17_0 : DK cB17 0 (.aload_n 0) 1 := by decide +kernel
theorem d17_1 : DK cB17 1 (.invokestatic 112) 3 := by decide +kernel
theorem d18_0 : DK cB18 0 (.aload_n 0) 1 := by decide +kernel
theorem d18_1 : DK cB18 1 (.instanceof 10) 3 := by decide +kernel
theorem d18_4 : DK cB18 4 (.ifCond .ne 22) 3 := by decide +kernel
theorem d18_7 : DK cB18 7 (.aload_n 0) 1 := by decide +kernel
theorem d18_8 : DK cB18 8 (.instanceof 12) 3 := by decide +kernel
theorem d18_11 : DK cB18 11 (.ifCond .eq 20) 3 := by decide +kernel
theorem d18_31 : DK cB18 31 (.aload_n 0) 1 := by decide +kernel
theorem d18_32 : DK cB18 32 (.invokeinterface 20 1) 5 := by decide +kernel
theorem d19_0 : DK cB19 0 (.aload_n 0) 1 := by decide +kernel
theorem d19_1 : DK cB19 1 (.getfield 48) 3 := by decide +kernel
theorem d19_4 : DK cB19 4 (.ifCond .ne 7) 3 := by decide +kernel
theorem d19_11 : DK cB19 11 (.iconst 0) 1 := by decide +kernel
theorem d19_12 : DK cB19 12 (.ireturn) 1 := by decide +kernel
def Q19_1 (Z : State)  (h0 : Heap) (n0 : Nat) (v : Option Value) (h : Heap) (L : List Loc) : Prop := v = some vI0 ∧ Fr n0 L ∧ h = h0
theorem rm19_1 (l : Launch) (Z : State) (a0 : Array Value) (hw : own_HW a0 Z) (ws : List Jvm.Cond) (r0 : Addr) (h0 : Heap) (n0 : Nat) (O0 : Old Z n0 h0) (f1 : Fld Z h0 r0 "java/util/ArrayList" "size" "I" vI1) :
    own_MF l mN14 jdk_38_method_9_code 1 (some .boolean) ws rR0_0_0_0 Z h0 #[(.ref r0)] (Q19_1 Z  h0 n0) := by
  refine own_open (plainFor_of_name pn_java_util_ArrayList) (L0 := #[lR r0]) (fun _ => by first | (simp [entryFrame, mkF, argsToLocals, Value.category]; done) | rfl) ?_
  intro p e s m below meth c s₁ hx hby hml hret hnn hZ hown X0 e0
  have N0 := Fr.nil n0
  obtain ⟨T2, X2, e2, st2⟩ := getF X0 hx hZ hown (host := "") (Or.inl (ww hw 79 rfl)) Via.refl e0 f1 (g := (mkF m 1 #[lR r0] [(.ref r0)])) rfl rfl (hb hby d19_1)
  refine ⟨some vI0, _, _, _, _, nofun, X2, by decide, by decide, ?_, fun fs hr => ?_⟩
  · rw [e2]; exact ⟨rfl, N0, rfl⟩
  · show SG p e below s₁ (mkF m 0 #[lR r0] []) _
    refine qaN X0 hx hby d19_0 ?_
    refine st2 _ ?_
    refine XS.ifYes X2.here hx rfl (pc0 := 4) (pc' := 11) rfl (hb hby d19_4) rfl ((if0 _ _).trans (feq (by decide : ¬ ((1 : Int32) = (0 : Int32)))).2) (by decide) (by decide) ?_
    refine qc X2 hx hby d19_11 ?_
    exact retN X2 hx (t := .boolean) hret (by simp) (hb hby d19_12) hr
theorem pd___Z : parseMethodDescriptor "()Z" = some ⟨[], some .boolean⟩ := by decide +kernel
theorem d18_37 : DK cB18 37 (.ifCond .eq 7) 3 := by decide +kernel
theorem d18_44 : DK cB18 44 (.aload_n 0) 1 := by decide +kernel
theorem d18_45 : DK cB18 45 (.invokeinterface 30 1) 5 := by decide +kernel
theorem d20_0 : DK cB20 0 (.aload_n 0) 1 := by decide +kernel
theorem d20_1 : DK cB20 1 (.getfield 9) 3 := by decide +kernel
theorem d20_4 : DK cB20 4 (.aload_n 0) 1 := by decide +kernel
theorem d20_5 : DK cB20 5 (.getfield 48) 3 := by decide +kernel
theorem d20_8 : DK cB20 8 (.invokestatic 66) 3 := by decide +kernel
theorem d21_0 : DK cB21 0 (.aload_n 0) 1 := by decide +kernel
theorem d21_1 : DK cB21 1 (.iload_n 1) 1 := by decide +kernel
theorem d21_2 : DK cB21 2 (.aload_n 0) 1 := by decide +kernel
theorem d21_3 : DK cB21 3 (.invokevirtual 86) 3 := by decide +kernel
theorem d21_6 : DK cB21 6 (.invokestatic 300) 3 := by decide +kernel
theorem d22_0 : DK cB22 0 (.aload_n 2) 1 := by decide +kernel
theorem d22_1 : DK cB22 1 (.ldc 110) 2 := by decide +kernel
theorem d22_3 : DK cB22 3 (.if_acmp .ne 10) 3 := by decide +kernel
theorem d22_6 : DK cB22 6 (.iload_n 1) 1 := by decide +kernel
theorem d22_7 : DK cB22 7 (.anewarray 2) 3 := by decide +kernel
theorem d22_10 : DK cB22 10 (.goto 14) 3 := by decide +kernel
theorem d22_24 : DK cB22 24 (.astore_n 3) 1 := by decide +kernel
theorem d22_25 : DK cB22 25 (.aload_n 0) 1 := by decide +kernel
theorem d22_26 : DK cB22 26 (.iconst 0) 1 := by decide +kernel
theorem d22_27 : DK cB22 27 (.aload_n 3) 1 := by decide +kernel
theorem d22_28 : DK cB22 28 (.iconst 0) 1 := by decide +kernel
theorem d22_29 : DK cB22 29 (.aload_n 0) 1 := by decide +kernel
theorem d22_30 : DK cB22 30 (.arraylength) 1 := by decide +kernel
theorem d22_31 : DK cB22 31 (.iload_n 1) 1 := by decide +kernel
theorem d22_32 : DK cB22 32 (.invokestatic 304) 3 := by decide +kernel
theorem d23_0 : DK cB23 0 (.iload_n 0) 1 := by decide +kernel
theorem d23_1 : DK cB23 1 (.iload_n 1) 1 := by decide +kernel
theorem d23_2 : DK cB23 2 (.if_icmp .gt 7) 3 := by decide +kernel
theorem d23_9 : DK cB23 9 (.iload_n 1) 1 := by decide +kernel
theorem d23_10 : DK cB23 10 (.ireturn) 1 := by decide +kernel
def Q23_1 (Z : State)  (h0 : Heap) (n0 : Nat) (v : Option Value) (h : Heap) (L : List Loc) : Prop := v = some vI1 ∧ Fr n0 L ∧ h = h0
theorem rm23_1 (l : Launch) (Z : State) (a0 : Array Value) (hw : own_HW a0 Z) (ws : List Jvm.Cond)  (h0 : Heap) (n0 : Nat) (O0 : Old Z n0 h0) :
    own_MF l mN15 jdk_29_method_69_code 2 (some .int) ws rR0_0_0_0 Z h0 #[vI10, vI1] (Q23_1 Z  h0 n0) := by
  refine own_open (Jvm.Free.JP.mathPlain rfl (by decide +kernel)) (L0 := #[lV vI10, lV vI1]) (fun _ => by first | (simp [entryFrame, mkF, argsToLocals, Value.category]; done) | rfl) ?_
  intro p e s m below meth c s₁ hx hby hml hret hnn hZ hown X0 e0
  have N0 := Fr.nil n0
  refine ⟨some vI1, _, _, _, _, nofun, X0, by decide, by decide, ?_, fun fs hr => ?_⟩
  · rw [e0]; exact ⟨rfl, N0, rfl⟩
  · show SG p e below s₁ (mkF m 0 #[lV vI10, lV vI1] []) _
    refine qiN X0 hx hby d23_0 ?_
    refine qiN X0 hx hby d23_1 ?_
    refine XS.icmpYes X0.here hx rfl (pc0 := 2) (pc' := 9) rfl (hb hby d23_2) rfl (tlt (by decide : (1 : Int32) < (10 : Int32))).2.2.1 (by decide) (by decide) ?_
    refine qiN X0 hx hby d23_9 ?_
    exact retOut X0 hx (i := .ireturn) hret rfl (Or.inl ⟨rfl, Or.inl rfl, _, rfl⟩) (hb hby d23_10) hr
theorem d22_35 : DK cB22 35 (.invokestatic 150) 3 := by decide +kernel
theorem d22_38 : DK cB22 38 (.aload_n 3) 1 := by decide +kernel
theorem d22_39 : DK cB22 39 (.areturn) 1 := by decide +kernel
theorem pn_java_util_Arrays : plainName "java/util/Arrays" = true := by first | (simp [plainName, overriddenIn]; done) | decide +kernel
def Q22_1 (Z : State) (r3 : Addr) (h0 : Heap) (n0 : Nat) (v : Option Value) (h : Heap) (L : List Loc) : Prop := ∃ (b3 : Addr) (k3 : ClassId), v = some (.ref b3) ∧ Fr n0 L ∧ Keep h0 h [] ∧ h0.size ≤ b3 ∧ Arv Z h b3 k3 (.object "java/lang/Object") (1 : Int32) [(.ref r3)] .null ∧ Exa Z h b3 "[Ljava/lang/Object;" ∧ Ovr Z k3 "java/lang/Object"
theorem rm22_1 (l : Launch) (Z : State) (a0 : Array Value) (hw : own_HW a0 Z) (ws : List Jvm.Cond) (r0 r1 : Addr) (c2 : ClassId) (r3 : Addr) (h0 : Heap) (n0 : Nat) (O0 : Old Z n0 h0) (f1 : own_Mir Z "[Ljava/lang/Object;" r1) (f4 : Arv Z h0 r0 c2 (.object "java/lang/Object") (10 : Int32) [(.ref r3), .null, .null, .null, .null, .null, .null, .null, .null, .null] .null) (f10 : Exa Z h0 r3 cs0) :
    own_MF l mN16 jdk_65_method_120_code 4 (some (.array (.object "java/lang/Object"))) ws rR1_1_1_24 Z h0 #[(.ref r0), vI1, (.ref r1)] (Q22_1 Z r3 h0 n0) := by
  refine own_open (plainFor_of_name pn_java_util_Arrays) (L0 := #[lR r0, lV vI1, lR r1, lU]) (fun _ => by first | (simp [entryFrame, mkF, argsToLocals, Value.category]; done) | rfl) ?_
  intro p e s m below meth c s₁ hx hby hml hret hnn hZ hown X0 e0
  have N0 := Fr.nil n0; have w := @ww Z a0 hw
  obtain ⟨T2, X2, e2, st2⟩ := own_ldcM X0 hx hZ hown (w 158 rfl) e0 f1 (g := (mkF m 1 #[lR r0, lV vI1, lR r1, lU] [(.ref r1)])) rfl (hb hby d22_1)
  obtain ⟨T3, h3, k3, X3, e3, E3, A3, B3, O3, st3⟩ := newRE X2 hx hZ hown (w 159 rfl) (w 101 rfl) e2 (g := (mkF m 7 #[lR r0, lV vI1, lR r1, lU] [vI1])) rfl (hb hby d22_7) rfl (by decide) (cap := 1) (by decide) (by decide) (by decide) (by decide) (ad := "[Ljava/lang/Object;") rfl
  obtain ⟨b3, g3⟩ : ∃ z, z = h0.size := ⟨_, rfl⟩
  rw [← g3] at A3 B3 st3
  have V3 : Arv Z h3 b3 k3 (.object "java/lang/Object") (1 : Int32) [.null] .null := (Arv.new A3 (by decide)).pad (pad_rep [] .null 1)
  have f5 := (f4.ext E3)
  obtain ⟨clq6, Arq6, qq6, Sq6, Nq6, Hq6, Gq6⟩ := id f5
  have o7 := Old.ext O0 E3
  obtain ⟨_, T8, Lc8, X8, hQ8, st8⟩ := own_cS X3 hx hZ hown e3 (rm23_1 l Z a0 hw [] h3 n0 o7) (w 160 rfl) (w 161 rfl) (w 98 rfl) (w 162 rfl) (by decide) (W := 4) (by decide) (by decide) (by decide) (by decide) (g := (mkF m 32 #[lR r0, lV vI1, lR r1, lR b3] [vI1, vI10, vI0, (.ref b3), vI0, (.ref r0)])) rfl (by rw [hml]; rfl) (argsL := [vI10, vI1]) (rest := [vI0, (.ref b3), vI0, (.ref r0)]) (lenOf pd__II_I rfl) rfl (own_W rfl) (hb hby d22_32)
  obtain ⟨rfl, N8q, E8⟩ := hQ8
  have N8 := Fr.app N0 N8q
  obtain ⟨clq9, Arq9, qq9, Sq9, Nq9, Hq9, Gq9⟩ := id V3
  have f11 := (f10.ext E3)
  have zz12 : n0 ≤ h0.size := by rw [← O0.1]; exact O0.2.1
  have g13 := Nat.le_trans zz12 (Nat.le_of_eq g3.symm)
  obtain ⟨T14, h14, L14, X14, e14, N14, K14, B14, st14⟩ := cpA X8 hx hZ hown (w 163 rfl) (w 166 rfl) (w 164 rfl) (w 165 rfl) E8 f5 V3 (us := [(.ref r3)]) (Or.inr ⟨rfl, rfl, (And.intro (Sto.ofV Arq9 qq9 O3 (Ins.of_exa f11 (w 102 rfl))) trivial)⟩) (by decide) (by decide) (by decide) (by decide) (by decide) rfl (by decide) N8 g13 (g := (mkF m 35 #[lR r0, lV vI1, lR r1, lR b3] [vI1, vI0, (.ref b3), vI0, (.ref r0)])) rfl (by rw [hml]; rfl) rfl (hb hby d22_35) (by decide) (W := 0) (own_W rfl) (by decide)
  have V14 : Arv Z h14 b3 k3 (.object "java/lang/Object") (1 : Int32) [(.ref r3)] .null := B14
  have f15 := (B3.keep K14)
  have kp16 : Keep h0 h3 [] := (Keep.refl h0 []).ext E3
  have kp17 : Keep h0 h14 [] := kp16.trans K14 (allS (Or.inr (Nat.le_of_eq g3.symm)) all0)
  refine ⟨some (.ref b3), _, _, _, _, nofun, X14, by decide, by decide, ?_, fun fs hr => ?_⟩
  · rw [e14]; exact ⟨b3, k3, rfl, N14, kp17, (Nat.le_of_eq g3.symm), V14, f15, O3⟩
  · show SG p e below s₁ (mkF m 0 #[lR r0, lV vI1, lR r1, lU] []) _
    refine qaN X0 hx hby d22_0 ?_
    refine st2 _ ?_
    refine Jvm.RoadKit.acmp (g := (mkF m 3 #[lR r0, lV vI1, lR r1, lU] [(.ref r1), (.ref r1)])) X2 hx rfl rfl rfl (pc0 := 3) (pc' := 6) (same := true) rfl (hb hby d22_3) rfl (decide_eq_true rfl) (by decide) (by decide) ?_
    refine qiN X2 hx hby d22_6 ?_
    refine st3 _ ?_
    refine XS.goto X3.here hx rfl (pc0 := 10) (pc' := 24) rfl (hb hby d22_10) (by decide) (by decide) ?_
    refine XS.astoreN X3.here hx rfl (hb hby d22_24) rfl rfl (l' := #[lR r0, lV vI1, lR r1, lR b3]) rfl ?_
    refine qaN X3 hx hby d22_25 ?_
    refine qc X3 hx hby d22_26 ?_
    refine qaN X3 hx hby d22_27 ?_
    show SG p e below T3 (mkF m 28 #[lR r0, lV vI1, lR r1, lR b3] [(.ref b3), vI0, (.ref r0)]) _
    refine qc X3 hx hby d22_28 ?_
    refine qaN X3 hx hby d22_29 ?_
    refine X3.arraylength hx (by rw [e3]; exact Arq6.1) (State.isArrayOf_alike hZ.alike Arq6.2.1) (g := (mkF m 30 #[lR r0, lV vI1, lR r1, lR b3] [(.ref r0), vI0, (.ref b3), vI0, (.ref r0)])) rfl rfl (hb hby d22_30) _ ?_
    rw [len_of Sq6 Nq6]
    refine qiN X3 hx hby d22_31 ?_
    refine st8 _ ?_
    refine st14 _ ?_
    refine qaN X14 hx hby d22_38 ?_
    exact retOut X14 hx (i := .areturn) hret rfl (Or.inr (Or.inr (Or.inr (Or.inr ⟨rfl, rfl, rfl⟩)))) (hb hby d22_39) hr
theorem pd___Ljava_lang_Object_ILjava_lang_Class___Ljava_lang_Object_ : parseMethodDescriptor cs4 = some ⟨[(.array (.object "java/lang/Object")), .int, (.object "java/lang/Class")], some (.array (.object "java/lang/Object"))⟩ := by decide +kernel
theorem d21_9 : DK cB21 9 (.areturn) 1 := by decide +kernel
def Q21_1 (Z : State) (r3 : Addr) (h0 : Heap) (n0 : Nat) (v : Option Value) (h : Heap) (L : List Loc) : Prop := ∃ (b6_0 : Addr) (k6_0 : ClassId), v = some (.ref b6_0) ∧ Fr n0 L ∧ Keep h0 h [] ∧ h0.size ≤ b6_0 ∧ Arv Z h b6_0 k6_0 (.object "java/lang/Object") (1 : Int32) [(.ref r3)] .null ∧ Exa Z h b6_0 "[Ljava/lang/Object;" ∧ Ovr Z k6_0 "java/lang/Object"
theorem rm21_1 (l : Launch) (Z : State) (a0 : Array Value) (hw : own_HW a0 Z) (ws : List Jvm.Cond) (r0 r1 : Addr) (c2 : ClassId) (r3 : Addr) (h0 : Heap) (n0 : Nat) (O0 : Old Z n0 h0) (f1 : Exa Z h0 r0 "[Ljava/lang/Object;") (f2 : own_Mir Z "[Ljava/lang/Object;" r1) (f4 : Arv Z h0 r0 c2 (.object "java/lang/Object") (10 : Int32) [(.ref r3), .null, .null, .null, .null, .null, .null, .null, .null, .null] .null) (f5 : Exa Z h0 r3 cs0) :
    own_MF l mN17 jdk_65_method_119_code 2 (some (.array (.object "java/lang/Object"))) ws rR2_1_1_39 Z h0 #[(.ref r0), vI1] (Q21_1 Z r3 h0 n0) := by
  refine own_open (plainFor_of_name pn_java_util_Arrays) (L0 := #[lR r0, lV vI1]) (fun _ => by first | (simp [entryFrame, mkF, argsToLocals, Value.category]; done) | rfl) ?_
  intro p e s m below meth c s₁ hx hby hml hret hnn hZ hown X0 e0
  have N0 := Fr.nil n0; have w := @ww Z a0 hw
  obtain ⟨T3, X3, e3, st3⟩ := own_gcls X0 hx hZ hown (w 149 rfl) (w 150 rfl) (w 126 rfl) (w 152 rfl) (w 151 rfl) (w 153 rfl) e0 f1 f2 (g := (mkF m 3 #[lR r0, lV vI1] [(.ref r0), vI1, (.ref r0)])) rfl (by rw [hml]; rfl) rfl (hb hby d21_3) (by decide) (W := 2) (own_W rfl) (by decide)
  obtain ⟨_, T6, Lc6, X6, hQ6, st6⟩ := own_cS X3 hx hZ hown e3 (rm22_1 l Z a0 hw [] r0 r1 c2 r3 h0 n0 O0 f2 f4 f5) (w 155 rfl) (w 156 rfl) (w 147 rfl) (w 157 rfl) (by decide) (W := 0) (by decide) (by decide) (by decide) (by decide) (g := (mkF m 6 #[lR r0, lV vI1] [(.ref r1), vI1, (.ref r0)])) rfl (by rw [hml]; rfl) (argsL := [(.ref r0), vI1, (.ref r1)]) (rest := []) (lenOf pd___Ljava_lang_Object_ILjava_lang_Class___Ljava_lang_Object_ rfl) rfl (own_W rfl) (hb hby d21_6)
  obtain ⟨b6_0, k6_0, rfl, N6q, K6, f7, f8, f9, f10⟩ := hQ6
  have N6 := Fr.app N0 N6q
  have kp11 : Keep h0 T6.heap [] := (Keep.refl h0 []).trans K6 all0
  refine ⟨some (.ref b6_0), _, _, _, _, nofun, X6, by decide, by decide, ?_, fun fs hr => ?_⟩
  · exact ⟨b6_0, k6_0, rfl, N6, kp11, f7, f8, f9, f10⟩
  · show SG p e below s₁ (mkF m 0 #[lR r0, lV vI1] []) _
    refine qaN X0 hx hby d21_0 ?_
    refine qiN X0 hx hby d21_1 ?_
    refine qaN X0 hx hby d21_2 ?_
    refine st3 _ ?_
    refine st6 _ ?_
    exact retOut X6 hx (i := .areturn) hret rfl (Or.inr (Or.inr (Or.inr (Or.inr ⟨rfl, rfl, rfl⟩)))) (hb hby d21_9) hr
theorem pd___Ljava_lang_Object_I__Ljava_lang_Object_ : parseMethodDescriptor cs5 = some ⟨[(.array (.object "java/lang/Object")), .int], some (.array (.object "java/lang/Object"))⟩ := by decide +kernel
theorem d20_11 : DK cB20 11 (.areturn) 1 := by decide +kernel
def Q20_1 (Z : State) (r4 : Addr) (h0 : Heap) (n0 : Nat) (v : Option Value) (h : Heap) (L : List Loc) : Prop := ∃ (b9_0 : Addr) (k9_0 : ClassId), v = some (.ref b9_0) ∧ Fr n0 L ∧ Keep h0 h [] ∧ h0.size ≤ b9_0 ∧ Arv Z h b9_0 k9_0 (.object "java/lang/Object") (1 : Int32) [(.ref r4)] .null ∧ Exa Z h b9_0 "[Ljava/lang/Object;" ∧ Ovr Z k9_0 "java/lang/Object"
theorem rm20_1 (l : Launch) (Z : State) (a0 : Array Value) (hw : own_HW a0 Z) (ws : List Jvm.Cond) (r0 r1 r2 : Addr) (c3 : ClassId) (r4 : Addr) (h0 : Heap) (n0 : Nat) (O0 : Old Z n0 h0) (f1 : Fld Z h0 r0 "java/util/ArrayList" "elementData" "[Ljava/lang/Object;" (.ref r1)) (f3 : Fld Z h0 r0 "java/util/ArrayList" "size" "I" vI1) (f5 : Exa Z h0 r1 "[Ljava/lang/Object;") (f6 : own_Mir Z "[Ljava/lang/Object;" r2) (f7 : Arv Z h0 r1 c3 (.object "java/lang/Object") (10 : Int32) [(.ref r4), .null, .null, .null, .null, .null, .null, .null, .null, .null] .null) (f8 : Exa Z h0 r4 cs0) :
    own_MF l mN18 jdk_38_method_16_code 1 (some (.array (.object "java/lang/Object"))) ws rR3_1_1_52 Z h0 #[(.ref r0)] (Q20_1 Z r4 h0 n0) := by
  refine own_open (plainFor_of_name pn_java_util_ArrayList) (L0 := #[lR r0]) (fun _ => by first | (simp [entryFrame, mkF, argsToLocals, Value.category]; done) | rfl) ?_
  intro p e s m below meth c s₁ hx hby hml hret hnn hZ hown X0 e0
  have N0 := Fr.nil n0; have w := @ww Z a0 hw
  obtain ⟨T2, X2, e2, st2⟩ := getF X0 hx hZ hown (host := "") (Or.inl (w 66 rfl)) Via.refl e0 f1 (g := (mkF m 1 #[lR r0] [(.ref r0)])) rfl rfl (hb hby d20_1)
  obtain ⟨T4, X4, e4, st4⟩ := getF X2 hx hZ hown (host := "") (Or.inl (w 79 rfl)) Via.refl e2 f3 (g := (mkF m 5 #[lR r0] [(.ref r0), (.ref r1)])) rfl rfl (hb hby d20_5)
  obtain ⟨_, T9, Lc9, X9, hQ9, st9⟩ := own_cS X4 hx hZ hown e4 (rm21_1 l Z a0 hw [] r1 r2 c3 r4 h0 n0 O0 f5 f6 f7 f8) (w 145 rfl) (w 146 rfl) (w 147 rfl) (w 148 rfl) (by decide) (W := 0) (by decide) (by decide) (by decide) (by decide) (g := (mkF m 8 #[lR r0] [vI1, (.ref r1)])) rfl (by rw [hml]; rfl) (argsL := [(.ref r1), vI1]) (rest := []) (lenOf pd___Ljava_lang_Object_I__Ljava_lang_Object_ rfl) rfl (own_W rfl) (hb hby d20_8)
  obtain ⟨b9_0, k9_0, rfl, N9q, K9, f10, f11, f12, f13⟩ := hQ9
  have N9 := Fr.app N0 N9q
  have kp14 : Keep h0 T9.heap [] := (Keep.refl h0 []).trans K9 all0
  refine ⟨some (.ref b9_0), _, _, _, _, nofun, X9, by decide, by decide, ?_, fun fs hr => ?_⟩
  · exact ⟨b9_0, k9_0, rfl, N9, kp14, f10, f11, f12, f13⟩
  · show SG p e below s₁ (mkF m 0 #[lR r0] []) _
    refine qaN X0 hx hby d20_0 ?_
    refine st2 _ ?_
    refine qaN X2 hx hby d20_4 ?_
    refine st4 _ ?_
    refine st9 _ ?_
    exact retOut X9 hx (i := .areturn) hret rfl (Or.inr (Or.inr (Or.inr (Or.inr ⟨rfl, rfl, rfl⟩)))) (hb hby d20_11) hr
theorem d18_50 : DK cB18 50 (.invokestatic 34) 3 := by decide +kernel
theorem d24_0 : DK cB24 0 (.aload_n 0) 1 := by decide +kernel
theorem d24_1 : DK cB24 1 (.arraylength) 1 := by decide +kernel
theorem d24_2 : DK cB24 2 (.tableswitch 57 0 2 #[26, 32, 43]) 26 := by decide +kernel
theorem d24_34 : DK cB24 34 (.new 96) 3 := by decide +kernel
theorem d24_37 : DK cB24 37 (.dup) 1 := by decide +kernel
theorem d24_38 : DK cB24 38 (.aload_n 0) 1 := by decide +kernel
theorem d24_39 : DK cB24 39 (.iconst 0) 1 := by decide +kernel
theorem d24_40 : DK cB24 40 (.aaload) 1 := by decide +kernel
theorem d24_41 : DK cB24 41 (.invokespecial 98) 3 := by decide +kernel
theorem d25_0 : DK cB25 0 (.aload_n 0) 1 := by decide +kernel
theorem d25_1 : DK cB25 1 (.invokespecial 1) 3 := by decide +kernel
theorem d26_0 : DK cB26 0 (.aload_n 0) 1 := by decide +kernel
theorem d26_1 : DK cB26 1 (.invokespecial 1) 3 := by decide +kernel
theorem d27_0 : DK cB27 0 (.aload_n 0) 1 := by decide +kernel
theorem d27_1 : DK cB27 1 (.invokespecial 1) 3 := by decide +kernel
theorem d27_4 : DK cB27 4 (.return_) 1 := by decide +kernel
theorem pn_java_util_ImmutableCollections_AbstractImmutableCollection : plainName "java/util/ImmutableCollections$AbstractImmutableCollection" = true := by first | (simp [plainName, overriddenIn]; done) | decide +kernel
def Q27_1 (Z : State)  (h0 : Heap) (n0 : Nat) (v : Option Value) (h : Heap) (L : List Loc) : Prop := v = none ∧ Fr n0 L ∧ h = h0
theorem rm27_1 (l : Launch) (Z : State) (a0 : Array Value) (hw : own_HW a0 Z) (ws : List Jvm.Cond) (r0 : Addr) (h0 : Heap) (n0 : Nat) (O0 : Old Z n0 h0) :
    own_MF l mN19 jdk_47_method_1_code 1 none ws rR2_0_0_24 Z h0 #[(.ref r0)] (Q27_1 Z  h0 n0) := by
  refine own_open (plainFor_of_name pn_java_util_ImmutableCollections_AbstractImmutableCollection) (L0 := #[lR r0]) (fun _ => by first | (simp [entryFrame, mkF, argsToLocals, Value.category]; done) | rfl) ?_
  intro p e s m below meth c s₁ hx hby hml hret hnn hZ hown X0 e0
  have N0 := Fr.nil n0; have w := @ww Z a0 hw
  obtain ⟨_, T1, Lc1, X1, hQ1, st1⟩ := own_fin (X0.specialBack hx (y := mN6) rfl hown (mvT hZ (w 189 rfl)) (mvT hZ (w 57 rfl)) (mvT hZ (w 61 rfl)) (by decide) (backOf (W := 0) (rm10_1 l Z a0 hw [] r0 h0 n0 O0) hZ (w 61 rfl) (w 60 rfl) (by decide) (by decide)) (g := (mkF m 1 #[lR r0] [(.ref r0)])) rfl (by rw [hml]; rfl) (Steps.refl _) (a := r0) (argsL := []) (rest := []) (lenOf pd___V rfl) rfl (own_W rfl) (hb hby d27_1) (fun _ _ => ⟨rfl, e0, (by decide : 0 + 0 ≤ _), (by decide : 0 + 0 ≤ _)⟩))
  obtain ⟨rfl, N1q, E1⟩ := hQ1
  have N1 := Fr.app N0 N1q
  refine ⟨none, _, _, _, _, (fun _ => rfl), X1, by decide, by decide, ?_, fun fs hr => ?_⟩
  · rw [E1]; exact ⟨rfl, N1, rfl⟩
  · show SG p e below s₁ (mkF m 0 #[lR r0] []) _
    refine qaN X0 hx hby d27_0 ?_
    refine st1.trans ?_
    exact X1.returnOut hx hret (hb hby d27_4) hr
theorem d26_4 : DK cB26 4 (.return_) 1 := by decide +kernel
theorem pn_java_util_ImmutableCollections_AbstractImmutableList : plainName cs6 = true := by first | (simp [plainName, overriddenIn]; done) | decide +kernel
def Q26_1 (Z : State)  (h0 : Heap) (n0 : Nat) (v : Option Value) (h : Heap) (L : List Loc) : Prop := v = none ∧ Fr n0 L ∧ h = h0
theorem rm26_1 (l : Launch) (Z : State) (a0 : Array Value) (hw : own_HW a0 Z) (ws : List Jvm.Cond) (r0 : Addr) (h0 : Heap) (n0 : Nat) (O0 : Old Z n0 h0) :
    own_MF l mN20 jdk_46_method_1_code 1 none ws rR3_0_0_36 Z h0 #[(.ref r0)] (Q26_1 Z  h0 n0) := by
  refine own_open (plainFor_of_name pn_java_util_ImmutableCollections_AbstractImmutableList) (L0 := #[lR r0]) (fun _ => by first | (simp [entryFrame, mkF, argsToLocals, Value.category]; done) | rfl) ?_
  intro p e s m below meth c s₁ hx hby hml hret hnn hZ hown X0 e0
  have N0 := Fr.nil n0; have w := @ww Z a0 hw
  obtain ⟨_, T1, Lc1, X1, hQ1, st1⟩ := own_fin (X0.specialBack hx (y := mN19) rfl hown (mvT hZ (w 183 rfl)) (mvT hZ (w 184 rfl)) (mvT hZ (w 188 rfl)) (by decide) (backOf (W := 0) (rm27_1 l Z a0 hw [] r0 h0 n0 O0) hZ (w 188 rfl) (w 187 rfl) (by decide) (by decide)) (g := (mkF m 1 #[lR r0] [(.ref r0)])) rfl (by rw [hml]; rfl) (Steps.refl _) (a := r0) (argsL := []) (rest := []) (lenOf pd___V rfl) rfl (own_W rfl) (hb hby d26_1) (fun _ _ => ⟨rfl, e0, (by decide : 0 + 0 ≤ _), (by decide : 0 + 0 ≤ _)⟩))
  obtain ⟨rfl, N1q, E1⟩ := hQ1
  have N1 := Fr.app N0 N1q
  refine ⟨none, _, _, _, _, (fun _ => rfl), X1, by decide, by decide, ?_, fun fs hr => ?_⟩
  · rw [E1]; exact ⟨rfl, N1, rfl⟩
  · show SG p e below s₁ (mkF m 0 #[lR r0] []) _
    refine qaN X0 hx hby d26_0 ?_
    refine st1.trans ?_
    exact X1.returnOut hx hret (hb hby d26_4) hr
theorem d25_4 : DK cB25 4 (.aload_n 0) 1 := by decide +kernel
theorem d25_5 : DK cB25 5 (.aload_n 1) 1 := by decide +kernel
theorem d25_6 : DK cB25 6 (.invokestatic 7) 3 := by decide +kernel
theorem d28_0 : DK cB28 0 (.aload_n 0) 1 := by decide +kernel
theorem d28_1 : DK cB28 1 (.ifnonnull 11) 3 := by decide +kernel
theorem d28_12 : DK cB28 12 (.aload_n 0) 1 := by decide +kernel
theorem d28_13 : DK cB28 13 (.areturn) 1 := by decide +kernel
theorem pn_java_util_Objects : plainName "java/util/Objects" = true := by first | (simp [plainName, overriddenIn]; done) | decide +kernel
def Q28_1 (Z : State) (r0 : Addr) (h0 : Heap) (n0 : Nat) (v : Option Value) (h : Heap) (L : List Loc) : Prop := v = some (.ref r0) ∧ Fr n0 L ∧ h = h0
theorem rm28_1 (l : Launch) (Z : State) (a0 : Array Value) (hw : own_HW a0 Z) (ws : List Jvm.Cond) (r0 : Addr) (h0 : Heap) (n0 : Nat) (O0 : Old Z n0 h0) :
    own_MF l mN21 jdk_31_method_10_code 1 (some (.object "java/lang/Object")) ws rR0_0_0_0 Z h0 #[(.ref r0)] (Q28_1 Z r0 h0 n0) := by
  refine own_open (plainFor_of_name pn_java_util_Objects) (L0 := #[lR r0]) (fun _ => by first | (simp [entryFrame, mkF, argsToLocals, Value.category]; done) | rfl) ?_
  intro p e s m below meth c s₁ hx hby hml hret hnn hZ hown X0 e0
  have N0 := Fr.nil n0
  refine ⟨some (.ref r0), _, _, _, _, nofun, X0, by decide, by decide, ?_, fun fs hr => ?_⟩
  · rw [e0]; exact ⟨rfl, N0, rfl⟩
  · show SG p e below s₁ (mkF m 0 #[lR r0] []) _
    refine qaN X0 hx hby d28_0 ?_
    refine XS.ifnonnullYes X0.here hx rfl (pc0 := 1) (pc' := 12) rfl (hb hby d28_1) rfl (by decide) (by decide) ?_
    refine qaN X0 hx hby d28_12 ?_
    exact retOut X0 hx (i := .areturn) hret rfl (Or.inr (Or.inr (Or.inr (Or.inr ⟨rfl, rfl, rfl⟩)))) (hb hby d28_13) hr
theorem pd__Ljava_lang_Object__Ljava_lang_Object_ : parseMethodDescriptor "(Ljava/lang/Object;)Ljava/lang/Object;" = some ⟨[(.object "java/lang/Object")], some (.object "java/lang/Object")⟩ := by decide +kernel
theorem d25_9 : DK cB25 9 (.putfield 13) 3 := by decide +kernel
theorem d25_12 : DK cB25 12 (.aload_n 0) 1 := by decide +kernel
theorem d25_13 : DK cB25 13 (.getstatic 19) 3 := by decide +kernel
theorem d25_16 : DK cB25 16 (.putfield 24) 3 := by decide +kernel
theorem d25_19 : DK cB25 19 (.return_) 1 := by decide +kernel
theorem pn_java_util_ImmutableCollections_List12 : plainName cs7 = true := by first | (simp [plainName, overriddenIn]; done) | decide +kernel
def Q25_1 (Z : State) (r0 r1 r2 : Addr) (h0 : Heap) (n0 : Nat) (v : Option Value) (h : Heap) (L : List Loc) : Prop := v = none ∧ Fr n0 L ∧ Keep h0 h [r0] ∧ Fld Z h r0 cs7 "e0" "Ljava/lang/Object;" (.ref r1) ∧ Fld Z h r0 cs7 "e1" "Ljava/lang/Object;" (.ref r2)
theorem rm25_1 (l : Launch) (Z : State) (a0 : Array Value) (hw : own_HW a0 Z) (ws : List Jvm.Cond) (r0 r1 r2 : Addr) (h0 : Heap) (n0 : Nat) (O0 : Old Z n0 h0) (f3 : Exa Z h0 r0 cs7) (f4 : Fld Z h0 r0 cs7 "e0" "Ljava/lang/Object;" .null) (g5 : n0 ≤ r0) (f7 : Sta Z Z.heap cs8 "EMPTY" "Ljava/lang/Object;" (.ref r2)) (f12 : Fld Z h0 r0 cs7 "e1" "Ljava/lang/Object;" .null) :
    own_MF l mN22 jdk_44_method_1_code 2 none ws rR4_0_0_48 Z h0 #[(.ref r0), (.ref r1)] (Q25_1 Z r0 r1 r2 h0 n0) := by
  refine own_open (plainFor_of_name pn_java_util_ImmutableCollections_List12) (L0 := #[lR r0, lR r1]) (fun _ => by first | (simp [entryFrame, mkF, argsToLocals, Value.category]; done) | rfl) ?_
  intro p e s m below meth c s₁ hx hby hml hret hnn hZ hown X0 e0
  have N0 := Fr.nil n0; have w := @ww Z a0 hw
  have hnm := (name_of_methodNamed hnn.1 hnn.2).1
  obtain ⟨_, T1, Lc1, X1, hQ1, st1⟩ := own_fin (X0.specialBack hx (y := mN20) rfl hown (mvT hZ (w 177 rfl)) (mvT hZ (w 178 rfl)) (mvT hZ (w 182 rfl)) (by decide) (backOf (W := 0) (rm26_1 l Z a0 hw [] r0 h0 n0 O0) hZ (w 182 rfl) (w 181 rfl) (by decide) (by decide)) (g := (mkF m 1 #[lR r0, lR r1] [(.ref r0)])) rfl (by rw [hml]; rfl) (Steps.refl _) (a := r0) (argsL := []) (rest := []) (lenOf pd___V rfl) rfl (own_W rfl) (hb hby d25_1) (fun _ _ => ⟨rfl, e0, (by decide : 0 + 0 ≤ _), (by decide : 0 + 0 ≤ _)⟩))
  obtain ⟨rfl, N1q, E1⟩ := hQ1
  have N1 := Fr.app N0 N1q
  obtain ⟨_, T2, Lc2, X2, hQ2, st2⟩ := own_cS X1 hx hZ hown E1 (rm28_1 l Z a0 hw [] r1 h0 n0 O0) (w 191 rfl) (w 192 rfl) (w 193 rfl) (w 194 rfl) (by decide) (W := 1) (by decide) (by decide) (by decide) (by decide) (g := (mkF m 6 #[lR r0, lR r1] [(.ref r1), (.ref r0)])) rfl (by rw [hml]; rfl) (argsL := [(.ref r1)]) (rest := [(.ref r0)]) (lenOf pd__Ljava_lang_Object__Ljava_lang_Object_ rfl) rfl (own_W rfl) (hb hby d25_6)
  obtain ⟨rfl, N2q, E2⟩ := hQ2
  have N2 := Fr.app N1 N2q
  obtain ⟨T6, h6, X6, e6, W6, st6⟩ := putF X2 hx hZ hown (host := "") (Or.inl (w 195 rfl)) Via.refl E2 f4 f3 (Or.inr ⟨(w 196 rfl), rfl, hnm⟩) (w 171 rfl) (ty := (.object "java/lang/Object")) (by decide) rfl rfl (g := (mkF m 9 #[lR r0, lR r1] [(.ref r1), (.ref r0)])) rfl rfl (hb hby d25_9)
  have Fw6 := f4.same W6
  have N6 := Fr.snoc X6 N2 g5
  have o8 := Old.wr O0 W6 g5
  have f9 := f7.ext o8.2
  obtain ⟨T10, X10, e10, st10⟩ := getS2 X6 hx hZ hown (Or.inr (w 197 rfl)) Via.refl e6 f9 (g := (mkF m 13 #[lR r0, lR r1] [(.ref r0)])) rfl (hb hby d25_13)
  have f11 := (f3.wr W6)
  have f13 := (f12.other W6 (Or.inr (slot_ne (Or.inr (w 199 rfl)) (Or.inr (w 196 rfl)) (by decide) (t := (.object "java/lang/Object")) (t' := (.object "java/lang/Object")) (by decide) (by decide))))
  obtain ⟨T14, h14, X14, e14, W14, st14⟩ := putF X10 hx hZ hown (host := "") (Or.inl (w 198 rfl)) Via.refl e10 f13 f11 (Or.inr ⟨(w 199 rfl), rfl, hnm⟩) (w 171 rfl) (ty := (.object "java/lang/Object")) (by decide) rfl rfl (g := (mkF m 16 #[lR r0, lR r1] [(.ref r2), (.ref r0)])) rfl rfl (hb hby d25_16)
  have Fw14 := f13.same W14
  have N14 := Fr.snoc X14 N6 g5
  have f15 := (Fw6.other W14 (Or.inr (slot_ne (Or.inr (w 196 rfl)) (Or.inr (w 199 rfl)) (by decide) (t := (.object "java/lang/Object")) (t' := (.object "java/lang/Object")) (by decide) (by decide))))
  have kp16 : Keep h0 h6 [r0] := (Keep.refl h0 [r0]).wr W6 (Or.inl (List.mem_of_getElem? (i := 0) rfl))
  have kp17 : Keep h0 h14 [r0] := kp16.wr W14 (Or.inl (List.mem_of_getElem? (i := 0) rfl))
  refine ⟨none, _, _, _, _, (fun _ => rfl), X14, by decide, by decide, ?_, fun fs hr => ?_⟩
  · rw [e14]; exact ⟨rfl, N14, kp17, f15, Fw14⟩
  · show SG p e below s₁ (mkF m 0 #[lR r0, lR r1] []) _
    refine qaN X0 hx hby d25_0 ?_
    refine st1.trans ?_
    refine qaN X1 hx hby d25_4 ?_
    refine qaN X1 hx hby d25_5 ?_
    refine st2 _ ?_
    refine st6 _ ?_
    refine qaN X6 hx hby d25_12 ?_
    refine st10 _ ?_
    refine st14 _ ?_
    exact X14.returnOut hx hret (hb hby d25_19) hr
theorem pd__Ljava_lang_Object__V : parseMethodDescriptor "(Ljava/lang/Object;)V" = some ⟨[(.object "java/lang/Object")], none⟩ := by decide +kernel
theorem d24_44 : DK cB24 44 (.areturn) 1 := by decide +kernel
theorem pn_java_util_List : plainName "java/util/List" = true := by first | (simp [plainName, overriddenIn]; done) | decide +kernel
def Q24_1 (Z : State) (r2 r3 : Addr) (h0 : Heap) (n0 : Nat) (v : Option Value) (h : Heap) (L : List Loc) : Prop := ∃ (b3 : Addr), v = some (.ref b3) ∧ Fr n0 L ∧ Keep h0 h [] ∧ h0.size ≤ b3 ∧ Exa Z h b3 cs7 ∧ Fld Z h b3 cs7 "e0" "Ljava/lang/Object;" (.ref r2) ∧ Fld Z h b3 cs7 "e1" "Ljava/lang/Object;" (.ref r3)
theorem rm24_1 (l : Launch) (Z : State) (a0 : Array Value) (hw : own_HW a0 Z) (ws : List Jvm.Cond) (r0 : Addr) (c1 : ClassId) (r2 r3 : Addr) (h0 : Heap) (n0 : Nat) (O0 : Old Z n0 h0) (f1 : Arv Z h0 r0 c1 (.object "java/lang/Object") (1 : Int32) [(.ref r2)] .null) (f10 : Sta Z Z.heap cs8 "EMPTY" "Ljava/lang/Object;" (.ref r3)) :
    own_MF l mN23 jdk_40_method_47_code 2 (some (.object "java/util/List")) ws rR5_1_2_62 Z h0 #[(.ref r0)] (Q24_1 Z r2 r3 h0 n0) := by
  refine own_open (plainFor_of_name pn_java_util_List) (L0 := #[lR r0, lU]) (fun _ => by first | (simp [entryFrame, mkF, argsToLocals, Value.category]; done) | rfl) ?_
  intro p e s m below meth c s₁ hx hby hml hret hnn hZ hown X0 e0
  have N0 := Fr.nil n0; have w := @ww Z a0 hw
  obtain ⟨clq2, Arq2, qq2, Sq2, Nq2, Hq2, Gq2⟩ := id f1
  obtain ⟨T3, h3, X3, e3, E3, A3, D3, -, st3⟩ := newO X0 hx hZ hown (w 170 rfl) (w 171 rfl) (w 172 rfl) e0 (g := (mkF m 34 #[lR r0, lU] [])) rfl (hb hby d24_34) (by decide) (by decide)
  obtain ⟨b3, g3⟩ : ∃ z, z = h0.size := ⟨_, rfl⟩
  rw [← g3] at A3 D3 st3
  have f4 : Fld Z h3 b3 cs7 "e0" "Ljava/lang/Object;" .null := D3 (Or.inr (w 196 rfl)) (ty := (.object "java/lang/Object")) (by decide)
  have f5 : Fld Z h3 b3 cs7 "e1" "Ljava/lang/Object;" .null := D3 (Or.inr (w 199 rfl)) (ty := (.object "java/lang/Object")) (by decide)
  have f6 := (f1.ext E3)
  obtain ⟨clq7, Arq7, qq7, Sq7, Nq7, Hq7, Gq7⟩ := id f6
  have zz8 : n0 ≤ h0.size := by rw [← O0.1]; exact O0.2.1
  have g9 := Nat.le_trans zz8 (Nat.le_of_eq g3.symm)
  have o11 := Old.ext O0 E3
  obtain ⟨_, T12, Lc12, X12, hQ12, st12⟩ := own_fin (X3.specialBack hx (y := mN22) rfl hown (mvT hZ (w 173 rfl)) (mvT hZ (w 174 rfl)) (mvT hZ (w 176 rfl)) (by decide) (backOf (W := 1) (rm25_1 l Z a0 hw [] b3 r2 r3 h3 n0 o11 A3 f4 g9 f10 f5) hZ (w 176 rfl) (w 172 rfl) (by decide) (by decide)) (g := (mkF m 41 #[lR r0, lU] [(.ref r2), (.ref b3), (.ref b3)])) rfl (by rw [hml]; rfl) (Steps.refl _) (a := b3) (argsL := [(.ref r2)]) (rest := [(.ref b3)]) (lenOf pd__Ljava_lang_Object__V rfl) rfl (own_W rfl) (hb hby d24_41) (fun _ _ => ⟨rfl, e3, (by decide : 1 + 0 ≤ _), (by decide : 2 + 0 ≤ _)⟩))
  obtain ⟨rfl, N12q, K12, f13, f14⟩ := hQ12
  have N12 := Fr.app N0 N12q
  have f15 := (A3.keep K12)
  have kp16 : Keep h0 h3 [] := (Keep.refl h0 []).ext E3
  have kp17 : Keep h0 T12.heap [] := kp16.trans K12 (allS (Or.inr (Nat.le_of_eq g3.symm)) all0)
  refine ⟨some (.ref b3), _, _, _, _, nofun, X12, by decide, by decide, ?_, fun fs hr => ?_⟩
  · exact ⟨b3, rfl, N12, kp17, (Nat.le_of_eq g3.symm), f15, f13, f14⟩
  · show SG p e below s₁ (mkF m 0 #[lR r0, lU] []) _
    refine qaN X0 hx hby d24_0 ?_
    refine X0.arraylength hx (by rw [e0]; exact Arq2.1) (State.isArrayOf_alike hZ.alike Arq2.2.1) (g := (mkF m 1 #[lR r0, lU] [(.ref r0)])) rfl rfl (hb hby d24_1) _ ?_
    rw [len_of Sq2 Nq2]
    refine XS.tswIn X0.here hx rfl (pc0 := 2) (pc' := 34) rfl (hb hby d24_2) rfl (by decide) rfl (by decide) (by decide) ?_
    refine st3 _ ?_
    refine qd X3 hx hby d24_37 ?_
    refine qaN X3 hx hby d24_38 ?_
    refine qc X3 hx hby d24_39 ?_
    refine X3.aaload hx (j := (0 : Int32)) (v := (.ref r2)) (by rw [e3]; exact Arq7.1) (State.isArrayOf_alike hZ.alike Arq7.2.1) rfl Arq7.2.2 (inb_of Sq7 ⟨(by decide : ¬ ((0 : Int32) < (0 : Int32))), (by decide : (0 : Int32) < (1 : Int32))⟩) (Has.at Hq7 (inb_of Sq7 ⟨(by decide : ¬ ((0 : Int32) < (0 : Int32))), (by decide : (0 : Int32) < (1 : Int32))⟩) rfl) (g := (mkF m 40 #[lR r0, lU] [vI0, (.ref r0), (.ref b3), (.ref b3)])) rfl rfl (hb hby d24_40) _ ?_
    refine st12.trans ?_
    exact retOut X12 hx (i := .areturn) hret rfl (Or.inr (Or.inr (Or.inr (Or.inr ⟨rfl, rfl, rfl⟩)))) (hb hby d24_44) hr
theorem pd___Ljava_lang_Object__Ljava_util_List_ : parseMethodDescriptor cs9 = some ⟨[(.array (.object "java/lang/Object"))], some (.object "java/util/List")⟩ := by decide +kernel
theorem d18_53 : DK cB18 53 (.areturn) 1 := by decide +kernel
theorem pn_java_util_ImmutableCollections : plainName cs8 = true := by first | (simp [plainName, overriddenIn]; done) | decide +kernel
def Q18_1 (Z : State) (r4 r5 : Addr) (h0 : Heap) (n0 : Nat) (v : Option Value) (h : Heap) (L : List Loc) : Prop := ∃ (b18_0 : Addr), v = some (.ref b18_0) ∧ Fr n0 L ∧ Keep h0 h [] ∧ h0.size ≤ b18_0 ∧ Exa Z h b18_0 cs7 ∧ Fld Z h b18_0 cs7 "e0" "Ljava/lang/Object;" (.ref r4) ∧ Fld Z h b18_0 cs7 "e1" "Ljava/lang/Object;" (.ref r5)
theorem rm18_1 (l : Launch) (Z : State) (a0 : Array Value) (hw : own_HW a0 Z) (ws : List Jvm.Cond) (r0 r1 r2 : Addr) (c3 : ClassId) (r4 r5 : Addr) (h0 : Heap) (n0 : Nat) (O0 : Old Z n0 h0) (f1 : Exa Z h0 r0 "java/util/ArrayList") (f4 : Fld Z h0 r0 "java/util/ArrayList" "size" "I" vI1) (f6 : Fld Z h0 r0 "java/util/ArrayList" "elementData" "[Ljava/lang/Object;" (.ref r1)) (f7 : Exa Z h0 r1 "[Ljava/lang/Object;") (f8 : own_Mir Z "[Ljava/lang/Object;" r2) (f9 : Arv Z h0 r1 c3 (.object "java/lang/Object") (10 : Int32) [(.ref r4), .null, .null, .null, .null, .null, .null, .null, .null, .null] .null) (f10 : Exa Z h0 r4 cs0) (f16 : Sta Z Z.heap cs8 "EMPTY" "Ljava/lang/Object;" (.ref r5)) :
    own_MF l mN24 jdk_56_method_3_code 2 (some (.object "java/util/List")) ws rR6_2_3_75 Z h0 #[(.ref r0)] (Q18_1 Z r4 r5 h0 n0) := by
  refine own_open (plainFor_of_name pn_java_util_ImmutableCollections) (L0 := #[lR r0, lU]) (fun _ => by first | (simp [entryFrame, mkF, argsToLocals, Value.category]; done) | rfl) ?_
  intro p e s m below meth c s₁ hx hby hml hret hnn hZ hown X0 e0
  have N0 := Fr.nil n0; have w := @ww Z a0 hw
  obtain ⟨T2, X2, e2, st2⟩ := instNo X0 hx hZ hown (w 122 rfl) e0 f1 (own_NSno (w 123 rfl) (w 171 rfl) (NS.step (w 123 rfl) (NS.step (w 124 rfl) (NS.step (w 125 rfl) (own_NSroot (w 126 rfl) (w 171 rfl) (by decide)) (by decide)) (by decide)) (by decide)) (by decide)) (g := (mkF m 1 #[lR r0, lU] [(.ref r0)])) rfl rfl (hb hby d18_1)
  obtain ⟨T3, X3, e3, st3⟩ := instNo X2 hx hZ hown (w 127 rfl) e2 f1 (own_NSno (w 123 rfl) (w 294 rfl) (NS.step (w 123 rfl) (NS.step (w 124 rfl) (NS.step (w 125 rfl) (own_NSroot (w 126 rfl) (w 294 rfl) (by decide)) (by decide)) (by decide)) (by decide)) (by decide)) (g := (mkF m 8 #[lR r0, lU] [(.ref r0)])) rfl rfl (hb hby d18_8)
  obtain ⟨_, T5, Lc5, X5, hQ5, st5⟩ := own_cI (xi := mN25) X3 hx hZ hown e3 (rm19_1 l Z a0 hw [] r0 h0 n0 O0 f4) f1 (w 128 rfl) (w 129 rfl) (w 130 rfl) (w 131 rfl) (w 132 rfl) (w 133 rfl) (w 134 rfl) (w 135 rfl) (w 136 rfl) (w 46 rfl) (by decide) (W := 0) (by decide) (by decide) (by decide) (by decide) (g := (mkF m 32 #[lR r0, lU] [(.ref r0)])) rfl (by rw [hml]; rfl) (argsL := []) (rest := []) (lenOf pd___Z rfl) rfl (own_W rfl) (hb hby d18_32)
  obtain ⟨rfl, N5q, E5⟩ := hQ5
  have N5 := Fr.app N0 N5q
  obtain ⟨_, T11, Lc11, X11, hQ11, st11⟩ := own_cI (xi := mN26) X5 hx hZ hown E5 (rm20_1 l Z a0 hw [] r0 r1 r2 c3 r4 h0 n0 O0 f6 f4 f7 f8 f9 f10) f1 (w 137 rfl) (w 138 rfl) (w 139 rfl) (w 140 rfl) (w 141 rfl) (w 142 rfl) (w 143 rfl) (w 135 rfl) (w 144 rfl) (w 46 rfl) (by decide) (W := 0) (by decide) (by decide) (by decide) (by decide) (g := (mkF m 45 #[lR r0, lU] [(.ref r0)])) rfl (by rw [hml]; rfl) (argsL := []) (rest := []) (lenOf pd____Ljava_lang_Object_ rfl) rfl (own_W rfl) (hb hby d18_45)
  obtain ⟨b11_0, k11_0, rfl, N11q, K11, f12, f13, f14, f15⟩ := hQ11
  have N11 := Fr.app N5 N11q
  have o17 := Old.keep O0 K11 all0
  obtain ⟨_, T18, Lc18, X18, hQ18, st18⟩ := own_cS X11 hx hZ hown rfl (rm24_1 l Z a0 hw [] b11_0 k11_0 r4 r5 T11.heap n0 o17 f13 f16) (w 167 rfl) (w 168 rfl) (w 116 rfl) (w 169 rfl) (by decide) (W := 0) (by decide) (by decide) (by decide) (by decide) (g := (mkF m 50 #[lR r0, lU] [(.ref b11_0)])) rfl (by rw [hml]; rfl) (argsL := [(.ref b11_0)]) (rest := []) (lenOf pd___Ljava_lang_Object__Ljava_util_List_ rfl) rfl (own_W rfl) (hb hby d18_50)
  obtain ⟨b18_0, rfl, N18q, K18, f19, f20, f21, f22⟩ := hQ18
  have N18 := Fr.app N11 N18q
  have zs23 := K11.1
  have kp24 : Keep h0 T11.heap [] := (Keep.refl h0 []).trans K11 all0
  have kp25 : Keep h0 T18.heap [] := kp24.trans K18 all0
  refine ⟨some (.ref b18_0), _, _, _, _, nofun, X18, by decide, by decide, ?_, fun fs hr => ?_⟩
  · exact ⟨b18_0, rfl, N18, kp25, (Nat.le_trans zs23 f19), f20, f21, f22⟩
  · show SG p e below s₁ (mkF m 0 #[lR r0, lU] []) _
    refine qaN X0 hx hby d18_0 ?_
    refine st2 _ ?_
    refine XS.ifNo X2.here hx rfl (hb hby d18_4) rfl ((if0 _ _).trans (teq (rfl : (0 : Int32) = (0 : Int32))).2) ?_
    refine qaN X2 hx hby d18_7 ?_
    refine st3 _ ?_
    refine XS.ifYes X3.here hx rfl (pc0 := 11) (pc' := 31) rfl (hb hby d18_11) rfl ((if0 _ _).trans (teq (rfl : (0 : Int32) = (0 : Int32))).1) (by decide) (by decide) ?_
    refine qaN X3 hx hby d18_31 ?_
    refine st5 _ ?_
    refine XS.ifYes X5.here hx rfl (pc0 := 37) (pc' := 44) rfl (hb hby d18_37) rfl ((if0 _ _).trans (teq (rfl : (0 : Int32) = (0 : Int32))).1) (by decide) (by decide) ?_
    refine qaN X5 hx hby d18_44 ?_
    show SG p e below T5 (mkF m 45 #[lR r0, lU] [(.ref r0)]) _
    refine st11 _ ?_
    refine st18 _ ?_
    exact retOut X18 hx (i := .areturn) hret rfl (Or.inr (Or.inr (Or.inr (Or.inr ⟨rfl, rfl, rfl⟩)))) (hb hby d18_53) hr
theorem pd__Ljava_util_Collection__Ljava_util_List_ : parseMethodDescriptor cs10 = some ⟨[(.object "java/util/Collection")], some (.object "java/util/List")⟩ := by decide +kernel
theorem d17_4 : DK cB17 4 (.areturn) 1 := by decide +kernel
def Q17_1 (Z : State) (r4 r5 : Addr) (h0 : Heap) (n0 : Nat) (v : Option Value) (h : Heap) (L : List Loc) : Prop := ∃ (b9_0 : Addr), v = some (.ref b9_0) ∧ Fr n0 L ∧ Keep h0 h [] ∧ h0.size ≤ b9_0 ∧ Exa Z h b9_0 cs7 ∧ Fld Z h b9_0 cs7 "e0" "Ljava/lang/Object;" (.ref r4) ∧ Fld Z h b9_0 cs7 "e1" "Ljava/lang/Object;" (.ref r5)
theorem rm17_1 (l : Launch) (Z : State) (a0 : Array Value) (hw : own_HW a0 Z) (ws : List Jvm.Cond) (r0 r1 r2 : Addr) (c3 : ClassId) (r4 r5 : Addr) (h0 : Heap) (n0 : Nat) (O0 : Old Z n0 h0) (f1 : Exa Z h0 r0 "java/util/ArrayList") (f2 : Fld Z h0 r0 "java/util/ArrayList" "size" "I" vI1) (f3 : Fld Z h0 r0 "java/util/ArrayList" "elementData" "[Ljava/lang/Object;" (.ref r1)) (f4 : Exa Z h0 r1 "[Ljava/lang/Object;") (f5 : own_Mir Z "[Ljava/lang/Object;" r2) (f6 : Arv Z h0 r1 c3 (.object "java/lang/Object") (10 : Int32) [(.ref r4), .null, .null, .null, .null, .null, .null, .null, .null, .null] .null) (f7 : Exa Z h0 r4 cs0) (f8 : Sta Z Z.heap cs8 "EMPTY" "Ljava/lang/Object;" (.ref r5)) :
    own_MF l mN27 jdk_40_method_48_code 1 (some (.object "java/util/List")) ws rR7_2_3_88 Z h0 #[(.ref r0)] (Q17_1 Z r4 r5 h0 n0) := by
  refine own_open (plainFor_of_name pn_java_util_List) (L0 := #[lR r0]) (fun _ => by first | (simp [entryFrame, mkF, argsToLocals, Value.category]; done) | rfl) ?_
  intro p e s m below meth c s₁ hx hby hml hret hnn hZ hown X0 e0
  have N0 := Fr.nil n0
  obtain ⟨_, T9, Lc9, X9, hQ9, st9⟩ := own_cS X0 hx hZ hown e0 (rm18_1 l Z a0 hw [] r0 r1 r2 c3 r4 r5 h0 n0 O0 f1 f2 f3 f4 f5 f6 f7 f8) (ww hw 118 rfl) (ww hw 119 rfl) (ww hw 120 rfl) (ww hw 121 rfl) (by decide) (W := 0) (by decide) (by decide) (by decide) (by decide) (g := (mkF m 1 #[lR r0] [(.ref r0)])) rfl (by rw [hml]; rfl) (argsL := [(.ref r0)]) (rest := []) (lenOf pd__Ljava_util_Collection__Ljava_util_List_ rfl) rfl (own_W rfl) (hb hby d17_1)
  obtain ⟨b9_0, rfl, N9q, K9, f10, f11, f12, f13⟩ := hQ9
  have N9 := Fr.app N0 N9q
  have kp14 : Keep h0 T9.heap [] := (Keep.refl h0 []).trans K9 all0
  refine ⟨some (.ref b9_0), _, _, _, _, nofun, X9, by decide, by decide, ?_, fun fs hr => ?_⟩
  · exact ⟨b9_0, rfl, N9, kp14, f10, f11, f12, f13⟩
  · show SG p e below s₁ (mkF m 0 #[lR r0] []) _
    refine qaN X0 hx hby d17_0 ?_
    refine st9 _ ?_
    exact retOut X9 hx (i := .areturn) hret rfl (Or.inr (Or.inr (Or.inr (Or.inr ⟨rfl, rfl, rfl⟩)))) (hb hby d17_4) hr
theorem d16_19 : DK cB16 19 (.putfield 23) 3 := by decide +kernel
theorem d16_22 : DK cB16 22 (.aload_n 0) 1 := by decide +kernel
theorem d16_23 : DK cB16 23 (.aload_n 0) 1 := by decide +kernel
theorem d16_24 : DK cB16 24 (.getfield 23) 3 := by decide +kernel
theorem d16_27 : DK cB16 27 (.invokestatic 27) 3 := by decide +kernel
theorem d29_0 : DK cB29 0 (.aload_n 0) 1 := by decide +kernel
theorem d29_1 : DK cB29 1 (.invokeinterface 100 1) 5 := by decide +kernel
theorem d30_0 : DK cB30 0 (.aload_n 0) 1 := by decide +kernel
theorem d30_1 : DK cB30 1 (.getfield 24) 3 := by decide +kernel
theorem d30_4 : DK cB30 4 (.getstatic 19) 3 := by decide +kernel
theorem d30_7 : DK cB30 7 (.if_acmp .eq 7) 3 := by decide +kernel
theorem d30_14 : DK cB30 14 (.iconst 1) 1 := by decide +kernel
theorem d30_15 : DK cB30 15 (.ireturn) 1 := by decide +kernel
def Q30_1 (Z : State)  (h0 : Heap) (n0 : Nat) (v : Option Value) (h : Heap) (L : List Loc) : Prop := v = some vI1 ∧ Fr n0 L ∧ h = h0
theorem rm30_1 (l : Launch) (Z : State) (a0 : Array Value) (hw : own_HW a0 Z) (ws : List Jvm.Cond) (r0 r1 : Addr) (h0 : Heap) (n0 : Nat) (O0 : Old Z n0 h0) (f1 : Fld Z h0 r0 cs7 "e1" "Ljava/lang/Object;" (.ref r1)) (f3 : Sta Z Z.heap cs8 "EMPTY" "Ljava/lang/Object;" (.ref r1)) :
    own_MF l mN28 jdk_44_method_3_code 1 (some .int) ws rR0_0_0_0 Z h0 #[(.ref r0)] (Q30_1 Z  h0 n0) := by
  refine own_open (plainFor_of_name pn_java_util_ImmutableCollections_List12) (L0 := #[lR r0]) (fun _ => by first | (simp [entryFrame, mkF, argsToLocals, Value.category]; done) | rfl) ?_
  intro p e s m below meth c s₁ hx hby hml hret hnn hZ hown X0 e0
  have N0 := Fr.nil n0
  obtain ⟨T2, X2, e2, st2⟩ := getF X0 hx hZ hown (host := "") (Or.inl (ww hw 198 rfl)) Via.refl e0 f1 (g := (mkF m 1 #[lR r0] [(.ref r0)])) rfl rfl (hb hby d30_1)
  have f4 := f3.ext O0.2
  obtain ⟨T5, X5, e5, st5⟩ := getS2 X2 hx hZ hown (Or.inr (ww hw 197 rfl)) Via.refl e2 f4 (g := (mkF m 4 #[lR r0] [(.ref r1)])) rfl (hb hby d30_4)
  refine ⟨some vI1, _, _, _, _, nofun, X5, by decide, by decide, ?_, fun fs hr => ?_⟩
  · rw [e5]; exact ⟨rfl, N0, rfl⟩
  · show SG p e below s₁ (mkF m 0 #[lR r0] []) _
    refine qaN X0 hx hby d30_0 ?_
    refine st2 _ ?_
    refine st5 _ ?_
    refine Jvm.RoadKit.acmp (g := (mkF m 7 #[lR r0] [(.ref r1), (.ref r1)])) X5 hx rfl rfl rfl (pc0 := 7) (pc' := 14) (same := true) rfl (hb hby d30_7) rfl (decide_eq_true rfl) (by decide) (by decide) ?_
    refine qc X5 hx hby d30_14 ?_
    exact retOut X5 hx (i := .ireturn) hret rfl (Or.inl ⟨rfl, Or.inl rfl, _, rfl⟩) (hb hby d30_15) hr
theorem pd___I : parseMethodDescriptor "()I" = some ⟨[], some .int⟩ := by decide +kernel
theorem d29_6 : DK cB29 6 (.newarray .int) 2 := by decide +kernel
theorem d29_8 : DK cB29 8 (.astore_n 1) 1 := by decide +kernel
theorem d29_9 : DK cB29 9 (.aload_n 0) 1 := by decide +kernel
theorem d29_10 : DK cB29 10 (.invokeinterface 100 1) 5 := by decide +kernel
theorem d29_15 : DK cB29 15 (.newarray .int) 2 := by decide +kernel
theorem d29_17 : DK cB29 17 (.astore_n 2) 1 := by decide +kernel
theorem d29_18 : DK cB29 18 (.iconst 0) 1 := by decide +kernel
theorem d29_19 : DK cB29 19 (.istore_n 3) 1 := by decide +kernel
theorem d29_20 : DK cB29 20 (.iconst 0) 1 := by decide +kernel
theorem d29_21 : DK cB29 21 (.istore 4) 2 := by decide +kernel
theorem d29_23 : DK cB29 23 (.iload 4) 2 := by decide +kernel
theorem d29_25 : DK cB29 25 (.aload_n 0) 1 := by decide +kernel
theorem d29_26 : DK cB29 26 (.invokeinterface 100 1) 5 := by decide +kernel
theorem d29_31 : DK cB29 31 (.if_icmp .ge 72) 3 := by decide +kernel
theorem d29_34 : DK cB29 34 (.aload_n 0) 1 := by decide +kernel
theorem d29_35 : DK cB29 35 (.iload 4) 2 := by decide +kernel
theorem d29_37 : DK cB29 37 (.invokeinterface 39 2) 5 := by decide +kernel
theorem d31_0 : DK cB31 0 (.iload_n 1) 1 := by decide +kernel
theorem d31_1 : DK cB31 1 (.ifCond .ne 8) 3 := by decide +kernel
theorem d31_4 : DK cB31 4 (.aload_n 0) 1 := by decide +kernel
theorem d31_5 : DK cB31 5 (.getfield 13) 3 := by decide +kernel
theorem d31_8 : DK cB31 8 (.areturn) 1 := by decide +kernel
def Q31_1 (Z : State) (r1 : Addr) (h0 : Heap) (n0 : Nat) (v : Option Value) (h : Heap) (L : List Loc) : Prop := v = some (.ref r1) ∧ Fr n0 L ∧ h = h0
theorem rm31_1 (l : Launch) (Z : State) (a0 : Array Value) (hw : own_HW a0 Z) (ws : List Jvm.Cond) (r0 r1 : Addr) (h0 : Heap) (n0 : Nat) (O0 : Old Z n0 h0) (f1 : Fld Z h0 r0 cs7 "e0" "Ljava/lang/Object;" (.ref r1)) :
    own_MF l mN29 jdk_44_method_5_code 2 (some (.object "java/lang/Object")) ws rR0_0_0_0 Z h0 #[(.ref r0), vI0] (Q31_1 Z r1 h0 n0) := by
  refine own_open (plainFor_of_name pn_java_util_ImmutableCollections_List12) (L0 := #[lR r0, lV vI0]) (fun _ => by first | (simp [entryFrame, mkF, argsToLocals, Value.category]; done) | rfl) ?_
  intro p e s m below meth c s₁ hx hby hml hret hnn hZ hown X0 e0
  have N0 := Fr.nil n0
  obtain ⟨T2, X2, e2, st2⟩ := getF X0 hx hZ hown (host := "") (Or.inl (ww hw 195 rfl)) Via.refl e0 f1 (g := (mkF m 5 #[lR r0, lV vI0] [(.ref r0)])) rfl rfl (hb hby d31_5)
  refine ⟨some (.ref r1), _, _, _, _, nofun, X2, by decide, by decide, ?_, fun fs hr => ?_⟩
  · rw [e2]; exact ⟨rfl, N0, rfl⟩
  · show SG p e below s₁ (mkF m 0 #[lR r0, lV vI0] []) _
    refine qiN X0 hx hby d31_0 ?_
    refine XS.ifNo X0.here hx rfl (hb hby d31_1) rfl ((if0 _ _).trans (teq (rfl : (0 : Int32) = (0 : Int32))).2) ?_
    refine qaN X0 hx hby d31_4 ?_
    refine st2 _ ?_
    exact retOut X2 hx (i := .areturn) hret rfl (Or.inr (Or.inr (Or.inr (Or.inr ⟨rfl, rfl, rfl⟩)))) (hb hby d31_8) hr
theorem pd__I_Ljava_lang_Object_ : parseMethodDescriptor "(I)Ljava/lang/Object;" = some ⟨[.int], some (.object "java/lang/Object")⟩ := by decide +kernel
theorem d29_42 : DK cB29 42 (.checkcast 43) 3 := by decide +kernel
theorem d29_45 : DK cB29 45 (.invokevirtual 59) 3 := by decide +kernel
theorem d32_0 : DK cB32 0 (.aload_n 0) 1 := by decide +kernel
theorem d32_1 : DK cB32 1 (.getfield 7) 3 := by decide +kernel
theorem d32_4 : DK cB32 4 (.areturn) 1 := by decide +kernel
def Q32_1 (Z : State) (r1 : Addr) (h0 : Heap) (n0 : Nat) (v : Option Value) (h : Heap) (L : List Loc) : Prop := v = some (.ref r1) ∧ Fr n0 L ∧ h = h0
theorem rm32_1 (l : Launch) (Z : State) (a0 : Array Value) (hw : own_HW a0 Z) (ws : List Jvm.Cond) (r0 r1 : Addr) (h0 : Heap) (n0 : Nat) (O0 : Old Z n0 h0) (f1 : Fld Z h0 r0 cs0 "path" "Ljava/lang/String;" (.ref r1)) :
    own_MF l mN30 prog_7_method_9_code 1 (some (.object "java/lang/String")) ws rR0_0_0_0 Z h0 #[(.ref r0)] (Q32_1 Z r1 h0 n0) := by
  refine own_open (plainFor_of_name pn_com_example_nearmiss_nearmiss_Element) (L0 := #[lR r0]) (fun _ => by first | (simp [entryFrame, mkF, argsToLocals, Value.category]; done) | rfl) ?_
  intro p e s m below meth c s₁ hx hby hml hret hnn hZ hown X0 e0
  have N0 := Fr.nil n0
  obtain ⟨T2, X2, e2, st2⟩ := getF X0 hx hZ hown (host := "") (Or.inl (ww hw 38 rfl)) Via.refl e0 f1 (g := (mkF m 1 #[lR r0] [(.ref r0)])) rfl rfl (hb hby d32_1)
  refine ⟨some (.ref r1), _, _, _, _, nofun, X2, by decide, by decide, ?_, fun fs hr => ?_⟩
  · rw [e2]; exact ⟨rfl, N0, rfl⟩
  · show SG p e below s₁ (mkF m 0 #[lR r0] []) _
    refine qaN X0 hx hby d32_0 ?_
    refine st2 _ ?_
    exact retOut X2 hx (i := .areturn) hret rfl (Or.inr (Or.inr (Or.inr (Or.inr ⟨rfl, rfl, rfl⟩)))) (hb hby d32_4) hr
theorem pd___Ljava_lang_String_ : parseMethodDescriptor "()Ljava/lang/String;" = some ⟨[], some (.object "java/lang/String")⟩ := by decide +kernel
theorem d29_48 : DK cB29 48 (.astore 5) 2 := by decide +kernel
theorem d29_50 : DK cB29 50 (.iload_n 3) 1 := by decide +kernel
theorem d29_51 : DK cB29 51 (.ifCond .le 38) 3 := by decide +kernel
theorem d29_89 : DK cB29 89 (.aload_n 2) 1 := by decide +kernel
theorem d29_90 : DK cB29 90 (.iload_n 3) 1 := by decide +kernel
theorem d29_91 : DK cB29 91 (.iload 4) 2 := by decide +kernel
theorem d29_93 : DK cB29 93 (.iastore) 1 := by decide +kernel
theorem d29_94 : DK cB29 94 (.iinc 3 1) 3 := by decide +kernel
theorem d29_97 : DK cB29 97 (.iinc 4 1) 3 := by decide +kernel
theorem d29_100 : DK cB29 100 (.goto (-77)) 3 := by decide +kernel
theorem d29_103 : DK cB29 103 (.iload_n 3) 1 := by decide +kernel
theorem d29_104 : DK cB29 104 (.ifCond .le 20) 3 := by decide +kernel
theorem d29_107 : DK cB29 107 (.iinc 3 (-1)) 3 := by decide +kernel
theorem d29_110 : DK cB29 110 (.aload_n 1) 1 := by decide +kernel
theorem d29_111 : DK cB29 111 (.aload_n 2) 1 := by decide +kernel
theorem d29_112 : DK cB29 112 (.iload_n 3) 1 := by decide +kernel
theorem d29_113 : DK cB29 113 (.iaload) 1 := by decide +kernel
theorem d29_114 : DK cB29 114 (.aload_n 0) 1 := by decide +kernel
theorem d29_115 : DK cB29 115 (.invokeinterface 100 1) 5 := by decide +kernel
theorem d29_120 : DK cB29 120 (.iastore) 1 := by decide +kernel
theorem d29_121 : DK cB29 121 (.goto (-18)) 3 := by decide +kernel
theorem d29_124 : DK cB29 124 (.aload_n 1) 1 := by decide +kernel
theorem d29_125 : DK cB29 125 (.areturn) 1 := by decide +kernel
theorem pn_com_example_nearmiss_nearmiss_Document : plainName cs11 = true := by first | (simp [plainName, overriddenIn]; done) | decide +kernel
def Q29_1 (Z : State)  (h0 : Heap) (n0 : Nat) (v : Option Value) (h : Heap) (L : List Loc) : Prop := ∃ (b5 : Addr) (k5 : ClassId), v = some (.ref b5) ∧ Fr n0 L ∧ Keep h0 h [] ∧ h0.size ≤ b5 ∧ Arv Z h b5 k5 .int (1 : Int32) [vI1] vI0 ∧ Exa Z h b5 "[I"
theorem rm29_1 (l : Launch) (Z : State) (a0 : Array Value) (hw : own_HW a0 Z) (ws : List Jvm.Cond) (r0 r1 : Addr) (r2 r3 : Addr) (h0 : Heap) (n0 : Nat) (O0 : Old Z n0 h0) (f1 : Exa Z h0 r0 cs7) (f2 : Fld Z h0 r0 cs7 "e1" "Ljava/lang/Object;" (.ref r1)) (f3 : Sta Z Z.heap cs8 "EMPTY" "Ljava/lang/Object;" (.ref r1)) (f15 : Fld Z h0 r0 cs7 "e0" "Ljava/lang/Object;" (.ref r2)) (f18 : Exa Z h0 r2 cs0) (f21 : Fld Z h0 r2 cs0 "path" "Ljava/lang/String;" (.ref r3)) (l28 : r0 < h0.size) :
    own_MF l mN31 prog_2_method_12_code 6 (some (.array .int)) ws rR1_2_2_14 Z h0 #[(.ref r0)] (Q29_1 Z  h0 n0) := by
  refine own_open (plainFor_of_name pn_com_example_nearmiss_nearmiss_Document) (L0 := #[lR r0, lU, lU, lU, lU, lU]) (fun _ => by first | (simp [entryFrame, mkF, argsToLocals, Value.category]; done) | rfl) ?_
  intro p e s m below meth c s₁ hx hby hml hret hnn hZ hown X0 e0
  have N0 := Fr.nil n0; have w := @ww Z a0 hw
  obtain ⟨_, T4, Lc4, X4, hQ4, st4⟩ := own_cI (xi := mN32) X0 hx hZ hown e0 (rm30_1 l Z a0 hw [] r0 r1 h0 n0 O0 f2 f3) f1 (w 205 rfl) (w 206 rfl) (w 207 rfl) (w 208 rfl) (w 209 rfl) (w 210 rfl) (w 211 rfl) (w 212 rfl) (w 213 rfl) (w 172 rfl) (by decide) (W := 0) (by decide) (by decide) (by decide) (by decide) (g := (mkF m 1 #[lR r0, lU, lU, lU, lU, lU] [(.ref r0)])) rfl (by rw [hml]; rfl) (argsL := []) (rest := []) (lenOf pd___I rfl) rfl (own_W rfl) (hb hby d29_1)
  obtain ⟨rfl, N4q, E4⟩ := hQ4
  have N4 := Fr.app N0 N4q
  obtain ⟨T5, h5, k5, X5, e5, E5, A5, B5, st5⟩ := newPE X4 hx hZ (w 214 rfl) E4 (g := (mkF m 6 #[lR r0, lU, lU, lU, lU, lU] [vI1])) rfl (hb hby d29_6) rfl (by decide) (cap := 1) (by decide) (by decide) (by decide) (by decide) (ad := "[I") rfl
  obtain ⟨b5, g5⟩ : ∃ z, z = h0.size := ⟨_, rfl⟩
  rw [← g5] at A5 B5 st5
  have V5 : Arv Z h5 b5 k5 .int (1 : Int32) [vI0] vI0 := (Arv.new A5 (by decide)).pad (pad_rep [] vI0 1)
  have f6 := (f2.ext E5)
  have o7 := Old.ext O0 E5
  have f9 := (f1.ext E5)
  obtain ⟨_, T8, Lc8, X8, hQ8, st8⟩ := own_cI (xi := mN32) X5 hx hZ hown e5 (rm30_1 l Z a0 hw [] r0 r1 h5 n0 o7 f6 f3) f9 (w 205 rfl) (w 206 rfl) (w 207 rfl) (w 208 rfl) (w 209 rfl) (w 210 rfl) (w 211 rfl) (w 212 rfl) (w 213 rfl) (w 172 rfl) (by decide) (W := 0) (by decide) (by decide) (by decide) (by decide) (g := (mkF m 10 #[lR r0, lR b5, lU, lU, lU, lU] [(.ref r0)])) rfl (by rw [hml]; rfl) (argsL := []) (rest := []) (lenOf pd___I rfl) rfl (own_W rfl) (hb hby d29_10)
  obtain ⟨rfl, N8q, E8⟩ := hQ8
  have N8 := Fr.app N4 N8q
  obtain ⟨T10, h10, k10, X10, e10, E10, A10, B10, st10⟩ := newPE X8 hx hZ (w 214 rfl) E8 (g := (mkF m 15 #[lR r0, lR b5, lU, lU, lU, lU] [vI1])) rfl (hb hby d29_15) rfl (by decide) (cap := 1) (by decide) (by decide) (by decide) (by decide) (ad := "[I") rfl
  obtain ⟨b10, g10⟩ : ∃ z, z = h5.size := ⟨_, rfl⟩
  rw [← g10] at A10 B10 st10
  have V10 : Arv Z h10 b10 k10 .int (1 : Int32) [vI0] vI0 := (Arv.new A10 (by decide)).pad (pad_rep [] vI0 1)
  have f11 := (f6.ext E10)
  have o12 := Old.ext o7 E10
  have f14 := (f9.ext E10)
  obtain ⟨_, T13, Lc13, X13, hQ13, st13⟩ := own_cI (xi := mN32) X10 hx hZ hown e10 (rm30_1 l Z a0 hw [] r0 r1 h10 n0 o12 f11 f3) f14 (w 205 rfl) (w 206 rfl) (w 207 rfl) (w 208 rfl) (w 209 rfl) (w 210 rfl) (w 211 rfl) (w 212 rfl) (w 213 rfl) (w 172 rfl) (by decide) (W := 1) (by decide) (by decide) (by decide) (by decide) (g := (mkF m 26 #[lR r0, lR b5, lR b10, lV vI0, lV vI0, lU] [(.ref r0), vI0])) rfl (by rw [hml]; rfl) (argsL := []) (rest := [vI0]) (lenOf pd___I rfl) rfl (own_W rfl) (hb hby d29_26)
  obtain ⟨rfl, N13q, E13⟩ := hQ13
  have N13 := Fr.app N8 N13q
  have f16 := ((f15.ext E5).ext E10)
  obtain ⟨_, T17, Lc17, X17, hQ17, st17⟩ := own_cI (xi := mN33) X13 hx hZ hown E13 (rm31_1 l Z a0 hw [] r0 r2 h10 n0 o12 f16) f14 (w 215 rfl) (w 216 rfl) (w 217 rfl) (w 218 rfl) (w 219 rfl) (w 220 rfl) (w 221 rfl) (w 212 rfl) (w 222 rfl) (w 172 rfl) (by decide) (W := 0) (by decide) (by decide) (by decide) (by decide) (g := (mkF m 37 #[lR r0, lR b5, lR b10, lV vI0, lV vI0, lU] [vI0, (.ref r0)])) rfl (by rw [hml]; rfl) (argsL := [vI0]) (rest := []) (lenOf pd__I_Ljava_lang_Object_ rfl) rfl (own_W rfl) (hb hby d29_37)
  obtain ⟨rfl, N17q, E17⟩ := hQ17
  have N17 := Fr.app N13 N17q
  have f19 := ((f18.ext E5).ext E10)
  obtain ⟨T20, X20, e20, st20⟩ := castY X17 hx hZ hown (w 223 rfl) E17 (Ins.self f19) (g := (mkF m 42 #[lR r0, lR b5, lR b10, lV vI0, lV vI0, lU] [(.ref r2)])) rfl rfl (hb hby d29_42)
  have f22 := ((f21.ext E5).ext E10)
  obtain ⟨_, T23, Lc23, X23, hQ23, st23⟩ := own_cV X20 hx hZ hown e20 (rm32_1 l Z a0 hw [] r2 r3 h10 n0 o12 f22) f19 (w 225 rfl) (w 226 rfl) (w 228 rfl) (w 227 rfl) (w 229 rfl) (w 28 rfl) (by decide) (W := 0) (by decide) (by decide) (by decide) (by decide) (g := (mkF m 45 #[lR r0, lR b5, lR b10, lV vI0, lV vI0, lU] [(.ref r2)])) rfl (by rw [hml]; rfl) (argsL := []) (rest := []) (lenOf pd___Ljava_lang_String_ rfl) rfl (own_W rfl) (hb hby d29_45)
  obtain ⟨rfl, N23q, E23⟩ := hQ23
  have N23 := Fr.app N17 N23q
  obtain ⟨clq24, Arq24, qq24, Sq24, Nq24, Hq24, Gq24⟩ := id V10
  have zz25 : n0 ≤ h5.size := by rw [← o7.1]; exact o7.2.1
  have g26 := Nat.le_trans zz25 (Nat.le_of_eq g10.symm)
  obtain ⟨T27, h27, X27, e27, W27, st27⟩ := stI X23 hx hZ E23 Arq24 (j := (0 : Int32)) (inb_of Sq24 ⟨(by decide : ¬ ((0 : Int32) < (0 : Int32))), (by decide : (0 : Int32) < (1 : Int32))⟩) (g := (mkF m 93 #[lR r0, lR b5, lR b10, lV vI0, lV vI0, lR r3] [vI0, vI0, (.ref b10)])) rfl rfl (hb hby d29_93)
  have V27 : Arv Z h27 b10 k10 .int (1 : Int32) [vI0] vI0 := Arv.set Arq24 qq24 Sq24 Nq24 Hq24 Gq24 rfl W27 0 rfl (Nat.le_of_ble_eq_true rfl)
  have N27 := Fr.snoc X27 N23 g26
  have zs29 := E5.1
  have n30 := Nat.ne_of_lt (Nat.lt_of_lt_of_le (Nat.lt_of_lt_of_le l28 zs29) (Nat.le_of_eq g10.symm))
  have f31 := (f11.other W27 (Or.inl n30))
  have o32 := Old.wr o12 W27 g26
  have f34 := (f14.wr W27)
  obtain ⟨_, T33, Lc33, X33, hQ33, st33⟩ := own_cI (xi := mN32) X27 hx hZ hown e27 (rm30_1 l Z a0 hw [] r0 r1 h27 n0 o32 f31 f3) f34 (w 205 rfl) (w 206 rfl) (w 207 rfl) (w 208 rfl) (w 209 rfl) (w 210 rfl) (w 211 rfl) (w 212 rfl) (w 213 rfl) (w 172 rfl) (by decide) (W := 1) (by decide) (by decide) (by decide) (by decide) (g := (mkF m 26 #[lR r0, lR b5, lR b10, lV vI1, lV vI1, lR r3] [(.ref r0), vI1])) rfl (by rw [hml]; rfl) (argsL := []) (rest := [vI1]) (lenOf pd___I rfl) rfl (own_W rfl) (hb hby d29_26)
  obtain ⟨rfl, N33q, E33⟩ := hQ33
  have N33 := Fr.app N27 N33q
  obtain ⟨clq35, Arq35, qq35, Sq35, Nq35, Hq35, Gq35⟩ := id V27
  obtain ⟨_, T36, Lc36, X36, hQ36, st36⟩ := own_cI (xi := mN32) X33 hx hZ hown E33 (rm30_1 l Z a0 hw [] r0 r1 h27 n0 o32 f31 f3) f34 (w 205 rfl) (w 206 rfl) (w 207 rfl) (w 208 rfl) (w 209 rfl) (w 210 rfl) (w 211 rfl) (w 212 rfl) (w 213 rfl) (w 172 rfl) (by decide) (W := 2) (by decide) (by decide) (by decide) (by decide) (g := (mkF m 115 #[lR r0, lR b5, lR b10, lV vI0, lV vI1, lR r3] [(.ref r0), vI0, (.ref b5)])) rfl (by rw [hml]; rfl) (argsL := []) (rest := [vI0, (.ref b5)]) (lenOf pd___I rfl) rfl (own_W rfl) (hb hby d29_115)
  obtain ⟨rfl, N36q, E36⟩ := hQ36
  have N36 := Fr.app N33 N36q
  have n37 := Nat.ne_of_lt (Nat.lt_of_lt_of_le V5.lt (Nat.le_of_eq g10.symm))
  have f38 := ((V5.ext E10).other W27 n37)
  obtain ⟨clq39, Arq39, qq39, Sq39, Nq39, Hq39, Gq39⟩ := id f38
  have zz40 : n0 ≤ h0.size := by rw [← O0.1]; exact O0.2.1
  have g41 := Nat.le_trans zz40 (Nat.le_of_eq g5.symm)
  obtain ⟨T42, h42, X42, e42, W42, st42⟩ := stI X36 hx hZ E36 Arq39 (j := (0 : Int32)) (inb_of Sq39 ⟨(by decide : ¬ ((0 : Int32) < (0 : Int32))), (by decide : (0 : Int32) < (1 : Int32))⟩) (g := (mkF m 120 #[lR r0, lR b5, lR b10, lV vI0, lV vI1, lR r3] [vI1, vI0, (.ref b5)])) rfl rfl (hb hby d29_120)
  have V42 : Arv Z h42 b5 k5 .int (1 : Int32) [vI1] vI0 := Arv.set Arq39 qq39 Sq39 Nq39 Hq39 Gq39 rfl W42 0 rfl (Nat.le_of_ble_eq_true rfl)
  have N42 := Fr.snoc X42 N36 g41
  have f43 := (((B5.ext E10).wr W27).wr W42)
  have kp44 : Keep h0 h5 [] := (Keep.refl h0 []).ext E5
  have kp45 : Keep h0 h10 [] := kp44.ext E10
  have kp46 : Keep h0 h27 [] := kp45.wr W27 (Or.inr (Nat.le_trans zs29 (Nat.le_of_eq g10.symm)))
  have kp47 : Keep h0 h42 [] := kp46.wr W42 (Or.inr (Nat.le_of_eq g5.symm))
  refine ⟨some (.ref b5), _, _, _, _, nofun, X42, by decide, by decide, ?_, fun fs hr => ?_⟩
  · rw [e42]; exact ⟨b5, k5, rfl, N42, kp47, (Nat.le_of_eq g5.symm), V42, f43⟩
  · show SG p e below s₁ (mkF m 0 #[lR r0, lU, lU, lU, lU, lU] []) _
    refine qaN X0 hx hby d29_0 ?_
    refine st4 _ ?_
    refine st5 _ ?_
    refine XS.astoreN X5.here hx rfl (hb hby d29_8) rfl rfl (l' := #[lR r0, lR b5, lU, lU, lU, lU]) rfl ?_
    refine qaN X5 hx hby d29_9 ?_
    refine st8 _ ?_
    refine st10 _ ?_
    refine XS.astoreN X10.here hx rfl (hb hby d29_17) rfl rfl (l' := #[lR r0, lR b5, lR b10, lU, lU, lU]) rfl ?_
    refine qc X10 hx hby d29_18 ?_
    refine XS.istoreN X10.here hx rfl (hb hby d29_19) rfl (l' := #[lR r0, lR b5, lR b10, lV vI0, lU, lU]) rfl ?_
    show SG p e below T10 (mkF m 20 #[lR r0, lR b5, lR b10, lV vI0, lU, lU] []) _
    refine qc X10 hx hby d29_20 ?_
    refine XS.istore X10.here hx rfl (hb hby d29_21) rfl (l' := #[lR r0, lR b5, lR b10, lV vI0, lV vI0, lU]) rfl ?_
    refine qi X10 hx hby d29_23 ?_
    refine qaN X10 hx hby d29_25 ?_
    refine st13 _ ?_
    refine XS.icmpNo X13.here hx rfl (hb hby d29_31) rfl (tlt (by decide : (0 : Int32) < (1 : Int32))).2.1 ?_
    refine qaN X13 hx hby d29_34 ?_
    refine qi X13 hx hby d29_35 ?_
    refine st17 _ ?_
    refine st20 _ ?_
    show SG p e below T20 (mkF m 45 #[lR r0, lR b5, lR b10, lV vI0, lV vI0, lU] [(.ref r2)]) _
    refine st23 _ ?_
    refine XS.astore X23.here hx rfl (hb hby d29_48) rfl rfl (l' := #[lR r0, lR b5, lR b10, lV vI0, lV vI0, lR r3]) rfl ?_
    refine qiN X23 hx hby d29_50 ?_
    refine XS.ifYes X23.here hx rfl (pc0 := 51) (pc' := 89) rfl (hb hby d29_51) rfl ((if0 _ _).trans (flt (by decide : ¬ ((0 : Int32) < (0 : Int32)))).2.2.2) (by decide) (by decide) ?_
    refine qaN X23 hx hby d29_89 ?_
    refine qiN X23 hx hby d29_90 ?_
    refine qi X23 hx hby d29_91 ?_
    refine st27 _ ?_
    refine XS.iinc X27.here hx rfl (hb hby d29_94) rfl (l' := #[lR r0, lR b5, lR b10, lV vI1, lV vI0, lR r3]) rfl ?_
    refine XS.iinc X27.here hx rfl (hb hby d29_97) rfl (l' := #[lR r0, lR b5, lR b10, lV vI1, lV vI1, lR r3]) rfl ?_
    show SG p e below T27 (mkF m 100 #[lR r0, lR b5, lR b10, lV vI1, lV vI1, lR r3] []) _
    refine XS.goto X27.here hx rfl (pc0 := 100) (pc' := 23) rfl (hb hby d29_100) (by decide) (by decide) ?_
    refine qi X27 hx hby d29_23 ?_
    refine qaN X27 hx hby d29_25 ?_
    refine st33 _ ?_
    refine XS.icmpYes X33.here hx rfl (pc0 := 31) (pc' := 103) rfl (hb hby d29_31) rfl (flt (by decide : ¬ ((1 : Int32) < (1 : Int32)))).2.1 (by decide) (by decide) ?_
    refine qiN X33 hx hby d29_103 ?_
    refine XS.ifNo X33.here hx rfl (hb hby d29_104) rfl ((if0 _ _).trans (tlt (by decide : (0 : Int32) < (1 : Int32))).2.2.2) ?_
    refine XS.iinc X33.here hx rfl (hb hby d29_107) rfl (l' := #[lR r0, lR b5, lR b10, lV vI0, lV vI1, lR r3]) rfl ?_
    refine qaN X33 hx hby d29_110 ?_
    refine qaN X33 hx hby d29_111 ?_
    show SG p e below T33 (mkF m 112 #[lR r0, lR b5, lR b10, lV vI0, lV vI1, lR r3] [(.ref b10), (.ref b5)]) _
    refine qiN X33 hx hby d29_112 ?_
    refine X33.iaload hx (j := (0 : Int32)) (v := vI0) (by rw [E33]; exact Arq35.1) (State.isArrayOf_alike hZ.alike Arq35.2.1) Arq35.2.2 (inb_of Sq35 ⟨(by decide : ¬ ((0 : Int32) < (0 : Int32))), (by decide : (0 : Int32) < (1 : Int32))⟩) (Has.at Hq35 (inb_of Sq35 ⟨(by decide : ¬ ((0 : Int32) < (0 : Int32))), (by decide : (0 : Int32) < (1 : Int32))⟩) rfl) (g := (mkF m 113 #[lR r0, lR b5, lR b10, lV vI0, lV vI1, lR r3] [vI0, (.ref b10), (.ref b5)])) rfl rfl (hb hby d29_113) _ ?_
    refine qaN X33 hx hby d29_114 ?_
    refine st36 _ ?_
    refine st42 _ ?_
    refine XS.goto X42.here hx rfl (pc0 := 121) (pc' := 103) rfl (hb hby d29_121) (by decide) (by decide) ?_
    refine qiN X42 hx hby d29_103 ?_
    refine XS.ifYes X42.here hx rfl (pc0 := 104) (pc' := 124) rfl (hb hby d29_104) rfl ((if0 _ _).trans (flt (by decide : ¬ ((0 : Int32) < (0 : Int32)))).2.2.2) (by decide) (by decide) ?_
    refine qaN X42 hx hby d29_124 ?_
    exact retOut X42 hx (i := .areturn) hret rfl (Or.inr (Or.inr (Or.inr (Or.inr ⟨rfl, rfl, rfl⟩)))) (hb hby d29_125) hr
def Q29_2 (Z : State) (r0 r1 r2 : Addr) (c3 : ClassId) (x4 : Int32) (r5 r6 : Addr) (h0 : Heap) (n0 : Nat) (v : Option Value) (h : Heap) (L : List Loc) : Prop := ∃ bo : Addr, v = some (.ref bo) ∧ Fr n0 L ∧ Keep h0 h [] ∧ True
theorem rm29_2 (l : Launch) (Z : State) (a0 : Array Value) (hw : own_HW a0 Z) (ws : List Jvm.Cond) (r0 r1 r2 : Addr) (c3 : ClassId) (x4 : Int32) (r5 r6 : Addr) (h0 : Heap) (n0 : Nat) (O0 : Old Z n0 h0) (f1 : Fld Z h0 r2 "java/lang/String" "value" "[B" (.ref r1)) (f2 : Arv Z h0 r1 c3 .byte (1 : Int32) [(.int x4)] vI0) (f3 : Exa Z h0 r0 cs7) (f4 : Fld Z h0 r0 cs7 "e1" "Ljava/lang/Object;" (.ref r5)) (f5 : Sta Z Z.heap cs8 "EMPTY" "Ljava/lang/Object;" (.ref r5)) (f6 : Fld Z h0 r0 cs7 "e0" "Ljava/lang/Object;" (.ref r6)) (f7 : Exa Z h0 r6 cs0) (f8 : Fld Z h0 r6 cs0 "path" "Ljava/lang/String;" (.ref r2)) (l9 : r0 < h0.size) :
    own_MF l mN31 prog_2_method_12_code 6 (some (.array .int)) ws rR1_2_2_14 Z h0 #[(.ref r0)] (Q29_2 Z r0 r1 r2 c3 x4 r5 r6 h0 n0) := by
  intro p e ha hc hk s m args below hf happ hP hK
  obtain ⟨nn, o, h1, h2, h3, v, L, rfl, hQ, hE⟩ := rm29_1 l Z a0 hw ws r0 r5 r6 r2 h0 n0 O0 f3 f4 f5 f6 f7 f8 l9 p e ha hc hk s m args below hf happ hP hK
  obtain ⟨b5, k5, rfl, N, K, e0, e1, e2⟩ := hQ
  exact ⟨nn, _, h1, h2, h3, _, L, rfl, ⟨_, rfl, N, K, trivial⟩, hE⟩
theorem pd__Ljava_util_List___I : parseMethodDescriptor "(Ljava/util/List;)[I" = some ⟨[(.object "java/util/List")], some (.array .int)⟩ := by decide +kernel
theorem d16_30 : DK cB16 30 (.putfield 31) 3 := by decide +kernel
theorem d16_33 : DK cB16 33 (.aload_n 0) 1 := by decide +kernel
theorem d16_34 : DK cB16 34 (.aload_n 0) 1 := by decide +kernel
theorem d16_35 : DK cB16 35 (.getfield 23) 3 := by decide +kernel
theorem d16_38 : DK cB16 38 (.invokestatic 34) 3 := by decide +kernel
theorem d33_0 : DK cB33 0 (.aload_n 0) 1 := by decide +kernel
theorem d33_1 : DK cB33 1 (.invokeinterface 100 1) 5 := by decide +kernel
theorem d33_6 : DK cB33 6 (.istore_n 1) 1 := by decide +kernel
theorem d33_7 : DK cB33 7 (.iload_n 1) 1 := by decide +kernel
theorem d33_8 : DK cB33 8 (.iload_n 1) 1 := by decide +kernel
theorem d33_9 : DK cB33 9 (.iconst 2) 1 := by decide +kernel
theorem d33_10 : DK cB33 10 (.idiv) 1 := by decide +kernel
theorem d33_11 : DK cB33 11 (.iadd) 1 := by decide +kernel
theorem d33_12 : DK cB33 12 (.invokestatic 103) 3 := by decide +kernel
theorem d34_0 : DK cB34 0 (.iload_n 0) 1 := by decide +kernel
theorem d34_1 : DK cB34 1 (.ldc 127) 2 := by decide +kernel
theorem d34_3 : DK cB34 3 (.iload_n 0) 1 := by decide +kernel
theorem d34_4 : DK cB34 4 (.invokestatic 51) 3 := by decide +kernel
theorem d35_0 : DK cB35 0 (.iload_n 0) 1 := by decide +kernel
theorem d35_1 : DK cB35 1 (.ifCond .gt 14) 3 := by decide +kernel
theorem d35_15 : DK cB35 15 (.bipush 31) 2 := by decide +kernel
theorem d35_17 : DK cB35 17 (.istore_n 1) 1 := by decide +kernel
theorem d35_18 : DK cB35 18 (.iload_n 0) 1 := by decide +kernel
theorem d35_19 : DK cB35 19 (.ldc_w 264) 3 := by decide +kernel
theorem d35_22 : DK cB35 22 (.if_icmp .lt 11) 3 := by decide +kernel
theorem d35_33 : DK cB35 33 (.iload_n 0) 1 := by decide +kernel
theorem d35_34 : DK cB35 34 (.sipush 256) 3 := by decide +kernel
theorem d35_37 : DK cB35 37 (.if_icmp .lt 11) 3 := by decide +kernel
theorem d35_48 : DK cB35 48 (.iload_n 0) 1 := by decide +kernel
theorem d35_49 : DK cB35 49 (.bipush 16) 2 := by decide +kernel
theorem d35_51 : DK cB35 51 (.if_icmp .lt 10) 3 := by decide +kernel
theorem d35_61 : DK cB35 61 (.iload_n 0) 1 := by decide +kernel
theorem d35_62 : DK cB35 62 (.iconst 4) 1 := by decide +kernel
theorem d35_63 : DK cB35 63 (.if_icmp .lt 10) 3 := by decide +kernel
theorem d35_73 : DK cB35 73 (.iload_n 1) 1 := by decide +kernel
theorem d35_74 : DK cB35 74 (.iload_n 0) 1 := by decide +kernel
theorem d35_75 : DK cB35 75 (.iconst 1) 1 := by decide +kernel
theorem d35_76 : DK cB35 76 (.iushr) 1 := by decide +kernel
theorem d35_77 : DK cB35 77 (.isub) 1 := by decide +kernel
theorem d35_78 : DK cB35 78 (.ireturn) 1 := by decide +kernel
theorem pn_java_lang_Integer : plainName "java/lang/Integer" = true := by first | (simp [plainName, overriddenIn]; done) | decide +kernel
def Q35_1 (Z : State)  (h0 : Heap) (n0 : Nat) (v : Option Value) (h : Heap) (L : List Loc) : Prop := v = some vI31 ∧ Fr n0 L ∧ h = h0
theorem rm35_1 (l : Launch) (Z : State) (a0 : Array Value) (hw : own_HW a0 Z) (ws : List Jvm.Cond)  (h0 : Heap) (n0 : Nat) (O0 : Old Z n0 h0) :
    own_MF l mN34 jdk_33_method_47_code 2 (some .int) ws rR0_0_0_0 Z h0 #[vI1] (Q35_1 Z  h0 n0) := by
  refine own_open (plainFor_of_name pn_java_lang_Integer) (L0 := #[lV vI1, lU]) (fun _ => by first | (simp [entryFrame, mkF, argsToLocals, Value.category]; done) | rfl) ?_
  intro p e s m below meth c s₁ hx hby hml hret hnn hZ hown X0 e0
  have N0 := Fr.nil n0
  refine ⟨some vI31, _, _, _, _, nofun, X0, by decide, by decide, ?_, fun fs hr => ?_⟩
  · rw [e0]; exact ⟨rfl, N0, rfl⟩
  · show SG p e below s₁ (mkF m 0 #[lV vI1, lU] []) _
    refine qiN X0 hx hby d35_0 ?_
    refine XS.ifYes X0.here hx rfl (pc0 := 1) (pc' := 15) rfl (hb hby d35_1) rfl ((if0 _ _).trans (tlt (by decide : (0 : Int32) < (1 : Int32))).2.2.1) (by decide) (by decide) ?_
    refine qb X0 hx hby d35_15 ?_
    refine XS.istoreN X0.here hx rfl (hb hby d35_17) rfl (l' := #[lV vI1, lV vI31]) rfl ?_
    refine qiN X0 hx hby d35_18 ?_
    refine X0.ldcwInt hx hown (mvT hZ (ww hw 243 rfl)) (g := (mkF m 19 #[lV vI1, lV vI31] [vI1])) rfl (hb hby d35_19) _ ?_
    refine XS.icmpYes X0.here hx rfl (pc0 := 22) (pc' := 33) rfl (hb hby d35_22) rfl (tlt (by decide : (1 : Int32) < (65536 : Int32))).1 (by decide) (by decide) ?_
    refine qiN X0 hx hby d35_33 ?_
    refine XS.sipush X0.here hx rfl (hb hby d35_34) ?_
    refine XS.icmpYes X0.here hx rfl (pc0 := 37) (pc' := 48) rfl (hb hby d35_37) rfl (tlt (by decide : (1 : Int32) < (256 : Int32))).1 (by decide) (by decide) ?_
    show SG p e below s₁ (mkF m 48 #[lV vI1, lV vI31] []) _
    refine qiN X0 hx hby d35_48 ?_
    refine qb X0 hx hby d35_49 ?_
    refine XS.icmpYes X0.here hx rfl (pc0 := 51) (pc' := 61) rfl (hb hby d35_51) rfl (tlt (by decide : (1 : Int32) < (16 : Int32))).1 (by decide) (by decide) ?_
    refine qiN X0 hx hby d35_61 ?_
    refine qc X0 hx hby d35_62 ?_
    refine XS.icmpYes X0.here hx rfl (pc0 := 63) (pc' := 73) rfl (hb hby d35_63) rfl (tlt (by decide : (1 : Int32) < (4 : Int32))).1 (by decide) (by decide) ?_
    refine qiN X0 hx hby d35_73 ?_
    refine qiN X0 hx hby d35_74 ?_
    refine qc X0 hx hby d35_75 ?_
    refine XS.iushr X0.here hx rfl (hb hby d35_76) rfl ?_
    show SG p e below s₁ (mkF m 77 #[lV vI1, lV vI31] [vI0, vI31]) _
    refine XS.isub X0.here hx rfl (hb hby d35_77) rfl ?_
    exact retOut X0 hx (i := .ireturn) hret rfl (Or.inl ⟨rfl, Or.inl rfl, _, rfl⟩) (hb hby d35_78) hr
theorem pd__I_I : parseMethodDescriptor "(I)I" = some ⟨[.int], some .int⟩ := by decide +kernel
theorem d34_7 : DK cB34 7 (.iushr) 1 := by decide +kernel
theorem d34_8 : DK cB34 8 (.iand) 1 := by decide +kernel
theorem d34_9 : DK cB34 9 (.ireturn) 1 := by decide +kernel
def Q34_1 (Z : State)  (h0 : Heap) (n0 : Nat) (v : Option Value) (h : Heap) (L : List Loc) : Prop := v = some vI1 ∧ Fr n0 L ∧ h = h0
theorem rm34_1 (l : Launch) (Z : State) (a0 : Array Value) (hw : own_HW a0 Z) (ws : List Jvm.Cond)  (h0 : Heap) (n0 : Nat) (O0 : Old Z n0 h0) :
    own_MF l mN35 jdk_33_method_45_code 1 (some .int) ws rR1_0_0_15 Z h0 #[vI1] (Q34_1 Z  h0 n0) := by
  refine own_open (plainFor_of_name pn_java_lang_Integer) (L0 := #[lV vI1]) (fun _ => by first | (simp [entryFrame, mkF, argsToLocals, Value.category]; done) | rfl) ?_
  intro p e s m below meth c s₁ hx hby hml hret hnn hZ hown X0 e0
  have N0 := Fr.nil n0; have w := @ww Z a0 hw
  obtain ⟨_, T1, Lc1, X1, hQ1, st1⟩ := own_cS X0 hx hZ hown e0 (rm35_1 l Z a0 hw [] h0 n0 O0) (w 240 rfl) (w 241 rfl) (w 237 rfl) (w 242 rfl) (by decide) (W := 2) (by decide) (by decide) (by decide) (by decide) (g := (mkF m 4 #[lV vI1] [vI1, (.int (-2147483648 : Int32)), vI1])) rfl (by rw [hml]; rfl) (argsL := [vI1]) (rest := [(.int (-2147483648 : Int32)), vI1]) (lenOf pd__I_I rfl) rfl (own_W rfl) (hb hby d34_4)
  obtain ⟨rfl, N1q, E1⟩ := hQ1
  have N1 := Fr.app N0 N1q
  refine ⟨some vI1, _, _, _, _, nofun, X1, by decide, by decide, ?_, fun fs hr => ?_⟩
  · rw [E1]; exact ⟨rfl, N1, rfl⟩
  · show SG p e below s₁ (mkF m 0 #[lV vI1] []) _
    refine qiN X0 hx hby d34_0 ?_
    refine X0.ldcInt hx hown (mvT hZ (w 239 rfl)) (g := (mkF m 1 #[lV vI1] [vI1])) rfl (hb hby d34_1) _ ?_
    refine qiN X0 hx hby d34_3 ?_
    refine st1 _ ?_
    refine XS.iushr X1.here hx rfl (hb hby d34_7) rfl ?_
    refine XS.iand X1.here hx rfl (hb hby d34_8) rfl ?_
    exact retOut X1 hx (i := .ireturn) hret rfl (Or.inl ⟨rfl, Or.inl rfl, _, rfl⟩) (hb hby d34_9) hr
theorem d33_15 : DK cB33 15 (.iconst 1) 1 := by decide +kernel
theorem d33_16 : DK cB33 16 (.ishl) 1 := by decide +kernel
theorem d33_17 : DK cB33 17 (.newarray .int) 2 := by decide +kernel
theorem d33_19 : DK cB33 19 (.astore_n 2) 1 := by decide +kernel
theorem d33_20 : DK cB33 20 (.iconst 0) 1 := by decide +kernel
theorem d33_21 : DK cB33 21 (.istore_n 3) 1 := by decide +kernel
theorem d33_22 : DK cB33 22 (.iload_n 3) 1 := by decide +kernel
theorem d33_23 : DK cB33 23 (.iload_n 1) 1 := by decide +kernel
theorem d33_24 : DK cB33 24 (.if_icmp .ge 56) 3 := by decide +kernel
theorem d33_27 : DK cB33 27 (.aload_n 2) 1 := by decide +kernel
theorem d33_28 : DK cB33 28 (.aload_n 0) 1 := by decide +kernel
theorem d33_29 : DK cB33 29 (.iload_n 3) 1 := by decide +kernel
theorem d33_30 : DK cB33 30 (.invokeinterface 39 2) 5 := by decide +kernel
theorem d33_35 : DK cB33 35 (.checkcast 43) 3 := by decide +kernel
theorem d33_38 : DK cB33 38 (.invokevirtual 59) 3 := by decide +kernel
theorem d33_41 : DK cB33 41 (.invokevirtual 88) 3 := by decide +kernel
theorem d36_0 : DK cB36 0 (.aload_n 0) 1 := by decide +kernel
theorem d36_1 : DK cB36 1 (.getfield 19) 3 := by decide +kernel
theorem d36_4 : DK cB36 4 (.istore_n 1) 1 := by decide +kernel
theorem d36_5 : DK cB36 5 (.iload_n 1) 1 := by decide +kernel
theorem d36_6 : DK cB36 6 (.ifCond .ne 52) 3 := by decide +kernel
theorem d36_9 : DK cB36 9 (.aload_n 0) 1 := by decide +kernel
theorem d36_10 : DK cB36 10 (.getfield 23) 3 := by decide +kernel
theorem d36_13 : DK cB36 13 (.ifCond .ne 45) 3 := by decide +kernel
theorem d36_16 : DK cB36 16 (.aload_n 0) 1 := by decide +kernel
theorem d36_17 : DK cB36 17 (.invokevirtual 492) 3 := by decide +kernel
theorem d37_0 : DK cB37 0 (.getstatic 38) 3 := by decide +kernel
theorem d37_3 : DK cB37 3 (.ifCond .eq 14) 3 := by decide +kernel
theorem d37_6 : DK cB37 6 (.aload_n 0) 1 := by decide +kernel
theorem d37_7 : DK cB37 7 (.getfield 15) 3 := by decide +kernel
theorem d37_10 : DK cB37 10 (.ifCond .ne 7) 3 := by decide +kernel
theorem d37_13 : DK cB37 13 (.iconst 1) 1 := by decide +kernel
theorem d37_14 : DK cB37 14 (.goto 4) 3 := by decide +kernel
theorem d37_18 : DK cB37 18 (.ireturn) 1 := by decide +kernel
def Q37_1 (Z : State)  (h0 : Heap) (n0 : Nat) (v : Option Value) (h : Heap) (L : List Loc) : Prop := v = some vI1 ∧ Fr n0 L ∧ h = h0
theorem rm37_1 (l : Launch) (Z : State) (a0 : Array Value) (hw : own_HW a0 Z) (ws : List Jvm.Cond) (r0 : Addr) (x1 : Int32) (h0 : Heap) (n0 : Nat) (O0 : Old Z n0 h0) (f1 : Sta Z Z.heap "java/lang/String" "COMPACT_STRINGS" "Z" (.int x1)) (hc4 : ¬ (x1 = (0 : Int32))) (f5 : Fld Z h0 r0 "java/lang/String" "coder" "B" vI0) :
    own_MF l mN36 jdk_42_method_154_code 1 (some .boolean) ws rR0_0_0_0 Z h0 #[(.ref r0)] (Q37_1 Z  h0 n0) := by
  refine own_open (plainFor_of_name pn_java_lang_String) (L0 := #[lR r0]) (fun _ => by first | (simp [entryFrame, mkF, argsToLocals, Value.category]; done) | rfl) ?_
  intro p e s m below meth c s₁ hx hby hml hret hnn hZ hown X0 e0
  have N0 := Fr.nil n0
  have f2 := f1.ext O0.2
  obtain ⟨T3, X3, e3, st3⟩ := getS2 X0 hx hZ hown (host := "") (Or.inl (ww hw 4 rfl)) Via.refl e0 f2 (g := (mkF m 0 #[lR r0] [])) rfl (hb hby d37_0)
  obtain ⟨T6, X6, e6, st6⟩ := getF X3 hx hZ hown (host := "") (Or.inl (ww hw 24 rfl)) Via.refl e3 f5 (g := (mkF m 7 #[lR r0] [(.ref r0)])) rfl rfl (hb hby d37_7)
  refine ⟨some vI1, _, _, _, _, nofun, X6, by decide, by decide, ?_, fun fs hr => ?_⟩
  · rw [e6]; exact ⟨rfl, N0, rfl⟩
  · show SG p e below s₁ (mkF m 0 #[lR r0] []) _
    refine st3 _ ?_
    refine XS.ifNo X3.here hx rfl (hb hby d37_3) rfl ((if0 _ _).trans (feq hc4).1) ?_
    refine qaN X3 hx hby d37_6 ?_
    refine st6 _ ?_
    refine XS.ifNo X6.here hx rfl (hb hby d37_10) rfl ((if0 _ _).trans (teq (rfl : (0 : Int32) = (0 : Int32))).2) ?_
    refine qc X6 hx hby d37_13 ?_
    refine XS.goto X6.here hx rfl (pc0 := 14) (pc' := 18) rfl (hb hby d37_14) (by decide) (by decide) ?_
    exact retN X6 hx (t := .boolean) hret (by simp) (hb hby d37_18) hr
theorem d36_20 : DK cB36 20 (.ifCond .eq 13) 3 := by decide +kernel
theorem d36_23 : DK cB36 23 (.aload_n 0) 1 := by decide +kernel
theorem d36_24 : DK cB36 24 (.getfield 9) 3 := by decide +kernel
theorem d36_27 : DK cB36 27 (.invokestatic 628) 3 := by decide +kernel
theorem d38_0 : DK cB38 0 (.aload_n 0) 1 := by decide +kernel
theorem d38_1 : DK cB38 1 (.arraylength) 1 := by decide +kernel
theorem d38_2 : DK cB38 2 (.lookupswitch 40 #[(0, 26), (1, 30)]) 26 := by decide +kernel
theorem d38_32 : DK cB38 32 (.aload_n 0) 1 := by decide +kernel
theorem d38_33 : DK cB38 33 (.iconst 0) 1 := by decide +kernel
theorem d38_34 : DK cB38 34 (.baload) 1 := by decide +kernel
theorem d38_35 : DK cB38 35 (.sipush 255) 3 := by decide +kernel
theorem d38_38 : DK cB38 38 (.iand) 1 := by decide +kernel
theorem d38_39 : DK cB38 39 (.goto 12) 3 := by decide +kernel
theorem d38_51 : DK cB38 51 (.ireturn) 1 := by decide +kernel
def Q38_1 (Z : State) (x2 : Int32) (h0 : Heap) (n0 : Nat) (v : Option Value) (h : Heap) (L : List Loc) : Prop := v = some (.int (x2 &&& (255 : Int32))) ∧ Fr n0 L ∧ h = h0
theorem rm38_1 (l : Launch) (Z : State) (a0 : Array Value) (hw : own_HW a0 Z) (ws : List Jvm.Cond) (r0 : Addr) (c1 : ClassId) (x2 : Int32) (h0 : Heap) (n0 : Nat) (O0 : Old Z n0 h0) (f1 : Arv Z h0 r0 c1 .byte (1 : Int32) [(.int x2)] vI0) :
    own_MF l mN37 jdk_43_method_21_code 1 (some .int) ws rR0_0_0_0 Z h0 #[(.ref r0)] (Q38_1 Z x2 h0 n0) := by
  refine own_open (plainFor_of_name pn_java_lang_StringLatin1) (L0 := #[lR r0]) (fun _ => by first | (simp [entryFrame, mkF, argsToLocals, Value.category]; done) | rfl) ?_
  intro p e s m below meth c s₁ hx hby hml hret hnn hZ hown X0 e0
  have N0 := Fr.nil n0
  obtain ⟨clq2, Arq2, qq2, Sq2, Nq2, Hq2, Gq2⟩ := id f1
  obtain ⟨clq3, Arq3, qq3, Sq3, Nq3, Hq3, Gq3⟩ := id f1
  refine ⟨some (.int (x2 &&& (255 : Int32))), _, _, _, _, nofun, X0, by decide, by decide, ?_, fun fs hr => ?_⟩
  · rw [e0]; exact ⟨rfl, N0, rfl⟩
  · show SG p e below s₁ (mkF m 0 #[lR r0] []) _
    refine qaN X0 hx hby d38_0 ?_
    refine X0.arraylength hx (by rw [e0]; exact Arq2.1) (State.isArrayOf_alike hZ.alike Arq2.2.1) (g := (mkF m 1 #[lR r0] [(.ref r0)])) rfl rfl (hb hby d38_1) _ ?_
    rw [len_of Sq2 Nq2]
    refine X0.lookupswitchHit hx (g := (mkF m 2 #[lR r0] [vI1])) rfl rfl (hb hby d38_2) (by decide) (a := 1) (off := 30) (by decide) (by show (0 : Int) ≤ ((2 : Nat) : Int) + 30; decide) _ ?_
    show SG p e below s₁ (mkF m 32 #[lR r0] []) _
    refine qaN X0 hx hby d38_32 ?_
    refine qc X0 hx hby d38_33 ?_
    refine X0.baloadBytes hx (j := (0 : Int32)) (v := (.int x2)) (by rw [e0]; exact Arq3.1) (State.isArrayOf_alike hZ.alike Arq3.2.1) Arq3.2.2 (inb_of Sq3 ⟨(by decide : ¬ ((0 : Int32) < (0 : Int32))), (by decide : (0 : Int32) < (1 : Int32))⟩) (Has.at Hq3 (inb_of Sq3 ⟨(by decide : ¬ ((0 : Int32) < (0 : Int32))), (by decide : (0 : Int32) < (1 : Int32))⟩) rfl) (g := (mkF m 34 #[lR r0] [vI0, (.ref r0)])) rfl rfl (hb hby d38_34) _ ?_
    refine XS.sipush X0.here hx rfl (hb hby d38_35) ?_
    refine XS.iand X0.here hx rfl (hb hby d38_38) rfl ?_
    refine XS.goto X0.here hx rfl (pc0 := 39) (pc' := 51) rfl (hb hby d38_39) (by decide) (by decide) ?_
    exact retOut X0 hx (i := .ireturn) hret rfl (Or.inl ⟨rfl, Or.inl rfl, _, rfl⟩) (hb hby d38_51) hr
theorem pd___B_I : parseMethodDescriptor "([B)I" = some ⟨[(.array .byte)], some .int⟩ := by decide +kernel
theorem d36_30 : DK cB36 30 (.goto 10) 3 := by decide +kernel
theorem d36_40 : DK cB36 40 (.istore_n 1) 1 := by decide +kernel
theorem d36_41 : DK cB36 41 (.iload_n 1) 1 := by decide +kernel
theorem d36_42 : DK cB36 42 (.ifCond .ne 11) 3 := by decide +kernel
theorem d36_53 : DK cB36 53 (.aload_n 0) 1 := by decide +kernel
theorem d36_54 : DK cB36 54 (.iload_n 1) 1 := by decide +kernel
theorem d36_55 : DK cB36 55 (.putfield 19) 3 := by decide +kernel
theorem d36_58 : DK cB36 58 (.iload_n 1) 1 := by decide +kernel
theorem d36_59 : DK cB36 59 (.ireturn) 1 := by decide +kernel
theorem d36_45 : DK cB36 45 (.aload_n 0) 1 := by decide +kernel
theorem d36_46 : DK cB36 46 (.iconst 1) 1 := by decide +kernel
theorem d36_47 : DK cB36 47 (.putfield 23) 3 := by decide +kernel
theorem d36_50 : DK cB36 50 (.goto 8) 3 := by decide +kernel
def Q36_1 (Z : State) (r0 r2 : Addr) (x4 : Int32) (h0 : Heap) (n0 : Nat) (v : Option Value) (h : Heap) (L : List Loc) : Prop := v = some (.int (x4 &&& (255 : Int32))) ∧ Fr n0 L ∧ Keep h0 h [r0] ∧ Fld Z h r0 "java/lang/String" "hash" "I" (.int (x4 &&& (255 : Int32))) ∧ Fld Z h r0 "java/lang/String" "hashIsZero" "Z" vI0 ∧ Fld Z h r0 "java/lang/String" "coder" "B" vI0 ∧ Fld Z h r0 "java/lang/String" "value" "[B" (.ref r2)
theorem rm36_1 (l : Launch) (Z : State) (a0 : Array Value) (hw : own_HW a0 Z) (ws : List Jvm.Cond) (r0 : Addr) (x1 : Int32) (r2 : Addr) (c3 : ClassId) (x4 : Int32) (h0 : Heap) (n0 : Nat) (O0 : Old Z n0 h0) (f1 : Fld Z h0 r0 "java/lang/String" "hash" "I" vI0) (f3 : Fld Z h0 r0 "java/lang/String" "hashIsZero" "Z" vI0) (f5 : Exa Z h0 r0 "java/lang/String") (f6 : Sta Z Z.heap "java/lang/String" "COMPACT_STRINGS" "Z" (.int x1)) (hc7 : ¬ (x1 = (0 : Int32))) (f8 : Fld Z h0 r0 "java/lang/String" "coder" "B" vI0) (f10 : Fld Z h0 r0 "java/lang/String" "value" "[B" (.ref r2)) (f12 : Arv Z h0 r2 c3 .byte (1 : Int32) [(.int x4)] vI0) (hc14 : ¬ ((x4 &&& (255 : Int32)) = (0 : Int32))) (g15 : n0 ≤ r0) :
    own_MF l mN38 jdk_42_method_78_code 2 (some .int) ws rR1_0_0_12 Z h0 #[(.ref r0)] (Q36_1 Z r0 r2 x4 h0 n0) := by
  refine own_open (plainFor_of_name pn_java_lang_String) (L0 := #[lR r0, lU]) (fun _ => by first | (simp [entryFrame, mkF, argsToLocals, Value.category]; done) | rfl) ?_
  intro p e s m below meth c s₁ hx hby hml hret hnn hZ hown X0 e0
  have N0 := Fr.nil n0; have w := @ww Z a0 hw
  obtain ⟨T2, X2, e2, st2⟩ := getF X0 hx hZ hown (host := "") (Or.inl (w 249 rfl)) Via.refl e0 f1 (g := (mkF m 1 #[lR r0, lU] [(.ref r0)])) rfl rfl (hb hby d36_1)
  obtain ⟨T4, X4, e4, st4⟩ := getF X2 hx hZ hown (host := "") (Or.inl (w 251 rfl)) Via.refl e2 f3 (g := (mkF m 10 #[lR r0, lV vI0] [(.ref r0)])) rfl rfl (hb hby d36_10)
  obtain ⟨_, T9, Lc9, X9, hQ9, st9⟩ := own_cV X4 hx hZ hown e4 (rm37_1 l Z a0 hw [] r0 x1 h0 n0 O0 f6 hc7 f8) f5 (w 253 rfl) (w 254 rfl) (w 256 rfl) (w 255 rfl) (w 257 rfl) (w 2 rfl) (by decide) (W := 0) (by decide) (by decide) (by decide) (by decide) (g := (mkF m 17 #[lR r0, lV vI0] [(.ref r0)])) rfl (by rw [hml]; rfl) (argsL := []) (rest := []) (lenOf pd___Z rfl) rfl (own_W rfl) (hb hby d36_17)
  obtain ⟨rfl, N9q, E9⟩ := hQ9
  have N9 := Fr.app N0 N9q
  obtain ⟨T11, X11, e11, st11⟩ := getF X9 hx hZ hown (host := "") (Or.inl (w 22 rfl)) Via.refl E9 f10 (g := (mkF m 24 #[lR r0, lV vI0] [(.ref r0)])) rfl rfl (hb hby d36_24)
  obtain ⟨_, T13, Lc13, X13, hQ13, st13⟩ := own_cS X11 hx hZ hown e11 (rm38_1 l Z a0 hw [] r2 c3 x4 h0 n0 O0 f12) (w 258 rfl) (w 259 rfl) (w 7 rfl) (w 260 rfl) (by decide) (W := 0) (by decide) (by decide) (by decide) (by decide) (g := (mkF m 27 #[lR r0, lV vI0] [(.ref r2)])) rfl (by rw [hml]; rfl) (argsL := [(.ref r2)]) (rest := []) (lenOf pd___B_I rfl) rfl (own_W rfl) (hb hby d36_27)
  obtain ⟨rfl, N13q, E13⟩ := hQ13
  have N13 := Fr.app N9 N13q
  obtain ⟨T16, h16, X16, e16, W16, st16⟩ := putF X13 hx hZ hown (host := "") (Or.inl (w 249 rfl)) Via.refl E13 f1 f5 (Or.inl (w 250 rfl)) (w 10 rfl) (ty := .int) (by decide) rfl rfl (g := (mkF m 55 #[lR r0, .val (.int (x4 &&& (255 : Int32)))] [(.int (x4 &&& (255 : Int32))), (.ref r0)])) rfl rfl (hb hby d36_55)
  have Fw16 := f1.same W16
  have N16 := Fr.snoc X16 N13 g15
  have f17 := (f3.other W16 (Or.inr (slot_ne (Or.inl (w 252 rfl)) (Or.inl (w 250 rfl)) (by decide) (t := .boolean) (t' := .int) (by decide) (by decide))))
  have f18 := (f8.other W16 (Or.inr (slot_ne (Or.inr (w 25 rfl)) (Or.inl (w 250 rfl)) (by decide) (t := .byte) (t' := .int) (by decide) (by decide))))
  have f19 := (f10.other W16 (Or.inr (slot_ne (Or.inr (w 23 rfl)) (Or.inl (w 250 rfl)) (by decide) (t := (.array .byte)) (t' := .int) (by decide) (by decide))))
  have kp20 : Keep h0 h16 [r0] := (Keep.refl h0 [r0]).wr W16 (Or.inl (List.mem_of_getElem? (i := 0) rfl))
  refine ⟨some (.int (x4 &&& (255 : Int32))), _, _, _, _, nofun, X16, by decide, by decide, ?_, fun fs hr => ?_⟩
  · rw [e16]; exact ⟨rfl, N16, kp20, Fw16, f17, f18, f19⟩
  · show SG p e below s₁ (mkF m 0 #[lR r0, lU] []) _
    refine qaN X0 hx hby d36_0 ?_
    refine st2 _ ?_
    refine XS.istoreN X2.here hx rfl (hb hby d36_4) rfl (l' := #[lR r0, lV vI0]) rfl ?_
    refine qiN X2 hx hby d36_5 ?_
    refine XS.ifNo X2.here hx rfl (hb hby d36_6) rfl ((if0 _ _).trans (teq (rfl : (0 : Int32) = (0 : Int32))).2) ?_
    refine qaN X2 hx hby d36_9 ?_
    refine st4 _ ?_
    refine XS.ifNo X4.here hx rfl (hb hby d36_13) rfl ((if0 _ _).trans (teq (rfl : (0 : Int32) = (0 : Int32))).2) ?_
    refine qaN X4 hx hby d36_16 ?_
    refine st9 _ ?_
    show SG p e below T9 (mkF m 20 #[lR r0, lV vI0] [vI1]) _
    refine XS.ifNo X9.here hx rfl (hb hby d36_20) rfl ((if0 _ _).trans (feq (by decide : ¬ ((1 : Int32) = (0 : Int32)))).1) ?_
    refine qaN X9 hx hby d36_23 ?_
    refine st11 _ ?_
    refine st13 _ ?_
    refine XS.goto X13.here hx rfl (pc0 := 30) (pc' := 40) rfl (hb hby d36_30) (by decide) (by decide) ?_
    refine XS.istoreN X13.here hx rfl (hb hby d36_40) rfl (l' := #[lR r0, .val (.int (x4 &&& (255 : Int32)))]) rfl ?_
    refine qiN X13 hx hby d36_41 ?_
    refine XS.ifYes X13.here hx rfl (pc0 := 42) (pc' := 53) rfl (hb hby d36_42) rfl ((if0 _ _).trans (feq hc14).2) (by decide) (by decide) ?_
    refine qaN X13 hx hby d36_53 ?_
    refine qiN X13 hx hby d36_54 ?_
    show SG p e below T13 (mkF m 55 #[lR r0, .val (.int (x4 &&& (255 : Int32)))] [(.int (x4 &&& (255 : Int32))), (.ref r0)]) _
    refine st16 _ ?_
    refine qiN X16 hx hby d36_58 ?_
    exact retOut X16 hx (i := .ireturn) hret rfl (Or.inl ⟨rfl, Or.inl rfl, _, rfl⟩) (hb hby d36_59) hr
def Q36_2 (Z : State) (r0 r2 : Addr) (x4 : Int32) (h0 : Heap) (n0 : Nat) (v : Option Value) (h : Heap) (L : List Loc) : Prop := v = some (.int (x4 &&& (255 : Int32))) ∧ Fr n0 L ∧ Keep h0 h [r0] ∧ Fld Z h r0 "java/lang/String" "hash" "I" vI0 ∧ Fld Z h r0 "java/lang/String" "hashIsZero" "Z" vI1 ∧ Fld Z h r0 "java/lang/String" "coder" "B" vI0 ∧ Fld Z h r0 "java/lang/String" "value" "[B" (.ref r2)
theorem rm36_2 (l : Launch) (Z : State) (a0 : Array Value) (hw : own_HW a0 Z) (ws : List Jvm.Cond) (r0 : Addr) (x1 : Int32) (r2 : Addr) (c3 : ClassId) (x4 : Int32) (h0 : Heap) (n0 : Nat) (O0 : Old Z n0 h0) (f1 : Fld Z h0 r0 "java/lang/String" "hash" "I" vI0) (f3 : Fld Z h0 r0 "java/lang/String" "hashIsZero" "Z" vI0) (f5 : Exa Z h0 r0 "java/lang/String") (f6 : Sta Z Z.heap "java/lang/String" "COMPACT_STRINGS" "Z" (.int x1)) (hc7 : ¬ (x1 = (0 : Int32))) (f8 : Fld Z h0 r0 "java/lang/String" "coder" "B" vI0) (f10 : Fld Z h0 r0 "java/lang/String" "value" "[B" (.ref r2)) (f12 : Arv Z h0 r2 c3 .byte (1 : Int32) [(.int x4)] vI0) (hc14 : (x4 &&& (255 : Int32)) = (0 : Int32)) (g15 : n0 ≤ r0) :
    own_MF l mN38 jdk_42_method_78_code 2 (some .int) ws rR1_0_0_12 Z h0 #[(.ref r0)] (Q36_2 Z r0 r2 x4 h0 n0) := by
  refine own_open (plainFor_of_name pn_java_lang_String) (L0 := #[lR r0, lU]) (fun _ => by first | (simp [entryFrame, mkF, argsToLocals, Value.category]; done) | rfl) ?_
  intro p e s m below meth c s₁ hx hby hml hret hnn hZ hown X0 e0
  have N0 := Fr.nil n0; have w := @ww Z a0 hw
  obtain ⟨T2, X2, e2, st2⟩ := getF X0 hx hZ hown (host := "") (Or.inl (w 249 rfl)) Via.refl e0 f1 (g := (mkF m 1 #[lR r0, lU] [(.ref r0)])) rfl rfl (hb hby d36_1)
  obtain ⟨T4, X4, e4, st4⟩ := getF X2 hx hZ hown (host := "") (Or.inl (w 251 rfl)) Via.refl e2 f3 (g := (mkF m 10 #[lR r0, lV vI0] [(.ref r0)])) rfl rfl (hb hby d36_10)
  obtain ⟨_, T9, Lc9, X9, hQ9, st9⟩ := own_cV X4 hx hZ hown e4 (rm37_1 l Z a0 hw [] r0 x1 h0 n0 O0 f6 hc7 f8) f5 (w 253 rfl) (w 254 rfl) (w 256 rfl) (w 255 rfl) (w 257 rfl) (w 2 rfl) (by decide) (W := 0) (by decide) (by decide) (by decide) (by decide) (g := (mkF m 17 #[lR r0, lV vI0] [(.ref r0)])) rfl (by rw [hml]; rfl) (argsL := []) (rest := []) (lenOf pd___Z rfl) rfl (own_W rfl) (hb hby d36_17)
  obtain ⟨rfl, N9q, E9⟩ := hQ9
  have N9 := Fr.app N0 N9q
  obtain ⟨T11, X11, e11, st11⟩ := getF X9 hx hZ hown (host := "") (Or.inl (w 22 rfl)) Via.refl E9 f10 (g := (mkF m 24 #[lR r0, lV vI0] [(.ref r0)])) rfl rfl (hb hby d36_24)
  obtain ⟨_, T13, Lc13, X13, hQ13, st13⟩ := own_cS X11 hx hZ hown e11 (rm38_1 l Z a0 hw [] r2 c3 x4 h0 n0 O0 f12) (w 258 rfl) (w 259 rfl) (w 7 rfl) (w 260 rfl) (by decide) (W := 0) (by decide) (by decide) (by decide) (by decide) (g := (mkF m 27 #[lR r0, lV vI0] [(.ref r2)])) rfl (by rw [hml]; rfl) (argsL := [(.ref r2)]) (rest := []) (lenOf pd___B_I rfl) rfl (own_W rfl) (hb hby d36_27)
  obtain ⟨rfl, N13q, E13⟩ := hQ13
  have N13 := Fr.app N9 N13q
  obtain ⟨T16, h16, X16, e16, W16, st16⟩ := putFN X13 hx hZ hown (w 251 rfl) Via.refl E13 f3 f5 (Or.inl (w 252 rfl)) (w 10 rfl) (ty := .boolean) (v' := vI1) (by decide) rfl (by decide) (g := (mkF m 47 #[lR r0, .val (.int (x4 &&& (255 : Int32)))] [vI1, (.ref r0)])) rfl rfl (hb hby d36_47)
  have Fw16 := f3.same W16
  have N16 := Fr.snoc X16 N13 g15
  have f17 := (f1.other W16 (Or.inr (slot_ne (Or.inl (w 250 rfl)) (Or.inl (w 252 rfl)) (by decide) (t := .int) (t' := .boolean) (by decide) (by decide))))
  have f18 := (f8.other W16 (Or.inr (slot_ne (Or.inr (w 25 rfl)) (Or.inl (w 252 rfl)) (by decide) (t := .byte) (t' := .boolean) (by decide) (by decide))))
  have f19 := (f10.other W16 (Or.inr (slot_ne (Or.inr (w 23 rfl)) (Or.inl (w 252 rfl)) (by decide) (t := (.array .byte)) (t' := .boolean) (by decide) (by decide))))
  have kp20 : Keep h0 h16 [r0] := (Keep.refl h0 [r0]).wr W16 (Or.inl (List.mem_of_getElem? (i := 0) rfl))
  refine ⟨some (.int (x4 &&& (255 : Int32))), _, _, _, _, nofun, X16, by decide, by decide, ?_, fun fs hr => ?_⟩
  · rw [e16]; exact ⟨rfl, N16, kp20, f17, Fw16, f18, f19⟩
  · show SG p e below s₁ (mkF m 0 #[lR r0, lU] []) _
    refine qaN X0 hx hby d36_0 ?_
    refine st2 _ ?_
    refine XS.istoreN X2.here hx rfl (hb hby d36_4) rfl (l' := #[lR r0, lV vI0]) rfl ?_
    refine qiN X2 hx hby d36_5 ?_
    refine XS.ifNo X2.here hx rfl (hb hby d36_6) rfl ((if0 _ _).trans (teq (rfl : (0 : Int32) = (0 : Int32))).2) ?_
    refine qaN X2 hx hby d36_9 ?_
    refine st4 _ ?_
    refine XS.ifNo X4.here hx rfl (hb hby d36_13) rfl ((if0 _ _).trans (teq (rfl : (0 : Int32) = (0 : Int32))).2) ?_
    refine qaN X4 hx hby d36_16 ?_
    refine st9 _ ?_
    show SG p e below T9 (mkF m 20 #[lR r0, lV vI0] [vI1]) _
    refine XS.ifNo X9.here hx rfl (hb hby d36_20) rfl ((if0 _ _).trans (feq (by decide : ¬ ((1 : Int32) = (0 : Int32)))).1) ?_
    refine qaN X9 hx hby d36_23 ?_
    refine st11 _ ?_
    refine st13 _ ?_
    refine XS.goto X13.here hx rfl (pc0 := 30) (pc' := 40) rfl (hb hby d36_30) (by decide) (by decide) ?_
    refine XS.istoreN X13.here hx rfl (hb hby d36_40) rfl (l' := #[lR r0, .val (.int (x4 &&& (255 : Int32)))]) rfl ?_
    refine qiN X13 hx hby d36_41 ?_
    refine XS.ifNo X13.here hx rfl (hb hby d36_42) rfl ((if0 _ _).trans (teq hc14).2) ?_
    refine qaN X13 hx hby d36_45 ?_
    refine qc X13 hx hby d36_46 ?_
    show SG p e below T13 (mkF m 47 #[lR r0, .val (.int (x4 &&& (255 : Int32)))] [vI1, (.ref r0)]) _
    refine st16 _ ?_
    refine XS.goto X16.here hx rfl (pc0 := 50) (pc' := 58) rfl (hb hby d36_50) (by decide) (by decide) ?_
    refine qiN X16 hx hby d36_58 ?_
    exact retOut X16 hx (i := .ireturn) hret rfl (Or.inl ⟨rfl, Or.inl rfl, _, rfl⟩) (hb hby d36_59) hr
def Q36_3 (Z : State) (r0 r1 : Addr) (c2 : ClassId) (x3 x4 : Int32) (h0 : Heap) (n0 : Nat) (v : Option Value) (h : Heap) (L : List Loc) : Prop := v = some (.int (x3 &&& (255 : Int32))) ∧ Fr n0 L ∧ Keep h0 h [r0] ∧ Fld Z h r0 "java/lang/String" "coder" "B" vI0 ∧ Fld Z h r0 "java/lang/String" "value" "[B" (.ref r1)
theorem rm36_3 (l : Launch) (Z : State) (a0 : Array Value) (hw : own_HW a0 Z) (ws : List Jvm.Cond) (r0 r1 : Addr) (c2 : ClassId) (x3 x4 : Int32) (h0 : Heap) (n0 : Nat) (O0 : Old Z n0 h0) (f1 : Fld Z h0 r0 "java/lang/String" "value" "[B" (.ref r1)) (f2 : Arv Z h0 r1 c2 .byte (1 : Int32) [(.int x3)] vI0) (f3 : Fld Z h0 r0 "java/lang/String" "hash" "I" vI0) (f4 : Fld Z h0 r0 "java/lang/String" "hashIsZero" "Z" vI0) (f5 : Exa Z h0 r0 "java/lang/String") (f6 : Sta Z Z.heap "java/lang/String" "COMPACT_STRINGS" "Z" (.int x4)) (f7 : Fld Z h0 r0 "java/lang/String" "coder" "B" vI0) (g8 : n0 ≤ r0) (hc9 : ¬ (x4 = (0 : Int32))) :
    own_MF l mN38 jdk_42_method_78_code 2 (some .int) ws rR1_0_0_12 Z h0 #[(.ref r0)] (Q36_3 Z r0 r1 c2 x3 x4 h0 n0) := by
  intro p e ha hc hk s m args below hf happ hP hK
  by_cases g0 : (x3 &&& (255 : Int32)) = (0 : Int32)
  · obtain ⟨nn, o, h1, h2, h3, v, L, rfl, hQ, hE⟩ := rm36_2 l Z a0 hw ws r0 x4 r1 c2 x3 h0 n0 O0 f3 f4 f5 f6 hc9 f7 f1 f2 g0 g8 p e ha hc hk s m args below hf happ hP hK
    obtain ⟨rfl, N, K, e0, e1, e2, e3⟩ := hQ
    exact ⟨nn, _, h1, h2, h3, _, L, rfl, ⟨rfl, N, K, e2, e3⟩, hE⟩
  · obtain ⟨nn, o, h1, h2, h3, v, L, rfl, hQ, hE⟩ := rm36_1 l Z a0 hw ws r0 x4 r1 c2 x3 h0 n0 O0 f3 f4 f5 f6 hc9 f7 f1 f2 g0 g8 p e ha hc hk s m args below hf happ hP hK
    obtain ⟨rfl, N, K, e0, e1, e2, e3⟩ := hQ
    exact ⟨nn, _, h1, h2, h3, _, L, rfl, ⟨rfl, N, K, e2, e3⟩, hE⟩
theorem d33_44 : DK cB33 44 (.invokestatic 92) 3 := by decide +kernel
theorem d39_0 : DK cB39 0 (.iload_n 1) 1 := by decide +kernel
theorem d39_1 : DK cB39 1 (.ldc 109) 2 := by decide +kernel
theorem d39_3 : DK cB39 3 (.imul) 1 := by decide +kernel
theorem d39_4 : DK cB39 4 (.aload_n 0) 1 := by decide +kernel
theorem d39_5 : DK cB39 5 (.arraylength) 1 := by decide +kernel
theorem d39_6 : DK cB39 6 (.iconst 1) 1 := by decide +kernel
theorem d39_7 : DK cB39 7 (.isub) 1 := by decide +kernel
theorem d39_8 : DK cB39 8 (.invokestatic 110) 3 := by decide +kernel
theorem d39_11 : DK cB39 11 (.iushr) 1 := by decide +kernel
theorem d39_12 : DK cB39 12 (.ireturn) 1 := by decide +kernel
def Q39_1 (Z : State) (x1 : Int32) (h0 : Heap) (n0 : Nat) (v : Option Value) (h : Heap) (L : List Loc) : Prop := v = some (.int (((x1 * (-1640531527 : Int32)).toUInt32 >>> ((31 : Int32) &&& 31).toUInt32).toInt32)) ∧ Fr n0 L ∧ h = h0
theorem rm39_1 (l : Launch) (Z : State) (a0 : Array Value) (hw : own_HW a0 Z) (ws : List Jvm.Cond) (r0 : Addr) (x1 : Int32) (c2 : ClassId) (h0 : Heap) (n0 : Nat) (O0 : Old Z n0 h0) (f1 : Arv Z h0 r0 c2 .int (2 : Int32) [vI0, vI0] vI0) :
    own_MF l mN39 prog_2_method_10_code 2 (some .int) ws rR1_0_0_14 Z h0 #[(.ref r0), (.int x1)] (Q39_1 Z x1 h0 n0) := by
  refine own_open (plainFor_of_name pn_com_example_nearmiss_nearmiss_Document) (L0 := #[lR r0, lI x1]) (fun _ => by first | (simp [entryFrame, mkF, argsToLocals, Value.category]; done) | rfl) ?_
  intro p e s m below meth c s₁ hx hby hml hret hnn hZ hown X0 e0
  have N0 := Fr.nil n0; have w := @ww Z a0 hw
  obtain ⟨clq2, Arq2, qq2, Sq2, Nq2, Hq2, Gq2⟩ := id f1
  obtain ⟨_, T3, Lc3, X3, hQ3, st3⟩ := own_cS X0 hx hZ hown e0 (rm35_1 l Z a0 hw [] h0 n0 O0) (w 265 rfl) (w 241 rfl) (w 237 rfl) (w 242 rfl) (by decide) (W := 1) (by decide) (by decide) (by decide) (by decide) (g := (mkF m 8 #[lR r0, lI x1] [vI1, (.int (x1 * (-1640531527 : Int32)))])) rfl (by rw [hml]; rfl) (argsL := [vI1]) (rest := [(.int (x1 * (-1640531527 : Int32)))]) (lenOf pd__I_I rfl) rfl (own_W rfl) (hb hby d39_8)
  obtain ⟨rfl, N3q, E3⟩ := hQ3
  have N3 := Fr.app N0 N3q
  refine ⟨some (.int (((x1 * (-1640531527 : Int32)).toUInt32 >>> ((31 : Int32) &&& 31).toUInt32).toInt32)), _, _, _, _, nofun, X3, by decide, by decide, ?_, fun fs hr => ?_⟩
  · rw [E3]; exact ⟨rfl, N3, rfl⟩
  · show SG p e below s₁ (mkF m 0 #[lR r0, lI x1] []) _
    refine qiN X0 hx hby d39_0 ?_
    refine X0.ldcInt hx hown (mvT hZ (w 264 rfl)) (g := (mkF m 1 #[lR r0, lI x1] [(.int x1)])) rfl (hb hby d39_1) _ ?_
    refine XS.imul X0.here hx rfl (hb hby d39_3) rfl ?_
    refine qaN X0 hx hby d39_4 ?_
    refine X0.arraylength hx (by rw [e0]; exact Arq2.1) (State.isArrayOf_alike hZ.alike Arq2.2.1) (g := (mkF m 5 #[lR r0, lI x1] [(.ref r0), (.int (x1 * (-1640531527 : Int32)))])) rfl rfl (hb hby d39_5) _ ?_
    rw [len_of Sq2 Nq2]
    refine qc X0 hx hby d39_6 ?_
    refine XS.isub X0.here hx rfl (hb hby d39_7) rfl ?_
    refine st3 _ ?_
    refine XS.iushr X3.here hx rfl (hb hby d39_11) rfl ?_
    exact retOut X3 hx (i := .ireturn) hret rfl (Or.inl ⟨rfl, Or.inl rfl, _, rfl⟩) (hb hby d39_12) hr
theorem pd___II_I : parseMethodDescriptor "([II)I" = some ⟨[(.array .int), .int], some .int⟩ := by decide +kernel
theorem d33_47 : DK cB33 47 (.istore 4) 2 := by decide +kernel
theorem d33_49 : DK cB33 49 (.aload_n 2) 1 := by decide +kernel
theorem d33_50 : DK cB33 50 (.iload 4) 2 := by decide +kernel
theorem d33_52 : DK cB33 52 (.iaload) 1 := by decide +kernel
theorem d33_53 : DK cB33 53 (.ifCond .eq 14) 3 := by decide +kernel
theorem d33_67 : DK cB33 67 (.aload_n 2) 1 := by decide +kernel
theorem d33_68 : DK cB33 68 (.iload 4) 2 := by decide +kernel
theorem d33_70 : DK cB33 70 (.iload_n 3) 1 := by decide +kernel
theorem d33_71 : DK cB33 71 (.iconst 1) 1 := by decide +kernel
theorem d33_72 : DK cB33 72 (.iadd) 1 := by decide +kernel
theorem d33_73 : DK cB33 73 (.iastore) 1 := by decide +kernel
theorem d33_74 : DK cB33 74 (.iinc 3 1) 3 := by decide +kernel
theorem d33_77 : DK cB33 77 (.goto (-55)) 3 := by decide +kernel
theorem d33_80 : DK cB33 80 (.aload_n 2) 1 := by decide +kernel
theorem d33_81 : DK cB33 81 (.areturn) 1 := by decide +kernel
def Q33_1 (Z : State) (r3 r4 : Addr) (x8 : Int32) (h0 : Heap) (n0 : Nat) (v : Option Value) (h : Heap) (L : List Loc) : Prop := ∃ (b6 : Addr) (k6 : ClassId), v = some (.ref b6) ∧ Fr n0 L ∧ Keep h0 h [r3] ∧ Fld Z h r3 "java/lang/String" "coder" "B" vI0 ∧ Fld Z h r3 "java/lang/String" "value" "[B" (.ref r4) ∧ h0.size ≤ b6 ∧ Arv Z h b6 k6 .int (2 : Int32) (List.set [vI0, vI0] (x8).toNatClampNeg vI1) vI0 ∧ Exa Z h b6 "[I"
theorem rm33_1 (l : Launch) (Z : State) (a0 : Array Value) (hw : own_HW a0 Z) (ws : List Jvm.Cond) (r0 r1 : Addr) (r2 r3 r4 : Addr) (c5 : ClassId) (x6 x7 x8 : Int32) (h0 : Heap) (n0 : Nat) (O0 : Old Z n0 h0) (f1 : Exa Z h0 r0 cs7) (f2 : Fld Z h0 r0 cs7 "e1" "Ljava/lang/Object;" (.ref r1)) (f3 : Sta Z Z.heap cs8 "EMPTY" "Ljava/lang/Object;" (.ref r1)) (f7 : Fld Z h0 r0 cs7 "e0" "Ljava/lang/Object;" (.ref r2)) (f12 : Exa Z h0 r2 cs0) (f15 : Fld Z h0 r2 cs0 "path" "Ljava/lang/String;" (.ref r3)) (f18 : Exa Z h0 r3 "java/lang/String") (f20 : Fld Z h0 r3 "java/lang/String" "value" "[B" (.ref r4)) (f22 : Arv Z h0 r4 c5 .byte (1 : Int32) [(.int x6)] vI0) (f24 : Fld Z h0 r3 "java/lang/String" "hash" "I" vI0) (f26 : Fld Z h0 r3 "java/lang/String" "hashIsZero" "Z" vI0) (f28 : Sta Z Z.heap "java/lang/String" "COMPACT_STRINGS" "Z" (.int x7)) (f29 : Fld Z h0 r3 "java/lang/String" "coder" "B" vI0) (g31 : n0 ≤ r3) (hc32 : ¬ (x7 = (0 : Int32))) (l36 : r3 < h0.size) (hq41 : ((((x6 &&& (255 : Int32)) * (-1640531527 : Int32)).toUInt32 >>> ((31 : Int32) &&& 31).toUInt32).toInt32) = x8) (hc43 : ([vI0, vI0] : List Value).getD (x8).toNatClampNeg vI0 = (.int (own_at [vI0, vI0] (x8).toNatClampNeg))) (hc44 : ¬ (x8 < (0 : Int32))) (hc45 : x8 < (2 : Int32)) (hc46 : (own_at [vI0, vI0] (x8).toNatClampNeg) = (0 : Int32)) (hc50 : (x8).toNatClampNeg < ([vI0, vI0] : List Value).length) :
    own_MF l mN40 prog_2_method_9_code 5 (some (.array .int)) ws rR2_1_2_27 Z h0 #[(.ref r0)] (Q33_1 Z r3 r4 x8 h0 n0) := by
  refine own_open (plainFor_of_name pn_com_example_nearmiss_nearmiss_Document) (L0 := #[lR r0, lU, lU, lU, lU]) (fun _ => by first | (simp [entryFrame, mkF, argsToLocals, Value.category]; done) | rfl) ?_
  intro p e s m below meth c s₁ hx hby hml hret hnn hZ hown X0 e0
  have N0 := Fr.nil n0; have w := @ww Z a0 hw
  obtain ⟨_, T4, Lc4, X4, hQ4, st4⟩ := own_cI (xi := mN32) X0 hx hZ hown e0 (rm30_1 l Z a0 hw [] r0 r1 h0 n0 O0 f2 f3) f1 (w 205 rfl) (w 206 rfl) (w 207 rfl) (w 208 rfl) (w 209 rfl) (w 210 rfl) (w 211 rfl) (w 212 rfl) (w 213 rfl) (w 172 rfl) (by decide) (W := 0) (by decide) (by decide) (by decide) (by decide) (g := (mkF m 1 #[lR r0, lU, lU, lU, lU] [(.ref r0)])) rfl (by rw [hml]; rfl) (argsL := []) (rest := []) (lenOf pd___I rfl) rfl (own_W rfl) (hb hby d33_1)
  obtain ⟨rfl, N4q, E4⟩ := hQ4
  have N4 := Fr.app N0 N4q
  obtain ⟨_, T5, Lc5, X5, hQ5, st5⟩ := own_cS X4 hx hZ hown E4 (rm34_1 l Z a0 hw [] h0 n0 O0) (w 235 rfl) (w 236 rfl) (w 237 rfl) (w 238 rfl) (by decide) (W := 0) (by decide) (by decide) (by decide) (by decide) (g := (mkF m 12 #[lR r0, lV vI1, lU, lU, lU] [vI1])) rfl (by rw [hml]; rfl) (argsL := [vI1]) (rest := []) (lenOf pd__I_I rfl) rfl (own_W rfl) (hb hby d33_12)
  obtain ⟨rfl, N5q, E5⟩ := hQ5
  have N5 := Fr.app N4 N5q
  obtain ⟨T6, h6, k6, X6, e6, E6, A6, B6, st6⟩ := newPE X5 hx hZ (w 214 rfl) E5 (g := (mkF m 17 #[lR r0, lV vI1, lU, lU, lU] [vI2])) rfl (hb hby d33_17) rfl (by decide) (cap := 2) (by decide) (by decide) (by decide) (by decide) (ad := "[I") rfl
  obtain ⟨b6, g6⟩ : ∃ z, z = h0.size := ⟨_, rfl⟩
  rw [← g6] at A6 B6 st6
  have V6 : Arv Z h6 b6 k6 .int (2 : Int32) [vI0, vI0] vI0 := (Arv.new A6 (by decide)).pad (pad_rep [] vI0 2)
  have f8 := (f7.ext E6)
  have o9 := Old.ext O0 E6
  have f11 := (f1.ext E6)
  obtain ⟨_, T10, Lc10, X10, hQ10, st10⟩ := own_cI (xi := mN33) X6 hx hZ hown e6 (rm31_1 l Z a0 hw [] r0 r2 h6 n0 o9 f8) f11 (w 215 rfl) (w 216 rfl) (w 217 rfl) (w 218 rfl) (w 219 rfl) (w 220 rfl) (w 221 rfl) (w 212 rfl) (w 222 rfl) (w 172 rfl) (by decide) (W := 1) (by decide) (by decide) (by decide) (by decide) (g := (mkF m 30 #[lR r0, lV vI1, lR b6, lV vI0, lU] [vI0, (.ref r0), (.ref b6)])) rfl (by rw [hml]; rfl) (argsL := [vI0]) (rest := [(.ref b6)]) (lenOf pd__I_Ljava_lang_Object_ rfl) rfl (own_W rfl) (hb hby d33_30)
  obtain ⟨rfl, N10q, E10⟩ := hQ10
  have N10 := Fr.app N5 N10q
  have f13 := (f12.ext E6)
  obtain ⟨T14, X14, e14, st14⟩ := castY X10 hx hZ hown (w 223 rfl) E10 (Ins.self f13) (g := (mkF m 35 #[lR r0, lV vI1, lR b6, lV vI0, lU] [(.ref r2), (.ref b6)])) rfl rfl (hb hby d33_35)
  have f16 := (f15.ext E6)
  obtain ⟨_, T17, Lc17, X17, hQ17, st17⟩ := own_cV X14 hx hZ hown e14 (rm32_1 l Z a0 hw [] r2 r3 h6 n0 o9 f16) f13 (w 225 rfl) (w 226 rfl) (w 228 rfl) (w 227 rfl) (w 229 rfl) (w 28 rfl) (by decide) (W := 1) (by decide) (by decide) (by decide) (by decide) (g := (mkF m 38 #[lR r0, lV vI1, lR b6, lV vI0, lU] [(.ref r2), (.ref b6)])) rfl (by rw [hml]; rfl) (argsL := []) (rest := [(.ref b6)]) (lenOf pd___Ljava_lang_String_ rfl) rfl (own_W rfl) (hb hby d33_38)
  obtain ⟨rfl, N17q, E17⟩ := hQ17
  have N17 := Fr.app N10 N17q
  have f19 := (f18.ext E6)
  have f21 := (f20.ext E6)
  have f23 := (f22.ext E6)
  have f25 := (f24.ext E6)
  have f27 := (f26.ext E6)
  have f30 := (f29.ext E6)
  obtain ⟨_, T33, Lc33, X33, hQ33, st33⟩ := own_cV X17 hx hZ hown E17 (rm36_3 l Z a0 hw [] r3 r4 c5 x6 x7 h6 n0 o9 f21 f23 f25 f27 f19 f28 f30 g31 hc32) f19 (w 244 rfl) (w 245 rfl) (w 247 rfl) (w 246 rfl) (w 248 rfl) (w 2 rfl) (by decide) (W := 1) (by decide) (by decide) (by decide) (by decide) (g := (mkF m 41 #[lR r0, lV vI1, lR b6, lV vI0, lU] [(.ref r3), (.ref b6)])) rfl (by rw [hml]; rfl) (argsL := []) (rest := [(.ref b6)]) (lenOf pd___I rfl) rfl (own_W rfl) (hb hby d33_41)
  obtain ⟨rfl, N33q, K33, f34, f35⟩ := hQ33
  have N33 := Fr.app N17 N33q
  have n37 := Nat.ne_of_lt (Nat.lt_of_lt_of_le l36 (Nat.le_of_eq g6.symm))
  have f38 := (V6.keep K33 (ninS (Ne.symm n37) nin0))
  have o39 := Old.keep o9 K33 (allS g31 all0)
  obtain ⟨_, T40, Lc40, X40, hQ40, st40⟩ := own_cS X33 hx hZ hown rfl (rm39_1 l Z a0 hw [] b6 (x6 &&& (255 : Int32)) k6 T33.heap n0 o39 f38) (w 261 rfl) (w 262 rfl) (w 105 rfl) (w 263 rfl) (by decide) (W := 0) (by decide) (by decide) (by decide) (by decide) (g := (mkF m 44 #[lR r0, lV vI1, lR b6, lV vI0, lU] [(.int (x6 &&& (255 : Int32))), (.ref b6)])) rfl (by rw [hml]; rfl) (argsL := [(.ref b6), (.int (x6 &&& (255 : Int32)))]) (rest := []) (lenOf pd___II_I rfl) rfl (own_W rfl) (hb hby d33_44)
  obtain ⟨rfl, N40q, E40⟩ := hQ40
  have N40 := Fr.app N33 N40q
  obtain ⟨clq42, Arq42, qq42, Sq42, Nq42, Hq42, Gq42⟩ := id f38
  obtain ⟨clq47, Arq47, qq47, Sq47, Nq47, Hq47, Gq47⟩ := id f38
  have zz48 : n0 ≤ h0.size := by rw [← O0.1]; exact O0.2.1
  have g49 := Nat.le_trans zz48 (Nat.le_of_eq g6.symm)
  obtain ⟨T51, h51, X51, e51, W51, st51⟩ := stI X40 hx hZ E40 Arq47 (j := x8) (inb_of Sq47 ⟨hc44, hc45⟩) (g := (mkF m 73 #[lR r0, lV vI1, lR b6, lV vI0, lI x8] [vI1, (.int x8), (.ref b6)])) rfl rfl (hb hby d33_73)
  have V51 : Arv Z h51 b6 k6 .int (2 : Int32) (List.set [vI0, vI0] (x8).toNatClampNeg vI1) vI0 := Arv.set Arq47 qq47 Sq47 Nq47 Hq47 Gq47 rfl W51 _ rfl hc50
  have N51 := Fr.snoc X51 N40 g49
  have f52 := (f34.other W51 (Or.inl n37))
  have f53 := (f35.other W51 (Or.inl n37))
  have f54 := ((B6.keep K33).wr W51)
  have kp55 : Keep h0 h6 [r3] := (Keep.refl h0 [r3]).ext E6
  have kp56 : Keep h0 T33.heap [r3] := kp55.trans K33 (allS (Or.inl (List.mem_of_getElem? (i := 0) rfl)) all0)
  have kp57 : Keep h0 h51 [r3] := kp56.wr W51 (Or.inr (Nat.le_of_eq g6.symm))
  refine ⟨some (.ref b6), _, _, _, _, nofun, X51, by decide, by decide, ?_, fun fs hr => ?_⟩
  · rw [e51]; exact ⟨b6, k6, rfl, N51, kp57, f52, f53, (Nat.le_of_eq g6.symm), V51, f54⟩
  · show SG p e below s₁ (mkF m 0 #[lR r0, lU, lU, lU, lU] []) _
    refine qaN X0 hx hby d33_0 ?_
    refine st4 _ ?_
    refine XS.istoreN X4.here hx rfl (hb hby d33_6) rfl (l' := #[lR r0, lV vI1, lU, lU, lU]) rfl ?_
    refine qiN X4 hx hby d33_7 ?_
    refine qiN X4 hx hby d33_8 ?_
    refine qc X4 hx hby d33_9 ?_
    refine XS.idiv X4.here hx rfl (hb hby d33_10) rfl (by decide : ¬ ((2 : Int32) = (0 : Int32))) ?_
    refine XS.iadd X4.here hx rfl (hb hby d33_11) rfl ?_
    refine st5 _ ?_
    refine qc X5 hx hby d33_15 ?_
    show SG p e below T5 (mkF m 16 #[lR r0, lV vI1, lU, lU, lU] [vI1, vI1]) _
    refine XS.ishl X5.here hx rfl (hb hby d33_16) rfl ?_
    refine st6 _ ?_
    refine XS.astoreN X6.here hx rfl (hb hby d33_19) rfl rfl (l' := #[lR r0, lV vI1, lR b6, lU, lU]) rfl ?_
    refine qc X6 hx hby d33_20 ?_
    refine XS.istoreN X6.here hx rfl (hb hby d33_21) rfl (l' := #[lR r0, lV vI1, lR b6, lV vI0, lU]) rfl ?_
    refine qiN X6 hx hby d33_22 ?_
    refine qiN X6 hx hby d33_23 ?_
    refine XS.icmpNo X6.here hx rfl (hb hby d33_24) rfl (tlt (by decide : (0 : Int32) < (1 : Int32))).2.1 ?_
    refine qaN X6 hx hby d33_27 ?_
    refine qaN X6 hx hby d33_28 ?_
    show SG p e below T6 (mkF m 29 #[lR r0, lV vI1, lR b6, lV vI0, lU] [(.ref r0), (.ref b6)]) _
    refine qiN X6 hx hby d33_29 ?_
    refine st10 _ ?_
    refine st14 _ ?_
    refine st17 _ ?_
    refine st33 _ ?_
    refine st40 _ ?_
    show SG p e below T40 (mkF m 47 #[lR r0, lV vI1, lR b6, lV vI0, lU] [(.int ((((x6 &&& (255 : Int32)) * (-1640531527 : Int32)).toUInt32 >>> ((31 : Int32) &&& 31).toUInt32).toInt32))]) _
    rw [hq41]
    refine XS.istore X40.here hx rfl (hb hby d33_47) rfl (l' := #[lR r0, lV vI1, lR b6, lV vI0, lI x8]) rfl ?_
    refine qaN X40 hx hby d33_49 ?_
    refine qi X40 hx hby d33_50 ?_
    refine X40.iaload hx (j := x8) (v := (.int (own_at [vI0, vI0] (x8).toNatClampNeg))) (by rw [E40]; exact Arq42.1) (State.isArrayOf_alike hZ.alike Arq42.2.1) Arq42.2.2 (inb_of Sq42 ⟨hc44, hc45⟩) (Has.at Hq42 (inb_of Sq42 ⟨hc44, hc45⟩) hc43) (g := (mkF m 52 #[lR r0, lV vI1, lR b6, lV vI0, lI x8] [(.int x8), (.ref b6)])) rfl rfl (hb hby d33_52) _ ?_
    show SG p e below T40 (mkF m 53 #[lR r0, lV vI1, lR b6, lV vI0, lI x8] [(.int (own_at [vI0, vI0] (x8).toNatClampNeg))]) _
    refine XS.ifYes X40.here hx rfl (pc0 := 53) (pc' := 67) rfl (hb hby d33_53) rfl ((if0 _ _).trans (teq hc46).1) (by decide) (by decide) ?_
    refine qaN X40 hx hby d33_67 ?_
    refine qi X40 hx hby d33_68 ?_
    refine qiN X40 hx hby d33_70 ?_
    refine qc X40 hx hby d33_71 ?_
    refine XS.iadd X40.here hx rfl (hb hby d33_72) rfl ?_
    refine st51 _ ?_
    refine XS.iinc X51.here hx rfl (hb hby d33_74) rfl (l' := #[lR r0, lV vI1, lR b6, lV vI1, lI x8]) rfl ?_
    refine XS.goto X51.here hx rfl (pc0 := 77) (pc' := 22) rfl (hb hby d33_77) (by decide) (by decide) ?_
    refine qiN X51 hx hby d33_22 ?_
    show SG p e below T51 (mkF m 23 #[lR r0, lV vI1, lR b6, lV vI1, lI x8] [vI1]) _
    refine qiN X51 hx hby d33_23 ?_
    refine XS.icmpYes X51.here hx rfl (pc0 := 24) (pc' := 80) rfl (hb hby d33_24) rfl (flt (by decide : ¬ ((1 : Int32) < (1 : Int32)))).2.1 (by decide) (by decide) ?_
    refine qaN X51 hx hby d33_80 ?_
    exact retOut X51 hx (i := .areturn) hret rfl (Or.inr (Or.inr (Or.inr (Or.inr ⟨rfl, rfl, rfl⟩)))) (hb hby d33_81) hr
def Q33_2 (Z : State) (r0 r1 r2 : Addr) (c3 : ClassId) (x4 : Int32) (r5 r6 : Addr) (x7 : Int32) (h0 : Heap) (n0 : Nat) (v : Option Value) (h : Heap) (L : List Loc) : Prop := ∃ bo : Addr, v = some (.ref bo) ∧ Fr n0 L ∧ Keep h0 h [r2] ∧ Fld Z h r2 "java/lang/String" "coder" "B" vI0 ∧ Fld Z h r2 "java/lang/String" "value" "[B" (.ref r1) ∧ True
theorem rm33_2 (l : Launch) (Z : State) (a0 : Array Value) (hw : own_HW a0 Z) (ws : List Jvm.Cond) (r0 r1 r2 : Addr) (c3 : ClassId) (x4 : Int32) (r5 r6 : Addr) (x7 : Int32) (h0 : Heap) (n0 : Nat) (O0 : Old Z n0 h0) (f1 : Fld Z h0 r2 "java/lang/String" "value" "[B" (.ref r1)) (f2 : Arv Z h0 r1 c3 .byte (1 : Int32) [(.int x4)] vI0) (f3 : Exa Z h0 r0 cs7) (f4 : Fld Z h0 r0 cs7 "e1" "Ljava/lang/Object;" (.ref r5)) (f5 : Sta Z Z.heap cs8 "EMPTY" "Ljava/lang/Object;" (.ref r5)) (f6 : Fld Z h0 r0 cs7 "e0" "Ljava/lang/Object;" (.ref r6)) (f7 : Exa Z h0 r6 cs0) (f8 : Fld Z h0 r6 cs0 "path" "Ljava/lang/String;" (.ref r2)) (f9 : Exa Z h0 r2 "java/lang/String") (f10 : Fld Z h0 r2 "java/lang/String" "hash" "I" vI0) (f11 : Fld Z h0 r2 "java/lang/String" "hashIsZero" "Z" vI0) (f12 : Sta Z Z.heap "java/lang/String" "COMPACT_STRINGS" "Z" (.int x7)) (f13 : Fld Z h0 r2 "java/lang/String" "coder" "B" vI0) (g14 : n0 ≤ r2) (l15 : r2 < h0.size) (hc16 : ¬ (x7 = (0 : Int32))) :
    own_MF l mN40 prog_2_method_9_code 5 (some (.array .int)) ws rR2_1_2_27 Z h0 #[(.ref r0)] (Q33_2 Z r0 r1 r2 c3 x4 r5 r6 x7 h0 n0) := by
  intro p e ha hc hk s m args below hf happ hP hK
  obtain ⟨k0, hk0, e0⟩ := own_us31 ((x4 &&& (255 : Int32)) * (-1640531527 : Int32))
  obtain ⟨nn, o, h1, h2, h3, v, L, rfl, hQ, hE⟩ := rm33_1 l Z a0 hw ws r0 r5 r6 r2 r1 c3 x4 x7 (Int32.ofNat k0) h0 n0 O0 f3 f4 f5 f6 f7 f8 f9 f1 f2 f10 f11 f12 f13 g14 hc16 l15 e0 ((by decide +kernel : ∀ k0 : Nat, k0 < 2 → ([vI0, vI0] : List Value).getD ((Int32.ofNat k0)).toNatClampNeg vI0 = (.int (own_at [vI0, vI0] ((Int32.ofNat k0)).toNatClampNeg))) k0 hk0) ((by decide +kernel : ∀ k0 : Nat, k0 < 2 → ¬ ((Int32.ofNat k0) < (0 : Int32))) k0 hk0) ((by decide +kernel : ∀ k0 : Nat, k0 < 2 → (Int32.ofNat k0) < (2 : Int32)) k0 hk0) ((by decide +kernel : ∀ k0 : Nat, k0 < 2 → (own_at [vI0, vI0] ((Int32.ofNat k0)).toNatClampNeg) = (0 : Int32)) k0 hk0) ((by decide +kernel : ∀ k0 : Nat, k0 < 2 → ((Int32.ofNat k0)).toNatClampNeg < ([vI0, vI0] : List Value).length) k0 hk0) p e ha hc hk s m args below hf happ hP hK
  obtain ⟨b6, k6, rfl, N, K, e0, e1, e2, e3, e4⟩ := hQ
  exact ⟨nn, _, h1, h2, h3, _, L, rfl, ⟨_, rfl, N, K, e0, e1, trivial⟩, hE⟩
theorem d16_41 : DK cB16 41 (.putfield 37) 3 := by decide +kernel
theorem d16_44 : DK cB16 44 (.return_) 1 := by decide +kernel
def Q16_1 (Z : State) (r0 r1 : Addr) (x2 : Int32) (r7 r8 r9 : Addr) (h0 : Heap) (n0 : Nat) (v : Option Value) (h : Heap) (L : List Loc) : Prop := ∃ (b28_0 b58_0 b91_0 : Addr), v = none ∧ Fr n0 L ∧ Keep h0 h [r0, r1] ∧ Fld Z h r0 cs11 "id" "Ljava/lang/String;" (.ref r1) ∧ Fld Z h r0 cs11 "length" "I" (.int x2) ∧ Fld Z h r0 cs11 "elements" "Ljava/util/List;" (.ref b28_0) ∧ Fld Z h r0 cs11 "subtreeEnds" "[I" (.ref b58_0) ∧ Fld Z h r0 cs11 "placesByPath" "[I" (.ref b91_0) ∧ Fld Z h r1 "java/lang/String" "coder" "B" vI0 ∧ Fld Z h r1 "java/lang/String" "value" "[B" (.ref r9) ∧ h0.size ≤ b28_0 ∧ Exa Z h b28_0 cs7 ∧ Fld Z h b28_0 cs7 "e0" "Ljava/lang/Object;" (.ref r7) ∧ Fld Z h b28_0 cs7 "e1" "Ljava/lang/Object;" (.ref r8) ∧ True ∧ True
theorem rm16_1 (l : Launch) (Z : State) (a0 : Array Value) (hw : own_HW a0 Z) (ws : List Jvm.Cond) (r0 r1 : Addr) (x2 : Int32) (r3 r4 r5 : Addr) (c6 : ClassId) (r7 r8 r9 : Addr) (c10 : ClassId) (x11 x12 : Int32) (h0 : Heap) (n0 : Nat) (O0 : Old Z n0 h0) (f2 : Exa Z h0 r0 cs11) (f3 : Fld Z h0 r0 cs11 "id" "Ljava/lang/String;" .null) (g4 : n0 ≤ r0) (f7 : Fld Z h0 r0 cs11 "length" "I" vI0) (f10 : Exa Z h0 r3 "java/util/ArrayList") (f12 : Fld Z h0 r3 "java/util/ArrayList" "size" "I" vI1) (n13 : r3 ≠ r0) (f15 : Fld Z h0 r3 "java/util/ArrayList" "elementData" "[Ljava/lang/Object;" (.ref r4)) (f17 : Exa Z h0 r4 "[Ljava/lang/Object;") (f19 : own_Mir Z "[Ljava/lang/Object;" r5) (f20 : Arv Z h0 r4 c6 (.object "java/lang/Object") (10 : Int32) [(.ref r7), .null, .null, .null, .null, .null, .null, .null, .null, .null] .null) (n21 : r4 ≠ r0) (f23 : Exa Z h0 r7 cs0) (f25 : Sta Z Z.heap cs8 "EMPTY" "Ljava/lang/Object;" (.ref r8)) (f34 : Fld Z h0 r0 cs11 "elements" "Ljava/util/List;" .null) (f38 : Fld Z h0 r1 "java/lang/String" "value" "[B" (.ref r9)) (n39 : r1 ≠ r0) (f41 : Arv Z h0 r9 c10 .byte (1 : Int32) [(.int x11)] vI0) (n42 : r9 ≠ r0) (l45 : r0 < h0.size) (f52 : Fld Z h0 r7 cs0 "path" "Ljava/lang/String;" (.ref r1)) (n53 : r7 ≠ r0) (f61 : Fld Z h0 r0 cs11 "subtreeEnds" "[I" .null) (f73 : Exa Z h0 r1 "java/lang/String") (f75 : Fld Z h0 r1 "java/lang/String" "hash" "I" vI0) (f77 : Fld Z h0 r1 "java/lang/String" "hashIsZero" "Z" vI0) (f79 : Sta Z Z.heap "java/lang/String" "COMPACT_STRINGS" "Z" (.int x12)) (f80 : Fld Z h0 r1 "java/lang/String" "coder" "B" vI0) (g82 : n0 ≤ r1) (l83 : r1 < h0.size) (hc88 : ¬ (x12 = (0 : Int32))) (f96 : Fld Z h0 r0 cs11 "placesByPath" "[I" .null) :
    own_MF l mN41 prog_2_method_1_code 4 none ws rR8_5_7_101 Z h0 #[(.ref r0), (.ref r1), (.int x2), (.ref r3)] (Q16_1 Z r0 r1 x2 r7 r8 r9 h0 n0) := by
  refine own_open (plainFor_of_name pn_com_example_nearmiss_nearmiss_Document) (L0 := #[lR r0, lR r1, lI x2, lR r3]) (fun _ => by first | (simp [entryFrame, mkF, argsToLocals, Value.category]; done) | rfl) ?_
  intro p e s m below meth c s₁ hx hby hml hret hnn hZ hown X0 e0
  have N0 := Fr.nil n0; have w := @ww Z a0 hw
  have hnm := (name_of_methodNamed hnn.1 hnn.2).1
  obtain ⟨T1, X1, e1, st1⟩ := initO X0 hx hZ hown (w 109 rfl) (w 20 rfl) (w 21 rfl) e0 (g := (mkF m 1 #[lR r0, lR r1, lI x2, lR r3] [(.ref r0)])) rfl (by rw [hml]; rfl) rfl (hb hby d16_1) (by decide) (W := 0) (own_W rfl) (by decide)
  obtain ⟨T5, h5, X5, e5, W5, st5⟩ := putF X1 hx hZ hown (host := "") (Or.inl (w 110 rfl)) Via.refl e1 f3 f2 (Or.inr ⟨(w 111 rfl), rfl, hnm⟩) (w 104 rfl) (ty := (.object "java/lang/String")) (by decide) rfl rfl (g := (mkF m 6 #[lR r0, lR r1, lI x2, lR r3] [(.ref r1), (.ref r0)])) rfl rfl (hb hby d16_6)
  have Fw5 := f3.same W5
  have N5 := Fr.snoc X5 N0 g4
  have f6 := (f2.wr W5)
  have f8 := (f7.other W5 (Or.inr (slot_ne (Or.inr (w 113 rfl)) (Or.inr (w 111 rfl)) (by decide) (t := .int) (t' := (.object "java/lang/String")) (by decide) (by decide))))
  obtain ⟨T9, h9, X9, e9, W9, st9⟩ := putF X5 hx hZ hown (host := "") (Or.inl (w 112 rfl)) Via.refl e5 f8 f6 (Or.inr ⟨(w 113 rfl), rfl, hnm⟩) (w 104 rfl) (ty := .int) (by decide) rfl rfl (g := (mkF m 11 #[lR r0, lR r1, lI x2, lR r3] [(.int x2), (.ref r0)])) rfl rfl (hb hby d16_11)
  have Fw9 := f8.same W9
  have N9 := Fr.snoc X9 N5 g4
  have f11 := ((f10.wr W5).wr W9)
  have f14 := ((f12.other W5 (Or.inl n13)).other W9 (Or.inl n13))
  have f16 := ((f15.other W5 (Or.inl n13)).other W9 (Or.inl n13))
  have f18 := ((f17.wr W5).wr W9)
  have f22 := ((f20.other W5 n21).other W9 n21)
  have f24 := ((f23.wr W5).wr W9)
  have o26 := Old.wr O0 W5 g4
  have o27 := Old.wr o26 W9 g4
  obtain ⟨_, T28, Lc28, X28, hQ28, st28⟩ := own_cS X9 hx hZ hown e9 (rm17_1 l Z a0 hw [] r3 r4 r5 c6 r7 r8 h9 n0 o27 f11 f14 f16 f18 f19 f22 f24 f25) (w 114 rfl) (w 115 rfl) (w 116 rfl) (w 117 rfl) (by decide) (W := 1) (by decide) (by decide) (by decide) (by decide) (g := (mkF m 16 #[lR r0, lR r1, lI x2, lR r3] [(.ref r3), (.ref r0)])) rfl (by rw [hml]; rfl) (argsL := [(.ref r3)]) (rest := [(.ref r0)]) (lenOf pd__Ljava_util_Collection__Ljava_util_List_ rfl) rfl (own_W rfl) (hb hby d16_16)
  obtain ⟨b28_0, rfl, N28q, K28, f29, f30, f31, f32⟩ := hQ28
  have N28 := Fr.app N9 N28q
  have f33 := ((f6.wr W9).keep K28)
  have f35 := (((f34.other W5 (Or.inr (slot_ne (Or.inr (w 201 rfl)) (Or.inr (w 111 rfl)) (by decide) (t := (.object "java/util/List")) (t' := (.object "java/lang/String")) (by decide) (by decide)))).other W9 (Or.inr (slot_ne (Or.inr (w 201 rfl)) (Or.inr (w 113 rfl)) (by decide) (t := (.object "java/util/List")) (t' := .int) (by decide) (by decide)))).keep K28 nin0)
  obtain ⟨T36, h36, X36, e36, W36, st36⟩ := putF X28 hx hZ hown (host := "") (Or.inl (w 200 rfl)) Via.refl rfl f35 f33 (Or.inr ⟨(w 201 rfl), rfl, hnm⟩) (w 104 rfl) (ty := (.object "java/util/List")) (by decide) rfl rfl (g := (mkF m 19 #[lR r0, lR r1, lI x2, lR r3] [(.ref b28_0), (.ref r0)])) rfl rfl (hb hby d16_19)
  have Fw36 := f35.same W36
  have N36 := Fr.snoc X36 N28 g4
  obtain ⟨T37, X37, e37, st37⟩ := getF X36 hx hZ hown (host := "") (Or.inl (w 200 rfl)) Via.refl e36 Fw36 (g := (mkF m 24 #[lR r0, lR r1, lI x2, lR r3] [(.ref r0), (.ref r0)])) rfl rfl (hb hby d16_24)
  have f40 := ((((f38.other W5 (Or.inl n39)).other W9 (Or.inl n39)).keep K28 nin0).other W36 (Or.inl n39))
  have f43 := ((((f41.other W5 n42).other W9 n42).keep K28 nin0).other W36 n42)
  have f44 := (f30.wr W36)
  have zs46 := (Nat.le_of_eq W5.size.symm)
  have zs47 := Nat.le_trans zs46 (Nat.le_of_eq W9.size.symm)
  have n48 := Nat.ne_of_lt (Nat.lt_of_lt_of_le (Nat.lt_of_lt_of_le l45 zs47) f29)
  have f49 := (f32.other W36 (Or.inl (Ne.symm n48)))
  have f50 := (f31.other W36 (Or.inl (Ne.symm n48)))
  have f51 := ((f24.keep K28).wr W36)
  have f54 := ((((f52.other W5 (Or.inl n53)).other W9 (Or.inl n53)).keep K28 nin0).other W36 (Or.inl n53))
  have zs55 := (Nat.le_of_eq W36.size.symm)
  have o56 := Old.keep o27 K28 all0
  have o57 := Old.wr o56 W36 g4
  obtain ⟨_, T58, Lc58, X58, hQ58, st58⟩ := own_cS X37 hx hZ hown e37 (rm29_2 l Z a0 hw [] b28_0 r9 r1 c10 x11 r8 r7 h36 n0 o57 f40 f43 f44 f49 f25 f50 f51 f54 (Nat.lt_of_lt_of_le f30.lt zs55)) (w 202 rfl) (w 203 rfl) (w 105 rfl) (w 204 rfl) (by decide) (W := 1) (by decide) (by decide) (by decide) (by decide) (g := (mkF m 27 #[lR r0, lR r1, lI x2, lR r3] [(.ref b28_0), (.ref r0)])) rfl (by rw [hml]; rfl) (argsL := [(.ref b28_0)]) (rest := [(.ref r0)]) (lenOf pd__Ljava_util_List___I rfl) rfl (own_W rfl) (hb hby d16_27)
  obtain ⟨b58_0, rfl, N58q, K58, f59⟩ := hQ58
  have N58 := Fr.app N36 N58q
  have f60 := ((f33.wr W36).keep K58)
  have f62 := (((((f61.other W5 (Or.inr (slot_ne (Or.inr (w 231 rfl)) (Or.inr (w 111 rfl)) (by decide) (t := (.array .int)) (t' := (.object "java/lang/String")) (by decide) (by decide)))).other W9 (Or.inr (slot_ne (Or.inr (w 231 rfl)) (Or.inr (w 113 rfl)) (by decide) (t := (.array .int)) (t' := .int) (by decide) (by decide)))).keep K28 nin0).other W36 (Or.inr (slot_ne (Or.inr (w 231 rfl)) (Or.inr (w 201 rfl)) (by decide) (t := (.array .int)) (t' := (.object "java/util/List")) (by decide) (by decide)))).keep K58 nin0)
  obtain ⟨T63, h63, X63, e63, W63, st63⟩ := putF X58 hx hZ hown (host := "") (Or.inl (w 230 rfl)) Via.refl rfl f62 f60 (Or.inr ⟨(w 231 rfl), rfl, hnm⟩) (w 104 rfl) (ty := (.array .int)) (by decide) rfl rfl (g := (mkF m 30 #[lR r0, lR r1, lI x2, lR r3] [(.ref b58_0), (.ref r0)])) rfl rfl (hb hby d16_30)
  have Fw63 := f62.same W63
  have N63 := Fr.snoc X63 N58 g4
  have f64 := ((Fw36.keep K58 nin0).other W63 (Or.inr (slot_ne (Or.inr (w 201 rfl)) (Or.inr (w 231 rfl)) (by decide) (t := (.object "java/util/List")) (t' := (.array .int)) (by decide) (by decide))))
  obtain ⟨T65, X65, e65, st65⟩ := getF X63 hx hZ hown (host := "") (Or.inl (w 200 rfl)) Via.refl e63 f64 (g := (mkF m 35 #[lR r0, lR r1, lI x2, lR r3] [(.ref r0), (.ref r0)])) rfl rfl (hb hby d16_35)
  have f66 := ((f40.keep K58 nin0).other W63 (Or.inl n39))
  have f67 := ((f43.keep K58 nin0).other W63 n42)
  have f68 := ((f44.keep K58).wr W63)
  have f69 := ((f49.keep K58 nin0).other W63 (Or.inl (Ne.symm n48)))
  have f70 := ((f50.keep K58 nin0).other W63 (Or.inl (Ne.symm n48)))
  have f71 := ((f51.keep K58).wr W63)
  have f72 := ((f54.keep K58 nin0).other W63 (Or.inl n53))
  have f74 := ((((((f73.wr W5).wr W9).keep K28).wr W36).keep K58).wr W63)
  have f76 := ((((((f75.other W5 (Or.inl n39)).other W9 (Or.inl n39)).keep K28 nin0).other W36 (Or.inl n39)).keep K58 nin0).other W63 (Or.inl n39))
  have f78 := ((((((f77.other W5 (Or.inl n39)).other W9 (Or.inl n39)).keep K28 nin0).other W36 (Or.inl n39)).keep K58 nin0).other W63 (Or.inl n39))
  have f81 := ((((((f80.other W5 (Or.inl n39)).other W9 (Or.inl n39)).keep K28 nin0).other W36 (Or.inl n39)).keep K58 nin0).other W63 (Or.inl n39))
  have zs84 := Nat.le_trans zs47 K28.1
  have zs85 := Nat.le_trans zs84 (Nat.le_of_eq W36.size.symm)
  have zs86 := Nat.le_trans zs85 K58.1
  have zs87 := Nat.le_trans zs86 (Nat.le_of_eq W63.size.symm)
  have o89 := Old.keep o57 K58 all0
  have o90 := Old.wr o89 W63 g4
  obtain ⟨_, T91, Lc91, X91, hQ91, st91⟩ := own_cS X65 hx hZ hown e65 (rm33_2 l Z a0 hw [] b28_0 r9 r1 c10 x11 r8 r7 x12 h63 n0 o90 f66 f67 f68 f69 f25 f70 f71 f72 f74 f76 f78 f79 f81 g82 (Nat.lt_of_lt_of_le l83 zs87) hc88) (w 232 rfl) (w 233 rfl) (w 105 rfl) (w 234 rfl) (by decide) (W := 1) (by decide) (by decide) (by decide) (by decide) (g := (mkF m 38 #[lR r0, lR r1, lI x2, lR r3] [(.ref b28_0), (.ref r0)])) rfl (by rw [hml]; rfl) (argsL := [(.ref b28_0)]) (rest := [(.ref r0)]) (lenOf pd__Ljava_util_List___I rfl) rfl (own_W rfl) (hb hby d16_38)
  obtain ⟨b91_0, rfl, N91q, K91, f92, f93, f94⟩ := hQ91
  have N91 := Fr.app N63 N91q
  have f95 := ((f60.wr W63).keep K91)
  have f97 := (((((((f96.other W5 (Or.inr (slot_ne (Or.inr (w 267 rfl)) (Or.inr (w 111 rfl)) (by decide) (t := (.array .int)) (t' := (.object "java/lang/String")) (by decide) (by decide)))).other W9 (Or.inr (slot_ne (Or.inr (w 267 rfl)) (Or.inr (w 113 rfl)) (by decide) (t := (.array .int)) (t' := .int) (by decide) (by decide)))).keep K28 nin0).other W36 (Or.inr (slot_ne (Or.inr (w 267 rfl)) (Or.inr (w 201 rfl)) (by decide) (t := (.array .int)) (t' := (.object "java/util/List")) (by decide) (by decide)))).keep K58 nin0).other W63 (Or.inr (slot_ne (Or.inr (w 267 rfl)) (Or.inr (w 231 rfl)) (by decide) (t := (.array .int)) (t' := (.array .int)) (by decide) (by decide)))).keep K91 (ninS (Ne.symm n39) nin0))
  obtain ⟨T98, h98, X98, e98, W98, st98⟩ := putF X91 hx hZ hown (host := "") (Or.inl (w 266 rfl)) Via.refl rfl f97 f95 (Or.inr ⟨(w 267 rfl), rfl, hnm⟩) (w 104 rfl) (ty := (.array .int)) (by decide) rfl rfl (g := (mkF m 41 #[lR r0, lR r1, lI x2, lR r3] [(.ref b91_0), (.ref r0)])) rfl rfl (hb hby d16_41)
  have Fw98 := f97.same W98
  have N98 := Fr.snoc X98 N91 g4
  have f99 := (((((((Fw5.other W9 (Or.inr (slot_ne (Or.inr (w 111 rfl)) (Or.inr (w 113 rfl)) (by decide) (t := (.object "java/lang/String")) (t' := .int) (by decide) (by decide)))).keep K28 nin0).other W36 (Or.inr (slot_ne (Or.inr (w 111 rfl)) (Or.inr (w 201 rfl)) (by decide) (t := (.object "java/lang/String")) (t' := (.object "java/util/List")) (by decide) (by decide)))).keep K58 nin0).other W63 (Or.inr (slot_ne (Or.inr (w 111 rfl)) (Or.inr (w 231 rfl)) (by decide) (t := (.object "java/lang/String")) (t' := (.array .int)) (by decide) (by decide)))).keep K91 (ninS (Ne.symm n39) nin0)).other W98 (Or.inr (slot_ne (Or.inr (w 111 rfl)) (Or.inr (w 267 rfl)) (by decide) (t := (.object "java/lang/String")) (t' := (.array .int)) (by decide) (by decide))))
  have f100 := ((((((Fw9.keep K28 nin0).other W36 (Or.inr (slot_ne (Or.inr (w 113 rfl)) (Or.inr (w 201 rfl)) (by decide) (t := .int) (t' := (.object "java/util/List")) (by decide) (by decide)))).keep K58 nin0).other W63 (Or.inr (slot_ne (Or.inr (w 113 rfl)) (Or.inr (w 231 rfl)) (by decide) (t := .int) (t' := (.array .int)) (by decide) (by decide)))).keep K91 (ninS (Ne.symm n39) nin0)).other W98 (Or.inr (slot_ne (Or.inr (w 113 rfl)) (Or.inr (w 267 rfl)) (by decide) (t := .int) (t' := (.array .int)) (by decide) (by decide))))
  have f101 := ((f64.keep K91 (ninS (Ne.symm n39) nin0)).other W98 (Or.inr (slot_ne (Or.inr (w 201 rfl)) (Or.inr (w 267 rfl)) (by decide) (t := (.object "java/util/List")) (t' := (.array .int)) (by decide) (by decide))))
  have f102 := ((Fw63.keep K91 (ninS (Ne.symm n39) nin0)).other W98 (Or.inr (slot_ne (Or.inr (w 231 rfl)) (Or.inr (w 267 rfl)) (by decide) (t := (.array .int)) (t' := (.array .int)) (by decide) (by decide))))
  have f103 := (f92.other W98 (Or.inl n39))
  have f104 := (f93.other W98 (Or.inl n39))
  have f105 := ((f68.keep K91).wr W98)
  have n106 := Nat.ne_of_lt (Nat.lt_of_lt_of_le (Nat.lt_of_lt_of_le l83 zs47) f29)
  have f107 := ((f70.keep K91 (ninS (Ne.symm n106) nin0)).other W98 (Or.inl (Ne.symm n48)))
  have f108 := ((f69.keep K91 (ninS (Ne.symm n106) nin0)).other W98 (Or.inl (Ne.symm n48)))
  have kp109 : Keep h0 h5 [r0, r1] := (Keep.refl h0 [r0, r1]).wr W5 (Or.inl (List.mem_of_getElem? (i := 0) rfl))
  have kp110 : Keep h0 h9 [r0, r1] := kp109.wr W9 (Or.inl (List.mem_of_getElem? (i := 0) rfl))
  have kp111 : Keep h0 T28.heap [r0, r1] := kp110.trans K28 all0
  have kp112 : Keep h0 h36 [r0, r1] := kp111.wr W36 (Or.inl (List.mem_of_getElem? (i := 0) rfl))
  have kp113 : Keep h0 T58.heap [r0, r1] := kp112.trans K58 all0
  have kp114 : Keep h0 h63 [r0, r1] := kp113.wr W63 (Or.inl (List.mem_of_getElem? (i := 0) rfl))
  have kp115 : Keep h0 T91.heap [r0, r1] := kp114.trans K91 (allS (Or.inl (List.mem_of_getElem? (i := 1) rfl)) all0)
  have kp116 : Keep h0 h98 [r0, r1] := kp115.wr W98 (Or.inl (List.mem_of_getElem? (i := 0) rfl))
  refine ⟨none, _, _, _, _, (fun _ => rfl), X98, by decide, by decide, ?_, fun fs hr => ?_⟩
  · rw [e98]; exact ⟨b28_0, b58_0, b91_0, rfl, N98, kp116, f99, f100, f101, f102, Fw98, f103, f104, (Nat.le_trans zs47 f29), f105, f107, f108, trivial, trivial⟩
  · show SG p e below s₁ (mkF m 0 #[lR r0, lR r1, lI x2, lR r3] []) _
    refine qaN X0 hx hby d16_0 ?_
    refine st1 _ ?_
    refine qaN X1 hx hby d16_4 ?_
    refine qaN X1 hx hby d16_5 ?_
    refine st5 _ ?_
    refine qaN X5 hx hby d16_9 ?_
    refine qiN X5 hx hby d16_10 ?_
    refine st9 _ ?_
    refine qaN X9 hx hby d16_14 ?_
    refine qaN X9 hx hby d16_15 ?_
    show SG p e below T9 (mkF m 16 #[lR r0, lR r1, lI x2, lR r3] [(.ref r3), (.ref r0)]) _
    refine st28 _ ?_
    refine st36 _ ?_
    refine qaN X36 hx hby d16_22 ?_
    refine qaN X36 hx hby d16_23 ?_
    refine st37 _ ?_
    refine st58 _ ?_
    refine st63 _ ?_
    refine qaN X63 hx hby d16_33 ?_
    refine qaN X63 hx hby d16_34 ?_
    refine st65 _ ?_
    show SG p e below T65 (mkF m 38 #[lR r0, lR r1, lI x2, lR r3] [(.ref b28_0), (.ref r0)]) _
    refine st91 _ ?_
    refine st98 _ ?_
    exact X98.returnOut hx hret (hb hby d16_44) hr
theorem pd__Ljava_lang_String_ILjava_util_List__V : parseMethodDescriptor cs12 = some ⟨[(.object "java/lang/String"), .int, (.object "java/util/List")], none⟩ := by decide +kernel
theorem d40_0 : DK cB40 0 (.aload_n 0) 1 := by decide +kernel
theorem d40_1 : DK cB40 1 (.getfield 23) 3 := by decide +kernel
theorem d40_4 : DK cB40 4 (.iconst 0) 1 := by decide +kernel
theorem d40_5 : DK cB40 5 (.invokeinterface 39 2) 5 := by decide +kernel
theorem d40_10 : DK cB40 10 (.checkcast 43) 3 := by decide +kernel
theorem d40_13 : DK cB40 13 (.areturn) 1 := by decide +kernel
def Q40_1 (Z : State) (r2 : Addr) (h0 : Heap) (n0 : Nat) (v : Option Value) (h : Heap) (L : List Loc) : Prop := v = some (.ref r2) ∧ Fr n0 L ∧ h = h0
theorem rm40_1 (l : Launch) (Z : State) (a0 : Array Value) (hw : own_HW a0 Z) (ws : List Jvm.Cond) (r0 r1 r2 : Addr) (h0 : Heap) (n0 : Nat) (O0 : Old Z n0 h0) (f1 : Fld Z h0 r0 cs11 "elements" "Ljava/util/List;" (.ref r1)) (f3 : Exa Z h0 r1 cs7) (f4 : Fld Z h0 r1 cs7 "e0" "Ljava/lang/Object;" (.ref r2)) (f6 : Exa Z h0 r2 cs0) :
    own_MF l mN42 prog_2_method_5_code 1 (some (.object cs0)) ws rR1_0_0_13 Z h0 #[(.ref r0)] (Q40_1 Z r2 h0 n0) := by
  refine own_open (plainFor_of_name pn_com_example_nearmiss_nearmiss_Document) (L0 := #[lR r0]) (fun _ => by first | (simp [entryFrame, mkF, argsToLocals, Value.category]; done) | rfl) ?_
  intro p e s m below meth c s₁ hx hby hml hret hnn hZ hown X0 e0
  have N0 := Fr.nil n0; have w := @ww Z a0 hw
  obtain ⟨T2, X2, e2, st2⟩ := getF X0 hx hZ hown (host := "") (Or.inl (w 200 rfl)) Via.refl e0 f1 (g := (mkF m 1 #[lR r0] [(.ref r0)])) rfl rfl (hb hby d40_1)
  obtain ⟨_, T5, Lc5, X5, hQ5, st5⟩ := own_cI (xi := mN33) X2 hx hZ hown e2 (rm31_1 l Z a0 hw [] r1 r2 h0 n0 O0 f4) f3 (w 215 rfl) (w 216 rfl) (w 217 rfl) (w 218 rfl) (w 219 rfl) (w 220 rfl) (w 221 rfl) (w 212 rfl) (w 222 rfl) (w 172 rfl) (by decide) (W := 0) (by decide) (by decide) (by decide) (by decide) (g := (mkF m 5 #[lR r0] [vI0, (.ref r1)])) rfl (by rw [hml]; rfl) (argsL := [vI0]) (rest := []) (lenOf pd__I_Ljava_lang_Object_ rfl) rfl (own_W rfl) (hb hby d40_5)
  obtain ⟨rfl, N5q, E5⟩ := hQ5
  have N5 := Fr.app N0 N5q
  obtain ⟨T7, X7, e7, st7⟩ := castY X5 hx hZ hown (w 223 rfl) E5 (Ins.self f6) (g := (mkF m 10 #[lR r0] [(.ref r2)])) rfl rfl (hb hby d40_10)
  refine ⟨some (.ref r2), _, _, _, _, nofun, X7, by decide, by decide, ?_, fun fs hr => ?_⟩
  · rw [e7]; exact ⟨rfl, N5, rfl⟩
  · show SG p e below s₁ (mkF m 0 #[lR r0] []) _
    refine qaN X0 hx hby d40_0 ?_
    refine st2 _ ?_
    refine qc X2 hx hby d40_4 ?_
    refine st5 _ ?_
    refine st7 _ ?_
    exact retOut X7 hx (i := .areturn) hret rfl (Or.inr (Or.inr (Or.inr (Or.inr ⟨rfl, rfl, rfl⟩)))) (hb hby d40_13) hr
theorem pd___Lcom_example_nearmiss_nearmiss_Element_ : parseMethodDescriptor "()Lcom/example/nearmiss/nearmiss/Element;" = some ⟨[], some (.object cs0)⟩ := by decide +kernel
theorem d41_0 : DK cB41 0 (.aload_n 0) 1 := by decide +kernel
theorem d41_1 : DK cB41 1 (.aload_n 1) 1 := by decide +kernel
theorem d41_2 : DK cB41 2 (.if_acmp .ne 5) 3 := by decide +kernel
theorem d41_5 : DK cB41 5 (.iconst 1) 1 := by decide +kernel
theorem d41_6 : DK cB41 6 (.ireturn) 1 := by decide +kernel
def Q41_1 (Z : State)  (h0 : Heap) (n0 : Nat) (v : Option Value) (h : Heap) (L : List Loc) : Prop := v = some vI1 ∧ Fr n0 L ∧ h = h0
theorem rm41_1 (l : Launch) (Z : State) (a0 : Array Value) (hw : own_HW a0 Z) (ws : List Jvm.Cond) (r0 : Addr) (h0 : Heap) (n0 : Nat) (O0 : Old Z n0 h0) :
    own_MF l mN43 jdk_42_method_66_code 3 (some .boolean) ws rR0_0_0_0 Z h0 #[(.ref r0), (.ref r0)] (Q41_1 Z  h0 n0) := by
  refine own_open (plainFor_of_name pn_java_lang_String) (L0 := #[lR r0, lR r0, lU]) (fun _ => by first | (simp [entryFrame, mkF, argsToLocals, Value.category]; done) | rfl) ?_
  intro p e s m below meth c s₁ hx hby hml hret hnn hZ hown X0 e0
  have N0 := Fr.nil n0
  refine ⟨some vI1, _, _, _, _, nofun, X0, by decide, by decide, ?_, fun fs hr => ?_⟩
  · rw [e0]; exact ⟨rfl, N0, rfl⟩
  · show SG p e below s₁ (mkF m 0 #[lR r0, lR r0, lU] []) _
    refine qaN X0 hx hby d41_0 ?_
    refine qaN X0 hx hby d41_1 ?_
    refine Jvm.RoadKit.acmp (g := (mkF m 2 #[lR r0, lR r0, lU] [(.ref r0), (.ref r0)])) X0 hx rfl rfl rfl (pc0 := 2) (pc' := 5) (same := true) rfl (hb hby d41_2) rfl (decide_eq_true rfl) (by decide) (by decide) ?_
    refine qc X0 hx hby d41_5 ?_
    exact retN X0 hx (t := .boolean) hret (by simp) (hb hby d41_6) hr
theorem d42_0 : DK cB42 0 (.aload_n 0) 1 := by decide +kernel
theorem d42_1 : DK cB42 1 (.getfield 13) 3 := by decide +kernel
theorem d42_4 : DK cB42 4 (.ireturn) 1 := by decide +kernel
def Q42_1 (Z : State) (x1 : Int32) (h0 : Heap) (n0 : Nat) (v : Option Value) (h : Heap) (L : List Loc) : Prop := v = some (.int x1) ∧ Fr n0 L ∧ h = h0
theorem rm42_1 (l : Launch) (Z : State) (a0 : Array Value) (hw : own_HW a0 Z) (ws : List Jvm.Cond) (r0 : Addr) (x1 : Int32) (h0 : Heap) (n0 : Nat) (O0 : Old Z n0 h0) (f1 : Fld Z h0 r0 cs0 "start" "I" (.int x1)) :
    own_MF l mN44 prog_7_method_10_code 1 (some .int) ws rR0_0_0_0 Z h0 #[(.ref r0)] (Q42_1 Z x1 h0 n0) := by
  refine own_open (plainFor_of_name pn_com_example_nearmiss_nearmiss_Element) (L0 := #[lR r0]) (fun _ => by first | (simp [entryFrame, mkF, argsToLocals, Value.category]; done) | rfl) ?_
  intro p e s m below meth c s₁ hx hby hml hret hnn hZ hown X0 e0
  have N0 := Fr.nil n0
  obtain ⟨T2, X2, e2, st2⟩ := getF X0 hx hZ hown (host := "") (Or.inl (ww hw 40 rfl)) Via.refl e0 f1 (g := (mkF m 1 #[lR r0] [(.ref r0)])) rfl rfl (hb hby d42_1)
  refine ⟨some (.int x1), _, _, _, _, nofun, X2, by decide, by decide, ?_, fun fs hr => ?_⟩
  · rw [e2]; exact ⟨rfl, N0, rfl⟩
  · show SG p e below s₁ (mkF m 0 #[lR r0] []) _
    refine qaN X0 hx hby d42_0 ?_
    refine st2 _ ?_
    exact retOut X2 hx (i := .ireturn) hret rfl (Or.inl ⟨rfl, Or.inl rfl, _, rfl⟩) (hb hby d42_4) hr
theorem d43_0 : DK cB43 0 (.aload_n 0) 1 := by decide +kernel
theorem d43_1 : DK cB43 1 (.getfield 17) 3 := by decide +kernel
theorem d43_4 : DK cB43 4 (.ireturn) 1 := by decide +kernel
def Q43_1 (Z : State) (x1 : Int32) (h0 : Heap) (n0 : Nat) (v : Option Value) (h : Heap) (L : List Loc) : Prop := v = some (.int x1) ∧ Fr n0 L ∧ h = h0
theorem rm43_1 (l : Launch) (Z : State) (a0 : Array Value) (hw : own_HW a0 Z) (ws : List Jvm.Cond) (r0 : Addr) (x1 : Int32) (h0 : Heap) (n0 : Nat) (O0 : Old Z n0 h0) (f1 : Fld Z h0 r0 cs0 "end" "I" (.int x1)) :
    own_MF l mN45 prog_7_method_11_code 1 (some .int) ws rR0_0_0_0 Z h0 #[(.ref r0)] (Q43_1 Z x1 h0 n0) := by
  refine own_open (plainFor_of_name pn_com_example_nearmiss_nearmiss_Element) (L0 := #[lR r0]) (fun _ => by first | (simp [entryFrame, mkF, argsToLocals, Value.category]; done) | rfl) ?_
  intro p e s m below meth c s₁ hx hby hml hret hnn hZ hown X0 e0
  have N0 := Fr.nil n0
  obtain ⟨T2, X2, e2, st2⟩ := getF X0 hx hZ hown (host := "") (Or.inl (ww hw 42 rfl)) Via.refl e0 f1 (g := (mkF m 1 #[lR r0] [(.ref r0)])) rfl rfl (hb hby d43_1)
  refine ⟨some (.int x1), _, _, _, _, nofun, X2, by decide, by decide, ?_, fun fs hr => ?_⟩
  · rw [e2]; exact ⟨rfl, N0, rfl⟩
  · show SG p e below s₁ (mkF m 0 #[lR r0] []) _
    refine qaN X0 hx hby d43_0 ?_
    refine st2 _ ?_
    exact retOut X2 hx (i := .ireturn) hret rfl (Or.inl ⟨rfl, Or.inl rfl, _, rfl⟩) (hb hby d43_4) hr
theorem pn_com_example_nearmiss_nearmiss_DocumentRootPinLaw : plainName cs13 = true := by first | (simp [plainName, overriddenIn]; done) | decide +kernel
def Q0_1 (Z : State)  (h0 : Heap) (n0 : Nat) (v : Option Value) (h : Heap) (L : List Loc) : Prop := v = some vI1 ∧ Fr n0 L
theorem rm0_1 (l : Launch) (Z : State) (a0 : Array Value) (hw : own_HW a0 Z) (ws : List Jvm.Cond) (x0 x1 : Int32) (x2 x3 : Int32) (x4 x5 x6 : Int32) (r7 : Addr) (c8 : ClassId) (r9 r10 : Addr) (h0 : Heap) (n0 : Nat) (O0 : Old Z n0 h0) (hc1 : ((x5 &&& (3 : Int32)) % (3 : Int32)) = (0 : Int32)) (f2 : Sta Z Z.heap "java/lang/String" "COMPACT_STRINGS" "Z" (.int x6)) (hc3 : ¬ (x6 = (0 : Int32))) (hc4 : ¬ ((255 : Int32) < ((x0 &&& (255 : Int32)).toUInt32.toUInt16.toUInt32.toInt32))) (f35 : Sta Z Z.heap "java/util/ArrayList" cs2 "[Ljava/lang/Object;" (.ref r7)) (f42 : Arv Z Z.heap r7 c8 (.object "java/lang/Object") (0 : Int32) [] .null) (f69 : own_Mir Z "[Ljava/lang/Object;" r9) (f73 : Sta Z Z.heap cs8 "EMPTY" "Ljava/lang/Object;" (.ref r10)) :
    MetFree l x (head1 (Jvm.Cond.code x code maxLocals ret :: ws) room_1) (fun a U => a = #[(.int x0), (.int x1), (.int x2), (.int x3), (.int x4), (.int x5)] ∧ Z.Warmed39 U.vm ∧ U.heap = h0) (fun _ _ _ _ _ => True) (fun _ U o U' => ∃ v L, o = .returned v ∧ Q0_1 Z  h0 n0 v U'.heap L ∧ FrameEnd U o U' L room_1.cells room_1.slots) := by
  refine MetFree.of_bodySF (plainFor_of_name pn_com_example_nearmiss_nearmiss_DocumentRootPinLaw) hisR ?_
  intro p e s m args below meth c s₁ Bd hml0 hP hK
  obtain ⟨rfl, hZ, hh⟩ := hP
  have hx := Bd.exec
  have hby := Bd.bytes
  have hml : c.maxLocals = 12 := hml0
  have hown : s.vm.findClass cs13 = some m.cls := findClass_of_methodNamed Bd.named
  have X0 : Stand p l e room_1 s m #[(.int x0), (.int x1), (.int x2), (.int x3), (.int x4), (.int x5)] below meth c s₁ [] 0 0 := Stand.of_body Bd
  have e0 : s₁.heap = h0 := by rw [← hh, Bd.state]; rfl
  have N0 := Fr.nil n0; have w := @ww Z a0 hw
  have pre0 : ∀ t, Steps p.tables e below (s₁.setTop (mkF m 0 #[lI x0, lI x1, lI x2, lI x3, lI x4, lI x5, lU, lU, lU, lU, lU, lU] [])) t → Steps p.tables e below (s₁.setTop (entryFrame m #[(.int x0), (.int x1), (.int x2), (.int x3), (.int x4), (.int x5)] maxLocals)) t := fun t k => castTop (by first | (simp [entryFrame, mkF, argsToLocals, Value.category, maxLocals]; done) | rfl) k
  obtain ⟨_, T5, Lc5, X5, hQ5, st5⟩ := own_cS X0 hx hZ hown e0 (rm1_1 l Z a0 hw [] ((x0 &&& (255 : Int32)).toUInt32.toUInt16.toUInt32.toInt32) x6 h0 n0 O0 f2 hc3 hc4) (w 0 rfl) (w 1 rfl) (w 2 rfl) (w 3 rfl) (by decide) (W := 0) (by decide) (by decide) (by decide) (by decide) (g := (mkF m 16 #[lI x0, lI x1, lI x2, lI x3, lI x4, lI x5, lV vI1, lU, lU, lU, lU, lU] [(.int ((x0 &&& (255 : Int32)).toUInt32.toUInt16.toUInt32.toInt32))])) rfl (by rw [hml]; rfl) (argsL := [(.int ((x0 &&& (255 : Int32)).toUInt32.toUInt16.toUInt32.toInt32))]) (rest := []) (lenOf pd__C_Ljava_lang_String_ rfl) rfl (own_W rfl) (hb hby at_16)
  obtain ⟨b5_0, b5_1, k5_0, rfl, N5q, K5, f6, f7, f8, f9, f10, f11, f12, f13, f14, f15⟩ := hQ5
  have N5 := Fr.app N0 N5q
  obtain ⟨T16, h16, X16, e16, E16, A16, D16, -, st16⟩ := newO X5 hx hZ hown (w 26 rfl) (w 27 rfl) (w 28 rfl) rfl (g := (mkF m 21 #[lI x0, lI x1, lI x2, lI x3, lI x4, lI x5, lV vI1, lR b5_0, lU, lU, lU, lU] [])) rfl (hb hby at_21) (by decide) (by decide)
  obtain ⟨b16, g16⟩ : ∃ z, z = T5.heap.size := ⟨_, rfl⟩
  rw [← g16] at A16 D16 st16
  have f17 : Fld Z h16 b16 cs0 "path" "Ljava/lang/String;" .null := D16 (Or.inr (w 39 rfl)) (ty := (.object "java/lang/String")) (by decide)
  have f18 : Fld Z h16 b16 cs0 "start" "I" vI0 := D16 (Or.inr (w 41 rfl)) (ty := .int) (by decide)
  have f19 : Fld Z h16 b16 cs0 "end" "I" vI0 := D16 (Or.inr (w 43 rfl)) (ty := .int) (by decide)
  have o21 := Old.keep O0 K5 all0
  have zz20 : n0 ≤ T5.heap.size := by rw [← o21.1]; exact o21.2.1
  have g22 := Nat.le_trans zz20 (Nat.le_of_eq g16.symm)
  have o23 := Old.ext o21 E16
  obtain ⟨_, T24, Lc24, X24, hQ24, st24⟩ := own_fin (X16.specialBack hx (y := mN5) rfl hown (mvT hZ (w 29 rfl)) (mvT hZ (w 30 rfl)) (mvT hZ (w 31 rfl)) (by decide) (backOf (W := 1) (rm6_1 l Z a0 hw [] b16 b5_0 x1 x2 h16 n0 o23 A16 f17 g22 f18 f19) hZ (w 31 rfl) (w 28 rfl) (by decide) (by decide)) (g := (mkF m 29 #[lI x0, lI x1, lI x2, lI x3, lI x4, lI x5, lV vI1, lR b5_0, lU, lU, lU, lU] [(.int x2), (.int x1), (.ref b5_0), (.ref b16), (.ref b16)])) rfl (by rw [hml]; rfl) (Steps.refl _) (a := b16) (argsL := [(.ref b5_0), (.int x1), (.int x2)]) (rest := [(.ref b16)]) (lenOf pd__Ljava_lang_String_II_V rfl) rfl (own_W rfl) (hb hby at_29) (fun _ _ => ⟨rfl, e16, (by decide : 3 + 0 ≤ _), (by decide : 8 + 0 ≤ _)⟩))
  obtain ⟨rfl, N24q, K24, f25, f26, f27⟩ := hQ24
  have N24 := Fr.app N5 N24q
  obtain ⟨T28, h28, X28, e28, E28, A28, D28, -, st28⟩ := newO X24 hx hZ hown (w 44 rfl) (w 45 rfl) (w 46 rfl) rfl (g := (mkF m 34 #[lI x0, lI x1, lI x2, lI x3, lI x4, lI x5, lV vI1, lR b5_0, lR b16, lU, lU, lU] [])) rfl (hb hby at_34) (by decide) (by decide)
  obtain ⟨b28, g28⟩ : ∃ z, z = T24.heap.size := ⟨_, rfl⟩
  rw [← g28] at A28 D28 st28
  have f29 : Fld Z h28 b28 "java/util/AbstractList" "modCount" "I" vI0 := D28 (Or.inl (w 64 rfl)) (ty := .int) (by decide)
  have f30 : Fld Z h28 b28 "java/util/ArrayList" "elementData" "[Ljava/lang/Object;" .null := D28 (Or.inl (w 67 rfl)) (ty := (.array (.object "java/lang/Object"))) (by decide)
  have f31 : Fld Z h28 b28 "java/util/ArrayList" "size" "I" vI0 := D28 (Or.inl (w 80 rfl)) (ty := .int) (by decide)
  have o33 := Old.keep o23 K24 (allS g22 all0)
  have zz32 : n0 ≤ T24.heap.size := by rw [← o33.1]; exact o33.2.1
  have g34 := Nat.le_trans zz32 (Nat.le_of_eq g28.symm)
  have o36 := Old.ext o33 E28
  obtain ⟨_, T37, Lc37, X37, hQ37, st37⟩ := own_fin (X28.specialBack hx (y := mN8) rfl hown (mvT hZ (w 47 rfl)) (mvT hZ (w 48 rfl)) (mvT hZ (w 49 rfl)) (by decide) (backOf (W := 1) (rm8_1 l Z a0 hw [] b28 r7 h28 n0 o36 A28 f29 g34 f30 f31 f35) hZ (w 49 rfl) (w 46 rfl) (by decide) (by decide)) (g := (mkF m 38 #[lI x0, lI x1, lI x2, lI x3, lI x4, lI x5, lV vI1, lR b5_0, lR b16, lU, lU, lU] [(.ref b28), (.ref b28)])) rfl (by rw [hml]; rfl) (Steps.refl _) (a := b28) (argsL := []) (rest := [(.ref b28)]) (lenOf pd___V rfl) rfl (own_W rfl) (hb hby at_38) (fun _ _ => ⟨rfl, e28, (by decide : 4 + 0 ≤ _), (by decide : 11 + 0 ≤ _)⟩))
  obtain ⟨rfl, N37q, K37, f38, f39, f40⟩ := hQ37
  have N37 := Fr.app N24 N37q
  have f41 := (A28.keep K37)
  have zs43 := K37.1
  have f44 := (((A16.keep K24).ext E28).keep K37)
  have o45 := Old.keep o36 K37 (allS g34 all0)
  obtain ⟨_, T46, Lc46, X46, hQ46, st46⟩ := own_cI (xi := mN46) X37 hx hZ hown rfl (rm11_1 l Z a0 hw [] b28 b16 r7 c8 T37.heap n0 o45 f38 f41 g34 f39 f40 f42 f35 (Nat.lt_of_lt_of_le A28.lt zs43) f44) f41 (w 68 rfl) (w 69 rfl) (w 70 rfl) (w 71 rfl) (w 72 rfl) (w 73 rfl) (w 74 rfl) (w 75 rfl) (w 76 rfl) (w 46 rfl) (by decide) (W := 0) (by decide) (by decide) (by decide) (by decide) (g := (mkF m 47 #[lI x0, lI x1, lI x2, lI x3, lI x4, lI x5, lV vI1, lR b5_0, lR b16, lR b28, lU, lU] [(.ref b16), (.ref b28)])) rfl (by rw [hml]; rfl) (argsL := [(.ref b16)]) (rest := []) (lenOf pd__Ljava_lang_Object__Z rfl) rfl (own_W rfl) (hb hby at_47)
  obtain ⟨b46_0, k46_0, rfl, N46q, K46, f47, f48, f49, f50, f51, f52, f53⟩ := hQ46
  have N46 := Fr.app N37 N46q
  obtain ⟨T54, h54, X54, e54, E54, A54, D54, -, st54⟩ := newO X46 hx hZ hown (w 103 rfl) (w 104 rfl) (w 105 rfl) rfl (g := (mkF m 120 #[lI x0, lI x1, lI x2, lI x3, lI x4, lI x5, lV vI1, lR b5_0, lR b16, lR b28, lU, lU] [])) rfl (hb hby at_120) (by decide) (by decide)
  obtain ⟨b54, g54⟩ : ∃ z, z = T46.heap.size := ⟨_, rfl⟩
  rw [← g54] at A54 D54 st54
  have f55 : Fld Z h54 b54 cs11 "id" "Ljava/lang/String;" .null := D54 (Or.inr (w 111 rfl)) (ty := (.object "java/lang/String")) (by decide)
  have f56 : Fld Z h54 b54 cs11 "length" "I" vI0 := D54 (Or.inr (w 113 rfl)) (ty := .int) (by decide)
  have f57 : Fld Z h54 b54 cs11 "elements" "Ljava/util/List;" .null := D54 (Or.inr (w 201 rfl)) (ty := (.object "java/util/List")) (by decide)
  have f58 : Fld Z h54 b54 cs11 "subtreeEnds" "[I" .null := D54 (Or.inr (w 231 rfl)) (ty := (.array .int)) (by decide)
  have f59 : Fld Z h54 b54 cs11 "placesByPath" "[I" .null := D54 (Or.inr (w 267 rfl)) (ty := (.array .int)) (by decide)
  have o61 := Old.keep o45 K46 (allS g34 all0)
  have zz60 : n0 ≤ T46.heap.size := by rw [← o61.1]; exact o61.2.1
  have g62 := Nat.le_trans zz60 (Nat.le_of_eq g54.symm)
  have f63 := ((f41.keep K46).ext E54)
  have f64 := (f48.ext E54)
  have zs65 := Nat.le_trans zs43 K46.1
  have n66 := Nat.ne_of_lt (Nat.lt_of_lt_of_le (Nat.lt_of_lt_of_le A28.lt zs65) (Nat.le_of_eq g54.symm))
  have f67 := (f47.ext E54)
  have f68 := (f52.ext E54)
  have f70 := (f51.ext E54)
  have n71 := Nat.ne_of_lt (Nat.lt_of_lt_of_le f51.lt (Nat.le_of_eq g54.symm))
  have f72 := ((f44.keep K46).ext E54)
  have n74 := Nat.ne_of_lt (Nat.lt_of_lt_of_le f7.lt (Nat.le_of_eq g16.symm))
  have zs75 := E16.1
  have zs76 := Nat.le_trans zs75 K24.1
  have n77 := Nat.ne_of_lt (Nat.lt_of_lt_of_le (Nat.lt_of_lt_of_le f7.lt zs76) (Nat.le_of_eq g28.symm))
  have f78 := ((((((f8.ext E16).keep K24 (ninS n74 nin0)).ext E28).keep K37 (ninS n77 nin0)).keep K46 (ninS n77 nin0)).ext E54)
  have zs79 := Nat.le_trans zs76 E28.1
  have zs80 := Nat.le_trans zs79 K37.1
  have zs81 := Nat.le_trans zs80 K46.1
  have n82 := Nat.ne_of_lt (Nat.lt_of_lt_of_le (Nat.lt_of_lt_of_le f7.lt zs81) (Nat.le_of_eq g54.symm))
  have n83 := Nat.ne_of_lt (Nat.lt_of_lt_of_le f13.lt (Nat.le_of_eq g16.symm))
  have n84 := Nat.ne_of_lt (Nat.lt_of_lt_of_le (Nat.lt_of_lt_of_le f13.lt zs76) (Nat.le_of_eq g28.symm))
  have f85 := ((((((f13.ext E16).keep K24 (ninS n83 nin0)).ext E28).keep K37 (ninS n84 nin0)).keep K46 (ninS n84 nin0)).ext E54)
  have n86 := Nat.ne_of_lt (Nat.lt_of_lt_of_le (Nat.lt_of_lt_of_le f13.lt zs81) (Nat.le_of_eq g54.symm))
  have zs87 := K24.1
  have n88 := Nat.ne_of_lt (Nat.lt_of_lt_of_le (Nat.lt_of_lt_of_le A16.lt zs87) (Nat.le_of_eq g28.symm))
  have f89 := ((((f25.ext E28).keep K37 (ninS n88 nin0)).keep K46 (ninS n88 nin0)).ext E54)
  have zs90 := Nat.le_trans zs87 E28.1
  have zs91 := Nat.le_trans zs90 K37.1
  have zs92 := Nat.le_trans zs91 K46.1
  have n93 := Nat.ne_of_lt (Nat.lt_of_lt_of_le (Nat.lt_of_lt_of_le A16.lt zs92) (Nat.le_of_eq g54.symm))
  have f94 := ((((((f7.ext E16).keep K24).ext E28).keep K37).keep K46).ext E54)
  have f95 := ((((((f10.ext E16).keep K24 (ninS n74 nin0)).ext E28).keep K37 (ninS n77 nin0)).keep K46 (ninS n77 nin0)).ext E54)
  have f96 := ((((((f11.ext E16).keep K24 (ninS n74 nin0)).ext E28).keep K37 (ninS n77 nin0)).keep K46 (ninS n77 nin0)).ext E54)
  have f97 := ((((((f9.ext E16).keep K24 (ninS n74 nin0)).ext E28).keep K37 (ninS n77 nin0)).keep K46 (ninS n77 nin0)).ext E54)
  have zz98 : n0 ≤ h0.size := by rw [← O0.1]; exact O0.2.1
  have g99 := Nat.le_trans zz98 f6
  have zs100 := Nat.le_trans zs81 E54.1
  have o101 := Old.ext o61 E54
  obtain ⟨_, T102, Lc102, X102, hQ102, st102⟩ := own_fin (X54.specialBack hx (y := mN41) rfl hown (mvT hZ (w 106 rfl)) (mvT hZ (w 107 rfl)) (mvT hZ (w 108 rfl)) (by decide) (backOf (W := 1) (rm16_1 l Z a0 hw [] b54 b5_0 x2 b28 b46_0 r9 k46_0 b16 r10 b5_1 k5_0 ((((x0 &&& (255 : Int32)).toUInt32.toUInt16.toUInt32.toInt32).toInt8.toInt32).toInt8.toInt32) x6 h54 n0 o101 A54 f55 g62 f56 f63 f64 n66 f67 f68 f69 f70 n71 f72 f73 f57 f78 n82 f85 n86 A54.lt f89 n93 f58 f94 f95 f96 f2 f97 g99 (Nat.lt_of_lt_of_le f7.lt zs100) hc3 f59) hZ (w 108 rfl) (w 105 rfl) (by decide) (by decide)) (g := (mkF m 129 #[lI x0, lI x1, lI x2, lI x3, lI x4, lI x5, lV vI1, lR b5_0, lR b16, lR b28, lU, lU] [(.ref b28), (.int x2), (.ref b5_0), (.ref b54), (.ref b54)])) rfl (by rw [hml]; rfl) (Steps.refl _) (a := b54) (argsL := [(.ref b5_0), (.int x2), (.ref b28)]) (rest := [(.ref b54)]) (lenOf pd__Ljava_lang_String_ILjava_util_List__V rfl) rfl (own_W rfl) (hb hby at_129) (fun _ _ => ⟨rfl, e54, (by decide : 6 + 5 ≤ _), (by decide : 26 + 7 ≤ _)⟩))
  obtain ⟨b102_0, b102_1, b102_2, rfl, N102q, K102, f103, f104, f105, f106, f107, f108, f109, f110, f111, f112, f113, f114, f115⟩ := hQ102
  have N102 := Fr.app N46 N102q
  have f116 := (f72.keep K102)
  have o117 := Old.keep o101 K102 (allS g62 (allS g99 all0))
  have f119 := (A54.keep K102)
  obtain ⟨_, T118, Lc118, X118, hQ118, st118⟩ := own_cV X102 hx hZ hown rfl (rm40_1 l Z a0 hw [] b54 b102_0 b16 T102.heap n0 o117 f105 f111 f112 f116) f119 (w 268 rfl) (w 269 rfl) (w 271 rfl) (w 270 rfl) (w 272 rfl) (w 105 rfl) (by decide) (W := 0) (by decide) (by decide) (by decide) (by decide) (g := (mkF m 136 #[lI x0, lI x1, lI x2, lI x3, lI x4, lI x5, lV vI1, lR b5_0, lR b16, lR b28, lR b54, lU] [(.ref b54)])) rfl (by rw [hml]; rfl) (argsL := []) (rest := []) (lenOf pd___Lcom_example_nearmiss_nearmiss_Element_ rfl) rfl (own_W rfl) (hb hby at_136)
  obtain ⟨rfl, N118q, E118⟩ := hQ118
  have N118 := Fr.app N102 N118q
  have f120 := (f89.keep K102 (ninS n93 (ninS (Ne.symm n74) nin0)))
  obtain ⟨_, T121, Lc121, X121, hQ121, st121⟩ := own_cV X118 hx hZ hown E118 (rm32_1 l Z a0 hw [] b16 b5_0 T102.heap n0 o117 f120) f116 (w 273 rfl) (w 226 rfl) (w 228 rfl) (w 227 rfl) (w 229 rfl) (w 28 rfl) (by decide) (W := 0) (by decide) (by decide) (by decide) (by decide) (g := (mkF m 143 #[lI x0, lI x1, lI x2, lI x3, lI x4, lI x5, lV vI1, lR b5_0, lR b16, lR b28, lR b54, lR b16] [(.ref b16)])) rfl (by rw [hml]; rfl) (argsL := []) (rest := []) (lenOf pd___Ljava_lang_String_ rfl) rfl (own_W rfl) (hb hby at_143)
  obtain ⟨rfl, N121q, E121⟩ := hQ121
  have N121 := Fr.app N118 N121q
  have f123 := (f94.keep K102)
  obtain ⟨_, T122, Lc122, X122, hQ122, st122⟩ := own_cV X121 hx hZ hown E121 (rm41_1 l Z a0 hw [] b5_0 T102.heap n0 o117) f123 (w 274 rfl) (w 275 rfl) (w 277 rfl) (w 276 rfl) (w 278 rfl) (w 2 rfl) (by decide) (W := 0) (by decide) (by decide) (by decide) (by decide) (g := (mkF m 148 #[lI x0, lI x1, lI x2, lI x3, lI x4, lI x5, lV vI1, lR b5_0, lR b16, lR b28, lR b54, lR b16] [(.ref b5_0), (.ref b5_0)])) rfl (by rw [hml]; rfl) (argsL := [(.ref b5_0)]) (rest := []) (lenOf pd__Ljava_lang_Object__Z rfl) rfl (own_W rfl) (hb hby at_148)
  obtain ⟨rfl, N122q, E122⟩ := hQ122
  have N122 := Fr.app N121 N122q
  have f124 := (((((f26.ext E28).keep K37 (ninS n88 nin0)).keep K46 (ninS n88 nin0)).ext E54).keep K102 (ninS n93 (ninS (Ne.symm n74) nin0)))
  obtain ⟨_, T125, Lc125, X125, hQ125, st125⟩ := own_cV X122 hx hZ hown E122 (rm42_1 l Z a0 hw [] b16 x1 T102.heap n0 o117 f124) f116 (w 279 rfl) (w 280 rfl) (w 282 rfl) (w 281 rfl) (w 283 rfl) (w 28 rfl) (by decide) (W := 0) (by decide) (by decide) (by decide) (by decide) (g := (mkF m 156 #[lI x0, lI x1, lI x2, lI x3, lI x4, lI x5, lV vI1, lR b5_0, lR b16, lR b28, lR b54, lR b16] [(.ref b16)])) rfl (by rw [hml]; rfl) (argsL := []) (rest := []) (lenOf pd___I rfl) rfl (own_W rfl) (hb hby at_156)
  obtain ⟨rfl, N125q, E125⟩ := hQ125
  have N125 := Fr.app N122 N125q
  have f126 := (((((f27.ext E28).keep K37 (ninS n88 nin0)).keep K46 (ninS n88 nin0)).ext E54).keep K102 (ninS n93 (ninS (Ne.symm n74) nin0)))
  obtain ⟨_, T127, Lc127, X127, hQ127, st127⟩ := own_cV X125 hx hZ hown E125 (rm43_1 l Z a0 hw [] b16 x2 T102.heap n0 o117 f126) f116 (w 284 rfl) (w 285 rfl) (w 287 rfl) (w 286 rfl) (w 288 rfl) (w 28 rfl) (by decide) (W := 0) (by decide) (by decide) (by decide) (by decide) (g := (mkF m 165 #[lI x0, lI x1, lI x2, lI x3, lI x4, lI x5, lV vI1, lR b5_0, lR b16, lR b28, lR b54, lR b16] [(.ref b16)])) rfl (by rw [hml]; rfl) (argsL := []) (rest := []) (lenOf pd___I rfl) rfl (own_W rfl) (hb hby at_165)
  obtain ⟨rfl, N127q, E127⟩ := hQ127
  have N127 := Fr.app N125 N127q
  obtain ⟨fs, hr, hrun, hended, hW, hsame⟩ := X127.leave (v := some vI1) (fun h => by rw [Bd.returns] at h; cases h)
  refine ⟨_, _, pre0 _ ?_, hrun, hended, _, _, rfl, ?_, ⟨_, rfl⟩, hW, hsame.mono (by decide) (by decide)⟩
  · show SG p e below s₁ (mkF m 0 #[lI x0, lI x1, lI x2, lI x3, lI x4, lI x5, lU, lU, lU, lU, lU, lU] []) _
    refine qi X0 hx hby at_0 ?_
    refine qc X0 hx hby at_2 ?_
    refine XS.iand X0.here hx rfl (hb hby at_3) rfl ?_
    refine qc X0 hx hby at_4 ?_
    refine iremM (g := (mkF m 5 #[lI x0, lI x1, lI x2, lI x3, lI x4, lI x5, lU, lU, lU, lU, lU, lU] [vI3, (.int (x5 &&& (3 : Int32)))])) X0 hx rfl (hb hby at_5) rfl (by decide : ¬ ((3 : Int32) = (0 : Int32))) ?_
    show SG p e below s₁ (mkF m 6 #[lI x0, lI x1, lI x2, lI x3, lI x4, lI x5, lU, lU, lU, lU, lU, lU] [(.int ((x5 &&& (3 : Int32)) % (3 : Int32)))]) _
    rw [hc1]
    refine qc X0 hx hby at_6 ?_
    refine XS.iadd X0.here hx rfl (hb hby at_7) rfl ?_
    refine XS.istore X0.here hx rfl (hb hby at_8) rfl (l' := #[lI x0, lI x1, lI x2, lI x3, lI x4, lI x5, lV vI1, lU, lU, lU, lU, lU]) rfl ?_
    refine qiN X0 hx hby at_10 ?_
    refine XS.sipush X0.here hx rfl (hb hby at_11) ?_
    show SG p e below s₁ (mkF m 14 #[lI x0, lI x1, lI x2, lI x3, lI x4, lI x5, lV vI1, lU, lU, lU, lU, lU] [vI255, (.int x0)]) _
    refine XS.iand X0.here hx rfl (hb hby at_14) rfl ?_
    refine XS.i2c X0.here hx rfl (hb hby at_15) rfl ?_
    refine st5 _ ?_
    refine XS.astore X5.here hx rfl (hb hby at_19) rfl rfl (l' := #[lI x0, lI x1, lI x2, lI x3, lI x4, lI x5, lV vI1, lR b5_0, lU, lU, lU, lU]) rfl ?_
    refine st16 _ ?_
    refine qd X16 hx hby at_24 ?_
    refine qa X16 hx hby at_25 ?_
    refine qiN X16 hx hby at_27 ?_
    refine qiN X16 hx hby at_28 ?_
    refine st24.trans ?_
    show SG p e below T24 (mkF m 32 #[lI x0, lI x1, lI x2, lI x3, lI x4, lI x5, lV vI1, lR b5_0, lU, lU, lU, lU] [(.ref b16)]) _
    refine XS.astore X24.here hx rfl (hb hby at_32) rfl rfl (l' := #[lI x0, lI x1, lI x2, lI x3, lI x4, lI x5, lV vI1, lR b5_0, lR b16, lU, lU, lU]) rfl ?_
    refine st28 _ ?_
    refine qd X28 hx hby at_37 ?_
    refine st37.trans ?_
    refine XS.astore X37.here hx rfl (hb hby at_41) rfl rfl (l' := #[lI x0, lI x1, lI x2, lI x3, lI x4, lI x5, lV vI1, lR b5_0, lR b16, lR b28, lU, lU]) rfl ?_
    refine qa X37 hx hby at_43 ?_
    refine qa X37 hx hby at_45 ?_
    refine st46 _ ?_
    refine XS.pop X46.here hx rfl (hb hby at_52) rfl rfl ?_
    refine qi X46 hx hby at_53 ?_
    show SG p e below T46 (mkF m 55 #[lI x0, lI x1, lI x2, lI x3, lI x4, lI x5, lV vI1, lR b5_0, lR b16, lR b28, lU, lU] [vI1]) _
    refine qc X46 hx hby at_55 ?_
    refine XS.icmpYes X46.here hx rfl (pc0 := 56) (pc' := 86) rfl (hb hby at_56) rfl (tlt (by decide : (1 : Int32) < (2 : Int32))).1 (by decide) (by decide) ?_
    refine qi X46 hx hby at_86 ?_
    refine qc X46 hx hby at_88 ?_
    refine XS.icmpYes X46.here hx rfl (pc0 := 89) (pc' := 120) rfl (hb hby at_89) rfl (tlt (by decide : (1 : Int32) < (3 : Int32))).1 (by decide) (by decide) ?_
    refine st54 _ ?_
    refine qd X54 hx hby at_123 ?_
    refine qa X54 hx hby at_124 ?_
    refine qiN X54 hx hby at_126 ?_
    refine qa X54 hx hby at_127 ?_
    show SG p e below T54 (mkF m 129 #[lI x0, lI x1, lI x2, lI x3, lI x4, lI x5, lV vI1, lR b5_0, lR b16, lR b28, lU, lU] [(.ref b28), (.int x2), (.ref b5_0), (.ref b54), (.ref b54)]) _
    refine st102.trans ?_
    refine XS.astore X102.here hx rfl (hb hby at_132) rfl rfl (l' := #[lI x0, lI x1, lI x2, lI x3, lI x4, lI x5, lV vI1, lR b5_0, lR b16, lR b28, lR b54, lU]) rfl ?_
    refine qa X102 hx hby at_134 ?_
    refine st118 _ ?_
    refine XS.astore X118.here hx rfl (hb hby at_139) rfl rfl (l' := #[lI x0, lI x1, lI x2, lI x3, lI x4, lI x5, lV vI1, lR b5_0, lR b16, lR b28, lR b54, lR b16]) rfl ?_
    refine qa X118 hx hby at_141 ?_
    refine st121 _ ?_
    refine qa X121 hx hby at_146 ?_
    refine st122 _ ?_
    refine XS.ifNo X122.here hx rfl (hb hby at_151) rfl ((if0 _ _).trans (feq (by decide : ¬ ((1 : Int32) = (0 : Int32)))).1) ?_
    show SG p e below T122 (mkF m 154 #[lI x0, lI x1, lI x2, lI x3, lI x4, lI x5, lV vI1, lR b5_0, lR b16, lR b28, lR b54, lR b16] []) _
    refine qa X122 hx hby at_154 ?_
    refine st125 _ ?_
    refine qiN X125 hx hby at_159 ?_
    refine XS.icmpNo X125.here hx rfl (hb hby at_160) rfl (teq (rfl : x1 = x1)).2 ?_
    refine qa X125 hx hby at_163 ?_
    refine st127 _ ?_
    refine qiN X127 hx hby at_168 ?_
    refine XS.icmpNo X127.here hx rfl (hb hby at_169) rfl (teq (rfl : x2 = x2)).2 ?_
    refine qc X127 hx hby at_172 ?_
    refine XS.goto X127.here hx rfl (pc0 := 173) (pc' := 177) rfl (hb hby at_173) (by decide) (by decide) ?_
    show SG p e below T127 (mkF m 177 #[lI x0, lI x1, lI x2, lI x3, lI x4, lI x5, lV vI1, lR b5_0, lR b16, lR b28, lR b54, lR b16] [vI1]) _
    exact retN X127 hx (t := .boolean) Bd.returns (by simp) (hb hby at_177) hr
  · show Q0_1 Z  h0 n0 _ T127.heap _
    rw [E127]
    exact ⟨rfl, N127⟩
def Q12_2 (Z : State) (r0 r1 r2 : Addr) (c3 : ClassId) (r4 : Addr) (h0 : Heap) (n0 : Nat) (v : Option Value) (h : Heap) (L : List Loc) : Prop := v = none ∧ Fr n0 L ∧ Keep h0 h [r2, r0] ∧ Arv Z h r2 c3 (.object "java/lang/Object") (10 : Int32) [(.ref r4), (.ref r1), .null, .null, .null, .null, .null, .null, .null, .null] .null ∧ Fld Z h r0 "java/util/ArrayList" "size" "I" vI2 ∧ Fld Z h r0 "java/util/AbstractList" "modCount" "I" vI2 ∧ Fld Z h r0 "java/util/ArrayList" "elementData" "[Ljava/lang/Object;" (.ref r2)
theorem rm12_2 (l : Launch) (Z : State) (a0 : Array Value) (hw : own_HW a0 Z) (ws : List Jvm.Cond) (r0 r1 r2 : Addr) (c3 : ClassId) (r4 : Addr) (h0 : Heap) (n0 : Nat) (O0 : Old Z n0 h0) (f1 : Arv Z h0 r2 c3 (.object "java/lang/Object") (10 : Int32) [(.ref r4), .null, .null, .null, .null, .null, .null, .null, .null, .null] .null) (f4 : Ovr Z c3 "java/lang/Object") (f5 : Exa Z h0 r1 cs0) (g6 : n0 ≤ r2) (f8 : Exa Z h0 r0 "java/util/ArrayList") (f10 : Fld Z h0 r0 "java/util/ArrayList" "size" "I" vI1) (n11 : r0 ≠ r2) (g13 : n0 ≤ r0) (f15 : Fld Z h0 r0 "java/util/AbstractList" "modCount" "I" vI2) (f17 : Fld Z h0 r0 "java/util/ArrayList" "elementData" "[Ljava/lang/Object;" (.ref r2)) :
    own_MF l mN12 jdk_38_method_24_code 4 none ws rR0_0_0_0 Z h0 #[(.ref r0), (.ref r1), (.ref r2), vI1] (Q12_2 Z r0 r1 r2 c3 r4 h0 n0) := by
  refine own_open (plainFor_of_name pn_java_util_ArrayList) (L0 := #[lR r0, lR r1, lR r2, lV vI1]) (fun _ => by first | (simp [entryFrame, mkF, argsToLocals, Value.category]; done) | rfl) ?_
  intro p e s m below meth c s₁ hx hby hml hret hnn hZ hown X0 e0
  have N0 := Fr.nil n0; have w := @ww Z a0 hw
  obtain ⟨clq2, Arq2, qq2, Sq2, Nq2, Hq2, Gq2⟩ := id f1
  obtain ⟨clq3, Arq3, qq3, Sq3, Nq3, Hq3, Gq3⟩ := id f1
  obtain ⟨T7, h7, X7, e7, W7, st7⟩ := stR X0 hx hZ e0 Arq3 (j := (1 : Int32)) (inb_of Sq3 ⟨(by decide : ¬ ((1 : Int32) < (0 : Int32))), (by decide : (1 : Int32) < (10 : Int32))⟩) rfl (Sto.ofV Arq3 qq3 f4 (Ins.of_exa f5 (w 102 rfl))) (g := (mkF m 14 #[lR r0, lR r1, lR r2, lV vI1] [(.ref r1), vI1, (.ref r2)])) rfl rfl (hb hby d12_14)
  have V7 : Arv Z h7 r2 c3 (.object "java/lang/Object") (10 : Int32) [(.ref r4), (.ref r1), .null, .null, .null, .null, .null, .null, .null, .null] .null := Arv.set Arq3 qq3 Sq3 Nq3 Hq3 Gq3 rfl W7 1 rfl (Nat.le_of_ble_eq_true rfl)
  have N7 := Fr.snoc X7 N0 g6
  have f9 := (f8.wr W7)
  have f12 := (f10.other W7 (Or.inl n11))
  obtain ⟨T14, h14, X14, e14, W14, st14⟩ := putF X7 hx hZ hown (host := "") (Or.inl (w 79 rfl)) Via.refl e7 f12 f9 (Or.inl (w 80 rfl)) (w 45 rfl) (ty := .int) (by decide) rfl rfl (g := (mkF m 19 #[lR r0, lR r1, lR r2, lV vI1] [vI2, (.ref r0)])) rfl rfl (hb hby d12_19)
  have Fw14 := f12.same W14
  have N14 := Fr.snoc X14 N7 g13
  have f16 := ((f15.other W7 (Or.inl n11)).other W14 (Or.inr (slot_ne (Or.inl (w 64 rfl)) (Or.inl (w 80 rfl)) (by decide) (t := .int) (t' := .int) (by decide) (by decide))))
  have f18 := ((f17.other W7 (Or.inl n11)).other W14 (Or.inr (slot_ne (Or.inl (w 67 rfl)) (Or.inl (w 80 rfl)) (by decide) (t := (.array (.object "java/lang/Object"))) (t' := .int) (by decide) (by decide))))
  have f19 := (V7.other W14 (Ne.symm n11))
  have kp20 : Keep h0 h7 [r2, r0] := (Keep.refl h0 [r2, r0]).wr W7 (Or.inl (List.mem_of_getElem? (i := 0) rfl))
  have kp21 : Keep h0 h14 [r2, r0] := kp20.wr W14 (Or.inl (List.mem_of_getElem? (i := 1) rfl))
  refine ⟨none, _, _, _, _, (fun _ => rfl), X14, by decide, by decide, ?_, fun fs hr => ?_⟩
  · rw [e14]; exact ⟨rfl, N14, kp21, f19, Fw14, f16, f18⟩
  · show SG p e below s₁ (mkF m 0 #[lR r0, lR r1, lR r2, lV vI1] []) _
    refine qiN X0 hx hby d12_0 ?_
    refine qaN X0 hx hby d12_1 ?_
    refine X0.arraylength hx (by rw [e0]; exact Arq2.1) (State.isArrayOf_alike hZ.alike Arq2.2.1) (g := (mkF m 2 #[lR r0, lR r1, lR r2, lV vI1] [(.ref r2), vI1])) rfl rfl (hb hby d12_2) _ ?_
    rw [len_of Sq2 Nq2]
    refine XS.icmpYes X0.here hx rfl (pc0 := 3) (pc' := 11) rfl (hb hby d12_3) rfl (feq (by decide : ¬ ((1 : Int32) = (10 : Int32)))).2 (by decide) (by decide) ?_
    refine qaN X0 hx hby d12_11 ?_
    refine qiN X0 hx hby d12_12 ?_
    refine qaN X0 hx hby d12_13 ?_
    refine st7 _ ?_
    refine qaN X7 hx hby d12_15 ?_
    refine qiN X7 hx hby d12_16 ?_
    show SG p e below T7 (mkF m 17 #[lR r0, lR r1, lR r2, lV vI1] [vI1, (.ref r0)]) _
    refine qc X7 hx hby d12_17 ?_
    refine XS.iadd X7.here hx rfl (hb hby d12_18) rfl ?_
    refine st14 _ ?_
    exact X14.returnOut hx hret (hb hby d12_22) hr
def Q11_2 (Z : State) (r0 r1 r2 : Addr) (c3 : ClassId) (r4 : Addr) (h0 : Heap) (n0 : Nat) (v : Option Value) (h : Heap) (L : List Loc) : Prop := v = some vI1 ∧ Fr n0 L ∧ Keep h0 h [r0, r2] ∧ Fld Z h r0 "java/util/ArrayList" "size" "I" vI2 ∧ Fld Z h r0 "java/util/AbstractList" "modCount" "I" vI2 ∧ Fld Z h r0 "java/util/ArrayList" "elementData" "[Ljava/lang/Object;" (.ref r2) ∧ Arv Z h r2 c3 (.object "java/lang/Object") (10 : Int32) [(.ref r4), (.ref r1), .null, .null, .null, .null, .null, .null, .null, .null] .null
theorem rm11_2 (l : Launch) (Z : State) (a0 : Array Value) (hw : own_HW a0 Z) (ws : List Jvm.Cond) (r0 r1 r2 : Addr) (c3 : ClassId) (r4 : Addr) (h0 : Heap) (n0 : Nat) (O0 : Old Z n0 h0) (f1 : Fld Z h0 r0 "java/util/AbstractList" "modCount" "I" vI1) (f3 : Exa Z h0 r0 "java/util/ArrayList") (g4 : n0 ≤ r0) (f6 : Fld Z h0 r0 "java/util/ArrayList" "elementData" "[Ljava/lang/Object;" (.ref r2)) (f9 : Fld Z h0 r0 "java/util/ArrayList" "size" "I" vI1) (f12 : Arv Z h0 r2 c3 (.object "java/lang/Object") (10 : Int32) [(.ref r4), .null, .null, .null, .null, .null, .null, .null, .null, .null] .null) (n13 : r2 ≠ r0) (f15 : Ovr Z c3 "java/lang/Object") (f16 : Exa Z h0 r1 cs0) (g18 : n0 ≤ r2) :
    own_MF l mN13 jdk_38_method_25_code 2 (some .boolean) ws rR1_0_0_15 Z h0 #[(.ref r0), (.ref r1)] (Q11_2 Z r0 r1 r2 c3 r4 h0 n0) := by
  refine own_open (plainFor_of_name pn_java_util_ArrayList) (L0 := #[lR r0, lR r1]) (fun _ => by first | (simp [entryFrame, mkF, argsToLocals, Value.category]; done) | rfl) ?_
  intro p e s m below meth c s₁ hx hby hml hret hnn hZ hown X0 e0
  have N0 := Fr.nil n0; have w := @ww Z a0 hw
  obtain ⟨T2, X2, e2, st2⟩ := getF X0 hx hZ hown (host := "") (Or.inl (w 77 rfl)) (Via.of (w 78 rfl)) e0 f1 (g := (mkF m 2 #[lR r0, lR r1] [(.ref r0), (.ref r0)])) rfl rfl (hb hby d11_2)
  obtain ⟨T5, h5, X5, e5, W5, st5⟩ := putF X2 hx hZ hown (host := "") (Or.inl (w 77 rfl)) (Via.of (w 78 rfl)) e2 f1 f3 (Or.inl (w 64 rfl)) (w 45 rfl) (ty := .int) (by decide) rfl rfl (g := (mkF m 7 #[lR r0, lR r1] [vI2, (.ref r0)])) rfl rfl (hb hby d11_7)
  have Fw5 := f1.same W5
  have N5 := Fr.snoc X5 N0 g4
  have f7 := (f6.other W5 (Or.inr (slot_ne (Or.inl (w 67 rfl)) (Or.inl (w 64 rfl)) (by decide) (t := (.array (.object "java/lang/Object"))) (t' := .int) (by decide) (by decide))))
  obtain ⟨T8, X8, e8, st8⟩ := getF X5 hx hZ hown (host := "") (Or.inl (w 66 rfl)) Via.refl e5 f7 (g := (mkF m 13 #[lR r0, lR r1] [(.ref r0), (.ref r1), (.ref r0)])) rfl rfl (hb hby d11_13)
  have f10 := (f9.other W5 (Or.inr (slot_ne (Or.inl (w 80 rfl)) (Or.inl (w 64 rfl)) (by decide) (t := .int) (t' := .int) (by decide) (by decide))))
  obtain ⟨T11, X11, e11, st11⟩ := getF X8 hx hZ hown (host := "") (Or.inl (w 79 rfl)) Via.refl e8 f10 (g := (mkF m 17 #[lR r0, lR r1] [(.ref r0), (.ref r2), (.ref r1), (.ref r0)])) rfl rfl (hb hby d11_17)
  have f14 := (f12.other W5 n13)
  have f17 := (f16.wr W5)
  have f19 := (f3.wr W5)
  have o20 := Old.wr O0 W5 g4
  obtain ⟨cqq22, qq22, qq22'⟩ := f19.cell
  obtain ⟨_, T21, Lc21, X21, hQ21, st21⟩ := own_fin (X11.privateBack hx (y := mN12) hown (mvT hZ (w 81 rfl)) (mvT hZ (w 82 rfl)) (mvT hZ (w 84 rfl)) (Cond.privateMethod_at (mvP hZ (w 83 rfl) (args := #[]))) (mvT hZ (w 85 rfl)) (by decide) (backOf (W := 0) (rm12_2 l Z a0 hw [] r0 r1 r2 c3 r4 h5 n0 o20 f14 f15 f17 g18 f19 f10 (Ne.symm n13) g4 Fw5 f7) hZ (w 85 rfl) (w 46 rfl) (by decide) (by decide)) (g := (mkF m 20 #[lR r0, lR r1] [vI1, (.ref r2), (.ref r1), (.ref r0)])) rfl (by rw [hml]; rfl) (Steps.refl _) (a := r0) (by rw [e11]; exact qq22) qq22' (argsL := [(.ref r1), (.ref r2), vI1]) (rest := []) (lenOf pd__Ljava_lang_Object__Ljava_lang_Object_I_V rfl) rfl (own_W rfl) (hb hby d11_20) (fun _ _ => ⟨rfl, e11, (by decide : 0 + 0 ≤ _), (by decide : 0 + 0 ≤ _)⟩))
  obtain ⟨rfl, N21q, K21, f23, f24, f25, f26⟩ := hQ21
  have N21 := Fr.app N5 N21q
  have kp27 : Keep h0 h5 [r0, r2] := (Keep.refl h0 [r0, r2]).wr W5 (Or.inl (List.mem_of_getElem? (i := 0) rfl))
  have kp28 : Keep h0 T21.heap [r0, r2] := kp27.trans K21 (allS (Or.inl (List.mem_of_getElem? (i := 1) rfl)) (allS (Or.inl (List.mem_of_getElem? (i := 0) rfl)) all0))
  refine ⟨some vI1, _, _, _, _, nofun, X21, by decide, by decide, ?_, fun fs hr => ?_⟩
  · exact ⟨rfl, N21, kp28, f24, f25, f26, f23⟩
  · show SG p e below s₁ (mkF m 0 #[lR r0, lR r1] []) _
    refine qaN X0 hx hby d11_0 ?_
    refine qd X0 hx hby d11_1 ?_
    refine st2 _ ?_
    refine qc X2 hx hby d11_5 ?_
    refine XS.iadd X2.here hx rfl (hb hby d11_6) rfl ?_
    refine st5 _ ?_
    refine qaN X5 hx hby d11_10 ?_
    refine qaN X5 hx hby d11_11 ?_
    refine qaN X5 hx hby d11_12 ?_
    refine st8 _ ?_
    show SG p e below T8 (mkF m 16 #[lR r0, lR r1] [(.ref r2), (.ref r1), (.ref r0)]) _
    refine qaN X8 hx hby d11_16 ?_
    refine st11 _ ?_
    refine st21.trans ?_
    refine qc X21 hx hby d11_23 ?_
    exact retN X21 hx (t := .boolean) hret (by simp) (hb hby d11_24) hr
def Q19_2 (Z : State)  (h0 : Heap) (n0 : Nat) (v : Option Value) (h : Heap) (L : List Loc) : Prop := v = some vI0 ∧ Fr n0 L ∧ h = h0
theorem rm19_2 (l : Launch) (Z : State) (a0 : Array Value) (hw : own_HW a0 Z) (ws : List Jvm.Cond) (r0 : Addr) (h0 : Heap) (n0 : Nat) (O0 : Old Z n0 h0) (f1 : Fld Z h0 r0 "java/util/ArrayList" "size" "I" vI2) :
    own_MF l mN14 jdk_38_method_9_code 1 (some .boolean) ws rR0_0_0_0 Z h0 #[(.ref r0)] (Q19_2 Z  h0 n0) := by
  refine own_open (plainFor_of_name pn_java_util_ArrayList) (L0 := #[lR r0]) (fun _ => by first | (simp [entryFrame, mkF, argsToLocals, Value.category]; done) | rfl) ?_
  intro p e s m below meth c s₁ hx hby hml hret hnn hZ hown X0 e0
  have N0 := Fr.nil n0
  obtain ⟨T2, X2, e2, st2⟩ := getF X0 hx hZ hown (host := "") (Or.inl (ww hw 79 rfl)) Via.refl e0 f1 (g := (mkF m 1 #[lR r0] [(.ref r0)])) rfl rfl (hb hby d19_1)
  refine ⟨some vI0, _, _, _, _, nofun, X2, by decide, by decide, ?_, fun fs hr => ?_⟩
  · rw [e2]; exact ⟨rfl, N0, rfl⟩
  · show SG p e below s₁ (mkF m 0 #[lR r0] []) _
    refine qaN X0 hx hby d19_0 ?_
    refine st2 _ ?_
    refine XS.ifYes X2.here hx rfl (pc0 := 4) (pc' := 11) rfl (hb hby d19_4) rfl ((if0 _ _).trans (feq (by decide : ¬ ((2 : Int32) = (0 : Int32)))).2) (by decide) (by decide) ?_
    refine qc X2 hx hby d19_11 ?_
    exact retN X2 hx (t := .boolean) hret (by simp) (hb hby d19_12) hr
def Q23_2 (Z : State)  (h0 : Heap) (n0 : Nat) (v : Option Value) (h : Heap) (L : List Loc) : Prop := v = some vI2 ∧ Fr n0 L ∧ h = h0
theorem rm23_2 (l : Launch) (Z : State) (a0 : Array Value) (hw : own_HW a0 Z) (ws : List Jvm.Cond)  (h0 : Heap) (n0 : Nat) (O0 : Old Z n0 h0) :
    own_MF l mN15 jdk_29_method_69_code 2 (some .int) ws rR0_0_0_0 Z h0 #[vI10, vI2] (Q23_2 Z  h0 n0) := by
  refine own_open (Jvm.Free.JP.mathPlain rfl (by decide +kernel)) (L0 := #[lV vI10, lV vI2]) (fun _ => by first | (simp [entryFrame, mkF, argsToLocals, Value.category]; done) | rfl) ?_
  intro p e s m below meth c s₁ hx hby hml hret hnn hZ hown X0 e0
  have N0 := Fr.nil n0
  refine ⟨some vI2, _, _, _, _, nofun, X0, by decide, by decide, ?_, fun fs hr => ?_⟩
  · rw [e0]; exact ⟨rfl, N0, rfl⟩
  · show SG p e below s₁ (mkF m 0 #[lV vI10, lV vI2] []) _
    refine qiN X0 hx hby d23_0 ?_
    refine qiN X0 hx hby d23_1 ?_
    refine XS.icmpYes X0.here hx rfl (pc0 := 2) (pc' := 9) rfl (hb hby d23_2) rfl (tlt (by decide : (2 : Int32) < (10 : Int32))).2.2.1 (by decide) (by decide) ?_
    refine qiN X0 hx hby d23_9 ?_
    exact retOut X0 hx (i := .ireturn) hret rfl (Or.inl ⟨rfl, Or.inl rfl, _, rfl⟩) (hb hby d23_10) hr
def Q22_2 (Z : State) (r3 r4 : Addr) (h0 : Heap) (n0 : Nat) (v : Option Value) (h : Heap) (L : List Loc) : Prop := ∃ (b3 : Addr) (k3 : ClassId), v = some (.ref b3) ∧ Fr n0 L ∧ Keep h0 h [] ∧ h0.size ≤ b3 ∧ Arv Z h b3 k3 (.object "java/lang/Object") (2 : Int32) [(.ref r3), (.ref r4)] .null ∧ Exa Z h b3 "[Ljava/lang/Object;" ∧ Ovr Z k3 "java/lang/Object"
theorem rm22_2 (l : Launch) (Z : State) (a0 : Array Value) (hw : own_HW a0 Z) (ws : List Jvm.Cond) (r0 r1 : Addr) (c2 : ClassId) (r3 r4 : Addr) (h0 : Heap) (n0 : Nat) (O0 : Old Z n0 h0) (f1 : own_Mir Z "[Ljava/lang/Object;" r1) (f4 : Arv Z h0 r0 c2 (.object "java/lang/Object") (10 : Int32) [(.ref r3), (.ref r4), .null, .null, .null, .null, .null, .null, .null, .null] .null) (f10 : Exa Z h0 r4 cs0) (f12 : Exa Z h0 r3 cs0) :
    own_MF l mN16 jdk_65_method_120_code 4 (some (.array (.object "java/lang/Object"))) ws rR1_1_2_24 Z h0 #[(.ref r0), vI2, (.ref r1)] (Q22_2 Z r3 r4 h0 n0) := by
  refine own_open (plainFor_of_name pn_java_util_Arrays) (L0 := #[lR r0, lV vI2, lR r1, lU]) (fun _ => by first | (simp [entryFrame, mkF, argsToLocals, Value.category]; done) | rfl) ?_
  intro p e s m below meth c s₁ hx hby hml hret hnn hZ hown X0 e0
  have N0 := Fr.nil n0; have w := @ww Z a0 hw
  obtain ⟨T2, X2, e2, st2⟩ := own_ldcM X0 hx hZ hown (w 158 rfl) e0 f1 (g := (mkF m 1 #[lR r0, lV vI2, lR r1, lU] [(.ref r1)])) rfl (hb hby d22_1)
  obtain ⟨T3, h3, k3, X3, e3, E3, A3, B3, O3, st3⟩ := newRE X2 hx hZ hown (w 159 rfl) (w 101 rfl) e2 (g := (mkF m 7 #[lR r0, lV vI2, lR r1, lU] [vI2])) rfl (hb hby d22_7) rfl (by decide) (cap := 2) (by decide) (by decide) (by decide) (by decide) (ad := "[Ljava/lang/Object;") rfl
  obtain ⟨b3, g3⟩ : ∃ z, z = h0.size := ⟨_, rfl⟩
  rw [← g3] at A3 B3 st3
  have V3 : Arv Z h3 b3 k3 (.object "java/lang/Object") (2 : Int32) [.null, .null] .null := (Arv.new A3 (by decide)).pad (pad_rep [] .null 2)
  have f5 := (f4.ext E3)
  obtain ⟨clq6, Arq6, qq6, Sq6, Nq6, Hq6, Gq6⟩ := id f5
  have o7 := Old.ext O0 E3
  obtain ⟨_, T8, Lc8, X8, hQ8, st8⟩ := own_cS X3 hx hZ hown e3 (rm23_2 l Z a0 hw [] h3 n0 o7) (w 160 rfl) (w 161 rfl) (w 98 rfl) (w 162 rfl) (by decide) (W := 4) (by decide) (by decide) (by decide) (by decide) (g := (mkF m 32 #[lR r0, lV vI2, lR r1, lR b3] [vI2, vI10, vI0, (.ref b3), vI0, (.ref r0)])) rfl (by rw [hml]; rfl) (argsL := [vI10, vI2]) (rest := [vI0, (.ref b3), vI0, (.ref r0)]) (lenOf pd__II_I rfl) rfl (own_W rfl) (hb hby d22_32)
  obtain ⟨rfl, N8q, E8⟩ := hQ8
  have N8 := Fr.app N0 N8q
  obtain ⟨clq9, Arq9, qq9, Sq9, Nq9, Hq9, Gq9⟩ := id V3
  have f11 := (f10.ext E3)
  have f13 := (f12.ext E3)
  have zz14 : n0 ≤ h0.size := by rw [← O0.1]; exact O0.2.1
  have g15 := Nat.le_trans zz14 (Nat.le_of_eq g3.symm)
  obtain ⟨T16, h16, L16, X16, e16, N16, K16, B16, st16⟩ := cpA X8 hx hZ hown (w 163 rfl) (w 166 rfl) (w 164 rfl) (w 165 rfl) E8 f5 V3 (us := [(.ref r3), (.ref r4)]) (Or.inr ⟨rfl, rfl, (And.intro (Sto.ofV Arq9 qq9 O3 (Ins.of_exa f13 (w 102 rfl))) (And.intro (Sto.ofV Arq9 qq9 O3 (Ins.of_exa f11 (w 102 rfl))) trivial))⟩) (by decide) (by decide) (by decide) (by decide) (by decide) rfl (by decide) N8 g15 (g := (mkF m 35 #[lR r0, lV vI2, lR r1, lR b3] [vI2, vI0, (.ref b3), vI0, (.ref r0)])) rfl (by rw [hml]; rfl) rfl (hb hby d22_35) (by decide) (W := 0) (own_W rfl) (by decide)
  have V16 : Arv Z h16 b3 k3 (.object "java/lang/Object") (2 : Int32) [(.ref r3), (.ref r4)] .null := B16
  have f17 := (B3.keep K16)
  have kp18 : Keep h0 h3 [] := (Keep.refl h0 []).ext E3
  have kp19 : Keep h0 h16 [] := kp18.trans K16 (allS (Or.inr (Nat.le_of_eq g3.symm)) all0)
  refine ⟨some (.ref b3), _, _, _, _, nofun, X16, by decide, by decide, ?_, fun fs hr => ?_⟩
  · rw [e16]; exact ⟨b3, k3, rfl, N16, kp19, (Nat.le_of_eq g3.symm), V16, f17, O3⟩
  · show SG p e below s₁ (mkF m 0 #[lR r0, lV vI2, lR r1, lU] []) _
    refine qaN X0 hx hby d22_0 ?_
    refine st2 _ ?_
    refine Jvm.RoadKit.acmp (g := (mkF m 3 #[lR r0, lV vI2, lR r1, lU] [(.ref r1), (.ref r1)])) X2 hx rfl rfl rfl (pc0 := 3) (pc' := 6) (same := true) rfl (hb hby d22_3) rfl (decide_eq_true rfl) (by decide) (by decide) ?_
    refine qiN X2 hx hby d22_6 ?_
    refine st3 _ ?_
    refine XS.goto X3.here hx rfl (pc0 := 10) (pc' := 24) rfl (hb hby d22_10) (by decide) (by decide) ?_
    refine XS.astoreN X3.here hx rfl (hb hby d22_24) rfl rfl (l' := #[lR r0, lV vI2, lR r1, lR b3]) rfl ?_
    refine qaN X3 hx hby d22_25 ?_
    refine qc X3 hx hby d22_26 ?_
    refine qaN X3 hx hby d22_27 ?_
    show SG p e below T3 (mkF m 28 #[lR r0, lV vI2, lR r1, lR b3] [(.ref b3), vI0, (.ref r0)]) _
    refine qc X3 hx hby d22_28 ?_
    refine qaN X3 hx hby d22_29 ?_
    refine X3.arraylength hx (by rw [e3]; exact Arq6.1) (State.isArrayOf_alike hZ.alike Arq6.2.1) (g := (mkF m 30 #[lR r0, lV vI2, lR r1, lR b3] [(.ref r0), vI0, (.ref b3), vI0, (.ref r0)])) rfl rfl (hb hby d22_30) _ ?_
    rw [len_of Sq6 Nq6]
    refine qiN X3 hx hby d22_31 ?_
    refine st8 _ ?_
    refine st16 _ ?_
    refine qaN X16 hx hby d22_38 ?_
    exact retOut X16 hx (i := .areturn) hret rfl (Or.inr (Or.inr (Or.inr (Or.inr ⟨rfl, rfl, rfl⟩)))) (hb hby d22_39) hr
def Q21_2 (Z : State) (r3 r4 : Addr) (h0 : Heap) (n0 : Nat) (v : Option Value) (h : Heap) (L : List Loc) : Prop := ∃ (b7_0 : Addr) (k7_0 : ClassId), v = some (.ref b7_0) ∧ Fr n0 L ∧ Keep h0 h [] ∧ h0.size ≤ b7_0 ∧ Arv Z h b7_0 k7_0 (.object "java/lang/Object") (2 : Int32) [(.ref r3), (.ref r4)] .null ∧ Exa Z h b7_0 "[Ljava/lang/Object;" ∧ Ovr Z k7_0 "java/lang/Object"
theorem rm21_2 (l : Launch) (Z : State) (a0 : Array Value) (hw : own_HW a0 Z) (ws : List Jvm.Cond) (r0 r1 : Addr) (c2 : ClassId) (r3 r4 : Addr) (h0 : Heap) (n0 : Nat) (O0 : Old Z n0 h0) (f1 : Exa Z h0 r0 "[Ljava/lang/Object;") (f2 : own_Mir Z "[Ljava/lang/Object;" r1) (f4 : Arv Z h0 r0 c2 (.object "java/lang/Object") (10 : Int32) [(.ref r3), (.ref r4), .null, .null, .null, .null, .null, .null, .null, .null] .null) (f5 : Exa Z h0 r4 cs0) (f6 : Exa Z h0 r3 cs0) :
    own_MF l mN17 jdk_65_method_119_code 2 (some (.array (.object "java/lang/Object"))) ws rR2_1_2_39 Z h0 #[(.ref r0), vI2] (Q21_2 Z r3 r4 h0 n0) := by
  refine own_open (plainFor_of_name pn_java_util_Arrays) (L0 := #[lR r0, lV vI2]) (fun _ => by first | (simp [entryFrame, mkF, argsToLocals, Value.category]; done) | rfl) ?_
  intro p e s m below meth c s₁ hx hby hml hret hnn hZ hown X0 e0
  have N0 := Fr.nil n0; have w := @ww Z a0 hw
  obtain ⟨T3, X3, e3, st3⟩ := own_gcls X0 hx hZ hown (w 149 rfl) (w 150 rfl) (w 126 rfl) (w 152 rfl) (w 151 rfl) (w 153 rfl) e0 f1 f2 (g := (mkF m 3 #[lR r0, lV vI2] [(.ref r0), vI2, (.ref r0)])) rfl (by rw [hml]; rfl) rfl (hb hby d21_3) (by decide) (W := 2) (own_W rfl) (by decide)
  obtain ⟨_, T7, Lc7, X7, hQ7, st7⟩ := own_cS X3 hx hZ hown e3 (rm22_2 l Z a0 hw [] r0 r1 c2 r3 r4 h0 n0 O0 f2 f4 f5 f6) (w 155 rfl) (w 156 rfl) (w 147 rfl) (w 157 rfl) (by decide) (W := 0) (by decide) (by decide) (by decide) (by decide) (g := (mkF m 6 #[lR r0, lV vI2] [(.ref r1), vI2, (.ref r0)])) rfl (by rw [hml]; rfl) (argsL := [(.ref r0), vI2, (.ref r1)]) (rest := []) (lenOf pd___Ljava_lang_Object_ILjava_lang_Class___Ljava_lang_Object_ rfl) rfl (own_W rfl) (hb hby d21_6)
  obtain ⟨b7_0, k7_0, rfl, N7q, K7, f8, f9, f10, f11⟩ := hQ7
  have N7 := Fr.app N0 N7q
  have kp12 : Keep h0 T7.heap [] := (Keep.refl h0 []).trans K7 all0
  refine ⟨some (.ref b7_0), _, _, _, _, nofun, X7, by decide, by decide, ?_, fun fs hr => ?_⟩
  · exact ⟨b7_0, k7_0, rfl, N7, kp12, f8, f9, f10, f11⟩
  · show SG p e below s₁ (mkF m 0 #[lR r0, lV vI2] []) _
    refine qaN X0 hx hby d21_0 ?_
    refine qiN X0 hx hby d21_1 ?_
    refine qaN X0 hx hby d21_2 ?_
    refine st3 _ ?_
    refine st7 _ ?_
    exact retOut X7 hx (i := .areturn) hret rfl (Or.inr (Or.inr (Or.inr (Or.inr ⟨rfl, rfl, rfl⟩)))) (hb hby d21_9) hr
def Q20_2 (Z : State) (r4 r5 : Addr) (h0 : Heap) (n0 : Nat) (v : Option Value) (h : Heap) (L : List Loc) : Prop := ∃ (b10_0 : Addr) (k10_0 : ClassId), v = some (.ref b10_0) ∧ Fr n0 L ∧ Keep h0 h [] ∧ h0.size ≤ b10_0 ∧ Arv Z h b10_0 k10_0 (.object "java/lang/Object") (2 : Int32) [(.ref r4), (.ref r5)] .null ∧ Exa Z h b10_0 "[Ljava/lang/Object;" ∧ Ovr Z k10_0 "java/lang/Object"
theorem rm20_2 (l : Launch) (Z : State) (a0 : Array Value) (hw : own_HW a0 Z) (ws : List Jvm.Cond) (r0 r1 r2 : Addr) (c3 : ClassId) (r4 r5 : Addr) (h0 : Heap) (n0 : Nat) (O0 : Old Z n0 h0) (f1 : Fld Z h0 r0 "java/util/ArrayList" "elementData" "[Ljava/lang/Object;" (.ref r1)) (f3 : Fld Z h0 r0 "java/util/ArrayList" "size" "I" vI2) (f5 : Exa Z h0 r1 "[Ljava/lang/Object;") (f6 : own_Mir Z "[Ljava/lang/Object;" r2) (f7 : Arv Z h0 r1 c3 (.object "java/lang/Object") (10 : Int32) [(.ref r4), (.ref r5), .null, .null, .null, .null, .null, .null, .null, .null] .null) (f8 : Exa Z h0 r5 cs0) (f9 : Exa Z h0 r4 cs0) :
    own_MF l mN18 jdk_38_method_16_code 1 (some (.array (.object "java/lang/Object"))) ws rR3_1_2_52 Z h0 #[(.ref r0)] (Q20_2 Z r4 r5 h0 n0) := by
  refine own_open (plainFor_of_name pn_java_util_ArrayList) (L0 := #[lR r0]) (fun _ => by first | (simp [entryFrame, mkF, argsToLocals, Value.category]; done) | rfl) ?_
  intro p e s m below meth c s₁ hx hby hml hret hnn hZ hown X0 e0
  have N0 := Fr.nil n0; have w := @ww Z a0 hw
  obtain ⟨T2, X2, e2, st2⟩ := getF X0 hx hZ hown (host := "") (Or.inl (w 66 rfl)) Via.refl e0 f1 (g := (mkF m 1 #[lR r0] [(.ref r0)])) rfl rfl (hb hby d20_1)
  obtain ⟨T4, X4, e4, st4⟩ := getF X2 hx hZ hown (host := "") (Or.inl (w 79 rfl)) Via.refl e2 f3 (g := (mkF m 5 #[lR r0] [(.ref r0), (.ref r1)])) rfl rfl (hb hby d20_5)
  obtain ⟨_, T10, Lc10, X10, hQ10, st10⟩ := own_cS X4 hx hZ hown e4 (rm21_2 l Z a0 hw [] r1 r2 c3 r4 r5 h0 n0 O0 f5 f6 f7 f8 f9) (w 145 rfl) (w 146 rfl) (w 147 rfl) (w 148 rfl) (by decide) (W := 0) (by decide) (by decide) (by decide) (by decide) (g := (mkF m 8 #[lR r0] [vI2, (.ref r1)])) rfl (by rw [hml]; rfl) (argsL := [(.ref r1), vI2]) (rest := []) (lenOf pd___Ljava_lang_Object_I__Ljava_lang_Object_ rfl) rfl (own_W rfl) (hb hby d20_8)
  obtain ⟨b10_0, k10_0, rfl, N10q, K10, f11, f12, f13, f14⟩ := hQ10
  have N10 := Fr.app N0 N10q
  have kp15 : Keep h0 T10.heap [] := (Keep.refl h0 []).trans K10 all0
  refine ⟨some (.ref b10_0), _, _, _, _, nofun, X10, by decide, by decide, ?_, fun fs hr => ?_⟩
  · exact ⟨b10_0, k10_0, rfl, N10, kp15, f11, f12, f13, f14⟩
  · show SG p e below s₁ (mkF m 0 #[lR r0] []) _
    refine qaN X0 hx hby d20_0 ?_
    refine st2 _ ?_
    refine qaN X2 hx hby d20_4 ?_
    refine st4 _ ?_
    refine st10 _ ?_
    exact retOut X10 hx (i := .areturn) hret rfl (Or.inr (Or.inr (Or.inr (Or.inr ⟨rfl, rfl, rfl⟩)))) (hb hby d20_11) hr
theorem d24_45 : DK cB24 45 (.new 96) 3 := by decide +kernel
theorem d24_48 : DK cB24 48 (.dup) 1 := by decide +kernel
theorem d24_49 : DK cB24 49 (.aload_n 0) 1 := by decide +kernel
theorem d24_50 : DK cB24 50 (.iconst 0) 1 := by decide +kernel
theorem d24_51 : DK cB24 51 (.aaload) 1 := by decide +kernel
theorem d24_52 : DK cB24 52 (.aload_n 0) 1 := by decide +kernel
theorem d24_53 : DK cB24 53 (.iconst 1) 1 := by decide +kernel
theorem d24_54 : DK cB24 54 (.aaload) 1 := by decide +kernel
theorem d24_55 : DK cB24 55 (.invokespecial 100) 3 := by decide +kernel
theorem d54_0 : DK cB54 0 (.aload_n 0) 1 := by decide +kernel
theorem d54_1 : DK cB54 1 (.invokespecial 1) 3 := by decide +kernel
theorem d54_4 : DK cB54 4 (.aload_n 0) 1 := by decide +kernel
theorem d54_5 : DK cB54 5 (.aload_n 1) 1 := by decide +kernel
theorem d54_6 : DK cB54 6 (.invokestatic 7) 3 := by decide +kernel
theorem d54_9 : DK cB54 9 (.putfield 13) 3 := by decide +kernel
theorem d54_12 : DK cB54 12 (.aload_n 0) 1 := by decide +kernel
theorem d54_13 : DK cB54 13 (.aload_n 2) 1 := by decide +kernel
theorem d54_14 : DK cB54 14 (.invokestatic 7) 3 := by decide +kernel
theorem d54_17 : DK cB54 17 (.putfield 24) 3 := by decide +kernel
theorem d54_20 : DK cB54 20 (.return_) 1 := by decide +kernel
def Q54_1 (Z : State) (r0 r1 r2 : Addr) (h0 : Heap) (n0 : Nat) (v : Option Value) (h : Heap) (L : List Loc) : Prop := v = none ∧ Fr n0 L ∧ Keep h0 h [r0] ∧ Fld Z h r0 cs7 "e0" "Ljava/lang/Object;" (.ref r1) ∧ Fld Z h r0 cs7 "e1" "Ljava/lang/Object;" (.ref r2)
theorem rm54_1 (l : Launch) (Z : State) (a0 : Array Value) (hw : own_HW a0 Z) (ws : List Jvm.Cond) (r0 r1 r2 : Addr) (h0 : Heap) (n0 : Nat) (O0 : Old Z n0 h0) (f3 : Exa Z h0 r0 cs7) (f4 : Fld Z h0 r0 cs7 "e0" "Ljava/lang/Object;" .null) (g5 : n0 ≤ r0) (f10 : Fld Z h0 r0 cs7 "e1" "Ljava/lang/Object;" .null) :
    own_MF l mN47 jdk_44_method_2_code 3 none ws rR4_0_0_48 Z h0 #[(.ref r0), (.ref r1), (.ref r2)] (Q54_1 Z r0 r1 r2 h0 n0) := by
  refine own_open (plainFor_of_name pn_java_util_ImmutableCollections_List12) (L0 := #[lR r0, lR r1, lR r2]) (fun _ => by first | (simp [entryFrame, mkF, argsToLocals, Value.category]; done) | rfl) ?_
  intro p e s m below meth c s₁ hx hby hml hret hnn hZ hown X0 e0
  have N0 := Fr.nil n0; have w := @ww Z a0 hw
  have hnm := (name_of_methodNamed hnn.1 hnn.2).1
  obtain ⟨_, T1, Lc1, X1, hQ1, st1⟩ := own_fin (X0.specialBack hx (y := mN20) rfl hown (mvT hZ (w 177 rfl)) (mvT hZ (w 178 rfl)) (mvT hZ (w 182 rfl)) (by decide) (backOf (W := 0) (rm26_1 l Z a0 hw [] r0 h0 n0 O0) hZ (w 182 rfl) (w 181 rfl) (by decide) (by decide)) (g := (mkF m 1 #[lR r0, lR r1, lR r2] [(.ref r0)])) rfl (by rw [hml]; rfl) (Steps.refl _) (a := r0) (argsL := []) (rest := []) (lenOf pd___V rfl) rfl (own_W rfl) (hb hby d54_1) (fun _ _ => ⟨rfl, e0, (by decide : 0 + 0 ≤ _), (by decide : 0 + 0 ≤ _)⟩))
  obtain ⟨rfl, N1q, E1⟩ := hQ1
  have N1 := Fr.app N0 N1q
  obtain ⟨_, T2, Lc2, X2, hQ2, st2⟩ := own_cS X1 hx hZ hown E1 (rm28_1 l Z a0 hw [] r1 h0 n0 O0) (w 191 rfl) (w 192 rfl) (w 193 rfl) (w 194 rfl) (by decide) (W := 1) (by decide) (by decide) (by decide) (by decide) (g := (mkF m 6 #[lR r0, lR r1, lR r2] [(.ref r1), (.ref r0)])) rfl (by rw [hml]; rfl) (argsL := [(.ref r1)]) (rest := [(.ref r0)]) (lenOf pd__Ljava_lang_Object__Ljava_lang_Object_ rfl) rfl (own_W rfl) (hb hby d54_6)
  obtain ⟨rfl, N2q, E2⟩ := hQ2
  have N2 := Fr.app N1 N2q
  obtain ⟨T6, h6, X6, e6, W6, st6⟩ := putF X2 hx hZ hown (host := "") (Or.inl (w 195 rfl)) Via.refl E2 f4 f3 (Or.inr ⟨(w 196 rfl), rfl, hnm⟩) (w 171 rfl) (ty := (.object "java/lang/Object")) (by decide) rfl rfl (g := (mkF m 9 #[lR r0, lR r1, lR r2] [(.ref r1), (.ref r0)])) rfl rfl (hb hby d54_9)
  have Fw6 := f4.same W6
  have N6 := Fr.snoc X6 N2 g5
  have o7 := Old.wr O0 W6 g5
  obtain ⟨_, T8, Lc8, X8, hQ8, st8⟩ := own_cS X6 hx hZ hown e6 (rm28_1 l Z a0 hw [] r2 h6 n0 o7) (w 191 rfl) (w 192 rfl) (w 193 rfl) (w 194 rfl) (by decide) (W := 1) (by decide) (by decide) (by decide) (by decide) (g := (mkF m 14 #[lR r0, lR r1, lR r2] [(.ref r2), (.ref r0)])) rfl (by rw [hml]; rfl) (argsL := [(.ref r2)]) (rest := [(.ref r0)]) (lenOf pd__Ljava_lang_Object__Ljava_lang_Object_ rfl) rfl (own_W rfl) (hb hby d54_14)
  obtain ⟨rfl, N8q, E8⟩ := hQ8
  have N8 := Fr.app N6 N8q
  have f9 := (f3.wr W6)
  have f11 := (f10.other W6 (Or.inr (slot_ne (Or.inr (w 199 rfl)) (Or.inr (w 196 rfl)) (by decide) (t := (.object "java/lang/Object")) (t' := (.object "java/lang/Object")) (by decide) (by decide))))
  obtain ⟨T12, h12, X12, e12, W12, st12⟩ := putF X8 hx hZ hown (host := "") (Or.inl (w 198 rfl)) Via.refl E8 f11 f9 (Or.inr ⟨(w 199 rfl), rfl, hnm⟩) (w 171 rfl) (ty := (.object "java/lang/Object")) (by decide) rfl rfl (g := (mkF m 17 #[lR r0, lR r1, lR r2] [(.ref r2), (.ref r0)])) rfl rfl (hb hby d54_17)
  have Fw12 := f11.same W12
  have N12 := Fr.snoc X12 N8 g5
  have f13 := (Fw6.other W12 (Or.inr (slot_ne (Or.inr (w 196 rfl)) (Or.inr (w 199 rfl)) (by decide) (t := (.object "java/lang/Object")) (t' := (.object "java/lang/Object")) (by decide) (by decide))))
  have kp14 : Keep h0 h6 [r0] := (Keep.refl h0 [r0]).wr W6 (Or.inl (List.mem_of_getElem? (i := 0) rfl))
  have kp15 : Keep h0 h12 [r0] := kp14.wr W12 (Or.inl (List.mem_of_getElem? (i := 0) rfl))
  refine ⟨none, _, _, _, _, (fun _ => rfl), X12, by decide, by decide, ?_, fun fs hr => ?_⟩
  · rw [e12]; exact ⟨rfl, N12, kp15, f13, Fw12⟩
  · show SG p e below s₁ (mkF m 0 #[lR r0, lR r1, lR r2] []) _
    refine qaN X0 hx hby d54_0 ?_
    refine st1.trans ?_
    refine qaN X1 hx hby d54_4 ?_
    refine qaN X1 hx hby d54_5 ?_
    refine st2 _ ?_
    refine st6 _ ?_
    refine qaN X6 hx hby d54_12 ?_
    refine qaN X6 hx hby d54_13 ?_
    refine st8 _ ?_
    refine st12 _ ?_
    show SG p e below T12 (mkF m 20 #[lR r0, lR r1, lR r2] []) _
    exact X12.returnOut hx hret (hb hby d54_20) hr
theorem pd__Ljava_lang_Object_Ljava_lang_Object__V : parseMethodDescriptor "(Ljava/lang/Object;Ljava/lang/Object;)V" = some ⟨[(.object "java/lang/Object"), (.object "java/lang/Object")], none⟩ := by decide +kernel
theorem d24_58 : DK cB24 58 (.areturn) 1 := by decide +kernel
def Q24_2 (Z : State) (r2 r3 : Addr) (h0 : Heap) (n0 : Nat) (v : Option Value) (h : Heap) (L : List Loc) : Prop := ∃ (b3 : Addr), v = some (.ref b3) ∧ Fr n0 L ∧ Keep h0 h [] ∧ h0.size ≤ b3 ∧ Exa Z h b3 cs7 ∧ Fld Z h b3 cs7 "e0" "Ljava/lang/Object;" (.ref r2) ∧ Fld Z h b3 cs7 "e1" "Ljava/lang/Object;" (.ref r3)
theorem rm24_2 (l : Launch) (Z : State) (a0 : Array Value) (hw : own_HW a0 Z) (ws : List Jvm.Cond) (r0 : Addr) (c1 : ClassId) (r2 r3 : Addr) (h0 : Heap) (n0 : Nat) (O0 : Old Z n0 h0) (f1 : Arv Z h0 r0 c1 (.object "java/lang/Object") (2 : Int32) [(.ref r2), (.ref r3)] .null) :
    own_MF l mN23 jdk_40_method_47_code 2 (some (.object "java/util/List")) ws rR5_1_2_63 Z h0 #[(.ref r0)] (Q24_2 Z r2 r3 h0 n0) := by
  refine own_open (plainFor_of_name pn_java_util_List) (L0 := #[lR r0, lU]) (fun _ => by first | (simp [entryFrame, mkF, argsToLocals, Value.category]; done) | rfl) ?_
  intro p e s m below meth c s₁ hx hby hml hret hnn hZ hown X0 e0
  have N0 := Fr.nil n0; have w := @ww Z a0 hw
  obtain ⟨clq2, Arq2, qq2, Sq2, Nq2, Hq2, Gq2⟩ := id f1
  obtain ⟨T3, h3, X3, e3, E3, A3, D3, -, st3⟩ := newO X0 hx hZ hown (w 170 rfl) (w 171 rfl) (w 172 rfl) e0 (g := (mkF m 45 #[lR r0, lU] [])) rfl (hb hby d24_45) (by decide) (by decide)
  obtain ⟨b3, g3⟩ : ∃ z, z = h0.size := ⟨_, rfl⟩
  rw [← g3] at A3 D3 st3
  have f4 : Fld Z h3 b3 cs7 "e0" "Ljava/lang/Object;" .null := D3 (Or.inr (w 196 rfl)) (ty := (.object "java/lang/Object")) (by decide)
  have f5 : Fld Z h3 b3 cs7 "e1" "Ljava/lang/Object;" .null := D3 (Or.inr (w 199 rfl)) (ty := (.object "java/lang/Object")) (by decide)
  have f6 := (f1.ext E3)
  obtain ⟨clq7, Arq7, qq7, Sq7, Nq7, Hq7, Gq7⟩ := id f6
  obtain ⟨clq8, Arq8, qq8, Sq8, Nq8, Hq8, Gq8⟩ := id f6
  have zz9 : n0 ≤ h0.size := by rw [← O0.1]; exact O0.2.1
  have g10 := Nat.le_trans zz9 (Nat.le_of_eq g3.symm)
  have o11 := Old.ext O0 E3
  obtain ⟨_, T12, Lc12, X12, hQ12, st12⟩ := own_fin (X3.specialBack hx (y := mN47) rfl hown (mvT hZ (w 348 rfl)) (mvT hZ (w 349 rfl)) (mvT hZ (w 350 rfl)) (by decide) (backOf (W := 1) (rm54_1 l Z a0 hw [] b3 r2 r3 h3 n0 o11 A3 f4 g10 f5) hZ (w 350 rfl) (w 172 rfl) (by decide) (by decide)) (g := (mkF m 55 #[lR r0, lU] [(.ref r3), (.ref r2), (.ref b3), (.ref b3)])) rfl (by rw [hml]; rfl) (Steps.refl _) (a := b3) (argsL := [(.ref r2), (.ref r3)]) (rest := [(.ref b3)]) (lenOf pd__Ljava_lang_Object_Ljava_lang_Object__V rfl) rfl (own_W rfl) (hb hby d24_55) (fun _ _ => ⟨rfl, e3, (by decide : 1 + 0 ≤ _), (by decide : 2 + 0 ≤ _)⟩))
  obtain ⟨rfl, N12q, K12, f13, f14⟩ := hQ12
  have N12 := Fr.app N0 N12q
  have f15 := (A3.keep K12)
  have kp16 : Keep h0 h3 [] := (Keep.refl h0 []).ext E3
  have kp17 : Keep h0 T12.heap [] := kp16.trans K12 (allS (Or.inr (Nat.le_of_eq g3.symm)) all0)
  refine ⟨some (.ref b3), _, _, _, _, nofun, X12, by decide, by decide, ?_, fun fs hr => ?_⟩
  · exact ⟨b3, rfl, N12, kp17, (Nat.le_of_eq g3.symm), f15, f13, f14⟩
  · show SG p e below s₁ (mkF m 0 #[lR r0, lU] []) _
    refine qaN X0 hx hby d24_0 ?_
    refine X0.arraylength hx (by rw [e0]; exact Arq2.1) (State.isArrayOf_alike hZ.alike Arq2.2.1) (g := (mkF m 1 #[lR r0, lU] [(.ref r0)])) rfl rfl (hb hby d24_1) _ ?_
    rw [len_of Sq2 Nq2]
    refine XS.tswIn X0.here hx rfl (pc0 := 2) (pc' := 45) rfl (hb hby d24_2) rfl (by decide) rfl (by decide) (by decide) ?_
    refine st3 _ ?_
    refine qd X3 hx hby d24_48 ?_
    refine qaN X3 hx hby d24_49 ?_
    refine qc X3 hx hby d24_50 ?_
    refine X3.aaload hx (j := (0 : Int32)) (v := (.ref r2)) (by rw [e3]; exact Arq7.1) (State.isArrayOf_alike hZ.alike Arq7.2.1) rfl Arq7.2.2 (inb_of Sq7 ⟨(by decide : ¬ ((0 : Int32) < (0 : Int32))), (by decide : (0 : Int32) < (2 : Int32))⟩) (Has.at Hq7 (inb_of Sq7 ⟨(by decide : ¬ ((0 : Int32) < (0 : Int32))), (by decide : (0 : Int32) < (2 : Int32))⟩) rfl) (g := (mkF m 51 #[lR r0, lU] [vI0, (.ref r0), (.ref b3), (.ref b3)])) rfl rfl (hb hby d24_51) _ ?_
    refine qaN X3 hx hby d24_52 ?_
    refine qc X3 hx hby d24_53 ?_
    show SG p e below T3 (mkF m 54 #[lR r0, lU] [vI1, (.ref r0), (.ref r2), (.ref b3), (.ref b3)]) _
    refine X3.aaload hx (j := (1 : Int32)) (v := (.ref r3)) (by rw [e3]; exact Arq8.1) (State.isArrayOf_alike hZ.alike Arq8.2.1) rfl Arq8.2.2 (inb_of Sq8 ⟨(by decide : ¬ ((1 : Int32) < (0 : Int32))), (by decide : (1 : Int32) < (2 : Int32))⟩) (Has.at Hq8 (inb_of Sq8 ⟨(by decide : ¬ ((1 : Int32) < (0 : Int32))), (by decide : (1 : Int32) < (2 : Int32))⟩) rfl) (g := (mkF m 54 #[lR r0, lU] [vI1, (.ref r0), (.ref r2), (.ref b3), (.ref b3)])) rfl rfl (hb hby d24_54) _ ?_
    refine st12.trans ?_
    exact retOut X12 hx (i := .areturn) hret rfl (Or.inr (Or.inr (Or.inr (Or.inr ⟨rfl, rfl, rfl⟩)))) (hb hby d24_58) hr
def Q18_2 (Z : State) (r4 r5 : Addr) (h0 : Heap) (n0 : Nat) (v : Option Value) (h : Heap) (L : List Loc) : Prop := ∃ (b18_0 : Addr), v = some (.ref b18_0) ∧ Fr n0 L ∧ Keep h0 h [] ∧ h0.size ≤ b18_0 ∧ Exa Z h b18_0 cs7 ∧ Fld Z h b18_0 cs7 "e0" "Ljava/lang/Object;" (.ref r4) ∧ Fld Z h b18_0 cs7 "e1" "Ljava/lang/Object;" (.ref r5)
theorem rm18_2 (l : Launch) (Z : State) (a0 : Array Value) (hw : own_HW a0 Z) (ws : List Jvm.Cond) (r0 r1 r2 : Addr) (c3 : ClassId) (r4 r5 : Addr) (h0 : Heap) (n0 : Nat) (O0 : Old Z n0 h0) (f1 : Exa Z h0 r0 "java/util/ArrayList") (f4 : Fld Z h0 r0 "java/util/ArrayList" "size" "I" vI2) (f6 : Fld Z h0 r0 "java/util/ArrayList" "elementData" "[Ljava/lang/Object;" (.ref r1)) (f7 : Exa Z h0 r1 "[Ljava/lang/Object;") (f8 : own_Mir Z "[Ljava/lang/Object;" r2) (f9 : Arv Z h0 r1 c3 (.object "java/lang/Object") (10 : Int32) [(.ref r4), (.ref r5), .null, .null, .null, .null, .null, .null, .null, .null] .null) (f10 : Exa Z h0 r5 cs0) (f11 : Exa Z h0 r4 cs0) :
    own_MF l mN24 jdk_56_method_3_code 2 (some (.object "java/util/List")) ws rR6_2_4_76 Z h0 #[(.ref r0)] (Q18_2 Z r4 r5 h0 n0) := by
  refine own_open (plainFor_of_name pn_java_util_ImmutableCollections) (L0 := #[lR r0, lU]) (fun _ => by first | (simp [entryFrame, mkF, argsToLocals, Value.category]; done) | rfl) ?_
  intro p e s m below meth c s₁ hx hby hml hret hnn hZ hown X0 e0
  have N0 := Fr.nil n0; have w := @ww Z a0 hw
  obtain ⟨T2, X2, e2, st2⟩ := instNo X0 hx hZ hown (w 122 rfl) e0 f1 (own_NSno (w 123 rfl) (w 171 rfl) (NS.step (w 123 rfl) (NS.step (w 124 rfl) (NS.step (w 125 rfl) (own_NSroot (w 126 rfl) (w 171 rfl) (by decide)) (by decide)) (by decide)) (by decide)) (by decide)) (g := (mkF m 1 #[lR r0, lU] [(.ref r0)])) rfl rfl (hb hby d18_1)
  obtain ⟨T3, X3, e3, st3⟩ := instNo X2 hx hZ hown (w 127 rfl) e2 f1 (own_NSno (w 123 rfl) (w 294 rfl) (NS.step (w 123 rfl) (NS.step (w 124 rfl) (NS.step (w 125 rfl) (own_NSroot (w 126 rfl) (w 294 rfl) (by decide)) (by decide)) (by decide)) (by decide)) (by decide)) (g := (mkF m 8 #[lR r0, lU] [(.ref r0)])) rfl rfl (hb hby d18_8)
  obtain ⟨_, T5, Lc5, X5, hQ5, st5⟩ := own_cI (xi := mN25) X3 hx hZ hown e3 (rm19_2 l Z a0 hw [] r0 h0 n0 O0 f4) f1 (w 128 rfl) (w 129 rfl) (w 130 rfl) (w 131 rfl) (w 132 rfl) (w 133 rfl) (w 134 rfl) (w 135 rfl) (w 136 rfl) (w 46 rfl) (by decide) (W := 0) (by decide) (by decide) (by decide) (by decide) (g := (mkF m 32 #[lR r0, lU] [(.ref r0)])) rfl (by rw [hml]; rfl) (argsL := []) (rest := []) (lenOf pd___Z rfl) rfl (own_W rfl) (hb hby d18_32)
  obtain ⟨rfl, N5q, E5⟩ := hQ5
  have N5 := Fr.app N0 N5q
  obtain ⟨_, T12, Lc12, X12, hQ12, st12⟩ := own_cI (xi := mN26) X5 hx hZ hown E5 (rm20_2 l Z a0 hw [] r0 r1 r2 c3 r4 r5 h0 n0 O0 f6 f4 f7 f8 f9 f10 f11) f1 (w 137 rfl) (w 138 rfl) (w 139 rfl) (w 140 rfl) (w 141 rfl) (w 142 rfl) (w 143 rfl) (w 135 rfl) (w 144 rfl) (w 46 rfl) (by decide) (W := 0) (by decide) (by decide) (by decide) (by decide) (g := (mkF m 45 #[lR r0, lU] [(.ref r0)])) rfl (by rw [hml]; rfl) (argsL := []) (rest := []) (lenOf pd____Ljava_lang_Object_ rfl) rfl (own_W rfl) (hb hby d18_45)
  obtain ⟨b12_0, k12_0, rfl, N12q, K12, f13, f14, f15, f16⟩ := hQ12
  have N12 := Fr.app N5 N12q
  have o17 := Old.keep O0 K12 all0
  obtain ⟨_, T18, Lc18, X18, hQ18, st18⟩ := own_cS X12 hx hZ hown rfl (rm24_2 l Z a0 hw [] b12_0 k12_0 r4 r5 T12.heap n0 o17 f14) (w 167 rfl) (w 168 rfl) (w 116 rfl) (w 169 rfl) (by decide) (W := 0) (by decide) (by decide) (by decide) (by decide) (g := (mkF m 50 #[lR r0, lU] [(.ref b12_0)])) rfl (by rw [hml]; rfl) (argsL := [(.ref b12_0)]) (rest := []) (lenOf pd___Ljava_lang_Object__Ljava_util_List_ rfl) rfl (own_W rfl) (hb hby d18_50)
  obtain ⟨b18_0, rfl, N18q, K18, f19, f20, f21, f22⟩ := hQ18
  have N18 := Fr.app N12 N18q
  have zs23 := K12.1
  have kp24 : Keep h0 T12.heap [] := (Keep.refl h0 []).trans K12 all0
  have kp25 : Keep h0 T18.heap [] := kp24.trans K18 all0
  refine ⟨some (.ref b18_0), _, _, _, _, nofun, X18, by decide, by decide, ?_, fun fs hr => ?_⟩
  · exact ⟨b18_0, rfl, N18, kp25, (Nat.le_trans zs23 f19), f20, f21, f22⟩
  · show SG p e below s₁ (mkF m 0 #[lR r0, lU] []) _
    refine qaN X0 hx hby d18_0 ?_
    refine st2 _ ?_
    refine XS.ifNo X2.here hx rfl (hb hby d18_4) rfl ((if0 _ _).trans (teq (rfl : (0 : Int32) = (0 : Int32))).2) ?_
    refine qaN X2 hx hby d18_7 ?_
    refine st3 _ ?_
    refine XS.ifYes X3.here hx rfl (pc0 := 11) (pc' := 31) rfl (hb hby d18_11) rfl ((if0 _ _).trans (teq (rfl : (0 : Int32) = (0 : Int32))).1) (by decide) (by decide) ?_
    refine qaN X3 hx hby d18_31 ?_
    refine st5 _ ?_
    refine XS.ifYes X5.here hx rfl (pc0 := 37) (pc' := 44) rfl (hb hby d18_37) rfl ((if0 _ _).trans (teq (rfl : (0 : Int32) = (0 : Int32))).1) (by decide) (by decide) ?_
    refine qaN X5 hx hby d18_44 ?_
    show SG p e below T5 (mkF m 45 #[lR r0, lU] [(.ref r0)]) _
    refine st12 _ ?_
    refine st18 _ ?_
    exact retOut X18 hx (i := .areturn) hret rfl (Or.inr (Or.inr (Or.inr (Or.inr ⟨rfl, rfl, rfl⟩)))) (hb hby d18_53) hr
def Q17_2 (Z : State) (r4 r5 : Addr) (h0 : Heap) (n0 : Nat) (v : Option Value) (h : Heap) (L : List Loc) : Prop := ∃ (b9_0 : Addr), v = some (.ref b9_0) ∧ Fr n0 L ∧ Keep h0 h [] ∧ h0.size ≤ b9_0 ∧ Exa Z h b9_0 cs7 ∧ Fld Z h b9_0 cs7 "e0" "Ljava/lang/Object;" (.ref r4) ∧ Fld Z h b9_0 cs7 "e1" "Ljava/lang/Object;" (.ref r5)
theorem rm17_2 (l : Launch) (Z : State) (a0 : Array Value) (hw : own_HW a0 Z) (ws : List Jvm.Cond) (r0 r1 r2 : Addr) (c3 : ClassId) (r4 r5 : Addr) (h0 : Heap) (n0 : Nat) (O0 : Old Z n0 h0) (f1 : Exa Z h0 r0 "java/util/ArrayList") (f2 : Fld Z h0 r0 "java/util/ArrayList" "size" "I" vI2) (f3 : Fld Z h0 r0 "java/util/ArrayList" "elementData" "[Ljava/lang/Object;" (.ref r1)) (f4 : Exa Z h0 r1 "[Ljava/lang/Object;") (f5 : own_Mir Z "[Ljava/lang/Object;" r2) (f6 : Arv Z h0 r1 c3 (.object "java/lang/Object") (10 : Int32) [(.ref r4), (.ref r5), .null, .null, .null, .null, .null, .null, .null, .null] .null) (f7 : Exa Z h0 r5 cs0) (f8 : Exa Z h0 r4 cs0) :
    own_MF l mN27 jdk_40_method_48_code 1 (some (.object "java/util/List")) ws rR7_2_4_89 Z h0 #[(.ref r0)] (Q17_2 Z r4 r5 h0 n0) := by
  refine own_open (plainFor_of_name pn_java_util_List) (L0 := #[lR r0]) (fun _ => by first | (simp [entryFrame, mkF, argsToLocals, Value.category]; done) | rfl) ?_
  intro p e s m below meth c s₁ hx hby hml hret hnn hZ hown X0 e0
  have N0 := Fr.nil n0
  obtain ⟨_, T9, Lc9, X9, hQ9, st9⟩ := own_cS X0 hx hZ hown e0 (rm18_2 l Z a0 hw [] r0 r1 r2 c3 r4 r5 h0 n0 O0 f1 f2 f3 f4 f5 f6 f7 f8) (ww hw 118 rfl) (ww hw 119 rfl) (ww hw 120 rfl) (ww hw 121 rfl) (by decide) (W := 0) (by decide) (by decide) (by decide) (by decide) (g := (mkF m 1 #[lR r0] [(.ref r0)])) rfl (by rw [hml]; rfl) (argsL := [(.ref r0)]) (rest := []) (lenOf pd__Ljava_util_Collection__Ljava_util_List_ rfl) rfl (own_W rfl) (hb hby d17_1)
  obtain ⟨b9_0, rfl, N9q, K9, f10, f11, f12, f13⟩ := hQ9
  have N9 := Fr.app N0 N9q
  have kp14 : Keep h0 T9.heap [] := (Keep.refl h0 []).trans K9 all0
  refine ⟨some (.ref b9_0), _, _, _, _, nofun, X9, by decide, by decide, ?_, fun fs hr => ?_⟩
  · exact ⟨b9_0, rfl, N9, kp14, f10, f11, f12, f13⟩
  · show SG p e below s₁ (mkF m 0 #[lR r0] []) _
    refine qaN X0 hx hby d17_0 ?_
    refine st9 _ ?_
    exact retOut X9 hx (i := .areturn) hret rfl (Or.inr (Or.inr (Or.inr (Or.inr ⟨rfl, rfl, rfl⟩)))) (hb hby d17_4) hr
theorem d30_10 : DK cB30 10 (.iconst 2) 1 := by decide +kernel
theorem d30_11 : DK cB30 11 (.goto 4) 3 := by decide +kernel
def Q30_2 (Z : State)  (h0 : Heap) (n0 : Nat) (v : Option Value) (h : Heap) (L : List Loc) : Prop := v = some vI2 ∧ Fr n0 L ∧ h = h0
theorem rm30_2 (l : Launch) (Z : State) (a0 : Array Value) (hw : own_HW a0 Z) (ws : List Jvm.Cond) (r0 r1 r2 : Addr) (h0 : Heap) (n0 : Nat) (O0 : Old Z n0 h0) (f1 : Fld Z h0 r0 cs7 "e1" "Ljava/lang/Object;" (.ref r1)) (f3 : Sta Z Z.heap cs8 "EMPTY" "Ljava/lang/Object;" (.ref r2)) (f6 : Exa Z Z.heap r2 "java/lang/Object") (g7 : n0 ≤ r1) :
    own_MF l mN28 jdk_44_method_3_code 1 (some .int) ws rR0_0_0_0 Z h0 #[(.ref r0)] (Q30_2 Z  h0 n0) := by
  refine own_open (plainFor_of_name pn_java_util_ImmutableCollections_List12) (L0 := #[lR r0]) (fun _ => by first | (simp [entryFrame, mkF, argsToLocals, Value.category]; done) | rfl) ?_
  intro p e s m below meth c s₁ hx hby hml hret hnn hZ hown X0 e0
  have N0 := Fr.nil n0
  obtain ⟨T2, X2, e2, st2⟩ := getF X0 hx hZ hown (host := "") (Or.inl (ww hw 198 rfl)) Via.refl e0 f1 (g := (mkF m 1 #[lR r0] [(.ref r0)])) rfl rfl (hb hby d30_1)
  have f4 := f3.ext O0.2
  obtain ⟨T5, X5, e5, st5⟩ := getS2 X2 hx hZ hown (Or.inr (ww hw 197 rfl)) Via.refl e2 f4 (g := (mkF m 4 #[lR r0] [(.ref r1)])) rfl (hb hby d30_4)
  have n8 := Old.ne O0 f6.lt g7
  refine ⟨some vI2, _, _, _, _, nofun, X5, by decide, by decide, ?_, fun fs hr => ?_⟩
  · rw [e5]; exact ⟨rfl, N0, rfl⟩
  · show SG p e below s₁ (mkF m 0 #[lR r0] []) _
    refine qaN X0 hx hby d30_0 ?_
    refine st2 _ ?_
    refine st5 _ ?_
    refine Jvm.RoadKit.acmp (g := (mkF m 7 #[lR r0] [(.ref r2), (.ref r1)])) X5 hx rfl rfl rfl (pc0 := 7) (pc' := 10) (same := false) rfl (hb hby d30_7) rfl (decide_eq_false fun q => (Ne.symm n8) (Value.ref.inj q)) (by decide) (by decide) ?_
    refine qc X5 hx hby d30_10 ?_
    refine XS.goto X5.here hx rfl (pc0 := 11) (pc' := 15) rfl (hb hby d30_11) (by decide) (by decide) ?_
    exact retOut X5 hx (i := .ireturn) hret rfl (Or.inl ⟨rfl, Or.inl rfl, _, rfl⟩) (hb hby d30_15) hr
theorem d31_9 : DK cB31 9 (.iload_n 1) 1 := by decide +kernel
theorem d31_10 : DK cB31 10 (.iconst 1) 1 := by decide +kernel
theorem d31_11 : DK cB31 11 (.if_icmp .ne 18) 3 := by decide +kernel
theorem d31_14 : DK cB31 14 (.aload_n 0) 1 := by decide +kernel
theorem d31_15 : DK cB31 15 (.getfield 24) 3 := by decide +kernel
theorem d31_18 : DK cB31 18 (.getstatic 19) 3 := by decide +kernel
theorem d31_21 : DK cB31 21 (.if_acmp .eq 8) 3 := by decide +kernel
theorem d31_24 : DK cB31 24 (.aload_n 0) 1 := by decide +kernel
theorem d31_25 : DK cB31 25 (.getfield 24) 3 := by decide +kernel
theorem d31_28 : DK cB31 28 (.areturn) 1 := by decide +kernel
def Q31_2 (Z : State) (r1 : Addr) (h0 : Heap) (n0 : Nat) (v : Option Value) (h : Heap) (L : List Loc) : Prop := v = some (.ref r1) ∧ Fr n0 L ∧ h = h0
theorem rm31_2 (l : Launch) (Z : State) (a0 : Array Value) (hw : own_HW a0 Z) (ws : List Jvm.Cond) (r0 r1 r2 : Addr) (h0 : Heap) (n0 : Nat) (O0 : Old Z n0 h0) (f1 : Fld Z h0 r0 cs7 "e1" "Ljava/lang/Object;" (.ref r1)) (f3 : Sta Z Z.heap cs8 "EMPTY" "Ljava/lang/Object;" (.ref r2)) (f6 : Exa Z Z.heap r2 "java/lang/Object") (g7 : n0 ≤ r1) :
    own_MF l mN29 jdk_44_method_5_code 2 (some (.object "java/lang/Object")) ws rR0_0_0_0 Z h0 #[(.ref r0), vI1] (Q31_2 Z r1 h0 n0) := by
  refine own_open (plainFor_of_name pn_java_util_ImmutableCollections_List12) (L0 := #[lR r0, lV vI1]) (fun _ => by first | (simp [entryFrame, mkF, argsToLocals, Value.category]; done) | rfl) ?_
  intro p e s m below meth c s₁ hx hby hml hret hnn hZ hown X0 e0
  have N0 := Fr.nil n0
  obtain ⟨T2, X2, e2, st2⟩ := getF X0 hx hZ hown (host := "") (Or.inl (ww hw 198 rfl)) Via.refl e0 f1 (g := (mkF m 15 #[lR r0, lV vI1] [(.ref r0)])) rfl rfl (hb hby d31_15)
  have f4 := f3.ext O0.2
  obtain ⟨T5, X5, e5, st5⟩ := getS2 X2 hx hZ hown (Or.inr (ww hw 197 rfl)) Via.refl e2 f4 (g := (mkF m 18 #[lR r0, lV vI1] [(.ref r1)])) rfl (hb hby d31_18)
  have n8 := Old.ne O0 f6.lt g7
  obtain ⟨T9, X9, e9, st9⟩ := getF X5 hx hZ hown (host := "") (Or.inl (ww hw 198 rfl)) Via.refl e5 f1 (g := (mkF m 25 #[lR r0, lV vI1] [(.ref r0)])) rfl rfl (hb hby d31_25)
  refine ⟨some (.ref r1), _, _, _, _, nofun, X9, by decide, by decide, ?_, fun fs hr => ?_⟩
  · rw [e9]; exact ⟨rfl, N0, rfl⟩
  · show SG p e below s₁ (mkF m 0 #[lR r0, lV vI1] []) _
    refine qiN X0 hx hby d31_0 ?_
    refine XS.ifYes X0.here hx rfl (pc0 := 1) (pc' := 9) rfl (hb hby d31_1) rfl ((if0 _ _).trans (feq (by decide : ¬ ((1 : Int32) = (0 : Int32)))).2) (by decide) (by decide) ?_
    refine qiN X0 hx hby d31_9 ?_
    refine qc X0 hx hby d31_10 ?_
    refine XS.icmpNo X0.here hx rfl (hb hby d31_11) rfl (teq (rfl : (1 : Int32) = (1 : Int32))).2 ?_
    refine qaN X0 hx hby d31_14 ?_
    refine st2 _ ?_
    refine st5 _ ?_
    refine Jvm.RoadKit.acmp (g := (mkF m 21 #[lR r0, lV vI1] [(.ref r2), (.ref r1)])) X5 hx rfl rfl rfl (pc0 := 21) (pc' := 24) (same := false) rfl (hb hby d31_21) rfl (decide_eq_false fun q => (Ne.symm n8) (Value.ref.inj q)) (by decide) (by decide) ?_
    refine qaN X5 hx hby d31_24 ?_
    show SG p e below T5 (mkF m 25 #[lR r0, lV vI1] [(.ref r0)]) _
    refine st9 _ ?_
    exact retOut X9 hx (i := .areturn) hret rfl (Or.inr (Or.inr (Or.inr (Or.inr ⟨rfl, rfl, rfl⟩)))) (hb hby d31_28) hr
theorem d29_54 : DK cB29 54 (.aload_n 0) 1 := by decide +kernel
theorem d29_55 : DK cB29 55 (.aload_n 2) 1 := by decide +kernel
theorem d29_56 : DK cB29 56 (.iload_n 3) 1 := by decide +kernel
theorem d29_57 : DK cB29 57 (.iconst 1) 1 := by decide +kernel
theorem d29_58 : DK cB29 58 (.isub) 1 := by decide +kernel
theorem d29_59 : DK cB29 59 (.iaload) 1 := by decide +kernel
theorem d29_60 : DK cB29 60 (.invokeinterface 39 2) 5 := by decide +kernel
theorem d29_65 : DK cB29 65 (.checkcast 43) 3 := by decide +kernel
theorem d29_68 : DK cB29 68 (.aload 5) 2 := by decide +kernel
theorem d29_70 : DK cB29 70 (.invokevirtual 113) 3 := by decide +kernel
theorem d48_0 : DK cB48 0 (.aload_n 1) 1 := by decide +kernel
theorem d48_1 : DK cB48 1 (.aload_n 0) 1 := by decide +kernel
theorem d48_2 : DK cB48 2 (.getfield 7) 3 := by decide +kernel
theorem d48_5 : DK cB48 5 (.invokevirtual 20) 3 := by decide +kernel
theorem d49_0 : DK cB49 0 (.aload_n 0) 1 := by decide +kernel
theorem d49_1 : DK cB49 1 (.aload_n 1) 1 := by decide +kernel
theorem d49_2 : DK cB49 2 (.iconst 0) 1 := by decide +kernel
theorem d49_3 : DK cB49 3 (.invokevirtual 624) 3 := by decide +kernel
theorem d50_0 : DK cB50 0 (.iload_n 2) 1 := by decide +kernel
theorem d50_1 : DK cB50 1 (.ifCond .lt 16) 3 := by decide +kernel
theorem d50_4 : DK cB50 4 (.iload_n 2) 1 := by decide +kernel
theorem d50_5 : DK cB50 5 (.aload_n 0) 1 := by decide +kernel
theorem d50_6 : DK cB50 6 (.invokevirtual 505) 3 := by decide +kernel
theorem d51_0 : DK cB51 0 (.aload_n 0) 1 := by decide +kernel
theorem d51_1 : DK cB51 1 (.getfield 9) 3 := by decide +kernel
theorem d51_4 : DK cB51 4 (.arraylength) 1 := by decide +kernel
theorem d51_5 : DK cB51 5 (.aload_n 0) 1 := by decide +kernel
theorem d51_6 : DK cB51 6 (.invokevirtual 335) 3 := by decide +kernel
theorem d52_0 : DK cB52 0 (.getstatic 38) 3 := by decide +kernel
theorem d52_3 : DK cB52 3 (.ifCond .eq 10) 3 := by decide +kernel
theorem d52_6 : DK cB52 6 (.aload_n 0) 1 := by decide +kernel
theorem d52_7 : DK cB52 7 (.getfield 15) 3 := by decide +kernel
theorem d52_10 : DK cB52 10 (.goto 4) 3 := by decide +kernel
theorem d52_14 : DK cB52 14 (.ireturn) 1 := by decide +kernel
def Q52_1 (Z : State)  (h0 : Heap) (n0 : Nat) (v : Option Value) (h : Heap) (L : List Loc) : Prop := v = some vI0 ∧ Fr n0 L ∧ h = h0
theorem rm52_1 (l : Launch) (Z : State) (a0 : Array Value) (hw : own_HW a0 Z) (ws : List Jvm.Cond) (r0 : Addr) (x1 : Int32) (h0 : Heap) (n0 : Nat) (O0 : Old Z n0 h0) (f1 : Sta Z Z.heap "java/lang/String" "COMPACT_STRINGS" "Z" (.int x1)) (hc4 : ¬ (x1 = (0 : Int32))) (f5 : Fld Z h0 r0 "java/lang/String" "coder" "B" vI0) :
    own_MF l mN48 jdk_42_method_152_code 1 (some .byte) ws rR0_0_0_0 Z h0 #[(.ref r0)] (Q52_1 Z  h0 n0) := by
  refine own_open (plainFor_of_name pn_java_lang_String) (L0 := #[lR r0]) (fun _ => by first | (simp [entryFrame, mkF, argsToLocals, Value.category]; done) | rfl) ?_
  intro p e s m below meth c s₁ hx hby hml hret hnn hZ hown X0 e0
  have N0 := Fr.nil n0
  have f2 := f1.ext O0.2
  obtain ⟨T3, X3, e3, st3⟩ := getS2 X0 hx hZ hown (host := "") (Or.inl (ww hw 4 rfl)) Via.refl e0 f2 (g := (mkF m 0 #[lR r0] [])) rfl (hb hby d52_0)
  obtain ⟨T6, X6, e6, st6⟩ := getF X3 hx hZ hown (host := "") (Or.inl (ww hw 24 rfl)) Via.refl e3 f5 (g := (mkF m 7 #[lR r0] [(.ref r0)])) rfl rfl (hb hby d52_7)
  refine ⟨some vI0, _, _, _, _, nofun, X6, by decide, by decide, ?_, fun fs hr => ?_⟩
  · rw [e6]; exact ⟨rfl, N0, rfl⟩
  · show SG p e below s₁ (mkF m 0 #[lR r0] []) _
    refine st3 _ ?_
    refine XS.ifNo X3.here hx rfl (hb hby d52_3) rfl ((if0 _ _).trans (feq hc4).1) ?_
    refine qaN X3 hx hby d52_6 ?_
    refine st6 _ ?_
    refine XS.goto X6.here hx rfl (pc0 := 10) (pc' := 14) rfl (hb hby d52_10) (by decide) (by decide) ?_
    exact retN X6 hx (t := .byte) hret (by simp) (hb hby d52_14) hr
theorem pd___B : parseMethodDescriptor "()B" = some ⟨[], some .byte⟩ := by decide +kernel
theorem d51_9 : DK cB51 9 (.ishr) 1 := by decide +kernel
theorem d51_10 : DK cB51 10 (.ireturn) 1 := by decide +kernel
def Q51_1 (Z : State)  (h0 : Heap) (n0 : Nat) (v : Option Value) (h : Heap) (L : List Loc) : Prop := v = some vI1 ∧ Fr n0 L ∧ h = h0
theorem rm51_1 (l : Launch) (Z : State) (a0 : Array Value) (hw : own_HW a0 Z) (ws : List Jvm.Cond) (r0 r1 : Addr) (c2 : ClassId) (x3 x4 : Int32) (h0 : Heap) (n0 : Nat) (O0 : Old Z n0 h0) (f1 : Fld Z h0 r0 "java/lang/String" "value" "[B" (.ref r1)) (f3 : Arv Z h0 r1 c2 .byte (1 : Int32) [(.int x3)] vI0) (f5 : Exa Z h0 r0 "java/lang/String") (f6 : Sta Z Z.heap "java/lang/String" "COMPACT_STRINGS" "Z" (.int x4)) (hc7 : ¬ (x4 = (0 : Int32))) (f8 : Fld Z h0 r0 "java/lang/String" "coder" "B" vI0) :
    own_MF l mN49 jdk_42_method_54_code 1 (some .int) ws rR1_0_0_13 Z h0 #[(.ref r0)] (Q51_1 Z  h0 n0) := by
  refine own_open (plainFor_of_name pn_java_lang_String) (L0 := #[lR r0]) (fun _ => by first | (simp [entryFrame, mkF, argsToLocals, Value.category]; done) | rfl) ?_
  intro p e s m below meth c s₁ hx hby hml hret hnn hZ hown X0 e0
  have N0 := Fr.nil n0; have w := @ww Z a0 hw
  obtain ⟨T2, X2, e2, st2⟩ := getF X0 hx hZ hown (host := "") (Or.inl (w 22 rfl)) Via.refl e0 f1 (g := (mkF m 1 #[lR r0] [(.ref r0)])) rfl rfl (hb hby d51_1)
  obtain ⟨clq4, Arq4, qq4, Sq4, Nq4, Hq4, Gq4⟩ := id f3
  obtain ⟨_, T9, Lc9, X9, hQ9, st9⟩ := own_cV X2 hx hZ hown e2 (rm52_1 l Z a0 hw [] r0 x4 h0 n0 O0 f6 hc7 f8) f5 (w 339 rfl) (w 340 rfl) (w 342 rfl) (w 341 rfl) (w 343 rfl) (w 2 rfl) (by decide) (W := 1) (by decide) (by decide) (by decide) (by decide) (g := (mkF m 6 #[lR r0] [(.ref r0), vI1])) rfl (by rw [hml]; rfl) (argsL := []) (rest := [vI1]) (lenOf pd___B rfl) rfl (own_W rfl) (hb hby d51_6)
  obtain ⟨rfl, N9q, E9⟩ := hQ9
  have N9 := Fr.app N0 N9q
  refine ⟨some vI1, _, _, _, _, nofun, X9, by decide, by decide, ?_, fun fs hr => ?_⟩
  · rw [E9]; exact ⟨rfl, N9, rfl⟩
  · show SG p e below s₁ (mkF m 0 #[lR r0] []) _
    refine qaN X0 hx hby d51_0 ?_
    refine st2 _ ?_
    refine X2.arraylength hx (by rw [e2]; exact Arq4.1) (State.isArrayOf_alike hZ.alike Arq4.2.1) (g := (mkF m 4 #[lR r0] [(.ref r1)])) rfl rfl (hb hby d51_4) _ ?_
    rw [len_of Sq4 Nq4]
    refine qaN X2 hx hby d51_5 ?_
    refine st9 _ ?_
    refine XS.ishr X9.here hx rfl (hb hby d51_9) rfl ?_
    exact retOut X9 hx (i := .ireturn) hret rfl (Or.inl ⟨rfl, Or.inl rfl, _, rfl⟩) (hb hby d51_10) hr
theorem d50_9 : DK cB50 9 (.aload_n 1) 1 := by decide +kernel
theorem d50_10 : DK cB50 10 (.invokevirtual 505) 3 := by decide +kernel
theorem d50_13 : DK cB50 13 (.isub) 1 := by decide +kernel
theorem d50_14 : DK cB50 14 (.if_icmp .le 5) 3 := by decide +kernel
theorem d50_19 : DK cB50 19 (.aload_n 0) 1 := by decide +kernel
theorem d50_20 : DK cB50 20 (.getfield 9) 3 := by decide +kernel
theorem d50_23 : DK cB50 23 (.astore_n 3) 1 := by decide +kernel
theorem d50_24 : DK cB50 24 (.aload_n 1) 1 := by decide +kernel
theorem d50_25 : DK cB50 25 (.getfield 9) 3 := by decide +kernel
theorem d50_28 : DK cB50 28 (.astore 4) 2 := by decide +kernel
theorem d50_30 : DK cB50 30 (.iconst 0) 1 := by decide +kernel
theorem d50_31 : DK cB50 31 (.istore 5) 2 := by decide +kernel
theorem d50_33 : DK cB50 33 (.aload 4) 2 := by decide +kernel
theorem d50_35 : DK cB50 35 (.arraylength) 1 := by decide +kernel
theorem d50_36 : DK cB50 36 (.istore 6) 2 := by decide +kernel
theorem d50_38 : DK cB50 38 (.aload_n 0) 1 := by decide +kernel
theorem d50_39 : DK cB50 39 (.invokevirtual 335) 3 := by decide +kernel
theorem d50_42 : DK cB50 42 (.istore 7) 2 := by decide +kernel
theorem d50_44 : DK cB50 44 (.iload 7) 2 := by decide +kernel
theorem d50_46 : DK cB50 46 (.aload_n 1) 1 := by decide +kernel
theorem d50_47 : DK cB50 47 (.invokevirtual 335) 3 := by decide +kernel
theorem d50_50 : DK cB50 50 (.if_icmp .ne 32) 3 := by decide +kernel
theorem d50_53 : DK cB50 53 (.iload 7) 2 := by decide +kernel
theorem d50_55 : DK cB50 55 (.iconst 1) 1 := by decide +kernel
theorem d50_56 : DK cB50 56 (.if_icmp .ne 7) 3 := by decide +kernel
theorem d50_63 : DK cB50 63 (.aload_n 3) 1 := by decide +kernel
theorem d50_64 : DK cB50 64 (.iload_n 2) 1 := by decide +kernel
theorem d50_65 : DK cB50 65 (.aload 4) 2 := by decide +kernel
theorem d50_67 : DK cB50 67 (.iconst 0) 1 := by decide +kernel
theorem d50_68 : DK cB50 68 (.iload 6) 2 := by decide +kernel
theorem d50_70 : DK cB50 70 (.invokestatic 607) 3 := by decide +kernel
theorem d53_0 : DK cB53 0 (.iconst 0) 1 := by decide +kernel
theorem d53_1 : DK cB53 1 (.istore 5) 2 := by decide +kernel
theorem d53_3 : DK cB53 3 (.iload 4) 2 := by decide +kernel
theorem d53_5 : DK cB53 5 (.bipush 7) 2 := by decide +kernel
theorem d53_7 : DK cB53 7 (.if_icmp .le 63) 3 := by decide +kernel
theorem d53_70 : DK cB53 70 (.iload 5) 2 := by decide +kernel
theorem d53_72 : DK cB53 72 (.iload 4) 2 := by decide +kernel
theorem d53_74 : DK cB53 74 (.if_icmp .ge 27) 3 := by decide +kernel
theorem d53_77 : DK cB53 77 (.aload_n 0) 1 := by decide +kernel
theorem d53_78 : DK cB53 78 (.iload_n 1) 1 := by decide +kernel
theorem d53_79 : DK cB53 79 (.iload 5) 2 := by decide +kernel
theorem d53_81 : DK cB53 81 (.iadd) 1 := by decide +kernel
theorem d53_82 : DK cB53 82 (.baload) 1 := by decide +kernel
theorem d53_83 : DK cB53 83 (.aload_n 2) 1 := by decide +kernel
theorem d53_84 : DK cB53 84 (.iload_n 3) 1 := by decide +kernel
theorem d53_85 : DK cB53 85 (.iload 5) 2 := by decide +kernel
theorem d53_87 : DK cB53 87 (.iadd) 1 := by decide +kernel
theorem d53_88 : DK cB53 88 (.baload) 1 := by decide +kernel
theorem d53_89 : DK cB53 89 (.if_icmp .eq 6) 3 := by decide +kernel
theorem d53_95 : DK cB53 95 (.iinc 5 1) 3 := by decide +kernel
theorem d53_98 : DK cB53 98 (.goto (-28)) 3 := by decide +kernel
theorem d53_101 : DK cB53 101 (.iconst (-1)) 1 := by decide +kernel
theorem d53_102 : DK cB53 102 (.ireturn) 1 := by decide +kernel
theorem pn_jdk_internal_util_ArraysSupport : plainName "jdk/internal/util/ArraysSupport" = true := by first | (simp [plainName, overriddenIn]; done) | decide +kernel
def Q53_1 (Z : State)  (h0 : Heap) (n0 : Nat) (v : Option Value) (h : Heap) (L : List Loc) : Prop := v = some (.int (-1 : Int32)) ∧ Fr n0 L ∧ h = h0
theorem rm53_1 (l : Launch) (Z : State) (a0 : Array Value) (hw : own_HW a0 Z) (ws : List Jvm.Cond) (r0 r1 : Addr) (c2 : ClassId) (x3 : Int32) (c4 : ClassId) (x5 : Int32) (h0 : Heap) (n0 : Nat) (O0 : Old Z n0 h0) (f1 : Arv Z h0 r0 c2 .byte (1 : Int32) [(.int x3)] vI0) (f3 : Arv Z h0 r1 c4 .byte (1 : Int32) [(.int x5)] vI0) (hc5 : x3 = x5) :
    own_MF l mN50 jdk_48_method_14_code 8 (some .int) ws rR0_0_0_0 Z h0 #[(.ref r0), vI0, (.ref r1), vI0, vI1] (Q53_1 Z  h0 n0) := by
  refine own_open (plainFor_of_name pn_jdk_internal_util_ArraysSupport) (L0 := #[lR r0, lV vI0, lR r1, lV vI0, lV vI1, lU, lU, lU]) (fun _ => by first | (simp [entryFrame, mkF, argsToLocals, Value.category]; done) | rfl) ?_
  intro p e s m below meth c s₁ hx hby hml hret hnn hZ hown X0 e0
  have N0 := Fr.nil n0
  obtain ⟨clq2, Arq2, qq2, Sq2, Nq2, Hq2, Gq2⟩ := id f1
  obtain ⟨clq4, Arq4, qq4, Sq4, Nq4, Hq4, Gq4⟩ := id f3
  refine ⟨some (.int (-1 : Int32)), _, _, _, _, nofun, X0, by decide, by decide, ?_, fun fs hr => ?_⟩
  · rw [e0]; exact ⟨rfl, N0, rfl⟩
  · show SG p e below s₁ (mkF m 0 #[lR r0, lV vI0, lR r1, lV vI0, lV vI1, lU, lU, lU] []) _
    refine qc X0 hx hby d53_0 ?_
    refine XS.istore X0.here hx rfl (hb hby d53_1) rfl (l' := #[lR r0, lV vI0, lR r1, lV vI0, lV vI1, lV vI0, lU, lU]) rfl ?_
    refine qi X0 hx hby d53_3 ?_
    refine qb X0 hx hby d53_5 ?_
    refine XS.icmpYes X0.here hx rfl (pc0 := 7) (pc' := 70) rfl (hb hby d53_7) rfl (flt (by decide : ¬ ((7 : Int32) < (1 : Int32)))).2.2.2 (by decide) (by decide) ?_
    refine qi X0 hx hby d53_70 ?_
    refine qi X0 hx hby d53_72 ?_
    refine XS.icmpNo X0.here hx rfl (hb hby d53_74) rfl (tlt (by decide : (0 : Int32) < (1 : Int32))).2.1 ?_
    refine qaN X0 hx hby d53_77 ?_
    refine qiN X0 hx hby d53_78 ?_
    show SG p e below s₁ (mkF m 79 #[lR r0, lV vI0, lR r1, lV vI0, lV vI1, lV vI0, lU, lU] [vI0, (.ref r0)]) _
    refine qi X0 hx hby d53_79 ?_
    refine XS.iadd X0.here hx rfl (hb hby d53_81) rfl ?_
    refine X0.baloadBytes hx (j := (0 : Int32)) (v := (.int x3)) (by rw [e0]; exact Arq2.1) (State.isArrayOf_alike hZ.alike Arq2.2.1) Arq2.2.2 (inb_of Sq2 ⟨(by decide : ¬ ((0 : Int32) < (0 : Int32))), (by decide : (0 : Int32) < (1 : Int32))⟩) (Has.at Hq2 (inb_of Sq2 ⟨(by decide : ¬ ((0 : Int32) < (0 : Int32))), (by decide : (0 : Int32) < (1 : Int32))⟩) rfl) (g := (mkF m 82 #[lR r0, lV vI0, lR r1, lV vI0, lV vI1, lV vI0, lU, lU] [vI0, (.ref r0)])) rfl rfl (hb hby d53_82) _ ?_
    refine qaN X0 hx hby d53_83 ?_
    refine qiN X0 hx hby d53_84 ?_
    refine qi X0 hx hby d53_85 ?_
    refine XS.iadd X0.here hx rfl (hb hby d53_87) rfl ?_
    refine X0.baloadBytes hx (j := (0 : Int32)) (v := (.int x5)) (by rw [e0]; exact Arq4.1) (State.isArrayOf_alike hZ.alike Arq4.2.1) Arq4.2.2 (inb_of Sq4 ⟨(by decide : ¬ ((0 : Int32) < (0 : Int32))), (by decide : (0 : Int32) < (1 : Int32))⟩) (Has.at Hq4 (inb_of Sq4 ⟨(by decide : ¬ ((0 : Int32) < (0 : Int32))), (by decide : (0 : Int32) < (1 : Int32))⟩) rfl) (g := (mkF m 88 #[lR r0, lV vI0, lR r1, lV vI0, lV vI1, lV vI0, lU, lU] [vI0, (.ref r1), (.int x3)])) rfl rfl (hb hby d53_88) _ ?_
    refine XS.icmpYes X0.here hx rfl (pc0 := 89) (pc' := 95) rfl (hb hby d53_89) rfl (teq hc5).1 (by decide) (by decide) ?_
    refine XS.iinc X0.here hx rfl (hb hby d53_95) rfl (l' := #[lR r0, lV vI0, lR r1, lV vI0, lV vI1, lV vI1, lU, lU]) rfl ?_
    show SG p e below s₁ (mkF m 98 #[lR r0, lV vI0, lR r1, lV vI0, lV vI1, lV vI1, lU, lU] []) _
    refine XS.goto X0.here hx rfl (pc0 := 98) (pc' := 70) rfl (hb hby d53_98) (by decide) (by decide) ?_
    refine qi X0 hx hby d53_70 ?_
    refine qi X0 hx hby d53_72 ?_
    refine XS.icmpYes X0.here hx rfl (pc0 := 74) (pc' := 101) rfl (hb hby d53_74) rfl (flt (by decide : ¬ ((1 : Int32) < (1 : Int32)))).2.1 (by decide) (by decide) ?_
    refine qc X0 hx hby d53_101 ?_
    exact retOut X0 hx (i := .ireturn) hret rfl (Or.inl ⟨rfl, Or.inl rfl, _, rfl⟩) (hb hby d53_102) hr
theorem pd___BI_BII_I : parseMethodDescriptor "([BI[BII)I" = some ⟨[(.array .byte), .int, (.array .byte), .int, .int], some .int⟩ := by decide +kernel
theorem d50_73 : DK cB50 73 (.ifCond .ge 7) 3 := by decide +kernel
theorem d50_76 : DK cB50 76 (.iconst 1) 1 := by decide +kernel
theorem d50_77 : DK cB50 77 (.goto 4) 3 := by decide +kernel
theorem d50_81 : DK cB50 81 (.ireturn) 1 := by decide +kernel
def Q50_1 (Z : State)  (h0 : Heap) (n0 : Nat) (v : Option Value) (h : Heap) (L : List Loc) : Prop := v = some vI1 ∧ Fr n0 L ∧ h = h0
theorem rm50_1 (l : Launch) (Z : State) (a0 : Array Value) (hw : own_HW a0 Z) (ws : List Jvm.Cond) (r0 r1 r2 : Addr) (c3 : ClassId) (x4 x5 : Int32) (r6 : Addr) (c7 : ClassId) (x8 : Int32) (h0 : Heap) (n0 : Nat) (O0 : Old Z n0 h0) (f1 : Exa Z h0 r0 "java/lang/String") (f2 : Fld Z h0 r0 "java/lang/String" "value" "[B" (.ref r2)) (f3 : Arv Z h0 r2 c3 .byte (1 : Int32) [(.int x4)] vI0) (f4 : Sta Z Z.heap "java/lang/String" "COMPACT_STRINGS" "Z" (.int x5)) (hc5 : ¬ (x5 = (0 : Int32))) (f6 : Fld Z h0 r0 "java/lang/String" "coder" "B" vI0) (f8 : Exa Z h0 r1 "java/lang/String") (f9 : Fld Z h0 r1 "java/lang/String" "value" "[B" (.ref r6)) (f10 : Arv Z h0 r6 c7 .byte (1 : Int32) [(.int x8)] vI0) (f11 : Fld Z h0 r1 "java/lang/String" "coder" "B" vI0) (hc18 : x4 = x8) :
    own_MF l mN51 jdk_42_method_75_code 8 (some .boolean) ws rR2_0_0_27 Z h0 #[(.ref r0), (.ref r1), vI0] (Q50_1 Z  h0 n0) := by
  refine own_open (plainFor_of_name pn_java_lang_String) (L0 := #[lR r0, lR r1, lV vI0, lU, lU, lU, lU, lU]) (fun _ => by first | (simp [entryFrame, mkF, argsToLocals, Value.category]; done) | rfl) ?_
  intro p e s m below meth c s₁ hx hby hml hret hnn hZ hown X0 e0
  have N0 := Fr.nil n0; have w := @ww Z a0 hw
  obtain ⟨_, T7, Lc7, X7, hQ7, st7⟩ := own_cV X0 hx hZ hown e0 (rm51_1 l Z a0 hw [] r0 r2 c3 x4 x5 h0 n0 O0 f2 f3 f1 f4 hc5 f6) f1 (w 334 rfl) (w 335 rfl) (w 337 rfl) (w 336 rfl) (w 338 rfl) (w 2 rfl) (by decide) (W := 1) (by decide) (by decide) (by decide) (by decide) (g := (mkF m 6 #[lR r0, lR r1, lV vI0, lU, lU, lU, lU, lU] [(.ref r0), vI0])) rfl (by rw [hml]; rfl) (argsL := []) (rest := [vI0]) (lenOf pd___I rfl) rfl (own_W rfl) (hb hby d50_6)
  obtain ⟨rfl, N7q, E7⟩ := hQ7
  have N7 := Fr.app N0 N7q
  obtain ⟨_, T12, Lc12, X12, hQ12, st12⟩ := own_cV X7 hx hZ hown E7 (rm51_1 l Z a0 hw [] r1 r6 c7 x8 x5 h0 n0 O0 f9 f10 f8 f4 hc5 f11) f8 (w 334 rfl) (w 335 rfl) (w 337 rfl) (w 336 rfl) (w 338 rfl) (w 2 rfl) (by decide) (W := 2) (by decide) (by decide) (by decide) (by decide) (g := (mkF m 10 #[lR r0, lR r1, lV vI0, lU, lU, lU, lU, lU] [(.ref r1), vI1, vI0])) rfl (by rw [hml]; rfl) (argsL := []) (rest := [vI1, vI0]) (lenOf pd___I rfl) rfl (own_W rfl) (hb hby d50_10)
  obtain ⟨rfl, N12q, E12⟩ := hQ12
  have N12 := Fr.app N7 N12q
  obtain ⟨T13, X13, e13, st13⟩ := getF X12 hx hZ hown (host := "") (Or.inl (w 22 rfl)) Via.refl E12 f2 (g := (mkF m 20 #[lR r0, lR r1, lV vI0, lU, lU, lU, lU, lU] [(.ref r0)])) rfl rfl (hb hby d50_20)
  obtain ⟨T14, X14, e14, st14⟩ := getF X13 hx hZ hown (host := "") (Or.inl (w 22 rfl)) Via.refl e13 f9 (g := (mkF m 25 #[lR r0, lR r1, lV vI0, lR r2, lU, lU, lU, lU] [(.ref r1)])) rfl rfl (hb hby d50_25)
  obtain ⟨clq15, Arq15, qq15, Sq15, Nq15, Hq15, Gq15⟩ := id f10
  obtain ⟨_, T16, Lc16, X16, hQ16, st16⟩ := own_cV X14 hx hZ hown e14 (rm52_1 l Z a0 hw [] r0 x5 h0 n0 O0 f4 hc5 f6) f1 (w 339 rfl) (w 340 rfl) (w 342 rfl) (w 341 rfl) (w 343 rfl) (w 2 rfl) (by decide) (W := 0) (by decide) (by decide) (by decide) (by decide) (g := (mkF m 39 #[lR r0, lR r1, lV vI0, lR r2, lR r6, lV vI0, lV vI1, lU] [(.ref r0)])) rfl (by rw [hml]; rfl) (argsL := []) (rest := []) (lenOf pd___B rfl) rfl (own_W rfl) (hb hby d50_39)
  obtain ⟨rfl, N16q, E16⟩ := hQ16
  have N16 := Fr.app N12 N16q
  obtain ⟨_, T17, Lc17, X17, hQ17, st17⟩ := own_cV X16 hx hZ hown E16 (rm52_1 l Z a0 hw [] r1 x5 h0 n0 O0 f4 hc5 f11) f8 (w 339 rfl) (w 340 rfl) (w 342 rfl) (w 341 rfl) (w 343 rfl) (w 2 rfl) (by decide) (W := 1) (by decide) (by decide) (by decide) (by decide) (g := (mkF m 47 #[lR r0, lR r1, lV vI0, lR r2, lR r6, lV vI0, lV vI1, lV vI0] [(.ref r1), vI0])) rfl (by rw [hml]; rfl) (argsL := []) (rest := [vI0]) (lenOf pd___B rfl) rfl (own_W rfl) (hb hby d50_47)
  obtain ⟨rfl, N17q, E17⟩ := hQ17
  have N17 := Fr.app N16 N17q
  obtain ⟨_, T19, Lc19, X19, hQ19, st19⟩ := own_cS X17 hx hZ hown E17 (rm53_1 l Z a0 hw [] r2 r6 c3 x4 c7 x8 h0 n0 O0 f3 f10 hc18) (w 344 rfl) (w 345 rfl) (w 346 rfl) (w 347 rfl) (by decide) (W := 0) (by decide) (by decide) (by decide) (by decide) (g := (mkF m 70 #[lR r0, lR r1, lV vI0, lR r2, lR r6, lV vI0, lV vI1, lV vI0] [vI1, vI0, (.ref r6), vI0, (.ref r2)])) rfl (by rw [hml]; rfl) (argsL := [(.ref r2), vI0, (.ref r6), vI0, vI1]) (rest := []) (lenOf pd___BI_BII_I rfl) rfl (own_W rfl) (hb hby d50_70)
  obtain ⟨rfl, N19q, E19⟩ := hQ19
  have N19 := Fr.app N17 N19q
  refine ⟨some vI1, _, _, _, _, nofun, X19, by decide, by decide, ?_, fun fs hr => ?_⟩
  · rw [E19]; exact ⟨rfl, N19, rfl⟩
  · show SG p e below s₁ (mkF m 0 #[lR r0, lR r1, lV vI0, lU, lU, lU, lU, lU] []) _
    refine qiN X0 hx hby d50_0 ?_
    refine XS.ifNo X0.here hx rfl (hb hby d50_1) rfl ((if0 _ _).trans (flt (by decide : ¬ ((0 : Int32) < (0 : Int32)))).1) ?_
    refine qiN X0 hx hby d50_4 ?_
    refine qaN X0 hx hby d50_5 ?_
    refine st7 _ ?_
    refine qaN X7 hx hby d50_9 ?_
    refine st12 _ ?_
    refine XS.isub X12.here hx rfl (hb hby d50_13) rfl ?_
    refine XS.icmpYes X12.here hx rfl (pc0 := 14) (pc' := 19) rfl (hb hby d50_14) rfl (flt (by decide : ¬ ((0 : Int32) < (0 : Int32)))).2.2.2 (by decide) (by decide) ?_
    refine qaN X12 hx hby d50_19 ?_
    show SG p e below T12 (mkF m 20 #[lR r0, lR r1, lV vI0, lU, lU, lU, lU, lU] [(.ref r0)]) _
    refine st13 _ ?_
    refine XS.astoreN X13.here hx rfl (hb hby d50_23) rfl rfl (l' := #[lR r0, lR r1, lV vI0, lR r2, lU, lU, lU, lU]) rfl ?_
    refine qaN X13 hx hby d50_24 ?_
    refine st14 _ ?_
    refine XS.astore X14.here hx rfl (hb hby d50_28) rfl rfl (l' := #[lR r0, lR r1, lV vI0, lR r2, lR r6, lU, lU, lU]) rfl ?_
    refine qc X14 hx hby d50_30 ?_
    refine XS.istore X14.here hx rfl (hb hby d50_31) rfl (l' := #[lR r0, lR r1, lV vI0, lR r2, lR r6, lV vI0, lU, lU]) rfl ?_
    refine qa X14 hx hby d50_33 ?_
    refine X14.arraylength hx (by rw [e14]; exact Arq15.1) (State.isArrayOf_alike hZ.alike Arq15.2.1) (g := (mkF m 35 #[lR r0, lR r1, lV vI0, lR r2, lR r6, lV vI0, lU, lU] [(.ref r6)])) rfl rfl (hb hby d50_35) _ ?_
    rw [len_of Sq15 Nq15]
    refine XS.istore X14.here hx rfl (hb hby d50_36) rfl (l' := #[lR r0, lR r1, lV vI0, lR r2, lR r6, lV vI0, lV vI1, lU]) rfl ?_
    show SG p e below T14 (mkF m 38 #[lR r0, lR r1, lV vI0, lR r2, lR r6, lV vI0, lV vI1, lU] []) _
    refine qaN X14 hx hby d50_38 ?_
    refine st16 _ ?_
    refine XS.istore X16.here hx rfl (hb hby d50_42) rfl (l' := #[lR r0, lR r1, lV vI0, lR r2, lR r6, lV vI0, lV vI1, lV vI0]) rfl ?_
    refine qi X16 hx hby d50_44 ?_
    refine qaN X16 hx hby d50_46 ?_
    refine st17 _ ?_
    refine XS.icmpNo X17.here hx rfl (hb hby d50_50) rfl (teq (rfl : (0 : Int32) = (0 : Int32))).2 ?_
    refine qi X17 hx hby d50_53 ?_
    refine qc X17 hx hby d50_55 ?_
    refine XS.icmpYes X17.here hx rfl (pc0 := 56) (pc' := 63) rfl (hb hby d50_56) rfl (feq (by decide : ¬ ((0 : Int32) = (1 : Int32)))).2 (by decide) (by decide) ?_
    show SG p e below T17 (mkF m 63 #[lR r0, lR r1, lV vI0, lR r2, lR r6, lV vI0, lV vI1, lV vI0] []) _
    refine qaN X17 hx hby d50_63 ?_
    refine qiN X17 hx hby d50_64 ?_
    refine qa X17 hx hby d50_65 ?_
    refine qc X17 hx hby d50_67 ?_
    refine qi X17 hx hby d50_68 ?_
    refine st19 _ ?_
    refine XS.ifNo X19.here hx rfl (hb hby d50_73) rfl ((if0 _ _).trans (tlt (by decide : (-1 : Int32) < (0 : Int32))).2.1) ?_
    refine qc X19 hx hby d50_76 ?_
    refine XS.goto X19.here hx rfl (pc0 := 77) (pc' := 81) rfl (hb hby d50_77) (by decide) (by decide) ?_
    exact retN X19 hx (t := .boolean) hret (by simp) (hb hby d50_81) hr
theorem pd__Ljava_lang_String_I_Z : parseMethodDescriptor "(Ljava/lang/String;I)Z" = some ⟨[(.object "java/lang/String"), .int], some .boolean⟩ := by decide +kernel
theorem d49_6 : DK cB49 6 (.ireturn) 1 := by decide +kernel
def Q49_1 (Z : State)  (h0 : Heap) (n0 : Nat) (v : Option Value) (h : Heap) (L : List Loc) : Prop := v = some vI1 ∧ Fr n0 L ∧ h = h0
theorem rm49_1 (l : Launch) (Z : State) (a0 : Array Value) (hw : own_HW a0 Z) (ws : List Jvm.Cond) (r0 r1 r2 : Addr) (c3 : ClassId) (x4 x5 : Int32) (r6 : Addr) (c7 : ClassId) (x8 : Int32) (h0 : Heap) (n0 : Nat) (O0 : Old Z n0 h0) (f1 : Exa Z h0 r0 "java/lang/String") (f2 : Fld Z h0 r0 "java/lang/String" "value" "[B" (.ref r2)) (f3 : Arv Z h0 r2 c3 .byte (1 : Int32) [(.int x4)] vI0) (f4 : Sta Z Z.heap "java/lang/String" "COMPACT_STRINGS" "Z" (.int x5)) (hc5 : ¬ (x5 = (0 : Int32))) (f6 : Fld Z h0 r0 "java/lang/String" "coder" "B" vI0) (f7 : Exa Z h0 r1 "java/lang/String") (f8 : Fld Z h0 r1 "java/lang/String" "value" "[B" (.ref r6)) (f9 : Arv Z h0 r6 c7 .byte (1 : Int32) [(.int x8)] vI0) (f10 : Fld Z h0 r1 "java/lang/String" "coder" "B" vI0) (hc11 : x4 = x8) :
    own_MF l mN52 jdk_42_method_76_code 2 (some .boolean) ws rR3_0_0_46 Z h0 #[(.ref r0), (.ref r1)] (Q49_1 Z  h0 n0) := by
  refine own_open (plainFor_of_name pn_java_lang_String) (L0 := #[lR r0, lR r1]) (fun _ => by first | (simp [entryFrame, mkF, argsToLocals, Value.category]; done) | rfl) ?_
  intro p e s m below meth c s₁ hx hby hml hret hnn hZ hown X0 e0
  have N0 := Fr.nil n0; have w := @ww Z a0 hw
  obtain ⟨_, T12, Lc12, X12, hQ12, st12⟩ := own_cV X0 hx hZ hown e0 (rm50_1 l Z a0 hw [] r0 r1 r2 c3 x4 x5 r6 c7 x8 h0 n0 O0 f1 f2 f3 f4 hc5 f6 f7 f8 f9 f10 hc11) f1 (w 329 rfl) (w 330 rfl) (w 332 rfl) (w 331 rfl) (w 333 rfl) (w 2 rfl) (by decide) (W := 0) (by decide) (by decide) (by decide) (by decide) (g := (mkF m 3 #[lR r0, lR r1] [vI0, (.ref r1), (.ref r0)])) rfl (by rw [hml]; rfl) (argsL := [(.ref r1), vI0]) (rest := []) (lenOf pd__Ljava_lang_String_I_Z rfl) rfl (own_W rfl) (hb hby d49_3)
  obtain ⟨rfl, N12q, E12⟩ := hQ12
  have N12 := Fr.app N0 N12q
  refine ⟨some vI1, _, _, _, _, nofun, X12, by decide, by decide, ?_, fun fs hr => ?_⟩
  · rw [E12]; exact ⟨rfl, N12, rfl⟩
  · show SG p e below s₁ (mkF m 0 #[lR r0, lR r1] []) _
    refine qaN X0 hx hby d49_0 ?_
    refine qaN X0 hx hby d49_1 ?_
    refine qc X0 hx hby d49_2 ?_
    refine st12 _ ?_
    exact retN X12 hx (t := .boolean) hret (by simp) (hb hby d49_6) hr
theorem pd__Ljava_lang_String__Z : parseMethodDescriptor "(Ljava/lang/String;)Z" = some ⟨[(.object "java/lang/String")], some .boolean⟩ := by decide +kernel
theorem d48_8 : DK cB48 8 (.ireturn) 1 := by decide +kernel
def Q48_1 (Z : State)  (h0 : Heap) (n0 : Nat) (v : Option Value) (h : Heap) (L : List Loc) : Prop := v = some vI1 ∧ Fr n0 L ∧ h = h0
theorem rm48_1 (l : Launch) (Z : State) (a0 : Array Value) (hw : own_HW a0 Z) (ws : List Jvm.Cond) (r0 r1 : Addr) (r2 r3 : Addr) (c4 : ClassId) (x5 x6 : Int32) (r7 : Addr) (c8 : ClassId) (x9 : Int32) (h0 : Heap) (n0 : Nat) (O0 : Old Z n0 h0) (f1 : Fld Z h0 r0 cs0 "path" "Ljava/lang/String;" (.ref r2)) (f3 : Exa Z h0 r1 "java/lang/String") (f4 : Fld Z h0 r1 "java/lang/String" "value" "[B" (.ref r3)) (f5 : Arv Z h0 r3 c4 .byte (1 : Int32) [(.int x5)] vI0) (f6 : Sta Z Z.heap "java/lang/String" "COMPACT_STRINGS" "Z" (.int x6)) (hc7 : ¬ (x6 = (0 : Int32))) (f8 : Fld Z h0 r1 "java/lang/String" "coder" "B" vI0) (f9 : Exa Z h0 r2 "java/lang/String") (f10 : Fld Z h0 r2 "java/lang/String" "value" "[B" (.ref r7)) (f11 : Arv Z h0 r7 c8 .byte (1 : Int32) [(.int x9)] vI0) (f12 : Fld Z h0 r2 "java/lang/String" "coder" "B" vI0) (hc13 : x5 = x9) :
    own_MF l mN53 prog_7_method_3_code 2 (some .boolean) ws rR4_0_0_59 Z h0 #[(.ref r0), (.ref r1)] (Q48_1 Z  h0 n0) := by
  refine own_open (plainFor_of_name pn_com_example_nearmiss_nearmiss_Element) (L0 := #[lR r0, lR r1]) (fun _ => by first | (simp [entryFrame, mkF, argsToLocals, Value.category]; done) | rfl) ?_
  intro p e s m below meth c s₁ hx hby hml hret hnn hZ hown X0 e0
  have N0 := Fr.nil n0; have w := @ww Z a0 hw
  obtain ⟨T2, X2, e2, st2⟩ := getF X0 hx hZ hown (host := "") (Or.inl (w 38 rfl)) Via.refl e0 f1 (g := (mkF m 2 #[lR r0, lR r1] [(.ref r0), (.ref r1)])) rfl rfl (hb hby d48_2)
  obtain ⟨_, T14, Lc14, X14, hQ14, st14⟩ := own_cV X2 hx hZ hown e2 (rm49_1 l Z a0 hw [] r1 r2 r3 c4 x5 x6 r7 c8 x9 h0 n0 O0 f3 f4 f5 f6 hc7 f8 f9 f10 f11 f12 hc13) f3 (w 324 rfl) (w 325 rfl) (w 327 rfl) (w 326 rfl) (w 328 rfl) (w 2 rfl) (by decide) (W := 0) (by decide) (by decide) (by decide) (by decide) (g := (mkF m 5 #[lR r0, lR r1] [(.ref r2), (.ref r1)])) rfl (by rw [hml]; rfl) (argsL := [(.ref r2)]) (rest := []) (lenOf pd__Ljava_lang_String__Z rfl) rfl (own_W rfl) (hb hby d48_5)
  obtain ⟨rfl, N14q, E14⟩ := hQ14
  have N14 := Fr.app N0 N14q
  refine ⟨some vI1, _, _, _, _, nofun, X14, by decide, by decide, ?_, fun fs hr => ?_⟩
  · rw [E14]; exact ⟨rfl, N14, rfl⟩
  · show SG p e below s₁ (mkF m 0 #[lR r0, lR r1] []) _
    refine qaN X0 hx hby d48_0 ?_
    refine qaN X0 hx hby d48_1 ?_
    refine st2 _ ?_
    refine st14 _ ?_
    exact retN X14 hx (t := .boolean) hret (by simp) (hb hby d48_8) hr
theorem d29_73 : DK cB29 73 (.ifCond .ne 16) 3 := by decide +kernel
theorem d53_92 : DK cB53 92 (.iload 5) 2 := by decide +kernel
theorem d53_94 : DK cB53 94 (.ireturn) 1 := by decide +kernel
def Q53_2 (Z : State)  (h0 : Heap) (n0 : Nat) (v : Option Value) (h : Heap) (L : List Loc) : Prop := v = some vI0 ∧ Fr n0 L ∧ h = h0
theorem rm53_2 (l : Launch) (Z : State) (a0 : Array Value) (hw : own_HW a0 Z) (ws : List Jvm.Cond) (r0 r1 : Addr) (c2 : ClassId) (x3 : Int32) (c4 : ClassId) (x5 : Int32) (h0 : Heap) (n0 : Nat) (O0 : Old Z n0 h0) (f1 : Arv Z h0 r0 c2 .byte (1 : Int32) [(.int x3)] vI0) (f3 : Arv Z h0 r1 c4 .byte (1 : Int32) [(.int x5)] vI0) (hc5 : ¬ (x3 = x5)) :
    own_MF l mN50 jdk_48_method_14_code 8 (some .int) ws rR0_0_0_0 Z h0 #[(.ref r0), vI0, (.ref r1), vI0, vI1] (Q53_2 Z  h0 n0) := by
  refine own_open (plainFor_of_name pn_jdk_internal_util_ArraysSupport) (L0 := #[lR r0, lV vI0, lR r1, lV vI0, lV vI1, lU, lU, lU]) (fun _ => by first | (simp [entryFrame, mkF, argsToLocals, Value.category]; done) | rfl) ?_
  intro p e s m below meth c s₁ hx hby hml hret hnn hZ hown X0 e0
  have N0 := Fr.nil n0
  obtain ⟨clq2, Arq2, qq2, Sq2, Nq2, Hq2, Gq2⟩ := id f1
  obtain ⟨clq4, Arq4, qq4, Sq4, Nq4, Hq4, Gq4⟩ := id f3
  refine ⟨some vI0, _, _, _, _, nofun, X0, by decide, by decide, ?_, fun fs hr => ?_⟩
  · rw [e0]; exact ⟨rfl, N0, rfl⟩
  · show SG p e below s₁ (mkF m 0 #[lR r0, lV vI0, lR r1, lV vI0, lV vI1, lU, lU, lU] []) _
    refine qc X0 hx hby d53_0 ?_
    refine XS.istore X0.here hx rfl (hb hby d53_1) rfl (l' := #[lR r0, lV vI0, lR r1, lV vI0, lV vI1, lV vI0, lU, lU]) rfl ?_
    refine qi X0 hx hby d53_3 ?_
    refine qb X0 hx hby d53_5 ?_
    refine XS.icmpYes X0.here hx rfl (pc0 := 7) (pc' := 70) rfl (hb hby d53_7) rfl (flt (by decide : ¬ ((7 : Int32) < (1 : Int32)))).2.2.2 (by decide) (by decide) ?_
    refine qi X0 hx hby d53_70 ?_
    refine qi X0 hx hby d53_72 ?_
    refine XS.icmpNo X0.here hx rfl (hb hby d53_74) rfl (tlt (by decide : (0 : Int32) < (1 : Int32))).2.1 ?_
    refine qaN X0 hx hby d53_77 ?_
    refine qiN X0 hx hby d53_78 ?_
    show SG p e below s₁ (mkF m 79 #[lR r0, lV vI0, lR r1, lV vI0, lV vI1, lV vI0, lU, lU] [vI0, (.ref r0)]) _
    refine qi X0 hx hby d53_79 ?_
    refine XS.iadd X0.here hx rfl (hb hby d53_81) rfl ?_
    refine X0.baloadBytes hx (j := (0 : Int32)) (v := (.int x3)) (by rw [e0]; exact Arq2.1) (State.isArrayOf_alike hZ.alike Arq2.2.1) Arq2.2.2 (inb_of Sq2 ⟨(by decide : ¬ ((0 : Int32) < (0 : Int32))), (by decide : (0 : Int32) < (1 : Int32))⟩) (Has.at Hq2 (inb_of Sq2 ⟨(by decide : ¬ ((0 : Int32) < (0 : Int32))), (by decide : (0 : Int32) < (1 : Int32))⟩) rfl) (g := (mkF m 82 #[lR r0, lV vI0, lR r1, lV vI0, lV vI1, lV vI0, lU, lU] [vI0, (.ref r0)])) rfl rfl (hb hby d53_82) _ ?_
    refine qaN X0 hx hby d53_83 ?_
    refine qiN X0 hx hby d53_84 ?_
    refine qi X0 hx hby d53_85 ?_
    refine XS.iadd X0.here hx rfl (hb hby d53_87) rfl ?_
    refine X0.baloadBytes hx (j := (0 : Int32)) (v := (.int x5)) (by rw [e0]; exact Arq4.1) (State.isArrayOf_alike hZ.alike Arq4.2.1) Arq4.2.2 (inb_of Sq4 ⟨(by decide : ¬ ((0 : Int32) < (0 : Int32))), (by decide : (0 : Int32) < (1 : Int32))⟩) (Has.at Hq4 (inb_of Sq4 ⟨(by decide : ¬ ((0 : Int32) < (0 : Int32))), (by decide : (0 : Int32) < (1 : Int32))⟩) rfl) (g := (mkF m 88 #[lR r0, lV vI0, lR r1, lV vI0, lV vI1, lV vI0, lU, lU] [vI0, (.ref r1), (.int x3)])) rfl rfl (hb hby d53_88) _ ?_
    refine XS.icmpNo X0.here hx rfl (hb hby d53_89) rfl (feq hc5).1 ?_
    refine qi X0 hx hby d53_92 ?_
    show SG p e below s₁ (mkF m 94 #[lR r0, lV vI0, lR r1, lV vI0, lV vI1, lV vI0, lU, lU] [vI0]) _
    exact retOut X0 hx (i := .ireturn) hret rfl (Or.inl ⟨rfl, Or.inl rfl, _, rfl⟩) (hb hby d53_94) hr
theorem d50_80 : DK cB50 80 (.iconst 0) 1 := by decide +kernel
def Q50_2 (Z : State)  (h0 : Heap) (n0 : Nat) (v : Option Value) (h : Heap) (L : List Loc) : Prop := v = some vI0 ∧ Fr n0 L ∧ h = h0
theorem rm50_2 (l : Launch) (Z : State) (a0 : Array Value) (hw : own_HW a0 Z) (ws : List Jvm.Cond) (r0 r1 r2 : Addr) (c3 : ClassId) (x4 x5 : Int32) (r6 : Addr) (c7 : ClassId) (x8 : Int32) (h0 : Heap) (n0 : Nat) (O0 : Old Z n0 h0) (f1 : Exa Z h0 r0 "java/lang/String") (f2 : Fld Z h0 r0 "java/lang/String" "value" "[B" (.ref r2)) (f3 : Arv Z h0 r2 c3 .byte (1 : Int32) [(.int x4)] vI0) (f4 : Sta Z Z.heap "java/lang/String" "COMPACT_STRINGS" "Z" (.int x5)) (hc5 : ¬ (x5 = (0 : Int32))) (f6 : Fld Z h0 r0 "java/lang/String" "coder" "B" vI0) (f8 : Exa Z h0 r1 "java/lang/String") (f9 : Fld Z h0 r1 "java/lang/String" "value" "[B" (.ref r6)) (f10 : Arv Z h0 r6 c7 .byte (1 : Int32) [(.int x8)] vI0) (f11 : Fld Z h0 r1 "java/lang/String" "coder" "B" vI0) (hc18 : ¬ (x4 = x8)) :
    own_MF l mN51 jdk_42_method_75_code 8 (some .boolean) ws rR2_0_0_27 Z h0 #[(.ref r0), (.ref r1), vI0] (Q50_2 Z  h0 n0) := by
  refine own_open (plainFor_of_name pn_java_lang_String) (L0 := #[lR r0, lR r1, lV vI0, lU, lU, lU, lU, lU]) (fun _ => by first | (simp [entryFrame, mkF, argsToLocals, Value.category]; done) | rfl) ?_
  intro p e s m below meth c s₁ hx hby hml hret hnn hZ hown X0 e0
  have N0 := Fr.nil n0; have w := @ww Z a0 hw
  obtain ⟨_, T7, Lc7, X7, hQ7, st7⟩ := own_cV X0 hx hZ hown e0 (rm51_1 l Z a0 hw [] r0 r2 c3 x4 x5 h0 n0 O0 f2 f3 f1 f4 hc5 f6) f1 (w 334 rfl) (w 335 rfl) (w 337 rfl) (w 336 rfl) (w 338 rfl) (w 2 rfl) (by decide) (W := 1) (by decide) (by decide) (by decide) (by decide) (g := (mkF m 6 #[lR r0, lR r1, lV vI0, lU, lU, lU, lU, lU] [(.ref r0), vI0])) rfl (by rw [hml]; rfl) (argsL := []) (rest := [vI0]) (lenOf pd___I rfl) rfl (own_W rfl) (hb hby d50_6)
  obtain ⟨rfl, N7q, E7⟩ := hQ7
  have N7 := Fr.app N0 N7q
  obtain ⟨_, T12, Lc12, X12, hQ12, st12⟩ := own_cV X7 hx hZ hown E7 (rm51_1 l Z a0 hw [] r1 r6 c7 x8 x5 h0 n0 O0 f9 f10 f8 f4 hc5 f11) f8 (w 334 rfl) (w 335 rfl) (w 337 rfl) (w 336 rfl) (w 338 rfl) (w 2 rfl) (by decide) (W := 2) (by decide) (by decide) (by decide) (by decide) (g := (mkF m 10 #[lR r0, lR r1, lV vI0, lU, lU, lU, lU, lU] [(.ref r1), vI1, vI0])) rfl (by rw [hml]; rfl) (argsL := []) (rest := [vI1, vI0]) (lenOf pd___I rfl) rfl (own_W rfl) (hb hby d50_10)
  obtain ⟨rfl, N12q, E12⟩ := hQ12
  have N12 := Fr.app N7 N12q
  obtain ⟨T13, X13, e13, st13⟩ := getF X12 hx hZ hown (host := "") (Or.inl (w 22 rfl)) Via.refl E12 f2 (g := (mkF m 20 #[lR r0, lR r1, lV vI0, lU, lU, lU, lU, lU] [(.ref r0)])) rfl rfl (hb hby d50_20)
  obtain ⟨T14, X14, e14, st14⟩ := getF X13 hx hZ hown (host := "") (Or.inl (w 22 rfl)) Via.refl e13 f9 (g := (mkF m 25 #[lR r0, lR r1, lV vI0, lR r2, lU, lU, lU, lU] [(.ref r1)])) rfl rfl (hb hby d50_25)
  obtain ⟨clq15, Arq15, qq15, Sq15, Nq15, Hq15, Gq15⟩ := id f10
  obtain ⟨_, T16, Lc16, X16, hQ16, st16⟩ := own_cV X14 hx hZ hown e14 (rm52_1 l Z a0 hw [] r0 x5 h0 n0 O0 f4 hc5 f6) f1 (w 339 rfl) (w 340 rfl) (w 342 rfl) (w 341 rfl) (w 343 rfl) (w 2 rfl) (by decide) (W := 0) (by decide) (by decide) (by decide) (by decide) (g := (mkF m 39 #[lR r0, lR r1, lV vI0, lR r2, lR r6, lV vI0, lV vI1, lU] [(.ref r0)])) rfl (by rw [hml]; rfl) (argsL := []) (rest := []) (lenOf pd___B rfl) rfl (own_W rfl) (hb hby d50_39)
  obtain ⟨rfl, N16q, E16⟩ := hQ16
  have N16 := Fr.app N12 N16q
  obtain ⟨_, T17, Lc17, X17, hQ17, st17⟩ := own_cV X16 hx hZ hown E16 (rm52_1 l Z a0 hw [] r1 x5 h0 n0 O0 f4 hc5 f11) f8 (w 339 rfl) (w 340 rfl) (w 342 rfl) (w 341 rfl) (w 343 rfl) (w 2 rfl) (by decide) (W := 1) (by decide) (by decide) (by decide) (by decide) (g := (mkF m 47 #[lR r0, lR r1, lV vI0, lR r2, lR r6, lV vI0, lV vI1, lV vI0] [(.ref r1), vI0])) rfl (by rw [hml]; rfl) (argsL := []) (rest := [vI0]) (lenOf pd___B rfl) rfl (own_W rfl) (hb hby d50_47)
  obtain ⟨rfl, N17q, E17⟩ := hQ17
  have N17 := Fr.app N16 N17q
  obtain ⟨_, T19, Lc19, X19, hQ19, st19⟩ := own_cS X17 hx hZ hown E17 (rm53_2 l Z a0 hw [] r2 r6 c3 x4 c7 x8 h0 n0 O0 f3 f10 hc18) (w 344 rfl) (w 345 rfl) (w 346 rfl) (w 347 rfl) (by decide) (W := 0) (by decide) (by decide) (by decide) (by decide) (g := (mkF m 70 #[lR r0, lR r1, lV vI0, lR r2, lR r6, lV vI0, lV vI1, lV vI0] [vI1, vI0, (.ref r6), vI0, (.ref r2)])) rfl (by rw [hml]; rfl) (argsL := [(.ref r2), vI0, (.ref r6), vI0, vI1]) (rest := []) (lenOf pd___BI_BII_I rfl) rfl (own_W rfl) (hb hby d50_70)
  obtain ⟨rfl, N19q, E19⟩ := hQ19
  have N19 := Fr.app N17 N19q
  refine ⟨some vI0, _, _, _, _, nofun, X19, by decide, by decide, ?_, fun fs hr => ?_⟩
  · rw [E19]; exact ⟨rfl, N19, rfl⟩
  · show SG p e below s₁ (mkF m 0 #[lR r0, lR r1, lV vI0, lU, lU, lU, lU, lU] []) _
    refine qiN X0 hx hby d50_0 ?_
    refine XS.ifNo X0.here hx rfl (hb hby d50_1) rfl ((if0 _ _).trans (flt (by decide : ¬ ((0 : Int32) < (0 : Int32)))).1) ?_
    refine qiN X0 hx hby d50_4 ?_
    refine qaN X0 hx hby d50_5 ?_
    refine st7 _ ?_
    refine qaN X7 hx hby d50_9 ?_
    refine st12 _ ?_
    refine XS.isub X12.here hx rfl (hb hby d50_13) rfl ?_
    refine XS.icmpYes X12.here hx rfl (pc0 := 14) (pc' := 19) rfl (hb hby d50_14) rfl (flt (by decide : ¬ ((0 : Int32) < (0 : Int32)))).2.2.2 (by decide) (by decide) ?_
    refine qaN X12 hx hby d50_19 ?_
    show SG p e below T12 (mkF m 20 #[lR r0, lR r1, lV vI0, lU, lU, lU, lU, lU] [(.ref r0)]) _
    refine st13 _ ?_
    refine XS.astoreN X13.here hx rfl (hb hby d50_23) rfl rfl (l' := #[lR r0, lR r1, lV vI0, lR r2, lU, lU, lU, lU]) rfl ?_
    refine qaN X13 hx hby d50_24 ?_
    refine st14 _ ?_
    refine XS.astore X14.here hx rfl (hb hby d50_28) rfl rfl (l' := #[lR r0, lR r1, lV vI0, lR r2, lR r6, lU, lU, lU]) rfl ?_
    refine qc X14 hx hby d50_30 ?_
    refine XS.istore X14.here hx rfl (hb hby d50_31) rfl (l' := #[lR r0, lR r1, lV vI0, lR r2, lR r6, lV vI0, lU, lU]) rfl ?_
    refine qa X14 hx hby d50_33 ?_
    refine X14.arraylength hx (by rw [e14]; exact Arq15.1) (State.isArrayOf_alike hZ.alike Arq15.2.1) (g := (mkF m 35 #[lR r0, lR r1, lV vI0, lR r2, lR r6, lV vI0, lU, lU] [(.ref r6)])) rfl rfl (hb hby d50_35) _ ?_
    rw [len_of Sq15 Nq15]
    refine XS.istore X14.here hx rfl (hb hby d50_36) rfl (l' := #[lR r0, lR r1, lV vI0, lR r2, lR r6, lV vI0, lV vI1, lU]) rfl ?_
    show SG p e below T14 (mkF m 38 #[lR r0, lR r1, lV vI0, lR r2, lR r6, lV vI0, lV vI1, lU] []) _
    refine qaN X14 hx hby d50_38 ?_
    refine st16 _ ?_
    refine XS.istore X16.here hx rfl (hb hby d50_42) rfl (l' := #[lR r0, lR r1, lV vI0, lR r2, lR r6, lV vI0, lV vI1, lV vI0]) rfl ?_
    refine qi X16 hx hby d50_44 ?_
    refine qaN X16 hx hby d50_46 ?_
    refine st17 _ ?_
    refine XS.icmpNo X17.here hx rfl (hb hby d50_50) rfl (teq (rfl : (0 : Int32) = (0 : Int32))).2 ?_
    refine qi X17 hx hby d50_53 ?_
    refine qc X17 hx hby d50_55 ?_
    refine XS.icmpYes X17.here hx rfl (pc0 := 56) (pc' := 63) rfl (hb hby d50_56) rfl (feq (by decide : ¬ ((0 : Int32) = (1 : Int32)))).2 (by decide) (by decide) ?_
    show SG p e below T17 (mkF m 63 #[lR r0, lR r1, lV vI0, lR r2, lR r6, lV vI0, lV vI1, lV vI0] []) _
    refine qaN X17 hx hby d50_63 ?_
    refine qiN X17 hx hby d50_64 ?_
    refine qa X17 hx hby d50_65 ?_
    refine qc X17 hx hby d50_67 ?_
    refine qi X17 hx hby d50_68 ?_
    refine st19 _ ?_
    refine XS.ifYes X19.here hx rfl (pc0 := 73) (pc' := 80) rfl (hb hby d50_73) rfl ((if0 _ _).trans (flt (by decide : ¬ ((0 : Int32) < (0 : Int32)))).2.1) (by decide) (by decide) ?_
    refine qc X19 hx hby d50_80 ?_
    exact retN X19 hx (t := .boolean) hret (by simp) (hb hby d50_81) hr
def Q49_2 (Z : State)  (h0 : Heap) (n0 : Nat) (v : Option Value) (h : Heap) (L : List Loc) : Prop := v = some vI0 ∧ Fr n0 L ∧ h = h0
theorem rm49_2 (l : Launch) (Z : State) (a0 : Array Value) (hw : own_HW a0 Z) (ws : List Jvm.Cond) (r0 r1 r2 : Addr) (c3 : ClassId) (x4 x5 : Int32) (r6 : Addr) (c7 : ClassId) (x8 : Int32) (h0 : Heap) (n0 : Nat) (O0 : Old Z n0 h0) (f1 : Exa Z h0 r0 "java/lang/String") (f2 : Fld Z h0 r0 "java/lang/String" "value" "[B" (.ref r2)) (f3 : Arv Z h0 r2 c3 .byte (1 : Int32) [(.int x4)] vI0) (f4 : Sta Z Z.heap "java/lang/String" "COMPACT_STRINGS" "Z" (.int x5)) (hc5 : ¬ (x5 = (0 : Int32))) (f6 : Fld Z h0 r0 "java/lang/String" "coder" "B" vI0) (f7 : Exa Z h0 r1 "java/lang/String") (f8 : Fld Z h0 r1 "java/lang/String" "value" "[B" (.ref r6)) (f9 : Arv Z h0 r6 c7 .byte (1 : Int32) [(.int x8)] vI0) (f10 : Fld Z h0 r1 "java/lang/String" "coder" "B" vI0) (hc11 : ¬ (x4 = x8)) :
    own_MF l mN52 jdk_42_method_76_code 2 (some .boolean) ws rR3_0_0_46 Z h0 #[(.ref r0), (.ref r1)] (Q49_2 Z  h0 n0) := by
  refine own_open (plainFor_of_name pn_java_lang_String) (L0 := #[lR r0, lR r1]) (fun _ => by first | (simp [entryFrame, mkF, argsToLocals, Value.category]; done) | rfl) ?_
  intro p e s m below meth c s₁ hx hby hml hret hnn hZ hown X0 e0
  have N0 := Fr.nil n0; have w := @ww Z a0 hw
  obtain ⟨_, T12, Lc12, X12, hQ12, st12⟩ := own_cV X0 hx hZ hown e0 (rm50_2 l Z a0 hw [] r0 r1 r2 c3 x4 x5 r6 c7 x8 h0 n0 O0 f1 f2 f3 f4 hc5 f6 f7 f8 f9 f10 hc11) f1 (w 329 rfl) (w 330 rfl) (w 332 rfl) (w 331 rfl) (w 333 rfl) (w 2 rfl) (by decide) (W := 0) (by decide) (by decide) (by decide) (by decide) (g := (mkF m 3 #[lR r0, lR r1] [vI0, (.ref r1), (.ref r0)])) rfl (by rw [hml]; rfl) (argsL := [(.ref r1), vI0]) (rest := []) (lenOf pd__Ljava_lang_String_I_Z rfl) rfl (own_W rfl) (hb hby d49_3)
  obtain ⟨rfl, N12q, E12⟩ := hQ12
  have N12 := Fr.app N0 N12q
  refine ⟨some vI0, _, _, _, _, nofun, X12, by decide, by decide, ?_, fun fs hr => ?_⟩
  · rw [E12]; exact ⟨rfl, N12, rfl⟩
  · show SG p e below s₁ (mkF m 0 #[lR r0, lR r1] []) _
    refine qaN X0 hx hby d49_0 ?_
    refine qaN X0 hx hby d49_1 ?_
    refine qc X0 hx hby d49_2 ?_
    refine st12 _ ?_
    exact retN X12 hx (t := .boolean) hret (by simp) (hb hby d49_6) hr
def Q48_2 (Z : State)  (h0 : Heap) (n0 : Nat) (v : Option Value) (h : Heap) (L : List Loc) : Prop := v = some vI0 ∧ Fr n0 L ∧ h = h0
theorem rm48_2 (l : Launch) (Z : State) (a0 : Array Value) (hw : own_HW a0 Z) (ws : List Jvm.Cond) (r0 r1 : Addr) (r2 r3 : Addr) (c4 : ClassId) (x5 x6 : Int32) (r7 : Addr) (c8 : ClassId) (x9 : Int32) (h0 : Heap) (n0 : Nat) (O0 : Old Z n0 h0) (f1 : Fld Z h0 r0 cs0 "path" "Ljava/lang/String;" (.ref r2)) (f3 : Exa Z h0 r1 "java/lang/String") (f4 : Fld Z h0 r1 "java/lang/String" "value" "[B" (.ref r3)) (f5 : Arv Z h0 r3 c4 .byte (1 : Int32) [(.int x5)] vI0) (f6 : Sta Z Z.heap "java/lang/String" "COMPACT_STRINGS" "Z" (.int x6)) (hc7 : ¬ (x6 = (0 : Int32))) (f8 : Fld Z h0 r1 "java/lang/String" "coder" "B" vI0) (f9 : Exa Z h0 r2 "java/lang/String") (f10 : Fld Z h0 r2 "java/lang/String" "value" "[B" (.ref r7)) (f11 : Arv Z h0 r7 c8 .byte (1 : Int32) [(.int x9)] vI0) (f12 : Fld Z h0 r2 "java/lang/String" "coder" "B" vI0) (hc13 : ¬ (x5 = x9)) :
    own_MF l mN53 prog_7_method_3_code 2 (some .boolean) ws rR4_0_0_59 Z h0 #[(.ref r0), (.ref r1)] (Q48_2 Z  h0 n0) := by
  refine own_open (plainFor_of_name pn_com_example_nearmiss_nearmiss_Element) (L0 := #[lR r0, lR r1]) (fun _ => by first | (simp [entryFrame, mkF, argsToLocals, Value.category]; done) | rfl) ?_
  intro p e s m below meth c s₁ hx hby hml hret hnn hZ hown X0 e0
  have N0 := Fr.nil n0; have w := @ww Z a0 hw
  obtain ⟨T2, X2, e2, st2⟩ := getF X0 hx hZ hown (host := "") (Or.inl (w 38 rfl)) Via.refl e0 f1 (g := (mkF m 2 #[lR r0, lR r1] [(.ref r0), (.ref r1)])) rfl rfl (hb hby d48_2)
  obtain ⟨_, T14, Lc14, X14, hQ14, st14⟩ := own_cV X2 hx hZ hown e2 (rm49_2 l Z a0 hw [] r1 r2 r3 c4 x5 x6 r7 c8 x9 h0 n0 O0 f3 f4 f5 f6 hc7 f8 f9 f10 f11 f12 hc13) f3 (w 324 rfl) (w 325 rfl) (w 327 rfl) (w 326 rfl) (w 328 rfl) (w 2 rfl) (by decide) (W := 0) (by decide) (by decide) (by decide) (by decide) (g := (mkF m 5 #[lR r0, lR r1] [(.ref r2), (.ref r1)])) rfl (by rw [hml]; rfl) (argsL := [(.ref r2)]) (rest := []) (lenOf pd__Ljava_lang_String__Z rfl) rfl (own_W rfl) (hb hby d48_5)
  obtain ⟨rfl, N14q, E14⟩ := hQ14
  have N14 := Fr.app N0 N14q
  refine ⟨some vI0, _, _, _, _, nofun, X14, by decide, by decide, ?_, fun fs hr => ?_⟩
  · rw [E14]; exact ⟨rfl, N14, rfl⟩
  · show SG p e below s₁ (mkF m 0 #[lR r0, lR r1] []) _
    refine qaN X0 hx hby d48_0 ?_
    refine qaN X0 hx hby d48_1 ?_
    refine st2 _ ?_
    refine st14 _ ?_
    exact retN X14 hx (t := .boolean) hret (by simp) (hb hby d48_8) hr
theorem d29_76 : DK cB29 76 (.iinc 3 (-1)) 3 := by decide +kernel
theorem d29_79 : DK cB29 79 (.aload_n 1) 1 := by decide +kernel
theorem d29_80 : DK cB29 80 (.aload_n 2) 1 := by decide +kernel
theorem d29_81 : DK cB29 81 (.iload_n 3) 1 := by decide +kernel
theorem d29_82 : DK cB29 82 (.iaload) 1 := by decide +kernel
theorem d29_83 : DK cB29 83 (.iload 4) 2 := by decide +kernel
theorem d29_85 : DK cB29 85 (.iastore) 1 := by decide +kernel
theorem d29_86 : DK cB29 86 (.goto (-36)) 3 := by decide +kernel
def Q29_3 (Z : State)  (h0 : Heap) (n0 : Nat) (v : Option Value) (h : Heap) (L : List Loc) : Prop := ∃ (b7 : Addr) (k7 : ClassId), v = some (.ref b7) ∧ Fr n0 L ∧ Keep h0 h [] ∧ h0.size ≤ b7 ∧ Arv Z h b7 k7 .int (2 : Int32) [vI2, vI2] vI0 ∧ Exa Z h b7 "[I"
theorem rm29_3 (l : Launch) (Z : State) (a0 : Array Value) (hw : own_HW a0 Z) (ws : List Jvm.Cond) (r0 r1 : Addr) (r2 r3 : Addr) (r4 r5 r6 : Addr) (c7 : ClassId) (x8 x9 : Int32) (r10 : Addr) (c11 : ClassId) (x12 : Int32) (h0 : Heap) (n0 : Nat) (O0 : Old Z n0 h0) (f1 : Exa Z h0 r0 cs7) (f2 : Fld Z h0 r0 cs7 "e1" "Ljava/lang/Object;" (.ref r1)) (f3 : Sta Z Z.heap cs8 "EMPTY" "Ljava/lang/Object;" (.ref r2)) (f4 : Exa Z Z.heap r2 "java/lang/Object") (g5 : n0 ≤ r1) (f17 : Fld Z h0 r0 cs7 "e0" "Ljava/lang/Object;" (.ref r3)) (f20 : Exa Z h0 r3 cs0) (f23 : Fld Z h0 r3 cs0 "path" "Ljava/lang/String;" (.ref r4)) (l30 : r0 < h0.size) (f38 : Exa Z h0 r1 cs0) (f41 : Fld Z h0 r1 cs0 "path" "Ljava/lang/String;" (.ref r5)) (l42 : r1 < h0.size) (l51 : r3 < h0.size) (f54 : Exa Z h0 r5 "java/lang/String") (f56 : Fld Z h0 r5 "java/lang/String" "value" "[B" (.ref r6)) (l57 : r5 < h0.size) (f60 : Arv Z h0 r6 c7 .byte (1 : Int32) [(.int x8)] vI0) (l61 : r6 < h0.size) (f64 : Sta Z Z.heap "java/lang/String" "COMPACT_STRINGS" "Z" (.int x9)) (hc65 : ¬ (x9 = (0 : Int32))) (f66 : Fld Z h0 r5 "java/lang/String" "coder" "B" vI0) (f68 : Exa Z h0 r4 "java/lang/String") (f70 : Fld Z h0 r4 "java/lang/String" "value" "[B" (.ref r10)) (l71 : r4 < h0.size) (f74 : Arv Z h0 r10 c11 .byte (1 : Int32) [(.int x12)] vI0) (l75 : r10 < h0.size) (f78 : Fld Z h0 r4 "java/lang/String" "coder" "B" vI0) (hc80 : x8 = x12) :
    own_MF l mN31 prog_2_method_12_code 6 (some (.array .int)) ws rR5_2_4_72 Z h0 #[(.ref r0)] (Q29_3 Z  h0 n0) := by
  refine own_open (plainFor_of_name pn_com_example_nearmiss_nearmiss_Document) (L0 := #[lR r0, lU, lU, lU, lU, lU]) (fun _ => by first | (simp [entryFrame, mkF, argsToLocals, Value.category]; done) | rfl) ?_
  intro p e s m below meth c s₁ hx hby hml hret hnn hZ hown X0 e0
  have N0 := Fr.nil n0; have w := @ww Z a0 hw
  obtain ⟨_, T6, Lc6, X6, hQ6, st6⟩ := own_cI (xi := mN32) X0 hx hZ hown e0 (rm30_2 l Z a0 hw [] r0 r1 r2 h0 n0 O0 f2 f3 f4 g5) f1 (w 205 rfl) (w 206 rfl) (w 207 rfl) (w 208 rfl) (w 209 rfl) (w 210 rfl) (w 211 rfl) (w 212 rfl) (w 213 rfl) (w 172 rfl) (by decide) (W := 0) (by decide) (by decide) (by decide) (by decide) (g := (mkF m 1 #[lR r0, lU, lU, lU, lU, lU] [(.ref r0)])) rfl (by rw [hml]; rfl) (argsL := []) (rest := []) (lenOf pd___I rfl) rfl (own_W rfl) (hb hby d29_1)
  obtain ⟨rfl, N6q, E6⟩ := hQ6
  have N6 := Fr.app N0 N6q
  obtain ⟨T7, h7, k7, X7, e7, E7, A7, B7, st7⟩ := newPE X6 hx hZ (w 214 rfl) E6 (g := (mkF m 6 #[lR r0, lU, lU, lU, lU, lU] [vI2])) rfl (hb hby d29_6) rfl (by decide) (cap := 2) (by decide) (by decide) (by decide) (by decide) (ad := "[I") rfl
  obtain ⟨b7, g7⟩ : ∃ z, z = h0.size := ⟨_, rfl⟩
  rw [← g7] at A7 B7 st7
  have V7 : Arv Z h7 b7 k7 .int (2 : Int32) [vI0, vI0] vI0 := (Arv.new A7 (by decide)).pad (pad_rep [] vI0 2)
  have f8 := (f2.ext E7)
  have o9 := Old.ext O0 E7
  have f11 := (f1.ext E7)
  obtain ⟨_, T10, Lc10, X10, hQ10, st10⟩ := own_cI (xi := mN32) X7 hx hZ hown e7 (rm30_2 l Z a0 hw [] r0 r1 r2 h7 n0 o9 f8 f3 f4 g5) f11 (w 205 rfl) (w 206 rfl) (w 207 rfl) (w 208 rfl) (w 209 rfl) (w 210 rfl) (w 211 rfl) (w 212 rfl) (w 213 rfl) (w 172 rfl) (by decide) (W := 0) (by decide) (by decide) (by decide) (by decide) (g := (mkF m 10 #[lR r0, lR b7, lU, lU, lU, lU] [(.ref r0)])) rfl (by rw [hml]; rfl) (argsL := []) (rest := []) (lenOf pd___I rfl) rfl (own_W rfl) (hb hby d29_10)
  obtain ⟨rfl, N10q, E10⟩ := hQ10
  have N10 := Fr.app N6 N10q
  obtain ⟨T12, h12, k12, X12, e12, E12, A12, B12, st12⟩ := newPE X10 hx hZ (w 214 rfl) E10 (g := (mkF m 15 #[lR r0, lR b7, lU, lU, lU, lU] [vI2])) rfl (hb hby d29_15) rfl (by decide) (cap := 2) (by decide) (by decide) (by decide) (by decide) (ad := "[I") rfl
  obtain ⟨b12, g12⟩ : ∃ z, z = h7.size := ⟨_, rfl⟩
  rw [← g12] at A12 B12 st12
  have V12 : Arv Z h12 b12 k12 .int (2 : Int32) [vI0, vI0] vI0 := (Arv.new A12 (by decide)).pad (pad_rep [] vI0 2)
  have f13 := (f8.ext E12)
  have o14 := Old.ext o9 E12
  have f16 := (f11.ext E12)
  obtain ⟨_, T15, Lc15, X15, hQ15, st15⟩ := own_cI (xi := mN32) X12 hx hZ hown e12 (rm30_2 l Z a0 hw [] r0 r1 r2 h12 n0 o14 f13 f3 f4 g5) f16 (w 205 rfl) (w 206 rfl) (w 207 rfl) (w 208 rfl) (w 209 rfl) (w 210 rfl) (w 211 rfl) (w 212 rfl) (w 213 rfl) (w 172 rfl) (by decide) (W := 1) (by decide) (by decide) (by decide) (by decide) (g := (mkF m 26 #[lR r0, lR b7, lR b12, lV vI0, lV vI0, lU] [(.ref r0), vI0])) rfl (by rw [hml]; rfl) (argsL := []) (rest := [vI0]) (lenOf pd___I rfl) rfl (own_W rfl) (hb hby d29_26)
  obtain ⟨rfl, N15q, E15⟩ := hQ15
  have N15 := Fr.app N10 N15q
  have f18 := ((f17.ext E7).ext E12)
  obtain ⟨_, T19, Lc19, X19, hQ19, st19⟩ := own_cI (xi := mN33) X15 hx hZ hown E15 (rm31_1 l Z a0 hw [] r0 r3 h12 n0 o14 f18) f16 (w 215 rfl) (w 216 rfl) (w 217 rfl) (w 218 rfl) (w 219 rfl) (w 220 rfl) (w 221 rfl) (w 212 rfl) (w 222 rfl) (w 172 rfl) (by decide) (W := 0) (by decide) (by decide) (by decide) (by decide) (g := (mkF m 37 #[lR r0, lR b7, lR b12, lV vI0, lV vI0, lU] [vI0, (.ref r0)])) rfl (by rw [hml]; rfl) (argsL := [vI0]) (rest := []) (lenOf pd__I_Ljava_lang_Object_ rfl) rfl (own_W rfl) (hb hby d29_37)
  obtain ⟨rfl, N19q, E19⟩ := hQ19
  have N19 := Fr.app N15 N19q
  have f21 := ((f20.ext E7).ext E12)
  obtain ⟨T22, X22, e22, st22⟩ := castY X19 hx hZ hown (w 223 rfl) E19 (Ins.self f21) (g := (mkF m 42 #[lR r0, lR b7, lR b12, lV vI0, lV vI0, lU] [(.ref r3)])) rfl rfl (hb hby d29_42)
  have f24 := ((f23.ext E7).ext E12)
  obtain ⟨_, T25, Lc25, X25, hQ25, st25⟩ := own_cV X22 hx hZ hown e22 (rm32_1 l Z a0 hw [] r3 r4 h12 n0 o14 f24) f21 (w 225 rfl) (w 226 rfl) (w 228 rfl) (w 227 rfl) (w 229 rfl) (w 28 rfl) (by decide) (W := 0) (by decide) (by decide) (by decide) (by decide) (g := (mkF m 45 #[lR r0, lR b7, lR b12, lV vI0, lV vI0, lU] [(.ref r3)])) rfl (by rw [hml]; rfl) (argsL := []) (rest := []) (lenOf pd___Ljava_lang_String_ rfl) rfl (own_W rfl) (hb hby d29_45)
  obtain ⟨rfl, N25q, E25⟩ := hQ25
  have N25 := Fr.app N19 N25q
  obtain ⟨clq26, Arq26, qq26, Sq26, Nq26, Hq26, Gq26⟩ := id V12
  have zz27 : n0 ≤ h7.size := by rw [← o9.1]; exact o9.2.1
  have g28 := Nat.le_trans zz27 (Nat.le_of_eq g12.symm)
  obtain ⟨T29, h29, X29, e29, W29, st29⟩ := stI X25 hx hZ E25 Arq26 (j := (0 : Int32)) (inb_of Sq26 ⟨(by decide : ¬ ((0 : Int32) < (0 : Int32))), (by decide : (0 : Int32) < (2 : Int32))⟩) (g := (mkF m 93 #[lR r0, lR b7, lR b12, lV vI0, lV vI0, lR r4] [vI0, vI0, (.ref b12)])) rfl rfl (hb hby d29_93)
  have V29 : Arv Z h29 b12 k12 .int (2 : Int32) [vI0, vI0] vI0 := Arv.set Arq26 qq26 Sq26 Nq26 Hq26 Gq26 rfl W29 0 rfl (Nat.le_of_ble_eq_true rfl)
  have N29 := Fr.snoc X29 N25 g28
  have zs31 := E7.1
  have n32 := Nat.ne_of_lt (Nat.lt_of_lt_of_le (Nat.lt_of_lt_of_le l30 zs31) (Nat.le_of_eq g12.symm))
  have f33 := (f13.other W29 (Or.inl n32))
  have o34 := Old.wr o14 W29 g28
  have f36 := (f16.wr W29)
  obtain ⟨_, T35, Lc35, X35, hQ35, st35⟩ := own_cI (xi := mN32) X29 hx hZ hown e29 (rm30_2 l Z a0 hw [] r0 r1 r2 h29 n0 o34 f33 f3 f4 g5) f36 (w 205 rfl) (w 206 rfl) (w 207 rfl) (w 208 rfl) (w 209 rfl) (w 210 rfl) (w 211 rfl) (w 212 rfl) (w 213 rfl) (w 172 rfl) (by decide) (W := 1) (by decide) (by decide) (by decide) (by decide) (g := (mkF m 26 #[lR r0, lR b7, lR b12, lV vI1, lV vI1, lR r4] [(.ref r0), vI1])) rfl (by rw [hml]; rfl) (argsL := []) (rest := [vI1]) (lenOf pd___I rfl) rfl (own_W rfl) (hb hby d29_26)
  obtain ⟨rfl, N35q, E35⟩ := hQ35
  have N35 := Fr.app N29 N35q
  obtain ⟨_, T37, Lc37, X37, hQ37, st37⟩ := own_cI (xi := mN33) X35 hx hZ hown E35 (rm31_2 l Z a0 hw [] r0 r1 r2 h29 n0 o34 f33 f3 f4 g5) f36 (w 215 rfl) (w 216 rfl) (w 217 rfl) (w 218 rfl) (w 219 rfl) (w 220 rfl) (w 221 rfl) (w 212 rfl) (w 222 rfl) (w 172 rfl) (by decide) (W := 0) (by decide) (by decide) (by decide) (by decide) (g := (mkF m 37 #[lR r0, lR b7, lR b12, lV vI1, lV vI1, lR r4] [vI1, (.ref r0)])) rfl (by rw [hml]; rfl) (argsL := [vI1]) (rest := []) (lenOf pd__I_Ljava_lang_Object_ rfl) rfl (own_W rfl) (hb hby d29_37)
  obtain ⟨rfl, N37q, E37⟩ := hQ37
  have N37 := Fr.app N35 N37q
  have f39 := (((f38.ext E7).ext E12).wr W29)
  obtain ⟨T40, X40, e40, st40⟩ := castY X37 hx hZ hown (w 223 rfl) E37 (Ins.self f39) (g := (mkF m 42 #[lR r0, lR b7, lR b12, lV vI1, lV vI1, lR r4] [(.ref r1)])) rfl rfl (hb hby d29_42)
  have n43 := Nat.ne_of_lt (Nat.lt_of_lt_of_le (Nat.lt_of_lt_of_le l42 zs31) (Nat.le_of_eq g12.symm))
  have f44 := (((f41.ext E7).ext E12).other W29 (Or.inl n43))
  obtain ⟨_, T45, Lc45, X45, hQ45, st45⟩ := own_cV X40 hx hZ hown e40 (rm32_1 l Z a0 hw [] r1 r5 h29 n0 o34 f44) f39 (w 225 rfl) (w 226 rfl) (w 228 rfl) (w 227 rfl) (w 229 rfl) (w 28 rfl) (by decide) (W := 0) (by decide) (by decide) (by decide) (by decide) (g := (mkF m 45 #[lR r0, lR b7, lR b12, lV vI1, lV vI1, lR r4] [(.ref r1)])) rfl (by rw [hml]; rfl) (argsL := []) (rest := []) (lenOf pd___Ljava_lang_String_ rfl) rfl (own_W rfl) (hb hby d29_45)
  obtain ⟨rfl, N45q, E45⟩ := hQ45
  have N45 := Fr.app N37 N45q
  obtain ⟨clq46, Arq46, qq46, Sq46, Nq46, Hq46, Gq46⟩ := id V29
  have f47 := (f18.other W29 (Or.inl n32))
  obtain ⟨_, T48, Lc48, X48, hQ48, st48⟩ := own_cI (xi := mN33) X45 hx hZ hown E45 (rm31_1 l Z a0 hw [] r0 r3 h29 n0 o34 f47) f36 (w 215 rfl) (w 216 rfl) (w 217 rfl) (w 218 rfl) (w 219 rfl) (w 220 rfl) (w 221 rfl) (w 212 rfl) (w 222 rfl) (w 172 rfl) (by decide) (W := 0) (by decide) (by decide) (by decide) (by decide) (g := (mkF m 60 #[lR r0, lR b7, lR b12, lV vI1, lV vI1, lR r5] [vI0, (.ref r0)])) rfl (by rw [hml]; rfl) (argsL := [vI0]) (rest := []) (lenOf pd__I_Ljava_lang_Object_ rfl) rfl (own_W rfl) (hb hby d29_60)
  obtain ⟨rfl, N48q, E48⟩ := hQ48
  have N48 := Fr.app N45 N48q
  have f49 := (f21.wr W29)
  obtain ⟨T50, X50, e50, st50⟩ := castY X48 hx hZ hown (w 223 rfl) E48 (Ins.self f49) (g := (mkF m 65 #[lR r0, lR b7, lR b12, lV vI1, lV vI1, lR r5] [(.ref r3)])) rfl rfl (hb hby d29_65)
  have n52 := Nat.ne_of_lt (Nat.lt_of_lt_of_le (Nat.lt_of_lt_of_le l51 zs31) (Nat.le_of_eq g12.symm))
  have f53 := (f24.other W29 (Or.inl n52))
  have f55 := (((f54.ext E7).ext E12).wr W29)
  have n58 := Nat.ne_of_lt (Nat.lt_of_lt_of_le (Nat.lt_of_lt_of_le l57 zs31) (Nat.le_of_eq g12.symm))
  have f59 := (((f56.ext E7).ext E12).other W29 (Or.inl n58))
  have n62 := Nat.ne_of_lt (Nat.lt_of_lt_of_le (Nat.lt_of_lt_of_le l61 zs31) (Nat.le_of_eq g12.symm))
  have f63 := (((f60.ext E7).ext E12).other W29 n62)
  have f67 := (((f66.ext E7).ext E12).other W29 (Or.inl n58))
  have f69 := (((f68.ext E7).ext E12).wr W29)
  have n72 := Nat.ne_of_lt (Nat.lt_of_lt_of_le (Nat.lt_of_lt_of_le l71 zs31) (Nat.le_of_eq g12.symm))
  have f73 := (((f70.ext E7).ext E12).other W29 (Or.inl n72))
  have n76 := Nat.ne_of_lt (Nat.lt_of_lt_of_le (Nat.lt_of_lt_of_le l75 zs31) (Nat.le_of_eq g12.symm))
  have f77 := (((f74.ext E7).ext E12).other W29 n76)
  have f79 := (((f78.ext E7).ext E12).other W29 (Or.inl n72))
  obtain ⟨_, T81, Lc81, X81, hQ81, st81⟩ := own_cV X50 hx hZ hown e50 (rm48_1 l Z a0 hw [] r3 r5 r4 r6 c7 x8 x9 r10 c11 x12 h29 n0 o34 f53 f55 f59 f63 f64 hc65 f67 f69 f73 f77 f79 hc80) f49 (w 319 rfl) (w 320 rfl) (w 322 rfl) (w 321 rfl) (w 323 rfl) (w 28 rfl) (by decide) (W := 0) (by decide) (by decide) (by decide) (by decide) (g := (mkF m 70 #[lR r0, lR b7, lR b12, lV vI1, lV vI1, lR r5] [(.ref r5), (.ref r3)])) rfl (by rw [hml]; rfl) (argsL := [(.ref r5)]) (rest := []) (lenOf pd__Ljava_lang_String__Z rfl) rfl (own_W rfl) (hb hby d29_70)
  obtain ⟨rfl, N81q, E81⟩ := hQ81
  have N81 := Fr.app N48 N81q
  obtain ⟨clq82, Arq82, qq82, Sq82, Nq82, Hq82, Gq82⟩ := id V29
  obtain ⟨T83, h83, X83, e83, W83, st83⟩ := stI X81 hx hZ E81 Arq82 (j := (1 : Int32)) (inb_of Sq82 ⟨(by decide : ¬ ((1 : Int32) < (0 : Int32))), (by decide : (1 : Int32) < (2 : Int32))⟩) (g := (mkF m 93 #[lR r0, lR b7, lR b12, lV vI1, lV vI1, lR r5] [vI1, vI1, (.ref b12)])) rfl rfl (hb hby d29_93)
  have V83 : Arv Z h83 b12 k12 .int (2 : Int32) [vI0, vI1] vI0 := Arv.set Arq82 qq82 Sq82 Nq82 Hq82 Gq82 rfl W83 1 rfl (Nat.le_of_ble_eq_true rfl)
  have N83 := Fr.snoc X83 N81 g28
  have f84 := (f33.other W83 (Or.inl n32))
  have o85 := Old.wr o34 W83 g28
  have f87 := (f36.wr W83)
  obtain ⟨_, T86, Lc86, X86, hQ86, st86⟩ := own_cI (xi := mN32) X83 hx hZ hown e83 (rm30_2 l Z a0 hw [] r0 r1 r2 h83 n0 o85 f84 f3 f4 g5) f87 (w 205 rfl) (w 206 rfl) (w 207 rfl) (w 208 rfl) (w 209 rfl) (w 210 rfl) (w 211 rfl) (w 212 rfl) (w 213 rfl) (w 172 rfl) (by decide) (W := 1) (by decide) (by decide) (by decide) (by decide) (g := (mkF m 26 #[lR r0, lR b7, lR b12, lV vI2, lV vI2, lR r5] [(.ref r0), vI2])) rfl (by rw [hml]; rfl) (argsL := []) (rest := [vI2]) (lenOf pd___I rfl) rfl (own_W rfl) (hb hby d29_26)
  obtain ⟨rfl, N86q, E86⟩ := hQ86
  have N86 := Fr.app N83 N86q
  obtain ⟨clq88, Arq88, qq88, Sq88, Nq88, Hq88, Gq88⟩ := id V83
  obtain ⟨_, T89, Lc89, X89, hQ89, st89⟩ := own_cI (xi := mN32) X86 hx hZ hown E86 (rm30_2 l Z a0 hw [] r0 r1 r2 h83 n0 o85 f84 f3 f4 g5) f87 (w 205 rfl) (w 206 rfl) (w 207 rfl) (w 208 rfl) (w 209 rfl) (w 210 rfl) (w 211 rfl) (w 212 rfl) (w 213 rfl) (w 172 rfl) (by decide) (W := 2) (by decide) (by decide) (by decide) (by decide) (g := (mkF m 115 #[lR r0, lR b7, lR b12, lV vI1, lV vI2, lR r5] [(.ref r0), vI1, (.ref b7)])) rfl (by rw [hml]; rfl) (argsL := []) (rest := [vI1, (.ref b7)]) (lenOf pd___I rfl) rfl (own_W rfl) (hb hby d29_115)
  obtain ⟨rfl, N89q, E89⟩ := hQ89
  have N89 := Fr.app N86 N89q
  have n90 := Nat.ne_of_lt (Nat.lt_of_lt_of_le V7.lt (Nat.le_of_eq g12.symm))
  have f91 := (((V7.ext E12).other W29 n90).other W83 n90)
  obtain ⟨clq92, Arq92, qq92, Sq92, Nq92, Hq92, Gq92⟩ := id f91
  have zz93 : n0 ≤ h0.size := by rw [← O0.1]; exact O0.2.1
  have g94 := Nat.le_trans zz93 (Nat.le_of_eq g7.symm)
  obtain ⟨T95, h95, X95, e95, W95, st95⟩ := stI X89 hx hZ E89 Arq92 (j := (1 : Int32)) (inb_of Sq92 ⟨(by decide : ¬ ((1 : Int32) < (0 : Int32))), (by decide : (1 : Int32) < (2 : Int32))⟩) (g := (mkF m 120 #[lR r0, lR b7, lR b12, lV vI1, lV vI2, lR r5] [vI2, vI1, (.ref b7)])) rfl rfl (hb hby d29_120)
  have V95 : Arv Z h95 b7 k7 .int (2 : Int32) [vI0, vI2] vI0 := Arv.set Arq92 qq92 Sq92 Nq92 Hq92 Gq92 rfl W95 1 rfl (Nat.le_of_ble_eq_true rfl)
  have N95 := Fr.snoc X95 N89 g94
  have f96 := (V83.other W95 (Ne.symm n90))
  obtain ⟨clq97, Arq97, qq97, Sq97, Nq97, Hq97, Gq97⟩ := id f96
  have n98 := Nat.ne_of_lt (Nat.lt_of_lt_of_le l30 (Nat.le_of_eq g7.symm))
  have f99 := (f84.other W95 (Or.inl n98))
  have o100 := Old.wr o85 W95 g94
  have f102 := (f87.wr W95)
  obtain ⟨_, T101, Lc101, X101, hQ101, st101⟩ := own_cI (xi := mN32) X95 hx hZ hown e95 (rm30_2 l Z a0 hw [] r0 r1 r2 h95 n0 o100 f99 f3 f4 g5) f102 (w 205 rfl) (w 206 rfl) (w 207 rfl) (w 208 rfl) (w 209 rfl) (w 210 rfl) (w 211 rfl) (w 212 rfl) (w 213 rfl) (w 172 rfl) (by decide) (W := 2) (by decide) (by decide) (by decide) (by decide) (g := (mkF m 115 #[lR r0, lR b7, lR b12, lV vI0, lV vI2, lR r5] [(.ref r0), vI0, (.ref b7)])) rfl (by rw [hml]; rfl) (argsL := []) (rest := [vI0, (.ref b7)]) (lenOf pd___I rfl) rfl (own_W rfl) (hb hby d29_115)
  obtain ⟨rfl, N101q, E101⟩ := hQ101
  have N101 := Fr.app N95 N101q
  obtain ⟨clq103, Arq103, qq103, Sq103, Nq103, Hq103, Gq103⟩ := id V95
  obtain ⟨T104, h104, X104, e104, W104, st104⟩ := stI X101 hx hZ E101 Arq103 (j := (0 : Int32)) (inb_of Sq103 ⟨(by decide : ¬ ((0 : Int32) < (0 : Int32))), (by decide : (0 : Int32) < (2 : Int32))⟩) (g := (mkF m 120 #[lR r0, lR b7, lR b12, lV vI0, lV vI2, lR r5] [vI2, vI0, (.ref b7)])) rfl rfl (hb hby d29_120)
  have V104 : Arv Z h104 b7 k7 .int (2 : Int32) [vI2, vI2] vI0 := Arv.set Arq103 qq103 Sq103 Nq103 Hq103 Gq103 rfl W104 0 rfl (Nat.le_of_ble_eq_true rfl)
  have N104 := Fr.snoc X104 N101 g94
  have f105 := (((((B7.ext E12).wr W29).wr W83).wr W95).wr W104)
  have kp106 : Keep h0 h7 [] := (Keep.refl h0 []).ext E7
  have kp107 : Keep h0 h12 [] := kp106.ext E12
  have kp108 : Keep h0 h29 [] := kp107.wr W29 (Or.inr (Nat.le_trans zs31 (Nat.le_of_eq g12.symm)))
  have kp109 : Keep h0 h83 [] := kp108.wr W83 (Or.inr (Nat.le_trans zs31 (Nat.le_of_eq g12.symm)))
  have kp110 : Keep h0 h95 [] := kp109.wr W95 (Or.inr (Nat.le_of_eq g7.symm))
  have kp111 : Keep h0 h104 [] := kp110.wr W104 (Or.inr (Nat.le_of_eq g7.symm))
  refine ⟨some (.ref b7), _, _, _, _, nofun, X104, by decide, by decide, ?_, fun fs hr => ?_⟩
  · rw [e104]; exact ⟨b7, k7, rfl, N104, kp111, (Nat.le_of_eq g7.symm), V104, f105⟩
  · show SG p e below s₁ (mkF m 0 #[lR r0, lU, lU, lU, lU, lU] []) _
    refine qaN X0 hx hby d29_0 ?_
    refine st6 _ ?_
    refine st7 _ ?_
    refine XS.astoreN X7.here hx rfl (hb hby d29_8) rfl rfl (l' := #[lR r0, lR b7, lU, lU, lU, lU]) rfl ?_
    refine qaN X7 hx hby d29_9 ?_
    refine st10 _ ?_
    refine st12 _ ?_
    refine XS.astoreN X12.here hx rfl (hb hby d29_17) rfl rfl (l' := #[lR r0, lR b7, lR b12, lU, lU, lU]) rfl ?_
    refine qc X12 hx hby d29_18 ?_
    refine XS.istoreN X12.here hx rfl (hb hby d29_19) rfl (l' := #[lR r0, lR b7, lR b12, lV vI0, lU, lU]) rfl ?_
    show SG p e below T12 (mkF m 20 #[lR r0, lR b7, lR b12, lV vI0, lU, lU] []) _
    refine qc X12 hx hby d29_20 ?_
    refine XS.istore X12.here hx rfl (hb hby d29_21) rfl (l' := #[lR r0, lR b7, lR b12, lV vI0, lV vI0, lU]) rfl ?_
    refine qi X12 hx hby d29_23 ?_
    refine qaN X12 hx hby d29_25 ?_
    refine st15 _ ?_
    refine XS.icmpNo X15.here hx rfl (hb hby d29_31) rfl (tlt (by decide : (0 : Int32) < (2 : Int32))).2.1 ?_
    refine qaN X15 hx hby d29_34 ?_
    refine qi X15 hx hby d29_35 ?_
    refine st19 _ ?_
    refine st22 _ ?_
    show SG p e below T22 (mkF m 45 #[lR r0, lR b7, lR b12, lV vI0, lV vI0, lU] [(.ref r3)]) _
    refine st25 _ ?_
    refine XS.astore X25.here hx rfl (hb hby d29_48) rfl rfl (l' := #[lR r0, lR b7, lR b12, lV vI0, lV vI0, lR r4]) rfl ?_
    refine qiN X25 hx hby d29_50 ?_
    refine XS.ifYes X25.here hx rfl (pc0 := 51) (pc' := 89) rfl (hb hby d29_51) rfl ((if0 _ _).trans (flt (by decide : ¬ ((0 : Int32) < (0 : Int32)))).2.2.2) (by decide) (by decide) ?_
    refine qaN X25 hx hby d29_89 ?_
    refine qiN X25 hx hby d29_90 ?_
    refine qi X25 hx hby d29_91 ?_
    refine st29 _ ?_
    refine XS.iinc X29.here hx rfl (hb hby d29_94) rfl (l' := #[lR r0, lR b7, lR b12, lV vI1, lV vI0, lR r4]) rfl ?_
    refine XS.iinc X29.here hx rfl (hb hby d29_97) rfl (l' := #[lR r0, lR b7, lR b12, lV vI1, lV vI1, lR r4]) rfl ?_
    show SG p e below T29 (mkF m 100 #[lR r0, lR b7, lR b12, lV vI1, lV vI1, lR r4] []) _
    refine XS.goto X29.here hx rfl (pc0 := 100) (pc' := 23) rfl (hb hby d29_100) (by decide) (by decide) ?_
    refine qi X29 hx hby d29_23 ?_
    refine qaN X29 hx hby d29_25 ?_
    refine st35 _ ?_
    refine XS.icmpNo X35.here hx rfl (hb hby d29_31) rfl (tlt (by decide : (1 : Int32) < (2 : Int32))).2.1 ?_
    refine qaN X35 hx hby d29_34 ?_
    refine qi X35 hx hby d29_35 ?_
    refine st37 _ ?_
    refine st40 _ ?_
    refine st45 _ ?_
    show SG p e below T45 (mkF m 48 #[lR r0, lR b7, lR b12, lV vI1, lV vI1, lR r4] [(.ref r5)]) _
    refine XS.astore X45.here hx rfl (hb hby d29_48) rfl rfl (l' := #[lR r0, lR b7, lR b12, lV vI1, lV vI1, lR r5]) rfl ?_
    refine qiN X45 hx hby d29_50 ?_
    refine XS.ifNo X45.here hx rfl (hb hby d29_51) rfl ((if0 _ _).trans (tlt (by decide : (0 : Int32) < (1 : Int32))).2.2.2) ?_
    refine qaN X45 hx hby d29_54 ?_
    refine qaN X45 hx hby d29_55 ?_
    refine qiN X45 hx hby d29_56 ?_
    refine qc X45 hx hby d29_57 ?_
    refine XS.isub X45.here hx rfl (hb hby d29_58) rfl ?_
    refine X45.iaload hx (j := (0 : Int32)) (v := vI0) (by rw [E45]; exact Arq46.1) (State.isArrayOf_alike hZ.alike Arq46.2.1) Arq46.2.2 (inb_of Sq46 ⟨(by decide : ¬ ((0 : Int32) < (0 : Int32))), (by decide : (0 : Int32) < (2 : Int32))⟩) (Has.at Hq46 (inb_of Sq46 ⟨(by decide : ¬ ((0 : Int32) < (0 : Int32))), (by decide : (0 : Int32) < (2 : Int32))⟩) rfl) (g := (mkF m 59 #[lR r0, lR b7, lR b12, lV vI1, lV vI1, lR r5] [vI0, (.ref b12), (.ref r0)])) rfl rfl (hb hby d29_59) _ ?_
    refine st48 _ ?_
    show SG p e below T48 (mkF m 65 #[lR r0, lR b7, lR b12, lV vI1, lV vI1, lR r5] [(.ref r3)]) _
    refine st50 _ ?_
    refine qa X50 hx hby d29_68 ?_
    refine st81 _ ?_
    refine XS.ifYes X81.here hx rfl (pc0 := 73) (pc' := 89) rfl (hb hby d29_73) rfl ((if0 _ _).trans (feq (by decide : ¬ ((1 : Int32) = (0 : Int32)))).2) (by decide) (by decide) ?_
    refine qaN X81 hx hby d29_89 ?_
    refine qiN X81 hx hby d29_90 ?_
    refine qi X81 hx hby d29_91 ?_
    refine st83 _ ?_
    refine XS.iinc X83.here hx rfl (hb hby d29_94) rfl (l' := #[lR r0, lR b7, lR b12, lV vI2, lV vI1, lR r5]) rfl ?_
    refine XS.iinc X83.here hx rfl (hb hby d29_97) rfl (l' := #[lR r0, lR b7, lR b12, lV vI2, lV vI2, lR r5]) rfl ?_
    show SG p e below T83 (mkF m 100 #[lR r0, lR b7, lR b12, lV vI2, lV vI2, lR r5] []) _
    refine XS.goto X83.here hx rfl (pc0 := 100) (pc' := 23) rfl (hb hby d29_100) (by decide) (by decide) ?_
    refine qi X83 hx hby d29_23 ?_
    refine qaN X83 hx hby d29_25 ?_
    refine st86 _ ?_
    refine XS.icmpYes X86.here hx rfl (pc0 := 31) (pc' := 103) rfl (hb hby d29_31) rfl (flt (by decide : ¬ ((2 : Int32) < (2 : Int32)))).2.1 (by decide) (by decide) ?_
    refine qiN X86 hx hby d29_103 ?_
    refine XS.ifNo X86.here hx rfl (hb hby d29_104) rfl ((if0 _ _).trans (tlt (by decide : (0 : Int32) < (2 : Int32))).2.2.2) ?_
    refine XS.iinc X86.here hx rfl (hb hby d29_107) rfl (l' := #[lR r0, lR b7, lR b12, lV vI1, lV vI2, lR r5]) rfl ?_
    refine qaN X86 hx hby d29_110 ?_
    refine qaN X86 hx hby d29_111 ?_
    show SG p e below T86 (mkF m 112 #[lR r0, lR b7, lR b12, lV vI1, lV vI2, lR r5] [(.ref b12), (.ref b7)]) _
    refine qiN X86 hx hby d29_112 ?_
    refine X86.iaload hx (j := (1 : Int32)) (v := vI1) (by rw [E86]; exact Arq88.1) (State.isArrayOf_alike hZ.alike Arq88.2.1) Arq88.2.2 (inb_of Sq88 ⟨(by decide : ¬ ((1 : Int32) < (0 : Int32))), (by decide : (1 : Int32) < (2 : Int32))⟩) (Has.at Hq88 (inb_of Sq88 ⟨(by decide : ¬ ((1 : Int32) < (0 : Int32))), (by decide : (1 : Int32) < (2 : Int32))⟩) rfl) (g := (mkF m 113 #[lR r0, lR b7, lR b12, lV vI1, lV vI2, lR r5] [vI1, (.ref b12), (.ref b7)])) rfl rfl (hb hby d29_113) _ ?_
    refine qaN X86 hx hby d29_114 ?_
    refine st89 _ ?_
    refine st95 _ ?_
    refine XS.goto X95.here hx rfl (pc0 := 121) (pc' := 103) rfl (hb hby d29_121) (by decide) (by decide) ?_
    refine qiN X95 hx hby d29_103 ?_
    refine XS.ifNo X95.here hx rfl (hb hby d29_104) rfl ((if0 _ _).trans (tlt (by decide : (0 : Int32) < (1 : Int32))).2.2.2) ?_
    refine XS.iinc X95.here hx rfl (hb hby d29_107) rfl (l' := #[lR r0, lR b7, lR b12, lV vI0, lV vI2, lR r5]) rfl ?_
    refine qaN X95 hx hby d29_110 ?_
    show SG p e below T95 (mkF m 111 #[lR r0, lR b7, lR b12, lV vI0, lV vI2, lR r5] [(.ref b7)]) _
    refine qaN X95 hx hby d29_111 ?_
    refine qiN X95 hx hby d29_112 ?_
    refine X95.iaload hx (j := (0 : Int32)) (v := vI0) (by rw [e95]; exact Arq97.1) (State.isArrayOf_alike hZ.alike Arq97.2.1) Arq97.2.2 (inb_of Sq97 ⟨(by decide : ¬ ((0 : Int32) < (0 : Int32))), (by decide : (0 : Int32) < (2 : Int32))⟩) (Has.at Hq97 (inb_of Sq97 ⟨(by decide : ¬ ((0 : Int32) < (0 : Int32))), (by decide : (0 : Int32) < (2 : Int32))⟩) rfl) (g := (mkF m 113 #[lR r0, lR b7, lR b12, lV vI0, lV vI2, lR r5] [vI0, (.ref b12), (.ref b7)])) rfl rfl (hb hby d29_113) _ ?_
    refine qaN X95 hx hby d29_114 ?_
    refine st101 _ ?_
    refine st104 _ ?_
    refine XS.goto X104.here hx rfl (pc0 := 121) (pc' := 103) rfl (hb hby d29_121) (by decide) (by decide) ?_
    refine qiN X104 hx hby d29_103 ?_
    refine XS.ifYes X104.here hx rfl (pc0 := 104) (pc' := 124) rfl (hb hby d29_104) rfl ((if0 _ _).trans (flt (by decide : ¬ ((0 : Int32) < (0 : Int32)))).2.2.2) (by decide) (by decide) ?_
    refine qaN X104 hx hby d29_124 ?_
    show SG p e below T104 (mkF m 125 #[lR r0, lR b7, lR b12, lV vI0, lV vI2, lR r5] [(.ref b7)]) _
    exact retOut X104 hx (i := .areturn) hret rfl (Or.inr (Or.inr (Or.inr (Or.inr ⟨rfl, rfl, rfl⟩)))) (hb hby d29_125) hr
def Q29_4 (Z : State)  (h0 : Heap) (n0 : Nat) (v : Option Value) (h : Heap) (L : List Loc) : Prop := ∃ (b7 : Addr) (k7 : ClassId), v = some (.ref b7) ∧ Fr n0 L ∧ Keep h0 h [] ∧ h0.size ≤ b7 ∧ Arv Z h b7 k7 .int (2 : Int32) [vI1, vI2] vI0 ∧ Exa Z h b7 "[I"
theorem rm29_4 (l : Launch) (Z : State) (a0 : Array Value) (hw : own_HW a0 Z) (ws : List Jvm.Cond) (r0 r1 : Addr) (r2 r3 : Addr) (r4 r5 r6 : Addr) (c7 : ClassId) (x8 x9 : Int32) (r10 : Addr) (c11 : ClassId) (x12 : Int32) (h0 : Heap) (n0 : Nat) (O0 : Old Z n0 h0) (f1 : Exa Z h0 r0 cs7) (f2 : Fld Z h0 r0 cs7 "e1" "Ljava/lang/Object;" (.ref r1)) (f3 : Sta Z Z.heap cs8 "EMPTY" "Ljava/lang/Object;" (.ref r2)) (f4 : Exa Z Z.heap r2 "java/lang/Object") (g5 : n0 ≤ r1) (f17 : Fld Z h0 r0 cs7 "e0" "Ljava/lang/Object;" (.ref r3)) (f20 : Exa Z h0 r3 cs0) (f23 : Fld Z h0 r3 cs0 "path" "Ljava/lang/String;" (.ref r4)) (l30 : r0 < h0.size) (f38 : Exa Z h0 r1 cs0) (f41 : Fld Z h0 r1 cs0 "path" "Ljava/lang/String;" (.ref r5)) (l42 : r1 < h0.size) (l51 : r3 < h0.size) (f54 : Exa Z h0 r5 "java/lang/String") (f56 : Fld Z h0 r5 "java/lang/String" "value" "[B" (.ref r6)) (l57 : r5 < h0.size) (f60 : Arv Z h0 r6 c7 .byte (1 : Int32) [(.int x8)] vI0) (l61 : r6 < h0.size) (f64 : Sta Z Z.heap "java/lang/String" "COMPACT_STRINGS" "Z" (.int x9)) (hc65 : ¬ (x9 = (0 : Int32))) (f66 : Fld Z h0 r5 "java/lang/String" "coder" "B" vI0) (f68 : Exa Z h0 r4 "java/lang/String") (f70 : Fld Z h0 r4 "java/lang/String" "value" "[B" (.ref r10)) (l71 : r4 < h0.size) (f74 : Arv Z h0 r10 c11 .byte (1 : Int32) [(.int x12)] vI0) (l75 : r10 < h0.size) (f78 : Fld Z h0 r4 "java/lang/String" "coder" "B" vI0) (hc80 : ¬ (x8 = x12)) :
    own_MF l mN31 prog_2_method_12_code 6 (some (.array .int)) ws rR5_2_4_72 Z h0 #[(.ref r0)] (Q29_4 Z  h0 n0) := by
  refine own_open (plainFor_of_name pn_com_example_nearmiss_nearmiss_Document) (L0 := #[lR r0, lU, lU, lU, lU, lU]) (fun _ => by first | (simp [entryFrame, mkF, argsToLocals, Value.category]; done) | rfl) ?_
  intro p e s m below meth c s₁ hx hby hml hret hnn hZ hown X0 e0
  have N0 := Fr.nil n0; have w := @ww Z a0 hw
  obtain ⟨_, T6, Lc6, X6, hQ6, st6⟩ := own_cI (xi := mN32) X0 hx hZ hown e0 (rm30_2 l Z a0 hw [] r0 r1 r2 h0 n0 O0 f2 f3 f4 g5) f1 (w 205 rfl) (w 206 rfl) (w 207 rfl) (w 208 rfl) (w 209 rfl) (w 210 rfl) (w 211 rfl) (w 212 rfl) (w 213 rfl) (w 172 rfl) (by decide) (W := 0) (by decide) (by decide) (by decide) (by decide) (g := (mkF m 1 #[lR r0, lU, lU, lU, lU, lU] [(.ref r0)])) rfl (by rw [hml]; rfl) (argsL := []) (rest := []) (lenOf pd___I rfl) rfl (own_W rfl) (hb hby d29_1)
  obtain ⟨rfl, N6q, E6⟩ := hQ6
  have N6 := Fr.app N0 N6q
  obtain ⟨T7, h7, k7, X7, e7, E7, A7, B7, st7⟩ := newPE X6 hx hZ (w 214 rfl) E6 (g := (mkF m 6 #[lR r0, lU, lU, lU, lU, lU] [vI2])) rfl (hb hby d29_6) rfl (by decide) (cap := 2) (by decide) (by decide) (by decide) (by decide) (ad := "[I") rfl
  obtain ⟨b7, g7⟩ : ∃ z, z = h0.size := ⟨_, rfl⟩
  rw [← g7] at A7 B7 st7
  have V7 : Arv Z h7 b7 k7 .int (2 : Int32) [vI0, vI0] vI0 := (Arv.new A7 (by decide)).pad (pad_rep [] vI0 2)
  have f8 := (f2.ext E7)
  have o9 := Old.ext O0 E7
  have f11 := (f1.ext E7)
  obtain ⟨_, T10, Lc10, X10, hQ10, st10⟩ := own_cI (xi := mN32) X7 hx hZ hown e7 (rm30_2 l Z a0 hw [] r0 r1 r2 h7 n0 o9 f8 f3 f4 g5) f11 (w 205 rfl) (w 206 rfl) (w 207 rfl) (w 208 rfl) (w 209 rfl) (w 210 rfl) (w 211 rfl) (w 212 rfl) (w 213 rfl) (w 172 rfl) (by decide) (W := 0) (by decide) (by decide) (by decide) (by decide) (g := (mkF m 10 #[lR r0, lR b7, lU, lU, lU, lU] [(.ref r0)])) rfl (by rw [hml]; rfl) (argsL := []) (rest := []) (lenOf pd___I rfl) rfl (own_W rfl) (hb hby d29_10)
  obtain ⟨rfl, N10q, E10⟩ := hQ10
  have N10 := Fr.app N6 N10q
  obtain ⟨T12, h12, k12, X12, e12, E12, A12, B12, st12⟩ := newPE X10 hx hZ (w 214 rfl) E10 (g := (mkF m 15 #[lR r0, lR b7, lU, lU, lU, lU] [vI2])) rfl (hb hby d29_15) rfl (by decide) (cap := 2) (by decide) (by decide) (by decide) (by decide) (ad := "[I") rfl
  obtain ⟨b12, g12⟩ : ∃ z, z = h7.size := ⟨_, rfl⟩
  rw [← g12] at A12 B12 st12
  have V12 : Arv Z h12 b12 k12 .int (2 : Int32) [vI0, vI0] vI0 := (Arv.new A12 (by decide)).pad (pad_rep [] vI0 2)
  have f13 := (f8.ext E12)
  have o14 := Old.ext o9 E12
  have f16 := (f11.ext E12)
  obtain ⟨_, T15, Lc15, X15, hQ15, st15⟩ := own_cI (xi := mN32) X12 hx hZ hown e12 (rm30_2 l Z a0 hw [] r0 r1 r2 h12 n0 o14 f13 f3 f4 g5) f16 (w 205 rfl) (w 206 rfl) (w 207 rfl) (w 208 rfl) (w 209 rfl) (w 210 rfl) (w 211 rfl) (w 212 rfl) (w 213 rfl) (w 172 rfl) (by decide) (W := 1) (by decide) (by decide) (by decide) (by decide) (g := (mkF m 26 #[lR r0, lR b7, lR b12, lV vI0, lV vI0, lU] [(.ref r0), vI0])) rfl (by rw [hml]; rfl) (argsL := []) (rest := [vI0]) (lenOf pd___I rfl) rfl (own_W rfl) (hb hby d29_26)
  obtain ⟨rfl, N15q, E15⟩ := hQ15
  have N15 := Fr.app N10 N15q
  have f18 := ((f17.ext E7).ext E12)
  obtain ⟨_, T19, Lc19, X19, hQ19, st19⟩ := own_cI (xi := mN33) X15 hx hZ hown E15 (rm31_1 l Z a0 hw [] r0 r3 h12 n0 o14 f18) f16 (w 215 rfl) (w 216 rfl) (w 217 rfl) (w 218 rfl) (w 219 rfl) (w 220 rfl) (w 221 rfl) (w 212 rfl) (w 222 rfl) (w 172 rfl) (by decide) (W := 0) (by decide) (by decide) (by decide) (by decide) (g := (mkF m 37 #[lR r0, lR b7, lR b12, lV vI0, lV vI0, lU] [vI0, (.ref r0)])) rfl (by rw [hml]; rfl) (argsL := [vI0]) (rest := []) (lenOf pd__I_Ljava_lang_Object_ rfl) rfl (own_W rfl) (hb hby d29_37)
  obtain ⟨rfl, N19q, E19⟩ := hQ19
  have N19 := Fr.app N15 N19q
  have f21 := ((f20.ext E7).ext E12)
  obtain ⟨T22, X22, e22, st22⟩ := castY X19 hx hZ hown (w 223 rfl) E19 (Ins.self f21) (g := (mkF m 42 #[lR r0, lR b7, lR b12, lV vI0, lV vI0, lU] [(.ref r3)])) rfl rfl (hb hby d29_42)
  have f24 := ((f23.ext E7).ext E12)
  obtain ⟨_, T25, Lc25, X25, hQ25, st25⟩ := own_cV X22 hx hZ hown e22 (rm32_1 l Z a0 hw [] r3 r4 h12 n0 o14 f24) f21 (w 225 rfl) (w 226 rfl) (w 228 rfl) (w 227 rfl) (w 229 rfl) (w 28 rfl) (by decide) (W := 0) (by decide) (by decide) (by decide) (by decide) (g := (mkF m 45 #[lR r0, lR b7, lR b12, lV vI0, lV vI0, lU] [(.ref r3)])) rfl (by rw [hml]; rfl) (argsL := []) (rest := []) (lenOf pd___Ljava_lang_String_ rfl) rfl (own_W rfl) (hb hby d29_45)
  obtain ⟨rfl, N25q, E25⟩ := hQ25
  have N25 := Fr.app N19 N25q
  obtain ⟨clq26, Arq26, qq26, Sq26, Nq26, Hq26, Gq26⟩ := id V12
  have zz27 : n0 ≤ h7.size := by rw [← o9.1]; exact o9.2.1
  have g28 := Nat.le_trans zz27 (Nat.le_of_eq g12.symm)
  obtain ⟨T29, h29, X29, e29, W29, st29⟩ := stI X25 hx hZ E25 Arq26 (j := (0 : Int32)) (inb_of Sq26 ⟨(by decide : ¬ ((0 : Int32) < (0 : Int32))), (by decide : (0 : Int32) < (2 : Int32))⟩) (g := (mkF m 93 #[lR r0, lR b7, lR b12, lV vI0, lV vI0, lR r4] [vI0, vI0, (.ref b12)])) rfl rfl (hb hby d29_93)
  have V29 : Arv Z h29 b12 k12 .int (2 : Int32) [vI0, vI0] vI0 := Arv.set Arq26 qq26 Sq26 Nq26 Hq26 Gq26 rfl W29 0 rfl (Nat.le_of_ble_eq_true rfl)
  have N29 := Fr.snoc X29 N25 g28
  have zs31 := E7.1
  have n32 := Nat.ne_of_lt (Nat.lt_of_lt_of_le (Nat.lt_of_lt_of_le l30 zs31) (Nat.le_of_eq g12.symm))
  have f33 := (f13.other W29 (Or.inl n32))
  have o34 := Old.wr o14 W29 g28
  have f36 := (f16.wr W29)
  obtain ⟨_, T35, Lc35, X35, hQ35, st35⟩ := own_cI (xi := mN32) X29 hx hZ hown e29 (rm30_2 l Z a0 hw [] r0 r1 r2 h29 n0 o34 f33 f3 f4 g5) f36 (w 205 rfl) (w 206 rfl) (w 207 rfl) (w 208 rfl) (w 209 rfl) (w 210 rfl) (w 211 rfl) (w 212 rfl) (w 213 rfl) (w 172 rfl) (by decide) (W := 1) (by decide) (by decide) (by decide) (by decide) (g := (mkF m 26 #[lR r0, lR b7, lR b12, lV vI1, lV vI1, lR r4] [(.ref r0), vI1])) rfl (by rw [hml]; rfl) (argsL := []) (rest := [vI1]) (lenOf pd___I rfl) rfl (own_W rfl) (hb hby d29_26)
  obtain ⟨rfl, N35q, E35⟩ := hQ35
  have N35 := Fr.app N29 N35q
  obtain ⟨_, T37, Lc37, X37, hQ37, st37⟩ := own_cI (xi := mN33) X35 hx hZ hown E35 (rm31_2 l Z a0 hw [] r0 r1 r2 h29 n0 o34 f33 f3 f4 g5) f36 (w 215 rfl) (w 216 rfl) (w 217 rfl) (w 218 rfl) (w 219 rfl) (w 220 rfl) (w 221 rfl) (w 212 rfl) (w 222 rfl) (w 172 rfl) (by decide) (W := 0) (by decide) (by decide) (by decide) (by decide) (g := (mkF m 37 #[lR r0, lR b7, lR b12, lV vI1, lV vI1, lR r4] [vI1, (.ref r0)])) rfl (by rw [hml]; rfl) (argsL := [vI1]) (rest := []) (lenOf pd__I_Ljava_lang_Object_ rfl) rfl (own_W rfl) (hb hby d29_37)
  obtain ⟨rfl, N37q, E37⟩ := hQ37
  have N37 := Fr.app N35 N37q
  have f39 := (((f38.ext E7).ext E12).wr W29)
  obtain ⟨T40, X40, e40, st40⟩ := castY X37 hx hZ hown (w 223 rfl) E37 (Ins.self f39) (g := (mkF m 42 #[lR r0, lR b7, lR b12, lV vI1, lV vI1, lR r4] [(.ref r1)])) rfl rfl (hb hby d29_42)
  have n43 := Nat.ne_of_lt (Nat.lt_of_lt_of_le (Nat.lt_of_lt_of_le l42 zs31) (Nat.le_of_eq g12.symm))
  have f44 := (((f41.ext E7).ext E12).other W29 (Or.inl n43))
  obtain ⟨_, T45, Lc45, X45, hQ45, st45⟩ := own_cV X40 hx hZ hown e40 (rm32_1 l Z a0 hw [] r1 r5 h29 n0 o34 f44) f39 (w 225 rfl) (w 226 rfl) (w 228 rfl) (w 227 rfl) (w 229 rfl) (w 28 rfl) (by decide) (W := 0) (by decide) (by decide) (by decide) (by decide) (g := (mkF m 45 #[lR r0, lR b7, lR b12, lV vI1, lV vI1, lR r4] [(.ref r1)])) rfl (by rw [hml]; rfl) (argsL := []) (rest := []) (lenOf pd___Ljava_lang_String_ rfl) rfl (own_W rfl) (hb hby d29_45)
  obtain ⟨rfl, N45q, E45⟩ := hQ45
  have N45 := Fr.app N37 N45q
  obtain ⟨clq46, Arq46, qq46, Sq46, Nq46, Hq46, Gq46⟩ := id V29
  have f47 := (f18.other W29 (Or.inl n32))
  obtain ⟨_, T48, Lc48, X48, hQ48, st48⟩ := own_cI (xi := mN33) X45 hx hZ hown E45 (rm31_1 l Z a0 hw [] r0 r3 h29 n0 o34 f47) f36 (w 215 rfl) (w 216 rfl) (w 217 rfl) (w 218 rfl) (w 219 rfl) (w 220 rfl) (w 221 rfl) (w 212 rfl) (w 222 rfl) (w 172 rfl) (by decide) (W := 0) (by decide) (by decide) (by decide) (by decide) (g := (mkF m 60 #[lR r0, lR b7, lR b12, lV vI1, lV vI1, lR r5] [vI0, (.ref r0)])) rfl (by rw [hml]; rfl) (argsL := [vI0]) (rest := []) (lenOf pd__I_Ljava_lang_Object_ rfl) rfl (own_W rfl) (hb hby d29_60)
  obtain ⟨rfl, N48q, E48⟩ := hQ48
  have N48 := Fr.app N45 N48q
  have f49 := (f21.wr W29)
  obtain ⟨T50, X50, e50, st50⟩ := castY X48 hx hZ hown (w 223 rfl) E48 (Ins.self f49) (g := (mkF m 65 #[lR r0, lR b7, lR b12, lV vI1, lV vI1, lR r5] [(.ref r3)])) rfl rfl (hb hby d29_65)
  have n52 := Nat.ne_of_lt (Nat.lt_of_lt_of_le (Nat.lt_of_lt_of_le l51 zs31) (Nat.le_of_eq g12.symm))
  have f53 := (f24.other W29 (Or.inl n52))
  have f55 := (((f54.ext E7).ext E12).wr W29)
  have n58 := Nat.ne_of_lt (Nat.lt_of_lt_of_le (Nat.lt_of_lt_of_le l57 zs31) (Nat.le_of_eq g12.symm))
  have f59 := (((f56.ext E7).ext E12).other W29 (Or.inl n58))
  have n62 := Nat.ne_of_lt (Nat.lt_of_lt_of_le (Nat.lt_of_lt_of_le l61 zs31) (Nat.le_of_eq g12.symm))
  have f63 := (((f60.ext E7).ext E12).other W29 n62)
  have f67 := (((f66.ext E7).ext E12).other W29 (Or.inl n58))
  have f69 := (((f68.ext E7).ext E12).wr W29)
  have n72 := Nat.ne_of_lt (Nat.lt_of_lt_of_le (Nat.lt_of_lt_of_le l71 zs31) (Nat.le_of_eq g12.symm))
  have f73 := (((f70.ext E7).ext E12).other W29 (Or.inl n72))
  have n76 := Nat.ne_of_lt (Nat.lt_of_lt_of_le (Nat.lt_of_lt_of_le l75 zs31) (Nat.le_of_eq g12.symm))
  have f77 := (((f74.ext E7).ext E12).other W29 n76)
  have f79 := (((f78.ext E7).ext E12).other W29 (Or.inl n72))
  obtain ⟨_, T81, Lc81, X81, hQ81, st81⟩ := own_cV X50 hx hZ hown e50 (rm48_2 l Z a0 hw [] r3 r5 r4 r6 c7 x8 x9 r10 c11 x12 h29 n0 o34 f53 f55 f59 f63 f64 hc65 f67 f69 f73 f77 f79 hc80) f49 (w 319 rfl) (w 320 rfl) (w 322 rfl) (w 321 rfl) (w 323 rfl) (w 28 rfl) (by decide) (W := 0) (by decide) (by decide) (by decide) (by decide) (g := (mkF m 70 #[lR r0, lR b7, lR b12, lV vI1, lV vI1, lR r5] [(.ref r5), (.ref r3)])) rfl (by rw [hml]; rfl) (argsL := [(.ref r5)]) (rest := []) (lenOf pd__Ljava_lang_String__Z rfl) rfl (own_W rfl) (hb hby d29_70)
  obtain ⟨rfl, N81q, E81⟩ := hQ81
  have N81 := Fr.app N48 N81q
  obtain ⟨clq82, Arq82, qq82, Sq82, Nq82, Hq82, Gq82⟩ := id V29
  have n83 := Nat.ne_of_lt (Nat.lt_of_lt_of_le V7.lt (Nat.le_of_eq g12.symm))
  have f84 := ((V7.ext E12).other W29 n83)
  obtain ⟨clq85, Arq85, qq85, Sq85, Nq85, Hq85, Gq85⟩ := id f84
  have zz86 : n0 ≤ h0.size := by rw [← O0.1]; exact O0.2.1
  have g87 := Nat.le_trans zz86 (Nat.le_of_eq g7.symm)
  obtain ⟨T88, h88, X88, e88, W88, st88⟩ := stI X81 hx hZ E81 Arq85 (j := (0 : Int32)) (inb_of Sq85 ⟨(by decide : ¬ ((0 : Int32) < (0 : Int32))), (by decide : (0 : Int32) < (2 : Int32))⟩) (g := (mkF m 85 #[lR r0, lR b7, lR b12, lV vI0, lV vI1, lR r5] [vI1, vI0, (.ref b7)])) rfl rfl (hb hby d29_85)
  have V88 : Arv Z h88 b7 k7 .int (2 : Int32) [vI1, vI0] vI0 := Arv.set Arq85 qq85 Sq85 Nq85 Hq85 Gq85 rfl W88 0 rfl (Nat.le_of_ble_eq_true rfl)
  have N88 := Fr.snoc X88 N81 g87
  have f89 := (V29.other W88 (Ne.symm n83))
  obtain ⟨clq90, Arq90, qq90, Sq90, Nq90, Hq90, Gq90⟩ := id f89
  obtain ⟨T91, h91, X91, e91, W91, st91⟩ := stI X88 hx hZ e88 Arq90 (j := (0 : Int32)) (inb_of Sq90 ⟨(by decide : ¬ ((0 : Int32) < (0 : Int32))), (by decide : (0 : Int32) < (2 : Int32))⟩) (g := (mkF m 93 #[lR r0, lR b7, lR b12, lV vI0, lV vI1, lR r5] [vI1, vI0, (.ref b12)])) rfl rfl (hb hby d29_93)
  have V91 : Arv Z h91 b12 k12 .int (2 : Int32) [vI1, vI0] vI0 := Arv.set Arq90 qq90 Sq90 Nq90 Hq90 Gq90 rfl W91 0 rfl (Nat.le_of_ble_eq_true rfl)
  have N91 := Fr.snoc X91 N88 g28
  have n92 := Nat.ne_of_lt (Nat.lt_of_lt_of_le l30 (Nat.le_of_eq g7.symm))
  have f93 := ((f33.other W88 (Or.inl n92)).other W91 (Or.inl n32))
  have o94 := Old.wr o34 W88 g87
  have o95 := Old.wr o94 W91 g28
  have f97 := ((f36.wr W88).wr W91)
  obtain ⟨_, T96, Lc96, X96, hQ96, st96⟩ := own_cI (xi := mN32) X91 hx hZ hown e91 (rm30_2 l Z a0 hw [] r0 r1 r2 h91 n0 o95 f93 f3 f4 g5) f97 (w 205 rfl) (w 206 rfl) (w 207 rfl) (w 208 rfl) (w 209 rfl) (w 210 rfl) (w 211 rfl) (w 212 rfl) (w 213 rfl) (w 172 rfl) (by decide) (W := 1) (by decide) (by decide) (by decide) (by decide) (g := (mkF m 26 #[lR r0, lR b7, lR b12, lV vI1, lV vI2, lR r5] [(.ref r0), vI2])) rfl (by rw [hml]; rfl) (argsL := []) (rest := [vI2]) (lenOf pd___I rfl) rfl (own_W rfl) (hb hby d29_26)
  obtain ⟨rfl, N96q, E96⟩ := hQ96
  have N96 := Fr.app N91 N96q
  obtain ⟨clq98, Arq98, qq98, Sq98, Nq98, Hq98, Gq98⟩ := id V91
  obtain ⟨_, T99, Lc99, X99, hQ99, st99⟩ := own_cI (xi := mN32) X96 hx hZ hown E96 (rm30_2 l Z a0 hw [] r0 r1 r2 h91 n0 o95 f93 f3 f4 g5) f97 (w 205 rfl) (w 206 rfl) (w 207 rfl) (w 208 rfl) (w 209 rfl) (w 210 rfl) (w 211 rfl) (w 212 rfl) (w 213 rfl) (w 172 rfl) (by decide) (W := 2) (by decide) (by decide) (by decide) (by decide) (g := (mkF m 115 #[lR r0, lR b7, lR b12, lV vI0, lV vI2, lR r5] [(.ref r0), vI1, (.ref b7)])) rfl (by rw [hml]; rfl) (argsL := []) (rest := [vI1, (.ref b7)]) (lenOf pd___I rfl) rfl (own_W rfl) (hb hby d29_115)
  obtain ⟨rfl, N99q, E99⟩ := hQ99
  have N99 := Fr.app N96 N99q
  have f100 := (V88.other W91 n83)
  obtain ⟨clq101, Arq101, qq101, Sq101, Nq101, Hq101, Gq101⟩ := id f100
  obtain ⟨T102, h102, X102, e102, W102, st102⟩ := stI X99 hx hZ E99 Arq101 (j := (1 : Int32)) (inb_of Sq101 ⟨(by decide : ¬ ((1 : Int32) < (0 : Int32))), (by decide : (1 : Int32) < (2 : Int32))⟩) (g := (mkF m 120 #[lR r0, lR b7, lR b12, lV vI0, lV vI2, lR r5] [vI2, vI1, (.ref b7)])) rfl rfl (hb hby d29_120)
  have V102 : Arv Z h102 b7 k7 .int (2 : Int32) [vI1, vI2] vI0 := Arv.set Arq101 qq101 Sq101 Nq101 Hq101 Gq101 rfl W102 1 rfl (Nat.le_of_ble_eq_true rfl)
  have N102 := Fr.snoc X102 N99 g87
  have f103 := (((((B7.ext E12).wr W29).wr W88).wr W91).wr W102)
  have kp104 : Keep h0 h7 [] := (Keep.refl h0 []).ext E7
  have kp105 : Keep h0 h12 [] := kp104.ext E12
  have kp106 : Keep h0 h29 [] := kp105.wr W29 (Or.inr (Nat.le_trans zs31 (Nat.le_of_eq g12.symm)))
  have kp107 : Keep h0 h88 [] := kp106.wr W88 (Or.inr (Nat.le_of_eq g7.symm))
  have kp108 : Keep h0 h91 [] := kp107.wr W91 (Or.inr (Nat.le_trans zs31 (Nat.le_of_eq g12.symm)))
  have kp109 : Keep h0 h102 [] := kp108.wr W102 (Or.inr (Nat.le_of_eq g7.symm))
  refine ⟨some (.ref b7), _, _, _, _, nofun, X102, by decide, by decide, ?_, fun fs hr => ?_⟩
  · rw [e102]; exact ⟨b7, k7, rfl, N102, kp109, (Nat.le_of_eq g7.symm), V102, f103⟩
  · show SG p e below s₁ (mkF m 0 #[lR r0, lU, lU, lU, lU, lU] []) _
    refine qaN X0 hx hby d29_0 ?_
    refine st6 _ ?_
    refine st7 _ ?_
    refine XS.astoreN X7.here hx rfl (hb hby d29_8) rfl rfl (l' := #[lR r0, lR b7, lU, lU, lU, lU]) rfl ?_
    refine qaN X7 hx hby d29_9 ?_
    refine st10 _ ?_
    refine st12 _ ?_
    refine XS.astoreN X12.here hx rfl (hb hby d29_17) rfl rfl (l' := #[lR r0, lR b7, lR b12, lU, lU, lU]) rfl ?_
    refine qc X12 hx hby d29_18 ?_
    refine XS.istoreN X12.here hx rfl (hb hby d29_19) rfl (l' := #[lR r0, lR b7, lR b12, lV vI0, lU, lU]) rfl ?_
    show SG p e below T12 (mkF m 20 #[lR r0, lR b7, lR b12, lV vI0, lU, lU] []) _
    refine qc X12 hx hby d29_20 ?_
    refine XS.istore X12.here hx rfl (hb hby d29_21) rfl (l' := #[lR r0, lR b7, lR b12, lV vI0, lV vI0, lU]) rfl ?_
    refine qi X12 hx hby d29_23 ?_
    refine qaN X12 hx hby d29_25 ?_
    refine st15 _ ?_
    refine XS.icmpNo X15.here hx rfl (hb hby d29_31) rfl (tlt (by decide : (0 : Int32) < (2 : Int32))).2.1 ?_
    refine qaN X15 hx hby d29_34 ?_
    refine qi X15 hx hby d29_35 ?_
    refine st19 _ ?_
    refine st22 _ ?_
    show SG p e below T22 (mkF m 45 #[lR r0, lR b7, lR b12, lV vI0, lV vI0, lU] [(.ref r3)]) _
    refine st25 _ ?_
    refine XS.astore X25.here hx rfl (hb hby d29_48) rfl rfl (l' := #[lR r0, lR b7, lR b12, lV vI0, lV vI0, lR r4]) rfl ?_
    refine qiN X25 hx hby d29_50 ?_
    refine XS.ifYes X25.here hx rfl (pc0 := 51) (pc' := 89) rfl (hb hby d29_51) rfl ((if0 _ _).trans (flt (by decide : ¬ ((0 : Int32) < (0 : Int32)))).2.2.2) (by decide) (by decide) ?_
    refine qaN X25 hx hby d29_89 ?_
    refine qiN X25 hx hby d29_90 ?_
    refine qi X25 hx hby d29_91 ?_
    refine st29 _ ?_
    refine XS.iinc X29.here hx rfl (hb hby d29_94) rfl (l' := #[lR r0, lR b7, lR b12, lV vI1, lV vI0, lR r4]) rfl ?_
    refine XS.iinc X29.here hx rfl (hb hby d29_97) rfl (l' := #[lR r0, lR b7, lR b12, lV vI1, lV vI1, lR r4]) rfl ?_
    show SG p e below T29 (mkF m 100 #[lR r0, lR b7, lR b12, lV vI1, lV vI1, lR r4] []) _
    refine XS.goto X29.here hx rfl (pc0 := 100) (pc' := 23) rfl (hb hby d29_100) (by decide) (by decide) ?_
    refine qi X29 hx hby d29_23 ?_
    refine qaN X29 hx hby d29_25 ?_
    refine st35 _ ?_
    refine XS.icmpNo X35.here hx rfl (hb hby d29_31) rfl (tlt (by decide : (1 : Int32) < (2 : Int32))).2.1 ?_
    refine qaN X35 hx hby d29_34 ?_
    refine qi X35 hx hby d29_35 ?_
    refine st37 _ ?_
    refine st40 _ ?_
    refine st45 _ ?_
    show SG p e below T45 (mkF m 48 #[lR r0, lR b7, lR b12, lV vI1, lV vI1, lR r4] [(.ref r5)]) _
    refine XS.astore X45.here hx rfl (hb hby d29_48) rfl rfl (l' := #[lR r0, lR b7, lR b12, lV vI1, lV vI1, lR r5]) rfl ?_
    refine qiN X45 hx hby d29_50 ?_
    refine XS.ifNo X45.here hx rfl (hb hby d29_51) rfl ((if0 _ _).trans (tlt (by decide : (0 : Int32) < (1 : Int32))).2.2.2) ?_
    refine qaN X45 hx hby d29_54 ?_
    refine qaN X45 hx hby d29_55 ?_
    refine qiN X45 hx hby d29_56 ?_
    refine qc X45 hx hby d29_57 ?_
    refine XS.isub X45.here hx rfl (hb hby d29_58) rfl ?_
    refine X45.iaload hx (j := (0 : Int32)) (v := vI0) (by rw [E45]; exact Arq46.1) (State.isArrayOf_alike hZ.alike Arq46.2.1) Arq46.2.2 (inb_of Sq46 ⟨(by decide : ¬ ((0 : Int32) < (0 : Int32))), (by decide : (0 : Int32) < (2 : Int32))⟩) (Has.at Hq46 (inb_of Sq46 ⟨(by decide : ¬ ((0 : Int32) < (0 : Int32))), (by decide : (0 : Int32) < (2 : Int32))⟩) rfl) (g := (mkF m 59 #[lR r0, lR b7, lR b12, lV vI1, lV vI1, lR r5] [vI0, (.ref b12), (.ref r0)])) rfl rfl (hb hby d29_59) _ ?_
    refine st48 _ ?_
    show SG p e below T48 (mkF m 65 #[lR r0, lR b7, lR b12, lV vI1, lV vI1, lR r5] [(.ref r3)]) _
    refine st50 _ ?_
    refine qa X50 hx hby d29_68 ?_
    refine st81 _ ?_
    refine XS.ifNo X81.here hx rfl (hb hby d29_73) rfl ((if0 _ _).trans (teq (rfl : (0 : Int32) = (0 : Int32))).2) ?_
    refine XS.iinc X81.here hx rfl (hb hby d29_76) rfl (l' := #[lR r0, lR b7, lR b12, lV vI0, lV vI1, lR r5]) rfl ?_
    refine qaN X81 hx hby d29_79 ?_
    refine qaN X81 hx hby d29_80 ?_
    refine qiN X81 hx hby d29_81 ?_
    refine X81.iaload hx (j := (0 : Int32)) (v := vI0) (by rw [E81]; exact Arq82.1) (State.isArrayOf_alike hZ.alike Arq82.2.1) Arq82.2.2 (inb_of Sq82 ⟨(by decide : ¬ ((0 : Int32) < (0 : Int32))), (by decide : (0 : Int32) < (2 : Int32))⟩) (Has.at Hq82 (inb_of Sq82 ⟨(by decide : ¬ ((0 : Int32) < (0 : Int32))), (by decide : (0 : Int32) < (2 : Int32))⟩) rfl) (g := (mkF m 82 #[lR r0, lR b7, lR b12, lV vI0, lV vI1, lR r5] [vI0, (.ref b12), (.ref b7)])) rfl rfl (hb hby d29_82) _ ?_
    refine qi X81 hx hby d29_83 ?_
    show SG p e below T81 (mkF m 85 #[lR r0, lR b7, lR b12, lV vI0, lV vI1, lR r5] [vI1, vI0, (.ref b7)]) _
    refine st88 _ ?_
    refine XS.goto X88.here hx rfl (pc0 := 86) (pc' := 50) rfl (hb hby d29_86) (by decide) (by decide) ?_
    refine qiN X88 hx hby d29_50 ?_
    refine XS.ifYes X88.here hx rfl (pc0 := 51) (pc' := 89) rfl (hb hby d29_51) rfl ((if0 _ _).trans (flt (by decide : ¬ ((0 : Int32) < (0 : Int32)))).2.2.2) (by decide) (by decide) ?_
    refine qaN X88 hx hby d29_89 ?_
    refine qiN X88 hx hby d29_90 ?_
    refine qi X88 hx hby d29_91 ?_
    refine st91 _ ?_
    refine XS.iinc X91.here hx rfl (hb hby d29_94) rfl (l' := #[lR r0, lR b7, lR b12, lV vI1, lV vI1, lR r5]) rfl ?_
    refine XS.iinc X91.here hx rfl (hb hby d29_97) rfl (l' := #[lR r0, lR b7, lR b12, lV vI1, lV vI2, lR r5]) rfl ?_
    show SG p e below T91 (mkF m 100 #[lR r0, lR b7, lR b12, lV vI1, lV vI2, lR r5] []) _
    refine XS.goto X91.here hx rfl (pc0 := 100) (pc' := 23) rfl (hb hby d29_100) (by decide) (by decide) ?_
    refine qi X91 hx hby d29_23 ?_
    refine qaN X91 hx hby d29_25 ?_
    refine st96 _ ?_
    refine XS.icmpYes X96.here hx rfl (pc0 := 31) (pc' := 103) rfl (hb hby d29_31) rfl (flt (by decide : ¬ ((2 : Int32) < (2 : Int32)))).2.1 (by decide) (by decide) ?_
    refine qiN X96 hx hby d29_103 ?_
    refine XS.ifNo X96.here hx rfl (hb hby d29_104) rfl ((if0 _ _).trans (tlt (by decide : (0 : Int32) < (1 : Int32))).2.2.2) ?_
    refine XS.iinc X96.here hx rfl (hb hby d29_107) rfl (l' := #[lR r0, lR b7, lR b12, lV vI0, lV vI2, lR r5]) rfl ?_
    refine qaN X96 hx hby d29_110 ?_
    refine qaN X96 hx hby d29_111 ?_
    show SG p e below T96 (mkF m 112 #[lR r0, lR b7, lR b12, lV vI0, lV vI2, lR r5] [(.ref b12), (.ref b7)]) _
    refine qiN X96 hx hby d29_112 ?_
    refine X96.iaload hx (j := (0 : Int32)) (v := vI1) (by rw [E96]; exact Arq98.1) (State.isArrayOf_alike hZ.alike Arq98.2.1) Arq98.2.2 (inb_of Sq98 ⟨(by decide : ¬ ((0 : Int32) < (0 : Int32))), (by decide : (0 : Int32) < (2 : Int32))⟩) (Has.at Hq98 (inb_of Sq98 ⟨(by decide : ¬ ((0 : Int32) < (0 : Int32))), (by decide : (0 : Int32) < (2 : Int32))⟩) rfl) (g := (mkF m 113 #[lR r0, lR b7, lR b12, lV vI0, lV vI2, lR r5] [vI0, (.ref b12), (.ref b7)])) rfl rfl (hb hby d29_113) _ ?_
    refine qaN X96 hx hby d29_114 ?_
    refine st99 _ ?_
    refine st102 _ ?_
    refine XS.goto X102.here hx rfl (pc0 := 121) (pc' := 103) rfl (hb hby d29_121) (by decide) (by decide) ?_
    refine qiN X102 hx hby d29_103 ?_
    refine XS.ifYes X102.here hx rfl (pc0 := 104) (pc' := 124) rfl (hb hby d29_104) rfl ((if0 _ _).trans (flt (by decide : ¬ ((0 : Int32) < (0 : Int32)))).2.2.2) (by decide) (by decide) ?_
    refine qaN X102 hx hby d29_124 ?_
    exact retOut X102 hx (i := .areturn) hret rfl (Or.inr (Or.inr (Or.inr (Or.inr ⟨rfl, rfl, rfl⟩)))) (hb hby d29_125) hr
def Q29_5 (Z : State) (r0 r1 r2 : Addr) (c3 : ClassId) (x4 : Int32) (r5 r6 : Addr) (c7 : ClassId) (x8 : Int32) (r9 r10 r11 : Addr) (x12 : Int32) (h0 : Heap) (n0 : Nat) (v : Option Value) (h : Heap) (L : List Loc) : Prop := ∃ bo : Addr, v = some (.ref bo) ∧ Fr n0 L ∧ Keep h0 h [] ∧ True
theorem rm29_5 (l : Launch) (Z : State) (a0 : Array Value) (hw : own_HW a0 Z) (ws : List Jvm.Cond) (r0 r1 r2 : Addr) (c3 : ClassId) (x4 : Int32) (r5 r6 : Addr) (c7 : ClassId) (x8 : Int32) (r9 r10 r11 : Addr) (x12 : Int32) (h0 : Heap) (n0 : Nat) (O0 : Old Z n0 h0) (f1 : Fld Z h0 r2 "java/lang/String" "value" "[B" (.ref r1)) (f2 : Arv Z h0 r1 c3 .byte (1 : Int32) [(.int x4)] vI0) (f3 : Fld Z h0 r6 "java/lang/String" "value" "[B" (.ref r5)) (f4 : Arv Z h0 r5 c7 .byte (1 : Int32) [(.int x8)] vI0) (f5 : Exa Z h0 r0 cs7) (f6 : Fld Z h0 r0 cs7 "e1" "Ljava/lang/Object;" (.ref r9)) (f7 : Sta Z Z.heap cs8 "EMPTY" "Ljava/lang/Object;" (.ref r10)) (f8 : Exa Z Z.heap r10 "java/lang/Object") (g9 : n0 ≤ r9) (f10 : Fld Z h0 r0 cs7 "e0" "Ljava/lang/Object;" (.ref r11)) (f11 : Exa Z h0 r11 cs0) (f12 : Fld Z h0 r11 cs0 "path" "Ljava/lang/String;" (.ref r2)) (l13 : r0 < h0.size) (f14 : Exa Z h0 r9 cs0) (f15 : Fld Z h0 r9 cs0 "path" "Ljava/lang/String;" (.ref r6)) (l16 : r9 < h0.size) (l17 : r11 < h0.size) (f18 : Exa Z h0 r6 "java/lang/String") (l19 : r6 < h0.size) (l20 : r5 < h0.size) (f21 : Sta Z Z.heap "java/lang/String" "COMPACT_STRINGS" "Z" (.int x12)) (f22 : Fld Z h0 r6 "java/lang/String" "coder" "B" vI0) (f23 : Exa Z h0 r2 "java/lang/String") (l24 : r2 < h0.size) (l25 : r1 < h0.size) (f26 : Fld Z h0 r2 "java/lang/String" "coder" "B" vI0) (hc27 : ¬ (x12 = (0 : Int32))) :
    own_MF l mN31 prog_2_method_12_code 6 (some (.array .int)) ws rR5_2_4_72 Z h0 #[(.ref r0)] (Q29_5 Z r0 r1 r2 c3 x4 r5 r6 c7 x8 r9 r10 r11 x12 h0 n0) := by
  intro p e ha hc hk s m args below hf happ hP hK
  by_cases g0 : x8 = x4
  · obtain ⟨nn, o, h1, h2, h3, v, L, rfl, hQ, hE⟩ := rm29_3 l Z a0 hw ws r0 r9 r10 r11 r2 r6 r5 c7 x8 x12 r1 c3 x4 h0 n0 O0 f5 f6 f7 f8 g9 f10 f11 f12 l13 f14 f15 l16 l17 f18 f3 l19 f4 l20 f21 hc27 f22 f23 f1 l24 f2 l25 f26 g0 p e ha hc hk s m args below hf happ hP hK
    obtain ⟨b7, k7, rfl, N, K, e0, e1, e2⟩ := hQ
    exact ⟨nn, _, h1, h2, h3, _, L, rfl, ⟨_, rfl, N, K, trivial⟩, hE⟩
  · obtain ⟨nn, o, h1, h2, h3, v, L, rfl, hQ, hE⟩ := rm29_4 l Z a0 hw ws r0 r9 r10 r11 r2 r6 r5 c7 x8 x12 r1 c3 x4 h0 n0 O0 f5 f6 f7 f8 g9 f10 f11 f12 l13 f14 f15 l16 l17 f18 f3 l19 f4 l20 f21 hc27 f22 f23 f1 l24 f2 l25 f26 g0 p e ha hc hk s m args below hf happ hP hK
    obtain ⟨b7, k7, rfl, N, K, e0, e1, e2⟩ := hQ
    exact ⟨nn, _, h1, h2, h3, _, L, rfl, ⟨_, rfl, N, K, trivial⟩, hE⟩
def Q35_2 (Z : State)  (h0 : Heap) (n0 : Nat) (v : Option Value) (h : Heap) (L : List Loc) : Prop := v = some vI30 ∧ Fr n0 L ∧ h = h0
theorem rm35_2 (l : Launch) (Z : State) (a0 : Array Value) (hw : own_HW a0 Z) (ws : List Jvm.Cond)  (h0 : Heap) (n0 : Nat) (O0 : Old Z n0 h0) :
    own_MF l mN34 jdk_33_method_47_code 2 (some .int) ws rR0_0_0_0 Z h0 #[vI3] (Q35_2 Z  h0 n0) := by
  refine own_open (plainFor_of_name pn_java_lang_Integer) (L0 := #[lV vI3, lU]) (fun _ => by first | (simp [entryFrame, mkF, argsToLocals, Value.category]; done) | rfl) ?_
  intro p e s m below meth c s₁ hx hby hml hret hnn hZ hown X0 e0
  have N0 := Fr.nil n0
  refine ⟨some vI30, _, _, _, _, nofun, X0, by decide, by decide, ?_, fun fs hr => ?_⟩
  · rw [e0]; exact ⟨rfl, N0, rfl⟩
  · show SG p e below s₁ (mkF m 0 #[lV vI3, lU] []) _
    refine qiN X0 hx hby d35_0 ?_
    refine XS.ifYes X0.here hx rfl (pc0 := 1) (pc' := 15) rfl (hb hby d35_1) rfl ((if0 _ _).trans (tlt (by decide : (0 : Int32) < (3 : Int32))).2.2.1) (by decide) (by decide) ?_
    refine qb X0 hx hby d35_15 ?_
    refine XS.istoreN X0.here hx rfl (hb hby d35_17) rfl (l' := #[lV vI3, lV vI31]) rfl ?_
    refine qiN X0 hx hby d35_18 ?_
    refine X0.ldcwInt hx hown (mvT hZ (ww hw 243 rfl)) (g := (mkF m 19 #[lV vI3, lV vI31] [vI3])) rfl (hb hby d35_19) _ ?_
    refine XS.icmpYes X0.here hx rfl (pc0 := 22) (pc' := 33) rfl (hb hby d35_22) rfl (tlt (by decide : (3 : Int32) < (65536 : Int32))).1 (by decide) (by decide) ?_
    refine qiN X0 hx hby d35_33 ?_
    refine XS.sipush X0.here hx rfl (hb hby d35_34) ?_
    refine XS.icmpYes X0.here hx rfl (pc0 := 37) (pc' := 48) rfl (hb hby d35_37) rfl (tlt (by decide : (3 : Int32) < (256 : Int32))).1 (by decide) (by decide) ?_
    show SG p e below s₁ (mkF m 48 #[lV vI3, lV vI31] []) _
    refine qiN X0 hx hby d35_48 ?_
    refine qb X0 hx hby d35_49 ?_
    refine XS.icmpYes X0.here hx rfl (pc0 := 51) (pc' := 61) rfl (hb hby d35_51) rfl (tlt (by decide : (3 : Int32) < (16 : Int32))).1 (by decide) (by decide) ?_
    refine qiN X0 hx hby d35_61 ?_
    refine qc X0 hx hby d35_62 ?_
    refine XS.icmpYes X0.here hx rfl (pc0 := 63) (pc' := 73) rfl (hb hby d35_63) rfl (tlt (by decide : (3 : Int32) < (4 : Int32))).1 (by decide) (by decide) ?_
    refine qiN X0 hx hby d35_73 ?_
    refine qiN X0 hx hby d35_74 ?_
    refine qc X0 hx hby d35_75 ?_
    refine XS.iushr X0.here hx rfl (hb hby d35_76) rfl ?_
    show SG p e below s₁ (mkF m 77 #[lV vI3, lV vI31] [vI1, vI31]) _
    refine XS.isub X0.here hx rfl (hb hby d35_77) rfl ?_
    exact retOut X0 hx (i := .ireturn) hret rfl (Or.inl ⟨rfl, Or.inl rfl, _, rfl⟩) (hb hby d35_78) hr
def Q34_2 (Z : State)  (h0 : Heap) (n0 : Nat) (v : Option Value) (h : Heap) (L : List Loc) : Prop := v = some vI2 ∧ Fr n0 L ∧ h = h0
theorem rm34_2 (l : Launch) (Z : State) (a0 : Array Value) (hw : own_HW a0 Z) (ws : List Jvm.Cond)  (h0 : Heap) (n0 : Nat) (O0 : Old Z n0 h0) :
    own_MF l mN35 jdk_33_method_45_code 1 (some .int) ws rR1_0_0_15 Z h0 #[vI3] (Q34_2 Z  h0 n0) := by
  refine own_open (plainFor_of_name pn_java_lang_Integer) (L0 := #[lV vI3]) (fun _ => by first | (simp [entryFrame, mkF, argsToLocals, Value.category]; done) | rfl) ?_
  intro p e s m below meth c s₁ hx hby hml hret hnn hZ hown X0 e0
  have N0 := Fr.nil n0; have w := @ww Z a0 hw
  obtain ⟨_, T1, Lc1, X1, hQ1, st1⟩ := own_cS X0 hx hZ hown e0 (rm35_2 l Z a0 hw [] h0 n0 O0) (w 240 rfl) (w 241 rfl) (w 237 rfl) (w 242 rfl) (by decide) (W := 2) (by decide) (by decide) (by decide) (by decide) (g := (mkF m 4 #[lV vI3] [vI3, (.int (-2147483648 : Int32)), vI3])) rfl (by rw [hml]; rfl) (argsL := [vI3]) (rest := [(.int (-2147483648 : Int32)), vI3]) (lenOf pd__I_I rfl) rfl (own_W rfl) (hb hby d34_4)
  obtain ⟨rfl, N1q, E1⟩ := hQ1
  have N1 := Fr.app N0 N1q
  refine ⟨some vI2, _, _, _, _, nofun, X1, by decide, by decide, ?_, fun fs hr => ?_⟩
  · rw [E1]; exact ⟨rfl, N1, rfl⟩
  · show SG p e below s₁ (mkF m 0 #[lV vI3] []) _
    refine qiN X0 hx hby d34_0 ?_
    refine X0.ldcInt hx hown (mvT hZ (w 239 rfl)) (g := (mkF m 1 #[lV vI3] [vI3])) rfl (hb hby d34_1) _ ?_
    refine qiN X0 hx hby d34_3 ?_
    refine st1 _ ?_
    refine XS.iushr X1.here hx rfl (hb hby d34_7) rfl ?_
    refine XS.iand X1.here hx rfl (hb hby d34_8) rfl ?_
    exact retOut X1 hx (i := .ireturn) hret rfl (Or.inl ⟨rfl, Or.inl rfl, _, rfl⟩) (hb hby d34_9) hr
def Q39_2 (Z : State) (x1 : Int32) (h0 : Heap) (n0 : Nat) (v : Option Value) (h : Heap) (L : List Loc) : Prop := v = some (.int (((x1 * (-1640531527 : Int32)).toUInt32 >>> ((30 : Int32) &&& 31).toUInt32).toInt32)) ∧ Fr n0 L ∧ h = h0
theorem rm39_2 (l : Launch) (Z : State) (a0 : Array Value) (hw : own_HW a0 Z) (ws : List Jvm.Cond) (r0 : Addr) (x1 : Int32) (c2 : ClassId) (h0 : Heap) (n0 : Nat) (O0 : Old Z n0 h0) (f1 : Arv Z h0 r0 c2 .int (4 : Int32) [vI0, vI0, vI0, vI0] vI0) :
    own_MF l mN39 prog_2_method_10_code 2 (some .int) ws rR1_0_0_14 Z h0 #[(.ref r0), (.int x1)] (Q39_2 Z x1 h0 n0) := by
  refine own_open (plainFor_of_name pn_com_example_nearmiss_nearmiss_Document) (L0 := #[lR r0, lI x1]) (fun _ => by first | (simp [entryFrame, mkF, argsToLocals, Value.category]; done) | rfl) ?_
  intro p e s m below meth c s₁ hx hby hml hret hnn hZ hown X0 e0
  have N0 := Fr.nil n0; have w := @ww Z a0 hw
  obtain ⟨clq2, Arq2, qq2, Sq2, Nq2, Hq2, Gq2⟩ := id f1
  obtain ⟨_, T3, Lc3, X3, hQ3, st3⟩ := own_cS X0 hx hZ hown e0 (rm35_2 l Z a0 hw [] h0 n0 O0) (w 265 rfl) (w 241 rfl) (w 237 rfl) (w 242 rfl) (by decide) (W := 1) (by decide) (by decide) (by decide) (by decide) (g := (mkF m 8 #[lR r0, lI x1] [vI3, (.int (x1 * (-1640531527 : Int32)))])) rfl (by rw [hml]; rfl) (argsL := [vI3]) (rest := [(.int (x1 * (-1640531527 : Int32)))]) (lenOf pd__I_I rfl) rfl (own_W rfl) (hb hby d39_8)
  obtain ⟨rfl, N3q, E3⟩ := hQ3
  have N3 := Fr.app N0 N3q
  refine ⟨some (.int (((x1 * (-1640531527 : Int32)).toUInt32 >>> ((30 : Int32) &&& 31).toUInt32).toInt32)), _, _, _, _, nofun, X3, by decide, by decide, ?_, fun fs hr => ?_⟩
  · rw [E3]; exact ⟨rfl, N3, rfl⟩
  · show SG p e below s₁ (mkF m 0 #[lR r0, lI x1] []) _
    refine qiN X0 hx hby d39_0 ?_
    refine X0.ldcInt hx hown (mvT hZ (w 264 rfl)) (g := (mkF m 1 #[lR r0, lI x1] [(.int x1)])) rfl (hb hby d39_1) _ ?_
    refine XS.imul X0.here hx rfl (hb hby d39_3) rfl ?_
    refine qaN X0 hx hby d39_4 ?_
    refine X0.arraylength hx (by rw [e0]; exact Arq2.1) (State.isArrayOf_alike hZ.alike Arq2.2.1) (g := (mkF m 5 #[lR r0, lI x1] [(.ref r0), (.int (x1 * (-1640531527 : Int32)))])) rfl rfl (hb hby d39_5) _ ?_
    rw [len_of Sq2 Nq2]
    refine qc X0 hx hby d39_6 ?_
    refine XS.isub X0.here hx rfl (hb hby d39_7) rfl ?_
    refine st3 _ ?_
    refine XS.iushr X3.here hx rfl (hb hby d39_11) rfl ?_
    exact retOut X3 hx (i := .ireturn) hret rfl (Or.inl ⟨rfl, Or.inl rfl, _, rfl⟩) (hb hby d39_12) hr
def Q39_3 (Z : State) (x1 : Int32) (h0 : Heap) (n0 : Nat) (v : Option Value) (h : Heap) (L : List Loc) : Prop := v = some (.int (((x1 * (-1640531527 : Int32)).toUInt32 >>> ((30 : Int32) &&& 31).toUInt32).toInt32)) ∧ Fr n0 L ∧ h = h0
theorem rm39_3 (l : Launch) (Z : State) (a0 : Array Value) (hw : own_HW a0 Z) (ws : List Jvm.Cond) (r0 : Addr) (x1 : Int32) (c2 : ClassId) (t3 : List Value) (h0 : Heap) (n0 : Nat) (O0 : Old Z n0 h0) (f1 : Arv Z h0 r0 c2 .int (4 : Int32) t3 vI0) :
    own_MF l mN39 prog_2_method_10_code 2 (some .int) ws rR1_0_0_14 Z h0 #[(.ref r0), (.int x1)] (Q39_3 Z x1 h0 n0) := by
  refine own_open (plainFor_of_name pn_com_example_nearmiss_nearmiss_Document) (L0 := #[lR r0, lI x1]) (fun _ => by first | (simp [entryFrame, mkF, argsToLocals, Value.category]; done) | rfl) ?_
  intro p e s m below meth c s₁ hx hby hml hret hnn hZ hown X0 e0
  have N0 := Fr.nil n0; have w := @ww Z a0 hw
  obtain ⟨clq2, Arq2, qq2, Sq2, Nq2, Hq2, Gq2⟩ := id f1
  obtain ⟨_, T3, Lc3, X3, hQ3, st3⟩ := own_cS X0 hx hZ hown e0 (rm35_2 l Z a0 hw [] h0 n0 O0) (w 265 rfl) (w 241 rfl) (w 237 rfl) (w 242 rfl) (by decide) (W := 1) (by decide) (by decide) (by decide) (by decide) (g := (mkF m 8 #[lR r0, lI x1] [vI3, (.int (x1 * (-1640531527 : Int32)))])) rfl (by rw [hml]; rfl) (argsL := [vI3]) (rest := [(.int (x1 * (-1640531527 : Int32)))]) (lenOf pd__I_I rfl) rfl (own_W rfl) (hb hby d39_8)
  obtain ⟨rfl, N3q, E3⟩ := hQ3
  have N3 := Fr.app N0 N3q
  refine ⟨some (.int (((x1 * (-1640531527 : Int32)).toUInt32 >>> ((30 : Int32) &&& 31).toUInt32).toInt32)), _, _, _, _, nofun, X3, by decide, by decide, ?_, fun fs hr => ?_⟩
  · rw [E3]; exact ⟨rfl, N3, rfl⟩
  · show SG p e below s₁ (mkF m 0 #[lR r0, lI x1] []) _
    refine qiN X0 hx hby d39_0 ?_
    refine X0.ldcInt hx hown (mvT hZ (w 264 rfl)) (g := (mkF m 1 #[lR r0, lI x1] [(.int x1)])) rfl (hb hby d39_1) _ ?_
    refine XS.imul X0.here hx rfl (hb hby d39_3) rfl ?_
    refine qaN X0 hx hby d39_4 ?_
    refine X0.arraylength hx (by rw [e0]; exact Arq2.1) (State.isArrayOf_alike hZ.alike Arq2.2.1) (g := (mkF m 5 #[lR r0, lI x1] [(.ref r0), (.int (x1 * (-1640531527 : Int32)))])) rfl rfl (hb hby d39_5) _ ?_
    rw [len_of Sq2 Nq2]
    refine qc X0 hx hby d39_6 ?_
    refine XS.isub X0.here hx rfl (hb hby d39_7) rfl ?_
    refine st3 _ ?_
    refine XS.iushr X3.here hx rfl (hb hby d39_11) rfl ?_
    exact retOut X3 hx (i := .ireturn) hret rfl (Or.inl ⟨rfl, Or.inl rfl, _, rfl⟩) (hb hby d39_12) hr
def own_J (p : Program) (l : Launch) (e : Env) (R : Room) (s : State) (m : MethodId) (args : Array Value) (below : List Frame) (meth : Method) (c : Code) (n0 : Nat) (h : Heap) (cells slots : Nat) (T0 : State) (g0 g' : JFrame) : Prop :=
  ∃ T' L', Stand p l e R s m args below meth c T' L' cells slots ∧ T'.heap = h ∧ Fr n0 L' ∧ ∀ t, Steps p.tables e below (T'.setTop g') t → Steps p.tables e below (T0.setTop g0) t
theorem own_ct {p : Program} {l : Launch} {e : Env} {R : Room} {s : State} {m : MethodId} {args : Array Value} {below : List Frame} {meth : Method} {c : Code} {T : State} {locs : List Loc} {cells slots n0 : Nat} {h : Heap} {P : Prop} [Decidable P] {g0 gj gb : JFrame} (X : Stand p l e R s m args below meth c T locs cells slots) (eT : T.heap = h) (N : Fr n0 locs)
    (H : ¬ P → own_J p l e R s m args below meth c n0 h cells slots T g0 gb) (h1 : P → gj = g0) (h2 : ¬ P → gj = gb) : own_J p l e R s m args below meth c n0 h cells slots T g0 gj := by
  by_cases q : P
  · rw [h1 q]; exact ⟨T, _, X, eT, N, fun t k => k⟩
  · rw [h2 q]; exact H q
theorem d33_56 : DK cB33 56 (.aload_n 2) 1 := by decide +kernel
theorem d33_57 : DK cB33 57 (.iload 4) 2 := by decide +kernel
theorem d33_59 : DK cB33 59 (.invokestatic 97) 3 := by decide +kernel
theorem d55_0 : DK cB55 0 (.iload_n 1) 1 := by decide +kernel
theorem d55_1 : DK cB55 1 (.iconst 1) 1 := by decide +kernel
theorem d55_2 : DK cB55 2 (.iadd) 1 := by decide +kernel
theorem d55_3 : DK cB55 3 (.aload_n 0) 1 := by decide +kernel
theorem d55_4 : DK cB55 4 (.arraylength) 1 := by decide +kernel
theorem d55_5 : DK cB55 5 (.iconst 1) 1 := by decide +kernel
theorem d55_6 : DK cB55 6 (.isub) 1 := by decide +kernel
theorem d55_7 : DK cB55 7 (.iand) 1 := by decide +kernel
theorem d55_8 : DK cB55 8 (.ireturn) 1 := by decide +kernel
def Q55_1 (Z : State) (x1 : Int32) (h0 : Heap) (n0 : Nat) (v : Option Value) (h : Heap) (L : List Loc) : Prop := v = some (.int ((x1 + (1 : Int32)) &&& (3 : Int32))) ∧ Fr n0 L ∧ h = h0
theorem rm55_1 (l : Launch) (Z : State) (a0 : Array Value) (hw : own_HW a0 Z) (ws : List Jvm.Cond) (r0 : Addr) (x1 : Int32) (c2 : ClassId) (t3 : List Value) (h0 : Heap) (n0 : Nat) (O0 : Old Z n0 h0) (f1 : Arv Z h0 r0 c2 .int (4 : Int32) t3 vI0) :
    own_MF l mN54 prog_2_method_11_code 2 (some .int) ws rR0_0_0_0 Z h0 #[(.ref r0), (.int x1)] (Q55_1 Z x1 h0 n0) := by
  refine own_open (plainFor_of_name pn_com_example_nearmiss_nearmiss_Document) (L0 := #[lR r0, lI x1]) (fun _ => by first | (simp [entryFrame, mkF, argsToLocals, Value.category]; done) | rfl) ?_
  intro p e s m below meth c s₁ hx hby hml hret hnn hZ hown X0 e0
  have N0 := Fr.nil n0
  obtain ⟨clq2, Arq2, qq2, Sq2, Nq2, Hq2, Gq2⟩ := id f1
  refine ⟨some (.int ((x1 + (1 : Int32)) &&& (3 : Int32))), _, _, _, _, nofun, X0, by decide, by decide, ?_, fun fs hr => ?_⟩
  · rw [e0]; exact ⟨rfl, N0, rfl⟩
  · show SG p e below s₁ (mkF m 0 #[lR r0, lI x1] []) _
    refine qiN X0 hx hby d55_0 ?_
    refine qc X0 hx hby d55_1 ?_
    refine XS.iadd X0.here hx rfl (hb hby d55_2) rfl ?_
    refine qaN X0 hx hby d55_3 ?_
    refine X0.arraylength hx (by rw [e0]; exact Arq2.1) (State.isArrayOf_alike hZ.alike Arq2.2.1) (g := (mkF m 4 #[lR r0, lI x1] [(.ref r0), (.int (x1 + (1 : Int32)))])) rfl rfl (hb hby d55_4) _ ?_
    rw [len_of Sq2 Nq2]
    refine qc X0 hx hby d55_5 ?_
    refine XS.isub X0.here hx rfl (hb hby d55_6) rfl ?_
    refine XS.iand X0.here hx rfl (hb hby d55_7) rfl ?_
    exact retOut X0 hx (i := .ireturn) hret rfl (Or.inl ⟨rfl, Or.inl rfl, _, rfl⟩) (hb hby d55_8) hr
theorem d33_62 : DK cB33 62 (.istore 4) 2 := by decide +kernel
theorem d33_64 : DK cB33 64 (.goto (-15)) 3 := by decide +kernel
def Q33_3 (Z : State) (r4 r5 : Addr) (x9 : Int32) (r10 r11 : Addr) (x15 : Int32) (h0 : Heap) (n0 : Nat) (v : Option Value) (h : Heap) (L : List Loc) : Prop := ∃ (b8 : Addr) (k8 : ClassId), v = some (.ref b8) ∧ Fr n0 L ∧ Keep h0 h [r4, r10] ∧ Fld Z h r4 "java/lang/String" "coder" "B" vI0 ∧ Fld Z h r4 "java/lang/String" "value" "[B" (.ref r5) ∧ Fld Z h r10 "java/lang/String" "coder" "B" vI0 ∧ Fld Z h r10 "java/lang/String" "value" "[B" (.ref r11) ∧ h0.size ≤ b8 ∧ Arv Z h b8 k8 .int (4 : Int32) (List.set (List.set [vI0, vI0, vI0, vI0] (x9).toNatClampNeg vI1) (x15).toNatClampNeg vI2) vI0 ∧ Exa Z h b8 "[I"
theorem rm33_3 (l : Launch) (Z : State) (a0 : Array Value) (hw : own_HW a0 Z) (ws : List Jvm.Cond) (r0 r1 : Addr) (r2 r3 : Addr) (r4 r5 : Addr) (c6 : ClassId) (x7 x8 x9 : Int32) (r10 r11 : Addr) (c12 : ClassId) (x13 x14 x15 : Int32) (h0 : Heap) (n0 : Nat) (O0 : Old Z n0 h0) (f1 : Exa Z h0 r0 cs7) (f2 : Fld Z h0 r0 cs7 "e1" "Ljava/lang/Object;" (.ref r1)) (f3 : Sta Z Z.heap cs8 "EMPTY" "Ljava/lang/Object;" (.ref r2)) (f4 : Exa Z Z.heap r2 "java/lang/Object") (g5 : n0 ≤ r1) (f9 : Fld Z h0 r0 cs7 "e0" "Ljava/lang/Object;" (.ref r3)) (f14 : Exa Z h0 r3 cs0) (f17 : Fld Z h0 r3 cs0 "path" "Ljava/lang/String;" (.ref r4)) (f20 : Exa Z h0 r4 "java/lang/String") (f22 : Fld Z h0 r4 "java/lang/String" "value" "[B" (.ref r5)) (f24 : Arv Z h0 r5 c6 .byte (1 : Int32) [(.int x7)] vI0) (f26 : Fld Z h0 r4 "java/lang/String" "hash" "I" vI0) (f28 : Fld Z h0 r4 "java/lang/String" "hashIsZero" "Z" vI0) (f30 : Sta Z Z.heap "java/lang/String" "COMPACT_STRINGS" "Z" (.int x8)) (f31 : Fld Z h0 r4 "java/lang/String" "coder" "B" vI0) (g33 : n0 ≤ r4) (hc34 : ¬ (x8 = (0 : Int32))) (l38 : r4 < h0.size) (hq43 : ((((x7 &&& (255 : Int32)) * (-1640531527 : Int32)).toUInt32 >>> ((30 : Int32) &&& 31).toUInt32).toInt32) = x9) (hc45 : ([vI0, vI0, vI0, vI0] : List Value).getD (x9).toNatClampNeg vI0 = (.int (own_at [vI0, vI0, vI0, vI0] (x9).toNatClampNeg))) (hc46 : ¬ (x9 < (0 : Int32))) (hc47 : x9 < (4 : Int32)) (hc48 : (own_at [vI0, vI0, vI0, vI0] (x9).toNatClampNeg) = (0 : Int32)) (hc52 : (x9).toNatClampNeg < ([vI0, vI0, vI0, vI0] : List Value).length) (n54 : r0 ≠ r4) (l55 : r0 < h0.size) (f61 : Exa Z h0 r1 cs0) (f64 : Fld Z h0 r1 cs0 "path" "Ljava/lang/String;" (.ref r10)) (n65 : r1 ≠ r4) (l66 : r1 < h0.size) (f70 : Exa Z h0 r10 "java/lang/String") (f72 : Fld Z h0 r10 "java/lang/String" "value" "[B" (.ref r11)) (n73 : r10 ≠ r4) (l74 : r10 < h0.size) (f77 : Arv Z h0 r11 c12 .byte (1 : Int32) [(.int x13)] vI0) (n78 : r11 ≠ r4) (l79 : r11 < h0.size) (f82 : Fld Z h0 r10 "java/lang/String" "hash" "I" vI0) (f84 : Fld Z h0 r10 "java/lang/String" "hashIsZero" "Z" vI0) (f86 : Fld Z h0 r10 "java/lang/String" "coder" "B" vI0) (g88 : n0 ≤ r10) (hq95 : ((((x13 &&& (255 : Int32)) * (-1640531527 : Int32)).toUInt32 >>> ((30 : Int32) &&& 31).toUInt32).toInt32) = x14) (hc97 : (List.set [vI0, vI0, vI0, vI0] (x9).toNatClampNeg vI1).getD (x14).toNatClampNeg vI0 = (.int (own_at (List.set [vI0, vI0, vI0, vI0] (x9).toNatClampNeg vI1) (x14).toNatClampNeg))) (hc98 : ¬ (x14 < (0 : Int32))) (hc99 : x14 < (4 : Int32)) (hq102 : (if (own_at (List.set [vI0, vI0, vI0, vI0] (x9).toNatClampNeg vI1) (x14).toNatClampNeg) = (0 : Int32) then x14 else ((x14 + (1 : Int32)) &&& (3 : Int32))) = x15) (hc104 : (List.set [vI0, vI0, vI0, vI0] (x9).toNatClampNeg vI1).getD (x15).toNatClampNeg vI0 = (.int (own_at (List.set [vI0, vI0, vI0, vI0] (x9).toNatClampNeg vI1) (x15).toNatClampNeg))) (hc105 : ¬ (x15 < (0 : Int32))) (hc106 : x15 < (4 : Int32)) (hc107 : (own_at (List.set [vI0, vI0, vI0, vI0] (x9).toNatClampNeg vI1) (x15).toNatClampNeg) = (0 : Int32)) (hc109 : (x15).toNatClampNeg < ((List.set [vI0, vI0, vI0, vI0] (x9).toNatClampNeg vI1) : List Value).length) :
    own_MF l mN40 prog_2_method_9_code 5 (some (.array .int)) ws rR2_1_4_27 Z h0 #[(.ref r0)] (Q33_3 Z r4 r5 x9 r10 r11 x15 h0 n0) := by
  refine own_open (plainFor_of_name pn_com_example_nearmiss_nearmiss_Document) (L0 := #[lR r0, lU, lU, lU, lU]) (fun _ => by first | (simp [entryFrame, mkF, argsToLocals, Value.category]; done) | rfl) ?_
  intro p e s m below meth c s₁ hx hby hml hret hnn hZ hown X0 e0
  have N0 := Fr.nil n0; have w := @ww Z a0 hw
  obtain ⟨_, T6, Lc6, X6, hQ6, st6⟩ := own_cI (xi := mN32) X0 hx hZ hown e0 (rm30_2 l Z a0 hw [] r0 r1 r2 h0 n0 O0 f2 f3 f4 g5) f1 (w 205 rfl) (w 206 rfl) (w 207 rfl) (w 208 rfl) (w 209 rfl) (w 210 rfl) (w 211 rfl) (w 212 rfl) (w 213 rfl) (w 172 rfl) (by decide) (W := 0) (by decide) (by decide) (by decide) (by decide) (g := (mkF m 1 #[lR r0, lU, lU, lU, lU] [(.ref r0)])) rfl (by rw [hml]; rfl) (argsL := []) (rest := []) (lenOf pd___I rfl) rfl (own_W rfl) (hb hby d33_1)
  obtain ⟨rfl, N6q, E6⟩ := hQ6
  have N6 := Fr.app N0 N6q
  obtain ⟨_, T7, Lc7, X7, hQ7, st7⟩ := own_cS X6 hx hZ hown E6 (rm34_2 l Z a0 hw [] h0 n0 O0) (w 235 rfl) (w 236 rfl) (w 237 rfl) (w 238 rfl) (by decide) (W := 0) (by decide) (by decide) (by decide) (by decide) (g := (mkF m 12 #[lR r0, lV vI2, lU, lU, lU] [vI3])) rfl (by rw [hml]; rfl) (argsL := [vI3]) (rest := []) (lenOf pd__I_I rfl) rfl (own_W rfl) (hb hby d33_12)
  obtain ⟨rfl, N7q, E7⟩ := hQ7
  have N7 := Fr.app N6 N7q
  obtain ⟨T8, h8, k8, X8, e8, E8, A8, B8, st8⟩ := newPE X7 hx hZ (w 214 rfl) E7 (g := (mkF m 17 #[lR r0, lV vI2, lU, lU, lU] [vI4])) rfl (hb hby d33_17) rfl (by decide) (cap := 4) (by decide) (by decide) (by decide) (by decide) (ad := "[I") rfl
  obtain ⟨b8, g8⟩ : ∃ z, z = h0.size := ⟨_, rfl⟩
  rw [← g8] at A8 B8 st8
  have V8 : Arv Z h8 b8 k8 .int (4 : Int32) [vI0, vI0, vI0, vI0] vI0 := (Arv.new A8 (by decide)).pad (pad_rep [] vI0 4)
  have f10 := (f9.ext E8)
  have o11 := Old.ext O0 E8
  have f13 := (f1.ext E8)
  obtain ⟨_, T12, Lc12, X12, hQ12, st12⟩ := own_cI (xi := mN33) X8 hx hZ hown e8 (rm31_1 l Z a0 hw [] r0 r3 h8 n0 o11 f10) f13 (w 215 rfl) (w 216 rfl) (w 217 rfl) (w 218 rfl) (w 219 rfl) (w 220 rfl) (w 221 rfl) (w 212 rfl) (w 222 rfl) (w 172 rfl) (by decide) (W := 1) (by decide) (by decide) (by decide) (by decide) (g := (mkF m 30 #[lR r0, lV vI2, lR b8, lV vI0, lU] [vI0, (.ref r0), (.ref b8)])) rfl (by rw [hml]; rfl) (argsL := [vI0]) (rest := [(.ref b8)]) (lenOf pd__I_Ljava_lang_Object_ rfl) rfl (own_W rfl) (hb hby d33_30)
  obtain ⟨rfl, N12q, E12⟩ := hQ12
  have N12 := Fr.app N7 N12q
  have f15 := (f14.ext E8)
  obtain ⟨T16, X16, e16, st16⟩ := castY X12 hx hZ hown (w 223 rfl) E12 (Ins.self f15) (g := (mkF m 35 #[lR r0, lV vI2, lR b8, lV vI0, lU] [(.ref r3), (.ref b8)])) rfl rfl (hb hby d33_35)
  have f18 := (f17.ext E8)
  obtain ⟨_, T19, Lc19, X19, hQ19, st19⟩ := own_cV X16 hx hZ hown e16 (rm32_1 l Z a0 hw [] r3 r4 h8 n0 o11 f18) f15 (w 225 rfl) (w 226 rfl) (w 228 rfl) (w 227 rfl) (w 229 rfl) (w 28 rfl) (by decide) (W := 1) (by decide) (by decide) (by decide) (by decide) (g := (mkF m 38 #[lR r0, lV vI2, lR b8, lV vI0, lU] [(.ref r3), (.ref b8)])) rfl (by rw [hml]; rfl) (argsL := []) (rest := [(.ref b8)]) (lenOf pd___Ljava_lang_String_ rfl) rfl (own_W rfl) (hb hby d33_38)
  obtain ⟨rfl, N19q, E19⟩ := hQ19
  have N19 := Fr.app N12 N19q
  have f21 := (f20.ext E8)
  have f23 := (f22.ext E8)
  have f25 := (f24.ext E8)
  have f27 := (f26.ext E8)
  have f29 := (f28.ext E8)
  have f32 := (f31.ext E8)
  obtain ⟨_, T35, Lc35, X35, hQ35, st35⟩ := own_cV X19 hx hZ hown E19 (rm36_3 l Z a0 hw [] r4 r5 c6 x7 x8 h8 n0 o11 f23 f25 f27 f29 f21 f30 f32 g33 hc34) f21 (w 244 rfl) (w 245 rfl) (w 247 rfl) (w 246 rfl) (w 248 rfl) (w 2 rfl) (by decide) (W := 1) (by decide) (by decide) (by decide) (by decide) (g := (mkF m 41 #[lR r0, lV vI2, lR b8, lV vI0, lU] [(.ref r4), (.ref b8)])) rfl (by rw [hml]; rfl) (argsL := []) (rest := [(.ref b8)]) (lenOf pd___I rfl) rfl (own_W rfl) (hb hby d33_41)
  obtain ⟨rfl, N35q, K35, f36, f37⟩ := hQ35
  have N35 := Fr.app N19 N35q
  have n39 := Nat.ne_of_lt (Nat.lt_of_lt_of_le l38 (Nat.le_of_eq g8.symm))
  have f40 := (V8.keep K35 (ninS (Ne.symm n39) nin0))
  have o41 := Old.keep o11 K35 (allS g33 all0)
  obtain ⟨_, T42, Lc42, X42, hQ42, st42⟩ := own_cS X35 hx hZ hown rfl (rm39_2 l Z a0 hw [] b8 (x7 &&& (255 : Int32)) k8 T35.heap n0 o41 f40) (w 261 rfl) (w 262 rfl) (w 105 rfl) (w 263 rfl) (by decide) (W := 0) (by decide) (by decide) (by decide) (by decide) (g := (mkF m 44 #[lR r0, lV vI2, lR b8, lV vI0, lU] [(.int (x7 &&& (255 : Int32))), (.ref b8)])) rfl (by rw [hml]; rfl) (argsL := [(.ref b8), (.int (x7 &&& (255 : Int32)))]) (rest := []) (lenOf pd___II_I rfl) rfl (own_W rfl) (hb hby d33_44)
  obtain ⟨rfl, N42q, E42⟩ := hQ42
  have N42 := Fr.app N35 N42q
  obtain ⟨clq44, Arq44, qq44, Sq44, Nq44, Hq44, Gq44⟩ := id f40
  obtain ⟨clq49, Arq49, qq49, Sq49, Nq49, Hq49, Gq49⟩ := id f40
  have zz50 : n0 ≤ h0.size := by rw [← O0.1]; exact O0.2.1
  have g51 := Nat.le_trans zz50 (Nat.le_of_eq g8.symm)
  obtain ⟨T53, h53, X53, e53, W53, st53⟩ := stI X42 hx hZ E42 Arq49 (j := x9) (inb_of Sq49 ⟨hc46, hc47⟩) (g := (mkF m 73 #[lR r0, lV vI2, lR b8, lV vI0, lI x9] [vI1, (.int x9), (.ref b8)])) rfl rfl (hb hby d33_73)
  have V53 : Arv Z h53 b8 k8 .int (4 : Int32) (List.set [vI0, vI0, vI0, vI0] (x9).toNatClampNeg vI1) vI0 := Arv.set Arq49 qq49 Sq49 Nq49 Hq49 Gq49 rfl W53 _ rfl hc52
  have N53 := Fr.snoc X53 N42 g51
  have n56 := Nat.ne_of_lt (Nat.lt_of_lt_of_le l55 (Nat.le_of_eq g8.symm))
  have f57 := (((f2.ext E8).keep K35 (ninS n54 nin0)).other W53 (Or.inl n56))
  have o58 := Old.wr o41 W53 g51
  have f60 := ((f13.keep K35).wr W53)
  obtain ⟨_, T59, Lc59, X59, hQ59, st59⟩ := own_cI (xi := mN33) X53 hx hZ hown e53 (rm31_2 l Z a0 hw [] r0 r1 r2 h53 n0 o58 f57 f3 f4 g5) f60 (w 215 rfl) (w 216 rfl) (w 217 rfl) (w 218 rfl) (w 219 rfl) (w 220 rfl) (w 221 rfl) (w 212 rfl) (w 222 rfl) (w 172 rfl) (by decide) (W := 1) (by decide) (by decide) (by decide) (by decide) (g := (mkF m 30 #[lR r0, lV vI2, lR b8, lV vI1, lI x9] [vI1, (.ref r0), (.ref b8)])) rfl (by rw [hml]; rfl) (argsL := [vI1]) (rest := [(.ref b8)]) (lenOf pd__I_Ljava_lang_Object_ rfl) rfl (own_W rfl) (hb hby d33_30)
  obtain ⟨rfl, N59q, E59⟩ := hQ59
  have N59 := Fr.app N53 N59q
  have f62 := (((f61.ext E8).keep K35).wr W53)
  obtain ⟨T63, X63, e63, st63⟩ := castY X59 hx hZ hown (w 223 rfl) E59 (Ins.self f62) (g := (mkF m 35 #[lR r0, lV vI2, lR b8, lV vI1, lI x9] [(.ref r1), (.ref b8)])) rfl rfl (hb hby d33_35)
  have n67 := Nat.ne_of_lt (Nat.lt_of_lt_of_le l66 (Nat.le_of_eq g8.symm))
  have f68 := (((f64.ext E8).keep K35 (ninS n65 nin0)).other W53 (Or.inl n67))
  obtain ⟨_, T69, Lc69, X69, hQ69, st69⟩ := own_cV X63 hx hZ hown e63 (rm32_1 l Z a0 hw [] r1 r10 h53 n0 o58 f68) f62 (w 225 rfl) (w 226 rfl) (w 228 rfl) (w 227 rfl) (w 229 rfl) (w 28 rfl) (by decide) (W := 1) (by decide) (by decide) (by decide) (by decide) (g := (mkF m 38 #[lR r0, lV vI2, lR b8, lV vI1, lI x9] [(.ref r1), (.ref b8)])) rfl (by rw [hml]; rfl) (argsL := []) (rest := [(.ref b8)]) (lenOf pd___Ljava_lang_String_ rfl) rfl (own_W rfl) (hb hby d33_38)
  obtain ⟨rfl, N69q, E69⟩ := hQ69
  have N69 := Fr.app N59 N69q
  have f71 := (((f70.ext E8).keep K35).wr W53)
  have n75 := Nat.ne_of_lt (Nat.lt_of_lt_of_le l74 (Nat.le_of_eq g8.symm))
  have f76 := (((f72.ext E8).keep K35 (ninS n73 nin0)).other W53 (Or.inl n75))
  have n80 := Nat.ne_of_lt (Nat.lt_of_lt_of_le l79 (Nat.le_of_eq g8.symm))
  have f81 := (((f77.ext E8).keep K35 (ninS n78 nin0)).other W53 n80)
  have f83 := (((f82.ext E8).keep K35 (ninS n73 nin0)).other W53 (Or.inl n75))
  have f85 := (((f84.ext E8).keep K35 (ninS n73 nin0)).other W53 (Or.inl n75))
  have f87 := (((f86.ext E8).keep K35 (ninS n73 nin0)).other W53 (Or.inl n75))
  obtain ⟨_, T89, Lc89, X89, hQ89, st89⟩ := own_cV X69 hx hZ hown E69 (rm36_3 l Z a0 hw [] r10 r11 c12 x13 x8 h53 n0 o58 f76 f81 f83 f85 f71 f30 f87 g88 hc34) f71 (w 244 rfl) (w 245 rfl) (w 247 rfl) (w 246 rfl) (w 248 rfl) (w 2 rfl) (by decide) (W := 1) (by decide) (by decide) (by decide) (by decide) (g := (mkF m 41 #[lR r0, lV vI2, lR b8, lV vI1, lI x9] [(.ref r10), (.ref b8)])) rfl (by rw [hml]; rfl) (argsL := []) (rest := [(.ref b8)]) (lenOf pd___I rfl) rfl (own_W rfl) (hb hby d33_41)
  obtain ⟨rfl, N89q, K89, f90, f91⟩ := hQ89
  have N89 := Fr.app N69 N89q
  have f92 := (V53.keep K89 (ninS (Ne.symm n75) nin0))
  have o93 := Old.keep o58 K89 (allS g88 all0)
  obtain ⟨_, T94, Lc94, X94, hQ94, st94⟩ := own_cS X89 hx hZ hown rfl (rm39_3 l Z a0 hw [] b8 (x13 &&& (255 : Int32)) k8 (List.set [vI0, vI0, vI0, vI0] (x9).toNatClampNeg vI1) T89.heap n0 o93 f92) (w 261 rfl) (w 262 rfl) (w 105 rfl) (w 263 rfl) (by decide) (W := 0) (by decide) (by decide) (by decide) (by decide) (g := (mkF m 44 #[lR r0, lV vI2, lR b8, lV vI1, lI x9] [(.int (x13 &&& (255 : Int32))), (.ref b8)])) rfl (by rw [hml]; rfl) (argsL := [(.ref b8), (.int (x13 &&& (255 : Int32)))]) (rest := []) (lenOf pd___II_I rfl) rfl (own_W rfl) (hb hby d33_44)
  obtain ⟨rfl, N94q, E94⟩ := hQ94
  have N94 := Fr.app N89 N94q
  obtain ⟨T101, L101, X101, e101, N101, st101⟩ := own_ct (P := (own_at (List.set [vI0, vI0, vI0, vI0] (x9).toNatClampNeg vI1) (x14).toNatClampNeg) = (0 : Int32)) (g0 := (mkF m 49 #[lR r0, lV vI2, lR b8, lV vI1, lI x14] [])) (gj := (mkF m 49 #[lR r0, lV vI2, lR b8, lV vI1, .val (.int (if (own_at (List.set [vI0, vI0, vI0, vI0] (x9).toNatClampNeg vI1) (x14).toNatClampNeg) = (0 : Int32) then x14 else ((x14 + (1 : Int32)) &&& (3 : Int32))))] [])) (gb := (mkF m 49 #[lR r0, lV vI2, lR b8, lV vI1, .val (.int ((x14 + (1 : Int32)) &&& (3 : Int32)))] [])) X94 E94 N94 (fun hd => by
      obtain ⟨clq96, Arq96, qq96, Sq96, Nq96, Hq96, Gq96⟩ := id f92
      obtain ⟨_, T100, Lc100, X100, hQ100, st100⟩ := own_cS X94 hx hZ hown E94 (rm55_1 l Z a0 hw [] b8 x14 k8 (List.set [vI0, vI0, vI0, vI0] (x9).toNatClampNeg vI1) T89.heap n0 o93 f92) (w 351 rfl) (w 352 rfl) (w 105 rfl) (w 353 rfl) (by decide) (W := 0) (by decide) (by decide) (by decide) (by decide) (g := (mkF m 59 #[lR r0, lV vI2, lR b8, lV vI1, lI x14] [(.int x14), (.ref b8)])) rfl (by rw [hml]; rfl) (argsL := [(.ref b8), (.int x14)]) (rest := []) (lenOf pd___II_I rfl) rfl (own_W rfl) (hb hby d33_59)
      obtain ⟨rfl, N100q, E100⟩ := hQ100
      have N100 := Fr.app N94 N100q
      refine ⟨_, _, X100, E100, N100, fun t kk => ?_⟩
      show SG p e below T94 (mkF m 49 #[lR r0, lV vI2, lR b8, lV vI1, lI x14] []) _
      refine qaN X94 hx hby d33_49 ?_
      refine qi X94 hx hby d33_50 ?_
      refine X94.iaload hx (j := x14) (v := (.int (own_at (List.set [vI0, vI0, vI0, vI0] (x9).toNatClampNeg vI1) (x14).toNatClampNeg))) (by rw [E94]; exact Arq96.1) (State.isArrayOf_alike hZ.alike Arq96.2.1) Arq96.2.2 (inb_of Sq96 ⟨hc98, hc99⟩) (Has.at Hq96 (inb_of Sq96 ⟨hc98, hc99⟩) hc97) (g := (mkF m 52 #[lR r0, lV vI2, lR b8, lV vI1, lI x14] [(.int x14), (.ref b8)])) rfl rfl (hb hby d33_52) _ ?_
      refine XS.ifNo X94.here hx rfl (hb hby d33_53) rfl ((if0 _ _).trans (feq hd).1) ?_
      refine qaN X94 hx hby d33_56 ?_
      refine qi X94 hx hby d33_57 ?_
      refine st100 _ ?_
      refine XS.istore X100.here hx rfl (hb hby d33_62) rfl (l' := #[lR r0, lV vI2, lR b8, lV vI1, .val (.int ((x14 + (1 : Int32)) &&& (3 : Int32)))]) rfl ?_
      refine XS.goto X100.here hx rfl (pc0 := 64) (pc' := 49) rfl (hb hby d33_64) (by decide) (by decide) ?_
      exact kk) (fun hd => by rw [if_pos hd]) (fun hd => by rw [if_neg hd])
  obtain ⟨clq103, Arq103, qq103, Sq103, Nq103, Hq103, Gq103⟩ := id f92
  obtain ⟨clq108, Arq108, qq108, Sq108, Nq108, Hq108, Gq108⟩ := id f92
  obtain ⟨T110, h110, X110, e110, W110, st110⟩ := stI X101 hx hZ e101 Arq108 (j := x15) (inb_of Sq108 ⟨hc105, hc106⟩) (g := (mkF m 73 #[lR r0, lV vI2, lR b8, lV vI1, lI x15] [vI2, (.int x15), (.ref b8)])) rfl rfl (hb hby d33_73)
  have V110 : Arv Z h110 b8 k8 .int (4 : Int32) (List.set (List.set [vI0, vI0, vI0, vI0] (x9).toNatClampNeg vI1) (x15).toNatClampNeg vI2) vI0 := Arv.set Arq108 qq108 Sq108 Nq108 Hq108 Gq108 rfl W110 _ rfl hc109
  have N110 := Fr.snoc X110 N101 g51
  have f111 := (((f36.other W53 (Or.inl n39)).keep K89 (ninS (Ne.symm n73) nin0)).other W110 (Or.inl n39))
  have f112 := (((f37.other W53 (Or.inl n39)).keep K89 (ninS (Ne.symm n73) nin0)).other W110 (Or.inl n39))
  have f113 := (f90.other W110 (Or.inl n75))
  have f114 := (f91.other W110 (Or.inl n75))
  have f115 := ((((B8.keep K35).wr W53).keep K89).wr W110)
  have kp116 : Keep h0 h8 [r4, r10] := (Keep.refl h0 [r4, r10]).ext E8
  have kp117 : Keep h0 T35.heap [r4, r10] := kp116.trans K35 (allS (Or.inl (List.mem_of_getElem? (i := 0) rfl)) all0)
  have kp118 : Keep h0 h53 [r4, r10] := kp117.wr W53 (Or.inr (Nat.le_of_eq g8.symm))
  have kp119 : Keep h0 T89.heap [r4, r10] := kp118.trans K89 (allS (Or.inl (List.mem_of_getElem? (i := 1) rfl)) all0)
  have kp120 : Keep h0 h110 [r4, r10] := kp119.wr W110 (Or.inr (Nat.le_of_eq g8.symm))
  refine ⟨some (.ref b8), _, _, _, _, nofun, X110, by decide, by decide, ?_, fun fs hr => ?_⟩
  · rw [e110]; exact ⟨b8, k8, rfl, N110, kp120, f111, f112, f113, f114, (Nat.le_of_eq g8.symm), V110, f115⟩
  · show SG p e below s₁ (mkF m 0 #[lR r0, lU, lU, lU, lU] []) _
    refine qaN X0 hx hby d33_0 ?_
    refine st6 _ ?_
    refine XS.istoreN X6.here hx rfl (hb hby d33_6) rfl (l' := #[lR r0, lV vI2, lU, lU, lU]) rfl ?_
    refine qiN X6 hx hby d33_7 ?_
    refine qiN X6 hx hby d33_8 ?_
    refine qc X6 hx hby d33_9 ?_
    refine XS.idiv X6.here hx rfl (hb hby d33_10) rfl (by decide : ¬ ((2 : Int32) = (0 : Int32))) ?_
    refine XS.iadd X6.here hx rfl (hb hby d33_11) rfl ?_
    refine st7 _ ?_
    refine qc X7 hx hby d33_15 ?_
    show SG p e below T7 (mkF m 16 #[lR r0, lV vI2, lU, lU, lU] [vI1, vI2]) _
    refine XS.ishl X7.here hx rfl (hb hby d33_16) rfl ?_
    refine st8 _ ?_
    refine XS.astoreN X8.here hx rfl (hb hby d33_19) rfl rfl (l' := #[lR r0, lV vI2, lR b8, lU, lU]) rfl ?_
    refine qc X8 hx hby d33_20 ?_
    refine XS.istoreN X8.here hx rfl (hb hby d33_21) rfl (l' := #[lR r0, lV vI2, lR b8, lV vI0, lU]) rfl ?_
    refine qiN X8 hx hby d33_22 ?_
    refine qiN X8 hx hby d33_23 ?_
    refine XS.icmpNo X8.here hx rfl (hb hby d33_24) rfl (tlt (by decide : (0 : Int32) < (2 : Int32))).2.1 ?_
    refine qaN X8 hx hby d33_27 ?_
    refine qaN X8 hx hby d33_28 ?_
    show SG p e below T8 (mkF m 29 #[lR r0, lV vI2, lR b8, lV vI0, lU] [(.ref r0), (.ref b8)]) _
    refine qiN X8 hx hby d33_29 ?_
    refine st12 _ ?_
    refine st16 _ ?_
    refine st19 _ ?_
    refine st35 _ ?_
    refine st42 _ ?_
    show SG p e below T42 (mkF m 47 #[lR r0, lV vI2, lR b8, lV vI0, lU] [(.int ((((x7 &&& (255 : Int32)) * (-1640531527 : Int32)).toUInt32 >>> ((30 : Int32) &&& 31).toUInt32).toInt32))]) _
    rw [hq43]
    refine XS.istore X42.here hx rfl (hb hby d33_47) rfl (l' := #[lR r0, lV vI2, lR b8, lV vI0, lI x9]) rfl ?_
    refine qaN X42 hx hby d33_49 ?_
    refine qi X42 hx hby d33_50 ?_
    refine X42.iaload hx (j := x9) (v := (.int (own_at [vI0, vI0, vI0, vI0] (x9).toNatClampNeg))) (by rw [E42]; exact Arq44.1) (State.isArrayOf_alike hZ.alike Arq44.2.1) Arq44.2.2 (inb_of Sq44 ⟨hc46, hc47⟩) (Has.at Hq44 (inb_of Sq44 ⟨hc46, hc47⟩) hc45) (g := (mkF m 52 #[lR r0, lV vI2, lR b8, lV vI0, lI x9] [(.int x9), (.ref b8)])) rfl rfl (hb hby d33_52) _ ?_
    show SG p e below T42 (mkF m 53 #[lR r0, lV vI2, lR b8, lV vI0, lI x9] [(.int (own_at [vI0, vI0, vI0, vI0] (x9).toNatClampNeg))]) _
    refine XS.ifYes X42.here hx rfl (pc0 := 53) (pc' := 67) rfl (hb hby d33_53) rfl ((if0 _ _).trans (teq hc48).1) (by decide) (by decide) ?_
    refine qaN X42 hx hby d33_67 ?_
    refine qi X42 hx hby d33_68 ?_
    refine qiN X42 hx hby d33_70 ?_
    refine qc X42 hx hby d33_71 ?_
    refine XS.iadd X42.here hx rfl (hb hby d33_72) rfl ?_
    refine st53 _ ?_
    refine XS.iinc X53.here hx rfl (hb hby d33_74) rfl (l' := #[lR r0, lV vI2, lR b8, lV vI1, lI x9]) rfl ?_
    refine XS.goto X53.here hx rfl (pc0 := 77) (pc' := 22) rfl (hb hby d33_77) (by decide) (by decide) ?_
    refine qiN X53 hx hby d33_22 ?_
    show SG p e below T53 (mkF m 23 #[lR r0, lV vI2, lR b8, lV vI1, lI x9] [vI1]) _
    refine qiN X53 hx hby d33_23 ?_
    refine XS.icmpNo X53.here hx rfl (hb hby d33_24) rfl (tlt (by decide : (1 : Int32) < (2 : Int32))).2.1 ?_
    refine qaN X53 hx hby d33_27 ?_
    refine qaN X53 hx hby d33_28 ?_
    refine qiN X53 hx hby d33_29 ?_
    refine st59 _ ?_
    refine st63 _ ?_
    refine st69 _ ?_
    refine st89 _ ?_
    refine st94 _ ?_
    show SG p e below T94 (mkF m 47 #[lR r0, lV vI2, lR b8, lV vI1, lI x9] [(.int ((((x13 &&& (255 : Int32)) * (-1640531527 : Int32)).toUInt32 >>> ((30 : Int32) &&& 31).toUInt32).toInt32))]) _
    rw [hq95]
    show SG p e below T94 (mkF m 47 #[lR r0, lV vI2, lR b8, lV vI1, lI x9] [(.int x14)]) _
    refine XS.istore X94.here hx rfl (hb hby d33_47) rfl (l' := #[lR r0, lV vI2, lR b8, lV vI1, lI x14]) rfl ?_
    show SG p e below T94 (mkF m 49 #[lR r0, lV vI2, lR b8, lV vI1, lI x14] []) _
    refine st101 _ ?_
    show SG p e below T101 (mkF m 49 #[lR r0, lV vI2, lR b8, lV vI1, .val (.int (if (own_at (List.set [vI0, vI0, vI0, vI0] (x9).toNatClampNeg vI1) (x14).toNatClampNeg) = (0 : Int32) then x14 else ((x14 + (1 : Int32)) &&& (3 : Int32))))] []) _
    rw [hq102]
    show SG p e below T101 (mkF m 49 #[lR r0, lV vI2, lR b8, lV vI1, lI x15] []) _
    refine qaN X101 hx hby d33_49 ?_
    refine qi X101 hx hby d33_50 ?_
    refine X101.iaload hx (j := x15) (v := (.int (own_at (List.set [vI0, vI0, vI0, vI0] (x9).toNatClampNeg vI1) (x15).toNatClampNeg))) (by rw [e101]; exact Arq103.1) (State.isArrayOf_alike hZ.alike Arq103.2.1) Arq103.2.2 (inb_of Sq103 ⟨hc105, hc106⟩) (Has.at Hq103 (inb_of Sq103 ⟨hc105, hc106⟩) hc104) (g := (mkF m 52 #[lR r0, lV vI2, lR b8, lV vI1, lI x15] [(.int x15), (.ref b8)])) rfl rfl (hb hby d33_52) _ ?_
    refine XS.ifYes X101.here hx rfl (pc0 := 53) (pc' := 67) rfl (hb hby d33_53) rfl ((if0 _ _).trans (teq hc107).1) (by decide) (by decide) ?_
    refine qaN X101 hx hby d33_67 ?_
    refine qi X101 hx hby d33_68 ?_
    refine qiN X101 hx hby d33_70 ?_
    refine qc X101 hx hby d33_71 ?_
    refine XS.iadd X101.here hx rfl (hb hby d33_72) rfl ?_
    refine st110 _ ?_
    show SG p e below T110 (mkF m 74 #[lR r0, lV vI2, lR b8, lV vI1, lI x15] []) _
    refine XS.iinc X110.here hx rfl (hb hby d33_74) rfl (l' := #[lR r0, lV vI2, lR b8, lV vI2, lI x15]) rfl ?_
    refine XS.goto X110.here hx rfl (pc0 := 77) (pc' := 22) rfl (hb hby d33_77) (by decide) (by decide) ?_
    refine qiN X110 hx hby d33_22 ?_
    refine qiN X110 hx hby d33_23 ?_
    refine XS.icmpYes X110.here hx rfl (pc0 := 24) (pc' := 80) rfl (hb hby d33_24) rfl (flt (by decide : ¬ ((2 : Int32) < (2 : Int32)))).2.1 (by decide) (by decide) ?_
    refine qaN X110 hx hby d33_80 ?_
    exact retOut X110 hx (i := .areturn) hret rfl (Or.inr (Or.inr (Or.inr (Or.inr ⟨rfl, rfl, rfl⟩)))) (hb hby d33_81) hr
def Q33_4 (Z : State) (r0 r1 r2 : Addr) (c3 : ClassId) (x4 : Int32) (r5 r6 : Addr) (c7 : ClassId) (x8 : Int32) (r9 r10 r11 : Addr) (x12 : Int32) (h0 : Heap) (n0 : Nat) (v : Option Value) (h : Heap) (L : List Loc) : Prop := ∃ bo : Addr, v = some (.ref bo) ∧ Fr n0 L ∧ Keep h0 h [r2, r6] ∧ Fld Z h r2 "java/lang/String" "coder" "B" vI0 ∧ Fld Z h r2 "java/lang/String" "value" "[B" (.ref r1) ∧ Fld Z h r6 "java/lang/String" "coder" "B" vI0 ∧ Fld Z h r6 "java/lang/String" "value" "[B" (.ref r5) ∧ True
theorem rm33_4 (l : Launch) (Z : State) (a0 : Array Value) (hw : own_HW a0 Z) (ws : List Jvm.Cond) (r0 r1 r2 : Addr) (c3 : ClassId) (x4 : Int32) (r5 r6 : Addr) (c7 : ClassId) (x8 : Int32) (r9 r10 r11 : Addr) (x12 : Int32) (h0 : Heap) (n0 : Nat) (O0 : Old Z n0 h0) (f1 : Fld Z h0 r2 "java/lang/String" "value" "[B" (.ref r1)) (f2 : Arv Z h0 r1 c3 .byte (1 : Int32) [(.int x4)] vI0) (f3 : Fld Z h0 r6 "java/lang/String" "value" "[B" (.ref r5)) (f4 : Arv Z h0 r5 c7 .byte (1 : Int32) [(.int x8)] vI0) (f5 : Exa Z h0 r0 cs7) (f6 : Fld Z h0 r0 cs7 "e1" "Ljava/lang/Object;" (.ref r9)) (f7 : Sta Z Z.heap cs8 "EMPTY" "Ljava/lang/Object;" (.ref r10)) (f8 : Exa Z Z.heap r10 "java/lang/Object") (g9 : n0 ≤ r9) (f10 : Fld Z h0 r0 cs7 "e0" "Ljava/lang/Object;" (.ref r11)) (f11 : Exa Z h0 r11 cs0) (f12 : Fld Z h0 r11 cs0 "path" "Ljava/lang/String;" (.ref r2)) (f13 : Exa Z h0 r2 "java/lang/String") (f14 : Fld Z h0 r2 "java/lang/String" "hash" "I" vI0) (f15 : Fld Z h0 r2 "java/lang/String" "hashIsZero" "Z" vI0) (f16 : Sta Z Z.heap "java/lang/String" "COMPACT_STRINGS" "Z" (.int x12)) (f17 : Fld Z h0 r2 "java/lang/String" "coder" "B" vI0) (g18 : n0 ≤ r2) (l19 : r2 < h0.size) (n20 : r0 ≠ r2) (l21 : r0 < h0.size) (f22 : Exa Z h0 r9 cs0) (f23 : Fld Z h0 r9 cs0 "path" "Ljava/lang/String;" (.ref r6)) (n24 : r9 ≠ r2) (l25 : r9 < h0.size) (f26 : Exa Z h0 r6 "java/lang/String") (n27 : r6 ≠ r2) (l28 : r6 < h0.size) (n29 : r5 ≠ r2) (l30 : r5 < h0.size) (f31 : Fld Z h0 r6 "java/lang/String" "hash" "I" vI0) (f32 : Fld Z h0 r6 "java/lang/String" "hashIsZero" "Z" vI0) (f33 : Fld Z h0 r6 "java/lang/String" "coder" "B" vI0) (g34 : n0 ≤ r6) (hc35 : ¬ (x12 = (0 : Int32))) :
    own_MF l mN40 prog_2_method_9_code 5 (some (.array .int)) ws rR2_1_4_27 Z h0 #[(.ref r0)] (Q33_4 Z r0 r1 r2 c3 x4 r5 r6 c7 x8 r9 r10 r11 x12 h0 n0) := by
  intro p e ha hc hk s m args below hf happ hP hK
  obtain ⟨k0, hk0, e0⟩ := own_us30 ((x4 &&& (255 : Int32)) * (-1640531527 : Int32))
  obtain ⟨k1, hk1, e1⟩ := own_us30 ((x8 &&& (255 : Int32)) * (-1640531527 : Int32))
  obtain ⟨k2, hk2, e2⟩ := own_itek (P := (own_at (List.set [vI0, vI0, vI0, vI0] ((Int32.ofNat k0)).toNatClampNeg vI1) ((Int32.ofNat k1)).toNatClampNeg) = (0 : Int32)) ⟨k1, hk1, rfl⟩ (own_nx4 k1 hk1)
  obtain ⟨nn, o, h1, h2, h3, v, L, rfl, hQ, hE⟩ := rm33_3 l Z a0 hw ws r0 r9 r10 r11 r2 r1 c3 x4 x12 (Int32.ofNat k0) r6 r5 c7 x8 (Int32.ofNat k1) (Int32.ofNat k2) h0 n0 O0 f5 f6 f7 f8 g9 f10 f11 f12 f13 f1 f2 f14 f15 f16 f17 g18 hc35 l19 e0 ((by decide +kernel : ∀ k0 : Nat, k0 < 4 → ([vI0, vI0, vI0, vI0] : List Value).getD ((Int32.ofNat k0)).toNatClampNeg vI0 = (.int (own_at [vI0, vI0, vI0, vI0] ((Int32.ofNat k0)).toNatClampNeg))) k0 hk0) ((by decide +kernel : ∀ k0 : Nat, k0 < 4 → ¬ ((Int32.ofNat k0) < (0 : Int32))) k0 hk0) ((by decide +kernel : ∀ k0 : Nat, k0 < 4 → (Int32.ofNat k0) < (4 : Int32)) k0 hk0) ((by decide +kernel : ∀ k0 : Nat, k0 < 4 → (own_at [vI0, vI0, vI0, vI0] ((Int32.ofNat k0)).toNatClampNeg) = (0 : Int32)) k0 hk0) ((by decide +kernel : ∀ k0 : Nat, k0 < 4 → ((Int32.ofNat k0)).toNatClampNeg < ([vI0, vI0, vI0, vI0] : List Value).length) k0 hk0) n20 l21 f22 f23 n24 l25 f26 f3 n27 l28 f4 n29 l30 f31 f32 f33 g34 e1 ((by decide +kernel : ∀ k0 : Nat, k0 < 4 → ∀ k1 : Nat, k1 < 4 → (List.set [vI0, vI0, vI0, vI0] ((Int32.ofNat k0)).toNatClampNeg vI1).getD ((Int32.ofNat k1)).toNatClampNeg vI0 = (.int (own_at (List.set [vI0, vI0, vI0, vI0] ((Int32.ofNat k0)).toNatClampNeg vI1) ((Int32.ofNat k1)).toNatClampNeg))) k0 hk0 k1 hk1) ((by decide +kernel : ∀ k1 : Nat, k1 < 4 → ¬ ((Int32.ofNat k1) < (0 : Int32))) k1 hk1) ((by decide +kernel : ∀ k1 : Nat, k1 < 4 → (Int32.ofNat k1) < (4 : Int32)) k1 hk1) e2 ((by decide +kernel : ∀ k0 : Nat, k0 < 4 → ∀ k2 : Nat, k2 < 4 → (List.set [vI0, vI0, vI0, vI0] ((Int32.ofNat k0)).toNatClampNeg vI1).getD ((Int32.ofNat k2)).toNatClampNeg vI0 = (.int (own_at (List.set [vI0, vI0, vI0, vI0] ((Int32.ofNat k0)).toNatClampNeg vI1) ((Int32.ofNat k2)).toNatClampNeg))) k0 hk0 k2 hk2) ((by decide +kernel : ∀ k2 : Nat, k2 < 4 → ¬ ((Int32.ofNat k2) < (0 : Int32))) k2 hk2) ((by decide +kernel : ∀ k2 : Nat, k2 < 4 → (Int32.ofNat k2) < (4 : Int32)) k2 hk2) ((by decide +kernel : ∀ k0 : Nat, k0 < 4 → ∀ k1 : Nat, k1 < 4 → ∀ k2 : Nat, k2 < 4 → ((if (own_at (List.set [vI0, vI0, vI0, vI0] ((Int32.ofNat k0)).toNatClampNeg vI1) ((Int32.ofNat k1)).toNatClampNeg) = (0 : Int32) then (Int32.ofNat k1) else (((Int32.ofNat k1) + (1 : Int32)) &&& (3 : Int32))) = Int32.ofNat k2) → (own_at (List.set [vI0, vI0, vI0, vI0] ((Int32.ofNat k0)).toNatClampNeg vI1) ((Int32.ofNat k2)).toNatClampNeg) = (0 : Int32)) k0 hk0 k1 hk1 k2 hk2 e2) ((by decide +kernel : ∀ k0 : Nat, k0 < 4 → ∀ k2 : Nat, k2 < 4 → ((Int32.ofNat k2)).toNatClampNeg < ((List.set [vI0, vI0, vI0, vI0] ((Int32.ofNat k0)).toNatClampNeg vI1) : List Value).length) k0 hk0 k2 hk2) p e ha hc hk s m args below hf happ hP hK
  obtain ⟨b8, k8, rfl, N, K, e0, e1, e2, e3, e4, e5, e6⟩ := hQ
  exact ⟨nn, _, h1, h2, h3, _, L, rfl, ⟨_, rfl, N, K, e0, e1, e2, e3, trivial⟩, hE⟩
def Q16_2 (Z : State) (r0 r1 : Addr) (x2 : Int32) (r7 r8 : Addr) (r9 r12 r13 : Addr) (h0 : Heap) (n0 : Nat) (v : Option Value) (h : Heap) (L : List Loc) : Prop := ∃ (b29_0 b90_0 b133_0 : Addr), v = none ∧ Fr n0 L ∧ Keep h0 h [r0, r1, r13] ∧ Fld Z h r0 cs11 "id" "Ljava/lang/String;" (.ref r1) ∧ Fld Z h r0 cs11 "length" "I" (.int x2) ∧ Fld Z h r0 cs11 "elements" "Ljava/util/List;" (.ref b29_0) ∧ Fld Z h r0 cs11 "subtreeEnds" "[I" (.ref b90_0) ∧ Fld Z h r0 cs11 "placesByPath" "[I" (.ref b133_0) ∧ Fld Z h r1 "java/lang/String" "coder" "B" vI0 ∧ Fld Z h r1 "java/lang/String" "value" "[B" (.ref r9) ∧ Fld Z h r13 "java/lang/String" "coder" "B" vI0 ∧ Fld Z h r13 "java/lang/String" "value" "[B" (.ref r12) ∧ h0.size ≤ b29_0 ∧ Exa Z h b29_0 cs7 ∧ Fld Z h b29_0 cs7 "e0" "Ljava/lang/Object;" (.ref r7) ∧ Fld Z h b29_0 cs7 "e1" "Ljava/lang/Object;" (.ref r8) ∧ True ∧ True
theorem rm16_2 (l : Launch) (Z : State) (a0 : Array Value) (hw : own_HW a0 Z) (ws : List Jvm.Cond) (r0 r1 : Addr) (x2 : Int32) (r3 r4 r5 : Addr) (c6 : ClassId) (r7 r8 r9 : Addr) (c10 : ClassId) (x11 : Int32) (r12 r13 : Addr) (c14 : ClassId) (x15 : Int32) (r16 : Addr) (x17 : Int32) (h0 : Heap) (n0 : Nat) (O0 : Old Z n0 h0) (f2 : Exa Z h0 r0 cs11) (f3 : Fld Z h0 r0 cs11 "id" "Ljava/lang/String;" .null) (g4 : n0 ≤ r0) (f7 : Fld Z h0 r0 cs11 "length" "I" vI0) (f10 : Exa Z h0 r3 "java/util/ArrayList") (f12 : Fld Z h0 r3 "java/util/ArrayList" "size" "I" vI2) (n13 : r3 ≠ r0) (f15 : Fld Z h0 r3 "java/util/ArrayList" "elementData" "[Ljava/lang/Object;" (.ref r4)) (f17 : Exa Z h0 r4 "[Ljava/lang/Object;") (f19 : own_Mir Z "[Ljava/lang/Object;" r5) (f20 : Arv Z h0 r4 c6 (.object "java/lang/Object") (10 : Int32) [(.ref r7), (.ref r8), .null, .null, .null, .null, .null, .null, .null, .null] .null) (n21 : r4 ≠ r0) (f23 : Exa Z h0 r8 cs0) (f25 : Exa Z h0 r7 cs0) (f35 : Fld Z h0 r0 cs11 "elements" "Ljava/util/List;" .null) (f39 : Fld Z h0 r1 "java/lang/String" "value" "[B" (.ref r9)) (n40 : r1 ≠ r0) (f42 : Arv Z h0 r9 c10 .byte (1 : Int32) [(.int x11)] vI0) (n43 : r9 ≠ r0) (f45 : Fld Z h0 r13 "java/lang/String" "value" "[B" (.ref r12)) (n46 : r13 ≠ r0) (f48 : Arv Z h0 r12 c14 .byte (1 : Int32) [(.int x15)] vI0) (n49 : r12 ≠ r0) (l52 : r0 < h0.size) (f57 : Sta Z Z.heap cs8 "EMPTY" "Ljava/lang/Object;" (.ref r16)) (f58 : Exa Z Z.heap r16 "java/lang/Object") (g59 : n0 ≤ r8) (f62 : Fld Z h0 r7 cs0 "path" "Ljava/lang/String;" (.ref r1)) (n63 : r7 ≠ r0) (f67 : Fld Z h0 r8 cs0 "path" "Ljava/lang/String;" (.ref r13)) (n68 : r8 ≠ r0) (l70 : r8 < h0.size) (l73 : r7 < h0.size) (f74 : Exa Z h0 r13 "java/lang/String") (l76 : r13 < h0.size) (l77 : r12 < h0.size) (f78 : Sta Z Z.heap "java/lang/String" "COMPACT_STRINGS" "Z" (.int x17)) (f79 : Fld Z h0 r13 "java/lang/String" "coder" "B" vI0) (f81 : Exa Z h0 r1 "java/lang/String") (l83 : r1 < h0.size) (l84 : r9 < h0.size) (f85 : Fld Z h0 r1 "java/lang/String" "coder" "B" vI0) (hc87 : ¬ (x17 = (0 : Int32))) (f93 : Fld Z h0 r0 cs11 "subtreeEnds" "[I" .null) (f108 : Fld Z h0 r1 "java/lang/String" "hash" "I" vI0) (f110 : Fld Z h0 r1 "java/lang/String" "hashIsZero" "Z" vI0) (g113 : n0 ≤ r1) (n121 : r8 ≠ r1) (n123 : r13 ≠ r1) (n124 : r12 ≠ r1) (f125 : Fld Z h0 r13 "java/lang/String" "hash" "I" vI0) (f127 : Fld Z h0 r13 "java/lang/String" "hashIsZero" "Z" vI0) (g130 : n0 ≤ r13) (f140 : Fld Z h0 r0 cs11 "placesByPath" "[I" .null) :
    own_MF l mN41 prog_2_method_1_code 4 none ws rR8_5_12_102 Z h0 #[(.ref r0), (.ref r1), (.int x2), (.ref r3)] (Q16_2 Z r0 r1 x2 r7 r8 r9 r12 r13 h0 n0) := by
  refine own_open (plainFor_of_name pn_com_example_nearmiss_nearmiss_Document) (L0 := #[lR r0, lR r1, lI x2, lR r3]) (fun _ => by first | (simp [entryFrame, mkF, argsToLocals, Value.category]; done) | rfl) ?_
  intro p e s m below meth c s₁ hx hby hml hret hnn hZ hown X0 e0
  have N0 := Fr.nil n0; have w := @ww Z a0 hw
  have hnm := (name_of_methodNamed hnn.1 hnn.2).1
  obtain ⟨T1, X1, e1, st1⟩ := initO X0 hx hZ hown (w 109 rfl) (w 20 rfl) (w 21 rfl) e0 (g := (mkF m 1 #[lR r0, lR r1, lI x2, lR r3] [(.ref r0)])) rfl (by rw [hml]; rfl) rfl (hb hby d16_1) (by decide) (W := 0) (own_W rfl) (by decide)
  obtain ⟨T5, h5, X5, e5, W5, st5⟩ := putF X1 hx hZ hown (host := "") (Or.inl (w 110 rfl)) Via.refl e1 f3 f2 (Or.inr ⟨(w 111 rfl), rfl, hnm⟩) (w 104 rfl) (ty := (.object "java/lang/String")) (by decide) rfl rfl (g := (mkF m 6 #[lR r0, lR r1, lI x2, lR r3] [(.ref r1), (.ref r0)])) rfl rfl (hb hby d16_6)
  have Fw5 := f3.same W5
  have N5 := Fr.snoc X5 N0 g4
  have f6 := (f2.wr W5)
  have f8 := (f7.other W5 (Or.inr (slot_ne (Or.inr (w 113 rfl)) (Or.inr (w 111 rfl)) (by decide) (t := .int) (t' := (.object "java/lang/String")) (by decide) (by decide))))
  obtain ⟨T9, h9, X9, e9, W9, st9⟩ := putF X5 hx hZ hown (host := "") (Or.inl (w 112 rfl)) Via.refl e5 f8 f6 (Or.inr ⟨(w 113 rfl), rfl, hnm⟩) (w 104 rfl) (ty := .int) (by decide) rfl rfl (g := (mkF m 11 #[lR r0, lR r1, lI x2, lR r3] [(.int x2), (.ref r0)])) rfl rfl (hb hby d16_11)
  have Fw9 := f8.same W9
  have N9 := Fr.snoc X9 N5 g4
  have f11 := ((f10.wr W5).wr W9)
  have f14 := ((f12.other W5 (Or.inl n13)).other W9 (Or.inl n13))
  have f16 := ((f15.other W5 (Or.inl n13)).other W9 (Or.inl n13))
  have f18 := ((f17.wr W5).wr W9)
  have f22 := ((f20.other W5 n21).other W9 n21)
  have f24 := ((f23.wr W5).wr W9)
  have f26 := ((f25.wr W5).wr W9)
  have o27 := Old.wr O0 W5 g4
  have o28 := Old.wr o27 W9 g4
  obtain ⟨_, T29, Lc29, X29, hQ29, st29⟩ := own_cS X9 hx hZ hown e9 (rm17_2 l Z a0 hw [] r3 r4 r5 c6 r7 r8 h9 n0 o28 f11 f14 f16 f18 f19 f22 f24 f26) (w 114 rfl) (w 115 rfl) (w 116 rfl) (w 117 rfl) (by decide) (W := 1) (by decide) (by decide) (by decide) (by decide) (g := (mkF m 16 #[lR r0, lR r1, lI x2, lR r3] [(.ref r3), (.ref r0)])) rfl (by rw [hml]; rfl) (argsL := [(.ref r3)]) (rest := [(.ref r0)]) (lenOf pd__Ljava_util_Collection__Ljava_util_List_ rfl) rfl (own_W rfl) (hb hby d16_16)
  obtain ⟨b29_0, rfl, N29q, K29, f30, f31, f32, f33⟩ := hQ29
  have N29 := Fr.app N9 N29q
  have f34 := ((f6.wr W9).keep K29)
  have f36 := (((f35.other W5 (Or.inr (slot_ne (Or.inr (w 201 rfl)) (Or.inr (w 111 rfl)) (by decide) (t := (.object "java/util/List")) (t' := (.object "java/lang/String")) (by decide) (by decide)))).other W9 (Or.inr (slot_ne (Or.inr (w 201 rfl)) (Or.inr (w 113 rfl)) (by decide) (t := (.object "java/util/List")) (t' := .int) (by decide) (by decide)))).keep K29 nin0)
  obtain ⟨T37, h37, X37, e37, W37, st37⟩ := putF X29 hx hZ hown (host := "") (Or.inl (w 200 rfl)) Via.refl rfl f36 f34 (Or.inr ⟨(w 201 rfl), rfl, hnm⟩) (w 104 rfl) (ty := (.object "java/util/List")) (by decide) rfl rfl (g := (mkF m 19 #[lR r0, lR r1, lI x2, lR r3] [(.ref b29_0), (.ref r0)])) rfl rfl (hb hby d16_19)
  have Fw37 := f36.same W37
  have N37 := Fr.snoc X37 N29 g4
  obtain ⟨T38, X38, e38, st38⟩ := getF X37 hx hZ hown (host := "") (Or.inl (w 200 rfl)) Via.refl e37 Fw37 (g := (mkF m 24 #[lR r0, lR r1, lI x2, lR r3] [(.ref r0), (.ref r0)])) rfl rfl (hb hby d16_24)
  have f41 := ((((f39.other W5 (Or.inl n40)).other W9 (Or.inl n40)).keep K29 nin0).other W37 (Or.inl n40))
  have f44 := ((((f42.other W5 n43).other W9 n43).keep K29 nin0).other W37 n43)
  have f47 := ((((f45.other W5 (Or.inl n46)).other W9 (Or.inl n46)).keep K29 nin0).other W37 (Or.inl n46))
  have f50 := ((((f48.other W5 n49).other W9 n49).keep K29 nin0).other W37 n49)
  have f51 := (f31.wr W37)
  have zs53 := (Nat.le_of_eq W5.size.symm)
  have zs54 := Nat.le_trans zs53 (Nat.le_of_eq W9.size.symm)
  have n55 := Nat.ne_of_lt (Nat.lt_of_lt_of_le (Nat.lt_of_lt_of_le l52 zs54) f30)
  have f56 := (f33.other W37 (Or.inl (Ne.symm n55)))
  have f60 := (f32.other W37 (Or.inl (Ne.symm n55)))
  have f61 := ((f26.keep K29).wr W37)
  have f64 := ((((f62.other W5 (Or.inl n63)).other W9 (Or.inl n63)).keep K29 nin0).other W37 (Or.inl n63))
  have zs65 := (Nat.le_of_eq W37.size.symm)
  have f66 := ((f24.keep K29).wr W37)
  have f69 := ((((f67.other W5 (Or.inl n68)).other W9 (Or.inl n68)).keep K29 nin0).other W37 (Or.inl n68))
  have zs71 := Nat.le_trans zs54 K29.1
  have zs72 := Nat.le_trans zs71 (Nat.le_of_eq W37.size.symm)
  have f75 := ((((f74.wr W5).wr W9).keep K29).wr W37)
  have f80 := ((((f79.other W5 (Or.inl n46)).other W9 (Or.inl n46)).keep K29 nin0).other W37 (Or.inl n46))
  have f82 := ((((f81.wr W5).wr W9).keep K29).wr W37)
  have f86 := ((((f85.other W5 (Or.inl n40)).other W9 (Or.inl n40)).keep K29 nin0).other W37 (Or.inl n40))
  have o88 := Old.keep o28 K29 all0
  have o89 := Old.wr o88 W37 g4
  obtain ⟨_, T90, Lc90, X90, hQ90, st90⟩ := own_cS X38 hx hZ hown e38 (rm29_5 l Z a0 hw [] b29_0 r9 r1 c10 x11 r12 r13 c14 x15 r8 r16 r7 x17 h37 n0 o89 f41 f44 f47 f50 f51 f56 f57 f58 g59 f60 f61 f64 (Nat.lt_of_lt_of_le f31.lt zs65) f66 f69 (Nat.lt_of_lt_of_le l70 zs72) (Nat.lt_of_lt_of_le l73 zs72) f75 (Nat.lt_of_lt_of_le l76 zs72) (Nat.lt_of_lt_of_le l77 zs72) f78 f80 f82 (Nat.lt_of_lt_of_le l83 zs72) (Nat.lt_of_lt_of_le l84 zs72) f86 hc87) (w 202 rfl) (w 203 rfl) (w 105 rfl) (w 204 rfl) (by decide) (W := 1) (by decide) (by decide) (by decide) (by decide) (g := (mkF m 27 #[lR r0, lR r1, lI x2, lR r3] [(.ref b29_0), (.ref r0)])) rfl (by rw [hml]; rfl) (argsL := [(.ref b29_0)]) (rest := [(.ref r0)]) (lenOf pd__Ljava_util_List___I rfl) rfl (own_W rfl) (hb hby d16_27)
  obtain ⟨b90_0, rfl, N90q, K90, f91⟩ := hQ90
  have N90 := Fr.app N37 N90q
  have f92 := ((f34.wr W37).keep K90)
  have f94 := (((((f93.other W5 (Or.inr (slot_ne (Or.inr (w 231 rfl)) (Or.inr (w 111 rfl)) (by decide) (t := (.array .int)) (t' := (.object "java/lang/String")) (by decide) (by decide)))).other W9 (Or.inr (slot_ne (Or.inr (w 231 rfl)) (Or.inr (w 113 rfl)) (by decide) (t := (.array .int)) (t' := .int) (by decide) (by decide)))).keep K29 nin0).other W37 (Or.inr (slot_ne (Or.inr (w 231 rfl)) (Or.inr (w 201 rfl)) (by decide) (t := (.array .int)) (t' := (.object "java/util/List")) (by decide) (by decide)))).keep K90 nin0)
  obtain ⟨T95, h95, X95, e95, W95, st95⟩ := putF X90 hx hZ hown (host := "") (Or.inl (w 230 rfl)) Via.refl rfl f94 f92 (Or.inr ⟨(w 231 rfl), rfl, hnm⟩) (w 104 rfl) (ty := (.array .int)) (by decide) rfl rfl (g := (mkF m 30 #[lR r0, lR r1, lI x2, lR r3] [(.ref b90_0), (.ref r0)])) rfl rfl (hb hby d16_30)
  have Fw95 := f94.same W95
  have N95 := Fr.snoc X95 N90 g4
  have f96 := ((Fw37.keep K90 nin0).other W95 (Or.inr (slot_ne (Or.inr (w 201 rfl)) (Or.inr (w 231 rfl)) (by decide) (t := (.object "java/util/List")) (t' := (.array .int)) (by decide) (by decide))))
  obtain ⟨T97, X97, e97, st97⟩ := getF X95 hx hZ hown (host := "") (Or.inl (w 200 rfl)) Via.refl e95 f96 (g := (mkF m 35 #[lR r0, lR r1, lI x2, lR r3] [(.ref r0), (.ref r0)])) rfl rfl (hb hby d16_35)
  have f98 := ((f41.keep K90 nin0).other W95 (Or.inl n40))
  have f99 := ((f44.keep K90 nin0).other W95 n43)
  have f100 := ((f47.keep K90 nin0).other W95 (Or.inl n46))
  have f101 := ((f50.keep K90 nin0).other W95 n49)
  have f102 := ((f51.keep K90).wr W95)
  have f103 := ((f56.keep K90 nin0).other W95 (Or.inl (Ne.symm n55)))
  have f104 := ((f60.keep K90 nin0).other W95 (Or.inl (Ne.symm n55)))
  have f105 := ((f61.keep K90).wr W95)
  have f106 := ((f64.keep K90 nin0).other W95 (Or.inl n63))
  have f107 := ((f82.keep K90).wr W95)
  have f109 := ((((((f108.other W5 (Or.inl n40)).other W9 (Or.inl n40)).keep K29 nin0).other W37 (Or.inl n40)).keep K90 nin0).other W95 (Or.inl n40))
  have f111 := ((((((f110.other W5 (Or.inl n40)).other W9 (Or.inl n40)).keep K29 nin0).other W37 (Or.inl n40)).keep K90 nin0).other W95 (Or.inl n40))
  have f112 := ((f86.keep K90 nin0).other W95 (Or.inl n40))
  have zs114 := Nat.le_trans zs72 K90.1
  have zs115 := Nat.le_trans zs114 (Nat.le_of_eq W95.size.symm)
  have n116 := Nat.ne_of_lt (Nat.lt_of_lt_of_le (Nat.lt_of_lt_of_le l83 zs54) f30)
  have zs117 := Nat.le_trans zs65 K90.1
  have zs118 := Nat.le_trans zs117 (Nat.le_of_eq W95.size.symm)
  have f119 := ((f66.keep K90).wr W95)
  have f120 := ((f69.keep K90 nin0).other W95 (Or.inl n68))
  have f122 := ((f75.keep K90).wr W95)
  have f126 := ((((((f125.other W5 (Or.inl n46)).other W9 (Or.inl n46)).keep K29 nin0).other W37 (Or.inl n46)).keep K90 nin0).other W95 (Or.inl n46))
  have f128 := ((((((f127.other W5 (Or.inl n46)).other W9 (Or.inl n46)).keep K29 nin0).other W37 (Or.inl n46)).keep K90 nin0).other W95 (Or.inl n46))
  have f129 := ((f80.keep K90 nin0).other W95 (Or.inl n46))
  have o131 := Old.keep o89 K90 all0
  have o132 := Old.wr o131 W95 g4
  obtain ⟨_, T133, Lc133, X133, hQ133, st133⟩ := own_cS X97 hx hZ hown e97 (rm33_4 l Z a0 hw [] b29_0 r9 r1 c10 x11 r12 r13 c14 x15 r8 r16 r7 x17 h95 n0 o132 f98 f99 f100 f101 f102 f103 f57 f58 g59 f104 f105 f106 f107 f109 f111 f78 f112 g113 (Nat.lt_of_lt_of_le l83 zs115) (Ne.symm n116) (Nat.lt_of_lt_of_le f31.lt zs118) f119 f120 n121 (Nat.lt_of_lt_of_le l70 zs115) f122 n123 (Nat.lt_of_lt_of_le l76 zs115) n124 (Nat.lt_of_lt_of_le l77 zs115) f126 f128 f129 g130 hc87) (w 232 rfl) (w 233 rfl) (w 105 rfl) (w 234 rfl) (by decide) (W := 1) (by decide) (by decide) (by decide) (by decide) (g := (mkF m 38 #[lR r0, lR r1, lI x2, lR r3] [(.ref b29_0), (.ref r0)])) rfl (by rw [hml]; rfl) (argsL := [(.ref b29_0)]) (rest := [(.ref r0)]) (lenOf pd__Ljava_util_List___I rfl) rfl (own_W rfl) (hb hby d16_38)
  obtain ⟨b133_0, rfl, N133q, K133, f134, f135, f136, f137, f138⟩ := hQ133
  have N133 := Fr.app N95 N133q
  have f139 := ((f92.wr W95).keep K133)
  have f141 := (((((((f140.other W5 (Or.inr (slot_ne (Or.inr (w 267 rfl)) (Or.inr (w 111 rfl)) (by decide) (t := (.array .int)) (t' := (.object "java/lang/String")) (by decide) (by decide)))).other W9 (Or.inr (slot_ne (Or.inr (w 267 rfl)) (Or.inr (w 113 rfl)) (by decide) (t := (.array .int)) (t' := .int) (by decide) (by decide)))).keep K29 nin0).other W37 (Or.inr (slot_ne (Or.inr (w 267 rfl)) (Or.inr (w 201 rfl)) (by decide) (t := (.array .int)) (t' := (.object "java/util/List")) (by decide) (by decide)))).keep K90 nin0).other W95 (Or.inr (slot_ne (Or.inr (w 267 rfl)) (Or.inr (w 231 rfl)) (by decide) (t := (.array .int)) (t' := (.array .int)) (by decide) (by decide)))).keep K133 (ninS (Ne.symm n40) (ninS (Ne.symm n46) nin0)))
  obtain ⟨T142, h142, X142, e142, W142, st142⟩ := putF X133 hx hZ hown (host := "") (Or.inl (w 266 rfl)) Via.refl rfl f141 f139 (Or.inr ⟨(w 267 rfl), rfl, hnm⟩) (w 104 rfl) (ty := (.array .int)) (by decide) rfl rfl (g := (mkF m 41 #[lR r0, lR r1, lI x2, lR r3] [(.ref b133_0), (.ref r0)])) rfl rfl (hb hby d16_41)
  have Fw142 := f141.same W142
  have N142 := Fr.snoc X142 N133 g4
  have f143 := (((((((Fw5.other W9 (Or.inr (slot_ne (Or.inr (w 111 rfl)) (Or.inr (w 113 rfl)) (by decide) (t := (.object "java/lang/String")) (t' := .int) (by decide) (by decide)))).keep K29 nin0).other W37 (Or.inr (slot_ne (Or.inr (w 111 rfl)) (Or.inr (w 201 rfl)) (by decide) (t := (.object "java/lang/String")) (t' := (.object "java/util/List")) (by decide) (by decide)))).keep K90 nin0).other W95 (Or.inr (slot_ne (Or.inr (w 111 rfl)) (Or.inr (w 231 rfl)) (by decide) (t := (.object "java/lang/String")) (t' := (.array .int)) (by decide) (by decide)))).keep K133 (ninS (Ne.symm n40) (ninS (Ne.symm n46) nin0))).other W142 (Or.inr (slot_ne (Or.inr (w 111 rfl)) (Or.inr (w 267 rfl)) (by decide) (t := (.object "java/lang/String")) (t' := (.array .int)) (by decide) (by decide))))
  have f144 := ((((((Fw9.keep K29 nin0).other W37 (Or.inr (slot_ne (Or.inr (w 113 rfl)) (Or.inr (w 201 rfl)) (by decide) (t := .int) (t' := (.object "java/util/List")) (by decide) (by decide)))).keep K90 nin0).other W95 (Or.inr (slot_ne (Or.inr (w 113 rfl)) (Or.inr (w 231 rfl)) (by decide) (t := .int) (t' := (.array .int)) (by decide) (by decide)))).keep K133 (ninS (Ne.symm n40) (ninS (Ne.symm n46) nin0))).other W142 (Or.inr (slot_ne (Or.inr (w 113 rfl)) (Or.inr (w 267 rfl)) (by decide) (t := .int) (t' := (.array .int)) (by decide) (by decide))))
  have f145 := ((f96.keep K133 (ninS (Ne.symm n40) (ninS (Ne.symm n46) nin0))).other W142 (Or.inr (slot_ne (Or.inr (w 201 rfl)) (Or.inr (w 267 rfl)) (by decide) (t := (.object "java/util/List")) (t' := (.array .int)) (by decide) (by decide))))
  have f146 := ((Fw95.keep K133 (ninS (Ne.symm n40) (ninS (Ne.symm n46) nin0))).other W142 (Or.inr (slot_ne (Or.inr (w 231 rfl)) (Or.inr (w 267 rfl)) (by decide) (t := (.array .int)) (t' := (.array .int)) (by decide) (by decide))))
  have f147 := (f134.other W142 (Or.inl n40))
  have f148 := (f135.other W142 (Or.inl n40))
  have f149 := (f136.other W142 (Or.inl n46))
  have f150 := (f137.other W142 (Or.inl n46))
  have f151 := ((f102.keep K133).wr W142)
  have n152 := Nat.ne_of_lt (Nat.lt_of_lt_of_le (Nat.lt_of_lt_of_le l76 zs54) f30)
  have f153 := ((f104.keep K133 (ninS (Ne.symm n116) (ninS (Ne.symm n152) nin0))).other W142 (Or.inl (Ne.symm n55)))
  have f154 := ((f103.keep K133 (ninS (Ne.symm n116) (ninS (Ne.symm n152) nin0))).other W142 (Or.inl (Ne.symm n55)))
  have kp155 : Keep h0 h5 [r0, r1, r13] := (Keep.refl h0 [r0, r1, r13]).wr W5 (Or.inl (List.mem_of_getElem? (i := 0) rfl))
  have kp156 : Keep h0 h9 [r0, r1, r13] := kp155.wr W9 (Or.inl (List.mem_of_getElem? (i := 0) rfl))
  have kp157 : Keep h0 T29.heap [r0, r1, r13] := kp156.trans K29 all0
  have kp158 : Keep h0 h37 [r0, r1, r13] := kp157.wr W37 (Or.inl (List.mem_of_getElem? (i := 0) rfl))
  have kp159 : Keep h0 T90.heap [r0, r1, r13] := kp158.trans K90 all0
  have kp160 : Keep h0 h95 [r0, r1, r13] := kp159.wr W95 (Or.inl (List.mem_of_getElem? (i := 0) rfl))
  have kp161 : Keep h0 T133.heap [r0, r1, r13] := kp160.trans K133 (allS (Or.inl (List.mem_of_getElem? (i := 1) rfl)) (allS (Or.inl (List.mem_of_getElem? (i := 2) rfl)) all0))
  have kp162 : Keep h0 h142 [r0, r1, r13] := kp161.wr W142 (Or.inl (List.mem_of_getElem? (i := 0) rfl))
  refine ⟨none, _, _, _, _, (fun _ => rfl), X142, by decide, by decide, ?_, fun fs hr => ?_⟩
  · rw [e142]; exact ⟨b29_0, b90_0, b133_0, rfl, N142, kp162, f143, f144, f145, f146, Fw142, f147, f148, f149, f150, (Nat.le_trans zs54 f30), f151, f153, f154, trivial, trivial⟩
  · show SG p e below s₁ (mkF m 0 #[lR r0, lR r1, lI x2, lR r3] []) _
    refine qaN X0 hx hby d16_0 ?_
    refine st1 _ ?_
    refine qaN X1 hx hby d16_4 ?_
    refine qaN X1 hx hby d16_5 ?_
    refine st5 _ ?_
    refine qaN X5 hx hby d16_9 ?_
    refine qiN X5 hx hby d16_10 ?_
    refine st9 _ ?_
    refine qaN X9 hx hby d16_14 ?_
    refine qaN X9 hx hby d16_15 ?_
    show SG p e below T9 (mkF m 16 #[lR r0, lR r1, lI x2, lR r3] [(.ref r3), (.ref r0)]) _
    refine st29 _ ?_
    refine st37 _ ?_
    refine qaN X37 hx hby d16_22 ?_
    refine qaN X37 hx hby d16_23 ?_
    refine st38 _ ?_
    refine st90 _ ?_
    refine st95 _ ?_
    refine qaN X95 hx hby d16_33 ?_
    refine qaN X95 hx hby d16_34 ?_
    refine st97 _ ?_
    show SG p e below T97 (mkF m 38 #[lR r0, lR r1, lI x2, lR r3] [(.ref b29_0), (.ref r0)]) _
    refine st133 _ ?_
    refine st142 _ ?_
    exact X142.returnOut hx hret (hb hby d16_44) hr
def Q0_2 (Z : State)  (h0 : Heap) (n0 : Nat) (v : Option Value) (h : Heap) (L : List Loc) : Prop := v = some vI1 ∧ Fr n0 L
theorem rm0_2 (l : Launch) (Z : State) (a0 : Array Value) (hw : own_HW a0 Z) (ws : List Jvm.Cond) (x0 x1 : Int32) (x2 x3 : Int32) (x4 x5 x6 : Int32) (r7 : Addr) (c8 : ClassId) (r9 r10 : Addr) (h0 : Heap) (n0 : Nat) (O0 : Old Z n0 h0) (hc1 : ((x5 &&& (3 : Int32)) % (3 : Int32)) = (1 : Int32)) (f2 : Sta Z Z.heap "java/lang/String" "COMPACT_STRINGS" "Z" (.int x6)) (hc3 : ¬ (x6 = (0 : Int32))) (hc4 : ¬ ((255 : Int32) < ((x0 &&& (255 : Int32)).toUInt32.toUInt16.toUInt32.toInt32))) (f35 : Sta Z Z.heap "java/util/ArrayList" cs2 "[Ljava/lang/Object;" (.ref r7)) (f42 : Arv Z Z.heap r7 c8 (.object "java/lang/Object") (0 : Int32) [] .null) (hc58 : ¬ ((255 : Int32) < ((x3 &&& (255 : Int32)).toUInt32.toUInt16.toUInt32.toInt32))) (f119 : own_Mir Z "[Ljava/lang/Object;" r9) (f161 : Sta Z Z.heap cs8 "EMPTY" "Ljava/lang/Object;" (.ref r10)) (f162 : Exa Z Z.heap r10 "java/lang/Object") :
    MetFree l x (head1 (Jvm.Cond.code x code maxLocals ret :: ws) room_1) (fun a U => a = #[(.int x0), (.int x1), (.int x2), (.int x3), (.int x4), (.int x5)] ∧ Z.Warmed39 U.vm ∧ U.heap = h0) (fun _ _ _ _ _ => True) (fun _ U o U' => ∃ v L, o = .returned v ∧ Q0_2 Z  h0 n0 v U'.heap L ∧ FrameEnd U o U' L room_1.cells room_1.slots) := by
  refine MetFree.of_bodySF (plainFor_of_name pn_com_example_nearmiss_nearmiss_DocumentRootPinLaw) hisR ?_
  intro p e s m args below meth c s₁ Bd hml0 hP hK
  obtain ⟨rfl, hZ, hh⟩ := hP
  have hx := Bd.exec
  have hby := Bd.bytes
  have hml : c.maxLocals = 12 := hml0
  have hown : s.vm.findClass cs13 = some m.cls := findClass_of_methodNamed Bd.named
  have X0 : Stand p l e room_1 s m #[(.int x0), (.int x1), (.int x2), (.int x3), (.int x4), (.int x5)] below meth c s₁ [] 0 0 := Stand.of_body Bd
  have e0 : s₁.heap = h0 := by rw [← hh, Bd.state]; rfl
  have N0 := Fr.nil n0; have w := @ww Z a0 hw
  have pre0 : ∀ t, Steps p.tables e below (s₁.setTop (mkF m 0 #[lI x0, lI x1, lI x2, lI x3, lI x4, lI x5, lU, lU, lU, lU, lU, lU] [])) t → Steps p.tables e below (s₁.setTop (entryFrame m #[(.int x0), (.int x1), (.int x2), (.int x3), (.int x4), (.int x5)] maxLocals)) t := fun t k => castTop (by first | (simp [entryFrame, mkF, argsToLocals, Value.category, maxLocals]; done) | rfl) k
  obtain ⟨_, T5, Lc5, X5, hQ5, st5⟩ := own_cS X0 hx hZ hown e0 (rm1_1 l Z a0 hw [] ((x0 &&& (255 : Int32)).toUInt32.toUInt16.toUInt32.toInt32) x6 h0 n0 O0 f2 hc3 hc4) (w 0 rfl) (w 1 rfl) (w 2 rfl) (w 3 rfl) (by decide) (W := 0) (by decide) (by decide) (by decide) (by decide) (g := (mkF m 16 #[lI x0, lI x1, lI x2, lI x3, lI x4, lI x5, lV vI2, lU, lU, lU, lU, lU] [(.int ((x0 &&& (255 : Int32)).toUInt32.toUInt16.toUInt32.toInt32))])) rfl (by rw [hml]; rfl) (argsL := [(.int ((x0 &&& (255 : Int32)).toUInt32.toUInt16.toUInt32.toInt32))]) (rest := []) (lenOf pd__C_Ljava_lang_String_ rfl) rfl (own_W rfl) (hb hby at_16)
  obtain ⟨b5_0, b5_1, k5_0, rfl, N5q, K5, f6, f7, f8, f9, f10, f11, f12, f13, f14, f15⟩ := hQ5
  have N5 := Fr.app N0 N5q
  obtain ⟨T16, h16, X16, e16, E16, A16, D16, -, st16⟩ := newO X5 hx hZ hown (w 26 rfl) (w 27 rfl) (w 28 rfl) rfl (g := (mkF m 21 #[lI x0, lI x1, lI x2, lI x3, lI x4, lI x5, lV vI2, lR b5_0, lU, lU, lU, lU] [])) rfl (hb hby at_21) (by decide) (by decide)
  obtain ⟨b16, g16⟩ : ∃ z, z = T5.heap.size := ⟨_, rfl⟩
  rw [← g16] at A16 D16 st16
  have f17 : Fld Z h16 b16 cs0 "path" "Ljava/lang/String;" .null := D16 (Or.inr (w 39 rfl)) (ty := (.object "java/lang/String")) (by decide)
  have f18 : Fld Z h16 b16 cs0 "start" "I" vI0 := D16 (Or.inr (w 41 rfl)) (ty := .int) (by decide)
  have f19 : Fld Z h16 b16 cs0 "end" "I" vI0 := D16 (Or.inr (w 43 rfl)) (ty := .int) (by decide)
  have o21 := Old.keep O0 K5 all0
  have zz20 : n0 ≤ T5.heap.size := by rw [← o21.1]; exact o21.2.1
  have g22 := Nat.le_trans zz20 (Nat.le_of_eq g16.symm)
  have o23 := Old.ext o21 E16
  obtain ⟨_, T24, Lc24, X24, hQ24, st24⟩ := own_fin (X16.specialBack hx (y := mN5) rfl hown (mvT hZ (w 29 rfl)) (mvT hZ (w 30 rfl)) (mvT hZ (w 31 rfl)) (by decide) (backOf (W := 1) (rm6_1 l Z a0 hw [] b16 b5_0 x1 x2 h16 n0 o23 A16 f17 g22 f18 f19) hZ (w 31 rfl) (w 28 rfl) (by decide) (by decide)) (g := (mkF m 29 #[lI x0, lI x1, lI x2, lI x3, lI x4, lI x5, lV vI2, lR b5_0, lU, lU, lU, lU] [(.int x2), (.int x1), (.ref b5_0), (.ref b16), (.ref b16)])) rfl (by rw [hml]; rfl) (Steps.refl _) (a := b16) (argsL := [(.ref b5_0), (.int x1), (.int x2)]) (rest := [(.ref b16)]) (lenOf pd__Ljava_lang_String_II_V rfl) rfl (own_W rfl) (hb hby at_29) (fun _ _ => ⟨rfl, e16, (by decide : 3 + 0 ≤ _), (by decide : 8 + 0 ≤ _)⟩))
  obtain ⟨rfl, N24q, K24, f25, f26, f27⟩ := hQ24
  have N24 := Fr.app N5 N24q
  obtain ⟨T28, h28, X28, e28, E28, A28, D28, -, st28⟩ := newO X24 hx hZ hown (w 44 rfl) (w 45 rfl) (w 46 rfl) rfl (g := (mkF m 34 #[lI x0, lI x1, lI x2, lI x3, lI x4, lI x5, lV vI2, lR b5_0, lR b16, lU, lU, lU] [])) rfl (hb hby at_34) (by decide) (by decide)
  obtain ⟨b28, g28⟩ : ∃ z, z = T24.heap.size := ⟨_, rfl⟩
  rw [← g28] at A28 D28 st28
  have f29 : Fld Z h28 b28 "java/util/AbstractList" "modCount" "I" vI0 := D28 (Or.inl (w 64 rfl)) (ty := .int) (by decide)
  have f30 : Fld Z h28 b28 "java/util/ArrayList" "elementData" "[Ljava/lang/Object;" .null := D28 (Or.inl (w 67 rfl)) (ty := (.array (.object "java/lang/Object"))) (by decide)
  have f31 : Fld Z h28 b28 "java/util/ArrayList" "size" "I" vI0 := D28 (Or.inl (w 80 rfl)) (ty := .int) (by decide)
  have o33 := Old.keep o23 K24 (allS g22 all0)
  have zz32 : n0 ≤ T24.heap.size := by rw [← o33.1]; exact o33.2.1
  have g34 := Nat.le_trans zz32 (Nat.le_of_eq g28.symm)
  have o36 := Old.ext o33 E28
  obtain ⟨_, T37, Lc37, X37, hQ37, st37⟩ := own_fin (X28.specialBack hx (y := mN8) rfl hown (mvT hZ (w 47 rfl)) (mvT hZ (w 48 rfl)) (mvT hZ (w 49 rfl)) (by decide) (backOf (W := 1) (rm8_1 l Z a0 hw [] b28 r7 h28 n0 o36 A28 f29 g34 f30 f31 f35) hZ (w 49 rfl) (w 46 rfl) (by decide) (by decide)) (g := (mkF m 38 #[lI x0, lI x1, lI x2, lI x3, lI x4, lI x5, lV vI2, lR b5_0, lR b16, lU, lU, lU] [(.ref b28), (.ref b28)])) rfl (by rw [hml]; rfl) (Steps.refl _) (a := b28) (argsL := []) (rest := [(.ref b28)]) (lenOf pd___V rfl) rfl (own_W rfl) (hb hby at_38) (fun _ _ => ⟨rfl, e28, (by decide : 4 + 0 ≤ _), (by decide : 11 + 0 ≤ _)⟩))
  obtain ⟨rfl, N37q, K37, f38, f39, f40⟩ := hQ37
  have N37 := Fr.app N24 N37q
  have f41 := (A28.keep K37)
  have zs43 := K37.1
  have f44 := (((A16.keep K24).ext E28).keep K37)
  have o45 := Old.keep o36 K37 (allS g34 all0)
  obtain ⟨_, T46, Lc46, X46, hQ46, st46⟩ := own_cI (xi := mN46) X37 hx hZ hown rfl (rm11_1 l Z a0 hw [] b28 b16 r7 c8 T37.heap n0 o45 f38 f41 g34 f39 f40 f42 f35 (Nat.lt_of_lt_of_le A28.lt zs43) f44) f41 (w 68 rfl) (w 69 rfl) (w 70 rfl) (w 71 rfl) (w 72 rfl) (w 73 rfl) (w 74 rfl) (w 75 rfl) (w 76 rfl) (w 46 rfl) (by decide) (W := 0) (by decide) (by decide) (by decide) (by decide) (g := (mkF m 47 #[lI x0, lI x1, lI x2, lI x3, lI x4, lI x5, lV vI2, lR b5_0, lR b16, lR b28, lU, lU] [(.ref b16), (.ref b28)])) rfl (by rw [hml]; rfl) (argsL := [(.ref b16)]) (rest := []) (lenOf pd__Ljava_lang_Object__Z rfl) rfl (own_W rfl) (hb hby at_47)
  obtain ⟨b46_0, k46_0, rfl, N46q, K46, f47, f48, f49, f50, f51, f52, f53⟩ := hQ46
  have N46 := Fr.app N37 N46q
  obtain ⟨T54, h54, X54, e54, E54, A54, D54, -, st54⟩ := newO X46 hx hZ hown (w 26 rfl) (w 27 rfl) (w 28 rfl) rfl (g := (mkF m 61 #[lI x0, lI x1, lI x2, lI x3, lI x4, lI x5, lV vI2, lR b5_0, lR b16, lR b28, lU, lU] [(.ref b28)])) rfl (hb hby at_61) (by decide) (by decide)
  obtain ⟨b54, g54⟩ : ∃ z, z = T46.heap.size := ⟨_, rfl⟩
  rw [← g54] at A54 D54 st54
  have f55 : Fld Z h54 b54 cs0 "path" "Ljava/lang/String;" .null := D54 (Or.inr (w 39 rfl)) (ty := (.object "java/lang/String")) (by decide)
  have f56 : Fld Z h54 b54 cs0 "start" "I" vI0 := D54 (Or.inr (w 41 rfl)) (ty := .int) (by decide)
  have f57 : Fld Z h54 b54 cs0 "end" "I" vI0 := D54 (Or.inr (w 43 rfl)) (ty := .int) (by decide)
  have o59 := Old.keep o45 K46 (allS g34 all0)
  have o60 := Old.ext o59 E54
  obtain ⟨_, T61, Lc61, X61, hQ61, st61⟩ := own_cS X54 hx hZ hown e54 (rm1_1 l Z a0 hw [] ((x3 &&& (255 : Int32)).toUInt32.toUInt16.toUInt32.toInt32) x6 h54 n0 o60 f2 hc3 hc58) (w 0 rfl) (w 1 rfl) (w 2 rfl) (w 3 rfl) (by decide) (W := 3) (by decide) (by decide) (by decide) (by decide) (g := (mkF m 71 #[lI x0, lI x1, lI x2, lI x3, lI x4, lI x5, lV vI2, lR b5_0, lR b16, lR b28, lU, lU] [(.int ((x3 &&& (255 : Int32)).toUInt32.toUInt16.toUInt32.toInt32)), (.ref b54), (.ref b54), (.ref b28)])) rfl (by rw [hml]; rfl) (argsL := [(.int ((x3 &&& (255 : Int32)).toUInt32.toUInt16.toUInt32.toInt32))]) (rest := [(.ref b54), (.ref b54), (.ref b28)]) (lenOf pd__C_Ljava_lang_String_ rfl) rfl (own_W rfl) (hb hby at_71)
  obtain ⟨b61_0, b61_1, k61_0, rfl, N61q, K61, f62, f63, f64, f65, f66, f67, f68, f69, f70, f71⟩ := hQ61
  have N61 := Fr.app N46 N61q
  have f72 := (A54.keep K61)
  have f73 := (f55.keep K61 nin0)
  have zz74 : n0 ≤ T46.heap.size := by rw [← o59.1]; exact o59.2.1
  have g75 := Nat.le_trans zz74 (Nat.le_of_eq g54.symm)
  have f76 := (f56.keep K61 nin0)
  have f77 := (f57.keep K61 nin0)
  have o78 := Old.keep o60 K61 all0
  obtain ⟨_, T79, Lc79, X79, hQ79, st79⟩ := own_fin (X61.specialBack hx (y := mN5) rfl hown (mvT hZ (w 29 rfl)) (mvT hZ (w 30 rfl)) (mvT hZ (w 31 rfl)) (by decide) (backOf (W := 2) (rm6_1 l Z a0 hw [] b54 b61_0 x3 x4 T61.heap n0 o78 f72 f73 g75 f76 f77) hZ (w 31 rfl) (w 28 rfl) (by decide) (by decide)) (g := (mkF m 77 #[lI x0, lI x1, lI x2, lI x3, lI x4, lI x5, lV vI2, lR b5_0, lR b16, lR b28, lU, lU] [(.int x4), (.int x3), (.ref b61_0), (.ref b54), (.ref b54), (.ref b28)])) rfl (by rw [hml]; rfl) (Steps.refl _) (a := b54) (argsL := [(.ref b61_0), (.int x3), (.int x4)]) (rest := [(.ref b54), (.ref b28)]) (lenOf pd__Ljava_lang_String_II_V rfl) rfl (own_W rfl) (hb hby at_77) (fun _ _ => ⟨rfl, rfl, (by decide : 8 + 0 ≤ _), (by decide : 29 + 0 ≤ _)⟩))
  obtain ⟨rfl, N79q, K79, f80, f81, f82⟩ := hQ79
  have N79 := Fr.app N61 N79q
  have zs83 := Nat.le_trans zs43 K46.1
  have n84 := Nat.ne_of_lt (Nat.lt_of_lt_of_le (Nat.lt_of_lt_of_le A28.lt zs83) (Nat.le_of_eq g54.symm))
  have f85 := (((f49.ext E54).keep K61 nin0).keep K79 (ninS n84 nin0))
  have f86 := ((((f41.keep K46).ext E54).keep K61).keep K79)
  have f87 := (((f47.ext E54).keep K61 nin0).keep K79 (ninS n84 nin0))
  have f88 := (((f48.ext E54).keep K61 nin0).keep K79 (ninS n84 nin0))
  have n89 := Nat.ne_of_lt (Nat.lt_of_lt_of_le f51.lt (Nat.le_of_eq g54.symm))
  have f90 := (((f51.ext E54).keep K61 nin0).keep K79 (ninS n89 nin0))
  have n91 := Nat.ne_of_lt (Nat.lt_of_lt_of_le (Nat.lt_of_lt_of_le A28.lt zs43) f50)
  have f92 := (f72.keep K79)
  have zz93 : n0 ≤ T37.heap.size := by rw [← o45.1]; exact o45.2.1
  have g94 := Nat.le_trans zz93 f50
  have o95 := Old.keep o78 K79 (allS g75 all0)
  obtain ⟨_, T96, Lc96, X96, hQ96, st96⟩ := own_cI (xi := mN46) X79 hx hZ hown rfl (rm11_2 l Z a0 hw [] b28 b54 b46_0 k46_0 b16 T79.heap n0 o95 f85 f86 g34 f87 f88 f90 (Ne.symm n91) f53 f92 g94) f86 (w 68 rfl) (w 69 rfl) (w 70 rfl) (w 71 rfl) (w 72 rfl) (w 73 rfl) (w 74 rfl) (w 75 rfl) (w 76 rfl) (w 46 rfl) (by decide) (W := 0) (by decide) (by decide) (by decide) (by decide) (g := (mkF m 80 #[lI x0, lI x1, lI x2, lI x3, lI x4, lI x5, lV vI2, lR b5_0, lR b16, lR b28, lU, lU] [(.ref b54), (.ref b28)])) rfl (by rw [hml]; rfl) (argsL := [(.ref b54)]) (rest := []) (lenOf pd__Ljava_lang_Object__Z rfl) rfl (own_W rfl) (hb hby at_80)
  obtain ⟨rfl, N96q, K96, f97, f98, f99, f100⟩ := hQ96
  have N96 := Fr.app N79 N96q
  obtain ⟨T101, h101, X101, e101, E101, A101, D101, -, st101⟩ := newO X96 hx hZ hown (w 103 rfl) (w 104 rfl) (w 105 rfl) rfl (g := (mkF m 120 #[lI x0, lI x1, lI x2, lI x3, lI x4, lI x5, lV vI2, lR b5_0, lR b16, lR b28, lU, lU] [])) rfl (hb hby at_120) (by decide) (by decide)
  obtain ⟨b101, g101⟩ : ∃ z, z = T96.heap.size := ⟨_, rfl⟩
  rw [← g101] at A101 D101 st101
  have f102 : Fld Z h101 b101 cs11 "id" "Ljava/lang/String;" .null := D101 (Or.inr (w 111 rfl)) (ty := (.object "java/lang/String")) (by decide)
  have f103 : Fld Z h101 b101 cs11 "length" "I" vI0 := D101 (Or.inr (w 113 rfl)) (ty := .int) (by decide)
  have f104 : Fld Z h101 b101 cs11 "elements" "Ljava/util/List;" .null := D101 (Or.inr (w 201 rfl)) (ty := (.object "java/util/List")) (by decide)
  have f105 : Fld Z h101 b101 cs11 "subtreeEnds" "[I" .null := D101 (Or.inr (w 231 rfl)) (ty := (.array .int)) (by decide)
  have f106 : Fld Z h101 b101 cs11 "placesByPath" "[I" .null := D101 (Or.inr (w 267 rfl)) (ty := (.array .int)) (by decide)
  have o108 := Old.keep o95 K96 (allS g34 (allS g94 all0))
  have zz107 : n0 ≤ T96.heap.size := by rw [← o108.1]; exact o108.2.1
  have g109 := Nat.le_trans zz107 (Nat.le_of_eq g101.symm)
  have f110 := ((f86.keep K96).ext E101)
  have f111 := (f97.ext E101)
  have zs112 := Nat.le_trans zs83 E54.1
  have zs113 := Nat.le_trans zs112 K61.1
  have zs114 := Nat.le_trans zs113 K79.1
  have zs115 := Nat.le_trans zs114 K96.1
  have n116 := Nat.ne_of_lt (Nat.lt_of_lt_of_le (Nat.lt_of_lt_of_le A28.lt zs115) (Nat.le_of_eq g101.symm))
  have f117 := (f99.ext E101)
  have f118 := (((((f52.ext E54).keep K61).keep K79).keep K96).ext E101)
  have f120 := (f100.ext E101)
  have zs121 := E54.1
  have zs122 := Nat.le_trans zs121 K61.1
  have zs123 := Nat.le_trans zs122 K79.1
  have zs124 := Nat.le_trans zs123 K96.1
  have n125 := Nat.ne_of_lt (Nat.lt_of_lt_of_le (Nat.lt_of_lt_of_le f51.lt zs124) (Nat.le_of_eq g101.symm))
  have f126 := ((f92.keep K96).ext E101)
  have f127 := ((((((f44.keep K46).ext E54).keep K61).keep K79).keep K96).ext E101)
  have n128 := Nat.ne_of_lt (Nat.lt_of_lt_of_le f7.lt (Nat.le_of_eq g16.symm))
  have zs129 := E16.1
  have zs130 := Nat.le_trans zs129 K24.1
  have n131 := Nat.ne_of_lt (Nat.lt_of_lt_of_le (Nat.lt_of_lt_of_le f7.lt zs130) (Nat.le_of_eq g28.symm))
  have zs132 := Nat.le_trans zs130 E28.1
  have zs133 := Nat.le_trans zs132 K37.1
  have zs134 := Nat.le_trans zs133 K46.1
  have n135 := Nat.ne_of_lt (Nat.lt_of_lt_of_le (Nat.lt_of_lt_of_le f7.lt zs134) (Nat.le_of_eq g54.symm))
  have n136 := Nat.ne_of_lt (Nat.lt_of_lt_of_le (Nat.lt_of_lt_of_le f7.lt zs133) f50)
  have f137 := ((((((((((f8.ext E16).keep K24 (ninS n128 nin0)).ext E28).keep K37 (ninS n131 nin0)).keep K46 (ninS n131 nin0)).ext E54).keep K61 nin0).keep K79 (ninS n135 nin0)).keep K96 (ninS n131 (ninS n136 nin0))).ext E101)
  have zs138 := Nat.le_trans zs134 E54.1
  have zs139 := Nat.le_trans zs138 K61.1
  have zs140 := Nat.le_trans zs139 K79.1
  have zs141 := Nat.le_trans zs140 K96.1
  have n142 := Nat.ne_of_lt (Nat.lt_of_lt_of_le (Nat.lt_of_lt_of_le f7.lt zs141) (Nat.le_of_eq g101.symm))
  have n143 := Nat.ne_of_lt (Nat.lt_of_lt_of_le f13.lt (Nat.le_of_eq g16.symm))
  have n144 := Nat.ne_of_lt (Nat.lt_of_lt_of_le (Nat.lt_of_lt_of_le f13.lt zs130) (Nat.le_of_eq g28.symm))
  have n145 := Nat.ne_of_lt (Nat.lt_of_lt_of_le (Nat.lt_of_lt_of_le f13.lt zs134) (Nat.le_of_eq g54.symm))
  have n146 := Nat.ne_of_lt (Nat.lt_of_lt_of_le (Nat.lt_of_lt_of_le f13.lt zs133) f50)
  have f147 := ((((((((((f13.ext E16).keep K24 (ninS n143 nin0)).ext E28).keep K37 (ninS n144 nin0)).keep K46 (ninS n144 nin0)).ext E54).keep K61 nin0).keep K79 (ninS n145 nin0)).keep K96 (ninS n144 (ninS n146 nin0))).ext E101)
  have n148 := Nat.ne_of_lt (Nat.lt_of_lt_of_le (Nat.lt_of_lt_of_le f13.lt zs141) (Nat.le_of_eq g101.symm))
  have n149 := Nat.ne_of_lt (Nat.lt_of_lt_of_le A54.lt f62)
  have n150 := Nat.ne_of_lt (Nat.lt_of_lt_of_le (Nat.lt_of_lt_of_le f51.lt zs121) f62)
  have n151 := Nat.ne_of_lt (Nat.lt_of_lt_of_le (Nat.lt_of_lt_of_le A28.lt zs112) f62)
  have f152 := (((f64.keep K79 (ninS (Ne.symm n149) nin0)).keep K96 (ninS (Ne.symm n151) (ninS (Ne.symm n150) nin0))).ext E101)
  have zs153 := K79.1
  have zs154 := Nat.le_trans zs153 K96.1
  have n155 := Nat.ne_of_lt (Nat.lt_of_lt_of_le (Nat.lt_of_lt_of_le f63.lt zs154) (Nat.le_of_eq g101.symm))
  have n156 := Nat.ne_of_lt (Nat.lt_of_lt_of_le A54.lt f68)
  have n157 := Nat.ne_of_lt (Nat.lt_of_lt_of_le (Nat.lt_of_lt_of_le f51.lt zs121) f68)
  have n158 := Nat.ne_of_lt (Nat.lt_of_lt_of_le (Nat.lt_of_lt_of_le A28.lt zs112) f68)
  have f159 := (((f69.keep K79 (ninS (Ne.symm n156) nin0)).keep K96 (ninS (Ne.symm n158) (ninS (Ne.symm n157) nin0))).ext E101)
  have n160 := Nat.ne_of_lt (Nat.lt_of_lt_of_le (Nat.lt_of_lt_of_le f69.lt zs154) (Nat.le_of_eq g101.symm))
  have zs163 := K24.1
  have n164 := Nat.ne_of_lt (Nat.lt_of_lt_of_le (Nat.lt_of_lt_of_le A16.lt zs163) (Nat.le_of_eq g28.symm))
  have zs165 := Nat.le_trans zs163 E28.1
  have zs166 := Nat.le_trans zs165 K37.1
  have zs167 := Nat.le_trans zs166 K46.1
  have n168 := Nat.ne_of_lt (Nat.lt_of_lt_of_le (Nat.lt_of_lt_of_le A16.lt zs167) (Nat.le_of_eq g54.symm))
  have n169 := Nat.ne_of_lt (Nat.lt_of_lt_of_le (Nat.lt_of_lt_of_le A16.lt zs166) f50)
  have f170 := ((((((((f25.ext E28).keep K37 (ninS n164 nin0)).keep K46 (ninS n164 nin0)).ext E54).keep K61 nin0).keep K79 (ninS n168 nin0)).keep K96 (ninS n164 (ninS n169 nin0))).ext E101)
  have zs171 := Nat.le_trans zs167 E54.1
  have zs172 := Nat.le_trans zs171 K61.1
  have zs173 := Nat.le_trans zs172 K79.1
  have zs174 := Nat.le_trans zs173 K96.1
  have n175 := Nat.ne_of_lt (Nat.lt_of_lt_of_le (Nat.lt_of_lt_of_le A16.lt zs174) (Nat.le_of_eq g101.symm))
  have f176 := ((f80.keep K96 (ninS (Ne.symm n84) (ninS (Ne.symm n89) nin0))).ext E101)
  have zs177 := K61.1
  have zs178 := Nat.le_trans zs177 K79.1
  have zs179 := Nat.le_trans zs178 K96.1
  have n180 := Nat.ne_of_lt (Nat.lt_of_lt_of_le (Nat.lt_of_lt_of_le A54.lt zs179) (Nat.le_of_eq g101.symm))
  have zs181 := Nat.le_trans zs179 E101.1
  have zs182 := Nat.le_trans zs174 E101.1
  have f183 := (((f63.keep K79).keep K96).ext E101)
  have zs184 := Nat.le_trans zs154 E101.1
  have f185 := (((f65.keep K79 (ninS (Ne.symm n149) nin0)).keep K96 (ninS (Ne.symm n151) (ninS (Ne.symm n150) nin0))).ext E101)
  have f186 := ((((((((((f7.ext E16).keep K24).ext E28).keep K37).keep K46).ext E54).keep K61).keep K79).keep K96).ext E101)
  have zs187 := Nat.le_trans zs141 E101.1
  have f188 := ((((((((((f9.ext E16).keep K24 (ninS n128 nin0)).ext E28).keep K37 (ninS n131 nin0)).keep K46 (ninS n131 nin0)).ext E54).keep K61 nin0).keep K79 (ninS n135 nin0)).keep K96 (ninS n131 (ninS n136 nin0))).ext E101)
  have f189 := ((((((((((f10.ext E16).keep K24 (ninS n128 nin0)).ext E28).keep K37 (ninS n131 nin0)).keep K46 (ninS n131 nin0)).ext E54).keep K61 nin0).keep K79 (ninS n135 nin0)).keep K96 (ninS n131 (ninS n136 nin0))).ext E101)
  have f190 := ((((((((((f11.ext E16).keep K24 (ninS n128 nin0)).ext E28).keep K37 (ninS n131 nin0)).keep K46 (ninS n131 nin0)).ext E54).keep K61 nin0).keep K79 (ninS n135 nin0)).keep K96 (ninS n131 (ninS n136 nin0))).ext E101)
  have zz191 : n0 ≤ h0.size := by rw [← O0.1]; exact O0.2.1
  have g192 := Nat.le_trans zz191 f6
  have n193 := Nat.ne_of_lt (Nat.lt_of_lt_of_le (Nat.lt_of_lt_of_le f7.lt zs138) f62)
  have n194 := Nat.ne_of_lt (Nat.lt_of_lt_of_le (Nat.lt_of_lt_of_le f7.lt zs138) f68)
  have f195 := (((f66.keep K79 (ninS (Ne.symm n149) nin0)).keep K96 (ninS (Ne.symm n151) (ninS (Ne.symm n150) nin0))).ext E101)
  have f196 := (((f67.keep K79 (ninS (Ne.symm n149) nin0)).keep K96 (ninS (Ne.symm n151) (ninS (Ne.symm n150) nin0))).ext E101)
  have zz197 : n0 ≤ h54.size := by rw [← o60.1]; exact o60.2.1
  have g198 := Nat.le_trans zz197 f62
  have o199 := Old.ext o108 E101
  obtain ⟨_, T200, Lc200, X200, hQ200, st200⟩ := own_fin (X101.specialBack hx (y := mN41) rfl hown (mvT hZ (w 106 rfl)) (mvT hZ (w 107 rfl)) (mvT hZ (w 108 rfl)) (by decide) (backOf (W := 1) (rm16_2 l Z a0 hw [] b101 b5_0 x2 b28 b46_0 r9 k46_0 b16 b54 b5_1 k5_0 ((((x0 &&& (255 : Int32)).toUInt32.toUInt16.toUInt32.toInt32).toInt8.toInt32).toInt8.toInt32) b61_1 b61_0 k61_0 ((((x3 &&& (255 : Int32)).toUInt32.toUInt16.toUInt32.toInt32).toInt8.toInt32).toInt8.toInt32) r10 x6 h101 n0 o199 A101 f102 g109 f103 f110 f111 n116 f117 f118 f119 f120 n125 f126 f127 f104 f137 n142 f147 n148 f152 n155 f159 n160 A101.lt f161 f162 g75 f170 n175 f176 n180 (Nat.lt_of_lt_of_le A54.lt zs181) (Nat.lt_of_lt_of_le A16.lt zs182) f183 (Nat.lt_of_lt_of_le f63.lt zs184) (Nat.lt_of_lt_of_le f69.lt zs184) f2 f185 f186 (Nat.lt_of_lt_of_le f7.lt zs187) (Nat.lt_of_lt_of_le f13.lt zs187) f188 hc3 f105 f189 f190 g192 (Ne.symm n135) (Ne.symm n193) (Ne.symm n194) f195 f196 g198 f106) hZ (w 108 rfl) (w 105 rfl) (by decide) (by decide)) (g := (mkF m 129 #[lI x0, lI x1, lI x2, lI x3, lI x4, lI x5, lV vI2, lR b5_0, lR b16, lR b28, lU, lU] [(.ref b28), (.int x2), (.ref b5_0), (.ref b101), (.ref b101)])) rfl (by rw [hml]; rfl) (Steps.refl _) (a := b101) (argsL := [(.ref b5_0), (.int x2), (.ref b28)]) (rest := [(.ref b101)]) (lenOf pd__Ljava_lang_String_ILjava_util_List__V rfl) rfl (own_W rfl) (hb hby at_129) (fun _ _ => ⟨rfl, e101, (by decide : 9 + 5 ≤ _), (by decide : 34 + 12 ≤ _)⟩))
  obtain ⟨b200_0, b200_1, b200_2, rfl, N200q, K200, f201, f202, f203, f204, f205, f206, f207, f208, f209, f210, f211, f212, f213, f214, f215⟩ := hQ200
  have N200 := Fr.app N96 N200q
  have f216 := (f127.keep K200)
  have o217 := Old.keep o199 K200 (allS g109 (allS g192 (allS g198 all0)))
  have f219 := (A101.keep K200)
  obtain ⟨_, T218, Lc218, X218, hQ218, st218⟩ := own_cV X200 hx hZ hown rfl (rm40_1 l Z a0 hw [] b101 b200_0 b16 T200.heap n0 o217 f203 f211 f212 f216) f219 (w 268 rfl) (w 269 rfl) (w 271 rfl) (w 270 rfl) (w 272 rfl) (w 105 rfl) (by decide) (W := 0) (by decide) (by decide) (by decide) (by decide) (g := (mkF m 136 #[lI x0, lI x1, lI x2, lI x3, lI x4, lI x5, lV vI2, lR b5_0, lR b16, lR b28, lR b101, lU] [(.ref b101)])) rfl (by rw [hml]; rfl) (argsL := []) (rest := []) (lenOf pd___Lcom_example_nearmiss_nearmiss_Element_ rfl) rfl (own_W rfl) (hb hby at_136)
  obtain ⟨rfl, N218q, E218⟩ := hQ218
  have N218 := Fr.app N200 N218q
  have n220 := Nat.ne_of_lt (Nat.lt_of_lt_of_le (Nat.lt_of_lt_of_le A16.lt zs171) f62)
  have f221 := (f170.keep K200 (ninS n175 (ninS (Ne.symm n128) (ninS n220 nin0))))
  obtain ⟨_, T222, Lc222, X222, hQ222, st222⟩ := own_cV X218 hx hZ hown E218 (rm32_1 l Z a0 hw [] b16 b5_0 T200.heap n0 o217 f221) f216 (w 273 rfl) (w 226 rfl) (w 228 rfl) (w 227 rfl) (w 229 rfl) (w 28 rfl) (by decide) (W := 0) (by decide) (by decide) (by decide) (by decide) (g := (mkF m 143 #[lI x0, lI x1, lI x2, lI x3, lI x4, lI x5, lV vI2, lR b5_0, lR b16, lR b28, lR b101, lR b16] [(.ref b16)])) rfl (by rw [hml]; rfl) (argsL := []) (rest := []) (lenOf pd___Ljava_lang_String_ rfl) rfl (own_W rfl) (hb hby at_143)
  obtain ⟨rfl, N222q, E222⟩ := hQ222
  have N222 := Fr.app N218 N222q
  have f224 := (f186.keep K200)
  obtain ⟨_, T223, Lc223, X223, hQ223, st223⟩ := own_cV X222 hx hZ hown E222 (rm41_1 l Z a0 hw [] b5_0 T200.heap n0 o217) f224 (w 274 rfl) (w 275 rfl) (w 277 rfl) (w 276 rfl) (w 278 rfl) (w 2 rfl) (by decide) (W := 0) (by decide) (by decide) (by decide) (by decide) (g := (mkF m 148 #[lI x0, lI x1, lI x2, lI x3, lI x4, lI x5, lV vI2, lR b5_0, lR b16, lR b28, lR b101, lR b16] [(.ref b5_0), (.ref b5_0)])) rfl (by rw [hml]; rfl) (argsL := [(.ref b5_0)]) (rest := []) (lenOf pd__Ljava_lang_Object__Z rfl) rfl (own_W rfl) (hb hby at_148)
  obtain ⟨rfl, N223q, E223⟩ := hQ223
  have N223 := Fr.app N222 N223q
  have f225 := (((((((((f26.ext E28).keep K37 (ninS n164 nin0)).keep K46 (ninS n164 nin0)).ext E54).keep K61 nin0).keep K79 (ninS n168 nin0)).keep K96 (ninS n164 (ninS n169 nin0))).ext E101).keep K200 (ninS n175 (ninS (Ne.symm n128) (ninS n220 nin0))))
  obtain ⟨_, T226, Lc226, X226, hQ226, st226⟩ := own_cV X223 hx hZ hown E223 (rm42_1 l Z a0 hw [] b16 x1 T200.heap n0 o217 f225) f216 (w 279 rfl) (w 280 rfl) (w 282 rfl) (w 281 rfl) (w 283 rfl) (w 28 rfl) (by decide) (W := 0) (by decide) (by decide) (by decide) (by decide) (g := (mkF m 156 #[lI x0, lI x1, lI x2, lI x3, lI x4, lI x5, lV vI2, lR b5_0, lR b16, lR b28, lR b101, lR b16] [(.ref b16)])) rfl (by rw [hml]; rfl) (argsL := []) (rest := []) (lenOf pd___I rfl) rfl (own_W rfl) (hb hby at_156)
  obtain ⟨rfl, N226q, E226⟩ := hQ226
  have N226 := Fr.app N223 N226q
  have f227 := (((((((((f27.ext E28).keep K37 (ninS n164 nin0)).keep K46 (ninS n164 nin0)).ext E54).keep K61 nin0).keep K79 (ninS n168 nin0)).keep K96 (ninS n164 (ninS n169 nin0))).ext E101).keep K200 (ninS n175 (ninS (Ne.symm n128) (ninS n220 nin0))))
  obtain ⟨_, T228, Lc228, X228, hQ228, st228⟩ := own_cV X226 hx hZ hown E226 (rm43_1 l Z a0 hw [] b16 x2 T200.heap n0 o217 f227) f216 (w 284 rfl) (w 285 rfl) (w 287 rfl) (w 286 rfl) (w 288 rfl) (w 28 rfl) (by decide) (W := 0) (by decide) (by decide) (by decide) (by decide) (g := (mkF m 165 #[lI x0, lI x1, lI x2, lI x3, lI x4, lI x5, lV vI2, lR b5_0, lR b16, lR b28, lR b101, lR b16] [(.ref b16)])) rfl (by rw [hml]; rfl) (argsL := []) (rest := []) (lenOf pd___I rfl) rfl (own_W rfl) (hb hby at_165)
  obtain ⟨rfl, N228q, E228⟩ := hQ228
  have N228 := Fr.app N226 N228q
  obtain ⟨fs, hr, hrun, hended, hW, hsame⟩ := X228.leave (v := some vI1) (fun h => by rw [Bd.returns] at h; cases h)
  refine ⟨_, _, pre0 _ ?_, hrun, hended, _, _, rfl, ?_, ⟨_, rfl⟩, hW, hsame.mono (by decide) (by decide)⟩
  · show SG p e below s₁ (mkF m 0 #[lI x0, lI x1, lI x2, lI x3, lI x4, lI x5, lU, lU, lU, lU, lU, lU] []) _
    refine qi X0 hx hby at_0 ?_
    refine qc X0 hx hby at_2 ?_
    refine XS.iand X0.here hx rfl (hb hby at_3) rfl ?_
    refine qc X0 hx hby at_4 ?_
    refine iremM (g := (mkF m 5 #[lI x0, lI x1, lI x2, lI x3, lI x4, lI x5, lU, lU, lU, lU, lU, lU] [vI3, (.int (x5 &&& (3 : Int32)))])) X0 hx rfl (hb hby at_5) rfl (by decide : ¬ ((3 : Int32) = (0 : Int32))) ?_
    show SG p e below s₁ (mkF m 6 #[lI x0, lI x1, lI x2, lI x3, lI x4, lI x5, lU, lU, lU, lU, lU, lU] [(.int ((x5 &&& (3 : Int32)) % (3 : Int32)))]) _
    rw [hc1]
    refine qc X0 hx hby at_6 ?_
    refine XS.iadd X0.here hx rfl (hb hby at_7) rfl ?_
    refine XS.istore X0.here hx rfl (hb hby at_8) rfl (l' := #[lI x0, lI x1, lI x2, lI x3, lI x4, lI x5, lV vI2, lU, lU, lU, lU, lU]) rfl ?_
    refine qiN X0 hx hby at_10 ?_
    refine XS.sipush X0.here hx rfl (hb hby at_11) ?_
    show SG p e below s₁ (mkF m 14 #[lI x0, lI x1, lI x2, lI x3, lI x4, lI x5, lV vI2, lU, lU, lU, lU, lU] [vI255, (.int x0)]) _
    refine XS.iand X0.here hx rfl (hb hby at_14) rfl ?_
    refine XS.i2c X0.here hx rfl (hb hby at_15) rfl ?_
    refine st5 _ ?_
    refine XS.astore X5.here hx rfl (hb hby at_19) rfl rfl (l' := #[lI x0, lI x1, lI x2, lI x3, lI x4, lI x5, lV vI2, lR b5_0, lU, lU, lU, lU]) rfl ?_
    refine st16 _ ?_
    refine qd X16 hx hby at_24 ?_
    refine qa X16 hx hby at_25 ?_
    refine qiN X16 hx hby at_27 ?_
    refine qiN X16 hx hby at_28 ?_
    refine st24.trans ?_
    show SG p e below T24 (mkF m 32 #[lI x0, lI x1, lI x2, lI x3, lI x4, lI x5, lV vI2, lR b5_0, lU, lU, lU, lU] [(.ref b16)]) _
    refine XS.astore X24.here hx rfl (hb hby at_32) rfl rfl (l' := #[lI x0, lI x1, lI x2, lI x3, lI x4, lI x5, lV vI2, lR b5_0, lR b16, lU, lU, lU]) rfl ?_
    refine st28 _ ?_
    refine qd X28 hx hby at_37 ?_
    refine st37.trans ?_
    refine XS.astore X37.here hx rfl (hb hby at_41) rfl rfl (l' := #[lI x0, lI x1, lI x2, lI x3, lI x4, lI x5, lV vI2, lR b5_0, lR b16, lR b28, lU, lU]) rfl ?_
    refine qa X37 hx hby at_43 ?_
    refine qa X37 hx hby at_45 ?_
    refine st46 _ ?_
    refine XS.pop X46.here hx rfl (hb hby at_52) rfl rfl ?_
    refine qi X46 hx hby at_53 ?_
    show SG p e below T46 (mkF m 55 #[lI x0, lI x1, lI x2, lI x3, lI x4, lI x5, lV vI2, lR b5_0, lR b16, lR b28, lU, lU] [vI2]) _
    refine qc X46 hx hby at_55 ?_
    refine XS.icmpNo X46.here hx rfl (hb hby at_56) rfl (flt (by decide : ¬ ((2 : Int32) < (2 : Int32)))).1 ?_
    refine qa X46 hx hby at_59 ?_
    refine st54 _ ?_
    refine qd X54 hx hby at_64 ?_
    refine qiN X54 hx hby at_65 ?_
    refine XS.sipush X54.here hx rfl (hb hby at_66) ?_
    refine XS.iand X54.here hx rfl (hb hby at_69) rfl ?_
    refine XS.i2c X54.here hx rfl (hb hby at_70) rfl ?_
    refine st61 _ ?_
    show SG p e below T61 (mkF m 74 #[lI x0, lI x1, lI x2, lI x3, lI x4, lI x5, lV vI2, lR b5_0, lR b16, lR b28, lU, lU] [(.ref b61_0), (.ref b54), (.ref b54), (.ref b28)]) _
    refine qiN X61 hx hby at_74 ?_
    refine qi X61 hx hby at_75 ?_
    refine st79.trans ?_
    refine st96 _ ?_
    refine XS.pop X96.here hx rfl (hb hby at_85) rfl rfl ?_
    refine qi X96 hx hby at_86 ?_
    refine qc X96 hx hby at_88 ?_
    refine XS.icmpYes X96.here hx rfl (pc0 := 89) (pc' := 120) rfl (hb hby at_89) rfl (tlt (by decide : (2 : Int32) < (3 : Int32))).1 (by decide) (by decide) ?_
    refine st101 _ ?_
    refine qd X101 hx hby at_123 ?_
    show SG p e below T101 (mkF m 124 #[lI x0, lI x1, lI x2, lI x3, lI x4, lI x5, lV vI2, lR b5_0, lR b16, lR b28, lU, lU] [(.ref b101), (.ref b101)]) _
    refine qa X101 hx hby at_124 ?_
    refine qiN X101 hx hby at_126 ?_
    refine qa X101 hx hby at_127 ?_
    refine st200.trans ?_
    refine XS.astore X200.here hx rfl (hb hby at_132) rfl rfl (l' := #[lI x0, lI x1, lI x2, lI x3, lI x4, lI x5, lV vI2, lR b5_0, lR b16, lR b28, lR b101, lU]) rfl ?_
    refine qa X200 hx hby at_134 ?_
    refine st218 _ ?_
    refine XS.astore X218.here hx rfl (hb hby at_139) rfl rfl (l' := #[lI x0, lI x1, lI x2, lI x3, lI x4, lI x5, lV vI2, lR b5_0, lR b16, lR b28, lR b101, lR b16]) rfl ?_
    refine qa X218 hx hby at_141 ?_
    refine st222 _ ?_
    show SG p e below T222 (mkF m 146 #[lI x0, lI x1, lI x2, lI x3, lI x4, lI x5, lV vI2, lR b5_0, lR b16, lR b28, lR b101, lR b16] [(.ref b5_0)]) _
    refine qa X222 hx hby at_146 ?_
    refine st223 _ ?_
    refine XS.ifNo X223.here hx rfl (hb hby at_151) rfl ((if0 _ _).trans (feq (by decide : ¬ ((1 : Int32) = (0 : Int32)))).1) ?_
    refine qa X223 hx hby at_154 ?_
    refine st226 _ ?_
    refine qiN X226 hx hby at_159 ?_
    refine XS.icmpNo X226.here hx rfl (hb hby at_160) rfl (teq (rfl : x1 = x1)).2 ?_
    refine qa X226 hx hby at_163 ?_
    refine st228 _ ?_
    refine qiN X228 hx hby at_168 ?_
    show SG p e below T228 (mkF m 169 #[lI x0, lI x1, lI x2, lI x3, lI x4, lI x5, lV vI2, lR b5_0, lR b16, lR b28, lR b101, lR b16] [(.int x2), (.int x2)]) _
    refine XS.icmpNo X228.here hx rfl (hb hby at_169) rfl (teq (rfl : x2 = x2)).2 ?_
    refine qc X228 hx hby at_172 ?_
    refine XS.goto X228.here hx rfl (pc0 := 173) (pc' := 177) rfl (hb hby at_173) (by decide) (by decide) ?_
    exact retN X228 hx (t := .boolean) Bd.returns (by simp) (hb hby at_177) hr
  · show Q0_2 Z  h0 n0 _ T228.heap _
    rw [E228]
    exact ⟨rfl, N228⟩
def Q12_3 (Z : State) (r0 r1 r2 : Addr) (c3 : ClassId) (r4 r5 : Addr) (h0 : Heap) (n0 : Nat) (v : Option Value) (h : Heap) (L : List Loc) : Prop := v = none ∧ Fr n0 L ∧ Keep h0 h [r2, r0] ∧ Arv Z h r2 c3 (.object "java/lang/Object") (10 : Int32) [(.ref r4), (.ref r5), (.ref r1), .null, .null, .null, .null, .null, .null, .null] .null ∧ Fld Z h r0 "java/util/ArrayList" "size" "I" vI3 ∧ Fld Z h r0 "java/util/AbstractList" "modCount" "I" vI3 ∧ Fld Z h r0 "java/util/ArrayList" "elementData" "[Ljava/lang/Object;" (.ref r2)
theorem rm12_3 (l : Launch) (Z : State) (a0 : Array Value) (hw : own_HW a0 Z) (ws : List Jvm.Cond) (r0 r1 r2 : Addr) (c3 : ClassId) (r4 r5 : Addr) (h0 : Heap) (n0 : Nat) (O0 : Old Z n0 h0) (f1 : Arv Z h0 r2 c3 (.object "java/lang/Object") (10 : Int32) [(.ref r4), (.ref r5), .null, .null, .null, .null, .null, .null, .null, .null] .null) (f4 : Ovr Z c3 "java/lang/Object") (f5 : Exa Z h0 r1 cs0) (g6 : n0 ≤ r2) (f8 : Exa Z h0 r0 "java/util/ArrayList") (f10 : Fld Z h0 r0 "java/util/ArrayList" "size" "I" vI2) (n11 : r0 ≠ r2) (g13 : n0 ≤ r0) (f15 : Fld Z h0 r0 "java/util/AbstractList" "modCount" "I" vI3) (f17 : Fld Z h0 r0 "java/util/ArrayList" "elementData" "[Ljava/lang/Object;" (.ref r2)) :
    own_MF l mN12 jdk_38_method_24_code 4 none ws rR0_0_0_0 Z h0 #[(.ref r0), (.ref r1), (.ref r2), vI2] (Q12_3 Z r0 r1 r2 c3 r4 r5 h0 n0) := by
  refine own_open (plainFor_of_name pn_java_util_ArrayList) (L0 := #[lR r0, lR r1, lR r2, lV vI2]) (fun _ => by first | (simp [entryFrame, mkF, argsToLocals, Value.category]; done) | rfl) ?_
  intro p e s m below meth c s₁ hx hby hml hret hnn hZ hown X0 e0
  have N0 := Fr.nil n0; have w := @ww Z a0 hw
  obtain ⟨clq2, Arq2, qq2, Sq2, Nq2, Hq2, Gq2⟩ := id f1
  obtain ⟨clq3, Arq3, qq3, Sq3, Nq3, Hq3, Gq3⟩ := id f1
  obtain ⟨T7, h7, X7, e7, W7, st7⟩ := stR X0 hx hZ e0 Arq3 (j := (2 : Int32)) (inb_of Sq3 ⟨(by decide : ¬ ((2 : Int32) < (0 : Int32))), (by decide : (2 : Int32) < (10 : Int32))⟩) rfl (Sto.ofV Arq3 qq3 f4 (Ins.of_exa f5 (w 102 rfl))) (g := (mkF m 14 #[lR r0, lR r1, lR r2, lV vI2] [(.ref r1), vI2, (.ref r2)])) rfl rfl (hb hby d12_14)
  have V7 : Arv Z h7 r2 c3 (.object "java/lang/Object") (10 : Int32) [(.ref r4), (.ref r5), (.ref r1), .null, .null, .null, .null, .null, .null, .null] .null := Arv.set Arq3 qq3 Sq3 Nq3 Hq3 Gq3 rfl W7 2 rfl (Nat.le_of_ble_eq_true rfl)
  have N7 := Fr.snoc X7 N0 g6
  have f9 := (f8.wr W7)
  have f12 := (f10.other W7 (Or.inl n11))
  obtain ⟨T14, h14, X14, e14, W14, st14⟩ := putF X7 hx hZ hown (host := "") (Or.inl (w 79 rfl)) Via.refl e7 f12 f9 (Or.inl (w 80 rfl)) (w 45 rfl) (ty := .int) (by decide) rfl rfl (g := (mkF m 19 #[lR r0, lR r1, lR r2, lV vI2] [vI3, (.ref r0)])) rfl rfl (hb hby d12_19)
  have Fw14 := f12.same W14
  have N14 := Fr.snoc X14 N7 g13
  have f16 := ((f15.other W7 (Or.inl n11)).other W14 (Or.inr (slot_ne (Or.inl (w 64 rfl)) (Or.inl (w 80 rfl)) (by decide) (t := .int) (t' := .int) (by decide) (by decide))))
  have f18 := ((f17.other W7 (Or.inl n11)).other W14 (Or.inr (slot_ne (Or.inl (w 67 rfl)) (Or.inl (w 80 rfl)) (by decide) (t := (.array (.object "java/lang/Object"))) (t' := .int) (by decide) (by decide))))
  have f19 := (V7.other W14 (Ne.symm n11))
  have kp20 : Keep h0 h7 [r2, r0] := (Keep.refl h0 [r2, r0]).wr W7 (Or.inl (List.mem_of_getElem? (i := 0) rfl))
  have kp21 : Keep h0 h14 [r2, r0] := kp20.wr W14 (Or.inl (List.mem_of_getElem? (i := 1) rfl))
  refine ⟨none, _, _, _, _, (fun _ => rfl), X14, by decide, by decide, ?_, fun fs hr => ?_⟩
  · rw [e14]; exact ⟨rfl, N14, kp21, f19, Fw14, f16, f18⟩
  · show SG p e below s₁ (mkF m 0 #[lR r0, lR r1, lR r2, lV vI2] []) _
    refine qiN X0 hx hby d12_0 ?_
    refine qaN X0 hx hby d12_1 ?_
    refine X0.arraylength hx (by rw [e0]; exact Arq2.1) (State.isArrayOf_alike hZ.alike Arq2.2.1) (g := (mkF m 2 #[lR r0, lR r1, lR r2, lV vI2] [(.ref r2), vI2])) rfl rfl (hb hby d12_2) _ ?_
    rw [len_of Sq2 Nq2]
    refine XS.icmpYes X0.here hx rfl (pc0 := 3) (pc' := 11) rfl (hb hby d12_3) rfl (feq (by decide : ¬ ((2 : Int32) = (10 : Int32)))).2 (by decide) (by decide) ?_
    refine qaN X0 hx hby d12_11 ?_
    refine qiN X0 hx hby d12_12 ?_
    refine qaN X0 hx hby d12_13 ?_
    refine st7 _ ?_
    refine qaN X7 hx hby d12_15 ?_
    refine qiN X7 hx hby d12_16 ?_
    show SG p e below T7 (mkF m 17 #[lR r0, lR r1, lR r2, lV vI2] [vI2, (.ref r0)]) _
    refine qc X7 hx hby d12_17 ?_
    refine XS.iadd X7.here hx rfl (hb hby d12_18) rfl ?_
    refine st14 _ ?_
    exact X14.returnOut hx hret (hb hby d12_22) hr
def Q11_3 (Z : State) (r0 r1 r2 : Addr) (c3 : ClassId) (r4 r5 : Addr) (h0 : Heap) (n0 : Nat) (v : Option Value) (h : Heap) (L : List Loc) : Prop := v = some vI1 ∧ Fr n0 L ∧ Keep h0 h [r0, r2] ∧ Fld Z h r0 "java/util/ArrayList" "size" "I" vI3 ∧ Fld Z h r0 "java/util/AbstractList" "modCount" "I" vI3 ∧ Fld Z h r0 "java/util/ArrayList" "elementData" "[Ljava/lang/Object;" (.ref r2) ∧ Arv Z h r2 c3 (.object "java/lang/Object") (10 : Int32) [(.ref r4), (.ref r5), (.ref r1), .null, .null, .null, .null, .null, .null, .null] .null
theorem rm11_3 (l : Launch) (Z : State) (a0 : Array Value) (hw : own_HW a0 Z) (ws : List Jvm.Cond) (r0 r1 r2 : Addr) (c3 : ClassId) (r4 r5 : Addr) (h0 : Heap) (n0 : Nat) (O0 : Old Z n0 h0) (f1 : Fld Z h0 r0 "java/util/AbstractList" "modCount" "I" vI2) (f3 : Exa Z h0 r0 "java/util/ArrayList") (g4 : n0 ≤ r0) (f6 : Fld Z h0 r0 "java/util/ArrayList" "elementData" "[Ljava/lang/Object;" (.ref r2)) (f9 : Fld Z h0 r0 "java/util/ArrayList" "size" "I" vI2) (f12 : Arv Z h0 r2 c3 (.object "java/lang/Object") (10 : Int32) [(.ref r4), (.ref r5), .null, .null, .null, .null, .null, .null, .null, .null] .null) (n13 : r2 ≠ r0) (f15 : Ovr Z c3 "java/lang/Object") (f16 : Exa Z h0 r1 cs0) (g18 : n0 ≤ r2) :
    own_MF l mN13 jdk_38_method_25_code 2 (some .boolean) ws rR1_0_0_15 Z h0 #[(.ref r0), (.ref r1)] (Q11_3 Z r0 r1 r2 c3 r4 r5 h0 n0) := by
  refine own_open (plainFor_of_name pn_java_util_ArrayList) (L0 := #[lR r0, lR r1]) (fun _ => by first | (simp [entryFrame, mkF, argsToLocals, Value.category]; done) | rfl) ?_
  intro p e s m below meth c s₁ hx hby hml hret hnn hZ hown X0 e0
  have N0 := Fr.nil n0; have w := @ww Z a0 hw
  obtain ⟨T2, X2, e2, st2⟩ := getF X0 hx hZ hown (host := "") (Or.inl (w 77 rfl)) (Via.of (w 78 rfl)) e0 f1 (g := (mkF m 2 #[lR r0, lR r1] [(.ref r0), (.ref r0)])) rfl rfl (hb hby d11_2)
  obtain ⟨T5, h5, X5, e5, W5, st5⟩ := putF X2 hx hZ hown (host := "") (Or.inl (w 77 rfl)) (Via.of (w 78 rfl)) e2 f1 f3 (Or.inl (w 64 rfl)) (w 45 rfl) (ty := .int) (by decide) rfl rfl (g := (mkF m 7 #[lR r0, lR r1] [vI3, (.ref r0)])) rfl rfl (hb hby d11_7)
  have Fw5 := f1.same W5
  have N5 := Fr.snoc X5 N0 g4
  have f7 := (f6.other W5 (Or.inr (slot_ne (Or.inl (w 67 rfl)) (Or.inl (w 64 rfl)) (by decide) (t := (.array (.object "java/lang/Object"))) (t' := .int) (by decide) (by decide))))
  obtain ⟨T8, X8, e8, st8⟩ := getF X5 hx hZ hown (host := "") (Or.inl (w 66 rfl)) Via.refl e5 f7 (g := (mkF m 13 #[lR r0, lR r1] [(.ref r0), (.ref r1), (.ref r0)])) rfl rfl (hb hby d11_13)
  have f10 := (f9.other W5 (Or.inr (slot_ne (Or.inl (w 80 rfl)) (Or.inl (w 64 rfl)) (by decide) (t := .int) (t' := .int) (by decide) (by decide))))
  obtain ⟨T11, X11, e11, st11⟩ := getF X8 hx hZ hown (host := "") (Or.inl (w 79 rfl)) Via.refl e8 f10 (g := (mkF m 17 #[lR r0, lR r1] [(.ref r0), (.ref r2), (.ref r1), (.ref r0)])) rfl rfl (hb hby d11_17)
  have f14 := (f12.other W5 n13)
  have f17 := (f16.wr W5)
  have f19 := (f3.wr W5)
  have o20 := Old.wr O0 W5 g4
  obtain ⟨cqq22, qq22, qq22'⟩ := f19.cell
  obtain ⟨_, T21, Lc21, X21, hQ21, st21⟩ := own_fin (X11.privateBack hx (y := mN12) hown (mvT hZ (w 81 rfl)) (mvT hZ (w 82 rfl)) (mvT hZ (w 84 rfl)) (Cond.privateMethod_at (mvP hZ (w 83 rfl) (args := #[]))) (mvT hZ (w 85 rfl)) (by decide) (backOf (W := 0) (rm12_3 l Z a0 hw [] r0 r1 r2 c3 r4 r5 h5 n0 o20 f14 f15 f17 g18 f19 f10 (Ne.symm n13) g4 Fw5 f7) hZ (w 85 rfl) (w 46 rfl) (by decide) (by decide)) (g := (mkF m 20 #[lR r0, lR r1] [vI2, (.ref r2), (.ref r1), (.ref r0)])) rfl (by rw [hml]; rfl) (Steps.refl _) (a := r0) (by rw [e11]; exact qq22) qq22' (argsL := [(.ref r1), (.ref r2), vI2]) (rest := []) (lenOf pd__Ljava_lang_Object__Ljava_lang_Object_I_V rfl) rfl (own_W rfl) (hb hby d11_20) (fun _ _ => ⟨rfl, e11, (by decide : 0 + 0 ≤ _), (by decide : 0 + 0 ≤ _)⟩))
  obtain ⟨rfl, N21q, K21, f23, f24, f25, f26⟩ := hQ21
  have N21 := Fr.app N5 N21q
  have kp27 : Keep h0 h5 [r0, r2] := (Keep.refl h0 [r0, r2]).wr W5 (Or.inl (List.mem_of_getElem? (i := 0) rfl))
  have kp28 : Keep h0 T21.heap [r0, r2] := kp27.trans K21 (allS (Or.inl (List.mem_of_getElem? (i := 1) rfl)) (allS (Or.inl (List.mem_of_getElem? (i := 0) rfl)) all0))
  refine ⟨some vI1, _, _, _, _, nofun, X21, by decide, by decide, ?_, fun fs hr => ?_⟩
  · exact ⟨rfl, N21, kp28, f24, f25, f26, f23⟩
  · show SG p e below s₁ (mkF m 0 #[lR r0, lR r1] []) _
    refine qaN X0 hx hby d11_0 ?_
    refine qd X0 hx hby d11_1 ?_
    refine st2 _ ?_
    refine qc X2 hx hby d11_5 ?_
    refine XS.iadd X2.here hx rfl (hb hby d11_6) rfl ?_
    refine st5 _ ?_
    refine qaN X5 hx hby d11_10 ?_
    refine qaN X5 hx hby d11_11 ?_
    refine qaN X5 hx hby d11_12 ?_
    refine st8 _ ?_
    show SG p e below T8 (mkF m 16 #[lR r0, lR r1] [(.ref r2), (.ref r1), (.ref r0)]) _
    refine qaN X8 hx hby d11_16 ?_
    refine st11 _ ?_
    refine st21.trans ?_
    refine qc X21 hx hby d11_23 ?_
    exact retN X21 hx (t := .boolean) hret (by simp) (hb hby d11_24) hr
def Q19_3 (Z : State)  (h0 : Heap) (n0 : Nat) (v : Option Value) (h : Heap) (L : List Loc) : Prop := v = some vI0 ∧ Fr n0 L ∧ h = h0
theorem rm19_3 (l : Launch) (Z : State) (a0 : Array Value) (hw : own_HW a0 Z) (ws : List Jvm.Cond) (r0 : Addr) (h0 : Heap) (n0 : Nat) (O0 : Old Z n0 h0) (f1 : Fld Z h0 r0 "java/util/ArrayList" "size" "I" vI3) :
    own_MF l mN14 jdk_38_method_9_code 1 (some .boolean) ws rR0_0_0_0 Z h0 #[(.ref r0)] (Q19_3 Z  h0 n0) := by
  refine own_open (plainFor_of_name pn_java_util_ArrayList) (L0 := #[lR r0]) (fun _ => by first | (simp [entryFrame, mkF, argsToLocals, Value.category]; done) | rfl) ?_
  intro p e s m below meth c s₁ hx hby hml hret hnn hZ hown X0 e0
  have N0 := Fr.nil n0
  obtain ⟨T2, X2, e2, st2⟩ := getF X0 hx hZ hown (host := "") (Or.inl (ww hw 79 rfl)) Via.refl e0 f1 (g := (mkF m 1 #[lR r0] [(.ref r0)])) rfl rfl (hb hby d19_1)
  refine ⟨some vI0, _, _, _, _, nofun, X2, by decide, by decide, ?_, fun fs hr => ?_⟩
  · rw [e2]; exact ⟨rfl, N0, rfl⟩
  · show SG p e below s₁ (mkF m 0 #[lR r0] []) _
    refine qaN X0 hx hby d19_0 ?_
    refine st2 _ ?_
    refine XS.ifYes X2.here hx rfl (pc0 := 4) (pc' := 11) rfl (hb hby d19_4) rfl ((if0 _ _).trans (feq (by decide : ¬ ((3 : Int32) = (0 : Int32)))).2) (by decide) (by decide) ?_
    refine qc X2 hx hby d19_11 ?_
    exact retN X2 hx (t := .boolean) hret (by simp) (hb hby d19_12) hr
def Q23_3 (Z : State)  (h0 : Heap) (n0 : Nat) (v : Option Value) (h : Heap) (L : List Loc) : Prop := v = some vI3 ∧ Fr n0 L ∧ h = h0
theorem rm23_3 (l : Launch) (Z : State) (a0 : Array Value) (hw : own_HW a0 Z) (ws : List Jvm.Cond)  (h0 : Heap) (n0 : Nat) (O0 : Old Z n0 h0) :
    own_MF l mN15 jdk_29_method_69_code 2 (some .int) ws rR0_0_0_0 Z h0 #[vI10, vI3] (Q23_3 Z  h0 n0) := by
  refine own_open (Jvm.Free.JP.mathPlain rfl (by decide +kernel)) (L0 := #[lV vI10, lV vI3]) (fun _ => by first | (simp [entryFrame, mkF, argsToLocals, Value.category]; done) | rfl) ?_
  intro p e s m below meth c s₁ hx hby hml hret hnn hZ hown X0 e0
  have N0 := Fr.nil n0
  refine ⟨some vI3, _, _, _, _, nofun, X0, by decide, by decide, ?_, fun fs hr => ?_⟩
  · rw [e0]; exact ⟨rfl, N0, rfl⟩
  · show SG p e below s₁ (mkF m 0 #[lV vI10, lV vI3] []) _
    refine qiN X0 hx hby d23_0 ?_
    refine qiN X0 hx hby d23_1 ?_
    refine XS.icmpYes X0.here hx rfl (pc0 := 2) (pc' := 9) rfl (hb hby d23_2) rfl (tlt (by decide : (3 : Int32) < (10 : Int32))).2.2.1 (by decide) (by decide) ?_
    refine qiN X0 hx hby d23_9 ?_
    exact retOut X0 hx (i := .ireturn) hret rfl (Or.inl ⟨rfl, Or.inl rfl, _, rfl⟩) (hb hby d23_10) hr
def Q22_3 (Z : State) (r3 r4 r5 : Addr) (h0 : Heap) (n0 : Nat) (v : Option Value) (h : Heap) (L : List Loc) : Prop := ∃ (b3 : Addr) (k3 : ClassId), v = some (.ref b3) ∧ Fr n0 L ∧ Keep h0 h [] ∧ h0.size ≤ b3 ∧ Arv Z h b3 k3 (.object "java/lang/Object") (3 : Int32) [(.ref r3), (.ref r4), (.ref r5)] .null ∧ Exa Z h b3 "[Ljava/lang/Object;" ∧ Ovr Z k3 "java/lang/Object"
theorem rm22_3 (l : Launch) (Z : State) (a0 : Array Value) (hw : own_HW a0 Z) (ws : List Jvm.Cond) (r0 r1 : Addr) (c2 : ClassId) (r3 r4 r5 : Addr) (h0 : Heap) (n0 : Nat) (O0 : Old Z n0 h0) (f1 : own_Mir Z "[Ljava/lang/Object;" r1) (f4 : Arv Z h0 r0 c2 (.object "java/lang/Object") (10 : Int32) [(.ref r3), (.ref r4), (.ref r5), .null, .null, .null, .null, .null, .null, .null] .null) (f10 : Exa Z h0 r5 cs0) (f12 : Exa Z h0 r4 cs0) (f14 : Exa Z h0 r3 cs0) :
    own_MF l mN16 jdk_65_method_120_code 4 (some (.array (.object "java/lang/Object"))) ws rR1_1_3_24 Z h0 #[(.ref r0), vI3, (.ref r1)] (Q22_3 Z r3 r4 r5 h0 n0) := by
  refine own_open (plainFor_of_name pn_java_util_Arrays) (L0 := #[lR r0, lV vI3, lR r1, lU]) (fun _ => by first | (simp [entryFrame, mkF, argsToLocals, Value.category]; done) | rfl) ?_
  intro p e s m below meth c s₁ hx hby hml hret hnn hZ hown X0 e0
  have N0 := Fr.nil n0; have w := @ww Z a0 hw
  obtain ⟨T2, X2, e2, st2⟩ := own_ldcM X0 hx hZ hown (w 158 rfl) e0 f1 (g := (mkF m 1 #[lR r0, lV vI3, lR r1, lU] [(.ref r1)])) rfl (hb hby d22_1)
  obtain ⟨T3, h3, k3, X3, e3, E3, A3, B3, O3, st3⟩ := newRE X2 hx hZ hown (w 159 rfl) (w 101 rfl) e2 (g := (mkF m 7 #[lR r0, lV vI3, lR r1, lU] [vI3])) rfl (hb hby d22_7) rfl (by decide) (cap := 3) (by decide) (by decide) (by decide) (by decide) (ad := "[Ljava/lang/Object;") rfl
  obtain ⟨b3, g3⟩ : ∃ z, z = h0.size := ⟨_, rfl⟩
  rw [← g3] at A3 B3 st3
  have V3 : Arv Z h3 b3 k3 (.object "java/lang/Object") (3 : Int32) [.null, .null, .null] .null := (Arv.new A3 (by decide)).pad (pad_rep [] .null 3)
  have f5 := (f4.ext E3)
  obtain ⟨clq6, Arq6, qq6, Sq6, Nq6, Hq6, Gq6⟩ := id f5
  have o7 := Old.ext O0 E3
  obtain ⟨_, T8, Lc8, X8, hQ8, st8⟩ := own_cS X3 hx hZ hown e3 (rm23_3 l Z a0 hw [] h3 n0 o7) (w 160 rfl) (w 161 rfl) (w 98 rfl) (w 162 rfl) (by decide) (W := 4) (by decide) (by decide) (by decide) (by decide) (g := (mkF m 32 #[lR r0, lV vI3, lR r1, lR b3] [vI3, vI10, vI0, (.ref b3), vI0, (.ref r0)])) rfl (by rw [hml]; rfl) (argsL := [vI10, vI3]) (rest := [vI0, (.ref b3), vI0, (.ref r0)]) (lenOf pd__II_I rfl) rfl (own_W rfl) (hb hby d22_32)
  obtain ⟨rfl, N8q, E8⟩ := hQ8
  have N8 := Fr.app N0 N8q
  obtain ⟨clq9, Arq9, qq9, Sq9, Nq9, Hq9, Gq9⟩ := id V3
  have f11 := (f10.ext E3)
  have f13 := (f12.ext E3)
  have f15 := (f14.ext E3)
  have zz16 : n0 ≤ h0.size := by rw [← O0.1]; exact O0.2.1
  have g17 := Nat.le_trans zz16 (Nat.le_of_eq g3.symm)
  obtain ⟨T18, h18, L18, X18, e18, N18, K18, B18, st18⟩ := cpA X8 hx hZ hown (w 163 rfl) (w 166 rfl) (w 164 rfl) (w 165 rfl) E8 f5 V3 (us := [(.ref r3), (.ref r4), (.ref r5)]) (Or.inr ⟨rfl, rfl, (And.intro (Sto.ofV Arq9 qq9 O3 (Ins.of_exa f15 (w 102 rfl))) (And.intro (Sto.ofV Arq9 qq9 O3 (Ins.of_exa f13 (w 102 rfl))) (And.intro (Sto.ofV Arq9 qq9 O3 (Ins.of_exa f11 (w 102 rfl))) trivial)))⟩) (by decide) (by decide) (by decide) (by decide) (by decide) rfl (by decide) N8 g17 (g := (mkF m 35 #[lR r0, lV vI3, lR r1, lR b3] [vI3, vI0, (.ref b3), vI0, (.ref r0)])) rfl (by rw [hml]; rfl) rfl (hb hby d22_35) (by decide) (W := 0) (own_W rfl) (by decide)
  have V18 : Arv Z h18 b3 k3 (.object "java/lang/Object") (3 : Int32) [(.ref r3), (.ref r4), (.ref r5)] .null := B18
  have f19 := (B3.keep K18)
  have kp20 : Keep h0 h3 [] := (Keep.refl h0 []).ext E3
  have kp21 : Keep h0 h18 [] := kp20.trans K18 (allS (Or.inr (Nat.le_of_eq g3.symm)) all0)
  refine ⟨some (.ref b3), _, _, _, _, nofun, X18, by decide, by decide, ?_, fun fs hr => ?_⟩
  · rw [e18]; exact ⟨b3, k3, rfl, N18, kp21, (Nat.le_of_eq g3.symm), V18, f19, O3⟩
  · show SG p e below s₁ (mkF m 0 #[lR r0, lV vI3, lR r1, lU] []) _
    refine qaN X0 hx hby d22_0 ?_
    refine st2 _ ?_
    refine Jvm.RoadKit.acmp (g := (mkF m 3 #[lR r0, lV vI3, lR r1, lU] [(.ref r1), (.ref r1)])) X2 hx rfl rfl rfl (pc0 := 3) (pc' := 6) (same := true) rfl (hb hby d22_3) rfl (decide_eq_true rfl) (by decide) (by decide) ?_
    refine qiN X2 hx hby d22_6 ?_
    refine st3 _ ?_
    refine XS.goto X3.here hx rfl (pc0 := 10) (pc' := 24) rfl (hb hby d22_10) (by decide) (by decide) ?_
    refine XS.astoreN X3.here hx rfl (hb hby d22_24) rfl rfl (l' := #[lR r0, lV vI3, lR r1, lR b3]) rfl ?_
    refine qaN X3 hx hby d22_25 ?_
    refine qc X3 hx hby d22_26 ?_
    refine qaN X3 hx hby d22_27 ?_
    show SG p e below T3 (mkF m 28 #[lR r0, lV vI3, lR r1, lR b3] [(.ref b3), vI0, (.ref r0)]) _
    refine qc X3 hx hby d22_28 ?_
    refine qaN X3 hx hby d22_29 ?_
    refine X3.arraylength hx (by rw [e3]; exact Arq6.1) (State.isArrayOf_alike hZ.alike Arq6.2.1) (g := (mkF m 30 #[lR r0, lV vI3, lR r1, lR b3] [(.ref r0), vI0, (.ref b3), vI0, (.ref r0)])) rfl rfl (hb hby d22_30) _ ?_
    rw [len_of Sq6 Nq6]
    refine qiN X3 hx hby d22_31 ?_
    refine st8 _ ?_
    refine st18 _ ?_
    refine qaN X18 hx hby d22_38 ?_
    exact retOut X18 hx (i := .areturn) hret rfl (Or.inr (Or.inr (Or.inr (Or.inr ⟨rfl, rfl, rfl⟩)))) (hb hby d22_39) hr
def Q21_3 (Z : State) (r3 r4 r5 : Addr) (h0 : Heap) (n0 : Nat) (v : Option Value) (h : Heap) (L : List Loc) : Prop := ∃ (b8_0 : Addr) (k8_0 : ClassId), v = some (.ref b8_0) ∧ Fr n0 L ∧ Keep h0 h [] ∧ h0.size ≤ b8_0 ∧ Arv Z h b8_0 k8_0 (.object "java/lang/Object") (3 : Int32) [(.ref r3), (.ref r4), (.ref r5)] .null ∧ Exa Z h b8_0 "[Ljava/lang/Object;" ∧ Ovr Z k8_0 "java/lang/Object"
theorem rm21_3 (l : Launch) (Z : State) (a0 : Array Value) (hw : own_HW a0 Z) (ws : List Jvm.Cond) (r0 r1 : Addr) (c2 : ClassId) (r3 r4 r5 : Addr) (h0 : Heap) (n0 : Nat) (O0 : Old Z n0 h0) (f1 : Exa Z h0 r0 "[Ljava/lang/Object;") (f2 : own_Mir Z "[Ljava/lang/Object;" r1) (f4 : Arv Z h0 r0 c2 (.object "java/lang/Object") (10 : Int32) [(.ref r3), (.ref r4), (.ref r5), .null, .null, .null, .null, .null, .null, .null] .null) (f5 : Exa Z h0 r5 cs0) (f6 : Exa Z h0 r4 cs0) (f7 : Exa Z h0 r3 cs0) :
    own_MF l mN17 jdk_65_method_119_code 2 (some (.array (.object "java/lang/Object"))) ws rR2_1_3_39 Z h0 #[(.ref r0), vI3] (Q21_3 Z r3 r4 r5 h0 n0) := by
  refine own_open (plainFor_of_name pn_java_util_Arrays) (L0 := #[lR r0, lV vI3]) (fun _ => by first | (simp [entryFrame, mkF, argsToLocals, Value.category]; done) | rfl) ?_
  intro p e s m below meth c s₁ hx hby hml hret hnn hZ hown X0 e0
  have N0 := Fr.nil n0; have w := @ww Z a0 hw
  obtain ⟨T3, X3, e3, st3⟩ := own_gcls X0 hx hZ hown (w 149 rfl) (w 150 rfl) (w 126 rfl) (w 152 rfl) (w 151 rfl) (w 153 rfl) e0 f1 f2 (g := (mkF m 3 #[lR r0, lV vI3] [(.ref r0), vI3, (.ref r0)])) rfl (by rw [hml]; rfl) rfl (hb hby d21_3) (by decide) (W := 2) (own_W rfl) (by decide)
  obtain ⟨_, T8, Lc8, X8, hQ8, st8⟩ := own_cS X3 hx hZ hown e3 (rm22_3 l Z a0 hw [] r0 r1 c2 r3 r4 r5 h0 n0 O0 f2 f4 f5 f6 f7) (w 155 rfl) (w 156 rfl) (w 147 rfl) (w 157 rfl) (by decide) (W := 0) (by decide) (by decide) (by decide) (by decide) (g := (mkF m 6 #[lR r0, lV vI3] [(.ref r1), vI3, (.ref r0)])) rfl (by rw [hml]; rfl) (argsL := [(.ref r0), vI3, (.ref r1)]) (rest := []) (lenOf pd___Ljava_lang_Object_ILjava_lang_Class___Ljava_lang_Object_ rfl) rfl (own_W rfl) (hb hby d21_6)
  obtain ⟨b8_0, k8_0, rfl, N8q, K8, f9, f10, f11, f12⟩ := hQ8
  have N8 := Fr.app N0 N8q
  have kp13 : Keep h0 T8.heap [] := (Keep.refl h0 []).trans K8 all0
  refine ⟨some (.ref b8_0), _, _, _, _, nofun, X8, by decide, by decide, ?_, fun fs hr => ?_⟩
  · exact ⟨b8_0, k8_0, rfl, N8, kp13, f9, f10, f11, f12⟩
  · show SG p e below s₁ (mkF m 0 #[lR r0, lV vI3] []) _
    refine qaN X0 hx hby d21_0 ?_
    refine qiN X0 hx hby d21_1 ?_
    refine qaN X0 hx hby d21_2 ?_
    refine st3 _ ?_
    refine st8 _ ?_
    exact retOut X8 hx (i := .areturn) hret rfl (Or.inr (Or.inr (Or.inr (Or.inr ⟨rfl, rfl, rfl⟩)))) (hb hby d21_9) hr
def Q20_3 (Z : State) (r4 r5 r6 : Addr) (h0 : Heap) (n0 : Nat) (v : Option Value) (h : Heap) (L : List Loc) : Prop := ∃ (b11_0 : Addr) (k11_0 : ClassId), v = some (.ref b11_0) ∧ Fr n0 L ∧ Keep h0 h [] ∧ h0.size ≤ b11_0 ∧ Arv Z h b11_0 k11_0 (.object "java/lang/Object") (3 : Int32) [(.ref r4), (.ref r5), (.ref r6)] .null ∧ Exa Z h b11_0 "[Ljava/lang/Object;" ∧ Ovr Z k11_0 "java/lang/Object"
theorem rm20_3 (l : Launch) (Z : State) (a0 : Array Value) (hw : own_HW a0 Z) (ws : List Jvm.Cond) (r0 r1 r2 : Addr) (c3 : ClassId) (r4 r5 r6 : Addr) (h0 : Heap) (n0 : Nat) (O0 : Old Z n0 h0) (f1 : Fld Z h0 r0 "java/util/ArrayList" "elementData" "[Ljava/lang/Object;" (.ref r1)) (f3 : Fld Z h0 r0 "java/util/ArrayList" "size" "I" vI3) (f5 : Exa Z h0 r1 "[Ljava/lang/Object;") (f6 : own_Mir Z "[Ljava/lang/Object;" r2) (f7 : Arv Z h0 r1 c3 (.object "java/lang/Object") (10 : Int32) [(.ref r4), (.ref r5), (.ref r6), .null, .null, .null, .null, .null, .null, .null] .null) (f8 : Exa Z h0 r6 cs0) (f9 : Exa Z h0 r5 cs0) (f10 : Exa Z h0 r4 cs0) :
    own_MF l mN18 jdk_38_method_16_code 1 (some (.array (.object "java/lang/Object"))) ws rR3_1_3_52 Z h0 #[(.ref r0)] (Q20_3 Z r4 r5 r6 h0 n0) := by
  refine own_open (plainFor_of_name pn_java_util_ArrayList) (L0 := #[lR r0]) (fun _ => by first | (simp [entryFrame, mkF, argsToLocals, Value.category]; done) | rfl) ?_
  intro p e s m below meth c s₁ hx hby hml hret hnn hZ hown X0 e0
  have N0 := Fr.nil n0; have w := @ww Z a0 hw
  obtain ⟨T2, X2, e2, st2⟩ := getF X0 hx hZ hown (host := "") (Or.inl (w 66 rfl)) Via.refl e0 f1 (g := (mkF m 1 #[lR r0] [(.ref r0)])) rfl rfl (hb hby d20_1)
  obtain ⟨T4, X4, e4, st4⟩ := getF X2 hx hZ hown (host := "") (Or.inl (w 79 rfl)) Via.refl e2 f3 (g := (mkF m 5 #[lR r0] [(.ref r0), (.ref r1)])) rfl rfl (hb hby d20_5)
  obtain ⟨_, T11, Lc11, X11, hQ11, st11⟩ := own_cS X4 hx hZ hown e4 (rm21_3 l Z a0 hw [] r1 r2 c3 r4 r5 r6 h0 n0 O0 f5 f6 f7 f8 f9 f10) (w 145 rfl) (w 146 rfl) (w 147 rfl) (w 148 rfl) (by decide) (W := 0) (by decide) (by decide) (by decide) (by decide) (g := (mkF m 8 #[lR r0] [vI3, (.ref r1)])) rfl (by rw [hml]; rfl) (argsL := [(.ref r1), vI3]) (rest := []) (lenOf pd___Ljava_lang_Object_I__Ljava_lang_Object_ rfl) rfl (own_W rfl) (hb hby d20_8)
  obtain ⟨b11_0, k11_0, rfl, N11q, K11, f12, f13, f14, f15⟩ := hQ11
  have N11 := Fr.app N0 N11q
  have kp16 : Keep h0 T11.heap [] := (Keep.refl h0 []).trans K11 all0
  refine ⟨some (.ref b11_0), _, _, _, _, nofun, X11, by decide, by decide, ?_, fun fs hr => ?_⟩
  · exact ⟨b11_0, k11_0, rfl, N11, kp16, f12, f13, f14, f15⟩
  · show SG p e below s₁ (mkF m 0 #[lR r0] []) _
    refine qaN X0 hx hby d20_0 ?_
    refine st2 _ ?_
    refine qaN X2 hx hby d20_4 ?_
    refine st4 _ ?_
    refine st11 _ ?_
    exact retOut X11 hx (i := .areturn) hret rfl (Or.inr (Or.inr (Or.inr (Or.inr ⟨rfl, rfl, rfl⟩)))) (hb hby d20_11) hr
theorem d24_59 : DK cB24 59 (.aload_n 0) 1 := by decide +kernel
theorem d24_60 : DK cB24 60 (.invokestatic 109) 3 := by decide +kernel
theorem d44_0 : DK cB44 0 (.aload_n 0) 1 := by decide +kernel
theorem d44_1 : DK cB44 1 (.arraylength) 1 := by decide +kernel
theorem d44_2 : DK cB44 2 (.anewarray 2) 3 := by decide +kernel
theorem d44_5 : DK cB44 5 (.astore_n 1) 1 := by decide +kernel
theorem d44_6 : DK cB44 6 (.iconst 0) 1 := by decide +kernel
theorem d44_7 : DK cB44 7 (.istore_n 2) 1 := by decide +kernel
theorem d44_8 : DK cB44 8 (.iload_n 2) 1 := by decide +kernel
theorem d44_9 : DK cB44 9 (.aload_n 0) 1 := by decide +kernel
theorem d44_10 : DK cB44 10 (.arraylength) 1 := by decide +kernel
theorem d44_11 : DK cB44 11 (.if_icmp .ge 18) 3 := by decide +kernel
theorem d44_14 : DK cB44 14 (.aload_n 1) 1 := by decide +kernel
theorem d44_15 : DK cB44 15 (.iload_n 2) 1 := by decide +kernel
theorem d44_16 : DK cB44 16 (.aload_n 0) 1 := by decide +kernel
theorem d44_17 : DK cB44 17 (.iload_n 2) 1 := by decide +kernel
theorem d44_18 : DK cB44 18 (.aaload) 1 := by decide +kernel
theorem d44_19 : DK cB44 19 (.invokestatic 37) 3 := by decide +kernel
theorem d44_22 : DK cB44 22 (.aastore) 1 := by decide +kernel
theorem d44_23 : DK cB44 23 (.iinc 2 1) 3 := by decide +kernel
theorem d44_26 : DK cB44 26 (.goto (-18)) 3 := by decide +kernel
theorem d44_29 : DK cB44 29 (.new 12) 3 := by decide +kernel
theorem d44_32 : DK cB44 32 (.dup) 1 := by decide +kernel
theorem d44_33 : DK cB44 33 (.aload_n 1) 1 := by decide +kernel
theorem d44_34 : DK cB44 34 (.iconst 0) 1 := by decide +kernel
theorem d44_35 : DK cB44 35 (.invokespecial 43) 3 := by decide +kernel
theorem d45_0 : DK cB45 0 (.aload_n 0) 1 := by decide +kernel
theorem d45_1 : DK cB45 1 (.invokespecial 1) 3 := by decide +kernel
theorem d45_4 : DK cB45 4 (.aload_n 0) 1 := by decide +kernel
theorem d45_5 : DK cB45 5 (.aload_n 1) 1 := by decide +kernel
theorem d45_6 : DK cB45 6 (.putfield 7) 3 := by decide +kernel
theorem d45_9 : DK cB45 9 (.aload_n 0) 1 := by decide +kernel
theorem d45_10 : DK cB45 10 (.iload_n 2) 1 := by decide +kernel
theorem d45_11 : DK cB45 11 (.putfield 13) 3 := by decide +kernel
theorem d45_14 : DK cB45 14 (.return_) 1 := by decide +kernel
theorem pn_java_util_ImmutableCollections_ListN : plainName cs14 = true := by first | (simp [plainName, overriddenIn]; done) | decide +kernel
def Q45_1 (Z : State) (r0 r1 : Addr) (h0 : Heap) (n0 : Nat) (v : Option Value) (h : Heap) (L : List Loc) : Prop := v = none ∧ Fr n0 L ∧ Keep h0 h [r0] ∧ Fld Z h r0 cs14 "elements" "[Ljava/lang/Object;" (.ref r1) ∧ Fld Z h r0 cs14 "allowNulls" "Z" vI0
theorem rm45_1 (l : Launch) (Z : State) (a0 : Array Value) (hw : own_HW a0 Z) (ws : List Jvm.Cond) (r0 r1 : Addr) (h0 : Heap) (n0 : Nat) (O0 : Old Z n0 h0) (f2 : Exa Z h0 r0 cs14) (f3 : Fld Z h0 r0 cs14 "elements" "[Ljava/lang/Object;" .null) (g4 : n0 ≤ r0) (f7 : Fld Z h0 r0 cs14 "allowNulls" "Z" vI0) :
    own_MF l mN55 jdk_45_method_1_code 3 none ws rR4_0_0_48 Z h0 #[(.ref r0), (.ref r1), vI0] (Q45_1 Z r0 r1 h0 n0) := by
  refine own_open (plainFor_of_name pn_java_util_ImmutableCollections_ListN) (L0 := #[lR r0, lR r1, lV vI0]) (fun _ => by first | (simp [entryFrame, mkF, argsToLocals, Value.category]; done) | rfl) ?_
  intro p e s m below meth c s₁ hx hby hml hret hnn hZ hown X0 e0
  have N0 := Fr.nil n0; have w := @ww Z a0 hw
  have hnm := (name_of_methodNamed hnn.1 hnn.2).1
  obtain ⟨_, T1, Lc1, X1, hQ1, st1⟩ := own_fin (X0.specialBack hx (y := mN20) rfl hown (mvT hZ (w 300 rfl)) (mvT hZ (w 178 rfl)) (mvT hZ (w 182 rfl)) (by decide) (backOf (W := 0) (rm26_1 l Z a0 hw [] r0 h0 n0 O0) hZ (w 182 rfl) (w 181 rfl) (by decide) (by decide)) (g := (mkF m 1 #[lR r0, lR r1, lV vI0] [(.ref r0)])) rfl (by rw [hml]; rfl) (Steps.refl _) (a := r0) (argsL := []) (rest := []) (lenOf pd___V rfl) rfl (own_W rfl) (hb hby d45_1) (fun _ _ => ⟨rfl, e0, (by decide : 0 + 0 ≤ _), (by decide : 0 + 0 ≤ _)⟩))
  obtain ⟨rfl, N1q, E1⟩ := hQ1
  have N1 := Fr.app N0 N1q
  obtain ⟨T5, h5, X5, e5, W5, st5⟩ := putF X1 hx hZ hown (host := "") (Or.inl (w 304 rfl)) Via.refl E1 f3 f2 (Or.inr ⟨(w 305 rfl), rfl, hnm⟩) (w 294 rfl) (ty := (.array (.object "java/lang/Object"))) (by decide) rfl rfl (g := (mkF m 6 #[lR r0, lR r1, lV vI0] [(.ref r1), (.ref r0)])) rfl rfl (hb hby d45_6)
  have Fw5 := f3.same W5
  have N5 := Fr.snoc X5 N1 g4
  have f6 := (f2.wr W5)
  have f8 := (f7.other W5 (Or.inr (slot_ne (Or.inr (w 307 rfl)) (Or.inr (w 305 rfl)) (by decide) (t := .boolean) (t' := (.array (.object "java/lang/Object"))) (by decide) (by decide))))
  obtain ⟨T9, h9, X9, e9, W9, st9⟩ := putFN X5 hx hZ hown (w 306 rfl) Via.refl e5 f8 f6 (Or.inr ⟨(w 307 rfl), rfl, hnm⟩) (w 294 rfl) (ty := .boolean) (v' := vI0) (by decide) rfl (by decide) (g := (mkF m 11 #[lR r0, lR r1, lV vI0] [vI0, (.ref r0)])) rfl rfl (hb hby d45_11)
  have Fw9 := f8.same W9
  have N9 := Fr.snoc X9 N5 g4
  have f10 := (Fw5.other W9 (Or.inr (slot_ne (Or.inr (w 305 rfl)) (Or.inr (w 307 rfl)) (by decide) (t := (.array (.object "java/lang/Object"))) (t' := .boolean) (by decide) (by decide))))
  have kp11 : Keep h0 h5 [r0] := (Keep.refl h0 [r0]).wr W5 (Or.inl (List.mem_of_getElem? (i := 0) rfl))
  have kp12 : Keep h0 h9 [r0] := kp11.wr W9 (Or.inl (List.mem_of_getElem? (i := 0) rfl))
  refine ⟨none, _, _, _, _, (fun _ => rfl), X9, by decide, by decide, ?_, fun fs hr => ?_⟩
  · rw [e9]; exact ⟨rfl, N9, kp12, f10, Fw9⟩
  · show SG p e below s₁ (mkF m 0 #[lR r0, lR r1, lV vI0] []) _
    refine qaN X0 hx hby d45_0 ?_
    refine st1.trans ?_
    refine qaN X1 hx hby d45_4 ?_
    refine qaN X1 hx hby d45_5 ?_
    refine st5 _ ?_
    refine qaN X5 hx hby d45_9 ?_
    refine qiN X5 hx hby d45_10 ?_
    refine st9 _ ?_
    exact X9.returnOut hx hret (hb hby d45_14) hr
theorem pd___Ljava_lang_Object_Z_V : parseMethodDescriptor "([Ljava/lang/Object;Z)V" = some ⟨[(.array (.object "java/lang/Object")), .boolean], none⟩ := by decide +kernel
theorem d44_38 : DK cB44 38 (.areturn) 1 := by decide +kernel
def Q44_1 (Z : State) (r2 r3 r4 : Addr) (h0 : Heap) (n0 : Nat) (v : Option Value) (h : Heap) (L : List Loc) : Prop := ∃ (b37 b3 : Addr) (k3 : ClassId), v = some (.ref b37) ∧ Fr n0 L ∧ Keep h0 h [] ∧ h0.size ≤ b37 ∧ Exa Z h b37 cs14 ∧ Fld Z h b37 cs14 "elements" "[Ljava/lang/Object;" (.ref b3) ∧ Fld Z h b37 cs14 "allowNulls" "Z" vI0 ∧ h0.size ≤ b3 ∧ Arv Z h b3 k3 (.object "java/lang/Object") (3 : Int32) [(.ref r2), (.ref r3), (.ref r4)] .null ∧ Exa Z h b3 "[Ljava/lang/Object;" ∧ Ovr Z k3 "java/lang/Object" ∧ b37 ≠ b3
theorem rm44_1 (l : Launch) (Z : State) (a0 : Array Value) (hw : own_HW a0 Z) (ws : List Jvm.Cond) (r0 : Addr) (c1 : ClassId) (r2 r3 r4 : Addr) (h0 : Heap) (n0 : Nat) (O0 : Old Z n0 h0) (f1 : Arv Z h0 r0 c1 (.object "java/lang/Object") (3 : Int32) [(.ref r2), (.ref r3), (.ref r4)] .null) (f10 : Exa Z h0 r2 cs0) (l15 : r0 < h0.size) (f23 : Exa Z h0 r3 cs0) (f32 : Exa Z h0 r4 cs0) :
    own_MF l mN56 jdk_56_method_4_code 3 (some (.object "java/util/List")) ws rR5_2_5_63 Z h0 #[(.ref r0)] (Q44_1 Z r2 r3 r4 h0 n0) := by
  refine own_open (plainFor_of_name pn_java_util_ImmutableCollections) (L0 := #[lR r0, lU, lU]) (fun _ => by first | (simp [entryFrame, mkF, argsToLocals, Value.category]; done) | rfl) ?_
  intro p e s m below meth c s₁ hx hby hml hret hnn hZ hown X0 e0
  have N0 := Fr.nil n0; have w := @ww Z a0 hw
  obtain ⟨clq2, Arq2, qq2, Sq2, Nq2, Hq2, Gq2⟩ := id f1
  obtain ⟨T3, h3, k3, X3, e3, E3, A3, B3, O3, st3⟩ := newRE X0 hx hZ hown (w 292 rfl) (w 101 rfl) e0 (g := (mkF m 2 #[lR r0, lU, lU] [vI3])) rfl (hb hby d44_2) rfl (by decide) (cap := 3) (by decide) (by decide) (by decide) (by decide) (ad := "[Ljava/lang/Object;") rfl
  obtain ⟨b3, g3⟩ : ∃ z, z = h0.size := ⟨_, rfl⟩
  rw [← g3] at A3 B3 st3
  have V3 : Arv Z h3 b3 k3 (.object "java/lang/Object") (3 : Int32) [.null, .null, .null] .null := (Arv.new A3 (by decide)).pad (pad_rep [] .null 3)
  have f4 := (f1.ext E3)
  obtain ⟨clq5, Arq5, qq5, Sq5, Nq5, Hq5, Gq5⟩ := id f4
  obtain ⟨clq6, Arq6, qq6, Sq6, Nq6, Hq6, Gq6⟩ := id f4
  have o7 := Old.ext O0 E3
  obtain ⟨_, T8, Lc8, X8, hQ8, st8⟩ := own_cS X3 hx hZ hown e3 (rm28_1 l Z a0 hw [] r2 h3 n0 o7) (w 293 rfl) (w 192 rfl) (w 193 rfl) (w 194 rfl) (by decide) (W := 2) (by decide) (by decide) (by decide) (by decide) (g := (mkF m 19 #[lR r0, lR b3, lV vI0] [(.ref r2), vI0, (.ref b3)])) rfl (by rw [hml]; rfl) (argsL := [(.ref r2)]) (rest := [vI0, (.ref b3)]) (lenOf pd__Ljava_lang_Object__Ljava_lang_Object_ rfl) rfl (own_W rfl) (hb hby d44_19)
  obtain ⟨rfl, N8q, E8⟩ := hQ8
  have N8 := Fr.app N0 N8q
  obtain ⟨clq9, Arq9, qq9, Sq9, Nq9, Hq9, Gq9⟩ := id V3
  have f11 := (f10.ext E3)
  have zz12 : n0 ≤ h0.size := by rw [← O0.1]; exact O0.2.1
  have g13 := Nat.le_trans zz12 (Nat.le_of_eq g3.symm)
  obtain ⟨T14, h14, X14, e14, W14, st14⟩ := stR X8 hx hZ E8 Arq9 (j := (0 : Int32)) (inb_of Sq9 ⟨(by decide : ¬ ((0 : Int32) < (0 : Int32))), (by decide : (0 : Int32) < (3 : Int32))⟩) rfl (Sto.ofV Arq9 qq9 O3 (Ins.of_exa f11 (w 102 rfl))) (g := (mkF m 22 #[lR r0, lR b3, lV vI0] [(.ref r2), vI0, (.ref b3)])) rfl rfl (hb hby d44_22)
  have V14 : Arv Z h14 b3 k3 (.object "java/lang/Object") (3 : Int32) [(.ref r2), .null, .null] .null := Arv.set Arq9 qq9 Sq9 Nq9 Hq9 Gq9 rfl W14 0 rfl (Nat.le_of_ble_eq_true rfl)
  have N14 := Fr.snoc X14 N8 g13
  have n16 := Nat.ne_of_lt (Nat.lt_of_lt_of_le l15 (Nat.le_of_eq g3.symm))
  have f17 := (f4.other W14 n16)
  obtain ⟨clq18, Arq18, qq18, Sq18, Nq18, Hq18, Gq18⟩ := id f17
  obtain ⟨clq19, Arq19, qq19, Sq19, Nq19, Hq19, Gq19⟩ := id f17
  have o20 := Old.wr o7 W14 g13
  obtain ⟨_, T21, Lc21, X21, hQ21, st21⟩ := own_cS X14 hx hZ hown e14 (rm28_1 l Z a0 hw [] r3 h14 n0 o20) (w 293 rfl) (w 192 rfl) (w 193 rfl) (w 194 rfl) (by decide) (W := 2) (by decide) (by decide) (by decide) (by decide) (g := (mkF m 19 #[lR r0, lR b3, lV vI1] [(.ref r3), vI1, (.ref b3)])) rfl (by rw [hml]; rfl) (argsL := [(.ref r3)]) (rest := [vI1, (.ref b3)]) (lenOf pd__Ljava_lang_Object__Ljava_lang_Object_ rfl) rfl (own_W rfl) (hb hby d44_19)
  obtain ⟨rfl, N21q, E21⟩ := hQ21
  have N21 := Fr.app N14 N21q
  obtain ⟨clq22, Arq22, qq22, Sq22, Nq22, Hq22, Gq22⟩ := id V14
  have f24 := ((f23.ext E3).wr W14)
  obtain ⟨T25, h25, X25, e25, W25, st25⟩ := stR X21 hx hZ E21 Arq22 (j := (1 : Int32)) (inb_of Sq22 ⟨(by decide : ¬ ((1 : Int32) < (0 : Int32))), (by decide : (1 : Int32) < (3 : Int32))⟩) rfl (Sto.ofV Arq22 qq22 O3 (Ins.of_exa f24 (w 102 rfl))) (g := (mkF m 22 #[lR r0, lR b3, lV vI1] [(.ref r3), vI1, (.ref b3)])) rfl rfl (hb hby d44_22)
  have V25 : Arv Z h25 b3 k3 (.object "java/lang/Object") (3 : Int32) [(.ref r2), (.ref r3), .null] .null := Arv.set Arq22 qq22 Sq22 Nq22 Hq22 Gq22 rfl W25 1 rfl (Nat.le_of_ble_eq_true rfl)
  have N25 := Fr.snoc X25 N21 g13
  have f26 := (f17.other W25 n16)
  obtain ⟨clq27, Arq27, qq27, Sq27, Nq27, Hq27, Gq27⟩ := id f26
  obtain ⟨clq28, Arq28, qq28, Sq28, Nq28, Hq28, Gq28⟩ := id f26
  have o29 := Old.wr o20 W25 g13
  obtain ⟨_, T30, Lc30, X30, hQ30, st30⟩ := own_cS X25 hx hZ hown e25 (rm28_1 l Z a0 hw [] r4 h25 n0 o29) (w 293 rfl) (w 192 rfl) (w 193 rfl) (w 194 rfl) (by decide) (W := 2) (by decide) (by decide) (by decide) (by decide) (g := (mkF m 19 #[lR r0, lR b3, lV vI2] [(.ref r4), vI2, (.ref b3)])) rfl (by rw [hml]; rfl) (argsL := [(.ref r4)]) (rest := [vI2, (.ref b3)]) (lenOf pd__Ljava_lang_Object__Ljava_lang_Object_ rfl) rfl (own_W rfl) (hb hby d44_19)
  obtain ⟨rfl, N30q, E30⟩ := hQ30
  have N30 := Fr.app N25 N30q
  obtain ⟨clq31, Arq31, qq31, Sq31, Nq31, Hq31, Gq31⟩ := id V25
  have f33 := (((f32.ext E3).wr W14).wr W25)
  obtain ⟨T34, h34, X34, e34, W34, st34⟩ := stR X30 hx hZ E30 Arq31 (j := (2 : Int32)) (inb_of Sq31 ⟨(by decide : ¬ ((2 : Int32) < (0 : Int32))), (by decide : (2 : Int32) < (3 : Int32))⟩) rfl (Sto.ofV Arq31 qq31 O3 (Ins.of_exa f33 (w 102 rfl))) (g := (mkF m 22 #[lR r0, lR b3, lV vI2] [(.ref r4), vI2, (.ref b3)])) rfl rfl (hb hby d44_22)
  have V34 : Arv Z h34 b3 k3 (.object "java/lang/Object") (3 : Int32) [(.ref r2), (.ref r3), (.ref r4)] .null := Arv.set Arq31 qq31 Sq31 Nq31 Hq31 Gq31 rfl W34 2 rfl (Nat.le_of_ble_eq_true rfl)
  have N34 := Fr.snoc X34 N30 g13
  have f35 := (f26.other W34 n16)
  obtain ⟨clq36, Arq36, qq36, Sq36, Nq36, Hq36, Gq36⟩ := id f35
  obtain ⟨T37, h37, X37, e37, E37, A37, D37, -, st37⟩ := newO X34 hx hZ hown (w 127 rfl) (w 294 rfl) (w 295 rfl) e34 (g := (mkF m 29 #[lR r0, lR b3, lV vI3] [])) rfl (hb hby d44_29) (by decide) (by decide)
  obtain ⟨b37, g37⟩ : ∃ z, z = h34.size := ⟨_, rfl⟩
  rw [← g37] at A37 D37 st37
  have f38 : Fld Z h37 b37 cs14 "elements" "[Ljava/lang/Object;" .null := D37 (Or.inr (w 305 rfl)) (ty := (.array (.object "java/lang/Object"))) (by decide)
  have f39 : Fld Z h37 b37 cs14 "allowNulls" "Z" vI0 := D37 (Or.inr (w 307 rfl)) (ty := .boolean) (by decide)
  have o41 := Old.wr o29 W34 g13
  have zz40 : n0 ≤ h34.size := by rw [← o41.1]; exact o41.2.1
  have g42 := Nat.le_trans zz40 (Nat.le_of_eq g37.symm)
  have o43 := Old.ext o41 E37
  obtain ⟨_, T44, Lc44, X44, hQ44, st44⟩ := own_fin (X37.specialBackNest hx (y := mN55) rfl hown (own_mvMN hZ (w 296 rfl)) (mvT hZ (w 297 rfl)) (mvT hZ (w 299 rfl)) (by decide) (backOf (W := 1) (rm45_1 l Z a0 hw [] b37 b3 h37 n0 o43 A37 f38 g42 f39) hZ (w 299 rfl) (w 295 rfl) (by decide) (by decide)) (g := (mkF m 35 #[lR r0, lR b3, lV vI3] [vI0, (.ref b3), (.ref b37), (.ref b37)])) rfl (by rw [hml]; rfl) (Steps.refl _) (a := b37) (argsL := [(.ref b3), vI0]) (rest := [(.ref b37)]) (lenOf pd___Ljava_lang_Object_Z_V rfl) rfl (own_W rfl) (hb hby d44_35) (fun _ _ => ⟨rfl, e37, (by decide : 2 + 0 ≤ _), (by decide : 5 + 0 ≤ _)⟩))
  obtain ⟨rfl, N44q, K44, f45, f46⟩ := hQ44
  have N44 := Fr.app N34 N44q
  have zs47 := E3.1
  have zs48 := Nat.le_trans zs47 (Nat.le_of_eq W14.size.symm)
  have zs49 := Nat.le_trans zs48 (Nat.le_of_eq W25.size.symm)
  have zs50 := Nat.le_trans zs49 (Nat.le_of_eq W34.size.symm)
  have f51 := (A37.keep K44)
  have zs52 := (Nat.le_of_eq W14.size.symm)
  have zs53 := Nat.le_trans zs52 (Nat.le_of_eq W25.size.symm)
  have zs54 := Nat.le_trans zs53 (Nat.le_of_eq W34.size.symm)
  have n55 := Nat.ne_of_lt (Nat.lt_of_lt_of_le (Nat.lt_of_lt_of_le V3.lt zs54) (Nat.le_of_eq g37.symm))
  have f56 := ((V34.ext E37).keep K44 (ninS n55 nin0))
  have f57 := (((((B3.wr W14).wr W25).wr W34).ext E37).keep K44)
  have kp58 : Keep h0 h3 [] := (Keep.refl h0 []).ext E3
  have kp59 : Keep h0 h14 [] := kp58.wr W14 (Or.inr (Nat.le_of_eq g3.symm))
  have kp60 : Keep h0 h25 [] := kp59.wr W25 (Or.inr (Nat.le_of_eq g3.symm))
  have kp61 : Keep h0 h34 [] := kp60.wr W34 (Or.inr (Nat.le_of_eq g3.symm))
  have kp62 : Keep h0 h37 [] := kp61.ext E37
  have kp63 : Keep h0 T44.heap [] := kp62.trans K44 (allS (Or.inr (Nat.le_trans zs50 (Nat.le_of_eq g37.symm))) all0)
  refine ⟨some (.ref b37), _, _, _, _, nofun, X44, by decide, by decide, ?_, fun fs hr => ?_⟩
  · exact ⟨b37, b3, k3, rfl, N44, kp63, (Nat.le_trans zs50 (Nat.le_of_eq g37.symm)), f51, f45, f46, (Nat.le_of_eq g3.symm), f56, f57, O3, (Ne.symm n55)⟩
  · show SG p e below s₁ (mkF m 0 #[lR r0, lU, lU] []) _
    refine qaN X0 hx hby d44_0 ?_
    refine X0.arraylength hx (by rw [e0]; exact Arq2.1) (State.isArrayOf_alike hZ.alike Arq2.2.1) (g := (mkF m 1 #[lR r0, lU, lU] [(.ref r0)])) rfl rfl (hb hby d44_1) _ ?_
    rw [len_of Sq2 Nq2]
    refine st3 _ ?_
    refine XS.astoreN X3.here hx rfl (hb hby d44_5) rfl rfl (l' := #[lR r0, lR b3, lU]) rfl ?_
    refine qc X3 hx hby d44_6 ?_
    refine XS.istoreN X3.here hx rfl (hb hby d44_7) rfl (l' := #[lR r0, lR b3, lV vI0]) rfl ?_
    refine qiN X3 hx hby d44_8 ?_
    refine qaN X3 hx hby d44_9 ?_
    refine X3.arraylength hx (by rw [e3]; exact Arq5.1) (State.isArrayOf_alike hZ.alike Arq5.2.1) (g := (mkF m 10 #[lR r0, lR b3, lV vI0] [(.ref r0), vI0])) rfl rfl (hb hby d44_10) _ ?_
    rw [len_of Sq5 Nq5]
    refine XS.icmpNo X3.here hx rfl (hb hby d44_11) rfl (tlt (by decide : (0 : Int32) < (3 : Int32))).2.1 ?_
    show SG p e below T3 (mkF m 14 #[lR r0, lR b3, lV vI0] []) _
    refine qaN X3 hx hby d44_14 ?_
    refine qiN X3 hx hby d44_15 ?_
    refine qaN X3 hx hby d44_16 ?_
    refine qiN X3 hx hby d44_17 ?_
    refine X3.aaload hx (j := (0 : Int32)) (v := (.ref r2)) (by rw [e3]; exact Arq6.1) (State.isArrayOf_alike hZ.alike Arq6.2.1) rfl Arq6.2.2 (inb_of Sq6 ⟨(by decide : ¬ ((0 : Int32) < (0 : Int32))), (by decide : (0 : Int32) < (3 : Int32))⟩) (Has.at Hq6 (inb_of Sq6 ⟨(by decide : ¬ ((0 : Int32) < (0 : Int32))), (by decide : (0 : Int32) < (3 : Int32))⟩) rfl) (g := (mkF m 18 #[lR r0, lR b3, lV vI0] [vI0, (.ref r0), vI0, (.ref b3)])) rfl rfl (hb hby d44_18) _ ?_
    refine st8 _ ?_
    refine st14 _ ?_
    refine XS.iinc X14.here hx rfl (hb hby d44_23) rfl (l' := #[lR r0, lR b3, lV vI1]) rfl ?_
    refine XS.goto X14.here hx rfl (pc0 := 26) (pc' := 8) rfl (hb hby d44_26) (by decide) (by decide) ?_
    refine qiN X14 hx hby d44_8 ?_
    show SG p e below T14 (mkF m 9 #[lR r0, lR b3, lV vI1] [vI1]) _
    refine qaN X14 hx hby d44_9 ?_
    refine X14.arraylength hx (by rw [e14]; exact Arq18.1) (State.isArrayOf_alike hZ.alike Arq18.2.1) (g := (mkF m 10 #[lR r0, lR b3, lV vI1] [(.ref r0), vI1])) rfl rfl (hb hby d44_10) _ ?_
    rw [len_of Sq18 Nq18]
    refine XS.icmpNo X14.here hx rfl (hb hby d44_11) rfl (tlt (by decide : (1 : Int32) < (3 : Int32))).2.1 ?_
    refine qaN X14 hx hby d44_14 ?_
    refine qiN X14 hx hby d44_15 ?_
    refine qaN X14 hx hby d44_16 ?_
    refine qiN X14 hx hby d44_17 ?_
    refine X14.aaload hx (j := (1 : Int32)) (v := (.ref r3)) (by rw [e14]; exact Arq19.1) (State.isArrayOf_alike hZ.alike Arq19.2.1) rfl Arq19.2.2 (inb_of Sq19 ⟨(by decide : ¬ ((1 : Int32) < (0 : Int32))), (by decide : (1 : Int32) < (3 : Int32))⟩) (Has.at Hq19 (inb_of Sq19 ⟨(by decide : ¬ ((1 : Int32) < (0 : Int32))), (by decide : (1 : Int32) < (3 : Int32))⟩) rfl) (g := (mkF m 18 #[lR r0, lR b3, lV vI1] [vI1, (.ref r0), vI1, (.ref b3)])) rfl rfl (hb hby d44_18) _ ?_
    refine st21 _ ?_
    refine st25 _ ?_
    show SG p e below T25 (mkF m 23 #[lR r0, lR b3, lV vI1] []) _
    refine XS.iinc X25.here hx rfl (hb hby d44_23) rfl (l' := #[lR r0, lR b3, lV vI2]) rfl ?_
    refine XS.goto X25.here hx rfl (pc0 := 26) (pc' := 8) rfl (hb hby d44_26) (by decide) (by decide) ?_
    refine qiN X25 hx hby d44_8 ?_
    refine qaN X25 hx hby d44_9 ?_
    refine X25.arraylength hx (by rw [e25]; exact Arq27.1) (State.isArrayOf_alike hZ.alike Arq27.2.1) (g := (mkF m 10 #[lR r0, lR b3, lV vI2] [(.ref r0), vI2])) rfl rfl (hb hby d44_10) _ ?_
    rw [len_of Sq27 Nq27]
    refine XS.icmpNo X25.here hx rfl (hb hby d44_11) rfl (tlt (by decide : (2 : Int32) < (3 : Int32))).2.1 ?_
    refine qaN X25 hx hby d44_14 ?_
    refine qiN X25 hx hby d44_15 ?_
    refine qaN X25 hx hby d44_16 ?_
    refine qiN X25 hx hby d44_17 ?_
    show SG p e below T25 (mkF m 18 #[lR r0, lR b3, lV vI2] [vI2, (.ref r0), vI2, (.ref b3)]) _
    refine X25.aaload hx (j := (2 : Int32)) (v := (.ref r4)) (by rw [e25]; exact Arq28.1) (State.isArrayOf_alike hZ.alike Arq28.2.1) rfl Arq28.2.2 (inb_of Sq28 ⟨(by decide : ¬ ((2 : Int32) < (0 : Int32))), (by decide : (2 : Int32) < (3 : Int32))⟩) (Has.at Hq28 (inb_of Sq28 ⟨(by decide : ¬ ((2 : Int32) < (0 : Int32))), (by decide : (2 : Int32) < (3 : Int32))⟩) rfl) (g := (mkF m 18 #[lR r0, lR b3, lV vI2] [vI2, (.ref r0), vI2, (.ref b3)])) rfl rfl (hb hby d44_18) _ ?_
    refine st30 _ ?_
    refine st34 _ ?_
    refine XS.iinc X34.here hx rfl (hb hby d44_23) rfl (l' := #[lR r0, lR b3, lV vI3]) rfl ?_
    refine XS.goto X34.here hx rfl (pc0 := 26) (pc' := 8) rfl (hb hby d44_26) (by decide) (by decide) ?_
    refine qiN X34 hx hby d44_8 ?_
    refine qaN X34 hx hby d44_9 ?_
    refine X34.arraylength hx (by rw [e34]; exact Arq36.1) (State.isArrayOf_alike hZ.alike Arq36.2.1) (g := (mkF m 10 #[lR r0, lR b3, lV vI3] [(.ref r0), vI3])) rfl rfl (hb hby d44_10) _ ?_
    rw [len_of Sq36 Nq36]
    refine XS.icmpYes X34.here hx rfl (pc0 := 11) (pc' := 29) rfl (hb hby d44_11) rfl (flt (by decide : ¬ ((3 : Int32) < (3 : Int32)))).2.1 (by decide) (by decide) ?_
    refine st37 _ ?_
    show SG p e below T37 (mkF m 32 #[lR r0, lR b3, lV vI3] [(.ref b37)]) _
    refine qd X37 hx hby d44_32 ?_
    refine qaN X37 hx hby d44_33 ?_
    refine qc X37 hx hby d44_34 ?_
    refine st44.trans ?_
    exact retOut X44 hx (i := .areturn) hret rfl (Or.inr (Or.inr (Or.inr (Or.inr ⟨rfl, rfl, rfl⟩)))) (hb hby d44_38) hr
theorem d24_63 : DK cB24 63 (.areturn) 1 := by decide +kernel
def Q24_3 (Z : State) (r2 r3 r4 : Addr) (h0 : Heap) (n0 : Nat) (v : Option Value) (h : Heap) (L : List Loc) : Prop := ∃ (b7_0 b7_1 : Addr) (k7_0 : ClassId), v = some (.ref b7_0) ∧ Fr n0 L ∧ Keep h0 h [] ∧ h0.size ≤ b7_0 ∧ Exa Z h b7_0 cs14 ∧ Fld Z h b7_0 cs14 "elements" "[Ljava/lang/Object;" (.ref b7_1) ∧ Fld Z h b7_0 cs14 "allowNulls" "Z" vI0 ∧ h0.size ≤ b7_1 ∧ Arv Z h b7_1 k7_0 (.object "java/lang/Object") (3 : Int32) [(.ref r2), (.ref r3), (.ref r4)] .null ∧ Exa Z h b7_1 "[Ljava/lang/Object;" ∧ Ovr Z k7_0 "java/lang/Object" ∧ b7_0 ≠ b7_1
theorem rm24_3 (l : Launch) (Z : State) (a0 : Array Value) (hw : own_HW a0 Z) (ws : List Jvm.Cond) (r0 : Addr) (c1 : ClassId) (r2 r3 r4 : Addr) (h0 : Heap) (n0 : Nat) (O0 : Old Z n0 h0) (f1 : Arv Z h0 r0 c1 (.object "java/lang/Object") (3 : Int32) [(.ref r2), (.ref r3), (.ref r4)] .null) (f3 : Exa Z h0 r2 cs0) (l4 : r0 < h0.size) (f5 : Exa Z h0 r3 cs0) (f6 : Exa Z h0 r4 cs0) :
    own_MF l mN23 jdk_40_method_47_code 2 (some (.object "java/util/List")) ws rR6_2_5_77 Z h0 #[(.ref r0)] (Q24_3 Z r2 r3 r4 h0 n0) := by
  refine own_open (plainFor_of_name pn_java_util_List) (L0 := #[lR r0, lU]) (fun _ => by first | (simp [entryFrame, mkF, argsToLocals, Value.category]; done) | rfl) ?_
  intro p e s m below meth c s₁ hx hby hml hret hnn hZ hown X0 e0
  have N0 := Fr.nil n0
  obtain ⟨clq2, Arq2, qq2, Sq2, Nq2, Hq2, Gq2⟩ := id f1
  obtain ⟨_, T7, Lc7, X7, hQ7, st7⟩ := own_cS X0 hx hZ hown e0 (rm44_1 l Z a0 hw [] r0 c1 r2 r3 r4 h0 n0 O0 f1 f3 l4 f5 f6) (ww hw 289 rfl) (ww hw 290 rfl) (ww hw 120 rfl) (ww hw 291 rfl) (by decide) (W := 0) (by decide) (by decide) (by decide) (by decide) (g := (mkF m 60 #[lR r0, lU] [(.ref r0)])) rfl (by rw [hml]; rfl) (argsL := [(.ref r0)]) (rest := []) (lenOf pd___Ljava_lang_Object__Ljava_util_List_ rfl) rfl (own_W rfl) (hb hby d24_60)
  obtain ⟨b7_0, b7_1, k7_0, rfl, N7q, K7, f8, f9, f10, f11, f12, f13, f14, f15, f16⟩ := hQ7
  have N7 := Fr.app N0 N7q
  have kp17 : Keep h0 T7.heap [] := (Keep.refl h0 []).trans K7 all0
  refine ⟨some (.ref b7_0), _, _, _, _, nofun, X7, by decide, by decide, ?_, fun fs hr => ?_⟩
  · exact ⟨b7_0, b7_1, k7_0, rfl, N7, kp17, f8, f9, f10, f11, f12, f13, f14, f15, f16⟩
  · show SG p e below s₁ (mkF m 0 #[lR r0, lU] []) _
    refine qaN X0 hx hby d24_0 ?_
    refine X0.arraylength hx (by rw [e0]; exact Arq2.1) (State.isArrayOf_alike hZ.alike Arq2.2.1) (g := (mkF m 1 #[lR r0, lU] [(.ref r0)])) rfl rfl (hb hby d24_1) _ ?_
    rw [len_of Sq2 Nq2]
    refine XS.tswOut X0.here hx rfl (pc0 := 2) (pc' := 59) rfl (hb hby d24_2) rfl (by decide) (by decide) (by decide) ?_
    refine qaN X0 hx hby d24_59 ?_
    refine st7 _ ?_
    exact retOut X7 hx (i := .areturn) hret rfl (Or.inr (Or.inr (Or.inr (Or.inr ⟨rfl, rfl, rfl⟩)))) (hb hby d24_63) hr
def Q18_3 (Z : State) (r4 r5 r6 : Addr) (h0 : Heap) (n0 : Nat) (v : Option Value) (h : Heap) (L : List Loc) : Prop := ∃ (b22_0 b22_1 : Addr) (k22_0 : ClassId), v = some (.ref b22_0) ∧ Fr n0 L ∧ Keep h0 h [] ∧ h0.size ≤ b22_0 ∧ Exa Z h b22_0 cs14 ∧ Fld Z h b22_0 cs14 "elements" "[Ljava/lang/Object;" (.ref b22_1) ∧ Fld Z h b22_0 cs14 "allowNulls" "Z" vI0 ∧ h0.size ≤ b22_1 ∧ Arv Z h b22_1 k22_0 (.object "java/lang/Object") (3 : Int32) [(.ref r4), (.ref r5), (.ref r6)] .null ∧ Exa Z h b22_1 "[Ljava/lang/Object;" ∧ Ovr Z k22_0 "java/lang/Object" ∧ b22_0 ≠ b22_1
theorem rm18_3 (l : Launch) (Z : State) (a0 : Array Value) (hw : own_HW a0 Z) (ws : List Jvm.Cond) (r0 r1 r2 : Addr) (c3 : ClassId) (r4 r5 r6 : Addr) (h0 : Heap) (n0 : Nat) (O0 : Old Z n0 h0) (f1 : Exa Z h0 r0 "java/util/ArrayList") (f4 : Fld Z h0 r0 "java/util/ArrayList" "size" "I" vI3) (f6 : Fld Z h0 r0 "java/util/ArrayList" "elementData" "[Ljava/lang/Object;" (.ref r1)) (f7 : Exa Z h0 r1 "[Ljava/lang/Object;") (f8 : own_Mir Z "[Ljava/lang/Object;" r2) (f9 : Arv Z h0 r1 c3 (.object "java/lang/Object") (10 : Int32) [(.ref r4), (.ref r5), (.ref r6), .null, .null, .null, .null, .null, .null, .null] .null) (f10 : Exa Z h0 r6 cs0) (f11 : Exa Z h0 r5 cs0) (f12 : Exa Z h0 r4 cs0) :
    own_MF l mN24 jdk_56_method_3_code 2 (some (.object "java/util/List")) ws rR7_3_8_90 Z h0 #[(.ref r0)] (Q18_3 Z r4 r5 r6 h0 n0) := by
  refine own_open (plainFor_of_name pn_java_util_ImmutableCollections) (L0 := #[lR r0, lU]) (fun _ => by first | (simp [entryFrame, mkF, argsToLocals, Value.category]; done) | rfl) ?_
  intro p e s m below meth c s₁ hx hby hml hret hnn hZ hown X0 e0
  have N0 := Fr.nil n0; have w := @ww Z a0 hw
  obtain ⟨T2, X2, e2, st2⟩ := instNo X0 hx hZ hown (w 122 rfl) e0 f1 (own_NSno (w 123 rfl) (w 171 rfl) (NS.step (w 123 rfl) (NS.step (w 124 rfl) (NS.step (w 125 rfl) (own_NSroot (w 126 rfl) (w 171 rfl) (by decide)) (by decide)) (by decide)) (by decide)) (by decide)) (g := (mkF m 1 #[lR r0, lU] [(.ref r0)])) rfl rfl (hb hby d18_1)
  obtain ⟨T3, X3, e3, st3⟩ := instNo X2 hx hZ hown (w 127 rfl) e2 f1 (own_NSno (w 123 rfl) (w 294 rfl) (NS.step (w 123 rfl) (NS.step (w 124 rfl) (NS.step (w 125 rfl) (own_NSroot (w 126 rfl) (w 294 rfl) (by decide)) (by decide)) (by decide)) (by decide)) (by decide)) (g := (mkF m 8 #[lR r0, lU] [(.ref r0)])) rfl rfl (hb hby d18_8)
  obtain ⟨_, T5, Lc5, X5, hQ5, st5⟩ := own_cI (xi := mN25) X3 hx hZ hown e3 (rm19_3 l Z a0 hw [] r0 h0 n0 O0 f4) f1 (w 128 rfl) (w 129 rfl) (w 130 rfl) (w 131 rfl) (w 132 rfl) (w 133 rfl) (w 134 rfl) (w 135 rfl) (w 136 rfl) (w 46 rfl) (by decide) (W := 0) (by decide) (by decide) (by decide) (by decide) (g := (mkF m 32 #[lR r0, lU] [(.ref r0)])) rfl (by rw [hml]; rfl) (argsL := []) (rest := []) (lenOf pd___Z rfl) rfl (own_W rfl) (hb hby d18_32)
  obtain ⟨rfl, N5q, E5⟩ := hQ5
  have N5 := Fr.app N0 N5q
  obtain ⟨_, T13, Lc13, X13, hQ13, st13⟩ := own_cI (xi := mN26) X5 hx hZ hown E5 (rm20_3 l Z a0 hw [] r0 r1 r2 c3 r4 r5 r6 h0 n0 O0 f6 f4 f7 f8 f9 f10 f11 f12) f1 (w 137 rfl) (w 138 rfl) (w 139 rfl) (w 140 rfl) (w 141 rfl) (w 142 rfl) (w 143 rfl) (w 135 rfl) (w 144 rfl) (w 46 rfl) (by decide) (W := 0) (by decide) (by decide) (by decide) (by decide) (g := (mkF m 45 #[lR r0, lU] [(.ref r0)])) rfl (by rw [hml]; rfl) (argsL := []) (rest := []) (lenOf pd____Ljava_lang_Object_ rfl) rfl (own_W rfl) (hb hby d18_45)
  obtain ⟨b13_0, k13_0, rfl, N13q, K13, f14, f15, f16, f17⟩ := hQ13
  have N13 := Fr.app N5 N13q
  have f18 := (f12.keep K13)
  have f19 := (f11.keep K13)
  have f20 := (f10.keep K13)
  have o21 := Old.keep O0 K13 all0
  obtain ⟨_, T22, Lc22, X22, hQ22, st22⟩ := own_cS X13 hx hZ hown rfl (rm24_3 l Z a0 hw [] b13_0 k13_0 r4 r5 r6 T13.heap n0 o21 f15 f18 f15.lt f19 f20) (w 167 rfl) (w 168 rfl) (w 116 rfl) (w 169 rfl) (by decide) (W := 0) (by decide) (by decide) (by decide) (by decide) (g := (mkF m 50 #[lR r0, lU] [(.ref b13_0)])) rfl (by rw [hml]; rfl) (argsL := [(.ref b13_0)]) (rest := []) (lenOf pd___Ljava_lang_Object__Ljava_util_List_ rfl) rfl (own_W rfl) (hb hby d18_50)
  obtain ⟨b22_0, b22_1, k22_0, rfl, N22q, K22, f23, f24, f25, f26, f27, f28, f29, f30, f31⟩ := hQ22
  have N22 := Fr.app N13 N22q
  have zs32 := K13.1
  have kp33 : Keep h0 T13.heap [] := (Keep.refl h0 []).trans K13 all0
  have kp34 : Keep h0 T22.heap [] := kp33.trans K22 all0
  refine ⟨some (.ref b22_0), _, _, _, _, nofun, X22, by decide, by decide, ?_, fun fs hr => ?_⟩
  · exact ⟨b22_0, b22_1, k22_0, rfl, N22, kp34, (Nat.le_trans zs32 f23), f24, f25, f26, (Nat.le_trans zs32 f27), f28, f29, f30, f31⟩
  · show SG p e below s₁ (mkF m 0 #[lR r0, lU] []) _
    refine qaN X0 hx hby d18_0 ?_
    refine st2 _ ?_
    refine XS.ifNo X2.here hx rfl (hb hby d18_4) rfl ((if0 _ _).trans (teq (rfl : (0 : Int32) = (0 : Int32))).2) ?_
    refine qaN X2 hx hby d18_7 ?_
    refine st3 _ ?_
    refine XS.ifYes X3.here hx rfl (pc0 := 11) (pc' := 31) rfl (hb hby d18_11) rfl ((if0 _ _).trans (teq (rfl : (0 : Int32) = (0 : Int32))).1) (by decide) (by decide) ?_
    refine qaN X3 hx hby d18_31 ?_
    refine st5 _ ?_
    refine XS.ifYes X5.here hx rfl (pc0 := 37) (pc' := 44) rfl (hb hby d18_37) rfl ((if0 _ _).trans (teq (rfl : (0 : Int32) = (0 : Int32))).1) (by decide) (by decide) ?_
    refine qaN X5 hx hby d18_44 ?_
    show SG p e below T5 (mkF m 45 #[lR r0, lU] [(.ref r0)]) _
    refine st13 _ ?_
    refine st22 _ ?_
    exact retOut X22 hx (i := .areturn) hret rfl (Or.inr (Or.inr (Or.inr (Or.inr ⟨rfl, rfl, rfl⟩)))) (hb hby d18_53) hr
def Q17_3 (Z : State) (r4 r5 r6 : Addr) (h0 : Heap) (n0 : Nat) (v : Option Value) (h : Heap) (L : List Loc) : Prop := ∃ (b10_0 b10_1 : Addr) (k10_0 : ClassId), v = some (.ref b10_0) ∧ Fr n0 L ∧ Keep h0 h [] ∧ h0.size ≤ b10_0 ∧ Exa Z h b10_0 cs14 ∧ Fld Z h b10_0 cs14 "elements" "[Ljava/lang/Object;" (.ref b10_1) ∧ Fld Z h b10_0 cs14 "allowNulls" "Z" vI0 ∧ h0.size ≤ b10_1 ∧ Arv Z h b10_1 k10_0 (.object "java/lang/Object") (3 : Int32) [(.ref r4), (.ref r5), (.ref r6)] .null ∧ Exa Z h b10_1 "[Ljava/lang/Object;" ∧ Ovr Z k10_0 "java/lang/Object" ∧ b10_0 ≠ b10_1
theorem rm17_3 (l : Launch) (Z : State) (a0 : Array Value) (hw : own_HW a0 Z) (ws : List Jvm.Cond) (r0 r1 r2 : Addr) (c3 : ClassId) (r4 r5 r6 : Addr) (h0 : Heap) (n0 : Nat) (O0 : Old Z n0 h0) (f1 : Exa Z h0 r0 "java/util/ArrayList") (f2 : Fld Z h0 r0 "java/util/ArrayList" "size" "I" vI3) (f3 : Fld Z h0 r0 "java/util/ArrayList" "elementData" "[Ljava/lang/Object;" (.ref r1)) (f4 : Exa Z h0 r1 "[Ljava/lang/Object;") (f5 : own_Mir Z "[Ljava/lang/Object;" r2) (f6 : Arv Z h0 r1 c3 (.object "java/lang/Object") (10 : Int32) [(.ref r4), (.ref r5), (.ref r6), .null, .null, .null, .null, .null, .null, .null] .null) (f7 : Exa Z h0 r6 cs0) (f8 : Exa Z h0 r5 cs0) (f9 : Exa Z h0 r4 cs0) :
    own_MF l mN27 jdk_40_method_48_code 1 (some (.object "java/util/List")) ws rR8_3_8_103 Z h0 #[(.ref r0)] (Q17_3 Z r4 r5 r6 h0 n0) := by
  refine own_open (plainFor_of_name pn_java_util_List) (L0 := #[lR r0]) (fun _ => by first | (simp [entryFrame, mkF, argsToLocals, Value.category]; done) | rfl) ?_
  intro p e s m below meth c s₁ hx hby hml hret hnn hZ hown X0 e0
  have N0 := Fr.nil n0
  obtain ⟨_, T10, Lc10, X10, hQ10, st10⟩ := own_cS X0 hx hZ hown e0 (rm18_3 l Z a0 hw [] r0 r1 r2 c3 r4 r5 r6 h0 n0 O0 f1 f2 f3 f4 f5 f6 f7 f8 f9) (ww hw 118 rfl) (ww hw 119 rfl) (ww hw 120 rfl) (ww hw 121 rfl) (by decide) (W := 0) (by decide) (by decide) (by decide) (by decide) (g := (mkF m 1 #[lR r0] [(.ref r0)])) rfl (by rw [hml]; rfl) (argsL := [(.ref r0)]) (rest := []) (lenOf pd__Ljava_util_Collection__Ljava_util_List_ rfl) rfl (own_W rfl) (hb hby d17_1)
  obtain ⟨b10_0, b10_1, k10_0, rfl, N10q, K10, f11, f12, f13, f14, f15, f16, f17, f18, f19⟩ := hQ10
  have N10 := Fr.app N0 N10q
  have kp20 : Keep h0 T10.heap [] := (Keep.refl h0 []).trans K10 all0
  refine ⟨some (.ref b10_0), _, _, _, _, nofun, X10, by decide, by decide, ?_, fun fs hr => ?_⟩
  · exact ⟨b10_0, b10_1, k10_0, rfl, N10, kp20, f11, f12, f13, f14, f15, f16, f17, f18, f19⟩
  · show SG p e below s₁ (mkF m 0 #[lR r0] []) _
    refine qaN X0 hx hby d17_0 ?_
    refine st10 _ ?_
    exact retOut X10 hx (i := .areturn) hret rfl (Or.inr (Or.inr (Or.inr (Or.inr ⟨rfl, rfl, rfl⟩)))) (hb hby d17_4) hr
theorem d46_0 : DK cB46 0 (.aload_n 0) 1 := by decide +kernel
theorem d46_1 : DK cB46 1 (.getfield 7) 3 := by decide +kernel
theorem d46_4 : DK cB46 4 (.arraylength) 1 := by decide +kernel
theorem d46_5 : DK cB46 5 (.ireturn) 1 := by decide +kernel
def Q46_1 (Z : State)  (h0 : Heap) (n0 : Nat) (v : Option Value) (h : Heap) (L : List Loc) : Prop := v = some vI3 ∧ Fr n0 L ∧ h = h0
theorem rm46_1 (l : Launch) (Z : State) (a0 : Array Value) (hw : own_HW a0 Z) (ws : List Jvm.Cond) (r0 r1 : Addr) (c2 : ClassId) (r3 r4 r5 : Addr) (h0 : Heap) (n0 : Nat) (O0 : Old Z n0 h0) (f1 : Fld Z h0 r0 cs14 "elements" "[Ljava/lang/Object;" (.ref r1)) (f3 : Arv Z h0 r1 c2 (.object "java/lang/Object") (3 : Int32) [(.ref r3), (.ref r4), (.ref r5)] .null) :
    own_MF l mN57 jdk_45_method_3_code 1 (some .int) ws rR0_0_0_0 Z h0 #[(.ref r0)] (Q46_1 Z  h0 n0) := by
  refine own_open (plainFor_of_name pn_java_util_ImmutableCollections_ListN) (L0 := #[lR r0]) (fun _ => by first | (simp [entryFrame, mkF, argsToLocals, Value.category]; done) | rfl) ?_
  intro p e s m below meth c s₁ hx hby hml hret hnn hZ hown X0 e0
  have N0 := Fr.nil n0
  obtain ⟨T2, X2, e2, st2⟩ := getF X0 hx hZ hown (host := "") (Or.inl (ww hw 304 rfl)) Via.refl e0 f1 (g := (mkF m 1 #[lR r0] [(.ref r0)])) rfl rfl (hb hby d46_1)
  obtain ⟨clq4, Arq4, qq4, Sq4, Nq4, Hq4, Gq4⟩ := id f3
  refine ⟨some vI3, _, _, _, _, nofun, X2, by decide, by decide, ?_, fun fs hr => ?_⟩
  · rw [e2]; exact ⟨rfl, N0, rfl⟩
  · show SG p e below s₁ (mkF m 0 #[lR r0] []) _
    refine qaN X0 hx hby d46_0 ?_
    refine st2 _ ?_
    refine X2.arraylength hx (by rw [e2]; exact Arq4.1) (State.isArrayOf_alike hZ.alike Arq4.2.1) (g := (mkF m 4 #[lR r0] [(.ref r1)])) rfl rfl (hb hby d46_4) _ ?_
    rw [len_of Sq4 Nq4]
    exact retOut X2 hx (i := .ireturn) hret rfl (Or.inl ⟨rfl, Or.inl rfl, _, rfl⟩) (hb hby d46_5) hr
theorem d47_0 : DK cB47 0 (.aload_n 0) 1 := by decide +kernel
theorem d47_1 : DK cB47 1 (.getfield 7) 3 := by decide +kernel
theorem d47_4 : DK cB47 4 (.iload_n 1) 1 := by decide +kernel
theorem d47_5 : DK cB47 5 (.aaload) 1 := by decide +kernel
theorem d47_6 : DK cB47 6 (.areturn) 1 := by decide +kernel
def Q47_1 (Z : State) (r3 : Addr) (h0 : Heap) (n0 : Nat) (v : Option Value) (h : Heap) (L : List Loc) : Prop := v = some (.ref r3) ∧ Fr n0 L ∧ h = h0
theorem rm47_1 (l : Launch) (Z : State) (a0 : Array Value) (hw : own_HW a0 Z) (ws : List Jvm.Cond) (r0 r1 : Addr) (c2 : ClassId) (r3 r4 r5 : Addr) (h0 : Heap) (n0 : Nat) (O0 : Old Z n0 h0) (f1 : Fld Z h0 r0 cs14 "elements" "[Ljava/lang/Object;" (.ref r1)) (f3 : Arv Z h0 r1 c2 (.object "java/lang/Object") (3 : Int32) [(.ref r3), (.ref r4), (.ref r5)] .null) :
    own_MF l mN58 jdk_45_method_4_code 2 (some (.object "java/lang/Object")) ws rR0_0_0_0 Z h0 #[(.ref r0), vI0] (Q47_1 Z r3 h0 n0) := by
  refine own_open (plainFor_of_name pn_java_util_ImmutableCollections_ListN) (L0 := #[lR r0, lV vI0]) (fun _ => by first | (simp [entryFrame, mkF, argsToLocals, Value.category]; done) | rfl) ?_
  intro p e s m below meth c s₁ hx hby hml hret hnn hZ hown X0 e0
  have N0 := Fr.nil n0
  obtain ⟨T2, X2, e2, st2⟩ := getF X0 hx hZ hown (host := "") (Or.inl (ww hw 304 rfl)) Via.refl e0 f1 (g := (mkF m 1 #[lR r0, lV vI0] [(.ref r0)])) rfl rfl (hb hby d47_1)
  obtain ⟨clq4, Arq4, qq4, Sq4, Nq4, Hq4, Gq4⟩ := id f3
  refine ⟨some (.ref r3), _, _, _, _, nofun, X2, by decide, by decide, ?_, fun fs hr => ?_⟩
  · rw [e2]; exact ⟨rfl, N0, rfl⟩
  · show SG p e below s₁ (mkF m 0 #[lR r0, lV vI0] []) _
    refine qaN X0 hx hby d47_0 ?_
    refine st2 _ ?_
    refine qiN X2 hx hby d47_4 ?_
    refine X2.aaload hx (j := (0 : Int32)) (v := (.ref r3)) (by rw [e2]; exact Arq4.1) (State.isArrayOf_alike hZ.alike Arq4.2.1) rfl Arq4.2.2 (inb_of Sq4 ⟨(by decide : ¬ ((0 : Int32) < (0 : Int32))), (by decide : (0 : Int32) < (3 : Int32))⟩) (Has.at Hq4 (inb_of Sq4 ⟨(by decide : ¬ ((0 : Int32) < (0 : Int32))), (by decide : (0 : Int32) < (3 : Int32))⟩) rfl) (g := (mkF m 5 #[lR r0, lV vI0] [vI0, (.ref r1)])) rfl rfl (hb hby d47_5) _ ?_
    exact retOut X2 hx (i := .areturn) hret rfl (Or.inr (Or.inr (Or.inr (Or.inr ⟨rfl, rfl, rfl⟩)))) (hb hby d47_6) hr
def Q47_2 (Z : State) (r4 : Addr) (h0 : Heap) (n0 : Nat) (v : Option Value) (h : Heap) (L : List Loc) : Prop := v = some (.ref r4) ∧ Fr n0 L ∧ h = h0
theorem rm47_2 (l : Launch) (Z : State) (a0 : Array Value) (hw : own_HW a0 Z) (ws : List Jvm.Cond) (r0 r1 : Addr) (c2 : ClassId) (r3 r4 r5 : Addr) (h0 : Heap) (n0 : Nat) (O0 : Old Z n0 h0) (f1 : Fld Z h0 r0 cs14 "elements" "[Ljava/lang/Object;" (.ref r1)) (f3 : Arv Z h0 r1 c2 (.object "java/lang/Object") (3 : Int32) [(.ref r3), (.ref r4), (.ref r5)] .null) :
    own_MF l mN58 jdk_45_method_4_code 2 (some (.object "java/lang/Object")) ws rR0_0_0_0 Z h0 #[(.ref r0), vI1] (Q47_2 Z r4 h0 n0) := by
  refine own_open (plainFor_of_name pn_java_util_ImmutableCollections_ListN) (L0 := #[lR r0, lV vI1]) (fun _ => by first | (simp [entryFrame, mkF, argsToLocals, Value.category]; done) | rfl) ?_
  intro p e s m below meth c s₁ hx hby hml hret hnn hZ hown X0 e0
  have N0 := Fr.nil n0
  obtain ⟨T2, X2, e2, st2⟩ := getF X0 hx hZ hown (host := "") (Or.inl (ww hw 304 rfl)) Via.refl e0 f1 (g := (mkF m 1 #[lR r0, lV vI1] [(.ref r0)])) rfl rfl (hb hby d47_1)
  obtain ⟨clq4, Arq4, qq4, Sq4, Nq4, Hq4, Gq4⟩ := id f3
  refine ⟨some (.ref r4), _, _, _, _, nofun, X2, by decide, by decide, ?_, fun fs hr => ?_⟩
  · rw [e2]; exact ⟨rfl, N0, rfl⟩
  · show SG p e below s₁ (mkF m 0 #[lR r0, lV vI1] []) _
    refine qaN X0 hx hby d47_0 ?_
    refine st2 _ ?_
    refine qiN X2 hx hby d47_4 ?_
    refine X2.aaload hx (j := (1 : Int32)) (v := (.ref r4)) (by rw [e2]; exact Arq4.1) (State.isArrayOf_alike hZ.alike Arq4.2.1) rfl Arq4.2.2 (inb_of Sq4 ⟨(by decide : ¬ ((1 : Int32) < (0 : Int32))), (by decide : (1 : Int32) < (3 : Int32))⟩) (Has.at Hq4 (inb_of Sq4 ⟨(by decide : ¬ ((1 : Int32) < (0 : Int32))), (by decide : (1 : Int32) < (3 : Int32))⟩) rfl) (g := (mkF m 5 #[lR r0, lV vI1] [vI1, (.ref r1)])) rfl rfl (hb hby d47_5) _ ?_
    exact retOut X2 hx (i := .areturn) hret rfl (Or.inr (Or.inr (Or.inr (Or.inr ⟨rfl, rfl, rfl⟩)))) (hb hby d47_6) hr
def Q47_3 (Z : State) (r5 : Addr) (h0 : Heap) (n0 : Nat) (v : Option Value) (h : Heap) (L : List Loc) : Prop := v = some (.ref r5) ∧ Fr n0 L ∧ h = h0
theorem rm47_3 (l : Launch) (Z : State) (a0 : Array Value) (hw : own_HW a0 Z) (ws : List Jvm.Cond) (r0 r1 : Addr) (c2 : ClassId) (r3 r4 r5 : Addr) (h0 : Heap) (n0 : Nat) (O0 : Old Z n0 h0) (f1 : Fld Z h0 r0 cs14 "elements" "[Ljava/lang/Object;" (.ref r1)) (f3 : Arv Z h0 r1 c2 (.object "java/lang/Object") (3 : Int32) [(.ref r3), (.ref r4), (.ref r5)] .null) :
    own_MF l mN58 jdk_45_method_4_code 2 (some (.object "java/lang/Object")) ws rR0_0_0_0 Z h0 #[(.ref r0), vI2] (Q47_3 Z r5 h0 n0) := by
  refine own_open (plainFor_of_name pn_java_util_ImmutableCollections_ListN) (L0 := #[lR r0, lV vI2]) (fun _ => by first | (simp [entryFrame, mkF, argsToLocals, Value.category]; done) | rfl) ?_
  intro p e s m below meth c s₁ hx hby hml hret hnn hZ hown X0 e0
  have N0 := Fr.nil n0
  obtain ⟨T2, X2, e2, st2⟩ := getF X0 hx hZ hown (host := "") (Or.inl (ww hw 304 rfl)) Via.refl e0 f1 (g := (mkF m 1 #[lR r0, lV vI2] [(.ref r0)])) rfl rfl (hb hby d47_1)
  obtain ⟨clq4, Arq4, qq4, Sq4, Nq4, Hq4, Gq4⟩ := id f3
  refine ⟨some (.ref r5), _, _, _, _, nofun, X2, by decide, by decide, ?_, fun fs hr => ?_⟩
  · rw [e2]; exact ⟨rfl, N0, rfl⟩
  · show SG p e below s₁ (mkF m 0 #[lR r0, lV vI2] []) _
    refine qaN X0 hx hby d47_0 ?_
    refine st2 _ ?_
    refine qiN X2 hx hby d47_4 ?_
    refine X2.aaload hx (j := (2 : Int32)) (v := (.ref r5)) (by rw [e2]; exact Arq4.1) (State.isArrayOf_alike hZ.alike Arq4.2.1) rfl Arq4.2.2 (inb_of Sq4 ⟨(by decide : ¬ ((2 : Int32) < (0 : Int32))), (by decide : (2 : Int32) < (3 : Int32))⟩) (Has.at Hq4 (inb_of Sq4 ⟨(by decide : ¬ ((2 : Int32) < (0 : Int32))), (by decide : (2 : Int32) < (3 : Int32))⟩) rfl) (g := (mkF m 5 #[lR r0, lV vI2] [vI2, (.ref r1)])) rfl rfl (hb hby d47_5) _ ?_
    exact retOut X2 hx (i := .areturn) hret rfl (Or.inr (Or.inr (Or.inr (Or.inr ⟨rfl, rfl, rfl⟩)))) (hb hby d47_6) hr
def Q29_6 (Z : State)  (h0 : Heap) (n0 : Nat) (v : Option Value) (h : Heap) (L : List Loc) : Prop := ∃ (b5 : Addr) (k5 : ClassId), v = some (.ref b5) ∧ Fr n0 L ∧ Keep h0 h [] ∧ h0.size ≤ b5 ∧ Arv Z h b5 k5 .int (3 : Int32) [vI3, vI3, vI3] vI0 ∧ Exa Z h b5 "[I"
theorem rm29_6 (l : Launch) (Z : State) (a0 : Array Value) (hw : own_HW a0 Z) (ws : List Jvm.Cond) (r0 r1 : Addr) (c2 : ClassId) (r3 r4 : Addr) (r5 r6 : Addr) (r7 r8 : Addr) (c9 : ClassId) (x10 x11 : Int32) (r12 : Addr) (c13 : ClassId) (x14 : Int32) (r15 r16 : Addr) (c17 : ClassId) (x18 : Int32) (h0 : Heap) (n0 : Nat) (O0 : Old Z n0 h0) (f1 : Exa Z h0 r0 cs14) (f2 : Fld Z h0 r0 cs14 "elements" "[Ljava/lang/Object;" (.ref r1)) (f3 : Arv Z h0 r1 c2 (.object "java/lang/Object") (3 : Int32) [(.ref r3), (.ref r4), (.ref r5)] .null) (f18 : Exa Z h0 r3 cs0) (f21 : Fld Z h0 r3 cs0 "path" "Ljava/lang/String;" (.ref r6)) (l28 : r0 < h0.size) (l32 : r1 < h0.size) (f39 : Exa Z h0 r4 cs0) (f42 : Fld Z h0 r4 cs0 "path" "Ljava/lang/String;" (.ref r7)) (l43 : r4 < h0.size) (l51 : r3 < h0.size) (f54 : Exa Z h0 r7 "java/lang/String") (f56 : Fld Z h0 r7 "java/lang/String" "value" "[B" (.ref r8)) (l57 : r7 < h0.size) (f60 : Arv Z h0 r8 c9 .byte (1 : Int32) [(.int x10)] vI0) (l61 : r8 < h0.size) (f64 : Sta Z Z.heap "java/lang/String" "COMPACT_STRINGS" "Z" (.int x11)) (hc65 : ¬ (x11 = (0 : Int32))) (f66 : Fld Z h0 r7 "java/lang/String" "coder" "B" vI0) (f68 : Exa Z h0 r6 "java/lang/String") (f70 : Fld Z h0 r6 "java/lang/String" "value" "[B" (.ref r12)) (l71 : r6 < h0.size) (f74 : Arv Z h0 r12 c13 .byte (1 : Int32) [(.int x14)] vI0) (l75 : r12 < h0.size) (f78 : Fld Z h0 r6 "java/lang/String" "coder" "B" vI0) (hc80 : x10 = x14) (f90 : Exa Z h0 r5 cs0) (f93 : Fld Z h0 r5 cs0 "path" "Ljava/lang/String;" (.ref r15)) (l94 : r5 < h0.size) (f103 : Exa Z h0 r15 "java/lang/String") (f105 : Fld Z h0 r15 "java/lang/String" "value" "[B" (.ref r16)) (l106 : r15 < h0.size) (f109 : Arv Z h0 r16 c17 .byte (1 : Int32) [(.int x18)] vI0) (l110 : r16 < h0.size) (f113 : Fld Z h0 r15 "java/lang/String" "coder" "B" vI0) (hc119 : x18 = x10) :
    own_MF l mN31 prog_2_method_12_code 6 (some (.array .int)) ws rR5_2_6_72 Z h0 #[(.ref r0)] (Q29_6 Z  h0 n0) := by
  refine own_open (plainFor_of_name pn_com_example_nearmiss_nearmiss_Document) (L0 := #[lR r0, lU, lU, lU, lU, lU]) (fun _ => by first | (simp [entryFrame, mkF, argsToLocals, Value.category]; done) | rfl) ?_
  intro p e s m below meth c s₁ hx hby hml hret hnn hZ hown X0 e0
  have N0 := Fr.nil n0; have w := @ww Z a0 hw
  obtain ⟨_, T4, Lc4, X4, hQ4, st4⟩ := own_cI (xi := mN32) X0 hx hZ hown e0 (rm46_1 l Z a0 hw [] r0 r1 c2 r3 r4 r5 h0 n0 O0 f2 f3) f1 (w 205 rfl) (w 206 rfl) (w 207 rfl) (w 308 rfl) (w 309 rfl) (w 310 rfl) (w 311 rfl) (w 312 rfl) (w 313 rfl) (w 295 rfl) (by decide) (W := 0) (by decide) (by decide) (by decide) (by decide) (g := (mkF m 1 #[lR r0, lU, lU, lU, lU, lU] [(.ref r0)])) rfl (by rw [hml]; rfl) (argsL := []) (rest := []) (lenOf pd___I rfl) rfl (own_W rfl) (hb hby d29_1)
  obtain ⟨rfl, N4q, E4⟩ := hQ4
  have N4 := Fr.app N0 N4q
  obtain ⟨T5, h5, k5, X5, e5, E5, A5, B5, st5⟩ := newPE X4 hx hZ (w 214 rfl) E4 (g := (mkF m 6 #[lR r0, lU, lU, lU, lU, lU] [vI3])) rfl (hb hby d29_6) rfl (by decide) (cap := 3) (by decide) (by decide) (by decide) (by decide) (ad := "[I") rfl
  obtain ⟨b5, g5⟩ : ∃ z, z = h0.size := ⟨_, rfl⟩
  rw [← g5] at A5 B5 st5
  have V5 : Arv Z h5 b5 k5 .int (3 : Int32) [vI0, vI0, vI0] vI0 := (Arv.new A5 (by decide)).pad (pad_rep [] vI0 3)
  have f6 := (f2.ext E5)
  have f7 := (f3.ext E5)
  have o8 := Old.ext O0 E5
  have f10 := (f1.ext E5)
  obtain ⟨_, T9, Lc9, X9, hQ9, st9⟩ := own_cI (xi := mN32) X5 hx hZ hown e5 (rm46_1 l Z a0 hw [] r0 r1 c2 r3 r4 r5 h5 n0 o8 f6 f7) f10 (w 205 rfl) (w 206 rfl) (w 207 rfl) (w 308 rfl) (w 309 rfl) (w 310 rfl) (w 311 rfl) (w 312 rfl) (w 313 rfl) (w 295 rfl) (by decide) (W := 0) (by decide) (by decide) (by decide) (by decide) (g := (mkF m 10 #[lR r0, lR b5, lU, lU, lU, lU] [(.ref r0)])) rfl (by rw [hml]; rfl) (argsL := []) (rest := []) (lenOf pd___I rfl) rfl (own_W rfl) (hb hby d29_10)
  obtain ⟨rfl, N9q, E9⟩ := hQ9
  have N9 := Fr.app N4 N9q
  obtain ⟨T11, h11, k11, X11, e11, E11, A11, B11, st11⟩ := newPE X9 hx hZ (w 214 rfl) E9 (g := (mkF m 15 #[lR r0, lR b5, lU, lU, lU, lU] [vI3])) rfl (hb hby d29_15) rfl (by decide) (cap := 3) (by decide) (by decide) (by decide) (by decide) (ad := "[I") rfl
  obtain ⟨b11, g11⟩ : ∃ z, z = h5.size := ⟨_, rfl⟩
  rw [← g11] at A11 B11 st11
  have V11 : Arv Z h11 b11 k11 .int (3 : Int32) [vI0, vI0, vI0] vI0 := (Arv.new A11 (by decide)).pad (pad_rep [] vI0 3)
  have f12 := (f6.ext E11)
  have f13 := (f7.ext E11)
  have o14 := Old.ext o8 E11
  have f16 := (f10.ext E11)
  obtain ⟨_, T15, Lc15, X15, hQ15, st15⟩ := own_cI (xi := mN32) X11 hx hZ hown e11 (rm46_1 l Z a0 hw [] r0 r1 c2 r3 r4 r5 h11 n0 o14 f12 f13) f16 (w 205 rfl) (w 206 rfl) (w 207 rfl) (w 308 rfl) (w 309 rfl) (w 310 rfl) (w 311 rfl) (w 312 rfl) (w 313 rfl) (w 295 rfl) (by decide) (W := 1) (by decide) (by decide) (by decide) (by decide) (g := (mkF m 26 #[lR r0, lR b5, lR b11, lV vI0, lV vI0, lU] [(.ref r0), vI0])) rfl (by rw [hml]; rfl) (argsL := []) (rest := [vI0]) (lenOf pd___I rfl) rfl (own_W rfl) (hb hby d29_26)
  obtain ⟨rfl, N15q, E15⟩ := hQ15
  have N15 := Fr.app N9 N15q
  obtain ⟨_, T17, Lc17, X17, hQ17, st17⟩ := own_cI (xi := mN33) X15 hx hZ hown E15 (rm47_1 l Z a0 hw [] r0 r1 c2 r3 r4 r5 h11 n0 o14 f12 f13) f16 (w 215 rfl) (w 216 rfl) (w 217 rfl) (w 314 rfl) (w 315 rfl) (w 316 rfl) (w 317 rfl) (w 312 rfl) (w 318 rfl) (w 295 rfl) (by decide) (W := 0) (by decide) (by decide) (by decide) (by decide) (g := (mkF m 37 #[lR r0, lR b5, lR b11, lV vI0, lV vI0, lU] [vI0, (.ref r0)])) rfl (by rw [hml]; rfl) (argsL := [vI0]) (rest := []) (lenOf pd__I_Ljava_lang_Object_ rfl) rfl (own_W rfl) (hb hby d29_37)
  obtain ⟨rfl, N17q, E17⟩ := hQ17
  have N17 := Fr.app N15 N17q
  have f19 := ((f18.ext E5).ext E11)
  obtain ⟨T20, X20, e20, st20⟩ := castY X17 hx hZ hown (w 223 rfl) E17 (Ins.self f19) (g := (mkF m 42 #[lR r0, lR b5, lR b11, lV vI0, lV vI0, lU] [(.ref r3)])) rfl rfl (hb hby d29_42)
  have f22 := ((f21.ext E5).ext E11)
  obtain ⟨_, T23, Lc23, X23, hQ23, st23⟩ := own_cV X20 hx hZ hown e20 (rm32_1 l Z a0 hw [] r3 r6 h11 n0 o14 f22) f19 (w 225 rfl) (w 226 rfl) (w 228 rfl) (w 227 rfl) (w 229 rfl) (w 28 rfl) (by decide) (W := 0) (by decide) (by decide) (by decide) (by decide) (g := (mkF m 45 #[lR r0, lR b5, lR b11, lV vI0, lV vI0, lU] [(.ref r3)])) rfl (by rw [hml]; rfl) (argsL := []) (rest := []) (lenOf pd___Ljava_lang_String_ rfl) rfl (own_W rfl) (hb hby d29_45)
  obtain ⟨rfl, N23q, E23⟩ := hQ23
  have N23 := Fr.app N17 N23q
  obtain ⟨clq24, Arq24, qq24, Sq24, Nq24, Hq24, Gq24⟩ := id V11
  have zz25 : n0 ≤ h5.size := by rw [← o8.1]; exact o8.2.1
  have g26 := Nat.le_trans zz25 (Nat.le_of_eq g11.symm)
  obtain ⟨T27, h27, X27, e27, W27, st27⟩ := stI X23 hx hZ E23 Arq24 (j := (0 : Int32)) (inb_of Sq24 ⟨(by decide : ¬ ((0 : Int32) < (0 : Int32))), (by decide : (0 : Int32) < (3 : Int32))⟩) (g := (mkF m 93 #[lR r0, lR b5, lR b11, lV vI0, lV vI0, lR r6] [vI0, vI0, (.ref b11)])) rfl rfl (hb hby d29_93)
  have V27 : Arv Z h27 b11 k11 .int (3 : Int32) [vI0, vI0, vI0] vI0 := Arv.set Arq24 qq24 Sq24 Nq24 Hq24 Gq24 rfl W27 0 rfl (Nat.le_of_ble_eq_true rfl)
  have N27 := Fr.snoc X27 N23 g26
  have zs29 := E5.1
  have n30 := Nat.ne_of_lt (Nat.lt_of_lt_of_le (Nat.lt_of_lt_of_le l28 zs29) (Nat.le_of_eq g11.symm))
  have f31 := (f12.other W27 (Or.inl n30))
  have n33 := Nat.ne_of_lt (Nat.lt_of_lt_of_le (Nat.lt_of_lt_of_le l32 zs29) (Nat.le_of_eq g11.symm))
  have f34 := (f13.other W27 n33)
  have o35 := Old.wr o14 W27 g26
  have f37 := (f16.wr W27)
  obtain ⟨_, T36, Lc36, X36, hQ36, st36⟩ := own_cI (xi := mN32) X27 hx hZ hown e27 (rm46_1 l Z a0 hw [] r0 r1 c2 r3 r4 r5 h27 n0 o35 f31 f34) f37 (w 205 rfl) (w 206 rfl) (w 207 rfl) (w 308 rfl) (w 309 rfl) (w 310 rfl) (w 311 rfl) (w 312 rfl) (w 313 rfl) (w 295 rfl) (by decide) (W := 1) (by decide) (by decide) (by decide) (by decide) (g := (mkF m 26 #[lR r0, lR b5, lR b11, lV vI1, lV vI1, lR r6] [(.ref r0), vI1])) rfl (by rw [hml]; rfl) (argsL := []) (rest := [vI1]) (lenOf pd___I rfl) rfl (own_W rfl) (hb hby d29_26)
  obtain ⟨rfl, N36q, E36⟩ := hQ36
  have N36 := Fr.app N27 N36q
  obtain ⟨_, T38, Lc38, X38, hQ38, st38⟩ := own_cI (xi := mN33) X36 hx hZ hown E36 (rm47_2 l Z a0 hw [] r0 r1 c2 r3 r4 r5 h27 n0 o35 f31 f34) f37 (w 215 rfl) (w 216 rfl) (w 217 rfl) (w 314 rfl) (w 315 rfl) (w 316 rfl) (w 317 rfl) (w 312 rfl) (w 318 rfl) (w 295 rfl) (by decide) (W := 0) (by decide) (by decide) (by decide) (by decide) (g := (mkF m 37 #[lR r0, lR b5, lR b11, lV vI1, lV vI1, lR r6] [vI1, (.ref r0)])) rfl (by rw [hml]; rfl) (argsL := [vI1]) (rest := []) (lenOf pd__I_Ljava_lang_Object_ rfl) rfl (own_W rfl) (hb hby d29_37)
  obtain ⟨rfl, N38q, E38⟩ := hQ38
  have N38 := Fr.app N36 N38q
  have f40 := (((f39.ext E5).ext E11).wr W27)
  obtain ⟨T41, X41, e41, st41⟩ := castY X38 hx hZ hown (w 223 rfl) E38 (Ins.self f40) (g := (mkF m 42 #[lR r0, lR b5, lR b11, lV vI1, lV vI1, lR r6] [(.ref r4)])) rfl rfl (hb hby d29_42)
  have n44 := Nat.ne_of_lt (Nat.lt_of_lt_of_le (Nat.lt_of_lt_of_le l43 zs29) (Nat.le_of_eq g11.symm))
  have f45 := (((f42.ext E5).ext E11).other W27 (Or.inl n44))
  obtain ⟨_, T46, Lc46, X46, hQ46, st46⟩ := own_cV X41 hx hZ hown e41 (rm32_1 l Z a0 hw [] r4 r7 h27 n0 o35 f45) f40 (w 225 rfl) (w 226 rfl) (w 228 rfl) (w 227 rfl) (w 229 rfl) (w 28 rfl) (by decide) (W := 0) (by decide) (by decide) (by decide) (by decide) (g := (mkF m 45 #[lR r0, lR b5, lR b11, lV vI1, lV vI1, lR r6] [(.ref r4)])) rfl (by rw [hml]; rfl) (argsL := []) (rest := []) (lenOf pd___Ljava_lang_String_ rfl) rfl (own_W rfl) (hb hby d29_45)
  obtain ⟨rfl, N46q, E46⟩ := hQ46
  have N46 := Fr.app N38 N46q
  obtain ⟨clq47, Arq47, qq47, Sq47, Nq47, Hq47, Gq47⟩ := id V27
  obtain ⟨_, T48, Lc48, X48, hQ48, st48⟩ := own_cI (xi := mN33) X46 hx hZ hown E46 (rm47_1 l Z a0 hw [] r0 r1 c2 r3 r4 r5 h27 n0 o35 f31 f34) f37 (w 215 rfl) (w 216 rfl) (w 217 rfl) (w 314 rfl) (w 315 rfl) (w 316 rfl) (w 317 rfl) (w 312 rfl) (w 318 rfl) (w 295 rfl) (by decide) (W := 0) (by decide) (by decide) (by decide) (by decide) (g := (mkF m 60 #[lR r0, lR b5, lR b11, lV vI1, lV vI1, lR r7] [vI0, (.ref r0)])) rfl (by rw [hml]; rfl) (argsL := [vI0]) (rest := []) (lenOf pd__I_Ljava_lang_Object_ rfl) rfl (own_W rfl) (hb hby d29_60)
  obtain ⟨rfl, N48q, E48⟩ := hQ48
  have N48 := Fr.app N46 N48q
  have f49 := (f19.wr W27)
  obtain ⟨T50, X50, e50, st50⟩ := castY X48 hx hZ hown (w 223 rfl) E48 (Ins.self f49) (g := (mkF m 65 #[lR r0, lR b5, lR b11, lV vI1, lV vI1, lR r7] [(.ref r3)])) rfl rfl (hb hby d29_65)
  have n52 := Nat.ne_of_lt (Nat.lt_of_lt_of_le (Nat.lt_of_lt_of_le l51 zs29) (Nat.le_of_eq g11.symm))
  have f53 := (f22.other W27 (Or.inl n52))
  have f55 := (((f54.ext E5).ext E11).wr W27)
  have n58 := Nat.ne_of_lt (Nat.lt_of_lt_of_le (Nat.lt_of_lt_of_le l57 zs29) (Nat.le_of_eq g11.symm))
  have f59 := (((f56.ext E5).ext E11).other W27 (Or.inl n58))
  have n62 := Nat.ne_of_lt (Nat.lt_of_lt_of_le (Nat.lt_of_lt_of_le l61 zs29) (Nat.le_of_eq g11.symm))
  have f63 := (((f60.ext E5).ext E11).other W27 n62)
  have f67 := (((f66.ext E5).ext E11).other W27 (Or.inl n58))
  have f69 := (((f68.ext E5).ext E11).wr W27)
  have n72 := Nat.ne_of_lt (Nat.lt_of_lt_of_le (Nat.lt_of_lt_of_le l71 zs29) (Nat.le_of_eq g11.symm))
  have f73 := (((f70.ext E5).ext E11).other W27 (Or.inl n72))
  have n76 := Nat.ne_of_lt (Nat.lt_of_lt_of_le (Nat.lt_of_lt_of_le l75 zs29) (Nat.le_of_eq g11.symm))
  have f77 := (((f74.ext E5).ext E11).other W27 n76)
  have f79 := (((f78.ext E5).ext E11).other W27 (Or.inl n72))
  obtain ⟨_, T81, Lc81, X81, hQ81, st81⟩ := own_cV X50 hx hZ hown e50 (rm48_1 l Z a0 hw [] r3 r7 r6 r8 c9 x10 x11 r12 c13 x14 h27 n0 o35 f53 f55 f59 f63 f64 hc65 f67 f69 f73 f77 f79 hc80) f49 (w 319 rfl) (w 320 rfl) (w 322 rfl) (w 321 rfl) (w 323 rfl) (w 28 rfl) (by decide) (W := 0) (by decide) (by decide) (by decide) (by decide) (g := (mkF m 70 #[lR r0, lR b5, lR b11, lV vI1, lV vI1, lR r7] [(.ref r7), (.ref r3)])) rfl (by rw [hml]; rfl) (argsL := [(.ref r7)]) (rest := []) (lenOf pd__Ljava_lang_String__Z rfl) rfl (own_W rfl) (hb hby d29_70)
  obtain ⟨rfl, N81q, E81⟩ := hQ81
  have N81 := Fr.app N48 N81q
  obtain ⟨clq82, Arq82, qq82, Sq82, Nq82, Hq82, Gq82⟩ := id V27
  obtain ⟨T83, h83, X83, e83, W83, st83⟩ := stI X81 hx hZ E81 Arq82 (j := (1 : Int32)) (inb_of Sq82 ⟨(by decide : ¬ ((1 : Int32) < (0 : Int32))), (by decide : (1 : Int32) < (3 : Int32))⟩) (g := (mkF m 93 #[lR r0, lR b5, lR b11, lV vI1, lV vI1, lR r7] [vI1, vI1, (.ref b11)])) rfl rfl (hb hby d29_93)
  have V83 : Arv Z h83 b11 k11 .int (3 : Int32) [vI0, vI1, vI0] vI0 := Arv.set Arq82 qq82 Sq82 Nq82 Hq82 Gq82 rfl W83 1 rfl (Nat.le_of_ble_eq_true rfl)
  have N83 := Fr.snoc X83 N81 g26
  have f84 := (f31.other W83 (Or.inl n30))
  have f85 := (f34.other W83 n33)
  have o86 := Old.wr o35 W83 g26
  have f88 := (f37.wr W83)
  obtain ⟨_, T87, Lc87, X87, hQ87, st87⟩ := own_cI (xi := mN32) X83 hx hZ hown e83 (rm46_1 l Z a0 hw [] r0 r1 c2 r3 r4 r5 h83 n0 o86 f84 f85) f88 (w 205 rfl) (w 206 rfl) (w 207 rfl) (w 308 rfl) (w 309 rfl) (w 310 rfl) (w 311 rfl) (w 312 rfl) (w 313 rfl) (w 295 rfl) (by decide) (W := 1) (by decide) (by decide) (by decide) (by decide) (g := (mkF m 26 #[lR r0, lR b5, lR b11, lV vI2, lV vI2, lR r7] [(.ref r0), vI2])) rfl (by rw [hml]; rfl) (argsL := []) (rest := [vI2]) (lenOf pd___I rfl) rfl (own_W rfl) (hb hby d29_26)
  obtain ⟨rfl, N87q, E87⟩ := hQ87
  have N87 := Fr.app N83 N87q
  obtain ⟨_, T89, Lc89, X89, hQ89, st89⟩ := own_cI (xi := mN33) X87 hx hZ hown E87 (rm47_3 l Z a0 hw [] r0 r1 c2 r3 r4 r5 h83 n0 o86 f84 f85) f88 (w 215 rfl) (w 216 rfl) (w 217 rfl) (w 314 rfl) (w 315 rfl) (w 316 rfl) (w 317 rfl) (w 312 rfl) (w 318 rfl) (w 295 rfl) (by decide) (W := 0) (by decide) (by decide) (by decide) (by decide) (g := (mkF m 37 #[lR r0, lR b5, lR b11, lV vI2, lV vI2, lR r7] [vI2, (.ref r0)])) rfl (by rw [hml]; rfl) (argsL := [vI2]) (rest := []) (lenOf pd__I_Ljava_lang_Object_ rfl) rfl (own_W rfl) (hb hby d29_37)
  obtain ⟨rfl, N89q, E89⟩ := hQ89
  have N89 := Fr.app N87 N89q
  have f91 := ((((f90.ext E5).ext E11).wr W27).wr W83)
  obtain ⟨T92, X92, e92, st92⟩ := castY X89 hx hZ hown (w 223 rfl) E89 (Ins.self f91) (g := (mkF m 42 #[lR r0, lR b5, lR b11, lV vI2, lV vI2, lR r7] [(.ref r5)])) rfl rfl (hb hby d29_42)
  have n95 := Nat.ne_of_lt (Nat.lt_of_lt_of_le (Nat.lt_of_lt_of_le l94 zs29) (Nat.le_of_eq g11.symm))
  have f96 := ((((f93.ext E5).ext E11).other W27 (Or.inl n95)).other W83 (Or.inl n95))
  obtain ⟨_, T97, Lc97, X97, hQ97, st97⟩ := own_cV X92 hx hZ hown e92 (rm32_1 l Z a0 hw [] r5 r15 h83 n0 o86 f96) f91 (w 225 rfl) (w 226 rfl) (w 228 rfl) (w 227 rfl) (w 229 rfl) (w 28 rfl) (by decide) (W := 0) (by decide) (by decide) (by decide) (by decide) (g := (mkF m 45 #[lR r0, lR b5, lR b11, lV vI2, lV vI2, lR r7] [(.ref r5)])) rfl (by rw [hml]; rfl) (argsL := []) (rest := []) (lenOf pd___Ljava_lang_String_ rfl) rfl (own_W rfl) (hb hby d29_45)
  obtain ⟨rfl, N97q, E97⟩ := hQ97
  have N97 := Fr.app N89 N97q
  obtain ⟨clq98, Arq98, qq98, Sq98, Nq98, Hq98, Gq98⟩ := id V83
  obtain ⟨_, T99, Lc99, X99, hQ99, st99⟩ := own_cI (xi := mN33) X97 hx hZ hown E97 (rm47_2 l Z a0 hw [] r0 r1 c2 r3 r4 r5 h83 n0 o86 f84 f85) f88 (w 215 rfl) (w 216 rfl) (w 217 rfl) (w 314 rfl) (w 315 rfl) (w 316 rfl) (w 317 rfl) (w 312 rfl) (w 318 rfl) (w 295 rfl) (by decide) (W := 0) (by decide) (by decide) (by decide) (by decide) (g := (mkF m 60 #[lR r0, lR b5, lR b11, lV vI2, lV vI2, lR r15] [vI1, (.ref r0)])) rfl (by rw [hml]; rfl) (argsL := [vI1]) (rest := []) (lenOf pd__I_Ljava_lang_Object_ rfl) rfl (own_W rfl) (hb hby d29_60)
  obtain ⟨rfl, N99q, E99⟩ := hQ99
  have N99 := Fr.app N97 N99q
  have f100 := (f40.wr W83)
  obtain ⟨T101, X101, e101, st101⟩ := castY X99 hx hZ hown (w 223 rfl) E99 (Ins.self f100) (g := (mkF m 65 #[lR r0, lR b5, lR b11, lV vI2, lV vI2, lR r15] [(.ref r4)])) rfl rfl (hb hby d29_65)
  have f102 := (f45.other W83 (Or.inl n44))
  have f104 := ((((f103.ext E5).ext E11).wr W27).wr W83)
  have n107 := Nat.ne_of_lt (Nat.lt_of_lt_of_le (Nat.lt_of_lt_of_le l106 zs29) (Nat.le_of_eq g11.symm))
  have f108 := ((((f105.ext E5).ext E11).other W27 (Or.inl n107)).other W83 (Or.inl n107))
  have n111 := Nat.ne_of_lt (Nat.lt_of_lt_of_le (Nat.lt_of_lt_of_le l110 zs29) (Nat.le_of_eq g11.symm))
  have f112 := ((((f109.ext E5).ext E11).other W27 n111).other W83 n111)
  have f114 := ((((f113.ext E5).ext E11).other W27 (Or.inl n107)).other W83 (Or.inl n107))
  have f115 := (f55.wr W83)
  have f116 := (f59.other W83 (Or.inl n58))
  have f117 := (f63.other W83 n62)
  have f118 := (f67.other W83 (Or.inl n58))
  obtain ⟨_, T120, Lc120, X120, hQ120, st120⟩ := own_cV X101 hx hZ hown e101 (rm48_1 l Z a0 hw [] r4 r15 r7 r16 c17 x18 x11 r8 c9 x10 h83 n0 o86 f102 f104 f108 f112 f64 hc65 f114 f115 f116 f117 f118 hc119) f100 (w 319 rfl) (w 320 rfl) (w 322 rfl) (w 321 rfl) (w 323 rfl) (w 28 rfl) (by decide) (W := 0) (by decide) (by decide) (by decide) (by decide) (g := (mkF m 70 #[lR r0, lR b5, lR b11, lV vI2, lV vI2, lR r15] [(.ref r15), (.ref r4)])) rfl (by rw [hml]; rfl) (argsL := [(.ref r15)]) (rest := []) (lenOf pd__Ljava_lang_String__Z rfl) rfl (own_W rfl) (hb hby d29_70)
  obtain ⟨rfl, N120q, E120⟩ := hQ120
  have N120 := Fr.app N99 N120q
  obtain ⟨clq121, Arq121, qq121, Sq121, Nq121, Hq121, Gq121⟩ := id V83
  obtain ⟨T122, h122, X122, e122, W122, st122⟩ := stI X120 hx hZ E120 Arq121 (j := (2 : Int32)) (inb_of Sq121 ⟨(by decide : ¬ ((2 : Int32) < (0 : Int32))), (by decide : (2 : Int32) < (3 : Int32))⟩) (g := (mkF m 93 #[lR r0, lR b5, lR b11, lV vI2, lV vI2, lR r15] [vI2, vI2, (.ref b11)])) rfl rfl (hb hby d29_93)
  have V122 : Arv Z h122 b11 k11 .int (3 : Int32) [vI0, vI1, vI2] vI0 := Arv.set Arq121 qq121 Sq121 Nq121 Hq121 Gq121 rfl W122 2 rfl (Nat.le_of_ble_eq_true rfl)
  have N122 := Fr.snoc X122 N120 g26
  have f123 := (f84.other W122 (Or.inl n30))
  have f124 := (f85.other W122 n33)
  have o125 := Old.wr o86 W122 g26
  have f127 := (f88.wr W122)
  obtain ⟨_, T126, Lc126, X126, hQ126, st126⟩ := own_cI (xi := mN32) X122 hx hZ hown e122 (rm46_1 l Z a0 hw [] r0 r1 c2 r3 r4 r5 h122 n0 o125 f123 f124) f127 (w 205 rfl) (w 206 rfl) (w 207 rfl) (w 308 rfl) (w 309 rfl) (w 310 rfl) (w 311 rfl) (w 312 rfl) (w 313 rfl) (w 295 rfl) (by decide) (W := 1) (by decide) (by decide) (by decide) (by decide) (g := (mkF m 26 #[lR r0, lR b5, lR b11, lV vI3, lV vI3, lR r15] [(.ref r0), vI3])) rfl (by rw [hml]; rfl) (argsL := []) (rest := [vI3]) (lenOf pd___I rfl) rfl (own_W rfl) (hb hby d29_26)
  obtain ⟨rfl, N126q, E126⟩ := hQ126
  have N126 := Fr.app N122 N126q
  obtain ⟨clq128, Arq128, qq128, Sq128, Nq128, Hq128, Gq128⟩ := id V122
  obtain ⟨_, T129, Lc129, X129, hQ129, st129⟩ := own_cI (xi := mN32) X126 hx hZ hown E126 (rm46_1 l Z a0 hw [] r0 r1 c2 r3 r4 r5 h122 n0 o125 f123 f124) f127 (w 205 rfl) (w 206 rfl) (w 207 rfl) (w 308 rfl) (w 309 rfl) (w 310 rfl) (w 311 rfl) (w 312 rfl) (w 313 rfl) (w 295 rfl) (by decide) (W := 2) (by decide) (by decide) (by decide) (by decide) (g := (mkF m 115 #[lR r0, lR b5, lR b11, lV vI2, lV vI3, lR r15] [(.ref r0), vI2, (.ref b5)])) rfl (by rw [hml]; rfl) (argsL := []) (rest := [vI2, (.ref b5)]) (lenOf pd___I rfl) rfl (own_W rfl) (hb hby d29_115)
  obtain ⟨rfl, N129q, E129⟩ := hQ129
  have N129 := Fr.app N126 N129q
  have n130 := Nat.ne_of_lt (Nat.lt_of_lt_of_le V5.lt (Nat.le_of_eq g11.symm))
  have f131 := ((((V5.ext E11).other W27 n130).other W83 n130).other W122 n130)
  obtain ⟨clq132, Arq132, qq132, Sq132, Nq132, Hq132, Gq132⟩ := id f131
  have zz133 : n0 ≤ h0.size := by rw [← O0.1]; exact O0.2.1
  have g134 := Nat.le_trans zz133 (Nat.le_of_eq g5.symm)
  obtain ⟨T135, h135, X135, e135, W135, st135⟩ := stI X129 hx hZ E129 Arq132 (j := (2 : Int32)) (inb_of Sq132 ⟨(by decide : ¬ ((2 : Int32) < (0 : Int32))), (by decide : (2 : Int32) < (3 : Int32))⟩) (g := (mkF m 120 #[lR r0, lR b5, lR b11, lV vI2, lV vI3, lR r15] [vI3, vI2, (.ref b5)])) rfl rfl (hb hby d29_120)
  have V135 : Arv Z h135 b5 k5 .int (3 : Int32) [vI0, vI0, vI3] vI0 := Arv.set Arq132 qq132 Sq132 Nq132 Hq132 Gq132 rfl W135 2 rfl (Nat.le_of_ble_eq_true rfl)
  have N135 := Fr.snoc X135 N129 g134
  have f136 := (V122.other W135 (Ne.symm n130))
  obtain ⟨clq137, Arq137, qq137, Sq137, Nq137, Hq137, Gq137⟩ := id f136
  have n138 := Nat.ne_of_lt (Nat.lt_of_lt_of_le l28 (Nat.le_of_eq g5.symm))
  have f139 := (f123.other W135 (Or.inl n138))
  have n140 := Nat.ne_of_lt (Nat.lt_of_lt_of_le l32 (Nat.le_of_eq g5.symm))
  have f141 := (f124.other W135 n140)
  have o142 := Old.wr o125 W135 g134
  have f144 := (f127.wr W135)
  obtain ⟨_, T143, Lc143, X143, hQ143, st143⟩ := own_cI (xi := mN32) X135 hx hZ hown e135 (rm46_1 l Z a0 hw [] r0 r1 c2 r3 r4 r5 h135 n0 o142 f139 f141) f144 (w 205 rfl) (w 206 rfl) (w 207 rfl) (w 308 rfl) (w 309 rfl) (w 310 rfl) (w 311 rfl) (w 312 rfl) (w 313 rfl) (w 295 rfl) (by decide) (W := 2) (by decide) (by decide) (by decide) (by decide) (g := (mkF m 115 #[lR r0, lR b5, lR b11, lV vI1, lV vI3, lR r15] [(.ref r0), vI1, (.ref b5)])) rfl (by rw [hml]; rfl) (argsL := []) (rest := [vI1, (.ref b5)]) (lenOf pd___I rfl) rfl (own_W rfl) (hb hby d29_115)
  obtain ⟨rfl, N143q, E143⟩ := hQ143
  have N143 := Fr.app N135 N143q
  obtain ⟨clq145, Arq145, qq145, Sq145, Nq145, Hq145, Gq145⟩ := id V135
  obtain ⟨T146, h146, X146, e146, W146, st146⟩ := stI X143 hx hZ E143 Arq145 (j := (1 : Int32)) (inb_of Sq145 ⟨(by decide : ¬ ((1 : Int32) < (0 : Int32))), (by decide : (1 : Int32) < (3 : Int32))⟩) (g := (mkF m 120 #[lR r0, lR b5, lR b11, lV vI1, lV vI3, lR r15] [vI3, vI1, (.ref b5)])) rfl rfl (hb hby d29_120)
  have V146 : Arv Z h146 b5 k5 .int (3 : Int32) [vI0, vI3, vI3] vI0 := Arv.set Arq145 qq145 Sq145 Nq145 Hq145 Gq145 rfl W146 1 rfl (Nat.le_of_ble_eq_true rfl)
  have N146 := Fr.snoc X146 N143 g134
  have f147 := (f136.other W146 (Ne.symm n130))
  obtain ⟨clq148, Arq148, qq148, Sq148, Nq148, Hq148, Gq148⟩ := id f147
  have f149 := (f139.other W146 (Or.inl n138))
  have f150 := (f141.other W146 n140)
  have o151 := Old.wr o142 W146 g134
  have f153 := (f144.wr W146)
  obtain ⟨_, T152, Lc152, X152, hQ152, st152⟩ := own_cI (xi := mN32) X146 hx hZ hown e146 (rm46_1 l Z a0 hw [] r0 r1 c2 r3 r4 r5 h146 n0 o151 f149 f150) f153 (w 205 rfl) (w 206 rfl) (w 207 rfl) (w 308 rfl) (w 309 rfl) (w 310 rfl) (w 311 rfl) (w 312 rfl) (w 313 rfl) (w 295 rfl) (by decide) (W := 2) (by decide) (by decide) (by decide) (by decide) (g := (mkF m 115 #[lR r0, lR b5, lR b11, lV vI0, lV vI3, lR r15] [(.ref r0), vI0, (.ref b5)])) rfl (by rw [hml]; rfl) (argsL := []) (rest := [vI0, (.ref b5)]) (lenOf pd___I rfl) rfl (own_W rfl) (hb hby d29_115)
  obtain ⟨rfl, N152q, E152⟩ := hQ152
  have N152 := Fr.app N146 N152q
  obtain ⟨clq154, Arq154, qq154, Sq154, Nq154, Hq154, Gq154⟩ := id V146
  obtain ⟨T155, h155, X155, e155, W155, st155⟩ := stI X152 hx hZ E152 Arq154 (j := (0 : Int32)) (inb_of Sq154 ⟨(by decide : ¬ ((0 : Int32) < (0 : Int32))), (by decide : (0 : Int32) < (3 : Int32))⟩) (g := (mkF m 120 #[lR r0, lR b5, lR b11, lV vI0, lV vI3, lR r15] [vI3, vI0, (.ref b5)])) rfl rfl (hb hby d29_120)
  have V155 : Arv Z h155 b5 k5 .int (3 : Int32) [vI3, vI3, vI3] vI0 := Arv.set Arq154 qq154 Sq154 Nq154 Hq154 Gq154 rfl W155 0 rfl (Nat.le_of_ble_eq_true rfl)
  have N155 := Fr.snoc X155 N152 g134
  have f156 := (((((((B5.ext E11).wr W27).wr W83).wr W122).wr W135).wr W146).wr W155)
  have kp157 : Keep h0 h5 [] := (Keep.refl h0 []).ext E5
  have kp158 : Keep h0 h11 [] := kp157.ext E11
  have kp159 : Keep h0 h27 [] := kp158.wr W27 (Or.inr (Nat.le_trans zs29 (Nat.le_of_eq g11.symm)))
  have kp160 : Keep h0 h83 [] := kp159.wr W83 (Or.inr (Nat.le_trans zs29 (Nat.le_of_eq g11.symm)))
  have kp161 : Keep h0 h122 [] := kp160.wr W122 (Or.inr (Nat.le_trans zs29 (Nat.le_of_eq g11.symm)))
  have kp162 : Keep h0 h135 [] := kp161.wr W135 (Or.inr (Nat.le_of_eq g5.symm))
  have kp163 : Keep h0 h146 [] := kp162.wr W146 (Or.inr (Nat.le_of_eq g5.symm))
  have kp164 : Keep h0 h155 [] := kp163.wr W155 (Or.inr (Nat.le_of_eq g5.symm))
  refine ⟨some (.ref b5), _, _, _, _, nofun, X155, by decide, by decide, ?_, fun fs hr => ?_⟩
  · rw [e155]; exact ⟨b5, k5, rfl, N155, kp164, (Nat.le_of_eq g5.symm), V155, f156⟩
  · show SG p e below s₁ (mkF m 0 #[lR r0, lU, lU, lU, lU, lU] []) _
    refine qaN X0 hx hby d29_0 ?_
    refine st4 _ ?_
    refine st5 _ ?_
    refine XS.astoreN X5.here hx rfl (hb hby d29_8) rfl rfl (l' := #[lR r0, lR b5, lU, lU, lU, lU]) rfl ?_
    refine qaN X5 hx hby d29_9 ?_
    refine st9 _ ?_
    refine st11 _ ?_
    refine XS.astoreN X11.here hx rfl (hb hby d29_17) rfl rfl (l' := #[lR r0, lR b5, lR b11, lU, lU, lU]) rfl ?_
    refine qc X11 hx hby d29_18 ?_
    refine XS.istoreN X11.here hx rfl (hb hby d29_19) rfl (l' := #[lR r0, lR b5, lR b11, lV vI0, lU, lU]) rfl ?_
    show SG p e below T11 (mkF m 20 #[lR r0, lR b5, lR b11, lV vI0, lU, lU] []) _
    refine qc X11 hx hby d29_20 ?_
    refine XS.istore X11.here hx rfl (hb hby d29_21) rfl (l' := #[lR r0, lR b5, lR b11, lV vI0, lV vI0, lU]) rfl ?_
    refine qi X11 hx hby d29_23 ?_
    refine qaN X11 hx hby d29_25 ?_
    refine st15 _ ?_
    refine XS.icmpNo X15.here hx rfl (hb hby d29_31) rfl (tlt (by decide : (0 : Int32) < (3 : Int32))).2.1 ?_
    refine qaN X15 hx hby d29_34 ?_
    refine qi X15 hx hby d29_35 ?_
    refine st17 _ ?_
    refine st20 _ ?_
    show SG p e below T20 (mkF m 45 #[lR r0, lR b5, lR b11, lV vI0, lV vI0, lU] [(.ref r3)]) _
    refine st23 _ ?_
    refine XS.astore X23.here hx rfl (hb hby d29_48) rfl rfl (l' := #[lR r0, lR b5, lR b11, lV vI0, lV vI0, lR r6]) rfl ?_
    refine qiN X23 hx hby d29_50 ?_
    refine XS.ifYes X23.here hx rfl (pc0 := 51) (pc' := 89) rfl (hb hby d29_51) rfl ((if0 _ _).trans (flt (by decide : ¬ ((0 : Int32) < (0 : Int32)))).2.2.2) (by decide) (by decide) ?_
    refine qaN X23 hx hby d29_89 ?_
    refine qiN X23 hx hby d29_90 ?_
    refine qi X23 hx hby d29_91 ?_
    refine st27 _ ?_
    refine XS.iinc X27.here hx rfl (hb hby d29_94) rfl (l' := #[lR r0, lR b5, lR b11, lV vI1, lV vI0, lR r6]) rfl ?_
    refine XS.iinc X27.here hx rfl (hb hby d29_97) rfl (l' := #[lR r0, lR b5, lR b11, lV vI1, lV vI1, lR r6]) rfl ?_
    show SG p e below T27 (mkF m 100 #[lR r0, lR b5, lR b11, lV vI1, lV vI1, lR r6] []) _
    refine XS.goto X27.here hx rfl (pc0 := 100) (pc' := 23) rfl (hb hby d29_100) (by decide) (by decide) ?_
    refine qi X27 hx hby d29_23 ?_
    refine qaN X27 hx hby d29_25 ?_
    refine st36 _ ?_
    refine XS.icmpNo X36.here hx rfl (hb hby d29_31) rfl (tlt (by decide : (1 : Int32) < (3 : Int32))).2.1 ?_
    refine qaN X36 hx hby d29_34 ?_
    refine qi X36 hx hby d29_35 ?_
    refine st38 _ ?_
    refine st41 _ ?_
    refine st46 _ ?_
    show SG p e below T46 (mkF m 48 #[lR r0, lR b5, lR b11, lV vI1, lV vI1, lR r6] [(.ref r7)]) _
    refine XS.astore X46.here hx rfl (hb hby d29_48) rfl rfl (l' := #[lR r0, lR b5, lR b11, lV vI1, lV vI1, lR r7]) rfl ?_
    refine qiN X46 hx hby d29_50 ?_
    refine XS.ifNo X46.here hx rfl (hb hby d29_51) rfl ((if0 _ _).trans (tlt (by decide : (0 : Int32) < (1 : Int32))).2.2.2) ?_
    refine qaN X46 hx hby d29_54 ?_
    refine qaN X46 hx hby d29_55 ?_
    refine qiN X46 hx hby d29_56 ?_
    refine qc X46 hx hby d29_57 ?_
    refine XS.isub X46.here hx rfl (hb hby d29_58) rfl ?_
    refine X46.iaload hx (j := (0 : Int32)) (v := vI0) (by rw [E46]; exact Arq47.1) (State.isArrayOf_alike hZ.alike Arq47.2.1) Arq47.2.2 (inb_of Sq47 ⟨(by decide : ¬ ((0 : Int32) < (0 : Int32))), (by decide : (0 : Int32) < (3 : Int32))⟩) (Has.at Hq47 (inb_of Sq47 ⟨(by decide : ¬ ((0 : Int32) < (0 : Int32))), (by decide : (0 : Int32) < (3 : Int32))⟩) rfl) (g := (mkF m 59 #[lR r0, lR b5, lR b11, lV vI1, lV vI1, lR r7] [vI0, (.ref b11), (.ref r0)])) rfl rfl (hb hby d29_59) _ ?_
    refine st48 _ ?_
    show SG p e below T48 (mkF m 65 #[lR r0, lR b5, lR b11, lV vI1, lV vI1, lR r7] [(.ref r3)]) _
    refine st50 _ ?_
    refine qa X50 hx hby d29_68 ?_
    refine st81 _ ?_
    refine XS.ifYes X81.here hx rfl (pc0 := 73) (pc' := 89) rfl (hb hby d29_73) rfl ((if0 _ _).trans (feq (by decide : ¬ ((1 : Int32) = (0 : Int32)))).2) (by decide) (by decide) ?_
    refine qaN X81 hx hby d29_89 ?_
    refine qiN X81 hx hby d29_90 ?_
    refine qi X81 hx hby d29_91 ?_
    refine st83 _ ?_
    refine XS.iinc X83.here hx rfl (hb hby d29_94) rfl (l' := #[lR r0, lR b5, lR b11, lV vI2, lV vI1, lR r7]) rfl ?_
    refine XS.iinc X83.here hx rfl (hb hby d29_97) rfl (l' := #[lR r0, lR b5, lR b11, lV vI2, lV vI2, lR r7]) rfl ?_
    show SG p e below T83 (mkF m 100 #[lR r0, lR b5, lR b11, lV vI2, lV vI2, lR r7] []) _
    refine XS.goto X83.here hx rfl (pc0 := 100) (pc' := 23) rfl (hb hby d29_100) (by decide) (by decide) ?_
    refine qi X83 hx hby d29_23 ?_
    refine qaN X83 hx hby d29_25 ?_
    refine st87 _ ?_
    refine XS.icmpNo X87.here hx rfl (hb hby d29_31) rfl (tlt (by decide : (2 : Int32) < (3 : Int32))).2.1 ?_
    refine qaN X87 hx hby d29_34 ?_
    refine qi X87 hx hby d29_35 ?_
    refine st89 _ ?_
    refine st92 _ ?_
    refine st97 _ ?_
    show SG p e below T97 (mkF m 48 #[lR r0, lR b5, lR b11, lV vI2, lV vI2, lR r7] [(.ref r15)]) _
    refine XS.astore X97.here hx rfl (hb hby d29_48) rfl rfl (l' := #[lR r0, lR b5, lR b11, lV vI2, lV vI2, lR r15]) rfl ?_
    refine qiN X97 hx hby d29_50 ?_
    refine XS.ifNo X97.here hx rfl (hb hby d29_51) rfl ((if0 _ _).trans (tlt (by decide : (0 : Int32) < (2 : Int32))).2.2.2) ?_
    refine qaN X97 hx hby d29_54 ?_
    refine qaN X97 hx hby d29_55 ?_
    refine qiN X97 hx hby d29_56 ?_
    refine qc X97 hx hby d29_57 ?_
    refine XS.isub X97.here hx rfl (hb hby d29_58) rfl ?_
    refine X97.iaload hx (j := (1 : Int32)) (v := vI1) (by rw [E97]; exact Arq98.1) (State.isArrayOf_alike hZ.alike Arq98.2.1) Arq98.2.2 (inb_of Sq98 ⟨(by decide : ¬ ((1 : Int32) < (0 : Int32))), (by decide : (1 : Int32) < (3 : Int32))⟩) (Has.at Hq98 (inb_of Sq98 ⟨(by decide : ¬ ((1 : Int32) < (0 : Int32))), (by decide : (1 : Int32) < (3 : Int32))⟩) rfl) (g := (mkF m 59 #[lR r0, lR b5, lR b11, lV vI2, lV vI2, lR r15] [vI1, (.ref b11), (.ref r0)])) rfl rfl (hb hby d29_59) _ ?_
    refine st99 _ ?_
    show SG p e below T99 (mkF m 65 #[lR r0, lR b5, lR b11, lV vI2, lV vI2, lR r15] [(.ref r4)]) _
    refine st101 _ ?_
    refine qa X101 hx hby d29_68 ?_
    refine st120 _ ?_
    refine XS.ifYes X120.here hx rfl (pc0 := 73) (pc' := 89) rfl (hb hby d29_73) rfl ((if0 _ _).trans (feq (by decide : ¬ ((1 : Int32) = (0 : Int32)))).2) (by decide) (by decide) ?_
    refine qaN X120 hx hby d29_89 ?_
    refine qiN X120 hx hby d29_90 ?_
    refine qi X120 hx hby d29_91 ?_
    refine st122 _ ?_
    refine XS.iinc X122.here hx rfl (hb hby d29_94) rfl (l' := #[lR r0, lR b5, lR b11, lV vI3, lV vI2, lR r15]) rfl ?_
    refine XS.iinc X122.here hx rfl (hb hby d29_97) rfl (l' := #[lR r0, lR b5, lR b11, lV vI3, lV vI3, lR r15]) rfl ?_
    show SG p e below T122 (mkF m 100 #[lR r0, lR b5, lR b11, lV vI3, lV vI3, lR r15] []) _
    refine XS.goto X122.here hx rfl (pc0 := 100) (pc' := 23) rfl (hb hby d29_100) (by decide) (by decide) ?_
    refine qi X122 hx hby d29_23 ?_
    refine qaN X122 hx hby d29_25 ?_
    refine st126 _ ?_
    refine XS.icmpYes X126.here hx rfl (pc0 := 31) (pc' := 103) rfl (hb hby d29_31) rfl (flt (by decide : ¬ ((3 : Int32) < (3 : Int32)))).2.1 (by decide) (by decide) ?_
    refine qiN X126 hx hby d29_103 ?_
    refine XS.ifNo X126.here hx rfl (hb hby d29_104) rfl ((if0 _ _).trans (tlt (by decide : (0 : Int32) < (3 : Int32))).2.2.2) ?_
    refine XS.iinc X126.here hx rfl (hb hby d29_107) rfl (l' := #[lR r0, lR b5, lR b11, lV vI2, lV vI3, lR r15]) rfl ?_
    refine qaN X126 hx hby d29_110 ?_
    refine qaN X126 hx hby d29_111 ?_
    show SG p e below T126 (mkF m 112 #[lR r0, lR b5, lR b11, lV vI2, lV vI3, lR r15] [(.ref b11), (.ref b5)]) _
    refine qiN X126 hx hby d29_112 ?_
    refine X126.iaload hx (j := (2 : Int32)) (v := vI2) (by rw [E126]; exact Arq128.1) (State.isArrayOf_alike hZ.alike Arq128.2.1) Arq128.2.2 (inb_of Sq128 ⟨(by decide : ¬ ((2 : Int32) < (0 : Int32))), (by decide : (2 : Int32) < (3 : Int32))⟩) (Has.at Hq128 (inb_of Sq128 ⟨(by decide : ¬ ((2 : Int32) < (0 : Int32))), (by decide : (2 : Int32) < (3 : Int32))⟩) rfl) (g := (mkF m 113 #[lR r0, lR b5, lR b11, lV vI2, lV vI3, lR r15] [vI2, (.ref b11), (.ref b5)])) rfl rfl (hb hby d29_113) _ ?_
    refine qaN X126 hx hby d29_114 ?_
    refine st129 _ ?_
    refine st135 _ ?_
    refine XS.goto X135.here hx rfl (pc0 := 121) (pc' := 103) rfl (hb hby d29_121) (by decide) (by decide) ?_
    refine qiN X135 hx hby d29_103 ?_
    refine XS.ifNo X135.here hx rfl (hb hby d29_104) rfl ((if0 _ _).trans (tlt (by decide : (0 : Int32) < (2 : Int32))).2.2.2) ?_
    refine XS.iinc X135.here hx rfl (hb hby d29_107) rfl (l' := #[lR r0, lR b5, lR b11, lV vI1, lV vI3, lR r15]) rfl ?_
    refine qaN X135 hx hby d29_110 ?_
    show SG p e below T135 (mkF m 111 #[lR r0, lR b5, lR b11, lV vI1, lV vI3, lR r15] [(.ref b5)]) _
    refine qaN X135 hx hby d29_111 ?_
    refine qiN X135 hx hby d29_112 ?_
    refine X135.iaload hx (j := (1 : Int32)) (v := vI1) (by rw [e135]; exact Arq137.1) (State.isArrayOf_alike hZ.alike Arq137.2.1) Arq137.2.2 (inb_of Sq137 ⟨(by decide : ¬ ((1 : Int32) < (0 : Int32))), (by decide : (1 : Int32) < (3 : Int32))⟩) (Has.at Hq137 (inb_of Sq137 ⟨(by decide : ¬ ((1 : Int32) < (0 : Int32))), (by decide : (1 : Int32) < (3 : Int32))⟩) rfl) (g := (mkF m 113 #[lR r0, lR b5, lR b11, lV vI1, lV vI3, lR r15] [vI1, (.ref b11), (.ref b5)])) rfl rfl (hb hby d29_113) _ ?_
    refine qaN X135 hx hby d29_114 ?_
    refine st143 _ ?_
    refine st146 _ ?_
    refine XS.goto X146.here hx rfl (pc0 := 121) (pc' := 103) rfl (hb hby d29_121) (by decide) (by decide) ?_
    refine qiN X146 hx hby d29_103 ?_
    refine XS.ifNo X146.here hx rfl (hb hby d29_104) rfl ((if0 _ _).trans (tlt (by decide : (0 : Int32) < (1 : Int32))).2.2.2) ?_
    refine XS.iinc X146.here hx rfl (hb hby d29_107) rfl (l' := #[lR r0, lR b5, lR b11, lV vI0, lV vI3, lR r15]) rfl ?_
    show SG p e below T146 (mkF m 110 #[lR r0, lR b5, lR b11, lV vI0, lV vI3, lR r15] []) _
    refine qaN X146 hx hby d29_110 ?_
    refine qaN X146 hx hby d29_111 ?_
    refine qiN X146 hx hby d29_112 ?_
    refine X146.iaload hx (j := (0 : Int32)) (v := vI0) (by rw [e146]; exact Arq148.1) (State.isArrayOf_alike hZ.alike Arq148.2.1) Arq148.2.2 (inb_of Sq148 ⟨(by decide : ¬ ((0 : Int32) < (0 : Int32))), (by decide : (0 : Int32) < (3 : Int32))⟩) (Has.at Hq148 (inb_of Sq148 ⟨(by decide : ¬ ((0 : Int32) < (0 : Int32))), (by decide : (0 : Int32) < (3 : Int32))⟩) rfl) (g := (mkF m 113 #[lR r0, lR b5, lR b11, lV vI0, lV vI3, lR r15] [vI0, (.ref b11), (.ref b5)])) rfl rfl (hb hby d29_113) _ ?_
    refine qaN X146 hx hby d29_114 ?_
    refine st152 _ ?_
    refine st155 _ ?_
    refine XS.goto X155.here hx rfl (pc0 := 121) (pc' := 103) rfl (hb hby d29_121) (by decide) (by decide) ?_
    refine qiN X155 hx hby d29_103 ?_
    refine XS.ifYes X155.here hx rfl (pc0 := 104) (pc' := 124) rfl (hb hby d29_104) rfl ((if0 _ _).trans (flt (by decide : ¬ ((0 : Int32) < (0 : Int32)))).2.2.2) (by decide) (by decide) ?_
    show SG p e below T155 (mkF m 124 #[lR r0, lR b5, lR b11, lV vI0, lV vI3, lR r15] []) _
    refine qaN X155 hx hby d29_124 ?_
    exact retOut X155 hx (i := .areturn) hret rfl (Or.inr (Or.inr (Or.inr (Or.inr ⟨rfl, rfl, rfl⟩)))) (hb hby d29_125) hr
def Q29_7 (Z : State)  (h0 : Heap) (n0 : Nat) (v : Option Value) (h : Heap) (L : List Loc) : Prop := ∃ (b5 : Addr) (k5 : ClassId), v = some (.ref b5) ∧ Fr n0 L ∧ Keep h0 h [] ∧ h0.size ≤ b5 ∧ Arv Z h b5 k5 .int (3 : Int32) [vI2, vI2, vI3] vI0 ∧ Exa Z h b5 "[I"
theorem rm29_7 (l : Launch) (Z : State) (a0 : Array Value) (hw : own_HW a0 Z) (ws : List Jvm.Cond) (r0 r1 : Addr) (c2 : ClassId) (r3 r4 : Addr) (r5 r6 : Addr) (r7 r8 : Addr) (c9 : ClassId) (x10 x11 : Int32) (r12 : Addr) (c13 : ClassId) (x14 : Int32) (r15 r16 : Addr) (c17 : ClassId) (x18 : Int32) (h0 : Heap) (n0 : Nat) (O0 : Old Z n0 h0) (f1 : Exa Z h0 r0 cs14) (f2 : Fld Z h0 r0 cs14 "elements" "[Ljava/lang/Object;" (.ref r1)) (f3 : Arv Z h0 r1 c2 (.object "java/lang/Object") (3 : Int32) [(.ref r3), (.ref r4), (.ref r5)] .null) (f18 : Exa Z h0 r3 cs0) (f21 : Fld Z h0 r3 cs0 "path" "Ljava/lang/String;" (.ref r6)) (l28 : r0 < h0.size) (l32 : r1 < h0.size) (f39 : Exa Z h0 r4 cs0) (f42 : Fld Z h0 r4 cs0 "path" "Ljava/lang/String;" (.ref r7)) (l43 : r4 < h0.size) (l51 : r3 < h0.size) (f54 : Exa Z h0 r7 "java/lang/String") (f56 : Fld Z h0 r7 "java/lang/String" "value" "[B" (.ref r8)) (l57 : r7 < h0.size) (f60 : Arv Z h0 r8 c9 .byte (1 : Int32) [(.int x10)] vI0) (l61 : r8 < h0.size) (f64 : Sta Z Z.heap "java/lang/String" "COMPACT_STRINGS" "Z" (.int x11)) (hc65 : ¬ (x11 = (0 : Int32))) (f66 : Fld Z h0 r7 "java/lang/String" "coder" "B" vI0) (f68 : Exa Z h0 r6 "java/lang/String") (f70 : Fld Z h0 r6 "java/lang/String" "value" "[B" (.ref r12)) (l71 : r6 < h0.size) (f74 : Arv Z h0 r12 c13 .byte (1 : Int32) [(.int x14)] vI0) (l75 : r12 < h0.size) (f78 : Fld Z h0 r6 "java/lang/String" "coder" "B" vI0) (hc80 : x10 = x14) (f90 : Exa Z h0 r5 cs0) (f93 : Fld Z h0 r5 cs0 "path" "Ljava/lang/String;" (.ref r15)) (l94 : r5 < h0.size) (f103 : Exa Z h0 r15 "java/lang/String") (f105 : Fld Z h0 r15 "java/lang/String" "value" "[B" (.ref r16)) (l106 : r15 < h0.size) (f109 : Arv Z h0 r16 c17 .byte (1 : Int32) [(.int x18)] vI0) (l110 : r16 < h0.size) (f113 : Fld Z h0 r15 "java/lang/String" "coder" "B" vI0) (hc119 : ¬ (x18 = x10)) (hc153 : ¬ (x18 = x14)) :
    own_MF l mN31 prog_2_method_12_code 6 (some (.array .int)) ws rR5_2_6_72 Z h0 #[(.ref r0)] (Q29_7 Z  h0 n0) := by
  refine own_open (plainFor_of_name pn_com_example_nearmiss_nearmiss_Document) (L0 := #[lR r0, lU, lU, lU, lU, lU]) (fun _ => by first | (simp [entryFrame, mkF, argsToLocals, Value.category]; done) | rfl) ?_
  intro p e s m below meth c s₁ hx hby hml hret hnn hZ hown X0 e0
  have N0 := Fr.nil n0; have w := @ww Z a0 hw
  obtain ⟨_, T4, Lc4, X4, hQ4, st4⟩ := own_cI (xi := mN32) X0 hx hZ hown e0 (rm46_1 l Z a0 hw [] r0 r1 c2 r3 r4 r5 h0 n0 O0 f2 f3) f1 (w 205 rfl) (w 206 rfl) (w 207 rfl) (w 308 rfl) (w 309 rfl) (w 310 rfl) (w 311 rfl) (w 312 rfl) (w 313 rfl) (w 295 rfl) (by decide) (W := 0) (by decide) (by decide) (by decide) (by decide) (g := (mkF m 1 #[lR r0, lU, lU, lU, lU, lU] [(.ref r0)])) rfl (by rw [hml]; rfl) (argsL := []) (rest := []) (lenOf pd___I rfl) rfl (own_W rfl) (hb hby d29_1)
  obtain ⟨rfl, N4q, E4⟩ := hQ4
  have N4 := Fr.app N0 N4q
  obtain ⟨T5, h5, k5, X5, e5, E5, A5, B5, st5⟩ := newPE X4 hx hZ (w 214 rfl) E4 (g := (mkF m 6 #[lR r0, lU, lU, lU, lU, lU] [vI3])) rfl (hb hby d29_6) rfl (by decide) (cap := 3) (by decide) (by decide) (by decide) (by decide) (ad := "[I") rfl
  obtain ⟨b5, g5⟩ : ∃ z, z = h0.size := ⟨_, rfl⟩
  rw [← g5] at A5 B5 st5
  have V5 : Arv Z h5 b5 k5 .int (3 : Int32) [vI0, vI0, vI0] vI0 := (Arv.new A5 (by decide)).pad (pad_rep [] vI0 3)
  have f6 := (f2.ext E5)
  have f7 := (f3.ext E5)
  have o8 := Old.ext O0 E5
  have f10 := (f1.ext E5)
  obtain ⟨_, T9, Lc9, X9, hQ9, st9⟩ := own_cI (xi := mN32) X5 hx hZ hown e5 (rm46_1 l Z a0 hw [] r0 r1 c2 r3 r4 r5 h5 n0 o8 f6 f7) f10 (w 205 rfl) (w 206 rfl) (w 207 rfl) (w 308 rfl) (w 309 rfl) (w 310 rfl) (w 311 rfl) (w 312 rfl) (w 313 rfl) (w 295 rfl) (by decide) (W := 0) (by decide) (by decide) (by decide) (by decide) (g := (mkF m 10 #[lR r0, lR b5, lU, lU, lU, lU] [(.ref r0)])) rfl (by rw [hml]; rfl) (argsL := []) (rest := []) (lenOf pd___I rfl) rfl (own_W rfl) (hb hby d29_10)
  obtain ⟨rfl, N9q, E9⟩ := hQ9
  have N9 := Fr.app N4 N9q
  obtain ⟨T11, h11, k11, X11, e11, E11, A11, B11, st11⟩ := newPE X9 hx hZ (w 214 rfl) E9 (g := (mkF m 15 #[lR r0, lR b5, lU, lU, lU, lU] [vI3])) rfl (hb hby d29_15) rfl (by decide) (cap := 3) (by decide) (by decide) (by decide) (by decide) (ad := "[I") rfl
  obtain ⟨b11, g11⟩ : ∃ z, z = h5.size := ⟨_, rfl⟩
  rw [← g11] at A11 B11 st11
  have V11 : Arv Z h11 b11 k11 .int (3 : Int32) [vI0, vI0, vI0] vI0 := (Arv.new A11 (by decide)).pad (pad_rep [] vI0 3)
  have f12 := (f6.ext E11)
  have f13 := (f7.ext E11)
  have o14 := Old.ext o8 E11
  have f16 := (f10.ext E11)
  obtain ⟨_, T15, Lc15, X15, hQ15, st15⟩ := own_cI (xi := mN32) X11 hx hZ hown e11 (rm46_1 l Z a0 hw [] r0 r1 c2 r3 r4 r5 h11 n0 o14 f12 f13) f16 (w 205 rfl) (w 206 rfl) (w 207 rfl) (w 308 rfl) (w 309 rfl) (w 310 rfl) (w 311 rfl) (w 312 rfl) (w 313 rfl) (w 295 rfl) (by decide) (W := 1) (by decide) (by decide) (by decide) (by decide) (g := (mkF m 26 #[lR r0, lR b5, lR b11, lV vI0, lV vI0, lU] [(.ref r0), vI0])) rfl (by rw [hml]; rfl) (argsL := []) (rest := [vI0]) (lenOf pd___I rfl) rfl (own_W rfl) (hb hby d29_26)
  obtain ⟨rfl, N15q, E15⟩ := hQ15
  have N15 := Fr.app N9 N15q
  obtain ⟨_, T17, Lc17, X17, hQ17, st17⟩ := own_cI (xi := mN33) X15 hx hZ hown E15 (rm47_1 l Z a0 hw [] r0 r1 c2 r3 r4 r5 h11 n0 o14 f12 f13) f16 (w 215 rfl) (w 216 rfl) (w 217 rfl) (w 314 rfl) (w 315 rfl) (w 316 rfl) (w 317 rfl) (w 312 rfl) (w 318 rfl) (w 295 rfl) (by decide) (W := 0) (by decide) (by decide) (by decide) (by decide) (g := (mkF m 37 #[lR r0, lR b5, lR b11, lV vI0, lV vI0, lU] [vI0, (.ref r0)])) rfl (by rw [hml]; rfl) (argsL := [vI0]) (rest := []) (lenOf pd__I_Ljava_lang_Object_ rfl) rfl (own_W rfl) (hb hby d29_37)
  obtain ⟨rfl, N17q, E17⟩ := hQ17
  have N17 := Fr.app N15 N17q
  have f19 := ((f18.ext E5).ext E11)
  obtain ⟨T20, X20, e20, st20⟩ := castY X17 hx hZ hown (w 223 rfl) E17 (Ins.self f19) (g := (mkF m 42 #[lR r0, lR b5, lR b11, lV vI0, lV vI0, lU] [(.ref r3)])) rfl rfl (hb hby d29_42)
  have f22 := ((f21.ext E5).ext E11)
  obtain ⟨_, T23, Lc23, X23, hQ23, st23⟩ := own_cV X20 hx hZ hown e20 (rm32_1 l Z a0 hw [] r3 r6 h11 n0 o14 f22) f19 (w 225 rfl) (w 226 rfl) (w 228 rfl) (w 227 rfl) (w 229 rfl) (w 28 rfl) (by decide) (W := 0) (by decide) (by decide) (by decide) (by decide) (g := (mkF m 45 #[lR r0, lR b5, lR b11, lV vI0, lV vI0, lU] [(.ref r3)])) rfl (by rw [hml]; rfl) (argsL := []) (rest := []) (lenOf pd___Ljava_lang_String_ rfl) rfl (own_W rfl) (hb hby d29_45)
  obtain ⟨rfl, N23q, E23⟩ := hQ23
  have N23 := Fr.app N17 N23q
  obtain ⟨clq24, Arq24, qq24, Sq24, Nq24, Hq24, Gq24⟩ := id V11
  have zz25 : n0 ≤ h5.size := by rw [← o8.1]; exact o8.2.1
  have g26 := Nat.le_trans zz25 (Nat.le_of_eq g11.symm)
  obtain ⟨T27, h27, X27, e27, W27, st27⟩ := stI X23 hx hZ E23 Arq24 (j := (0 : Int32)) (inb_of Sq24 ⟨(by decide : ¬ ((0 : Int32) < (0 : Int32))), (by decide : (0 : Int32) < (3 : Int32))⟩) (g := (mkF m 93 #[lR r0, lR b5, lR b11, lV vI0, lV vI0, lR r6] [vI0, vI0, (.ref b11)])) rfl rfl (hb hby d29_93)
  have V27 : Arv Z h27 b11 k11 .int (3 : Int32) [vI0, vI0, vI0] vI0 := Arv.set Arq24 qq24 Sq24 Nq24 Hq24 Gq24 rfl W27 0 rfl (Nat.le_of_ble_eq_true rfl)
  have N27 := Fr.snoc X27 N23 g26
  have zs29 := E5.1
  have n30 := Nat.ne_of_lt (Nat.lt_of_lt_of_le (Nat.lt_of_lt_of_le l28 zs29) (Nat.le_of_eq g11.symm))
  have f31 := (f12.other W27 (Or.inl n30))
  have n33 := Nat.ne_of_lt (Nat.lt_of_lt_of_le (Nat.lt_of_lt_of_le l32 zs29) (Nat.le_of_eq g11.symm))
  have f34 := (f13.other W27 n33)
  have o35 := Old.wr o14 W27 g26
  have f37 := (f16.wr W27)
  obtain ⟨_, T36, Lc36, X36, hQ36, st36⟩ := own_cI (xi := mN32) X27 hx hZ hown e27 (rm46_1 l Z a0 hw [] r0 r1 c2 r3 r4 r5 h27 n0 o35 f31 f34) f37 (w 205 rfl) (w 206 rfl) (w 207 rfl) (w 308 rfl) (w 309 rfl) (w 310 rfl) (w 311 rfl) (w 312 rfl) (w 313 rfl) (w 295 rfl) (by decide) (W := 1) (by decide) (by decide) (by decide) (by decide) (g := (mkF m 26 #[lR r0, lR b5, lR b11, lV vI1, lV vI1, lR r6] [(.ref r0), vI1])) rfl (by rw [hml]; rfl) (argsL := []) (rest := [vI1]) (lenOf pd___I rfl) rfl (own_W rfl) (hb hby d29_26)
  obtain ⟨rfl, N36q, E36⟩ := hQ36
  have N36 := Fr.app N27 N36q
  obtain ⟨_, T38, Lc38, X38, hQ38, st38⟩ := own_cI (xi := mN33) X36 hx hZ hown E36 (rm47_2 l Z a0 hw [] r0 r1 c2 r3 r4 r5 h27 n0 o35 f31 f34) f37 (w 215 rfl) (w 216 rfl) (w 217 rfl) (w 314 rfl) (w 315 rfl) (w 316 rfl) (w 317 rfl) (w 312 rfl) (w 318 rfl) (w 295 rfl) (by decide) (W := 0) (by decide) (by decide) (by decide) (by decide) (g := (mkF m 37 #[lR r0, lR b5, lR b11, lV vI1, lV vI1, lR r6] [vI1, (.ref r0)])) rfl (by rw [hml]; rfl) (argsL := [vI1]) (rest := []) (lenOf pd__I_Ljava_lang_Object_ rfl) rfl (own_W rfl) (hb hby d29_37)
  obtain ⟨rfl, N38q, E38⟩ := hQ38
  have N38 := Fr.app N36 N38q
  have f40 := (((f39.ext E5).ext E11).wr W27)
  obtain ⟨T41, X41, e41, st41⟩ := castY X38 hx hZ hown (w 223 rfl) E38 (Ins.self f40) (g := (mkF m 42 #[lR r0, lR b5, lR b11, lV vI1, lV vI1, lR r6] [(.ref r4)])) rfl rfl (hb hby d29_42)
  have n44 := Nat.ne_of_lt (Nat.lt_of_lt_of_le (Nat.lt_of_lt_of_le l43 zs29) (Nat.le_of_eq g11.symm))
  have f45 := (((f42.ext E5).ext E11).other W27 (Or.inl n44))
  obtain ⟨_, T46, Lc46, X46, hQ46, st46⟩ := own_cV X41 hx hZ hown e41 (rm32_1 l Z a0 hw [] r4 r7 h27 n0 o35 f45) f40 (w 225 rfl) (w 226 rfl) (w 228 rfl) (w 227 rfl) (w 229 rfl) (w 28 rfl) (by decide) (W := 0) (by decide) (by decide) (by decide) (by decide) (g := (mkF m 45 #[lR r0, lR b5, lR b11, lV vI1, lV vI1, lR r6] [(.ref r4)])) rfl (by rw [hml]; rfl) (argsL := []) (rest := []) (lenOf pd___Ljava_lang_String_ rfl) rfl (own_W rfl) (hb hby d29_45)
  obtain ⟨rfl, N46q, E46⟩ := hQ46
  have N46 := Fr.app N38 N46q
  obtain ⟨clq47, Arq47, qq47, Sq47, Nq47, Hq47, Gq47⟩ := id V27
  obtain ⟨_, T48, Lc48, X48, hQ48, st48⟩ := own_cI (xi := mN33) X46 hx hZ hown E46 (rm47_1 l Z a0 hw [] r0 r1 c2 r3 r4 r5 h27 n0 o35 f31 f34) f37 (w 215 rfl) (w 216 rfl) (w 217 rfl) (w 314 rfl) (w 315 rfl) (w 316 rfl) (w 317 rfl) (w 312 rfl) (w 318 rfl) (w 295 rfl) (by decide) (W := 0) (by decide) (by decide) (by decide) (by decide) (g := (mkF m 60 #[lR r0, lR b5, lR b11, lV vI1, lV vI1, lR r7] [vI0, (.ref r0)])) rfl (by rw [hml]; rfl) (argsL := [vI0]) (rest := []) (lenOf pd__I_Ljava_lang_Object_ rfl) rfl (own_W rfl) (hb hby d29_60)
  obtain ⟨rfl, N48q, E48⟩ := hQ48
  have N48 := Fr.app N46 N48q
  have f49 := (f19.wr W27)
  obtain ⟨T50, X50, e50, st50⟩ := castY X48 hx hZ hown (w 223 rfl) E48 (Ins.self f49) (g := (mkF m 65 #[lR r0, lR b5, lR b11, lV vI1, lV vI1, lR r7] [(.ref r3)])) rfl rfl (hb hby d29_65)
  have n52 := Nat.ne_of_lt (Nat.lt_of_lt_of_le (Nat.lt_of_lt_of_le l51 zs29) (Nat.le_of_eq g11.symm))
  have f53 := (f22.other W27 (Or.inl n52))
  have f55 := (((f54.ext E5).ext E11).wr W27)
  have n58 := Nat.ne_of_lt (Nat.lt_of_lt_of_le (Nat.lt_of_lt_of_le l57 zs29) (Nat.le_of_eq g11.symm))
  have f59 := (((f56.ext E5).ext E11).other W27 (Or.inl n58))
  have n62 := Nat.ne_of_lt (Nat.lt_of_lt_of_le (Nat.lt_of_lt_of_le l61 zs29) (Nat.le_of_eq g11.symm))
  have f63 := (((f60.ext E5).ext E11).other W27 n62)
  have f67 := (((f66.ext E5).ext E11).other W27 (Or.inl n58))
  have f69 := (((f68.ext E5).ext E11).wr W27)
  have n72 := Nat.ne_of_lt (Nat.lt_of_lt_of_le (Nat.lt_of_lt_of_le l71 zs29) (Nat.le_of_eq g11.symm))
  have f73 := (((f70.ext E5).ext E11).other W27 (Or.inl n72))
  have n76 := Nat.ne_of_lt (Nat.lt_of_lt_of_le (Nat.lt_of_lt_of_le l75 zs29) (Nat.le_of_eq g11.symm))
  have f77 := (((f74.ext E5).ext E11).other W27 n76)
  have f79 := (((f78.ext E5).ext E11).other W27 (Or.inl n72))
  obtain ⟨_, T81, Lc81, X81, hQ81, st81⟩ := own_cV X50 hx hZ hown e50 (rm48_1 l Z a0 hw [] r3 r7 r6 r8 c9 x10 x11 r12 c13 x14 h27 n0 o35 f53 f55 f59 f63 f64 hc65 f67 f69 f73 f77 f79 hc80) f49 (w 319 rfl) (w 320 rfl) (w 322 rfl) (w 321 rfl) (w 323 rfl) (w 28 rfl) (by decide) (W := 0) (by decide) (by decide) (by decide) (by decide) (g := (mkF m 70 #[lR r0, lR b5, lR b11, lV vI1, lV vI1, lR r7] [(.ref r7), (.ref r3)])) rfl (by rw [hml]; rfl) (argsL := [(.ref r7)]) (rest := []) (lenOf pd__Ljava_lang_String__Z rfl) rfl (own_W rfl) (hb hby d29_70)
  obtain ⟨rfl, N81q, E81⟩ := hQ81
  have N81 := Fr.app N48 N81q
  obtain ⟨clq82, Arq82, qq82, Sq82, Nq82, Hq82, Gq82⟩ := id V27
  obtain ⟨T83, h83, X83, e83, W83, st83⟩ := stI X81 hx hZ E81 Arq82 (j := (1 : Int32)) (inb_of Sq82 ⟨(by decide : ¬ ((1 : Int32) < (0 : Int32))), (by decide : (1 : Int32) < (3 : Int32))⟩) (g := (mkF m 93 #[lR r0, lR b5, lR b11, lV vI1, lV vI1, lR r7] [vI1, vI1, (.ref b11)])) rfl rfl (hb hby d29_93)
  have V83 : Arv Z h83 b11 k11 .int (3 : Int32) [vI0, vI1, vI0] vI0 := Arv.set Arq82 qq82 Sq82 Nq82 Hq82 Gq82 rfl W83 1 rfl (Nat.le_of_ble_eq_true rfl)
  have N83 := Fr.snoc X83 N81 g26
  have f84 := (f31.other W83 (Or.inl n30))
  have f85 := (f34.other W83 n33)
  have o86 := Old.wr o35 W83 g26
  have f88 := (f37.wr W83)
  obtain ⟨_, T87, Lc87, X87, hQ87, st87⟩ := own_cI (xi := mN32) X83 hx hZ hown e83 (rm46_1 l Z a0 hw [] r0 r1 c2 r3 r4 r5 h83 n0 o86 f84 f85) f88 (w 205 rfl) (w 206 rfl) (w 207 rfl) (w 308 rfl) (w 309 rfl) (w 310 rfl) (w 311 rfl) (w 312 rfl) (w 313 rfl) (w 295 rfl) (by decide) (W := 1) (by decide) (by decide) (by decide) (by decide) (g := (mkF m 26 #[lR r0, lR b5, lR b11, lV vI2, lV vI2, lR r7] [(.ref r0), vI2])) rfl (by rw [hml]; rfl) (argsL := []) (rest := [vI2]) (lenOf pd___I rfl) rfl (own_W rfl) (hb hby d29_26)
  obtain ⟨rfl, N87q, E87⟩ := hQ87
  have N87 := Fr.app N83 N87q
  obtain ⟨_, T89, Lc89, X89, hQ89, st89⟩ := own_cI (xi := mN33) X87 hx hZ hown E87 (rm47_3 l Z a0 hw [] r0 r1 c2 r3 r4 r5 h83 n0 o86 f84 f85) f88 (w 215 rfl) (w 216 rfl) (w 217 rfl) (w 314 rfl) (w 315 rfl) (w 316 rfl) (w 317 rfl) (w 312 rfl) (w 318 rfl) (w 295 rfl) (by decide) (W := 0) (by decide) (by decide) (by decide) (by decide) (g := (mkF m 37 #[lR r0, lR b5, lR b11, lV vI2, lV vI2, lR r7] [vI2, (.ref r0)])) rfl (by rw [hml]; rfl) (argsL := [vI2]) (rest := []) (lenOf pd__I_Ljava_lang_Object_ rfl) rfl (own_W rfl) (hb hby d29_37)
  obtain ⟨rfl, N89q, E89⟩ := hQ89
  have N89 := Fr.app N87 N89q
  have f91 := ((((f90.ext E5).ext E11).wr W27).wr W83)
  obtain ⟨T92, X92, e92, st92⟩ := castY X89 hx hZ hown (w 223 rfl) E89 (Ins.self f91) (g := (mkF m 42 #[lR r0, lR b5, lR b11, lV vI2, lV vI2, lR r7] [(.ref r5)])) rfl rfl (hb hby d29_42)
  have n95 := Nat.ne_of_lt (Nat.lt_of_lt_of_le (Nat.lt_of_lt_of_le l94 zs29) (Nat.le_of_eq g11.symm))
  have f96 := ((((f93.ext E5).ext E11).other W27 (Or.inl n95)).other W83 (Or.inl n95))
  obtain ⟨_, T97, Lc97, X97, hQ97, st97⟩ := own_cV X92 hx hZ hown e92 (rm32_1 l Z a0 hw [] r5 r15 h83 n0 o86 f96) f91 (w 225 rfl) (w 226 rfl) (w 228 rfl) (w 227 rfl) (w 229 rfl) (w 28 rfl) (by decide) (W := 0) (by decide) (by decide) (by decide) (by decide) (g := (mkF m 45 #[lR r0, lR b5, lR b11, lV vI2, lV vI2, lR r7] [(.ref r5)])) rfl (by rw [hml]; rfl) (argsL := []) (rest := []) (lenOf pd___Ljava_lang_String_ rfl) rfl (own_W rfl) (hb hby d29_45)
  obtain ⟨rfl, N97q, E97⟩ := hQ97
  have N97 := Fr.app N89 N97q
  obtain ⟨clq98, Arq98, qq98, Sq98, Nq98, Hq98, Gq98⟩ := id V83
  obtain ⟨_, T99, Lc99, X99, hQ99, st99⟩ := own_cI (xi := mN33) X97 hx hZ hown E97 (rm47_2 l Z a0 hw [] r0 r1 c2 r3 r4 r5 h83 n0 o86 f84 f85) f88 (w 215 rfl) (w 216 rfl) (w 217 rfl) (w 314 rfl) (w 315 rfl) (w 316 rfl) (w 317 rfl) (w 312 rfl) (w 318 rfl) (w 295 rfl) (by decide) (W := 0) (by decide) (by decide) (by decide) (by decide) (g := (mkF m 60 #[lR r0, lR b5, lR b11, lV vI2, lV vI2, lR r15] [vI1, (.ref r0)])) rfl (by rw [hml]; rfl) (argsL := [vI1]) (rest := []) (lenOf pd__I_Ljava_lang_Object_ rfl) rfl (own_W rfl) (hb hby d29_60)
  obtain ⟨rfl, N99q, E99⟩ := hQ99
  have N99 := Fr.app N97 N99q
  have f100 := (f40.wr W83)
  obtain ⟨T101, X101, e101, st101⟩ := castY X99 hx hZ hown (w 223 rfl) E99 (Ins.self f100) (g := (mkF m 65 #[lR r0, lR b5, lR b11, lV vI2, lV vI2, lR r15] [(.ref r4)])) rfl rfl (hb hby d29_65)
  have f102 := (f45.other W83 (Or.inl n44))
  have f104 := ((((f103.ext E5).ext E11).wr W27).wr W83)
  have n107 := Nat.ne_of_lt (Nat.lt_of_lt_of_le (Nat.lt_of_lt_of_le l106 zs29) (Nat.le_of_eq g11.symm))
  have f108 := ((((f105.ext E5).ext E11).other W27 (Or.inl n107)).other W83 (Or.inl n107))
  have n111 := Nat.ne_of_lt (Nat.lt_of_lt_of_le (Nat.lt_of_lt_of_le l110 zs29) (Nat.le_of_eq g11.symm))
  have f112 := ((((f109.ext E5).ext E11).other W27 n111).other W83 n111)
  have f114 := ((((f113.ext E5).ext E11).other W27 (Or.inl n107)).other W83 (Or.inl n107))
  have f115 := (f55.wr W83)
  have f116 := (f59.other W83 (Or.inl n58))
  have f117 := (f63.other W83 n62)
  have f118 := (f67.other W83 (Or.inl n58))
  obtain ⟨_, T120, Lc120, X120, hQ120, st120⟩ := own_cV X101 hx hZ hown e101 (rm48_2 l Z a0 hw [] r4 r15 r7 r16 c17 x18 x11 r8 c9 x10 h83 n0 o86 f102 f104 f108 f112 f64 hc65 f114 f115 f116 f117 f118 hc119) f100 (w 319 rfl) (w 320 rfl) (w 322 rfl) (w 321 rfl) (w 323 rfl) (w 28 rfl) (by decide) (W := 0) (by decide) (by decide) (by decide) (by decide) (g := (mkF m 70 #[lR r0, lR b5, lR b11, lV vI2, lV vI2, lR r15] [(.ref r15), (.ref r4)])) rfl (by rw [hml]; rfl) (argsL := [(.ref r15)]) (rest := []) (lenOf pd__Ljava_lang_String__Z rfl) rfl (own_W rfl) (hb hby d29_70)
  obtain ⟨rfl, N120q, E120⟩ := hQ120
  have N120 := Fr.app N99 N120q
  obtain ⟨clq121, Arq121, qq121, Sq121, Nq121, Hq121, Gq121⟩ := id V83
  have n122 := Nat.ne_of_lt (Nat.lt_of_lt_of_le V5.lt (Nat.le_of_eq g11.symm))
  have f123 := (((V5.ext E11).other W27 n122).other W83 n122)
  obtain ⟨clq124, Arq124, qq124, Sq124, Nq124, Hq124, Gq124⟩ := id f123
  have zz125 : n0 ≤ h0.size := by rw [← O0.1]; exact O0.2.1
  have g126 := Nat.le_trans zz125 (Nat.le_of_eq g5.symm)
  obtain ⟨T127, h127, X127, e127, W127, st127⟩ := stI X120 hx hZ E120 Arq124 (j := (1 : Int32)) (inb_of Sq124 ⟨(by decide : ¬ ((1 : Int32) < (0 : Int32))), (by decide : (1 : Int32) < (3 : Int32))⟩) (g := (mkF m 85 #[lR r0, lR b5, lR b11, lV vI1, lV vI2, lR r15] [vI2, vI1, (.ref b5)])) rfl rfl (hb hby d29_85)
  have V127 : Arv Z h127 b5 k5 .int (3 : Int32) [vI0, vI2, vI0] vI0 := Arv.set Arq124 qq124 Sq124 Nq124 Hq124 Gq124 rfl W127 1 rfl (Nat.le_of_ble_eq_true rfl)
  have N127 := Fr.snoc X127 N120 g126
  have f128 := (V83.other W127 (Ne.symm n122))
  obtain ⟨clq129, Arq129, qq129, Sq129, Nq129, Hq129, Gq129⟩ := id f128
  have n130 := Nat.ne_of_lt (Nat.lt_of_lt_of_le l28 (Nat.le_of_eq g5.symm))
  have f131 := (f84.other W127 (Or.inl n130))
  have n132 := Nat.ne_of_lt (Nat.lt_of_lt_of_le l32 (Nat.le_of_eq g5.symm))
  have f133 := (f85.other W127 n132)
  have o134 := Old.wr o86 W127 g126
  have f136 := (f88.wr W127)
  obtain ⟨_, T135, Lc135, X135, hQ135, st135⟩ := own_cI (xi := mN33) X127 hx hZ hown e127 (rm47_1 l Z a0 hw [] r0 r1 c2 r3 r4 r5 h127 n0 o134 f131 f133) f136 (w 215 rfl) (w 216 rfl) (w 217 rfl) (w 314 rfl) (w 315 rfl) (w 316 rfl) (w 317 rfl) (w 312 rfl) (w 318 rfl) (w 295 rfl) (by decide) (W := 0) (by decide) (by decide) (by decide) (by decide) (g := (mkF m 60 #[lR r0, lR b5, lR b11, lV vI1, lV vI2, lR r15] [vI0, (.ref r0)])) rfl (by rw [hml]; rfl) (argsL := [vI0]) (rest := []) (lenOf pd__I_Ljava_lang_Object_ rfl) rfl (own_W rfl) (hb hby d29_60)
  obtain ⟨rfl, N135q, E135⟩ := hQ135
  have N135 := Fr.app N127 N135q
  have f137 := ((f49.wr W83).wr W127)
  obtain ⟨T138, X138, e138, st138⟩ := castY X135 hx hZ hown (w 223 rfl) E135 (Ins.self f137) (g := (mkF m 65 #[lR r0, lR b5, lR b11, lV vI1, lV vI2, lR r15] [(.ref r3)])) rfl rfl (hb hby d29_65)
  have n139 := Nat.ne_of_lt (Nat.lt_of_lt_of_le l51 (Nat.le_of_eq g5.symm))
  have f140 := ((f53.other W83 (Or.inl n52)).other W127 (Or.inl n139))
  have f141 := (f104.wr W127)
  have n142 := Nat.ne_of_lt (Nat.lt_of_lt_of_le l106 (Nat.le_of_eq g5.symm))
  have f143 := (f108.other W127 (Or.inl n142))
  have n144 := Nat.ne_of_lt (Nat.lt_of_lt_of_le l110 (Nat.le_of_eq g5.symm))
  have f145 := (f112.other W127 n144)
  have f146 := (f114.other W127 (Or.inl n142))
  have f147 := ((f69.wr W83).wr W127)
  have n148 := Nat.ne_of_lt (Nat.lt_of_lt_of_le l71 (Nat.le_of_eq g5.symm))
  have f149 := ((f73.other W83 (Or.inl n72)).other W127 (Or.inl n148))
  have n150 := Nat.ne_of_lt (Nat.lt_of_lt_of_le l75 (Nat.le_of_eq g5.symm))
  have f151 := ((f77.other W83 n76).other W127 n150)
  have f152 := ((f79.other W83 (Or.inl n72)).other W127 (Or.inl n148))
  obtain ⟨_, T154, Lc154, X154, hQ154, st154⟩ := own_cV X138 hx hZ hown e138 (rm48_2 l Z a0 hw [] r3 r15 r6 r16 c17 x18 x11 r12 c13 x14 h127 n0 o134 f140 f141 f143 f145 f64 hc65 f146 f147 f149 f151 f152 hc153) f137 (w 319 rfl) (w 320 rfl) (w 322 rfl) (w 321 rfl) (w 323 rfl) (w 28 rfl) (by decide) (W := 0) (by decide) (by decide) (by decide) (by decide) (g := (mkF m 70 #[lR r0, lR b5, lR b11, lV vI1, lV vI2, lR r15] [(.ref r15), (.ref r3)])) rfl (by rw [hml]; rfl) (argsL := [(.ref r15)]) (rest := []) (lenOf pd__Ljava_lang_String__Z rfl) rfl (own_W rfl) (hb hby d29_70)
  obtain ⟨rfl, N154q, E154⟩ := hQ154
  have N154 := Fr.app N135 N154q
  obtain ⟨clq155, Arq155, qq155, Sq155, Nq155, Hq155, Gq155⟩ := id f128
  obtain ⟨clq156, Arq156, qq156, Sq156, Nq156, Hq156, Gq156⟩ := id V127
  obtain ⟨T157, h157, X157, e157, W157, st157⟩ := stI X154 hx hZ E154 Arq156 (j := (0 : Int32)) (inb_of Sq156 ⟨(by decide : ¬ ((0 : Int32) < (0 : Int32))), (by decide : (0 : Int32) < (3 : Int32))⟩) (g := (mkF m 85 #[lR r0, lR b5, lR b11, lV vI0, lV vI2, lR r15] [vI2, vI0, (.ref b5)])) rfl rfl (hb hby d29_85)
  have V157 : Arv Z h157 b5 k5 .int (3 : Int32) [vI2, vI2, vI0] vI0 := Arv.set Arq156 qq156 Sq156 Nq156 Hq156 Gq156 rfl W157 0 rfl (Nat.le_of_ble_eq_true rfl)
  have N157 := Fr.snoc X157 N154 g126
  have f158 := (f128.other W157 (Ne.symm n122))
  obtain ⟨clq159, Arq159, qq159, Sq159, Nq159, Hq159, Gq159⟩ := id f158
  obtain ⟨T160, h160, X160, e160, W160, st160⟩ := stI X157 hx hZ e157 Arq159 (j := (0 : Int32)) (inb_of Sq159 ⟨(by decide : ¬ ((0 : Int32) < (0 : Int32))), (by decide : (0 : Int32) < (3 : Int32))⟩) (g := (mkF m 93 #[lR r0, lR b5, lR b11, lV vI0, lV vI2, lR r15] [vI2, vI0, (.ref b11)])) rfl rfl (hb hby d29_93)
  have V160 : Arv Z h160 b11 k11 .int (3 : Int32) [vI2, vI1, vI0] vI0 := Arv.set Arq159 qq159 Sq159 Nq159 Hq159 Gq159 rfl W160 0 rfl (Nat.le_of_ble_eq_true rfl)
  have N160 := Fr.snoc X160 N157 g26
  have f161 := ((f131.other W157 (Or.inl n130)).other W160 (Or.inl n30))
  have f162 := ((f133.other W157 n132).other W160 n33)
  have o163 := Old.wr o134 W157 g126
  have o164 := Old.wr o163 W160 g26
  have f166 := ((f136.wr W157).wr W160)
  obtain ⟨_, T165, Lc165, X165, hQ165, st165⟩ := own_cI (xi := mN32) X160 hx hZ hown e160 (rm46_1 l Z a0 hw [] r0 r1 c2 r3 r4 r5 h160 n0 o164 f161 f162) f166 (w 205 rfl) (w 206 rfl) (w 207 rfl) (w 308 rfl) (w 309 rfl) (w 310 rfl) (w 311 rfl) (w 312 rfl) (w 313 rfl) (w 295 rfl) (by decide) (W := 1) (by decide) (by decide) (by decide) (by decide) (g := (mkF m 26 #[lR r0, lR b5, lR b11, lV vI1, lV vI3, lR r15] [(.ref r0), vI3])) rfl (by rw [hml]; rfl) (argsL := []) (rest := [vI3]) (lenOf pd___I rfl) rfl (own_W rfl) (hb hby d29_26)
  obtain ⟨rfl, N165q, E165⟩ := hQ165
  have N165 := Fr.app N160 N165q
  obtain ⟨clq167, Arq167, qq167, Sq167, Nq167, Hq167, Gq167⟩ := id V160
  obtain ⟨_, T168, Lc168, X168, hQ168, st168⟩ := own_cI (xi := mN32) X165 hx hZ hown E165 (rm46_1 l Z a0 hw [] r0 r1 c2 r3 r4 r5 h160 n0 o164 f161 f162) f166 (w 205 rfl) (w 206 rfl) (w 207 rfl) (w 308 rfl) (w 309 rfl) (w 310 rfl) (w 311 rfl) (w 312 rfl) (w 313 rfl) (w 295 rfl) (by decide) (W := 2) (by decide) (by decide) (by decide) (by decide) (g := (mkF m 115 #[lR r0, lR b5, lR b11, lV vI0, lV vI3, lR r15] [(.ref r0), vI2, (.ref b5)])) rfl (by rw [hml]; rfl) (argsL := []) (rest := [vI2, (.ref b5)]) (lenOf pd___I rfl) rfl (own_W rfl) (hb hby d29_115)
  obtain ⟨rfl, N168q, E168⟩ := hQ168
  have N168 := Fr.app N165 N168q
  have f169 := (V157.other W160 n122)
  obtain ⟨clq170, Arq170, qq170, Sq170, Nq170, Hq170, Gq170⟩ := id f169
  obtain ⟨T171, h171, X171, e171, W171, st171⟩ := stI X168 hx hZ E168 Arq170 (j := (2 : Int32)) (inb_of Sq170 ⟨(by decide : ¬ ((2 : Int32) < (0 : Int32))), (by decide : (2 : Int32) < (3 : Int32))⟩) (g := (mkF m 120 #[lR r0, lR b5, lR b11, lV vI0, lV vI3, lR r15] [vI3, vI2, (.ref b5)])) rfl rfl (hb hby d29_120)
  have V171 : Arv Z h171 b5 k5 .int (3 : Int32) [vI2, vI2, vI3] vI0 := Arv.set Arq170 qq170 Sq170 Nq170 Hq170 Gq170 rfl W171 2 rfl (Nat.le_of_ble_eq_true rfl)
  have N171 := Fr.snoc X171 N168 g126
  have f172 := (((((((B5.ext E11).wr W27).wr W83).wr W127).wr W157).wr W160).wr W171)
  have kp173 : Keep h0 h5 [] := (Keep.refl h0 []).ext E5
  have kp174 : Keep h0 h11 [] := kp173.ext E11
  have kp175 : Keep h0 h27 [] := kp174.wr W27 (Or.inr (Nat.le_trans zs29 (Nat.le_of_eq g11.symm)))
  have kp176 : Keep h0 h83 [] := kp175.wr W83 (Or.inr (Nat.le_trans zs29 (Nat.le_of_eq g11.symm)))
  have kp177 : Keep h0 h127 [] := kp176.wr W127 (Or.inr (Nat.le_of_eq g5.symm))
  have kp178 : Keep h0 h157 [] := kp177.wr W157 (Or.inr (Nat.le_of_eq g5.symm))
  have kp179 : Keep h0 h160 [] := kp178.wr W160 (Or.inr (Nat.le_trans zs29 (Nat.le_of_eq g11.symm)))
  have kp180 : Keep h0 h171 [] := kp179.wr W171 (Or.inr (Nat.le_of_eq g5.symm))
  refine ⟨some (.ref b5), _, _, _, _, nofun, X171, by decide, by decide, ?_, fun fs hr => ?_⟩
  · rw [e171]; exact ⟨b5, k5, rfl, N171, kp180, (Nat.le_of_eq g5.symm), V171, f172⟩
  · show SG p e below s₁ (mkF m 0 #[lR r0, lU, lU, lU, lU, lU] []) _
    refine qaN X0 hx hby d29_0 ?_
    refine st4 _ ?_
    refine st5 _ ?_
    refine XS.astoreN X5.here hx rfl (hb hby d29_8) rfl rfl (l' := #[lR r0, lR b5, lU, lU, lU, lU]) rfl ?_
    refine qaN X5 hx hby d29_9 ?_
    refine st9 _ ?_
    refine st11 _ ?_
    refine XS.astoreN X11.here hx rfl (hb hby d29_17) rfl rfl (l' := #[lR r0, lR b5, lR b11, lU, lU, lU]) rfl ?_
    refine qc X11 hx hby d29_18 ?_
    refine XS.istoreN X11.here hx rfl (hb hby d29_19) rfl (l' := #[lR r0, lR b5, lR b11, lV vI0, lU, lU]) rfl ?_
    show SG p e below T11 (mkF m 20 #[lR r0, lR b5, lR b11, lV vI0, lU, lU] []) _
    refine qc X11 hx hby d29_20 ?_
    refine XS.istore X11.here hx rfl (hb hby d29_21) rfl (l' := #[lR r0, lR b5, lR b11, lV vI0, lV vI0, lU]) rfl ?_
    refine qi X11 hx hby d29_23 ?_
    refine qaN X11 hx hby d29_25 ?_
    refine st15 _ ?_
    refine XS.icmpNo X15.here hx rfl (hb hby d29_31) rfl (tlt (by decide : (0 : Int32) < (3 : Int32))).2.1 ?_
    refine qaN X15 hx hby d29_34 ?_
    refine qi X15 hx hby d29_35 ?_
    refine st17 _ ?_
    refine st20 _ ?_
    show SG p e below T20 (mkF m 45 #[lR r0, lR b5, lR b11, lV vI0, lV vI0, lU] [(.ref r3)]) _
    refine st23 _ ?_
    refine XS.astore X23.here hx rfl (hb hby d29_48) rfl rfl (l' := #[lR r0, lR b5, lR b11, lV vI0, lV vI0, lR r6]) rfl ?_
    refine qiN X23 hx hby d29_50 ?_
    refine XS.ifYes X23.here hx rfl (pc0 := 51) (pc' := 89) rfl (hb hby d29_51) rfl ((if0 _ _).trans (flt (by decide : ¬ ((0 : Int32) < (0 : Int32)))).2.2.2) (by decide) (by decide) ?_
    refine qaN X23 hx hby d29_89 ?_
    refine qiN X23 hx hby d29_90 ?_
    refine qi X23 hx hby d29_91 ?_
    refine st27 _ ?_
    refine XS.iinc X27.here hx rfl (hb hby d29_94) rfl (l' := #[lR r0, lR b5, lR b11, lV vI1, lV vI0, lR r6]) rfl ?_
    refine XS.iinc X27.here hx rfl (hb hby d29_97) rfl (l' := #[lR r0, lR b5, lR b11, lV vI1, lV vI1, lR r6]) rfl ?_
    show SG p e below T27 (mkF m 100 #[lR r0, lR b5, lR b11, lV vI1, lV vI1, lR r6] []) _
    refine XS.goto X27.here hx rfl (pc0 := 100) (pc' := 23) rfl (hb hby d29_100) (by decide) (by decide) ?_
    refine qi X27 hx hby d29_23 ?_
    refine qaN X27 hx hby d29_25 ?_
    refine st36 _ ?_
    refine XS.icmpNo X36.here hx rfl (hb hby d29_31) rfl (tlt (by decide : (1 : Int32) < (3 : Int32))).2.1 ?_
    refine qaN X36 hx hby d29_34 ?_
    refine qi X36 hx hby d29_35 ?_
    refine st38 _ ?_
    refine st41 _ ?_
    refine st46 _ ?_
    show SG p e below T46 (mkF m 48 #[lR r0, lR b5, lR b11, lV vI1, lV vI1, lR r6] [(.ref r7)]) _
    refine XS.astore X46.here hx rfl (hb hby d29_48) rfl rfl (l' := #[lR r0, lR b5, lR b11, lV vI1, lV vI1, lR r7]) rfl ?_
    refine qiN X46 hx hby d29_50 ?_
    refine XS.ifNo X46.here hx rfl (hb hby d29_51) rfl ((if0 _ _).trans (tlt (by decide : (0 : Int32) < (1 : Int32))).2.2.2) ?_
    refine qaN X46 hx hby d29_54 ?_
    refine qaN X46 hx hby d29_55 ?_
    refine qiN X46 hx hby d29_56 ?_
    refine qc X46 hx hby d29_57 ?_
    refine XS.isub X46.here hx rfl (hb hby d29_58) rfl ?_
    refine X46.iaload hx (j := (0 : Int32)) (v := vI0) (by rw [E46]; exact Arq47.1) (State.isArrayOf_alike hZ.alike Arq47.2.1) Arq47.2.2 (inb_of Sq47 ⟨(by decide : ¬ ((0 : Int32) < (0 : Int32))), (by decide : (0 : Int32) < (3 : Int32))⟩) (Has.at Hq47 (inb_of Sq47 ⟨(by decide : ¬ ((0 : Int32) < (0 : Int32))), (by decide : (0 : Int32) < (3 : Int32))⟩) rfl) (g := (mkF m 59 #[lR r0, lR b5, lR b11, lV vI1, lV vI1, lR r7] [vI0, (.ref b11), (.ref r0)])) rfl rfl (hb hby d29_59) _ ?_
    refine st48 _ ?_
    show SG p e below T48 (mkF m 65 #[lR r0, lR b5, lR b11, lV vI1, lV vI1, lR r7] [(.ref r3)]) _
    refine st50 _ ?_
    refine qa X50 hx hby d29_68 ?_
    refine st81 _ ?_
    refine XS.ifYes X81.here hx rfl (pc0 := 73) (pc' := 89) rfl (hb hby d29_73) rfl ((if0 _ _).trans (feq (by decide : ¬ ((1 : Int32) = (0 : Int32)))).2) (by decide) (by decide) ?_
    refine qaN X81 hx hby d29_89 ?_
    refine qiN X81 hx hby d29_90 ?_
    refine qi X81 hx hby d29_91 ?_
    refine st83 _ ?_
    refine XS.iinc X83.here hx rfl (hb hby d29_94) rfl (l' := #[lR r0, lR b5, lR b11, lV vI2, lV vI1, lR r7]) rfl ?_
    refine XS.iinc X83.here hx rfl (hb hby d29_97) rfl (l' := #[lR r0, lR b5, lR b11, lV vI2, lV vI2, lR r7]) rfl ?_
    show SG p e below T83 (mkF m 100 #[lR r0, lR b5, lR b11, lV vI2, lV vI2, lR r7] []) _
    refine XS.goto X83.here hx rfl (pc0 := 100) (pc' := 23) rfl (hb hby d29_100) (by decide) (by decide) ?_
    refine qi X83 hx hby d29_23 ?_
    refine qaN X83 hx hby d29_25 ?_
    refine st87 _ ?_
    refine XS.icmpNo X87.here hx rfl (hb hby d29_31) rfl (tlt (by decide : (2 : Int32) < (3 : Int32))).2.1 ?_
    refine qaN X87 hx hby d29_34 ?_
    refine qi X87 hx hby d29_35 ?_
    refine st89 _ ?_
    refine st92 _ ?_
    refine st97 _ ?_
    show SG p e below T97 (mkF m 48 #[lR r0, lR b5, lR b11, lV vI2, lV vI2, lR r7] [(.ref r15)]) _
    refine XS.astore X97.here hx rfl (hb hby d29_48) rfl rfl (l' := #[lR r0, lR b5, lR b11, lV vI2, lV vI2, lR r15]) rfl ?_
    refine qiN X97 hx hby d29_50 ?_
    refine XS.ifNo X97.here hx rfl (hb hby d29_51) rfl ((if0 _ _).trans (tlt (by decide : (0 : Int32) < (2 : Int32))).2.2.2) ?_
    refine qaN X97 hx hby d29_54 ?_
    refine qaN X97 hx hby d29_55 ?_
    refine qiN X97 hx hby d29_56 ?_
    refine qc X97 hx hby d29_57 ?_
    refine XS.isub X97.here hx rfl (hb hby d29_58) rfl ?_
    refine X97.iaload hx (j := (1 : Int32)) (v := vI1) (by rw [E97]; exact Arq98.1) (State.isArrayOf_alike hZ.alike Arq98.2.1) Arq98.2.2 (inb_of Sq98 ⟨(by decide : ¬ ((1 : Int32) < (0 : Int32))), (by decide : (1 : Int32) < (3 : Int32))⟩) (Has.at Hq98 (inb_of Sq98 ⟨(by decide : ¬ ((1 : Int32) < (0 : Int32))), (by decide : (1 : Int32) < (3 : Int32))⟩) rfl) (g := (mkF m 59 #[lR r0, lR b5, lR b11, lV vI2, lV vI2, lR r15] [vI1, (.ref b11), (.ref r0)])) rfl rfl (hb hby d29_59) _ ?_
    refine st99 _ ?_
    show SG p e below T99 (mkF m 65 #[lR r0, lR b5, lR b11, lV vI2, lV vI2, lR r15] [(.ref r4)]) _
    refine st101 _ ?_
    refine qa X101 hx hby d29_68 ?_
    refine st120 _ ?_
    refine XS.ifNo X120.here hx rfl (hb hby d29_73) rfl ((if0 _ _).trans (teq (rfl : (0 : Int32) = (0 : Int32))).2) ?_
    refine XS.iinc X120.here hx rfl (hb hby d29_76) rfl (l' := #[lR r0, lR b5, lR b11, lV vI1, lV vI2, lR r15]) rfl ?_
    refine qaN X120 hx hby d29_79 ?_
    refine qaN X120 hx hby d29_80 ?_
    refine qiN X120 hx hby d29_81 ?_
    refine X120.iaload hx (j := (1 : Int32)) (v := vI1) (by rw [E120]; exact Arq121.1) (State.isArrayOf_alike hZ.alike Arq121.2.1) Arq121.2.2 (inb_of Sq121 ⟨(by decide : ¬ ((1 : Int32) < (0 : Int32))), (by decide : (1 : Int32) < (3 : Int32))⟩) (Has.at Hq121 (inb_of Sq121 ⟨(by decide : ¬ ((1 : Int32) < (0 : Int32))), (by decide : (1 : Int32) < (3 : Int32))⟩) rfl) (g := (mkF m 82 #[lR r0, lR b5, lR b11, lV vI1, lV vI2, lR r15] [vI1, (.ref b11), (.ref b5)])) rfl rfl (hb hby d29_82) _ ?_
    refine qi X120 hx hby d29_83 ?_
    show SG p e below T120 (mkF m 85 #[lR r0, lR b5, lR b11, lV vI1, lV vI2, lR r15] [vI2, vI1, (.ref b5)]) _
    refine st127 _ ?_
    refine XS.goto X127.here hx rfl (pc0 := 86) (pc' := 50) rfl (hb hby d29_86) (by decide) (by decide) ?_
    refine qiN X127 hx hby d29_50 ?_
    refine XS.ifNo X127.here hx rfl (hb hby d29_51) rfl ((if0 _ _).trans (tlt (by decide : (0 : Int32) < (1 : Int32))).2.2.2) ?_
    refine qaN X127 hx hby d29_54 ?_
    refine qaN X127 hx hby d29_55 ?_
    refine qiN X127 hx hby d29_56 ?_
    refine qc X127 hx hby d29_57 ?_
    refine XS.isub X127.here hx rfl (hb hby d29_58) rfl ?_
    refine X127.iaload hx (j := (0 : Int32)) (v := vI0) (by rw [e127]; exact Arq129.1) (State.isArrayOf_alike hZ.alike Arq129.2.1) Arq129.2.2 (inb_of Sq129 ⟨(by decide : ¬ ((0 : Int32) < (0 : Int32))), (by decide : (0 : Int32) < (3 : Int32))⟩) (Has.at Hq129 (inb_of Sq129 ⟨(by decide : ¬ ((0 : Int32) < (0 : Int32))), (by decide : (0 : Int32) < (3 : Int32))⟩) rfl) (g := (mkF m 59 #[lR r0, lR b5, lR b11, lV vI1, lV vI2, lR r15] [vI0, (.ref b11), (.ref r0)])) rfl rfl (hb hby d29_59) _ ?_
    show SG p e below T127 (mkF m 60 #[lR r0, lR b5, lR b11, lV vI1, lV vI2, lR r15] [vI0, (.ref r0)]) _
    refine st135 _ ?_
    refine st138 _ ?_
    refine qa X138 hx hby d29_68 ?_
    refine st154 _ ?_
    refine XS.ifNo X154.here hx rfl (hb hby d29_73) rfl ((if0 _ _).trans (teq (rfl : (0 : Int32) = (0 : Int32))).2) ?_
    refine XS.iinc X154.here hx rfl (hb hby d29_76) rfl (l' := #[lR r0, lR b5, lR b11, lV vI0, lV vI2, lR r15]) rfl ?_
    refine qaN X154 hx hby d29_79 ?_
    refine qaN X154 hx hby d29_80 ?_
    refine qiN X154 hx hby d29_81 ?_
    refine X154.iaload hx (j := (0 : Int32)) (v := vI0) (by rw [E154]; exact Arq155.1) (State.isArrayOf_alike hZ.alike Arq155.2.1) Arq155.2.2 (inb_of Sq155 ⟨(by decide : ¬ ((0 : Int32) < (0 : Int32))), (by decide : (0 : Int32) < (3 : Int32))⟩) (Has.at Hq155 (inb_of Sq155 ⟨(by decide : ¬ ((0 : Int32) < (0 : Int32))), (by decide : (0 : Int32) < (3 : Int32))⟩) rfl) (g := (mkF m 82 #[lR r0, lR b5, lR b11, lV vI0, lV vI2, lR r15] [vI0, (.ref b11), (.ref b5)])) rfl rfl (hb hby d29_82) _ ?_
    show SG p e below T154 (mkF m 83 #[lR r0, lR b5, lR b11, lV vI0, lV vI2, lR r15] [vI0, (.ref b5)]) _
    refine qi X154 hx hby d29_83 ?_
    refine st157 _ ?_
    refine XS.goto X157.here hx rfl (pc0 := 86) (pc' := 50) rfl (hb hby d29_86) (by decide) (by decide) ?_
    refine qiN X157 hx hby d29_50 ?_
    refine XS.ifYes X157.here hx rfl (pc0 := 51) (pc' := 89) rfl (hb hby d29_51) rfl ((if0 _ _).trans (flt (by decide : ¬ ((0 : Int32) < (0 : Int32)))).2.2.2) (by decide) (by decide) ?_
    refine qaN X157 hx hby d29_89 ?_
    refine qiN X157 hx hby d29_90 ?_
    refine qi X157 hx hby d29_91 ?_
    refine st160 _ ?_
    refine XS.iinc X160.here hx rfl (hb hby d29_94) rfl (l' := #[lR r0, lR b5, lR b11, lV vI1, lV vI2, lR r15]) rfl ?_
    show SG p e below T160 (mkF m 97 #[lR r0, lR b5, lR b11, lV vI1, lV vI2, lR r15] []) _
    refine XS.iinc X160.here hx rfl (hb hby d29_97) rfl (l' := #[lR r0, lR b5, lR b11, lV vI1, lV vI3, lR r15]) rfl ?_
    refine XS.goto X160.here hx rfl (pc0 := 100) (pc' := 23) rfl (hb hby d29_100) (by decide) (by decide) ?_
    refine qi X160 hx hby d29_23 ?_
    refine qaN X160 hx hby d29_25 ?_
    refine st165 _ ?_
    refine XS.icmpYes X165.here hx rfl (pc0 := 31) (pc' := 103) rfl (hb hby d29_31) rfl (flt (by decide : ¬ ((3 : Int32) < (3 : Int32)))).2.1 (by decide) (by decide) ?_
    refine qiN X165 hx hby d29_103 ?_
    refine XS.ifNo X165.here hx rfl (hb hby d29_104) rfl ((if0 _ _).trans (tlt (by decide : (0 : Int32) < (1 : Int32))).2.2.2) ?_
    refine XS.iinc X165.here hx rfl (hb hby d29_107) rfl (l' := #[lR r0, lR b5, lR b11, lV vI0, lV vI3, lR r15]) rfl ?_
    refine qaN X165 hx hby d29_110 ?_
    show SG p e below T165 (mkF m 111 #[lR r0, lR b5, lR b11, lV vI0, lV vI3, lR r15] [(.ref b5)]) _
    refine qaN X165 hx hby d29_111 ?_
    refine qiN X165 hx hby d29_112 ?_
    refine X165.iaload hx (j := (0 : Int32)) (v := vI2) (by rw [E165]; exact Arq167.1) (State.isArrayOf_alike hZ.alike Arq167.2.1) Arq167.2.2 (inb_of Sq167 ⟨(by decide : ¬ ((0 : Int32) < (0 : Int32))), (by decide : (0 : Int32) < (3 : Int32))⟩) (Has.at Hq167 (inb_of Sq167 ⟨(by decide : ¬ ((0 : Int32) < (0 : Int32))), (by decide : (0 : Int32) < (3 : Int32))⟩) rfl) (g := (mkF m 113 #[lR r0, lR b5, lR b11, lV vI0, lV vI3, lR r15] [vI0, (.ref b11), (.ref b5)])) rfl rfl (hb hby d29_113) _ ?_
    refine qaN X165 hx hby d29_114 ?_
    refine st168 _ ?_
    refine st171 _ ?_
    refine XS.goto X171.here hx rfl (pc0 := 121) (pc' := 103) rfl (hb hby d29_121) (by decide) (by decide) ?_
    refine qiN X171 hx hby d29_103 ?_
    refine XS.ifYes X171.here hx rfl (pc0 := 104) (pc' := 124) rfl (hb hby d29_104) rfl ((if0 _ _).trans (flt (by decide : ¬ ((0 : Int32) < (0 : Int32)))).2.2.2) (by decide) (by decide) ?_
    refine qaN X171 hx hby d29_124 ?_
    show SG p e below T171 (mkF m 125 #[lR r0, lR b5, lR b11, lV vI0, lV vI3, lR r15] [(.ref b5)]) _
    exact retOut X171 hx (i := .areturn) hret rfl (Or.inr (Or.inr (Or.inr (Or.inr ⟨rfl, rfl, rfl⟩)))) (hb hby d29_125) hr
def Q29_8 (Z : State)  (h0 : Heap) (n0 : Nat) (v : Option Value) (h : Heap) (L : List Loc) : Prop := ∃ (b5 : Addr) (k5 : ClassId), v = some (.ref b5) ∧ Fr n0 L ∧ Keep h0 h [] ∧ h0.size ≤ b5 ∧ Arv Z h b5 k5 .int (3 : Int32) [vI1, vI3, vI3] vI0 ∧ Exa Z h b5 "[I"
theorem rm29_8 (l : Launch) (Z : State) (a0 : Array Value) (hw : own_HW a0 Z) (ws : List Jvm.Cond) (r0 r1 : Addr) (c2 : ClassId) (r3 r4 : Addr) (r5 r6 : Addr) (r7 r8 : Addr) (c9 : ClassId) (x10 x11 : Int32) (r12 : Addr) (c13 : ClassId) (x14 : Int32) (r15 r16 : Addr) (c17 : ClassId) (x18 : Int32) (h0 : Heap) (n0 : Nat) (O0 : Old Z n0 h0) (f1 : Exa Z h0 r0 cs14) (f2 : Fld Z h0 r0 cs14 "elements" "[Ljava/lang/Object;" (.ref r1)) (f3 : Arv Z h0 r1 c2 (.object "java/lang/Object") (3 : Int32) [(.ref r3), (.ref r4), (.ref r5)] .null) (f18 : Exa Z h0 r3 cs0) (f21 : Fld Z h0 r3 cs0 "path" "Ljava/lang/String;" (.ref r6)) (l28 : r0 < h0.size) (l32 : r1 < h0.size) (f39 : Exa Z h0 r4 cs0) (f42 : Fld Z h0 r4 cs0 "path" "Ljava/lang/String;" (.ref r7)) (l43 : r4 < h0.size) (l51 : r3 < h0.size) (f54 : Exa Z h0 r7 "java/lang/String") (f56 : Fld Z h0 r7 "java/lang/String" "value" "[B" (.ref r8)) (l57 : r7 < h0.size) (f60 : Arv Z h0 r8 c9 .byte (1 : Int32) [(.int x10)] vI0) (l61 : r8 < h0.size) (f64 : Sta Z Z.heap "java/lang/String" "COMPACT_STRINGS" "Z" (.int x11)) (hc65 : ¬ (x11 = (0 : Int32))) (f66 : Fld Z h0 r7 "java/lang/String" "coder" "B" vI0) (f68 : Exa Z h0 r6 "java/lang/String") (f70 : Fld Z h0 r6 "java/lang/String" "value" "[B" (.ref r12)) (l71 : r6 < h0.size) (f74 : Arv Z h0 r12 c13 .byte (1 : Int32) [(.int x14)] vI0) (l75 : r12 < h0.size) (f78 : Fld Z h0 r6 "java/lang/String" "coder" "B" vI0) (hc80 : ¬ (x10 = x14)) (f101 : Exa Z h0 r5 cs0) (f104 : Fld Z h0 r5 cs0 "path" "Ljava/lang/String;" (.ref r15)) (l105 : r5 < h0.size) (f116 : Exa Z h0 r15 "java/lang/String") (f118 : Fld Z h0 r15 "java/lang/String" "value" "[B" (.ref r16)) (l119 : r15 < h0.size) (f123 : Arv Z h0 r16 c17 .byte (1 : Int32) [(.int x18)] vI0) (l124 : r16 < h0.size) (f128 : Fld Z h0 r15 "java/lang/String" "coder" "B" vI0) (hc136 : x18 = x10) :
    own_MF l mN31 prog_2_method_12_code 6 (some (.array .int)) ws rR5_2_6_72 Z h0 #[(.ref r0)] (Q29_8 Z  h0 n0) := by
  refine own_open (plainFor_of_name pn_com_example_nearmiss_nearmiss_Document) (L0 := #[lR r0, lU, lU, lU, lU, lU]) (fun _ => by first | (simp [entryFrame, mkF, argsToLocals, Value.category]; done) | rfl) ?_
  intro p e s m below meth c s₁ hx hby hml hret hnn hZ hown X0 e0
  have N0 := Fr.nil n0; have w := @ww Z a0 hw
  obtain ⟨_, T4, Lc4, X4, hQ4, st4⟩ := own_cI (xi := mN32) X0 hx hZ hown e0 (rm46_1 l Z a0 hw [] r0 r1 c2 r3 r4 r5 h0 n0 O0 f2 f3) f1 (w 205 rfl) (w 206 rfl) (w 207 rfl) (w 308 rfl) (w 309 rfl) (w 310 rfl) (w 311 rfl) (w 312 rfl) (w 313 rfl) (w 295 rfl) (by decide) (W := 0) (by decide) (by decide) (by decide) (by decide) (g := (mkF m 1 #[lR r0, lU, lU, lU, lU, lU] [(.ref r0)])) rfl (by rw [hml]; rfl) (argsL := []) (rest := []) (lenOf pd___I rfl) rfl (own_W rfl) (hb hby d29_1)
  obtain ⟨rfl, N4q, E4⟩ := hQ4
  have N4 := Fr.app N0 N4q
  obtain ⟨T5, h5, k5, X5, e5, E5, A5, B5, st5⟩ := newPE X4 hx hZ (w 214 rfl) E4 (g := (mkF m 6 #[lR r0, lU, lU, lU, lU, lU] [vI3])) rfl (hb hby d29_6) rfl (by decide) (cap := 3) (by decide) (by decide) (by decide) (by decide) (ad := "[I") rfl
  obtain ⟨b5, g5⟩ : ∃ z, z = h0.size := ⟨_, rfl⟩
  rw [← g5] at A5 B5 st5
  have V5 : Arv Z h5 b5 k5 .int (3 : Int32) [vI0, vI0, vI0] vI0 := (Arv.new A5 (by decide)).pad (pad_rep [] vI0 3)
  have f6 := (f2.ext E5)
  have f7 := (f3.ext E5)
  have o8 := Old.ext O0 E5
  have f10 := (f1.ext E5)
  obtain ⟨_, T9, Lc9, X9, hQ9, st9⟩ := own_cI (xi := mN32) X5 hx hZ hown e5 (rm46_1 l Z a0 hw [] r0 r1 c2 r3 r4 r5 h5 n0 o8 f6 f7) f10 (w 205 rfl) (w 206 rfl) (w 207 rfl) (w 308 rfl) (w 309 rfl) (w 310 rfl) (w 311 rfl) (w 312 rfl) (w 313 rfl) (w 295 rfl) (by decide) (W := 0) (by decide) (by decide) (by decide) (by decide) (g := (mkF m 10 #[lR r0, lR b5, lU, lU, lU, lU] [(.ref r0)])) rfl (by rw [hml]; rfl) (argsL := []) (rest := []) (lenOf pd___I rfl) rfl (own_W rfl) (hb hby d29_10)
  obtain ⟨rfl, N9q, E9⟩ := hQ9
  have N9 := Fr.app N4 N9q
  obtain ⟨T11, h11, k11, X11, e11, E11, A11, B11, st11⟩ := newPE X9 hx hZ (w 214 rfl) E9 (g := (mkF m 15 #[lR r0, lR b5, lU, lU, lU, lU] [vI3])) rfl (hb hby d29_15) rfl (by decide) (cap := 3) (by decide) (by decide) (by decide) (by decide) (ad := "[I") rfl
  obtain ⟨b11, g11⟩ : ∃ z, z = h5.size := ⟨_, rfl⟩
  rw [← g11] at A11 B11 st11
  have V11 : Arv Z h11 b11 k11 .int (3 : Int32) [vI0, vI0, vI0] vI0 := (Arv.new A11 (by decide)).pad (pad_rep [] vI0 3)
  have f12 := (f6.ext E11)
  have f13 := (f7.ext E11)
  have o14 := Old.ext o8 E11
  have f16 := (f10.ext E11)
  obtain ⟨_, T15, Lc15, X15, hQ15, st15⟩ := own_cI (xi := mN32) X11 hx hZ hown e11 (rm46_1 l Z a0 hw [] r0 r1 c2 r3 r4 r5 h11 n0 o14 f12 f13) f16 (w 205 rfl) (w 206 rfl) (w 207 rfl) (w 308 rfl) (w 309 rfl) (w 310 rfl) (w 311 rfl) (w 312 rfl) (w 313 rfl) (w 295 rfl) (by decide) (W := 1) (by decide) (by decide) (by decide) (by decide) (g := (mkF m 26 #[lR r0, lR b5, lR b11, lV vI0, lV vI0, lU] [(.ref r0), vI0])) rfl (by rw [hml]; rfl) (argsL := []) (rest := [vI0]) (lenOf pd___I rfl) rfl (own_W rfl) (hb hby d29_26)
  obtain ⟨rfl, N15q, E15⟩ := hQ15
  have N15 := Fr.app N9 N15q
  obtain ⟨_, T17, Lc17, X17, hQ17, st17⟩ := own_cI (xi := mN33) X15 hx hZ hown E15 (rm47_1 l Z a0 hw [] r0 r1 c2 r3 r4 r5 h11 n0 o14 f12 f13) f16 (w 215 rfl) (w 216 rfl) (w 217 rfl) (w 314 rfl) (w 315 rfl) (w 316 rfl) (w 317 rfl) (w 312 rfl) (w 318 rfl) (w 295 rfl) (by decide) (W := 0) (by decide) (by decide) (by decide) (by decide) (g := (mkF m 37 #[lR r0, lR b5, lR b11, lV vI0, lV vI0, lU] [vI0, (.ref r0)])) rfl (by rw [hml]; rfl) (argsL := [vI0]) (rest := []) (lenOf pd__I_Ljava_lang_Object_ rfl) rfl (own_W rfl) (hb hby d29_37)
  obtain ⟨rfl, N17q, E17⟩ := hQ17
  have N17 := Fr.app N15 N17q
  have f19 := ((f18.ext E5).ext E11)
  obtain ⟨T20, X20, e20, st20⟩ := castY X17 hx hZ hown (w 223 rfl) E17 (Ins.self f19) (g := (mkF m 42 #[lR r0, lR b5, lR b11, lV vI0, lV vI0, lU] [(.ref r3)])) rfl rfl (hb hby d29_42)
  have f22 := ((f21.ext E5).ext E11)
  obtain ⟨_, T23, Lc23, X23, hQ23, st23⟩ := own_cV X20 hx hZ hown e20 (rm32_1 l Z a0 hw [] r3 r6 h11 n0 o14 f22) f19 (w 225 rfl) (w 226 rfl) (w 228 rfl) (w 227 rfl) (w 229 rfl) (w 28 rfl) (by decide) (W := 0) (by decide) (by decide) (by decide) (by decide) (g := (mkF m 45 #[lR r0, lR b5, lR b11, lV vI0, lV vI0, lU] [(.ref r3)])) rfl (by rw [hml]; rfl) (argsL := []) (rest := []) (lenOf pd___Ljava_lang_String_ rfl) rfl (own_W rfl) (hb hby d29_45)
  obtain ⟨rfl, N23q, E23⟩ := hQ23
  have N23 := Fr.app N17 N23q
  obtain ⟨clq24, Arq24, qq24, Sq24, Nq24, Hq24, Gq24⟩ := id V11
  have zz25 : n0 ≤ h5.size := by rw [← o8.1]; exact o8.2.1
  have g26 := Nat.le_trans zz25 (Nat.le_of_eq g11.symm)
  obtain ⟨T27, h27, X27, e27, W27, st27⟩ := stI X23 hx hZ E23 Arq24 (j := (0 : Int32)) (inb_of Sq24 ⟨(by decide : ¬ ((0 : Int32) < (0 : Int32))), (by decide : (0 : Int32) < (3 : Int32))⟩) (g := (mkF m 93 #[lR r0, lR b5, lR b11, lV vI0, lV vI0, lR r6] [vI0, vI0, (.ref b11)])) rfl rfl (hb hby d29_93)
  have V27 : Arv Z h27 b11 k11 .int (3 : Int32) [vI0, vI0, vI0] vI0 := Arv.set Arq24 qq24 Sq24 Nq24 Hq24 Gq24 rfl W27 0 rfl (Nat.le_of_ble_eq_true rfl)
  have N27 := Fr.snoc X27 N23 g26
  have zs29 := E5.1
  have n30 := Nat.ne_of_lt (Nat.lt_of_lt_of_le (Nat.lt_of_lt_of_le l28 zs29) (Nat.le_of_eq g11.symm))
  have f31 := (f12.other W27 (Or.inl n30))
  have n33 := Nat.ne_of_lt (Nat.lt_of_lt_of_le (Nat.lt_of_lt_of_le l32 zs29) (Nat.le_of_eq g11.symm))
  have f34 := (f13.other W27 n33)
  have o35 := Old.wr o14 W27 g26
  have f37 := (f16.wr W27)
  obtain ⟨_, T36, Lc36, X36, hQ36, st36⟩ := own_cI (xi := mN32) X27 hx hZ hown e27 (rm46_1 l Z a0 hw [] r0 r1 c2 r3 r4 r5 h27 n0 o35 f31 f34) f37 (w 205 rfl) (w 206 rfl) (w 207 rfl) (w 308 rfl) (w 309 rfl) (w 310 rfl) (w 311 rfl) (w 312 rfl) (w 313 rfl) (w 295 rfl) (by decide) (W := 1) (by decide) (by decide) (by decide) (by decide) (g := (mkF m 26 #[lR r0, lR b5, lR b11, lV vI1, lV vI1, lR r6] [(.ref r0), vI1])) rfl (by rw [hml]; rfl) (argsL := []) (rest := [vI1]) (lenOf pd___I rfl) rfl (own_W rfl) (hb hby d29_26)
  obtain ⟨rfl, N36q, E36⟩ := hQ36
  have N36 := Fr.app N27 N36q
  obtain ⟨_, T38, Lc38, X38, hQ38, st38⟩ := own_cI (xi := mN33) X36 hx hZ hown E36 (rm47_2 l Z a0 hw [] r0 r1 c2 r3 r4 r5 h27 n0 o35 f31 f34) f37 (w 215 rfl) (w 216 rfl) (w 217 rfl) (w 314 rfl) (w 315 rfl) (w 316 rfl) (w 317 rfl) (w 312 rfl) (w 318 rfl) (w 295 rfl) (by decide) (W := 0) (by decide) (by decide) (by decide) (by decide) (g := (mkF m 37 #[lR r0, lR b5, lR b11, lV vI1, lV vI1, lR r6] [vI1, (.ref r0)])) rfl (by rw [hml]; rfl) (argsL := [vI1]) (rest := []) (lenOf pd__I_Ljava_lang_Object_ rfl) rfl (own_W rfl) (hb hby d29_37)
  obtain ⟨rfl, N38q, E38⟩ := hQ38
  have N38 := Fr.app N36 N38q
  have f40 := (((f39.ext E5).ext E11).wr W27)
  obtain ⟨T41, X41, e41, st41⟩ := castY X38 hx hZ hown (w 223 rfl) E38 (Ins.self f40) (g := (mkF m 42 #[lR r0, lR b5, lR b11, lV vI1, lV vI1, lR r6] [(.ref r4)])) rfl rfl (hb hby d29_42)
  have n44 := Nat.ne_of_lt (Nat.lt_of_lt_of_le (Nat.lt_of_lt_of_le l43 zs29) (Nat.le_of_eq g11.symm))
  have f45 := (((f42.ext E5).ext E11).other W27 (Or.inl n44))
  obtain ⟨_, T46, Lc46, X46, hQ46, st46⟩ := own_cV X41 hx hZ hown e41 (rm32_1 l Z a0 hw [] r4 r7 h27 n0 o35 f45) f40 (w 225 rfl) (w 226 rfl) (w 228 rfl) (w 227 rfl) (w 229 rfl) (w 28 rfl) (by decide) (W := 0) (by decide) (by decide) (by decide) (by decide) (g := (mkF m 45 #[lR r0, lR b5, lR b11, lV vI1, lV vI1, lR r6] [(.ref r4)])) rfl (by rw [hml]; rfl) (argsL := []) (rest := []) (lenOf pd___Ljava_lang_String_ rfl) rfl (own_W rfl) (hb hby d29_45)
  obtain ⟨rfl, N46q, E46⟩ := hQ46
  have N46 := Fr.app N38 N46q
  obtain ⟨clq47, Arq47, qq47, Sq47, Nq47, Hq47, Gq47⟩ := id V27
  obtain ⟨_, T48, Lc48, X48, hQ48, st48⟩ := own_cI (xi := mN33) X46 hx hZ hown E46 (rm47_1 l Z a0 hw [] r0 r1 c2 r3 r4 r5 h27 n0 o35 f31 f34) f37 (w 215 rfl) (w 216 rfl) (w 217 rfl) (w 314 rfl) (w 315 rfl) (w 316 rfl) (w 317 rfl) (w 312 rfl) (w 318 rfl) (w 295 rfl) (by decide) (W := 0) (by decide) (by decide) (by decide) (by decide) (g := (mkF m 60 #[lR r0, lR b5, lR b11, lV vI1, lV vI1, lR r7] [vI0, (.ref r0)])) rfl (by rw [hml]; rfl) (argsL := [vI0]) (rest := []) (lenOf pd__I_Ljava_lang_Object_ rfl) rfl (own_W rfl) (hb hby d29_60)
  obtain ⟨rfl, N48q, E48⟩ := hQ48
  have N48 := Fr.app N46 N48q
  have f49 := (f19.wr W27)
  obtain ⟨T50, X50, e50, st50⟩ := castY X48 hx hZ hown (w 223 rfl) E48 (Ins.self f49) (g := (mkF m 65 #[lR r0, lR b5, lR b11, lV vI1, lV vI1, lR r7] [(.ref r3)])) rfl rfl (hb hby d29_65)
  have n52 := Nat.ne_of_lt (Nat.lt_of_lt_of_le (Nat.lt_of_lt_of_le l51 zs29) (Nat.le_of_eq g11.symm))
  have f53 := (f22.other W27 (Or.inl n52))
  have f55 := (((f54.ext E5).ext E11).wr W27)
  have n58 := Nat.ne_of_lt (Nat.lt_of_lt_of_le (Nat.lt_of_lt_of_le l57 zs29) (Nat.le_of_eq g11.symm))
  have f59 := (((f56.ext E5).ext E11).other W27 (Or.inl n58))
  have n62 := Nat.ne_of_lt (Nat.lt_of_lt_of_le (Nat.lt_of_lt_of_le l61 zs29) (Nat.le_of_eq g11.symm))
  have f63 := (((f60.ext E5).ext E11).other W27 n62)
  have f67 := (((f66.ext E5).ext E11).other W27 (Or.inl n58))
  have f69 := (((f68.ext E5).ext E11).wr W27)
  have n72 := Nat.ne_of_lt (Nat.lt_of_lt_of_le (Nat.lt_of_lt_of_le l71 zs29) (Nat.le_of_eq g11.symm))
  have f73 := (((f70.ext E5).ext E11).other W27 (Or.inl n72))
  have n76 := Nat.ne_of_lt (Nat.lt_of_lt_of_le (Nat.lt_of_lt_of_le l75 zs29) (Nat.le_of_eq g11.symm))
  have f77 := (((f74.ext E5).ext E11).other W27 n76)
  have f79 := (((f78.ext E5).ext E11).other W27 (Or.inl n72))
  obtain ⟨_, T81, Lc81, X81, hQ81, st81⟩ := own_cV X50 hx hZ hown e50 (rm48_2 l Z a0 hw [] r3 r7 r6 r8 c9 x10 x11 r12 c13 x14 h27 n0 o35 f53 f55 f59 f63 f64 hc65 f67 f69 f73 f77 f79 hc80) f49 (w 319 rfl) (w 320 rfl) (w 322 rfl) (w 321 rfl) (w 323 rfl) (w 28 rfl) (by decide) (W := 0) (by decide) (by decide) (by decide) (by decide) (g := (mkF m 70 #[lR r0, lR b5, lR b11, lV vI1, lV vI1, lR r7] [(.ref r7), (.ref r3)])) rfl (by rw [hml]; rfl) (argsL := [(.ref r7)]) (rest := []) (lenOf pd__Ljava_lang_String__Z rfl) rfl (own_W rfl) (hb hby d29_70)
  obtain ⟨rfl, N81q, E81⟩ := hQ81
  have N81 := Fr.app N48 N81q
  obtain ⟨clq82, Arq82, qq82, Sq82, Nq82, Hq82, Gq82⟩ := id V27
  have n83 := Nat.ne_of_lt (Nat.lt_of_lt_of_le V5.lt (Nat.le_of_eq g11.symm))
  have f84 := ((V5.ext E11).other W27 n83)
  obtain ⟨clq85, Arq85, qq85, Sq85, Nq85, Hq85, Gq85⟩ := id f84
  have zz86 : n0 ≤ h0.size := by rw [← O0.1]; exact O0.2.1
  have g87 := Nat.le_trans zz86 (Nat.le_of_eq g5.symm)
  obtain ⟨T88, h88, X88, e88, W88, st88⟩ := stI X81 hx hZ E81 Arq85 (j := (0 : Int32)) (inb_of Sq85 ⟨(by decide : ¬ ((0 : Int32) < (0 : Int32))), (by decide : (0 : Int32) < (3 : Int32))⟩) (g := (mkF m 85 #[lR r0, lR b5, lR b11, lV vI0, lV vI1, lR r7] [vI1, vI0, (.ref b5)])) rfl rfl (hb hby d29_85)
  have V88 : Arv Z h88 b5 k5 .int (3 : Int32) [vI1, vI0, vI0] vI0 := Arv.set Arq85 qq85 Sq85 Nq85 Hq85 Gq85 rfl W88 0 rfl (Nat.le_of_ble_eq_true rfl)
  have N88 := Fr.snoc X88 N81 g87
  have f89 := (V27.other W88 (Ne.symm n83))
  obtain ⟨clq90, Arq90, qq90, Sq90, Nq90, Hq90, Gq90⟩ := id f89
  obtain ⟨T91, h91, X91, e91, W91, st91⟩ := stI X88 hx hZ e88 Arq90 (j := (0 : Int32)) (inb_of Sq90 ⟨(by decide : ¬ ((0 : Int32) < (0 : Int32))), (by decide : (0 : Int32) < (3 : Int32))⟩) (g := (mkF m 93 #[lR r0, lR b5, lR b11, lV vI0, lV vI1, lR r7] [vI1, vI0, (.ref b11)])) rfl rfl (hb hby d29_93)
  have V91 : Arv Z h91 b11 k11 .int (3 : Int32) [vI1, vI0, vI0] vI0 := Arv.set Arq90 qq90 Sq90 Nq90 Hq90 Gq90 rfl W91 0 rfl (Nat.le_of_ble_eq_true rfl)
  have N91 := Fr.snoc X91 N88 g26
  have n92 := Nat.ne_of_lt (Nat.lt_of_lt_of_le l28 (Nat.le_of_eq g5.symm))
  have f93 := ((f31.other W88 (Or.inl n92)).other W91 (Or.inl n30))
  have n94 := Nat.ne_of_lt (Nat.lt_of_lt_of_le l32 (Nat.le_of_eq g5.symm))
  have f95 := ((f34.other W88 n94).other W91 n33)
  have o96 := Old.wr o35 W88 g87
  have o97 := Old.wr o96 W91 g26
  have f99 := ((f37.wr W88).wr W91)
  obtain ⟨_, T98, Lc98, X98, hQ98, st98⟩ := own_cI (xi := mN32) X91 hx hZ hown e91 (rm46_1 l Z a0 hw [] r0 r1 c2 r3 r4 r5 h91 n0 o97 f93 f95) f99 (w 205 rfl) (w 206 rfl) (w 207 rfl) (w 308 rfl) (w 309 rfl) (w 310 rfl) (w 311 rfl) (w 312 rfl) (w 313 rfl) (w 295 rfl) (by decide) (W := 1) (by decide) (by decide) (by decide) (by decide) (g := (mkF m 26 #[lR r0, lR b5, lR b11, lV vI1, lV vI2, lR r7] [(.ref r0), vI2])) rfl (by rw [hml]; rfl) (argsL := []) (rest := [vI2]) (lenOf pd___I rfl) rfl (own_W rfl) (hb hby d29_26)
  obtain ⟨rfl, N98q, E98⟩ := hQ98
  have N98 := Fr.app N91 N98q
  obtain ⟨_, T100, Lc100, X100, hQ100, st100⟩ := own_cI (xi := mN33) X98 hx hZ hown E98 (rm47_3 l Z a0 hw [] r0 r1 c2 r3 r4 r5 h91 n0 o97 f93 f95) f99 (w 215 rfl) (w 216 rfl) (w 217 rfl) (w 314 rfl) (w 315 rfl) (w 316 rfl) (w 317 rfl) (w 312 rfl) (w 318 rfl) (w 295 rfl) (by decide) (W := 0) (by decide) (by decide) (by decide) (by decide) (g := (mkF m 37 #[lR r0, lR b5, lR b11, lV vI1, lV vI2, lR r7] [vI2, (.ref r0)])) rfl (by rw [hml]; rfl) (argsL := [vI2]) (rest := []) (lenOf pd__I_Ljava_lang_Object_ rfl) rfl (own_W rfl) (hb hby d29_37)
  obtain ⟨rfl, N100q, E100⟩ := hQ100
  have N100 := Fr.app N98 N100q
  have f102 := (((((f101.ext E5).ext E11).wr W27).wr W88).wr W91)
  obtain ⟨T103, X103, e103, st103⟩ := castY X100 hx hZ hown (w 223 rfl) E100 (Ins.self f102) (g := (mkF m 42 #[lR r0, lR b5, lR b11, lV vI1, lV vI2, lR r7] [(.ref r5)])) rfl rfl (hb hby d29_42)
  have n106 := Nat.ne_of_lt (Nat.lt_of_lt_of_le (Nat.lt_of_lt_of_le l105 zs29) (Nat.le_of_eq g11.symm))
  have n107 := Nat.ne_of_lt (Nat.lt_of_lt_of_le l105 (Nat.le_of_eq g5.symm))
  have f108 := (((((f104.ext E5).ext E11).other W27 (Or.inl n106)).other W88 (Or.inl n107)).other W91 (Or.inl n106))
  obtain ⟨_, T109, Lc109, X109, hQ109, st109⟩ := own_cV X103 hx hZ hown e103 (rm32_1 l Z a0 hw [] r5 r15 h91 n0 o97 f108) f102 (w 225 rfl) (w 226 rfl) (w 228 rfl) (w 227 rfl) (w 229 rfl) (w 28 rfl) (by decide) (W := 0) (by decide) (by decide) (by decide) (by decide) (g := (mkF m 45 #[lR r0, lR b5, lR b11, lV vI1, lV vI2, lR r7] [(.ref r5)])) rfl (by rw [hml]; rfl) (argsL := []) (rest := []) (lenOf pd___Ljava_lang_String_ rfl) rfl (own_W rfl) (hb hby d29_45)
  obtain ⟨rfl, N109q, E109⟩ := hQ109
  have N109 := Fr.app N100 N109q
  obtain ⟨clq110, Arq110, qq110, Sq110, Nq110, Hq110, Gq110⟩ := id V91
  obtain ⟨_, T111, Lc111, X111, hQ111, st111⟩ := own_cI (xi := mN33) X109 hx hZ hown E109 (rm47_2 l Z a0 hw [] r0 r1 c2 r3 r4 r5 h91 n0 o97 f93 f95) f99 (w 215 rfl) (w 216 rfl) (w 217 rfl) (w 314 rfl) (w 315 rfl) (w 316 rfl) (w 317 rfl) (w 312 rfl) (w 318 rfl) (w 295 rfl) (by decide) (W := 0) (by decide) (by decide) (by decide) (by decide) (g := (mkF m 60 #[lR r0, lR b5, lR b11, lV vI1, lV vI2, lR r15] [vI1, (.ref r0)])) rfl (by rw [hml]; rfl) (argsL := [vI1]) (rest := []) (lenOf pd__I_Ljava_lang_Object_ rfl) rfl (own_W rfl) (hb hby d29_60)
  obtain ⟨rfl, N111q, E111⟩ := hQ111
  have N111 := Fr.app N109 N111q
  have f112 := ((f40.wr W88).wr W91)
  obtain ⟨T113, X113, e113, st113⟩ := castY X111 hx hZ hown (w 223 rfl) E111 (Ins.self f112) (g := (mkF m 65 #[lR r0, lR b5, lR b11, lV vI1, lV vI2, lR r15] [(.ref r4)])) rfl rfl (hb hby d29_65)
  have n114 := Nat.ne_of_lt (Nat.lt_of_lt_of_le l43 (Nat.le_of_eq g5.symm))
  have f115 := ((f45.other W88 (Or.inl n114)).other W91 (Or.inl n44))
  have f117 := (((((f116.ext E5).ext E11).wr W27).wr W88).wr W91)
  have n120 := Nat.ne_of_lt (Nat.lt_of_lt_of_le (Nat.lt_of_lt_of_le l119 zs29) (Nat.le_of_eq g11.symm))
  have n121 := Nat.ne_of_lt (Nat.lt_of_lt_of_le l119 (Nat.le_of_eq g5.symm))
  have f122 := (((((f118.ext E5).ext E11).other W27 (Or.inl n120)).other W88 (Or.inl n121)).other W91 (Or.inl n120))
  have n125 := Nat.ne_of_lt (Nat.lt_of_lt_of_le (Nat.lt_of_lt_of_le l124 zs29) (Nat.le_of_eq g11.symm))
  have n126 := Nat.ne_of_lt (Nat.lt_of_lt_of_le l124 (Nat.le_of_eq g5.symm))
  have f127 := (((((f123.ext E5).ext E11).other W27 n125).other W88 n126).other W91 n125)
  have f129 := (((((f128.ext E5).ext E11).other W27 (Or.inl n120)).other W88 (Or.inl n121)).other W91 (Or.inl n120))
  have f130 := ((f55.wr W88).wr W91)
  have n131 := Nat.ne_of_lt (Nat.lt_of_lt_of_le l57 (Nat.le_of_eq g5.symm))
  have f132 := ((f59.other W88 (Or.inl n131)).other W91 (Or.inl n58))
  have n133 := Nat.ne_of_lt (Nat.lt_of_lt_of_le l61 (Nat.le_of_eq g5.symm))
  have f134 := ((f63.other W88 n133).other W91 n62)
  have f135 := ((f67.other W88 (Or.inl n131)).other W91 (Or.inl n58))
  obtain ⟨_, T137, Lc137, X137, hQ137, st137⟩ := own_cV X113 hx hZ hown e113 (rm48_1 l Z a0 hw [] r4 r15 r7 r16 c17 x18 x11 r8 c9 x10 h91 n0 o97 f115 f117 f122 f127 f64 hc65 f129 f130 f132 f134 f135 hc136) f112 (w 319 rfl) (w 320 rfl) (w 322 rfl) (w 321 rfl) (w 323 rfl) (w 28 rfl) (by decide) (W := 0) (by decide) (by decide) (by decide) (by decide) (g := (mkF m 70 #[lR r0, lR b5, lR b11, lV vI1, lV vI2, lR r15] [(.ref r15), (.ref r4)])) rfl (by rw [hml]; rfl) (argsL := [(.ref r15)]) (rest := []) (lenOf pd__Ljava_lang_String__Z rfl) rfl (own_W rfl) (hb hby d29_70)
  obtain ⟨rfl, N137q, E137⟩ := hQ137
  have N137 := Fr.app N111 N137q
  obtain ⟨clq138, Arq138, qq138, Sq138, Nq138, Hq138, Gq138⟩ := id V91
  obtain ⟨T139, h139, X139, e139, W139, st139⟩ := stI X137 hx hZ E137 Arq138 (j := (1 : Int32)) (inb_of Sq138 ⟨(by decide : ¬ ((1 : Int32) < (0 : Int32))), (by decide : (1 : Int32) < (3 : Int32))⟩) (g := (mkF m 93 #[lR r0, lR b5, lR b11, lV vI1, lV vI2, lR r15] [vI2, vI1, (.ref b11)])) rfl rfl (hb hby d29_93)
  have V139 : Arv Z h139 b11 k11 .int (3 : Int32) [vI1, vI2, vI0] vI0 := Arv.set Arq138 qq138 Sq138 Nq138 Hq138 Gq138 rfl W139 1 rfl (Nat.le_of_ble_eq_true rfl)
  have N139 := Fr.snoc X139 N137 g26
  have f140 := (f93.other W139 (Or.inl n30))
  have f141 := (f95.other W139 n33)
  have o142 := Old.wr o97 W139 g26
  have f144 := (f99.wr W139)
  obtain ⟨_, T143, Lc143, X143, hQ143, st143⟩ := own_cI (xi := mN32) X139 hx hZ hown e139 (rm46_1 l Z a0 hw [] r0 r1 c2 r3 r4 r5 h139 n0 o142 f140 f141) f144 (w 205 rfl) (w 206 rfl) (w 207 rfl) (w 308 rfl) (w 309 rfl) (w 310 rfl) (w 311 rfl) (w 312 rfl) (w 313 rfl) (w 295 rfl) (by decide) (W := 1) (by decide) (by decide) (by decide) (by decide) (g := (mkF m 26 #[lR r0, lR b5, lR b11, lV vI2, lV vI3, lR r15] [(.ref r0), vI3])) rfl (by rw [hml]; rfl) (argsL := []) (rest := [vI3]) (lenOf pd___I rfl) rfl (own_W rfl) (hb hby d29_26)
  obtain ⟨rfl, N143q, E143⟩ := hQ143
  have N143 := Fr.app N139 N143q
  obtain ⟨clq145, Arq145, qq145, Sq145, Nq145, Hq145, Gq145⟩ := id V139
  obtain ⟨_, T146, Lc146, X146, hQ146, st146⟩ := own_cI (xi := mN32) X143 hx hZ hown E143 (rm46_1 l Z a0 hw [] r0 r1 c2 r3 r4 r5 h139 n0 o142 f140 f141) f144 (w 205 rfl) (w 206 rfl) (w 207 rfl) (w 308 rfl) (w 309 rfl) (w 310 rfl) (w 311 rfl) (w 312 rfl) (w 313 rfl) (w 295 rfl) (by decide) (W := 2) (by decide) (by decide) (by decide) (by decide) (g := (mkF m 115 #[lR r0, lR b5, lR b11, lV vI1, lV vI3, lR r15] [(.ref r0), vI2, (.ref b5)])) rfl (by rw [hml]; rfl) (argsL := []) (rest := [vI2, (.ref b5)]) (lenOf pd___I rfl) rfl (own_W rfl) (hb hby d29_115)
  obtain ⟨rfl, N146q, E146⟩ := hQ146
  have N146 := Fr.app N143 N146q
  have f147 := ((V88.other W91 n83).other W139 n83)
  obtain ⟨clq148, Arq148, qq148, Sq148, Nq148, Hq148, Gq148⟩ := id f147
  obtain ⟨T149, h149, X149, e149, W149, st149⟩ := stI X146 hx hZ E146 Arq148 (j := (2 : Int32)) (inb_of Sq148 ⟨(by decide : ¬ ((2 : Int32) < (0 : Int32))), (by decide : (2 : Int32) < (3 : Int32))⟩) (g := (mkF m 120 #[lR r0, lR b5, lR b11, lV vI1, lV vI3, lR r15] [vI3, vI2, (.ref b5)])) rfl rfl (hb hby d29_120)
  have V149 : Arv Z h149 b5 k5 .int (3 : Int32) [vI1, vI0, vI3] vI0 := Arv.set Arq148 qq148 Sq148 Nq148 Hq148 Gq148 rfl W149 2 rfl (Nat.le_of_ble_eq_true rfl)
  have N149 := Fr.snoc X149 N146 g87
  have f150 := (V139.other W149 (Ne.symm n83))
  obtain ⟨clq151, Arq151, qq151, Sq151, Nq151, Hq151, Gq151⟩ := id f150
  have f152 := (f140.other W149 (Or.inl n92))
  have f153 := (f141.other W149 n94)
  have o154 := Old.wr o142 W149 g87
  have f156 := (f144.wr W149)
  obtain ⟨_, T155, Lc155, X155, hQ155, st155⟩ := own_cI (xi := mN32) X149 hx hZ hown e149 (rm46_1 l Z a0 hw [] r0 r1 c2 r3 r4 r5 h149 n0 o154 f152 f153) f156 (w 205 rfl) (w 206 rfl) (w 207 rfl) (w 308 rfl) (w 309 rfl) (w 310 rfl) (w 311 rfl) (w 312 rfl) (w 313 rfl) (w 295 rfl) (by decide) (W := 2) (by decide) (by decide) (by decide) (by decide) (g := (mkF m 115 #[lR r0, lR b5, lR b11, lV vI0, lV vI3, lR r15] [(.ref r0), vI1, (.ref b5)])) rfl (by rw [hml]; rfl) (argsL := []) (rest := [vI1, (.ref b5)]) (lenOf pd___I rfl) rfl (own_W rfl) (hb hby d29_115)
  obtain ⟨rfl, N155q, E155⟩ := hQ155
  have N155 := Fr.app N149 N155q
  obtain ⟨clq157, Arq157, qq157, Sq157, Nq157, Hq157, Gq157⟩ := id V149
  obtain ⟨T158, h158, X158, e158, W158, st158⟩ := stI X155 hx hZ E155 Arq157 (j := (1 : Int32)) (inb_of Sq157 ⟨(by decide : ¬ ((1 : Int32) < (0 : Int32))), (by decide : (1 : Int32) < (3 : Int32))⟩) (g := (mkF m 120 #[lR r0, lR b5, lR b11, lV vI0, lV vI3, lR r15] [vI3, vI1, (.ref b5)])) rfl rfl (hb hby d29_120)
  have V158 : Arv Z h158 b5 k5 .int (3 : Int32) [vI1, vI3, vI3] vI0 := Arv.set Arq157 qq157 Sq157 Nq157 Hq157 Gq157 rfl W158 1 rfl (Nat.le_of_ble_eq_true rfl)
  have N158 := Fr.snoc X158 N155 g87
  have f159 := (((((((B5.ext E11).wr W27).wr W88).wr W91).wr W139).wr W149).wr W158)
  have kp160 : Keep h0 h5 [] := (Keep.refl h0 []).ext E5
  have kp161 : Keep h0 h11 [] := kp160.ext E11
  have kp162 : Keep h0 h27 [] := kp161.wr W27 (Or.inr (Nat.le_trans zs29 (Nat.le_of_eq g11.symm)))
  have kp163 : Keep h0 h88 [] := kp162.wr W88 (Or.inr (Nat.le_of_eq g5.symm))
  have kp164 : Keep h0 h91 [] := kp163.wr W91 (Or.inr (Nat.le_trans zs29 (Nat.le_of_eq g11.symm)))
  have kp165 : Keep h0 h139 [] := kp164.wr W139 (Or.inr (Nat.le_trans zs29 (Nat.le_of_eq g11.symm)))
  have kp166 : Keep h0 h149 [] := kp165.wr W149 (Or.inr (Nat.le_of_eq g5.symm))
  have kp167 : Keep h0 h158 [] := kp166.wr W158 (Or.inr (Nat.le_of_eq g5.symm))
  refine ⟨some (.ref b5), _, _, _, _, nofun, X158, by decide, by decide, ?_, fun fs hr => ?_⟩
  · rw [e158]; exact ⟨b5, k5, rfl, N158, kp167, (Nat.le_of_eq g5.symm), V158, f159⟩
  · show SG p e below s₁ (mkF m 0 #[lR r0, lU, lU, lU, lU, lU] []) _
    refine qaN X0 hx hby d29_0 ?_
    refine st4 _ ?_
    refine st5 _ ?_
    refine XS.astoreN X5.here hx rfl (hb hby d29_8) rfl rfl (l' := #[lR r0, lR b5, lU, lU, lU, lU]) rfl ?_
    refine qaN X5 hx hby d29_9 ?_
    refine st9 _ ?_
    refine st11 _ ?_
    refine XS.astoreN X11.here hx rfl (hb hby d29_17) rfl rfl (l' := #[lR r0, lR b5, lR b11, lU, lU, lU]) rfl ?_
    refine qc X11 hx hby d29_18 ?_
    refine XS.istoreN X11.here hx rfl (hb hby d29_19) rfl (l' := #[lR r0, lR b5, lR b11, lV vI0, lU, lU]) rfl ?_
    show SG p e below T11 (mkF m 20 #[lR r0, lR b5, lR b11, lV vI0, lU, lU] []) _
    refine qc X11 hx hby d29_20 ?_
    refine XS.istore X11.here hx rfl (hb hby d29_21) rfl (l' := #[lR r0, lR b5, lR b11, lV vI0, lV vI0, lU]) rfl ?_
    refine qi X11 hx hby d29_23 ?_
    refine qaN X11 hx hby d29_25 ?_
    refine st15 _ ?_
    refine XS.icmpNo X15.here hx rfl (hb hby d29_31) rfl (tlt (by decide : (0 : Int32) < (3 : Int32))).2.1 ?_
    refine qaN X15 hx hby d29_34 ?_
    refine qi X15 hx hby d29_35 ?_
    refine st17 _ ?_
    refine st20 _ ?_
    show SG p e below T20 (mkF m 45 #[lR r0, lR b5, lR b11, lV vI0, lV vI0, lU] [(.ref r3)]) _
    refine st23 _ ?_
    refine XS.astore X23.here hx rfl (hb hby d29_48) rfl rfl (l' := #[lR r0, lR b5, lR b11, lV vI0, lV vI0, lR r6]) rfl ?_
    refine qiN X23 hx hby d29_50 ?_
    refine XS.ifYes X23.here hx rfl (pc0 := 51) (pc' := 89) rfl (hb hby d29_51) rfl ((if0 _ _).trans (flt (by decide : ¬ ((0 : Int32) < (0 : Int32)))).2.2.2) (by decide) (by decide) ?_
    refine qaN X23 hx hby d29_89 ?_
    refine qiN X23 hx hby d29_90 ?_
    refine qi X23 hx hby d29_91 ?_
    refine st27 _ ?_
    refine XS.iinc X27.here hx rfl (hb hby d29_94) rfl (l' := #[lR r0, lR b5, lR b11, lV vI1, lV vI0, lR r6]) rfl ?_
    refine XS.iinc X27.here hx rfl (hb hby d29_97) rfl (l' := #[lR r0, lR b5, lR b11, lV vI1, lV vI1, lR r6]) rfl ?_
    show SG p e below T27 (mkF m 100 #[lR r0, lR b5, lR b11, lV vI1, lV vI1, lR r6] []) _
    refine XS.goto X27.here hx rfl (pc0 := 100) (pc' := 23) rfl (hb hby d29_100) (by decide) (by decide) ?_
    refine qi X27 hx hby d29_23 ?_
    refine qaN X27 hx hby d29_25 ?_
    refine st36 _ ?_
    refine XS.icmpNo X36.here hx rfl (hb hby d29_31) rfl (tlt (by decide : (1 : Int32) < (3 : Int32))).2.1 ?_
    refine qaN X36 hx hby d29_34 ?_
    refine qi X36 hx hby d29_35 ?_
    refine st38 _ ?_
    refine st41 _ ?_
    refine st46 _ ?_
    show SG p e below T46 (mkF m 48 #[lR r0, lR b5, lR b11, lV vI1, lV vI1, lR r6] [(.ref r7)]) _
    refine XS.astore X46.here hx rfl (hb hby d29_48) rfl rfl (l' := #[lR r0, lR b5, lR b11, lV vI1, lV vI1, lR r7]) rfl ?_
    refine qiN X46 hx hby d29_50 ?_
    refine XS.ifNo X46.here hx rfl (hb hby d29_51) rfl ((if0 _ _).trans (tlt (by decide : (0 : Int32) < (1 : Int32))).2.2.2) ?_
    refine qaN X46 hx hby d29_54 ?_
    refine qaN X46 hx hby d29_55 ?_
    refine qiN X46 hx hby d29_56 ?_
    refine qc X46 hx hby d29_57 ?_
    refine XS.isub X46.here hx rfl (hb hby d29_58) rfl ?_
    refine X46.iaload hx (j := (0 : Int32)) (v := vI0) (by rw [E46]; exact Arq47.1) (State.isArrayOf_alike hZ.alike Arq47.2.1) Arq47.2.2 (inb_of Sq47 ⟨(by decide : ¬ ((0 : Int32) < (0 : Int32))), (by decide : (0 : Int32) < (3 : Int32))⟩) (Has.at Hq47 (inb_of Sq47 ⟨(by decide : ¬ ((0 : Int32) < (0 : Int32))), (by decide : (0 : Int32) < (3 : Int32))⟩) rfl) (g := (mkF m 59 #[lR r0, lR b5, lR b11, lV vI1, lV vI1, lR r7] [vI0, (.ref b11), (.ref r0)])) rfl rfl (hb hby d29_59) _ ?_
    refine st48 _ ?_
    show SG p e below T48 (mkF m 65 #[lR r0, lR b5, lR b11, lV vI1, lV vI1, lR r7] [(.ref r3)]) _
    refine st50 _ ?_
    refine qa X50 hx hby d29_68 ?_
    refine st81 _ ?_
    refine XS.ifNo X81.here hx rfl (hb hby d29_73) rfl ((if0 _ _).trans (teq (rfl : (0 : Int32) = (0 : Int32))).2) ?_
    refine XS.iinc X81.here hx rfl (hb hby d29_76) rfl (l' := #[lR r0, lR b5, lR b11, lV vI0, lV vI1, lR r7]) rfl ?_
    refine qaN X81 hx hby d29_79 ?_
    refine qaN X81 hx hby d29_80 ?_
    refine qiN X81 hx hby d29_81 ?_
    refine X81.iaload hx (j := (0 : Int32)) (v := vI0) (by rw [E81]; exact Arq82.1) (State.isArrayOf_alike hZ.alike Arq82.2.1) Arq82.2.2 (inb_of Sq82 ⟨(by decide : ¬ ((0 : Int32) < (0 : Int32))), (by decide : (0 : Int32) < (3 : Int32))⟩) (Has.at Hq82 (inb_of Sq82 ⟨(by decide : ¬ ((0 : Int32) < (0 : Int32))), (by decide : (0 : Int32) < (3 : Int32))⟩) rfl) (g := (mkF m 82 #[lR r0, lR b5, lR b11, lV vI0, lV vI1, lR r7] [vI0, (.ref b11), (.ref b5)])) rfl rfl (hb hby d29_82) _ ?_
    refine qi X81 hx hby d29_83 ?_
    show SG p e below T81 (mkF m 85 #[lR r0, lR b5, lR b11, lV vI0, lV vI1, lR r7] [vI1, vI0, (.ref b5)]) _
    refine st88 _ ?_
    refine XS.goto X88.here hx rfl (pc0 := 86) (pc' := 50) rfl (hb hby d29_86) (by decide) (by decide) ?_
    refine qiN X88 hx hby d29_50 ?_
    refine XS.ifYes X88.here hx rfl (pc0 := 51) (pc' := 89) rfl (hb hby d29_51) rfl ((if0 _ _).trans (flt (by decide : ¬ ((0 : Int32) < (0 : Int32)))).2.2.2) (by decide) (by decide) ?_
    refine qaN X88 hx hby d29_89 ?_
    refine qiN X88 hx hby d29_90 ?_
    refine qi X88 hx hby d29_91 ?_
    refine st91 _ ?_
    refine XS.iinc X91.here hx rfl (hb hby d29_94) rfl (l' := #[lR r0, lR b5, lR b11, lV vI1, lV vI1, lR r7]) rfl ?_
    refine XS.iinc X91.here hx rfl (hb hby d29_97) rfl (l' := #[lR r0, lR b5, lR b11, lV vI1, lV vI2, lR r7]) rfl ?_
    show SG p e below T91 (mkF m 100 #[lR r0, lR b5, lR b11, lV vI1, lV vI2, lR r7] []) _
    refine XS.goto X91.here hx rfl (pc0 := 100) (pc' := 23) rfl (hb hby d29_100) (by decide) (by decide) ?_
    refine qi X91 hx hby d29_23 ?_
    refine qaN X91 hx hby d29_25 ?_
    refine st98 _ ?_
    refine XS.icmpNo X98.here hx rfl (hb hby d29_31) rfl (tlt (by decide : (2 : Int32) < (3 : Int32))).2.1 ?_
    refine qaN X98 hx hby d29_34 ?_
    refine qi X98 hx hby d29_35 ?_
    refine st100 _ ?_
    refine st103 _ ?_
    refine st109 _ ?_
    show SG p e below T109 (mkF m 48 #[lR r0, lR b5, lR b11, lV vI1, lV vI2, lR r7] [(.ref r15)]) _
    refine XS.astore X109.here hx rfl (hb hby d29_48) rfl rfl (l' := #[lR r0, lR b5, lR b11, lV vI1, lV vI2, lR r15]) rfl ?_
    refine qiN X109 hx hby d29_50 ?_
    refine XS.ifNo X109.here hx rfl (hb hby d29_51) rfl ((if0 _ _).trans (tlt (by decide : (0 : Int32) < (1 : Int32))).2.2.2) ?_
    refine qaN X109 hx hby d29_54 ?_
    refine qaN X109 hx hby d29_55 ?_
    refine qiN X109 hx hby d29_56 ?_
    refine qc X109 hx hby d29_57 ?_
    refine XS.isub X109.here hx rfl (hb hby d29_58) rfl ?_
    refine X109.iaload hx (j := (0 : Int32)) (v := vI1) (by rw [E109]; exact Arq110.1) (State.isArrayOf_alike hZ.alike Arq110.2.1) Arq110.2.2 (inb_of Sq110 ⟨(by decide : ¬ ((0 : Int32) < (0 : Int32))), (by decide : (0 : Int32) < (3 : Int32))⟩) (Has.at Hq110 (inb_of Sq110 ⟨(by decide : ¬ ((0 : Int32) < (0 : Int32))), (by decide : (0 : Int32) < (3 : Int32))⟩) rfl) (g := (mkF m 59 #[lR r0, lR b5, lR b11, lV vI1, lV vI2, lR r15] [vI0, (.ref b11), (.ref r0)])) rfl rfl (hb hby d29_59) _ ?_
    refine st111 _ ?_
    show SG p e below T111 (mkF m 65 #[lR r0, lR b5, lR b11, lV vI1, lV vI2, lR r15] [(.ref r4)]) _
    refine st113 _ ?_
    refine qa X113 hx hby d29_68 ?_
    refine st137 _ ?_
    refine XS.ifYes X137.here hx rfl (pc0 := 73) (pc' := 89) rfl (hb hby d29_73) rfl ((if0 _ _).trans (feq (by decide : ¬ ((1 : Int32) = (0 : Int32)))).2) (by decide) (by decide) ?_
    refine qaN X137 hx hby d29_89 ?_
    refine qiN X137 hx hby d29_90 ?_
    refine qi X137 hx hby d29_91 ?_
    refine st139 _ ?_
    refine XS.iinc X139.here hx rfl (hb hby d29_94) rfl (l' := #[lR r0, lR b5, lR b11, lV vI2, lV vI2, lR r15]) rfl ?_
    refine XS.iinc X139.here hx rfl (hb hby d29_97) rfl (l' := #[lR r0, lR b5, lR b11, lV vI2, lV vI3, lR r15]) rfl ?_
    show SG p e below T139 (mkF m 100 #[lR r0, lR b5, lR b11, lV vI2, lV vI3, lR r15] []) _
    refine XS.goto X139.here hx rfl (pc0 := 100) (pc' := 23) rfl (hb hby d29_100) (by decide) (by decide) ?_
    refine qi X139 hx hby d29_23 ?_
    refine qaN X139 hx hby d29_25 ?_
    refine st143 _ ?_
    refine XS.icmpYes X143.here hx rfl (pc0 := 31) (pc' := 103) rfl (hb hby d29_31) rfl (flt (by decide : ¬ ((3 : Int32) < (3 : Int32)))).2.1 (by decide) (by decide) ?_
    refine qiN X143 hx hby d29_103 ?_
    refine XS.ifNo X143.here hx rfl (hb hby d29_104) rfl ((if0 _ _).trans (tlt (by decide : (0 : Int32) < (2 : Int32))).2.2.2) ?_
    refine XS.iinc X143.here hx rfl (hb hby d29_107) rfl (l' := #[lR r0, lR b5, lR b11, lV vI1, lV vI3, lR r15]) rfl ?_
    refine qaN X143 hx hby d29_110 ?_
    refine qaN X143 hx hby d29_111 ?_
    show SG p e below T143 (mkF m 112 #[lR r0, lR b5, lR b11, lV vI1, lV vI3, lR r15] [(.ref b11), (.ref b5)]) _
    refine qiN X143 hx hby d29_112 ?_
    refine X143.iaload hx (j := (1 : Int32)) (v := vI2) (by rw [E143]; exact Arq145.1) (State.isArrayOf_alike hZ.alike Arq145.2.1) Arq145.2.2 (inb_of Sq145 ⟨(by decide : ¬ ((1 : Int32) < (0 : Int32))), (by decide : (1 : Int32) < (3 : Int32))⟩) (Has.at Hq145 (inb_of Sq145 ⟨(by decide : ¬ ((1 : Int32) < (0 : Int32))), (by decide : (1 : Int32) < (3 : Int32))⟩) rfl) (g := (mkF m 113 #[lR r0, lR b5, lR b11, lV vI1, lV vI3, lR r15] [vI1, (.ref b11), (.ref b5)])) rfl rfl (hb hby d29_113) _ ?_
    refine qaN X143 hx hby d29_114 ?_
    refine st146 _ ?_
    refine st149 _ ?_
    refine XS.goto X149.here hx rfl (pc0 := 121) (pc' := 103) rfl (hb hby d29_121) (by decide) (by decide) ?_
    refine qiN X149 hx hby d29_103 ?_
    refine XS.ifNo X149.here hx rfl (hb hby d29_104) rfl ((if0 _ _).trans (tlt (by decide : (0 : Int32) < (1 : Int32))).2.2.2) ?_
    refine XS.iinc X149.here hx rfl (hb hby d29_107) rfl (l' := #[lR r0, lR b5, lR b11, lV vI0, lV vI3, lR r15]) rfl ?_
    refine qaN X149 hx hby d29_110 ?_
    show SG p e below T149 (mkF m 111 #[lR r0, lR b5, lR b11, lV vI0, lV vI3, lR r15] [(.ref b5)]) _
    refine qaN X149 hx hby d29_111 ?_
    refine qiN X149 hx hby d29_112 ?_
    refine X149.iaload hx (j := (0 : Int32)) (v := vI1) (by rw [e149]; exact Arq151.1) (State.isArrayOf_alike hZ.alike Arq151.2.1) Arq151.2.2 (inb_of Sq151 ⟨(by decide : ¬ ((0 : Int32) < (0 : Int32))), (by decide : (0 : Int32) < (3 : Int32))⟩) (Has.at Hq151 (inb_of Sq151 ⟨(by decide : ¬ ((0 : Int32) < (0 : Int32))), (by decide : (0 : Int32) < (3 : Int32))⟩) rfl) (g := (mkF m 113 #[lR r0, lR b5, lR b11, lV vI0, lV vI3, lR r15] [vI0, (.ref b11), (.ref b5)])) rfl rfl (hb hby d29_113) _ ?_
    refine qaN X149 hx hby d29_114 ?_
    refine st155 _ ?_
    refine st158 _ ?_
    refine XS.goto X158.here hx rfl (pc0 := 121) (pc' := 103) rfl (hb hby d29_121) (by decide) (by decide) ?_
    refine qiN X158 hx hby d29_103 ?_
    refine XS.ifYes X158.here hx rfl (pc0 := 104) (pc' := 124) rfl (hb hby d29_104) rfl ((if0 _ _).trans (flt (by decide : ¬ ((0 : Int32) < (0 : Int32)))).2.2.2) (by decide) (by decide) ?_
    refine qaN X158 hx hby d29_124 ?_
    show SG p e below T158 (mkF m 125 #[lR r0, lR b5, lR b11, lV vI0, lV vI3, lR r15] [(.ref b5)]) _
    exact retOut X158 hx (i := .areturn) hret rfl (Or.inr (Or.inr (Or.inr (Or.inr ⟨rfl, rfl, rfl⟩)))) (hb hby d29_125) hr
def Q29_9 (Z : State)  (h0 : Heap) (n0 : Nat) (v : Option Value) (h : Heap) (L : List Loc) : Prop := ∃ (b5 : Addr) (k5 : ClassId), v = some (.ref b5) ∧ Fr n0 L ∧ Keep h0 h [] ∧ h0.size ≤ b5 ∧ Arv Z h b5 k5 .int (3 : Int32) [vI1, vI2, vI3] vI0 ∧ Exa Z h b5 "[I"
theorem rm29_9 (l : Launch) (Z : State) (a0 : Array Value) (hw : own_HW a0 Z) (ws : List Jvm.Cond) (r0 r1 : Addr) (c2 : ClassId) (r3 r4 : Addr) (r5 r6 : Addr) (r7 r8 : Addr) (c9 : ClassId) (x10 x11 : Int32) (r12 : Addr) (c13 : ClassId) (x14 : Int32) (r15 r16 : Addr) (c17 : ClassId) (x18 : Int32) (h0 : Heap) (n0 : Nat) (O0 : Old Z n0 h0) (f1 : Exa Z h0 r0 cs14) (f2 : Fld Z h0 r0 cs14 "elements" "[Ljava/lang/Object;" (.ref r1)) (f3 : Arv Z h0 r1 c2 (.object "java/lang/Object") (3 : Int32) [(.ref r3), (.ref r4), (.ref r5)] .null) (f18 : Exa Z h0 r3 cs0) (f21 : Fld Z h0 r3 cs0 "path" "Ljava/lang/String;" (.ref r6)) (l28 : r0 < h0.size) (l32 : r1 < h0.size) (f39 : Exa Z h0 r4 cs0) (f42 : Fld Z h0 r4 cs0 "path" "Ljava/lang/String;" (.ref r7)) (l43 : r4 < h0.size) (l51 : r3 < h0.size) (f54 : Exa Z h0 r7 "java/lang/String") (f56 : Fld Z h0 r7 "java/lang/String" "value" "[B" (.ref r8)) (l57 : r7 < h0.size) (f60 : Arv Z h0 r8 c9 .byte (1 : Int32) [(.int x10)] vI0) (l61 : r8 < h0.size) (f64 : Sta Z Z.heap "java/lang/String" "COMPACT_STRINGS" "Z" (.int x11)) (hc65 : ¬ (x11 = (0 : Int32))) (f66 : Fld Z h0 r7 "java/lang/String" "coder" "B" vI0) (f68 : Exa Z h0 r6 "java/lang/String") (f70 : Fld Z h0 r6 "java/lang/String" "value" "[B" (.ref r12)) (l71 : r6 < h0.size) (f74 : Arv Z h0 r12 c13 .byte (1 : Int32) [(.int x14)] vI0) (l75 : r12 < h0.size) (f78 : Fld Z h0 r6 "java/lang/String" "coder" "B" vI0) (hc80 : ¬ (x10 = x14)) (f101 : Exa Z h0 r5 cs0) (f104 : Fld Z h0 r5 cs0 "path" "Ljava/lang/String;" (.ref r15)) (l105 : r5 < h0.size) (f116 : Exa Z h0 r15 "java/lang/String") (f118 : Fld Z h0 r15 "java/lang/String" "value" "[B" (.ref r16)) (l119 : r15 < h0.size) (f123 : Arv Z h0 r16 c17 .byte (1 : Int32) [(.int x18)] vI0) (l124 : r16 < h0.size) (f128 : Fld Z h0 r15 "java/lang/String" "coder" "B" vI0) (hc136 : ¬ (x18 = x10)) :
    own_MF l mN31 prog_2_method_12_code 6 (some (.array .int)) ws rR5_2_6_72 Z h0 #[(.ref r0)] (Q29_9 Z  h0 n0) := by
  refine own_open (plainFor_of_name pn_com_example_nearmiss_nearmiss_Document) (L0 := #[lR r0, lU, lU, lU, lU, lU]) (fun _ => by first | (simp [entryFrame, mkF, argsToLocals, Value.category]; done) | rfl) ?_
  intro p e s m below meth c s₁ hx hby hml hret hnn hZ hown X0 e0
  have N0 := Fr.nil n0; have w := @ww Z a0 hw
  obtain ⟨_, T4, Lc4, X4, hQ4, st4⟩ := own_cI (xi := mN32) X0 hx hZ hown e0 (rm46_1 l Z a0 hw [] r0 r1 c2 r3 r4 r5 h0 n0 O0 f2 f3) f1 (w 205 rfl) (w 206 rfl) (w 207 rfl) (w 308 rfl) (w 309 rfl) (w 310 rfl) (w 311 rfl) (w 312 rfl) (w 313 rfl) (w 295 rfl) (by decide) (W := 0) (by decide) (by decide) (by decide) (by decide) (g := (mkF m 1 #[lR r0, lU, lU, lU, lU, lU] [(.ref r0)])) rfl (by rw [hml]; rfl) (argsL := []) (rest := []) (lenOf pd___I rfl) rfl (own_W rfl) (hb hby d29_1)
  obtain ⟨rfl, N4q, E4⟩ := hQ4
  have N4 := Fr.app N0 N4q
  obtain ⟨T5, h5, k5, X5, e5, E5, A5, B5, st5⟩ := newPE X4 hx hZ (w 214 rfl) E4 (g := (mkF m 6 #[lR r0, lU, lU, lU, lU, lU] [vI3])) rfl (hb hby d29_6) rfl (by decide) (cap := 3) (by decide) (by decide) (by decide) (by decide) (ad := "[I") rfl
  obtain ⟨b5, g5⟩ : ∃ z, z = h0.size := ⟨_, rfl⟩
  rw [← g5] at A5 B5 st5
  have V5 : Arv Z h5 b5 k5 .int (3 : Int32) [vI0, vI0, vI0] vI0 := (Arv.new A5 (by decide)).pad (pad_rep [] vI0 3)
  have f6 := (f2.ext E5)
  have f7 := (f3.ext E5)
  have o8 := Old.ext O0 E5
  have f10 := (f1.ext E5)
  obtain ⟨_, T9, Lc9, X9, hQ9, st9⟩ := own_cI (xi := mN32) X5 hx hZ hown e5 (rm46_1 l Z a0 hw [] r0 r1 c2 r3 r4 r5 h5 n0 o8 f6 f7) f10 (w 205 rfl) (w 206 rfl) (w 207 rfl) (w 308 rfl) (w 309 rfl) (w 310 rfl) (w 311 rfl) (w 312 rfl) (w 313 rfl) (w 295 rfl) (by decide) (W := 0) (by decide) (by decide) (by decide) (by decide) (g := (mkF m 10 #[lR r0, lR b5, lU, lU, lU, lU] [(.ref r0)])) rfl (by rw [hml]; rfl) (argsL := []) (rest := []) (lenOf pd___I rfl) rfl (own_W rfl) (hb hby d29_10)
  obtain ⟨rfl, N9q, E9⟩ := hQ9
  have N9 := Fr.app N4 N9q
  obtain ⟨T11, h11, k11, X11, e11, E11, A11, B11, st11⟩ := newPE X9 hx hZ (w 214 rfl) E9 (g := (mkF m 15 #[lR r0, lR b5, lU, lU, lU, lU] [vI3])) rfl (hb hby d29_15) rfl (by decide) (cap := 3) (by decide) (by decide) (by decide) (by decide) (ad := "[I") rfl
  obtain ⟨b11, g11⟩ : ∃ z, z = h5.size := ⟨_, rfl⟩
  rw [← g11] at A11 B11 st11
  have V11 : Arv Z h11 b11 k11 .int (3 : Int32) [vI0, vI0, vI0] vI0 := (Arv.new A11 (by decide)).pad (pad_rep [] vI0 3)
  have f12 := (f6.ext E11)
  have f13 := (f7.ext E11)
  have o14 := Old.ext o8 E11
  have f16 := (f10.ext E11)
  obtain ⟨_, T15, Lc15, X15, hQ15, st15⟩ := own_cI (xi := mN32) X11 hx hZ hown e11 (rm46_1 l Z a0 hw [] r0 r1 c2 r3 r4 r5 h11 n0 o14 f12 f13) f16 (w 205 rfl) (w 206 rfl) (w 207 rfl) (w 308 rfl) (w 309 rfl) (w 310 rfl) (w 311 rfl) (w 312 rfl) (w 313 rfl) (w 295 rfl) (by decide) (W := 1) (by decide) (by decide) (by decide) (by decide) (g := (mkF m 26 #[lR r0, lR b5, lR b11, lV vI0, lV vI0, lU] [(.ref r0), vI0])) rfl (by rw [hml]; rfl) (argsL := []) (rest := [vI0]) (lenOf pd___I rfl) rfl (own_W rfl) (hb hby d29_26)
  obtain ⟨rfl, N15q, E15⟩ := hQ15
  have N15 := Fr.app N9 N15q
  obtain ⟨_, T17, Lc17, X17, hQ17, st17⟩ := own_cI (xi := mN33) X15 hx hZ hown E15 (rm47_1 l Z a0 hw [] r0 r1 c2 r3 r4 r5 h11 n0 o14 f12 f13) f16 (w 215 rfl) (w 216 rfl) (w 217 rfl) (w 314 rfl) (w 315 rfl) (w 316 rfl) (w 317 rfl) (w 312 rfl) (w 318 rfl) (w 295 rfl) (by decide) (W := 0) (by decide) (by decide) (by decide) (by decide) (g := (mkF m 37 #[lR r0, lR b5, lR b11, lV vI0, lV vI0, lU] [vI0, (.ref r0)])) rfl (by rw [hml]; rfl) (argsL := [vI0]) (rest := []) (lenOf pd__I_Ljava_lang_Object_ rfl) rfl (own_W rfl) (hb hby d29_37)
  obtain ⟨rfl, N17q, E17⟩ := hQ17
  have N17 := Fr.app N15 N17q
  have f19 := ((f18.ext E5).ext E11)
  obtain ⟨T20, X20, e20, st20⟩ := castY X17 hx hZ hown (w 223 rfl) E17 (Ins.self f19) (g := (mkF m 42 #[lR r0, lR b5, lR b11, lV vI0, lV vI0, lU] [(.ref r3)])) rfl rfl (hb hby d29_42)
  have f22 := ((f21.ext E5).ext E11)
  obtain ⟨_, T23, Lc23, X23, hQ23, st23⟩ := own_cV X20 hx hZ hown e20 (rm32_1 l Z a0 hw [] r3 r6 h11 n0 o14 f22) f19 (w 225 rfl) (w 226 rfl) (w 228 rfl) (w 227 rfl) (w 229 rfl) (w 28 rfl) (by decide) (W := 0) (by decide) (by decide) (by decide) (by decide) (g := (mkF m 45 #[lR r0, lR b5, lR b11, lV vI0, lV vI0, lU] [(.ref r3)])) rfl (by rw [hml]; rfl) (argsL := []) (rest := []) (lenOf pd___Ljava_lang_String_ rfl) rfl (own_W rfl) (hb hby d29_45)
  obtain ⟨rfl, N23q, E23⟩ := hQ23
  have N23 := Fr.app N17 N23q
  obtain ⟨clq24, Arq24, qq24, Sq24, Nq24, Hq24, Gq24⟩ := id V11
  have zz25 : n0 ≤ h5.size := by rw [← o8.1]; exact o8.2.1
  have g26 := Nat.le_trans zz25 (Nat.le_of_eq g11.symm)
  obtain ⟨T27, h27, X27, e27, W27, st27⟩ := stI X23 hx hZ E23 Arq24 (j := (0 : Int32)) (inb_of Sq24 ⟨(by decide : ¬ ((0 : Int32) < (0 : Int32))), (by decide : (0 : Int32) < (3 : Int32))⟩) (g := (mkF m 93 #[lR r0, lR b5, lR b11, lV vI0, lV vI0, lR r6] [vI0, vI0, (.ref b11)])) rfl rfl (hb hby d29_93)
  have V27 : Arv Z h27 b11 k11 .int (3 : Int32) [vI0, vI0, vI0] vI0 := Arv.set Arq24 qq24 Sq24 Nq24 Hq24 Gq24 rfl W27 0 rfl (Nat.le_of_ble_eq_true rfl)
  have N27 := Fr.snoc X27 N23 g26
  have zs29 := E5.1
  have n30 := Nat.ne_of_lt (Nat.lt_of_lt_of_le (Nat.lt_of_lt_of_le l28 zs29) (Nat.le_of_eq g11.symm))
  have f31 := (f12.other W27 (Or.inl n30))
  have n33 := Nat.ne_of_lt (Nat.lt_of_lt_of_le (Nat.lt_of_lt_of_le l32 zs29) (Nat.le_of_eq g11.symm))
  have f34 := (f13.other W27 n33)
  have o35 := Old.wr o14 W27 g26
  have f37 := (f16.wr W27)
  obtain ⟨_, T36, Lc36, X36, hQ36, st36⟩ := own_cI (xi := mN32) X27 hx hZ hown e27 (rm46_1 l Z a0 hw [] r0 r1 c2 r3 r4 r5 h27 n0 o35 f31 f34) f37 (w 205 rfl) (w 206 rfl) (w 207 rfl) (w 308 rfl) (w 309 rfl) (w 310 rfl) (w 311 rfl) (w 312 rfl) (w 313 rfl) (w 295 rfl) (by decide) (W := 1) (by decide) (by decide) (by decide) (by decide) (g := (mkF m 26 #[lR r0, lR b5, lR b11, lV vI1, lV vI1, lR r6] [(.ref r0), vI1])) rfl (by rw [hml]; rfl) (argsL := []) (rest := [vI1]) (lenOf pd___I rfl) rfl (own_W rfl) (hb hby d29_26)
  obtain ⟨rfl, N36q, E36⟩ := hQ36
  have N36 := Fr.app N27 N36q
  obtain ⟨_, T38, Lc38, X38, hQ38, st38⟩ := own_cI (xi := mN33) X36 hx hZ hown E36 (rm47_2 l Z a0 hw [] r0 r1 c2 r3 r4 r5 h27 n0 o35 f31 f34) f37 (w 215 rfl) (w 216 rfl) (w 217 rfl) (w 314 rfl) (w 315 rfl) (w 316 rfl) (w 317 rfl) (w 312 rfl) (w 318 rfl) (w 295 rfl) (by decide) (W := 0) (by decide) (by decide) (by decide) (by decide) (g := (mkF m 37 #[lR r0, lR b5, lR b11, lV vI1, lV vI1, lR r6] [vI1, (.ref r0)])) rfl (by rw [hml]; rfl) (argsL := [vI1]) (rest := []) (lenOf pd__I_Ljava_lang_Object_ rfl) rfl (own_W rfl) (hb hby d29_37)
  obtain ⟨rfl, N38q, E38⟩ := hQ38
  have N38 := Fr.app N36 N38q
  have f40 := (((f39.ext E5).ext E11).wr W27)
  obtain ⟨T41, X41, e41, st41⟩ := castY X38 hx hZ hown (w 223 rfl) E38 (Ins.self f40) (g := (mkF m 42 #[lR r0, lR b5, lR b11, lV vI1, lV vI1, lR r6] [(.ref r4)])) rfl rfl (hb hby d29_42)
  have n44 := Nat.ne_of_lt (Nat.lt_of_lt_of_le (Nat.lt_of_lt_of_le l43 zs29) (Nat.le_of_eq g11.symm))
  have f45 := (((f42.ext E5).ext E11).other W27 (Or.inl n44))
  obtain ⟨_, T46, Lc46, X46, hQ46, st46⟩ := own_cV X41 hx hZ hown e41 (rm32_1 l Z a0 hw [] r4 r7 h27 n0 o35 f45) f40 (w 225 rfl) (w 226 rfl) (w 228 rfl) (w 227 rfl) (w 229 rfl) (w 28 rfl) (by decide) (W := 0) (by decide) (by decide) (by decide) (by decide) (g := (mkF m 45 #[lR r0, lR b5, lR b11, lV vI1, lV vI1, lR r6] [(.ref r4)])) rfl (by rw [hml]; rfl) (argsL := []) (rest := []) (lenOf pd___Ljava_lang_String_ rfl) rfl (own_W rfl) (hb hby d29_45)
  obtain ⟨rfl, N46q, E46⟩ := hQ46
  have N46 := Fr.app N38 N46q
  obtain ⟨clq47, Arq47, qq47, Sq47, Nq47, Hq47, Gq47⟩ := id V27
  obtain ⟨_, T48, Lc48, X48, hQ48, st48⟩ := own_cI (xi := mN33) X46 hx hZ hown E46 (rm47_1 l Z a0 hw [] r0 r1 c2 r3 r4 r5 h27 n0 o35 f31 f34) f37 (w 215 rfl) (w 216 rfl) (w 217 rfl) (w 314 rfl) (w 315 rfl) (w 316 rfl) (w 317 rfl) (w 312 rfl) (w 318 rfl) (w 295 rfl) (by decide) (W := 0) (by decide) (by decide) (by decide) (by decide) (g := (mkF m 60 #[lR r0, lR b5, lR b11, lV vI1, lV vI1, lR r7] [vI0, (.ref r0)])) rfl (by rw [hml]; rfl) (argsL := [vI0]) (rest := []) (lenOf pd__I_Ljava_lang_Object_ rfl) rfl (own_W rfl) (hb hby d29_60)
  obtain ⟨rfl, N48q, E48⟩ := hQ48
  have N48 := Fr.app N46 N48q
  have f49 := (f19.wr W27)
  obtain ⟨T50, X50, e50, st50⟩ := castY X48 hx hZ hown (w 223 rfl) E48 (Ins.self f49) (g := (mkF m 65 #[lR r0, lR b5, lR b11, lV vI1, lV vI1, lR r7] [(.ref r3)])) rfl rfl (hb hby d29_65)
  have n52 := Nat.ne_of_lt (Nat.lt_of_lt_of_le (Nat.lt_of_lt_of_le l51 zs29) (Nat.le_of_eq g11.symm))
  have f53 := (f22.other W27 (Or.inl n52))
  have f55 := (((f54.ext E5).ext E11).wr W27)
  have n58 := Nat.ne_of_lt (Nat.lt_of_lt_of_le (Nat.lt_of_lt_of_le l57 zs29) (Nat.le_of_eq g11.symm))
  have f59 := (((f56.ext E5).ext E11).other W27 (Or.inl n58))
  have n62 := Nat.ne_of_lt (Nat.lt_of_lt_of_le (Nat.lt_of_lt_of_le l61 zs29) (Nat.le_of_eq g11.symm))
  have f63 := (((f60.ext E5).ext E11).other W27 n62)
  have f67 := (((f66.ext E5).ext E11).other W27 (Or.inl n58))
  have f69 := (((f68.ext E5).ext E11).wr W27)
  have n72 := Nat.ne_of_lt (Nat.lt_of_lt_of_le (Nat.lt_of_lt_of_le l71 zs29) (Nat.le_of_eq g11.symm))
  have f73 := (((f70.ext E5).ext E11).other W27 (Or.inl n72))
  have n76 := Nat.ne_of_lt (Nat.lt_of_lt_of_le (Nat.lt_of_lt_of_le l75 zs29) (Nat.le_of_eq g11.symm))
  have f77 := (((f74.ext E5).ext E11).other W27 n76)
  have f79 := (((f78.ext E5).ext E11).other W27 (Or.inl n72))
  obtain ⟨_, T81, Lc81, X81, hQ81, st81⟩ := own_cV X50 hx hZ hown e50 (rm48_2 l Z a0 hw [] r3 r7 r6 r8 c9 x10 x11 r12 c13 x14 h27 n0 o35 f53 f55 f59 f63 f64 hc65 f67 f69 f73 f77 f79 hc80) f49 (w 319 rfl) (w 320 rfl) (w 322 rfl) (w 321 rfl) (w 323 rfl) (w 28 rfl) (by decide) (W := 0) (by decide) (by decide) (by decide) (by decide) (g := (mkF m 70 #[lR r0, lR b5, lR b11, lV vI1, lV vI1, lR r7] [(.ref r7), (.ref r3)])) rfl (by rw [hml]; rfl) (argsL := [(.ref r7)]) (rest := []) (lenOf pd__Ljava_lang_String__Z rfl) rfl (own_W rfl) (hb hby d29_70)
  obtain ⟨rfl, N81q, E81⟩ := hQ81
  have N81 := Fr.app N48 N81q
  obtain ⟨clq82, Arq82, qq82, Sq82, Nq82, Hq82, Gq82⟩ := id V27
  have n83 := Nat.ne_of_lt (Nat.lt_of_lt_of_le V5.lt (Nat.le_of_eq g11.symm))
  have f84 := ((V5.ext E11).other W27 n83)
  obtain ⟨clq85, Arq85, qq85, Sq85, Nq85, Hq85, Gq85⟩ := id f84
  have zz86 : n0 ≤ h0.size := by rw [← O0.1]; exact O0.2.1
  have g87 := Nat.le_trans zz86 (Nat.le_of_eq g5.symm)
  obtain ⟨T88, h88, X88, e88, W88, st88⟩ := stI X81 hx hZ E81 Arq85 (j := (0 : Int32)) (inb_of Sq85 ⟨(by decide : ¬ ((0 : Int32) < (0 : Int32))), (by decide : (0 : Int32) < (3 : Int32))⟩) (g := (mkF m 85 #[lR r0, lR b5, lR b11, lV vI0, lV vI1, lR r7] [vI1, vI0, (.ref b5)])) rfl rfl (hb hby d29_85)
  have V88 : Arv Z h88 b5 k5 .int (3 : Int32) [vI1, vI0, vI0] vI0 := Arv.set Arq85 qq85 Sq85 Nq85 Hq85 Gq85 rfl W88 0 rfl (Nat.le_of_ble_eq_true rfl)
  have N88 := Fr.snoc X88 N81 g87
  have f89 := (V27.other W88 (Ne.symm n83))
  obtain ⟨clq90, Arq90, qq90, Sq90, Nq90, Hq90, Gq90⟩ := id f89
  obtain ⟨T91, h91, X91, e91, W91, st91⟩ := stI X88 hx hZ e88 Arq90 (j := (0 : Int32)) (inb_of Sq90 ⟨(by decide : ¬ ((0 : Int32) < (0 : Int32))), (by decide : (0 : Int32) < (3 : Int32))⟩) (g := (mkF m 93 #[lR r0, lR b5, lR b11, lV vI0, lV vI1, lR r7] [vI1, vI0, (.ref b11)])) rfl rfl (hb hby d29_93)
  have V91 : Arv Z h91 b11 k11 .int (3 : Int32) [vI1, vI0, vI0] vI0 := Arv.set Arq90 qq90 Sq90 Nq90 Hq90 Gq90 rfl W91 0 rfl (Nat.le_of_ble_eq_true rfl)
  have N91 := Fr.snoc X91 N88 g26
  have n92 := Nat.ne_of_lt (Nat.lt_of_lt_of_le l28 (Nat.le_of_eq g5.symm))
  have f93 := ((f31.other W88 (Or.inl n92)).other W91 (Or.inl n30))
  have n94 := Nat.ne_of_lt (Nat.lt_of_lt_of_le l32 (Nat.le_of_eq g5.symm))
  have f95 := ((f34.other W88 n94).other W91 n33)
  have o96 := Old.wr o35 W88 g87
  have o97 := Old.wr o96 W91 g26
  have f99 := ((f37.wr W88).wr W91)
  obtain ⟨_, T98, Lc98, X98, hQ98, st98⟩ := own_cI (xi := mN32) X91 hx hZ hown e91 (rm46_1 l Z a0 hw [] r0 r1 c2 r3 r4 r5 h91 n0 o97 f93 f95) f99 (w 205 rfl) (w 206 rfl) (w 207 rfl) (w 308 rfl) (w 309 rfl) (w 310 rfl) (w 311 rfl) (w 312 rfl) (w 313 rfl) (w 295 rfl) (by decide) (W := 1) (by decide) (by decide) (by decide) (by decide) (g := (mkF m 26 #[lR r0, lR b5, lR b11, lV vI1, lV vI2, lR r7] [(.ref r0), vI2])) rfl (by rw [hml]; rfl) (argsL := []) (rest := [vI2]) (lenOf pd___I rfl) rfl (own_W rfl) (hb hby d29_26)
  obtain ⟨rfl, N98q, E98⟩ := hQ98
  have N98 := Fr.app N91 N98q
  obtain ⟨_, T100, Lc100, X100, hQ100, st100⟩ := own_cI (xi := mN33) X98 hx hZ hown E98 (rm47_3 l Z a0 hw [] r0 r1 c2 r3 r4 r5 h91 n0 o97 f93 f95) f99 (w 215 rfl) (w 216 rfl) (w 217 rfl) (w 314 rfl) (w 315 rfl) (w 316 rfl) (w 317 rfl) (w 312 rfl) (w 318 rfl) (w 295 rfl) (by decide) (W := 0) (by decide) (by decide) (by decide) (by decide) (g := (mkF m 37 #[lR r0, lR b5, lR b11, lV vI1, lV vI2, lR r7] [vI2, (.ref r0)])) rfl (by rw [hml]; rfl) (argsL := [vI2]) (rest := []) (lenOf pd__I_Ljava_lang_Object_ rfl) rfl (own_W rfl) (hb hby d29_37)
  obtain ⟨rfl, N100q, E100⟩ := hQ100
  have N100 := Fr.app N98 N100q
  have f102 := (((((f101.ext E5).ext E11).wr W27).wr W88).wr W91)
  obtain ⟨T103, X103, e103, st103⟩ := castY X100 hx hZ hown (w 223 rfl) E100 (Ins.self f102) (g := (mkF m 42 #[lR r0, lR b5, lR b11, lV vI1, lV vI2, lR r7] [(.ref r5)])) rfl rfl (hb hby d29_42)
  have n106 := Nat.ne_of_lt (Nat.lt_of_lt_of_le (Nat.lt_of_lt_of_le l105 zs29) (Nat.le_of_eq g11.symm))
  have n107 := Nat.ne_of_lt (Nat.lt_of_lt_of_le l105 (Nat.le_of_eq g5.symm))
  have f108 := (((((f104.ext E5).ext E11).other W27 (Or.inl n106)).other W88 (Or.inl n107)).other W91 (Or.inl n106))
  obtain ⟨_, T109, Lc109, X109, hQ109, st109⟩ := own_cV X103 hx hZ hown e103 (rm32_1 l Z a0 hw [] r5 r15 h91 n0 o97 f108) f102 (w 225 rfl) (w 226 rfl) (w 228 rfl) (w 227 rfl) (w 229 rfl) (w 28 rfl) (by decide) (W := 0) (by decide) (by decide) (by decide) (by decide) (g := (mkF m 45 #[lR r0, lR b5, lR b11, lV vI1, lV vI2, lR r7] [(.ref r5)])) rfl (by rw [hml]; rfl) (argsL := []) (rest := []) (lenOf pd___Ljava_lang_String_ rfl) rfl (own_W rfl) (hb hby d29_45)
  obtain ⟨rfl, N109q, E109⟩ := hQ109
  have N109 := Fr.app N100 N109q
  obtain ⟨clq110, Arq110, qq110, Sq110, Nq110, Hq110, Gq110⟩ := id V91
  obtain ⟨_, T111, Lc111, X111, hQ111, st111⟩ := own_cI (xi := mN33) X109 hx hZ hown E109 (rm47_2 l Z a0 hw [] r0 r1 c2 r3 r4 r5 h91 n0 o97 f93 f95) f99 (w 215 rfl) (w 216 rfl) (w 217 rfl) (w 314 rfl) (w 315 rfl) (w 316 rfl) (w 317 rfl) (w 312 rfl) (w 318 rfl) (w 295 rfl) (by decide) (W := 0) (by decide) (by decide) (by decide) (by decide) (g := (mkF m 60 #[lR r0, lR b5, lR b11, lV vI1, lV vI2, lR r15] [vI1, (.ref r0)])) rfl (by rw [hml]; rfl) (argsL := [vI1]) (rest := []) (lenOf pd__I_Ljava_lang_Object_ rfl) rfl (own_W rfl) (hb hby d29_60)
  obtain ⟨rfl, N111q, E111⟩ := hQ111
  have N111 := Fr.app N109 N111q
  have f112 := ((f40.wr W88).wr W91)
  obtain ⟨T113, X113, e113, st113⟩ := castY X111 hx hZ hown (w 223 rfl) E111 (Ins.self f112) (g := (mkF m 65 #[lR r0, lR b5, lR b11, lV vI1, lV vI2, lR r15] [(.ref r4)])) rfl rfl (hb hby d29_65)
  have n114 := Nat.ne_of_lt (Nat.lt_of_lt_of_le l43 (Nat.le_of_eq g5.symm))
  have f115 := ((f45.other W88 (Or.inl n114)).other W91 (Or.inl n44))
  have f117 := (((((f116.ext E5).ext E11).wr W27).wr W88).wr W91)
  have n120 := Nat.ne_of_lt (Nat.lt_of_lt_of_le (Nat.lt_of_lt_of_le l119 zs29) (Nat.le_of_eq g11.symm))
  have n121 := Nat.ne_of_lt (Nat.lt_of_lt_of_le l119 (Nat.le_of_eq g5.symm))
  have f122 := (((((f118.ext E5).ext E11).other W27 (Or.inl n120)).other W88 (Or.inl n121)).other W91 (Or.inl n120))
  have n125 := Nat.ne_of_lt (Nat.lt_of_lt_of_le (Nat.lt_of_lt_of_le l124 zs29) (Nat.le_of_eq g11.symm))
  have n126 := Nat.ne_of_lt (Nat.lt_of_lt_of_le l124 (Nat.le_of_eq g5.symm))
  have f127 := (((((f123.ext E5).ext E11).other W27 n125).other W88 n126).other W91 n125)
  have f129 := (((((f128.ext E5).ext E11).other W27 (Or.inl n120)).other W88 (Or.inl n121)).other W91 (Or.inl n120))
  have f130 := ((f55.wr W88).wr W91)
  have n131 := Nat.ne_of_lt (Nat.lt_of_lt_of_le l57 (Nat.le_of_eq g5.symm))
  have f132 := ((f59.other W88 (Or.inl n131)).other W91 (Or.inl n58))
  have n133 := Nat.ne_of_lt (Nat.lt_of_lt_of_le l61 (Nat.le_of_eq g5.symm))
  have f134 := ((f63.other W88 n133).other W91 n62)
  have f135 := ((f67.other W88 (Or.inl n131)).other W91 (Or.inl n58))
  obtain ⟨_, T137, Lc137, X137, hQ137, st137⟩ := own_cV X113 hx hZ hown e113 (rm48_2 l Z a0 hw [] r4 r15 r7 r16 c17 x18 x11 r8 c9 x10 h91 n0 o97 f115 f117 f122 f127 f64 hc65 f129 f130 f132 f134 f135 hc136) f112 (w 319 rfl) (w 320 rfl) (w 322 rfl) (w 321 rfl) (w 323 rfl) (w 28 rfl) (by decide) (W := 0) (by decide) (by decide) (by decide) (by decide) (g := (mkF m 70 #[lR r0, lR b5, lR b11, lV vI1, lV vI2, lR r15] [(.ref r15), (.ref r4)])) rfl (by rw [hml]; rfl) (argsL := [(.ref r15)]) (rest := []) (lenOf pd__Ljava_lang_String__Z rfl) rfl (own_W rfl) (hb hby d29_70)
  obtain ⟨rfl, N137q, E137⟩ := hQ137
  have N137 := Fr.app N111 N137q
  obtain ⟨clq138, Arq138, qq138, Sq138, Nq138, Hq138, Gq138⟩ := id V91
  have f139 := (V88.other W91 n83)
  obtain ⟨clq140, Arq140, qq140, Sq140, Nq140, Hq140, Gq140⟩ := id f139
  obtain ⟨T141, h141, X141, e141, W141, st141⟩ := stI X137 hx hZ E137 Arq140 (j := (1 : Int32)) (inb_of Sq140 ⟨(by decide : ¬ ((1 : Int32) < (0 : Int32))), (by decide : (1 : Int32) < (3 : Int32))⟩) (g := (mkF m 85 #[lR r0, lR b5, lR b11, lV vI0, lV vI2, lR r15] [vI2, vI1, (.ref b5)])) rfl rfl (hb hby d29_85)
  have V141 : Arv Z h141 b5 k5 .int (3 : Int32) [vI1, vI2, vI0] vI0 := Arv.set Arq140 qq140 Sq140 Nq140 Hq140 Gq140 rfl W141 1 rfl (Nat.le_of_ble_eq_true rfl)
  have N141 := Fr.snoc X141 N137 g87
  have f142 := (V91.other W141 (Ne.symm n83))
  obtain ⟨clq143, Arq143, qq143, Sq143, Nq143, Hq143, Gq143⟩ := id f142
  obtain ⟨T144, h144, X144, e144, W144, st144⟩ := stI X141 hx hZ e141 Arq143 (j := (0 : Int32)) (inb_of Sq143 ⟨(by decide : ¬ ((0 : Int32) < (0 : Int32))), (by decide : (0 : Int32) < (3 : Int32))⟩) (g := (mkF m 93 #[lR r0, lR b5, lR b11, lV vI0, lV vI2, lR r15] [vI2, vI0, (.ref b11)])) rfl rfl (hb hby d29_93)
  have V144 : Arv Z h144 b11 k11 .int (3 : Int32) [vI2, vI0, vI0] vI0 := Arv.set Arq143 qq143 Sq143 Nq143 Hq143 Gq143 rfl W144 0 rfl (Nat.le_of_ble_eq_true rfl)
  have N144 := Fr.snoc X144 N141 g26
  have f145 := ((f93.other W141 (Or.inl n92)).other W144 (Or.inl n30))
  have f146 := ((f95.other W141 n94).other W144 n33)
  have o147 := Old.wr o97 W141 g87
  have o148 := Old.wr o147 W144 g26
  have f150 := ((f99.wr W141).wr W144)
  obtain ⟨_, T149, Lc149, X149, hQ149, st149⟩ := own_cI (xi := mN32) X144 hx hZ hown e144 (rm46_1 l Z a0 hw [] r0 r1 c2 r3 r4 r5 h144 n0 o148 f145 f146) f150 (w 205 rfl) (w 206 rfl) (w 207 rfl) (w 308 rfl) (w 309 rfl) (w 310 rfl) (w 311 rfl) (w 312 rfl) (w 313 rfl) (w 295 rfl) (by decide) (W := 1) (by decide) (by decide) (by decide) (by decide) (g := (mkF m 26 #[lR r0, lR b5, lR b11, lV vI1, lV vI3, lR r15] [(.ref r0), vI3])) rfl (by rw [hml]; rfl) (argsL := []) (rest := [vI3]) (lenOf pd___I rfl) rfl (own_W rfl) (hb hby d29_26)
  obtain ⟨rfl, N149q, E149⟩ := hQ149
  have N149 := Fr.app N144 N149q
  obtain ⟨clq151, Arq151, qq151, Sq151, Nq151, Hq151, Gq151⟩ := id V144
  obtain ⟨_, T152, Lc152, X152, hQ152, st152⟩ := own_cI (xi := mN32) X149 hx hZ hown E149 (rm46_1 l Z a0 hw [] r0 r1 c2 r3 r4 r5 h144 n0 o148 f145 f146) f150 (w 205 rfl) (w 206 rfl) (w 207 rfl) (w 308 rfl) (w 309 rfl) (w 310 rfl) (w 311 rfl) (w 312 rfl) (w 313 rfl) (w 295 rfl) (by decide) (W := 2) (by decide) (by decide) (by decide) (by decide) (g := (mkF m 115 #[lR r0, lR b5, lR b11, lV vI0, lV vI3, lR r15] [(.ref r0), vI2, (.ref b5)])) rfl (by rw [hml]; rfl) (argsL := []) (rest := [vI2, (.ref b5)]) (lenOf pd___I rfl) rfl (own_W rfl) (hb hby d29_115)
  obtain ⟨rfl, N152q, E152⟩ := hQ152
  have N152 := Fr.app N149 N152q
  have f153 := (V141.other W144 n83)
  obtain ⟨clq154, Arq154, qq154, Sq154, Nq154, Hq154, Gq154⟩ := id f153
  obtain ⟨T155, h155, X155, e155, W155, st155⟩ := stI X152 hx hZ E152 Arq154 (j := (2 : Int32)) (inb_of Sq154 ⟨(by decide : ¬ ((2 : Int32) < (0 : Int32))), (by decide : (2 : Int32) < (3 : Int32))⟩) (g := (mkF m 120 #[lR r0, lR b5, lR b11, lV vI0, lV vI3, lR r15] [vI3, vI2, (.ref b5)])) rfl rfl (hb hby d29_120)
  have V155 : Arv Z h155 b5 k5 .int (3 : Int32) [vI1, vI2, vI3] vI0 := Arv.set Arq154 qq154 Sq154 Nq154 Hq154 Gq154 rfl W155 2 rfl (Nat.le_of_ble_eq_true rfl)
  have N155 := Fr.snoc X155 N152 g87
  have f156 := (((((((B5.ext E11).wr W27).wr W88).wr W91).wr W141).wr W144).wr W155)
  have kp157 : Keep h0 h5 [] := (Keep.refl h0 []).ext E5
  have kp158 : Keep h0 h11 [] := kp157.ext E11
  have kp159 : Keep h0 h27 [] := kp158.wr W27 (Or.inr (Nat.le_trans zs29 (Nat.le_of_eq g11.symm)))
  have kp160 : Keep h0 h88 [] := kp159.wr W88 (Or.inr (Nat.le_of_eq g5.symm))
  have kp161 : Keep h0 h91 [] := kp160.wr W91 (Or.inr (Nat.le_trans zs29 (Nat.le_of_eq g11.symm)))
  have kp162 : Keep h0 h141 [] := kp161.wr W141 (Or.inr (Nat.le_of_eq g5.symm))
  have kp163 : Keep h0 h144 [] := kp162.wr W144 (Or.inr (Nat.le_trans zs29 (Nat.le_of_eq g11.symm)))
  have kp164 : Keep h0 h155 [] := kp163.wr W155 (Or.inr (Nat.le_of_eq g5.symm))
  refine ⟨some (.ref b5), _, _, _, _, nofun, X155, by decide, by decide, ?_, fun fs hr => ?_⟩
  · rw [e155]; exact ⟨b5, k5, rfl, N155, kp164, (Nat.le_of_eq g5.symm), V155, f156⟩
  · show SG p e below s₁ (mkF m 0 #[lR r0, lU, lU, lU, lU, lU] []) _
    refine qaN X0 hx hby d29_0 ?_
    refine st4 _ ?_
    refine st5 _ ?_
    refine XS.astoreN X5.here hx rfl (hb hby d29_8) rfl rfl (l' := #[lR r0, lR b5, lU, lU, lU, lU]) rfl ?_
    refine qaN X5 hx hby d29_9 ?_
    refine st9 _ ?_
    refine st11 _ ?_
    refine XS.astoreN X11.here hx rfl (hb hby d29_17) rfl rfl (l' := #[lR r0, lR b5, lR b11, lU, lU, lU]) rfl ?_
    refine qc X11 hx hby d29_18 ?_
    refine XS.istoreN X11.here hx rfl (hb hby d29_19) rfl (l' := #[lR r0, lR b5, lR b11, lV vI0, lU, lU]) rfl ?_
    show SG p e below T11 (mkF m 20 #[lR r0, lR b5, lR b11, lV vI0, lU, lU] []) _
    refine qc X11 hx hby d29_20 ?_
    refine XS.istore X11.here hx rfl (hb hby d29_21) rfl (l' := #[lR r0, lR b5, lR b11, lV vI0, lV vI0, lU]) rfl ?_
    refine qi X11 hx hby d29_23 ?_
    refine qaN X11 hx hby d29_25 ?_
    refine st15 _ ?_
    refine XS.icmpNo X15.here hx rfl (hb hby d29_31) rfl (tlt (by decide : (0 : Int32) < (3 : Int32))).2.1 ?_
    refine qaN X15 hx hby d29_34 ?_
    refine qi X15 hx hby d29_35 ?_
    refine st17 _ ?_
    refine st20 _ ?_
    show SG p e below T20 (mkF m 45 #[lR r0, lR b5, lR b11, lV vI0, lV vI0, lU] [(.ref r3)]) _
    refine st23 _ ?_
    refine XS.astore X23.here hx rfl (hb hby d29_48) rfl rfl (l' := #[lR r0, lR b5, lR b11, lV vI0, lV vI0, lR r6]) rfl ?_
    refine qiN X23 hx hby d29_50 ?_
    refine XS.ifYes X23.here hx rfl (pc0 := 51) (pc' := 89) rfl (hb hby d29_51) rfl ((if0 _ _).trans (flt (by decide : ¬ ((0 : Int32) < (0 : Int32)))).2.2.2) (by decide) (by decide) ?_
    refine qaN X23 hx hby d29_89 ?_
    refine qiN X23 hx hby d29_90 ?_
    refine qi X23 hx hby d29_91 ?_
    refine st27 _ ?_
    refine XS.iinc X27.here hx rfl (hb hby d29_94) rfl (l' := #[lR r0, lR b5, lR b11, lV vI1, lV vI0, lR r6]) rfl ?_
    refine XS.iinc X27.here hx rfl (hb hby d29_97) rfl (l' := #[lR r0, lR b5, lR b11, lV vI1, lV vI1, lR r6]) rfl ?_
    show SG p e below T27 (mkF m 100 #[lR r0, lR b5, lR b11, lV vI1, lV vI1, lR r6] []) _
    refine XS.goto X27.here hx rfl (pc0 := 100) (pc' := 23) rfl (hb hby d29_100) (by decide) (by decide) ?_
    refine qi X27 hx hby d29_23 ?_
    refine qaN X27 hx hby d29_25 ?_
    refine st36 _ ?_
    refine XS.icmpNo X36.here hx rfl (hb hby d29_31) rfl (tlt (by decide : (1 : Int32) < (3 : Int32))).2.1 ?_
    refine qaN X36 hx hby d29_34 ?_
    refine qi X36 hx hby d29_35 ?_
    refine st38 _ ?_
    refine st41 _ ?_
    refine st46 _ ?_
    show SG p e below T46 (mkF m 48 #[lR r0, lR b5, lR b11, lV vI1, lV vI1, lR r6] [(.ref r7)]) _
    refine XS.astore X46.here hx rfl (hb hby d29_48) rfl rfl (l' := #[lR r0, lR b5, lR b11, lV vI1, lV vI1, lR r7]) rfl ?_
    refine qiN X46 hx hby d29_50 ?_
    refine XS.ifNo X46.here hx rfl (hb hby d29_51) rfl ((if0 _ _).trans (tlt (by decide : (0 : Int32) < (1 : Int32))).2.2.2) ?_
    refine qaN X46 hx hby d29_54 ?_
    refine qaN X46 hx hby d29_55 ?_
    refine qiN X46 hx hby d29_56 ?_
    refine qc X46 hx hby d29_57 ?_
    refine XS.isub X46.here hx rfl (hb hby d29_58) rfl ?_
    refine X46.iaload hx (j := (0 : Int32)) (v := vI0) (by rw [E46]; exact Arq47.1) (State.isArrayOf_alike hZ.alike Arq47.2.1) Arq47.2.2 (inb_of Sq47 ⟨(by decide : ¬ ((0 : Int32) < (0 : Int32))), (by decide : (0 : Int32) < (3 : Int32))⟩) (Has.at Hq47 (inb_of Sq47 ⟨(by decide : ¬ ((0 : Int32) < (0 : Int32))), (by decide : (0 : Int32) < (3 : Int32))⟩) rfl) (g := (mkF m 59 #[lR r0, lR b5, lR b11, lV vI1, lV vI1, lR r7] [vI0, (.ref b11), (.ref r0)])) rfl rfl (hb hby d29_59) _ ?_
    refine st48 _ ?_
    show SG p e below T48 (mkF m 65 #[lR r0, lR b5, lR b11, lV vI1, lV vI1, lR r7] [(.ref r3)]) _
    refine st50 _ ?_
    refine qa X50 hx hby d29_68 ?_
    refine st81 _ ?_
    refine XS.ifNo X81.here hx rfl (hb hby d29_73) rfl ((if0 _ _).trans (teq (rfl : (0 : Int32) = (0 : Int32))).2) ?_
    refine XS.iinc X81.here hx rfl (hb hby d29_76) rfl (l' := #[lR r0, lR b5, lR b11, lV vI0, lV vI1, lR r7]) rfl ?_
    refine qaN X81 hx hby d29_79 ?_
    refine qaN X81 hx hby d29_80 ?_
    refine qiN X81 hx hby d29_81 ?_
    refine X81.iaload hx (j := (0 : Int32)) (v := vI0) (by rw [E81]; exact Arq82.1) (State.isArrayOf_alike hZ.alike Arq82.2.1) Arq82.2.2 (inb_of Sq82 ⟨(by decide : ¬ ((0 : Int32) < (0 : Int32))), (by decide : (0 : Int32) < (3 : Int32))⟩) (Has.at Hq82 (inb_of Sq82 ⟨(by decide : ¬ ((0 : Int32) < (0 : Int32))), (by decide : (0 : Int32) < (3 : Int32))⟩) rfl) (g := (mkF m 82 #[lR r0, lR b5, lR b11, lV vI0, lV vI1, lR r7] [vI0, (.ref b11), (.ref b5)])) rfl rfl (hb hby d29_82) _ ?_
    refine qi X81 hx hby d29_83 ?_
    show SG p e below T81 (mkF m 85 #[lR r0, lR b5, lR b11, lV vI0, lV vI1, lR r7] [vI1, vI0, (.ref b5)]) _
    refine st88 _ ?_
    refine XS.goto X88.here hx rfl (pc0 := 86) (pc' := 50) rfl (hb hby d29_86) (by decide) (by decide) ?_
    refine qiN X88 hx hby d29_50 ?_
    refine XS.ifYes X88.here hx rfl (pc0 := 51) (pc' := 89) rfl (hb hby d29_51) rfl ((if0 _ _).trans (flt (by decide : ¬ ((0 : Int32) < (0 : Int32)))).2.2.2) (by decide) (by decide) ?_
    refine qaN X88 hx hby d29_89 ?_
    refine qiN X88 hx hby d29_90 ?_
    refine qi X88 hx hby d29_91 ?_
    refine st91 _ ?_
    refine XS.iinc X91.here hx rfl (hb hby d29_94) rfl (l' := #[lR r0, lR b5, lR b11, lV vI1, lV vI1, lR r7]) rfl ?_
    refine XS.iinc X91.here hx rfl (hb hby d29_97) rfl (l' := #[lR r0, lR b5, lR b11, lV vI1, lV vI2, lR r7]) rfl ?_
    show SG p e below T91 (mkF m 100 #[lR r0, lR b5, lR b11, lV vI1, lV vI2, lR r7] []) _
    refine XS.goto X91.here hx rfl (pc0 := 100) (pc' := 23) rfl (hb hby d29_100) (by decide) (by decide) ?_
    refine qi X91 hx hby d29_23 ?_
    refine qaN X91 hx hby d29_25 ?_
    refine st98 _ ?_
    refine XS.icmpNo X98.here hx rfl (hb hby d29_31) rfl (tlt (by decide : (2 : Int32) < (3 : Int32))).2.1 ?_
    refine qaN X98 hx hby d29_34 ?_
    refine qi X98 hx hby d29_35 ?_
    refine st100 _ ?_
    refine st103 _ ?_
    refine st109 _ ?_
    show SG p e below T109 (mkF m 48 #[lR r0, lR b5, lR b11, lV vI1, lV vI2, lR r7] [(.ref r15)]) _
    refine XS.astore X109.here hx rfl (hb hby d29_48) rfl rfl (l' := #[lR r0, lR b5, lR b11, lV vI1, lV vI2, lR r15]) rfl ?_
    refine qiN X109 hx hby d29_50 ?_
    refine XS.ifNo X109.here hx rfl (hb hby d29_51) rfl ((if0 _ _).trans (tlt (by decide : (0 : Int32) < (1 : Int32))).2.2.2) ?_
    refine qaN X109 hx hby d29_54 ?_
    refine qaN X109 hx hby d29_55 ?_
    refine qiN X109 hx hby d29_56 ?_
    refine qc X109 hx hby d29_57 ?_
    refine XS.isub X109.here hx rfl (hb hby d29_58) rfl ?_
    refine X109.iaload hx (j := (0 : Int32)) (v := vI1) (by rw [E109]; exact Arq110.1) (State.isArrayOf_alike hZ.alike Arq110.2.1) Arq110.2.2 (inb_of Sq110 ⟨(by decide : ¬ ((0 : Int32) < (0 : Int32))), (by decide : (0 : Int32) < (3 : Int32))⟩) (Has.at Hq110 (inb_of Sq110 ⟨(by decide : ¬ ((0 : Int32) < (0 : Int32))), (by decide : (0 : Int32) < (3 : Int32))⟩) rfl) (g := (mkF m 59 #[lR r0, lR b5, lR b11, lV vI1, lV vI2, lR r15] [vI0, (.ref b11), (.ref r0)])) rfl rfl (hb hby d29_59) _ ?_
    refine st111 _ ?_
    show SG p e below T111 (mkF m 65 #[lR r0, lR b5, lR b11, lV vI1, lV vI2, lR r15] [(.ref r4)]) _
    refine st113 _ ?_
    refine qa X113 hx hby d29_68 ?_
    refine st137 _ ?_
    refine XS.ifNo X137.here hx rfl (hb hby d29_73) rfl ((if0 _ _).trans (teq (rfl : (0 : Int32) = (0 : Int32))).2) ?_
    refine XS.iinc X137.here hx rfl (hb hby d29_76) rfl (l' := #[lR r0, lR b5, lR b11, lV vI0, lV vI2, lR r15]) rfl ?_
    refine qaN X137 hx hby d29_79 ?_
    refine qaN X137 hx hby d29_80 ?_
    refine qiN X137 hx hby d29_81 ?_
    refine X137.iaload hx (j := (0 : Int32)) (v := vI1) (by rw [E137]; exact Arq138.1) (State.isArrayOf_alike hZ.alike Arq138.2.1) Arq138.2.2 (inb_of Sq138 ⟨(by decide : ¬ ((0 : Int32) < (0 : Int32))), (by decide : (0 : Int32) < (3 : Int32))⟩) (Has.at Hq138 (inb_of Sq138 ⟨(by decide : ¬ ((0 : Int32) < (0 : Int32))), (by decide : (0 : Int32) < (3 : Int32))⟩) rfl) (g := (mkF m 82 #[lR r0, lR b5, lR b11, lV vI0, lV vI2, lR r15] [vI0, (.ref b11), (.ref b5)])) rfl rfl (hb hby d29_82) _ ?_
    refine qi X137 hx hby d29_83 ?_
    show SG p e below T137 (mkF m 85 #[lR r0, lR b5, lR b11, lV vI0, lV vI2, lR r15] [vI2, vI1, (.ref b5)]) _
    refine st141 _ ?_
    refine XS.goto X141.here hx rfl (pc0 := 86) (pc' := 50) rfl (hb hby d29_86) (by decide) (by decide) ?_
    refine qiN X141 hx hby d29_50 ?_
    refine XS.ifYes X141.here hx rfl (pc0 := 51) (pc' := 89) rfl (hb hby d29_51) rfl ((if0 _ _).trans (flt (by decide : ¬ ((0 : Int32) < (0 : Int32)))).2.2.2) (by decide) (by decide) ?_
    refine qaN X141 hx hby d29_89 ?_
    refine qiN X141 hx hby d29_90 ?_
    refine qi X141 hx hby d29_91 ?_
    refine st144 _ ?_
    refine XS.iinc X144.here hx rfl (hb hby d29_94) rfl (l' := #[lR r0, lR b5, lR b11, lV vI1, lV vI2, lR r15]) rfl ?_
    refine XS.iinc X144.here hx rfl (hb hby d29_97) rfl (l' := #[lR r0, lR b5, lR b11, lV vI1, lV vI3, lR r15]) rfl ?_
    show SG p e below T144 (mkF m 100 #[lR r0, lR b5, lR b11, lV vI1, lV vI3, lR r15] []) _
    refine XS.goto X144.here hx rfl (pc0 := 100) (pc' := 23) rfl (hb hby d29_100) (by decide) (by decide) ?_
    refine qi X144 hx hby d29_23 ?_
    refine qaN X144 hx hby d29_25 ?_
    refine st149 _ ?_
    refine XS.icmpYes X149.here hx rfl (pc0 := 31) (pc' := 103) rfl (hb hby d29_31) rfl (flt (by decide : ¬ ((3 : Int32) < (3 : Int32)))).2.1 (by decide) (by decide) ?_
    refine qiN X149 hx hby d29_103 ?_
    refine XS.ifNo X149.here hx rfl (hb hby d29_104) rfl ((if0 _ _).trans (tlt (by decide : (0 : Int32) < (1 : Int32))).2.2.2) ?_
    refine XS.iinc X149.here hx rfl (hb hby d29_107) rfl (l' := #[lR r0, lR b5, lR b11, lV vI0, lV vI3, lR r15]) rfl ?_
    refine qaN X149 hx hby d29_110 ?_
    refine qaN X149 hx hby d29_111 ?_
    show SG p e below T149 (mkF m 112 #[lR r0, lR b5, lR b11, lV vI0, lV vI3, lR r15] [(.ref b11), (.ref b5)]) _
    refine qiN X149 hx hby d29_112 ?_
    refine X149.iaload hx (j := (0 : Int32)) (v := vI2) (by rw [E149]; exact Arq151.1) (State.isArrayOf_alike hZ.alike Arq151.2.1) Arq151.2.2 (inb_of Sq151 ⟨(by decide : ¬ ((0 : Int32) < (0 : Int32))), (by decide : (0 : Int32) < (3 : Int32))⟩) (Has.at Hq151 (inb_of Sq151 ⟨(by decide : ¬ ((0 : Int32) < (0 : Int32))), (by decide : (0 : Int32) < (3 : Int32))⟩) rfl) (g := (mkF m 113 #[lR r0, lR b5, lR b11, lV vI0, lV vI3, lR r15] [vI0, (.ref b11), (.ref b5)])) rfl rfl (hb hby d29_113) _ ?_
    refine qaN X149 hx hby d29_114 ?_
    refine st152 _ ?_
    refine st155 _ ?_
    refine XS.goto X155.here hx rfl (pc0 := 121) (pc' := 103) rfl (hb hby d29_121) (by decide) (by decide) ?_
    refine qiN X155 hx hby d29_103 ?_
    refine XS.ifYes X155.here hx rfl (pc0 := 104) (pc' := 124) rfl (hb hby d29_104) rfl ((if0 _ _).trans (flt (by decide : ¬ ((0 : Int32) < (0 : Int32)))).2.2.2) (by decide) (by decide) ?_
    refine qaN X155 hx hby d29_124 ?_
    exact retOut X155 hx (i := .areturn) hret rfl (Or.inr (Or.inr (Or.inr (Or.inr ⟨rfl, rfl, rfl⟩)))) (hb hby d29_125) hr
def Q29_10 (Z : State) (r0 r1 r2 : Addr) (c3 : ClassId) (x4 : Int32) (r5 r6 : Addr) (c7 : ClassId) (x8 : Int32) (r9 r10 : Addr) (c11 : ClassId) (x12 : Int32) (r13 : Addr) (c14 : ClassId) (r15 r16 r17 : Addr) (x18 : Int32) (h0 : Heap) (n0 : Nat) (v : Option Value) (h : Heap) (L : List Loc) : Prop := ∃ bo : Addr, v = some (.ref bo) ∧ Fr n0 L ∧ Keep h0 h [] ∧ True
theorem rm29_10 (l : Launch) (Z : State) (a0 : Array Value) (hw : own_HW a0 Z) (ws : List Jvm.Cond) (r0 r1 r2 : Addr) (c3 : ClassId) (x4 : Int32) (r5 r6 : Addr) (c7 : ClassId) (x8 : Int32) (r9 r10 : Addr) (c11 : ClassId) (x12 : Int32) (r13 : Addr) (c14 : ClassId) (r15 r16 r17 : Addr) (x18 : Int32) (h0 : Heap) (n0 : Nat) (O0 : Old Z n0 h0) (f1 : Fld Z h0 r2 "java/lang/String" "value" "[B" (.ref r1)) (f2 : Arv Z h0 r1 c3 .byte (1 : Int32) [(.int x4)] vI0) (f3 : Fld Z h0 r6 "java/lang/String" "value" "[B" (.ref r5)) (f4 : Arv Z h0 r5 c7 .byte (1 : Int32) [(.int x8)] vI0) (f5 : Fld Z h0 r10 "java/lang/String" "value" "[B" (.ref r9)) (f6 : Arv Z h0 r9 c11 .byte (1 : Int32) [(.int x12)] vI0) (f7 : Exa Z h0 r0 cs14) (f8 : Fld Z h0 r0 cs14 "elements" "[Ljava/lang/Object;" (.ref r13)) (f9 : Arv Z h0 r13 c14 (.object "java/lang/Object") (3 : Int32) [(.ref r15), (.ref r16), (.ref r17)] .null) (f10 : Exa Z h0 r15 cs0) (f11 : Fld Z h0 r15 cs0 "path" "Ljava/lang/String;" (.ref r2)) (l12 : r0 < h0.size) (l13 : r13 < h0.size) (f14 : Exa Z h0 r16 cs0) (f15 : Fld Z h0 r16 cs0 "path" "Ljava/lang/String;" (.ref r6)) (l16 : r16 < h0.size) (l17 : r15 < h0.size) (f18 : Exa Z h0 r6 "java/lang/String") (l19 : r6 < h0.size) (l20 : r5 < h0.size) (f21 : Sta Z Z.heap "java/lang/String" "COMPACT_STRINGS" "Z" (.int x18)) (f22 : Fld Z h0 r6 "java/lang/String" "coder" "B" vI0) (f23 : Exa Z h0 r2 "java/lang/String") (l24 : r2 < h0.size) (l25 : r1 < h0.size) (f26 : Fld Z h0 r2 "java/lang/String" "coder" "B" vI0) (f27 : Exa Z h0 r17 cs0) (f28 : Fld Z h0 r17 cs0 "path" "Ljava/lang/String;" (.ref r10)) (l29 : r17 < h0.size) (f30 : Exa Z h0 r10 "java/lang/String") (l31 : r10 < h0.size) (l32 : r9 < h0.size) (f33 : Fld Z h0 r10 "java/lang/String" "coder" "B" vI0) (hc34 : ¬ (x18 = (0 : Int32))) :
    own_MF l mN31 prog_2_method_12_code 6 (some (.array .int)) ws rR5_2_6_72 Z h0 #[(.ref r0)] (Q29_10 Z r0 r1 r2 c3 x4 r5 r6 c7 x8 r9 r10 c11 x12 r13 c14 r15 r16 r17 x18 h0 n0) := by
  intro p e ha hc hk s m args below hf happ hP hK
  by_cases g0 : x8 = x4
  · by_cases g1 : x12 = x8
    · obtain ⟨nn, o, h1, h2, h3, v, L, rfl, hQ, hE⟩ := rm29_6 l Z a0 hw ws r0 r13 c14 r15 r16 r17 r2 r6 r5 c7 x8 x18 r1 c3 x4 r10 r9 c11 x12 h0 n0 O0 f7 f8 f9 f10 f11 l12 l13 f14 f15 l16 l17 f18 f3 l19 f4 l20 f21 hc34 f22 f23 f1 l24 f2 l25 f26 g0 f27 f28 l29 f30 f5 l31 f6 l32 f33 g1 p e ha hc hk s m args below hf happ hP hK
      obtain ⟨b5, k5, rfl, N, K, e0, e1, e2⟩ := hQ
      exact ⟨nn, _, h1, h2, h3, _, L, rfl, ⟨_, rfl, N, K, trivial⟩, hE⟩
    · obtain ⟨nn, o, h1, h2, h3, v, L, rfl, hQ, hE⟩ := rm29_7 l Z a0 hw ws r0 r13 c14 r15 r16 r17 r2 r6 r5 c7 x8 x18 r1 c3 x4 r10 r9 c11 x12 h0 n0 O0 f7 f8 f9 f10 f11 l12 l13 f14 f15 l16 l17 f18 f3 l19 f4 l20 f21 hc34 f22 f23 f1 l24 f2 l25 f26 g0 f27 f28 l29 f30 f5 l31 f6 l32 f33 g1 (by simp_all) p e ha hc hk s m args below hf happ hP hK
      obtain ⟨b5, k5, rfl, N, K, e0, e1, e2⟩ := hQ
      exact ⟨nn, _, h1, h2, h3, _, L, rfl, ⟨_, rfl, N, K, trivial⟩, hE⟩
  · by_cases g1 : x12 = x8
    · obtain ⟨nn, o, h1, h2, h3, v, L, rfl, hQ, hE⟩ := rm29_8 l Z a0 hw ws r0 r13 c14 r15 r16 r17 r2 r6 r5 c7 x8 x18 r1 c3 x4 r10 r9 c11 x12 h0 n0 O0 f7 f8 f9 f10 f11 l12 l13 f14 f15 l16 l17 f18 f3 l19 f4 l20 f21 hc34 f22 f23 f1 l24 f2 l25 f26 g0 f27 f28 l29 f30 f5 l31 f6 l32 f33 g1 p e ha hc hk s m args below hf happ hP hK
      obtain ⟨b5, k5, rfl, N, K, e0, e1, e2⟩ := hQ
      exact ⟨nn, _, h1, h2, h3, _, L, rfl, ⟨_, rfl, N, K, trivial⟩, hE⟩
    · obtain ⟨nn, o, h1, h2, h3, v, L, rfl, hQ, hE⟩ := rm29_9 l Z a0 hw ws r0 r13 c14 r15 r16 r17 r2 r6 r5 c7 x8 x18 r1 c3 x4 r10 r9 c11 x12 h0 n0 O0 f7 f8 f9 f10 f11 l12 l13 f14 f15 l16 l17 f18 f3 l19 f4 l20 f21 hc34 f22 f23 f1 l24 f2 l25 f26 g0 f27 f28 l29 f30 f5 l31 f6 l32 f33 g1 p e ha hc hk s m args below hf happ hP hK
      obtain ⟨b5, k5, rfl, N, K, e0, e1, e2⟩ := hQ
      exact ⟨nn, _, h1, h2, h3, _, L, rfl, ⟨_, rfl, N, K, trivial⟩, hE⟩
theorem d35_66 : DK cB35 66 (.iinc 1 (-2)) 3 := by decide +kernel
theorem d35_69 : DK cB35 69 (.iload_n 0) 1 := by decide +kernel
theorem d35_70 : DK cB35 70 (.iconst 2) 1 := by decide +kernel
theorem d35_71 : DK cB35 71 (.iushr) 1 := by decide +kernel
theorem d35_72 : DK cB35 72 (.istore_n 0) 1 := by decide +kernel
def Q35_3 (Z : State)  (h0 : Heap) (n0 : Nat) (v : Option Value) (h : Heap) (L : List Loc) : Prop := v = some vI29 ∧ Fr n0 L ∧ h = h0
theorem rm35_3 (l : Launch) (Z : State) (a0 : Array Value) (hw : own_HW a0 Z) (ws : List Jvm.Cond)  (h0 : Heap) (n0 : Nat) (O0 : Old Z n0 h0) :
    own_MF l mN34 jdk_33_method_47_code 2 (some .int) ws rR0_0_0_0 Z h0 #[vI4] (Q35_3 Z  h0 n0) := by
  refine own_open (plainFor_of_name pn_java_lang_Integer) (L0 := #[lV vI4, lU]) (fun _ => by first | (simp [entryFrame, mkF, argsToLocals, Value.category]; done) | rfl) ?_
  intro p e s m below meth c s₁ hx hby hml hret hnn hZ hown X0 e0
  have N0 := Fr.nil n0
  refine ⟨some vI29, _, _, _, _, nofun, X0, by decide, by decide, ?_, fun fs hr => ?_⟩
  · rw [e0]; exact ⟨rfl, N0, rfl⟩
  · show SG p e below s₁ (mkF m 0 #[lV vI4, lU] []) _
    refine qiN X0 hx hby d35_0 ?_
    refine XS.ifYes X0.here hx rfl (pc0 := 1) (pc' := 15) rfl (hb hby d35_1) rfl ((if0 _ _).trans (tlt (by decide : (0 : Int32) < (4 : Int32))).2.2.1) (by decide) (by decide) ?_
    refine qb X0 hx hby d35_15 ?_
    refine XS.istoreN X0.here hx rfl (hb hby d35_17) rfl (l' := #[lV vI4, lV vI31]) rfl ?_
    refine qiN X0 hx hby d35_18 ?_
    refine X0.ldcwInt hx hown (mvT hZ (ww hw 243 rfl)) (g := (mkF m 19 #[lV vI4, lV vI31] [vI4])) rfl (hb hby d35_19) _ ?_
    refine XS.icmpYes X0.here hx rfl (pc0 := 22) (pc' := 33) rfl (hb hby d35_22) rfl (tlt (by decide : (4 : Int32) < (65536 : Int32))).1 (by decide) (by decide) ?_
    refine qiN X0 hx hby d35_33 ?_
    refine XS.sipush X0.here hx rfl (hb hby d35_34) ?_
    refine XS.icmpYes X0.here hx rfl (pc0 := 37) (pc' := 48) rfl (hb hby d35_37) rfl (tlt (by decide : (4 : Int32) < (256 : Int32))).1 (by decide) (by decide) ?_
    show SG p e below s₁ (mkF m 48 #[lV vI4, lV vI31] []) _
    refine qiN X0 hx hby d35_48 ?_
    refine qb X0 hx hby d35_49 ?_
    refine XS.icmpYes X0.here hx rfl (pc0 := 51) (pc' := 61) rfl (hb hby d35_51) rfl (tlt (by decide : (4 : Int32) < (16 : Int32))).1 (by decide) (by decide) ?_
    refine qiN X0 hx hby d35_61 ?_
    refine qc X0 hx hby d35_62 ?_
    refine XS.icmpNo X0.here hx rfl (hb hby d35_63) rfl (flt (by decide : ¬ ((4 : Int32) < (4 : Int32)))).1 ?_
    refine XS.iinc X0.here hx rfl (hb hby d35_66) rfl (l' := #[lV vI4, lV vI29]) rfl ?_
    refine qiN X0 hx hby d35_69 ?_
    refine qc X0 hx hby d35_70 ?_
    refine XS.iushr X0.here hx rfl (hb hby d35_71) rfl ?_
    show SG p e below s₁ (mkF m 72 #[lV vI4, lV vI29] [vI1]) _
    refine XS.istoreN X0.here hx rfl (hb hby d35_72) rfl (l' := #[lV vI1, lV vI29]) rfl ?_
    refine qiN X0 hx hby d35_73 ?_
    refine qiN X0 hx hby d35_74 ?_
    refine qc X0 hx hby d35_75 ?_
    refine XS.iushr X0.here hx rfl (hb hby d35_76) rfl ?_
    refine XS.isub X0.here hx rfl (hb hby d35_77) rfl ?_
    exact retOut X0 hx (i := .ireturn) hret rfl (Or.inl ⟨rfl, Or.inl rfl, _, rfl⟩) (hb hby d35_78) hr
def Q34_3 (Z : State)  (h0 : Heap) (n0 : Nat) (v : Option Value) (h : Heap) (L : List Loc) : Prop := v = some vI4 ∧ Fr n0 L ∧ h = h0
theorem rm34_3 (l : Launch) (Z : State) (a0 : Array Value) (hw : own_HW a0 Z) (ws : List Jvm.Cond)  (h0 : Heap) (n0 : Nat) (O0 : Old Z n0 h0) :
    own_MF l mN35 jdk_33_method_45_code 1 (some .int) ws rR1_0_0_15 Z h0 #[vI4] (Q34_3 Z  h0 n0) := by
  refine own_open (plainFor_of_name pn_java_lang_Integer) (L0 := #[lV vI4]) (fun _ => by first | (simp [entryFrame, mkF, argsToLocals, Value.category]; done) | rfl) ?_
  intro p e s m below meth c s₁ hx hby hml hret hnn hZ hown X0 e0
  have N0 := Fr.nil n0; have w := @ww Z a0 hw
  obtain ⟨_, T1, Lc1, X1, hQ1, st1⟩ := own_cS X0 hx hZ hown e0 (rm35_3 l Z a0 hw [] h0 n0 O0) (w 240 rfl) (w 241 rfl) (w 237 rfl) (w 242 rfl) (by decide) (W := 2) (by decide) (by decide) (by decide) (by decide) (g := (mkF m 4 #[lV vI4] [vI4, (.int (-2147483648 : Int32)), vI4])) rfl (by rw [hml]; rfl) (argsL := [vI4]) (rest := [(.int (-2147483648 : Int32)), vI4]) (lenOf pd__I_I rfl) rfl (own_W rfl) (hb hby d34_4)
  obtain ⟨rfl, N1q, E1⟩ := hQ1
  have N1 := Fr.app N0 N1q
  refine ⟨some vI4, _, _, _, _, nofun, X1, by decide, by decide, ?_, fun fs hr => ?_⟩
  · rw [E1]; exact ⟨rfl, N1, rfl⟩
  · show SG p e below s₁ (mkF m 0 #[lV vI4] []) _
    refine qiN X0 hx hby d34_0 ?_
    refine X0.ldcInt hx hown (mvT hZ (w 239 rfl)) (g := (mkF m 1 #[lV vI4] [vI4])) rfl (hb hby d34_1) _ ?_
    refine qiN X0 hx hby d34_3 ?_
    refine st1 _ ?_
    refine XS.iushr X1.here hx rfl (hb hby d34_7) rfl ?_
    refine XS.iand X1.here hx rfl (hb hby d34_8) rfl ?_
    exact retOut X1 hx (i := .ireturn) hret rfl (Or.inl ⟨rfl, Or.inl rfl, _, rfl⟩) (hb hby d34_9) hr
def Q35_4 (Z : State)  (h0 : Heap) (n0 : Nat) (v : Option Value) (h : Heap) (L : List Loc) : Prop := v = some vI29 ∧ Fr n0 L ∧ h = h0
theorem rm35_4 (l : Launch) (Z : State) (a0 : Array Value) (hw : own_HW a0 Z) (ws : List Jvm.Cond)  (h0 : Heap) (n0 : Nat) (O0 : Old Z n0 h0) :
    own_MF l mN34 jdk_33_method_47_code 2 (some .int) ws rR0_0_0_0 Z h0 #[vI7] (Q35_4 Z  h0 n0) := by
  refine own_open (plainFor_of_name pn_java_lang_Integer) (L0 := #[lV vI7, lU]) (fun _ => by first | (simp [entryFrame, mkF, argsToLocals, Value.category]; done) | rfl) ?_
  intro p e s m below meth c s₁ hx hby hml hret hnn hZ hown X0 e0
  have N0 := Fr.nil n0
  refine ⟨some vI29, _, _, _, _, nofun, X0, by decide, by decide, ?_, fun fs hr => ?_⟩
  · rw [e0]; exact ⟨rfl, N0, rfl⟩
  · show SG p e below s₁ (mkF m 0 #[lV vI7, lU] []) _
    refine qiN X0 hx hby d35_0 ?_
    refine XS.ifYes X0.here hx rfl (pc0 := 1) (pc' := 15) rfl (hb hby d35_1) rfl ((if0 _ _).trans (tlt (by decide : (0 : Int32) < (7 : Int32))).2.2.1) (by decide) (by decide) ?_
    refine qb X0 hx hby d35_15 ?_
    refine XS.istoreN X0.here hx rfl (hb hby d35_17) rfl (l' := #[lV vI7, lV vI31]) rfl ?_
    refine qiN X0 hx hby d35_18 ?_
    refine X0.ldcwInt hx hown (mvT hZ (ww hw 243 rfl)) (g := (mkF m 19 #[lV vI7, lV vI31] [vI7])) rfl (hb hby d35_19) _ ?_
    refine XS.icmpYes X0.here hx rfl (pc0 := 22) (pc' := 33) rfl (hb hby d35_22) rfl (tlt (by decide : (7 : Int32) < (65536 : Int32))).1 (by decide) (by decide) ?_
    refine qiN X0 hx hby d35_33 ?_
    refine XS.sipush X0.here hx rfl (hb hby d35_34) ?_
    refine XS.icmpYes X0.here hx rfl (pc0 := 37) (pc' := 48) rfl (hb hby d35_37) rfl (tlt (by decide : (7 : Int32) < (256 : Int32))).1 (by decide) (by decide) ?_
    show SG p e below s₁ (mkF m 48 #[lV vI7, lV vI31] []) _
    refine qiN X0 hx hby d35_48 ?_
    refine qb X0 hx hby d35_49 ?_
    refine XS.icmpYes X0.here hx rfl (pc0 := 51) (pc' := 61) rfl (hb hby d35_51) rfl (tlt (by decide : (7 : Int32) < (16 : Int32))).1 (by decide) (by decide) ?_
    refine qiN X0 hx hby d35_61 ?_
    refine qc X0 hx hby d35_62 ?_
    refine XS.icmpNo X0.here hx rfl (hb hby d35_63) rfl (flt (by decide : ¬ ((7 : Int32) < (4 : Int32)))).1 ?_
    refine XS.iinc X0.here hx rfl (hb hby d35_66) rfl (l' := #[lV vI7, lV vI29]) rfl ?_
    refine qiN X0 hx hby d35_69 ?_
    refine qc X0 hx hby d35_70 ?_
    refine XS.iushr X0.here hx rfl (hb hby d35_71) rfl ?_
    show SG p e below s₁ (mkF m 72 #[lV vI7, lV vI29] [vI1]) _
    refine XS.istoreN X0.here hx rfl (hb hby d35_72) rfl (l' := #[lV vI1, lV vI29]) rfl ?_
    refine qiN X0 hx hby d35_73 ?_
    refine qiN X0 hx hby d35_74 ?_
    refine qc X0 hx hby d35_75 ?_
    refine XS.iushr X0.here hx rfl (hb hby d35_76) rfl ?_
    refine XS.isub X0.here hx rfl (hb hby d35_77) rfl ?_
    exact retOut X0 hx (i := .ireturn) hret rfl (Or.inl ⟨rfl, Or.inl rfl, _, rfl⟩) (hb hby d35_78) hr
def Q39_4 (Z : State) (x1 : Int32) (h0 : Heap) (n0 : Nat) (v : Option Value) (h : Heap) (L : List Loc) : Prop := v = some (.int (((x1 * (-1640531527 : Int32)).toUInt32 >>> ((29 : Int32) &&& 31).toUInt32).toInt32)) ∧ Fr n0 L ∧ h = h0
theorem rm39_4 (l : Launch) (Z : State) (a0 : Array Value) (hw : own_HW a0 Z) (ws : List Jvm.Cond) (r0 : Addr) (x1 : Int32) (c2 : ClassId) (h0 : Heap) (n0 : Nat) (O0 : Old Z n0 h0) (f1 : Arv Z h0 r0 c2 .int (8 : Int32) [vI0, vI0, vI0, vI0, vI0, vI0, vI0, vI0] vI0) :
    own_MF l mN39 prog_2_method_10_code 2 (some .int) ws rR1_0_0_14 Z h0 #[(.ref r0), (.int x1)] (Q39_4 Z x1 h0 n0) := by
  refine own_open (plainFor_of_name pn_com_example_nearmiss_nearmiss_Document) (L0 := #[lR r0, lI x1]) (fun _ => by first | (simp [entryFrame, mkF, argsToLocals, Value.category]; done) | rfl) ?_
  intro p e s m below meth c s₁ hx hby hml hret hnn hZ hown X0 e0
  have N0 := Fr.nil n0; have w := @ww Z a0 hw
  obtain ⟨clq2, Arq2, qq2, Sq2, Nq2, Hq2, Gq2⟩ := id f1
  obtain ⟨_, T3, Lc3, X3, hQ3, st3⟩ := own_cS X0 hx hZ hown e0 (rm35_4 l Z a0 hw [] h0 n0 O0) (w 265 rfl) (w 241 rfl) (w 237 rfl) (w 242 rfl) (by decide) (W := 1) (by decide) (by decide) (by decide) (by decide) (g := (mkF m 8 #[lR r0, lI x1] [vI7, (.int (x1 * (-1640531527 : Int32)))])) rfl (by rw [hml]; rfl) (argsL := [vI7]) (rest := [(.int (x1 * (-1640531527 : Int32)))]) (lenOf pd__I_I rfl) rfl (own_W rfl) (hb hby d39_8)
  obtain ⟨rfl, N3q, E3⟩ := hQ3
  have N3 := Fr.app N0 N3q
  refine ⟨some (.int (((x1 * (-1640531527 : Int32)).toUInt32 >>> ((29 : Int32) &&& 31).toUInt32).toInt32)), _, _, _, _, nofun, X3, by decide, by decide, ?_, fun fs hr => ?_⟩
  · rw [E3]; exact ⟨rfl, N3, rfl⟩
  · show SG p e below s₁ (mkF m 0 #[lR r0, lI x1] []) _
    refine qiN X0 hx hby d39_0 ?_
    refine X0.ldcInt hx hown (mvT hZ (w 264 rfl)) (g := (mkF m 1 #[lR r0, lI x1] [(.int x1)])) rfl (hb hby d39_1) _ ?_
    refine XS.imul X0.here hx rfl (hb hby d39_3) rfl ?_
    refine qaN X0 hx hby d39_4 ?_
    refine X0.arraylength hx (by rw [e0]; exact Arq2.1) (State.isArrayOf_alike hZ.alike Arq2.2.1) (g := (mkF m 5 #[lR r0, lI x1] [(.ref r0), (.int (x1 * (-1640531527 : Int32)))])) rfl rfl (hb hby d39_5) _ ?_
    rw [len_of Sq2 Nq2]
    refine qc X0 hx hby d39_6 ?_
    refine XS.isub X0.here hx rfl (hb hby d39_7) rfl ?_
    refine st3 _ ?_
    refine XS.iushr X3.here hx rfl (hb hby d39_11) rfl ?_
    exact retOut X3 hx (i := .ireturn) hret rfl (Or.inl ⟨rfl, Or.inl rfl, _, rfl⟩) (hb hby d39_12) hr
def Q39_5 (Z : State) (x1 : Int32) (h0 : Heap) (n0 : Nat) (v : Option Value) (h : Heap) (L : List Loc) : Prop := v = some (.int (((x1 * (-1640531527 : Int32)).toUInt32 >>> ((29 : Int32) &&& 31).toUInt32).toInt32)) ∧ Fr n0 L ∧ h = h0
theorem rm39_5 (l : Launch) (Z : State) (a0 : Array Value) (hw : own_HW a0 Z) (ws : List Jvm.Cond) (r0 : Addr) (x1 : Int32) (c2 : ClassId) (t3 : List Value) (h0 : Heap) (n0 : Nat) (O0 : Old Z n0 h0) (f1 : Arv Z h0 r0 c2 .int (8 : Int32) t3 vI0) :
    own_MF l mN39 prog_2_method_10_code 2 (some .int) ws rR1_0_0_14 Z h0 #[(.ref r0), (.int x1)] (Q39_5 Z x1 h0 n0) := by
  refine own_open (plainFor_of_name pn_com_example_nearmiss_nearmiss_Document) (L0 := #[lR r0, lI x1]) (fun _ => by first | (simp [entryFrame, mkF, argsToLocals, Value.category]; done) | rfl) ?_
  intro p e s m below meth c s₁ hx hby hml hret hnn hZ hown X0 e0
  have N0 := Fr.nil n0; have w := @ww Z a0 hw
  obtain ⟨clq2, Arq2, qq2, Sq2, Nq2, Hq2, Gq2⟩ := id f1
  obtain ⟨_, T3, Lc3, X3, hQ3, st3⟩ := own_cS X0 hx hZ hown e0 (rm35_4 l Z a0 hw [] h0 n0 O0) (w 265 rfl) (w 241 rfl) (w 237 rfl) (w 242 rfl) (by decide) (W := 1) (by decide) (by decide) (by decide) (by decide) (g := (mkF m 8 #[lR r0, lI x1] [vI7, (.int (x1 * (-1640531527 : Int32)))])) rfl (by rw [hml]; rfl) (argsL := [vI7]) (rest := [(.int (x1 * (-1640531527 : Int32)))]) (lenOf pd__I_I rfl) rfl (own_W rfl) (hb hby d39_8)
  obtain ⟨rfl, N3q, E3⟩ := hQ3
  have N3 := Fr.app N0 N3q
  refine ⟨some (.int (((x1 * (-1640531527 : Int32)).toUInt32 >>> ((29 : Int32) &&& 31).toUInt32).toInt32)), _, _, _, _, nofun, X3, by decide, by decide, ?_, fun fs hr => ?_⟩
  · rw [E3]; exact ⟨rfl, N3, rfl⟩
  · show SG p e below s₁ (mkF m 0 #[lR r0, lI x1] []) _
    refine qiN X0 hx hby d39_0 ?_
    refine X0.ldcInt hx hown (mvT hZ (w 264 rfl)) (g := (mkF m 1 #[lR r0, lI x1] [(.int x1)])) rfl (hb hby d39_1) _ ?_
    refine XS.imul X0.here hx rfl (hb hby d39_3) rfl ?_
    refine qaN X0 hx hby d39_4 ?_
    refine X0.arraylength hx (by rw [e0]; exact Arq2.1) (State.isArrayOf_alike hZ.alike Arq2.2.1) (g := (mkF m 5 #[lR r0, lI x1] [(.ref r0), (.int (x1 * (-1640531527 : Int32)))])) rfl rfl (hb hby d39_5) _ ?_
    rw [len_of Sq2 Nq2]
    refine qc X0 hx hby d39_6 ?_
    refine XS.isub X0.here hx rfl (hb hby d39_7) rfl ?_
    refine st3 _ ?_
    refine XS.iushr X3.here hx rfl (hb hby d39_11) rfl ?_
    exact retOut X3 hx (i := .ireturn) hret rfl (Or.inl ⟨rfl, Or.inl rfl, _, rfl⟩) (hb hby d39_12) hr
def Q55_2 (Z : State) (x1 : Int32) (h0 : Heap) (n0 : Nat) (v : Option Value) (h : Heap) (L : List Loc) : Prop := v = some (.int ((x1 + (1 : Int32)) &&& (7 : Int32))) ∧ Fr n0 L ∧ h = h0
theorem rm55_2 (l : Launch) (Z : State) (a0 : Array Value) (hw : own_HW a0 Z) (ws : List Jvm.Cond) (r0 : Addr) (x1 : Int32) (c2 : ClassId) (t3 : List Value) (h0 : Heap) (n0 : Nat) (O0 : Old Z n0 h0) (f1 : Arv Z h0 r0 c2 .int (8 : Int32) t3 vI0) :
    own_MF l mN54 prog_2_method_11_code 2 (some .int) ws rR0_0_0_0 Z h0 #[(.ref r0), (.int x1)] (Q55_2 Z x1 h0 n0) := by
  refine own_open (plainFor_of_name pn_com_example_nearmiss_nearmiss_Document) (L0 := #[lR r0, lI x1]) (fun _ => by first | (simp [entryFrame, mkF, argsToLocals, Value.category]; done) | rfl) ?_
  intro p e s m below meth c s₁ hx hby hml hret hnn hZ hown X0 e0
  have N0 := Fr.nil n0
  obtain ⟨clq2, Arq2, qq2, Sq2, Nq2, Hq2, Gq2⟩ := id f1
  refine ⟨some (.int ((x1 + (1 : Int32)) &&& (7 : Int32))), _, _, _, _, nofun, X0, by decide, by decide, ?_, fun fs hr => ?_⟩
  · rw [e0]; exact ⟨rfl, N0, rfl⟩
  · show SG p e below s₁ (mkF m 0 #[lR r0, lI x1] []) _
    refine qiN X0 hx hby d55_0 ?_
    refine qc X0 hx hby d55_1 ?_
    refine XS.iadd X0.here hx rfl (hb hby d55_2) rfl ?_
    refine qaN X0 hx hby d55_3 ?_
    refine X0.arraylength hx (by rw [e0]; exact Arq2.1) (State.isArrayOf_alike hZ.alike Arq2.2.1) (g := (mkF m 4 #[lR r0, lI x1] [(.ref r0), (.int (x1 + (1 : Int32)))])) rfl rfl (hb hby d55_4) _ ?_
    rw [len_of Sq2 Nq2]
    refine qc X0 hx hby d55_5 ?_
    refine XS.isub X0.here hx rfl (hb hby d55_6) rfl ?_
    refine XS.iand X0.here hx rfl (hb hby d55_7) rfl ?_
    exact retOut X0 hx (i := .ireturn) hret rfl (Or.inl ⟨rfl, Or.inl rfl, _, rfl⟩) (hb hby d55_8) hr
def own_in3_22470 (k0 k2 k3 : Nat) : Prop := ∀ k4 : Nat, k4 < 8 → ((if (own_at (List.set (List.set [vI0, vI0, vI0, vI0, vI0, vI0, vI0, vI0] ((Int32.ofNat k0)).toNatClampNeg vI1) ((Int32.ofNat k2)).toNatClampNeg vI2) ((Int32.ofNat k3)).toNatClampNeg) = (0 : Int32) then (Int32.ofNat k3) else (((Int32.ofNat k3) + (1 : Int32)) &&& (7 : Int32))) = Int32.ofNat k4) → ∀ k5 : Nat, k5 < 8 → ((if (own_at (List.set (List.set [vI0, vI0, vI0, vI0, vI0, vI0, vI0, vI0] ((Int32.ofNat k0)).toNatClampNeg vI1) ((Int32.ofNat k2)).toNatClampNeg vI2) ((Int32.ofNat k4)).toNatClampNeg) = (0 : Int32) then (Int32.ofNat k4) else (((Int32.ofNat k4) + (1 : Int32)) &&& (7 : Int32))) = Int32.ofNat k5) → (own_at (List.set (List.set [vI0, vI0, vI0, vI0, vI0, vI0, vI0, vI0] ((Int32.ofNat k0)).toNatClampNeg vI1) ((Int32.ofNat k2)).toNatClampNeg vI2) ((Int32.ofNat k5)).toNatClampNeg) = (0 : Int32)
instance (k0 k2 k3 : Nat) : Decidable (own_in3_22470 k0 k2 k3) := by unfold own_in3_22470; infer_instance
theorem own_in3_22470_t : ∀ k0 : Nat, k0 < 8 → ∀ k1 : Nat, k1 < 8 → ∀ k2 : Nat, k2 < 8 → ((if (own_at (List.set [vI0, vI0, vI0, vI0, vI0, vI0, vI0, vI0] ((Int32.ofNat k0)).toNatClampNeg vI1) ((Int32.ofNat k1)).toNatClampNeg) = (0 : Int32) then (Int32.ofNat k1) else (((Int32.ofNat k1) + (1 : Int32)) &&& (7 : Int32))) = Int32.ofNat k2) → ∀ k3 : Nat, k3 < 8 → own_in3_22470 k0 k2 k3 := by decide +kernel
def Q33_5 (Z : State) (r6 r7 : Addr) (x11 : Int32) (r12 r13 : Addr) (x17 : Int32) (r18 r19 : Addr) (x24 : Int32) (h0 : Heap) (n0 : Nat) (v : Option Value) (h : Heap) (L : List Loc) : Prop := ∃ (b6 : Addr) (k6 : ClassId), v = some (.ref b6) ∧ Fr n0 L ∧ Keep h0 h [r6, r12, r18] ∧ Fld Z h r6 "java/lang/String" "coder" "B" vI0 ∧ Fld Z h r6 "java/lang/String" "value" "[B" (.ref r7) ∧ Fld Z h r12 "java/lang/String" "coder" "B" vI0 ∧ Fld Z h r12 "java/lang/String" "value" "[B" (.ref r13) ∧ Fld Z h r18 "java/lang/String" "coder" "B" vI0 ∧ Fld Z h r18 "java/lang/String" "value" "[B" (.ref r19) ∧ h0.size ≤ b6 ∧ Arv Z h b6 k6 .int (8 : Int32) (List.set (List.set (List.set [vI0, vI0, vI0, vI0, vI0, vI0, vI0, vI0] (x11).toNatClampNeg vI1) (x17).toNatClampNeg vI2) (x24).toNatClampNeg vI3) vI0 ∧ Exa Z h b6 "[I"
theorem rm33_5 (l : Launch) (Z : State) (a0 : Array Value) (hw : own_HW a0 Z) (ws : List Jvm.Cond) (r0 r1 : Addr) (c2 : ClassId) (r3 r4 : Addr) (r5 r6 r7 : Addr) (c8 : ClassId) (x9 x10 x11 : Int32) (r12 r13 : Addr) (c14 : ClassId) (x15 x16 x17 : Int32) (r18 r19 : Addr) (c20 : ClassId) (x21 x22 : Int32) (x23 x24 : Int32) (h0 : Heap) (n0 : Nat) (O0 : Old Z n0 h0) (f1 : Exa Z h0 r0 cs14) (f2 : Fld Z h0 r0 cs14 "elements" "[Ljava/lang/Object;" (.ref r1)) (f3 : Arv Z h0 r1 c2 (.object "java/lang/Object") (3 : Int32) [(.ref r3), (.ref r4), (.ref r5)] .null) (f12 : Exa Z h0 r3 cs0) (f15 : Fld Z h0 r3 cs0 "path" "Ljava/lang/String;" (.ref r6)) (f18 : Exa Z h0 r6 "java/lang/String") (f20 : Fld Z h0 r6 "java/lang/String" "value" "[B" (.ref r7)) (f22 : Arv Z h0 r7 c8 .byte (1 : Int32) [(.int x9)] vI0) (f24 : Fld Z h0 r6 "java/lang/String" "hash" "I" vI0) (f26 : Fld Z h0 r6 "java/lang/String" "hashIsZero" "Z" vI0) (f28 : Sta Z Z.heap "java/lang/String" "COMPACT_STRINGS" "Z" (.int x10)) (f29 : Fld Z h0 r6 "java/lang/String" "coder" "B" vI0) (g31 : n0 ≤ r6) (hc32 : ¬ (x10 = (0 : Int32))) (l36 : r6 < h0.size) (hq41 : ((((x9 &&& (255 : Int32)) * (-1640531527 : Int32)).toUInt32 >>> ((29 : Int32) &&& 31).toUInt32).toInt32) = x11) (hc43 : ([vI0, vI0, vI0, vI0, vI0, vI0, vI0, vI0] : List Value).getD (x11).toNatClampNeg vI0 = (.int (own_at [vI0, vI0, vI0, vI0, vI0, vI0, vI0, vI0] (x11).toNatClampNeg))) (hc44 : ¬ (x11 < (0 : Int32))) (hc45 : x11 < (8 : Int32)) (hc46 : (own_at [vI0, vI0, vI0, vI0, vI0, vI0, vI0, vI0] (x11).toNatClampNeg) = (0 : Int32)) (hc50 : (x11).toNatClampNeg < ([vI0, vI0, vI0, vI0, vI0, vI0, vI0, vI0] : List Value).length) (n52 : r0 ≠ r6) (l53 : r0 < h0.size) (n56 : r1 ≠ r6) (l57 : r1 < h0.size) (f63 : Exa Z h0 r4 cs0) (f66 : Fld Z h0 r4 cs0 "path" "Ljava/lang/String;" (.ref r12)) (n67 : r4 ≠ r6) (l68 : r4 < h0.size) (f72 : Exa Z h0 r12 "java/lang/String") (f74 : Fld Z h0 r12 "java/lang/String" "value" "[B" (.ref r13)) (n75 : r12 ≠ r6) (l76 : r12 < h0.size) (f79 : Arv Z h0 r13 c14 .byte (1 : Int32) [(.int x15)] vI0) (n80 : r13 ≠ r6) (l81 : r13 < h0.size) (f84 : Fld Z h0 r12 "java/lang/String" "hash" "I" vI0) (f86 : Fld Z h0 r12 "java/lang/String" "hashIsZero" "Z" vI0) (f88 : Fld Z h0 r12 "java/lang/String" "coder" "B" vI0) (g90 : n0 ≤ r12) (hq97 : ((((x15 &&& (255 : Int32)) * (-1640531527 : Int32)).toUInt32 >>> ((29 : Int32) &&& 31).toUInt32).toInt32) = x16) (hc99 : (List.set [vI0, vI0, vI0, vI0, vI0, vI0, vI0, vI0] (x11).toNatClampNeg vI1).getD (x16).toNatClampNeg vI0 = (.int (own_at (List.set [vI0, vI0, vI0, vI0, vI0, vI0, vI0, vI0] (x11).toNatClampNeg vI1) (x16).toNatClampNeg))) (hc100 : ¬ (x16 < (0 : Int32))) (hc101 : x16 < (8 : Int32)) (hq104 : (if (own_at (List.set [vI0, vI0, vI0, vI0, vI0, vI0, vI0, vI0] (x11).toNatClampNeg vI1) (x16).toNatClampNeg) = (0 : Int32) then x16 else ((x16 + (1 : Int32)) &&& (7 : Int32))) = x17) (hc106 : (List.set [vI0, vI0, vI0, vI0, vI0, vI0, vI0, vI0] (x11).toNatClampNeg vI1).getD (x17).toNatClampNeg vI0 = (.int (own_at (List.set [vI0, vI0, vI0, vI0, vI0, vI0, vI0, vI0] (x11).toNatClampNeg vI1) (x17).toNatClampNeg))) (hc107 : ¬ (x17 < (0 : Int32))) (hc108 : x17 < (8 : Int32)) (hc109 : (own_at (List.set [vI0, vI0, vI0, vI0, vI0, vI0, vI0, vI0] (x11).toNatClampNeg vI1) (x17).toNatClampNeg) = (0 : Int32)) (hc111 : (x17).toNatClampNeg < ((List.set [vI0, vI0, vI0, vI0, vI0, vI0, vI0, vI0] (x11).toNatClampNeg vI1) : List Value).length) (n113 : r0 ≠ r12) (n115 : r1 ≠ r12) (f120 : Exa Z h0 r5 cs0) (f123 : Fld Z h0 r5 cs0 "path" "Ljava/lang/String;" (.ref r18)) (n124 : r5 ≠ r6) (l125 : r5 < h0.size) (n127 : r5 ≠ r12) (f130 : Exa Z h0 r18 "java/lang/String") (f132 : Fld Z h0 r18 "java/lang/String" "value" "[B" (.ref r19)) (n133 : r18 ≠ r6) (l134 : r18 < h0.size) (n136 : r18 ≠ r12) (f138 : Arv Z h0 r19 c20 .byte (1 : Int32) [(.int x21)] vI0) (n139 : r19 ≠ r6) (l140 : r19 < h0.size) (n142 : r19 ≠ r12) (f144 : Fld Z h0 r18 "java/lang/String" "hash" "I" vI0) (f146 : Fld Z h0 r18 "java/lang/String" "hashIsZero" "Z" vI0) (f148 : Fld Z h0 r18 "java/lang/String" "coder" "B" vI0) (g150 : n0 ≤ r18) (hq157 : ((((x21 &&& (255 : Int32)) * (-1640531527 : Int32)).toUInt32 >>> ((29 : Int32) &&& 31).toUInt32).toInt32) = x22) (hc159 : (List.set (List.set [vI0, vI0, vI0, vI0, vI0, vI0, vI0, vI0] (x11).toNatClampNeg vI1) (x17).toNatClampNeg vI2).getD (x22).toNatClampNeg vI0 = (.int (own_at (List.set (List.set [vI0, vI0, vI0, vI0, vI0, vI0, vI0, vI0] (x11).toNatClampNeg vI1) (x17).toNatClampNeg vI2) (x22).toNatClampNeg))) (hc160 : ¬ (x22 < (0 : Int32))) (hc161 : x22 < (8 : Int32)) (hq164 : (if (own_at (List.set (List.set [vI0, vI0, vI0, vI0, vI0, vI0, vI0, vI0] (x11).toNatClampNeg vI1) (x17).toNatClampNeg vI2) (x22).toNatClampNeg) = (0 : Int32) then x22 else ((x22 + (1 : Int32)) &&& (7 : Int32))) = x23) (hc166 : (List.set (List.set [vI0, vI0, vI0, vI0, vI0, vI0, vI0, vI0] (x11).toNatClampNeg vI1) (x17).toNatClampNeg vI2).getD (x23).toNatClampNeg vI0 = (.int (own_at (List.set (List.set [vI0, vI0, vI0, vI0, vI0, vI0, vI0, vI0] (x11).toNatClampNeg vI1) (x17).toNatClampNeg vI2) (x23).toNatClampNeg))) (hc167 : ¬ (x23 < (0 : Int32))) (hc168 : x23 < (8 : Int32)) (hq171 : (if (own_at (List.set (List.set [vI0, vI0, vI0, vI0, vI0, vI0, vI0, vI0] (x11).toNatClampNeg vI1) (x17).toNatClampNeg vI2) (x23).toNatClampNeg) = (0 : Int32) then x23 else ((x23 + (1 : Int32)) &&& (7 : Int32))) = x24) (hc173 : (List.set (List.set [vI0, vI0, vI0, vI0, vI0, vI0, vI0, vI0] (x11).toNatClampNeg vI1) (x17).toNatClampNeg vI2).getD (x24).toNatClampNeg vI0 = (.int (own_at (List.set (List.set [vI0, vI0, vI0, vI0, vI0, vI0, vI0, vI0] (x11).toNatClampNeg vI1) (x17).toNatClampNeg vI2) (x24).toNatClampNeg))) (hc174 : ¬ (x24 < (0 : Int32))) (hc175 : x24 < (8 : Int32)) (hc176 : (own_at (List.set (List.set [vI0, vI0, vI0, vI0, vI0, vI0, vI0, vI0] (x11).toNatClampNeg vI1) (x17).toNatClampNeg vI2) (x24).toNatClampNeg) = (0 : Int32)) (hc178 : (x24).toNatClampNeg < ((List.set (List.set [vI0, vI0, vI0, vI0, vI0, vI0, vI0, vI0] (x11).toNatClampNeg vI1) (x17).toNatClampNeg vI2) : List Value).length) :
    own_MF l mN40 prog_2_method_9_code 5 (some (.array .int)) ws rR2_1_8_27 Z h0 #[(.ref r0)] (Q33_5 Z r6 r7 x11 r12 r13 x17 r18 r19 x24 h0 n0) := by
  refine own_open (plainFor_of_name pn_com_example_nearmiss_nearmiss_Document) (L0 := #[lR r0, lU, lU, lU, lU]) (fun _ => by first | (simp [entryFrame, mkF, argsToLocals, Value.category]; done) | rfl) ?_
  intro p e s m below meth c s₁ hx hby hml hret hnn hZ hown X0 e0
  have N0 := Fr.nil n0; have w := @ww Z a0 hw
  obtain ⟨_, T4, Lc4, X4, hQ4, st4⟩ := own_cI (xi := mN32) X0 hx hZ hown e0 (rm46_1 l Z a0 hw [] r0 r1 c2 r3 r4 r5 h0 n0 O0 f2 f3) f1 (w 205 rfl) (w 206 rfl) (w 207 rfl) (w 308 rfl) (w 309 rfl) (w 310 rfl) (w 311 rfl) (w 312 rfl) (w 313 rfl) (w 295 rfl) (by decide) (W := 0) (by decide) (by decide) (by decide) (by decide) (g := (mkF m 1 #[lR r0, lU, lU, lU, lU] [(.ref r0)])) rfl (by rw [hml]; rfl) (argsL := []) (rest := []) (lenOf pd___I rfl) rfl (own_W rfl) (hb hby d33_1)
  obtain ⟨rfl, N4q, E4⟩ := hQ4
  have N4 := Fr.app N0 N4q
  obtain ⟨_, T5, Lc5, X5, hQ5, st5⟩ := own_cS X4 hx hZ hown E4 (rm34_3 l Z a0 hw [] h0 n0 O0) (w 235 rfl) (w 236 rfl) (w 237 rfl) (w 238 rfl) (by decide) (W := 0) (by decide) (by decide) (by decide) (by decide) (g := (mkF m 12 #[lR r0, lV vI3, lU, lU, lU] [vI4])) rfl (by rw [hml]; rfl) (argsL := [vI4]) (rest := []) (lenOf pd__I_I rfl) rfl (own_W rfl) (hb hby d33_12)
  obtain ⟨rfl, N5q, E5⟩ := hQ5
  have N5 := Fr.app N4 N5q
  obtain ⟨T6, h6, k6, X6, e6, E6, A6, B6, st6⟩ := newPE X5 hx hZ (w 214 rfl) E5 (g := (mkF m 17 #[lR r0, lV vI3, lU, lU, lU] [vI8])) rfl (hb hby d33_17) rfl (by decide) (cap := 8) (by decide) (by decide) (by decide) (by decide) (ad := "[I") rfl
  obtain ⟨b6, g6⟩ : ∃ z, z = h0.size := ⟨_, rfl⟩
  rw [← g6] at A6 B6 st6
  have V6 : Arv Z h6 b6 k6 .int (8 : Int32) [vI0, vI0, vI0, vI0, vI0, vI0, vI0, vI0] vI0 := (Arv.new A6 (by decide)).pad (pad_rep [] vI0 8)
  have f7 := (f2.ext E6)
  have f8 := (f3.ext E6)
  have o9 := Old.ext O0 E6
  have f11 := (f1.ext E6)
  obtain ⟨_, T10, Lc10, X10, hQ10, st10⟩ := own_cI (xi := mN33) X6 hx hZ hown e6 (rm47_1 l Z a0 hw [] r0 r1 c2 r3 r4 r5 h6 n0 o9 f7 f8) f11 (w 215 rfl) (w 216 rfl) (w 217 rfl) (w 314 rfl) (w 315 rfl) (w 316 rfl) (w 317 rfl) (w 312 rfl) (w 318 rfl) (w 295 rfl) (by decide) (W := 1) (by decide) (by decide) (by decide) (by decide) (g := (mkF m 30 #[lR r0, lV vI3, lR b6, lV vI0, lU] [vI0, (.ref r0), (.ref b6)])) rfl (by rw [hml]; rfl) (argsL := [vI0]) (rest := [(.ref b6)]) (lenOf pd__I_Ljava_lang_Object_ rfl) rfl (own_W rfl) (hb hby d33_30)
  obtain ⟨rfl, N10q, E10⟩ := hQ10
  have N10 := Fr.app N5 N10q
  have f13 := (f12.ext E6)
  obtain ⟨T14, X14, e14, st14⟩ := castY X10 hx hZ hown (w 223 rfl) E10 (Ins.self f13) (g := (mkF m 35 #[lR r0, lV vI3, lR b6, lV vI0, lU] [(.ref r3), (.ref b6)])) rfl rfl (hb hby d33_35)
  have f16 := (f15.ext E6)
  obtain ⟨_, T17, Lc17, X17, hQ17, st17⟩ := own_cV X14 hx hZ hown e14 (rm32_1 l Z a0 hw [] r3 r6 h6 n0 o9 f16) f13 (w 225 rfl) (w 226 rfl) (w 228 rfl) (w 227 rfl) (w 229 rfl) (w 28 rfl) (by decide) (W := 1) (by decide) (by decide) (by decide) (by decide) (g := (mkF m 38 #[lR r0, lV vI3, lR b6, lV vI0, lU] [(.ref r3), (.ref b6)])) rfl (by rw [hml]; rfl) (argsL := []) (rest := [(.ref b6)]) (lenOf pd___Ljava_lang_String_ rfl) rfl (own_W rfl) (hb hby d33_38)
  obtain ⟨rfl, N17q, E17⟩ := hQ17
  have N17 := Fr.app N10 N17q
  have f19 := (f18.ext E6)
  have f21 := (f20.ext E6)
  have f23 := (f22.ext E6)
  have f25 := (f24.ext E6)
  have f27 := (f26.ext E6)
  have f30 := (f29.ext E6)
  obtain ⟨_, T33, Lc33, X33, hQ33, st33⟩ := own_cV X17 hx hZ hown E17 (rm36_3 l Z a0 hw [] r6 r7 c8 x9 x10 h6 n0 o9 f21 f23 f25 f27 f19 f28 f30 g31 hc32) f19 (w 244 rfl) (w 245 rfl) (w 247 rfl) (w 246 rfl) (w 248 rfl) (w 2 rfl) (by decide) (W := 1) (by decide) (by decide) (by decide) (by decide) (g := (mkF m 41 #[lR r0, lV vI3, lR b6, lV vI0, lU] [(.ref r6), (.ref b6)])) rfl (by rw [hml]; rfl) (argsL := []) (rest := [(.ref b6)]) (lenOf pd___I rfl) rfl (own_W rfl) (hb hby d33_41)
  obtain ⟨rfl, N33q, K33, f34, f35⟩ := hQ33
  have N33 := Fr.app N17 N33q
  have n37 := Nat.ne_of_lt (Nat.lt_of_lt_of_le l36 (Nat.le_of_eq g6.symm))
  have f38 := (V6.keep K33 (ninS (Ne.symm n37) nin0))
  have o39 := Old.keep o9 K33 (allS g31 all0)
  obtain ⟨_, T40, Lc40, X40, hQ40, st40⟩ := own_cS X33 hx hZ hown rfl (rm39_4 l Z a0 hw [] b6 (x9 &&& (255 : Int32)) k6 T33.heap n0 o39 f38) (w 261 rfl) (w 262 rfl) (w 105 rfl) (w 263 rfl) (by decide) (W := 0) (by decide) (by decide) (by decide) (by decide) (g := (mkF m 44 #[lR r0, lV vI3, lR b6, lV vI0, lU] [(.int (x9 &&& (255 : Int32))), (.ref b6)])) rfl (by rw [hml]; rfl) (argsL := [(.ref b6), (.int (x9 &&& (255 : Int32)))]) (rest := []) (lenOf pd___II_I rfl) rfl (own_W rfl) (hb hby d33_44)
  obtain ⟨rfl, N40q, E40⟩ := hQ40
  have N40 := Fr.app N33 N40q
  obtain ⟨clq42, Arq42, qq42, Sq42, Nq42, Hq42, Gq42⟩ := id f38
  obtain ⟨clq47, Arq47, qq47, Sq47, Nq47, Hq47, Gq47⟩ := id f38
  have zz48 : n0 ≤ h0.size := by rw [← O0.1]; exact O0.2.1
  have g49 := Nat.le_trans zz48 (Nat.le_of_eq g6.symm)
  obtain ⟨T51, h51, X51, e51, W51, st51⟩ := stI X40 hx hZ E40 Arq47 (j := x11) (inb_of Sq47 ⟨hc44, hc45⟩) (g := (mkF m 73 #[lR r0, lV vI3, lR b6, lV vI0, lI x11] [vI1, (.int x11), (.ref b6)])) rfl rfl (hb hby d33_73)
  have V51 : Arv Z h51 b6 k6 .int (8 : Int32) (List.set [vI0, vI0, vI0, vI0, vI0, vI0, vI0, vI0] (x11).toNatClampNeg vI1) vI0 := Arv.set Arq47 qq47 Sq47 Nq47 Hq47 Gq47 rfl W51 _ rfl hc50
  have N51 := Fr.snoc X51 N40 g49
  have n54 := Nat.ne_of_lt (Nat.lt_of_lt_of_le l53 (Nat.le_of_eq g6.symm))
  have f55 := ((f7.keep K33 (ninS n52 nin0)).other W51 (Or.inl n54))
  have n58 := Nat.ne_of_lt (Nat.lt_of_lt_of_le l57 (Nat.le_of_eq g6.symm))
  have f59 := ((f8.keep K33 (ninS n56 nin0)).other W51 n58)
  have o60 := Old.wr o39 W51 g49
  have f62 := ((f11.keep K33).wr W51)
  obtain ⟨_, T61, Lc61, X61, hQ61, st61⟩ := own_cI (xi := mN33) X51 hx hZ hown e51 (rm47_2 l Z a0 hw [] r0 r1 c2 r3 r4 r5 h51 n0 o60 f55 f59) f62 (w 215 rfl) (w 216 rfl) (w 217 rfl) (w 314 rfl) (w 315 rfl) (w 316 rfl) (w 317 rfl) (w 312 rfl) (w 318 rfl) (w 295 rfl) (by decide) (W := 1) (by decide) (by decide) (by decide) (by decide) (g := (mkF m 30 #[lR r0, lV vI3, lR b6, lV vI1, lI x11] [vI1, (.ref r0), (.ref b6)])) rfl (by rw [hml]; rfl) (argsL := [vI1]) (rest := [(.ref b6)]) (lenOf pd__I_Ljava_lang_Object_ rfl) rfl (own_W rfl) (hb hby d33_30)
  obtain ⟨rfl, N61q, E61⟩ := hQ61
  have N61 := Fr.app N51 N61q
  have f64 := (((f63.ext E6).keep K33).wr W51)
  obtain ⟨T65, X65, e65, st65⟩ := castY X61 hx hZ hown (w 223 rfl) E61 (Ins.self f64) (g := (mkF m 35 #[lR r0, lV vI3, lR b6, lV vI1, lI x11] [(.ref r4), (.ref b6)])) rfl rfl (hb hby d33_35)
  have n69 := Nat.ne_of_lt (Nat.lt_of_lt_of_le l68 (Nat.le_of_eq g6.symm))
  have f70 := (((f66.ext E6).keep K33 (ninS n67 nin0)).other W51 (Or.inl n69))
  obtain ⟨_, T71, Lc71, X71, hQ71, st71⟩ := own_cV X65 hx hZ hown e65 (rm32_1 l Z a0 hw [] r4 r12 h51 n0 o60 f70) f64 (w 225 rfl) (w 226 rfl) (w 228 rfl) (w 227 rfl) (w 229 rfl) (w 28 rfl) (by decide) (W := 1) (by decide) (by decide) (by decide) (by decide) (g := (mkF m 38 #[lR r0, lV vI3, lR b6, lV vI1, lI x11] [(.ref r4), (.ref b6)])) rfl (by rw [hml]; rfl) (argsL := []) (rest := [(.ref b6)]) (lenOf pd___Ljava_lang_String_ rfl) rfl (own_W rfl) (hb hby d33_38)
  obtain ⟨rfl, N71q, E71⟩ := hQ71
  have N71 := Fr.app N61 N71q
  have f73 := (((f72.ext E6).keep K33).wr W51)
  have n77 := Nat.ne_of_lt (Nat.lt_of_lt_of_le l76 (Nat.le_of_eq g6.symm))
  have f78 := (((f74.ext E6).keep K33 (ninS n75 nin0)).other W51 (Or.inl n77))
  have n82 := Nat.ne_of_lt (Nat.lt_of_lt_of_le l81 (Nat.le_of_eq g6.symm))
  have f83 := (((f79.ext E6).keep K33 (ninS n80 nin0)).other W51 n82)
  have f85 := (((f84.ext E6).keep K33 (ninS n75 nin0)).other W51 (Or.inl n77))
  have f87 := (((f86.ext E6).keep K33 (ninS n75 nin0)).other W51 (Or.inl n77))
  have f89 := (((f88.ext E6).keep K33 (ninS n75 nin0)).other W51 (Or.inl n77))
  obtain ⟨_, T91, Lc91, X91, hQ91, st91⟩ := own_cV X71 hx hZ hown E71 (rm36_3 l Z a0 hw [] r12 r13 c14 x15 x10 h51 n0 o60 f78 f83 f85 f87 f73 f28 f89 g90 hc32) f73 (w 244 rfl) (w 245 rfl) (w 247 rfl) (w 246 rfl) (w 248 rfl) (w 2 rfl) (by decide) (W := 1) (by decide) (by decide) (by decide) (by decide) (g := (mkF m 41 #[lR r0, lV vI3, lR b6, lV vI1, lI x11] [(.ref r12), (.ref b6)])) rfl (by rw [hml]; rfl) (argsL := []) (rest := [(.ref b6)]) (lenOf pd___I rfl) rfl (own_W rfl) (hb hby d33_41)
  obtain ⟨rfl, N91q, K91, f92, f93⟩ := hQ91
  have N91 := Fr.app N71 N91q
  have f94 := (V51.keep K91 (ninS (Ne.symm n77) nin0))
  have o95 := Old.keep o60 K91 (allS g90 all0)
  obtain ⟨_, T96, Lc96, X96, hQ96, st96⟩ := own_cS X91 hx hZ hown rfl (rm39_5 l Z a0 hw [] b6 (x15 &&& (255 : Int32)) k6 (List.set [vI0, vI0, vI0, vI0, vI0, vI0, vI0, vI0] (x11).toNatClampNeg vI1) T91.heap n0 o95 f94) (w 261 rfl) (w 262 rfl) (w 105 rfl) (w 263 rfl) (by decide) (W := 0) (by decide) (by decide) (by decide) (by decide) (g := (mkF m 44 #[lR r0, lV vI3, lR b6, lV vI1, lI x11] [(.int (x15 &&& (255 : Int32))), (.ref b6)])) rfl (by rw [hml]; rfl) (argsL := [(.ref b6), (.int (x15 &&& (255 : Int32)))]) (rest := []) (lenOf pd___II_I rfl) rfl (own_W rfl) (hb hby d33_44)
  obtain ⟨rfl, N96q, E96⟩ := hQ96
  have N96 := Fr.app N91 N96q
  obtain ⟨T103, L103, X103, e103, N103, st103⟩ := own_ct (P := (own_at (List.set [vI0, vI0, vI0, vI0, vI0, vI0, vI0, vI0] (x11).toNatClampNeg vI1) (x16).toNatClampNeg) = (0 : Int32)) (g0 := (mkF m 49 #[lR r0, lV vI3, lR b6, lV vI1, lI x16] [])) (gj := (mkF m 49 #[lR r0, lV vI3, lR b6, lV vI1, .val (.int (if (own_at (List.set [vI0, vI0, vI0, vI0, vI0, vI0, vI0, vI0] (x11).toNatClampNeg vI1) (x16).toNatClampNeg) = (0 : Int32) then x16 else ((x16 + (1 : Int32)) &&& (7 : Int32))))] [])) (gb := (mkF m 49 #[lR r0, lV vI3, lR b6, lV vI1, .val (.int ((x16 + (1 : Int32)) &&& (7 : Int32)))] [])) X96 E96 N96 (fun hd => by
      obtain ⟨clq98, Arq98, qq98, Sq98, Nq98, Hq98, Gq98⟩ := id f94
      obtain ⟨_, T102, Lc102, X102, hQ102, st102⟩ := own_cS X96 hx hZ hown E96 (rm55_2 l Z a0 hw [] b6 x16 k6 (List.set [vI0, vI0, vI0, vI0, vI0, vI0, vI0, vI0] (x11).toNatClampNeg vI1) T91.heap n0 o95 f94) (w 351 rfl) (w 352 rfl) (w 105 rfl) (w 353 rfl) (by decide) (W := 0) (by decide) (by decide) (by decide) (by decide) (g := (mkF m 59 #[lR r0, lV vI3, lR b6, lV vI1, lI x16] [(.int x16), (.ref b6)])) rfl (by rw [hml]; rfl) (argsL := [(.ref b6), (.int x16)]) (rest := []) (lenOf pd___II_I rfl) rfl (own_W rfl) (hb hby d33_59)
      obtain ⟨rfl, N102q, E102⟩ := hQ102
      have N102 := Fr.app N96 N102q
      refine ⟨_, _, X102, E102, N102, fun t kk => ?_⟩
      show SG p e below T96 (mkF m 49 #[lR r0, lV vI3, lR b6, lV vI1, lI x16] []) _
      refine qaN X96 hx hby d33_49 ?_
      refine qi X96 hx hby d33_50 ?_
      refine X96.iaload hx (j := x16) (v := (.int (own_at (List.set [vI0, vI0, vI0, vI0, vI0, vI0, vI0, vI0] (x11).toNatClampNeg vI1) (x16).toNatClampNeg))) (by rw [E96]; exact Arq98.1) (State.isArrayOf_alike hZ.alike Arq98.2.1) Arq98.2.2 (inb_of Sq98 ⟨hc100, hc101⟩) (Has.at Hq98 (inb_of Sq98 ⟨hc100, hc101⟩) hc99) (g := (mkF m 52 #[lR r0, lV vI3, lR b6, lV vI1, lI x16] [(.int x16), (.ref b6)])) rfl rfl (hb hby d33_52) _ ?_
      refine XS.ifNo X96.here hx rfl (hb hby d33_53) rfl ((if0 _ _).trans (feq hd).1) ?_
      refine qaN X96 hx hby d33_56 ?_
      refine qi X96 hx hby d33_57 ?_
      refine st102 _ ?_
      refine XS.istore X102.here hx rfl (hb hby d33_62) rfl (l' := #[lR r0, lV vI3, lR b6, lV vI1, .val (.int ((x16 + (1 : Int32)) &&& (7 : Int32)))]) rfl ?_
      refine XS.goto X102.here hx rfl (pc0 := 64) (pc' := 49) rfl (hb hby d33_64) (by decide) (by decide) ?_
      exact kk) (fun hd => by rw [if_pos hd]) (fun hd => by rw [if_neg hd])
  obtain ⟨clq105, Arq105, qq105, Sq105, Nq105, Hq105, Gq105⟩ := id f94
  obtain ⟨clq110, Arq110, qq110, Sq110, Nq110, Hq110, Gq110⟩ := id f94
  obtain ⟨T112, h112, X112, e112, W112, st112⟩ := stI X103 hx hZ e103 Arq110 (j := x17) (inb_of Sq110 ⟨hc107, hc108⟩) (g := (mkF m 73 #[lR r0, lV vI3, lR b6, lV vI1, lI x17] [vI2, (.int x17), (.ref b6)])) rfl rfl (hb hby d33_73)
  have V112 : Arv Z h112 b6 k6 .int (8 : Int32) (List.set (List.set [vI0, vI0, vI0, vI0, vI0, vI0, vI0, vI0] (x11).toNatClampNeg vI1) (x17).toNatClampNeg vI2) vI0 := Arv.set Arq110 qq110 Sq110 Nq110 Hq110 Gq110 rfl W112 _ rfl hc111
  have N112 := Fr.snoc X112 N103 g49
  have f114 := ((f55.keep K91 (ninS n113 nin0)).other W112 (Or.inl n54))
  have f116 := ((f59.keep K91 (ninS n115 nin0)).other W112 n58)
  have o117 := Old.wr o95 W112 g49
  have f119 := ((f62.keep K91).wr W112)
  obtain ⟨_, T118, Lc118, X118, hQ118, st118⟩ := own_cI (xi := mN33) X112 hx hZ hown e112 (rm47_3 l Z a0 hw [] r0 r1 c2 r3 r4 r5 h112 n0 o117 f114 f116) f119 (w 215 rfl) (w 216 rfl) (w 217 rfl) (w 314 rfl) (w 315 rfl) (w 316 rfl) (w 317 rfl) (w 312 rfl) (w 318 rfl) (w 295 rfl) (by decide) (W := 1) (by decide) (by decide) (by decide) (by decide) (g := (mkF m 30 #[lR r0, lV vI3, lR b6, lV vI2, lI x17] [vI2, (.ref r0), (.ref b6)])) rfl (by rw [hml]; rfl) (argsL := [vI2]) (rest := [(.ref b6)]) (lenOf pd__I_Ljava_lang_Object_ rfl) rfl (own_W rfl) (hb hby d33_30)
  obtain ⟨rfl, N118q, E118⟩ := hQ118
  have N118 := Fr.app N112 N118q
  have f121 := (((((f120.ext E6).keep K33).wr W51).keep K91).wr W112)
  obtain ⟨T122, X122, e122, st122⟩ := castY X118 hx hZ hown (w 223 rfl) E118 (Ins.self f121) (g := (mkF m 35 #[lR r0, lV vI3, lR b6, lV vI2, lI x17] [(.ref r5), (.ref b6)])) rfl rfl (hb hby d33_35)
  have n126 := Nat.ne_of_lt (Nat.lt_of_lt_of_le l125 (Nat.le_of_eq g6.symm))
  have f128 := (((((f123.ext E6).keep K33 (ninS n124 nin0)).other W51 (Or.inl n126)).keep K91 (ninS n127 nin0)).other W112 (Or.inl n126))
  obtain ⟨_, T129, Lc129, X129, hQ129, st129⟩ := own_cV X122 hx hZ hown e122 (rm32_1 l Z a0 hw [] r5 r18 h112 n0 o117 f128) f121 (w 225 rfl) (w 226 rfl) (w 228 rfl) (w 227 rfl) (w 229 rfl) (w 28 rfl) (by decide) (W := 1) (by decide) (by decide) (by decide) (by decide) (g := (mkF m 38 #[lR r0, lV vI3, lR b6, lV vI2, lI x17] [(.ref r5), (.ref b6)])) rfl (by rw [hml]; rfl) (argsL := []) (rest := [(.ref b6)]) (lenOf pd___Ljava_lang_String_ rfl) rfl (own_W rfl) (hb hby d33_38)
  obtain ⟨rfl, N129q, E129⟩ := hQ129
  have N129 := Fr.app N118 N129q
  have f131 := (((((f130.ext E6).keep K33).wr W51).keep K91).wr W112)
  have n135 := Nat.ne_of_lt (Nat.lt_of_lt_of_le l134 (Nat.le_of_eq g6.symm))
  have f137 := (((((f132.ext E6).keep K33 (ninS n133 nin0)).other W51 (Or.inl n135)).keep K91 (ninS n136 nin0)).other W112 (Or.inl n135))
  have n141 := Nat.ne_of_lt (Nat.lt_of_lt_of_le l140 (Nat.le_of_eq g6.symm))
  have f143 := (((((f138.ext E6).keep K33 (ninS n139 nin0)).other W51 n141).keep K91 (ninS n142 nin0)).other W112 n141)
  have f145 := (((((f144.ext E6).keep K33 (ninS n133 nin0)).other W51 (Or.inl n135)).keep K91 (ninS n136 nin0)).other W112 (Or.inl n135))
  have f147 := (((((f146.ext E6).keep K33 (ninS n133 nin0)).other W51 (Or.inl n135)).keep K91 (ninS n136 nin0)).other W112 (Or.inl n135))
  have f149 := (((((f148.ext E6).keep K33 (ninS n133 nin0)).other W51 (Or.inl n135)).keep K91 (ninS n136 nin0)).other W112 (Or.inl n135))
  obtain ⟨_, T151, Lc151, X151, hQ151, st151⟩ := own_cV X129 hx hZ hown E129 (rm36_3 l Z a0 hw [] r18 r19 c20 x21 x10 h112 n0 o117 f137 f143 f145 f147 f131 f28 f149 g150 hc32) f131 (w 244 rfl) (w 245 rfl) (w 247 rfl) (w 246 rfl) (w 248 rfl) (w 2 rfl) (by decide) (W := 1) (by decide) (by decide) (by decide) (by decide) (g := (mkF m 41 #[lR r0, lV vI3, lR b6, lV vI2, lI x17] [(.ref r18), (.ref b6)])) rfl (by rw [hml]; rfl) (argsL := []) (rest := [(.ref b6)]) (lenOf pd___I rfl) rfl (own_W rfl) (hb hby d33_41)
  obtain ⟨rfl, N151q, K151, f152, f153⟩ := hQ151
  have N151 := Fr.app N129 N151q
  have f154 := (V112.keep K151 (ninS (Ne.symm n135) nin0))
  have o155 := Old.keep o117 K151 (allS g150 all0)
  obtain ⟨_, T156, Lc156, X156, hQ156, st156⟩ := own_cS X151 hx hZ hown rfl (rm39_5 l Z a0 hw [] b6 (x21 &&& (255 : Int32)) k6 (List.set (List.set [vI0, vI0, vI0, vI0, vI0, vI0, vI0, vI0] (x11).toNatClampNeg vI1) (x17).toNatClampNeg vI2) T151.heap n0 o155 f154) (w 261 rfl) (w 262 rfl) (w 105 rfl) (w 263 rfl) (by decide) (W := 0) (by decide) (by decide) (by decide) (by decide) (g := (mkF m 44 #[lR r0, lV vI3, lR b6, lV vI2, lI x17] [(.int (x21 &&& (255 : Int32))), (.ref b6)])) rfl (by rw [hml]; rfl) (argsL := [(.ref b6), (.int (x21 &&& (255 : Int32)))]) (rest := []) (lenOf pd___II_I rfl) rfl (own_W rfl) (hb hby d33_44)
  obtain ⟨rfl, N156q, E156⟩ := hQ156
  have N156 := Fr.app N151 N156q
  obtain ⟨T163, L163, X163, e163, N163, st163⟩ := own_ct (P := (own_at (List.set (List.set [vI0, vI0, vI0, vI0, vI0, vI0, vI0, vI0] (x11).toNatClampNeg vI1) (x17).toNatClampNeg vI2) (x22).toNatClampNeg) = (0 : Int32)) (g0 := (mkF m 49 #[lR r0, lV vI3, lR b6, lV vI2, lI x22] [])) (gj := (mkF m 49 #[lR r0, lV vI3, lR b6, lV vI2, .val (.int (if (own_at (List.set (List.set [vI0, vI0, vI0, vI0, vI0, vI0, vI0, vI0] (x11).toNatClampNeg vI1) (x17).toNatClampNeg vI2) (x22).toNatClampNeg) = (0 : Int32) then x22 else ((x22 + (1 : Int32)) &&& (7 : Int32))))] [])) (gb := (mkF m 49 #[lR r0, lV vI3, lR b6, lV vI2, .val (.int ((x22 + (1 : Int32)) &&& (7 : Int32)))] [])) X156 E156 N156 (fun hd => by
      obtain ⟨clq158, Arq158, qq158, Sq158, Nq158, Hq158, Gq158⟩ := id f154
      obtain ⟨_, T162, Lc162, X162, hQ162, st162⟩ := own_cS X156 hx hZ hown E156 (rm55_2 l Z a0 hw [] b6 x22 k6 (List.set (List.set [vI0, vI0, vI0, vI0, vI0, vI0, vI0, vI0] (x11).toNatClampNeg vI1) (x17).toNatClampNeg vI2) T151.heap n0 o155 f154) (w 351 rfl) (w 352 rfl) (w 105 rfl) (w 353 rfl) (by decide) (W := 0) (by decide) (by decide) (by decide) (by decide) (g := (mkF m 59 #[lR r0, lV vI3, lR b6, lV vI2, lI x22] [(.int x22), (.ref b6)])) rfl (by rw [hml]; rfl) (argsL := [(.ref b6), (.int x22)]) (rest := []) (lenOf pd___II_I rfl) rfl (own_W rfl) (hb hby d33_59)
      obtain ⟨rfl, N162q, E162⟩ := hQ162
      have N162 := Fr.app N156 N162q
      refine ⟨_, _, X162, E162, N162, fun t kk => ?_⟩
      show SG p e below T156 (mkF m 49 #[lR r0, lV vI3, lR b6, lV vI2, lI x22] []) _
      refine qaN X156 hx hby d33_49 ?_
      refine qi X156 hx hby d33_50 ?_
      refine X156.iaload hx (j := x22) (v := (.int (own_at (List.set (List.set [vI0, vI0, vI0, vI0, vI0, vI0, vI0, vI0] (x11).toNatClampNeg vI1) (x17).toNatClampNeg vI2) (x22).toNatClampNeg))) (by rw [E156]; exact Arq158.1) (State.isArrayOf_alike hZ.alike Arq158.2.1) Arq158.2.2 (inb_of Sq158 ⟨hc160, hc161⟩) (Has.at Hq158 (inb_of Sq158 ⟨hc160, hc161⟩) hc159) (g := (mkF m 52 #[lR r0, lV vI3, lR b6, lV vI2, lI x22] [(.int x22), (.ref b6)])) rfl rfl (hb hby d33_52) _ ?_
      refine XS.ifNo X156.here hx rfl (hb hby d33_53) rfl ((if0 _ _).trans (feq hd).1) ?_
      refine qaN X156 hx hby d33_56 ?_
      refine qi X156 hx hby d33_57 ?_
      refine st162 _ ?_
      refine XS.istore X162.here hx rfl (hb hby d33_62) rfl (l' := #[lR r0, lV vI3, lR b6, lV vI2, .val (.int ((x22 + (1 : Int32)) &&& (7 : Int32)))]) rfl ?_
      refine XS.goto X162.here hx rfl (pc0 := 64) (pc' := 49) rfl (hb hby d33_64) (by decide) (by decide) ?_
      exact kk) (fun hd => by rw [if_pos hd]) (fun hd => by rw [if_neg hd])
  obtain ⟨T170, L170, X170, e170, N170, st170⟩ := own_ct (P := (own_at (List.set (List.set [vI0, vI0, vI0, vI0, vI0, vI0, vI0, vI0] (x11).toNatClampNeg vI1) (x17).toNatClampNeg vI2) (x23).toNatClampNeg) = (0 : Int32)) (g0 := (mkF m 49 #[lR r0, lV vI3, lR b6, lV vI2, lI x23] [])) (gj := (mkF m 49 #[lR r0, lV vI3, lR b6, lV vI2, .val (.int (if (own_at (List.set (List.set [vI0, vI0, vI0, vI0, vI0, vI0, vI0, vI0] (x11).toNatClampNeg vI1) (x17).toNatClampNeg vI2) (x23).toNatClampNeg) = (0 : Int32) then x23 else ((x23 + (1 : Int32)) &&& (7 : Int32))))] [])) (gb := (mkF m 49 #[lR r0, lV vI3, lR b6, lV vI2, .val (.int ((x23 + (1 : Int32)) &&& (7 : Int32)))] [])) X163 e163 N163 (fun hd => by
      obtain ⟨clq165, Arq165, qq165, Sq165, Nq165, Hq165, Gq165⟩ := id f154
      obtain ⟨_, T169, Lc169, X169, hQ169, st169⟩ := own_cS X163 hx hZ hown e163 (rm55_2 l Z a0 hw [] b6 x23 k6 (List.set (List.set [vI0, vI0, vI0, vI0, vI0, vI0, vI0, vI0] (x11).toNatClampNeg vI1) (x17).toNatClampNeg vI2) T151.heap n0 o155 f154) (w 351 rfl) (w 352 rfl) (w 105 rfl) (w 353 rfl) (by decide) (W := 0) (by decide) (by decide) (by decide) (by decide) (g := (mkF m 59 #[lR r0, lV vI3, lR b6, lV vI2, lI x23] [(.int x23), (.ref b6)])) rfl (by rw [hml]; rfl) (argsL := [(.ref b6), (.int x23)]) (rest := []) (lenOf pd___II_I rfl) rfl (own_W rfl) (hb hby d33_59)
      obtain ⟨rfl, N169q, E169⟩ := hQ169
      have N169 := Fr.app N163 N169q
      refine ⟨_, _, X169, E169, N169, fun t kk => ?_⟩
      show SG p e below T163 (mkF m 49 #[lR r0, lV vI3, lR b6, lV vI2, lI x23] []) _
      refine qaN X163 hx hby d33_49 ?_
      refine qi X163 hx hby d33_50 ?_
      refine X163.iaload hx (j := x23) (v := (.int (own_at (List.set (List.set [vI0, vI0, vI0, vI0, vI0, vI0, vI0, vI0] (x11).toNatClampNeg vI1) (x17).toNatClampNeg vI2) (x23).toNatClampNeg))) (by rw [e163]; exact Arq165.1) (State.isArrayOf_alike hZ.alike Arq165.2.1) Arq165.2.2 (inb_of Sq165 ⟨hc167, hc168⟩) (Has.at Hq165 (inb_of Sq165 ⟨hc167, hc168⟩) hc166) (g := (mkF m 52 #[lR r0, lV vI3, lR b6, lV vI2, lI x23] [(.int x23), (.ref b6)])) rfl rfl (hb hby d33_52) _ ?_
      refine XS.ifNo X163.here hx rfl (hb hby d33_53) rfl ((if0 _ _).trans (feq hd).1) ?_
      refine qaN X163 hx hby d33_56 ?_
      refine qi X163 hx hby d33_57 ?_
      refine st169 _ ?_
      refine XS.istore X169.here hx rfl (hb hby d33_62) rfl (l' := #[lR r0, lV vI3, lR b6, lV vI2, .val (.int ((x23 + (1 : Int32)) &&& (7 : Int32)))]) rfl ?_
      refine XS.goto X169.here hx rfl (pc0 := 64) (pc' := 49) rfl (hb hby d33_64) (by decide) (by decide) ?_
      exact kk) (fun hd => by rw [if_pos hd]) (fun hd => by rw [if_neg hd])
  obtain ⟨clq172, Arq172, qq172, Sq172, Nq172, Hq172, Gq172⟩ := id f154
  obtain ⟨clq177, Arq177, qq177, Sq177, Nq177, Hq177, Gq177⟩ := id f154
  obtain ⟨T179, h179, X179, e179, W179, st179⟩ := stI X170 hx hZ e170 Arq177 (j := x24) (inb_of Sq177 ⟨hc174, hc175⟩) (g := (mkF m 73 #[lR r0, lV vI3, lR b6, lV vI2, lI x24] [vI3, (.int x24), (.ref b6)])) rfl rfl (hb hby d33_73)
  have V179 : Arv Z h179 b6 k6 .int (8 : Int32) (List.set (List.set (List.set [vI0, vI0, vI0, vI0, vI0, vI0, vI0, vI0] (x11).toNatClampNeg vI1) (x17).toNatClampNeg vI2) (x24).toNatClampNeg vI3) vI0 := Arv.set Arq177 qq177 Sq177 Nq177 Hq177 Gq177 rfl W179 _ rfl hc178
  have N179 := Fr.snoc X179 N170 g49
  have f180 := (((((f34.other W51 (Or.inl n37)).keep K91 (ninS (Ne.symm n75) nin0)).other W112 (Or.inl n37)).keep K151 (ninS (Ne.symm n133) nin0)).other W179 (Or.inl n37))
  have f181 := (((((f35.other W51 (Or.inl n37)).keep K91 (ninS (Ne.symm n75) nin0)).other W112 (Or.inl n37)).keep K151 (ninS (Ne.symm n133) nin0)).other W179 (Or.inl n37))
  have f182 := (((f92.other W112 (Or.inl n77)).keep K151 (ninS (Ne.symm n136) nin0)).other W179 (Or.inl n77))
  have f183 := (((f93.other W112 (Or.inl n77)).keep K151 (ninS (Ne.symm n136) nin0)).other W179 (Or.inl n77))
  have f184 := (f152.other W179 (Or.inl n135))
  have f185 := (f153.other W179 (Or.inl n135))
  have f186 := ((((((B6.keep K33).wr W51).keep K91).wr W112).keep K151).wr W179)
  have kp187 : Keep h0 h6 [r6, r12, r18] := (Keep.refl h0 [r6, r12, r18]).ext E6
  have kp188 : Keep h0 T33.heap [r6, r12, r18] := kp187.trans K33 (allS (Or.inl (List.mem_of_getElem? (i := 0) rfl)) all0)
  have kp189 : Keep h0 h51 [r6, r12, r18] := kp188.wr W51 (Or.inr (Nat.le_of_eq g6.symm))
  have kp190 : Keep h0 T91.heap [r6, r12, r18] := kp189.trans K91 (allS (Or.inl (List.mem_of_getElem? (i := 1) rfl)) all0)
  have kp191 : Keep h0 h112 [r6, r12, r18] := kp190.wr W112 (Or.inr (Nat.le_of_eq g6.symm))
  have kp192 : Keep h0 T151.heap [r6, r12, r18] := kp191.trans K151 (allS (Or.inl (List.mem_of_getElem? (i := 2) rfl)) all0)
  have kp193 : Keep h0 h179 [r6, r12, r18] := kp192.wr W179 (Or.inr (Nat.le_of_eq g6.symm))
  refine ⟨some (.ref b6), _, _, _, _, nofun, X179, by decide, by decide, ?_, fun fs hr => ?_⟩
  · rw [e179]; exact ⟨b6, k6, rfl, N179, kp193, f180, f181, f182, f183, f184, f185, (Nat.le_of_eq g6.symm), V179, f186⟩
  · show SG p e below s₁ (mkF m 0 #[lR r0, lU, lU, lU, lU] []) _
    refine qaN X0 hx hby d33_0 ?_
    refine st4 _ ?_
    refine XS.istoreN X4.here hx rfl (hb hby d33_6) rfl (l' := #[lR r0, lV vI3, lU, lU, lU]) rfl ?_
    refine qiN X4 hx hby d33_7 ?_
    refine qiN X4 hx hby d33_8 ?_
    refine qc X4 hx hby d33_9 ?_
    refine XS.idiv X4.here hx rfl (hb hby d33_10) rfl (by decide : ¬ ((2 : Int32) = (0 : Int32))) ?_
    refine XS.iadd X4.here hx rfl (hb hby d33_11) rfl ?_
    refine st5 _ ?_
    refine qc X5 hx hby d33_15 ?_
    show SG p e below T5 (mkF m 16 #[lR r0, lV vI3, lU, lU, lU] [vI1, vI4]) _
    refine XS.ishl X5.here hx rfl (hb hby d33_16) rfl ?_
    refine st6 _ ?_
    refine XS.astoreN X6.here hx rfl (hb hby d33_19) rfl rfl (l' := #[lR r0, lV vI3, lR b6, lU, lU]) rfl ?_
    refine qc X6 hx hby d33_20 ?_
    refine XS.istoreN X6.here hx rfl (hb hby d33_21) rfl (l' := #[lR r0, lV vI3, lR b6, lV vI0, lU]) rfl ?_
    refine qiN X6 hx hby d33_22 ?_
    refine qiN X6 hx hby d33_23 ?_
    refine XS.icmpNo X6.here hx rfl (hb hby d33_24) rfl (tlt (by decide : (0 : Int32) < (3 : Int32))).2.1 ?_
    refine qaN X6 hx hby d33_27 ?_
    refine qaN X6 hx hby d33_28 ?_
    show SG p e below T6 (mkF m 29 #[lR r0, lV vI3, lR b6, lV vI0, lU] [(.ref r0), (.ref b6)]) _
    refine qiN X6 hx hby d33_29 ?_
    refine st10 _ ?_
    refine st14 _ ?_
    refine st17 _ ?_
    refine st33 _ ?_
    refine st40 _ ?_
    show SG p e below T40 (mkF m 47 #[lR r0, lV vI3, lR b6, lV vI0, lU] [(.int ((((x9 &&& (255 : Int32)) * (-1640531527 : Int32)).toUInt32 >>> ((29 : Int32) &&& 31).toUInt32).toInt32))]) _
    rw [hq41]
    refine XS.istore X40.here hx rfl (hb hby d33_47) rfl (l' := #[lR r0, lV vI3, lR b6, lV vI0, lI x11]) rfl ?_
    refine qaN X40 hx hby d33_49 ?_
    refine qi X40 hx hby d33_50 ?_
    refine X40.iaload hx (j := x11) (v := (.int (own_at [vI0, vI0, vI0, vI0, vI0, vI0, vI0, vI0] (x11).toNatClampNeg))) (by rw [E40]; exact Arq42.1) (State.isArrayOf_alike hZ.alike Arq42.2.1) Arq42.2.2 (inb_of Sq42 ⟨hc44, hc45⟩) (Has.at Hq42 (inb_of Sq42 ⟨hc44, hc45⟩) hc43) (g := (mkF m 52 #[lR r0, lV vI3, lR b6, lV vI0, lI x11] [(.int x11), (.ref b6)])) rfl rfl (hb hby d33_52) _ ?_
    show SG p e below T40 (mkF m 53 #[lR r0, lV vI3, lR b6, lV vI0, lI x11] [(.int (own_at [vI0, vI0, vI0, vI0, vI0, vI0, vI0, vI0] (x11).toNatClampNeg))]) _
    refine XS.ifYes X40.here hx rfl (pc0 := 53) (pc' := 67) rfl (hb hby d33_53) rfl ((if0 _ _).trans (teq hc46).1) (by decide) (by decide) ?_
    refine qaN X40 hx hby d33_67 ?_
    refine qi X40 hx hby d33_68 ?_
    refine qiN X40 hx hby d33_70 ?_
    refine qc X40 hx hby d33_71 ?_
    refine XS.iadd X40.here hx rfl (hb hby d33_72) rfl ?_
    refine st51 _ ?_
    refine XS.iinc X51.here hx rfl (hb hby d33_74) rfl (l' := #[lR r0, lV vI3, lR b6, lV vI1, lI x11]) rfl ?_
    refine XS.goto X51.here hx rfl (pc0 := 77) (pc' := 22) rfl (hb hby d33_77) (by decide) (by decide) ?_
    refine qiN X51 hx hby d33_22 ?_
    show SG p e below T51 (mkF m 23 #[lR r0, lV vI3, lR b6, lV vI1, lI x11] [vI1]) _
    refine qiN X51 hx hby d33_23 ?_
    refine XS.icmpNo X51.here hx rfl (hb hby d33_24) rfl (tlt (by decide : (1 : Int32) < (3 : Int32))).2.1 ?_
    refine qaN X51 hx hby d33_27 ?_
    refine qaN X51 hx hby d33_28 ?_
    refine qiN X51 hx hby d33_29 ?_
    refine st61 _ ?_
    refine st65 _ ?_
    refine st71 _ ?_
    refine st91 _ ?_
    refine st96 _ ?_
    show SG p e below T96 (mkF m 47 #[lR r0, lV vI3, lR b6, lV vI1, lI x11] [(.int ((((x15 &&& (255 : Int32)) * (-1640531527 : Int32)).toUInt32 >>> ((29 : Int32) &&& 31).toUInt32).toInt32))]) _
    rw [hq97]
    show SG p e below T96 (mkF m 47 #[lR r0, lV vI3, lR b6, lV vI1, lI x11] [(.int x16)]) _
    refine XS.istore X96.here hx rfl (hb hby d33_47) rfl (l' := #[lR r0, lV vI3, lR b6, lV vI1, lI x16]) rfl ?_
    show SG p e below T96 (mkF m 49 #[lR r0, lV vI3, lR b6, lV vI1, lI x16] []) _
    refine st103 _ ?_
    show SG p e below T103 (mkF m 49 #[lR r0, lV vI3, lR b6, lV vI1, .val (.int (if (own_at (List.set [vI0, vI0, vI0, vI0, vI0, vI0, vI0, vI0] (x11).toNatClampNeg vI1) (x16).toNatClampNeg) = (0 : Int32) then x16 else ((x16 + (1 : Int32)) &&& (7 : Int32))))] []) _
    rw [hq104]
    show SG p e below T103 (mkF m 49 #[lR r0, lV vI3, lR b6, lV vI1, lI x17] []) _
    refine qaN X103 hx hby d33_49 ?_
    refine qi X103 hx hby d33_50 ?_
    refine X103.iaload hx (j := x17) (v := (.int (own_at (List.set [vI0, vI0, vI0, vI0, vI0, vI0, vI0, vI0] (x11).toNatClampNeg vI1) (x17).toNatClampNeg))) (by rw [e103]; exact Arq105.1) (State.isArrayOf_alike hZ.alike Arq105.2.1) Arq105.2.2 (inb_of Sq105 ⟨hc107, hc108⟩) (Has.at Hq105 (inb_of Sq105 ⟨hc107, hc108⟩) hc106) (g := (mkF m 52 #[lR r0, lV vI3, lR b6, lV vI1, lI x17] [(.int x17), (.ref b6)])) rfl rfl (hb hby d33_52) _ ?_
    refine XS.ifYes X103.here hx rfl (pc0 := 53) (pc' := 67) rfl (hb hby d33_53) rfl ((if0 _ _).trans (teq hc109).1) (by decide) (by decide) ?_
    refine qaN X103 hx hby d33_67 ?_
    refine qi X103 hx hby d33_68 ?_
    refine qiN X103 hx hby d33_70 ?_
    refine qc X103 hx hby d33_71 ?_
    refine XS.iadd X103.here hx rfl (hb hby d33_72) rfl ?_
    refine st112 _ ?_
    show SG p e below T112 (mkF m 74 #[lR r0, lV vI3, lR b6, lV vI1, lI x17] []) _
    refine XS.iinc X112.here hx rfl (hb hby d33_74) rfl (l' := #[lR r0, lV vI3, lR b6, lV vI2, lI x17]) rfl ?_
    refine XS.goto X112.here hx rfl (pc0 := 77) (pc' := 22) rfl (hb hby d33_77) (by decide) (by decide) ?_
    refine qiN X112 hx hby d33_22 ?_
    refine qiN X112 hx hby d33_23 ?_
    refine XS.icmpNo X112.here hx rfl (hb hby d33_24) rfl (tlt (by decide : (2 : Int32) < (3 : Int32))).2.1 ?_
    refine qaN X112 hx hby d33_27 ?_
    refine qaN X112 hx hby d33_28 ?_
    refine qiN X112 hx hby d33_29 ?_
    refine st118 _ ?_
    refine st122 _ ?_
    show SG p e below T122 (mkF m 38 #[lR r0, lV vI3, lR b6, lV vI2, lI x17] [(.ref r5), (.ref b6)]) _
    refine st129 _ ?_
    refine st151 _ ?_
    refine st156 _ ?_
    show SG p e below T156 (mkF m 47 #[lR r0, lV vI3, lR b6, lV vI2, lI x17] [(.int ((((x21 &&& (255 : Int32)) * (-1640531527 : Int32)).toUInt32 >>> ((29 : Int32) &&& 31).toUInt32).toInt32))]) _
    rw [hq157]
    refine XS.istore X156.here hx rfl (hb hby d33_47) rfl (l' := #[lR r0, lV vI3, lR b6, lV vI2, lI x22]) rfl ?_
    show SG p e below T156 (mkF m 49 #[lR r0, lV vI3, lR b6, lV vI2, lI x22] []) _
    refine st163 _ ?_
    show SG p e below T163 (mkF m 49 #[lR r0, lV vI3, lR b6, lV vI2, .val (.int (if (own_at (List.set (List.set [vI0, vI0, vI0, vI0, vI0, vI0, vI0, vI0] (x11).toNatClampNeg vI1) (x17).toNatClampNeg vI2) (x22).toNatClampNeg) = (0 : Int32) then x22 else ((x22 + (1 : Int32)) &&& (7 : Int32))))] []) _
    rw [hq164]
    show SG p e below T163 (mkF m 49 #[lR r0, lV vI3, lR b6, lV vI2, lI x23] []) _
    refine st170 _ ?_
    show SG p e below T170 (mkF m 49 #[lR r0, lV vI3, lR b6, lV vI2, .val (.int (if (own_at (List.set (List.set [vI0, vI0, vI0, vI0, vI0, vI0, vI0, vI0] (x11).toNatClampNeg vI1) (x17).toNatClampNeg vI2) (x23).toNatClampNeg) = (0 : Int32) then x23 else ((x23 + (1 : Int32)) &&& (7 : Int32))))] []) _
    rw [hq171]
    show SG p e below T170 (mkF m 49 #[lR r0, lV vI3, lR b6, lV vI2, lI x24] []) _
    refine qaN X170 hx hby d33_49 ?_
    refine qi X170 hx hby d33_50 ?_
    refine X170.iaload hx (j := x24) (v := (.int (own_at (List.set (List.set [vI0, vI0, vI0, vI0, vI0, vI0, vI0, vI0] (x11).toNatClampNeg vI1) (x17).toNatClampNeg vI2) (x24).toNatClampNeg))) (by rw [e170]; exact Arq172.1) (State.isArrayOf_alike hZ.alike Arq172.2.1) Arq172.2.2 (inb_of Sq172 ⟨hc174, hc175⟩) (Has.at Hq172 (inb_of Sq172 ⟨hc174, hc175⟩) hc173) (g := (mkF m 52 #[lR r0, lV vI3, lR b6, lV vI2, lI x24] [(.int x24), (.ref b6)])) rfl rfl (hb hby d33_52) _ ?_
    refine XS.ifYes X170.here hx rfl (pc0 := 53) (pc' := 67) rfl (hb hby d33_53) rfl ((if0 _ _).trans (teq hc176).1) (by decide) (by decide) ?_
    refine qaN X170 hx hby d33_67 ?_
    refine qi X170 hx hby d33_68 ?_
    refine qiN X170 hx hby d33_70 ?_
    refine qc X170 hx hby d33_71 ?_
    refine XS.iadd X170.here hx rfl (hb hby d33_72) rfl ?_
    refine st179 _ ?_
    show SG p e below T179 (mkF m 74 #[lR r0, lV vI3, lR b6, lV vI2, lI x24] []) _
    refine XS.iinc X179.here hx rfl (hb hby d33_74) rfl (l' := #[lR r0, lV vI3, lR b6, lV vI3, lI x24]) rfl ?_
    refine XS.goto X179.here hx rfl (pc0 := 77) (pc' := 22) rfl (hb hby d33_77) (by decide) (by decide) ?_
    refine qiN X179 hx hby d33_22 ?_
    refine qiN X179 hx hby d33_23 ?_
    refine XS.icmpYes X179.here hx rfl (pc0 := 24) (pc' := 80) rfl (hb hby d33_24) rfl (flt (by decide : ¬ ((3 : Int32) < (3 : Int32)))).2.1 (by decide) (by decide) ?_
    refine qaN X179 hx hby d33_80 ?_
    exact retOut X179 hx (i := .areturn) hret rfl (Or.inr (Or.inr (Or.inr (Or.inr ⟨rfl, rfl, rfl⟩)))) (hb hby d33_81) hr
def Q33_6 (Z : State) (r0 r1 r2 : Addr) (c3 : ClassId) (x4 : Int32) (r5 r6 : Addr) (c7 : ClassId) (x8 : Int32) (r9 r10 : Addr) (c11 : ClassId) (x12 : Int32) (r13 : Addr) (c14 : ClassId) (r15 r16 r17 : Addr) (x18 : Int32) (h0 : Heap) (n0 : Nat) (v : Option Value) (h : Heap) (L : List Loc) : Prop := ∃ bo : Addr, v = some (.ref bo) ∧ Fr n0 L ∧ Keep h0 h [r2, r6, r10] ∧ Fld Z h r2 "java/lang/String" "coder" "B" vI0 ∧ Fld Z h r2 "java/lang/String" "value" "[B" (.ref r1) ∧ Fld Z h r6 "java/lang/String" "coder" "B" vI0 ∧ Fld Z h r6 "java/lang/String" "value" "[B" (.ref r5) ∧ Fld Z h r10 "java/lang/String" "coder" "B" vI0 ∧ Fld Z h r10 "java/lang/String" "value" "[B" (.ref r9) ∧ True
theorem rm33_6 (l : Launch) (Z : State) (a0 : Array Value) (hw : own_HW a0 Z) (ws : List Jvm.Cond) (r0 r1 r2 : Addr) (c3 : ClassId) (x4 : Int32) (r5 r6 : Addr) (c7 : ClassId) (x8 : Int32) (r9 r10 : Addr) (c11 : ClassId) (x12 : Int32) (r13 : Addr) (c14 : ClassId) (r15 r16 r17 : Addr) (x18 : Int32) (h0 : Heap) (n0 : Nat) (O0 : Old Z n0 h0) (f1 : Fld Z h0 r2 "java/lang/String" "value" "[B" (.ref r1)) (f2 : Arv Z h0 r1 c3 .byte (1 : Int32) [(.int x4)] vI0) (f3 : Fld Z h0 r6 "java/lang/String" "value" "[B" (.ref r5)) (f4 : Arv Z h0 r5 c7 .byte (1 : Int32) [(.int x8)] vI0) (f5 : Fld Z h0 r10 "java/lang/String" "value" "[B" (.ref r9)) (f6 : Arv Z h0 r9 c11 .byte (1 : Int32) [(.int x12)] vI0) (f7 : Exa Z h0 r0 cs14) (f8 : Fld Z h0 r0 cs14 "elements" "[Ljava/lang/Object;" (.ref r13)) (f9 : Arv Z h0 r13 c14 (.object "java/lang/Object") (3 : Int32) [(.ref r15), (.ref r16), (.ref r17)] .null) (f10 : Exa Z h0 r15 cs0) (f11 : Fld Z h0 r15 cs0 "path" "Ljava/lang/String;" (.ref r2)) (f12 : Exa Z h0 r2 "java/lang/String") (f13 : Fld Z h0 r2 "java/lang/String" "hash" "I" vI0) (f14 : Fld Z h0 r2 "java/lang/String" "hashIsZero" "Z" vI0) (f15 : Sta Z Z.heap "java/lang/String" "COMPACT_STRINGS" "Z" (.int x18)) (f16 : Fld Z h0 r2 "java/lang/String" "coder" "B" vI0) (g17 : n0 ≤ r2) (l18 : r2 < h0.size) (n19 : r0 ≠ r2) (l20 : r0 < h0.size) (n21 : r13 ≠ r2) (l22 : r13 < h0.size) (f23 : Exa Z h0 r16 cs0) (f24 : Fld Z h0 r16 cs0 "path" "Ljava/lang/String;" (.ref r6)) (n25 : r16 ≠ r2) (l26 : r16 < h0.size) (f27 : Exa Z h0 r6 "java/lang/String") (n28 : r6 ≠ r2) (l29 : r6 < h0.size) (n30 : r5 ≠ r2) (l31 : r5 < h0.size) (f32 : Fld Z h0 r6 "java/lang/String" "hash" "I" vI0) (f33 : Fld Z h0 r6 "java/lang/String" "hashIsZero" "Z" vI0) (f34 : Fld Z h0 r6 "java/lang/String" "coder" "B" vI0) (g35 : n0 ≤ r6) (n36 : r0 ≠ r6) (n37 : r13 ≠ r6) (f38 : Exa Z h0 r17 cs0) (f39 : Fld Z h0 r17 cs0 "path" "Ljava/lang/String;" (.ref r10)) (n40 : r17 ≠ r2) (l41 : r17 < h0.size) (n42 : r17 ≠ r6) (f43 : Exa Z h0 r10 "java/lang/String") (n44 : r10 ≠ r2) (l45 : r10 < h0.size) (n46 : r10 ≠ r6) (n47 : r9 ≠ r2) (l48 : r9 < h0.size) (n49 : r9 ≠ r6) (f50 : Fld Z h0 r10 "java/lang/String" "hash" "I" vI0) (f51 : Fld Z h0 r10 "java/lang/String" "hashIsZero" "Z" vI0) (f52 : Fld Z h0 r10 "java/lang/String" "coder" "B" vI0) (g53 : n0 ≤ r10) (hc54 : ¬ (x18 = (0 : Int32))) :
    own_MF l mN40 prog_2_method_9_code 5 (some (.array .int)) ws rR2_1_8_27 Z h0 #[(.ref r0)] (Q33_6 Z r0 r1 r2 c3 x4 r5 r6 c7 x8 r9 r10 c11 x12 r13 c14 r15 r16 r17 x18 h0 n0) := by
  intro p e ha hc hk s m args below hf happ hP hK
  obtain ⟨k0, hk0, e0⟩ := own_us29 ((x4 &&& (255 : Int32)) * (-1640531527 : Int32))
  obtain ⟨k1, hk1, e1⟩ := own_us29 ((x8 &&& (255 : Int32)) * (-1640531527 : Int32))
  obtain ⟨k2, hk2, e2⟩ := own_itek (P := (own_at (List.set [vI0, vI0, vI0, vI0, vI0, vI0, vI0, vI0] ((Int32.ofNat k0)).toNatClampNeg vI1) ((Int32.ofNat k1)).toNatClampNeg) = (0 : Int32)) ⟨k1, hk1, rfl⟩ (own_nx8 k1 hk1)
  obtain ⟨k3, hk3, e3⟩ := own_us29 ((x12 &&& (255 : Int32)) * (-1640531527 : Int32))
  obtain ⟨k4, hk4, e4⟩ := own_itek (P := (own_at (List.set (List.set [vI0, vI0, vI0, vI0, vI0, vI0, vI0, vI0] ((Int32.ofNat k0)).toNatClampNeg vI1) ((Int32.ofNat k2)).toNatClampNeg vI2) ((Int32.ofNat k3)).toNatClampNeg) = (0 : Int32)) ⟨k3, hk3, rfl⟩ (own_nx8 k3 hk3)
  obtain ⟨k5, hk5, e5⟩ := own_itek (P := (own_at (List.set (List.set [vI0, vI0, vI0, vI0, vI0, vI0, vI0, vI0] ((Int32.ofNat k0)).toNatClampNeg vI1) ((Int32.ofNat k2)).toNatClampNeg vI2) ((Int32.ofNat k4)).toNatClampNeg) = (0 : Int32)) ⟨k4, hk4, rfl⟩ (own_nx8 k4 hk4)
  obtain ⟨nn, o, h1, h2, h3, v, L, rfl, hQ, hE⟩ := rm33_5 l Z a0 hw ws r0 r13 c14 r15 r16 r17 r2 r1 c3 x4 x18 (Int32.ofNat k0) r6 r5 c7 x8 (Int32.ofNat k1) (Int32.ofNat k2) r10 r9 c11 x12 (Int32.ofNat k3) (Int32.ofNat k4) (Int32.ofNat k5) h0 n0 O0 f7 f8 f9 f10 f11 f12 f1 f2 f13 f14 f15 f16 g17 hc54 l18 e0 ((by decide +kernel : ∀ k0 : Nat, k0 < 8 → ([vI0, vI0, vI0, vI0, vI0, vI0, vI0, vI0] : List Value).getD ((Int32.ofNat k0)).toNatClampNeg vI0 = (.int (own_at [vI0, vI0, vI0, vI0, vI0, vI0, vI0, vI0] ((Int32.ofNat k0)).toNatClampNeg))) k0 hk0) ((by decide +kernel : ∀ k0 : Nat, k0 < 8 → ¬ ((Int32.ofNat k0) < (0 : Int32))) k0 hk0) ((by decide +kernel : ∀ k0 : Nat, k0 < 8 → (Int32.ofNat k0) < (8 : Int32)) k0 hk0) ((by decide +kernel : ∀ k0 : Nat, k0 < 8 → (own_at [vI0, vI0, vI0, vI0, vI0, vI0, vI0, vI0] ((Int32.ofNat k0)).toNatClampNeg) = (0 : Int32)) k0 hk0) ((by decide +kernel : ∀ k0 : Nat, k0 < 8 → ((Int32.ofNat k0)).toNatClampNeg < ([vI0, vI0, vI0, vI0, vI0, vI0, vI0, vI0] : List Value).length) k0 hk0) n19 l20 n21 l22 f23 f24 n25 l26 f27 f3 n28 l29 f4 n30 l31 f32 f33 f34 g35 e1 ((by decide +kernel : ∀ k0 : Nat, k0 < 8 → ∀ k1 : Nat, k1 < 8 → (List.set [vI0, vI0, vI0, vI0, vI0, vI0, vI0, vI0] ((Int32.ofNat k0)).toNatClampNeg vI1).getD ((Int32.ofNat k1)).toNatClampNeg vI0 = (.int (own_at (List.set [vI0, vI0, vI0, vI0, vI0, vI0, vI0, vI0] ((Int32.ofNat k0)).toNatClampNeg vI1) ((Int32.ofNat k1)).toNatClampNeg))) k0 hk0 k1 hk1) ((by decide +kernel : ∀ k1 : Nat, k1 < 8 → ¬ ((Int32.ofNat k1) < (0 : Int32))) k1 hk1) ((by decide +kernel : ∀ k1 : Nat, k1 < 8 → (Int32.ofNat k1) < (8 : Int32)) k1 hk1) e2 ((by decide +kernel : ∀ k0 : Nat, k0 < 8 → ∀ k2 : Nat, k2 < 8 → (List.set [vI0, vI0, vI0, vI0, vI0, vI0, vI0, vI0] ((Int32.ofNat k0)).toNatClampNeg vI1).getD ((Int32.ofNat k2)).toNatClampNeg vI0 = (.int (own_at (List.set [vI0, vI0, vI0, vI0, vI0, vI0, vI0, vI0] ((Int32.ofNat k0)).toNatClampNeg vI1) ((Int32.ofNat k2)).toNatClampNeg))) k0 hk0 k2 hk2) ((by decide +kernel : ∀ k2 : Nat, k2 < 8 → ¬ ((Int32.ofNat k2) < (0 : Int32))) k2 hk2) ((by decide +kernel : ∀ k2 : Nat, k2 < 8 → (Int32.ofNat k2) < (8 : Int32)) k2 hk2) ((by decide +kernel : ∀ k0 : Nat, k0 < 8 → ∀ k1 : Nat, k1 < 8 → ∀ k2 : Nat, k2 < 8 → ((if (own_at (List.set [vI0, vI0, vI0, vI0, vI0, vI0, vI0, vI0] ((Int32.ofNat k0)).toNatClampNeg vI1) ((Int32.ofNat k1)).toNatClampNeg) = (0 : Int32) then (Int32.ofNat k1) else (((Int32.ofNat k1) + (1 : Int32)) &&& (7 : Int32))) = Int32.ofNat k2) → (own_at (List.set [vI0, vI0, vI0, vI0, vI0, vI0, vI0, vI0] ((Int32.ofNat k0)).toNatClampNeg vI1) ((Int32.ofNat k2)).toNatClampNeg) = (0 : Int32)) k0 hk0 k1 hk1 k2 hk2 e2) ((by decide +kernel : ∀ k0 : Nat, k0 < 8 → ∀ k2 : Nat, k2 < 8 → ((Int32.ofNat k2)).toNatClampNeg < ((List.set [vI0, vI0, vI0, vI0, vI0, vI0, vI0, vI0] ((Int32.ofNat k0)).toNatClampNeg vI1) : List Value).length) k0 hk0 k2 hk2) n36 n37 f38 f39 n40 l41 n42 f43 f5 n44 l45 n46 f6 n47 l48 n49 f50 f51 f52 g53 e3 ((by decide +kernel : ∀ k0 : Nat, k0 < 8 → ∀ k2 : Nat, k2 < 8 → ∀ k3 : Nat, k3 < 8 → (List.set (List.set [vI0, vI0, vI0, vI0, vI0, vI0, vI0, vI0] ((Int32.ofNat k0)).toNatClampNeg vI1) ((Int32.ofNat k2)).toNatClampNeg vI2).getD ((Int32.ofNat k3)).toNatClampNeg vI0 = (.int (own_at (List.set (List.set [vI0, vI0, vI0, vI0, vI0, vI0, vI0, vI0] ((Int32.ofNat k0)).toNatClampNeg vI1) ((Int32.ofNat k2)).toNatClampNeg vI2) ((Int32.ofNat k3)).toNatClampNeg))) k0 hk0 k2 hk2 k3 hk3) ((by decide +kernel : ∀ k3 : Nat, k3 < 8 → ¬ ((Int32.ofNat k3) < (0 : Int32))) k3 hk3) ((by decide +kernel : ∀ k3 : Nat, k3 < 8 → (Int32.ofNat k3) < (8 : Int32)) k3 hk3) e4 ((by decide +kernel : ∀ k0 : Nat, k0 < 8 → ∀ k2 : Nat, k2 < 8 → ∀ k4 : Nat, k4 < 8 → (List.set (List.set [vI0, vI0, vI0, vI0, vI0, vI0, vI0, vI0] ((Int32.ofNat k0)).toNatClampNeg vI1) ((Int32.ofNat k2)).toNatClampNeg vI2).getD ((Int32.ofNat k4)).toNatClampNeg vI0 = (.int (own_at (List.set (List.set [vI0, vI0, vI0, vI0, vI0, vI0, vI0, vI0] ((Int32.ofNat k0)).toNatClampNeg vI1) ((Int32.ofNat k2)).toNatClampNeg vI2) ((Int32.ofNat k4)).toNatClampNeg))) k0 hk0 k2 hk2 k4 hk4) ((by decide +kernel : ∀ k4 : Nat, k4 < 8 → ¬ ((Int32.ofNat k4) < (0 : Int32))) k4 hk4) ((by decide +kernel : ∀ k4 : Nat, k4 < 8 → (Int32.ofNat k4) < (8 : Int32)) k4 hk4) e5 ((by decide +kernel : ∀ k0 : Nat, k0 < 8 → ∀ k2 : Nat, k2 < 8 → ∀ k5 : Nat, k5 < 8 → (List.set (List.set [vI0, vI0, vI0, vI0, vI0, vI0, vI0, vI0] ((Int32.ofNat k0)).toNatClampNeg vI1) ((Int32.ofNat k2)).toNatClampNeg vI2).getD ((Int32.ofNat k5)).toNatClampNeg vI0 = (.int (own_at (List.set (List.set [vI0, vI0, vI0, vI0, vI0, vI0, vI0, vI0] ((Int32.ofNat k0)).toNatClampNeg vI1) ((Int32.ofNat k2)).toNatClampNeg vI2) ((Int32.ofNat k5)).toNatClampNeg))) k0 hk0 k2 hk2 k5 hk5) ((by decide +kernel : ∀ k5 : Nat, k5 < 8 → ¬ ((Int32.ofNat k5) < (0 : Int32))) k5 hk5) ((by decide +kernel : ∀ k5 : Nat, k5 < 8 → (Int32.ofNat k5) < (8 : Int32)) k5 hk5) (own_in3_22470_t k0 hk0 k1 hk1 k2 hk2 e2 k3 hk3 k4 hk4 e4 k5 hk5 e5) ((by decide +kernel : ∀ k0 : Nat, k0 < 8 → ∀ k2 : Nat, k2 < 8 → ∀ k5 : Nat, k5 < 8 → ((Int32.ofNat k5)).toNatClampNeg < ((List.set (List.set [vI0, vI0, vI0, vI0, vI0, vI0, vI0, vI0] ((Int32.ofNat k0)).toNatClampNeg vI1) ((Int32.ofNat k2)).toNatClampNeg vI2) : List Value).length) k0 hk0 k2 hk2 k5 hk5) p e ha hc hk s m args below hf happ hP hK
  obtain ⟨b6, k6, rfl, N, K, e0, e1, e2, e3, e4, e5, e6, e7, e8⟩ := hQ
  exact ⟨nn, _, h1, h2, h3, _, L, rfl, ⟨_, rfl, N, K, e0, e1, e2, e3, e4, e5, trivial⟩, hE⟩
def Q16_3 (Z : State) (r0 r1 : Addr) (x2 : Int32) (r7 r8 : Addr) (r9 r10 : Addr) (r13 r14 : Addr) (r17 r18 : Addr) (h0 : Heap) (n0 : Nat) (v : Option Value) (h : Heap) (L : List Loc) : Prop := ∃ (b31_0 b112_0 : Addr) (b175_0 b31_1 : Addr) (k31_0 : ClassId), v = none ∧ Fr n0 L ∧ Keep h0 h [r0, r1, r14, r18] ∧ Fld Z h r0 cs11 "id" "Ljava/lang/String;" (.ref r1) ∧ Fld Z h r0 cs11 "length" "I" (.int x2) ∧ Fld Z h r0 cs11 "elements" "Ljava/util/List;" (.ref b31_0) ∧ Fld Z h r0 cs11 "subtreeEnds" "[I" (.ref b112_0) ∧ Fld Z h r0 cs11 "placesByPath" "[I" (.ref b175_0) ∧ Fld Z h r1 "java/lang/String" "coder" "B" vI0 ∧ Fld Z h r1 "java/lang/String" "value" "[B" (.ref r10) ∧ Fld Z h r14 "java/lang/String" "coder" "B" vI0 ∧ Fld Z h r14 "java/lang/String" "value" "[B" (.ref r13) ∧ Fld Z h r18 "java/lang/String" "coder" "B" vI0 ∧ Fld Z h r18 "java/lang/String" "value" "[B" (.ref r17) ∧ h0.size ≤ b31_0 ∧ Exa Z h b31_0 cs14 ∧ Fld Z h b31_0 cs14 "elements" "[Ljava/lang/Object;" (.ref b31_1) ∧ Fld Z h b31_0 cs14 "allowNulls" "Z" vI0 ∧ True ∧ True ∧ h0.size ≤ b31_1 ∧ Arv Z h b31_1 k31_0 (.object "java/lang/Object") (3 : Int32) [(.ref r7), (.ref r8), (.ref r9)] .null ∧ Exa Z h b31_1 "[Ljava/lang/Object;" ∧ Ovr Z k31_0 "java/lang/Object" ∧ b31_0 ≠ b31_1
theorem rm16_3 (l : Launch) (Z : State) (a0 : Array Value) (hw : own_HW a0 Z) (ws : List Jvm.Cond) (r0 r1 : Addr) (x2 : Int32) (r3 r4 r5 : Addr) (c6 : ClassId) (r7 r8 : Addr) (r9 r10 : Addr) (c11 : ClassId) (x12 : Int32) (r13 r14 : Addr) (c15 : ClassId) (x16 : Int32) (r17 r18 : Addr) (c19 : ClassId) (x20 x21 : Int32) (h0 : Heap) (n0 : Nat) (O0 : Old Z n0 h0) (f2 : Exa Z h0 r0 cs11) (f3 : Fld Z h0 r0 cs11 "id" "Ljava/lang/String;" .null) (g4 : n0 ≤ r0) (f7 : Fld Z h0 r0 cs11 "length" "I" vI0) (f10 : Exa Z h0 r3 "java/util/ArrayList") (f12 : Fld Z h0 r3 "java/util/ArrayList" "size" "I" vI3) (n13 : r3 ≠ r0) (f15 : Fld Z h0 r3 "java/util/ArrayList" "elementData" "[Ljava/lang/Object;" (.ref r4)) (f17 : Exa Z h0 r4 "[Ljava/lang/Object;") (f19 : own_Mir Z "[Ljava/lang/Object;" r5) (f20 : Arv Z h0 r4 c6 (.object "java/lang/Object") (10 : Int32) [(.ref r7), (.ref r8), (.ref r9), .null, .null, .null, .null, .null, .null, .null] .null) (n21 : r4 ≠ r0) (f23 : Exa Z h0 r9 cs0) (f25 : Exa Z h0 r8 cs0) (f27 : Exa Z h0 r7 cs0) (f42 : Fld Z h0 r0 cs11 "elements" "Ljava/util/List;" .null) (f46 : Fld Z h0 r1 "java/lang/String" "value" "[B" (.ref r10)) (n47 : r1 ≠ r0) (f49 : Arv Z h0 r10 c11 .byte (1 : Int32) [(.int x12)] vI0) (n50 : r10 ≠ r0) (f52 : Fld Z h0 r14 "java/lang/String" "value" "[B" (.ref r13)) (n53 : r14 ≠ r0) (f55 : Arv Z h0 r13 c15 .byte (1 : Int32) [(.int x16)] vI0) (n56 : r13 ≠ r0) (f58 : Fld Z h0 r18 "java/lang/String" "value" "[B" (.ref r17)) (n59 : r18 ≠ r0) (f61 : Arv Z h0 r17 c19 .byte (1 : Int32) [(.int x20)] vI0) (n62 : r17 ≠ r0) (l65 : r0 < h0.size) (f73 : Fld Z h0 r7 cs0 "path" "Ljava/lang/String;" (.ref r1)) (n74 : r7 ≠ r0) (f78 : Fld Z h0 r8 cs0 "path" "Ljava/lang/String;" (.ref r14)) (n79 : r8 ≠ r0) (l81 : r8 < h0.size) (l84 : r7 < h0.size) (f85 : Exa Z h0 r14 "java/lang/String") (l87 : r14 < h0.size) (l88 : r13 < h0.size) (f89 : Sta Z Z.heap "java/lang/String" "COMPACT_STRINGS" "Z" (.int x21)) (f90 : Fld Z h0 r14 "java/lang/String" "coder" "B" vI0) (f92 : Exa Z h0 r1 "java/lang/String") (l94 : r1 < h0.size) (l95 : r10 < h0.size) (f96 : Fld Z h0 r1 "java/lang/String" "coder" "B" vI0) (f99 : Fld Z h0 r9 cs0 "path" "Ljava/lang/String;" (.ref r18)) (n100 : r9 ≠ r0) (l102 : r9 < h0.size) (f103 : Exa Z h0 r18 "java/lang/String") (l105 : r18 < h0.size) (l106 : r17 < h0.size) (f107 : Fld Z h0 r18 "java/lang/String" "coder" "B" vI0) (hc109 : ¬ (x21 = (0 : Int32))) (f115 : Fld Z h0 r0 cs11 "subtreeEnds" "[I" .null) (f132 : Fld Z h0 r1 "java/lang/String" "hash" "I" vI0) (f134 : Fld Z h0 r1 "java/lang/String" "hashIsZero" "Z" vI0) (g137 : n0 ≤ r1) (n146 : r8 ≠ r1) (n148 : r14 ≠ r1) (n149 : r13 ≠ r1) (f150 : Fld Z h0 r14 "java/lang/String" "hash" "I" vI0) (f152 : Fld Z h0 r14 "java/lang/String" "hashIsZero" "Z" vI0) (g155 : n0 ≤ r14) (n160 : r9 ≠ r1) (n161 : r9 ≠ r14) (n163 : r18 ≠ r1) (n164 : r18 ≠ r14) (n165 : r17 ≠ r1) (n166 : r17 ≠ r14) (f167 : Fld Z h0 r18 "java/lang/String" "hash" "I" vI0) (f169 : Fld Z h0 r18 "java/lang/String" "hashIsZero" "Z" vI0) (g172 : n0 ≤ r18) (f184 : Fld Z h0 r0 cs11 "placesByPath" "[I" .null) :
    own_MF l mN41 prog_2_method_1_code 4 none ws rR9_6_22_116 Z h0 #[(.ref r0), (.ref r1), (.int x2), (.ref r3)] (Q16_3 Z r0 r1 x2 r7 r8 r9 r10 r13 r14 r17 r18 h0 n0) := by
  refine own_open (plainFor_of_name pn_com_example_nearmiss_nearmiss_Document) (L0 := #[lR r0, lR r1, lI x2, lR r3]) (fun _ => by first | (simp [entryFrame, mkF, argsToLocals, Value.category]; done) | rfl) ?_
  intro p e s m below meth c s₁ hx hby hml hret hnn hZ hown X0 e0
  have N0 := Fr.nil n0; have w := @ww Z a0 hw
  have hnm := (name_of_methodNamed hnn.1 hnn.2).1
  obtain ⟨T1, X1, e1, st1⟩ := initO X0 hx hZ hown (w 109 rfl) (w 20 rfl) (w 21 rfl) e0 (g := (mkF m 1 #[lR r0, lR r1, lI x2, lR r3] [(.ref r0)])) rfl (by rw [hml]; rfl) rfl (hb hby d16_1) (by decide) (W := 0) (own_W rfl) (by decide)
  obtain ⟨T5, h5, X5, e5, W5, st5⟩ := putF X1 hx hZ hown (host := "") (Or.inl (w 110 rfl)) Via.refl e1 f3 f2 (Or.inr ⟨(w 111 rfl), rfl, hnm⟩) (w 104 rfl) (ty := (.object "java/lang/String")) (by decide) rfl rfl (g := (mkF m 6 #[lR r0, lR r1, lI x2, lR r3] [(.ref r1), (.ref r0)])) rfl rfl (hb hby d16_6)
  have Fw5 := f3.same W5
  have N5 := Fr.snoc X5 N0 g4
  have f6 := (f2.wr W5)
  have f8 := (f7.other W5 (Or.inr (slot_ne (Or.inr (w 113 rfl)) (Or.inr (w 111 rfl)) (by decide) (t := .int) (t' := (.object "java/lang/String")) (by decide) (by decide))))
  obtain ⟨T9, h9, X9, e9, W9, st9⟩ := putF X5 hx hZ hown (host := "") (Or.inl (w 112 rfl)) Via.refl e5 f8 f6 (Or.inr ⟨(w 113 rfl), rfl, hnm⟩) (w 104 rfl) (ty := .int) (by decide) rfl rfl (g := (mkF m 11 #[lR r0, lR r1, lI x2, lR r3] [(.int x2), (.ref r0)])) rfl rfl (hb hby d16_11)
  have Fw9 := f8.same W9
  have N9 := Fr.snoc X9 N5 g4
  have f11 := ((f10.wr W5).wr W9)
  have f14 := ((f12.other W5 (Or.inl n13)).other W9 (Or.inl n13))
  have f16 := ((f15.other W5 (Or.inl n13)).other W9 (Or.inl n13))
  have f18 := ((f17.wr W5).wr W9)
  have f22 := ((f20.other W5 n21).other W9 n21)
  have f24 := ((f23.wr W5).wr W9)
  have f26 := ((f25.wr W5).wr W9)
  have f28 := ((f27.wr W5).wr W9)
  have o29 := Old.wr O0 W5 g4
  have o30 := Old.wr o29 W9 g4
  obtain ⟨_, T31, Lc31, X31, hQ31, st31⟩ := own_cS X9 hx hZ hown e9 (rm17_3 l Z a0 hw [] r3 r4 r5 c6 r7 r8 r9 h9 n0 o30 f11 f14 f16 f18 f19 f22 f24 f26 f28) (w 114 rfl) (w 115 rfl) (w 116 rfl) (w 117 rfl) (by decide) (W := 1) (by decide) (by decide) (by decide) (by decide) (g := (mkF m 16 #[lR r0, lR r1, lI x2, lR r3] [(.ref r3), (.ref r0)])) rfl (by rw [hml]; rfl) (argsL := [(.ref r3)]) (rest := [(.ref r0)]) (lenOf pd__Ljava_util_Collection__Ljava_util_List_ rfl) rfl (own_W rfl) (hb hby d16_16)
  obtain ⟨b31_0, b31_1, k31_0, rfl, N31q, K31, f32, f33, f34, f35, f36, f37, f38, f39, f40⟩ := hQ31
  have N31 := Fr.app N9 N31q
  have f41 := ((f6.wr W9).keep K31)
  have f43 := (((f42.other W5 (Or.inr (slot_ne (Or.inr (w 201 rfl)) (Or.inr (w 111 rfl)) (by decide) (t := (.object "java/util/List")) (t' := (.object "java/lang/String")) (by decide) (by decide)))).other W9 (Or.inr (slot_ne (Or.inr (w 201 rfl)) (Or.inr (w 113 rfl)) (by decide) (t := (.object "java/util/List")) (t' := .int) (by decide) (by decide)))).keep K31 nin0)
  obtain ⟨T44, h44, X44, e44, W44, st44⟩ := putF X31 hx hZ hown (host := "") (Or.inl (w 200 rfl)) Via.refl rfl f43 f41 (Or.inr ⟨(w 201 rfl), rfl, hnm⟩) (w 104 rfl) (ty := (.object "java/util/List")) (by decide) rfl rfl (g := (mkF m 19 #[lR r0, lR r1, lI x2, lR r3] [(.ref b31_0), (.ref r0)])) rfl rfl (hb hby d16_19)
  have Fw44 := f43.same W44
  have N44 := Fr.snoc X44 N31 g4
  obtain ⟨T45, X45, e45, st45⟩ := getF X44 hx hZ hown (host := "") (Or.inl (w 200 rfl)) Via.refl e44 Fw44 (g := (mkF m 24 #[lR r0, lR r1, lI x2, lR r3] [(.ref r0), (.ref r0)])) rfl rfl (hb hby d16_24)
  have f48 := ((((f46.other W5 (Or.inl n47)).other W9 (Or.inl n47)).keep K31 nin0).other W44 (Or.inl n47))
  have f51 := ((((f49.other W5 n50).other W9 n50).keep K31 nin0).other W44 n50)
  have f54 := ((((f52.other W5 (Or.inl n53)).other W9 (Or.inl n53)).keep K31 nin0).other W44 (Or.inl n53))
  have f57 := ((((f55.other W5 n56).other W9 n56).keep K31 nin0).other W44 n56)
  have f60 := ((((f58.other W5 (Or.inl n59)).other W9 (Or.inl n59)).keep K31 nin0).other W44 (Or.inl n59))
  have f63 := ((((f61.other W5 n62).other W9 n62).keep K31 nin0).other W44 n62)
  have f64 := (f33.wr W44)
  have zs66 := (Nat.le_of_eq W5.size.symm)
  have zs67 := Nat.le_trans zs66 (Nat.le_of_eq W9.size.symm)
  have n68 := Nat.ne_of_lt (Nat.lt_of_lt_of_le (Nat.lt_of_lt_of_le l65 zs67) f32)
  have f69 := (f34.other W44 (Or.inl (Ne.symm n68)))
  have n70 := Nat.ne_of_lt (Nat.lt_of_lt_of_le (Nat.lt_of_lt_of_le l65 zs67) f36)
  have f71 := (f37.other W44 (Ne.symm n70))
  have f72 := ((f28.keep K31).wr W44)
  have f75 := ((((f73.other W5 (Or.inl n74)).other W9 (Or.inl n74)).keep K31 nin0).other W44 (Or.inl n74))
  have zs76 := (Nat.le_of_eq W44.size.symm)
  have f77 := ((f26.keep K31).wr W44)
  have f80 := ((((f78.other W5 (Or.inl n79)).other W9 (Or.inl n79)).keep K31 nin0).other W44 (Or.inl n79))
  have zs82 := Nat.le_trans zs67 K31.1
  have zs83 := Nat.le_trans zs82 (Nat.le_of_eq W44.size.symm)
  have f86 := ((((f85.wr W5).wr W9).keep K31).wr W44)
  have f91 := ((((f90.other W5 (Or.inl n53)).other W9 (Or.inl n53)).keep K31 nin0).other W44 (Or.inl n53))
  have f93 := ((((f92.wr W5).wr W9).keep K31).wr W44)
  have f97 := ((((f96.other W5 (Or.inl n47)).other W9 (Or.inl n47)).keep K31 nin0).other W44 (Or.inl n47))
  have f98 := ((f24.keep K31).wr W44)
  have f101 := ((((f99.other W5 (Or.inl n100)).other W9 (Or.inl n100)).keep K31 nin0).other W44 (Or.inl n100))
  have f104 := ((((f103.wr W5).wr W9).keep K31).wr W44)
  have f108 := ((((f107.other W5 (Or.inl n59)).other W9 (Or.inl n59)).keep K31 nin0).other W44 (Or.inl n59))
  have o110 := Old.keep o30 K31 all0
  have o111 := Old.wr o110 W44 g4
  obtain ⟨_, T112, Lc112, X112, hQ112, st112⟩ := own_cS X45 hx hZ hown e45 (rm29_10 l Z a0 hw [] b31_0 r10 r1 c11 x12 r13 r14 c15 x16 r17 r18 c19 x20 b31_1 k31_0 r7 r8 r9 x21 h44 n0 o111 f48 f51 f54 f57 f60 f63 f64 f69 f71 f72 f75 (Nat.lt_of_lt_of_le f33.lt zs76) (Nat.lt_of_lt_of_le f37.lt zs76) f77 f80 (Nat.lt_of_lt_of_le l81 zs83) (Nat.lt_of_lt_of_le l84 zs83) f86 (Nat.lt_of_lt_of_le l87 zs83) (Nat.lt_of_lt_of_le l88 zs83) f89 f91 f93 (Nat.lt_of_lt_of_le l94 zs83) (Nat.lt_of_lt_of_le l95 zs83) f97 f98 f101 (Nat.lt_of_lt_of_le l102 zs83) f104 (Nat.lt_of_lt_of_le l105 zs83) (Nat.lt_of_lt_of_le l106 zs83) f108 hc109) (w 202 rfl) (w 203 rfl) (w 105 rfl) (w 204 rfl) (by decide) (W := 1) (by decide) (by decide) (by decide) (by decide) (g := (mkF m 27 #[lR r0, lR r1, lI x2, lR r3] [(.ref b31_0), (.ref r0)])) rfl (by rw [hml]; rfl) (argsL := [(.ref b31_0)]) (rest := [(.ref r0)]) (lenOf pd__Ljava_util_List___I rfl) rfl (own_W rfl) (hb hby d16_27)
  obtain ⟨b112_0, rfl, N112q, K112, f113⟩ := hQ112
  have N112 := Fr.app N44 N112q
  have f114 := ((f41.wr W44).keep K112)
  have f116 := (((((f115.other W5 (Or.inr (slot_ne (Or.inr (w 231 rfl)) (Or.inr (w 111 rfl)) (by decide) (t := (.array .int)) (t' := (.object "java/lang/String")) (by decide) (by decide)))).other W9 (Or.inr (slot_ne (Or.inr (w 231 rfl)) (Or.inr (w 113 rfl)) (by decide) (t := (.array .int)) (t' := .int) (by decide) (by decide)))).keep K31 nin0).other W44 (Or.inr (slot_ne (Or.inr (w 231 rfl)) (Or.inr (w 201 rfl)) (by decide) (t := (.array .int)) (t' := (.object "java/util/List")) (by decide) (by decide)))).keep K112 nin0)
  obtain ⟨T117, h117, X117, e117, W117, st117⟩ := putF X112 hx hZ hown (host := "") (Or.inl (w 230 rfl)) Via.refl rfl f116 f114 (Or.inr ⟨(w 231 rfl), rfl, hnm⟩) (w 104 rfl) (ty := (.array .int)) (by decide) rfl rfl (g := (mkF m 30 #[lR r0, lR r1, lI x2, lR r3] [(.ref b112_0), (.ref r0)])) rfl rfl (hb hby d16_30)
  have Fw117 := f116.same W117
  have N117 := Fr.snoc X117 N112 g4
  have f118 := ((Fw44.keep K112 nin0).other W117 (Or.inr (slot_ne (Or.inr (w 201 rfl)) (Or.inr (w 231 rfl)) (by decide) (t := (.object "java/util/List")) (t' := (.array .int)) (by decide) (by decide))))
  obtain ⟨T119, X119, e119, st119⟩ := getF X117 hx hZ hown (host := "") (Or.inl (w 200 rfl)) Via.refl e117 f118 (g := (mkF m 35 #[lR r0, lR r1, lI x2, lR r3] [(.ref r0), (.ref r0)])) rfl rfl (hb hby d16_35)
  have f120 := ((f48.keep K112 nin0).other W117 (Or.inl n47))
  have f121 := ((f51.keep K112 nin0).other W117 n50)
  have f122 := ((f54.keep K112 nin0).other W117 (Or.inl n53))
  have f123 := ((f57.keep K112 nin0).other W117 n56)
  have f124 := ((f60.keep K112 nin0).other W117 (Or.inl n59))
  have f125 := ((f63.keep K112 nin0).other W117 n62)
  have f126 := ((f64.keep K112).wr W117)
  have f127 := ((f69.keep K112 nin0).other W117 (Or.inl (Ne.symm n68)))
  have f128 := ((f71.keep K112 nin0).other W117 (Ne.symm n70))
  have f129 := ((f72.keep K112).wr W117)
  have f130 := ((f75.keep K112 nin0).other W117 (Or.inl n74))
  have f131 := ((f93.keep K112).wr W117)
  have f133 := ((((((f132.other W5 (Or.inl n47)).other W9 (Or.inl n47)).keep K31 nin0).other W44 (Or.inl n47)).keep K112 nin0).other W117 (Or.inl n47))
  have f135 := ((((((f134.other W5 (Or.inl n47)).other W9 (Or.inl n47)).keep K31 nin0).other W44 (Or.inl n47)).keep K112 nin0).other W117 (Or.inl n47))
  have f136 := ((f97.keep K112 nin0).other W117 (Or.inl n47))
  have zs138 := Nat.le_trans zs83 K112.1
  have zs139 := Nat.le_trans zs138 (Nat.le_of_eq W117.size.symm)
  have n140 := Nat.ne_of_lt (Nat.lt_of_lt_of_le (Nat.lt_of_lt_of_le l94 zs67) f32)
  have zs141 := Nat.le_trans zs76 K112.1
  have zs142 := Nat.le_trans zs141 (Nat.le_of_eq W117.size.symm)
  have n143 := Nat.ne_of_lt (Nat.lt_of_lt_of_le (Nat.lt_of_lt_of_le l94 zs67) f36)
  have f144 := ((f77.keep K112).wr W117)
  have f145 := ((f80.keep K112 nin0).other W117 (Or.inl n79))
  have f147 := ((f86.keep K112).wr W117)
  have f151 := ((((((f150.other W5 (Or.inl n53)).other W9 (Or.inl n53)).keep K31 nin0).other W44 (Or.inl n53)).keep K112 nin0).other W117 (Or.inl n53))
  have f153 := ((((((f152.other W5 (Or.inl n53)).other W9 (Or.inl n53)).keep K31 nin0).other W44 (Or.inl n53)).keep K112 nin0).other W117 (Or.inl n53))
  have f154 := ((f91.keep K112 nin0).other W117 (Or.inl n53))
  have n156 := Nat.ne_of_lt (Nat.lt_of_lt_of_le (Nat.lt_of_lt_of_le l87 zs67) f32)
  have n157 := Nat.ne_of_lt (Nat.lt_of_lt_of_le (Nat.lt_of_lt_of_le l87 zs67) f36)
  have f158 := ((f98.keep K112).wr W117)
  have f159 := ((f101.keep K112 nin0).other W117 (Or.inl n100))
  have f162 := ((f104.keep K112).wr W117)
  have f168 := ((((((f167.other W5 (Or.inl n59)).other W9 (Or.inl n59)).keep K31 nin0).other W44 (Or.inl n59)).keep K112 nin0).other W117 (Or.inl n59))
  have f170 := ((((((f169.other W5 (Or.inl n59)).other W9 (Or.inl n59)).keep K31 nin0).other W44 (Or.inl n59)).keep K112 nin0).other W117 (Or.inl n59))
  have f171 := ((f108.keep K112 nin0).other W117 (Or.inl n59))
  have o173 := Old.keep o111 K112 all0
  have o174 := Old.wr o173 W117 g4
  obtain ⟨_, T175, Lc175, X175, hQ175, st175⟩ := own_cS X119 hx hZ hown e119 (rm33_6 l Z a0 hw [] b31_0 r10 r1 c11 x12 r13 r14 c15 x16 r17 r18 c19 x20 b31_1 k31_0 r7 r8 r9 x21 h117 n0 o174 f120 f121 f122 f123 f124 f125 f126 f127 f128 f129 f130 f131 f133 f135 f89 f136 g137 (Nat.lt_of_lt_of_le l94 zs139) (Ne.symm n140) (Nat.lt_of_lt_of_le f33.lt zs142) (Ne.symm n143) (Nat.lt_of_lt_of_le f37.lt zs142) f144 f145 n146 (Nat.lt_of_lt_of_le l81 zs139) f147 n148 (Nat.lt_of_lt_of_le l87 zs139) n149 (Nat.lt_of_lt_of_le l88 zs139) f151 f153 f154 g155 (Ne.symm n156) (Ne.symm n157) f158 f159 n160 (Nat.lt_of_lt_of_le l102 zs139) n161 f162 n163 (Nat.lt_of_lt_of_le l105 zs139) n164 n165 (Nat.lt_of_lt_of_le l106 zs139) n166 f168 f170 f171 g172 hc109) (w 232 rfl) (w 233 rfl) (w 105 rfl) (w 234 rfl) (by decide) (W := 1) (by decide) (by decide) (by decide) (by decide) (g := (mkF m 38 #[lR r0, lR r1, lI x2, lR r3] [(.ref b31_0), (.ref r0)])) rfl (by rw [hml]; rfl) (argsL := [(.ref b31_0)]) (rest := [(.ref r0)]) (lenOf pd__Ljava_util_List___I rfl) rfl (own_W rfl) (hb hby d16_38)
  obtain ⟨b175_0, rfl, N175q, K175, f176, f177, f178, f179, f180, f181, f182⟩ := hQ175
  have N175 := Fr.app N117 N175q
  have f183 := ((f114.wr W117).keep K175)
  have f185 := (((((((f184.other W5 (Or.inr (slot_ne (Or.inr (w 267 rfl)) (Or.inr (w 111 rfl)) (by decide) (t := (.array .int)) (t' := (.object "java/lang/String")) (by decide) (by decide)))).other W9 (Or.inr (slot_ne (Or.inr (w 267 rfl)) (Or.inr (w 113 rfl)) (by decide) (t := (.array .int)) (t' := .int) (by decide) (by decide)))).keep K31 nin0).other W44 (Or.inr (slot_ne (Or.inr (w 267 rfl)) (Or.inr (w 201 rfl)) (by decide) (t := (.array .int)) (t' := (.object "java/util/List")) (by decide) (by decide)))).keep K112 nin0).other W117 (Or.inr (slot_ne (Or.inr (w 267 rfl)) (Or.inr (w 231 rfl)) (by decide) (t := (.array .int)) (t' := (.array .int)) (by decide) (by decide)))).keep K175 (ninS (Ne.symm n47) (ninS (Ne.symm n53) (ninS (Ne.symm n59) nin0))))
  obtain ⟨T186, h186, X186, e186, W186, st186⟩ := putF X175 hx hZ hown (host := "") (Or.inl (w 266 rfl)) Via.refl rfl f185 f183 (Or.inr ⟨(w 267 rfl), rfl, hnm⟩) (w 104 rfl) (ty := (.array .int)) (by decide) rfl rfl (g := (mkF m 41 #[lR r0, lR r1, lI x2, lR r3] [(.ref b175_0), (.ref r0)])) rfl rfl (hb hby d16_41)
  have Fw186 := f185.same W186
  have N186 := Fr.snoc X186 N175 g4
  have f187 := (((((((Fw5.other W9 (Or.inr (slot_ne (Or.inr (w 111 rfl)) (Or.inr (w 113 rfl)) (by decide) (t := (.object "java/lang/String")) (t' := .int) (by decide) (by decide)))).keep K31 nin0).other W44 (Or.inr (slot_ne (Or.inr (w 111 rfl)) (Or.inr (w 201 rfl)) (by decide) (t := (.object "java/lang/String")) (t' := (.object "java/util/List")) (by decide) (by decide)))).keep K112 nin0).other W117 (Or.inr (slot_ne (Or.inr (w 111 rfl)) (Or.inr (w 231 rfl)) (by decide) (t := (.object "java/lang/String")) (t' := (.array .int)) (by decide) (by decide)))).keep K175 (ninS (Ne.symm n47) (ninS (Ne.symm n53) (ninS (Ne.symm n59) nin0)))).other W186 (Or.inr (slot_ne (Or.inr (w 111 rfl)) (Or.inr (w 267 rfl)) (by decide) (t := (.object "java/lang/String")) (t' := (.array .int)) (by decide) (by decide))))
  have f188 := ((((((Fw9.keep K31 nin0).other W44 (Or.inr (slot_ne (Or.inr (w 113 rfl)) (Or.inr (w 201 rfl)) (by decide) (t := .int) (t' := (.object "java/util/List")) (by decide) (by decide)))).keep K112 nin0).other W117 (Or.inr (slot_ne (Or.inr (w 113 rfl)) (Or.inr (w 231 rfl)) (by decide) (t := .int) (t' := (.array .int)) (by decide) (by decide)))).keep K175 (ninS (Ne.symm n47) (ninS (Ne.symm n53) (ninS (Ne.symm n59) nin0)))).other W186 (Or.inr (slot_ne (Or.inr (w 113 rfl)) (Or.inr (w 267 rfl)) (by decide) (t := .int) (t' := (.array .int)) (by decide) (by decide))))
  have f189 := ((f118.keep K175 (ninS (Ne.symm n47) (ninS (Ne.symm n53) (ninS (Ne.symm n59) nin0)))).other W186 (Or.inr (slot_ne (Or.inr (w 201 rfl)) (Or.inr (w 267 rfl)) (by decide) (t := (.object "java/util/List")) (t' := (.array .int)) (by decide) (by decide))))
  have f190 := ((Fw117.keep K175 (ninS (Ne.symm n47) (ninS (Ne.symm n53) (ninS (Ne.symm n59) nin0)))).other W186 (Or.inr (slot_ne (Or.inr (w 231 rfl)) (Or.inr (w 267 rfl)) (by decide) (t := (.array .int)) (t' := (.array .int)) (by decide) (by decide))))
  have f191 := (f176.other W186 (Or.inl n47))
  have f192 := (f177.other W186 (Or.inl n47))
  have f193 := (f178.other W186 (Or.inl n53))
  have f194 := (f179.other W186 (Or.inl n53))
  have f195 := (f180.other W186 (Or.inl n59))
  have f196 := (f181.other W186 (Or.inl n59))
  have f197 := ((f126.keep K175).wr W186)
  have n198 := Nat.ne_of_lt (Nat.lt_of_lt_of_le (Nat.lt_of_lt_of_le l105 zs67) f32)
  have f199 := ((f127.keep K175 (ninS (Ne.symm n140) (ninS (Ne.symm n156) (ninS (Ne.symm n198) nin0)))).other W186 (Or.inl (Ne.symm n68)))
  have f200 := (((((f35.other W44 (Or.inl (Ne.symm n68))).keep K112 nin0).other W117 (Or.inl (Ne.symm n68))).keep K175 (ninS (Ne.symm n140) (ninS (Ne.symm n156) (ninS (Ne.symm n198) nin0)))).other W186 (Or.inl (Ne.symm n68)))
  have n201 := Nat.ne_of_lt (Nat.lt_of_lt_of_le (Nat.lt_of_lt_of_le l105 zs67) f36)
  have f202 := ((f128.keep K175 (ninS (Ne.symm n143) (ninS (Ne.symm n157) (ninS (Ne.symm n201) nin0)))).other W186 (Ne.symm n70))
  have f203 := (((((f38.wr W44).keep K112).wr W117).keep K175).wr W186)
  have kp204 : Keep h0 h5 [r0, r1, r14, r18] := (Keep.refl h0 [r0, r1, r14, r18]).wr W5 (Or.inl (List.mem_of_getElem? (i := 0) rfl))
  have kp205 : Keep h0 h9 [r0, r1, r14, r18] := kp204.wr W9 (Or.inl (List.mem_of_getElem? (i := 0) rfl))
  have kp206 : Keep h0 T31.heap [r0, r1, r14, r18] := kp205.trans K31 all0
  have kp207 : Keep h0 h44 [r0, r1, r14, r18] := kp206.wr W44 (Or.inl (List.mem_of_getElem? (i := 0) rfl))
  have kp208 : Keep h0 T112.heap [r0, r1, r14, r18] := kp207.trans K112 all0
  have kp209 : Keep h0 h117 [r0, r1, r14, r18] := kp208.wr W117 (Or.inl (List.mem_of_getElem? (i := 0) rfl))
  have kp210 : Keep h0 T175.heap [r0, r1, r14, r18] := kp209.trans K175 (allS (Or.inl (List.mem_of_getElem? (i := 1) rfl)) (allS (Or.inl (List.mem_of_getElem? (i := 2) rfl)) (allS (Or.inl (List.mem_of_getElem? (i := 3) rfl)) all0)))
  have kp211 : Keep h0 h186 [r0, r1, r14, r18] := kp210.wr W186 (Or.inl (List.mem_of_getElem? (i := 0) rfl))
  refine ⟨none, _, _, _, _, (fun _ => rfl), X186, by decide, by decide, ?_, fun fs hr => ?_⟩
  · rw [e186]; exact ⟨b31_0, b112_0, b175_0, b31_1, k31_0, rfl, N186, kp211, f187, f188, f189, f190, Fw186, f191, f192, f193, f194, f195, f196, (Nat.le_trans zs67 f32), f197, f199, f200, trivial, trivial, (Nat.le_trans zs67 f36), f202, f203, f39, f40⟩
  · show SG p e below s₁ (mkF m 0 #[lR r0, lR r1, lI x2, lR r3] []) _
    refine qaN X0 hx hby d16_0 ?_
    refine st1 _ ?_
    refine qaN X1 hx hby d16_4 ?_
    refine qaN X1 hx hby d16_5 ?_
    refine st5 _ ?_
    refine qaN X5 hx hby d16_9 ?_
    refine qiN X5 hx hby d16_10 ?_
    refine st9 _ ?_
    refine qaN X9 hx hby d16_14 ?_
    refine qaN X9 hx hby d16_15 ?_
    show SG p e below T9 (mkF m 16 #[lR r0, lR r1, lI x2, lR r3] [(.ref r3), (.ref r0)]) _
    refine st31 _ ?_
    refine st44 _ ?_
    refine qaN X44 hx hby d16_22 ?_
    refine qaN X44 hx hby d16_23 ?_
    refine st45 _ ?_
    refine st112 _ ?_
    refine st117 _ ?_
    refine qaN X117 hx hby d16_33 ?_
    refine qaN X117 hx hby d16_34 ?_
    refine st119 _ ?_
    show SG p e below T119 (mkF m 38 #[lR r0, lR r1, lI x2, lR r3] [(.ref b31_0), (.ref r0)]) _
    refine st175 _ ?_
    refine st186 _ ?_
    exact X186.returnOut hx hret (hb hby d16_44) hr
def Q40_2 (Z : State) (r4 : Addr) (h0 : Heap) (n0 : Nat) (v : Option Value) (h : Heap) (L : List Loc) : Prop := v = some (.ref r4) ∧ Fr n0 L ∧ h = h0
theorem rm40_2 (l : Launch) (Z : State) (a0 : Array Value) (hw : own_HW a0 Z) (ws : List Jvm.Cond) (r0 r1 r2 : Addr) (c3 : ClassId) (r4 r5 r6 : Addr) (h0 : Heap) (n0 : Nat) (O0 : Old Z n0 h0) (f1 : Fld Z h0 r0 cs11 "elements" "Ljava/util/List;" (.ref r1)) (f3 : Exa Z h0 r1 cs14) (f4 : Fld Z h0 r1 cs14 "elements" "[Ljava/lang/Object;" (.ref r2)) (f5 : Arv Z h0 r2 c3 (.object "java/lang/Object") (3 : Int32) [(.ref r4), (.ref r5), (.ref r6)] .null) (f7 : Exa Z h0 r4 cs0) :
    own_MF l mN42 prog_2_method_5_code 1 (some (.object cs0)) ws rR1_0_0_13 Z h0 #[(.ref r0)] (Q40_2 Z r4 h0 n0) := by
  refine own_open (plainFor_of_name pn_com_example_nearmiss_nearmiss_Document) (L0 := #[lR r0]) (fun _ => by first | (simp [entryFrame, mkF, argsToLocals, Value.category]; done) | rfl) ?_
  intro p e s m below meth c s₁ hx hby hml hret hnn hZ hown X0 e0
  have N0 := Fr.nil n0; have w := @ww Z a0 hw
  obtain ⟨T2, X2, e2, st2⟩ := getF X0 hx hZ hown (host := "") (Or.inl (w 200 rfl)) Via.refl e0 f1 (g := (mkF m 1 #[lR r0] [(.ref r0)])) rfl rfl (hb hby d40_1)
  obtain ⟨_, T6, Lc6, X6, hQ6, st6⟩ := own_cI (xi := mN33) X2 hx hZ hown e2 (rm47_1 l Z a0 hw [] r1 r2 c3 r4 r5 r6 h0 n0 O0 f4 f5) f3 (w 215 rfl) (w 216 rfl) (w 217 rfl) (w 314 rfl) (w 315 rfl) (w 316 rfl) (w 317 rfl) (w 312 rfl) (w 318 rfl) (w 295 rfl) (by decide) (W := 0) (by decide) (by decide) (by decide) (by decide) (g := (mkF m 5 #[lR r0] [vI0, (.ref r1)])) rfl (by rw [hml]; rfl) (argsL := [vI0]) (rest := []) (lenOf pd__I_Ljava_lang_Object_ rfl) rfl (own_W rfl) (hb hby d40_5)
  obtain ⟨rfl, N6q, E6⟩ := hQ6
  have N6 := Fr.app N0 N6q
  obtain ⟨T8, X8, e8, st8⟩ := castY X6 hx hZ hown (w 223 rfl) E6 (Ins.self f7) (g := (mkF m 10 #[lR r0] [(.ref r4)])) rfl rfl (hb hby d40_10)
  refine ⟨some (.ref r4), _, _, _, _, nofun, X8, by decide, by decide, ?_, fun fs hr => ?_⟩
  · rw [e8]; exact ⟨rfl, N6, rfl⟩
  · show SG p e below s₁ (mkF m 0 #[lR r0] []) _
    refine qaN X0 hx hby d40_0 ?_
    refine st2 _ ?_
    refine qc X2 hx hby d40_4 ?_
    refine st6 _ ?_
    refine st8 _ ?_
    exact retOut X8 hx (i := .areturn) hret rfl (Or.inr (Or.inr (Or.inr (Or.inr ⟨rfl, rfl, rfl⟩)))) (hb hby d40_13) hr
def Q0_3 (Z : State)  (h0 : Heap) (n0 : Nat) (v : Option Value) (h : Heap) (L : List Loc) : Prop := v = some vI1 ∧ Fr n0 L
theorem rm0_3 (l : Launch) (Z : State) (a0 : Array Value) (hw : own_HW a0 Z) (ws : List Jvm.Cond) (x0 x1 : Int32) (x2 x3 : Int32) (x4 x5 x6 : Int32) (r7 : Addr) (c8 : ClassId) (r9 : Addr) (h0 : Heap) (n0 : Nat) (O0 : Old Z n0 h0) (hc1 : ((x5 &&& (3 : Int32)) % (3 : Int32)) = (2 : Int32)) (f2 : Sta Z Z.heap "java/lang/String" "COMPACT_STRINGS" "Z" (.int x6)) (hc3 : ¬ (x6 = (0 : Int32))) (hc4 : ¬ ((255 : Int32) < ((x0 &&& (255 : Int32)).toUInt32.toUInt16.toUInt32.toInt32))) (f35 : Sta Z Z.heap "java/util/ArrayList" cs2 "[Ljava/lang/Object;" (.ref r7)) (f42 : Arv Z Z.heap r7 c8 (.object "java/lang/Object") (0 : Int32) [] .null) (hc58 : ¬ ((255 : Int32) < ((x3 &&& (255 : Int32)).toUInt32.toUInt16.toUInt32.toInt32))) (hc105 : ¬ ((255 : Int32) < ((x4 &&& (255 : Int32)).toUInt32.toUInt16.toUInt32.toInt32))) (f170 : own_Mir Z "[Ljava/lang/Object;" r9) :
    MetFree l x (head1 (Jvm.Cond.code x code maxLocals ret :: ws) room_1) (fun a U => a = #[(.int x0), (.int x1), (.int x2), (.int x3), (.int x4), (.int x5)] ∧ Z.Warmed39 U.vm ∧ U.heap = h0) (fun _ _ _ _ _ => True) (fun _ U o U' => ∃ v L, o = .returned v ∧ Q0_3 Z  h0 n0 v U'.heap L ∧ FrameEnd U o U' L room_1.cells room_1.slots) := by
  refine MetFree.of_bodySF (plainFor_of_name pn_com_example_nearmiss_nearmiss_DocumentRootPinLaw) hisR ?_
  intro p e s m args below meth c s₁ Bd hml0 hP hK
  obtain ⟨rfl, hZ, hh⟩ := hP
  have hx := Bd.exec
  have hby := Bd.bytes
  have hml : c.maxLocals = 12 := hml0
  have hown : s.vm.findClass cs13 = some m.cls := findClass_of_methodNamed Bd.named
  have X0 : Stand p l e room_1 s m #[(.int x0), (.int x1), (.int x2), (.int x3), (.int x4), (.int x5)] below meth c s₁ [] 0 0 := Stand.of_body Bd
  have e0 : s₁.heap = h0 := by rw [← hh, Bd.state]; rfl
  have N0 := Fr.nil n0; have w := @ww Z a0 hw
  have pre0 : ∀ t, Steps p.tables e below (s₁.setTop (mkF m 0 #[lI x0, lI x1, lI x2, lI x3, lI x4, lI x5, lU, lU, lU, lU, lU, lU] [])) t → Steps p.tables e below (s₁.setTop (entryFrame m #[(.int x0), (.int x1), (.int x2), (.int x3), (.int x4), (.int x5)] maxLocals)) t := fun t k => castTop (by first | (simp [entryFrame, mkF, argsToLocals, Value.category, maxLocals]; done) | rfl) k
  obtain ⟨_, T5, Lc5, X5, hQ5, st5⟩ := own_cS X0 hx hZ hown e0 (rm1_1 l Z a0 hw [] ((x0 &&& (255 : Int32)).toUInt32.toUInt16.toUInt32.toInt32) x6 h0 n0 O0 f2 hc3 hc4) (w 0 rfl) (w 1 rfl) (w 2 rfl) (w 3 rfl) (by decide) (W := 0) (by decide) (by decide) (by decide) (by decide) (g := (mkF m 16 #[lI x0, lI x1, lI x2, lI x3, lI x4, lI x5, lV vI3, lU, lU, lU, lU, lU] [(.int ((x0 &&& (255 : Int32)).toUInt32.toUInt16.toUInt32.toInt32))])) rfl (by rw [hml]; rfl) (argsL := [(.int ((x0 &&& (255 : Int32)).toUInt32.toUInt16.toUInt32.toInt32))]) (rest := []) (lenOf pd__C_Ljava_lang_String_ rfl) rfl (own_W rfl) (hb hby at_16)
  obtain ⟨b5_0, b5_1, k5_0, rfl, N5q, K5, f6, f7, f8, f9, f10, f11, f12, f13, f14, f15⟩ := hQ5
  have N5 := Fr.app N0 N5q
  obtain ⟨T16, h16, X16, e16, E16, A16, D16, -, st16⟩ := newO X5 hx hZ hown (w 26 rfl) (w 27 rfl) (w 28 rfl) rfl (g := (mkF m 21 #[lI x0, lI x1, lI x2, lI x3, lI x4, lI x5, lV vI3, lR b5_0, lU, lU, lU, lU] [])) rfl (hb hby at_21) (by decide) (by decide)
  obtain ⟨b16, g16⟩ : ∃ z, z = T5.heap.size := ⟨_, rfl⟩
  rw [← g16] at A16 D16 st16
  have f17 : Fld Z h16 b16 cs0 "path" "Ljava/lang/String;" .null := D16 (Or.inr (w 39 rfl)) (ty := (.object "java/lang/String")) (by decide)
  have f18 : Fld Z h16 b16 cs0 "start" "I" vI0 := D16 (Or.inr (w 41 rfl)) (ty := .int) (by decide)
  have f19 : Fld Z h16 b16 cs0 "end" "I" vI0 := D16 (Or.inr (w 43 rfl)) (ty := .int) (by decide)
  have o21 := Old.keep O0 K5 all0
  have zz20 : n0 ≤ T5.heap.size := by rw [← o21.1]; exact o21.2.1
  have g22 := Nat.le_trans zz20 (Nat.le_of_eq g16.symm)
  have o23 := Old.ext o21 E16
  obtain ⟨_, T24, Lc24, X24, hQ24, st24⟩ := own_fin (X16.specialBack hx (y := mN5) rfl hown (mvT hZ (w 29 rfl)) (mvT hZ (w 30 rfl)) (mvT hZ (w 31 rfl)) (by decide) (backOf (W := 1) (rm6_1 l Z a0 hw [] b16 b5_0 x1 x2 h16 n0 o23 A16 f17 g22 f18 f19) hZ (w 31 rfl) (w 28 rfl) (by decide) (by decide)) (g := (mkF m 29 #[lI x0, lI x1, lI x2, lI x3, lI x4, lI x5, lV vI3, lR b5_0, lU, lU, lU, lU] [(.int x2), (.int x1), (.ref b5_0), (.ref b16), (.ref b16)])) rfl (by rw [hml]; rfl) (Steps.refl _) (a := b16) (argsL := [(.ref b5_0), (.int x1), (.int x2)]) (rest := [(.ref b16)]) (lenOf pd__Ljava_lang_String_II_V rfl) rfl (own_W rfl) (hb hby at_29) (fun _ _ => ⟨rfl, e16, (by decide : 3 + 0 ≤ _), (by decide : 8 + 0 ≤ _)⟩))
  obtain ⟨rfl, N24q, K24, f25, f26, f27⟩ := hQ24
  have N24 := Fr.app N5 N24q
  obtain ⟨T28, h28, X28, e28, E28, A28, D28, -, st28⟩ := newO X24 hx hZ hown (w 44 rfl) (w 45 rfl) (w 46 rfl) rfl (g := (mkF m 34 #[lI x0, lI x1, lI x2, lI x3, lI x4, lI x5, lV vI3, lR b5_0, lR b16, lU, lU, lU] [])) rfl (hb hby at_34) (by decide) (by decide)
  obtain ⟨b28, g28⟩ : ∃ z, z = T24.heap.size := ⟨_, rfl⟩
  rw [← g28] at A28 D28 st28
  have f29 : Fld Z h28 b28 "java/util/AbstractList" "modCount" "I" vI0 := D28 (Or.inl (w 64 rfl)) (ty := .int) (by decide)
  have f30 : Fld Z h28 b28 "java/util/ArrayList" "elementData" "[Ljava/lang/Object;" .null := D28 (Or.inl (w 67 rfl)) (ty := (.array (.object "java/lang/Object"))) (by decide)
  have f31 : Fld Z h28 b28 "java/util/ArrayList" "size" "I" vI0 := D28 (Or.inl (w 80 rfl)) (ty := .int) (by decide)
  have o33 := Old.keep o23 K24 (allS g22 all0)
  have zz32 : n0 ≤ T24.heap.size := by rw [← o33.1]; exact o33.2.1
  have g34 := Nat.le_trans zz32 (Nat.le_of_eq g28.symm)
  have o36 := Old.ext o33 E28
  obtain ⟨_, T37, Lc37, X37, hQ37, st37⟩ := own_fin (X28.specialBack hx (y := mN8) rfl hown (mvT hZ (w 47 rfl)) (mvT hZ (w 48 rfl)) (mvT hZ (w 49 rfl)) (by decide) (backOf (W := 1) (rm8_1 l Z a0 hw [] b28 r7 h28 n0 o36 A28 f29 g34 f30 f31 f35) hZ (w 49 rfl) (w 46 rfl) (by decide) (by decide)) (g := (mkF m 38 #[lI x0, lI x1, lI x2, lI x3, lI x4, lI x5, lV vI3, lR b5_0, lR b16, lU, lU, lU] [(.ref b28), (.ref b28)])) rfl (by rw [hml]; rfl) (Steps.refl _) (a := b28) (argsL := []) (rest := [(.ref b28)]) (lenOf pd___V rfl) rfl (own_W rfl) (hb hby at_38) (fun _ _ => ⟨rfl, e28, (by decide : 4 + 0 ≤ _), (by decide : 11 + 0 ≤ _)⟩))
  obtain ⟨rfl, N37q, K37, f38, f39, f40⟩ := hQ37
  have N37 := Fr.app N24 N37q
  have f41 := (A28.keep K37)
  have zs43 := K37.1
  have f44 := (((A16.keep K24).ext E28).keep K37)
  have o45 := Old.keep o36 K37 (allS g34 all0)
  obtain ⟨_, T46, Lc46, X46, hQ46, st46⟩ := own_cI (xi := mN46) X37 hx hZ hown rfl (rm11_1 l Z a0 hw [] b28 b16 r7 c8 T37.heap n0 o45 f38 f41 g34 f39 f40 f42 f35 (Nat.lt_of_lt_of_le A28.lt zs43) f44) f41 (w 68 rfl) (w 69 rfl) (w 70 rfl) (w 71 rfl) (w 72 rfl) (w 73 rfl) (w 74 rfl) (w 75 rfl) (w 76 rfl) (w 46 rfl) (by decide) (W := 0) (by decide) (by decide) (by decide) (by decide) (g := (mkF m 47 #[lI x0, lI x1, lI x2, lI x3, lI x4, lI x5, lV vI3, lR b5_0, lR b16, lR b28, lU, lU] [(.ref b16), (.ref b28)])) rfl (by rw [hml]; rfl) (argsL := [(.ref b16)]) (rest := []) (lenOf pd__Ljava_lang_Object__Z rfl) rfl (own_W rfl) (hb hby at_47)
  obtain ⟨b46_0, k46_0, rfl, N46q, K46, f47, f48, f49, f50, f51, f52, f53⟩ := hQ46
  have N46 := Fr.app N37 N46q
  obtain ⟨T54, h54, X54, e54, E54, A54, D54, -, st54⟩ := newO X46 hx hZ hown (w 26 rfl) (w 27 rfl) (w 28 rfl) rfl (g := (mkF m 61 #[lI x0, lI x1, lI x2, lI x3, lI x4, lI x5, lV vI3, lR b5_0, lR b16, lR b28, lU, lU] [(.ref b28)])) rfl (hb hby at_61) (by decide) (by decide)
  obtain ⟨b54, g54⟩ : ∃ z, z = T46.heap.size := ⟨_, rfl⟩
  rw [← g54] at A54 D54 st54
  have f55 : Fld Z h54 b54 cs0 "path" "Ljava/lang/String;" .null := D54 (Or.inr (w 39 rfl)) (ty := (.object "java/lang/String")) (by decide)
  have f56 : Fld Z h54 b54 cs0 "start" "I" vI0 := D54 (Or.inr (w 41 rfl)) (ty := .int) (by decide)
  have f57 : Fld Z h54 b54 cs0 "end" "I" vI0 := D54 (Or.inr (w 43 rfl)) (ty := .int) (by decide)
  have o59 := Old.keep o45 K46 (allS g34 all0)
  have o60 := Old.ext o59 E54
  obtain ⟨_, T61, Lc61, X61, hQ61, st61⟩ := own_cS X54 hx hZ hown e54 (rm1_1 l Z a0 hw [] ((x3 &&& (255 : Int32)).toUInt32.toUInt16.toUInt32.toInt32) x6 h54 n0 o60 f2 hc3 hc58) (w 0 rfl) (w 1 rfl) (w 2 rfl) (w 3 rfl) (by decide) (W := 3) (by decide) (by decide) (by decide) (by decide) (g := (mkF m 71 #[lI x0, lI x1, lI x2, lI x3, lI x4, lI x5, lV vI3, lR b5_0, lR b16, lR b28, lU, lU] [(.int ((x3 &&& (255 : Int32)).toUInt32.toUInt16.toUInt32.toInt32)), (.ref b54), (.ref b54), (.ref b28)])) rfl (by rw [hml]; rfl) (argsL := [(.int ((x3 &&& (255 : Int32)).toUInt32.toUInt16.toUInt32.toInt32))]) (rest := [(.ref b54), (.ref b54), (.ref b28)]) (lenOf pd__C_Ljava_lang_String_ rfl) rfl (own_W rfl) (hb hby at_71)
  obtain ⟨b61_0, b61_1, k61_0, rfl, N61q, K61, f62, f63, f64, f65, f66, f67, f68, f69, f70, f71⟩ := hQ61
  have N61 := Fr.app N46 N61q
  have f72 := (A54.keep K61)
  have f73 := (f55.keep K61 nin0)
  have zz74 : n0 ≤ T46.heap.size := by rw [← o59.1]; exact o59.2.1
  have g75 := Nat.le_trans zz74 (Nat.le_of_eq g54.symm)
  have f76 := (f56.keep K61 nin0)
  have f77 := (f57.keep K61 nin0)
  have o78 := Old.keep o60 K61 all0
  obtain ⟨_, T79, Lc79, X79, hQ79, st79⟩ := own_fin (X61.specialBack hx (y := mN5) rfl hown (mvT hZ (w 29 rfl)) (mvT hZ (w 30 rfl)) (mvT hZ (w 31 rfl)) (by decide) (backOf (W := 2) (rm6_1 l Z a0 hw [] b54 b61_0 x3 x4 T61.heap n0 o78 f72 f73 g75 f76 f77) hZ (w 31 rfl) (w 28 rfl) (by decide) (by decide)) (g := (mkF m 77 #[lI x0, lI x1, lI x2, lI x3, lI x4, lI x5, lV vI3, lR b5_0, lR b16, lR b28, lU, lU] [(.int x4), (.int x3), (.ref b61_0), (.ref b54), (.ref b54), (.ref b28)])) rfl (by rw [hml]; rfl) (Steps.refl _) (a := b54) (argsL := [(.ref b61_0), (.int x3), (.int x4)]) (rest := [(.ref b54), (.ref b28)]) (lenOf pd__Ljava_lang_String_II_V rfl) rfl (own_W rfl) (hb hby at_77) (fun _ _ => ⟨rfl, rfl, (by decide : 8 + 0 ≤ _), (by decide : 29 + 0 ≤ _)⟩))
  obtain ⟨rfl, N79q, K79, f80, f81, f82⟩ := hQ79
  have N79 := Fr.app N61 N79q
  have zs83 := Nat.le_trans zs43 K46.1
  have n84 := Nat.ne_of_lt (Nat.lt_of_lt_of_le (Nat.lt_of_lt_of_le A28.lt zs83) (Nat.le_of_eq g54.symm))
  have f85 := (((f49.ext E54).keep K61 nin0).keep K79 (ninS n84 nin0))
  have f86 := ((((f41.keep K46).ext E54).keep K61).keep K79)
  have f87 := (((f47.ext E54).keep K61 nin0).keep K79 (ninS n84 nin0))
  have f88 := (((f48.ext E54).keep K61 nin0).keep K79 (ninS n84 nin0))
  have n89 := Nat.ne_of_lt (Nat.lt_of_lt_of_le f51.lt (Nat.le_of_eq g54.symm))
  have f90 := (((f51.ext E54).keep K61 nin0).keep K79 (ninS n89 nin0))
  have n91 := Nat.ne_of_lt (Nat.lt_of_lt_of_le (Nat.lt_of_lt_of_le A28.lt zs43) f50)
  have f92 := (f72.keep K79)
  have zz93 : n0 ≤ T37.heap.size := by rw [← o45.1]; exact o45.2.1
  have g94 := Nat.le_trans zz93 f50
  have o95 := Old.keep o78 K79 (allS g75 all0)
  obtain ⟨_, T96, Lc96, X96, hQ96, st96⟩ := own_cI (xi := mN46) X79 hx hZ hown rfl (rm11_2 l Z a0 hw [] b28 b54 b46_0 k46_0 b16 T79.heap n0 o95 f85 f86 g34 f87 f88 f90 (Ne.symm n91) f53 f92 g94) f86 (w 68 rfl) (w 69 rfl) (w 70 rfl) (w 71 rfl) (w 72 rfl) (w 73 rfl) (w 74 rfl) (w 75 rfl) (w 76 rfl) (w 46 rfl) (by decide) (W := 0) (by decide) (by decide) (by decide) (by decide) (g := (mkF m 80 #[lI x0, lI x1, lI x2, lI x3, lI x4, lI x5, lV vI3, lR b5_0, lR b16, lR b28, lU, lU] [(.ref b54), (.ref b28)])) rfl (by rw [hml]; rfl) (argsL := [(.ref b54)]) (rest := []) (lenOf pd__Ljava_lang_Object__Z rfl) rfl (own_W rfl) (hb hby at_80)
  obtain ⟨rfl, N96q, K96, f97, f98, f99, f100⟩ := hQ96
  have N96 := Fr.app N79 N96q
  obtain ⟨T101, h101, X101, e101, E101, A101, D101, -, st101⟩ := newO X96 hx hZ hown (w 26 rfl) (w 27 rfl) (w 28 rfl) rfl (g := (mkF m 94 #[lI x0, lI x1, lI x2, lI x3, lI x4, lI x5, lV vI3, lR b5_0, lR b16, lR b28, lU, lU] [(.ref b28)])) rfl (hb hby at_94) (by decide) (by decide)
  obtain ⟨b101, g101⟩ : ∃ z, z = T96.heap.size := ⟨_, rfl⟩
  rw [← g101] at A101 D101 st101
  have f102 : Fld Z h101 b101 cs0 "path" "Ljava/lang/String;" .null := D101 (Or.inr (w 39 rfl)) (ty := (.object "java/lang/String")) (by decide)
  have f103 : Fld Z h101 b101 cs0 "start" "I" vI0 := D101 (Or.inr (w 41 rfl)) (ty := .int) (by decide)
  have f104 : Fld Z h101 b101 cs0 "end" "I" vI0 := D101 (Or.inr (w 43 rfl)) (ty := .int) (by decide)
  have o106 := Old.keep o95 K96 (allS g34 (allS g94 all0))
  have o107 := Old.ext o106 E101
  obtain ⟨_, T108, Lc108, X108, hQ108, st108⟩ := own_cS X101 hx hZ hown e101 (rm1_1 l Z a0 hw [] ((x4 &&& (255 : Int32)).toUInt32.toUInt16.toUInt32.toInt32) x6 h101 n0 o107 f2 hc3 hc105) (w 0 rfl) (w 1 rfl) (w 2 rfl) (w 3 rfl) (by decide) (W := 3) (by decide) (by decide) (by decide) (by decide) (g := (mkF m 105 #[lI x0, lI x1, lI x2, lI x3, lI x4, lI x5, lV vI3, lR b5_0, lR b16, lR b28, lU, lU] [(.int ((x4 &&& (255 : Int32)).toUInt32.toUInt16.toUInt32.toInt32)), (.ref b101), (.ref b101), (.ref b28)])) rfl (by rw [hml]; rfl) (argsL := [(.int ((x4 &&& (255 : Int32)).toUInt32.toUInt16.toUInt32.toInt32))]) (rest := [(.ref b101), (.ref b101), (.ref b28)]) (lenOf pd__C_Ljava_lang_String_ rfl) rfl (own_W rfl) (hb hby at_105)
  obtain ⟨b108_0, b108_1, k108_0, rfl, N108q, K108, f109, f110, f111, f112, f113, f114, f115, f116, f117, f118⟩ := hQ108
  have N108 := Fr.app N96 N108q
  have f119 := (A101.keep K108)
  have f120 := (f102.keep K108 nin0)
  have zz121 : n0 ≤ T96.heap.size := by rw [← o106.1]; exact o106.2.1
  have g122 := Nat.le_trans zz121 (Nat.le_of_eq g101.symm)
  have f123 := (f103.keep K108 nin0)
  have f124 := (f104.keep K108 nin0)
  have o125 := Old.keep o107 K108 all0
  obtain ⟨_, T126, Lc126, X126, hQ126, st126⟩ := own_fin (X108.specialBack hx (y := mN5) rfl hown (mvT hZ (w 29 rfl)) (mvT hZ (w 30 rfl)) (mvT hZ (w 31 rfl)) (by decide) (backOf (W := 2) (rm6_1 l Z a0 hw [] b101 b108_0 x4 x3 T108.heap n0 o125 f119 f120 g122 f123 f124) hZ (w 31 rfl) (w 28 rfl) (by decide) (by decide)) (g := (mkF m 111 #[lI x0, lI x1, lI x2, lI x3, lI x4, lI x5, lV vI3, lR b5_0, lR b16, lR b28, lU, lU] [(.int x3), (.int x4), (.ref b108_0), (.ref b101), (.ref b101), (.ref b28)])) rfl (by rw [hml]; rfl) (Steps.refl _) (a := b101) (argsL := [(.ref b108_0), (.int x4), (.int x3)]) (rest := [(.ref b101), (.ref b28)]) (lenOf pd__Ljava_lang_String_II_V rfl) rfl (own_W rfl) (hb hby at_111) (fun _ _ => ⟨rfl, rfl, (by decide : 11 + 0 ≤ _), (by decide : 37 + 0 ≤ _)⟩))
  obtain ⟨rfl, N126q, K126, f127, f128, f129⟩ := hQ126
  have N126 := Fr.app N108 N126q
  have zs130 := Nat.le_trans zs83 E54.1
  have zs131 := Nat.le_trans zs130 K61.1
  have zs132 := Nat.le_trans zs131 K79.1
  have zs133 := Nat.le_trans zs132 K96.1
  have n134 := Nat.ne_of_lt (Nat.lt_of_lt_of_le (Nat.lt_of_lt_of_le A28.lt zs133) (Nat.le_of_eq g101.symm))
  have f135 := (((f98.ext E101).keep K108 nin0).keep K126 (ninS n134 nin0))
  have f136 := ((((f86.keep K96).ext E101).keep K108).keep K126)
  have f137 := (((f99.ext E101).keep K108 nin0).keep K126 (ninS n134 nin0))
  have f138 := (((f97.ext E101).keep K108 nin0).keep K126 (ninS n134 nin0))
  have zs139 := E54.1
  have zs140 := Nat.le_trans zs139 K61.1
  have zs141 := Nat.le_trans zs140 K79.1
  have zs142 := Nat.le_trans zs141 K96.1
  have n143 := Nat.ne_of_lt (Nat.lt_of_lt_of_le (Nat.lt_of_lt_of_le f51.lt zs142) (Nat.le_of_eq g101.symm))
  have f144 := (((f100.ext E101).keep K108 nin0).keep K126 (ninS n143 nin0))
  have f145 := (f119.keep K126)
  have o146 := Old.keep o125 K126 (allS g122 all0)
  obtain ⟨_, T147, Lc147, X147, hQ147, st147⟩ := own_cI (xi := mN46) X126 hx hZ hown rfl (rm11_3 l Z a0 hw [] b28 b101 b46_0 k46_0 b16 b54 T126.heap n0 o146 f135 f136 g34 f137 f138 f144 (Ne.symm n91) f53 f145 g94) f136 (w 68 rfl) (w 69 rfl) (w 70 rfl) (w 71 rfl) (w 72 rfl) (w 73 rfl) (w 74 rfl) (w 75 rfl) (w 76 rfl) (w 46 rfl) (by decide) (W := 0) (by decide) (by decide) (by decide) (by decide) (g := (mkF m 114 #[lI x0, lI x1, lI x2, lI x3, lI x4, lI x5, lV vI3, lR b5_0, lR b16, lR b28, lU, lU] [(.ref b101), (.ref b28)])) rfl (by rw [hml]; rfl) (argsL := [(.ref b101)]) (rest := []) (lenOf pd__Ljava_lang_Object__Z rfl) rfl (own_W rfl) (hb hby at_114)
  obtain ⟨rfl, N147q, K147, f148, f149, f150, f151⟩ := hQ147
  have N147 := Fr.app N126 N147q
  obtain ⟨T152, h152, X152, e152, E152, A152, D152, -, st152⟩ := newO X147 hx hZ hown (w 103 rfl) (w 104 rfl) (w 105 rfl) rfl (g := (mkF m 120 #[lI x0, lI x1, lI x2, lI x3, lI x4, lI x5, lV vI3, lR b5_0, lR b16, lR b28, lU, lU] [])) rfl (hb hby at_120) (by decide) (by decide)
  obtain ⟨b152, g152⟩ : ∃ z, z = T147.heap.size := ⟨_, rfl⟩
  rw [← g152] at A152 D152 st152
  have f153 : Fld Z h152 b152 cs11 "id" "Ljava/lang/String;" .null := D152 (Or.inr (w 111 rfl)) (ty := (.object "java/lang/String")) (by decide)
  have f154 : Fld Z h152 b152 cs11 "length" "I" vI0 := D152 (Or.inr (w 113 rfl)) (ty := .int) (by decide)
  have f155 : Fld Z h152 b152 cs11 "elements" "Ljava/util/List;" .null := D152 (Or.inr (w 201 rfl)) (ty := (.object "java/util/List")) (by decide)
  have f156 : Fld Z h152 b152 cs11 "subtreeEnds" "[I" .null := D152 (Or.inr (w 231 rfl)) (ty := (.array .int)) (by decide)
  have f157 : Fld Z h152 b152 cs11 "placesByPath" "[I" .null := D152 (Or.inr (w 267 rfl)) (ty := (.array .int)) (by decide)
  have o159 := Old.keep o146 K147 (allS g34 (allS g94 all0))
  have zz158 : n0 ≤ T147.heap.size := by rw [← o159.1]; exact o159.2.1
  have g160 := Nat.le_trans zz158 (Nat.le_of_eq g152.symm)
  have f161 := ((f136.keep K147).ext E152)
  have f162 := (f148.ext E152)
  have zs163 := Nat.le_trans zs133 E101.1
  have zs164 := Nat.le_trans zs163 K108.1
  have zs165 := Nat.le_trans zs164 K126.1
  have zs166 := Nat.le_trans zs165 K147.1
  have n167 := Nat.ne_of_lt (Nat.lt_of_lt_of_le (Nat.lt_of_lt_of_le A28.lt zs166) (Nat.le_of_eq g152.symm))
  have f168 := (f150.ext E152)
  have f169 := (((((((((f52.ext E54).keep K61).keep K79).keep K96).ext E101).keep K108).keep K126).keep K147).ext E152)
  have f171 := (f151.ext E152)
  have zs172 := Nat.le_trans zs142 E101.1
  have zs173 := Nat.le_trans zs172 K108.1
  have zs174 := Nat.le_trans zs173 K126.1
  have zs175 := Nat.le_trans zs174 K147.1
  have n176 := Nat.ne_of_lt (Nat.lt_of_lt_of_le (Nat.lt_of_lt_of_le f51.lt zs175) (Nat.le_of_eq g152.symm))
  have f177 := ((f145.keep K147).ext E152)
  have f178 := ((((((f92.keep K96).ext E101).keep K108).keep K126).keep K147).ext E152)
  have f179 := ((((((((((f44.keep K46).ext E54).keep K61).keep K79).keep K96).ext E101).keep K108).keep K126).keep K147).ext E152)
  have n180 := Nat.ne_of_lt (Nat.lt_of_lt_of_le f7.lt (Nat.le_of_eq g16.symm))
  have zs181 := E16.1
  have zs182 := Nat.le_trans zs181 K24.1
  have n183 := Nat.ne_of_lt (Nat.lt_of_lt_of_le (Nat.lt_of_lt_of_le f7.lt zs182) (Nat.le_of_eq g28.symm))
  have zs184 := Nat.le_trans zs182 E28.1
  have zs185 := Nat.le_trans zs184 K37.1
  have zs186 := Nat.le_trans zs185 K46.1
  have n187 := Nat.ne_of_lt (Nat.lt_of_lt_of_le (Nat.lt_of_lt_of_le f7.lt zs186) (Nat.le_of_eq g54.symm))
  have n188 := Nat.ne_of_lt (Nat.lt_of_lt_of_le (Nat.lt_of_lt_of_le f7.lt zs185) f50)
  have zs189 := Nat.le_trans zs186 E54.1
  have zs190 := Nat.le_trans zs189 K61.1
  have zs191 := Nat.le_trans zs190 K79.1
  have zs192 := Nat.le_trans zs191 K96.1
  have n193 := Nat.ne_of_lt (Nat.lt_of_lt_of_le (Nat.lt_of_lt_of_le f7.lt zs192) (Nat.le_of_eq g101.symm))
  have f194 := ((((((((((((((f8.ext E16).keep K24 (ninS n180 nin0)).ext E28).keep K37 (ninS n183 nin0)).keep K46 (ninS n183 nin0)).ext E54).keep K61 nin0).keep K79 (ninS n187 nin0)).keep K96 (ninS n183 (ninS n188 nin0))).ext E101).keep K108 nin0).keep K126 (ninS n193 nin0)).keep K147 (ninS n183 (ninS n188 nin0))).ext E152)
  have zs195 := Nat.le_trans zs192 E101.1
  have zs196 := Nat.le_trans zs195 K108.1
  have zs197 := Nat.le_trans zs196 K126.1
  have zs198 := Nat.le_trans zs197 K147.1
  have n199 := Nat.ne_of_lt (Nat.lt_of_lt_of_le (Nat.lt_of_lt_of_le f7.lt zs198) (Nat.le_of_eq g152.symm))
  have n200 := Nat.ne_of_lt (Nat.lt_of_lt_of_le f13.lt (Nat.le_of_eq g16.symm))
  have n201 := Nat.ne_of_lt (Nat.lt_of_lt_of_le (Nat.lt_of_lt_of_le f13.lt zs182) (Nat.le_of_eq g28.symm))
  have n202 := Nat.ne_of_lt (Nat.lt_of_lt_of_le (Nat.lt_of_lt_of_le f13.lt zs186) (Nat.le_of_eq g54.symm))
  have n203 := Nat.ne_of_lt (Nat.lt_of_lt_of_le (Nat.lt_of_lt_of_le f13.lt zs185) f50)
  have n204 := Nat.ne_of_lt (Nat.lt_of_lt_of_le (Nat.lt_of_lt_of_le f13.lt zs192) (Nat.le_of_eq g101.symm))
  have f205 := ((((((((((((((f13.ext E16).keep K24 (ninS n200 nin0)).ext E28).keep K37 (ninS n201 nin0)).keep K46 (ninS n201 nin0)).ext E54).keep K61 nin0).keep K79 (ninS n202 nin0)).keep K96 (ninS n201 (ninS n203 nin0))).ext E101).keep K108 nin0).keep K126 (ninS n204 nin0)).keep K147 (ninS n201 (ninS n203 nin0))).ext E152)
  have n206 := Nat.ne_of_lt (Nat.lt_of_lt_of_le (Nat.lt_of_lt_of_le f13.lt zs198) (Nat.le_of_eq g152.symm))
  have n207 := Nat.ne_of_lt (Nat.lt_of_lt_of_le A54.lt f62)
  have n208 := Nat.ne_of_lt (Nat.lt_of_lt_of_le (Nat.lt_of_lt_of_le f51.lt zs139) f62)
  have n209 := Nat.ne_of_lt (Nat.lt_of_lt_of_le (Nat.lt_of_lt_of_le A28.lt zs130) f62)
  have zs210 := K79.1
  have zs211 := Nat.le_trans zs210 K96.1
  have n212 := Nat.ne_of_lt (Nat.lt_of_lt_of_le (Nat.lt_of_lt_of_le f63.lt zs211) (Nat.le_of_eq g101.symm))
  have f213 := (((((((f64.keep K79 (ninS (Ne.symm n207) nin0)).keep K96 (ninS (Ne.symm n209) (ninS (Ne.symm n208) nin0))).ext E101).keep K108 nin0).keep K126 (ninS n212 nin0)).keep K147 (ninS (Ne.symm n209) (ninS (Ne.symm n208) nin0))).ext E152)
  have zs214 := Nat.le_trans zs211 E101.1
  have zs215 := Nat.le_trans zs214 K108.1
  have zs216 := Nat.le_trans zs215 K126.1
  have zs217 := Nat.le_trans zs216 K147.1
  have n218 := Nat.ne_of_lt (Nat.lt_of_lt_of_le (Nat.lt_of_lt_of_le f63.lt zs217) (Nat.le_of_eq g152.symm))
  have n219 := Nat.ne_of_lt (Nat.lt_of_lt_of_le A54.lt f68)
  have n220 := Nat.ne_of_lt (Nat.lt_of_lt_of_le (Nat.lt_of_lt_of_le f51.lt zs139) f68)
  have n221 := Nat.ne_of_lt (Nat.lt_of_lt_of_le (Nat.lt_of_lt_of_le A28.lt zs130) f68)
  have n222 := Nat.ne_of_lt (Nat.lt_of_lt_of_le (Nat.lt_of_lt_of_le f69.lt zs211) (Nat.le_of_eq g101.symm))
  have f223 := (((((((f69.keep K79 (ninS (Ne.symm n219) nin0)).keep K96 (ninS (Ne.symm n221) (ninS (Ne.symm n220) nin0))).ext E101).keep K108 nin0).keep K126 (ninS n222 nin0)).keep K147 (ninS (Ne.symm n221) (ninS (Ne.symm n220) nin0))).ext E152)
  have n224 := Nat.ne_of_lt (Nat.lt_of_lt_of_le (Nat.lt_of_lt_of_le f69.lt zs217) (Nat.le_of_eq g152.symm))
  have n225 := Nat.ne_of_lt (Nat.lt_of_lt_of_le A101.lt f109)
  have n226 := Nat.ne_of_lt (Nat.lt_of_lt_of_le (Nat.lt_of_lt_of_le f51.lt zs172) f109)
  have n227 := Nat.ne_of_lt (Nat.lt_of_lt_of_le (Nat.lt_of_lt_of_le A28.lt zs163) f109)
  have f228 := (((f111.keep K126 (ninS (Ne.symm n225) nin0)).keep K147 (ninS (Ne.symm n227) (ninS (Ne.symm n226) nin0))).ext E152)
  have zs229 := K126.1
  have zs230 := Nat.le_trans zs229 K147.1
  have n231 := Nat.ne_of_lt (Nat.lt_of_lt_of_le (Nat.lt_of_lt_of_le f110.lt zs230) (Nat.le_of_eq g152.symm))
  have n232 := Nat.ne_of_lt (Nat.lt_of_lt_of_le A101.lt f115)
  have n233 := Nat.ne_of_lt (Nat.lt_of_lt_of_le (Nat.lt_of_lt_of_le f51.lt zs172) f115)
  have n234 := Nat.ne_of_lt (Nat.lt_of_lt_of_le (Nat.lt_of_lt_of_le A28.lt zs163) f115)
  have f235 := (((f116.keep K126 (ninS (Ne.symm n232) nin0)).keep K147 (ninS (Ne.symm n234) (ninS (Ne.symm n233) nin0))).ext E152)
  have n236 := Nat.ne_of_lt (Nat.lt_of_lt_of_le (Nat.lt_of_lt_of_le f116.lt zs230) (Nat.le_of_eq g152.symm))
  have zs237 := K24.1
  have n238 := Nat.ne_of_lt (Nat.lt_of_lt_of_le (Nat.lt_of_lt_of_le A16.lt zs237) (Nat.le_of_eq g28.symm))
  have zs239 := Nat.le_trans zs237 E28.1
  have zs240 := Nat.le_trans zs239 K37.1
  have zs241 := Nat.le_trans zs240 K46.1
  have n242 := Nat.ne_of_lt (Nat.lt_of_lt_of_le (Nat.lt_of_lt_of_le A16.lt zs241) (Nat.le_of_eq g54.symm))
  have n243 := Nat.ne_of_lt (Nat.lt_of_lt_of_le (Nat.lt_of_lt_of_le A16.lt zs240) f50)
  have zs244 := Nat.le_trans zs241 E54.1
  have zs245 := Nat.le_trans zs244 K61.1
  have zs246 := Nat.le_trans zs245 K79.1
  have zs247 := Nat.le_trans zs246 K96.1
  have n248 := Nat.ne_of_lt (Nat.lt_of_lt_of_le (Nat.lt_of_lt_of_le A16.lt zs247) (Nat.le_of_eq g101.symm))
  have f249 := ((((((((((((f25.ext E28).keep K37 (ninS n238 nin0)).keep K46 (ninS n238 nin0)).ext E54).keep K61 nin0).keep K79 (ninS n242 nin0)).keep K96 (ninS n238 (ninS n243 nin0))).ext E101).keep K108 nin0).keep K126 (ninS n248 nin0)).keep K147 (ninS n238 (ninS n243 nin0))).ext E152)
  have zs250 := Nat.le_trans zs247 E101.1
  have zs251 := Nat.le_trans zs250 K108.1
  have zs252 := Nat.le_trans zs251 K126.1
  have zs253 := Nat.le_trans zs252 K147.1
  have n254 := Nat.ne_of_lt (Nat.lt_of_lt_of_le (Nat.lt_of_lt_of_le A16.lt zs253) (Nat.le_of_eq g152.symm))
  have zs255 := K61.1
  have zs256 := Nat.le_trans zs255 K79.1
  have zs257 := Nat.le_trans zs256 K96.1
  have n258 := Nat.ne_of_lt (Nat.lt_of_lt_of_le (Nat.lt_of_lt_of_le A54.lt zs257) (Nat.le_of_eq g101.symm))
  have f259 := ((((((f80.keep K96 (ninS (Ne.symm n84) (ninS (Ne.symm n89) nin0))).ext E101).keep K108 nin0).keep K126 (ninS n258 nin0)).keep K147 (ninS (Ne.symm n84) (ninS (Ne.symm n89) nin0))).ext E152)
  have zs260 := Nat.le_trans zs257 E101.1
  have zs261 := Nat.le_trans zs260 K108.1
  have zs262 := Nat.le_trans zs261 K126.1
  have zs263 := Nat.le_trans zs262 K147.1
  have n264 := Nat.ne_of_lt (Nat.lt_of_lt_of_le (Nat.lt_of_lt_of_le A54.lt zs263) (Nat.le_of_eq g152.symm))
  have zs265 := Nat.le_trans zs263 E152.1
  have zs266 := Nat.le_trans zs253 E152.1
  have f267 := (((((((f63.keep K79).keep K96).ext E101).keep K108).keep K126).keep K147).ext E152)
  have zs268 := Nat.le_trans zs217 E152.1
  have f269 := (((((((f65.keep K79 (ninS (Ne.symm n207) nin0)).keep K96 (ninS (Ne.symm n209) (ninS (Ne.symm n208) nin0))).ext E101).keep K108 nin0).keep K126 (ninS n212 nin0)).keep K147 (ninS (Ne.symm n209) (ninS (Ne.symm n208) nin0))).ext E152)
  have f270 := ((((((((((((((f7.ext E16).keep K24).ext E28).keep K37).keep K46).ext E54).keep K61).keep K79).keep K96).ext E101).keep K108).keep K126).keep K147).ext E152)
  have zs271 := Nat.le_trans zs198 E152.1
  have f272 := ((((((((((((((f9.ext E16).keep K24 (ninS n180 nin0)).ext E28).keep K37 (ninS n183 nin0)).keep K46 (ninS n183 nin0)).ext E54).keep K61 nin0).keep K79 (ninS n187 nin0)).keep K96 (ninS n183 (ninS n188 nin0))).ext E101).keep K108 nin0).keep K126 (ninS n193 nin0)).keep K147 (ninS n183 (ninS n188 nin0))).ext E152)
  have f273 := ((f127.keep K147 (ninS (Ne.symm n134) (ninS (Ne.symm n143) nin0))).ext E152)
  have zs274 := K108.1
  have zs275 := Nat.le_trans zs274 K126.1
  have zs276 := Nat.le_trans zs275 K147.1
  have n277 := Nat.ne_of_lt (Nat.lt_of_lt_of_le (Nat.lt_of_lt_of_le A101.lt zs276) (Nat.le_of_eq g152.symm))
  have zs278 := Nat.le_trans zs276 E152.1
  have f279 := (((f110.keep K126).keep K147).ext E152)
  have zs280 := Nat.le_trans zs230 E152.1
  have f281 := (((f112.keep K126 (ninS (Ne.symm n225) nin0)).keep K147 (ninS (Ne.symm n227) (ninS (Ne.symm n226) nin0))).ext E152)
  have f282 := ((((((((((((((f10.ext E16).keep K24 (ninS n180 nin0)).ext E28).keep K37 (ninS n183 nin0)).keep K46 (ninS n183 nin0)).ext E54).keep K61 nin0).keep K79 (ninS n187 nin0)).keep K96 (ninS n183 (ninS n188 nin0))).ext E101).keep K108 nin0).keep K126 (ninS n193 nin0)).keep K147 (ninS n183 (ninS n188 nin0))).ext E152)
  have f283 := ((((((((((((((f11.ext E16).keep K24 (ninS n180 nin0)).ext E28).keep K37 (ninS n183 nin0)).keep K46 (ninS n183 nin0)).ext E54).keep K61 nin0).keep K79 (ninS n187 nin0)).keep K96 (ninS n183 (ninS n188 nin0))).ext E101).keep K108 nin0).keep K126 (ninS n193 nin0)).keep K147 (ninS n183 (ninS n188 nin0))).ext E152)
  have zz284 : n0 ≤ h0.size := by rw [← O0.1]; exact O0.2.1
  have g285 := Nat.le_trans zz284 f6
  have n286 := Nat.ne_of_lt (Nat.lt_of_lt_of_le (Nat.lt_of_lt_of_le f7.lt zs189) f62)
  have n287 := Nat.ne_of_lt (Nat.lt_of_lt_of_le (Nat.lt_of_lt_of_le f7.lt zs189) f68)
  have f288 := (((((((f66.keep K79 (ninS (Ne.symm n207) nin0)).keep K96 (ninS (Ne.symm n209) (ninS (Ne.symm n208) nin0))).ext E101).keep K108 nin0).keep K126 (ninS n212 nin0)).keep K147 (ninS (Ne.symm n209) (ninS (Ne.symm n208) nin0))).ext E152)
  have f289 := (((((((f67.keep K79 (ninS (Ne.symm n207) nin0)).keep K96 (ninS (Ne.symm n209) (ninS (Ne.symm n208) nin0))).ext E101).keep K108 nin0).keep K126 (ninS n212 nin0)).keep K147 (ninS (Ne.symm n209) (ninS (Ne.symm n208) nin0))).ext E152)
  have zz290 : n0 ≤ h54.size := by rw [← o60.1]; exact o60.2.1
  have g291 := Nat.le_trans zz290 f62
  have n292 := Nat.ne_of_lt (Nat.lt_of_lt_of_le (Nat.lt_of_lt_of_le f7.lt zs195) f109)
  have n293 := Nat.ne_of_lt (Nat.lt_of_lt_of_le (Nat.lt_of_lt_of_le f63.lt zs214) f109)
  have n294 := Nat.ne_of_lt (Nat.lt_of_lt_of_le (Nat.lt_of_lt_of_le f7.lt zs195) f115)
  have n295 := Nat.ne_of_lt (Nat.lt_of_lt_of_le (Nat.lt_of_lt_of_le f63.lt zs214) f115)
  have f296 := (((f113.keep K126 (ninS (Ne.symm n225) nin0)).keep K147 (ninS (Ne.symm n227) (ninS (Ne.symm n226) nin0))).ext E152)
  have f297 := (((f114.keep K126 (ninS (Ne.symm n225) nin0)).keep K147 (ninS (Ne.symm n227) (ninS (Ne.symm n226) nin0))).ext E152)
  have zz298 : n0 ≤ h101.size := by rw [← o107.1]; exact o107.2.1
  have g299 := Nat.le_trans zz298 f109
  have o300 := Old.ext o159 E152
  obtain ⟨_, T301, Lc301, X301, hQ301, st301⟩ := own_fin (X152.specialBack hx (y := mN41) rfl hown (mvT hZ (w 106 rfl)) (mvT hZ (w 107 rfl)) (mvT hZ (w 108 rfl)) (by decide) (backOf (W := 1) (rm16_3 l Z a0 hw [] b152 b5_0 x2 b28 b46_0 r9 k46_0 b16 b54 b101 b5_1 k5_0 ((((x0 &&& (255 : Int32)).toUInt32.toUInt16.toUInt32.toInt32).toInt8.toInt32).toInt8.toInt32) b61_1 b61_0 k61_0 ((((x3 &&& (255 : Int32)).toUInt32.toUInt16.toUInt32.toInt32).toInt8.toInt32).toInt8.toInt32) b108_1 b108_0 k108_0 ((((x4 &&& (255 : Int32)).toUInt32.toUInt16.toUInt32.toInt32).toInt8.toInt32).toInt8.toInt32) x6 h152 n0 o300 A152 f153 g160 f154 f161 f162 n167 f168 f169 f170 f171 n176 f177 f178 f179 f155 f194 n199 f205 n206 f213 n218 f223 n224 f228 n231 f235 n236 A152.lt f249 n254 f259 n264 (Nat.lt_of_lt_of_le A54.lt zs265) (Nat.lt_of_lt_of_le A16.lt zs266) f267 (Nat.lt_of_lt_of_le f63.lt zs268) (Nat.lt_of_lt_of_le f69.lt zs268) f2 f269 f270 (Nat.lt_of_lt_of_le f7.lt zs271) (Nat.lt_of_lt_of_le f13.lt zs271) f272 f273 n277 (Nat.lt_of_lt_of_le A101.lt zs278) f279 (Nat.lt_of_lt_of_le f110.lt zs280) (Nat.lt_of_lt_of_le f116.lt zs280) f281 hc3 f156 f282 f283 g285 (Ne.symm n187) (Ne.symm n286) (Ne.symm n287) f288 f289 g291 (Ne.symm n193) (Ne.symm n212) (Ne.symm n292) (Ne.symm n293) (Ne.symm n294) (Ne.symm n295) f296 f297 g299 f157) hZ (w 108 rfl) (w 105 rfl) (by decide) (by decide)) (g := (mkF m 129 #[lI x0, lI x1, lI x2, lI x3, lI x4, lI x5, lV vI3, lR b5_0, lR b16, lR b28, lU, lU] [(.ref b28), (.int x2), (.ref b5_0), (.ref b152), (.ref b152)])) rfl (by rw [hml]; rfl) (Steps.refl _) (a := b152) (argsL := [(.ref b5_0), (.int x2), (.ref b28)]) (rest := [(.ref b152)]) (lenOf pd__Ljava_lang_String_ILjava_util_List__V rfl) rfl (own_W rfl) (hb hby at_129) (fun _ _ => ⟨rfl, e152, (by decide : 12 + 6 ≤ _), (by decide : 42 + 22 ≤ _)⟩))
  obtain ⟨b301_0, b301_1, b301_2, b301_3, k301_0, rfl, N301q, K301, f302, f303, f304, f305, f306, f307, f308, f309, f310, f311, f312, f313, f314, f315, f316, f317, f318, f319, f320, f321, f322, f323⟩ := hQ301
  have N301 := Fr.app N147 N301q
  have f324 := (f179.keep K301)
  have o325 := Old.keep o300 K301 (allS g160 (allS g285 (allS g291 (allS g299 all0))))
  have f327 := (A152.keep K301)
  obtain ⟨_, T326, Lc326, X326, hQ326, st326⟩ := own_cV X301 hx hZ hown rfl (rm40_2 l Z a0 hw [] b152 b301_0 b301_3 k301_0 b16 b54 b101 T301.heap n0 o325 f304 f314 f315 f320 f324) f327 (w 268 rfl) (w 269 rfl) (w 271 rfl) (w 270 rfl) (w 272 rfl) (w 105 rfl) (by decide) (W := 0) (by decide) (by decide) (by decide) (by decide) (g := (mkF m 136 #[lI x0, lI x1, lI x2, lI x3, lI x4, lI x5, lV vI3, lR b5_0, lR b16, lR b28, lR b152, lU] [(.ref b152)])) rfl (by rw [hml]; rfl) (argsL := []) (rest := []) (lenOf pd___Lcom_example_nearmiss_nearmiss_Element_ rfl) rfl (own_W rfl) (hb hby at_136)
  obtain ⟨rfl, N326q, E326⟩ := hQ326
  have N326 := Fr.app N301 N326q
  have n328 := Nat.ne_of_lt (Nat.lt_of_lt_of_le (Nat.lt_of_lt_of_le A16.lt zs250) f109)
  have n329 := Nat.ne_of_lt (Nat.lt_of_lt_of_le (Nat.lt_of_lt_of_le A16.lt zs244) f62)
  have f330 := (f249.keep K301 (ninS n254 (ninS (Ne.symm n180) (ninS n329 (ninS n328 nin0)))))
  obtain ⟨_, T331, Lc331, X331, hQ331, st331⟩ := own_cV X326 hx hZ hown E326 (rm32_1 l Z a0 hw [] b16 b5_0 T301.heap n0 o325 f330) f324 (w 273 rfl) (w 226 rfl) (w 228 rfl) (w 227 rfl) (w 229 rfl) (w 28 rfl) (by decide) (W := 0) (by decide) (by decide) (by decide) (by decide) (g := (mkF m 143 #[lI x0, lI x1, lI x2, lI x3, lI x4, lI x5, lV vI3, lR b5_0, lR b16, lR b28, lR b152, lR b16] [(.ref b16)])) rfl (by rw [hml]; rfl) (argsL := []) (rest := []) (lenOf pd___Ljava_lang_String_ rfl) rfl (own_W rfl) (hb hby at_143)
  obtain ⟨rfl, N331q, E331⟩ := hQ331
  have N331 := Fr.app N326 N331q
  have f333 := (f270.keep K301)
  obtain ⟨_, T332, Lc332, X332, hQ332, st332⟩ := own_cV X331 hx hZ hown E331 (rm41_1 l Z a0 hw [] b5_0 T301.heap n0 o325) f333 (w 274 rfl) (w 275 rfl) (w 277 rfl) (w 276 rfl) (w 278 rfl) (w 2 rfl) (by decide) (W := 0) (by decide) (by decide) (by decide) (by decide) (g := (mkF m 148 #[lI x0, lI x1, lI x2, lI x3, lI x4, lI x5, lV vI3, lR b5_0, lR b16, lR b28, lR b152, lR b16] [(.ref b5_0), (.ref b5_0)])) rfl (by rw [hml]; rfl) (argsL := [(.ref b5_0)]) (rest := []) (lenOf pd__Ljava_lang_Object__Z rfl) rfl (own_W rfl) (hb hby at_148)
  obtain ⟨rfl, N332q, E332⟩ := hQ332
  have N332 := Fr.app N331 N332q
  have f334 := (((((((((((((f26.ext E28).keep K37 (ninS n238 nin0)).keep K46 (ninS n238 nin0)).ext E54).keep K61 nin0).keep K79 (ninS n242 nin0)).keep K96 (ninS n238 (ninS n243 nin0))).ext E101).keep K108 nin0).keep K126 (ninS n248 nin0)).keep K147 (ninS n238 (ninS n243 nin0))).ext E152).keep K301 (ninS n254 (ninS (Ne.symm n180) (ninS n329 (ninS n328 nin0)))))
  obtain ⟨_, T335, Lc335, X335, hQ335, st335⟩ := own_cV X332 hx hZ hown E332 (rm42_1 l Z a0 hw [] b16 x1 T301.heap n0 o325 f334) f324 (w 279 rfl) (w 280 rfl) (w 282 rfl) (w 281 rfl) (w 283 rfl) (w 28 rfl) (by decide) (W := 0) (by decide) (by decide) (by decide) (by decide) (g := (mkF m 156 #[lI x0, lI x1, lI x2, lI x3, lI x4, lI x5, lV vI3, lR b5_0, lR b16, lR b28, lR b152, lR b16] [(.ref b16)])) rfl (by rw [hml]; rfl) (argsL := []) (rest := []) (lenOf pd___I rfl) rfl (own_W rfl) (hb hby at_156)
  obtain ⟨rfl, N335q, E335⟩ := hQ335
  have N335 := Fr.app N332 N335q
  have f336 := (((((((((((((f27.ext E28).keep K37 (ninS n238 nin0)).keep K46 (ninS n238 nin0)).ext E54).keep K61 nin0).keep K79 (ninS n242 nin0)).keep K96 (ninS n238 (ninS n243 nin0))).ext E101).keep K108 nin0).keep K126 (ninS n248 nin0)).keep K147 (ninS n238 (ninS n243 nin0))).ext E152).keep K301 (ninS n254 (ninS (Ne.symm n180) (ninS n329 (ninS n328 nin0)))))
  obtain ⟨_, T337, Lc337, X337, hQ337, st337⟩ := own_cV X335 hx hZ hown E335 (rm43_1 l Z a0 hw [] b16 x2 T301.heap n0 o325 f336) f324 (w 284 rfl) (w 285 rfl) (w 287 rfl) (w 286 rfl) (w 288 rfl) (w 28 rfl) (by decide) (W := 0) (by decide) (by decide) (by decide) (by decide) (g := (mkF m 165 #[lI x0, lI x1, lI x2, lI x3, lI x4, lI x5, lV vI3, lR b5_0, lR b16, lR b28, lR b152, lR b16] [(.ref b16)])) rfl (by rw [hml]; rfl) (argsL := []) (rest := []) (lenOf pd___I rfl) rfl (own_W rfl) (hb hby at_165)
  obtain ⟨rfl, N337q, E337⟩ := hQ337
  have N337 := Fr.app N335 N337q
  obtain ⟨fs, hr, hrun, hended, hW, hsame⟩ := X337.leave (v := some vI1) (fun h => by rw [Bd.returns] at h; cases h)
  refine ⟨_, _, pre0 _ ?_, hrun, hended, _, _, rfl, ?_, ⟨_, rfl⟩, hW, hsame.mono (by decide) (by decide)⟩
  · show SG p e below s₁ (mkF m 0 #[lI x0, lI x1, lI x2, lI x3, lI x4, lI x5, lU, lU, lU, lU, lU, lU] []) _
    refine qi X0 hx hby at_0 ?_
    refine qc X0 hx hby at_2 ?_
    refine XS.iand X0.here hx rfl (hb hby at_3) rfl ?_
    refine qc X0 hx hby at_4 ?_
    refine iremM (g := (mkF m 5 #[lI x0, lI x1, lI x2, lI x3, lI x4, lI x5, lU, lU, lU, lU, lU, lU] [vI3, (.int (x5 &&& (3 : Int32)))])) X0 hx rfl (hb hby at_5) rfl (by decide : ¬ ((3 : Int32) = (0 : Int32))) ?_
    show SG p e below s₁ (mkF m 6 #[lI x0, lI x1, lI x2, lI x3, lI x4, lI x5, lU, lU, lU, lU, lU, lU] [(.int ((x5 &&& (3 : Int32)) % (3 : Int32)))]) _
    rw [hc1]
    refine qc X0 hx hby at_6 ?_
    refine XS.iadd X0.here hx rfl (hb hby at_7) rfl ?_
    refine XS.istore X0.here hx rfl (hb hby at_8) rfl (l' := #[lI x0, lI x1, lI x2, lI x3, lI x4, lI x5, lV vI3, lU, lU, lU, lU, lU]) rfl ?_
    refine qiN X0 hx hby at_10 ?_
    refine XS.sipush X0.here hx rfl (hb hby at_11) ?_
    show SG p e below s₁ (mkF m 14 #[lI x0, lI x1, lI x2, lI x3, lI x4, lI x5, lV vI3, lU, lU, lU, lU, lU] [vI255, (.int x0)]) _
    refine XS.iand X0.here hx rfl (hb hby at_14) rfl ?_
    refine XS.i2c X0.here hx rfl (hb hby at_15) rfl ?_
    refine st5 _ ?_
    refine XS.astore X5.here hx rfl (hb hby at_19) rfl rfl (l' := #[lI x0, lI x1, lI x2, lI x3, lI x4, lI x5, lV vI3, lR b5_0, lU, lU, lU, lU]) rfl ?_
    refine st16 _ ?_
    refine qd X16 hx hby at_24 ?_
    refine qa X16 hx hby at_25 ?_
    refine qiN X16 hx hby at_27 ?_
    refine qiN X16 hx hby at_28 ?_
    refine st24.trans ?_
    show SG p e below T24 (mkF m 32 #[lI x0, lI x1, lI x2, lI x3, lI x4, lI x5, lV vI3, lR b5_0, lU, lU, lU, lU] [(.ref b16)]) _
    refine XS.astore X24.here hx rfl (hb hby at_32) rfl rfl (l' := #[lI x0, lI x1, lI x2, lI x3, lI x4, lI x5, lV vI3, lR b5_0, lR b16, lU, lU, lU]) rfl ?_
    refine st28 _ ?_
    refine qd X28 hx hby at_37 ?_
    refine st37.trans ?_
    refine XS.astore X37.here hx rfl (hb hby at_41) rfl rfl (l' := #[lI x0, lI x1, lI x2, lI x3, lI x4, lI x5, lV vI3, lR b5_0, lR b16, lR b28, lU, lU]) rfl ?_
    refine qa X37 hx hby at_43 ?_
    refine qa X37 hx hby at_45 ?_
    refine st46 _ ?_
    refine XS.pop X46.here hx rfl (hb hby at_52) rfl rfl ?_
    refine qi X46 hx hby at_53 ?_
    show SG p e below T46 (mkF m 55 #[lI x0, lI x1, lI x2, lI x3, lI x4, lI x5, lV vI3, lR b5_0, lR b16, lR b28, lU, lU] [vI3]) _
    refine qc X46 hx hby at_55 ?_
    refine XS.icmpNo X46.here hx rfl (hb hby at_56) rfl (flt (by decide : ¬ ((3 : Int32) < (2 : Int32)))).1 ?_
    refine qa X46 hx hby at_59 ?_
    refine st54 _ ?_
    refine qd X54 hx hby at_64 ?_
    refine qiN X54 hx hby at_65 ?_
    refine XS.sipush X54.here hx rfl (hb hby at_66) ?_
    refine XS.iand X54.here hx rfl (hb hby at_69) rfl ?_
    refine XS.i2c X54.here hx rfl (hb hby at_70) rfl ?_
    refine st61 _ ?_
    show SG p e below T61 (mkF m 74 #[lI x0, lI x1, lI x2, lI x3, lI x4, lI x5, lV vI3, lR b5_0, lR b16, lR b28, lU, lU] [(.ref b61_0), (.ref b54), (.ref b54), (.ref b28)]) _
    refine qiN X61 hx hby at_74 ?_
    refine qi X61 hx hby at_75 ?_
    refine st79.trans ?_
    refine st96 _ ?_
    refine XS.pop X96.here hx rfl (hb hby at_85) rfl rfl ?_
    refine qi X96 hx hby at_86 ?_
    refine qc X96 hx hby at_88 ?_
    refine XS.icmpNo X96.here hx rfl (hb hby at_89) rfl (flt (by decide : ¬ ((3 : Int32) < (3 : Int32)))).1 ?_
    refine qa X96 hx hby at_92 ?_
    refine st101 _ ?_
    show SG p e below T101 (mkF m 97 #[lI x0, lI x1, lI x2, lI x3, lI x4, lI x5, lV vI3, lR b5_0, lR b16, lR b28, lU, lU] [(.ref b101), (.ref b28)]) _
    refine qd X101 hx hby at_97 ?_
    refine qi X101 hx hby at_98 ?_
    refine XS.sipush X101.here hx rfl (hb hby at_100) ?_
    refine XS.iand X101.here hx rfl (hb hby at_103) rfl ?_
    refine XS.i2c X101.here hx rfl (hb hby at_104) rfl ?_
    refine st108 _ ?_
    refine qi X108 hx hby at_108 ?_
    refine qiN X108 hx hby at_110 ?_
    refine st126.trans ?_
    refine st147 _ ?_
    show SG p e below T147 (mkF m 119 #[lI x0, lI x1, lI x2, lI x3, lI x4, lI x5, lV vI3, lR b5_0, lR b16, lR b28, lU, lU] [vI1]) _
    refine XS.pop X147.here hx rfl (hb hby at_119) rfl rfl ?_
    refine st152 _ ?_
    refine qd X152 hx hby at_123 ?_
    refine qa X152 hx hby at_124 ?_
    refine qiN X152 hx hby at_126 ?_
    refine qa X152 hx hby at_127 ?_
    refine st301.trans ?_
    refine XS.astore X301.here hx rfl (hb hby at_132) rfl rfl (l' := #[lI x0, lI x1, lI x2, lI x3, lI x4, lI x5, lV vI3, lR b5_0, lR b16, lR b28, lR b152, lU]) rfl ?_
    refine qa X301 hx hby at_134 ?_
    refine st326 _ ?_
    show SG p e below T326 (mkF m 139 #[lI x0, lI x1, lI x2, lI x3, lI x4, lI x5, lV vI3, lR b5_0, lR b16, lR b28, lR b152, lU] [(.ref b16)]) _
    refine XS.astore X326.here hx rfl (hb hby at_139) rfl rfl (l' := #[lI x0, lI x1, lI x2, lI x3, lI x4, lI x5, lV vI3, lR b5_0, lR b16, lR b28, lR b152, lR b16]) rfl ?_
    refine qa X326 hx hby at_141 ?_
    refine st331 _ ?_
    refine qa X331 hx hby at_146 ?_
    refine st332 _ ?_
    refine XS.ifNo X332.here hx rfl (hb hby at_151) rfl ((if0 _ _).trans (feq (by decide : ¬ ((1 : Int32) = (0 : Int32)))).1) ?_
    refine qa X332 hx hby at_154 ?_
    refine st335 _ ?_
    refine qiN X335 hx hby at_159 ?_
    refine XS.icmpNo X335.here hx rfl (hb hby at_160) rfl (teq (rfl : x1 = x1)).2 ?_
    show SG p e below T335 (mkF m 163 #[lI x0, lI x1, lI x2, lI x3, lI x4, lI x5, lV vI3, lR b5_0, lR b16, lR b28, lR b152, lR b16] []) _
    refine qa X335 hx hby at_163 ?_
    refine st337 _ ?_
    refine qiN X337 hx hby at_168 ?_
    refine XS.icmpNo X337.here hx rfl (hb hby at_169) rfl (teq (rfl : x2 = x2)).2 ?_
    refine qc X337 hx hby at_172 ?_
    refine XS.goto X337.here hx rfl (pc0 := 173) (pc' := 177) rfl (hb hby at_173) (by decide) (by decide) ?_
    exact retN X337 hx (t := .boolean) Bd.returns (by simp) (hb hby at_177) hr
  · show Q0_3 Z  h0 n0 _ T337.heap _
    rw [E337]
    exact ⟨rfl, N337⟩
theorem comes_1 {Post : Tables → Env → Array Value → State → Outcome → State → Prop} (hpost : ∀ tb e args s v u, (limb_1_1.after args s (.returned v) u = true ∧ limb_1_2.after args s (.returned v) u = true ∧ True) → FrameEnd s (.returned v) u (Jvm.fieldLocs frame_1_writes args s ++ Jvm.arrayLocs frame_1_arrays args s ++ Jvm.staticLocs frame_1_statics s) 48 192 → Post tb e args s (.returned v) u) :
    ArmFor flags0 classFile x code maxLocals ret World_1 tables_1 room_1 Calls_1 rest_1 Pre_1 Post := by
  intro l hfl _ _ p e ha hc hk s m args below hf hA hF happ hP
  obtain ⟨hcalls, hrest, hpre⟩ := hP
  obtain ⟨-, -, -, hnamed, -, -, -, hat⟩ := (Spec.applies_iff hf).mp happ
  obtain ⟨hg, hn⟩ := and_e (Cond.before_iff.mp (show (Jvm.Cond.and given_1 narrow_1).before args s = true from hpre))
  obtain ⟨g0, hg⟩ := and_e hg
  obtain ⟨ga0, hg⟩ := and_e hg
  obtain ⟨ga1, hg⟩ := and_e hg
  obtain ⟨ga2, hg⟩ := and_e hg
  obtain ⟨ga3, hg⟩ := and_e hg
  obtain ⟨ga4, hg⟩ := and_e hg
  obtain ⟨w0, w1, w2, w3, w4, w5, rfl⟩ : ∃ w0 w1 w2 w3 w4 w5 : Value, args = #[w0, w1, w2, w3, w4, w5] := by
    have hs : args.size = 6 := by simpa [Cond.value, given_1] using g0
    obtain ⟨L⟩ := args
    match L, hs with
    | [w0, w1, w2, w3, w4, w5], _ => exact ⟨w0, w1, w2, w3, w4, w5, rfl⟩
  have hw := fun d (hd : d ∈ tables_1) => atoms_spec (ws := Jvm.Cond.code x code maxLocals ret :: tables_1) hat d (List.mem_cons_of_mem _ hd)
  have hfit : Fit s := fun {y c} hc i hi => by
    obtain ⟨ha, rfl⟩ := Array.getElem?_eq_some_iff.mp hc
    have q := List.all_eq_true.mp ((Array.all_eq_true_iff_forall_mem.mp hF) _ (Array.getElem_mem ha)) i (List.mem_range.mpr hi)
    simpa [Array.getElem?_eq_getElem hi] using q
  obtain ⟨hsets, hown0⟩ := atoms_of _ (rest_1_c_eq ▸ (show rest_1_c.before _ s = true from hrest))
  have hr0 := Cond.before_iff.mp hown0
  obtain ⟨i0, ei0⟩ := is_v ga0
  obtain rfl : w0 = (.int i0) := Option.some.inj ei0
  obtain ⟨i1, ei1⟩ := is_v ga1
  obtain rfl : w1 = (.int i1) := Option.some.inj ei1
  obtain ⟨i2, ei2⟩ := is_v ga2
  obtain rfl : w2 = (.int i2) := Option.some.inj ei2
  obtain ⟨i3, ei3⟩ := is_v ga3
  obtain rfl : w3 = (.int i3) := Option.some.inj ei3
  obtain ⟨i4, ei4⟩ := is_v ga4
  obtain rfl : w4 = (.int i4) := Option.some.inj ei4
  obtain ⟨i5, ei5⟩ := is_v hg
  obtain rfl : w5 = (.int i5) := Option.some.inj ei5
  suffices hM : MetFree l x (head1 (Jvm.Cond.code x code maxLocals ret :: tables_1) room_1) (fun a U => a = #[(.int i0), (.int i1), (.int i2), (.int i3), (.int i4), (.int i5)] ∧ s.Warmed39 U.vm ∧ U.heap = s.heap) (fun _ _ _ _ _ => True) (fun _ U o U' => ∃ v L, o = .returned v ∧ (v = some vI1 ∧ Fr s.heap.size L) ∧ FrameEnd U o U' L room_1.cells room_1.slots) by
    obtain ⟨n, o, h1, h2, h3, _, L, rfl, ⟨rfl, N⟩, hq⟩ := hM p e ha hc hk s m _ below hf ((Spec.applies_iff_loose hf).mp happ).1 ⟨rfl, State.Warmed39.refl s, rfl⟩ trivial
    refine ⟨n, _, h1, h2, h3, hpost _ _ _ _ _ _ ⟨Cond.after_iff.mpr rfl, Cond.after_iff.mpr (eq_i res_at (Term.int_eval (1)) rfl), trivial⟩ ⟨hq.1, hq.2.1, (hq.2.2.sift fun y hy => Or.inr (N y hy)).mono (by decide) (by decide)⟩⟩
  have hs := fun (n : Nat) (d : Jvm.Cond) (q : jdkStatics_1[n]? = some d) => Cond.before_iff.mp (hsets d (List.mem_of_getElem? q))
  obtain ⟨iCS, eCS⟩ := is_v (hs 1 _ rfl)
  have SCS := Sta.start eCS (Or.inl (hsets _ (List.mem_of_getElem? (i := 0) rfl)))
  have nCS : ¬ (iCS = (0 : Int32)) := gotF (Cond.eq_ints eCS (Term.int_eval (0))) (not_v (hs 2 _ rfl))
  obtain ⟨vFM, eFM, hFM⟩ := isR_v (hs 8 _ rfl)
  have SFM := Sta.start eFM (Or.inl (hsets _ (List.mem_of_getElem? (i := 7) rfl)))
  obtain ⟨rDCE, eDCE⟩ := exa_v (hs 16 _ rfl)
  have SDCE := Sta.start eDCE (Or.inr ⟨(ww hw 46 rfl), (hsets _ (List.mem_of_getElem? (i := 11) rfl))⟩)
  have EDCE := Exa.start eDCE (hs 16 _ rfl)
  obtain ⟨clDCE, ADCE⟩ := Arr.start eDCE (hs 15 _ rfl)
  have hlDCE := own_len (hs 17 _ rfl) eDCE ADCE
  have VDCE : Arv s s.heap rDCE clDCE.cls (.object "java/lang/Object") (0 : Int32) [] .null := Arv.start hfit ADCE hlDCE.1 hlDCE.2 (by decide) rfl trivial
  obtain ⟨rEMPTY, eEMPTY⟩ := exa_v (hs 20 _ rfl)
  have SEMPTY := Sta.start eEMPTY (Or.inl (hsets _ (List.mem_of_getElem? (i := 19) rfl)))
  have EEMPTY := Exa.start eEMPTY (hs 20 _ rfl)
  have SAD := Sta.start (eqv_i (y := 1) rfl (hs 23 _ rfl)) (Or.inl (hsets _ (List.mem_of_getElem? (i := 22) rfl)))
  obtain ⟨cMir, kMir, rMir, mm1, mm2, mm3, -⟩ := hcalls.1
  obtain ⟨kk, hkk, ekk⟩ := own_and3n i5
  have hm := own_m3 kk hkk
  rw [← ekk] at hm
  rcases hm with ck | ck | ck
  · exact rm0_1 l s _ hw tables_1 i0 i1 i2 i3 i4 i5 iCS rDCE clDCE.cls rMir rEMPTY _ _ (Old.start s) ck SCS nCS (own_c255 i0) SDCE VDCE ⟨cMir, kMir, mm1, mm2, mm3⟩ SEMPTY
  · exact rm0_2 l s _ hw tables_1 i0 i1 i2 i3 i4 i5 iCS rDCE clDCE.cls rMir rEMPTY _ _ (Old.start s) ck SCS nCS (own_c255 i0) SDCE VDCE (own_c255 i3) ⟨cMir, kMir, mm1, mm2, mm3⟩ SEMPTY EEMPTY
  · exact rm0_3 l s _ hw tables_1 i0 i1 i2 i3 i4 i5 iCS rDCE clDCE.cls rMir _ _ (Old.start s) ck SCS nCS (own_c255 i0) SDCE VDCE (own_c255 i3) (own_c255 i4) ⟨cMir, kMir, mm1, mm2, mm3⟩
theorem main_1_1 : Claimed_1_1 := comes_1 fun _ _ _ _ _ _ h hF => ⟨h.1, hF⟩
theorem main_1_2 : Claimed_1_2 := comes_1 fun _ _ _ _ _ _ h hF => ⟨h.2.1, hF⟩
end Jvm.Pilot.@@N@@
namespace Jvm.Pilot.@@N@@
open Jvm Jvm.ClassFile Sem Op Lib Jvm.Free Jvm.Stand Jvm.Pilot.@@N@@.Jvm.D
set_option maxRecDepth 65536
/-! MADE BY PROGRAM (witnessworld.py) out of the Statement's table words and the real class files: 41 classes; the members and pool entries that the words name. The judged class is class 1, her method 1. -/
namespace start1
open Jvm.ClassFile
def u (s : String) : CpInfo := .utf8 (stringToUtf16 s)
/-- a pool by its gaps: so many unusable entries, then the entry; so many at the end -/
def gap : Nat → List CpInfo → List CpInfo
  | 0, r => r
  | n + 1, r => .unusable :: gap n r
def poolList (es : List (Nat × CpInfo)) (last : Nat) : List CpInfo := es.foldr (fun e r => gap e.1 (e.2 :: r)) (gap last [])
def pool (es : List (Nat × CpInfo)) (last : Nat) : Array CpInfo := ⟨poolList es last⟩
def fileOf (pool : Array CpInfo) (this : Nat) (attrs : Array Attribute := #[]) (ms : Array MethodInfo := #[]) (fl : Nat := 33) (sup : Nat := 0) (ifs : Array Nat := #[]) (fds : Array FieldInfo := #[]) : ClassFile where
  minorVersion := 0
  majorVersion := 65
  constantPool := pool
  accessFlags := fl
  thisClass := this
  superClass := sup
  interfaces := ifs
  fields := fds
  methods := ms
  attributes := attrs
def plain (name : String) (sup : Option ClassId) : Class where
  name := name
  kind := .ordinary
  loader := none
  accessFlags := 33
  super := sup
  interfaces := #[]
  cf := none
  fields := #[]
  methods := #[]
  instanceTypes := #[]
  staticTypes := #[]
  resolved := #[]
  callSites := []
  init := .initialized
  statics := none
  mirror := none

def pN (a b : Nat) : Nat × CpInfo := (0, .nameAndType a b)
def pF (a b : Nat) : Nat × CpInfo := (0, .fieldref a b)
def pM (a b : Nat) : Nat × CpInfo := (0, .methodref a b)
def pK (a : Nat) : Nat × CpInfo := (0, .class_ a)
def pU (s : String) : Nat × CpInfo := (0, u s)
def pool0 : Array CpInfo := pool [(5, u "<init>"), pU "()V", (1, .class_ 10), (1, u "java/lang/Object"), pU "getClass", pU "()Ljava/lang/Class;"] 111

def k0c0 : Code := ⟨0, 1, object_method_1_code, #[], #[]⟩
def k0m0 : Method := ⟨"<init>", "()V", ⟨[], none⟩, 1, some k0c0⟩
def k0m1 : Method := ⟨"getClass", "()Ljava/lang/Class;", ⟨[], some (.object "java/lang/Class")⟩, 273, none⟩
/-- java/lang/Object -/
def k0 : Class := { plain "java/lang/Object" none with
  cf := some (fileOf pool0 8 #[] #[⟨1, 5, 6, #[]⟩, ⟨273, 11, 12, #[]⟩] 33 0 #[] #[])
  methods := #[k0m0, k0m1]
  resolved := Array.replicate 124 none }

def pool1 : Array CpInfo := pool [(2, .class_ 4), pN 5 6, pU "java/lang/Object", pU "<init>", pU "()V", pM 8 9, pK 10, pN 11 12, pU "java/lang/String", pU "valueOf", pU "(C)Ljava/lang/String;", pK 14, pU "com/example/nearmiss/nearmiss/Element", pM 13 16, pN 5 17, pU "(Ljava/lang/String;II)V", pK 19, pU "java/util/ArrayList", pM 18 3, (0, .interfaceMethodref 22 23), pK 24, pN 25 26, pU "java/util/List", pU "add", pU "(Ljava/lang/Object;)Z", pK 28, pU "com/example/nearmiss/nearmiss/Document", pM 27 30, pN 5 31, pU "(Ljava/lang/String;ILjava/util/List;)V", pM 27 33, pN 34 35, pU "root", pU "()Lcom/example/nearmiss/nearmiss/Element;", pM 13 37, pN 38 39, pU "path", pU "()Ljava/lang/String;", pM 8 41, pN 42 26, pU "equals", pM 13 44, pN 45 46, pU "start", pU "()I", pM 13 48, pN 49 46, pU "end", pK 51, pU "com/example/nearmiss/nearmiss/DocumentRootPinLaw", (2, u "law"), pU "(IIIIII)Z"] 3

def k1m0 : Method := ⟨"<init>", "()V", ⟨[], none⟩, 2, none⟩
def k1c1 : Code := ⟨6, 12, code, #[], #[]⟩
def k1m1 : Method := ⟨"law", "(IIIIII)Z", ⟨[.int, .int, .int, .int, .int, .int], some .boolean⟩, 9, some k1c1⟩
/-- com/example/nearmiss/nearmiss/DocumentRootPinLaw -/
def k1 : Class := { plain "com/example/nearmiss/nearmiss/DocumentRootPinLaw" (some 0) with
  accessFlags := 49
  cf := some (fileOf pool1 50 #[] #[⟨2, 5, 6, #[]⟩, ⟨9, 54, 55, #[]⟩] 49 2 #[] #[])
  methods := #[k1m0, k1m1]
  resolved := Array.replicate 59 none }

def pool2 : Array CpInfo := pool [(1, .class_ 2), pU "java/io/Serializable", pK 4, pU "java/lang/Object"] 2

/-- java/io/Serializable -/
def k2 : Class := { plain "java/io/Serializable" (some 0) with
  accessFlags := 1537
  cf := some (fileOf pool2 1 #[] #[] 1537 3 #[] #[])
  resolved := Array.replicate 7 none }

def pool3 : Array CpInfo := pool [(1, .class_ 2), pU "java/lang/Comparable", pK 4, pU "java/lang/Object"] 7

/-- java/lang/Comparable -/
def k3 : Class := { plain "java/lang/Comparable" (some 0) with
  accessFlags := 1537
  cf := some (fileOf pool3 1 #[] #[] 1537 3 #[] #[])
  resolved := Array.replicate 12 none }

def pool4 : Array CpInfo := pool [(2, .class_ 4), (1, u "java/lang/CharSequence"), (42, .class_ 48), pU "java/lang/CharSequence$1CodePointIterator", (10, .class_ 60), pU "java/lang/CharSequence$1CharIterator", (5, .class_ 67), pU "java/lang/Object"] 63

/-- java/lang/CharSequence -/
def k4 : Class := { plain "java/lang/CharSequence" (some 0) with
  accessFlags := 1537
  cf := some (fileOf pool4 2 #[.nestMembers #[47, 59]] #[] 1537 66 #[] #[])
  resolved := Array.replicate 131 none }

def pool5 : Array CpInfo := pool [(1, .class_ 2), pU "java/lang/constant/Constable", pK 4, pU "java/lang/Object"] 6

/-- java/lang/constant/Constable -/
def k5 : Class := { plain "java/lang/constant/Constable" (some 0) with
  accessFlags := 1537
  cf := some (fileOf pool5 1 #[] #[] 1537 3 #[] #[])
  resolved := Array.replicate 11 none }

def pool6 : Array CpInfo := pool [(1, .class_ 2), pU "java/lang/constant/ConstantDesc", pK 4, pU "java/lang/Object"] 32

/-- java/lang/constant/ConstantDesc -/
def k6 : Class := { plain "java/lang/constant/ConstantDesc" (some 0) with
  accessFlags := 1537
  cf := some (fileOf pool6 1 #[] #[] 1537 3 #[] #[])
  resolved := Array.replicate 37 none }

def pool7 : Array CpInfo := pool [(1, .methodref 2 3), pK 4, pN 5 6, pU "java/lang/Object", pU "<init>", pU "()V", (2, .fieldref 10 11), pK 12, pN 13 14, pU "java/lang/String", pU "value", pU "[B", pF 10 16, pN 17 18, pU "coder", pU "B", pF 10 20, pN 21 22, pU "hash", pU "I", pF 10 24, pN 25 26, pU "hashIsZero", pU "Z", (11, .fieldref 10 39), pN 40 26, pU "COMPACT_STRINGS", (12, u "toBytes"), (53, .class_ 109), (1, u "java/lang/StringLatin1"), (32, u "()Z"), (66, .methodref 10 210), pN 5 211, pU "([BB)V", (122, u "()I"), pM 10 336, pN 17 337, pU "()B", (31, u "(C)Z"), (6, u "([BI[BII)I"), (115, .methodref 10 493), pN 494 142, pU "isLatin1", (10, .methodref 10 506), pN 507 334, pU "length", (35, u "equals"), (15, .class_ 561), (1, u "jdk/internal/util/ArraysSupport"), pU "mismatch", (10, u "(Ljava/lang/Object;)Z"), (1, .class_ 576), pU "java/lang/CharSequence", (22, u "CASE_INSENSITIVE_ORDER"), pU "Ljava/util/Comparator;", (6, .methodref 559 608), pN 562 376, (15, .methodref 10 625), pN 626 627, pU "startsWith", pU "(Ljava/lang/String;I)Z", pM 107 629, pN 630 631, pU "hashCode", pU "([B)I", (150, u "valueOf"), pU "(C)Ljava/lang/String;", (231, .methodref 107 1016), pN 1017 369, pU "canEncode", pM 107 1019, pN 53 1020, pU "(C)[B", (80, u "serialPersistentFields"), pU "[Ljava/io/ObjectStreamField;", pK 1104, pU "java/lang/String$CaseInsensitiveComparator", (1, .class_ 1107), pU "java/io/Serializable", pK 1109, pU "java/lang/Comparable", pK 1111, pU "java/lang/constant/Constable", pK 1113, pU "java/lang/constant/ConstantDesc", (2, u "serialVersionUID"), pU "J", (3, u "REPL"), pU "C", (2, u "LATIN1"), (1, u "UTF16"), (129, u "(Ljava/lang/String;)Z")] 193

def k7m0 : Method := ⟨"<init>", "()V", ⟨[], none⟩, 1, none⟩
def k7c1 : Code := ⟨2, 1, jdk_42_method_54_code, #[], #[]⟩
def k7m1 : Method := ⟨"length", "()I", ⟨[], some .int⟩, 1, some k7c1⟩
def k7c2 : Code := ⟨2, 3, jdk_42_method_66_code, #[], #[]⟩
def k7m2 : Method := ⟨"equals", "(Ljava/lang/Object;)Z", ⟨[(.object "java/lang/Object")], some .boolean⟩, 1, some k7c2⟩
def k7c3 : Code := ⟨5, 8, jdk_42_method_75_code, #[], #[]⟩
def k7m3 : Method := ⟨"startsWith", "(Ljava/lang/String;I)Z", ⟨[(.object "java/lang/String"), .int], some .boolean⟩, 1, some k7c3⟩
def k7c4 : Code := ⟨3, 2, jdk_42_method_76_code, #[], #[]⟩
def k7m4 : Method := ⟨"startsWith", "(Ljava/lang/String;)Z", ⟨[(.object "java/lang/String")], some .boolean⟩, 1, some k7c4⟩
def k7c5 : Code := ⟨2, 2, jdk_42_method_78_code, #[], #[]⟩
def k7m5 : Method := ⟨"hashCode", "()I", ⟨[], some .int⟩, 1, some k7c5⟩
def k7c6 : Code := ⟨4, 1, jdk_42_method_139_code, #[], #[]⟩
def k7m6 : Method := ⟨"valueOf", "(C)Ljava/lang/String;", ⟨[.char], some (.object "java/lang/String")⟩, 9, some k7c6⟩
def k7c7 : Code := ⟨2, 3, jdk_42_method_151_code, #[], #[]⟩
def k7m7 : Method := ⟨"<init>", "([BB)V", ⟨[(.array .byte), .byte], none⟩, 0, some k7c7⟩
def k7c8 : Code := ⟨1, 1, jdk_42_method_152_code, #[], #[]⟩
def k7m8 : Method := ⟨"coder", "()B", ⟨[], some .byte⟩, 0, some k7c8⟩
def k7c9 : Code := ⟨1, 1, jdk_42_method_154_code, #[], #[]⟩
def k7m9 : Method := ⟨"isLatin1", "()Z", ⟨[], some .boolean⟩, 0, some k7c9⟩
/-- java/lang/String -/
def k7 : Class := { plain "java/lang/String" (some 0) with
  accessFlags := 49
  interfaces := #[2, 3, 4, 5, 6]
  cf := some (fileOf pool7 10 #[.nestMembers #[1103]] #[⟨1, 5, 6, #[]⟩, ⟨1, 507, 334, #[]⟩, ⟨1, 543, 573, #[]⟩, ⟨1, 626, 627, #[]⟩, ⟨1, 626, 1257, #[]⟩, ⟨1, 630, 334, #[]⟩, ⟨9, 782, 783, #[]⟩, ⟨0, 5, 211, #[]⟩, ⟨0, 17, 337, #[]⟩, ⟨0, 494, 142, #[]⟩] 49 2 #[1106, 1108, 575, 1110, 1112] #[⟨18, 13, 14, #[]⟩, ⟨18, 17, 18, #[]⟩, ⟨2, 21, 22, #[]⟩, ⟨2, 25, 26, #[]⟩, ⟨26, 1116, 1117, #[]⟩, ⟨24, 40, 26, #[]⟩, ⟨26, 1101, 1102, #[]⟩, ⟨26, 1121, 1122, #[]⟩, ⟨25, 599, 600, #[]⟩, ⟨24, 1125, 18, #[]⟩, ⟨24, 1127, 18, #[]⟩])
  fields := #[⟨"value", (.array .byte), 18, 0, 0⟩, ⟨"coder", .byte, 18, 1, 0⟩, ⟨"hash", .int, 2, 2, 0⟩, ⟨"hashIsZero", .boolean, 2, 3, 0⟩, ⟨"serialVersionUID", .long, 26, 0, 0⟩, ⟨"COMPACT_STRINGS", .boolean, 24, 1, 0⟩, ⟨"serialPersistentFields", (.array (.object "java/io/ObjectStreamField")), 26, 2, 0⟩, ⟨"REPL", .char, 26, 3, 0⟩, ⟨"CASE_INSENSITIVE_ORDER", (.object "java/util/Comparator"), 25, 4, 0⟩, ⟨"LATIN1", .byte, 24, 5, 0⟩, ⟨"UTF16", .byte, 24, 6, 0⟩]
  methods := #[k7m0, k7m1, k7m2, k7m3, k7m4, k7m5, k7m6, k7m7, k7m8, k7m9]
  instanceTypes := #[(.array .byte), .byte, .int, .boolean]
  staticTypes := #[.long, .boolean, (.array (.object "java/io/ObjectStreamField")), .char, (.object "java/util/Comparator"), .byte, .byte]
  resolved := Array.replicate 1451 none
  statics := some 0 }

def pool8 : Array CpInfo := pool [(4, .class_ 6), (1, u "java/lang/Object"), pU "<init>", pU "()V", (5, .class_ 16), (1, u "java/lang/StringLatin1"), (40, u "([B)I"), (32, u "canEncode"), (14, u "(C)Z"), (15, u "$assertionsDisabled"), pU "Z", (98, .class_ 223), (1, u "java/lang/StringLatin1$LinesSpliterator"), (74, u "hashCode"), (81, u "toBytes"), (1, u "(C)[B"), (7, .class_ 391), pU "java/lang/StringLatin1$CharsSpliterator"] 3

def k8m0 : Method := ⟨"<init>", "()V", ⟨[], none⟩, 0, none⟩
def k8c1 : Code := ⟨2, 1, jdk_43_method_3_code, #[], #[]⟩
def k8m1 : Method := ⟨"canEncode", "(C)Z", ⟨[.char], some .boolean⟩, 9, some k8c1⟩
def k8c2 : Code := ⟨5, 1, jdk_43_method_21_code, #[], #[]⟩
def k8m2 : Method := ⟨"hashCode", "([B)I", ⟨[(.array .byte)], some .int⟩, 9, some k8c2⟩
def k8c3 : Code := ⟨4, 1, jdk_43_method_46_code, #[], #[]⟩
def k8m3 : Method := ⟨"toBytes", "(C)[B", ⟨[.char], some (.array .byte)⟩, 9, some k8c3⟩
/-- java/lang/StringLatin1 -/
def k8 : Class := { plain "java/lang/StringLatin1" (some 0) with
  accessFlags := 48
  cf := some (fileOf pool8 14 #[.nestMembers #[390, 221]] #[⟨0, 7, 8, #[]⟩, ⟨9, 90, 105, #[]⟩, ⟨9, 298, 57, #[]⟩, ⟨9, 380, 382, #[]⟩] 48 4 #[] #[⟨4120, 121, 122, #[]⟩])
  fields := #[⟨"$assertionsDisabled", .boolean, 4120, 0, 0⟩]
  methods := #[k8m0, k8m1, k8m2, k8m3]
  staticTypes := #[.boolean]
  resolved := Array.replicate 395 none }

def pool9 : Array CpInfo := pool [(1, .methodref 2 3), pK 4, pN 5 6, pU "java/lang/Object", pU "<init>", pU "()V", pK 8, pU "java/lang/Record"] 13

def k9c0 : Code := ⟨1, 1, jdk_30_method_1_code, #[], #[]⟩
def k9m0 : Method := ⟨"<init>", "()V", ⟨[], none⟩, 4, some k9c0⟩
/-- java/lang/Record -/
def k9 : Class := { plain "java/lang/Record" (some 0) with
  accessFlags := 1057
  cf := some (fileOf pool9 7 #[] #[⟨4, 5, 6, #[]⟩] 1057 2 #[] #[])
  methods := #[k9m0]
  resolved := Array.replicate 22 none }

def pool10 : Array CpInfo := pool [(2, .class_ 4), (1, u "com/example/nearmiss/nearmiss/Answer"), (14, .class_ 20), pU "java/lang/Object"] 16

/-- com/example/nearmiss/nearmiss/Answer -/
def k10 : Class := { plain "com/example/nearmiss/nearmiss/Answer" (some 0) with
  accessFlags := 1536
  cf := some (fileOf pool10 2 #[] #[] 1536 19 #[] #[])
  resolved := Array.replicate 37 none }

def pool11 : Array CpInfo := pool [(1, .methodref 2 3), pK 4, pN 5 6, pU "java/lang/Record", pU "<init>", pU "()V", pF 8 9, pK 10, pN 11 12, pU "com/example/nearmiss/nearmiss/Element", pU "path", pU "Ljava/lang/String;", pF 8 14, pN 15 16, pU "start", pU "I", pF 8 18, pN 19 16, pU "end", pM 21 22, pK 23, pN 24 25, pU "java/lang/String", pU "startsWith", pU "(Ljava/lang/String;)Z", (30, .class_ 57), pU "com/example/nearmiss/nearmiss/Answer", pU "(Ljava/lang/String;II)V", (4, u "()Ljava/lang/String;"), pU "isOnPathTo", (5, u "()I")] 22

def k11c0 : Code := ⟨2, 4, prog_7_method_1_code, #[], #[]⟩
def k11m0 : Method := ⟨"<init>", "(Ljava/lang/String;II)V", ⟨[(.object "java/lang/String"), .int, .int], none⟩, 0, some k11c0⟩
def k11c1 : Code := ⟨2, 2, prog_7_method_3_code, #[], #[]⟩
def k11m1 : Method := ⟨"isOnPathTo", "(Ljava/lang/String;)Z", ⟨[(.object "java/lang/String")], some .boolean⟩, 0, some k11c1⟩
def k11c2 : Code := ⟨1, 1, prog_7_method_9_code, #[], #[]⟩
def k11m2 : Method := ⟨"path", "()Ljava/lang/String;", ⟨[], some (.object "java/lang/String")⟩, 1, some k11c2⟩
def k11c3 : Code := ⟨1, 1, prog_7_method_10_code, #[], #[]⟩
def k11m3 : Method := ⟨"start", "()I", ⟨[], some .int⟩, 1, some k11c3⟩
def k11c4 : Code := ⟨1, 1, prog_7_method_11_code, #[], #[]⟩
def k11m4 : Method := ⟨"end", "()I", ⟨[], some .int⟩, 1, some k11c4⟩
/-- com/example/nearmiss/nearmiss/Element -/
def k11 : Class := { plain "com/example/nearmiss/nearmiss/Element" (some 9) with
  accessFlags := 48
  interfaces := #[10]
  cf := some (fileOf pool11 8 #[] #[⟨0, 5, 58, #[]⟩, ⟨0, 64, 25, #[]⟩, ⟨1, 11, 63, #[]⟩, ⟨1, 15, 70, #[]⟩, ⟨1, 19, 70, #[]⟩] 48 2 #[56] #[⟨18, 11, 12, #[]⟩, ⟨18, 15, 16, #[]⟩, ⟨18, 19, 16, #[]⟩])
  fields := #[⟨"path", (.object "java/lang/String"), 18, 0, 0⟩, ⟨"start", .int, 18, 1, 0⟩, ⟨"end", .int, 18, 2, 0⟩]
  methods := #[k11m0, k11m1, k11m2, k11m3, k11m4]
  instanceTypes := #[(.object "java/lang/String"), .int, .int]
  resolved := Array.replicate 93 none }

def pool12 : Array CpInfo := pool [(8, .class_ 10), (1, u "java/lang/Iterable"), (24, .class_ 36), pU "java/lang/Object"] 25

/-- java/lang/Iterable -/
def k12 : Class := { plain "java/lang/Iterable" (some 0) with
  accessFlags := 1537
  cf := some (fileOf pool12 8 #[] #[] 1537 35 #[] #[])
  resolved := Array.replicate 62 none }

def pool13 : Array CpInfo := pool [(10, .class_ 12), (1, u "java/util/Collection"), pU "toArray", (16, u "()Z"), (29, .class_ 61), pU "java/lang/Object", pK 63, pU "java/lang/Iterable", (2, u "isEmpty"), (3, u "()[Ljava/lang/Object;")] 44

def k13m0 : Method := ⟨"isEmpty", "()Z", ⟨[], some .boolean⟩, 1025, none⟩
def k13m1 : Method := ⟨"toArray", "()[Ljava/lang/Object;", ⟨[], some (.array (.object "java/lang/Object"))⟩, 1025, none⟩
/-- java/util/Collection -/
def k13 : Class := { plain "java/util/Collection" (some 0) with
  accessFlags := 1537
  interfaces := #[12]
  cf := some (fileOf pool13 10 #[] #[⟨1025, 66, 30, #[]⟩, ⟨1025, 13, 70, #[]⟩] 1537 60 #[62] #[])
  methods := #[k13m0, k13m1]
  resolved := Array.replicate 115 none }

def pool14 : Array CpInfo := pool [(1, .methodref 2 3), pK 4, pN 5 6, pU "java/lang/Object", pU "<init>", pU "()V", (1, .class_ 10), (1, u "java/util/AbstractCollection"), (66, .class_ 78), pU "java/util/Collection"] 81

def k14c0 : Code := ⟨1, 1, jdk_22_method_1_code, #[], #[]⟩
def k14m0 : Method := ⟨"<init>", "()V", ⟨[], none⟩, 4, some k14c0⟩
/-- java/util/AbstractCollection -/
def k14 : Class := { plain "java/util/AbstractCollection" (some 0) with
  accessFlags := 1057
  interfaces := #[13]
  cf := some (fileOf pool14 8 #[] #[⟨4, 5, 6, #[]⟩] 1057 2 #[77] #[])
  methods := #[k14m0]
  resolved := Array.replicate 160 none }

def pool15 : Array CpInfo := pool [(8, .class_ 10), (1, u "java/util/SequencedCollection"), (15, .class_ 27), pU "java/lang/Object", pK 29, pU "java/util/Collection"] 27

/-- java/util/SequencedCollection -/
def k15 : Class := { plain "java/util/SequencedCollection" (some 0) with
  accessFlags := 1537
  interfaces := #[13]
  cf := some (fileOf pool15 8 #[] #[] 1537 26 #[28] #[])
  resolved := Array.replicate 57 none }

def pool16 : Array CpInfo := pool [(8, .class_ 10), (1, u "java/util/List"), (20, u "(Ljava/lang/Object;)V"), (16, u "<init>"), (11, u "add"), (3, u "(Ljava/lang/Object;)Z"), (10, u "get"), pU "(I)Ljava/lang/Object;", (2, u "size"), pU "()I", (7, u "of"), (2, .class_ 93), (1, u "java/util/ImmutableCollections"), (2, .class_ 97), pU "java/util/ImmutableCollections$List12", pM 96 99, pN 48 31, pM 96 101, pN 48 102, pU "(Ljava/lang/Object;Ljava/lang/Object;)V", pK 104, pU "java/lang/Object", (3, u "([Ljava/lang/Object;)Ljava/util/List;"), pM 91 110, pN 111 108, pU "listFromArray", pM 91 113, pN 114 115, pU "listCopy", pU "(Ljava/util/Collection;)Ljava/util/List;", (4, .class_ 121), pU "java/util/SequencedCollection", (112, u "copyOf")] 16

def k16m0 : Method := ⟨"size", "()I", ⟨[], some .int⟩, 1025, none⟩
def k16m1 : Method := ⟨"add", "(Ljava/lang/Object;)Z", ⟨[(.object "java/lang/Object")], some .boolean⟩, 1025, none⟩
def k16m2 : Method := ⟨"get", "(I)Ljava/lang/Object;", ⟨[.int], some (.object "java/lang/Object")⟩, 1025, none⟩
def k16c3 : Code := ⟨5, 2, jdk_40_method_47_code, #[], #[]⟩
def k16m3 : Method := ⟨"of", "([Ljava/lang/Object;)Ljava/util/List;", ⟨[(.array (.object "java/lang/Object"))], some (.object "java/util/List")⟩, 137, some k16c3⟩
def k16c4 : Code := ⟨1, 1, jdk_40_method_48_code, #[], #[]⟩
def k16m4 : Method := ⟨"copyOf", "(Ljava/util/Collection;)Ljava/util/List;", ⟨[(.object "java/util/Collection")], some (.object "java/util/List")⟩, 9, some k16c4⟩
/-- java/util/List -/
def k16 : Class := { plain "java/util/List" (some 0) with
  accessFlags := 1537
  interfaces := #[15]
  cf := some (fileOf pool16 8 #[] #[⟨1025, 79, 80, #[]⟩, ⟨1025, 60, 64, #[]⟩, ⟨1025, 75, 76, #[]⟩, ⟨137, 88, 108, #[]⟩, ⟨9, 234, 115, #[]⟩] 1537 103 #[120] #[])
  methods := #[k16m0, k16m1, k16m2, k16m3, k16m4]
  resolved := Array.replicate 251 none }

def pool17 : Array CpInfo := pool [(1, .methodref 2 3), pK 4, pN 5 6, pU "java/util/AbstractCollection", pU "<init>", pU "()V", pF 8 9, pK 10, pN 11 12, pU "java/util/AbstractList", pU "modCount", pU "I", (64, .class_ 78), pU "java/util/AbstractList$Itr", (3, .class_ 83), pU "java/util/AbstractList$ListItr", (9, .class_ 94), pU "java/util/AbstractList$RandomAccessSubList", (3, .class_ 99), pU "java/util/AbstractList$SubList", (33, .class_ 134), pU "java/util/List", (73, .class_ 209), pU "java/util/AbstractList$SubList$1", pK 211, pU "java/util/AbstractList$RandomAccessSpliterator"] 6

def k17c0 : Code := ⟨2, 1, jdk_39_method_1_code, #[], #[]⟩
def k17m0 : Method := ⟨"<init>", "()V", ⟨[], none⟩, 4, some k17c0⟩
/-- java/util/AbstractList -/
def k17 : Class := { plain "java/util/AbstractList" (some 14) with
  accessFlags := 1057
  interfaces := #[16]
  cf := some (fileOf pool17 8 #[.nestMembers #[93, 98, 208, 210, 82, 77]] #[⟨4, 5, 6, #[]⟩] 1057 2 #[133] #[⟨132, 11, 12, #[]⟩])
  fields := #[⟨"modCount", .int, 132, 0, 0⟩]
  methods := #[k17m0]
  instanceTypes := #[.int]
  resolved := Array.replicate 218 none }

def pool18 : Array CpInfo := pool [(1, .class_ 2), pU "java/util/RandomAccess", pK 4, pU "java/lang/Object"] 2

/-- java/util/RandomAccess -/
def k18 : Class := { plain "java/util/RandomAccess" (some 0) with
  accessFlags := 1537
  cf := some (fileOf pool18 1 #[] #[] 1537 3 #[] #[])
  resolved := Array.replicate 7 none }

def pool19 : Array CpInfo := pool [(1, .class_ 2), pU "java/lang/Cloneable", pK 4, pU "java/lang/Object"] 2

/-- java/lang/Cloneable -/
def k19 : Class := { plain "java/lang/Cloneable" (some 0) with
  accessFlags := 1537
  cf := some (fileOf pool19 1 #[] #[] 1537 3 #[] #[])
  resolved := Array.replicate 7 none }

def pool20 : Array CpInfo := pool [(1, .methodref 2 3), pK 4, pN 5 6, pU "java/util/AbstractList", pU "<init>", pU "()V", pK 8, pU "java/lang/Object", pF 10 11, pK 12, pN 13 14, pU "java/util/ArrayList", pU "elementData", pU "[Ljava/lang/Object;", (2, u "EMPTY_ELEMENTDATA"), (21, .fieldref 10 40), pN 41 14, pU "DEFAULTCAPACITY_EMPTY_ELEMENTDATA", (4, u "toArray"), pU "()[Ljava/lang/Object;", pF 10 49, pN 50 51, pU "size", pU "I", (6, .class_ 60), (1, u "java/util/Arrays"), pU "copyOf", (1, .fieldref 10 64), pN 65 51, pU "modCount", pM 58 67, pN 61 68, pU "([Ljava/lang/Object;I)[Ljava/lang/Object;", pM 10 70, pN 71 72, pU "grow", pU "(I)[Ljava/lang/Object;", (6, .methodref 80 81), pK 82, pN 83 84, pU "java/lang/Math", pU "max", pU "(II)I", (11, u "(Ljava/lang/Object;)Z"), (32, .methodref 10 130), pN 71 47, pM 10 132, pN 133 134, pU "add", pU "(Ljava/lang/Object;[Ljava/lang/Object;I)V", (13, .class_ 149), pU "java/util/List", (23, u "()Z"), (88, .class_ 263), pU "java/util/ArrayList$ListItr", (3, .class_ 268), pU "java/util/ArrayList$Itr", (7, .class_ 277), pU "java/util/ArrayList$SubList", (12, .class_ 291), pU "java/util/ArrayList$ArrayListSpliterator", (37, .class_ 330), pU "java/util/RandomAccess", pK 332, pU "java/lang/Cloneable", pK 334, pU "java/io/Serializable", pU "serialVersionUID", pU "J", (3, u "DEFAULT_CAPACITY"), (22, u "isEmpty"), (136, .class_ 501), pU "java/util/ArrayList$SubList$2", pK 503, pU "java/util/ArrayList$SubList$1"] 5

def k20c0 : Code := ⟨2, 1, jdk_38_method_2_code, #[], #[]⟩
def k20m0 : Method := ⟨"<init>", "()V", ⟨[], none⟩, 1, some k20c0⟩
def k20c1 : Code := ⟨4, 4, jdk_38_method_6_code, #[], #[]⟩
def k20m1 : Method := ⟨"grow", "(I)[Ljava/lang/Object;", ⟨[.int], some (.array (.object "java/lang/Object"))⟩, 2, some k20c1⟩
def k20c2 : Code := ⟨3, 1, jdk_38_method_7_code, #[], #[]⟩
def k20m2 : Method := ⟨"grow", "()[Ljava/lang/Object;", ⟨[], some (.array (.object "java/lang/Object"))⟩, 2, some k20c2⟩
def k20c3 : Code := ⟨1, 1, jdk_38_method_9_code, #[], #[]⟩
def k20m3 : Method := ⟨"isEmpty", "()Z", ⟨[], some .boolean⟩, 1, some k20c3⟩
def k20c4 : Code := ⟨2, 1, jdk_38_method_16_code, #[], #[]⟩
def k20m4 : Method := ⟨"toArray", "()[Ljava/lang/Object;", ⟨[], some (.array (.object "java/lang/Object"))⟩, 1, some k20c4⟩
def k20c5 : Code := ⟨3, 4, jdk_38_method_24_code, #[], #[]⟩
def k20m5 : Method := ⟨"add", "(Ljava/lang/Object;[Ljava/lang/Object;I)V", ⟨[(.object "java/lang/Object"), (.array (.object "java/lang/Object")), .int], none⟩, 2, some k20c5⟩
def k20c6 : Code := ⟨4, 2, jdk_38_method_25_code, #[], #[]⟩
def k20m6 : Method := ⟨"add", "(Ljava/lang/Object;)Z", ⟨[(.object "java/lang/Object")], some .boolean⟩, 1, some k20c6⟩
/-- java/util/ArrayList -/
def k20 : Class := { plain "java/util/ArrayList" (some 17) with
  interfaces := #[16, 18, 19, 2]
  cf := some (fileOf pool20 10 #[.nestMembers #[290, 276, 500, 502, 262, 267]] #[⟨1, 5, 6, #[]⟩, ⟨2, 71, 72, #[]⟩, ⟨2, 71, 47, #[]⟩, ⟨1, 363, 173, #[]⟩, ⟨1, 46, 47, #[]⟩, ⟨2, 133, 134, #[]⟩, ⟨1, 133, 96, #[]⟩] 33 2 #[148, 329, 331, 333] #[⟨26, 335, 336, #[]⟩, ⟨26, 340, 51, #[]⟩, ⟨26, 17, 14, #[]⟩, ⟨26, 41, 14, #[]⟩, ⟨128, 13, 14, #[]⟩, ⟨2, 50, 51, #[]⟩])
  fields := #[⟨"serialVersionUID", .long, 26, 0, 0⟩, ⟨"DEFAULT_CAPACITY", .int, 26, 1, 0⟩, ⟨"EMPTY_ELEMENTDATA", (.array (.object "java/lang/Object")), 26, 2, 0⟩, ⟨"DEFAULTCAPACITY_EMPTY_ELEMENTDATA", (.array (.object "java/lang/Object")), 26, 3, 0⟩, ⟨"elementData", (.array (.object "java/lang/Object")), 128, 1, 0⟩, ⟨"size", .int, 2, 2, 0⟩]
  methods := #[k20m0, k20m1, k20m2, k20m3, k20m4, k20m5, k20m6]
  instanceTypes := #[.int, (.array (.object "java/lang/Object")), .int]
  staticTypes := #[.long, .int, (.array (.object "java/lang/Object")), (.array (.object "java/lang/Object"))]
  resolved := Array.replicate 509 none
  statics := some 1 }

def pool21 : Array CpInfo := pool [(1, .class_ 2), pU "java/lang/Math", (1, .class_ 6), (1, u "java/lang/Object"), pU "<init>", pU "()V", (89, .class_ 100), (1, u "java/lang/Math$RandomNumberGeneratorHolder"), (71, u "negativeZeroFloatBits"), pU "J", (2, u "negativeZeroDoubleBits"), (21, u "max"), (2, u "min"), (43, u "$assertionsDisabled"), pU "Z", (88, u "(II)I"), (2, u "twoToTheDoubleScaleDown"), pU "D", (4, u "twoToTheDoubleScaleUp"), (9, u "E"), (3, u "PI"), (2, u "TAU"), (2, u "DEGREES_TO_RADIANS"), pU "RADIANS_TO_DEGREES"] 94

def k21m0 : Method := ⟨"<init>", "()V", ⟨[], none⟩, 2, none⟩
def k21c1 : Code := ⟨2, 2, jdk_29_method_65_code, #[], #[]⟩
def k21m1 : Method := ⟨"max", "(II)I", ⟨[.int, .int], some .int⟩, 9, some k21c1⟩
def k21c2 : Code := ⟨2, 2, jdk_29_method_69_code, #[], #[]⟩
def k21m2 : Method := ⟨"min", "(II)I", ⟨[.int, .int], some .int⟩, 9, some k21c2⟩
/-- java/lang/Math -/
def k21 : Class := { plain "java/lang/Math" (some 0) with
  accessFlags := 49
  cf := some (fileOf pool21 1 #[.nestMembers #[98]] #[⟨2, 7, 8, #[]⟩, ⟨9, 198, 335, #[]⟩, ⟨9, 201, 335, #[]⟩] 49 4 #[] #[⟨25, 354, 339, #[]⟩, ⟨25, 358, 339, #[]⟩, ⟨25, 361, 339, #[]⟩, ⟨26, 364, 339, #[]⟩, ⟨26, 365, 339, #[]⟩, ⟨26, 172, 173, #[]⟩, ⟨26, 176, 173, #[]⟩, ⟨8, 344, 339, #[]⟩, ⟨8, 338, 339, #[]⟩, ⟨4120, 245, 246, #[]⟩])
  fields := #[⟨"E", .double, 25, 0, 0⟩, ⟨"PI", .double, 25, 1, 0⟩, ⟨"TAU", .double, 25, 2, 0⟩, ⟨"DEGREES_TO_RADIANS", .double, 26, 3, 0⟩, ⟨"RADIANS_TO_DEGREES", .double, 26, 4, 0⟩, ⟨"negativeZeroFloatBits", .long, 26, 5, 0⟩, ⟨"negativeZeroDoubleBits", .long, 26, 6, 0⟩, ⟨"twoToTheDoubleScaleUp", .double, 8, 7, 0⟩, ⟨"twoToTheDoubleScaleDown", .double, 8, 8, 0⟩, ⟨"$assertionsDisabled", .boolean, 4120, 9, 0⟩]
  methods := #[k21m0, k21m1, k21m2]
  staticTypes := #[.double, .double, .double, .double, .double, .long, .long, .double, .double, .boolean]
  resolved := Array.replicate 460 none }

def pool22 : Array CpInfo := pool [(1, .methodref 2 3), pK 4, pN 5 6, pU "java/lang/Object", pU "<init>", pU "()V", pF 8 9, pK 10, pN 11 12, pU "com/example/nearmiss/nearmiss/Document", pU "id", pU "Ljava/lang/String;", pF 8 14, pN 15 16, pU "length", pU "I", (0, .interfaceMethodref 18 19), pK 20, pN 21 22, pU "java/util/List", pU "copyOf", pU "(Ljava/util/Collection;)Ljava/util/List;", pF 8 24, pN 25 26, pU "elements", pU "Ljava/util/List;", pM 8 28, pN 29 30, pU "subtreeEnds", pU "(Ljava/util/List;)[I", pF 8 32, pN 29 33, pU "[I", pM 8 35, pN 36 30, pU "placesByPath", pF 8 38, pN 36 33, (0, .interfaceMethodref 18 40), pN 41 42, pU "get", pU "(I)Ljava/lang/Object;", pK 44, pU "com/example/nearmiss/nearmiss/Element", (14, .methodref 43 60), pN 61 62, pU "path", pU "()Ljava/lang/String;", (7, .class_ 72), (1, u "java/lang/String"), (15, .methodref 70 89), pN 90 91, pU "hashCode", pU "()I", pM 8 93, pN 94 95, pU "firstSlot", pU "([II)I", (1, .methodref 8 98), pN 99 95, pU "nextSlot", (0, .interfaceMethodref 18 101), pN 102 91, pU "size", pM 104 105, pK 106, pN 107 108, pU "java/lang/Integer", pU "highestOneBit", pU "(I)I", (0, .integer 2654435769), pM 104 111, pN 112 108, pU "numberOfLeadingZeros", pM 43 114, pN 115 116, pU "isOnPathTo", pU "(Ljava/lang/String;)Z", pU "GOLDEN", (3, u "(Ljava/lang/String;ILjava/util/List;)V"), (5, u "root"), pU "()Lcom/example/nearmiss/nearmiss/Element;"] 26

def k22c0 : Code := ⟨2, 4, prog_2_method_1_code, #[], #[]⟩
def k22m0 : Method := ⟨"<init>", "(Ljava/lang/String;ILjava/util/List;)V", ⟨[(.object "java/lang/String"), .int, (.object "java/util/List")], none⟩, 0, some k22c0⟩
def k22c1 : Code := ⟨2, 1, prog_2_method_5_code, #[], #[]⟩
def k22m1 : Method := ⟨"root", "()Lcom/example/nearmiss/nearmiss/Element;", ⟨[], some (.object "com/example/nearmiss/nearmiss/Element")⟩, 0, some k22c1⟩
def k22c2 : Code := ⟨4, 5, prog_2_method_9_code, #[], #[]⟩
def k22m2 : Method := ⟨"placesByPath", "(Ljava/util/List;)[I", ⟨[(.object "java/util/List")], some (.array .int)⟩, 10, some k22c2⟩
def k22c3 : Code := ⟨3, 2, prog_2_method_10_code, #[], #[]⟩
def k22m3 : Method := ⟨"firstSlot", "([II)I", ⟨[(.array .int), .int], some .int⟩, 10, some k22c3⟩
def k22c4 : Code := ⟨3, 2, prog_2_method_11_code, #[], #[]⟩
def k22m4 : Method := ⟨"nextSlot", "([II)I", ⟨[(.array .int), .int], some .int⟩, 10, some k22c4⟩
def k22c5 : Code := ⟨4, 6, prog_2_method_12_code, #[], #[]⟩
def k22m5 : Method := ⟨"subtreeEnds", "(Ljava/util/List;)[I", ⟨[(.object "java/util/List")], some (.array .int)⟩, 10, some k22c5⟩
/-- com/example/nearmiss/nearmiss/Document -/
def k22 : Class := { plain "com/example/nearmiss/nearmiss/Document" (some 0) with
  accessFlags := 32
  cf := some (fileOf pool22 8 #[] #[⟨0, 5, 121, #[]⟩, ⟨0, 127, 128, #[]⟩, ⟨10, 36, 30, #[]⟩, ⟨10, 94, 95, #[]⟩, ⟨10, 99, 95, #[]⟩, ⟨10, 29, 30, #[]⟩] 32 2 #[] #[⟨26, 117, 16, #[]⟩, ⟨18, 11, 12, #[]⟩, ⟨18, 15, 16, #[]⟩, ⟨18, 25, 26, #[]⟩, ⟨18, 29, 33, #[]⟩, ⟨18, 36, 33, #[]⟩])
  fields := #[⟨"GOLDEN", .int, 26, 0, 0⟩, ⟨"id", (.object "java/lang/String"), 18, 0, 0⟩, ⟨"length", .int, 18, 1, 0⟩, ⟨"elements", (.object "java/util/List"), 18, 2, 0⟩, ⟨"subtreeEnds", (.array .int), 18, 3, 0⟩, ⟨"placesByPath", (.array .int), 18, 4, 0⟩]
  methods := #[k22m0, k22m1, k22m2, k22m3, k22m4, k22m5]
  instanceTypes := #[(.object "java/lang/String"), .int, (.object "java/util/List"), (.array .int), (.array .int)]
  staticTypes := #[.int]
  resolved := Array.replicate 155 none }

def pool23 : Array CpInfo := pool [(2, .class_ 4), (1, u "java/lang/Object"), pU "<init>", pU "()V", (3, .class_ 11), pU "java/util/ImmutableCollections$List12", pK 13, pU "java/util/ImmutableCollections$ListN", (3, u "Z"), pK 19, pU "java/util/List", (0, .interfaceMethodref 21 22), pK 23, pN 24 25, pU "java/util/Collection", pU "isEmpty", pU "()Z", (2, u "of"), (1, .interfaceMethodref 21 31), pN 32 33, pU "toArray", pU "()[Ljava/lang/Object;", (0, .interfaceMethodref 18 35), pN 28 36, pU "([Ljava/lang/Object;)Ljava/util/List;", pM 38 39, pK 40, pN 41 42, pU "java/util/Objects", pU "requireNonNull", pU "(Ljava/lang/Object;)Ljava/lang/Object;", pM 12 44, pN 5 45, pU "([Ljava/lang/Object;Z)V", (1, .class_ 49), (1, u "java/util/ImmutableCollections"), pU "$assertionsDisabled", (5, u "[Ljava/lang/Object;"), (5, u "EMPTY_LIST"), pU "Ljava/util/ImmutableCollections$ListN;", (8, u "EMPTY_LIST_NULLS"), (22, u "SALT32L"), pU "J", (2, u "REVERSE"), (6, u "archivedObjects"), (2, u "EMPTY"), pU "Ljava/lang/Object;", pK 112, pU "java/util/ImmutableCollections$SetN", (5, u "EMPTY_SET"), pU "Ljava/util/ImmutableCollections$SetN;", pK 121, pU "java/util/ImmutableCollections$MapN", (3, u "EMPTY_MAP"), pU "Ljava/util/ImmutableCollections$MapN;", (4, u "EXPAND_FACTOR"), pU "I", (9, u "listCopy"), pU "(Ljava/util/Collection;)Ljava/util/List;", (7, u "listFromArray"), (17, .class_ 170), pU "java/util/ImmutableCollections$MapN$MapNIterator", pK 172, pU "java/util/ImmutableCollections$MapN$1", pK 174, pU "java/util/ImmutableCollections$Map1", pK 176, pU "java/util/ImmutableCollections$AbstractImmutableMap", pK 178, pU "java/util/ImmutableCollections$SetN$SetNIterator", pK 180, pU "java/util/ImmutableCollections$Set12", pK 182, pU "java/util/ImmutableCollections$Set12$1", pK 184, pU "java/util/ImmutableCollections$AbstractImmutableSet", pK 186, pU "java/util/ImmutableCollections$SubList", pK 188, pU "java/util/ImmutableCollections$ListItr", pK 190, pU "java/util/ImmutableCollections$AbstractImmutableList", pK 192, pU "java/util/ImmutableCollections$AbstractImmutableCollection", pK 194, pU "java/util/ImmutableCollections$Access", pK 196, pU "java/util/ImmutableCollections$Access$1"] 16

def k23m0 : Method := ⟨"<init>", "()V", ⟨[], none⟩, 2, none⟩
def k23c1 : Code := ⟨1, 2, jdk_56_method_3_code, #[], #[]⟩
def k23m1 : Method := ⟨"listCopy", "(Ljava/util/Collection;)Ljava/util/List;", ⟨[(.object "java/util/Collection")], some (.object "java/util/List")⟩, 8, some k23c1⟩
def k23c2 : Code := ⟨4, 3, jdk_56_method_4_code, #[], #[]⟩
def k23m2 : Method := ⟨"listFromArray", "([Ljava/lang/Object;)Ljava/util/List;", ⟨[(.array (.object "java/lang/Object"))], some (.object "java/util/List")⟩, 136, some k23c2⟩
/-- java/util/ImmutableCollections -/
def k23 : Class := { plain "java/util/ImmutableCollections" (some 0) with
  accessFlags := 32
  cf := some (fileOf pool23 47 #[.nestMembers #[120, 169, 171, 173, 175, 111, 177, 179, 181, 183, 12, 10, 185, 187, 189, 191, 193, 195]] #[⟨2, 5, 6, #[]⟩, ⟨8, 142, 143, #[]⟩, ⟨136, 151, 36, #[]⟩] 32 2 #[] #[⟨26, 95, 96, #[]⟩, ⟨26, 99, 17, #[]⟩, ⟨10, 106, 56, #[]⟩, ⟨26, 109, 110, #[]⟩, ⟨24, 62, 63, #[]⟩, ⟨24, 72, 63, #[]⟩, ⟨24, 118, 119, #[]⟩, ⟨24, 125, 126, #[]⟩, ⟨24, 131, 132, #[]⟩, ⟨4120, 50, 17, #[]⟩])
  fields := #[⟨"SALT32L", .long, 26, 0, 0⟩, ⟨"REVERSE", .boolean, 26, 1, 0⟩, ⟨"archivedObjects", (.array (.object "java/lang/Object")), 10, 2, 0⟩, ⟨"EMPTY", (.object "java/lang/Object"), 26, 3, 0⟩, ⟨"EMPTY_LIST", (.object "java/util/ImmutableCollections$ListN"), 24, 4, 0⟩, ⟨"EMPTY_LIST_NULLS", (.object "java/util/ImmutableCollections$ListN"), 24, 5, 0⟩, ⟨"EMPTY_SET", (.object "java/util/ImmutableCollections$SetN"), 24, 6, 0⟩, ⟨"EMPTY_MAP", (.object "java/util/ImmutableCollections$MapN"), 24, 7, 0⟩, ⟨"EXPAND_FACTOR", .int, 24, 8, 0⟩, ⟨"$assertionsDisabled", .boolean, 4120, 9, 0⟩]
  methods := #[k23m0, k23m1, k23m2]
  staticTypes := #[.long, .boolean, (.array (.object "java/lang/Object")), (.object "java/lang/Object"), (.object "java/util/ImmutableCollections$ListN"), (.object "java/util/ImmutableCollections$ListN"), (.object "java/util/ImmutableCollections$SetN"), (.object "java/util/ImmutableCollections$MapN"), .int, .boolean]
  resolved := Array.replicate 213 none
  statics := some 2 }

def pool24 : Array CpInfo := pool [(1, .methodref 2 3), pK 4, pN 5 6, pU "java/util/AbstractCollection", pU "<init>", pU "()V", (1, .class_ 10), (1, u "java/util/ImmutableCollections"), (2, .class_ 14), pU "java/util/ImmutableCollections$AbstractImmutableCollection"] 41

def k24c0 : Code := ⟨1, 1, jdk_47_method_1_code, #[], #[]⟩
def k24m0 : Method := ⟨"<init>", "()V", ⟨[], none⟩, 0, some k24c0⟩
/-- java/util/ImmutableCollections$AbstractImmutableCollection -/
def k24 : Class := { plain "java/util/ImmutableCollections$AbstractImmutableCollection" (some 14) with
  accessFlags := 1056
  cf := some (fileOf pool24 13 #[.nestHost 8] #[⟨0, 5, 6, #[]⟩] 1056 2 #[] #[])
  methods := #[k24m0]
  resolved := Array.replicate 56 none }

def pool25 : Array CpInfo := pool [(1, .methodref 2 3), pK 4, pN 5 6, pU "java/util/ImmutableCollections$AbstractImmutableCollection", pU "<init>", pU "()V", (1, .class_ 10), (1, u "java/util/ImmutableCollections"), (3, .class_ 16), (1, u "java/util/ImmutableCollections$AbstractImmutableList"), (60, .class_ 78), pU "java/util/List", (45, .class_ 125), pU "java/util/RandomAccess"] 70

def k25c0 : Code := ⟨1, 1, jdk_46_method_1_code, #[], #[]⟩
def k25m0 : Method := ⟨"<init>", "()V", ⟨[], none⟩, 0, some k25c0⟩
/-- java/util/ImmutableCollections$AbstractImmutableList -/
def k25 : Class := { plain "java/util/ImmutableCollections$AbstractImmutableList" (some 24) with
  accessFlags := 1056
  interfaces := #[16, 18]
  cf := some (fileOf pool25 14 #[.nestHost 8] #[⟨0, 5, 6, #[]⟩] 1056 2 #[77, 124] #[])
  methods := #[k25m0]
  resolved := Array.replicate 196 none }

def pool26 : Array CpInfo := pool [(1, .methodref 2 3), pK 4, pN 5 6, pU "java/util/ImmutableCollections$AbstractImmutableList", pU "<init>", pU "()V", pM 8 9, pK 10, pN 11 12, pU "java/util/Objects", pU "requireNonNull", pU "(Ljava/lang/Object;)Ljava/lang/Object;", pF 14 15, pK 16, pN 17 18, pU "java/util/ImmutableCollections$List12", pU "e0", pU "Ljava/lang/Object;", pF 20 21, pK 22, pN 23 18, pU "java/util/ImmutableCollections", pU "EMPTY", pF 14 25, pN 26 18, pU "e1", (24, u "size"), pU "()I", (17, .class_ 71), pU "java/io/Serializable", (4, u "(Ljava/lang/Object;)V"), (8, u "(Ljava/lang/Object;Ljava/lang/Object;)V"), (4, u "get"), pU "(I)Ljava/lang/Object;"] 33

def k26c0 : Code := ⟨2, 2, jdk_44_method_1_code, #[], #[]⟩
def k26m0 : Method := ⟨"<init>", "(Ljava/lang/Object;)V", ⟨[(.object "java/lang/Object")], none⟩, 0, some k26c0⟩
def k26c1 : Code := ⟨2, 3, jdk_44_method_2_code, #[], #[]⟩
def k26m1 : Method := ⟨"<init>", "(Ljava/lang/Object;Ljava/lang/Object;)V", ⟨[(.object "java/lang/Object"), (.object "java/lang/Object")], none⟩, 0, some k26c1⟩
def k26c2 : Code := ⟨2, 1, jdk_44_method_3_code, #[], #[]⟩
def k26m2 : Method := ⟨"size", "()I", ⟨[], some .int⟩, 1, some k26c2⟩
def k26c3 : Code := ⟨2, 2, jdk_44_method_5_code, #[], #[]⟩
def k26m3 : Method := ⟨"get", "(I)Ljava/lang/Object;", ⟨[.int], some (.object "java/lang/Object")⟩, 1, some k26c3⟩
/-- java/util/ImmutableCollections$List12 -/
def k26 : Class := { plain "java/util/ImmutableCollections$List12" (some 25) with
  accessFlags := 48
  interfaces := #[2]
  cf := some (fileOf pool26 14 #[.nestHost 20] #[⟨0, 5, 76, #[]⟩, ⟨0, 5, 85, #[]⟩, ⟨1, 51, 52, #[]⟩, ⟨1, 90, 91, #[]⟩] 48 2 #[70] #[⟨18, 17, 18, #[]⟩, ⟨18, 26, 18, #[]⟩])
  fields := #[⟨"e0", (.object "java/lang/Object"), 18, 0, 0⟩, ⟨"e1", (.object "java/lang/Object"), 18, 1, 0⟩]
  methods := #[k26m0, k26m1, k26m2, k26m3]
  instanceTypes := #[(.object "java/lang/Object"), (.object "java/lang/Object")]
  resolved := Array.replicate 125 none }

def pool27 : Array CpInfo := pool [(1, .methodref 2 3), pK 4, pN 5 6, pU "java/util/ImmutableCollections$AbstractImmutableList", pU "<init>", pU "()V", pF 8 9, pK 10, pN 11 12, pU "java/util/ImmutableCollections$ListN", pU "elements", pU "[Ljava/lang/Object;", pF 8 14, pN 15 16, pU "allowNulls", pU "Z", (42, .class_ 60), pU "java/io/Serializable", (4, u "([Ljava/lang/Object;Z)V"), (11, u "size"), pU "()I", pU "get", pU "(I)Ljava/lang/Object;", (33, .class_ 115), pU "java/util/ImmutableCollections"] 3

def k27c0 : Code := ⟨2, 3, jdk_45_method_1_code, #[], #[]⟩
def k27m0 : Method := ⟨"<init>", "([Ljava/lang/Object;Z)V", ⟨[(.array (.object "java/lang/Object")), .boolean], none⟩, 2, some k27c0⟩
def k27c1 : Code := ⟨1, 1, jdk_45_method_3_code, #[], #[]⟩
def k27m1 : Method := ⟨"size", "()I", ⟨[], some .int⟩, 1, some k27c1⟩
def k27c2 : Code := ⟨2, 2, jdk_45_method_4_code, #[], #[]⟩
def k27m2 : Method := ⟨"get", "(I)Ljava/lang/Object;", ⟨[.int], some (.object "java/lang/Object")⟩, 1, some k27c2⟩
/-- java/util/ImmutableCollections$ListN -/
def k27 : Class := { plain "java/util/ImmutableCollections$ListN" (some 25) with
  accessFlags := 48
  interfaces := #[2]
  cf := some (fileOf pool27 8 #[.nestHost 114] #[⟨2, 5, 65, #[]⟩, ⟨1, 77, 78, #[]⟩, ⟨1, 79, 80, #[]⟩] 48 2 #[59] #[⟨18, 11, 12, #[]⟩, ⟨18, 15, 16, #[]⟩])
  fields := #[⟨"elements", (.array (.object "java/lang/Object")), 18, 0, 0⟩, ⟨"allowNulls", .boolean, 18, 1, 0⟩]
  methods := #[k27m0, k27m1, k27m2]
  instanceTypes := #[(.array (.object "java/lang/Object")), .boolean]
  resolved := Array.replicate 119 none }

def pool28 : Array CpInfo := pool [(2, .class_ 4), (1, u "java/lang/Object"), pU "<init>", pU "()V", (7, .class_ 16), (1, u "java/util/Arrays"), (57, .class_ 76), (1, u "java/util/Arrays$NaturalOrder"), (9, .methodref 2 87), pN 88 89, pU "getClass", pU "()Ljava/lang/Class;", (20, .class_ 111), pU "[Ljava/lang/Object;", (1, .class_ 115), (1, u "java/util/Arrays$LegacyMergeSort"), (1, u "Z"), (32, .methodref 151 152), pK 153, pN 154 155, pU "java/lang/System", pU "arraycopy", pU "(Ljava/lang/Object;ILjava/lang/Object;II)V", (144, .methodref 14 301), pN 302 303, pU "copyOf", pU "([Ljava/lang/Object;ILjava/lang/Class;)[Ljava/lang/Object;", pM 305 306, pK 307, pN 308 309, pU "java/lang/Math", pU "min", pU "(II)I", (65, .class_ 376), pU "java/util/Arrays$ArrayList", (68, u "$assertionsDisabled"), (269, u "MIN_ARRAY_SORT_GRAN"), pU "I", (2, u "INSERTIONSORT_THRESHOLD"), (140, u "([Ljava/lang/Object;I)[Ljava/lang/Object;"), (114, .class_ 976), pU "java/util/Arrays$ArrayItr"] 52

def k28m0 : Method := ⟨"<init>", "()V", ⟨[], none⟩, 2, none⟩
def k28c1 : Code := ⟨3, 2, jdk_65_method_119_code, #[], #[]⟩
def k28m1 : Method := ⟨"copyOf", "([Ljava/lang/Object;I)[Ljava/lang/Object;", ⟨[(.array (.object "java/lang/Object")), .int], some (.array (.object "java/lang/Object"))⟩, 9, some k28c1⟩
def k28c2 : Code := ⟨6, 4, jdk_65_method_120_code, #[], #[]⟩
def k28m2 : Method := ⟨"copyOf", "([Ljava/lang/Object;ILjava/lang/Class;)[Ljava/lang/Object;", ⟨[(.array (.object "java/lang/Object")), .int, (.object "java/lang/Class")], some (.array (.object "java/lang/Object"))⟩, 9, some k28c2⟩
/-- java/util/Arrays -/
def k28 : Class := { plain "java/util/Arrays" (some 0) with
  accessFlags := 49
  cf := some (fileOf pool28 14 #[.nestMembers #[975, 375, 113, 74]] #[⟨2, 5, 6, #[]⟩, ⟨9, 302, 860, #[]⟩, ⟨9, 302, 303, #[]⟩] 49 2 #[] #[⟨26, 715, 716, #[]⟩, ⟨26, 719, 716, #[]⟩, ⟨4120, 445, 117, #[]⟩])
  fields := #[⟨"MIN_ARRAY_SORT_GRAN", .int, 26, 0, 0⟩, ⟨"INSERTIONSORT_THRESHOLD", .int, 26, 1, 0⟩, ⟨"$assertionsDisabled", .boolean, 4120, 2, 0⟩]
  methods := #[k28m0, k28m1, k28m2]
  staticTypes := #[.int, .int, .boolean]
  resolved := Array.replicate 1029 none }

def pool29 : Array CpInfo := pool [(2, .class_ 4), (1, u "java/lang/Object"), pU "<init>", pU "()V", (1, .class_ 10), (1, u "java/lang/System"), pU "allowSecurityManager", pU "I", (16, u "cons"), pU "Ljava/io/Console;", (77, .class_ 110), (1, u "java/lang/System$CallersHolder"), (43, u "initialErrStream"), pU "Ljava/io/PrintStream;", (19, u "security"), pU "Ljava/lang/SecurityManager;", (31, .class_ 209), pU "java/lang/System$1", (7, u "props"), pU "Ljava/util/Properties;", (2, u "lineSeparator"), pU "Ljava/lang/String;", (96, .class_ 321), (1, u "java/lang/System$LoggerFinder"), (5, .class_ 328), pU "java/lang/System$Logger", (67, u "err"), (2, u "out"), (91, u "notSupportedJnuEncoding"), (15, u "in"), (17, u "initialIn"), pU "Ljava/io/InputStream;", (35, u "bootLayer"), pU "Ljava/lang/ModuleLayer;", (99, .class_ 664), pU "java/lang/System$2", (9, u "NEVER"), (2, u "MAYBE"), (49, u "arraycopy"), pU "(Ljava/lang/Object;ILjava/lang/Object;II)V", (72, .class_ 802), pU "java/lang/System$Logger$Level"] 31

def k29m0 : Method := ⟨"<init>", "()V", ⟨[], none⟩, 2, none⟩
def k29m1 : Method := ⟨"arraycopy", "(Ljava/lang/Object;ILjava/lang/Object;II)V", ⟨[(.object "java/lang/Object"), .int, (.object "java/lang/Object"), .int, .int], none⟩, 265, none⟩
/-- java/lang/System -/
def k29 : Class := { plain "java/lang/System" (some 0) with
  accessFlags := 49
  cf := some (fileOf pool29 8 #[.nestMembers #[319, 327, 801, 108, 663, 208]] #[⟨2, 5, 6, #[]⟩, ⟨265, 727, 728, #[]⟩] 49 2 #[] #[⟨25, 507, 526, #[]⟩, ⟨25, 399, 155, #[]⟩, ⟨25, 396, 155, #[]⟩, ⟨10, 525, 526, #[]⟩, ⟨26, 674, 12, #[]⟩, ⟨26, 677, 12, #[]⟩, ⟨10, 11, 12, #[]⟩, ⟨74, 175, 176, #[]⟩, ⟨10, 491, 222, #[]⟩, ⟨74, 29, 30, #[]⟩, ⟨74, 154, 155, #[]⟩, ⟨10, 217, 218, #[]⟩, ⟨10, 221, 222, #[]⟩, ⟨8, 562, 563, #[]⟩])
  fields := #[⟨"in", (.object "java/io/InputStream"), 25, 0, 0⟩, ⟨"out", (.object "java/io/PrintStream"), 25, 1, 0⟩, ⟨"err", (.object "java/io/PrintStream"), 25, 2, 0⟩, ⟨"initialIn", (.object "java/io/InputStream"), 10, 3, 0⟩, ⟨"NEVER", .int, 26, 4, 0⟩, ⟨"MAYBE", .int, 26, 5, 0⟩, ⟨"allowSecurityManager", .int, 10, 6, 0⟩, ⟨"security", (.object "java/lang/SecurityManager"), 74, 7, 0⟩, ⟨"notSupportedJnuEncoding", (.object "java/lang/String"), 10, 8, 0⟩, ⟨"cons", (.object "java/io/Console"), 74, 9, 0⟩, ⟨"initialErrStream", (.object "java/io/PrintStream"), 74, 10, 0⟩, ⟨"props", (.object "java/util/Properties"), 10, 11, 0⟩, ⟨"lineSeparator", (.object "java/lang/String"), 10, 12, 0⟩, ⟨"bootLayer", (.object "java/lang/ModuleLayer"), 8, 13, 0⟩]
  methods := #[k29m0, k29m1]
  staticTypes := #[(.object "java/io/InputStream"), (.object "java/io/PrintStream"), (.object "java/io/PrintStream"), (.object "java/io/InputStream"), .int, .int, .int, (.object "java/lang/SecurityManager"), (.object "java/lang/String"), (.object "java/io/Console"), (.object "java/io/PrintStream"), (.object "java/util/Properties"), (.object "java/lang/String"), (.object "java/lang/ModuleLayer")]
  resolved := Array.replicate 834 none }

def pool30 : Array CpInfo := pool [(2, .class_ 4), (1, u "java/lang/Object"), pU "<init>", pU "()V", (35, .class_ 44), (1, u "java/util/Objects"), pU "requireNonNull", pU "(Ljava/lang/Object;)Ljava/lang/Object;"] 137

def k30m0 : Method := ⟨"<init>", "()V", ⟨[], none⟩, 2, none⟩
def k30c1 : Code := ⟨2, 1, jdk_31_method_10_code, #[], #[]⟩
def k30m1 : Method := ⟨"requireNonNull", "(Ljava/lang/Object;)Ljava/lang/Object;", ⟨[(.object "java/lang/Object")], some (.object "java/lang/Object")⟩, 9, some k30c1⟩
/-- java/util/Objects -/
def k30 : Class := { plain "java/util/Objects" (some 0) with
  accessFlags := 49
  cf := some (fileOf pool30 42 #[] #[⟨2, 5, 6, #[]⟩, ⟨9, 45, 46, #[]⟩] 49 2 #[] #[])
  methods := #[k30m0, k30m1]
  resolved := Array.replicate 184 none }

def pool31 : Array CpInfo := pool [(2, .class_ 4), (1, u "java/lang/Object"), pU "<init>", pU "()V", (1, .class_ 10), (1, u "java/lang/Number"), (2, .class_ 14), pU "java/io/Serializable", pU "serialVersionUID", pU "J"] 20

def k31m0 : Method := ⟨"<init>", "()V", ⟨[], none⟩, 1, none⟩
/-- java/lang/Number -/
def k31 : Class := { plain "java/lang/Number" (some 0) with
  accessFlags := 1057
  interfaces := #[2]
  cf := some (fileOf pool31 8 #[] #[⟨1, 5, 6, #[]⟩] 1057 2 #[13] #[⟨26, 15, 16, #[]⟩])
  fields := #[⟨"serialVersionUID", .long, 26, 0, 0⟩]
  methods := #[k31m0]
  staticTypes := #[.long]
  resolved := Array.replicate 37 none }

def pool32 : Array CpInfo := pool [(1, .class_ 2), pU "java/lang/Integer", (16, u "digits"), pU "[C", (30, .methodref 1 52), pN 53 54, pU "numberOfLeadingZeros", pU "(I)I", (30, u "DigitOnes"), pU "[B", (2, u "DigitTens"), (37, .integer 2147483648), (61, .class_ 190), pU "java/lang/Integer$IntegerCache", (3, u "I"), (8, .class_ 204), pU "java/lang/Number", (2, u "value"), (56, .integer 65536), (37, u "TYPE"), pU "Ljava/lang/Class;", pK 305, pU "java/lang/Comparable", pK 307, pU "java/lang/constant/Constable", pK 309, pU "java/lang/constant/ConstantDesc", pU "MIN_VALUE", (1, u "MAX_VALUE"), (3, u "SIZE"), (1, u "BYTES"), (1, u "serialVersionUID"), pU "J", (81, u "highestOneBit")] 49

def k32c0 : Code := ⟨3, 1, jdk_33_method_45_code, #[], #[]⟩
def k32m0 : Method := ⟨"highestOneBit", "(I)I", ⟨[.int], some .int⟩, 9, some k32c0⟩
def k32c1 : Code := ⟨3, 2, jdk_33_method_47_code, #[], #[]⟩
def k32m1 : Method := ⟨"numberOfLeadingZeros", "(I)I", ⟨[.int], some .int⟩, 9, some k32c1⟩
/-- java/lang/Integer -/
def k32 : Class := { plain "java/lang/Integer" (some 31) with
  accessFlags := 49
  interfaces := #[3, 5, 6]
  cf := some (fileOf pool32 1 #[.nestMembers #[189]] #[⟨9, 403, 54, #[]⟩, ⟨9, 53, 54, #[]⟩] 49 203 #[304, 306, 308] #[⟨25, 310, 194, #[]⟩, ⟨25, 312, 194, #[]⟩, ⟨25, 302, 303, #[]⟩, ⟨24, 19, 20, #[]⟩, ⟨24, 89, 86, #[]⟩, ⟨24, 85, 86, #[]⟩, ⟨18, 207, 194, #[]⟩, ⟨25, 316, 194, #[]⟩, ⟨25, 318, 194, #[]⟩, ⟨26, 320, 321, #[]⟩])
  fields := #[⟨"MIN_VALUE", .int, 25, 0, 0⟩, ⟨"MAX_VALUE", .int, 25, 1, 0⟩, ⟨"TYPE", (.object "java/lang/Class"), 25, 2, 0⟩, ⟨"digits", (.array .char), 24, 3, 0⟩, ⟨"DigitTens", (.array .byte), 24, 4, 0⟩, ⟨"DigitOnes", (.array .byte), 24, 5, 0⟩, ⟨"value", .int, 18, 0, 0⟩, ⟨"SIZE", .int, 25, 6, 0⟩, ⟨"BYTES", .int, 25, 7, 0⟩, ⟨"serialVersionUID", .long, 26, 8, 0⟩]
  methods := #[k32m0, k32m1]
  instanceTypes := #[.int]
  staticTypes := #[.int, .int, (.object "java/lang/Class"), (.array .char), (.array .byte), (.array .byte), .int, .int, .long]
  resolved := Array.replicate 453 none }

def pool33 : Array CpInfo := pool [(9, u "<init>"), (6, .class_ 18), (1, u "java/lang/Object"), pU "()V", (1, .class_ 23), (1, u "jdk/internal/util/ArraysSupport"), pU "LOG2_ARRAY_LONG_INDEX_SCALE", pU "I", (2, u "U"), pU "Ljdk/internal/misc/Unsafe;", (8, u "BIG_ENDIAN"), pU "Z", (8, u "LOG2_BYTE_BIT_SIZE"), (4, u "LOG2_ARRAY_INT_INDEX_SCALE"), (54, u "JLA"), pU "Ljdk/internal/access/JavaLangAccess;", (11, u "LOG2_ARRAY_BOOLEAN_INDEX_SCALE"), (9, u "LOG2_ARRAY_BYTE_INDEX_SCALE"), (5, u "LOG2_ARRAY_CHAR_INDEX_SCALE"), (5, u "LOG2_ARRAY_SHORT_INDEX_SCALE"), (5, u "mismatch"), (12, u "LOG2_ARRAY_FLOAT_INDEX_SCALE"), (24, u "LOG2_ARRAY_DOUBLE_INDEX_SCALE"), (89, u "T_BOOLEAN"), (2, u "T_CHAR"), (1, u "T_FLOAT"), (1, u "T_DOUBLE"), (1, u "T_BYTE"), (1, u "T_SHORT"), (1, u "T_INT"), (1, u "T_LONG"), (1, u "SOFT_MAX_ARRAY_LENGTH"), (42, u "([BI[BII)I")] 40

def k33m0 : Method := ⟨"<init>", "()V", ⟨[], none⟩, 2, none⟩
def k33c1 : Code := ⟨8, 8, jdk_48_method_14_code, #[], #[]⟩
def k33m1 : Method := ⟨"mismatch", "([BI[BII)I", ⟨[(.array .byte), .int, (.array .byte), .int, .int], some .int⟩, 9, some k33c1⟩
/-- jdk/internal/util/ArraysSupport -/
def k33 : Class := { plain "jdk/internal/util/ArraysSupport" (some 0) with
  cf := some (fileOf pool33 21 #[] #[⟨2, 9, 19, #[]⟩, ⟨9, 149, 337, #[]⟩] 33 16 #[] #[⟨24, 28, 29, #[]⟩, ⟨26, 38, 39, #[]⟩, ⟨25, 121, 25, #[]⟩, ⟨25, 131, 25, #[]⟩, ⟨25, 137, 25, #[]⟩, ⟨25, 143, 25, #[]⟩, ⟨25, 53, 25, #[]⟩, ⟨25, 24, 25, #[]⟩, ⟨25, 162, 25, #[]⟩, ⟨25, 187, 25, #[]⟩, ⟨26, 48, 25, #[]⟩, ⟨25, 277, 25, #[]⟩, ⟨25, 280, 25, #[]⟩, ⟨25, 282, 25, #[]⟩, ⟨25, 284, 25, #[]⟩, ⟨25, 286, 25, #[]⟩, ⟨25, 288, 25, #[]⟩, ⟨25, 290, 25, #[]⟩, ⟨25, 292, 25, #[]⟩, ⟨26, 108, 109, #[]⟩, ⟨25, 294, 25, #[]⟩])
  fields := #[⟨"U", (.object "jdk/internal/misc/Unsafe"), 24, 0, 0⟩, ⟨"BIG_ENDIAN", .boolean, 26, 1, 0⟩, ⟨"LOG2_ARRAY_BOOLEAN_INDEX_SCALE", .int, 25, 2, 0⟩, ⟨"LOG2_ARRAY_BYTE_INDEX_SCALE", .int, 25, 3, 0⟩, ⟨"LOG2_ARRAY_CHAR_INDEX_SCALE", .int, 25, 4, 0⟩, ⟨"LOG2_ARRAY_SHORT_INDEX_SCALE", .int, 25, 5, 0⟩, ⟨"LOG2_ARRAY_INT_INDEX_SCALE", .int, 25, 6, 0⟩, ⟨"LOG2_ARRAY_LONG_INDEX_SCALE", .int, 25, 7, 0⟩, ⟨"LOG2_ARRAY_FLOAT_INDEX_SCALE", .int, 25, 8, 0⟩, ⟨"LOG2_ARRAY_DOUBLE_INDEX_SCALE", .int, 25, 9, 0⟩, ⟨"LOG2_BYTE_BIT_SIZE", .int, 26, 10, 0⟩, ⟨"T_BOOLEAN", .int, 25, 11, 0⟩, ⟨"T_CHAR", .int, 25, 12, 0⟩, ⟨"T_FLOAT", .int, 25, 13, 0⟩, ⟨"T_DOUBLE", .int, 25, 14, 0⟩, ⟨"T_BYTE", .int, 25, 15, 0⟩, ⟨"T_SHORT", .int, 25, 16, 0⟩, ⟨"T_INT", .int, 25, 17, 0⟩, ⟨"T_LONG", .int, 25, 18, 0⟩, ⟨"JLA", (.object "jdk/internal/access/JavaLangAccess"), 26, 19, 0⟩, ⟨"SOFT_MAX_ARRAY_LENGTH", .int, 25, 20, 0⟩]
  methods := #[k33m0, k33m1]
  staticTypes := #[(.object "jdk/internal/misc/Unsafe"), .boolean, .int, .int, .int, .int, .int, .int, .int, .int, .int, .int, .int, .int, .int, .int, .int, .int, .int, (.object "jdk/internal/access/JavaLangAccess"), .int]
  resolved := Array.replicate 378 none }

def pool34 : Array CpInfo := pool [(2, .class_ 4), (1, u "java/lang/Object"), pU "<init>", pU "()V", (17, .class_ 26), (1, u "jdk/internal/util/Preconditions"), (28, .class_ 56), pU "jdk/internal/util/Preconditions$4", (57, .class_ 115), pU "jdk/internal/util/Preconditions$1", (7, u "SIOOBE_FORMATTER"), pU "Ljava/util/function/BiFunction;", pK 126, pU "jdk/internal/util/Preconditions$2", (3, u "AIOOBE_FORMATTER"), pK 132, pU "jdk/internal/util/Preconditions$3", (3, u "IOOBE_FORMATTER")] 57

def k34m0 : Method := ⟨"<init>", "()V", ⟨[], none⟩, 1, none⟩
/-- jdk/internal/util/Preconditions -/
def k34 : Class := { plain "jdk/internal/util/Preconditions" (some 0) with
  cf := some (fileOf pool34 24 #[.nestMembers #[55, 131, 125, 114]] #[⟨1, 5, 6, #[]⟩] 33 2 #[] #[⟨25, 123, 124, #[]⟩, ⟨25, 130, 124, #[]⟩, ⟨25, 136, 124, #[]⟩])
  fields := #[⟨"SIOOBE_FORMATTER", (.object "java/util/function/BiFunction"), 25, 0, 0⟩, ⟨"AIOOBE_FORMATTER", (.object "java/util/function/BiFunction"), 25, 1, 0⟩, ⟨"IOOBE_FORMATTER", (.object "java/util/function/BiFunction"), 25, 2, 0⟩]
  methods := #[k34m0]
  staticTypes := #[(.object "java/util/function/BiFunction"), (.object "java/util/function/BiFunction"), (.object "java/util/function/BiFunction")]
  resolved := Array.replicate 194 none
  statics := some 3 }

def pool35 : Array CpInfo := pool [(1, u "java/lang/Class"), pK 1, pU "java/lang/Object", pK 3] 0

/-- java/lang/Class -/
def k35 : Class := { plain "java/lang/Class" (some 0) with
  accessFlags := 49
  cf := some (fileOf pool35 2 #[] #[] 49 4 #[] #[])
  resolved := Array.replicate 5 none }

/-- the primitive byte -/
def k36 : Class := { plain "byte" none with kind := .primitive 'B', accessFlags := 0x411 }
/-- [B -/
def k37 : Class := { plain "[B" (some 0) with kind := .array 36 .byte, interfaces := #[19, 2], accessFlags := 1041 }

/-- the primitive int -/
def k38 : Class := { plain "int" none with kind := .primitive 'I', accessFlags := 0x411 }
/-- [I -/
def k39 : Class := { plain "[I" (some 0) with kind := .array 38 .int, interfaces := #[19, 2], accessFlags := 1041 }

/-- [Ljava/lang/Object; -/
def k40 : Class := { plain "[Ljava/lang/Object;" (some 0) with kind := .array 0 (.object "java/lang/Object"), interfaces := #[19, 2], accessFlags := 1041, mirror := some 4 }

def heap : Heap := #[{ cls := 7, slots := #[.long 0, .int 1, .null, .int 0, .null, .int 0, .int 0], vm := .statics 7 },
  { cls := 20, slots := #[.long 0, .int 0, .ref 5, .ref 6], vm := .statics 20 },
  { cls := 23, slots := #[.long 0, .int 0, .null, .ref 7, .ref 8, .null, .null, .null, .int 0, .int 1], vm := .statics 23 },
  { cls := 34, slots := #[.null, .null, .null], vm := .statics 34 },
  { cls := 35, slots := #[], vm := .mirror 40 },
  { cls := 40, slots := #[], vm := .none },
  { cls := 40, slots := #[], vm := .none },
  { cls := 0, slots := #[], vm := .none },
  { cls := 27, slots := #[.null, .int 0], vm := .none }]
def classes : Array Class := #[k0, k1, k2, k3, k4, k5, k6, k7, k8, k9, k10, k11, k12, k13, k14, k15, k16, k17, k18, k19, k20, k21, k22, k23, k24, k25, k26, k27, k28, k29, k30, k31, k32, k33, k34, k35, k36, k37, k38, k39, k40]
def interned : List (Array UInt16 × Addr) := []
def slotsUsed : Nat := 26
def theMethod : MethodId := ⟨1, 1⟩
def args0 : Array Value := #[.int 65, .int 3, .int 4, .int 66, .int 67, .int 2]
def aboutOver (below : List Frame) : State where
  vm := { classes := classes, interned := interned.toArray }
  heap := heap
  slotsUsed := slotsUsed
  threads := #[{ frames := .invoking theMethod args0 :: below }]
def below0 : List Frame := [.native { method := ⟨0, 0⟩, args := #[] }]
def about1 : State := aboutOver below0
def p0 : Program := .bare "" "" ""
def e0 : Env := launch0.env 0 0 0
theorem w_frames : about1.frames = Frame.invoking theMethod args0 :: below0 := rfl
theorem w_args : argsFit about1.vm theMethod args0 = true := by decide +kernel
theorem w_heap : heapFits about1 = true := by decide +kernel
theorem w_runnable : about1.curStatus? = some .runnable := by decide +kernel
theorem w_alone : about1.alone = true := by decide +kernel
theorem w_named : about1.methodNamed? x = some theMethod := by decide +kernel
theorem w_hears : about1.hears theMethod below0 = true := by decide +kernel
theorem w_ripe : about1.ripe theMethod args0 below0 = true := by decide +kernel
theorem w_running : about1.status = .running := rfl
theorem w_room : about1.hasRoom e0.platform room_1 = true :=
  launch0.hasRoom_least _ room_1 (by decide +kernel) (by decide +kernel) (by decide +kernel) (by decide +kernel) (by decide +kernel) (by decide +kernel)
theorem allAtoms_all (ts : List Jvm.Cond) (a : Array Jvm.Value) (st : Jvm.State) : (allAtoms ts).before a st = ts.all (fun c => c.before a st) := by
  induction ts with
  | nil => rfl
  | cons c t ih =>
    show (Jvm.Cond.and c (allAtoms t)).before a st = _
    rw [Jvm.Cond.before_and, ih, List.all_cons]
def words1 : List Jvm.Cond := Jvm.Cond.code x code maxLocals ret :: tables_1
/-- a 'code' word, met by the world's own term for the bytes: nothing is compared byte by byte -/
theorem code_word {y : MethodName} {bytes : ByteArray} {mx : Nat} {rt : Option FieldType} {a : Array Value} {s : State} {m : MethodId} {meth : Method} {c : Code} (h1 : s.methodNamed? y = some m) (h2 : s.vm.method? m = some meth) (h3 : meth.code = some c) (h4 : c.code = bytes)
    (h5 : (c.maxLocals == mx && c.exceptionTable.isEmpty && decide (c.maxStack ≤ mostOperands) && decide (meth.sig.returnType = rt) && !meth.locks && decide (parseMethodDescriptor y.desc = some meth.sig)) = true) : (Jvm.Cond.code y bytes mx rt).before a s = true := by
  simp only [Bool.and_eq_true, beq_iff_eq, Bool.not_eq_true', decide_eq_true_eq] at h5
  obtain ⟨⟨⟨⟨⟨g1, g2⟩, g3⟩, g4⟩, g5⟩, g6⟩ := h5
  simp [Cond.before, Cond.holds, Cond.value, h1, h2, h3, h4, g1, g2, g3, g4, g5, g6]
def isCode : Jvm.Cond → Bool
  | .code _ _ _ _ => true
  | _ => false
theorem all_split {L : List Jvm.Cond} {P : Jvm.Cond → Bool} (h1 : L.all (fun c => isCode c || P c) = true) (h2 : ∀ c ∈ L.filter isCode, P c = true) : L.all P = true := by
  refine List.all_eq_true.mpr fun c hc => ?_
  have h := List.all_eq_true.mp h1 c hc
  rcases Bool.eq_false_or_eq_true (isCode c) with hi | hi
  · exact h2 c (List.mem_filter.mpr ⟨hc, hi⟩)
  · simpa [hi] using h
abbrev cW0 : Jvm.Cond := Jvm.Cond.code x code maxLocals ret
abbrev cW1 : Jvm.Cond := Jvm.Cond.code ⟨"java/lang/String", "valueOf", "(C)Ljava/lang/String;"⟩ jdk_42_method_139_code 1 (some (.object "java/lang/String"))
abbrev cW2 : Jvm.Cond := Jvm.Cond.code ⟨"java/lang/StringLatin1", "canEncode", "(C)Z"⟩ jdk_43_method_3_code 1 (some .boolean)
abbrev cW3 : Jvm.Cond := Jvm.Cond.code ⟨"java/lang/StringLatin1", "toBytes", "(C)[B"⟩ jdk_43_method_46_code 1 (some (.array .byte))
abbrev cW4 : Jvm.Cond := Jvm.Cond.code ⟨"java/lang/String", "<init>", "([BB)V"⟩ jdk_42_method_151_code 3 none
abbrev cW5 : Jvm.Cond := Jvm.Cond.code ⟨"java/lang/Object", "<init>", "()V"⟩ object_method_1_code 1 none
abbrev cW6 : Jvm.Cond := Jvm.Cond.code ⟨"com/example/nearmiss/nearmiss/Element", "<init>", "(Ljava/lang/String;II)V"⟩ prog_7_method_1_code 4 none
abbrev cW7 : Jvm.Cond := Jvm.Cond.code ⟨"java/lang/Record", "<init>", "()V"⟩ jdk_30_method_1_code 1 none
abbrev cW8 : Jvm.Cond := Jvm.Cond.code ⟨"java/util/ArrayList", "<init>", "()V"⟩ jdk_38_method_2_code 1 none
abbrev cW9 : Jvm.Cond := Jvm.Cond.code ⟨"java/util/AbstractList", "<init>", "()V"⟩ jdk_39_method_1_code 1 none
abbrev cW10 : Jvm.Cond := Jvm.Cond.code ⟨"java/util/AbstractCollection", "<init>", "()V"⟩ jdk_22_method_1_code 1 none
abbrev cW11 : Jvm.Cond := Jvm.Cond.code ⟨"java/util/ArrayList", "add", "(Ljava/lang/Object;)Z"⟩ jdk_38_method_25_code 2 (some .boolean)
abbrev cW12 : Jvm.Cond := Jvm.Cond.code ⟨"java/util/ArrayList", "add", "(Ljava/lang/Object;[Ljava/lang/Object;I)V"⟩ jdk_38_method_24_code 4 none
abbrev cW13 : Jvm.Cond := Jvm.Cond.code ⟨"java/util/ArrayList", "grow", "()[Ljava/lang/Object;"⟩ jdk_38_method_7_code 1 (some (.array (.object "java/lang/Object")))
abbrev cW14 : Jvm.Cond := Jvm.Cond.code ⟨"java/util/ArrayList", "grow", "(I)[Ljava/lang/Object;"⟩ jdk_38_method_6_code 4 (some (.array (.object "java/lang/Object")))
abbrev cW15 : Jvm.Cond := Jvm.Cond.code ⟨"java/lang/Math", "max", "(II)I"⟩ jdk_29_method_65_code 2 (some .int)
abbrev cW16 : Jvm.Cond := Jvm.Cond.code ⟨"com/example/nearmiss/nearmiss/Document", "<init>", "(Ljava/lang/String;ILjava/util/List;)V"⟩ prog_2_method_1_code 4 none
abbrev cW17 : Jvm.Cond := Jvm.Cond.code ⟨"java/util/List", "copyOf", "(Ljava/util/Collection;)Ljava/util/List;"⟩ jdk_40_method_48_code 1 (some (.object "java/util/List"))
abbrev cW18 : Jvm.Cond := Jvm.Cond.code ⟨"java/util/ImmutableCollections", "listCopy", "(Ljava/util/Collection;)Ljava/util/List;"⟩ jdk_56_method_3_code 2 (some (.object "java/util/List"))
abbrev cW19 : Jvm.Cond := Jvm.Cond.code ⟨"java/util/ArrayList", "isEmpty", "()Z"⟩ jdk_38_method_9_code 1 (some .boolean)
abbrev cW20 : Jvm.Cond := Jvm.Cond.code ⟨"java/util/ArrayList", "toArray", "()[Ljava/lang/Object;"⟩ jdk_38_method_16_code 1 (some (.array (.object "java/lang/Object")))
abbrev cW21 : Jvm.Cond := Jvm.Cond.code ⟨"java/util/Arrays", "copyOf", "([Ljava/lang/Object;I)[Ljava/lang/Object;"⟩ jdk_65_method_119_code 2 (some (.array (.object "java/lang/Object")))
abbrev cW22 : Jvm.Cond := Jvm.Cond.code ⟨"java/util/Arrays", "copyOf", "([Ljava/lang/Object;ILjava/lang/Class;)[Ljava/lang/Object;"⟩ jdk_65_method_120_code 4 (some (.array (.object "java/lang/Object")))
abbrev cW23 : Jvm.Cond := Jvm.Cond.code ⟨"java/lang/Math", "min", "(II)I"⟩ jdk_29_method_69_code 2 (some .int)
abbrev cW24 : Jvm.Cond := Jvm.Cond.code ⟨"java/util/List", "of", "([Ljava/lang/Object;)Ljava/util/List;"⟩ jdk_40_method_47_code 2 (some (.object "java/util/List"))
abbrev cW25 : Jvm.Cond := Jvm.Cond.code ⟨"java/util/ImmutableCollections$List12", "<init>", "(Ljava/lang/Object;)V"⟩ jdk_44_method_1_code 2 none
abbrev cW26 : Jvm.Cond := Jvm.Cond.code ⟨"java/util/ImmutableCollections$AbstractImmutableList", "<init>", "()V"⟩ jdk_46_method_1_code 1 none
abbrev cW27 : Jvm.Cond := Jvm.Cond.code ⟨"java/util/ImmutableCollections$AbstractImmutableCollection", "<init>", "()V"⟩ jdk_47_method_1_code 1 none
abbrev cW28 : Jvm.Cond := Jvm.Cond.code ⟨"java/util/Objects", "requireNonNull", "(Ljava/lang/Object;)Ljava/lang/Object;"⟩ jdk_31_method_10_code 1 (some (.object "java/lang/Object"))
abbrev cW29 : Jvm.Cond := Jvm.Cond.code ⟨"com/example/nearmiss/nearmiss/Document", "subtreeEnds", "(Ljava/util/List;)[I"⟩ prog_2_method_12_code 6 (some (.array .int))
abbrev cW30 : Jvm.Cond := Jvm.Cond.code ⟨"java/util/ImmutableCollections$List12", "size", "()I"⟩ jdk_44_method_3_code 1 (some .int)
abbrev cW31 : Jvm.Cond := Jvm.Cond.code ⟨"java/util/ImmutableCollections$List12", "get", "(I)Ljava/lang/Object;"⟩ jdk_44_method_5_code 2 (some (.object "java/lang/Object"))
abbrev cW32 : Jvm.Cond := Jvm.Cond.code ⟨"com/example/nearmiss/nearmiss/Element", "path", "()Ljava/lang/String;"⟩ prog_7_method_9_code 1 (some (.object "java/lang/String"))
abbrev cW33 : Jvm.Cond := Jvm.Cond.code ⟨"com/example/nearmiss/nearmiss/Document", "placesByPath", "(Ljava/util/List;)[I"⟩ prog_2_method_9_code 5 (some (.array .int))
abbrev cW34 : Jvm.Cond := Jvm.Cond.code ⟨"java/lang/Integer", "highestOneBit", "(I)I"⟩ jdk_33_method_45_code 1 (some .int)
abbrev cW35 : Jvm.Cond := Jvm.Cond.code ⟨"java/lang/Integer", "numberOfLeadingZeros", "(I)I"⟩ jdk_33_method_47_code 2 (some .int)
abbrev cW36 : Jvm.Cond := Jvm.Cond.code ⟨"java/lang/String", "hashCode", "()I"⟩ jdk_42_method_78_code 2 (some .int)
abbrev cW37 : Jvm.Cond := Jvm.Cond.code ⟨"java/lang/String", "isLatin1", "()Z"⟩ jdk_42_method_154_code 1 (some .boolean)
abbrev cW38 : Jvm.Cond := Jvm.Cond.code ⟨"java/lang/StringLatin1", "hashCode", "([B)I"⟩ jdk_43_method_21_code 1 (some .int)
abbrev cW39 : Jvm.Cond := Jvm.Cond.code ⟨"com/example/nearmiss/nearmiss/Document", "firstSlot", "([II)I"⟩ prog_2_method_10_code 2 (some .int)
abbrev cW40 : Jvm.Cond := Jvm.Cond.code ⟨"com/example/nearmiss/nearmiss/Document", "root", "()Lcom/example/nearmiss/nearmiss/Element;"⟩ prog_2_method_5_code 1 (some (.object "com/example/nearmiss/nearmiss/Element"))
abbrev cW41 : Jvm.Cond := Jvm.Cond.code ⟨"java/lang/String", "equals", "(Ljava/lang/Object;)Z"⟩ jdk_42_method_66_code 3 (some .boolean)
abbrev cW42 : Jvm.Cond := Jvm.Cond.code ⟨"com/example/nearmiss/nearmiss/Element", "start", "()I"⟩ prog_7_method_10_code 1 (some .int)
abbrev cW43 : Jvm.Cond := Jvm.Cond.code ⟨"com/example/nearmiss/nearmiss/Element", "end", "()I"⟩ prog_7_method_11_code 1 (some .int)
abbrev cW44 : Jvm.Cond := Jvm.Cond.code ⟨"java/util/ImmutableCollections", "listFromArray", "([Ljava/lang/Object;)Ljava/util/List;"⟩ jdk_56_method_4_code 3 (some (.object "java/util/List"))
abbrev cW45 : Jvm.Cond := Jvm.Cond.code ⟨"java/util/ImmutableCollections$ListN", "<init>", "([Ljava/lang/Object;Z)V"⟩ jdk_45_method_1_code 3 none
abbrev cW46 : Jvm.Cond := Jvm.Cond.code ⟨"java/util/ImmutableCollections$ListN", "size", "()I"⟩ jdk_45_method_3_code 1 (some .int)
abbrev cW47 : Jvm.Cond := Jvm.Cond.code ⟨"java/util/ImmutableCollections$ListN", "get", "(I)Ljava/lang/Object;"⟩ jdk_45_method_4_code 2 (some (.object "java/lang/Object"))
abbrev cW48 : Jvm.Cond := Jvm.Cond.code ⟨"com/example/nearmiss/nearmiss/Element", "isOnPathTo", "(Ljava/lang/String;)Z"⟩ prog_7_method_3_code 2 (some .boolean)
abbrev cW49 : Jvm.Cond := Jvm.Cond.code ⟨"java/lang/String", "startsWith", "(Ljava/lang/String;)Z"⟩ jdk_42_method_76_code 2 (some .boolean)
abbrev cW50 : Jvm.Cond := Jvm.Cond.code ⟨"java/lang/String", "startsWith", "(Ljava/lang/String;I)Z"⟩ jdk_42_method_75_code 8 (some .boolean)
abbrev cW51 : Jvm.Cond := Jvm.Cond.code ⟨"java/lang/String", "length", "()I"⟩ jdk_42_method_54_code 1 (some .int)
abbrev cW52 : Jvm.Cond := Jvm.Cond.code ⟨"java/lang/String", "coder", "()B"⟩ jdk_42_method_152_code 1 (some .byte)
abbrev cW53 : Jvm.Cond := Jvm.Cond.code ⟨"jdk/internal/util/ArraysSupport", "mismatch", "([BI[BII)I"⟩ jdk_48_method_14_code 8 (some .int)
abbrev cW54 : Jvm.Cond := Jvm.Cond.code ⟨"java/util/ImmutableCollections$List12", "<init>", "(Ljava/lang/Object;Ljava/lang/Object;)V"⟩ jdk_44_method_2_code 3 none
abbrev cW55 : Jvm.Cond := Jvm.Cond.code ⟨"com/example/nearmiss/nearmiss/Document", "nextSlot", "([II)I"⟩ prog_2_method_11_code 2 (some .int)
theorem w_c0 : cW0.before args0 about1 = true := code_word (m := ⟨1, 1⟩) (meth := k1m1) (c := k1c1) (by decide +kernel) rfl rfl rfl (by decide +kernel)
theorem w_c1 : cW1.before args0 about1 = true := code_word (m := ⟨7, 6⟩) (meth := k7m6) (c := k7c6) (by decide +kernel) rfl rfl rfl (by decide +kernel)
theorem w_c2 : cW2.before args0 about1 = true := code_word (m := ⟨8, 1⟩) (meth := k8m1) (c := k8c1) (by decide +kernel) rfl rfl rfl (by decide +kernel)
theorem w_c3 : cW3.before args0 about1 = true := code_word (m := ⟨8, 3⟩) (meth := k8m3) (c := k8c3) (by decide +kernel) rfl rfl rfl (by decide +kernel)
theorem w_c4 : cW4.before args0 about1 = true := code_word (m := ⟨7, 7⟩) (meth := k7m7) (c := k7c7) (by decide +kernel) rfl rfl rfl (by decide +kernel)
theorem w_c5 : cW5.before args0 about1 = true := code_word (m := ⟨0, 0⟩) (meth := k0m0) (c := k0c0) (by decide +kernel) rfl rfl rfl (by decide +kernel)
theorem w_c6 : cW6.before args0 about1 = true := code_word (m := ⟨11, 0⟩) (meth := k11m0) (c := k11c0) (by decide +kernel) rfl rfl rfl (by decide +kernel)
theorem w_c7 : cW7.before args0 about1 = true := code_word (m := ⟨9, 0⟩) (meth := k9m0) (c := k9c0) (by decide +kernel) rfl rfl rfl (by decide +kernel)
theorem w_c8 : cW8.before args0 about1 = true := code_word (m := ⟨20, 0⟩) (meth := k20m0) (c := k20c0) (by decide +kernel) rfl rfl rfl (by decide +kernel)
theorem w_c9 : cW9.before args0 about1 = true := code_word (m := ⟨17, 0⟩) (meth := k17m0) (c := k17c0) (by decide +kernel) rfl rfl rfl (by decide +kernel)
theorem w_c10 : cW10.before args0 about1 = true := code_word (m := ⟨14, 0⟩) (meth := k14m0) (c := k14c0) (by decide +kernel) rfl rfl rfl (by decide +kernel)
theorem w_c11 : cW11.before args0 about1 = true := code_word (m := ⟨20, 6⟩) (meth := k20m6) (c := k20c6) (by decide +kernel) rfl rfl rfl (by decide +kernel)
theorem w_c12 : cW12.before args0 about1 = true := code_word (m := ⟨20, 5⟩) (meth := k20m5) (c := k20c5) (by decide +kernel) rfl rfl rfl (by decide +kernel)
theorem w_c13 : cW13.before args0 about1 = true := code_word (m := ⟨20, 2⟩) (meth := k20m2) (c := k20c2) (by decide +kernel) rfl rfl rfl (by decide +kernel)
theorem w_c14 : cW14.before args0 about1 = true := code_word (m := ⟨20, 1⟩) (meth := k20m1) (c := k20c1) (by decide +kernel) rfl rfl rfl (by decide +kernel)
theorem w_c15 : cW15.before args0 about1 = true := code_word (m := ⟨21, 1⟩) (meth := k21m1) (c := k21c1) (by decide +kernel) rfl rfl rfl (by decide +kernel)
theorem w_c16 : cW16.before args0 about1 = true := code_word (m := ⟨22, 0⟩) (meth := k22m0) (c := k22c0) (by decide +kernel) rfl rfl rfl (by decide +kernel)
theorem w_c17 : cW17.before args0 about1 = true := code_word (m := ⟨16, 4⟩) (meth := k16m4) (c := k16c4) (by decide +kernel) rfl rfl rfl (by decide +kernel)
theorem w_c18 : cW18.before args0 about1 = true := code_word (m := ⟨23, 1⟩) (meth := k23m1) (c := k23c1) (by decide +kernel) rfl rfl rfl (by decide +kernel)
theorem w_c19 : cW19.before args0 about1 = true := code_word (m := ⟨20, 3⟩) (meth := k20m3) (c := k20c3) (by decide +kernel) rfl rfl rfl (by decide +kernel)
theorem w_c20 : cW20.before args0 about1 = true := code_word (m := ⟨20, 4⟩) (meth := k20m4) (c := k20c4) (by decide +kernel) rfl rfl rfl (by decide +kernel)
theorem w_c21 : cW21.before args0 about1 = true := code_word (m := ⟨28, 1⟩) (meth := k28m1) (c := k28c1) (by decide +kernel) rfl rfl rfl (by decide +kernel)
theorem w_c22 : cW22.before args0 about1 = true := code_word (m := ⟨28, 2⟩) (meth := k28m2) (c := k28c2) (by decide +kernel) rfl rfl rfl (by decide +kernel)
theorem w_c23 : cW23.before args0 about1 = true := code_word (m := ⟨21, 2⟩) (meth := k21m2) (c := k21c2) (by decide +kernel) rfl rfl rfl (by decide +kernel)
theorem w_c24 : cW24.before args0 about1 = true := code_word (m := ⟨16, 3⟩) (meth := k16m3) (c := k16c3) (by decide +kernel) rfl rfl rfl (by decide +kernel)
theorem w_c25 : cW25.before args0 about1 = true := code_word (m := ⟨26, 0⟩) (meth := k26m0) (c := k26c0) (by decide +kernel) rfl rfl rfl (by decide +kernel)
theorem w_c26 : cW26.before args0 about1 = true := code_word (m := ⟨25, 0⟩) (meth := k25m0) (c := k25c0) (by decide +kernel) rfl rfl rfl (by decide +kernel)
theorem w_c27 : cW27.before args0 about1 = true := code_word (m := ⟨24, 0⟩) (meth := k24m0) (c := k24c0) (by decide +kernel) rfl rfl rfl (by decide +kernel)
theorem w_c28 : cW28.before args0 about1 = true := code_word (m := ⟨30, 1⟩) (meth := k30m1) (c := k30c1) (by decide +kernel) rfl rfl rfl (by decide +kernel)
theorem w_c29 : cW29.before args0 about1 = true := code_word (m := ⟨22, 5⟩) (meth := k22m5) (c := k22c5) (by decide +kernel) rfl rfl rfl (by decide +kernel)
theorem w_c30 : cW30.before args0 about1 = true := code_word (m := ⟨26, 2⟩) (meth := k26m2) (c := k26c2) (by decide +kernel) rfl rfl rfl (by decide +kernel)
theorem w_c31 : cW31.before args0 about1 = true := code_word (m := ⟨26, 3⟩) (meth := k26m3) (c := k26c3) (by decide +kernel) rfl rfl rfl (by decide +kernel)
theorem w_c32 : cW32.before args0 about1 = true := code_word (m := ⟨11, 2⟩) (meth := k11m2) (c := k11c2) (by decide +kernel) rfl rfl rfl (by decide +kernel)
theorem w_c33 : cW33.before args0 about1 = true := code_word (m := ⟨22, 2⟩) (meth := k22m2) (c := k22c2) (by decide +kernel) rfl rfl rfl (by decide +kernel)
theorem w_c34 : cW34.before args0 about1 = true := code_word (m := ⟨32, 0⟩) (meth := k32m0) (c := k32c0) (by decide +kernel) rfl rfl rfl (by decide +kernel)
theorem w_c35 : cW35.before args0 about1 = true := code_word (m := ⟨32, 1⟩) (meth := k32m1) (c := k32c1) (by decide +kernel) rfl rfl rfl (by decide +kernel)
theorem w_c36 : cW36.before args0 about1 = true := code_word (m := ⟨7, 5⟩) (meth := k7m5) (c := k7c5) (by decide +kernel) rfl rfl rfl (by decide +kernel)
theorem w_c37 : cW37.before args0 about1 = true := code_word (m := ⟨7, 9⟩) (meth := k7m9) (c := k7c9) (by decide +kernel) rfl rfl rfl (by decide +kernel)
theorem w_c38 : cW38.before args0 about1 = true := code_word (m := ⟨8, 2⟩) (meth := k8m2) (c := k8c2) (by decide +kernel) rfl rfl rfl (by decide +kernel)
theorem w_c39 : cW39.before args0 about1 = true := code_word (m := ⟨22, 3⟩) (meth := k22m3) (c := k22c3) (by decide +kernel) rfl rfl rfl (by decide +kernel)
theorem w_c40 : cW40.before args0 about1 = true := code_word (m := ⟨22, 1⟩) (meth := k22m1) (c := k22c1) (by decide +kernel) rfl rfl rfl (by decide +kernel)
theorem w_c41 : cW41.before args0 about1 = true := code_word (m := ⟨7, 2⟩) (meth := k7m2) (c := k7c2) (by decide +kernel) rfl rfl rfl (by decide +kernel)
theorem w_c42 : cW42.before args0 about1 = true := code_word (m := ⟨11, 3⟩) (meth := k11m3) (c := k11c3) (by decide +kernel) rfl rfl rfl (by decide +kernel)
theorem w_c43 : cW43.before args0 about1 = true := code_word (m := ⟨11, 4⟩) (meth := k11m4) (c := k11c4) (by decide +kernel) rfl rfl rfl (by decide +kernel)
theorem w_c44 : cW44.before args0 about1 = true := code_word (m := ⟨23, 2⟩) (meth := k23m2) (c := k23c2) (by decide +kernel) rfl rfl rfl (by decide +kernel)
theorem w_c45 : cW45.before args0 about1 = true := code_word (m := ⟨27, 0⟩) (meth := k27m0) (c := k27c0) (by decide +kernel) rfl rfl rfl (by decide +kernel)
theorem w_c46 : cW46.before args0 about1 = true := code_word (m := ⟨27, 1⟩) (meth := k27m1) (c := k27c1) (by decide +kernel) rfl rfl rfl (by decide +kernel)
theorem w_c47 : cW47.before args0 about1 = true := code_word (m := ⟨27, 2⟩) (meth := k27m2) (c := k27c2) (by decide +kernel) rfl rfl rfl (by decide +kernel)
theorem w_c48 : cW48.before args0 about1 = true := code_word (m := ⟨11, 1⟩) (meth := k11m1) (c := k11c1) (by decide +kernel) rfl rfl rfl (by decide +kernel)
theorem w_c49 : cW49.before args0 about1 = true := code_word (m := ⟨7, 4⟩) (meth := k7m4) (c := k7c4) (by decide +kernel) rfl rfl rfl (by decide +kernel)
theorem w_c50 : cW50.before args0 about1 = true := code_word (m := ⟨7, 3⟩) (meth := k7m3) (c := k7c3) (by decide +kernel) rfl rfl rfl (by decide +kernel)
theorem w_c51 : cW51.before args0 about1 = true := code_word (m := ⟨7, 1⟩) (meth := k7m1) (c := k7c1) (by decide +kernel) rfl rfl rfl (by decide +kernel)
theorem w_c52 : cW52.before args0 about1 = true := code_word (m := ⟨7, 8⟩) (meth := k7m8) (c := k7c8) (by decide +kernel) rfl rfl rfl (by decide +kernel)
theorem w_c53 : cW53.before args0 about1 = true := code_word (m := ⟨33, 1⟩) (meth := k33m1) (c := k33c1) (by decide +kernel) rfl rfl rfl (by decide +kernel)
theorem w_c54 : cW54.before args0 about1 = true := code_word (m := ⟨26, 1⟩) (meth := k26m1) (c := k26c1) (by decide +kernel) rfl rfl rfl (by decide +kernel)
theorem w_c55 : cW55.before args0 about1 = true := code_word (m := ⟨22, 4⟩) (meth := k22m4) (c := k22c4) (by decide +kernel) rfl rfl rfl (by decide +kernel)
def codes1 : List Jvm.Cond := [cW0, cW1, cW2, cW3, cW4, cW5, cW6, cW7, cW8, cW9, cW10, cW11, cW12, cW13, cW14, cW15, cW16, cW17, cW18, cW19, cW20, cW21, cW22, cW23, cW24, cW25, cW26, cW27, cW28, cW29, cW30, cW31, cW32, cW33, cW34, cW35, cW36, cW37, cW38, cW39, cW40, cW41, cW42, cW43, cW44, cW45, cW46, cW47, cW48, cW49, cW50, cW51, cW52, cW53, cW54, cW55]
theorem codes_eq : words1.filter isCode = codes1 := rfl
theorem w_codes : ∀ c ∈ words1.filter isCode, c.before args0 about1 = true := by
  rw [codes_eq]
  intro c hc
  simp only [codes1, List.mem_cons, List.not_mem_nil, or_false] at hc
  rcases hc with rfl | rfl | rfl | rfl | rfl | rfl | rfl | rfl | rfl | rfl | rfl | rfl | rfl | rfl | rfl | rfl | rfl | rfl | rfl | rfl | rfl | rfl | rfl | rfl | rfl | rfl | rfl | rfl | rfl | rfl | rfl | rfl | rfl | rfl | rfl | rfl | rfl | rfl | rfl | rfl | rfl | rfl | rfl | rfl | rfl | rfl | rfl | rfl | rfl | rfl | rfl | rfl | rfl | rfl | rfl | rfl
  · exact w_c0
  · exact w_c1
  · exact w_c2
  · exact w_c3
  · exact w_c4
  · exact w_c5
  · exact w_c6
  · exact w_c7
  · exact w_c8
  · exact w_c9
  · exact w_c10
  · exact w_c11
  · exact w_c12
  · exact w_c13
  · exact w_c14
  · exact w_c15
  · exact w_c16
  · exact w_c17
  · exact w_c18
  · exact w_c19
  · exact w_c20
  · exact w_c21
  · exact w_c22
  · exact w_c23
  · exact w_c24
  · exact w_c25
  · exact w_c26
  · exact w_c27
  · exact w_c28
  · exact w_c29
  · exact w_c30
  · exact w_c31
  · exact w_c32
  · exact w_c33
  · exact w_c34
  · exact w_c35
  · exact w_c36
  · exact w_c37
  · exact w_c38
  · exact w_c39
  · exact w_c40
  · exact w_c41
  · exact w_c42
  · exact w_c43
  · exact w_c44
  · exact w_c45
  · exact w_c46
  · exact w_c47
  · exact w_c48
  · exact w_c49
  · exact w_c50
  · exact w_c51
  · exact w_c52
  · exact w_c53
  · exact w_c54
  · exact w_c55
theorem w_t1 : (words1.take 24).all (fun c => isCode c || c.before args0 about1) = true := by decide +kernel
theorem w_t2 : ((words1.drop 24).take 24).all (fun c => isCode c || c.before args0 about1) = true := by decide +kernel
theorem w_t3 : (((words1.drop 24).drop 24).take 24).all (fun c => isCode c || c.before args0 about1) = true := by decide +kernel
theorem w_t4 : ((((words1.drop 24).drop 24).drop 24).take 24).all (fun c => isCode c || c.before args0 about1) = true := by decide +kernel
theorem w_t5 : (((((words1.drop 24).drop 24).drop 24).drop 24).take 24).all (fun c => isCode c || c.before args0 about1) = true := by decide +kernel
theorem w_t6 : ((((((words1.drop 24).drop 24).drop 24).drop 24).drop 24).take 24).all (fun c => isCode c || c.before args0 about1) = true := by decide +kernel
theorem w_t7 : (((((((words1.drop 24).drop 24).drop 24).drop 24).drop 24).drop 24).take 24).all (fun c => isCode c || c.before args0 about1) = true := by decide +kernel
theorem w_t8 : ((((((((words1.drop 24).drop 24).drop 24).drop 24).drop 24).drop 24).drop 24).take 24).all (fun c => isCode c || c.before args0 about1) = true := by decide +kernel
theorem w_t9 : (((((((((words1.drop 24).drop 24).drop 24).drop 24).drop 24).drop 24).drop 24).drop 24).take 24).all (fun c => isCode c || c.before args0 about1) = true := by decide +kernel
theorem w_t10 : ((((((((((words1.drop 24).drop 24).drop 24).drop 24).drop 24).drop 24).drop 24).drop 24).drop 24).take 24).all (fun c => isCode c || c.before args0 about1) = true := by decide +kernel
theorem w_t11 : (((((((((((words1.drop 24).drop 24).drop 24).drop 24).drop 24).drop 24).drop 24).drop 24).drop 24).drop 24).take 24).all (fun c => isCode c || c.before args0 about1) = true := by decide +kernel
theorem w_t12 : ((((((((((((words1.drop 24).drop 24).drop 24).drop 24).drop 24).drop 24).drop 24).drop 24).drop 24).drop 24).drop 24).take 24).all (fun c => isCode c || c.before args0 about1) = true := by decide +kernel
theorem w_t13 : (((((((((((((words1.drop 24).drop 24).drop 24).drop 24).drop 24).drop 24).drop 24).drop 24).drop 24).drop 24).drop 24).drop 24).take 24).all (fun c => isCode c || c.before args0 about1) = true := by decide +kernel
theorem w_t14 : ((((((((((((((words1.drop 24).drop 24).drop 24).drop 24).drop 24).drop 24).drop 24).drop 24).drop 24).drop 24).drop 24).drop 24).drop 24).take 24).all (fun c => isCode c || c.before args0 about1) = true := by decide +kernel
theorem w_t15 : ((((((((((((((words1.drop 24).drop 24).drop 24).drop 24).drop 24).drop 24).drop 24).drop 24).drop 24).drop 24).drop 24).drop 24).drop 24).drop 24).all (fun c => isCode c || c.before args0 about1) = true := by decide +kernel
theorem w_tables : (allAtoms (Jvm.Cond.code x code maxLocals ret :: tables_1)).before args0 about1 = true := by
  rw [allAtoms_all]
  show words1.all (fun c => c.before args0 about1) = true
  refine all_split ?_ w_codes
  rw [← List.take_append_drop 24 words1, List.all_append, w_t1, ← List.take_append_drop 24 (words1.drop 24), List.all_append, w_t2, ← List.take_append_drop 24 ((words1.drop 24).drop 24), List.all_append, w_t3, ← List.take_append_drop 24 (((words1.drop 24).drop 24).drop 24), List.all_append, w_t4, ← List.take_append_drop 24 ((((words1.drop 24).drop 24).drop 24).drop 24), List.all_append, w_t5, ← List.take_append_drop 24 (((((words1.drop 24).drop 24).drop 24).drop 24).drop 24), List.all_append, w_t6, ← List.take_append_drop 24 ((((((words1.drop 24).drop 24).drop 24).drop 24).drop 24).drop 24), List.all_append, w_t7, ← List.take_append_drop 24 (((((((words1.drop 24).drop 24).drop 24).drop 24).drop 24).drop 24).drop 24), List.all_append, w_t8, ← List.take_append_drop 24 ((((((((words1.drop 24).drop 24).drop 24).drop 24).drop 24).drop 24).drop 24).drop 24), List.all_append, w_t9, ← List.take_append_drop 24 (((((((((words1.drop 24).drop 24).drop 24).drop 24).drop 24).drop 24).drop 24).drop 24).drop 24), List.all_append, w_t10, ← List.take_append_drop 24 ((((((((((words1.drop 24).drop 24).drop 24).drop 24).drop 24).drop 24).drop 24).drop 24).drop 24).drop 24), List.all_append, w_t11, ← List.take_append_drop 24 (((((((((((words1.drop 24).drop 24).drop 24).drop 24).drop 24).drop 24).drop 24).drop 24).drop 24).drop 24).drop 24), List.all_append, w_t12, ← List.take_append_drop 24 ((((((((((((words1.drop 24).drop 24).drop 24).drop 24).drop 24).drop 24).drop 24).drop 24).drop 24).drop 24).drop 24).drop 24), List.all_append, w_t13, ← List.take_append_drop 24 (((((((((((((words1.drop 24).drop 24).drop 24).drop 24).drop 24).drop 24).drop 24).drop 24).drop 24).drop 24).drop 24).drop 24).drop 24), List.all_append, w_t14, w_t15]
  rfl
theorem w_rest : rest_1_c.before args0 about1 = true := by decide +kernel
theorem w_case : (Jvm.Cond.and given_1 narrow_1).before args0 about1 = true := by decide +kernel
theorem w_applies : (headSpec (Jvm.Cond.code x code maxLocals ret :: tables_1) room_1).applies x e0.platform about1 = true :=
  (Spec.applies_iff w_frames).mpr ⟨w_running, w_runnable, w_alone, w_named, w_hears, w_ripe, w_room, w_tables⟩
theorem atStart : AtStart classFile x code maxLocals ret World_1 tables_1 room_1 Calls_1 rest_1 Pre_1 launch0 p0 e0 about1 theMethod args0 below0 :=
  ⟨lists_1, trivial, launch0.admits_env _ _ _, launch0.least_env, fairChoices_fair.cas, fairChoices_fair.clock, w_frames, w_args, w_heap, w_applies, ⟨⟨40, k40, 4, by decide +kernel, rfl, rfl, _, rfl, rfl⟩, trivial⟩, w_rest, w_case⟩
end start1
theorem witness_1 : WitnessClaimed_1 := ⟨start1.p0, start1.e0, start1.about1, start1.theMethod, start1.args0, start1.below0, start1.atStart⟩
end Jvm.Pilot.@@N@@
