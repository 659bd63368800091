import JvmDerived
import JvmDerived.Pilot.@@N@@Statement
import JvmDerived.Pilot.@@N@@Code
set_option linter.unusedVariables false
set_option linter.unusedSimpArgs false
namespace Jvm.Pilot.@@N@@
open Jvm Jvm.ClassFile Sem Op Lib Jvm.Free Jvm.Stand Jvm.LawKit Jvm.RoadKit Bundle Jvm.Pilot.@@N@@.Jvm.D
theorem ww {Z : State} {a0 : Array Value} (hw : ∀ d ∈ tables_1, d.before a0 Z = true) (i : Nat) {d : Jvm.Cond} (h : tables_1[i]? = some d) : d.before a0 Z = true := hw d (List.mem_of_getElem? h)
abbrev cs0 : String := "java/lang/AbstractStringBuilder"
abbrev cs1 : String := "(Ljava/lang/String;)Ljava/lang/AbstractStringBuilder;"
abbrev cs2 : String := "(Ljava/lang/String;)Ljava/lang/StringBuilder;"
abbrev cs3 : String := "(I)Ljava/lang/AbstractStringBuilder;"
abbrev cs4 : String := "(I)Ljava/lang/StringBuilder;"
abbrev cs5 : String := "(Ljava/lang/AbstractStringBuilder;Ljava/lang/Void;)V"
abbrev cs6 : String := "(Ljava/lang/StringBuilder;)V"
abbrev cs7 : String := "com/example/manojo/manojo/QueryTree$Parameter"
abbrev cs8 : String := "(I)Lcom/example/manojo/manojo/QueryTree$Parameter;"
abbrev cs9 : String := "com/example/manojo/manojo/ParameterPositionalPinLaw"
abbrev cs10 : String := "jdk/internal/util/Preconditions"
abbrev cs11 : String := "(IILjava/util/function/BiFunction;)I"
abbrev cs12 : String := "Ljava/util/function/BiFunction;"
abbrev cs13 : String := "(Ljava/lang/String;IIII)Z"
theorem own_eqr {args : Array Value} {Z : State} {a b : Term} {x : Addr} (hb : b.eval args Z none [] Z = some (.ref x)) (h : (Jvm.Cond.eq a b).value args Z none Z [] = some true) : a.eval args Z none [] Z = some (.ref x) := by
  obtain ⟨u, w, e1, e2, k1, k2⟩ := cmp_v (Or.inl h)
  cases hb.symm.trans e2
  have hu : u.isRef = true := by cases u <;> simp [Kin, Value.isRef] at k1 k2 ⊢
  have := gotT (eq_R e1 e2 hu rfl) h
  rw [e1, this]
theorem own_len {args : Array Value} {Z : State} {t : Term} {x : Addr} {cl : Cell} {ty : FieldType} {n : Int32} (h : (Jvm.Cond.eq (.length t) (.int n)).value args Z none Z [] = some true) (ht : t.eval args Z none [] Z = some (.ref x)) (A : Arr Z Z.heap x cl ty) : cl.slots.size < 2 ^ 31 ∧ cl.slots.size.toInt32 = n := by
  have e1 := eqv_i (y := n) rfl h
  have ha := Arr.fin (Vm.Alike.refl _) A
  have hl : cl.slots.size < 2 ^ 31 := by
    by_cases q : cl.slots.size < 2 ^ 31
    · exact q
    · simp [Term.eval, ht, ha, q] at e1
  rw [len_f ht ha hl] at e1
  exact ⟨hl, by simpa using e1⟩
theorem own_all {args : Array Value} {Z : State} {t : Term} {a : Addr} {c : Cell} {ty : FieldType} {K : String} {B : Jvm.Cond} (et : ∀ idx, t.eval args Z none idx Z = some (.ref a)) (A : Arr Z Z.heap a c ty)
    (h : (Jvm.Cond.all t (.and (.exactly (.elem t (.index 0)) K) B)).value args Z none Z [] = some true) : ∀ j : Int32, ¬ (j < 0 ∨ c.slots.size ≤ j.toNatClampNeg) → ∃ r : Addr, c.slots[j.toNatClampNeg]? = some (.ref r) := fun j hj => by
  have nn : ¬ j < 0 := fun x => hj (Or.inl x)
  obtain ⟨u1, -⟩ := and_e (Cond.all_elim (et []) (A.fin (Vm.Alike.refl _)) h j.toNatClampNeg (Nat.lt_of_not_le fun x => hj (Or.inr x)))
  obtain ⟨box, eb⟩ := exa_v u1
  exact ⟨box, (elem_f (et _) (idx_at nn) (A.fin (Vm.Alike.refl _)) nn).symm.trans eb⟩
theorem own_size {c : Cell} {n : Int32} {k : Nat} (h : c.slots.size < 2 ^ 31 ∧ c.slots.size.toInt32 = n) (hn : n.toNatClampNeg = k) : c.slots.size = k := by
  have e := len_toInt h.1
  rw [h.2] at e
  rw [← hn, Int32.toNatClampNeg, e]; rfl
def own_mag (x : Int32) : Nat := x.toInt.natAbs
theorem own_mag_le (x : Int32) : own_mag x ≤ 2 ^ 31 := by
  have h1 := Int32.toInt_lt x
  have h2 := Int32.le_toInt x
  unfold own_mag; omega
theorem own_mag_neg (x : Int32) : (if x < 0 then x else -x) = SBG.negI (own_mag x) := by
  have h2 := Int32.le_toInt x
  have h3 := Int32.toInt_lt x
  apply Int32.toInt_inj.mp
  rw [SBG.negI_toInt (own_mag_le x)]
  unfold own_mag
  have h0 : (0 : Int32).toInt = 0 := rfl
  by_cases hx : x < 0
  · rw [if_pos hx]; rw [Int32.lt_iff_toInt_lt, h0] at hx; omega
  · rw [if_neg hx, Int32.toInt_neg]; rw [Int32.lt_iff_toInt_lt, h0] at hx
    rw [Int.bmod_eq_of_le (by omega) (by omega)]; omega
def own_TB (Z : State) (st d1 : Addr) (D1 : Cell) (d2 : Addr) (D2 : Cell) : Prop := SBG.Tbl Z "DigitOnes" st d1 D1 ∧ SBG.Tbl Z "DigitTens" st d2 D2 ∧ SBG.Ones D1 ∧ SBG.Tens D2
theorem own_bytesC {a : Array Value} {s : State} {n : String} (hfit : Fit s) (h3 : (Jvm.Cond.exactly (SBG.Tof n) "[B").before a s = true) (h4 : (Jvm.Cond.eq (.length (SBG.Tof n)) (.int 100)).before a s = true) (harr : (Jvm.Cond.arrayClass .byte).before a s = true) : (SBG.bytesC (SBG.Tof n)).before a s = true := by
  obtain ⟨sd, cB, SA, kB, hevV, hfcB, hcellB, hkB, hstatB, hclsB, -⟩ := Cond.exactly_spec h3
  have hl := Cond.eq_int h4 rfl
  obtain ⟨sd', SA', hev', harrAt, -⟩ := Term.length_spec hl
  cases hevV.symm.trans hev'
  obtain ⟨hcellB', hknA, -, -⟩ := State.arrayAt?_spec harrAt
  cases hcellB.symm.trans hcellB'
  have h31 := SBG.length_lt hevV harrAt hl
  obtain ⟨cB', kB', comp, hnameB, hkB', hkindB⟩ := Cond.arrayClass_spec harr
  have eBA : ("[" ++ FieldType.toString .byte) = "[B" := by decide
  rw [eBA] at hnameB
  cases hfcB.symm.trans hnameB
  cases hkB.symm.trans hkB'
  have hevAll : ∀ idx, (SBG.Tof n).eval a s none idx s = some (.ref sd) := fun idx => by
    have : (SBG.Tof n).eval a s none idx s = (SBG.Tof n).eval a s none [] s := by simp only [SBG.Tof, Term.eval]
    rw [this]; exact hevV
  have hby : s.isArrayOf SA .byte := ⟨(fun k h => by rw [h] at hstatB; cases hstatB), kB, (by rw [hclsB]; exact hkB), comp, hkindB⟩
  exact SBG.bytesC_of_fits hevAll harrAt h31 fun i hi => SBG.fits_byte_of_slot hby hi (hfit hcellB hi)
theorem own_TB_start {a : Array Value} {s : State} (hfit : Fit s) (harr : (Jvm.Cond.arrayClass .byte).before a s = true) (hini : (Jvm.Cond.initialized "java/lang/Integer").before a s = true)
    (o1 : (Jvm.Cond.laysStatic "java/lang/Integer" "DigitOnes" "[B").before a s = true) (o2 : (Jvm.Cond.exactly (SBG.Tof "DigitOnes") "[B").before a s = true) (o3 : (Jvm.Cond.eq (.length (SBG.Tof "DigitOnes")) (.int 100)).before a s = true) (o4 : SBG.onesW.before a s = true)
    (t1 : (Jvm.Cond.laysStatic "java/lang/Integer" "DigitTens" "[B").before a s = true) (t2 : (Jvm.Cond.exactly (SBG.Tof "DigitTens") "[B").before a s = true) (t3 : (Jvm.Cond.eq (.length (SBG.Tof "DigitTens")) (.int 100)).before a s = true) (t4 : SBG.tensW.before a s = true) :
    ∃ st d1 D1 d2 D2, own_TB s st d1 D1 d2 D2 := by
  obtain ⟨c, k, st, d1, D1, h1, h2, h3, T1, O1⟩ := SBG.ones_of_words (fun w hw => by
    simp only [SBG.tblW, List.mem_cons, List.not_mem_nil, or_false] at hw
    rcases hw with rfl | rfl | rfl | rfl
    · exact o1
    · exact o2
    · exact o3
    · exact own_bytesC hfit o2 o3 harr) o4 hini harr
  obtain ⟨c', k', st', d2, D2, h1', h2', h3', T2, O2⟩ := SBG.tens_of_words (fun w hw => by
    simp only [SBG.tblW, List.mem_cons, List.not_mem_nil, or_false] at hw
    rcases hw with rfl | rfl | rfl | rfl
    · exact t1
    · exact t2
    · exact t3
    · exact own_bytesC hfit t2 t3 harr) t4 hini harr
  cases h1.symm.trans h1'
  cases h2.symm.trans h2'
  cases h3.symm.trans h3'
  exact ⟨st, d1, D1, d2, D2, T1, T2, O1, O2⟩
def own_sz (x : Int32) : Nat := SBG.digits (own_mag x) + SBG.GetChars.sgn x
def own_us (vs : List Value) (d : Value) (z : Nat) (x : Int32) (i : Nat) : List Value := (List.range z).map fun j => if j < i - own_sz x ∨ i ≤ j then vs.getD j d else if j + SBG.digits (own_mag x) < i then .int 45 else .int (Int32.ofNat (48 + own_mag x / 10 ^ (i - 1 - j) % 10))
theorem own_us_at {vs : List Value} {d : Value} {z : Nat} {x : Int32} {i j : Nat} (h : j < z) : (own_us vs d z x i).getD j d = if j < i - own_sz x ∨ i ≤ j then vs.getD j d else if j + SBG.digits (own_mag x) < i then .int 45 else .int (Int32.ofNat (48 + own_mag x / 10 ^ (i - 1 - j) % 10)) := by
  simp only [own_us, List.getD_eq_getElem?_getD, List.getElem?_map, List.getElem?_range h, Option.map_some, Option.getD_some]
def own_at (l : List Value) (j : Nat) : Int32 := match l.getD j (.int 0) with
  | .int x => x
  | _ => 0
section OwnDig
variable {p : Program} {l : Launch} {e : Env} {R : Room} {s : State} {m : MethodId} {args : Array Value} {below : List Frame} {meth : Method} {c : Code} {T : State} {locs : List Loc} {cells slots : Nat} {Z : State} {h : Heap} {a : Addr} {k : ClassId}
theorem own_getChars (X : Stand p l e R s m args below meth c T locs cells slots) (hx : p.tables.exec = Jvm.exec) (hZ : Z.Warmed39 s.vm) {a0 : Array Value} {own : String} {index : Nat} (hown : s.vm.findClass own = some m.cls)
    (w1 : (Jvm.Cond.methodLink own index SBG.GetChars.gcN).before a0 Z = true) (w2 : (Jvm.Cond.static SBG.GetChars.gcN).before a0 Z = true) (w3 : (Jvm.Cond.initialized "java/lang/Integer").before a0 Z = true) (w4 : (Jvm.Cond.code SBG.GetChars.gcN SBG.GetChars.gcB 7 (some .int)).before a0 Z = true) (w5 : (Jvm.Cond.fieldLink "java/lang/Integer" 83 "java/lang/Integer" "DigitOnes" "[B").before a0 Z = true) (w6 : (Jvm.Cond.fieldLink "java/lang/Integer" 87 "java/lang/Integer" "DigitTens" "[B").before a0 Z = true)
    (eT : T.heap = h) {x i z : Int32} {vs : List Value} {d : Value} (A : Arv Z h a k .byte z vs d) {st d1 d2 : Addr} {D1 D2 : Cell} (TB : own_TB Z st d1 D1 d2 D2) {n0 : Nat} (O : Old Z n0 h) (ge : n0 ≤ a) (N : Fr n0 locs)
    (h1 : ¬ i < 0) (h2 : i.toNatClampNeg ≤ z.toNatClampNeg) (h3 : own_sz x ≤ i.toNatClampNeg)
    {g : JFrame} (hg : g.method = m) (hsize : g.locals.size = c.maxLocals) {rest : List Value} (hs : g.stack = .ref a :: .int i :: .int x :: rest) (hd : decode c.code g.pc = .ok (.invokestatic index, 3))
    (hf : 2 ≤ R.frames) {W : Nat} (hW : 2 * g.monitorRoom + (rest.map fun v => v.category).sum ≤ W) (hlo : W + 78 ≤ R.locals) (hc : cells ≤ R.cells) (hl : slots ≤ R.slots) :
    ∃ T' h' L, Stand p l e R s m args below meth c T' L cells slots ∧ T'.heap = h' ∧ Fr n0 L ∧ Keep h h' [a] ∧ Arv Z h' a k .byte z (own_us vs d z.toNatClampNeg x i.toNatClampNeg) d ∧
      ∀ target, Steps p.tables e below (T'.setTop { g with pc := g.pc + 3, stack := .int (Int32.ofNat (i.toNatClampNeg - own_sz x)) :: rest }) target → Steps p.tables e below (T.setTop g) target := by
  obtain ⟨cA, Ar, q, S, Nz, H, G⟩ := A
  obtain ⟨T1, T2, O1, O2⟩ := TB
  have hi : Int32.ofNat i.toNatClampNeg = i := (back32 h1).1
  obtain ⟨gg, hgg⟩ : ∃ gg : SBG.GetChars.G, gg = ⟨x, own_mag x, i.toNatClampNeg, a, cA, st, d1, D1, d2, D2⟩ := ⟨_, rfl⟩
  have htab : SBG.GetChars.tab.before args s = true := by
    simp only [SBG.GetChars.tab, Cond.before_and, Bool.and_eq_true]
    exact ⟨mvT hZ w4, mvT hZ w5, mvT hZ w6⟩
  have ltOf : ∀ {y : Addr} {cy : Cell}, Z.heap[y]? = some cy → y < Z.heap.size := fun q => (Array.getElem?_eq_some_iff.mp q).1
  have st1 : st < Z.heap.size := by obtain ⟨_, _, _, _, _, _, _, _, _, h5, _⟩ := T1; exact ltOf h5
  have dd1 : Z.heap[d1]? = some D1 := by obtain ⟨_, _, _, _, _, _, _, _, _, _, _, _, h8, _⟩ := T1; exact h8
  have dd2 : Z.heap[d2]? = some D2 := by obtain ⟨_, _, _, _, _, _, _, _, _, _, _, _, h8, _⟩ := T2; exact h8
  have up : ∀ (y : Addr) (cy : Cell), Z.heap[y]? = some cy → T.heap[y]? = some cy := fun y cy q => by rw [eT]; exact O.2.2 y cy q
  have hsz : cA.slots.size < 2 ^ 31 := by rw [S]; exact (back32 Nz).2
  obtain ⟨v, vm₁, ⟨T', L', c', n'⟩, hW1, X', hP, hst⟩ := Jvm.LawKit.callS X hx hown (mvT hZ w1) (mvT hZ w2) (mvT hZ w3) (mvT hZ w4) (by decide) (SBG.GetChars.pays gg W htab (mvT hZ w3) hf hlo) hg hsize (argsL := [.int x, .int i, .ref a]) (rest := rest) (lenOf (show parseMethodDescriptor "(II[B)I" = some ⟨[.int, .int, .array .byte], some .int⟩ by decide +kernel) rfl) hs hW hd (fun vmx hwx => by
    have al : Z.vm.Alike (T.setVm vmx).vm := hZ.alike.trans hwx.alike
    subst hgg
    refine ⟨by simp only [hi], hc, hl, by simp only [hi], by show T.heap[a]? = _; rw [eT]; exact Ar.1, State.isArrayOf_alike al Ar.2.1, Ar.2.2, hsz, by show i.toNatClampNeg ≤ cA.slots.size; rw [S]; exact h2, h3, own_mag_le x, own_mag_neg x, T1.move al (fun c q => up _ _ q) (up _ _ dd1), T2.move al (fun c q => up _ _ q) (up _ _ dd2), Ne.symm (Old.ne O st1 ge), Ne.symm (Old.ne O (ltOf dd1) ge), Ne.symm (Old.ne O (ltOf dd2) ge)⟩)
  obtain ⟨hv, hcell, hcc, hss, hsize', hkeep, L, hL, hb⟩ := hP
  dsimp only [Pt.U, Pt.locs, Pt.cells, Pt.slots] at X' hv hcell hcc hss hsize' hkeep hL hb hst
  subst hcc hss hL
  have hby : ∀ i, i < cA.slots.size → fits .byte (cA.slots.getD i .null) = true := fun j hj => by
    rw [Array.getD_eq_getD_getElem?, H j hj]; exact G j hj
  have hsz' : SBG.digits gg.n + SBG.GetChars.sgn gg.x ≤ gg.idx := by subst hgg; exact h3
  obtain ⟨f1, f2, f3, f4, -⟩ := SBG.GetChars.outCell_facts gg (by subst hgg; exact own_mag_le x) hsz' (by subst hgg; exact hby)
  obtain ⟨r1, r2, r3⟩ := SBG.outCell_at gg (by subst hgg; exact O1) (by subst hgg; exact O2) (by subst hgg; exact own_mag_le x) hsz' (by subst hgg; show i.toNatClampNeg ≤ cA.slots.size; rw [S]; exact h2)
  have hda : gg.da = a := by rw [hgg]
  have eA : gg.A = cA := by rw [hgg]
  have en : gg.n = own_mag x := by rw [hgg]
  have ex : gg.x = x := by rw [hgg]
  have ei : gg.idx = i.toNatClampNeg := by rw [hgg]
  rw [eA] at f1 f2 f3
  rw [hda] at hcell hkeep hb
  rw [en, ei] at r1
  rw [ex, en, ei] at r2
  rw [en, ex, ei, eA] at r3
  have hHas : Has (SBG.GetChars.outCell gg) (own_us vs d z.toNatClampNeg x i.toNatClampNeg) d := fun j hj => by
    have hj' : j < z.toNatClampNeg := by rw [f3, S] at hj; exact hj
    rw [own_us_at hj']
    by_cases q1 : j < i.toNatClampNeg - own_sz x ∨ i.toNatClampNeg ≤ j
    · rw [if_pos q1, r3 j q1]; exact H j (by rw [S]; exact hj')
    · rw [if_neg q1]
      by_cases q2 : j + SBG.digits (own_mag x) < i.toNatClampNeg
      · rw [if_pos q2]
        have hx0 : x < 0 := by
          by_cases hx0 : x < 0
          · exact hx0
          · exfalso; apply q1; left; simp only [own_sz, SBG.GetChars.sgn, if_neg hx0]; omega
        have hsg : SBG.GetChars.sgn x = 1 := by simp [SBG.GetChars.sgn, hx0]
        have := r2 hx0
        have e1 : i.toNatClampNeg - SBG.digits (own_mag x) - 1 = j := by simp only [own_sz, hsg] at q1; omega
        rw [e1] at this; exact this
      · rw [if_neg q2]
        have := r1 (i.toNatClampNeg - 1 - j) (by omega)
        have e1 : i.toNatClampNeg - 1 - (i.toNatClampNeg - 1 - j) = j := by omega
        rw [e1] at this; exact this
  have hcA : T.heap[a]? = some cA := by rw [eT]; exact Ar.1
  refine ⟨T', _, _, X', rfl, N.app (fun y hy => by rw [hb y hy]; exact ge), ⟨?_, ?_, ?_⟩, ⟨SBG.GetChars.outCell gg, ⟨hcell, ?_, by rw [f2]; exact Ar.2.2⟩, by rw [f1]; exact q, by rw [f3]; exact S, Nz, hHas, ?_⟩, ?_⟩
  · rw [hsize', ← eT]; exact Nat.le_refl _
  · intro y cy hy hn
    exact hkeep y cy (fun r => hn (by rw [r]; exact List.mem_singleton.mpr rfl)) (by show T.heap[y]? = _; rw [eT]; exact hy)
  · intro y cy hy
    by_cases hya : y = a
    · subst hya
      have : cy = cA := Option.some.inj (hy.symm.trans Ar.1)
      subst this
      exact ⟨_, hcell, f1, f2, f3⟩
    · exact ⟨cy, hkeep y cy hya (by show T.heap[y]? = _; rw [eT]; exact hy), rfl, rfl, rfl⟩
  · obtain ⟨a1, kA, a2, a3⟩ := Ar.2.1
    exact ⟨by rw [f2]; exact a1, kA, by rw [f1]; exact a2, a3⟩
  · intro j hj
    have := f4 j hj
    rw [Array.getD_eq_getD_getElem?, hHas j hj] at this
    exact this
  · intro target ht
    refine hst _ ?_
    rw [hv, ex, en, ei]
    exact ht
theorem own_strSize (X : Stand p l e R s m args below meth c T locs cells slots) (hx : p.tables.exec = Jvm.exec) (hZ : Z.Warmed39 s.vm) {a0 : Array Value} {own : String} {index : Nat} (hown : s.vm.findClass own = some m.cls)
    (w1 : (Jvm.Cond.methodLink own index SBG.StrSize.ssN).before a0 Z = true) (w2 : (Jvm.Cond.static SBG.StrSize.ssN).before a0 Z = true) (w3 : (Jvm.Cond.initialized "java/lang/Integer").before a0 Z = true) (w4 : (Jvm.Cond.code SBG.StrSize.ssN SBG.StrSize.ssB 4 (some .int)).before a0 Z = true)
    (eT : T.heap = h) {x : Int32} {g : JFrame} (hg : g.method = m) (hsize : g.locals.size = c.maxLocals) {rest : List Value} (hs : g.stack = .int x :: rest) (hd : decode c.code g.pc = .ok (.invokestatic index, 3))
    (hf : 2 ≤ R.frames) {W : Nat} (hW : 2 * g.monitorRoom + (rest.map fun v => v.category).sum ≤ W) (hlo : W + 55 ≤ R.locals) (hc : cells ≤ R.cells) (hl : slots ≤ R.slots) :
    ∃ T', Stand p l e R s m args below meth c T' locs cells slots ∧ T'.heap = h ∧
      ∀ target, Steps p.tables e below (T'.setTop { g with pc := g.pc + 3, stack := .int (SBG.strSizeOf x) :: rest }) target → Steps p.tables e below (T.setTop g) target := by
  obtain ⟨v, vm₁, ⟨T', L', c', n'⟩, hW1, X', ⟨⟨e1, e2, e3, e4⟩, hv⟩, hst⟩ := Jvm.LawKit.callS X hx hown (mvT hZ w1) (mvT hZ w2) (mvT hZ w3) (mvT hZ w4) (by decide) (SBG.StrSize.pays (W := W) hf hlo (mvT hZ w4) (mvT hZ w3)) hg hsize (argsL := [.int x]) (rest := rest) (lenOf (show parseMethodDescriptor "(I)I" = some ⟨[.int], some .int⟩ by decide +kernel) rfl) hs hW hd (fun vmx hwx => ⟨hc, hl, x, rfl⟩)
  dsimp only [Pt.U, Pt.locs, Pt.cells, Pt.slots] at X' e1 e2 e3 e4 hst hv
  subst e2 e3 e4
  refine ⟨T', X', by rw [e1]; exact eT, fun target ht => hst _ ?_⟩
  rw [hv x rfl]; exact ht
end OwnDig
theorem own_padZ {Z : State} {h : Heap} {a : Addr} {k : ClassId} {ty : FieldType} {z : Int32} {d : Value} (A : Arv Z h a k ty z [] d) (n : Nat) : Arv Z h a k ty z (List.replicate n d) d := A.pad (pad_rep [] d n)
theorem own_cpAll {Z : State} {h : Heap} {a : Addr} {k : ClassId} {ty : FieldType} {z nn : Int32} {vs : List Value} {d dv : Value} {m : Nat} (hz : nn.toNatClampNeg = z.toNatClampNeg)
    (B : Arv Z h a k ty z ((List.replicate m d).take (0 : Int32).toNatClampNeg ++ ((List.range nn.toNatClampNeg).map fun i => vs.getD ((0 : Int32).toNatClampNeg + i) dv) ++ (List.replicate m d).drop ((0 : Int32).toNatClampNeg + nn.toNatClampNeg)) d) : Arv Z h a k ty z vs dv := by
  obtain ⟨c, A, q1, q2, q3, H, G⟩ := B
  have e0 : (0 : Int32).toNatClampNeg = 0 := rfl
  have key : ∀ i, i < c.slots.size → ((List.replicate m d).take (0 : Int32).toNatClampNeg ++ ((List.range nn.toNatClampNeg).map fun i => vs.getD ((0 : Int32).toNatClampNeg + i) dv) ++ (List.replicate m d).drop ((0 : Int32).toNatClampNeg + nn.toNatClampNeg)).getD i d = vs.getD i dv := fun i hi => by
    rw [q2, ← hz] at hi
    rw [e0, List.take_zero, List.nil_append, List.getD_eq_getElem?_getD, List.getElem?_append_left (by simpa using hi)]
    simp [List.getElem?_range hi]
  exact ⟨c, A, q1, q2, q3, fun i hi => by rw [H i hi, key i hi], fun i hi => by rw [← key i hi]; exact G i hi⟩
theorem own_andmax (x : Int32) : 0 ≤ (x &&& (2147483647 : Int32)).toInt := by
  have h : (x &&& 2147483647).toInt = (x.toBitVec &&& 2147483647#32).toInt := rfl
  have h2 : (x.toBitVec &&& 2147483647#32).toNat = x.toBitVec.toNat % 2147483648 := by rw [BitVec.toNat_and]; exact Nat.and_two_pow_sub_one_eq_mod x.toBitVec.toNat 31
  have h3 := Nat.mod_lt x.toBitVec.toNat (show 0 < 2147483648 by decide)
  have h4 : (x.toBitVec &&& 2147483647#32).toInt = ((x.toBitVec &&& 2147483647#32).toNat : Int) := BitVec.toInt_eq_toNat_of_lt (by omega)
  rw [h, h4]; omega
theorem own_p1 (x : Int32) : 1 ≤ ((1 : Int32) + ((x &&& (2147483647 : Int32)) % (2147483647 : Int32))).toInt := by
  have h0 := own_andmax x
  have hm : ((x &&& (2147483647 : Int32)) % (2147483647 : Int32)).toInt = (x &&& (2147483647 : Int32)).toInt % 2147483647 := by
    rw [Int32.toInt_mod]; exact Int.tmod_eq_emod_of_nonneg h0
  have hb := Int.emod_nonneg (x &&& (2147483647 : Int32)).toInt (show (2147483647 : Int) ≠ 0 by decide)
  have hl := Int.emod_lt_of_pos (x &&& (2147483647 : Int32)).toInt (show (0 : Int) < 2147483647 by decide)
  rw [Int32.toInt_add, hm, show (1 : Int32).toInt = 1 from rfl, Int.bmod_eq_of_le (by omega) (by omega)]; omega
theorem own_ltI (p : Int32) (k : Nat) (hk : k < 2 ^ 31) : p < Int32.ofNat k ↔ p.toInt < k := by
  rw [Int32.lt_iff_toInt_lt, Int32.toInt_ofNat_small hk]
theorem own_mag_pos {p : Int32} (h : 1 ≤ p.toInt) : own_mag p = p.toInt.toNat := by unfold own_mag; omega
theorem own_not_neg {p : Int32} (h : 1 ≤ p.toInt) : ¬ p < 0 := by rw [Int32.lt_iff_toInt_lt, show (0 : Int32).toInt = 0 from rfl]; omega
theorem own_size_pos {p : Int32} (h : 1 ≤ p.toInt) {n : Nat} (hd : SBG.digits p.toInt.toNat = n) : SBG.strSizeOf p = Int32.ofNat n ∧ own_sz p = n := by
  have hs : SBG.GetChars.sgn p = 0 := by simp [SBG.GetChars.sgn, own_not_neg h]
  refine ⟨?_, ?_⟩
  · rw [SBG.strSizeOf_eq (own_mag_le p) (own_mag_neg p), own_mag_pos h, hd, hs]; rfl
  · rw [own_sz, own_mag_pos h, hd, hs, Nat.add_zero]
theorem own_rt {p : Int32} (h : 1 ≤ p.toInt) {n : Nat} (hd : SBG.digits p.toInt.toNat = n) (h1 : 1 ≤ n) (h2 : n ≤ 10) {vs : List Value} (hv : vs.getD 0 (.int 0) = .int 63) :
    (own_us vs (.int 0) 16 p (1 + n)).getD 0 (.int 0) = .int 63 ∧ ∀ j, 1 ≤ j → j ≤ n → (own_us vs (.int 0) 16 p (1 + n)).getD j (.int 0) = .int (Int32.ofNat (48 + p.toInt.toNat / 10 ^ (n - j) % 10)) := by
  obtain ⟨-, hO⟩ := own_size_pos h hd
  refine ⟨?_, fun j hj hn => ?_⟩
  · rw [own_us_at (by decide), if_pos (by left; rw [hO]; omega)]; exact hv
  · rw [own_us_at (by omega), if_neg (by rw [hO]; omega), own_mag_pos h, hd, if_neg (by omega), show 1 + n - 1 - j = n - j from by omega]
theorem own_self {t : List Value} {j : Nat} {y : Int32} (h : t.getD j (.int 0) = .int y) : t.getD j (.int 0) = .int (own_at t j) ∧ own_at t j = y := by
  have e : own_at t j = y := by unfold own_at; rw [h]
  exact ⟨by rw [e]; exact h, e⟩
theorem own_digit {p : Int32} (h : 1 ≤ p.toInt) (k : Nat) (hk : 10 ^ k < 2 ^ 31) : (p / Int32.ofNat (10 ^ k)) % (10 : Int32) = Int32.ofNat (p.toInt.toNat / 10 ^ k % 10) := by
  have hp : (Int32.ofNat (10 ^ k)).toInt = (10 ^ k : Nat) := Int32.toInt_ofNat_small hk
  have hpos : 0 < 10 ^ k := Nat.pow_pos (by decide)
  have h10 : (10 : Int32).toInt = 10 := rfl
  apply Int32.toInt_inj.mp
  have hlt := Nat.mod_lt (p.toInt.toNat / 10 ^ k) (show 0 < 10 by decide)
  rw [Int32.toInt_ofNat_small (by omega), Int32.toInt_mod, h10, Int32.toInt_div_of_ne_right _ _ (by rw [Ne, ← Int32.toInt_inj, hp]; intro q; have : ((-1 : Int32)).toInt = -1 := rfl; omega), hp]
  rw [Int.tdiv_eq_ediv_of_nonneg (by omega), Int.tmod_eq_emod_of_nonneg (Int.ediv_nonneg (by omega) (by omega))]
  have : p.toInt = (p.toInt.toNat : Int) := by omega
  rw [this]; simp
theorem own_chr : ∀ d, d < 10 → nar .char (nar .char ((Int32.ofNat (48 + d) &&& (255 : Int32)).toUInt32.toUInt16.toUInt32.toInt32)) = ((48 : Int32) + Int32.ofNat d).toUInt32.toUInt16.toUInt32.toInt32 := by decide +kernel
theorem own_chk {p : Int32} (h : 1 ≤ p.toInt) {y : Int32} (k : Nat) (hk : 10 ^ k < 2 ^ 31) (hy : y = Int32.ofNat (48 + p.toInt.toNat / 10 ^ k % 10)) : nar .char (nar .char ((y &&& (255 : Int32)).toUInt32.toUInt16.toUInt32.toInt32)) = ((48 : Int32) + ((p / Int32.ofNat (10 ^ k)) % (10 : Int32))).toUInt32.toUInt16.toUInt32.toInt32 := by
  rw [hy, own_digit h k hk]; exact own_chr _ (Nat.mod_lt _ (by decide))
theorem own_EW {Z : State} {a0 : Array Value} (hw : ∀ d ∈ tables_1, d.before a0 Z = true) : EW Z a0 consts_1 := (EW.cons (ww hw 29 rfl) (by decide) EW.nil)
theorem d1_0 : decode prog_22_method_3_code 0 = .ok (.new 8, 3) := by decide +kernel
theorem d1_3 : decode prog_22_method_3_code 3 = .ok (.dup, 1) := by decide +kernel
theorem d1_4 : decode prog_22_method_3_code 4 = .ok (.new 13, 3) := by decide +kernel
theorem d1_7 : decode prog_22_method_3_code 7 = .ok (.dup, 1) := by decide +kernel
theorem d1_8 : decode prog_22_method_3_code 8 = .ok (.invokespecial 15, 3) := by decide +kernel
theorem d2_0 : decode jdk_67_method_1_code 0 = .ok (.aload_n 0, 1) := by decide +kernel
theorem d2_1 : decode jdk_67_method_1_code 1 = .ok (.bipush 16, 2) := by decide +kernel
theorem d2_3 : decode jdk_67_method_1_code 3 = .ok (.invokespecial 1, 3) := by decide +kernel
theorem d3_0 : decode jdk_68_method_2_code 0 = .ok (.aload_n 0, 1) := by decide +kernel
theorem d3_1 : decode jdk_68_method_2_code 1 = .ok (.invokespecial 3, 3) := by decide +kernel
theorem d3_4 : decode jdk_68_method_2_code 4 = .ok (.getstatic 18, 3) := by decide +kernel
theorem d3_7 : decode jdk_68_method_2_code 7 = .ok (.ifCond .eq 18, 3) := by decide +kernel
theorem d3_10 : decode jdk_68_method_2_code 10 = .ok (.aload_n 0, 1) := by decide +kernel
theorem d3_11 : decode jdk_68_method_2_code 11 = .ok (.iload_n 1, 1) := by decide +kernel
theorem d3_12 : decode jdk_68_method_2_code 12 = .ok (.newarray .byte, 2) := by decide +kernel
theorem d3_14 : decode jdk_68_method_2_code 14 = .ok (.putfield 15, 3) := by decide +kernel
theorem d3_17 : decode jdk_68_method_2_code 17 = .ok (.aload_n 0, 1) := by decide +kernel
theorem d3_18 : decode jdk_68_method_2_code 18 = .ok (.iconst 0, 1) := by decide +kernel
theorem d3_19 : decode jdk_68_method_2_code 19 = .ok (.putfield 22, 3) := by decide +kernel
theorem d3_22 : decode jdk_68_method_2_code 22 = .ok (.goto 16, 3) := by decide +kernel
theorem d3_38 : decode jdk_68_method_2_code 38 = .ok (.return_, 1) := by decide +kernel
theorem pn_java_lang_AbstractStringBuilder : plainName cs0 = true := by first | (simp [plainName, overriddenIn]; done) | decide +kernel
def Q3_1 (Z : State) (r0 : Addr) (x1 : Int32) (h0 : Heap) (n0 : Nat) (v : Option Value) (h : Heap) (L : List Loc) : Prop := ∃ (b6 : Addr) (k6 : ClassId), v = none ∧ Fr n0 L ∧ Keep h0 h [r0] ∧ Fld Z h r0 cs0 "value" "[B" (.ref b6) ∧ Fld Z h r0 cs0 "coder" "B" (.int (0 : Int32)) ∧ Fld Z h r0 cs0 "count" "I" (.int (0 : Int32)) ∧ h0.size ≤ b6 ∧ Arv Z h b6 k6 .byte (16 : Int32) [(.int (0 : Int32)), (.int (0 : Int32)), (.int (0 : Int32)), (.int (0 : Int32)), (.int (0 : Int32)), (.int (0 : Int32)), (.int (0 : Int32)), (.int (0 : Int32)), (.int (0 : Int32)), (.int (0 : Int32)), (.int (0 : Int32)), (.int (0 : Int32)), (.int (0 : Int32)), (.int (0 : Int32)), (.int (0 : Int32)), (.int (0 : Int32))] (.int (0 : Int32)) ∧ Exa Z h b6 "[B"
set_option maxRecDepth 65536 in
set_option maxHeartbeats 40000000 in
theorem rm3_1 (l : Launch) (Z : State) (a0 : Array Value) (hw : ∀ d ∈ tables_1, d.before a0 Z = true) (ws : List Jvm.Cond) (r0 : Addr) (x1 : Int32) (h0 : Heap) (n0 : Nat) (O0 : Old Z n0 h0) (f2 : Sta Z Z.heap "java/lang/String" "COMPACT_STRINGS" "Z" (.int x1)) (hc5 : ¬ (x1 = (0 : Int32))) (f7 : Exa Z h0 r0 "java/lang/StringBuilder") (f9 : Fld Z h0 r0 cs0 "value" "[B" .null) (g11 : n0 ≤ r0) (f14 : Fld Z h0 r0 cs0 "coder" "B" (.int (0 : Int32))) (f17 : Fld Z h0 r0 cs0 "count" "I" (.int (0 : Int32))) (l20 : r0 < h0.size) :
    MetFree l (⟨cs0, "<init>", "(I)V"⟩ : MethodName) (head1 (Jvm.Cond.code (⟨cs0, "<init>", "(I)V"⟩ : MethodName) jdk_68_method_2_code 2 none :: ws) ({ frames := 1, cells := 1, slots := 16, locals := 12 } : Room)) (fun a U => a = #[(.ref r0), (.int (16 : Int32))] ∧ Z.Warmed39 U.vm ∧ U.heap = h0) (fun _ _ _ _ _ => True) (fun _ U o U' => ∃ v L, o = .returned v ∧ Q3_1 Z r0 x1 h0 n0 v U'.heap L ∧ FrameEnd U o U' L ({ frames := 1, cells := 1, slots := 16, locals := 12 } : Room).cells ({ frames := 1, cells := 1, slots := 16, locals := 12 } : Room).slots) := by
  refine MetFree.of_bodySF (plainFor_of_name pn_java_lang_AbstractStringBuilder) hisR ?_
  intro p e s m args below meth c s₁ Bd hml0 hP hK
  obtain ⟨rfl, hZ, hh⟩ := hP
  have hx := Bd.exec
  have hby := Bd.bytes
  have hml : c.maxLocals = 2 := hml0
  have hown : s.vm.findClass cs0 = some m.cls := findClass_of_methodNamed Bd.named
  have hnm := (name_of_methodNamed Bd.named Bd.method).1
  have X0 : Stand p l e ({ frames := 1, cells := 1, slots := 16, locals := 12 } : Room) s m #[(.ref r0), (.int (16 : Int32))] below meth c s₁ [] 0 0 := Stand.of_body Bd
  have e0 : s₁.heap = h0 := by rw [← hh, Bd.state]; rfl
  have N0 := Fr.nil n0
  have pre0 : ∀ t, Steps p.tables e below (s₁.setTop (mkF m 0 #[.val (.ref r0), .val (.int (16 : Int32))] [])) t → Steps p.tables e below (s₁.setTop (entryFrame m #[(.ref r0), (.int (16 : Int32))] 2)) t := fun t k => castTop (by first | (simp [entryFrame, mkF, argsToLocals, Value.category]; done) | rfl) k
  obtain ⟨T1, X1, e1, st1⟩ := initO X0 hx hZ hown (ww hw 19 rfl) (ww hw 20 rfl) (ww hw 21 rfl) e0 (g := (mkF m 1 #[.val (.ref r0), .val (.int (16 : Int32))] [(.ref r0)])) rfl (by rw [hml]; rfl) rfl (hb hby d3_1) (by decide) (W := 0) (by show 2 * 0 + _ ≤ _; exact Nat.le_of_eq rfl) (by decide)
  have f3 := f2.ext O0.2
  obtain ⟨T4, X4, e4, st4⟩ := getS2 X1 hx hZ hown (host := "") (Or.inl (ww hw 22 rfl)) Via.refl e1 f3 (g := (mkF m 4 #[.val (.ref r0), .val (.int (16 : Int32))] [])) rfl (hb hby d3_4)
  obtain ⟨T6, h6, k6, X6, e6, E6, A6, B6, st6⟩ := newPE X4 hx hZ (ww hw 24 rfl) e4 (g := (mkF m 12 #[.val (.ref r0), .val (.int (16 : Int32))] [(.int (16 : Int32)), (.ref r0)])) rfl (hb hby d3_12) rfl (by decide) (cap := 16) (by decide) (by decide) (by decide) (by decide) (ad := "[B") rfl
  obtain ⟨b6, g6⟩ : ∃ z, z = h0.size := ⟨_, rfl⟩
  rw [← g6] at A6 B6 st6
  have V6 : Arv Z h6 b6 k6 .byte (16 : Int32) [(.int (0 : Int32)), (.int (0 : Int32)), (.int (0 : Int32)), (.int (0 : Int32)), (.int (0 : Int32)), (.int (0 : Int32)), (.int (0 : Int32)), (.int (0 : Int32)), (.int (0 : Int32)), (.int (0 : Int32)), (.int (0 : Int32)), (.int (0 : Int32)), (.int (0 : Int32)), (.int (0 : Int32)), (.int (0 : Int32)), (.int (0 : Int32))] (.int (0 : Int32)) := (Arv.new A6 (by decide)).pad (pad_rep [] (.int (0 : Int32)) 16)
  have f8 := (f7.ext E6)
  have f10 := (f9.ext E6)
  obtain ⟨T12, h12, X12, e12, W12, st12⟩ := putF X6 hx hZ hown (host := "") (Or.inl (ww hw 25 rfl)) Via.refl e6 f10 f8 (Or.inl (ww hw 26 rfl)) (ww hw 8 rfl) (ty := (.array .byte)) (by decide) rfl rfl (g := (mkF m 14 #[.val (.ref r0), .val (.int (16 : Int32))] [(.ref b6), (.ref r0)])) rfl rfl (hb hby d3_14)
  have Fw12 := f10.same W12
  have N12 := Fr.snoc X12 N0 g11
  have f13 := (f8.wr W12)
  have f15 := ((f14.ext E6).other W12 (Or.inr (slot_ne (Or.inl (ww hw 28 rfl)) (Or.inl (ww hw 26 rfl)) (by decide) (t := .byte) (t' := (.array .byte)) (by decide) (by decide))))
  obtain ⟨T16, h16, X16, e16, W16, st16⟩ := putFN X12 hx hZ hown (ww hw 27 rfl) Via.refl e12 f15 f13 (Or.inl (ww hw 28 rfl)) (ww hw 8 rfl) (ty := .byte) (v' := (.int (0 : Int32))) (by decide) rfl (by decide) (g := (mkF m 19 #[.val (.ref r0), .val (.int (16 : Int32))] [(.int (0 : Int32)), (.ref r0)])) rfl rfl (hb hby d3_19)
  have Fw16 := f15.same W16
  have N16 := Fr.snoc X16 N12 g11
  have f18 := (((f17.ext E6).other W12 (Or.inr (slot_ne (Or.inl (ww hw 59 rfl)) (Or.inl (ww hw 26 rfl)) (by decide) (t := .int) (t' := (.array .byte)) (by decide) (by decide)))).other W16 (Or.inr (slot_ne (Or.inl (ww hw 59 rfl)) (Or.inl (ww hw 28 rfl)) (by decide) (t := .int) (t' := .byte) (by decide) (by decide))))
  have f19 := (Fw12.other W16 (Or.inr (slot_ne (Or.inl (ww hw 26 rfl)) (Or.inl (ww hw 28 rfl)) (by decide) (t := (.array .byte)) (t' := .byte) (by decide) (by decide))))
  have n21 := Nat.ne_of_lt (Nat.lt_of_lt_of_le l20 (Nat.le_of_eq g6.symm))
  have f22 := ((V6.other W12 (Ne.symm n21)).other W16 (Ne.symm n21))
  have f23 := ((B6.wr W12).wr W16)
  have kp24 : Keep h0 h6 [r0] := (Keep.refl h0 [r0]).ext E6
  have kp25 : Keep h0 h12 [r0] := kp24.wr W12 (Or.inl (List.mem_of_getElem? (i := 0) rfl))
  have kp26 : Keep h0 h16 [r0] := kp25.wr W16 (Or.inl (List.mem_of_getElem? (i := 0) rfl))
  obtain ⟨fs, hr, hrun, hended, hW, hsame⟩ := X16.leave (v := none) (fun _ => rfl)
  refine ⟨_, _, pre0 _ ?_, hrun, hended, _, _, rfl, ?_, ⟨_, rfl⟩, hW, hsame.mono (by decide) (by decide)⟩
  · show Steps p.tables e below (s₁.setTop (mkF m 0 #[.val (.ref r0), .val (.int (16 : Int32))] [])) _
    refine XS.aloadN X0.here hx rfl (hb hby d3_0) rfl rfl ?_
    refine st1 _ ?_
    show Steps p.tables e below (T1.setTop (mkF m 4 #[.val (.ref r0), .val (.int (16 : Int32))] [])) _
    refine st4 _ ?_
    show Steps p.tables e below (T4.setTop (mkF m 7 #[.val (.ref r0), .val (.int (16 : Int32))] [(.int x1)])) _
    refine XS.ifNo X4.here hx rfl (hb hby d3_7) rfl ((if0 _ _).trans (feq hc5).1) ?_
    refine XS.aloadN X4.here hx rfl (hb hby d3_10) rfl rfl ?_
    refine XS.iloadN X4.here hx rfl (hb hby d3_11) rfl ?_
    refine st6 _ ?_
    show Steps p.tables e below (T6.setTop (mkF m 14 #[.val (.ref r0), .val (.int (16 : Int32))] [(.ref b6), (.ref r0)])) _
    refine st12 _ ?_
    show Steps p.tables e below (T12.setTop (mkF m 17 #[.val (.ref r0), .val (.int (16 : Int32))] [])) _
    refine XS.aloadN X12.here hx rfl (hb hby d3_17) rfl rfl ?_
    refine XS.iconst X12.here hx rfl (hb hby d3_18) ?_
    refine st16 _ ?_
    show Steps p.tables e below (T16.setTop (mkF m 22 #[.val (.ref r0), .val (.int (16 : Int32))] [])) _
    refine XS.goto X16.here hx rfl (pc0 := 22) (pc' := 38) rfl (hb hby d3_22) (by decide) (by decide) ?_
    show Steps p.tables e below (T16.setTop (mkF m 38 #[.val (.ref r0), .val (.int (16 : Int32))] [])) _
    exact X16.returnOut hx Bd.returns (hb hby d3_38) hr
  · show Q3_1 Z r0 x1 h0 n0 _ T16.heap _
    rw [e16]
    exact ⟨b6, k6, rfl, N16, kp26, f19, Fw16, f18, (Nat.le_of_eq g6.symm), f22, f23⟩
theorem pd__I_V : parseMethodDescriptor "(I)V" = some ⟨[.int], none⟩ := by decide +kernel
theorem d2_6 : decode jdk_67_method_1_code 6 = .ok (.return_, 1) := by decide +kernel
theorem pn_java_lang_StringBuilder : plainName "java/lang/StringBuilder" = true := by first | (simp [plainName, overriddenIn]; done) | decide +kernel
def Q2_1 (Z : State) (r0 : Addr) (x1 : Int32) (h0 : Heap) (n0 : Nat) (v : Option Value) (h : Heap) (L : List Loc) : Prop := ∃ (b9_0 : Addr) (k9_0 : ClassId), v = none ∧ Fr n0 L ∧ Keep h0 h [r0] ∧ Fld Z h r0 cs0 "value" "[B" (.ref b9_0) ∧ Fld Z h r0 cs0 "coder" "B" (.int (0 : Int32)) ∧ Fld Z h r0 cs0 "count" "I" (.int (0 : Int32)) ∧ h0.size ≤ b9_0 ∧ Arv Z h b9_0 k9_0 .byte (16 : Int32) [(.int (0 : Int32)), (.int (0 : Int32)), (.int (0 : Int32)), (.int (0 : Int32)), (.int (0 : Int32)), (.int (0 : Int32)), (.int (0 : Int32)), (.int (0 : Int32)), (.int (0 : Int32)), (.int (0 : Int32)), (.int (0 : Int32)), (.int (0 : Int32)), (.int (0 : Int32)), (.int (0 : Int32)), (.int (0 : Int32)), (.int (0 : Int32))] (.int (0 : Int32)) ∧ Exa Z h b9_0 "[B"
set_option maxRecDepth 65536 in
set_option maxHeartbeats 40000000 in
theorem rm2_1 (l : Launch) (Z : State) (a0 : Array Value) (hw : ∀ d ∈ tables_1, d.before a0 Z = true) (ws : List Jvm.Cond) (r0 : Addr) (x1 : Int32) (h0 : Heap) (n0 : Nat) (O0 : Old Z n0 h0) (f1 : Sta Z Z.heap "java/lang/String" "COMPACT_STRINGS" "Z" (.int x1)) (hc2 : ¬ (x1 = (0 : Int32))) (f3 : Exa Z h0 r0 "java/lang/StringBuilder") (f4 : Fld Z h0 r0 cs0 "value" "[B" .null) (g5 : n0 ≤ r0) (f6 : Fld Z h0 r0 cs0 "coder" "B" (.int (0 : Int32))) (f7 : Fld Z h0 r0 cs0 "count" "I" (.int (0 : Int32))) (l8 : r0 < h0.size) :
    MetFree l (⟨"java/lang/StringBuilder", "<init>", "()V"⟩ : MethodName) (head1 (Jvm.Cond.code (⟨"java/lang/StringBuilder", "<init>", "()V"⟩ : MethodName) jdk_67_method_1_code 1 none :: ws) ({ frames := 2, cells := 1, slots := 16, locals := 25 } : Room)) (fun a U => a = #[(.ref r0)] ∧ Z.Warmed39 U.vm ∧ U.heap = h0) (fun _ _ _ _ _ => True) (fun _ U o U' => ∃ v L, o = .returned v ∧ Q2_1 Z r0 x1 h0 n0 v U'.heap L ∧ FrameEnd U o U' L ({ frames := 2, cells := 1, slots := 16, locals := 25 } : Room).cells ({ frames := 2, cells := 1, slots := 16, locals := 25 } : Room).slots) := by
  refine MetFree.of_bodySF (plainFor_of_name pn_java_lang_StringBuilder) hisR ?_
  intro p e s m args below meth c s₁ Bd hml0 hP hK
  obtain ⟨rfl, hZ, hh⟩ := hP
  have hx := Bd.exec
  have hby := Bd.bytes
  have hml : c.maxLocals = 1 := hml0
  have hown : s.vm.findClass "java/lang/StringBuilder" = some m.cls := findClass_of_methodNamed Bd.named
  have hnm := (name_of_methodNamed Bd.named Bd.method).1
  have X0 : Stand p l e ({ frames := 2, cells := 1, slots := 16, locals := 25 } : Room) s m #[(.ref r0)] below meth c s₁ [] 0 0 := Stand.of_body Bd
  have e0 : s₁.heap = h0 := by rw [← hh, Bd.state]; rfl
  have N0 := Fr.nil n0
  have pre0 : ∀ t, Steps p.tables e below (s₁.setTop (mkF m 0 #[.val (.ref r0)] [])) t → Steps p.tables e below (s₁.setTop (entryFrame m #[(.ref r0)] 1)) t := fun t k => castTop (by first | (simp [entryFrame, mkF, argsToLocals, Value.category]; done) | rfl) k
  obtain ⟨_, _, ⟨T9, L9, k9, n9⟩, -, X9, ⟨Lc9, hQ9, l9, y9, z9⟩, st9⟩ := X0.specialBack hx (y := (⟨cs0, "<init>", "(I)V"⟩ : MethodName)) rfl hown (mvT hZ (ww hw 13 rfl)) (mvT hZ (ww hw 14 rfl)) (mvT hZ (ww hw 18 rfl)) (by decide) (backOf (W := 0) (rm3_1 l Z a0 hw [] r0 x1 h0 n0 O0 f1 hc2 f3 f4 g5 f6 f7 l8) hZ (ww hw 18 rfl) (ww hw 17 rfl) (by decide) (by decide)) (g := (mkF m 3 #[.val (.ref r0)] [(.int (16 : Int32)), (.ref r0)])) rfl (by rw [hml]; rfl) (Steps.refl _) (a := r0) (argsL := [(.int (16 : Int32))]) (rest := []) (lenOf pd__I_V rfl) rfl (by show 2 * 0 + _ ≤ _; exact Nat.le_of_eq rfl) (hb hby d2_3) (fun _ _ => ⟨rfl, e0, (by decide : 0 + 1 ≤ _), (by decide : 0 + 16 ≤ _)⟩)
  dsimp only [Pt.U, Pt.locs, Pt.cells, Pt.slots] at X9 l9 y9 z9 st9 hQ9
  subst l9 y9 z9
  obtain ⟨b9_0, k9_0, rfl, N9q, K9, f10, f11, f12, f13, f14, f15⟩ := hQ9
  have N9 := Fr.app N0 N9q
  have kp16 : Keep h0 T9.heap [r0] := (Keep.refl h0 [r0]).trans K9 (allS (Or.inl (List.mem_of_getElem? (i := 0) rfl)) all0)
  obtain ⟨fs, hr, hrun, hended, hW, hsame⟩ := X9.leave (v := none) (fun _ => rfl)
  refine ⟨_, _, pre0 _ ?_, hrun, hended, _, _, rfl, ?_, ⟨_, rfl⟩, hW, hsame.mono (by decide) (by decide)⟩
  · show Steps p.tables e below (s₁.setTop (mkF m 0 #[.val (.ref r0)] [])) _
    refine XS.aloadN X0.here hx rfl (hb hby d2_0) rfl rfl ?_
    refine XS.bipush X0.here hx rfl (hb hby d2_1) ?_
    refine st9.trans ?_
    show Steps p.tables e below (T9.setTop (mkF m 6 #[.val (.ref r0)] [])) _
    exact X9.returnOut hx Bd.returns (hb hby d2_6) hr
  · show Q2_1 Z r0 x1 h0 n0 _ T9.heap _
    exact ⟨b9_0, k9_0, rfl, N9, kp16, f10, f11, f12, f13, f14, f15⟩
theorem pd___V : parseMethodDescriptor "()V" = some ⟨[], none⟩ := by decide +kernel
theorem d1_11 : decode prog_22_method_3_code 11 = .ok (.ldc 29, 2) := by decide +kernel
theorem own_str : ∀ a ∈ Bundle.stringAtoms, a ∈ tables_1 := by decide +kernel
theorem d1_13 : decode prog_22_method_3_code 13 = .ok (.invokevirtual 18, 3) := by decide +kernel
theorem d5_0 : decode jdk_67_method_7_code 0 = .ok (.aload_n 0, 1) := by decide +kernel
theorem d5_1 : decode jdk_67_method_7_code 1 = .ok (.aload_n 1, 1) := by decide +kernel
theorem d5_2 : decode jdk_67_method_7_code 2 = .ok (.invokespecial 29, 3) := by decide +kernel
theorem d6_0 : decode jdk_68_method_22_code 0 = .ok (.aload_n 1, 1) := by decide +kernel
theorem d6_1 : decode jdk_68_method_22_code 1 = .ok (.ifnonnull 8, 3) := by decide +kernel
theorem d6_9 : decode jdk_68_method_22_code 9 = .ok (.aload_n 1, 1) := by decide +kernel
theorem d6_10 : decode jdk_68_method_22_code 10 = .ok (.invokevirtual 32, 3) := by decide +kernel
theorem d7_0 : decode jdk_42_method_54_code 0 = .ok (.aload_n 0, 1) := by decide +kernel
theorem d7_1 : decode jdk_42_method_54_code 1 = .ok (.getfield 9, 3) := by decide +kernel
theorem d7_4 : decode jdk_42_method_54_code 4 = .ok (.arraylength, 1) := by decide +kernel
theorem d7_5 : decode jdk_42_method_54_code 5 = .ok (.aload_n 0, 1) := by decide +kernel
theorem d7_6 : decode jdk_42_method_54_code 6 = .ok (.invokevirtual 335, 3) := by decide +kernel
theorem d8_0 : decode jdk_42_method_152_code 0 = .ok (.getstatic 38, 3) := by decide +kernel
theorem d8_3 : decode jdk_42_method_152_code 3 = .ok (.ifCond .eq 10, 3) := by decide +kernel
theorem d8_6 : decode jdk_42_method_152_code 6 = .ok (.aload_n 0, 1) := by decide +kernel
theorem d8_7 : decode jdk_42_method_152_code 7 = .ok (.getfield 15, 3) := by decide +kernel
theorem d8_10 : decode jdk_42_method_152_code 10 = .ok (.goto 4, 3) := by decide +kernel
theorem d8_14 : decode jdk_42_method_152_code 14 = .ok (.ireturn, 1) := by decide +kernel
theorem pn_java_lang_String : plainName "java/lang/String" = true := by first | (simp [plainName, overriddenIn]; done) | decide +kernel
def Q8_1 (Z : State) (r0 : Addr) (x1 : Int32) (x2 : Int32) (h0 : Heap) (n0 : Nat) (v : Option Value) (h : Heap) (L : List Loc) : Prop := v = some (.int (nar .byte x2)) ∧ Fr n0 L ∧ h = h0
set_option maxRecDepth 65536 in
set_option maxHeartbeats 40000000 in
theorem rm8_1 (l : Launch) (Z : State) (a0 : Array Value) (hw : ∀ d ∈ tables_1, d.before a0 Z = true) (ws : List Jvm.Cond) (r0 : Addr) (x1 : Int32) (x2 : Int32) (h0 : Heap) (n0 : Nat) (O0 : Old Z n0 h0) (f1 : Sta Z Z.heap "java/lang/String" "COMPACT_STRINGS" "Z" (.int x1)) (hc4 : ¬ (x1 = (0 : Int32))) (f5 : Fld Z h0 r0 "java/lang/String" "coder" "B" (.int x2)) :
    MetFree l (⟨"java/lang/String", "coder", "()B"⟩ : MethodName) (head1 (Jvm.Cond.code (⟨"java/lang/String", "coder", "()B"⟩ : MethodName) jdk_42_method_152_code 1 (some .byte) :: ws) ({ frames := 0, cells := 0, slots := 0, locals := 0 } : Room)) (fun a U => a = #[(.ref r0)] ∧ Z.Warmed39 U.vm ∧ U.heap = h0) (fun _ _ _ _ _ => True) (fun _ U o U' => ∃ v L, o = .returned v ∧ Q8_1 Z r0 x1 x2 h0 n0 v U'.heap L ∧ FrameEnd U o U' L ({ frames := 0, cells := 0, slots := 0, locals := 0 } : Room).cells ({ frames := 0, cells := 0, slots := 0, locals := 0 } : Room).slots) := by
  refine MetFree.of_bodySF (plainFor_of_name pn_java_lang_String) hisR ?_
  intro p e s m args below meth c s₁ Bd hml0 hP hK
  obtain ⟨rfl, hZ, hh⟩ := hP
  have hx := Bd.exec
  have hby := Bd.bytes
  have hml : c.maxLocals = 1 := hml0
  have hown : s.vm.findClass "java/lang/String" = some m.cls := findClass_of_methodNamed Bd.named
  have hnm := (name_of_methodNamed Bd.named Bd.method).1
  have X0 : Stand p l e ({ frames := 0, cells := 0, slots := 0, locals := 0 } : Room) s m #[(.ref r0)] below meth c s₁ [] 0 0 := Stand.of_body Bd
  have e0 : s₁.heap = h0 := by rw [← hh, Bd.state]; rfl
  have N0 := Fr.nil n0
  have pre0 : ∀ t, Steps p.tables e below (s₁.setTop (mkF m 0 #[.val (.ref r0)] [])) t → Steps p.tables e below (s₁.setTop (entryFrame m #[(.ref r0)] 1)) t := fun t k => castTop (by first | (simp [entryFrame, mkF, argsToLocals, Value.category]; done) | rfl) k
  have f2 := f1.ext O0.2
  obtain ⟨T3, X3, e3, st3⟩ := getS2 X0 hx hZ hown (host := "") (Or.inl (ww hw 56 rfl)) Via.refl e0 f2 (g := (mkF m 0 #[.val (.ref r0)] [])) rfl (hb hby d8_0)
  obtain ⟨T6, X6, e6, st6⟩ := getF X3 hx hZ hown (host := "") (Or.inl (ww hw 57 rfl)) Via.refl e3 f5 (g := (mkF m 7 #[.val (.ref r0)] [(.ref r0)])) rfl rfl (hb hby d8_7)
  obtain ⟨fs, hr, hrun, hended, hW, hsame⟩ := X6.leave (v := some (.int (nar .byte x2))) (fun h => by rw [Bd.returns] at h; cases h)
  refine ⟨_, _, pre0 _ ?_, hrun, hended, _, _, rfl, ?_, ⟨_, rfl⟩, hW, hsame.mono (by decide) (by decide)⟩
  · show Steps p.tables e below (s₁.setTop (mkF m 0 #[.val (.ref r0)] [])) _
    refine st3 _ ?_
    show Steps p.tables e below (T3.setTop (mkF m 3 #[.val (.ref r0)] [(.int x1)])) _
    refine XS.ifNo X3.here hx rfl (hb hby d8_3) rfl ((if0 _ _).trans (feq hc4).1) ?_
    refine XS.aloadN X3.here hx rfl (hb hby d8_6) rfl rfl ?_
    refine st6 _ ?_
    show Steps p.tables e below (T6.setTop (mkF m 10 #[.val (.ref r0)] [(.int x2)])) _
    refine XS.goto X6.here hx rfl (pc0 := 10) (pc' := 14) rfl (hb hby d8_10) (by decide) (by decide) ?_
    show Steps p.tables e below (T6.setTop (mkF m 14 #[.val (.ref r0)] [(.int x2)])) _
    exact retN X6 hx (t := .byte) Bd.returns (by simp) (hb hby d8_14) hr
  · show Q8_1 Z r0 x1 x2 h0 n0 _ T6.heap _
    rw [e6]
    exact ⟨rfl, N0, rfl⟩
theorem pd___B : parseMethodDescriptor "()B" = some ⟨[], some .byte⟩ := by decide +kernel
theorem d7_9 : decode jdk_42_method_54_code 9 = .ok (.ishr, 1) := by decide +kernel
theorem d7_10 : decode jdk_42_method_54_code 10 = .ok (.ireturn, 1) := by decide +kernel
def Q7_1 (Z : State) (r0 : Addr) (r1 : Addr) (x2 : Int32) (c3 : ClassId) (t4 : List Value) (x5 : Int32) (x6 : Int32) (h0 : Heap) (n0 : Nat) (v : Option Value) (h : Heap) (L : List Loc) : Prop := v = some (.int (x2 >>> ((nar .byte x6) &&& 31))) ∧ Fr n0 L ∧ h = h0
set_option maxRecDepth 65536 in
set_option maxHeartbeats 40000000 in
theorem rm7_1 (l : Launch) (Z : State) (a0 : Array Value) (hw : ∀ d ∈ tables_1, d.before a0 Z = true) (ws : List Jvm.Cond) (r0 : Addr) (r1 : Addr) (x2 : Int32) (c3 : ClassId) (t4 : List Value) (x5 : Int32) (x6 : Int32) (h0 : Heap) (n0 : Nat) (O0 : Old Z n0 h0) (f1 : Fld Z h0 r0 "java/lang/String" "value" "[B" (.ref r1)) (f3 : Arv Z h0 r1 c3 .byte x2 t4 (.int (0 : Int32))) (f5 : Exa Z h0 r0 "java/lang/String") (f6 : Sta Z Z.heap "java/lang/String" "COMPACT_STRINGS" "Z" (.int x5)) (hc7 : ¬ (x5 = (0 : Int32))) (f8 : Fld Z h0 r0 "java/lang/String" "coder" "B" (.int x6)) :
    MetFree l (⟨"java/lang/String", "length", "()I"⟩ : MethodName) (head1 (Jvm.Cond.code (⟨"java/lang/String", "length", "()I"⟩ : MethodName) jdk_42_method_54_code 1 (some .int) :: ws) ({ frames := 1, cells := 0, slots := 0, locals := 13 } : Room)) (fun a U => a = #[(.ref r0)] ∧ Z.Warmed39 U.vm ∧ U.heap = h0) (fun _ _ _ _ _ => True) (fun _ U o U' => ∃ v L, o = .returned v ∧ Q7_1 Z r0 r1 x2 c3 t4 x5 x6 h0 n0 v U'.heap L ∧ FrameEnd U o U' L ({ frames := 1, cells := 0, slots := 0, locals := 13 } : Room).cells ({ frames := 1, cells := 0, slots := 0, locals := 13 } : Room).slots) := by
  refine MetFree.of_bodySF (plainFor_of_name pn_java_lang_String) hisR ?_
  intro p e s m args below meth c s₁ Bd hml0 hP hK
  obtain ⟨rfl, hZ, hh⟩ := hP
  have hx := Bd.exec
  have hby := Bd.bytes
  have hml : c.maxLocals = 1 := hml0
  have hown : s.vm.findClass "java/lang/String" = some m.cls := findClass_of_methodNamed Bd.named
  have hnm := (name_of_methodNamed Bd.named Bd.method).1
  have X0 : Stand p l e ({ frames := 1, cells := 0, slots := 0, locals := 13 } : Room) s m #[(.ref r0)] below meth c s₁ [] 0 0 := Stand.of_body Bd
  have e0 : s₁.heap = h0 := by rw [← hh, Bd.state]; rfl
  have N0 := Fr.nil n0
  have pre0 : ∀ t, Steps p.tables e below (s₁.setTop (mkF m 0 #[.val (.ref r0)] [])) t → Steps p.tables e below (s₁.setTop (entryFrame m #[(.ref r0)] 1)) t := fun t k => castTop (by first | (simp [entryFrame, mkF, argsToLocals, Value.category]; done) | rfl) k
  obtain ⟨T2, X2, e2, st2⟩ := getF X0 hx hZ hown (host := "") (Or.inl (ww hw 50 rfl)) Via.refl e0 f1 (g := (mkF m 1 #[.val (.ref r0)] [(.ref r0)])) rfl rfl (hb hby d7_1)
  obtain ⟨clq4, Arq4, qq4, Sq4, Nq4, Hq4, Gq4⟩ := id f3
  obtain ⟨cqq10, kqq10, qq10a, qq10b, qq10c⟩ := isOf hZ e2 f5
  obtain ⟨_, _, ⟨T9, L9, k9, n9⟩, -, X9, ⟨Lc9, hQ9, l9, y9, z9⟩, st9⟩ := X2.virtualBack hx (y := (⟨"java/lang/String", "coder", "()B"⟩ : MethodName)) (z := (⟨"java/lang/String", "coder", "()B"⟩ : MethodName)) hown (mvT hZ (ww hw 51 rfl)) (mvT hZ (ww hw 52 rfl)) (notFace_of_selects (args := #[]) (mvT hZ (ww hw 54 rfl))) (mvT hZ (ww hw 54 rfl)) (mvT hZ (ww hw 53 rfl)) (by decide) (backOf (W := 1) (rm8_1 l Z a0 hw [] r0 x5 x6 h0 n0 O0 f6 hc7 f8) hZ (ww hw 55 rfl) (ww hw 23 rfl) (by decide) (by decide)) qq10a qq10c (g := (mkF m 6 #[.val (.ref r0)] [(.ref r0), (.int x2)])) rfl (by rw [hml]; rfl) (Steps.refl _) (argsL := []) (rest := [(.int x2)]) (lenOf pd___B rfl) rfl (by show 2 * 0 + _ ≤ _; exact Nat.le_of_eq rfl) (hb hby d7_6) (fun _ _ => ⟨rfl, e2, (by decide : 0 + 0 ≤ _), (by decide : 0 + 0 ≤ _)⟩)
  dsimp only [Pt.U, Pt.locs, Pt.cells, Pt.slots] at X9 l9 y9 z9 st9 hQ9
  subst l9 y9 z9
  obtain ⟨rfl, N9q, E9⟩ := hQ9
  have N9 := Fr.app N0 N9q
  obtain ⟨fs, hr, hrun, hended, hW, hsame⟩ := X9.leave (v := some (.int (x2 >>> ((nar .byte x6) &&& 31)))) (fun h => by rw [Bd.returns] at h; cases h)
  refine ⟨_, _, pre0 _ ?_, hrun, hended, _, _, rfl, ?_, ⟨_, rfl⟩, hW, hsame.mono (by decide) (by decide)⟩
  · show Steps p.tables e below (s₁.setTop (mkF m 0 #[.val (.ref r0)] [])) _
    refine XS.aloadN X0.here hx rfl (hb hby d7_0) rfl rfl ?_
    refine st2 _ ?_
    show Steps p.tables e below (T2.setTop (mkF m 4 #[.val (.ref r0)] [(.ref r1)])) _
    refine X2.arraylength hx (by rw [e2]; exact Arq4.1) (State.isArrayOf_alike hZ.alike Arq4.2.1) (g := (mkF m 4 #[.val (.ref r0)] [(.ref r1)])) rfl rfl (hb hby d7_4) _ ?_
    rw [len_of Sq4 Nq4]
    show Steps p.tables e below (T2.setTop (mkF m 5 #[.val (.ref r0)] [(.int x2)])) _
    refine XS.aloadN X2.here hx rfl (hb hby d7_5) rfl rfl ?_
    refine st9.trans ?_
    show Steps p.tables e below (T9.setTop (mkF m 9 #[.val (.ref r0)] [(.int (nar .byte x6)), (.int x2)])) _
    refine XS.ishr X9.here hx rfl (hb hby d7_9) rfl ?_
    exact retOut X9 hx (i := .ireturn) Bd.returns rfl (Or.inl ⟨rfl, Or.inl rfl, _, rfl⟩) (hb hby d7_10) hr
  · show Q7_1 Z r0 r1 x2 c3 t4 x5 x6 h0 n0 _ T9.heap _
    rw [E9]
    exact ⟨rfl, N9, rfl⟩
theorem pd___I : parseMethodDescriptor "()I" = some ⟨[], some .int⟩ := by decide +kernel
theorem d6_13 : decode jdk_68_method_22_code 13 = .ok (.istore_n 2, 1) := by decide +kernel
theorem d6_14 : decode jdk_68_method_22_code 14 = .ok (.aload_n 0, 1) := by decide +kernel
theorem d6_15 : decode jdk_68_method_22_code 15 = .ok (.aload_n 0, 1) := by decide +kernel
theorem d6_16 : decode jdk_68_method_22_code 16 = .ok (.getfield 79, 3) := by decide +kernel
theorem d6_19 : decode jdk_68_method_22_code 19 = .ok (.iload_n 2, 1) := by decide +kernel
theorem d6_20 : decode jdk_68_method_22_code 20 = .ok (.iadd, 1) := by decide +kernel
theorem d6_21 : decode jdk_68_method_22_code 21 = .ok (.invokevirtual 100, 3) := by decide +kernel
theorem d9_0 : decode jdk_68_method_9_code 0 = .ok (.aload_n 0, 1) := by decide +kernel
theorem d9_1 : decode jdk_68_method_9_code 1 = .ok (.getfield 15, 3) := by decide +kernel
theorem d9_4 : decode jdk_68_method_9_code 4 = .ok (.arraylength, 1) := by decide +kernel
theorem d9_5 : decode jdk_68_method_9_code 5 = .ok (.aload_n 0, 1) := by decide +kernel
theorem d9_6 : decode jdk_68_method_9_code 6 = .ok (.getfield 22, 3) := by decide +kernel
theorem d9_9 : decode jdk_68_method_9_code 9 = .ok (.ishr, 1) := by decide +kernel
theorem d9_10 : decode jdk_68_method_9_code 10 = .ok (.istore_n 2, 1) := by decide +kernel
theorem d9_11 : decode jdk_68_method_9_code 11 = .ok (.iload_n 1, 1) := by decide +kernel
theorem d9_12 : decode jdk_68_method_9_code 12 = .ok (.iload_n 2, 1) := by decide +kernel
theorem d9_13 : decode jdk_68_method_9_code 13 = .ok (.isub, 1) := by decide +kernel
theorem d9_14 : decode jdk_68_method_9_code 14 = .ok (.ifCond .le 24, 3) := by decide +kernel
theorem d9_38 : decode jdk_68_method_9_code 38 = .ok (.return_, 1) := by decide +kernel
def Q9_1 (Z : State) (r0 : Addr) (x1 : Int32) (r2 : Addr) (x3 : Int32) (c4 : ClassId) (t5 : List Value) (x6 : Int32) (h0 : Heap) (n0 : Nat) (v : Option Value) (h : Heap) (L : List Loc) : Prop := v = none ∧ Fr n0 L ∧ h = h0
set_option maxRecDepth 65536 in
set_option maxHeartbeats 40000000 in
theorem rm9_1 (l : Launch) (Z : State) (a0 : Array Value) (hw : ∀ d ∈ tables_1, d.before a0 Z = true) (ws : List Jvm.Cond) (r0 : Addr) (x1 : Int32) (r2 : Addr) (x3 : Int32) (c4 : ClassId) (t5 : List Value) (x6 : Int32) (h0 : Heap) (n0 : Nat) (O0 : Old Z n0 h0) (f1 : Fld Z h0 r0 cs0 "value" "[B" (.ref r2)) (f3 : Arv Z h0 r2 c4 .byte x3 t5 (.int (0 : Int32))) (f5 : Fld Z h0 r0 cs0 "coder" "B" (.int x6)) (hc7 : ¬ ((0 : Int32) < (x1 - (x3 >>> (x6 &&& 31))))) :
    MetFree l (⟨cs0, "ensureCapacityInternal", "(I)V"⟩ : MethodName) (head1 (Jvm.Cond.code (⟨cs0, "ensureCapacityInternal", "(I)V"⟩ : MethodName) jdk_68_method_9_code 3 none :: ws) ({ frames := 0, cells := 0, slots := 0, locals := 0 } : Room)) (fun a U => a = #[(.ref r0), (.int x1)] ∧ Z.Warmed39 U.vm ∧ U.heap = h0) (fun _ _ _ _ _ => True) (fun _ U o U' => ∃ v L, o = .returned v ∧ Q9_1 Z r0 x1 r2 x3 c4 t5 x6 h0 n0 v U'.heap L ∧ FrameEnd U o U' L ({ frames := 0, cells := 0, slots := 0, locals := 0 } : Room).cells ({ frames := 0, cells := 0, slots := 0, locals := 0 } : Room).slots) := by
  refine MetFree.of_bodySF (plainFor_of_name pn_java_lang_AbstractStringBuilder) hisR ?_
  intro p e s m args below meth c s₁ Bd hml0 hP hK
  obtain ⟨rfl, hZ, hh⟩ := hP
  have hx := Bd.exec
  have hby := Bd.bytes
  have hml : c.maxLocals = 3 := hml0
  have hown : s.vm.findClass cs0 = some m.cls := findClass_of_methodNamed Bd.named
  have hnm := (name_of_methodNamed Bd.named Bd.method).1
  have X0 : Stand p l e ({ frames := 0, cells := 0, slots := 0, locals := 0 } : Room) s m #[(.ref r0), (.int x1)] below meth c s₁ [] 0 0 := Stand.of_body Bd
  have e0 : s₁.heap = h0 := by rw [← hh, Bd.state]; rfl
  have N0 := Fr.nil n0
  have pre0 : ∀ t, Steps p.tables e below (s₁.setTop (mkF m 0 #[.val (.ref r0), .val (.int x1), .unset] [])) t → Steps p.tables e below (s₁.setTop (entryFrame m #[(.ref r0), (.int x1)] 3)) t := fun t k => castTop (by first | (simp [entryFrame, mkF, argsToLocals, Value.category]; done) | rfl) k
  obtain ⟨T2, X2, e2, st2⟩ := getF X0 hx hZ hown (host := "") (Or.inl (ww hw 25 rfl)) Via.refl e0 f1 (g := (mkF m 1 #[.val (.ref r0), .val (.int x1), .unset] [(.ref r0)])) rfl rfl (hb hby d9_1)
  obtain ⟨clq4, Arq4, qq4, Sq4, Nq4, Hq4, Gq4⟩ := id f3
  obtain ⟨T6, X6, e6, st6⟩ := getF X2 hx hZ hown (host := "") (Or.inl (ww hw 27 rfl)) Via.refl e2 f5 (g := (mkF m 6 #[.val (.ref r0), .val (.int x1), .unset] [(.ref r0), (.int x3)])) rfl rfl (hb hby d9_6)
  obtain ⟨fs, hr, hrun, hended, hW, hsame⟩ := X6.leave (v := none) (fun _ => rfl)
  refine ⟨_, _, pre0 _ ?_, hrun, hended, _, _, rfl, ?_, ⟨_, rfl⟩, hW, hsame.mono (by decide) (by decide)⟩
  · show Steps p.tables e below (s₁.setTop (mkF m 0 #[.val (.ref r0), .val (.int x1), .unset] [])) _
    refine XS.aloadN X0.here hx rfl (hb hby d9_0) rfl rfl ?_
    refine st2 _ ?_
    show Steps p.tables e below (T2.setTop (mkF m 4 #[.val (.ref r0), .val (.int x1), .unset] [(.ref r2)])) _
    refine X2.arraylength hx (by rw [e2]; exact Arq4.1) (State.isArrayOf_alike hZ.alike Arq4.2.1) (g := (mkF m 4 #[.val (.ref r0), .val (.int x1), .unset] [(.ref r2)])) rfl rfl (hb hby d9_4) _ ?_
    rw [len_of Sq4 Nq4]
    show Steps p.tables e below (T2.setTop (mkF m 5 #[.val (.ref r0), .val (.int x1), .unset] [(.int x3)])) _
    refine XS.aloadN X2.here hx rfl (hb hby d9_5) rfl rfl ?_
    refine st6 _ ?_
    show Steps p.tables e below (T6.setTop (mkF m 9 #[.val (.ref r0), .val (.int x1), .unset] [(.int x6), (.int x3)])) _
    refine XS.ishr X6.here hx rfl (hb hby d9_9) rfl ?_
    refine XS.istoreN X6.here hx rfl (hb hby d9_10) rfl (l' := #[.val (.ref r0), .val (.int x1), .val (.int (x3 >>> (x6 &&& 31)))]) rfl ?_
    refine XS.iloadN X6.here hx rfl (hb hby d9_11) rfl ?_
    refine XS.iloadN X6.here hx rfl (hb hby d9_12) rfl ?_
    show Steps p.tables e below (T6.setTop (mkF m 13 #[.val (.ref r0), .val (.int x1), .val (.int (x3 >>> (x6 &&& 31)))] [(.int (x3 >>> (x6 &&& 31))), (.int x1)])) _
    refine XS.isub X6.here hx rfl (hb hby d9_13) rfl ?_
    refine XS.ifYes X6.here hx rfl (pc0 := 14) (pc' := 38) rfl (hb hby d9_14) rfl ((if0 _ _).trans (flt hc7).2.2.2) (by decide) (by decide) ?_
    show Steps p.tables e below (T6.setTop (mkF m 38 #[.val (.ref r0), .val (.int x1), .val (.int (x3 >>> (x6 &&& 31)))] [])) _
    exact X6.returnOut hx Bd.returns (hb hby d9_38) hr
  · show Q9_1 Z r0 x1 r2 x3 c4 t5 x6 h0 n0 _ T6.heap _
    rw [e6]
    exact ⟨rfl, N0, rfl⟩
theorem own_selfsel {s : State} {args : Array Value} {C : String} {y : MethodName} (hsel : (Jvm.Cond.selects C y y).before args s = true) (hpriv : s.PrivateAt y) (hinst : (Jvm.Cond.instanceMethod y).before args s = true) (hy : y.cls ≠ "java/lang/invoke/MethodHandle" ∧ y.cls ≠ "java/lang/invoke/VarHandle") : (Jvm.Cond.selects y.cls y y).before args s = true := by
  obtain ⟨c2, r2, m2, -, -, q3, -, kP, hkP, hkPi⟩ := Cond.selects_spec hsel
  exact selects_self_of_private (findClass_of_methodNamed q3) hkP hkPi hpriv hinst hy
theorem d6_24 : decode jdk_68_method_22_code 24 = .ok (.aload_n 0, 1) := by decide +kernel
theorem d6_25 : decode jdk_68_method_22_code 25 = .ok (.aload_n 0, 1) := by decide +kernel
theorem d6_26 : decode jdk_68_method_22_code 26 = .ok (.getfield 79, 3) := by decide +kernel
theorem d6_29 : decode jdk_68_method_22_code 29 = .ok (.aload_n 1, 1) := by decide +kernel
theorem d6_30 : decode jdk_68_method_22_code 30 = .ok (.invokevirtual 208, 3) := by decide +kernel
theorem d10_0 : decode jdk_68_method_73_code 0 = .ok (.aload_n 0, 1) := by decide +kernel
theorem d10_1 : decode jdk_68_method_73_code 1 = .ok (.aload_n 2, 1) := by decide +kernel
theorem d10_2 : decode jdk_68_method_73_code 2 = .ok (.invokevirtual 397, 3) := by decide +kernel
theorem d11_0 : decode jdk_68_method_71_code 0 = .ok (.getstatic 18, 3) := by decide +kernel
theorem d11_3 : decode jdk_68_method_71_code 3 = .ok (.ifCond .eq 18, 3) := by decide +kernel
theorem d11_6 : decode jdk_68_method_71_code 6 = .ok (.aload_n 0, 1) := by decide +kernel
theorem d11_7 : decode jdk_68_method_71_code 7 = .ok (.getfield 22, 3) := by decide +kernel
theorem d11_10 : decode jdk_68_method_71_code 10 = .ok (.aload_n 1, 1) := by decide +kernel
theorem d11_11 : decode jdk_68_method_71_code 11 = .ok (.invokevirtual 40, 3) := by decide +kernel
def Q8_2 (Z : State) (r0 : Addr) (x1 : Int32) (h0 : Heap) (n0 : Nat) (v : Option Value) (h : Heap) (L : List Loc) : Prop := v = some (.int (0 : Int32)) ∧ Fr n0 L ∧ h = h0
set_option maxRecDepth 65536 in
set_option maxHeartbeats 40000000 in
theorem rm8_2 (l : Launch) (Z : State) (a0 : Array Value) (hw : ∀ d ∈ tables_1, d.before a0 Z = true) (ws : List Jvm.Cond) (r0 : Addr) (x1 : Int32) (h0 : Heap) (n0 : Nat) (O0 : Old Z n0 h0) (f1 : Sta Z Z.heap "java/lang/String" "COMPACT_STRINGS" "Z" (.int x1)) (hc4 : ¬ (x1 = (0 : Int32))) (f5 : Fld Z h0 r0 "java/lang/String" "coder" "B" (.int (0 : Int32))) :
    MetFree l (⟨"java/lang/String", "coder", "()B"⟩ : MethodName) (head1 (Jvm.Cond.code (⟨"java/lang/String", "coder", "()B"⟩ : MethodName) jdk_42_method_152_code 1 (some .byte) :: ws) ({ frames := 0, cells := 0, slots := 0, locals := 0 } : Room)) (fun a U => a = #[(.ref r0)] ∧ Z.Warmed39 U.vm ∧ U.heap = h0) (fun _ _ _ _ _ => True) (fun _ U o U' => ∃ v L, o = .returned v ∧ Q8_2 Z r0 x1 h0 n0 v U'.heap L ∧ FrameEnd U o U' L ({ frames := 0, cells := 0, slots := 0, locals := 0 } : Room).cells ({ frames := 0, cells := 0, slots := 0, locals := 0 } : Room).slots) := by
  refine MetFree.of_bodySF (plainFor_of_name pn_java_lang_String) hisR ?_
  intro p e s m args below meth c s₁ Bd hml0 hP hK
  obtain ⟨rfl, hZ, hh⟩ := hP
  have hx := Bd.exec
  have hby := Bd.bytes
  have hml : c.maxLocals = 1 := hml0
  have hown : s.vm.findClass "java/lang/String" = some m.cls := findClass_of_methodNamed Bd.named
  have hnm := (name_of_methodNamed Bd.named Bd.method).1
  have X0 : Stand p l e ({ frames := 0, cells := 0, slots := 0, locals := 0 } : Room) s m #[(.ref r0)] below meth c s₁ [] 0 0 := Stand.of_body Bd
  have e0 : s₁.heap = h0 := by rw [← hh, Bd.state]; rfl
  have N0 := Fr.nil n0
  have pre0 : ∀ t, Steps p.tables e below (s₁.setTop (mkF m 0 #[.val (.ref r0)] [])) t → Steps p.tables e below (s₁.setTop (entryFrame m #[(.ref r0)] 1)) t := fun t k => castTop (by first | (simp [entryFrame, mkF, argsToLocals, Value.category]; done) | rfl) k
  have f2 := f1.ext O0.2
  obtain ⟨T3, X3, e3, st3⟩ := getS2 X0 hx hZ hown (host := "") (Or.inl (ww hw 56 rfl)) Via.refl e0 f2 (g := (mkF m 0 #[.val (.ref r0)] [])) rfl (hb hby d8_0)
  obtain ⟨T6, X6, e6, st6⟩ := getF X3 hx hZ hown (host := "") (Or.inl (ww hw 57 rfl)) Via.refl e3 f5 (g := (mkF m 7 #[.val (.ref r0)] [(.ref r0)])) rfl rfl (hb hby d8_7)
  obtain ⟨fs, hr, hrun, hended, hW, hsame⟩ := X6.leave (v := some (.int (0 : Int32))) (fun h => by rw [Bd.returns] at h; cases h)
  refine ⟨_, _, pre0 _ ?_, hrun, hended, _, _, rfl, ?_, ⟨_, rfl⟩, hW, hsame.mono (by decide) (by decide)⟩
  · show Steps p.tables e below (s₁.setTop (mkF m 0 #[.val (.ref r0)] [])) _
    refine st3 _ ?_
    show Steps p.tables e below (T3.setTop (mkF m 3 #[.val (.ref r0)] [(.int x1)])) _
    refine XS.ifNo X3.here hx rfl (hb hby d8_3) rfl ((if0 _ _).trans (feq hc4).1) ?_
    refine XS.aloadN X3.here hx rfl (hb hby d8_6) rfl rfl ?_
    refine st6 _ ?_
    show Steps p.tables e below (T6.setTop (mkF m 10 #[.val (.ref r0)] [(.int (0 : Int32))])) _
    refine XS.goto X6.here hx rfl (pc0 := 10) (pc' := 14) rfl (hb hby d8_10) (by decide) (by decide) ?_
    show Steps p.tables e below (T6.setTop (mkF m 14 #[.val (.ref r0)] [(.int (0 : Int32))])) _
    exact retN X6 hx (t := .byte) Bd.returns (by simp) (hb hby d8_14) hr
  · show Q8_2 Z r0 x1 h0 n0 _ T6.heap _
    rw [e6]
    exact ⟨rfl, N0, rfl⟩
theorem d11_14 : decode jdk_68_method_71_code 14 = .ok (.if_icmp .eq 7, 3) := by decide +kernel
theorem d11_21 : decode jdk_68_method_71_code 21 = .ok (.return_, 1) := by decide +kernel
def Q11_1 (Z : State) (r0 : Addr) (r1 : Addr) (x2 : Int32) (h0 : Heap) (n0 : Nat) (v : Option Value) (h : Heap) (L : List Loc) : Prop := v = none ∧ Fr n0 L ∧ h = h0
set_option maxRecDepth 65536 in
set_option maxHeartbeats 40000000 in
theorem rm11_1 (l : Launch) (Z : State) (a0 : Array Value) (hw : ∀ d ∈ tables_1, d.before a0 Z = true) (ws : List Jvm.Cond) (r0 : Addr) (r1 : Addr) (x2 : Int32) (h0 : Heap) (n0 : Nat) (O0 : Old Z n0 h0) (f1 : Sta Z Z.heap "java/lang/String" "COMPACT_STRINGS" "Z" (.int x2)) (hc4 : ¬ (x2 = (0 : Int32))) (f5 : Fld Z h0 r0 cs0 "coder" "B" (.int (0 : Int32))) (f7 : Exa Z h0 r1 "java/lang/String") (f8 : Fld Z h0 r1 "java/lang/String" "coder" "B" (.int (0 : Int32))) :
    MetFree l (⟨cs0, "inflateIfNeededFor", "(Ljava/lang/String;)V"⟩ : MethodName) (head1 (Jvm.Cond.code (⟨cs0, "inflateIfNeededFor", "(Ljava/lang/String;)V"⟩ : MethodName) jdk_68_method_71_code 2 none :: ws) ({ frames := 1, cells := 0, slots := 0, locals := 13 } : Room)) (fun a U => a = #[(.ref r0), (.ref r1)] ∧ Z.Warmed39 U.vm ∧ U.heap = h0) (fun _ _ _ _ _ => True) (fun _ U o U' => ∃ v L, o = .returned v ∧ Q11_1 Z r0 r1 x2 h0 n0 v U'.heap L ∧ FrameEnd U o U' L ({ frames := 1, cells := 0, slots := 0, locals := 13 } : Room).cells ({ frames := 1, cells := 0, slots := 0, locals := 13 } : Room).slots) := by
  refine MetFree.of_bodySF (plainFor_of_name pn_java_lang_AbstractStringBuilder) hisR ?_
  intro p e s m args below meth c s₁ Bd hml0 hP hK
  obtain ⟨rfl, hZ, hh⟩ := hP
  have hx := Bd.exec
  have hby := Bd.bytes
  have hml : c.maxLocals = 2 := hml0
  have hown : s.vm.findClass cs0 = some m.cls := findClass_of_methodNamed Bd.named
  have hnm := (name_of_methodNamed Bd.named Bd.method).1
  have X0 : Stand p l e ({ frames := 1, cells := 0, slots := 0, locals := 13 } : Room) s m #[(.ref r0), (.ref r1)] below meth c s₁ [] 0 0 := Stand.of_body Bd
  have e0 : s₁.heap = h0 := by rw [← hh, Bd.state]; rfl
  have N0 := Fr.nil n0
  have pre0 : ∀ t, Steps p.tables e below (s₁.setTop (mkF m 0 #[.val (.ref r0), .val (.ref r1)] [])) t → Steps p.tables e below (s₁.setTop (entryFrame m #[(.ref r0), (.ref r1)] 2)) t := fun t k => castTop (by first | (simp [entryFrame, mkF, argsToLocals, Value.category]; done) | rfl) k
  have f2 := f1.ext O0.2
  obtain ⟨T3, X3, e3, st3⟩ := getS2 X0 hx hZ hown (host := "") (Or.inl (ww hw 22 rfl)) Via.refl e0 f2 (g := (mkF m 0 #[.val (.ref r0), .val (.ref r1)] [])) rfl (hb hby d11_0)
  obtain ⟨T6, X6, e6, st6⟩ := getF X3 hx hZ hown (host := "") (Or.inl (ww hw 27 rfl)) Via.refl e3 f5 (g := (mkF m 7 #[.val (.ref r0), .val (.ref r1)] [(.ref r0)])) rfl rfl (hb hby d11_7)
  obtain ⟨cqq10, kqq10, qq10a, qq10b, qq10c⟩ := isOf hZ e6 f7
  obtain ⟨_, _, ⟨T9, L9, k9, n9⟩, -, X9, ⟨Lc9, hQ9, l9, y9, z9⟩, st9⟩ := X6.virtualBack hx (y := (⟨"java/lang/String", "coder", "()B"⟩ : MethodName)) (z := (⟨"java/lang/String", "coder", "()B"⟩ : MethodName)) hown (mvT hZ (ww hw 75 rfl)) (mvT hZ (ww hw 52 rfl)) (notFace_of_selects (args := #[]) (mvT hZ (ww hw 54 rfl))) (mvT hZ (ww hw 54 rfl)) (mvT hZ (ww hw 53 rfl)) (by decide) (backOf (W := 1) (rm8_2 l Z a0 hw [] r1 x2 h0 n0 O0 f1 hc4 f8) hZ (ww hw 55 rfl) (ww hw 23 rfl) (by decide) (by decide)) qq10a qq10c (g := (mkF m 11 #[.val (.ref r0), .val (.ref r1)] [(.ref r1), (.int (0 : Int32))])) rfl (by rw [hml]; rfl) (Steps.refl _) (argsL := []) (rest := [(.int (0 : Int32))]) (lenOf pd___B rfl) rfl (by show 2 * 0 + _ ≤ _; exact Nat.le_of_eq rfl) (hb hby d11_11) (fun _ _ => ⟨rfl, e6, (by decide : 0 + 0 ≤ _), (by decide : 0 + 0 ≤ _)⟩)
  dsimp only [Pt.U, Pt.locs, Pt.cells, Pt.slots] at X9 l9 y9 z9 st9 hQ9
  subst l9 y9 z9
  obtain ⟨rfl, N9q, E9⟩ := hQ9
  have N9 := Fr.app N0 N9q
  obtain ⟨fs, hr, hrun, hended, hW, hsame⟩ := X9.leave (v := none) (fun _ => rfl)
  refine ⟨_, _, pre0 _ ?_, hrun, hended, _, _, rfl, ?_, ⟨_, rfl⟩, hW, hsame.mono (by decide) (by decide)⟩
  · show Steps p.tables e below (s₁.setTop (mkF m 0 #[.val (.ref r0), .val (.ref r1)] [])) _
    refine st3 _ ?_
    show Steps p.tables e below (T3.setTop (mkF m 3 #[.val (.ref r0), .val (.ref r1)] [(.int x2)])) _
    refine XS.ifNo X3.here hx rfl (hb hby d11_3) rfl ((if0 _ _).trans (feq hc4).1) ?_
    refine XS.aloadN X3.here hx rfl (hb hby d11_6) rfl rfl ?_
    refine st6 _ ?_
    show Steps p.tables e below (T6.setTop (mkF m 10 #[.val (.ref r0), .val (.ref r1)] [(.int (0 : Int32))])) _
    refine XS.aloadN X6.here hx rfl (hb hby d11_10) rfl rfl ?_
    refine st9.trans ?_
    show Steps p.tables e below (T9.setTop (mkF m 14 #[.val (.ref r0), .val (.ref r1)] [(.int (0 : Int32)), (.int (0 : Int32))])) _
    refine XS.icmpYes X9.here hx rfl (pc0 := 14) (pc' := 21) rfl (hb hby d11_14) rfl (teq (rfl : (0 : Int32) = (0 : Int32))).1 (by decide) (by decide) ?_
    show Steps p.tables e below (T9.setTop (mkF m 21 #[.val (.ref r0), .val (.ref r1)] [])) _
    exact X9.returnOut hx Bd.returns (hb hby d11_21) hr
  · show Q11_1 Z r0 r1 x2 h0 n0 _ T9.heap _
    rw [E9]
    exact ⟨rfl, N9, rfl⟩
theorem pd__Ljava_lang_String__V : parseMethodDescriptor "(Ljava/lang/String;)V" = some ⟨[(.object "java/lang/String")], none⟩ := by decide +kernel
theorem d10_5 : decode jdk_68_method_73_code 5 = .ok (.aload_n 2, 1) := by decide +kernel
theorem d10_6 : decode jdk_68_method_73_code 6 = .ok (.aload_n 0, 1) := by decide +kernel
theorem d10_7 : decode jdk_68_method_73_code 7 = .ok (.getfield 15, 3) := by decide +kernel
theorem d10_10 : decode jdk_68_method_73_code 10 = .ok (.iload_n 1, 1) := by decide +kernel
theorem d10_11 : decode jdk_68_method_73_code 11 = .ok (.aload_n 0, 1) := by decide +kernel
theorem d10_12 : decode jdk_68_method_73_code 12 = .ok (.getfield 22, 3) := by decide +kernel
theorem d10_15 : decode jdk_68_method_73_code 15 = .ok (.invokevirtual 399, 3) := by decide +kernel
theorem d12_0 : decode jdk_42_method_147_code 0 = .ok (.aload_n 0, 1) := by decide +kernel
theorem d12_1 : decode jdk_42_method_147_code 1 = .ok (.invokevirtual 335, 3) := by decide +kernel
theorem d12_4 : decode jdk_42_method_147_code 4 = .ok (.iload_n 3, 1) := by decide +kernel
theorem d12_5 : decode jdk_42_method_147_code 5 = .ok (.if_icmp .ne 23, 3) := by decide +kernel
theorem d12_8 : decode jdk_42_method_147_code 8 = .ok (.aload_n 0, 1) := by decide +kernel
theorem d12_9 : decode jdk_42_method_147_code 9 = .ok (.getfield 9, 3) := by decide +kernel
theorem d12_12 : decode jdk_42_method_147_code 12 = .ok (.iconst 0, 1) := by decide +kernel
theorem d12_13 : decode jdk_42_method_147_code 13 = .ok (.aload_n 1, 1) := by decide +kernel
theorem d12_14 : decode jdk_42_method_147_code 14 = .ok (.iload_n 2, 1) := by decide +kernel
theorem d12_15 : decode jdk_42_method_147_code 15 = .ok (.iload_n 3, 1) := by decide +kernel
theorem d12_16 : decode jdk_42_method_147_code 16 = .ok (.ishl, 1) := by decide +kernel
theorem d12_17 : decode jdk_42_method_147_code 17 = .ok (.aload_n 0, 1) := by decide +kernel
theorem d12_18 : decode jdk_42_method_147_code 18 = .ok (.getfield 9, 3) := by decide +kernel
theorem d12_21 : decode jdk_42_method_147_code 21 = .ok (.arraylength, 1) := by decide +kernel
theorem d12_22 : decode jdk_42_method_147_code 22 = .ok (.invokestatic 212, 3) := by decide +kernel
theorem d12_25 : decode jdk_42_method_147_code 25 = .ok (.goto 18, 3) := by decide +kernel
theorem d12_43 : decode jdk_42_method_147_code 43 = .ok (.return_, 1) := by decide +kernel
def Q12_1 (Z : State) (r0 : Addr) (r1 : Addr) (x2 : Int32) (r3 : Addr) (c4 : ClassId) (c5 : ClassId) (h0 : Heap) (n0 : Nat) (v : Option Value) (h : Heap) (L : List Loc) : Prop := v = none ∧ Fr n0 L ∧ Keep h0 h [r1] ∧ Arv Z h r1 c5 .byte (16 : Int32) [(.int (63 : Int32)), (.int (0 : Int32)), (.int (0 : Int32)), (.int (0 : Int32)), (.int (0 : Int32)), (.int (0 : Int32)), (.int (0 : Int32)), (.int (0 : Int32)), (.int (0 : Int32)), (.int (0 : Int32)), (.int (0 : Int32)), (.int (0 : Int32)), (.int (0 : Int32)), (.int (0 : Int32)), (.int (0 : Int32)), (.int (0 : Int32))] (.int (0 : Int32))
set_option maxRecDepth 65536 in
set_option maxHeartbeats 40000000 in
theorem rm12_1 (l : Launch) (Z : State) (a0 : Array Value) (hw : ∀ d ∈ tables_1, d.before a0 Z = true) (ws : List Jvm.Cond) (r0 : Addr) (r1 : Addr) (x2 : Int32) (r3 : Addr) (c4 : ClassId) (c5 : ClassId) (h0 : Heap) (n0 : Nat) (O0 : Old Z n0 h0) (f1 : Exa Z h0 r0 "java/lang/String") (f2 : Sta Z Z.heap "java/lang/String" "COMPACT_STRINGS" "Z" (.int x2)) (hc3 : ¬ (x2 = (0 : Int32))) (f4 : Fld Z h0 r0 "java/lang/String" "coder" "B" (.int (0 : Int32))) (f7 : Fld Z h0 r0 "java/lang/String" "value" "[B" (.ref r3)) (f10 : Arv Z h0 r3 c4 .byte (1 : Int32) [(.int (63 : Int32))] (.int (0 : Int32))) (f12 : Arv Z h0 r1 c5 .byte (16 : Int32) [(.int (0 : Int32)), (.int (0 : Int32)), (.int (0 : Int32)), (.int (0 : Int32)), (.int (0 : Int32)), (.int (0 : Int32)), (.int (0 : Int32)), (.int (0 : Int32)), (.int (0 : Int32)), (.int (0 : Int32)), (.int (0 : Int32)), (.int (0 : Int32)), (.int (0 : Int32)), (.int (0 : Int32)), (.int (0 : Int32)), (.int (0 : Int32))] (.int (0 : Int32))) (g13 : n0 ≤ r1) :
    MetFree l (⟨"java/lang/String", "getBytes", "([BIB)V"⟩ : MethodName) (head1 (Jvm.Cond.code (⟨"java/lang/String", "getBytes", "([BIB)V"⟩ : MethodName) jdk_42_method_147_code 4 none :: ws) ({ frames := 1, cells := 0, slots := 0, locals := 24 } : Room)) (fun a U => a = #[(.ref r0), (.ref r1), (.int (0 : Int32)), (.int (0 : Int32))] ∧ Z.Warmed39 U.vm ∧ U.heap = h0) (fun _ _ _ _ _ => True) (fun _ U o U' => ∃ v L, o = .returned v ∧ Q12_1 Z r0 r1 x2 r3 c4 c5 h0 n0 v U'.heap L ∧ FrameEnd U o U' L ({ frames := 1, cells := 0, slots := 0, locals := 24 } : Room).cells ({ frames := 1, cells := 0, slots := 0, locals := 24 } : Room).slots) := by
  refine MetFree.of_bodySF (plainFor_of_name pn_java_lang_String) hisR ?_
  intro p e s m args below meth c s₁ Bd hml0 hP hK
  obtain ⟨rfl, hZ, hh⟩ := hP
  have hx := Bd.exec
  have hby := Bd.bytes
  have hml : c.maxLocals = 4 := hml0
  have hown : s.vm.findClass "java/lang/String" = some m.cls := findClass_of_methodNamed Bd.named
  have hnm := (name_of_methodNamed Bd.named Bd.method).1
  have X0 : Stand p l e ({ frames := 1, cells := 0, slots := 0, locals := 24 } : Room) s m #[(.ref r0), (.ref r1), (.int (0 : Int32)), (.int (0 : Int32))] below meth c s₁ [] 0 0 := Stand.of_body Bd
  have e0 : s₁.heap = h0 := by rw [← hh, Bd.state]; rfl
  have N0 := Fr.nil n0
  have pre0 : ∀ t, Steps p.tables e below (s₁.setTop (mkF m 0 #[.val (.ref r0), .val (.ref r1), .val (.int (0 : Int32)), .val (.int (0 : Int32))] [])) t → Steps p.tables e below (s₁.setTop (entryFrame m #[(.ref r0), (.ref r1), (.int (0 : Int32)), (.int (0 : Int32))] 4)) t := fun t k => castTop (by first | (simp [entryFrame, mkF, argsToLocals, Value.category]; done) | rfl) k
  obtain ⟨cqq6, kqq6, qq6a, qq6b, qq6c⟩ := isOf hZ e0 f1
  obtain ⟨_, _, ⟨T5, L5, k5, n5⟩, -, X5, ⟨Lc5, hQ5, l5, y5, z5⟩, st5⟩ := X0.virtualBack hx (y := (⟨"java/lang/String", "coder", "()B"⟩ : MethodName)) (z := (⟨"java/lang/String", "coder", "()B"⟩ : MethodName)) hown (mvT hZ (ww hw 51 rfl)) (mvT hZ (ww hw 52 rfl)) (notFace_of_selects (args := #[]) (mvT hZ (ww hw 54 rfl))) (mvT hZ (ww hw 54 rfl)) (mvT hZ (ww hw 53 rfl)) (by decide) (backOf (W := 0) (rm8_2 l Z a0 hw [] r0 x2 h0 n0 O0 f2 hc3 f4) hZ (ww hw 55 rfl) (ww hw 23 rfl) (by decide) (by decide)) qq6a qq6c (g := (mkF m 1 #[.val (.ref r0), .val (.ref r1), .val (.int (0 : Int32)), .val (.int (0 : Int32))] [(.ref r0)])) rfl (by rw [hml]; rfl) (Steps.refl _) (argsL := []) (rest := []) (lenOf pd___B rfl) rfl (by show 2 * 0 + _ ≤ _; exact Nat.le_of_eq rfl) (hb hby d12_1) (fun _ _ => ⟨rfl, e0, (by decide : 0 + 0 ≤ _), (by decide : 0 + 0 ≤ _)⟩)
  dsimp only [Pt.U, Pt.locs, Pt.cells, Pt.slots] at X5 l5 y5 z5 st5 hQ5
  subst l5 y5 z5
  obtain ⟨rfl, N5q, E5⟩ := hQ5
  have N5 := Fr.app N0 N5q
  obtain ⟨T8, X8, e8, st8⟩ := getF X5 hx hZ hown (host := "") (Or.inl (ww hw 50 rfl)) Via.refl E5 f7 (g := (mkF m 9 #[.val (.ref r0), .val (.ref r1), .val (.int (0 : Int32)), .val (.int (0 : Int32))] [(.ref r0)])) rfl rfl (hb hby d12_9)
  obtain ⟨T9, X9, e9, st9⟩ := getF X8 hx hZ hown (host := "") (Or.inl (ww hw 50 rfl)) Via.refl e8 f7 (g := (mkF m 18 #[.val (.ref r0), .val (.ref r1), .val (.int (0 : Int32)), .val (.int (0 : Int32))] [(.ref r0), (.int (0 : Int32)), (.ref r1), (.int (0 : Int32)), (.ref r3)])) rfl rfl (hb hby d12_18)
  obtain ⟨clq11, Arq11, qq11, Sq11, Nq11, Hq11, Gq11⟩ := id f10
  obtain ⟨T14, h14, L14, X14, e14, N14, K14, B14, st14⟩ := cpA X9 hx hZ hown (ww hw 81 rfl) (ww hw 84 rfl) (ww hw 82 rfl) (ww hw 83 rfl) e9 f10 f12 (us := [(.int (63 : Int32))]) (Or.inl ⟨rfl, rfl⟩) (by decide) (by decide) (by decide) (by decide) (by decide) rfl (by decide) N5 g13 (g := (mkF m 22 #[.val (.ref r0), .val (.ref r1), .val (.int (0 : Int32)), .val (.int (0 : Int32))] [(.int (1 : Int32)), (.int (0 : Int32)), (.ref r1), (.int (0 : Int32)), (.ref r3)])) rfl (by rw [hml]; rfl) rfl (hb hby d12_22) (by decide) (W := 0) (by show 2 * 0 + _ ≤ _; exact Nat.le_of_eq rfl) (by decide)
  have V14 : Arv Z h14 r1 c5 .byte (16 : Int32) [(.int (63 : Int32)), (.int (0 : Int32)), (.int (0 : Int32)), (.int (0 : Int32)), (.int (0 : Int32)), (.int (0 : Int32)), (.int (0 : Int32)), (.int (0 : Int32)), (.int (0 : Int32)), (.int (0 : Int32)), (.int (0 : Int32)), (.int (0 : Int32)), (.int (0 : Int32)), (.int (0 : Int32)), (.int (0 : Int32)), (.int (0 : Int32))] (.int (0 : Int32)) := B14
  have kp15 : Keep h0 h14 [r1] := (Keep.refl h0 [r1]).trans K14 (allS (Or.inl (List.mem_of_getElem? (i := 0) rfl)) all0)
  obtain ⟨fs, hr, hrun, hended, hW, hsame⟩ := X14.leave (v := none) (fun _ => rfl)
  refine ⟨_, _, pre0 _ ?_, hrun, hended, _, _, rfl, ?_, ⟨_, rfl⟩, hW, hsame.mono (by decide) (by decide)⟩
  · show Steps p.tables e below (s₁.setTop (mkF m 0 #[.val (.ref r0), .val (.ref r1), .val (.int (0 : Int32)), .val (.int (0 : Int32))] [])) _
    refine XS.aloadN X0.here hx rfl (hb hby d12_0) rfl rfl ?_
    refine st5.trans ?_
    show Steps p.tables e below (T5.setTop (mkF m 4 #[.val (.ref r0), .val (.ref r1), .val (.int (0 : Int32)), .val (.int (0 : Int32))] [(.int (0 : Int32))])) _
    refine XS.iloadN X5.here hx rfl (hb hby d12_4) rfl ?_
    refine XS.icmpNo X5.here hx rfl (hb hby d12_5) rfl (teq (rfl : (0 : Int32) = (0 : Int32))).2 ?_
    refine XS.aloadN X5.here hx rfl (hb hby d12_8) rfl rfl ?_
    refine st8 _ ?_
    show Steps p.tables e below (T8.setTop (mkF m 12 #[.val (.ref r0), .val (.ref r1), .val (.int (0 : Int32)), .val (.int (0 : Int32))] [(.ref r3)])) _
    refine XS.iconst X8.here hx rfl (hb hby d12_12) ?_
    refine XS.aloadN X8.here hx rfl (hb hby d12_13) rfl rfl ?_
    refine XS.iloadN X8.here hx rfl (hb hby d12_14) rfl ?_
    refine XS.iloadN X8.here hx rfl (hb hby d12_15) rfl ?_
    show Steps p.tables e below (T8.setTop (mkF m 16 #[.val (.ref r0), .val (.ref r1), .val (.int (0 : Int32)), .val (.int (0 : Int32))] [(.int (0 : Int32)), (.int (0 : Int32)), (.ref r1), (.int (0 : Int32)), (.ref r3)])) _
    refine XS.ishl X8.here hx rfl (hb hby d12_16) rfl ?_
    refine XS.aloadN X8.here hx rfl (hb hby d12_17) rfl rfl ?_
    refine st9 _ ?_
    show Steps p.tables e below (T9.setTop (mkF m 21 #[.val (.ref r0), .val (.ref r1), .val (.int (0 : Int32)), .val (.int (0 : Int32))] [(.ref r3), (.int (0 : Int32)), (.ref r1), (.int (0 : Int32)), (.ref r3)])) _
    refine X9.arraylength hx (by rw [e9]; exact Arq11.1) (State.isArrayOf_alike hZ.alike Arq11.2.1) (g := (mkF m 21 #[.val (.ref r0), .val (.ref r1), .val (.int (0 : Int32)), .val (.int (0 : Int32))] [(.ref r3), (.int (0 : Int32)), (.ref r1), (.int (0 : Int32)), (.ref r3)])) rfl rfl (hb hby d12_21) _ ?_
    rw [len_of Sq11 Nq11]
    show Steps p.tables e below (T9.setTop (mkF m 22 #[.val (.ref r0), .val (.ref r1), .val (.int (0 : Int32)), .val (.int (0 : Int32))] [(.int (1 : Int32)), (.int (0 : Int32)), (.ref r1), (.int (0 : Int32)), (.ref r3)])) _
    refine st14 _ ?_
    show Steps p.tables e below (T14.setTop (mkF m 25 #[.val (.ref r0), .val (.ref r1), .val (.int (0 : Int32)), .val (.int (0 : Int32))] [])) _
    refine XS.goto X14.here hx rfl (pc0 := 25) (pc' := 43) rfl (hb hby d12_25) (by decide) (by decide) ?_
    show Steps p.tables e below (T14.setTop (mkF m 43 #[.val (.ref r0), .val (.ref r1), .val (.int (0 : Int32)), .val (.int (0 : Int32))] [])) _
    exact X14.returnOut hx Bd.returns (hb hby d12_43) hr
  · show Q12_1 Z r0 r1 x2 r3 c4 c5 h0 n0 _ T14.heap _
    rw [e14]
    exact ⟨rfl, N14, kp15, V14⟩
theorem pd___BIB_V : parseMethodDescriptor "([BIB)V" = some ⟨[(.array .byte), .int, .byte], none⟩ := by decide +kernel
theorem d10_18 : decode jdk_68_method_73_code 18 = .ok (.return_, 1) := by decide +kernel
def Q10_1 (Z : State) (r0 : Addr) (r1 : Addr) (x2 : Int32) (r3 : Addr) (r4 : Addr) (c5 : ClassId) (c6 : ClassId) (h0 : Heap) (n0 : Nat) (v : Option Value) (h : Heap) (L : List Loc) : Prop := v = none ∧ Fr n0 L ∧ Keep h0 h [r3] ∧ Arv Z h r3 c6 .byte (16 : Int32) [(.int (63 : Int32)), (.int (0 : Int32)), (.int (0 : Int32)), (.int (0 : Int32)), (.int (0 : Int32)), (.int (0 : Int32)), (.int (0 : Int32)), (.int (0 : Int32)), (.int (0 : Int32)), (.int (0 : Int32)), (.int (0 : Int32)), (.int (0 : Int32)), (.int (0 : Int32)), (.int (0 : Int32)), (.int (0 : Int32)), (.int (0 : Int32))] (.int (0 : Int32))
set_option maxRecDepth 65536 in
set_option maxHeartbeats 40000000 in
theorem rm10_1 (l : Launch) (Z : State) (a0 : Array Value) (hw : ∀ d ∈ tables_1, d.before a0 Z = true) (ws : List Jvm.Cond) (r0 : Addr) (r1 : Addr) (x2 : Int32) (r3 : Addr) (r4 : Addr) (c5 : ClassId) (c6 : ClassId) (h0 : Heap) (n0 : Nat) (O0 : Old Z n0 h0) (f1 : Exa Z h0 r0 "java/lang/StringBuilder") (f2 : Sta Z Z.heap "java/lang/String" "COMPACT_STRINGS" "Z" (.int x2)) (hc3 : ¬ (x2 = (0 : Int32))) (f4 : Fld Z h0 r0 cs0 "coder" "B" (.int (0 : Int32))) (f5 : Exa Z h0 r1 "java/lang/String") (f6 : Fld Z h0 r1 "java/lang/String" "coder" "B" (.int (0 : Int32))) (f9 : Fld Z h0 r0 cs0 "value" "[B" (.ref r3)) (f12 : Fld Z h0 r1 "java/lang/String" "value" "[B" (.ref r4)) (f13 : Arv Z h0 r4 c5 .byte (1 : Int32) [(.int (63 : Int32))] (.int (0 : Int32))) (f14 : Arv Z h0 r3 c6 .byte (16 : Int32) [(.int (0 : Int32)), (.int (0 : Int32)), (.int (0 : Int32)), (.int (0 : Int32)), (.int (0 : Int32)), (.int (0 : Int32)), (.int (0 : Int32)), (.int (0 : Int32)), (.int (0 : Int32)), (.int (0 : Int32)), (.int (0 : Int32)), (.int (0 : Int32)), (.int (0 : Int32)), (.int (0 : Int32)), (.int (0 : Int32)), (.int (0 : Int32))] (.int (0 : Int32))) (g15 : n0 ≤ r3) :
    MetFree l (⟨cs0, "putStringAt", "(ILjava/lang/String;)V"⟩ : MethodName) (head1 (Jvm.Cond.code (⟨cs0, "putStringAt", "(ILjava/lang/String;)V"⟩ : MethodName) jdk_68_method_73_code 3 none :: ws) ({ frames := 2, cells := 0, slots := 0, locals := 39 } : Room)) (fun a U => a = #[(.ref r0), (.int (0 : Int32)), (.ref r1)] ∧ Z.Warmed39 U.vm ∧ U.heap = h0) (fun _ _ _ _ _ => True) (fun _ U o U' => ∃ v L, o = .returned v ∧ Q10_1 Z r0 r1 x2 r3 r4 c5 c6 h0 n0 v U'.heap L ∧ FrameEnd U o U' L ({ frames := 2, cells := 0, slots := 0, locals := 39 } : Room).cells ({ frames := 2, cells := 0, slots := 0, locals := 39 } : Room).slots) := by
  refine MetFree.of_bodySF (plainFor_of_name pn_java_lang_AbstractStringBuilder) hisR ?_
  intro p e s m args below meth c s₁ Bd hml0 hP hK
  obtain ⟨rfl, hZ, hh⟩ := hP
  have hx := Bd.exec
  have hby := Bd.bytes
  have hml : c.maxLocals = 3 := hml0
  have hown : s.vm.findClass cs0 = some m.cls := findClass_of_methodNamed Bd.named
  have hnm := (name_of_methodNamed Bd.named Bd.method).1
  have X0 : Stand p l e ({ frames := 2, cells := 0, slots := 0, locals := 39 } : Room) s m #[(.ref r0), (.int (0 : Int32)), (.ref r1)] below meth c s₁ [] 0 0 := Stand.of_body Bd
  have e0 : s₁.heap = h0 := by rw [← hh, Bd.state]; rfl
  have N0 := Fr.nil n0
  have pre0 : ∀ t, Steps p.tables e below (s₁.setTop (mkF m 0 #[.val (.ref r0), .val (.int (0 : Int32)), .val (.ref r1)] [])) t → Steps p.tables e below (s₁.setTop (entryFrame m #[(.ref r0), (.int (0 : Int32)), (.ref r1)] 3)) t := fun t k => castTop (by first | (simp [entryFrame, mkF, argsToLocals, Value.category]; done) | rfl) k
  obtain ⟨cqq8, qq8, qq8'⟩ := f1.cell
  obtain ⟨_, _, ⟨T7, L7, k7, n7⟩, -, X7, ⟨Lc7, hQ7, l7, y7, z7⟩, st7⟩ := X0.privateBack hx (y := (⟨cs0, "inflateIfNeededFor", "(Ljava/lang/String;)V"⟩ : MethodName)) hown (mvT hZ (ww hw 70 rfl)) (mvT hZ (ww hw 71 rfl)) (own_selfsel (mvT hZ (ww hw 73 rfl)) (Cond.privateMethod_at (mvP hZ (ww hw 72 rfl) (args := #[]))) (mvT hZ (ww hw 71 rfl)) (by decide)) (Cond.privateMethod_at (mvP hZ (ww hw 72 rfl) (args := #[]))) (mvT hZ (ww hw 74 rfl)) (by decide) (backOf (W := 0) (rm11_1 l Z a0 hw [] r0 r1 x2 h0 n0 O0 f2 hc3 f4 f5 f6) hZ (ww hw 74 rfl) (ww hw 17 rfl) (by decide) (by decide)) (g := (mkF m 2 #[.val (.ref r0), .val (.int (0 : Int32)), .val (.ref r1)] [(.ref r1), (.ref r0)])) rfl (by rw [hml]; rfl) (Steps.refl _) (a := r0) (by rw [e0]; exact qq8) qq8' (argsL := [(.ref r1)]) (rest := []) (lenOf pd__Ljava_lang_String__V rfl) rfl (by show 2 * 0 + _ ≤ _; exact Nat.le_of_eq rfl) (hb hby d10_2) (fun _ _ => ⟨rfl, e0, (by decide : 0 + 0 ≤ _), (by decide : 0 + 0 ≤ _)⟩)
  dsimp only [Pt.U, Pt.locs, Pt.cells, Pt.slots] at X7 l7 y7 z7 st7 hQ7
  subst l7 y7 z7
  obtain ⟨rfl, N7q, E7⟩ := hQ7
  have N7 := Fr.app N0 N7q
  obtain ⟨T10, X10, e10, st10⟩ := getF X7 hx hZ hown (host := "") (Or.inl (ww hw 25 rfl)) Via.refl E7 f9 (g := (mkF m 7 #[.val (.ref r0), .val (.int (0 : Int32)), .val (.ref r1)] [(.ref r0), (.ref r1)])) rfl rfl (hb hby d10_7)
  obtain ⟨T11, X11, e11, st11⟩ := getF X10 hx hZ hown (host := "") (Or.inl (ww hw 27 rfl)) Via.refl e10 f4 (g := (mkF m 12 #[.val (.ref r0), .val (.int (0 : Int32)), .val (.ref r1)] [(.ref r0), (.int (0 : Int32)), (.ref r3), (.ref r1)])) rfl rfl (hb hby d10_12)
  obtain ⟨cqq17, kqq17, qq17a, qq17b, qq17c⟩ := isOf hZ e11 f5
  obtain ⟨_, _, ⟨T16, L16, k16, n16⟩, -, X16, ⟨Lc16, hQ16, l16, y16, z16⟩, st16⟩ := X11.virtualBack hx (y := (⟨"java/lang/String", "getBytes", "([BIB)V"⟩ : MethodName)) (z := (⟨"java/lang/String", "getBytes", "([BIB)V"⟩ : MethodName)) hown (mvT hZ (ww hw 76 rfl)) (mvT hZ (ww hw 77 rfl)) (notFace_of_selects (args := #[]) (mvT hZ (ww hw 79 rfl))) (mvT hZ (ww hw 79 rfl)) (mvT hZ (ww hw 78 rfl)) (by decide) (backOf (W := 0) (rm12_1 l Z a0 hw [] r1 r3 x2 r4 c5 c6 h0 n0 O0 f5 f2 hc3 f6 f12 f13 f14 g15) hZ (ww hw 80 rfl) (ww hw 23 rfl) (by decide) (by decide)) qq17a qq17c (g := (mkF m 15 #[.val (.ref r0), .val (.int (0 : Int32)), .val (.ref r1)] [(.int (0 : Int32)), (.int (0 : Int32)), (.ref r3), (.ref r1)])) rfl (by rw [hml]; rfl) (Steps.refl _) (argsL := [(.ref r3), (.int (0 : Int32)), (.int (0 : Int32))]) (rest := []) (lenOf pd___BIB_V rfl) rfl (by show 2 * 0 + _ ≤ _; exact Nat.le_of_eq rfl) (hb hby d10_15) (fun _ _ => ⟨rfl, e11, (by decide : 0 + 0 ≤ _), (by decide : 0 + 0 ≤ _)⟩)
  dsimp only [Pt.U, Pt.locs, Pt.cells, Pt.slots] at X16 l16 y16 z16 st16 hQ16
  subst l16 y16 z16
  obtain ⟨rfl, N16q, K16, f18⟩ := hQ16
  have N16 := Fr.app N7 N16q
  have kp19 : Keep h0 T16.heap [r3] := (Keep.refl h0 [r3]).trans K16 (allS (Or.inl (List.mem_of_getElem? (i := 0) rfl)) all0)
  obtain ⟨fs, hr, hrun, hended, hW, hsame⟩ := X16.leave (v := none) (fun _ => rfl)
  refine ⟨_, _, pre0 _ ?_, hrun, hended, _, _, rfl, ?_, ⟨_, rfl⟩, hW, hsame.mono (by decide) (by decide)⟩
  · show Steps p.tables e below (s₁.setTop (mkF m 0 #[.val (.ref r0), .val (.int (0 : Int32)), .val (.ref r1)] [])) _
    refine XS.aloadN X0.here hx rfl (hb hby d10_0) rfl rfl ?_
    refine XS.aloadN X0.here hx rfl (hb hby d10_1) rfl rfl ?_
    refine st7.trans ?_
    show Steps p.tables e below (T7.setTop (mkF m 5 #[.val (.ref r0), .val (.int (0 : Int32)), .val (.ref r1)] [])) _
    refine XS.aloadN X7.here hx rfl (hb hby d10_5) rfl rfl ?_
    refine XS.aloadN X7.here hx rfl (hb hby d10_6) rfl rfl ?_
    refine st10 _ ?_
    show Steps p.tables e below (T10.setTop (mkF m 10 #[.val (.ref r0), .val (.int (0 : Int32)), .val (.ref r1)] [(.ref r3), (.ref r1)])) _
    refine XS.iloadN X10.here hx rfl (hb hby d10_10) rfl ?_
    refine XS.aloadN X10.here hx rfl (hb hby d10_11) rfl rfl ?_
    refine st11 _ ?_
    show Steps p.tables e below (T11.setTop (mkF m 15 #[.val (.ref r0), .val (.int (0 : Int32)), .val (.ref r1)] [(.int (0 : Int32)), (.int (0 : Int32)), (.ref r3), (.ref r1)])) _
    refine st16.trans ?_
    show Steps p.tables e below (T16.setTop (mkF m 18 #[.val (.ref r0), .val (.int (0 : Int32)), .val (.ref r1)] [])) _
    exact X16.returnOut hx Bd.returns (hb hby d10_18) hr
  · show Q10_1 Z r0 r1 x2 r3 r4 c5 c6 h0 n0 _ T16.heap _
    exact ⟨rfl, N16, kp19, f18⟩
theorem pd__ILjava_lang_String__V : parseMethodDescriptor "(ILjava/lang/String;)V" = some ⟨[.int, (.object "java/lang/String")], none⟩ := by decide +kernel
theorem d6_33 : decode jdk_68_method_22_code 33 = .ok (.aload_n 0, 1) := by decide +kernel
theorem d6_34 : decode jdk_68_method_22_code 34 = .ok (.dup, 1) := by decide +kernel
theorem d6_35 : decode jdk_68_method_22_code 35 = .ok (.getfield 79, 3) := by decide +kernel
theorem d6_38 : decode jdk_68_method_22_code 38 = .ok (.iload_n 2, 1) := by decide +kernel
theorem d6_39 : decode jdk_68_method_22_code 39 = .ok (.iadd, 1) := by decide +kernel
theorem d6_40 : decode jdk_68_method_22_code 40 = .ok (.putfield 79, 3) := by decide +kernel
theorem d6_43 : decode jdk_68_method_22_code 43 = .ok (.aload_n 0, 1) := by decide +kernel
theorem d6_44 : decode jdk_68_method_22_code 44 = .ok (.areturn, 1) := by decide +kernel
def Q6_1 (Z : State) (r0 : Addr) (r1 : Addr) (r2 : Addr) (c3 : ClassId) (x4 : Int32) (r5 : Addr) (c6 : ClassId) (h0 : Heap) (n0 : Nat) (v : Option Value) (h : Heap) (L : List Loc) : Prop := v = some (.ref r0) ∧ Fr n0 L ∧ Keep h0 h [r5, r0] ∧ Arv Z h r5 c6 .byte (16 : Int32) [(.int (63 : Int32)), (.int (0 : Int32)), (.int (0 : Int32)), (.int (0 : Int32)), (.int (0 : Int32)), (.int (0 : Int32)), (.int (0 : Int32)), (.int (0 : Int32)), (.int (0 : Int32)), (.int (0 : Int32)), (.int (0 : Int32)), (.int (0 : Int32)), (.int (0 : Int32)), (.int (0 : Int32)), (.int (0 : Int32)), (.int (0 : Int32))] (.int (0 : Int32)) ∧ Fld Z h r0 cs0 "count" "I" (.int (1 : Int32)) ∧ Fld Z h r0 cs0 "value" "[B" (.ref r5) ∧ Fld Z h r0 cs0 "coder" "B" (.int (0 : Int32))
set_option maxRecDepth 65536 in
set_option maxHeartbeats 40000000 in
theorem rm6_1 (l : Launch) (Z : State) (a0 : Array Value) (hw : ∀ d ∈ tables_1, d.before a0 Z = true) (ws : List Jvm.Cond) (r0 : Addr) (r1 : Addr) (r2 : Addr) (c3 : ClassId) (x4 : Int32) (r5 : Addr) (c6 : ClassId) (h0 : Heap) (n0 : Nat) (O0 : Old Z n0 h0) (f1 : Exa Z h0 r1 "java/lang/String") (f2 : Fld Z h0 r1 "java/lang/String" "value" "[B" (.ref r2)) (f3 : Arv Z h0 r2 c3 .byte (1 : Int32) [(.int (63 : Int32))] (.int (0 : Int32))) (f4 : Sta Z Z.heap "java/lang/String" "COMPACT_STRINGS" "Z" (.int x4)) (hc5 : ¬ (x4 = (0 : Int32))) (f6 : Fld Z h0 r1 "java/lang/String" "coder" "B" (.int (0 : Int32))) (f9 : Fld Z h0 r0 cs0 "count" "I" (.int (0 : Int32))) (f11 : Exa Z h0 r0 "java/lang/StringBuilder") (f12 : Fld Z h0 r0 cs0 "value" "[B" (.ref r5)) (f13 : Arv Z h0 r5 c6 .byte (16 : Int32) [(.int (0 : Int32)), (.int (0 : Int32)), (.int (0 : Int32)), (.int (0 : Int32)), (.int (0 : Int32)), (.int (0 : Int32)), (.int (0 : Int32)), (.int (0 : Int32)), (.int (0 : Int32)), (.int (0 : Int32)), (.int (0 : Int32)), (.int (0 : Int32)), (.int (0 : Int32)), (.int (0 : Int32)), (.int (0 : Int32)), (.int (0 : Int32))] (.int (0 : Int32))) (f14 : Fld Z h0 r0 cs0 "coder" "B" (.int (0 : Int32))) (g18 : n0 ≤ r5) (n22 : r0 ≠ r5) (g26 : n0 ≤ r0) :
    MetFree l (⟨cs0, "append", cs1⟩ : MethodName) (head1 (Jvm.Cond.code (⟨cs0, "append", cs1⟩ : MethodName) jdk_68_method_22_code 3 (some (.object cs0)) :: ws) ({ frames := 3, cells := 0, slots := 0, locals := 53 } : Room)) (fun a U => a = #[(.ref r0), (.ref r1)] ∧ Z.Warmed39 U.vm ∧ U.heap = h0) (fun _ _ _ _ _ => True) (fun _ U o U' => ∃ v L, o = .returned v ∧ Q6_1 Z r0 r1 r2 c3 x4 r5 c6 h0 n0 v U'.heap L ∧ FrameEnd U o U' L ({ frames := 3, cells := 0, slots := 0, locals := 53 } : Room).cells ({ frames := 3, cells := 0, slots := 0, locals := 53 } : Room).slots) := by
  refine MetFree.of_bodySF (plainFor_of_name pn_java_lang_AbstractStringBuilder) hisR ?_
  intro p e s m args below meth c s₁ Bd hml0 hP hK
  obtain ⟨rfl, hZ, hh⟩ := hP
  have hx := Bd.exec
  have hby := Bd.bytes
  have hml : c.maxLocals = 3 := hml0
  have hown : s.vm.findClass cs0 = some m.cls := findClass_of_methodNamed Bd.named
  have hnm := (name_of_methodNamed Bd.named Bd.method).1
  have X0 : Stand p l e ({ frames := 3, cells := 0, slots := 0, locals := 53 } : Room) s m #[(.ref r0), (.ref r1)] below meth c s₁ [] 0 0 := Stand.of_body Bd
  have e0 : s₁.heap = h0 := by rw [← hh, Bd.state]; rfl
  have N0 := Fr.nil n0
  have pre0 : ∀ t, Steps p.tables e below (s₁.setTop (mkF m 0 #[.val (.ref r0), .val (.ref r1), .unset] [])) t → Steps p.tables e below (s₁.setTop (entryFrame m #[(.ref r0), (.ref r1)] 3)) t := fun t k => castTop (by first | (simp [entryFrame, mkF, argsToLocals, Value.category]; done) | rfl) k
  obtain ⟨cqq8, kqq8, qq8a, qq8b, qq8c⟩ := isOf hZ e0 f1
  obtain ⟨_, _, ⟨T7, L7, k7, n7⟩, -, X7, ⟨Lc7, hQ7, l7, y7, z7⟩, st7⟩ := X0.virtualBack hx (y := (⟨"java/lang/String", "length", "()I"⟩ : MethodName)) (z := (⟨"java/lang/String", "length", "()I"⟩ : MethodName)) hown (mvT hZ (ww hw 45 rfl)) (mvT hZ (ww hw 46 rfl)) (notFace_of_selects (args := #[]) (mvT hZ (ww hw 48 rfl))) (mvT hZ (ww hw 48 rfl)) (mvT hZ (ww hw 47 rfl)) (by decide) (backOf (W := 0) (rm7_1 l Z a0 hw [] r1 r2 (1 : Int32) c3 ([(.int (63 : Int32))]) x4 (0 : Int32) h0 n0 O0 f2 f3 f1 f4 hc5 f6) hZ (ww hw 49 rfl) (ww hw 23 rfl) (by decide) (by decide)) qq8a qq8c (g := (mkF m 10 #[.val (.ref r0), .val (.ref r1), .unset] [(.ref r1)])) rfl (by rw [hml]; rfl) (Steps.refl _) (argsL := []) (rest := []) (lenOf pd___I rfl) rfl (by show 2 * 0 + _ ≤ _; exact Nat.le_of_eq rfl) (hb hby d6_10) (fun _ _ => ⟨rfl, e0, (by decide : 0 + 0 ≤ _), (by decide : 0 + 0 ≤ _)⟩)
  dsimp only [Pt.U, Pt.locs, Pt.cells, Pt.slots] at X7 l7 y7 z7 st7 hQ7
  subst l7 y7 z7
  obtain ⟨rfl, N7q, E7⟩ := hQ7
  have N7 := Fr.app N0 N7q
  obtain ⟨T10, X10, e10, st10⟩ := getF X7 hx hZ hown (host := "") (Or.inl (ww hw 58 rfl)) Via.refl E7 f9 (g := (mkF m 16 #[.val (.ref r0), .val (.ref r1), .val (.int (1 : Int32))] [(.ref r0), (.ref r0)])) rfl rfl (hb hby d6_16)
  obtain ⟨cqq16, qq16, qq16'⟩ := f11.cell
  obtain ⟨_, _, ⟨T15, L15, k15, n15⟩, -, X15, ⟨Lc15, hQ15, l15, y15, z15⟩, st15⟩ := X10.privateBack hx (y := (⟨cs0, "ensureCapacityInternal", "(I)V"⟩ : MethodName)) hown (mvT hZ (ww hw 60 rfl)) (mvT hZ (ww hw 61 rfl)) (own_selfsel (mvT hZ (ww hw 63 rfl)) (Cond.privateMethod_at (mvP hZ (ww hw 62 rfl) (args := #[]))) (mvT hZ (ww hw 61 rfl)) (by decide)) (Cond.privateMethod_at (mvP hZ (ww hw 62 rfl) (args := #[]))) (mvT hZ (ww hw 64 rfl)) (by decide) (backOf (W := 0) (rm9_1 l Z a0 hw [] r0 (1 : Int32) r5 (16 : Int32) c6 ([(.int (0 : Int32)), (.int (0 : Int32)), (.int (0 : Int32)), (.int (0 : Int32)), (.int (0 : Int32)), (.int (0 : Int32)), (.int (0 : Int32)), (.int (0 : Int32)), (.int (0 : Int32)), (.int (0 : Int32)), (.int (0 : Int32)), (.int (0 : Int32)), (.int (0 : Int32)), (.int (0 : Int32)), (.int (0 : Int32)), (.int (0 : Int32))]) (0 : Int32) h0 n0 O0 f12 f13 f14 (by decide : ¬ ((0 : Int32) < ((1 : Int32) - ((16 : Int32) >>> ((0 : Int32) &&& 31)))))) hZ (ww hw 64 rfl) (ww hw 17 rfl) (by decide) (by decide)) (g := (mkF m 21 #[.val (.ref r0), .val (.ref r1), .val (.int (1 : Int32))] [(.int (1 : Int32)), (.ref r0)])) rfl (by rw [hml]; rfl) (Steps.refl _) (a := r0) (by rw [e10]; exact qq16) qq16' (argsL := [(.int (1 : Int32))]) (rest := []) (lenOf pd__I_V rfl) rfl (by show 2 * 0 + _ ≤ _; exact Nat.le_of_eq rfl) (hb hby d6_21) (fun _ _ => ⟨rfl, e10, (by decide : 0 + 0 ≤ _), (by decide : 0 + 0 ≤ _)⟩)
  dsimp only [Pt.U, Pt.locs, Pt.cells, Pt.slots] at X15 l15 y15 z15 st15 hQ15
  subst l15 y15 z15
  obtain ⟨rfl, N15q, E15⟩ := hQ15
  have N15 := Fr.app N7 N15q
  obtain ⟨T17, X17, e17, st17⟩ := getF X15 hx hZ hown (host := "") (Or.inl (ww hw 58 rfl)) Via.refl E15 f9 (g := (mkF m 26 #[.val (.ref r0), .val (.ref r1), .val (.int (1 : Int32))] [(.ref r0), (.ref r0)])) rfl rfl (hb hby d6_26)
  obtain ⟨cqq20, qq20, qq20'⟩ := f11.cell
  obtain ⟨_, _, ⟨T19, L19, k19, n19⟩, -, X19, ⟨Lc19, hQ19, l19, y19, z19⟩, st19⟩ := X17.privateBack hx (y := (⟨cs0, "putStringAt", "(ILjava/lang/String;)V"⟩ : MethodName)) hown (mvT hZ (ww hw 65 rfl)) (mvT hZ (ww hw 66 rfl)) (own_selfsel (mvT hZ (ww hw 68 rfl)) (Cond.privateMethod_at (mvP hZ (ww hw 67 rfl) (args := #[]))) (mvT hZ (ww hw 66 rfl)) (by decide)) (Cond.privateMethod_at (mvP hZ (ww hw 67 rfl) (args := #[]))) (mvT hZ (ww hw 69 rfl)) (by decide) (backOf (W := 0) (rm10_1 l Z a0 hw [] r0 r1 x4 r5 r2 c3 c6 h0 n0 O0 f11 f4 hc5 f14 f1 f6 f12 f2 f3 f13 g18) hZ (ww hw 69 rfl) (ww hw 17 rfl) (by decide) (by decide)) (g := (mkF m 30 #[.val (.ref r0), .val (.ref r1), .val (.int (1 : Int32))] [(.ref r1), (.int (0 : Int32)), (.ref r0)])) rfl (by rw [hml]; rfl) (Steps.refl _) (a := r0) (by rw [e17]; exact qq20) qq20' (argsL := [(.int (0 : Int32)), (.ref r1)]) (rest := []) (lenOf pd__ILjava_lang_String__V rfl) rfl (by show 2 * 0 + _ ≤ _; exact Nat.le_of_eq rfl) (hb hby d6_30) (fun _ _ => ⟨rfl, e17, (by decide : 0 + 0 ≤ _), (by decide : 0 + 0 ≤ _)⟩)
  dsimp only [Pt.U, Pt.locs, Pt.cells, Pt.slots] at X19 l19 y19 z19 st19 hQ19
  subst l19 y19 z19
  obtain ⟨rfl, N19q, K19, f21⟩ := hQ19
  have N19 := Fr.app N15 N19q
  have f23 := (f9.keep K19 (ninS n22 nin0))
  obtain ⟨T24, X24, e24, st24⟩ := getF X19 hx hZ hown (host := "") (Or.inl (ww hw 58 rfl)) Via.refl rfl f23 (g := (mkF m 35 #[.val (.ref r0), .val (.ref r1), .val (.int (1 : Int32))] [(.ref r0), (.ref r0)])) rfl rfl (hb hby d6_35)
  have f25 := (f11.keep K19)
  obtain ⟨T27, h27, X27, e27, W27, st27⟩ := putF X24 hx hZ hown (host := "") (Or.inl (ww hw 58 rfl)) Via.refl e24 f23 f25 (Or.inl (ww hw 59 rfl)) (ww hw 8 rfl) (ty := .int) (by decide) rfl rfl (g := (mkF m 40 #[.val (.ref r0), .val (.ref r1), .val (.int (1 : Int32))] [(.int (1 : Int32)), (.ref r0)])) rfl rfl (hb hby d6_40)
  have Fw27 := f23.same W27
  have N27 := Fr.snoc X27 N19 g26
  have f28 := (f21.other W27 (Ne.symm n22))
  have f29 := ((f12.keep K19 (ninS n22 nin0)).other W27 (Or.inr (slot_ne (Or.inl (ww hw 26 rfl)) (Or.inl (ww hw 59 rfl)) (by decide) (t := (.array .byte)) (t' := .int) (by decide) (by decide))))
  have f30 := ((f14.keep K19 (ninS n22 nin0)).other W27 (Or.inr (slot_ne (Or.inl (ww hw 28 rfl)) (Or.inl (ww hw 59 rfl)) (by decide) (t := .byte) (t' := .int) (by decide) (by decide))))
  have kp31 : Keep h0 T19.heap [r5, r0] := (Keep.refl h0 [r5, r0]).trans K19 (allS (Or.inl (List.mem_of_getElem? (i := 0) rfl)) all0)
  have kp32 : Keep h0 h27 [r5, r0] := kp31.wr W27 (Or.inl (List.mem_of_getElem? (i := 1) rfl))
  obtain ⟨fs, hr, hrun, hended, hW, hsame⟩ := X27.leave (v := some (.ref r0)) (fun h => by rw [Bd.returns] at h; cases h)
  refine ⟨_, _, pre0 _ ?_, hrun, hended, _, _, rfl, ?_, ⟨_, rfl⟩, hW, hsame.mono (by decide) (by decide)⟩
  · show Steps p.tables e below (s₁.setTop (mkF m 0 #[.val (.ref r0), .val (.ref r1), .unset] [])) _
    refine XS.aloadN X0.here hx rfl (hb hby d6_0) rfl rfl ?_
    refine XS.ifnonnullYes X0.here hx rfl (pc0 := 1) (pc' := 9) rfl (hb hby d6_1) rfl (by decide) (by decide) ?_
    show Steps p.tables e below (s₁.setTop (mkF m 9 #[.val (.ref r0), .val (.ref r1), .unset] [])) _
    refine XS.aloadN X0.here hx rfl (hb hby d6_9) rfl rfl ?_
    refine st7.trans ?_
    show Steps p.tables e below (T7.setTop (mkF m 13 #[.val (.ref r0), .val (.ref r1), .unset] [(.int (1 : Int32))])) _
    refine XS.istoreN X7.here hx rfl (hb hby d6_13) rfl (l' := #[.val (.ref r0), .val (.ref r1), .val (.int (1 : Int32))]) rfl ?_
    refine XS.aloadN X7.here hx rfl (hb hby d6_14) rfl rfl ?_
    refine XS.aloadN X7.here hx rfl (hb hby d6_15) rfl rfl ?_
    refine st10 _ ?_
    show Steps p.tables e below (T10.setTop (mkF m 19 #[.val (.ref r0), .val (.ref r1), .val (.int (1 : Int32))] [(.int (0 : Int32)), (.ref r0)])) _
    refine XS.iloadN X10.here hx rfl (hb hby d6_19) rfl ?_
    refine XS.iadd X10.here hx rfl (hb hby d6_20) rfl ?_
    refine st15.trans ?_
    show Steps p.tables e below (T15.setTop (mkF m 24 #[.val (.ref r0), .val (.ref r1), .val (.int (1 : Int32))] [])) _
    refine XS.aloadN X15.here hx rfl (hb hby d6_24) rfl rfl ?_
    refine XS.aloadN X15.here hx rfl (hb hby d6_25) rfl rfl ?_
    refine st17 _ ?_
    show Steps p.tables e below (T17.setTop (mkF m 29 #[.val (.ref r0), .val (.ref r1), .val (.int (1 : Int32))] [(.int (0 : Int32)), (.ref r0)])) _
    refine XS.aloadN X17.here hx rfl (hb hby d6_29) rfl rfl ?_
    refine st19.trans ?_
    show Steps p.tables e below (T19.setTop (mkF m 33 #[.val (.ref r0), .val (.ref r1), .val (.int (1 : Int32))] [])) _
    refine XS.aloadN X19.here hx rfl (hb hby d6_33) rfl rfl ?_
    refine XS.dup X19.here hx rfl (hb hby d6_34) rfl rfl ?_
    refine st24 _ ?_
    show Steps p.tables e below (T24.setTop (mkF m 38 #[.val (.ref r0), .val (.ref r1), .val (.int (1 : Int32))] [(.int (0 : Int32)), (.ref r0)])) _
    refine XS.iloadN X24.here hx rfl (hb hby d6_38) rfl ?_
    refine XS.iadd X24.here hx rfl (hb hby d6_39) rfl ?_
    refine st27 _ ?_
    show Steps p.tables e below (T27.setTop (mkF m 43 #[.val (.ref r0), .val (.ref r1), .val (.int (1 : Int32))] [])) _
    refine XS.aloadN X27.here hx rfl (hb hby d6_43) rfl rfl ?_
    exact retOut X27 hx (i := .areturn) Bd.returns rfl (Or.inr (Or.inr (Or.inr (Or.inr ⟨rfl, rfl, rfl⟩)))) (hb hby d6_44) hr
  · show Q6_1 Z r0 r1 r2 c3 x4 r5 c6 h0 n0 _ T27.heap _
    rw [e27]
    exact ⟨rfl, N27, kp32, f28, Fw27, f29, f30⟩
theorem pd__Ljava_lang_String__Ljava_lang_AbstractStringBuilder_ : parseMethodDescriptor cs1 = some ⟨[(.object "java/lang/String")], some (.object cs0)⟩ := by decide +kernel
theorem own_sameOwn {Z : State} {a0 : Array Value} {C : String} {y0 y' y : MethodName} (hsel : (Jvm.Cond.selects C y0 y').before a0 Z = true) (hc : y'.cls = y.cls) (hinst : (Jvm.Cond.instanceMethod y).before a0 Z = true) (hy : y.cls ≠ "java/lang/invoke/MethodHandle" ∧ y.cls ≠ "java/lang/invoke/VarHandle") : (Jvm.Cond.sameMethod y.cls y.cls y.name y.desc).before a0 Z = true := by
  obtain ⟨c2, r2, m2, -, -, q3, -, kP, hkP, hkPi⟩ := Cond.selects_spec hsel
  obtain ⟨mk, methM, hnamed, hmethM, -, -⟩ := Cond.instanceMethod_spec hinst
  have hfound : Z.methodFound? y.cls y.name y.desc = some mk := State.methodFound?_of_named hnamed hy
  have f1 := findClass_of_methodNamed hnamed
  have f2 := findClass_of_methodNamed q3
  rw [hc, f1] at f2
  have e : mk.cls = m2.cls := Option.some.inj f2
  rw [← e] at hkP
  have hn2 : Z.methodNamed? ⟨y.cls, y.name, y.desc⟩ = some mk := hnamed
  simp only [Cond.before, Cond.holds, Cond.value, f1, hfound, hn2, hkP]
  simp [hkPi]
theorem d5_5 : decode jdk_67_method_7_code 5 = .ok (.pop, 1) := by decide +kernel
theorem d5_6 : decode jdk_67_method_7_code 6 = .ok (.aload_n 0, 1) := by decide +kernel
theorem d5_7 : decode jdk_67_method_7_code 7 = .ok (.areturn, 1) := by decide +kernel
def Q5_1 (Z : State) (r0 : Addr) (r1 : Addr) (r2 : Addr) (c3 : ClassId) (x4 : Int32) (r5 : Addr) (c6 : ClassId) (h0 : Heap) (n0 : Nat) (v : Option Value) (h : Heap) (L : List Loc) : Prop := v = some (.ref r0) ∧ Fr n0 L ∧ Keep h0 h [r5, r0] ∧ Arv Z h r5 c6 .byte (16 : Int32) [(.int (63 : Int32)), (.int (0 : Int32)), (.int (0 : Int32)), (.int (0 : Int32)), (.int (0 : Int32)), (.int (0 : Int32)), (.int (0 : Int32)), (.int (0 : Int32)), (.int (0 : Int32)), (.int (0 : Int32)), (.int (0 : Int32)), (.int (0 : Int32)), (.int (0 : Int32)), (.int (0 : Int32)), (.int (0 : Int32)), (.int (0 : Int32))] (.int (0 : Int32)) ∧ Fld Z h r0 cs0 "count" "I" (.int (1 : Int32)) ∧ Fld Z h r0 cs0 "value" "[B" (.ref r5) ∧ Fld Z h r0 cs0 "coder" "B" (.int (0 : Int32))
set_option maxRecDepth 65536 in
set_option maxHeartbeats 40000000 in
theorem rm5_1 (l : Launch) (Z : State) (a0 : Array Value) (hw : ∀ d ∈ tables_1, d.before a0 Z = true) (ws : List Jvm.Cond) (r0 : Addr) (r1 : Addr) (r2 : Addr) (c3 : ClassId) (x4 : Int32) (r5 : Addr) (c6 : ClassId) (h0 : Heap) (n0 : Nat) (O0 : Old Z n0 h0) (f1 : Exa Z h0 r1 "java/lang/String") (f2 : Fld Z h0 r1 "java/lang/String" "value" "[B" (.ref r2)) (f3 : Arv Z h0 r2 c3 .byte (1 : Int32) [(.int (63 : Int32))] (.int (0 : Int32))) (f4 : Sta Z Z.heap "java/lang/String" "COMPACT_STRINGS" "Z" (.int x4)) (hc5 : ¬ (x4 = (0 : Int32))) (f6 : Fld Z h0 r1 "java/lang/String" "coder" "B" (.int (0 : Int32))) (f7 : Fld Z h0 r0 cs0 "count" "I" (.int (0 : Int32))) (f8 : Exa Z h0 r0 "java/lang/StringBuilder") (f9 : Fld Z h0 r0 cs0 "value" "[B" (.ref r5)) (f10 : Arv Z h0 r5 c6 .byte (16 : Int32) [(.int (0 : Int32)), (.int (0 : Int32)), (.int (0 : Int32)), (.int (0 : Int32)), (.int (0 : Int32)), (.int (0 : Int32)), (.int (0 : Int32)), (.int (0 : Int32)), (.int (0 : Int32)), (.int (0 : Int32)), (.int (0 : Int32)), (.int (0 : Int32)), (.int (0 : Int32)), (.int (0 : Int32)), (.int (0 : Int32)), (.int (0 : Int32))] (.int (0 : Int32))) (f11 : Fld Z h0 r0 cs0 "coder" "B" (.int (0 : Int32))) (g12 : n0 ≤ r5) (n13 : r0 ≠ r5) (g14 : n0 ≤ r0) :
    MetFree l (⟨"java/lang/StringBuilder", "append", cs2⟩ : MethodName) (head1 (Jvm.Cond.code (⟨"java/lang/StringBuilder", "append", cs2⟩ : MethodName) jdk_67_method_7_code 2 (some (.object "java/lang/StringBuilder")) :: ws) ({ frames := 4, cells := 0, slots := 0, locals := 67 } : Room)) (fun a U => a = #[(.ref r0), (.ref r1)] ∧ Z.Warmed39 U.vm ∧ U.heap = h0) (fun _ _ _ _ _ => True) (fun _ U o U' => ∃ v L, o = .returned v ∧ Q5_1 Z r0 r1 r2 c3 x4 r5 c6 h0 n0 v U'.heap L ∧ FrameEnd U o U' L ({ frames := 4, cells := 0, slots := 0, locals := 67 } : Room).cells ({ frames := 4, cells := 0, slots := 0, locals := 67 } : Room).slots) := by
  refine MetFree.of_bodySF (plainFor_of_name pn_java_lang_StringBuilder) hisR ?_
  intro p e s m args below meth c s₁ Bd hml0 hP hK
  obtain ⟨rfl, hZ, hh⟩ := hP
  have hx := Bd.exec
  have hby := Bd.bytes
  have hml : c.maxLocals = 2 := hml0
  have hown : s.vm.findClass "java/lang/StringBuilder" = some m.cls := findClass_of_methodNamed Bd.named
  have hnm := (name_of_methodNamed Bd.named Bd.method).1
  have X0 : Stand p l e ({ frames := 4, cells := 0, slots := 0, locals := 67 } : Room) s m #[(.ref r0), (.ref r1)] below meth c s₁ [] 0 0 := Stand.of_body Bd
  have e0 : s₁.heap = h0 := by rw [← hh, Bd.state]; rfl
  have N0 := Fr.nil n0
  have pre0 : ∀ t, Steps p.tables e below (s₁.setTop (mkF m 0 #[.val (.ref r0), .val (.ref r1)] [])) t → Steps p.tables e below (s₁.setTop (entryFrame m #[(.ref r0), (.ref r1)] 2)) t := fun t k => castTop (by first | (simp [entryFrame, mkF, argsToLocals, Value.category]; done) | rfl) k
  obtain ⟨_, _, ⟨T15, L15, k15, n15⟩, -, X15, ⟨Lc15, hQ15, l15, y15, z15⟩, st15⟩ := superBack X0 hx hZ (y := (⟨cs0, "append", cs1⟩ : MethodName)) hown (ww hw 40 rfl) (own_sameOwn (y := (⟨cs0, "append", cs1⟩ : MethodName)) (ww hw 63 rfl) rfl (ww hw 41 rfl) (by decide)) (ww hw 41 rfl) (ww hw 42 rfl) (by decide) (backOf (W := 0) (rm6_1 l Z a0 hw [] r0 r1 r2 c3 x4 r5 c6 h0 n0 O0 f1 f2 f3 f4 hc5 f6 f7 f8 f9 f10 f11 g12 n13 g14) hZ (ww hw 44 rfl) (ww hw 17 rfl) (by decide) (by decide)) e0 (Ins.self f8) (g := (mkF m 2 #[.val (.ref r0), .val (.ref r1)] [(.ref r1), (.ref r0)])) rfl (by rw [hml]; rfl) (ww hw 44 rfl) (argsL := [(.ref r1)]) (rest := []) (lenOf pd__Ljava_lang_String__Ljava_lang_AbstractStringBuilder_ rfl) rfl (by show 2 * 0 + _ ≤ _; exact Nat.le_of_eq rfl) (hb hby d5_2) (fun _ _ => ⟨rfl, e0, (by decide : 0 + 0 ≤ _), (by decide : 0 + 0 ≤ _)⟩)
  dsimp only [Pt.U, Pt.locs, Pt.cells, Pt.slots] at X15 l15 y15 z15 st15 hQ15
  subst l15 y15 z15
  obtain ⟨rfl, N15q, K15, f16, f17, f18, f19⟩ := hQ15
  have N15 := Fr.app N0 N15q
  have kp20 : Keep h0 T15.heap [r5, r0] := (Keep.refl h0 [r5, r0]).trans K15 (allS (Or.inl (List.mem_of_getElem? (i := 0) rfl)) (allS (Or.inl (List.mem_of_getElem? (i := 1) rfl)) all0))
  obtain ⟨fs, hr, hrun, hended, hW, hsame⟩ := X15.leave (v := some (.ref r0)) (fun h => by rw [Bd.returns] at h; cases h)
  refine ⟨_, _, pre0 _ ?_, hrun, hended, _, _, rfl, ?_, ⟨_, rfl⟩, hW, hsame.mono (by decide) (by decide)⟩
  · show Steps p.tables e below (s₁.setTop (mkF m 0 #[.val (.ref r0), .val (.ref r1)] [])) _
    refine XS.aloadN X0.here hx rfl (hb hby d5_0) rfl rfl ?_
    refine XS.aloadN X0.here hx rfl (hb hby d5_1) rfl rfl ?_
    refine st15.trans ?_
    show Steps p.tables e below (T15.setTop (mkF m 5 #[.val (.ref r0), .val (.ref r1)] [(.ref r0)])) _
    refine XS.pop X15.here hx rfl (hb hby d5_5) rfl rfl ?_
    refine XS.aloadN X15.here hx rfl (hb hby d5_6) rfl rfl ?_
    exact retOut X15 hx (i := .areturn) Bd.returns rfl (Or.inr (Or.inr (Or.inr (Or.inr ⟨rfl, rfl, rfl⟩)))) (hb hby d5_7) hr
  · show Q5_1 Z r0 r1 r2 c3 x4 r5 c6 h0 n0 _ T15.heap _
    exact ⟨rfl, N15, kp20, f16, f17, f18, f19⟩
theorem pd__Ljava_lang_String__Ljava_lang_StringBuilder_ : parseMethodDescriptor cs2 = some ⟨[(.object "java/lang/String")], some (.object "java/lang/StringBuilder")⟩ := by decide +kernel
theorem d1_16 : decode prog_22_method_3_code 16 = .ok (.iload_n 0, 1) := by decide +kernel
theorem d1_17 : decode prog_22_method_3_code 17 = .ok (.invokevirtual 31, 3) := by decide +kernel
theorem d13_0 : decode jdk_67_method_15_code 0 = .ok (.aload_n 0, 1) := by decide +kernel
theorem d13_1 : decode jdk_67_method_15_code 1 = .ok (.iload_n 1, 1) := by decide +kernel
theorem d13_2 : decode jdk_67_method_15_code 2 = .ok (.invokespecial 53, 3) := by decide +kernel
theorem d14_0 : decode jdk_68_method_32_code 0 = .ok (.aload_n 0, 1) := by decide +kernel
theorem d14_1 : decode jdk_68_method_32_code 1 = .ok (.getfield 79, 3) := by decide +kernel
theorem d14_4 : decode jdk_68_method_32_code 4 = .ok (.istore_n 2, 1) := by decide +kernel
theorem d14_5 : decode jdk_68_method_32_code 5 = .ok (.iload_n 2, 1) := by decide +kernel
theorem d14_6 : decode jdk_68_method_32_code 6 = .ok (.iload_n 1, 1) := by decide +kernel
theorem d14_7 : decode jdk_68_method_32_code 7 = .ok (.invokestatic 245, 3) := by decide +kernel
theorem d14_10 : decode jdk_68_method_32_code 10 = .ok (.iadd, 1) := by decide +kernel
theorem d14_11 : decode jdk_68_method_32_code 11 = .ok (.istore_n 3, 1) := by decide +kernel
theorem d14_12 : decode jdk_68_method_32_code 12 = .ok (.aload_n 0, 1) := by decide +kernel
theorem d14_13 : decode jdk_68_method_32_code 13 = .ok (.iload_n 3, 1) := by decide +kernel
theorem d14_14 : decode jdk_68_method_32_code 14 = .ok (.invokevirtual 100, 3) := by decide +kernel
theorem d14_17 : decode jdk_68_method_32_code 17 = .ok (.aload_n 0, 1) := by decide +kernel
theorem d14_18 : decode jdk_68_method_32_code 18 = .ok (.invokevirtual 83, 3) := by decide +kernel
theorem d16_0 : decode jdk_68_method_68_code 0 = .ok (.getstatic 18, 3) := by decide +kernel
theorem d16_3 : decode jdk_68_method_68_code 3 = .ok (.ifCond .eq 14, 3) := by decide +kernel
theorem d16_6 : decode jdk_68_method_68_code 6 = .ok (.aload_n 0, 1) := by decide +kernel
theorem d16_7 : decode jdk_68_method_68_code 7 = .ok (.getfield 22, 3) := by decide +kernel
theorem d16_10 : decode jdk_68_method_68_code 10 = .ok (.ifCond .ne 7, 3) := by decide +kernel
theorem d16_13 : decode jdk_68_method_68_code 13 = .ok (.iconst 1, 1) := by decide +kernel
theorem d16_14 : decode jdk_68_method_68_code 14 = .ok (.goto 4, 3) := by decide +kernel
theorem d16_18 : decode jdk_68_method_68_code 18 = .ok (.ireturn, 1) := by decide +kernel
def Q16_1 (Z : State) (r0 : Addr) (x1 : Int32) (x2 : Int32) (h0 : Heap) (n0 : Nat) (v : Option Value) (h : Heap) (L : List Loc) : Prop := v = some (.int (1 : Int32)) ∧ Fr n0 L ∧ h = h0
set_option maxRecDepth 65536 in
set_option maxHeartbeats 40000000 in
theorem rm16_1 (l : Launch) (Z : State) (a0 : Array Value) (hw : ∀ d ∈ tables_1, d.before a0 Z = true) (ws : List Jvm.Cond) (r0 : Addr) (x1 : Int32) (x2 : Int32) (h0 : Heap) (n0 : Nat) (O0 : Old Z n0 h0) (f1 : Sta Z Z.heap "java/lang/String" "COMPACT_STRINGS" "Z" (.int x1)) (hc4 : ¬ (x1 = (0 : Int32))) (f5 : Fld Z h0 r0 cs0 "coder" "B" (.int x2)) (hc7 : x2 = (0 : Int32)) :
    MetFree l (⟨cs0, "isLatin1", "()Z"⟩ : MethodName) (head1 (Jvm.Cond.code (⟨cs0, "isLatin1", "()Z"⟩ : MethodName) jdk_68_method_68_code 1 (some .boolean) :: ws) ({ frames := 0, cells := 0, slots := 0, locals := 0 } : Room)) (fun a U => a = #[(.ref r0)] ∧ Z.Warmed39 U.vm ∧ U.heap = h0) (fun _ _ _ _ _ => True) (fun _ U o U' => ∃ v L, o = .returned v ∧ Q16_1 Z r0 x1 x2 h0 n0 v U'.heap L ∧ FrameEnd U o U' L ({ frames := 0, cells := 0, slots := 0, locals := 0 } : Room).cells ({ frames := 0, cells := 0, slots := 0, locals := 0 } : Room).slots) := by
  refine MetFree.of_bodySF (plainFor_of_name pn_java_lang_AbstractStringBuilder) hisR ?_
  intro p e s m args below meth c s₁ Bd hml0 hP hK
  obtain ⟨rfl, hZ, hh⟩ := hP
  have hx := Bd.exec
  have hby := Bd.bytes
  have hml : c.maxLocals = 1 := hml0
  have hown : s.vm.findClass cs0 = some m.cls := findClass_of_methodNamed Bd.named
  have hnm := (name_of_methodNamed Bd.named Bd.method).1
  have X0 : Stand p l e ({ frames := 0, cells := 0, slots := 0, locals := 0 } : Room) s m #[(.ref r0)] below meth c s₁ [] 0 0 := Stand.of_body Bd
  have e0 : s₁.heap = h0 := by rw [← hh, Bd.state]; rfl
  have N0 := Fr.nil n0
  have pre0 : ∀ t, Steps p.tables e below (s₁.setTop (mkF m 0 #[.val (.ref r0)] [])) t → Steps p.tables e below (s₁.setTop (entryFrame m #[(.ref r0)] 1)) t := fun t k => castTop (by first | (simp [entryFrame, mkF, argsToLocals, Value.category]; done) | rfl) k
  have f2 := f1.ext O0.2
  obtain ⟨T3, X3, e3, st3⟩ := getS2 X0 hx hZ hown (host := "") (Or.inl (ww hw 22 rfl)) Via.refl e0 f2 (g := (mkF m 0 #[.val (.ref r0)] [])) rfl (hb hby d16_0)
  obtain ⟨T6, X6, e6, st6⟩ := getF X3 hx hZ hown (host := "") (Or.inl (ww hw 27 rfl)) Via.refl e3 f5 (g := (mkF m 7 #[.val (.ref r0)] [(.ref r0)])) rfl rfl (hb hby d16_7)
  obtain ⟨fs, hr, hrun, hended, hW, hsame⟩ := X6.leave (v := some (.int (1 : Int32))) (fun h => by rw [Bd.returns] at h; cases h)
  refine ⟨_, _, pre0 _ ?_, hrun, hended, _, _, rfl, ?_, ⟨_, rfl⟩, hW, hsame.mono (by decide) (by decide)⟩
  · show Steps p.tables e below (s₁.setTop (mkF m 0 #[.val (.ref r0)] [])) _
    refine st3 _ ?_
    show Steps p.tables e below (T3.setTop (mkF m 3 #[.val (.ref r0)] [(.int x1)])) _
    refine XS.ifNo X3.here hx rfl (hb hby d16_3) rfl ((if0 _ _).trans (feq hc4).1) ?_
    refine XS.aloadN X3.here hx rfl (hb hby d16_6) rfl rfl ?_
    refine st6 _ ?_
    show Steps p.tables e below (T6.setTop (mkF m 10 #[.val (.ref r0)] [(.int x2)])) _
    refine XS.ifNo X6.here hx rfl (hb hby d16_10) rfl ((if0 _ _).trans (teq hc7).2) ?_
    refine XS.iconst X6.here hx rfl (hb hby d16_13) ?_
    refine XS.goto X6.here hx rfl (pc0 := 14) (pc' := 18) rfl (hb hby d16_14) (by decide) (by decide) ?_
    show Steps p.tables e below (T6.setTop (mkF m 18 #[.val (.ref r0)] [(.int (1 : Int32))])) _
    exact retN X6 hx (t := .boolean) Bd.returns (by simp) (hb hby d16_18) hr
  · show Q16_1 Z r0 x1 x2 h0 n0 _ T6.heap _
    rw [e6]
    exact ⟨rfl, N0, rfl⟩
theorem pd___Z : parseMethodDescriptor "()Z" = some ⟨[], some .boolean⟩ := by decide +kernel
theorem d14_21 : decode jdk_68_method_32_code 21 = .ok (.ifCond .eq 16, 3) := by decide +kernel
theorem d14_24 : decode jdk_68_method_32_code 24 = .ok (.iload_n 1, 1) := by decide +kernel
theorem d14_25 : decode jdk_68_method_32_code 25 = .ok (.iload_n 3, 1) := by decide +kernel
theorem d14_26 : decode jdk_68_method_32_code 26 = .ok (.aload_n 0, 1) := by decide +kernel
theorem d14_27 : decode jdk_68_method_32_code 27 = .ok (.getfield 15, 3) := by decide +kernel
theorem d14_30 : decode jdk_68_method_32_code 30 = .ok (.invokestatic 248, 3) := by decide +kernel
theorem d14_33 : decode jdk_68_method_32_code 33 = .ok (.pop, 1) := by decide +kernel
theorem d14_34 : decode jdk_68_method_32_code 34 = .ok (.goto 14, 3) := by decide +kernel
theorem d14_48 : decode jdk_68_method_32_code 48 = .ok (.aload_n 0, 1) := by decide +kernel
theorem d14_49 : decode jdk_68_method_32_code 49 = .ok (.iload_n 3, 1) := by decide +kernel
theorem d14_50 : decode jdk_68_method_32_code 50 = .ok (.putfield 79, 3) := by decide +kernel
theorem d14_53 : decode jdk_68_method_32_code 53 = .ok (.aload_n 0, 1) := by decide +kernel
theorem d14_54 : decode jdk_68_method_32_code 54 = .ok (.areturn, 1) := by decide +kernel
def Q14_1 (Z : State) (r0 : Addr) (x1 : Int32) (x2 : Int32) (r3 : Addr) (x4 : Int32) (c5 : ClassId) (t6 : List Value) (x7 : Int32) (x8 : Int32) (r9 : Addr) (r10 : Addr) (d11 : Cell) (r12 : Addr) (d13 : Cell) (h0 : Heap) (n0 : Nat) (v : Option Value) (h : Heap) (L : List Loc) : Prop := v = some (.ref r0) ∧ Fr n0 L ∧ Keep h0 h [r3, r0] ∧ Arv Z h r3 c5 .byte x4 (own_us t6 (.int (0 : Int32)) (x4).toNatClampNeg x1 ((x2 + (SBG.strSizeOf x1))).toNatClampNeg) (.int (0 : Int32)) ∧ Fld Z h r0 cs0 "count" "I" (.int (x2 + (SBG.strSizeOf x1))) ∧ Fld Z h r0 cs0 "value" "[B" (.ref r3) ∧ Fld Z h r0 cs0 "coder" "B" (.int x7)
set_option maxRecDepth 65536 in
set_option maxHeartbeats 40000000 in
theorem rm14_1 (l : Launch) (Z : State) (a0 : Array Value) (hw : ∀ d ∈ tables_1, d.before a0 Z = true) (ws : List Jvm.Cond) (r0 : Addr) (x1 : Int32) (x2 : Int32) (r3 : Addr) (x4 : Int32) (c5 : ClassId) (t6 : List Value) (x7 : Int32) (x8 : Int32) (r9 : Addr) (r10 : Addr) (d11 : Cell) (r12 : Addr) (d13 : Cell) (h0 : Heap) (n0 : Nat) (O0 : Old Z n0 h0) (f1 : Fld Z h0 r0 cs0 "count" "I" (.int x2)) (f4 : Exa Z h0 r0 "java/lang/StringBuilder") (f5 : Fld Z h0 r0 cs0 "value" "[B" (.ref r3)) (f6 : Arv Z h0 r3 c5 .byte x4 t6 (.int (0 : Int32))) (f7 : Fld Z h0 r0 cs0 "coder" "B" (.int x7)) (hc8 : ¬ ((0 : Int32) < ((x2 + (SBG.strSizeOf x1)) - (x4 >>> (x7 &&& 31))))) (f11 : Sta Z Z.heap "java/lang/String" "COMPACT_STRINGS" "Z" (.int x8)) (hc12 : ¬ (x8 = (0 : Int32))) (hc13 : x7 = (0 : Int32)) (f17 : own_TB Z r9 r10 d11 r12 d13) (g18 : n0 ≤ r3) (hc19 : ¬ ((x2 + (SBG.strSizeOf x1)) < 0)) (hc20 : ((x2 + (SBG.strSizeOf x1))).toNatClampNeg ≤ (x4).toNatClampNeg) (hc21 : own_sz x1 ≤ ((x2 + (SBG.strSizeOf x1))).toNatClampNeg) (n24 : r0 ≠ r3) (g26 : n0 ≤ r0) :
    MetFree l (⟨cs0, "append", cs3⟩ : MethodName) (head1 (Jvm.Cond.code (⟨cs0, "append", cs3⟩ : MethodName) jdk_68_method_32_code 4 (some (.object cs0)) :: ws) ({ frames := 2, cells := 0, slots := 0, locals := 78 } : Room)) (fun a U => a = #[(.ref r0), (.int x1)] ∧ Z.Warmed39 U.vm ∧ U.heap = h0) (fun _ _ _ _ _ => True) (fun _ U o U' => ∃ v L, o = .returned v ∧ Q14_1 Z r0 x1 x2 r3 x4 c5 t6 x7 x8 r9 r10 d11 r12 d13 h0 n0 v U'.heap L ∧ FrameEnd U o U' L ({ frames := 2, cells := 0, slots := 0, locals := 78 } : Room).cells ({ frames := 2, cells := 0, slots := 0, locals := 78 } : Room).slots) := by
  refine MetFree.of_bodySF (plainFor_of_name pn_java_lang_AbstractStringBuilder) hisR ?_
  intro p e s m args below meth c s₁ Bd hml0 hP hK
  obtain ⟨rfl, hZ, hh⟩ := hP
  have hx := Bd.exec
  have hby := Bd.bytes
  have hml : c.maxLocals = 4 := hml0
  have hown : s.vm.findClass cs0 = some m.cls := findClass_of_methodNamed Bd.named
  have hnm := (name_of_methodNamed Bd.named Bd.method).1
  have X0 : Stand p l e ({ frames := 2, cells := 0, slots := 0, locals := 78 } : Room) s m #[(.ref r0), (.int x1)] below meth c s₁ [] 0 0 := Stand.of_body Bd
  have e0 : s₁.heap = h0 := by rw [← hh, Bd.state]; rfl
  have N0 := Fr.nil n0
  have pre0 : ∀ t, Steps p.tables e below (s₁.setTop (mkF m 0 #[.val (.ref r0), .val (.int x1), .unset, .unset] [])) t → Steps p.tables e below (s₁.setTop (entryFrame m #[(.ref r0), (.int x1)] 4)) t := fun t k => castTop (by first | (simp [entryFrame, mkF, argsToLocals, Value.category]; done) | rfl) k
  obtain ⟨T2, X2, e2, st2⟩ := getF X0 hx hZ hown (host := "") (Or.inl (ww hw 58 rfl)) Via.refl e0 f1 (g := (mkF m 1 #[.val (.ref r0), .val (.int x1), .unset, .unset] [(.ref r0)])) rfl rfl (hb hby d14_1)
  obtain ⟨T3, X3, e3, st3⟩ := own_strSize X2 hx hZ hown (ww hw 94 rfl) (ww hw 95 rfl) (ww hw 96 rfl) (ww hw 97 rfl) e2 (x := x1) (g := (mkF m 7 #[.val (.ref r0), .val (.int x1), .val (.int x2), .unset] [(.int x1), (.int x2)])) rfl (by rw [hml]; rfl) rfl (hb hby d14_7) (by decide) (W := 1) (by show 2 * 0 + _ ≤ _; exact Nat.le_of_eq rfl) (by decide) (by decide) (by decide)
  obtain ⟨cqq10, qq10, qq10'⟩ := f4.cell
  obtain ⟨_, _, ⟨T9, L9, k9, n9⟩, -, X9, ⟨Lc9, hQ9, l9, y9, z9⟩, st9⟩ := X3.privateBack hx (y := (⟨cs0, "ensureCapacityInternal", "(I)V"⟩ : MethodName)) hown (mvT hZ (ww hw 60 rfl)) (mvT hZ (ww hw 61 rfl)) (own_selfsel (mvT hZ (ww hw 63 rfl)) (Cond.privateMethod_at (mvP hZ (ww hw 62 rfl) (args := #[]))) (mvT hZ (ww hw 61 rfl)) (by decide)) (Cond.privateMethod_at (mvP hZ (ww hw 62 rfl) (args := #[]))) (mvT hZ (ww hw 64 rfl)) (by decide) (backOf (W := 0) (rm9_1 l Z a0 hw [] r0 (x2 + (SBG.strSizeOf x1)) r3 x4 c5 t6 x7 h0 n0 O0 f5 f6 f7 hc8) hZ (ww hw 64 rfl) (ww hw 17 rfl) (by decide) (by decide)) (g := (mkF m 14 #[.val (.ref r0), .val (.int x1), .val (.int x2), .val (.int (x2 + (SBG.strSizeOf x1)))] [(.int (x2 + (SBG.strSizeOf x1))), (.ref r0)])) rfl (by rw [hml]; rfl) (Steps.refl _) (a := r0) (by rw [e3]; exact qq10) qq10' (argsL := [(.int (x2 + (SBG.strSizeOf x1)))]) (rest := []) (lenOf pd__I_V rfl) rfl (by show 2 * 0 + _ ≤ _; exact Nat.le_of_eq rfl) (hb hby d14_14) (fun _ _ => ⟨rfl, e3, (by decide : 0 + 0 ≤ _), (by decide : 0 + 0 ≤ _)⟩)
  dsimp only [Pt.U, Pt.locs, Pt.cells, Pt.slots] at X9 l9 y9 z9 st9 hQ9
  subst l9 y9 z9
  obtain ⟨rfl, N9q, E9⟩ := hQ9
  have N9 := Fr.app N0 N9q
  obtain ⟨cqq15, kqq15, qq15a, qq15b, qq15c⟩ := isOf hZ E9 f4
  obtain ⟨_, _, ⟨T14, L14, k14, n14⟩, -, X14, ⟨Lc14, hQ14, l14, y14, z14⟩, st14⟩ := X9.virtualBack hx (y := (⟨cs0, "isLatin1", "()Z"⟩ : MethodName)) (z := (⟨cs0, "isLatin1", "()Z"⟩ : MethodName)) hown (mvT hZ (ww hw 98 rfl)) (mvT hZ (ww hw 99 rfl)) (notFace_of_selects (args := #[]) (mvT hZ (ww hw 101 rfl))) (mvT hZ (ww hw 101 rfl)) (mvT hZ (ww hw 100 rfl)) (by decide) (backOf (W := 0) (rm16_1 l Z a0 hw [] r0 x8 x7 h0 n0 O0 f11 hc12 f7 hc13) hZ (ww hw 102 rfl) (ww hw 17 rfl) (by decide) (by decide)) qq15a qq15c (g := (mkF m 18 #[.val (.ref r0), .val (.int x1), .val (.int x2), .val (.int (x2 + (SBG.strSizeOf x1)))] [(.ref r0)])) rfl (by rw [hml]; rfl) (Steps.refl _) (argsL := []) (rest := []) (lenOf pd___Z rfl) rfl (by show 2 * 0 + _ ≤ _; exact Nat.le_of_eq rfl) (hb hby d14_18) (fun _ _ => ⟨rfl, E9, (by decide : 0 + 0 ≤ _), (by decide : 0 + 0 ≤ _)⟩)
  dsimp only [Pt.U, Pt.locs, Pt.cells, Pt.slots] at X14 l14 y14 z14 st14 hQ14
  subst l14 y14 z14
  obtain ⟨rfl, N14q, E14⟩ := hQ14
  have N14 := Fr.app N9 N14q
  obtain ⟨T16, X16, e16, st16⟩ := getF X14 hx hZ hown (host := "") (Or.inl (ww hw 25 rfl)) Via.refl E14 f5 (g := (mkF m 27 #[.val (.ref r0), .val (.int x1), .val (.int x2), .val (.int (x2 + (SBG.strSizeOf x1)))] [(.ref r0), (.int (x2 + (SBG.strSizeOf x1))), (.int x1)])) rfl rfl (hb hby d14_27)
  obtain ⟨T22, h22, L22, X22, e22, N22, K22, B22, st22⟩ := own_getChars X16 hx hZ hown (ww hw 103 rfl) (ww hw 104 rfl) (ww hw 96 rfl) (ww hw 105 rfl) (ww hw 106 rfl) (ww hw 201 rfl) e16 (x := x1) f6 f17 O0 g18 N14 hc19 hc20 hc21 (g := (mkF m 30 #[.val (.ref r0), .val (.int x1), .val (.int x2), .val (.int (x2 + (SBG.strSizeOf x1)))] [(.ref r3), (.int (x2 + (SBG.strSizeOf x1))), (.int x1)])) rfl (by rw [hml]; rfl) rfl (hb hby d14_30) (by decide) (W := 0) (by show 2 * 0 + _ ≤ _; exact Nat.le_of_eq rfl) (by decide) (by decide) (by decide)
  have V22 : Arv Z h22 r3 c5 .byte x4 (own_us t6 (.int (0 : Int32)) (x4).toNatClampNeg x1 ((x2 + (SBG.strSizeOf x1))).toNatClampNeg) (.int (0 : Int32)) := B22
  have f23 := (f4.keep K22)
  have f25 := (f1.keep K22 (ninS n24 nin0))
  obtain ⟨T27, h27, X27, e27, W27, st27⟩ := putF X22 hx hZ hown (host := "") (Or.inl (ww hw 58 rfl)) Via.refl e22 f25 f23 (Or.inl (ww hw 59 rfl)) (ww hw 8 rfl) (ty := .int) (by decide) rfl rfl (g := (mkF m 50 #[.val (.ref r0), .val (.int x1), .val (.int x2), .val (.int (x2 + (SBG.strSizeOf x1)))] [(.int (x2 + (SBG.strSizeOf x1))), (.ref r0)])) rfl rfl (hb hby d14_50)
  have Fw27 := f25.same W27
  have N27 := Fr.snoc X27 N22 g26
  have f28 := (V22.other W27 (Ne.symm n24))
  have f29 := ((f5.keep K22 (ninS n24 nin0)).other W27 (Or.inr (slot_ne (Or.inl (ww hw 26 rfl)) (Or.inl (ww hw 59 rfl)) (by decide) (t := (.array .byte)) (t' := .int) (by decide) (by decide))))
  have f30 := ((f7.keep K22 (ninS n24 nin0)).other W27 (Or.inr (slot_ne (Or.inl (ww hw 28 rfl)) (Or.inl (ww hw 59 rfl)) (by decide) (t := .byte) (t' := .int) (by decide) (by decide))))
  have kp31 : Keep h0 h22 [r3, r0] := (Keep.refl h0 [r3, r0]).trans K22 (allS (Or.inl (List.mem_of_getElem? (i := 0) rfl)) all0)
  have kp32 : Keep h0 h27 [r3, r0] := kp31.wr W27 (Or.inl (List.mem_of_getElem? (i := 1) rfl))
  obtain ⟨fs, hr, hrun, hended, hW, hsame⟩ := X27.leave (v := some (.ref r0)) (fun h => by rw [Bd.returns] at h; cases h)
  refine ⟨_, _, pre0 _ ?_, hrun, hended, _, _, rfl, ?_, ⟨_, rfl⟩, hW, hsame.mono (by decide) (by decide)⟩
  · show Steps p.tables e below (s₁.setTop (mkF m 0 #[.val (.ref r0), .val (.int x1), .unset, .unset] [])) _
    refine XS.aloadN X0.here hx rfl (hb hby d14_0) rfl rfl ?_
    refine st2 _ ?_
    show Steps p.tables e below (T2.setTop (mkF m 4 #[.val (.ref r0), .val (.int x1), .unset, .unset] [(.int x2)])) _
    refine XS.istoreN X2.here hx rfl (hb hby d14_4) rfl (l' := #[.val (.ref r0), .val (.int x1), .val (.int x2), .unset]) rfl ?_
    refine XS.iloadN X2.here hx rfl (hb hby d14_5) rfl ?_
    refine XS.iloadN X2.here hx rfl (hb hby d14_6) rfl ?_
    refine st3 _ ?_
    show Steps p.tables e below (T3.setTop (mkF m 10 #[.val (.ref r0), .val (.int x1), .val (.int x2), .unset] [(.int (SBG.strSizeOf x1)), (.int x2)])) _
    refine XS.iadd X3.here hx rfl (hb hby d14_10) rfl ?_
    refine XS.istoreN X3.here hx rfl (hb hby d14_11) rfl (l' := #[.val (.ref r0), .val (.int x1), .val (.int x2), .val (.int (x2 + (SBG.strSizeOf x1)))]) rfl ?_
    refine XS.aloadN X3.here hx rfl (hb hby d14_12) rfl rfl ?_
    refine XS.iloadN X3.here hx rfl (hb hby d14_13) rfl ?_
    show Steps p.tables e below (T3.setTop (mkF m 14 #[.val (.ref r0), .val (.int x1), .val (.int x2), .val (.int (x2 + (SBG.strSizeOf x1)))] [(.int (x2 + (SBG.strSizeOf x1))), (.ref r0)])) _
    refine st9.trans ?_
    show Steps p.tables e below (T9.setTop (mkF m 17 #[.val (.ref r0), .val (.int x1), .val (.int x2), .val (.int (x2 + (SBG.strSizeOf x1)))] [])) _
    refine XS.aloadN X9.here hx rfl (hb hby d14_17) rfl rfl ?_
    refine st14.trans ?_
    show Steps p.tables e below (T14.setTop (mkF m 21 #[.val (.ref r0), .val (.int x1), .val (.int x2), .val (.int (x2 + (SBG.strSizeOf x1)))] [(.int (1 : Int32))])) _
    refine XS.ifNo X14.here hx rfl (hb hby d14_21) rfl ((if0 _ _).trans (feq (by decide : ¬ ((1 : Int32) = (0 : Int32)))).1) ?_
    refine XS.iloadN X14.here hx rfl (hb hby d14_24) rfl ?_
    refine XS.iloadN X14.here hx rfl (hb hby d14_25) rfl ?_
    refine XS.aloadN X14.here hx rfl (hb hby d14_26) rfl rfl ?_
    show Steps p.tables e below (T14.setTop (mkF m 27 #[.val (.ref r0), .val (.int x1), .val (.int x2), .val (.int (x2 + (SBG.strSizeOf x1)))] [(.ref r0), (.int (x2 + (SBG.strSizeOf x1))), (.int x1)])) _
    refine st16 _ ?_
    show Steps p.tables e below (T16.setTop (mkF m 30 #[.val (.ref r0), .val (.int x1), .val (.int x2), .val (.int (x2 + (SBG.strSizeOf x1)))] [(.ref r3), (.int (x2 + (SBG.strSizeOf x1))), (.int x1)])) _
    refine st22 _ ?_
    show Steps p.tables e below (T22.setTop (mkF m 33 #[.val (.ref r0), .val (.int x1), .val (.int x2), .val (.int (x2 + (SBG.strSizeOf x1)))] [(.int (Int32.ofNat (((x2 + (SBG.strSizeOf x1))).toNatClampNeg - own_sz x1)))])) _
    refine XS.pop X22.here hx rfl (hb hby d14_33) rfl rfl ?_
    refine XS.goto X22.here hx rfl (pc0 := 34) (pc' := 48) rfl (hb hby d14_34) (by decide) (by decide) ?_
    show Steps p.tables e below (T22.setTop (mkF m 48 #[.val (.ref r0), .val (.int x1), .val (.int x2), .val (.int (x2 + (SBG.strSizeOf x1)))] [])) _
    refine XS.aloadN X22.here hx rfl (hb hby d14_48) rfl rfl ?_
    refine XS.iloadN X22.here hx rfl (hb hby d14_49) rfl ?_
    refine st27 _ ?_
    show Steps p.tables e below (T27.setTop (mkF m 53 #[.val (.ref r0), .val (.int x1), .val (.int x2), .val (.int (x2 + (SBG.strSizeOf x1)))] [])) _
    refine XS.aloadN X27.here hx rfl (hb hby d14_53) rfl rfl ?_
    exact retOut X27 hx (i := .areturn) Bd.returns rfl (Or.inr (Or.inr (Or.inr (Or.inr ⟨rfl, rfl, rfl⟩)))) (hb hby d14_54) hr
  · show Q14_1 Z r0 x1 x2 r3 x4 c5 t6 x7 x8 r9 r10 d11 r12 d13 h0 n0 _ T27.heap _
    rw [e27]
    exact ⟨rfl, N27, kp32, f28, Fw27, f29, f30⟩
theorem pd__I_Ljava_lang_AbstractStringBuilder_ : parseMethodDescriptor cs3 = some ⟨[.int], some (.object cs0)⟩ := by decide +kernel
theorem d13_5 : decode jdk_67_method_15_code 5 = .ok (.pop, 1) := by decide +kernel
theorem d13_6 : decode jdk_67_method_15_code 6 = .ok (.aload_n 0, 1) := by decide +kernel
theorem d13_7 : decode jdk_67_method_15_code 7 = .ok (.areturn, 1) := by decide +kernel
def Q13_1 (Z : State) (r0 : Addr) (x1 : Int32) (x2 : Int32) (r3 : Addr) (x4 : Int32) (c5 : ClassId) (t6 : List Value) (x7 : Int32) (x8 : Int32) (r9 : Addr) (r10 : Addr) (d11 : Cell) (r12 : Addr) (d13 : Cell) (h0 : Heap) (n0 : Nat) (v : Option Value) (h : Heap) (L : List Loc) : Prop := v = some (.ref r0) ∧ Fr n0 L ∧ Keep h0 h [r3, r0] ∧ Arv Z h r3 c5 .byte x4 (own_us t6 (.int (0 : Int32)) (x4).toNatClampNeg x1 ((x2 + (SBG.strSizeOf x1))).toNatClampNeg) (.int (0 : Int32)) ∧ Fld Z h r0 cs0 "count" "I" (.int (x2 + (SBG.strSizeOf x1))) ∧ Fld Z h r0 cs0 "value" "[B" (.ref r3) ∧ Fld Z h r0 cs0 "coder" "B" (.int x7)
set_option maxRecDepth 65536 in
set_option maxHeartbeats 40000000 in
theorem rm13_1 (l : Launch) (Z : State) (a0 : Array Value) (hw : ∀ d ∈ tables_1, d.before a0 Z = true) (ws : List Jvm.Cond) (r0 : Addr) (x1 : Int32) (x2 : Int32) (r3 : Addr) (x4 : Int32) (c5 : ClassId) (t6 : List Value) (x7 : Int32) (x8 : Int32) (r9 : Addr) (r10 : Addr) (d11 : Cell) (r12 : Addr) (d13 : Cell) (h0 : Heap) (n0 : Nat) (O0 : Old Z n0 h0) (f1 : Fld Z h0 r0 cs0 "count" "I" (.int x2)) (f2 : Exa Z h0 r0 "java/lang/StringBuilder") (f3 : Fld Z h0 r0 cs0 "value" "[B" (.ref r3)) (f4 : Arv Z h0 r3 c5 .byte x4 t6 (.int (0 : Int32))) (f5 : Fld Z h0 r0 cs0 "coder" "B" (.int x7)) (hc6 : ¬ ((0 : Int32) < ((x2 + (SBG.strSizeOf x1)) - (x4 >>> (x7 &&& 31))))) (f7 : Sta Z Z.heap "java/lang/String" "COMPACT_STRINGS" "Z" (.int x8)) (hc8 : ¬ (x8 = (0 : Int32))) (hc9 : x7 = (0 : Int32)) (f10 : own_TB Z r9 r10 d11 r12 d13) (g11 : n0 ≤ r3) (hc12 : ¬ ((x2 + (SBG.strSizeOf x1)) < 0)) (hc13 : ((x2 + (SBG.strSizeOf x1))).toNatClampNeg ≤ (x4).toNatClampNeg) (hc14 : own_sz x1 ≤ ((x2 + (SBG.strSizeOf x1))).toNatClampNeg) (n15 : r0 ≠ r3) (g16 : n0 ≤ r0) :
    MetFree l (⟨"java/lang/StringBuilder", "append", cs4⟩ : MethodName) (head1 (Jvm.Cond.code (⟨"java/lang/StringBuilder", "append", cs4⟩ : MethodName) jdk_67_method_15_code 2 (some (.object "java/lang/StringBuilder")) :: ws) ({ frames := 3, cells := 0, slots := 0, locals := 93 } : Room)) (fun a U => a = #[(.ref r0), (.int x1)] ∧ Z.Warmed39 U.vm ∧ U.heap = h0) (fun _ _ _ _ _ => True) (fun _ U o U' => ∃ v L, o = .returned v ∧ Q13_1 Z r0 x1 x2 r3 x4 c5 t6 x7 x8 r9 r10 d11 r12 d13 h0 n0 v U'.heap L ∧ FrameEnd U o U' L ({ frames := 3, cells := 0, slots := 0, locals := 93 } : Room).cells ({ frames := 3, cells := 0, slots := 0, locals := 93 } : Room).slots) := by
  refine MetFree.of_bodySF (plainFor_of_name pn_java_lang_StringBuilder) hisR ?_
  intro p e s m args below meth c s₁ Bd hml0 hP hK
  obtain ⟨rfl, hZ, hh⟩ := hP
  have hx := Bd.exec
  have hby := Bd.bytes
  have hml : c.maxLocals = 2 := hml0
  have hown : s.vm.findClass "java/lang/StringBuilder" = some m.cls := findClass_of_methodNamed Bd.named
  have hnm := (name_of_methodNamed Bd.named Bd.method).1
  have X0 : Stand p l e ({ frames := 3, cells := 0, slots := 0, locals := 93 } : Room) s m #[(.ref r0), (.int x1)] below meth c s₁ [] 0 0 := Stand.of_body Bd
  have e0 : s₁.heap = h0 := by rw [← hh, Bd.state]; rfl
  have N0 := Fr.nil n0
  have pre0 : ∀ t, Steps p.tables e below (s₁.setTop (mkF m 0 #[.val (.ref r0), .val (.int x1)] [])) t → Steps p.tables e below (s₁.setTop (entryFrame m #[(.ref r0), (.int x1)] 2)) t := fun t k => castTop (by first | (simp [entryFrame, mkF, argsToLocals, Value.category]; done) | rfl) k
  obtain ⟨_, _, ⟨T17, L17, k17, n17⟩, -, X17, ⟨Lc17, hQ17, l17, y17, z17⟩, st17⟩ := superBack X0 hx hZ (y := (⟨cs0, "append", cs3⟩ : MethodName)) hown (ww hw 90 rfl) (own_sameOwn (y := (⟨cs0, "append", cs3⟩ : MethodName)) (ww hw 63 rfl) rfl (ww hw 91 rfl) (by decide)) (ww hw 91 rfl) (ww hw 42 rfl) (by decide) (backOf (W := 0) (rm14_1 l Z a0 hw [] r0 x1 x2 r3 x4 c5 t6 x7 x8 r9 r10 d11 r12 d13 h0 n0 O0 f1 f2 f3 f4 f5 hc6 f7 hc8 hc9 f10 g11 hc12 hc13 hc14 n15 g16) hZ (ww hw 93 rfl) (ww hw 17 rfl) (by decide) (by decide)) e0 (Ins.self f2) (g := (mkF m 2 #[.val (.ref r0), .val (.int x1)] [(.int x1), (.ref r0)])) rfl (by rw [hml]; rfl) (ww hw 93 rfl) (argsL := [(.int x1)]) (rest := []) (lenOf pd__I_Ljava_lang_AbstractStringBuilder_ rfl) rfl (by show 2 * 0 + _ ≤ _; exact Nat.le_of_eq rfl) (hb hby d13_2) (fun _ _ => ⟨rfl, e0, (by decide : 0 + 0 ≤ _), (by decide : 0 + 0 ≤ _)⟩)
  dsimp only [Pt.U, Pt.locs, Pt.cells, Pt.slots] at X17 l17 y17 z17 st17 hQ17
  subst l17 y17 z17
  obtain ⟨rfl, N17q, K17, f18, f19, f20, f21⟩ := hQ17
  have N17 := Fr.app N0 N17q
  have kp22 : Keep h0 T17.heap [r3, r0] := (Keep.refl h0 [r3, r0]).trans K17 (allS (Or.inl (List.mem_of_getElem? (i := 0) rfl)) (allS (Or.inl (List.mem_of_getElem? (i := 1) rfl)) all0))
  obtain ⟨fs, hr, hrun, hended, hW, hsame⟩ := X17.leave (v := some (.ref r0)) (fun h => by rw [Bd.returns] at h; cases h)
  refine ⟨_, _, pre0 _ ?_, hrun, hended, _, _, rfl, ?_, ⟨_, rfl⟩, hW, hsame.mono (by decide) (by decide)⟩
  · show Steps p.tables e below (s₁.setTop (mkF m 0 #[.val (.ref r0), .val (.int x1)] [])) _
    refine XS.aloadN X0.here hx rfl (hb hby d13_0) rfl rfl ?_
    refine XS.iloadN X0.here hx rfl (hb hby d13_1) rfl ?_
    refine st17.trans ?_
    show Steps p.tables e below (T17.setTop (mkF m 5 #[.val (.ref r0), .val (.int x1)] [(.ref r0)])) _
    refine XS.pop X17.here hx rfl (hb hby d13_5) rfl rfl ?_
    refine XS.aloadN X17.here hx rfl (hb hby d13_6) rfl rfl ?_
    exact retOut X17 hx (i := .areturn) Bd.returns rfl (Or.inr (Or.inr (Or.inr (Or.inr ⟨rfl, rfl, rfl⟩)))) (hb hby d13_7) hr
  · show Q13_1 Z r0 x1 x2 r3 x4 c5 t6 x7 x8 r9 r10 d11 r12 d13 h0 n0 _ T17.heap _
    exact ⟨rfl, N17, kp22, f18, f19, f20, f21⟩
theorem pd__I_Ljava_lang_StringBuilder_ : parseMethodDescriptor cs4 = some ⟨[.int], some (.object "java/lang/StringBuilder")⟩ := by decide +kernel
theorem d1_20 : decode prog_22_method_3_code 20 = .ok (.invokevirtual 22, 3) := by decide +kernel
theorem d18_0 : decode jdk_67_method_42_code 0 = .ok (.new 18, 3) := by decide +kernel
theorem d18_3 : decode jdk_67_method_42_code 3 = .ok (.dup, 1) := by decide +kernel
theorem d18_4 : decode jdk_67_method_42_code 4 = .ok (.aload_n 0, 1) := by decide +kernel
theorem d18_5 : decode jdk_67_method_42_code 5 = .ok (.invokespecial 137, 3) := by decide +kernel
theorem d19_0 : decode jdk_42_method_53_code 0 = .ok (.aload_n 0, 1) := by decide +kernel
theorem d19_1 : decode jdk_42_method_53_code 1 = .ok (.aload_n 1, 1) := by decide +kernel
theorem d19_2 : decode jdk_42_method_53_code 2 = .ok (.aconst_null, 1) := by decide +kernel
theorem d19_3 : decode jdk_42_method_53_code 3 = .ok (.invokespecial 489, 3) := by decide +kernel
theorem d20_0 : decode jdk_42_method_150_code 0 = .ok (.aload_n 0, 1) := by decide +kernel
theorem d20_1 : decode jdk_42_method_150_code 1 = .ok (.invokespecial 1, 3) := by decide +kernel
theorem d20_4 : decode jdk_42_method_150_code 4 = .ok (.aload_n 1, 1) := by decide +kernel
theorem d20_5 : decode jdk_42_method_150_code 5 = .ok (.invokevirtual 552, 3) := by decide +kernel
theorem d21_0 : decode jdk_68_method_64_code 0 = .ok (.aload_n 0, 1) := by decide +kernel
theorem d21_1 : decode jdk_68_method_64_code 1 = .ok (.getfield 15, 3) := by decide +kernel
theorem d21_4 : decode jdk_68_method_64_code 4 = .ok (.areturn, 1) := by decide +kernel
def Q21_1 (Z : State) (r0 : Addr) (r1 : Addr) (h0 : Heap) (n0 : Nat) (v : Option Value) (h : Heap) (L : List Loc) : Prop := v = some (.ref r1) ∧ Fr n0 L ∧ h = h0
set_option maxRecDepth 65536 in
set_option maxHeartbeats 40000000 in
theorem rm21_1 (l : Launch) (Z : State) (a0 : Array Value) (hw : ∀ d ∈ tables_1, d.before a0 Z = true) (ws : List Jvm.Cond) (r0 : Addr) (r1 : Addr) (h0 : Heap) (n0 : Nat) (O0 : Old Z n0 h0) (f1 : Fld Z h0 r0 cs0 "value" "[B" (.ref r1)) :
    MetFree l (⟨cs0, "getValue", "()[B"⟩ : MethodName) (head1 (Jvm.Cond.code (⟨cs0, "getValue", "()[B"⟩ : MethodName) jdk_68_method_64_code 1 (some (.array .byte)) :: ws) ({ frames := 0, cells := 0, slots := 0, locals := 0 } : Room)) (fun a U => a = #[(.ref r0)] ∧ Z.Warmed39 U.vm ∧ U.heap = h0) (fun _ _ _ _ _ => True) (fun _ U o U' => ∃ v L, o = .returned v ∧ Q21_1 Z r0 r1 h0 n0 v U'.heap L ∧ FrameEnd U o U' L ({ frames := 0, cells := 0, slots := 0, locals := 0 } : Room).cells ({ frames := 0, cells := 0, slots := 0, locals := 0 } : Room).slots) := by
  refine MetFree.of_bodySF (plainFor_of_name pn_java_lang_AbstractStringBuilder) hisR ?_
  intro p e s m args below meth c s₁ Bd hml0 hP hK
  obtain ⟨rfl, hZ, hh⟩ := hP
  have hx := Bd.exec
  have hby := Bd.bytes
  have hml : c.maxLocals = 1 := hml0
  have hown : s.vm.findClass cs0 = some m.cls := findClass_of_methodNamed Bd.named
  have hnm := (name_of_methodNamed Bd.named Bd.method).1
  have X0 : Stand p l e ({ frames := 0, cells := 0, slots := 0, locals := 0 } : Room) s m #[(.ref r0)] below meth c s₁ [] 0 0 := Stand.of_body Bd
  have e0 : s₁.heap = h0 := by rw [← hh, Bd.state]; rfl
  have N0 := Fr.nil n0
  have pre0 : ∀ t, Steps p.tables e below (s₁.setTop (mkF m 0 #[.val (.ref r0)] [])) t → Steps p.tables e below (s₁.setTop (entryFrame m #[(.ref r0)] 1)) t := fun t k => castTop (by first | (simp [entryFrame, mkF, argsToLocals, Value.category]; done) | rfl) k
  obtain ⟨T2, X2, e2, st2⟩ := getF X0 hx hZ hown (host := "") (Or.inl (ww hw 25 rfl)) Via.refl e0 f1 (g := (mkF m 1 #[.val (.ref r0)] [(.ref r0)])) rfl rfl (hb hby d21_1)
  obtain ⟨fs, hr, hrun, hended, hW, hsame⟩ := X2.leave (v := some (.ref r1)) (fun h => by rw [Bd.returns] at h; cases h)
  refine ⟨_, _, pre0 _ ?_, hrun, hended, _, _, rfl, ?_, ⟨_, rfl⟩, hW, hsame.mono (by decide) (by decide)⟩
  · show Steps p.tables e below (s₁.setTop (mkF m 0 #[.val (.ref r0)] [])) _
    refine XS.aloadN X0.here hx rfl (hb hby d21_0) rfl rfl ?_
    refine st2 _ ?_
    show Steps p.tables e below (T2.setTop (mkF m 4 #[.val (.ref r0)] [(.ref r1)])) _
    exact retOut X2 hx (i := .areturn) Bd.returns rfl (Or.inr (Or.inr (Or.inr (Or.inr ⟨rfl, rfl, rfl⟩)))) (hb hby d21_4) hr
  · show Q21_1 Z r0 r1 h0 n0 _ T2.heap _
    rw [e2]
    exact ⟨rfl, N0, rfl⟩
theorem pd____B : parseMethodDescriptor "()[B" = some ⟨[], some (.array .byte)⟩ := by decide +kernel
theorem d20_8 : decode jdk_42_method_150_code 8 = .ok (.astore_n 3, 1) := by decide +kernel
theorem d20_9 : decode jdk_42_method_150_code 9 = .ok (.aload_n 1, 1) := by decide +kernel
theorem d20_10 : decode jdk_42_method_150_code 10 = .ok (.invokevirtual 549, 3) := by decide +kernel
theorem d22_0 : decode jdk_67_method_93_code 0 = .ok (.aload_n 0, 1) := by decide +kernel
theorem d22_1 : decode jdk_67_method_93_code 1 = .ok (.invokespecial 343, 3) := by decide +kernel
theorem d23_0 : decode jdk_68_method_6_code 0 = .ok (.aload_n 0, 1) := by decide +kernel
theorem d23_1 : decode jdk_68_method_6_code 1 = .ok (.getfield 79, 3) := by decide +kernel
theorem d23_4 : decode jdk_68_method_6_code 4 = .ok (.ireturn, 1) := by decide +kernel
def Q23_1 (Z : State) (r0 : Addr) (x1 : Int32) (h0 : Heap) (n0 : Nat) (v : Option Value) (h : Heap) (L : List Loc) : Prop := v = some (.int x1) ∧ Fr n0 L ∧ h = h0
set_option maxRecDepth 65536 in
set_option maxHeartbeats 40000000 in
theorem rm23_1 (l : Launch) (Z : State) (a0 : Array Value) (hw : ∀ d ∈ tables_1, d.before a0 Z = true) (ws : List Jvm.Cond) (r0 : Addr) (x1 : Int32) (h0 : Heap) (n0 : Nat) (O0 : Old Z n0 h0) (f1 : Fld Z h0 r0 cs0 "count" "I" (.int x1)) :
    MetFree l (⟨cs0, "length", "()I"⟩ : MethodName) (head1 (Jvm.Cond.code (⟨cs0, "length", "()I"⟩ : MethodName) jdk_68_method_6_code 1 (some .int) :: ws) ({ frames := 0, cells := 0, slots := 0, locals := 0 } : Room)) (fun a U => a = #[(.ref r0)] ∧ Z.Warmed39 U.vm ∧ U.heap = h0) (fun _ _ _ _ _ => True) (fun _ U o U' => ∃ v L, o = .returned v ∧ Q23_1 Z r0 x1 h0 n0 v U'.heap L ∧ FrameEnd U o U' L ({ frames := 0, cells := 0, slots := 0, locals := 0 } : Room).cells ({ frames := 0, cells := 0, slots := 0, locals := 0 } : Room).slots) := by
  refine MetFree.of_bodySF (plainFor_of_name pn_java_lang_AbstractStringBuilder) hisR ?_
  intro p e s m args below meth c s₁ Bd hml0 hP hK
  obtain ⟨rfl, hZ, hh⟩ := hP
  have hx := Bd.exec
  have hby := Bd.bytes
  have hml : c.maxLocals = 1 := hml0
  have hown : s.vm.findClass cs0 = some m.cls := findClass_of_methodNamed Bd.named
  have hnm := (name_of_methodNamed Bd.named Bd.method).1
  have X0 : Stand p l e ({ frames := 0, cells := 0, slots := 0, locals := 0 } : Room) s m #[(.ref r0)] below meth c s₁ [] 0 0 := Stand.of_body Bd
  have e0 : s₁.heap = h0 := by rw [← hh, Bd.state]; rfl
  have N0 := Fr.nil n0
  have pre0 : ∀ t, Steps p.tables e below (s₁.setTop (mkF m 0 #[.val (.ref r0)] [])) t → Steps p.tables e below (s₁.setTop (entryFrame m #[(.ref r0)] 1)) t := fun t k => castTop (by first | (simp [entryFrame, mkF, argsToLocals, Value.category]; done) | rfl) k
  obtain ⟨T2, X2, e2, st2⟩ := getF X0 hx hZ hown (host := "") (Or.inl (ww hw 58 rfl)) Via.refl e0 f1 (g := (mkF m 1 #[.val (.ref r0)] [(.ref r0)])) rfl rfl (hb hby d23_1)
  obtain ⟨fs, hr, hrun, hended, hW, hsame⟩ := X2.leave (v := some (.int x1)) (fun h => by rw [Bd.returns] at h; cases h)
  refine ⟨_, _, pre0 _ ?_, hrun, hended, _, _, rfl, ?_, ⟨_, rfl⟩, hW, hsame.mono (by decide) (by decide)⟩
  · show Steps p.tables e below (s₁.setTop (mkF m 0 #[.val (.ref r0)] [])) _
    refine XS.aloadN X0.here hx rfl (hb hby d23_0) rfl rfl ?_
    refine st2 _ ?_
    show Steps p.tables e below (T2.setTop (mkF m 4 #[.val (.ref r0)] [(.int x1)])) _
    exact retOut X2 hx (i := .ireturn) Bd.returns rfl (Or.inl ⟨rfl, Or.inl rfl, _, rfl⟩) (hb hby d23_4) hr
  · show Q23_1 Z r0 x1 h0 n0 _ T2.heap _
    rw [e2]
    exact ⟨rfl, N0, rfl⟩
theorem d22_4 : decode jdk_67_method_93_code 4 = .ok (.ireturn, 1) := by decide +kernel
def Q22_1 (Z : State) (r0 : Addr) (x1 : Int32) (h0 : Heap) (n0 : Nat) (v : Option Value) (h : Heap) (L : List Loc) : Prop := v = some (.int x1) ∧ Fr n0 L ∧ h = h0
set_option maxRecDepth 65536 in
set_option maxHeartbeats 40000000 in
theorem rm22_1 (l : Launch) (Z : State) (a0 : Array Value) (hw : ∀ d ∈ tables_1, d.before a0 Z = true) (ws : List Jvm.Cond) (r0 : Addr) (x1 : Int32) (h0 : Heap) (n0 : Nat) (O0 : Old Z n0 h0) (f1 : Fld Z h0 r0 cs0 "count" "I" (.int x1)) (f3 : Exa Z h0 r0 "java/lang/StringBuilder") :
    MetFree l (⟨"java/lang/StringBuilder", "length", "()I"⟩ : MethodName) (head1 (Jvm.Cond.code (⟨"java/lang/StringBuilder", "length", "()I"⟩ : MethodName) jdk_67_method_93_code 1 (some .int) :: ws) ({ frames := 1, cells := 0, slots := 0, locals := 12 } : Room)) (fun a U => a = #[(.ref r0)] ∧ Z.Warmed39 U.vm ∧ U.heap = h0) (fun _ _ _ _ _ => True) (fun _ U o U' => ∃ v L, o = .returned v ∧ Q22_1 Z r0 x1 h0 n0 v U'.heap L ∧ FrameEnd U o U' L ({ frames := 1, cells := 0, slots := 0, locals := 12 } : Room).cells ({ frames := 1, cells := 0, slots := 0, locals := 12 } : Room).slots) := by
  refine MetFree.of_bodySF (plainFor_of_name pn_java_lang_StringBuilder) hisR ?_
  intro p e s m args below meth c s₁ Bd hml0 hP hK
  obtain ⟨rfl, hZ, hh⟩ := hP
  have hx := Bd.exec
  have hby := Bd.bytes
  have hml : c.maxLocals = 1 := hml0
  have hown : s.vm.findClass "java/lang/StringBuilder" = some m.cls := findClass_of_methodNamed Bd.named
  have hnm := (name_of_methodNamed Bd.named Bd.method).1
  have X0 : Stand p l e ({ frames := 1, cells := 0, slots := 0, locals := 12 } : Room) s m #[(.ref r0)] below meth c s₁ [] 0 0 := Stand.of_body Bd
  have e0 : s₁.heap = h0 := by rw [← hh, Bd.state]; rfl
  have N0 := Fr.nil n0
  have pre0 : ∀ t, Steps p.tables e below (s₁.setTop (mkF m 0 #[.val (.ref r0)] [])) t → Steps p.tables e below (s₁.setTop (entryFrame m #[(.ref r0)] 1)) t := fun t k => castTop (by first | (simp [entryFrame, mkF, argsToLocals, Value.category]; done) | rfl) k
  obtain ⟨_, _, ⟨T2, L2, k2, n2⟩, -, X2, ⟨Lc2, hQ2, l2, y2, z2⟩, st2⟩ := superBack X0 hx hZ (y := (⟨cs0, "length", "()I"⟩ : MethodName)) hown (ww hw 132 rfl) (own_sameOwn (y := (⟨cs0, "length", "()I"⟩ : MethodName)) (ww hw 63 rfl) rfl (ww hw 128 rfl) (by decide)) (ww hw 128 rfl) (ww hw 42 rfl) (by decide) (backOf (W := 0) (rm23_1 l Z a0 hw [] r0 x1 h0 n0 O0 f1) hZ (ww hw 133 rfl) (ww hw 17 rfl) (by decide) (by decide)) e0 (Ins.self f3) (g := (mkF m 1 #[.val (.ref r0)] [(.ref r0)])) rfl (by rw [hml]; rfl) (ww hw 133 rfl) (argsL := []) (rest := []) (lenOf pd___I rfl) rfl (by show 2 * 0 + _ ≤ _; exact Nat.le_of_eq rfl) (hb hby d22_1) (fun _ _ => ⟨rfl, e0, (by decide : 0 + 0 ≤ _), (by decide : 0 + 0 ≤ _)⟩)
  dsimp only [Pt.U, Pt.locs, Pt.cells, Pt.slots] at X2 l2 y2 z2 st2 hQ2
  subst l2 y2 z2
  obtain ⟨rfl, N2q, E2⟩ := hQ2
  have N2 := Fr.app N0 N2q
  obtain ⟨fs, hr, hrun, hended, hW, hsame⟩ := X2.leave (v := some (.int x1)) (fun h => by rw [Bd.returns] at h; cases h)
  refine ⟨_, _, pre0 _ ?_, hrun, hended, _, _, rfl, ?_, ⟨_, rfl⟩, hW, hsame.mono (by decide) (by decide)⟩
  · show Steps p.tables e below (s₁.setTop (mkF m 0 #[.val (.ref r0)] [])) _
    refine XS.aloadN X0.here hx rfl (hb hby d22_0) rfl rfl ?_
    refine st2.trans ?_
    show Steps p.tables e below (T2.setTop (mkF m 4 #[.val (.ref r0)] [(.int x1)])) _
    exact retOut X2 hx (i := .ireturn) Bd.returns rfl (Or.inl ⟨rfl, Or.inl rfl, _, rfl⟩) (hb hby d22_4) hr
  · show Q22_1 Z r0 x1 h0 n0 _ T2.heap _
    rw [E2]
    exact ⟨rfl, N2, rfl⟩
theorem own_nfSel {s : State} {args : Array Value} {C : String} {y0 y' y : MethodName} (hsel : (Jvm.Cond.selects C y0 y').before args s = true) (hc : y'.cls = y.cls) : NotFace s y := fun r0 h0 => by
  obtain ⟨c2, r2, m2, -, -, q3, -, kP, hkP, hkPi⟩ := Cond.selects_spec hsel
  have f1 := findClass_of_methodNamed h0
  have f2 := findClass_of_methodNamed q3
  rw [hc, f1] at f2
  have e : r0.cls = m2.cls := Option.some.inj f2
  rw [← e] at hkP
  exact ⟨kP, hkP, hkPi⟩
theorem d20_13 : decode jdk_42_method_150_code 13 = .ok (.istore 4, 2) := by decide +kernel
theorem d20_15 : decode jdk_42_method_150_code 15 = .ok (.aload_n 1, 1) := by decide +kernel
theorem d20_16 : decode jdk_42_method_150_code 16 = .ok (.invokevirtual 1047, 3) := by decide +kernel
theorem d20_19 : decode jdk_42_method_150_code 19 = .ok (.ifCond .eq 22, 3) := by decide +kernel
theorem d20_22 : decode jdk_42_method_150_code 22 = .ok (.aload_n 0, 1) := by decide +kernel
theorem d20_23 : decode jdk_42_method_150_code 23 = .ok (.iconst 0, 1) := by decide +kernel
theorem d20_24 : decode jdk_42_method_150_code 24 = .ok (.putfield 15, 3) := by decide +kernel
theorem d20_27 : decode jdk_42_method_150_code 27 = .ok (.aload_n 0, 1) := by decide +kernel
theorem d20_28 : decode jdk_42_method_150_code 28 = .ok (.aload_n 3, 1) := by decide +kernel
theorem d20_29 : decode jdk_42_method_150_code 29 = .ok (.iconst 0, 1) := by decide +kernel
theorem d20_30 : decode jdk_42_method_150_code 30 = .ok (.iload 4, 2) := by decide +kernel
theorem d20_32 : decode jdk_42_method_150_code 32 = .ok (.invokestatic 54, 3) := by decide +kernel
theorem d24_0 : decode jdk_65_method_132_code 0 = .ok (.iload_n 1, 1) := by decide +kernel
theorem d24_1 : decode jdk_65_method_132_code 1 = .ok (.ifCond .ne 9, 3) := by decide +kernel
theorem d24_4 : decode jdk_65_method_132_code 4 = .ok (.iload_n 2, 1) := by decide +kernel
theorem d24_5 : decode jdk_65_method_132_code 5 = .ok (.aload_n 0, 1) := by decide +kernel
theorem d24_6 : decode jdk_65_method_132_code 6 = .ok (.arraylength, 1) := by decide +kernel
theorem d24_7 : decode jdk_65_method_132_code 7 = .ok (.if_icmp .eq 10, 3) := by decide +kernel
theorem d24_10 : decode jdk_65_method_132_code 10 = .ok (.aload_n 0, 1) := by decide +kernel
theorem d24_11 : decode jdk_65_method_132_code 11 = .ok (.iload_n 1, 1) := by decide +kernel
theorem d24_12 : decode jdk_65_method_132_code 12 = .ok (.iload_n 2, 1) := by decide +kernel
theorem d24_13 : decode jdk_65_method_132_code 13 = .ok (.invokestatic 339, 3) := by decide +kernel
theorem d25_0 : decode jdk_65_method_133_code 0 = .ok (.iload_n 1, 1) := by decide +kernel
theorem d25_1 : decode jdk_65_method_133_code 1 = .ok (.iload_n 2, 1) := by decide +kernel
theorem d25_2 : decode jdk_65_method_133_code 2 = .ok (.invokestatic 343, 3) := by decide +kernel
theorem d26_0 : decode jdk_65_method_131_code 0 = .ok (.iload_n 1, 1) := by decide +kernel
theorem d26_1 : decode jdk_65_method_131_code 1 = .ok (.iload_n 0, 1) := by decide +kernel
theorem d26_2 : decode jdk_65_method_131_code 2 = .ok (.if_icmp .ge 35, 3) := by decide +kernel
theorem d26_37 : decode jdk_65_method_131_code 37 = .ok (.return_, 1) := by decide +kernel
theorem pn_java_util_Arrays : plainName "java/util/Arrays" = true := by first | (simp [plainName, overriddenIn]; done) | decide +kernel
def Q26_1 (Z : State) (x0 : Int32) (x1 : Int32) (h0 : Heap) (n0 : Nat) (v : Option Value) (h : Heap) (L : List Loc) : Prop := v = none ∧ Fr n0 L ∧ h = h0
set_option maxRecDepth 65536 in
set_option maxHeartbeats 40000000 in
theorem rm26_1 (l : Launch) (Z : State) (a0 : Array Value) (hw : ∀ d ∈ tables_1, d.before a0 Z = true) (ws : List Jvm.Cond) (x0 : Int32) (x1 : Int32) (h0 : Heap) (n0 : Nat) (O0 : Old Z n0 h0) (hc1 : ¬ (x1 < x0)) :
    MetFree l (⟨"java/util/Arrays", "checkLength", "(II)V"⟩ : MethodName) (head1 (Jvm.Cond.code (⟨"java/util/Arrays", "checkLength", "(II)V"⟩ : MethodName) jdk_65_method_131_code 2 none :: ws) ({ frames := 0, cells := 0, slots := 0, locals := 0 } : Room)) (fun a U => a = #[(.int x0), (.int x1)] ∧ Z.Warmed39 U.vm ∧ U.heap = h0) (fun _ _ _ _ _ => True) (fun _ U o U' => ∃ v L, o = .returned v ∧ Q26_1 Z x0 x1 h0 n0 v U'.heap L ∧ FrameEnd U o U' L ({ frames := 0, cells := 0, slots := 0, locals := 0 } : Room).cells ({ frames := 0, cells := 0, slots := 0, locals := 0 } : Room).slots) := by
  refine MetFree.of_bodySF (plainFor_of_name pn_java_util_Arrays) hisR ?_
  intro p e s m args below meth c s₁ Bd hml0 hP hK
  obtain ⟨rfl, hZ, hh⟩ := hP
  have hx := Bd.exec
  have hby := Bd.bytes
  have hml : c.maxLocals = 2 := hml0
  have hown : s.vm.findClass "java/util/Arrays" = some m.cls := findClass_of_methodNamed Bd.named
  have hnm := (name_of_methodNamed Bd.named Bd.method).1
  have X0 : Stand p l e ({ frames := 0, cells := 0, slots := 0, locals := 0 } : Room) s m #[(.int x0), (.int x1)] below meth c s₁ [] 0 0 := Stand.of_body Bd
  have e0 : s₁.heap = h0 := by rw [← hh, Bd.state]; rfl
  have N0 := Fr.nil n0
  have pre0 : ∀ t, Steps p.tables e below (s₁.setTop (mkF m 0 #[.val (.int x0), .val (.int x1)] [])) t → Steps p.tables e below (s₁.setTop (entryFrame m #[(.int x0), (.int x1)] 2)) t := fun t k => castTop (by first | (simp [entryFrame, mkF, argsToLocals, Value.category]; done) | rfl) k
  obtain ⟨fs, hr, hrun, hended, hW, hsame⟩ := X0.leave (v := none) (fun _ => rfl)
  refine ⟨_, _, pre0 _ ?_, hrun, hended, _, _, rfl, ?_, ⟨_, rfl⟩, hW, hsame.mono (by decide) (by decide)⟩
  · show Steps p.tables e below (s₁.setTop (mkF m 0 #[.val (.int x0), .val (.int x1)] [])) _
    refine XS.iloadN X0.here hx rfl (hb hby d26_0) rfl ?_
    refine XS.iloadN X0.here hx rfl (hb hby d26_1) rfl ?_
    refine XS.icmpYes X0.here hx rfl (pc0 := 2) (pc' := 37) rfl (hb hby d26_2) rfl (flt hc1).2.1 (by decide) (by decide) ?_
    show Steps p.tables e below (s₁.setTop (mkF m 37 #[.val (.int x0), .val (.int x1)] [])) _
    exact X0.returnOut hx Bd.returns (hb hby d26_37) hr
  · show Q26_1 Z x0 x1 h0 n0 _ s₁.heap _
    rw [e0]
    exact ⟨rfl, N0, rfl⟩
theorem pd__II_V : parseMethodDescriptor "(II)V" = some ⟨[.int, .int], none⟩ := by decide +kernel
theorem d25_5 : decode jdk_65_method_133_code 5 = .ok (.iload_n 2, 1) := by decide +kernel
theorem d25_6 : decode jdk_65_method_133_code 6 = .ok (.iload_n 1, 1) := by decide +kernel
theorem d25_7 : decode jdk_65_method_133_code 7 = .ok (.isub, 1) := by decide +kernel
theorem d25_8 : decode jdk_65_method_133_code 8 = .ok (.istore_n 3, 1) := by decide +kernel
theorem d25_9 : decode jdk_65_method_133_code 9 = .ok (.iload_n 3, 1) := by decide +kernel
theorem d25_10 : decode jdk_65_method_133_code 10 = .ok (.newarray .byte, 2) := by decide +kernel
theorem d25_12 : decode jdk_65_method_133_code 12 = .ok (.astore 4, 2) := by decide +kernel
theorem d25_14 : decode jdk_65_method_133_code 14 = .ok (.aload_n 0, 1) := by decide +kernel
theorem d25_15 : decode jdk_65_method_133_code 15 = .ok (.iload_n 1, 1) := by decide +kernel
theorem d25_16 : decode jdk_65_method_133_code 16 = .ok (.aload 4, 2) := by decide +kernel
theorem d25_18 : decode jdk_65_method_133_code 18 = .ok (.iconst 0, 1) := by decide +kernel
theorem d25_19 : decode jdk_65_method_133_code 19 = .ok (.aload_n 0, 1) := by decide +kernel
theorem d25_20 : decode jdk_65_method_133_code 20 = .ok (.arraylength, 1) := by decide +kernel
theorem d25_21 : decode jdk_65_method_133_code 21 = .ok (.iload_n 1, 1) := by decide +kernel
theorem d25_22 : decode jdk_65_method_133_code 22 = .ok (.isub, 1) := by decide +kernel
theorem d25_23 : decode jdk_65_method_133_code 23 = .ok (.iload_n 3, 1) := by decide +kernel
theorem d25_24 : decode jdk_65_method_133_code 24 = .ok (.invokestatic 304, 3) := by decide +kernel
theorem d27_0 : decode jdk_29_method_69_code 0 = .ok (.iload_n 0, 1) := by decide +kernel
theorem d27_1 : decode jdk_29_method_69_code 1 = .ok (.iload_n 1, 1) := by decide +kernel
theorem d27_2 : decode jdk_29_method_69_code 2 = .ok (.if_icmp .gt 7, 3) := by decide +kernel
theorem d27_9 : decode jdk_29_method_69_code 9 = .ok (.iload_n 1, 1) := by decide +kernel
theorem d27_10 : decode jdk_29_method_69_code 10 = .ok (.ireturn, 1) := by decide +kernel
def Q27_1 (Z : State) (x0 : Int32) (x1 : Int32) (h0 : Heap) (n0 : Nat) (v : Option Value) (h : Heap) (L : List Loc) : Prop := v = some (.int x1) ∧ Fr n0 L ∧ h = h0
set_option maxRecDepth 65536 in
set_option maxHeartbeats 40000000 in
theorem rm27_1 (l : Launch) (Z : State) (a0 : Array Value) (hw : ∀ d ∈ tables_1, d.before a0 Z = true) (ws : List Jvm.Cond) (x0 : Int32) (x1 : Int32) (h0 : Heap) (n0 : Nat) (O0 : Old Z n0 h0) (hc1 : x1 < x0) :
    MetFree l (⟨"java/lang/Math", "min", "(II)I"⟩ : MethodName) (head1 (Jvm.Cond.code (⟨"java/lang/Math", "min", "(II)I"⟩ : MethodName) jdk_29_method_69_code 2 (some .int) :: ws) ({ frames := 0, cells := 0, slots := 0, locals := 0 } : Room)) (fun a U => a = #[(.int x0), (.int x1)] ∧ Z.Warmed39 U.vm ∧ U.heap = h0) (fun _ _ _ _ _ => True) (fun _ U o U' => ∃ v L, o = .returned v ∧ Q27_1 Z x0 x1 h0 n0 v U'.heap L ∧ FrameEnd U o U' L ({ frames := 0, cells := 0, slots := 0, locals := 0 } : Room).cells ({ frames := 0, cells := 0, slots := 0, locals := 0 } : Room).slots) := by
  refine MetFree.of_bodySF (Jvm.Free.JP.mathPlain rfl (by decide +kernel)) hisR ?_
  intro p e s m args below meth c s₁ Bd hml0 hP hK
  obtain ⟨rfl, hZ, hh⟩ := hP
  have hx := Bd.exec
  have hby := Bd.bytes
  have hml : c.maxLocals = 2 := hml0
  have hown : s.vm.findClass "java/lang/Math" = some m.cls := findClass_of_methodNamed Bd.named
  have hnm := (name_of_methodNamed Bd.named Bd.method).1
  have X0 : Stand p l e ({ frames := 0, cells := 0, slots := 0, locals := 0 } : Room) s m #[(.int x0), (.int x1)] below meth c s₁ [] 0 0 := Stand.of_body Bd
  have e0 : s₁.heap = h0 := by rw [← hh, Bd.state]; rfl
  have N0 := Fr.nil n0
  have pre0 : ∀ t, Steps p.tables e below (s₁.setTop (mkF m 0 #[.val (.int x0), .val (.int x1)] [])) t → Steps p.tables e below (s₁.setTop (entryFrame m #[(.int x0), (.int x1)] 2)) t := fun t k => castTop (by first | (simp [entryFrame, mkF, argsToLocals, Value.category]; done) | rfl) k
  obtain ⟨fs, hr, hrun, hended, hW, hsame⟩ := X0.leave (v := some (.int x1)) (fun h => by rw [Bd.returns] at h; cases h)
  refine ⟨_, _, pre0 _ ?_, hrun, hended, _, _, rfl, ?_, ⟨_, rfl⟩, hW, hsame.mono (by decide) (by decide)⟩
  · show Steps p.tables e below (s₁.setTop (mkF m 0 #[.val (.int x0), .val (.int x1)] [])) _
    refine XS.iloadN X0.here hx rfl (hb hby d27_0) rfl ?_
    refine XS.iloadN X0.here hx rfl (hb hby d27_1) rfl ?_
    refine XS.icmpYes X0.here hx rfl (pc0 := 2) (pc' := 9) rfl (hb hby d27_2) rfl (tlt hc1).2.2.1 (by decide) (by decide) ?_
    show Steps p.tables e below (s₁.setTop (mkF m 9 #[.val (.int x0), .val (.int x1)] [])) _
    refine XS.iloadN X0.here hx rfl (hb hby d27_9) rfl ?_
    exact retOut X0 hx (i := .ireturn) Bd.returns rfl (Or.inl ⟨rfl, Or.inl rfl, _, rfl⟩) (hb hby d27_10) hr
  · show Q27_1 Z x0 x1 h0 n0 _ s₁.heap _
    rw [e0]
    exact ⟨rfl, N0, rfl⟩
theorem pd__II_I : parseMethodDescriptor "(II)I" = some ⟨[.int, .int], some .int⟩ := by decide +kernel
theorem d25_27 : decode jdk_65_method_133_code 27 = .ok (.invokestatic 150, 3) := by decide +kernel
theorem d25_30 : decode jdk_65_method_133_code 30 = .ok (.aload 4, 2) := by decide +kernel
theorem d25_32 : decode jdk_65_method_133_code 32 = .ok (.areturn, 1) := by decide +kernel
def Q25_1 (Z : State) (r0 : Addr) (x1 : Int32) (x2 : Int32) (c3 : ClassId) (t4 : List Value) (h0 : Heap) (n0 : Nat) (v : Option Value) (h : Heap) (L : List Loc) : Prop := ∃ (b5 : Addr) (k5 : ClassId), v = some (.ref b5) ∧ Fr n0 L ∧ Keep h0 h [] ∧ h0.size ≤ b5 ∧ Arv Z h b5 k5 .byte (x1 - (0 : Int32)) t4 (.int (0 : Int32)) ∧ Exa Z h b5 "[B"
set_option maxRecDepth 65536 in
set_option maxHeartbeats 40000000 in
theorem rm25_1 (l : Launch) (Z : State) (a0 : Array Value) (hw : ∀ d ∈ tables_1, d.before a0 Z = true) (ws : List Jvm.Cond) (r0 : Addr) (x1 : Int32) (x2 : Int32) (c3 : ClassId) (t4 : List Value) (h0 : Heap) (n0 : Nat) (O0 : Old Z n0 h0) (hc1 : ¬ (x1 < (0 : Int32))) (hc3 : ¬ ((x1 - (0 : Int32)) < 0)) (hc4 : ((x1 - (0 : Int32))).toNatClampNeg ≤ 32) (f6 : Arv Z h0 r0 c3 .byte x2 t4 (.int (0 : Int32))) (hc9 : (x1 - (0 : Int32)) < (x2 - (0 : Int32))) (hc12 : ((x1 - (0 : Int32))).toNatClampNeg ≤ (x2).toNatClampNeg) :
    MetFree l (⟨"java/util/Arrays", "copyOfRangeByte", "([BII)[B"⟩ : MethodName) (head1 (Jvm.Cond.code (⟨"java/util/Arrays", "copyOfRangeByte", "([BII)[B"⟩ : MethodName) jdk_65_method_133_code 5 (some (.array .byte)) :: ws) ({ frames := 1, cells := 1, slots := 32, locals := 24 } : Room)) (fun a U => a = #[(.ref r0), (.int (0 : Int32)), (.int x1)] ∧ Z.Warmed39 U.vm ∧ U.heap = h0) (fun _ _ _ _ _ => True) (fun _ U o U' => ∃ v L, o = .returned v ∧ Q25_1 Z r0 x1 x2 c3 t4 h0 n0 v U'.heap L ∧ FrameEnd U o U' L ({ frames := 1, cells := 1, slots := 32, locals := 24 } : Room).cells ({ frames := 1, cells := 1, slots := 32, locals := 24 } : Room).slots) := by
  refine MetFree.of_bodySF (plainFor_of_name pn_java_util_Arrays) hisR ?_
  intro p e s m args below meth c s₁ Bd hml0 hP hK
  obtain ⟨rfl, hZ, hh⟩ := hP
  have hx := Bd.exec
  have hby := Bd.bytes
  have hml : c.maxLocals = 5 := hml0
  have hown : s.vm.findClass "java/util/Arrays" = some m.cls := findClass_of_methodNamed Bd.named
  have hnm := (name_of_methodNamed Bd.named Bd.method).1
  have X0 : Stand p l e ({ frames := 1, cells := 1, slots := 32, locals := 24 } : Room) s m #[(.ref r0), (.int (0 : Int32)), (.int x1)] below meth c s₁ [] 0 0 := Stand.of_body Bd
  have e0 : s₁.heap = h0 := by rw [← hh, Bd.state]; rfl
  have N0 := Fr.nil n0
  have pre0 : ∀ t, Steps p.tables e below (s₁.setTop (mkF m 0 #[.val (.ref r0), .val (.int (0 : Int32)), .val (.int x1), .unset, .unset] [])) t → Steps p.tables e below (s₁.setTop (entryFrame m #[(.ref r0), (.int (0 : Int32)), (.int x1)] 5)) t := fun t k => castTop (by first | (simp [entryFrame, mkF, argsToLocals, Value.category]; done) | rfl) k
  obtain ⟨_, _, ⟨T2, L2, k2, n2⟩, -, X2, ⟨Lc2, hQ2, l2, y2, z2⟩, st2⟩ := Jvm.LawKit.callS X0 hx (y := (⟨"java/util/Arrays", "checkLength", "(II)V"⟩ : MethodName)) hown (mvT hZ (ww hw 142 rfl)) (mvT hZ (ww hw 143 rfl)) (mvT hZ (ww hw 137 rfl)) (mvT hZ (ww hw 144 rfl)) (by decide) (backOf (W := 0) (rm26_1 l Z a0 hw [] (0 : Int32) x1 h0 n0 O0 hc1) hZ (ww hw 144 rfl) (ww hw 137 rfl) (by decide) (by decide)) (g := (mkF m 2 #[.val (.ref r0), .val (.int (0 : Int32)), .val (.int x1), .unset, .unset] [(.int x1), (.int (0 : Int32))])) rfl (by rw [hml]; rfl) (argsL := [(.int (0 : Int32)), (.int x1)]) (rest := []) (lenOf pd__II_V rfl) rfl (by show 2 * 0 + _ ≤ _; exact Nat.le_of_eq rfl) (hb hby d25_2) (fun _ _ => ⟨rfl, e0, (by decide : 0 + 0 ≤ _), (by decide : 0 + 0 ≤ _)⟩)
  dsimp only [Pt.U, Pt.locs, Pt.cells, Pt.slots] at X2 l2 y2 z2 st2 hQ2
  subst l2 y2 z2
  obtain ⟨rfl, N2q, E2⟩ := hQ2
  have N2 := Fr.app N0 N2q
  obtain ⟨T5, h5, k5, X5, e5, E5, A5, B5, st5⟩ := newPE X2 hx hZ (ww hw 24 rfl) E2 (g := (mkF m 10 #[.val (.ref r0), .val (.int (0 : Int32)), .val (.int x1), .val (.int (x1 - (0 : Int32))), .unset] [(.int (x1 - (0 : Int32)))])) rfl (hb hby d25_10) rfl hc3 (cap := 32) hc4 (by decide) (by decide) (by decide) (ad := "[B") rfl
  obtain ⟨b5, g5⟩ : ∃ z, z = h0.size := ⟨_, rfl⟩
  rw [← g5] at A5 B5 st5
  have V5 : Arv Z h5 b5 k5 .byte (x1 - (0 : Int32)) [] (.int (0 : Int32)) := Arv.new A5 hc3
  have f7 := (f6.ext E5)
  obtain ⟨clq8, Arq8, qq8, Sq8, Nq8, Hq8, Gq8⟩ := id f7
  have o10 := Old.ext O0 E5
  obtain ⟨_, _, ⟨T11, L11, k11, n11⟩, -, X11, ⟨Lc11, hQ11, l11, y11, z11⟩, st11⟩ := Jvm.LawKit.callS X5 hx (y := (⟨"java/lang/Math", "min", "(II)I"⟩ : MethodName)) hown (mvT hZ (ww hw 145 rfl)) (mvT hZ (ww hw 146 rfl)) (mvT hZ (ww hw 147 rfl)) (mvT hZ (ww hw 148 rfl)) (by decide) (backOf (W := 4) (rm27_1 l Z a0 hw [] (x2 - (0 : Int32)) (x1 - (0 : Int32)) h5 n0 o10 hc9) hZ (ww hw 148 rfl) (ww hw 147 rfl) (by decide) (by decide)) (g := (mkF m 24 #[.val (.ref r0), .val (.int (0 : Int32)), .val (.int x1), .val (.int (x1 - (0 : Int32))), .val (.ref b5)] [(.int (x1 - (0 : Int32))), (.int (x2 - (0 : Int32))), (.int (0 : Int32)), (.ref b5), (.int (0 : Int32)), (.ref r0)])) rfl (by rw [hml]; rfl) (argsL := [(.int (x2 - (0 : Int32))), (.int (x1 - (0 : Int32)))]) (rest := [(.int (0 : Int32)), (.ref b5), (.int (0 : Int32)), (.ref r0)]) (lenOf pd__II_I rfl) rfl (by show 2 * 0 + _ ≤ _; exact Nat.le_of_eq rfl) (hb hby d25_24) (fun _ _ => ⟨rfl, e5, (by decide : 1 + 0 ≤ _), (by decide : 32 + 0 ≤ _)⟩)
  dsimp only [Pt.U, Pt.locs, Pt.cells, Pt.slots] at X11 l11 y11 z11 st11 hQ11
  subst l11 y11 z11
  obtain ⟨rfl, N11q, E11⟩ := hQ11
  have N11 := Fr.app N2 N11q
  have zz13 : n0 ≤ h0.size := by rw [← O0.1]; exact O0.2.1
  have g14 := Nat.le_trans zz13 (Nat.le_of_eq g5.symm)
  obtain ⟨T15, h15, L15, X15, e15, N15, K15, B15, st15⟩ := cpA X11 hx hZ hown (ww hw 149 rfl) (ww hw 84 rfl) (ww hw 82 rfl) (ww hw 83 rfl) E11 f7 (own_padZ V5 ((x1 - (0 : Int32))).toNatClampNeg) (Or.inl ⟨rfl, rfl⟩) (by decide) (by decide) hc3 (by rw [show (0 : Int32).toNatClampNeg = 0 from rfl, Nat.zero_add]; exact hc12) (by rw [show (0 : Int32).toNatClampNeg = 0 from rfl, Nat.zero_add]; exact Nat.le_of_eq rfl) rfl (by rw [show (0 : Int32).toNatClampNeg = 0 from rfl, Nat.zero_add, List.length_replicate]; exact Nat.le_refl _) N11 g14 (g := (mkF m 27 #[.val (.ref r0), .val (.int (0 : Int32)), .val (.int x1), .val (.int (x1 - (0 : Int32))), .val (.ref b5)] [(.int (x1 - (0 : Int32))), (.int (0 : Int32)), (.ref b5), (.int (0 : Int32)), (.ref r0)])) rfl (by rw [hml]; rfl) rfl (hb hby d25_27) (by decide) (W := 0) (by show 2 * 0 + _ ≤ _; exact Nat.le_of_eq rfl) (by decide)
  have V15 : Arv Z h15 b5 k5 .byte (x1 - (0 : Int32)) t4 (.int (0 : Int32)) := own_cpAll rfl B15
  have f16 := (B5.keep K15)
  have kp17 : Keep h0 h5 [] := (Keep.refl h0 []).ext E5
  have kp18 : Keep h0 h15 [] := kp17.trans K15 (allS (Or.inr (Nat.le_of_eq g5.symm)) all0)
  obtain ⟨fs, hr, hrun, hended, hW, hsame⟩ := X15.leave (v := some (.ref b5)) (fun h => by rw [Bd.returns] at h; cases h)
  refine ⟨_, _, pre0 _ ?_, hrun, hended, _, _, rfl, ?_, ⟨_, rfl⟩, hW, hsame.mono (by decide) (by decide)⟩
  · show Steps p.tables e below (s₁.setTop (mkF m 0 #[.val (.ref r0), .val (.int (0 : Int32)), .val (.int x1), .unset, .unset] [])) _
    refine XS.iloadN X0.here hx rfl (hb hby d25_0) rfl ?_
    refine XS.iloadN X0.here hx rfl (hb hby d25_1) rfl ?_
    refine st2 _ ?_
    show Steps p.tables e below (T2.setTop (mkF m 5 #[.val (.ref r0), .val (.int (0 : Int32)), .val (.int x1), .unset, .unset] [])) _
    refine XS.iloadN X2.here hx rfl (hb hby d25_5) rfl ?_
    refine XS.iloadN X2.here hx rfl (hb hby d25_6) rfl ?_
    refine XS.isub X2.here hx rfl (hb hby d25_7) rfl ?_
    refine XS.istoreN X2.here hx rfl (hb hby d25_8) rfl (l' := #[.val (.ref r0), .val (.int (0 : Int32)), .val (.int x1), .val (.int (x1 - (0 : Int32))), .unset]) rfl ?_
    show Steps p.tables e below (T2.setTop (mkF m 9 #[.val (.ref r0), .val (.int (0 : Int32)), .val (.int x1), .val (.int (x1 - (0 : Int32))), .unset] [])) _
    refine XS.iloadN X2.here hx rfl (hb hby d25_9) rfl ?_
    refine st5 _ ?_
    show Steps p.tables e below (T5.setTop (mkF m 12 #[.val (.ref r0), .val (.int (0 : Int32)), .val (.int x1), .val (.int (x1 - (0 : Int32))), .unset] [(.ref b5)])) _
    refine XS.astore X5.here hx rfl (hb hby d25_12) rfl rfl (l' := #[.val (.ref r0), .val (.int (0 : Int32)), .val (.int x1), .val (.int (x1 - (0 : Int32))), .val (.ref b5)]) rfl ?_
    refine XS.aloadN X5.here hx rfl (hb hby d25_14) rfl rfl ?_
    refine XS.iloadN X5.here hx rfl (hb hby d25_15) rfl ?_
    refine XS.aload X5.here hx rfl (hb hby d25_16) rfl rfl ?_
    show Steps p.tables e below (T5.setTop (mkF m 18 #[.val (.ref r0), .val (.int (0 : Int32)), .val (.int x1), .val (.int (x1 - (0 : Int32))), .val (.ref b5)] [(.ref b5), (.int (0 : Int32)), (.ref r0)])) _
    refine XS.iconst X5.here hx rfl (hb hby d25_18) ?_
    refine XS.aloadN X5.here hx rfl (hb hby d25_19) rfl rfl ?_
    refine X5.arraylength hx (by rw [e5]; exact Arq8.1) (State.isArrayOf_alike hZ.alike Arq8.2.1) (g := (mkF m 20 #[.val (.ref r0), .val (.int (0 : Int32)), .val (.int x1), .val (.int (x1 - (0 : Int32))), .val (.ref b5)] [(.ref r0), (.int (0 : Int32)), (.ref b5), (.int (0 : Int32)), (.ref r0)])) rfl rfl (hb hby d25_20) _ ?_
    rw [len_of Sq8 Nq8]
    show Steps p.tables e below (T5.setTop (mkF m 21 #[.val (.ref r0), .val (.int (0 : Int32)), .val (.int x1), .val (.int (x1 - (0 : Int32))), .val (.ref b5)] [(.int x2), (.int (0 : Int32)), (.ref b5), (.int (0 : Int32)), (.ref r0)])) _
    refine XS.iloadN X5.here hx rfl (hb hby d25_21) rfl ?_
    refine XS.isub X5.here hx rfl (hb hby d25_22) rfl ?_
    refine XS.iloadN X5.here hx rfl (hb hby d25_23) rfl ?_
    refine st11 _ ?_
    show Steps p.tables e below (T11.setTop (mkF m 27 #[.val (.ref r0), .val (.int (0 : Int32)), .val (.int x1), .val (.int (x1 - (0 : Int32))), .val (.ref b5)] [(.int (x1 - (0 : Int32))), (.int (0 : Int32)), (.ref b5), (.int (0 : Int32)), (.ref r0)])) _
    refine st15 _ ?_
    show Steps p.tables e below (T15.setTop (mkF m 30 #[.val (.ref r0), .val (.int (0 : Int32)), .val (.int x1), .val (.int (x1 - (0 : Int32))), .val (.ref b5)] [])) _
    refine XS.aload X15.here hx rfl (hb hby d25_30) rfl rfl ?_
    exact retOut X15 hx (i := .areturn) Bd.returns rfl (Or.inr (Or.inr (Or.inr (Or.inr ⟨rfl, rfl, rfl⟩)))) (hb hby d25_32) hr
  · show Q25_1 Z r0 x1 x2 c3 t4 h0 n0 _ T15.heap _
    rw [e15]
    exact ⟨b5, k5, rfl, N15, kp18, (Nat.le_of_eq g5.symm), V15, f16⟩
theorem pd___BII__B : parseMethodDescriptor "([BII)[B" = some ⟨[(.array .byte), .int, .int], some (.array .byte)⟩ := by decide +kernel
theorem d24_16 : decode jdk_65_method_132_code 16 = .ok (.areturn, 1) := by decide +kernel
def Q24_1 (Z : State) (r0 : Addr) (x1 : Int32) (x2 : Int32) (c3 : ClassId) (t4 : List Value) (h0 : Heap) (n0 : Nat) (v : Option Value) (h : Heap) (L : List Loc) : Prop := ∃ (b9_0 : Addr) (k9_0 : ClassId), v = some (.ref b9_0) ∧ Fr n0 L ∧ Keep h0 h [] ∧ h0.size ≤ b9_0 ∧ Arv Z h b9_0 k9_0 .byte (x1 - (0 : Int32)) t4 (.int (0 : Int32)) ∧ Exa Z h b9_0 "[B"
set_option maxRecDepth 65536 in
set_option maxHeartbeats 40000000 in
theorem rm24_1 (l : Launch) (Z : State) (a0 : Array Value) (hw : ∀ d ∈ tables_1, d.before a0 Z = true) (ws : List Jvm.Cond) (r0 : Addr) (x1 : Int32) (x2 : Int32) (c3 : ClassId) (t4 : List Value) (h0 : Heap) (n0 : Nat) (O0 : Old Z n0 h0) (f1 : Arv Z h0 r0 c3 .byte x2 t4 (.int (0 : Int32))) (hc3 : ¬ (x1 = x2)) (hc4 : ¬ (x1 < (0 : Int32))) (hc5 : ¬ ((x1 - (0 : Int32)) < 0)) (hc6 : ((x1 - (0 : Int32))).toNatClampNeg ≤ 32) (hc7 : (x1 - (0 : Int32)) < (x2 - (0 : Int32))) (hc8 : ((x1 - (0 : Int32))).toNatClampNeg ≤ (x2).toNatClampNeg) :
    MetFree l (⟨"java/util/Arrays", "copyOfRange", "([BII)[B"⟩ : MethodName) (head1 (Jvm.Cond.code (⟨"java/util/Arrays", "copyOfRange", "([BII)[B"⟩ : MethodName) jdk_65_method_132_code 3 (some (.array .byte)) :: ws) ({ frames := 2, cells := 1, slots := 32, locals := 40 } : Room)) (fun a U => a = #[(.ref r0), (.int (0 : Int32)), (.int x1)] ∧ Z.Warmed39 U.vm ∧ U.heap = h0) (fun _ _ _ _ _ => True) (fun _ U o U' => ∃ v L, o = .returned v ∧ Q24_1 Z r0 x1 x2 c3 t4 h0 n0 v U'.heap L ∧ FrameEnd U o U' L ({ frames := 2, cells := 1, slots := 32, locals := 40 } : Room).cells ({ frames := 2, cells := 1, slots := 32, locals := 40 } : Room).slots) := by
  refine MetFree.of_bodySF (plainFor_of_name pn_java_util_Arrays) hisR ?_
  intro p e s m args below meth c s₁ Bd hml0 hP hK
  obtain ⟨rfl, hZ, hh⟩ := hP
  have hx := Bd.exec
  have hby := Bd.bytes
  have hml : c.maxLocals = 3 := hml0
  have hown : s.vm.findClass "java/util/Arrays" = some m.cls := findClass_of_methodNamed Bd.named
  have hnm := (name_of_methodNamed Bd.named Bd.method).1
  have X0 : Stand p l e ({ frames := 2, cells := 1, slots := 32, locals := 40 } : Room) s m #[(.ref r0), (.int (0 : Int32)), (.int x1)] below meth c s₁ [] 0 0 := Stand.of_body Bd
  have e0 : s₁.heap = h0 := by rw [← hh, Bd.state]; rfl
  have N0 := Fr.nil n0
  have pre0 : ∀ t, Steps p.tables e below (s₁.setTop (mkF m 0 #[.val (.ref r0), .val (.int (0 : Int32)), .val (.int x1)] [])) t → Steps p.tables e below (s₁.setTop (entryFrame m #[(.ref r0), (.int (0 : Int32)), (.int x1)] 3)) t := fun t k => castTop (by first | (simp [entryFrame, mkF, argsToLocals, Value.category]; done) | rfl) k
  obtain ⟨clq2, Arq2, qq2, Sq2, Nq2, Hq2, Gq2⟩ := id f1
  obtain ⟨_, _, ⟨T9, L9, k9, n9⟩, -, X9, ⟨Lc9, hQ9, l9, y9, z9⟩, st9⟩ := Jvm.LawKit.callS X0 hx (y := (⟨"java/util/Arrays", "copyOfRangeByte", "([BII)[B"⟩ : MethodName)) hown (mvT hZ (ww hw 139 rfl)) (mvT hZ (ww hw 140 rfl)) (mvT hZ (ww hw 137 rfl)) (mvT hZ (ww hw 141 rfl)) (by decide) (backOf (W := 0) (rm25_1 l Z a0 hw [] r0 x1 x2 c3 t4 h0 n0 O0 hc4 hc5 hc6 f1 hc7 hc8) hZ (ww hw 141 rfl) (ww hw 137 rfl) (by decide) (by decide)) (g := (mkF m 13 #[.val (.ref r0), .val (.int (0 : Int32)), .val (.int x1)] [(.int x1), (.int (0 : Int32)), (.ref r0)])) rfl (by rw [hml]; rfl) (argsL := [(.ref r0), (.int (0 : Int32)), (.int x1)]) (rest := []) (lenOf pd___BII__B rfl) rfl (by show 2 * 0 + _ ≤ _; exact Nat.le_of_eq rfl) (hb hby d24_13) (fun _ _ => ⟨rfl, e0, (by decide : 0 + 1 ≤ _), (by decide : 0 + 32 ≤ _)⟩)
  dsimp only [Pt.U, Pt.locs, Pt.cells, Pt.slots] at X9 l9 y9 z9 st9 hQ9
  subst l9 y9 z9
  obtain ⟨b9_0, k9_0, rfl, N9q, K9, f10, f11, f12⟩ := hQ9
  have N9 := Fr.app N0 N9q
  have kp13 : Keep h0 T9.heap [] := (Keep.refl h0 []).trans K9 all0
  obtain ⟨fs, hr, hrun, hended, hW, hsame⟩ := X9.leave (v := some (.ref b9_0)) (fun h => by rw [Bd.returns] at h; cases h)
  refine ⟨_, _, pre0 _ ?_, hrun, hended, _, _, rfl, ?_, ⟨_, rfl⟩, hW, hsame.mono (by decide) (by decide)⟩
  · show Steps p.tables e below (s₁.setTop (mkF m 0 #[.val (.ref r0), .val (.int (0 : Int32)), .val (.int x1)] [])) _
    refine XS.iloadN X0.here hx rfl (hb hby d24_0) rfl ?_
    refine XS.ifNo X0.here hx rfl (hb hby d24_1) rfl ((if0 _ _).trans (teq (rfl : (0 : Int32) = (0 : Int32))).2) ?_
    refine XS.iloadN X0.here hx rfl (hb hby d24_4) rfl ?_
    refine XS.aloadN X0.here hx rfl (hb hby d24_5) rfl rfl ?_
    show Steps p.tables e below (s₁.setTop (mkF m 6 #[.val (.ref r0), .val (.int (0 : Int32)), .val (.int x1)] [(.ref r0), (.int x1)])) _
    refine X0.arraylength hx (by rw [e0]; exact Arq2.1) (State.isArrayOf_alike hZ.alike Arq2.2.1) (g := (mkF m 6 #[.val (.ref r0), .val (.int (0 : Int32)), .val (.int x1)] [(.ref r0), (.int x1)])) rfl rfl (hb hby d24_6) _ ?_
    rw [len_of Sq2 Nq2]
    show Steps p.tables e below (s₁.setTop (mkF m 7 #[.val (.ref r0), .val (.int (0 : Int32)), .val (.int x1)] [(.int x2), (.int x1)])) _
    refine XS.icmpNo X0.here hx rfl (hb hby d24_7) rfl (feq hc3).1 ?_
    refine XS.aloadN X0.here hx rfl (hb hby d24_10) rfl rfl ?_
    refine XS.iloadN X0.here hx rfl (hb hby d24_11) rfl ?_
    refine XS.iloadN X0.here hx rfl (hb hby d24_12) rfl ?_
    show Steps p.tables e below (s₁.setTop (mkF m 13 #[.val (.ref r0), .val (.int (0 : Int32)), .val (.int x1)] [(.int x1), (.int (0 : Int32)), (.ref r0)])) _
    refine st9 _ ?_
    show Steps p.tables e below (T9.setTop (mkF m 16 #[.val (.ref r0), .val (.int (0 : Int32)), .val (.int x1)] [(.ref b9_0)])) _
    exact retOut X9 hx (i := .areturn) Bd.returns rfl (Or.inr (Or.inr (Or.inr (Or.inr ⟨rfl, rfl, rfl⟩)))) (hb hby d24_16) hr
  · show Q24_1 Z r0 x1 x2 c3 t4 h0 n0 _ T9.heap _
    exact ⟨b9_0, k9_0, rfl, N9, kp13, f10, f11, f12⟩
theorem d20_35 : decode jdk_42_method_150_code 35 = .ok (.putfield 9, 3) := by decide +kernel
theorem d20_38 : decode jdk_42_method_150_code 38 = .ok (.goto 59, 3) := by decide +kernel
theorem d20_97 : decode jdk_42_method_150_code 97 = .ok (.return_, 1) := by decide +kernel
def Q20_1 (Z : State) (r0 : Addr) (r1 : Addr) (r2 : Addr) (x3 : Int32) (x4 : Int32) (x5 : Int32) (x6 : Int32) (x7 : Int32) (c8 : ClassId) (t9 : List Value) (h0 : Heap) (n0 : Nat) (v : Option Value) (h : Heap) (L : List Loc) : Prop := ∃ (b29_0 : Addr) (k29_0 : ClassId), v = none ∧ Fr n0 L ∧ Keep h0 h [r0] ∧ Fld Z h r0 "java/lang/String" "coder" "B" (.int (0 : Int32)) ∧ Fld Z h r0 "java/lang/String" "value" "[B" (.ref b29_0) ∧ h0.size ≤ b29_0 ∧ Arv Z h b29_0 k29_0 .byte (x3 - (0 : Int32)) t9 (.int (0 : Int32)) ∧ Exa Z h b29_0 "[B"
set_option maxRecDepth 65536 in
set_option maxHeartbeats 40000000 in
theorem rm20_1 (l : Launch) (Z : State) (a0 : Array Value) (hw : ∀ d ∈ tables_1, d.before a0 Z = true) (ws : List Jvm.Cond) (r0 : Addr) (r1 : Addr) (r2 : Addr) (x3 : Int32) (x4 : Int32) (x5 : Int32) (x6 : Int32) (x7 : Int32) (c8 : ClassId) (t9 : List Value) (h0 : Heap) (n0 : Nat) (O0 : Old Z n0 h0) (f2 : Exa Z h0 r1 "java/lang/StringBuilder") (f3 : Fld Z h0 r1 cs0 "value" "[B" (.ref r2)) (f6 : Fld Z h0 r1 cs0 "count" "I" (.int x3)) (f9 : Sta Z Z.heap "java/lang/String" "COMPACT_STRINGS" "Z" (.int x4)) (hc10 : ¬ (x4 = (0 : Int32))) (f11 : Fld Z h0 r1 cs0 "coder" "B" (.int x5)) (hc12 : x5 = (0 : Int32)) (f15 : Exa Z h0 r0 "java/lang/String") (f16 : Fld Z h0 r0 "java/lang/String" "coder" "B" (.int x6)) (g17 : n0 ≤ r0) (f19 : Arv Z h0 r2 c8 .byte x7 t9 (.int (0 : Int32))) (n20 : r2 ≠ r0) (hc22 : ¬ (x3 = x7)) (hc23 : ¬ (x3 < (0 : Int32))) (hc24 : ¬ ((x3 - (0 : Int32)) < 0)) (hc25 : ((x3 - (0 : Int32))).toNatClampNeg ≤ 32) (hc26 : (x3 - (0 : Int32)) < (x7 - (0 : Int32))) (hc27 : ((x3 - (0 : Int32))).toNatClampNeg ≤ (x7).toNatClampNeg) (f34 : Fld Z h0 r0 "java/lang/String" "value" "[B" .null) (l39 : r0 < h0.size) :
    MetFree l (⟨"java/lang/String", "<init>", cs5⟩ : MethodName) (head1 (Jvm.Cond.code (⟨"java/lang/String", "<init>", cs5⟩ : MethodName) jdk_42_method_150_code 5 none :: ws) ({ frames := 3, cells := 1, slots := 32, locals := 55 } : Room)) (fun a U => a = #[(.ref r0), (.ref r1), .null] ∧ Z.Warmed39 U.vm ∧ U.heap = h0) (fun _ _ _ _ _ => True) (fun _ U o U' => ∃ v L, o = .returned v ∧ Q20_1 Z r0 r1 r2 x3 x4 x5 x6 x7 c8 t9 h0 n0 v U'.heap L ∧ FrameEnd U o U' L ({ frames := 3, cells := 1, slots := 32, locals := 55 } : Room).cells ({ frames := 3, cells := 1, slots := 32, locals := 55 } : Room).slots) := by
  refine MetFree.of_bodySF (plainFor_of_name pn_java_lang_String) hisR ?_
  intro p e s m args below meth c s₁ Bd hml0 hP hK
  obtain ⟨rfl, hZ, hh⟩ := hP
  have hx := Bd.exec
  have hby := Bd.bytes
  have hml : c.maxLocals = 5 := hml0
  have hown : s.vm.findClass "java/lang/String" = some m.cls := findClass_of_methodNamed Bd.named
  have hnm := (name_of_methodNamed Bd.named Bd.method).1
  have X0 : Stand p l e ({ frames := 3, cells := 1, slots := 32, locals := 55 } : Room) s m #[(.ref r0), (.ref r1), .null] below meth c s₁ [] 0 0 := Stand.of_body Bd
  have e0 : s₁.heap = h0 := by rw [← hh, Bd.state]; rfl
  have N0 := Fr.nil n0
  have pre0 : ∀ t, Steps p.tables e below (s₁.setTop (mkF m 0 #[.val (.ref r0), .val (.ref r1), .val .null, .unset, .unset] [])) t → Steps p.tables e below (s₁.setTop (entryFrame m #[(.ref r0), (.ref r1), .null] 5)) t := fun t k => castTop (by first | (simp [entryFrame, mkF, argsToLocals, Value.category]; done) | rfl) k
  obtain ⟨T1, X1, e1, st1⟩ := initO X0 hx hZ hown (ww hw 120 rfl) (ww hw 20 rfl) (ww hw 21 rfl) e0 (g := (mkF m 1 #[.val (.ref r0), .val (.ref r1), .val .null, .unset, .unset] [(.ref r0)])) rfl (by rw [hml]; rfl) rfl (hb hby d20_1) (by decide) (W := 0) (by show 2 * 0 + _ ≤ _; exact Nat.le_of_eq rfl) (by decide)
  obtain ⟨cqq5, kqq5, qq5a, qq5b, qq5c⟩ := isOf hZ e1 f2
  obtain ⟨_, _, ⟨T4, L4, k4, n4⟩, -, X4, ⟨Lc4, hQ4, l4, y4, z4⟩, st4⟩ := X1.virtualBack hx (y := (⟨cs0, "getValue", "()[B"⟩ : MethodName)) (z := (⟨cs0, "getValue", "()[B"⟩ : MethodName)) hown (mvT hZ (ww hw 121 rfl)) (mvT hZ (ww hw 122 rfl)) (notFace_of_selects (args := #[]) (mvT hZ (ww hw 124 rfl))) (mvT hZ (ww hw 124 rfl)) (mvT hZ (ww hw 123 rfl)) (by decide) (backOf (W := 0) (rm21_1 l Z a0 hw [] r1 r2 h0 n0 O0 f3) hZ (ww hw 125 rfl) (ww hw 17 rfl) (by decide) (by decide)) qq5a qq5c (g := (mkF m 5 #[.val (.ref r0), .val (.ref r1), .val .null, .unset, .unset] [(.ref r1)])) rfl (by rw [hml]; rfl) (Steps.refl _) (argsL := []) (rest := []) (lenOf pd____B rfl) rfl (by show 2 * 0 + _ ≤ _; exact Nat.le_of_eq rfl) (hb hby d20_5) (fun _ _ => ⟨rfl, e1, (by decide : 0 + 0 ≤ _), (by decide : 0 + 0 ≤ _)⟩)
  dsimp only [Pt.U, Pt.locs, Pt.cells, Pt.slots] at X4 l4 y4 z4 st4 hQ4
  subst l4 y4 z4
  obtain ⟨rfl, N4q, E4⟩ := hQ4
  have N4 := Fr.app N0 N4q
  obtain ⟨cqq8, kqq8, qq8a, qq8b, qq8c⟩ := isOf hZ E4 f2
  obtain ⟨_, _, ⟨T7, L7, k7, n7⟩, -, X7, ⟨Lc7, hQ7, l7, y7, z7⟩, st7⟩ := X4.virtualBack hx (y := (⟨cs0, "length", "()I"⟩ : MethodName)) (z := (⟨"java/lang/StringBuilder", "length", "()I"⟩ : MethodName)) hown (mvT hZ (ww hw 126 rfl)) (mvT hZ (ww hw 127 rfl)) (own_nfSel (args := #[]) (mvT hZ (ww hw 63 rfl)) rfl) (mvT hZ (ww hw 129 rfl)) (mvT hZ (ww hw 130 rfl)) (by decide) (backOf (W := 0) (rm22_1 l Z a0 hw [] r1 x3 h0 n0 O0 f6 f2) hZ (ww hw 131 rfl) (ww hw 9 rfl) (by decide) (by decide)) qq8a qq8c (g := (mkF m 10 #[.val (.ref r0), .val (.ref r1), .val .null, .val (.ref r2), .unset] [(.ref r1)])) rfl (by rw [hml]; rfl) (Steps.refl _) (argsL := []) (rest := []) (lenOf pd___I rfl) rfl (by show 2 * 0 + _ ≤ _; exact Nat.le_of_eq rfl) (hb hby d20_10) (fun _ _ => ⟨rfl, E4, (by decide : 0 + 0 ≤ _), (by decide : 0 + 0 ≤ _)⟩)
  dsimp only [Pt.U, Pt.locs, Pt.cells, Pt.slots] at X7 l7 y7 z7 st7 hQ7
  subst l7 y7 z7
  obtain ⟨rfl, N7q, E7⟩ := hQ7
  have N7 := Fr.app N4 N7q
  obtain ⟨cqq14, kqq14, qq14a, qq14b, qq14c⟩ := isOf hZ E7 f2
  obtain ⟨_, _, ⟨T13, L13, k13, n13⟩, -, X13, ⟨Lc13, hQ13, l13, y13, z13⟩, st13⟩ := X7.virtualBack hx (y := (⟨cs0, "isLatin1", "()Z"⟩ : MethodName)) (z := (⟨cs0, "isLatin1", "()Z"⟩ : MethodName)) hown (mvT hZ (ww hw 134 rfl)) (mvT hZ (ww hw 99 rfl)) (notFace_of_selects (args := #[]) (mvT hZ (ww hw 101 rfl))) (mvT hZ (ww hw 101 rfl)) (mvT hZ (ww hw 100 rfl)) (by decide) (backOf (W := 0) (rm16_1 l Z a0 hw [] r1 x4 x5 h0 n0 O0 f9 hc10 f11 hc12) hZ (ww hw 102 rfl) (ww hw 17 rfl) (by decide) (by decide)) qq14a qq14c (g := (mkF m 16 #[.val (.ref r0), .val (.ref r1), .val .null, .val (.ref r2), .val (.int x3)] [(.ref r1)])) rfl (by rw [hml]; rfl) (Steps.refl _) (argsL := []) (rest := []) (lenOf pd___Z rfl) rfl (by show 2 * 0 + _ ≤ _; exact Nat.le_of_eq rfl) (hb hby d20_16) (fun _ _ => ⟨rfl, E7, (by decide : 0 + 0 ≤ _), (by decide : 0 + 0 ≤ _)⟩)
  dsimp only [Pt.U, Pt.locs, Pt.cells, Pt.slots] at X13 l13 y13 z13 st13 hQ13
  subst l13 y13 z13
  obtain ⟨rfl, N13q, E13⟩ := hQ13
  have N13 := Fr.app N7 N13q
  obtain ⟨T18, h18, X18, e18, W18, st18⟩ := putFN X13 hx hZ hown (ww hw 57 rfl) Via.refl E13 f16 f15 (Or.inr ⟨(ww hw 32 rfl), rfl, hnm⟩) (ww hw 30 rfl) (ty := .byte) (v' := (.int (0 : Int32))) (by decide) rfl (by decide) (g := (mkF m 24 #[.val (.ref r0), .val (.ref r1), .val .null, .val (.ref r2), .val (.int x3)] [(.int (0 : Int32)), (.ref r0)])) rfl rfl (hb hby d20_24)
  have Fw18 := f16.same W18
  have N18 := Fr.snoc X18 N13 g17
  have f21 := (f19.other W18 n20)
  have o28 := Old.wr O0 W18 g17
  obtain ⟨_, _, ⟨T29, L29, k29, n29⟩, -, X29, ⟨Lc29, hQ29, l29, y29, z29⟩, st29⟩ := Jvm.LawKit.callS X18 hx (y := (⟨"java/util/Arrays", "copyOfRange", "([BII)[B"⟩ : MethodName)) hown (mvT hZ (ww hw 135 rfl)) (mvT hZ (ww hw 136 rfl)) (mvT hZ (ww hw 137 rfl)) (mvT hZ (ww hw 138 rfl)) (by decide) (backOf (W := 1) (rm24_1 l Z a0 hw [] r2 x3 x7 c8 t9 h18 n0 o28 f21 hc22 hc23 hc24 hc25 hc26 hc27) hZ (ww hw 138 rfl) (ww hw 137 rfl) (by decide) (by decide)) (g := (mkF m 32 #[.val (.ref r0), .val (.ref r1), .val .null, .val (.ref r2), .val (.int x3)] [(.int x3), (.int (0 : Int32)), (.ref r2), (.ref r0)])) rfl (by rw [hml]; rfl) (argsL := [(.ref r2), (.int (0 : Int32)), (.int x3)]) (rest := [(.ref r0)]) (lenOf pd___BII__B rfl) rfl (by show 2 * 0 + _ ≤ _; exact Nat.le_of_eq rfl) (hb hby d20_32) (fun _ _ => ⟨rfl, e18, (by decide : 0 + 1 ≤ _), (by decide : 0 + 32 ≤ _)⟩)
  dsimp only [Pt.U, Pt.locs, Pt.cells, Pt.slots] at X29 l29 y29 z29 st29 hQ29
  subst l29 y29 z29
  obtain ⟨b29_0, k29_0, rfl, N29q, K29, f30, f31, f32⟩ := hQ29
  have N29 := Fr.app N18 N29q
  have f33 := ((f15.wr W18).keep K29)
  have f35 := ((f34.other W18 (Or.inr (slot_ne (Or.inr (ww hw 31 rfl)) (Or.inr (ww hw 32 rfl)) (by decide) (t := (.array .byte)) (t' := .byte) (by decide) (by decide)))).keep K29 nin0)
  obtain ⟨T36, h36, X36, e36, W36, st36⟩ := putF X29 hx hZ hown (host := "") (Or.inl (ww hw 50 rfl)) Via.refl rfl f35 f33 (Or.inr ⟨(ww hw 31 rfl), rfl, hnm⟩) (ww hw 30 rfl) (ty := (.array .byte)) (by decide) rfl rfl (g := (mkF m 35 #[.val (.ref r0), .val (.ref r1), .val .null, .val (.ref r2), .val (.int x3)] [(.ref b29_0), (.ref r0)])) rfl rfl (hb hby d20_35)
  have Fw36 := f35.same W36
  have N36 := Fr.snoc X36 N29 g17
  have f37 := ((Fw18.keep K29 nin0).other W36 (Or.inr (slot_ne (Or.inr (ww hw 32 rfl)) (Or.inr (ww hw 31 rfl)) (by decide) (t := .byte) (t' := (.array .byte)) (by decide) (by decide))))
  have zs38 := (Nat.le_of_eq W18.size.symm)
  have n40 := Nat.ne_of_lt (Nat.lt_of_lt_of_le (Nat.lt_of_lt_of_le l39 zs38) f30)
  have f41 := (f31.other W36 (Ne.symm n40))
  have f42 := (f32.wr W36)
  have kp43 : Keep h0 h18 [r0] := (Keep.refl h0 [r0]).wr W18 (Or.inl (List.mem_of_getElem? (i := 0) rfl))
  have kp44 : Keep h0 T29.heap [r0] := kp43.trans K29 all0
  have kp45 : Keep h0 h36 [r0] := kp44.wr W36 (Or.inl (List.mem_of_getElem? (i := 0) rfl))
  obtain ⟨fs, hr, hrun, hended, hW, hsame⟩ := X36.leave (v := none) (fun _ => rfl)
  refine ⟨_, _, pre0 _ ?_, hrun, hended, _, _, rfl, ?_, ⟨_, rfl⟩, hW, hsame.mono (by decide) (by decide)⟩
  · show Steps p.tables e below (s₁.setTop (mkF m 0 #[.val (.ref r0), .val (.ref r1), .val .null, .unset, .unset] [])) _
    refine XS.aloadN X0.here hx rfl (hb hby d20_0) rfl rfl ?_
    refine st1 _ ?_
    show Steps p.tables e below (T1.setTop (mkF m 4 #[.val (.ref r0), .val (.ref r1), .val .null, .unset, .unset] [])) _
    refine XS.aloadN X1.here hx rfl (hb hby d20_4) rfl rfl ?_
    refine st4.trans ?_
    show Steps p.tables e below (T4.setTop (mkF m 8 #[.val (.ref r0), .val (.ref r1), .val .null, .unset, .unset] [(.ref r2)])) _
    refine XS.astoreN X4.here hx rfl (hb hby d20_8) rfl rfl (l' := #[.val (.ref r0), .val (.ref r1), .val .null, .val (.ref r2), .unset]) rfl ?_
    refine XS.aloadN X4.here hx rfl (hb hby d20_9) rfl rfl ?_
    refine st7.trans ?_
    show Steps p.tables e below (T7.setTop (mkF m 13 #[.val (.ref r0), .val (.ref r1), .val .null, .val (.ref r2), .unset] [(.int x3)])) _
    refine XS.istore X7.here hx rfl (hb hby d20_13) rfl (l' := #[.val (.ref r0), .val (.ref r1), .val .null, .val (.ref r2), .val (.int x3)]) rfl ?_
    refine XS.aloadN X7.here hx rfl (hb hby d20_15) rfl rfl ?_
    refine st13.trans ?_
    show Steps p.tables e below (T13.setTop (mkF m 19 #[.val (.ref r0), .val (.ref r1), .val .null, .val (.ref r2), .val (.int x3)] [(.int (1 : Int32))])) _
    refine XS.ifNo X13.here hx rfl (hb hby d20_19) rfl ((if0 _ _).trans (feq (by decide : ¬ ((1 : Int32) = (0 : Int32)))).1) ?_
    refine XS.aloadN X13.here hx rfl (hb hby d20_22) rfl rfl ?_
    refine XS.iconst X13.here hx rfl (hb hby d20_23) ?_
    refine st18 _ ?_
    show Steps p.tables e below (T18.setTop (mkF m 27 #[.val (.ref r0), .val (.ref r1), .val .null, .val (.ref r2), .val (.int x3)] [])) _
    refine XS.aloadN X18.here hx rfl (hb hby d20_27) rfl rfl ?_
    refine XS.aloadN X18.here hx rfl (hb hby d20_28) rfl rfl ?_
    refine XS.iconst X18.here hx rfl (hb hby d20_29) ?_
    refine XS.iload X18.here hx rfl (hb hby d20_30) rfl ?_
    show Steps p.tables e below (T18.setTop (mkF m 32 #[.val (.ref r0), .val (.ref r1), .val .null, .val (.ref r2), .val (.int x3)] [(.int x3), (.int (0 : Int32)), (.ref r2), (.ref r0)])) _
    refine st29 _ ?_
    show Steps p.tables e below (T29.setTop (mkF m 35 #[.val (.ref r0), .val (.ref r1), .val .null, .val (.ref r2), .val (.int x3)] [(.ref b29_0), (.ref r0)])) _
    refine st36 _ ?_
    show Steps p.tables e below (T36.setTop (mkF m 38 #[.val (.ref r0), .val (.ref r1), .val .null, .val (.ref r2), .val (.int x3)] [])) _
    refine XS.goto X36.here hx rfl (pc0 := 38) (pc' := 97) rfl (hb hby d20_38) (by decide) (by decide) ?_
    show Steps p.tables e below (T36.setTop (mkF m 97 #[.val (.ref r0), .val (.ref r1), .val .null, .val (.ref r2), .val (.int x3)] [])) _
    exact X36.returnOut hx Bd.returns (hb hby d20_97) hr
  · show Q20_1 Z r0 r1 r2 x3 x4 x5 x6 x7 c8 t9 h0 n0 _ T36.heap _
    rw [e36]
    exact ⟨b29_0, k29_0, rfl, N36, kp45, f37, Fw36, (Nat.le_trans zs38 f30), f41, f42⟩
theorem pd__Ljava_lang_AbstractStringBuilder_Ljava_lang_Void__V : parseMethodDescriptor cs5 = some ⟨[(.object cs0), (.object "java/lang/Void")], none⟩ := by decide +kernel
theorem d19_6 : decode jdk_42_method_53_code 6 = .ok (.return_, 1) := by decide +kernel
def Q19_1 (Z : State) (r0 : Addr) (r1 : Addr) (r2 : Addr) (x3 : Int32) (x4 : Int32) (x5 : Int32) (x6 : Int32) (x7 : Int32) (c8 : ClassId) (t9 : List Value) (h0 : Heap) (n0 : Nat) (v : Option Value) (h : Heap) (L : List Loc) : Prop := ∃ (b21_0 : Addr) (k21_0 : ClassId), v = none ∧ Fr n0 L ∧ Keep h0 h [r0] ∧ Fld Z h r0 "java/lang/String" "coder" "B" (.int (0 : Int32)) ∧ Fld Z h r0 "java/lang/String" "value" "[B" (.ref b21_0) ∧ h0.size ≤ b21_0 ∧ Arv Z h b21_0 k21_0 .byte (x3 - (0 : Int32)) t9 (.int (0 : Int32)) ∧ Exa Z h b21_0 "[B"
set_option maxRecDepth 65536 in
set_option maxHeartbeats 40000000 in
theorem rm19_1 (l : Launch) (Z : State) (a0 : Array Value) (hw : ∀ d ∈ tables_1, d.before a0 Z = true) (ws : List Jvm.Cond) (r0 : Addr) (r1 : Addr) (r2 : Addr) (x3 : Int32) (x4 : Int32) (x5 : Int32) (x6 : Int32) (x7 : Int32) (c8 : ClassId) (t9 : List Value) (h0 : Heap) (n0 : Nat) (O0 : Old Z n0 h0) (f1 : Exa Z h0 r1 "java/lang/StringBuilder") (f2 : Fld Z h0 r1 cs0 "value" "[B" (.ref r2)) (f3 : Fld Z h0 r1 cs0 "count" "I" (.int x3)) (f4 : Sta Z Z.heap "java/lang/String" "COMPACT_STRINGS" "Z" (.int x4)) (hc5 : ¬ (x4 = (0 : Int32))) (f6 : Fld Z h0 r1 cs0 "coder" "B" (.int x5)) (hc7 : x5 = (0 : Int32)) (f8 : Exa Z h0 r0 "java/lang/String") (f9 : Fld Z h0 r0 "java/lang/String" "coder" "B" (.int x6)) (g10 : n0 ≤ r0) (f11 : Arv Z h0 r2 c8 .byte x7 t9 (.int (0 : Int32))) (n12 : r2 ≠ r0) (hc13 : ¬ (x3 = x7)) (hc14 : ¬ (x3 < (0 : Int32))) (hc15 : ¬ ((x3 - (0 : Int32)) < 0)) (hc16 : ((x3 - (0 : Int32))).toNatClampNeg ≤ 32) (hc17 : (x3 - (0 : Int32)) < (x7 - (0 : Int32))) (hc18 : ((x3 - (0 : Int32))).toNatClampNeg ≤ (x7).toNatClampNeg) (f19 : Fld Z h0 r0 "java/lang/String" "value" "[B" .null) (l20 : r0 < h0.size) :
    MetFree l (⟨"java/lang/String", "<init>", cs6⟩ : MethodName) (head1 (Jvm.Cond.code (⟨"java/lang/String", "<init>", cs6⟩ : MethodName) jdk_42_method_53_code 2 none :: ws) ({ frames := 4, cells := 1, slots := 32, locals := 71 } : Room)) (fun a U => a = #[(.ref r0), (.ref r1)] ∧ Z.Warmed39 U.vm ∧ U.heap = h0) (fun _ _ _ _ _ => True) (fun _ U o U' => ∃ v L, o = .returned v ∧ Q19_1 Z r0 r1 r2 x3 x4 x5 x6 x7 c8 t9 h0 n0 v U'.heap L ∧ FrameEnd U o U' L ({ frames := 4, cells := 1, slots := 32, locals := 71 } : Room).cells ({ frames := 4, cells := 1, slots := 32, locals := 71 } : Room).slots) := by
  refine MetFree.of_bodySF (plainFor_of_name pn_java_lang_String) hisR ?_
  intro p e s m args below meth c s₁ Bd hml0 hP hK
  obtain ⟨rfl, hZ, hh⟩ := hP
  have hx := Bd.exec
  have hby := Bd.bytes
  have hml : c.maxLocals = 2 := hml0
  have hown : s.vm.findClass "java/lang/String" = some m.cls := findClass_of_methodNamed Bd.named
  have hnm := (name_of_methodNamed Bd.named Bd.method).1
  have X0 : Stand p l e ({ frames := 4, cells := 1, slots := 32, locals := 71 } : Room) s m #[(.ref r0), (.ref r1)] below meth c s₁ [] 0 0 := Stand.of_body Bd
  have e0 : s₁.heap = h0 := by rw [← hh, Bd.state]; rfl
  have N0 := Fr.nil n0
  have pre0 : ∀ t, Steps p.tables e below (s₁.setTop (mkF m 0 #[.val (.ref r0), .val (.ref r1)] [])) t → Steps p.tables e below (s₁.setTop (entryFrame m #[(.ref r0), (.ref r1)] 2)) t := fun t k => castTop (by first | (simp [entryFrame, mkF, argsToLocals, Value.category]; done) | rfl) k
  obtain ⟨_, _, ⟨T21, L21, k21, n21⟩, -, X21, ⟨Lc21, hQ21, l21, y21, z21⟩, st21⟩ := X0.specialBack hx (y := (⟨"java/lang/String", "<init>", cs5⟩ : MethodName)) rfl hown (mvT hZ (ww hw 117 rfl)) (mvT hZ (ww hw 118 rfl)) (mvT hZ (ww hw 119 rfl)) (by decide) (backOf (W := 0) (rm20_1 l Z a0 hw [] r0 r1 r2 x3 x4 x5 x6 x7 c8 t9 h0 n0 O0 f1 f2 f3 f4 hc5 f6 hc7 f8 f9 g10 f11 n12 hc13 hc14 hc15 hc16 hc17 hc18 f19 l20) hZ (ww hw 119 rfl) (ww hw 23 rfl) (by decide) (by decide)) (g := (mkF m 3 #[.val (.ref r0), .val (.ref r1)] [.null, (.ref r1), (.ref r0)])) rfl (by rw [hml]; rfl) (Steps.refl _) (a := r0) (argsL := [(.ref r1), .null]) (rest := []) (lenOf pd__Ljava_lang_AbstractStringBuilder_Ljava_lang_Void__V rfl) rfl (by show 2 * 0 + _ ≤ _; exact Nat.le_of_eq rfl) (hb hby d19_3) (fun _ _ => ⟨rfl, e0, (by decide : 0 + 1 ≤ _), (by decide : 0 + 32 ≤ _)⟩)
  dsimp only [Pt.U, Pt.locs, Pt.cells, Pt.slots] at X21 l21 y21 z21 st21 hQ21
  subst l21 y21 z21
  obtain ⟨b21_0, k21_0, rfl, N21q, K21, f22, f23, f24, f25, f26⟩ := hQ21
  have N21 := Fr.app N0 N21q
  have kp27 : Keep h0 T21.heap [r0] := (Keep.refl h0 [r0]).trans K21 (allS (Or.inl (List.mem_of_getElem? (i := 0) rfl)) all0)
  obtain ⟨fs, hr, hrun, hended, hW, hsame⟩ := X21.leave (v := none) (fun _ => rfl)
  refine ⟨_, _, pre0 _ ?_, hrun, hended, _, _, rfl, ?_, ⟨_, rfl⟩, hW, hsame.mono (by decide) (by decide)⟩
  · show Steps p.tables e below (s₁.setTop (mkF m 0 #[.val (.ref r0), .val (.ref r1)] [])) _
    refine XS.aloadN X0.here hx rfl (hb hby d19_0) rfl rfl ?_
    refine XS.aloadN X0.here hx rfl (hb hby d19_1) rfl rfl ?_
    refine XS.aconstNull X0.here hx rfl (hb hby d19_2) ?_
    refine st21.trans ?_
    show Steps p.tables e below (T21.setTop (mkF m 6 #[.val (.ref r0), .val (.ref r1)] [])) _
    exact X21.returnOut hx Bd.returns (hb hby d19_6) hr
  · show Q19_1 Z r0 r1 r2 x3 x4 x5 x6 x7 c8 t9 h0 n0 _ T21.heap _
    exact ⟨b21_0, k21_0, rfl, N21, kp27, f22, f23, f24, f25, f26⟩
theorem pd__Ljava_lang_StringBuilder__V : parseMethodDescriptor cs6 = some ⟨[(.object "java/lang/StringBuilder")], none⟩ := by decide +kernel
theorem d18_8 : decode jdk_67_method_42_code 8 = .ok (.areturn, 1) := by decide +kernel
def Q18_1 (Z : State) (r0 : Addr) (r1 : Addr) (x2 : Int32) (x3 : Int32) (x4 : Int32) (x5 : Int32) (c6 : ClassId) (t7 : List Value) (h0 : Heap) (n0 : Nat) (v : Option Value) (h : Heap) (L : List Loc) : Prop := ∃ (b1 : Addr) (b28_0 : Addr) (k28_0 : ClassId), v = some (.ref b1) ∧ Fr n0 L ∧ Keep h0 h [] ∧ h0.size ≤ b1 ∧ Exa Z h b1 "java/lang/String" ∧ Fld Z h b1 "java/lang/String" "coder" "B" (.int (0 : Int32)) ∧ Fld Z h b1 "java/lang/String" "value" "[B" (.ref b28_0) ∧ h0.size ≤ b28_0 ∧ Arv Z h b28_0 k28_0 .byte (x2 - (0 : Int32)) t7 (.int (0 : Int32)) ∧ Exa Z h b28_0 "[B" ∧ b1 ≠ b28_0
set_option maxRecDepth 65536 in
set_option maxHeartbeats 40000000 in
theorem rm18_1 (l : Launch) (Z : State) (a0 : Array Value) (hw : ∀ d ∈ tables_1, d.before a0 Z = true) (ws : List Jvm.Cond) (r0 : Addr) (r1 : Addr) (x2 : Int32) (x3 : Int32) (x4 : Int32) (x5 : Int32) (c6 : ClassId) (t7 : List Value) (h0 : Heap) (n0 : Nat) (O0 : Old Z n0 h0) (f4 : Exa Z h0 r0 "java/lang/StringBuilder") (f6 : Fld Z h0 r0 cs0 "value" "[B" (.ref r1)) (f8 : Fld Z h0 r0 cs0 "count" "I" (.int x2)) (f10 : Sta Z Z.heap "java/lang/String" "COMPACT_STRINGS" "Z" (.int x3)) (hc11 : ¬ (x3 = (0 : Int32))) (f12 : Fld Z h0 r0 cs0 "coder" "B" (.int x4)) (hc14 : x4 = (0 : Int32)) (f17 : Arv Z h0 r1 c6 .byte x5 t7 (.int (0 : Int32))) (l19 : r1 < h0.size) (hc21 : ¬ (x2 = x5)) (hc22 : ¬ (x2 < (0 : Int32))) (hc23 : ¬ ((x2 - (0 : Int32)) < 0)) (hc24 : ((x2 - (0 : Int32))).toNatClampNeg ≤ 32) (hc25 : (x2 - (0 : Int32)) < (x5 - (0 : Int32))) (hc26 : ((x2 - (0 : Int32))).toNatClampNeg ≤ (x5).toNatClampNeg) :
    MetFree l (⟨"java/lang/StringBuilder", "toString", "()Ljava/lang/String;"⟩ : MethodName) (head1 (Jvm.Cond.code (⟨"java/lang/StringBuilder", "toString", "()Ljava/lang/String;"⟩ : MethodName) jdk_67_method_42_code 1 (some (.object "java/lang/String")) :: ws) ({ frames := 5, cells := 2, slots := 36, locals := 85 } : Room)) (fun a U => a = #[(.ref r0)] ∧ Z.Warmed39 U.vm ∧ U.heap = h0) (fun _ _ _ _ _ => True) (fun _ U o U' => ∃ v L, o = .returned v ∧ Q18_1 Z r0 r1 x2 x3 x4 x5 c6 t7 h0 n0 v U'.heap L ∧ FrameEnd U o U' L ({ frames := 5, cells := 2, slots := 36, locals := 85 } : Room).cells ({ frames := 5, cells := 2, slots := 36, locals := 85 } : Room).slots) := by
  refine MetFree.of_bodySF (plainFor_of_name pn_java_lang_StringBuilder) hisR ?_
  intro p e s m args below meth c s₁ Bd hml0 hP hK
  obtain ⟨rfl, hZ, hh⟩ := hP
  have hx := Bd.exec
  have hby := Bd.bytes
  have hml : c.maxLocals = 1 := hml0
  have hown : s.vm.findClass "java/lang/StringBuilder" = some m.cls := findClass_of_methodNamed Bd.named
  have hnm := (name_of_methodNamed Bd.named Bd.method).1
  have X0 : Stand p l e ({ frames := 5, cells := 2, slots := 36, locals := 85 } : Room) s m #[(.ref r0)] below meth c s₁ [] 0 0 := Stand.of_body Bd
  have e0 : s₁.heap = h0 := by rw [← hh, Bd.state]; rfl
  have N0 := Fr.nil n0
  have pre0 : ∀ t, Steps p.tables e below (s₁.setTop (mkF m 0 #[.val (.ref r0)] [])) t → Steps p.tables e below (s₁.setTop (entryFrame m #[(.ref r0)] 1)) t := fun t k => castTop (by first | (simp [entryFrame, mkF, argsToLocals, Value.category]; done) | rfl) k
  obtain ⟨T1, h1, X1, e1, E1, A1, D1, -, st1⟩ := newO X0 hx hZ hown (ww hw 112 rfl) (ww hw 30 rfl) (ww hw 23 rfl) e0 (g := (mkF m 0 #[.val (.ref r0)] [])) rfl (hb hby d18_0) (by decide) (by decide)
  obtain ⟨b1, g1⟩ : ∃ z, z = h0.size := ⟨_, rfl⟩
  rw [← g1] at A1 D1 st1
  have f2 : Fld Z h1 b1 "java/lang/String" "value" "[B" .null := D1 (Or.inr (ww hw 31 rfl)) (ty := (.array .byte)) (by decide)
  have f3 : Fld Z h1 b1 "java/lang/String" "coder" "B" (.int (0 : Int32)) := D1 (Or.inr (ww hw 32 rfl)) (ty := .byte) (by decide)
  have f5 := (f4.ext E1)
  have f7 := (f6.ext E1)
  have f9 := (f8.ext E1)
  have f13 := (f12.ext E1)
  have zz15 : n0 ≤ h0.size := by rw [← O0.1]; exact O0.2.1
  have g16 := Nat.le_trans zz15 (Nat.le_of_eq g1.symm)
  have f18 := (f17.ext E1)
  have n20 := Nat.ne_of_lt (Nat.lt_of_lt_of_le l19 (Nat.le_of_eq g1.symm))
  have o27 := Old.ext O0 E1
  obtain ⟨_, _, ⟨T28, L28, k28, n28⟩, -, X28, ⟨Lc28, hQ28, l28, y28, z28⟩, st28⟩ := X1.specialBack hx (y := (⟨"java/lang/String", "<init>", cs6⟩ : MethodName)) rfl hown (mvT hZ (ww hw 113 rfl)) (mvT hZ (ww hw 114 rfl)) (mvT hZ (ww hw 116 rfl)) (by decide) (backOf (W := 1) (rm19_1 l Z a0 hw [] b1 r0 r1 x2 x3 x4 (0 : Int32) x5 c6 t7 h1 n0 o27 f5 f7 f9 f10 hc11 f13 hc14 A1 f3 g16 f18 n20 hc21 hc22 hc23 hc24 hc25 hc26 f2 A1.lt) hZ (ww hw 116 rfl) (ww hw 23 rfl) (by decide) (by decide)) (g := (mkF m 5 #[.val (.ref r0)] [(.ref r0), (.ref b1), (.ref b1)])) rfl (by rw [hml]; rfl) (Steps.refl _) (a := b1) (argsL := [(.ref r0)]) (rest := [(.ref b1)]) (lenOf pd__Ljava_lang_StringBuilder__V rfl) rfl (by show 2 * 0 + _ ≤ _; exact Nat.le_of_eq rfl) (hb hby d18_5) (fun _ _ => ⟨rfl, e1, (by decide : 1 + 1 ≤ _), (by decide : 4 + 32 ≤ _)⟩)
  dsimp only [Pt.U, Pt.locs, Pt.cells, Pt.slots] at X28 l28 y28 z28 st28 hQ28
  subst l28 y28 z28
  obtain ⟨b28_0, k28_0, rfl, N28q, K28, f29, f30, f31, f32, f33⟩ := hQ28
  have N28 := Fr.app N0 N28q
  have f34 := (A1.keep K28)
  have zs35 := E1.1
  have n36 := Nat.ne_of_lt (Nat.lt_of_lt_of_le A1.lt f31)
  have kp37 : Keep h0 h1 [] := (Keep.refl h0 []).ext E1
  have kp38 : Keep h0 T28.heap [] := kp37.trans K28 (allS (Or.inr (Nat.le_of_eq g1.symm)) all0)
  obtain ⟨fs, hr, hrun, hended, hW, hsame⟩ := X28.leave (v := some (.ref b1)) (fun h => by rw [Bd.returns] at h; cases h)
  refine ⟨_, _, pre0 _ ?_, hrun, hended, _, _, rfl, ?_, ⟨_, rfl⟩, hW, hsame.mono (by decide) (by decide)⟩
  · show Steps p.tables e below (s₁.setTop (mkF m 0 #[.val (.ref r0)] [])) _
    refine st1 _ ?_
    show Steps p.tables e below (T1.setTop (mkF m 3 #[.val (.ref r0)] [(.ref b1)])) _
    refine XS.dup X1.here hx rfl (hb hby d18_3) rfl rfl ?_
    refine XS.aloadN X1.here hx rfl (hb hby d18_4) rfl rfl ?_
    refine st28.trans ?_
    show Steps p.tables e below (T28.setTop (mkF m 8 #[.val (.ref r0)] [(.ref b1)])) _
    exact retOut X28 hx (i := .areturn) Bd.returns rfl (Or.inr (Or.inr (Or.inr (Or.inr ⟨rfl, rfl, rfl⟩)))) (hb hby d18_8) hr
  · show Q18_1 Z r0 r1 x2 x3 x4 x5 c6 t7 h0 n0 _ T28.heap _
    exact ⟨b1, b28_0, k28_0, rfl, N28, kp38, (Nat.le_of_eq g1.symm), f34, f29, f30, (Nat.le_trans zs35 f31), f32, f33, n36⟩
theorem pd___Ljava_lang_String_ : parseMethodDescriptor "()Ljava/lang/String;" = some ⟨[], some (.object "java/lang/String")⟩ := by decide +kernel
theorem d1_23 : decode prog_22_method_3_code 23 = .ok (.invokespecial 26, 3) := by decide +kernel
theorem d28_0 : decode prog_22_method_1_code 0 = .ok (.aload_n 0, 1) := by decide +kernel
theorem d28_1 : decode prog_22_method_1_code 1 = .ok (.invokespecial 1, 3) := by decide +kernel
theorem d29_0 : decode jdk_30_method_1_code 0 = .ok (.aload_n 0, 1) := by decide +kernel
theorem d29_1 : decode jdk_30_method_1_code 1 = .ok (.invokespecial 1, 3) := by decide +kernel
theorem d29_4 : decode jdk_30_method_1_code 4 = .ok (.return_, 1) := by decide +kernel
theorem pn_java_lang_Record : plainName "java/lang/Record" = true := by first | (simp [plainName, overriddenIn]; done) | decide +kernel
def Q29_1 (Z : State) (r0 : Addr) (h0 : Heap) (n0 : Nat) (v : Option Value) (h : Heap) (L : List Loc) : Prop := v = none ∧ Fr n0 L ∧ h = h0
set_option maxRecDepth 65536 in
set_option maxHeartbeats 40000000 in
theorem rm29_1 (l : Launch) (Z : State) (a0 : Array Value) (hw : ∀ d ∈ tables_1, d.before a0 Z = true) (ws : List Jvm.Cond) (r0 : Addr) (h0 : Heap) (n0 : Nat) (O0 : Old Z n0 h0) :
    MetFree l (⟨"java/lang/Record", "<init>", "()V"⟩ : MethodName) (head1 (Jvm.Cond.code (⟨"java/lang/Record", "<init>", "()V"⟩ : MethodName) jdk_30_method_1_code 1 none :: ws) ({ frames := 1, cells := 0, slots := 0, locals := 12 } : Room)) (fun a U => a = #[(.ref r0)] ∧ Z.Warmed39 U.vm ∧ U.heap = h0) (fun _ _ _ _ _ => True) (fun _ U o U' => ∃ v L, o = .returned v ∧ Q29_1 Z r0 h0 n0 v U'.heap L ∧ FrameEnd U o U' L ({ frames := 1, cells := 0, slots := 0, locals := 12 } : Room).cells ({ frames := 1, cells := 0, slots := 0, locals := 12 } : Room).slots) := by
  refine MetFree.of_bodySF (plainFor_of_name pn_java_lang_Record) hisR ?_
  intro p e s m args below meth c s₁ Bd hml0 hP hK
  obtain ⟨rfl, hZ, hh⟩ := hP
  have hx := Bd.exec
  have hby := Bd.bytes
  have hml : c.maxLocals = 1 := hml0
  have hown : s.vm.findClass "java/lang/Record" = some m.cls := findClass_of_methodNamed Bd.named
  have hnm := (name_of_methodNamed Bd.named Bd.method).1
  have X0 : Stand p l e ({ frames := 1, cells := 0, slots := 0, locals := 12 } : Room) s m #[(.ref r0)] below meth c s₁ [] 0 0 := Stand.of_body Bd
  have e0 : s₁.heap = h0 := by rw [← hh, Bd.state]; rfl
  have N0 := Fr.nil n0
  have pre0 : ∀ t, Steps p.tables e below (s₁.setTop (mkF m 0 #[.val (.ref r0)] [])) t → Steps p.tables e below (s₁.setTop (entryFrame m #[(.ref r0)] 1)) t := fun t k => castTop (by first | (simp [entryFrame, mkF, argsToLocals, Value.category]; done) | rfl) k
  obtain ⟨T1, X1, e1, st1⟩ := initO X0 hx hZ hown (ww hw 158 rfl) (ww hw 20 rfl) (ww hw 21 rfl) e0 (g := (mkF m 1 #[.val (.ref r0)] [(.ref r0)])) rfl (by rw [hml]; rfl) rfl (hb hby d29_1) (by decide) (W := 0) (by show 2 * 0 + _ ≤ _; exact Nat.le_of_eq rfl) (by decide)
  obtain ⟨fs, hr, hrun, hended, hW, hsame⟩ := X1.leave (v := none) (fun _ => rfl)
  refine ⟨_, _, pre0 _ ?_, hrun, hended, _, _, rfl, ?_, ⟨_, rfl⟩, hW, hsame.mono (by decide) (by decide)⟩
  · show Steps p.tables e below (s₁.setTop (mkF m 0 #[.val (.ref r0)] [])) _
    refine XS.aloadN X0.here hx rfl (hb hby d29_0) rfl rfl ?_
    refine st1 _ ?_
    show Steps p.tables e below (T1.setTop (mkF m 4 #[.val (.ref r0)] [])) _
    exact X1.returnOut hx Bd.returns (hb hby d29_4) hr
  · show Q29_1 Z r0 h0 n0 _ T1.heap _
    rw [e1]
    exact ⟨rfl, N0, rfl⟩
theorem d28_4 : decode prog_22_method_1_code 4 = .ok (.aload_n 0, 1) := by decide +kernel
theorem d28_5 : decode prog_22_method_1_code 5 = .ok (.aload_n 1, 1) := by decide +kernel
theorem d28_6 : decode prog_22_method_1_code 6 = .ok (.putfield 7, 3) := by decide +kernel
theorem d28_9 : decode prog_22_method_1_code 9 = .ok (.return_, 1) := by decide +kernel
theorem pn_com_example_manojo_manojo_QueryTree_Parameter : plainName cs7 = true := by first | (simp [plainName, overriddenIn]; done) | decide +kernel
def Q28_1 (Z : State) (r0 : Addr) (r1 : Addr) (h0 : Heap) (n0 : Nat) (v : Option Value) (h : Heap) (L : List Loc) : Prop := v = none ∧ Fr n0 L ∧ Keep h0 h [r0] ∧ Fld Z h r0 cs7 "name" "Ljava/lang/String;" (.ref r1)
set_option maxRecDepth 65536 in
set_option maxHeartbeats 40000000 in
theorem rm28_1 (l : Launch) (Z : State) (a0 : Array Value) (hw : ∀ d ∈ tables_1, d.before a0 Z = true) (ws : List Jvm.Cond) (r0 : Addr) (r1 : Addr) (h0 : Heap) (n0 : Nat) (O0 : Old Z n0 h0) (f2 : Exa Z h0 r0 cs7) (f3 : Fld Z h0 r0 cs7 "name" "Ljava/lang/String;" .null) (g4 : n0 ≤ r0) :
    MetFree l (⟨cs7, "<init>", "(Ljava/lang/String;)V"⟩ : MethodName) (head1 (Jvm.Cond.code (⟨cs7, "<init>", "(Ljava/lang/String;)V"⟩ : MethodName) prog_22_method_1_code 2 none :: ws) ({ frames := 2, cells := 0, slots := 0, locals := 24 } : Room)) (fun a U => a = #[(.ref r0), (.ref r1)] ∧ Z.Warmed39 U.vm ∧ U.heap = h0) (fun _ _ _ _ _ => True) (fun _ U o U' => ∃ v L, o = .returned v ∧ Q28_1 Z r0 r1 h0 n0 v U'.heap L ∧ FrameEnd U o U' L ({ frames := 2, cells := 0, slots := 0, locals := 24 } : Room).cells ({ frames := 2, cells := 0, slots := 0, locals := 24 } : Room).slots) := by
  refine MetFree.of_bodySF (plainFor_of_name pn_com_example_manojo_manojo_QueryTree_Parameter) hisR ?_
  intro p e s m args below meth c s₁ Bd hml0 hP hK
  obtain ⟨rfl, hZ, hh⟩ := hP
  have hx := Bd.exec
  have hby := Bd.bytes
  have hml : c.maxLocals = 2 := hml0
  have hown : s.vm.findClass cs7 = some m.cls := findClass_of_methodNamed Bd.named
  have hnm := (name_of_methodNamed Bd.named Bd.method).1
  have X0 : Stand p l e ({ frames := 2, cells := 0, slots := 0, locals := 24 } : Room) s m #[(.ref r0), (.ref r1)] below meth c s₁ [] 0 0 := Stand.of_body Bd
  have e0 : s₁.heap = h0 := by rw [← hh, Bd.state]; rfl
  have N0 := Fr.nil n0
  have pre0 : ∀ t, Steps p.tables e below (s₁.setTop (mkF m 0 #[.val (.ref r0), .val (.ref r1)] [])) t → Steps p.tables e below (s₁.setTop (entryFrame m #[(.ref r0), (.ref r1)] 2)) t := fun t k => castTop (by first | (simp [entryFrame, mkF, argsToLocals, Value.category]; done) | rfl) k
  obtain ⟨_, _, ⟨T1, L1, k1, n1⟩, -, X1, ⟨Lc1, hQ1, l1, y1, z1⟩, st1⟩ := X0.specialBack hx (y := (⟨"java/lang/Record", "<init>", "()V"⟩ : MethodName)) rfl hown (mvT hZ (ww hw 153 rfl)) (mvT hZ (ww hw 154 rfl)) (mvT hZ (ww hw 157 rfl)) (by decide) (backOf (W := 0) (rm29_1 l Z a0 hw [] r0 h0 n0 O0) hZ (ww hw 157 rfl) (ww hw 156 rfl) (by decide) (by decide)) (g := (mkF m 1 #[.val (.ref r0), .val (.ref r1)] [(.ref r0)])) rfl (by rw [hml]; rfl) (Steps.refl _) (a := r0) (argsL := []) (rest := []) (lenOf pd___V rfl) rfl (by show 2 * 0 + _ ≤ _; exact Nat.le_of_eq rfl) (hb hby d28_1) (fun _ _ => ⟨rfl, e0, (by decide : 0 + 0 ≤ _), (by decide : 0 + 0 ≤ _)⟩)
  dsimp only [Pt.U, Pt.locs, Pt.cells, Pt.slots] at X1 l1 y1 z1 st1 hQ1
  subst l1 y1 z1
  obtain ⟨rfl, N1q, E1⟩ := hQ1
  have N1 := Fr.app N0 N1q
  obtain ⟨T5, h5, X5, e5, W5, st5⟩ := putF X1 hx hZ hown (host := "") (Or.inl (ww hw 159 rfl)) Via.refl E1 f3 f2 (Or.inr ⟨(ww hw 160 rfl), rfl, hnm⟩) (ww hw 6 rfl) (ty := (.object "java/lang/String")) (by decide) rfl rfl (g := (mkF m 6 #[.val (.ref r0), .val (.ref r1)] [(.ref r1), (.ref r0)])) rfl rfl (hb hby d28_6)
  have Fw5 := f3.same W5
  have N5 := Fr.snoc X5 N1 g4
  have kp6 : Keep h0 h5 [r0] := (Keep.refl h0 [r0]).wr W5 (Or.inl (List.mem_of_getElem? (i := 0) rfl))
  obtain ⟨fs, hr, hrun, hended, hW, hsame⟩ := X5.leave (v := none) (fun _ => rfl)
  refine ⟨_, _, pre0 _ ?_, hrun, hended, _, _, rfl, ?_, ⟨_, rfl⟩, hW, hsame.mono (by decide) (by decide)⟩
  · show Steps p.tables e below (s₁.setTop (mkF m 0 #[.val (.ref r0), .val (.ref r1)] [])) _
    refine XS.aloadN X0.here hx rfl (hb hby d28_0) rfl rfl ?_
    refine st1.trans ?_
    show Steps p.tables e below (T1.setTop (mkF m 4 #[.val (.ref r0), .val (.ref r1)] [])) _
    refine XS.aloadN X1.here hx rfl (hb hby d28_4) rfl rfl ?_
    refine XS.aloadN X1.here hx rfl (hb hby d28_5) rfl rfl ?_
    refine st5 _ ?_
    show Steps p.tables e below (T5.setTop (mkF m 9 #[.val (.ref r0), .val (.ref r1)] [])) _
    exact X5.returnOut hx Bd.returns (hb hby d28_9) hr
  · show Q28_1 Z r0 r1 h0 n0 _ T5.heap _
    rw [e5]
    exact ⟨rfl, N5, kp6, Fw5⟩
theorem d1_26 : decode prog_22_method_3_code 26 = .ok (.areturn, 1) := by decide +kernel
def Q1_1 (Z : State) (x0 : Int32) (x1 : Int32) (r2 : Addr) (r3 : Addr) (d4 : Cell) (r5 : Addr) (d6 : Cell) (h0 : Heap) (n0 : Nat) (v : Option Value) (h : Heap) (L : List Loc) : Prop := ∃ (b1 : Addr) (b77_0 : Addr) (b77_1 : Addr) (k77_0 : ClassId), v = some (.ref b1) ∧ Fr n0 L ∧ Keep h0 h [] ∧ h0.size ≤ b1 ∧ Exa Z h b1 cs7 ∧ Fld Z h b1 cs7 "name" "Ljava/lang/String;" (.ref b77_0) ∧ h0.size ≤ b77_0 ∧ Exa Z h b77_0 "java/lang/String" ∧ Fld Z h b77_0 "java/lang/String" "coder" "B" (.int (0 : Int32)) ∧ Fld Z h b77_0 "java/lang/String" "value" "[B" (.ref b77_1) ∧ h0.size ≤ b77_1 ∧ Arv Z h b77_1 k77_0 .byte (((1 : Int32) + (SBG.strSizeOf x0)) - (0 : Int32)) (own_us [(.int (63 : Int32)), (.int (0 : Int32)), (.int (0 : Int32)), (.int (0 : Int32)), (.int (0 : Int32)), (.int (0 : Int32)), (.int (0 : Int32)), (.int (0 : Int32)), (.int (0 : Int32)), (.int (0 : Int32)), (.int (0 : Int32)), (.int (0 : Int32)), (.int (0 : Int32)), (.int (0 : Int32)), (.int (0 : Int32)), (.int (0 : Int32))] (.int (0 : Int32)) ((16 : Int32)).toNatClampNeg x0 (((1 : Int32) + (SBG.strSizeOf x0))).toNatClampNeg) (.int (0 : Int32)) ∧ Exa Z h b77_1 "[B" ∧ b1 ≠ b77_0 ∧ b1 ≠ b77_1 ∧ b77_0 ≠ b77_1
set_option maxRecDepth 65536 in
set_option maxHeartbeats 40000000 in
theorem rm1_1 (l : Launch) (Z : State) (a0 : Array Value) (hw : ∀ d ∈ tables_1, d.before a0 Z = true) (ws : List Jvm.Cond) (x0 : Int32) (x1 : Int32) (r2 : Addr) (r3 : Addr) (d4 : Cell) (r5 : Addr) (d6 : Cell) (h0 : Heap) (n0 : Nat) (O0 : Old Z n0 h0) (f11 : Sta Z Z.heap "java/lang/String" "COMPACT_STRINGS" "Z" (.int x1)) (hc12 : ¬ (x1 = (0 : Int32))) (hc52 : ¬ ((0 : Int32) < (((1 : Int32) + (SBG.strSizeOf x0)) - ((16 : Int32) >>> ((0 : Int32) &&& 31))))) (f53 : own_TB Z r2 r3 d4 r5 d6) (hc54 : ¬ (((1 : Int32) + (SBG.strSizeOf x0)) < 0)) (hc55 : (((1 : Int32) + (SBG.strSizeOf x0))).toNatClampNeg ≤ ((16 : Int32)).toNatClampNeg) (hc56 : own_sz x0 ≤ (((1 : Int32) + (SBG.strSizeOf x0))).toNatClampNeg) (hc70 : ¬ (((1 : Int32) + (SBG.strSizeOf x0)) = (16 : Int32))) (hc71 : ¬ (((1 : Int32) + (SBG.strSizeOf x0)) < (0 : Int32))) (hc72 : ¬ ((((1 : Int32) + (SBG.strSizeOf x0)) - (0 : Int32)) < 0)) (hc73 : ((((1 : Int32) + (SBG.strSizeOf x0)) - (0 : Int32))).toNatClampNeg ≤ 32) (hc74 : (((1 : Int32) + (SBG.strSizeOf x0)) - (0 : Int32)) < ((16 : Int32) - (0 : Int32))) (hc75 : ((((1 : Int32) + (SBG.strSizeOf x0)) - (0 : Int32))).toNatClampNeg ≤ ((16 : Int32)).toNatClampNeg) :
    MetFree l (⟨cs7, "positional", cs8⟩ : MethodName) (head1 (Jvm.Cond.code (⟨cs7, "positional", cs8⟩ : MethodName) prog_22_method_3_code 1 (some (.object cs7)) :: ws) ({ frames := 6, cells := 7, slots := 65, locals := 108 } : Room)) (fun a U => a = #[(.int x0)] ∧ Z.Warmed39 U.vm ∧ U.heap = h0 ∧ CHv Z consts_1 U.vm h0) (fun _ _ _ _ _ => True) (fun _ U o U' => ∃ v L, o = .returned v ∧ Q1_1 Z x0 x1 r2 r3 d4 r5 d6 h0 n0 v U'.heap L ∧ CHr Z consts_1 U.vm U.heap U'.vm U'.heap ∧ ReturnedEndW U o U' L ({ frames := 6, cells := 7, slots := 65, locals := 108 } : Room).cells ({ frames := 6, cells := 7, slots := 65, locals := 108 } : Room).slots) := by
  refine MetFree.of_bodySF (plainFor_of_name pn_com_example_manojo_manojo_QueryTree_Parameter) hisR ?_
  intro p e s m args below meth c s₁ Bd hml0 hP hK
  obtain ⟨rfl, hZ, hh, hC⟩ := hP
  have hx := Bd.exec
  have hby := Bd.bytes
  have hml : c.maxLocals = 1 := hml0
  have hown : s.vm.findClass cs7 = some m.cls := findClass_of_methodNamed Bd.named
  have hnm := (name_of_methodNamed Bd.named Bd.method).1
  have X0 : Stand p l e ({ frames := 6, cells := 7, slots := 65, locals := 108 } : Room) s m #[(.int x0)] below meth c s₁ [] 0 0 := Stand.of_body Bd
  have e0 : s₁.heap = h0 := by rw [← hh, Bd.state]; rfl
  have N0 := Fr.nil n0
  have pre0 : ∀ t, Steps p.tables e below (s₁.setTop (mkF m 0 #[.val (.int x0)] [])) t → Steps p.tables e below (s₁.setTop (entryFrame m #[(.int x0)] 1)) t := fun t k => castTop (by first | (simp [entryFrame, mkF, argsToLocals, Value.category]; done) | rfl) k
  have hEL : EW Z a0 consts_1 := own_EW hw
  have R0 := CHr.refl hC
  obtain ⟨T1, h1, X1, e1, E1, A1, D1, -, st1⟩ := newO X0 hx hZ hown (ww hw 5 rfl) (ww hw 6 rfl) (ww hw 3 rfl) e0 (g := (mkF m 0 #[.val (.int x0)] [])) rfl (hb hby d1_0) (by decide) (by decide)
  obtain ⟨b1, g1⟩ : ∃ z, z = h0.size := ⟨_, rfl⟩
  have sf2 : Safe Z consts_1 s.vm h0 b1 := Safe.new (Nat.le_of_eq g1.symm)
  rw [← g1] at A1 D1 st1
  have R3 := CHr.trans R0 (CHr.ext E1 R0.1)
  have f4 : Fld Z h1 b1 cs7 "name" "Ljava/lang/String;" .null := D1 (Or.inr (ww hw 160 rfl)) (ty := (.object "java/lang/String")) (by decide)
  obtain ⟨T5, h5, X5, e5, E5, A5, D5, -, st5⟩ := newO X1 hx hZ hown (ww hw 7 rfl) (ww hw 8 rfl) (ww hw 9 rfl) e1 (g := (mkF m 4 #[.val (.int x0)] [(.ref b1), (.ref b1)])) rfl (hb hby d1_4) (by decide) (by decide)
  obtain ⟨b5, g5⟩ : ∃ z, z = h1.size := ⟨_, rfl⟩
  have sf6 : Safe Z consts_1 s.vm h1 b5 := Safe.new (Nat.le_of_eq g5.symm)
  rw [← g5] at A5 D5 st5
  have R7 := CHr.trans R3 (CHr.ext E5 R3.1)
  have f8 : Fld Z h5 b5 cs0 "value" "[B" .null := D5 (Or.inl (ww hw 26 rfl)) (ty := (.array .byte)) (by decide)
  have f9 : Fld Z h5 b5 cs0 "coder" "B" (.int (0 : Int32)) := D5 (Or.inl (ww hw 28 rfl)) (ty := .byte) (by decide)
  have f10 : Fld Z h5 b5 cs0 "count" "I" (.int (0 : Int32)) := D5 (Or.inl (ww hw 59 rfl)) (ty := .int) (by decide)
  have o14 := Old.ext O0 E1
  have zz13 : n0 ≤ h1.size := by rw [← o14.1]; exact o14.2.1
  have g15 := Nat.le_trans zz13 (Nat.le_of_eq g5.symm)
  have o16 := Old.ext o14 E5
  obtain ⟨_, _, ⟨T17, L17, k17, n17⟩, -, X17, ⟨Lc17, hQ17, l17, y17, z17⟩, st17⟩ := X5.specialBack hx (y := (⟨"java/lang/StringBuilder", "<init>", "()V"⟩ : MethodName)) rfl hown (mvT hZ (ww hw 10 rfl)) (mvT hZ (ww hw 11 rfl)) (mvT hZ (ww hw 12 rfl)) (by decide) (backOf (W := 3) (rm2_1 l Z a0 hw [] b5 x1 h5 n0 o16 f11 hc12 A5 f8 g15 f9 f10 A5.lt) hZ (ww hw 12 rfl) (ww hw 9 rfl) (by decide) (by decide)) (g := (mkF m 8 #[.val (.int x0)] [(.ref b5), (.ref b5), (.ref b1), (.ref b1)])) rfl (by rw [hml]; rfl) (Steps.refl _) (a := b5) (argsL := []) (rest := [(.ref b5), (.ref b1), (.ref b1)]) (lenOf pd___V rfl) rfl (by show 2 * 0 + _ ≤ _; exact Nat.le_of_eq rfl) (hb hby d1_8) (fun _ _ => ⟨rfl, e5, (by decide : 2 + 1 ≤ _), (by decide : 5 + 16 ≤ _)⟩)
  dsimp only [Pt.U, Pt.locs, Pt.cells, Pt.slots] at X17 l17 y17 z17 st17 hQ17
  subst l17 y17 z17
  obtain ⟨b17_0, k17_0, rfl, N17q, K17, f18, f19, f20, f21, f22, f23⟩ := hQ17
  have N17 := Fr.app N0 N17q
  have R24 := CHr.trans R7 (CHr.keep K17 (sfS (Safe.exa hZ.alike A5 (by decide) (by decide)) sf0) R7.1)
  have sf25 : Safe Z consts_1 s.vm h5 b17_0 := Safe.new f21
  have hS26 := (State.WarmedH.refl s).since 0
  have hstr : ∀ a ∈ Bundle.stringAtoms, a.before a0 Z = true := fun a q => hw a (own_str a q)
  obtain ⟨a27, T27, h27, kk27, b27, k27, X27, e27, E27, hS27, hk27, hZ27, ho27, EE27, C27, F27, V27, l27, m27, CR27, -, ne27, st27⟩ := ldcCH (s := s) (vm0 := s.vm) X17 hx hZ hown (ww hw 29 rfl) hstr rfl hS26 (Nat.zero_le _) hEL (by simp [consts_1]) R24.1 (vs := [(.int (63 : Int32))]) (z := (1 : Int32)) ⟨by decide, by decide⟩ (by decide) rfl (g := (mkF m 11 #[.val (.int x0)] [(.ref b5), (.ref b1), (.ref b1)])) rfl (hb hby d1_11) (n := 4) (by decide) (by decide) (by decide) (by decide)
  have R28 := CHr.trans R24 CR27
  have f29 := (((A1.ext E5).keep K17).ext E27)
  have nl30 := ne27 _ (Safe.exa hZ27.alike f29 (by decide) (by decide))
  have f31 := ((A5.keep K17).ext E27)
  have nl32 := ne27 _ (Safe.exa hZ27.alike f31 (by decide) (by decide))
  have sf33 := (CHr.safe CR27 f22.lt (Safe.keep K17 (sfS (Safe.exa hZ.alike A5 (by decide) (by decide)) sf0) R7.1 sf25))
  have nl34 := ne27 _ sf33
  have f35 := (f20.ext E27)
  have f36 := (f18.ext E27)
  have f37 := (f22.ext E27)
  have f38 := (f19.ext E27)
  have zz39 : n0 ≤ h5.size := by rw [← o16.1]; exact o16.2.1
  have g40 := Nat.le_trans zz39 f21
  have n41 := Nat.ne_of_lt (Nat.lt_of_lt_of_le A5.lt f21)
  have o42 := Old.keep o16 K17 (allS g15 all0)
  have o43 := Old.ext o42 E27
  obtain ⟨cqq45, kqq45, qq45a, qq45b, qq45c⟩ := isOf hZ27 e27 f31
  obtain ⟨_, _, ⟨T44, L44, k44, n44⟩, -, X44, ⟨Lc44, hQ44, l44, y44, z44⟩, st44⟩ := X27.virtualBack hx (y := (⟨"java/lang/StringBuilder", "append", cs2⟩ : MethodName)) (z := (⟨"java/lang/StringBuilder", "append", cs2⟩ : MethodName)) ho27 (mvT hZ27 (ww hw 35 rfl)) (mvT hZ27 (ww hw 36 rfl)) (notFace_of_selects (args := #[]) (mvT hZ27 (ww hw 38 rfl))) (mvT hZ27 (ww hw 38 rfl)) (mvT hZ27 (ww hw 37 rfl)) (by decide) (backOf (W := 2) (rm5_1 l Z a0 hw [] b5 a27 b27 k27 x1 b17_0 k17_0 h27 n0 o43 EE27 F27 V27 f11 hc12 C27 f35 f31 f36 f37 f38 g40 n41 g15) hZ27 (ww hw 39 rfl) (ww hw 9 rfl) (by decide) (by decide)) qq45a qq45c (g := (mkF m 13 #[.val (.int x0)] [(.ref a27), (.ref b5), (.ref b1), (.ref b1)])) rfl (by rw [hml]; rfl) (Steps.refl _) (argsL := [(.ref a27)]) (rest := [(.ref b1), (.ref b1)]) (lenOf pd__Ljava_lang_String__Ljava_lang_StringBuilder_ rfl) rfl (by show 2 * 0 + _ ≤ _; exact Nat.le_of_eq rfl) (hb hby d1_13) (fun _ _ => ⟨rfl, e27, (by decide : 5 + 0 ≤ _), (by decide : 29 + 0 ≤ _)⟩)
  dsimp only [Pt.U, Pt.locs, Pt.cells, Pt.slots] at X44 l44 y44 z44 st44 hQ44
  subst l44 y44 z44
  obtain ⟨rfl, N44q, K44, f46, f47, f48, f49⟩ := hQ44
  have N44 := Fr.app N17 N44q
  have R50 := CHr.trans R28 (CHr.keep K44 (sfS sf33 (sfS (Safe.exa hZ27.alike f31 (by decide) (by decide)) sf0)) R28.1)
  have f51 := (f31.keep K44)
  have o57 := Old.keep o43 K44 (allS g40 (allS g15 all0))
  obtain ⟨cqq59, kqq59, qq59a, qq59b, qq59c⟩ := isOf hZ27 rfl f51
  obtain ⟨_, _, ⟨T58, L58, k58, n58⟩, -, X58, ⟨Lc58, hQ58, l58, y58, z58⟩, st58⟩ := X44.virtualBack hx (y := (⟨"java/lang/StringBuilder", "append", cs4⟩ : MethodName)) (z := (⟨"java/lang/StringBuilder", "append", cs4⟩ : MethodName)) ho27 (mvT hZ27 (ww hw 85 rfl)) (mvT hZ27 (ww hw 86 rfl)) (notFace_of_selects (args := #[]) (mvT hZ27 (ww hw 88 rfl))) (mvT hZ27 (ww hw 88 rfl)) (mvT hZ27 (ww hw 87 rfl)) (by decide) (backOf (W := 2) (rm13_1 l Z a0 hw [] b5 x0 (1 : Int32) b17_0 (16 : Int32) k17_0 ([(.int (63 : Int32)), (.int (0 : Int32)), (.int (0 : Int32)), (.int (0 : Int32)), (.int (0 : Int32)), (.int (0 : Int32)), (.int (0 : Int32)), (.int (0 : Int32)), (.int (0 : Int32)), (.int (0 : Int32)), (.int (0 : Int32)), (.int (0 : Int32)), (.int (0 : Int32)), (.int (0 : Int32)), (.int (0 : Int32)), (.int (0 : Int32))]) (0 : Int32) x1 r2 r3 d4 r5 d6 T44.heap n0 o57 f47 f51 f48 f46 f49 hc52 f11 hc12 (by decide : (0 : Int32) = (0 : Int32)) f53 g40 hc54 hc55 hc56 n41 g15) hZ27 (ww hw 89 rfl) (ww hw 9 rfl) (by decide) (by decide)) qq59a qq59c (g := (mkF m 17 #[.val (.int x0)] [(.int x0), (.ref b5), (.ref b1), (.ref b1)])) rfl (by rw [hml]; rfl) (Steps.refl _) (argsL := [(.int x0)]) (rest := [(.ref b1), (.ref b1)]) (lenOf pd__I_Ljava_lang_StringBuilder_ rfl) rfl (by show 2 * 0 + _ ≤ _; exact Nat.le_of_eq rfl) (hb hby d1_17) (fun _ _ => ⟨rfl, rfl, (by decide : 5 + 0 ≤ _), (by decide : 29 + 0 ≤ _)⟩)
  dsimp only [Pt.U, Pt.locs, Pt.cells, Pt.slots] at X58 l58 y58 z58 st58 hQ58
  subst l58 y58 z58
  obtain ⟨rfl, N58q, K58, f60, f61, f62, f63⟩ := hQ58
  have N58 := Fr.app N44 N58q
  have sf64 := (Safe.keep K44 (sfS sf33 (sfS (Safe.exa hZ27.alike f31 (by decide) (by decide)) sf0)) R28.1 sf33)
  have R65 := CHr.trans R50 (CHr.keep K58 (sfS sf64 (sfS (Safe.exa hZ27.alike f51 (by decide) (by decide)) sf0)) R50.1)
  have f66 := (f51.keep K58)
  have zs67 := E27.1
  have zs68 := Nat.le_trans zs67 K44.1
  have zs69 := Nat.le_trans zs68 K58.1
  have o76 := Old.keep o57 K58 (allS g40 (allS g15 all0))
  obtain ⟨cqq78, kqq78, qq78a, qq78b, qq78c⟩ := isOf hZ27 rfl f66
  obtain ⟨_, _, ⟨T77, L77, k77, n77⟩, -, X77, ⟨Lc77, hQ77, l77, y77, z77⟩, st77⟩ := X58.virtualBack hx (y := (⟨"java/lang/StringBuilder", "toString", "()Ljava/lang/String;"⟩ : MethodName)) (z := (⟨"java/lang/StringBuilder", "toString", "()Ljava/lang/String;"⟩ : MethodName)) ho27 (mvT hZ27 (ww hw 107 rfl)) (mvT hZ27 (ww hw 108 rfl)) (notFace_of_selects (args := #[]) (mvT hZ27 (ww hw 110 rfl))) (mvT hZ27 (ww hw 110 rfl)) (mvT hZ27 (ww hw 109 rfl)) (by decide) (backOf (W := 2) (rm18_1 l Z a0 hw [] b5 b17_0 ((1 : Int32) + (SBG.strSizeOf x0)) x1 (0 : Int32) (16 : Int32) k17_0 (own_us [(.int (63 : Int32)), (.int (0 : Int32)), (.int (0 : Int32)), (.int (0 : Int32)), (.int (0 : Int32)), (.int (0 : Int32)), (.int (0 : Int32)), (.int (0 : Int32)), (.int (0 : Int32)), (.int (0 : Int32)), (.int (0 : Int32)), (.int (0 : Int32)), (.int (0 : Int32)), (.int (0 : Int32)), (.int (0 : Int32)), (.int (0 : Int32))] (.int (0 : Int32)) ((16 : Int32)).toNatClampNeg x0 (((1 : Int32) + (SBG.strSizeOf x0))).toNatClampNeg) T58.heap n0 o76 f66 f62 f61 f11 hc12 f63 (by decide : (0 : Int32) = (0 : Int32)) f60 (Nat.lt_of_lt_of_le f22.lt zs69) hc70 hc71 hc72 hc73 hc74 hc75) hZ27 (ww hw 111 rfl) (ww hw 9 rfl) (by decide) (by decide)) qq78a qq78c (g := (mkF m 20 #[.val (.int x0)] [(.ref b5), (.ref b1), (.ref b1)])) rfl (by rw [hml]; rfl) (Steps.refl _) (argsL := []) (rest := [(.ref b1), (.ref b1)]) (lenOf pd___Ljava_lang_String_ rfl) rfl (by show 2 * 0 + _ ≤ _; exact Nat.le_of_eq rfl) (hb hby d1_20) (fun _ _ => ⟨rfl, rfl, (by decide : 5 + 2 ≤ _), (by decide : 29 + 36 ≤ _)⟩)
  dsimp only [Pt.U, Pt.locs, Pt.cells, Pt.slots] at X77 l77 y77 z77 st77 hQ77
  subst l77 y77 z77
  obtain ⟨b77_0, b77_1, k77_0, rfl, N77q, K77, f79, f80, f81, f82, f83, f84, f85, f86⟩ := hQ77
  have N77 := Fr.app N58 N77q
  have R87 := CHr.trans R65 (CHr.keep K77 sf0 R65.1)
  have sf88 : Safe Z consts_1 T27.vm T58.heap b77_0 := Safe.new f79
  have sf89 : Safe Z consts_1 T27.vm T58.heap b77_1 := Safe.new f83
  have f90 := (((f29.keep K44).keep K58).keep K77)
  have n91 := Nat.ne_of_lt (Nat.lt_of_lt_of_le A1.lt (Nat.le_of_eq g5.symm))
  have zs92 := E5.1
  have n93 := Nat.ne_of_lt (Nat.lt_of_lt_of_le (Nat.lt_of_lt_of_le A1.lt zs92) f21)
  have f94 := ((((((f4.ext E5).keep K17 (ninS n91 nin0)).ext E27).keep K44 (ninS n93 (ninS n91 nin0))).keep K58 (ninS n93 (ninS n91 nin0))).keep K77 nin0)
  have zz95 : n0 ≤ h0.size := by rw [← O0.1]; exact O0.2.1
  have g96 := Nat.le_trans zz95 (Nat.le_of_eq g1.symm)
  have o97 := Old.keep o76 K77 all0
  obtain ⟨_, _, ⟨T98, L98, k98, n98⟩, -, X98, ⟨Lc98, hQ98, l98, y98, z98⟩, st98⟩ := X77.specialBack hx (y := (⟨cs7, "<init>", "(Ljava/lang/String;)V"⟩ : MethodName)) rfl ho27 (mvT hZ27 (ww hw 150 rfl)) (mvT hZ27 (ww hw 151 rfl)) (mvT hZ27 (ww hw 152 rfl)) (by decide) (backOf (W := 1) (rm28_1 l Z a0 hw [] b1 b77_0 T77.heap n0 o97 f90 f94 g96) hZ27 (ww hw 152 rfl) (ww hw 3 rfl) (by decide) (by decide)) (g := (mkF m 23 #[.val (.int x0)] [(.ref b77_0), (.ref b1), (.ref b1)])) rfl (by rw [hml]; rfl) (Steps.refl _) (a := b1) (argsL := [(.ref b77_0)]) (rest := [(.ref b1)]) (lenOf pd__Ljava_lang_String__V rfl) rfl (by show 2 * 0 + _ ≤ _; exact Nat.le_of_eq rfl) (hb hby d1_23) (fun _ _ => ⟨rfl, rfl, (by decide : 7 + 0 ≤ _), (by decide : 65 + 0 ≤ _)⟩)
  dsimp only [Pt.U, Pt.locs, Pt.cells, Pt.slots] at X98 l98 y98 z98 st98 hQ98
  subst l98 y98 z98
  obtain ⟨rfl, N98q, K98, f99⟩ := hQ98
  have N98 := Fr.app N77 N98q
  have R100 := CHr.trans R87 (CHr.keep K98 (sfS (Safe.exa hZ27.alike f90 (by decide) (by decide)) sf0) R87.1)
  have f101 := (f90.keep K98)
  have zs102 := E1.1
  have zs103 := Nat.le_trans zs102 E5.1
  have zs104 := Nat.le_trans zs103 K17.1
  have zs105 := Nat.le_trans zs104 E27.1
  have zs106 := Nat.le_trans zs105 K44.1
  have zs107 := Nat.le_trans zs106 K58.1
  have f108 := (f80.keep K98)
  have zs109 := Nat.le_trans zs92 K17.1
  have zs110 := Nat.le_trans zs109 E27.1
  have zs111 := Nat.le_trans zs110 K44.1
  have zs112 := Nat.le_trans zs111 K58.1
  have n113 := Nat.ne_of_lt (Nat.lt_of_lt_of_le (Nat.lt_of_lt_of_le A1.lt zs112) f79)
  have f114 := (f81.keep K98 (ninS (Ne.symm n113) nin0))
  have f115 := (f82.keep K98 (ninS (Ne.symm n113) nin0))
  have n116 := Nat.ne_of_lt (Nat.lt_of_lt_of_le (Nat.lt_of_lt_of_le A1.lt zs112) f83)
  have f117 := (f84.keep K98 (ninS (Ne.symm n116) nin0))
  have f118 := (f85.keep K98)
  have kp119 : Keep h0 h1 [] := (Keep.refl h0 []).ext E1
  have kp120 : Keep h0 h5 [] := kp119.ext E5
  have kp121 : Keep h0 T17.heap [] := kp120.trans K17 (allS (Or.inr (Nat.le_trans zs102 (Nat.le_of_eq g5.symm))) all0)
  have kp122 : Keep h0 h27 [] := kp121.ext E27
  have kp123 : Keep h0 T44.heap [] := kp122.trans K44 (allS (Or.inr (Nat.le_trans zs103 f21)) (allS (Or.inr (Nat.le_trans zs102 (Nat.le_of_eq g5.symm))) all0))
  have kp124 : Keep h0 T58.heap [] := kp123.trans K58 (allS (Or.inr (Nat.le_trans zs103 f21)) (allS (Or.inr (Nat.le_trans zs102 (Nat.le_of_eq g5.symm))) all0))
  have kp125 : Keep h0 T77.heap [] := kp124.trans K77 all0
  have kp126 : Keep h0 T98.heap [] := kp125.trans K98 (allS (Or.inr (Nat.le_of_eq g1.symm)) all0)
  have zs127 := K44.1
  have zs128 := Nat.le_trans zs127 K58.1
  have zs129 := Nat.le_trans zs128 K77.1
  have zs130 := Nat.le_trans zs129 K98.1
  obtain ⟨fs, hr, hrun, hended, hend⟩ := leaveW (s := s) (vm₁ := T27.vm) X98 hS27 ((Nat.le_trans hk27 zs130)) (v := some (.ref b1)) (fun h => by rw [Bd.returns] at h; cases h)
  have hCR : CHr Z consts_1 s.vm s.heap T98.vm T98.heap := by rw [hh]; exact CHr.trans R100 (CHv.at (s := s) (vm0 := T27.vm) X98 hZ27 hEL R100.1)
  refine ⟨_, _, pre0 _ ?_, hrun, hended, _, _, rfl, ?_, hCR, hend.1, hend.2.1, hend.2.2.1, hend.2.2.2.mono (by decide) (by decide)⟩
  · show Steps p.tables e below (s₁.setTop (mkF m 0 #[.val (.int x0)] [])) _
    refine st1 _ ?_
    show Steps p.tables e below (T1.setTop (mkF m 3 #[.val (.int x0)] [(.ref b1)])) _
    refine XS.dup X1.here hx rfl (hb hby d1_3) rfl rfl ?_
    refine st5 _ ?_
    show Steps p.tables e below (T5.setTop (mkF m 7 #[.val (.int x0)] [(.ref b5), (.ref b1), (.ref b1)])) _
    refine XS.dup X5.here hx rfl (hb hby d1_7) rfl rfl ?_
    refine st17.trans ?_
    show Steps p.tables e below (T17.setTop (mkF m 11 #[.val (.int x0)] [(.ref b5), (.ref b1), (.ref b1)])) _
    refine st27 _ ?_
    show Steps p.tables e below (T27.setTop (mkF m 13 #[.val (.int x0)] [(.ref a27), (.ref b5), (.ref b1), (.ref b1)])) _
    refine st44.trans ?_
    show Steps p.tables e below (T44.setTop (mkF m 16 #[.val (.int x0)] [(.ref b5), (.ref b1), (.ref b1)])) _
    refine XS.iloadN X44.here hx rfl (hb hby d1_16) rfl ?_
    refine st58.trans ?_
    show Steps p.tables e below (T58.setTop (mkF m 20 #[.val (.int x0)] [(.ref b5), (.ref b1), (.ref b1)])) _
    refine st77.trans ?_
    show Steps p.tables e below (T77.setTop (mkF m 23 #[.val (.int x0)] [(.ref b77_0), (.ref b1), (.ref b1)])) _
    refine st98.trans ?_
    show Steps p.tables e below (T98.setTop (mkF m 26 #[.val (.int x0)] [(.ref b1)])) _
    exact retOut X98 hx (i := .areturn) Bd.returns rfl (Or.inr (Or.inr (Or.inr (Or.inr ⟨rfl, rfl, rfl⟩)))) (hb hby d1_26) hr
  · show Q1_1 Z x0 x1 r2 r3 d4 r5 d6 h0 n0 _ T98.heap _
    exact ⟨b1, b77_0, b77_1, k77_0, rfl, N98, kp126, (Nat.le_of_eq g1.symm), f101, f99, (Nat.le_trans zs107 f79), f108, f114, f115, (Nat.le_trans zs107 f83), f117, f118, n113, n116, f86⟩
theorem pd__I_Lcom_example_manojo_manojo_QueryTree_Parameter_ : parseMethodDescriptor cs8 = some ⟨[.int], some (.object cs7)⟩ := by decide +kernel
theorem d30_0 : decode prog_22_method_7_code 0 = .ok (.aload_n 0, 1) := by decide +kernel
theorem d30_1 : decode prog_22_method_7_code 1 = .ok (.getfield 7, 3) := by decide +kernel
theorem d30_4 : decode prog_22_method_7_code 4 = .ok (.areturn, 1) := by decide +kernel
def Q30_1 (Z : State) (r0 : Addr) (r1 : Addr) (h0 : Heap) (n0 : Nat) (v : Option Value) (h : Heap) (L : List Loc) : Prop := v = some (.ref r1) ∧ Fr n0 L ∧ h = h0
set_option maxRecDepth 65536 in
set_option maxHeartbeats 40000000 in
theorem rm30_1 (l : Launch) (Z : State) (a0 : Array Value) (hw : ∀ d ∈ tables_1, d.before a0 Z = true) (ws : List Jvm.Cond) (r0 : Addr) (r1 : Addr) (h0 : Heap) (n0 : Nat) (O0 : Old Z n0 h0) (f1 : Fld Z h0 r0 cs7 "name" "Ljava/lang/String;" (.ref r1)) :
    MetFree l (⟨cs7, "name", "()Ljava/lang/String;"⟩ : MethodName) (head1 (Jvm.Cond.code (⟨cs7, "name", "()Ljava/lang/String;"⟩ : MethodName) prog_22_method_7_code 1 (some (.object "java/lang/String")) :: ws) ({ frames := 0, cells := 0, slots := 0, locals := 0 } : Room)) (fun a U => a = #[(.ref r0)] ∧ Z.Warmed39 U.vm ∧ U.heap = h0) (fun _ _ _ _ _ => True) (fun _ U o U' => ∃ v L, o = .returned v ∧ Q30_1 Z r0 r1 h0 n0 v U'.heap L ∧ FrameEnd U o U' L ({ frames := 0, cells := 0, slots := 0, locals := 0 } : Room).cells ({ frames := 0, cells := 0, slots := 0, locals := 0 } : Room).slots) := by
  refine MetFree.of_bodySF (plainFor_of_name pn_com_example_manojo_manojo_QueryTree_Parameter) hisR ?_
  intro p e s m args below meth c s₁ Bd hml0 hP hK
  obtain ⟨rfl, hZ, hh⟩ := hP
  have hx := Bd.exec
  have hby := Bd.bytes
  have hml : c.maxLocals = 1 := hml0
  have hown : s.vm.findClass cs7 = some m.cls := findClass_of_methodNamed Bd.named
  have hnm := (name_of_methodNamed Bd.named Bd.method).1
  have X0 : Stand p l e ({ frames := 0, cells := 0, slots := 0, locals := 0 } : Room) s m #[(.ref r0)] below meth c s₁ [] 0 0 := Stand.of_body Bd
  have e0 : s₁.heap = h0 := by rw [← hh, Bd.state]; rfl
  have N0 := Fr.nil n0
  have pre0 : ∀ t, Steps p.tables e below (s₁.setTop (mkF m 0 #[.val (.ref r0)] [])) t → Steps p.tables e below (s₁.setTop (entryFrame m #[(.ref r0)] 1)) t := fun t k => castTop (by first | (simp [entryFrame, mkF, argsToLocals, Value.category]; done) | rfl) k
  obtain ⟨T2, X2, e2, st2⟩ := getF X0 hx hZ hown (host := "") (Or.inl (ww hw 159 rfl)) Via.refl e0 f1 (g := (mkF m 1 #[.val (.ref r0)] [(.ref r0)])) rfl rfl (hb hby d30_1)
  obtain ⟨fs, hr, hrun, hended, hW, hsame⟩ := X2.leave (v := some (.ref r1)) (fun h => by rw [Bd.returns] at h; cases h)
  refine ⟨_, _, pre0 _ ?_, hrun, hended, _, _, rfl, ?_, ⟨_, rfl⟩, hW, hsame.mono (by decide) (by decide)⟩
  · show Steps p.tables e below (s₁.setTop (mkF m 0 #[.val (.ref r0)] [])) _
    refine XS.aloadN X0.here hx rfl (hb hby d30_0) rfl rfl ?_
    refine st2 _ ?_
    show Steps p.tables e below (T2.setTop (mkF m 4 #[.val (.ref r0)] [(.ref r1)])) _
    exact retOut X2 hx (i := .areturn) Bd.returns rfl (Or.inr (Or.inr (Or.inr (Or.inr ⟨rfl, rfl, rfl⟩)))) (hb hby d30_4) hr
  · show Q30_1 Z r0 r1 h0 n0 _ T2.heap _
    rw [e2]
    exact ⟨rfl, N0, rfl⟩
theorem d31_0 : decode method_3_code 0 = .ok (.iload_n 0, 1) := by decide +kernel
theorem d31_1 : decode method_3_code 1 = .ok (.ldc 42, 2) := by decide +kernel
theorem d31_3 : decode method_3_code 3 = .ok (.if_icmp .lt 6, 3) := by decide +kernel
theorem d31_9 : decode method_3_code 9 = .ok (.iload_n 0, 1) := by decide +kernel
theorem d31_10 : decode method_3_code 10 = .ok (.ldc 41, 2) := by decide +kernel
theorem d31_12 : decode method_3_code 12 = .ok (.if_icmp .lt 6, 3) := by decide +kernel
theorem d31_18 : decode method_3_code 18 = .ok (.iload_n 0, 1) := by decide +kernel
theorem d31_19 : decode method_3_code 19 = .ok (.ldc 40, 2) := by decide +kernel
theorem d31_21 : decode method_3_code 21 = .ok (.if_icmp .lt 6, 3) := by decide +kernel
theorem d31_27 : decode method_3_code 27 = .ok (.iload_n 0, 1) := by decide +kernel
theorem d31_28 : decode method_3_code 28 = .ok (.ldc 39, 2) := by decide +kernel
theorem d31_30 : decode method_3_code 30 = .ok (.if_icmp .lt 6, 3) := by decide +kernel
theorem d31_36 : decode method_3_code 36 = .ok (.iload_n 0, 1) := by decide +kernel
theorem d31_37 : decode method_3_code 37 = .ok (.ldc 38, 2) := by decide +kernel
theorem d31_39 : decode method_3_code 39 = .ok (.if_icmp .lt 6, 3) := by decide +kernel
theorem d31_45 : decode method_3_code 45 = .ok (.iload_n 0, 1) := by decide +kernel
theorem d31_46 : decode method_3_code 46 = .ok (.sipush 10000, 3) := by decide +kernel
theorem d31_49 : decode method_3_code 49 = .ok (.if_icmp .lt 5, 3) := by decide +kernel
theorem d31_54 : decode method_3_code 54 = .ok (.iload_n 0, 1) := by decide +kernel
theorem d31_55 : decode method_3_code 55 = .ok (.sipush 1000, 3) := by decide +kernel
theorem d31_58 : decode method_3_code 58 = .ok (.if_icmp .lt 5, 3) := by decide +kernel
theorem d31_63 : decode method_3_code 63 = .ok (.iload_n 0, 1) := by decide +kernel
theorem d31_64 : decode method_3_code 64 = .ok (.bipush 100, 2) := by decide +kernel
theorem d31_66 : decode method_3_code 66 = .ok (.if_icmp .lt 5, 3) := by decide +kernel
theorem d31_71 : decode method_3_code 71 = .ok (.iload_n 0, 1) := by decide +kernel
theorem d31_72 : decode method_3_code 72 = .ok (.bipush 10, 2) := by decide +kernel
theorem d31_74 : decode method_3_code 74 = .ok (.if_icmp .lt 5, 3) := by decide +kernel
theorem d31_79 : decode method_3_code 79 = .ok (.iconst 1, 1) := by decide +kernel
theorem d31_80 : decode method_3_code 80 = .ok (.ireturn, 1) := by decide +kernel
theorem pn_com_example_manojo_manojo_ParameterPositionalPinLaw : plainName cs9 = true := by first | (simp [plainName, overriddenIn]; done) | decide +kernel
def Q31_1 (Z : State) (x0 : Int32) (h0 : Heap) (n0 : Nat) (v : Option Value) (h : Heap) (L : List Loc) : Prop := v = some (.int (1 : Int32)) ∧ Fr n0 L ∧ h = h0
set_option maxRecDepth 65536 in
set_option maxHeartbeats 40000000 in
theorem rm31_1 (l : Launch) (Z : State) (a0 : Array Value) (hw : ∀ d ∈ tables_1, d.before a0 Z = true) (ws : List Jvm.Cond) (x0 : Int32) (h0 : Heap) (n0 : Nat) (O0 : Old Z n0 h0) (hc1 : x0 < (1000000000 : Int32)) (hc2 : x0 < (100000000 : Int32)) (hc3 : x0 < (10000000 : Int32)) (hc4 : x0 < (1000000 : Int32)) (hc5 : x0 < (100000 : Int32)) (hc6 : x0 < (10000 : Int32)) (hc7 : x0 < (1000 : Int32)) (hc8 : x0 < (100 : Int32)) (hc9 : x0 < (10 : Int32)) :
    MetFree l (⟨cs9, "digits", "(I)I"⟩ : MethodName) (head1 (Jvm.Cond.code (⟨cs9, "digits", "(I)I"⟩ : MethodName) method_3_code 1 (some .int) :: ws) ({ frames := 0, cells := 0, slots := 0, locals := 0 } : Room)) (fun a U => a = #[(.int x0)] ∧ Z.Warmed39 U.vm ∧ U.heap = h0) (fun _ _ _ _ _ => True) (fun _ U o U' => ∃ v L, o = .returned v ∧ Q31_1 Z x0 h0 n0 v U'.heap L ∧ FrameEnd U o U' L ({ frames := 0, cells := 0, slots := 0, locals := 0 } : Room).cells ({ frames := 0, cells := 0, slots := 0, locals := 0 } : Room).slots) := by
  refine MetFree.of_bodySF (plainFor_of_name pn_com_example_manojo_manojo_ParameterPositionalPinLaw) hisR ?_
  intro p e s m args below meth c s₁ Bd hml0 hP hK
  obtain ⟨rfl, hZ, hh⟩ := hP
  have hx := Bd.exec
  have hby := Bd.bytes
  have hml : c.maxLocals = 1 := hml0
  have hown : s.vm.findClass cs9 = some m.cls := findClass_of_methodNamed Bd.named
  have hnm := (name_of_methodNamed Bd.named Bd.method).1
  have X0 : Stand p l e ({ frames := 0, cells := 0, slots := 0, locals := 0 } : Room) s m #[(.int x0)] below meth c s₁ [] 0 0 := Stand.of_body Bd
  have e0 : s₁.heap = h0 := by rw [← hh, Bd.state]; rfl
  have N0 := Fr.nil n0
  have pre0 : ∀ t, Steps p.tables e below (s₁.setTop (mkF m 0 #[.val (.int x0)] [])) t → Steps p.tables e below (s₁.setTop (entryFrame m #[(.int x0)] 1)) t := fun t k => castTop (by first | (simp [entryFrame, mkF, argsToLocals, Value.category]; done) | rfl) k
  obtain ⟨fs, hr, hrun, hended, hW, hsame⟩ := X0.leave (v := some (.int (1 : Int32))) (fun h => by rw [Bd.returns] at h; cases h)
  refine ⟨_, _, pre0 _ ?_, hrun, hended, _, _, rfl, ?_, ⟨_, rfl⟩, hW, hsame.mono (by decide) (by decide)⟩
  · show Steps p.tables e below (s₁.setTop (mkF m 0 #[.val (.int x0)] [])) _
    refine XS.iloadN X0.here hx rfl (hb hby d31_0) rfl ?_
    refine X0.ldcInt hx hown (mvT hZ (ww hw 170 rfl)) (g := (mkF m 1 #[.val (.int x0)] [(.int x0)])) rfl (hb hby d31_1) _ ?_
    show Steps p.tables e below (s₁.setTop (mkF m 3 #[.val (.int x0)] [(.int (1000000000 : Int32)), (.int x0)])) _
    refine XS.icmpYes X0.here hx rfl (pc0 := 3) (pc' := 9) rfl (hb hby d31_3) rfl (tlt hc1).1 (by decide) (by decide) ?_
    show Steps p.tables e below (s₁.setTop (mkF m 9 #[.val (.int x0)] [])) _
    refine XS.iloadN X0.here hx rfl (hb hby d31_9) rfl ?_
    refine X0.ldcInt hx hown (mvT hZ (ww hw 171 rfl)) (g := (mkF m 10 #[.val (.int x0)] [(.int x0)])) rfl (hb hby d31_10) _ ?_
    show Steps p.tables e below (s₁.setTop (mkF m 12 #[.val (.int x0)] [(.int (100000000 : Int32)), (.int x0)])) _
    refine XS.icmpYes X0.here hx rfl (pc0 := 12) (pc' := 18) rfl (hb hby d31_12) rfl (tlt hc2).1 (by decide) (by decide) ?_
    show Steps p.tables e below (s₁.setTop (mkF m 18 #[.val (.int x0)] [])) _
    refine XS.iloadN X0.here hx rfl (hb hby d31_18) rfl ?_
    refine X0.ldcInt hx hown (mvT hZ (ww hw 172 rfl)) (g := (mkF m 19 #[.val (.int x0)] [(.int x0)])) rfl (hb hby d31_19) _ ?_
    show Steps p.tables e below (s₁.setTop (mkF m 21 #[.val (.int x0)] [(.int (10000000 : Int32)), (.int x0)])) _
    refine XS.icmpYes X0.here hx rfl (pc0 := 21) (pc' := 27) rfl (hb hby d31_21) rfl (tlt hc3).1 (by decide) (by decide) ?_
    show Steps p.tables e below (s₁.setTop (mkF m 27 #[.val (.int x0)] [])) _
    refine XS.iloadN X0.here hx rfl (hb hby d31_27) rfl ?_
    refine X0.ldcInt hx hown (mvT hZ (ww hw 173 rfl)) (g := (mkF m 28 #[.val (.int x0)] [(.int x0)])) rfl (hb hby d31_28) _ ?_
    show Steps p.tables e below (s₁.setTop (mkF m 30 #[.val (.int x0)] [(.int (1000000 : Int32)), (.int x0)])) _
    refine XS.icmpYes X0.here hx rfl (pc0 := 30) (pc' := 36) rfl (hb hby d31_30) rfl (tlt hc4).1 (by decide) (by decide) ?_
    show Steps p.tables e below (s₁.setTop (mkF m 36 #[.val (.int x0)] [])) _
    refine XS.iloadN X0.here hx rfl (hb hby d31_36) rfl ?_
    refine X0.ldcInt hx hown (mvT hZ (ww hw 174 rfl)) (g := (mkF m 37 #[.val (.int x0)] [(.int x0)])) rfl (hb hby d31_37) _ ?_
    show Steps p.tables e below (s₁.setTop (mkF m 39 #[.val (.int x0)] [(.int (100000 : Int32)), (.int x0)])) _
    refine XS.icmpYes X0.here hx rfl (pc0 := 39) (pc' := 45) rfl (hb hby d31_39) rfl (tlt hc5).1 (by decide) (by decide) ?_
    show Steps p.tables e below (s₁.setTop (mkF m 45 #[.val (.int x0)] [])) _
    refine XS.iloadN X0.here hx rfl (hb hby d31_45) rfl ?_
    refine XS.sipush X0.here hx rfl (hb hby d31_46) ?_
    refine XS.icmpYes X0.here hx rfl (pc0 := 49) (pc' := 54) rfl (hb hby d31_49) rfl (tlt hc6).1 (by decide) (by decide) ?_
    show Steps p.tables e below (s₁.setTop (mkF m 54 #[.val (.int x0)] [])) _
    refine XS.iloadN X0.here hx rfl (hb hby d31_54) rfl ?_
    refine XS.sipush X0.here hx rfl (hb hby d31_55) ?_
    refine XS.icmpYes X0.here hx rfl (pc0 := 58) (pc' := 63) rfl (hb hby d31_58) rfl (tlt hc7).1 (by decide) (by decide) ?_
    show Steps p.tables e below (s₁.setTop (mkF m 63 #[.val (.int x0)] [])) _
    refine XS.iloadN X0.here hx rfl (hb hby d31_63) rfl ?_
    refine XS.bipush X0.here hx rfl (hb hby d31_64) ?_
    refine XS.icmpYes X0.here hx rfl (pc0 := 66) (pc' := 71) rfl (hb hby d31_66) rfl (tlt hc8).1 (by decide) (by decide) ?_
    show Steps p.tables e below (s₁.setTop (mkF m 71 #[.val (.int x0)] [])) _
    refine XS.iloadN X0.here hx rfl (hb hby d31_71) rfl ?_
    refine XS.bipush X0.here hx rfl (hb hby d31_72) ?_
    refine XS.icmpYes X0.here hx rfl (pc0 := 74) (pc' := 79) rfl (hb hby d31_74) rfl (tlt hc9).1 (by decide) (by decide) ?_
    show Steps p.tables e below (s₁.setTop (mkF m 79 #[.val (.int x0)] [])) _
    refine XS.iconst X0.here hx rfl (hb hby d31_79) ?_
    exact retOut X0 hx (i := .ireturn) Bd.returns rfl (Or.inl ⟨rfl, Or.inl rfl, _, rfl⟩) (hb hby d31_80) hr
  · show Q31_1 Z x0 h0 n0 _ s₁.heap _
    rw [e0]
    exact ⟨rfl, N0, rfl⟩
theorem pd__I_I : parseMethodDescriptor "(I)I" = some ⟨[.int], some .int⟩ := by decide +kernel
theorem d32_0 : decode jdk_42_method_56_code 0 = .ok (.aload_n 0, 1) := by decide +kernel
theorem d32_1 : decode jdk_42_method_56_code 1 = .ok (.invokevirtual 492, 3) := by decide +kernel
theorem d33_0 : decode jdk_42_method_154_code 0 = .ok (.getstatic 38, 3) := by decide +kernel
theorem d33_3 : decode jdk_42_method_154_code 3 = .ok (.ifCond .eq 14, 3) := by decide +kernel
theorem d33_6 : decode jdk_42_method_154_code 6 = .ok (.aload_n 0, 1) := by decide +kernel
theorem d33_7 : decode jdk_42_method_154_code 7 = .ok (.getfield 15, 3) := by decide +kernel
theorem d33_10 : decode jdk_42_method_154_code 10 = .ok (.ifCond .ne 7, 3) := by decide +kernel
theorem d33_13 : decode jdk_42_method_154_code 13 = .ok (.iconst 1, 1) := by decide +kernel
theorem d33_14 : decode jdk_42_method_154_code 14 = .ok (.goto 4, 3) := by decide +kernel
theorem d33_18 : decode jdk_42_method_154_code 18 = .ok (.ireturn, 1) := by decide +kernel
def Q33_1 (Z : State) (r0 : Addr) (x1 : Int32) (x2 : Int32) (h0 : Heap) (n0 : Nat) (v : Option Value) (h : Heap) (L : List Loc) : Prop := v = some (.int (1 : Int32)) ∧ Fr n0 L ∧ h = h0
set_option maxRecDepth 65536 in
set_option maxHeartbeats 40000000 in
theorem rm33_1 (l : Launch) (Z : State) (a0 : Array Value) (hw : ∀ d ∈ tables_1, d.before a0 Z = true) (ws : List Jvm.Cond) (r0 : Addr) (x1 : Int32) (x2 : Int32) (h0 : Heap) (n0 : Nat) (O0 : Old Z n0 h0) (f1 : Sta Z Z.heap "java/lang/String" "COMPACT_STRINGS" "Z" (.int x1)) (hc4 : ¬ (x1 = (0 : Int32))) (f5 : Fld Z h0 r0 "java/lang/String" "coder" "B" (.int x2)) (hc7 : x2 = (0 : Int32)) :
    MetFree l (⟨"java/lang/String", "isLatin1", "()Z"⟩ : MethodName) (head1 (Jvm.Cond.code (⟨"java/lang/String", "isLatin1", "()Z"⟩ : MethodName) jdk_42_method_154_code 1 (some .boolean) :: ws) ({ frames := 0, cells := 0, slots := 0, locals := 0 } : Room)) (fun a U => a = #[(.ref r0)] ∧ Z.Warmed39 U.vm ∧ U.heap = h0) (fun _ _ _ _ _ => True) (fun _ U o U' => ∃ v L, o = .returned v ∧ Q33_1 Z r0 x1 x2 h0 n0 v U'.heap L ∧ FrameEnd U o U' L ({ frames := 0, cells := 0, slots := 0, locals := 0 } : Room).cells ({ frames := 0, cells := 0, slots := 0, locals := 0 } : Room).slots) := by
  refine MetFree.of_bodySF (plainFor_of_name pn_java_lang_String) hisR ?_
  intro p e s m args below meth c s₁ Bd hml0 hP hK
  obtain ⟨rfl, hZ, hh⟩ := hP
  have hx := Bd.exec
  have hby := Bd.bytes
  have hml : c.maxLocals = 1 := hml0
  have hown : s.vm.findClass "java/lang/String" = some m.cls := findClass_of_methodNamed Bd.named
  have hnm := (name_of_methodNamed Bd.named Bd.method).1
  have X0 : Stand p l e ({ frames := 0, cells := 0, slots := 0, locals := 0 } : Room) s m #[(.ref r0)] below meth c s₁ [] 0 0 := Stand.of_body Bd
  have e0 : s₁.heap = h0 := by rw [← hh, Bd.state]; rfl
  have N0 := Fr.nil n0
  have pre0 : ∀ t, Steps p.tables e below (s₁.setTop (mkF m 0 #[.val (.ref r0)] [])) t → Steps p.tables e below (s₁.setTop (entryFrame m #[(.ref r0)] 1)) t := fun t k => castTop (by first | (simp [entryFrame, mkF, argsToLocals, Value.category]; done) | rfl) k
  have f2 := f1.ext O0.2
  obtain ⟨T3, X3, e3, st3⟩ := getS2 X0 hx hZ hown (host := "") (Or.inl (ww hw 56 rfl)) Via.refl e0 f2 (g := (mkF m 0 #[.val (.ref r0)] [])) rfl (hb hby d33_0)
  obtain ⟨T6, X6, e6, st6⟩ := getF X3 hx hZ hown (host := "") (Or.inl (ww hw 57 rfl)) Via.refl e3 f5 (g := (mkF m 7 #[.val (.ref r0)] [(.ref r0)])) rfl rfl (hb hby d33_7)
  obtain ⟨fs, hr, hrun, hended, hW, hsame⟩ := X6.leave (v := some (.int (1 : Int32))) (fun h => by rw [Bd.returns] at h; cases h)
  refine ⟨_, _, pre0 _ ?_, hrun, hended, _, _, rfl, ?_, ⟨_, rfl⟩, hW, hsame.mono (by decide) (by decide)⟩
  · show Steps p.tables e below (s₁.setTop (mkF m 0 #[.val (.ref r0)] [])) _
    refine st3 _ ?_
    show Steps p.tables e below (T3.setTop (mkF m 3 #[.val (.ref r0)] [(.int x1)])) _
    refine XS.ifNo X3.here hx rfl (hb hby d33_3) rfl ((if0 _ _).trans (feq hc4).1) ?_
    refine XS.aloadN X3.here hx rfl (hb hby d33_6) rfl rfl ?_
    refine st6 _ ?_
    show Steps p.tables e below (T6.setTop (mkF m 10 #[.val (.ref r0)] [(.int x2)])) _
    refine XS.ifNo X6.here hx rfl (hb hby d33_10) rfl ((if0 _ _).trans (teq hc7).2) ?_
    refine XS.iconst X6.here hx rfl (hb hby d33_13) ?_
    refine XS.goto X6.here hx rfl (pc0 := 14) (pc' := 18) rfl (hb hby d33_14) (by decide) (by decide) ?_
    show Steps p.tables e below (T6.setTop (mkF m 18 #[.val (.ref r0)] [(.int (1 : Int32))])) _
    exact retN X6 hx (t := .boolean) Bd.returns (by simp) (hb hby d33_18) hr
  · show Q33_1 Z r0 x1 x2 h0 n0 _ T6.heap _
    rw [e6]
    exact ⟨rfl, N0, rfl⟩
theorem d32_4 : decode jdk_42_method_56_code 4 = .ok (.ifCond .eq 12, 3) := by decide +kernel
theorem d32_7 : decode jdk_42_method_56_code 7 = .ok (.aload_n 0, 1) := by decide +kernel
theorem d32_8 : decode jdk_42_method_56_code 8 = .ok (.getfield 9, 3) := by decide +kernel
theorem d32_11 : decode jdk_42_method_56_code 11 = .ok (.iload_n 1, 1) := by decide +kernel
theorem d32_12 : decode jdk_42_method_56_code 12 = .ok (.invokestatic 495, 3) := by decide +kernel
theorem d34_0 : decode jdk_43_method_2_code 0 = .ok (.iload_n 1, 1) := by decide +kernel
theorem d34_1 : decode jdk_43_method_2_code 1 = .ok (.aload_n 0, 1) := by decide +kernel
theorem d34_2 : decode jdk_43_method_2_code 2 = .ok (.arraylength, 1) := by decide +kernel
theorem d34_3 : decode jdk_43_method_2_code 3 = .ok (.invokestatic 9, 3) := by decide +kernel
theorem d35_0 : decode jdk_42_method_155_code 0 = .ok (.iload_n 0, 1) := by decide +kernel
theorem d35_1 : decode jdk_42_method_155_code 1 = .ok (.iload_n 1, 1) := by decide +kernel
theorem d35_2 : decode jdk_42_method_155_code 2 = .ok (.getstatic 1053, 3) := by decide +kernel
theorem d35_5 : decode jdk_42_method_155_code 5 = .ok (.invokestatic 1059, 3) := by decide +kernel
theorem d36_0 : decode jdk_41_method_11_code 0 = .ok (.iload_n 0, 1) := by decide +kernel
theorem d36_1 : decode jdk_41_method_11_code 1 = .ok (.ifCond .lt 8, 3) := by decide +kernel
theorem d36_4 : decode jdk_41_method_11_code 4 = .ok (.iload_n 0, 1) := by decide +kernel
theorem d36_5 : decode jdk_41_method_11_code 5 = .ok (.iload_n 1, 1) := by decide +kernel
theorem d36_6 : decode jdk_41_method_11_code 6 = .ok (.if_icmp .lt 10, 3) := by decide +kernel
theorem d36_16 : decode jdk_41_method_11_code 16 = .ok (.iload_n 0, 1) := by decide +kernel
theorem d36_17 : decode jdk_41_method_11_code 17 = .ok (.ireturn, 1) := by decide +kernel
theorem own_catR {v : Value} (h : v.isRef = true) : v = .null ∨ ∃ a, v = .ref a := by cases v <;> simp [Value.isRef] at h ⊢
theorem pn_jdk_internal_util_Preconditions : plainName cs10 = true := by first | (simp [plainName, overriddenIn]; done) | decide +kernel
def Q36_1 (Z : State) (x0 : Int32) (x1 : Int32) (u2 : Value) (h0 : Heap) (n0 : Nat) (v : Option Value) (h : Heap) (L : List Loc) : Prop := v = some (.int x0) ∧ Fr n0 L ∧ h = h0
set_option maxRecDepth 65536 in
set_option maxHeartbeats 40000000 in
theorem rm36_1 (l : Launch) (Z : State) (a0 : Array Value) (hw : ∀ d ∈ tables_1, d.before a0 Z = true) (ws : List Jvm.Cond) (x0 : Int32) (x1 : Int32) (u2 : Value) (h0 : Heap) (n0 : Nat) (O0 : Old Z n0 h0) (hc1 : u2.isRef = true) (hc2 : ¬ (x0 < (0 : Int32))) (hc3 : x0 < x1) :
    MetFree l (⟨cs10, "checkIndex", cs11⟩ : MethodName) (head1 (Jvm.Cond.code (⟨cs10, "checkIndex", cs11⟩ : MethodName) jdk_41_method_11_code 3 (some .int) :: ws) ({ frames := 0, cells := 0, slots := 0, locals := 0 } : Room)) (fun a U => a = #[(.int x0), (.int x1), u2] ∧ Z.Warmed39 U.vm ∧ U.heap = h0) (fun _ _ _ _ _ => True) (fun _ U o U' => ∃ v L, o = .returned v ∧ Q36_1 Z x0 x1 u2 h0 n0 v U'.heap L ∧ FrameEnd U o U' L ({ frames := 0, cells := 0, slots := 0, locals := 0 } : Room).cells ({ frames := 0, cells := 0, slots := 0, locals := 0 } : Room).slots) := by
  refine MetFree.of_bodySF (plainFor_of_name pn_jdk_internal_util_Preconditions) hisR ?_
  intro p e s m args below meth c s₁ Bd hml0 hP hK
  obtain ⟨rfl, hZ, hh⟩ := hP
  have hx := Bd.exec
  have hby := Bd.bytes
  have hml : c.maxLocals = 3 := hml0
  have hown : s.vm.findClass cs10 = some m.cls := findClass_of_methodNamed Bd.named
  have hnm := (name_of_methodNamed Bd.named Bd.method).1
  have X0 : Stand p l e ({ frames := 0, cells := 0, slots := 0, locals := 0 } : Room) s m #[(.int x0), (.int x1), u2] below meth c s₁ [] 0 0 := Stand.of_body Bd
  have e0 : s₁.heap = h0 := by rw [← hh, Bd.state]; rfl
  have N0 := Fr.nil n0
  have pre0 : ∀ t, Steps p.tables e below (s₁.setTop (mkF m 0 #[.val (.int x0), .val (.int x1), .val u2] [])) t → Steps p.tables e below (s₁.setTop (entryFrame m #[(.int x0), (.int x1), u2] 3)) t := fun t k => castTop (by rcases own_catR hc1 with q | ⟨_, q⟩ <;> rw [q] <;> first | (simp [entryFrame, mkF, argsToLocals, Value.category]; done) | rfl) k
  obtain ⟨fs, hr, hrun, hended, hW, hsame⟩ := X0.leave (v := some (.int x0)) (fun h => by rw [Bd.returns] at h; cases h)
  refine ⟨_, _, pre0 _ ?_, hrun, hended, _, _, rfl, ?_, ⟨_, rfl⟩, hW, hsame.mono (by decide) (by decide)⟩
  · show Steps p.tables e below (s₁.setTop (mkF m 0 #[.val (.int x0), .val (.int x1), .val u2] [])) _
    refine XS.iloadN X0.here hx rfl (hb hby d36_0) rfl ?_
    refine XS.ifNo X0.here hx rfl (hb hby d36_1) rfl ((if0 _ _).trans (flt hc2).1) ?_
    refine XS.iloadN X0.here hx rfl (hb hby d36_4) rfl ?_
    refine XS.iloadN X0.here hx rfl (hb hby d36_5) rfl ?_
    show Steps p.tables e below (s₁.setTop (mkF m 6 #[.val (.int x0), .val (.int x1), .val u2] [(.int x1), (.int x0)])) _
    refine XS.icmpYes X0.here hx rfl (pc0 := 6) (pc' := 16) rfl (hb hby d36_6) rfl (tlt hc3).1 (by decide) (by decide) ?_
    show Steps p.tables e below (s₁.setTop (mkF m 16 #[.val (.int x0), .val (.int x1), .val u2] [])) _
    refine XS.iloadN X0.here hx rfl (hb hby d36_16) rfl ?_
    exact retOut X0 hx (i := .ireturn) Bd.returns rfl (Or.inl ⟨rfl, Or.inl rfl, _, rfl⟩) (hb hby d36_17) hr
  · show Q36_1 Z x0 x1 u2 h0 n0 _ s₁.heap _
    rw [e0]
    exact ⟨rfl, N0, rfl⟩
theorem pd__IILjava_util_function_BiFunction__I : parseMethodDescriptor cs11 = some ⟨[.int, .int, (.object "java/util/function/BiFunction")], some .int⟩ := by decide +kernel
theorem d35_8 : decode jdk_42_method_155_code 8 = .ok (.pop, 1) := by decide +kernel
theorem d35_9 : decode jdk_42_method_155_code 9 = .ok (.return_, 1) := by decide +kernel
def Q35_1 (Z : State) (x0 : Int32) (x1 : Int32) (u2 : Value) (h0 : Heap) (n0 : Nat) (v : Option Value) (h : Heap) (L : List Loc) : Prop := v = none ∧ Fr n0 L ∧ h = h0
set_option maxRecDepth 65536 in
set_option maxHeartbeats 40000000 in
theorem rm35_1 (l : Launch) (Z : State) (a0 : Array Value) (hw : ∀ d ∈ tables_1, d.before a0 Z = true) (ws : List Jvm.Cond) (x0 : Int32) (x1 : Int32) (u2 : Value) (h0 : Heap) (n0 : Nat) (O0 : Old Z n0 h0) (f1 : Sta Z Z.heap cs10 "SIOOBE_FORMATTER" cs12 u2) (hc4 : u2.isRef = true) (hc5 : ¬ (x0 < (0 : Int32))) (hc6 : x0 < x1) :
    MetFree l (⟨"java/lang/String", "checkIndex", "(II)V"⟩ : MethodName) (head1 (Jvm.Cond.code (⟨"java/lang/String", "checkIndex", "(II)V"⟩ : MethodName) jdk_42_method_155_code 2 none :: ws) ({ frames := 1, cells := 0, slots := 0, locals := 14 } : Room)) (fun a U => a = #[(.int x0), (.int x1)] ∧ Z.Warmed39 U.vm ∧ U.heap = h0) (fun _ _ _ _ _ => True) (fun _ U o U' => ∃ v L, o = .returned v ∧ Q35_1 Z x0 x1 u2 h0 n0 v U'.heap L ∧ FrameEnd U o U' L ({ frames := 1, cells := 0, slots := 0, locals := 14 } : Room).cells ({ frames := 1, cells := 0, slots := 0, locals := 14 } : Room).slots) := by
  refine MetFree.of_bodySF (plainFor_of_name pn_java_lang_String) hisR ?_
  intro p e s m args below meth c s₁ Bd hml0 hP hK
  obtain ⟨rfl, hZ, hh⟩ := hP
  have hx := Bd.exec
  have hby := Bd.bytes
  have hml : c.maxLocals = 2 := hml0
  have hown : s.vm.findClass "java/lang/String" = some m.cls := findClass_of_methodNamed Bd.named
  have hnm := (name_of_methodNamed Bd.named Bd.method).1
  have X0 : Stand p l e ({ frames := 1, cells := 0, slots := 0, locals := 14 } : Room) s m #[(.int x0), (.int x1)] below meth c s₁ [] 0 0 := Stand.of_body Bd
  have e0 : s₁.heap = h0 := by rw [← hh, Bd.state]; rfl
  have N0 := Fr.nil n0
  have pre0 : ∀ t, Steps p.tables e below (s₁.setTop (mkF m 0 #[.val (.int x0), .val (.int x1)] [])) t → Steps p.tables e below (s₁.setTop (entryFrame m #[(.int x0), (.int x1)] 2)) t := fun t k => castTop (by first | (simp [entryFrame, mkF, argsToLocals, Value.category]; done) | rfl) k
  have f2 := f1.ext O0.2
  obtain ⟨T3, X3, e3, st3⟩ := getS2 X0 hx hZ hown (host := "") (Or.inl (ww hw 193 rfl)) Via.refl e0 f2 (g := (mkF m 2 #[.val (.int x0), .val (.int x1)] [(.int x1), (.int x0)])) rfl (hb hby d35_2)
  obtain ⟨_, _, ⟨T7, L7, k7, n7⟩, -, X7, ⟨Lc7, hQ7, l7, y7, z7⟩, st7⟩ := Jvm.LawKit.callS X3 hx (y := (⟨cs10, "checkIndex", cs11⟩ : MethodName)) hown (mvT hZ (ww hw 195 rfl)) (mvT hZ (ww hw 196 rfl)) (mvT hZ (ww hw 194 rfl)) (mvT hZ (ww hw 197 rfl)) (by decide) (backOf (W := 0) (rm36_1 l Z a0 hw [] x0 x1 u2 h0 n0 O0 hc4 hc5 hc6) hZ (ww hw 197 rfl) (ww hw 194 rfl) (by decide) (by decide)) (g := (mkF m 5 #[.val (.int x0), .val (.int x1)] [u2, (.int x1), (.int x0)])) rfl (by rw [hml]; rfl) (argsL := [(.int x0), (.int x1), u2]) (rest := []) (lenOf pd__IILjava_util_function_BiFunction__I rfl) rfl (by show 2 * 0 + _ ≤ _; exact Nat.le_of_eq rfl) (hb hby d35_5) (fun _ _ => ⟨rfl, e3, (by decide : 0 + 0 ≤ _), (by decide : 0 + 0 ≤ _)⟩)
  dsimp only [Pt.U, Pt.locs, Pt.cells, Pt.slots] at X7 l7 y7 z7 st7 hQ7
  subst l7 y7 z7
  obtain ⟨rfl, N7q, E7⟩ := hQ7
  have N7 := Fr.app N0 N7q
  obtain ⟨fs, hr, hrun, hended, hW, hsame⟩ := X7.leave (v := none) (fun _ => rfl)
  refine ⟨_, _, pre0 _ ?_, hrun, hended, _, _, rfl, ?_, ⟨_, rfl⟩, hW, hsame.mono (by decide) (by decide)⟩
  · show Steps p.tables e below (s₁.setTop (mkF m 0 #[.val (.int x0), .val (.int x1)] [])) _
    refine XS.iloadN X0.here hx rfl (hb hby d35_0) rfl ?_
    refine XS.iloadN X0.here hx rfl (hb hby d35_1) rfl ?_
    refine st3 _ ?_
    show Steps p.tables e below (T3.setTop (mkF m 5 #[.val (.int x0), .val (.int x1)] [u2, (.int x1), (.int x0)])) _
    refine st7 _ ?_
    show Steps p.tables e below (T7.setTop (mkF m 8 #[.val (.int x0), .val (.int x1)] [(.int x0)])) _
    refine XS.pop X7.here hx rfl (hb hby d35_8) rfl rfl ?_
    exact X7.returnOut hx Bd.returns (hb hby d35_9) hr
  · show Q35_1 Z x0 x1 u2 h0 n0 _ T7.heap _
    rw [E7]
    exact ⟨rfl, N7, rfl⟩
theorem d34_6 : decode jdk_43_method_2_code 6 = .ok (.aload_n 0, 1) := by decide +kernel
theorem d34_7 : decode jdk_43_method_2_code 7 = .ok (.iload_n 1, 1) := by decide +kernel
theorem d34_8 : decode jdk_43_method_2_code 8 = .ok (.baload, 1) := by decide +kernel
theorem d34_9 : decode jdk_43_method_2_code 9 = .ok (.sipush 255, 3) := by decide +kernel
theorem d34_12 : decode jdk_43_method_2_code 12 = .ok (.iand, 1) := by decide +kernel
theorem d34_13 : decode jdk_43_method_2_code 13 = .ok (.i2c, 1) := by decide +kernel
theorem d34_14 : decode jdk_43_method_2_code 14 = .ok (.ireturn, 1) := by decide +kernel
theorem pn_java_lang_StringLatin1 : plainName "java/lang/StringLatin1" = true := by first | (simp [plainName, overriddenIn]; done) | decide +kernel
def Q34_1 (Z : State) (r0 : Addr) (x1 : Int32) (x2 : Int32) (c3 : ClassId) (t4 : List Value) (u5 : Value) (x6 : Int32) (h0 : Heap) (n0 : Nat) (v : Option Value) (h : Heap) (L : List Loc) : Prop := v = some (.int (nar .char ((x6 &&& (255 : Int32)).toUInt32.toUInt16.toUInt32.toInt32))) ∧ Fr n0 L ∧ h = h0
set_option maxRecDepth 65536 in
set_option maxHeartbeats 40000000 in
theorem rm34_1 (l : Launch) (Z : State) (a0 : Array Value) (hw : ∀ d ∈ tables_1, d.before a0 Z = true) (ws : List Jvm.Cond) (r0 : Addr) (x1 : Int32) (x2 : Int32) (c3 : ClassId) (t4 : List Value) (u5 : Value) (x6 : Int32) (h0 : Heap) (n0 : Nat) (O0 : Old Z n0 h0) (f1 : Arv Z h0 r0 c3 .byte x2 t4 (.int (0 : Int32))) (f3 : Sta Z Z.heap cs10 "SIOOBE_FORMATTER" cs12 u5) (hc4 : u5.isRef = true) (hc5 : ¬ (x1 < (0 : Int32))) (hc6 : x1 < x2) (he9 : t4.getD (x1).toNatClampNeg (.int (0 : Int32)) = (.int x6)) :
    MetFree l (⟨"java/lang/StringLatin1", "charAt", "([BI)C"⟩ : MethodName) (head1 (Jvm.Cond.code (⟨"java/lang/StringLatin1", "charAt", "([BI)C"⟩ : MethodName) jdk_43_method_2_code 2 (some .char) :: ws) ({ frames := 2, cells := 0, slots := 0, locals := 27 } : Room)) (fun a U => a = #[(.ref r0), (.int x1)] ∧ Z.Warmed39 U.vm ∧ U.heap = h0) (fun _ _ _ _ _ => True) (fun _ U o U' => ∃ v L, o = .returned v ∧ Q34_1 Z r0 x1 x2 c3 t4 u5 x6 h0 n0 v U'.heap L ∧ FrameEnd U o U' L ({ frames := 2, cells := 0, slots := 0, locals := 27 } : Room).cells ({ frames := 2, cells := 0, slots := 0, locals := 27 } : Room).slots) := by
  refine MetFree.of_bodySF (plainFor_of_name pn_java_lang_StringLatin1) hisR ?_
  intro p e s m args below meth c s₁ Bd hml0 hP hK
  obtain ⟨rfl, hZ, hh⟩ := hP
  have hx := Bd.exec
  have hby := Bd.bytes
  have hml : c.maxLocals = 2 := hml0
  have hown : s.vm.findClass "java/lang/StringLatin1" = some m.cls := findClass_of_methodNamed Bd.named
  have hnm := (name_of_methodNamed Bd.named Bd.method).1
  have X0 : Stand p l e ({ frames := 2, cells := 0, slots := 0, locals := 27 } : Room) s m #[(.ref r0), (.int x1)] below meth c s₁ [] 0 0 := Stand.of_body Bd
  have e0 : s₁.heap = h0 := by rw [← hh, Bd.state]; rfl
  have N0 := Fr.nil n0
  have pre0 : ∀ t, Steps p.tables e below (s₁.setTop (mkF m 0 #[.val (.ref r0), .val (.int x1)] [])) t → Steps p.tables e below (s₁.setTop (entryFrame m #[(.ref r0), (.int x1)] 2)) t := fun t k => castTop (by first | (simp [entryFrame, mkF, argsToLocals, Value.category]; done) | rfl) k
  obtain ⟨clq2, Arq2, qq2, Sq2, Nq2, Hq2, Gq2⟩ := id f1
  obtain ⟨_, _, ⟨T7, L7, k7, n7⟩, -, X7, ⟨Lc7, hQ7, l7, y7, z7⟩, st7⟩ := Jvm.LawKit.callS X0 hx (y := (⟨"java/lang/String", "checkIndex", "(II)V"⟩ : MethodName)) hown (mvT hZ (ww hw 190 rfl)) (mvT hZ (ww hw 191 rfl)) (mvT hZ (ww hw 23 rfl)) (mvT hZ (ww hw 192 rfl)) (by decide) (backOf (W := 0) (rm35_1 l Z a0 hw [] x1 x2 u5 h0 n0 O0 f3 hc4 hc5 hc6) hZ (ww hw 192 rfl) (ww hw 23 rfl) (by decide) (by decide)) (g := (mkF m 3 #[.val (.ref r0), .val (.int x1)] [(.int x2), (.int x1)])) rfl (by rw [hml]; rfl) (argsL := [(.int x1), (.int x2)]) (rest := []) (lenOf pd__II_V rfl) rfl (by show 2 * 0 + _ ≤ _; exact Nat.le_of_eq rfl) (hb hby d34_3) (fun _ _ => ⟨rfl, e0, (by decide : 0 + 0 ≤ _), (by decide : 0 + 0 ≤ _)⟩)
  dsimp only [Pt.U, Pt.locs, Pt.cells, Pt.slots] at X7 l7 y7 z7 st7 hQ7
  subst l7 y7 z7
  obtain ⟨rfl, N7q, E7⟩ := hQ7
  have N7 := Fr.app N0 N7q
  obtain ⟨clq8, Arq8, qq8, Sq8, Nq8, Hq8, Gq8⟩ := id f1
  obtain ⟨fs, hr, hrun, hended, hW, hsame⟩ := X7.leave (v := some (.int (nar .char ((x6 &&& (255 : Int32)).toUInt32.toUInt16.toUInt32.toInt32)))) (fun h => by rw [Bd.returns] at h; cases h)
  refine ⟨_, _, pre0 _ ?_, hrun, hended, _, _, rfl, ?_, ⟨_, rfl⟩, hW, hsame.mono (by decide) (by decide)⟩
  · show Steps p.tables e below (s₁.setTop (mkF m 0 #[.val (.ref r0), .val (.int x1)] [])) _
    refine XS.iloadN X0.here hx rfl (hb hby d34_0) rfl ?_
    refine XS.aloadN X0.here hx rfl (hb hby d34_1) rfl rfl ?_
    refine X0.arraylength hx (by rw [e0]; exact Arq2.1) (State.isArrayOf_alike hZ.alike Arq2.2.1) (g := (mkF m 2 #[.val (.ref r0), .val (.int x1)] [(.ref r0), (.int x1)])) rfl rfl (hb hby d34_2) _ ?_
    rw [len_of Sq2 Nq2]
    show Steps p.tables e below (s₁.setTop (mkF m 3 #[.val (.ref r0), .val (.int x1)] [(.int x2), (.int x1)])) _
    refine st7 _ ?_
    show Steps p.tables e below (T7.setTop (mkF m 6 #[.val (.ref r0), .val (.int x1)] [])) _
    refine XS.aloadN X7.here hx rfl (hb hby d34_6) rfl rfl ?_
    refine XS.iloadN X7.here hx rfl (hb hby d34_7) rfl ?_
    refine X7.baloadBytes hx (j := x1) (v := (.int x6)) (by rw [E7]; exact Arq8.1) (State.isArrayOf_alike hZ.alike Arq8.2.1) Arq8.2.2 (inb_of Sq8 ⟨hc5, hc6⟩) (Has.at Hq8 (inb_of Sq8 ⟨hc5, hc6⟩) he9) (g := (mkF m 8 #[.val (.ref r0), .val (.int x1)] [(.int x1), (.ref r0)])) rfl rfl (hb hby d34_8) _ ?_
    show Steps p.tables e below (T7.setTop (mkF m 9 #[.val (.ref r0), .val (.int x1)] [(.int x6)])) _
    refine XS.sipush X7.here hx rfl (hb hby d34_9) ?_
    refine XS.iand X7.here hx rfl (hb hby d34_12) rfl ?_
    refine XS.i2c X7.here hx rfl (hb hby d34_13) rfl ?_
    exact retN X7 hx (t := .char) Bd.returns (by simp) (hb hby d34_14) hr
  · show Q34_1 Z r0 x1 x2 c3 t4 u5 x6 h0 n0 _ T7.heap _
    rw [E7]
    exact ⟨rfl, N7, rfl⟩
theorem pd___BI_C : parseMethodDescriptor "([BI)C" = some ⟨[(.array .byte), .int], some .char⟩ := by decide +kernel
theorem d32_15 : decode jdk_42_method_56_code 15 = .ok (.ireturn, 1) := by decide +kernel
def Q32_1 (Z : State) (r0 : Addr) (x1 : Int32) (x2 : Int32) (x3 : Int32) (r4 : Addr) (x5 : Int32) (c6 : ClassId) (t7 : List Value) (u8 : Value) (x9 : Int32) (h0 : Heap) (n0 : Nat) (v : Option Value) (h : Heap) (L : List Loc) : Prop := v = some (.int (nar .char (nar .char ((x9 &&& (255 : Int32)).toUInt32.toUInt16.toUInt32.toInt32)))) ∧ Fr n0 L ∧ h = h0
set_option maxRecDepth 65536 in
set_option maxHeartbeats 40000000 in
theorem rm32_1 (l : Launch) (Z : State) (a0 : Array Value) (hw : ∀ d ∈ tables_1, d.before a0 Z = true) (ws : List Jvm.Cond) (r0 : Addr) (x1 : Int32) (x2 : Int32) (x3 : Int32) (r4 : Addr) (x5 : Int32) (c6 : ClassId) (t7 : List Value) (u8 : Value) (x9 : Int32) (h0 : Heap) (n0 : Nat) (O0 : Old Z n0 h0) (f1 : Exa Z h0 r0 "java/lang/String") (f2 : Sta Z Z.heap "java/lang/String" "COMPACT_STRINGS" "Z" (.int x2)) (hc3 : ¬ (x2 = (0 : Int32))) (f4 : Fld Z h0 r0 "java/lang/String" "coder" "B" (.int x3)) (hc5 : x3 = (0 : Int32)) (f8 : Fld Z h0 r0 "java/lang/String" "value" "[B" (.ref r4)) (f10 : Arv Z h0 r4 c6 .byte x5 t7 (.int (0 : Int32))) (f11 : Sta Z Z.heap cs10 "SIOOBE_FORMATTER" cs12 u8) (hc12 : u8.isRef = true) (hc13 : ¬ (x1 < (0 : Int32))) (hc14 : x1 < x5) (he15 : t7.getD (x1).toNatClampNeg (.int (0 : Int32)) = (.int x9)) :
    MetFree l (⟨"java/lang/String", "charAt", "(I)C"⟩ : MethodName) (head1 (Jvm.Cond.code (⟨"java/lang/String", "charAt", "(I)C"⟩ : MethodName) jdk_42_method_56_code 2 (some .char) :: ws) ({ frames := 3, cells := 0, slots := 0, locals := 40 } : Room)) (fun a U => a = #[(.ref r0), (.int x1)] ∧ Z.Warmed39 U.vm ∧ U.heap = h0) (fun _ _ _ _ _ => True) (fun _ U o U' => ∃ v L, o = .returned v ∧ Q32_1 Z r0 x1 x2 x3 r4 x5 c6 t7 u8 x9 h0 n0 v U'.heap L ∧ FrameEnd U o U' L ({ frames := 3, cells := 0, slots := 0, locals := 40 } : Room).cells ({ frames := 3, cells := 0, slots := 0, locals := 40 } : Room).slots) := by
  refine MetFree.of_bodySF (plainFor_of_name pn_java_lang_String) hisR ?_
  intro p e s m args below meth c s₁ Bd hml0 hP hK
  obtain ⟨rfl, hZ, hh⟩ := hP
  have hx := Bd.exec
  have hby := Bd.bytes
  have hml : c.maxLocals = 2 := hml0
  have hown : s.vm.findClass "java/lang/String" = some m.cls := findClass_of_methodNamed Bd.named
  have hnm := (name_of_methodNamed Bd.named Bd.method).1
  have X0 : Stand p l e ({ frames := 3, cells := 0, slots := 0, locals := 40 } : Room) s m #[(.ref r0), (.int x1)] below meth c s₁ [] 0 0 := Stand.of_body Bd
  have e0 : s₁.heap = h0 := by rw [← hh, Bd.state]; rfl
  have N0 := Fr.nil n0
  have pre0 : ∀ t, Steps p.tables e below (s₁.setTop (mkF m 0 #[.val (.ref r0), .val (.int x1)] [])) t → Steps p.tables e below (s₁.setTop (entryFrame m #[(.ref r0), (.int x1)] 2)) t := fun t k => castTop (by first | (simp [entryFrame, mkF, argsToLocals, Value.category]; done) | rfl) k
  obtain ⟨cqq7, kqq7, qq7a, qq7b, qq7c⟩ := isOf hZ e0 f1
  obtain ⟨_, _, ⟨T6, L6, k6, n6⟩, -, X6, ⟨Lc6, hQ6, l6, y6, z6⟩, st6⟩ := X0.virtualBack hx (y := (⟨"java/lang/String", "isLatin1", "()Z"⟩ : MethodName)) (z := (⟨"java/lang/String", "isLatin1", "()Z"⟩ : MethodName)) hown (mvT hZ (ww hw 181 rfl)) (mvT hZ (ww hw 182 rfl)) (notFace_of_selects (args := #[]) (mvT hZ (ww hw 184 rfl))) (mvT hZ (ww hw 184 rfl)) (mvT hZ (ww hw 183 rfl)) (by decide) (backOf (W := 0) (rm33_1 l Z a0 hw [] r0 x2 x3 h0 n0 O0 f2 hc3 f4 hc5) hZ (ww hw 185 rfl) (ww hw 23 rfl) (by decide) (by decide)) qq7a qq7c (g := (mkF m 1 #[.val (.ref r0), .val (.int x1)] [(.ref r0)])) rfl (by rw [hml]; rfl) (Steps.refl _) (argsL := []) (rest := []) (lenOf pd___Z rfl) rfl (by show 2 * 0 + _ ≤ _; exact Nat.le_of_eq rfl) (hb hby d32_1) (fun _ _ => ⟨rfl, e0, (by decide : 0 + 0 ≤ _), (by decide : 0 + 0 ≤ _)⟩)
  dsimp only [Pt.U, Pt.locs, Pt.cells, Pt.slots] at X6 l6 y6 z6 st6 hQ6
  subst l6 y6 z6
  obtain ⟨rfl, N6q, E6⟩ := hQ6
  have N6 := Fr.app N0 N6q
  obtain ⟨T9, X9, e9, st9⟩ := getF X6 hx hZ hown (host := "") (Or.inl (ww hw 50 rfl)) Via.refl E6 f8 (g := (mkF m 8 #[.val (.ref r0), .val (.int x1)] [(.ref r0)])) rfl rfl (hb hby d32_8)
  obtain ⟨_, _, ⟨T16, L16, k16, n16⟩, -, X16, ⟨Lc16, hQ16, l16, y16, z16⟩, st16⟩ := Jvm.LawKit.callS X9 hx (y := (⟨"java/lang/StringLatin1", "charAt", "([BI)C"⟩ : MethodName)) hown (mvT hZ (ww hw 186 rfl)) (mvT hZ (ww hw 187 rfl)) (mvT hZ (ww hw 188 rfl)) (mvT hZ (ww hw 189 rfl)) (by decide) (backOf (W := 0) (rm34_1 l Z a0 hw [] r4 x1 x5 c6 t7 u8 x9 h0 n0 O0 f10 f11 hc12 hc13 hc14 he15) hZ (ww hw 189 rfl) (ww hw 188 rfl) (by decide) (by decide)) (g := (mkF m 12 #[.val (.ref r0), .val (.int x1)] [(.int x1), (.ref r4)])) rfl (by rw [hml]; rfl) (argsL := [(.ref r4), (.int x1)]) (rest := []) (lenOf pd___BI_C rfl) rfl (by show 2 * 0 + _ ≤ _; exact Nat.le_of_eq rfl) (hb hby d32_12) (fun _ _ => ⟨rfl, e9, (by decide : 0 + 0 ≤ _), (by decide : 0 + 0 ≤ _)⟩)
  dsimp only [Pt.U, Pt.locs, Pt.cells, Pt.slots] at X16 l16 y16 z16 st16 hQ16
  subst l16 y16 z16
  obtain ⟨rfl, N16q, E16⟩ := hQ16
  have N16 := Fr.app N6 N16q
  obtain ⟨fs, hr, hrun, hended, hW, hsame⟩ := X16.leave (v := some (.int (nar .char (nar .char ((x9 &&& (255 : Int32)).toUInt32.toUInt16.toUInt32.toInt32))))) (fun h => by rw [Bd.returns] at h; cases h)
  refine ⟨_, _, pre0 _ ?_, hrun, hended, _, _, rfl, ?_, ⟨_, rfl⟩, hW, hsame.mono (by decide) (by decide)⟩
  · show Steps p.tables e below (s₁.setTop (mkF m 0 #[.val (.ref r0), .val (.int x1)] [])) _
    refine XS.aloadN X0.here hx rfl (hb hby d32_0) rfl rfl ?_
    refine st6.trans ?_
    show Steps p.tables e below (T6.setTop (mkF m 4 #[.val (.ref r0), .val (.int x1)] [(.int (1 : Int32))])) _
    refine XS.ifNo X6.here hx rfl (hb hby d32_4) rfl ((if0 _ _).trans (feq (by decide : ¬ ((1 : Int32) = (0 : Int32)))).1) ?_
    refine XS.aloadN X6.here hx rfl (hb hby d32_7) rfl rfl ?_
    refine st9 _ ?_
    show Steps p.tables e below (T9.setTop (mkF m 11 #[.val (.ref r0), .val (.int x1)] [(.ref r4)])) _
    refine XS.iloadN X9.here hx rfl (hb hby d32_11) rfl ?_
    refine st16 _ ?_
    show Steps p.tables e below (T16.setTop (mkF m 15 #[.val (.ref r0), .val (.int x1)] [(.int (nar .char ((x9 &&& (255 : Int32)).toUInt32.toUInt16.toUInt32.toInt32)))])) _
    exact retN X16 hx (t := .char) Bd.returns (by simp) (hb hby d32_15) hr
  · show Q32_1 Z r0 x1 x2 x3 r4 x5 c6 t7 u8 x9 h0 n0 _ T16.heap _
    rw [E16]
    exact ⟨rfl, N16, rfl⟩
theorem pd__I_C : parseMethodDescriptor "(I)C" = some ⟨[.int], some .char⟩ := by decide +kernel
theorem d37_0 : decode method_4_code 0 = .ok (.iload_n 3, 1) := by decide +kernel
theorem d37_1 : decode method_4_code 1 = .ok (.iload_n 1, 1) := by decide +kernel
theorem d37_2 : decode method_4_code 2 = .ok (.if_icmp .lt 5, 3) := by decide +kernel
theorem d37_7 : decode method_4_code 7 = .ok (.aload_n 0, 1) := by decide +kernel
theorem d37_8 : decode method_4_code 8 = .ok (.iload_n 1, 1) := by decide +kernel
theorem d37_9 : decode method_4_code 9 = .ok (.iload_n 3, 1) := by decide +kernel
theorem d37_10 : decode method_4_code 10 = .ok (.isub, 1) := by decide +kernel
theorem d37_11 : decode method_4_code 11 = .ok (.invokevirtual 30, 3) := by decide +kernel
theorem d37_14 : decode method_4_code 14 = .ok (.bipush 48, 2) := by decide +kernel
theorem d37_16 : decode method_4_code 16 = .ok (.iload_n 2, 1) := by decide +kernel
theorem d37_17 : decode method_4_code 17 = .ok (.iload 4, 2) := by decide +kernel
theorem d37_19 : decode method_4_code 19 = .ok (.idiv, 1) := by decide +kernel
theorem d37_20 : decode method_4_code 20 = .ok (.bipush 10, 2) := by decide +kernel
theorem d37_22 : decode method_4_code 22 = .ok (.irem, 1) := by decide +kernel
theorem d37_23 : decode method_4_code 23 = .ok (.iadd, 1) := by decide +kernel
theorem d37_24 : decode method_4_code 24 = .ok (.i2c, 1) := by decide +kernel
theorem d37_25 : decode method_4_code 25 = .ok (.if_icmp .ne 7, 3) := by decide +kernel
theorem d37_28 : decode method_4_code 28 = .ok (.iconst 1, 1) := by decide +kernel
theorem d37_29 : decode method_4_code 29 = .ok (.goto 4, 3) := by decide +kernel
theorem d37_33 : decode method_4_code 33 = .ok (.ireturn, 1) := by decide +kernel
def Q37_1 (Z : State) (r0 : Addr) (x1 : Int32) (x2 : Int32) (x3 : Int32) (x4 : Int32) (x5 : Int32) (x6 : Int32) (r7 : Addr) (x8 : Int32) (c9 : ClassId) (t10 : List Value) (u11 : Value) (x12 : Int32) (h0 : Heap) (n0 : Nat) (v : Option Value) (h : Heap) (L : List Loc) : Prop := v = some (.int (1 : Int32)) ∧ Fr n0 L ∧ h = h0
set_option maxRecDepth 65536 in
set_option maxHeartbeats 40000000 in
theorem rm37_1 (l : Launch) (Z : State) (a0 : Array Value) (hw : ∀ d ∈ tables_1, d.before a0 Z = true) (ws : List Jvm.Cond) (r0 : Addr) (x1 : Int32) (x2 : Int32) (x3 : Int32) (x4 : Int32) (x5 : Int32) (x6 : Int32) (r7 : Addr) (x8 : Int32) (c9 : ClassId) (t10 : List Value) (u11 : Value) (x12 : Int32) (h0 : Heap) (n0 : Nat) (O0 : Old Z n0 h0) (hc1 : x3 < x1) (f2 : Exa Z h0 r0 "java/lang/String") (f3 : Sta Z Z.heap "java/lang/String" "COMPACT_STRINGS" "Z" (.int x5)) (hc4 : ¬ (x5 = (0 : Int32))) (f5 : Fld Z h0 r0 "java/lang/String" "coder" "B" (.int x6)) (hc6 : x6 = (0 : Int32)) (f7 : Fld Z h0 r0 "java/lang/String" "value" "[B" (.ref r7)) (f8 : Arv Z h0 r7 c9 .byte x8 t10 (.int (0 : Int32))) (f9 : Sta Z Z.heap cs10 "SIOOBE_FORMATTER" cs12 u11) (hc10 : u11.isRef = true) (hc11 : ¬ ((x1 - x3) < (0 : Int32))) (hc12 : (x1 - x3) < x8) (he13 : t10.getD ((x1 - x3)).toNatClampNeg (.int (0 : Int32)) = (.int x12)) (hc16 : ¬ (x4 = (0 : Int32))) (hc17 : (nar .char (nar .char ((x12 &&& (255 : Int32)).toUInt32.toUInt16.toUInt32.toInt32))) = (((48 : Int32) + ((x2 / x4) % (10 : Int32))).toUInt32.toUInt16.toUInt32.toInt32)) :
    MetFree l (⟨cs9, "at", cs13⟩ : MethodName) (head1 (Jvm.Cond.code (⟨cs9, "at", cs13⟩ : MethodName) method_4_code 5 (some .boolean) :: ws) ({ frames := 4, cells := 0, slots := 0, locals := 53 } : Room)) (fun a U => a = #[(.ref r0), (.int x1), (.int x2), (.int x3), (.int x4)] ∧ Z.Warmed39 U.vm ∧ U.heap = h0) (fun _ _ _ _ _ => True) (fun _ U o U' => ∃ v L, o = .returned v ∧ Q37_1 Z r0 x1 x2 x3 x4 x5 x6 r7 x8 c9 t10 u11 x12 h0 n0 v U'.heap L ∧ FrameEnd U o U' L ({ frames := 4, cells := 0, slots := 0, locals := 53 } : Room).cells ({ frames := 4, cells := 0, slots := 0, locals := 53 } : Room).slots) := by
  refine MetFree.of_bodySF (plainFor_of_name pn_com_example_manojo_manojo_ParameterPositionalPinLaw) hisR ?_
  intro p e s m args below meth c s₁ Bd hml0 hP hK
  obtain ⟨rfl, hZ, hh⟩ := hP
  have hx := Bd.exec
  have hby := Bd.bytes
  have hml : c.maxLocals = 5 := hml0
  have hown : s.vm.findClass cs9 = some m.cls := findClass_of_methodNamed Bd.named
  have hnm := (name_of_methodNamed Bd.named Bd.method).1
  have X0 : Stand p l e ({ frames := 4, cells := 0, slots := 0, locals := 53 } : Room) s m #[(.ref r0), (.int x1), (.int x2), (.int x3), (.int x4)] below meth c s₁ [] 0 0 := Stand.of_body Bd
  have e0 : s₁.heap = h0 := by rw [← hh, Bd.state]; rfl
  have N0 := Fr.nil n0
  have pre0 : ∀ t, Steps p.tables e below (s₁.setTop (mkF m 0 #[.val (.ref r0), .val (.int x1), .val (.int x2), .val (.int x3), .val (.int x4)] [])) t → Steps p.tables e below (s₁.setTop (entryFrame m #[(.ref r0), (.int x1), (.int x2), (.int x3), (.int x4)] 5)) t := fun t k => castTop (by first | (simp [entryFrame, mkF, argsToLocals, Value.category]; done) | rfl) k
  obtain ⟨cqq15, kqq15, qq15a, qq15b, qq15c⟩ := isOf hZ e0 f2
  obtain ⟨_, _, ⟨T14, L14, k14, n14⟩, -, X14, ⟨Lc14, hQ14, l14, y14, z14⟩, st14⟩ := X0.virtualBack hx (y := (⟨"java/lang/String", "charAt", "(I)C"⟩ : MethodName)) (z := (⟨"java/lang/String", "charAt", "(I)C"⟩ : MethodName)) hown (mvT hZ (ww hw 176 rfl)) (mvT hZ (ww hw 177 rfl)) (notFace_of_selects (args := #[]) (mvT hZ (ww hw 179 rfl))) (mvT hZ (ww hw 179 rfl)) (mvT hZ (ww hw 178 rfl)) (by decide) (backOf (W := 0) (rm32_1 l Z a0 hw [] r0 (x1 - x3) x5 x6 r7 x8 c9 t10 u11 x12 h0 n0 O0 f2 f3 hc4 f5 hc6 f7 f8 f9 hc10 hc11 hc12 he13) hZ (ww hw 180 rfl) (ww hw 23 rfl) (by decide) (by decide)) qq15a qq15c (g := (mkF m 11 #[.val (.ref r0), .val (.int x1), .val (.int x2), .val (.int x3), .val (.int x4)] [(.int (x1 - x3)), (.ref r0)])) rfl (by rw [hml]; rfl) (Steps.refl _) (argsL := [(.int (x1 - x3))]) (rest := []) (lenOf pd__I_C rfl) rfl (by show 2 * 0 + _ ≤ _; exact Nat.le_of_eq rfl) (hb hby d37_11) (fun _ _ => ⟨rfl, e0, (by decide : 0 + 0 ≤ _), (by decide : 0 + 0 ≤ _)⟩)
  dsimp only [Pt.U, Pt.locs, Pt.cells, Pt.slots] at X14 l14 y14 z14 st14 hQ14
  subst l14 y14 z14
  obtain ⟨rfl, N14q, E14⟩ := hQ14
  have N14 := Fr.app N0 N14q
  obtain ⟨fs, hr, hrun, hended, hW, hsame⟩ := X14.leave (v := some (.int (1 : Int32))) (fun h => by rw [Bd.returns] at h; cases h)
  refine ⟨_, _, pre0 _ ?_, hrun, hended, _, _, rfl, ?_, ⟨_, rfl⟩, hW, hsame.mono (by decide) (by decide)⟩
  · show Steps p.tables e below (s₁.setTop (mkF m 0 #[.val (.ref r0), .val (.int x1), .val (.int x2), .val (.int x3), .val (.int x4)] [])) _
    refine XS.iloadN X0.here hx rfl (hb hby d37_0) rfl ?_
    refine XS.iloadN X0.here hx rfl (hb hby d37_1) rfl ?_
    refine XS.icmpYes X0.here hx rfl (pc0 := 2) (pc' := 7) rfl (hb hby d37_2) rfl (tlt hc1).1 (by decide) (by decide) ?_
    show Steps p.tables e below (s₁.setTop (mkF m 7 #[.val (.ref r0), .val (.int x1), .val (.int x2), .val (.int x3), .val (.int x4)] [])) _
    refine XS.aloadN X0.here hx rfl (hb hby d37_7) rfl rfl ?_
    refine XS.iloadN X0.here hx rfl (hb hby d37_8) rfl ?_
    refine XS.iloadN X0.here hx rfl (hb hby d37_9) rfl ?_
    refine XS.isub X0.here hx rfl (hb hby d37_10) rfl ?_
    show Steps p.tables e below (s₁.setTop (mkF m 11 #[.val (.ref r0), .val (.int x1), .val (.int x2), .val (.int x3), .val (.int x4)] [(.int (x1 - x3)), (.ref r0)])) _
    refine st14.trans ?_
    show Steps p.tables e below (T14.setTop (mkF m 14 #[.val (.ref r0), .val (.int x1), .val (.int x2), .val (.int x3), .val (.int x4)] [(.int (nar .char (nar .char ((x12 &&& (255 : Int32)).toUInt32.toUInt16.toUInt32.toInt32))))])) _
    refine XS.bipush X14.here hx rfl (hb hby d37_14) ?_
    refine XS.iloadN X14.here hx rfl (hb hby d37_16) rfl ?_
    refine XS.iload X14.here hx rfl (hb hby d37_17) rfl ?_
    refine XS.idiv X14.here hx rfl (hb hby d37_19) rfl hc16 ?_
    show Steps p.tables e below (T14.setTop (mkF m 20 #[.val (.ref r0), .val (.int x1), .val (.int x2), .val (.int x3), .val (.int x4)] [(.int (x2 / x4)), (.int (48 : Int32)), (.int (nar .char (nar .char ((x12 &&& (255 : Int32)).toUInt32.toUInt16.toUInt32.toInt32))))])) _
    refine XS.bipush X14.here hx rfl (hb hby d37_20) ?_
    refine iremM (g := (mkF m 22 #[.val (.ref r0), .val (.int x1), .val (.int x2), .val (.int x3), .val (.int x4)] [(.int (10 : Int32)), (.int (x2 / x4)), (.int (48 : Int32)), (.int (nar .char (nar .char ((x12 &&& (255 : Int32)).toUInt32.toUInt16.toUInt32.toInt32))))])) X14 hx rfl (hb hby d37_22) rfl (by decide : ¬ ((10 : Int32) = (0 : Int32))) ?_
    show Steps p.tables e below (T14.setTop (mkF m 23 #[.val (.ref r0), .val (.int x1), .val (.int x2), .val (.int x3), .val (.int x4)] [(.int ((x2 / x4) % (10 : Int32))), (.int (48 : Int32)), (.int (nar .char (nar .char ((x12 &&& (255 : Int32)).toUInt32.toUInt16.toUInt32.toInt32))))])) _
    refine XS.iadd X14.here hx rfl (hb hby d37_23) rfl ?_
    refine XS.i2c X14.here hx rfl (hb hby d37_24) rfl ?_
    refine XS.icmpNo X14.here hx rfl (hb hby d37_25) rfl (teq hc17).2 ?_
    refine XS.iconst X14.here hx rfl (hb hby d37_28) ?_
    show Steps p.tables e below (T14.setTop (mkF m 29 #[.val (.ref r0), .val (.int x1), .val (.int x2), .val (.int x3), .val (.int x4)] [(.int (1 : Int32))])) _
    refine XS.goto X14.here hx rfl (pc0 := 29) (pc' := 33) rfl (hb hby d37_29) (by decide) (by decide) ?_
    show Steps p.tables e below (T14.setTop (mkF m 33 #[.val (.ref r0), .val (.int x1), .val (.int x2), .val (.int x3), .val (.int x4)] [(.int (1 : Int32))])) _
    exact retN X14 hx (t := .boolean) Bd.returns (by simp) (hb hby d37_33) hr
  · show Q37_1 Z r0 x1 x2 x3 x4 x5 x6 r7 x8 c9 t10 u11 x12 h0 n0 _ T14.heap _
    rw [E14]
    exact ⟨rfl, N14, rfl⟩
theorem pd__Ljava_lang_String_IIII_Z : parseMethodDescriptor cs13 = some ⟨[(.object "java/lang/String"), .int, .int, .int, .int], some .boolean⟩ := by decide +kernel
theorem d37_5 : decode method_4_code 5 = .ok (.iconst 1, 1) := by decide +kernel
theorem d37_6 : decode method_4_code 6 = .ok (.ireturn, 1) := by decide +kernel
def Q37_2 (Z : State) (r0 : Addr) (x1 : Int32) (x2 : Int32) (x3 : Int32) (x4 : Int32) (h0 : Heap) (n0 : Nat) (v : Option Value) (h : Heap) (L : List Loc) : Prop := v = some (.int (1 : Int32)) ∧ Fr n0 L ∧ h = h0
set_option maxRecDepth 65536 in
set_option maxHeartbeats 40000000 in
theorem rm37_2 (l : Launch) (Z : State) (a0 : Array Value) (hw : ∀ d ∈ tables_1, d.before a0 Z = true) (ws : List Jvm.Cond) (r0 : Addr) (x1 : Int32) (x2 : Int32) (x3 : Int32) (x4 : Int32) (h0 : Heap) (n0 : Nat) (O0 : Old Z n0 h0) (hc1 : ¬ (x3 < x1)) :
    MetFree l (⟨cs9, "at", cs13⟩ : MethodName) (head1 (Jvm.Cond.code (⟨cs9, "at", cs13⟩ : MethodName) method_4_code 5 (some .boolean) :: ws) ({ frames := 0, cells := 0, slots := 0, locals := 0 } : Room)) (fun a U => a = #[(.ref r0), (.int x1), (.int x2), (.int x3), (.int x4)] ∧ Z.Warmed39 U.vm ∧ U.heap = h0) (fun _ _ _ _ _ => True) (fun _ U o U' => ∃ v L, o = .returned v ∧ Q37_2 Z r0 x1 x2 x3 x4 h0 n0 v U'.heap L ∧ FrameEnd U o U' L ({ frames := 0, cells := 0, slots := 0, locals := 0 } : Room).cells ({ frames := 0, cells := 0, slots := 0, locals := 0 } : Room).slots) := by
  refine MetFree.of_bodySF (plainFor_of_name pn_com_example_manojo_manojo_ParameterPositionalPinLaw) hisR ?_
  intro p e s m args below meth c s₁ Bd hml0 hP hK
  obtain ⟨rfl, hZ, hh⟩ := hP
  have hx := Bd.exec
  have hby := Bd.bytes
  have hml : c.maxLocals = 5 := hml0
  have hown : s.vm.findClass cs9 = some m.cls := findClass_of_methodNamed Bd.named
  have hnm := (name_of_methodNamed Bd.named Bd.method).1
  have X0 : Stand p l e ({ frames := 0, cells := 0, slots := 0, locals := 0 } : Room) s m #[(.ref r0), (.int x1), (.int x2), (.int x3), (.int x4)] below meth c s₁ [] 0 0 := Stand.of_body Bd
  have e0 : s₁.heap = h0 := by rw [← hh, Bd.state]; rfl
  have N0 := Fr.nil n0
  have pre0 : ∀ t, Steps p.tables e below (s₁.setTop (mkF m 0 #[.val (.ref r0), .val (.int x1), .val (.int x2), .val (.int x3), .val (.int x4)] [])) t → Steps p.tables e below (s₁.setTop (entryFrame m #[(.ref r0), (.int x1), (.int x2), (.int x3), (.int x4)] 5)) t := fun t k => castTop (by first | (simp [entryFrame, mkF, argsToLocals, Value.category]; done) | rfl) k
  obtain ⟨fs, hr, hrun, hended, hW, hsame⟩ := X0.leave (v := some (.int (1 : Int32))) (fun h => by rw [Bd.returns] at h; cases h)
  refine ⟨_, _, pre0 _ ?_, hrun, hended, _, _, rfl, ?_, ⟨_, rfl⟩, hW, hsame.mono (by decide) (by decide)⟩
  · show Steps p.tables e below (s₁.setTop (mkF m 0 #[.val (.ref r0), .val (.int x1), .val (.int x2), .val (.int x3), .val (.int x4)] [])) _
    refine XS.iloadN X0.here hx rfl (hb hby d37_0) rfl ?_
    refine XS.iloadN X0.here hx rfl (hb hby d37_1) rfl ?_
    refine XS.icmpNo X0.here hx rfl (hb hby d37_2) rfl (flt hc1).1 ?_
    refine XS.iconst X0.here hx rfl (hb hby d37_5) ?_
    show Steps p.tables e below (s₁.setTop (mkF m 6 #[.val (.ref r0), .val (.int x1), .val (.int x2), .val (.int x3), .val (.int x4)] [(.int (1 : Int32))])) _
    exact retN X0 hx (t := .boolean) Bd.returns (by simp) (hb hby d37_6) hr
  · show Q37_2 Z r0 x1 x2 x3 x4 h0 n0 _ s₁.heap _
    rw [e0]
    exact ⟨rfl, N0, rfl⟩
def Q0_1 (Z : State) (x0 : Int32) (x1 : Int32) (x2 : Int32) (r3 : Addr) (r4 : Addr) (d5 : Cell) (r6 : Addr) (d7 : Cell) (t8 : List Value) (u9 : Value) (h0 : Heap) (n0 : Nat) (v : Option Value) (h : Heap) (L : List Loc) : Prop := v = some (.int (1 : Int32)) ∧ Fr n0 L
set_option maxRecDepth 65536 in
set_option maxHeartbeats 40000000 in
theorem rm0_1 (l : Launch) (Z : State) (a0 : Array Value) (hw : ∀ d ∈ tables_1, d.before a0 Z = true) (ws : List Jvm.Cond) (x0 : Int32) (x1 : Int32) (x2 : Int32) (r3 : Addr) (r4 : Addr) (d5 : Cell) (r6 : Addr) (d7 : Cell) (t8 : List Value) (u9 : Value) (h0 : Heap) (n0 : Nat) (O0 : Old Z n0 h0) (hq1 : ((1 : Int32) + ((x0 &&& (2147483647 : Int32)) % (2147483647 : Int32))) = x1) (f2 : Sta Z Z.heap "java/lang/String" "COMPACT_STRINGS" "Z" (.int x2)) (hc3 : ¬ (x2 = (0 : Int32))) (hc4 : ¬ ((0 : Int32) < (((1 : Int32) + (SBG.strSizeOf x1)) - ((16 : Int32) >>> ((0 : Int32) &&& 31))))) (f5 : own_TB Z r3 r4 d5 r6 d7) (hc6 : ¬ (((1 : Int32) + (SBG.strSizeOf x1)) < 0)) (hc7 : (((1 : Int32) + (SBG.strSizeOf x1))).toNatClampNeg ≤ ((16 : Int32)).toNatClampNeg) (hc8 : own_sz x1 ≤ (((1 : Int32) + (SBG.strSizeOf x1))).toNatClampNeg) (hc9 : ¬ (((1 : Int32) + (SBG.strSizeOf x1)) = (16 : Int32))) (hc10 : ¬ (((1 : Int32) + (SBG.strSizeOf x1)) < (0 : Int32))) (hc11 : ¬ ((((1 : Int32) + (SBG.strSizeOf x1)) - (0 : Int32)) < 0)) (hc12 : ((((1 : Int32) + (SBG.strSizeOf x1)) - (0 : Int32))).toNatClampNeg ≤ 32) (hc13 : (((1 : Int32) + (SBG.strSizeOf x1)) - (0 : Int32)) < ((16 : Int32) - (0 : Int32))) (hc14 : ((((1 : Int32) + (SBG.strSizeOf x1)) - (0 : Int32))).toNatClampNeg ≤ ((16 : Int32)).toNatClampNeg) (hq31 : (own_us [(.int (63 : Int32)), (.int (0 : Int32)), (.int (0 : Int32)), (.int (0 : Int32)), (.int (0 : Int32)), (.int (0 : Int32)), (.int (0 : Int32)), (.int (0 : Int32)), (.int (0 : Int32)), (.int (0 : Int32)), (.int (0 : Int32)), (.int (0 : Int32)), (.int (0 : Int32)), (.int (0 : Int32)), (.int (0 : Int32)), (.int (0 : Int32))] (.int (0 : Int32)) ((16 : Int32)).toNatClampNeg x1 (((1 : Int32) + (SBG.strSizeOf x1))).toNatClampNeg) = t8) (hc36 : x1 < (1000000000 : Int32)) (hc37 : x1 < (100000000 : Int32)) (hc38 : x1 < (10000000 : Int32)) (hc39 : x1 < (1000000 : Int32)) (hc40 : x1 < (100000 : Int32)) (hc41 : x1 < (10000 : Int32)) (hc42 : x1 < (1000 : Int32)) (hc43 : x1 < (100 : Int32)) (hc44 : x1 < (10 : Int32)) (hc48 : ((((1 : Int32) + (SBG.strSizeOf x1)) - (0 : Int32)) >>> ((nar .byte (0 : Int32)) &&& 31)) = (2 : Int32)) (f49 : Sta Z Z.heap cs10 "SIOOBE_FORMATTER" cs12 u9) (hc50 : u9.isRef = true) (hc51 : (0 : Int32) < (((1 : Int32) + (SBG.strSizeOf x1)) - (0 : Int32))) (hc52 : t8.getD ((0 : Int32)).toNatClampNeg (.int (0 : Int32)) = (.int (own_at t8 ((0 : Int32)).toNatClampNeg))) (hc55 : (nar .char (nar .char (((own_at t8 ((0 : Int32)).toNatClampNeg) &&& (255 : Int32)).toUInt32.toUInt16.toUInt32.toInt32))) = (63 : Int32)) (hc56 : ((1 : Int32) - (0 : Int32)) < (((1 : Int32) + (SBG.strSizeOf x1)) - (0 : Int32))) (hc57 : t8.getD (((1 : Int32) - (0 : Int32))).toNatClampNeg (.int (0 : Int32)) = (.int (own_at t8 (((1 : Int32) - (0 : Int32))).toNatClampNeg))) (hc58 : (nar .char (nar .char (((own_at t8 (((1 : Int32) - (0 : Int32))).toNatClampNeg) &&& (255 : Int32)).toUInt32.toUInt16.toUInt32.toInt32))) = (((48 : Int32) + ((x1 / (1 : Int32)) % (10 : Int32))).toUInt32.toUInt16.toUInt32.toInt32)) :
    MetFree l x (head1 (Jvm.Cond.code x code maxLocals ret :: ws) room_1) (fun a U => a = #[(.int x0)] ∧ Z.Warmed39 U.vm ∧ U.heap = h0 ∧ CHv Z consts_1 U.vm h0) (fun _ _ _ _ _ => True) (fun _ U o U' => ∃ v L, o = .returned v ∧ Q0_1 Z x0 x1 x2 r3 r4 d5 r6 d7 t8 u9 h0 n0 v U'.heap L ∧ CHr Z consts_1 U.vm U.heap U'.vm U'.heap ∧ ReturnedEndW U o U' L room_1.cells room_1.slots) := by
  refine MetFree.of_bodySF (plainFor_of_name pn_com_example_manojo_manojo_ParameterPositionalPinLaw) hisR ?_
  intro p e s m args below meth c s₁ Bd hml0 hP hK
  obtain ⟨rfl, hZ, hh, hC⟩ := hP
  have hx := Bd.exec
  have hby := Bd.bytes
  have hml : c.maxLocals = 4 := hml0
  have hown : s.vm.findClass cs9 = some m.cls := findClass_of_methodNamed Bd.named
  have hnm := (name_of_methodNamed Bd.named Bd.method).1
  have X0 : Stand p l e room_1 s m #[(.int x0)] below meth c s₁ [] 0 0 := Stand.of_body Bd
  have e0 : s₁.heap = h0 := by rw [← hh, Bd.state]; rfl
  have N0 := Fr.nil n0
  have pre0 : ∀ t, Steps p.tables e below (s₁.setTop (mkF m 0 #[.val (.int x0), .unset, .unset, .unset] [])) t → Steps p.tables e below (s₁.setTop (entryFrame m #[(.int x0)] maxLocals)) t := fun t k => castTop (by first | (simp [entryFrame, mkF, argsToLocals, Value.category, maxLocals]; done) | rfl) k
  have hEL : EW Z a0 consts_1 := own_EW hw
  have R0 := CHr.refl hC
  have hS15 := (State.WarmedH.refl s).since 0
  obtain ⟨_, _, ⟨T16, L16, k16, n16⟩, -, X16, hs16, hg16, ⟨Lc16, hQ16, l16, y16, z16, cr16⟩, st16⟩ := callSS X0 hx (y := (⟨cs7, "positional", cs8⟩ : MethodName)) hown (mvT hZ (ww hw 1 rfl)) (mvT hZ (ww hw 2 rfl)) (mvT hZ (ww hw 3 rfl)) (mvT hZ (ww hw 4 rfl)) (by decide) (backOfSH (s := s) (vm0 := s.vm) (W := 0) (rm1_1 l Z a0 hw [] x1 x2 r3 r4 d5 r6 d7 h0 n0 O0 f2 hc3 hc4 f5 hc6 hc7 hc8 hc9 hc10 hc11 hc12 hc13 hc14) hZ (ww hw 4 rfl) (ww hw 3 rfl) (by decide) (by decide) hEL R0.1) (g := (mkF m 11 #[.val (.int x0), .val (.int x1), .unset, .unset] [(.int x1)])) rfl (by rw [hml]; rfl) (argsL := [(.int x1)]) (rest := []) (lenOf pd__I_Lcom_example_manojo_manojo_QueryTree_Parameter_ rfl) rfl (by show 2 * 0 + _ ≤ _; exact Nat.le_of_eq rfl) (hb hby at_11) (fun _ _ => ⟨rfl, e0, (by decide : 0 + 7 ≤ _), (by decide : 0 + 65 ≤ _)⟩)
  dsimp only [Pt.U, Pt.locs, Pt.cells, Pt.slots] at X16 l16 y16 z16 st16 hQ16 hs16 hg16 cr16
  subst l16 y16 z16
  obtain ⟨X16, hS16, hZ16, ho16⟩ := rebS (s := s) (vm0 := s.vm) hS15 (by rw [e0]; exact (Nat.zero_le _)) X16 hs16 hg16 hZ hown
  obtain ⟨b16_0, b16_1, b16_2, k16_0, rfl, N16q, K16, f17, f18, f19, f20, f21, f22, f23, f24, f25, f26, f27, f28, f29⟩ := hQ16
  have N16 := Fr.app N0 N16q
  have R30 := CHr.trans R0 cr16
  have f32 : Arv Z T16.heap b16_2 k16_0 .byte (((1 : Int32) + (SBG.strSizeOf x1)) - (0 : Int32)) t8 (.int (0 : Int32)) := by rw [← hq31]; exact f25
  have o33 := Old.keep O0 K16 all0
  obtain ⟨cqq35, kqq35, qq35a, qq35b, qq35c⟩ := isOf hZ16 rfl f18
  obtain ⟨_, _, ⟨T34, L34, k34, n34⟩, -, X34, ⟨Lc34, hQ34, l34, y34, z34⟩, st34⟩ := X16.virtualBack hx (y := (⟨cs7, "name", "()Ljava/lang/String;"⟩ : MethodName)) (z := (⟨cs7, "name", "()Ljava/lang/String;"⟩ : MethodName)) ho16 (mvT hZ16 (ww hw 161 rfl)) (mvT hZ16 (ww hw 162 rfl)) (notFace_of_selects (args := #[]) (mvT hZ16 (ww hw 164 rfl))) (mvT hZ16 (ww hw 164 rfl)) (mvT hZ16 (ww hw 163 rfl)) (by decide) (backOf (W := 0) (rm30_1 l Z a0 hw [] b16_0 b16_1 T16.heap n0 o33 f19) hZ16 (ww hw 165 rfl) (ww hw 3 rfl) (by decide) (by decide)) qq35a qq35c (g := (mkF m 14 #[.val (.int x0), .val (.int x1), .unset, .unset] [(.ref b16_0)])) rfl (by rw [hml]; rfl) (Steps.refl _) (argsL := []) (rest := []) (lenOf pd___Ljava_lang_String_ rfl) rfl (by show 2 * 0 + _ ≤ _; exact Nat.le_of_eq rfl) (hb hby at_14) (fun _ _ => ⟨rfl, rfl, (by decide : 7 + 0 ≤ _), (by decide : 65 + 0 ≤ _)⟩)
  dsimp only [Pt.U, Pt.locs, Pt.cells, Pt.slots] at X34 l34 y34 z34 st34 hQ34
  subst l34 y34 z34
  obtain ⟨rfl, N34q, E34⟩ := hQ34
  have N34 := Fr.app N16 N34q
  obtain ⟨_, _, ⟨T45, L45, k45, n45⟩, -, X45, ⟨Lc45, hQ45, l45, y45, z45⟩, st45⟩ := Jvm.LawKit.callS X34 hx (y := (⟨cs9, "digits", "(I)I"⟩ : MethodName)) ho16 (mvT hZ16 (ww hw 166 rfl)) (mvT hZ16 (ww hw 167 rfl)) (mvT hZ16 (ww hw 168 rfl)) (mvT hZ16 (ww hw 169 rfl)) (by decide) (backOf (W := 0) (rm31_1 l Z a0 hw [] x1 T16.heap n0 o33 hc36 hc37 hc38 hc39 hc40 hc41 hc42 hc43 hc44) hZ16 (ww hw 169 rfl) (ww hw 168 rfl) (by decide) (by decide)) (g := (mkF m 19 #[.val (.int x0), .val (.int x1), .val (.ref b16_1), .unset] [(.int x1)])) rfl (by rw [hml]; rfl) (argsL := [(.int x1)]) (rest := []) (lenOf pd__I_I rfl) rfl (by show 2 * 0 + _ ≤ _; exact Nat.le_of_eq rfl) (hb hby at_19) (fun _ _ => ⟨rfl, E34, (by decide : 7 + 0 ≤ _), (by decide : 65 + 0 ≤ _)⟩)
  dsimp only [Pt.U, Pt.locs, Pt.cells, Pt.slots] at X45 l45 y45 z45 st45 hQ45
  subst l45 y45 z45
  obtain ⟨rfl, N45q, E45⟩ := hQ45
  have N45 := Fr.app N34 N45q
  obtain ⟨cqq47, kqq47, qq47a, qq47b, qq47c⟩ := isOf hZ16 E45 f21
  obtain ⟨_, _, ⟨T46, L46, k46, n46⟩, -, X46, ⟨Lc46, hQ46, l46, y46, z46⟩, st46⟩ := X45.virtualBack hx (y := (⟨"java/lang/String", "length", "()I"⟩ : MethodName)) (z := (⟨"java/lang/String", "length", "()I"⟩ : MethodName)) ho16 (mvT hZ16 (ww hw 175 rfl)) (mvT hZ16 (ww hw 46 rfl)) (notFace_of_selects (args := #[]) (mvT hZ16 (ww hw 48 rfl))) (mvT hZ16 (ww hw 48 rfl)) (mvT hZ16 (ww hw 47 rfl)) (by decide) (backOf (W := 0) (rm7_1 l Z a0 hw [] b16_1 b16_2 (((1 : Int32) + (SBG.strSizeOf x1)) - (0 : Int32)) k16_0 t8 x2 (0 : Int32) T16.heap n0 o33 f23 f32 f21 f2 hc3 f22) hZ16 (ww hw 49 rfl) (ww hw 23 rfl) (by decide) (by decide)) qq47a qq47c (g := (mkF m 24 #[.val (.int x0), .val (.int x1), .val (.ref b16_1), .val (.int (1 : Int32))] [(.ref b16_1)])) rfl (by rw [hml]; rfl) (Steps.refl _) (argsL := []) (rest := []) (lenOf pd___I rfl) rfl (by show 2 * 0 + _ ≤ _; exact Nat.le_of_eq rfl) (hb hby at_24) (fun _ _ => ⟨rfl, E45, (by decide : 7 + 0 ≤ _), (by decide : 65 + 0 ≤ _)⟩)
  dsimp only [Pt.U, Pt.locs, Pt.cells, Pt.slots] at X46 l46 y46 z46 st46 hQ46
  subst l46 y46 z46
  obtain ⟨rfl, N46q, E46⟩ := hQ46
  have N46 := Fr.app N45 N46q
  obtain ⟨cqq54, kqq54, qq54a, qq54b, qq54c⟩ := isOf hZ16 E46 f21
  obtain ⟨_, _, ⟨T53, L53, k53, n53⟩, -, X53, ⟨Lc53, hQ53, l53, y53, z53⟩, st53⟩ := X46.virtualBack hx (y := (⟨"java/lang/String", "charAt", "(I)C"⟩ : MethodName)) (z := (⟨"java/lang/String", "charAt", "(I)C"⟩ : MethodName)) ho16 (mvT hZ16 (ww hw 176 rfl)) (mvT hZ16 (ww hw 177 rfl)) (notFace_of_selects (args := #[]) (mvT hZ16 (ww hw 179 rfl))) (mvT hZ16 (ww hw 179 rfl)) (mvT hZ16 (ww hw 178 rfl)) (by decide) (backOf (W := 0) (rm32_1 l Z a0 hw [] b16_1 (0 : Int32) x2 (0 : Int32) b16_2 (((1 : Int32) + (SBG.strSizeOf x1)) - (0 : Int32)) k16_0 t8 u9 (own_at t8 ((0 : Int32)).toNatClampNeg) T16.heap n0 o33 f21 f2 hc3 f22 (by decide : (0 : Int32) = (0 : Int32)) f23 f32 f49 hc50 (by decide : ¬ ((0 : Int32) < (0 : Int32))) hc51 hc52) hZ16 (ww hw 180 rfl) (ww hw 23 rfl) (by decide) (by decide)) qq54a qq54c (g := (mkF m 37 #[.val (.int x0), .val (.int x1), .val (.ref b16_1), .val (.int (1 : Int32))] [(.int (0 : Int32)), (.ref b16_1)])) rfl (by rw [hml]; rfl) (Steps.refl _) (argsL := [(.int (0 : Int32))]) (rest := []) (lenOf pd__I_C rfl) rfl (by show 2 * 0 + _ ≤ _; exact Nat.le_of_eq rfl) (hb hby at_37) (fun _ _ => ⟨rfl, E46, (by decide : 7 + 0 ≤ _), (by decide : 65 + 0 ≤ _)⟩)
  dsimp only [Pt.U, Pt.locs, Pt.cells, Pt.slots] at X53 l53 y53 z53 st53 hQ53
  subst l53 y53 z53
  obtain ⟨rfl, N53q, E53⟩ := hQ53
  have N53 := Fr.app N46 N53q
  obtain ⟨_, _, ⟨T59, L59, k59, n59⟩, -, X59, ⟨Lc59, hQ59, l59, y59, z59⟩, st59⟩ := Jvm.LawKit.callS X53 hx (y := (⟨cs9, "at", cs13⟩ : MethodName)) ho16 (mvT hZ16 (ww hw 198 rfl)) (mvT hZ16 (ww hw 199 rfl)) (mvT hZ16 (ww hw 168 rfl)) (mvT hZ16 (ww hw 200 rfl)) (by decide) (backOf (W := 0) (rm37_1 l Z a0 hw [] b16_1 (1 : Int32) x1 (0 : Int32) (1 : Int32) x2 (0 : Int32) b16_2 (((1 : Int32) + (SBG.strSizeOf x1)) - (0 : Int32)) k16_0 t8 u9 (own_at t8 (((1 : Int32) - (0 : Int32))).toNatClampNeg) T16.heap n0 o33 (by decide : (0 : Int32) < (1 : Int32)) f21 f2 hc3 f22 (by decide : (0 : Int32) = (0 : Int32)) f23 f32 f49 hc50 (by decide : ¬ (((1 : Int32) - (0 : Int32)) < (0 : Int32))) hc56 hc57 (by decide : ¬ ((1 : Int32) = (0 : Int32))) hc58) hZ16 (ww hw 200 rfl) (ww hw 168 rfl) (by decide) (by decide)) (g := (mkF m 52 #[.val (.int x0), .val (.int x1), .val (.ref b16_1), .val (.int (1 : Int32))] [(.int (1 : Int32)), (.int (0 : Int32)), (.int x1), (.int (1 : Int32)), (.ref b16_1)])) rfl (by rw [hml]; rfl) (argsL := [(.ref b16_1), (.int (1 : Int32)), (.int x1), (.int (0 : Int32)), (.int (1 : Int32))]) (rest := []) (lenOf pd__Ljava_lang_String_IIII_Z rfl) rfl (by show 2 * 0 + _ ≤ _; exact Nat.le_of_eq rfl) (hb hby at_52) (fun _ _ => ⟨rfl, E53, (by decide : 7 + 0 ≤ _), (by decide : 65 + 0 ≤ _)⟩)
  dsimp only [Pt.U, Pt.locs, Pt.cells, Pt.slots] at X59 l59 y59 z59 st59 hQ59
  subst l59 y59 z59
  obtain ⟨rfl, N59q, E59⟩ := hQ59
  have N59 := Fr.app N53 N59q
  obtain ⟨_, _, ⟨T60, L60, k60, n60⟩, -, X60, ⟨Lc60, hQ60, l60, y60, z60⟩, st60⟩ := Jvm.LawKit.callS X59 hx (y := (⟨cs9, "at", cs13⟩ : MethodName)) ho16 (mvT hZ16 (ww hw 198 rfl)) (mvT hZ16 (ww hw 199 rfl)) (mvT hZ16 (ww hw 168 rfl)) (mvT hZ16 (ww hw 200 rfl)) (by decide) (backOf (W := 0) (rm37_2 l Z a0 hw [] b16_1 (1 : Int32) x1 (1 : Int32) (10 : Int32) T16.heap n0 o33 (by decide : ¬ ((1 : Int32) < (1 : Int32)))) hZ16 (ww hw 200 rfl) (ww hw 168 rfl) (by decide) (by decide)) (g := (mkF m 64 #[.val (.int x0), .val (.int x1), .val (.ref b16_1), .val (.int (1 : Int32))] [(.int (10 : Int32)), (.int (1 : Int32)), (.int x1), (.int (1 : Int32)), (.ref b16_1)])) rfl (by rw [hml]; rfl) (argsL := [(.ref b16_1), (.int (1 : Int32)), (.int x1), (.int (1 : Int32)), (.int (10 : Int32))]) (rest := []) (lenOf pd__Ljava_lang_String_IIII_Z rfl) rfl (by show 2 * 0 + _ ≤ _; exact Nat.le_of_eq rfl) (hb hby at_64) (fun _ _ => ⟨rfl, E59, (by decide : 7 + 0 ≤ _), (by decide : 65 + 0 ≤ _)⟩)
  dsimp only [Pt.U, Pt.locs, Pt.cells, Pt.slots] at X60 l60 y60 z60 st60 hQ60
  subst l60 y60 z60
  obtain ⟨rfl, N60q, E60⟩ := hQ60
  have N60 := Fr.app N59 N60q
  obtain ⟨_, _, ⟨T61, L61, k61, n61⟩, -, X61, ⟨Lc61, hQ61, l61, y61, z61⟩, st61⟩ := Jvm.LawKit.callS X60 hx (y := (⟨cs9, "at", cs13⟩ : MethodName)) ho16 (mvT hZ16 (ww hw 198 rfl)) (mvT hZ16 (ww hw 199 rfl)) (mvT hZ16 (ww hw 168 rfl)) (mvT hZ16 (ww hw 200 rfl)) (by decide) (backOf (W := 0) (rm37_2 l Z a0 hw [] b16_1 (1 : Int32) x1 (2 : Int32) (100 : Int32) T16.heap n0 o33 (by decide : ¬ ((2 : Int32) < (1 : Int32)))) hZ16 (ww hw 200 rfl) (ww hw 168 rfl) (by decide) (by decide)) (g := (mkF m 76 #[.val (.int x0), .val (.int x1), .val (.ref b16_1), .val (.int (1 : Int32))] [(.int (100 : Int32)), (.int (2 : Int32)), (.int x1), (.int (1 : Int32)), (.ref b16_1)])) rfl (by rw [hml]; rfl) (argsL := [(.ref b16_1), (.int (1 : Int32)), (.int x1), (.int (2 : Int32)), (.int (100 : Int32))]) (rest := []) (lenOf pd__Ljava_lang_String_IIII_Z rfl) rfl (by show 2 * 0 + _ ≤ _; exact Nat.le_of_eq rfl) (hb hby at_76) (fun _ _ => ⟨rfl, E60, (by decide : 7 + 0 ≤ _), (by decide : 65 + 0 ≤ _)⟩)
  dsimp only [Pt.U, Pt.locs, Pt.cells, Pt.slots] at X61 l61 y61 z61 st61 hQ61
  subst l61 y61 z61
  obtain ⟨rfl, N61q, E61⟩ := hQ61
  have N61 := Fr.app N60 N61q
  obtain ⟨_, _, ⟨T62, L62, k62, n62⟩, -, X62, ⟨Lc62, hQ62, l62, y62, z62⟩, st62⟩ := Jvm.LawKit.callS X61 hx (y := (⟨cs9, "at", cs13⟩ : MethodName)) ho16 (mvT hZ16 (ww hw 198 rfl)) (mvT hZ16 (ww hw 199 rfl)) (mvT hZ16 (ww hw 168 rfl)) (mvT hZ16 (ww hw 200 rfl)) (by decide) (backOf (W := 0) (rm37_2 l Z a0 hw [] b16_1 (1 : Int32) x1 (3 : Int32) (1000 : Int32) T16.heap n0 o33 (by decide : ¬ ((3 : Int32) < (1 : Int32)))) hZ16 (ww hw 200 rfl) (ww hw 168 rfl) (by decide) (by decide)) (g := (mkF m 89 #[.val (.int x0), .val (.int x1), .val (.ref b16_1), .val (.int (1 : Int32))] [(.int (1000 : Int32)), (.int (3 : Int32)), (.int x1), (.int (1 : Int32)), (.ref b16_1)])) rfl (by rw [hml]; rfl) (argsL := [(.ref b16_1), (.int (1 : Int32)), (.int x1), (.int (3 : Int32)), (.int (1000 : Int32))]) (rest := []) (lenOf pd__Ljava_lang_String_IIII_Z rfl) rfl (by show 2 * 0 + _ ≤ _; exact Nat.le_of_eq rfl) (hb hby at_89) (fun _ _ => ⟨rfl, E61, (by decide : 7 + 0 ≤ _), (by decide : 65 + 0 ≤ _)⟩)
  dsimp only [Pt.U, Pt.locs, Pt.cells, Pt.slots] at X62 l62 y62 z62 st62 hQ62
  subst l62 y62 z62
  obtain ⟨rfl, N62q, E62⟩ := hQ62
  have N62 := Fr.app N61 N62q
  obtain ⟨_, _, ⟨T63, L63, k63, n63⟩, -, X63, ⟨Lc63, hQ63, l63, y63, z63⟩, st63⟩ := Jvm.LawKit.callS X62 hx (y := (⟨cs9, "at", cs13⟩ : MethodName)) ho16 (mvT hZ16 (ww hw 198 rfl)) (mvT hZ16 (ww hw 199 rfl)) (mvT hZ16 (ww hw 168 rfl)) (mvT hZ16 (ww hw 200 rfl)) (by decide) (backOf (W := 0) (rm37_2 l Z a0 hw [] b16_1 (1 : Int32) x1 (4 : Int32) (10000 : Int32) T16.heap n0 o33 (by decide : ¬ ((4 : Int32) < (1 : Int32)))) hZ16 (ww hw 200 rfl) (ww hw 168 rfl) (by decide) (by decide)) (g := (mkF m 102 #[.val (.int x0), .val (.int x1), .val (.ref b16_1), .val (.int (1 : Int32))] [(.int (10000 : Int32)), (.int (4 : Int32)), (.int x1), (.int (1 : Int32)), (.ref b16_1)])) rfl (by rw [hml]; rfl) (argsL := [(.ref b16_1), (.int (1 : Int32)), (.int x1), (.int (4 : Int32)), (.int (10000 : Int32))]) (rest := []) (lenOf pd__Ljava_lang_String_IIII_Z rfl) rfl (by show 2 * 0 + _ ≤ _; exact Nat.le_of_eq rfl) (hb hby at_102) (fun _ _ => ⟨rfl, E62, (by decide : 7 + 0 ≤ _), (by decide : 65 + 0 ≤ _)⟩)
  dsimp only [Pt.U, Pt.locs, Pt.cells, Pt.slots] at X63 l63 y63 z63 st63 hQ63
  subst l63 y63 z63
  obtain ⟨rfl, N63q, E63⟩ := hQ63
  have N63 := Fr.app N62 N63q
  obtain ⟨_, _, ⟨T64, L64, k64, n64⟩, -, X64, ⟨Lc64, hQ64, l64, y64, z64⟩, st64⟩ := Jvm.LawKit.callS X63 hx (y := (⟨cs9, "at", cs13⟩ : MethodName)) ho16 (mvT hZ16 (ww hw 198 rfl)) (mvT hZ16 (ww hw 199 rfl)) (mvT hZ16 (ww hw 168 rfl)) (mvT hZ16 (ww hw 200 rfl)) (by decide) (backOf (W := 0) (rm37_2 l Z a0 hw [] b16_1 (1 : Int32) x1 (5 : Int32) (100000 : Int32) T16.heap n0 o33 (by decide : ¬ ((5 : Int32) < (1 : Int32)))) hZ16 (ww hw 200 rfl) (ww hw 168 rfl) (by decide) (by decide)) (g := (mkF m 114 #[.val (.int x0), .val (.int x1), .val (.ref b16_1), .val (.int (1 : Int32))] [(.int (100000 : Int32)), (.int (5 : Int32)), (.int x1), (.int (1 : Int32)), (.ref b16_1)])) rfl (by rw [hml]; rfl) (argsL := [(.ref b16_1), (.int (1 : Int32)), (.int x1), (.int (5 : Int32)), (.int (100000 : Int32))]) (rest := []) (lenOf pd__Ljava_lang_String_IIII_Z rfl) rfl (by show 2 * 0 + _ ≤ _; exact Nat.le_of_eq rfl) (hb hby at_114) (fun _ _ => ⟨rfl, E63, (by decide : 7 + 0 ≤ _), (by decide : 65 + 0 ≤ _)⟩)
  dsimp only [Pt.U, Pt.locs, Pt.cells, Pt.slots] at X64 l64 y64 z64 st64 hQ64
  subst l64 y64 z64
  obtain ⟨rfl, N64q, E64⟩ := hQ64
  have N64 := Fr.app N63 N64q
  obtain ⟨_, _, ⟨T65, L65, k65, n65⟩, -, X65, ⟨Lc65, hQ65, l65, y65, z65⟩, st65⟩ := Jvm.LawKit.callS X64 hx (y := (⟨cs9, "at", cs13⟩ : MethodName)) ho16 (mvT hZ16 (ww hw 198 rfl)) (mvT hZ16 (ww hw 199 rfl)) (mvT hZ16 (ww hw 168 rfl)) (mvT hZ16 (ww hw 200 rfl)) (by decide) (backOf (W := 0) (rm37_2 l Z a0 hw [] b16_1 (1 : Int32) x1 (6 : Int32) (1000000 : Int32) T16.heap n0 o33 (by decide : ¬ ((6 : Int32) < (1 : Int32)))) hZ16 (ww hw 200 rfl) (ww hw 168 rfl) (by decide) (by decide)) (g := (mkF m 127 #[.val (.int x0), .val (.int x1), .val (.ref b16_1), .val (.int (1 : Int32))] [(.int (1000000 : Int32)), (.int (6 : Int32)), (.int x1), (.int (1 : Int32)), (.ref b16_1)])) rfl (by rw [hml]; rfl) (argsL := [(.ref b16_1), (.int (1 : Int32)), (.int x1), (.int (6 : Int32)), (.int (1000000 : Int32))]) (rest := []) (lenOf pd__Ljava_lang_String_IIII_Z rfl) rfl (by show 2 * 0 + _ ≤ _; exact Nat.le_of_eq rfl) (hb hby at_127) (fun _ _ => ⟨rfl, E64, (by decide : 7 + 0 ≤ _), (by decide : 65 + 0 ≤ _)⟩)
  dsimp only [Pt.U, Pt.locs, Pt.cells, Pt.slots] at X65 l65 y65 z65 st65 hQ65
  subst l65 y65 z65
  obtain ⟨rfl, N65q, E65⟩ := hQ65
  have N65 := Fr.app N64 N65q
  obtain ⟨_, _, ⟨T66, L66, k66, n66⟩, -, X66, ⟨Lc66, hQ66, l66, y66, z66⟩, st66⟩ := Jvm.LawKit.callS X65 hx (y := (⟨cs9, "at", cs13⟩ : MethodName)) ho16 (mvT hZ16 (ww hw 198 rfl)) (mvT hZ16 (ww hw 199 rfl)) (mvT hZ16 (ww hw 168 rfl)) (mvT hZ16 (ww hw 200 rfl)) (by decide) (backOf (W := 0) (rm37_2 l Z a0 hw [] b16_1 (1 : Int32) x1 (7 : Int32) (10000000 : Int32) T16.heap n0 o33 (by decide : ¬ ((7 : Int32) < (1 : Int32)))) hZ16 (ww hw 200 rfl) (ww hw 168 rfl) (by decide) (by decide)) (g := (mkF m 140 #[.val (.int x0), .val (.int x1), .val (.ref b16_1), .val (.int (1 : Int32))] [(.int (10000000 : Int32)), (.int (7 : Int32)), (.int x1), (.int (1 : Int32)), (.ref b16_1)])) rfl (by rw [hml]; rfl) (argsL := [(.ref b16_1), (.int (1 : Int32)), (.int x1), (.int (7 : Int32)), (.int (10000000 : Int32))]) (rest := []) (lenOf pd__Ljava_lang_String_IIII_Z rfl) rfl (by show 2 * 0 + _ ≤ _; exact Nat.le_of_eq rfl) (hb hby at_140) (fun _ _ => ⟨rfl, E65, (by decide : 7 + 0 ≤ _), (by decide : 65 + 0 ≤ _)⟩)
  dsimp only [Pt.U, Pt.locs, Pt.cells, Pt.slots] at X66 l66 y66 z66 st66 hQ66
  subst l66 y66 z66
  obtain ⟨rfl, N66q, E66⟩ := hQ66
  have N66 := Fr.app N65 N66q
  obtain ⟨_, _, ⟨T67, L67, k67, n67⟩, -, X67, ⟨Lc67, hQ67, l67, y67, z67⟩, st67⟩ := Jvm.LawKit.callS X66 hx (y := (⟨cs9, "at", cs13⟩ : MethodName)) ho16 (mvT hZ16 (ww hw 198 rfl)) (mvT hZ16 (ww hw 199 rfl)) (mvT hZ16 (ww hw 168 rfl)) (mvT hZ16 (ww hw 200 rfl)) (by decide) (backOf (W := 0) (rm37_2 l Z a0 hw [] b16_1 (1 : Int32) x1 (8 : Int32) (100000000 : Int32) T16.heap n0 o33 (by decide : ¬ ((8 : Int32) < (1 : Int32)))) hZ16 (ww hw 200 rfl) (ww hw 168 rfl) (by decide) (by decide)) (g := (mkF m 153 #[.val (.int x0), .val (.int x1), .val (.ref b16_1), .val (.int (1 : Int32))] [(.int (100000000 : Int32)), (.int (8 : Int32)), (.int x1), (.int (1 : Int32)), (.ref b16_1)])) rfl (by rw [hml]; rfl) (argsL := [(.ref b16_1), (.int (1 : Int32)), (.int x1), (.int (8 : Int32)), (.int (100000000 : Int32))]) (rest := []) (lenOf pd__Ljava_lang_String_IIII_Z rfl) rfl (by show 2 * 0 + _ ≤ _; exact Nat.le_of_eq rfl) (hb hby at_153) (fun _ _ => ⟨rfl, E66, (by decide : 7 + 0 ≤ _), (by decide : 65 + 0 ≤ _)⟩)
  dsimp only [Pt.U, Pt.locs, Pt.cells, Pt.slots] at X67 l67 y67 z67 st67 hQ67
  subst l67 y67 z67
  obtain ⟨rfl, N67q, E67⟩ := hQ67
  have N67 := Fr.app N66 N67q
  obtain ⟨_, _, ⟨T68, L68, k68, n68⟩, -, X68, ⟨Lc68, hQ68, l68, y68, z68⟩, st68⟩ := Jvm.LawKit.callS X67 hx (y := (⟨cs9, "at", cs13⟩ : MethodName)) ho16 (mvT hZ16 (ww hw 198 rfl)) (mvT hZ16 (ww hw 199 rfl)) (mvT hZ16 (ww hw 168 rfl)) (mvT hZ16 (ww hw 200 rfl)) (by decide) (backOf (W := 0) (rm37_2 l Z a0 hw [] b16_1 (1 : Int32) x1 (9 : Int32) (1000000000 : Int32) T16.heap n0 o33 (by decide : ¬ ((9 : Int32) < (1 : Int32)))) hZ16 (ww hw 200 rfl) (ww hw 168 rfl) (by decide) (by decide)) (g := (mkF m 166 #[.val (.int x0), .val (.int x1), .val (.ref b16_1), .val (.int (1 : Int32))] [(.int (1000000000 : Int32)), (.int (9 : Int32)), (.int x1), (.int (1 : Int32)), (.ref b16_1)])) rfl (by rw [hml]; rfl) (argsL := [(.ref b16_1), (.int (1 : Int32)), (.int x1), (.int (9 : Int32)), (.int (1000000000 : Int32))]) (rest := []) (lenOf pd__Ljava_lang_String_IIII_Z rfl) rfl (by show 2 * 0 + _ ≤ _; exact Nat.le_of_eq rfl) (hb hby at_166) (fun _ _ => ⟨rfl, E67, (by decide : 7 + 0 ≤ _), (by decide : 65 + 0 ≤ _)⟩)
  dsimp only [Pt.U, Pt.locs, Pt.cells, Pt.slots] at X68 l68 y68 z68 st68 hQ68
  subst l68 y68 z68
  obtain ⟨rfl, N68q, E68⟩ := hQ68
  have N68 := Fr.app N67 N68q
  obtain ⟨fs, hr, hrun, hended, hend⟩ := leaveW (s := s) (vm₁ := T16.vm) X68 hS16 (by rw [E68]; exact (Nat.le_refl _)) (v := some (.int (1 : Int32))) (fun h => by rw [Bd.returns] at h; cases h)
  have hCR : CHr Z consts_1 s.vm s.heap T68.vm T68.heap := by rw [hh, E68]; exact CHr.trans R30 (CHv.at (s := s) (vm0 := T16.vm) X68 hZ16 hEL R30.1)
  refine ⟨_, _, pre0 _ ?_, hrun, hended, _, _, rfl, ?_, hCR, hend.1, hend.2.1, hend.2.2.1, hend.2.2.2.mono (by decide) (by decide)⟩
  · show Steps p.tables e below (s₁.setTop (mkF m 0 #[.val (.int x0), .unset, .unset, .unset] [])) _
    refine XS.iconst X0.here hx rfl (hb hby at_0) ?_
    refine XS.iloadN X0.here hx rfl (hb hby at_1) rfl ?_
    refine X0.ldcInt hx hown (mvT hZ (ww hw 0 rfl)) (g := (mkF m 2 #[.val (.int x0), .unset, .unset, .unset] [(.int x0), (.int (1 : Int32))])) rfl (hb hby at_2) _ ?_
    show Steps p.tables e below (s₁.setTop (mkF m 4 #[.val (.int x0), .unset, .unset, .unset] [(.int (2147483647 : Int32)), (.int x0), (.int (1 : Int32))])) _
    refine XS.iand X0.here hx rfl (hb hby at_4) rfl ?_
    refine X0.ldcInt hx hown (mvT hZ (ww hw 0 rfl)) (g := (mkF m 5 #[.val (.int x0), .unset, .unset, .unset] [(.int (x0 &&& (2147483647 : Int32))), (.int (1 : Int32))])) rfl (hb hby at_5) _ ?_
    show Steps p.tables e below (s₁.setTop (mkF m 7 #[.val (.int x0), .unset, .unset, .unset] [(.int (2147483647 : Int32)), (.int (x0 &&& (2147483647 : Int32))), (.int (1 : Int32))])) _
    refine iremM (g := (mkF m 7 #[.val (.int x0), .unset, .unset, .unset] [(.int (2147483647 : Int32)), (.int (x0 &&& (2147483647 : Int32))), (.int (1 : Int32))])) X0 hx rfl (hb hby at_7) rfl (by decide : ¬ ((2147483647 : Int32) = (0 : Int32))) ?_
    show Steps p.tables e below (s₁.setTop (mkF m 8 #[.val (.int x0), .unset, .unset, .unset] [(.int ((x0 &&& (2147483647 : Int32)) % (2147483647 : Int32))), (.int (1 : Int32))])) _
    refine XS.iadd X0.here hx rfl (hb hby at_8) rfl ?_
    show Steps p.tables e below (s₁.setTop (mkF m 9 #[.val (.int x0), .unset, .unset, .unset] [(.int ((1 : Int32) + ((x0 &&& (2147483647 : Int32)) % (2147483647 : Int32))))])) _
    rw [hq1]
    show Steps p.tables e below (s₁.setTop (mkF m 9 #[.val (.int x0), .unset, .unset, .unset] [(.int x1)])) _
    refine XS.istoreN X0.here hx rfl (hb hby at_9) rfl (l' := #[.val (.int x0), .val (.int x1), .unset, .unset]) rfl ?_
    refine XS.iloadN X0.here hx rfl (hb hby at_10) rfl ?_
    refine st16.trans ?_
    show Steps p.tables e below (T16.setTop (mkF m 14 #[.val (.int x0), .val (.int x1), .unset, .unset] [(.ref b16_0)])) _
    refine st34.trans ?_
    show Steps p.tables e below (T34.setTop (mkF m 17 #[.val (.int x0), .val (.int x1), .unset, .unset] [(.ref b16_1)])) _
    refine XS.astoreN X34.here hx rfl (hb hby at_17) rfl rfl (l' := #[.val (.int x0), .val (.int x1), .val (.ref b16_1), .unset]) rfl ?_
    refine XS.iloadN X34.here hx rfl (hb hby at_18) rfl ?_
    refine st45 _ ?_
    show Steps p.tables e below (T45.setTop (mkF m 22 #[.val (.int x0), .val (.int x1), .val (.ref b16_1), .unset] [(.int (1 : Int32))])) _
    refine XS.istoreN X45.here hx rfl (hb hby at_22) rfl (l' := #[.val (.int x0), .val (.int x1), .val (.ref b16_1), .val (.int (1 : Int32))]) rfl ?_
    refine XS.aloadN X45.here hx rfl (hb hby at_23) rfl rfl ?_
    refine st46.trans ?_
    show Steps p.tables e below (T46.setTop (mkF m 27 #[.val (.int x0), .val (.int x1), .val (.ref b16_1), .val (.int (1 : Int32))] [(.int ((((1 : Int32) + (SBG.strSizeOf x1)) - (0 : Int32)) >>> ((nar .byte (0 : Int32)) &&& 31)))])) _
    refine XS.iloadN X46.here hx rfl (hb hby at_27) rfl ?_
    refine XS.iconst X46.here hx rfl (hb hby at_28) ?_
    refine XS.iadd X46.here hx rfl (hb hby at_29) rfl ?_
    refine XS.icmpYes X46.here hx rfl (pc0 := 30) (pc' := 35) rfl (hb hby at_30) rfl (teq hc48).1 (by decide) (by decide) ?_
    show Steps p.tables e below (T46.setTop (mkF m 35 #[.val (.int x0), .val (.int x1), .val (.ref b16_1), .val (.int (1 : Int32))] [])) _
    refine XS.aloadN X46.here hx rfl (hb hby at_35) rfl rfl ?_
    refine XS.iconst X46.here hx rfl (hb hby at_36) ?_
    refine st53.trans ?_
    show Steps p.tables e below (T53.setTop (mkF m 40 #[.val (.int x0), .val (.int x1), .val (.ref b16_1), .val (.int (1 : Int32))] [(.int (nar .char (nar .char (((own_at t8 ((0 : Int32)).toNatClampNeg) &&& (255 : Int32)).toUInt32.toUInt16.toUInt32.toInt32))))])) _
    refine XS.bipush X53.here hx rfl (hb hby at_40) ?_
    refine XS.icmpYes X53.here hx rfl (pc0 := 42) (pc' := 47) rfl (hb hby at_42) rfl (teq hc55).1 (by decide) (by decide) ?_
    show Steps p.tables e below (T53.setTop (mkF m 47 #[.val (.int x0), .val (.int x1), .val (.ref b16_1), .val (.int (1 : Int32))] [])) _
    refine XS.aloadN X53.here hx rfl (hb hby at_47) rfl rfl ?_
    refine XS.iloadN X53.here hx rfl (hb hby at_48) rfl ?_
    refine XS.iloadN X53.here hx rfl (hb hby at_49) rfl ?_
    refine XS.iconst X53.here hx rfl (hb hby at_50) ?_
    show Steps p.tables e below (T53.setTop (mkF m 51 #[.val (.int x0), .val (.int x1), .val (.ref b16_1), .val (.int (1 : Int32))] [(.int (0 : Int32)), (.int x1), (.int (1 : Int32)), (.ref b16_1)])) _
    refine XS.iconst X53.here hx rfl (hb hby at_51) ?_
    refine st59 _ ?_
    show Steps p.tables e below (T59.setTop (mkF m 55 #[.val (.int x0), .val (.int x1), .val (.ref b16_1), .val (.int (1 : Int32))] [(.int (1 : Int32))])) _
    refine XS.ifNo X59.here hx rfl (hb hby at_55) rfl ((if0 _ _).trans (feq (by decide : ¬ ((1 : Int32) = (0 : Int32)))).1) ?_
    refine XS.aloadN X59.here hx rfl (hb hby at_58) rfl rfl ?_
    refine XS.iloadN X59.here hx rfl (hb hby at_59) rfl ?_
    refine XS.iloadN X59.here hx rfl (hb hby at_60) rfl ?_
    show Steps p.tables e below (T59.setTop (mkF m 61 #[.val (.int x0), .val (.int x1), .val (.ref b16_1), .val (.int (1 : Int32))] [(.int x1), (.int (1 : Int32)), (.ref b16_1)])) _
    refine XS.iconst X59.here hx rfl (hb hby at_61) ?_
    refine XS.bipush X59.here hx rfl (hb hby at_62) ?_
    refine st60 _ ?_
    show Steps p.tables e below (T60.setTop (mkF m 67 #[.val (.int x0), .val (.int x1), .val (.ref b16_1), .val (.int (1 : Int32))] [(.int (1 : Int32))])) _
    refine XS.ifNo X60.here hx rfl (hb hby at_67) rfl ((if0 _ _).trans (feq (by decide : ¬ ((1 : Int32) = (0 : Int32)))).1) ?_
    refine XS.aloadN X60.here hx rfl (hb hby at_70) rfl rfl ?_
    refine XS.iloadN X60.here hx rfl (hb hby at_71) rfl ?_
    refine XS.iloadN X60.here hx rfl (hb hby at_72) rfl ?_
    show Steps p.tables e below (T60.setTop (mkF m 73 #[.val (.int x0), .val (.int x1), .val (.ref b16_1), .val (.int (1 : Int32))] [(.int x1), (.int (1 : Int32)), (.ref b16_1)])) _
    refine XS.iconst X60.here hx rfl (hb hby at_73) ?_
    refine XS.bipush X60.here hx rfl (hb hby at_74) ?_
    refine st61 _ ?_
    show Steps p.tables e below (T61.setTop (mkF m 79 #[.val (.int x0), .val (.int x1), .val (.ref b16_1), .val (.int (1 : Int32))] [(.int (1 : Int32))])) _
    refine XS.ifNo X61.here hx rfl (hb hby at_79) rfl ((if0 _ _).trans (feq (by decide : ¬ ((1 : Int32) = (0 : Int32)))).1) ?_
    refine XS.aloadN X61.here hx rfl (hb hby at_82) rfl rfl ?_
    refine XS.iloadN X61.here hx rfl (hb hby at_83) rfl ?_
    refine XS.iloadN X61.here hx rfl (hb hby at_84) rfl ?_
    show Steps p.tables e below (T61.setTop (mkF m 85 #[.val (.int x0), .val (.int x1), .val (.ref b16_1), .val (.int (1 : Int32))] [(.int x1), (.int (1 : Int32)), (.ref b16_1)])) _
    refine XS.iconst X61.here hx rfl (hb hby at_85) ?_
    refine XS.sipush X61.here hx rfl (hb hby at_86) ?_
    refine st62 _ ?_
    show Steps p.tables e below (T62.setTop (mkF m 92 #[.val (.int x0), .val (.int x1), .val (.ref b16_1), .val (.int (1 : Int32))] [(.int (1 : Int32))])) _
    refine XS.ifNo X62.here hx rfl (hb hby at_92) rfl ((if0 _ _).trans (feq (by decide : ¬ ((1 : Int32) = (0 : Int32)))).1) ?_
    refine XS.aloadN X62.here hx rfl (hb hby at_95) rfl rfl ?_
    refine XS.iloadN X62.here hx rfl (hb hby at_96) rfl ?_
    refine XS.iloadN X62.here hx rfl (hb hby at_97) rfl ?_
    show Steps p.tables e below (T62.setTop (mkF m 98 #[.val (.int x0), .val (.int x1), .val (.ref b16_1), .val (.int (1 : Int32))] [(.int x1), (.int (1 : Int32)), (.ref b16_1)])) _
    refine XS.iconst X62.here hx rfl (hb hby at_98) ?_
    refine XS.sipush X62.here hx rfl (hb hby at_99) ?_
    refine st63 _ ?_
    show Steps p.tables e below (T63.setTop (mkF m 105 #[.val (.int x0), .val (.int x1), .val (.ref b16_1), .val (.int (1 : Int32))] [(.int (1 : Int32))])) _
    refine XS.ifNo X63.here hx rfl (hb hby at_105) rfl ((if0 _ _).trans (feq (by decide : ¬ ((1 : Int32) = (0 : Int32)))).1) ?_
    refine XS.aloadN X63.here hx rfl (hb hby at_108) rfl rfl ?_
    refine XS.iloadN X63.here hx rfl (hb hby at_109) rfl ?_
    refine XS.iloadN X63.here hx rfl (hb hby at_110) rfl ?_
    show Steps p.tables e below (T63.setTop (mkF m 111 #[.val (.int x0), .val (.int x1), .val (.ref b16_1), .val (.int (1 : Int32))] [(.int x1), (.int (1 : Int32)), (.ref b16_1)])) _
    refine XS.iconst X63.here hx rfl (hb hby at_111) ?_
    refine X63.ldcInt hx ho16 (mvT hZ16 (ww hw 174 rfl)) (g := (mkF m 112 #[.val (.int x0), .val (.int x1), .val (.ref b16_1), .val (.int (1 : Int32))] [(.int (5 : Int32)), (.int x1), (.int (1 : Int32)), (.ref b16_1)])) rfl (hb hby at_112) _ ?_
    show Steps p.tables e below (T63.setTop (mkF m 114 #[.val (.int x0), .val (.int x1), .val (.ref b16_1), .val (.int (1 : Int32))] [(.int (100000 : Int32)), (.int (5 : Int32)), (.int x1), (.int (1 : Int32)), (.ref b16_1)])) _
    refine st64 _ ?_
    show Steps p.tables e below (T64.setTop (mkF m 117 #[.val (.int x0), .val (.int x1), .val (.ref b16_1), .val (.int (1 : Int32))] [(.int (1 : Int32))])) _
    refine XS.ifNo X64.here hx rfl (hb hby at_117) rfl ((if0 _ _).trans (feq (by decide : ¬ ((1 : Int32) = (0 : Int32)))).1) ?_
    refine XS.aloadN X64.here hx rfl (hb hby at_120) rfl rfl ?_
    refine XS.iloadN X64.here hx rfl (hb hby at_121) rfl ?_
    refine XS.iloadN X64.here hx rfl (hb hby at_122) rfl ?_
    show Steps p.tables e below (T64.setTop (mkF m 123 #[.val (.int x0), .val (.int x1), .val (.ref b16_1), .val (.int (1 : Int32))] [(.int x1), (.int (1 : Int32)), (.ref b16_1)])) _
    refine XS.bipush X64.here hx rfl (hb hby at_123) ?_
    refine X64.ldcInt hx ho16 (mvT hZ16 (ww hw 173 rfl)) (g := (mkF m 125 #[.val (.int x0), .val (.int x1), .val (.ref b16_1), .val (.int (1 : Int32))] [(.int (6 : Int32)), (.int x1), (.int (1 : Int32)), (.ref b16_1)])) rfl (hb hby at_125) _ ?_
    show Steps p.tables e below (T64.setTop (mkF m 127 #[.val (.int x0), .val (.int x1), .val (.ref b16_1), .val (.int (1 : Int32))] [(.int (1000000 : Int32)), (.int (6 : Int32)), (.int x1), (.int (1 : Int32)), (.ref b16_1)])) _
    refine st65 _ ?_
    show Steps p.tables e below (T65.setTop (mkF m 130 #[.val (.int x0), .val (.int x1), .val (.ref b16_1), .val (.int (1 : Int32))] [(.int (1 : Int32))])) _
    refine XS.ifNo X65.here hx rfl (hb hby at_130) rfl ((if0 _ _).trans (feq (by decide : ¬ ((1 : Int32) = (0 : Int32)))).1) ?_
    refine XS.aloadN X65.here hx rfl (hb hby at_133) rfl rfl ?_
    refine XS.iloadN X65.here hx rfl (hb hby at_134) rfl ?_
    refine XS.iloadN X65.here hx rfl (hb hby at_135) rfl ?_
    show Steps p.tables e below (T65.setTop (mkF m 136 #[.val (.int x0), .val (.int x1), .val (.ref b16_1), .val (.int (1 : Int32))] [(.int x1), (.int (1 : Int32)), (.ref b16_1)])) _
    refine XS.bipush X65.here hx rfl (hb hby at_136) ?_
    refine X65.ldcInt hx ho16 (mvT hZ16 (ww hw 172 rfl)) (g := (mkF m 138 #[.val (.int x0), .val (.int x1), .val (.ref b16_1), .val (.int (1 : Int32))] [(.int (7 : Int32)), (.int x1), (.int (1 : Int32)), (.ref b16_1)])) rfl (hb hby at_138) _ ?_
    show Steps p.tables e below (T65.setTop (mkF m 140 #[.val (.int x0), .val (.int x1), .val (.ref b16_1), .val (.int (1 : Int32))] [(.int (10000000 : Int32)), (.int (7 : Int32)), (.int x1), (.int (1 : Int32)), (.ref b16_1)])) _
    refine st66 _ ?_
    show Steps p.tables e below (T66.setTop (mkF m 143 #[.val (.int x0), .val (.int x1), .val (.ref b16_1), .val (.int (1 : Int32))] [(.int (1 : Int32))])) _
    refine XS.ifNo X66.here hx rfl (hb hby at_143) rfl ((if0 _ _).trans (feq (by decide : ¬ ((1 : Int32) = (0 : Int32)))).1) ?_
    refine XS.aloadN X66.here hx rfl (hb hby at_146) rfl rfl ?_
    refine XS.iloadN X66.here hx rfl (hb hby at_147) rfl ?_
    refine XS.iloadN X66.here hx rfl (hb hby at_148) rfl ?_
    show Steps p.tables e below (T66.setTop (mkF m 149 #[.val (.int x0), .val (.int x1), .val (.ref b16_1), .val (.int (1 : Int32))] [(.int x1), (.int (1 : Int32)), (.ref b16_1)])) _
    refine XS.bipush X66.here hx rfl (hb hby at_149) ?_
    refine X66.ldcInt hx ho16 (mvT hZ16 (ww hw 171 rfl)) (g := (mkF m 151 #[.val (.int x0), .val (.int x1), .val (.ref b16_1), .val (.int (1 : Int32))] [(.int (8 : Int32)), (.int x1), (.int (1 : Int32)), (.ref b16_1)])) rfl (hb hby at_151) _ ?_
    show Steps p.tables e below (T66.setTop (mkF m 153 #[.val (.int x0), .val (.int x1), .val (.ref b16_1), .val (.int (1 : Int32))] [(.int (100000000 : Int32)), (.int (8 : Int32)), (.int x1), (.int (1 : Int32)), (.ref b16_1)])) _
    refine st67 _ ?_
    show Steps p.tables e below (T67.setTop (mkF m 156 #[.val (.int x0), .val (.int x1), .val (.ref b16_1), .val (.int (1 : Int32))] [(.int (1 : Int32))])) _
    refine XS.ifNo X67.here hx rfl (hb hby at_156) rfl ((if0 _ _).trans (feq (by decide : ¬ ((1 : Int32) = (0 : Int32)))).1) ?_
    refine XS.aloadN X67.here hx rfl (hb hby at_159) rfl rfl ?_
    refine XS.iloadN X67.here hx rfl (hb hby at_160) rfl ?_
    refine XS.iloadN X67.here hx rfl (hb hby at_161) rfl ?_
    show Steps p.tables e below (T67.setTop (mkF m 162 #[.val (.int x0), .val (.int x1), .val (.ref b16_1), .val (.int (1 : Int32))] [(.int x1), (.int (1 : Int32)), (.ref b16_1)])) _
    refine XS.bipush X67.here hx rfl (hb hby at_162) ?_
    refine X67.ldcInt hx ho16 (mvT hZ16 (ww hw 170 rfl)) (g := (mkF m 164 #[.val (.int x0), .val (.int x1), .val (.ref b16_1), .val (.int (1 : Int32))] [(.int (9 : Int32)), (.int x1), (.int (1 : Int32)), (.ref b16_1)])) rfl (hb hby at_164) _ ?_
    show Steps p.tables e below (T67.setTop (mkF m 166 #[.val (.int x0), .val (.int x1), .val (.ref b16_1), .val (.int (1 : Int32))] [(.int (1000000000 : Int32)), (.int (9 : Int32)), (.int x1), (.int (1 : Int32)), (.ref b16_1)])) _
    refine st68 _ ?_
    show Steps p.tables e below (T68.setTop (mkF m 169 #[.val (.int x0), .val (.int x1), .val (.ref b16_1), .val (.int (1 : Int32))] [(.int (1 : Int32))])) _
    refine XS.ifNo X68.here hx rfl (hb hby at_169) rfl ((if0 _ _).trans (feq (by decide : ¬ ((1 : Int32) = (0 : Int32)))).1) ?_
    refine XS.iconst X68.here hx rfl (hb hby at_172) ?_
    refine XS.goto X68.here hx rfl (pc0 := 173) (pc' := 177) rfl (hb hby at_173) (by decide) (by decide) ?_
    show Steps p.tables e below (T68.setTop (mkF m 177 #[.val (.int x0), .val (.int x1), .val (.ref b16_1), .val (.int (1 : Int32))] [(.int (1 : Int32))])) _
    exact retN X68 hx (t := .boolean) Bd.returns (by simp) (hb hby at_177) hr
  · show Q0_1 Z x0 x1 x2 r3 r4 d5 r6 d7 t8 u9 h0 n0 _ T68.heap _
    rw [E68]
    exact ⟨rfl, N68⟩
theorem d31_77 : decode method_3_code 77 = .ok (.iconst 2, 1) := by decide +kernel
theorem d31_78 : decode method_3_code 78 = .ok (.ireturn, 1) := by decide +kernel
def Q31_2 (Z : State) (x0 : Int32) (h0 : Heap) (n0 : Nat) (v : Option Value) (h : Heap) (L : List Loc) : Prop := v = some (.int (2 : Int32)) ∧ Fr n0 L ∧ h = h0
set_option maxRecDepth 65536 in
set_option maxHeartbeats 40000000 in
theorem rm31_2 (l : Launch) (Z : State) (a0 : Array Value) (hw : ∀ d ∈ tables_1, d.before a0 Z = true) (ws : List Jvm.Cond) (x0 : Int32) (h0 : Heap) (n0 : Nat) (O0 : Old Z n0 h0) (hc1 : x0 < (1000000000 : Int32)) (hc2 : x0 < (100000000 : Int32)) (hc3 : x0 < (10000000 : Int32)) (hc4 : x0 < (1000000 : Int32)) (hc5 : x0 < (100000 : Int32)) (hc6 : x0 < (10000 : Int32)) (hc7 : x0 < (1000 : Int32)) (hc8 : x0 < (100 : Int32)) (hc9 : ¬ (x0 < (10 : Int32))) :
    MetFree l (⟨cs9, "digits", "(I)I"⟩ : MethodName) (head1 (Jvm.Cond.code (⟨cs9, "digits", "(I)I"⟩ : MethodName) method_3_code 1 (some .int) :: ws) ({ frames := 0, cells := 0, slots := 0, locals := 0 } : Room)) (fun a U => a = #[(.int x0)] ∧ Z.Warmed39 U.vm ∧ U.heap = h0) (fun _ _ _ _ _ => True) (fun _ U o U' => ∃ v L, o = .returned v ∧ Q31_2 Z x0 h0 n0 v U'.heap L ∧ FrameEnd U o U' L ({ frames := 0, cells := 0, slots := 0, locals := 0 } : Room).cells ({ frames := 0, cells := 0, slots := 0, locals := 0 } : Room).slots) := by
  refine MetFree.of_bodySF (plainFor_of_name pn_com_example_manojo_manojo_ParameterPositionalPinLaw) hisR ?_
  intro p e s m args below meth c s₁ Bd hml0 hP hK
  obtain ⟨rfl, hZ, hh⟩ := hP
  have hx := Bd.exec
  have hby := Bd.bytes
  have hml : c.maxLocals = 1 := hml0
  have hown : s.vm.findClass cs9 = some m.cls := findClass_of_methodNamed Bd.named
  have hnm := (name_of_methodNamed Bd.named Bd.method).1
  have X0 : Stand p l e ({ frames := 0, cells := 0, slots := 0, locals := 0 } : Room) s m #[(.int x0)] below meth c s₁ [] 0 0 := Stand.of_body Bd
  have e0 : s₁.heap = h0 := by rw [← hh, Bd.state]; rfl
  have N0 := Fr.nil n0
  have pre0 : ∀ t, Steps p.tables e below (s₁.setTop (mkF m 0 #[.val (.int x0)] [])) t → Steps p.tables e below (s₁.setTop (entryFrame m #[(.int x0)] 1)) t := fun t k => castTop (by first | (simp [entryFrame, mkF, argsToLocals, Value.category]; done) | rfl) k
  obtain ⟨fs, hr, hrun, hended, hW, hsame⟩ := X0.leave (v := some (.int (2 : Int32))) (fun h => by rw [Bd.returns] at h; cases h)
  refine ⟨_, _, pre0 _ ?_, hrun, hended, _, _, rfl, ?_, ⟨_, rfl⟩, hW, hsame.mono (by decide) (by decide)⟩
  · show Steps p.tables e below (s₁.setTop (mkF m 0 #[.val (.int x0)] [])) _
    refine XS.iloadN X0.here hx rfl (hb hby d31_0) rfl ?_
    refine X0.ldcInt hx hown (mvT hZ (ww hw 170 rfl)) (g := (mkF m 1 #[.val (.int x0)] [(.int x0)])) rfl (hb hby d31_1) _ ?_
    show Steps p.tables e below (s₁.setTop (mkF m 3 #[.val (.int x0)] [(.int (1000000000 : Int32)), (.int x0)])) _
    refine XS.icmpYes X0.here hx rfl (pc0 := 3) (pc' := 9) rfl (hb hby d31_3) rfl (tlt hc1).1 (by decide) (by decide) ?_
    show Steps p.tables e below (s₁.setTop (mkF m 9 #[.val (.int x0)] [])) _
    refine XS.iloadN X0.here hx rfl (hb hby d31_9) rfl ?_
    refine X0.ldcInt hx hown (mvT hZ (ww hw 171 rfl)) (g := (mkF m 10 #[.val (.int x0)] [(.int x0)])) rfl (hb hby d31_10) _ ?_
    show Steps p.tables e below (s₁.setTop (mkF m 12 #[.val (.int x0)] [(.int (100000000 : Int32)), (.int x0)])) _
    refine XS.icmpYes X0.here hx rfl (pc0 := 12) (pc' := 18) rfl (hb hby d31_12) rfl (tlt hc2).1 (by decide) (by decide) ?_
    show Steps p.tables e below (s₁.setTop (mkF m 18 #[.val (.int x0)] [])) _
    refine XS.iloadN X0.here hx rfl (hb hby d31_18) rfl ?_
    refine X0.ldcInt hx hown (mvT hZ (ww hw 172 rfl)) (g := (mkF m 19 #[.val (.int x0)] [(.int x0)])) rfl (hb hby d31_19) _ ?_
    show Steps p.tables e below (s₁.setTop (mkF m 21 #[.val (.int x0)] [(.int (10000000 : Int32)), (.int x0)])) _
    refine XS.icmpYes X0.here hx rfl (pc0 := 21) (pc' := 27) rfl (hb hby d31_21) rfl (tlt hc3).1 (by decide) (by decide) ?_
    show Steps p.tables e below (s₁.setTop (mkF m 27 #[.val (.int x0)] [])) _
    refine XS.iloadN X0.here hx rfl (hb hby d31_27) rfl ?_
    refine X0.ldcInt hx hown (mvT hZ (ww hw 173 rfl)) (g := (mkF m 28 #[.val (.int x0)] [(.int x0)])) rfl (hb hby d31_28) _ ?_
    show Steps p.tables e below (s₁.setTop (mkF m 30 #[.val (.int x0)] [(.int (1000000 : Int32)), (.int x0)])) _
    refine XS.icmpYes X0.here hx rfl (pc0 := 30) (pc' := 36) rfl (hb hby d31_30) rfl (tlt hc4).1 (by decide) (by decide) ?_
    show Steps p.tables e below (s₁.setTop (mkF m 36 #[.val (.int x0)] [])) _
    refine XS.iloadN X0.here hx rfl (hb hby d31_36) rfl ?_
    refine X0.ldcInt hx hown (mvT hZ (ww hw 174 rfl)) (g := (mkF m 37 #[.val (.int x0)] [(.int x0)])) rfl (hb hby d31_37) _ ?_
    show Steps p.tables e below (s₁.setTop (mkF m 39 #[.val (.int x0)] [(.int (100000 : Int32)), (.int x0)])) _
    refine XS.icmpYes X0.here hx rfl (pc0 := 39) (pc' := 45) rfl (hb hby d31_39) rfl (tlt hc5).1 (by decide) (by decide) ?_
    show Steps p.tables e below (s₁.setTop (mkF m 45 #[.val (.int x0)] [])) _
    refine XS.iloadN X0.here hx rfl (hb hby d31_45) rfl ?_
    refine XS.sipush X0.here hx rfl (hb hby d31_46) ?_
    refine XS.icmpYes X0.here hx rfl (pc0 := 49) (pc' := 54) rfl (hb hby d31_49) rfl (tlt hc6).1 (by decide) (by decide) ?_
    show Steps p.tables e below (s₁.setTop (mkF m 54 #[.val (.int x0)] [])) _
    refine XS.iloadN X0.here hx rfl (hb hby d31_54) rfl ?_
    refine XS.sipush X0.here hx rfl (hb hby d31_55) ?_
    refine XS.icmpYes X0.here hx rfl (pc0 := 58) (pc' := 63) rfl (hb hby d31_58) rfl (tlt hc7).1 (by decide) (by decide) ?_
    show Steps p.tables e below (s₁.setTop (mkF m 63 #[.val (.int x0)] [])) _
    refine XS.iloadN X0.here hx rfl (hb hby d31_63) rfl ?_
    refine XS.bipush X0.here hx rfl (hb hby d31_64) ?_
    refine XS.icmpYes X0.here hx rfl (pc0 := 66) (pc' := 71) rfl (hb hby d31_66) rfl (tlt hc8).1 (by decide) (by decide) ?_
    show Steps p.tables e below (s₁.setTop (mkF m 71 #[.val (.int x0)] [])) _
    refine XS.iloadN X0.here hx rfl (hb hby d31_71) rfl ?_
    refine XS.bipush X0.here hx rfl (hb hby d31_72) ?_
    refine XS.icmpNo X0.here hx rfl (hb hby d31_74) rfl (flt hc9).1 ?_
    refine XS.iconst X0.here hx rfl (hb hby d31_77) ?_
    show Steps p.tables e below (s₁.setTop (mkF m 78 #[.val (.int x0)] [(.int (2 : Int32))])) _
    exact retOut X0 hx (i := .ireturn) Bd.returns rfl (Or.inl ⟨rfl, Or.inl rfl, _, rfl⟩) (hb hby d31_78) hr
  · show Q31_2 Z x0 h0 n0 _ s₁.heap _
    rw [e0]
    exact ⟨rfl, N0, rfl⟩
def Q0_2 (Z : State) (x0 : Int32) (x1 : Int32) (x2 : Int32) (r3 : Addr) (r4 : Addr) (d5 : Cell) (r6 : Addr) (d7 : Cell) (t8 : List Value) (u9 : Value) (h0 : Heap) (n0 : Nat) (v : Option Value) (h : Heap) (L : List Loc) : Prop := v = some (.int (1 : Int32)) ∧ Fr n0 L
set_option maxRecDepth 65536 in
set_option maxHeartbeats 40000000 in
theorem rm0_2 (l : Launch) (Z : State) (a0 : Array Value) (hw : ∀ d ∈ tables_1, d.before a0 Z = true) (ws : List Jvm.Cond) (x0 : Int32) (x1 : Int32) (x2 : Int32) (r3 : Addr) (r4 : Addr) (d5 : Cell) (r6 : Addr) (d7 : Cell) (t8 : List Value) (u9 : Value) (h0 : Heap) (n0 : Nat) (O0 : Old Z n0 h0) (hq1 : ((1 : Int32) + ((x0 &&& (2147483647 : Int32)) % (2147483647 : Int32))) = x1) (f2 : Sta Z Z.heap "java/lang/String" "COMPACT_STRINGS" "Z" (.int x2)) (hc3 : ¬ (x2 = (0 : Int32))) (hc4 : ¬ ((0 : Int32) < (((1 : Int32) + (SBG.strSizeOf x1)) - ((16 : Int32) >>> ((0 : Int32) &&& 31))))) (f5 : own_TB Z r3 r4 d5 r6 d7) (hc6 : ¬ (((1 : Int32) + (SBG.strSizeOf x1)) < 0)) (hc7 : (((1 : Int32) + (SBG.strSizeOf x1))).toNatClampNeg ≤ ((16 : Int32)).toNatClampNeg) (hc8 : own_sz x1 ≤ (((1 : Int32) + (SBG.strSizeOf x1))).toNatClampNeg) (hc9 : ¬ (((1 : Int32) + (SBG.strSizeOf x1)) = (16 : Int32))) (hc10 : ¬ (((1 : Int32) + (SBG.strSizeOf x1)) < (0 : Int32))) (hc11 : ¬ ((((1 : Int32) + (SBG.strSizeOf x1)) - (0 : Int32)) < 0)) (hc12 : ((((1 : Int32) + (SBG.strSizeOf x1)) - (0 : Int32))).toNatClampNeg ≤ 32) (hc13 : (((1 : Int32) + (SBG.strSizeOf x1)) - (0 : Int32)) < ((16 : Int32) - (0 : Int32))) (hc14 : ((((1 : Int32) + (SBG.strSizeOf x1)) - (0 : Int32))).toNatClampNeg ≤ ((16 : Int32)).toNatClampNeg) (hq31 : (own_us [(.int (63 : Int32)), (.int (0 : Int32)), (.int (0 : Int32)), (.int (0 : Int32)), (.int (0 : Int32)), (.int (0 : Int32)), (.int (0 : Int32)), (.int (0 : Int32)), (.int (0 : Int32)), (.int (0 : Int32)), (.int (0 : Int32)), (.int (0 : Int32)), (.int (0 : Int32)), (.int (0 : Int32)), (.int (0 : Int32)), (.int (0 : Int32))] (.int (0 : Int32)) ((16 : Int32)).toNatClampNeg x1 (((1 : Int32) + (SBG.strSizeOf x1))).toNatClampNeg) = t8) (hc36 : x1 < (1000000000 : Int32)) (hc37 : x1 < (100000000 : Int32)) (hc38 : x1 < (10000000 : Int32)) (hc39 : x1 < (1000000 : Int32)) (hc40 : x1 < (100000 : Int32)) (hc41 : x1 < (10000 : Int32)) (hc42 : x1 < (1000 : Int32)) (hc43 : x1 < (100 : Int32)) (hc44 : ¬ (x1 < (10 : Int32))) (hc48 : ((((1 : Int32) + (SBG.strSizeOf x1)) - (0 : Int32)) >>> ((nar .byte (0 : Int32)) &&& 31)) = (3 : Int32)) (f49 : Sta Z Z.heap cs10 "SIOOBE_FORMATTER" cs12 u9) (hc50 : u9.isRef = true) (hc51 : (0 : Int32) < (((1 : Int32) + (SBG.strSizeOf x1)) - (0 : Int32))) (hc52 : t8.getD ((0 : Int32)).toNatClampNeg (.int (0 : Int32)) = (.int (own_at t8 ((0 : Int32)).toNatClampNeg))) (hc55 : (nar .char (nar .char (((own_at t8 ((0 : Int32)).toNatClampNeg) &&& (255 : Int32)).toUInt32.toUInt16.toUInt32.toInt32))) = (63 : Int32)) (hc56 : ((2 : Int32) - (0 : Int32)) < (((1 : Int32) + (SBG.strSizeOf x1)) - (0 : Int32))) (hc57 : t8.getD (((2 : Int32) - (0 : Int32))).toNatClampNeg (.int (0 : Int32)) = (.int (own_at t8 (((2 : Int32) - (0 : Int32))).toNatClampNeg))) (hc58 : (nar .char (nar .char (((own_at t8 (((2 : Int32) - (0 : Int32))).toNatClampNeg) &&& (255 : Int32)).toUInt32.toUInt16.toUInt32.toInt32))) = (((48 : Int32) + ((x1 / (1 : Int32)) % (10 : Int32))).toUInt32.toUInt16.toUInt32.toInt32)) (hc60 : ((2 : Int32) - (1 : Int32)) < (((1 : Int32) + (SBG.strSizeOf x1)) - (0 : Int32))) (hc61 : t8.getD (((2 : Int32) - (1 : Int32))).toNatClampNeg (.int (0 : Int32)) = (.int (own_at t8 (((2 : Int32) - (1 : Int32))).toNatClampNeg))) (hc62 : (nar .char (nar .char (((own_at t8 (((2 : Int32) - (1 : Int32))).toNatClampNeg) &&& (255 : Int32)).toUInt32.toUInt16.toUInt32.toInt32))) = (((48 : Int32) + ((x1 / (10 : Int32)) % (10 : Int32))).toUInt32.toUInt16.toUInt32.toInt32)) :
    MetFree l x (head1 (Jvm.Cond.code x code maxLocals ret :: ws) room_1) (fun a U => a = #[(.int x0)] ∧ Z.Warmed39 U.vm ∧ U.heap = h0 ∧ CHv Z consts_1 U.vm h0) (fun _ _ _ _ _ => True) (fun _ U o U' => ∃ v L, o = .returned v ∧ Q0_2 Z x0 x1 x2 r3 r4 d5 r6 d7 t8 u9 h0 n0 v U'.heap L ∧ CHr Z consts_1 U.vm U.heap U'.vm U'.heap ∧ ReturnedEndW U o U' L room_1.cells room_1.slots) := by
  refine MetFree.of_bodySF (plainFor_of_name pn_com_example_manojo_manojo_ParameterPositionalPinLaw) hisR ?_
  intro p e s m args below meth c s₁ Bd hml0 hP hK
  obtain ⟨rfl, hZ, hh, hC⟩ := hP
  have hx := Bd.exec
  have hby := Bd.bytes
  have hml : c.maxLocals = 4 := hml0
  have hown : s.vm.findClass cs9 = some m.cls := findClass_of_methodNamed Bd.named
  have hnm := (name_of_methodNamed Bd.named Bd.method).1
  have X0 : Stand p l e room_1 s m #[(.int x0)] below meth c s₁ [] 0 0 := Stand.of_body Bd
  have e0 : s₁.heap = h0 := by rw [← hh, Bd.state]; rfl
  have N0 := Fr.nil n0
  have pre0 : ∀ t, Steps p.tables e below (s₁.setTop (mkF m 0 #[.val (.int x0), .unset, .unset, .unset] [])) t → Steps p.tables e below (s₁.setTop (entryFrame m #[(.int x0)] maxLocals)) t := fun t k => castTop (by first | (simp [entryFrame, mkF, argsToLocals, Value.category, maxLocals]; done) | rfl) k
  have hEL : EW Z a0 consts_1 := own_EW hw
  have R0 := CHr.refl hC
  have hS15 := (State.WarmedH.refl s).since 0
  obtain ⟨_, _, ⟨T16, L16, k16, n16⟩, -, X16, hs16, hg16, ⟨Lc16, hQ16, l16, y16, z16, cr16⟩, st16⟩ := callSS X0 hx (y := (⟨cs7, "positional", cs8⟩ : MethodName)) hown (mvT hZ (ww hw 1 rfl)) (mvT hZ (ww hw 2 rfl)) (mvT hZ (ww hw 3 rfl)) (mvT hZ (ww hw 4 rfl)) (by decide) (backOfSH (s := s) (vm0 := s.vm) (W := 0) (rm1_1 l Z a0 hw [] x1 x2 r3 r4 d5 r6 d7 h0 n0 O0 f2 hc3 hc4 f5 hc6 hc7 hc8 hc9 hc10 hc11 hc12 hc13 hc14) hZ (ww hw 4 rfl) (ww hw 3 rfl) (by decide) (by decide) hEL R0.1) (g := (mkF m 11 #[.val (.int x0), .val (.int x1), .unset, .unset] [(.int x1)])) rfl (by rw [hml]; rfl) (argsL := [(.int x1)]) (rest := []) (lenOf pd__I_Lcom_example_manojo_manojo_QueryTree_Parameter_ rfl) rfl (by show 2 * 0 + _ ≤ _; exact Nat.le_of_eq rfl) (hb hby at_11) (fun _ _ => ⟨rfl, e0, (by decide : 0 + 7 ≤ _), (by decide : 0 + 65 ≤ _)⟩)
  dsimp only [Pt.U, Pt.locs, Pt.cells, Pt.slots] at X16 l16 y16 z16 st16 hQ16 hs16 hg16 cr16
  subst l16 y16 z16
  obtain ⟨X16, hS16, hZ16, ho16⟩ := rebS (s := s) (vm0 := s.vm) hS15 (by rw [e0]; exact (Nat.zero_le _)) X16 hs16 hg16 hZ hown
  obtain ⟨b16_0, b16_1, b16_2, k16_0, rfl, N16q, K16, f17, f18, f19, f20, f21, f22, f23, f24, f25, f26, f27, f28, f29⟩ := hQ16
  have N16 := Fr.app N0 N16q
  have R30 := CHr.trans R0 cr16
  have f32 : Arv Z T16.heap b16_2 k16_0 .byte (((1 : Int32) + (SBG.strSizeOf x1)) - (0 : Int32)) t8 (.int (0 : Int32)) := by rw [← hq31]; exact f25
  have o33 := Old.keep O0 K16 all0
  obtain ⟨cqq35, kqq35, qq35a, qq35b, qq35c⟩ := isOf hZ16 rfl f18
  obtain ⟨_, _, ⟨T34, L34, k34, n34⟩, -, X34, ⟨Lc34, hQ34, l34, y34, z34⟩, st34⟩ := X16.virtualBack hx (y := (⟨cs7, "name", "()Ljava/lang/String;"⟩ : MethodName)) (z := (⟨cs7, "name", "()Ljava/lang/String;"⟩ : MethodName)) ho16 (mvT hZ16 (ww hw 161 rfl)) (mvT hZ16 (ww hw 162 rfl)) (notFace_of_selects (args := #[]) (mvT hZ16 (ww hw 164 rfl))) (mvT hZ16 (ww hw 164 rfl)) (mvT hZ16 (ww hw 163 rfl)) (by decide) (backOf (W := 0) (rm30_1 l Z a0 hw [] b16_0 b16_1 T16.heap n0 o33 f19) hZ16 (ww hw 165 rfl) (ww hw 3 rfl) (by decide) (by decide)) qq35a qq35c (g := (mkF m 14 #[.val (.int x0), .val (.int x1), .unset, .unset] [(.ref b16_0)])) rfl (by rw [hml]; rfl) (Steps.refl _) (argsL := []) (rest := []) (lenOf pd___Ljava_lang_String_ rfl) rfl (by show 2 * 0 + _ ≤ _; exact Nat.le_of_eq rfl) (hb hby at_14) (fun _ _ => ⟨rfl, rfl, (by decide : 7 + 0 ≤ _), (by decide : 65 + 0 ≤ _)⟩)
  dsimp only [Pt.U, Pt.locs, Pt.cells, Pt.slots] at X34 l34 y34 z34 st34 hQ34
  subst l34 y34 z34
  obtain ⟨rfl, N34q, E34⟩ := hQ34
  have N34 := Fr.app N16 N34q
  obtain ⟨_, _, ⟨T45, L45, k45, n45⟩, -, X45, ⟨Lc45, hQ45, l45, y45, z45⟩, st45⟩ := Jvm.LawKit.callS X34 hx (y := (⟨cs9, "digits", "(I)I"⟩ : MethodName)) ho16 (mvT hZ16 (ww hw 166 rfl)) (mvT hZ16 (ww hw 167 rfl)) (mvT hZ16 (ww hw 168 rfl)) (mvT hZ16 (ww hw 169 rfl)) (by decide) (backOf (W := 0) (rm31_2 l Z a0 hw [] x1 T16.heap n0 o33 hc36 hc37 hc38 hc39 hc40 hc41 hc42 hc43 hc44) hZ16 (ww hw 169 rfl) (ww hw 168 rfl) (by decide) (by decide)) (g := (mkF m 19 #[.val (.int x0), .val (.int x1), .val (.ref b16_1), .unset] [(.int x1)])) rfl (by rw [hml]; rfl) (argsL := [(.int x1)]) (rest := []) (lenOf pd__I_I rfl) rfl (by show 2 * 0 + _ ≤ _; exact Nat.le_of_eq rfl) (hb hby at_19) (fun _ _ => ⟨rfl, E34, (by decide : 7 + 0 ≤ _), (by decide : 65 + 0 ≤ _)⟩)
  dsimp only [Pt.U, Pt.locs, Pt.cells, Pt.slots] at X45 l45 y45 z45 st45 hQ45
  subst l45 y45 z45
  obtain ⟨rfl, N45q, E45⟩ := hQ45
  have N45 := Fr.app N34 N45q
  obtain ⟨cqq47, kqq47, qq47a, qq47b, qq47c⟩ := isOf hZ16 E45 f21
  obtain ⟨_, _, ⟨T46, L46, k46, n46⟩, -, X46, ⟨Lc46, hQ46, l46, y46, z46⟩, st46⟩ := X45.virtualBack hx (y := (⟨"java/lang/String", "length", "()I"⟩ : MethodName)) (z := (⟨"java/lang/String", "length", "()I"⟩ : MethodName)) ho16 (mvT hZ16 (ww hw 175 rfl)) (mvT hZ16 (ww hw 46 rfl)) (notFace_of_selects (args := #[]) (mvT hZ16 (ww hw 48 rfl))) (mvT hZ16 (ww hw 48 rfl)) (mvT hZ16 (ww hw 47 rfl)) (by decide) (backOf (W := 0) (rm7_1 l Z a0 hw [] b16_1 b16_2 (((1 : Int32) + (SBG.strSizeOf x1)) - (0 : Int32)) k16_0 t8 x2 (0 : Int32) T16.heap n0 o33 f23 f32 f21 f2 hc3 f22) hZ16 (ww hw 49 rfl) (ww hw 23 rfl) (by decide) (by decide)) qq47a qq47c (g := (mkF m 24 #[.val (.int x0), .val (.int x1), .val (.ref b16_1), .val (.int (2 : Int32))] [(.ref b16_1)])) rfl (by rw [hml]; rfl) (Steps.refl _) (argsL := []) (rest := []) (lenOf pd___I rfl) rfl (by show 2 * 0 + _ ≤ _; exact Nat.le_of_eq rfl) (hb hby at_24) (fun _ _ => ⟨rfl, E45, (by decide : 7 + 0 ≤ _), (by decide : 65 + 0 ≤ _)⟩)
  dsimp only [Pt.U, Pt.locs, Pt.cells, Pt.slots] at X46 l46 y46 z46 st46 hQ46
  subst l46 y46 z46
  obtain ⟨rfl, N46q, E46⟩ := hQ46
  have N46 := Fr.app N45 N46q
  obtain ⟨cqq54, kqq54, qq54a, qq54b, qq54c⟩ := isOf hZ16 E46 f21
  obtain ⟨_, _, ⟨T53, L53, k53, n53⟩, -, X53, ⟨Lc53, hQ53, l53, y53, z53⟩, st53⟩ := X46.virtualBack hx (y := (⟨"java/lang/String", "charAt", "(I)C"⟩ : MethodName)) (z := (⟨"java/lang/String", "charAt", "(I)C"⟩ : MethodName)) ho16 (mvT hZ16 (ww hw 176 rfl)) (mvT hZ16 (ww hw 177 rfl)) (notFace_of_selects (args := #[]) (mvT hZ16 (ww hw 179 rfl))) (mvT hZ16 (ww hw 179 rfl)) (mvT hZ16 (ww hw 178 rfl)) (by decide) (backOf (W := 0) (rm32_1 l Z a0 hw [] b16_1 (0 : Int32) x2 (0 : Int32) b16_2 (((1 : Int32) + (SBG.strSizeOf x1)) - (0 : Int32)) k16_0 t8 u9 (own_at t8 ((0 : Int32)).toNatClampNeg) T16.heap n0 o33 f21 f2 hc3 f22 (by decide : (0 : Int32) = (0 : Int32)) f23 f32 f49 hc50 (by decide : ¬ ((0 : Int32) < (0 : Int32))) hc51 hc52) hZ16 (ww hw 180 rfl) (ww hw 23 rfl) (by decide) (by decide)) qq54a qq54c (g := (mkF m 37 #[.val (.int x0), .val (.int x1), .val (.ref b16_1), .val (.int (2 : Int32))] [(.int (0 : Int32)), (.ref b16_1)])) rfl (by rw [hml]; rfl) (Steps.refl _) (argsL := [(.int (0 : Int32))]) (rest := []) (lenOf pd__I_C rfl) rfl (by show 2 * 0 + _ ≤ _; exact Nat.le_of_eq rfl) (hb hby at_37) (fun _ _ => ⟨rfl, E46, (by decide : 7 + 0 ≤ _), (by decide : 65 + 0 ≤ _)⟩)
  dsimp only [Pt.U, Pt.locs, Pt.cells, Pt.slots] at X53 l53 y53 z53 st53 hQ53
  subst l53 y53 z53
  obtain ⟨rfl, N53q, E53⟩ := hQ53
  have N53 := Fr.app N46 N53q
  obtain ⟨_, _, ⟨T59, L59, k59, n59⟩, -, X59, ⟨Lc59, hQ59, l59, y59, z59⟩, st59⟩ := Jvm.LawKit.callS X53 hx (y := (⟨cs9, "at", cs13⟩ : MethodName)) ho16 (mvT hZ16 (ww hw 198 rfl)) (mvT hZ16 (ww hw 199 rfl)) (mvT hZ16 (ww hw 168 rfl)) (mvT hZ16 (ww hw 200 rfl)) (by decide) (backOf (W := 0) (rm37_1 l Z a0 hw [] b16_1 (2 : Int32) x1 (0 : Int32) (1 : Int32) x2 (0 : Int32) b16_2 (((1 : Int32) + (SBG.strSizeOf x1)) - (0 : Int32)) k16_0 t8 u9 (own_at t8 (((2 : Int32) - (0 : Int32))).toNatClampNeg) T16.heap n0 o33 (by decide : (0 : Int32) < (2 : Int32)) f21 f2 hc3 f22 (by decide : (0 : Int32) = (0 : Int32)) f23 f32 f49 hc50 (by decide : ¬ (((2 : Int32) - (0 : Int32)) < (0 : Int32))) hc56 hc57 (by decide : ¬ ((1 : Int32) = (0 : Int32))) hc58) hZ16 (ww hw 200 rfl) (ww hw 168 rfl) (by decide) (by decide)) (g := (mkF m 52 #[.val (.int x0), .val (.int x1), .val (.ref b16_1), .val (.int (2 : Int32))] [(.int (1 : Int32)), (.int (0 : Int32)), (.int x1), (.int (2 : Int32)), (.ref b16_1)])) rfl (by rw [hml]; rfl) (argsL := [(.ref b16_1), (.int (2 : Int32)), (.int x1), (.int (0 : Int32)), (.int (1 : Int32))]) (rest := []) (lenOf pd__Ljava_lang_String_IIII_Z rfl) rfl (by show 2 * 0 + _ ≤ _; exact Nat.le_of_eq rfl) (hb hby at_52) (fun _ _ => ⟨rfl, E53, (by decide : 7 + 0 ≤ _), (by decide : 65 + 0 ≤ _)⟩)
  dsimp only [Pt.U, Pt.locs, Pt.cells, Pt.slots] at X59 l59 y59 z59 st59 hQ59
  subst l59 y59 z59
  obtain ⟨rfl, N59q, E59⟩ := hQ59
  have N59 := Fr.app N53 N59q
  obtain ⟨_, _, ⟨T63, L63, k63, n63⟩, -, X63, ⟨Lc63, hQ63, l63, y63, z63⟩, st63⟩ := Jvm.LawKit.callS X59 hx (y := (⟨cs9, "at", cs13⟩ : MethodName)) ho16 (mvT hZ16 (ww hw 198 rfl)) (mvT hZ16 (ww hw 199 rfl)) (mvT hZ16 (ww hw 168 rfl)) (mvT hZ16 (ww hw 200 rfl)) (by decide) (backOf (W := 0) (rm37_1 l Z a0 hw [] b16_1 (2 : Int32) x1 (1 : Int32) (10 : Int32) x2 (0 : Int32) b16_2 (((1 : Int32) + (SBG.strSizeOf x1)) - (0 : Int32)) k16_0 t8 u9 (own_at t8 (((2 : Int32) - (1 : Int32))).toNatClampNeg) T16.heap n0 o33 (by decide : (1 : Int32) < (2 : Int32)) f21 f2 hc3 f22 (by decide : (0 : Int32) = (0 : Int32)) f23 f32 f49 hc50 (by decide : ¬ (((2 : Int32) - (1 : Int32)) < (0 : Int32))) hc60 hc61 (by decide : ¬ ((10 : Int32) = (0 : Int32))) hc62) hZ16 (ww hw 200 rfl) (ww hw 168 rfl) (by decide) (by decide)) (g := (mkF m 64 #[.val (.int x0), .val (.int x1), .val (.ref b16_1), .val (.int (2 : Int32))] [(.int (10 : Int32)), (.int (1 : Int32)), (.int x1), (.int (2 : Int32)), (.ref b16_1)])) rfl (by rw [hml]; rfl) (argsL := [(.ref b16_1), (.int (2 : Int32)), (.int x1), (.int (1 : Int32)), (.int (10 : Int32))]) (rest := []) (lenOf pd__Ljava_lang_String_IIII_Z rfl) rfl (by show 2 * 0 + _ ≤ _; exact Nat.le_of_eq rfl) (hb hby at_64) (fun _ _ => ⟨rfl, E59, (by decide : 7 + 0 ≤ _), (by decide : 65 + 0 ≤ _)⟩)
  dsimp only [Pt.U, Pt.locs, Pt.cells, Pt.slots] at X63 l63 y63 z63 st63 hQ63
  subst l63 y63 z63
  obtain ⟨rfl, N63q, E63⟩ := hQ63
  have N63 := Fr.app N59 N63q
  obtain ⟨_, _, ⟨T64, L64, k64, n64⟩, -, X64, ⟨Lc64, hQ64, l64, y64, z64⟩, st64⟩ := Jvm.LawKit.callS X63 hx (y := (⟨cs9, "at", cs13⟩ : MethodName)) ho16 (mvT hZ16 (ww hw 198 rfl)) (mvT hZ16 (ww hw 199 rfl)) (mvT hZ16 (ww hw 168 rfl)) (mvT hZ16 (ww hw 200 rfl)) (by decide) (backOf (W := 0) (rm37_2 l Z a0 hw [] b16_1 (2 : Int32) x1 (2 : Int32) (100 : Int32) T16.heap n0 o33 (by decide : ¬ ((2 : Int32) < (2 : Int32)))) hZ16 (ww hw 200 rfl) (ww hw 168 rfl) (by decide) (by decide)) (g := (mkF m 76 #[.val (.int x0), .val (.int x1), .val (.ref b16_1), .val (.int (2 : Int32))] [(.int (100 : Int32)), (.int (2 : Int32)), (.int x1), (.int (2 : Int32)), (.ref b16_1)])) rfl (by rw [hml]; rfl) (argsL := [(.ref b16_1), (.int (2 : Int32)), (.int x1), (.int (2 : Int32)), (.int (100 : Int32))]) (rest := []) (lenOf pd__Ljava_lang_String_IIII_Z rfl) rfl (by show 2 * 0 + _ ≤ _; exact Nat.le_of_eq rfl) (hb hby at_76) (fun _ _ => ⟨rfl, E63, (by decide : 7 + 0 ≤ _), (by decide : 65 + 0 ≤ _)⟩)
  dsimp only [Pt.U, Pt.locs, Pt.cells, Pt.slots] at X64 l64 y64 z64 st64 hQ64
  subst l64 y64 z64
  obtain ⟨rfl, N64q, E64⟩ := hQ64
  have N64 := Fr.app N63 N64q
  obtain ⟨_, _, ⟨T65, L65, k65, n65⟩, -, X65, ⟨Lc65, hQ65, l65, y65, z65⟩, st65⟩ := Jvm.LawKit.callS X64 hx (y := (⟨cs9, "at", cs13⟩ : MethodName)) ho16 (mvT hZ16 (ww hw 198 rfl)) (mvT hZ16 (ww hw 199 rfl)) (mvT hZ16 (ww hw 168 rfl)) (mvT hZ16 (ww hw 200 rfl)) (by decide) (backOf (W := 0) (rm37_2 l Z a0 hw [] b16_1 (2 : Int32) x1 (3 : Int32) (1000 : Int32) T16.heap n0 o33 (by decide : ¬ ((3 : Int32) < (2 : Int32)))) hZ16 (ww hw 200 rfl) (ww hw 168 rfl) (by decide) (by decide)) (g := (mkF m 89 #[.val (.int x0), .val (.int x1), .val (.ref b16_1), .val (.int (2 : Int32))] [(.int (1000 : Int32)), (.int (3 : Int32)), (.int x1), (.int (2 : Int32)), (.ref b16_1)])) rfl (by rw [hml]; rfl) (argsL := [(.ref b16_1), (.int (2 : Int32)), (.int x1), (.int (3 : Int32)), (.int (1000 : Int32))]) (rest := []) (lenOf pd__Ljava_lang_String_IIII_Z rfl) rfl (by show 2 * 0 + _ ≤ _; exact Nat.le_of_eq rfl) (hb hby at_89) (fun _ _ => ⟨rfl, E64, (by decide : 7 + 0 ≤ _), (by decide : 65 + 0 ≤ _)⟩)
  dsimp only [Pt.U, Pt.locs, Pt.cells, Pt.slots] at X65 l65 y65 z65 st65 hQ65
  subst l65 y65 z65
  obtain ⟨rfl, N65q, E65⟩ := hQ65
  have N65 := Fr.app N64 N65q
  obtain ⟨_, _, ⟨T66, L66, k66, n66⟩, -, X66, ⟨Lc66, hQ66, l66, y66, z66⟩, st66⟩ := Jvm.LawKit.callS X65 hx (y := (⟨cs9, "at", cs13⟩ : MethodName)) ho16 (mvT hZ16 (ww hw 198 rfl)) (mvT hZ16 (ww hw 199 rfl)) (mvT hZ16 (ww hw 168 rfl)) (mvT hZ16 (ww hw 200 rfl)) (by decide) (backOf (W := 0) (rm37_2 l Z a0 hw [] b16_1 (2 : Int32) x1 (4 : Int32) (10000 : Int32) T16.heap n0 o33 (by decide : ¬ ((4 : Int32) < (2 : Int32)))) hZ16 (ww hw 200 rfl) (ww hw 168 rfl) (by decide) (by decide)) (g := (mkF m 102 #[.val (.int x0), .val (.int x1), .val (.ref b16_1), .val (.int (2 : Int32))] [(.int (10000 : Int32)), (.int (4 : Int32)), (.int x1), (.int (2 : Int32)), (.ref b16_1)])) rfl (by rw [hml]; rfl) (argsL := [(.ref b16_1), (.int (2 : Int32)), (.int x1), (.int (4 : Int32)), (.int (10000 : Int32))]) (rest := []) (lenOf pd__Ljava_lang_String_IIII_Z rfl) rfl (by show 2 * 0 + _ ≤ _; exact Nat.le_of_eq rfl) (hb hby at_102) (fun _ _ => ⟨rfl, E65, (by decide : 7 + 0 ≤ _), (by decide : 65 + 0 ≤ _)⟩)
  dsimp only [Pt.U, Pt.locs, Pt.cells, Pt.slots] at X66 l66 y66 z66 st66 hQ66
  subst l66 y66 z66
  obtain ⟨rfl, N66q, E66⟩ := hQ66
  have N66 := Fr.app N65 N66q
  obtain ⟨_, _, ⟨T67, L67, k67, n67⟩, -, X67, ⟨Lc67, hQ67, l67, y67, z67⟩, st67⟩ := Jvm.LawKit.callS X66 hx (y := (⟨cs9, "at", cs13⟩ : MethodName)) ho16 (mvT hZ16 (ww hw 198 rfl)) (mvT hZ16 (ww hw 199 rfl)) (mvT hZ16 (ww hw 168 rfl)) (mvT hZ16 (ww hw 200 rfl)) (by decide) (backOf (W := 0) (rm37_2 l Z a0 hw [] b16_1 (2 : Int32) x1 (5 : Int32) (100000 : Int32) T16.heap n0 o33 (by decide : ¬ ((5 : Int32) < (2 : Int32)))) hZ16 (ww hw 200 rfl) (ww hw 168 rfl) (by decide) (by decide)) (g := (mkF m 114 #[.val (.int x0), .val (.int x1), .val (.ref b16_1), .val (.int (2 : Int32))] [(.int (100000 : Int32)), (.int (5 : Int32)), (.int x1), (.int (2 : Int32)), (.ref b16_1)])) rfl (by rw [hml]; rfl) (argsL := [(.ref b16_1), (.int (2 : Int32)), (.int x1), (.int (5 : Int32)), (.int (100000 : Int32))]) (rest := []) (lenOf pd__Ljava_lang_String_IIII_Z rfl) rfl (by show 2 * 0 + _ ≤ _; exact Nat.le_of_eq rfl) (hb hby at_114) (fun _ _ => ⟨rfl, E66, (by decide : 7 + 0 ≤ _), (by decide : 65 + 0 ≤ _)⟩)
  dsimp only [Pt.U, Pt.locs, Pt.cells, Pt.slots] at X67 l67 y67 z67 st67 hQ67
  subst l67 y67 z67
  obtain ⟨rfl, N67q, E67⟩ := hQ67
  have N67 := Fr.app N66 N67q
  obtain ⟨_, _, ⟨T68, L68, k68, n68⟩, -, X68, ⟨Lc68, hQ68, l68, y68, z68⟩, st68⟩ := Jvm.LawKit.callS X67 hx (y := (⟨cs9, "at", cs13⟩ : MethodName)) ho16 (mvT hZ16 (ww hw 198 rfl)) (mvT hZ16 (ww hw 199 rfl)) (mvT hZ16 (ww hw 168 rfl)) (mvT hZ16 (ww hw 200 rfl)) (by decide) (backOf (W := 0) (rm37_2 l Z a0 hw [] b16_1 (2 : Int32) x1 (6 : Int32) (1000000 : Int32) T16.heap n0 o33 (by decide : ¬ ((6 : Int32) < (2 : Int32)))) hZ16 (ww hw 200 rfl) (ww hw 168 rfl) (by decide) (by decide)) (g := (mkF m 127 #[.val (.int x0), .val (.int x1), .val (.ref b16_1), .val (.int (2 : Int32))] [(.int (1000000 : Int32)), (.int (6 : Int32)), (.int x1), (.int (2 : Int32)), (.ref b16_1)])) rfl (by rw [hml]; rfl) (argsL := [(.ref b16_1), (.int (2 : Int32)), (.int x1), (.int (6 : Int32)), (.int (1000000 : Int32))]) (rest := []) (lenOf pd__Ljava_lang_String_IIII_Z rfl) rfl (by show 2 * 0 + _ ≤ _; exact Nat.le_of_eq rfl) (hb hby at_127) (fun _ _ => ⟨rfl, E67, (by decide : 7 + 0 ≤ _), (by decide : 65 + 0 ≤ _)⟩)
  dsimp only [Pt.U, Pt.locs, Pt.cells, Pt.slots] at X68 l68 y68 z68 st68 hQ68
  subst l68 y68 z68
  obtain ⟨rfl, N68q, E68⟩ := hQ68
  have N68 := Fr.app N67 N68q
  obtain ⟨_, _, ⟨T69, L69, k69, n69⟩, -, X69, ⟨Lc69, hQ69, l69, y69, z69⟩, st69⟩ := Jvm.LawKit.callS X68 hx (y := (⟨cs9, "at", cs13⟩ : MethodName)) ho16 (mvT hZ16 (ww hw 198 rfl)) (mvT hZ16 (ww hw 199 rfl)) (mvT hZ16 (ww hw 168 rfl)) (mvT hZ16 (ww hw 200 rfl)) (by decide) (backOf (W := 0) (rm37_2 l Z a0 hw [] b16_1 (2 : Int32) x1 (7 : Int32) (10000000 : Int32) T16.heap n0 o33 (by decide : ¬ ((7 : Int32) < (2 : Int32)))) hZ16 (ww hw 200 rfl) (ww hw 168 rfl) (by decide) (by decide)) (g := (mkF m 140 #[.val (.int x0), .val (.int x1), .val (.ref b16_1), .val (.int (2 : Int32))] [(.int (10000000 : Int32)), (.int (7 : Int32)), (.int x1), (.int (2 : Int32)), (.ref b16_1)])) rfl (by rw [hml]; rfl) (argsL := [(.ref b16_1), (.int (2 : Int32)), (.int x1), (.int (7 : Int32)), (.int (10000000 : Int32))]) (rest := []) (lenOf pd__Ljava_lang_String_IIII_Z rfl) rfl (by show 2 * 0 + _ ≤ _; exact Nat.le_of_eq rfl) (hb hby at_140) (fun _ _ => ⟨rfl, E68, (by decide : 7 + 0 ≤ _), (by decide : 65 + 0 ≤ _)⟩)
  dsimp only [Pt.U, Pt.locs, Pt.cells, Pt.slots] at X69 l69 y69 z69 st69 hQ69
  subst l69 y69 z69
  obtain ⟨rfl, N69q, E69⟩ := hQ69
  have N69 := Fr.app N68 N69q
  obtain ⟨_, _, ⟨T70, L70, k70, n70⟩, -, X70, ⟨Lc70, hQ70, l70, y70, z70⟩, st70⟩ := Jvm.LawKit.callS X69 hx (y := (⟨cs9, "at", cs13⟩ : MethodName)) ho16 (mvT hZ16 (ww hw 198 rfl)) (mvT hZ16 (ww hw 199 rfl)) (mvT hZ16 (ww hw 168 rfl)) (mvT hZ16 (ww hw 200 rfl)) (by decide) (backOf (W := 0) (rm37_2 l Z a0 hw [] b16_1 (2 : Int32) x1 (8 : Int32) (100000000 : Int32) T16.heap n0 o33 (by decide : ¬ ((8 : Int32) < (2 : Int32)))) hZ16 (ww hw 200 rfl) (ww hw 168 rfl) (by decide) (by decide)) (g := (mkF m 153 #[.val (.int x0), .val (.int x1), .val (.ref b16_1), .val (.int (2 : Int32))] [(.int (100000000 : Int32)), (.int (8 : Int32)), (.int x1), (.int (2 : Int32)), (.ref b16_1)])) rfl (by rw [hml]; rfl) (argsL := [(.ref b16_1), (.int (2 : Int32)), (.int x1), (.int (8 : Int32)), (.int (100000000 : Int32))]) (rest := []) (lenOf pd__Ljava_lang_String_IIII_Z rfl) rfl (by show 2 * 0 + _ ≤ _; exact Nat.le_of_eq rfl) (hb hby at_153) (fun _ _ => ⟨rfl, E69, (by decide : 7 + 0 ≤ _), (by decide : 65 + 0 ≤ _)⟩)
  dsimp only [Pt.U, Pt.locs, Pt.cells, Pt.slots] at X70 l70 y70 z70 st70 hQ70
  subst l70 y70 z70
  obtain ⟨rfl, N70q, E70⟩ := hQ70
  have N70 := Fr.app N69 N70q
  obtain ⟨_, _, ⟨T71, L71, k71, n71⟩, -, X71, ⟨Lc71, hQ71, l71, y71, z71⟩, st71⟩ := Jvm.LawKit.callS X70 hx (y := (⟨cs9, "at", cs13⟩ : MethodName)) ho16 (mvT hZ16 (ww hw 198 rfl)) (mvT hZ16 (ww hw 199 rfl)) (mvT hZ16 (ww hw 168 rfl)) (mvT hZ16 (ww hw 200 rfl)) (by decide) (backOf (W := 0) (rm37_2 l Z a0 hw [] b16_1 (2 : Int32) x1 (9 : Int32) (1000000000 : Int32) T16.heap n0 o33 (by decide : ¬ ((9 : Int32) < (2 : Int32)))) hZ16 (ww hw 200 rfl) (ww hw 168 rfl) (by decide) (by decide)) (g := (mkF m 166 #[.val (.int x0), .val (.int x1), .val (.ref b16_1), .val (.int (2 : Int32))] [(.int (1000000000 : Int32)), (.int (9 : Int32)), (.int x1), (.int (2 : Int32)), (.ref b16_1)])) rfl (by rw [hml]; rfl) (argsL := [(.ref b16_1), (.int (2 : Int32)), (.int x1), (.int (9 : Int32)), (.int (1000000000 : Int32))]) (rest := []) (lenOf pd__Ljava_lang_String_IIII_Z rfl) rfl (by show 2 * 0 + _ ≤ _; exact Nat.le_of_eq rfl) (hb hby at_166) (fun _ _ => ⟨rfl, E70, (by decide : 7 + 0 ≤ _), (by decide : 65 + 0 ≤ _)⟩)
  dsimp only [Pt.U, Pt.locs, Pt.cells, Pt.slots] at X71 l71 y71 z71 st71 hQ71
  subst l71 y71 z71
  obtain ⟨rfl, N71q, E71⟩ := hQ71
  have N71 := Fr.app N70 N71q
  obtain ⟨fs, hr, hrun, hended, hend⟩ := leaveW (s := s) (vm₁ := T16.vm) X71 hS16 (by rw [E71]; exact (Nat.le_refl _)) (v := some (.int (1 : Int32))) (fun h => by rw [Bd.returns] at h; cases h)
  have hCR : CHr Z consts_1 s.vm s.heap T71.vm T71.heap := by rw [hh, E71]; exact CHr.trans R30 (CHv.at (s := s) (vm0 := T16.vm) X71 hZ16 hEL R30.1)
  refine ⟨_, _, pre0 _ ?_, hrun, hended, _, _, rfl, ?_, hCR, hend.1, hend.2.1, hend.2.2.1, hend.2.2.2.mono (by decide) (by decide)⟩
  · show Steps p.tables e below (s₁.setTop (mkF m 0 #[.val (.int x0), .unset, .unset, .unset] [])) _
    refine XS.iconst X0.here hx rfl (hb hby at_0) ?_
    refine XS.iloadN X0.here hx rfl (hb hby at_1) rfl ?_
    refine X0.ldcInt hx hown (mvT hZ (ww hw 0 rfl)) (g := (mkF m 2 #[.val (.int x0), .unset, .unset, .unset] [(.int x0), (.int (1 : Int32))])) rfl (hb hby at_2) _ ?_
    show Steps p.tables e below (s₁.setTop (mkF m 4 #[.val (.int x0), .unset, .unset, .unset] [(.int (2147483647 : Int32)), (.int x0), (.int (1 : Int32))])) _
    refine XS.iand X0.here hx rfl (hb hby at_4) rfl ?_
    refine X0.ldcInt hx hown (mvT hZ (ww hw 0 rfl)) (g := (mkF m 5 #[.val (.int x0), .unset, .unset, .unset] [(.int (x0 &&& (2147483647 : Int32))), (.int (1 : Int32))])) rfl (hb hby at_5) _ ?_
    show Steps p.tables e below (s₁.setTop (mkF m 7 #[.val (.int x0), .unset, .unset, .unset] [(.int (2147483647 : Int32)), (.int (x0 &&& (2147483647 : Int32))), (.int (1 : Int32))])) _
    refine iremM (g := (mkF m 7 #[.val (.int x0), .unset, .unset, .unset] [(.int (2147483647 : Int32)), (.int (x0 &&& (2147483647 : Int32))), (.int (1 : Int32))])) X0 hx rfl (hb hby at_7) rfl (by decide : ¬ ((2147483647 : Int32) = (0 : Int32))) ?_
    show Steps p.tables e below (s₁.setTop (mkF m 8 #[.val (.int x0), .unset, .unset, .unset] [(.int ((x0 &&& (2147483647 : Int32)) % (2147483647 : Int32))), (.int (1 : Int32))])) _
    refine XS.iadd X0.here hx rfl (hb hby at_8) rfl ?_
    show Steps p.tables e below (s₁.setTop (mkF m 9 #[.val (.int x0), .unset, .unset, .unset] [(.int ((1 : Int32) + ((x0 &&& (2147483647 : Int32)) % (2147483647 : Int32))))])) _
    rw [hq1]
    show Steps p.tables e below (s₁.setTop (mkF m 9 #[.val (.int x0), .unset, .unset, .unset] [(.int x1)])) _
    refine XS.istoreN X0.here hx rfl (hb hby at_9) rfl (l' := #[.val (.int x0), .val (.int x1), .unset, .unset]) rfl ?_
    refine XS.iloadN X0.here hx rfl (hb hby at_10) rfl ?_
    refine st16.trans ?_
    show Steps p.tables e below (T16.setTop (mkF m 14 #[.val (.int x0), .val (.int x1), .unset, .unset] [(.ref b16_0)])) _
    refine st34.trans ?_
    show Steps p.tables e below (T34.setTop (mkF m 17 #[.val (.int x0), .val (.int x1), .unset, .unset] [(.ref b16_1)])) _
    refine XS.astoreN X34.here hx rfl (hb hby at_17) rfl rfl (l' := #[.val (.int x0), .val (.int x1), .val (.ref b16_1), .unset]) rfl ?_
    refine XS.iloadN X34.here hx rfl (hb hby at_18) rfl ?_
    refine st45 _ ?_
    show Steps p.tables e below (T45.setTop (mkF m 22 #[.val (.int x0), .val (.int x1), .val (.ref b16_1), .unset] [(.int (2 : Int32))])) _
    refine XS.istoreN X45.here hx rfl (hb hby at_22) rfl (l' := #[.val (.int x0), .val (.int x1), .val (.ref b16_1), .val (.int (2 : Int32))]) rfl ?_
    refine XS.aloadN X45.here hx rfl (hb hby at_23) rfl rfl ?_
    refine st46.trans ?_
    show Steps p.tables e below (T46.setTop (mkF m 27 #[.val (.int x0), .val (.int x1), .val (.ref b16_1), .val (.int (2 : Int32))] [(.int ((((1 : Int32) + (SBG.strSizeOf x1)) - (0 : Int32)) >>> ((nar .byte (0 : Int32)) &&& 31)))])) _
    refine XS.iloadN X46.here hx rfl (hb hby at_27) rfl ?_
    refine XS.iconst X46.here hx rfl (hb hby at_28) ?_
    refine XS.iadd X46.here hx rfl (hb hby at_29) rfl ?_
    refine XS.icmpYes X46.here hx rfl (pc0 := 30) (pc' := 35) rfl (hb hby at_30) rfl (teq hc48).1 (by decide) (by decide) ?_
    show Steps p.tables e below (T46.setTop (mkF m 35 #[.val (.int x0), .val (.int x1), .val (.ref b16_1), .val (.int (2 : Int32))] [])) _
    refine XS.aloadN X46.here hx rfl (hb hby at_35) rfl rfl ?_
    refine XS.iconst X46.here hx rfl (hb hby at_36) ?_
    refine st53.trans ?_
    show Steps p.tables e below (T53.setTop (mkF m 40 #[.val (.int x0), .val (.int x1), .val (.ref b16_1), .val (.int (2 : Int32))] [(.int (nar .char (nar .char (((own_at t8 ((0 : Int32)).toNatClampNeg) &&& (255 : Int32)).toUInt32.toUInt16.toUInt32.toInt32))))])) _
    refine XS.bipush X53.here hx rfl (hb hby at_40) ?_
    refine XS.icmpYes X53.here hx rfl (pc0 := 42) (pc' := 47) rfl (hb hby at_42) rfl (teq hc55).1 (by decide) (by decide) ?_
    show Steps p.tables e below (T53.setTop (mkF m 47 #[.val (.int x0), .val (.int x1), .val (.ref b16_1), .val (.int (2 : Int32))] [])) _
    refine XS.aloadN X53.here hx rfl (hb hby at_47) rfl rfl ?_
    refine XS.iloadN X53.here hx rfl (hb hby at_48) rfl ?_
    refine XS.iloadN X53.here hx rfl (hb hby at_49) rfl ?_
    refine XS.iconst X53.here hx rfl (hb hby at_50) ?_
    show Steps p.tables e below (T53.setTop (mkF m 51 #[.val (.int x0), .val (.int x1), .val (.ref b16_1), .val (.int (2 : Int32))] [(.int (0 : Int32)), (.int x1), (.int (2 : Int32)), (.ref b16_1)])) _
    refine XS.iconst X53.here hx rfl (hb hby at_51) ?_
    refine st59 _ ?_
    show Steps p.tables e below (T59.setTop (mkF m 55 #[.val (.int x0), .val (.int x1), .val (.ref b16_1), .val (.int (2 : Int32))] [(.int (1 : Int32))])) _
    refine XS.ifNo X59.here hx rfl (hb hby at_55) rfl ((if0 _ _).trans (feq (by decide : ¬ ((1 : Int32) = (0 : Int32)))).1) ?_
    refine XS.aloadN X59.here hx rfl (hb hby at_58) rfl rfl ?_
    refine XS.iloadN X59.here hx rfl (hb hby at_59) rfl ?_
    refine XS.iloadN X59.here hx rfl (hb hby at_60) rfl ?_
    show Steps p.tables e below (T59.setTop (mkF m 61 #[.val (.int x0), .val (.int x1), .val (.ref b16_1), .val (.int (2 : Int32))] [(.int x1), (.int (2 : Int32)), (.ref b16_1)])) _
    refine XS.iconst X59.here hx rfl (hb hby at_61) ?_
    refine XS.bipush X59.here hx rfl (hb hby at_62) ?_
    refine st63 _ ?_
    show Steps p.tables e below (T63.setTop (mkF m 67 #[.val (.int x0), .val (.int x1), .val (.ref b16_1), .val (.int (2 : Int32))] [(.int (1 : Int32))])) _
    refine XS.ifNo X63.here hx rfl (hb hby at_67) rfl ((if0 _ _).trans (feq (by decide : ¬ ((1 : Int32) = (0 : Int32)))).1) ?_
    refine XS.aloadN X63.here hx rfl (hb hby at_70) rfl rfl ?_
    refine XS.iloadN X63.here hx rfl (hb hby at_71) rfl ?_
    refine XS.iloadN X63.here hx rfl (hb hby at_72) rfl ?_
    show Steps p.tables e below (T63.setTop (mkF m 73 #[.val (.int x0), .val (.int x1), .val (.ref b16_1), .val (.int (2 : Int32))] [(.int x1), (.int (2 : Int32)), (.ref b16_1)])) _
    refine XS.iconst X63.here hx rfl (hb hby at_73) ?_
    refine XS.bipush X63.here hx rfl (hb hby at_74) ?_
    refine st64 _ ?_
    show Steps p.tables e below (T64.setTop (mkF m 79 #[.val (.int x0), .val (.int x1), .val (.ref b16_1), .val (.int (2 : Int32))] [(.int (1 : Int32))])) _
    refine XS.ifNo X64.here hx rfl (hb hby at_79) rfl ((if0 _ _).trans (feq (by decide : ¬ ((1 : Int32) = (0 : Int32)))).1) ?_
    refine XS.aloadN X64.here hx rfl (hb hby at_82) rfl rfl ?_
    refine XS.iloadN X64.here hx rfl (hb hby at_83) rfl ?_
    refine XS.iloadN X64.here hx rfl (hb hby at_84) rfl ?_
    show Steps p.tables e below (T64.setTop (mkF m 85 #[.val (.int x0), .val (.int x1), .val (.ref b16_1), .val (.int (2 : Int32))] [(.int x1), (.int (2 : Int32)), (.ref b16_1)])) _
    refine XS.iconst X64.here hx rfl (hb hby at_85) ?_
    refine XS.sipush X64.here hx rfl (hb hby at_86) ?_
    refine st65 _ ?_
    show Steps p.tables e below (T65.setTop (mkF m 92 #[.val (.int x0), .val (.int x1), .val (.ref b16_1), .val (.int (2 : Int32))] [(.int (1 : Int32))])) _
    refine XS.ifNo X65.here hx rfl (hb hby at_92) rfl ((if0 _ _).trans (feq (by decide : ¬ ((1 : Int32) = (0 : Int32)))).1) ?_
    refine XS.aloadN X65.here hx rfl (hb hby at_95) rfl rfl ?_
    refine XS.iloadN X65.here hx rfl (hb hby at_96) rfl ?_
    refine XS.iloadN X65.here hx rfl (hb hby at_97) rfl ?_
    show Steps p.tables e below (T65.setTop (mkF m 98 #[.val (.int x0), .val (.int x1), .val (.ref b16_1), .val (.int (2 : Int32))] [(.int x1), (.int (2 : Int32)), (.ref b16_1)])) _
    refine XS.iconst X65.here hx rfl (hb hby at_98) ?_
    refine XS.sipush X65.here hx rfl (hb hby at_99) ?_
    refine st66 _ ?_
    show Steps p.tables e below (T66.setTop (mkF m 105 #[.val (.int x0), .val (.int x1), .val (.ref b16_1), .val (.int (2 : Int32))] [(.int (1 : Int32))])) _
    refine XS.ifNo X66.here hx rfl (hb hby at_105) rfl ((if0 _ _).trans (feq (by decide : ¬ ((1 : Int32) = (0 : Int32)))).1) ?_
    refine XS.aloadN X66.here hx rfl (hb hby at_108) rfl rfl ?_
    refine XS.iloadN X66.here hx rfl (hb hby at_109) rfl ?_
    refine XS.iloadN X66.here hx rfl (hb hby at_110) rfl ?_
    show Steps p.tables e below (T66.setTop (mkF m 111 #[.val (.int x0), .val (.int x1), .val (.ref b16_1), .val (.int (2 : Int32))] [(.int x1), (.int (2 : Int32)), (.ref b16_1)])) _
    refine XS.iconst X66.here hx rfl (hb hby at_111) ?_
    refine X66.ldcInt hx ho16 (mvT hZ16 (ww hw 174 rfl)) (g := (mkF m 112 #[.val (.int x0), .val (.int x1), .val (.ref b16_1), .val (.int (2 : Int32))] [(.int (5 : Int32)), (.int x1), (.int (2 : Int32)), (.ref b16_1)])) rfl (hb hby at_112) _ ?_
    show Steps p.tables e below (T66.setTop (mkF m 114 #[.val (.int x0), .val (.int x1), .val (.ref b16_1), .val (.int (2 : Int32))] [(.int (100000 : Int32)), (.int (5 : Int32)), (.int x1), (.int (2 : Int32)), (.ref b16_1)])) _
    refine st67 _ ?_
    show Steps p.tables e below (T67.setTop (mkF m 117 #[.val (.int x0), .val (.int x1), .val (.ref b16_1), .val (.int (2 : Int32))] [(.int (1 : Int32))])) _
    refine XS.ifNo X67.here hx rfl (hb hby at_117) rfl ((if0 _ _).trans (feq (by decide : ¬ ((1 : Int32) = (0 : Int32)))).1) ?_
    refine XS.aloadN X67.here hx rfl (hb hby at_120) rfl rfl ?_
    refine XS.iloadN X67.here hx rfl (hb hby at_121) rfl ?_
    refine XS.iloadN X67.here hx rfl (hb hby at_122) rfl ?_
    show Steps p.tables e below (T67.setTop (mkF m 123 #[.val (.int x0), .val (.int x1), .val (.ref b16_1), .val (.int (2 : Int32))] [(.int x1), (.int (2 : Int32)), (.ref b16_1)])) _
    refine XS.bipush X67.here hx rfl (hb hby at_123) ?_
    refine X67.ldcInt hx ho16 (mvT hZ16 (ww hw 173 rfl)) (g := (mkF m 125 #[.val (.int x0), .val (.int x1), .val (.ref b16_1), .val (.int (2 : Int32))] [(.int (6 : Int32)), (.int x1), (.int (2 : Int32)), (.ref b16_1)])) rfl (hb hby at_125) _ ?_
    show Steps p.tables e below (T67.setTop (mkF m 127 #[.val (.int x0), .val (.int x1), .val (.ref b16_1), .val (.int (2 : Int32))] [(.int (1000000 : Int32)), (.int (6 : Int32)), (.int x1), (.int (2 : Int32)), (.ref b16_1)])) _
    refine st68 _ ?_
    show Steps p.tables e below (T68.setTop (mkF m 130 #[.val (.int x0), .val (.int x1), .val (.ref b16_1), .val (.int (2 : Int32))] [(.int (1 : Int32))])) _
    refine XS.ifNo X68.here hx rfl (hb hby at_130) rfl ((if0 _ _).trans (feq (by decide : ¬ ((1 : Int32) = (0 : Int32)))).1) ?_
    refine XS.aloadN X68.here hx rfl (hb hby at_133) rfl rfl ?_
    refine XS.iloadN X68.here hx rfl (hb hby at_134) rfl ?_
    refine XS.iloadN X68.here hx rfl (hb hby at_135) rfl ?_
    show Steps p.tables e below (T68.setTop (mkF m 136 #[.val (.int x0), .val (.int x1), .val (.ref b16_1), .val (.int (2 : Int32))] [(.int x1), (.int (2 : Int32)), (.ref b16_1)])) _
    refine XS.bipush X68.here hx rfl (hb hby at_136) ?_
    refine X68.ldcInt hx ho16 (mvT hZ16 (ww hw 172 rfl)) (g := (mkF m 138 #[.val (.int x0), .val (.int x1), .val (.ref b16_1), .val (.int (2 : Int32))] [(.int (7 : Int32)), (.int x1), (.int (2 : Int32)), (.ref b16_1)])) rfl (hb hby at_138) _ ?_
    show Steps p.tables e below (T68.setTop (mkF m 140 #[.val (.int x0), .val (.int x1), .val (.ref b16_1), .val (.int (2 : Int32))] [(.int (10000000 : Int32)), (.int (7 : Int32)), (.int x1), (.int (2 : Int32)), (.ref b16_1)])) _
    refine st69 _ ?_
    show Steps p.tables e below (T69.setTop (mkF m 143 #[.val (.int x0), .val (.int x1), .val (.ref b16_1), .val (.int (2 : Int32))] [(.int (1 : Int32))])) _
    refine XS.ifNo X69.here hx rfl (hb hby at_143) rfl ((if0 _ _).trans (feq (by decide : ¬ ((1 : Int32) = (0 : Int32)))).1) ?_
    refine XS.aloadN X69.here hx rfl (hb hby at_146) rfl rfl ?_
    refine XS.iloadN X69.here hx rfl (hb hby at_147) rfl ?_
    refine XS.iloadN X69.here hx rfl (hb hby at_148) rfl ?_
    show Steps p.tables e below (T69.setTop (mkF m 149 #[.val (.int x0), .val (.int x1), .val (.ref b16_1), .val (.int (2 : Int32))] [(.int x1), (.int (2 : Int32)), (.ref b16_1)])) _
    refine XS.bipush X69.here hx rfl (hb hby at_149) ?_
    refine X69.ldcInt hx ho16 (mvT hZ16 (ww hw 171 rfl)) (g := (mkF m 151 #[.val (.int x0), .val (.int x1), .val (.ref b16_1), .val (.int (2 : Int32))] [(.int (8 : Int32)), (.int x1), (.int (2 : Int32)), (.ref b16_1)])) rfl (hb hby at_151) _ ?_
    show Steps p.tables e below (T69.setTop (mkF m 153 #[.val (.int x0), .val (.int x1), .val (.ref b16_1), .val (.int (2 : Int32))] [(.int (100000000 : Int32)), (.int (8 : Int32)), (.int x1), (.int (2 : Int32)), (.ref b16_1)])) _
    refine st70 _ ?_
    show Steps p.tables e below (T70.setTop (mkF m 156 #[.val (.int x0), .val (.int x1), .val (.ref b16_1), .val (.int (2 : Int32))] [(.int (1 : Int32))])) _
    refine XS.ifNo X70.here hx rfl (hb hby at_156) rfl ((if0 _ _).trans (feq (by decide : ¬ ((1 : Int32) = (0 : Int32)))).1) ?_
    refine XS.aloadN X70.here hx rfl (hb hby at_159) rfl rfl ?_
    refine XS.iloadN X70.here hx rfl (hb hby at_160) rfl ?_
    refine XS.iloadN X70.here hx rfl (hb hby at_161) rfl ?_
    show Steps p.tables e below (T70.setTop (mkF m 162 #[.val (.int x0), .val (.int x1), .val (.ref b16_1), .val (.int (2 : Int32))] [(.int x1), (.int (2 : Int32)), (.ref b16_1)])) _
    refine XS.bipush X70.here hx rfl (hb hby at_162) ?_
    refine X70.ldcInt hx ho16 (mvT hZ16 (ww hw 170 rfl)) (g := (mkF m 164 #[.val (.int x0), .val (.int x1), .val (.ref b16_1), .val (.int (2 : Int32))] [(.int (9 : Int32)), (.int x1), (.int (2 : Int32)), (.ref b16_1)])) rfl (hb hby at_164) _ ?_
    show Steps p.tables e below (T70.setTop (mkF m 166 #[.val (.int x0), .val (.int x1), .val (.ref b16_1), .val (.int (2 : Int32))] [(.int (1000000000 : Int32)), (.int (9 : Int32)), (.int x1), (.int (2 : Int32)), (.ref b16_1)])) _
    refine st71 _ ?_
    show Steps p.tables e below (T71.setTop (mkF m 169 #[.val (.int x0), .val (.int x1), .val (.ref b16_1), .val (.int (2 : Int32))] [(.int (1 : Int32))])) _
    refine XS.ifNo X71.here hx rfl (hb hby at_169) rfl ((if0 _ _).trans (feq (by decide : ¬ ((1 : Int32) = (0 : Int32)))).1) ?_
    refine XS.iconst X71.here hx rfl (hb hby at_172) ?_
    refine XS.goto X71.here hx rfl (pc0 := 173) (pc' := 177) rfl (hb hby at_173) (by decide) (by decide) ?_
    show Steps p.tables e below (T71.setTop (mkF m 177 #[.val (.int x0), .val (.int x1), .val (.ref b16_1), .val (.int (2 : Int32))] [(.int (1 : Int32))])) _
    exact retN X71 hx (t := .boolean) Bd.returns (by simp) (hb hby at_177) hr
  · show Q0_2 Z x0 x1 x2 r3 r4 d5 r6 d7 t8 u9 h0 n0 _ T71.heap _
    rw [E71]
    exact ⟨rfl, N71⟩
theorem d31_69 : decode method_3_code 69 = .ok (.iconst 3, 1) := by decide +kernel
theorem d31_70 : decode method_3_code 70 = .ok (.ireturn, 1) := by decide +kernel
def Q31_3 (Z : State) (x0 : Int32) (h0 : Heap) (n0 : Nat) (v : Option Value) (h : Heap) (L : List Loc) : Prop := v = some (.int (3 : Int32)) ∧ Fr n0 L ∧ h = h0
set_option maxRecDepth 65536 in
set_option maxHeartbeats 40000000 in
theorem rm31_3 (l : Launch) (Z : State) (a0 : Array Value) (hw : ∀ d ∈ tables_1, d.before a0 Z = true) (ws : List Jvm.Cond) (x0 : Int32) (h0 : Heap) (n0 : Nat) (O0 : Old Z n0 h0) (hc1 : x0 < (1000000000 : Int32)) (hc2 : x0 < (100000000 : Int32)) (hc3 : x0 < (10000000 : Int32)) (hc4 : x0 < (1000000 : Int32)) (hc5 : x0 < (100000 : Int32)) (hc6 : x0 < (10000 : Int32)) (hc7 : x0 < (1000 : Int32)) (hc8 : ¬ (x0 < (100 : Int32))) :
    MetFree l (⟨cs9, "digits", "(I)I"⟩ : MethodName) (head1 (Jvm.Cond.code (⟨cs9, "digits", "(I)I"⟩ : MethodName) method_3_code 1 (some .int) :: ws) ({ frames := 0, cells := 0, slots := 0, locals := 0 } : Room)) (fun a U => a = #[(.int x0)] ∧ Z.Warmed39 U.vm ∧ U.heap = h0) (fun _ _ _ _ _ => True) (fun _ U o U' => ∃ v L, o = .returned v ∧ Q31_3 Z x0 h0 n0 v U'.heap L ∧ FrameEnd U o U' L ({ frames := 0, cells := 0, slots := 0, locals := 0 } : Room).cells ({ frames := 0, cells := 0, slots := 0, locals := 0 } : Room).slots) := by
  refine MetFree.of_bodySF (plainFor_of_name pn_com_example_manojo_manojo_ParameterPositionalPinLaw) hisR ?_
  intro p e s m args below meth c s₁ Bd hml0 hP hK
  obtain ⟨rfl, hZ, hh⟩ := hP
  have hx := Bd.exec
  have hby := Bd.bytes
  have hml : c.maxLocals = 1 := hml0
  have hown : s.vm.findClass cs9 = some m.cls := findClass_of_methodNamed Bd.named
  have hnm := (name_of_methodNamed Bd.named Bd.method).1
  have X0 : Stand p l e ({ frames := 0, cells := 0, slots := 0, locals := 0 } : Room) s m #[(.int x0)] below meth c s₁ [] 0 0 := Stand.of_body Bd
  have e0 : s₁.heap = h0 := by rw [← hh, Bd.state]; rfl
  have N0 := Fr.nil n0
  have pre0 : ∀ t, Steps p.tables e below (s₁.setTop (mkF m 0 #[.val (.int x0)] [])) t → Steps p.tables e below (s₁.setTop (entryFrame m #[(.int x0)] 1)) t := fun t k => castTop (by first | (simp [entryFrame, mkF, argsToLocals, Value.category]; done) | rfl) k
  obtain ⟨fs, hr, hrun, hended, hW, hsame⟩ := X0.leave (v := some (.int (3 : Int32))) (fun h => by rw [Bd.returns] at h; cases h)
  refine ⟨_, _, pre0 _ ?_, hrun, hended, _, _, rfl, ?_, ⟨_, rfl⟩, hW, hsame.mono (by decide) (by decide)⟩
  · show Steps p.tables e below (s₁.setTop (mkF m 0 #[.val (.int x0)] [])) _
    refine XS.iloadN X0.here hx rfl (hb hby d31_0) rfl ?_
    refine X0.ldcInt hx hown (mvT hZ (ww hw 170 rfl)) (g := (mkF m 1 #[.val (.int x0)] [(.int x0)])) rfl (hb hby d31_1) _ ?_
    show Steps p.tables e below (s₁.setTop (mkF m 3 #[.val (.int x0)] [(.int (1000000000 : Int32)), (.int x0)])) _
    refine XS.icmpYes X0.here hx rfl (pc0 := 3) (pc' := 9) rfl (hb hby d31_3) rfl (tlt hc1).1 (by decide) (by decide) ?_
    show Steps p.tables e below (s₁.setTop (mkF m 9 #[.val (.int x0)] [])) _
    refine XS.iloadN X0.here hx rfl (hb hby d31_9) rfl ?_
    refine X0.ldcInt hx hown (mvT hZ (ww hw 171 rfl)) (g := (mkF m 10 #[.val (.int x0)] [(.int x0)])) rfl (hb hby d31_10) _ ?_
    show Steps p.tables e below (s₁.setTop (mkF m 12 #[.val (.int x0)] [(.int (100000000 : Int32)), (.int x0)])) _
    refine XS.icmpYes X0.here hx rfl (pc0 := 12) (pc' := 18) rfl (hb hby d31_12) rfl (tlt hc2).1 (by decide) (by decide) ?_
    show Steps p.tables e below (s₁.setTop (mkF m 18 #[.val (.int x0)] [])) _
    refine XS.iloadN X0.here hx rfl (hb hby d31_18) rfl ?_
    refine X0.ldcInt hx hown (mvT hZ (ww hw 172 rfl)) (g := (mkF m 19 #[.val (.int x0)] [(.int x0)])) rfl (hb hby d31_19) _ ?_
    show Steps p.tables e below (s₁.setTop (mkF m 21 #[.val (.int x0)] [(.int (10000000 : Int32)), (.int x0)])) _
    refine XS.icmpYes X0.here hx rfl (pc0 := 21) (pc' := 27) rfl (hb hby d31_21) rfl (tlt hc3).1 (by decide) (by decide) ?_
    show Steps p.tables e below (s₁.setTop (mkF m 27 #[.val (.int x0)] [])) _
    refine XS.iloadN X0.here hx rfl (hb hby d31_27) rfl ?_
    refine X0.ldcInt hx hown (mvT hZ (ww hw 173 rfl)) (g := (mkF m 28 #[.val (.int x0)] [(.int x0)])) rfl (hb hby d31_28) _ ?_
    show Steps p.tables e below (s₁.setTop (mkF m 30 #[.val (.int x0)] [(.int (1000000 : Int32)), (.int x0)])) _
    refine XS.icmpYes X0.here hx rfl (pc0 := 30) (pc' := 36) rfl (hb hby d31_30) rfl (tlt hc4).1 (by decide) (by decide) ?_
    show Steps p.tables e below (s₁.setTop (mkF m 36 #[.val (.int x0)] [])) _
    refine XS.iloadN X0.here hx rfl (hb hby d31_36) rfl ?_
    refine X0.ldcInt hx hown (mvT hZ (ww hw 174 rfl)) (g := (mkF m 37 #[.val (.int x0)] [(.int x0)])) rfl (hb hby d31_37) _ ?_
    show Steps p.tables e below (s₁.setTop (mkF m 39 #[.val (.int x0)] [(.int (100000 : Int32)), (.int x0)])) _
    refine XS.icmpYes X0.here hx rfl (pc0 := 39) (pc' := 45) rfl (hb hby d31_39) rfl (tlt hc5).1 (by decide) (by decide) ?_
    show Steps p.tables e below (s₁.setTop (mkF m 45 #[.val (.int x0)] [])) _
    refine XS.iloadN X0.here hx rfl (hb hby d31_45) rfl ?_
    refine XS.sipush X0.here hx rfl (hb hby d31_46) ?_
    refine XS.icmpYes X0.here hx rfl (pc0 := 49) (pc' := 54) rfl (hb hby d31_49) rfl (tlt hc6).1 (by decide) (by decide) ?_
    show Steps p.tables e below (s₁.setTop (mkF m 54 #[.val (.int x0)] [])) _
    refine XS.iloadN X0.here hx rfl (hb hby d31_54) rfl ?_
    refine XS.sipush X0.here hx rfl (hb hby d31_55) ?_
    refine XS.icmpYes X0.here hx rfl (pc0 := 58) (pc' := 63) rfl (hb hby d31_58) rfl (tlt hc7).1 (by decide) (by decide) ?_
    show Steps p.tables e below (s₁.setTop (mkF m 63 #[.val (.int x0)] [])) _
    refine XS.iloadN X0.here hx rfl (hb hby d31_63) rfl ?_
    refine XS.bipush X0.here hx rfl (hb hby d31_64) ?_
    refine XS.icmpNo X0.here hx rfl (hb hby d31_66) rfl (flt hc8).1 ?_
    refine XS.iconst X0.here hx rfl (hb hby d31_69) ?_
    show Steps p.tables e below (s₁.setTop (mkF m 70 #[.val (.int x0)] [(.int (3 : Int32))])) _
    exact retOut X0 hx (i := .ireturn) Bd.returns rfl (Or.inl ⟨rfl, Or.inl rfl, _, rfl⟩) (hb hby d31_70) hr
  · show Q31_3 Z x0 h0 n0 _ s₁.heap _
    rw [e0]
    exact ⟨rfl, N0, rfl⟩
def Q0_3 (Z : State) (x0 : Int32) (x1 : Int32) (x2 : Int32) (r3 : Addr) (r4 : Addr) (d5 : Cell) (r6 : Addr) (d7 : Cell) (t8 : List Value) (u9 : Value) (h0 : Heap) (n0 : Nat) (v : Option Value) (h : Heap) (L : List Loc) : Prop := v = some (.int (1 : Int32)) ∧ Fr n0 L
set_option maxRecDepth 65536 in
set_option maxHeartbeats 40000000 in
theorem rm0_3 (l : Launch) (Z : State) (a0 : Array Value) (hw : ∀ d ∈ tables_1, d.before a0 Z = true) (ws : List Jvm.Cond) (x0 : Int32) (x1 : Int32) (x2 : Int32) (r3 : Addr) (r4 : Addr) (d5 : Cell) (r6 : Addr) (d7 : Cell) (t8 : List Value) (u9 : Value) (h0 : Heap) (n0 : Nat) (O0 : Old Z n0 h0) (hq1 : ((1 : Int32) + ((x0 &&& (2147483647 : Int32)) % (2147483647 : Int32))) = x1) (f2 : Sta Z Z.heap "java/lang/String" "COMPACT_STRINGS" "Z" (.int x2)) (hc3 : ¬ (x2 = (0 : Int32))) (hc4 : ¬ ((0 : Int32) < (((1 : Int32) + (SBG.strSizeOf x1)) - ((16 : Int32) >>> ((0 : Int32) &&& 31))))) (f5 : own_TB Z r3 r4 d5 r6 d7) (hc6 : ¬ (((1 : Int32) + (SBG.strSizeOf x1)) < 0)) (hc7 : (((1 : Int32) + (SBG.strSizeOf x1))).toNatClampNeg ≤ ((16 : Int32)).toNatClampNeg) (hc8 : own_sz x1 ≤ (((1 : Int32) + (SBG.strSizeOf x1))).toNatClampNeg) (hc9 : ¬ (((1 : Int32) + (SBG.strSizeOf x1)) = (16 : Int32))) (hc10 : ¬ (((1 : Int32) + (SBG.strSizeOf x1)) < (0 : Int32))) (hc11 : ¬ ((((1 : Int32) + (SBG.strSizeOf x1)) - (0 : Int32)) < 0)) (hc12 : ((((1 : Int32) + (SBG.strSizeOf x1)) - (0 : Int32))).toNatClampNeg ≤ 32) (hc13 : (((1 : Int32) + (SBG.strSizeOf x1)) - (0 : Int32)) < ((16 : Int32) - (0 : Int32))) (hc14 : ((((1 : Int32) + (SBG.strSizeOf x1)) - (0 : Int32))).toNatClampNeg ≤ ((16 : Int32)).toNatClampNeg) (hq31 : (own_us [(.int (63 : Int32)), (.int (0 : Int32)), (.int (0 : Int32)), (.int (0 : Int32)), (.int (0 : Int32)), (.int (0 : Int32)), (.int (0 : Int32)), (.int (0 : Int32)), (.int (0 : Int32)), (.int (0 : Int32)), (.int (0 : Int32)), (.int (0 : Int32)), (.int (0 : Int32)), (.int (0 : Int32)), (.int (0 : Int32)), (.int (0 : Int32))] (.int (0 : Int32)) ((16 : Int32)).toNatClampNeg x1 (((1 : Int32) + (SBG.strSizeOf x1))).toNatClampNeg) = t8) (hc36 : x1 < (1000000000 : Int32)) (hc37 : x1 < (100000000 : Int32)) (hc38 : x1 < (10000000 : Int32)) (hc39 : x1 < (1000000 : Int32)) (hc40 : x1 < (100000 : Int32)) (hc41 : x1 < (10000 : Int32)) (hc42 : x1 < (1000 : Int32)) (hc43 : ¬ (x1 < (100 : Int32))) (hc47 : ((((1 : Int32) + (SBG.strSizeOf x1)) - (0 : Int32)) >>> ((nar .byte (0 : Int32)) &&& 31)) = (4 : Int32)) (f48 : Sta Z Z.heap cs10 "SIOOBE_FORMATTER" cs12 u9) (hc49 : u9.isRef = true) (hc50 : (0 : Int32) < (((1 : Int32) + (SBG.strSizeOf x1)) - (0 : Int32))) (hc51 : t8.getD ((0 : Int32)).toNatClampNeg (.int (0 : Int32)) = (.int (own_at t8 ((0 : Int32)).toNatClampNeg))) (hc54 : (nar .char (nar .char (((own_at t8 ((0 : Int32)).toNatClampNeg) &&& (255 : Int32)).toUInt32.toUInt16.toUInt32.toInt32))) = (63 : Int32)) (hc55 : ((3 : Int32) - (0 : Int32)) < (((1 : Int32) + (SBG.strSizeOf x1)) - (0 : Int32))) (hc56 : t8.getD (((3 : Int32) - (0 : Int32))).toNatClampNeg (.int (0 : Int32)) = (.int (own_at t8 (((3 : Int32) - (0 : Int32))).toNatClampNeg))) (hc57 : (nar .char (nar .char (((own_at t8 (((3 : Int32) - (0 : Int32))).toNatClampNeg) &&& (255 : Int32)).toUInt32.toUInt16.toUInt32.toInt32))) = (((48 : Int32) + ((x1 / (1 : Int32)) % (10 : Int32))).toUInt32.toUInt16.toUInt32.toInt32)) (hc59 : ((3 : Int32) - (1 : Int32)) < (((1 : Int32) + (SBG.strSizeOf x1)) - (0 : Int32))) (hc60 : t8.getD (((3 : Int32) - (1 : Int32))).toNatClampNeg (.int (0 : Int32)) = (.int (own_at t8 (((3 : Int32) - (1 : Int32))).toNatClampNeg))) (hc61 : (nar .char (nar .char (((own_at t8 (((3 : Int32) - (1 : Int32))).toNatClampNeg) &&& (255 : Int32)).toUInt32.toUInt16.toUInt32.toInt32))) = (((48 : Int32) + ((x1 / (10 : Int32)) % (10 : Int32))).toUInt32.toUInt16.toUInt32.toInt32)) (hc63 : ((3 : Int32) - (2 : Int32)) < (((1 : Int32) + (SBG.strSizeOf x1)) - (0 : Int32))) (hc64 : t8.getD (((3 : Int32) - (2 : Int32))).toNatClampNeg (.int (0 : Int32)) = (.int (own_at t8 (((3 : Int32) - (2 : Int32))).toNatClampNeg))) (hc65 : (nar .char (nar .char (((own_at t8 (((3 : Int32) - (2 : Int32))).toNatClampNeg) &&& (255 : Int32)).toUInt32.toUInt16.toUInt32.toInt32))) = (((48 : Int32) + ((x1 / (100 : Int32)) % (10 : Int32))).toUInt32.toUInt16.toUInt32.toInt32)) :
    MetFree l x (head1 (Jvm.Cond.code x code maxLocals ret :: ws) room_1) (fun a U => a = #[(.int x0)] ∧ Z.Warmed39 U.vm ∧ U.heap = h0 ∧ CHv Z consts_1 U.vm h0) (fun _ _ _ _ _ => True) (fun _ U o U' => ∃ v L, o = .returned v ∧ Q0_3 Z x0 x1 x2 r3 r4 d5 r6 d7 t8 u9 h0 n0 v U'.heap L ∧ CHr Z consts_1 U.vm U.heap U'.vm U'.heap ∧ ReturnedEndW U o U' L room_1.cells room_1.slots) := by
  refine MetFree.of_bodySF (plainFor_of_name pn_com_example_manojo_manojo_ParameterPositionalPinLaw) hisR ?_
  intro p e s m args below meth c s₁ Bd hml0 hP hK
  obtain ⟨rfl, hZ, hh, hC⟩ := hP
  have hx := Bd.exec
  have hby := Bd.bytes
  have hml : c.maxLocals = 4 := hml0
  have hown : s.vm.findClass cs9 = some m.cls := findClass_of_methodNamed Bd.named
  have hnm := (name_of_methodNamed Bd.named Bd.method).1
  have X0 : Stand p l e room_1 s m #[(.int x0)] below meth c s₁ [] 0 0 := Stand.of_body Bd
  have e0 : s₁.heap = h0 := by rw [← hh, Bd.state]; rfl
  have N0 := Fr.nil n0
  have pre0 : ∀ t, Steps p.tables e below (s₁.setTop (mkF m 0 #[.val (.int x0), .unset, .unset, .unset] [])) t → Steps p.tables e below (s₁.setTop (entryFrame m #[(.int x0)] maxLocals)) t := fun t k => castTop (by first | (simp [entryFrame, mkF, argsToLocals, Value.category, maxLocals]; done) | rfl) k
  have hEL : EW Z a0 consts_1 := own_EW hw
  have R0 := CHr.refl hC
  have hS15 := (State.WarmedH.refl s).since 0
  obtain ⟨_, _, ⟨T16, L16, k16, n16⟩, -, X16, hs16, hg16, ⟨Lc16, hQ16, l16, y16, z16, cr16⟩, st16⟩ := callSS X0 hx (y := (⟨cs7, "positional", cs8⟩ : MethodName)) hown (mvT hZ (ww hw 1 rfl)) (mvT hZ (ww hw 2 rfl)) (mvT hZ (ww hw 3 rfl)) (mvT hZ (ww hw 4 rfl)) (by decide) (backOfSH (s := s) (vm0 := s.vm) (W := 0) (rm1_1 l Z a0 hw [] x1 x2 r3 r4 d5 r6 d7 h0 n0 O0 f2 hc3 hc4 f5 hc6 hc7 hc8 hc9 hc10 hc11 hc12 hc13 hc14) hZ (ww hw 4 rfl) (ww hw 3 rfl) (by decide) (by decide) hEL R0.1) (g := (mkF m 11 #[.val (.int x0), .val (.int x1), .unset, .unset] [(.int x1)])) rfl (by rw [hml]; rfl) (argsL := [(.int x1)]) (rest := []) (lenOf pd__I_Lcom_example_manojo_manojo_QueryTree_Parameter_ rfl) rfl (by show 2 * 0 + _ ≤ _; exact Nat.le_of_eq rfl) (hb hby at_11) (fun _ _ => ⟨rfl, e0, (by decide : 0 + 7 ≤ _), (by decide : 0 + 65 ≤ _)⟩)
  dsimp only [Pt.U, Pt.locs, Pt.cells, Pt.slots] at X16 l16 y16 z16 st16 hQ16 hs16 hg16 cr16
  subst l16 y16 z16
  obtain ⟨X16, hS16, hZ16, ho16⟩ := rebS (s := s) (vm0 := s.vm) hS15 (by rw [e0]; exact (Nat.zero_le _)) X16 hs16 hg16 hZ hown
  obtain ⟨b16_0, b16_1, b16_2, k16_0, rfl, N16q, K16, f17, f18, f19, f20, f21, f22, f23, f24, f25, f26, f27, f28, f29⟩ := hQ16
  have N16 := Fr.app N0 N16q
  have R30 := CHr.trans R0 cr16
  have f32 : Arv Z T16.heap b16_2 k16_0 .byte (((1 : Int32) + (SBG.strSizeOf x1)) - (0 : Int32)) t8 (.int (0 : Int32)) := by rw [← hq31]; exact f25
  have o33 := Old.keep O0 K16 all0
  obtain ⟨cqq35, kqq35, qq35a, qq35b, qq35c⟩ := isOf hZ16 rfl f18
  obtain ⟨_, _, ⟨T34, L34, k34, n34⟩, -, X34, ⟨Lc34, hQ34, l34, y34, z34⟩, st34⟩ := X16.virtualBack hx (y := (⟨cs7, "name", "()Ljava/lang/String;"⟩ : MethodName)) (z := (⟨cs7, "name", "()Ljava/lang/String;"⟩ : MethodName)) ho16 (mvT hZ16 (ww hw 161 rfl)) (mvT hZ16 (ww hw 162 rfl)) (notFace_of_selects (args := #[]) (mvT hZ16 (ww hw 164 rfl))) (mvT hZ16 (ww hw 164 rfl)) (mvT hZ16 (ww hw 163 rfl)) (by decide) (backOf (W := 0) (rm30_1 l Z a0 hw [] b16_0 b16_1 T16.heap n0 o33 f19) hZ16 (ww hw 165 rfl) (ww hw 3 rfl) (by decide) (by decide)) qq35a qq35c (g := (mkF m 14 #[.val (.int x0), .val (.int x1), .unset, .unset] [(.ref b16_0)])) rfl (by rw [hml]; rfl) (Steps.refl _) (argsL := []) (rest := []) (lenOf pd___Ljava_lang_String_ rfl) rfl (by show 2 * 0 + _ ≤ _; exact Nat.le_of_eq rfl) (hb hby at_14) (fun _ _ => ⟨rfl, rfl, (by decide : 7 + 0 ≤ _), (by decide : 65 + 0 ≤ _)⟩)
  dsimp only [Pt.U, Pt.locs, Pt.cells, Pt.slots] at X34 l34 y34 z34 st34 hQ34
  subst l34 y34 z34
  obtain ⟨rfl, N34q, E34⟩ := hQ34
  have N34 := Fr.app N16 N34q
  obtain ⟨_, _, ⟨T44, L44, k44, n44⟩, -, X44, ⟨Lc44, hQ44, l44, y44, z44⟩, st44⟩ := Jvm.LawKit.callS X34 hx (y := (⟨cs9, "digits", "(I)I"⟩ : MethodName)) ho16 (mvT hZ16 (ww hw 166 rfl)) (mvT hZ16 (ww hw 167 rfl)) (mvT hZ16 (ww hw 168 rfl)) (mvT hZ16 (ww hw 169 rfl)) (by decide) (backOf (W := 0) (rm31_3 l Z a0 hw [] x1 T16.heap n0 o33 hc36 hc37 hc38 hc39 hc40 hc41 hc42 hc43) hZ16 (ww hw 169 rfl) (ww hw 168 rfl) (by decide) (by decide)) (g := (mkF m 19 #[.val (.int x0), .val (.int x1), .val (.ref b16_1), .unset] [(.int x1)])) rfl (by rw [hml]; rfl) (argsL := [(.int x1)]) (rest := []) (lenOf pd__I_I rfl) rfl (by show 2 * 0 + _ ≤ _; exact Nat.le_of_eq rfl) (hb hby at_19) (fun _ _ => ⟨rfl, E34, (by decide : 7 + 0 ≤ _), (by decide : 65 + 0 ≤ _)⟩)
  dsimp only [Pt.U, Pt.locs, Pt.cells, Pt.slots] at X44 l44 y44 z44 st44 hQ44
  subst l44 y44 z44
  obtain ⟨rfl, N44q, E44⟩ := hQ44
  have N44 := Fr.app N34 N44q
  obtain ⟨cqq46, kqq46, qq46a, qq46b, qq46c⟩ := isOf hZ16 E44 f21
  obtain ⟨_, _, ⟨T45, L45, k45, n45⟩, -, X45, ⟨Lc45, hQ45, l45, y45, z45⟩, st45⟩ := X44.virtualBack hx (y := (⟨"java/lang/String", "length", "()I"⟩ : MethodName)) (z := (⟨"java/lang/String", "length", "()I"⟩ : MethodName)) ho16 (mvT hZ16 (ww hw 175 rfl)) (mvT hZ16 (ww hw 46 rfl)) (notFace_of_selects (args := #[]) (mvT hZ16 (ww hw 48 rfl))) (mvT hZ16 (ww hw 48 rfl)) (mvT hZ16 (ww hw 47 rfl)) (by decide) (backOf (W := 0) (rm7_1 l Z a0 hw [] b16_1 b16_2 (((1 : Int32) + (SBG.strSizeOf x1)) - (0 : Int32)) k16_0 t8 x2 (0 : Int32) T16.heap n0 o33 f23 f32 f21 f2 hc3 f22) hZ16 (ww hw 49 rfl) (ww hw 23 rfl) (by decide) (by decide)) qq46a qq46c (g := (mkF m 24 #[.val (.int x0), .val (.int x1), .val (.ref b16_1), .val (.int (3 : Int32))] [(.ref b16_1)])) rfl (by rw [hml]; rfl) (Steps.refl _) (argsL := []) (rest := []) (lenOf pd___I rfl) rfl (by show 2 * 0 + _ ≤ _; exact Nat.le_of_eq rfl) (hb hby at_24) (fun _ _ => ⟨rfl, E44, (by decide : 7 + 0 ≤ _), (by decide : 65 + 0 ≤ _)⟩)
  dsimp only [Pt.U, Pt.locs, Pt.cells, Pt.slots] at X45 l45 y45 z45 st45 hQ45
  subst l45 y45 z45
  obtain ⟨rfl, N45q, E45⟩ := hQ45
  have N45 := Fr.app N44 N45q
  obtain ⟨cqq53, kqq53, qq53a, qq53b, qq53c⟩ := isOf hZ16 E45 f21
  obtain ⟨_, _, ⟨T52, L52, k52, n52⟩, -, X52, ⟨Lc52, hQ52, l52, y52, z52⟩, st52⟩ := X45.virtualBack hx (y := (⟨"java/lang/String", "charAt", "(I)C"⟩ : MethodName)) (z := (⟨"java/lang/String", "charAt", "(I)C"⟩ : MethodName)) ho16 (mvT hZ16 (ww hw 176 rfl)) (mvT hZ16 (ww hw 177 rfl)) (notFace_of_selects (args := #[]) (mvT hZ16 (ww hw 179 rfl))) (mvT hZ16 (ww hw 179 rfl)) (mvT hZ16 (ww hw 178 rfl)) (by decide) (backOf (W := 0) (rm32_1 l Z a0 hw [] b16_1 (0 : Int32) x2 (0 : Int32) b16_2 (((1 : Int32) + (SBG.strSizeOf x1)) - (0 : Int32)) k16_0 t8 u9 (own_at t8 ((0 : Int32)).toNatClampNeg) T16.heap n0 o33 f21 f2 hc3 f22 (by decide : (0 : Int32) = (0 : Int32)) f23 f32 f48 hc49 (by decide : ¬ ((0 : Int32) < (0 : Int32))) hc50 hc51) hZ16 (ww hw 180 rfl) (ww hw 23 rfl) (by decide) (by decide)) qq53a qq53c (g := (mkF m 37 #[.val (.int x0), .val (.int x1), .val (.ref b16_1), .val (.int (3 : Int32))] [(.int (0 : Int32)), (.ref b16_1)])) rfl (by rw [hml]; rfl) (Steps.refl _) (argsL := [(.int (0 : Int32))]) (rest := []) (lenOf pd__I_C rfl) rfl (by show 2 * 0 + _ ≤ _; exact Nat.le_of_eq rfl) (hb hby at_37) (fun _ _ => ⟨rfl, E45, (by decide : 7 + 0 ≤ _), (by decide : 65 + 0 ≤ _)⟩)
  dsimp only [Pt.U, Pt.locs, Pt.cells, Pt.slots] at X52 l52 y52 z52 st52 hQ52
  subst l52 y52 z52
  obtain ⟨rfl, N52q, E52⟩ := hQ52
  have N52 := Fr.app N45 N52q
  obtain ⟨_, _, ⟨T58, L58, k58, n58⟩, -, X58, ⟨Lc58, hQ58, l58, y58, z58⟩, st58⟩ := Jvm.LawKit.callS X52 hx (y := (⟨cs9, "at", cs13⟩ : MethodName)) ho16 (mvT hZ16 (ww hw 198 rfl)) (mvT hZ16 (ww hw 199 rfl)) (mvT hZ16 (ww hw 168 rfl)) (mvT hZ16 (ww hw 200 rfl)) (by decide) (backOf (W := 0) (rm37_1 l Z a0 hw [] b16_1 (3 : Int32) x1 (0 : Int32) (1 : Int32) x2 (0 : Int32) b16_2 (((1 : Int32) + (SBG.strSizeOf x1)) - (0 : Int32)) k16_0 t8 u9 (own_at t8 (((3 : Int32) - (0 : Int32))).toNatClampNeg) T16.heap n0 o33 (by decide : (0 : Int32) < (3 : Int32)) f21 f2 hc3 f22 (by decide : (0 : Int32) = (0 : Int32)) f23 f32 f48 hc49 (by decide : ¬ (((3 : Int32) - (0 : Int32)) < (0 : Int32))) hc55 hc56 (by decide : ¬ ((1 : Int32) = (0 : Int32))) hc57) hZ16 (ww hw 200 rfl) (ww hw 168 rfl) (by decide) (by decide)) (g := (mkF m 52 #[.val (.int x0), .val (.int x1), .val (.ref b16_1), .val (.int (3 : Int32))] [(.int (1 : Int32)), (.int (0 : Int32)), (.int x1), (.int (3 : Int32)), (.ref b16_1)])) rfl (by rw [hml]; rfl) (argsL := [(.ref b16_1), (.int (3 : Int32)), (.int x1), (.int (0 : Int32)), (.int (1 : Int32))]) (rest := []) (lenOf pd__Ljava_lang_String_IIII_Z rfl) rfl (by show 2 * 0 + _ ≤ _; exact Nat.le_of_eq rfl) (hb hby at_52) (fun _ _ => ⟨rfl, E52, (by decide : 7 + 0 ≤ _), (by decide : 65 + 0 ≤ _)⟩)
  dsimp only [Pt.U, Pt.locs, Pt.cells, Pt.slots] at X58 l58 y58 z58 st58 hQ58
  subst l58 y58 z58
  obtain ⟨rfl, N58q, E58⟩ := hQ58
  have N58 := Fr.app N52 N58q
  obtain ⟨_, _, ⟨T62, L62, k62, n62⟩, -, X62, ⟨Lc62, hQ62, l62, y62, z62⟩, st62⟩ := Jvm.LawKit.callS X58 hx (y := (⟨cs9, "at", cs13⟩ : MethodName)) ho16 (mvT hZ16 (ww hw 198 rfl)) (mvT hZ16 (ww hw 199 rfl)) (mvT hZ16 (ww hw 168 rfl)) (mvT hZ16 (ww hw 200 rfl)) (by decide) (backOf (W := 0) (rm37_1 l Z a0 hw [] b16_1 (3 : Int32) x1 (1 : Int32) (10 : Int32) x2 (0 : Int32) b16_2 (((1 : Int32) + (SBG.strSizeOf x1)) - (0 : Int32)) k16_0 t8 u9 (own_at t8 (((3 : Int32) - (1 : Int32))).toNatClampNeg) T16.heap n0 o33 (by decide : (1 : Int32) < (3 : Int32)) f21 f2 hc3 f22 (by decide : (0 : Int32) = (0 : Int32)) f23 f32 f48 hc49 (by decide : ¬ (((3 : Int32) - (1 : Int32)) < (0 : Int32))) hc59 hc60 (by decide : ¬ ((10 : Int32) = (0 : Int32))) hc61) hZ16 (ww hw 200 rfl) (ww hw 168 rfl) (by decide) (by decide)) (g := (mkF m 64 #[.val (.int x0), .val (.int x1), .val (.ref b16_1), .val (.int (3 : Int32))] [(.int (10 : Int32)), (.int (1 : Int32)), (.int x1), (.int (3 : Int32)), (.ref b16_1)])) rfl (by rw [hml]; rfl) (argsL := [(.ref b16_1), (.int (3 : Int32)), (.int x1), (.int (1 : Int32)), (.int (10 : Int32))]) (rest := []) (lenOf pd__Ljava_lang_String_IIII_Z rfl) rfl (by show 2 * 0 + _ ≤ _; exact Nat.le_of_eq rfl) (hb hby at_64) (fun _ _ => ⟨rfl, E58, (by decide : 7 + 0 ≤ _), (by decide : 65 + 0 ≤ _)⟩)
  dsimp only [Pt.U, Pt.locs, Pt.cells, Pt.slots] at X62 l62 y62 z62 st62 hQ62
  subst l62 y62 z62
  obtain ⟨rfl, N62q, E62⟩ := hQ62
  have N62 := Fr.app N58 N62q
  obtain ⟨_, _, ⟨T66, L66, k66, n66⟩, -, X66, ⟨Lc66, hQ66, l66, y66, z66⟩, st66⟩ := Jvm.LawKit.callS X62 hx (y := (⟨cs9, "at", cs13⟩ : MethodName)) ho16 (mvT hZ16 (ww hw 198 rfl)) (mvT hZ16 (ww hw 199 rfl)) (mvT hZ16 (ww hw 168 rfl)) (mvT hZ16 (ww hw 200 rfl)) (by decide) (backOf (W := 0) (rm37_1 l Z a0 hw [] b16_1 (3 : Int32) x1 (2 : Int32) (100 : Int32) x2 (0 : Int32) b16_2 (((1 : Int32) + (SBG.strSizeOf x1)) - (0 : Int32)) k16_0 t8 u9 (own_at t8 (((3 : Int32) - (2 : Int32))).toNatClampNeg) T16.heap n0 o33 (by decide : (2 : Int32) < (3 : Int32)) f21 f2 hc3 f22 (by decide : (0 : Int32) = (0 : Int32)) f23 f32 f48 hc49 (by decide : ¬ (((3 : Int32) - (2 : Int32)) < (0 : Int32))) hc63 hc64 (by decide : ¬ ((100 : Int32) = (0 : Int32))) hc65) hZ16 (ww hw 200 rfl) (ww hw 168 rfl) (by decide) (by decide)) (g := (mkF m 76 #[.val (.int x0), .val (.int x1), .val (.ref b16_1), .val (.int (3 : Int32))] [(.int (100 : Int32)), (.int (2 : Int32)), (.int x1), (.int (3 : Int32)), (.ref b16_1)])) rfl (by rw [hml]; rfl) (argsL := [(.ref b16_1), (.int (3 : Int32)), (.int x1), (.int (2 : Int32)), (.int (100 : Int32))]) (rest := []) (lenOf pd__Ljava_lang_String_IIII_Z rfl) rfl (by show 2 * 0 + _ ≤ _; exact Nat.le_of_eq rfl) (hb hby at_76) (fun _ _ => ⟨rfl, E62, (by decide : 7 + 0 ≤ _), (by decide : 65 + 0 ≤ _)⟩)
  dsimp only [Pt.U, Pt.locs, Pt.cells, Pt.slots] at X66 l66 y66 z66 st66 hQ66
  subst l66 y66 z66
  obtain ⟨rfl, N66q, E66⟩ := hQ66
  have N66 := Fr.app N62 N66q
  obtain ⟨_, _, ⟨T67, L67, k67, n67⟩, -, X67, ⟨Lc67, hQ67, l67, y67, z67⟩, st67⟩ := Jvm.LawKit.callS X66 hx (y := (⟨cs9, "at", cs13⟩ : MethodName)) ho16 (mvT hZ16 (ww hw 198 rfl)) (mvT hZ16 (ww hw 199 rfl)) (mvT hZ16 (ww hw 168 rfl)) (mvT hZ16 (ww hw 200 rfl)) (by decide) (backOf (W := 0) (rm37_2 l Z a0 hw [] b16_1 (3 : Int32) x1 (3 : Int32) (1000 : Int32) T16.heap n0 o33 (by decide : ¬ ((3 : Int32) < (3 : Int32)))) hZ16 (ww hw 200 rfl) (ww hw 168 rfl) (by decide) (by decide)) (g := (mkF m 89 #[.val (.int x0), .val (.int x1), .val (.ref b16_1), .val (.int (3 : Int32))] [(.int (1000 : Int32)), (.int (3 : Int32)), (.int x1), (.int (3 : Int32)), (.ref b16_1)])) rfl (by rw [hml]; rfl) (argsL := [(.ref b16_1), (.int (3 : Int32)), (.int x1), (.int (3 : Int32)), (.int (1000 : Int32))]) (rest := []) (lenOf pd__Ljava_lang_String_IIII_Z rfl) rfl (by show 2 * 0 + _ ≤ _; exact Nat.le_of_eq rfl) (hb hby at_89) (fun _ _ => ⟨rfl, E66, (by decide : 7 + 0 ≤ _), (by decide : 65 + 0 ≤ _)⟩)
  dsimp only [Pt.U, Pt.locs, Pt.cells, Pt.slots] at X67 l67 y67 z67 st67 hQ67
  subst l67 y67 z67
  obtain ⟨rfl, N67q, E67⟩ := hQ67
  have N67 := Fr.app N66 N67q
  obtain ⟨_, _, ⟨T68, L68, k68, n68⟩, -, X68, ⟨Lc68, hQ68, l68, y68, z68⟩, st68⟩ := Jvm.LawKit.callS X67 hx (y := (⟨cs9, "at", cs13⟩ : MethodName)) ho16 (mvT hZ16 (ww hw 198 rfl)) (mvT hZ16 (ww hw 199 rfl)) (mvT hZ16 (ww hw 168 rfl)) (mvT hZ16 (ww hw 200 rfl)) (by decide) (backOf (W := 0) (rm37_2 l Z a0 hw [] b16_1 (3 : Int32) x1 (4 : Int32) (10000 : Int32) T16.heap n0 o33 (by decide : ¬ ((4 : Int32) < (3 : Int32)))) hZ16 (ww hw 200 rfl) (ww hw 168 rfl) (by decide) (by decide)) (g := (mkF m 102 #[.val (.int x0), .val (.int x1), .val (.ref b16_1), .val (.int (3 : Int32))] [(.int (10000 : Int32)), (.int (4 : Int32)), (.int x1), (.int (3 : Int32)), (.ref b16_1)])) rfl (by rw [hml]; rfl) (argsL := [(.ref b16_1), (.int (3 : Int32)), (.int x1), (.int (4 : Int32)), (.int (10000 : Int32))]) (rest := []) (lenOf pd__Ljava_lang_String_IIII_Z rfl) rfl (by show 2 * 0 + _ ≤ _; exact Nat.le_of_eq rfl) (hb hby at_102) (fun _ _ => ⟨rfl, E67, (by decide : 7 + 0 ≤ _), (by decide : 65 + 0 ≤ _)⟩)
  dsimp only [Pt.U, Pt.locs, Pt.cells, Pt.slots] at X68 l68 y68 z68 st68 hQ68
  subst l68 y68 z68
  obtain ⟨rfl, N68q, E68⟩ := hQ68
  have N68 := Fr.app N67 N68q
  obtain ⟨_, _, ⟨T69, L69, k69, n69⟩, -, X69, ⟨Lc69, hQ69, l69, y69, z69⟩, st69⟩ := Jvm.LawKit.callS X68 hx (y := (⟨cs9, "at", cs13⟩ : MethodName)) ho16 (mvT hZ16 (ww hw 198 rfl)) (mvT hZ16 (ww hw 199 rfl)) (mvT hZ16 (ww hw 168 rfl)) (mvT hZ16 (ww hw 200 rfl)) (by decide) (backOf (W := 0) (rm37_2 l Z a0 hw [] b16_1 (3 : Int32) x1 (5 : Int32) (100000 : Int32) T16.heap n0 o33 (by decide : ¬ ((5 : Int32) < (3 : Int32)))) hZ16 (ww hw 200 rfl) (ww hw 168 rfl) (by decide) (by decide)) (g := (mkF m 114 #[.val (.int x0), .val (.int x1), .val (.ref b16_1), .val (.int (3 : Int32))] [(.int (100000 : Int32)), (.int (5 : Int32)), (.int x1), (.int (3 : Int32)), (.ref b16_1)])) rfl (by rw [hml]; rfl) (argsL := [(.ref b16_1), (.int (3 : Int32)), (.int x1), (.int (5 : Int32)), (.int (100000 : Int32))]) (rest := []) (lenOf pd__Ljava_lang_String_IIII_Z rfl) rfl (by show 2 * 0 + _ ≤ _; exact Nat.le_of_eq rfl) (hb hby at_114) (fun _ _ => ⟨rfl, E68, (by decide : 7 + 0 ≤ _), (by decide : 65 + 0 ≤ _)⟩)
  dsimp only [Pt.U, Pt.locs, Pt.cells, Pt.slots] at X69 l69 y69 z69 st69 hQ69
  subst l69 y69 z69
  obtain ⟨rfl, N69q, E69⟩ := hQ69
  have N69 := Fr.app N68 N69q
  obtain ⟨_, _, ⟨T70, L70, k70, n70⟩, -, X70, ⟨Lc70, hQ70, l70, y70, z70⟩, st70⟩ := Jvm.LawKit.callS X69 hx (y := (⟨cs9, "at", cs13⟩ : MethodName)) ho16 (mvT hZ16 (ww hw 198 rfl)) (mvT hZ16 (ww hw 199 rfl)) (mvT hZ16 (ww hw 168 rfl)) (mvT hZ16 (ww hw 200 rfl)) (by decide) (backOf (W := 0) (rm37_2 l Z a0 hw [] b16_1 (3 : Int32) x1 (6 : Int32) (1000000 : Int32) T16.heap n0 o33 (by decide : ¬ ((6 : Int32) < (3 : Int32)))) hZ16 (ww hw 200 rfl) (ww hw 168 rfl) (by decide) (by decide)) (g := (mkF m 127 #[.val (.int x0), .val (.int x1), .val (.ref b16_1), .val (.int (3 : Int32))] [(.int (1000000 : Int32)), (.int (6 : Int32)), (.int x1), (.int (3 : Int32)), (.ref b16_1)])) rfl (by rw [hml]; rfl) (argsL := [(.ref b16_1), (.int (3 : Int32)), (.int x1), (.int (6 : Int32)), (.int (1000000 : Int32))]) (rest := []) (lenOf pd__Ljava_lang_String_IIII_Z rfl) rfl (by show 2 * 0 + _ ≤ _; exact Nat.le_of_eq rfl) (hb hby at_127) (fun _ _ => ⟨rfl, E69, (by decide : 7 + 0 ≤ _), (by decide : 65 + 0 ≤ _)⟩)
  dsimp only [Pt.U, Pt.locs, Pt.cells, Pt.slots] at X70 l70 y70 z70 st70 hQ70
  subst l70 y70 z70
  obtain ⟨rfl, N70q, E70⟩ := hQ70
  have N70 := Fr.app N69 N70q
  obtain ⟨_, _, ⟨T71, L71, k71, n71⟩, -, X71, ⟨Lc71, hQ71, l71, y71, z71⟩, st71⟩ := Jvm.LawKit.callS X70 hx (y := (⟨cs9, "at", cs13⟩ : MethodName)) ho16 (mvT hZ16 (ww hw 198 rfl)) (mvT hZ16 (ww hw 199 rfl)) (mvT hZ16 (ww hw 168 rfl)) (mvT hZ16 (ww hw 200 rfl)) (by decide) (backOf (W := 0) (rm37_2 l Z a0 hw [] b16_1 (3 : Int32) x1 (7 : Int32) (10000000 : Int32) T16.heap n0 o33 (by decide : ¬ ((7 : Int32) < (3 : Int32)))) hZ16 (ww hw 200 rfl) (ww hw 168 rfl) (by decide) (by decide)) (g := (mkF m 140 #[.val (.int x0), .val (.int x1), .val (.ref b16_1), .val (.int (3 : Int32))] [(.int (10000000 : Int32)), (.int (7 : Int32)), (.int x1), (.int (3 : Int32)), (.ref b16_1)])) rfl (by rw [hml]; rfl) (argsL := [(.ref b16_1), (.int (3 : Int32)), (.int x1), (.int (7 : Int32)), (.int (10000000 : Int32))]) (rest := []) (lenOf pd__Ljava_lang_String_IIII_Z rfl) rfl (by show 2 * 0 + _ ≤ _; exact Nat.le_of_eq rfl) (hb hby at_140) (fun _ _ => ⟨rfl, E70, (by decide : 7 + 0 ≤ _), (by decide : 65 + 0 ≤ _)⟩)
  dsimp only [Pt.U, Pt.locs, Pt.cells, Pt.slots] at X71 l71 y71 z71 st71 hQ71
  subst l71 y71 z71
  obtain ⟨rfl, N71q, E71⟩ := hQ71
  have N71 := Fr.app N70 N71q
  obtain ⟨_, _, ⟨T72, L72, k72, n72⟩, -, X72, ⟨Lc72, hQ72, l72, y72, z72⟩, st72⟩ := Jvm.LawKit.callS X71 hx (y := (⟨cs9, "at", cs13⟩ : MethodName)) ho16 (mvT hZ16 (ww hw 198 rfl)) (mvT hZ16 (ww hw 199 rfl)) (mvT hZ16 (ww hw 168 rfl)) (mvT hZ16 (ww hw 200 rfl)) (by decide) (backOf (W := 0) (rm37_2 l Z a0 hw [] b16_1 (3 : Int32) x1 (8 : Int32) (100000000 : Int32) T16.heap n0 o33 (by decide : ¬ ((8 : Int32) < (3 : Int32)))) hZ16 (ww hw 200 rfl) (ww hw 168 rfl) (by decide) (by decide)) (g := (mkF m 153 #[.val (.int x0), .val (.int x1), .val (.ref b16_1), .val (.int (3 : Int32))] [(.int (100000000 : Int32)), (.int (8 : Int32)), (.int x1), (.int (3 : Int32)), (.ref b16_1)])) rfl (by rw [hml]; rfl) (argsL := [(.ref b16_1), (.int (3 : Int32)), (.int x1), (.int (8 : Int32)), (.int (100000000 : Int32))]) (rest := []) (lenOf pd__Ljava_lang_String_IIII_Z rfl) rfl (by show 2 * 0 + _ ≤ _; exact Nat.le_of_eq rfl) (hb hby at_153) (fun _ _ => ⟨rfl, E71, (by decide : 7 + 0 ≤ _), (by decide : 65 + 0 ≤ _)⟩)
  dsimp only [Pt.U, Pt.locs, Pt.cells, Pt.slots] at X72 l72 y72 z72 st72 hQ72
  subst l72 y72 z72
  obtain ⟨rfl, N72q, E72⟩ := hQ72
  have N72 := Fr.app N71 N72q
  obtain ⟨_, _, ⟨T73, L73, k73, n73⟩, -, X73, ⟨Lc73, hQ73, l73, y73, z73⟩, st73⟩ := Jvm.LawKit.callS X72 hx (y := (⟨cs9, "at", cs13⟩ : MethodName)) ho16 (mvT hZ16 (ww hw 198 rfl)) (mvT hZ16 (ww hw 199 rfl)) (mvT hZ16 (ww hw 168 rfl)) (mvT hZ16 (ww hw 200 rfl)) (by decide) (backOf (W := 0) (rm37_2 l Z a0 hw [] b16_1 (3 : Int32) x1 (9 : Int32) (1000000000 : Int32) T16.heap n0 o33 (by decide : ¬ ((9 : Int32) < (3 : Int32)))) hZ16 (ww hw 200 rfl) (ww hw 168 rfl) (by decide) (by decide)) (g := (mkF m 166 #[.val (.int x0), .val (.int x1), .val (.ref b16_1), .val (.int (3 : Int32))] [(.int (1000000000 : Int32)), (.int (9 : Int32)), (.int x1), (.int (3 : Int32)), (.ref b16_1)])) rfl (by rw [hml]; rfl) (argsL := [(.ref b16_1), (.int (3 : Int32)), (.int x1), (.int (9 : Int32)), (.int (1000000000 : Int32))]) (rest := []) (lenOf pd__Ljava_lang_String_IIII_Z rfl) rfl (by show 2 * 0 + _ ≤ _; exact Nat.le_of_eq rfl) (hb hby at_166) (fun _ _ => ⟨rfl, E72, (by decide : 7 + 0 ≤ _), (by decide : 65 + 0 ≤ _)⟩)
  dsimp only [Pt.U, Pt.locs, Pt.cells, Pt.slots] at X73 l73 y73 z73 st73 hQ73
  subst l73 y73 z73
  obtain ⟨rfl, N73q, E73⟩ := hQ73
  have N73 := Fr.app N72 N73q
  obtain ⟨fs, hr, hrun, hended, hend⟩ := leaveW (s := s) (vm₁ := T16.vm) X73 hS16 (by rw [E73]; exact (Nat.le_refl _)) (v := some (.int (1 : Int32))) (fun h => by rw [Bd.returns] at h; cases h)
  have hCR : CHr Z consts_1 s.vm s.heap T73.vm T73.heap := by rw [hh, E73]; exact CHr.trans R30 (CHv.at (s := s) (vm0 := T16.vm) X73 hZ16 hEL R30.1)
  refine ⟨_, _, pre0 _ ?_, hrun, hended, _, _, rfl, ?_, hCR, hend.1, hend.2.1, hend.2.2.1, hend.2.2.2.mono (by decide) (by decide)⟩
  · show Steps p.tables e below (s₁.setTop (mkF m 0 #[.val (.int x0), .unset, .unset, .unset] [])) _
    refine XS.iconst X0.here hx rfl (hb hby at_0) ?_
    refine XS.iloadN X0.here hx rfl (hb hby at_1) rfl ?_
    refine X0.ldcInt hx hown (mvT hZ (ww hw 0 rfl)) (g := (mkF m 2 #[.val (.int x0), .unset, .unset, .unset] [(.int x0), (.int (1 : Int32))])) rfl (hb hby at_2) _ ?_
    show Steps p.tables e below (s₁.setTop (mkF m 4 #[.val (.int x0), .unset, .unset, .unset] [(.int (2147483647 : Int32)), (.int x0), (.int (1 : Int32))])) _
    refine XS.iand X0.here hx rfl (hb hby at_4) rfl ?_
    refine X0.ldcInt hx hown (mvT hZ (ww hw 0 rfl)) (g := (mkF m 5 #[.val (.int x0), .unset, .unset, .unset] [(.int (x0 &&& (2147483647 : Int32))), (.int (1 : Int32))])) rfl (hb hby at_5) _ ?_
    show Steps p.tables e below (s₁.setTop (mkF m 7 #[.val (.int x0), .unset, .unset, .unset] [(.int (2147483647 : Int32)), (.int (x0 &&& (2147483647 : Int32))), (.int (1 : Int32))])) _
    refine iremM (g := (mkF m 7 #[.val (.int x0), .unset, .unset, .unset] [(.int (2147483647 : Int32)), (.int (x0 &&& (2147483647 : Int32))), (.int (1 : Int32))])) X0 hx rfl (hb hby at_7) rfl (by decide : ¬ ((2147483647 : Int32) = (0 : Int32))) ?_
    show Steps p.tables e below (s₁.setTop (mkF m 8 #[.val (.int x0), .unset, .unset, .unset] [(.int ((x0 &&& (2147483647 : Int32)) % (2147483647 : Int32))), (.int (1 : Int32))])) _
    refine XS.iadd X0.here hx rfl (hb hby at_8) rfl ?_
    show Steps p.tables e below (s₁.setTop (mkF m 9 #[.val (.int x0), .unset, .unset, .unset] [(.int ((1 : Int32) + ((x0 &&& (2147483647 : Int32)) % (2147483647 : Int32))))])) _
    rw [hq1]
    show Steps p.tables e below (s₁.setTop (mkF m 9 #[.val (.int x0), .unset, .unset, .unset] [(.int x1)])) _
    refine XS.istoreN X0.here hx rfl (hb hby at_9) rfl (l' := #[.val (.int x0), .val (.int x1), .unset, .unset]) rfl ?_
    refine XS.iloadN X0.here hx rfl (hb hby at_10) rfl ?_
    refine st16.trans ?_
    show Steps p.tables e below (T16.setTop (mkF m 14 #[.val (.int x0), .val (.int x1), .unset, .unset] [(.ref b16_0)])) _
    refine st34.trans ?_
    show Steps p.tables e below (T34.setTop (mkF m 17 #[.val (.int x0), .val (.int x1), .unset, .unset] [(.ref b16_1)])) _
    refine XS.astoreN X34.here hx rfl (hb hby at_17) rfl rfl (l' := #[.val (.int x0), .val (.int x1), .val (.ref b16_1), .unset]) rfl ?_
    refine XS.iloadN X34.here hx rfl (hb hby at_18) rfl ?_
    refine st44 _ ?_
    show Steps p.tables e below (T44.setTop (mkF m 22 #[.val (.int x0), .val (.int x1), .val (.ref b16_1), .unset] [(.int (3 : Int32))])) _
    refine XS.istoreN X44.here hx rfl (hb hby at_22) rfl (l' := #[.val (.int x0), .val (.int x1), .val (.ref b16_1), .val (.int (3 : Int32))]) rfl ?_
    refine XS.aloadN X44.here hx rfl (hb hby at_23) rfl rfl ?_
    refine st45.trans ?_
    show Steps p.tables e below (T45.setTop (mkF m 27 #[.val (.int x0), .val (.int x1), .val (.ref b16_1), .val (.int (3 : Int32))] [(.int ((((1 : Int32) + (SBG.strSizeOf x1)) - (0 : Int32)) >>> ((nar .byte (0 : Int32)) &&& 31)))])) _
    refine XS.iloadN X45.here hx rfl (hb hby at_27) rfl ?_
    refine XS.iconst X45.here hx rfl (hb hby at_28) ?_
    refine XS.iadd X45.here hx rfl (hb hby at_29) rfl ?_
    refine XS.icmpYes X45.here hx rfl (pc0 := 30) (pc' := 35) rfl (hb hby at_30) rfl (teq hc47).1 (by decide) (by decide) ?_
    show Steps p.tables e below (T45.setTop (mkF m 35 #[.val (.int x0), .val (.int x1), .val (.ref b16_1), .val (.int (3 : Int32))] [])) _
    refine XS.aloadN X45.here hx rfl (hb hby at_35) rfl rfl ?_
    refine XS.iconst X45.here hx rfl (hb hby at_36) ?_
    refine st52.trans ?_
    show Steps p.tables e below (T52.setTop (mkF m 40 #[.val (.int x0), .val (.int x1), .val (.ref b16_1), .val (.int (3 : Int32))] [(.int (nar .char (nar .char (((own_at t8 ((0 : Int32)).toNatClampNeg) &&& (255 : Int32)).toUInt32.toUInt16.toUInt32.toInt32))))])) _
    refine XS.bipush X52.here hx rfl (hb hby at_40) ?_
    refine XS.icmpYes X52.here hx rfl (pc0 := 42) (pc' := 47) rfl (hb hby at_42) rfl (teq hc54).1 (by decide) (by decide) ?_
    show Steps p.tables e below (T52.setTop (mkF m 47 #[.val (.int x0), .val (.int x1), .val (.ref b16_1), .val (.int (3 : Int32))] [])) _
    refine XS.aloadN X52.here hx rfl (hb hby at_47) rfl rfl ?_
    refine XS.iloadN X52.here hx rfl (hb hby at_48) rfl ?_
    refine XS.iloadN X52.here hx rfl (hb hby at_49) rfl ?_
    refine XS.iconst X52.here hx rfl (hb hby at_50) ?_
    show Steps p.tables e below (T52.setTop (mkF m 51 #[.val (.int x0), .val (.int x1), .val (.ref b16_1), .val (.int (3 : Int32))] [(.int (0 : Int32)), (.int x1), (.int (3 : Int32)), (.ref b16_1)])) _
    refine XS.iconst X52.here hx rfl (hb hby at_51) ?_
    refine st58 _ ?_
    show Steps p.tables e below (T58.setTop (mkF m 55 #[.val (.int x0), .val (.int x1), .val (.ref b16_1), .val (.int (3 : Int32))] [(.int (1 : Int32))])) _
    refine XS.ifNo X58.here hx rfl (hb hby at_55) rfl ((if0 _ _).trans (feq (by decide : ¬ ((1 : Int32) = (0 : Int32)))).1) ?_
    refine XS.aloadN X58.here hx rfl (hb hby at_58) rfl rfl ?_
    refine XS.iloadN X58.here hx rfl (hb hby at_59) rfl ?_
    refine XS.iloadN X58.here hx rfl (hb hby at_60) rfl ?_
    show Steps p.tables e below (T58.setTop (mkF m 61 #[.val (.int x0), .val (.int x1), .val (.ref b16_1), .val (.int (3 : Int32))] [(.int x1), (.int (3 : Int32)), (.ref b16_1)])) _
    refine XS.iconst X58.here hx rfl (hb hby at_61) ?_
    refine XS.bipush X58.here hx rfl (hb hby at_62) ?_
    refine st62 _ ?_
    show Steps p.tables e below (T62.setTop (mkF m 67 #[.val (.int x0), .val (.int x1), .val (.ref b16_1), .val (.int (3 : Int32))] [(.int (1 : Int32))])) _
    refine XS.ifNo X62.here hx rfl (hb hby at_67) rfl ((if0 _ _).trans (feq (by decide : ¬ ((1 : Int32) = (0 : Int32)))).1) ?_
    refine XS.aloadN X62.here hx rfl (hb hby at_70) rfl rfl ?_
    refine XS.iloadN X62.here hx rfl (hb hby at_71) rfl ?_
    refine XS.iloadN X62.here hx rfl (hb hby at_72) rfl ?_
    show Steps p.tables e below (T62.setTop (mkF m 73 #[.val (.int x0), .val (.int x1), .val (.ref b16_1), .val (.int (3 : Int32))] [(.int x1), (.int (3 : Int32)), (.ref b16_1)])) _
    refine XS.iconst X62.here hx rfl (hb hby at_73) ?_
    refine XS.bipush X62.here hx rfl (hb hby at_74) ?_
    refine st66 _ ?_
    show Steps p.tables e below (T66.setTop (mkF m 79 #[.val (.int x0), .val (.int x1), .val (.ref b16_1), .val (.int (3 : Int32))] [(.int (1 : Int32))])) _
    refine XS.ifNo X66.here hx rfl (hb hby at_79) rfl ((if0 _ _).trans (feq (by decide : ¬ ((1 : Int32) = (0 : Int32)))).1) ?_
    refine XS.aloadN X66.here hx rfl (hb hby at_82) rfl rfl ?_
    refine XS.iloadN X66.here hx rfl (hb hby at_83) rfl ?_
    refine XS.iloadN X66.here hx rfl (hb hby at_84) rfl ?_
    show Steps p.tables e below (T66.setTop (mkF m 85 #[.val (.int x0), .val (.int x1), .val (.ref b16_1), .val (.int (3 : Int32))] [(.int x1), (.int (3 : Int32)), (.ref b16_1)])) _
    refine XS.iconst X66.here hx rfl (hb hby at_85) ?_
    refine XS.sipush X66.here hx rfl (hb hby at_86) ?_
    refine st67 _ ?_
    show Steps p.tables e below (T67.setTop (mkF m 92 #[.val (.int x0), .val (.int x1), .val (.ref b16_1), .val (.int (3 : Int32))] [(.int (1 : Int32))])) _
    refine XS.ifNo X67.here hx rfl (hb hby at_92) rfl ((if0 _ _).trans (feq (by decide : ¬ ((1 : Int32) = (0 : Int32)))).1) ?_
    refine XS.aloadN X67.here hx rfl (hb hby at_95) rfl rfl ?_
    refine XS.iloadN X67.here hx rfl (hb hby at_96) rfl ?_
    refine XS.iloadN X67.here hx rfl (hb hby at_97) rfl ?_
    show Steps p.tables e below (T67.setTop (mkF m 98 #[.val (.int x0), .val (.int x1), .val (.ref b16_1), .val (.int (3 : Int32))] [(.int x1), (.int (3 : Int32)), (.ref b16_1)])) _
    refine XS.iconst X67.here hx rfl (hb hby at_98) ?_
    refine XS.sipush X67.here hx rfl (hb hby at_99) ?_
    refine st68 _ ?_
    show Steps p.tables e below (T68.setTop (mkF m 105 #[.val (.int x0), .val (.int x1), .val (.ref b16_1), .val (.int (3 : Int32))] [(.int (1 : Int32))])) _
    refine XS.ifNo X68.here hx rfl (hb hby at_105) rfl ((if0 _ _).trans (feq (by decide : ¬ ((1 : Int32) = (0 : Int32)))).1) ?_
    refine XS.aloadN X68.here hx rfl (hb hby at_108) rfl rfl ?_
    refine XS.iloadN X68.here hx rfl (hb hby at_109) rfl ?_
    refine XS.iloadN X68.here hx rfl (hb hby at_110) rfl ?_
    show Steps p.tables e below (T68.setTop (mkF m 111 #[.val (.int x0), .val (.int x1), .val (.ref b16_1), .val (.int (3 : Int32))] [(.int x1), (.int (3 : Int32)), (.ref b16_1)])) _
    refine XS.iconst X68.here hx rfl (hb hby at_111) ?_
    refine X68.ldcInt hx ho16 (mvT hZ16 (ww hw 174 rfl)) (g := (mkF m 112 #[.val (.int x0), .val (.int x1), .val (.ref b16_1), .val (.int (3 : Int32))] [(.int (5 : Int32)), (.int x1), (.int (3 : Int32)), (.ref b16_1)])) rfl (hb hby at_112) _ ?_
    show Steps p.tables e below (T68.setTop (mkF m 114 #[.val (.int x0), .val (.int x1), .val (.ref b16_1), .val (.int (3 : Int32))] [(.int (100000 : Int32)), (.int (5 : Int32)), (.int x1), (.int (3 : Int32)), (.ref b16_1)])) _
    refine st69 _ ?_
    show Steps p.tables e below (T69.setTop (mkF m 117 #[.val (.int x0), .val (.int x1), .val (.ref b16_1), .val (.int (3 : Int32))] [(.int (1 : Int32))])) _
    refine XS.ifNo X69.here hx rfl (hb hby at_117) rfl ((if0 _ _).trans (feq (by decide : ¬ ((1 : Int32) = (0 : Int32)))).1) ?_
    refine XS.aloadN X69.here hx rfl (hb hby at_120) rfl rfl ?_
    refine XS.iloadN X69.here hx rfl (hb hby at_121) rfl ?_
    refine XS.iloadN X69.here hx rfl (hb hby at_122) rfl ?_
    show Steps p.tables e below (T69.setTop (mkF m 123 #[.val (.int x0), .val (.int x1), .val (.ref b16_1), .val (.int (3 : Int32))] [(.int x1), (.int (3 : Int32)), (.ref b16_1)])) _
    refine XS.bipush X69.here hx rfl (hb hby at_123) ?_
    refine X69.ldcInt hx ho16 (mvT hZ16 (ww hw 173 rfl)) (g := (mkF m 125 #[.val (.int x0), .val (.int x1), .val (.ref b16_1), .val (.int (3 : Int32))] [(.int (6 : Int32)), (.int x1), (.int (3 : Int32)), (.ref b16_1)])) rfl (hb hby at_125) _ ?_
    show Steps p.tables e below (T69.setTop (mkF m 127 #[.val (.int x0), .val (.int x1), .val (.ref b16_1), .val (.int (3 : Int32))] [(.int (1000000 : Int32)), (.int (6 : Int32)), (.int x1), (.int (3 : Int32)), (.ref b16_1)])) _
    refine st70 _ ?_
    show Steps p.tables e below (T70.setTop (mkF m 130 #[.val (.int x0), .val (.int x1), .val (.ref b16_1), .val (.int (3 : Int32))] [(.int (1 : Int32))])) _
    refine XS.ifNo X70.here hx rfl (hb hby at_130) rfl ((if0 _ _).trans (feq (by decide : ¬ ((1 : Int32) = (0 : Int32)))).1) ?_
    refine XS.aloadN X70.here hx rfl (hb hby at_133) rfl rfl ?_
    refine XS.iloadN X70.here hx rfl (hb hby at_134) rfl ?_
    refine XS.iloadN X70.here hx rfl (hb hby at_135) rfl ?_
    show Steps p.tables e below (T70.setTop (mkF m 136 #[.val (.int x0), .val (.int x1), .val (.ref b16_1), .val (.int (3 : Int32))] [(.int x1), (.int (3 : Int32)), (.ref b16_1)])) _
    refine XS.bipush X70.here hx rfl (hb hby at_136) ?_
    refine X70.ldcInt hx ho16 (mvT hZ16 (ww hw 172 rfl)) (g := (mkF m 138 #[.val (.int x0), .val (.int x1), .val (.ref b16_1), .val (.int (3 : Int32))] [(.int (7 : Int32)), (.int x1), (.int (3 : Int32)), (.ref b16_1)])) rfl (hb hby at_138) _ ?_
    show Steps p.tables e below (T70.setTop (mkF m 140 #[.val (.int x0), .val (.int x1), .val (.ref b16_1), .val (.int (3 : Int32))] [(.int (10000000 : Int32)), (.int (7 : Int32)), (.int x1), (.int (3 : Int32)), (.ref b16_1)])) _
    refine st71 _ ?_
    show Steps p.tables e below (T71.setTop (mkF m 143 #[.val (.int x0), .val (.int x1), .val (.ref b16_1), .val (.int (3 : Int32))] [(.int (1 : Int32))])) _
    refine XS.ifNo X71.here hx rfl (hb hby at_143) rfl ((if0 _ _).trans (feq (by decide : ¬ ((1 : Int32) = (0 : Int32)))).1) ?_
    refine XS.aloadN X71.here hx rfl (hb hby at_146) rfl rfl ?_
    refine XS.iloadN X71.here hx rfl (hb hby at_147) rfl ?_
    refine XS.iloadN X71.here hx rfl (hb hby at_148) rfl ?_
    show Steps p.tables e below (T71.setTop (mkF m 149 #[.val (.int x0), .val (.int x1), .val (.ref b16_1), .val (.int (3 : Int32))] [(.int x1), (.int (3 : Int32)), (.ref b16_1)])) _
    refine XS.bipush X71.here hx rfl (hb hby at_149) ?_
    refine X71.ldcInt hx ho16 (mvT hZ16 (ww hw 171 rfl)) (g := (mkF m 151 #[.val (.int x0), .val (.int x1), .val (.ref b16_1), .val (.int (3 : Int32))] [(.int (8 : Int32)), (.int x1), (.int (3 : Int32)), (.ref b16_1)])) rfl (hb hby at_151) _ ?_
    show Steps p.tables e below (T71.setTop (mkF m 153 #[.val (.int x0), .val (.int x1), .val (.ref b16_1), .val (.int (3 : Int32))] [(.int (100000000 : Int32)), (.int (8 : Int32)), (.int x1), (.int (3 : Int32)), (.ref b16_1)])) _
    refine st72 _ ?_
    show Steps p.tables e below (T72.setTop (mkF m 156 #[.val (.int x0), .val (.int x1), .val (.ref b16_1), .val (.int (3 : Int32))] [(.int (1 : Int32))])) _
    refine XS.ifNo X72.here hx rfl (hb hby at_156) rfl ((if0 _ _).trans (feq (by decide : ¬ ((1 : Int32) = (0 : Int32)))).1) ?_
    refine XS.aloadN X72.here hx rfl (hb hby at_159) rfl rfl ?_
    refine XS.iloadN X72.here hx rfl (hb hby at_160) rfl ?_
    refine XS.iloadN X72.here hx rfl (hb hby at_161) rfl ?_
    show Steps p.tables e below (T72.setTop (mkF m 162 #[.val (.int x0), .val (.int x1), .val (.ref b16_1), .val (.int (3 : Int32))] [(.int x1), (.int (3 : Int32)), (.ref b16_1)])) _
    refine XS.bipush X72.here hx rfl (hb hby at_162) ?_
    refine X72.ldcInt hx ho16 (mvT hZ16 (ww hw 170 rfl)) (g := (mkF m 164 #[.val (.int x0), .val (.int x1), .val (.ref b16_1), .val (.int (3 : Int32))] [(.int (9 : Int32)), (.int x1), (.int (3 : Int32)), (.ref b16_1)])) rfl (hb hby at_164) _ ?_
    show Steps p.tables e below (T72.setTop (mkF m 166 #[.val (.int x0), .val (.int x1), .val (.ref b16_1), .val (.int (3 : Int32))] [(.int (1000000000 : Int32)), (.int (9 : Int32)), (.int x1), (.int (3 : Int32)), (.ref b16_1)])) _
    refine st73 _ ?_
    show Steps p.tables e below (T73.setTop (mkF m 169 #[.val (.int x0), .val (.int x1), .val (.ref b16_1), .val (.int (3 : Int32))] [(.int (1 : Int32))])) _
    refine XS.ifNo X73.here hx rfl (hb hby at_169) rfl ((if0 _ _).trans (feq (by decide : ¬ ((1 : Int32) = (0 : Int32)))).1) ?_
    refine XS.iconst X73.here hx rfl (hb hby at_172) ?_
    refine XS.goto X73.here hx rfl (pc0 := 173) (pc' := 177) rfl (hb hby at_173) (by decide) (by decide) ?_
    show Steps p.tables e below (T73.setTop (mkF m 177 #[.val (.int x0), .val (.int x1), .val (.ref b16_1), .val (.int (3 : Int32))] [(.int (1 : Int32))])) _
    exact retN X73 hx (t := .boolean) Bd.returns (by simp) (hb hby at_177) hr
  · show Q0_3 Z x0 x1 x2 r3 r4 d5 r6 d7 t8 u9 h0 n0 _ T73.heap _
    rw [E73]
    exact ⟨rfl, N73⟩
theorem d31_61 : decode method_3_code 61 = .ok (.iconst 4, 1) := by decide +kernel
theorem d31_62 : decode method_3_code 62 = .ok (.ireturn, 1) := by decide +kernel
def Q31_4 (Z : State) (x0 : Int32) (h0 : Heap) (n0 : Nat) (v : Option Value) (h : Heap) (L : List Loc) : Prop := v = some (.int (4 : Int32)) ∧ Fr n0 L ∧ h = h0
set_option maxRecDepth 65536 in
set_option maxHeartbeats 40000000 in
theorem rm31_4 (l : Launch) (Z : State) (a0 : Array Value) (hw : ∀ d ∈ tables_1, d.before a0 Z = true) (ws : List Jvm.Cond) (x0 : Int32) (h0 : Heap) (n0 : Nat) (O0 : Old Z n0 h0) (hc1 : x0 < (1000000000 : Int32)) (hc2 : x0 < (100000000 : Int32)) (hc3 : x0 < (10000000 : Int32)) (hc4 : x0 < (1000000 : Int32)) (hc5 : x0 < (100000 : Int32)) (hc6 : x0 < (10000 : Int32)) (hc7 : ¬ (x0 < (1000 : Int32))) :
    MetFree l (⟨cs9, "digits", "(I)I"⟩ : MethodName) (head1 (Jvm.Cond.code (⟨cs9, "digits", "(I)I"⟩ : MethodName) method_3_code 1 (some .int) :: ws) ({ frames := 0, cells := 0, slots := 0, locals := 0 } : Room)) (fun a U => a = #[(.int x0)] ∧ Z.Warmed39 U.vm ∧ U.heap = h0) (fun _ _ _ _ _ => True) (fun _ U o U' => ∃ v L, o = .returned v ∧ Q31_4 Z x0 h0 n0 v U'.heap L ∧ FrameEnd U o U' L ({ frames := 0, cells := 0, slots := 0, locals := 0 } : Room).cells ({ frames := 0, cells := 0, slots := 0, locals := 0 } : Room).slots) := by
  refine MetFree.of_bodySF (plainFor_of_name pn_com_example_manojo_manojo_ParameterPositionalPinLaw) hisR ?_
  intro p e s m args below meth c s₁ Bd hml0 hP hK
  obtain ⟨rfl, hZ, hh⟩ := hP
  have hx := Bd.exec
  have hby := Bd.bytes
  have hml : c.maxLocals = 1 := hml0
  have hown : s.vm.findClass cs9 = some m.cls := findClass_of_methodNamed Bd.named
  have hnm := (name_of_methodNamed Bd.named Bd.method).1
  have X0 : Stand p l e ({ frames := 0, cells := 0, slots := 0, locals := 0 } : Room) s m #[(.int x0)] below meth c s₁ [] 0 0 := Stand.of_body Bd
  have e0 : s₁.heap = h0 := by rw [← hh, Bd.state]; rfl
  have N0 := Fr.nil n0
  have pre0 : ∀ t, Steps p.tables e below (s₁.setTop (mkF m 0 #[.val (.int x0)] [])) t → Steps p.tables e below (s₁.setTop (entryFrame m #[(.int x0)] 1)) t := fun t k => castTop (by first | (simp [entryFrame, mkF, argsToLocals, Value.category]; done) | rfl) k
  obtain ⟨fs, hr, hrun, hended, hW, hsame⟩ := X0.leave (v := some (.int (4 : Int32))) (fun h => by rw [Bd.returns] at h; cases h)
  refine ⟨_, _, pre0 _ ?_, hrun, hended, _, _, rfl, ?_, ⟨_, rfl⟩, hW, hsame.mono (by decide) (by decide)⟩
  · show Steps p.tables e below (s₁.setTop (mkF m 0 #[.val (.int x0)] [])) _
    refine XS.iloadN X0.here hx rfl (hb hby d31_0) rfl ?_
    refine X0.ldcInt hx hown (mvT hZ (ww hw 170 rfl)) (g := (mkF m 1 #[.val (.int x0)] [(.int x0)])) rfl (hb hby d31_1) _ ?_
    show Steps p.tables e below (s₁.setTop (mkF m 3 #[.val (.int x0)] [(.int (1000000000 : Int32)), (.int x0)])) _
    refine XS.icmpYes X0.here hx rfl (pc0 := 3) (pc' := 9) rfl (hb hby d31_3) rfl (tlt hc1).1 (by decide) (by decide) ?_
    show Steps p.tables e below (s₁.setTop (mkF m 9 #[.val (.int x0)] [])) _
    refine XS.iloadN X0.here hx rfl (hb hby d31_9) rfl ?_
    refine X0.ldcInt hx hown (mvT hZ (ww hw 171 rfl)) (g := (mkF m 10 #[.val (.int x0)] [(.int x0)])) rfl (hb hby d31_10) _ ?_
    show Steps p.tables e below (s₁.setTop (mkF m 12 #[.val (.int x0)] [(.int (100000000 : Int32)), (.int x0)])) _
    refine XS.icmpYes X0.here hx rfl (pc0 := 12) (pc' := 18) rfl (hb hby d31_12) rfl (tlt hc2).1 (by decide) (by decide) ?_
    show Steps p.tables e below (s₁.setTop (mkF m 18 #[.val (.int x0)] [])) _
    refine XS.iloadN X0.here hx rfl (hb hby d31_18) rfl ?_
    refine X0.ldcInt hx hown (mvT hZ (ww hw 172 rfl)) (g := (mkF m 19 #[.val (.int x0)] [(.int x0)])) rfl (hb hby d31_19) _ ?_
    show Steps p.tables e below (s₁.setTop (mkF m 21 #[.val (.int x0)] [(.int (10000000 : Int32)), (.int x0)])) _
    refine XS.icmpYes X0.here hx rfl (pc0 := 21) (pc' := 27) rfl (hb hby d31_21) rfl (tlt hc3).1 (by decide) (by decide) ?_
    show Steps p.tables e below (s₁.setTop (mkF m 27 #[.val (.int x0)] [])) _
    refine XS.iloadN X0.here hx rfl (hb hby d31_27) rfl ?_
    refine X0.ldcInt hx hown (mvT hZ (ww hw 173 rfl)) (g := (mkF m 28 #[.val (.int x0)] [(.int x0)])) rfl (hb hby d31_28) _ ?_
    show Steps p.tables e below (s₁.setTop (mkF m 30 #[.val (.int x0)] [(.int (1000000 : Int32)), (.int x0)])) _
    refine XS.icmpYes X0.here hx rfl (pc0 := 30) (pc' := 36) rfl (hb hby d31_30) rfl (tlt hc4).1 (by decide) (by decide) ?_
    show Steps p.tables e below (s₁.setTop (mkF m 36 #[.val (.int x0)] [])) _
    refine XS.iloadN X0.here hx rfl (hb hby d31_36) rfl ?_
    refine X0.ldcInt hx hown (mvT hZ (ww hw 174 rfl)) (g := (mkF m 37 #[.val (.int x0)] [(.int x0)])) rfl (hb hby d31_37) _ ?_
    show Steps p.tables e below (s₁.setTop (mkF m 39 #[.val (.int x0)] [(.int (100000 : Int32)), (.int x0)])) _
    refine XS.icmpYes X0.here hx rfl (pc0 := 39) (pc' := 45) rfl (hb hby d31_39) rfl (tlt hc5).1 (by decide) (by decide) ?_
    show Steps p.tables e below (s₁.setTop (mkF m 45 #[.val (.int x0)] [])) _
    refine XS.iloadN X0.here hx rfl (hb hby d31_45) rfl ?_
    refine XS.sipush X0.here hx rfl (hb hby d31_46) ?_
    refine XS.icmpYes X0.here hx rfl (pc0 := 49) (pc' := 54) rfl (hb hby d31_49) rfl (tlt hc6).1 (by decide) (by decide) ?_
    show Steps p.tables e below (s₁.setTop (mkF m 54 #[.val (.int x0)] [])) _
    refine XS.iloadN X0.here hx rfl (hb hby d31_54) rfl ?_
    refine XS.sipush X0.here hx rfl (hb hby d31_55) ?_
    refine XS.icmpNo X0.here hx rfl (hb hby d31_58) rfl (flt hc7).1 ?_
    refine XS.iconst X0.here hx rfl (hb hby d31_61) ?_
    show Steps p.tables e below (s₁.setTop (mkF m 62 #[.val (.int x0)] [(.int (4 : Int32))])) _
    exact retOut X0 hx (i := .ireturn) Bd.returns rfl (Or.inl ⟨rfl, Or.inl rfl, _, rfl⟩) (hb hby d31_62) hr
  · show Q31_4 Z x0 h0 n0 _ s₁.heap _
    rw [e0]
    exact ⟨rfl, N0, rfl⟩
def Q0_4 (Z : State) (x0 : Int32) (x1 : Int32) (x2 : Int32) (r3 : Addr) (r4 : Addr) (d5 : Cell) (r6 : Addr) (d7 : Cell) (t8 : List Value) (u9 : Value) (h0 : Heap) (n0 : Nat) (v : Option Value) (h : Heap) (L : List Loc) : Prop := v = some (.int (1 : Int32)) ∧ Fr n0 L
set_option maxRecDepth 65536 in
set_option maxHeartbeats 40000000 in
theorem rm0_4 (l : Launch) (Z : State) (a0 : Array Value) (hw : ∀ d ∈ tables_1, d.before a0 Z = true) (ws : List Jvm.Cond) (x0 : Int32) (x1 : Int32) (x2 : Int32) (r3 : Addr) (r4 : Addr) (d5 : Cell) (r6 : Addr) (d7 : Cell) (t8 : List Value) (u9 : Value) (h0 : Heap) (n0 : Nat) (O0 : Old Z n0 h0) (hq1 : ((1 : Int32) + ((x0 &&& (2147483647 : Int32)) % (2147483647 : Int32))) = x1) (f2 : Sta Z Z.heap "java/lang/String" "COMPACT_STRINGS" "Z" (.int x2)) (hc3 : ¬ (x2 = (0 : Int32))) (hc4 : ¬ ((0 : Int32) < (((1 : Int32) + (SBG.strSizeOf x1)) - ((16 : Int32) >>> ((0 : Int32) &&& 31))))) (f5 : own_TB Z r3 r4 d5 r6 d7) (hc6 : ¬ (((1 : Int32) + (SBG.strSizeOf x1)) < 0)) (hc7 : (((1 : Int32) + (SBG.strSizeOf x1))).toNatClampNeg ≤ ((16 : Int32)).toNatClampNeg) (hc8 : own_sz x1 ≤ (((1 : Int32) + (SBG.strSizeOf x1))).toNatClampNeg) (hc9 : ¬ (((1 : Int32) + (SBG.strSizeOf x1)) = (16 : Int32))) (hc10 : ¬ (((1 : Int32) + (SBG.strSizeOf x1)) < (0 : Int32))) (hc11 : ¬ ((((1 : Int32) + (SBG.strSizeOf x1)) - (0 : Int32)) < 0)) (hc12 : ((((1 : Int32) + (SBG.strSizeOf x1)) - (0 : Int32))).toNatClampNeg ≤ 32) (hc13 : (((1 : Int32) + (SBG.strSizeOf x1)) - (0 : Int32)) < ((16 : Int32) - (0 : Int32))) (hc14 : ((((1 : Int32) + (SBG.strSizeOf x1)) - (0 : Int32))).toNatClampNeg ≤ ((16 : Int32)).toNatClampNeg) (hq31 : (own_us [(.int (63 : Int32)), (.int (0 : Int32)), (.int (0 : Int32)), (.int (0 : Int32)), (.int (0 : Int32)), (.int (0 : Int32)), (.int (0 : Int32)), (.int (0 : Int32)), (.int (0 : Int32)), (.int (0 : Int32)), (.int (0 : Int32)), (.int (0 : Int32)), (.int (0 : Int32)), (.int (0 : Int32)), (.int (0 : Int32)), (.int (0 : Int32))] (.int (0 : Int32)) ((16 : Int32)).toNatClampNeg x1 (((1 : Int32) + (SBG.strSizeOf x1))).toNatClampNeg) = t8) (hc36 : x1 < (1000000000 : Int32)) (hc37 : x1 < (100000000 : Int32)) (hc38 : x1 < (10000000 : Int32)) (hc39 : x1 < (1000000 : Int32)) (hc40 : x1 < (100000 : Int32)) (hc41 : x1 < (10000 : Int32)) (hc42 : ¬ (x1 < (1000 : Int32))) (hc46 : ((((1 : Int32) + (SBG.strSizeOf x1)) - (0 : Int32)) >>> ((nar .byte (0 : Int32)) &&& 31)) = (5 : Int32)) (f47 : Sta Z Z.heap cs10 "SIOOBE_FORMATTER" cs12 u9) (hc48 : u9.isRef = true) (hc49 : (0 : Int32) < (((1 : Int32) + (SBG.strSizeOf x1)) - (0 : Int32))) (hc50 : t8.getD ((0 : Int32)).toNatClampNeg (.int (0 : Int32)) = (.int (own_at t8 ((0 : Int32)).toNatClampNeg))) (hc53 : (nar .char (nar .char (((own_at t8 ((0 : Int32)).toNatClampNeg) &&& (255 : Int32)).toUInt32.toUInt16.toUInt32.toInt32))) = (63 : Int32)) (hc54 : ((4 : Int32) - (0 : Int32)) < (((1 : Int32) + (SBG.strSizeOf x1)) - (0 : Int32))) (hc55 : t8.getD (((4 : Int32) - (0 : Int32))).toNatClampNeg (.int (0 : Int32)) = (.int (own_at t8 (((4 : Int32) - (0 : Int32))).toNatClampNeg))) (hc56 : (nar .char (nar .char (((own_at t8 (((4 : Int32) - (0 : Int32))).toNatClampNeg) &&& (255 : Int32)).toUInt32.toUInt16.toUInt32.toInt32))) = (((48 : Int32) + ((x1 / (1 : Int32)) % (10 : Int32))).toUInt32.toUInt16.toUInt32.toInt32)) (hc58 : ((4 : Int32) - (1 : Int32)) < (((1 : Int32) + (SBG.strSizeOf x1)) - (0 : Int32))) (hc59 : t8.getD (((4 : Int32) - (1 : Int32))).toNatClampNeg (.int (0 : Int32)) = (.int (own_at t8 (((4 : Int32) - (1 : Int32))).toNatClampNeg))) (hc60 : (nar .char (nar .char (((own_at t8 (((4 : Int32) - (1 : Int32))).toNatClampNeg) &&& (255 : Int32)).toUInt32.toUInt16.toUInt32.toInt32))) = (((48 : Int32) + ((x1 / (10 : Int32)) % (10 : Int32))).toUInt32.toUInt16.toUInt32.toInt32)) (hc62 : ((4 : Int32) - (2 : Int32)) < (((1 : Int32) + (SBG.strSizeOf x1)) - (0 : Int32))) (hc63 : t8.getD (((4 : Int32) - (2 : Int32))).toNatClampNeg (.int (0 : Int32)) = (.int (own_at t8 (((4 : Int32) - (2 : Int32))).toNatClampNeg))) (hc64 : (nar .char (nar .char (((own_at t8 (((4 : Int32) - (2 : Int32))).toNatClampNeg) &&& (255 : Int32)).toUInt32.toUInt16.toUInt32.toInt32))) = (((48 : Int32) + ((x1 / (100 : Int32)) % (10 : Int32))).toUInt32.toUInt16.toUInt32.toInt32)) (hc66 : ((4 : Int32) - (3 : Int32)) < (((1 : Int32) + (SBG.strSizeOf x1)) - (0 : Int32))) (hc67 : t8.getD (((4 : Int32) - (3 : Int32))).toNatClampNeg (.int (0 : Int32)) = (.int (own_at t8 (((4 : Int32) - (3 : Int32))).toNatClampNeg))) (hc68 : (nar .char (nar .char (((own_at t8 (((4 : Int32) - (3 : Int32))).toNatClampNeg) &&& (255 : Int32)).toUInt32.toUInt16.toUInt32.toInt32))) = (((48 : Int32) + ((x1 / (1000 : Int32)) % (10 : Int32))).toUInt32.toUInt16.toUInt32.toInt32)) :
    MetFree l x (head1 (Jvm.Cond.code x code maxLocals ret :: ws) room_1) (fun a U => a = #[(.int x0)] ∧ Z.Warmed39 U.vm ∧ U.heap = h0 ∧ CHv Z consts_1 U.vm h0) (fun _ _ _ _ _ => True) (fun _ U o U' => ∃ v L, o = .returned v ∧ Q0_4 Z x0 x1 x2 r3 r4 d5 r6 d7 t8 u9 h0 n0 v U'.heap L ∧ CHr Z consts_1 U.vm U.heap U'.vm U'.heap ∧ ReturnedEndW U o U' L room_1.cells room_1.slots) := by
  refine MetFree.of_bodySF (plainFor_of_name pn_com_example_manojo_manojo_ParameterPositionalPinLaw) hisR ?_
  intro p e s m args below meth c s₁ Bd hml0 hP hK
  obtain ⟨rfl, hZ, hh, hC⟩ := hP
  have hx := Bd.exec
  have hby := Bd.bytes
  have hml : c.maxLocals = 4 := hml0
  have hown : s.vm.findClass cs9 = some m.cls := findClass_of_methodNamed Bd.named
  have hnm := (name_of_methodNamed Bd.named Bd.method).1
  have X0 : Stand p l e room_1 s m #[(.int x0)] below meth c s₁ [] 0 0 := Stand.of_body Bd
  have e0 : s₁.heap = h0 := by rw [← hh, Bd.state]; rfl
  have N0 := Fr.nil n0
  have pre0 : ∀ t, Steps p.tables e below (s₁.setTop (mkF m 0 #[.val (.int x0), .unset, .unset, .unset] [])) t → Steps p.tables e below (s₁.setTop (entryFrame m #[(.int x0)] maxLocals)) t := fun t k => castTop (by first | (simp [entryFrame, mkF, argsToLocals, Value.category, maxLocals]; done) | rfl) k
  have hEL : EW Z a0 consts_1 := own_EW hw
  have R0 := CHr.refl hC
  have hS15 := (State.WarmedH.refl s).since 0
  obtain ⟨_, _, ⟨T16, L16, k16, n16⟩, -, X16, hs16, hg16, ⟨Lc16, hQ16, l16, y16, z16, cr16⟩, st16⟩ := callSS X0 hx (y := (⟨cs7, "positional", cs8⟩ : MethodName)) hown (mvT hZ (ww hw 1 rfl)) (mvT hZ (ww hw 2 rfl)) (mvT hZ (ww hw 3 rfl)) (mvT hZ (ww hw 4 rfl)) (by decide) (backOfSH (s := s) (vm0 := s.vm) (W := 0) (rm1_1 l Z a0 hw [] x1 x2 r3 r4 d5 r6 d7 h0 n0 O0 f2 hc3 hc4 f5 hc6 hc7 hc8 hc9 hc10 hc11 hc12 hc13 hc14) hZ (ww hw 4 rfl) (ww hw 3 rfl) (by decide) (by decide) hEL R0.1) (g := (mkF m 11 #[.val (.int x0), .val (.int x1), .unset, .unset] [(.int x1)])) rfl (by rw [hml]; rfl) (argsL := [(.int x1)]) (rest := []) (lenOf pd__I_Lcom_example_manojo_manojo_QueryTree_Parameter_ rfl) rfl (by show 2 * 0 + _ ≤ _; exact Nat.le_of_eq rfl) (hb hby at_11) (fun _ _ => ⟨rfl, e0, (by decide : 0 + 7 ≤ _), (by decide : 0 + 65 ≤ _)⟩)
  dsimp only [Pt.U, Pt.locs, Pt.cells, Pt.slots] at X16 l16 y16 z16 st16 hQ16 hs16 hg16 cr16
  subst l16 y16 z16
  obtain ⟨X16, hS16, hZ16, ho16⟩ := rebS (s := s) (vm0 := s.vm) hS15 (by rw [e0]; exact (Nat.zero_le _)) X16 hs16 hg16 hZ hown
  obtain ⟨b16_0, b16_1, b16_2, k16_0, rfl, N16q, K16, f17, f18, f19, f20, f21, f22, f23, f24, f25, f26, f27, f28, f29⟩ := hQ16
  have N16 := Fr.app N0 N16q
  have R30 := CHr.trans R0 cr16
  have f32 : Arv Z T16.heap b16_2 k16_0 .byte (((1 : Int32) + (SBG.strSizeOf x1)) - (0 : Int32)) t8 (.int (0 : Int32)) := by rw [← hq31]; exact f25
  have o33 := Old.keep O0 K16 all0
  obtain ⟨cqq35, kqq35, qq35a, qq35b, qq35c⟩ := isOf hZ16 rfl f18
  obtain ⟨_, _, ⟨T34, L34, k34, n34⟩, -, X34, ⟨Lc34, hQ34, l34, y34, z34⟩, st34⟩ := X16.virtualBack hx (y := (⟨cs7, "name", "()Ljava/lang/String;"⟩ : MethodName)) (z := (⟨cs7, "name", "()Ljava/lang/String;"⟩ : MethodName)) ho16 (mvT hZ16 (ww hw 161 rfl)) (mvT hZ16 (ww hw 162 rfl)) (notFace_of_selects (args := #[]) (mvT hZ16 (ww hw 164 rfl))) (mvT hZ16 (ww hw 164 rfl)) (mvT hZ16 (ww hw 163 rfl)) (by decide) (backOf (W := 0) (rm30_1 l Z a0 hw [] b16_0 b16_1 T16.heap n0 o33 f19) hZ16 (ww hw 165 rfl) (ww hw 3 rfl) (by decide) (by decide)) qq35a qq35c (g := (mkF m 14 #[.val (.int x0), .val (.int x1), .unset, .unset] [(.ref b16_0)])) rfl (by rw [hml]; rfl) (Steps.refl _) (argsL := []) (rest := []) (lenOf pd___Ljava_lang_String_ rfl) rfl (by show 2 * 0 + _ ≤ _; exact Nat.le_of_eq rfl) (hb hby at_14) (fun _ _ => ⟨rfl, rfl, (by decide : 7 + 0 ≤ _), (by decide : 65 + 0 ≤ _)⟩)
  dsimp only [Pt.U, Pt.locs, Pt.cells, Pt.slots] at X34 l34 y34 z34 st34 hQ34
  subst l34 y34 z34
  obtain ⟨rfl, N34q, E34⟩ := hQ34
  have N34 := Fr.app N16 N34q
  obtain ⟨_, _, ⟨T43, L43, k43, n43⟩, -, X43, ⟨Lc43, hQ43, l43, y43, z43⟩, st43⟩ := Jvm.LawKit.callS X34 hx (y := (⟨cs9, "digits", "(I)I"⟩ : MethodName)) ho16 (mvT hZ16 (ww hw 166 rfl)) (mvT hZ16 (ww hw 167 rfl)) (mvT hZ16 (ww hw 168 rfl)) (mvT hZ16 (ww hw 169 rfl)) (by decide) (backOf (W := 0) (rm31_4 l Z a0 hw [] x1 T16.heap n0 o33 hc36 hc37 hc38 hc39 hc40 hc41 hc42) hZ16 (ww hw 169 rfl) (ww hw 168 rfl) (by decide) (by decide)) (g := (mkF m 19 #[.val (.int x0), .val (.int x1), .val (.ref b16_1), .unset] [(.int x1)])) rfl (by rw [hml]; rfl) (argsL := [(.int x1)]) (rest := []) (lenOf pd__I_I rfl) rfl (by show 2 * 0 + _ ≤ _; exact Nat.le_of_eq rfl) (hb hby at_19) (fun _ _ => ⟨rfl, E34, (by decide : 7 + 0 ≤ _), (by decide : 65 + 0 ≤ _)⟩)
  dsimp only [Pt.U, Pt.locs, Pt.cells, Pt.slots] at X43 l43 y43 z43 st43 hQ43
  subst l43 y43 z43
  obtain ⟨rfl, N43q, E43⟩ := hQ43
  have N43 := Fr.app N34 N43q
  obtain ⟨cqq45, kqq45, qq45a, qq45b, qq45c⟩ := isOf hZ16 E43 f21
  obtain ⟨_, _, ⟨T44, L44, k44, n44⟩, -, X44, ⟨Lc44, hQ44, l44, y44, z44⟩, st44⟩ := X43.virtualBack hx (y := (⟨"java/lang/String", "length", "()I"⟩ : MethodName)) (z := (⟨"java/lang/String", "length", "()I"⟩ : MethodName)) ho16 (mvT hZ16 (ww hw 175 rfl)) (mvT hZ16 (ww hw 46 rfl)) (notFace_of_selects (args := #[]) (mvT hZ16 (ww hw 48 rfl))) (mvT hZ16 (ww hw 48 rfl)) (mvT hZ16 (ww hw 47 rfl)) (by decide) (backOf (W := 0) (rm7_1 l Z a0 hw [] b16_1 b16_2 (((1 : Int32) + (SBG.strSizeOf x1)) - (0 : Int32)) k16_0 t8 x2 (0 : Int32) T16.heap n0 o33 f23 f32 f21 f2 hc3 f22) hZ16 (ww hw 49 rfl) (ww hw 23 rfl) (by decide) (by decide)) qq45a qq45c (g := (mkF m 24 #[.val (.int x0), .val (.int x1), .val (.ref b16_1), .val (.int (4 : Int32))] [(.ref b16_1)])) rfl (by rw [hml]; rfl) (Steps.refl _) (argsL := []) (rest := []) (lenOf pd___I rfl) rfl (by show 2 * 0 + _ ≤ _; exact Nat.le_of_eq rfl) (hb hby at_24) (fun _ _ => ⟨rfl, E43, (by decide : 7 + 0 ≤ _), (by decide : 65 + 0 ≤ _)⟩)
  dsimp only [Pt.U, Pt.locs, Pt.cells, Pt.slots] at X44 l44 y44 z44 st44 hQ44
  subst l44 y44 z44
  obtain ⟨rfl, N44q, E44⟩ := hQ44
  have N44 := Fr.app N43 N44q
  obtain ⟨cqq52, kqq52, qq52a, qq52b, qq52c⟩ := isOf hZ16 E44 f21
  obtain ⟨_, _, ⟨T51, L51, k51, n51⟩, -, X51, ⟨Lc51, hQ51, l51, y51, z51⟩, st51⟩ := X44.virtualBack hx (y := (⟨"java/lang/String", "charAt", "(I)C"⟩ : MethodName)) (z := (⟨"java/lang/String", "charAt", "(I)C"⟩ : MethodName)) ho16 (mvT hZ16 (ww hw 176 rfl)) (mvT hZ16 (ww hw 177 rfl)) (notFace_of_selects (args := #[]) (mvT hZ16 (ww hw 179 rfl))) (mvT hZ16 (ww hw 179 rfl)) (mvT hZ16 (ww hw 178 rfl)) (by decide) (backOf (W := 0) (rm32_1 l Z a0 hw [] b16_1 (0 : Int32) x2 (0 : Int32) b16_2 (((1 : Int32) + (SBG.strSizeOf x1)) - (0 : Int32)) k16_0 t8 u9 (own_at t8 ((0 : Int32)).toNatClampNeg) T16.heap n0 o33 f21 f2 hc3 f22 (by decide : (0 : Int32) = (0 : Int32)) f23 f32 f47 hc48 (by decide : ¬ ((0 : Int32) < (0 : Int32))) hc49 hc50) hZ16 (ww hw 180 rfl) (ww hw 23 rfl) (by decide) (by decide)) qq52a qq52c (g := (mkF m 37 #[.val (.int x0), .val (.int x1), .val (.ref b16_1), .val (.int (4 : Int32))] [(.int (0 : Int32)), (.ref b16_1)])) rfl (by rw [hml]; rfl) (Steps.refl _) (argsL := [(.int (0 : Int32))]) (rest := []) (lenOf pd__I_C rfl) rfl (by show 2 * 0 + _ ≤ _; exact Nat.le_of_eq rfl) (hb hby at_37) (fun _ _ => ⟨rfl, E44, (by decide : 7 + 0 ≤ _), (by decide : 65 + 0 ≤ _)⟩)
  dsimp only [Pt.U, Pt.locs, Pt.cells, Pt.slots] at X51 l51 y51 z51 st51 hQ51
  subst l51 y51 z51
  obtain ⟨rfl, N51q, E51⟩ := hQ51
  have N51 := Fr.app N44 N51q
  obtain ⟨_, _, ⟨T57, L57, k57, n57⟩, -, X57, ⟨Lc57, hQ57, l57, y57, z57⟩, st57⟩ := Jvm.LawKit.callS X51 hx (y := (⟨cs9, "at", cs13⟩ : MethodName)) ho16 (mvT hZ16 (ww hw 198 rfl)) (mvT hZ16 (ww hw 199 rfl)) (mvT hZ16 (ww hw 168 rfl)) (mvT hZ16 (ww hw 200 rfl)) (by decide) (backOf (W := 0) (rm37_1 l Z a0 hw [] b16_1 (4 : Int32) x1 (0 : Int32) (1 : Int32) x2 (0 : Int32) b16_2 (((1 : Int32) + (SBG.strSizeOf x1)) - (0 : Int32)) k16_0 t8 u9 (own_at t8 (((4 : Int32) - (0 : Int32))).toNatClampNeg) T16.heap n0 o33 (by decide : (0 : Int32) < (4 : Int32)) f21 f2 hc3 f22 (by decide : (0 : Int32) = (0 : Int32)) f23 f32 f47 hc48 (by decide : ¬ (((4 : Int32) - (0 : Int32)) < (0 : Int32))) hc54 hc55 (by decide : ¬ ((1 : Int32) = (0 : Int32))) hc56) hZ16 (ww hw 200 rfl) (ww hw 168 rfl) (by decide) (by decide)) (g := (mkF m 52 #[.val (.int x0), .val (.int x1), .val (.ref b16_1), .val (.int (4 : Int32))] [(.int (1 : Int32)), (.int (0 : Int32)), (.int x1), (.int (4 : Int32)), (.ref b16_1)])) rfl (by rw [hml]; rfl) (argsL := [(.ref b16_1), (.int (4 : Int32)), (.int x1), (.int (0 : Int32)), (.int (1 : Int32))]) (rest := []) (lenOf pd__Ljava_lang_String_IIII_Z rfl) rfl (by show 2 * 0 + _ ≤ _; exact Nat.le_of_eq rfl) (hb hby at_52) (fun _ _ => ⟨rfl, E51, (by decide : 7 + 0 ≤ _), (by decide : 65 + 0 ≤ _)⟩)
  dsimp only [Pt.U, Pt.locs, Pt.cells, Pt.slots] at X57 l57 y57 z57 st57 hQ57
  subst l57 y57 z57
  obtain ⟨rfl, N57q, E57⟩ := hQ57
  have N57 := Fr.app N51 N57q
  obtain ⟨_, _, ⟨T61, L61, k61, n61⟩, -, X61, ⟨Lc61, hQ61, l61, y61, z61⟩, st61⟩ := Jvm.LawKit.callS X57 hx (y := (⟨cs9, "at", cs13⟩ : MethodName)) ho16 (mvT hZ16 (ww hw 198 rfl)) (mvT hZ16 (ww hw 199 rfl)) (mvT hZ16 (ww hw 168 rfl)) (mvT hZ16 (ww hw 200 rfl)) (by decide) (backOf (W := 0) (rm37_1 l Z a0 hw [] b16_1 (4 : Int32) x1 (1 : Int32) (10 : Int32) x2 (0 : Int32) b16_2 (((1 : Int32) + (SBG.strSizeOf x1)) - (0 : Int32)) k16_0 t8 u9 (own_at t8 (((4 : Int32) - (1 : Int32))).toNatClampNeg) T16.heap n0 o33 (by decide : (1 : Int32) < (4 : Int32)) f21 f2 hc3 f22 (by decide : (0 : Int32) = (0 : Int32)) f23 f32 f47 hc48 (by decide : ¬ (((4 : Int32) - (1 : Int32)) < (0 : Int32))) hc58 hc59 (by decide : ¬ ((10 : Int32) = (0 : Int32))) hc60) hZ16 (ww hw 200 rfl) (ww hw 168 rfl) (by decide) (by decide)) (g := (mkF m 64 #[.val (.int x0), .val (.int x1), .val (.ref b16_1), .val (.int (4 : Int32))] [(.int (10 : Int32)), (.int (1 : Int32)), (.int x1), (.int (4 : Int32)), (.ref b16_1)])) rfl (by rw [hml]; rfl) (argsL := [(.ref b16_1), (.int (4 : Int32)), (.int x1), (.int (1 : Int32)), (.int (10 : Int32))]) (rest := []) (lenOf pd__Ljava_lang_String_IIII_Z rfl) rfl (by show 2 * 0 + _ ≤ _; exact Nat.le_of_eq rfl) (hb hby at_64) (fun _ _ => ⟨rfl, E57, (by decide : 7 + 0 ≤ _), (by decide : 65 + 0 ≤ _)⟩)
  dsimp only [Pt.U, Pt.locs, Pt.cells, Pt.slots] at X61 l61 y61 z61 st61 hQ61
  subst l61 y61 z61
  obtain ⟨rfl, N61q, E61⟩ := hQ61
  have N61 := Fr.app N57 N61q
  obtain ⟨_, _, ⟨T65, L65, k65, n65⟩, -, X65, ⟨Lc65, hQ65, l65, y65, z65⟩, st65⟩ := Jvm.LawKit.callS X61 hx (y := (⟨cs9, "at", cs13⟩ : MethodName)) ho16 (mvT hZ16 (ww hw 198 rfl)) (mvT hZ16 (ww hw 199 rfl)) (mvT hZ16 (ww hw 168 rfl)) (mvT hZ16 (ww hw 200 rfl)) (by decide) (backOf (W := 0) (rm37_1 l Z a0 hw [] b16_1 (4 : Int32) x1 (2 : Int32) (100 : Int32) x2 (0 : Int32) b16_2 (((1 : Int32) + (SBG.strSizeOf x1)) - (0 : Int32)) k16_0 t8 u9 (own_at t8 (((4 : Int32) - (2 : Int32))).toNatClampNeg) T16.heap n0 o33 (by decide : (2 : Int32) < (4 : Int32)) f21 f2 hc3 f22 (by decide : (0 : Int32) = (0 : Int32)) f23 f32 f47 hc48 (by decide : ¬ (((4 : Int32) - (2 : Int32)) < (0 : Int32))) hc62 hc63 (by decide : ¬ ((100 : Int32) = (0 : Int32))) hc64) hZ16 (ww hw 200 rfl) (ww hw 168 rfl) (by decide) (by decide)) (g := (mkF m 76 #[.val (.int x0), .val (.int x1), .val (.ref b16_1), .val (.int (4 : Int32))] [(.int (100 : Int32)), (.int (2 : Int32)), (.int x1), (.int (4 : Int32)), (.ref b16_1)])) rfl (by rw [hml]; rfl) (argsL := [(.ref b16_1), (.int (4 : Int32)), (.int x1), (.int (2 : Int32)), (.int (100 : Int32))]) (rest := []) (lenOf pd__Ljava_lang_String_IIII_Z rfl) rfl (by show 2 * 0 + _ ≤ _; exact Nat.le_of_eq rfl) (hb hby at_76) (fun _ _ => ⟨rfl, E61, (by decide : 7 + 0 ≤ _), (by decide : 65 + 0 ≤ _)⟩)
  dsimp only [Pt.U, Pt.locs, Pt.cells, Pt.slots] at X65 l65 y65 z65 st65 hQ65
  subst l65 y65 z65
  obtain ⟨rfl, N65q, E65⟩ := hQ65
  have N65 := Fr.app N61 N65q
  obtain ⟨_, _, ⟨T69, L69, k69, n69⟩, -, X69, ⟨Lc69, hQ69, l69, y69, z69⟩, st69⟩ := Jvm.LawKit.callS X65 hx (y := (⟨cs9, "at", cs13⟩ : MethodName)) ho16 (mvT hZ16 (ww hw 198 rfl)) (mvT hZ16 (ww hw 199 rfl)) (mvT hZ16 (ww hw 168 rfl)) (mvT hZ16 (ww hw 200 rfl)) (by decide) (backOf (W := 0) (rm37_1 l Z a0 hw [] b16_1 (4 : Int32) x1 (3 : Int32) (1000 : Int32) x2 (0 : Int32) b16_2 (((1 : Int32) + (SBG.strSizeOf x1)) - (0 : Int32)) k16_0 t8 u9 (own_at t8 (((4 : Int32) - (3 : Int32))).toNatClampNeg) T16.heap n0 o33 (by decide : (3 : Int32) < (4 : Int32)) f21 f2 hc3 f22 (by decide : (0 : Int32) = (0 : Int32)) f23 f32 f47 hc48 (by decide : ¬ (((4 : Int32) - (3 : Int32)) < (0 : Int32))) hc66 hc67 (by decide : ¬ ((1000 : Int32) = (0 : Int32))) hc68) hZ16 (ww hw 200 rfl) (ww hw 168 rfl) (by decide) (by decide)) (g := (mkF m 89 #[.val (.int x0), .val (.int x1), .val (.ref b16_1), .val (.int (4 : Int32))] [(.int (1000 : Int32)), (.int (3 : Int32)), (.int x1), (.int (4 : Int32)), (.ref b16_1)])) rfl (by rw [hml]; rfl) (argsL := [(.ref b16_1), (.int (4 : Int32)), (.int x1), (.int (3 : Int32)), (.int (1000 : Int32))]) (rest := []) (lenOf pd__Ljava_lang_String_IIII_Z rfl) rfl (by show 2 * 0 + _ ≤ _; exact Nat.le_of_eq rfl) (hb hby at_89) (fun _ _ => ⟨rfl, E65, (by decide : 7 + 0 ≤ _), (by decide : 65 + 0 ≤ _)⟩)
  dsimp only [Pt.U, Pt.locs, Pt.cells, Pt.slots] at X69 l69 y69 z69 st69 hQ69
  subst l69 y69 z69
  obtain ⟨rfl, N69q, E69⟩ := hQ69
  have N69 := Fr.app N65 N69q
  obtain ⟨_, _, ⟨T70, L70, k70, n70⟩, -, X70, ⟨Lc70, hQ70, l70, y70, z70⟩, st70⟩ := Jvm.LawKit.callS X69 hx (y := (⟨cs9, "at", cs13⟩ : MethodName)) ho16 (mvT hZ16 (ww hw 198 rfl)) (mvT hZ16 (ww hw 199 rfl)) (mvT hZ16 (ww hw 168 rfl)) (mvT hZ16 (ww hw 200 rfl)) (by decide) (backOf (W := 0) (rm37_2 l Z a0 hw [] b16_1 (4 : Int32) x1 (4 : Int32) (10000 : Int32) T16.heap n0 o33 (by decide : ¬ ((4 : Int32) < (4 : Int32)))) hZ16 (ww hw 200 rfl) (ww hw 168 rfl) (by decide) (by decide)) (g := (mkF m 102 #[.val (.int x0), .val (.int x1), .val (.ref b16_1), .val (.int (4 : Int32))] [(.int (10000 : Int32)), (.int (4 : Int32)), (.int x1), (.int (4 : Int32)), (.ref b16_1)])) rfl (by rw [hml]; rfl) (argsL := [(.ref b16_1), (.int (4 : Int32)), (.int x1), (.int (4 : Int32)), (.int (10000 : Int32))]) (rest := []) (lenOf pd__Ljava_lang_String_IIII_Z rfl) rfl (by show 2 * 0 + _ ≤ _; exact Nat.le_of_eq rfl) (hb hby at_102) (fun _ _ => ⟨rfl, E69, (by decide : 7 + 0 ≤ _), (by decide : 65 + 0 ≤ _)⟩)
  dsimp only [Pt.U, Pt.locs, Pt.cells, Pt.slots] at X70 l70 y70 z70 st70 hQ70
  subst l70 y70 z70
  obtain ⟨rfl, N70q, E70⟩ := hQ70
  have N70 := Fr.app N69 N70q
  obtain ⟨_, _, ⟨T71, L71, k71, n71⟩, -, X71, ⟨Lc71, hQ71, l71, y71, z71⟩, st71⟩ := Jvm.LawKit.callS X70 hx (y := (⟨cs9, "at", cs13⟩ : MethodName)) ho16 (mvT hZ16 (ww hw 198 rfl)) (mvT hZ16 (ww hw 199 rfl)) (mvT hZ16 (ww hw 168 rfl)) (mvT hZ16 (ww hw 200 rfl)) (by decide) (backOf (W := 0) (rm37_2 l Z a0 hw [] b16_1 (4 : Int32) x1 (5 : Int32) (100000 : Int32) T16.heap n0 o33 (by decide : ¬ ((5 : Int32) < (4 : Int32)))) hZ16 (ww hw 200 rfl) (ww hw 168 rfl) (by decide) (by decide)) (g := (mkF m 114 #[.val (.int x0), .val (.int x1), .val (.ref b16_1), .val (.int (4 : Int32))] [(.int (100000 : Int32)), (.int (5 : Int32)), (.int x1), (.int (4 : Int32)), (.ref b16_1)])) rfl (by rw [hml]; rfl) (argsL := [(.ref b16_1), (.int (4 : Int32)), (.int x1), (.int (5 : Int32)), (.int (100000 : Int32))]) (rest := []) (lenOf pd__Ljava_lang_String_IIII_Z rfl) rfl (by show 2 * 0 + _ ≤ _; exact Nat.le_of_eq rfl) (hb hby at_114) (fun _ _ => ⟨rfl, E70, (by decide : 7 + 0 ≤ _), (by decide : 65 + 0 ≤ _)⟩)
  dsimp only [Pt.U, Pt.locs, Pt.cells, Pt.slots] at X71 l71 y71 z71 st71 hQ71
  subst l71 y71 z71
  obtain ⟨rfl, N71q, E71⟩ := hQ71
  have N71 := Fr.app N70 N71q
  obtain ⟨_, _, ⟨T72, L72, k72, n72⟩, -, X72, ⟨Lc72, hQ72, l72, y72, z72⟩, st72⟩ := Jvm.LawKit.callS X71 hx (y := (⟨cs9, "at", cs13⟩ : MethodName)) ho16 (mvT hZ16 (ww hw 198 rfl)) (mvT hZ16 (ww hw 199 rfl)) (mvT hZ16 (ww hw 168 rfl)) (mvT hZ16 (ww hw 200 rfl)) (by decide) (backOf (W := 0) (rm37_2 l Z a0 hw [] b16_1 (4 : Int32) x1 (6 : Int32) (1000000 : Int32) T16.heap n0 o33 (by decide : ¬ ((6 : Int32) < (4 : Int32)))) hZ16 (ww hw 200 rfl) (ww hw 168 rfl) (by decide) (by decide)) (g := (mkF m 127 #[.val (.int x0), .val (.int x1), .val (.ref b16_1), .val (.int (4 : Int32))] [(.int (1000000 : Int32)), (.int (6 : Int32)), (.int x1), (.int (4 : Int32)), (.ref b16_1)])) rfl (by rw [hml]; rfl) (argsL := [(.ref b16_1), (.int (4 : Int32)), (.int x1), (.int (6 : Int32)), (.int (1000000 : Int32))]) (rest := []) (lenOf pd__Ljava_lang_String_IIII_Z rfl) rfl (by show 2 * 0 + _ ≤ _; exact Nat.le_of_eq rfl) (hb hby at_127) (fun _ _ => ⟨rfl, E71, (by decide : 7 + 0 ≤ _), (by decide : 65 + 0 ≤ _)⟩)
  dsimp only [Pt.U, Pt.locs, Pt.cells, Pt.slots] at X72 l72 y72 z72 st72 hQ72
  subst l72 y72 z72
  obtain ⟨rfl, N72q, E72⟩ := hQ72
  have N72 := Fr.app N71 N72q
  obtain ⟨_, _, ⟨T73, L73, k73, n73⟩, -, X73, ⟨Lc73, hQ73, l73, y73, z73⟩, st73⟩ := Jvm.LawKit.callS X72 hx (y := (⟨cs9, "at", cs13⟩ : MethodName)) ho16 (mvT hZ16 (ww hw 198 rfl)) (mvT hZ16 (ww hw 199 rfl)) (mvT hZ16 (ww hw 168 rfl)) (mvT hZ16 (ww hw 200 rfl)) (by decide) (backOf (W := 0) (rm37_2 l Z a0 hw [] b16_1 (4 : Int32) x1 (7 : Int32) (10000000 : Int32) T16.heap n0 o33 (by decide : ¬ ((7 : Int32) < (4 : Int32)))) hZ16 (ww hw 200 rfl) (ww hw 168 rfl) (by decide) (by decide)) (g := (mkF m 140 #[.val (.int x0), .val (.int x1), .val (.ref b16_1), .val (.int (4 : Int32))] [(.int (10000000 : Int32)), (.int (7 : Int32)), (.int x1), (.int (4 : Int32)), (.ref b16_1)])) rfl (by rw [hml]; rfl) (argsL := [(.ref b16_1), (.int (4 : Int32)), (.int x1), (.int (7 : Int32)), (.int (10000000 : Int32))]) (rest := []) (lenOf pd__Ljava_lang_String_IIII_Z rfl) rfl (by show 2 * 0 + _ ≤ _; exact Nat.le_of_eq rfl) (hb hby at_140) (fun _ _ => ⟨rfl, E72, (by decide : 7 + 0 ≤ _), (by decide : 65 + 0 ≤ _)⟩)
  dsimp only [Pt.U, Pt.locs, Pt.cells, Pt.slots] at X73 l73 y73 z73 st73 hQ73
  subst l73 y73 z73
  obtain ⟨rfl, N73q, E73⟩ := hQ73
  have N73 := Fr.app N72 N73q
  obtain ⟨_, _, ⟨T74, L74, k74, n74⟩, -, X74, ⟨Lc74, hQ74, l74, y74, z74⟩, st74⟩ := Jvm.LawKit.callS X73 hx (y := (⟨cs9, "at", cs13⟩ : MethodName)) ho16 (mvT hZ16 (ww hw 198 rfl)) (mvT hZ16 (ww hw 199 rfl)) (mvT hZ16 (ww hw 168 rfl)) (mvT hZ16 (ww hw 200 rfl)) (by decide) (backOf (W := 0) (rm37_2 l Z a0 hw [] b16_1 (4 : Int32) x1 (8 : Int32) (100000000 : Int32) T16.heap n0 o33 (by decide : ¬ ((8 : Int32) < (4 : Int32)))) hZ16 (ww hw 200 rfl) (ww hw 168 rfl) (by decide) (by decide)) (g := (mkF m 153 #[.val (.int x0), .val (.int x1), .val (.ref b16_1), .val (.int (4 : Int32))] [(.int (100000000 : Int32)), (.int (8 : Int32)), (.int x1), (.int (4 : Int32)), (.ref b16_1)])) rfl (by rw [hml]; rfl) (argsL := [(.ref b16_1), (.int (4 : Int32)), (.int x1), (.int (8 : Int32)), (.int (100000000 : Int32))]) (rest := []) (lenOf pd__Ljava_lang_String_IIII_Z rfl) rfl (by show 2 * 0 + _ ≤ _; exact Nat.le_of_eq rfl) (hb hby at_153) (fun _ _ => ⟨rfl, E73, (by decide : 7 + 0 ≤ _), (by decide : 65 + 0 ≤ _)⟩)
  dsimp only [Pt.U, Pt.locs, Pt.cells, Pt.slots] at X74 l74 y74 z74 st74 hQ74
  subst l74 y74 z74
  obtain ⟨rfl, N74q, E74⟩ := hQ74
  have N74 := Fr.app N73 N74q
  obtain ⟨_, _, ⟨T75, L75, k75, n75⟩, -, X75, ⟨Lc75, hQ75, l75, y75, z75⟩, st75⟩ := Jvm.LawKit.callS X74 hx (y := (⟨cs9, "at", cs13⟩ : MethodName)) ho16 (mvT hZ16 (ww hw 198 rfl)) (mvT hZ16 (ww hw 199 rfl)) (mvT hZ16 (ww hw 168 rfl)) (mvT hZ16 (ww hw 200 rfl)) (by decide) (backOf (W := 0) (rm37_2 l Z a0 hw [] b16_1 (4 : Int32) x1 (9 : Int32) (1000000000 : Int32) T16.heap n0 o33 (by decide : ¬ ((9 : Int32) < (4 : Int32)))) hZ16 (ww hw 200 rfl) (ww hw 168 rfl) (by decide) (by decide)) (g := (mkF m 166 #[.val (.int x0), .val (.int x1), .val (.ref b16_1), .val (.int (4 : Int32))] [(.int (1000000000 : Int32)), (.int (9 : Int32)), (.int x1), (.int (4 : Int32)), (.ref b16_1)])) rfl (by rw [hml]; rfl) (argsL := [(.ref b16_1), (.int (4 : Int32)), (.int x1), (.int (9 : Int32)), (.int (1000000000 : Int32))]) (rest := []) (lenOf pd__Ljava_lang_String_IIII_Z rfl) rfl (by show 2 * 0 + _ ≤ _; exact Nat.le_of_eq rfl) (hb hby at_166) (fun _ _ => ⟨rfl, E74, (by decide : 7 + 0 ≤ _), (by decide : 65 + 0 ≤ _)⟩)
  dsimp only [Pt.U, Pt.locs, Pt.cells, Pt.slots] at X75 l75 y75 z75 st75 hQ75
  subst l75 y75 z75
  obtain ⟨rfl, N75q, E75⟩ := hQ75
  have N75 := Fr.app N74 N75q
  obtain ⟨fs, hr, hrun, hended, hend⟩ := leaveW (s := s) (vm₁ := T16.vm) X75 hS16 (by rw [E75]; exact (Nat.le_refl _)) (v := some (.int (1 : Int32))) (fun h => by rw [Bd.returns] at h; cases h)
  have hCR : CHr Z consts_1 s.vm s.heap T75.vm T75.heap := by rw [hh, E75]; exact CHr.trans R30 (CHv.at (s := s) (vm0 := T16.vm) X75 hZ16 hEL R30.1)
  refine ⟨_, _, pre0 _ ?_, hrun, hended, _, _, rfl, ?_, hCR, hend.1, hend.2.1, hend.2.2.1, hend.2.2.2.mono (by decide) (by decide)⟩
  · show Steps p.tables e below (s₁.setTop (mkF m 0 #[.val (.int x0), .unset, .unset, .unset] [])) _
    refine XS.iconst X0.here hx rfl (hb hby at_0) ?_
    refine XS.iloadN X0.here hx rfl (hb hby at_1) rfl ?_
    refine X0.ldcInt hx hown (mvT hZ (ww hw 0 rfl)) (g := (mkF m 2 #[.val (.int x0), .unset, .unset, .unset] [(.int x0), (.int (1 : Int32))])) rfl (hb hby at_2) _ ?_
    show Steps p.tables e below (s₁.setTop (mkF m 4 #[.val (.int x0), .unset, .unset, .unset] [(.int (2147483647 : Int32)), (.int x0), (.int (1 : Int32))])) _
    refine XS.iand X0.here hx rfl (hb hby at_4) rfl ?_
    refine X0.ldcInt hx hown (mvT hZ (ww hw 0 rfl)) (g := (mkF m 5 #[.val (.int x0), .unset, .unset, .unset] [(.int (x0 &&& (2147483647 : Int32))), (.int (1 : Int32))])) rfl (hb hby at_5) _ ?_
    show Steps p.tables e below (s₁.setTop (mkF m 7 #[.val (.int x0), .unset, .unset, .unset] [(.int (2147483647 : Int32)), (.int (x0 &&& (2147483647 : Int32))), (.int (1 : Int32))])) _
    refine iremM (g := (mkF m 7 #[.val (.int x0), .unset, .unset, .unset] [(.int (2147483647 : Int32)), (.int (x0 &&& (2147483647 : Int32))), (.int (1 : Int32))])) X0 hx rfl (hb hby at_7) rfl (by decide : ¬ ((2147483647 : Int32) = (0 : Int32))) ?_
    show Steps p.tables e below (s₁.setTop (mkF m 8 #[.val (.int x0), .unset, .unset, .unset] [(.int ((x0 &&& (2147483647 : Int32)) % (2147483647 : Int32))), (.int (1 : Int32))])) _
    refine XS.iadd X0.here hx rfl (hb hby at_8) rfl ?_
    show Steps p.tables e below (s₁.setTop (mkF m 9 #[.val (.int x0), .unset, .unset, .unset] [(.int ((1 : Int32) + ((x0 &&& (2147483647 : Int32)) % (2147483647 : Int32))))])) _
    rw [hq1]
    show Steps p.tables e below (s₁.setTop (mkF m 9 #[.val (.int x0), .unset, .unset, .unset] [(.int x1)])) _
    refine XS.istoreN X0.here hx rfl (hb hby at_9) rfl (l' := #[.val (.int x0), .val (.int x1), .unset, .unset]) rfl ?_
    refine XS.iloadN X0.here hx rfl (hb hby at_10) rfl ?_
    refine st16.trans ?_
    show Steps p.tables e below (T16.setTop (mkF m 14 #[.val (.int x0), .val (.int x1), .unset, .unset] [(.ref b16_0)])) _
    refine st34.trans ?_
    show Steps p.tables e below (T34.setTop (mkF m 17 #[.val (.int x0), .val (.int x1), .unset, .unset] [(.ref b16_1)])) _
    refine XS.astoreN X34.here hx rfl (hb hby at_17) rfl rfl (l' := #[.val (.int x0), .val (.int x1), .val (.ref b16_1), .unset]) rfl ?_
    refine XS.iloadN X34.here hx rfl (hb hby at_18) rfl ?_
    refine st43 _ ?_
    show Steps p.tables e below (T43.setTop (mkF m 22 #[.val (.int x0), .val (.int x1), .val (.ref b16_1), .unset] [(.int (4 : Int32))])) _
    refine XS.istoreN X43.here hx rfl (hb hby at_22) rfl (l' := #[.val (.int x0), .val (.int x1), .val (.ref b16_1), .val (.int (4 : Int32))]) rfl ?_
    refine XS.aloadN X43.here hx rfl (hb hby at_23) rfl rfl ?_
    refine st44.trans ?_
    show Steps p.tables e below (T44.setTop (mkF m 27 #[.val (.int x0), .val (.int x1), .val (.ref b16_1), .val (.int (4 : Int32))] [(.int ((((1 : Int32) + (SBG.strSizeOf x1)) - (0 : Int32)) >>> ((nar .byte (0 : Int32)) &&& 31)))])) _
    refine XS.iloadN X44.here hx rfl (hb hby at_27) rfl ?_
    refine XS.iconst X44.here hx rfl (hb hby at_28) ?_
    refine XS.iadd X44.here hx rfl (hb hby at_29) rfl ?_
    refine XS.icmpYes X44.here hx rfl (pc0 := 30) (pc' := 35) rfl (hb hby at_30) rfl (teq hc46).1 (by decide) (by decide) ?_
    show Steps p.tables e below (T44.setTop (mkF m 35 #[.val (.int x0), .val (.int x1), .val (.ref b16_1), .val (.int (4 : Int32))] [])) _
    refine XS.aloadN X44.here hx rfl (hb hby at_35) rfl rfl ?_
    refine XS.iconst X44.here hx rfl (hb hby at_36) ?_
    refine st51.trans ?_
    show Steps p.tables e below (T51.setTop (mkF m 40 #[.val (.int x0), .val (.int x1), .val (.ref b16_1), .val (.int (4 : Int32))] [(.int (nar .char (nar .char (((own_at t8 ((0 : Int32)).toNatClampNeg) &&& (255 : Int32)).toUInt32.toUInt16.toUInt32.toInt32))))])) _
    refine XS.bipush X51.here hx rfl (hb hby at_40) ?_
    refine XS.icmpYes X51.here hx rfl (pc0 := 42) (pc' := 47) rfl (hb hby at_42) rfl (teq hc53).1 (by decide) (by decide) ?_
    show Steps p.tables e below (T51.setTop (mkF m 47 #[.val (.int x0), .val (.int x1), .val (.ref b16_1), .val (.int (4 : Int32))] [])) _
    refine XS.aloadN X51.here hx rfl (hb hby at_47) rfl rfl ?_
    refine XS.iloadN X51.here hx rfl (hb hby at_48) rfl ?_
    refine XS.iloadN X51.here hx rfl (hb hby at_49) rfl ?_
    refine XS.iconst X51.here hx rfl (hb hby at_50) ?_
    show Steps p.tables e below (T51.setTop (mkF m 51 #[.val (.int x0), .val (.int x1), .val (.ref b16_1), .val (.int (4 : Int32))] [(.int (0 : Int32)), (.int x1), (.int (4 : Int32)), (.ref b16_1)])) _
    refine XS.iconst X51.here hx rfl (hb hby at_51) ?_
    refine st57 _ ?_
    show Steps p.tables e below (T57.setTop (mkF m 55 #[.val (.int x0), .val (.int x1), .val (.ref b16_1), .val (.int (4 : Int32))] [(.int (1 : Int32))])) _
    refine XS.ifNo X57.here hx rfl (hb hby at_55) rfl ((if0 _ _).trans (feq (by decide : ¬ ((1 : Int32) = (0 : Int32)))).1) ?_
    refine XS.aloadN X57.here hx rfl (hb hby at_58) rfl rfl ?_
    refine XS.iloadN X57.here hx rfl (hb hby at_59) rfl ?_
    refine XS.iloadN X57.here hx rfl (hb hby at_60) rfl ?_
    show Steps p.tables e below (T57.setTop (mkF m 61 #[.val (.int x0), .val (.int x1), .val (.ref b16_1), .val (.int (4 : Int32))] [(.int x1), (.int (4 : Int32)), (.ref b16_1)])) _
    refine XS.iconst X57.here hx rfl (hb hby at_61) ?_
    refine XS.bipush X57.here hx rfl (hb hby at_62) ?_
    refine st61 _ ?_
    show Steps p.tables e below (T61.setTop (mkF m 67 #[.val (.int x0), .val (.int x1), .val (.ref b16_1), .val (.int (4 : Int32))] [(.int (1 : Int32))])) _
    refine XS.ifNo X61.here hx rfl (hb hby at_67) rfl ((if0 _ _).trans (feq (by decide : ¬ ((1 : Int32) = (0 : Int32)))).1) ?_
    refine XS.aloadN X61.here hx rfl (hb hby at_70) rfl rfl ?_
    refine XS.iloadN X61.here hx rfl (hb hby at_71) rfl ?_
    refine XS.iloadN X61.here hx rfl (hb hby at_72) rfl ?_
    show Steps p.tables e below (T61.setTop (mkF m 73 #[.val (.int x0), .val (.int x1), .val (.ref b16_1), .val (.int (4 : Int32))] [(.int x1), (.int (4 : Int32)), (.ref b16_1)])) _
    refine XS.iconst X61.here hx rfl (hb hby at_73) ?_
    refine XS.bipush X61.here hx rfl (hb hby at_74) ?_
    refine st65 _ ?_
    show Steps p.tables e below (T65.setTop (mkF m 79 #[.val (.int x0), .val (.int x1), .val (.ref b16_1), .val (.int (4 : Int32))] [(.int (1 : Int32))])) _
    refine XS.ifNo X65.here hx rfl (hb hby at_79) rfl ((if0 _ _).trans (feq (by decide : ¬ ((1 : Int32) = (0 : Int32)))).1) ?_
    refine XS.aloadN X65.here hx rfl (hb hby at_82) rfl rfl ?_
    refine XS.iloadN X65.here hx rfl (hb hby at_83) rfl ?_
    refine XS.iloadN X65.here hx rfl (hb hby at_84) rfl ?_
    show Steps p.tables e below (T65.setTop (mkF m 85 #[.val (.int x0), .val (.int x1), .val (.ref b16_1), .val (.int (4 : Int32))] [(.int x1), (.int (4 : Int32)), (.ref b16_1)])) _
    refine XS.iconst X65.here hx rfl (hb hby at_85) ?_
    refine XS.sipush X65.here hx rfl (hb hby at_86) ?_
    refine st69 _ ?_
    show Steps p.tables e below (T69.setTop (mkF m 92 #[.val (.int x0), .val (.int x1), .val (.ref b16_1), .val (.int (4 : Int32))] [(.int (1 : Int32))])) _
    refine XS.ifNo X69.here hx rfl (hb hby at_92) rfl ((if0 _ _).trans (feq (by decide : ¬ ((1 : Int32) = (0 : Int32)))).1) ?_
    refine XS.aloadN X69.here hx rfl (hb hby at_95) rfl rfl ?_
    refine XS.iloadN X69.here hx rfl (hb hby at_96) rfl ?_
    refine XS.iloadN X69.here hx rfl (hb hby at_97) rfl ?_
    show Steps p.tables e below (T69.setTop (mkF m 98 #[.val (.int x0), .val (.int x1), .val (.ref b16_1), .val (.int (4 : Int32))] [(.int x1), (.int (4 : Int32)), (.ref b16_1)])) _
    refine XS.iconst X69.here hx rfl (hb hby at_98) ?_
    refine XS.sipush X69.here hx rfl (hb hby at_99) ?_
    refine st70 _ ?_
    show Steps p.tables e below (T70.setTop (mkF m 105 #[.val (.int x0), .val (.int x1), .val (.ref b16_1), .val (.int (4 : Int32))] [(.int (1 : Int32))])) _
    refine XS.ifNo X70.here hx rfl (hb hby at_105) rfl ((if0 _ _).trans (feq (by decide : ¬ ((1 : Int32) = (0 : Int32)))).1) ?_
    refine XS.aloadN X70.here hx rfl (hb hby at_108) rfl rfl ?_
    refine XS.iloadN X70.here hx rfl (hb hby at_109) rfl ?_
    refine XS.iloadN X70.here hx rfl (hb hby at_110) rfl ?_
    show Steps p.tables e below (T70.setTop (mkF m 111 #[.val (.int x0), .val (.int x1), .val (.ref b16_1), .val (.int (4 : Int32))] [(.int x1), (.int (4 : Int32)), (.ref b16_1)])) _
    refine XS.iconst X70.here hx rfl (hb hby at_111) ?_
    refine X70.ldcInt hx ho16 (mvT hZ16 (ww hw 174 rfl)) (g := (mkF m 112 #[.val (.int x0), .val (.int x1), .val (.ref b16_1), .val (.int (4 : Int32))] [(.int (5 : Int32)), (.int x1), (.int (4 : Int32)), (.ref b16_1)])) rfl (hb hby at_112) _ ?_
    show Steps p.tables e below (T70.setTop (mkF m 114 #[.val (.int x0), .val (.int x1), .val (.ref b16_1), .val (.int (4 : Int32))] [(.int (100000 : Int32)), (.int (5 : Int32)), (.int x1), (.int (4 : Int32)), (.ref b16_1)])) _
    refine st71 _ ?_
    show Steps p.tables e below (T71.setTop (mkF m 117 #[.val (.int x0), .val (.int x1), .val (.ref b16_1), .val (.int (4 : Int32))] [(.int (1 : Int32))])) _
    refine XS.ifNo X71.here hx rfl (hb hby at_117) rfl ((if0 _ _).trans (feq (by decide : ¬ ((1 : Int32) = (0 : Int32)))).1) ?_
    refine XS.aloadN X71.here hx rfl (hb hby at_120) rfl rfl ?_
    refine XS.iloadN X71.here hx rfl (hb hby at_121) rfl ?_
    refine XS.iloadN X71.here hx rfl (hb hby at_122) rfl ?_
    show Steps p.tables e below (T71.setTop (mkF m 123 #[.val (.int x0), .val (.int x1), .val (.ref b16_1), .val (.int (4 : Int32))] [(.int x1), (.int (4 : Int32)), (.ref b16_1)])) _
    refine XS.bipush X71.here hx rfl (hb hby at_123) ?_
    refine X71.ldcInt hx ho16 (mvT hZ16 (ww hw 173 rfl)) (g := (mkF m 125 #[.val (.int x0), .val (.int x1), .val (.ref b16_1), .val (.int (4 : Int32))] [(.int (6 : Int32)), (.int x1), (.int (4 : Int32)), (.ref b16_1)])) rfl (hb hby at_125) _ ?_
    show Steps p.tables e below (T71.setTop (mkF m 127 #[.val (.int x0), .val (.int x1), .val (.ref b16_1), .val (.int (4 : Int32))] [(.int (1000000 : Int32)), (.int (6 : Int32)), (.int x1), (.int (4 : Int32)), (.ref b16_1)])) _
    refine st72 _ ?_
    show Steps p.tables e below (T72.setTop (mkF m 130 #[.val (.int x0), .val (.int x1), .val (.ref b16_1), .val (.int (4 : Int32))] [(.int (1 : Int32))])) _
    refine XS.ifNo X72.here hx rfl (hb hby at_130) rfl ((if0 _ _).trans (feq (by decide : ¬ ((1 : Int32) = (0 : Int32)))).1) ?_
    refine XS.aloadN X72.here hx rfl (hb hby at_133) rfl rfl ?_
    refine XS.iloadN X72.here hx rfl (hb hby at_134) rfl ?_
    refine XS.iloadN X72.here hx rfl (hb hby at_135) rfl ?_
    show Steps p.tables e below (T72.setTop (mkF m 136 #[.val (.int x0), .val (.int x1), .val (.ref b16_1), .val (.int (4 : Int32))] [(.int x1), (.int (4 : Int32)), (.ref b16_1)])) _
    refine XS.bipush X72.here hx rfl (hb hby at_136) ?_
    refine X72.ldcInt hx ho16 (mvT hZ16 (ww hw 172 rfl)) (g := (mkF m 138 #[.val (.int x0), .val (.int x1), .val (.ref b16_1), .val (.int (4 : Int32))] [(.int (7 : Int32)), (.int x1), (.int (4 : Int32)), (.ref b16_1)])) rfl (hb hby at_138) _ ?_
    show Steps p.tables e below (T72.setTop (mkF m 140 #[.val (.int x0), .val (.int x1), .val (.ref b16_1), .val (.int (4 : Int32))] [(.int (10000000 : Int32)), (.int (7 : Int32)), (.int x1), (.int (4 : Int32)), (.ref b16_1)])) _
    refine st73 _ ?_
    show Steps p.tables e below (T73.setTop (mkF m 143 #[.val (.int x0), .val (.int x1), .val (.ref b16_1), .val (.int (4 : Int32))] [(.int (1 : Int32))])) _
    refine XS.ifNo X73.here hx rfl (hb hby at_143) rfl ((if0 _ _).trans (feq (by decide : ¬ ((1 : Int32) = (0 : Int32)))).1) ?_
    refine XS.aloadN X73.here hx rfl (hb hby at_146) rfl rfl ?_
    refine XS.iloadN X73.here hx rfl (hb hby at_147) rfl ?_
    refine XS.iloadN X73.here hx rfl (hb hby at_148) rfl ?_
    show Steps p.tables e below (T73.setTop (mkF m 149 #[.val (.int x0), .val (.int x1), .val (.ref b16_1), .val (.int (4 : Int32))] [(.int x1), (.int (4 : Int32)), (.ref b16_1)])) _
    refine XS.bipush X73.here hx rfl (hb hby at_149) ?_
    refine X73.ldcInt hx ho16 (mvT hZ16 (ww hw 171 rfl)) (g := (mkF m 151 #[.val (.int x0), .val (.int x1), .val (.ref b16_1), .val (.int (4 : Int32))] [(.int (8 : Int32)), (.int x1), (.int (4 : Int32)), (.ref b16_1)])) rfl (hb hby at_151) _ ?_
    show Steps p.tables e below (T73.setTop (mkF m 153 #[.val (.int x0), .val (.int x1), .val (.ref b16_1), .val (.int (4 : Int32))] [(.int (100000000 : Int32)), (.int (8 : Int32)), (.int x1), (.int (4 : Int32)), (.ref b16_1)])) _
    refine st74 _ ?_
    show Steps p.tables e below (T74.setTop (mkF m 156 #[.val (.int x0), .val (.int x1), .val (.ref b16_1), .val (.int (4 : Int32))] [(.int (1 : Int32))])) _
    refine XS.ifNo X74.here hx rfl (hb hby at_156) rfl ((if0 _ _).trans (feq (by decide : ¬ ((1 : Int32) = (0 : Int32)))).1) ?_
    refine XS.aloadN X74.here hx rfl (hb hby at_159) rfl rfl ?_
    refine XS.iloadN X74.here hx rfl (hb hby at_160) rfl ?_
    refine XS.iloadN X74.here hx rfl (hb hby at_161) rfl ?_
    show Steps p.tables e below (T74.setTop (mkF m 162 #[.val (.int x0), .val (.int x1), .val (.ref b16_1), .val (.int (4 : Int32))] [(.int x1), (.int (4 : Int32)), (.ref b16_1)])) _
    refine XS.bipush X74.here hx rfl (hb hby at_162) ?_
    refine X74.ldcInt hx ho16 (mvT hZ16 (ww hw 170 rfl)) (g := (mkF m 164 #[.val (.int x0), .val (.int x1), .val (.ref b16_1), .val (.int (4 : Int32))] [(.int (9 : Int32)), (.int x1), (.int (4 : Int32)), (.ref b16_1)])) rfl (hb hby at_164) _ ?_
    show Steps p.tables e below (T74.setTop (mkF m 166 #[.val (.int x0), .val (.int x1), .val (.ref b16_1), .val (.int (4 : Int32))] [(.int (1000000000 : Int32)), (.int (9 : Int32)), (.int x1), (.int (4 : Int32)), (.ref b16_1)])) _
    refine st75 _ ?_
    show Steps p.tables e below (T75.setTop (mkF m 169 #[.val (.int x0), .val (.int x1), .val (.ref b16_1), .val (.int (4 : Int32))] [(.int (1 : Int32))])) _
    refine XS.ifNo X75.here hx rfl (hb hby at_169) rfl ((if0 _ _).trans (feq (by decide : ¬ ((1 : Int32) = (0 : Int32)))).1) ?_
    refine XS.iconst X75.here hx rfl (hb hby at_172) ?_
    refine XS.goto X75.here hx rfl (pc0 := 173) (pc' := 177) rfl (hb hby at_173) (by decide) (by decide) ?_
    show Steps p.tables e below (T75.setTop (mkF m 177 #[.val (.int x0), .val (.int x1), .val (.ref b16_1), .val (.int (4 : Int32))] [(.int (1 : Int32))])) _
    exact retN X75 hx (t := .boolean) Bd.returns (by simp) (hb hby at_177) hr
  · show Q0_4 Z x0 x1 x2 r3 r4 d5 r6 d7 t8 u9 h0 n0 _ T75.heap _
    rw [E75]
    exact ⟨rfl, N75⟩
theorem d31_52 : decode method_3_code 52 = .ok (.iconst 5, 1) := by decide +kernel
theorem d31_53 : decode method_3_code 53 = .ok (.ireturn, 1) := by decide +kernel
def Q31_5 (Z : State) (x0 : Int32) (h0 : Heap) (n0 : Nat) (v : Option Value) (h : Heap) (L : List Loc) : Prop := v = some (.int (5 : Int32)) ∧ Fr n0 L ∧ h = h0
set_option maxRecDepth 65536 in
set_option maxHeartbeats 40000000 in
theorem rm31_5 (l : Launch) (Z : State) (a0 : Array Value) (hw : ∀ d ∈ tables_1, d.before a0 Z = true) (ws : List Jvm.Cond) (x0 : Int32) (h0 : Heap) (n0 : Nat) (O0 : Old Z n0 h0) (hc1 : x0 < (1000000000 : Int32)) (hc2 : x0 < (100000000 : Int32)) (hc3 : x0 < (10000000 : Int32)) (hc4 : x0 < (1000000 : Int32)) (hc5 : x0 < (100000 : Int32)) (hc6 : ¬ (x0 < (10000 : Int32))) :
    MetFree l (⟨cs9, "digits", "(I)I"⟩ : MethodName) (head1 (Jvm.Cond.code (⟨cs9, "digits", "(I)I"⟩ : MethodName) method_3_code 1 (some .int) :: ws) ({ frames := 0, cells := 0, slots := 0, locals := 0 } : Room)) (fun a U => a = #[(.int x0)] ∧ Z.Warmed39 U.vm ∧ U.heap = h0) (fun _ _ _ _ _ => True) (fun _ U o U' => ∃ v L, o = .returned v ∧ Q31_5 Z x0 h0 n0 v U'.heap L ∧ FrameEnd U o U' L ({ frames := 0, cells := 0, slots := 0, locals := 0 } : Room).cells ({ frames := 0, cells := 0, slots := 0, locals := 0 } : Room).slots) := by
  refine MetFree.of_bodySF (plainFor_of_name pn_com_example_manojo_manojo_ParameterPositionalPinLaw) hisR ?_
  intro p e s m args below meth c s₁ Bd hml0 hP hK
  obtain ⟨rfl, hZ, hh⟩ := hP
  have hx := Bd.exec
  have hby := Bd.bytes
  have hml : c.maxLocals = 1 := hml0
  have hown : s.vm.findClass cs9 = some m.cls := findClass_of_methodNamed Bd.named
  have hnm := (name_of_methodNamed Bd.named Bd.method).1
  have X0 : Stand p l e ({ frames := 0, cells := 0, slots := 0, locals := 0 } : Room) s m #[(.int x0)] below meth c s₁ [] 0 0 := Stand.of_body Bd
  have e0 : s₁.heap = h0 := by rw [← hh, Bd.state]; rfl
  have N0 := Fr.nil n0
  have pre0 : ∀ t, Steps p.tables e below (s₁.setTop (mkF m 0 #[.val (.int x0)] [])) t → Steps p.tables e below (s₁.setTop (entryFrame m #[(.int x0)] 1)) t := fun t k => castTop (by first | (simp [entryFrame, mkF, argsToLocals, Value.category]; done) | rfl) k
  obtain ⟨fs, hr, hrun, hended, hW, hsame⟩ := X0.leave (v := some (.int (5 : Int32))) (fun h => by rw [Bd.returns] at h; cases h)
  refine ⟨_, _, pre0 _ ?_, hrun, hended, _, _, rfl, ?_, ⟨_, rfl⟩, hW, hsame.mono (by decide) (by decide)⟩
  · show Steps p.tables e below (s₁.setTop (mkF m 0 #[.val (.int x0)] [])) _
    refine XS.iloadN X0.here hx rfl (hb hby d31_0) rfl ?_
    refine X0.ldcInt hx hown (mvT hZ (ww hw 170 rfl)) (g := (mkF m 1 #[.val (.int x0)] [(.int x0)])) rfl (hb hby d31_1) _ ?_
    show Steps p.tables e below (s₁.setTop (mkF m 3 #[.val (.int x0)] [(.int (1000000000 : Int32)), (.int x0)])) _
    refine XS.icmpYes X0.here hx rfl (pc0 := 3) (pc' := 9) rfl (hb hby d31_3) rfl (tlt hc1).1 (by decide) (by decide) ?_
    show Steps p.tables e below (s₁.setTop (mkF m 9 #[.val (.int x0)] [])) _
    refine XS.iloadN X0.here hx rfl (hb hby d31_9) rfl ?_
    refine X0.ldcInt hx hown (mvT hZ (ww hw 171 rfl)) (g := (mkF m 10 #[.val (.int x0)] [(.int x0)])) rfl (hb hby d31_10) _ ?_
    show Steps p.tables e below (s₁.setTop (mkF m 12 #[.val (.int x0)] [(.int (100000000 : Int32)), (.int x0)])) _
    refine XS.icmpYes X0.here hx rfl (pc0 := 12) (pc' := 18) rfl (hb hby d31_12) rfl (tlt hc2).1 (by decide) (by decide) ?_
    show Steps p.tables e below (s₁.setTop (mkF m 18 #[.val (.int x0)] [])) _
    refine XS.iloadN X0.here hx rfl (hb hby d31_18) rfl ?_
    refine X0.ldcInt hx hown (mvT hZ (ww hw 172 rfl)) (g := (mkF m 19 #[.val (.int x0)] [(.int x0)])) rfl (hb hby d31_19) _ ?_
    show Steps p.tables e below (s₁.setTop (mkF m 21 #[.val (.int x0)] [(.int (10000000 : Int32)), (.int x0)])) _
    refine XS.icmpYes X0.here hx rfl (pc0 := 21) (pc' := 27) rfl (hb hby d31_21) rfl (tlt hc3).1 (by decide) (by decide) ?_
    show Steps p.tables e below (s₁.setTop (mkF m 27 #[.val (.int x0)] [])) _
    refine XS.iloadN X0.here hx rfl (hb hby d31_27) rfl ?_
    refine X0.ldcInt hx hown (mvT hZ (ww hw 173 rfl)) (g := (mkF m 28 #[.val (.int x0)] [(.int x0)])) rfl (hb hby d31_28) _ ?_
    show Steps p.tables e below (s₁.setTop (mkF m 30 #[.val (.int x0)] [(.int (1000000 : Int32)), (.int x0)])) _
    refine XS.icmpYes X0.here hx rfl (pc0 := 30) (pc' := 36) rfl (hb hby d31_30) rfl (tlt hc4).1 (by decide) (by decide) ?_
    show Steps p.tables e below (s₁.setTop (mkF m 36 #[.val (.int x0)] [])) _
    refine XS.iloadN X0.here hx rfl (hb hby d31_36) rfl ?_
    refine X0.ldcInt hx hown (mvT hZ (ww hw 174 rfl)) (g := (mkF m 37 #[.val (.int x0)] [(.int x0)])) rfl (hb hby d31_37) _ ?_
    show Steps p.tables e below (s₁.setTop (mkF m 39 #[.val (.int x0)] [(.int (100000 : Int32)), (.int x0)])) _
    refine XS.icmpYes X0.here hx rfl (pc0 := 39) (pc' := 45) rfl (hb hby d31_39) rfl (tlt hc5).1 (by decide) (by decide) ?_
    show Steps p.tables e below (s₁.setTop (mkF m 45 #[.val (.int x0)] [])) _
    refine XS.iloadN X0.here hx rfl (hb hby d31_45) rfl ?_
    refine XS.sipush X0.here hx rfl (hb hby d31_46) ?_
    refine XS.icmpNo X0.here hx rfl (hb hby d31_49) rfl (flt hc6).1 ?_
    refine XS.iconst X0.here hx rfl (hb hby d31_52) ?_
    show Steps p.tables e below (s₁.setTop (mkF m 53 #[.val (.int x0)] [(.int (5 : Int32))])) _
    exact retOut X0 hx (i := .ireturn) Bd.returns rfl (Or.inl ⟨rfl, Or.inl rfl, _, rfl⟩) (hb hby d31_53) hr
  · show Q31_5 Z x0 h0 n0 _ s₁.heap _
    rw [e0]
    exact ⟨rfl, N0, rfl⟩
def Q0_5 (Z : State) (x0 : Int32) (x1 : Int32) (x2 : Int32) (r3 : Addr) (r4 : Addr) (d5 : Cell) (r6 : Addr) (d7 : Cell) (t8 : List Value) (u9 : Value) (h0 : Heap) (n0 : Nat) (v : Option Value) (h : Heap) (L : List Loc) : Prop := v = some (.int (1 : Int32)) ∧ Fr n0 L
set_option maxRecDepth 65536 in
set_option maxHeartbeats 40000000 in
theorem rm0_5 (l : Launch) (Z : State) (a0 : Array Value) (hw : ∀ d ∈ tables_1, d.before a0 Z = true) (ws : List Jvm.Cond) (x0 : Int32) (x1 : Int32) (x2 : Int32) (r3 : Addr) (r4 : Addr) (d5 : Cell) (r6 : Addr) (d7 : Cell) (t8 : List Value) (u9 : Value) (h0 : Heap) (n0 : Nat) (O0 : Old Z n0 h0) (hq1 : ((1 : Int32) + ((x0 &&& (2147483647 : Int32)) % (2147483647 : Int32))) = x1) (f2 : Sta Z Z.heap "java/lang/String" "COMPACT_STRINGS" "Z" (.int x2)) (hc3 : ¬ (x2 = (0 : Int32))) (hc4 : ¬ ((0 : Int32) < (((1 : Int32) + (SBG.strSizeOf x1)) - ((16 : Int32) >>> ((0 : Int32) &&& 31))))) (f5 : own_TB Z r3 r4 d5 r6 d7) (hc6 : ¬ (((1 : Int32) + (SBG.strSizeOf x1)) < 0)) (hc7 : (((1 : Int32) + (SBG.strSizeOf x1))).toNatClampNeg ≤ ((16 : Int32)).toNatClampNeg) (hc8 : own_sz x1 ≤ (((1 : Int32) + (SBG.strSizeOf x1))).toNatClampNeg) (hc9 : ¬ (((1 : Int32) + (SBG.strSizeOf x1)) = (16 : Int32))) (hc10 : ¬ (((1 : Int32) + (SBG.strSizeOf x1)) < (0 : Int32))) (hc11 : ¬ ((((1 : Int32) + (SBG.strSizeOf x1)) - (0 : Int32)) < 0)) (hc12 : ((((1 : Int32) + (SBG.strSizeOf x1)) - (0 : Int32))).toNatClampNeg ≤ 32) (hc13 : (((1 : Int32) + (SBG.strSizeOf x1)) - (0 : Int32)) < ((16 : Int32) - (0 : Int32))) (hc14 : ((((1 : Int32) + (SBG.strSizeOf x1)) - (0 : Int32))).toNatClampNeg ≤ ((16 : Int32)).toNatClampNeg) (hq31 : (own_us [(.int (63 : Int32)), (.int (0 : Int32)), (.int (0 : Int32)), (.int (0 : Int32)), (.int (0 : Int32)), (.int (0 : Int32)), (.int (0 : Int32)), (.int (0 : Int32)), (.int (0 : Int32)), (.int (0 : Int32)), (.int (0 : Int32)), (.int (0 : Int32)), (.int (0 : Int32)), (.int (0 : Int32)), (.int (0 : Int32)), (.int (0 : Int32))] (.int (0 : Int32)) ((16 : Int32)).toNatClampNeg x1 (((1 : Int32) + (SBG.strSizeOf x1))).toNatClampNeg) = t8) (hc36 : x1 < (1000000000 : Int32)) (hc37 : x1 < (100000000 : Int32)) (hc38 : x1 < (10000000 : Int32)) (hc39 : x1 < (1000000 : Int32)) (hc40 : x1 < (100000 : Int32)) (hc41 : ¬ (x1 < (10000 : Int32))) (hc45 : ((((1 : Int32) + (SBG.strSizeOf x1)) - (0 : Int32)) >>> ((nar .byte (0 : Int32)) &&& 31)) = (6 : Int32)) (f46 : Sta Z Z.heap cs10 "SIOOBE_FORMATTER" cs12 u9) (hc47 : u9.isRef = true) (hc48 : (0 : Int32) < (((1 : Int32) + (SBG.strSizeOf x1)) - (0 : Int32))) (hc49 : t8.getD ((0 : Int32)).toNatClampNeg (.int (0 : Int32)) = (.int (own_at t8 ((0 : Int32)).toNatClampNeg))) (hc52 : (nar .char (nar .char (((own_at t8 ((0 : Int32)).toNatClampNeg) &&& (255 : Int32)).toUInt32.toUInt16.toUInt32.toInt32))) = (63 : Int32)) (hc53 : ((5 : Int32) - (0 : Int32)) < (((1 : Int32) + (SBG.strSizeOf x1)) - (0 : Int32))) (hc54 : t8.getD (((5 : Int32) - (0 : Int32))).toNatClampNeg (.int (0 : Int32)) = (.int (own_at t8 (((5 : Int32) - (0 : Int32))).toNatClampNeg))) (hc55 : (nar .char (nar .char (((own_at t8 (((5 : Int32) - (0 : Int32))).toNatClampNeg) &&& (255 : Int32)).toUInt32.toUInt16.toUInt32.toInt32))) = (((48 : Int32) + ((x1 / (1 : Int32)) % (10 : Int32))).toUInt32.toUInt16.toUInt32.toInt32)) (hc57 : ((5 : Int32) - (1 : Int32)) < (((1 : Int32) + (SBG.strSizeOf x1)) - (0 : Int32))) (hc58 : t8.getD (((5 : Int32) - (1 : Int32))).toNatClampNeg (.int (0 : Int32)) = (.int (own_at t8 (((5 : Int32) - (1 : Int32))).toNatClampNeg))) (hc59 : (nar .char (nar .char (((own_at t8 (((5 : Int32) - (1 : Int32))).toNatClampNeg) &&& (255 : Int32)).toUInt32.toUInt16.toUInt32.toInt32))) = (((48 : Int32) + ((x1 / (10 : Int32)) % (10 : Int32))).toUInt32.toUInt16.toUInt32.toInt32)) (hc61 : ((5 : Int32) - (2 : Int32)) < (((1 : Int32) + (SBG.strSizeOf x1)) - (0 : Int32))) (hc62 : t8.getD (((5 : Int32) - (2 : Int32))).toNatClampNeg (.int (0 : Int32)) = (.int (own_at t8 (((5 : Int32) - (2 : Int32))).toNatClampNeg))) (hc63 : (nar .char (nar .char (((own_at t8 (((5 : Int32) - (2 : Int32))).toNatClampNeg) &&& (255 : Int32)).toUInt32.toUInt16.toUInt32.toInt32))) = (((48 : Int32) + ((x1 / (100 : Int32)) % (10 : Int32))).toUInt32.toUInt16.toUInt32.toInt32)) (hc65 : ((5 : Int32) - (3 : Int32)) < (((1 : Int32) + (SBG.strSizeOf x1)) - (0 : Int32))) (hc66 : t8.getD (((5 : Int32) - (3 : Int32))).toNatClampNeg (.int (0 : Int32)) = (.int (own_at t8 (((5 : Int32) - (3 : Int32))).toNatClampNeg))) (hc67 : (nar .char (nar .char (((own_at t8 (((5 : Int32) - (3 : Int32))).toNatClampNeg) &&& (255 : Int32)).toUInt32.toUInt16.toUInt32.toInt32))) = (((48 : Int32) + ((x1 / (1000 : Int32)) % (10 : Int32))).toUInt32.toUInt16.toUInt32.toInt32)) (hc69 : ((5 : Int32) - (4 : Int32)) < (((1 : Int32) + (SBG.strSizeOf x1)) - (0 : Int32))) (hc70 : t8.getD (((5 : Int32) - (4 : Int32))).toNatClampNeg (.int (0 : Int32)) = (.int (own_at t8 (((5 : Int32) - (4 : Int32))).toNatClampNeg))) (hc71 : (nar .char (nar .char (((own_at t8 (((5 : Int32) - (4 : Int32))).toNatClampNeg) &&& (255 : Int32)).toUInt32.toUInt16.toUInt32.toInt32))) = (((48 : Int32) + ((x1 / (10000 : Int32)) % (10 : Int32))).toUInt32.toUInt16.toUInt32.toInt32)) :
    MetFree l x (head1 (Jvm.Cond.code x code maxLocals ret :: ws) room_1) (fun a U => a = #[(.int x0)] ∧ Z.Warmed39 U.vm ∧ U.heap = h0 ∧ CHv Z consts_1 U.vm h0) (fun _ _ _ _ _ => True) (fun _ U o U' => ∃ v L, o = .returned v ∧ Q0_5 Z x0 x1 x2 r3 r4 d5 r6 d7 t8 u9 h0 n0 v U'.heap L ∧ CHr Z consts_1 U.vm U.heap U'.vm U'.heap ∧ ReturnedEndW U o U' L room_1.cells room_1.slots) := by
  refine MetFree.of_bodySF (plainFor_of_name pn_com_example_manojo_manojo_ParameterPositionalPinLaw) hisR ?_
  intro p e s m args below meth c s₁ Bd hml0 hP hK
  obtain ⟨rfl, hZ, hh, hC⟩ := hP
  have hx := Bd.exec
  have hby := Bd.bytes
  have hml : c.maxLocals = 4 := hml0
  have hown : s.vm.findClass cs9 = some m.cls := findClass_of_methodNamed Bd.named
  have hnm := (name_of_methodNamed Bd.named Bd.method).1
  have X0 : Stand p l e room_1 s m #[(.int x0)] below meth c s₁ [] 0 0 := Stand.of_body Bd
  have e0 : s₁.heap = h0 := by rw [← hh, Bd.state]; rfl
  have N0 := Fr.nil n0
  have pre0 : ∀ t, Steps p.tables e below (s₁.setTop (mkF m 0 #[.val (.int x0), .unset, .unset, .unset] [])) t → Steps p.tables e below (s₁.setTop (entryFrame m #[(.int x0)] maxLocals)) t := fun t k => castTop (by first | (simp [entryFrame, mkF, argsToLocals, Value.category, maxLocals]; done) | rfl) k
  have hEL : EW Z a0 consts_1 := own_EW hw
  have R0 := CHr.refl hC
  have hS15 := (State.WarmedH.refl s).since 0
  obtain ⟨_, _, ⟨T16, L16, k16, n16⟩, -, X16, hs16, hg16, ⟨Lc16, hQ16, l16, y16, z16, cr16⟩, st16⟩ := callSS X0 hx (y := (⟨cs7, "positional", cs8⟩ : MethodName)) hown (mvT hZ (ww hw 1 rfl)) (mvT hZ (ww hw 2 rfl)) (mvT hZ (ww hw 3 rfl)) (mvT hZ (ww hw 4 rfl)) (by decide) (backOfSH (s := s) (vm0 := s.vm) (W := 0) (rm1_1 l Z a0 hw [] x1 x2 r3 r4 d5 r6 d7 h0 n0 O0 f2 hc3 hc4 f5 hc6 hc7 hc8 hc9 hc10 hc11 hc12 hc13 hc14) hZ (ww hw 4 rfl) (ww hw 3 rfl) (by decide) (by decide) hEL R0.1) (g := (mkF m 11 #[.val (.int x0), .val (.int x1), .unset, .unset] [(.int x1)])) rfl (by rw [hml]; rfl) (argsL := [(.int x1)]) (rest := []) (lenOf pd__I_Lcom_example_manojo_manojo_QueryTree_Parameter_ rfl) rfl (by show 2 * 0 + _ ≤ _; exact Nat.le_of_eq rfl) (hb hby at_11) (fun _ _ => ⟨rfl, e0, (by decide : 0 + 7 ≤ _), (by decide : 0 + 65 ≤ _)⟩)
  dsimp only [Pt.U, Pt.locs, Pt.cells, Pt.slots] at X16 l16 y16 z16 st16 hQ16 hs16 hg16 cr16
  subst l16 y16 z16
  obtain ⟨X16, hS16, hZ16, ho16⟩ := rebS (s := s) (vm0 := s.vm) hS15 (by rw [e0]; exact (Nat.zero_le _)) X16 hs16 hg16 hZ hown
  obtain ⟨b16_0, b16_1, b16_2, k16_0, rfl, N16q, K16, f17, f18, f19, f20, f21, f22, f23, f24, f25, f26, f27, f28, f29⟩ := hQ16
  have N16 := Fr.app N0 N16q
  have R30 := CHr.trans R0 cr16
  have f32 : Arv Z T16.heap b16_2 k16_0 .byte (((1 : Int32) + (SBG.strSizeOf x1)) - (0 : Int32)) t8 (.int (0 : Int32)) := by rw [← hq31]; exact f25
  have o33 := Old.keep O0 K16 all0
  obtain ⟨cqq35, kqq35, qq35a, qq35b, qq35c⟩ := isOf hZ16 rfl f18
  obtain ⟨_, _, ⟨T34, L34, k34, n34⟩, -, X34, ⟨Lc34, hQ34, l34, y34, z34⟩, st34⟩ := X16.virtualBack hx (y := (⟨cs7, "name", "()Ljava/lang/String;"⟩ : MethodName)) (z := (⟨cs7, "name", "()Ljava/lang/String;"⟩ : MethodName)) ho16 (mvT hZ16 (ww hw 161 rfl)) (mvT hZ16 (ww hw 162 rfl)) (notFace_of_selects (args := #[]) (mvT hZ16 (ww hw 164 rfl))) (mvT hZ16 (ww hw 164 rfl)) (mvT hZ16 (ww hw 163 rfl)) (by decide) (backOf (W := 0) (rm30_1 l Z a0 hw [] b16_0 b16_1 T16.heap n0 o33 f19) hZ16 (ww hw 165 rfl) (ww hw 3 rfl) (by decide) (by decide)) qq35a qq35c (g := (mkF m 14 #[.val (.int x0), .val (.int x1), .unset, .unset] [(.ref b16_0)])) rfl (by rw [hml]; rfl) (Steps.refl _) (argsL := []) (rest := []) (lenOf pd___Ljava_lang_String_ rfl) rfl (by show 2 * 0 + _ ≤ _; exact Nat.le_of_eq rfl) (hb hby at_14) (fun _ _ => ⟨rfl, rfl, (by decide : 7 + 0 ≤ _), (by decide : 65 + 0 ≤ _)⟩)
  dsimp only [Pt.U, Pt.locs, Pt.cells, Pt.slots] at X34 l34 y34 z34 st34 hQ34
  subst l34 y34 z34
  obtain ⟨rfl, N34q, E34⟩ := hQ34
  have N34 := Fr.app N16 N34q
  obtain ⟨_, _, ⟨T42, L42, k42, n42⟩, -, X42, ⟨Lc42, hQ42, l42, y42, z42⟩, st42⟩ := Jvm.LawKit.callS X34 hx (y := (⟨cs9, "digits", "(I)I"⟩ : MethodName)) ho16 (mvT hZ16 (ww hw 166 rfl)) (mvT hZ16 (ww hw 167 rfl)) (mvT hZ16 (ww hw 168 rfl)) (mvT hZ16 (ww hw 169 rfl)) (by decide) (backOf (W := 0) (rm31_5 l Z a0 hw [] x1 T16.heap n0 o33 hc36 hc37 hc38 hc39 hc40 hc41) hZ16 (ww hw 169 rfl) (ww hw 168 rfl) (by decide) (by decide)) (g := (mkF m 19 #[.val (.int x0), .val (.int x1), .val (.ref b16_1), .unset] [(.int x1)])) rfl (by rw [hml]; rfl) (argsL := [(.int x1)]) (rest := []) (lenOf pd__I_I rfl) rfl (by show 2 * 0 + _ ≤ _; exact Nat.le_of_eq rfl) (hb hby at_19) (fun _ _ => ⟨rfl, E34, (by decide : 7 + 0 ≤ _), (by decide : 65 + 0 ≤ _)⟩)
  dsimp only [Pt.U, Pt.locs, Pt.cells, Pt.slots] at X42 l42 y42 z42 st42 hQ42
  subst l42 y42 z42
  obtain ⟨rfl, N42q, E42⟩ := hQ42
  have N42 := Fr.app N34 N42q
  obtain ⟨cqq44, kqq44, qq44a, qq44b, qq44c⟩ := isOf hZ16 E42 f21
  obtain ⟨_, _, ⟨T43, L43, k43, n43⟩, -, X43, ⟨Lc43, hQ43, l43, y43, z43⟩, st43⟩ := X42.virtualBack hx (y := (⟨"java/lang/String", "length", "()I"⟩ : MethodName)) (z := (⟨"java/lang/String", "length", "()I"⟩ : MethodName)) ho16 (mvT hZ16 (ww hw 175 rfl)) (mvT hZ16 (ww hw 46 rfl)) (notFace_of_selects (args := #[]) (mvT hZ16 (ww hw 48 rfl))) (mvT hZ16 (ww hw 48 rfl)) (mvT hZ16 (ww hw 47 rfl)) (by decide) (backOf (W := 0) (rm7_1 l Z a0 hw [] b16_1 b16_2 (((1 : Int32) + (SBG.strSizeOf x1)) - (0 : Int32)) k16_0 t8 x2 (0 : Int32) T16.heap n0 o33 f23 f32 f21 f2 hc3 f22) hZ16 (ww hw 49 rfl) (ww hw 23 rfl) (by decide) (by decide)) qq44a qq44c (g := (mkF m 24 #[.val (.int x0), .val (.int x1), .val (.ref b16_1), .val (.int (5 : Int32))] [(.ref b16_1)])) rfl (by rw [hml]; rfl) (Steps.refl _) (argsL := []) (rest := []) (lenOf pd___I rfl) rfl (by show 2 * 0 + _ ≤ _; exact Nat.le_of_eq rfl) (hb hby at_24) (fun _ _ => ⟨rfl, E42, (by decide : 7 + 0 ≤ _), (by decide : 65 + 0 ≤ _)⟩)
  dsimp only [Pt.U, Pt.locs, Pt.cells, Pt.slots] at X43 l43 y43 z43 st43 hQ43
  subst l43 y43 z43
  obtain ⟨rfl, N43q, E43⟩ := hQ43
  have N43 := Fr.app N42 N43q
  obtain ⟨cqq51, kqq51, qq51a, qq51b, qq51c⟩ := isOf hZ16 E43 f21
  obtain ⟨_, _, ⟨T50, L50, k50, n50⟩, -, X50, ⟨Lc50, hQ50, l50, y50, z50⟩, st50⟩ := X43.virtualBack hx (y := (⟨"java/lang/String", "charAt", "(I)C"⟩ : MethodName)) (z := (⟨"java/lang/String", "charAt", "(I)C"⟩ : MethodName)) ho16 (mvT hZ16 (ww hw 176 rfl)) (mvT hZ16 (ww hw 177 rfl)) (notFace_of_selects (args := #[]) (mvT hZ16 (ww hw 179 rfl))) (mvT hZ16 (ww hw 179 rfl)) (mvT hZ16 (ww hw 178 rfl)) (by decide) (backOf (W := 0) (rm32_1 l Z a0 hw [] b16_1 (0 : Int32) x2 (0 : Int32) b16_2 (((1 : Int32) + (SBG.strSizeOf x1)) - (0 : Int32)) k16_0 t8 u9 (own_at t8 ((0 : Int32)).toNatClampNeg) T16.heap n0 o33 f21 f2 hc3 f22 (by decide : (0 : Int32) = (0 : Int32)) f23 f32 f46 hc47 (by decide : ¬ ((0 : Int32) < (0 : Int32))) hc48 hc49) hZ16 (ww hw 180 rfl) (ww hw 23 rfl) (by decide) (by decide)) qq51a qq51c (g := (mkF m 37 #[.val (.int x0), .val (.int x1), .val (.ref b16_1), .val (.int (5 : Int32))] [(.int (0 : Int32)), (.ref b16_1)])) rfl (by rw [hml]; rfl) (Steps.refl _) (argsL := [(.int (0 : Int32))]) (rest := []) (lenOf pd__I_C rfl) rfl (by show 2 * 0 + _ ≤ _; exact Nat.le_of_eq rfl) (hb hby at_37) (fun _ _ => ⟨rfl, E43, (by decide : 7 + 0 ≤ _), (by decide : 65 + 0 ≤ _)⟩)
  dsimp only [Pt.U, Pt.locs, Pt.cells, Pt.slots] at X50 l50 y50 z50 st50 hQ50
  subst l50 y50 z50
  obtain ⟨rfl, N50q, E50⟩ := hQ50
  have N50 := Fr.app N43 N50q
  obtain ⟨_, _, ⟨T56, L56, k56, n56⟩, -, X56, ⟨Lc56, hQ56, l56, y56, z56⟩, st56⟩ := Jvm.LawKit.callS X50 hx (y := (⟨cs9, "at", cs13⟩ : MethodName)) ho16 (mvT hZ16 (ww hw 198 rfl)) (mvT hZ16 (ww hw 199 rfl)) (mvT hZ16 (ww hw 168 rfl)) (mvT hZ16 (ww hw 200 rfl)) (by decide) (backOf (W := 0) (rm37_1 l Z a0 hw [] b16_1 (5 : Int32) x1 (0 : Int32) (1 : Int32) x2 (0 : Int32) b16_2 (((1 : Int32) + (SBG.strSizeOf x1)) - (0 : Int32)) k16_0 t8 u9 (own_at t8 (((5 : Int32) - (0 : Int32))).toNatClampNeg) T16.heap n0 o33 (by decide : (0 : Int32) < (5 : Int32)) f21 f2 hc3 f22 (by decide : (0 : Int32) = (0 : Int32)) f23 f32 f46 hc47 (by decide : ¬ (((5 : Int32) - (0 : Int32)) < (0 : Int32))) hc53 hc54 (by decide : ¬ ((1 : Int32) = (0 : Int32))) hc55) hZ16 (ww hw 200 rfl) (ww hw 168 rfl) (by decide) (by decide)) (g := (mkF m 52 #[.val (.int x0), .val (.int x1), .val (.ref b16_1), .val (.int (5 : Int32))] [(.int (1 : Int32)), (.int (0 : Int32)), (.int x1), (.int (5 : Int32)), (.ref b16_1)])) rfl (by rw [hml]; rfl) (argsL := [(.ref b16_1), (.int (5 : Int32)), (.int x1), (.int (0 : Int32)), (.int (1 : Int32))]) (rest := []) (lenOf pd__Ljava_lang_String_IIII_Z rfl) rfl (by show 2 * 0 + _ ≤ _; exact Nat.le_of_eq rfl) (hb hby at_52) (fun _ _ => ⟨rfl, E50, (by decide : 7 + 0 ≤ _), (by decide : 65 + 0 ≤ _)⟩)
  dsimp only [Pt.U, Pt.locs, Pt.cells, Pt.slots] at X56 l56 y56 z56 st56 hQ56
  subst l56 y56 z56
  obtain ⟨rfl, N56q, E56⟩ := hQ56
  have N56 := Fr.app N50 N56q
  obtain ⟨_, _, ⟨T60, L60, k60, n60⟩, -, X60, ⟨Lc60, hQ60, l60, y60, z60⟩, st60⟩ := Jvm.LawKit.callS X56 hx (y := (⟨cs9, "at", cs13⟩ : MethodName)) ho16 (mvT hZ16 (ww hw 198 rfl)) (mvT hZ16 (ww hw 199 rfl)) (mvT hZ16 (ww hw 168 rfl)) (mvT hZ16 (ww hw 200 rfl)) (by decide) (backOf (W := 0) (rm37_1 l Z a0 hw [] b16_1 (5 : Int32) x1 (1 : Int32) (10 : Int32) x2 (0 : Int32) b16_2 (((1 : Int32) + (SBG.strSizeOf x1)) - (0 : Int32)) k16_0 t8 u9 (own_at t8 (((5 : Int32) - (1 : Int32))).toNatClampNeg) T16.heap n0 o33 (by decide : (1 : Int32) < (5 : Int32)) f21 f2 hc3 f22 (by decide : (0 : Int32) = (0 : Int32)) f23 f32 f46 hc47 (by decide : ¬ (((5 : Int32) - (1 : Int32)) < (0 : Int32))) hc57 hc58 (by decide : ¬ ((10 : Int32) = (0 : Int32))) hc59) hZ16 (ww hw 200 rfl) (ww hw 168 rfl) (by decide) (by decide)) (g := (mkF m 64 #[.val (.int x0), .val (.int x1), .val (.ref b16_1), .val (.int (5 : Int32))] [(.int (10 : Int32)), (.int (1 : Int32)), (.int x1), (.int (5 : Int32)), (.ref b16_1)])) rfl (by rw [hml]; rfl) (argsL := [(.ref b16_1), (.int (5 : Int32)), (.int x1), (.int (1 : Int32)), (.int (10 : Int32))]) (rest := []) (lenOf pd__Ljava_lang_String_IIII_Z rfl) rfl (by show 2 * 0 + _ ≤ _; exact Nat.le_of_eq rfl) (hb hby at_64) (fun _ _ => ⟨rfl, E56, (by decide : 7 + 0 ≤ _), (by decide : 65 + 0 ≤ _)⟩)
  dsimp only [Pt.U, Pt.locs, Pt.cells, Pt.slots] at X60 l60 y60 z60 st60 hQ60
  subst l60 y60 z60
  obtain ⟨rfl, N60q, E60⟩ := hQ60
  have N60 := Fr.app N56 N60q
  obtain ⟨_, _, ⟨T64, L64, k64, n64⟩, -, X64, ⟨Lc64, hQ64, l64, y64, z64⟩, st64⟩ := Jvm.LawKit.callS X60 hx (y := (⟨cs9, "at", cs13⟩ : MethodName)) ho16 (mvT hZ16 (ww hw 198 rfl)) (mvT hZ16 (ww hw 199 rfl)) (mvT hZ16 (ww hw 168 rfl)) (mvT hZ16 (ww hw 200 rfl)) (by decide) (backOf (W := 0) (rm37_1 l Z a0 hw [] b16_1 (5 : Int32) x1 (2 : Int32) (100 : Int32) x2 (0 : Int32) b16_2 (((1 : Int32) + (SBG.strSizeOf x1)) - (0 : Int32)) k16_0 t8 u9 (own_at t8 (((5 : Int32) - (2 : Int32))).toNatClampNeg) T16.heap n0 o33 (by decide : (2 : Int32) < (5 : Int32)) f21 f2 hc3 f22 (by decide : (0 : Int32) = (0 : Int32)) f23 f32 f46 hc47 (by decide : ¬ (((5 : Int32) - (2 : Int32)) < (0 : Int32))) hc61 hc62 (by decide : ¬ ((100 : Int32) = (0 : Int32))) hc63) hZ16 (ww hw 200 rfl) (ww hw 168 rfl) (by decide) (by decide)) (g := (mkF m 76 #[.val (.int x0), .val (.int x1), .val (.ref b16_1), .val (.int (5 : Int32))] [(.int (100 : Int32)), (.int (2 : Int32)), (.int x1), (.int (5 : Int32)), (.ref b16_1)])) rfl (by rw [hml]; rfl) (argsL := [(.ref b16_1), (.int (5 : Int32)), (.int x1), (.int (2 : Int32)), (.int (100 : Int32))]) (rest := []) (lenOf pd__Ljava_lang_String_IIII_Z rfl) rfl (by show 2 * 0 + _ ≤ _; exact Nat.le_of_eq rfl) (hb hby at_76) (fun _ _ => ⟨rfl, E60, (by decide : 7 + 0 ≤ _), (by decide : 65 + 0 ≤ _)⟩)
  dsimp only [Pt.U, Pt.locs, Pt.cells, Pt.slots] at X64 l64 y64 z64 st64 hQ64
  subst l64 y64 z64
  obtain ⟨rfl, N64q, E64⟩ := hQ64
  have N64 := Fr.app N60 N64q
  obtain ⟨_, _, ⟨T68, L68, k68, n68⟩, -, X68, ⟨Lc68, hQ68, l68, y68, z68⟩, st68⟩ := Jvm.LawKit.callS X64 hx (y := (⟨cs9, "at", cs13⟩ : MethodName)) ho16 (mvT hZ16 (ww hw 198 rfl)) (mvT hZ16 (ww hw 199 rfl)) (mvT hZ16 (ww hw 168 rfl)) (mvT hZ16 (ww hw 200 rfl)) (by decide) (backOf (W := 0) (rm37_1 l Z a0 hw [] b16_1 (5 : Int32) x1 (3 : Int32) (1000 : Int32) x2 (0 : Int32) b16_2 (((1 : Int32) + (SBG.strSizeOf x1)) - (0 : Int32)) k16_0 t8 u9 (own_at t8 (((5 : Int32) - (3 : Int32))).toNatClampNeg) T16.heap n0 o33 (by decide : (3 : Int32) < (5 : Int32)) f21 f2 hc3 f22 (by decide : (0 : Int32) = (0 : Int32)) f23 f32 f46 hc47 (by decide : ¬ (((5 : Int32) - (3 : Int32)) < (0 : Int32))) hc65 hc66 (by decide : ¬ ((1000 : Int32) = (0 : Int32))) hc67) hZ16 (ww hw 200 rfl) (ww hw 168 rfl) (by decide) (by decide)) (g := (mkF m 89 #[.val (.int x0), .val (.int x1), .val (.ref b16_1), .val (.int (5 : Int32))] [(.int (1000 : Int32)), (.int (3 : Int32)), (.int x1), (.int (5 : Int32)), (.ref b16_1)])) rfl (by rw [hml]; rfl) (argsL := [(.ref b16_1), (.int (5 : Int32)), (.int x1), (.int (3 : Int32)), (.int (1000 : Int32))]) (rest := []) (lenOf pd__Ljava_lang_String_IIII_Z rfl) rfl (by show 2 * 0 + _ ≤ _; exact Nat.le_of_eq rfl) (hb hby at_89) (fun _ _ => ⟨rfl, E64, (by decide : 7 + 0 ≤ _), (by decide : 65 + 0 ≤ _)⟩)
  dsimp only [Pt.U, Pt.locs, Pt.cells, Pt.slots] at X68 l68 y68 z68 st68 hQ68
  subst l68 y68 z68
  obtain ⟨rfl, N68q, E68⟩ := hQ68
  have N68 := Fr.app N64 N68q
  obtain ⟨_, _, ⟨T72, L72, k72, n72⟩, -, X72, ⟨Lc72, hQ72, l72, y72, z72⟩, st72⟩ := Jvm.LawKit.callS X68 hx (y := (⟨cs9, "at", cs13⟩ : MethodName)) ho16 (mvT hZ16 (ww hw 198 rfl)) (mvT hZ16 (ww hw 199 rfl)) (mvT hZ16 (ww hw 168 rfl)) (mvT hZ16 (ww hw 200 rfl)) (by decide) (backOf (W := 0) (rm37_1 l Z a0 hw [] b16_1 (5 : Int32) x1 (4 : Int32) (10000 : Int32) x2 (0 : Int32) b16_2 (((1 : Int32) + (SBG.strSizeOf x1)) - (0 : Int32)) k16_0 t8 u9 (own_at t8 (((5 : Int32) - (4 : Int32))).toNatClampNeg) T16.heap n0 o33 (by decide : (4 : Int32) < (5 : Int32)) f21 f2 hc3 f22 (by decide : (0 : Int32) = (0 : Int32)) f23 f32 f46 hc47 (by decide : ¬ (((5 : Int32) - (4 : Int32)) < (0 : Int32))) hc69 hc70 (by decide : ¬ ((10000 : Int32) = (0 : Int32))) hc71) hZ16 (ww hw 200 rfl) (ww hw 168 rfl) (by decide) (by decide)) (g := (mkF m 102 #[.val (.int x0), .val (.int x1), .val (.ref b16_1), .val (.int (5 : Int32))] [(.int (10000 : Int32)), (.int (4 : Int32)), (.int x1), (.int (5 : Int32)), (.ref b16_1)])) rfl (by rw [hml]; rfl) (argsL := [(.ref b16_1), (.int (5 : Int32)), (.int x1), (.int (4 : Int32)), (.int (10000 : Int32))]) (rest := []) (lenOf pd__Ljava_lang_String_IIII_Z rfl) rfl (by show 2 * 0 + _ ≤ _; exact Nat.le_of_eq rfl) (hb hby at_102) (fun _ _ => ⟨rfl, E68, (by decide : 7 + 0 ≤ _), (by decide : 65 + 0 ≤ _)⟩)
  dsimp only [Pt.U, Pt.locs, Pt.cells, Pt.slots] at X72 l72 y72 z72 st72 hQ72
  subst l72 y72 z72
  obtain ⟨rfl, N72q, E72⟩ := hQ72
  have N72 := Fr.app N68 N72q
  obtain ⟨_, _, ⟨T73, L73, k73, n73⟩, -, X73, ⟨Lc73, hQ73, l73, y73, z73⟩, st73⟩ := Jvm.LawKit.callS X72 hx (y := (⟨cs9, "at", cs13⟩ : MethodName)) ho16 (mvT hZ16 (ww hw 198 rfl)) (mvT hZ16 (ww hw 199 rfl)) (mvT hZ16 (ww hw 168 rfl)) (mvT hZ16 (ww hw 200 rfl)) (by decide) (backOf (W := 0) (rm37_2 l Z a0 hw [] b16_1 (5 : Int32) x1 (5 : Int32) (100000 : Int32) T16.heap n0 o33 (by decide : ¬ ((5 : Int32) < (5 : Int32)))) hZ16 (ww hw 200 rfl) (ww hw 168 rfl) (by decide) (by decide)) (g := (mkF m 114 #[.val (.int x0), .val (.int x1), .val (.ref b16_1), .val (.int (5 : Int32))] [(.int (100000 : Int32)), (.int (5 : Int32)), (.int x1), (.int (5 : Int32)), (.ref b16_1)])) rfl (by rw [hml]; rfl) (argsL := [(.ref b16_1), (.int (5 : Int32)), (.int x1), (.int (5 : Int32)), (.int (100000 : Int32))]) (rest := []) (lenOf pd__Ljava_lang_String_IIII_Z rfl) rfl (by show 2 * 0 + _ ≤ _; exact Nat.le_of_eq rfl) (hb hby at_114) (fun _ _ => ⟨rfl, E72, (by decide : 7 + 0 ≤ _), (by decide : 65 + 0 ≤ _)⟩)
  dsimp only [Pt.U, Pt.locs, Pt.cells, Pt.slots] at X73 l73 y73 z73 st73 hQ73
  subst l73 y73 z73
  obtain ⟨rfl, N73q, E73⟩ := hQ73
  have N73 := Fr.app N72 N73q
  obtain ⟨_, _, ⟨T74, L74, k74, n74⟩, -, X74, ⟨Lc74, hQ74, l74, y74, z74⟩, st74⟩ := Jvm.LawKit.callS X73 hx (y := (⟨cs9, "at", cs13⟩ : MethodName)) ho16 (mvT hZ16 (ww hw 198 rfl)) (mvT hZ16 (ww hw 199 rfl)) (mvT hZ16 (ww hw 168 rfl)) (mvT hZ16 (ww hw 200 rfl)) (by decide) (backOf (W := 0) (rm37_2 l Z a0 hw [] b16_1 (5 : Int32) x1 (6 : Int32) (1000000 : Int32) T16.heap n0 o33 (by decide : ¬ ((6 : Int32) < (5 : Int32)))) hZ16 (ww hw 200 rfl) (ww hw 168 rfl) (by decide) (by decide)) (g := (mkF m 127 #[.val (.int x0), .val (.int x1), .val (.ref b16_1), .val (.int (5 : Int32))] [(.int (1000000 : Int32)), (.int (6 : Int32)), (.int x1), (.int (5 : Int32)), (.ref b16_1)])) rfl (by rw [hml]; rfl) (argsL := [(.ref b16_1), (.int (5 : Int32)), (.int x1), (.int (6 : Int32)), (.int (1000000 : Int32))]) (rest := []) (lenOf pd__Ljava_lang_String_IIII_Z rfl) rfl (by show 2 * 0 + _ ≤ _; exact Nat.le_of_eq rfl) (hb hby at_127) (fun _ _ => ⟨rfl, E73, (by decide : 7 + 0 ≤ _), (by decide : 65 + 0 ≤ _)⟩)
  dsimp only [Pt.U, Pt.locs, Pt.cells, Pt.slots] at X74 l74 y74 z74 st74 hQ74
  subst l74 y74 z74
  obtain ⟨rfl, N74q, E74⟩ := hQ74
  have N74 := Fr.app N73 N74q
  obtain ⟨_, _, ⟨T75, L75, k75, n75⟩, -, X75, ⟨Lc75, hQ75, l75, y75, z75⟩, st75⟩ := Jvm.LawKit.callS X74 hx (y := (⟨cs9, "at", cs13⟩ : MethodName)) ho16 (mvT hZ16 (ww hw 198 rfl)) (mvT hZ16 (ww hw 199 rfl)) (mvT hZ16 (ww hw 168 rfl)) (mvT hZ16 (ww hw 200 rfl)) (by decide) (backOf (W := 0) (rm37_2 l Z a0 hw [] b16_1 (5 : Int32) x1 (7 : Int32) (10000000 : Int32) T16.heap n0 o33 (by decide : ¬ ((7 : Int32) < (5 : Int32)))) hZ16 (ww hw 200 rfl) (ww hw 168 rfl) (by decide) (by decide)) (g := (mkF m 140 #[.val (.int x0), .val (.int x1), .val (.ref b16_1), .val (.int (5 : Int32))] [(.int (10000000 : Int32)), (.int (7 : Int32)), (.int x1), (.int (5 : Int32)), (.ref b16_1)])) rfl (by rw [hml]; rfl) (argsL := [(.ref b16_1), (.int (5 : Int32)), (.int x1), (.int (7 : Int32)), (.int (10000000 : Int32))]) (rest := []) (lenOf pd__Ljava_lang_String_IIII_Z rfl) rfl (by show 2 * 0 + _ ≤ _; exact Nat.le_of_eq rfl) (hb hby at_140) (fun _ _ => ⟨rfl, E74, (by decide : 7 + 0 ≤ _), (by decide : 65 + 0 ≤ _)⟩)
  dsimp only [Pt.U, Pt.locs, Pt.cells, Pt.slots] at X75 l75 y75 z75 st75 hQ75
  subst l75 y75 z75
  obtain ⟨rfl, N75q, E75⟩ := hQ75
  have N75 := Fr.app N74 N75q
  obtain ⟨_, _, ⟨T76, L76, k76, n76⟩, -, X76, ⟨Lc76, hQ76, l76, y76, z76⟩, st76⟩ := Jvm.LawKit.callS X75 hx (y := (⟨cs9, "at", cs13⟩ : MethodName)) ho16 (mvT hZ16 (ww hw 198 rfl)) (mvT hZ16 (ww hw 199 rfl)) (mvT hZ16 (ww hw 168 rfl)) (mvT hZ16 (ww hw 200 rfl)) (by decide) (backOf (W := 0) (rm37_2 l Z a0 hw [] b16_1 (5 : Int32) x1 (8 : Int32) (100000000 : Int32) T16.heap n0 o33 (by decide : ¬ ((8 : Int32) < (5 : Int32)))) hZ16 (ww hw 200 rfl) (ww hw 168 rfl) (by decide) (by decide)) (g := (mkF m 153 #[.val (.int x0), .val (.int x1), .val (.ref b16_1), .val (.int (5 : Int32))] [(.int (100000000 : Int32)), (.int (8 : Int32)), (.int x1), (.int (5 : Int32)), (.ref b16_1)])) rfl (by rw [hml]; rfl) (argsL := [(.ref b16_1), (.int (5 : Int32)), (.int x1), (.int (8 : Int32)), (.int (100000000 : Int32))]) (rest := []) (lenOf pd__Ljava_lang_String_IIII_Z rfl) rfl (by show 2 * 0 + _ ≤ _; exact Nat.le_of_eq rfl) (hb hby at_153) (fun _ _ => ⟨rfl, E75, (by decide : 7 + 0 ≤ _), (by decide : 65 + 0 ≤ _)⟩)
  dsimp only [Pt.U, Pt.locs, Pt.cells, Pt.slots] at X76 l76 y76 z76 st76 hQ76
  subst l76 y76 z76
  obtain ⟨rfl, N76q, E76⟩ := hQ76
  have N76 := Fr.app N75 N76q
  obtain ⟨_, _, ⟨T77, L77, k77, n77⟩, -, X77, ⟨Lc77, hQ77, l77, y77, z77⟩, st77⟩ := Jvm.LawKit.callS X76 hx (y := (⟨cs9, "at", cs13⟩ : MethodName)) ho16 (mvT hZ16 (ww hw 198 rfl)) (mvT hZ16 (ww hw 199 rfl)) (mvT hZ16 (ww hw 168 rfl)) (mvT hZ16 (ww hw 200 rfl)) (by decide) (backOf (W := 0) (rm37_2 l Z a0 hw [] b16_1 (5 : Int32) x1 (9 : Int32) (1000000000 : Int32) T16.heap n0 o33 (by decide : ¬ ((9 : Int32) < (5 : Int32)))) hZ16 (ww hw 200 rfl) (ww hw 168 rfl) (by decide) (by decide)) (g := (mkF m 166 #[.val (.int x0), .val (.int x1), .val (.ref b16_1), .val (.int (5 : Int32))] [(.int (1000000000 : Int32)), (.int (9 : Int32)), (.int x1), (.int (5 : Int32)), (.ref b16_1)])) rfl (by rw [hml]; rfl) (argsL := [(.ref b16_1), (.int (5 : Int32)), (.int x1), (.int (9 : Int32)), (.int (1000000000 : Int32))]) (rest := []) (lenOf pd__Ljava_lang_String_IIII_Z rfl) rfl (by show 2 * 0 + _ ≤ _; exact Nat.le_of_eq rfl) (hb hby at_166) (fun _ _ => ⟨rfl, E76, (by decide : 7 + 0 ≤ _), (by decide : 65 + 0 ≤ _)⟩)
  dsimp only [Pt.U, Pt.locs, Pt.cells, Pt.slots] at X77 l77 y77 z77 st77 hQ77
  subst l77 y77 z77
  obtain ⟨rfl, N77q, E77⟩ := hQ77
  have N77 := Fr.app N76 N77q
  obtain ⟨fs, hr, hrun, hended, hend⟩ := leaveW (s := s) (vm₁ := T16.vm) X77 hS16 (by rw [E77]; exact (Nat.le_refl _)) (v := some (.int (1 : Int32))) (fun h => by rw [Bd.returns] at h; cases h)
  have hCR : CHr Z consts_1 s.vm s.heap T77.vm T77.heap := by rw [hh, E77]; exact CHr.trans R30 (CHv.at (s := s) (vm0 := T16.vm) X77 hZ16 hEL R30.1)
  refine ⟨_, _, pre0 _ ?_, hrun, hended, _, _, rfl, ?_, hCR, hend.1, hend.2.1, hend.2.2.1, hend.2.2.2.mono (by decide) (by decide)⟩
  · show Steps p.tables e below (s₁.setTop (mkF m 0 #[.val (.int x0), .unset, .unset, .unset] [])) _
    refine XS.iconst X0.here hx rfl (hb hby at_0) ?_
    refine XS.iloadN X0.here hx rfl (hb hby at_1) rfl ?_
    refine X0.ldcInt hx hown (mvT hZ (ww hw 0 rfl)) (g := (mkF m 2 #[.val (.int x0), .unset, .unset, .unset] [(.int x0), (.int (1 : Int32))])) rfl (hb hby at_2) _ ?_
    show Steps p.tables e below (s₁.setTop (mkF m 4 #[.val (.int x0), .unset, .unset, .unset] [(.int (2147483647 : Int32)), (.int x0), (.int (1 : Int32))])) _
    refine XS.iand X0.here hx rfl (hb hby at_4) rfl ?_
    refine X0.ldcInt hx hown (mvT hZ (ww hw 0 rfl)) (g := (mkF m 5 #[.val (.int x0), .unset, .unset, .unset] [(.int (x0 &&& (2147483647 : Int32))), (.int (1 : Int32))])) rfl (hb hby at_5) _ ?_
    show Steps p.tables e below (s₁.setTop (mkF m 7 #[.val (.int x0), .unset, .unset, .unset] [(.int (2147483647 : Int32)), (.int (x0 &&& (2147483647 : Int32))), (.int (1 : Int32))])) _
    refine iremM (g := (mkF m 7 #[.val (.int x0), .unset, .unset, .unset] [(.int (2147483647 : Int32)), (.int (x0 &&& (2147483647 : Int32))), (.int (1 : Int32))])) X0 hx rfl (hb hby at_7) rfl (by decide : ¬ ((2147483647 : Int32) = (0 : Int32))) ?_
    show Steps p.tables e below (s₁.setTop (mkF m 8 #[.val (.int x0), .unset, .unset, .unset] [(.int ((x0 &&& (2147483647 : Int32)) % (2147483647 : Int32))), (.int (1 : Int32))])) _
    refine XS.iadd X0.here hx rfl (hb hby at_8) rfl ?_
    show Steps p.tables e below (s₁.setTop (mkF m 9 #[.val (.int x0), .unset, .unset, .unset] [(.int ((1 : Int32) + ((x0 &&& (2147483647 : Int32)) % (2147483647 : Int32))))])) _
    rw [hq1]
    show Steps p.tables e below (s₁.setTop (mkF m 9 #[.val (.int x0), .unset, .unset, .unset] [(.int x1)])) _
    refine XS.istoreN X0.here hx rfl (hb hby at_9) rfl (l' := #[.val (.int x0), .val (.int x1), .unset, .unset]) rfl ?_
    refine XS.iloadN X0.here hx rfl (hb hby at_10) rfl ?_
    refine st16.trans ?_
    show Steps p.tables e below (T16.setTop (mkF m 14 #[.val (.int x0), .val (.int x1), .unset, .unset] [(.ref b16_0)])) _
    refine st34.trans ?_
    show Steps p.tables e below (T34.setTop (mkF m 17 #[.val (.int x0), .val (.int x1), .unset, .unset] [(.ref b16_1)])) _
    refine XS.astoreN X34.here hx rfl (hb hby at_17) rfl rfl (l' := #[.val (.int x0), .val (.int x1), .val (.ref b16_1), .unset]) rfl ?_
    refine XS.iloadN X34.here hx rfl (hb hby at_18) rfl ?_
    refine st42 _ ?_
    show Steps p.tables e below (T42.setTop (mkF m 22 #[.val (.int x0), .val (.int x1), .val (.ref b16_1), .unset] [(.int (5 : Int32))])) _
    refine XS.istoreN X42.here hx rfl (hb hby at_22) rfl (l' := #[.val (.int x0), .val (.int x1), .val (.ref b16_1), .val (.int (5 : Int32))]) rfl ?_
    refine XS.aloadN X42.here hx rfl (hb hby at_23) rfl rfl ?_
    refine st43.trans ?_
    show Steps p.tables e below (T43.setTop (mkF m 27 #[.val (.int x0), .val (.int x1), .val (.ref b16_1), .val (.int (5 : Int32))] [(.int ((((1 : Int32) + (SBG.strSizeOf x1)) - (0 : Int32)) >>> ((nar .byte (0 : Int32)) &&& 31)))])) _
    refine XS.iloadN X43.here hx rfl (hb hby at_27) rfl ?_
    refine XS.iconst X43.here hx rfl (hb hby at_28) ?_
    refine XS.iadd X43.here hx rfl (hb hby at_29) rfl ?_
    refine XS.icmpYes X43.here hx rfl (pc0 := 30) (pc' := 35) rfl (hb hby at_30) rfl (teq hc45).1 (by decide) (by decide) ?_
    show Steps p.tables e below (T43.setTop (mkF m 35 #[.val (.int x0), .val (.int x1), .val (.ref b16_1), .val (.int (5 : Int32))] [])) _
    refine XS.aloadN X43.here hx rfl (hb hby at_35) rfl rfl ?_
    refine XS.iconst X43.here hx rfl (hb hby at_36) ?_
    refine st50.trans ?_
    show Steps p.tables e below (T50.setTop (mkF m 40 #[.val (.int x0), .val (.int x1), .val (.ref b16_1), .val (.int (5 : Int32))] [(.int (nar .char (nar .char (((own_at t8 ((0 : Int32)).toNatClampNeg) &&& (255 : Int32)).toUInt32.toUInt16.toUInt32.toInt32))))])) _
    refine XS.bipush X50.here hx rfl (hb hby at_40) ?_
    refine XS.icmpYes X50.here hx rfl (pc0 := 42) (pc' := 47) rfl (hb hby at_42) rfl (teq hc52).1 (by decide) (by decide) ?_
    show Steps p.tables e below (T50.setTop (mkF m 47 #[.val (.int x0), .val (.int x1), .val (.ref b16_1), .val (.int (5 : Int32))] [])) _
    refine XS.aloadN X50.here hx rfl (hb hby at_47) rfl rfl ?_
    refine XS.iloadN X50.here hx rfl (hb hby at_48) rfl ?_
    refine XS.iloadN X50.here hx rfl (hb hby at_49) rfl ?_
    refine XS.iconst X50.here hx rfl (hb hby at_50) ?_
    show Steps p.tables e below (T50.setTop (mkF m 51 #[.val (.int x0), .val (.int x1), .val (.ref b16_1), .val (.int (5 : Int32))] [(.int (0 : Int32)), (.int x1), (.int (5 : Int32)), (.ref b16_1)])) _
    refine XS.iconst X50.here hx rfl (hb hby at_51) ?_
    refine st56 _ ?_
    show Steps p.tables e below (T56.setTop (mkF m 55 #[.val (.int x0), .val (.int x1), .val (.ref b16_1), .val (.int (5 : Int32))] [(.int (1 : Int32))])) _
    refine XS.ifNo X56.here hx rfl (hb hby at_55) rfl ((if0 _ _).trans (feq (by decide : ¬ ((1 : Int32) = (0 : Int32)))).1) ?_
    refine XS.aloadN X56.here hx rfl (hb hby at_58) rfl rfl ?_
    refine XS.iloadN X56.here hx rfl (hb hby at_59) rfl ?_
    refine XS.iloadN X56.here hx rfl (hb hby at_60) rfl ?_
    show Steps p.tables e below (T56.setTop (mkF m 61 #[.val (.int x0), .val (.int x1), .val (.ref b16_1), .val (.int (5 : Int32))] [(.int x1), (.int (5 : Int32)), (.ref b16_1)])) _
    refine XS.iconst X56.here hx rfl (hb hby at_61) ?_
    refine XS.bipush X56.here hx rfl (hb hby at_62) ?_
    refine st60 _ ?_
    show Steps p.tables e below (T60.setTop (mkF m 67 #[.val (.int x0), .val (.int x1), .val (.ref b16_1), .val (.int (5 : Int32))] [(.int (1 : Int32))])) _
    refine XS.ifNo X60.here hx rfl (hb hby at_67) rfl ((if0 _ _).trans (feq (by decide : ¬ ((1 : Int32) = (0 : Int32)))).1) ?_
    refine XS.aloadN X60.here hx rfl (hb hby at_70) rfl rfl ?_
    refine XS.iloadN X60.here hx rfl (hb hby at_71) rfl ?_
    refine XS.iloadN X60.here hx rfl (hb hby at_72) rfl ?_
    show Steps p.tables e below (T60.setTop (mkF m 73 #[.val (.int x0), .val (.int x1), .val (.ref b16_1), .val (.int (5 : Int32))] [(.int x1), (.int (5 : Int32)), (.ref b16_1)])) _
    refine XS.iconst X60.here hx rfl (hb hby at_73) ?_
    refine XS.bipush X60.here hx rfl (hb hby at_74) ?_
    refine st64 _ ?_
    show Steps p.tables e below (T64.setTop (mkF m 79 #[.val (.int x0), .val (.int x1), .val (.ref b16_1), .val (.int (5 : Int32))] [(.int (1 : Int32))])) _
    refine XS.ifNo X64.here hx rfl (hb hby at_79) rfl ((if0 _ _).trans (feq (by decide : ¬ ((1 : Int32) = (0 : Int32)))).1) ?_
    refine XS.aloadN X64.here hx rfl (hb hby at_82) rfl rfl ?_
    refine XS.iloadN X64.here hx rfl (hb hby at_83) rfl ?_
    refine XS.iloadN X64.here hx rfl (hb hby at_84) rfl ?_
    show Steps p.tables e below (T64.setTop (mkF m 85 #[.val (.int x0), .val (.int x1), .val (.ref b16_1), .val (.int (5 : Int32))] [(.int x1), (.int (5 : Int32)), (.ref b16_1)])) _
    refine XS.iconst X64.here hx rfl (hb hby at_85) ?_
    refine XS.sipush X64.here hx rfl (hb hby at_86) ?_
    refine st68 _ ?_
    show Steps p.tables e below (T68.setTop (mkF m 92 #[.val (.int x0), .val (.int x1), .val (.ref b16_1), .val (.int (5 : Int32))] [(.int (1 : Int32))])) _
    refine XS.ifNo X68.here hx rfl (hb hby at_92) rfl ((if0 _ _).trans (feq (by decide : ¬ ((1 : Int32) = (0 : Int32)))).1) ?_
    refine XS.aloadN X68.here hx rfl (hb hby at_95) rfl rfl ?_
    refine XS.iloadN X68.here hx rfl (hb hby at_96) rfl ?_
    refine XS.iloadN X68.here hx rfl (hb hby at_97) rfl ?_
    show Steps p.tables e below (T68.setTop (mkF m 98 #[.val (.int x0), .val (.int x1), .val (.ref b16_1), .val (.int (5 : Int32))] [(.int x1), (.int (5 : Int32)), (.ref b16_1)])) _
    refine XS.iconst X68.here hx rfl (hb hby at_98) ?_
    refine XS.sipush X68.here hx rfl (hb hby at_99) ?_
    refine st72 _ ?_
    show Steps p.tables e below (T72.setTop (mkF m 105 #[.val (.int x0), .val (.int x1), .val (.ref b16_1), .val (.int (5 : Int32))] [(.int (1 : Int32))])) _
    refine XS.ifNo X72.here hx rfl (hb hby at_105) rfl ((if0 _ _).trans (feq (by decide : ¬ ((1 : Int32) = (0 : Int32)))).1) ?_
    refine XS.aloadN X72.here hx rfl (hb hby at_108) rfl rfl ?_
    refine XS.iloadN X72.here hx rfl (hb hby at_109) rfl ?_
    refine XS.iloadN X72.here hx rfl (hb hby at_110) rfl ?_
    show Steps p.tables e below (T72.setTop (mkF m 111 #[.val (.int x0), .val (.int x1), .val (.ref b16_1), .val (.int (5 : Int32))] [(.int x1), (.int (5 : Int32)), (.ref b16_1)])) _
    refine XS.iconst X72.here hx rfl (hb hby at_111) ?_
    refine X72.ldcInt hx ho16 (mvT hZ16 (ww hw 174 rfl)) (g := (mkF m 112 #[.val (.int x0), .val (.int x1), .val (.ref b16_1), .val (.int (5 : Int32))] [(.int (5 : Int32)), (.int x1), (.int (5 : Int32)), (.ref b16_1)])) rfl (hb hby at_112) _ ?_
    show Steps p.tables e below (T72.setTop (mkF m 114 #[.val (.int x0), .val (.int x1), .val (.ref b16_1), .val (.int (5 : Int32))] [(.int (100000 : Int32)), (.int (5 : Int32)), (.int x1), (.int (5 : Int32)), (.ref b16_1)])) _
    refine st73 _ ?_
    show Steps p.tables e below (T73.setTop (mkF m 117 #[.val (.int x0), .val (.int x1), .val (.ref b16_1), .val (.int (5 : Int32))] [(.int (1 : Int32))])) _
    refine XS.ifNo X73.here hx rfl (hb hby at_117) rfl ((if0 _ _).trans (feq (by decide : ¬ ((1 : Int32) = (0 : Int32)))).1) ?_
    refine XS.aloadN X73.here hx rfl (hb hby at_120) rfl rfl ?_
    refine XS.iloadN X73.here hx rfl (hb hby at_121) rfl ?_
    refine XS.iloadN X73.here hx rfl (hb hby at_122) rfl ?_
    show Steps p.tables e below (T73.setTop (mkF m 123 #[.val (.int x0), .val (.int x1), .val (.ref b16_1), .val (.int (5 : Int32))] [(.int x1), (.int (5 : Int32)), (.ref b16_1)])) _
    refine XS.bipush X73.here hx rfl (hb hby at_123) ?_
    refine X73.ldcInt hx ho16 (mvT hZ16 (ww hw 173 rfl)) (g := (mkF m 125 #[.val (.int x0), .val (.int x1), .val (.ref b16_1), .val (.int (5 : Int32))] [(.int (6 : Int32)), (.int x1), (.int (5 : Int32)), (.ref b16_1)])) rfl (hb hby at_125) _ ?_
    show Steps p.tables e below (T73.setTop (mkF m 127 #[.val (.int x0), .val (.int x1), .val (.ref b16_1), .val (.int (5 : Int32))] [(.int (1000000 : Int32)), (.int (6 : Int32)), (.int x1), (.int (5 : Int32)), (.ref b16_1)])) _
    refine st74 _ ?_
    show Steps p.tables e below (T74.setTop (mkF m 130 #[.val (.int x0), .val (.int x1), .val (.ref b16_1), .val (.int (5 : Int32))] [(.int (1 : Int32))])) _
    refine XS.ifNo X74.here hx rfl (hb hby at_130) rfl ((if0 _ _).trans (feq (by decide : ¬ ((1 : Int32) = (0 : Int32)))).1) ?_
    refine XS.aloadN X74.here hx rfl (hb hby at_133) rfl rfl ?_
    refine XS.iloadN X74.here hx rfl (hb hby at_134) rfl ?_
    refine XS.iloadN X74.here hx rfl (hb hby at_135) rfl ?_
    show Steps p.tables e below (T74.setTop (mkF m 136 #[.val (.int x0), .val (.int x1), .val (.ref b16_1), .val (.int (5 : Int32))] [(.int x1), (.int (5 : Int32)), (.ref b16_1)])) _
    refine XS.bipush X74.here hx rfl (hb hby at_136) ?_
    refine X74.ldcInt hx ho16 (mvT hZ16 (ww hw 172 rfl)) (g := (mkF m 138 #[.val (.int x0), .val (.int x1), .val (.ref b16_1), .val (.int (5 : Int32))] [(.int (7 : Int32)), (.int x1), (.int (5 : Int32)), (.ref b16_1)])) rfl (hb hby at_138) _ ?_
    show Steps p.tables e below (T74.setTop (mkF m 140 #[.val (.int x0), .val (.int x1), .val (.ref b16_1), .val (.int (5 : Int32))] [(.int (10000000 : Int32)), (.int (7 : Int32)), (.int x1), (.int (5 : Int32)), (.ref b16_1)])) _
    refine st75 _ ?_
    show Steps p.tables e below (T75.setTop (mkF m 143 #[.val (.int x0), .val (.int x1), .val (.ref b16_1), .val (.int (5 : Int32))] [(.int (1 : Int32))])) _
    refine XS.ifNo X75.here hx rfl (hb hby at_143) rfl ((if0 _ _).trans (feq (by decide : ¬ ((1 : Int32) = (0 : Int32)))).1) ?_
    refine XS.aloadN X75.here hx rfl (hb hby at_146) rfl rfl ?_
    refine XS.iloadN X75.here hx rfl (hb hby at_147) rfl ?_
    refine XS.iloadN X75.here hx rfl (hb hby at_148) rfl ?_
    show Steps p.tables e below (T75.setTop (mkF m 149 #[.val (.int x0), .val (.int x1), .val (.ref b16_1), .val (.int (5 : Int32))] [(.int x1), (.int (5 : Int32)), (.ref b16_1)])) _
    refine XS.bipush X75.here hx rfl (hb hby at_149) ?_
    refine X75.ldcInt hx ho16 (mvT hZ16 (ww hw 171 rfl)) (g := (mkF m 151 #[.val (.int x0), .val (.int x1), .val (.ref b16_1), .val (.int (5 : Int32))] [(.int (8 : Int32)), (.int x1), (.int (5 : Int32)), (.ref b16_1)])) rfl (hb hby at_151) _ ?_
    show Steps p.tables e below (T75.setTop (mkF m 153 #[.val (.int x0), .val (.int x1), .val (.ref b16_1), .val (.int (5 : Int32))] [(.int (100000000 : Int32)), (.int (8 : Int32)), (.int x1), (.int (5 : Int32)), (.ref b16_1)])) _
    refine st76 _ ?_
    show Steps p.tables e below (T76.setTop (mkF m 156 #[.val (.int x0), .val (.int x1), .val (.ref b16_1), .val (.int (5 : Int32))] [(.int (1 : Int32))])) _
    refine XS.ifNo X76.here hx rfl (hb hby at_156) rfl ((if0 _ _).trans (feq (by decide : ¬ ((1 : Int32) = (0 : Int32)))).1) ?_
    refine XS.aloadN X76.here hx rfl (hb hby at_159) rfl rfl ?_
    refine XS.iloadN X76.here hx rfl (hb hby at_160) rfl ?_
    refine XS.iloadN X76.here hx rfl (hb hby at_161) rfl ?_
    show Steps p.tables e below (T76.setTop (mkF m 162 #[.val (.int x0), .val (.int x1), .val (.ref b16_1), .val (.int (5 : Int32))] [(.int x1), (.int (5 : Int32)), (.ref b16_1)])) _
    refine XS.bipush X76.here hx rfl (hb hby at_162) ?_
    refine X76.ldcInt hx ho16 (mvT hZ16 (ww hw 170 rfl)) (g := (mkF m 164 #[.val (.int x0), .val (.int x1), .val (.ref b16_1), .val (.int (5 : Int32))] [(.int (9 : Int32)), (.int x1), (.int (5 : Int32)), (.ref b16_1)])) rfl (hb hby at_164) _ ?_
    show Steps p.tables e below (T76.setTop (mkF m 166 #[.val (.int x0), .val (.int x1), .val (.ref b16_1), .val (.int (5 : Int32))] [(.int (1000000000 : Int32)), (.int (9 : Int32)), (.int x1), (.int (5 : Int32)), (.ref b16_1)])) _
    refine st77 _ ?_
    show Steps p.tables e below (T77.setTop (mkF m 169 #[.val (.int x0), .val (.int x1), .val (.ref b16_1), .val (.int (5 : Int32))] [(.int (1 : Int32))])) _
    refine XS.ifNo X77.here hx rfl (hb hby at_169) rfl ((if0 _ _).trans (feq (by decide : ¬ ((1 : Int32) = (0 : Int32)))).1) ?_
    refine XS.iconst X77.here hx rfl (hb hby at_172) ?_
    refine XS.goto X77.here hx rfl (pc0 := 173) (pc' := 177) rfl (hb hby at_173) (by decide) (by decide) ?_
    show Steps p.tables e below (T77.setTop (mkF m 177 #[.val (.int x0), .val (.int x1), .val (.ref b16_1), .val (.int (5 : Int32))] [(.int (1 : Int32))])) _
    exact retN X77 hx (t := .boolean) Bd.returns (by simp) (hb hby at_177) hr
  · show Q0_5 Z x0 x1 x2 r3 r4 d5 r6 d7 t8 u9 h0 n0 _ T77.heap _
    rw [E77]
    exact ⟨rfl, N77⟩
theorem d31_42 : decode method_3_code 42 = .ok (.bipush 6, 2) := by decide +kernel
theorem d31_44 : decode method_3_code 44 = .ok (.ireturn, 1) := by decide +kernel
def Q31_6 (Z : State) (x0 : Int32) (h0 : Heap) (n0 : Nat) (v : Option Value) (h : Heap) (L : List Loc) : Prop := v = some (.int (6 : Int32)) ∧ Fr n0 L ∧ h = h0
set_option maxRecDepth 65536 in
set_option maxHeartbeats 40000000 in
theorem rm31_6 (l : Launch) (Z : State) (a0 : Array Value) (hw : ∀ d ∈ tables_1, d.before a0 Z = true) (ws : List Jvm.Cond) (x0 : Int32) (h0 : Heap) (n0 : Nat) (O0 : Old Z n0 h0) (hc1 : x0 < (1000000000 : Int32)) (hc2 : x0 < (100000000 : Int32)) (hc3 : x0 < (10000000 : Int32)) (hc4 : x0 < (1000000 : Int32)) (hc5 : ¬ (x0 < (100000 : Int32))) :
    MetFree l (⟨cs9, "digits", "(I)I"⟩ : MethodName) (head1 (Jvm.Cond.code (⟨cs9, "digits", "(I)I"⟩ : MethodName) method_3_code 1 (some .int) :: ws) ({ frames := 0, cells := 0, slots := 0, locals := 0 } : Room)) (fun a U => a = #[(.int x0)] ∧ Z.Warmed39 U.vm ∧ U.heap = h0) (fun _ _ _ _ _ => True) (fun _ U o U' => ∃ v L, o = .returned v ∧ Q31_6 Z x0 h0 n0 v U'.heap L ∧ FrameEnd U o U' L ({ frames := 0, cells := 0, slots := 0, locals := 0 } : Room).cells ({ frames := 0, cells := 0, slots := 0, locals := 0 } : Room).slots) := by
  refine MetFree.of_bodySF (plainFor_of_name pn_com_example_manojo_manojo_ParameterPositionalPinLaw) hisR ?_
  intro p e s m args below meth c s₁ Bd hml0 hP hK
  obtain ⟨rfl, hZ, hh⟩ := hP
  have hx := Bd.exec
  have hby := Bd.bytes
  have hml : c.maxLocals = 1 := hml0
  have hown : s.vm.findClass cs9 = some m.cls := findClass_of_methodNamed Bd.named
  have hnm := (name_of_methodNamed Bd.named Bd.method).1
  have X0 : Stand p l e ({ frames := 0, cells := 0, slots := 0, locals := 0 } : Room) s m #[(.int x0)] below meth c s₁ [] 0 0 := Stand.of_body Bd
  have e0 : s₁.heap = h0 := by rw [← hh, Bd.state]; rfl
  have N0 := Fr.nil n0
  have pre0 : ∀ t, Steps p.tables e below (s₁.setTop (mkF m 0 #[.val (.int x0)] [])) t → Steps p.tables e below (s₁.setTop (entryFrame m #[(.int x0)] 1)) t := fun t k => castTop (by first | (simp [entryFrame, mkF, argsToLocals, Value.category]; done) | rfl) k
  obtain ⟨fs, hr, hrun, hended, hW, hsame⟩ := X0.leave (v := some (.int (6 : Int32))) (fun h => by rw [Bd.returns] at h; cases h)
  refine ⟨_, _, pre0 _ ?_, hrun, hended, _, _, rfl, ?_, ⟨_, rfl⟩, hW, hsame.mono (by decide) (by decide)⟩
  · show Steps p.tables e below (s₁.setTop (mkF m 0 #[.val (.int x0)] [])) _
    refine XS.iloadN X0.here hx rfl (hb hby d31_0) rfl ?_
    refine X0.ldcInt hx hown (mvT hZ (ww hw 170 rfl)) (g := (mkF m 1 #[.val (.int x0)] [(.int x0)])) rfl (hb hby d31_1) _ ?_
    show Steps p.tables e below (s₁.setTop (mkF m 3 #[.val (.int x0)] [(.int (1000000000 : Int32)), (.int x0)])) _
    refine XS.icmpYes X0.here hx rfl (pc0 := 3) (pc' := 9) rfl (hb hby d31_3) rfl (tlt hc1).1 (by decide) (by decide) ?_
    show Steps p.tables e below (s₁.setTop (mkF m 9 #[.val (.int x0)] [])) _
    refine XS.iloadN X0.here hx rfl (hb hby d31_9) rfl ?_
    refine X0.ldcInt hx hown (mvT hZ (ww hw 171 rfl)) (g := (mkF m 10 #[.val (.int x0)] [(.int x0)])) rfl (hb hby d31_10) _ ?_
    show Steps p.tables e below (s₁.setTop (mkF m 12 #[.val (.int x0)] [(.int (100000000 : Int32)), (.int x0)])) _
    refine XS.icmpYes X0.here hx rfl (pc0 := 12) (pc' := 18) rfl (hb hby d31_12) rfl (tlt hc2).1 (by decide) (by decide) ?_
    show Steps p.tables e below (s₁.setTop (mkF m 18 #[.val (.int x0)] [])) _
    refine XS.iloadN X0.here hx rfl (hb hby d31_18) rfl ?_
    refine X0.ldcInt hx hown (mvT hZ (ww hw 172 rfl)) (g := (mkF m 19 #[.val (.int x0)] [(.int x0)])) rfl (hb hby d31_19) _ ?_
    show Steps p.tables e below (s₁.setTop (mkF m 21 #[.val (.int x0)] [(.int (10000000 : Int32)), (.int x0)])) _
    refine XS.icmpYes X0.here hx rfl (pc0 := 21) (pc' := 27) rfl (hb hby d31_21) rfl (tlt hc3).1 (by decide) (by decide) ?_
    show Steps p.tables e below (s₁.setTop (mkF m 27 #[.val (.int x0)] [])) _
    refine XS.iloadN X0.here hx rfl (hb hby d31_27) rfl ?_
    refine X0.ldcInt hx hown (mvT hZ (ww hw 173 rfl)) (g := (mkF m 28 #[.val (.int x0)] [(.int x0)])) rfl (hb hby d31_28) _ ?_
    show Steps p.tables e below (s₁.setTop (mkF m 30 #[.val (.int x0)] [(.int (1000000 : Int32)), (.int x0)])) _
    refine XS.icmpYes X0.here hx rfl (pc0 := 30) (pc' := 36) rfl (hb hby d31_30) rfl (tlt hc4).1 (by decide) (by decide) ?_
    show Steps p.tables e below (s₁.setTop (mkF m 36 #[.val (.int x0)] [])) _
    refine XS.iloadN X0.here hx rfl (hb hby d31_36) rfl ?_
    refine X0.ldcInt hx hown (mvT hZ (ww hw 174 rfl)) (g := (mkF m 37 #[.val (.int x0)] [(.int x0)])) rfl (hb hby d31_37) _ ?_
    show Steps p.tables e below (s₁.setTop (mkF m 39 #[.val (.int x0)] [(.int (100000 : Int32)), (.int x0)])) _
    refine XS.icmpNo X0.here hx rfl (hb hby d31_39) rfl (flt hc5).1 ?_
    refine XS.bipush X0.here hx rfl (hb hby d31_42) ?_
    exact retOut X0 hx (i := .ireturn) Bd.returns rfl (Or.inl ⟨rfl, Or.inl rfl, _, rfl⟩) (hb hby d31_44) hr
  · show Q31_6 Z x0 h0 n0 _ s₁.heap _
    rw [e0]
    exact ⟨rfl, N0, rfl⟩
def Q0_6 (Z : State) (x0 : Int32) (x1 : Int32) (x2 : Int32) (r3 : Addr) (r4 : Addr) (d5 : Cell) (r6 : Addr) (d7 : Cell) (t8 : List Value) (u9 : Value) (h0 : Heap) (n0 : Nat) (v : Option Value) (h : Heap) (L : List Loc) : Prop := v = some (.int (1 : Int32)) ∧ Fr n0 L
set_option maxRecDepth 65536 in
set_option maxHeartbeats 40000000 in
theorem rm0_6 (l : Launch) (Z : State) (a0 : Array Value) (hw : ∀ d ∈ tables_1, d.before a0 Z = true) (ws : List Jvm.Cond) (x0 : Int32) (x1 : Int32) (x2 : Int32) (r3 : Addr) (r4 : Addr) (d5 : Cell) (r6 : Addr) (d7 : Cell) (t8 : List Value) (u9 : Value) (h0 : Heap) (n0 : Nat) (O0 : Old Z n0 h0) (hq1 : ((1 : Int32) + ((x0 &&& (2147483647 : Int32)) % (2147483647 : Int32))) = x1) (f2 : Sta Z Z.heap "java/lang/String" "COMPACT_STRINGS" "Z" (.int x2)) (hc3 : ¬ (x2 = (0 : Int32))) (hc4 : ¬ ((0 : Int32) < (((1 : Int32) + (SBG.strSizeOf x1)) - ((16 : Int32) >>> ((0 : Int32) &&& 31))))) (f5 : own_TB Z r3 r4 d5 r6 d7) (hc6 : ¬ (((1 : Int32) + (SBG.strSizeOf x1)) < 0)) (hc7 : (((1 : Int32) + (SBG.strSizeOf x1))).toNatClampNeg ≤ ((16 : Int32)).toNatClampNeg) (hc8 : own_sz x1 ≤ (((1 : Int32) + (SBG.strSizeOf x1))).toNatClampNeg) (hc9 : ¬ (((1 : Int32) + (SBG.strSizeOf x1)) = (16 : Int32))) (hc10 : ¬ (((1 : Int32) + (SBG.strSizeOf x1)) < (0 : Int32))) (hc11 : ¬ ((((1 : Int32) + (SBG.strSizeOf x1)) - (0 : Int32)) < 0)) (hc12 : ((((1 : Int32) + (SBG.strSizeOf x1)) - (0 : Int32))).toNatClampNeg ≤ 32) (hc13 : (((1 : Int32) + (SBG.strSizeOf x1)) - (0 : Int32)) < ((16 : Int32) - (0 : Int32))) (hc14 : ((((1 : Int32) + (SBG.strSizeOf x1)) - (0 : Int32))).toNatClampNeg ≤ ((16 : Int32)).toNatClampNeg) (hq31 : (own_us [(.int (63 : Int32)), (.int (0 : Int32)), (.int (0 : Int32)), (.int (0 : Int32)), (.int (0 : Int32)), (.int (0 : Int32)), (.int (0 : Int32)), (.int (0 : Int32)), (.int (0 : Int32)), (.int (0 : Int32)), (.int (0 : Int32)), (.int (0 : Int32)), (.int (0 : Int32)), (.int (0 : Int32)), (.int (0 : Int32)), (.int (0 : Int32))] (.int (0 : Int32)) ((16 : Int32)).toNatClampNeg x1 (((1 : Int32) + (SBG.strSizeOf x1))).toNatClampNeg) = t8) (hc36 : x1 < (1000000000 : Int32)) (hc37 : x1 < (100000000 : Int32)) (hc38 : x1 < (10000000 : Int32)) (hc39 : x1 < (1000000 : Int32)) (hc40 : ¬ (x1 < (100000 : Int32))) (hc44 : ((((1 : Int32) + (SBG.strSizeOf x1)) - (0 : Int32)) >>> ((nar .byte (0 : Int32)) &&& 31)) = (7 : Int32)) (f45 : Sta Z Z.heap cs10 "SIOOBE_FORMATTER" cs12 u9) (hc46 : u9.isRef = true) (hc47 : (0 : Int32) < (((1 : Int32) + (SBG.strSizeOf x1)) - (0 : Int32))) (hc48 : t8.getD ((0 : Int32)).toNatClampNeg (.int (0 : Int32)) = (.int (own_at t8 ((0 : Int32)).toNatClampNeg))) (hc51 : (nar .char (nar .char (((own_at t8 ((0 : Int32)).toNatClampNeg) &&& (255 : Int32)).toUInt32.toUInt16.toUInt32.toInt32))) = (63 : Int32)) (hc52 : ((6 : Int32) - (0 : Int32)) < (((1 : Int32) + (SBG.strSizeOf x1)) - (0 : Int32))) (hc53 : t8.getD (((6 : Int32) - (0 : Int32))).toNatClampNeg (.int (0 : Int32)) = (.int (own_at t8 (((6 : Int32) - (0 : Int32))).toNatClampNeg))) (hc54 : (nar .char (nar .char (((own_at t8 (((6 : Int32) - (0 : Int32))).toNatClampNeg) &&& (255 : Int32)).toUInt32.toUInt16.toUInt32.toInt32))) = (((48 : Int32) + ((x1 / (1 : Int32)) % (10 : Int32))).toUInt32.toUInt16.toUInt32.toInt32)) (hc56 : ((6 : Int32) - (1 : Int32)) < (((1 : Int32) + (SBG.strSizeOf x1)) - (0 : Int32))) (hc57 : t8.getD (((6 : Int32) - (1 : Int32))).toNatClampNeg (.int (0 : Int32)) = (.int (own_at t8 (((6 : Int32) - (1 : Int32))).toNatClampNeg))) (hc58 : (nar .char (nar .char (((own_at t8 (((6 : Int32) - (1 : Int32))).toNatClampNeg) &&& (255 : Int32)).toUInt32.toUInt16.toUInt32.toInt32))) = (((48 : Int32) + ((x1 / (10 : Int32)) % (10 : Int32))).toUInt32.toUInt16.toUInt32.toInt32)) (hc60 : ((6 : Int32) - (2 : Int32)) < (((1 : Int32) + (SBG.strSizeOf x1)) - (0 : Int32))) (hc61 : t8.getD (((6 : Int32) - (2 : Int32))).toNatClampNeg (.int (0 : Int32)) = (.int (own_at t8 (((6 : Int32) - (2 : Int32))).toNatClampNeg))) (hc62 : (nar .char (nar .char (((own_at t8 (((6 : Int32) - (2 : Int32))).toNatClampNeg) &&& (255 : Int32)).toUInt32.toUInt16.toUInt32.toInt32))) = (((48 : Int32) + ((x1 / (100 : Int32)) % (10 : Int32))).toUInt32.toUInt16.toUInt32.toInt32)) (hc64 : ((6 : Int32) - (3 : Int32)) < (((1 : Int32) + (SBG.strSizeOf x1)) - (0 : Int32))) (hc65 : t8.getD (((6 : Int32) - (3 : Int32))).toNatClampNeg (.int (0 : Int32)) = (.int (own_at t8 (((6 : Int32) - (3 : Int32))).toNatClampNeg))) (hc66 : (nar .char (nar .char (((own_at t8 (((6 : Int32) - (3 : Int32))).toNatClampNeg) &&& (255 : Int32)).toUInt32.toUInt16.toUInt32.toInt32))) = (((48 : Int32) + ((x1 / (1000 : Int32)) % (10 : Int32))).toUInt32.toUInt16.toUInt32.toInt32)) (hc68 : ((6 : Int32) - (4 : Int32)) < (((1 : Int32) + (SBG.strSizeOf x1)) - (0 : Int32))) (hc69 : t8.getD (((6 : Int32) - (4 : Int32))).toNatClampNeg (.int (0 : Int32)) = (.int (own_at t8 (((6 : Int32) - (4 : Int32))).toNatClampNeg))) (hc70 : (nar .char (nar .char (((own_at t8 (((6 : Int32) - (4 : Int32))).toNatClampNeg) &&& (255 : Int32)).toUInt32.toUInt16.toUInt32.toInt32))) = (((48 : Int32) + ((x1 / (10000 : Int32)) % (10 : Int32))).toUInt32.toUInt16.toUInt32.toInt32)) (hc72 : ((6 : Int32) - (5 : Int32)) < (((1 : Int32) + (SBG.strSizeOf x1)) - (0 : Int32))) (hc73 : t8.getD (((6 : Int32) - (5 : Int32))).toNatClampNeg (.int (0 : Int32)) = (.int (own_at t8 (((6 : Int32) - (5 : Int32))).toNatClampNeg))) (hc74 : (nar .char (nar .char (((own_at t8 (((6 : Int32) - (5 : Int32))).toNatClampNeg) &&& (255 : Int32)).toUInt32.toUInt16.toUInt32.toInt32))) = (((48 : Int32) + ((x1 / (100000 : Int32)) % (10 : Int32))).toUInt32.toUInt16.toUInt32.toInt32)) :
    MetFree l x (head1 (Jvm.Cond.code x code maxLocals ret :: ws) room_1) (fun a U => a = #[(.int x0)] ∧ Z.Warmed39 U.vm ∧ U.heap = h0 ∧ CHv Z consts_1 U.vm h0) (fun _ _ _ _ _ => True) (fun _ U o U' => ∃ v L, o = .returned v ∧ Q0_6 Z x0 x1 x2 r3 r4 d5 r6 d7 t8 u9 h0 n0 v U'.heap L ∧ CHr Z consts_1 U.vm U.heap U'.vm U'.heap ∧ ReturnedEndW U o U' L room_1.cells room_1.slots) := by
  refine MetFree.of_bodySF (plainFor_of_name pn_com_example_manojo_manojo_ParameterPositionalPinLaw) hisR ?_
  intro p e s m args below meth c s₁ Bd hml0 hP hK
  obtain ⟨rfl, hZ, hh, hC⟩ := hP
  have hx := Bd.exec
  have hby := Bd.bytes
  have hml : c.maxLocals = 4 := hml0
  have hown : s.vm.findClass cs9 = some m.cls := findClass_of_methodNamed Bd.named
  have hnm := (name_of_methodNamed Bd.named Bd.method).1
  have X0 : Stand p l e room_1 s m #[(.int x0)] below meth c s₁ [] 0 0 := Stand.of_body Bd
  have e0 : s₁.heap = h0 := by rw [← hh, Bd.state]; rfl
  have N0 := Fr.nil n0
  have pre0 : ∀ t, Steps p.tables e below (s₁.setTop (mkF m 0 #[.val (.int x0), .unset, .unset, .unset] [])) t → Steps p.tables e below (s₁.setTop (entryFrame m #[(.int x0)] maxLocals)) t := fun t k => castTop (by first | (simp [entryFrame, mkF, argsToLocals, Value.category, maxLocals]; done) | rfl) k
  have hEL : EW Z a0 consts_1 := own_EW hw
  have R0 := CHr.refl hC
  have hS15 := (State.WarmedH.refl s).since 0
  obtain ⟨_, _, ⟨T16, L16, k16, n16⟩, -, X16, hs16, hg16, ⟨Lc16, hQ16, l16, y16, z16, cr16⟩, st16⟩ := callSS X0 hx (y := (⟨cs7, "positional", cs8⟩ : MethodName)) hown (mvT hZ (ww hw 1 rfl)) (mvT hZ (ww hw 2 rfl)) (mvT hZ (ww hw 3 rfl)) (mvT hZ (ww hw 4 rfl)) (by decide) (backOfSH (s := s) (vm0 := s.vm) (W := 0) (rm1_1 l Z a0 hw [] x1 x2 r3 r4 d5 r6 d7 h0 n0 O0 f2 hc3 hc4 f5 hc6 hc7 hc8 hc9 hc10 hc11 hc12 hc13 hc14) hZ (ww hw 4 rfl) (ww hw 3 rfl) (by decide) (by decide) hEL R0.1) (g := (mkF m 11 #[.val (.int x0), .val (.int x1), .unset, .unset] [(.int x1)])) rfl (by rw [hml]; rfl) (argsL := [(.int x1)]) (rest := []) (lenOf pd__I_Lcom_example_manojo_manojo_QueryTree_Parameter_ rfl) rfl (by show 2 * 0 + _ ≤ _; exact Nat.le_of_eq rfl) (hb hby at_11) (fun _ _ => ⟨rfl, e0, (by decide : 0 + 7 ≤ _), (by decide : 0 + 65 ≤ _)⟩)
  dsimp only [Pt.U, Pt.locs, Pt.cells, Pt.slots] at X16 l16 y16 z16 st16 hQ16 hs16 hg16 cr16
  subst l16 y16 z16
  obtain ⟨X16, hS16, hZ16, ho16⟩ := rebS (s := s) (vm0 := s.vm) hS15 (by rw [e0]; exact (Nat.zero_le _)) X16 hs16 hg16 hZ hown
  obtain ⟨b16_0, b16_1, b16_2, k16_0, rfl, N16q, K16, f17, f18, f19, f20, f21, f22, f23, f24, f25, f26, f27, f28, f29⟩ := hQ16
  have N16 := Fr.app N0 N16q
  have R30 := CHr.trans R0 cr16
  have f32 : Arv Z T16.heap b16_2 k16_0 .byte (((1 : Int32) + (SBG.strSizeOf x1)) - (0 : Int32)) t8 (.int (0 : Int32)) := by rw [← hq31]; exact f25
  have o33 := Old.keep O0 K16 all0
  obtain ⟨cqq35, kqq35, qq35a, qq35b, qq35c⟩ := isOf hZ16 rfl f18
  obtain ⟨_, _, ⟨T34, L34, k34, n34⟩, -, X34, ⟨Lc34, hQ34, l34, y34, z34⟩, st34⟩ := X16.virtualBack hx (y := (⟨cs7, "name", "()Ljava/lang/String;"⟩ : MethodName)) (z := (⟨cs7, "name", "()Ljava/lang/String;"⟩ : MethodName)) ho16 (mvT hZ16 (ww hw 161 rfl)) (mvT hZ16 (ww hw 162 rfl)) (notFace_of_selects (args := #[]) (mvT hZ16 (ww hw 164 rfl))) (mvT hZ16 (ww hw 164 rfl)) (mvT hZ16 (ww hw 163 rfl)) (by decide) (backOf (W := 0) (rm30_1 l Z a0 hw [] b16_0 b16_1 T16.heap n0 o33 f19) hZ16 (ww hw 165 rfl) (ww hw 3 rfl) (by decide) (by decide)) qq35a qq35c (g := (mkF m 14 #[.val (.int x0), .val (.int x1), .unset, .unset] [(.ref b16_0)])) rfl (by rw [hml]; rfl) (Steps.refl _) (argsL := []) (rest := []) (lenOf pd___Ljava_lang_String_ rfl) rfl (by show 2 * 0 + _ ≤ _; exact Nat.le_of_eq rfl) (hb hby at_14) (fun _ _ => ⟨rfl, rfl, (by decide : 7 + 0 ≤ _), (by decide : 65 + 0 ≤ _)⟩)
  dsimp only [Pt.U, Pt.locs, Pt.cells, Pt.slots] at X34 l34 y34 z34 st34 hQ34
  subst l34 y34 z34
  obtain ⟨rfl, N34q, E34⟩ := hQ34
  have N34 := Fr.app N16 N34q
  obtain ⟨_, _, ⟨T41, L41, k41, n41⟩, -, X41, ⟨Lc41, hQ41, l41, y41, z41⟩, st41⟩ := Jvm.LawKit.callS X34 hx (y := (⟨cs9, "digits", "(I)I"⟩ : MethodName)) ho16 (mvT hZ16 (ww hw 166 rfl)) (mvT hZ16 (ww hw 167 rfl)) (mvT hZ16 (ww hw 168 rfl)) (mvT hZ16 (ww hw 169 rfl)) (by decide) (backOf (W := 0) (rm31_6 l Z a0 hw [] x1 T16.heap n0 o33 hc36 hc37 hc38 hc39 hc40) hZ16 (ww hw 169 rfl) (ww hw 168 rfl) (by decide) (by decide)) (g := (mkF m 19 #[.val (.int x0), .val (.int x1), .val (.ref b16_1), .unset] [(.int x1)])) rfl (by rw [hml]; rfl) (argsL := [(.int x1)]) (rest := []) (lenOf pd__I_I rfl) rfl (by show 2 * 0 + _ ≤ _; exact Nat.le_of_eq rfl) (hb hby at_19) (fun _ _ => ⟨rfl, E34, (by decide : 7 + 0 ≤ _), (by decide : 65 + 0 ≤ _)⟩)
  dsimp only [Pt.U, Pt.locs, Pt.cells, Pt.slots] at X41 l41 y41 z41 st41 hQ41
  subst l41 y41 z41
  obtain ⟨rfl, N41q, E41⟩ := hQ41
  have N41 := Fr.app N34 N41q
  obtain ⟨cqq43, kqq43, qq43a, qq43b, qq43c⟩ := isOf hZ16 E41 f21
  obtain ⟨_, _, ⟨T42, L42, k42, n42⟩, -, X42, ⟨Lc42, hQ42, l42, y42, z42⟩, st42⟩ := X41.virtualBack hx (y := (⟨"java/lang/String", "length", "()I"⟩ : MethodName)) (z := (⟨"java/lang/String", "length", "()I"⟩ : MethodName)) ho16 (mvT hZ16 (ww hw 175 rfl)) (mvT hZ16 (ww hw 46 rfl)) (notFace_of_selects (args := #[]) (mvT hZ16 (ww hw 48 rfl))) (mvT hZ16 (ww hw 48 rfl)) (mvT hZ16 (ww hw 47 rfl)) (by decide) (backOf (W := 0) (rm7_1 l Z a0 hw [] b16_1 b16_2 (((1 : Int32) + (SBG.strSizeOf x1)) - (0 : Int32)) k16_0 t8 x2 (0 : Int32) T16.heap n0 o33 f23 f32 f21 f2 hc3 f22) hZ16 (ww hw 49 rfl) (ww hw 23 rfl) (by decide) (by decide)) qq43a qq43c (g := (mkF m 24 #[.val (.int x0), .val (.int x1), .val (.ref b16_1), .val (.int (6 : Int32))] [(.ref b16_1)])) rfl (by rw [hml]; rfl) (Steps.refl _) (argsL := []) (rest := []) (lenOf pd___I rfl) rfl (by show 2 * 0 + _ ≤ _; exact Nat.le_of_eq rfl) (hb hby at_24) (fun _ _ => ⟨rfl, E41, (by decide : 7 + 0 ≤ _), (by decide : 65 + 0 ≤ _)⟩)
  dsimp only [Pt.U, Pt.locs, Pt.cells, Pt.slots] at X42 l42 y42 z42 st42 hQ42
  subst l42 y42 z42
  obtain ⟨rfl, N42q, E42⟩ := hQ42
  have N42 := Fr.app N41 N42q
  obtain ⟨cqq50, kqq50, qq50a, qq50b, qq50c⟩ := isOf hZ16 E42 f21
  obtain ⟨_, _, ⟨T49, L49, k49, n49⟩, -, X49, ⟨Lc49, hQ49, l49, y49, z49⟩, st49⟩ := X42.virtualBack hx (y := (⟨"java/lang/String", "charAt", "(I)C"⟩ : MethodName)) (z := (⟨"java/lang/String", "charAt", "(I)C"⟩ : MethodName)) ho16 (mvT hZ16 (ww hw 176 rfl)) (mvT hZ16 (ww hw 177 rfl)) (notFace_of_selects (args := #[]) (mvT hZ16 (ww hw 179 rfl))) (mvT hZ16 (ww hw 179 rfl)) (mvT hZ16 (ww hw 178 rfl)) (by decide) (backOf (W := 0) (rm32_1 l Z a0 hw [] b16_1 (0 : Int32) x2 (0 : Int32) b16_2 (((1 : Int32) + (SBG.strSizeOf x1)) - (0 : Int32)) k16_0 t8 u9 (own_at t8 ((0 : Int32)).toNatClampNeg) T16.heap n0 o33 f21 f2 hc3 f22 (by decide : (0 : Int32) = (0 : Int32)) f23 f32 f45 hc46 (by decide : ¬ ((0 : Int32) < (0 : Int32))) hc47 hc48) hZ16 (ww hw 180 rfl) (ww hw 23 rfl) (by decide) (by decide)) qq50a qq50c (g := (mkF m 37 #[.val (.int x0), .val (.int x1), .val (.ref b16_1), .val (.int (6 : Int32))] [(.int (0 : Int32)), (.ref b16_1)])) rfl (by rw [hml]; rfl) (Steps.refl _) (argsL := [(.int (0 : Int32))]) (rest := []) (lenOf pd__I_C rfl) rfl (by show 2 * 0 + _ ≤ _; exact Nat.le_of_eq rfl) (hb hby at_37) (fun _ _ => ⟨rfl, E42, (by decide : 7 + 0 ≤ _), (by decide : 65 + 0 ≤ _)⟩)
  dsimp only [Pt.U, Pt.locs, Pt.cells, Pt.slots] at X49 l49 y49 z49 st49 hQ49
  subst l49 y49 z49
  obtain ⟨rfl, N49q, E49⟩ := hQ49
  have N49 := Fr.app N42 N49q
  obtain ⟨_, _, ⟨T55, L55, k55, n55⟩, -, X55, ⟨Lc55, hQ55, l55, y55, z55⟩, st55⟩ := Jvm.LawKit.callS X49 hx (y := (⟨cs9, "at", cs13⟩ : MethodName)) ho16 (mvT hZ16 (ww hw 198 rfl)) (mvT hZ16 (ww hw 199 rfl)) (mvT hZ16 (ww hw 168 rfl)) (mvT hZ16 (ww hw 200 rfl)) (by decide) (backOf (W := 0) (rm37_1 l Z a0 hw [] b16_1 (6 : Int32) x1 (0 : Int32) (1 : Int32) x2 (0 : Int32) b16_2 (((1 : Int32) + (SBG.strSizeOf x1)) - (0 : Int32)) k16_0 t8 u9 (own_at t8 (((6 : Int32) - (0 : Int32))).toNatClampNeg) T16.heap n0 o33 (by decide : (0 : Int32) < (6 : Int32)) f21 f2 hc3 f22 (by decide : (0 : Int32) = (0 : Int32)) f23 f32 f45 hc46 (by decide : ¬ (((6 : Int32) - (0 : Int32)) < (0 : Int32))) hc52 hc53 (by decide : ¬ ((1 : Int32) = (0 : Int32))) hc54) hZ16 (ww hw 200 rfl) (ww hw 168 rfl) (by decide) (by decide)) (g := (mkF m 52 #[.val (.int x0), .val (.int x1), .val (.ref b16_1), .val (.int (6 : Int32))] [(.int (1 : Int32)), (.int (0 : Int32)), (.int x1), (.int (6 : Int32)), (.ref b16_1)])) rfl (by rw [hml]; rfl) (argsL := [(.ref b16_1), (.int (6 : Int32)), (.int x1), (.int (0 : Int32)), (.int (1 : Int32))]) (rest := []) (lenOf pd__Ljava_lang_String_IIII_Z rfl) rfl (by show 2 * 0 + _ ≤ _; exact Nat.le_of_eq rfl) (hb hby at_52) (fun _ _ => ⟨rfl, E49, (by decide : 7 + 0 ≤ _), (by decide : 65 + 0 ≤ _)⟩)
  dsimp only [Pt.U, Pt.locs, Pt.cells, Pt.slots] at X55 l55 y55 z55 st55 hQ55
  subst l55 y55 z55
  obtain ⟨rfl, N55q, E55⟩ := hQ55
  have N55 := Fr.app N49 N55q
  obtain ⟨_, _, ⟨T59, L59, k59, n59⟩, -, X59, ⟨Lc59, hQ59, l59, y59, z59⟩, st59⟩ := Jvm.LawKit.callS X55 hx (y := (⟨cs9, "at", cs13⟩ : MethodName)) ho16 (mvT hZ16 (ww hw 198 rfl)) (mvT hZ16 (ww hw 199 rfl)) (mvT hZ16 (ww hw 168 rfl)) (mvT hZ16 (ww hw 200 rfl)) (by decide) (backOf (W := 0) (rm37_1 l Z a0 hw [] b16_1 (6 : Int32) x1 (1 : Int32) (10 : Int32) x2 (0 : Int32) b16_2 (((1 : Int32) + (SBG.strSizeOf x1)) - (0 : Int32)) k16_0 t8 u9 (own_at t8 (((6 : Int32) - (1 : Int32))).toNatClampNeg) T16.heap n0 o33 (by decide : (1 : Int32) < (6 : Int32)) f21 f2 hc3 f22 (by decide : (0 : Int32) = (0 : Int32)) f23 f32 f45 hc46 (by decide : ¬ (((6 : Int32) - (1 : Int32)) < (0 : Int32))) hc56 hc57 (by decide : ¬ ((10 : Int32) = (0 : Int32))) hc58) hZ16 (ww hw 200 rfl) (ww hw 168 rfl) (by decide) (by decide)) (g := (mkF m 64 #[.val (.int x0), .val (.int x1), .val (.ref b16_1), .val (.int (6 : Int32))] [(.int (10 : Int32)), (.int (1 : Int32)), (.int x1), (.int (6 : Int32)), (.ref b16_1)])) rfl (by rw [hml]; rfl) (argsL := [(.ref b16_1), (.int (6 : Int32)), (.int x1), (.int (1 : Int32)), (.int (10 : Int32))]) (rest := []) (lenOf pd__Ljava_lang_String_IIII_Z rfl) rfl (by show 2 * 0 + _ ≤ _; exact Nat.le_of_eq rfl) (hb hby at_64) (fun _ _ => ⟨rfl, E55, (by decide : 7 + 0 ≤ _), (by decide : 65 + 0 ≤ _)⟩)
  dsimp only [Pt.U, Pt.locs, Pt.cells, Pt.slots] at X59 l59 y59 z59 st59 hQ59
  subst l59 y59 z59
  obtain ⟨rfl, N59q, E59⟩ := hQ59
  have N59 := Fr.app N55 N59q
  obtain ⟨_, _, ⟨T63, L63, k63, n63⟩, -, X63, ⟨Lc63, hQ63, l63, y63, z63⟩, st63⟩ := Jvm.LawKit.callS X59 hx (y := (⟨cs9, "at", cs13⟩ : MethodName)) ho16 (mvT hZ16 (ww hw 198 rfl)) (mvT hZ16 (ww hw 199 rfl)) (mvT hZ16 (ww hw 168 rfl)) (mvT hZ16 (ww hw 200 rfl)) (by decide) (backOf (W := 0) (rm37_1 l Z a0 hw [] b16_1 (6 : Int32) x1 (2 : Int32) (100 : Int32) x2 (0 : Int32) b16_2 (((1 : Int32) + (SBG.strSizeOf x1)) - (0 : Int32)) k16_0 t8 u9 (own_at t8 (((6 : Int32) - (2 : Int32))).toNatClampNeg) T16.heap n0 o33 (by decide : (2 : Int32) < (6 : Int32)) f21 f2 hc3 f22 (by decide : (0 : Int32) = (0 : Int32)) f23 f32 f45 hc46 (by decide : ¬ (((6 : Int32) - (2 : Int32)) < (0 : Int32))) hc60 hc61 (by decide : ¬ ((100 : Int32) = (0 : Int32))) hc62) hZ16 (ww hw 200 rfl) (ww hw 168 rfl) (by decide) (by decide)) (g := (mkF m 76 #[.val (.int x0), .val (.int x1), .val (.ref b16_1), .val (.int (6 : Int32))] [(.int (100 : Int32)), (.int (2 : Int32)), (.int x1), (.int (6 : Int32)), (.ref b16_1)])) rfl (by rw [hml]; rfl) (argsL := [(.ref b16_1), (.int (6 : Int32)), (.int x1), (.int (2 : Int32)), (.int (100 : Int32))]) (rest := []) (lenOf pd__Ljava_lang_String_IIII_Z rfl) rfl (by show 2 * 0 + _ ≤ _; exact Nat.le_of_eq rfl) (hb hby at_76) (fun _ _ => ⟨rfl, E59, (by decide : 7 + 0 ≤ _), (by decide : 65 + 0 ≤ _)⟩)
  dsimp only [Pt.U, Pt.locs, Pt.cells, Pt.slots] at X63 l63 y63 z63 st63 hQ63
  subst l63 y63 z63
  obtain ⟨rfl, N63q, E63⟩ := hQ63
  have N63 := Fr.app N59 N63q
  obtain ⟨_, _, ⟨T67, L67, k67, n67⟩, -, X67, ⟨Lc67, hQ67, l67, y67, z67⟩, st67⟩ := Jvm.LawKit.callS X63 hx (y := (⟨cs9, "at", cs13⟩ : MethodName)) ho16 (mvT hZ16 (ww hw 198 rfl)) (mvT hZ16 (ww hw 199 rfl)) (mvT hZ16 (ww hw 168 rfl)) (mvT hZ16 (ww hw 200 rfl)) (by decide) (backOf (W := 0) (rm37_1 l Z a0 hw [] b16_1 (6 : Int32) x1 (3 : Int32) (1000 : Int32) x2 (0 : Int32) b16_2 (((1 : Int32) + (SBG.strSizeOf x1)) - (0 : Int32)) k16_0 t8 u9 (own_at t8 (((6 : Int32) - (3 : Int32))).toNatClampNeg) T16.heap n0 o33 (by decide : (3 : Int32) < (6 : Int32)) f21 f2 hc3 f22 (by decide : (0 : Int32) = (0 : Int32)) f23 f32 f45 hc46 (by decide : ¬ (((6 : Int32) - (3 : Int32)) < (0 : Int32))) hc64 hc65 (by decide : ¬ ((1000 : Int32) = (0 : Int32))) hc66) hZ16 (ww hw 200 rfl) (ww hw 168 rfl) (by decide) (by decide)) (g := (mkF m 89 #[.val (.int x0), .val (.int x1), .val (.ref b16_1), .val (.int (6 : Int32))] [(.int (1000 : Int32)), (.int (3 : Int32)), (.int x1), (.int (6 : Int32)), (.ref b16_1)])) rfl (by rw [hml]; rfl) (argsL := [(.ref b16_1), (.int (6 : Int32)), (.int x1), (.int (3 : Int32)), (.int (1000 : Int32))]) (rest := []) (lenOf pd__Ljava_lang_String_IIII_Z rfl) rfl (by show 2 * 0 + _ ≤ _; exact Nat.le_of_eq rfl) (hb hby at_89) (fun _ _ => ⟨rfl, E63, (by decide : 7 + 0 ≤ _), (by decide : 65 + 0 ≤ _)⟩)
  dsimp only [Pt.U, Pt.locs, Pt.cells, Pt.slots] at X67 l67 y67 z67 st67 hQ67
  subst l67 y67 z67
  obtain ⟨rfl, N67q, E67⟩ := hQ67
  have N67 := Fr.app N63 N67q
  obtain ⟨_, _, ⟨T71, L71, k71, n71⟩, -, X71, ⟨Lc71, hQ71, l71, y71, z71⟩, st71⟩ := Jvm.LawKit.callS X67 hx (y := (⟨cs9, "at", cs13⟩ : MethodName)) ho16 (mvT hZ16 (ww hw 198 rfl)) (mvT hZ16 (ww hw 199 rfl)) (mvT hZ16 (ww hw 168 rfl)) (mvT hZ16 (ww hw 200 rfl)) (by decide) (backOf (W := 0) (rm37_1 l Z a0 hw [] b16_1 (6 : Int32) x1 (4 : Int32) (10000 : Int32) x2 (0 : Int32) b16_2 (((1 : Int32) + (SBG.strSizeOf x1)) - (0 : Int32)) k16_0 t8 u9 (own_at t8 (((6 : Int32) - (4 : Int32))).toNatClampNeg) T16.heap n0 o33 (by decide : (4 : Int32) < (6 : Int32)) f21 f2 hc3 f22 (by decide : (0 : Int32) = (0 : Int32)) f23 f32 f45 hc46 (by decide : ¬ (((6 : Int32) - (4 : Int32)) < (0 : Int32))) hc68 hc69 (by decide : ¬ ((10000 : Int32) = (0 : Int32))) hc70) hZ16 (ww hw 200 rfl) (ww hw 168 rfl) (by decide) (by decide)) (g := (mkF m 102 #[.val (.int x0), .val (.int x1), .val (.ref b16_1), .val (.int (6 : Int32))] [(.int (10000 : Int32)), (.int (4 : Int32)), (.int x1), (.int (6 : Int32)), (.ref b16_1)])) rfl (by rw [hml]; rfl) (argsL := [(.ref b16_1), (.int (6 : Int32)), (.int x1), (.int (4 : Int32)), (.int (10000 : Int32))]) (rest := []) (lenOf pd__Ljava_lang_String_IIII_Z rfl) rfl (by show 2 * 0 + _ ≤ _; exact Nat.le_of_eq rfl) (hb hby at_102) (fun _ _ => ⟨rfl, E67, (by decide : 7 + 0 ≤ _), (by decide : 65 + 0 ≤ _)⟩)
  dsimp only [Pt.U, Pt.locs, Pt.cells, Pt.slots] at X71 l71 y71 z71 st71 hQ71
  subst l71 y71 z71
  obtain ⟨rfl, N71q, E71⟩ := hQ71
  have N71 := Fr.app N67 N71q
  obtain ⟨_, _, ⟨T75, L75, k75, n75⟩, -, X75, ⟨Lc75, hQ75, l75, y75, z75⟩, st75⟩ := Jvm.LawKit.callS X71 hx (y := (⟨cs9, "at", cs13⟩ : MethodName)) ho16 (mvT hZ16 (ww hw 198 rfl)) (mvT hZ16 (ww hw 199 rfl)) (mvT hZ16 (ww hw 168 rfl)) (mvT hZ16 (ww hw 200 rfl)) (by decide) (backOf (W := 0) (rm37_1 l Z a0 hw [] b16_1 (6 : Int32) x1 (5 : Int32) (100000 : Int32) x2 (0 : Int32) b16_2 (((1 : Int32) + (SBG.strSizeOf x1)) - (0 : Int32)) k16_0 t8 u9 (own_at t8 (((6 : Int32) - (5 : Int32))).toNatClampNeg) T16.heap n0 o33 (by decide : (5 : Int32) < (6 : Int32)) f21 f2 hc3 f22 (by decide : (0 : Int32) = (0 : Int32)) f23 f32 f45 hc46 (by decide : ¬ (((6 : Int32) - (5 : Int32)) < (0 : Int32))) hc72 hc73 (by decide : ¬ ((100000 : Int32) = (0 : Int32))) hc74) hZ16 (ww hw 200 rfl) (ww hw 168 rfl) (by decide) (by decide)) (g := (mkF m 114 #[.val (.int x0), .val (.int x1), .val (.ref b16_1), .val (.int (6 : Int32))] [(.int (100000 : Int32)), (.int (5 : Int32)), (.int x1), (.int (6 : Int32)), (.ref b16_1)])) rfl (by rw [hml]; rfl) (argsL := [(.ref b16_1), (.int (6 : Int32)), (.int x1), (.int (5 : Int32)), (.int (100000 : Int32))]) (rest := []) (lenOf pd__Ljava_lang_String_IIII_Z rfl) rfl (by show 2 * 0 + _ ≤ _; exact Nat.le_of_eq rfl) (hb hby at_114) (fun _ _ => ⟨rfl, E71, (by decide : 7 + 0 ≤ _), (by decide : 65 + 0 ≤ _)⟩)
  dsimp only [Pt.U, Pt.locs, Pt.cells, Pt.slots] at X75 l75 y75 z75 st75 hQ75
  subst l75 y75 z75
  obtain ⟨rfl, N75q, E75⟩ := hQ75
  have N75 := Fr.app N71 N75q
  obtain ⟨_, _, ⟨T76, L76, k76, n76⟩, -, X76, ⟨Lc76, hQ76, l76, y76, z76⟩, st76⟩ := Jvm.LawKit.callS X75 hx (y := (⟨cs9, "at", cs13⟩ : MethodName)) ho16 (mvT hZ16 (ww hw 198 rfl)) (mvT hZ16 (ww hw 199 rfl)) (mvT hZ16 (ww hw 168 rfl)) (mvT hZ16 (ww hw 200 rfl)) (by decide) (backOf (W := 0) (rm37_2 l Z a0 hw [] b16_1 (6 : Int32) x1 (6 : Int32) (1000000 : Int32) T16.heap n0 o33 (by decide : ¬ ((6 : Int32) < (6 : Int32)))) hZ16 (ww hw 200 rfl) (ww hw 168 rfl) (by decide) (by decide)) (g := (mkF m 127 #[.val (.int x0), .val (.int x1), .val (.ref b16_1), .val (.int (6 : Int32))] [(.int (1000000 : Int32)), (.int (6 : Int32)), (.int x1), (.int (6 : Int32)), (.ref b16_1)])) rfl (by rw [hml]; rfl) (argsL := [(.ref b16_1), (.int (6 : Int32)), (.int x1), (.int (6 : Int32)), (.int (1000000 : Int32))]) (rest := []) (lenOf pd__Ljava_lang_String_IIII_Z rfl) rfl (by show 2 * 0 + _ ≤ _; exact Nat.le_of_eq rfl) (hb hby at_127) (fun _ _ => ⟨rfl, E75, (by decide : 7 + 0 ≤ _), (by decide : 65 + 0 ≤ _)⟩)
  dsimp only [Pt.U, Pt.locs, Pt.cells, Pt.slots] at X76 l76 y76 z76 st76 hQ76
  subst l76 y76 z76
  obtain ⟨rfl, N76q, E76⟩ := hQ76
  have N76 := Fr.app N75 N76q
  obtain ⟨_, _, ⟨T77, L77, k77, n77⟩, -, X77, ⟨Lc77, hQ77, l77, y77, z77⟩, st77⟩ := Jvm.LawKit.callS X76 hx (y := (⟨cs9, "at", cs13⟩ : MethodName)) ho16 (mvT hZ16 (ww hw 198 rfl)) (mvT hZ16 (ww hw 199 rfl)) (mvT hZ16 (ww hw 168 rfl)) (mvT hZ16 (ww hw 200 rfl)) (by decide) (backOf (W := 0) (rm37_2 l Z a0 hw [] b16_1 (6 : Int32) x1 (7 : Int32) (10000000 : Int32) T16.heap n0 o33 (by decide : ¬ ((7 : Int32) < (6 : Int32)))) hZ16 (ww hw 200 rfl) (ww hw 168 rfl) (by decide) (by decide)) (g := (mkF m 140 #[.val (.int x0), .val (.int x1), .val (.ref b16_1), .val (.int (6 : Int32))] [(.int (10000000 : Int32)), (.int (7 : Int32)), (.int x1), (.int (6 : Int32)), (.ref b16_1)])) rfl (by rw [hml]; rfl) (argsL := [(.ref b16_1), (.int (6 : Int32)), (.int x1), (.int (7 : Int32)), (.int (10000000 : Int32))]) (rest := []) (lenOf pd__Ljava_lang_String_IIII_Z rfl) rfl (by show 2 * 0 + _ ≤ _; exact Nat.le_of_eq rfl) (hb hby at_140) (fun _ _ => ⟨rfl, E76, (by decide : 7 + 0 ≤ _), (by decide : 65 + 0 ≤ _)⟩)
  dsimp only [Pt.U, Pt.locs, Pt.cells, Pt.slots] at X77 l77 y77 z77 st77 hQ77
  subst l77 y77 z77
  obtain ⟨rfl, N77q, E77⟩ := hQ77
  have N77 := Fr.app N76 N77q
  obtain ⟨_, _, ⟨T78, L78, k78, n78⟩, -, X78, ⟨Lc78, hQ78, l78, y78, z78⟩, st78⟩ := Jvm.LawKit.callS X77 hx (y := (⟨cs9, "at", cs13⟩ : MethodName)) ho16 (mvT hZ16 (ww hw 198 rfl)) (mvT hZ16 (ww hw 199 rfl)) (mvT hZ16 (ww hw 168 rfl)) (mvT hZ16 (ww hw 200 rfl)) (by decide) (backOf (W := 0) (rm37_2 l Z a0 hw [] b16_1 (6 : Int32) x1 (8 : Int32) (100000000 : Int32) T16.heap n0 o33 (by decide : ¬ ((8 : Int32) < (6 : Int32)))) hZ16 (ww hw 200 rfl) (ww hw 168 rfl) (by decide) (by decide)) (g := (mkF m 153 #[.val (.int x0), .val (.int x1), .val (.ref b16_1), .val (.int (6 : Int32))] [(.int (100000000 : Int32)), (.int (8 : Int32)), (.int x1), (.int (6 : Int32)), (.ref b16_1)])) rfl (by rw [hml]; rfl) (argsL := [(.ref b16_1), (.int (6 : Int32)), (.int x1), (.int (8 : Int32)), (.int (100000000 : Int32))]) (rest := []) (lenOf pd__Ljava_lang_String_IIII_Z rfl) rfl (by show 2 * 0 + _ ≤ _; exact Nat.le_of_eq rfl) (hb hby at_153) (fun _ _ => ⟨rfl, E77, (by decide : 7 + 0 ≤ _), (by decide : 65 + 0 ≤ _)⟩)
  dsimp only [Pt.U, Pt.locs, Pt.cells, Pt.slots] at X78 l78 y78 z78 st78 hQ78
  subst l78 y78 z78
  obtain ⟨rfl, N78q, E78⟩ := hQ78
  have N78 := Fr.app N77 N78q
  obtain ⟨_, _, ⟨T79, L79, k79, n79⟩, -, X79, ⟨Lc79, hQ79, l79, y79, z79⟩, st79⟩ := Jvm.LawKit.callS X78 hx (y := (⟨cs9, "at", cs13⟩ : MethodName)) ho16 (mvT hZ16 (ww hw 198 rfl)) (mvT hZ16 (ww hw 199 rfl)) (mvT hZ16 (ww hw 168 rfl)) (mvT hZ16 (ww hw 200 rfl)) (by decide) (backOf (W := 0) (rm37_2 l Z a0 hw [] b16_1 (6 : Int32) x1 (9 : Int32) (1000000000 : Int32) T16.heap n0 o33 (by decide : ¬ ((9 : Int32) < (6 : Int32)))) hZ16 (ww hw 200 rfl) (ww hw 168 rfl) (by decide) (by decide)) (g := (mkF m 166 #[.val (.int x0), .val (.int x1), .val (.ref b16_1), .val (.int (6 : Int32))] [(.int (1000000000 : Int32)), (.int (9 : Int32)), (.int x1), (.int (6 : Int32)), (.ref b16_1)])) rfl (by rw [hml]; rfl) (argsL := [(.ref b16_1), (.int (6 : Int32)), (.int x1), (.int (9 : Int32)), (.int (1000000000 : Int32))]) (rest := []) (lenOf pd__Ljava_lang_String_IIII_Z rfl) rfl (by show 2 * 0 + _ ≤ _; exact Nat.le_of_eq rfl) (hb hby at_166) (fun _ _ => ⟨rfl, E78, (by decide : 7 + 0 ≤ _), (by decide : 65 + 0 ≤ _)⟩)
  dsimp only [Pt.U, Pt.locs, Pt.cells, Pt.slots] at X79 l79 y79 z79 st79 hQ79
  subst l79 y79 z79
  obtain ⟨rfl, N79q, E79⟩ := hQ79
  have N79 := Fr.app N78 N79q
  obtain ⟨fs, hr, hrun, hended, hend⟩ := leaveW (s := s) (vm₁ := T16.vm) X79 hS16 (by rw [E79]; exact (Nat.le_refl _)) (v := some (.int (1 : Int32))) (fun h => by rw [Bd.returns] at h; cases h)
  have hCR : CHr Z consts_1 s.vm s.heap T79.vm T79.heap := by rw [hh, E79]; exact CHr.trans R30 (CHv.at (s := s) (vm0 := T16.vm) X79 hZ16 hEL R30.1)
  refine ⟨_, _, pre0 _ ?_, hrun, hended, _, _, rfl, ?_, hCR, hend.1, hend.2.1, hend.2.2.1, hend.2.2.2.mono (by decide) (by decide)⟩
  · show Steps p.tables e below (s₁.setTop (mkF m 0 #[.val (.int x0), .unset, .unset, .unset] [])) _
    refine XS.iconst X0.here hx rfl (hb hby at_0) ?_
    refine XS.iloadN X0.here hx rfl (hb hby at_1) rfl ?_
    refine X0.ldcInt hx hown (mvT hZ (ww hw 0 rfl)) (g := (mkF m 2 #[.val (.int x0), .unset, .unset, .unset] [(.int x0), (.int (1 : Int32))])) rfl (hb hby at_2) _ ?_
    show Steps p.tables e below (s₁.setTop (mkF m 4 #[.val (.int x0), .unset, .unset, .unset] [(.int (2147483647 : Int32)), (.int x0), (.int (1 : Int32))])) _
    refine XS.iand X0.here hx rfl (hb hby at_4) rfl ?_
    refine X0.ldcInt hx hown (mvT hZ (ww hw 0 rfl)) (g := (mkF m 5 #[.val (.int x0), .unset, .unset, .unset] [(.int (x0 &&& (2147483647 : Int32))), (.int (1 : Int32))])) rfl (hb hby at_5) _ ?_
    show Steps p.tables e below (s₁.setTop (mkF m 7 #[.val (.int x0), .unset, .unset, .unset] [(.int (2147483647 : Int32)), (.int (x0 &&& (2147483647 : Int32))), (.int (1 : Int32))])) _
    refine iremM (g := (mkF m 7 #[.val (.int x0), .unset, .unset, .unset] [(.int (2147483647 : Int32)), (.int (x0 &&& (2147483647 : Int32))), (.int (1 : Int32))])) X0 hx rfl (hb hby at_7) rfl (by decide : ¬ ((2147483647 : Int32) = (0 : Int32))) ?_
    show Steps p.tables e below (s₁.setTop (mkF m 8 #[.val (.int x0), .unset, .unset, .unset] [(.int ((x0 &&& (2147483647 : Int32)) % (2147483647 : Int32))), (.int (1 : Int32))])) _
    refine XS.iadd X0.here hx rfl (hb hby at_8) rfl ?_
    show Steps p.tables e below (s₁.setTop (mkF m 9 #[.val (.int x0), .unset, .unset, .unset] [(.int ((1 : Int32) + ((x0 &&& (2147483647 : Int32)) % (2147483647 : Int32))))])) _
    rw [hq1]
    show Steps p.tables e below (s₁.setTop (mkF m 9 #[.val (.int x0), .unset, .unset, .unset] [(.int x1)])) _
    refine XS.istoreN X0.here hx rfl (hb hby at_9) rfl (l' := #[.val (.int x0), .val (.int x1), .unset, .unset]) rfl ?_
    refine XS.iloadN X0.here hx rfl (hb hby at_10) rfl ?_
    refine st16.trans ?_
    show Steps p.tables e below (T16.setTop (mkF m 14 #[.val (.int x0), .val (.int x1), .unset, .unset] [(.ref b16_0)])) _
    refine st34.trans ?_
    show Steps p.tables e below (T34.setTop (mkF m 17 #[.val (.int x0), .val (.int x1), .unset, .unset] [(.ref b16_1)])) _
    refine XS.astoreN X34.here hx rfl (hb hby at_17) rfl rfl (l' := #[.val (.int x0), .val (.int x1), .val (.ref b16_1), .unset]) rfl ?_
    refine XS.iloadN X34.here hx rfl (hb hby at_18) rfl ?_
    refine st41 _ ?_
    show Steps p.tables e below (T41.setTop (mkF m 22 #[.val (.int x0), .val (.int x1), .val (.ref b16_1), .unset] [(.int (6 : Int32))])) _
    refine XS.istoreN X41.here hx rfl (hb hby at_22) rfl (l' := #[.val (.int x0), .val (.int x1), .val (.ref b16_1), .val (.int (6 : Int32))]) rfl ?_
    refine XS.aloadN X41.here hx rfl (hb hby at_23) rfl rfl ?_
    refine st42.trans ?_
    show Steps p.tables e below (T42.setTop (mkF m 27 #[.val (.int x0), .val (.int x1), .val (.ref b16_1), .val (.int (6 : Int32))] [(.int ((((1 : Int32) + (SBG.strSizeOf x1)) - (0 : Int32)) >>> ((nar .byte (0 : Int32)) &&& 31)))])) _
    refine XS.iloadN X42.here hx rfl (hb hby at_27) rfl ?_
    refine XS.iconst X42.here hx rfl (hb hby at_28) ?_
    refine XS.iadd X42.here hx rfl (hb hby at_29) rfl ?_
    refine XS.icmpYes X42.here hx rfl (pc0 := 30) (pc' := 35) rfl (hb hby at_30) rfl (teq hc44).1 (by decide) (by decide) ?_
    show Steps p.tables e below (T42.setTop (mkF m 35 #[.val (.int x0), .val (.int x1), .val (.ref b16_1), .val (.int (6 : Int32))] [])) _
    refine XS.aloadN X42.here hx rfl (hb hby at_35) rfl rfl ?_
    refine XS.iconst X42.here hx rfl (hb hby at_36) ?_
    refine st49.trans ?_
    show Steps p.tables e below (T49.setTop (mkF m 40 #[.val (.int x0), .val (.int x1), .val (.ref b16_1), .val (.int (6 : Int32))] [(.int (nar .char (nar .char (((own_at t8 ((0 : Int32)).toNatClampNeg) &&& (255 : Int32)).toUInt32.toUInt16.toUInt32.toInt32))))])) _
    refine XS.bipush X49.here hx rfl (hb hby at_40) ?_
    refine XS.icmpYes X49.here hx rfl (pc0 := 42) (pc' := 47) rfl (hb hby at_42) rfl (teq hc51).1 (by decide) (by decide) ?_
    show Steps p.tables e below (T49.setTop (mkF m 47 #[.val (.int x0), .val (.int x1), .val (.ref b16_1), .val (.int (6 : Int32))] [])) _
    refine XS.aloadN X49.here hx rfl (hb hby at_47) rfl rfl ?_
    refine XS.iloadN X49.here hx rfl (hb hby at_48) rfl ?_
    refine XS.iloadN X49.here hx rfl (hb hby at_49) rfl ?_
    refine XS.iconst X49.here hx rfl (hb hby at_50) ?_
    show Steps p.tables e below (T49.setTop (mkF m 51 #[.val (.int x0), .val (.int x1), .val (.ref b16_1), .val (.int (6 : Int32))] [(.int (0 : Int32)), (.int x1), (.int (6 : Int32)), (.ref b16_1)])) _
    refine XS.iconst X49.here hx rfl (hb hby at_51) ?_
    refine st55 _ ?_
    show Steps p.tables e below (T55.setTop (mkF m 55 #[.val (.int x0), .val (.int x1), .val (.ref b16_1), .val (.int (6 : Int32))] [(.int (1 : Int32))])) _
    refine XS.ifNo X55.here hx rfl (hb hby at_55) rfl ((if0 _ _).trans (feq (by decide : ¬ ((1 : Int32) = (0 : Int32)))).1) ?_
    refine XS.aloadN X55.here hx rfl (hb hby at_58) rfl rfl ?_
    refine XS.iloadN X55.here hx rfl (hb hby at_59) rfl ?_
    refine XS.iloadN X55.here hx rfl (hb hby at_60) rfl ?_
    show Steps p.tables e below (T55.setTop (mkF m 61 #[.val (.int x0), .val (.int x1), .val (.ref b16_1), .val (.int (6 : Int32))] [(.int x1), (.int (6 : Int32)), (.ref b16_1)])) _
    refine XS.iconst X55.here hx rfl (hb hby at_61) ?_
    refine XS.bipush X55.here hx rfl (hb hby at_62) ?_
    refine st59 _ ?_
    show Steps p.tables e below (T59.setTop (mkF m 67 #[.val (.int x0), .val (.int x1), .val (.ref b16_1), .val (.int (6 : Int32))] [(.int (1 : Int32))])) _
    refine XS.ifNo X59.here hx rfl (hb hby at_67) rfl ((if0 _ _).trans (feq (by decide : ¬ ((1 : Int32) = (0 : Int32)))).1) ?_
    refine XS.aloadN X59.here hx rfl (hb hby at_70) rfl rfl ?_
    refine XS.iloadN X59.here hx rfl (hb hby at_71) rfl ?_
    refine XS.iloadN X59.here hx rfl (hb hby at_72) rfl ?_
    show Steps p.tables e below (T59.setTop (mkF m 73 #[.val (.int x0), .val (.int x1), .val (.ref b16_1), .val (.int (6 : Int32))] [(.int x1), (.int (6 : Int32)), (.ref b16_1)])) _
    refine XS.iconst X59.here hx rfl (hb hby at_73) ?_
    refine XS.bipush X59.here hx rfl (hb hby at_74) ?_
    refine st63 _ ?_
    show Steps p.tables e below (T63.setTop (mkF m 79 #[.val (.int x0), .val (.int x1), .val (.ref b16_1), .val (.int (6 : Int32))] [(.int (1 : Int32))])) _
    refine XS.ifNo X63.here hx rfl (hb hby at_79) rfl ((if0 _ _).trans (feq (by decide : ¬ ((1 : Int32) = (0 : Int32)))).1) ?_
    refine XS.aloadN X63.here hx rfl (hb hby at_82) rfl rfl ?_
    refine XS.iloadN X63.here hx rfl (hb hby at_83) rfl ?_
    refine XS.iloadN X63.here hx rfl (hb hby at_84) rfl ?_
    show Steps p.tables e below (T63.setTop (mkF m 85 #[.val (.int x0), .val (.int x1), .val (.ref b16_1), .val (.int (6 : Int32))] [(.int x1), (.int (6 : Int32)), (.ref b16_1)])) _
    refine XS.iconst X63.here hx rfl (hb hby at_85) ?_
    refine XS.sipush X63.here hx rfl (hb hby at_86) ?_
    refine st67 _ ?_
    show Steps p.tables e below (T67.setTop (mkF m 92 #[.val (.int x0), .val (.int x1), .val (.ref b16_1), .val (.int (6 : Int32))] [(.int (1 : Int32))])) _
    refine XS.ifNo X67.here hx rfl (hb hby at_92) rfl ((if0 _ _).trans (feq (by decide : ¬ ((1 : Int32) = (0 : Int32)))).1) ?_
    refine XS.aloadN X67.here hx rfl (hb hby at_95) rfl rfl ?_
    refine XS.iloadN X67.here hx rfl (hb hby at_96) rfl ?_
    refine XS.iloadN X67.here hx rfl (hb hby at_97) rfl ?_
    show Steps p.tables e below (T67.setTop (mkF m 98 #[.val (.int x0), .val (.int x1), .val (.ref b16_1), .val (.int (6 : Int32))] [(.int x1), (.int (6 : Int32)), (.ref b16_1)])) _
    refine XS.iconst X67.here hx rfl (hb hby at_98) ?_
    refine XS.sipush X67.here hx rfl (hb hby at_99) ?_
    refine st71 _ ?_
    show Steps p.tables e below (T71.setTop (mkF m 105 #[.val (.int x0), .val (.int x1), .val (.ref b16_1), .val (.int (6 : Int32))] [(.int (1 : Int32))])) _
    refine XS.ifNo X71.here hx rfl (hb hby at_105) rfl ((if0 _ _).trans (feq (by decide : ¬ ((1 : Int32) = (0 : Int32)))).1) ?_
    refine XS.aloadN X71.here hx rfl (hb hby at_108) rfl rfl ?_
    refine XS.iloadN X71.here hx rfl (hb hby at_109) rfl ?_
    refine XS.iloadN X71.here hx rfl (hb hby at_110) rfl ?_
    show Steps p.tables e below (T71.setTop (mkF m 111 #[.val (.int x0), .val (.int x1), .val (.ref b16_1), .val (.int (6 : Int32))] [(.int x1), (.int (6 : Int32)), (.ref b16_1)])) _
    refine XS.iconst X71.here hx rfl (hb hby at_111) ?_
    refine X71.ldcInt hx ho16 (mvT hZ16 (ww hw 174 rfl)) (g := (mkF m 112 #[.val (.int x0), .val (.int x1), .val (.ref b16_1), .val (.int (6 : Int32))] [(.int (5 : Int32)), (.int x1), (.int (6 : Int32)), (.ref b16_1)])) rfl (hb hby at_112) _ ?_
    show Steps p.tables e below (T71.setTop (mkF m 114 #[.val (.int x0), .val (.int x1), .val (.ref b16_1), .val (.int (6 : Int32))] [(.int (100000 : Int32)), (.int (5 : Int32)), (.int x1), (.int (6 : Int32)), (.ref b16_1)])) _
    refine st75 _ ?_
    show Steps p.tables e below (T75.setTop (mkF m 117 #[.val (.int x0), .val (.int x1), .val (.ref b16_1), .val (.int (6 : Int32))] [(.int (1 : Int32))])) _
    refine XS.ifNo X75.here hx rfl (hb hby at_117) rfl ((if0 _ _).trans (feq (by decide : ¬ ((1 : Int32) = (0 : Int32)))).1) ?_
    refine XS.aloadN X75.here hx rfl (hb hby at_120) rfl rfl ?_
    refine XS.iloadN X75.here hx rfl (hb hby at_121) rfl ?_
    refine XS.iloadN X75.here hx rfl (hb hby at_122) rfl ?_
    show Steps p.tables e below (T75.setTop (mkF m 123 #[.val (.int x0), .val (.int x1), .val (.ref b16_1), .val (.int (6 : Int32))] [(.int x1), (.int (6 : Int32)), (.ref b16_1)])) _
    refine XS.bipush X75.here hx rfl (hb hby at_123) ?_
    refine X75.ldcInt hx ho16 (mvT hZ16 (ww hw 173 rfl)) (g := (mkF m 125 #[.val (.int x0), .val (.int x1), .val (.ref b16_1), .val (.int (6 : Int32))] [(.int (6 : Int32)), (.int x1), (.int (6 : Int32)), (.ref b16_1)])) rfl (hb hby at_125) _ ?_
    show Steps p.tables e below (T75.setTop (mkF m 127 #[.val (.int x0), .val (.int x1), .val (.ref b16_1), .val (.int (6 : Int32))] [(.int (1000000 : Int32)), (.int (6 : Int32)), (.int x1), (.int (6 : Int32)), (.ref b16_1)])) _
    refine st76 _ ?_
    show Steps p.tables e below (T76.setTop (mkF m 130 #[.val (.int x0), .val (.int x1), .val (.ref b16_1), .val (.int (6 : Int32))] [(.int (1 : Int32))])) _
    refine XS.ifNo X76.here hx rfl (hb hby at_130) rfl ((if0 _ _).trans (feq (by decide : ¬ ((1 : Int32) = (0 : Int32)))).1) ?_
    refine XS.aloadN X76.here hx rfl (hb hby at_133) rfl rfl ?_
    refine XS.iloadN X76.here hx rfl (hb hby at_134) rfl ?_
    refine XS.iloadN X76.here hx rfl (hb hby at_135) rfl ?_
    show Steps p.tables e below (T76.setTop (mkF m 136 #[.val (.int x0), .val (.int x1), .val (.ref b16_1), .val (.int (6 : Int32))] [(.int x1), (.int (6 : Int32)), (.ref b16_1)])) _
    refine XS.bipush X76.here hx rfl (hb hby at_136) ?_
    refine X76.ldcInt hx ho16 (mvT hZ16 (ww hw 172 rfl)) (g := (mkF m 138 #[.val (.int x0), .val (.int x1), .val (.ref b16_1), .val (.int (6 : Int32))] [(.int (7 : Int32)), (.int x1), (.int (6 : Int32)), (.ref b16_1)])) rfl (hb hby at_138) _ ?_
    show Steps p.tables e below (T76.setTop (mkF m 140 #[.val (.int x0), .val (.int x1), .val (.ref b16_1), .val (.int (6 : Int32))] [(.int (10000000 : Int32)), (.int (7 : Int32)), (.int x1), (.int (6 : Int32)), (.ref b16_1)])) _
    refine st77 _ ?_
    show Steps p.tables e below (T77.setTop (mkF m 143 #[.val (.int x0), .val (.int x1), .val (.ref b16_1), .val (.int (6 : Int32))] [(.int (1 : Int32))])) _
    refine XS.ifNo X77.here hx rfl (hb hby at_143) rfl ((if0 _ _).trans (feq (by decide : ¬ ((1 : Int32) = (0 : Int32)))).1) ?_
    refine XS.aloadN X77.here hx rfl (hb hby at_146) rfl rfl ?_
    refine XS.iloadN X77.here hx rfl (hb hby at_147) rfl ?_
    refine XS.iloadN X77.here hx rfl (hb hby at_148) rfl ?_
    show Steps p.tables e below (T77.setTop (mkF m 149 #[.val (.int x0), .val (.int x1), .val (.ref b16_1), .val (.int (6 : Int32))] [(.int x1), (.int (6 : Int32)), (.ref b16_1)])) _
    refine XS.bipush X77.here hx rfl (hb hby at_149) ?_
    refine X77.ldcInt hx ho16 (mvT hZ16 (ww hw 171 rfl)) (g := (mkF m 151 #[.val (.int x0), .val (.int x1), .val (.ref b16_1), .val (.int (6 : Int32))] [(.int (8 : Int32)), (.int x1), (.int (6 : Int32)), (.ref b16_1)])) rfl (hb hby at_151) _ ?_
    show Steps p.tables e below (T77.setTop (mkF m 153 #[.val (.int x0), .val (.int x1), .val (.ref b16_1), .val (.int (6 : Int32))] [(.int (100000000 : Int32)), (.int (8 : Int32)), (.int x1), (.int (6 : Int32)), (.ref b16_1)])) _
    refine st78 _ ?_
    show Steps p.tables e below (T78.setTop (mkF m 156 #[.val (.int x0), .val (.int x1), .val (.ref b16_1), .val (.int (6 : Int32))] [(.int (1 : Int32))])) _
    refine XS.ifNo X78.here hx rfl (hb hby at_156) rfl ((if0 _ _).trans (feq (by decide : ¬ ((1 : Int32) = (0 : Int32)))).1) ?_
    refine XS.aloadN X78.here hx rfl (hb hby at_159) rfl rfl ?_
    refine XS.iloadN X78.here hx rfl (hb hby at_160) rfl ?_
    refine XS.iloadN X78.here hx rfl (hb hby at_161) rfl ?_
    show Steps p.tables e below (T78.setTop (mkF m 162 #[.val (.int x0), .val (.int x1), .val (.ref b16_1), .val (.int (6 : Int32))] [(.int x1), (.int (6 : Int32)), (.ref b16_1)])) _
    refine XS.bipush X78.here hx rfl (hb hby at_162) ?_
    refine X78.ldcInt hx ho16 (mvT hZ16 (ww hw 170 rfl)) (g := (mkF m 164 #[.val (.int x0), .val (.int x1), .val (.ref b16_1), .val (.int (6 : Int32))] [(.int (9 : Int32)), (.int x1), (.int (6 : Int32)), (.ref b16_1)])) rfl (hb hby at_164) _ ?_
    show Steps p.tables e below (T78.setTop (mkF m 166 #[.val (.int x0), .val (.int x1), .val (.ref b16_1), .val (.int (6 : Int32))] [(.int (1000000000 : Int32)), (.int (9 : Int32)), (.int x1), (.int (6 : Int32)), (.ref b16_1)])) _
    refine st79 _ ?_
    show Steps p.tables e below (T79.setTop (mkF m 169 #[.val (.int x0), .val (.int x1), .val (.ref b16_1), .val (.int (6 : Int32))] [(.int (1 : Int32))])) _
    refine XS.ifNo X79.here hx rfl (hb hby at_169) rfl ((if0 _ _).trans (feq (by decide : ¬ ((1 : Int32) = (0 : Int32)))).1) ?_
    refine XS.iconst X79.here hx rfl (hb hby at_172) ?_
    refine XS.goto X79.here hx rfl (pc0 := 173) (pc' := 177) rfl (hb hby at_173) (by decide) (by decide) ?_
    show Steps p.tables e below (T79.setTop (mkF m 177 #[.val (.int x0), .val (.int x1), .val (.ref b16_1), .val (.int (6 : Int32))] [(.int (1 : Int32))])) _
    exact retN X79 hx (t := .boolean) Bd.returns (by simp) (hb hby at_177) hr
  · show Q0_6 Z x0 x1 x2 r3 r4 d5 r6 d7 t8 u9 h0 n0 _ T79.heap _
    rw [E79]
    exact ⟨rfl, N79⟩
theorem d31_33 : decode method_3_code 33 = .ok (.bipush 7, 2) := by decide +kernel
theorem d31_35 : decode method_3_code 35 = .ok (.ireturn, 1) := by decide +kernel
def Q31_7 (Z : State) (x0 : Int32) (h0 : Heap) (n0 : Nat) (v : Option Value) (h : Heap) (L : List Loc) : Prop := v = some (.int (7 : Int32)) ∧ Fr n0 L ∧ h = h0
set_option maxRecDepth 65536 in
set_option maxHeartbeats 40000000 in
theorem rm31_7 (l : Launch) (Z : State) (a0 : Array Value) (hw : ∀ d ∈ tables_1, d.before a0 Z = true) (ws : List Jvm.Cond) (x0 : Int32) (h0 : Heap) (n0 : Nat) (O0 : Old Z n0 h0) (hc1 : x0 < (1000000000 : Int32)) (hc2 : x0 < (100000000 : Int32)) (hc3 : x0 < (10000000 : Int32)) (hc4 : ¬ (x0 < (1000000 : Int32))) :
    MetFree l (⟨cs9, "digits", "(I)I"⟩ : MethodName) (head1 (Jvm.Cond.code (⟨cs9, "digits", "(I)I"⟩ : MethodName) method_3_code 1 (some .int) :: ws) ({ frames := 0, cells := 0, slots := 0, locals := 0 } : Room)) (fun a U => a = #[(.int x0)] ∧ Z.Warmed39 U.vm ∧ U.heap = h0) (fun _ _ _ _ _ => True) (fun _ U o U' => ∃ v L, o = .returned v ∧ Q31_7 Z x0 h0 n0 v U'.heap L ∧ FrameEnd U o U' L ({ frames := 0, cells := 0, slots := 0, locals := 0 } : Room).cells ({ frames := 0, cells := 0, slots := 0, locals := 0 } : Room).slots) := by
  refine MetFree.of_bodySF (plainFor_of_name pn_com_example_manojo_manojo_ParameterPositionalPinLaw) hisR ?_
  intro p e s m args below meth c s₁ Bd hml0 hP hK
  obtain ⟨rfl, hZ, hh⟩ := hP
  have hx := Bd.exec
  have hby := Bd.bytes
  have hml : c.maxLocals = 1 := hml0
  have hown : s.vm.findClass cs9 = some m.cls := findClass_of_methodNamed Bd.named
  have hnm := (name_of_methodNamed Bd.named Bd.method).1
  have X0 : Stand p l e ({ frames := 0, cells := 0, slots := 0, locals := 0 } : Room) s m #[(.int x0)] below meth c s₁ [] 0 0 := Stand.of_body Bd
  have e0 : s₁.heap = h0 := by rw [← hh, Bd.state]; rfl
  have N0 := Fr.nil n0
  have pre0 : ∀ t, Steps p.tables e below (s₁.setTop (mkF m 0 #[.val (.int x0)] [])) t → Steps p.tables e below (s₁.setTop (entryFrame m #[(.int x0)] 1)) t := fun t k => castTop (by first | (simp [entryFrame, mkF, argsToLocals, Value.category]; done) | rfl) k
  obtain ⟨fs, hr, hrun, hended, hW, hsame⟩ := X0.leave (v := some (.int (7 : Int32))) (fun h => by rw [Bd.returns] at h; cases h)
  refine ⟨_, _, pre0 _ ?_, hrun, hended, _, _, rfl, ?_, ⟨_, rfl⟩, hW, hsame.mono (by decide) (by decide)⟩
  · show Steps p.tables e below (s₁.setTop (mkF m 0 #[.val (.int x0)] [])) _
    refine XS.iloadN X0.here hx rfl (hb hby d31_0) rfl ?_
    refine X0.ldcInt hx hown (mvT hZ (ww hw 170 rfl)) (g := (mkF m 1 #[.val (.int x0)] [(.int x0)])) rfl (hb hby d31_1) _ ?_
    show Steps p.tables e below (s₁.setTop (mkF m 3 #[.val (.int x0)] [(.int (1000000000 : Int32)), (.int x0)])) _
    refine XS.icmpYes X0.here hx rfl (pc0 := 3) (pc' := 9) rfl (hb hby d31_3) rfl (tlt hc1).1 (by decide) (by decide) ?_
    show Steps p.tables e below (s₁.setTop (mkF m 9 #[.val (.int x0)] [])) _
    refine XS.iloadN X0.here hx rfl (hb hby d31_9) rfl ?_
    refine X0.ldcInt hx hown (mvT hZ (ww hw 171 rfl)) (g := (mkF m 10 #[.val (.int x0)] [(.int x0)])) rfl (hb hby d31_10) _ ?_
    show Steps p.tables e below (s₁.setTop (mkF m 12 #[.val (.int x0)] [(.int (100000000 : Int32)), (.int x0)])) _
    refine XS.icmpYes X0.here hx rfl (pc0 := 12) (pc' := 18) rfl (hb hby d31_12) rfl (tlt hc2).1 (by decide) (by decide) ?_
    show Steps p.tables e below (s₁.setTop (mkF m 18 #[.val (.int x0)] [])) _
    refine XS.iloadN X0.here hx rfl (hb hby d31_18) rfl ?_
    refine X0.ldcInt hx hown (mvT hZ (ww hw 172 rfl)) (g := (mkF m 19 #[.val (.int x0)] [(.int x0)])) rfl (hb hby d31_19) _ ?_
    show Steps p.tables e below (s₁.setTop (mkF m 21 #[.val (.int x0)] [(.int (10000000 : Int32)), (.int x0)])) _
    refine XS.icmpYes X0.here hx rfl (pc0 := 21) (pc' := 27) rfl (hb hby d31_21) rfl (tlt hc3).1 (by decide) (by decide) ?_
    show Steps p.tables e below (s₁.setTop (mkF m 27 #[.val (.int x0)] [])) _
    refine XS.iloadN X0.here hx rfl (hb hby d31_27) rfl ?_
    refine X0.ldcInt hx hown (mvT hZ (ww hw 173 rfl)) (g := (mkF m 28 #[.val (.int x0)] [(.int x0)])) rfl (hb hby d31_28) _ ?_
    show Steps p.tables e below (s₁.setTop (mkF m 30 #[.val (.int x0)] [(.int (1000000 : Int32)), (.int x0)])) _
    refine XS.icmpNo X0.here hx rfl (hb hby d31_30) rfl (flt hc4).1 ?_
    refine XS.bipush X0.here hx rfl (hb hby d31_33) ?_
    exact retOut X0 hx (i := .ireturn) Bd.returns rfl (Or.inl ⟨rfl, Or.inl rfl, _, rfl⟩) (hb hby d31_35) hr
  · show Q31_7 Z x0 h0 n0 _ s₁.heap _
    rw [e0]
    exact ⟨rfl, N0, rfl⟩
def Q0_7 (Z : State) (x0 : Int32) (x1 : Int32) (x2 : Int32) (r3 : Addr) (r4 : Addr) (d5 : Cell) (r6 : Addr) (d7 : Cell) (t8 : List Value) (u9 : Value) (h0 : Heap) (n0 : Nat) (v : Option Value) (h : Heap) (L : List Loc) : Prop := v = some (.int (1 : Int32)) ∧ Fr n0 L
set_option maxRecDepth 65536 in
set_option maxHeartbeats 40000000 in
theorem rm0_7 (l : Launch) (Z : State) (a0 : Array Value) (hw : ∀ d ∈ tables_1, d.before a0 Z = true) (ws : List Jvm.Cond) (x0 : Int32) (x1 : Int32) (x2 : Int32) (r3 : Addr) (r4 : Addr) (d5 : Cell) (r6 : Addr) (d7 : Cell) (t8 : List Value) (u9 : Value) (h0 : Heap) (n0 : Nat) (O0 : Old Z n0 h0) (hq1 : ((1 : Int32) + ((x0 &&& (2147483647 : Int32)) % (2147483647 : Int32))) = x1) (f2 : Sta Z Z.heap "java/lang/String" "COMPACT_STRINGS" "Z" (.int x2)) (hc3 : ¬ (x2 = (0 : Int32))) (hc4 : ¬ ((0 : Int32) < (((1 : Int32) + (SBG.strSizeOf x1)) - ((16 : Int32) >>> ((0 : Int32) &&& 31))))) (f5 : own_TB Z r3 r4 d5 r6 d7) (hc6 : ¬ (((1 : Int32) + (SBG.strSizeOf x1)) < 0)) (hc7 : (((1 : Int32) + (SBG.strSizeOf x1))).toNatClampNeg ≤ ((16 : Int32)).toNatClampNeg) (hc8 : own_sz x1 ≤ (((1 : Int32) + (SBG.strSizeOf x1))).toNatClampNeg) (hc9 : ¬ (((1 : Int32) + (SBG.strSizeOf x1)) = (16 : Int32))) (hc10 : ¬ (((1 : Int32) + (SBG.strSizeOf x1)) < (0 : Int32))) (hc11 : ¬ ((((1 : Int32) + (SBG.strSizeOf x1)) - (0 : Int32)) < 0)) (hc12 : ((((1 : Int32) + (SBG.strSizeOf x1)) - (0 : Int32))).toNatClampNeg ≤ 32) (hc13 : (((1 : Int32) + (SBG.strSizeOf x1)) - (0 : Int32)) < ((16 : Int32) - (0 : Int32))) (hc14 : ((((1 : Int32) + (SBG.strSizeOf x1)) - (0 : Int32))).toNatClampNeg ≤ ((16 : Int32)).toNatClampNeg) (hq31 : (own_us [(.int (63 : Int32)), (.int (0 : Int32)), (.int (0 : Int32)), (.int (0 : Int32)), (.int (0 : Int32)), (.int (0 : Int32)), (.int (0 : Int32)), (.int (0 : Int32)), (.int (0 : Int32)), (.int (0 : Int32)), (.int (0 : Int32)), (.int (0 : Int32)), (.int (0 : Int32)), (.int (0 : Int32)), (.int (0 : Int32)), (.int (0 : Int32))] (.int (0 : Int32)) ((16 : Int32)).toNatClampNeg x1 (((1 : Int32) + (SBG.strSizeOf x1))).toNatClampNeg) = t8) (hc36 : x1 < (1000000000 : Int32)) (hc37 : x1 < (100000000 : Int32)) (hc38 : x1 < (10000000 : Int32)) (hc39 : ¬ (x1 < (1000000 : Int32))) (hc43 : ((((1 : Int32) + (SBG.strSizeOf x1)) - (0 : Int32)) >>> ((nar .byte (0 : Int32)) &&& 31)) = (8 : Int32)) (f44 : Sta Z Z.heap cs10 "SIOOBE_FORMATTER" cs12 u9) (hc45 : u9.isRef = true) (hc46 : (0 : Int32) < (((1 : Int32) + (SBG.strSizeOf x1)) - (0 : Int32))) (hc47 : t8.getD ((0 : Int32)).toNatClampNeg (.int (0 : Int32)) = (.int (own_at t8 ((0 : Int32)).toNatClampNeg))) (hc50 : (nar .char (nar .char (((own_at t8 ((0 : Int32)).toNatClampNeg) &&& (255 : Int32)).toUInt32.toUInt16.toUInt32.toInt32))) = (63 : Int32)) (hc51 : ((7 : Int32) - (0 : Int32)) < (((1 : Int32) + (SBG.strSizeOf x1)) - (0 : Int32))) (hc52 : t8.getD (((7 : Int32) - (0 : Int32))).toNatClampNeg (.int (0 : Int32)) = (.int (own_at t8 (((7 : Int32) - (0 : Int32))).toNatClampNeg))) (hc53 : (nar .char (nar .char (((own_at t8 (((7 : Int32) - (0 : Int32))).toNatClampNeg) &&& (255 : Int32)).toUInt32.toUInt16.toUInt32.toInt32))) = (((48 : Int32) + ((x1 / (1 : Int32)) % (10 : Int32))).toUInt32.toUInt16.toUInt32.toInt32)) (hc55 : ((7 : Int32) - (1 : Int32)) < (((1 : Int32) + (SBG.strSizeOf x1)) - (0 : Int32))) (hc56 : t8.getD (((7 : Int32) - (1 : Int32))).toNatClampNeg (.int (0 : Int32)) = (.int (own_at t8 (((7 : Int32) - (1 : Int32))).toNatClampNeg))) (hc57 : (nar .char (nar .char (((own_at t8 (((7 : Int32) - (1 : Int32))).toNatClampNeg) &&& (255 : Int32)).toUInt32.toUInt16.toUInt32.toInt32))) = (((48 : Int32) + ((x1 / (10 : Int32)) % (10 : Int32))).toUInt32.toUInt16.toUInt32.toInt32)) (hc59 : ((7 : Int32) - (2 : Int32)) < (((1 : Int32) + (SBG.strSizeOf x1)) - (0 : Int32))) (hc60 : t8.getD (((7 : Int32) - (2 : Int32))).toNatClampNeg (.int (0 : Int32)) = (.int (own_at t8 (((7 : Int32) - (2 : Int32))).toNatClampNeg))) (hc61 : (nar .char (nar .char (((own_at t8 (((7 : Int32) - (2 : Int32))).toNatClampNeg) &&& (255 : Int32)).toUInt32.toUInt16.toUInt32.toInt32))) = (((48 : Int32) + ((x1 / (100 : Int32)) % (10 : Int32))).toUInt32.toUInt16.toUInt32.toInt32)) (hc63 : ((7 : Int32) - (3 : Int32)) < (((1 : Int32) + (SBG.strSizeOf x1)) - (0 : Int32))) (hc64 : t8.getD (((7 : Int32) - (3 : Int32))).toNatClampNeg (.int (0 : Int32)) = (.int (own_at t8 (((7 : Int32) - (3 : Int32))).toNatClampNeg))) (hc65 : (nar .char (nar .char (((own_at t8 (((7 : Int32) - (3 : Int32))).toNatClampNeg) &&& (255 : Int32)).toUInt32.toUInt16.toUInt32.toInt32))) = (((48 : Int32) + ((x1 / (1000 : Int32)) % (10 : Int32))).toUInt32.toUInt16.toUInt32.toInt32)) (hc67 : ((7 : Int32) - (4 : Int32)) < (((1 : Int32) + (SBG.strSizeOf x1)) - (0 : Int32))) (hc68 : t8.getD (((7 : Int32) - (4 : Int32))).toNatClampNeg (.int (0 : Int32)) = (.int (own_at t8 (((7 : Int32) - (4 : Int32))).toNatClampNeg))) (hc69 : (nar .char (nar .char (((own_at t8 (((7 : Int32) - (4 : Int32))).toNatClampNeg) &&& (255 : Int32)).toUInt32.toUInt16.toUInt32.toInt32))) = (((48 : Int32) + ((x1 / (10000 : Int32)) % (10 : Int32))).toUInt32.toUInt16.toUInt32.toInt32)) (hc71 : ((7 : Int32) - (5 : Int32)) < (((1 : Int32) + (SBG.strSizeOf x1)) - (0 : Int32))) (hc72 : t8.getD (((7 : Int32) - (5 : Int32))).toNatClampNeg (.int (0 : Int32)) = (.int (own_at t8 (((7 : Int32) - (5 : Int32))).toNatClampNeg))) (hc73 : (nar .char (nar .char (((own_at t8 (((7 : Int32) - (5 : Int32))).toNatClampNeg) &&& (255 : Int32)).toUInt32.toUInt16.toUInt32.toInt32))) = (((48 : Int32) + ((x1 / (100000 : Int32)) % (10 : Int32))).toUInt32.toUInt16.toUInt32.toInt32)) (hc75 : ((7 : Int32) - (6 : Int32)) < (((1 : Int32) + (SBG.strSizeOf x1)) - (0 : Int32))) (hc76 : t8.getD (((7 : Int32) - (6 : Int32))).toNatClampNeg (.int (0 : Int32)) = (.int (own_at t8 (((7 : Int32) - (6 : Int32))).toNatClampNeg))) (hc77 : (nar .char (nar .char (((own_at t8 (((7 : Int32) - (6 : Int32))).toNatClampNeg) &&& (255 : Int32)).toUInt32.toUInt16.toUInt32.toInt32))) = (((48 : Int32) + ((x1 / (1000000 : Int32)) % (10 : Int32))).toUInt32.toUInt16.toUInt32.toInt32)) :
    MetFree l x (head1 (Jvm.Cond.code x code maxLocals ret :: ws) room_1) (fun a U => a = #[(.int x0)] ∧ Z.Warmed39 U.vm ∧ U.heap = h0 ∧ CHv Z consts_1 U.vm h0) (fun _ _ _ _ _ => True) (fun _ U o U' => ∃ v L, o = .returned v ∧ Q0_7 Z x0 x1 x2 r3 r4 d5 r6 d7 t8 u9 h0 n0 v U'.heap L ∧ CHr Z consts_1 U.vm U.heap U'.vm U'.heap ∧ ReturnedEndW U o U' L room_1.cells room_1.slots) := by
  refine MetFree.of_bodySF (plainFor_of_name pn_com_example_manojo_manojo_ParameterPositionalPinLaw) hisR ?_
  intro p e s m args below meth c s₁ Bd hml0 hP hK
  obtain ⟨rfl, hZ, hh, hC⟩ := hP
  have hx := Bd.exec
  have hby := Bd.bytes
  have hml : c.maxLocals = 4 := hml0
  have hown : s.vm.findClass cs9 = some m.cls := findClass_of_methodNamed Bd.named
  have hnm := (name_of_methodNamed Bd.named Bd.method).1
  have X0 : Stand p l e room_1 s m #[(.int x0)] below meth c s₁ [] 0 0 := Stand.of_body Bd
  have e0 : s₁.heap = h0 := by rw [← hh, Bd.state]; rfl
  have N0 := Fr.nil n0
  have pre0 : ∀ t, Steps p.tables e below (s₁.setTop (mkF m 0 #[.val (.int x0), .unset, .unset, .unset] [])) t → Steps p.tables e below (s₁.setTop (entryFrame m #[(.int x0)] maxLocals)) t := fun t k => castTop (by first | (simp [entryFrame, mkF, argsToLocals, Value.category, maxLocals]; done) | rfl) k
  have hEL : EW Z a0 consts_1 := own_EW hw
  have R0 := CHr.refl hC
  have hS15 := (State.WarmedH.refl s).since 0
  obtain ⟨_, _, ⟨T16, L16, k16, n16⟩, -, X16, hs16, hg16, ⟨Lc16, hQ16, l16, y16, z16, cr16⟩, st16⟩ := callSS X0 hx (y := (⟨cs7, "positional", cs8⟩ : MethodName)) hown (mvT hZ (ww hw 1 rfl)) (mvT hZ (ww hw 2 rfl)) (mvT hZ (ww hw 3 rfl)) (mvT hZ (ww hw 4 rfl)) (by decide) (backOfSH (s := s) (vm0 := s.vm) (W := 0) (rm1_1 l Z a0 hw [] x1 x2 r3 r4 d5 r6 d7 h0 n0 O0 f2 hc3 hc4 f5 hc6 hc7 hc8 hc9 hc10 hc11 hc12 hc13 hc14) hZ (ww hw 4 rfl) (ww hw 3 rfl) (by decide) (by decide) hEL R0.1) (g := (mkF m 11 #[.val (.int x0), .val (.int x1), .unset, .unset] [(.int x1)])) rfl (by rw [hml]; rfl) (argsL := [(.int x1)]) (rest := []) (lenOf pd__I_Lcom_example_manojo_manojo_QueryTree_Parameter_ rfl) rfl (by show 2 * 0 + _ ≤ _; exact Nat.le_of_eq rfl) (hb hby at_11) (fun _ _ => ⟨rfl, e0, (by decide : 0 + 7 ≤ _), (by decide : 0 + 65 ≤ _)⟩)
  dsimp only [Pt.U, Pt.locs, Pt.cells, Pt.slots] at X16 l16 y16 z16 st16 hQ16 hs16 hg16 cr16
  subst l16 y16 z16
  obtain ⟨X16, hS16, hZ16, ho16⟩ := rebS (s := s) (vm0 := s.vm) hS15 (by rw [e0]; exact (Nat.zero_le _)) X16 hs16 hg16 hZ hown
  obtain ⟨b16_0, b16_1, b16_2, k16_0, rfl, N16q, K16, f17, f18, f19, f20, f21, f22, f23, f24, f25, f26, f27, f28, f29⟩ := hQ16
  have N16 := Fr.app N0 N16q
  have R30 := CHr.trans R0 cr16
  have f32 : Arv Z T16.heap b16_2 k16_0 .byte (((1 : Int32) + (SBG.strSizeOf x1)) - (0 : Int32)) t8 (.int (0 : Int32)) := by rw [← hq31]; exact f25
  have o33 := Old.keep O0 K16 all0
  obtain ⟨cqq35, kqq35, qq35a, qq35b, qq35c⟩ := isOf hZ16 rfl f18
  obtain ⟨_, _, ⟨T34, L34, k34, n34⟩, -, X34, ⟨Lc34, hQ34, l34, y34, z34⟩, st34⟩ := X16.virtualBack hx (y := (⟨cs7, "name", "()Ljava/lang/String;"⟩ : MethodName)) (z := (⟨cs7, "name", "()Ljava/lang/String;"⟩ : MethodName)) ho16 (mvT hZ16 (ww hw 161 rfl)) (mvT hZ16 (ww hw 162 rfl)) (notFace_of_selects (args := #[]) (mvT hZ16 (ww hw 164 rfl))) (mvT hZ16 (ww hw 164 rfl)) (mvT hZ16 (ww hw 163 rfl)) (by decide) (backOf (W := 0) (rm30_1 l Z a0 hw [] b16_0 b16_1 T16.heap n0 o33 f19) hZ16 (ww hw 165 rfl) (ww hw 3 rfl) (by decide) (by decide)) qq35a qq35c (g := (mkF m 14 #[.val (.int x0), .val (.int x1), .unset, .unset] [(.ref b16_0)])) rfl (by rw [hml]; rfl) (Steps.refl _) (argsL := []) (rest := []) (lenOf pd___Ljava_lang_String_ rfl) rfl (by show 2 * 0 + _ ≤ _; exact Nat.le_of_eq rfl) (hb hby at_14) (fun _ _ => ⟨rfl, rfl, (by decide : 7 + 0 ≤ _), (by decide : 65 + 0 ≤ _)⟩)
  dsimp only [Pt.U, Pt.locs, Pt.cells, Pt.slots] at X34 l34 y34 z34 st34 hQ34
  subst l34 y34 z34
  obtain ⟨rfl, N34q, E34⟩ := hQ34
  have N34 := Fr.app N16 N34q
  obtain ⟨_, _, ⟨T40, L40, k40, n40⟩, -, X40, ⟨Lc40, hQ40, l40, y40, z40⟩, st40⟩ := Jvm.LawKit.callS X34 hx (y := (⟨cs9, "digits", "(I)I"⟩ : MethodName)) ho16 (mvT hZ16 (ww hw 166 rfl)) (mvT hZ16 (ww hw 167 rfl)) (mvT hZ16 (ww hw 168 rfl)) (mvT hZ16 (ww hw 169 rfl)) (by decide) (backOf (W := 0) (rm31_7 l Z a0 hw [] x1 T16.heap n0 o33 hc36 hc37 hc38 hc39) hZ16 (ww hw 169 rfl) (ww hw 168 rfl) (by decide) (by decide)) (g := (mkF m 19 #[.val (.int x0), .val (.int x1), .val (.ref b16_1), .unset] [(.int x1)])) rfl (by rw [hml]; rfl) (argsL := [(.int x1)]) (rest := []) (lenOf pd__I_I rfl) rfl (by show 2 * 0 + _ ≤ _; exact Nat.le_of_eq rfl) (hb hby at_19) (fun _ _ => ⟨rfl, E34, (by decide : 7 + 0 ≤ _), (by decide : 65 + 0 ≤ _)⟩)
  dsimp only [Pt.U, Pt.locs, Pt.cells, Pt.slots] at X40 l40 y40 z40 st40 hQ40
  subst l40 y40 z40
  obtain ⟨rfl, N40q, E40⟩ := hQ40
  have N40 := Fr.app N34 N40q
  obtain ⟨cqq42, kqq42, qq42a, qq42b, qq42c⟩ := isOf hZ16 E40 f21
  obtain ⟨_, _, ⟨T41, L41, k41, n41⟩, -, X41, ⟨Lc41, hQ41, l41, y41, z41⟩, st41⟩ := X40.virtualBack hx (y := (⟨"java/lang/String", "length", "()I"⟩ : MethodName)) (z := (⟨"java/lang/String", "length", "()I"⟩ : MethodName)) ho16 (mvT hZ16 (ww hw 175 rfl)) (mvT hZ16 (ww hw 46 rfl)) (notFace_of_selects (args := #[]) (mvT hZ16 (ww hw 48 rfl))) (mvT hZ16 (ww hw 48 rfl)) (mvT hZ16 (ww hw 47 rfl)) (by decide) (backOf (W := 0) (rm7_1 l Z a0 hw [] b16_1 b16_2 (((1 : Int32) + (SBG.strSizeOf x1)) - (0 : Int32)) k16_0 t8 x2 (0 : Int32) T16.heap n0 o33 f23 f32 f21 f2 hc3 f22) hZ16 (ww hw 49 rfl) (ww hw 23 rfl) (by decide) (by decide)) qq42a qq42c (g := (mkF m 24 #[.val (.int x0), .val (.int x1), .val (.ref b16_1), .val (.int (7 : Int32))] [(.ref b16_1)])) rfl (by rw [hml]; rfl) (Steps.refl _) (argsL := []) (rest := []) (lenOf pd___I rfl) rfl (by show 2 * 0 + _ ≤ _; exact Nat.le_of_eq rfl) (hb hby at_24) (fun _ _ => ⟨rfl, E40, (by decide : 7 + 0 ≤ _), (by decide : 65 + 0 ≤ _)⟩)
  dsimp only [Pt.U, Pt.locs, Pt.cells, Pt.slots] at X41 l41 y41 z41 st41 hQ41
  subst l41 y41 z41
  obtain ⟨rfl, N41q, E41⟩ := hQ41
  have N41 := Fr.app N40 N41q
  obtain ⟨cqq49, kqq49, qq49a, qq49b, qq49c⟩ := isOf hZ16 E41 f21
  obtain ⟨_, _, ⟨T48, L48, k48, n48⟩, -, X48, ⟨Lc48, hQ48, l48, y48, z48⟩, st48⟩ := X41.virtualBack hx (y := (⟨"java/lang/String", "charAt", "(I)C"⟩ : MethodName)) (z := (⟨"java/lang/String", "charAt", "(I)C"⟩ : MethodName)) ho16 (mvT hZ16 (ww hw 176 rfl)) (mvT hZ16 (ww hw 177 rfl)) (notFace_of_selects (args := #[]) (mvT hZ16 (ww hw 179 rfl))) (mvT hZ16 (ww hw 179 rfl)) (mvT hZ16 (ww hw 178 rfl)) (by decide) (backOf (W := 0) (rm32_1 l Z a0 hw [] b16_1 (0 : Int32) x2 (0 : Int32) b16_2 (((1 : Int32) + (SBG.strSizeOf x1)) - (0 : Int32)) k16_0 t8 u9 (own_at t8 ((0 : Int32)).toNatClampNeg) T16.heap n0 o33 f21 f2 hc3 f22 (by decide : (0 : Int32) = (0 : Int32)) f23 f32 f44 hc45 (by decide : ¬ ((0 : Int32) < (0 : Int32))) hc46 hc47) hZ16 (ww hw 180 rfl) (ww hw 23 rfl) (by decide) (by decide)) qq49a qq49c (g := (mkF m 37 #[.val (.int x0), .val (.int x1), .val (.ref b16_1), .val (.int (7 : Int32))] [(.int (0 : Int32)), (.ref b16_1)])) rfl (by rw [hml]; rfl) (Steps.refl _) (argsL := [(.int (0 : Int32))]) (rest := []) (lenOf pd__I_C rfl) rfl (by show 2 * 0 + _ ≤ _; exact Nat.le_of_eq rfl) (hb hby at_37) (fun _ _ => ⟨rfl, E41, (by decide : 7 + 0 ≤ _), (by decide : 65 + 0 ≤ _)⟩)
  dsimp only [Pt.U, Pt.locs, Pt.cells, Pt.slots] at X48 l48 y48 z48 st48 hQ48
  subst l48 y48 z48
  obtain ⟨rfl, N48q, E48⟩ := hQ48
  have N48 := Fr.app N41 N48q
  obtain ⟨_, _, ⟨T54, L54, k54, n54⟩, -, X54, ⟨Lc54, hQ54, l54, y54, z54⟩, st54⟩ := Jvm.LawKit.callS X48 hx (y := (⟨cs9, "at", cs13⟩ : MethodName)) ho16 (mvT hZ16 (ww hw 198 rfl)) (mvT hZ16 (ww hw 199 rfl)) (mvT hZ16 (ww hw 168 rfl)) (mvT hZ16 (ww hw 200 rfl)) (by decide) (backOf (W := 0) (rm37_1 l Z a0 hw [] b16_1 (7 : Int32) x1 (0 : Int32) (1 : Int32) x2 (0 : Int32) b16_2 (((1 : Int32) + (SBG.strSizeOf x1)) - (0 : Int32)) k16_0 t8 u9 (own_at t8 (((7 : Int32) - (0 : Int32))).toNatClampNeg) T16.heap n0 o33 (by decide : (0 : Int32) < (7 : Int32)) f21 f2 hc3 f22 (by decide : (0 : Int32) = (0 : Int32)) f23 f32 f44 hc45 (by decide : ¬ (((7 : Int32) - (0 : Int32)) < (0 : Int32))) hc51 hc52 (by decide : ¬ ((1 : Int32) = (0 : Int32))) hc53) hZ16 (ww hw 200 rfl) (ww hw 168 rfl) (by decide) (by decide)) (g := (mkF m 52 #[.val (.int x0), .val (.int x1), .val (.ref b16_1), .val (.int (7 : Int32))] [(.int (1 : Int32)), (.int (0 : Int32)), (.int x1), (.int (7 : Int32)), (.ref b16_1)])) rfl (by rw [hml]; rfl) (argsL := [(.ref b16_1), (.int (7 : Int32)), (.int x1), (.int (0 : Int32)), (.int (1 : Int32))]) (rest := []) (lenOf pd__Ljava_lang_String_IIII_Z rfl) rfl (by show 2 * 0 + _ ≤ _; exact Nat.le_of_eq rfl) (hb hby at_52) (fun _ _ => ⟨rfl, E48, (by decide : 7 + 0 ≤ _), (by decide : 65 + 0 ≤ _)⟩)
  dsimp only [Pt.U, Pt.locs, Pt.cells, Pt.slots] at X54 l54 y54 z54 st54 hQ54
  subst l54 y54 z54
  obtain ⟨rfl, N54q, E54⟩ := hQ54
  have N54 := Fr.app N48 N54q
  obtain ⟨_, _, ⟨T58, L58, k58, n58⟩, -, X58, ⟨Lc58, hQ58, l58, y58, z58⟩, st58⟩ := Jvm.LawKit.callS X54 hx (y := (⟨cs9, "at", cs13⟩ : MethodName)) ho16 (mvT hZ16 (ww hw 198 rfl)) (mvT hZ16 (ww hw 199 rfl)) (mvT hZ16 (ww hw 168 rfl)) (mvT hZ16 (ww hw 200 rfl)) (by decide) (backOf (W := 0) (rm37_1 l Z a0 hw [] b16_1 (7 : Int32) x1 (1 : Int32) (10 : Int32) x2 (0 : Int32) b16_2 (((1 : Int32) + (SBG.strSizeOf x1)) - (0 : Int32)) k16_0 t8 u9 (own_at t8 (((7 : Int32) - (1 : Int32))).toNatClampNeg) T16.heap n0 o33 (by decide : (1 : Int32) < (7 : Int32)) f21 f2 hc3 f22 (by decide : (0 : Int32) = (0 : Int32)) f23 f32 f44 hc45 (by decide : ¬ (((7 : Int32) - (1 : Int32)) < (0 : Int32))) hc55 hc56 (by decide : ¬ ((10 : Int32) = (0 : Int32))) hc57) hZ16 (ww hw 200 rfl) (ww hw 168 rfl) (by decide) (by decide)) (g := (mkF m 64 #[.val (.int x0), .val (.int x1), .val (.ref b16_1), .val (.int (7 : Int32))] [(.int (10 : Int32)), (.int (1 : Int32)), (.int x1), (.int (7 : Int32)), (.ref b16_1)])) rfl (by rw [hml]; rfl) (argsL := [(.ref b16_1), (.int (7 : Int32)), (.int x1), (.int (1 : Int32)), (.int (10 : Int32))]) (rest := []) (lenOf pd__Ljava_lang_String_IIII_Z rfl) rfl (by show 2 * 0 + _ ≤ _; exact Nat.le_of_eq rfl) (hb hby at_64) (fun _ _ => ⟨rfl, E54, (by decide : 7 + 0 ≤ _), (by decide : 65 + 0 ≤ _)⟩)
  dsimp only [Pt.U, Pt.locs, Pt.cells, Pt.slots] at X58 l58 y58 z58 st58 hQ58
  subst l58 y58 z58
  obtain ⟨rfl, N58q, E58⟩ := hQ58
  have N58 := Fr.app N54 N58q
  obtain ⟨_, _, ⟨T62, L62, k62, n62⟩, -, X62, ⟨Lc62, hQ62, l62, y62, z62⟩, st62⟩ := Jvm.LawKit.callS X58 hx (y := (⟨cs9, "at", cs13⟩ : MethodName)) ho16 (mvT hZ16 (ww hw 198 rfl)) (mvT hZ16 (ww hw 199 rfl)) (mvT hZ16 (ww hw 168 rfl)) (mvT hZ16 (ww hw 200 rfl)) (by decide) (backOf (W := 0) (rm37_1 l Z a0 hw [] b16_1 (7 : Int32) x1 (2 : Int32) (100 : Int32) x2 (0 : Int32) b16_2 (((1 : Int32) + (SBG.strSizeOf x1)) - (0 : Int32)) k16_0 t8 u9 (own_at t8 (((7 : Int32) - (2 : Int32))).toNatClampNeg) T16.heap n0 o33 (by decide : (2 : Int32) < (7 : Int32)) f21 f2 hc3 f22 (by decide : (0 : Int32) = (0 : Int32)) f23 f32 f44 hc45 (by decide : ¬ (((7 : Int32) - (2 : Int32)) < (0 : Int32))) hc59 hc60 (by decide : ¬ ((100 : Int32) = (0 : Int32))) hc61) hZ16 (ww hw 200 rfl) (ww hw 168 rfl) (by decide) (by decide)) (g := (mkF m 76 #[.val (.int x0), .val (.int x1), .val (.ref b16_1), .val (.int (7 : Int32))] [(.int (100 : Int32)), (.int (2 : Int32)), (.int x1), (.int (7 : Int32)), (.ref b16_1)])) rfl (by rw [hml]; rfl) (argsL := [(.ref b16_1), (.int (7 : Int32)), (.int x1), (.int (2 : Int32)), (.int (100 : Int32))]) (rest := []) (lenOf pd__Ljava_lang_String_IIII_Z rfl) rfl (by show 2 * 0 + _ ≤ _; exact Nat.le_of_eq rfl) (hb hby at_76) (fun _ _ => ⟨rfl, E58, (by decide : 7 + 0 ≤ _), (by decide : 65 + 0 ≤ _)⟩)
  dsimp only [Pt.U, Pt.locs, Pt.cells, Pt.slots] at X62 l62 y62 z62 st62 hQ62
  subst l62 y62 z62
  obtain ⟨rfl, N62q, E62⟩ := hQ62
  have N62 := Fr.app N58 N62q
  obtain ⟨_, _, ⟨T66, L66, k66, n66⟩, -, X66, ⟨Lc66, hQ66, l66, y66, z66⟩, st66⟩ := Jvm.LawKit.callS X62 hx (y := (⟨cs9, "at", cs13⟩ : MethodName)) ho16 (mvT hZ16 (ww hw 198 rfl)) (mvT hZ16 (ww hw 199 rfl)) (mvT hZ16 (ww hw 168 rfl)) (mvT hZ16 (ww hw 200 rfl)) (by decide) (backOf (W := 0) (rm37_1 l Z a0 hw [] b16_1 (7 : Int32) x1 (3 : Int32) (1000 : Int32) x2 (0 : Int32) b16_2 (((1 : Int32) + (SBG.strSizeOf x1)) - (0 : Int32)) k16_0 t8 u9 (own_at t8 (((7 : Int32) - (3 : Int32))).toNatClampNeg) T16.heap n0 o33 (by decide : (3 : Int32) < (7 : Int32)) f21 f2 hc3 f22 (by decide : (0 : Int32) = (0 : Int32)) f23 f32 f44 hc45 (by decide : ¬ (((7 : Int32) - (3 : Int32)) < (0 : Int32))) hc63 hc64 (by decide : ¬ ((1000 : Int32) = (0 : Int32))) hc65) hZ16 (ww hw 200 rfl) (ww hw 168 rfl) (by decide) (by decide)) (g := (mkF m 89 #[.val (.int x0), .val (.int x1), .val (.ref b16_1), .val (.int (7 : Int32))] [(.int (1000 : Int32)), (.int (3 : Int32)), (.int x1), (.int (7 : Int32)), (.ref b16_1)])) rfl (by rw [hml]; rfl) (argsL := [(.ref b16_1), (.int (7 : Int32)), (.int x1), (.int (3 : Int32)), (.int (1000 : Int32))]) (rest := []) (lenOf pd__Ljava_lang_String_IIII_Z rfl) rfl (by show 2 * 0 + _ ≤ _; exact Nat.le_of_eq rfl) (hb hby at_89) (fun _ _ => ⟨rfl, E62, (by decide : 7 + 0 ≤ _), (by decide : 65 + 0 ≤ _)⟩)
  dsimp only [Pt.U, Pt.locs, Pt.cells, Pt.slots] at X66 l66 y66 z66 st66 hQ66
  subst l66 y66 z66
  obtain ⟨rfl, N66q, E66⟩ := hQ66
  have N66 := Fr.app N62 N66q
  obtain ⟨_, _, ⟨T70, L70, k70, n70⟩, -, X70, ⟨Lc70, hQ70, l70, y70, z70⟩, st70⟩ := Jvm.LawKit.callS X66 hx (y := (⟨cs9, "at", cs13⟩ : MethodName)) ho16 (mvT hZ16 (ww hw 198 rfl)) (mvT hZ16 (ww hw 199 rfl)) (mvT hZ16 (ww hw 168 rfl)) (mvT hZ16 (ww hw 200 rfl)) (by decide) (backOf (W := 0) (rm37_1 l Z a0 hw [] b16_1 (7 : Int32) x1 (4 : Int32) (10000 : Int32) x2 (0 : Int32) b16_2 (((1 : Int32) + (SBG.strSizeOf x1)) - (0 : Int32)) k16_0 t8 u9 (own_at t8 (((7 : Int32) - (4 : Int32))).toNatClampNeg) T16.heap n0 o33 (by decide : (4 : Int32) < (7 : Int32)) f21 f2 hc3 f22 (by decide : (0 : Int32) = (0 : Int32)) f23 f32 f44 hc45 (by decide : ¬ (((7 : Int32) - (4 : Int32)) < (0 : Int32))) hc67 hc68 (by decide : ¬ ((10000 : Int32) = (0 : Int32))) hc69) hZ16 (ww hw 200 rfl) (ww hw 168 rfl) (by decide) (by decide)) (g := (mkF m 102 #[.val (.int x0), .val (.int x1), .val (.ref b16_1), .val (.int (7 : Int32))] [(.int (10000 : Int32)), (.int (4 : Int32)), (.int x1), (.int (7 : Int32)), (.ref b16_1)])) rfl (by rw [hml]; rfl) (argsL := [(.ref b16_1), (.int (7 : Int32)), (.int x1), (.int (4 : Int32)), (.int (10000 : Int32))]) (rest := []) (lenOf pd__Ljava_lang_String_IIII_Z rfl) rfl (by show 2 * 0 + _ ≤ _; exact Nat.le_of_eq rfl) (hb hby at_102) (fun _ _ => ⟨rfl, E66, (by decide : 7 + 0 ≤ _), (by decide : 65 + 0 ≤ _)⟩)
  dsimp only [Pt.U, Pt.locs, Pt.cells, Pt.slots] at X70 l70 y70 z70 st70 hQ70
  subst l70 y70 z70
  obtain ⟨rfl, N70q, E70⟩ := hQ70
  have N70 := Fr.app N66 N70q
  obtain ⟨_, _, ⟨T74, L74, k74, n74⟩, -, X74, ⟨Lc74, hQ74, l74, y74, z74⟩, st74⟩ := Jvm.LawKit.callS X70 hx (y := (⟨cs9, "at", cs13⟩ : MethodName)) ho16 (mvT hZ16 (ww hw 198 rfl)) (mvT hZ16 (ww hw 199 rfl)) (mvT hZ16 (ww hw 168 rfl)) (mvT hZ16 (ww hw 200 rfl)) (by decide) (backOf (W := 0) (rm37_1 l Z a0 hw [] b16_1 (7 : Int32) x1 (5 : Int32) (100000 : Int32) x2 (0 : Int32) b16_2 (((1 : Int32) + (SBG.strSizeOf x1)) - (0 : Int32)) k16_0 t8 u9 (own_at t8 (((7 : Int32) - (5 : Int32))).toNatClampNeg) T16.heap n0 o33 (by decide : (5 : Int32) < (7 : Int32)) f21 f2 hc3 f22 (by decide : (0 : Int32) = (0 : Int32)) f23 f32 f44 hc45 (by decide : ¬ (((7 : Int32) - (5 : Int32)) < (0 : Int32))) hc71 hc72 (by decide : ¬ ((100000 : Int32) = (0 : Int32))) hc73) hZ16 (ww hw 200 rfl) (ww hw 168 rfl) (by decide) (by decide)) (g := (mkF m 114 #[.val (.int x0), .val (.int x1), .val (.ref b16_1), .val (.int (7 : Int32))] [(.int (100000 : Int32)), (.int (5 : Int32)), (.int x1), (.int (7 : Int32)), (.ref b16_1)])) rfl (by rw [hml]; rfl) (argsL := [(.ref b16_1), (.int (7 : Int32)), (.int x1), (.int (5 : Int32)), (.int (100000 : Int32))]) (rest := []) (lenOf pd__Ljava_lang_String_IIII_Z rfl) rfl (by show 2 * 0 + _ ≤ _; exact Nat.le_of_eq rfl) (hb hby at_114) (fun _ _ => ⟨rfl, E70, (by decide : 7 + 0 ≤ _), (by decide : 65 + 0 ≤ _)⟩)
  dsimp only [Pt.U, Pt.locs, Pt.cells, Pt.slots] at X74 l74 y74 z74 st74 hQ74
  subst l74 y74 z74
  obtain ⟨rfl, N74q, E74⟩ := hQ74
  have N74 := Fr.app N70 N74q
  obtain ⟨_, _, ⟨T78, L78, k78, n78⟩, -, X78, ⟨Lc78, hQ78, l78, y78, z78⟩, st78⟩ := Jvm.LawKit.callS X74 hx (y := (⟨cs9, "at", cs13⟩ : MethodName)) ho16 (mvT hZ16 (ww hw 198 rfl)) (mvT hZ16 (ww hw 199 rfl)) (mvT hZ16 (ww hw 168 rfl)) (mvT hZ16 (ww hw 200 rfl)) (by decide) (backOf (W := 0) (rm37_1 l Z a0 hw [] b16_1 (7 : Int32) x1 (6 : Int32) (1000000 : Int32) x2 (0 : Int32) b16_2 (((1 : Int32) + (SBG.strSizeOf x1)) - (0 : Int32)) k16_0 t8 u9 (own_at t8 (((7 : Int32) - (6 : Int32))).toNatClampNeg) T16.heap n0 o33 (by decide : (6 : Int32) < (7 : Int32)) f21 f2 hc3 f22 (by decide : (0 : Int32) = (0 : Int32)) f23 f32 f44 hc45 (by decide : ¬ (((7 : Int32) - (6 : Int32)) < (0 : Int32))) hc75 hc76 (by decide : ¬ ((1000000 : Int32) = (0 : Int32))) hc77) hZ16 (ww hw 200 rfl) (ww hw 168 rfl) (by decide) (by decide)) (g := (mkF m 127 #[.val (.int x0), .val (.int x1), .val (.ref b16_1), .val (.int (7 : Int32))] [(.int (1000000 : Int32)), (.int (6 : Int32)), (.int x1), (.int (7 : Int32)), (.ref b16_1)])) rfl (by rw [hml]; rfl) (argsL := [(.ref b16_1), (.int (7 : Int32)), (.int x1), (.int (6 : Int32)), (.int (1000000 : Int32))]) (rest := []) (lenOf pd__Ljava_lang_String_IIII_Z rfl) rfl (by show 2 * 0 + _ ≤ _; exact Nat.le_of_eq rfl) (hb hby at_127) (fun _ _ => ⟨rfl, E74, (by decide : 7 + 0 ≤ _), (by decide : 65 + 0 ≤ _)⟩)
  dsimp only [Pt.U, Pt.locs, Pt.cells, Pt.slots] at X78 l78 y78 z78 st78 hQ78
  subst l78 y78 z78
  obtain ⟨rfl, N78q, E78⟩ := hQ78
  have N78 := Fr.app N74 N78q
  obtain ⟨_, _, ⟨T79, L79, k79, n79⟩, -, X79, ⟨Lc79, hQ79, l79, y79, z79⟩, st79⟩ := Jvm.LawKit.callS X78 hx (y := (⟨cs9, "at", cs13⟩ : MethodName)) ho16 (mvT hZ16 (ww hw 198 rfl)) (mvT hZ16 (ww hw 199 rfl)) (mvT hZ16 (ww hw 168 rfl)) (mvT hZ16 (ww hw 200 rfl)) (by decide) (backOf (W := 0) (rm37_2 l Z a0 hw [] b16_1 (7 : Int32) x1 (7 : Int32) (10000000 : Int32) T16.heap n0 o33 (by decide : ¬ ((7 : Int32) < (7 : Int32)))) hZ16 (ww hw 200 rfl) (ww hw 168 rfl) (by decide) (by decide)) (g := (mkF m 140 #[.val (.int x0), .val (.int x1), .val (.ref b16_1), .val (.int (7 : Int32))] [(.int (10000000 : Int32)), (.int (7 : Int32)), (.int x1), (.int (7 : Int32)), (.ref b16_1)])) rfl (by rw [hml]; rfl) (argsL := [(.ref b16_1), (.int (7 : Int32)), (.int x1), (.int (7 : Int32)), (.int (10000000 : Int32))]) (rest := []) (lenOf pd__Ljava_lang_String_IIII_Z rfl) rfl (by show 2 * 0 + _ ≤ _; exact Nat.le_of_eq rfl) (hb hby at_140) (fun _ _ => ⟨rfl, E78, (by decide : 7 + 0 ≤ _), (by decide : 65 + 0 ≤ _)⟩)
  dsimp only [Pt.U, Pt.locs, Pt.cells, Pt.slots] at X79 l79 y79 z79 st79 hQ79
  subst l79 y79 z79
  obtain ⟨rfl, N79q, E79⟩ := hQ79
  have N79 := Fr.app N78 N79q
  obtain ⟨_, _, ⟨T80, L80, k80, n80⟩, -, X80, ⟨Lc80, hQ80, l80, y80, z80⟩, st80⟩ := Jvm.LawKit.callS X79 hx (y := (⟨cs9, "at", cs13⟩ : MethodName)) ho16 (mvT hZ16 (ww hw 198 rfl)) (mvT hZ16 (ww hw 199 rfl)) (mvT hZ16 (ww hw 168 rfl)) (mvT hZ16 (ww hw 200 rfl)) (by decide) (backOf (W := 0) (rm37_2 l Z a0 hw [] b16_1 (7 : Int32) x1 (8 : Int32) (100000000 : Int32) T16.heap n0 o33 (by decide : ¬ ((8 : Int32) < (7 : Int32)))) hZ16 (ww hw 200 rfl) (ww hw 168 rfl) (by decide) (by decide)) (g := (mkF m 153 #[.val (.int x0), .val (.int x1), .val (.ref b16_1), .val (.int (7 : Int32))] [(.int (100000000 : Int32)), (.int (8 : Int32)), (.int x1), (.int (7 : Int32)), (.ref b16_1)])) rfl (by rw [hml]; rfl) (argsL := [(.ref b16_1), (.int (7 : Int32)), (.int x1), (.int (8 : Int32)), (.int (100000000 : Int32))]) (rest := []) (lenOf pd__Ljava_lang_String_IIII_Z rfl) rfl (by show 2 * 0 + _ ≤ _; exact Nat.le_of_eq rfl) (hb hby at_153) (fun _ _ => ⟨rfl, E79, (by decide : 7 + 0 ≤ _), (by decide : 65 + 0 ≤ _)⟩)
  dsimp only [Pt.U, Pt.locs, Pt.cells, Pt.slots] at X80 l80 y80 z80 st80 hQ80
  subst l80 y80 z80
  obtain ⟨rfl, N80q, E80⟩ := hQ80
  have N80 := Fr.app N79 N80q
  obtain ⟨_, _, ⟨T81, L81, k81, n81⟩, -, X81, ⟨Lc81, hQ81, l81, y81, z81⟩, st81⟩ := Jvm.LawKit.callS X80 hx (y := (⟨cs9, "at", cs13⟩ : MethodName)) ho16 (mvT hZ16 (ww hw 198 rfl)) (mvT hZ16 (ww hw 199 rfl)) (mvT hZ16 (ww hw 168 rfl)) (mvT hZ16 (ww hw 200 rfl)) (by decide) (backOf (W := 0) (rm37_2 l Z a0 hw [] b16_1 (7 : Int32) x1 (9 : Int32) (1000000000 : Int32) T16.heap n0 o33 (by decide : ¬ ((9 : Int32) < (7 : Int32)))) hZ16 (ww hw 200 rfl) (ww hw 168 rfl) (by decide) (by decide)) (g := (mkF m 166 #[.val (.int x0), .val (.int x1), .val (.ref b16_1), .val (.int (7 : Int32))] [(.int (1000000000 : Int32)), (.int (9 : Int32)), (.int x1), (.int (7 : Int32)), (.ref b16_1)])) rfl (by rw [hml]; rfl) (argsL := [(.ref b16_1), (.int (7 : Int32)), (.int x1), (.int (9 : Int32)), (.int (1000000000 : Int32))]) (rest := []) (lenOf pd__Ljava_lang_String_IIII_Z rfl) rfl (by show 2 * 0 + _ ≤ _; exact Nat.le_of_eq rfl) (hb hby at_166) (fun _ _ => ⟨rfl, E80, (by decide : 7 + 0 ≤ _), (by decide : 65 + 0 ≤ _)⟩)
  dsimp only [Pt.U, Pt.locs, Pt.cells, Pt.slots] at X81 l81 y81 z81 st81 hQ81
  subst l81 y81 z81
  obtain ⟨rfl, N81q, E81⟩ := hQ81
  have N81 := Fr.app N80 N81q
  obtain ⟨fs, hr, hrun, hended, hend⟩ := leaveW (s := s) (vm₁ := T16.vm) X81 hS16 (by rw [E81]; exact (Nat.le_refl _)) (v := some (.int (1 : Int32))) (fun h => by rw [Bd.returns] at h; cases h)
  have hCR : CHr Z consts_1 s.vm s.heap T81.vm T81.heap := by rw [hh, E81]; exact CHr.trans R30 (CHv.at (s := s) (vm0 := T16.vm) X81 hZ16 hEL R30.1)
  refine ⟨_, _, pre0 _ ?_, hrun, hended, _, _, rfl, ?_, hCR, hend.1, hend.2.1, hend.2.2.1, hend.2.2.2.mono (by decide) (by decide)⟩
  · show Steps p.tables e below (s₁.setTop (mkF m 0 #[.val (.int x0), .unset, .unset, .unset] [])) _
    refine XS.iconst X0.here hx rfl (hb hby at_0) ?_
    refine XS.iloadN X0.here hx rfl (hb hby at_1) rfl ?_
    refine X0.ldcInt hx hown (mvT hZ (ww hw 0 rfl)) (g := (mkF m 2 #[.val (.int x0), .unset, .unset, .unset] [(.int x0), (.int (1 : Int32))])) rfl (hb hby at_2) _ ?_
    show Steps p.tables e below (s₁.setTop (mkF m 4 #[.val (.int x0), .unset, .unset, .unset] [(.int (2147483647 : Int32)), (.int x0), (.int (1 : Int32))])) _
    refine XS.iand X0.here hx rfl (hb hby at_4) rfl ?_
    refine X0.ldcInt hx hown (mvT hZ (ww hw 0 rfl)) (g := (mkF m 5 #[.val (.int x0), .unset, .unset, .unset] [(.int (x0 &&& (2147483647 : Int32))), (.int (1 : Int32))])) rfl (hb hby at_5) _ ?_
    show Steps p.tables e below (s₁.setTop (mkF m 7 #[.val (.int x0), .unset, .unset, .unset] [(.int (2147483647 : Int32)), (.int (x0 &&& (2147483647 : Int32))), (.int (1 : Int32))])) _
    refine iremM (g := (mkF m 7 #[.val (.int x0), .unset, .unset, .unset] [(.int (2147483647 : Int32)), (.int (x0 &&& (2147483647 : Int32))), (.int (1 : Int32))])) X0 hx rfl (hb hby at_7) rfl (by decide : ¬ ((2147483647 : Int32) = (0 : Int32))) ?_
    show Steps p.tables e below (s₁.setTop (mkF m 8 #[.val (.int x0), .unset, .unset, .unset] [(.int ((x0 &&& (2147483647 : Int32)) % (2147483647 : Int32))), (.int (1 : Int32))])) _
    refine XS.iadd X0.here hx rfl (hb hby at_8) rfl ?_
    show Steps p.tables e below (s₁.setTop (mkF m 9 #[.val (.int x0), .unset, .unset, .unset] [(.int ((1 : Int32) + ((x0 &&& (2147483647 : Int32)) % (2147483647 : Int32))))])) _
    rw [hq1]
    show Steps p.tables e below (s₁.setTop (mkF m 9 #[.val (.int x0), .unset, .unset, .unset] [(.int x1)])) _
    refine XS.istoreN X0.here hx rfl (hb hby at_9) rfl (l' := #[.val (.int x0), .val (.int x1), .unset, .unset]) rfl ?_
    refine XS.iloadN X0.here hx rfl (hb hby at_10) rfl ?_
    refine st16.trans ?_
    show Steps p.tables e below (T16.setTop (mkF m 14 #[.val (.int x0), .val (.int x1), .unset, .unset] [(.ref b16_0)])) _
    refine st34.trans ?_
    show Steps p.tables e below (T34.setTop (mkF m 17 #[.val (.int x0), .val (.int x1), .unset, .unset] [(.ref b16_1)])) _
    refine XS.astoreN X34.here hx rfl (hb hby at_17) rfl rfl (l' := #[.val (.int x0), .val (.int x1), .val (.ref b16_1), .unset]) rfl ?_
    refine XS.iloadN X34.here hx rfl (hb hby at_18) rfl ?_
    refine st40 _ ?_
    show Steps p.tables e below (T40.setTop (mkF m 22 #[.val (.int x0), .val (.int x1), .val (.ref b16_1), .unset] [(.int (7 : Int32))])) _
    refine XS.istoreN X40.here hx rfl (hb hby at_22) rfl (l' := #[.val (.int x0), .val (.int x1), .val (.ref b16_1), .val (.int (7 : Int32))]) rfl ?_
    refine XS.aloadN X40.here hx rfl (hb hby at_23) rfl rfl ?_
    refine st41.trans ?_
    show Steps p.tables e below (T41.setTop (mkF m 27 #[.val (.int x0), .val (.int x1), .val (.ref b16_1), .val (.int (7 : Int32))] [(.int ((((1 : Int32) + (SBG.strSizeOf x1)) - (0 : Int32)) >>> ((nar .byte (0 : Int32)) &&& 31)))])) _
    refine XS.iloadN X41.here hx rfl (hb hby at_27) rfl ?_
    refine XS.iconst X41.here hx rfl (hb hby at_28) ?_
    refine XS.iadd X41.here hx rfl (hb hby at_29) rfl ?_
    refine XS.icmpYes X41.here hx rfl (pc0 := 30) (pc' := 35) rfl (hb hby at_30) rfl (teq hc43).1 (by decide) (by decide) ?_
    show Steps p.tables e below (T41.setTop (mkF m 35 #[.val (.int x0), .val (.int x1), .val (.ref b16_1), .val (.int (7 : Int32))] [])) _
    refine XS.aloadN X41.here hx rfl (hb hby at_35) rfl rfl ?_
    refine XS.iconst X41.here hx rfl (hb hby at_36) ?_
    refine st48.trans ?_
    show Steps p.tables e below (T48.setTop (mkF m 40 #[.val (.int x0), .val (.int x1), .val (.ref b16_1), .val (.int (7 : Int32))] [(.int (nar .char (nar .char (((own_at t8 ((0 : Int32)).toNatClampNeg) &&& (255 : Int32)).toUInt32.toUInt16.toUInt32.toInt32))))])) _
    refine XS.bipush X48.here hx rfl (hb hby at_40) ?_
    refine XS.icmpYes X48.here hx rfl (pc0 := 42) (pc' := 47) rfl (hb hby at_42) rfl (teq hc50).1 (by decide) (by decide) ?_
    show Steps p.tables e below (T48.setTop (mkF m 47 #[.val (.int x0), .val (.int x1), .val (.ref b16_1), .val (.int (7 : Int32))] [])) _
    refine XS.aloadN X48.here hx rfl (hb hby at_47) rfl rfl ?_
    refine XS.iloadN X48.here hx rfl (hb hby at_48) rfl ?_
    refine XS.iloadN X48.here hx rfl (hb hby at_49) rfl ?_
    refine XS.iconst X48.here hx rfl (hb hby at_50) ?_
    show Steps p.tables e below (T48.setTop (mkF m 51 #[.val (.int x0), .val (.int x1), .val (.ref b16_1), .val (.int (7 : Int32))] [(.int (0 : Int32)), (.int x1), (.int (7 : Int32)), (.ref b16_1)])) _
    refine XS.iconst X48.here hx rfl (hb hby at_51) ?_
    refine st54 _ ?_
    show Steps p.tables e below (T54.setTop (mkF m 55 #[.val (.int x0), .val (.int x1), .val (.ref b16_1), .val (.int (7 : Int32))] [(.int (1 : Int32))])) _
    refine XS.ifNo X54.here hx rfl (hb hby at_55) rfl ((if0 _ _).trans (feq (by decide : ¬ ((1 : Int32) = (0 : Int32)))).1) ?_
    refine XS.aloadN X54.here hx rfl (hb hby at_58) rfl rfl ?_
    refine XS.iloadN X54.here hx rfl (hb hby at_59) rfl ?_
    refine XS.iloadN X54.here hx rfl (hb hby at_60) rfl ?_
    show Steps p.tables e below (T54.setTop (mkF m 61 #[.val (.int x0), .val (.int x1), .val (.ref b16_1), .val (.int (7 : Int32))] [(.int x1), (.int (7 : Int32)), (.ref b16_1)])) _
    refine XS.iconst X54.here hx rfl (hb hby at_61) ?_
    refine XS.bipush X54.here hx rfl (hb hby at_62) ?_
    refine st58 _ ?_
    show Steps p.tables e below (T58.setTop (mkF m 67 #[.val (.int x0), .val (.int x1), .val (.ref b16_1), .val (.int (7 : Int32))] [(.int (1 : Int32))])) _
    refine XS.ifNo X58.here hx rfl (hb hby at_67) rfl ((if0 _ _).trans (feq (by decide : ¬ ((1 : Int32) = (0 : Int32)))).1) ?_
    refine XS.aloadN X58.here hx rfl (hb hby at_70) rfl rfl ?_
    refine XS.iloadN X58.here hx rfl (hb hby at_71) rfl ?_
    refine XS.iloadN X58.here hx rfl (hb hby at_72) rfl ?_
    show Steps p.tables e below (T58.setTop (mkF m 73 #[.val (.int x0), .val (.int x1), .val (.ref b16_1), .val (.int (7 : Int32))] [(.int x1), (.int (7 : Int32)), (.ref b16_1)])) _
    refine XS.iconst X58.here hx rfl (hb hby at_73) ?_
    refine XS.bipush X58.here hx rfl (hb hby at_74) ?_
    refine st62 _ ?_
    show Steps p.tables e below (T62.setTop (mkF m 79 #[.val (.int x0), .val (.int x1), .val (.ref b16_1), .val (.int (7 : Int32))] [(.int (1 : Int32))])) _
    refine XS.ifNo X62.here hx rfl (hb hby at_79) rfl ((if0 _ _).trans (feq (by decide : ¬ ((1 : Int32) = (0 : Int32)))).1) ?_
    refine XS.aloadN X62.here hx rfl (hb hby at_82) rfl rfl ?_
    refine XS.iloadN X62.here hx rfl (hb hby at_83) rfl ?_
    refine XS.iloadN X62.here hx rfl (hb hby at_84) rfl ?_
    show Steps p.tables e below (T62.setTop (mkF m 85 #[.val (.int x0), .val (.int x1), .val (.ref b16_1), .val (.int (7 : Int32))] [(.int x1), (.int (7 : Int32)), (.ref b16_1)])) _
    refine XS.iconst X62.here hx rfl (hb hby at_85) ?_
    refine XS.sipush X62.here hx rfl (hb hby at_86) ?_
    refine st66 _ ?_
    show Steps p.tables e below (T66.setTop (mkF m 92 #[.val (.int x0), .val (.int x1), .val (.ref b16_1), .val (.int (7 : Int32))] [(.int (1 : Int32))])) _
    refine XS.ifNo X66.here hx rfl (hb hby at_92) rfl ((if0 _ _).trans (feq (by decide : ¬ ((1 : Int32) = (0 : Int32)))).1) ?_
    refine XS.aloadN X66.here hx rfl (hb hby at_95) rfl rfl ?_
    refine XS.iloadN X66.here hx rfl (hb hby at_96) rfl ?_
    refine XS.iloadN X66.here hx rfl (hb hby at_97) rfl ?_
    show Steps p.tables e below (T66.setTop (mkF m 98 #[.val (.int x0), .val (.int x1), .val (.ref b16_1), .val (.int (7 : Int32))] [(.int x1), (.int (7 : Int32)), (.ref b16_1)])) _
    refine XS.iconst X66.here hx rfl (hb hby at_98) ?_
    refine XS.sipush X66.here hx rfl (hb hby at_99) ?_
    refine st70 _ ?_
    show Steps p.tables e below (T70.setTop (mkF m 105 #[.val (.int x0), .val (.int x1), .val (.ref b16_1), .val (.int (7 : Int32))] [(.int (1 : Int32))])) _
    refine XS.ifNo X70.here hx rfl (hb hby at_105) rfl ((if0 _ _).trans (feq (by decide : ¬ ((1 : Int32) = (0 : Int32)))).1) ?_
    refine XS.aloadN X70.here hx rfl (hb hby at_108) rfl rfl ?_
    refine XS.iloadN X70.here hx rfl (hb hby at_109) rfl ?_
    refine XS.iloadN X70.here hx rfl (hb hby at_110) rfl ?_
    show Steps p.tables e below (T70.setTop (mkF m 111 #[.val (.int x0), .val (.int x1), .val (.ref b16_1), .val (.int (7 : Int32))] [(.int x1), (.int (7 : Int32)), (.ref b16_1)])) _
    refine XS.iconst X70.here hx rfl (hb hby at_111) ?_
    refine X70.ldcInt hx ho16 (mvT hZ16 (ww hw 174 rfl)) (g := (mkF m 112 #[.val (.int x0), .val (.int x1), .val (.ref b16_1), .val (.int (7 : Int32))] [(.int (5 : Int32)), (.int x1), (.int (7 : Int32)), (.ref b16_1)])) rfl (hb hby at_112) _ ?_
    show Steps p.tables e below (T70.setTop (mkF m 114 #[.val (.int x0), .val (.int x1), .val (.ref b16_1), .val (.int (7 : Int32))] [(.int (100000 : Int32)), (.int (5 : Int32)), (.int x1), (.int (7 : Int32)), (.ref b16_1)])) _
    refine st74 _ ?_
    show Steps p.tables e below (T74.setTop (mkF m 117 #[.val (.int x0), .val (.int x1), .val (.ref b16_1), .val (.int (7 : Int32))] [(.int (1 : Int32))])) _
    refine XS.ifNo X74.here hx rfl (hb hby at_117) rfl ((if0 _ _).trans (feq (by decide : ¬ ((1 : Int32) = (0 : Int32)))).1) ?_
    refine XS.aloadN X74.here hx rfl (hb hby at_120) rfl rfl ?_
    refine XS.iloadN X74.here hx rfl (hb hby at_121) rfl ?_
    refine XS.iloadN X74.here hx rfl (hb hby at_122) rfl ?_
    show Steps p.tables e below (T74.setTop (mkF m 123 #[.val (.int x0), .val (.int x1), .val (.ref b16_1), .val (.int (7 : Int32))] [(.int x1), (.int (7 : Int32)), (.ref b16_1)])) _
    refine XS.bipush X74.here hx rfl (hb hby at_123) ?_
    refine X74.ldcInt hx ho16 (mvT hZ16 (ww hw 173 rfl)) (g := (mkF m 125 #[.val (.int x0), .val (.int x1), .val (.ref b16_1), .val (.int (7 : Int32))] [(.int (6 : Int32)), (.int x1), (.int (7 : Int32)), (.ref b16_1)])) rfl (hb hby at_125) _ ?_
    show Steps p.tables e below (T74.setTop (mkF m 127 #[.val (.int x0), .val (.int x1), .val (.ref b16_1), .val (.int (7 : Int32))] [(.int (1000000 : Int32)), (.int (6 : Int32)), (.int x1), (.int (7 : Int32)), (.ref b16_1)])) _
    refine st78 _ ?_
    show Steps p.tables e below (T78.setTop (mkF m 130 #[.val (.int x0), .val (.int x1), .val (.ref b16_1), .val (.int (7 : Int32))] [(.int (1 : Int32))])) _
    refine XS.ifNo X78.here hx rfl (hb hby at_130) rfl ((if0 _ _).trans (feq (by decide : ¬ ((1 : Int32) = (0 : Int32)))).1) ?_
    refine XS.aloadN X78.here hx rfl (hb hby at_133) rfl rfl ?_
    refine XS.iloadN X78.here hx rfl (hb hby at_134) rfl ?_
    refine XS.iloadN X78.here hx rfl (hb hby at_135) rfl ?_
    show Steps p.tables e below (T78.setTop (mkF m 136 #[.val (.int x0), .val (.int x1), .val (.ref b16_1), .val (.int (7 : Int32))] [(.int x1), (.int (7 : Int32)), (.ref b16_1)])) _
    refine XS.bipush X78.here hx rfl (hb hby at_136) ?_
    refine X78.ldcInt hx ho16 (mvT hZ16 (ww hw 172 rfl)) (g := (mkF m 138 #[.val (.int x0), .val (.int x1), .val (.ref b16_1), .val (.int (7 : Int32))] [(.int (7 : Int32)), (.int x1), (.int (7 : Int32)), (.ref b16_1)])) rfl (hb hby at_138) _ ?_
    show Steps p.tables e below (T78.setTop (mkF m 140 #[.val (.int x0), .val (.int x1), .val (.ref b16_1), .val (.int (7 : Int32))] [(.int (10000000 : Int32)), (.int (7 : Int32)), (.int x1), (.int (7 : Int32)), (.ref b16_1)])) _
    refine st79 _ ?_
    show Steps p.tables e below (T79.setTop (mkF m 143 #[.val (.int x0), .val (.int x1), .val (.ref b16_1), .val (.int (7 : Int32))] [(.int (1 : Int32))])) _
    refine XS.ifNo X79.here hx rfl (hb hby at_143) rfl ((if0 _ _).trans (feq (by decide : ¬ ((1 : Int32) = (0 : Int32)))).1) ?_
    refine XS.aloadN X79.here hx rfl (hb hby at_146) rfl rfl ?_
    refine XS.iloadN X79.here hx rfl (hb hby at_147) rfl ?_
    refine XS.iloadN X79.here hx rfl (hb hby at_148) rfl ?_
    show Steps p.tables e below (T79.setTop (mkF m 149 #[.val (.int x0), .val (.int x1), .val (.ref b16_1), .val (.int (7 : Int32))] [(.int x1), (.int (7 : Int32)), (.ref b16_1)])) _
    refine XS.bipush X79.here hx rfl (hb hby at_149) ?_
    refine X79.ldcInt hx ho16 (mvT hZ16 (ww hw 171 rfl)) (g := (mkF m 151 #[.val (.int x0), .val (.int x1), .val (.ref b16_1), .val (.int (7 : Int32))] [(.int (8 : Int32)), (.int x1), (.int (7 : Int32)), (.ref b16_1)])) rfl (hb hby at_151) _ ?_
    show Steps p.tables e below (T79.setTop (mkF m 153 #[.val (.int x0), .val (.int x1), .val (.ref b16_1), .val (.int (7 : Int32))] [(.int (100000000 : Int32)), (.int (8 : Int32)), (.int x1), (.int (7 : Int32)), (.ref b16_1)])) _
    refine st80 _ ?_
    show Steps p.tables e below (T80.setTop (mkF m 156 #[.val (.int x0), .val (.int x1), .val (.ref b16_1), .val (.int (7 : Int32))] [(.int (1 : Int32))])) _
    refine XS.ifNo X80.here hx rfl (hb hby at_156) rfl ((if0 _ _).trans (feq (by decide : ¬ ((1 : Int32) = (0 : Int32)))).1) ?_
    refine XS.aloadN X80.here hx rfl (hb hby at_159) rfl rfl ?_
    refine XS.iloadN X80.here hx rfl (hb hby at_160) rfl ?_
    refine XS.iloadN X80.here hx rfl (hb hby at_161) rfl ?_
    show Steps p.tables e below (T80.setTop (mkF m 162 #[.val (.int x0), .val (.int x1), .val (.ref b16_1), .val (.int (7 : Int32))] [(.int x1), (.int (7 : Int32)), (.ref b16_1)])) _
    refine XS.bipush X80.here hx rfl (hb hby at_162) ?_
    refine X80.ldcInt hx ho16 (mvT hZ16 (ww hw 170 rfl)) (g := (mkF m 164 #[.val (.int x0), .val (.int x1), .val (.ref b16_1), .val (.int (7 : Int32))] [(.int (9 : Int32)), (.int x1), (.int (7 : Int32)), (.ref b16_1)])) rfl (hb hby at_164) _ ?_
    show Steps p.tables e below (T80.setTop (mkF m 166 #[.val (.int x0), .val (.int x1), .val (.ref b16_1), .val (.int (7 : Int32))] [(.int (1000000000 : Int32)), (.int (9 : Int32)), (.int x1), (.int (7 : Int32)), (.ref b16_1)])) _
    refine st81 _ ?_
    show Steps p.tables e below (T81.setTop (mkF m 169 #[.val (.int x0), .val (.int x1), .val (.ref b16_1), .val (.int (7 : Int32))] [(.int (1 : Int32))])) _
    refine XS.ifNo X81.here hx rfl (hb hby at_169) rfl ((if0 _ _).trans (feq (by decide : ¬ ((1 : Int32) = (0 : Int32)))).1) ?_
    refine XS.iconst X81.here hx rfl (hb hby at_172) ?_
    refine XS.goto X81.here hx rfl (pc0 := 173) (pc' := 177) rfl (hb hby at_173) (by decide) (by decide) ?_
    show Steps p.tables e below (T81.setTop (mkF m 177 #[.val (.int x0), .val (.int x1), .val (.ref b16_1), .val (.int (7 : Int32))] [(.int (1 : Int32))])) _
    exact retN X81 hx (t := .boolean) Bd.returns (by simp) (hb hby at_177) hr
  · show Q0_7 Z x0 x1 x2 r3 r4 d5 r6 d7 t8 u9 h0 n0 _ T81.heap _
    rw [E81]
    exact ⟨rfl, N81⟩
theorem d31_24 : decode method_3_code 24 = .ok (.bipush 8, 2) := by decide +kernel
theorem d31_26 : decode method_3_code 26 = .ok (.ireturn, 1) := by decide +kernel
def Q31_8 (Z : State) (x0 : Int32) (h0 : Heap) (n0 : Nat) (v : Option Value) (h : Heap) (L : List Loc) : Prop := v = some (.int (8 : Int32)) ∧ Fr n0 L ∧ h = h0
set_option maxRecDepth 65536 in
set_option maxHeartbeats 40000000 in
theorem rm31_8 (l : Launch) (Z : State) (a0 : Array Value) (hw : ∀ d ∈ tables_1, d.before a0 Z = true) (ws : List Jvm.Cond) (x0 : Int32) (h0 : Heap) (n0 : Nat) (O0 : Old Z n0 h0) (hc1 : x0 < (1000000000 : Int32)) (hc2 : x0 < (100000000 : Int32)) (hc3 : ¬ (x0 < (10000000 : Int32))) :
    MetFree l (⟨cs9, "digits", "(I)I"⟩ : MethodName) (head1 (Jvm.Cond.code (⟨cs9, "digits", "(I)I"⟩ : MethodName) method_3_code 1 (some .int) :: ws) ({ frames := 0, cells := 0, slots := 0, locals := 0 } : Room)) (fun a U => a = #[(.int x0)] ∧ Z.Warmed39 U.vm ∧ U.heap = h0) (fun _ _ _ _ _ => True) (fun _ U o U' => ∃ v L, o = .returned v ∧ Q31_8 Z x0 h0 n0 v U'.heap L ∧ FrameEnd U o U' L ({ frames := 0, cells := 0, slots := 0, locals := 0 } : Room).cells ({ frames := 0, cells := 0, slots := 0, locals := 0 } : Room).slots) := by
  refine MetFree.of_bodySF (plainFor_of_name pn_com_example_manojo_manojo_ParameterPositionalPinLaw) hisR ?_
  intro p e s m args below meth c s₁ Bd hml0 hP hK
  obtain ⟨rfl, hZ, hh⟩ := hP
  have hx := Bd.exec
  have hby := Bd.bytes
  have hml : c.maxLocals = 1 := hml0
  have hown : s.vm.findClass cs9 = some m.cls := findClass_of_methodNamed Bd.named
  have hnm := (name_of_methodNamed Bd.named Bd.method).1
  have X0 : Stand p l e ({ frames := 0, cells := 0, slots := 0, locals := 0 } : Room) s m #[(.int x0)] below meth c s₁ [] 0 0 := Stand.of_body Bd
  have e0 : s₁.heap = h0 := by rw [← hh, Bd.state]; rfl
  have N0 := Fr.nil n0
  have pre0 : ∀ t, Steps p.tables e below (s₁.setTop (mkF m 0 #[.val (.int x0)] [])) t → Steps p.tables e below (s₁.setTop (entryFrame m #[(.int x0)] 1)) t := fun t k => castTop (by first | (simp [entryFrame, mkF, argsToLocals, Value.category]; done) | rfl) k
  obtain ⟨fs, hr, hrun, hended, hW, hsame⟩ := X0.leave (v := some (.int (8 : Int32))) (fun h => by rw [Bd.returns] at h; cases h)
  refine ⟨_, _, pre0 _ ?_, hrun, hended, _, _, rfl, ?_, ⟨_, rfl⟩, hW, hsame.mono (by decide) (by decide)⟩
  · show Steps p.tables e below (s₁.setTop (mkF m 0 #[.val (.int x0)] [])) _
    refine XS.iloadN X0.here hx rfl (hb hby d31_0) rfl ?_
    refine X0.ldcInt hx hown (mvT hZ (ww hw 170 rfl)) (g := (mkF m 1 #[.val (.int x0)] [(.int x0)])) rfl (hb hby d31_1) _ ?_
    show Steps p.tables e below (s₁.setTop (mkF m 3 #[.val (.int x0)] [(.int (1000000000 : Int32)), (.int x0)])) _
    refine XS.icmpYes X0.here hx rfl (pc0 := 3) (pc' := 9) rfl (hb hby d31_3) rfl (tlt hc1).1 (by decide) (by decide) ?_
    show Steps p.tables e below (s₁.setTop (mkF m 9 #[.val (.int x0)] [])) _
    refine XS.iloadN X0.here hx rfl (hb hby d31_9) rfl ?_
    refine X0.ldcInt hx hown (mvT hZ (ww hw 171 rfl)) (g := (mkF m 10 #[.val (.int x0)] [(.int x0)])) rfl (hb hby d31_10) _ ?_
    show Steps p.tables e below (s₁.setTop (mkF m 12 #[.val (.int x0)] [(.int (100000000 : Int32)), (.int x0)])) _
    refine XS.icmpYes X0.here hx rfl (pc0 := 12) (pc' := 18) rfl (hb hby d31_12) rfl (tlt hc2).1 (by decide) (by decide) ?_
    show Steps p.tables e below (s₁.setTop (mkF m 18 #[.val (.int x0)] [])) _
    refine XS.iloadN X0.here hx rfl (hb hby d31_18) rfl ?_
    refine X0.ldcInt hx hown (mvT hZ (ww hw 172 rfl)) (g := (mkF m 19 #[.val (.int x0)] [(.int x0)])) rfl (hb hby d31_19) _ ?_
    show Steps p.tables e below (s₁.setTop (mkF m 21 #[.val (.int x0)] [(.int (10000000 : Int32)), (.int x0)])) _
    refine XS.icmpNo X0.here hx rfl (hb hby d31_21) rfl (flt hc3).1 ?_
    refine XS.bipush X0.here hx rfl (hb hby d31_24) ?_
    exact retOut X0 hx (i := .ireturn) Bd.returns rfl (Or.inl ⟨rfl, Or.inl rfl, _, rfl⟩) (hb hby d31_26) hr
  · show Q31_8 Z x0 h0 n0 _ s₁.heap _
    rw [e0]
    exact ⟨rfl, N0, rfl⟩
def Q0_8 (Z : State) (x0 : Int32) (x1 : Int32) (x2 : Int32) (r3 : Addr) (r4 : Addr) (d5 : Cell) (r6 : Addr) (d7 : Cell) (t8 : List Value) (u9 : Value) (h0 : Heap) (n0 : Nat) (v : Option Value) (h : Heap) (L : List Loc) : Prop := v = some (.int (1 : Int32)) ∧ Fr n0 L
set_option maxRecDepth 65536 in
set_option maxHeartbeats 40000000 in
theorem rm0_8 (l : Launch) (Z : State) (a0 : Array Value) (hw : ∀ d ∈ tables_1, d.before a0 Z = true) (ws : List Jvm.Cond) (x0 : Int32) (x1 : Int32) (x2 : Int32) (r3 : Addr) (r4 : Addr) (d5 : Cell) (r6 : Addr) (d7 : Cell) (t8 : List Value) (u9 : Value) (h0 : Heap) (n0 : Nat) (O0 : Old Z n0 h0) (hq1 : ((1 : Int32) + ((x0 &&& (2147483647 : Int32)) % (2147483647 : Int32))) = x1) (f2 : Sta Z Z.heap "java/lang/String" "COMPACT_STRINGS" "Z" (.int x2)) (hc3 : ¬ (x2 = (0 : Int32))) (hc4 : ¬ ((0 : Int32) < (((1 : Int32) + (SBG.strSizeOf x1)) - ((16 : Int32) >>> ((0 : Int32) &&& 31))))) (f5 : own_TB Z r3 r4 d5 r6 d7) (hc6 : ¬ (((1 : Int32) + (SBG.strSizeOf x1)) < 0)) (hc7 : (((1 : Int32) + (SBG.strSizeOf x1))).toNatClampNeg ≤ ((16 : Int32)).toNatClampNeg) (hc8 : own_sz x1 ≤ (((1 : Int32) + (SBG.strSizeOf x1))).toNatClampNeg) (hc9 : ¬ (((1 : Int32) + (SBG.strSizeOf x1)) = (16 : Int32))) (hc10 : ¬ (((1 : Int32) + (SBG.strSizeOf x1)) < (0 : Int32))) (hc11 : ¬ ((((1 : Int32) + (SBG.strSizeOf x1)) - (0 : Int32)) < 0)) (hc12 : ((((1 : Int32) + (SBG.strSizeOf x1)) - (0 : Int32))).toNatClampNeg ≤ 32) (hc13 : (((1 : Int32) + (SBG.strSizeOf x1)) - (0 : Int32)) < ((16 : Int32) - (0 : Int32))) (hc14 : ((((1 : Int32) + (SBG.strSizeOf x1)) - (0 : Int32))).toNatClampNeg ≤ ((16 : Int32)).toNatClampNeg) (hq31 : (own_us [(.int (63 : Int32)), (.int (0 : Int32)), (.int (0 : Int32)), (.int (0 : Int32)), (.int (0 : Int32)), (.int (0 : Int32)), (.int (0 : Int32)), (.int (0 : Int32)), (.int (0 : Int32)), (.int (0 : Int32)), (.int (0 : Int32)), (.int (0 : Int32)), (.int (0 : Int32)), (.int (0 : Int32)), (.int (0 : Int32)), (.int (0 : Int32))] (.int (0 : Int32)) ((16 : Int32)).toNatClampNeg x1 (((1 : Int32) + (SBG.strSizeOf x1))).toNatClampNeg) = t8) (hc36 : x1 < (1000000000 : Int32)) (hc37 : x1 < (100000000 : Int32)) (hc38 : ¬ (x1 < (10000000 : Int32))) (hc42 : ((((1 : Int32) + (SBG.strSizeOf x1)) - (0 : Int32)) >>> ((nar .byte (0 : Int32)) &&& 31)) = (9 : Int32)) (f43 : Sta Z Z.heap cs10 "SIOOBE_FORMATTER" cs12 u9) (hc44 : u9.isRef = true) (hc45 : (0 : Int32) < (((1 : Int32) + (SBG.strSizeOf x1)) - (0 : Int32))) (hc46 : t8.getD ((0 : Int32)).toNatClampNeg (.int (0 : Int32)) = (.int (own_at t8 ((0 : Int32)).toNatClampNeg))) (hc49 : (nar .char (nar .char (((own_at t8 ((0 : Int32)).toNatClampNeg) &&& (255 : Int32)).toUInt32.toUInt16.toUInt32.toInt32))) = (63 : Int32)) (hc50 : ((8 : Int32) - (0 : Int32)) < (((1 : Int32) + (SBG.strSizeOf x1)) - (0 : Int32))) (hc51 : t8.getD (((8 : Int32) - (0 : Int32))).toNatClampNeg (.int (0 : Int32)) = (.int (own_at t8 (((8 : Int32) - (0 : Int32))).toNatClampNeg))) (hc52 : (nar .char (nar .char (((own_at t8 (((8 : Int32) - (0 : Int32))).toNatClampNeg) &&& (255 : Int32)).toUInt32.toUInt16.toUInt32.toInt32))) = (((48 : Int32) + ((x1 / (1 : Int32)) % (10 : Int32))).toUInt32.toUInt16.toUInt32.toInt32)) (hc54 : ((8 : Int32) - (1 : Int32)) < (((1 : Int32) + (SBG.strSizeOf x1)) - (0 : Int32))) (hc55 : t8.getD (((8 : Int32) - (1 : Int32))).toNatClampNeg (.int (0 : Int32)) = (.int (own_at t8 (((8 : Int32) - (1 : Int32))).toNatClampNeg))) (hc56 : (nar .char (nar .char (((own_at t8 (((8 : Int32) - (1 : Int32))).toNatClampNeg) &&& (255 : Int32)).toUInt32.toUInt16.toUInt32.toInt32))) = (((48 : Int32) + ((x1 / (10 : Int32)) % (10 : Int32))).toUInt32.toUInt16.toUInt32.toInt32)) (hc58 : ((8 : Int32) - (2 : Int32)) < (((1 : Int32) + (SBG.strSizeOf x1)) - (0 : Int32))) (hc59 : t8.getD (((8 : Int32) - (2 : Int32))).toNatClampNeg (.int (0 : Int32)) = (.int (own_at t8 (((8 : Int32) - (2 : Int32))).toNatClampNeg))) (hc60 : (nar .char (nar .char (((own_at t8 (((8 : Int32) - (2 : Int32))).toNatClampNeg) &&& (255 : Int32)).toUInt32.toUInt16.toUInt32.toInt32))) = (((48 : Int32) + ((x1 / (100 : Int32)) % (10 : Int32))).toUInt32.toUInt16.toUInt32.toInt32)) (hc62 : ((8 : Int32) - (3 : Int32)) < (((1 : Int32) + (SBG.strSizeOf x1)) - (0 : Int32))) (hc63 : t8.getD (((8 : Int32) - (3 : Int32))).toNatClampNeg (.int (0 : Int32)) = (.int (own_at t8 (((8 : Int32) - (3 : Int32))).toNatClampNeg))) (hc64 : (nar .char (nar .char (((own_at t8 (((8 : Int32) - (3 : Int32))).toNatClampNeg) &&& (255 : Int32)).toUInt32.toUInt16.toUInt32.toInt32))) = (((48 : Int32) + ((x1 / (1000 : Int32)) % (10 : Int32))).toUInt32.toUInt16.toUInt32.toInt32)) (hc66 : ((8 : Int32) - (4 : Int32)) < (((1 : Int32) + (SBG.strSizeOf x1)) - (0 : Int32))) (hc67 : t8.getD (((8 : Int32) - (4 : Int32))).toNatClampNeg (.int (0 : Int32)) = (.int (own_at t8 (((8 : Int32) - (4 : Int32))).toNatClampNeg))) (hc68 : (nar .char (nar .char (((own_at t8 (((8 : Int32) - (4 : Int32))).toNatClampNeg) &&& (255 : Int32)).toUInt32.toUInt16.toUInt32.toInt32))) = (((48 : Int32) + ((x1 / (10000 : Int32)) % (10 : Int32))).toUInt32.toUInt16.toUInt32.toInt32)) (hc70 : ((8 : Int32) - (5 : Int32)) < (((1 : Int32) + (SBG.strSizeOf x1)) - (0 : Int32))) (hc71 : t8.getD (((8 : Int32) - (5 : Int32))).toNatClampNeg (.int (0 : Int32)) = (.int (own_at t8 (((8 : Int32) - (5 : Int32))).toNatClampNeg))) (hc72 : (nar .char (nar .char (((own_at t8 (((8 : Int32) - (5 : Int32))).toNatClampNeg) &&& (255 : Int32)).toUInt32.toUInt16.toUInt32.toInt32))) = (((48 : Int32) + ((x1 / (100000 : Int32)) % (10 : Int32))).toUInt32.toUInt16.toUInt32.toInt32)) (hc74 : ((8 : Int32) - (6 : Int32)) < (((1 : Int32) + (SBG.strSizeOf x1)) - (0 : Int32))) (hc75 : t8.getD (((8 : Int32) - (6 : Int32))).toNatClampNeg (.int (0 : Int32)) = (.int (own_at t8 (((8 : Int32) - (6 : Int32))).toNatClampNeg))) (hc76 : (nar .char (nar .char (((own_at t8 (((8 : Int32) - (6 : Int32))).toNatClampNeg) &&& (255 : Int32)).toUInt32.toUInt16.toUInt32.toInt32))) = (((48 : Int32) + ((x1 / (1000000 : Int32)) % (10 : Int32))).toUInt32.toUInt16.toUInt32.toInt32)) (hc78 : ((8 : Int32) - (7 : Int32)) < (((1 : Int32) + (SBG.strSizeOf x1)) - (0 : Int32))) (hc79 : t8.getD (((8 : Int32) - (7 : Int32))).toNatClampNeg (.int (0 : Int32)) = (.int (own_at t8 (((8 : Int32) - (7 : Int32))).toNatClampNeg))) (hc80 : (nar .char (nar .char (((own_at t8 (((8 : Int32) - (7 : Int32))).toNatClampNeg) &&& (255 : Int32)).toUInt32.toUInt16.toUInt32.toInt32))) = (((48 : Int32) + ((x1 / (10000000 : Int32)) % (10 : Int32))).toUInt32.toUInt16.toUInt32.toInt32)) :
    MetFree l x (head1 (Jvm.Cond.code x code maxLocals ret :: ws) room_1) (fun a U => a = #[(.int x0)] ∧ Z.Warmed39 U.vm ∧ U.heap = h0 ∧ CHv Z consts_1 U.vm h0) (fun _ _ _ _ _ => True) (fun _ U o U' => ∃ v L, o = .returned v ∧ Q0_8 Z x0 x1 x2 r3 r4 d5 r6 d7 t8 u9 h0 n0 v U'.heap L ∧ CHr Z consts_1 U.vm U.heap U'.vm U'.heap ∧ ReturnedEndW U o U' L room_1.cells room_1.slots) := by
  refine MetFree.of_bodySF (plainFor_of_name pn_com_example_manojo_manojo_ParameterPositionalPinLaw) hisR ?_
  intro p e s m args below meth c s₁ Bd hml0 hP hK
  obtain ⟨rfl, hZ, hh, hC⟩ := hP
  have hx := Bd.exec
  have hby := Bd.bytes
  have hml : c.maxLocals = 4 := hml0
  have hown : s.vm.findClass cs9 = some m.cls := findClass_of_methodNamed Bd.named
  have hnm := (name_of_methodNamed Bd.named Bd.method).1
  have X0 : Stand p l e room_1 s m #[(.int x0)] below meth c s₁ [] 0 0 := Stand.of_body Bd
  have e0 : s₁.heap = h0 := by rw [← hh, Bd.state]; rfl
  have N0 := Fr.nil n0
  have pre0 : ∀ t, Steps p.tables e below (s₁.setTop (mkF m 0 #[.val (.int x0), .unset, .unset, .unset] [])) t → Steps p.tables e below (s₁.setTop (entryFrame m #[(.int x0)] maxLocals)) t := fun t k => castTop (by first | (simp [entryFrame, mkF, argsToLocals, Value.category, maxLocals]; done) | rfl) k
  have hEL : EW Z a0 consts_1 := own_EW hw
  have R0 := CHr.refl hC
  have hS15 := (State.WarmedH.refl s).since 0
  obtain ⟨_, _, ⟨T16, L16, k16, n16⟩, -, X16, hs16, hg16, ⟨Lc16, hQ16, l16, y16, z16, cr16⟩, st16⟩ := callSS X0 hx (y := (⟨cs7, "positional", cs8⟩ : MethodName)) hown (mvT hZ (ww hw 1 rfl)) (mvT hZ (ww hw 2 rfl)) (mvT hZ (ww hw 3 rfl)) (mvT hZ (ww hw 4 rfl)) (by decide) (backOfSH (s := s) (vm0 := s.vm) (W := 0) (rm1_1 l Z a0 hw [] x1 x2 r3 r4 d5 r6 d7 h0 n0 O0 f2 hc3 hc4 f5 hc6 hc7 hc8 hc9 hc10 hc11 hc12 hc13 hc14) hZ (ww hw 4 rfl) (ww hw 3 rfl) (by decide) (by decide) hEL R0.1) (g := (mkF m 11 #[.val (.int x0), .val (.int x1), .unset, .unset] [(.int x1)])) rfl (by rw [hml]; rfl) (argsL := [(.int x1)]) (rest := []) (lenOf pd__I_Lcom_example_manojo_manojo_QueryTree_Parameter_ rfl) rfl (by show 2 * 0 + _ ≤ _; exact Nat.le_of_eq rfl) (hb hby at_11) (fun _ _ => ⟨rfl, e0, (by decide : 0 + 7 ≤ _), (by decide : 0 + 65 ≤ _)⟩)
  dsimp only [Pt.U, Pt.locs, Pt.cells, Pt.slots] at X16 l16 y16 z16 st16 hQ16 hs16 hg16 cr16
  subst l16 y16 z16
  obtain ⟨X16, hS16, hZ16, ho16⟩ := rebS (s := s) (vm0 := s.vm) hS15 (by rw [e0]; exact (Nat.zero_le _)) X16 hs16 hg16 hZ hown
  obtain ⟨b16_0, b16_1, b16_2, k16_0, rfl, N16q, K16, f17, f18, f19, f20, f21, f22, f23, f24, f25, f26, f27, f28, f29⟩ := hQ16
  have N16 := Fr.app N0 N16q
  have R30 := CHr.trans R0 cr16
  have f32 : Arv Z T16.heap b16_2 k16_0 .byte (((1 : Int32) + (SBG.strSizeOf x1)) - (0 : Int32)) t8 (.int (0 : Int32)) := by rw [← hq31]; exact f25
  have o33 := Old.keep O0 K16 all0
  obtain ⟨cqq35, kqq35, qq35a, qq35b, qq35c⟩ := isOf hZ16 rfl f18
  obtain ⟨_, _, ⟨T34, L34, k34, n34⟩, -, X34, ⟨Lc34, hQ34, l34, y34, z34⟩, st34⟩ := X16.virtualBack hx (y := (⟨cs7, "name", "()Ljava/lang/String;"⟩ : MethodName)) (z := (⟨cs7, "name", "()Ljava/lang/String;"⟩ : MethodName)) ho16 (mvT hZ16 (ww hw 161 rfl)) (mvT hZ16 (ww hw 162 rfl)) (notFace_of_selects (args := #[]) (mvT hZ16 (ww hw 164 rfl))) (mvT hZ16 (ww hw 164 rfl)) (mvT hZ16 (ww hw 163 rfl)) (by decide) (backOf (W := 0) (rm30_1 l Z a0 hw [] b16_0 b16_1 T16.heap n0 o33 f19) hZ16 (ww hw 165 rfl) (ww hw 3 rfl) (by decide) (by decide)) qq35a qq35c (g := (mkF m 14 #[.val (.int x0), .val (.int x1), .unset, .unset] [(.ref b16_0)])) rfl (by rw [hml]; rfl) (Steps.refl _) (argsL := []) (rest := []) (lenOf pd___Ljava_lang_String_ rfl) rfl (by show 2 * 0 + _ ≤ _; exact Nat.le_of_eq rfl) (hb hby at_14) (fun _ _ => ⟨rfl, rfl, (by decide : 7 + 0 ≤ _), (by decide : 65 + 0 ≤ _)⟩)
  dsimp only [Pt.U, Pt.locs, Pt.cells, Pt.slots] at X34 l34 y34 z34 st34 hQ34
  subst l34 y34 z34
  obtain ⟨rfl, N34q, E34⟩ := hQ34
  have N34 := Fr.app N16 N34q
  obtain ⟨_, _, ⟨T39, L39, k39, n39⟩, -, X39, ⟨Lc39, hQ39, l39, y39, z39⟩, st39⟩ := Jvm.LawKit.callS X34 hx (y := (⟨cs9, "digits", "(I)I"⟩ : MethodName)) ho16 (mvT hZ16 (ww hw 166 rfl)) (mvT hZ16 (ww hw 167 rfl)) (mvT hZ16 (ww hw 168 rfl)) (mvT hZ16 (ww hw 169 rfl)) (by decide) (backOf (W := 0) (rm31_8 l Z a0 hw [] x1 T16.heap n0 o33 hc36 hc37 hc38) hZ16 (ww hw 169 rfl) (ww hw 168 rfl) (by decide) (by decide)) (g := (mkF m 19 #[.val (.int x0), .val (.int x1), .val (.ref b16_1), .unset] [(.int x1)])) rfl (by rw [hml]; rfl) (argsL := [(.int x1)]) (rest := []) (lenOf pd__I_I rfl) rfl (by show 2 * 0 + _ ≤ _; exact Nat.le_of_eq rfl) (hb hby at_19) (fun _ _ => ⟨rfl, E34, (by decide : 7 + 0 ≤ _), (by decide : 65 + 0 ≤ _)⟩)
  dsimp only [Pt.U, Pt.locs, Pt.cells, Pt.slots] at X39 l39 y39 z39 st39 hQ39
  subst l39 y39 z39
  obtain ⟨rfl, N39q, E39⟩ := hQ39
  have N39 := Fr.app N34 N39q
  obtain ⟨cqq41, kqq41, qq41a, qq41b, qq41c⟩ := isOf hZ16 E39 f21
  obtain ⟨_, _, ⟨T40, L40, k40, n40⟩, -, X40, ⟨Lc40, hQ40, l40, y40, z40⟩, st40⟩ := X39.virtualBack hx (y := (⟨"java/lang/String", "length", "()I"⟩ : MethodName)) (z := (⟨"java/lang/String", "length", "()I"⟩ : MethodName)) ho16 (mvT hZ16 (ww hw 175 rfl)) (mvT hZ16 (ww hw 46 rfl)) (notFace_of_selects (args := #[]) (mvT hZ16 (ww hw 48 rfl))) (mvT hZ16 (ww hw 48 rfl)) (mvT hZ16 (ww hw 47 rfl)) (by decide) (backOf (W := 0) (rm7_1 l Z a0 hw [] b16_1 b16_2 (((1 : Int32) + (SBG.strSizeOf x1)) - (0 : Int32)) k16_0 t8 x2 (0 : Int32) T16.heap n0 o33 f23 f32 f21 f2 hc3 f22) hZ16 (ww hw 49 rfl) (ww hw 23 rfl) (by decide) (by decide)) qq41a qq41c (g := (mkF m 24 #[.val (.int x0), .val (.int x1), .val (.ref b16_1), .val (.int (8 : Int32))] [(.ref b16_1)])) rfl (by rw [hml]; rfl) (Steps.refl _) (argsL := []) (rest := []) (lenOf pd___I rfl) rfl (by show 2 * 0 + _ ≤ _; exact Nat.le_of_eq rfl) (hb hby at_24) (fun _ _ => ⟨rfl, E39, (by decide : 7 + 0 ≤ _), (by decide : 65 + 0 ≤ _)⟩)
  dsimp only [Pt.U, Pt.locs, Pt.cells, Pt.slots] at X40 l40 y40 z40 st40 hQ40
  subst l40 y40 z40
  obtain ⟨rfl, N40q, E40⟩ := hQ40
  have N40 := Fr.app N39 N40q
  obtain ⟨cqq48, kqq48, qq48a, qq48b, qq48c⟩ := isOf hZ16 E40 f21
  obtain ⟨_, _, ⟨T47, L47, k47, n47⟩, -, X47, ⟨Lc47, hQ47, l47, y47, z47⟩, st47⟩ := X40.virtualBack hx (y := (⟨"java/lang/String", "charAt", "(I)C"⟩ : MethodName)) (z := (⟨"java/lang/String", "charAt", "(I)C"⟩ : MethodName)) ho16 (mvT hZ16 (ww hw 176 rfl)) (mvT hZ16 (ww hw 177 rfl)) (notFace_of_selects (args := #[]) (mvT hZ16 (ww hw 179 rfl))) (mvT hZ16 (ww hw 179 rfl)) (mvT hZ16 (ww hw 178 rfl)) (by decide) (backOf (W := 0) (rm32_1 l Z a0 hw [] b16_1 (0 : Int32) x2 (0 : Int32) b16_2 (((1 : Int32) + (SBG.strSizeOf x1)) - (0 : Int32)) k16_0 t8 u9 (own_at t8 ((0 : Int32)).toNatClampNeg) T16.heap n0 o33 f21 f2 hc3 f22 (by decide : (0 : Int32) = (0 : Int32)) f23 f32 f43 hc44 (by decide : ¬ ((0 : Int32) < (0 : Int32))) hc45 hc46) hZ16 (ww hw 180 rfl) (ww hw 23 rfl) (by decide) (by decide)) qq48a qq48c (g := (mkF m 37 #[.val (.int x0), .val (.int x1), .val (.ref b16_1), .val (.int (8 : Int32))] [(.int (0 : Int32)), (.ref b16_1)])) rfl (by rw [hml]; rfl) (Steps.refl _) (argsL := [(.int (0 : Int32))]) (rest := []) (lenOf pd__I_C rfl) rfl (by show 2 * 0 + _ ≤ _; exact Nat.le_of_eq rfl) (hb hby at_37) (fun _ _ => ⟨rfl, E40, (by decide : 7 + 0 ≤ _), (by decide : 65 + 0 ≤ _)⟩)
  dsimp only [Pt.U, Pt.locs, Pt.cells, Pt.slots] at X47 l47 y47 z47 st47 hQ47
  subst l47 y47 z47
  obtain ⟨rfl, N47q, E47⟩ := hQ47
  have N47 := Fr.app N40 N47q
  obtain ⟨_, _, ⟨T53, L53, k53, n53⟩, -, X53, ⟨Lc53, hQ53, l53, y53, z53⟩, st53⟩ := Jvm.LawKit.callS X47 hx (y := (⟨cs9, "at", cs13⟩ : MethodName)) ho16 (mvT hZ16 (ww hw 198 rfl)) (mvT hZ16 (ww hw 199 rfl)) (mvT hZ16 (ww hw 168 rfl)) (mvT hZ16 (ww hw 200 rfl)) (by decide) (backOf (W := 0) (rm37_1 l Z a0 hw [] b16_1 (8 : Int32) x1 (0 : Int32) (1 : Int32) x2 (0 : Int32) b16_2 (((1 : Int32) + (SBG.strSizeOf x1)) - (0 : Int32)) k16_0 t8 u9 (own_at t8 (((8 : Int32) - (0 : Int32))).toNatClampNeg) T16.heap n0 o33 (by decide : (0 : Int32) < (8 : Int32)) f21 f2 hc3 f22 (by decide : (0 : Int32) = (0 : Int32)) f23 f32 f43 hc44 (by decide : ¬ (((8 : Int32) - (0 : Int32)) < (0 : Int32))) hc50 hc51 (by decide : ¬ ((1 : Int32) = (0 : Int32))) hc52) hZ16 (ww hw 200 rfl) (ww hw 168 rfl) (by decide) (by decide)) (g := (mkF m 52 #[.val (.int x0), .val (.int x1), .val (.ref b16_1), .val (.int (8 : Int32))] [(.int (1 : Int32)), (.int (0 : Int32)), (.int x1), (.int (8 : Int32)), (.ref b16_1)])) rfl (by rw [hml]; rfl) (argsL := [(.ref b16_1), (.int (8 : Int32)), (.int x1), (.int (0 : Int32)), (.int (1 : Int32))]) (rest := []) (lenOf pd__Ljava_lang_String_IIII_Z rfl) rfl (by show 2 * 0 + _ ≤ _; exact Nat.le_of_eq rfl) (hb hby at_52) (fun _ _ => ⟨rfl, E47, (by decide : 7 + 0 ≤ _), (by decide : 65 + 0 ≤ _)⟩)
  dsimp only [Pt.U, Pt.locs, Pt.cells, Pt.slots] at X53 l53 y53 z53 st53 hQ53
  subst l53 y53 z53
  obtain ⟨rfl, N53q, E53⟩ := hQ53
  have N53 := Fr.app N47 N53q
  obtain ⟨_, _, ⟨T57, L57, k57, n57⟩, -, X57, ⟨Lc57, hQ57, l57, y57, z57⟩, st57⟩ := Jvm.LawKit.callS X53 hx (y := (⟨cs9, "at", cs13⟩ : MethodName)) ho16 (mvT hZ16 (ww hw 198 rfl)) (mvT hZ16 (ww hw 199 rfl)) (mvT hZ16 (ww hw 168 rfl)) (mvT hZ16 (ww hw 200 rfl)) (by decide) (backOf (W := 0) (rm37_1 l Z a0 hw [] b16_1 (8 : Int32) x1 (1 : Int32) (10 : Int32) x2 (0 : Int32) b16_2 (((1 : Int32) + (SBG.strSizeOf x1)) - (0 : Int32)) k16_0 t8 u9 (own_at t8 (((8 : Int32) - (1 : Int32))).toNatClampNeg) T16.heap n0 o33 (by decide : (1 : Int32) < (8 : Int32)) f21 f2 hc3 f22 (by decide : (0 : Int32) = (0 : Int32)) f23 f32 f43 hc44 (by decide : ¬ (((8 : Int32) - (1 : Int32)) < (0 : Int32))) hc54 hc55 (by decide : ¬ ((10 : Int32) = (0 : Int32))) hc56) hZ16 (ww hw 200 rfl) (ww hw 168 rfl) (by decide) (by decide)) (g := (mkF m 64 #[.val (.int x0), .val (.int x1), .val (.ref b16_1), .val (.int (8 : Int32))] [(.int (10 : Int32)), (.int (1 : Int32)), (.int x1), (.int (8 : Int32)), (.ref b16_1)])) rfl (by rw [hml]; rfl) (argsL := [(.ref b16_1), (.int (8 : Int32)), (.int x1), (.int (1 : Int32)), (.int (10 : Int32))]) (rest := []) (lenOf pd__Ljava_lang_String_IIII_Z rfl) rfl (by show 2 * 0 + _ ≤ _; exact Nat.le_of_eq rfl) (hb hby at_64) (fun _ _ => ⟨rfl, E53, (by decide : 7 + 0 ≤ _), (by decide : 65 + 0 ≤ _)⟩)
  dsimp only [Pt.U, Pt.locs, Pt.cells, Pt.slots] at X57 l57 y57 z57 st57 hQ57
  subst l57 y57 z57
  obtain ⟨rfl, N57q, E57⟩ := hQ57
  have N57 := Fr.app N53 N57q
  obtain ⟨_, _, ⟨T61, L61, k61, n61⟩, -, X61, ⟨Lc61, hQ61, l61, y61, z61⟩, st61⟩ := Jvm.LawKit.callS X57 hx (y := (⟨cs9, "at", cs13⟩ : MethodName)) ho16 (mvT hZ16 (ww hw 198 rfl)) (mvT hZ16 (ww hw 199 rfl)) (mvT hZ16 (ww hw 168 rfl)) (mvT hZ16 (ww hw 200 rfl)) (by decide) (backOf (W := 0) (rm37_1 l Z a0 hw [] b16_1 (8 : Int32) x1 (2 : Int32) (100 : Int32) x2 (0 : Int32) b16_2 (((1 : Int32) + (SBG.strSizeOf x1)) - (0 : Int32)) k16_0 t8 u9 (own_at t8 (((8 : Int32) - (2 : Int32))).toNatClampNeg) T16.heap n0 o33 (by decide : (2 : Int32) < (8 : Int32)) f21 f2 hc3 f22 (by decide : (0 : Int32) = (0 : Int32)) f23 f32 f43 hc44 (by decide : ¬ (((8 : Int32) - (2 : Int32)) < (0 : Int32))) hc58 hc59 (by decide : ¬ ((100 : Int32) = (0 : Int32))) hc60) hZ16 (ww hw 200 rfl) (ww hw 168 rfl) (by decide) (by decide)) (g := (mkF m 76 #[.val (.int x0), .val (.int x1), .val (.ref b16_1), .val (.int (8 : Int32))] [(.int (100 : Int32)), (.int (2 : Int32)), (.int x1), (.int (8 : Int32)), (.ref b16_1)])) rfl (by rw [hml]; rfl) (argsL := [(.ref b16_1), (.int (8 : Int32)), (.int x1), (.int (2 : Int32)), (.int (100 : Int32))]) (rest := []) (lenOf pd__Ljava_lang_String_IIII_Z rfl) rfl (by show 2 * 0 + _ ≤ _; exact Nat.le_of_eq rfl) (hb hby at_76) (fun _ _ => ⟨rfl, E57, (by decide : 7 + 0 ≤ _), (by decide : 65 + 0 ≤ _)⟩)
  dsimp only [Pt.U, Pt.locs, Pt.cells, Pt.slots] at X61 l61 y61 z61 st61 hQ61
  subst l61 y61 z61
  obtain ⟨rfl, N61q, E61⟩ := hQ61
  have N61 := Fr.app N57 N61q
  obtain ⟨_, _, ⟨T65, L65, k65, n65⟩, -, X65, ⟨Lc65, hQ65, l65, y65, z65⟩, st65⟩ := Jvm.LawKit.callS X61 hx (y := (⟨cs9, "at", cs13⟩ : MethodName)) ho16 (mvT hZ16 (ww hw 198 rfl)) (mvT hZ16 (ww hw 199 rfl)) (mvT hZ16 (ww hw 168 rfl)) (mvT hZ16 (ww hw 200 rfl)) (by decide) (backOf (W := 0) (rm37_1 l Z a0 hw [] b16_1 (8 : Int32) x1 (3 : Int32) (1000 : Int32) x2 (0 : Int32) b16_2 (((1 : Int32) + (SBG.strSizeOf x1)) - (0 : Int32)) k16_0 t8 u9 (own_at t8 (((8 : Int32) - (3 : Int32))).toNatClampNeg) T16.heap n0 o33 (by decide : (3 : Int32) < (8 : Int32)) f21 f2 hc3 f22 (by decide : (0 : Int32) = (0 : Int32)) f23 f32 f43 hc44 (by decide : ¬ (((8 : Int32) - (3 : Int32)) < (0 : Int32))) hc62 hc63 (by decide : ¬ ((1000 : Int32) = (0 : Int32))) hc64) hZ16 (ww hw 200 rfl) (ww hw 168 rfl) (by decide) (by decide)) (g := (mkF m 89 #[.val (.int x0), .val (.int x1), .val (.ref b16_1), .val (.int (8 : Int32))] [(.int (1000 : Int32)), (.int (3 : Int32)), (.int x1), (.int (8 : Int32)), (.ref b16_1)])) rfl (by rw [hml]; rfl) (argsL := [(.ref b16_1), (.int (8 : Int32)), (.int x1), (.int (3 : Int32)), (.int (1000 : Int32))]) (rest := []) (lenOf pd__Ljava_lang_String_IIII_Z rfl) rfl (by show 2 * 0 + _ ≤ _; exact Nat.le_of_eq rfl) (hb hby at_89) (fun _ _ => ⟨rfl, E61, (by decide : 7 + 0 ≤ _), (by decide : 65 + 0 ≤ _)⟩)
  dsimp only [Pt.U, Pt.locs, Pt.cells, Pt.slots] at X65 l65 y65 z65 st65 hQ65
  subst l65 y65 z65
  obtain ⟨rfl, N65q, E65⟩ := hQ65
  have N65 := Fr.app N61 N65q
  obtain ⟨_, _, ⟨T69, L69, k69, n69⟩, -, X69, ⟨Lc69, hQ69, l69, y69, z69⟩, st69⟩ := Jvm.LawKit.callS X65 hx (y := (⟨cs9, "at", cs13⟩ : MethodName)) ho16 (mvT hZ16 (ww hw 198 rfl)) (mvT hZ16 (ww hw 199 rfl)) (mvT hZ16 (ww hw 168 rfl)) (mvT hZ16 (ww hw 200 rfl)) (by decide) (backOf (W := 0) (rm37_1 l Z a0 hw [] b16_1 (8 : Int32) x1 (4 : Int32) (10000 : Int32) x2 (0 : Int32) b16_2 (((1 : Int32) + (SBG.strSizeOf x1)) - (0 : Int32)) k16_0 t8 u9 (own_at t8 (((8 : Int32) - (4 : Int32))).toNatClampNeg) T16.heap n0 o33 (by decide : (4 : Int32) < (8 : Int32)) f21 f2 hc3 f22 (by decide : (0 : Int32) = (0 : Int32)) f23 f32 f43 hc44 (by decide : ¬ (((8 : Int32) - (4 : Int32)) < (0 : Int32))) hc66 hc67 (by decide : ¬ ((10000 : Int32) = (0 : Int32))) hc68) hZ16 (ww hw 200 rfl) (ww hw 168 rfl) (by decide) (by decide)) (g := (mkF m 102 #[.val (.int x0), .val (.int x1), .val (.ref b16_1), .val (.int (8 : Int32))] [(.int (10000 : Int32)), (.int (4 : Int32)), (.int x1), (.int (8 : Int32)), (.ref b16_1)])) rfl (by rw [hml]; rfl) (argsL := [(.ref b16_1), (.int (8 : Int32)), (.int x1), (.int (4 : Int32)), (.int (10000 : Int32))]) (rest := []) (lenOf pd__Ljava_lang_String_IIII_Z rfl) rfl (by show 2 * 0 + _ ≤ _; exact Nat.le_of_eq rfl) (hb hby at_102) (fun _ _ => ⟨rfl, E65, (by decide : 7 + 0 ≤ _), (by decide : 65 + 0 ≤ _)⟩)
  dsimp only [Pt.U, Pt.locs, Pt.cells, Pt.slots] at X69 l69 y69 z69 st69 hQ69
  subst l69 y69 z69
  obtain ⟨rfl, N69q, E69⟩ := hQ69
  have N69 := Fr.app N65 N69q
  obtain ⟨_, _, ⟨T73, L73, k73, n73⟩, -, X73, ⟨Lc73, hQ73, l73, y73, z73⟩, st73⟩ := Jvm.LawKit.callS X69 hx (y := (⟨cs9, "at", cs13⟩ : MethodName)) ho16 (mvT hZ16 (ww hw 198 rfl)) (mvT hZ16 (ww hw 199 rfl)) (mvT hZ16 (ww hw 168 rfl)) (mvT hZ16 (ww hw 200 rfl)) (by decide) (backOf (W := 0) (rm37_1 l Z a0 hw [] b16_1 (8 : Int32) x1 (5 : Int32) (100000 : Int32) x2 (0 : Int32) b16_2 (((1 : Int32) + (SBG.strSizeOf x1)) - (0 : Int32)) k16_0 t8 u9 (own_at t8 (((8 : Int32) - (5 : Int32))).toNatClampNeg) T16.heap n0 o33 (by decide : (5 : Int32) < (8 : Int32)) f21 f2 hc3 f22 (by decide : (0 : Int32) = (0 : Int32)) f23 f32 f43 hc44 (by decide : ¬ (((8 : Int32) - (5 : Int32)) < (0 : Int32))) hc70 hc71 (by decide : ¬ ((100000 : Int32) = (0 : Int32))) hc72) hZ16 (ww hw 200 rfl) (ww hw 168 rfl) (by decide) (by decide)) (g := (mkF m 114 #[.val (.int x0), .val (.int x1), .val (.ref b16_1), .val (.int (8 : Int32))] [(.int (100000 : Int32)), (.int (5 : Int32)), (.int x1), (.int (8 : Int32)), (.ref b16_1)])) rfl (by rw [hml]; rfl) (argsL := [(.ref b16_1), (.int (8 : Int32)), (.int x1), (.int (5 : Int32)), (.int (100000 : Int32))]) (rest := []) (lenOf pd__Ljava_lang_String_IIII_Z rfl) rfl (by show 2 * 0 + _ ≤ _; exact Nat.le_of_eq rfl) (hb hby at_114) (fun _ _ => ⟨rfl, E69, (by decide : 7 + 0 ≤ _), (by decide : 65 + 0 ≤ _)⟩)
  dsimp only [Pt.U, Pt.locs, Pt.cells, Pt.slots] at X73 l73 y73 z73 st73 hQ73
  subst l73 y73 z73
  obtain ⟨rfl, N73q, E73⟩ := hQ73
  have N73 := Fr.app N69 N73q
  obtain ⟨_, _, ⟨T77, L77, k77, n77⟩, -, X77, ⟨Lc77, hQ77, l77, y77, z77⟩, st77⟩ := Jvm.LawKit.callS X73 hx (y := (⟨cs9, "at", cs13⟩ : MethodName)) ho16 (mvT hZ16 (ww hw 198 rfl)) (mvT hZ16 (ww hw 199 rfl)) (mvT hZ16 (ww hw 168 rfl)) (mvT hZ16 (ww hw 200 rfl)) (by decide) (backOf (W := 0) (rm37_1 l Z a0 hw [] b16_1 (8 : Int32) x1 (6 : Int32) (1000000 : Int32) x2 (0 : Int32) b16_2 (((1 : Int32) + (SBG.strSizeOf x1)) - (0 : Int32)) k16_0 t8 u9 (own_at t8 (((8 : Int32) - (6 : Int32))).toNatClampNeg) T16.heap n0 o33 (by decide : (6 : Int32) < (8 : Int32)) f21 f2 hc3 f22 (by decide : (0 : Int32) = (0 : Int32)) f23 f32 f43 hc44 (by decide : ¬ (((8 : Int32) - (6 : Int32)) < (0 : Int32))) hc74 hc75 (by decide : ¬ ((1000000 : Int32) = (0 : Int32))) hc76) hZ16 (ww hw 200 rfl) (ww hw 168 rfl) (by decide) (by decide)) (g := (mkF m 127 #[.val (.int x0), .val (.int x1), .val (.ref b16_1), .val (.int (8 : Int32))] [(.int (1000000 : Int32)), (.int (6 : Int32)), (.int x1), (.int (8 : Int32)), (.ref b16_1)])) rfl (by rw [hml]; rfl) (argsL := [(.ref b16_1), (.int (8 : Int32)), (.int x1), (.int (6 : Int32)), (.int (1000000 : Int32))]) (rest := []) (lenOf pd__Ljava_lang_String_IIII_Z rfl) rfl (by show 2 * 0 + _ ≤ _; exact Nat.le_of_eq rfl) (hb hby at_127) (fun _ _ => ⟨rfl, E73, (by decide : 7 + 0 ≤ _), (by decide : 65 + 0 ≤ _)⟩)
  dsimp only [Pt.U, Pt.locs, Pt.cells, Pt.slots] at X77 l77 y77 z77 st77 hQ77
  subst l77 y77 z77
  obtain ⟨rfl, N77q, E77⟩ := hQ77
  have N77 := Fr.app N73 N77q
  obtain ⟨_, _, ⟨T81, L81, k81, n81⟩, -, X81, ⟨Lc81, hQ81, l81, y81, z81⟩, st81⟩ := Jvm.LawKit.callS X77 hx (y := (⟨cs9, "at", cs13⟩ : MethodName)) ho16 (mvT hZ16 (ww hw 198 rfl)) (mvT hZ16 (ww hw 199 rfl)) (mvT hZ16 (ww hw 168 rfl)) (mvT hZ16 (ww hw 200 rfl)) (by decide) (backOf (W := 0) (rm37_1 l Z a0 hw [] b16_1 (8 : Int32) x1 (7 : Int32) (10000000 : Int32) x2 (0 : Int32) b16_2 (((1 : Int32) + (SBG.strSizeOf x1)) - (0 : Int32)) k16_0 t8 u9 (own_at t8 (((8 : Int32) - (7 : Int32))).toNatClampNeg) T16.heap n0 o33 (by decide : (7 : Int32) < (8 : Int32)) f21 f2 hc3 f22 (by decide : (0 : Int32) = (0 : Int32)) f23 f32 f43 hc44 (by decide : ¬ (((8 : Int32) - (7 : Int32)) < (0 : Int32))) hc78 hc79 (by decide : ¬ ((10000000 : Int32) = (0 : Int32))) hc80) hZ16 (ww hw 200 rfl) (ww hw 168 rfl) (by decide) (by decide)) (g := (mkF m 140 #[.val (.int x0), .val (.int x1), .val (.ref b16_1), .val (.int (8 : Int32))] [(.int (10000000 : Int32)), (.int (7 : Int32)), (.int x1), (.int (8 : Int32)), (.ref b16_1)])) rfl (by rw [hml]; rfl) (argsL := [(.ref b16_1), (.int (8 : Int32)), (.int x1), (.int (7 : Int32)), (.int (10000000 : Int32))]) (rest := []) (lenOf pd__Ljava_lang_String_IIII_Z rfl) rfl (by show 2 * 0 + _ ≤ _; exact Nat.le_of_eq rfl) (hb hby at_140) (fun _ _ => ⟨rfl, E77, (by decide : 7 + 0 ≤ _), (by decide : 65 + 0 ≤ _)⟩)
  dsimp only [Pt.U, Pt.locs, Pt.cells, Pt.slots] at X81 l81 y81 z81 st81 hQ81
  subst l81 y81 z81
  obtain ⟨rfl, N81q, E81⟩ := hQ81
  have N81 := Fr.app N77 N81q
  obtain ⟨_, _, ⟨T82, L82, k82, n82⟩, -, X82, ⟨Lc82, hQ82, l82, y82, z82⟩, st82⟩ := Jvm.LawKit.callS X81 hx (y := (⟨cs9, "at", cs13⟩ : MethodName)) ho16 (mvT hZ16 (ww hw 198 rfl)) (mvT hZ16 (ww hw 199 rfl)) (mvT hZ16 (ww hw 168 rfl)) (mvT hZ16 (ww hw 200 rfl)) (by decide) (backOf (W := 0) (rm37_2 l Z a0 hw [] b16_1 (8 : Int32) x1 (8 : Int32) (100000000 : Int32) T16.heap n0 o33 (by decide : ¬ ((8 : Int32) < (8 : Int32)))) hZ16 (ww hw 200 rfl) (ww hw 168 rfl) (by decide) (by decide)) (g := (mkF m 153 #[.val (.int x0), .val (.int x1), .val (.ref b16_1), .val (.int (8 : Int32))] [(.int (100000000 : Int32)), (.int (8 : Int32)), (.int x1), (.int (8 : Int32)), (.ref b16_1)])) rfl (by rw [hml]; rfl) (argsL := [(.ref b16_1), (.int (8 : Int32)), (.int x1), (.int (8 : Int32)), (.int (100000000 : Int32))]) (rest := []) (lenOf pd__Ljava_lang_String_IIII_Z rfl) rfl (by show 2 * 0 + _ ≤ _; exact Nat.le_of_eq rfl) (hb hby at_153) (fun _ _ => ⟨rfl, E81, (by decide : 7 + 0 ≤ _), (by decide : 65 + 0 ≤ _)⟩)
  dsimp only [Pt.U, Pt.locs, Pt.cells, Pt.slots] at X82 l82 y82 z82 st82 hQ82
  subst l82 y82 z82
  obtain ⟨rfl, N82q, E82⟩ := hQ82
  have N82 := Fr.app N81 N82q
  obtain ⟨_, _, ⟨T83, L83, k83, n83⟩, -, X83, ⟨Lc83, hQ83, l83, y83, z83⟩, st83⟩ := Jvm.LawKit.callS X82 hx (y := (⟨cs9, "at", cs13⟩ : MethodName)) ho16 (mvT hZ16 (ww hw 198 rfl)) (mvT hZ16 (ww hw 199 rfl)) (mvT hZ16 (ww hw 168 rfl)) (mvT hZ16 (ww hw 200 rfl)) (by decide) (backOf (W := 0) (rm37_2 l Z a0 hw [] b16_1 (8 : Int32) x1 (9 : Int32) (1000000000 : Int32) T16.heap n0 o33 (by decide : ¬ ((9 : Int32) < (8 : Int32)))) hZ16 (ww hw 200 rfl) (ww hw 168 rfl) (by decide) (by decide)) (g := (mkF m 166 #[.val (.int x0), .val (.int x1), .val (.ref b16_1), .val (.int (8 : Int32))] [(.int (1000000000 : Int32)), (.int (9 : Int32)), (.int x1), (.int (8 : Int32)), (.ref b16_1)])) rfl (by rw [hml]; rfl) (argsL := [(.ref b16_1), (.int (8 : Int32)), (.int x1), (.int (9 : Int32)), (.int (1000000000 : Int32))]) (rest := []) (lenOf pd__Ljava_lang_String_IIII_Z rfl) rfl (by show 2 * 0 + _ ≤ _; exact Nat.le_of_eq rfl) (hb hby at_166) (fun _ _ => ⟨rfl, E82, (by decide : 7 + 0 ≤ _), (by decide : 65 + 0 ≤ _)⟩)
  dsimp only [Pt.U, Pt.locs, Pt.cells, Pt.slots] at X83 l83 y83 z83 st83 hQ83
  subst l83 y83 z83
  obtain ⟨rfl, N83q, E83⟩ := hQ83
  have N83 := Fr.app N82 N83q
  obtain ⟨fs, hr, hrun, hended, hend⟩ := leaveW (s := s) (vm₁ := T16.vm) X83 hS16 (by rw [E83]; exact (Nat.le_refl _)) (v := some (.int (1 : Int32))) (fun h => by rw [Bd.returns] at h; cases h)
  have hCR : CHr Z consts_1 s.vm s.heap T83.vm T83.heap := by rw [hh, E83]; exact CHr.trans R30 (CHv.at (s := s) (vm0 := T16.vm) X83 hZ16 hEL R30.1)
  refine ⟨_, _, pre0 _ ?_, hrun, hended, _, _, rfl, ?_, hCR, hend.1, hend.2.1, hend.2.2.1, hend.2.2.2.mono (by decide) (by decide)⟩
  · show Steps p.tables e below (s₁.setTop (mkF m 0 #[.val (.int x0), .unset, .unset, .unset] [])) _
    refine XS.iconst X0.here hx rfl (hb hby at_0) ?_
    refine XS.iloadN X0.here hx rfl (hb hby at_1) rfl ?_
    refine X0.ldcInt hx hown (mvT hZ (ww hw 0 rfl)) (g := (mkF m 2 #[.val (.int x0), .unset, .unset, .unset] [(.int x0), (.int (1 : Int32))])) rfl (hb hby at_2) _ ?_
    show Steps p.tables e below (s₁.setTop (mkF m 4 #[.val (.int x0), .unset, .unset, .unset] [(.int (2147483647 : Int32)), (.int x0), (.int (1 : Int32))])) _
    refine XS.iand X0.here hx rfl (hb hby at_4) rfl ?_
    refine X0.ldcInt hx hown (mvT hZ (ww hw 0 rfl)) (g := (mkF m 5 #[.val (.int x0), .unset, .unset, .unset] [(.int (x0 &&& (2147483647 : Int32))), (.int (1 : Int32))])) rfl (hb hby at_5) _ ?_
    show Steps p.tables e below (s₁.setTop (mkF m 7 #[.val (.int x0), .unset, .unset, .unset] [(.int (2147483647 : Int32)), (.int (x0 &&& (2147483647 : Int32))), (.int (1 : Int32))])) _
    refine iremM (g := (mkF m 7 #[.val (.int x0), .unset, .unset, .unset] [(.int (2147483647 : Int32)), (.int (x0 &&& (2147483647 : Int32))), (.int (1 : Int32))])) X0 hx rfl (hb hby at_7) rfl (by decide : ¬ ((2147483647 : Int32) = (0 : Int32))) ?_
    show Steps p.tables e below (s₁.setTop (mkF m 8 #[.val (.int x0), .unset, .unset, .unset] [(.int ((x0 &&& (2147483647 : Int32)) % (2147483647 : Int32))), (.int (1 : Int32))])) _
    refine XS.iadd X0.here hx rfl (hb hby at_8) rfl ?_
    show Steps p.tables e below (s₁.setTop (mkF m 9 #[.val (.int x0), .unset, .unset, .unset] [(.int ((1 : Int32) + ((x0 &&& (2147483647 : Int32)) % (2147483647 : Int32))))])) _
    rw [hq1]
    show Steps p.tables e below (s₁.setTop (mkF m 9 #[.val (.int x0), .unset, .unset, .unset] [(.int x1)])) _
    refine XS.istoreN X0.here hx rfl (hb hby at_9) rfl (l' := #[.val (.int x0), .val (.int x1), .unset, .unset]) rfl ?_
    refine XS.iloadN X0.here hx rfl (hb hby at_10) rfl ?_
    refine st16.trans ?_
    show Steps p.tables e below (T16.setTop (mkF m 14 #[.val (.int x0), .val (.int x1), .unset, .unset] [(.ref b16_0)])) _
    refine st34.trans ?_
    show Steps p.tables e below (T34.setTop (mkF m 17 #[.val (.int x0), .val (.int x1), .unset, .unset] [(.ref b16_1)])) _
    refine XS.astoreN X34.here hx rfl (hb hby at_17) rfl rfl (l' := #[.val (.int x0), .val (.int x1), .val (.ref b16_1), .unset]) rfl ?_
    refine XS.iloadN X34.here hx rfl (hb hby at_18) rfl ?_
    refine st39 _ ?_
    show Steps p.tables e below (T39.setTop (mkF m 22 #[.val (.int x0), .val (.int x1), .val (.ref b16_1), .unset] [(.int (8 : Int32))])) _
    refine XS.istoreN X39.here hx rfl (hb hby at_22) rfl (l' := #[.val (.int x0), .val (.int x1), .val (.ref b16_1), .val (.int (8 : Int32))]) rfl ?_
    refine XS.aloadN X39.here hx rfl (hb hby at_23) rfl rfl ?_
    refine st40.trans ?_
    show Steps p.tables e below (T40.setTop (mkF m 27 #[.val (.int x0), .val (.int x1), .val (.ref b16_1), .val (.int (8 : Int32))] [(.int ((((1 : Int32) + (SBG.strSizeOf x1)) - (0 : Int32)) >>> ((nar .byte (0 : Int32)) &&& 31)))])) _
    refine XS.iloadN X40.here hx rfl (hb hby at_27) rfl ?_
    refine XS.iconst X40.here hx rfl (hb hby at_28) ?_
    refine XS.iadd X40.here hx rfl (hb hby at_29) rfl ?_
    refine XS.icmpYes X40.here hx rfl (pc0 := 30) (pc' := 35) rfl (hb hby at_30) rfl (teq hc42).1 (by decide) (by decide) ?_
    show Steps p.tables e below (T40.setTop (mkF m 35 #[.val (.int x0), .val (.int x1), .val (.ref b16_1), .val (.int (8 : Int32))] [])) _
    refine XS.aloadN X40.here hx rfl (hb hby at_35) rfl rfl ?_
    refine XS.iconst X40.here hx rfl (hb hby at_36) ?_
    refine st47.trans ?_
    show Steps p.tables e below (T47.setTop (mkF m 40 #[.val (.int x0), .val (.int x1), .val (.ref b16_1), .val (.int (8 : Int32))] [(.int (nar .char (nar .char (((own_at t8 ((0 : Int32)).toNatClampNeg) &&& (255 : Int32)).toUInt32.toUInt16.toUInt32.toInt32))))])) _
    refine XS.bipush X47.here hx rfl (hb hby at_40) ?_
    refine XS.icmpYes X47.here hx rfl (pc0 := 42) (pc' := 47) rfl (hb hby at_42) rfl (teq hc49).1 (by decide) (by decide) ?_
    show Steps p.tables e below (T47.setTop (mkF m 47 #[.val (.int x0), .val (.int x1), .val (.ref b16_1), .val (.int (8 : Int32))] [])) _
    refine XS.aloadN X47.here hx rfl (hb hby at_47) rfl rfl ?_
    refine XS.iloadN X47.here hx rfl (hb hby at_48) rfl ?_
    refine XS.iloadN X47.here hx rfl (hb hby at_49) rfl ?_
    refine XS.iconst X47.here hx rfl (hb hby at_50) ?_
    show Steps p.tables e below (T47.setTop (mkF m 51 #[.val (.int x0), .val (.int x1), .val (.ref b16_1), .val (.int (8 : Int32))] [(.int (0 : Int32)), (.int x1), (.int (8 : Int32)), (.ref b16_1)])) _
    refine XS.iconst X47.here hx rfl (hb hby at_51) ?_
    refine st53 _ ?_
    show Steps p.tables e below (T53.setTop (mkF m 55 #[.val (.int x0), .val (.int x1), .val (.ref b16_1), .val (.int (8 : Int32))] [(.int (1 : Int32))])) _
    refine XS.ifNo X53.here hx rfl (hb hby at_55) rfl ((if0 _ _).trans (feq (by decide : ¬ ((1 : Int32) = (0 : Int32)))).1) ?_
    refine XS.aloadN X53.here hx rfl (hb hby at_58) rfl rfl ?_
    refine XS.iloadN X53.here hx rfl (hb hby at_59) rfl ?_
    refine XS.iloadN X53.here hx rfl (hb hby at_60) rfl ?_
    show Steps p.tables e below (T53.setTop (mkF m 61 #[.val (.int x0), .val (.int x1), .val (.ref b16_1), .val (.int (8 : Int32))] [(.int x1), (.int (8 : Int32)), (.ref b16_1)])) _
    refine XS.iconst X53.here hx rfl (hb hby at_61) ?_
    refine XS.bipush X53.here hx rfl (hb hby at_62) ?_
    refine st57 _ ?_
    show Steps p.tables e below (T57.setTop (mkF m 67 #[.val (.int x0), .val (.int x1), .val (.ref b16_1), .val (.int (8 : Int32))] [(.int (1 : Int32))])) _
    refine XS.ifNo X57.here hx rfl (hb hby at_67) rfl ((if0 _ _).trans (feq (by decide : ¬ ((1 : Int32) = (0 : Int32)))).1) ?_
    refine XS.aloadN X57.here hx rfl (hb hby at_70) rfl rfl ?_
    refine XS.iloadN X57.here hx rfl (hb hby at_71) rfl ?_
    refine XS.iloadN X57.here hx rfl (hb hby at_72) rfl ?_
    show Steps p.tables e below (T57.setTop (mkF m 73 #[.val (.int x0), .val (.int x1), .val (.ref b16_1), .val (.int (8 : Int32))] [(.int x1), (.int (8 : Int32)), (.ref b16_1)])) _
    refine XS.iconst X57.here hx rfl (hb hby at_73) ?_
    refine XS.bipush X57.here hx rfl (hb hby at_74) ?_
    refine st61 _ ?_
    show Steps p.tables e below (T61.setTop (mkF m 79 #[.val (.int x0), .val (.int x1), .val (.ref b16_1), .val (.int (8 : Int32))] [(.int (1 : Int32))])) _
    refine XS.ifNo X61.here hx rfl (hb hby at_79) rfl ((if0 _ _).trans (feq (by decide : ¬ ((1 : Int32) = (0 : Int32)))).1) ?_
    refine XS.aloadN X61.here hx rfl (hb hby at_82) rfl rfl ?_
    refine XS.iloadN X61.here hx rfl (hb hby at_83) rfl ?_
    refine XS.iloadN X61.here hx rfl (hb hby at_84) rfl ?_
    show Steps p.tables e below (T61.setTop (mkF m 85 #[.val (.int x0), .val (.int x1), .val (.ref b16_1), .val (.int (8 : Int32))] [(.int x1), (.int (8 : Int32)), (.ref b16_1)])) _
    refine XS.iconst X61.here hx rfl (hb hby at_85) ?_
    refine XS.sipush X61.here hx rfl (hb hby at_86) ?_
    refine st65 _ ?_
    show Steps p.tables e below (T65.setTop (mkF m 92 #[.val (.int x0), .val (.int x1), .val (.ref b16_1), .val (.int (8 : Int32))] [(.int (1 : Int32))])) _
    refine XS.ifNo X65.here hx rfl (hb hby at_92) rfl ((if0 _ _).trans (feq (by decide : ¬ ((1 : Int32) = (0 : Int32)))).1) ?_
    refine XS.aloadN X65.here hx rfl (hb hby at_95) rfl rfl ?_
    refine XS.iloadN X65.here hx rfl (hb hby at_96) rfl ?_
    refine XS.iloadN X65.here hx rfl (hb hby at_97) rfl ?_
    show Steps p.tables e below (T65.setTop (mkF m 98 #[.val (.int x0), .val (.int x1), .val (.ref b16_1), .val (.int (8 : Int32))] [(.int x1), (.int (8 : Int32)), (.ref b16_1)])) _
    refine XS.iconst X65.here hx rfl (hb hby at_98) ?_
    refine XS.sipush X65.here hx rfl (hb hby at_99) ?_
    refine st69 _ ?_
    show Steps p.tables e below (T69.setTop (mkF m 105 #[.val (.int x0), .val (.int x1), .val (.ref b16_1), .val (.int (8 : Int32))] [(.int (1 : Int32))])) _
    refine XS.ifNo X69.here hx rfl (hb hby at_105) rfl ((if0 _ _).trans (feq (by decide : ¬ ((1 : Int32) = (0 : Int32)))).1) ?_
    refine XS.aloadN X69.here hx rfl (hb hby at_108) rfl rfl ?_
    refine XS.iloadN X69.here hx rfl (hb hby at_109) rfl ?_
    refine XS.iloadN X69.here hx rfl (hb hby at_110) rfl ?_
    show Steps p.tables e below (T69.setTop (mkF m 111 #[.val (.int x0), .val (.int x1), .val (.ref b16_1), .val (.int (8 : Int32))] [(.int x1), (.int (8 : Int32)), (.ref b16_1)])) _
    refine XS.iconst X69.here hx rfl (hb hby at_111) ?_
    refine X69.ldcInt hx ho16 (mvT hZ16 (ww hw 174 rfl)) (g := (mkF m 112 #[.val (.int x0), .val (.int x1), .val (.ref b16_1), .val (.int (8 : Int32))] [(.int (5 : Int32)), (.int x1), (.int (8 : Int32)), (.ref b16_1)])) rfl (hb hby at_112) _ ?_
    show Steps p.tables e below (T69.setTop (mkF m 114 #[.val (.int x0), .val (.int x1), .val (.ref b16_1), .val (.int (8 : Int32))] [(.int (100000 : Int32)), (.int (5 : Int32)), (.int x1), (.int (8 : Int32)), (.ref b16_1)])) _
    refine st73 _ ?_
    show Steps p.tables e below (T73.setTop (mkF m 117 #[.val (.int x0), .val (.int x1), .val (.ref b16_1), .val (.int (8 : Int32))] [(.int (1 : Int32))])) _
    refine XS.ifNo X73.here hx rfl (hb hby at_117) rfl ((if0 _ _).trans (feq (by decide : ¬ ((1 : Int32) = (0 : Int32)))).1) ?_
    refine XS.aloadN X73.here hx rfl (hb hby at_120) rfl rfl ?_
    refine XS.iloadN X73.here hx rfl (hb hby at_121) rfl ?_
    refine XS.iloadN X73.here hx rfl (hb hby at_122) rfl ?_
    show Steps p.tables e below (T73.setTop (mkF m 123 #[.val (.int x0), .val (.int x1), .val (.ref b16_1), .val (.int (8 : Int32))] [(.int x1), (.int (8 : Int32)), (.ref b16_1)])) _
    refine XS.bipush X73.here hx rfl (hb hby at_123) ?_
    refine X73.ldcInt hx ho16 (mvT hZ16 (ww hw 173 rfl)) (g := (mkF m 125 #[.val (.int x0), .val (.int x1), .val (.ref b16_1), .val (.int (8 : Int32))] [(.int (6 : Int32)), (.int x1), (.int (8 : Int32)), (.ref b16_1)])) rfl (hb hby at_125) _ ?_
    show Steps p.tables e below (T73.setTop (mkF m 127 #[.val (.int x0), .val (.int x1), .val (.ref b16_1), .val (.int (8 : Int32))] [(.int (1000000 : Int32)), (.int (6 : Int32)), (.int x1), (.int (8 : Int32)), (.ref b16_1)])) _
    refine st77 _ ?_
    show Steps p.tables e below (T77.setTop (mkF m 130 #[.val (.int x0), .val (.int x1), .val (.ref b16_1), .val (.int (8 : Int32))] [(.int (1 : Int32))])) _
    refine XS.ifNo X77.here hx rfl (hb hby at_130) rfl ((if0 _ _).trans (feq (by decide : ¬ ((1 : Int32) = (0 : Int32)))).1) ?_
    refine XS.aloadN X77.here hx rfl (hb hby at_133) rfl rfl ?_
    refine XS.iloadN X77.here hx rfl (hb hby at_134) rfl ?_
    refine XS.iloadN X77.here hx rfl (hb hby at_135) rfl ?_
    show Steps p.tables e below (T77.setTop (mkF m 136 #[.val (.int x0), .val (.int x1), .val (.ref b16_1), .val (.int (8 : Int32))] [(.int x1), (.int (8 : Int32)), (.ref b16_1)])) _
    refine XS.bipush X77.here hx rfl (hb hby at_136) ?_
    refine X77.ldcInt hx ho16 (mvT hZ16 (ww hw 172 rfl)) (g := (mkF m 138 #[.val (.int x0), .val (.int x1), .val (.ref b16_1), .val (.int (8 : Int32))] [(.int (7 : Int32)), (.int x1), (.int (8 : Int32)), (.ref b16_1)])) rfl (hb hby at_138) _ ?_
    show Steps p.tables e below (T77.setTop (mkF m 140 #[.val (.int x0), .val (.int x1), .val (.ref b16_1), .val (.int (8 : Int32))] [(.int (10000000 : Int32)), (.int (7 : Int32)), (.int x1), (.int (8 : Int32)), (.ref b16_1)])) _
    refine st81 _ ?_
    show Steps p.tables e below (T81.setTop (mkF m 143 #[.val (.int x0), .val (.int x1), .val (.ref b16_1), .val (.int (8 : Int32))] [(.int (1 : Int32))])) _
    refine XS.ifNo X81.here hx rfl (hb hby at_143) rfl ((if0 _ _).trans (feq (by decide : ¬ ((1 : Int32) = (0 : Int32)))).1) ?_
    refine XS.aloadN X81.here hx rfl (hb hby at_146) rfl rfl ?_
    refine XS.iloadN X81.here hx rfl (hb hby at_147) rfl ?_
    refine XS.iloadN X81.here hx rfl (hb hby at_148) rfl ?_
    show Steps p.tables e below (T81.setTop (mkF m 149 #[.val (.int x0), .val (.int x1), .val (.ref b16_1), .val (.int (8 : Int32))] [(.int x1), (.int (8 : Int32)), (.ref b16_1)])) _
    refine XS.bipush X81.here hx rfl (hb hby at_149) ?_
    refine X81.ldcInt hx ho16 (mvT hZ16 (ww hw 171 rfl)) (g := (mkF m 151 #[.val (.int x0), .val (.int x1), .val (.ref b16_1), .val (.int (8 : Int32))] [(.int (8 : Int32)), (.int x1), (.int (8 : Int32)), (.ref b16_1)])) rfl (hb hby at_151) _ ?_
    show Steps p.tables e below (T81.setTop (mkF m 153 #[.val (.int x0), .val (.int x1), .val (.ref b16_1), .val (.int (8 : Int32))] [(.int (100000000 : Int32)), (.int (8 : Int32)), (.int x1), (.int (8 : Int32)), (.ref b16_1)])) _
    refine st82 _ ?_
    show Steps p.tables e below (T82.setTop (mkF m 156 #[.val (.int x0), .val (.int x1), .val (.ref b16_1), .val (.int (8 : Int32))] [(.int (1 : Int32))])) _
    refine XS.ifNo X82.here hx rfl (hb hby at_156) rfl ((if0 _ _).trans (feq (by decide : ¬ ((1 : Int32) = (0 : Int32)))).1) ?_
    refine XS.aloadN X82.here hx rfl (hb hby at_159) rfl rfl ?_
    refine XS.iloadN X82.here hx rfl (hb hby at_160) rfl ?_
    refine XS.iloadN X82.here hx rfl (hb hby at_161) rfl ?_
    show Steps p.tables e below (T82.setTop (mkF m 162 #[.val (.int x0), .val (.int x1), .val (.ref b16_1), .val (.int (8 : Int32))] [(.int x1), (.int (8 : Int32)), (.ref b16_1)])) _
    refine XS.bipush X82.here hx rfl (hb hby at_162) ?_
    refine X82.ldcInt hx ho16 (mvT hZ16 (ww hw 170 rfl)) (g := (mkF m 164 #[.val (.int x0), .val (.int x1), .val (.ref b16_1), .val (.int (8 : Int32))] [(.int (9 : Int32)), (.int x1), (.int (8 : Int32)), (.ref b16_1)])) rfl (hb hby at_164) _ ?_
    show Steps p.tables e below (T82.setTop (mkF m 166 #[.val (.int x0), .val (.int x1), .val (.ref b16_1), .val (.int (8 : Int32))] [(.int (1000000000 : Int32)), (.int (9 : Int32)), (.int x1), (.int (8 : Int32)), (.ref b16_1)])) _
    refine st83 _ ?_
    show Steps p.tables e below (T83.setTop (mkF m 169 #[.val (.int x0), .val (.int x1), .val (.ref b16_1), .val (.int (8 : Int32))] [(.int (1 : Int32))])) _
    refine XS.ifNo X83.here hx rfl (hb hby at_169) rfl ((if0 _ _).trans (feq (by decide : ¬ ((1 : Int32) = (0 : Int32)))).1) ?_
    refine XS.iconst X83.here hx rfl (hb hby at_172) ?_
    refine XS.goto X83.here hx rfl (pc0 := 173) (pc' := 177) rfl (hb hby at_173) (by decide) (by decide) ?_
    show Steps p.tables e below (T83.setTop (mkF m 177 #[.val (.int x0), .val (.int x1), .val (.ref b16_1), .val (.int (8 : Int32))] [(.int (1 : Int32))])) _
    exact retN X83 hx (t := .boolean) Bd.returns (by simp) (hb hby at_177) hr
  · show Q0_8 Z x0 x1 x2 r3 r4 d5 r6 d7 t8 u9 h0 n0 _ T83.heap _
    rw [E83]
    exact ⟨rfl, N83⟩
theorem d31_15 : decode method_3_code 15 = .ok (.bipush 9, 2) := by decide +kernel
theorem d31_17 : decode method_3_code 17 = .ok (.ireturn, 1) := by decide +kernel
def Q31_9 (Z : State) (x0 : Int32) (h0 : Heap) (n0 : Nat) (v : Option Value) (h : Heap) (L : List Loc) : Prop := v = some (.int (9 : Int32)) ∧ Fr n0 L ∧ h = h0
set_option maxRecDepth 65536 in
set_option maxHeartbeats 40000000 in
theorem rm31_9 (l : Launch) (Z : State) (a0 : Array Value) (hw : ∀ d ∈ tables_1, d.before a0 Z = true) (ws : List Jvm.Cond) (x0 : Int32) (h0 : Heap) (n0 : Nat) (O0 : Old Z n0 h0) (hc1 : x0 < (1000000000 : Int32)) (hc2 : ¬ (x0 < (100000000 : Int32))) :
    MetFree l (⟨cs9, "digits", "(I)I"⟩ : MethodName) (head1 (Jvm.Cond.code (⟨cs9, "digits", "(I)I"⟩ : MethodName) method_3_code 1 (some .int) :: ws) ({ frames := 0, cells := 0, slots := 0, locals := 0 } : Room)) (fun a U => a = #[(.int x0)] ∧ Z.Warmed39 U.vm ∧ U.heap = h0) (fun _ _ _ _ _ => True) (fun _ U o U' => ∃ v L, o = .returned v ∧ Q31_9 Z x0 h0 n0 v U'.heap L ∧ FrameEnd U o U' L ({ frames := 0, cells := 0, slots := 0, locals := 0 } : Room).cells ({ frames := 0, cells := 0, slots := 0, locals := 0 } : Room).slots) := by
  refine MetFree.of_bodySF (plainFor_of_name pn_com_example_manojo_manojo_ParameterPositionalPinLaw) hisR ?_
  intro p e s m args below meth c s₁ Bd hml0 hP hK
  obtain ⟨rfl, hZ, hh⟩ := hP
  have hx := Bd.exec
  have hby := Bd.bytes
  have hml : c.maxLocals = 1 := hml0
  have hown : s.vm.findClass cs9 = some m.cls := findClass_of_methodNamed Bd.named
  have hnm := (name_of_methodNamed Bd.named Bd.method).1
  have X0 : Stand p l e ({ frames := 0, cells := 0, slots := 0, locals := 0 } : Room) s m #[(.int x0)] below meth c s₁ [] 0 0 := Stand.of_body Bd
  have e0 : s₁.heap = h0 := by rw [← hh, Bd.state]; rfl
  have N0 := Fr.nil n0
  have pre0 : ∀ t, Steps p.tables e below (s₁.setTop (mkF m 0 #[.val (.int x0)] [])) t → Steps p.tables e below (s₁.setTop (entryFrame m #[(.int x0)] 1)) t := fun t k => castTop (by first | (simp [entryFrame, mkF, argsToLocals, Value.category]; done) | rfl) k
  obtain ⟨fs, hr, hrun, hended, hW, hsame⟩ := X0.leave (v := some (.int (9 : Int32))) (fun h => by rw [Bd.returns] at h; cases h)
  refine ⟨_, _, pre0 _ ?_, hrun, hended, _, _, rfl, ?_, ⟨_, rfl⟩, hW, hsame.mono (by decide) (by decide)⟩
  · show Steps p.tables e below (s₁.setTop (mkF m 0 #[.val (.int x0)] [])) _
    refine XS.iloadN X0.here hx rfl (hb hby d31_0) rfl ?_
    refine X0.ldcInt hx hown (mvT hZ (ww hw 170 rfl)) (g := (mkF m 1 #[.val (.int x0)] [(.int x0)])) rfl (hb hby d31_1) _ ?_
    show Steps p.tables e below (s₁.setTop (mkF m 3 #[.val (.int x0)] [(.int (1000000000 : Int32)), (.int x0)])) _
    refine XS.icmpYes X0.here hx rfl (pc0 := 3) (pc' := 9) rfl (hb hby d31_3) rfl (tlt hc1).1 (by decide) (by decide) ?_
    show Steps p.tables e below (s₁.setTop (mkF m 9 #[.val (.int x0)] [])) _
    refine XS.iloadN X0.here hx rfl (hb hby d31_9) rfl ?_
    refine X0.ldcInt hx hown (mvT hZ (ww hw 171 rfl)) (g := (mkF m 10 #[.val (.int x0)] [(.int x0)])) rfl (hb hby d31_10) _ ?_
    show Steps p.tables e below (s₁.setTop (mkF m 12 #[.val (.int x0)] [(.int (100000000 : Int32)), (.int x0)])) _
    refine XS.icmpNo X0.here hx rfl (hb hby d31_12) rfl (flt hc2).1 ?_
    refine XS.bipush X0.here hx rfl (hb hby d31_15) ?_
    exact retOut X0 hx (i := .ireturn) Bd.returns rfl (Or.inl ⟨rfl, Or.inl rfl, _, rfl⟩) (hb hby d31_17) hr
  · show Q31_9 Z x0 h0 n0 _ s₁.heap _
    rw [e0]
    exact ⟨rfl, N0, rfl⟩
def Q0_9 (Z : State) (x0 : Int32) (x1 : Int32) (x2 : Int32) (r3 : Addr) (r4 : Addr) (d5 : Cell) (r6 : Addr) (d7 : Cell) (t8 : List Value) (u9 : Value) (h0 : Heap) (n0 : Nat) (v : Option Value) (h : Heap) (L : List Loc) : Prop := v = some (.int (1 : Int32)) ∧ Fr n0 L
set_option maxRecDepth 65536 in
set_option maxHeartbeats 40000000 in
theorem rm0_9 (l : Launch) (Z : State) (a0 : Array Value) (hw : ∀ d ∈ tables_1, d.before a0 Z = true) (ws : List Jvm.Cond) (x0 : Int32) (x1 : Int32) (x2 : Int32) (r3 : Addr) (r4 : Addr) (d5 : Cell) (r6 : Addr) (d7 : Cell) (t8 : List Value) (u9 : Value) (h0 : Heap) (n0 : Nat) (O0 : Old Z n0 h0) (hq1 : ((1 : Int32) + ((x0 &&& (2147483647 : Int32)) % (2147483647 : Int32))) = x1) (f2 : Sta Z Z.heap "java/lang/String" "COMPACT_STRINGS" "Z" (.int x2)) (hc3 : ¬ (x2 = (0 : Int32))) (hc4 : ¬ ((0 : Int32) < (((1 : Int32) + (SBG.strSizeOf x1)) - ((16 : Int32) >>> ((0 : Int32) &&& 31))))) (f5 : own_TB Z r3 r4 d5 r6 d7) (hc6 : ¬ (((1 : Int32) + (SBG.strSizeOf x1)) < 0)) (hc7 : (((1 : Int32) + (SBG.strSizeOf x1))).toNatClampNeg ≤ ((16 : Int32)).toNatClampNeg) (hc8 : own_sz x1 ≤ (((1 : Int32) + (SBG.strSizeOf x1))).toNatClampNeg) (hc9 : ¬ (((1 : Int32) + (SBG.strSizeOf x1)) = (16 : Int32))) (hc10 : ¬ (((1 : Int32) + (SBG.strSizeOf x1)) < (0 : Int32))) (hc11 : ¬ ((((1 : Int32) + (SBG.strSizeOf x1)) - (0 : Int32)) < 0)) (hc12 : ((((1 : Int32) + (SBG.strSizeOf x1)) - (0 : Int32))).toNatClampNeg ≤ 32) (hc13 : (((1 : Int32) + (SBG.strSizeOf x1)) - (0 : Int32)) < ((16 : Int32) - (0 : Int32))) (hc14 : ((((1 : Int32) + (SBG.strSizeOf x1)) - (0 : Int32))).toNatClampNeg ≤ ((16 : Int32)).toNatClampNeg) (hq31 : (own_us [(.int (63 : Int32)), (.int (0 : Int32)), (.int (0 : Int32)), (.int (0 : Int32)), (.int (0 : Int32)), (.int (0 : Int32)), (.int (0 : Int32)), (.int (0 : Int32)), (.int (0 : Int32)), (.int (0 : Int32)), (.int (0 : Int32)), (.int (0 : Int32)), (.int (0 : Int32)), (.int (0 : Int32)), (.int (0 : Int32)), (.int (0 : Int32))] (.int (0 : Int32)) ((16 : Int32)).toNatClampNeg x1 (((1 : Int32) + (SBG.strSizeOf x1))).toNatClampNeg) = t8) (hc36 : x1 < (1000000000 : Int32)) (hc37 : ¬ (x1 < (100000000 : Int32))) (hc41 : ((((1 : Int32) + (SBG.strSizeOf x1)) - (0 : Int32)) >>> ((nar .byte (0 : Int32)) &&& 31)) = (10 : Int32)) (f42 : Sta Z Z.heap cs10 "SIOOBE_FORMATTER" cs12 u9) (hc43 : u9.isRef = true) (hc44 : (0 : Int32) < (((1 : Int32) + (SBG.strSizeOf x1)) - (0 : Int32))) (hc45 : t8.getD ((0 : Int32)).toNatClampNeg (.int (0 : Int32)) = (.int (own_at t8 ((0 : Int32)).toNatClampNeg))) (hc48 : (nar .char (nar .char (((own_at t8 ((0 : Int32)).toNatClampNeg) &&& (255 : Int32)).toUInt32.toUInt16.toUInt32.toInt32))) = (63 : Int32)) (hc49 : ((9 : Int32) - (0 : Int32)) < (((1 : Int32) + (SBG.strSizeOf x1)) - (0 : Int32))) (hc50 : t8.getD (((9 : Int32) - (0 : Int32))).toNatClampNeg (.int (0 : Int32)) = (.int (own_at t8 (((9 : Int32) - (0 : Int32))).toNatClampNeg))) (hc51 : (nar .char (nar .char (((own_at t8 (((9 : Int32) - (0 : Int32))).toNatClampNeg) &&& (255 : Int32)).toUInt32.toUInt16.toUInt32.toInt32))) = (((48 : Int32) + ((x1 / (1 : Int32)) % (10 : Int32))).toUInt32.toUInt16.toUInt32.toInt32)) (hc53 : ((9 : Int32) - (1 : Int32)) < (((1 : Int32) + (SBG.strSizeOf x1)) - (0 : Int32))) (hc54 : t8.getD (((9 : Int32) - (1 : Int32))).toNatClampNeg (.int (0 : Int32)) = (.int (own_at t8 (((9 : Int32) - (1 : Int32))).toNatClampNeg))) (hc55 : (nar .char (nar .char (((own_at t8 (((9 : Int32) - (1 : Int32))).toNatClampNeg) &&& (255 : Int32)).toUInt32.toUInt16.toUInt32.toInt32))) = (((48 : Int32) + ((x1 / (10 : Int32)) % (10 : Int32))).toUInt32.toUInt16.toUInt32.toInt32)) (hc57 : ((9 : Int32) - (2 : Int32)) < (((1 : Int32) + (SBG.strSizeOf x1)) - (0 : Int32))) (hc58 : t8.getD (((9 : Int32) - (2 : Int32))).toNatClampNeg (.int (0 : Int32)) = (.int (own_at t8 (((9 : Int32) - (2 : Int32))).toNatClampNeg))) (hc59 : (nar .char (nar .char (((own_at t8 (((9 : Int32) - (2 : Int32))).toNatClampNeg) &&& (255 : Int32)).toUInt32.toUInt16.toUInt32.toInt32))) = (((48 : Int32) + ((x1 / (100 : Int32)) % (10 : Int32))).toUInt32.toUInt16.toUInt32.toInt32)) (hc61 : ((9 : Int32) - (3 : Int32)) < (((1 : Int32) + (SBG.strSizeOf x1)) - (0 : Int32))) (hc62 : t8.getD (((9 : Int32) - (3 : Int32))).toNatClampNeg (.int (0 : Int32)) = (.int (own_at t8 (((9 : Int32) - (3 : Int32))).toNatClampNeg))) (hc63 : (nar .char (nar .char (((own_at t8 (((9 : Int32) - (3 : Int32))).toNatClampNeg) &&& (255 : Int32)).toUInt32.toUInt16.toUInt32.toInt32))) = (((48 : Int32) + ((x1 / (1000 : Int32)) % (10 : Int32))).toUInt32.toUInt16.toUInt32.toInt32)) (hc65 : ((9 : Int32) - (4 : Int32)) < (((1 : Int32) + (SBG.strSizeOf x1)) - (0 : Int32))) (hc66 : t8.getD (((9 : Int32) - (4 : Int32))).toNatClampNeg (.int (0 : Int32)) = (.int (own_at t8 (((9 : Int32) - (4 : Int32))).toNatClampNeg))) (hc67 : (nar .char (nar .char (((own_at t8 (((9 : Int32) - (4 : Int32))).toNatClampNeg) &&& (255 : Int32)).toUInt32.toUInt16.toUInt32.toInt32))) = (((48 : Int32) + ((x1 / (10000 : Int32)) % (10 : Int32))).toUInt32.toUInt16.toUInt32.toInt32)) (hc69 : ((9 : Int32) - (5 : Int32)) < (((1 : Int32) + (SBG.strSizeOf x1)) - (0 : Int32))) (hc70 : t8.getD (((9 : Int32) - (5 : Int32))).toNatClampNeg (.int (0 : Int32)) = (.int (own_at t8 (((9 : Int32) - (5 : Int32))).toNatClampNeg))) (hc71 : (nar .char (nar .char (((own_at t8 (((9 : Int32) - (5 : Int32))).toNatClampNeg) &&& (255 : Int32)).toUInt32.toUInt16.toUInt32.toInt32))) = (((48 : Int32) + ((x1 / (100000 : Int32)) % (10 : Int32))).toUInt32.toUInt16.toUInt32.toInt32)) (hc73 : ((9 : Int32) - (6 : Int32)) < (((1 : Int32) + (SBG.strSizeOf x1)) - (0 : Int32))) (hc74 : t8.getD (((9 : Int32) - (6 : Int32))).toNatClampNeg (.int (0 : Int32)) = (.int (own_at t8 (((9 : Int32) - (6 : Int32))).toNatClampNeg))) (hc75 : (nar .char (nar .char (((own_at t8 (((9 : Int32) - (6 : Int32))).toNatClampNeg) &&& (255 : Int32)).toUInt32.toUInt16.toUInt32.toInt32))) = (((48 : Int32) + ((x1 / (1000000 : Int32)) % (10 : Int32))).toUInt32.toUInt16.toUInt32.toInt32)) (hc77 : ((9 : Int32) - (7 : Int32)) < (((1 : Int32) + (SBG.strSizeOf x1)) - (0 : Int32))) (hc78 : t8.getD (((9 : Int32) - (7 : Int32))).toNatClampNeg (.int (0 : Int32)) = (.int (own_at t8 (((9 : Int32) - (7 : Int32))).toNatClampNeg))) (hc79 : (nar .char (nar .char (((own_at t8 (((9 : Int32) - (7 : Int32))).toNatClampNeg) &&& (255 : Int32)).toUInt32.toUInt16.toUInt32.toInt32))) = (((48 : Int32) + ((x1 / (10000000 : Int32)) % (10 : Int32))).toUInt32.toUInt16.toUInt32.toInt32)) (hc81 : ((9 : Int32) - (8 : Int32)) < (((1 : Int32) + (SBG.strSizeOf x1)) - (0 : Int32))) (hc82 : t8.getD (((9 : Int32) - (8 : Int32))).toNatClampNeg (.int (0 : Int32)) = (.int (own_at t8 (((9 : Int32) - (8 : Int32))).toNatClampNeg))) (hc83 : (nar .char (nar .char (((own_at t8 (((9 : Int32) - (8 : Int32))).toNatClampNeg) &&& (255 : Int32)).toUInt32.toUInt16.toUInt32.toInt32))) = (((48 : Int32) + ((x1 / (100000000 : Int32)) % (10 : Int32))).toUInt32.toUInt16.toUInt32.toInt32)) :
    MetFree l x (head1 (Jvm.Cond.code x code maxLocals ret :: ws) room_1) (fun a U => a = #[(.int x0)] ∧ Z.Warmed39 U.vm ∧ U.heap = h0 ∧ CHv Z consts_1 U.vm h0) (fun _ _ _ _ _ => True) (fun _ U o U' => ∃ v L, o = .returned v ∧ Q0_9 Z x0 x1 x2 r3 r4 d5 r6 d7 t8 u9 h0 n0 v U'.heap L ∧ CHr Z consts_1 U.vm U.heap U'.vm U'.heap ∧ ReturnedEndW U o U' L room_1.cells room_1.slots) := by
  refine MetFree.of_bodySF (plainFor_of_name pn_com_example_manojo_manojo_ParameterPositionalPinLaw) hisR ?_
  intro p e s m args below meth c s₁ Bd hml0 hP hK
  obtain ⟨rfl, hZ, hh, hC⟩ := hP
  have hx := Bd.exec
  have hby := Bd.bytes
  have hml : c.maxLocals = 4 := hml0
  have hown : s.vm.findClass cs9 = some m.cls := findClass_of_methodNamed Bd.named
  have hnm := (name_of_methodNamed Bd.named Bd.method).1
  have X0 : Stand p l e room_1 s m #[(.int x0)] below meth c s₁ [] 0 0 := Stand.of_body Bd
  have e0 : s₁.heap = h0 := by rw [← hh, Bd.state]; rfl
  have N0 := Fr.nil n0
  have pre0 : ∀ t, Steps p.tables e below (s₁.setTop (mkF m 0 #[.val (.int x0), .unset, .unset, .unset] [])) t → Steps p.tables e below (s₁.setTop (entryFrame m #[(.int x0)] maxLocals)) t := fun t k => castTop (by first | (simp [entryFrame, mkF, argsToLocals, Value.category, maxLocals]; done) | rfl) k
  have hEL : EW Z a0 consts_1 := own_EW hw
  have R0 := CHr.refl hC
  have hS15 := (State.WarmedH.refl s).since 0
  obtain ⟨_, _, ⟨T16, L16, k16, n16⟩, -, X16, hs16, hg16, ⟨Lc16, hQ16, l16, y16, z16, cr16⟩, st16⟩ := callSS X0 hx (y := (⟨cs7, "positional", cs8⟩ : MethodName)) hown (mvT hZ (ww hw 1 rfl)) (mvT hZ (ww hw 2 rfl)) (mvT hZ (ww hw 3 rfl)) (mvT hZ (ww hw 4 rfl)) (by decide) (backOfSH (s := s) (vm0 := s.vm) (W := 0) (rm1_1 l Z a0 hw [] x1 x2 r3 r4 d5 r6 d7 h0 n0 O0 f2 hc3 hc4 f5 hc6 hc7 hc8 hc9 hc10 hc11 hc12 hc13 hc14) hZ (ww hw 4 rfl) (ww hw 3 rfl) (by decide) (by decide) hEL R0.1) (g := (mkF m 11 #[.val (.int x0), .val (.int x1), .unset, .unset] [(.int x1)])) rfl (by rw [hml]; rfl) (argsL := [(.int x1)]) (rest := []) (lenOf pd__I_Lcom_example_manojo_manojo_QueryTree_Parameter_ rfl) rfl (by show 2 * 0 + _ ≤ _; exact Nat.le_of_eq rfl) (hb hby at_11) (fun _ _ => ⟨rfl, e0, (by decide : 0 + 7 ≤ _), (by decide : 0 + 65 ≤ _)⟩)
  dsimp only [Pt.U, Pt.locs, Pt.cells, Pt.slots] at X16 l16 y16 z16 st16 hQ16 hs16 hg16 cr16
  subst l16 y16 z16
  obtain ⟨X16, hS16, hZ16, ho16⟩ := rebS (s := s) (vm0 := s.vm) hS15 (by rw [e0]; exact (Nat.zero_le _)) X16 hs16 hg16 hZ hown
  obtain ⟨b16_0, b16_1, b16_2, k16_0, rfl, N16q, K16, f17, f18, f19, f20, f21, f22, f23, f24, f25, f26, f27, f28, f29⟩ := hQ16
  have N16 := Fr.app N0 N16q
  have R30 := CHr.trans R0 cr16
  have f32 : Arv Z T16.heap b16_2 k16_0 .byte (((1 : Int32) + (SBG.strSizeOf x1)) - (0 : Int32)) t8 (.int (0 : Int32)) := by rw [← hq31]; exact f25
  have o33 := Old.keep O0 K16 all0
  obtain ⟨cqq35, kqq35, qq35a, qq35b, qq35c⟩ := isOf hZ16 rfl f18
  obtain ⟨_, _, ⟨T34, L34, k34, n34⟩, -, X34, ⟨Lc34, hQ34, l34, y34, z34⟩, st34⟩ := X16.virtualBack hx (y := (⟨cs7, "name", "()Ljava/lang/String;"⟩ : MethodName)) (z := (⟨cs7, "name", "()Ljava/lang/String;"⟩ : MethodName)) ho16 (mvT hZ16 (ww hw 161 rfl)) (mvT hZ16 (ww hw 162 rfl)) (notFace_of_selects (args := #[]) (mvT hZ16 (ww hw 164 rfl))) (mvT hZ16 (ww hw 164 rfl)) (mvT hZ16 (ww hw 163 rfl)) (by decide) (backOf (W := 0) (rm30_1 l Z a0 hw [] b16_0 b16_1 T16.heap n0 o33 f19) hZ16 (ww hw 165 rfl) (ww hw 3 rfl) (by decide) (by decide)) qq35a qq35c (g := (mkF m 14 #[.val (.int x0), .val (.int x1), .unset, .unset] [(.ref b16_0)])) rfl (by rw [hml]; rfl) (Steps.refl _) (argsL := []) (rest := []) (lenOf pd___Ljava_lang_String_ rfl) rfl (by show 2 * 0 + _ ≤ _; exact Nat.le_of_eq rfl) (hb hby at_14) (fun _ _ => ⟨rfl, rfl, (by decide : 7 + 0 ≤ _), (by decide : 65 + 0 ≤ _)⟩)
  dsimp only [Pt.U, Pt.locs, Pt.cells, Pt.slots] at X34 l34 y34 z34 st34 hQ34
  subst l34 y34 z34
  obtain ⟨rfl, N34q, E34⟩ := hQ34
  have N34 := Fr.app N16 N34q
  obtain ⟨_, _, ⟨T38, L38, k38, n38⟩, -, X38, ⟨Lc38, hQ38, l38, y38, z38⟩, st38⟩ := Jvm.LawKit.callS X34 hx (y := (⟨cs9, "digits", "(I)I"⟩ : MethodName)) ho16 (mvT hZ16 (ww hw 166 rfl)) (mvT hZ16 (ww hw 167 rfl)) (mvT hZ16 (ww hw 168 rfl)) (mvT hZ16 (ww hw 169 rfl)) (by decide) (backOf (W := 0) (rm31_9 l Z a0 hw [] x1 T16.heap n0 o33 hc36 hc37) hZ16 (ww hw 169 rfl) (ww hw 168 rfl) (by decide) (by decide)) (g := (mkF m 19 #[.val (.int x0), .val (.int x1), .val (.ref b16_1), .unset] [(.int x1)])) rfl (by rw [hml]; rfl) (argsL := [(.int x1)]) (rest := []) (lenOf pd__I_I rfl) rfl (by show 2 * 0 + _ ≤ _; exact Nat.le_of_eq rfl) (hb hby at_19) (fun _ _ => ⟨rfl, E34, (by decide : 7 + 0 ≤ _), (by decide : 65 + 0 ≤ _)⟩)
  dsimp only [Pt.U, Pt.locs, Pt.cells, Pt.slots] at X38 l38 y38 z38 st38 hQ38
  subst l38 y38 z38
  obtain ⟨rfl, N38q, E38⟩ := hQ38
  have N38 := Fr.app N34 N38q
  obtain ⟨cqq40, kqq40, qq40a, qq40b, qq40c⟩ := isOf hZ16 E38 f21
  obtain ⟨_, _, ⟨T39, L39, k39, n39⟩, -, X39, ⟨Lc39, hQ39, l39, y39, z39⟩, st39⟩ := X38.virtualBack hx (y := (⟨"java/lang/String", "length", "()I"⟩ : MethodName)) (z := (⟨"java/lang/String", "length", "()I"⟩ : MethodName)) ho16 (mvT hZ16 (ww hw 175 rfl)) (mvT hZ16 (ww hw 46 rfl)) (notFace_of_selects (args := #[]) (mvT hZ16 (ww hw 48 rfl))) (mvT hZ16 (ww hw 48 rfl)) (mvT hZ16 (ww hw 47 rfl)) (by decide) (backOf (W := 0) (rm7_1 l Z a0 hw [] b16_1 b16_2 (((1 : Int32) + (SBG.strSizeOf x1)) - (0 : Int32)) k16_0 t8 x2 (0 : Int32) T16.heap n0 o33 f23 f32 f21 f2 hc3 f22) hZ16 (ww hw 49 rfl) (ww hw 23 rfl) (by decide) (by decide)) qq40a qq40c (g := (mkF m 24 #[.val (.int x0), .val (.int x1), .val (.ref b16_1), .val (.int (9 : Int32))] [(.ref b16_1)])) rfl (by rw [hml]; rfl) (Steps.refl _) (argsL := []) (rest := []) (lenOf pd___I rfl) rfl (by show 2 * 0 + _ ≤ _; exact Nat.le_of_eq rfl) (hb hby at_24) (fun _ _ => ⟨rfl, E38, (by decide : 7 + 0 ≤ _), (by decide : 65 + 0 ≤ _)⟩)
  dsimp only [Pt.U, Pt.locs, Pt.cells, Pt.slots] at X39 l39 y39 z39 st39 hQ39
  subst l39 y39 z39
  obtain ⟨rfl, N39q, E39⟩ := hQ39
  have N39 := Fr.app N38 N39q
  obtain ⟨cqq47, kqq47, qq47a, qq47b, qq47c⟩ := isOf hZ16 E39 f21
  obtain ⟨_, _, ⟨T46, L46, k46, n46⟩, -, X46, ⟨Lc46, hQ46, l46, y46, z46⟩, st46⟩ := X39.virtualBack hx (y := (⟨"java/lang/String", "charAt", "(I)C"⟩ : MethodName)) (z := (⟨"java/lang/String", "charAt", "(I)C"⟩ : MethodName)) ho16 (mvT hZ16 (ww hw 176 rfl)) (mvT hZ16 (ww hw 177 rfl)) (notFace_of_selects (args := #[]) (mvT hZ16 (ww hw 179 rfl))) (mvT hZ16 (ww hw 179 rfl)) (mvT hZ16 (ww hw 178 rfl)) (by decide) (backOf (W := 0) (rm32_1 l Z a0 hw [] b16_1 (0 : Int32) x2 (0 : Int32) b16_2 (((1 : Int32) + (SBG.strSizeOf x1)) - (0 : Int32)) k16_0 t8 u9 (own_at t8 ((0 : Int32)).toNatClampNeg) T16.heap n0 o33 f21 f2 hc3 f22 (by decide : (0 : Int32) = (0 : Int32)) f23 f32 f42 hc43 (by decide : ¬ ((0 : Int32) < (0 : Int32))) hc44 hc45) hZ16 (ww hw 180 rfl) (ww hw 23 rfl) (by decide) (by decide)) qq47a qq47c (g := (mkF m 37 #[.val (.int x0), .val (.int x1), .val (.ref b16_1), .val (.int (9 : Int32))] [(.int (0 : Int32)), (.ref b16_1)])) rfl (by rw [hml]; rfl) (Steps.refl _) (argsL := [(.int (0 : Int32))]) (rest := []) (lenOf pd__I_C rfl) rfl (by show 2 * 0 + _ ≤ _; exact Nat.le_of_eq rfl) (hb hby at_37) (fun _ _ => ⟨rfl, E39, (by decide : 7 + 0 ≤ _), (by decide : 65 + 0 ≤ _)⟩)
  dsimp only [Pt.U, Pt.locs, Pt.cells, Pt.slots] at X46 l46 y46 z46 st46 hQ46
  subst l46 y46 z46
  obtain ⟨rfl, N46q, E46⟩ := hQ46
  have N46 := Fr.app N39 N46q
  obtain ⟨_, _, ⟨T52, L52, k52, n52⟩, -, X52, ⟨Lc52, hQ52, l52, y52, z52⟩, st52⟩ := Jvm.LawKit.callS X46 hx (y := (⟨cs9, "at", cs13⟩ : MethodName)) ho16 (mvT hZ16 (ww hw 198 rfl)) (mvT hZ16 (ww hw 199 rfl)) (mvT hZ16 (ww hw 168 rfl)) (mvT hZ16 (ww hw 200 rfl)) (by decide) (backOf (W := 0) (rm37_1 l Z a0 hw [] b16_1 (9 : Int32) x1 (0 : Int32) (1 : Int32) x2 (0 : Int32) b16_2 (((1 : Int32) + (SBG.strSizeOf x1)) - (0 : Int32)) k16_0 t8 u9 (own_at t8 (((9 : Int32) - (0 : Int32))).toNatClampNeg) T16.heap n0 o33 (by decide : (0 : Int32) < (9 : Int32)) f21 f2 hc3 f22 (by decide : (0 : Int32) = (0 : Int32)) f23 f32 f42 hc43 (by decide : ¬ (((9 : Int32) - (0 : Int32)) < (0 : Int32))) hc49 hc50 (by decide : ¬ ((1 : Int32) = (0 : Int32))) hc51) hZ16 (ww hw 200 rfl) (ww hw 168 rfl) (by decide) (by decide)) (g := (mkF m 52 #[.val (.int x0), .val (.int x1), .val (.ref b16_1), .val (.int (9 : Int32))] [(.int (1 : Int32)), (.int (0 : Int32)), (.int x1), (.int (9 : Int32)), (.ref b16_1)])) rfl (by rw [hml]; rfl) (argsL := [(.ref b16_1), (.int (9 : Int32)), (.int x1), (.int (0 : Int32)), (.int (1 : Int32))]) (rest := []) (lenOf pd__Ljava_lang_String_IIII_Z rfl) rfl (by show 2 * 0 + _ ≤ _; exact Nat.le_of_eq rfl) (hb hby at_52) (fun _ _ => ⟨rfl, E46, (by decide : 7 + 0 ≤ _), (by decide : 65 + 0 ≤ _)⟩)
  dsimp only [Pt.U, Pt.locs, Pt.cells, Pt.slots] at X52 l52 y52 z52 st52 hQ52
  subst l52 y52 z52
  obtain ⟨rfl, N52q, E52⟩ := hQ52
  have N52 := Fr.app N46 N52q
  obtain ⟨_, _, ⟨T56, L56, k56, n56⟩, -, X56, ⟨Lc56, hQ56, l56, y56, z56⟩, st56⟩ := Jvm.LawKit.callS X52 hx (y := (⟨cs9, "at", cs13⟩ : MethodName)) ho16 (mvT hZ16 (ww hw 198 rfl)) (mvT hZ16 (ww hw 199 rfl)) (mvT hZ16 (ww hw 168 rfl)) (mvT hZ16 (ww hw 200 rfl)) (by decide) (backOf (W := 0) (rm37_1 l Z a0 hw [] b16_1 (9 : Int32) x1 (1 : Int32) (10 : Int32) x2 (0 : Int32) b16_2 (((1 : Int32) + (SBG.strSizeOf x1)) - (0 : Int32)) k16_0 t8 u9 (own_at t8 (((9 : Int32) - (1 : Int32))).toNatClampNeg) T16.heap n0 o33 (by decide : (1 : Int32) < (9 : Int32)) f21 f2 hc3 f22 (by decide : (0 : Int32) = (0 : Int32)) f23 f32 f42 hc43 (by decide : ¬ (((9 : Int32) - (1 : Int32)) < (0 : Int32))) hc53 hc54 (by decide : ¬ ((10 : Int32) = (0 : Int32))) hc55) hZ16 (ww hw 200 rfl) (ww hw 168 rfl) (by decide) (by decide)) (g := (mkF m 64 #[.val (.int x0), .val (.int x1), .val (.ref b16_1), .val (.int (9 : Int32))] [(.int (10 : Int32)), (.int (1 : Int32)), (.int x1), (.int (9 : Int32)), (.ref b16_1)])) rfl (by rw [hml]; rfl) (argsL := [(.ref b16_1), (.int (9 : Int32)), (.int x1), (.int (1 : Int32)), (.int (10 : Int32))]) (rest := []) (lenOf pd__Ljava_lang_String_IIII_Z rfl) rfl (by show 2 * 0 + _ ≤ _; exact Nat.le_of_eq rfl) (hb hby at_64) (fun _ _ => ⟨rfl, E52, (by decide : 7 + 0 ≤ _), (by decide : 65 + 0 ≤ _)⟩)
  dsimp only [Pt.U, Pt.locs, Pt.cells, Pt.slots] at X56 l56 y56 z56 st56 hQ56
  subst l56 y56 z56
  obtain ⟨rfl, N56q, E56⟩ := hQ56
  have N56 := Fr.app N52 N56q
  obtain ⟨_, _, ⟨T60, L60, k60, n60⟩, -, X60, ⟨Lc60, hQ60, l60, y60, z60⟩, st60⟩ := Jvm.LawKit.callS X56 hx (y := (⟨cs9, "at", cs13⟩ : MethodName)) ho16 (mvT hZ16 (ww hw 198 rfl)) (mvT hZ16 (ww hw 199 rfl)) (mvT hZ16 (ww hw 168 rfl)) (mvT hZ16 (ww hw 200 rfl)) (by decide) (backOf (W := 0) (rm37_1 l Z a0 hw [] b16_1 (9 : Int32) x1 (2 : Int32) (100 : Int32) x2 (0 : Int32) b16_2 (((1 : Int32) + (SBG.strSizeOf x1)) - (0 : Int32)) k16_0 t8 u9 (own_at t8 (((9 : Int32) - (2 : Int32))).toNatClampNeg) T16.heap n0 o33 (by decide : (2 : Int32) < (9 : Int32)) f21 f2 hc3 f22 (by decide : (0 : Int32) = (0 : Int32)) f23 f32 f42 hc43 (by decide : ¬ (((9 : Int32) - (2 : Int32)) < (0 : Int32))) hc57 hc58 (by decide : ¬ ((100 : Int32) = (0 : Int32))) hc59) hZ16 (ww hw 200 rfl) (ww hw 168 rfl) (by decide) (by decide)) (g := (mkF m 76 #[.val (.int x0), .val (.int x1), .val (.ref b16_1), .val (.int (9 : Int32))] [(.int (100 : Int32)), (.int (2 : Int32)), (.int x1), (.int (9 : Int32)), (.ref b16_1)])) rfl (by rw [hml]; rfl) (argsL := [(.ref b16_1), (.int (9 : Int32)), (.int x1), (.int (2 : Int32)), (.int (100 : Int32))]) (rest := []) (lenOf pd__Ljava_lang_String_IIII_Z rfl) rfl (by show 2 * 0 + _ ≤ _; exact Nat.le_of_eq rfl) (hb hby at_76) (fun _ _ => ⟨rfl, E56, (by decide : 7 + 0 ≤ _), (by decide : 65 + 0 ≤ _)⟩)
  dsimp only [Pt.U, Pt.locs, Pt.cells, Pt.slots] at X60 l60 y60 z60 st60 hQ60
  subst l60 y60 z60
  obtain ⟨rfl, N60q, E60⟩ := hQ60
  have N60 := Fr.app N56 N60q
  obtain ⟨_, _, ⟨T64, L64, k64, n64⟩, -, X64, ⟨Lc64, hQ64, l64, y64, z64⟩, st64⟩ := Jvm.LawKit.callS X60 hx (y := (⟨cs9, "at", cs13⟩ : MethodName)) ho16 (mvT hZ16 (ww hw 198 rfl)) (mvT hZ16 (ww hw 199 rfl)) (mvT hZ16 (ww hw 168 rfl)) (mvT hZ16 (ww hw 200 rfl)) (by decide) (backOf (W := 0) (rm37_1 l Z a0 hw [] b16_1 (9 : Int32) x1 (3 : Int32) (1000 : Int32) x2 (0 : Int32) b16_2 (((1 : Int32) + (SBG.strSizeOf x1)) - (0 : Int32)) k16_0 t8 u9 (own_at t8 (((9 : Int32) - (3 : Int32))).toNatClampNeg) T16.heap n0 o33 (by decide : (3 : Int32) < (9 : Int32)) f21 f2 hc3 f22 (by decide : (0 : Int32) = (0 : Int32)) f23 f32 f42 hc43 (by decide : ¬ (((9 : Int32) - (3 : Int32)) < (0 : Int32))) hc61 hc62 (by decide : ¬ ((1000 : Int32) = (0 : Int32))) hc63) hZ16 (ww hw 200 rfl) (ww hw 168 rfl) (by decide) (by decide)) (g := (mkF m 89 #[.val (.int x0), .val (.int x1), .val (.ref b16_1), .val (.int (9 : Int32))] [(.int (1000 : Int32)), (.int (3 : Int32)), (.int x1), (.int (9 : Int32)), (.ref b16_1)])) rfl (by rw [hml]; rfl) (argsL := [(.ref b16_1), (.int (9 : Int32)), (.int x1), (.int (3 : Int32)), (.int (1000 : Int32))]) (rest := []) (lenOf pd__Ljava_lang_String_IIII_Z rfl) rfl (by show 2 * 0 + _ ≤ _; exact Nat.le_of_eq rfl) (hb hby at_89) (fun _ _ => ⟨rfl, E60, (by decide : 7 + 0 ≤ _), (by decide : 65 + 0 ≤ _)⟩)
  dsimp only [Pt.U, Pt.locs, Pt.cells, Pt.slots] at X64 l64 y64 z64 st64 hQ64
  subst l64 y64 z64
  obtain ⟨rfl, N64q, E64⟩ := hQ64
  have N64 := Fr.app N60 N64q
  obtain ⟨_, _, ⟨T68, L68, k68, n68⟩, -, X68, ⟨Lc68, hQ68, l68, y68, z68⟩, st68⟩ := Jvm.LawKit.callS X64 hx (y := (⟨cs9, "at", cs13⟩ : MethodName)) ho16 (mvT hZ16 (ww hw 198 rfl)) (mvT hZ16 (ww hw 199 rfl)) (mvT hZ16 (ww hw 168 rfl)) (mvT hZ16 (ww hw 200 rfl)) (by decide) (backOf (W := 0) (rm37_1 l Z a0 hw [] b16_1 (9 : Int32) x1 (4 : Int32) (10000 : Int32) x2 (0 : Int32) b16_2 (((1 : Int32) + (SBG.strSizeOf x1)) - (0 : Int32)) k16_0 t8 u9 (own_at t8 (((9 : Int32) - (4 : Int32))).toNatClampNeg) T16.heap n0 o33 (by decide : (4 : Int32) < (9 : Int32)) f21 f2 hc3 f22 (by decide : (0 : Int32) = (0 : Int32)) f23 f32 f42 hc43 (by decide : ¬ (((9 : Int32) - (4 : Int32)) < (0 : Int32))) hc65 hc66 (by decide : ¬ ((10000 : Int32) = (0 : Int32))) hc67) hZ16 (ww hw 200 rfl) (ww hw 168 rfl) (by decide) (by decide)) (g := (mkF m 102 #[.val (.int x0), .val (.int x1), .val (.ref b16_1), .val (.int (9 : Int32))] [(.int (10000 : Int32)), (.int (4 : Int32)), (.int x1), (.int (9 : Int32)), (.ref b16_1)])) rfl (by rw [hml]; rfl) (argsL := [(.ref b16_1), (.int (9 : Int32)), (.int x1), (.int (4 : Int32)), (.int (10000 : Int32))]) (rest := []) (lenOf pd__Ljava_lang_String_IIII_Z rfl) rfl (by show 2 * 0 + _ ≤ _; exact Nat.le_of_eq rfl) (hb hby at_102) (fun _ _ => ⟨rfl, E64, (by decide : 7 + 0 ≤ _), (by decide : 65 + 0 ≤ _)⟩)
  dsimp only [Pt.U, Pt.locs, Pt.cells, Pt.slots] at X68 l68 y68 z68 st68 hQ68
  subst l68 y68 z68
  obtain ⟨rfl, N68q, E68⟩ := hQ68
  have N68 := Fr.app N64 N68q
  obtain ⟨_, _, ⟨T72, L72, k72, n72⟩, -, X72, ⟨Lc72, hQ72, l72, y72, z72⟩, st72⟩ := Jvm.LawKit.callS X68 hx (y := (⟨cs9, "at", cs13⟩ : MethodName)) ho16 (mvT hZ16 (ww hw 198 rfl)) (mvT hZ16 (ww hw 199 rfl)) (mvT hZ16 (ww hw 168 rfl)) (mvT hZ16 (ww hw 200 rfl)) (by decide) (backOf (W := 0) (rm37_1 l Z a0 hw [] b16_1 (9 : Int32) x1 (5 : Int32) (100000 : Int32) x2 (0 : Int32) b16_2 (((1 : Int32) + (SBG.strSizeOf x1)) - (0 : Int32)) k16_0 t8 u9 (own_at t8 (((9 : Int32) - (5 : Int32))).toNatClampNeg) T16.heap n0 o33 (by decide : (5 : Int32) < (9 : Int32)) f21 f2 hc3 f22 (by decide : (0 : Int32) = (0 : Int32)) f23 f32 f42 hc43 (by decide : ¬ (((9 : Int32) - (5 : Int32)) < (0 : Int32))) hc69 hc70 (by decide : ¬ ((100000 : Int32) = (0 : Int32))) hc71) hZ16 (ww hw 200 rfl) (ww hw 168 rfl) (by decide) (by decide)) (g := (mkF m 114 #[.val (.int x0), .val (.int x1), .val (.ref b16_1), .val (.int (9 : Int32))] [(.int (100000 : Int32)), (.int (5 : Int32)), (.int x1), (.int (9 : Int32)), (.ref b16_1)])) rfl (by rw [hml]; rfl) (argsL := [(.ref b16_1), (.int (9 : Int32)), (.int x1), (.int (5 : Int32)), (.int (100000 : Int32))]) (rest := []) (lenOf pd__Ljava_lang_String_IIII_Z rfl) rfl (by show 2 * 0 + _ ≤ _; exact Nat.le_of_eq rfl) (hb hby at_114) (fun _ _ => ⟨rfl, E68, (by decide : 7 + 0 ≤ _), (by decide : 65 + 0 ≤ _)⟩)
  dsimp only [Pt.U, Pt.locs, Pt.cells, Pt.slots] at X72 l72 y72 z72 st72 hQ72
  subst l72 y72 z72
  obtain ⟨rfl, N72q, E72⟩ := hQ72
  have N72 := Fr.app N68 N72q
  obtain ⟨_, _, ⟨T76, L76, k76, n76⟩, -, X76, ⟨Lc76, hQ76, l76, y76, z76⟩, st76⟩ := Jvm.LawKit.callS X72 hx (y := (⟨cs9, "at", cs13⟩ : MethodName)) ho16 (mvT hZ16 (ww hw 198 rfl)) (mvT hZ16 (ww hw 199 rfl)) (mvT hZ16 (ww hw 168 rfl)) (mvT hZ16 (ww hw 200 rfl)) (by decide) (backOf (W := 0) (rm37_1 l Z a0 hw [] b16_1 (9 : Int32) x1 (6 : Int32) (1000000 : Int32) x2 (0 : Int32) b16_2 (((1 : Int32) + (SBG.strSizeOf x1)) - (0 : Int32)) k16_0 t8 u9 (own_at t8 (((9 : Int32) - (6 : Int32))).toNatClampNeg) T16.heap n0 o33 (by decide : (6 : Int32) < (9 : Int32)) f21 f2 hc3 f22 (by decide : (0 : Int32) = (0 : Int32)) f23 f32 f42 hc43 (by decide : ¬ (((9 : Int32) - (6 : Int32)) < (0 : Int32))) hc73 hc74 (by decide : ¬ ((1000000 : Int32) = (0 : Int32))) hc75) hZ16 (ww hw 200 rfl) (ww hw 168 rfl) (by decide) (by decide)) (g := (mkF m 127 #[.val (.int x0), .val (.int x1), .val (.ref b16_1), .val (.int (9 : Int32))] [(.int (1000000 : Int32)), (.int (6 : Int32)), (.int x1), (.int (9 : Int32)), (.ref b16_1)])) rfl (by rw [hml]; rfl) (argsL := [(.ref b16_1), (.int (9 : Int32)), (.int x1), (.int (6 : Int32)), (.int (1000000 : Int32))]) (rest := []) (lenOf pd__Ljava_lang_String_IIII_Z rfl) rfl (by show 2 * 0 + _ ≤ _; exact Nat.le_of_eq rfl) (hb hby at_127) (fun _ _ => ⟨rfl, E72, (by decide : 7 + 0 ≤ _), (by decide : 65 + 0 ≤ _)⟩)
  dsimp only [Pt.U, Pt.locs, Pt.cells, Pt.slots] at X76 l76 y76 z76 st76 hQ76
  subst l76 y76 z76
  obtain ⟨rfl, N76q, E76⟩ := hQ76
  have N76 := Fr.app N72 N76q
  obtain ⟨_, _, ⟨T80, L80, k80, n80⟩, -, X80, ⟨Lc80, hQ80, l80, y80, z80⟩, st80⟩ := Jvm.LawKit.callS X76 hx (y := (⟨cs9, "at", cs13⟩ : MethodName)) ho16 (mvT hZ16 (ww hw 198 rfl)) (mvT hZ16 (ww hw 199 rfl)) (mvT hZ16 (ww hw 168 rfl)) (mvT hZ16 (ww hw 200 rfl)) (by decide) (backOf (W := 0) (rm37_1 l Z a0 hw [] b16_1 (9 : Int32) x1 (7 : Int32) (10000000 : Int32) x2 (0 : Int32) b16_2 (((1 : Int32) + (SBG.strSizeOf x1)) - (0 : Int32)) k16_0 t8 u9 (own_at t8 (((9 : Int32) - (7 : Int32))).toNatClampNeg) T16.heap n0 o33 (by decide : (7 : Int32) < (9 : Int32)) f21 f2 hc3 f22 (by decide : (0 : Int32) = (0 : Int32)) f23 f32 f42 hc43 (by decide : ¬ (((9 : Int32) - (7 : Int32)) < (0 : Int32))) hc77 hc78 (by decide : ¬ ((10000000 : Int32) = (0 : Int32))) hc79) hZ16 (ww hw 200 rfl) (ww hw 168 rfl) (by decide) (by decide)) (g := (mkF m 140 #[.val (.int x0), .val (.int x1), .val (.ref b16_1), .val (.int (9 : Int32))] [(.int (10000000 : Int32)), (.int (7 : Int32)), (.int x1), (.int (9 : Int32)), (.ref b16_1)])) rfl (by rw [hml]; rfl) (argsL := [(.ref b16_1), (.int (9 : Int32)), (.int x1), (.int (7 : Int32)), (.int (10000000 : Int32))]) (rest := []) (lenOf pd__Ljava_lang_String_IIII_Z rfl) rfl (by show 2 * 0 + _ ≤ _; exact Nat.le_of_eq rfl) (hb hby at_140) (fun _ _ => ⟨rfl, E76, (by decide : 7 + 0 ≤ _), (by decide : 65 + 0 ≤ _)⟩)
  dsimp only [Pt.U, Pt.locs, Pt.cells, Pt.slots] at X80 l80 y80 z80 st80 hQ80
  subst l80 y80 z80
  obtain ⟨rfl, N80q, E80⟩ := hQ80
  have N80 := Fr.app N76 N80q
  obtain ⟨_, _, ⟨T84, L84, k84, n84⟩, -, X84, ⟨Lc84, hQ84, l84, y84, z84⟩, st84⟩ := Jvm.LawKit.callS X80 hx (y := (⟨cs9, "at", cs13⟩ : MethodName)) ho16 (mvT hZ16 (ww hw 198 rfl)) (mvT hZ16 (ww hw 199 rfl)) (mvT hZ16 (ww hw 168 rfl)) (mvT hZ16 (ww hw 200 rfl)) (by decide) (backOf (W := 0) (rm37_1 l Z a0 hw [] b16_1 (9 : Int32) x1 (8 : Int32) (100000000 : Int32) x2 (0 : Int32) b16_2 (((1 : Int32) + (SBG.strSizeOf x1)) - (0 : Int32)) k16_0 t8 u9 (own_at t8 (((9 : Int32) - (8 : Int32))).toNatClampNeg) T16.heap n0 o33 (by decide : (8 : Int32) < (9 : Int32)) f21 f2 hc3 f22 (by decide : (0 : Int32) = (0 : Int32)) f23 f32 f42 hc43 (by decide : ¬ (((9 : Int32) - (8 : Int32)) < (0 : Int32))) hc81 hc82 (by decide : ¬ ((100000000 : Int32) = (0 : Int32))) hc83) hZ16 (ww hw 200 rfl) (ww hw 168 rfl) (by decide) (by decide)) (g := (mkF m 153 #[.val (.int x0), .val (.int x1), .val (.ref b16_1), .val (.int (9 : Int32))] [(.int (100000000 : Int32)), (.int (8 : Int32)), (.int x1), (.int (9 : Int32)), (.ref b16_1)])) rfl (by rw [hml]; rfl) (argsL := [(.ref b16_1), (.int (9 : Int32)), (.int x1), (.int (8 : Int32)), (.int (100000000 : Int32))]) (rest := []) (lenOf pd__Ljava_lang_String_IIII_Z rfl) rfl (by show 2 * 0 + _ ≤ _; exact Nat.le_of_eq rfl) (hb hby at_153) (fun _ _ => ⟨rfl, E80, (by decide : 7 + 0 ≤ _), (by decide : 65 + 0 ≤ _)⟩)
  dsimp only [Pt.U, Pt.locs, Pt.cells, Pt.slots] at X84 l84 y84 z84 st84 hQ84
  subst l84 y84 z84
  obtain ⟨rfl, N84q, E84⟩ := hQ84
  have N84 := Fr.app N80 N84q
  obtain ⟨_, _, ⟨T85, L85, k85, n85⟩, -, X85, ⟨Lc85, hQ85, l85, y85, z85⟩, st85⟩ := Jvm.LawKit.callS X84 hx (y := (⟨cs9, "at", cs13⟩ : MethodName)) ho16 (mvT hZ16 (ww hw 198 rfl)) (mvT hZ16 (ww hw 199 rfl)) (mvT hZ16 (ww hw 168 rfl)) (mvT hZ16 (ww hw 200 rfl)) (by decide) (backOf (W := 0) (rm37_2 l Z a0 hw [] b16_1 (9 : Int32) x1 (9 : Int32) (1000000000 : Int32) T16.heap n0 o33 (by decide : ¬ ((9 : Int32) < (9 : Int32)))) hZ16 (ww hw 200 rfl) (ww hw 168 rfl) (by decide) (by decide)) (g := (mkF m 166 #[.val (.int x0), .val (.int x1), .val (.ref b16_1), .val (.int (9 : Int32))] [(.int (1000000000 : Int32)), (.int (9 : Int32)), (.int x1), (.int (9 : Int32)), (.ref b16_1)])) rfl (by rw [hml]; rfl) (argsL := [(.ref b16_1), (.int (9 : Int32)), (.int x1), (.int (9 : Int32)), (.int (1000000000 : Int32))]) (rest := []) (lenOf pd__Ljava_lang_String_IIII_Z rfl) rfl (by show 2 * 0 + _ ≤ _; exact Nat.le_of_eq rfl) (hb hby at_166) (fun _ _ => ⟨rfl, E84, (by decide : 7 + 0 ≤ _), (by decide : 65 + 0 ≤ _)⟩)
  dsimp only [Pt.U, Pt.locs, Pt.cells, Pt.slots] at X85 l85 y85 z85 st85 hQ85
  subst l85 y85 z85
  obtain ⟨rfl, N85q, E85⟩ := hQ85
  have N85 := Fr.app N84 N85q
  obtain ⟨fs, hr, hrun, hended, hend⟩ := leaveW (s := s) (vm₁ := T16.vm) X85 hS16 (by rw [E85]; exact (Nat.le_refl _)) (v := some (.int (1 : Int32))) (fun h => by rw [Bd.returns] at h; cases h)
  have hCR : CHr Z consts_1 s.vm s.heap T85.vm T85.heap := by rw [hh, E85]; exact CHr.trans R30 (CHv.at (s := s) (vm0 := T16.vm) X85 hZ16 hEL R30.1)
  refine ⟨_, _, pre0 _ ?_, hrun, hended, _, _, rfl, ?_, hCR, hend.1, hend.2.1, hend.2.2.1, hend.2.2.2.mono (by decide) (by decide)⟩
  · show Steps p.tables e below (s₁.setTop (mkF m 0 #[.val (.int x0), .unset, .unset, .unset] [])) _
    refine XS.iconst X0.here hx rfl (hb hby at_0) ?_
    refine XS.iloadN X0.here hx rfl (hb hby at_1) rfl ?_
    refine X0.ldcInt hx hown (mvT hZ (ww hw 0 rfl)) (g := (mkF m 2 #[.val (.int x0), .unset, .unset, .unset] [(.int x0), (.int (1 : Int32))])) rfl (hb hby at_2) _ ?_
    show Steps p.tables e below (s₁.setTop (mkF m 4 #[.val (.int x0), .unset, .unset, .unset] [(.int (2147483647 : Int32)), (.int x0), (.int (1 : Int32))])) _
    refine XS.iand X0.here hx rfl (hb hby at_4) rfl ?_
    refine X0.ldcInt hx hown (mvT hZ (ww hw 0 rfl)) (g := (mkF m 5 #[.val (.int x0), .unset, .unset, .unset] [(.int (x0 &&& (2147483647 : Int32))), (.int (1 : Int32))])) rfl (hb hby at_5) _ ?_
    show Steps p.tables e below (s₁.setTop (mkF m 7 #[.val (.int x0), .unset, .unset, .unset] [(.int (2147483647 : Int32)), (.int (x0 &&& (2147483647 : Int32))), (.int (1 : Int32))])) _
    refine iremM (g := (mkF m 7 #[.val (.int x0), .unset, .unset, .unset] [(.int (2147483647 : Int32)), (.int (x0 &&& (2147483647 : Int32))), (.int (1 : Int32))])) X0 hx rfl (hb hby at_7) rfl (by decide : ¬ ((2147483647 : Int32) = (0 : Int32))) ?_
    show Steps p.tables e below (s₁.setTop (mkF m 8 #[.val (.int x0), .unset, .unset, .unset] [(.int ((x0 &&& (2147483647 : Int32)) % (2147483647 : Int32))), (.int (1 : Int32))])) _
    refine XS.iadd X0.here hx rfl (hb hby at_8) rfl ?_
    show Steps p.tables e below (s₁.setTop (mkF m 9 #[.val (.int x0), .unset, .unset, .unset] [(.int ((1 : Int32) + ((x0 &&& (2147483647 : Int32)) % (2147483647 : Int32))))])) _
    rw [hq1]
    show Steps p.tables e below (s₁.setTop (mkF m 9 #[.val (.int x0), .unset, .unset, .unset] [(.int x1)])) _
    refine XS.istoreN X0.here hx rfl (hb hby at_9) rfl (l' := #[.val (.int x0), .val (.int x1), .unset, .unset]) rfl ?_
    refine XS.iloadN X0.here hx rfl (hb hby at_10) rfl ?_
    refine st16.trans ?_
    show Steps p.tables e below (T16.setTop (mkF m 14 #[.val (.int x0), .val (.int x1), .unset, .unset] [(.ref b16_0)])) _
    refine st34.trans ?_
    show Steps p.tables e below (T34.setTop (mkF m 17 #[.val (.int x0), .val (.int x1), .unset, .unset] [(.ref b16_1)])) _
    refine XS.astoreN X34.here hx rfl (hb hby at_17) rfl rfl (l' := #[.val (.int x0), .val (.int x1), .val (.ref b16_1), .unset]) rfl ?_
    refine XS.iloadN X34.here hx rfl (hb hby at_18) rfl ?_
    refine st38 _ ?_
    show Steps p.tables e below (T38.setTop (mkF m 22 #[.val (.int x0), .val (.int x1), .val (.ref b16_1), .unset] [(.int (9 : Int32))])) _
    refine XS.istoreN X38.here hx rfl (hb hby at_22) rfl (l' := #[.val (.int x0), .val (.int x1), .val (.ref b16_1), .val (.int (9 : Int32))]) rfl ?_
    refine XS.aloadN X38.here hx rfl (hb hby at_23) rfl rfl ?_
    refine st39.trans ?_
    show Steps p.tables e below (T39.setTop (mkF m 27 #[.val (.int x0), .val (.int x1), .val (.ref b16_1), .val (.int (9 : Int32))] [(.int ((((1 : Int32) + (SBG.strSizeOf x1)) - (0 : Int32)) >>> ((nar .byte (0 : Int32)) &&& 31)))])) _
    refine XS.iloadN X39.here hx rfl (hb hby at_27) rfl ?_
    refine XS.iconst X39.here hx rfl (hb hby at_28) ?_
    refine XS.iadd X39.here hx rfl (hb hby at_29) rfl ?_
    refine XS.icmpYes X39.here hx rfl (pc0 := 30) (pc' := 35) rfl (hb hby at_30) rfl (teq hc41).1 (by decide) (by decide) ?_
    show Steps p.tables e below (T39.setTop (mkF m 35 #[.val (.int x0), .val (.int x1), .val (.ref b16_1), .val (.int (9 : Int32))] [])) _
    refine XS.aloadN X39.here hx rfl (hb hby at_35) rfl rfl ?_
    refine XS.iconst X39.here hx rfl (hb hby at_36) ?_
    refine st46.trans ?_
    show Steps p.tables e below (T46.setTop (mkF m 40 #[.val (.int x0), .val (.int x1), .val (.ref b16_1), .val (.int (9 : Int32))] [(.int (nar .char (nar .char (((own_at t8 ((0 : Int32)).toNatClampNeg) &&& (255 : Int32)).toUInt32.toUInt16.toUInt32.toInt32))))])) _
    refine XS.bipush X46.here hx rfl (hb hby at_40) ?_
    refine XS.icmpYes X46.here hx rfl (pc0 := 42) (pc' := 47) rfl (hb hby at_42) rfl (teq hc48).1 (by decide) (by decide) ?_
    show Steps p.tables e below (T46.setTop (mkF m 47 #[.val (.int x0), .val (.int x1), .val (.ref b16_1), .val (.int (9 : Int32))] [])) _
    refine XS.aloadN X46.here hx rfl (hb hby at_47) rfl rfl ?_
    refine XS.iloadN X46.here hx rfl (hb hby at_48) rfl ?_
    refine XS.iloadN X46.here hx rfl (hb hby at_49) rfl ?_
    refine XS.iconst X46.here hx rfl (hb hby at_50) ?_
    show Steps p.tables e below (T46.setTop (mkF m 51 #[.val (.int x0), .val (.int x1), .val (.ref b16_1), .val (.int (9 : Int32))] [(.int (0 : Int32)), (.int x1), (.int (9 : Int32)), (.ref b16_1)])) _
    refine XS.iconst X46.here hx rfl (hb hby at_51) ?_
    refine st52 _ ?_
    show Steps p.tables e below (T52.setTop (mkF m 55 #[.val (.int x0), .val (.int x1), .val (.ref b16_1), .val (.int (9 : Int32))] [(.int (1 : Int32))])) _
    refine XS.ifNo X52.here hx rfl (hb hby at_55) rfl ((if0 _ _).trans (feq (by decide : ¬ ((1 : Int32) = (0 : Int32)))).1) ?_
    refine XS.aloadN X52.here hx rfl (hb hby at_58) rfl rfl ?_
    refine XS.iloadN X52.here hx rfl (hb hby at_59) rfl ?_
    refine XS.iloadN X52.here hx rfl (hb hby at_60) rfl ?_
    show Steps p.tables e below (T52.setTop (mkF m 61 #[.val (.int x0), .val (.int x1), .val (.ref b16_1), .val (.int (9 : Int32))] [(.int x1), (.int (9 : Int32)), (.ref b16_1)])) _
    refine XS.iconst X52.here hx rfl (hb hby at_61) ?_
    refine XS.bipush X52.here hx rfl (hb hby at_62) ?_
    refine st56 _ ?_
    show Steps p.tables e below (T56.setTop (mkF m 67 #[.val (.int x0), .val (.int x1), .val (.ref b16_1), .val (.int (9 : Int32))] [(.int (1 : Int32))])) _
    refine XS.ifNo X56.here hx rfl (hb hby at_67) rfl ((if0 _ _).trans (feq (by decide : ¬ ((1 : Int32) = (0 : Int32)))).1) ?_
    refine XS.aloadN X56.here hx rfl (hb hby at_70) rfl rfl ?_
    refine XS.iloadN X56.here hx rfl (hb hby at_71) rfl ?_
    refine XS.iloadN X56.here hx rfl (hb hby at_72) rfl ?_
    show Steps p.tables e below (T56.setTop (mkF m 73 #[.val (.int x0), .val (.int x1), .val (.ref b16_1), .val (.int (9 : Int32))] [(.int x1), (.int (9 : Int32)), (.ref b16_1)])) _
    refine XS.iconst X56.here hx rfl (hb hby at_73) ?_
    refine XS.bipush X56.here hx rfl (hb hby at_74) ?_
    refine st60 _ ?_
    show Steps p.tables e below (T60.setTop (mkF m 79 #[.val (.int x0), .val (.int x1), .val (.ref b16_1), .val (.int (9 : Int32))] [(.int (1 : Int32))])) _
    refine XS.ifNo X60.here hx rfl (hb hby at_79) rfl ((if0 _ _).trans (feq (by decide : ¬ ((1 : Int32) = (0 : Int32)))).1) ?_
    refine XS.aloadN X60.here hx rfl (hb hby at_82) rfl rfl ?_
    refine XS.iloadN X60.here hx rfl (hb hby at_83) rfl ?_
    refine XS.iloadN X60.here hx rfl (hb hby at_84) rfl ?_
    show Steps p.tables e below (T60.setTop (mkF m 85 #[.val (.int x0), .val (.int x1), .val (.ref b16_1), .val (.int (9 : Int32))] [(.int x1), (.int (9 : Int32)), (.ref b16_1)])) _
    refine XS.iconst X60.here hx rfl (hb hby at_85) ?_
    refine XS.sipush X60.here hx rfl (hb hby at_86) ?_
    refine st64 _ ?_
    show Steps p.tables e below (T64.setTop (mkF m 92 #[.val (.int x0), .val (.int x1), .val (.ref b16_1), .val (.int (9 : Int32))] [(.int (1 : Int32))])) _
    refine XS.ifNo X64.here hx rfl (hb hby at_92) rfl ((if0 _ _).trans (feq (by decide : ¬ ((1 : Int32) = (0 : Int32)))).1) ?_
    refine XS.aloadN X64.here hx rfl (hb hby at_95) rfl rfl ?_
    refine XS.iloadN X64.here hx rfl (hb hby at_96) rfl ?_
    refine XS.iloadN X64.here hx rfl (hb hby at_97) rfl ?_
    show Steps p.tables e below (T64.setTop (mkF m 98 #[.val (.int x0), .val (.int x1), .val (.ref b16_1), .val (.int (9 : Int32))] [(.int x1), (.int (9 : Int32)), (.ref b16_1)])) _
    refine XS.iconst X64.here hx rfl (hb hby at_98) ?_
    refine XS.sipush X64.here hx rfl (hb hby at_99) ?_
    refine st68 _ ?_
    show Steps p.tables e below (T68.setTop (mkF m 105 #[.val (.int x0), .val (.int x1), .val (.ref b16_1), .val (.int (9 : Int32))] [(.int (1 : Int32))])) _
    refine XS.ifNo X68.here hx rfl (hb hby at_105) rfl ((if0 _ _).trans (feq (by decide : ¬ ((1 : Int32) = (0 : Int32)))).1) ?_
    refine XS.aloadN X68.here hx rfl (hb hby at_108) rfl rfl ?_
    refine XS.iloadN X68.here hx rfl (hb hby at_109) rfl ?_
    refine XS.iloadN X68.here hx rfl (hb hby at_110) rfl ?_
    show Steps p.tables e below (T68.setTop (mkF m 111 #[.val (.int x0), .val (.int x1), .val (.ref b16_1), .val (.int (9 : Int32))] [(.int x1), (.int (9 : Int32)), (.ref b16_1)])) _
    refine XS.iconst X68.here hx rfl (hb hby at_111) ?_
    refine X68.ldcInt hx ho16 (mvT hZ16 (ww hw 174 rfl)) (g := (mkF m 112 #[.val (.int x0), .val (.int x1), .val (.ref b16_1), .val (.int (9 : Int32))] [(.int (5 : Int32)), (.int x1), (.int (9 : Int32)), (.ref b16_1)])) rfl (hb hby at_112) _ ?_
    show Steps p.tables e below (T68.setTop (mkF m 114 #[.val (.int x0), .val (.int x1), .val (.ref b16_1), .val (.int (9 : Int32))] [(.int (100000 : Int32)), (.int (5 : Int32)), (.int x1), (.int (9 : Int32)), (.ref b16_1)])) _
    refine st72 _ ?_
    show Steps p.tables e below (T72.setTop (mkF m 117 #[.val (.int x0), .val (.int x1), .val (.ref b16_1), .val (.int (9 : Int32))] [(.int (1 : Int32))])) _
    refine XS.ifNo X72.here hx rfl (hb hby at_117) rfl ((if0 _ _).trans (feq (by decide : ¬ ((1 : Int32) = (0 : Int32)))).1) ?_
    refine XS.aloadN X72.here hx rfl (hb hby at_120) rfl rfl ?_
    refine XS.iloadN X72.here hx rfl (hb hby at_121) rfl ?_
    refine XS.iloadN X72.here hx rfl (hb hby at_122) rfl ?_
    show Steps p.tables e below (T72.setTop (mkF m 123 #[.val (.int x0), .val (.int x1), .val (.ref b16_1), .val (.int (9 : Int32))] [(.int x1), (.int (9 : Int32)), (.ref b16_1)])) _
    refine XS.bipush X72.here hx rfl (hb hby at_123) ?_
    refine X72.ldcInt hx ho16 (mvT hZ16 (ww hw 173 rfl)) (g := (mkF m 125 #[.val (.int x0), .val (.int x1), .val (.ref b16_1), .val (.int (9 : Int32))] [(.int (6 : Int32)), (.int x1), (.int (9 : Int32)), (.ref b16_1)])) rfl (hb hby at_125) _ ?_
    show Steps p.tables e below (T72.setTop (mkF m 127 #[.val (.int x0), .val (.int x1), .val (.ref b16_1), .val (.int (9 : Int32))] [(.int (1000000 : Int32)), (.int (6 : Int32)), (.int x1), (.int (9 : Int32)), (.ref b16_1)])) _
    refine st76 _ ?_
    show Steps p.tables e below (T76.setTop (mkF m 130 #[.val (.int x0), .val (.int x1), .val (.ref b16_1), .val (.int (9 : Int32))] [(.int (1 : Int32))])) _
    refine XS.ifNo X76.here hx rfl (hb hby at_130) rfl ((if0 _ _).trans (feq (by decide : ¬ ((1 : Int32) = (0 : Int32)))).1) ?_
    refine XS.aloadN X76.here hx rfl (hb hby at_133) rfl rfl ?_
    refine XS.iloadN X76.here hx rfl (hb hby at_134) rfl ?_
    refine XS.iloadN X76.here hx rfl (hb hby at_135) rfl ?_
    show Steps p.tables e below (T76.setTop (mkF m 136 #[.val (.int x0), .val (.int x1), .val (.ref b16_1), .val (.int (9 : Int32))] [(.int x1), (.int (9 : Int32)), (.ref b16_1)])) _
    refine XS.bipush X76.here hx rfl (hb hby at_136) ?_
    refine X76.ldcInt hx ho16 (mvT hZ16 (ww hw 172 rfl)) (g := (mkF m 138 #[.val (.int x0), .val (.int x1), .val (.ref b16_1), .val (.int (9 : Int32))] [(.int (7 : Int32)), (.int x1), (.int (9 : Int32)), (.ref b16_1)])) rfl (hb hby at_138) _ ?_
    show Steps p.tables e below (T76.setTop (mkF m 140 #[.val (.int x0), .val (.int x1), .val (.ref b16_1), .val (.int (9 : Int32))] [(.int (10000000 : Int32)), (.int (7 : Int32)), (.int x1), (.int (9 : Int32)), (.ref b16_1)])) _
    refine st80 _ ?_
    show Steps p.tables e below (T80.setTop (mkF m 143 #[.val (.int x0), .val (.int x1), .val (.ref b16_1), .val (.int (9 : Int32))] [(.int (1 : Int32))])) _
    refine XS.ifNo X80.here hx rfl (hb hby at_143) rfl ((if0 _ _).trans (feq (by decide : ¬ ((1 : Int32) = (0 : Int32)))).1) ?_
    refine XS.aloadN X80.here hx rfl (hb hby at_146) rfl rfl ?_
    refine XS.iloadN X80.here hx rfl (hb hby at_147) rfl ?_
    refine XS.iloadN X80.here hx rfl (hb hby at_148) rfl ?_
    show Steps p.tables e below (T80.setTop (mkF m 149 #[.val (.int x0), .val (.int x1), .val (.ref b16_1), .val (.int (9 : Int32))] [(.int x1), (.int (9 : Int32)), (.ref b16_1)])) _
    refine XS.bipush X80.here hx rfl (hb hby at_149) ?_
    refine X80.ldcInt hx ho16 (mvT hZ16 (ww hw 171 rfl)) (g := (mkF m 151 #[.val (.int x0), .val (.int x1), .val (.ref b16_1), .val (.int (9 : Int32))] [(.int (8 : Int32)), (.int x1), (.int (9 : Int32)), (.ref b16_1)])) rfl (hb hby at_151) _ ?_
    show Steps p.tables e below (T80.setTop (mkF m 153 #[.val (.int x0), .val (.int x1), .val (.ref b16_1), .val (.int (9 : Int32))] [(.int (100000000 : Int32)), (.int (8 : Int32)), (.int x1), (.int (9 : Int32)), (.ref b16_1)])) _
    refine st84 _ ?_
    show Steps p.tables e below (T84.setTop (mkF m 156 #[.val (.int x0), .val (.int x1), .val (.ref b16_1), .val (.int (9 : Int32))] [(.int (1 : Int32))])) _
    refine XS.ifNo X84.here hx rfl (hb hby at_156) rfl ((if0 _ _).trans (feq (by decide : ¬ ((1 : Int32) = (0 : Int32)))).1) ?_
    refine XS.aloadN X84.here hx rfl (hb hby at_159) rfl rfl ?_
    refine XS.iloadN X84.here hx rfl (hb hby at_160) rfl ?_
    refine XS.iloadN X84.here hx rfl (hb hby at_161) rfl ?_
    show Steps p.tables e below (T84.setTop (mkF m 162 #[.val (.int x0), .val (.int x1), .val (.ref b16_1), .val (.int (9 : Int32))] [(.int x1), (.int (9 : Int32)), (.ref b16_1)])) _
    refine XS.bipush X84.here hx rfl (hb hby at_162) ?_
    refine X84.ldcInt hx ho16 (mvT hZ16 (ww hw 170 rfl)) (g := (mkF m 164 #[.val (.int x0), .val (.int x1), .val (.ref b16_1), .val (.int (9 : Int32))] [(.int (9 : Int32)), (.int x1), (.int (9 : Int32)), (.ref b16_1)])) rfl (hb hby at_164) _ ?_
    show Steps p.tables e below (T84.setTop (mkF m 166 #[.val (.int x0), .val (.int x1), .val (.ref b16_1), .val (.int (9 : Int32))] [(.int (1000000000 : Int32)), (.int (9 : Int32)), (.int x1), (.int (9 : Int32)), (.ref b16_1)])) _
    refine st85 _ ?_
    show Steps p.tables e below (T85.setTop (mkF m 169 #[.val (.int x0), .val (.int x1), .val (.ref b16_1), .val (.int (9 : Int32))] [(.int (1 : Int32))])) _
    refine XS.ifNo X85.here hx rfl (hb hby at_169) rfl ((if0 _ _).trans (feq (by decide : ¬ ((1 : Int32) = (0 : Int32)))).1) ?_
    refine XS.iconst X85.here hx rfl (hb hby at_172) ?_
    refine XS.goto X85.here hx rfl (pc0 := 173) (pc' := 177) rfl (hb hby at_173) (by decide) (by decide) ?_
    show Steps p.tables e below (T85.setTop (mkF m 177 #[.val (.int x0), .val (.int x1), .val (.ref b16_1), .val (.int (9 : Int32))] [(.int (1 : Int32))])) _
    exact retN X85 hx (t := .boolean) Bd.returns (by simp) (hb hby at_177) hr
  · show Q0_9 Z x0 x1 x2 r3 r4 d5 r6 d7 t8 u9 h0 n0 _ T85.heap _
    rw [E85]
    exact ⟨rfl, N85⟩
theorem d31_6 : decode method_3_code 6 = .ok (.bipush 10, 2) := by decide +kernel
theorem d31_8 : decode method_3_code 8 = .ok (.ireturn, 1) := by decide +kernel
def Q31_10 (Z : State) (x0 : Int32) (h0 : Heap) (n0 : Nat) (v : Option Value) (h : Heap) (L : List Loc) : Prop := v = some (.int (10 : Int32)) ∧ Fr n0 L ∧ h = h0
set_option maxRecDepth 65536 in
set_option maxHeartbeats 40000000 in
theorem rm31_10 (l : Launch) (Z : State) (a0 : Array Value) (hw : ∀ d ∈ tables_1, d.before a0 Z = true) (ws : List Jvm.Cond) (x0 : Int32) (h0 : Heap) (n0 : Nat) (O0 : Old Z n0 h0) (hc1 : ¬ (x0 < (1000000000 : Int32))) :
    MetFree l (⟨cs9, "digits", "(I)I"⟩ : MethodName) (head1 (Jvm.Cond.code (⟨cs9, "digits", "(I)I"⟩ : MethodName) method_3_code 1 (some .int) :: ws) ({ frames := 0, cells := 0, slots := 0, locals := 0 } : Room)) (fun a U => a = #[(.int x0)] ∧ Z.Warmed39 U.vm ∧ U.heap = h0) (fun _ _ _ _ _ => True) (fun _ U o U' => ∃ v L, o = .returned v ∧ Q31_10 Z x0 h0 n0 v U'.heap L ∧ FrameEnd U o U' L ({ frames := 0, cells := 0, slots := 0, locals := 0 } : Room).cells ({ frames := 0, cells := 0, slots := 0, locals := 0 } : Room).slots) := by
  refine MetFree.of_bodySF (plainFor_of_name pn_com_example_manojo_manojo_ParameterPositionalPinLaw) hisR ?_
  intro p e s m args below meth c s₁ Bd hml0 hP hK
  obtain ⟨rfl, hZ, hh⟩ := hP
  have hx := Bd.exec
  have hby := Bd.bytes
  have hml : c.maxLocals = 1 := hml0
  have hown : s.vm.findClass cs9 = some m.cls := findClass_of_methodNamed Bd.named
  have hnm := (name_of_methodNamed Bd.named Bd.method).1
  have X0 : Stand p l e ({ frames := 0, cells := 0, slots := 0, locals := 0 } : Room) s m #[(.int x0)] below meth c s₁ [] 0 0 := Stand.of_body Bd
  have e0 : s₁.heap = h0 := by rw [← hh, Bd.state]; rfl
  have N0 := Fr.nil n0
  have pre0 : ∀ t, Steps p.tables e below (s₁.setTop (mkF m 0 #[.val (.int x0)] [])) t → Steps p.tables e below (s₁.setTop (entryFrame m #[(.int x0)] 1)) t := fun t k => castTop (by first | (simp [entryFrame, mkF, argsToLocals, Value.category]; done) | rfl) k
  obtain ⟨fs, hr, hrun, hended, hW, hsame⟩ := X0.leave (v := some (.int (10 : Int32))) (fun h => by rw [Bd.returns] at h; cases h)
  refine ⟨_, _, pre0 _ ?_, hrun, hended, _, _, rfl, ?_, ⟨_, rfl⟩, hW, hsame.mono (by decide) (by decide)⟩
  · show Steps p.tables e below (s₁.setTop (mkF m 0 #[.val (.int x0)] [])) _
    refine XS.iloadN X0.here hx rfl (hb hby d31_0) rfl ?_
    refine X0.ldcInt hx hown (mvT hZ (ww hw 170 rfl)) (g := (mkF m 1 #[.val (.int x0)] [(.int x0)])) rfl (hb hby d31_1) _ ?_
    show Steps p.tables e below (s₁.setTop (mkF m 3 #[.val (.int x0)] [(.int (1000000000 : Int32)), (.int x0)])) _
    refine XS.icmpNo X0.here hx rfl (hb hby d31_3) rfl (flt hc1).1 ?_
    refine XS.bipush X0.here hx rfl (hb hby d31_6) ?_
    exact retOut X0 hx (i := .ireturn) Bd.returns rfl (Or.inl ⟨rfl, Or.inl rfl, _, rfl⟩) (hb hby d31_8) hr
  · show Q31_10 Z x0 h0 n0 _ s₁.heap _
    rw [e0]
    exact ⟨rfl, N0, rfl⟩
def Q0_10 (Z : State) (x0 : Int32) (x1 : Int32) (x2 : Int32) (r3 : Addr) (r4 : Addr) (d5 : Cell) (r6 : Addr) (d7 : Cell) (t8 : List Value) (u9 : Value) (h0 : Heap) (n0 : Nat) (v : Option Value) (h : Heap) (L : List Loc) : Prop := v = some (.int (1 : Int32)) ∧ Fr n0 L
set_option maxRecDepth 65536 in
set_option maxHeartbeats 40000000 in
theorem rm0_10 (l : Launch) (Z : State) (a0 : Array Value) (hw : ∀ d ∈ tables_1, d.before a0 Z = true) (ws : List Jvm.Cond) (x0 : Int32) (x1 : Int32) (x2 : Int32) (r3 : Addr) (r4 : Addr) (d5 : Cell) (r6 : Addr) (d7 : Cell) (t8 : List Value) (u9 : Value) (h0 : Heap) (n0 : Nat) (O0 : Old Z n0 h0) (hq1 : ((1 : Int32) + ((x0 &&& (2147483647 : Int32)) % (2147483647 : Int32))) = x1) (f2 : Sta Z Z.heap "java/lang/String" "COMPACT_STRINGS" "Z" (.int x2)) (hc3 : ¬ (x2 = (0 : Int32))) (hc4 : ¬ ((0 : Int32) < (((1 : Int32) + (SBG.strSizeOf x1)) - ((16 : Int32) >>> ((0 : Int32) &&& 31))))) (f5 : own_TB Z r3 r4 d5 r6 d7) (hc6 : ¬ (((1 : Int32) + (SBG.strSizeOf x1)) < 0)) (hc7 : (((1 : Int32) + (SBG.strSizeOf x1))).toNatClampNeg ≤ ((16 : Int32)).toNatClampNeg) (hc8 : own_sz x1 ≤ (((1 : Int32) + (SBG.strSizeOf x1))).toNatClampNeg) (hc9 : ¬ (((1 : Int32) + (SBG.strSizeOf x1)) = (16 : Int32))) (hc10 : ¬ (((1 : Int32) + (SBG.strSizeOf x1)) < (0 : Int32))) (hc11 : ¬ ((((1 : Int32) + (SBG.strSizeOf x1)) - (0 : Int32)) < 0)) (hc12 : ((((1 : Int32) + (SBG.strSizeOf x1)) - (0 : Int32))).toNatClampNeg ≤ 32) (hc13 : (((1 : Int32) + (SBG.strSizeOf x1)) - (0 : Int32)) < ((16 : Int32) - (0 : Int32))) (hc14 : ((((1 : Int32) + (SBG.strSizeOf x1)) - (0 : Int32))).toNatClampNeg ≤ ((16 : Int32)).toNatClampNeg) (hq31 : (own_us [(.int (63 : Int32)), (.int (0 : Int32)), (.int (0 : Int32)), (.int (0 : Int32)), (.int (0 : Int32)), (.int (0 : Int32)), (.int (0 : Int32)), (.int (0 : Int32)), (.int (0 : Int32)), (.int (0 : Int32)), (.int (0 : Int32)), (.int (0 : Int32)), (.int (0 : Int32)), (.int (0 : Int32)), (.int (0 : Int32)), (.int (0 : Int32))] (.int (0 : Int32)) ((16 : Int32)).toNatClampNeg x1 (((1 : Int32) + (SBG.strSizeOf x1))).toNatClampNeg) = t8) (hc36 : ¬ (x1 < (1000000000 : Int32))) (hc40 : ((((1 : Int32) + (SBG.strSizeOf x1)) - (0 : Int32)) >>> ((nar .byte (0 : Int32)) &&& 31)) = (11 : Int32)) (f41 : Sta Z Z.heap cs10 "SIOOBE_FORMATTER" cs12 u9) (hc42 : u9.isRef = true) (hc43 : (0 : Int32) < (((1 : Int32) + (SBG.strSizeOf x1)) - (0 : Int32))) (hc44 : t8.getD ((0 : Int32)).toNatClampNeg (.int (0 : Int32)) = (.int (own_at t8 ((0 : Int32)).toNatClampNeg))) (hc47 : (nar .char (nar .char (((own_at t8 ((0 : Int32)).toNatClampNeg) &&& (255 : Int32)).toUInt32.toUInt16.toUInt32.toInt32))) = (63 : Int32)) (hc48 : ((10 : Int32) - (0 : Int32)) < (((1 : Int32) + (SBG.strSizeOf x1)) - (0 : Int32))) (hc49 : t8.getD (((10 : Int32) - (0 : Int32))).toNatClampNeg (.int (0 : Int32)) = (.int (own_at t8 (((10 : Int32) - (0 : Int32))).toNatClampNeg))) (hc50 : (nar .char (nar .char (((own_at t8 (((10 : Int32) - (0 : Int32))).toNatClampNeg) &&& (255 : Int32)).toUInt32.toUInt16.toUInt32.toInt32))) = (((48 : Int32) + ((x1 / (1 : Int32)) % (10 : Int32))).toUInt32.toUInt16.toUInt32.toInt32)) (hc52 : ((10 : Int32) - (1 : Int32)) < (((1 : Int32) + (SBG.strSizeOf x1)) - (0 : Int32))) (hc53 : t8.getD (((10 : Int32) - (1 : Int32))).toNatClampNeg (.int (0 : Int32)) = (.int (own_at t8 (((10 : Int32) - (1 : Int32))).toNatClampNeg))) (hc54 : (nar .char (nar .char (((own_at t8 (((10 : Int32) - (1 : Int32))).toNatClampNeg) &&& (255 : Int32)).toUInt32.toUInt16.toUInt32.toInt32))) = (((48 : Int32) + ((x1 / (10 : Int32)) % (10 : Int32))).toUInt32.toUInt16.toUInt32.toInt32)) (hc56 : ((10 : Int32) - (2 : Int32)) < (((1 : Int32) + (SBG.strSizeOf x1)) - (0 : Int32))) (hc57 : t8.getD (((10 : Int32) - (2 : Int32))).toNatClampNeg (.int (0 : Int32)) = (.int (own_at t8 (((10 : Int32) - (2 : Int32))).toNatClampNeg))) (hc58 : (nar .char (nar .char (((own_at t8 (((10 : Int32) - (2 : Int32))).toNatClampNeg) &&& (255 : Int32)).toUInt32.toUInt16.toUInt32.toInt32))) = (((48 : Int32) + ((x1 / (100 : Int32)) % (10 : Int32))).toUInt32.toUInt16.toUInt32.toInt32)) (hc60 : ((10 : Int32) - (3 : Int32)) < (((1 : Int32) + (SBG.strSizeOf x1)) - (0 : Int32))) (hc61 : t8.getD (((10 : Int32) - (3 : Int32))).toNatClampNeg (.int (0 : Int32)) = (.int (own_at t8 (((10 : Int32) - (3 : Int32))).toNatClampNeg))) (hc62 : (nar .char (nar .char (((own_at t8 (((10 : Int32) - (3 : Int32))).toNatClampNeg) &&& (255 : Int32)).toUInt32.toUInt16.toUInt32.toInt32))) = (((48 : Int32) + ((x1 / (1000 : Int32)) % (10 : Int32))).toUInt32.toUInt16.toUInt32.toInt32)) (hc64 : ((10 : Int32) - (4 : Int32)) < (((1 : Int32) + (SBG.strSizeOf x1)) - (0 : Int32))) (hc65 : t8.getD (((10 : Int32) - (4 : Int32))).toNatClampNeg (.int (0 : Int32)) = (.int (own_at t8 (((10 : Int32) - (4 : Int32))).toNatClampNeg))) (hc66 : (nar .char (nar .char (((own_at t8 (((10 : Int32) - (4 : Int32))).toNatClampNeg) &&& (255 : Int32)).toUInt32.toUInt16.toUInt32.toInt32))) = (((48 : Int32) + ((x1 / (10000 : Int32)) % (10 : Int32))).toUInt32.toUInt16.toUInt32.toInt32)) (hc68 : ((10 : Int32) - (5 : Int32)) < (((1 : Int32) + (SBG.strSizeOf x1)) - (0 : Int32))) (hc69 : t8.getD (((10 : Int32) - (5 : Int32))).toNatClampNeg (.int (0 : Int32)) = (.int (own_at t8 (((10 : Int32) - (5 : Int32))).toNatClampNeg))) (hc70 : (nar .char (nar .char (((own_at t8 (((10 : Int32) - (5 : Int32))).toNatClampNeg) &&& (255 : Int32)).toUInt32.toUInt16.toUInt32.toInt32))) = (((48 : Int32) + ((x1 / (100000 : Int32)) % (10 : Int32))).toUInt32.toUInt16.toUInt32.toInt32)) (hc72 : ((10 : Int32) - (6 : Int32)) < (((1 : Int32) + (SBG.strSizeOf x1)) - (0 : Int32))) (hc73 : t8.getD (((10 : Int32) - (6 : Int32))).toNatClampNeg (.int (0 : Int32)) = (.int (own_at t8 (((10 : Int32) - (6 : Int32))).toNatClampNeg))) (hc74 : (nar .char (nar .char (((own_at t8 (((10 : Int32) - (6 : Int32))).toNatClampNeg) &&& (255 : Int32)).toUInt32.toUInt16.toUInt32.toInt32))) = (((48 : Int32) + ((x1 / (1000000 : Int32)) % (10 : Int32))).toUInt32.toUInt16.toUInt32.toInt32)) (hc76 : ((10 : Int32) - (7 : Int32)) < (((1 : Int32) + (SBG.strSizeOf x1)) - (0 : Int32))) (hc77 : t8.getD (((10 : Int32) - (7 : Int32))).toNatClampNeg (.int (0 : Int32)) = (.int (own_at t8 (((10 : Int32) - (7 : Int32))).toNatClampNeg))) (hc78 : (nar .char (nar .char (((own_at t8 (((10 : Int32) - (7 : Int32))).toNatClampNeg) &&& (255 : Int32)).toUInt32.toUInt16.toUInt32.toInt32))) = (((48 : Int32) + ((x1 / (10000000 : Int32)) % (10 : Int32))).toUInt32.toUInt16.toUInt32.toInt32)) (hc80 : ((10 : Int32) - (8 : Int32)) < (((1 : Int32) + (SBG.strSizeOf x1)) - (0 : Int32))) (hc81 : t8.getD (((10 : Int32) - (8 : Int32))).toNatClampNeg (.int (0 : Int32)) = (.int (own_at t8 (((10 : Int32) - (8 : Int32))).toNatClampNeg))) (hc82 : (nar .char (nar .char (((own_at t8 (((10 : Int32) - (8 : Int32))).toNatClampNeg) &&& (255 : Int32)).toUInt32.toUInt16.toUInt32.toInt32))) = (((48 : Int32) + ((x1 / (100000000 : Int32)) % (10 : Int32))).toUInt32.toUInt16.toUInt32.toInt32)) (hc84 : ((10 : Int32) - (9 : Int32)) < (((1 : Int32) + (SBG.strSizeOf x1)) - (0 : Int32))) (hc85 : t8.getD (((10 : Int32) - (9 : Int32))).toNatClampNeg (.int (0 : Int32)) = (.int (own_at t8 (((10 : Int32) - (9 : Int32))).toNatClampNeg))) (hc86 : (nar .char (nar .char (((own_at t8 (((10 : Int32) - (9 : Int32))).toNatClampNeg) &&& (255 : Int32)).toUInt32.toUInt16.toUInt32.toInt32))) = (((48 : Int32) + ((x1 / (1000000000 : Int32)) % (10 : Int32))).toUInt32.toUInt16.toUInt32.toInt32)) :
    MetFree l x (head1 (Jvm.Cond.code x code maxLocals ret :: ws) room_1) (fun a U => a = #[(.int x0)] ∧ Z.Warmed39 U.vm ∧ U.heap = h0 ∧ CHv Z consts_1 U.vm h0) (fun _ _ _ _ _ => True) (fun _ U o U' => ∃ v L, o = .returned v ∧ Q0_10 Z x0 x1 x2 r3 r4 d5 r6 d7 t8 u9 h0 n0 v U'.heap L ∧ CHr Z consts_1 U.vm U.heap U'.vm U'.heap ∧ ReturnedEndW U o U' L room_1.cells room_1.slots) := by
  refine MetFree.of_bodySF (plainFor_of_name pn_com_example_manojo_manojo_ParameterPositionalPinLaw) hisR ?_
  intro p e s m args below meth c s₁ Bd hml0 hP hK
  obtain ⟨rfl, hZ, hh, hC⟩ := hP
  have hx := Bd.exec
  have hby := Bd.bytes
  have hml : c.maxLocals = 4 := hml0
  have hown : s.vm.findClass cs9 = some m.cls := findClass_of_methodNamed Bd.named
  have hnm := (name_of_methodNamed Bd.named Bd.method).1
  have X0 : Stand p l e room_1 s m #[(.int x0)] below meth c s₁ [] 0 0 := Stand.of_body Bd
  have e0 : s₁.heap = h0 := by rw [← hh, Bd.state]; rfl
  have N0 := Fr.nil n0
  have pre0 : ∀ t, Steps p.tables e below (s₁.setTop (mkF m 0 #[.val (.int x0), .unset, .unset, .unset] [])) t → Steps p.tables e below (s₁.setTop (entryFrame m #[(.int x0)] maxLocals)) t := fun t k => castTop (by first | (simp [entryFrame, mkF, argsToLocals, Value.category, maxLocals]; done) | rfl) k
  have hEL : EW Z a0 consts_1 := own_EW hw
  have R0 := CHr.refl hC
  have hS15 := (State.WarmedH.refl s).since 0
  obtain ⟨_, _, ⟨T16, L16, k16, n16⟩, -, X16, hs16, hg16, ⟨Lc16, hQ16, l16, y16, z16, cr16⟩, st16⟩ := callSS X0 hx (y := (⟨cs7, "positional", cs8⟩ : MethodName)) hown (mvT hZ (ww hw 1 rfl)) (mvT hZ (ww hw 2 rfl)) (mvT hZ (ww hw 3 rfl)) (mvT hZ (ww hw 4 rfl)) (by decide) (backOfSH (s := s) (vm0 := s.vm) (W := 0) (rm1_1 l Z a0 hw [] x1 x2 r3 r4 d5 r6 d7 h0 n0 O0 f2 hc3 hc4 f5 hc6 hc7 hc8 hc9 hc10 hc11 hc12 hc13 hc14) hZ (ww hw 4 rfl) (ww hw 3 rfl) (by decide) (by decide) hEL R0.1) (g := (mkF m 11 #[.val (.int x0), .val (.int x1), .unset, .unset] [(.int x1)])) rfl (by rw [hml]; rfl) (argsL := [(.int x1)]) (rest := []) (lenOf pd__I_Lcom_example_manojo_manojo_QueryTree_Parameter_ rfl) rfl (by show 2 * 0 + _ ≤ _; exact Nat.le_of_eq rfl) (hb hby at_11) (fun _ _ => ⟨rfl, e0, (by decide : 0 + 7 ≤ _), (by decide : 0 + 65 ≤ _)⟩)
  dsimp only [Pt.U, Pt.locs, Pt.cells, Pt.slots] at X16 l16 y16 z16 st16 hQ16 hs16 hg16 cr16
  subst l16 y16 z16
  obtain ⟨X16, hS16, hZ16, ho16⟩ := rebS (s := s) (vm0 := s.vm) hS15 (by rw [e0]; exact (Nat.zero_le _)) X16 hs16 hg16 hZ hown
  obtain ⟨b16_0, b16_1, b16_2, k16_0, rfl, N16q, K16, f17, f18, f19, f20, f21, f22, f23, f24, f25, f26, f27, f28, f29⟩ := hQ16
  have N16 := Fr.app N0 N16q
  have R30 := CHr.trans R0 cr16
  have f32 : Arv Z T16.heap b16_2 k16_0 .byte (((1 : Int32) + (SBG.strSizeOf x1)) - (0 : Int32)) t8 (.int (0 : Int32)) := by rw [← hq31]; exact f25
  have o33 := Old.keep O0 K16 all0
  obtain ⟨cqq35, kqq35, qq35a, qq35b, qq35c⟩ := isOf hZ16 rfl f18
  obtain ⟨_, _, ⟨T34, L34, k34, n34⟩, -, X34, ⟨Lc34, hQ34, l34, y34, z34⟩, st34⟩ := X16.virtualBack hx (y := (⟨cs7, "name", "()Ljava/lang/String;"⟩ : MethodName)) (z := (⟨cs7, "name", "()Ljava/lang/String;"⟩ : MethodName)) ho16 (mvT hZ16 (ww hw 161 rfl)) (mvT hZ16 (ww hw 162 rfl)) (notFace_of_selects (args := #[]) (mvT hZ16 (ww hw 164 rfl))) (mvT hZ16 (ww hw 164 rfl)) (mvT hZ16 (ww hw 163 rfl)) (by decide) (backOf (W := 0) (rm30_1 l Z a0 hw [] b16_0 b16_1 T16.heap n0 o33 f19) hZ16 (ww hw 165 rfl) (ww hw 3 rfl) (by decide) (by decide)) qq35a qq35c (g := (mkF m 14 #[.val (.int x0), .val (.int x1), .unset, .unset] [(.ref b16_0)])) rfl (by rw [hml]; rfl) (Steps.refl _) (argsL := []) (rest := []) (lenOf pd___Ljava_lang_String_ rfl) rfl (by show 2 * 0 + _ ≤ _; exact Nat.le_of_eq rfl) (hb hby at_14) (fun _ _ => ⟨rfl, rfl, (by decide : 7 + 0 ≤ _), (by decide : 65 + 0 ≤ _)⟩)
  dsimp only [Pt.U, Pt.locs, Pt.cells, Pt.slots] at X34 l34 y34 z34 st34 hQ34
  subst l34 y34 z34
  obtain ⟨rfl, N34q, E34⟩ := hQ34
  have N34 := Fr.app N16 N34q
  obtain ⟨_, _, ⟨T37, L37, k37, n37⟩, -, X37, ⟨Lc37, hQ37, l37, y37, z37⟩, st37⟩ := Jvm.LawKit.callS X34 hx (y := (⟨cs9, "digits", "(I)I"⟩ : MethodName)) ho16 (mvT hZ16 (ww hw 166 rfl)) (mvT hZ16 (ww hw 167 rfl)) (mvT hZ16 (ww hw 168 rfl)) (mvT hZ16 (ww hw 169 rfl)) (by decide) (backOf (W := 0) (rm31_10 l Z a0 hw [] x1 T16.heap n0 o33 hc36) hZ16 (ww hw 169 rfl) (ww hw 168 rfl) (by decide) (by decide)) (g := (mkF m 19 #[.val (.int x0), .val (.int x1), .val (.ref b16_1), .unset] [(.int x1)])) rfl (by rw [hml]; rfl) (argsL := [(.int x1)]) (rest := []) (lenOf pd__I_I rfl) rfl (by show 2 * 0 + _ ≤ _; exact Nat.le_of_eq rfl) (hb hby at_19) (fun _ _ => ⟨rfl, E34, (by decide : 7 + 0 ≤ _), (by decide : 65 + 0 ≤ _)⟩)
  dsimp only [Pt.U, Pt.locs, Pt.cells, Pt.slots] at X37 l37 y37 z37 st37 hQ37
  subst l37 y37 z37
  obtain ⟨rfl, N37q, E37⟩ := hQ37
  have N37 := Fr.app N34 N37q
  obtain ⟨cqq39, kqq39, qq39a, qq39b, qq39c⟩ := isOf hZ16 E37 f21
  obtain ⟨_, _, ⟨T38, L38, k38, n38⟩, -, X38, ⟨Lc38, hQ38, l38, y38, z38⟩, st38⟩ := X37.virtualBack hx (y := (⟨"java/lang/String", "length", "()I"⟩ : MethodName)) (z := (⟨"java/lang/String", "length", "()I"⟩ : MethodName)) ho16 (mvT hZ16 (ww hw 175 rfl)) (mvT hZ16 (ww hw 46 rfl)) (notFace_of_selects (args := #[]) (mvT hZ16 (ww hw 48 rfl))) (mvT hZ16 (ww hw 48 rfl)) (mvT hZ16 (ww hw 47 rfl)) (by decide) (backOf (W := 0) (rm7_1 l Z a0 hw [] b16_1 b16_2 (((1 : Int32) + (SBG.strSizeOf x1)) - (0 : Int32)) k16_0 t8 x2 (0 : Int32) T16.heap n0 o33 f23 f32 f21 f2 hc3 f22) hZ16 (ww hw 49 rfl) (ww hw 23 rfl) (by decide) (by decide)) qq39a qq39c (g := (mkF m 24 #[.val (.int x0), .val (.int x1), .val (.ref b16_1), .val (.int (10 : Int32))] [(.ref b16_1)])) rfl (by rw [hml]; rfl) (Steps.refl _) (argsL := []) (rest := []) (lenOf pd___I rfl) rfl (by show 2 * 0 + _ ≤ _; exact Nat.le_of_eq rfl) (hb hby at_24) (fun _ _ => ⟨rfl, E37, (by decide : 7 + 0 ≤ _), (by decide : 65 + 0 ≤ _)⟩)
  dsimp only [Pt.U, Pt.locs, Pt.cells, Pt.slots] at X38 l38 y38 z38 st38 hQ38
  subst l38 y38 z38
  obtain ⟨rfl, N38q, E38⟩ := hQ38
  have N38 := Fr.app N37 N38q
  obtain ⟨cqq46, kqq46, qq46a, qq46b, qq46c⟩ := isOf hZ16 E38 f21
  obtain ⟨_, _, ⟨T45, L45, k45, n45⟩, -, X45, ⟨Lc45, hQ45, l45, y45, z45⟩, st45⟩ := X38.virtualBack hx (y := (⟨"java/lang/String", "charAt", "(I)C"⟩ : MethodName)) (z := (⟨"java/lang/String", "charAt", "(I)C"⟩ : MethodName)) ho16 (mvT hZ16 (ww hw 176 rfl)) (mvT hZ16 (ww hw 177 rfl)) (notFace_of_selects (args := #[]) (mvT hZ16 (ww hw 179 rfl))) (mvT hZ16 (ww hw 179 rfl)) (mvT hZ16 (ww hw 178 rfl)) (by decide) (backOf (W := 0) (rm32_1 l Z a0 hw [] b16_1 (0 : Int32) x2 (0 : Int32) b16_2 (((1 : Int32) + (SBG.strSizeOf x1)) - (0 : Int32)) k16_0 t8 u9 (own_at t8 ((0 : Int32)).toNatClampNeg) T16.heap n0 o33 f21 f2 hc3 f22 (by decide : (0 : Int32) = (0 : Int32)) f23 f32 f41 hc42 (by decide : ¬ ((0 : Int32) < (0 : Int32))) hc43 hc44) hZ16 (ww hw 180 rfl) (ww hw 23 rfl) (by decide) (by decide)) qq46a qq46c (g := (mkF m 37 #[.val (.int x0), .val (.int x1), .val (.ref b16_1), .val (.int (10 : Int32))] [(.int (0 : Int32)), (.ref b16_1)])) rfl (by rw [hml]; rfl) (Steps.refl _) (argsL := [(.int (0 : Int32))]) (rest := []) (lenOf pd__I_C rfl) rfl (by show 2 * 0 + _ ≤ _; exact Nat.le_of_eq rfl) (hb hby at_37) (fun _ _ => ⟨rfl, E38, (by decide : 7 + 0 ≤ _), (by decide : 65 + 0 ≤ _)⟩)
  dsimp only [Pt.U, Pt.locs, Pt.cells, Pt.slots] at X45 l45 y45 z45 st45 hQ45
  subst l45 y45 z45
  obtain ⟨rfl, N45q, E45⟩ := hQ45
  have N45 := Fr.app N38 N45q
  obtain ⟨_, _, ⟨T51, L51, k51, n51⟩, -, X51, ⟨Lc51, hQ51, l51, y51, z51⟩, st51⟩ := Jvm.LawKit.callS X45 hx (y := (⟨cs9, "at", cs13⟩ : MethodName)) ho16 (mvT hZ16 (ww hw 198 rfl)) (mvT hZ16 (ww hw 199 rfl)) (mvT hZ16 (ww hw 168 rfl)) (mvT hZ16 (ww hw 200 rfl)) (by decide) (backOf (W := 0) (rm37_1 l Z a0 hw [] b16_1 (10 : Int32) x1 (0 : Int32) (1 : Int32) x2 (0 : Int32) b16_2 (((1 : Int32) + (SBG.strSizeOf x1)) - (0 : Int32)) k16_0 t8 u9 (own_at t8 (((10 : Int32) - (0 : Int32))).toNatClampNeg) T16.heap n0 o33 (by decide : (0 : Int32) < (10 : Int32)) f21 f2 hc3 f22 (by decide : (0 : Int32) = (0 : Int32)) f23 f32 f41 hc42 (by decide : ¬ (((10 : Int32) - (0 : Int32)) < (0 : Int32))) hc48 hc49 (by decide : ¬ ((1 : Int32) = (0 : Int32))) hc50) hZ16 (ww hw 200 rfl) (ww hw 168 rfl) (by decide) (by decide)) (g := (mkF m 52 #[.val (.int x0), .val (.int x1), .val (.ref b16_1), .val (.int (10 : Int32))] [(.int (1 : Int32)), (.int (0 : Int32)), (.int x1), (.int (10 : Int32)), (.ref b16_1)])) rfl (by rw [hml]; rfl) (argsL := [(.ref b16_1), (.int (10 : Int32)), (.int x1), (.int (0 : Int32)), (.int (1 : Int32))]) (rest := []) (lenOf pd__Ljava_lang_String_IIII_Z rfl) rfl (by show 2 * 0 + _ ≤ _; exact Nat.le_of_eq rfl) (hb hby at_52) (fun _ _ => ⟨rfl, E45, (by decide : 7 + 0 ≤ _), (by decide : 65 + 0 ≤ _)⟩)
  dsimp only [Pt.U, Pt.locs, Pt.cells, Pt.slots] at X51 l51 y51 z51 st51 hQ51
  subst l51 y51 z51
  obtain ⟨rfl, N51q, E51⟩ := hQ51
  have N51 := Fr.app N45 N51q
  obtain ⟨_, _, ⟨T55, L55, k55, n55⟩, -, X55, ⟨Lc55, hQ55, l55, y55, z55⟩, st55⟩ := Jvm.LawKit.callS X51 hx (y := (⟨cs9, "at", cs13⟩ : MethodName)) ho16 (mvT hZ16 (ww hw 198 rfl)) (mvT hZ16 (ww hw 199 rfl)) (mvT hZ16 (ww hw 168 rfl)) (mvT hZ16 (ww hw 200 rfl)) (by decide) (backOf (W := 0) (rm37_1 l Z a0 hw [] b16_1 (10 : Int32) x1 (1 : Int32) (10 : Int32) x2 (0 : Int32) b16_2 (((1 : Int32) + (SBG.strSizeOf x1)) - (0 : Int32)) k16_0 t8 u9 (own_at t8 (((10 : Int32) - (1 : Int32))).toNatClampNeg) T16.heap n0 o33 (by decide : (1 : Int32) < (10 : Int32)) f21 f2 hc3 f22 (by decide : (0 : Int32) = (0 : Int32)) f23 f32 f41 hc42 (by decide : ¬ (((10 : Int32) - (1 : Int32)) < (0 : Int32))) hc52 hc53 (by decide : ¬ ((10 : Int32) = (0 : Int32))) hc54) hZ16 (ww hw 200 rfl) (ww hw 168 rfl) (by decide) (by decide)) (g := (mkF m 64 #[.val (.int x0), .val (.int x1), .val (.ref b16_1), .val (.int (10 : Int32))] [(.int (10 : Int32)), (.int (1 : Int32)), (.int x1), (.int (10 : Int32)), (.ref b16_1)])) rfl (by rw [hml]; rfl) (argsL := [(.ref b16_1), (.int (10 : Int32)), (.int x1), (.int (1 : Int32)), (.int (10 : Int32))]) (rest := []) (lenOf pd__Ljava_lang_String_IIII_Z rfl) rfl (by show 2 * 0 + _ ≤ _; exact Nat.le_of_eq rfl) (hb hby at_64) (fun _ _ => ⟨rfl, E51, (by decide : 7 + 0 ≤ _), (by decide : 65 + 0 ≤ _)⟩)
  dsimp only [Pt.U, Pt.locs, Pt.cells, Pt.slots] at X55 l55 y55 z55 st55 hQ55
  subst l55 y55 z55
  obtain ⟨rfl, N55q, E55⟩ := hQ55
  have N55 := Fr.app N51 N55q
  obtain ⟨_, _, ⟨T59, L59, k59, n59⟩, -, X59, ⟨Lc59, hQ59, l59, y59, z59⟩, st59⟩ := Jvm.LawKit.callS X55 hx (y := (⟨cs9, "at", cs13⟩ : MethodName)) ho16 (mvT hZ16 (ww hw 198 rfl)) (mvT hZ16 (ww hw 199 rfl)) (mvT hZ16 (ww hw 168 rfl)) (mvT hZ16 (ww hw 200 rfl)) (by decide) (backOf (W := 0) (rm37_1 l Z a0 hw [] b16_1 (10 : Int32) x1 (2 : Int32) (100 : Int32) x2 (0 : Int32) b16_2 (((1 : Int32) + (SBG.strSizeOf x1)) - (0 : Int32)) k16_0 t8 u9 (own_at t8 (((10 : Int32) - (2 : Int32))).toNatClampNeg) T16.heap n0 o33 (by decide : (2 : Int32) < (10 : Int32)) f21 f2 hc3 f22 (by decide : (0 : Int32) = (0 : Int32)) f23 f32 f41 hc42 (by decide : ¬ (((10 : Int32) - (2 : Int32)) < (0 : Int32))) hc56 hc57 (by decide : ¬ ((100 : Int32) = (0 : Int32))) hc58) hZ16 (ww hw 200 rfl) (ww hw 168 rfl) (by decide) (by decide)) (g := (mkF m 76 #[.val (.int x0), .val (.int x1), .val (.ref b16_1), .val (.int (10 : Int32))] [(.int (100 : Int32)), (.int (2 : Int32)), (.int x1), (.int (10 : Int32)), (.ref b16_1)])) rfl (by rw [hml]; rfl) (argsL := [(.ref b16_1), (.int (10 : Int32)), (.int x1), (.int (2 : Int32)), (.int (100 : Int32))]) (rest := []) (lenOf pd__Ljava_lang_String_IIII_Z rfl) rfl (by show 2 * 0 + _ ≤ _; exact Nat.le_of_eq rfl) (hb hby at_76) (fun _ _ => ⟨rfl, E55, (by decide : 7 + 0 ≤ _), (by decide : 65 + 0 ≤ _)⟩)
  dsimp only [Pt.U, Pt.locs, Pt.cells, Pt.slots] at X59 l59 y59 z59 st59 hQ59
  subst l59 y59 z59
  obtain ⟨rfl, N59q, E59⟩ := hQ59
  have N59 := Fr.app N55 N59q
  obtain ⟨_, _, ⟨T63, L63, k63, n63⟩, -, X63, ⟨Lc63, hQ63, l63, y63, z63⟩, st63⟩ := Jvm.LawKit.callS X59 hx (y := (⟨cs9, "at", cs13⟩ : MethodName)) ho16 (mvT hZ16 (ww hw 198 rfl)) (mvT hZ16 (ww hw 199 rfl)) (mvT hZ16 (ww hw 168 rfl)) (mvT hZ16 (ww hw 200 rfl)) (by decide) (backOf (W := 0) (rm37_1 l Z a0 hw [] b16_1 (10 : Int32) x1 (3 : Int32) (1000 : Int32) x2 (0 : Int32) b16_2 (((1 : Int32) + (SBG.strSizeOf x1)) - (0 : Int32)) k16_0 t8 u9 (own_at t8 (((10 : Int32) - (3 : Int32))).toNatClampNeg) T16.heap n0 o33 (by decide : (3 : Int32) < (10 : Int32)) f21 f2 hc3 f22 (by decide : (0 : Int32) = (0 : Int32)) f23 f32 f41 hc42 (by decide : ¬ (((10 : Int32) - (3 : Int32)) < (0 : Int32))) hc60 hc61 (by decide : ¬ ((1000 : Int32) = (0 : Int32))) hc62) hZ16 (ww hw 200 rfl) (ww hw 168 rfl) (by decide) (by decide)) (g := (mkF m 89 #[.val (.int x0), .val (.int x1), .val (.ref b16_1), .val (.int (10 : Int32))] [(.int (1000 : Int32)), (.int (3 : Int32)), (.int x1), (.int (10 : Int32)), (.ref b16_1)])) rfl (by rw [hml]; rfl) (argsL := [(.ref b16_1), (.int (10 : Int32)), (.int x1), (.int (3 : Int32)), (.int (1000 : Int32))]) (rest := []) (lenOf pd__Ljava_lang_String_IIII_Z rfl) rfl (by show 2 * 0 + _ ≤ _; exact Nat.le_of_eq rfl) (hb hby at_89) (fun _ _ => ⟨rfl, E59, (by decide : 7 + 0 ≤ _), (by decide : 65 + 0 ≤ _)⟩)
  dsimp only [Pt.U, Pt.locs, Pt.cells, Pt.slots] at X63 l63 y63 z63 st63 hQ63
  subst l63 y63 z63
  obtain ⟨rfl, N63q, E63⟩ := hQ63
  have N63 := Fr.app N59 N63q
  obtain ⟨_, _, ⟨T67, L67, k67, n67⟩, -, X67, ⟨Lc67, hQ67, l67, y67, z67⟩, st67⟩ := Jvm.LawKit.callS X63 hx (y := (⟨cs9, "at", cs13⟩ : MethodName)) ho16 (mvT hZ16 (ww hw 198 rfl)) (mvT hZ16 (ww hw 199 rfl)) (mvT hZ16 (ww hw 168 rfl)) (mvT hZ16 (ww hw 200 rfl)) (by decide) (backOf (W := 0) (rm37_1 l Z a0 hw [] b16_1 (10 : Int32) x1 (4 : Int32) (10000 : Int32) x2 (0 : Int32) b16_2 (((1 : Int32) + (SBG.strSizeOf x1)) - (0 : Int32)) k16_0 t8 u9 (own_at t8 (((10 : Int32) - (4 : Int32))).toNatClampNeg) T16.heap n0 o33 (by decide : (4 : Int32) < (10 : Int32)) f21 f2 hc3 f22 (by decide : (0 : Int32) = (0 : Int32)) f23 f32 f41 hc42 (by decide : ¬ (((10 : Int32) - (4 : Int32)) < (0 : Int32))) hc64 hc65 (by decide : ¬ ((10000 : Int32) = (0 : Int32))) hc66) hZ16 (ww hw 200 rfl) (ww hw 168 rfl) (by decide) (by decide)) (g := (mkF m 102 #[.val (.int x0), .val (.int x1), .val (.ref b16_1), .val (.int (10 : Int32))] [(.int (10000 : Int32)), (.int (4 : Int32)), (.int x1), (.int (10 : Int32)), (.ref b16_1)])) rfl (by rw [hml]; rfl) (argsL := [(.ref b16_1), (.int (10 : Int32)), (.int x1), (.int (4 : Int32)), (.int (10000 : Int32))]) (rest := []) (lenOf pd__Ljava_lang_String_IIII_Z rfl) rfl (by show 2 * 0 + _ ≤ _; exact Nat.le_of_eq rfl) (hb hby at_102) (fun _ _ => ⟨rfl, E63, (by decide : 7 + 0 ≤ _), (by decide : 65 + 0 ≤ _)⟩)
  dsimp only [Pt.U, Pt.locs, Pt.cells, Pt.slots] at X67 l67 y67 z67 st67 hQ67
  subst l67 y67 z67
  obtain ⟨rfl, N67q, E67⟩ := hQ67
  have N67 := Fr.app N63 N67q
  obtain ⟨_, _, ⟨T71, L71, k71, n71⟩, -, X71, ⟨Lc71, hQ71, l71, y71, z71⟩, st71⟩ := Jvm.LawKit.callS X67 hx (y := (⟨cs9, "at", cs13⟩ : MethodName)) ho16 (mvT hZ16 (ww hw 198 rfl)) (mvT hZ16 (ww hw 199 rfl)) (mvT hZ16 (ww hw 168 rfl)) (mvT hZ16 (ww hw 200 rfl)) (by decide) (backOf (W := 0) (rm37_1 l Z a0 hw [] b16_1 (10 : Int32) x1 (5 : Int32) (100000 : Int32) x2 (0 : Int32) b16_2 (((1 : Int32) + (SBG.strSizeOf x1)) - (0 : Int32)) k16_0 t8 u9 (own_at t8 (((10 : Int32) - (5 : Int32))).toNatClampNeg) T16.heap n0 o33 (by decide : (5 : Int32) < (10 : Int32)) f21 f2 hc3 f22 (by decide : (0 : Int32) = (0 : Int32)) f23 f32 f41 hc42 (by decide : ¬ (((10 : Int32) - (5 : Int32)) < (0 : Int32))) hc68 hc69 (by decide : ¬ ((100000 : Int32) = (0 : Int32))) hc70) hZ16 (ww hw 200 rfl) (ww hw 168 rfl) (by decide) (by decide)) (g := (mkF m 114 #[.val (.int x0), .val (.int x1), .val (.ref b16_1), .val (.int (10 : Int32))] [(.int (100000 : Int32)), (.int (5 : Int32)), (.int x1), (.int (10 : Int32)), (.ref b16_1)])) rfl (by rw [hml]; rfl) (argsL := [(.ref b16_1), (.int (10 : Int32)), (.int x1), (.int (5 : Int32)), (.int (100000 : Int32))]) (rest := []) (lenOf pd__Ljava_lang_String_IIII_Z rfl) rfl (by show 2 * 0 + _ ≤ _; exact Nat.le_of_eq rfl) (hb hby at_114) (fun _ _ => ⟨rfl, E67, (by decide : 7 + 0 ≤ _), (by decide : 65 + 0 ≤ _)⟩)
  dsimp only [Pt.U, Pt.locs, Pt.cells, Pt.slots] at X71 l71 y71 z71 st71 hQ71
  subst l71 y71 z71
  obtain ⟨rfl, N71q, E71⟩ := hQ71
  have N71 := Fr.app N67 N71q
  obtain ⟨_, _, ⟨T75, L75, k75, n75⟩, -, X75, ⟨Lc75, hQ75, l75, y75, z75⟩, st75⟩ := Jvm.LawKit.callS X71 hx (y := (⟨cs9, "at", cs13⟩ : MethodName)) ho16 (mvT hZ16 (ww hw 198 rfl)) (mvT hZ16 (ww hw 199 rfl)) (mvT hZ16 (ww hw 168 rfl)) (mvT hZ16 (ww hw 200 rfl)) (by decide) (backOf (W := 0) (rm37_1 l Z a0 hw [] b16_1 (10 : Int32) x1 (6 : Int32) (1000000 : Int32) x2 (0 : Int32) b16_2 (((1 : Int32) + (SBG.strSizeOf x1)) - (0 : Int32)) k16_0 t8 u9 (own_at t8 (((10 : Int32) - (6 : Int32))).toNatClampNeg) T16.heap n0 o33 (by decide : (6 : Int32) < (10 : Int32)) f21 f2 hc3 f22 (by decide : (0 : Int32) = (0 : Int32)) f23 f32 f41 hc42 (by decide : ¬ (((10 : Int32) - (6 : Int32)) < (0 : Int32))) hc72 hc73 (by decide : ¬ ((1000000 : Int32) = (0 : Int32))) hc74) hZ16 (ww hw 200 rfl) (ww hw 168 rfl) (by decide) (by decide)) (g := (mkF m 127 #[.val (.int x0), .val (.int x1), .val (.ref b16_1), .val (.int (10 : Int32))] [(.int (1000000 : Int32)), (.int (6 : Int32)), (.int x1), (.int (10 : Int32)), (.ref b16_1)])) rfl (by rw [hml]; rfl) (argsL := [(.ref b16_1), (.int (10 : Int32)), (.int x1), (.int (6 : Int32)), (.int (1000000 : Int32))]) (rest := []) (lenOf pd__Ljava_lang_String_IIII_Z rfl) rfl (by show 2 * 0 + _ ≤ _; exact Nat.le_of_eq rfl) (hb hby at_127) (fun _ _ => ⟨rfl, E71, (by decide : 7 + 0 ≤ _), (by decide : 65 + 0 ≤ _)⟩)
  dsimp only [Pt.U, Pt.locs, Pt.cells, Pt.slots] at X75 l75 y75 z75 st75 hQ75
  subst l75 y75 z75
  obtain ⟨rfl, N75q, E75⟩ := hQ75
  have N75 := Fr.app N71 N75q
  obtain ⟨_, _, ⟨T79, L79, k79, n79⟩, -, X79, ⟨Lc79, hQ79, l79, y79, z79⟩, st79⟩ := Jvm.LawKit.callS X75 hx (y := (⟨cs9, "at", cs13⟩ : MethodName)) ho16 (mvT hZ16 (ww hw 198 rfl)) (mvT hZ16 (ww hw 199 rfl)) (mvT hZ16 (ww hw 168 rfl)) (mvT hZ16 (ww hw 200 rfl)) (by decide) (backOf (W := 0) (rm37_1 l Z a0 hw [] b16_1 (10 : Int32) x1 (7 : Int32) (10000000 : Int32) x2 (0 : Int32) b16_2 (((1 : Int32) + (SBG.strSizeOf x1)) - (0 : Int32)) k16_0 t8 u9 (own_at t8 (((10 : Int32) - (7 : Int32))).toNatClampNeg) T16.heap n0 o33 (by decide : (7 : Int32) < (10 : Int32)) f21 f2 hc3 f22 (by decide : (0 : Int32) = (0 : Int32)) f23 f32 f41 hc42 (by decide : ¬ (((10 : Int32) - (7 : Int32)) < (0 : Int32))) hc76 hc77 (by decide : ¬ ((10000000 : Int32) = (0 : Int32))) hc78) hZ16 (ww hw 200 rfl) (ww hw 168 rfl) (by decide) (by decide)) (g := (mkF m 140 #[.val (.int x0), .val (.int x1), .val (.ref b16_1), .val (.int (10 : Int32))] [(.int (10000000 : Int32)), (.int (7 : Int32)), (.int x1), (.int (10 : Int32)), (.ref b16_1)])) rfl (by rw [hml]; rfl) (argsL := [(.ref b16_1), (.int (10 : Int32)), (.int x1), (.int (7 : Int32)), (.int (10000000 : Int32))]) (rest := []) (lenOf pd__Ljava_lang_String_IIII_Z rfl) rfl (by show 2 * 0 + _ ≤ _; exact Nat.le_of_eq rfl) (hb hby at_140) (fun _ _ => ⟨rfl, E75, (by decide : 7 + 0 ≤ _), (by decide : 65 + 0 ≤ _)⟩)
  dsimp only [Pt.U, Pt.locs, Pt.cells, Pt.slots] at X79 l79 y79 z79 st79 hQ79
  subst l79 y79 z79
  obtain ⟨rfl, N79q, E79⟩ := hQ79
  have N79 := Fr.app N75 N79q
  obtain ⟨_, _, ⟨T83, L83, k83, n83⟩, -, X83, ⟨Lc83, hQ83, l83, y83, z83⟩, st83⟩ := Jvm.LawKit.callS X79 hx (y := (⟨cs9, "at", cs13⟩ : MethodName)) ho16 (mvT hZ16 (ww hw 198 rfl)) (mvT hZ16 (ww hw 199 rfl)) (mvT hZ16 (ww hw 168 rfl)) (mvT hZ16 (ww hw 200 rfl)) (by decide) (backOf (W := 0) (rm37_1 l Z a0 hw [] b16_1 (10 : Int32) x1 (8 : Int32) (100000000 : Int32) x2 (0 : Int32) b16_2 (((1 : Int32) + (SBG.strSizeOf x1)) - (0 : Int32)) k16_0 t8 u9 (own_at t8 (((10 : Int32) - (8 : Int32))).toNatClampNeg) T16.heap n0 o33 (by decide : (8 : Int32) < (10 : Int32)) f21 f2 hc3 f22 (by decide : (0 : Int32) = (0 : Int32)) f23 f32 f41 hc42 (by decide : ¬ (((10 : Int32) - (8 : Int32)) < (0 : Int32))) hc80 hc81 (by decide : ¬ ((100000000 : Int32) = (0 : Int32))) hc82) hZ16 (ww hw 200 rfl) (ww hw 168 rfl) (by decide) (by decide)) (g := (mkF m 153 #[.val (.int x0), .val (.int x1), .val (.ref b16_1), .val (.int (10 : Int32))] [(.int (100000000 : Int32)), (.int (8 : Int32)), (.int x1), (.int (10 : Int32)), (.ref b16_1)])) rfl (by rw [hml]; rfl) (argsL := [(.ref b16_1), (.int (10 : Int32)), (.int x1), (.int (8 : Int32)), (.int (100000000 : Int32))]) (rest := []) (lenOf pd__Ljava_lang_String_IIII_Z rfl) rfl (by show 2 * 0 + _ ≤ _; exact Nat.le_of_eq rfl) (hb hby at_153) (fun _ _ => ⟨rfl, E79, (by decide : 7 + 0 ≤ _), (by decide : 65 + 0 ≤ _)⟩)
  dsimp only [Pt.U, Pt.locs, Pt.cells, Pt.slots] at X83 l83 y83 z83 st83 hQ83
  subst l83 y83 z83
  obtain ⟨rfl, N83q, E83⟩ := hQ83
  have N83 := Fr.app N79 N83q
  obtain ⟨_, _, ⟨T87, L87, k87, n87⟩, -, X87, ⟨Lc87, hQ87, l87, y87, z87⟩, st87⟩ := Jvm.LawKit.callS X83 hx (y := (⟨cs9, "at", cs13⟩ : MethodName)) ho16 (mvT hZ16 (ww hw 198 rfl)) (mvT hZ16 (ww hw 199 rfl)) (mvT hZ16 (ww hw 168 rfl)) (mvT hZ16 (ww hw 200 rfl)) (by decide) (backOf (W := 0) (rm37_1 l Z a0 hw [] b16_1 (10 : Int32) x1 (9 : Int32) (1000000000 : Int32) x2 (0 : Int32) b16_2 (((1 : Int32) + (SBG.strSizeOf x1)) - (0 : Int32)) k16_0 t8 u9 (own_at t8 (((10 : Int32) - (9 : Int32))).toNatClampNeg) T16.heap n0 o33 (by decide : (9 : Int32) < (10 : Int32)) f21 f2 hc3 f22 (by decide : (0 : Int32) = (0 : Int32)) f23 f32 f41 hc42 (by decide : ¬ (((10 : Int32) - (9 : Int32)) < (0 : Int32))) hc84 hc85 (by decide : ¬ ((1000000000 : Int32) = (0 : Int32))) hc86) hZ16 (ww hw 200 rfl) (ww hw 168 rfl) (by decide) (by decide)) (g := (mkF m 166 #[.val (.int x0), .val (.int x1), .val (.ref b16_1), .val (.int (10 : Int32))] [(.int (1000000000 : Int32)), (.int (9 : Int32)), (.int x1), (.int (10 : Int32)), (.ref b16_1)])) rfl (by rw [hml]; rfl) (argsL := [(.ref b16_1), (.int (10 : Int32)), (.int x1), (.int (9 : Int32)), (.int (1000000000 : Int32))]) (rest := []) (lenOf pd__Ljava_lang_String_IIII_Z rfl) rfl (by show 2 * 0 + _ ≤ _; exact Nat.le_of_eq rfl) (hb hby at_166) (fun _ _ => ⟨rfl, E83, (by decide : 7 + 0 ≤ _), (by decide : 65 + 0 ≤ _)⟩)
  dsimp only [Pt.U, Pt.locs, Pt.cells, Pt.slots] at X87 l87 y87 z87 st87 hQ87
  subst l87 y87 z87
  obtain ⟨rfl, N87q, E87⟩ := hQ87
  have N87 := Fr.app N83 N87q
  obtain ⟨fs, hr, hrun, hended, hend⟩ := leaveW (s := s) (vm₁ := T16.vm) X87 hS16 (by rw [E87]; exact (Nat.le_refl _)) (v := some (.int (1 : Int32))) (fun h => by rw [Bd.returns] at h; cases h)
  have hCR : CHr Z consts_1 s.vm s.heap T87.vm T87.heap := by rw [hh, E87]; exact CHr.trans R30 (CHv.at (s := s) (vm0 := T16.vm) X87 hZ16 hEL R30.1)
  refine ⟨_, _, pre0 _ ?_, hrun, hended, _, _, rfl, ?_, hCR, hend.1, hend.2.1, hend.2.2.1, hend.2.2.2.mono (by decide) (by decide)⟩
  · show Steps p.tables e below (s₁.setTop (mkF m 0 #[.val (.int x0), .unset, .unset, .unset] [])) _
    refine XS.iconst X0.here hx rfl (hb hby at_0) ?_
    refine XS.iloadN X0.here hx rfl (hb hby at_1) rfl ?_
    refine X0.ldcInt hx hown (mvT hZ (ww hw 0 rfl)) (g := (mkF m 2 #[.val (.int x0), .unset, .unset, .unset] [(.int x0), (.int (1 : Int32))])) rfl (hb hby at_2) _ ?_
    show Steps p.tables e below (s₁.setTop (mkF m 4 #[.val (.int x0), .unset, .unset, .unset] [(.int (2147483647 : Int32)), (.int x0), (.int (1 : Int32))])) _
    refine XS.iand X0.here hx rfl (hb hby at_4) rfl ?_
    refine X0.ldcInt hx hown (mvT hZ (ww hw 0 rfl)) (g := (mkF m 5 #[.val (.int x0), .unset, .unset, .unset] [(.int (x0 &&& (2147483647 : Int32))), (.int (1 : Int32))])) rfl (hb hby at_5) _ ?_
    show Steps p.tables e below (s₁.setTop (mkF m 7 #[.val (.int x0), .unset, .unset, .unset] [(.int (2147483647 : Int32)), (.int (x0 &&& (2147483647 : Int32))), (.int (1 : Int32))])) _
    refine iremM (g := (mkF m 7 #[.val (.int x0), .unset, .unset, .unset] [(.int (2147483647 : Int32)), (.int (x0 &&& (2147483647 : Int32))), (.int (1 : Int32))])) X0 hx rfl (hb hby at_7) rfl (by decide : ¬ ((2147483647 : Int32) = (0 : Int32))) ?_
    show Steps p.tables e below (s₁.setTop (mkF m 8 #[.val (.int x0), .unset, .unset, .unset] [(.int ((x0 &&& (2147483647 : Int32)) % (2147483647 : Int32))), (.int (1 : Int32))])) _
    refine XS.iadd X0.here hx rfl (hb hby at_8) rfl ?_
    show Steps p.tables e below (s₁.setTop (mkF m 9 #[.val (.int x0), .unset, .unset, .unset] [(.int ((1 : Int32) + ((x0 &&& (2147483647 : Int32)) % (2147483647 : Int32))))])) _
    rw [hq1]
    show Steps p.tables e below (s₁.setTop (mkF m 9 #[.val (.int x0), .unset, .unset, .unset] [(.int x1)])) _
    refine XS.istoreN X0.here hx rfl (hb hby at_9) rfl (l' := #[.val (.int x0), .val (.int x1), .unset, .unset]) rfl ?_
    refine XS.iloadN X0.here hx rfl (hb hby at_10) rfl ?_
    refine st16.trans ?_
    show Steps p.tables e below (T16.setTop (mkF m 14 #[.val (.int x0), .val (.int x1), .unset, .unset] [(.ref b16_0)])) _
    refine st34.trans ?_
    show Steps p.tables e below (T34.setTop (mkF m 17 #[.val (.int x0), .val (.int x1), .unset, .unset] [(.ref b16_1)])) _
    refine XS.astoreN X34.here hx rfl (hb hby at_17) rfl rfl (l' := #[.val (.int x0), .val (.int x1), .val (.ref b16_1), .unset]) rfl ?_
    refine XS.iloadN X34.here hx rfl (hb hby at_18) rfl ?_
    refine st37 _ ?_
    show Steps p.tables e below (T37.setTop (mkF m 22 #[.val (.int x0), .val (.int x1), .val (.ref b16_1), .unset] [(.int (10 : Int32))])) _
    refine XS.istoreN X37.here hx rfl (hb hby at_22) rfl (l' := #[.val (.int x0), .val (.int x1), .val (.ref b16_1), .val (.int (10 : Int32))]) rfl ?_
    refine XS.aloadN X37.here hx rfl (hb hby at_23) rfl rfl ?_
    refine st38.trans ?_
    show Steps p.tables e below (T38.setTop (mkF m 27 #[.val (.int x0), .val (.int x1), .val (.ref b16_1), .val (.int (10 : Int32))] [(.int ((((1 : Int32) + (SBG.strSizeOf x1)) - (0 : Int32)) >>> ((nar .byte (0 : Int32)) &&& 31)))])) _
    refine XS.iloadN X38.here hx rfl (hb hby at_27) rfl ?_
    refine XS.iconst X38.here hx rfl (hb hby at_28) ?_
    refine XS.iadd X38.here hx rfl (hb hby at_29) rfl ?_
    refine XS.icmpYes X38.here hx rfl (pc0 := 30) (pc' := 35) rfl (hb hby at_30) rfl (teq hc40).1 (by decide) (by decide) ?_
    show Steps p.tables e below (T38.setTop (mkF m 35 #[.val (.int x0), .val (.int x1), .val (.ref b16_1), .val (.int (10 : Int32))] [])) _
    refine XS.aloadN X38.here hx rfl (hb hby at_35) rfl rfl ?_
    refine XS.iconst X38.here hx rfl (hb hby at_36) ?_
    refine st45.trans ?_
    show Steps p.tables e below (T45.setTop (mkF m 40 #[.val (.int x0), .val (.int x1), .val (.ref b16_1), .val (.int (10 : Int32))] [(.int (nar .char (nar .char (((own_at t8 ((0 : Int32)).toNatClampNeg) &&& (255 : Int32)).toUInt32.toUInt16.toUInt32.toInt32))))])) _
    refine XS.bipush X45.here hx rfl (hb hby at_40) ?_
    refine XS.icmpYes X45.here hx rfl (pc0 := 42) (pc' := 47) rfl (hb hby at_42) rfl (teq hc47).1 (by decide) (by decide) ?_
    show Steps p.tables e below (T45.setTop (mkF m 47 #[.val (.int x0), .val (.int x1), .val (.ref b16_1), .val (.int (10 : Int32))] [])) _
    refine XS.aloadN X45.here hx rfl (hb hby at_47) rfl rfl ?_
    refine XS.iloadN X45.here hx rfl (hb hby at_48) rfl ?_
    refine XS.iloadN X45.here hx rfl (hb hby at_49) rfl ?_
    refine XS.iconst X45.here hx rfl (hb hby at_50) ?_
    show Steps p.tables e below (T45.setTop (mkF m 51 #[.val (.int x0), .val (.int x1), .val (.ref b16_1), .val (.int (10 : Int32))] [(.int (0 : Int32)), (.int x1), (.int (10 : Int32)), (.ref b16_1)])) _
    refine XS.iconst X45.here hx rfl (hb hby at_51) ?_
    refine st51 _ ?_
    show Steps p.tables e below (T51.setTop (mkF m 55 #[.val (.int x0), .val (.int x1), .val (.ref b16_1), .val (.int (10 : Int32))] [(.int (1 : Int32))])) _
    refine XS.ifNo X51.here hx rfl (hb hby at_55) rfl ((if0 _ _).trans (feq (by decide : ¬ ((1 : Int32) = (0 : Int32)))).1) ?_
    refine XS.aloadN X51.here hx rfl (hb hby at_58) rfl rfl ?_
    refine XS.iloadN X51.here hx rfl (hb hby at_59) rfl ?_
    refine XS.iloadN X51.here hx rfl (hb hby at_60) rfl ?_
    show Steps p.tables e below (T51.setTop (mkF m 61 #[.val (.int x0), .val (.int x1), .val (.ref b16_1), .val (.int (10 : Int32))] [(.int x1), (.int (10 : Int32)), (.ref b16_1)])) _
    refine XS.iconst X51.here hx rfl (hb hby at_61) ?_
    refine XS.bipush X51.here hx rfl (hb hby at_62) ?_
    refine st55 _ ?_
    show Steps p.tables e below (T55.setTop (mkF m 67 #[.val (.int x0), .val (.int x1), .val (.ref b16_1), .val (.int (10 : Int32))] [(.int (1 : Int32))])) _
    refine XS.ifNo X55.here hx rfl (hb hby at_67) rfl ((if0 _ _).trans (feq (by decide : ¬ ((1 : Int32) = (0 : Int32)))).1) ?_
    refine XS.aloadN X55.here hx rfl (hb hby at_70) rfl rfl ?_
    refine XS.iloadN X55.here hx rfl (hb hby at_71) rfl ?_
    refine XS.iloadN X55.here hx rfl (hb hby at_72) rfl ?_
    show Steps p.tables e below (T55.setTop (mkF m 73 #[.val (.int x0), .val (.int x1), .val (.ref b16_1), .val (.int (10 : Int32))] [(.int x1), (.int (10 : Int32)), (.ref b16_1)])) _
    refine XS.iconst X55.here hx rfl (hb hby at_73) ?_
    refine XS.bipush X55.here hx rfl (hb hby at_74) ?_
    refine st59 _ ?_
    show Steps p.tables e below (T59.setTop (mkF m 79 #[.val (.int x0), .val (.int x1), .val (.ref b16_1), .val (.int (10 : Int32))] [(.int (1 : Int32))])) _
    refine XS.ifNo X59.here hx rfl (hb hby at_79) rfl ((if0 _ _).trans (feq (by decide : ¬ ((1 : Int32) = (0 : Int32)))).1) ?_
    refine XS.aloadN X59.here hx rfl (hb hby at_82) rfl rfl ?_
    refine XS.iloadN X59.here hx rfl (hb hby at_83) rfl ?_
    refine XS.iloadN X59.here hx rfl (hb hby at_84) rfl ?_
    show Steps p.tables e below (T59.setTop (mkF m 85 #[.val (.int x0), .val (.int x1), .val (.ref b16_1), .val (.int (10 : Int32))] [(.int x1), (.int (10 : Int32)), (.ref b16_1)])) _
    refine XS.iconst X59.here hx rfl (hb hby at_85) ?_
    refine XS.sipush X59.here hx rfl (hb hby at_86) ?_
    refine st63 _ ?_
    show Steps p.tables e below (T63.setTop (mkF m 92 #[.val (.int x0), .val (.int x1), .val (.ref b16_1), .val (.int (10 : Int32))] [(.int (1 : Int32))])) _
    refine XS.ifNo X63.here hx rfl (hb hby at_92) rfl ((if0 _ _).trans (feq (by decide : ¬ ((1 : Int32) = (0 : Int32)))).1) ?_
    refine XS.aloadN X63.here hx rfl (hb hby at_95) rfl rfl ?_
    refine XS.iloadN X63.here hx rfl (hb hby at_96) rfl ?_
    refine XS.iloadN X63.here hx rfl (hb hby at_97) rfl ?_
    show Steps p.tables e below (T63.setTop (mkF m 98 #[.val (.int x0), .val (.int x1), .val (.ref b16_1), .val (.int (10 : Int32))] [(.int x1), (.int (10 : Int32)), (.ref b16_1)])) _
    refine XS.iconst X63.here hx rfl (hb hby at_98) ?_
    refine XS.sipush X63.here hx rfl (hb hby at_99) ?_
    refine st67 _ ?_
    show Steps p.tables e below (T67.setTop (mkF m 105 #[.val (.int x0), .val (.int x1), .val (.ref b16_1), .val (.int (10 : Int32))] [(.int (1 : Int32))])) _
    refine XS.ifNo X67.here hx rfl (hb hby at_105) rfl ((if0 _ _).trans (feq (by decide : ¬ ((1 : Int32) = (0 : Int32)))).1) ?_
    refine XS.aloadN X67.here hx rfl (hb hby at_108) rfl rfl ?_
    refine XS.iloadN X67.here hx rfl (hb hby at_109) rfl ?_
    refine XS.iloadN X67.here hx rfl (hb hby at_110) rfl ?_
    show Steps p.tables e below (T67.setTop (mkF m 111 #[.val (.int x0), .val (.int x1), .val (.ref b16_1), .val (.int (10 : Int32))] [(.int x1), (.int (10 : Int32)), (.ref b16_1)])) _
    refine XS.iconst X67.here hx rfl (hb hby at_111) ?_
    refine X67.ldcInt hx ho16 (mvT hZ16 (ww hw 174 rfl)) (g := (mkF m 112 #[.val (.int x0), .val (.int x1), .val (.ref b16_1), .val (.int (10 : Int32))] [(.int (5 : Int32)), (.int x1), (.int (10 : Int32)), (.ref b16_1)])) rfl (hb hby at_112) _ ?_
    show Steps p.tables e below (T67.setTop (mkF m 114 #[.val (.int x0), .val (.int x1), .val (.ref b16_1), .val (.int (10 : Int32))] [(.int (100000 : Int32)), (.int (5 : Int32)), (.int x1), (.int (10 : Int32)), (.ref b16_1)])) _
    refine st71 _ ?_
    show Steps p.tables e below (T71.setTop (mkF m 117 #[.val (.int x0), .val (.int x1), .val (.ref b16_1), .val (.int (10 : Int32))] [(.int (1 : Int32))])) _
    refine XS.ifNo X71.here hx rfl (hb hby at_117) rfl ((if0 _ _).trans (feq (by decide : ¬ ((1 : Int32) = (0 : Int32)))).1) ?_
    refine XS.aloadN X71.here hx rfl (hb hby at_120) rfl rfl ?_
    refine XS.iloadN X71.here hx rfl (hb hby at_121) rfl ?_
    refine XS.iloadN X71.here hx rfl (hb hby at_122) rfl ?_
    show Steps p.tables e below (T71.setTop (mkF m 123 #[.val (.int x0), .val (.int x1), .val (.ref b16_1), .val (.int (10 : Int32))] [(.int x1), (.int (10 : Int32)), (.ref b16_1)])) _
    refine XS.bipush X71.here hx rfl (hb hby at_123) ?_
    refine X71.ldcInt hx ho16 (mvT hZ16 (ww hw 173 rfl)) (g := (mkF m 125 #[.val (.int x0), .val (.int x1), .val (.ref b16_1), .val (.int (10 : Int32))] [(.int (6 : Int32)), (.int x1), (.int (10 : Int32)), (.ref b16_1)])) rfl (hb hby at_125) _ ?_
    show Steps p.tables e below (T71.setTop (mkF m 127 #[.val (.int x0), .val (.int x1), .val (.ref b16_1), .val (.int (10 : Int32))] [(.int (1000000 : Int32)), (.int (6 : Int32)), (.int x1), (.int (10 : Int32)), (.ref b16_1)])) _
    refine st75 _ ?_
    show Steps p.tables e below (T75.setTop (mkF m 130 #[.val (.int x0), .val (.int x1), .val (.ref b16_1), .val (.int (10 : Int32))] [(.int (1 : Int32))])) _
    refine XS.ifNo X75.here hx rfl (hb hby at_130) rfl ((if0 _ _).trans (feq (by decide : ¬ ((1 : Int32) = (0 : Int32)))).1) ?_
    refine XS.aloadN X75.here hx rfl (hb hby at_133) rfl rfl ?_
    refine XS.iloadN X75.here hx rfl (hb hby at_134) rfl ?_
    refine XS.iloadN X75.here hx rfl (hb hby at_135) rfl ?_
    show Steps p.tables e below (T75.setTop (mkF m 136 #[.val (.int x0), .val (.int x1), .val (.ref b16_1), .val (.int (10 : Int32))] [(.int x1), (.int (10 : Int32)), (.ref b16_1)])) _
    refine XS.bipush X75.here hx rfl (hb hby at_136) ?_
    refine X75.ldcInt hx ho16 (mvT hZ16 (ww hw 172 rfl)) (g := (mkF m 138 #[.val (.int x0), .val (.int x1), .val (.ref b16_1), .val (.int (10 : Int32))] [(.int (7 : Int32)), (.int x1), (.int (10 : Int32)), (.ref b16_1)])) rfl (hb hby at_138) _ ?_
    show Steps p.tables e below (T75.setTop (mkF m 140 #[.val (.int x0), .val (.int x1), .val (.ref b16_1), .val (.int (10 : Int32))] [(.int (10000000 : Int32)), (.int (7 : Int32)), (.int x1), (.int (10 : Int32)), (.ref b16_1)])) _
    refine st79 _ ?_
    show Steps p.tables e below (T79.setTop (mkF m 143 #[.val (.int x0), .val (.int x1), .val (.ref b16_1), .val (.int (10 : Int32))] [(.int (1 : Int32))])) _
    refine XS.ifNo X79.here hx rfl (hb hby at_143) rfl ((if0 _ _).trans (feq (by decide : ¬ ((1 : Int32) = (0 : Int32)))).1) ?_
    refine XS.aloadN X79.here hx rfl (hb hby at_146) rfl rfl ?_
    refine XS.iloadN X79.here hx rfl (hb hby at_147) rfl ?_
    refine XS.iloadN X79.here hx rfl (hb hby at_148) rfl ?_
    show Steps p.tables e below (T79.setTop (mkF m 149 #[.val (.int x0), .val (.int x1), .val (.ref b16_1), .val (.int (10 : Int32))] [(.int x1), (.int (10 : Int32)), (.ref b16_1)])) _
    refine XS.bipush X79.here hx rfl (hb hby at_149) ?_
    refine X79.ldcInt hx ho16 (mvT hZ16 (ww hw 171 rfl)) (g := (mkF m 151 #[.val (.int x0), .val (.int x1), .val (.ref b16_1), .val (.int (10 : Int32))] [(.int (8 : Int32)), (.int x1), (.int (10 : Int32)), (.ref b16_1)])) rfl (hb hby at_151) _ ?_
    show Steps p.tables e below (T79.setTop (mkF m 153 #[.val (.int x0), .val (.int x1), .val (.ref b16_1), .val (.int (10 : Int32))] [(.int (100000000 : Int32)), (.int (8 : Int32)), (.int x1), (.int (10 : Int32)), (.ref b16_1)])) _
    refine st83 _ ?_
    show Steps p.tables e below (T83.setTop (mkF m 156 #[.val (.int x0), .val (.int x1), .val (.ref b16_1), .val (.int (10 : Int32))] [(.int (1 : Int32))])) _
    refine XS.ifNo X83.here hx rfl (hb hby at_156) rfl ((if0 _ _).trans (feq (by decide : ¬ ((1 : Int32) = (0 : Int32)))).1) ?_
    refine XS.aloadN X83.here hx rfl (hb hby at_159) rfl rfl ?_
    refine XS.iloadN X83.here hx rfl (hb hby at_160) rfl ?_
    refine XS.iloadN X83.here hx rfl (hb hby at_161) rfl ?_
    show Steps p.tables e below (T83.setTop (mkF m 162 #[.val (.int x0), .val (.int x1), .val (.ref b16_1), .val (.int (10 : Int32))] [(.int x1), (.int (10 : Int32)), (.ref b16_1)])) _
    refine XS.bipush X83.here hx rfl (hb hby at_162) ?_
    refine X83.ldcInt hx ho16 (mvT hZ16 (ww hw 170 rfl)) (g := (mkF m 164 #[.val (.int x0), .val (.int x1), .val (.ref b16_1), .val (.int (10 : Int32))] [(.int (9 : Int32)), (.int x1), (.int (10 : Int32)), (.ref b16_1)])) rfl (hb hby at_164) _ ?_
    show Steps p.tables e below (T83.setTop (mkF m 166 #[.val (.int x0), .val (.int x1), .val (.ref b16_1), .val (.int (10 : Int32))] [(.int (1000000000 : Int32)), (.int (9 : Int32)), (.int x1), (.int (10 : Int32)), (.ref b16_1)])) _
    refine st87 _ ?_
    show Steps p.tables e below (T87.setTop (mkF m 169 #[.val (.int x0), .val (.int x1), .val (.ref b16_1), .val (.int (10 : Int32))] [(.int (1 : Int32))])) _
    refine XS.ifNo X87.here hx rfl (hb hby at_169) rfl ((if0 _ _).trans (feq (by decide : ¬ ((1 : Int32) = (0 : Int32)))).1) ?_
    refine XS.iconst X87.here hx rfl (hb hby at_172) ?_
    refine XS.goto X87.here hx rfl (pc0 := 173) (pc' := 177) rfl (hb hby at_173) (by decide) (by decide) ?_
    show Steps p.tables e below (T87.setTop (mkF m 177 #[.val (.int x0), .val (.int x1), .val (.ref b16_1), .val (.int (10 : Int32))] [(.int (1 : Int32))])) _
    exact retN X87 hx (t := .boolean) Bd.returns (by simp) (hb hby at_177) hr
  · show Q0_10 Z x0 x1 x2 r3 r4 d5 r6 d7 t8 u9 h0 n0 _ T87.heap _
    rw [E87]
    exact ⟨rfl, N87⟩
set_option maxRecDepth 65536 in
set_option maxHeartbeats 40000000 in
theorem comes_1 {Post : Tables → Env → Array Value → State → Outcome → State → Prop} (hpost : ∀ tb e args s v u, (limb_1_1.after args s (.returned v) u = true ∧ limb_1_2.after args s (.returned v) u = true ∧ True) → ReturnedEndW s (.returned v) u (Jvm.fieldLocs frame_1_writes args s ++ Jvm.arrayLocs frame_1_arrays args s ++ Jvm.staticLocs frame_1_statics s) 24 1216 → Post tb e args s (.returned v) u) :
    ArmFor flags0 classFile x code maxLocals ret World_1 tables_1 room_1 Calls_1 rest_1 Pre_1 Post := by
  intro l hfl _ _ p e ha hc hk s m args below hf hA hF happ hP
  obtain ⟨hcalls, hrest, hpre⟩ := hP
  obtain ⟨-, -, -, hnamed, -, -, -, hat⟩ := (Spec.applies_iff hf).mp happ
  obtain ⟨hg, hn⟩ := and_e (Cond.before_iff.mp (show (Jvm.Cond.and given_1 narrow_1).before args s = true from hpre))
  obtain ⟨g0, hg⟩ := and_e hg
  obtain ⟨w0, rfl⟩ : ∃ w0 : Value, args = #[w0] := by
    have hs : args.size = 1 := by simpa [Cond.value, given_1] using g0
    obtain ⟨L⟩ := args
    match L, hs with
    | [w0], _ => exact ⟨w0, rfl⟩
  have hw := fun d (hd : d ∈ tables_1) => atoms_spec (ws := Jvm.Cond.code x code maxLocals ret :: tables_1) hat d (List.mem_cons_of_mem _ hd)
  have hfit : Fit s := fun {y c} hc i hi => by
    obtain ⟨ha, rfl⟩ := Array.getElem?_eq_some_iff.mp hc
    have q := List.all_eq_true.mp ((Array.all_eq_true_iff_forall_mem.mp hF) _ (Array.getElem_mem ha)) i (List.mem_range.mpr hi)
    simpa [Array.getElem?_eq_getElem hi] using q
  obtain ⟨hsets, hown0⟩ := atoms_of _ (rest_1_c_eq ▸ (show rest_1_c.before _ s = true from hrest))
  have hr0 := Cond.before_iff.mp hown0
  obtain ⟨i0, ei0⟩ := is_v hg
  obtain rfl : w0 = (.int i0) := Option.some.inj ei0
  have hs := fun (n : Nat) (d : Jvm.Cond) (q : jdkStatics_1[n]? = some d) => Cond.before_iff.mp (hsets d (List.mem_of_getElem? q))
  obtain ⟨iCS, eCS⟩ := is_v (hs 1 _ rfl)
  have SCS := Sta.start eCS (Or.inl (hsets _ (List.mem_of_getElem? (i := 0) rfl)))
  have nCS : ¬ (iCS = (0 : Int32)) := gotF (Cond.eq_ints eCS (Term.int_eval (0))) (not_v (hs 2 _ rfl))
  obtain ⟨vFM, eFM, hFM⟩ := isR_v (hs 8 _ rfl)
  have SFM := Sta.start eFM (Or.inl (hsets _ (List.mem_of_getElem? (i := 7) rfl)))
  obtain ⟨rst, rd1, cD1, rd2, cD2, hTB⟩ := own_TB_start hfit (ww hw 24 rfl) (ww hw 96 rfl) (hsets _ (List.mem_of_getElem? (i := 10) rfl)) (hsets _ (List.mem_of_getElem? (i := 12) rfl)) (hsets _ (List.mem_of_getElem? (i := 13) rfl)) (hsets _ (List.mem_of_getElem? (i := 14) rfl)) (hsets _ (List.mem_of_getElem? (i := 15) rfl)) (hsets _ (List.mem_of_getElem? (i := 17) rfl)) (hsets _ (List.mem_of_getElem? (i := 18) rfl)) (hsets _ (List.mem_of_getElem? (i := 19) rfl))
  have hcw : Jvm.Lit.compactW.before _ s = true := (hsets _ (List.mem_of_getElem? (i := 2) rfl))
  suffices hM : MetFree l x (head1 (Jvm.Cond.code x code maxLocals ret :: tables_1) room_1) (fun a U => a = #[(.int i0)] ∧ s.Warmed39 U.vm ∧ U.heap = s.heap ∧ CHv s consts_1 U.vm s.heap) (fun _ _ _ _ _ => True) (fun _ U o U' => ∃ v L, o = .returned v ∧ (v = some (.int (1 : Int32)) ∧ Fr s.heap.size L) ∧ CHr s consts_1 U.vm U.heap U'.vm U'.heap ∧ ReturnedEndW U o U' L room_1.cells room_1.slots) by
    obtain ⟨n, o, h1, h2, h3, _, L, rfl, ⟨rfl, N⟩, -, hq⟩ := hM p e ha hc hk s m _ below hf ((Spec.applies_iff_loose hf).mp happ).1 ⟨rfl, State.Warmed39.refl s, rfl, CHv.start (own_EW hw) (fun p hp => hcalls.1 p hp) hcw (ww hw 24 rfl) (ww hw 30 rfl)⟩ trivial
    refine ⟨n, _, h1, h2, h3, hpost _ _ _ _ _ _ ⟨Cond.after_iff.mpr rfl, Cond.after_iff.mpr (eq_i res_at (Term.int_eval (1)) rfl), trivial⟩ ⟨hq.1, hq.2.1, hq.2.2.1, (hq.2.2.2.sift fun y hy => Or.inr (N y hy)).mono (by decide) (by decide)⟩⟩
  have hp := own_p1 i0
  obtain ⟨p, hpe⟩ : ∃ p, ((1 : Int32) + ((i0 &&& (2147483647 : Int32)) % (2147483647 : Int32))) = p := ⟨_, rfl⟩
  rw [hpe] at hp
  have q0 : ∀ k : Nat, k < 2 ^ 31 → (p < Int32.ofNat k ↔ p.toInt < k) := fun k hk => own_ltI p k hk
  have hmx := Int32.toInt_lt p
  by_cases c9 : p < (1000000000 : Int32)
  rotate_left
  · have hd : SBG.digits p.toInt.toNat = 10 := by
      have b9 : ¬ (p.toInt < ((1000000000 : Nat) : Int)) := fun q => c9 ((q0 1000000000 (by decide)).mpr q)
      unfold SBG.digits
      repeat' split
      all_goals omega
    obtain ⟨hS, hO⟩ := own_size_pos hp hd
    have hr := own_rt hp hd (by decide) (by decide) (vs := [(.int 63), (.int 0), (.int 0), (.int 0), (.int 0), (.int 0), (.int 0), (.int 0), (.int 0), (.int 0), (.int 0), (.int 0), (.int 0), (.int 0), (.int 0), (.int 0)]) rfl
    obtain ⟨t, ht⟩ : ∃ t, (own_us [(.int 63), (.int 0), (.int 0), (.int 0), (.int 0), (.int 0), (.int 0), (.int 0), (.int 0), (.int 0), (.int 0), (.int 0), (.int 0), (.int 0), (.int 0), (.int 0)] (.int 0) ((16 : Int32)).toNatClampNeg p (((1 : Int32) + (SBG.strSizeOf p))).toNatClampNeg) = t := ⟨_, rfl⟩
    have et : t = (own_us [(.int 63), (.int 0), (.int 0), (.int 0), (.int 0), (.int 0), (.int 0), (.int 0), (.int 0), (.int 0), (.int 0), (.int 0), (.int 0), (.int 0), (.int 0), (.int 0)] (.int 0) 16 p (1 + 10)) := by rw [← ht, hS]; rfl
    rw [← et] at hr
    exact rm0_10 l s _ hw tables_1 i0 p iCS rst rd1 cD1 rd2 cD2 t vFM _ _ (Old.start s) hpe SCS nCS (by rw [hS]; decide) hTB (by rw [hS]; decide) (by rw [hS]; decide) (by rw [hS, hO]; decide) (by rw [hS]; decide) (by rw [hS]; decide) (by rw [hS]; decide) (by rw [hS]; decide) (by rw [hS]; decide) (by rw [hS]; decide) ht c9 (by rw [hS]; decide) SFM hFM (by rw [hS]; decide) (own_self hr.1).1 (by have q := (own_self hr.1).2; show nar .char (nar .char (((own_at t 0) &&& (255 : Int32)).toUInt32.toUInt16.toUInt32.toInt32)) = 63; rw [q]; decide) (by rw [hS]; decide) (own_self (hr.2 10 (by decide) (by decide))).1 (own_chk hp 0 (by decide) (own_self (hr.2 10 (by decide) (by decide))).2) (by rw [hS]; decide) (own_self (hr.2 9 (by decide) (by decide))).1 (own_chk hp 1 (by decide) (own_self (hr.2 9 (by decide) (by decide))).2) (by rw [hS]; decide) (own_self (hr.2 8 (by decide) (by decide))).1 (own_chk hp 2 (by decide) (own_self (hr.2 8 (by decide) (by decide))).2) (by rw [hS]; decide) (own_self (hr.2 7 (by decide) (by decide))).1 (own_chk hp 3 (by decide) (own_self (hr.2 7 (by decide) (by decide))).2) (by rw [hS]; decide) (own_self (hr.2 6 (by decide) (by decide))).1 (own_chk hp 4 (by decide) (own_self (hr.2 6 (by decide) (by decide))).2) (by rw [hS]; decide) (own_self (hr.2 5 (by decide) (by decide))).1 (own_chk hp 5 (by decide) (own_self (hr.2 5 (by decide) (by decide))).2) (by rw [hS]; decide) (own_self (hr.2 4 (by decide) (by decide))).1 (own_chk hp 6 (by decide) (own_self (hr.2 4 (by decide) (by decide))).2) (by rw [hS]; decide) (own_self (hr.2 3 (by decide) (by decide))).1 (own_chk hp 7 (by decide) (own_self (hr.2 3 (by decide) (by decide))).2) (by rw [hS]; decide) (own_self (hr.2 2 (by decide) (by decide))).1 (own_chk hp 8 (by decide) (own_self (hr.2 2 (by decide) (by decide))).2) (by rw [hS]; decide) (own_self (hr.2 1 (by decide) (by decide))).1 (own_chk hp 9 (by decide) (own_self (hr.2 1 (by decide) (by decide))).2)
  by_cases c8 : p < (100000000 : Int32)
  rotate_left
  · have hd : SBG.digits p.toInt.toNat = 9 := by
      have b8 : ¬ (p.toInt < ((100000000 : Nat) : Int)) := fun q => c8 ((q0 100000000 (by decide)).mpr q)
      have b9 := (q0 1000000000 (by decide)).mp c9
      unfold SBG.digits
      repeat' split
      all_goals omega
    obtain ⟨hS, hO⟩ := own_size_pos hp hd
    have hr := own_rt hp hd (by decide) (by decide) (vs := [(.int 63), (.int 0), (.int 0), (.int 0), (.int 0), (.int 0), (.int 0), (.int 0), (.int 0), (.int 0), (.int 0), (.int 0), (.int 0), (.int 0), (.int 0), (.int 0)]) rfl
    obtain ⟨t, ht⟩ : ∃ t, (own_us [(.int 63), (.int 0), (.int 0), (.int 0), (.int 0), (.int 0), (.int 0), (.int 0), (.int 0), (.int 0), (.int 0), (.int 0), (.int 0), (.int 0), (.int 0), (.int 0)] (.int 0) ((16 : Int32)).toNatClampNeg p (((1 : Int32) + (SBG.strSizeOf p))).toNatClampNeg) = t := ⟨_, rfl⟩
    have et : t = (own_us [(.int 63), (.int 0), (.int 0), (.int 0), (.int 0), (.int 0), (.int 0), (.int 0), (.int 0), (.int 0), (.int 0), (.int 0), (.int 0), (.int 0), (.int 0), (.int 0)] (.int 0) 16 p (1 + 9)) := by rw [← ht, hS]; rfl
    rw [← et] at hr
    exact rm0_9 l s _ hw tables_1 i0 p iCS rst rd1 cD1 rd2 cD2 t vFM _ _ (Old.start s) hpe SCS nCS (by rw [hS]; decide) hTB (by rw [hS]; decide) (by rw [hS]; decide) (by rw [hS, hO]; decide) (by rw [hS]; decide) (by rw [hS]; decide) (by rw [hS]; decide) (by rw [hS]; decide) (by rw [hS]; decide) (by rw [hS]; decide) ht c9 c8 (by rw [hS]; decide) SFM hFM (by rw [hS]; decide) (own_self hr.1).1 (by have q := (own_self hr.1).2; show nar .char (nar .char (((own_at t 0) &&& (255 : Int32)).toUInt32.toUInt16.toUInt32.toInt32)) = 63; rw [q]; decide) (by rw [hS]; decide) (own_self (hr.2 9 (by decide) (by decide))).1 (own_chk hp 0 (by decide) (own_self (hr.2 9 (by decide) (by decide))).2) (by rw [hS]; decide) (own_self (hr.2 8 (by decide) (by decide))).1 (own_chk hp 1 (by decide) (own_self (hr.2 8 (by decide) (by decide))).2) (by rw [hS]; decide) (own_self (hr.2 7 (by decide) (by decide))).1 (own_chk hp 2 (by decide) (own_self (hr.2 7 (by decide) (by decide))).2) (by rw [hS]; decide) (own_self (hr.2 6 (by decide) (by decide))).1 (own_chk hp 3 (by decide) (own_self (hr.2 6 (by decide) (by decide))).2) (by rw [hS]; decide) (own_self (hr.2 5 (by decide) (by decide))).1 (own_chk hp 4 (by decide) (own_self (hr.2 5 (by decide) (by decide))).2) (by rw [hS]; decide) (own_self (hr.2 4 (by decide) (by decide))).1 (own_chk hp 5 (by decide) (own_self (hr.2 4 (by decide) (by decide))).2) (by rw [hS]; decide) (own_self (hr.2 3 (by decide) (by decide))).1 (own_chk hp 6 (by decide) (own_self (hr.2 3 (by decide) (by decide))).2) (by rw [hS]; decide) (own_self (hr.2 2 (by decide) (by decide))).1 (own_chk hp 7 (by decide) (own_self (hr.2 2 (by decide) (by decide))).2) (by rw [hS]; decide) (own_self (hr.2 1 (by decide) (by decide))).1 (own_chk hp 8 (by decide) (own_self (hr.2 1 (by decide) (by decide))).2)
  by_cases c7 : p < (10000000 : Int32)
  rotate_left
  · have hd : SBG.digits p.toInt.toNat = 8 := by
      have b7 : ¬ (p.toInt < ((10000000 : Nat) : Int)) := fun q => c7 ((q0 10000000 (by decide)).mpr q)
      have b8 := (q0 100000000 (by decide)).mp c8
      unfold SBG.digits
      repeat' split
      all_goals omega
    obtain ⟨hS, hO⟩ := own_size_pos hp hd
    have hr := own_rt hp hd (by decide) (by decide) (vs := [(.int 63), (.int 0), (.int 0), (.int 0), (.int 0), (.int 0), (.int 0), (.int 0), (.int 0), (.int 0), (.int 0), (.int 0), (.int 0), (.int 0), (.int 0), (.int 0)]) rfl
    obtain ⟨t, ht⟩ : ∃ t, (own_us [(.int 63), (.int 0), (.int 0), (.int 0), (.int 0), (.int 0), (.int 0), (.int 0), (.int 0), (.int 0), (.int 0), (.int 0), (.int 0), (.int 0), (.int 0), (.int 0)] (.int 0) ((16 : Int32)).toNatClampNeg p (((1 : Int32) + (SBG.strSizeOf p))).toNatClampNeg) = t := ⟨_, rfl⟩
    have et : t = (own_us [(.int 63), (.int 0), (.int 0), (.int 0), (.int 0), (.int 0), (.int 0), (.int 0), (.int 0), (.int 0), (.int 0), (.int 0), (.int 0), (.int 0), (.int 0), (.int 0)] (.int 0) 16 p (1 + 8)) := by rw [← ht, hS]; rfl
    rw [← et] at hr
    exact rm0_8 l s _ hw tables_1 i0 p iCS rst rd1 cD1 rd2 cD2 t vFM _ _ (Old.start s) hpe SCS nCS (by rw [hS]; decide) hTB (by rw [hS]; decide) (by rw [hS]; decide) (by rw [hS, hO]; decide) (by rw [hS]; decide) (by rw [hS]; decide) (by rw [hS]; decide) (by rw [hS]; decide) (by rw [hS]; decide) (by rw [hS]; decide) ht c9 c8 c7 (by rw [hS]; decide) SFM hFM (by rw [hS]; decide) (own_self hr.1).1 (by have q := (own_self hr.1).2; show nar .char (nar .char (((own_at t 0) &&& (255 : Int32)).toUInt32.toUInt16.toUInt32.toInt32)) = 63; rw [q]; decide) (by rw [hS]; decide) (own_self (hr.2 8 (by decide) (by decide))).1 (own_chk hp 0 (by decide) (own_self (hr.2 8 (by decide) (by decide))).2) (by rw [hS]; decide) (own_self (hr.2 7 (by decide) (by decide))).1 (own_chk hp 1 (by decide) (own_self (hr.2 7 (by decide) (by decide))).2) (by rw [hS]; decide) (own_self (hr.2 6 (by decide) (by decide))).1 (own_chk hp 2 (by decide) (own_self (hr.2 6 (by decide) (by decide))).2) (by rw [hS]; decide) (own_self (hr.2 5 (by decide) (by decide))).1 (own_chk hp 3 (by decide) (own_self (hr.2 5 (by decide) (by decide))).2) (by rw [hS]; decide) (own_self (hr.2 4 (by decide) (by decide))).1 (own_chk hp 4 (by decide) (own_self (hr.2 4 (by decide) (by decide))).2) (by rw [hS]; decide) (own_self (hr.2 3 (by decide) (by decide))).1 (own_chk hp 5 (by decide) (own_self (hr.2 3 (by decide) (by decide))).2) (by rw [hS]; decide) (own_self (hr.2 2 (by decide) (by decide))).1 (own_chk hp 6 (by decide) (own_self (hr.2 2 (by decide) (by decide))).2) (by rw [hS]; decide) (own_self (hr.2 1 (by decide) (by decide))).1 (own_chk hp 7 (by decide) (own_self (hr.2 1 (by decide) (by decide))).2)
  by_cases c6 : p < (1000000 : Int32)
  rotate_left
  · have hd : SBG.digits p.toInt.toNat = 7 := by
      have b6 : ¬ (p.toInt < ((1000000 : Nat) : Int)) := fun q => c6 ((q0 1000000 (by decide)).mpr q)
      have b7 := (q0 10000000 (by decide)).mp c7
      unfold SBG.digits
      repeat' split
      all_goals omega
    obtain ⟨hS, hO⟩ := own_size_pos hp hd
    have hr := own_rt hp hd (by decide) (by decide) (vs := [(.int 63), (.int 0), (.int 0), (.int 0), (.int 0), (.int 0), (.int 0), (.int 0), (.int 0), (.int 0), (.int 0), (.int 0), (.int 0), (.int 0), (.int 0), (.int 0)]) rfl
    obtain ⟨t, ht⟩ : ∃ t, (own_us [(.int 63), (.int 0), (.int 0), (.int 0), (.int 0), (.int 0), (.int 0), (.int 0), (.int 0), (.int 0), (.int 0), (.int 0), (.int 0), (.int 0), (.int 0), (.int 0)] (.int 0) ((16 : Int32)).toNatClampNeg p (((1 : Int32) + (SBG.strSizeOf p))).toNatClampNeg) = t := ⟨_, rfl⟩
    have et : t = (own_us [(.int 63), (.int 0), (.int 0), (.int 0), (.int 0), (.int 0), (.int 0), (.int 0), (.int 0), (.int 0), (.int 0), (.int 0), (.int 0), (.int 0), (.int 0), (.int 0)] (.int 0) 16 p (1 + 7)) := by rw [← ht, hS]; rfl
    rw [← et] at hr
    exact rm0_7 l s _ hw tables_1 i0 p iCS rst rd1 cD1 rd2 cD2 t vFM _ _ (Old.start s) hpe SCS nCS (by rw [hS]; decide) hTB (by rw [hS]; decide) (by rw [hS]; decide) (by rw [hS, hO]; decide) (by rw [hS]; decide) (by rw [hS]; decide) (by rw [hS]; decide) (by rw [hS]; decide) (by rw [hS]; decide) (by rw [hS]; decide) ht c9 c8 c7 c6 (by rw [hS]; decide) SFM hFM (by rw [hS]; decide) (own_self hr.1).1 (by have q := (own_self hr.1).2; show nar .char (nar .char (((own_at t 0) &&& (255 : Int32)).toUInt32.toUInt16.toUInt32.toInt32)) = 63; rw [q]; decide) (by rw [hS]; decide) (own_self (hr.2 7 (by decide) (by decide))).1 (own_chk hp 0 (by decide) (own_self (hr.2 7 (by decide) (by decide))).2) (by rw [hS]; decide) (own_self (hr.2 6 (by decide) (by decide))).1 (own_chk hp 1 (by decide) (own_self (hr.2 6 (by decide) (by decide))).2) (by rw [hS]; decide) (own_self (hr.2 5 (by decide) (by decide))).1 (own_chk hp 2 (by decide) (own_self (hr.2 5 (by decide) (by decide))).2) (by rw [hS]; decide) (own_self (hr.2 4 (by decide) (by decide))).1 (own_chk hp 3 (by decide) (own_self (hr.2 4 (by decide) (by decide))).2) (by rw [hS]; decide) (own_self (hr.2 3 (by decide) (by decide))).1 (own_chk hp 4 (by decide) (own_self (hr.2 3 (by decide) (by decide))).2) (by rw [hS]; decide) (own_self (hr.2 2 (by decide) (by decide))).1 (own_chk hp 5 (by decide) (own_self (hr.2 2 (by decide) (by decide))).2) (by rw [hS]; decide) (own_self (hr.2 1 (by decide) (by decide))).1 (own_chk hp 6 (by decide) (own_self (hr.2 1 (by decide) (by decide))).2)
  by_cases c5 : p < (100000 : Int32)
  rotate_left
  · have hd : SBG.digits p.toInt.toNat = 6 := by
      have b5 : ¬ (p.toInt < ((100000 : Nat) : Int)) := fun q => c5 ((q0 100000 (by decide)).mpr q)
      have b6 := (q0 1000000 (by decide)).mp c6
      unfold SBG.digits
      repeat' split
      all_goals omega
    obtain ⟨hS, hO⟩ := own_size_pos hp hd
    have hr := own_rt hp hd (by decide) (by decide) (vs := [(.int 63), (.int 0), (.int 0), (.int 0), (.int 0), (.int 0), (.int 0), (.int 0), (.int 0), (.int 0), (.int 0), (.int 0), (.int 0), (.int 0), (.int 0), (.int 0)]) rfl
    obtain ⟨t, ht⟩ : ∃ t, (own_us [(.int 63), (.int 0), (.int 0), (.int 0), (.int 0), (.int 0), (.int 0), (.int 0), (.int 0), (.int 0), (.int 0), (.int 0), (.int 0), (.int 0), (.int 0), (.int 0)] (.int 0) ((16 : Int32)).toNatClampNeg p (((1 : Int32) + (SBG.strSizeOf p))).toNatClampNeg) = t := ⟨_, rfl⟩
    have et : t = (own_us [(.int 63), (.int 0), (.int 0), (.int 0), (.int 0), (.int 0), (.int 0), (.int 0), (.int 0), (.int 0), (.int 0), (.int 0), (.int 0), (.int 0), (.int 0), (.int 0)] (.int 0) 16 p (1 + 6)) := by rw [← ht, hS]; rfl
    rw [← et] at hr
    exact rm0_6 l s _ hw tables_1 i0 p iCS rst rd1 cD1 rd2 cD2 t vFM _ _ (Old.start s) hpe SCS nCS (by rw [hS]; decide) hTB (by rw [hS]; decide) (by rw [hS]; decide) (by rw [hS, hO]; decide) (by rw [hS]; decide) (by rw [hS]; decide) (by rw [hS]; decide) (by rw [hS]; decide) (by rw [hS]; decide) (by rw [hS]; decide) ht c9 c8 c7 c6 c5 (by rw [hS]; decide) SFM hFM (by rw [hS]; decide) (own_self hr.1).1 (by have q := (own_self hr.1).2; show nar .char (nar .char (((own_at t 0) &&& (255 : Int32)).toUInt32.toUInt16.toUInt32.toInt32)) = 63; rw [q]; decide) (by rw [hS]; decide) (own_self (hr.2 6 (by decide) (by decide))).1 (own_chk hp 0 (by decide) (own_self (hr.2 6 (by decide) (by decide))).2) (by rw [hS]; decide) (own_self (hr.2 5 (by decide) (by decide))).1 (own_chk hp 1 (by decide) (own_self (hr.2 5 (by decide) (by decide))).2) (by rw [hS]; decide) (own_self (hr.2 4 (by decide) (by decide))).1 (own_chk hp 2 (by decide) (own_self (hr.2 4 (by decide) (by decide))).2) (by rw [hS]; decide) (own_self (hr.2 3 (by decide) (by decide))).1 (own_chk hp 3 (by decide) (own_self (hr.2 3 (by decide) (by decide))).2) (by rw [hS]; decide) (own_self (hr.2 2 (by decide) (by decide))).1 (own_chk hp 4 (by decide) (own_self (hr.2 2 (by decide) (by decide))).2) (by rw [hS]; decide) (own_self (hr.2 1 (by decide) (by decide))).1 (own_chk hp 5 (by decide) (own_self (hr.2 1 (by decide) (by decide))).2)
  by_cases c4 : p < (10000 : Int32)
  rotate_left
  · have hd : SBG.digits p.toInt.toNat = 5 := by
      have b4 : ¬ (p.toInt < ((10000 : Nat) : Int)) := fun q => c4 ((q0 10000 (by decide)).mpr q)
      have b5 := (q0 100000 (by decide)).mp c5
      unfold SBG.digits
      repeat' split
      all_goals omega
    obtain ⟨hS, hO⟩ := own_size_pos hp hd
    have hr := own_rt hp hd (by decide) (by decide) (vs := [(.int 63), (.int 0), (.int 0), (.int 0), (.int 0), (.int 0), (.int 0), (.int 0), (.int 0), (.int 0), (.int 0), (.int 0), (.int 0), (.int 0), (.int 0), (.int 0)]) rfl
    obtain ⟨t, ht⟩ : ∃ t, (own_us [(.int 63), (.int 0), (.int 0), (.int 0), (.int 0), (.int 0), (.int 0), (.int 0), (.int 0), (.int 0), (.int 0), (.int 0), (.int 0), (.int 0), (.int 0), (.int 0)] (.int 0) ((16 : Int32)).toNatClampNeg p (((1 : Int32) + (SBG.strSizeOf p))).toNatClampNeg) = t := ⟨_, rfl⟩
    have et : t = (own_us [(.int 63), (.int 0), (.int 0), (.int 0), (.int 0), (.int 0), (.int 0), (.int 0), (.int 0), (.int 0), (.int 0), (.int 0), (.int 0), (.int 0), (.int 0), (.int 0)] (.int 0) 16 p (1 + 5)) := by rw [← ht, hS]; rfl
    rw [← et] at hr
    exact rm0_5 l s _ hw tables_1 i0 p iCS rst rd1 cD1 rd2 cD2 t vFM _ _ (Old.start s) hpe SCS nCS (by rw [hS]; decide) hTB (by rw [hS]; decide) (by rw [hS]; decide) (by rw [hS, hO]; decide) (by rw [hS]; decide) (by rw [hS]; decide) (by rw [hS]; decide) (by rw [hS]; decide) (by rw [hS]; decide) (by rw [hS]; decide) ht c9 c8 c7 c6 c5 c4 (by rw [hS]; decide) SFM hFM (by rw [hS]; decide) (own_self hr.1).1 (by have q := (own_self hr.1).2; show nar .char (nar .char (((own_at t 0) &&& (255 : Int32)).toUInt32.toUInt16.toUInt32.toInt32)) = 63; rw [q]; decide) (by rw [hS]; decide) (own_self (hr.2 5 (by decide) (by decide))).1 (own_chk hp 0 (by decide) (own_self (hr.2 5 (by decide) (by decide))).2) (by rw [hS]; decide) (own_self (hr.2 4 (by decide) (by decide))).1 (own_chk hp 1 (by decide) (own_self (hr.2 4 (by decide) (by decide))).2) (by rw [hS]; decide) (own_self (hr.2 3 (by decide) (by decide))).1 (own_chk hp 2 (by decide) (own_self (hr.2 3 (by decide) (by decide))).2) (by rw [hS]; decide) (own_self (hr.2 2 (by decide) (by decide))).1 (own_chk hp 3 (by decide) (own_self (hr.2 2 (by decide) (by decide))).2) (by rw [hS]; decide) (own_self (hr.2 1 (by decide) (by decide))).1 (own_chk hp 4 (by decide) (own_self (hr.2 1 (by decide) (by decide))).2)
  by_cases c3 : p < (1000 : Int32)
  rotate_left
  · have hd : SBG.digits p.toInt.toNat = 4 := by
      have b3 : ¬ (p.toInt < ((1000 : Nat) : Int)) := fun q => c3 ((q0 1000 (by decide)).mpr q)
      have b4 := (q0 10000 (by decide)).mp c4
      unfold SBG.digits
      repeat' split
      all_goals omega
    obtain ⟨hS, hO⟩ := own_size_pos hp hd
    have hr := own_rt hp hd (by decide) (by decide) (vs := [(.int 63), (.int 0), (.int 0), (.int 0), (.int 0), (.int 0), (.int 0), (.int 0), (.int 0), (.int 0), (.int 0), (.int 0), (.int 0), (.int 0), (.int 0), (.int 0)]) rfl
    obtain ⟨t, ht⟩ : ∃ t, (own_us [(.int 63), (.int 0), (.int 0), (.int 0), (.int 0), (.int 0), (.int 0), (.int 0), (.int 0), (.int 0), (.int 0), (.int 0), (.int 0), (.int 0), (.int 0), (.int 0)] (.int 0) ((16 : Int32)).toNatClampNeg p (((1 : Int32) + (SBG.strSizeOf p))).toNatClampNeg) = t := ⟨_, rfl⟩
    have et : t = (own_us [(.int 63), (.int 0), (.int 0), (.int 0), (.int 0), (.int 0), (.int 0), (.int 0), (.int 0), (.int 0), (.int 0), (.int 0), (.int 0), (.int 0), (.int 0), (.int 0)] (.int 0) 16 p (1 + 4)) := by rw [← ht, hS]; rfl
    rw [← et] at hr
    exact rm0_4 l s _ hw tables_1 i0 p iCS rst rd1 cD1 rd2 cD2 t vFM _ _ (Old.start s) hpe SCS nCS (by rw [hS]; decide) hTB (by rw [hS]; decide) (by rw [hS]; decide) (by rw [hS, hO]; decide) (by rw [hS]; decide) (by rw [hS]; decide) (by rw [hS]; decide) (by rw [hS]; decide) (by rw [hS]; decide) (by rw [hS]; decide) ht c9 c8 c7 c6 c5 c4 c3 (by rw [hS]; decide) SFM hFM (by rw [hS]; decide) (own_self hr.1).1 (by have q := (own_self hr.1).2; show nar .char (nar .char (((own_at t 0) &&& (255 : Int32)).toUInt32.toUInt16.toUInt32.toInt32)) = 63; rw [q]; decide) (by rw [hS]; decide) (own_self (hr.2 4 (by decide) (by decide))).1 (own_chk hp 0 (by decide) (own_self (hr.2 4 (by decide) (by decide))).2) (by rw [hS]; decide) (own_self (hr.2 3 (by decide) (by decide))).1 (own_chk hp 1 (by decide) (own_self (hr.2 3 (by decide) (by decide))).2) (by rw [hS]; decide) (own_self (hr.2 2 (by decide) (by decide))).1 (own_chk hp 2 (by decide) (own_self (hr.2 2 (by decide) (by decide))).2) (by rw [hS]; decide) (own_self (hr.2 1 (by decide) (by decide))).1 (own_chk hp 3 (by decide) (own_self (hr.2 1 (by decide) (by decide))).2)
  by_cases c2 : p < (100 : Int32)
  rotate_left
  · have hd : SBG.digits p.toInt.toNat = 3 := by
      have b2 : ¬ (p.toInt < ((100 : Nat) : Int)) := fun q => c2 ((q0 100 (by decide)).mpr q)
      have b3 := (q0 1000 (by decide)).mp c3
      unfold SBG.digits
      repeat' split
      all_goals omega
    obtain ⟨hS, hO⟩ := own_size_pos hp hd
    have hr := own_rt hp hd (by decide) (by decide) (vs := [(.int 63), (.int 0), (.int 0), (.int 0), (.int 0), (.int 0), (.int 0), (.int 0), (.int 0), (.int 0), (.int 0), (.int 0), (.int 0), (.int 0), (.int 0), (.int 0)]) rfl
    obtain ⟨t, ht⟩ : ∃ t, (own_us [(.int 63), (.int 0), (.int 0), (.int 0), (.int 0), (.int 0), (.int 0), (.int 0), (.int 0), (.int 0), (.int 0), (.int 0), (.int 0), (.int 0), (.int 0), (.int 0)] (.int 0) ((16 : Int32)).toNatClampNeg p (((1 : Int32) + (SBG.strSizeOf p))).toNatClampNeg) = t := ⟨_, rfl⟩
    have et : t = (own_us [(.int 63), (.int 0), (.int 0), (.int 0), (.int 0), (.int 0), (.int 0), (.int 0), (.int 0), (.int 0), (.int 0), (.int 0), (.int 0), (.int 0), (.int 0), (.int 0)] (.int 0) 16 p (1 + 3)) := by rw [← ht, hS]; rfl
    rw [← et] at hr
    exact rm0_3 l s _ hw tables_1 i0 p iCS rst rd1 cD1 rd2 cD2 t vFM _ _ (Old.start s) hpe SCS nCS (by rw [hS]; decide) hTB (by rw [hS]; decide) (by rw [hS]; decide) (by rw [hS, hO]; decide) (by rw [hS]; decide) (by rw [hS]; decide) (by rw [hS]; decide) (by rw [hS]; decide) (by rw [hS]; decide) (by rw [hS]; decide) ht c9 c8 c7 c6 c5 c4 c3 c2 (by rw [hS]; decide) SFM hFM (by rw [hS]; decide) (own_self hr.1).1 (by have q := (own_self hr.1).2; show nar .char (nar .char (((own_at t 0) &&& (255 : Int32)).toUInt32.toUInt16.toUInt32.toInt32)) = 63; rw [q]; decide) (by rw [hS]; decide) (own_self (hr.2 3 (by decide) (by decide))).1 (own_chk hp 0 (by decide) (own_self (hr.2 3 (by decide) (by decide))).2) (by rw [hS]; decide) (own_self (hr.2 2 (by decide) (by decide))).1 (own_chk hp 1 (by decide) (own_self (hr.2 2 (by decide) (by decide))).2) (by rw [hS]; decide) (own_self (hr.2 1 (by decide) (by decide))).1 (own_chk hp 2 (by decide) (own_self (hr.2 1 (by decide) (by decide))).2)
  by_cases c1 : p < (10 : Int32)
  rotate_left
  · have hd : SBG.digits p.toInt.toNat = 2 := by
      have b1 : ¬ (p.toInt < ((10 : Nat) : Int)) := fun q => c1 ((q0 10 (by decide)).mpr q)
      have b2 := (q0 100 (by decide)).mp c2
      unfold SBG.digits
      repeat' split
      all_goals omega
    obtain ⟨hS, hO⟩ := own_size_pos hp hd
    have hr := own_rt hp hd (by decide) (by decide) (vs := [(.int 63), (.int 0), (.int 0), (.int 0), (.int 0), (.int 0), (.int 0), (.int 0), (.int 0), (.int 0), (.int 0), (.int 0), (.int 0), (.int 0), (.int 0), (.int 0)]) rfl
    obtain ⟨t, ht⟩ : ∃ t, (own_us [(.int 63), (.int 0), (.int 0), (.int 0), (.int 0), (.int 0), (.int 0), (.int 0), (.int 0), (.int 0), (.int 0), (.int 0), (.int 0), (.int 0), (.int 0), (.int 0)] (.int 0) ((16 : Int32)).toNatClampNeg p (((1 : Int32) + (SBG.strSizeOf p))).toNatClampNeg) = t := ⟨_, rfl⟩
    have et : t = (own_us [(.int 63), (.int 0), (.int 0), (.int 0), (.int 0), (.int 0), (.int 0), (.int 0), (.int 0), (.int 0), (.int 0), (.int 0), (.int 0), (.int 0), (.int 0), (.int 0)] (.int 0) 16 p (1 + 2)) := by rw [← ht, hS]; rfl
    rw [← et] at hr
    exact rm0_2 l s _ hw tables_1 i0 p iCS rst rd1 cD1 rd2 cD2 t vFM _ _ (Old.start s) hpe SCS nCS (by rw [hS]; decide) hTB (by rw [hS]; decide) (by rw [hS]; decide) (by rw [hS, hO]; decide) (by rw [hS]; decide) (by rw [hS]; decide) (by rw [hS]; decide) (by rw [hS]; decide) (by rw [hS]; decide) (by rw [hS]; decide) ht c9 c8 c7 c6 c5 c4 c3 c2 c1 (by rw [hS]; decide) SFM hFM (by rw [hS]; decide) (own_self hr.1).1 (by have q := (own_self hr.1).2; show nar .char (nar .char (((own_at t 0) &&& (255 : Int32)).toUInt32.toUInt16.toUInt32.toInt32)) = 63; rw [q]; decide) (by rw [hS]; decide) (own_self (hr.2 2 (by decide) (by decide))).1 (own_chk hp 0 (by decide) (own_self (hr.2 2 (by decide) (by decide))).2) (by rw [hS]; decide) (own_self (hr.2 1 (by decide) (by decide))).1 (own_chk hp 1 (by decide) (own_self (hr.2 1 (by decide) (by decide))).2)
  have hd : SBG.digits p.toInt.toNat = 1 := by
    have b1 := (q0 10 (by decide)).mp c1
    unfold SBG.digits
    repeat' split
    all_goals omega
  obtain ⟨hS, hO⟩ := own_size_pos hp hd
  have hr := own_rt hp hd (by decide) (by decide) (vs := [(.int 63), (.int 0), (.int 0), (.int 0), (.int 0), (.int 0), (.int 0), (.int 0), (.int 0), (.int 0), (.int 0), (.int 0), (.int 0), (.int 0), (.int 0), (.int 0)]) rfl
  obtain ⟨t, ht⟩ : ∃ t, (own_us [(.int 63), (.int 0), (.int 0), (.int 0), (.int 0), (.int 0), (.int 0), (.int 0), (.int 0), (.int 0), (.int 0), (.int 0), (.int 0), (.int 0), (.int 0), (.int 0)] (.int 0) ((16 : Int32)).toNatClampNeg p (((1 : Int32) + (SBG.strSizeOf p))).toNatClampNeg) = t := ⟨_, rfl⟩
  have et : t = (own_us [(.int 63), (.int 0), (.int 0), (.int 0), (.int 0), (.int 0), (.int 0), (.int 0), (.int 0), (.int 0), (.int 0), (.int 0), (.int 0), (.int 0), (.int 0), (.int 0)] (.int 0) 16 p (1 + 1)) := by rw [← ht, hS]; rfl
  rw [← et] at hr
  exact rm0_1 l s _ hw tables_1 i0 p iCS rst rd1 cD1 rd2 cD2 t vFM _ _ (Old.start s) hpe SCS nCS (by rw [hS]; decide) hTB (by rw [hS]; decide) (by rw [hS]; decide) (by rw [hS, hO]; decide) (by rw [hS]; decide) (by rw [hS]; decide) (by rw [hS]; decide) (by rw [hS]; decide) (by rw [hS]; decide) (by rw [hS]; decide) ht c9 c8 c7 c6 c5 c4 c3 c2 c1 (by rw [hS]; decide) SFM hFM (by rw [hS]; decide) (own_self hr.1).1 (by have q := (own_self hr.1).2; show nar .char (nar .char (((own_at t 0) &&& (255 : Int32)).toUInt32.toUInt16.toUInt32.toInt32)) = 63; rw [q]; decide) (by rw [hS]; decide) (own_self (hr.2 1 (by decide) (by decide))).1 (own_chk hp 0 (by decide) (own_self (hr.2 1 (by decide) (by decide))).2)
theorem main_1_1 : Claimed_1_1 := comes_1 fun _ _ _ _ _ _ h hF => ⟨h.1, hF⟩
theorem main_1_2 : Claimed_1_2 := comes_1 fun _ _ _ _ _ _ h hF => ⟨h.2.1, hF⟩
end Jvm.Pilot.@@N@@
namespace Jvm.Pilot.@@N@@
open Jvm Jvm.ClassFile Sem Op Lib Jvm.Free Jvm.Stand Jvm.Pilot.@@N@@.Jvm.D
/-! MADE BY PROGRAM (witnessworld.py) out of the Statement's table words and the real class files: 28 classes; the members and pool entries that the words name. The judged class is class 1, her method 1. -/
namespace start1
open Jvm.ClassFile
def u (s : String) : CpInfo := .utf8 (stringToUtf16 s)
/-- a pool by its gaps: so many unusable entries, then the entry; so many at the end -/
def gap : Nat → List CpInfo → List CpInfo
  | 0, r => r
  | n + 1, r => .unusable :: gap n r
def poolList (es : List (Nat × CpInfo)) (last : Nat) : List CpInfo := es.foldr (fun e r => gap e.1 (e.2 :: r)) (gap last [])
def pool (es : List (Nat × CpInfo)) (last : Nat) : Array CpInfo := ⟨poolList es last⟩
def fileOf (pool : Array CpInfo) (this : Nat) (attrs : Array Attribute := #[]) (ms : Array MethodInfo := #[]) (fl : Nat := 33) (sup : Nat := 0) (ifs : Array Nat := #[]) (fds : Array FieldInfo := #[]) : ClassFile where
  minorVersion := 0
  majorVersion := 65
  constantPool := pool
  accessFlags := fl
  thisClass := this
  superClass := sup
  interfaces := ifs
  fields := fds
  methods := ms
  attributes := attrs
def plain (name : String) (sup : Option ClassId) : Class where
  name := name
  kind := .ordinary
  loader := none
  accessFlags := 33
  super := sup
  interfaces := #[]
  cf := none
  fields := #[]
  methods := #[]
  instanceTypes := #[]
  staticTypes := #[]
  resolved := #[]
  callSites := []
  init := .initialized
  statics := none
  mirror := none

def pool0 : Array CpInfo := pool [(5, u "<init>"), (0, u "()V"), (1, .class_ 10), (1, u "java/lang/Object")] 113

def k0c0 : Code := { maxStack := 0, maxLocals := 1, code := object_method_1_code, exceptionTable := #[], attributes := #[] }
def k0m0 : Method := { name := "<init>", desc := "()V", sig := { parameters := [], returnType := none }, accessFlags := 1, code := some k0c0 }
/-- java/lang/Object -/
def k0 : Class := { plain "java/lang/Object" none with
  accessFlags := 33
  interfaces := #[]
  cf := some (fileOf pool0 8 #[] #[{ accessFlags := 1, nameIndex := 5, descriptorIndex := 6, attributes := #[] }] 33 0 #[] #[])
  fields := #[]
  methods := #[k0m0]
  instanceTypes := #[]
  staticTypes := #[]
  resolved := Array.replicate 124 none
  statics := none }

def pool1 : Array CpInfo := pool [(2, .class_ 4), (1, u "java/lang/Object"), (0, u "<init>"), (0, u "()V"), (0, .integer 2147483647), (0, .methodref 9 10), (0, .class_ 11), (0, .nameAndType 12 13), (0, u "com/example/manojo/manojo/QueryTree$Parameter"), (0, u "positional"), (0, u "(I)Lcom/example/manojo/manojo/QueryTree$Parameter;"), (0, .methodref 9 15), (0, .nameAndType 16 17), (0, u "name"), (0, u "()Ljava/lang/String;"), (0, .methodref 19 20), (0, .class_ 21), (0, .nameAndType 22 23), (0, u "com/example/manojo/manojo/ParameterPositionalPinLaw"), (0, u "digits"), (0, u "(I)I"), (0, .methodref 25 26), (0, .class_ 27), (0, .nameAndType 28 29), (0, u "java/lang/String"), (0, u "length"), (0, u "()I"), (0, .methodref 25 31), (0, .nameAndType 32 33), (0, u "charAt"), (0, u "(I)C"), (0, .methodref 19 35), (0, .nameAndType 36 37), (0, u "at"), (0, u "(Ljava/lang/String;IIII)Z"), (0, .integer 100000), (0, .integer 1000000), (0, .integer 10000000), (0, .integer 100000000), (0, .integer 1000000000), (2, u "law"), (0, u "(I)Z")] 7

def k1m0 : Method := { name := "<init>", desc := "()V", sig := { parameters := [], returnType := none }, accessFlags := 2, code := none }
def k1c1 : Code := { maxStack := 5, maxLocals := 4, code := code, exceptionTable := #[], attributes := #[] }
def k1m1 : Method := { name := "law", desc := "(I)Z", sig := { parameters := [.int], returnType := some .boolean }, accessFlags := 9, code := some k1c1 }
def k1c2 : Code := { maxStack := 2, maxLocals := 1, code := method_3_code, exceptionTable := #[], attributes := #[] }
def k1m2 : Method := { name := "digits", desc := "(I)I", sig := { parameters := [.int], returnType := some .int }, accessFlags := 10, code := some k1c2 }
def k1c3 : Code := { maxStack := 4, maxLocals := 5, code := method_4_code, exceptionTable := #[], attributes := #[] }
def k1m3 : Method := { name := "at", desc := "(Ljava/lang/String;IIII)Z", sig := { parameters := [(.object "java/lang/String"), .int, .int, .int, .int], returnType := some .boolean }, accessFlags := 10, code := some k1c3 }
/-- com/example/manojo/manojo/ParameterPositionalPinLaw -/
def k1 : Class := { plain "com/example/manojo/manojo/ParameterPositionalPinLaw" (some 0) with
  accessFlags := 49
  interfaces := #[]
  cf := some (fileOf pool1 19 #[] #[{ accessFlags := 2, nameIndex := 5, descriptorIndex := 6, attributes := #[] }, { accessFlags := 9, nameIndex := 45, descriptorIndex := 46, attributes := #[] }, { accessFlags := 10, nameIndex := 22, descriptorIndex := 23, attributes := #[] }, { accessFlags := 10, nameIndex := 36, descriptorIndex := 37, attributes := #[] }] 49 2 #[] #[])
  fields := #[]
  methods := #[k1m0, k1m1, k1m2, k1m3]
  instanceTypes := #[]
  staticTypes := #[]
  resolved := Array.replicate 54 none
  statics := none }

def pool2 : Array CpInfo := pool [(1, .methodref 2 3), (0, .class_ 4), (0, .nameAndType 5 6), (0, u "java/lang/Object"), (0, u "<init>"), (0, u "()V"), (0, .class_ 8), (0, u "java/lang/Record")] 13

def k2c0 : Code := { maxStack := 1, maxLocals := 1, code := jdk_30_method_1_code, exceptionTable := #[], attributes := #[] }
def k2m0 : Method := { name := "<init>", desc := "()V", sig := { parameters := [], returnType := none }, accessFlags := 4, code := some k2c0 }
/-- java/lang/Record -/
def k2 : Class := { plain "java/lang/Record" (some 0) with
  accessFlags := 1057
  interfaces := #[]
  cf := some (fileOf pool2 7 #[] #[{ accessFlags := 4, nameIndex := 5, descriptorIndex := 6, attributes := #[] }] 1057 2 #[] #[])
  fields := #[]
  methods := #[k2m0]
  instanceTypes := #[]
  staticTypes := #[]
  resolved := Array.replicate 22 none
  statics := none }

def pool3 : Array CpInfo := pool [(1, .class_ 2), (0, u "com/example/manojo/manojo/QueryTree$Operand"), (0, .class_ 4), (0, u "java/lang/Object"), (3, .class_ 9), (0, u "com/example/manojo/manojo/QueryTree")] 9

/-- com/example/manojo/manojo/QueryTree$Operand -/
def k3 : Class := { plain "com/example/manojo/manojo/QueryTree$Operand" (some 0) with
  accessFlags := 1536
  interfaces := #[]
  cf := some (fileOf pool3 1 #[.nestHost 8] #[] 1536 3 #[] #[])
  fields := #[]
  methods := #[]
  instanceTypes := #[]
  staticTypes := #[]
  resolved := Array.replicate 19 none
  statics := none }

def pool4 : Array CpInfo := pool [(1, .class_ 2), (0, u "com/example/manojo/manojo/QueryTree$Value"), (0, .class_ 4), (0, u "java/lang/Object"), (0, .class_ 6), (0, u "com/example/manojo/manojo/QueryTree$Operand"), (3, .class_ 11), (0, u "com/example/manojo/manojo/QueryTree")] 10

/-- com/example/manojo/manojo/QueryTree$Value -/
def k4 : Class := { plain "com/example/manojo/manojo/QueryTree$Value" (some 0) with
  accessFlags := 1536
  interfaces := #[3]
  cf := some (fileOf pool4 1 #[.nestHost 10] #[] 1536 3 #[5] #[])
  fields := #[]
  methods := #[]
  instanceTypes := #[]
  staticTypes := #[]
  resolved := Array.replicate 22 none
  statics := none }

def pool5 : Array CpInfo := pool [(1, .methodref 2 3), (0, .class_ 4), (0, .nameAndType 5 6), (0, u "java/lang/Record"), (0, u "<init>"), (0, u "()V"), (0, .fieldref 8 9), (0, .class_ 10), (0, .nameAndType 11 12), (0, u "com/example/manojo/manojo/QueryTree$Parameter"), (0, u "name"), (0, u "Ljava/lang/String;"), (0, .class_ 14), (0, u "java/lang/StringBuilder"), (0, .methodref 13 3), (2, .methodref 13 19), (0, .nameAndType 20 21), (0, u "append"), (0, u "(Ljava/lang/String;)Ljava/lang/StringBuilder;"), (0, .methodref 13 23), (0, .nameAndType 24 25), (0, u "toString"), (0, u "()Ljava/lang/String;"), (0, .methodref 8 27), (0, .nameAndType 5 28), (0, u "(Ljava/lang/String;)V"), (0, .string 30), (0, u "?"), (0, .methodref 13 32), (0, .nameAndType 20 33), (0, u "(I)Ljava/lang/StringBuilder;"), (11, .class_ 46), (0, u "com/example/manojo/manojo/QueryTree$Value"), (5, u "positional"), (0, u "(I)Lcom/example/manojo/manojo/QueryTree$Parameter;"), (5, .class_ 60), (0, u "com/example/manojo/manojo/QueryTree")] 19

def k5c0 : Code := { maxStack := 2, maxLocals := 2, code := prog_22_method_1_code, exceptionTable := #[], attributes := #[] }
def k5m0 : Method := { name := "<init>", desc := "(Ljava/lang/String;)V", sig := { parameters := [(.object "java/lang/String")], returnType := none }, accessFlags := 0, code := some k5c0 }
def k5c1 : Code := { maxStack := 4, maxLocals := 1, code := prog_22_method_3_code, exceptionTable := #[], attributes := #[] }
def k5m1 : Method := { name := "positional", desc := "(I)Lcom/example/manojo/manojo/QueryTree$Parameter;", sig := { parameters := [.int], returnType := some (.object "com/example/manojo/manojo/QueryTree$Parameter") }, accessFlags := 8, code := some k5c1 }
def k5c2 : Code := { maxStack := 1, maxLocals := 1, code := prog_22_method_7_code, exceptionTable := #[], attributes := #[] }
def k5m2 : Method := { name := "name", desc := "()Ljava/lang/String;", sig := { parameters := [], returnType := some (.object "java/lang/String") }, accessFlags := 1, code := some k5c2 }
/-- com/example/manojo/manojo/QueryTree$Parameter -/
def k5 : Class := { plain "com/example/manojo/manojo/QueryTree$Parameter" (some 2) with
  accessFlags := 48
  interfaces := #[4]
  cf := some (fileOf pool5 8 #[.nestHost 59] #[{ accessFlags := 0, nameIndex := 5, descriptorIndex := 28, attributes := #[] }, { accessFlags := 8, nameIndex := 52, descriptorIndex := 53, attributes := #[] }, { accessFlags := 1, nameIndex := 11, descriptorIndex := 25, attributes := #[] }] 48 2 #[45] #[{ accessFlags := 18, nameIndex := 11, descriptorIndex := 12, attributes := #[] }])
  fields := #[{ name := "name", type := (.object "java/lang/String"), accessFlags := 18, slot := 0, constantValue := 0 }]
  methods := #[k5m0, k5m1, k5m2]
  instanceTypes := #[(.object "java/lang/String")]
  staticTypes := #[]
  resolved := Array.replicate 80 none
  statics := none }

def pool6 : Array CpInfo := pool [(1, .class_ 2), (0, u "java/lang/Appendable"), (0, .class_ 4), (0, u "java/lang/Object")] 9

/-- java/lang/Appendable -/
def k6 : Class := { plain "java/lang/Appendable" (some 0) with
  accessFlags := 1537
  interfaces := #[]
  cf := some (fileOf pool6 1 #[] #[] 1537 3 #[] #[])
  fields := #[]
  methods := #[]
  instanceTypes := #[]
  staticTypes := #[]
  resolved := Array.replicate 14 none
  statics := none }

def pool7 : Array CpInfo := pool [(2, .class_ 4), (1, u "java/lang/CharSequence"), (42, .class_ 48), (0, u "java/lang/CharSequence$1CodePointIterator"), (10, .class_ 60), (0, u "java/lang/CharSequence$1CharIterator"), (5, .class_ 67), (0, u "java/lang/Object")] 63

/-- java/lang/CharSequence -/
def k7 : Class := { plain "java/lang/CharSequence" (some 0) with
  accessFlags := 1537
  interfaces := #[]
  cf := some (fileOf pool7 2 #[.nestMembers #[47, 59]] #[] 1537 66 #[] #[])
  fields := #[]
  methods := #[]
  instanceTypes := #[]
  staticTypes := #[]
  resolved := Array.replicate 131 none
  statics := none }

def pool8 : Array CpInfo := pool [(1, .class_ 2), (0, u "java/lang/String"), (0, .methodref 4 5), (0, .class_ 6), (0, .nameAndType 7 8), (0, u "java/lang/Object"), (0, u "<init>"), (0, u "()V"), (1, .class_ 12), (1, u "java/lang/AbstractStringBuilder"), (0, u "EMPTYVALUE"), (0, u "[B"), (0, .fieldref 10 16), (0, .nameAndType 17 14), (0, u "value"), (0, .fieldref 1 19), (0, .nameAndType 20 21), (0, u "COMPACT_STRINGS"), (0, u "Z"), (0, .fieldref 10 23), (0, .nameAndType 24 25), (0, u "coder"), (0, u "B"), (6, .methodref 1 33), (0, .nameAndType 34 35), (0, u "length"), (0, u "()I"), (0, .class_ 37), (0, u "java/lang/Integer"), (2, .methodref 1 41), (0, .nameAndType 24 42), (0, u "()B"), (2, u "append"), (0, u "(Ljava/lang/String;)Ljava/lang/AbstractStringBuilder;"), (1, .class_ 49), (0, u "java/lang/CharSequence"), (19, u "(Ljava/lang/String;)V"), (5, u "maybeLatin1"), (3, .fieldref 10 80), (0, .nameAndType 81 82), (0, u "count"), (0, u "I"), (0, .methodref 10 84), (0, .nameAndType 85 86), (0, u "isLatin1"), (0, u "()Z"), (13, .methodref 10 101), (0, .nameAndType 102 103), (0, u "ensureCapacityInternal"), (0, u "(I)V"), (3, u "(I)I"), (80, u "getChars"), (19, .methodref 10 209), (0, .nameAndType 210 211), (0, u "putStringAt"), (0, u "(ILjava/lang/String;)V"), (5, u "inflateIfNeededFor"), (2, .nameAndType 221 222), (0, u "getBytes"), (0, u "([BIB)V"), (22, .methodref 36 246), (0, .nameAndType 247 107), (0, u "stringSize"), (0, .methodref 36 249), (0, .nameAndType 188 250), (0, u "(II[B)I"), (146, .methodref 10 398), (0, .nameAndType 217 69), (0, .methodref 1 220), (3, u "()[B"), (40, .class_ 445), (0, u "java/lang/Appendable"), (65, u "(I)Ljava/lang/AbstractStringBuilder;"), (40, u "getValue")] 56

def k8m0 : Method := { name := "<init>", desc := "()V", sig := { parameters := [], returnType := none }, accessFlags := 0, code := none }
def k8c1 : Code := { maxStack := 2, maxLocals := 2, code := jdk_68_method_2_code, exceptionTable := #[], attributes := #[] }
def k8m1 : Method := { name := "<init>", desc := "(I)V", sig := { parameters := [.int], returnType := none }, accessFlags := 0, code := some k8c1 }
def k8c2 : Code := { maxStack := 1, maxLocals := 1, code := jdk_68_method_6_code, exceptionTable := #[], attributes := #[] }
def k8m2 : Method := { name := "length", desc := "()I", sig := { parameters := [], returnType := some .int }, accessFlags := 1, code := some k8c2 }
def k8c3 : Code := { maxStack := 4, maxLocals := 3, code := jdk_68_method_9_code, exceptionTable := #[], attributes := #[] }
def k8m3 : Method := { name := "ensureCapacityInternal", desc := "(I)V", sig := { parameters := [.int], returnType := none }, accessFlags := 2, code := some k8c3 }
def k8c4 : Code := { maxStack := 3, maxLocals := 3, code := jdk_68_method_22_code, exceptionTable := #[], attributes := #[] }
def k8m4 : Method := { name := "append", desc := "(Ljava/lang/String;)Ljava/lang/AbstractStringBuilder;", sig := { parameters := [(.object "java/lang/String")], returnType := some (.object "java/lang/AbstractStringBuilder") }, accessFlags := 1, code := some k8c4 }
def k8c5 : Code := { maxStack := 4, maxLocals := 4, code := jdk_68_method_32_code, exceptionTable := #[], attributes := #[] }
def k8m5 : Method := { name := "append", desc := "(I)Ljava/lang/AbstractStringBuilder;", sig := { parameters := [.int], returnType := some (.object "java/lang/AbstractStringBuilder") }, accessFlags := 1, code := some k8c5 }
def k8c6 : Code := { maxStack := 1, maxLocals := 1, code := jdk_68_method_64_code, exceptionTable := #[], attributes := #[] }
def k8m6 : Method := { name := "getValue", desc := "()[B", sig := { parameters := [], returnType := some (.array .byte) }, accessFlags := 16, code := some k8c6 }
def k8c7 : Code := { maxStack := 1, maxLocals := 1, code := jdk_68_method_68_code, exceptionTable := #[], attributes := #[] }
def k8m7 : Method := { name := "isLatin1", desc := "()Z", sig := { parameters := [], returnType := some .boolean }, accessFlags := 16, code := some k8c7 }
def k8c8 : Code := { maxStack := 2, maxLocals := 2, code := jdk_68_method_71_code, exceptionTable := #[], attributes := #[] }
def k8m8 : Method := { name := "inflateIfNeededFor", desc := "(Ljava/lang/String;)V", sig := { parameters := [(.object "java/lang/String")], returnType := none }, accessFlags := 2, code := some k8c8 }
def k8c9 : Code := { maxStack := 4, maxLocals := 3, code := jdk_68_method_73_code, exceptionTable := #[], attributes := #[] }
def k8m9 : Method := { name := "putStringAt", desc := "(ILjava/lang/String;)V", sig := { parameters := [.int, (.object "java/lang/String")], returnType := none }, accessFlags := 2, code := some k8c9 }
/-- java/lang/AbstractStringBuilder -/
def k8 : Class := { plain "java/lang/AbstractStringBuilder" (some 0) with
  accessFlags := 1056
  interfaces := #[6, 7]
  cf := some (fileOf pool8 10 #[] #[{ accessFlags := 0, nameIndex := 7, descriptorIndex := 8, attributes := #[] }, { accessFlags := 0, nameIndex := 7, descriptorIndex := 103, attributes := #[] }, { accessFlags := 1, nameIndex := 34, descriptorIndex := 35, attributes := #[] }, { accessFlags := 2, nameIndex := 102, descriptorIndex := 103, attributes := #[] }, { accessFlags := 1, nameIndex := 45, descriptorIndex := 46, attributes := #[] }, { accessFlags := 1, nameIndex := 45, descriptorIndex := 511, attributes := #[] }, { accessFlags := 16, nameIndex := 552, descriptorIndex := 403, attributes := #[] }, { accessFlags := 16, nameIndex := 85, descriptorIndex := 86, attributes := #[] }, { accessFlags := 2, nameIndex := 217, descriptorIndex := 69, attributes := #[] }, { accessFlags := 2, nameIndex := 210, descriptorIndex := 211, attributes := #[] }] 1056 4 #[444, 48] #[{ accessFlags := 0, nameIndex := 17, descriptorIndex := 14, attributes := #[] }, { accessFlags := 0, nameIndex := 24, descriptorIndex := 25, attributes := #[] }, { accessFlags := 0, nameIndex := 75, descriptorIndex := 21, attributes := #[] }, { accessFlags := 0, nameIndex := 81, descriptorIndex := 82, attributes := #[] }, { accessFlags := 26, nameIndex := 13, descriptorIndex := 14, attributes := #[] }])
  fields := #[{ name := "value", type := (.array .byte), accessFlags := 0, slot := 0, constantValue := 0 }, { name := "coder", type := .byte, accessFlags := 0, slot := 1, constantValue := 0 }, { name := "maybeLatin1", type := .boolean, accessFlags := 0, slot := 2, constantValue := 0 }, { name := "count", type := .int, accessFlags := 0, slot := 3, constantValue := 0 }, { name := "EMPTYVALUE", type := (.array .byte), accessFlags := 26, slot := 0, constantValue := 0 }]
  methods := #[k8m0, k8m1, k8m2, k8m3, k8m4, k8m5, k8m6, k8m7, k8m8, k8m9]
  instanceTypes := #[(.array .byte), .byte, .boolean, .int]
  staticTypes := #[(.array .byte)]
  resolved := Array.replicate 609 none
  statics := none }

def pool9 : Array CpInfo := pool [(1, .class_ 2), (0, u "java/io/Serializable"), (0, .class_ 4), (0, u "java/lang/Object")] 2

/-- java/io/Serializable -/
def k9 : Class := { plain "java/io/Serializable" (some 0) with
  accessFlags := 1537
  interfaces := #[]
  cf := some (fileOf pool9 1 #[] #[] 1537 3 #[] #[])
  fields := #[]
  methods := #[]
  instanceTypes := #[]
  staticTypes := #[]
  resolved := Array.replicate 7 none
  statics := none }

def pool10 : Array CpInfo := pool [(1, .class_ 2), (0, u "java/lang/Comparable"), (0, .class_ 4), (0, u "java/lang/Object")] 7

/-- java/lang/Comparable -/
def k10 : Class := { plain "java/lang/Comparable" (some 0) with
  accessFlags := 1537
  interfaces := #[]
  cf := some (fileOf pool10 1 #[] #[] 1537 3 #[] #[])
  fields := #[]
  methods := #[]
  instanceTypes := #[]
  staticTypes := #[]
  resolved := Array.replicate 12 none
  statics := none }

def pool11 : Array CpInfo := pool [(1, .methodref 2 3), (0, .class_ 4), (0, .nameAndType 5 6), (0, u "java/lang/AbstractStringBuilder"), (0, u "<init>"), (0, u "(I)V"), (11, .class_ 20), (1, u "java/lang/String"), (3, .class_ 26), (1, u "java/lang/StringBuilder"), (0, u "append"), (0, u "(Ljava/lang/String;)Ljava/lang/StringBuilder;"), (0, .methodref 2 30), (0, .nameAndType 27 31), (0, u "(Ljava/lang/String;)Ljava/lang/AbstractStringBuilder;"), (21, .methodref 2 54), (0, .nameAndType 27 55), (0, u "(I)Ljava/lang/AbstractStringBuilder;"), (81, .methodref 18 138), (0, .nameAndType 5 139), (0, u "(Ljava/lang/StringBuilder;)V"), (5, u "()V"), (10, u "()I"), (111, u "(I)Ljava/lang/StringBuilder;"), (74, .methodref 2 344), (0, .nameAndType 345 156), (0, u "length"), (3, .class_ 350), (0, u "java/lang/Appendable"), (0, .class_ 352), (0, u "java/io/Serializable"), (0, .class_ 354), (0, u "java/lang/Comparable"), (0, .class_ 356), (0, u "java/lang/CharSequence"), (0, u "serialVersionUID"), (0, u "J"), (40, u "toString"), (0, u "()Ljava/lang/String;")] 21

def k11c0 : Code := { maxStack := 2, maxLocals := 1, code := jdk_67_method_1_code, exceptionTable := #[], attributes := #[] }
def k11m0 : Method := { name := "<init>", desc := "()V", sig := { parameters := [], returnType := none }, accessFlags := 1, code := some k11c0 }
def k11c1 : Code := { maxStack := 2, maxLocals := 2, code := jdk_67_method_7_code, exceptionTable := #[], attributes := #[] }
def k11m1 : Method := { name := "append", desc := "(Ljava/lang/String;)Ljava/lang/StringBuilder;", sig := { parameters := [(.object "java/lang/String")], returnType := some (.object "java/lang/StringBuilder") }, accessFlags := 1, code := some k11c1 }
def k11c2 : Code := { maxStack := 2, maxLocals := 2, code := jdk_67_method_15_code, exceptionTable := #[], attributes := #[] }
def k11m2 : Method := { name := "append", desc := "(I)Ljava/lang/StringBuilder;", sig := { parameters := [.int], returnType := some (.object "java/lang/StringBuilder") }, accessFlags := 1, code := some k11c2 }
def k11c3 : Code := { maxStack := 3, maxLocals := 1, code := jdk_67_method_42_code, exceptionTable := #[], attributes := #[] }
def k11m3 : Method := { name := "toString", desc := "()Ljava/lang/String;", sig := { parameters := [], returnType := some (.object "java/lang/String") }, accessFlags := 1, code := some k11c3 }
def k11c4 : Code := { maxStack := 1, maxLocals := 1, code := jdk_67_method_93_code, exceptionTable := #[], attributes := #[] }
def k11m4 : Method := { name := "length", desc := "()I", sig := { parameters := [], returnType := some .int }, accessFlags := 4161, code := some k11c4 }
/-- java/lang/StringBuilder -/
def k11 : Class := { plain "java/lang/StringBuilder" (some 8) with
  accessFlags := 49
  interfaces := #[6, 9, 10, 7]
  cf := some (fileOf pool11 24 #[] #[{ accessFlags := 1, nameIndex := 5, descriptorIndex := 145, attributes := #[] }, { accessFlags := 1, nameIndex := 27, descriptorIndex := 28, attributes := #[] }, { accessFlags := 1, nameIndex := 27, descriptorIndex := 268, attributes := #[] }, { accessFlags := 1, nameIndex := 399, descriptorIndex := 400, attributes := #[] }, { accessFlags := 4161, nameIndex := 345, descriptorIndex := 156, attributes := #[] }] 49 2 #[349, 351, 353, 355] #[{ accessFlags := 24, nameIndex := 357, descriptorIndex := 358, attributes := #[] }])
  fields := #[{ name := "serialVersionUID", type := .long, accessFlags := 24, slot := 0, constantValue := 0 }]
  methods := #[k11m0, k11m1, k11m2, k11m3, k11m4]
  instanceTypes := #[(.array .byte), .byte, .boolean, .int]
  staticTypes := #[.long]
  resolved := Array.replicate 422 none
  statics := none }

def pool12 : Array CpInfo := pool [(1, .class_ 2), (0, u "java/lang/constant/Constable"), (0, .class_ 4), (0, u "java/lang/Object")] 6

/-- java/lang/constant/Constable -/
def k12 : Class := { plain "java/lang/constant/Constable" (some 0) with
  accessFlags := 1537
  interfaces := #[]
  cf := some (fileOf pool12 1 #[] #[] 1537 3 #[] #[])
  fields := #[]
  methods := #[]
  instanceTypes := #[]
  staticTypes := #[]
  resolved := Array.replicate 11 none
  statics := none }

def pool13 : Array CpInfo := pool [(1, .class_ 2), (0, u "java/lang/constant/ConstantDesc"), (0, .class_ 4), (0, u "java/lang/Object")] 32

/-- java/lang/constant/ConstantDesc -/
def k13 : Class := { plain "java/lang/constant/ConstantDesc" (some 0) with
  accessFlags := 1537
  interfaces := #[]
  cf := some (fileOf pool13 1 #[] #[] 1537 3 #[] #[])
  fields := #[]
  methods := #[]
  instanceTypes := #[]
  staticTypes := #[]
  resolved := Array.replicate 37 none
  statics := none }

def pool14 : Array CpInfo := pool [(1, .methodref 2 3), (0, .class_ 4), (0, .nameAndType 5 6), (0, u "java/lang/Object"), (0, u "<init>"), (0, u "()V"), (2, .fieldref 10 11), (0, .class_ 12), (0, .nameAndType 13 14), (0, u "java/lang/String"), (0, u "value"), (0, u "[B"), (0, .fieldref 10 16), (0, .nameAndType 17 18), (0, u "coder"), (0, u "B"), (2, u "hash"), (0, u "I"), (2, u "hashIsZero"), (0, u "Z"), (11, .fieldref 10 39), (0, .nameAndType 40 26), (0, u "COMPACT_STRINGS"), (13, .methodref 55 56), (0, .class_ 57), (0, .nameAndType 58 59), (0, u "java/util/Arrays"), (0, u "copyOfRange"), (0, u "([BII)[B"), (47, .class_ 109), (1, u "java/lang/StringLatin1"), (32, u "()Z"), (50, .class_ 195), (1, u "java/lang/System"), (16, .methodref 193 213), (0, .nameAndType 214 215), (0, u "arraycopy"), (0, u "(Ljava/lang/Object;ILjava/lang/Object;II)V"), (118, u "()I"), (0, .methodref 10 336), (0, .nameAndType 17 337), (0, u "()B"), (2, u "()[B"), (22, u "([BI)C"), (27, u "(II)V"), (35, u "(I)C"), (61, .methodref 10 490), (0, .nameAndType 5 491), (0, u "(Ljava/lang/AbstractStringBuilder;Ljava/lang/Void;)V"), (0, .methodref 10 493), (0, .nameAndType 494 142), (0, u "isLatin1"), (0, .methodref 107 496), (0, .nameAndType 497 363), (0, u "charAt"), (3, u "checkIndex"), (4, .nameAndType 507 334), (0, u "length"), (24, u "getBytes"), (16, .methodref 550 506), (0, .class_ 551), (0, u "java/lang/AbstractStringBuilder"), (0, .methodref 550 553), (0, .nameAndType 554 340), (0, u "getValue"), (20, .class_ 576), (0, u "java/lang/CharSequence"), (22, u "CASE_INSENSITIVE_ORDER"), (0, u "Ljava/util/Comparator;"), (220, u "([BIB)V"), (225, .methodref 550 493), (5, .fieldref 1054 1055), (0, .class_ 1056), (0, .nameAndType 1057 1058), (0, u "jdk/internal/util/Preconditions"), (0, u "SIOOBE_FORMATTER"), (0, u "Ljava/util/function/BiFunction;"), (0, .methodref 1054 1060), (0, .nameAndType 501 1061), (0, u "(IILjava/util/function/BiFunction;)I"), (39, u "serialPersistentFields"), (0, u "[Ljava/io/ObjectStreamField;"), (0, .class_ 1104), (0, u "java/lang/String$CaseInsensitiveComparator"), (1, .class_ 1107), (0, u "java/io/Serializable"), (0, .class_ 1109), (0, u "java/lang/Comparable"), (0, .class_ 1111), (0, u "java/lang/constant/Constable"), (0, .class_ 1113), (0, u "java/lang/constant/ConstantDesc"), (2, u "serialVersionUID"), (0, u "J"), (3, u "REPL"), (0, u "C"), (2, u "LATIN1"), (1, u "UTF16"), (105, u "(Ljava/lang/StringBuilder;)V")] 217

def k14m0 : Method := { name := "<init>", desc := "()V", sig := { parameters := [], returnType := none }, accessFlags := 1, code := none }
def k14c1 : Code := { maxStack := 3, maxLocals := 2, code := jdk_42_method_53_code, exceptionTable := #[], attributes := #[] }
def k14m1 : Method := { name := "<init>", desc := "(Ljava/lang/StringBuilder;)V", sig := { parameters := [(.object "java/lang/StringBuilder")], returnType := none }, accessFlags := 1, code := some k14c1 }
def k14c2 : Code := { maxStack := 2, maxLocals := 1, code := jdk_42_method_54_code, exceptionTable := #[], attributes := #[] }
def k14m2 : Method := { name := "length", desc := "()I", sig := { parameters := [], returnType := some .int }, accessFlags := 1, code := some k14c2 }
def k14c3 : Code := { maxStack := 2, maxLocals := 2, code := jdk_42_method_56_code, exceptionTable := #[], attributes := #[] }
def k14m3 : Method := { name := "charAt", desc := "(I)C", sig := { parameters := [.int], returnType := some .char }, accessFlags := 1, code := some k14c3 }
def k14c4 : Code := { maxStack := 5, maxLocals := 4, code := jdk_42_method_147_code, exceptionTable := #[], attributes := #[] }
def k14m4 : Method := { name := "getBytes", desc := "([BIB)V", sig := { parameters := [(.array .byte), .int, .byte], returnType := none }, accessFlags := 0, code := some k14c4 }
def k14c5 : Code := { maxStack := 5, maxLocals := 5, code := jdk_42_method_150_code, exceptionTable := #[], attributes := #[] }
def k14m5 : Method := { name := "<init>", desc := "(Ljava/lang/AbstractStringBuilder;Ljava/lang/Void;)V", sig := { parameters := [(.object "java/lang/AbstractStringBuilder"), (.object "java/lang/Void")], returnType := none }, accessFlags := 0, code := some k14c5 }
def k14c6 : Code := { maxStack := 1, maxLocals := 1, code := jdk_42_method_152_code, exceptionTable := #[], attributes := #[] }
def k14m6 : Method := { name := "coder", desc := "()B", sig := { parameters := [], returnType := some .byte }, accessFlags := 0, code := some k14c6 }
def k14c7 : Code := { maxStack := 1, maxLocals := 1, code := jdk_42_method_154_code, exceptionTable := #[], attributes := #[] }
def k14m7 : Method := { name := "isLatin1", desc := "()Z", sig := { parameters := [], returnType := some .boolean }, accessFlags := 0, code := some k14c7 }
def k14c8 : Code := { maxStack := 3, maxLocals := 2, code := jdk_42_method_155_code, exceptionTable := #[], attributes := #[] }
def k14m8 : Method := { name := "checkIndex", desc := "(II)V", sig := { parameters := [.int, .int], returnType := none }, accessFlags := 8, code := some k14c8 }
/-- java/lang/String -/
def k14 : Class := { plain "java/lang/String" (some 0) with
  accessFlags := 49
  interfaces := #[9, 10, 7, 12, 13]
  cf := some (fileOf pool14 10 #[.nestMembers #[1103]] #[{ accessFlags := 1, nameIndex := 5, descriptorIndex := 6, attributes := #[] }, { accessFlags := 1, nameIndex := 5, descriptorIndex := 1233, attributes := #[] }, { accessFlags := 1, nameIndex := 507, descriptorIndex := 334, attributes := #[] }, { accessFlags := 1, nameIndex := 497, descriptorIndex := 427, attributes := #[] }, { accessFlags := 0, nameIndex := 532, descriptorIndex := 821, attributes := #[] }, { accessFlags := 0, nameIndex := 5, descriptorIndex := 491, attributes := #[] }, { accessFlags := 0, nameIndex := 17, descriptorIndex := 337, attributes := #[] }, { accessFlags := 0, nameIndex := 494, descriptorIndex := 142, attributes := #[] }, { accessFlags := 8, nameIndex := 501, descriptorIndex := 391, attributes := #[] }] 49 2 #[1106, 1108, 575, 1110, 1112] #[{ accessFlags := 18, nameIndex := 13, descriptorIndex := 14, attributes := #[] }, { accessFlags := 18, nameIndex := 17, descriptorIndex := 18, attributes := #[] }, { accessFlags := 2, nameIndex := 21, descriptorIndex := 22, attributes := #[] }, { accessFlags := 2, nameIndex := 25, descriptorIndex := 26, attributes := #[] }, { accessFlags := 26, nameIndex := 1116, descriptorIndex := 1117, attributes := #[] }, { accessFlags := 24, nameIndex := 40, descriptorIndex := 26, attributes := #[] }, { accessFlags := 26, nameIndex := 1101, descriptorIndex := 1102, attributes := #[] }, { accessFlags := 26, nameIndex := 1121, descriptorIndex := 1122, attributes := #[] }, { accessFlags := 25, nameIndex := 599, descriptorIndex := 600, attributes := #[] }, { accessFlags := 24, nameIndex := 1125, descriptorIndex := 18, attributes := #[] }, { accessFlags := 24, nameIndex := 1127, descriptorIndex := 18, attributes := #[] }])
  fields := #[{ name := "value", type := (.array .byte), accessFlags := 18, slot := 0, constantValue := 0 }, { name := "coder", type := .byte, accessFlags := 18, slot := 1, constantValue := 0 }, { name := "hash", type := .int, accessFlags := 2, slot := 2, constantValue := 0 }, { name := "hashIsZero", type := .boolean, accessFlags := 2, slot := 3, constantValue := 0 }, { name := "serialVersionUID", type := .long, accessFlags := 26, slot := 0, constantValue := 0 }, { name := "COMPACT_STRINGS", type := .boolean, accessFlags := 24, slot := 1, constantValue := 0 }, { name := "serialPersistentFields", type := (.array (.object "java/io/ObjectStreamField")), accessFlags := 26, slot := 2, constantValue := 0 }, { name := "REPL", type := .char, accessFlags := 26, slot := 3, constantValue := 0 }, { name := "CASE_INSENSITIVE_ORDER", type := (.object "java/util/Comparator"), accessFlags := 25, slot := 4, constantValue := 0 }, { name := "LATIN1", type := .byte, accessFlags := 24, slot := 5, constantValue := 0 }, { name := "UTF16", type := .byte, accessFlags := 24, slot := 6, constantValue := 0 }]
  methods := #[k14m0, k14m1, k14m2, k14m3, k14m4, k14m5, k14m6, k14m7, k14m8]
  instanceTypes := #[(.array .byte), .byte, .int, .boolean]
  staticTypes := #[.long, .boolean, (.array (.object "java/io/ObjectStreamField")), .char, (.object "java/util/Comparator"), .byte, .byte]
  resolved := Array.replicate 1451 none
  statics := some 0 }

def pool15 : Array CpInfo := pool [(2, .class_ 4), (1, u "java/lang/Object"), (0, u "<init>"), (0, u "()V"), (1, .class_ 10), (1, u "java/lang/System"), (0, u "allowSecurityManager"), (0, u "I"), (16, u "cons"), (0, u "Ljava/io/Console;"), (77, .class_ 110), (1, u "java/lang/System$CallersHolder"), (43, u "initialErrStream"), (0, u "Ljava/io/PrintStream;"), (19, u "security"), (0, u "Ljava/lang/SecurityManager;"), (31, .class_ 209), (0, u "java/lang/System$1"), (7, u "props"), (0, u "Ljava/util/Properties;"), (2, u "lineSeparator"), (0, u "Ljava/lang/String;"), (96, .class_ 321), (1, u "java/lang/System$LoggerFinder"), (5, .class_ 328), (0, u "java/lang/System$Logger"), (67, u "err"), (2, u "out"), (91, u "notSupportedJnuEncoding"), (15, u "in"), (17, u "initialIn"), (0, u "Ljava/io/InputStream;"), (35, u "bootLayer"), (0, u "Ljava/lang/ModuleLayer;"), (99, .class_ 664), (0, u "java/lang/System$2"), (9, u "NEVER"), (2, u "MAYBE"), (49, u "arraycopy"), (0, u "(Ljava/lang/Object;ILjava/lang/Object;II)V"), (72, .class_ 802), (0, u "java/lang/System$Logger$Level")] 31

def k15m0 : Method := { name := "<init>", desc := "()V", sig := { parameters := [], returnType := none }, accessFlags := 2, code := none }
def k15m1 : Method := { name := "arraycopy", desc := "(Ljava/lang/Object;ILjava/lang/Object;II)V", sig := { parameters := [(.object "java/lang/Object"), .int, (.object "java/lang/Object"), .int, .int], returnType := none }, accessFlags := 265, code := none }
/-- java/lang/System -/
def k15 : Class := { plain "java/lang/System" (some 0) with
  accessFlags := 49
  interfaces := #[]
  cf := some (fileOf pool15 8 #[.nestMembers #[319, 327, 801, 108, 663, 208]] #[{ accessFlags := 2, nameIndex := 5, descriptorIndex := 6, attributes := #[] }, { accessFlags := 265, nameIndex := 727, descriptorIndex := 728, attributes := #[] }] 49 2 #[] #[{ accessFlags := 25, nameIndex := 507, descriptorIndex := 526, attributes := #[] }, { accessFlags := 25, nameIndex := 399, descriptorIndex := 155, attributes := #[] }, { accessFlags := 25, nameIndex := 396, descriptorIndex := 155, attributes := #[] }, { accessFlags := 10, nameIndex := 525, descriptorIndex := 526, attributes := #[] }, { accessFlags := 26, nameIndex := 674, descriptorIndex := 12, attributes := #[] }, { accessFlags := 26, nameIndex := 677, descriptorIndex := 12, attributes := #[] }, { accessFlags := 10, nameIndex := 11, descriptorIndex := 12, attributes := #[] }, { accessFlags := 74, nameIndex := 175, descriptorIndex := 176, attributes := #[] }, { accessFlags := 10, nameIndex := 491, descriptorIndex := 222, attributes := #[] }, { accessFlags := 74, nameIndex := 29, descriptorIndex := 30, attributes := #[] }, { accessFlags := 74, nameIndex := 154, descriptorIndex := 155, attributes := #[] }, { accessFlags := 10, nameIndex := 217, descriptorIndex := 218, attributes := #[] }, { accessFlags := 10, nameIndex := 221, descriptorIndex := 222, attributes := #[] }, { accessFlags := 8, nameIndex := 562, descriptorIndex := 563, attributes := #[] }])
  fields := #[{ name := "in", type := (.object "java/io/InputStream"), accessFlags := 25, slot := 0, constantValue := 0 }, { name := "out", type := (.object "java/io/PrintStream"), accessFlags := 25, slot := 1, constantValue := 0 }, { name := "err", type := (.object "java/io/PrintStream"), accessFlags := 25, slot := 2, constantValue := 0 }, { name := "initialIn", type := (.object "java/io/InputStream"), accessFlags := 10, slot := 3, constantValue := 0 }, { name := "NEVER", type := .int, accessFlags := 26, slot := 4, constantValue := 0 }, { name := "MAYBE", type := .int, accessFlags := 26, slot := 5, constantValue := 0 }, { name := "allowSecurityManager", type := .int, accessFlags := 10, slot := 6, constantValue := 0 }, { name := "security", type := (.object "java/lang/SecurityManager"), accessFlags := 74, slot := 7, constantValue := 0 }, { name := "notSupportedJnuEncoding", type := (.object "java/lang/String"), accessFlags := 10, slot := 8, constantValue := 0 }, { name := "cons", type := (.object "java/io/Console"), accessFlags := 74, slot := 9, constantValue := 0 }, { name := "initialErrStream", type := (.object "java/io/PrintStream"), accessFlags := 74, slot := 10, constantValue := 0 }, { name := "props", type := (.object "java/util/Properties"), accessFlags := 10, slot := 11, constantValue := 0 }, { name := "lineSeparator", type := (.object "java/lang/String"), accessFlags := 10, slot := 12, constantValue := 0 }, { name := "bootLayer", type := (.object "java/lang/ModuleLayer"), accessFlags := 8, slot := 13, constantValue := 0 }]
  methods := #[k15m0, k15m1]
  instanceTypes := #[]
  staticTypes := #[(.object "java/io/InputStream"), (.object "java/io/PrintStream"), (.object "java/io/PrintStream"), (.object "java/io/InputStream"), .int, .int, .int, (.object "java/lang/SecurityManager"), (.object "java/lang/String"), (.object "java/io/Console"), (.object "java/io/PrintStream"), (.object "java/util/Properties"), (.object "java/lang/String"), (.object "java/lang/ModuleLayer")]
  resolved := Array.replicate 834 none
  statics := none }

def pool16 : Array CpInfo := pool [(2, .class_ 4), (1, u "java/lang/Object"), (0, u "<init>"), (0, u "()V"), (1, .class_ 10), (1, u "java/lang/Number"), (2, .class_ 14), (0, u "java/io/Serializable"), (0, u "serialVersionUID"), (0, u "J")] 20

def k16m0 : Method := { name := "<init>", desc := "()V", sig := { parameters := [], returnType := none }, accessFlags := 1, code := none }
/-- java/lang/Number -/
def k16 : Class := { plain "java/lang/Number" (some 0) with
  accessFlags := 1057
  interfaces := #[9]
  cf := some (fileOf pool16 8 #[] #[{ accessFlags := 1, nameIndex := 5, descriptorIndex := 6, attributes := #[] }] 1057 2 #[13] #[{ accessFlags := 26, nameIndex := 15, descriptorIndex := 16, attributes := #[] }])
  fields := #[{ name := "serialVersionUID", type := .long, accessFlags := 26, slot := 0, constantValue := 0 }]
  methods := #[k16m0]
  instanceTypes := #[]
  staticTypes := #[.long]
  resolved := Array.replicate 37 none
  statics := none }

def pool17 : Array CpInfo := pool [(1, .class_ 2), (0, u "java/lang/Integer"), (16, u "digits"), (0, u "[C"), (33, u "(I)I"), (19, u "stringSize"), (2, u "getChars"), (0, u "(II[B)I"), (4, .fieldref 1 84), (0, .nameAndType 85 86), (0, u "DigitOnes"), (0, u "[B"), (0, .fieldref 1 88), (0, .nameAndType 89 86), (0, u "DigitTens"), (99, .class_ 190), (0, u "java/lang/Integer$IntegerCache"), (3, u "I"), (8, .class_ 204), (0, u "java/lang/Number"), (2, u "value"), (94, u "TYPE"), (0, u "Ljava/lang/Class;"), (0, .class_ 305), (0, u "java/lang/Comparable"), (0, .class_ 307), (0, u "java/lang/constant/Constable"), (0, .class_ 309), (0, u "java/lang/constant/ConstantDesc"), (0, u "MIN_VALUE"), (1, u "MAX_VALUE"), (3, u "SIZE"), (1, u "BYTES"), (1, u "serialVersionUID"), (0, u "J")] 131

def k17c0 : Code := { maxStack := 4, maxLocals := 7, code := jdk_33_method_12_code, exceptionTable := #[], attributes := #[] }
def k17m0 : Method := { name := "getChars", desc := "(II[B)I", sig := { parameters := [.int, .int, (.array .byte)], returnType := some .int }, accessFlags := 8, code := some k17c0 }
def k17c1 : Code := { maxStack := 2, maxLocals := 4, code := jdk_33_method_13_code, exceptionTable := #[], attributes := #[] }
def k17m1 : Method := { name := "stringSize", desc := "(I)I", sig := { parameters := [.int], returnType := some .int }, accessFlags := 8, code := some k17c1 }
/-- java/lang/Integer -/
def k17 : Class := { plain "java/lang/Integer" (some 16) with
  accessFlags := 49
  interfaces := #[10, 12, 13]
  cf := some (fileOf pool17 1 #[.nestMembers #[189]] #[{ accessFlags := 8, nameIndex := 77, descriptorIndex := 78, attributes := #[] }, { accessFlags := 8, nameIndex := 74, descriptorIndex := 54, attributes := #[] }] 49 203 #[304, 306, 308] #[{ accessFlags := 25, nameIndex := 310, descriptorIndex := 194, attributes := #[] }, { accessFlags := 25, nameIndex := 312, descriptorIndex := 194, attributes := #[] }, { accessFlags := 25, nameIndex := 302, descriptorIndex := 303, attributes := #[] }, { accessFlags := 24, nameIndex := 19, descriptorIndex := 20, attributes := #[] }, { accessFlags := 24, nameIndex := 89, descriptorIndex := 86, attributes := #[] }, { accessFlags := 24, nameIndex := 85, descriptorIndex := 86, attributes := #[] }, { accessFlags := 18, nameIndex := 207, descriptorIndex := 194, attributes := #[] }, { accessFlags := 25, nameIndex := 316, descriptorIndex := 194, attributes := #[] }, { accessFlags := 25, nameIndex := 318, descriptorIndex := 194, attributes := #[] }, { accessFlags := 26, nameIndex := 320, descriptorIndex := 321, attributes := #[] }])
  fields := #[{ name := "MIN_VALUE", type := .int, accessFlags := 25, slot := 0, constantValue := 0 }, { name := "MAX_VALUE", type := .int, accessFlags := 25, slot := 1, constantValue := 0 }, { name := "TYPE", type := (.object "java/lang/Class"), accessFlags := 25, slot := 2, constantValue := 0 }, { name := "digits", type := (.array .char), accessFlags := 24, slot := 3, constantValue := 0 }, { name := "DigitTens", type := (.array .byte), accessFlags := 24, slot := 4, constantValue := 0 }, { name := "DigitOnes", type := (.array .byte), accessFlags := 24, slot := 5, constantValue := 0 }, { name := "value", type := .int, accessFlags := 18, slot := 0, constantValue := 0 }, { name := "SIZE", type := .int, accessFlags := 25, slot := 6, constantValue := 0 }, { name := "BYTES", type := .int, accessFlags := 25, slot := 7, constantValue := 0 }, { name := "serialVersionUID", type := .long, accessFlags := 26, slot := 8, constantValue := 0 }]
  methods := #[k17m0, k17m1]
  instanceTypes := #[.int]
  staticTypes := #[.int, .int, (.object "java/lang/Class"), (.array .char), (.array .byte), (.array .byte), .int, .int, .long]
  resolved := Array.replicate 453 none
  statics := some 1 }

def pool18 : Array CpInfo := pool [(2, .class_ 4), (1, u "java/lang/Object"), (0, u "<init>"), (0, u "()V"), (7, .class_ 16), (1, u "java/util/Arrays"), (57, .class_ 76), (1, u "java/util/Arrays$NaturalOrder"), (36, .class_ 115), (1, u "java/util/Arrays$LegacyMergeSort"), (1, u "Z"), (21, u "copyOfRange"), (10, .methodref 151 152), (0, .class_ 153), (0, .nameAndType 154 155), (0, u "java/lang/System"), (0, u "arraycopy"), (0, u "(Ljava/lang/Object;ILjava/lang/Object;II)V"), (148, .methodref 305 306), (0, .class_ 307), (0, .nameAndType 308 309), (0, u "java/lang/Math"), (0, u "min"), (0, u "(II)I"), (29, .methodref 14 340), (0, .nameAndType 341 342), (0, u "copyOfRangeByte"), (0, u "([BII)[B"), (0, .methodref 14 344), (0, .nameAndType 345 346), (0, u "checkLength"), (0, u "(II)V"), (28, .class_ 376), (0, u "java/util/Arrays$ArrayList"), (68, u "$assertionsDisabled"), (269, u "MIN_ARRAY_SORT_GRAN"), (0, u "I"), (2, u "INSERTIONSORT_THRESHOLD"), (255, .class_ 976), (0, u "java/util/Arrays$ArrayItr")] 52

def k18m0 : Method := { name := "<init>", desc := "()V", sig := { parameters := [], returnType := none }, accessFlags := 2, code := none }
def k18c1 : Code := { maxStack := 4, maxLocals := 2, code := jdk_65_method_131_code, exceptionTable := #[], attributes := #[] }
def k18m1 : Method := { name := "checkLength", desc := "(II)V", sig := { parameters := [.int, .int], returnType := none }, accessFlags := 10, code := some k18c1 }
def k18c2 : Code := { maxStack := 3, maxLocals := 3, code := jdk_65_method_132_code, exceptionTable := #[], attributes := #[] }
def k18m2 : Method := { name := "copyOfRange", desc := "([BII)[B", sig := { parameters := [(.array .byte), .int, .int], returnType := some (.array .byte) }, accessFlags := 9, code := some k18c2 }
def k18c3 : Code := { maxStack := 6, maxLocals := 5, code := jdk_65_method_133_code, exceptionTable := #[], attributes := #[] }
def k18m3 : Method := { name := "copyOfRangeByte", desc := "([BII)[B", sig := { parameters := [(.array .byte), .int, .int], returnType := some (.array .byte) }, accessFlags := 10, code := some k18c3 }
/-- java/util/Arrays -/
def k18 : Class := { plain "java/util/Arrays" (some 0) with
  accessFlags := 49
  interfaces := #[]
  cf := some (fileOf pool18 14 #[.nestMembers #[975, 375, 113, 74]] #[{ accessFlags := 2, nameIndex := 5, descriptorIndex := 6, attributes := #[] }, { accessFlags := 10, nameIndex := 345, descriptorIndex := 346, attributes := #[] }, { accessFlags := 9, nameIndex := 139, descriptorIndex := 342, attributes := #[] }, { accessFlags := 10, nameIndex := 341, descriptorIndex := 342, attributes := #[] }] 49 2 #[] #[{ accessFlags := 26, nameIndex := 715, descriptorIndex := 716, attributes := #[] }, { accessFlags := 26, nameIndex := 719, descriptorIndex := 716, attributes := #[] }, { accessFlags := 4120, nameIndex := 445, descriptorIndex := 117, attributes := #[] }])
  fields := #[{ name := "MIN_ARRAY_SORT_GRAN", type := .int, accessFlags := 26, slot := 0, constantValue := 0 }, { name := "INSERTIONSORT_THRESHOLD", type := .int, accessFlags := 26, slot := 1, constantValue := 0 }, { name := "$assertionsDisabled", type := .boolean, accessFlags := 4120, slot := 2, constantValue := 0 }]
  methods := #[k18m0, k18m1, k18m2, k18m3]
  instanceTypes := #[]
  staticTypes := #[.int, .int, .boolean]
  resolved := Array.replicate 1029 none
  statics := none }

def pool19 : Array CpInfo := pool [(1, .class_ 2), (0, u "java/lang/Math"), (1, .class_ 6), (1, u "java/lang/Object"), (0, u "<init>"), (0, u "()V"), (89, .class_ 100), (1, u "java/lang/Math$RandomNumberGeneratorHolder"), (71, u "negativeZeroFloatBits"), (0, u "J"), (2, u "negativeZeroDoubleBits"), (24, u "min"), (43, u "$assertionsDisabled"), (0, u "Z"), (88, u "(II)I"), (2, u "twoToTheDoubleScaleDown"), (0, u "D"), (4, u "twoToTheDoubleScaleUp"), (9, u "E"), (3, u "PI"), (2, u "TAU"), (2, u "DEGREES_TO_RADIANS"), (0, u "RADIANS_TO_DEGREES")] 94

def k19m0 : Method := { name := "<init>", desc := "()V", sig := { parameters := [], returnType := none }, accessFlags := 2, code := none }
def k19c1 : Code := { maxStack := 2, maxLocals := 2, code := jdk_29_method_69_code, exceptionTable := #[], attributes := #[] }
def k19m1 : Method := { name := "min", desc := "(II)I", sig := { parameters := [.int, .int], returnType := some .int }, accessFlags := 9, code := some k19c1 }
/-- java/lang/Math -/
def k19 : Class := { plain "java/lang/Math" (some 0) with
  accessFlags := 49
  interfaces := #[]
  cf := some (fileOf pool19 1 #[.nestMembers #[98]] #[{ accessFlags := 2, nameIndex := 7, descriptorIndex := 8, attributes := #[] }, { accessFlags := 9, nameIndex := 201, descriptorIndex := 335, attributes := #[] }] 49 4 #[] #[{ accessFlags := 25, nameIndex := 354, descriptorIndex := 339, attributes := #[] }, { accessFlags := 25, nameIndex := 358, descriptorIndex := 339, attributes := #[] }, { accessFlags := 25, nameIndex := 361, descriptorIndex := 339, attributes := #[] }, { accessFlags := 26, nameIndex := 364, descriptorIndex := 339, attributes := #[] }, { accessFlags := 26, nameIndex := 365, descriptorIndex := 339, attributes := #[] }, { accessFlags := 26, nameIndex := 172, descriptorIndex := 173, attributes := #[] }, { accessFlags := 26, nameIndex := 176, descriptorIndex := 173, attributes := #[] }, { accessFlags := 8, nameIndex := 344, descriptorIndex := 339, attributes := #[] }, { accessFlags := 8, nameIndex := 338, descriptorIndex := 339, attributes := #[] }, { accessFlags := 4120, nameIndex := 245, descriptorIndex := 246, attributes := #[] }])
  fields := #[{ name := "E", type := .double, accessFlags := 25, slot := 0, constantValue := 0 }, { name := "PI", type := .double, accessFlags := 25, slot := 1, constantValue := 0 }, { name := "TAU", type := .double, accessFlags := 25, slot := 2, constantValue := 0 }, { name := "DEGREES_TO_RADIANS", type := .double, accessFlags := 26, slot := 3, constantValue := 0 }, { name := "RADIANS_TO_DEGREES", type := .double, accessFlags := 26, slot := 4, constantValue := 0 }, { name := "negativeZeroFloatBits", type := .long, accessFlags := 26, slot := 5, constantValue := 0 }, { name := "negativeZeroDoubleBits", type := .long, accessFlags := 26, slot := 6, constantValue := 0 }, { name := "twoToTheDoubleScaleUp", type := .double, accessFlags := 8, slot := 7, constantValue := 0 }, { name := "twoToTheDoubleScaleDown", type := .double, accessFlags := 8, slot := 8, constantValue := 0 }, { name := "$assertionsDisabled", type := .boolean, accessFlags := 4120, slot := 9, constantValue := 0 }]
  methods := #[k19m0, k19m1]
  instanceTypes := #[]
  staticTypes := #[.double, .double, .double, .double, .double, .long, .long, .double, .double, .boolean]
  resolved := Array.replicate 460 none
  statics := none }

def pool20 : Array CpInfo := pool [(1, .class_ 2), (0, u "java/lang/String"), (1, .class_ 6), (1, u "java/lang/Object"), (0, u "<init>"), (0, u "()V"), (0, .methodref 1 10), (0, .nameAndType 11 12), (0, u "checkIndex"), (0, u "(II)V"), (1, .class_ 16), (1, u "java/lang/StringLatin1"), (36, u "([BI)C"), (67, u "$assertionsDisabled"), (0, u "Z"), (98, .class_ 223), (1, u "java/lang/StringLatin1$LinesSpliterator"), (28, u "charAt"), (137, .class_ 391), (0, u "java/lang/StringLatin1$CharsSpliterator")] 3

def k20m0 : Method := { name := "<init>", desc := "()V", sig := { parameters := [], returnType := none }, accessFlags := 0, code := none }
def k20c1 : Code := { maxStack := 2, maxLocals := 2, code := jdk_43_method_2_code, exceptionTable := #[], attributes := #[] }
def k20m1 : Method := { name := "charAt", desc := "([BI)C", sig := { parameters := [(.array .byte), .int], returnType := some .char }, accessFlags := 9, code := some k20c1 }
/-- java/lang/StringLatin1 -/
def k20 : Class := { plain "java/lang/StringLatin1" (some 0) with
  accessFlags := 48
  interfaces := #[]
  cf := some (fileOf pool20 14 #[.nestMembers #[390, 221]] #[{ accessFlags := 0, nameIndex := 7, descriptorIndex := 8, attributes := #[] }, { accessFlags := 9, nameIndex := 252, descriptorIndex := 53, attributes := #[] }] 48 4 #[] #[{ accessFlags := 4120, nameIndex := 121, descriptorIndex := 122, attributes := #[] }])
  fields := #[{ name := "$assertionsDisabled", type := .boolean, accessFlags := 4120, slot := 0, constantValue := 0 }]
  methods := #[k20m0, k20m1]
  instanceTypes := #[]
  staticTypes := #[.boolean]
  resolved := Array.replicate 395 none
  statics := none }

def pool21 : Array CpInfo := pool [(2, .class_ 4), (1, u "java/lang/Object"), (0, u "<init>"), (0, u "()V"), (17, .class_ 26), (1, u "jdk/internal/util/Preconditions"), (6, u "checkIndex"), (21, .class_ 56), (0, u "jdk/internal/util/Preconditions$4"), (57, .class_ 115), (0, u "jdk/internal/util/Preconditions$1"), (7, u "SIOOBE_FORMATTER"), (0, u "Ljava/util/function/BiFunction;"), (0, .class_ 126), (0, u "jdk/internal/util/Preconditions$2"), (3, u "AIOOBE_FORMATTER"), (0, .class_ 132), (0, u "jdk/internal/util/Preconditions$3"), (3, u "IOOBE_FORMATTER"), (41, u "(IILjava/util/function/BiFunction;)I")] 15

def k21m0 : Method := { name := "<init>", desc := "()V", sig := { parameters := [], returnType := none }, accessFlags := 1, code := none }
def k21c1 : Code := { maxStack := 3, maxLocals := 3, code := jdk_41_method_11_code, exceptionTable := #[], attributes := #[] }
def k21m1 : Method := { name := "checkIndex", desc := "(IILjava/util/function/BiFunction;)I", sig := { parameters := [.int, .int, (.object "java/util/function/BiFunction")], returnType := some .int }, accessFlags := 9, code := some k21c1 }
/-- jdk/internal/util/Preconditions -/
def k21 : Class := { plain "jdk/internal/util/Preconditions" (some 0) with
  accessFlags := 33
  interfaces := #[]
  cf := some (fileOf pool21 24 #[.nestMembers #[55, 131, 125, 114]] #[{ accessFlags := 1, nameIndex := 5, descriptorIndex := 6, attributes := #[] }, { accessFlags := 9, nameIndex := 33, descriptorIndex := 178, attributes := #[] }] 33 2 #[] #[{ accessFlags := 25, nameIndex := 123, descriptorIndex := 124, attributes := #[] }, { accessFlags := 25, nameIndex := 130, descriptorIndex := 124, attributes := #[] }, { accessFlags := 25, nameIndex := 136, descriptorIndex := 124, attributes := #[] }])
  fields := #[{ name := "SIOOBE_FORMATTER", type := (.object "java/util/function/BiFunction"), accessFlags := 25, slot := 0, constantValue := 0 }, { name := "AIOOBE_FORMATTER", type := (.object "java/util/function/BiFunction"), accessFlags := 25, slot := 1, constantValue := 0 }, { name := "IOOBE_FORMATTER", type := (.object "java/util/function/BiFunction"), accessFlags := 25, slot := 2, constantValue := 0 }]
  methods := #[k21m0, k21m1]
  instanceTypes := #[]
  staticTypes := #[(.object "java/util/function/BiFunction"), (.object "java/util/function/BiFunction"), (.object "java/util/function/BiFunction")]
  resolved := Array.replicate 194 none
  statics := some 2 }

def pool22 : Array CpInfo := pool [(9, u "<init>"), (6, .class_ 18), (1, u "java/lang/Object"), (0, u "()V"), (1, .class_ 23), (1, u "jdk/internal/util/ArraysSupport"), (0, u "LOG2_ARRAY_LONG_INDEX_SCALE"), (0, u "I"), (2, u "U"), (0, u "Ljdk/internal/misc/Unsafe;"), (8, u "BIG_ENDIAN"), (0, u "Z"), (8, u "LOG2_BYTE_BIT_SIZE"), (4, u "LOG2_ARRAY_INT_INDEX_SCALE"), (54, u "JLA"), (0, u "Ljdk/internal/access/JavaLangAccess;"), (11, u "LOG2_ARRAY_BOOLEAN_INDEX_SCALE"), (9, u "LOG2_ARRAY_BYTE_INDEX_SCALE"), (5, u "LOG2_ARRAY_CHAR_INDEX_SCALE"), (5, u "LOG2_ARRAY_SHORT_INDEX_SCALE"), (18, u "LOG2_ARRAY_FLOAT_INDEX_SCALE"), (24, u "LOG2_ARRAY_DOUBLE_INDEX_SCALE"), (89, u "T_BOOLEAN"), (2, u "T_CHAR"), (1, u "T_FLOAT"), (1, u "T_DOUBLE"), (1, u "T_BYTE"), (1, u "T_SHORT"), (1, u "T_INT"), (1, u "T_LONG"), (1, u "SOFT_MAX_ARRAY_LENGTH")] 83

def k22m0 : Method := { name := "<init>", desc := "()V", sig := { parameters := [], returnType := none }, accessFlags := 2, code := none }
/-- jdk/internal/util/ArraysSupport -/
def k22 : Class := { plain "jdk/internal/util/ArraysSupport" (some 0) with
  accessFlags := 33
  interfaces := #[]
  cf := some (fileOf pool22 21 #[] #[{ accessFlags := 2, nameIndex := 9, descriptorIndex := 19, attributes := #[] }] 33 16 #[] #[{ accessFlags := 24, nameIndex := 28, descriptorIndex := 29, attributes := #[] }, { accessFlags := 26, nameIndex := 38, descriptorIndex := 39, attributes := #[] }, { accessFlags := 25, nameIndex := 121, descriptorIndex := 25, attributes := #[] }, { accessFlags := 25, nameIndex := 131, descriptorIndex := 25, attributes := #[] }, { accessFlags := 25, nameIndex := 137, descriptorIndex := 25, attributes := #[] }, { accessFlags := 25, nameIndex := 143, descriptorIndex := 25, attributes := #[] }, { accessFlags := 25, nameIndex := 53, descriptorIndex := 25, attributes := #[] }, { accessFlags := 25, nameIndex := 24, descriptorIndex := 25, attributes := #[] }, { accessFlags := 25, nameIndex := 162, descriptorIndex := 25, attributes := #[] }, { accessFlags := 25, nameIndex := 187, descriptorIndex := 25, attributes := #[] }, { accessFlags := 26, nameIndex := 48, descriptorIndex := 25, attributes := #[] }, { accessFlags := 25, nameIndex := 277, descriptorIndex := 25, attributes := #[] }, { accessFlags := 25, nameIndex := 280, descriptorIndex := 25, attributes := #[] }, { accessFlags := 25, nameIndex := 282, descriptorIndex := 25, attributes := #[] }, { accessFlags := 25, nameIndex := 284, descriptorIndex := 25, attributes := #[] }, { accessFlags := 25, nameIndex := 286, descriptorIndex := 25, attributes := #[] }, { accessFlags := 25, nameIndex := 288, descriptorIndex := 25, attributes := #[] }, { accessFlags := 25, nameIndex := 290, descriptorIndex := 25, attributes := #[] }, { accessFlags := 25, nameIndex := 292, descriptorIndex := 25, attributes := #[] }, { accessFlags := 26, nameIndex := 108, descriptorIndex := 109, attributes := #[] }, { accessFlags := 25, nameIndex := 294, descriptorIndex := 25, attributes := #[] }])
  fields := #[{ name := "U", type := (.object "jdk/internal/misc/Unsafe"), accessFlags := 24, slot := 0, constantValue := 0 }, { name := "BIG_ENDIAN", type := .boolean, accessFlags := 26, slot := 1, constantValue := 0 }, { name := "LOG2_ARRAY_BOOLEAN_INDEX_SCALE", type := .int, accessFlags := 25, slot := 2, constantValue := 0 }, { name := "LOG2_ARRAY_BYTE_INDEX_SCALE", type := .int, accessFlags := 25, slot := 3, constantValue := 0 }, { name := "LOG2_ARRAY_CHAR_INDEX_SCALE", type := .int, accessFlags := 25, slot := 4, constantValue := 0 }, { name := "LOG2_ARRAY_SHORT_INDEX_SCALE", type := .int, accessFlags := 25, slot := 5, constantValue := 0 }, { name := "LOG2_ARRAY_INT_INDEX_SCALE", type := .int, accessFlags := 25, slot := 6, constantValue := 0 }, { name := "LOG2_ARRAY_LONG_INDEX_SCALE", type := .int, accessFlags := 25, slot := 7, constantValue := 0 }, { name := "LOG2_ARRAY_FLOAT_INDEX_SCALE", type := .int, accessFlags := 25, slot := 8, constantValue := 0 }, { name := "LOG2_ARRAY_DOUBLE_INDEX_SCALE", type := .int, accessFlags := 25, slot := 9, constantValue := 0 }, { name := "LOG2_BYTE_BIT_SIZE", type := .int, accessFlags := 26, slot := 10, constantValue := 0 }, { name := "T_BOOLEAN", type := .int, accessFlags := 25, slot := 11, constantValue := 0 }, { name := "T_CHAR", type := .int, accessFlags := 25, slot := 12, constantValue := 0 }, { name := "T_FLOAT", type := .int, accessFlags := 25, slot := 13, constantValue := 0 }, { name := "T_DOUBLE", type := .int, accessFlags := 25, slot := 14, constantValue := 0 }, { name := "T_BYTE", type := .int, accessFlags := 25, slot := 15, constantValue := 0 }, { name := "T_SHORT", type := .int, accessFlags := 25, slot := 16, constantValue := 0 }, { name := "T_INT", type := .int, accessFlags := 25, slot := 17, constantValue := 0 }, { name := "T_LONG", type := .int, accessFlags := 25, slot := 18, constantValue := 0 }, { name := "JLA", type := (.object "jdk/internal/access/JavaLangAccess"), accessFlags := 26, slot := 19, constantValue := 0 }, { name := "SOFT_MAX_ARRAY_LENGTH", type := .int, accessFlags := 25, slot := 20, constantValue := 0 }]
  methods := #[k22m0]
  instanceTypes := #[]
  staticTypes := #[(.object "jdk/internal/misc/Unsafe"), .boolean, .int, .int, .int, .int, .int, .int, .int, .int, .int, .int, .int, .int, .int, .int, .int, .int, .int, (.object "jdk/internal/access/JavaLangAccess"), .int]
  resolved := Array.replicate 378 none
  statics := none }

def pool23 : Array CpInfo := pool [(1, u "java/lang/Cloneable"), (0, .class_ 1), (0, u "java/lang/Object"), (0, .class_ 3)] 3

/-- java/lang/Cloneable -/
def k23 : Class := { plain "java/lang/Cloneable" (some 0) with
  accessFlags := 1537
  interfaces := #[]
  cf := some (fileOf pool23 2 #[] #[] 1537 4 #[] #[])
  fields := #[]
  methods := #[]
  instanceTypes := #[]
  staticTypes := #[]
  resolved := Array.replicate 8 none
  statics := none }

/-- the primitive byte -/
def k24 : Class := { plain "byte" none with kind := .primitive 'B', accessFlags := 0x411 }
/-- [B -/
def k25 : Class := { plain "[B" (some 0) with kind := .array 24 .byte, interfaces := #[23, 9], accessFlags := 1041 }

/-- the primitive int -/
def k26 : Class := { plain "int" none with kind := .primitive 'I', accessFlags := 0x411 }
/-- [I -/
def k27 : Class := { plain "[I" (some 0) with kind := .array 26 .int, interfaces := #[23, 9], accessFlags := 1041 }

def heap : Heap := #[{ cls := 14, slots := #[.long 0, .int 1, .null, .int 0, .null, .int 0, .int 0], vm := .statics 14 },
  { cls := 17, slots := #[.int 0, .int 0, .null, .null, .ref 4, .ref 3, .int 0, .int 0, .long 0], vm := .statics 17 },
  { cls := 21, slots := #[.null, .null, .null], vm := .statics 21 },
  { cls := 25, slots := #[.int 48, .int 49, .int 50, .int 51, .int 52, .int 53, .int 54, .int 55, .int 56, .int 57, .int 48, .int 49, .int 50, .int 51, .int 52, .int 53, .int 54, .int 55, .int 56, .int 57, .int 48, .int 49, .int 50, .int 51, .int 52, .int 53, .int 54, .int 55, .int 56, .int 57, .int 48, .int 49, .int 50, .int 51, .int 52, .int 53, .int 54, .int 55, .int 56, .int 57, .int 48, .int 49, .int 50, .int 51, .int 52, .int 53, .int 54, .int 55, .int 56, .int 57, .int 48, .int 49, .int 50, .int 51, .int 52, .int 53, .int 54, .int 55, .int 56, .int 57, .int 48, .int 49, .int 50, .int 51, .int 52, .int 53, .int 54, .int 55, .int 56, .int 57, .int 48, .int 49, .int 50, .int 51, .int 52, .int 53, .int 54, .int 55, .int 56, .int 57, .int 48, .int 49, .int 50, .int 51, .int 52, .int 53, .int 54, .int 55, .int 56, .int 57, .int 48, .int 49, .int 50, .int 51, .int 52, .int 53, .int 54, .int 55, .int 56, .int 57], vm := .none },
  { cls := 25, slots := #[.int 48, .int 48, .int 48, .int 48, .int 48, .int 48, .int 48, .int 48, .int 48, .int 48, .int 49, .int 49, .int 49, .int 49, .int 49, .int 49, .int 49, .int 49, .int 49, .int 49, .int 50, .int 50, .int 50, .int 50, .int 50, .int 50, .int 50, .int 50, .int 50, .int 50, .int 51, .int 51, .int 51, .int 51, .int 51, .int 51, .int 51, .int 51, .int 51, .int 51, .int 52, .int 52, .int 52, .int 52, .int 52, .int 52, .int 52, .int 52, .int 52, .int 52, .int 53, .int 53, .int 53, .int 53, .int 53, .int 53, .int 53, .int 53, .int 53, .int 53, .int 54, .int 54, .int 54, .int 54, .int 54, .int 54, .int 54, .int 54, .int 54, .int 54, .int 55, .int 55, .int 55, .int 55, .int 55, .int 55, .int 55, .int 55, .int 55, .int 55, .int 56, .int 56, .int 56, .int 56, .int 56, .int 56, .int 56, .int 56, .int 56, .int 56, .int 57, .int 57, .int 57, .int 57, .int 57, .int 57, .int 57, .int 57, .int 57, .int 57], vm := .none }]
def classes : Array Class := #[k0, k1, k2, k3, k4, k5, k6, k7, k8, k9, k10, k11, k12, k13, k14, k15, k16, k17, k18, k19, k20, k21, k22, k23, k24, k25, k26, k27]
def interned : List (Array UInt16 × Addr) := []
def slotsUsed : Nat := 219
def theMethod : MethodId := ⟨1, 1⟩
def args0 : Array Value := #[.int 41]
def aboutOver (below : List Frame) : State where
  vm := { classes := classes, interned := interned.toArray }
  heap := heap
  slotsUsed := slotsUsed
  threads := #[{ frames := .invoking theMethod args0 :: below }]
def below0 : List Frame := [.native { method := ⟨0, 0⟩, args := #[] }]
def about1 : State := aboutOver below0
def p0 : Program := .bare "" "" ""
def e0 : Env := launch0.env 0 0 0
theorem w_frames : about1.frames = Frame.invoking theMethod args0 :: below0 := rfl
set_option maxRecDepth 65536 in
theorem w_args : argsFit about1.vm theMethod args0 = true := by decide +kernel
set_option maxRecDepth 65536 in
theorem w_heap : heapFits about1 = true := by decide +kernel
set_option maxRecDepth 65536 in
theorem w_runnable : about1.curStatus? = some .runnable := by decide +kernel
set_option maxRecDepth 65536 in
theorem w_alone : about1.alone = true := by decide +kernel
set_option maxRecDepth 65536 in
theorem w_named : about1.methodNamed? x = some theMethod := by decide +kernel
set_option maxRecDepth 65536 in
theorem w_hears : about1.hears theMethod below0 = true := by decide +kernel
set_option maxRecDepth 65536 in
theorem w_ripe : about1.ripe theMethod args0 below0 = true := by decide +kernel
theorem w_running : about1.status = .running := rfl
set_option maxRecDepth 65536 in
theorem w_room : about1.hasRoom e0.platform room_1 = true :=
  launch0.hasRoom_least _ room_1 (by decide +kernel) (by decide +kernel) (by decide +kernel) (by decide +kernel) (by decide +kernel) (by decide +kernel)
theorem allAtoms_all (ts : List Jvm.Cond) (a : Array Jvm.Value) (st : Jvm.State) : (allAtoms ts).before a st = ts.all (fun c => c.before a st) := by
  induction ts with
  | nil => rfl
  | cons c t ih =>
    show (Jvm.Cond.and c (allAtoms t)).before a st = _
    rw [Jvm.Cond.before_and, ih, List.all_cons]
def words1 : List Jvm.Cond := Jvm.Cond.code x code maxLocals ret :: tables_1
/-- a 'code' word, met by the world's own term for the bytes: nothing is compared byte by byte -/
theorem code_word {y : MethodName} {bytes : ByteArray} {mx : Nat} {rt : Option FieldType} {a : Array Value} {s : State} {m : MethodId} {meth : Method} {c : Code} (h1 : s.methodNamed? y = some m) (h2 : s.vm.method? m = some meth) (h3 : meth.code = some c) (h4 : c.code = bytes)
    (h5 : (c.maxLocals == mx && c.exceptionTable.isEmpty && decide (c.maxStack ≤ mostOperands) && decide (meth.sig.returnType = rt) && !meth.locks && decide (parseMethodDescriptor y.desc = some meth.sig)) = true) : (Jvm.Cond.code y bytes mx rt).before a s = true := by
  simp only [Bool.and_eq_true, beq_iff_eq, Bool.not_eq_true', decide_eq_true_eq] at h5
  obtain ⟨⟨⟨⟨⟨g1, g2⟩, g3⟩, g4⟩, g5⟩, g6⟩ := h5
  simp [Cond.before, Cond.holds, Cond.value, h1, h2, h3, h4, g1, g2, g3, g4, g5, g6]
def isCode : Jvm.Cond → Bool
  | .code _ _ _ _ => true
  | _ => false
theorem all_split {L : List Jvm.Cond} {P : Jvm.Cond → Bool} (h1 : L.all (fun c => isCode c || P c) = true) (h2 : ∀ c ∈ L.filter isCode, P c = true) : L.all P = true := by
  refine List.all_eq_true.mpr fun c hc => ?_
  have h := List.all_eq_true.mp h1 c hc
  rcases Bool.eq_false_or_eq_true (isCode c) with hi | hi
  · exact h2 c (List.mem_filter.mpr ⟨hc, hi⟩)
  · simpa [hi] using h
set_option maxRecDepth 65536 in
theorem w_c0 : (Jvm.Cond.code x code maxLocals ret).before args0 about1 = true := code_word (m := ⟨1, 1⟩) (meth := k1m1) (c := k1c1) (by decide +kernel) rfl rfl rfl (by decide +kernel)
set_option maxRecDepth 65536 in
theorem w_c1 : (Jvm.Cond.code ({ cls := "com/example/manojo/manojo/QueryTree$Parameter", name := "positional", desc := "(I)Lcom/example/manojo/manojo/QueryTree$Parameter;" } : Jvm.MethodName) prog_22_method_3_code (1 : Nat) (Option.some (Jvm.ClassFile.FieldType.object "com/example/manojo/manojo/QueryTree$Parameter"))).before args0 about1 = true := code_word (m := ⟨5, 1⟩) (meth := k5m1) (c := k5c1) (by decide +kernel) rfl rfl rfl (by decide +kernel)
set_option maxRecDepth 65536 in
theorem w_c2 : (Jvm.Cond.code ({ cls := "java/lang/StringBuilder", name := "<init>", desc := "()V" } : Jvm.MethodName) jdk_67_method_1_code (1 : Nat) (Option.none : Option Jvm.ClassFile.FieldType)).before args0 about1 = true := code_word (m := ⟨11, 0⟩) (meth := k11m0) (c := k11c0) (by decide +kernel) rfl rfl rfl (by decide +kernel)
set_option maxRecDepth 65536 in
theorem w_c3 : (Jvm.Cond.code ({ cls := "java/lang/AbstractStringBuilder", name := "<init>", desc := "(I)V" } : Jvm.MethodName) jdk_68_method_2_code (2 : Nat) (Option.none : Option Jvm.ClassFile.FieldType)).before args0 about1 = true := code_word (m := ⟨8, 1⟩) (meth := k8m1) (c := k8c1) (by decide +kernel) rfl rfl rfl (by decide +kernel)
set_option maxRecDepth 65536 in
theorem w_c4 : (Jvm.Cond.code ({ cls := "java/lang/Object", name := "<init>", desc := "()V" } : Jvm.MethodName) object_method_1_code (1 : Nat) (Option.none : Option Jvm.ClassFile.FieldType)).before args0 about1 = true := code_word (m := ⟨0, 0⟩) (meth := k0m0) (c := k0c0) (by decide +kernel) rfl rfl rfl (by decide +kernel)
set_option maxRecDepth 65536 in
theorem w_c5 : (Jvm.Cond.code ({ cls := "java/lang/StringBuilder", name := "append", desc := "(Ljava/lang/String;)Ljava/lang/StringBuilder;" } : Jvm.MethodName) jdk_67_method_7_code (2 : Nat) (Option.some (Jvm.ClassFile.FieldType.object "java/lang/StringBuilder"))).before args0 about1 = true := code_word (m := ⟨11, 1⟩) (meth := k11m1) (c := k11c1) (by decide +kernel) rfl rfl rfl (by decide +kernel)
set_option maxRecDepth 65536 in
theorem w_c6 : (Jvm.Cond.code ({ cls := "java/lang/AbstractStringBuilder", name := "append", desc := "(Ljava/lang/String;)Ljava/lang/AbstractStringBuilder;" } : Jvm.MethodName) jdk_68_method_22_code (3 : Nat) (Option.some (Jvm.ClassFile.FieldType.object "java/lang/AbstractStringBuilder"))).before args0 about1 = true := code_word (m := ⟨8, 4⟩) (meth := k8m4) (c := k8c4) (by decide +kernel) rfl rfl rfl (by decide +kernel)
set_option maxRecDepth 65536 in
theorem w_c7 : (Jvm.Cond.code ({ cls := "java/lang/String", name := "length", desc := "()I" } : Jvm.MethodName) jdk_42_method_54_code (1 : Nat) (Option.some Jvm.ClassFile.FieldType.int)).before args0 about1 = true := code_word (m := ⟨14, 2⟩) (meth := k14m2) (c := k14c2) (by decide +kernel) rfl rfl rfl (by decide +kernel)
set_option maxRecDepth 65536 in
theorem w_c8 : (Jvm.Cond.code ({ cls := "java/lang/String", name := "coder", desc := "()B" } : Jvm.MethodName) jdk_42_method_152_code (1 : Nat) (Option.some Jvm.ClassFile.FieldType.byte)).before args0 about1 = true := code_word (m := ⟨14, 6⟩) (meth := k14m6) (c := k14c6) (by decide +kernel) rfl rfl rfl (by decide +kernel)
set_option maxRecDepth 65536 in
theorem w_c9 : (Jvm.Cond.code ({ cls := "java/lang/AbstractStringBuilder", name := "ensureCapacityInternal", desc := "(I)V" } : Jvm.MethodName) jdk_68_method_9_code (3 : Nat) (Option.none : Option Jvm.ClassFile.FieldType)).before args0 about1 = true := code_word (m := ⟨8, 3⟩) (meth := k8m3) (c := k8c3) (by decide +kernel) rfl rfl rfl (by decide +kernel)
set_option maxRecDepth 65536 in
theorem w_c10 : (Jvm.Cond.code ({ cls := "java/lang/AbstractStringBuilder", name := "putStringAt", desc := "(ILjava/lang/String;)V" } : Jvm.MethodName) jdk_68_method_73_code (3 : Nat) (Option.none : Option Jvm.ClassFile.FieldType)).before args0 about1 = true := code_word (m := ⟨8, 9⟩) (meth := k8m9) (c := k8c9) (by decide +kernel) rfl rfl rfl (by decide +kernel)
set_option maxRecDepth 65536 in
theorem w_c11 : (Jvm.Cond.code ({ cls := "java/lang/AbstractStringBuilder", name := "inflateIfNeededFor", desc := "(Ljava/lang/String;)V" } : Jvm.MethodName) jdk_68_method_71_code (2 : Nat) (Option.none : Option Jvm.ClassFile.FieldType)).before args0 about1 = true := code_word (m := ⟨8, 8⟩) (meth := k8m8) (c := k8c8) (by decide +kernel) rfl rfl rfl (by decide +kernel)
set_option maxRecDepth 65536 in
theorem w_c12 : (Jvm.Cond.code ({ cls := "java/lang/String", name := "getBytes", desc := "([BIB)V" } : Jvm.MethodName) jdk_42_method_147_code (4 : Nat) (Option.none : Option Jvm.ClassFile.FieldType)).before args0 about1 = true := code_word (m := ⟨14, 4⟩) (meth := k14m4) (c := k14c4) (by decide +kernel) rfl rfl rfl (by decide +kernel)
set_option maxRecDepth 65536 in
theorem w_c13 : (Jvm.Cond.code ({ cls := "java/lang/StringBuilder", name := "append", desc := "(I)Ljava/lang/StringBuilder;" } : Jvm.MethodName) jdk_67_method_15_code (2 : Nat) (Option.some (Jvm.ClassFile.FieldType.object "java/lang/StringBuilder"))).before args0 about1 = true := code_word (m := ⟨11, 2⟩) (meth := k11m2) (c := k11c2) (by decide +kernel) rfl rfl rfl (by decide +kernel)
set_option maxRecDepth 65536 in
theorem w_c14 : (Jvm.Cond.code ({ cls := "java/lang/AbstractStringBuilder", name := "append", desc := "(I)Ljava/lang/AbstractStringBuilder;" } : Jvm.MethodName) jdk_68_method_32_code (4 : Nat) (Option.some (Jvm.ClassFile.FieldType.object "java/lang/AbstractStringBuilder"))).before args0 about1 = true := code_word (m := ⟨8, 5⟩) (meth := k8m5) (c := k8c5) (by decide +kernel) rfl rfl rfl (by decide +kernel)
set_option maxRecDepth 65536 in
theorem w_c15 : (Jvm.Cond.code ({ cls := "java/lang/Integer", name := "stringSize", desc := "(I)I" } : Jvm.MethodName) jdk_33_method_13_code (4 : Nat) (Option.some Jvm.ClassFile.FieldType.int)).before args0 about1 = true := code_word (m := ⟨17, 1⟩) (meth := k17m1) (c := k17c1) (by decide +kernel) rfl rfl rfl (by decide +kernel)
set_option maxRecDepth 65536 in
theorem w_c16 : (Jvm.Cond.code ({ cls := "java/lang/AbstractStringBuilder", name := "isLatin1", desc := "()Z" } : Jvm.MethodName) jdk_68_method_68_code (1 : Nat) (Option.some Jvm.ClassFile.FieldType.boolean)).before args0 about1 = true := code_word (m := ⟨8, 7⟩) (meth := k8m7) (c := k8c7) (by decide +kernel) rfl rfl rfl (by decide +kernel)
set_option maxRecDepth 65536 in
theorem w_c17 : (Jvm.Cond.code ({ cls := "java/lang/Integer", name := "getChars", desc := "(II[B)I" } : Jvm.MethodName) jdk_33_method_12_code (7 : Nat) (Option.some Jvm.ClassFile.FieldType.int)).before args0 about1 = true := code_word (m := ⟨17, 0⟩) (meth := k17m0) (c := k17c0) (by decide +kernel) rfl rfl rfl (by decide +kernel)
set_option maxRecDepth 65536 in
theorem w_c18 : (Jvm.Cond.code ({ cls := "java/lang/StringBuilder", name := "toString", desc := "()Ljava/lang/String;" } : Jvm.MethodName) jdk_67_method_42_code (1 : Nat) (Option.some (Jvm.ClassFile.FieldType.object "java/lang/String"))).before args0 about1 = true := code_word (m := ⟨11, 3⟩) (meth := k11m3) (c := k11c3) (by decide +kernel) rfl rfl rfl (by decide +kernel)
set_option maxRecDepth 65536 in
theorem w_c19 : (Jvm.Cond.code ({ cls := "java/lang/String", name := "<init>", desc := "(Ljava/lang/StringBuilder;)V" } : Jvm.MethodName) jdk_42_method_53_code (2 : Nat) (Option.none : Option Jvm.ClassFile.FieldType)).before args0 about1 = true := code_word (m := ⟨14, 1⟩) (meth := k14m1) (c := k14c1) (by decide +kernel) rfl rfl rfl (by decide +kernel)
set_option maxRecDepth 65536 in
theorem w_c20 : (Jvm.Cond.code ({ cls := "java/lang/String", name := "<init>", desc := "(Ljava/lang/AbstractStringBuilder;Ljava/lang/Void;)V" } : Jvm.MethodName) jdk_42_method_150_code (5 : Nat) (Option.none : Option Jvm.ClassFile.FieldType)).before args0 about1 = true := code_word (m := ⟨14, 5⟩) (meth := k14m5) (c := k14c5) (by decide +kernel) rfl rfl rfl (by decide +kernel)
set_option maxRecDepth 65536 in
theorem w_c21 : (Jvm.Cond.code ({ cls := "java/lang/AbstractStringBuilder", name := "getValue", desc := "()[B" } : Jvm.MethodName) jdk_68_method_64_code (1 : Nat) (Option.some (Jvm.ClassFile.FieldType.array Jvm.ClassFile.FieldType.byte))).before args0 about1 = true := code_word (m := ⟨8, 6⟩) (meth := k8m6) (c := k8c6) (by decide +kernel) rfl rfl rfl (by decide +kernel)
set_option maxRecDepth 65536 in
theorem w_c22 : (Jvm.Cond.code ({ cls := "java/lang/StringBuilder", name := "length", desc := "()I" } : Jvm.MethodName) jdk_67_method_93_code (1 : Nat) (Option.some Jvm.ClassFile.FieldType.int)).before args0 about1 = true := code_word (m := ⟨11, 4⟩) (meth := k11m4) (c := k11c4) (by decide +kernel) rfl rfl rfl (by decide +kernel)
set_option maxRecDepth 65536 in
theorem w_c23 : (Jvm.Cond.code ({ cls := "java/lang/AbstractStringBuilder", name := "length", desc := "()I" } : Jvm.MethodName) jdk_68_method_6_code (1 : Nat) (Option.some Jvm.ClassFile.FieldType.int)).before args0 about1 = true := code_word (m := ⟨8, 2⟩) (meth := k8m2) (c := k8c2) (by decide +kernel) rfl rfl rfl (by decide +kernel)
set_option maxRecDepth 65536 in
theorem w_c24 : (Jvm.Cond.code ({ cls := "java/util/Arrays", name := "copyOfRange", desc := "([BII)[B" } : Jvm.MethodName) jdk_65_method_132_code (3 : Nat) (Option.some (Jvm.ClassFile.FieldType.array Jvm.ClassFile.FieldType.byte))).before args0 about1 = true := code_word (m := ⟨18, 2⟩) (meth := k18m2) (c := k18c2) (by decide +kernel) rfl rfl rfl (by decide +kernel)
set_option maxRecDepth 65536 in
theorem w_c25 : (Jvm.Cond.code ({ cls := "java/util/Arrays", name := "copyOfRangeByte", desc := "([BII)[B" } : Jvm.MethodName) jdk_65_method_133_code (5 : Nat) (Option.some (Jvm.ClassFile.FieldType.array Jvm.ClassFile.FieldType.byte))).before args0 about1 = true := code_word (m := ⟨18, 3⟩) (meth := k18m3) (c := k18c3) (by decide +kernel) rfl rfl rfl (by decide +kernel)
set_option maxRecDepth 65536 in
theorem w_c26 : (Jvm.Cond.code ({ cls := "java/util/Arrays", name := "checkLength", desc := "(II)V" } : Jvm.MethodName) jdk_65_method_131_code (2 : Nat) (Option.none : Option Jvm.ClassFile.FieldType)).before args0 about1 = true := code_word (m := ⟨18, 1⟩) (meth := k18m1) (c := k18c1) (by decide +kernel) rfl rfl rfl (by decide +kernel)
set_option maxRecDepth 65536 in
theorem w_c27 : (Jvm.Cond.code ({ cls := "java/lang/Math", name := "min", desc := "(II)I" } : Jvm.MethodName) jdk_29_method_69_code (2 : Nat) (Option.some Jvm.ClassFile.FieldType.int)).before args0 about1 = true := code_word (m := ⟨19, 1⟩) (meth := k19m1) (c := k19c1) (by decide +kernel) rfl rfl rfl (by decide +kernel)
set_option maxRecDepth 65536 in
theorem w_c28 : (Jvm.Cond.code ({ cls := "com/example/manojo/manojo/QueryTree$Parameter", name := "<init>", desc := "(Ljava/lang/String;)V" } : Jvm.MethodName) prog_22_method_1_code (2 : Nat) (Option.none : Option Jvm.ClassFile.FieldType)).before args0 about1 = true := code_word (m := ⟨5, 0⟩) (meth := k5m0) (c := k5c0) (by decide +kernel) rfl rfl rfl (by decide +kernel)
set_option maxRecDepth 65536 in
theorem w_c29 : (Jvm.Cond.code ({ cls := "java/lang/Record", name := "<init>", desc := "()V" } : Jvm.MethodName) jdk_30_method_1_code (1 : Nat) (Option.none : Option Jvm.ClassFile.FieldType)).before args0 about1 = true := code_word (m := ⟨2, 0⟩) (meth := k2m0) (c := k2c0) (by decide +kernel) rfl rfl rfl (by decide +kernel)
set_option maxRecDepth 65536 in
theorem w_c30 : (Jvm.Cond.code ({ cls := "com/example/manojo/manojo/QueryTree$Parameter", name := "name", desc := "()Ljava/lang/String;" } : Jvm.MethodName) prog_22_method_7_code (1 : Nat) (Option.some (Jvm.ClassFile.FieldType.object "java/lang/String"))).before args0 about1 = true := code_word (m := ⟨5, 2⟩) (meth := k5m2) (c := k5c2) (by decide +kernel) rfl rfl rfl (by decide +kernel)
set_option maxRecDepth 65536 in
theorem w_c31 : (Jvm.Cond.code ({ cls := "com/example/manojo/manojo/ParameterPositionalPinLaw", name := "digits", desc := "(I)I" } : Jvm.MethodName) method_3_code (1 : Nat) (Option.some Jvm.ClassFile.FieldType.int)).before args0 about1 = true := code_word (m := ⟨1, 2⟩) (meth := k1m2) (c := k1c2) (by decide +kernel) rfl rfl rfl (by decide +kernel)
set_option maxRecDepth 65536 in
theorem w_c32 : (Jvm.Cond.code ({ cls := "java/lang/String", name := "charAt", desc := "(I)C" } : Jvm.MethodName) jdk_42_method_56_code (2 : Nat) (Option.some Jvm.ClassFile.FieldType.char)).before args0 about1 = true := code_word (m := ⟨14, 3⟩) (meth := k14m3) (c := k14c3) (by decide +kernel) rfl rfl rfl (by decide +kernel)
set_option maxRecDepth 65536 in
theorem w_c33 : (Jvm.Cond.code ({ cls := "java/lang/String", name := "isLatin1", desc := "()Z" } : Jvm.MethodName) jdk_42_method_154_code (1 : Nat) (Option.some Jvm.ClassFile.FieldType.boolean)).before args0 about1 = true := code_word (m := ⟨14, 7⟩) (meth := k14m7) (c := k14c7) (by decide +kernel) rfl rfl rfl (by decide +kernel)
set_option maxRecDepth 65536 in
theorem w_c34 : (Jvm.Cond.code ({ cls := "java/lang/StringLatin1", name := "charAt", desc := "([BI)C" } : Jvm.MethodName) jdk_43_method_2_code (2 : Nat) (Option.some Jvm.ClassFile.FieldType.char)).before args0 about1 = true := code_word (m := ⟨20, 1⟩) (meth := k20m1) (c := k20c1) (by decide +kernel) rfl rfl rfl (by decide +kernel)
set_option maxRecDepth 65536 in
theorem w_c35 : (Jvm.Cond.code ({ cls := "java/lang/String", name := "checkIndex", desc := "(II)V" } : Jvm.MethodName) jdk_42_method_155_code (2 : Nat) (Option.none : Option Jvm.ClassFile.FieldType)).before args0 about1 = true := code_word (m := ⟨14, 8⟩) (meth := k14m8) (c := k14c8) (by decide +kernel) rfl rfl rfl (by decide +kernel)
set_option maxRecDepth 65536 in
theorem w_c36 : (Jvm.Cond.code ({ cls := "jdk/internal/util/Preconditions", name := "checkIndex", desc := "(IILjava/util/function/BiFunction;)I" } : Jvm.MethodName) jdk_41_method_11_code (3 : Nat) (Option.some Jvm.ClassFile.FieldType.int)).before args0 about1 = true := code_word (m := ⟨21, 1⟩) (meth := k21m1) (c := k21c1) (by decide +kernel) rfl rfl rfl (by decide +kernel)
set_option maxRecDepth 65536 in
theorem w_c37 : (Jvm.Cond.code ({ cls := "com/example/manojo/manojo/ParameterPositionalPinLaw", name := "at", desc := "(Ljava/lang/String;IIII)Z" } : Jvm.MethodName) method_4_code (5 : Nat) (Option.some Jvm.ClassFile.FieldType.boolean)).before args0 about1 = true := code_word (m := ⟨1, 3⟩) (meth := k1m3) (c := k1c3) (by decide +kernel) rfl rfl rfl (by decide +kernel)
def codes1 : List Jvm.Cond := [Jvm.Cond.code x code maxLocals ret, Jvm.Cond.code ({ cls := "com/example/manojo/manojo/QueryTree$Parameter", name := "positional", desc := "(I)Lcom/example/manojo/manojo/QueryTree$Parameter;" } : Jvm.MethodName) prog_22_method_3_code (1 : Nat) (Option.some (Jvm.ClassFile.FieldType.object "com/example/manojo/manojo/QueryTree$Parameter")), Jvm.Cond.code ({ cls := "java/lang/StringBuilder", name := "<init>", desc := "()V" } : Jvm.MethodName) jdk_67_method_1_code (1 : Nat) (Option.none : Option Jvm.ClassFile.FieldType), Jvm.Cond.code ({ cls := "java/lang/AbstractStringBuilder", name := "<init>", desc := "(I)V" } : Jvm.MethodName) jdk_68_method_2_code (2 : Nat) (Option.none : Option Jvm.ClassFile.FieldType), Jvm.Cond.code ({ cls := "java/lang/Object", name := "<init>", desc := "()V" } : Jvm.MethodName) object_method_1_code (1 : Nat) (Option.none : Option Jvm.ClassFile.FieldType), Jvm.Cond.code ({ cls := "java/lang/StringBuilder", name := "append", desc := "(Ljava/lang/String;)Ljava/lang/StringBuilder;" } : Jvm.MethodName) jdk_67_method_7_code (2 : Nat) (Option.some (Jvm.ClassFile.FieldType.object "java/lang/StringBuilder")), Jvm.Cond.code ({ cls := "java/lang/AbstractStringBuilder", name := "append", desc := "(Ljava/lang/String;)Ljava/lang/AbstractStringBuilder;" } : Jvm.MethodName) jdk_68_method_22_code (3 : Nat) (Option.some (Jvm.ClassFile.FieldType.object "java/lang/AbstractStringBuilder")), Jvm.Cond.code ({ cls := "java/lang/String", name := "length", desc := "()I" } : Jvm.MethodName) jdk_42_method_54_code (1 : Nat) (Option.some Jvm.ClassFile.FieldType.int), Jvm.Cond.code ({ cls := "java/lang/String", name := "coder", desc := "()B" } : Jvm.MethodName) jdk_42_method_152_code (1 : Nat) (Option.some Jvm.ClassFile.FieldType.byte), Jvm.Cond.code ({ cls := "java/lang/AbstractStringBuilder", name := "ensureCapacityInternal", desc := "(I)V" } : Jvm.MethodName) jdk_68_method_9_code (3 : Nat) (Option.none : Option Jvm.ClassFile.FieldType), Jvm.Cond.code ({ cls := "java/lang/AbstractStringBuilder", name := "putStringAt", desc := "(ILjava/lang/String;)V" } : Jvm.MethodName) jdk_68_method_73_code (3 : Nat) (Option.none : Option Jvm.ClassFile.FieldType), Jvm.Cond.code ({ cls := "java/lang/AbstractStringBuilder", name := "inflateIfNeededFor", desc := "(Ljava/lang/String;)V" } : Jvm.MethodName) jdk_68_method_71_code (2 : Nat) (Option.none : Option Jvm.ClassFile.FieldType), Jvm.Cond.code ({ cls := "java/lang/String", name := "getBytes", desc := "([BIB)V" } : Jvm.MethodName) jdk_42_method_147_code (4 : Nat) (Option.none : Option Jvm.ClassFile.FieldType), Jvm.Cond.code ({ cls := "java/lang/StringBuilder", name := "append", desc := "(I)Ljava/lang/StringBuilder;" } : Jvm.MethodName) jdk_67_method_15_code (2 : Nat) (Option.some (Jvm.ClassFile.FieldType.object "java/lang/StringBuilder")), Jvm.Cond.code ({ cls := "java/lang/AbstractStringBuilder", name := "append", desc := "(I)Ljava/lang/AbstractStringBuilder;" } : Jvm.MethodName) jdk_68_method_32_code (4 : Nat) (Option.some (Jvm.ClassFile.FieldType.object "java/lang/AbstractStringBuilder")), Jvm.Cond.code ({ cls := "java/lang/Integer", name := "stringSize", desc := "(I)I" } : Jvm.MethodName) jdk_33_method_13_code (4 : Nat) (Option.some Jvm.ClassFile.FieldType.int), Jvm.Cond.code ({ cls := "java/lang/AbstractStringBuilder", name := "isLatin1", desc := "()Z" } : Jvm.MethodName) jdk_68_method_68_code (1 : Nat) (Option.some Jvm.ClassFile.FieldType.boolean), Jvm.Cond.code ({ cls := "java/lang/Integer", name := "getChars", desc := "(II[B)I" } : Jvm.MethodName) jdk_33_method_12_code (7 : Nat) (Option.some Jvm.ClassFile.FieldType.int), Jvm.Cond.code ({ cls := "java/lang/StringBuilder", name := "toString", desc := "()Ljava/lang/String;" } : Jvm.MethodName) jdk_67_method_42_code (1 : Nat) (Option.some (Jvm.ClassFile.FieldType.object "java/lang/String")), Jvm.Cond.code ({ cls := "java/lang/String", name := "<init>", desc := "(Ljava/lang/StringBuilder;)V" } : Jvm.MethodName) jdk_42_method_53_code (2 : Nat) (Option.none : Option Jvm.ClassFile.FieldType), Jvm.Cond.code ({ cls := "java/lang/String", name := "<init>", desc := "(Ljava/lang/AbstractStringBuilder;Ljava/lang/Void;)V" } : Jvm.MethodName) jdk_42_method_150_code (5 : Nat) (Option.none : Option Jvm.ClassFile.FieldType), Jvm.Cond.code ({ cls := "java/lang/AbstractStringBuilder", name := "getValue", desc := "()[B" } : Jvm.MethodName) jdk_68_method_64_code (1 : Nat) (Option.some (Jvm.ClassFile.FieldType.array Jvm.ClassFile.FieldType.byte)), Jvm.Cond.code ({ cls := "java/lang/StringBuilder", name := "length", desc := "()I" } : Jvm.MethodName) jdk_67_method_93_code (1 : Nat) (Option.some Jvm.ClassFile.FieldType.int), Jvm.Cond.code ({ cls := "java/lang/AbstractStringBuilder", name := "length", desc := "()I" } : Jvm.MethodName) jdk_68_method_6_code (1 : Nat) (Option.some Jvm.ClassFile.FieldType.int), Jvm.Cond.code ({ cls := "java/util/Arrays", name := "copyOfRange", desc := "([BII)[B" } : Jvm.MethodName) jdk_65_method_132_code (3 : Nat) (Option.some (Jvm.ClassFile.FieldType.array Jvm.ClassFile.FieldType.byte)), Jvm.Cond.code ({ cls := "java/util/Arrays", name := "copyOfRangeByte", desc := "([BII)[B" } : Jvm.MethodName) jdk_65_method_133_code (5 : Nat) (Option.some (Jvm.ClassFile.FieldType.array Jvm.ClassFile.FieldType.byte)), Jvm.Cond.code ({ cls := "java/util/Arrays", name := "checkLength", desc := "(II)V" } : Jvm.MethodName) jdk_65_method_131_code (2 : Nat) (Option.none : Option Jvm.ClassFile.FieldType), Jvm.Cond.code ({ cls := "java/lang/Math", name := "min", desc := "(II)I" } : Jvm.MethodName) jdk_29_method_69_code (2 : Nat) (Option.some Jvm.ClassFile.FieldType.int), Jvm.Cond.code ({ cls := "com/example/manojo/manojo/QueryTree$Parameter", name := "<init>", desc := "(Ljava/lang/String;)V" } : Jvm.MethodName) prog_22_method_1_code (2 : Nat) (Option.none : Option Jvm.ClassFile.FieldType), Jvm.Cond.code ({ cls := "java/lang/Record", name := "<init>", desc := "()V" } : Jvm.MethodName) jdk_30_method_1_code (1 : Nat) (Option.none : Option Jvm.ClassFile.FieldType), Jvm.Cond.code ({ cls := "com/example/manojo/manojo/QueryTree$Parameter", name := "name", desc := "()Ljava/lang/String;" } : Jvm.MethodName) prog_22_method_7_code (1 : Nat) (Option.some (Jvm.ClassFile.FieldType.object "java/lang/String")), Jvm.Cond.code ({ cls := "com/example/manojo/manojo/ParameterPositionalPinLaw", name := "digits", desc := "(I)I" } : Jvm.MethodName) method_3_code (1 : Nat) (Option.some Jvm.ClassFile.FieldType.int), Jvm.Cond.code ({ cls := "java/lang/String", name := "charAt", desc := "(I)C" } : Jvm.MethodName) jdk_42_method_56_code (2 : Nat) (Option.some Jvm.ClassFile.FieldType.char), Jvm.Cond.code ({ cls := "java/lang/String", name := "isLatin1", desc := "()Z" } : Jvm.MethodName) jdk_42_method_154_code (1 : Nat) (Option.some Jvm.ClassFile.FieldType.boolean), Jvm.Cond.code ({ cls := "java/lang/StringLatin1", name := "charAt", desc := "([BI)C" } : Jvm.MethodName) jdk_43_method_2_code (2 : Nat) (Option.some Jvm.ClassFile.FieldType.char), Jvm.Cond.code ({ cls := "java/lang/String", name := "checkIndex", desc := "(II)V" } : Jvm.MethodName) jdk_42_method_155_code (2 : Nat) (Option.none : Option Jvm.ClassFile.FieldType), Jvm.Cond.code ({ cls := "jdk/internal/util/Preconditions", name := "checkIndex", desc := "(IILjava/util/function/BiFunction;)I" } : Jvm.MethodName) jdk_41_method_11_code (3 : Nat) (Option.some Jvm.ClassFile.FieldType.int), Jvm.Cond.code ({ cls := "com/example/manojo/manojo/ParameterPositionalPinLaw", name := "at", desc := "(Ljava/lang/String;IIII)Z" } : Jvm.MethodName) method_4_code (5 : Nat) (Option.some Jvm.ClassFile.FieldType.boolean)]
set_option maxRecDepth 65536 in
theorem codes_eq : words1.filter isCode = codes1 := rfl
theorem w_codes : ∀ c ∈ words1.filter isCode, c.before args0 about1 = true := by
  rw [codes_eq]
  intro c hc
  simp only [codes1, List.mem_cons, List.not_mem_nil, or_false] at hc
  rcases hc with rfl | rfl | rfl | rfl | rfl | rfl | rfl | rfl | rfl | rfl | rfl | rfl | rfl | rfl | rfl | rfl | rfl | rfl | rfl | rfl | rfl | rfl | rfl | rfl | rfl | rfl | rfl | rfl | rfl | rfl | rfl | rfl | rfl | rfl | rfl | rfl | rfl | rfl
  · exact w_c0
  · exact w_c1
  · exact w_c2
  · exact w_c3
  · exact w_c4
  · exact w_c5
  · exact w_c6
  · exact w_c7
  · exact w_c8
  · exact w_c9
  · exact w_c10
  · exact w_c11
  · exact w_c12
  · exact w_c13
  · exact w_c14
  · exact w_c15
  · exact w_c16
  · exact w_c17
  · exact w_c18
  · exact w_c19
  · exact w_c20
  · exact w_c21
  · exact w_c22
  · exact w_c23
  · exact w_c24
  · exact w_c25
  · exact w_c26
  · exact w_c27
  · exact w_c28
  · exact w_c29
  · exact w_c30
  · exact w_c31
  · exact w_c32
  · exact w_c33
  · exact w_c34
  · exact w_c35
  · exact w_c36
  · exact w_c37
set_option maxRecDepth 65536 in
theorem w_t1 : (words1.take 24).all (fun c => isCode c || c.before args0 about1) = true := by decide +kernel
set_option maxRecDepth 65536 in
theorem w_t2 : ((words1.drop 24).take 24).all (fun c => isCode c || c.before args0 about1) = true := by decide +kernel
set_option maxRecDepth 65536 in
theorem w_t3 : (((words1.drop 24).drop 24).take 24).all (fun c => isCode c || c.before args0 about1) = true := by decide +kernel
set_option maxRecDepth 65536 in
theorem w_t4 : ((((words1.drop 24).drop 24).drop 24).take 24).all (fun c => isCode c || c.before args0 about1) = true := by decide +kernel
set_option maxRecDepth 65536 in
theorem w_t5 : (((((words1.drop 24).drop 24).drop 24).drop 24).take 24).all (fun c => isCode c || c.before args0 about1) = true := by decide +kernel
set_option maxRecDepth 65536 in
theorem w_t6 : ((((((words1.drop 24).drop 24).drop 24).drop 24).drop 24).take 24).all (fun c => isCode c || c.before args0 about1) = true := by decide +kernel
set_option maxRecDepth 65536 in
theorem w_t7 : (((((((words1.drop 24).drop 24).drop 24).drop 24).drop 24).drop 24).take 24).all (fun c => isCode c || c.before args0 about1) = true := by decide +kernel
set_option maxRecDepth 65536 in
theorem w_t8 : ((((((((words1.drop 24).drop 24).drop 24).drop 24).drop 24).drop 24).drop 24).take 24).all (fun c => isCode c || c.before args0 about1) = true := by decide +kernel
set_option maxRecDepth 65536 in
theorem w_t9 : ((((((((words1.drop 24).drop 24).drop 24).drop 24).drop 24).drop 24).drop 24).drop 24).all (fun c => isCode c || c.before args0 about1) = true := by decide +kernel
theorem w_tables : (allAtoms (Jvm.Cond.code x code maxLocals ret :: tables_1)).before args0 about1 = true := by
  rw [allAtoms_all]
  show words1.all (fun c => c.before args0 about1) = true
  refine all_split ?_ w_codes
  rw [← List.take_append_drop 24 words1, List.all_append, w_t1, ← List.take_append_drop 24 (words1.drop 24), List.all_append, w_t2, ← List.take_append_drop 24 ((words1.drop 24).drop 24), List.all_append, w_t3, ← List.take_append_drop 24 (((words1.drop 24).drop 24).drop 24), List.all_append, w_t4, ← List.take_append_drop 24 ((((words1.drop 24).drop 24).drop 24).drop 24), List.all_append, w_t5, ← List.take_append_drop 24 (((((words1.drop 24).drop 24).drop 24).drop 24).drop 24), List.all_append, w_t6, ← List.take_append_drop 24 ((((((words1.drop 24).drop 24).drop 24).drop 24).drop 24).drop 24), List.all_append, w_t7, ← List.take_append_drop 24 (((((((words1.drop 24).drop 24).drop 24).drop 24).drop 24).drop 24).drop 24), List.all_append, w_t8, w_t9]
  rfl
set_option maxRecDepth 65536 in
theorem w_rest : rest_1_c.before args0 about1 = true := by decide +kernel
set_option maxRecDepth 65536 in
theorem w_case : (Jvm.Cond.and given_1 narrow_1).before args0 about1 = true := by decide +kernel
set_option maxRecDepth 65536 in
theorem w_consts : constsHeld consts_1 about1 := Jvm.Lit.constsHeldB_iff.mp (by decide +kernel)
theorem w_applies : (headSpec (Jvm.Cond.code x code maxLocals ret :: tables_1) room_1).applies x e0.platform about1 = true :=
  (Spec.applies_iff w_frames).mpr ⟨w_running, w_runnable, w_alone, w_named, w_hears, w_ripe, w_room, w_tables⟩
set_option maxRecDepth 65536 in
theorem atStart : AtStart classFile x code maxLocals ret World_1 tables_1 room_1 Calls_1 rest_1 Pre_1 launch0 p0 e0 about1 theMethod args0 below0 :=
  ⟨lists_1, trivial, launch0.admits_env _ _ _, launch0.least_env, fairChoices_fair.cas, fairChoices_fair.clock, w_frames, w_args, w_heap, w_applies, ⟨w_consts, trivial⟩, w_rest, w_case⟩
end start1
theorem witness_1 : WitnessClaimed_1 := ⟨start1.p0, start1.e0, start1.about1, start1.theMethod, start1.args0, start1.below0, start1.atStart⟩
end Jvm.Pilot.@@N@@
