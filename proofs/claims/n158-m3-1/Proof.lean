import JvmDerived
import JvmDerived.Pilot.@@N@@Statement
import JvmDerived.Pilot.@@N@@Code
set_option linter.unusedVariables false
set_option linter.unusedSimpArgs false
namespace Jvm.RoadKit
open Sem ClassFile Op Lib Jvm.Stand Jvm.Free Jvm.LawKit
section New
variable {p : Program} {l : Launch} {e : Env} {R : Room} {s : State} {m : MethodId} {args : Array Value} {below : List Frame} {meth : Method} {c : Code} {T : State} {locs : List Loc} {cells slots : Nat}
theorem retI (X : Stand p l e R s m args below meth c T locs cells slots) (hx : p.tables.exec = Jvm.exec) {pc : Nat} {Ls : Array Slot} {z : Int32} {rest : List Value} (hret : meth.sig.returnType = some .int) (hd : decode c.code pc = .ok (.ireturn, 1)) {fs : List Frame}
    (hl : ∀ (f : JFrame) (acts : List Action), f.method = m → f.locked = none → f.entered = [] → (doReturn e (T.setTop f) acts (some (.int z))).1 = T.setFrames fs) : Steps p.tables e below (T.setTop (mkF m pc Ls (.int z :: rest))) (T.setFrames fs) := by
  have hm' : T.vm.method? m = some meth := X.method'
  have hn : narrow .int (.int z) = .int z := rfl
  show Steps p.tables e below (T.setTop { method := m, pc := pc, locals := Ls, stack := _ :: rest, locked := none }) _
  jvm_step X.here [X.here.top, hx, hd, hm', hret, hn]
  first | (intro acts; rw [hl _ acts rfl rfl rfl]) | rw [hl _ _ rfl rfl rfl]
  exact Steps.refl _
end New
end Jvm.RoadKit
namespace Jvm.Pilot.@@N@@
open Jvm Jvm.ClassFile Sem Op Lib Jvm.Free Jvm.Stand Jvm.LawKit Jvm.RoadKit Bundle Jvm.Pilot.@@N@@.Jvm.D
/-- what a body that writes nothing leaves: the value, and the heap as it was -/
def QV (r : Option Value) (h0 : Heap) (n0 : Nat) (v : Option Value) (h : Heap) (L : List Loc) : Prop := v = r ∧ Fr n0 L ∧ h = h0
theorem own_fld_one {Z : State} {h : Heap} {a : Addr} {C n d : String} {v w : Value} (F : Fld Z h a C n d v) (G : Fld Z h a C n d w) : v = w := by
  obtain ⟨c1, f1, k1, i1, g1, a1, a2, -, -, -, -, a7⟩ := F
  obtain ⟨c2, f2, k2, i2, g2, b1, b2, -, -, -, -, b7⟩ := G
  cases a1.symm.trans b1
  cases a2.symm.trans b2
  exact Option.some.inj (a7.symm.trans b7)
theorem own_ne_fld {Z : State} {h : Heap} {a b : Addr} {C n d : String} {x y : Int32} (F : Fld Z h a C n d (.int x)) (G : Fld Z h b C n d (.int y)) (hn : x ≠ y) : ¬ a = b := fun e => by
  subst e
  exact hn (Value.int.inj (own_fld_one F G))
theorem own_fld {args : Array Value} {s : State} {t : Term} {C n d : String} {k : Int32} {a : Addr} (ht : t.eval args s none [] s = some (.ref a)) (h : (Jvm.Cond.eq (Jvm.Term.field t C n d) (Jvm.Term.int k)).value args s none s [] = some true) : Fld s s.heap a C n d (.int k) := by
  refine Fld.start ((fld_at (idx := []) (first := s) (o := none) ht).symm.trans ?_)
  obtain ⟨x, y, e1, e2, k1, k2⟩ := cmp_v (Or.inl h)
  cases e2
  obtain ⟨z, rfl⟩ := k2
  have e3 : (Jvm.Term.int k).eval args s none [] s = some (.int k) := rfl
  have q : z = k := by simpa [Jvm.Cond.value, e1, e3] using h
  rw [e1, q]
theorem w_ {a0 : Array Value} {Z : State} (hw : ∀ d ∈ tables_1, d.before a0 Z = true) (i : Nat) {d : Jvm.Cond} (h : tables_1[i]? = some d) : d.before a0 Z = true := hw _ (List.mem_of_getElem? h)
abbrev jv_ (x : Int64) : Slot := .val (.long x)
abbrev u_ : Slot := .unset
abbrev s_ : Slot := .second
abbrev n_ : Slot := .val .null
abbrev Sx (p : Program) (e : Env) (b : List Frame) (T : State) (m : MethodId) (pc : Nat) (ls : Array Slot) (st : List Value) : State → Prop := Steps p.tables e b (T.setTop (mkF m pc ls st))
def Q0 (n0 : Nat) (v : Option Value) (h : Heap) (L : List Loc) : Prop := v = some (.int (1 : Int32)) ∧ Fr n0 L
def QK (a : Addr) (r : Option Value) (h0 : Heap) (n0 : Nat) (v : Option Value) (h : Heap) (L : List Loc) : Prop := v = r ∧ Fr n0 L ∧ Keep h0 h [a]
def ALf (Z : State) (h : Heap) (a : Addr) (mc : Int32) (e : Value) (n : Int32) : Prop := Exa Z h a "java/util/ArrayList" ∧ Fld Z h a "java/util/AbstractList" "modCount" "I" (.int mc) ∧ Fld Z h a "java/util/ArrayList" "elementData" "[Ljava/lang/Object;" e ∧ Fld Z h a "java/util/ArrayList" "size" "I" (.int n)
def QAf (Z : State) (a : Addr) (mc : Int32) (e : Value) (n : Int32) (h0 : Heap) (n0 : Nat) (v : Option Value) (h : Heap) (L : List Loc) : Prop := v = none ∧ Fr n0 L ∧ Keep h0 h [a] ∧ ALf Z h a mc e n
def ALs (Z : State) (n0 : Nat) (h : Heap) (a ea : Addr) (ke : ClassId) (mc n : Int32) (vs : List Value) : Prop := ALf Z h a mc (.ref ea) n ∧ Arv Z h ea ke (.object "java/lang/Object") (10 : Int32) vs .null ∧ Exa Z h ea "[Ljava/lang/Object;" ∧ Ovr Z ke "java/lang/Object" ∧ n0 ≤ a ∧ n0 ≤ ea ∧ a ≠ ea
def QG1 (Z : State) (a : Addr) (mc n : Int32) (h0 : Heap) (n0 : Nat) (v : Option Value) (h : Heap) (L : List Loc) : Prop := ∃ (ea : Addr) (ke : ClassId), v = some (.ref ea) ∧ Fr n0 L ∧ Keep h0 h [a] ∧ h0.size ≤ ea ∧ ALs Z n0 h a ea ke mc n [.null, .null, .null, .null, .null, .null, .null, .null, .null, .null]
def QA1 (Z : State) (a : Addr) (r : Option Value) (n : Int32) (vs : List Value) (h0 : Heap) (n0 : Nat) (v : Option Value) (h : Heap) (L : List Loc) : Prop := v = r ∧ Fr n0 L ∧ Keep h0 h [a] ∧ ∃ (ea : Addr) (ke : ClassId) (mc : Int32), h0.size ≤ ea ∧ ALs Z n0 h a ea ke mc n vs
def QAn (Z : State) (a ea : Addr) (ke : ClassId) (r : Option Value) (n : Int32) (vs : List Value) (h0 : Heap) (n0 : Nat) (v : Option Value) (h : Heap) (L : List Loc) : Prop := v = r ∧ Fr n0 L ∧ Keep h0 h [a, ea] ∧ ∃ mc : Int32, ALs Z n0 h a ea ke mc n vs
def QF (Z : State) (a : Addr) (C f d : String) (w : Value) (h0 : Heap) (n0 : Nat) (v : Option Value) (h : Heap) (L : List Loc) : Prop := v = none ∧ Fr n0 L ∧ Keep h0 h [a] ∧ Fld Z h a C f d w
def Q12 (Z : State) (a p q : Addr) (h0 : Heap) (n0 : Nat) (v : Option Value) (h : Heap) (L : List Loc) : Prop := v = none ∧ Fr n0 L ∧ Keep h0 h [a] ∧ Fld Z h a "java/util/ImmutableCollections$List12" "e0" "Ljava/lang/Object;" (.ref p) ∧ Fld Z h a "java/util/ImmutableCollections$List12" "e1" "Ljava/lang/Object;" (.ref q)
def LVN (Z : State) (h : Heap) (L : Addr) (n : Int32) (vs : List Value) : Prop := ∃ (ar : Addr) (k : ClassId), Exa Z h L "java/util/ImmutableCollections$ListN" ∧ Fld Z h L "java/util/ImmutableCollections$ListN" "elements" "[Ljava/lang/Object;" (.ref ar) ∧ Arv Z h ar k (.object "java/lang/Object") n vs .null
def LV2 (Z : State) (h : Heap) (L p q : Addr) : Prop := Exa Z h L "java/util/ImmutableCollections$List12" ∧ Fld Z h L "java/util/ImmutableCollections$List12" "e0" "Ljava/lang/Object;" (.ref p) ∧ Fld Z h L "java/util/ImmutableCollections$List12" "e1" "Ljava/lang/Object;" (.ref q)
def QLN (Z : State) (n : Int32) (vs : List Value) (h0 : Heap) (n0 : Nat) (v : Option Value) (h : Heap) (L : List Loc) : Prop := ∃ b : Addr, v = some (.ref b) ∧ Fr n0 L ∧ Keep h0 h [] ∧ LVN Z h b n vs
def QL2 (Z : State) (p q : Addr) (h0 : Heap) (n0 : Nat) (v : Option Value) (h : Heap) (L : List Loc) : Prop := ∃ b : Addr, v = some (.ref b) ∧ Fr n0 L ∧ Keep h0 h [] ∧ LV2 Z h b p q
def QTA (Z : State) (n : Int32) (vs : List Value) (h0 : Heap) (n0 : Nat) (v : Option Value) (h : Heap) (L : List Loc) : Prop := ∃ (b : Addr) (k : ClassId), v = some (.ref b) ∧ Fr n0 L ∧ Keep h0 h [] ∧ Arv Z h b k (.object "java/lang/Object") n vs .null
def QON (Z : State) (a : Addr) (n : Int32) (vs : List Value) (h0 : Heap) (n0 : Nat) (v : Option Value) (h : Heap) (L : List Loc) : Prop := v = none ∧ Fr n0 L ∧ Keep h0 h [a] ∧ ∃ b : Addr, Fld Z h a "com/example/clausemap/clausemap/outline/Outline" "parts" "Ljava/util/List;" (.ref b) ∧ LVN Z h b n vs
def QO2 (Z : State) (a p q : Addr) (h0 : Heap) (n0 : Nat) (v : Option Value) (h : Heap) (L : List Loc) : Prop := v = none ∧ Fr n0 L ∧ Keep h0 h [a] ∧ ∃ b : Addr, Fld Z h a "com/example/clausemap/clausemap/outline/Outline" "parts" "Ljava/util/List;" (.ref b) ∧ LV2 Z h b p q
theorem ALs.keep {Z : State} {n0 : Nat} {h h' : Heap} {a ea : Addr} {ke : ClassId} {mc n : Int32} {vs : List Value} (C : ALs Z n0 h a ea ke mc n vs) (K : Keep h h' []) : ALs Z n0 h' a ea ke mc n vs := by
  obtain ⟨⟨h1, h2, h3, h4⟩, h5, h6, r⟩ := C
  exact ⟨⟨h1.keep K, h2.keep K nin0, h3.keep K nin0, h4.keep K nin0⟩, h5.keep K nin0, h6.keep K, r⟩
theorem ALs.ext {Z : State} {n0 : Nat} {h h' : Heap} {a ea : Addr} {ke : ClassId} {mc n : Int32} {vs : List Value} (C : ALs Z n0 h a ea ke mc n vs) (K : Ext h h') : ALs Z n0 h' a ea ke mc n vs := by
  obtain ⟨⟨h1, h2, h3, h4⟩, h5, h6, r⟩ := C
  exact ⟨⟨h1.ext K, h2.ext K, h3.ext K, h4.ext K⟩, h5.ext K, h6.ext K, r⟩
theorem LVN.wr {Z : State} {h h' : Heap} {a0 : Array Value} {L o : Addr} {n : Int32} {vs : List Value} {sl q : Nat} {v : Value} (F : LVN Z h L n vs) (W : Wr h h' o sl v) (E : Exa Z h o "com/example/clausemap/clausemap/outline/Outline") (wi : (Jvm.Cond.instantiable "com/example/clausemap/clausemap/outline/Outline" q).before a0 Z = true) : LVN Z h' L n vs := by
  obtain ⟨ar, k, h1, h2, c, A, r⟩ := F
  have n1 := ne_exa h1 E (by decide)
  exact ⟨ar, k, h1.wr W, h2.other W (Or.inl n1), c, A.other W (Ne.symm (ne_arr E wi A)), r⟩
theorem LV2.wr {Z : State} {h h' : Heap} {L o p q : Addr} {sl : Nat} {v : Value} (F : LV2 Z h L p q) (W : Wr h h' o sl v) (E : Exa Z h o "com/example/clausemap/clausemap/outline/Outline") : LV2 Z h' L p q := by
  obtain ⟨h1, h2, h3⟩ := F
  have n1 := ne_exa h1 E (by decide)
  exact ⟨h1.wr W, h2.other W (Or.inl n1), h3.other W (Or.inl n1)⟩
theorem own_ne_arv {Z : State} {h : Heap} {a0 : Array Value} {b x : Addr} {C : String} {q : Nat} {k : ClassId} {ty : FieldType} {z : Int32} {vs : List Value} {d : Value} (E : Exa Z h b C) (wi : (Jvm.Cond.instantiable C q).before a0 Z = true) (G : Arv Z h x k ty z vs d) : b ≠ x := by
  obtain ⟨c, A, -⟩ := G
  exact ne_arr E wi A
theorem own_tab3 {Z s : State} {a0 sargs : Array Value} (hw : ∀ d ∈ tables_1, d.before a0 Z = true) (hZ : Z.Warmed39 s.vm) : Jvm.Free.CopyOfC.Copy3.tab.before sargs s = true := by
  refine (conj_holds (args := sargs) (first := s) (o := none) (s := s) (idx := []) _ _).mpr ⟨mvT hZ (w_ hw 163 rfl), fun d hd => ?_⟩
  simp only [List.mem_cons, List.not_mem_nil, or_false] at hd
  rcases hd with rfl | rfl | rfl | rfl | rfl | rfl | rfl | rfl | rfl | rfl | rfl
  · exact mvT hZ (w_ hw 165 rfl)
  · exact Cond.arrayOver_alike hZ.alike (w_ hw 141 rfl)
  · exact mvT hZ (w_ hw 166 rfl)
  · exact mvT hZ (w_ hw 167 rfl)
  · exact mvT hZ (w_ hw 93 rfl)
  · exact mvT hZ (w_ hw 168 rfl)
  · exact mvT hZ (w_ hw 169 rfl)
  · exact mvT hZ (w_ hw 172 rfl)
  · exact mvT hZ (w_ hw 170 rfl)
  · exact mvT hZ (w_ hw 171 rfl)
  · exact mvT hZ (w_ hw 164 rfl)
theorem own_tab2 {Z s : State} {a0 sargs : Array Value} (hw : ∀ d ∈ tables_1, d.before a0 Z = true) (hZ : Z.Warmed39 s.vm) : Jvm.Free.CopyOfC.Copy2.tab.before sargs s = true := by
  refine (conj_holds (args := sargs) (first := s) (o := none) (s := s) (idx := []) _ _).mpr ⟨mvT hZ (w_ hw 154 rfl), fun d hd => ?_⟩
  rcases List.mem_append.mp hd with hd | hd
  · have hd : d ∈ [Jvm.Cond.methodLink "java/util/Arrays" 86 Jvm.Stand.gcN, .declares Jvm.Stand.gcN, .selects "[Ljava/lang/Object;" Jvm.Stand.gcN Jvm.Stand.gcN, .instanceMethod Jvm.Stand.gcN, .native Jvm.Stand.gcN, .methodLink "java/util/Arrays" 300 Jvm.Free.CopyOfC.copy3N, .static Jvm.Free.CopyOfC.copy3N, .initialized "java/util/Arrays"] := hd
    simp only [List.mem_cons, List.not_mem_nil, or_false] at hd
    rcases hd with rfl | rfl | rfl | rfl | rfl | rfl | rfl | rfl
    · exact mvT hZ (w_ hw 155 rfl)
    · exact mvT hZ (w_ hw 156 rfl)
    · exact mvT hZ (w_ hw 158 rfl)
    · exact mvT hZ (w_ hw 157 rfl)
    · exact mvT hZ (w_ hw 159 rfl)
    · exact mvT hZ (w_ hw 161 rfl)
    · exact mvT hZ (w_ hw 162 rfl)
    · exact mvT hZ (w_ hw 153 rfl)
  · rw [List.mem_singleton.mp hd]; exact own_tab3 hw hZ
theorem own_pdC : parseMethodDescriptor "([Ljava/lang/Object;I)[Ljava/lang/Object;" = some ⟨[(.array (.object "java/lang/Object")), .int], some (.array (.object "java/lang/Object"))⟩ := by decide +kernel
/-- the copy, read place for place -/
theorem own_copied {g : Jvm.Free.CopyOfC.Copy3.G} {vs : List Value} (hn : ¬ g.n < 0) (hsz : g.cs.slots.size < 2 ^ 31) (Ha : Has g.cs vs .null) (hl : vs.length ≤ g.cs.slots.size) :
    (copied g.cs (Jvm.Free.CopyOfC.Copy3.fresh g) 0 0 (Jvm.Free.CopyOfC.Copy3.mn g)).cls = g.cOA ∧ (copied g.cs (Jvm.Free.CopyOfC.Copy3.fresh g) 0 0 (Jvm.Free.CopyOfC.Copy3.mn g)).vm = .none ∧ (copied g.cs (Jvm.Free.CopyOfC.Copy3.fresh g) 0 0 (Jvm.Free.CopyOfC.Copy3.mn g)).slots.size = g.n.toNatClampNeg ∧
      Has (copied g.cs (Jvm.Free.CopyOfC.Copy3.fresh g) 0 0 (Jvm.Free.CopyOfC.Copy3.mn g)) vs .null := by
  obtain ⟨b1, b2⟩ := back32 hn
  have hmn : Jvm.Free.CopyOfC.Copy3.mn g = Int32.ofNat (min g.n.toNatClampNeg g.cs.slots.size) := by
    show (if g.n < g.cs.slots.size.toInt32 then g.n else g.cs.slots.size.toInt32) = _
    have t1 : (g.cs.slots.size.toInt32).toInt = (g.cs.slots.size : Int) := len_toInt hsz
    have t2 : g.n.toInt = (g.n.toNatClampNeg : Int) := nat_of hn
    by_cases q : g.n < g.cs.slots.size.toInt32
    · rw [if_pos q]
      rw [Int32.lt_iff_toInt_lt, t1, t2] at q
      have e : min g.n.toNatClampNeg g.cs.slots.size = g.n.toNatClampNeg := by omega
      rw [e]; exact b1.symm
    · rw [if_neg q]
      rw [Int32.lt_iff_toInt_lt, t1, t2] at q
      have e : min g.n.toNatClampNeg g.cs.slots.size = g.cs.slots.size := by omega
      rw [e]; try rfl
  have hf : (Jvm.Free.CopyOfC.Copy3.fresh g).slots = Array.replicate g.n.toNatClampNeg .null := rfl
  obtain ⟨f1, f2, f3⟩ := Jvm.Free.SB.copied_facts g.cs (Jvm.Free.CopyOfC.Copy3.fresh g) 0 0 (Jvm.Free.CopyOfC.Copy3.mn g)
  have hs : (copied g.cs (Jvm.Free.CopyOfC.Copy3.fresh g) 0 0 (Jvm.Free.CopyOfC.Copy3.mn g)).slots.size = g.n.toNatClampNeg := by rw [f3, hf]; simp
  refine ⟨f1, f2, hs, fun k hk => ?_⟩
  rw [hs] at hk
  have hat := Jvm.Free.SBG.copied_at (cs := g.cs) (cd := Jvm.Free.CopyOfC.Copy3.fresh g) (p := 0) (n := min g.n.toNatClampNeg g.cs.slots.size) (by decide) (by omega) (by rw [hf, Array.size_replicate]; omega) k
  rw [← hmn] at hat
  refine Eq.trans hat ?_
  by_cases q : k < min g.n.toNatClampNeg g.cs.slots.size
  · rw [if_pos ⟨Nat.zero_le _, by omega⟩, Nat.sub_zero]
    have hk2 : k < g.cs.slots.size := by omega
    have w := Ha k hk2
    rw [Array.getElem?_eq_getElem hk2] at w
    have e : g.cs.slots.getD k .null = vs.getD k .null := by
      rw [← Option.some.inj w]
      simp [Array.getD, hk2]
    rw [e]
  · rw [if_neg (by omega)]
    have e : vs.getD k .null = .null := by
      rw [List.getD_eq_getElem?_getD, List.getElem?_eq_none (by omega)]; rfl
    rw [e, hf, Array.getElem?_replicate, if_pos hk]
/-- Arrays.copyOf(Object[], int), one step of a walk -/
theorem own_copyOf {p : Program} {l : Launch} {e : Env} {R : Room} {s : State} {m : MethodId} {args : Array Value} {below : List Frame} {meth : Method} {c : Code} {T : State} {locs : List Loc} {cells slots : Nat} {Z : State} {a0 : Array Value} {h : Heap}
    (X : Stand p l e R s m args below meth c T locs cells slots) (hx : p.tables.exec = Jvm.exec) (hZ : Z.Warmed39 s.vm) (hw : ∀ d ∈ tables_1, d.before a0 Z = true) {own : String} {index : Nat} (hown : s.vm.findClass own = some m.cls) (w : (Jvm.Cond.methodLink own index ⟨"java/util/Arrays", "copyOf", "([Ljava/lang/Object;I)[Ljava/lang/Object;"⟩).before a0 Z = true) (eT : T.heap = h)
    (hM : ∃ (c : ClassId) (k : Class) (m : Addr), Z.vm.findClass "[Ljava/lang/Object;" = some c ∧ Z.vm.classes[c]? = some k ∧ k.mirror = some m) {ea : Addr} {k : ClassId} {z n : Int32} {vs : List Value} (V : Arv Z h ea k (.object "java/lang/Object") z vs .null) (EX : Exa Z h ea "[Ljava/lang/Object;") (O : Ovr Z k "java/lang/Object")
    (hl : vs.length ≤ z.toNatClampNeg) (hel : ∀ i, vs.getD i .null = .null ∨ ∃ b : Addr, vs.getD i .null = .ref b ∧ Ins Z h b "java/lang/Object" true) (hn : ¬ n < 0) {K : Nat} (hK : n.toNatClampNeg ≤ K) (hK2 : K * 4 ≤ 536870912) (hz : z.toNatClampNeg < 2 ^ 31)
    {g : JFrame} (hg : g.method = m) (hsize : g.locals.size = c.maxLocals) {rest : List Value} (hs : g.stack = .int n :: .ref ea :: rest) (hd : decode c.code g.pc = .ok (.invokestatic index, 3)) (hf : 4 ≤ R.frames) {W : Nat} (hW : 2 * g.monitorRoom + (rest.map fun v => v.category).sum ≤ W) (hlo : W + 77 ≤ R.locals) (hc : cells + 1 ≤ R.cells) (hsl : slots + K ≤ R.slots) :
    ∃ T' h' k', Stand p l e R s m args below meth c T' locs (cells + 1) (slots + K) ∧ T'.heap = h' ∧ Ext h h' ∧ Arv Z h' h.size k' (.object "java/lang/Object") n vs .null ∧ Exa Z h' h.size "[Ljava/lang/Object;" ∧ Ovr Z k' "java/lang/Object" ∧
      ∀ target, Steps p.tables e below (T'.setTop { g with pc := g.pc + 3, stack := .ref h.size :: rest }) target → Steps p.tables e below (T.setTop g) target := by
  obtain ⟨cs, Ar, hk, Sz, Nn, Ha, Ga⟩ := V
  obtain ⟨cOA, kOA, mir, m1, m2, m3⟩ := hM
  obtain ⟨cx, kx, x1, x2, x3, x4, -⟩ := EX
  cases x1.symm.trans Ar.1
  cases m1.symm.trans x2
  cases m2.symm.trans x3
  obtain ⟨kO, cObj, o1, o2, o3⟩ := O
  subst hk
  cases m2.symm.trans o1
  obtain ⟨kObj, ob⟩ := Vm.classAt_of_findClass o3
  have wcode : (Jvm.Cond.code (⟨"java/util/Arrays", "copyOf", "([Ljava/lang/Object;I)[Ljava/lang/Object;"⟩ : MethodName) _ 2 _).before a0 Z = true := (w_ hw 154 rfl)
  obtain ⟨mk, hnamed⟩ := Cond.code_named wcode
  have hAR : Z.vm.findClass "java/util/Arrays" = some mk.cls := findClass_of_methodNamed hnamed
  have hpre : ∀ vm₁, s.WarmedH vm₁ → Jvm.Free.CopyOfC.Copy2.P K ⟨ea, cs, n, mir, cs.cls, cObj, mk.cls⟩ #[.ref ea, .int n] (T.setVm vm₁) := fun vm₁ hW₁ => by
    have al : Z.vm.Alike vm₁ := hZ.alike.trans hW₁.alike
    have hZ1 : Z.Warmed39 (T.setVm vm₁).vm := State.Warmed39.trans hZ hW₁.wide
    obtain ⟨k1, a1, a2⟩ := al.2.2 _ _ m2
    obtain ⟨k2, c1, c2⟩ := al.2.2 _ _ ob
    refine ⟨rfl, ⟨rfl, by show T.heap[ea]? = _; rw [eT]; exact Ar.1, Ar.2.2, Ar.2.1.1, ⟨k1, cObj, _, a1, by rw [a2]; exact o2, rfl⟩, (by show vm₁.findClass _ = _; rw [al.findClass]; exact m1), ⟨k1, a1, by rw [a2]; exact o2, by rw [a2]; exact m3⟩, (by show vm₁.findClass _ = _; rw [al.findClass]; exact o3), ⟨k2, c1⟩, (by show vm₁.findClass _ = _; rw [al.findClass]; exact hAR), ?_, hK, (by show n.toNatClampNeg * 4 ≤ 536870912; omega), (by show cs.slots.size < _; rw [Sz]; exact hz), fun i hi => ?_⟩, notFace_of_selects (args := #[]) (mvT hZ1 (w_ hw 158 rfl)), rfl⟩
    · show 0 ≤ n.toInt
      rw [nat_of hn]; omega
    · refine ⟨_, Ha i hi, ?_⟩
      rcases hel i with q | ⟨b, q, I⟩
      · exact Or.inl q
      · obtain ⟨cv, cT, i1, i2, i3⟩ := I
        cases o3.symm.trans i2
        simp only [Bool.and_eq_true, Bool.not_eq_true'] at i3
        obtain ⟨kv, q2⟩ := Vm.classAt_of_assignable i3.2 ⟨_, ob⟩
        obtain ⟨k3, d1, -⟩ := al.2.2 _ _ q2
        exact Or.inr ⟨b, cv, q, by show T.heap[b]? = _; rw [eT]; exact i1, fun q z => by rw [z] at i3; exact absurd i3.1 (by simp [VmData.isStatics]), ⟨k3, d1⟩, (by show vm₁.assignable _ _ = true; rw [al.assignable]; exact i3.2)⟩
  obtain ⟨v, vm₁, ⟨T', L', k', n'⟩, hW₁, X', ⟨hv, hcell, l1, y1, z1, hold⟩, st⟩ := Jvm.LawKit.callS X hx (y := (⟨"java/util/Arrays", "copyOf", "([Ljava/lang/Object;I)[Ljava/lang/Object;"⟩ : MethodName)) hown (mvT hZ w) (mvT hZ (w_ hw 152 rfl)) (mvT hZ (w_ hw 153 rfl)) (mvT hZ wcode) (by decide) (Jvm.Free.CopyOfC.Copy2.pays K ⟨ea, cs, n, mir, cs.cls, cObj, mk.cls⟩ (own_tab2 hw hZ) hf hlo) hg hsize (argsL := [.ref ea, .int n]) (rest := rest) (lenOf own_pdC rfl) hs hW hd (fun vm₁ h₁ => ⟨hc, hsl, hpre vm₁ h₁⟩)
  dsimp only [Pt.U, Pt.locs, Pt.cells, Pt.slots] at X' st hcell l1 y1 z1 hold hv
  subst l1 y1 z1 hv
  have eH : (T.setVm vm₁).heap = h := eT
  rw [eH] at hcell hold st
  obtain ⟨g1, g2, g3, g4⟩ := own_copied (g := ⟨ea, cs, n, mir, cs.cls, cObj, mk.cls⟩) (vs := vs) hn (by show cs.slots.size < _; rw [Sz]; exact hz) Ha (by show _ ≤ cs.slots.size; rw [Sz]; exact hl)
  have AN : Arr Z T'.heap h.size _ (.object "java/lang/Object") := ⟨hcell, ⟨(fun q z => by rw [g2] at z; cases z), _, (by rw [g1]; exact m2), _, o2⟩, (by rw [g2]; exact fun z => by cases z)⟩
  refine ⟨T', _, cs.cls, X'.more (Nat.le_refl _) (Nat.add_le_add_left hK _), rfl, ⟨Nat.le_of_lt (Array.getElem?_eq_some_iff.mp hcell).1, hold⟩, ⟨_, AN, g1, g3, hn, g4, fun i hi => ?_⟩, ⟨_, _, hcell, (by rw [g1]; exact m1), (by rw [g1]; exact m2), (by rw [g2]; rfl), (fun q => by rw [o2] at q; cases q)⟩, ⟨_, _, m2, o2, o3⟩, st⟩
  rcases hel i with q | ⟨b, q, -⟩
  · rw [q]; rfl
  · rw [q]; rfl
theorem own_asg (vm : Vm) (s t : ClassId) : vm.assignable s t = (s == t || match vm.classes[s]?, vm.classes[t]? with
      | some ks, some kt =>
        match ks.kind, kt.kind with
        | .array sc _, .array tc _ =>
          if vm.isPrimitive sc || vm.isPrimitive tc then sc == tc else vm.assignableAux 255 sc tc
        | .primitive _, _ | _, .primitive _ => false
        | _, _ => if kt.isInterface then (vm.superinterfaces s).contains t else vm.isSubclass s t
      | _, _ => false) := rfl
theorem own_sub0 (vm : Vm) (s t : ClassId) : vm.isSubclassAux 0 s t = false := rfl
theorem own_sub1 (vm : Vm) (n : Nat) (s t : ClassId) : vm.isSubclassAux (n + 1) s t = (s == t || match vm.classes[s]? with
      | some k => match k.super with
        | some p => vm.isSubclassAux n p t
        | none => false
      | none => false) := rfl
theorem own_sub_step {vm : Vm} {c t p : ClassId} {k : Class} (hne : c ≠ t) (hk : vm.classes[c]? = some k) (hs : k.super = some p) (hp : ∀ n, vm.isSubclassAux n p t = false) : ∀ n, vm.isSubclassAux n c t = false := by
  intro n
  cases n with
  | zero => exact own_sub0 _ _ _
  | succ n => rw [own_sub1]; simp [hne, hk, hs, hp]
theorem own_sub_end {vm : Vm} {c t : ClassId} {k : Class} (hne : c ≠ t) (hk : vm.classes[c]? = some k) (hs : k.super = none) : ∀ n, vm.isSubclassAux n c t = false := by
  intro n
  cases n with
  | zero => exact own_sub0 _ _ _
  | succ n => rw [own_sub1]; simp [hne, hk, hs]
theorem own_sub (vm : Vm) (s t : ClassId) : vm.isSubclass s t = vm.isSubclassAux (vm.classes.size + 1) s t := rfl
theorem own_notA {Z : State} {A B C O K : String} {a0 : Array Value} {n : Nat} (w1 : (Jvm.Cond.superclass A B).before a0 Z = true) (w2 : (Jvm.Cond.superclass B C).before a0 Z = true) (w3 : (Jvm.Cond.superclass C O).before a0 Z = true) (w4 : (Jvm.Cond.noSuperclass O).before a0 Z = true) (wi : (Jvm.Cond.instantiable K n).before a0 Z = true)
    (k1 : A ≠ K) (k2 : B ≠ K) (k3 : C ≠ K) (k4 : O ≠ K) : ∃ c t, Z.vm.findClass A = some c ∧ Z.vm.findClass K = some t ∧ Z.vm.assignable c t = false := by
  obtain ⟨cL, h2⟩ := found_sup w1
  obtain ⟨cK, kK, i1, i2, i3, i4, -⟩ := Cond.instantiable_spec wi
  obtain ⟨p, q1, kp, s1, s2, s3, s4, s5, s6, s7⟩ := Cond.superclass_spec h2 w1
  obtain ⟨p2, q2, kp2, t1, t2, t3, t4, -⟩ := Cond.superclass_spec s1 w2
  obtain ⟨p4, q4, kp4, r1, r2, r3, r4, -⟩ := Cond.superclass_spec t1 w3
  obtain ⟨p3, q3, n1, n2, n3, -⟩ := Cond.noSuperclass_spec w4
  cases r1.symm.trans n1
  have e4 := own_sub_end (ids_ne n1 i1 k4) n2 n3
  have e3 := own_sub_step (ids_ne t1 i1 k3) r2 r4 e4
  have e2 := own_sub_step (ids_ne s1 i1 k2) t2 t4 e3
  have e1 := own_sub_step (ids_ne h2 i1 k1) s2 s4 e2
  have hne := ids_ne h2 i1 k1
  have i4' : kK.isInterface = false := by
    rw [Bool.or_eq_false_iff] at i4; exact i4.1
  refine ⟨cL, cK, h2, i1, ?_⟩
  rw [own_asg, s2, i2]
  simp [hne, s5, i3, i4', own_sub, e1]
theorem LVN.ext {Z : State} {h h' : Heap} {L : Addr} {n : Int32} {vs : List Value} (F : LVN Z h L n vs) (E : Ext h h') : LVN Z h' L n vs := by
  obtain ⟨ar, k, h1, h2, h3⟩ := F
  exact ⟨ar, k, h1.ext E, h2.ext E, h3.ext E⟩
theorem own_step {a g : Int64} {b : Int64} (h : b = (a + (1 : Int64)) + g) (hg : 0 ≤ g.toInt ∧ g.toInt ≤ 1023) (ha : -2147483648 ≤ a.toInt ∧ a.toInt ≤ 2147490000) : b.toInt = a.toInt + 1 + g.toInt := by
  have e1 : (1 : Int64).toInt = 1 := by decide
  have h1 := c_ladd a 1
  have h2 := c_ladd (a + 1) g
  have r1 := rng64 (a + 1)
  have r2 := rng64 (a + 1 + g)
  rw [h]; omega
theorem own_gap (z : Int32) : 0 ≤ (z &&& (1023 : Int32)).toInt64.toInt ∧ (z &&& (1023 : Int32)).toInt64.toInt ≤ 1023 := by
  have h := c_and z 1023 (by decide)
  have e : (1023 : Int32).toInt = 1023 := by decide
  rw [c_i2l]; omega
theorem own_nar {a : Int64} (h : -2147483648 ≤ a.toInt ∧ a.toInt ≤ 2147483647) : a.toInt32.toInt = a.toInt := by
  have h1 := c_l2i a
  have r := rng32 a.toInt32
  omega
theorem own_sorted {ps pg : Int32} {l0 l1 l2 l3 : Int64} (h0 : l0 = ps.toInt64) (h1 : l1 = ((l0 + (1 : Int64)) + ((pg &&& (1023 : Int32)).toInt64))) (h2 : l2 = ((l1 + (1 : Int64)) + ((((pg.toUInt32 >>> ((10 : Int32) &&& 31).toUInt32).toInt32) &&& (1023 : Int32)).toInt64))) (h3 : l3 = ((l2 + (1 : Int64)) + ((((pg.toUInt32 >>> ((20 : Int32) &&& 31).toUInt32).toInt32) &&& (1023 : Int32)).toInt64)))
    (h : ¬ (0 : Int32) < (lcmpW l3 (2147483647 : Int64))) : l0.toInt32 < l1.toInt32 ∧ l1.toInt32 < l2.toInt32 ∧ l2.toInt32 < l3.toInt32 := by
  have g1 := own_gap pg
  have g2 := own_gap ((pg.toUInt32 >>> ((10 : Int32) &&& 31).toUInt32).toInt32)
  have g3 := own_gap ((pg.toUInt32 >>> ((20 : Int32) &&& 31).toUInt32).toInt32)
  have r0 := rng32 ps
  have e0 : l0.toInt = ps.toInt := by rw [h0]; exact c_i2l ps
  have e1 := own_step h1 g1 (by omega)
  have e2 := own_step h2 g2 (by omega)
  have e3 := own_step h3 g3 (by omega)
  have em : (2147483647 : Int64).toInt = 2147483647 := by decide
  have hm : ¬ (2147483647 : Int64) < l3 := fun z => h ((lw_gt l3 2147483647).mpr z)
  rw [Int64.lt_iff_toInt_lt, em] at hm
  have n0 := own_nar (a := l0) (by omega)
  have n1 := own_nar (a := l1) (by omega)
  have n2 := own_nar (a := l2) (by omega)
  have n3 := own_nar (a := l3) (by omega)
  refine ⟨?_, ?_, ?_⟩ <;> rw [Int32.lt_iff_toInt_lt] <;> omega
theorem own_m5 (x : Int32) : ((x &&& (2147483647 : Int32)) % (5 : Int32)) = (0 : Int32) ∨ ((x &&& (2147483647 : Int32)) % (5 : Int32)) = (1 : Int32) ∨ ((x &&& (2147483647 : Int32)) % (5 : Int32)) = (2 : Int32) ∨ ((x &&& (2147483647 : Int32)) % (5 : Int32)) = (3 : Int32) ∨ ((x &&& (2147483647 : Int32)) % (5 : Int32)) = (4 : Int32) := by
  have h1 := c_and x 2147483647 (by decide)
  have h2 := (c_irem (x &&& (2147483647 : Int32)) 5 5 (by decide)).1 h1.1
  have h3 : ((x &&& (2147483647 : Int32)) % (5 : Int32)).toInt = 0 ∨ ((x &&& (2147483647 : Int32)) % (5 : Int32)).toInt = 1 ∨ ((x &&& (2147483647 : Int32)) % (5 : Int32)).toInt = 2 ∨ ((x &&& (2147483647 : Int32)) % (5 : Int32)).toInt = 3 ∨ ((x &&& (2147483647 : Int32)) % (5 : Int32)).toInt = 4 := by omega
  rcases h3 with h | h | h | h | h
  · exact Or.inl (Int32.toInt_inj.mp (h.trans (by decide)))
  · exact Or.inr (Or.inl (Int32.toInt_inj.mp (h.trans (by decide))))
  · exact Or.inr (Or.inr (Or.inl (Int32.toInt_inj.mp (h.trans (by decide)))))
  · exact Or.inr (Or.inr (Or.inr (Or.inl (Int32.toInt_inj.mp (h.trans (by decide))))))
  · exact Or.inr (Or.inr (Or.inr (Or.inr (Int32.toInt_inj.mp (h.trans (by decide))))))
theorem d_jdk_22_m_1_0 : decode jdk_22_method_1_code 0 = .ok (.aload_n 0, 1) := by decide +kernel
theorem d_jdk_22_m_1_1 : decode jdk_22_method_1_code 1 = .ok (.invokespecial 1, 3) := by decide +kernel
theorem d_jdk_22_m_1_4 : decode jdk_22_method_1_code 4 = .ok (.return_, 1) := by decide +kernel
theorem d_jdk_30_m_1_0 : decode jdk_30_method_1_code 0 = .ok (.aload_n 0, 1) := by decide +kernel
theorem d_jdk_30_m_1_1 : decode jdk_30_method_1_code 1 = .ok (.invokespecial 1, 3) := by decide +kernel
theorem d_jdk_30_m_1_4 : decode jdk_30_method_1_code 4 = .ok (.return_, 1) := by decide +kernel
theorem d_jdk_47_m_1_0 : decode jdk_47_method_1_code 0 = .ok (.aload_n 0, 1) := by decide +kernel
theorem d_jdk_47_m_1_1 : decode jdk_47_method_1_code 1 = .ok (.invokespecial 1, 3) := by decide +kernel
theorem d_jdk_47_m_1_4 : decode jdk_47_method_1_code 4 = .ok (.return_, 1) := by decide +kernel
theorem d_jdk_46_m_1_0 : decode jdk_46_method_1_code 0 = .ok (.aload_n 0, 1) := by decide +kernel
theorem d_jdk_46_m_1_1 : decode jdk_46_method_1_code 1 = .ok (.invokespecial 1, 3) := by decide +kernel
theorem d_jdk_46_m_1_4 : decode jdk_46_method_1_code 4 = .ok (.return_, 1) := by decide +kernel
theorem d_jdk_31_m_10_0 : decode jdk_31_method_10_code 0 = .ok (.aload_n 0, 1) := by decide +kernel
theorem d_jdk_31_m_10_1 : decode jdk_31_method_10_code 1 = .ok (.ifnonnull 11, 3) := by decide +kernel
theorem d_jdk_31_m_10_12 : decode jdk_31_method_10_code 12 = .ok (.aload_n 0, 1) := by decide +kernel
theorem d_jdk_31_m_10_13 : decode jdk_31_method_10_code 13 = .ok (.areturn, 1) := by decide +kernel
theorem d_jdk_29_m_65_0 : decode jdk_29_method_65_code 0 = .ok (.iload_n 0, 1) := by decide +kernel
theorem d_jdk_29_m_65_1 : decode jdk_29_method_65_code 1 = .ok (.iload_n 1, 1) := by decide +kernel
theorem d_jdk_29_m_65_2 : decode jdk_29_method_65_code 2 = .ok (.if_icmp .lt 7, 3) := by decide +kernel
theorem d_jdk_29_m_65_5 : decode jdk_29_method_65_code 5 = .ok (.iload_n 0, 1) := by decide +kernel
theorem d_jdk_29_m_65_6 : decode jdk_29_method_65_code 6 = .ok (.goto 4, 3) := by decide +kernel
theorem d_jdk_29_m_65_9 : decode jdk_29_method_65_code 9 = .ok (.iload_n 1, 1) := by decide +kernel
theorem d_jdk_29_m_65_10 : decode jdk_29_method_65_code 10 = .ok (.ireturn, 1) := by decide +kernel
theorem d_jdk_29_m_66_0 : decode jdk_29_method_66_code 0 = .ok (.lload_n 0, 1) := by decide +kernel
theorem d_jdk_29_m_66_1 : decode jdk_29_method_66_code 1 = .ok (.lload_n 2, 1) := by decide +kernel
theorem d_jdk_29_m_66_2 : decode jdk_29_method_66_code 2 = .ok (.lcmp, 1) := by decide +kernel
theorem d_jdk_29_m_66_3 : decode jdk_29_method_66_code 3 = .ok (.ifCond .lt 7, 3) := by decide +kernel
theorem d_jdk_29_m_66_6 : decode jdk_29_method_66_code 6 = .ok (.lload_n 0, 1) := by decide +kernel
theorem d_jdk_29_m_66_7 : decode jdk_29_method_66_code 7 = .ok (.goto 4, 3) := by decide +kernel
theorem d_jdk_29_m_66_10 : decode jdk_29_method_66_code 10 = .ok (.lload_n 2, 1) := by decide +kernel
theorem d_jdk_29_m_66_11 : decode jdk_29_method_66_code 11 = .ok (.lreturn, 1) := by decide +kernel
theorem d_jdk_29_m_70_0 : decode jdk_29_method_70_code 0 = .ok (.lload_n 0, 1) := by decide +kernel
theorem d_jdk_29_m_70_1 : decode jdk_29_method_70_code 1 = .ok (.lload_n 2, 1) := by decide +kernel
theorem d_jdk_29_m_70_2 : decode jdk_29_method_70_code 2 = .ok (.lcmp, 1) := by decide +kernel
theorem d_jdk_29_m_70_3 : decode jdk_29_method_70_code 3 = .ok (.ifCond .gt 7, 3) := by decide +kernel
theorem d_jdk_29_m_70_6 : decode jdk_29_method_70_code 6 = .ok (.lload_n 0, 1) := by decide +kernel
theorem d_jdk_29_m_70_7 : decode jdk_29_method_70_code 7 = .ok (.goto 4, 3) := by decide +kernel
theorem d_jdk_29_m_70_10 : decode jdk_29_method_70_code 10 = .ok (.lload_n 2, 1) := by decide +kernel
theorem d_jdk_29_m_70_11 : decode jdk_29_method_70_code 11 = .ok (.lreturn, 1) := by decide +kernel
theorem d_prog_32_m_1_0 : decode prog_32_method_1_code 0 = .ok (.aload_n 0, 1) := by decide +kernel
theorem d_prog_32_m_1_1 : decode prog_32_method_1_code 1 = .ok (.invokespecial 1, 3) := by decide +kernel
theorem d_prog_32_m_1_4 : decode prog_32_method_1_code 4 = .ok (.aload_n 0, 1) := by decide +kernel
theorem d_prog_32_m_1_5 : decode prog_32_method_1_code 5 = .ok (.aload_n 1, 1) := by decide +kernel
theorem d_prog_32_m_1_6 : decode prog_32_method_1_code 6 = .ok (.putfield 7, 3) := by decide +kernel
theorem d_prog_32_m_1_9 : decode prog_32_method_1_code 9 = .ok (.aload_n 0, 1) := by decide +kernel
theorem d_prog_32_m_1_10 : decode prog_32_method_1_code 10 = .ok (.aload_n 2, 1) := by decide +kernel
theorem d_prog_32_m_1_11 : decode prog_32_method_1_code 11 = .ok (.putfield 13, 3) := by decide +kernel
theorem d_prog_32_m_1_14 : decode prog_32_method_1_code 14 = .ok (.aload_n 0, 1) := by decide +kernel
theorem d_prog_32_m_1_15 : decode prog_32_method_1_code 15 = .ok (.aload_n 3, 1) := by decide +kernel
theorem d_prog_32_m_1_16 : decode prog_32_method_1_code 16 = .ok (.putfield 17, 3) := by decide +kernel
theorem d_prog_32_m_1_19 : decode prog_32_method_1_code 19 = .ok (.aload_n 0, 1) := by decide +kernel
theorem d_prog_32_m_1_20 : decode prog_32_method_1_code 20 = .ok (.aload 4, 2) := by decide +kernel
theorem d_prog_32_m_1_22 : decode prog_32_method_1_code 22 = .ok (.putfield 21, 3) := by decide +kernel
theorem d_prog_32_m_1_25 : decode prog_32_method_1_code 25 = .ok (.aload_n 0, 1) := by decide +kernel
theorem d_prog_32_m_1_26 : decode prog_32_method_1_code 26 = .ok (.iload 5, 2) := by decide +kernel
theorem d_prog_32_m_1_28 : decode prog_32_method_1_code 28 = .ok (.putfield 24, 3) := by decide +kernel
theorem d_prog_32_m_1_31 : decode prog_32_method_1_code 31 = .ok (.aload_n 0, 1) := by decide +kernel
theorem d_prog_32_m_1_32 : decode prog_32_method_1_code 32 = .ok (.iload 6, 2) := by decide +kernel
theorem d_prog_32_m_1_34 : decode prog_32_method_1_code 34 = .ok (.putfield 28, 3) := by decide +kernel
theorem d_prog_32_m_1_37 : decode prog_32_method_1_code 37 = .ok (.return_, 1) := by decide +kernel
theorem d_prog_32_m_11_0 : decode prog_32_method_11_code 0 = .ok (.aload_n 0, 1) := by decide +kernel
theorem d_prog_32_m_11_1 : decode prog_32_method_11_code 1 = .ok (.getfield 24, 3) := by decide +kernel
theorem d_prog_32_m_11_4 : decode prog_32_method_11_code 4 = .ok (.ireturn, 1) := by decide +kernel
theorem d_jdk_39_m_1_0 : decode jdk_39_method_1_code 0 = .ok (.aload_n 0, 1) := by decide +kernel
theorem d_jdk_39_m_1_1 : decode jdk_39_method_1_code 1 = .ok (.invokespecial 1, 3) := by decide +kernel
theorem d_jdk_39_m_1_4 : decode jdk_39_method_1_code 4 = .ok (.aload_n 0, 1) := by decide +kernel
theorem d_jdk_39_m_1_5 : decode jdk_39_method_1_code 5 = .ok (.iconst 0, 1) := by decide +kernel
theorem d_jdk_39_m_1_6 : decode jdk_39_method_1_code 6 = .ok (.putfield 7, 3) := by decide +kernel
theorem d_jdk_39_m_1_9 : decode jdk_39_method_1_code 9 = .ok (.return_, 1) := by decide +kernel
theorem d_jdk_38_m_2_0 : decode jdk_38_method_2_code 0 = .ok (.aload_n 0, 1) := by decide +kernel
theorem d_jdk_38_m_2_1 : decode jdk_38_method_2_code 1 = .ok (.invokespecial 1, 3) := by decide +kernel
theorem d_jdk_38_m_2_4 : decode jdk_38_method_2_code 4 = .ok (.aload_n 0, 1) := by decide +kernel
theorem d_jdk_38_m_2_5 : decode jdk_38_method_2_code 5 = .ok (.getstatic 39, 3) := by decide +kernel
theorem d_jdk_38_m_2_8 : decode jdk_38_method_2_code 8 = .ok (.putfield 9, 3) := by decide +kernel
theorem d_jdk_38_m_2_11 : decode jdk_38_method_2_code 11 = .ok (.return_, 1) := by decide +kernel
theorem d_jdk_38_m_6_0 : decode jdk_38_method_6_code 0 = .ok (.aload_n 0, 1) := by decide +kernel
theorem d_jdk_38_m_6_1 : decode jdk_38_method_6_code 1 = .ok (.getfield 9, 3) := by decide +kernel
theorem d_jdk_38_m_6_4 : decode jdk_38_method_6_code 4 = .ok (.arraylength, 1) := by decide +kernel
theorem d_jdk_38_m_6_5 : decode jdk_38_method_6_code 5 = .ok (.istore_n 2, 1) := by decide +kernel
theorem d_jdk_38_m_6_6 : decode jdk_38_method_6_code 6 = .ok (.iload_n 2, 1) := by decide +kernel
theorem d_jdk_38_m_6_7 : decode jdk_38_method_6_code 7 = .ok (.ifCond .gt 13, 3) := by decide +kernel
theorem d_jdk_38_m_6_10 : decode jdk_38_method_6_code 10 = .ok (.aload_n 0, 1) := by decide +kernel
theorem d_jdk_38_m_6_11 : decode jdk_38_method_6_code 11 = .ok (.getfield 9, 3) := by decide +kernel
theorem d_jdk_38_m_6_14 : decode jdk_38_method_6_code 14 = .ok (.getstatic 39, 3) := by decide +kernel
theorem d_jdk_38_m_6_17 : decode jdk_38_method_6_code 17 = .ok (.if_acmp .eq 28, 3) := by decide +kernel
theorem d_jdk_38_m_6_45 : decode jdk_38_method_6_code 45 = .ok (.aload_n 0, 1) := by decide +kernel
theorem d_jdk_38_m_6_46 : decode jdk_38_method_6_code 46 = .ok (.bipush 10, 2) := by decide +kernel
theorem d_jdk_38_m_6_48 : decode jdk_38_method_6_code 48 = .ok (.iload_n 1, 1) := by decide +kernel
theorem d_jdk_38_m_6_49 : decode jdk_38_method_6_code 49 = .ok (.invokestatic 79, 3) := by decide +kernel
theorem d_jdk_38_m_6_52 : decode jdk_38_method_6_code 52 = .ok (.anewarray 7, 3) := by decide +kernel
theorem d_jdk_38_m_6_55 : decode jdk_38_method_6_code 55 = .ok (.dup_x1, 1) := by decide +kernel
theorem d_jdk_38_m_6_56 : decode jdk_38_method_6_code 56 = .ok (.putfield 9, 3) := by decide +kernel
theorem d_jdk_38_m_6_59 : decode jdk_38_method_6_code 59 = .ok (.areturn, 1) := by decide +kernel
theorem d_jdk_38_m_7_0 : decode jdk_38_method_7_code 0 = .ok (.aload_n 0, 1) := by decide +kernel
theorem d_jdk_38_m_7_1 : decode jdk_38_method_7_code 1 = .ok (.aload_n 0, 1) := by decide +kernel
theorem d_jdk_38_m_7_2 : decode jdk_38_method_7_code 2 = .ok (.getfield 48, 3) := by decide +kernel
theorem d_jdk_38_m_7_5 : decode jdk_38_method_7_code 5 = .ok (.iconst 1, 1) := by decide +kernel
theorem d_jdk_38_m_7_6 : decode jdk_38_method_7_code 6 = .ok (.iadd, 1) := by decide +kernel
theorem d_jdk_38_m_7_7 : decode jdk_38_method_7_code 7 = .ok (.invokevirtual 69, 3) := by decide +kernel
theorem d_jdk_38_m_7_10 : decode jdk_38_method_7_code 10 = .ok (.areturn, 1) := by decide +kernel
theorem d_jdk_38_m_24_0 : decode jdk_38_method_24_code 0 = .ok (.iload_n 3, 1) := by decide +kernel
theorem d_jdk_38_m_24_1 : decode jdk_38_method_24_code 1 = .ok (.aload_n 2, 1) := by decide +kernel
theorem d_jdk_38_m_24_2 : decode jdk_38_method_24_code 2 = .ok (.arraylength, 1) := by decide +kernel
theorem d_jdk_38_m_24_3 : decode jdk_38_method_24_code 3 = .ok (.if_icmp .ne 8, 3) := by decide +kernel
theorem d_jdk_38_m_24_6 : decode jdk_38_method_24_code 6 = .ok (.aload_n 0, 1) := by decide +kernel
theorem d_jdk_38_m_24_7 : decode jdk_38_method_24_code 7 = .ok (.invokevirtual 129, 3) := by decide +kernel
theorem d_jdk_38_m_24_10 : decode jdk_38_method_24_code 10 = .ok (.astore_n 2, 1) := by decide +kernel
theorem d_jdk_38_m_24_11 : decode jdk_38_method_24_code 11 = .ok (.aload_n 2, 1) := by decide +kernel
theorem d_jdk_38_m_24_12 : decode jdk_38_method_24_code 12 = .ok (.iload_n 3, 1) := by decide +kernel
theorem d_jdk_38_m_24_13 : decode jdk_38_method_24_code 13 = .ok (.aload_n 1, 1) := by decide +kernel
theorem d_jdk_38_m_24_14 : decode jdk_38_method_24_code 14 = .ok (.aastore, 1) := by decide +kernel
theorem d_jdk_38_m_24_15 : decode jdk_38_method_24_code 15 = .ok (.aload_n 0, 1) := by decide +kernel
theorem d_jdk_38_m_24_16 : decode jdk_38_method_24_code 16 = .ok (.iload_n 3, 1) := by decide +kernel
theorem d_jdk_38_m_24_17 : decode jdk_38_method_24_code 17 = .ok (.iconst 1, 1) := by decide +kernel
theorem d_jdk_38_m_24_18 : decode jdk_38_method_24_code 18 = .ok (.iadd, 1) := by decide +kernel
theorem d_jdk_38_m_24_19 : decode jdk_38_method_24_code 19 = .ok (.putfield 48, 3) := by decide +kernel
theorem d_jdk_38_m_24_22 : decode jdk_38_method_24_code 22 = .ok (.return_, 1) := by decide +kernel
theorem d_jdk_38_m_25_0 : decode jdk_38_method_25_code 0 = .ok (.aload_n 0, 1) := by decide +kernel
theorem d_jdk_38_m_25_1 : decode jdk_38_method_25_code 1 = .ok (.dup, 1) := by decide +kernel
theorem d_jdk_38_m_25_2 : decode jdk_38_method_25_code 2 = .ok (.getfield 63, 3) := by decide +kernel
theorem d_jdk_38_m_25_5 : decode jdk_38_method_25_code 5 = .ok (.iconst 1, 1) := by decide +kernel
theorem d_jdk_38_m_25_6 : decode jdk_38_method_25_code 6 = .ok (.iadd, 1) := by decide +kernel
theorem d_jdk_38_m_25_7 : decode jdk_38_method_25_code 7 = .ok (.putfield 63, 3) := by decide +kernel
theorem d_jdk_38_m_25_10 : decode jdk_38_method_25_code 10 = .ok (.aload_n 0, 1) := by decide +kernel
theorem d_jdk_38_m_25_11 : decode jdk_38_method_25_code 11 = .ok (.aload_n 1, 1) := by decide +kernel
theorem d_jdk_38_m_25_12 : decode jdk_38_method_25_code 12 = .ok (.aload_n 0, 1) := by decide +kernel
theorem d_jdk_38_m_25_13 : decode jdk_38_method_25_code 13 = .ok (.getfield 9, 3) := by decide +kernel
theorem d_jdk_38_m_25_16 : decode jdk_38_method_25_code 16 = .ok (.aload_n 0, 1) := by decide +kernel
theorem d_jdk_38_m_25_17 : decode jdk_38_method_25_code 17 = .ok (.getfield 48, 3) := by decide +kernel
theorem d_jdk_38_m_25_20 : decode jdk_38_method_25_code 20 = .ok (.invokevirtual 131, 3) := by decide +kernel
theorem d_jdk_38_m_25_23 : decode jdk_38_method_25_code 23 = .ok (.iconst 1, 1) := by decide +kernel
theorem d_jdk_38_m_25_24 : decode jdk_38_method_25_code 24 = .ok (.ireturn, 1) := by decide +kernel
theorem d_jdk_44_m_1_0 : decode jdk_44_method_1_code 0 = .ok (.aload_n 0, 1) := by decide +kernel
theorem d_jdk_44_m_1_1 : decode jdk_44_method_1_code 1 = .ok (.invokespecial 1, 3) := by decide +kernel
theorem d_jdk_44_m_1_4 : decode jdk_44_method_1_code 4 = .ok (.aload_n 0, 1) := by decide +kernel
theorem d_jdk_44_m_1_5 : decode jdk_44_method_1_code 5 = .ok (.aload_n 1, 1) := by decide +kernel
theorem d_jdk_44_m_1_6 : decode jdk_44_method_1_code 6 = .ok (.invokestatic 7, 3) := by decide +kernel
theorem d_jdk_44_m_1_9 : decode jdk_44_method_1_code 9 = .ok (.putfield 13, 3) := by decide +kernel
theorem d_jdk_44_m_1_12 : decode jdk_44_method_1_code 12 = .ok (.aload_n 0, 1) := by decide +kernel
theorem d_jdk_44_m_1_13 : decode jdk_44_method_1_code 13 = .ok (.getstatic 19, 3) := by decide +kernel
theorem d_jdk_44_m_1_16 : decode jdk_44_method_1_code 16 = .ok (.putfield 24, 3) := by decide +kernel
theorem d_jdk_44_m_1_19 : decode jdk_44_method_1_code 19 = .ok (.return_, 1) := by decide +kernel
theorem d_jdk_44_m_2_0 : decode jdk_44_method_2_code 0 = .ok (.aload_n 0, 1) := by decide +kernel
theorem d_jdk_44_m_2_1 : decode jdk_44_method_2_code 1 = .ok (.invokespecial 1, 3) := by decide +kernel
theorem d_jdk_44_m_2_4 : decode jdk_44_method_2_code 4 = .ok (.aload_n 0, 1) := by decide +kernel
theorem d_jdk_44_m_2_5 : decode jdk_44_method_2_code 5 = .ok (.aload_n 1, 1) := by decide +kernel
theorem d_jdk_44_m_2_6 : decode jdk_44_method_2_code 6 = .ok (.invokestatic 7, 3) := by decide +kernel
theorem d_jdk_44_m_2_9 : decode jdk_44_method_2_code 9 = .ok (.putfield 13, 3) := by decide +kernel
theorem d_jdk_44_m_2_12 : decode jdk_44_method_2_code 12 = .ok (.aload_n 0, 1) := by decide +kernel
theorem d_jdk_44_m_2_13 : decode jdk_44_method_2_code 13 = .ok (.aload_n 2, 1) := by decide +kernel
theorem d_jdk_44_m_2_14 : decode jdk_44_method_2_code 14 = .ok (.invokestatic 7, 3) := by decide +kernel
theorem d_jdk_44_m_2_17 : decode jdk_44_method_2_code 17 = .ok (.putfield 24, 3) := by decide +kernel
theorem d_jdk_44_m_2_20 : decode jdk_44_method_2_code 20 = .ok (.return_, 1) := by decide +kernel
theorem d_jdk_45_m_1_0 : decode jdk_45_method_1_code 0 = .ok (.aload_n 0, 1) := by decide +kernel
theorem d_jdk_45_m_1_1 : decode jdk_45_method_1_code 1 = .ok (.invokespecial 1, 3) := by decide +kernel
theorem d_jdk_45_m_1_4 : decode jdk_45_method_1_code 4 = .ok (.aload_n 0, 1) := by decide +kernel
theorem d_jdk_45_m_1_5 : decode jdk_45_method_1_code 5 = .ok (.aload_n 1, 1) := by decide +kernel
theorem d_jdk_45_m_1_6 : decode jdk_45_method_1_code 6 = .ok (.putfield 7, 3) := by decide +kernel
theorem d_jdk_45_m_1_9 : decode jdk_45_method_1_code 9 = .ok (.aload_n 0, 1) := by decide +kernel
theorem d_jdk_45_m_1_10 : decode jdk_45_method_1_code 10 = .ok (.iload_n 2, 1) := by decide +kernel
theorem d_jdk_45_m_1_11 : decode jdk_45_method_1_code 11 = .ok (.putfield 13, 3) := by decide +kernel
theorem d_jdk_45_m_1_14 : decode jdk_45_method_1_code 14 = .ok (.return_, 1) := by decide +kernel
theorem d_jdk_56_m_4_0 : decode jdk_56_method_4_code 0 = .ok (.aload_n 0, 1) := by decide +kernel
theorem d_jdk_56_m_4_1 : decode jdk_56_method_4_code 1 = .ok (.arraylength, 1) := by decide +kernel
theorem d_jdk_56_m_4_2 : decode jdk_56_method_4_code 2 = .ok (.anewarray 2, 3) := by decide +kernel
theorem d_jdk_56_m_4_5 : decode jdk_56_method_4_code 5 = .ok (.astore_n 1, 1) := by decide +kernel
theorem d_jdk_56_m_4_6 : decode jdk_56_method_4_code 6 = .ok (.iconst 0, 1) := by decide +kernel
theorem d_jdk_56_m_4_7 : decode jdk_56_method_4_code 7 = .ok (.istore_n 2, 1) := by decide +kernel
theorem d_jdk_56_m_4_8 : decode jdk_56_method_4_code 8 = .ok (.iload_n 2, 1) := by decide +kernel
theorem d_jdk_56_m_4_9 : decode jdk_56_method_4_code 9 = .ok (.aload_n 0, 1) := by decide +kernel
theorem d_jdk_56_m_4_10 : decode jdk_56_method_4_code 10 = .ok (.arraylength, 1) := by decide +kernel
theorem d_jdk_56_m_4_11 : decode jdk_56_method_4_code 11 = .ok (.if_icmp .ge 18, 3) := by decide +kernel
theorem d_jdk_56_m_4_14 : decode jdk_56_method_4_code 14 = .ok (.aload_n 1, 1) := by decide +kernel
theorem d_jdk_56_m_4_15 : decode jdk_56_method_4_code 15 = .ok (.iload_n 2, 1) := by decide +kernel
theorem d_jdk_56_m_4_16 : decode jdk_56_method_4_code 16 = .ok (.aload_n 0, 1) := by decide +kernel
theorem d_jdk_56_m_4_17 : decode jdk_56_method_4_code 17 = .ok (.iload_n 2, 1) := by decide +kernel
theorem d_jdk_56_m_4_18 : decode jdk_56_method_4_code 18 = .ok (.aaload, 1) := by decide +kernel
theorem d_jdk_56_m_4_19 : decode jdk_56_method_4_code 19 = .ok (.invokestatic 37, 3) := by decide +kernel
theorem d_jdk_56_m_4_22 : decode jdk_56_method_4_code 22 = .ok (.aastore, 1) := by decide +kernel
theorem d_jdk_56_m_4_23 : decode jdk_56_method_4_code 23 = .ok (.iinc 2 1, 3) := by decide +kernel
theorem d_jdk_56_m_4_26 : decode jdk_56_method_4_code 26 = .ok (.goto (-18), 3) := by decide +kernel
theorem d_jdk_56_m_4_29 : decode jdk_56_method_4_code 29 = .ok (.new 12, 3) := by decide +kernel
theorem d_jdk_56_m_4_32 : decode jdk_56_method_4_code 32 = .ok (.dup, 1) := by decide +kernel
theorem d_jdk_56_m_4_33 : decode jdk_56_method_4_code 33 = .ok (.aload_n 1, 1) := by decide +kernel
theorem d_jdk_56_m_4_34 : decode jdk_56_method_4_code 34 = .ok (.iconst 0, 1) := by decide +kernel
theorem d_jdk_56_m_4_35 : decode jdk_56_method_4_code 35 = .ok (.invokespecial 43, 3) := by decide +kernel
theorem d_jdk_56_m_4_38 : decode jdk_56_method_4_code 38 = .ok (.areturn, 1) := by decide +kernel
theorem d_jdk_40_m_47_0 : decode jdk_40_method_47_code 0 = .ok (.aload_n 0, 1) := by decide +kernel
theorem d_jdk_40_m_47_1 : decode jdk_40_method_47_code 1 = .ok (.arraylength, 1) := by decide +kernel
theorem d_jdk_40_m_47_2 : decode jdk_40_method_47_code 2 = .ok (.tableswitch 57 0 2 #[26, 32, 43], 26) := by decide +kernel
theorem d_jdk_40_m_47_34 : decode jdk_40_method_47_code 34 = .ok (.new 96, 3) := by decide +kernel
theorem d_jdk_40_m_47_37 : decode jdk_40_method_47_code 37 = .ok (.dup, 1) := by decide +kernel
theorem d_jdk_40_m_47_38 : decode jdk_40_method_47_code 38 = .ok (.aload_n 0, 1) := by decide +kernel
theorem d_jdk_40_m_47_39 : decode jdk_40_method_47_code 39 = .ok (.iconst 0, 1) := by decide +kernel
theorem d_jdk_40_m_47_40 : decode jdk_40_method_47_code 40 = .ok (.aaload, 1) := by decide +kernel
theorem d_jdk_40_m_47_41 : decode jdk_40_method_47_code 41 = .ok (.invokespecial 98, 3) := by decide +kernel
theorem d_jdk_40_m_47_44 : decode jdk_40_method_47_code 44 = .ok (.areturn, 1) := by decide +kernel
theorem d_jdk_40_m_47_45 : decode jdk_40_method_47_code 45 = .ok (.new 96, 3) := by decide +kernel
theorem d_jdk_40_m_47_48 : decode jdk_40_method_47_code 48 = .ok (.dup, 1) := by decide +kernel
theorem d_jdk_40_m_47_49 : decode jdk_40_method_47_code 49 = .ok (.aload_n 0, 1) := by decide +kernel
theorem d_jdk_40_m_47_50 : decode jdk_40_method_47_code 50 = .ok (.iconst 0, 1) := by decide +kernel
theorem d_jdk_40_m_47_51 : decode jdk_40_method_47_code 51 = .ok (.aaload, 1) := by decide +kernel
theorem d_jdk_40_m_47_52 : decode jdk_40_method_47_code 52 = .ok (.aload_n 0, 1) := by decide +kernel
theorem d_jdk_40_m_47_53 : decode jdk_40_method_47_code 53 = .ok (.iconst 1, 1) := by decide +kernel
theorem d_jdk_40_m_47_54 : decode jdk_40_method_47_code 54 = .ok (.aaload, 1) := by decide +kernel
theorem d_jdk_40_m_47_55 : decode jdk_40_method_47_code 55 = .ok (.invokespecial 100, 3) := by decide +kernel
theorem d_jdk_40_m_47_58 : decode jdk_40_method_47_code 58 = .ok (.areturn, 1) := by decide +kernel
theorem d_jdk_40_m_47_59 : decode jdk_40_method_47_code 59 = .ok (.aload_n 0, 1) := by decide +kernel
theorem d_jdk_40_m_47_60 : decode jdk_40_method_47_code 60 = .ok (.invokestatic 109, 3) := by decide +kernel
theorem d_jdk_40_m_47_63 : decode jdk_40_method_47_code 63 = .ok (.areturn, 1) := by decide +kernel
theorem d_jdk_40_m_36_0 : decode jdk_40_method_36_code 0 = .ok (.getstatic 90, 3) := by decide +kernel
theorem d_jdk_40_m_36_3 : decode jdk_40_method_36_code 3 = .ok (.areturn, 1) := by decide +kernel
theorem d_jdk_38_m_9_0 : decode jdk_38_method_9_code 0 = .ok (.aload_n 0, 1) := by decide +kernel
theorem d_jdk_38_m_9_1 : decode jdk_38_method_9_code 1 = .ok (.getfield 48, 3) := by decide +kernel
theorem d_jdk_38_m_9_4 : decode jdk_38_method_9_code 4 = .ok (.ifCond .ne 7, 3) := by decide +kernel
theorem d_jdk_38_m_9_7 : decode jdk_38_method_9_code 7 = .ok (.iconst 1, 1) := by decide +kernel
theorem d_jdk_38_m_9_8 : decode jdk_38_method_9_code 8 = .ok (.goto 4, 3) := by decide +kernel
theorem d_jdk_38_m_9_11 : decode jdk_38_method_9_code 11 = .ok (.iconst 0, 1) := by decide +kernel
theorem d_jdk_38_m_9_12 : decode jdk_38_method_9_code 12 = .ok (.ireturn, 1) := by decide +kernel
theorem d_jdk_38_m_16_0 : decode jdk_38_method_16_code 0 = .ok (.aload_n 0, 1) := by decide +kernel
theorem d_jdk_38_m_16_1 : decode jdk_38_method_16_code 1 = .ok (.getfield 9, 3) := by decide +kernel
theorem d_jdk_38_m_16_4 : decode jdk_38_method_16_code 4 = .ok (.aload_n 0, 1) := by decide +kernel
theorem d_jdk_38_m_16_5 : decode jdk_38_method_16_code 5 = .ok (.getfield 48, 3) := by decide +kernel
theorem d_jdk_38_m_16_8 : decode jdk_38_method_16_code 8 = .ok (.invokestatic 66, 3) := by decide +kernel
theorem d_jdk_38_m_16_11 : decode jdk_38_method_16_code 11 = .ok (.areturn, 1) := by decide +kernel
theorem d_jdk_56_m_3_0 : decode jdk_56_method_3_code 0 = .ok (.aload_n 0, 1) := by decide +kernel
theorem d_jdk_56_m_3_1 : decode jdk_56_method_3_code 1 = .ok (.instanceof 10, 3) := by decide +kernel
theorem d_jdk_56_m_3_4 : decode jdk_56_method_3_code 4 = .ok (.ifCond .ne 22, 3) := by decide +kernel
theorem d_jdk_56_m_3_7 : decode jdk_56_method_3_code 7 = .ok (.aload_n 0, 1) := by decide +kernel
theorem d_jdk_56_m_3_8 : decode jdk_56_method_3_code 8 = .ok (.instanceof 12, 3) := by decide +kernel
theorem d_jdk_56_m_3_11 : decode jdk_56_method_3_code 11 = .ok (.ifCond .eq 20, 3) := by decide +kernel
theorem d_jdk_56_m_3_31 : decode jdk_56_method_3_code 31 = .ok (.aload_n 0, 1) := by decide +kernel
theorem d_jdk_56_m_3_32 : decode jdk_56_method_3_code 32 = .ok (.invokeinterface 20 1, 5) := by decide +kernel
theorem d_jdk_56_m_3_37 : decode jdk_56_method_3_code 37 = .ok (.ifCond .eq 7, 3) := by decide +kernel
theorem d_jdk_56_m_3_40 : decode jdk_56_method_3_code 40 = .ok (.invokestatic 26, 3) := by decide +kernel
theorem d_jdk_56_m_3_43 : decode jdk_56_method_3_code 43 = .ok (.areturn, 1) := by decide +kernel
theorem d_jdk_56_m_3_44 : decode jdk_56_method_3_code 44 = .ok (.aload_n 0, 1) := by decide +kernel
theorem d_jdk_56_m_3_45 : decode jdk_56_method_3_code 45 = .ok (.invokeinterface 30 1, 5) := by decide +kernel
theorem d_jdk_56_m_3_50 : decode jdk_56_method_3_code 50 = .ok (.invokestatic 34, 3) := by decide +kernel
theorem d_jdk_56_m_3_53 : decode jdk_56_method_3_code 53 = .ok (.areturn, 1) := by decide +kernel
theorem d_jdk_40_m_48_0 : decode jdk_40_method_48_code 0 = .ok (.aload_n 0, 1) := by decide +kernel
theorem d_jdk_40_m_48_1 : decode jdk_40_method_48_code 1 = .ok (.invokestatic 112, 3) := by decide +kernel
theorem d_jdk_40_m_48_4 : decode jdk_40_method_48_code 4 = .ok (.areturn, 1) := by decide +kernel
theorem d_prog_25_m_1_0 : decode prog_25_method_1_code 0 = .ok (.aload_n 0, 1) := by decide +kernel
theorem d_prog_25_m_1_1 : decode prog_25_method_1_code 1 = .ok (.invokespecial 1, 3) := by decide +kernel
theorem d_prog_25_m_1_4 : decode prog_25_method_1_code 4 = .ok (.aload_n 0, 1) := by decide +kernel
theorem d_prog_25_m_1_5 : decode prog_25_method_1_code 5 = .ok (.aload_n 1, 1) := by decide +kernel
theorem d_prog_25_m_1_6 : decode prog_25_method_1_code 6 = .ok (.invokestatic 7, 3) := by decide +kernel
theorem d_prog_25_m_1_9 : decode prog_25_method_1_code 9 = .ok (.putfield 13, 3) := by decide +kernel
theorem d_prog_25_m_1_12 : decode prog_25_method_1_code 12 = .ok (.return_, 1) := by decide +kernel
theorem d_jdk_45_m_3_0 : decode jdk_45_method_3_code 0 = .ok (.aload_n 0, 1) := by decide +kernel
theorem d_jdk_45_m_3_1 : decode jdk_45_method_3_code 1 = .ok (.getfield 7, 3) := by decide +kernel
theorem d_jdk_45_m_3_4 : decode jdk_45_method_3_code 4 = .ok (.arraylength, 1) := by decide +kernel
theorem d_jdk_45_m_3_5 : decode jdk_45_method_3_code 5 = .ok (.ireturn, 1) := by decide +kernel
theorem d_jdk_45_m_4_0 : decode jdk_45_method_4_code 0 = .ok (.aload_n 0, 1) := by decide +kernel
theorem d_jdk_45_m_4_1 : decode jdk_45_method_4_code 1 = .ok (.getfield 7, 3) := by decide +kernel
theorem d_jdk_45_m_4_4 : decode jdk_45_method_4_code 4 = .ok (.iload_n 1, 1) := by decide +kernel
theorem d_jdk_45_m_4_5 : decode jdk_45_method_4_code 5 = .ok (.aaload, 1) := by decide +kernel
theorem d_jdk_45_m_4_6 : decode jdk_45_method_4_code 6 = .ok (.areturn, 1) := by decide +kernel
theorem d_jdk_44_m_3_0 : decode jdk_44_method_3_code 0 = .ok (.aload_n 0, 1) := by decide +kernel
theorem d_jdk_44_m_3_1 : decode jdk_44_method_3_code 1 = .ok (.getfield 24, 3) := by decide +kernel
theorem d_jdk_44_m_3_4 : decode jdk_44_method_3_code 4 = .ok (.getstatic 19, 3) := by decide +kernel
theorem d_jdk_44_m_3_7 : decode jdk_44_method_3_code 7 = .ok (.if_acmp .eq 7, 3) := by decide +kernel
theorem d_jdk_44_m_3_10 : decode jdk_44_method_3_code 10 = .ok (.iconst 2, 1) := by decide +kernel
theorem d_jdk_44_m_3_11 : decode jdk_44_method_3_code 11 = .ok (.goto 4, 3) := by decide +kernel
theorem d_jdk_44_m_3_14 : decode jdk_44_method_3_code 14 = .ok (.iconst 1, 1) := by decide +kernel
theorem d_jdk_44_m_3_15 : decode jdk_44_method_3_code 15 = .ok (.ireturn, 1) := by decide +kernel
theorem d_jdk_44_m_5_0 : decode jdk_44_method_5_code 0 = .ok (.iload_n 1, 1) := by decide +kernel
theorem d_jdk_44_m_5_1 : decode jdk_44_method_5_code 1 = .ok (.ifCond .ne 8, 3) := by decide +kernel
theorem d_jdk_44_m_5_4 : decode jdk_44_method_5_code 4 = .ok (.aload_n 0, 1) := by decide +kernel
theorem d_jdk_44_m_5_5 : decode jdk_44_method_5_code 5 = .ok (.getfield 13, 3) := by decide +kernel
theorem d_jdk_44_m_5_8 : decode jdk_44_method_5_code 8 = .ok (.areturn, 1) := by decide +kernel
theorem d_jdk_44_m_5_9 : decode jdk_44_method_5_code 9 = .ok (.iload_n 1, 1) := by decide +kernel
theorem d_jdk_44_m_5_10 : decode jdk_44_method_5_code 10 = .ok (.iconst 1, 1) := by decide +kernel
theorem d_jdk_44_m_5_11 : decode jdk_44_method_5_code 11 = .ok (.if_icmp .ne 18, 3) := by decide +kernel
theorem d_jdk_44_m_5_14 : decode jdk_44_method_5_code 14 = .ok (.aload_n 0, 1) := by decide +kernel
theorem d_jdk_44_m_5_15 : decode jdk_44_method_5_code 15 = .ok (.getfield 24, 3) := by decide +kernel
theorem d_jdk_44_m_5_18 : decode jdk_44_method_5_code 18 = .ok (.getstatic 19, 3) := by decide +kernel
theorem d_jdk_44_m_5_21 : decode jdk_44_method_5_code 21 = .ok (.if_acmp .eq 8, 3) := by decide +kernel
theorem d_jdk_44_m_5_24 : decode jdk_44_method_5_code 24 = .ok (.aload_n 0, 1) := by decide +kernel
theorem d_jdk_44_m_5_25 : decode jdk_44_method_5_code 25 = .ok (.getfield 24, 3) := by decide +kernel
theorem d_jdk_44_m_5_28 : decode jdk_44_method_5_code 28 = .ok (.areturn, 1) := by decide +kernel
theorem d_prog_25_m_4_0 : decode prog_25_method_4_code 0 = .ok (.iconst 0, 1) := by decide +kernel
theorem d_prog_25_m_4_1 : decode prog_25_method_4_code 1 = .ok (.istore_n 2, 1) := by decide +kernel
theorem d_prog_25_m_4_2 : decode prog_25_method_4_code 2 = .ok (.aload_n 0, 1) := by decide +kernel
theorem d_prog_25_m_4_3 : decode prog_25_method_4_code 3 = .ok (.getfield 13, 3) := by decide +kernel
theorem d_prog_25_m_4_6 : decode prog_25_method_4_code 6 = .ok (.invokeinterface 31 1, 5) := by decide +kernel
theorem d_prog_25_m_4_11 : decode prog_25_method_4_code 11 = .ok (.istore_n 3, 1) := by decide +kernel
theorem d_prog_25_m_4_12 : decode prog_25_method_4_code 12 = .ok (.iload_n 2, 1) := by decide +kernel
theorem d_prog_25_m_4_13 : decode prog_25_method_4_code 13 = .ok (.iload_n 3, 1) := by decide +kernel
theorem d_prog_25_m_4_14 : decode prog_25_method_4_code 14 = .ok (.if_icmp .ge 45, 3) := by decide +kernel
theorem d_prog_25_m_4_17 : decode prog_25_method_4_code 17 = .ok (.iload_n 2, 1) := by decide +kernel
theorem d_prog_25_m_4_18 : decode prog_25_method_4_code 18 = .ok (.iload_n 3, 1) := by decide +kernel
theorem d_prog_25_m_4_19 : decode prog_25_method_4_code 19 = .ok (.iadd, 1) := by decide +kernel
theorem d_prog_25_m_4_20 : decode prog_25_method_4_code 20 = .ok (.iconst 1, 1) := by decide +kernel
theorem d_prog_25_m_4_21 : decode prog_25_method_4_code 21 = .ok (.iushr, 1) := by decide +kernel
theorem d_prog_25_m_4_22 : decode prog_25_method_4_code 22 = .ok (.istore 4, 2) := by decide +kernel
theorem d_prog_25_m_4_24 : decode prog_25_method_4_code 24 = .ok (.aload_n 0, 1) := by decide +kernel
theorem d_prog_25_m_4_25 : decode prog_25_method_4_code 25 = .ok (.getfield 13, 3) := by decide +kernel
theorem d_prog_25_m_4_28 : decode prog_25_method_4_code 28 = .ok (.iload 4, 2) := by decide +kernel
theorem d_prog_25_m_4_30 : decode prog_25_method_4_code 30 = .ok (.invokeinterface 35 2, 5) := by decide +kernel
theorem d_prog_25_m_4_35 : decode prog_25_method_4_code 35 = .ok (.checkcast 26, 3) := by decide +kernel
theorem d_prog_25_m_4_38 : decode prog_25_method_4_code 38 = .ok (.invokevirtual 39, 3) := by decide +kernel
theorem d_prog_25_m_4_41 : decode prog_25_method_4_code 41 = .ok (.iload_n 1, 1) := by decide +kernel
theorem d_prog_25_m_4_42 : decode prog_25_method_4_code 42 = .ok (.if_icmp .gt 11, 3) := by decide +kernel
theorem d_prog_25_m_4_45 : decode prog_25_method_4_code 45 = .ok (.iload 4, 2) := by decide +kernel
theorem d_prog_25_m_4_47 : decode prog_25_method_4_code 47 = .ok (.iconst 1, 1) := by decide +kernel
theorem d_prog_25_m_4_48 : decode prog_25_method_4_code 48 = .ok (.iadd, 1) := by decide +kernel
theorem d_prog_25_m_4_49 : decode prog_25_method_4_code 49 = .ok (.istore_n 2, 1) := by decide +kernel
theorem d_prog_25_m_4_50 : decode prog_25_method_4_code 50 = .ok (.goto 6, 3) := by decide +kernel
theorem d_prog_25_m_4_53 : decode prog_25_method_4_code 53 = .ok (.iload 4, 2) := by decide +kernel
theorem d_prog_25_m_4_55 : decode prog_25_method_4_code 55 = .ok (.istore_n 3, 1) := by decide +kernel
theorem d_prog_25_m_4_56 : decode prog_25_method_4_code 56 = .ok (.goto (-44), 3) := by decide +kernel
theorem d_prog_25_m_4_59 : decode prog_25_method_4_code 59 = .ok (.iload_n 2, 1) := by decide +kernel
theorem d_prog_25_m_4_60 : decode prog_25_method_4_code 60 = .ok (.ifCond .ne 7, 3) := by decide +kernel
theorem d_prog_25_m_4_63 : decode prog_25_method_4_code 63 = .ok (.aconst_null, 1) := by decide +kernel
theorem d_prog_25_m_4_64 : decode prog_25_method_4_code 64 = .ok (.goto 18, 3) := by decide +kernel
theorem d_prog_25_m_4_67 : decode prog_25_method_4_code 67 = .ok (.aload_n 0, 1) := by decide +kernel
theorem d_prog_25_m_4_68 : decode prog_25_method_4_code 68 = .ok (.getfield 13, 3) := by decide +kernel
theorem d_prog_25_m_4_71 : decode prog_25_method_4_code 71 = .ok (.iload_n 2, 1) := by decide +kernel
theorem d_prog_25_m_4_72 : decode prog_25_method_4_code 72 = .ok (.iconst 1, 1) := by decide +kernel
theorem d_prog_25_m_4_73 : decode prog_25_method_4_code 73 = .ok (.isub, 1) := by decide +kernel
theorem d_prog_25_m_4_74 : decode prog_25_method_4_code 74 = .ok (.invokeinterface 35 2, 5) := by decide +kernel
theorem d_prog_25_m_4_79 : decode prog_25_method_4_code 79 = .ok (.checkcast 26, 3) := by decide +kernel
theorem d_prog_25_m_4_82 : decode prog_25_method_4_code 82 = .ok (.areturn, 1) := by decide +kernel
theorem pd_0 : parseMethodDescriptor "()V" = some ⟨[], none⟩ := by decide +kernel
theorem pd_1 : parseMethodDescriptor "(II)I" = some ⟨[.int, .int], some .int⟩ := by decide +kernel
theorem pd_2 : parseMethodDescriptor "(I)[Ljava/lang/Object;" = some ⟨[.int], some (.array (.object "java/lang/Object"))⟩ := by decide +kernel
theorem pd_3 : parseMethodDescriptor "()[Ljava/lang/Object;" = some ⟨[], some (.array (.object "java/lang/Object"))⟩ := by decide +kernel
theorem pd_4 : parseMethodDescriptor "(Ljava/lang/Object;[Ljava/lang/Object;I)V" = some ⟨[(.object "java/lang/Object"), (.array (.object "java/lang/Object")), .int], none⟩ := by decide +kernel
theorem pd_5 : parseMethodDescriptor "(Ljava/lang/Object;)Ljava/lang/Object;" = some ⟨[(.object "java/lang/Object")], some (.object "java/lang/Object")⟩ := by decide +kernel
theorem pd_6 : parseMethodDescriptor "([Ljava/lang/Object;Z)V" = some ⟨[(.array (.object "java/lang/Object")), .boolean], none⟩ := by decide +kernel
theorem pd_7 : parseMethodDescriptor "(Ljava/lang/Object;)V" = some ⟨[(.object "java/lang/Object")], none⟩ := by decide +kernel
theorem pd_8 : parseMethodDescriptor "(Ljava/lang/Object;Ljava/lang/Object;)V" = some ⟨[(.object "java/lang/Object"), (.object "java/lang/Object")], none⟩ := by decide +kernel
theorem pd_9 : parseMethodDescriptor "([Ljava/lang/Object;)Ljava/util/List;" = some ⟨[(.array (.object "java/lang/Object"))], some (.object "java/util/List")⟩ := by decide +kernel
theorem pd_10 : parseMethodDescriptor "()Z" = some ⟨[], some .boolean⟩ := by decide +kernel
theorem pd_11 : parseMethodDescriptor "(Ljava/util/Collection;)Ljava/util/List;" = some ⟨[(.object "java/util/Collection")], some (.object "java/util/List")⟩ := by decide +kernel
theorem pd_12 : parseMethodDescriptor "()Ljava/util/List;" = some ⟨[], some (.object "java/util/List")⟩ := by decide +kernel
theorem pd_13 : parseMethodDescriptor "()I" = some ⟨[], some .int⟩ := by decide +kernel
theorem pd_14 : parseMethodDescriptor "(I)Ljava/lang/Object;" = some ⟨[.int], some (.object "java/lang/Object")⟩ := by decide +kernel
theorem pd_15 : parseMethodDescriptor "(Lcom/example/clausemap/clausemap/outline/Part;Lcom/example/clausemap/clausemap/outline/Part$Kind;Ljava/lang/String;Ljava/lang/String;II)V" = some ⟨[(.object "com/example/clausemap/clausemap/outline/Part"), (.object "com/example/clausemap/clausemap/outline/Part$Kind"), (.object "java/lang/String"), (.object "java/lang/String"), .int, .int], none⟩ := by decide +kernel
theorem pd_16 : parseMethodDescriptor "(Ljava/util/List;)V" = some ⟨[(.object "java/util/List")], none⟩ := by decide +kernel
theorem pd_17 : parseMethodDescriptor "(JJ)J" = some ⟨[.long, .long], some .long⟩ := by decide +kernel
theorem pd_18 : parseMethodDescriptor "(I)Lcom/example/clausemap/clausemap/outline/Part;" = some ⟨[.int], some (.object "com/example/clausemap/clausemap/outline/Part")⟩ := by decide +kernel
theorem pd_19 : parseMethodDescriptor "(Ljava/lang/Object;)Z" = some ⟨[(.object "java/lang/Object")], some .boolean⟩ := by decide +kernel
theorem pn_0 : plainName "java/util/AbstractCollection" = true := by first | (simp [plainName, overriddenIn]; done) | decide +kernel
theorem pn_1 : plainName "java/lang/Record" = true := by first | (simp [plainName, overriddenIn]; done) | decide +kernel
theorem pn_2 : plainName "java/util/ImmutableCollections$AbstractImmutableCollection" = true := by first | (simp [plainName, overriddenIn]; done) | decide +kernel
theorem pn_3 : plainName "java/util/ImmutableCollections$AbstractImmutableList" = true := by first | (simp [plainName, overriddenIn]; done) | decide +kernel
theorem pn_4 : plainName "java/util/Objects" = true := by first | (simp [plainName, overriddenIn]; done) | decide +kernel
theorem pn_5 : plainName "com/example/clausemap/clausemap/outline/Part" = true := by first | (simp [plainName, overriddenIn]; done) | decide +kernel
theorem pn_6 : plainName "java/util/AbstractList" = true := by first | (simp [plainName, overriddenIn]; done) | decide +kernel
theorem pn_7 : plainName "java/util/ArrayList" = true := by first | (simp [plainName, overriddenIn]; done) | decide +kernel
theorem pn_8 : plainName "java/util/ImmutableCollections$List12" = true := by first | (simp [plainName, overriddenIn]; done) | decide +kernel
theorem pn_9 : plainName "java/util/ImmutableCollections$ListN" = true := by first | (simp [plainName, overriddenIn]; done) | decide +kernel
theorem pn_10 : plainName "java/util/ImmutableCollections" = true := by first | (simp [plainName, overriddenIn]; done) | decide +kernel
theorem pn_11 : plainName "java/util/List" = true := by first | (simp [plainName, overriddenIn]; done) | decide +kernel
theorem pn_12 : plainName "com/example/clausemap/clausemap/outline/Outline" = true := by first | (simp [plainName, overriddenIn]; done) | decide +kernel
theorem pn_13 : plainName "com/example/clausemap/clausemap/outline/OutlinePartAtPinLaw" = true := by first | (simp [plainName, overriddenIn]; done) | decide +kernel
theorem ef_rmAC (m : MethodId) (x0 : Addr) : entryFrame m #[(.ref x0)] 1 = mkF m 0 #[rv x0] [] := by first | (simp [entryFrame, mkF, argsToLocals, Value.category]; done) | rfl
set_option maxRecDepth 65536 in
set_option maxHeartbeats 40000000 in
theorem rmAC (l : Launch) (Z : State) (a0 : Array Value) (hw : ∀ d ∈ tables_1, d.before a0 Z = true) (ws : List Jvm.Cond) (a : Addr) (h0 : Heap) (n0 : Nat) (Z0 : n0 ≤ h0.size)  :
    MetFree l (⟨"java/util/AbstractCollection", "<init>", "()V"⟩ : MethodName) (head1 (Jvm.Cond.code (⟨"java/util/AbstractCollection", "<init>", "()V"⟩ : MethodName) jdk_22_method_1_code 1 none :: ws) ({ frames := 1, cells := 0, slots := 0, locals := 12 } : Room)) (fun aa_ UU_ => aa_ = #[(.ref a)] ∧ Z.Warmed39 UU_.vm ∧ UU_.heap = h0) (fun _ _ _ _ _ => True) (fun _ UU_ oo_ UE_ => ∃ vv_ LL_, oo_ = .returned vv_ ∧ QV none h0 n0 vv_ UE_.heap LL_ ∧ FrameEnd UU_ oo_ UE_ LL_ ({ frames := 1, cells := 0, slots := 0, locals := 12 } : Room).cells ({ frames := 1, cells := 0, slots := 0, locals := 12 } : Room).slots) := by
  refine MetFree.of_bodySF (plainFor_of_name pn_0) hisR ?_
  intro p e s m args below meth c s₁ Bd hml0 hP hK
  obtain ⟨rfl, hZ, hh⟩ := hP
  have hx := Bd.exec
  have hby := Bd.bytes
  have hml : c.maxLocals = 1 := hml0
  have hown : s.vm.findClass "java/util/AbstractCollection" = some m.cls := findClass_of_methodNamed Bd.named
  have hnm := (name_of_methodNamed Bd.named Bd.method).1
  have X0 : Stand p l e ({ frames := 1, cells := 0, slots := 0, locals := 12 } : Room) s m #[(.ref a)] below meth c s₁ [] 0 0 := Stand.of_body Bd
  have e0 : s₁.heap = h0 := by rw [← hh, Bd.state]; rfl
  have N0 := Fr.nil n0
  have pre0 : ∀ tg, Steps p.tables e below (s₁.setTop (mkF m 0 #[rv a] [])) tg → Steps p.tables e below (s₁.setTop (entryFrame m #[(.ref a)] 1)) tg := fun tg kq_ => castTop (ef_rmAC m a) kq_
  obtain ⟨T1, X1, e1, st1⟩ := initO X0 hx hZ hown (w_ hw 46 rfl) (w_ hw 14 rfl) (w_ hw 15 rfl) e0 (g := (mkF m 1 #[rv a] [(.ref a)])) rfl (by rw [hml]; rfl) rfl (hb hby d_jdk_22_m_1_1) (by decide) (W := 0) (by show 2 * 0 + _ ≤ _; exact Nat.le_of_eq rfl) (by decide)
  obtain ⟨fs, hr, hrun, hended, hW, hsame⟩ := X1.leave (v := none) (fun _ => rfl)
  refine ⟨_, _, pre0 _ ?_, hrun, hended, _, _, rfl, ?_, ⟨_, rfl⟩, hW, hsame.mono (by decide) (by decide)⟩
  · show Sx p e below s₁ m 0 #[rv a] [] _
    refine XS.aloadN X0.here hx rfl (hb hby d_jdk_22_m_1_0) rfl rfl ?_
    refine st1 _ ?_
    show Sx p e below T1 m 4 #[rv a] [] _
    exact X1.returnOut hx Bd.returns (hb hby d_jdk_22_m_1_4) hr
  · show QV none h0 n0 _ T1.heap _
    rw [e1]
    exact ⟨rfl, N0, rfl⟩
theorem ef_rmRI (m : MethodId) (x0 : Addr) : entryFrame m #[(.ref x0)] 1 = mkF m 0 #[rv x0] [] := by first | (simp [entryFrame, mkF, argsToLocals, Value.category]; done) | rfl
set_option maxRecDepth 65536 in
set_option maxHeartbeats 40000000 in
theorem rmRI (l : Launch) (Z : State) (a0 : Array Value) (hw : ∀ d ∈ tables_1, d.before a0 Z = true) (ws : List Jvm.Cond) (a : Addr) (h0 : Heap) (n0 : Nat) (Z0 : n0 ≤ h0.size)  :
    MetFree l (⟨"java/lang/Record", "<init>", "()V"⟩ : MethodName) (head1 (Jvm.Cond.code (⟨"java/lang/Record", "<init>", "()V"⟩ : MethodName) jdk_30_method_1_code 1 none :: ws) ({ frames := 1, cells := 0, slots := 0, locals := 12 } : Room)) (fun aa_ UU_ => aa_ = #[(.ref a)] ∧ Z.Warmed39 UU_.vm ∧ UU_.heap = h0) (fun _ _ _ _ _ => True) (fun _ UU_ oo_ UE_ => ∃ vv_ LL_, oo_ = .returned vv_ ∧ QV none h0 n0 vv_ UE_.heap LL_ ∧ FrameEnd UU_ oo_ UE_ LL_ ({ frames := 1, cells := 0, slots := 0, locals := 12 } : Room).cells ({ frames := 1, cells := 0, slots := 0, locals := 12 } : Room).slots) := by
  refine MetFree.of_bodySF (plainFor_of_name pn_1) hisR ?_
  intro p e s m args below meth c s₁ Bd hml0 hP hK
  obtain ⟨rfl, hZ, hh⟩ := hP
  have hx := Bd.exec
  have hby := Bd.bytes
  have hml : c.maxLocals = 1 := hml0
  have hown : s.vm.findClass "java/lang/Record" = some m.cls := findClass_of_methodNamed Bd.named
  have hnm := (name_of_methodNamed Bd.named Bd.method).1
  have X0 : Stand p l e ({ frames := 1, cells := 0, slots := 0, locals := 12 } : Room) s m #[(.ref a)] below meth c s₁ [] 0 0 := Stand.of_body Bd
  have e0 : s₁.heap = h0 := by rw [← hh, Bd.state]; rfl
  have N0 := Fr.nil n0
  have pre0 : ∀ tg, Steps p.tables e below (s₁.setTop (mkF m 0 #[rv a] [])) tg → Steps p.tables e below (s₁.setTop (entryFrame m #[(.ref a)] 1)) tg := fun tg kq_ => castTop (ef_rmRI m a) kq_
  obtain ⟨T1, X1, e1, st1⟩ := initO X0 hx hZ hown (w_ hw 13 rfl) (w_ hw 14 rfl) (w_ hw 15 rfl) e0 (g := (mkF m 1 #[rv a] [(.ref a)])) rfl (by rw [hml]; rfl) rfl (hb hby d_jdk_30_m_1_1) (by decide) (W := 0) (by show 2 * 0 + _ ≤ _; exact Nat.le_of_eq rfl) (by decide)
  obtain ⟨fs, hr, hrun, hended, hW, hsame⟩ := X1.leave (v := none) (fun _ => rfl)
  refine ⟨_, _, pre0 _ ?_, hrun, hended, _, _, rfl, ?_, ⟨_, rfl⟩, hW, hsame.mono (by decide) (by decide)⟩
  · show Sx p e below s₁ m 0 #[rv a] [] _
    refine XS.aloadN X0.here hx rfl (hb hby d_jdk_30_m_1_0) rfl rfl ?_
    refine st1 _ ?_
    show Sx p e below T1 m 4 #[rv a] [] _
    exact X1.returnOut hx Bd.returns (hb hby d_jdk_30_m_1_4) hr
  · show QV none h0 n0 _ T1.heap _
    rw [e1]
    exact ⟨rfl, N0, rfl⟩
theorem ef_rmAIC (m : MethodId) (x0 : Addr) : entryFrame m #[(.ref x0)] 1 = mkF m 0 #[rv x0] [] := by first | (simp [entryFrame, mkF, argsToLocals, Value.category]; done) | rfl
set_option maxRecDepth 65536 in
set_option maxHeartbeats 40000000 in
theorem rmAIC (l : Launch) (Z : State) (a0 : Array Value) (hw : ∀ d ∈ tables_1, d.before a0 Z = true) (ws : List Jvm.Cond) (a : Addr) (h0 : Heap) (n0 : Nat) (Z0 : n0 ≤ h0.size)  :
    MetFree l (⟨"java/util/ImmutableCollections$AbstractImmutableCollection", "<init>", "()V"⟩ : MethodName) (head1 (Jvm.Cond.code (⟨"java/util/ImmutableCollections$AbstractImmutableCollection", "<init>", "()V"⟩ : MethodName) jdk_47_method_1_code 1 none :: ws) ({ frames := 2, cells := 0, slots := 0, locals := 24 } : Room)) (fun aa_ UU_ => aa_ = #[(.ref a)] ∧ Z.Warmed39 UU_.vm ∧ UU_.heap = h0) (fun _ _ _ _ _ => True) (fun _ UU_ oo_ UE_ => ∃ vv_ LL_, oo_ = .returned vv_ ∧ QV none h0 n0 vv_ UE_.heap LL_ ∧ FrameEnd UU_ oo_ UE_ LL_ ({ frames := 2, cells := 0, slots := 0, locals := 24 } : Room).cells ({ frames := 2, cells := 0, slots := 0, locals := 24 } : Room).slots) := by
  refine MetFree.of_bodySF (plainFor_of_name pn_2) hisR ?_
  intro p e s m args below meth c s₁ Bd hml0 hP hK
  obtain ⟨rfl, hZ, hh⟩ := hP
  have hx := Bd.exec
  have hby := Bd.bytes
  have hml : c.maxLocals = 1 := hml0
  have hown : s.vm.findClass "java/util/ImmutableCollections$AbstractImmutableCollection" = some m.cls := findClass_of_methodNamed Bd.named
  have hnm := (name_of_methodNamed Bd.named Bd.method).1
  have X0 : Stand p l e ({ frames := 2, cells := 0, slots := 0, locals := 24 } : Room) s m #[(.ref a)] below meth c s₁ [] 0 0 := Stand.of_body Bd
  have e0 : s₁.heap = h0 := by rw [← hh, Bd.state]; rfl
  have N0 := Fr.nil n0
  have pre0 : ∀ tg, Steps p.tables e below (s₁.setTop (mkF m 0 #[rv a] [])) tg → Steps p.tables e below (s₁.setTop (entryFrame m #[(.ref a)] 1)) tg := fun tg kq_ => castTop (ef_rmAIC m a) kq_
  obtain ⟨_, _, ⟨T1, L1, k1, n1⟩, -, X1, ⟨Lc1, hQ1, l1, y1, z1⟩, st1⟩ := X0.specialBack hx (y := (⟨"java/util/AbstractCollection", "<init>", "()V"⟩ : MethodName)) rfl hown (mvT hZ (w_ hw 201 rfl)) (mvT hZ (w_ hw 41 rfl)) (mvT hZ (w_ hw 45 rfl)) (by decide) (backOf (W := 0) (rmAC l Z a0 hw [] a h0 n0 Z0) hZ (w_ hw 45 rfl) (w_ hw 44 rfl) (by decide) (by decide)) (g := (mkF m 1 #[rv a] [(.ref a)])) rfl (by rw [hml]; rfl) (Steps.refl _) (a := a) (argsL := []) (rest := []) (lenOf pd_0 rfl) rfl (by show 2 * 0 + _ ≤ _; exact Nat.le_of_eq rfl) (hb hby d_jdk_47_m_1_1) (fun _ _ => ⟨rfl, e0, (by decide : 0 + 0 ≤ _), (by decide : 0 + 0 ≤ _)⟩)
  dsimp only [Pt.U, Pt.locs, Pt.cells, Pt.slots] at X1 l1 y1 z1 st1 hQ1
  subst l1 y1 z1
  obtain ⟨hv1, N1q, r1⟩ := hQ1
  subst hv1
  have N1 := Fr.app N0 N1q
  obtain ⟨fs, hr, hrun, hended, hW, hsame⟩ := X1.leave (v := none) (fun _ => rfl)
  refine ⟨_, _, pre0 _ ?_, hrun, hended, _, _, rfl, ?_, ⟨_, rfl⟩, hW, hsame.mono (by decide) (by decide)⟩
  · show Sx p e below s₁ m 0 #[rv a] [] _
    refine XS.aloadN X0.here hx rfl (hb hby d_jdk_47_m_1_0) rfl rfl ?_
    refine st1.trans ?_
    show Sx p e below T1 m 4 #[rv a] [] _
    exact X1.returnOut hx Bd.returns (hb hby d_jdk_47_m_1_4) hr
  · show QV none h0 n0 _ T1.heap _
    rw [r1]
    exact ⟨rfl, N1, rfl⟩
theorem ef_rmAIL (m : MethodId) (x0 : Addr) : entryFrame m #[(.ref x0)] 1 = mkF m 0 #[rv x0] [] := by first | (simp [entryFrame, mkF, argsToLocals, Value.category]; done) | rfl
set_option maxRecDepth 65536 in
set_option maxHeartbeats 40000000 in
theorem rmAIL (l : Launch) (Z : State) (a0 : Array Value) (hw : ∀ d ∈ tables_1, d.before a0 Z = true) (ws : List Jvm.Cond) (a : Addr) (h0 : Heap) (n0 : Nat) (Z0 : n0 ≤ h0.size)  :
    MetFree l (⟨"java/util/ImmutableCollections$AbstractImmutableList", "<init>", "()V"⟩ : MethodName) (head1 (Jvm.Cond.code (⟨"java/util/ImmutableCollections$AbstractImmutableList", "<init>", "()V"⟩ : MethodName) jdk_46_method_1_code 1 none :: ws) ({ frames := 3, cells := 0, slots := 0, locals := 36 } : Room)) (fun aa_ UU_ => aa_ = #[(.ref a)] ∧ Z.Warmed39 UU_.vm ∧ UU_.heap = h0) (fun _ _ _ _ _ => True) (fun _ UU_ oo_ UE_ => ∃ vv_ LL_, oo_ = .returned vv_ ∧ QV none h0 n0 vv_ UE_.heap LL_ ∧ FrameEnd UU_ oo_ UE_ LL_ ({ frames := 3, cells := 0, slots := 0, locals := 36 } : Room).cells ({ frames := 3, cells := 0, slots := 0, locals := 36 } : Room).slots) := by
  refine MetFree.of_bodySF (plainFor_of_name pn_3) hisR ?_
  intro p e s m args below meth c s₁ Bd hml0 hP hK
  obtain ⟨rfl, hZ, hh⟩ := hP
  have hx := Bd.exec
  have hby := Bd.bytes
  have hml : c.maxLocals = 1 := hml0
  have hown : s.vm.findClass "java/util/ImmutableCollections$AbstractImmutableList" = some m.cls := findClass_of_methodNamed Bd.named
  have hnm := (name_of_methodNamed Bd.named Bd.method).1
  have X0 : Stand p l e ({ frames := 3, cells := 0, slots := 0, locals := 36 } : Room) s m #[(.ref a)] below meth c s₁ [] 0 0 := Stand.of_body Bd
  have e0 : s₁.heap = h0 := by rw [← hh, Bd.state]; rfl
  have N0 := Fr.nil n0
  have pre0 : ∀ tg, Steps p.tables e below (s₁.setTop (mkF m 0 #[rv a] [])) tg → Steps p.tables e below (s₁.setTop (entryFrame m #[(.ref a)] 1)) tg := fun tg kq_ => castTop (ef_rmAIL m a) kq_
  obtain ⟨_, _, ⟨T1, L1, k1, n1⟩, -, X1, ⟨Lc1, hQ1, l1, y1, z1⟩, st1⟩ := X0.specialBack hx (y := (⟨"java/util/ImmutableCollections$AbstractImmutableCollection", "<init>", "()V"⟩ : MethodName)) rfl hown (mvT hZ (w_ hw 195 rfl)) (mvT hZ (w_ hw 196 rfl)) (mvT hZ (w_ hw 200 rfl)) (by decide) (backOf (W := 0) (rmAIC l Z a0 hw [] a h0 n0 Z0) hZ (w_ hw 200 rfl) (w_ hw 199 rfl) (by decide) (by decide)) (g := (mkF m 1 #[rv a] [(.ref a)])) rfl (by rw [hml]; rfl) (Steps.refl _) (a := a) (argsL := []) (rest := []) (lenOf pd_0 rfl) rfl (by show 2 * 0 + _ ≤ _; exact Nat.le_of_eq rfl) (hb hby d_jdk_46_m_1_1) (fun _ _ => ⟨rfl, e0, (by decide : 0 + 0 ≤ _), (by decide : 0 + 0 ≤ _)⟩)
  dsimp only [Pt.U, Pt.locs, Pt.cells, Pt.slots] at X1 l1 y1 z1 st1 hQ1
  subst l1 y1 z1
  obtain ⟨hv1, N1q, r1⟩ := hQ1
  subst hv1
  have N1 := Fr.app N0 N1q
  obtain ⟨fs, hr, hrun, hended, hW, hsame⟩ := X1.leave (v := none) (fun _ => rfl)
  refine ⟨_, _, pre0 _ ?_, hrun, hended, _, _, rfl, ?_, ⟨_, rfl⟩, hW, hsame.mono (by decide) (by decide)⟩
  · show Sx p e below s₁ m 0 #[rv a] [] _
    refine XS.aloadN X0.here hx rfl (hb hby d_jdk_46_m_1_0) rfl rfl ?_
    refine st1.trans ?_
    show Sx p e below T1 m 4 #[rv a] [] _
    exact X1.returnOut hx Bd.returns (hb hby d_jdk_46_m_1_4) hr
  · show QV none h0 n0 _ T1.heap _
    rw [r1]
    exact ⟨rfl, N1, rfl⟩
theorem ef_rmRN (m : MethodId) (x0 : Addr) : entryFrame m #[(.ref x0)] 1 = mkF m 0 #[rv x0] [] := by first | (simp [entryFrame, mkF, argsToLocals, Value.category]; done) | rfl
set_option maxRecDepth 65536 in
set_option maxHeartbeats 40000000 in
theorem rmRN (l : Launch) (Z : State) (a0 : Array Value) (hw : ∀ d ∈ tables_1, d.before a0 Z = true) (ws : List Jvm.Cond) (a : Addr) (h0 : Heap) (n0 : Nat) (Z0 : n0 ≤ h0.size)  :
    MetFree l (⟨"java/util/Objects", "requireNonNull", "(Ljava/lang/Object;)Ljava/lang/Object;"⟩ : MethodName) (head1 (Jvm.Cond.code (⟨"java/util/Objects", "requireNonNull", "(Ljava/lang/Object;)Ljava/lang/Object;"⟩ : MethodName) jdk_31_method_10_code 1 (some (.object "java/lang/Object")) :: ws) ({ frames := 0, cells := 0, slots := 0, locals := 0 } : Room)) (fun aa_ UU_ => aa_ = #[(.ref a)] ∧ Z.Warmed39 UU_.vm ∧ UU_.heap = h0) (fun _ _ _ _ _ => True) (fun _ UU_ oo_ UE_ => ∃ vv_ LL_, oo_ = .returned vv_ ∧ QV (some (.ref a)) h0 n0 vv_ UE_.heap LL_ ∧ FrameEnd UU_ oo_ UE_ LL_ ({ frames := 0, cells := 0, slots := 0, locals := 0 } : Room).cells ({ frames := 0, cells := 0, slots := 0, locals := 0 } : Room).slots) := by
  refine MetFree.of_bodySF (plainFor_of_name pn_4) hisR ?_
  intro p e s m args below meth c s₁ Bd hml0 hP hK
  obtain ⟨rfl, hZ, hh⟩ := hP
  have hx := Bd.exec
  have hby := Bd.bytes
  have hml : c.maxLocals = 1 := hml0
  have hown : s.vm.findClass "java/util/Objects" = some m.cls := findClass_of_methodNamed Bd.named
  have hnm := (name_of_methodNamed Bd.named Bd.method).1
  have X0 : Stand p l e ({ frames := 0, cells := 0, slots := 0, locals := 0 } : Room) s m #[(.ref a)] below meth c s₁ [] 0 0 := Stand.of_body Bd
  have e0 : s₁.heap = h0 := by rw [← hh, Bd.state]; rfl
  have N0 := Fr.nil n0
  have pre0 : ∀ tg, Steps p.tables e below (s₁.setTop (mkF m 0 #[rv a] [])) tg → Steps p.tables e below (s₁.setTop (entryFrame m #[(.ref a)] 1)) tg := fun tg kq_ => castTop (ef_rmRN m a) kq_
  obtain ⟨fs, hr, hrun, hended, hW, hsame⟩ := X0.leave (v := some (.ref a)) (fun h => by rw [Bd.returns] at h; cases h)
  refine ⟨_, _, pre0 _ ?_, hrun, hended, _, _, rfl, ?_, ⟨_, rfl⟩, hW, hsame.mono (by decide) (by decide)⟩
  · show Sx p e below s₁ m 0 #[rv a] [] _
    refine XS.aloadN X0.here hx rfl (hb hby d_jdk_31_m_10_0) rfl rfl ?_
    refine XS.ifnonnullYes X0.here hx rfl (pc0 := 1) (pc' := 12) rfl (hb hby d_jdk_31_m_10_1) rfl (by decide) (by decide) ?_
    refine XS.aloadN X0.here hx rfl (hb hby d_jdk_31_m_10_12) rfl rfl ?_
    show Sx p e below s₁ m 13 #[rv a] [(.ref a)] _
    jvm_step X0.here [X0.here.top, hx, (hb hby d_jdk_31_m_10_13), X0.method', Bd.returns, Value.isRef, FieldType.isReference]
    first | (intro acts; rw [hr _ acts rfl rfl rfl]) | rw [hr _ _ rfl rfl rfl]
    exact Steps.refl _
  · show QV (some (.ref a)) h0 n0 _ s₁.heap _
    rw [e0]
    exact ⟨rfl, N0, rfl⟩
theorem ef_rmMxI (m : MethodId) (x0 : Int32) (x1 : Int32) : entryFrame m #[(.int x0), (.int x1)] 2 = mkF m 0 #[iv x0, iv x1] [] := by first | (simp [entryFrame, mkF, argsToLocals, Value.category]; done) | rfl
set_option maxRecDepth 65536 in
set_option maxHeartbeats 40000000 in
theorem rmMxI (l : Launch) (Z : State) (a0 : Array Value) (hw : ∀ d ∈ tables_1, d.before a0 Z = true) (ws : List Jvm.Cond) (xa ya : Int32) (h0 : Heap) (n0 : Nat) (Z0 : n0 ≤ h0.size)  :
    MetFree l (⟨"java/lang/Math", "max", "(II)I"⟩ : MethodName) (head1 (Jvm.Cond.code (⟨"java/lang/Math", "max", "(II)I"⟩ : MethodName) jdk_29_method_65_code 2 (some .int) :: ws) ({ frames := 0, cells := 0, slots := 0, locals := 0 } : Room)) (fun aa_ UU_ => aa_ = #[(.int xa), (.int ya)] ∧ Z.Warmed39 UU_.vm ∧ UU_.heap = h0) (fun _ _ _ _ _ => True) (fun _ UU_ oo_ UE_ => ∃ vv_ LL_, oo_ = .returned vv_ ∧ QV (some (.int (if xa < ya then ya else xa))) h0 n0 vv_ UE_.heap LL_ ∧ FrameEnd UU_ oo_ UE_ LL_ ({ frames := 0, cells := 0, slots := 0, locals := 0 } : Room).cells ({ frames := 0, cells := 0, slots := 0, locals := 0 } : Room).slots) := by
  refine MetFree.of_bodySF (Jvm.Free.JP.mathPlain rfl (by decide +kernel)) hisR ?_
  intro p e s m args below meth c s₁ Bd hml0 hP hK
  obtain ⟨rfl, hZ, hh⟩ := hP
  have hx := Bd.exec
  have hby := Bd.bytes
  have hml : c.maxLocals = 2 := hml0
  have hown : s.vm.findClass "java/lang/Math" = some m.cls := findClass_of_methodNamed Bd.named
  have hnm := (name_of_methodNamed Bd.named Bd.method).1
  have X0 : Stand p l e ({ frames := 0, cells := 0, slots := 0, locals := 0 } : Room) s m #[(.int xa), (.int ya)] below meth c s₁ [] 0 0 := Stand.of_body Bd
  have e0 : s₁.heap = h0 := by rw [← hh, Bd.state]; rfl
  have N0 := Fr.nil n0
  have pre0 : ∀ tg, Steps p.tables e below (s₁.setTop (mkF m 0 #[iv xa, iv ya] [])) tg → Steps p.tables e below (s₁.setTop (entryFrame m #[(.int xa), (.int ya)] 2)) tg := fun tg kq_ => castTop (ef_rmMxI m xa ya) kq_
  have R1 : ∀ tg, Sx p e below s₁ m 2 #[iv xa, iv ya] [(.int ya), (.int xa)] tg → Sx p e below s₁ m 0 #[iv xa, iv ya] [] tg := by
    intro tg kt
    refine XS.iloadN X0.here hx rfl (hb hby d_jdk_29_m_65_0) rfl ?_
    refine XS.iloadN X0.here hx rfl (hb hby d_jdk_29_m_65_1) rfl ?_
    show Sx p e below s₁ m 2 #[iv xa, iv ya] [(.int ya), (.int xa)] _
    exact kt
  by_cases hc2_2 : xa < ya
  · obtain ⟨fs, hr, hrun, hended, hW, hsame⟩ := X0.leave (v := some (.int ya)) (fun h => by rw [Bd.returns] at h; cases h)
    refine ⟨_, _, pre0 _ (R1 _ ?_), hrun, hended, _, _, rfl, ?_, ⟨_, rfl⟩, hW, hsame.mono (by decide) (by decide)⟩
    · show Sx p e below s₁ m 2 #[iv xa, iv ya] [(.int ya), (.int xa)] _
      refine XS.icmpYes X0.here hx rfl (pc0 := 2) (pc' := 9) rfl (hb hby d_jdk_29_m_65_2) rfl (tlt hc2_2).1 (by decide) (by decide) ?_
      refine XS.iloadN X0.here hx rfl (hb hby d_jdk_29_m_65_9) rfl ?_
      show Sx p e below s₁ m 10 #[iv xa, iv ya] [(.int ya)] _
      exact retI X0 hx Bd.returns (hb hby d_jdk_29_m_65_10) hr
    · show QV (some (.int (if xa < ya then ya else xa))) h0 n0 _ s₁.heap _
      rw [e0]
      exact ⟨by rw [if_pos hc2_2], N0, rfl⟩
  · obtain ⟨fs, hr, hrun, hended, hW, hsame⟩ := X0.leave (v := some (.int xa)) (fun h => by rw [Bd.returns] at h; cases h)
    refine ⟨_, _, pre0 _ (R1 _ ?_), hrun, hended, _, _, rfl, ?_, ⟨_, rfl⟩, hW, hsame.mono (by decide) (by decide)⟩
    · show Sx p e below s₁ m 2 #[iv xa, iv ya] [(.int ya), (.int xa)] _
      refine XS.icmpNo X0.here hx rfl (hb hby d_jdk_29_m_65_2) rfl (flt hc2_2).1 ?_
      refine XS.iloadN X0.here hx rfl (hb hby d_jdk_29_m_65_5) rfl ?_
      refine XS.goto X0.here hx rfl (pc0 := 6) (pc' := 10) rfl (hb hby d_jdk_29_m_65_6) (by decide) (by decide) ?_
      show Sx p e below s₁ m 10 #[iv xa, iv ya] [(.int xa)] _
      exact retI X0 hx Bd.returns (hb hby d_jdk_29_m_65_10) hr
    · show QV (some (.int (if xa < ya then ya else xa))) h0 n0 _ s₁.heap _
      rw [e0]
      exact ⟨by rw [if_neg hc2_2], N0, rfl⟩
theorem ef_rmMxJ (m : MethodId) (x0 : Int64) (x1 : Int64) : entryFrame m #[(.long x0), (.long x1)] 4 = mkF m 0 #[jv_ x0, s_, jv_ x1, s_] [] := by first | (simp [entryFrame, mkF, argsToLocals, Value.category]; done) | rfl
set_option maxRecDepth 65536 in
set_option maxHeartbeats 40000000 in
theorem rmMxJ (l : Launch) (Z : State) (a0 : Array Value) (hw : ∀ d ∈ tables_1, d.before a0 Z = true) (ws : List Jvm.Cond) (xa ya : Int64) (h0 : Heap) (n0 : Nat) (Z0 : n0 ≤ h0.size)  :
    MetFree l (⟨"java/lang/Math", "max", "(JJ)J"⟩ : MethodName) (head1 (Jvm.Cond.code (⟨"java/lang/Math", "max", "(JJ)J"⟩ : MethodName) jdk_29_method_66_code 4 (some .long) :: ws) ({ frames := 0, cells := 0, slots := 0, locals := 0 } : Room)) (fun aa_ UU_ => aa_ = #[(.long xa), (.long ya)] ∧ Z.Warmed39 UU_.vm ∧ UU_.heap = h0) (fun _ _ _ _ _ => True) (fun _ UU_ oo_ UE_ => ∃ vv_ LL_, oo_ = .returned vv_ ∧ QV (some (.long (if (lcmpW xa ya) < (0 : Int32) then ya else xa))) h0 n0 vv_ UE_.heap LL_ ∧ FrameEnd UU_ oo_ UE_ LL_ ({ frames := 0, cells := 0, slots := 0, locals := 0 } : Room).cells ({ frames := 0, cells := 0, slots := 0, locals := 0 } : Room).slots) := by
  refine MetFree.of_bodySF (Jvm.Free.JP.mathPlain rfl (by decide +kernel)) hisR ?_
  intro p e s m args below meth c s₁ Bd hml0 hP hK
  obtain ⟨rfl, hZ, hh⟩ := hP
  have hx := Bd.exec
  have hby := Bd.bytes
  have hml : c.maxLocals = 4 := hml0
  have hown : s.vm.findClass "java/lang/Math" = some m.cls := findClass_of_methodNamed Bd.named
  have hnm := (name_of_methodNamed Bd.named Bd.method).1
  have X0 : Stand p l e ({ frames := 0, cells := 0, slots := 0, locals := 0 } : Room) s m #[(.long xa), (.long ya)] below meth c s₁ [] 0 0 := Stand.of_body Bd
  have e0 : s₁.heap = h0 := by rw [← hh, Bd.state]; rfl
  have N0 := Fr.nil n0
  have pre0 : ∀ tg, Steps p.tables e below (s₁.setTop (mkF m 0 #[jv_ xa, s_, jv_ ya, s_] [])) tg → Steps p.tables e below (s₁.setTop (entryFrame m #[(.long xa), (.long ya)] 4)) tg := fun tg kq_ => castTop (ef_rmMxJ m xa ya) kq_
  have R1 : ∀ tg, Sx p e below s₁ m 3 #[jv_ xa, s_, jv_ ya, s_] [(.int (lcmpW xa ya))] tg → Sx p e below s₁ m 0 #[jv_ xa, s_, jv_ ya, s_] [] tg := by
    intro tg kt
    refine XS.lloadN X0.here hx rfl (hb hby d_jdk_29_m_66_0) rfl ?_
    refine XS.lloadN X0.here hx rfl (hb hby d_jdk_29_m_66_1) rfl ?_
    refine XS.lcmp X0.here hx rfl (hb hby d_jdk_29_m_66_2) rfl ?_
    show Sx p e below s₁ m 3 #[jv_ xa, s_, jv_ ya, s_] [(.int (lcmpW xa ya))] _
    exact kt
  by_cases hc3_2 : (lcmpW xa ya) < (0 : Int32)
  · obtain ⟨fs, hr, hrun, hended, hW, hsame⟩ := X0.leave (v := some (.long ya)) (fun h => by rw [Bd.returns] at h; cases h)
    refine ⟨_, _, pre0 _ (R1 _ ?_), hrun, hended, _, _, rfl, ?_, ⟨_, rfl⟩, hW, hsame.mono (by decide) (by decide)⟩
    · show Sx p e below s₁ m 3 #[jv_ xa, s_, jv_ ya, s_] [(.int (lcmpW xa ya))] _
      refine XS.ifYes X0.here hx rfl (pc0 := 3) (pc' := 10) rfl (hb hby d_jdk_29_m_66_3) rfl ((if0 _ _).trans (tlt hc3_2).1) (by decide) (by decide) ?_
      refine XS.lloadN X0.here hx rfl (hb hby d_jdk_29_m_66_10) rfl ?_
      show Sx p e below s₁ m 11 #[jv_ xa, s_, jv_ ya, s_] [(.long ya)] _
      jvm_step X0.here [X0.here.top, hx, (hb hby d_jdk_29_m_66_11), X0.method', Bd.returns, narrow]
      first | (intro acts; rw [hr _ acts rfl rfl rfl]) | rw [hr _ _ rfl rfl rfl]
      exact Steps.refl _
    · show QV (some (.long (if (lcmpW xa ya) < (0 : Int32) then ya else xa))) h0 n0 _ s₁.heap _
      rw [e0]
      exact ⟨by rw [if_pos hc3_2], N0, rfl⟩
  · obtain ⟨fs, hr, hrun, hended, hW, hsame⟩ := X0.leave (v := some (.long xa)) (fun h => by rw [Bd.returns] at h; cases h)
    refine ⟨_, _, pre0 _ (R1 _ ?_), hrun, hended, _, _, rfl, ?_, ⟨_, rfl⟩, hW, hsame.mono (by decide) (by decide)⟩
    · show Sx p e below s₁ m 3 #[jv_ xa, s_, jv_ ya, s_] [(.int (lcmpW xa ya))] _
      refine XS.ifNo X0.here hx rfl (hb hby d_jdk_29_m_66_3) rfl ((if0 _ _).trans (flt hc3_2).1) ?_
      refine XS.lloadN X0.here hx rfl (hb hby d_jdk_29_m_66_6) rfl ?_
      refine XS.goto X0.here hx rfl (pc0 := 7) (pc' := 11) rfl (hb hby d_jdk_29_m_66_7) (by decide) (by decide) ?_
      show Sx p e below s₁ m 11 #[jv_ xa, s_, jv_ ya, s_] [(.long xa)] _
      jvm_step X0.here [X0.here.top, hx, (hb hby d_jdk_29_m_66_11), X0.method', Bd.returns, narrow]
      first | (intro acts; rw [hr _ acts rfl rfl rfl]) | rw [hr _ _ rfl rfl rfl]
      exact Steps.refl _
    · show QV (some (.long (if (lcmpW xa ya) < (0 : Int32) then ya else xa))) h0 n0 _ s₁.heap _
      rw [e0]
      exact ⟨by rw [if_neg hc3_2], N0, rfl⟩
theorem ef_rmMnJ (m : MethodId) (x0 : Int64) (x1 : Int64) : entryFrame m #[(.long x0), (.long x1)] 4 = mkF m 0 #[jv_ x0, s_, jv_ x1, s_] [] := by first | (simp [entryFrame, mkF, argsToLocals, Value.category]; done) | rfl
set_option maxRecDepth 65536 in
set_option maxHeartbeats 40000000 in
theorem rmMnJ (l : Launch) (Z : State) (a0 : Array Value) (hw : ∀ d ∈ tables_1, d.before a0 Z = true) (ws : List Jvm.Cond) (xa ya : Int64) (h0 : Heap) (n0 : Nat) (Z0 : n0 ≤ h0.size)  :
    MetFree l (⟨"java/lang/Math", "min", "(JJ)J"⟩ : MethodName) (head1 (Jvm.Cond.code (⟨"java/lang/Math", "min", "(JJ)J"⟩ : MethodName) jdk_29_method_70_code 4 (some .long) :: ws) ({ frames := 0, cells := 0, slots := 0, locals := 0 } : Room)) (fun aa_ UU_ => aa_ = #[(.long xa), (.long ya)] ∧ Z.Warmed39 UU_.vm ∧ UU_.heap = h0) (fun _ _ _ _ _ => True) (fun _ UU_ oo_ UE_ => ∃ vv_ LL_, oo_ = .returned vv_ ∧ QV (some (.long (if (0 : Int32) < (lcmpW xa ya) then ya else xa))) h0 n0 vv_ UE_.heap LL_ ∧ FrameEnd UU_ oo_ UE_ LL_ ({ frames := 0, cells := 0, slots := 0, locals := 0 } : Room).cells ({ frames := 0, cells := 0, slots := 0, locals := 0 } : Room).slots) := by
  refine MetFree.of_bodySF (Jvm.Free.JP.mathPlain rfl (by decide +kernel)) hisR ?_
  intro p e s m args below meth c s₁ Bd hml0 hP hK
  obtain ⟨rfl, hZ, hh⟩ := hP
  have hx := Bd.exec
  have hby := Bd.bytes
  have hml : c.maxLocals = 4 := hml0
  have hown : s.vm.findClass "java/lang/Math" = some m.cls := findClass_of_methodNamed Bd.named
  have hnm := (name_of_methodNamed Bd.named Bd.method).1
  have X0 : Stand p l e ({ frames := 0, cells := 0, slots := 0, locals := 0 } : Room) s m #[(.long xa), (.long ya)] below meth c s₁ [] 0 0 := Stand.of_body Bd
  have e0 : s₁.heap = h0 := by rw [← hh, Bd.state]; rfl
  have N0 := Fr.nil n0
  have pre0 : ∀ tg, Steps p.tables e below (s₁.setTop (mkF m 0 #[jv_ xa, s_, jv_ ya, s_] [])) tg → Steps p.tables e below (s₁.setTop (entryFrame m #[(.long xa), (.long ya)] 4)) tg := fun tg kq_ => castTop (ef_rmMnJ m xa ya) kq_
  have R1 : ∀ tg, Sx p e below s₁ m 3 #[jv_ xa, s_, jv_ ya, s_] [(.int (lcmpW xa ya))] tg → Sx p e below s₁ m 0 #[jv_ xa, s_, jv_ ya, s_] [] tg := by
    intro tg kt
    refine XS.lloadN X0.here hx rfl (hb hby d_jdk_29_m_70_0) rfl ?_
    refine XS.lloadN X0.here hx rfl (hb hby d_jdk_29_m_70_1) rfl ?_
    refine XS.lcmp X0.here hx rfl (hb hby d_jdk_29_m_70_2) rfl ?_
    show Sx p e below s₁ m 3 #[jv_ xa, s_, jv_ ya, s_] [(.int (lcmpW xa ya))] _
    exact kt
  by_cases hc3_2 : (0 : Int32) < (lcmpW xa ya)
  · obtain ⟨fs, hr, hrun, hended, hW, hsame⟩ := X0.leave (v := some (.long ya)) (fun h => by rw [Bd.returns] at h; cases h)
    refine ⟨_, _, pre0 _ (R1 _ ?_), hrun, hended, _, _, rfl, ?_, ⟨_, rfl⟩, hW, hsame.mono (by decide) (by decide)⟩
    · show Sx p e below s₁ m 3 #[jv_ xa, s_, jv_ ya, s_] [(.int (lcmpW xa ya))] _
      refine XS.ifYes X0.here hx rfl (pc0 := 3) (pc' := 10) rfl (hb hby d_jdk_29_m_70_3) rfl ((if0 _ _).trans (tlt hc3_2).2.2.1) (by decide) (by decide) ?_
      refine XS.lloadN X0.here hx rfl (hb hby d_jdk_29_m_70_10) rfl ?_
      show Sx p e below s₁ m 11 #[jv_ xa, s_, jv_ ya, s_] [(.long ya)] _
      jvm_step X0.here [X0.here.top, hx, (hb hby d_jdk_29_m_70_11), X0.method', Bd.returns, narrow]
      first | (intro acts; rw [hr _ acts rfl rfl rfl]) | rw [hr _ _ rfl rfl rfl]
      exact Steps.refl _
    · show QV (some (.long (if (0 : Int32) < (lcmpW xa ya) then ya else xa))) h0 n0 _ s₁.heap _
      rw [e0]
      exact ⟨by rw [if_pos hc3_2], N0, rfl⟩
  · obtain ⟨fs, hr, hrun, hended, hW, hsame⟩ := X0.leave (v := some (.long xa)) (fun h => by rw [Bd.returns] at h; cases h)
    refine ⟨_, _, pre0 _ (R1 _ ?_), hrun, hended, _, _, rfl, ?_, ⟨_, rfl⟩, hW, hsame.mono (by decide) (by decide)⟩
    · show Sx p e below s₁ m 3 #[jv_ xa, s_, jv_ ya, s_] [(.int (lcmpW xa ya))] _
      refine XS.ifNo X0.here hx rfl (hb hby d_jdk_29_m_70_3) rfl ((if0 _ _).trans (flt hc3_2).2.2.1) ?_
      refine XS.lloadN X0.here hx rfl (hb hby d_jdk_29_m_70_6) rfl ?_
      refine XS.goto X0.here hx rfl (pc0 := 7) (pc' := 11) rfl (hb hby d_jdk_29_m_70_7) (by decide) (by decide) ?_
      show Sx p e below s₁ m 11 #[jv_ xa, s_, jv_ ya, s_] [(.long xa)] _
      jvm_step X0.here [X0.here.top, hx, (hb hby d_jdk_29_m_70_11), X0.method', Bd.returns, narrow]
      first | (intro acts; rw [hr _ acts rfl rfl rfl]) | rw [hr _ _ rfl rfl rfl]
      exact Steps.refl _
    · show QV (some (.long (if (0 : Int32) < (lcmpW xa ya) then ya else xa))) h0 n0 _ s₁.heap _
      rw [e0]
      exact ⟨by rw [if_neg hc3_2], N0, rfl⟩
theorem ef_rmPI (m : MethodId) (x0 : Addr) (x5 : Int32) (x6 : Int32) : entryFrame m #[(.ref x0), .null, .null, .null, .null, (.int x5), (.int x6)] 7 = mkF m 0 #[rv x0, n_, n_, n_, n_, iv x5, iv x6] [] := by first | (simp [entryFrame, mkF, argsToLocals, Value.category]; done) | rfl
set_option maxRecDepth 65536 in
set_option maxHeartbeats 40000000 in
theorem rmPI (l : Launch) (Z : State) (a0 : Array Value) (hw : ∀ d ∈ tables_1, d.before a0 Z = true) (ws : List Jvm.Cond) (a : Addr) (st en : Int32) (h0 : Heap) (n0 : Nat) (Z0 : n0 ≤ h0.size) (hE : Exa Z h0 a "com/example/clausemap/clausemap/outline/Part") (hF_parent : Fld Z h0 a "com/example/clausemap/clausemap/outline/Part" "parent" "Lcom/example/clausemap/clausemap/outline/Part;" .null) (hF_kind : Fld Z h0 a "com/example/clausemap/clausemap/outline/Part" "kind" "Lcom/example/clausemap/clausemap/outline/Part$Kind;" .null) (hF_number : Fld Z h0 a "com/example/clausemap/clausemap/outline/Part" "number" "Ljava/lang/String;" .null) (hF_heading : Fld Z h0 a "com/example/clausemap/clausemap/outline/Part" "heading" "Ljava/lang/String;" .null) (hF_start : Fld Z h0 a "com/example/clausemap/clausemap/outline/Part" "start" "I" (.int (0 : Int32))) (hF_end : Fld Z h0 a "com/example/clausemap/clausemap/outline/Part" "end" "I" (.int (0 : Int32))) (hG : n0 ≤ a) :
    MetFree l (⟨"com/example/clausemap/clausemap/outline/Part", "<init>", "(Lcom/example/clausemap/clausemap/outline/Part;Lcom/example/clausemap/clausemap/outline/Part$Kind;Ljava/lang/String;Ljava/lang/String;II)V"⟩ : MethodName) (head1 (Jvm.Cond.code (⟨"com/example/clausemap/clausemap/outline/Part", "<init>", "(Lcom/example/clausemap/clausemap/outline/Part;Lcom/example/clausemap/clausemap/outline/Part$Kind;Ljava/lang/String;Ljava/lang/String;II)V"⟩ : MethodName) prog_32_method_1_code 7 none :: ws) ({ frames := 2, cells := 0, slots := 0, locals := 24 } : Room)) (fun aa_ UU_ => aa_ = #[(.ref a), .null, .null, .null, .null, (.int st), (.int en)] ∧ Z.Warmed39 UU_.vm ∧ UU_.heap = h0) (fun _ _ _ _ _ => True) (fun _ UU_ oo_ UE_ => ∃ vv_ LL_, oo_ = .returned vv_ ∧ QF Z a "com/example/clausemap/clausemap/outline/Part" "start" "I" (.int st) h0 n0 vv_ UE_.heap LL_ ∧ FrameEnd UU_ oo_ UE_ LL_ ({ frames := 2, cells := 0, slots := 0, locals := 24 } : Room).cells ({ frames := 2, cells := 0, slots := 0, locals := 24 } : Room).slots) := by
  refine MetFree.of_bodySF (plainFor_of_name pn_5) hisR ?_
  intro p e s m args below meth c s₁ Bd hml0 hP hK
  obtain ⟨rfl, hZ, hh⟩ := hP
  have hx := Bd.exec
  have hby := Bd.bytes
  have hml : c.maxLocals = 7 := hml0
  have hown : s.vm.findClass "com/example/clausemap/clausemap/outline/Part" = some m.cls := findClass_of_methodNamed Bd.named
  have hnm := (name_of_methodNamed Bd.named Bd.method).1
  have X0 : Stand p l e ({ frames := 2, cells := 0, slots := 0, locals := 24 } : Room) s m #[(.ref a), .null, .null, .null, .null, (.int st), (.int en)] below meth c s₁ [] 0 0 := Stand.of_body Bd
  have e0 : s₁.heap = h0 := by rw [← hh, Bd.state]; rfl
  have N0 := Fr.nil n0
  have K0 : Keep h0 h0 [a] := Keep.refl h0 _
  have pre0 : ∀ tg, Steps p.tables e below (s₁.setTop (mkF m 0 #[rv a, n_, n_, n_, n_, iv st, iv en] [])) tg → Steps p.tables e below (s₁.setTop (entryFrame m #[(.ref a), .null, .null, .null, .null, (.int st), (.int en)] 7)) tg := fun tg kq_ => castTop (ef_rmPI m a st en) kq_
  obtain ⟨_, _, ⟨T1, L1, k1, n1⟩, -, X1, ⟨Lc1, hQ1, l1, y1, z1⟩, st1⟩ := X0.specialBack hx (y := (⟨"java/lang/Record", "<init>", "()V"⟩ : MethodName)) rfl hown (mvT hZ (w_ hw 8 rfl)) (mvT hZ (w_ hw 9 rfl)) (mvT hZ (w_ hw 12 rfl)) (by decide) (backOf (W := 0) (rmRI l Z a0 hw [] a h0 n0 Z0) hZ (w_ hw 12 rfl) (w_ hw 11 rfl) (by decide) (by decide)) (g := (mkF m 1 #[rv a, n_, n_, n_, n_, iv st, iv en] [(.ref a)])) rfl (by rw [hml]; rfl) (Steps.refl _) (a := a) (argsL := []) (rest := []) (lenOf pd_0 rfl) rfl (by show 2 * 0 + _ ≤ _; exact Nat.le_of_eq rfl) (hb hby d_prog_32_m_1_1) (fun _ _ => ⟨rfl, e0, (by decide : 0 + 0 ≤ _), (by decide : 0 + 0 ≤ _)⟩)
  dsimp only [Pt.U, Pt.locs, Pt.cells, Pt.slots] at X1 l1 y1 z1 st1 hQ1
  subst l1 y1 z1
  obtain ⟨hv1, N1q, r1⟩ := hQ1
  subst hv1
  have N1 := Fr.app N0 N1q
  obtain ⟨T2, h2, X2, e2, W2, st2⟩ := putF X1 hx hZ hown (host := "") (Or.inl (w_ hw 16 rfl)) Via.refl r1 hF_parent hE (Or.inr ⟨(w_ hw 17 rfl), rfl, hnm⟩) (w_ hw 3 rfl) (ty := (.object "com/example/clausemap/clausemap/outline/Part")) (by decide) rfl rfl (g := (mkF m 6 #[rv a, n_, n_, n_, n_, iv st, iv en] [.null, (.ref a)])) rfl rfl (hb hby d_prog_32_m_1_6)
  have Z2 : n0 ≤ h2.size := Nat.le_trans Z0 (Nat.le_of_eq W2.size.symm)
  have N2 := Fr.snoc X2 N1 hG
  have K2 : Keep h0 h2 [a] := K0.wr W2 (Or.inl (List.mem_of_getElem? (i := 0) rfl))
  have Fw2 := hF_parent.same W2
  have f4 := (hE.wr W2)
  have f5 := (hF_kind.other W2 (Or.inr (slot_ne (Or.inr (w_ hw 19 rfl)) (Or.inr (w_ hw 17 rfl)) (by decide) (t := (.object "com/example/clausemap/clausemap/outline/Part$Kind")) (t' := (.object "com/example/clausemap/clausemap/outline/Part")) (by decide) (by decide))))
  obtain ⟨T3, h3, X3, e3, W3, st3⟩ := putF X2 hx hZ hown (host := "") (Or.inl (w_ hw 18 rfl)) Via.refl e2 f5 f4 (Or.inr ⟨(w_ hw 19 rfl), rfl, hnm⟩) (w_ hw 3 rfl) (ty := (.object "com/example/clausemap/clausemap/outline/Part$Kind")) (by decide) rfl rfl (g := (mkF m 11 #[rv a, n_, n_, n_, n_, iv st, iv en] [.null, (.ref a)])) rfl rfl (hb hby d_prog_32_m_1_11)
  have Z3 : n0 ≤ h3.size := Nat.le_trans Z2 (Nat.le_of_eq W3.size.symm)
  have N3 := Fr.snoc X3 N2 hG
  have K3 : Keep h0 h3 [a] := K2.wr W3 (Or.inl (List.mem_of_getElem? (i := 0) rfl))
  have Fw3 := f5.same W3
  have f7 := (f4.wr W3)
  have f8 := ((hF_number.other W2 (Or.inr (slot_ne (Or.inr (w_ hw 21 rfl)) (Or.inr (w_ hw 17 rfl)) (by decide) (t := (.object "java/lang/String")) (t' := (.object "com/example/clausemap/clausemap/outline/Part")) (by decide) (by decide)))).other W3 (Or.inr (slot_ne (Or.inr (w_ hw 21 rfl)) (Or.inr (w_ hw 19 rfl)) (by decide) (t := (.object "java/lang/String")) (t' := (.object "com/example/clausemap/clausemap/outline/Part$Kind")) (by decide) (by decide))))
  obtain ⟨T6, h6, X6, e6, W6, st6⟩ := putF X3 hx hZ hown (host := "") (Or.inl (w_ hw 20 rfl)) Via.refl e3 f8 f7 (Or.inr ⟨(w_ hw 21 rfl), rfl, hnm⟩) (w_ hw 3 rfl) (ty := (.object "java/lang/String")) (by decide) rfl rfl (g := (mkF m 16 #[rv a, n_, n_, n_, n_, iv st, iv en] [.null, (.ref a)])) rfl rfl (hb hby d_prog_32_m_1_16)
  have Z6 : n0 ≤ h6.size := Nat.le_trans Z3 (Nat.le_of_eq W6.size.symm)
  have N6 := Fr.snoc X6 N3 hG
  have K6 : Keep h0 h6 [a] := K3.wr W6 (Or.inl (List.mem_of_getElem? (i := 0) rfl))
  have Fw6 := f8.same W6
  have f10 := (f7.wr W6)
  have f11 := (((hF_heading.other W2 (Or.inr (slot_ne (Or.inr (w_ hw 23 rfl)) (Or.inr (w_ hw 17 rfl)) (by decide) (t := (.object "java/lang/String")) (t' := (.object "com/example/clausemap/clausemap/outline/Part")) (by decide) (by decide)))).other W3 (Or.inr (slot_ne (Or.inr (w_ hw 23 rfl)) (Or.inr (w_ hw 19 rfl)) (by decide) (t := (.object "java/lang/String")) (t' := (.object "com/example/clausemap/clausemap/outline/Part$Kind")) (by decide) (by decide)))).other W6 (Or.inr (slot_ne (Or.inr (w_ hw 23 rfl)) (Or.inr (w_ hw 21 rfl)) (by decide) (t := (.object "java/lang/String")) (t' := (.object "java/lang/String")) (by decide) (by decide))))
  obtain ⟨T9, h9, X9, e9, W9, st9⟩ := putF X6 hx hZ hown (host := "") (Or.inl (w_ hw 22 rfl)) Via.refl e6 f11 f10 (Or.inr ⟨(w_ hw 23 rfl), rfl, hnm⟩) (w_ hw 3 rfl) (ty := (.object "java/lang/String")) (by decide) rfl rfl (g := (mkF m 22 #[rv a, n_, n_, n_, n_, iv st, iv en] [.null, (.ref a)])) rfl rfl (hb hby d_prog_32_m_1_22)
  have Z9 : n0 ≤ h9.size := Nat.le_trans Z6 (Nat.le_of_eq W9.size.symm)
  have N9 := Fr.snoc X9 N6 hG
  have K9 : Keep h0 h9 [a] := K6.wr W9 (Or.inl (List.mem_of_getElem? (i := 0) rfl))
  have Fw9 := f11.same W9
  have f13 := (f10.wr W9)
  have f14 := ((((hF_start.other W2 (Or.inr (slot_ne (Or.inr (w_ hw 25 rfl)) (Or.inr (w_ hw 17 rfl)) (by decide) (t := .int) (t' := (.object "com/example/clausemap/clausemap/outline/Part")) (by decide) (by decide)))).other W3 (Or.inr (slot_ne (Or.inr (w_ hw 25 rfl)) (Or.inr (w_ hw 19 rfl)) (by decide) (t := .int) (t' := (.object "com/example/clausemap/clausemap/outline/Part$Kind")) (by decide) (by decide)))).other W6 (Or.inr (slot_ne (Or.inr (w_ hw 25 rfl)) (Or.inr (w_ hw 21 rfl)) (by decide) (t := .int) (t' := (.object "java/lang/String")) (by decide) (by decide)))).other W9 (Or.inr (slot_ne (Or.inr (w_ hw 25 rfl)) (Or.inr (w_ hw 23 rfl)) (by decide) (t := .int) (t' := (.object "java/lang/String")) (by decide) (by decide))))
  obtain ⟨T12, h12, X12, e12, W12, st12⟩ := putF X9 hx hZ hown (host := "") (Or.inl (w_ hw 24 rfl)) Via.refl e9 f14 f13 (Or.inr ⟨(w_ hw 25 rfl), rfl, hnm⟩) (w_ hw 3 rfl) (ty := .int) (by decide) rfl rfl (g := (mkF m 28 #[rv a, n_, n_, n_, n_, iv st, iv en] [(.int st), (.ref a)])) rfl rfl (hb hby d_prog_32_m_1_28)
  have Z12 : n0 ≤ h12.size := Nat.le_trans Z9 (Nat.le_of_eq W12.size.symm)
  have N12 := Fr.snoc X12 N9 hG
  have K12 : Keep h0 h12 [a] := K9.wr W12 (Or.inl (List.mem_of_getElem? (i := 0) rfl))
  have Fw12 := f14.same W12
  have f16 := (f13.wr W12)
  have f17 := (((((hF_end.other W2 (Or.inr (slot_ne (Or.inr (w_ hw 27 rfl)) (Or.inr (w_ hw 17 rfl)) (by decide) (t := .int) (t' := (.object "com/example/clausemap/clausemap/outline/Part")) (by decide) (by decide)))).other W3 (Or.inr (slot_ne (Or.inr (w_ hw 27 rfl)) (Or.inr (w_ hw 19 rfl)) (by decide) (t := .int) (t' := (.object "com/example/clausemap/clausemap/outline/Part$Kind")) (by decide) (by decide)))).other W6 (Or.inr (slot_ne (Or.inr (w_ hw 27 rfl)) (Or.inr (w_ hw 21 rfl)) (by decide) (t := .int) (t' := (.object "java/lang/String")) (by decide) (by decide)))).other W9 (Or.inr (slot_ne (Or.inr (w_ hw 27 rfl)) (Or.inr (w_ hw 23 rfl)) (by decide) (t := .int) (t' := (.object "java/lang/String")) (by decide) (by decide)))).other W12 (Or.inr (slot_ne (Or.inr (w_ hw 27 rfl)) (Or.inr (w_ hw 25 rfl)) (by decide) (t := .int) (t' := .int) (by decide) (by decide))))
  obtain ⟨T15, h15, X15, e15, W15, st15⟩ := putF X12 hx hZ hown (host := "") (Or.inl (w_ hw 26 rfl)) Via.refl e12 f17 f16 (Or.inr ⟨(w_ hw 27 rfl), rfl, hnm⟩) (w_ hw 3 rfl) (ty := .int) (by decide) rfl rfl (g := (mkF m 34 #[rv a, n_, n_, n_, n_, iv st, iv en] [(.int en), (.ref a)])) rfl rfl (hb hby d_prog_32_m_1_34)
  have Z15 : n0 ≤ h15.size := Nat.le_trans Z12 (Nat.le_of_eq W15.size.symm)
  have N15 := Fr.snoc X15 N12 hG
  have K15 : Keep h0 h15 [a] := K12.wr W15 (Or.inl (List.mem_of_getElem? (i := 0) rfl))
  have Fw15 := f17.same W15
  obtain ⟨fs, hr, hrun, hended, hW, hsame⟩ := X15.leave (v := none) (fun _ => rfl)
  refine ⟨_, _, pre0 _ ?_, hrun, hended, _, _, rfl, ?_, ⟨_, rfl⟩, hW, hsame.mono (by decide) (by decide)⟩
  · show Sx p e below s₁ m 0 #[rv a, n_, n_, n_, n_, iv st, iv en] [] _
    refine XS.aloadN X0.here hx rfl (hb hby d_prog_32_m_1_0) rfl rfl ?_
    refine st1.trans ?_
    refine XS.aloadN X1.here hx rfl (hb hby d_prog_32_m_1_4) rfl rfl ?_
    refine XS.aloadN X1.here hx rfl (hb hby d_prog_32_m_1_5) rfl rfl ?_
    refine st2 _ ?_
    show Sx p e below T2 m 9 #[rv a, n_, n_, n_, n_, iv st, iv en] [] _
    refine XS.aloadN X2.here hx rfl (hb hby d_prog_32_m_1_9) rfl rfl ?_
    refine XS.aloadN X2.here hx rfl (hb hby d_prog_32_m_1_10) rfl rfl ?_
    refine st3 _ ?_
    refine XS.aloadN X3.here hx rfl (hb hby d_prog_32_m_1_14) rfl rfl ?_
    refine XS.aloadN X3.here hx rfl (hb hby d_prog_32_m_1_15) rfl rfl ?_
    show Sx p e below T3 m 16 #[rv a, n_, n_, n_, n_, iv st, iv en] [.null, (.ref a)] _
    refine st6 _ ?_
    refine XS.aloadN X6.here hx rfl (hb hby d_prog_32_m_1_19) rfl rfl ?_
    refine XS.aload X6.here hx rfl (hb hby d_prog_32_m_1_20) rfl rfl ?_
    refine st9 _ ?_
    refine XS.aloadN X9.here hx rfl (hb hby d_prog_32_m_1_25) rfl rfl ?_
    show Sx p e below T9 m 26 #[rv a, n_, n_, n_, n_, iv st, iv en] [(.ref a)] _
    refine XS.iload X9.here hx rfl (hb hby d_prog_32_m_1_26) rfl ?_
    refine st12 _ ?_
    refine XS.aloadN X12.here hx rfl (hb hby d_prog_32_m_1_31) rfl rfl ?_
    refine XS.iload X12.here hx rfl (hb hby d_prog_32_m_1_32) rfl ?_
    refine st15 _ ?_
    show Sx p e below T15 m 37 #[rv a, n_, n_, n_, n_, iv st, iv en] [] _
    exact X15.returnOut hx Bd.returns (hb hby d_prog_32_m_1_37) hr
  · show QF Z a "com/example/clausemap/clausemap/outline/Part" "start" "I" (.int st) h0 n0 _ T15.heap _
    rw [e15]
    have f18 := (Fw12.other W15 (Or.inr (slot_ne (Or.inr (w_ hw 25 rfl)) (Or.inr (w_ hw 27 rfl)) (by decide) (t := .int) (t' := .int) (by decide) (by decide))))
    exact ⟨rfl, N15, K15, f18⟩
theorem ef_rmPs (m : MethodId) (x0 : Addr) : entryFrame m #[(.ref x0)] 1 = mkF m 0 #[rv x0] [] := by first | (simp [entryFrame, mkF, argsToLocals, Value.category]; done) | rfl
set_option maxRecDepth 65536 in
set_option maxHeartbeats 40000000 in
theorem rmPs (l : Launch) (Z : State) (a0 : Array Value) (hw : ∀ d ∈ tables_1, d.before a0 Z = true) (ws : List Jvm.Cond) (a : Addr) (st : Int32) (h0 : Heap) (n0 : Nat) (Z0 : n0 ≤ h0.size) (hF : Fld Z h0 a "com/example/clausemap/clausemap/outline/Part" "start" "I" (.int st)) :
    MetFree l (⟨"com/example/clausemap/clausemap/outline/Part", "start", "()I"⟩ : MethodName) (head1 (Jvm.Cond.code (⟨"com/example/clausemap/clausemap/outline/Part", "start", "()I"⟩ : MethodName) prog_32_method_11_code 1 (some .int) :: ws) ({ frames := 0, cells := 0, slots := 0, locals := 0 } : Room)) (fun aa_ UU_ => aa_ = #[(.ref a)] ∧ Z.Warmed39 UU_.vm ∧ UU_.heap = h0) (fun _ _ _ _ _ => True) (fun _ UU_ oo_ UE_ => ∃ vv_ LL_, oo_ = .returned vv_ ∧ QV (some (.int st)) h0 n0 vv_ UE_.heap LL_ ∧ FrameEnd UU_ oo_ UE_ LL_ ({ frames := 0, cells := 0, slots := 0, locals := 0 } : Room).cells ({ frames := 0, cells := 0, slots := 0, locals := 0 } : Room).slots) := by
  refine MetFree.of_bodySF (plainFor_of_name pn_5) hisR ?_
  intro p e s m args below meth c s₁ Bd hml0 hP hK
  obtain ⟨rfl, hZ, hh⟩ := hP
  have hx := Bd.exec
  have hby := Bd.bytes
  have hml : c.maxLocals = 1 := hml0
  have hown : s.vm.findClass "com/example/clausemap/clausemap/outline/Part" = some m.cls := findClass_of_methodNamed Bd.named
  have hnm := (name_of_methodNamed Bd.named Bd.method).1
  have X0 : Stand p l e ({ frames := 0, cells := 0, slots := 0, locals := 0 } : Room) s m #[(.ref a)] below meth c s₁ [] 0 0 := Stand.of_body Bd
  have e0 : s₁.heap = h0 := by rw [← hh, Bd.state]; rfl
  have N0 := Fr.nil n0
  have pre0 : ∀ tg, Steps p.tables e below (s₁.setTop (mkF m 0 #[rv a] [])) tg → Steps p.tables e below (s₁.setTop (entryFrame m #[(.ref a)] 1)) tg := fun tg kq_ => castTop (ef_rmPs m a) kq_
  obtain ⟨T1, X1, e1, st1⟩ := getF X0 hx hZ hown (host := "") (Or.inl (w_ hw 24 rfl)) Via.refl e0 hF (g := (mkF m 1 #[rv a] [(.ref a)])) rfl rfl (hb hby d_prog_32_m_11_1)
  obtain ⟨fs, hr, hrun, hended, hW, hsame⟩ := X1.leave (v := some (.int st)) (fun h => by rw [Bd.returns] at h; cases h)
  refine ⟨_, _, pre0 _ ?_, hrun, hended, _, _, rfl, ?_, ⟨_, rfl⟩, hW, hsame.mono (by decide) (by decide)⟩
  · show Sx p e below s₁ m 0 #[rv a] [] _
    refine XS.aloadN X0.here hx rfl (hb hby d_prog_32_m_11_0) rfl rfl ?_
    refine st1 _ ?_
    show Sx p e below T1 m 4 #[rv a] [(.int st)] _
    exact retI X1 hx Bd.returns (hb hby d_prog_32_m_11_4) hr
  · show QV (some (.int st)) h0 n0 _ T1.heap _
    rw [e1]
    exact ⟨rfl, N0, rfl⟩
theorem ef_rmABL (m : MethodId) (x0 : Addr) : entryFrame m #[(.ref x0)] 1 = mkF m 0 #[rv x0] [] := by first | (simp [entryFrame, mkF, argsToLocals, Value.category]; done) | rfl
set_option maxRecDepth 65536 in
set_option maxHeartbeats 40000000 in
theorem rmABL (l : Launch) (Z : State) (a0 : Array Value) (hw : ∀ d ∈ tables_1, d.before a0 Z = true) (ws : List Jvm.Cond) (a : Addr) (h0 : Heap) (n0 : Nat) (Z0 : n0 ≤ h0.size) (hA : ALf Z h0 a 0 .null 0) (hG : n0 ≤ a) :
    MetFree l (⟨"java/util/AbstractList", "<init>", "()V"⟩ : MethodName) (head1 (Jvm.Cond.code (⟨"java/util/AbstractList", "<init>", "()V"⟩ : MethodName) jdk_39_method_1_code 1 none :: ws) ({ frames := 2, cells := 0, slots := 0, locals := 24 } : Room)) (fun aa_ UU_ => aa_ = #[(.ref a)] ∧ Z.Warmed39 UU_.vm ∧ UU_.heap = h0) (fun _ _ _ _ _ => True) (fun _ UU_ oo_ UE_ => ∃ vv_ LL_, oo_ = .returned vv_ ∧ QAf Z a 0 .null 0 h0 n0 vv_ UE_.heap LL_ ∧ FrameEnd UU_ oo_ UE_ LL_ ({ frames := 2, cells := 0, slots := 0, locals := 24 } : Room).cells ({ frames := 2, cells := 0, slots := 0, locals := 24 } : Room).slots) := by
  refine MetFree.of_bodySF (plainFor_of_name pn_6) hisR ?_
  intro p e s m args below meth c s₁ Bd hml0 hP hK
  obtain ⟨rfl, hZ, hh⟩ := hP
  have hx := Bd.exec
  have hby := Bd.bytes
  have hml : c.maxLocals = 1 := hml0
  have hown : s.vm.findClass "java/util/AbstractList" = some m.cls := findClass_of_methodNamed Bd.named
  have hnm := (name_of_methodNamed Bd.named Bd.method).1
  have X0 : Stand p l e ({ frames := 2, cells := 0, slots := 0, locals := 24 } : Room) s m #[(.ref a)] below meth c s₁ [] 0 0 := Stand.of_body Bd
  have e0 : s₁.heap = h0 := by rw [← hh, Bd.state]; rfl
  have N0 := Fr.nil n0
  have K0 : Keep h0 h0 [a] := Keep.refl h0 _
  have pre0 : ∀ tg, Steps p.tables e below (s₁.setTop (mkF m 0 #[rv a] [])) tg → Steps p.tables e below (s₁.setTop (entryFrame m #[(.ref a)] 1)) tg := fun tg kq_ => castTop (ef_rmABL m a) kq_
  obtain ⟨hE, hFm, hFe, hFs⟩ := hA
  obtain ⟨_, _, ⟨T1, L1, k1, n1⟩, -, X1, ⟨Lc1, hQ1, l1, y1, z1⟩, st1⟩ := X0.specialBack hx (y := (⟨"java/util/AbstractCollection", "<init>", "()V"⟩ : MethodName)) rfl hown (mvT hZ (w_ hw 40 rfl)) (mvT hZ (w_ hw 41 rfl)) (mvT hZ (w_ hw 45 rfl)) (by decide) (backOf (W := 0) (rmAC l Z a0 hw [] a h0 n0 Z0) hZ (w_ hw 45 rfl) (w_ hw 44 rfl) (by decide) (by decide)) (g := (mkF m 1 #[rv a] [(.ref a)])) rfl (by rw [hml]; rfl) (Steps.refl _) (a := a) (argsL := []) (rest := []) (lenOf pd_0 rfl) rfl (by show 2 * 0 + _ ≤ _; exact Nat.le_of_eq rfl) (hb hby d_jdk_39_m_1_1) (fun _ _ => ⟨rfl, e0, (by decide : 0 + 0 ≤ _), (by decide : 0 + 0 ≤ _)⟩)
  dsimp only [Pt.U, Pt.locs, Pt.cells, Pt.slots] at X1 l1 y1 z1 st1 hQ1
  subst l1 y1 z1
  obtain ⟨hv1, N1q, r1⟩ := hQ1
  subst hv1
  have N1 := Fr.app N0 N1q
  obtain ⟨T2, h2, X2, e2, W2, st2⟩ := putF X1 hx hZ hown (host := "") (Or.inl (w_ hw 47 rfl)) Via.refl r1 hFm hE (Or.inl (w_ hw 48 rfl)) (w_ hw 29 rfl) (ty := .int) (by decide) rfl rfl (g := (mkF m 6 #[rv a] [(.int 0), (.ref a)])) rfl rfl (hb hby d_jdk_39_m_1_6)
  have Z2 : n0 ≤ h2.size := Nat.le_trans Z0 (Nat.le_of_eq W2.size.symm)
  have N2 := Fr.snoc X2 N1 hG
  have K2 : Keep h0 h2 [a] := K0.wr W2 (Or.inl (List.mem_of_getElem? (i := 0) rfl))
  have Fw2 := hFm.same W2
  obtain ⟨fs, hr, hrun, hended, hW, hsame⟩ := X2.leave (v := none) (fun _ => rfl)
  refine ⟨_, _, pre0 _ ?_, hrun, hended, _, _, rfl, ?_, ⟨_, rfl⟩, hW, hsame.mono (by decide) (by decide)⟩
  · show Sx p e below s₁ m 0 #[rv a] [] _
    refine XS.aloadN X0.here hx rfl (hb hby d_jdk_39_m_1_0) rfl rfl ?_
    refine st1.trans ?_
    refine XS.aloadN X1.here hx rfl (hb hby d_jdk_39_m_1_4) rfl rfl ?_
    refine XS.iconst X1.here hx rfl (hb hby d_jdk_39_m_1_5) ?_
    refine st2 _ ?_
    show Sx p e below T2 m 9 #[rv a] [] _
    exact X2.returnOut hx Bd.returns (hb hby d_jdk_39_m_1_9) hr
  · show QAf Z a 0 .null 0 h0 n0 _ T2.heap _
    rw [e2]
    have f3 := (hE.wr W2)
    have f4 := (hFe.other W2 (Or.inr (slot_ne (Or.inl (w_ hw 51 rfl)) (Or.inl (w_ hw 48 rfl)) (by decide) (t := (.array (.object "java/lang/Object"))) (t' := .int) (by decide) (by decide))))
    have f5 := (hFs.other W2 (Or.inr (slot_ne (Or.inl (w_ hw 83 rfl)) (Or.inl (w_ hw 48 rfl)) (by decide) (t := .int) (t' := .int) (by decide) (by decide))))
    exact ⟨rfl, N2, K2, ⟨f3, Fw2, f4, f5⟩⟩
theorem ef_rmALI (m : MethodId) (x0 : Addr) : entryFrame m #[(.ref x0)] 1 = mkF m 0 #[rv x0] [] := by first | (simp [entryFrame, mkF, argsToLocals, Value.category]; done) | rfl
set_option maxRecDepth 65536 in
set_option maxHeartbeats 40000000 in
theorem rmALI (l : Launch) (Z : State) (a0 : Array Value) (hw : ∀ d ∈ tables_1, d.before a0 Z = true) (ws : List Jvm.Cond) (a dc : Addr) (h0 : Heap) (n0 : Nat) (Z0 : n0 ≤ h0.size) (hA : ALf Z h0 a 0 .null 0) (hG : n0 ≤ a) (hO1 : Old Z n0 h0) (hSd : Sta Z Z.heap "java/util/ArrayList" "DEFAULTCAPACITY_EMPTY_ELEMENTDATA" "[Ljava/lang/Object;" (.ref dc)) :
    MetFree l (⟨"java/util/ArrayList", "<init>", "()V"⟩ : MethodName) (head1 (Jvm.Cond.code (⟨"java/util/ArrayList", "<init>", "()V"⟩ : MethodName) jdk_38_method_2_code 1 none :: ws) ({ frames := 3, cells := 0, slots := 0, locals := 36 } : Room)) (fun aa_ UU_ => aa_ = #[(.ref a)] ∧ Z.Warmed39 UU_.vm ∧ UU_.heap = h0) (fun _ _ _ _ _ => True) (fun _ UU_ oo_ UE_ => ∃ vv_ LL_, oo_ = .returned vv_ ∧ QAf Z a 0 (.ref dc) 0 h0 n0 vv_ UE_.heap LL_ ∧ FrameEnd UU_ oo_ UE_ LL_ ({ frames := 3, cells := 0, slots := 0, locals := 36 } : Room).cells ({ frames := 3, cells := 0, slots := 0, locals := 36 } : Room).slots) := by
  refine MetFree.of_bodySF (plainFor_of_name pn_7) hisR ?_
  intro p e s m args below meth c s₁ Bd hml0 hP hK
  obtain ⟨rfl, hZ, hh⟩ := hP
  have hx := Bd.exec
  have hby := Bd.bytes
  have hml : c.maxLocals = 1 := hml0
  have hown : s.vm.findClass "java/util/ArrayList" = some m.cls := findClass_of_methodNamed Bd.named
  have hnm := (name_of_methodNamed Bd.named Bd.method).1
  have X0 : Stand p l e ({ frames := 3, cells := 0, slots := 0, locals := 36 } : Room) s m #[(.ref a)] below meth c s₁ [] 0 0 := Stand.of_body Bd
  have e0 : s₁.heap = h0 := by rw [← hh, Bd.state]; rfl
  have N0 := Fr.nil n0
  have K0 : Keep h0 h0 [a] := Keep.refl h0 _
  have pre0 : ∀ tg, Steps p.tables e below (s₁.setTop (mkF m 0 #[rv a] [])) tg → Steps p.tables e below (s₁.setTop (entryFrame m #[(.ref a)] 1)) tg := fun tg kq_ => castTop (ef_rmALI m a) kq_
  obtain ⟨hE, hFm, hFe, hFs⟩ := hA
  obtain ⟨_, _, ⟨T1, L1, k1, n1⟩, -, X1, ⟨Lc1, hQ1, l1, y1, z1⟩, st1⟩ := X0.specialBack hx (y := (⟨"java/util/AbstractList", "<init>", "()V"⟩ : MethodName)) rfl hown (mvT hZ (w_ hw 34 rfl)) (mvT hZ (w_ hw 35 rfl)) (mvT hZ (w_ hw 39 rfl)) (by decide) (backOf (W := 0) (rmABL l Z a0 hw [] a h0 n0 Z0 ⟨hE, hFm, hFe, hFs⟩ hG) hZ (w_ hw 39 rfl) (w_ hw 38 rfl) (by decide) (by decide)) (g := (mkF m 1 #[rv a] [(.ref a)])) rfl (by rw [hml]; rfl) (Steps.refl _) (a := a) (argsL := []) (rest := []) (lenOf pd_0 rfl) rfl (by show 2 * 0 + _ ≤ _; exact Nat.le_of_eq rfl) (hb hby d_jdk_38_m_2_1) (fun _ _ => ⟨rfl, e0, (by decide : 0 + 0 ≤ _), (by decide : 0 + 0 ≤ _)⟩)
  dsimp only [Pt.U, Pt.locs, Pt.cells, Pt.slots] at X1 l1 y1 z1 st1 hQ1
  subst l1 y1 z1
  obtain ⟨hv1, N1q, kp1, fl1⟩ := hQ1
  subst hv1
  have N1 := Fr.app N0 N1q
  have Z1 : n0 ≤ T1.heap.size := Nat.le_trans Z0 kp1.1
  have K1 : Keep h0 T1.heap [a] := K0.trans kp1 (allS (Or.inl (List.mem_of_getElem? (i := 0) rfl)) all0)
  obtain ⟨fa1, fb1, fc1, fd1⟩ := fl1
  have f2 := (hO1.keep kp1 (allS hG all0))
  obtain ⟨T3, X3, e3, st3⟩ := getS2 X1 hx hZ hown (host := "") (Or.inl (w_ hw 49 rfl)) Via.refl rfl (hSd.ext f2.2) (g := (mkF m 5 #[rv a] [(.ref a)])) rfl (hb hby d_jdk_38_m_2_5)
  obtain ⟨T4, h4, X4, e4, W4, st4⟩ := putF X3 hx hZ hown (host := "") (Or.inl (w_ hw 50 rfl)) Via.refl e3 fc1 fa1 (Or.inl (w_ hw 51 rfl)) (w_ hw 29 rfl) (ty := (.array (.object "java/lang/Object"))) (by decide) rfl rfl (g := (mkF m 8 #[rv a] [(.ref dc), (.ref a)])) rfl rfl (hb hby d_jdk_38_m_2_8)
  have Z4 : n0 ≤ h4.size := Nat.le_trans Z1 (Nat.le_of_eq W4.size.symm)
  have N4 := Fr.snoc X4 N1 hG
  have K4 : Keep h0 h4 [a] := K1.wr W4 (Or.inl (List.mem_of_getElem? (i := 0) rfl))
  have Fw4 := fc1.same W4
  obtain ⟨fs, hr, hrun, hended, hW, hsame⟩ := X4.leave (v := none) (fun _ => rfl)
  refine ⟨_, _, pre0 _ ?_, hrun, hended, _, _, rfl, ?_, ⟨_, rfl⟩, hW, hsame.mono (by decide) (by decide)⟩
  · show Sx p e below s₁ m 0 #[rv a] [] _
    refine XS.aloadN X0.here hx rfl (hb hby d_jdk_38_m_2_0) rfl rfl ?_
    refine st1.trans ?_
    refine XS.aloadN X1.here hx rfl (hb hby d_jdk_38_m_2_4) rfl rfl ?_
    refine st3 _ ?_
    refine st4 _ ?_
    show Sx p e below T4 m 11 #[rv a] [] _
    exact X4.returnOut hx Bd.returns (hb hby d_jdk_38_m_2_11) hr
  · show QAf Z a 0 (.ref dc) 0 h0 n0 _ T4.heap _
    rw [e4]
    have f5 := (fa1.wr W4)
    have f6 := (fb1.other W4 (Or.inr (slot_ne (Or.inl (w_ hw 48 rfl)) (Or.inl (w_ hw 51 rfl)) (by decide) (t := .int) (t' := (.array (.object "java/lang/Object"))) (by decide) (by decide))))
    have f7 := (fd1.other W4 (Or.inr (slot_ne (Or.inl (w_ hw 83 rfl)) (Or.inl (w_ hw 51 rfl)) (by decide) (t := .int) (t' := (.array (.object "java/lang/Object"))) (by decide) (by decide))))
    exact ⟨rfl, N4, K4, ⟨f5, f6, Fw4, f7⟩⟩
theorem ef_rmG1 (m : MethodId) (x0 : Addr) (x1 : Int32) : entryFrame m #[(.ref x0), (.int x1)] 4 = mkF m 0 #[rv x0, iv x1, u_, u_] [] := by first | (simp [entryFrame, mkF, argsToLocals, Value.category]; done) | rfl
set_option maxRecDepth 65536 in
set_option maxHeartbeats 40000000 in
theorem rmG1 (l : Launch) (Z : State) (a0 : Array Value) (hw : ∀ d ∈ tables_1, d.before a0 Z = true) (ws : List Jvm.Cond) (a dc : Addr) (kd : ClassId) (mc : Int32) (h0 : Heap) (n0 : Nat) (Z0 : n0 ≤ h0.size) (hA : ALf Z h0 a mc (.ref dc) 0) (hG : n0 ≤ a) (hSd : Sta Z h0 "java/util/ArrayList" "DEFAULTCAPACITY_EMPTY_ELEMENTDATA" "[Ljava/lang/Object;" (.ref dc)) (hAd : Arv Z h0 dc kd (.object "java/lang/Object") (0 : Int32) [] .null) :
    MetFree l (⟨"java/util/ArrayList", "grow", "(I)[Ljava/lang/Object;"⟩ : MethodName) (head1 (Jvm.Cond.code (⟨"java/util/ArrayList", "grow", "(I)[Ljava/lang/Object;"⟩ : MethodName) jdk_38_method_6_code 4 (some (.array (.object "java/lang/Object"))) :: ws) ({ frames := 1, cells := 1, slots := 10, locals := 14 } : Room)) (fun aa_ UU_ => aa_ = #[(.ref a), (.int 1)] ∧ Z.Warmed39 UU_.vm ∧ UU_.heap = h0) (fun _ _ _ _ _ => True) (fun _ UU_ oo_ UE_ => ∃ vv_ LL_, oo_ = .returned vv_ ∧ QG1 Z a mc 0 h0 n0 vv_ UE_.heap LL_ ∧ FrameEnd UU_ oo_ UE_ LL_ ({ frames := 1, cells := 1, slots := 10, locals := 14 } : Room).cells ({ frames := 1, cells := 1, slots := 10, locals := 14 } : Room).slots) := by
  refine MetFree.of_bodySF (plainFor_of_name pn_7) hisR ?_
  intro p e s m args below meth c s₁ Bd hml0 hP hK
  obtain ⟨rfl, hZ, hh⟩ := hP
  have hx := Bd.exec
  have hby := Bd.bytes
  have hml : c.maxLocals = 4 := hml0
  have hown : s.vm.findClass "java/util/ArrayList" = some m.cls := findClass_of_methodNamed Bd.named
  have hnm := (name_of_methodNamed Bd.named Bd.method).1
  have X0 : Stand p l e ({ frames := 1, cells := 1, slots := 10, locals := 14 } : Room) s m #[(.ref a), (.int 1)] below meth c s₁ [] 0 0 := Stand.of_body Bd
  have e0 : s₁.heap = h0 := by rw [← hh, Bd.state]; rfl
  have N0 := Fr.nil n0
  have K0 : Keep h0 h0 [a] := Keep.refl h0 _
  have pre0 : ∀ tg, Steps p.tables e below (s₁.setTop (mkF m 0 #[rv a, iv 1, u_, u_] [])) tg → Steps p.tables e below (s₁.setTop (entryFrame m #[(.ref a), (.int 1)] 4)) tg := fun tg kq_ => castTop (ef_rmG1 m a (1 : Int32)) kq_
  obtain ⟨hE, hFm, hFe, hFs⟩ := hA
  obtain ⟨T1, X1, e1, st1⟩ := getF X0 hx hZ hown (host := "") (Or.inl (w_ hw 50 rfl)) Via.refl e0 hFe (g := (mkF m 1 #[rv a, iv 1, u_, u_] [(.ref a)])) rfl rfl (hb hby d_jdk_38_m_6_1)
  obtain ⟨cl2, Ar2, q2, Sz2, Nn2, Ha2, Ga2⟩ := id hAd
  obtain ⟨T3, X3, e3, st3⟩ := getF X1 hx hZ hown (host := "") (Or.inl (w_ hw 50 rfl)) Via.refl e1 hFe (g := (mkF m 11 #[rv a, iv 1, iv 0, u_] [(.ref a)])) rfl rfl (hb hby d_jdk_38_m_6_11)
  obtain ⟨T4, X4, e4, st4⟩ := getS2 X3 hx hZ hown (host := "") (Or.inl (w_ hw 49 rfl)) Via.refl e3 hSd (g := (mkF m 14 #[rv a, iv 1, iv 0, u_] [(.ref dc)])) rfl (hb hby d_jdk_38_m_6_14)
  obtain ⟨_, _, ⟨T5, L5, k5, n5⟩, -, X5, ⟨Lc5, hQ5, l5, y5, z5⟩, st5⟩ := Jvm.LawKit.callS X4 hx (y := (⟨"java/lang/Math", "max", "(II)I"⟩ : MethodName)) hown (mvT hZ (w_ hw 137 rfl)) (mvT hZ (w_ hw 138 rfl)) (mvT hZ (w_ hw 93 rfl)) (mvT hZ (w_ hw 139 rfl)) (by decide) (backOf (W := 1) (rmMxI l Z a0 hw [] (10 : Int32) (1 : Int32) h0 n0 Z0) hZ (w_ hw 139 rfl) (w_ hw 93 rfl) (by decide) (by decide)) (g := (mkF m 49 #[rv a, iv 1, iv 0, u_] [(.int 1), (.int 10), (.ref a)])) rfl (by rw [hml]; rfl) (argsL := [(.int 10), (.int 1)]) (rest := [(.ref a)]) (lenOf pd_1 rfl) rfl (by show 2 * 0 + _ ≤ _; exact Nat.le_of_eq rfl) (hb hby d_jdk_38_m_6_49) (fun _ _ => ⟨rfl, e4, (by decide : 0 + 0 ≤ _), (by decide : 0 + 0 ≤ _)⟩)
  dsimp only [Pt.U, Pt.locs, Pt.cells, Pt.slots] at X5 l5 y5 z5 st5 hQ5
  subst l5 y5 z5
  obtain ⟨hv5, N5q, r5⟩ := hQ5
  rw [show (if (10 : Int32) < (1 : Int32) then (1 : Int32) else (10 : Int32)) = (10 : Int32) from by decide] at hv5
  subst hv5
  have N5 := Fr.app N0 N5q
  obtain ⟨T6, h6, k6, X6, e6, E6, A6, EX6, O6, st6⟩ := newRE X5 hx hZ hown (w_ hw 140 rfl) (w_ hw 141 rfl) r5 (g := (mkF m 52 #[rv a, iv 1, iv 0, u_] [(.int 10), (.ref a)])) rfl (hb hby d_jdk_38_m_6_52) rfl (by decide) (cap := 10) (by decide) (by decide) (by decide) (by decide) (ad := "[Ljava/lang/Object;") (by decide)
  obtain ⟨b6, g6⟩ : ∃ z, z = h0.size := ⟨_, rfl⟩
  rw [← g6] at A6 EX6 st6
  have ne_a_b6 : a ≠ b6 := Nat.ne_of_lt (Nat.lt_of_lt_of_le (hE).lt (Nat.le_of_eq g6.symm))
  have gb_b6 : n0 ≤ b6 := Nat.le_trans Z0 (Nat.le_of_eq g6.symm)
  have sz_b6 : h0.size ≤ b6 := Nat.le_trans K0.1 (Nat.le_of_eq g6.symm)
  have Z6 : n0 ≤ h6.size := Nat.le_trans Z0 E6.1
  have K6 : Keep h0 h6 [a] := K0.ext E6
  have V6 : Arv Z h6 b6 k6 (.object "java/lang/Object") (10 : Int32) [.null, .null, .null, .null, .null, .null, .null, .null, .null, .null] .null := (Arv.new A6 (by decide)).pad (pad_rep [] .null 10)
  have f8 := (hE.ext E6)
  have f9 := (hFe.ext E6)
  obtain ⟨T7, h7, X7, e7, W7, st7⟩ := putF X6 hx hZ hown (host := "") (Or.inl (w_ hw 50 rfl)) Via.refl e6 f9 f8 (Or.inl (w_ hw 51 rfl)) (w_ hw 29 rfl) (ty := (.array (.object "java/lang/Object"))) (by decide) rfl rfl (g := (mkF m 56 #[rv a, iv 1, iv 0, u_] [(.ref b6), (.ref a), (.ref b6)])) rfl rfl (hb hby d_jdk_38_m_6_56)
  have Z7 : n0 ≤ h7.size := Nat.le_trans Z6 (Nat.le_of_eq W7.size.symm)
  have N7 := Fr.snoc X7 N5 hG
  have K7 : Keep h0 h7 [a] := K6.wr W7 (Or.inl (List.mem_of_getElem? (i := 0) rfl))
  have Fw7 := f9.same W7
  obtain ⟨fs, hr, hrun, hended, hW, hsame⟩ := X7.leave (v := some (.ref b6)) (fun h => by rw [Bd.returns] at h; cases h)
  refine ⟨_, _, pre0 _ ?_, hrun, hended, _, _, rfl, ?_, ⟨_, rfl⟩, hW, hsame.mono (by decide) (by decide)⟩
  · show Sx p e below s₁ m 0 #[rv a, iv 1, u_, u_] [] _
    refine XS.aloadN X0.here hx rfl (hb hby d_jdk_38_m_6_0) rfl rfl ?_
    refine st1 _ ?_
    refine X1.arraylength hx (by rw [e1]; exact Ar2.1) (State.isArrayOf_alike hZ.alike Ar2.2.1) (g := (mkF m 4 #[rv a, iv 1, u_, u_] [(.ref dc)])) rfl rfl (hb hby d_jdk_38_m_6_4) _ ?_
    rw [len_of Sz2 Nn2]
    refine XS.istoreN X1.here hx rfl (hb hby d_jdk_38_m_6_5) rfl (l' := #[rv a, iv 1, iv 0, u_]) rfl ?_
    refine XS.iloadN X1.here hx rfl (hb hby d_jdk_38_m_6_6) rfl ?_
    show Sx p e below T1 m 7 #[rv a, iv 1, iv 0, u_] [(.int 0)] _
    refine XS.ifNo X1.here hx rfl (hb hby d_jdk_38_m_6_7) rfl ((if0 _ _).trans (flt (by decide : ¬ ((0 : Int32) < (0 : Int32)))).2.2.1) ?_
    refine XS.aloadN X1.here hx rfl (hb hby d_jdk_38_m_6_10) rfl rfl ?_
    refine st3 _ ?_
    refine st4 _ ?_
    refine Jvm.RoadKit.acmp (g := (mkF m 17 #[rv a, iv 1, iv 0, u_] [(.ref dc), (.ref dc)])) X4 hx rfl rfl rfl (pc0 := 17) (pc' := 45) (same := true) rfl (hb hby d_jdk_38_m_6_17) rfl (decide_eq_true rfl) (by decide) (by decide) ?_
    show Sx p e below T4 m 45 #[rv a, iv 1, iv 0, u_] [] _
    refine XS.aloadN X4.here hx rfl (hb hby d_jdk_38_m_6_45) rfl rfl ?_
    refine XS.bipush X4.here hx rfl (hb hby d_jdk_38_m_6_46) ?_
    refine XS.iloadN X4.here hx rfl (hb hby d_jdk_38_m_6_48) rfl ?_
    refine st5 _ ?_
    refine st6 _ ?_
    show Sx p e below T6 m 55 #[rv a, iv 1, iv 0, u_] [(.ref b6), (.ref a)] _
    refine XS.dupX1 X6.here hx rfl (hb hby d_jdk_38_m_6_55) rfl rfl rfl ?_
    refine st7 _ ?_
    show Sx p e below T7 m 59 #[rv a, iv 1, iv 0, u_] [(.ref b6)] _
    jvm_step X7.here [X7.here.top, hx, (hb hby d_jdk_38_m_6_59), X7.method', Bd.returns, Value.isRef, FieldType.isReference]
    first | (intro acts; rw [hr _ acts rfl rfl rfl]) | rw [hr _ _ rfl rfl rfl]
    exact Steps.refl _
  · show QG1 Z a mc 0 h0 n0 _ T7.heap _
    rw [e7]
    have f10 := (f8.wr W7)
    have f11 := ((hFm.ext E6).other W7 (Or.inr (slot_ne (Or.inl (w_ hw 48 rfl)) (Or.inl (w_ hw 51 rfl)) (by decide) (t := .int) (t' := (.array (.object "java/lang/Object"))) (by decide) (by decide))))
    have f12 := ((hFs.ext E6).other W7 (Or.inr (slot_ne (Or.inl (w_ hw 83 rfl)) (Or.inl (w_ hw 51 rfl)) (by decide) (t := .int) (t' := (.array (.object "java/lang/Object"))) (by decide) (by decide))))
    have f13 := (V6.other W7 (Ne.symm ne_a_b6))
    have f14 := (EX6.wr W7)
    exact ⟨b6, _, rfl, N7, K7, sz_b6, ⟨⟨f10, f11, Fw7, f12⟩, f13, f14, O6, hG, gb_b6, ne_a_b6⟩⟩
theorem ef_rmG0 (m : MethodId) (x0 : Addr) : entryFrame m #[(.ref x0)] 1 = mkF m 0 #[rv x0] [] := by first | (simp [entryFrame, mkF, argsToLocals, Value.category]; done) | rfl
set_option maxRecDepth 65536 in
set_option maxHeartbeats 40000000 in
theorem rmG0 (l : Launch) (Z : State) (a0 : Array Value) (hw : ∀ d ∈ tables_1, d.before a0 Z = true) (ws : List Jvm.Cond) (a dc : Addr) (kd : ClassId) (mc : Int32) (h0 : Heap) (n0 : Nat) (Z0 : n0 ≤ h0.size) (hA : ALf Z h0 a mc (.ref dc) 0) (hG : n0 ≤ a) (hSd : Sta Z h0 "java/util/ArrayList" "DEFAULTCAPACITY_EMPTY_ELEMENTDATA" "[Ljava/lang/Object;" (.ref dc)) (hAd : Arv Z h0 dc kd (.object "java/lang/Object") (0 : Int32) [] .null) :
    MetFree l (⟨"java/util/ArrayList", "grow", "()[Ljava/lang/Object;"⟩ : MethodName) (head1 (Jvm.Cond.code (⟨"java/util/ArrayList", "grow", "()[Ljava/lang/Object;"⟩ : MethodName) jdk_38_method_7_code 1 (some (.array (.object "java/lang/Object"))) :: ws) ({ frames := 2, cells := 1, slots := 10, locals := 29 } : Room)) (fun aa_ UU_ => aa_ = #[(.ref a)] ∧ Z.Warmed39 UU_.vm ∧ UU_.heap = h0) (fun _ _ _ _ _ => True) (fun _ UU_ oo_ UE_ => ∃ vv_ LL_, oo_ = .returned vv_ ∧ QG1 Z a mc 0 h0 n0 vv_ UE_.heap LL_ ∧ FrameEnd UU_ oo_ UE_ LL_ ({ frames := 2, cells := 1, slots := 10, locals := 29 } : Room).cells ({ frames := 2, cells := 1, slots := 10, locals := 29 } : Room).slots) := by
  refine MetFree.of_bodySF (plainFor_of_name pn_7) hisR ?_
  intro p e s m args below meth c s₁ Bd hml0 hP hK
  obtain ⟨rfl, hZ, hh⟩ := hP
  have hx := Bd.exec
  have hby := Bd.bytes
  have hml : c.maxLocals = 1 := hml0
  have hown : s.vm.findClass "java/util/ArrayList" = some m.cls := findClass_of_methodNamed Bd.named
  have hnm := (name_of_methodNamed Bd.named Bd.method).1
  have X0 : Stand p l e ({ frames := 2, cells := 1, slots := 10, locals := 29 } : Room) s m #[(.ref a)] below meth c s₁ [] 0 0 := Stand.of_body Bd
  have e0 : s₁.heap = h0 := by rw [← hh, Bd.state]; rfl
  have N0 := Fr.nil n0
  have K0 : Keep h0 h0 [a] := Keep.refl h0 _
  have pre0 : ∀ tg, Steps p.tables e below (s₁.setTop (mkF m 0 #[rv a] [])) tg → Steps p.tables e below (s₁.setTop (entryFrame m #[(.ref a)] 1)) tg := fun tg kq_ => castTop (ef_rmG0 m a) kq_
  obtain ⟨hE, hFm, hFe, hFs⟩ := hA
  obtain ⟨T1, X1, e1, st1⟩ := getF X0 hx hZ hown (host := "") (Or.inl (w_ hw 82 rfl)) Via.refl e0 hFs (g := (mkF m 2 #[rv a] [(.ref a), (.ref a)])) rfl rfl (hb hby d_jdk_38_m_7_2)
  have R2 : ∀ tg, Sx p e below T1 m 7 #[rv a] [(.int ((0 : Int32) + (1 : Int32))), (.ref a)] tg → Sx p e below s₁ m 0 #[rv a] [] tg := by
    intro tg kt
    refine XS.aloadN X0.here hx rfl (hb hby d_jdk_38_m_7_0) rfl rfl ?_
    refine XS.aloadN X0.here hx rfl (hb hby d_jdk_38_m_7_1) rfl rfl ?_
    refine st1 _ ?_
    refine XS.iconst X1.here hx rfl (hb hby d_jdk_38_m_7_5) ?_
    refine XS.iadd X1.here hx rfl (hb hby d_jdk_38_m_7_6) rfl ?_
    show Sx p e below T1 m 7 #[rv a] [(.int ((0 : Int32) + (1 : Int32))), (.ref a)] _
    exact kt
  have R3 : ∀ tg, Sx p e below T1 m 7 #[rv a] [(.int 1), (.ref a)] tg → Sx p e below T1 m 7 #[rv a] [(.int ((0 : Int32) + (1 : Int32))), (.ref a)] tg := fun tg kt => by rw [(by decide : ((0 : Int32) + (1 : Int32)) = (1 : Int32))]; exact kt
  obtain ⟨cq4, q4, q4'⟩ := hE.cell
  obtain ⟨_, _, ⟨T4, L4, k4, n4⟩, -, X4, ⟨Lc4, hQ4, l4, y4, z4⟩, st4⟩ := X1.privateBack hx (y := (⟨"java/util/ArrayList", "grow", "(I)[Ljava/lang/Object;"⟩ : MethodName)) hown (mvT hZ (w_ hw 132 rfl)) (mvT hZ (w_ hw 133 rfl)) (mvT hZ (w_ hw 135 rfl)) (Cond.privateMethod_at (mvP hZ (w_ hw 134 rfl) (args := #[]))) (mvT hZ (w_ hw 136 rfl)) (by decide) (backOf (W := 0) (rmG1 l Z a0 hw [] a dc kd mc h0 n0 Z0 ⟨hE, hFm, hFe, hFs⟩ hG hSd hAd) hZ (w_ hw 136 rfl) (w_ hw 30 rfl) (by decide) (by decide)) (g := (mkF m 7 #[rv a] [(.int 1), (.ref a)])) rfl (by rw [hml]; rfl) (Steps.refl _) (a := a) (by rw [e1]; exact q4) q4' (argsL := [(.int 1)]) (rest := []) (lenOf pd_2 rfl) rfl (by show 2 * 0 + _ ≤ _; exact Nat.le_of_eq rfl) (hb hby d_jdk_38_m_7_7) (fun _ _ => ⟨rfl, e1, (by decide : 0 + 1 ≤ _), (by decide : 0 + 10 ≤ _)⟩)
  dsimp only [Pt.U, Pt.locs, Pt.cells, Pt.slots] at X4 l4 y4 z4 st4 hQ4
  subst l4 y4 z4
  obtain ⟨ea4, ke4, hv4, N4q, kp4, sz4, hC4⟩ := hQ4
  subst hv4
  have N4 := Fr.app N0 N4q
  have Z4 : n0 ≤ T4.heap.size := Nat.le_trans Z0 kp4.1
  have K4 : Keep h0 T4.heap [a] := K0.trans kp4 (allS (Or.inl (List.mem_of_getElem? (i := 0) rfl)) all0)
  obtain ⟨⟨fa4, fb4, fc4, fd4⟩, fv4, fx4, fo4, -, fg4, fn4⟩ := id hC4
  have sx4 := Nat.le_trans K0.1 sz4
  obtain ⟨fs, hr, hrun, hended, hW, hsame⟩ := X4.leave (v := some (.ref ea4)) (fun h => by rw [Bd.returns] at h; cases h)
  refine ⟨_, _, pre0 _ (R2 _ (R3 _ ?_)), hrun, hended, _, _, rfl, ?_, ⟨_, rfl⟩, hW, hsame.mono (by decide) (by decide)⟩
  · show Sx p e below T1 m 7 #[rv a] [(.int 1), (.ref a)] _
    refine st4.trans ?_
    show Sx p e below T4 m 10 #[rv a] [(.ref ea4)] _
    jvm_step X4.here [X4.here.top, hx, (hb hby d_jdk_38_m_7_10), X4.method', Bd.returns, Value.isRef, FieldType.isReference]
    first | (intro acts; rw [hr _ acts rfl rfl rfl]) | rw [hr _ _ rfl rfl rfl]
    exact Steps.refl _
  · show QG1 Z a mc 0 h0 n0 _ T4.heap _
    exact ⟨ea4, _, rfl, N4, K4, sx4, ⟨⟨fa4, fb4, fc4, fd4⟩, fv4, fx4, fo4, hG, fg4, fn4⟩⟩
theorem ef_rmPg (m : MethodId) (x0 : Addr) (x1 : Addr) (x2 : Addr) (x3 : Int32) : entryFrame m #[(.ref x0), (.ref x1), (.ref x2), (.int x3)] 4 = mkF m 0 #[rv x0, rv x1, rv x2, iv x3] [] := by first | (simp [entryFrame, mkF, argsToLocals, Value.category]; done) | rfl
set_option maxRecDepth 65536 in
set_option maxHeartbeats 40000000 in
theorem rmPg (l : Launch) (Z : State) (a0 : Array Value) (hw : ∀ d ∈ tables_1, d.before a0 Z = true) (ws : List Jvm.Cond) (a vv dc : Addr) (kd : ClassId) (mc : Int32) (h0 : Heap) (n0 : Nat) (Z0 : n0 ≤ h0.size) (hA : ALf Z h0 a mc (.ref dc) 0) (hG : n0 ≤ a) (hSd : Sta Z h0 "java/util/ArrayList" "DEFAULTCAPACITY_EMPTY_ELEMENTDATA" "[Ljava/lang/Object;" (.ref dc)) (hAd : Arv Z h0 dc kd (.object "java/lang/Object") (0 : Int32) [] .null) (hv : Exa Z h0 vv "com/example/clausemap/clausemap/outline/Part") :
    MetFree l (⟨"java/util/ArrayList", "add", "(Ljava/lang/Object;[Ljava/lang/Object;I)V"⟩ : MethodName) (head1 (Jvm.Cond.code (⟨"java/util/ArrayList", "add", "(Ljava/lang/Object;[Ljava/lang/Object;I)V"⟩ : MethodName) jdk_38_method_24_code 4 none :: ws) ({ frames := 3, cells := 1, slots := 10, locals := 41 } : Room)) (fun aa_ UU_ => aa_ = #[(.ref a), (.ref vv), (.ref dc), (.int 0)] ∧ Z.Warmed39 UU_.vm ∧ UU_.heap = h0) (fun _ _ _ _ _ => True) (fun _ UU_ oo_ UE_ => ∃ vv_ LL_, oo_ = .returned vv_ ∧ QA1 Z a none 1 [.ref vv, .null, .null, .null, .null, .null, .null, .null, .null, .null] h0 n0 vv_ UE_.heap LL_ ∧ FrameEnd UU_ oo_ UE_ LL_ ({ frames := 3, cells := 1, slots := 10, locals := 41 } : Room).cells ({ frames := 3, cells := 1, slots := 10, locals := 41 } : Room).slots) := by
  refine MetFree.of_bodySF (plainFor_of_name pn_7) hisR ?_
  intro p e s m args below meth c s₁ Bd hml0 hP hK
  obtain ⟨rfl, hZ, hh⟩ := hP
  have hx := Bd.exec
  have hby := Bd.bytes
  have hml : c.maxLocals = 4 := hml0
  have hown : s.vm.findClass "java/util/ArrayList" = some m.cls := findClass_of_methodNamed Bd.named
  have hnm := (name_of_methodNamed Bd.named Bd.method).1
  have X0 : Stand p l e ({ frames := 3, cells := 1, slots := 10, locals := 41 } : Room) s m #[(.ref a), (.ref vv), (.ref dc), (.int 0)] below meth c s₁ [] 0 0 := Stand.of_body Bd
  have e0 : s₁.heap = h0 := by rw [← hh, Bd.state]; rfl
  have N0 := Fr.nil n0
  have K0 : Keep h0 h0 [a] := Keep.refl h0 _
  have pre0 : ∀ tg, Steps p.tables e below (s₁.setTop (mkF m 0 #[rv a, rv vv, rv dc, iv 0] [])) tg → Steps p.tables e below (s₁.setTop (entryFrame m #[(.ref a), (.ref vv), (.ref dc), (.int 0)] 4)) tg := fun tg kq_ => castTop (ef_rmPg m a vv dc (0 : Int32)) kq_
  obtain ⟨hE, hFm, hFe, hFs⟩ := hA
  obtain ⟨cl1, Ar1, q1, Sz1, Nn1, Ha1, Ga1⟩ := id hAd
  obtain ⟨cq2, q2, q2'⟩ := hE.cell
  obtain ⟨_, _, ⟨T2, L2, k2, n2⟩, -, X2, ⟨Lc2, hQ2, l2, y2, z2⟩, st2⟩ := X0.privateBack hx (y := (⟨"java/util/ArrayList", "grow", "()[Ljava/lang/Object;"⟩ : MethodName)) hown (mvT hZ (w_ hw 127 rfl)) (mvT hZ (w_ hw 128 rfl)) (mvT hZ (w_ hw 130 rfl)) (Cond.privateMethod_at (mvP hZ (w_ hw 129 rfl) (args := #[]))) (mvT hZ (w_ hw 131 rfl)) (by decide) (backOf (W := 0) (rmG0 l Z a0 hw [] a dc kd mc h0 n0 Z0 ⟨hE, hFm, hFe, hFs⟩ hG hSd hAd) hZ (w_ hw 131 rfl) (w_ hw 30 rfl) (by decide) (by decide)) (g := (mkF m 7 #[rv a, rv vv, rv dc, iv 0] [(.ref a)])) rfl (by rw [hml]; rfl) (Steps.refl _) (a := a) (by rw [e0]; exact q2) q2' (argsL := []) (rest := []) (lenOf pd_3 rfl) rfl (by show 2 * 0 + _ ≤ _; exact Nat.le_of_eq rfl) (hb hby d_jdk_38_m_24_7) (fun _ _ => ⟨rfl, e0, (by decide : 0 + 1 ≤ _), (by decide : 0 + 10 ≤ _)⟩)
  dsimp only [Pt.U, Pt.locs, Pt.cells, Pt.slots] at X2 l2 y2 z2 st2 hQ2
  subst l2 y2 z2
  obtain ⟨ea2, ke2, hv2, N2q, kp2, sz2, hC2⟩ := hQ2
  subst hv2
  have N2 := Fr.app N0 N2q
  have Z2 : n0 ≤ T2.heap.size := Nat.le_trans Z0 kp2.1
  have K2 : Keep h0 T2.heap [a] := K0.trans kp2 (allS (Or.inl (List.mem_of_getElem? (i := 0) rfl)) all0)
  obtain ⟨⟨fa2, fb2, fc2, fd2⟩, fv2, fx2, fo2, -, fg2, fn2⟩ := id hC2
  have sx2 := Nat.le_trans K0.1 sz2
  obtain ⟨cl3, Ar3, q3, Sz3, Nn3, Ha3, Ga3⟩ := id fv2
  have hin3 : ¬ ((0 : Int32) < 0 ∨ cl3.slots.size ≤ ((0 : Int32)).toNatClampNeg) := inb_of Sz3 ⟨by decide, by decide⟩
  have f4 := (hv.keep kp2)
  obtain ⟨T3, h3, X3, e3, W3, st3⟩ := stR X2 hx hZ rfl Ar3 (j := (0 : Int32)) hin3 rfl (Sto.ofV Ar3 q3 fo2 (Ins.of_exa f4 (w_ hw 142 rfl))) (g := (mkF m 14 #[rv a, rv vv, rv ea2, iv 0] [(.ref vv), (.int 0), (.ref ea2)])) rfl rfl (hb hby d_jdk_38_m_24_14)
  have V3 : Arv Z h3 ea2 ke2 (.object "java/lang/Object") (10 : Int32) [(.ref vv), .null, .null, .null, .null, .null, .null, .null, .null, .null] .null := Arv.set Ar3 q3 Sz3 Nn3 Ha3 Ga3 rfl W3 0 rfl (Nat.le_of_ble_eq_true rfl)
  have Z3 : n0 ≤ h3.size := Nat.le_trans Z2 (Nat.le_of_eq W3.size.symm)
  have N3 := Fr.snoc X3 N2 fg2
  have K3 : Keep h0 h3 [a] := K2.wr W3 (Or.inr sx2)
  have R5 : ∀ tg, Sx p e below T3 m 19 #[rv a, rv vv, rv ea2, iv 0] [(.int ((0 : Int32) + (1 : Int32))), (.ref a)] tg → Sx p e below s₁ m 0 #[rv a, rv vv, rv dc, iv 0] [] tg := by
    intro tg kt
    refine XS.iloadN X0.here hx rfl (hb hby d_jdk_38_m_24_0) rfl ?_
    refine XS.aloadN X0.here hx rfl (hb hby d_jdk_38_m_24_1) rfl rfl ?_
    refine X0.arraylength hx (by rw [e0]; exact Ar1.1) (State.isArrayOf_alike hZ.alike Ar1.2.1) (g := (mkF m 2 #[rv a, rv vv, rv dc, iv 0] [(.ref dc), (.int 0)])) rfl rfl (hb hby d_jdk_38_m_24_2) _ ?_
    rw [len_of Sz1 Nn1]
    refine XS.icmpNo X0.here hx rfl (hb hby d_jdk_38_m_24_3) rfl (teq (by decide : (0 : Int32) = (0 : Int32))).2 ?_
    refine XS.aloadN X0.here hx rfl (hb hby d_jdk_38_m_24_6) rfl rfl ?_
    show Sx p e below s₁ m 7 #[rv a, rv vv, rv dc, iv 0] [(.ref a)] _
    refine st2.trans ?_
    refine XS.astoreN X2.here hx rfl (hb hby d_jdk_38_m_24_10) rfl rfl (l' := #[rv a, rv vv, rv ea2, iv 0]) rfl ?_
    refine XS.aloadN X2.here hx rfl (hb hby d_jdk_38_m_24_11) rfl rfl ?_
    refine XS.iloadN X2.here hx rfl (hb hby d_jdk_38_m_24_12) rfl ?_
    refine XS.aloadN X2.here hx rfl (hb hby d_jdk_38_m_24_13) rfl rfl ?_
    show Sx p e below T2 m 14 #[rv a, rv vv, rv ea2, iv 0] [(.ref vv), (.int 0), (.ref ea2)] _
    refine st3 _ ?_
    refine XS.aloadN X3.here hx rfl (hb hby d_jdk_38_m_24_15) rfl rfl ?_
    refine XS.iloadN X3.here hx rfl (hb hby d_jdk_38_m_24_16) rfl ?_
    refine XS.iconst X3.here hx rfl (hb hby d_jdk_38_m_24_17) ?_
    refine XS.iadd X3.here hx rfl (hb hby d_jdk_38_m_24_18) rfl ?_
    show Sx p e below T3 m 19 #[rv a, rv vv, rv ea2, iv 0] [(.int ((0 : Int32) + (1 : Int32))), (.ref a)] _
    exact kt
  have R6 : ∀ tg, Sx p e below T3 m 19 #[rv a, rv vv, rv ea2, iv 0] [(.int 1), (.ref a)] tg → Sx p e below T3 m 19 #[rv a, rv vv, rv ea2, iv 0] [(.int ((0 : Int32) + (1 : Int32))), (.ref a)] tg := fun tg kt => by rw [(by decide : ((0 : Int32) + (1 : Int32)) = (1 : Int32))]; exact kt
  have f8 := (fa2.wr W3)
  have f9 := (fd2.other W3 (Or.inl fn2))
  obtain ⟨T7, h7, X7, e7, W7, st7⟩ := putF X3 hx hZ hown (host := "") (Or.inl (w_ hw 82 rfl)) Via.refl e3 f9 f8 (Or.inl (w_ hw 83 rfl)) (w_ hw 29 rfl) (ty := .int) (by decide) rfl rfl (g := (mkF m 19 #[rv a, rv vv, rv ea2, iv 0] [(.int 1), (.ref a)])) rfl rfl (hb hby d_jdk_38_m_24_19)
  have Z7 : n0 ≤ h7.size := Nat.le_trans Z3 (Nat.le_of_eq W7.size.symm)
  have N7 := Fr.snoc X7 N3 hG
  have K7 : Keep h0 h7 [a] := K3.wr W7 (Or.inl (List.mem_of_getElem? (i := 0) rfl))
  have Fw7 := f9.same W7
  obtain ⟨fs, hr, hrun, hended, hW, hsame⟩ := X7.leave (v := none) (fun _ => rfl)
  refine ⟨_, _, pre0 _ (R5 _ (R6 _ ?_)), hrun, hended, _, _, rfl, ?_, ⟨_, rfl⟩, hW, hsame.mono (by decide) (by decide)⟩
  · show Sx p e below T3 m 19 #[rv a, rv vv, rv ea2, iv 0] [(.int 1), (.ref a)] _
    refine st7 _ ?_
    show Sx p e below T7 m 22 #[rv a, rv vv, rv ea2, iv 0] [] _
    exact X7.returnOut hx Bd.returns (hb hby d_jdk_38_m_24_22) hr
  · show QA1 Z a none 1 [.ref vv, .null, .null, .null, .null, .null, .null, .null, .null, .null] h0 n0 _ T7.heap _
    rw [e7]
    have f10 := (f8.wr W7)
    have f11 := ((fb2.other W3 (Or.inl fn2)).other W7 (Or.inr (slot_ne (Or.inl (w_ hw 48 rfl)) (Or.inl (w_ hw 83 rfl)) (by decide) (t := .int) (t' := .int) (by decide) (by decide))))
    have f12 := ((fc2.other W3 (Or.inl fn2)).other W7 (Or.inr (slot_ne (Or.inl (w_ hw 51 rfl)) (Or.inl (w_ hw 83 rfl)) (by decide) (t := (.array (.object "java/lang/Object"))) (t' := .int) (by decide) (by decide))))
    have f13 := (V3.other W7 (Ne.symm fn2))
    have f14 := ((fx2.wr W3).wr W7)
    exact ⟨rfl, N7, K7, ea2, _, _, sx2, ⟨⟨f10, f11, f12, Fw7⟩, f13, f14, fo2, hG, fg2, fn2⟩⟩
theorem ef_rmAg (m : MethodId) (x0 : Addr) (x1 : Addr) : entryFrame m #[(.ref x0), (.ref x1)] 2 = mkF m 0 #[rv x0, rv x1] [] := by first | (simp [entryFrame, mkF, argsToLocals, Value.category]; done) | rfl
set_option maxRecDepth 65536 in
set_option maxHeartbeats 40000000 in
theorem rmAg (l : Launch) (Z : State) (a0 : Array Value) (hw : ∀ d ∈ tables_1, d.before a0 Z = true) (ws : List Jvm.Cond) (a vv dc : Addr) (kd : ClassId) (mc : Int32) (h0 : Heap) (n0 : Nat) (Z0 : n0 ≤ h0.size) (hA : ALf Z h0 a mc (.ref dc) 0) (hG : n0 ≤ a) (hSd : Sta Z h0 "java/util/ArrayList" "DEFAULTCAPACITY_EMPTY_ELEMENTDATA" "[Ljava/lang/Object;" (.ref dc)) (hAd : Arv Z h0 dc kd (.object "java/lang/Object") (0 : Int32) [] .null) (hv : Exa Z h0 vv "com/example/clausemap/clausemap/outline/Part") (hnd : a ≠ dc) :
    MetFree l (⟨"java/util/ArrayList", "add", "(Ljava/lang/Object;)Z"⟩ : MethodName) (head1 (Jvm.Cond.code (⟨"java/util/ArrayList", "add", "(Ljava/lang/Object;)Z"⟩ : MethodName) jdk_38_method_25_code 2 (some .boolean) :: ws) ({ frames := 4, cells := 1, slots := 10, locals := 56 } : Room)) (fun aa_ UU_ => aa_ = #[(.ref a), (.ref vv)] ∧ Z.Warmed39 UU_.vm ∧ UU_.heap = h0) (fun _ _ _ _ _ => True) (fun _ UU_ oo_ UE_ => ∃ vv_ LL_, oo_ = .returned vv_ ∧ QA1 Z a (some (.int 1)) 1 [.ref vv, .null, .null, .null, .null, .null, .null, .null, .null, .null] h0 n0 vv_ UE_.heap LL_ ∧ FrameEnd UU_ oo_ UE_ LL_ ({ frames := 4, cells := 1, slots := 10, locals := 56 } : Room).cells ({ frames := 4, cells := 1, slots := 10, locals := 56 } : Room).slots) := by
  refine MetFree.of_bodySF (plainFor_of_name pn_7) hisR ?_
  intro p e s m args below meth c s₁ Bd hml0 hP hK
  obtain ⟨rfl, hZ, hh⟩ := hP
  have hx := Bd.exec
  have hby := Bd.bytes
  have hml : c.maxLocals = 2 := hml0
  have hown : s.vm.findClass "java/util/ArrayList" = some m.cls := findClass_of_methodNamed Bd.named
  have hnm := (name_of_methodNamed Bd.named Bd.method).1
  have X0 : Stand p l e ({ frames := 4, cells := 1, slots := 10, locals := 56 } : Room) s m #[(.ref a), (.ref vv)] below meth c s₁ [] 0 0 := Stand.of_body Bd
  have e0 : s₁.heap = h0 := by rw [← hh, Bd.state]; rfl
  have N0 := Fr.nil n0
  have K0 : Keep h0 h0 [a] := Keep.refl h0 _
  have pre0 : ∀ tg, Steps p.tables e below (s₁.setTop (mkF m 0 #[rv a, rv vv] [])) tg → Steps p.tables e below (s₁.setTop (entryFrame m #[(.ref a), (.ref vv)] 2)) tg := fun tg kq_ => castTop (ef_rmAg m a vv) kq_
  obtain ⟨hE, hFm, hFe, hFs⟩ := hA
  obtain ⟨T1, X1, e1, st1⟩ := getF X0 hx hZ hown (host := "") (Or.inl (w_ hw 120 rfl)) (Via.of (w_ hw 121 rfl)) e0 hFm (g := (mkF m 2 #[rv a, rv vv] [(.ref a), (.ref a)])) rfl rfl (hb hby d_jdk_38_m_25_2)
  obtain ⟨T2, h2, X2, e2, W2, st2⟩ := putF X1 hx hZ hown (host := "") (Or.inl (w_ hw 120 rfl)) (Via.of (w_ hw 121 rfl)) e1 hFm hE (Or.inl (w_ hw 48 rfl)) (w_ hw 29 rfl) (ty := .int) (by decide) rfl rfl (g := (mkF m 7 #[rv a, rv vv] [(.int (mc + (1 : Int32))), (.ref a)])) rfl rfl (hb hby d_jdk_38_m_25_7)
  have Z2 : n0 ≤ h2.size := Nat.le_trans Z0 (Nat.le_of_eq W2.size.symm)
  have N2 := Fr.snoc X2 N0 hG
  have K2 : Keep h0 h2 [a] := K0.wr W2 (Or.inl (List.mem_of_getElem? (i := 0) rfl))
  have Fw2 := hFm.same W2
  have f3 := (hFe.other W2 (Or.inr (slot_ne (Or.inl (w_ hw 51 rfl)) (Or.inl (w_ hw 48 rfl)) (by decide) (t := (.array (.object "java/lang/Object"))) (t' := .int) (by decide) (by decide))))
  obtain ⟨T4, X4, e4, st4⟩ := getF X2 hx hZ hown (host := "") (Or.inl (w_ hw 50 rfl)) Via.refl e2 f3 (g := (mkF m 13 #[rv a, rv vv] [(.ref a), (.ref vv), (.ref a)])) rfl rfl (hb hby d_jdk_38_m_25_13)
  have f5 := (hFs.other W2 (Or.inr (slot_ne (Or.inl (w_ hw 83 rfl)) (Or.inl (w_ hw 48 rfl)) (by decide) (t := .int) (t' := .int) (by decide) (by decide))))
  obtain ⟨T6, X6, e6, st6⟩ := getF X4 hx hZ hown (host := "") (Or.inl (w_ hw 82 rfl)) Via.refl e4 f5 (g := (mkF m 17 #[rv a, rv vv] [(.ref a), (.ref dc), (.ref vv), (.ref a)])) rfl rfl (hb hby d_jdk_38_m_25_17)
  have f7 := (hE.wr W2)
  have f8 := (hSd.wr W2)
  have f9 := (hAd.other W2 (Ne.symm hnd))
  have f10 := (hv.wr W2)
  obtain ⟨cq11, q11, q11'⟩ := f7.cell
  obtain ⟨_, _, ⟨T11, L11, k11, n11⟩, -, X11, ⟨Lc11, hQ11, l11, y11, z11⟩, st11⟩ := X6.privateBack hx (y := (⟨"java/util/ArrayList", "add", "(Ljava/lang/Object;[Ljava/lang/Object;I)V"⟩ : MethodName)) hown (mvT hZ (w_ hw 122 rfl)) (mvT hZ (w_ hw 123 rfl)) (mvT hZ (w_ hw 125 rfl)) (Cond.privateMethod_at (mvP hZ (w_ hw 124 rfl) (args := #[]))) (mvT hZ (w_ hw 126 rfl)) (by decide) (backOf (W := 0) (rmPg l Z a0 hw [] a vv dc kd (mc + (1 : Int32)) h2 n0 Z2 ⟨f7, Fw2, f3, f5⟩ hG f8 f9 f10) hZ (w_ hw 126 rfl) (w_ hw 30 rfl) (by decide) (by decide)) (g := (mkF m 20 #[rv a, rv vv] [(.int 0), (.ref dc), (.ref vv), (.ref a)])) rfl (by rw [hml]; rfl) (Steps.refl _) (a := a) (by rw [e6]; exact q11) q11' (argsL := [(.ref vv), (.ref dc), (.int 0)]) (rest := []) (lenOf pd_4 rfl) rfl (by show 2 * 0 + _ ≤ _; exact Nat.le_of_eq rfl) (hb hby d_jdk_38_m_25_20) (fun _ _ => ⟨rfl, e6, (by decide : 0 + 1 ≤ _), (by decide : 0 + 10 ≤ _)⟩)
  dsimp only [Pt.U, Pt.locs, Pt.cells, Pt.slots] at X11 l11 y11 z11 st11 hQ11
  subst l11 y11 z11
  obtain ⟨hv11, N11q, kp11, ea11, ke11, mc11, sz11, hC11⟩ := hQ11
  subst hv11
  have N11 := Fr.app N2 N11q
  have Z11 : n0 ≤ T11.heap.size := Nat.le_trans Z2 kp11.1
  have K11 : Keep h0 T11.heap [a] := K2.trans kp11 (allS (Or.inl (List.mem_of_getElem? (i := 0) rfl)) all0)
  obtain ⟨⟨fa11, fb11, fc11, fd11⟩, fv11, fx11, fo11, -, fg11, fn11⟩ := id hC11
  have sx11 := Nat.le_trans K2.1 sz11
  obtain ⟨fs, hr, hrun, hended, hW, hsame⟩ := X11.leave (v := some (.int 1)) (fun h => by rw [Bd.returns] at h; cases h)
  refine ⟨_, _, pre0 _ ?_, hrun, hended, _, _, rfl, ?_, ⟨_, rfl⟩, hW, hsame.mono (by decide) (by decide)⟩
  · show Sx p e below s₁ m 0 #[rv a, rv vv] [] _
    refine XS.aloadN X0.here hx rfl (hb hby d_jdk_38_m_25_0) rfl rfl ?_
    refine XS.dup X0.here hx rfl (hb hby d_jdk_38_m_25_1) rfl rfl ?_
    refine st1 _ ?_
    refine XS.iconst X1.here hx rfl (hb hby d_jdk_38_m_25_5) ?_
    refine XS.iadd X1.here hx rfl (hb hby d_jdk_38_m_25_6) rfl ?_
    show Sx p e below T1 m 7 #[rv a, rv vv] [(.int (mc + (1 : Int32))), (.ref a)] _
    refine st2 _ ?_
    refine XS.aloadN X2.here hx rfl (hb hby d_jdk_38_m_25_10) rfl rfl ?_
    refine XS.aloadN X2.here hx rfl (hb hby d_jdk_38_m_25_11) rfl rfl ?_
    refine XS.aloadN X2.here hx rfl (hb hby d_jdk_38_m_25_12) rfl rfl ?_
    refine st4 _ ?_
    show Sx p e below T4 m 16 #[rv a, rv vv] [(.ref dc), (.ref vv), (.ref a)] _
    refine XS.aloadN X4.here hx rfl (hb hby d_jdk_38_m_25_16) rfl rfl ?_
    refine st6 _ ?_
    refine st11.trans ?_
    refine XS.iconst X11.here hx rfl (hb hby d_jdk_38_m_25_23) ?_
    show Sx p e below T11 m 24 #[rv a, rv vv] [(.int 1)] _
    exact retN X11 hx (t := .boolean) Bd.returns (by simp) (hb hby d_jdk_38_m_25_24) hr
  · show QA1 Z a (some (.int 1)) 1 [.ref vv, .null, .null, .null, .null, .null, .null, .null, .null, .null] h0 n0 _ T11.heap _
    exact ⟨rfl, N11, K11, ea11, _, _, sx11, ⟨⟨fa11, fb11, fc11, fd11⟩, fv11, fx11, fo11, hG, fg11, fn11⟩⟩
theorem ef_rmPn (m : MethodId) (x0 : Addr) (x1 : Addr) (x2 : Addr) (x3 : Int32) : entryFrame m #[(.ref x0), (.ref x1), (.ref x2), (.int x3)] 4 = mkF m 0 #[rv x0, rv x1, rv x2, iv x3] [] := by first | (simp [entryFrame, mkF, argsToLocals, Value.category]; done) | rfl
set_option maxRecDepth 65536 in
set_option maxHeartbeats 40000000 in
theorem rmPn (l : Launch) (Z : State) (a0 : Array Value) (hw : ∀ d ∈ tables_1, d.before a0 Z = true) (ws : List Jvm.Cond) (a vv ea : Addr) (ke : ClassId) (mc n : Int32) (vs : List Value) (i : Nat) (h0 : Heap) (n0 : Nat) (Z0 : n0 ≤ h0.size) (hC : ALs Z n0 h0 a ea ke mc n vs) (hv : Exa Z h0 vv "com/example/clausemap/clausemap/outline/Part") (hs3 : ¬ n = (10 : Int32)) (hlo : ¬ n < 0 ∧ n < (10 : Int32)) (hi : n.toNatClampNeg = i) (hl : i < vs.length) :
    MetFree l (⟨"java/util/ArrayList", "add", "(Ljava/lang/Object;[Ljava/lang/Object;I)V"⟩ : MethodName) (head1 (Jvm.Cond.code (⟨"java/util/ArrayList", "add", "(Ljava/lang/Object;[Ljava/lang/Object;I)V"⟩ : MethodName) jdk_38_method_24_code 4 none :: ws) ({ frames := 0, cells := 0, slots := 0, locals := 0 } : Room)) (fun aa_ UU_ => aa_ = #[(.ref a), (.ref vv), (.ref ea), (.int n)] ∧ Z.Warmed39 UU_.vm ∧ UU_.heap = h0) (fun _ _ _ _ _ => True) (fun _ UU_ oo_ UE_ => ∃ vv_ LL_, oo_ = .returned vv_ ∧ QAn Z a ea ke none (n + 1) (vs.set i (.ref vv)) h0 n0 vv_ UE_.heap LL_ ∧ FrameEnd UU_ oo_ UE_ LL_ ({ frames := 0, cells := 0, slots := 0, locals := 0 } : Room).cells ({ frames := 0, cells := 0, slots := 0, locals := 0 } : Room).slots) := by
  refine MetFree.of_bodySF (plainFor_of_name pn_7) hisR ?_
  intro p e s m args below meth c s₁ Bd hml0 hP hK
  obtain ⟨rfl, hZ, hh⟩ := hP
  have hx := Bd.exec
  have hby := Bd.bytes
  have hml : c.maxLocals = 4 := hml0
  have hown : s.vm.findClass "java/util/ArrayList" = some m.cls := findClass_of_methodNamed Bd.named
  have hnm := (name_of_methodNamed Bd.named Bd.method).1
  have X0 : Stand p l e ({ frames := 0, cells := 0, slots := 0, locals := 0 } : Room) s m #[(.ref a), (.ref vv), (.ref ea), (.int n)] below meth c s₁ [] 0 0 := Stand.of_body Bd
  have e0 : s₁.heap = h0 := by rw [← hh, Bd.state]; rfl
  have N0 := Fr.nil n0
  have K0 : Keep h0 h0 [a, ea] := Keep.refl h0 _
  have pre0 : ∀ tg, Steps p.tables e below (s₁.setTop (mkF m 0 #[rv a, rv vv, rv ea, iv n] [])) tg → Steps p.tables e below (s₁.setTop (entryFrame m #[(.ref a), (.ref vv), (.ref ea), (.int n)] 4)) tg := fun tg kq_ => castTop (ef_rmPn m a vv ea n) kq_
  obtain ⟨⟨hE, hFm, hFe, hFs⟩, hVe, hXe, hO, hG, hge, hn2⟩ := hC
  obtain ⟨cl1, Ar1, q1, Sz1, Nn1, Ha1, Ga1⟩ := id hVe
  obtain ⟨cl2, Ar2, q2, Sz2, Nn2, Ha2, Ga2⟩ := id hVe
  have hin2 : ¬ (n < 0 ∨ cl2.slots.size ≤ (n).toNatClampNeg) := inb_of Sz2 hlo
  obtain ⟨T2, h2, X2, e2, W2, st2⟩ := stR X0 hx hZ e0 Ar2 (j := n) hin2 rfl (Sto.ofV Ar2 q2 hO (Ins.of_exa hv (w_ hw 142 rfl))) (g := (mkF m 14 #[rv a, rv vv, rv ea, iv n] [(.ref vv), (.int n), (.ref ea)])) rfl rfl (hb hby d_jdk_38_m_24_14)
  have V2 : Arv Z h2 ea ke (.object "java/lang/Object") (10 : Int32) (vs.set i (.ref vv)) .null := Arv.set Ar2 q2 Sz2 Nn2 Ha2 Ga2 rfl W2 i hi hl
  have Z2 : n0 ≤ h2.size := Nat.le_trans Z0 (Nat.le_of_eq W2.size.symm)
  have N2 := Fr.snoc X2 N0 hge
  have K2 : Keep h0 h2 [a, ea] := K0.wr W2 (Or.inl (List.mem_of_getElem? (i := 1) rfl))
  have f4 := (hE.wr W2)
  have f5 := (hFs.other W2 (Or.inl hn2))
  obtain ⟨T3, h3, X3, e3, W3, st3⟩ := putF X2 hx hZ hown (host := "") (Or.inl (w_ hw 82 rfl)) Via.refl e2 f5 f4 (Or.inl (w_ hw 83 rfl)) (w_ hw 29 rfl) (ty := .int) (by decide) rfl rfl (g := (mkF m 19 #[rv a, rv vv, rv ea, iv n] [(.int (n + (1 : Int32))), (.ref a)])) rfl rfl (hb hby d_jdk_38_m_24_19)
  have Z3 : n0 ≤ h3.size := Nat.le_trans Z2 (Nat.le_of_eq W3.size.symm)
  have N3 := Fr.snoc X3 N2 hG
  have K3 : Keep h0 h3 [a, ea] := K2.wr W3 (Or.inl (List.mem_of_getElem? (i := 0) rfl))
  have Fw3 := f5.same W3
  obtain ⟨fs, hr, hrun, hended, hW, hsame⟩ := X3.leave (v := none) (fun _ => rfl)
  refine ⟨_, _, pre0 _ ?_, hrun, hended, _, _, rfl, ?_, ⟨_, rfl⟩, hW, hsame.mono (by decide) (by decide)⟩
  · show Sx p e below s₁ m 0 #[rv a, rv vv, rv ea, iv n] [] _
    refine XS.iloadN X0.here hx rfl (hb hby d_jdk_38_m_24_0) rfl ?_
    refine XS.aloadN X0.here hx rfl (hb hby d_jdk_38_m_24_1) rfl rfl ?_
    refine X0.arraylength hx (by rw [e0]; exact Ar1.1) (State.isArrayOf_alike hZ.alike Ar1.2.1) (g := (mkF m 2 #[rv a, rv vv, rv ea, iv n] [(.ref ea), (.int n)])) rfl rfl (hb hby d_jdk_38_m_24_2) _ ?_
    rw [len_of Sz1 Nn1]
    refine XS.icmpYes X0.here hx rfl (pc0 := 3) (pc' := 11) rfl (hb hby d_jdk_38_m_24_3) rfl (feq hs3).2 (by decide) (by decide) ?_
    refine XS.aloadN X0.here hx rfl (hb hby d_jdk_38_m_24_11) rfl rfl ?_
    show Sx p e below s₁ m 12 #[rv a, rv vv, rv ea, iv n] [(.ref ea)] _
    refine XS.iloadN X0.here hx rfl (hb hby d_jdk_38_m_24_12) rfl ?_
    refine XS.aloadN X0.here hx rfl (hb hby d_jdk_38_m_24_13) rfl rfl ?_
    refine st2 _ ?_
    refine XS.aloadN X2.here hx rfl (hb hby d_jdk_38_m_24_15) rfl rfl ?_
    refine XS.iloadN X2.here hx rfl (hb hby d_jdk_38_m_24_16) rfl ?_
    show Sx p e below T2 m 17 #[rv a, rv vv, rv ea, iv n] [(.int n), (.ref a)] _
    refine XS.iconst X2.here hx rfl (hb hby d_jdk_38_m_24_17) ?_
    refine XS.iadd X2.here hx rfl (hb hby d_jdk_38_m_24_18) rfl ?_
    refine st3 _ ?_
    show Sx p e below T3 m 22 #[rv a, rv vv, rv ea, iv n] [] _
    exact X3.returnOut hx Bd.returns (hb hby d_jdk_38_m_24_22) hr
  · show QAn Z a ea ke none (n + 1) (vs.set i (.ref vv)) h0 n0 _ T3.heap _
    rw [e3]
    have f6 := (f4.wr W3)
    have f7 := ((hFm.other W2 (Or.inl hn2)).other W3 (Or.inr (slot_ne (Or.inl (w_ hw 48 rfl)) (Or.inl (w_ hw 83 rfl)) (by decide) (t := .int) (t' := .int) (by decide) (by decide))))
    have f8 := ((hFe.other W2 (Or.inl hn2)).other W3 (Or.inr (slot_ne (Or.inl (w_ hw 51 rfl)) (Or.inl (w_ hw 83 rfl)) (by decide) (t := (.array (.object "java/lang/Object"))) (t' := .int) (by decide) (by decide))))
    have f9 := (V2.other W3 (Ne.symm hn2))
    have f10 := ((hXe.wr W2).wr W3)
    exact ⟨rfl, N3, K3, _, ⟨⟨f6, f7, f8, Fw3⟩, f9, f10, hO, hG, hge, hn2⟩⟩
theorem ef_rmAn (m : MethodId) (x0 : Addr) (x1 : Addr) : entryFrame m #[(.ref x0), (.ref x1)] 2 = mkF m 0 #[rv x0, rv x1] [] := by first | (simp [entryFrame, mkF, argsToLocals, Value.category]; done) | rfl
set_option maxRecDepth 65536 in
set_option maxHeartbeats 40000000 in
theorem rmAn (l : Launch) (Z : State) (a0 : Array Value) (hw : ∀ d ∈ tables_1, d.before a0 Z = true) (ws : List Jvm.Cond) (a vv ea : Addr) (ke : ClassId) (mc n : Int32) (vs : List Value) (i : Nat) (h0 : Heap) (n0 : Nat) (Z0 : n0 ≤ h0.size) (hC : ALs Z n0 h0 a ea ke mc n vs) (hv : Exa Z h0 vv "com/example/clausemap/clausemap/outline/Part") (hs3 : ¬ n = (10 : Int32)) (hlo : ¬ n < 0 ∧ n < (10 : Int32)) (hi : n.toNatClampNeg = i) (hl : i < vs.length) :
    MetFree l (⟨"java/util/ArrayList", "add", "(Ljava/lang/Object;)Z"⟩ : MethodName) (head1 (Jvm.Cond.code (⟨"java/util/ArrayList", "add", "(Ljava/lang/Object;)Z"⟩ : MethodName) jdk_38_method_25_code 2 (some .boolean) :: ws) ({ frames := 1, cells := 0, slots := 0, locals := 15 } : Room)) (fun aa_ UU_ => aa_ = #[(.ref a), (.ref vv)] ∧ Z.Warmed39 UU_.vm ∧ UU_.heap = h0) (fun _ _ _ _ _ => True) (fun _ UU_ oo_ UE_ => ∃ vv_ LL_, oo_ = .returned vv_ ∧ QAn Z a ea ke (some (.int 1)) (n + 1) (vs.set i (.ref vv)) h0 n0 vv_ UE_.heap LL_ ∧ FrameEnd UU_ oo_ UE_ LL_ ({ frames := 1, cells := 0, slots := 0, locals := 15 } : Room).cells ({ frames := 1, cells := 0, slots := 0, locals := 15 } : Room).slots) := by
  refine MetFree.of_bodySF (plainFor_of_name pn_7) hisR ?_
  intro p e s m args below meth c s₁ Bd hml0 hP hK
  obtain ⟨rfl, hZ, hh⟩ := hP
  have hx := Bd.exec
  have hby := Bd.bytes
  have hml : c.maxLocals = 2 := hml0
  have hown : s.vm.findClass "java/util/ArrayList" = some m.cls := findClass_of_methodNamed Bd.named
  have hnm := (name_of_methodNamed Bd.named Bd.method).1
  have X0 : Stand p l e ({ frames := 1, cells := 0, slots := 0, locals := 15 } : Room) s m #[(.ref a), (.ref vv)] below meth c s₁ [] 0 0 := Stand.of_body Bd
  have e0 : s₁.heap = h0 := by rw [← hh, Bd.state]; rfl
  have N0 := Fr.nil n0
  have K0 : Keep h0 h0 [a, ea] := Keep.refl h0 _
  have pre0 : ∀ tg, Steps p.tables e below (s₁.setTop (mkF m 0 #[rv a, rv vv] [])) tg → Steps p.tables e below (s₁.setTop (entryFrame m #[(.ref a), (.ref vv)] 2)) tg := fun tg kq_ => castTop (ef_rmAn m a vv) kq_
  obtain ⟨⟨hE, hFm, hFe, hFs⟩, hVe, hXe, hO, hG, hge, hn2⟩ := hC
  obtain ⟨T1, X1, e1, st1⟩ := getF X0 hx hZ hown (host := "") (Or.inl (w_ hw 120 rfl)) (Via.of (w_ hw 121 rfl)) e0 hFm (g := (mkF m 2 #[rv a, rv vv] [(.ref a), (.ref a)])) rfl rfl (hb hby d_jdk_38_m_25_2)
  obtain ⟨T2, h2, X2, e2, W2, st2⟩ := putF X1 hx hZ hown (host := "") (Or.inl (w_ hw 120 rfl)) (Via.of (w_ hw 121 rfl)) e1 hFm hE (Or.inl (w_ hw 48 rfl)) (w_ hw 29 rfl) (ty := .int) (by decide) rfl rfl (g := (mkF m 7 #[rv a, rv vv] [(.int (mc + (1 : Int32))), (.ref a)])) rfl rfl (hb hby d_jdk_38_m_25_7)
  have Z2 : n0 ≤ h2.size := Nat.le_trans Z0 (Nat.le_of_eq W2.size.symm)
  have N2 := Fr.snoc X2 N0 hG
  have K2 : Keep h0 h2 [a, ea] := K0.wr W2 (Or.inl (List.mem_of_getElem? (i := 0) rfl))
  have Fw2 := hFm.same W2
  have f3 := (hFe.other W2 (Or.inr (slot_ne (Or.inl (w_ hw 51 rfl)) (Or.inl (w_ hw 48 rfl)) (by decide) (t := (.array (.object "java/lang/Object"))) (t' := .int) (by decide) (by decide))))
  obtain ⟨T4, X4, e4, st4⟩ := getF X2 hx hZ hown (host := "") (Or.inl (w_ hw 50 rfl)) Via.refl e2 f3 (g := (mkF m 13 #[rv a, rv vv] [(.ref a), (.ref vv), (.ref a)])) rfl rfl (hb hby d_jdk_38_m_25_13)
  have f5 := (hFs.other W2 (Or.inr (slot_ne (Or.inl (w_ hw 83 rfl)) (Or.inl (w_ hw 48 rfl)) (by decide) (t := .int) (t' := .int) (by decide) (by decide))))
  obtain ⟨T6, X6, e6, st6⟩ := getF X4 hx hZ hown (host := "") (Or.inl (w_ hw 82 rfl)) Via.refl e4 f5 (g := (mkF m 17 #[rv a, rv vv] [(.ref a), (.ref ea), (.ref vv), (.ref a)])) rfl rfl (hb hby d_jdk_38_m_25_17)
  have f7 := (hE.wr W2)
  have f8 := (hVe.other W2 (Ne.symm hn2))
  have f9 := (hXe.wr W2)
  have f10 := (hv.wr W2)
  obtain ⟨cq11, q11, q11'⟩ := f7.cell
  obtain ⟨_, _, ⟨T11, L11, k11, n11⟩, -, X11, ⟨Lc11, hQ11, l11, y11, z11⟩, st11⟩ := X6.privateBack hx (y := (⟨"java/util/ArrayList", "add", "(Ljava/lang/Object;[Ljava/lang/Object;I)V"⟩ : MethodName)) hown (mvT hZ (w_ hw 122 rfl)) (mvT hZ (w_ hw 123 rfl)) (mvT hZ (w_ hw 125 rfl)) (Cond.privateMethod_at (mvP hZ (w_ hw 124 rfl) (args := #[]))) (mvT hZ (w_ hw 126 rfl)) (by decide) (backOf (W := 0) (rmPn l Z a0 hw [] a vv ea ke (mc + (1 : Int32)) n vs i h2 n0 Z2 ⟨⟨f7, Fw2, f3, f5⟩, f8, f9, hO, hG, hge, hn2⟩ f10 hs3 hlo hi hl) hZ (w_ hw 126 rfl) (w_ hw 30 rfl) (by decide) (by decide)) (g := (mkF m 20 #[rv a, rv vv] [(.int n), (.ref ea), (.ref vv), (.ref a)])) rfl (by rw [hml]; rfl) (Steps.refl _) (a := a) (by rw [e6]; exact q11) q11' (argsL := [(.ref vv), (.ref ea), (.int n)]) (rest := []) (lenOf pd_4 rfl) rfl (by show 2 * 0 + _ ≤ _; exact Nat.le_of_eq rfl) (hb hby d_jdk_38_m_25_20) (fun _ _ => ⟨rfl, e6, (by decide : 0 + 0 ≤ _), (by decide : 0 + 0 ≤ _)⟩)
  dsimp only [Pt.U, Pt.locs, Pt.cells, Pt.slots] at X11 l11 y11 z11 st11 hQ11
  subst l11 y11 z11
  obtain ⟨hv11, N11q, kp11, mc11, hC11⟩ := hQ11
  subst hv11
  have N11 := Fr.app N2 N11q
  have Z11 : n0 ≤ T11.heap.size := Nat.le_trans Z2 kp11.1
  have K11 : Keep h0 T11.heap [a, ea] := K2.trans kp11 (allS (Or.inl (List.mem_of_getElem? (i := 0) rfl)) (allS (Or.inl (List.mem_of_getElem? (i := 1) rfl)) all0))
  obtain ⟨fs, hr, hrun, hended, hW, hsame⟩ := X11.leave (v := some (.int 1)) (fun h => by rw [Bd.returns] at h; cases h)
  refine ⟨_, _, pre0 _ ?_, hrun, hended, _, _, rfl, ?_, ⟨_, rfl⟩, hW, hsame.mono (by decide) (by decide)⟩
  · show Sx p e below s₁ m 0 #[rv a, rv vv] [] _
    refine XS.aloadN X0.here hx rfl (hb hby d_jdk_38_m_25_0) rfl rfl ?_
    refine XS.dup X0.here hx rfl (hb hby d_jdk_38_m_25_1) rfl rfl ?_
    refine st1 _ ?_
    refine XS.iconst X1.here hx rfl (hb hby d_jdk_38_m_25_5) ?_
    refine XS.iadd X1.here hx rfl (hb hby d_jdk_38_m_25_6) rfl ?_
    show Sx p e below T1 m 7 #[rv a, rv vv] [(.int (mc + (1 : Int32))), (.ref a)] _
    refine st2 _ ?_
    refine XS.aloadN X2.here hx rfl (hb hby d_jdk_38_m_25_10) rfl rfl ?_
    refine XS.aloadN X2.here hx rfl (hb hby d_jdk_38_m_25_11) rfl rfl ?_
    refine XS.aloadN X2.here hx rfl (hb hby d_jdk_38_m_25_12) rfl rfl ?_
    refine st4 _ ?_
    show Sx p e below T4 m 16 #[rv a, rv vv] [(.ref ea), (.ref vv), (.ref a)] _
    refine XS.aloadN X4.here hx rfl (hb hby d_jdk_38_m_25_16) rfl rfl ?_
    refine st6 _ ?_
    refine st11.trans ?_
    refine XS.iconst X11.here hx rfl (hb hby d_jdk_38_m_25_23) ?_
    show Sx p e below T11 m 24 #[rv a, rv vv] [(.int 1)] _
    exact retN X11 hx (t := .boolean) Bd.returns (by simp) (hb hby d_jdk_38_m_25_24) hr
  · show QAn Z a ea ke (some (.int 1)) (n + 1) (vs.set i (.ref vv)) h0 n0 _ T11.heap _
    exact ⟨rfl, N11, K11, _, hC11⟩
theorem ef_rmL1 (m : MethodId) (x0 : Addr) (x1 : Addr) : entryFrame m #[(.ref x0), (.ref x1)] 2 = mkF m 0 #[rv x0, rv x1] [] := by first | (simp [entryFrame, mkF, argsToLocals, Value.category]; done) | rfl
set_option maxRecDepth 65536 in
set_option maxHeartbeats 40000000 in
theorem rmL1 (l : Launch) (Z : State) (a0 : Array Value) (hw : ∀ d ∈ tables_1, d.before a0 Z = true) (ws : List Jvm.Cond) (a pa em : Addr) (h0 : Heap) (n0 : Nat) (Z0 : n0 ≤ h0.size) (hE : Exa Z h0 a "java/util/ImmutableCollections$List12") (hF0 : Fld Z h0 a "java/util/ImmutableCollections$List12" "e0" "Ljava/lang/Object;" .null) (hF1 : Fld Z h0 a "java/util/ImmutableCollections$List12" "e1" "Ljava/lang/Object;" .null) (hG : n0 ≤ a) (hO1 : Old Z n0 h0) (hSe : Sta Z Z.heap "java/util/ImmutableCollections" "EMPTY" "Ljava/lang/Object;" (.ref em)) :
    MetFree l (⟨"java/util/ImmutableCollections$List12", "<init>", "(Ljava/lang/Object;)V"⟩ : MethodName) (head1 (Jvm.Cond.code (⟨"java/util/ImmutableCollections$List12", "<init>", "(Ljava/lang/Object;)V"⟩ : MethodName) jdk_44_method_1_code 2 none :: ws) ({ frames := 4, cells := 0, slots := 0, locals := 48 } : Room)) (fun aa_ UU_ => aa_ = #[(.ref a), (.ref pa)] ∧ Z.Warmed39 UU_.vm ∧ UU_.heap = h0) (fun _ _ _ _ _ => True) (fun _ UU_ oo_ UE_ => ∃ vv_ LL_, oo_ = .returned vv_ ∧ Q12 Z a pa em h0 n0 vv_ UE_.heap LL_ ∧ FrameEnd UU_ oo_ UE_ LL_ ({ frames := 4, cells := 0, slots := 0, locals := 48 } : Room).cells ({ frames := 4, cells := 0, slots := 0, locals := 48 } : Room).slots) := by
  refine MetFree.of_bodySF (plainFor_of_name pn_8) hisR ?_
  intro p e s m args below meth c s₁ Bd hml0 hP hK
  obtain ⟨rfl, hZ, hh⟩ := hP
  have hx := Bd.exec
  have hby := Bd.bytes
  have hml : c.maxLocals = 2 := hml0
  have hown : s.vm.findClass "java/util/ImmutableCollections$List12" = some m.cls := findClass_of_methodNamed Bd.named
  have hnm := (name_of_methodNamed Bd.named Bd.method).1
  have X0 : Stand p l e ({ frames := 4, cells := 0, slots := 0, locals := 48 } : Room) s m #[(.ref a), (.ref pa)] below meth c s₁ [] 0 0 := Stand.of_body Bd
  have e0 : s₁.heap = h0 := by rw [← hh, Bd.state]; rfl
  have N0 := Fr.nil n0
  have K0 : Keep h0 h0 [a] := Keep.refl h0 _
  have pre0 : ∀ tg, Steps p.tables e below (s₁.setTop (mkF m 0 #[rv a, rv pa] [])) tg → Steps p.tables e below (s₁.setTop (entryFrame m #[(.ref a), (.ref pa)] 2)) tg := fun tg kq_ => castTop (ef_rmL1 m a pa) kq_
  obtain ⟨_, _, ⟨T1, L1, k1, n1⟩, -, X1, ⟨Lc1, hQ1, l1, y1, z1⟩, st1⟩ := X0.specialBack hx (y := (⟨"java/util/ImmutableCollections$AbstractImmutableList", "<init>", "()V"⟩ : MethodName)) rfl hown (mvT hZ (w_ hw 227 rfl)) (mvT hZ (w_ hw 190 rfl)) (mvT hZ (w_ hw 194 rfl)) (by decide) (backOf (W := 0) (rmAIL l Z a0 hw [] a h0 n0 Z0) hZ (w_ hw 194 rfl) (w_ hw 193 rfl) (by decide) (by decide)) (g := (mkF m 1 #[rv a, rv pa] [(.ref a)])) rfl (by rw [hml]; rfl) (Steps.refl _) (a := a) (argsL := []) (rest := []) (lenOf pd_0 rfl) rfl (by show 2 * 0 + _ ≤ _; exact Nat.le_of_eq rfl) (hb hby d_jdk_44_m_1_1) (fun _ _ => ⟨rfl, e0, (by decide : 0 + 0 ≤ _), (by decide : 0 + 0 ≤ _)⟩)
  dsimp only [Pt.U, Pt.locs, Pt.cells, Pt.slots] at X1 l1 y1 z1 st1 hQ1
  subst l1 y1 z1
  obtain ⟨hv1, N1q, r1⟩ := hQ1
  subst hv1
  have N1 := Fr.app N0 N1q
  obtain ⟨_, _, ⟨T2, L2, k2, n2⟩, -, X2, ⟨Lc2, hQ2, l2, y2, z2⟩, st2⟩ := Jvm.LawKit.callS X1 hx (y := (⟨"java/util/Objects", "requireNonNull", "(Ljava/lang/Object;)Ljava/lang/Object;"⟩ : MethodName)) hown (mvT hZ (w_ hw 231 rfl)) (mvT hZ (w_ hw 181 rfl)) (mvT hZ (w_ hw 182 rfl)) (mvT hZ (w_ hw 183 rfl)) (by decide) (backOf (W := 1) (rmRN l Z a0 hw [] pa h0 n0 Z0) hZ (w_ hw 183 rfl) (w_ hw 182 rfl) (by decide) (by decide)) (g := (mkF m 6 #[rv a, rv pa] [(.ref pa), (.ref a)])) rfl (by rw [hml]; rfl) (argsL := [(.ref pa)]) (rest := [(.ref a)]) (lenOf pd_5 rfl) rfl (by show 2 * 0 + _ ≤ _; exact Nat.le_of_eq rfl) (hb hby d_jdk_44_m_1_6) (fun _ _ => ⟨rfl, r1, (by decide : 0 + 0 ≤ _), (by decide : 0 + 0 ≤ _)⟩)
  dsimp only [Pt.U, Pt.locs, Pt.cells, Pt.slots] at X2 l2 y2 z2 st2 hQ2
  subst l2 y2 z2
  obtain ⟨hv2, N2q, r2⟩ := hQ2
  subst hv2
  have N2 := Fr.app N1 N2q
  obtain ⟨T3, h3, X3, e3, W3, st3⟩ := putF X2 hx hZ hown (host := "") (Or.inl (w_ hw 232 rfl)) Via.refl r2 hF0 hE (Or.inr ⟨(w_ hw 233 rfl), rfl, hnm⟩) (w_ hw 221 rfl) (ty := (.object "java/lang/Object")) (by decide) rfl rfl (g := (mkF m 9 #[rv a, rv pa] [(.ref pa), (.ref a)])) rfl rfl (hb hby d_jdk_44_m_1_9)
  have Z3 : n0 ≤ h3.size := Nat.le_trans Z0 (Nat.le_of_eq W3.size.symm)
  have N3 := Fr.snoc X3 N2 hG
  have K3 : Keep h0 h3 [a] := K0.wr W3 (Or.inl (List.mem_of_getElem? (i := 0) rfl))
  have Fw3 := hF0.same W3
  have f4 := (hO1.wr W3 hG)
  obtain ⟨T5, X5, e5, st5⟩ := getS2 X3 hx hZ hown (Or.inr (w_ hw 242 rfl)) Via.refl e3 (hSe.ext f4.2) (g := (mkF m 13 #[rv a, rv pa] [(.ref a)])) rfl (hb hby d_jdk_44_m_1_13)
  have f7 := (hE.wr W3)
  have f8 := (hF1.other W3 (Or.inr (slot_ne (Or.inr (w_ hw 235 rfl)) (Or.inr (w_ hw 233 rfl)) (by decide) (t := (.object "java/lang/Object")) (t' := (.object "java/lang/Object")) (by decide) (by decide))))
  obtain ⟨T6, h6, X6, e6, W6, st6⟩ := putF X5 hx hZ hown (host := "") (Or.inl (w_ hw 234 rfl)) Via.refl e5 f8 f7 (Or.inr ⟨(w_ hw 235 rfl), rfl, hnm⟩) (w_ hw 221 rfl) (ty := (.object "java/lang/Object")) (by decide) rfl rfl (g := (mkF m 16 #[rv a, rv pa] [(.ref em), (.ref a)])) rfl rfl (hb hby d_jdk_44_m_1_16)
  have Z6 : n0 ≤ h6.size := Nat.le_trans Z3 (Nat.le_of_eq W6.size.symm)
  have N6 := Fr.snoc X6 N3 hG
  have K6 : Keep h0 h6 [a] := K3.wr W6 (Or.inl (List.mem_of_getElem? (i := 0) rfl))
  have Fw6 := f8.same W6
  obtain ⟨fs, hr, hrun, hended, hW, hsame⟩ := X6.leave (v := none) (fun _ => rfl)
  refine ⟨_, _, pre0 _ ?_, hrun, hended, _, _, rfl, ?_, ⟨_, rfl⟩, hW, hsame.mono (by decide) (by decide)⟩
  · show Sx p e below s₁ m 0 #[rv a, rv pa] [] _
    refine XS.aloadN X0.here hx rfl (hb hby d_jdk_44_m_1_0) rfl rfl ?_
    refine st1.trans ?_
    refine XS.aloadN X1.here hx rfl (hb hby d_jdk_44_m_1_4) rfl rfl ?_
    refine XS.aloadN X1.here hx rfl (hb hby d_jdk_44_m_1_5) rfl rfl ?_
    refine st2 _ ?_
    show Sx p e below T2 m 9 #[rv a, rv pa] [(.ref pa), (.ref a)] _
    refine st3 _ ?_
    refine XS.aloadN X3.here hx rfl (hb hby d_jdk_44_m_1_12) rfl rfl ?_
    refine st5 _ ?_
    refine st6 _ ?_
    show Sx p e below T6 m 19 #[rv a, rv pa] [] _
    exact X6.returnOut hx Bd.returns (hb hby d_jdk_44_m_1_19) hr
  · show Q12 Z a pa em h0 n0 _ T6.heap _
    rw [e6]
    have f9 := (Fw3.other W6 (Or.inr (slot_ne (Or.inr (w_ hw 233 rfl)) (Or.inr (w_ hw 235 rfl)) (by decide) (t := (.object "java/lang/Object")) (t' := (.object "java/lang/Object")) (by decide) (by decide))))
    exact ⟨rfl, N6, K6, f9, Fw6⟩
theorem ef_rmL2 (m : MethodId) (x0 : Addr) (x1 : Addr) (x2 : Addr) : entryFrame m #[(.ref x0), (.ref x1), (.ref x2)] 3 = mkF m 0 #[rv x0, rv x1, rv x2] [] := by first | (simp [entryFrame, mkF, argsToLocals, Value.category]; done) | rfl
set_option maxRecDepth 65536 in
set_option maxHeartbeats 40000000 in
theorem rmL2 (l : Launch) (Z : State) (a0 : Array Value) (hw : ∀ d ∈ tables_1, d.before a0 Z = true) (ws : List Jvm.Cond) (a pa pb : Addr) (h0 : Heap) (n0 : Nat) (Z0 : n0 ≤ h0.size) (hE : Exa Z h0 a "java/util/ImmutableCollections$List12") (hF0 : Fld Z h0 a "java/util/ImmutableCollections$List12" "e0" "Ljava/lang/Object;" .null) (hF1 : Fld Z h0 a "java/util/ImmutableCollections$List12" "e1" "Ljava/lang/Object;" .null) (hG : n0 ≤ a) :
    MetFree l (⟨"java/util/ImmutableCollections$List12", "<init>", "(Ljava/lang/Object;Ljava/lang/Object;)V"⟩ : MethodName) (head1 (Jvm.Cond.code (⟨"java/util/ImmutableCollections$List12", "<init>", "(Ljava/lang/Object;Ljava/lang/Object;)V"⟩ : MethodName) jdk_44_method_2_code 3 none :: ws) ({ frames := 4, cells := 0, slots := 0, locals := 48 } : Room)) (fun aa_ UU_ => aa_ = #[(.ref a), (.ref pa), (.ref pb)] ∧ Z.Warmed39 UU_.vm ∧ UU_.heap = h0) (fun _ _ _ _ _ => True) (fun _ UU_ oo_ UE_ => ∃ vv_ LL_, oo_ = .returned vv_ ∧ Q12 Z a pa pb h0 n0 vv_ UE_.heap LL_ ∧ FrameEnd UU_ oo_ UE_ LL_ ({ frames := 4, cells := 0, slots := 0, locals := 48 } : Room).cells ({ frames := 4, cells := 0, slots := 0, locals := 48 } : Room).slots) := by
  refine MetFree.of_bodySF (plainFor_of_name pn_8) hisR ?_
  intro p e s m args below meth c s₁ Bd hml0 hP hK
  obtain ⟨rfl, hZ, hh⟩ := hP
  have hx := Bd.exec
  have hby := Bd.bytes
  have hml : c.maxLocals = 3 := hml0
  have hown : s.vm.findClass "java/util/ImmutableCollections$List12" = some m.cls := findClass_of_methodNamed Bd.named
  have hnm := (name_of_methodNamed Bd.named Bd.method).1
  have X0 : Stand p l e ({ frames := 4, cells := 0, slots := 0, locals := 48 } : Room) s m #[(.ref a), (.ref pa), (.ref pb)] below meth c s₁ [] 0 0 := Stand.of_body Bd
  have e0 : s₁.heap = h0 := by rw [← hh, Bd.state]; rfl
  have N0 := Fr.nil n0
  have K0 : Keep h0 h0 [a] := Keep.refl h0 _
  have pre0 : ∀ tg, Steps p.tables e below (s₁.setTop (mkF m 0 #[rv a, rv pa, rv pb] [])) tg → Steps p.tables e below (s₁.setTop (entryFrame m #[(.ref a), (.ref pa), (.ref pb)] 3)) tg := fun tg kq_ => castTop (ef_rmL2 m a pa pb) kq_
  obtain ⟨_, _, ⟨T1, L1, k1, n1⟩, -, X1, ⟨Lc1, hQ1, l1, y1, z1⟩, st1⟩ := X0.specialBack hx (y := (⟨"java/util/ImmutableCollections$AbstractImmutableList", "<init>", "()V"⟩ : MethodName)) rfl hown (mvT hZ (w_ hw 227 rfl)) (mvT hZ (w_ hw 190 rfl)) (mvT hZ (w_ hw 194 rfl)) (by decide) (backOf (W := 0) (rmAIL l Z a0 hw [] a h0 n0 Z0) hZ (w_ hw 194 rfl) (w_ hw 193 rfl) (by decide) (by decide)) (g := (mkF m 1 #[rv a, rv pa, rv pb] [(.ref a)])) rfl (by rw [hml]; rfl) (Steps.refl _) (a := a) (argsL := []) (rest := []) (lenOf pd_0 rfl) rfl (by show 2 * 0 + _ ≤ _; exact Nat.le_of_eq rfl) (hb hby d_jdk_44_m_2_1) (fun _ _ => ⟨rfl, e0, (by decide : 0 + 0 ≤ _), (by decide : 0 + 0 ≤ _)⟩)
  dsimp only [Pt.U, Pt.locs, Pt.cells, Pt.slots] at X1 l1 y1 z1 st1 hQ1
  subst l1 y1 z1
  obtain ⟨hv1, N1q, r1⟩ := hQ1
  subst hv1
  have N1 := Fr.app N0 N1q
  obtain ⟨_, _, ⟨T2, L2, k2, n2⟩, -, X2, ⟨Lc2, hQ2, l2, y2, z2⟩, st2⟩ := Jvm.LawKit.callS X1 hx (y := (⟨"java/util/Objects", "requireNonNull", "(Ljava/lang/Object;)Ljava/lang/Object;"⟩ : MethodName)) hown (mvT hZ (w_ hw 231 rfl)) (mvT hZ (w_ hw 181 rfl)) (mvT hZ (w_ hw 182 rfl)) (mvT hZ (w_ hw 183 rfl)) (by decide) (backOf (W := 1) (rmRN l Z a0 hw [] pa h0 n0 Z0) hZ (w_ hw 183 rfl) (w_ hw 182 rfl) (by decide) (by decide)) (g := (mkF m 6 #[rv a, rv pa, rv pb] [(.ref pa), (.ref a)])) rfl (by rw [hml]; rfl) (argsL := [(.ref pa)]) (rest := [(.ref a)]) (lenOf pd_5 rfl) rfl (by show 2 * 0 + _ ≤ _; exact Nat.le_of_eq rfl) (hb hby d_jdk_44_m_2_6) (fun _ _ => ⟨rfl, r1, (by decide : 0 + 0 ≤ _), (by decide : 0 + 0 ≤ _)⟩)
  dsimp only [Pt.U, Pt.locs, Pt.cells, Pt.slots] at X2 l2 y2 z2 st2 hQ2
  subst l2 y2 z2
  obtain ⟨hv2, N2q, r2⟩ := hQ2
  subst hv2
  have N2 := Fr.app N1 N2q
  obtain ⟨T3, h3, X3, e3, W3, st3⟩ := putF X2 hx hZ hown (host := "") (Or.inl (w_ hw 232 rfl)) Via.refl r2 hF0 hE (Or.inr ⟨(w_ hw 233 rfl), rfl, hnm⟩) (w_ hw 221 rfl) (ty := (.object "java/lang/Object")) (by decide) rfl rfl (g := (mkF m 9 #[rv a, rv pa, rv pb] [(.ref pa), (.ref a)])) rfl rfl (hb hby d_jdk_44_m_2_9)
  have Z3 : n0 ≤ h3.size := Nat.le_trans Z0 (Nat.le_of_eq W3.size.symm)
  have N3 := Fr.snoc X3 N2 hG
  have K3 : Keep h0 h3 [a] := K0.wr W3 (Or.inl (List.mem_of_getElem? (i := 0) rfl))
  have Fw3 := hF0.same W3
  obtain ⟨_, _, ⟨T4, L4, k4, n4⟩, -, X4, ⟨Lc4, hQ4, l4, y4, z4⟩, st4⟩ := Jvm.LawKit.callS X3 hx (y := (⟨"java/util/Objects", "requireNonNull", "(Ljava/lang/Object;)Ljava/lang/Object;"⟩ : MethodName)) hown (mvT hZ (w_ hw 231 rfl)) (mvT hZ (w_ hw 181 rfl)) (mvT hZ (w_ hw 182 rfl)) (mvT hZ (w_ hw 183 rfl)) (by decide) (backOf (W := 1) (rmRN l Z a0 hw [] pb h3 n0 Z3) hZ (w_ hw 183 rfl) (w_ hw 182 rfl) (by decide) (by decide)) (g := (mkF m 14 #[rv a, rv pa, rv pb] [(.ref pb), (.ref a)])) rfl (by rw [hml]; rfl) (argsL := [(.ref pb)]) (rest := [(.ref a)]) (lenOf pd_5 rfl) rfl (by show 2 * 0 + _ ≤ _; exact Nat.le_of_eq rfl) (hb hby d_jdk_44_m_2_14) (fun _ _ => ⟨rfl, e3, (by decide : 0 + 0 ≤ _), (by decide : 0 + 0 ≤ _)⟩)
  dsimp only [Pt.U, Pt.locs, Pt.cells, Pt.slots] at X4 l4 y4 z4 st4 hQ4
  subst l4 y4 z4
  obtain ⟨hv4, N4q, r4⟩ := hQ4
  subst hv4
  have N4 := Fr.app N3 N4q
  have f6 := (hE.wr W3)
  have f7 := (hF1.other W3 (Or.inr (slot_ne (Or.inr (w_ hw 235 rfl)) (Or.inr (w_ hw 233 rfl)) (by decide) (t := (.object "java/lang/Object")) (t' := (.object "java/lang/Object")) (by decide) (by decide))))
  obtain ⟨T5, h5, X5, e5, W5, st5⟩ := putF X4 hx hZ hown (host := "") (Or.inl (w_ hw 234 rfl)) Via.refl r4 f7 f6 (Or.inr ⟨(w_ hw 235 rfl), rfl, hnm⟩) (w_ hw 221 rfl) (ty := (.object "java/lang/Object")) (by decide) rfl rfl (g := (mkF m 17 #[rv a, rv pa, rv pb] [(.ref pb), (.ref a)])) rfl rfl (hb hby d_jdk_44_m_2_17)
  have Z5 : n0 ≤ h5.size := Nat.le_trans Z3 (Nat.le_of_eq W5.size.symm)
  have N5 := Fr.snoc X5 N4 hG
  have K5 : Keep h0 h5 [a] := K3.wr W5 (Or.inl (List.mem_of_getElem? (i := 0) rfl))
  have Fw5 := f7.same W5
  obtain ⟨fs, hr, hrun, hended, hW, hsame⟩ := X5.leave (v := none) (fun _ => rfl)
  refine ⟨_, _, pre0 _ ?_, hrun, hended, _, _, rfl, ?_, ⟨_, rfl⟩, hW, hsame.mono (by decide) (by decide)⟩
  · show Sx p e below s₁ m 0 #[rv a, rv pa, rv pb] [] _
    refine XS.aloadN X0.here hx rfl (hb hby d_jdk_44_m_2_0) rfl rfl ?_
    refine st1.trans ?_
    refine XS.aloadN X1.here hx rfl (hb hby d_jdk_44_m_2_4) rfl rfl ?_
    refine XS.aloadN X1.here hx rfl (hb hby d_jdk_44_m_2_5) rfl rfl ?_
    refine st2 _ ?_
    show Sx p e below T2 m 9 #[rv a, rv pa, rv pb] [(.ref pa), (.ref a)] _
    refine st3 _ ?_
    refine XS.aloadN X3.here hx rfl (hb hby d_jdk_44_m_2_12) rfl rfl ?_
    refine XS.aloadN X3.here hx rfl (hb hby d_jdk_44_m_2_13) rfl rfl ?_
    refine st4 _ ?_
    refine st5 _ ?_
    show Sx p e below T5 m 20 #[rv a, rv pa, rv pb] [] _
    exact X5.returnOut hx Bd.returns (hb hby d_jdk_44_m_2_20) hr
  · show Q12 Z a pa pb h0 n0 _ T5.heap _
    rw [e5]
    have f8 := (Fw3.other W5 (Or.inr (slot_ne (Or.inr (w_ hw 233 rfl)) (Or.inr (w_ hw 235 rfl)) (by decide) (t := (.object "java/lang/Object")) (t' := (.object "java/lang/Object")) (by decide) (by decide))))
    exact ⟨rfl, N5, K5, f8, Fw5⟩
theorem ef_rmLN (m : MethodId) (x0 : Addr) (x1 : Addr) (x2 : Int32) : entryFrame m #[(.ref x0), (.ref x1), (.int x2)] 3 = mkF m 0 #[rv x0, rv x1, iv x2] [] := by first | (simp [entryFrame, mkF, argsToLocals, Value.category]; done) | rfl
set_option maxRecDepth 65536 in
set_option maxHeartbeats 40000000 in
theorem rmLN (l : Launch) (Z : State) (a0 : Array Value) (hw : ∀ d ∈ tables_1, d.before a0 Z = true) (ws : List Jvm.Cond) (a ar : Addr) (h0 : Heap) (n0 : Nat) (Z0 : n0 ≤ h0.size) (hE : Exa Z h0 a "java/util/ImmutableCollections$ListN") (hF0 : Fld Z h0 a "java/util/ImmutableCollections$ListN" "elements" "[Ljava/lang/Object;" .null) (hF1 : Fld Z h0 a "java/util/ImmutableCollections$ListN" "allowNulls" "Z" (.int (0 : Int32))) (hG : n0 ≤ a) :
    MetFree l (⟨"java/util/ImmutableCollections$ListN", "<init>", "([Ljava/lang/Object;Z)V"⟩ : MethodName) (head1 (Jvm.Cond.code (⟨"java/util/ImmutableCollections$ListN", "<init>", "([Ljava/lang/Object;Z)V"⟩ : MethodName) jdk_45_method_1_code 3 none :: ws) ({ frames := 4, cells := 0, slots := 0, locals := 48 } : Room)) (fun aa_ UU_ => aa_ = #[(.ref a), (.ref ar), (.int 0)] ∧ Z.Warmed39 UU_.vm ∧ UU_.heap = h0) (fun _ _ _ _ _ => True) (fun _ UU_ oo_ UE_ => ∃ vv_ LL_, oo_ = .returned vv_ ∧ QF Z a "java/util/ImmutableCollections$ListN" "elements" "[Ljava/lang/Object;" (.ref ar) h0 n0 vv_ UE_.heap LL_ ∧ FrameEnd UU_ oo_ UE_ LL_ ({ frames := 4, cells := 0, slots := 0, locals := 48 } : Room).cells ({ frames := 4, cells := 0, slots := 0, locals := 48 } : Room).slots) := by
  refine MetFree.of_bodySF (plainFor_of_name pn_9) hisR ?_
  intro p e s m args below meth c s₁ Bd hml0 hP hK
  obtain ⟨rfl, hZ, hh⟩ := hP
  have hx := Bd.exec
  have hby := Bd.bytes
  have hml : c.maxLocals = 3 := hml0
  have hown : s.vm.findClass "java/util/ImmutableCollections$ListN" = some m.cls := findClass_of_methodNamed Bd.named
  have hnm := (name_of_methodNamed Bd.named Bd.method).1
  have X0 : Stand p l e ({ frames := 4, cells := 0, slots := 0, locals := 48 } : Room) s m #[(.ref a), (.ref ar), (.int 0)] below meth c s₁ [] 0 0 := Stand.of_body Bd
  have e0 : s₁.heap = h0 := by rw [← hh, Bd.state]; rfl
  have N0 := Fr.nil n0
  have K0 : Keep h0 h0 [a] := Keep.refl h0 _
  have pre0 : ∀ tg, Steps p.tables e below (s₁.setTop (mkF m 0 #[rv a, rv ar, iv 0] [])) tg → Steps p.tables e below (s₁.setTop (entryFrame m #[(.ref a), (.ref ar), (.int 0)] 3)) tg := fun tg kq_ => castTop (ef_rmLN m a ar (0 : Int32)) kq_
  obtain ⟨_, _, ⟨T1, L1, k1, n1⟩, -, X1, ⟨Lc1, hQ1, l1, y1, z1⟩, st1⟩ := X0.specialBack hx (y := (⟨"java/util/ImmutableCollections$AbstractImmutableList", "<init>", "()V"⟩ : MethodName)) rfl hown (mvT hZ (w_ hw 189 rfl)) (mvT hZ (w_ hw 190 rfl)) (mvT hZ (w_ hw 194 rfl)) (by decide) (backOf (W := 0) (rmAIL l Z a0 hw [] a h0 n0 Z0) hZ (w_ hw 194 rfl) (w_ hw 193 rfl) (by decide) (by decide)) (g := (mkF m 1 #[rv a, rv ar, iv 0] [(.ref a)])) rfl (by rw [hml]; rfl) (Steps.refl _) (a := a) (argsL := []) (rest := []) (lenOf pd_0 rfl) rfl (by show 2 * 0 + _ ≤ _; exact Nat.le_of_eq rfl) (hb hby d_jdk_45_m_1_1) (fun _ _ => ⟨rfl, e0, (by decide : 0 + 0 ≤ _), (by decide : 0 + 0 ≤ _)⟩)
  dsimp only [Pt.U, Pt.locs, Pt.cells, Pt.slots] at X1 l1 y1 z1 st1 hQ1
  subst l1 y1 z1
  obtain ⟨hv1, N1q, r1⟩ := hQ1
  subst hv1
  have N1 := Fr.app N0 N1q
  obtain ⟨T2, h2, X2, e2, W2, st2⟩ := putF X1 hx hZ hown (host := "") (Or.inl (w_ hw 113 rfl)) Via.refl r1 hF0 hE (Or.inr ⟨(w_ hw 114 rfl), rfl, hnm⟩) (w_ hw 184 rfl) (ty := (.array (.object "java/lang/Object"))) (by decide) rfl rfl (g := (mkF m 6 #[rv a, rv ar, iv 0] [(.ref ar), (.ref a)])) rfl rfl (hb hby d_jdk_45_m_1_6)
  have Z2 : n0 ≤ h2.size := Nat.le_trans Z0 (Nat.le_of_eq W2.size.symm)
  have N2 := Fr.snoc X2 N1 hG
  have K2 : Keep h0 h2 [a] := K0.wr W2 (Or.inl (List.mem_of_getElem? (i := 0) rfl))
  have Fw2 := hF0.same W2
  have f4 := (hE.wr W2)
  have f5 := (hF1.other W2 (Or.inr (slot_ne (Or.inr (w_ hw 204 rfl)) (Or.inr (w_ hw 114 rfl)) (by decide) (t := .boolean) (t' := (.array (.object "java/lang/Object"))) (by decide) (by decide))))
  obtain ⟨T3, h3, X3, e3, W3, st3⟩ := putFN X2 hx hZ hown (w_ hw 203 rfl) Via.refl e2 f5 f4 (Or.inr ⟨(w_ hw 204 rfl), rfl, hnm⟩) (w_ hw 184 rfl) (ty := .boolean) (v' := (.int 0)) (by decide) rfl rfl (g := (mkF m 11 #[rv a, rv ar, iv 0] [(.int 0), (.ref a)])) rfl rfl (hb hby d_jdk_45_m_1_11)
  have Z3 : n0 ≤ h3.size := Nat.le_trans Z2 (Nat.le_of_eq W3.size.symm)
  have N3 := Fr.snoc X3 N2 hG
  have K3 : Keep h0 h3 [a] := K2.wr W3 (Or.inl (List.mem_of_getElem? (i := 0) rfl))
  have Fw3 := f5.same W3
  obtain ⟨fs, hr, hrun, hended, hW, hsame⟩ := X3.leave (v := none) (fun _ => rfl)
  refine ⟨_, _, pre0 _ ?_, hrun, hended, _, _, rfl, ?_, ⟨_, rfl⟩, hW, hsame.mono (by decide) (by decide)⟩
  · show Sx p e below s₁ m 0 #[rv a, rv ar, iv 0] [] _
    refine XS.aloadN X0.here hx rfl (hb hby d_jdk_45_m_1_0) rfl rfl ?_
    refine st1.trans ?_
    refine XS.aloadN X1.here hx rfl (hb hby d_jdk_45_m_1_4) rfl rfl ?_
    refine XS.aloadN X1.here hx rfl (hb hby d_jdk_45_m_1_5) rfl rfl ?_
    refine st2 _ ?_
    show Sx p e below T2 m 9 #[rv a, rv ar, iv 0] [] _
    refine XS.aloadN X2.here hx rfl (hb hby d_jdk_45_m_1_9) rfl rfl ?_
    refine XS.iloadN X2.here hx rfl (hb hby d_jdk_45_m_1_10) rfl ?_
    refine st3 _ ?_
    show Sx p e below T3 m 14 #[rv a, rv ar, iv 0] [] _
    exact X3.returnOut hx Bd.returns (hb hby d_jdk_45_m_1_14) hr
  · show QF Z a "java/util/ImmutableCollections$ListN" "elements" "[Ljava/lang/Object;" (.ref ar) h0 n0 _ T3.heap _
    rw [e3]
    have f6 := (Fw2.other W3 (Or.inr (slot_ne (Or.inr (w_ hw 114 rfl)) (Or.inr (w_ hw 204 rfl)) (by decide) (t := (.array (.object "java/lang/Object"))) (t' := .boolean) (by decide) (by decide))))
    exact ⟨rfl, N3, K3, f6⟩
theorem ef_rmF3 (m : MethodId) (x0 : Addr) : entryFrame m #[(.ref x0)] 3 = mkF m 0 #[rv x0, u_, u_] [] := by first | (simp [entryFrame, mkF, argsToLocals, Value.category]; done) | rfl
set_option maxRecDepth 65536 in
set_option maxHeartbeats 40000000 in
theorem rmF3 (l : Launch) (Z : State) (a0 : Array Value) (hw : ∀ d ∈ tables_1, d.before a0 Z = true) (ws : List Jvm.Cond) (b0 pa0 pa1 pa2 : Addr) (kb : ClassId) (h0 : Heap) (n0 : Nat) (Z0 : n0 ≤ h0.size) (hV : Arv Z h0 b0 kb (.object "java/lang/Object") (3 : Int32) [.ref pa0, .ref pa1, .ref pa2, .null, .null, .null, .null, .null, .null, .null] .null) (hx0 : Exa Z h0 pa0 "com/example/clausemap/clausemap/outline/Part") (hx1 : Exa Z h0 pa1 "com/example/clausemap/clausemap/outline/Part") (hx2 : Exa Z h0 pa2 "com/example/clausemap/clausemap/outline/Part") :
    MetFree l (⟨"java/util/ImmutableCollections", "listFromArray", "([Ljava/lang/Object;)Ljava/util/List;"⟩ : MethodName) (head1 (Jvm.Cond.code (⟨"java/util/ImmutableCollections", "listFromArray", "([Ljava/lang/Object;)Ljava/util/List;"⟩ : MethodName) jdk_56_method_4_code 3 (some (.object "java/util/List")) :: ws) ({ frames := 5, cells := 2, slots := 5, locals := 63 } : Room)) (fun aa_ UU_ => aa_ = #[(.ref b0)] ∧ Z.Warmed39 UU_.vm ∧ UU_.heap = h0) (fun _ _ _ _ _ => True) (fun _ UU_ oo_ UE_ => ∃ vv_ LL_, oo_ = .returned vv_ ∧ QLN Z 3 [.ref pa0, .ref pa1, .ref pa2] h0 n0 vv_ UE_.heap LL_ ∧ FrameEnd UU_ oo_ UE_ LL_ ({ frames := 5, cells := 2, slots := 5, locals := 63 } : Room).cells ({ frames := 5, cells := 2, slots := 5, locals := 63 } : Room).slots) := by
  refine MetFree.of_bodySF (plainFor_of_name pn_10) hisR ?_
  intro p e s m args below meth c s₁ Bd hml0 hP hK
  obtain ⟨rfl, hZ, hh⟩ := hP
  have hx := Bd.exec
  have hby := Bd.bytes
  have hml : c.maxLocals = 3 := hml0
  have hown : s.vm.findClass "java/util/ImmutableCollections" = some m.cls := findClass_of_methodNamed Bd.named
  have hnm := (name_of_methodNamed Bd.named Bd.method).1
  have X0 : Stand p l e ({ frames := 5, cells := 2, slots := 5, locals := 63 } : Room) s m #[(.ref b0)] below meth c s₁ [] 0 0 := Stand.of_body Bd
  have e0 : s₁.heap = h0 := by rw [← hh, Bd.state]; rfl
  have N0 := Fr.nil n0
  have K0 : Keep h0 h0 [] := Keep.refl h0 _
  have pre0 : ∀ tg, Steps p.tables e below (s₁.setTop (mkF m 0 #[rv b0, u_, u_] [])) tg → Steps p.tables e below (s₁.setTop (entryFrame m #[(.ref b0)] 3)) tg := fun tg kq_ => castTop (ef_rmF3 m b0) kq_
  obtain ⟨cl1, Ar1, q1, Sz1, Nn1, Ha1, Ga1⟩ := id hV
  obtain ⟨T2, h2, k2, X2, e2, E2, A2, EX2, O2, st2⟩ := newRE X0 hx hZ hown (w_ hw 179 rfl) (w_ hw 141 rfl) e0 (g := (mkF m 2 #[rv b0, u_, u_] [(.int 3)])) rfl (hb hby d_jdk_56_m_4_2) rfl (by decide) (cap := 3) (by decide) (by decide) (by decide) (by decide) (ad := "[Ljava/lang/Object;") (by decide)
  obtain ⟨b2, g2⟩ : ∃ z, z = h0.size := ⟨_, rfl⟩
  rw [← g2] at A2 EX2 st2
  have ne_b0_b2 : b0 ≠ b2 := Nat.ne_of_lt (Nat.lt_of_lt_of_le (hV).lt (Nat.le_of_eq g2.symm))
  have gb_b2 : n0 ≤ b2 := Nat.le_trans Z0 (Nat.le_of_eq g2.symm)
  have sz_b2 : h0.size ≤ b2 := Nat.le_trans K0.1 (Nat.le_of_eq g2.symm)
  have Z2 : n0 ≤ h2.size := Nat.le_trans Z0 E2.1
  have K2 : Keep h0 h2 [] := K0.ext E2
  have V2 : Arv Z h2 b2 k2 (.object "java/lang/Object") (3 : Int32) [.null, .null, .null] .null := (Arv.new A2 (by decide)).pad (pad_rep [] .null 3)
  have f4 := (hV.ext E2)
  obtain ⟨cl3, Ar3, q3, Sz3, Nn3, Ha3, Ga3⟩ := id f4
  obtain ⟨cl5, Ar5, q5, Sz5, Nn5, Ha5, Ga5⟩ := id f4
  have hin5 : ¬ ((0 : Int32) < 0 ∨ cl5.slots.size ≤ ((0 : Int32)).toNatClampNeg) := inb_of Sz5 ⟨by decide, by decide⟩
  have hat5 : cl5.slots[((0 : Int32)).toNatClampNeg]? = some (.ref pa0) := Ha5.at hin5 rfl
  obtain ⟨_, _, ⟨T6, L6, k6, n6⟩, -, X6, ⟨Lc6, hQ6, l6, y6, z6⟩, st6⟩ := Jvm.LawKit.callS X2 hx (y := (⟨"java/util/Objects", "requireNonNull", "(Ljava/lang/Object;)Ljava/lang/Object;"⟩ : MethodName)) hown (mvT hZ (w_ hw 180 rfl)) (mvT hZ (w_ hw 181 rfl)) (mvT hZ (w_ hw 182 rfl)) (mvT hZ (w_ hw 183 rfl)) (by decide) (backOf (W := 2) (rmRN l Z a0 hw [] pa0 h2 n0 Z2) hZ (w_ hw 183 rfl) (w_ hw 182 rfl) (by decide) (by decide)) (g := (mkF m 19 #[rv b0, rv b2, iv 0] [(.ref pa0), (.int 0), (.ref b2)])) rfl (by rw [hml]; rfl) (argsL := [(.ref pa0)]) (rest := [(.int 0), (.ref b2)]) (lenOf pd_5 rfl) rfl (by show 2 * 0 + _ ≤ _; exact Nat.le_of_eq rfl) (hb hby d_jdk_56_m_4_19) (fun _ _ => ⟨rfl, e2, (by decide : 1 + 0 ≤ _), (by decide : 3 + 0 ≤ _)⟩)
  dsimp only [Pt.U, Pt.locs, Pt.cells, Pt.slots] at X6 l6 y6 z6 st6 hQ6
  subst l6 y6 z6
  obtain ⟨hv6, N6q, r6⟩ := hQ6
  subst hv6
  have N6 := Fr.app N0 N6q
  obtain ⟨cl7, Ar7, q7, Sz7, Nn7, Ha7, Ga7⟩ := id V2
  have hin7 : ¬ ((0 : Int32) < 0 ∨ cl7.slots.size ≤ ((0 : Int32)).toNatClampNeg) := inb_of Sz7 ⟨by decide, by decide⟩
  have f8 := (hx0.ext E2)
  obtain ⟨T7, h7, X7, e7, W7, st7⟩ := stR X6 hx hZ r6 Ar7 (j := (0 : Int32)) hin7 rfl (Sto.ofV Ar7 q7 O2 (Ins.of_exa f8 (w_ hw 142 rfl))) (g := (mkF m 22 #[rv b0, rv b2, iv 0] [(.ref pa0), (.int 0), (.ref b2)])) rfl rfl (hb hby d_jdk_56_m_4_22)
  have V7 : Arv Z h7 b2 k2 (.object "java/lang/Object") (3 : Int32) [(.ref pa0), .null, .null] .null := Arv.set Ar7 q7 Sz7 Nn7 Ha7 Ga7 rfl W7 0 rfl (Nat.le_of_ble_eq_true rfl)
  have Z7 : n0 ≤ h7.size := Nat.le_trans Z2 (Nat.le_of_eq W7.size.symm)
  have N7 := Fr.snoc X7 N6 gb_b2
  have K7 : Keep h0 h7 [] := K2.wr W7 (Or.inr sz_b2)
  have R9 : ∀ tg, Sx p e below T7 m 26 #[rv b0, rv b2, iv ((0 : Int32) + (1 : Int32))] [] tg → Sx p e below s₁ m 0 #[rv b0, u_, u_] [] tg := by
    intro tg kt
    refine XS.aloadN X0.here hx rfl (hb hby d_jdk_56_m_4_0) rfl rfl ?_
    refine X0.arraylength hx (by rw [e0]; exact Ar1.1) (State.isArrayOf_alike hZ.alike Ar1.2.1) (g := (mkF m 1 #[rv b0, u_, u_] [(.ref b0)])) rfl rfl (hb hby d_jdk_56_m_4_1) _ ?_
    rw [len_of Sz1 Nn1]
    refine st2 _ ?_
    refine XS.astoreN X2.here hx rfl (hb hby d_jdk_56_m_4_5) rfl rfl (l' := #[rv b0, rv b2, u_]) rfl ?_
    refine XS.iconst X2.here hx rfl (hb hby d_jdk_56_m_4_6) ?_
    show Sx p e below T2 m 7 #[rv b0, rv b2, u_] [(.int 0)] _
    refine XS.istoreN X2.here hx rfl (hb hby d_jdk_56_m_4_7) rfl (l' := #[rv b0, rv b2, iv 0]) rfl ?_
    refine XS.iloadN X2.here hx rfl (hb hby d_jdk_56_m_4_8) rfl ?_
    refine XS.aloadN X2.here hx rfl (hb hby d_jdk_56_m_4_9) rfl rfl ?_
    refine X2.arraylength hx (by rw [e2]; exact Ar3.1) (State.isArrayOf_alike hZ.alike Ar3.2.1) (g := (mkF m 10 #[rv b0, rv b2, iv 0] [(.ref b0), (.int 0)])) rfl rfl (hb hby d_jdk_56_m_4_10) _ ?_
    rw [len_of Sz3 Nn3]
    refine XS.icmpNo X2.here hx rfl (hb hby d_jdk_56_m_4_11) rfl (tlt (by decide : (0 : Int32) < (3 : Int32))).2.1 ?_
    show Sx p e below T2 m 14 #[rv b0, rv b2, iv 0] [] _
    refine XS.aloadN X2.here hx rfl (hb hby d_jdk_56_m_4_14) rfl rfl ?_
    refine XS.iloadN X2.here hx rfl (hb hby d_jdk_56_m_4_15) rfl ?_
    refine XS.aloadN X2.here hx rfl (hb hby d_jdk_56_m_4_16) rfl rfl ?_
    refine XS.iloadN X2.here hx rfl (hb hby d_jdk_56_m_4_17) rfl ?_
    refine X2.aaload hx (j := (0 : Int32)) (v := (.ref pa0)) (by rw [e2]; exact Ar5.1) (State.isArrayOf_alike hZ.alike Ar5.2.1) rfl Ar5.2.2 hin5 hat5 (g := (mkF m 18 #[rv b0, rv b2, iv 0] [(.int 0), (.ref b0), (.int 0), (.ref b2)])) rfl rfl (hb hby d_jdk_56_m_4_18) _ ?_
    show Sx p e below T2 m 19 #[rv b0, rv b2, iv 0] [(.ref pa0), (.int 0), (.ref b2)] _
    refine st6 _ ?_
    refine st7 _ ?_
    refine XS.iinc X7.here hx rfl (hb hby d_jdk_56_m_4_23) rfl (l' := #[rv b0, rv b2, iv ((0 : Int32) + (1 : Int32))]) rfl ?_
    show Sx p e below T7 m 26 #[rv b0, rv b2, iv ((0 : Int32) + (1 : Int32))] [] _
    exact kt
  have R10 : ∀ tg, Sx p e below T7 m 26 #[rv b0, rv b2, iv 1] [] tg → Sx p e below T7 m 26 #[rv b0, rv b2, iv ((0 : Int32) + (1 : Int32))] [] tg := fun tg kt => by rw [(by decide : ((0 : Int32) + (1 : Int32)) = (1 : Int32))]; exact kt
  have f12 := (f4.other W7 ne_b0_b2)
  obtain ⟨cl11, Ar11, q11, Sz11, Nn11, Ha11, Ga11⟩ := id f12
  obtain ⟨cl13, Ar13, q13, Sz13, Nn13, Ha13, Ga13⟩ := id f12
  have hin13 : ¬ ((1 : Int32) < 0 ∨ cl13.slots.size ≤ ((1 : Int32)).toNatClampNeg) := inb_of Sz13 ⟨by decide, by decide⟩
  have hat13 : cl13.slots[((1 : Int32)).toNatClampNeg]? = some (.ref pa1) := Ha13.at hin13 rfl
  obtain ⟨_, _, ⟨T14, L14, k14, n14⟩, -, X14, ⟨Lc14, hQ14, l14, y14, z14⟩, st14⟩ := Jvm.LawKit.callS X7 hx (y := (⟨"java/util/Objects", "requireNonNull", "(Ljava/lang/Object;)Ljava/lang/Object;"⟩ : MethodName)) hown (mvT hZ (w_ hw 180 rfl)) (mvT hZ (w_ hw 181 rfl)) (mvT hZ (w_ hw 182 rfl)) (mvT hZ (w_ hw 183 rfl)) (by decide) (backOf (W := 2) (rmRN l Z a0 hw [] pa1 h7 n0 Z7) hZ (w_ hw 183 rfl) (w_ hw 182 rfl) (by decide) (by decide)) (g := (mkF m 19 #[rv b0, rv b2, iv 1] [(.ref pa1), (.int 1), (.ref b2)])) rfl (by rw [hml]; rfl) (argsL := [(.ref pa1)]) (rest := [(.int 1), (.ref b2)]) (lenOf pd_5 rfl) rfl (by show 2 * 0 + _ ≤ _; exact Nat.le_of_eq rfl) (hb hby d_jdk_56_m_4_19) (fun _ _ => ⟨rfl, e7, (by decide : 1 + 0 ≤ _), (by decide : 3 + 0 ≤ _)⟩)
  dsimp only [Pt.U, Pt.locs, Pt.cells, Pt.slots] at X14 l14 y14 z14 st14 hQ14
  subst l14 y14 z14
  obtain ⟨hv14, N14q, r14⟩ := hQ14
  subst hv14
  have N14 := Fr.app N7 N14q
  obtain ⟨cl15, Ar15, q15, Sz15, Nn15, Ha15, Ga15⟩ := id V7
  have hin15 : ¬ ((1 : Int32) < 0 ∨ cl15.slots.size ≤ ((1 : Int32)).toNatClampNeg) := inb_of Sz15 ⟨by decide, by decide⟩
  have f16 := ((hx1.ext E2).wr W7)
  obtain ⟨T15, h15, X15, e15, W15, st15⟩ := stR X14 hx hZ r14 Ar15 (j := (1 : Int32)) hin15 rfl (Sto.ofV Ar15 q15 O2 (Ins.of_exa f16 (w_ hw 142 rfl))) (g := (mkF m 22 #[rv b0, rv b2, iv 1] [(.ref pa1), (.int 1), (.ref b2)])) rfl rfl (hb hby d_jdk_56_m_4_22)
  have V15 : Arv Z h15 b2 k2 (.object "java/lang/Object") (3 : Int32) [(.ref pa0), (.ref pa1), .null] .null := Arv.set Ar15 q15 Sz15 Nn15 Ha15 Ga15 rfl W15 1 rfl (Nat.le_of_ble_eq_true rfl)
  have Z15 : n0 ≤ h15.size := Nat.le_trans Z7 (Nat.le_of_eq W15.size.symm)
  have N15 := Fr.snoc X15 N14 gb_b2
  have K15 : Keep h0 h15 [] := K7.wr W15 (Or.inr sz_b2)
  have R17 : ∀ tg, Sx p e below T15 m 26 #[rv b0, rv b2, iv ((1 : Int32) + (1 : Int32))] [] tg → Sx p e below T7 m 26 #[rv b0, rv b2, iv 1] [] tg := by
    intro tg kt
    refine XS.goto X7.here hx rfl (pc0 := 26) (pc' := 8) rfl (hb hby d_jdk_56_m_4_26) (by decide) (by decide) ?_
    refine XS.iloadN X7.here hx rfl (hb hby d_jdk_56_m_4_8) rfl ?_
    refine XS.aloadN X7.here hx rfl (hb hby d_jdk_56_m_4_9) rfl rfl ?_
    refine X7.arraylength hx (by rw [e7]; exact Ar11.1) (State.isArrayOf_alike hZ.alike Ar11.2.1) (g := (mkF m 10 #[rv b0, rv b2, iv 1] [(.ref b0), (.int 1)])) rfl rfl (hb hby d_jdk_56_m_4_10) _ ?_
    rw [len_of Sz11 Nn11]
    refine XS.icmpNo X7.here hx rfl (hb hby d_jdk_56_m_4_11) rfl (tlt (by decide : (1 : Int32) < (3 : Int32))).2.1 ?_
    show Sx p e below T7 m 14 #[rv b0, rv b2, iv 1] [] _
    refine XS.aloadN X7.here hx rfl (hb hby d_jdk_56_m_4_14) rfl rfl ?_
    refine XS.iloadN X7.here hx rfl (hb hby d_jdk_56_m_4_15) rfl ?_
    refine XS.aloadN X7.here hx rfl (hb hby d_jdk_56_m_4_16) rfl rfl ?_
    refine XS.iloadN X7.here hx rfl (hb hby d_jdk_56_m_4_17) rfl ?_
    refine X7.aaload hx (j := (1 : Int32)) (v := (.ref pa1)) (by rw [e7]; exact Ar13.1) (State.isArrayOf_alike hZ.alike Ar13.2.1) rfl Ar13.2.2 hin13 hat13 (g := (mkF m 18 #[rv b0, rv b2, iv 1] [(.int 1), (.ref b0), (.int 1), (.ref b2)])) rfl rfl (hb hby d_jdk_56_m_4_18) _ ?_
    show Sx p e below T7 m 19 #[rv b0, rv b2, iv 1] [(.ref pa1), (.int 1), (.ref b2)] _
    refine st14 _ ?_
    refine st15 _ ?_
    refine XS.iinc X15.here hx rfl (hb hby d_jdk_56_m_4_23) rfl (l' := #[rv b0, rv b2, iv ((1 : Int32) + (1 : Int32))]) rfl ?_
    show Sx p e below T15 m 26 #[rv b0, rv b2, iv ((1 : Int32) + (1 : Int32))] [] _
    exact kt
  have R18 : ∀ tg, Sx p e below T15 m 26 #[rv b0, rv b2, iv 2] [] tg → Sx p e below T15 m 26 #[rv b0, rv b2, iv ((1 : Int32) + (1 : Int32))] [] tg := fun tg kt => by rw [(by decide : ((1 : Int32) + (1 : Int32)) = (2 : Int32))]; exact kt
  have f20 := (f12.other W15 ne_b0_b2)
  obtain ⟨cl19, Ar19, q19, Sz19, Nn19, Ha19, Ga19⟩ := id f20
  obtain ⟨cl21, Ar21, q21, Sz21, Nn21, Ha21, Ga21⟩ := id f20
  have hin21 : ¬ ((2 : Int32) < 0 ∨ cl21.slots.size ≤ ((2 : Int32)).toNatClampNeg) := inb_of Sz21 ⟨by decide, by decide⟩
  have hat21 : cl21.slots[((2 : Int32)).toNatClampNeg]? = some (.ref pa2) := Ha21.at hin21 rfl
  obtain ⟨_, _, ⟨T22, L22, k22, n22⟩, -, X22, ⟨Lc22, hQ22, l22, y22, z22⟩, st22⟩ := Jvm.LawKit.callS X15 hx (y := (⟨"java/util/Objects", "requireNonNull", "(Ljava/lang/Object;)Ljava/lang/Object;"⟩ : MethodName)) hown (mvT hZ (w_ hw 180 rfl)) (mvT hZ (w_ hw 181 rfl)) (mvT hZ (w_ hw 182 rfl)) (mvT hZ (w_ hw 183 rfl)) (by decide) (backOf (W := 2) (rmRN l Z a0 hw [] pa2 h15 n0 Z15) hZ (w_ hw 183 rfl) (w_ hw 182 rfl) (by decide) (by decide)) (g := (mkF m 19 #[rv b0, rv b2, iv 2] [(.ref pa2), (.int 2), (.ref b2)])) rfl (by rw [hml]; rfl) (argsL := [(.ref pa2)]) (rest := [(.int 2), (.ref b2)]) (lenOf pd_5 rfl) rfl (by show 2 * 0 + _ ≤ _; exact Nat.le_of_eq rfl) (hb hby d_jdk_56_m_4_19) (fun _ _ => ⟨rfl, e15, (by decide : 1 + 0 ≤ _), (by decide : 3 + 0 ≤ _)⟩)
  dsimp only [Pt.U, Pt.locs, Pt.cells, Pt.slots] at X22 l22 y22 z22 st22 hQ22
  subst l22 y22 z22
  obtain ⟨hv22, N22q, r22⟩ := hQ22
  subst hv22
  have N22 := Fr.app N15 N22q
  obtain ⟨cl23, Ar23, q23, Sz23, Nn23, Ha23, Ga23⟩ := id V15
  have hin23 : ¬ ((2 : Int32) < 0 ∨ cl23.slots.size ≤ ((2 : Int32)).toNatClampNeg) := inb_of Sz23 ⟨by decide, by decide⟩
  have f24 := (((hx2.ext E2).wr W7).wr W15)
  obtain ⟨T23, h23, X23, e23, W23, st23⟩ := stR X22 hx hZ r22 Ar23 (j := (2 : Int32)) hin23 rfl (Sto.ofV Ar23 q23 O2 (Ins.of_exa f24 (w_ hw 142 rfl))) (g := (mkF m 22 #[rv b0, rv b2, iv 2] [(.ref pa2), (.int 2), (.ref b2)])) rfl rfl (hb hby d_jdk_56_m_4_22)
  have V23 : Arv Z h23 b2 k2 (.object "java/lang/Object") (3 : Int32) [(.ref pa0), (.ref pa1), (.ref pa2)] .null := Arv.set Ar23 q23 Sz23 Nn23 Ha23 Ga23 rfl W23 2 rfl (Nat.le_of_ble_eq_true rfl)
  have Z23 : n0 ≤ h23.size := Nat.le_trans Z15 (Nat.le_of_eq W23.size.symm)
  have N23 := Fr.snoc X23 N22 gb_b2
  have K23 : Keep h0 h23 [] := K15.wr W23 (Or.inr sz_b2)
  have R25 : ∀ tg, Sx p e below T23 m 26 #[rv b0, rv b2, iv ((2 : Int32) + (1 : Int32))] [] tg → Sx p e below T15 m 26 #[rv b0, rv b2, iv 2] [] tg := by
    intro tg kt
    refine XS.goto X15.here hx rfl (pc0 := 26) (pc' := 8) rfl (hb hby d_jdk_56_m_4_26) (by decide) (by decide) ?_
    refine XS.iloadN X15.here hx rfl (hb hby d_jdk_56_m_4_8) rfl ?_
    refine XS.aloadN X15.here hx rfl (hb hby d_jdk_56_m_4_9) rfl rfl ?_
    refine X15.arraylength hx (by rw [e15]; exact Ar19.1) (State.isArrayOf_alike hZ.alike Ar19.2.1) (g := (mkF m 10 #[rv b0, rv b2, iv 2] [(.ref b0), (.int 2)])) rfl rfl (hb hby d_jdk_56_m_4_10) _ ?_
    rw [len_of Sz19 Nn19]
    refine XS.icmpNo X15.here hx rfl (hb hby d_jdk_56_m_4_11) rfl (tlt (by decide : (2 : Int32) < (3 : Int32))).2.1 ?_
    show Sx p e below T15 m 14 #[rv b0, rv b2, iv 2] [] _
    refine XS.aloadN X15.here hx rfl (hb hby d_jdk_56_m_4_14) rfl rfl ?_
    refine XS.iloadN X15.here hx rfl (hb hby d_jdk_56_m_4_15) rfl ?_
    refine XS.aloadN X15.here hx rfl (hb hby d_jdk_56_m_4_16) rfl rfl ?_
    refine XS.iloadN X15.here hx rfl (hb hby d_jdk_56_m_4_17) rfl ?_
    refine X15.aaload hx (j := (2 : Int32)) (v := (.ref pa2)) (by rw [e15]; exact Ar21.1) (State.isArrayOf_alike hZ.alike Ar21.2.1) rfl Ar21.2.2 hin21 hat21 (g := (mkF m 18 #[rv b0, rv b2, iv 2] [(.int 2), (.ref b0), (.int 2), (.ref b2)])) rfl rfl (hb hby d_jdk_56_m_4_18) _ ?_
    show Sx p e below T15 m 19 #[rv b0, rv b2, iv 2] [(.ref pa2), (.int 2), (.ref b2)] _
    refine st22 _ ?_
    refine st23 _ ?_
    refine XS.iinc X23.here hx rfl (hb hby d_jdk_56_m_4_23) rfl (l' := #[rv b0, rv b2, iv ((2 : Int32) + (1 : Int32))]) rfl ?_
    show Sx p e below T23 m 26 #[rv b0, rv b2, iv ((2 : Int32) + (1 : Int32))] [] _
    exact kt
  have R26 : ∀ tg, Sx p e below T23 m 26 #[rv b0, rv b2, iv 3] [] tg → Sx p e below T23 m 26 #[rv b0, rv b2, iv ((2 : Int32) + (1 : Int32))] [] tg := fun tg kt => by rw [(by decide : ((2 : Int32) + (1 : Int32)) = (3 : Int32))]; exact kt
  have f28 := (f20.other W23 ne_b0_b2)
  obtain ⟨cl27, Ar27, q27, Sz27, Nn27, Ha27, Ga27⟩ := id f28
  obtain ⟨T29, h29, X29, e29, E29, A29, D29, -, st29⟩ := newO X23 hx hZ hown (w_ hw 72 rfl) (w_ hw 184 rfl) (w_ hw 111 rfl) e23 (g := (mkF m 29 #[rv b0, rv b2, iv 3] [])) rfl (hb hby d_jdk_56_m_4_29) (by decide) (by decide)
  obtain ⟨b29, g29⟩ : ∃ z, z = h23.size := ⟨_, rfl⟩
  rw [← g29] at A29 D29 st29
  have ne_b0_b29 : b0 ≠ b29 := Nat.ne_of_lt (Nat.lt_of_lt_of_le (f28).lt (Nat.le_of_eq g29.symm))
  have ne_b2_b29 : b2 ≠ b29 := Nat.ne_of_lt (Nat.lt_of_lt_of_le (V23).lt (Nat.le_of_eq g29.symm))
  have gb_b29 : n0 ≤ b29 := Nat.le_trans Z23 (Nat.le_of_eq g29.symm)
  have sz_b29 : h0.size ≤ b29 := Nat.le_trans K23.1 (Nat.le_of_eq g29.symm)
  have Z29 : n0 ≤ h29.size := Nat.le_trans Z23 E29.1
  have K29 : Keep h0 h29 [] := K23.ext E29
  have F29_elements : Fld Z h29 b29 "java/util/ImmutableCollections$ListN" "elements" "[Ljava/lang/Object;" .null := D29 (Or.inr (w_ hw 114 rfl)) (ty := (.array (.object "java/lang/Object"))) (by decide)
  have F29_allowNulls : Fld Z h29 b29 "java/util/ImmutableCollections$ListN" "allowNulls" "Z" (.int 0) := D29 (Or.inr (w_ hw 204 rfl)) (ty := .boolean) (by decide)
  obtain ⟨_, _, ⟨T30, L30, k30, n30⟩, -, X30, ⟨Lc30, hQ30, l30, y30, z30⟩, st30⟩ := X29.specialBackNest hx (y := (⟨"java/util/ImmutableCollections$ListN", "<init>", "([Ljava/lang/Object;Z)V"⟩ : MethodName)) rfl hown (Cond.methodLinkNest_wide hZ (w_ hw 185 rfl) :) (mvT hZ (w_ hw 186 rfl)) (mvT hZ (w_ hw 188 rfl)) (by decide) (backOf (W := 1) (rmLN l Z a0 hw [] b29 b2 h29 n0 Z29 A29 F29_elements F29_allowNulls gb_b29) hZ (w_ hw 188 rfl) (w_ hw 111 rfl) (by decide) (by decide)) (g := (mkF m 35 #[rv b0, rv b2, iv 3] [(.int 0), (.ref b2), (.ref b29), (.ref b29)])) rfl (by rw [hml]; rfl) (Steps.refl _) (a := b29) (argsL := [(.ref b2), (.int 0)]) (rest := [(.ref b29)]) (lenOf pd_6 rfl) rfl (by show 2 * 0 + _ ≤ _; exact Nat.le_of_eq rfl) (hb hby d_jdk_56_m_4_35) (fun _ _ => ⟨rfl, e29, (by decide : 2 + 0 ≤ _), (by decide : 5 + 0 ≤ _)⟩)
  dsimp only [Pt.U, Pt.locs, Pt.cells, Pt.slots] at X30 l30 y30 z30 st30 hQ30
  subst l30 y30 z30
  obtain ⟨hv30, N30q, kp30, fl30⟩ := hQ30
  subst hv30
  have N30 := Fr.app N23 N30q
  have Z30 : n0 ≤ T30.heap.size := Nat.le_trans Z29 kp30.1
  have K30 : Keep h0 T30.heap [] := K29.trans kp30 (allS (Or.inr sz_b29) all0)
  obtain ⟨fs, hr, hrun, hended, hW, hsame⟩ := X30.leave (v := some (.ref b29)) (fun h => by rw [Bd.returns] at h; cases h)
  refine ⟨_, _, pre0 _ (R9 _ (R10 _ (R17 _ (R18 _ (R25 _ (R26 _ ?_)))))), hrun, hended, _, _, rfl, ?_, ⟨_, rfl⟩, hW, hsame.mono (by decide) (by decide)⟩
  · show Sx p e below T23 m 26 #[rv b0, rv b2, iv 3] [] _
    refine XS.goto X23.here hx rfl (pc0 := 26) (pc' := 8) rfl (hb hby d_jdk_56_m_4_26) (by decide) (by decide) ?_
    refine XS.iloadN X23.here hx rfl (hb hby d_jdk_56_m_4_8) rfl ?_
    refine XS.aloadN X23.here hx rfl (hb hby d_jdk_56_m_4_9) rfl rfl ?_
    refine X23.arraylength hx (by rw [e23]; exact Ar27.1) (State.isArrayOf_alike hZ.alike Ar27.2.1) (g := (mkF m 10 #[rv b0, rv b2, iv 3] [(.ref b0), (.int 3)])) rfl rfl (hb hby d_jdk_56_m_4_10) _ ?_
    rw [len_of Sz27 Nn27]
    refine XS.icmpYes X23.here hx rfl (pc0 := 11) (pc' := 29) rfl (hb hby d_jdk_56_m_4_11) rfl (flt (by decide : ¬ ((3 : Int32) < (3 : Int32)))).2.1 (by decide) (by decide) ?_
    show Sx p e below T23 m 29 #[rv b0, rv b2, iv 3] [] _
    refine st29 _ ?_
    refine XS.dup X29.here hx rfl (hb hby d_jdk_56_m_4_32) rfl rfl ?_
    refine XS.aloadN X29.here hx rfl (hb hby d_jdk_56_m_4_33) rfl rfl ?_
    refine XS.iconst X29.here hx rfl (hb hby d_jdk_56_m_4_34) ?_
    refine st30.trans ?_
    show Sx p e below T30 m 38 #[rv b0, rv b2, iv 3] [(.ref b29)] _
    jvm_step X30.here [X30.here.top, hx, (hb hby d_jdk_56_m_4_38), X30.method', Bd.returns, Value.isRef, FieldType.isReference]
    first | (intro acts; rw [hr _ acts rfl rfl rfl]) | rw [hr _ _ rfl rfl rfl]
    exact Steps.refl _
  · show QLN Z 3 [.ref pa0, .ref pa1, .ref pa2] h0 n0 _ T30.heap _
    have f31 := (A29.keep kp30)
    have f32 := ((V23.ext E29).keep kp30 (ninS ne_b2_b29 nin0))
    exact ⟨b29, rfl, N30, K30, b2, _, f31, fl30, f32⟩
theorem ef_rmF4 (m : MethodId) (x0 : Addr) : entryFrame m #[(.ref x0)] 3 = mkF m 0 #[rv x0, u_, u_] [] := by first | (simp [entryFrame, mkF, argsToLocals, Value.category]; done) | rfl
set_option maxRecDepth 65536 in
set_option maxHeartbeats 40000000 in
theorem rmF4 (l : Launch) (Z : State) (a0 : Array Value) (hw : ∀ d ∈ tables_1, d.before a0 Z = true) (ws : List Jvm.Cond) (b0 pa0 pa1 pa2 pa3 : Addr) (kb : ClassId) (h0 : Heap) (n0 : Nat) (Z0 : n0 ≤ h0.size) (hV : Arv Z h0 b0 kb (.object "java/lang/Object") (4 : Int32) [.ref pa0, .ref pa1, .ref pa2, .ref pa3, .null, .null, .null, .null, .null, .null] .null) (hx0 : Exa Z h0 pa0 "com/example/clausemap/clausemap/outline/Part") (hx1 : Exa Z h0 pa1 "com/example/clausemap/clausemap/outline/Part") (hx2 : Exa Z h0 pa2 "com/example/clausemap/clausemap/outline/Part") (hx3 : Exa Z h0 pa3 "com/example/clausemap/clausemap/outline/Part") :
    MetFree l (⟨"java/util/ImmutableCollections", "listFromArray", "([Ljava/lang/Object;)Ljava/util/List;"⟩ : MethodName) (head1 (Jvm.Cond.code (⟨"java/util/ImmutableCollections", "listFromArray", "([Ljava/lang/Object;)Ljava/util/List;"⟩ : MethodName) jdk_56_method_4_code 3 (some (.object "java/util/List")) :: ws) ({ frames := 5, cells := 2, slots := 6, locals := 63 } : Room)) (fun aa_ UU_ => aa_ = #[(.ref b0)] ∧ Z.Warmed39 UU_.vm ∧ UU_.heap = h0) (fun _ _ _ _ _ => True) (fun _ UU_ oo_ UE_ => ∃ vv_ LL_, oo_ = .returned vv_ ∧ QLN Z 4 [.ref pa0, .ref pa1, .ref pa2, .ref pa3] h0 n0 vv_ UE_.heap LL_ ∧ FrameEnd UU_ oo_ UE_ LL_ ({ frames := 5, cells := 2, slots := 6, locals := 63 } : Room).cells ({ frames := 5, cells := 2, slots := 6, locals := 63 } : Room).slots) := by
  refine MetFree.of_bodySF (plainFor_of_name pn_10) hisR ?_
  intro p e s m args below meth c s₁ Bd hml0 hP hK
  obtain ⟨rfl, hZ, hh⟩ := hP
  have hx := Bd.exec
  have hby := Bd.bytes
  have hml : c.maxLocals = 3 := hml0
  have hown : s.vm.findClass "java/util/ImmutableCollections" = some m.cls := findClass_of_methodNamed Bd.named
  have hnm := (name_of_methodNamed Bd.named Bd.method).1
  have X0 : Stand p l e ({ frames := 5, cells := 2, slots := 6, locals := 63 } : Room) s m #[(.ref b0)] below meth c s₁ [] 0 0 := Stand.of_body Bd
  have e0 : s₁.heap = h0 := by rw [← hh, Bd.state]; rfl
  have N0 := Fr.nil n0
  have K0 : Keep h0 h0 [] := Keep.refl h0 _
  have pre0 : ∀ tg, Steps p.tables e below (s₁.setTop (mkF m 0 #[rv b0, u_, u_] [])) tg → Steps p.tables e below (s₁.setTop (entryFrame m #[(.ref b0)] 3)) tg := fun tg kq_ => castTop (ef_rmF4 m b0) kq_
  obtain ⟨cl1, Ar1, q1, Sz1, Nn1, Ha1, Ga1⟩ := id hV
  obtain ⟨T2, h2, k2, X2, e2, E2, A2, EX2, O2, st2⟩ := newRE X0 hx hZ hown (w_ hw 179 rfl) (w_ hw 141 rfl) e0 (g := (mkF m 2 #[rv b0, u_, u_] [(.int 4)])) rfl (hb hby d_jdk_56_m_4_2) rfl (by decide) (cap := 4) (by decide) (by decide) (by decide) (by decide) (ad := "[Ljava/lang/Object;") (by decide)
  obtain ⟨b2, g2⟩ : ∃ z, z = h0.size := ⟨_, rfl⟩
  rw [← g2] at A2 EX2 st2
  have ne_b0_b2 : b0 ≠ b2 := Nat.ne_of_lt (Nat.lt_of_lt_of_le (hV).lt (Nat.le_of_eq g2.symm))
  have gb_b2 : n0 ≤ b2 := Nat.le_trans Z0 (Nat.le_of_eq g2.symm)
  have sz_b2 : h0.size ≤ b2 := Nat.le_trans K0.1 (Nat.le_of_eq g2.symm)
  have Z2 : n0 ≤ h2.size := Nat.le_trans Z0 E2.1
  have K2 : Keep h0 h2 [] := K0.ext E2
  have V2 : Arv Z h2 b2 k2 (.object "java/lang/Object") (4 : Int32) [.null, .null, .null, .null] .null := (Arv.new A2 (by decide)).pad (pad_rep [] .null 4)
  have f4 := (hV.ext E2)
  obtain ⟨cl3, Ar3, q3, Sz3, Nn3, Ha3, Ga3⟩ := id f4
  obtain ⟨cl5, Ar5, q5, Sz5, Nn5, Ha5, Ga5⟩ := id f4
  have hin5 : ¬ ((0 : Int32) < 0 ∨ cl5.slots.size ≤ ((0 : Int32)).toNatClampNeg) := inb_of Sz5 ⟨by decide, by decide⟩
  have hat5 : cl5.slots[((0 : Int32)).toNatClampNeg]? = some (.ref pa0) := Ha5.at hin5 rfl
  obtain ⟨_, _, ⟨T6, L6, k6, n6⟩, -, X6, ⟨Lc6, hQ6, l6, y6, z6⟩, st6⟩ := Jvm.LawKit.callS X2 hx (y := (⟨"java/util/Objects", "requireNonNull", "(Ljava/lang/Object;)Ljava/lang/Object;"⟩ : MethodName)) hown (mvT hZ (w_ hw 180 rfl)) (mvT hZ (w_ hw 181 rfl)) (mvT hZ (w_ hw 182 rfl)) (mvT hZ (w_ hw 183 rfl)) (by decide) (backOf (W := 2) (rmRN l Z a0 hw [] pa0 h2 n0 Z2) hZ (w_ hw 183 rfl) (w_ hw 182 rfl) (by decide) (by decide)) (g := (mkF m 19 #[rv b0, rv b2, iv 0] [(.ref pa0), (.int 0), (.ref b2)])) rfl (by rw [hml]; rfl) (argsL := [(.ref pa0)]) (rest := [(.int 0), (.ref b2)]) (lenOf pd_5 rfl) rfl (by show 2 * 0 + _ ≤ _; exact Nat.le_of_eq rfl) (hb hby d_jdk_56_m_4_19) (fun _ _ => ⟨rfl, e2, (by decide : 1 + 0 ≤ _), (by decide : 4 + 0 ≤ _)⟩)
  dsimp only [Pt.U, Pt.locs, Pt.cells, Pt.slots] at X6 l6 y6 z6 st6 hQ6
  subst l6 y6 z6
  obtain ⟨hv6, N6q, r6⟩ := hQ6
  subst hv6
  have N6 := Fr.app N0 N6q
  obtain ⟨cl7, Ar7, q7, Sz7, Nn7, Ha7, Ga7⟩ := id V2
  have hin7 : ¬ ((0 : Int32) < 0 ∨ cl7.slots.size ≤ ((0 : Int32)).toNatClampNeg) := inb_of Sz7 ⟨by decide, by decide⟩
  have f8 := (hx0.ext E2)
  obtain ⟨T7, h7, X7, e7, W7, st7⟩ := stR X6 hx hZ r6 Ar7 (j := (0 : Int32)) hin7 rfl (Sto.ofV Ar7 q7 O2 (Ins.of_exa f8 (w_ hw 142 rfl))) (g := (mkF m 22 #[rv b0, rv b2, iv 0] [(.ref pa0), (.int 0), (.ref b2)])) rfl rfl (hb hby d_jdk_56_m_4_22)
  have V7 : Arv Z h7 b2 k2 (.object "java/lang/Object") (4 : Int32) [(.ref pa0), .null, .null, .null] .null := Arv.set Ar7 q7 Sz7 Nn7 Ha7 Ga7 rfl W7 0 rfl (Nat.le_of_ble_eq_true rfl)
  have Z7 : n0 ≤ h7.size := Nat.le_trans Z2 (Nat.le_of_eq W7.size.symm)
  have N7 := Fr.snoc X7 N6 gb_b2
  have K7 : Keep h0 h7 [] := K2.wr W7 (Or.inr sz_b2)
  have R9 : ∀ tg, Sx p e below T7 m 26 #[rv b0, rv b2, iv ((0 : Int32) + (1 : Int32))] [] tg → Sx p e below s₁ m 0 #[rv b0, u_, u_] [] tg := by
    intro tg kt
    refine XS.aloadN X0.here hx rfl (hb hby d_jdk_56_m_4_0) rfl rfl ?_
    refine X0.arraylength hx (by rw [e0]; exact Ar1.1) (State.isArrayOf_alike hZ.alike Ar1.2.1) (g := (mkF m 1 #[rv b0, u_, u_] [(.ref b0)])) rfl rfl (hb hby d_jdk_56_m_4_1) _ ?_
    rw [len_of Sz1 Nn1]
    refine st2 _ ?_
    refine XS.astoreN X2.here hx rfl (hb hby d_jdk_56_m_4_5) rfl rfl (l' := #[rv b0, rv b2, u_]) rfl ?_
    refine XS.iconst X2.here hx rfl (hb hby d_jdk_56_m_4_6) ?_
    show Sx p e below T2 m 7 #[rv b0, rv b2, u_] [(.int 0)] _
    refine XS.istoreN X2.here hx rfl (hb hby d_jdk_56_m_4_7) rfl (l' := #[rv b0, rv b2, iv 0]) rfl ?_
    refine XS.iloadN X2.here hx rfl (hb hby d_jdk_56_m_4_8) rfl ?_
    refine XS.aloadN X2.here hx rfl (hb hby d_jdk_56_m_4_9) rfl rfl ?_
    refine X2.arraylength hx (by rw [e2]; exact Ar3.1) (State.isArrayOf_alike hZ.alike Ar3.2.1) (g := (mkF m 10 #[rv b0, rv b2, iv 0] [(.ref b0), (.int 0)])) rfl rfl (hb hby d_jdk_56_m_4_10) _ ?_
    rw [len_of Sz3 Nn3]
    refine XS.icmpNo X2.here hx rfl (hb hby d_jdk_56_m_4_11) rfl (tlt (by decide : (0 : Int32) < (4 : Int32))).2.1 ?_
    show Sx p e below T2 m 14 #[rv b0, rv b2, iv 0] [] _
    refine XS.aloadN X2.here hx rfl (hb hby d_jdk_56_m_4_14) rfl rfl ?_
    refine XS.iloadN X2.here hx rfl (hb hby d_jdk_56_m_4_15) rfl ?_
    refine XS.aloadN X2.here hx rfl (hb hby d_jdk_56_m_4_16) rfl rfl ?_
    refine XS.iloadN X2.here hx rfl (hb hby d_jdk_56_m_4_17) rfl ?_
    refine X2.aaload hx (j := (0 : Int32)) (v := (.ref pa0)) (by rw [e2]; exact Ar5.1) (State.isArrayOf_alike hZ.alike Ar5.2.1) rfl Ar5.2.2 hin5 hat5 (g := (mkF m 18 #[rv b0, rv b2, iv 0] [(.int 0), (.ref b0), (.int 0), (.ref b2)])) rfl rfl (hb hby d_jdk_56_m_4_18) _ ?_
    show Sx p e below T2 m 19 #[rv b0, rv b2, iv 0] [(.ref pa0), (.int 0), (.ref b2)] _
    refine st6 _ ?_
    refine st7 _ ?_
    refine XS.iinc X7.here hx rfl (hb hby d_jdk_56_m_4_23) rfl (l' := #[rv b0, rv b2, iv ((0 : Int32) + (1 : Int32))]) rfl ?_
    show Sx p e below T7 m 26 #[rv b0, rv b2, iv ((0 : Int32) + (1 : Int32))] [] _
    exact kt
  have R10 : ∀ tg, Sx p e below T7 m 26 #[rv b0, rv b2, iv 1] [] tg → Sx p e below T7 m 26 #[rv b0, rv b2, iv ((0 : Int32) + (1 : Int32))] [] tg := fun tg kt => by rw [(by decide : ((0 : Int32) + (1 : Int32)) = (1 : Int32))]; exact kt
  have f12 := (f4.other W7 ne_b0_b2)
  obtain ⟨cl11, Ar11, q11, Sz11, Nn11, Ha11, Ga11⟩ := id f12
  obtain ⟨cl13, Ar13, q13, Sz13, Nn13, Ha13, Ga13⟩ := id f12
  have hin13 : ¬ ((1 : Int32) < 0 ∨ cl13.slots.size ≤ ((1 : Int32)).toNatClampNeg) := inb_of Sz13 ⟨by decide, by decide⟩
  have hat13 : cl13.slots[((1 : Int32)).toNatClampNeg]? = some (.ref pa1) := Ha13.at hin13 rfl
  obtain ⟨_, _, ⟨T14, L14, k14, n14⟩, -, X14, ⟨Lc14, hQ14, l14, y14, z14⟩, st14⟩ := Jvm.LawKit.callS X7 hx (y := (⟨"java/util/Objects", "requireNonNull", "(Ljava/lang/Object;)Ljava/lang/Object;"⟩ : MethodName)) hown (mvT hZ (w_ hw 180 rfl)) (mvT hZ (w_ hw 181 rfl)) (mvT hZ (w_ hw 182 rfl)) (mvT hZ (w_ hw 183 rfl)) (by decide) (backOf (W := 2) (rmRN l Z a0 hw [] pa1 h7 n0 Z7) hZ (w_ hw 183 rfl) (w_ hw 182 rfl) (by decide) (by decide)) (g := (mkF m 19 #[rv b0, rv b2, iv 1] [(.ref pa1), (.int 1), (.ref b2)])) rfl (by rw [hml]; rfl) (argsL := [(.ref pa1)]) (rest := [(.int 1), (.ref b2)]) (lenOf pd_5 rfl) rfl (by show 2 * 0 + _ ≤ _; exact Nat.le_of_eq rfl) (hb hby d_jdk_56_m_4_19) (fun _ _ => ⟨rfl, e7, (by decide : 1 + 0 ≤ _), (by decide : 4 + 0 ≤ _)⟩)
  dsimp only [Pt.U, Pt.locs, Pt.cells, Pt.slots] at X14 l14 y14 z14 st14 hQ14
  subst l14 y14 z14
  obtain ⟨hv14, N14q, r14⟩ := hQ14
  subst hv14
  have N14 := Fr.app N7 N14q
  obtain ⟨cl15, Ar15, q15, Sz15, Nn15, Ha15, Ga15⟩ := id V7
  have hin15 : ¬ ((1 : Int32) < 0 ∨ cl15.slots.size ≤ ((1 : Int32)).toNatClampNeg) := inb_of Sz15 ⟨by decide, by decide⟩
  have f16 := ((hx1.ext E2).wr W7)
  obtain ⟨T15, h15, X15, e15, W15, st15⟩ := stR X14 hx hZ r14 Ar15 (j := (1 : Int32)) hin15 rfl (Sto.ofV Ar15 q15 O2 (Ins.of_exa f16 (w_ hw 142 rfl))) (g := (mkF m 22 #[rv b0, rv b2, iv 1] [(.ref pa1), (.int 1), (.ref b2)])) rfl rfl (hb hby d_jdk_56_m_4_22)
  have V15 : Arv Z h15 b2 k2 (.object "java/lang/Object") (4 : Int32) [(.ref pa0), (.ref pa1), .null, .null] .null := Arv.set Ar15 q15 Sz15 Nn15 Ha15 Ga15 rfl W15 1 rfl (Nat.le_of_ble_eq_true rfl)
  have Z15 : n0 ≤ h15.size := Nat.le_trans Z7 (Nat.le_of_eq W15.size.symm)
  have N15 := Fr.snoc X15 N14 gb_b2
  have K15 : Keep h0 h15 [] := K7.wr W15 (Or.inr sz_b2)
  have R17 : ∀ tg, Sx p e below T15 m 26 #[rv b0, rv b2, iv ((1 : Int32) + (1 : Int32))] [] tg → Sx p e below T7 m 26 #[rv b0, rv b2, iv 1] [] tg := by
    intro tg kt
    refine XS.goto X7.here hx rfl (pc0 := 26) (pc' := 8) rfl (hb hby d_jdk_56_m_4_26) (by decide) (by decide) ?_
    refine XS.iloadN X7.here hx rfl (hb hby d_jdk_56_m_4_8) rfl ?_
    refine XS.aloadN X7.here hx rfl (hb hby d_jdk_56_m_4_9) rfl rfl ?_
    refine X7.arraylength hx (by rw [e7]; exact Ar11.1) (State.isArrayOf_alike hZ.alike Ar11.2.1) (g := (mkF m 10 #[rv b0, rv b2, iv 1] [(.ref b0), (.int 1)])) rfl rfl (hb hby d_jdk_56_m_4_10) _ ?_
    rw [len_of Sz11 Nn11]
    refine XS.icmpNo X7.here hx rfl (hb hby d_jdk_56_m_4_11) rfl (tlt (by decide : (1 : Int32) < (4 : Int32))).2.1 ?_
    show Sx p e below T7 m 14 #[rv b0, rv b2, iv 1] [] _
    refine XS.aloadN X7.here hx rfl (hb hby d_jdk_56_m_4_14) rfl rfl ?_
    refine XS.iloadN X7.here hx rfl (hb hby d_jdk_56_m_4_15) rfl ?_
    refine XS.aloadN X7.here hx rfl (hb hby d_jdk_56_m_4_16) rfl rfl ?_
    refine XS.iloadN X7.here hx rfl (hb hby d_jdk_56_m_4_17) rfl ?_
    refine X7.aaload hx (j := (1 : Int32)) (v := (.ref pa1)) (by rw [e7]; exact Ar13.1) (State.isArrayOf_alike hZ.alike Ar13.2.1) rfl Ar13.2.2 hin13 hat13 (g := (mkF m 18 #[rv b0, rv b2, iv 1] [(.int 1), (.ref b0), (.int 1), (.ref b2)])) rfl rfl (hb hby d_jdk_56_m_4_18) _ ?_
    show Sx p e below T7 m 19 #[rv b0, rv b2, iv 1] [(.ref pa1), (.int 1), (.ref b2)] _
    refine st14 _ ?_
    refine st15 _ ?_
    refine XS.iinc X15.here hx rfl (hb hby d_jdk_56_m_4_23) rfl (l' := #[rv b0, rv b2, iv ((1 : Int32) + (1 : Int32))]) rfl ?_
    show Sx p e below T15 m 26 #[rv b0, rv b2, iv ((1 : Int32) + (1 : Int32))] [] _
    exact kt
  have R18 : ∀ tg, Sx p e below T15 m 26 #[rv b0, rv b2, iv 2] [] tg → Sx p e below T15 m 26 #[rv b0, rv b2, iv ((1 : Int32) + (1 : Int32))] [] tg := fun tg kt => by rw [(by decide : ((1 : Int32) + (1 : Int32)) = (2 : Int32))]; exact kt
  have f20 := (f12.other W15 ne_b0_b2)
  obtain ⟨cl19, Ar19, q19, Sz19, Nn19, Ha19, Ga19⟩ := id f20
  obtain ⟨cl21, Ar21, q21, Sz21, Nn21, Ha21, Ga21⟩ := id f20
  have hin21 : ¬ ((2 : Int32) < 0 ∨ cl21.slots.size ≤ ((2 : Int32)).toNatClampNeg) := inb_of Sz21 ⟨by decide, by decide⟩
  have hat21 : cl21.slots[((2 : Int32)).toNatClampNeg]? = some (.ref pa2) := Ha21.at hin21 rfl
  obtain ⟨_, _, ⟨T22, L22, k22, n22⟩, -, X22, ⟨Lc22, hQ22, l22, y22, z22⟩, st22⟩ := Jvm.LawKit.callS X15 hx (y := (⟨"java/util/Objects", "requireNonNull", "(Ljava/lang/Object;)Ljava/lang/Object;"⟩ : MethodName)) hown (mvT hZ (w_ hw 180 rfl)) (mvT hZ (w_ hw 181 rfl)) (mvT hZ (w_ hw 182 rfl)) (mvT hZ (w_ hw 183 rfl)) (by decide) (backOf (W := 2) (rmRN l Z a0 hw [] pa2 h15 n0 Z15) hZ (w_ hw 183 rfl) (w_ hw 182 rfl) (by decide) (by decide)) (g := (mkF m 19 #[rv b0, rv b2, iv 2] [(.ref pa2), (.int 2), (.ref b2)])) rfl (by rw [hml]; rfl) (argsL := [(.ref pa2)]) (rest := [(.int 2), (.ref b2)]) (lenOf pd_5 rfl) rfl (by show 2 * 0 + _ ≤ _; exact Nat.le_of_eq rfl) (hb hby d_jdk_56_m_4_19) (fun _ _ => ⟨rfl, e15, (by decide : 1 + 0 ≤ _), (by decide : 4 + 0 ≤ _)⟩)
  dsimp only [Pt.U, Pt.locs, Pt.cells, Pt.slots] at X22 l22 y22 z22 st22 hQ22
  subst l22 y22 z22
  obtain ⟨hv22, N22q, r22⟩ := hQ22
  subst hv22
  have N22 := Fr.app N15 N22q
  obtain ⟨cl23, Ar23, q23, Sz23, Nn23, Ha23, Ga23⟩ := id V15
  have hin23 : ¬ ((2 : Int32) < 0 ∨ cl23.slots.size ≤ ((2 : Int32)).toNatClampNeg) := inb_of Sz23 ⟨by decide, by decide⟩
  have f24 := (((hx2.ext E2).wr W7).wr W15)
  obtain ⟨T23, h23, X23, e23, W23, st23⟩ := stR X22 hx hZ r22 Ar23 (j := (2 : Int32)) hin23 rfl (Sto.ofV Ar23 q23 O2 (Ins.of_exa f24 (w_ hw 142 rfl))) (g := (mkF m 22 #[rv b0, rv b2, iv 2] [(.ref pa2), (.int 2), (.ref b2)])) rfl rfl (hb hby d_jdk_56_m_4_22)
  have V23 : Arv Z h23 b2 k2 (.object "java/lang/Object") (4 : Int32) [(.ref pa0), (.ref pa1), (.ref pa2), .null] .null := Arv.set Ar23 q23 Sz23 Nn23 Ha23 Ga23 rfl W23 2 rfl (Nat.le_of_ble_eq_true rfl)
  have Z23 : n0 ≤ h23.size := Nat.le_trans Z15 (Nat.le_of_eq W23.size.symm)
  have N23 := Fr.snoc X23 N22 gb_b2
  have K23 : Keep h0 h23 [] := K15.wr W23 (Or.inr sz_b2)
  have R25 : ∀ tg, Sx p e below T23 m 26 #[rv b0, rv b2, iv ((2 : Int32) + (1 : Int32))] [] tg → Sx p e below T15 m 26 #[rv b0, rv b2, iv 2] [] tg := by
    intro tg kt
    refine XS.goto X15.here hx rfl (pc0 := 26) (pc' := 8) rfl (hb hby d_jdk_56_m_4_26) (by decide) (by decide) ?_
    refine XS.iloadN X15.here hx rfl (hb hby d_jdk_56_m_4_8) rfl ?_
    refine XS.aloadN X15.here hx rfl (hb hby d_jdk_56_m_4_9) rfl rfl ?_
    refine X15.arraylength hx (by rw [e15]; exact Ar19.1) (State.isArrayOf_alike hZ.alike Ar19.2.1) (g := (mkF m 10 #[rv b0, rv b2, iv 2] [(.ref b0), (.int 2)])) rfl rfl (hb hby d_jdk_56_m_4_10) _ ?_
    rw [len_of Sz19 Nn19]
    refine XS.icmpNo X15.here hx rfl (hb hby d_jdk_56_m_4_11) rfl (tlt (by decide : (2 : Int32) < (4 : Int32))).2.1 ?_
    show Sx p e below T15 m 14 #[rv b0, rv b2, iv 2] [] _
    refine XS.aloadN X15.here hx rfl (hb hby d_jdk_56_m_4_14) rfl rfl ?_
    refine XS.iloadN X15.here hx rfl (hb hby d_jdk_56_m_4_15) rfl ?_
    refine XS.aloadN X15.here hx rfl (hb hby d_jdk_56_m_4_16) rfl rfl ?_
    refine XS.iloadN X15.here hx rfl (hb hby d_jdk_56_m_4_17) rfl ?_
    refine X15.aaload hx (j := (2 : Int32)) (v := (.ref pa2)) (by rw [e15]; exact Ar21.1) (State.isArrayOf_alike hZ.alike Ar21.2.1) rfl Ar21.2.2 hin21 hat21 (g := (mkF m 18 #[rv b0, rv b2, iv 2] [(.int 2), (.ref b0), (.int 2), (.ref b2)])) rfl rfl (hb hby d_jdk_56_m_4_18) _ ?_
    show Sx p e below T15 m 19 #[rv b0, rv b2, iv 2] [(.ref pa2), (.int 2), (.ref b2)] _
    refine st22 _ ?_
    refine st23 _ ?_
    refine XS.iinc X23.here hx rfl (hb hby d_jdk_56_m_4_23) rfl (l' := #[rv b0, rv b2, iv ((2 : Int32) + (1 : Int32))]) rfl ?_
    show Sx p e below T23 m 26 #[rv b0, rv b2, iv ((2 : Int32) + (1 : Int32))] [] _
    exact kt
  have R26 : ∀ tg, Sx p e below T23 m 26 #[rv b0, rv b2, iv 3] [] tg → Sx p e below T23 m 26 #[rv b0, rv b2, iv ((2 : Int32) + (1 : Int32))] [] tg := fun tg kt => by rw [(by decide : ((2 : Int32) + (1 : Int32)) = (3 : Int32))]; exact kt
  have f28 := (f20.other W23 ne_b0_b2)
  obtain ⟨cl27, Ar27, q27, Sz27, Nn27, Ha27, Ga27⟩ := id f28
  obtain ⟨cl29, Ar29, q29, Sz29, Nn29, Ha29, Ga29⟩ := id f28
  have hin29 : ¬ ((3 : Int32) < 0 ∨ cl29.slots.size ≤ ((3 : Int32)).toNatClampNeg) := inb_of Sz29 ⟨by decide, by decide⟩
  have hat29 : cl29.slots[((3 : Int32)).toNatClampNeg]? = some (.ref pa3) := Ha29.at hin29 rfl
  obtain ⟨_, _, ⟨T30, L30, k30, n30⟩, -, X30, ⟨Lc30, hQ30, l30, y30, z30⟩, st30⟩ := Jvm.LawKit.callS X23 hx (y := (⟨"java/util/Objects", "requireNonNull", "(Ljava/lang/Object;)Ljava/lang/Object;"⟩ : MethodName)) hown (mvT hZ (w_ hw 180 rfl)) (mvT hZ (w_ hw 181 rfl)) (mvT hZ (w_ hw 182 rfl)) (mvT hZ (w_ hw 183 rfl)) (by decide) (backOf (W := 2) (rmRN l Z a0 hw [] pa3 h23 n0 Z23) hZ (w_ hw 183 rfl) (w_ hw 182 rfl) (by decide) (by decide)) (g := (mkF m 19 #[rv b0, rv b2, iv 3] [(.ref pa3), (.int 3), (.ref b2)])) rfl (by rw [hml]; rfl) (argsL := [(.ref pa3)]) (rest := [(.int 3), (.ref b2)]) (lenOf pd_5 rfl) rfl (by show 2 * 0 + _ ≤ _; exact Nat.le_of_eq rfl) (hb hby d_jdk_56_m_4_19) (fun _ _ => ⟨rfl, e23, (by decide : 1 + 0 ≤ _), (by decide : 4 + 0 ≤ _)⟩)
  dsimp only [Pt.U, Pt.locs, Pt.cells, Pt.slots] at X30 l30 y30 z30 st30 hQ30
  subst l30 y30 z30
  obtain ⟨hv30, N30q, r30⟩ := hQ30
  subst hv30
  have N30 := Fr.app N23 N30q
  obtain ⟨cl31, Ar31, q31, Sz31, Nn31, Ha31, Ga31⟩ := id V23
  have hin31 : ¬ ((3 : Int32) < 0 ∨ cl31.slots.size ≤ ((3 : Int32)).toNatClampNeg) := inb_of Sz31 ⟨by decide, by decide⟩
  have f32 := ((((hx3.ext E2).wr W7).wr W15).wr W23)
  obtain ⟨T31, h31, X31, e31, W31, st31⟩ := stR X30 hx hZ r30 Ar31 (j := (3 : Int32)) hin31 rfl (Sto.ofV Ar31 q31 O2 (Ins.of_exa f32 (w_ hw 142 rfl))) (g := (mkF m 22 #[rv b0, rv b2, iv 3] [(.ref pa3), (.int 3), (.ref b2)])) rfl rfl (hb hby d_jdk_56_m_4_22)
  have V31 : Arv Z h31 b2 k2 (.object "java/lang/Object") (4 : Int32) [(.ref pa0), (.ref pa1), (.ref pa2), (.ref pa3)] .null := Arv.set Ar31 q31 Sz31 Nn31 Ha31 Ga31 rfl W31 3 rfl (Nat.le_of_ble_eq_true rfl)
  have Z31 : n0 ≤ h31.size := Nat.le_trans Z23 (Nat.le_of_eq W31.size.symm)
  have N31 := Fr.snoc X31 N30 gb_b2
  have K31 : Keep h0 h31 [] := K23.wr W31 (Or.inr sz_b2)
  have R33 : ∀ tg, Sx p e below T31 m 26 #[rv b0, rv b2, iv ((3 : Int32) + (1 : Int32))] [] tg → Sx p e below T23 m 26 #[rv b0, rv b2, iv 3] [] tg := by
    intro tg kt
    refine XS.goto X23.here hx rfl (pc0 := 26) (pc' := 8) rfl (hb hby d_jdk_56_m_4_26) (by decide) (by decide) ?_
    refine XS.iloadN X23.here hx rfl (hb hby d_jdk_56_m_4_8) rfl ?_
    refine XS.aloadN X23.here hx rfl (hb hby d_jdk_56_m_4_9) rfl rfl ?_
    refine X23.arraylength hx (by rw [e23]; exact Ar27.1) (State.isArrayOf_alike hZ.alike Ar27.2.1) (g := (mkF m 10 #[rv b0, rv b2, iv 3] [(.ref b0), (.int 3)])) rfl rfl (hb hby d_jdk_56_m_4_10) _ ?_
    rw [len_of Sz27 Nn27]
    refine XS.icmpNo X23.here hx rfl (hb hby d_jdk_56_m_4_11) rfl (tlt (by decide : (3 : Int32) < (4 : Int32))).2.1 ?_
    show Sx p e below T23 m 14 #[rv b0, rv b2, iv 3] [] _
    refine XS.aloadN X23.here hx rfl (hb hby d_jdk_56_m_4_14) rfl rfl ?_
    refine XS.iloadN X23.here hx rfl (hb hby d_jdk_56_m_4_15) rfl ?_
    refine XS.aloadN X23.here hx rfl (hb hby d_jdk_56_m_4_16) rfl rfl ?_
    refine XS.iloadN X23.here hx rfl (hb hby d_jdk_56_m_4_17) rfl ?_
    refine X23.aaload hx (j := (3 : Int32)) (v := (.ref pa3)) (by rw [e23]; exact Ar29.1) (State.isArrayOf_alike hZ.alike Ar29.2.1) rfl Ar29.2.2 hin29 hat29 (g := (mkF m 18 #[rv b0, rv b2, iv 3] [(.int 3), (.ref b0), (.int 3), (.ref b2)])) rfl rfl (hb hby d_jdk_56_m_4_18) _ ?_
    show Sx p e below T23 m 19 #[rv b0, rv b2, iv 3] [(.ref pa3), (.int 3), (.ref b2)] _
    refine st30 _ ?_
    refine st31 _ ?_
    refine XS.iinc X31.here hx rfl (hb hby d_jdk_56_m_4_23) rfl (l' := #[rv b0, rv b2, iv ((3 : Int32) + (1 : Int32))]) rfl ?_
    show Sx p e below T31 m 26 #[rv b0, rv b2, iv ((3 : Int32) + (1 : Int32))] [] _
    exact kt
  have R34 : ∀ tg, Sx p e below T31 m 26 #[rv b0, rv b2, iv 4] [] tg → Sx p e below T31 m 26 #[rv b0, rv b2, iv ((3 : Int32) + (1 : Int32))] [] tg := fun tg kt => by rw [(by decide : ((3 : Int32) + (1 : Int32)) = (4 : Int32))]; exact kt
  have f36 := (f28.other W31 ne_b0_b2)
  obtain ⟨cl35, Ar35, q35, Sz35, Nn35, Ha35, Ga35⟩ := id f36
  obtain ⟨T37, h37, X37, e37, E37, A37, D37, -, st37⟩ := newO X31 hx hZ hown (w_ hw 72 rfl) (w_ hw 184 rfl) (w_ hw 111 rfl) e31 (g := (mkF m 29 #[rv b0, rv b2, iv 4] [])) rfl (hb hby d_jdk_56_m_4_29) (by decide) (by decide)
  obtain ⟨b37, g37⟩ : ∃ z, z = h31.size := ⟨_, rfl⟩
  rw [← g37] at A37 D37 st37
  have ne_b0_b37 : b0 ≠ b37 := Nat.ne_of_lt (Nat.lt_of_lt_of_le (f36).lt (Nat.le_of_eq g37.symm))
  have ne_b2_b37 : b2 ≠ b37 := Nat.ne_of_lt (Nat.lt_of_lt_of_le (V31).lt (Nat.le_of_eq g37.symm))
  have gb_b37 : n0 ≤ b37 := Nat.le_trans Z31 (Nat.le_of_eq g37.symm)
  have sz_b37 : h0.size ≤ b37 := Nat.le_trans K31.1 (Nat.le_of_eq g37.symm)
  have Z37 : n0 ≤ h37.size := Nat.le_trans Z31 E37.1
  have K37 : Keep h0 h37 [] := K31.ext E37
  have F37_elements : Fld Z h37 b37 "java/util/ImmutableCollections$ListN" "elements" "[Ljava/lang/Object;" .null := D37 (Or.inr (w_ hw 114 rfl)) (ty := (.array (.object "java/lang/Object"))) (by decide)
  have F37_allowNulls : Fld Z h37 b37 "java/util/ImmutableCollections$ListN" "allowNulls" "Z" (.int 0) := D37 (Or.inr (w_ hw 204 rfl)) (ty := .boolean) (by decide)
  obtain ⟨_, _, ⟨T38, L38, k38, n38⟩, -, X38, ⟨Lc38, hQ38, l38, y38, z38⟩, st38⟩ := X37.specialBackNest hx (y := (⟨"java/util/ImmutableCollections$ListN", "<init>", "([Ljava/lang/Object;Z)V"⟩ : MethodName)) rfl hown (Cond.methodLinkNest_wide hZ (w_ hw 185 rfl) :) (mvT hZ (w_ hw 186 rfl)) (mvT hZ (w_ hw 188 rfl)) (by decide) (backOf (W := 1) (rmLN l Z a0 hw [] b37 b2 h37 n0 Z37 A37 F37_elements F37_allowNulls gb_b37) hZ (w_ hw 188 rfl) (w_ hw 111 rfl) (by decide) (by decide)) (g := (mkF m 35 #[rv b0, rv b2, iv 4] [(.int 0), (.ref b2), (.ref b37), (.ref b37)])) rfl (by rw [hml]; rfl) (Steps.refl _) (a := b37) (argsL := [(.ref b2), (.int 0)]) (rest := [(.ref b37)]) (lenOf pd_6 rfl) rfl (by show 2 * 0 + _ ≤ _; exact Nat.le_of_eq rfl) (hb hby d_jdk_56_m_4_35) (fun _ _ => ⟨rfl, e37, (by decide : 2 + 0 ≤ _), (by decide : 6 + 0 ≤ _)⟩)
  dsimp only [Pt.U, Pt.locs, Pt.cells, Pt.slots] at X38 l38 y38 z38 st38 hQ38
  subst l38 y38 z38
  obtain ⟨hv38, N38q, kp38, fl38⟩ := hQ38
  subst hv38
  have N38 := Fr.app N31 N38q
  have Z38 : n0 ≤ T38.heap.size := Nat.le_trans Z37 kp38.1
  have K38 : Keep h0 T38.heap [] := K37.trans kp38 (allS (Or.inr sz_b37) all0)
  obtain ⟨fs, hr, hrun, hended, hW, hsame⟩ := X38.leave (v := some (.ref b37)) (fun h => by rw [Bd.returns] at h; cases h)
  refine ⟨_, _, pre0 _ (R9 _ (R10 _ (R17 _ (R18 _ (R25 _ (R26 _ (R33 _ (R34 _ ?_)))))))), hrun, hended, _, _, rfl, ?_, ⟨_, rfl⟩, hW, hsame.mono (by decide) (by decide)⟩
  · show Sx p e below T31 m 26 #[rv b0, rv b2, iv 4] [] _
    refine XS.goto X31.here hx rfl (pc0 := 26) (pc' := 8) rfl (hb hby d_jdk_56_m_4_26) (by decide) (by decide) ?_
    refine XS.iloadN X31.here hx rfl (hb hby d_jdk_56_m_4_8) rfl ?_
    refine XS.aloadN X31.here hx rfl (hb hby d_jdk_56_m_4_9) rfl rfl ?_
    refine X31.arraylength hx (by rw [e31]; exact Ar35.1) (State.isArrayOf_alike hZ.alike Ar35.2.1) (g := (mkF m 10 #[rv b0, rv b2, iv 4] [(.ref b0), (.int 4)])) rfl rfl (hb hby d_jdk_56_m_4_10) _ ?_
    rw [len_of Sz35 Nn35]
    refine XS.icmpYes X31.here hx rfl (pc0 := 11) (pc' := 29) rfl (hb hby d_jdk_56_m_4_11) rfl (flt (by decide : ¬ ((4 : Int32) < (4 : Int32)))).2.1 (by decide) (by decide) ?_
    show Sx p e below T31 m 29 #[rv b0, rv b2, iv 4] [] _
    refine st37 _ ?_
    refine XS.dup X37.here hx rfl (hb hby d_jdk_56_m_4_32) rfl rfl ?_
    refine XS.aloadN X37.here hx rfl (hb hby d_jdk_56_m_4_33) rfl rfl ?_
    refine XS.iconst X37.here hx rfl (hb hby d_jdk_56_m_4_34) ?_
    refine st38.trans ?_
    show Sx p e below T38 m 38 #[rv b0, rv b2, iv 4] [(.ref b37)] _
    jvm_step X38.here [X38.here.top, hx, (hb hby d_jdk_56_m_4_38), X38.method', Bd.returns, Value.isRef, FieldType.isReference]
    first | (intro acts; rw [hr _ acts rfl rfl rfl]) | rw [hr _ _ rfl rfl rfl]
    exact Steps.refl _
  · show QLN Z 4 [.ref pa0, .ref pa1, .ref pa2, .ref pa3] h0 n0 _ T38.heap _
    have f39 := (A37.keep kp38)
    have f40 := ((V31.ext E37).keep kp38 (ninS ne_b2_b37 nin0))
    exact ⟨b37, rfl, N38, K38, b2, _, f39, fl38, f40⟩
theorem ef_rmO1 (m : MethodId) (x0 : Addr) : entryFrame m #[(.ref x0)] 2 = mkF m 0 #[rv x0, u_] [] := by first | (simp [entryFrame, mkF, argsToLocals, Value.category]; done) | rfl
set_option maxRecDepth 65536 in
set_option maxHeartbeats 40000000 in
theorem rmO1 (l : Launch) (Z : State) (a0 : Array Value) (hw : ∀ d ∈ tables_1, d.before a0 Z = true) (ws : List Jvm.Cond) (b0 pa0 em : Addr) (kb : ClassId) (h0 : Heap) (n0 : Nat) (Z0 : n0 ≤ h0.size) (hV : Arv Z h0 b0 kb (.object "java/lang/Object") (1 : Int32) [.ref pa0, .null, .null, .null, .null, .null, .null, .null, .null, .null] .null) (hx0 : Exa Z h0 pa0 "com/example/clausemap/clausemap/outline/Part") (hO1 : Old Z n0 h0) (hSe : Sta Z Z.heap "java/util/ImmutableCollections" "EMPTY" "Ljava/lang/Object;" (.ref em)) :
    MetFree l (⟨"java/util/List", "of", "([Ljava/lang/Object;)Ljava/util/List;"⟩ : MethodName) (head1 (Jvm.Cond.code (⟨"java/util/List", "of", "([Ljava/lang/Object;)Ljava/util/List;"⟩ : MethodName) jdk_40_method_47_code 2 (some (.object "java/util/List")) :: ws) ({ frames := 5, cells := 1, slots := 2, locals := 62 } : Room)) (fun aa_ UU_ => aa_ = #[(.ref b0)] ∧ Z.Warmed39 UU_.vm ∧ UU_.heap = h0) (fun _ _ _ _ _ => True) (fun _ UU_ oo_ UE_ => ∃ vv_ LL_, oo_ = .returned vv_ ∧ QL2 Z pa0 em h0 n0 vv_ UE_.heap LL_ ∧ FrameEnd UU_ oo_ UE_ LL_ ({ frames := 5, cells := 1, slots := 2, locals := 62 } : Room).cells ({ frames := 5, cells := 1, slots := 2, locals := 62 } : Room).slots) := by
  refine MetFree.of_bodySF (plainFor_of_name pn_11) hisR ?_
  intro p e s m args below meth c s₁ Bd hml0 hP hK
  obtain ⟨rfl, hZ, hh⟩ := hP
  have hx := Bd.exec
  have hby := Bd.bytes
  have hml : c.maxLocals = 2 := hml0
  have hown : s.vm.findClass "java/util/List" = some m.cls := findClass_of_methodNamed Bd.named
  have hnm := (name_of_methodNamed Bd.named Bd.method).1
  have X0 : Stand p l e ({ frames := 5, cells := 1, slots := 2, locals := 62 } : Room) s m #[(.ref b0)] below meth c s₁ [] 0 0 := Stand.of_body Bd
  have e0 : s₁.heap = h0 := by rw [← hh, Bd.state]; rfl
  have N0 := Fr.nil n0
  have K0 : Keep h0 h0 [] := Keep.refl h0 _
  have pre0 : ∀ tg, Steps p.tables e below (s₁.setTop (mkF m 0 #[rv b0, u_] [])) tg → Steps p.tables e below (s₁.setTop (entryFrame m #[(.ref b0)] 2)) tg := fun tg kq_ => castTop (ef_rmO1 m b0) kq_
  obtain ⟨cl1, Ar1, q1, Sz1, Nn1, Ha1, Ga1⟩ := id hV
  obtain ⟨T2, h2, X2, e2, E2, A2, D2, -, st2⟩ := newO X0 hx hZ hown (w_ hw 220 rfl) (w_ hw 221 rfl) (w_ hw 222 rfl) e0 (g := (mkF m 34 #[rv b0, u_] [])) rfl (hb hby d_jdk_40_m_47_34) (by decide) (by decide)
  obtain ⟨b2, g2⟩ : ∃ z, z = h0.size := ⟨_, rfl⟩
  rw [← g2] at A2 D2 st2
  have ne_b0_b2 : b0 ≠ b2 := Nat.ne_of_lt (Nat.lt_of_lt_of_le (hV).lt (Nat.le_of_eq g2.symm))
  have gb_b2 : n0 ≤ b2 := Nat.le_trans Z0 (Nat.le_of_eq g2.symm)
  have sz_b2 : h0.size ≤ b2 := Nat.le_trans K0.1 (Nat.le_of_eq g2.symm)
  have Z2 : n0 ≤ h2.size := Nat.le_trans Z0 E2.1
  have K2 : Keep h0 h2 [] := K0.ext E2
  have F2_e0 : Fld Z h2 b2 "java/util/ImmutableCollections$List12" "e0" "Ljava/lang/Object;" .null := D2 (Or.inr (w_ hw 233 rfl)) (ty := (.object "java/lang/Object")) (by decide)
  have F2_e1 : Fld Z h2 b2 "java/util/ImmutableCollections$List12" "e1" "Ljava/lang/Object;" .null := D2 (Or.inr (w_ hw 235 rfl)) (ty := (.object "java/lang/Object")) (by decide)
  have f4 := (hV.ext E2)
  obtain ⟨cl3, Ar3, q3, Sz3, Nn3, Ha3, Ga3⟩ := id f4
  have hin3 : ¬ ((0 : Int32) < 0 ∨ cl3.slots.size ≤ ((0 : Int32)).toNatClampNeg) := inb_of Sz3 ⟨by decide, by decide⟩
  have hat3 : cl3.slots[((0 : Int32)).toNatClampNeg]? = some (.ref pa0) := Ha3.at hin3 rfl
  have f5 := (hO1.ext E2)
  obtain ⟨_, _, ⟨T6, L6, k6, n6⟩, -, X6, ⟨Lc6, hQ6, l6, y6, z6⟩, st6⟩ := X2.specialBack hx (y := (⟨"java/util/ImmutableCollections$List12", "<init>", "(Ljava/lang/Object;)V"⟩ : MethodName)) rfl hown (mvT hZ (w_ hw 248 rfl)) (mvT hZ (w_ hw 249 rfl)) (mvT hZ (w_ hw 250 rfl)) (by decide) (backOf (W := 1) (rmL1 l Z a0 hw [] b2 pa0 em h2 n0 Z2 A2 F2_e0 F2_e1 gb_b2 f5 hSe) hZ (w_ hw 250 rfl) (w_ hw 222 rfl) (by decide) (by decide)) (g := (mkF m 41 #[rv b0, u_] [(.ref pa0), (.ref b2), (.ref b2)])) rfl (by rw [hml]; rfl) (Steps.refl _) (a := b2) (argsL := [(.ref pa0)]) (rest := [(.ref b2)]) (lenOf pd_7 rfl) rfl (by show 2 * 0 + _ ≤ _; exact Nat.le_of_eq rfl) (hb hby d_jdk_40_m_47_41) (fun _ _ => ⟨rfl, e2, (by decide : 1 + 0 ≤ _), (by decide : 2 + 0 ≤ _)⟩)
  dsimp only [Pt.U, Pt.locs, Pt.cells, Pt.slots] at X6 l6 y6 z6 st6 hQ6
  subst l6 y6 z6
  obtain ⟨hv6, N6q, kp6, fl6_0, fl6_1⟩ := hQ6
  subst hv6
  have N6 := Fr.app N0 N6q
  have Z6 : n0 ≤ T6.heap.size := Nat.le_trans Z2 kp6.1
  have K6 : Keep h0 T6.heap [] := K2.trans kp6 (allS (Or.inr sz_b2) all0)
  obtain ⟨fs, hr, hrun, hended, hW, hsame⟩ := X6.leave (v := some (.ref b2)) (fun h => by rw [Bd.returns] at h; cases h)
  refine ⟨_, _, pre0 _ ?_, hrun, hended, _, _, rfl, ?_, ⟨_, rfl⟩, hW, hsame.mono (by decide) (by decide)⟩
  · show Sx p e below s₁ m 0 #[rv b0, u_] [] _
    refine XS.aloadN X0.here hx rfl (hb hby d_jdk_40_m_47_0) rfl rfl ?_
    refine X0.arraylength hx (by rw [e0]; exact Ar1.1) (State.isArrayOf_alike hZ.alike Ar1.2.1) (g := (mkF m 1 #[rv b0, u_] [(.ref b0)])) rfl rfl (hb hby d_jdk_40_m_47_1) _ ?_
    rw [len_of Sz1 Nn1]
    refine XS.tswIn X0.here hx rfl (pc0 := 2) (pc' := 34) rfl (hb hby d_jdk_40_m_47_2) rfl (by decide) (o := 32) (by decide) (by decide) (by decide) ?_
    refine st2 _ ?_
    refine XS.dup X2.here hx rfl (hb hby d_jdk_40_m_47_37) rfl rfl ?_
    show Sx p e below T2 m 38 #[rv b0, u_] [(.ref b2), (.ref b2)] _
    refine XS.aloadN X2.here hx rfl (hb hby d_jdk_40_m_47_38) rfl rfl ?_
    refine XS.iconst X2.here hx rfl (hb hby d_jdk_40_m_47_39) ?_
    refine X2.aaload hx (j := (0 : Int32)) (v := (.ref pa0)) (by rw [e2]; exact Ar3.1) (State.isArrayOf_alike hZ.alike Ar3.2.1) rfl Ar3.2.2 hin3 hat3 (g := (mkF m 40 #[rv b0, u_] [(.int 0), (.ref b0), (.ref b2), (.ref b2)])) rfl rfl (hb hby d_jdk_40_m_47_40) _ ?_
    refine st6.trans ?_
    show Sx p e below T6 m 44 #[rv b0, u_] [(.ref b2)] _
    jvm_step X6.here [X6.here.top, hx, (hb hby d_jdk_40_m_47_44), X6.method', Bd.returns, Value.isRef, FieldType.isReference]
    first | (intro acts; rw [hr _ acts rfl rfl rfl]) | rw [hr _ _ rfl rfl rfl]
    exact Steps.refl _
  · show QL2 Z pa0 em h0 n0 _ T6.heap _
    have f7 := (A2.keep kp6)
    exact ⟨b2, rfl, N6, K6, f7, fl6_0, fl6_1⟩
theorem ef_rmO2 (m : MethodId) (x0 : Addr) : entryFrame m #[(.ref x0)] 2 = mkF m 0 #[rv x0, u_] [] := by first | (simp [entryFrame, mkF, argsToLocals, Value.category]; done) | rfl
set_option maxRecDepth 65536 in
set_option maxHeartbeats 40000000 in
theorem rmO2 (l : Launch) (Z : State) (a0 : Array Value) (hw : ∀ d ∈ tables_1, d.before a0 Z = true) (ws : List Jvm.Cond) (b0 pa0 pa1 em : Addr) (kb : ClassId) (h0 : Heap) (n0 : Nat) (Z0 : n0 ≤ h0.size) (hV : Arv Z h0 b0 kb (.object "java/lang/Object") (2 : Int32) [.ref pa0, .ref pa1, .null, .null, .null, .null, .null, .null, .null, .null] .null) (hx0 : Exa Z h0 pa0 "com/example/clausemap/clausemap/outline/Part") (hx1 : Exa Z h0 pa1 "com/example/clausemap/clausemap/outline/Part") (hO1 : Old Z n0 h0) (hSe : Sta Z Z.heap "java/util/ImmutableCollections" "EMPTY" "Ljava/lang/Object;" (.ref em)) :
    MetFree l (⟨"java/util/List", "of", "([Ljava/lang/Object;)Ljava/util/List;"⟩ : MethodName) (head1 (Jvm.Cond.code (⟨"java/util/List", "of", "([Ljava/lang/Object;)Ljava/util/List;"⟩ : MethodName) jdk_40_method_47_code 2 (some (.object "java/util/List")) :: ws) ({ frames := 5, cells := 1, slots := 2, locals := 63 } : Room)) (fun aa_ UU_ => aa_ = #[(.ref b0)] ∧ Z.Warmed39 UU_.vm ∧ UU_.heap = h0) (fun _ _ _ _ _ => True) (fun _ UU_ oo_ UE_ => ∃ vv_ LL_, oo_ = .returned vv_ ∧ QL2 Z pa0 pa1 h0 n0 vv_ UE_.heap LL_ ∧ FrameEnd UU_ oo_ UE_ LL_ ({ frames := 5, cells := 1, slots := 2, locals := 63 } : Room).cells ({ frames := 5, cells := 1, slots := 2, locals := 63 } : Room).slots) := by
  refine MetFree.of_bodySF (plainFor_of_name pn_11) hisR ?_
  intro p e s m args below meth c s₁ Bd hml0 hP hK
  obtain ⟨rfl, hZ, hh⟩ := hP
  have hx := Bd.exec
  have hby := Bd.bytes
  have hml : c.maxLocals = 2 := hml0
  have hown : s.vm.findClass "java/util/List" = some m.cls := findClass_of_methodNamed Bd.named
  have hnm := (name_of_methodNamed Bd.named Bd.method).1
  have X0 : Stand p l e ({ frames := 5, cells := 1, slots := 2, locals := 63 } : Room) s m #[(.ref b0)] below meth c s₁ [] 0 0 := Stand.of_body Bd
  have e0 : s₁.heap = h0 := by rw [← hh, Bd.state]; rfl
  have N0 := Fr.nil n0
  have K0 : Keep h0 h0 [] := Keep.refl h0 _
  have pre0 : ∀ tg, Steps p.tables e below (s₁.setTop (mkF m 0 #[rv b0, u_] [])) tg → Steps p.tables e below (s₁.setTop (entryFrame m #[(.ref b0)] 2)) tg := fun tg kq_ => castTop (ef_rmO2 m b0) kq_
  obtain ⟨cl1, Ar1, q1, Sz1, Nn1, Ha1, Ga1⟩ := id hV
  obtain ⟨T2, h2, X2, e2, E2, A2, D2, -, st2⟩ := newO X0 hx hZ hown (w_ hw 220 rfl) (w_ hw 221 rfl) (w_ hw 222 rfl) e0 (g := (mkF m 45 #[rv b0, u_] [])) rfl (hb hby d_jdk_40_m_47_45) (by decide) (by decide)
  obtain ⟨b2, g2⟩ : ∃ z, z = h0.size := ⟨_, rfl⟩
  rw [← g2] at A2 D2 st2
  have ne_b0_b2 : b0 ≠ b2 := Nat.ne_of_lt (Nat.lt_of_lt_of_le (hV).lt (Nat.le_of_eq g2.symm))
  have gb_b2 : n0 ≤ b2 := Nat.le_trans Z0 (Nat.le_of_eq g2.symm)
  have sz_b2 : h0.size ≤ b2 := Nat.le_trans K0.1 (Nat.le_of_eq g2.symm)
  have Z2 : n0 ≤ h2.size := Nat.le_trans Z0 E2.1
  have K2 : Keep h0 h2 [] := K0.ext E2
  have F2_e0 : Fld Z h2 b2 "java/util/ImmutableCollections$List12" "e0" "Ljava/lang/Object;" .null := D2 (Or.inr (w_ hw 233 rfl)) (ty := (.object "java/lang/Object")) (by decide)
  have F2_e1 : Fld Z h2 b2 "java/util/ImmutableCollections$List12" "e1" "Ljava/lang/Object;" .null := D2 (Or.inr (w_ hw 235 rfl)) (ty := (.object "java/lang/Object")) (by decide)
  have f4 := (hV.ext E2)
  obtain ⟨cl3, Ar3, q3, Sz3, Nn3, Ha3, Ga3⟩ := id f4
  have hin3 : ¬ ((0 : Int32) < 0 ∨ cl3.slots.size ≤ ((0 : Int32)).toNatClampNeg) := inb_of Sz3 ⟨by decide, by decide⟩
  have hat3 : cl3.slots[((0 : Int32)).toNatClampNeg]? = some (.ref pa0) := Ha3.at hin3 rfl
  obtain ⟨cl5, Ar5, q5, Sz5, Nn5, Ha5, Ga5⟩ := id f4
  have hin5 : ¬ ((1 : Int32) < 0 ∨ cl5.slots.size ≤ ((1 : Int32)).toNatClampNeg) := inb_of Sz5 ⟨by decide, by decide⟩
  have hat5 : cl5.slots[((1 : Int32)).toNatClampNeg]? = some (.ref pa1) := Ha5.at hin5 rfl
  obtain ⟨_, _, ⟨T6, L6, k6, n6⟩, -, X6, ⟨Lc6, hQ6, l6, y6, z6⟩, st6⟩ := X2.specialBack hx (y := (⟨"java/util/ImmutableCollections$List12", "<init>", "(Ljava/lang/Object;Ljava/lang/Object;)V"⟩ : MethodName)) rfl hown (mvT hZ (w_ hw 223 rfl)) (mvT hZ (w_ hw 224 rfl)) (mvT hZ (w_ hw 226 rfl)) (by decide) (backOf (W := 1) (rmL2 l Z a0 hw [] b2 pa0 pa1 h2 n0 Z2 A2 F2_e0 F2_e1 gb_b2) hZ (w_ hw 226 rfl) (w_ hw 222 rfl) (by decide) (by decide)) (g := (mkF m 55 #[rv b0, u_] [(.ref pa1), (.ref pa0), (.ref b2), (.ref b2)])) rfl (by rw [hml]; rfl) (Steps.refl _) (a := b2) (argsL := [(.ref pa0), (.ref pa1)]) (rest := [(.ref b2)]) (lenOf pd_8 rfl) rfl (by show 2 * 0 + _ ≤ _; exact Nat.le_of_eq rfl) (hb hby d_jdk_40_m_47_55) (fun _ _ => ⟨rfl, e2, (by decide : 1 + 0 ≤ _), (by decide : 2 + 0 ≤ _)⟩)
  dsimp only [Pt.U, Pt.locs, Pt.cells, Pt.slots] at X6 l6 y6 z6 st6 hQ6
  subst l6 y6 z6
  obtain ⟨hv6, N6q, kp6, fl6_0, fl6_1⟩ := hQ6
  subst hv6
  have N6 := Fr.app N0 N6q
  have Z6 : n0 ≤ T6.heap.size := Nat.le_trans Z2 kp6.1
  have K6 : Keep h0 T6.heap [] := K2.trans kp6 (allS (Or.inr sz_b2) all0)
  obtain ⟨fs, hr, hrun, hended, hW, hsame⟩ := X6.leave (v := some (.ref b2)) (fun h => by rw [Bd.returns] at h; cases h)
  refine ⟨_, _, pre0 _ ?_, hrun, hended, _, _, rfl, ?_, ⟨_, rfl⟩, hW, hsame.mono (by decide) (by decide)⟩
  · show Sx p e below s₁ m 0 #[rv b0, u_] [] _
    refine XS.aloadN X0.here hx rfl (hb hby d_jdk_40_m_47_0) rfl rfl ?_
    refine X0.arraylength hx (by rw [e0]; exact Ar1.1) (State.isArrayOf_alike hZ.alike Ar1.2.1) (g := (mkF m 1 #[rv b0, u_] [(.ref b0)])) rfl rfl (hb hby d_jdk_40_m_47_1) _ ?_
    rw [len_of Sz1 Nn1]
    refine XS.tswIn X0.here hx rfl (pc0 := 2) (pc' := 45) rfl (hb hby d_jdk_40_m_47_2) rfl (by decide) (o := 43) (by decide) (by decide) (by decide) ?_
    refine st2 _ ?_
    refine XS.dup X2.here hx rfl (hb hby d_jdk_40_m_47_48) rfl rfl ?_
    show Sx p e below T2 m 49 #[rv b0, u_] [(.ref b2), (.ref b2)] _
    refine XS.aloadN X2.here hx rfl (hb hby d_jdk_40_m_47_49) rfl rfl ?_
    refine XS.iconst X2.here hx rfl (hb hby d_jdk_40_m_47_50) ?_
    refine X2.aaload hx (j := (0 : Int32)) (v := (.ref pa0)) (by rw [e2]; exact Ar3.1) (State.isArrayOf_alike hZ.alike Ar3.2.1) rfl Ar3.2.2 hin3 hat3 (g := (mkF m 51 #[rv b0, u_] [(.int 0), (.ref b0), (.ref b2), (.ref b2)])) rfl rfl (hb hby d_jdk_40_m_47_51) _ ?_
    refine XS.aloadN X2.here hx rfl (hb hby d_jdk_40_m_47_52) rfl rfl ?_
    refine XS.iconst X2.here hx rfl (hb hby d_jdk_40_m_47_53) ?_
    show Sx p e below T2 m 54 #[rv b0, u_] [(.int 1), (.ref b0), (.ref pa0), (.ref b2), (.ref b2)] _
    refine X2.aaload hx (j := (1 : Int32)) (v := (.ref pa1)) (by rw [e2]; exact Ar5.1) (State.isArrayOf_alike hZ.alike Ar5.2.1) rfl Ar5.2.2 hin5 hat5 (g := (mkF m 54 #[rv b0, u_] [(.int 1), (.ref b0), (.ref pa0), (.ref b2), (.ref b2)])) rfl rfl (hb hby d_jdk_40_m_47_54) _ ?_
    refine st6.trans ?_
    show Sx p e below T6 m 58 #[rv b0, u_] [(.ref b2)] _
    jvm_step X6.here [X6.here.top, hx, (hb hby d_jdk_40_m_47_58), X6.method', Bd.returns, Value.isRef, FieldType.isReference]
    first | (intro acts; rw [hr _ acts rfl rfl rfl]) | rw [hr _ _ rfl rfl rfl]
    exact Steps.refl _
  · show QL2 Z pa0 pa1 h0 n0 _ T6.heap _
    have f7 := (A2.keep kp6)
    exact ⟨b2, rfl, N6, K6, f7, fl6_0, fl6_1⟩
theorem ef_rmO3 (m : MethodId) (x0 : Addr) : entryFrame m #[(.ref x0)] 2 = mkF m 0 #[rv x0, u_] [] := by first | (simp [entryFrame, mkF, argsToLocals, Value.category]; done) | rfl
set_option maxRecDepth 65536 in
set_option maxHeartbeats 40000000 in
theorem rmO3 (l : Launch) (Z : State) (a0 : Array Value) (hw : ∀ d ∈ tables_1, d.before a0 Z = true) (ws : List Jvm.Cond) (b0 pa0 pa1 pa2 em : Addr) (kb : ClassId) (h0 : Heap) (n0 : Nat) (Z0 : n0 ≤ h0.size) (hV : Arv Z h0 b0 kb (.object "java/lang/Object") (3 : Int32) [.ref pa0, .ref pa1, .ref pa2, .null, .null, .null, .null, .null, .null, .null] .null) (hx0 : Exa Z h0 pa0 "com/example/clausemap/clausemap/outline/Part") (hx1 : Exa Z h0 pa1 "com/example/clausemap/clausemap/outline/Part") (hx2 : Exa Z h0 pa2 "com/example/clausemap/clausemap/outline/Part") (hO1 : Old Z n0 h0) (hSe : Sta Z Z.heap "java/util/ImmutableCollections" "EMPTY" "Ljava/lang/Object;" (.ref em)) :
    MetFree l (⟨"java/util/List", "of", "([Ljava/lang/Object;)Ljava/util/List;"⟩ : MethodName) (head1 (Jvm.Cond.code (⟨"java/util/List", "of", "([Ljava/lang/Object;)Ljava/util/List;"⟩ : MethodName) jdk_40_method_47_code 2 (some (.object "java/util/List")) :: ws) ({ frames := 6, cells := 2, slots := 5, locals := 77 } : Room)) (fun aa_ UU_ => aa_ = #[(.ref b0)] ∧ Z.Warmed39 UU_.vm ∧ UU_.heap = h0) (fun _ _ _ _ _ => True) (fun _ UU_ oo_ UE_ => ∃ vv_ LL_, oo_ = .returned vv_ ∧ QLN Z 3 [.ref pa0, .ref pa1, .ref pa2] h0 n0 vv_ UE_.heap LL_ ∧ FrameEnd UU_ oo_ UE_ LL_ ({ frames := 6, cells := 2, slots := 5, locals := 77 } : Room).cells ({ frames := 6, cells := 2, slots := 5, locals := 77 } : Room).slots) := by
  refine MetFree.of_bodySF (plainFor_of_name pn_11) hisR ?_
  intro p e s m args below meth c s₁ Bd hml0 hP hK
  obtain ⟨rfl, hZ, hh⟩ := hP
  have hx := Bd.exec
  have hby := Bd.bytes
  have hml : c.maxLocals = 2 := hml0
  have hown : s.vm.findClass "java/util/List" = some m.cls := findClass_of_methodNamed Bd.named
  have hnm := (name_of_methodNamed Bd.named Bd.method).1
  have X0 : Stand p l e ({ frames := 6, cells := 2, slots := 5, locals := 77 } : Room) s m #[(.ref b0)] below meth c s₁ [] 0 0 := Stand.of_body Bd
  have e0 : s₁.heap = h0 := by rw [← hh, Bd.state]; rfl
  have N0 := Fr.nil n0
  have K0 : Keep h0 h0 [] := Keep.refl h0 _
  have pre0 : ∀ tg, Steps p.tables e below (s₁.setTop (mkF m 0 #[rv b0, u_] [])) tg → Steps p.tables e below (s₁.setTop (entryFrame m #[(.ref b0)] 2)) tg := fun tg kq_ => castTop (ef_rmO3 m b0) kq_
  obtain ⟨cl1, Ar1, q1, Sz1, Nn1, Ha1, Ga1⟩ := id hV
  obtain ⟨_, _, ⟨T2, L2, k2, n2⟩, -, X2, ⟨Lc2, hQ2, l2, y2, z2⟩, st2⟩ := Jvm.LawKit.callS X0 hx (y := (⟨"java/util/ImmutableCollections", "listFromArray", "([Ljava/lang/Object;)Ljava/util/List;"⟩ : MethodName)) hown (mvT hZ (w_ hw 176 rfl)) (mvT hZ (w_ hw 177 rfl)) (mvT hZ (w_ hw 65 rfl)) (mvT hZ (w_ hw 178 rfl)) (by decide) (backOf (W := 0) (rmF3 l Z a0 hw [] b0 pa0 pa1 pa2 kb h0 n0 Z0 hV hx0 hx1 hx2) hZ (w_ hw 178 rfl) (w_ hw 65 rfl) (by decide) (by decide)) (g := (mkF m 60 #[rv b0, u_] [(.ref b0)])) rfl (by rw [hml]; rfl) (argsL := [(.ref b0)]) (rest := []) (lenOf pd_9 rfl) rfl (by show 2 * 0 + _ ≤ _; exact Nat.le_of_eq rfl) (hb hby d_jdk_40_m_47_60) (fun _ _ => ⟨rfl, e0, (by decide : 0 + 2 ≤ _), (by decide : 0 + 5 ≤ _)⟩)
  dsimp only [Pt.U, Pt.locs, Pt.cells, Pt.slots] at X2 l2 y2 z2 st2 hQ2
  subst l2 y2 z2
  obtain ⟨lb2, hv2, N2q, kp2, lv2⟩ := hQ2
  subst hv2
  have N2 := Fr.app N0 N2q
  have Z2 : n0 ≤ T2.heap.size := Nat.le_trans Z0 kp2.1
  have K2 : Keep h0 T2.heap [] := K0.trans kp2 all0
  obtain ⟨fs, hr, hrun, hended, hW, hsame⟩ := X2.leave (v := some (.ref lb2)) (fun h => by rw [Bd.returns] at h; cases h)
  refine ⟨_, _, pre0 _ ?_, hrun, hended, _, _, rfl, ?_, ⟨_, rfl⟩, hW, hsame.mono (by decide) (by decide)⟩
  · show Sx p e below s₁ m 0 #[rv b0, u_] [] _
    refine XS.aloadN X0.here hx rfl (hb hby d_jdk_40_m_47_0) rfl rfl ?_
    refine X0.arraylength hx (by rw [e0]; exact Ar1.1) (State.isArrayOf_alike hZ.alike Ar1.2.1) (g := (mkF m 1 #[rv b0, u_] [(.ref b0)])) rfl rfl (hb hby d_jdk_40_m_47_1) _ ?_
    rw [len_of Sz1 Nn1]
    refine XS.tswOut X0.here hx rfl (pc0 := 2) (pc' := 59) rfl (hb hby d_jdk_40_m_47_2) rfl (by decide) (by decide) (by decide) ?_
    refine XS.aloadN X0.here hx rfl (hb hby d_jdk_40_m_47_59) rfl rfl ?_
    refine st2 _ ?_
    show Sx p e below T2 m 63 #[rv b0, u_] [(.ref lb2)] _
    jvm_step X2.here [X2.here.top, hx, (hb hby d_jdk_40_m_47_63), X2.method', Bd.returns, Value.isRef, FieldType.isReference]
    first | (intro acts; rw [hr _ acts rfl rfl rfl]) | rw [hr _ _ rfl rfl rfl]
    exact Steps.refl _
  · show QLN Z 3 [.ref pa0, .ref pa1, .ref pa2] h0 n0 _ T2.heap _
    exact ⟨lb2, rfl, N2, K2, lv2⟩
theorem ef_rmO4 (m : MethodId) (x0 : Addr) : entryFrame m #[(.ref x0)] 2 = mkF m 0 #[rv x0, u_] [] := by first | (simp [entryFrame, mkF, argsToLocals, Value.category]; done) | rfl
set_option maxRecDepth 65536 in
set_option maxHeartbeats 40000000 in
theorem rmO4 (l : Launch) (Z : State) (a0 : Array Value) (hw : ∀ d ∈ tables_1, d.before a0 Z = true) (ws : List Jvm.Cond) (b0 pa0 pa1 pa2 pa3 em : Addr) (kb : ClassId) (h0 : Heap) (n0 : Nat) (Z0 : n0 ≤ h0.size) (hV : Arv Z h0 b0 kb (.object "java/lang/Object") (4 : Int32) [.ref pa0, .ref pa1, .ref pa2, .ref pa3, .null, .null, .null, .null, .null, .null] .null) (hx0 : Exa Z h0 pa0 "com/example/clausemap/clausemap/outline/Part") (hx1 : Exa Z h0 pa1 "com/example/clausemap/clausemap/outline/Part") (hx2 : Exa Z h0 pa2 "com/example/clausemap/clausemap/outline/Part") (hx3 : Exa Z h0 pa3 "com/example/clausemap/clausemap/outline/Part") (hO1 : Old Z n0 h0) (hSe : Sta Z Z.heap "java/util/ImmutableCollections" "EMPTY" "Ljava/lang/Object;" (.ref em)) :
    MetFree l (⟨"java/util/List", "of", "([Ljava/lang/Object;)Ljava/util/List;"⟩ : MethodName) (head1 (Jvm.Cond.code (⟨"java/util/List", "of", "([Ljava/lang/Object;)Ljava/util/List;"⟩ : MethodName) jdk_40_method_47_code 2 (some (.object "java/util/List")) :: ws) ({ frames := 6, cells := 2, slots := 6, locals := 77 } : Room)) (fun aa_ UU_ => aa_ = #[(.ref b0)] ∧ Z.Warmed39 UU_.vm ∧ UU_.heap = h0) (fun _ _ _ _ _ => True) (fun _ UU_ oo_ UE_ => ∃ vv_ LL_, oo_ = .returned vv_ ∧ QLN Z 4 [.ref pa0, .ref pa1, .ref pa2, .ref pa3] h0 n0 vv_ UE_.heap LL_ ∧ FrameEnd UU_ oo_ UE_ LL_ ({ frames := 6, cells := 2, slots := 6, locals := 77 } : Room).cells ({ frames := 6, cells := 2, slots := 6, locals := 77 } : Room).slots) := by
  refine MetFree.of_bodySF (plainFor_of_name pn_11) hisR ?_
  intro p e s m args below meth c s₁ Bd hml0 hP hK
  obtain ⟨rfl, hZ, hh⟩ := hP
  have hx := Bd.exec
  have hby := Bd.bytes
  have hml : c.maxLocals = 2 := hml0
  have hown : s.vm.findClass "java/util/List" = some m.cls := findClass_of_methodNamed Bd.named
  have hnm := (name_of_methodNamed Bd.named Bd.method).1
  have X0 : Stand p l e ({ frames := 6, cells := 2, slots := 6, locals := 77 } : Room) s m #[(.ref b0)] below meth c s₁ [] 0 0 := Stand.of_body Bd
  have e0 : s₁.heap = h0 := by rw [← hh, Bd.state]; rfl
  have N0 := Fr.nil n0
  have K0 : Keep h0 h0 [] := Keep.refl h0 _
  have pre0 : ∀ tg, Steps p.tables e below (s₁.setTop (mkF m 0 #[rv b0, u_] [])) tg → Steps p.tables e below (s₁.setTop (entryFrame m #[(.ref b0)] 2)) tg := fun tg kq_ => castTop (ef_rmO4 m b0) kq_
  obtain ⟨cl1, Ar1, q1, Sz1, Nn1, Ha1, Ga1⟩ := id hV
  obtain ⟨_, _, ⟨T2, L2, k2, n2⟩, -, X2, ⟨Lc2, hQ2, l2, y2, z2⟩, st2⟩ := Jvm.LawKit.callS X0 hx (y := (⟨"java/util/ImmutableCollections", "listFromArray", "([Ljava/lang/Object;)Ljava/util/List;"⟩ : MethodName)) hown (mvT hZ (w_ hw 176 rfl)) (mvT hZ (w_ hw 177 rfl)) (mvT hZ (w_ hw 65 rfl)) (mvT hZ (w_ hw 178 rfl)) (by decide) (backOf (W := 0) (rmF4 l Z a0 hw [] b0 pa0 pa1 pa2 pa3 kb h0 n0 Z0 hV hx0 hx1 hx2 hx3) hZ (w_ hw 178 rfl) (w_ hw 65 rfl) (by decide) (by decide)) (g := (mkF m 60 #[rv b0, u_] [(.ref b0)])) rfl (by rw [hml]; rfl) (argsL := [(.ref b0)]) (rest := []) (lenOf pd_9 rfl) rfl (by show 2 * 0 + _ ≤ _; exact Nat.le_of_eq rfl) (hb hby d_jdk_40_m_47_60) (fun _ _ => ⟨rfl, e0, (by decide : 0 + 2 ≤ _), (by decide : 0 + 6 ≤ _)⟩)
  dsimp only [Pt.U, Pt.locs, Pt.cells, Pt.slots] at X2 l2 y2 z2 st2 hQ2
  subst l2 y2 z2
  obtain ⟨lb2, hv2, N2q, kp2, lv2⟩ := hQ2
  subst hv2
  have N2 := Fr.app N0 N2q
  have Z2 : n0 ≤ T2.heap.size := Nat.le_trans Z0 kp2.1
  have K2 : Keep h0 T2.heap [] := K0.trans kp2 all0
  obtain ⟨fs, hr, hrun, hended, hW, hsame⟩ := X2.leave (v := some (.ref lb2)) (fun h => by rw [Bd.returns] at h; cases h)
  refine ⟨_, _, pre0 _ ?_, hrun, hended, _, _, rfl, ?_, ⟨_, rfl⟩, hW, hsame.mono (by decide) (by decide)⟩
  · show Sx p e below s₁ m 0 #[rv b0, u_] [] _
    refine XS.aloadN X0.here hx rfl (hb hby d_jdk_40_m_47_0) rfl rfl ?_
    refine X0.arraylength hx (by rw [e0]; exact Ar1.1) (State.isArrayOf_alike hZ.alike Ar1.2.1) (g := (mkF m 1 #[rv b0, u_] [(.ref b0)])) rfl rfl (hb hby d_jdk_40_m_47_1) _ ?_
    rw [len_of Sz1 Nn1]
    refine XS.tswOut X0.here hx rfl (pc0 := 2) (pc' := 59) rfl (hb hby d_jdk_40_m_47_2) rfl (by decide) (by decide) (by decide) ?_
    refine XS.aloadN X0.here hx rfl (hb hby d_jdk_40_m_47_59) rfl rfl ?_
    refine st2 _ ?_
    show Sx p e below T2 m 63 #[rv b0, u_] [(.ref lb2)] _
    jvm_step X2.here [X2.here.top, hx, (hb hby d_jdk_40_m_47_63), X2.method', Bd.returns, Value.isRef, FieldType.isReference]
    first | (intro acts; rw [hr _ acts rfl rfl rfl]) | rw [hr _ _ rfl rfl rfl]
    exact Steps.refl _
  · show QLN Z 4 [.ref pa0, .ref pa1, .ref pa2, .ref pa3] h0 n0 _ T2.heap _
    exact ⟨lb2, rfl, N2, K2, lv2⟩
theorem ef_rmO0 (m : MethodId)  : entryFrame m #[] 0 = mkF m 0 #[] [] := by first | (simp [entryFrame, mkF, argsToLocals, Value.category]; done) | rfl
set_option maxRecDepth 65536 in
set_option maxHeartbeats 40000000 in
theorem rmO0 (l : Launch) (Z : State) (a0 : Array Value) (hw : ∀ d ∈ tables_1, d.before a0 Z = true) (ws : List Jvm.Cond) (el : Addr) (h0 : Heap) (n0 : Nat) (Z0 : n0 ≤ h0.size) (hSl : Sta Z h0 "java/util/ImmutableCollections" "EMPTY_LIST" "Ljava/util/ImmutableCollections$ListN;" (.ref el)) :
    MetFree l (⟨"java/util/List", "of", "()Ljava/util/List;"⟩ : MethodName) (head1 (Jvm.Cond.code (⟨"java/util/List", "of", "()Ljava/util/List;"⟩ : MethodName) jdk_40_method_36_code 0 (some (.object "java/util/List")) :: ws) ({ frames := 0, cells := 0, slots := 0, locals := 0 } : Room)) (fun aa_ UU_ => aa_ = #[] ∧ Z.Warmed39 UU_.vm ∧ UU_.heap = h0) (fun _ _ _ _ _ => True) (fun _ UU_ oo_ UE_ => ∃ vv_ LL_, oo_ = .returned vv_ ∧ QV (some (.ref el)) h0 n0 vv_ UE_.heap LL_ ∧ FrameEnd UU_ oo_ UE_ LL_ ({ frames := 0, cells := 0, slots := 0, locals := 0 } : Room).cells ({ frames := 0, cells := 0, slots := 0, locals := 0 } : Room).slots) := by
  refine MetFree.of_bodySF (plainFor_of_name pn_11) hisR ?_
  intro p e s m args below meth c s₁ Bd hml0 hP hK
  obtain ⟨rfl, hZ, hh⟩ := hP
  have hx := Bd.exec
  have hby := Bd.bytes
  have hml : c.maxLocals = 0 := hml0
  have hown : s.vm.findClass "java/util/List" = some m.cls := findClass_of_methodNamed Bd.named
  have hnm := (name_of_methodNamed Bd.named Bd.method).1
  have X0 : Stand p l e ({ frames := 0, cells := 0, slots := 0, locals := 0 } : Room) s m #[] below meth c s₁ [] 0 0 := Stand.of_body Bd
  have e0 : s₁.heap = h0 := by rw [← hh, Bd.state]; rfl
  have N0 := Fr.nil n0
  have pre0 : ∀ tg, Steps p.tables e below (s₁.setTop (mkF m 0 #[] [])) tg → Steps p.tables e below (s₁.setTop (entryFrame m #[] 0)) tg := fun tg kq_ => castTop (ef_rmO0 m ) kq_
  obtain ⟨T1, X1, e1, st1⟩ := getS2 X0 hx hZ hown (host := "") (Or.inl (w_ hw 87 rfl)) Via.refl e0 hSl (g := (mkF m 0 #[] [])) rfl (hb hby d_jdk_40_m_36_0)
  obtain ⟨fs, hr, hrun, hended, hW, hsame⟩ := X1.leave (v := some (.ref el)) (fun h => by rw [Bd.returns] at h; cases h)
  refine ⟨_, _, pre0 _ ?_, hrun, hended, _, _, rfl, ?_, ⟨_, rfl⟩, hW, hsame.mono (by decide) (by decide)⟩
  · show Sx p e below s₁ m 0 #[] [] _
    refine st1 _ ?_
    show Sx p e below T1 m 3 #[] [(.ref el)] _
    jvm_step X1.here [X1.here.top, hx, (hb hby d_jdk_40_m_36_3), X1.method', Bd.returns, Value.isRef, FieldType.isReference]
    first | (intro acts; rw [hr _ acts rfl rfl rfl]) | rw [hr _ _ rfl rfl rfl]
    exact Steps.refl _
  · show QV (some (.ref el)) h0 n0 _ T1.heap _
    rw [e1]
    exact ⟨rfl, N0, rfl⟩
theorem ef_rmIE (m : MethodId) (x0 : Addr) : entryFrame m #[(.ref x0)] 1 = mkF m 0 #[rv x0] [] := by first | (simp [entryFrame, mkF, argsToLocals, Value.category]; done) | rfl
set_option maxRecDepth 65536 in
set_option maxHeartbeats 40000000 in
theorem rmIE (l : Launch) (Z : State) (a0 : Array Value) (hw : ∀ d ∈ tables_1, d.before a0 Z = true) (ws : List Jvm.Cond) (a : Addr) (n : Int32) (h0 : Heap) (n0 : Nat) (Z0 : n0 ≤ h0.size) (hF : Fld Z h0 a "java/util/ArrayList" "size" "I" (.int n)) :
    MetFree l (⟨"java/util/ArrayList", "isEmpty", "()Z"⟩ : MethodName) (head1 (Jvm.Cond.code (⟨"java/util/ArrayList", "isEmpty", "()Z"⟩ : MethodName) jdk_38_method_9_code 1 (some .boolean) :: ws) ({ frames := 0, cells := 0, slots := 0, locals := 0 } : Room)) (fun aa_ UU_ => aa_ = #[(.ref a)] ∧ Z.Warmed39 UU_.vm ∧ UU_.heap = h0) (fun _ _ _ _ _ => True) (fun _ UU_ oo_ UE_ => ∃ vv_ LL_, oo_ = .returned vv_ ∧ QV (some (.int (if n = 0 then (1 : Int32) else 0))) h0 n0 vv_ UE_.heap LL_ ∧ FrameEnd UU_ oo_ UE_ LL_ ({ frames := 0, cells := 0, slots := 0, locals := 0 } : Room).cells ({ frames := 0, cells := 0, slots := 0, locals := 0 } : Room).slots) := by
  refine MetFree.of_bodySF (plainFor_of_name pn_7) hisR ?_
  intro p e s m args below meth c s₁ Bd hml0 hP hK
  obtain ⟨rfl, hZ, hh⟩ := hP
  have hx := Bd.exec
  have hby := Bd.bytes
  have hml : c.maxLocals = 1 := hml0
  have hown : s.vm.findClass "java/util/ArrayList" = some m.cls := findClass_of_methodNamed Bd.named
  have hnm := (name_of_methodNamed Bd.named Bd.method).1
  have X0 : Stand p l e ({ frames := 0, cells := 0, slots := 0, locals := 0 } : Room) s m #[(.ref a)] below meth c s₁ [] 0 0 := Stand.of_body Bd
  have e0 : s₁.heap = h0 := by rw [← hh, Bd.state]; rfl
  have N0 := Fr.nil n0
  have pre0 : ∀ tg, Steps p.tables e below (s₁.setTop (mkF m 0 #[rv a] [])) tg → Steps p.tables e below (s₁.setTop (entryFrame m #[(.ref a)] 1)) tg := fun tg kq_ => castTop (ef_rmIE m a) kq_
  obtain ⟨T1, X1, e1, st1⟩ := getF X0 hx hZ hown (host := "") (Or.inl (w_ hw 82 rfl)) Via.refl e0 hF (g := (mkF m 1 #[rv a] [(.ref a)])) rfl rfl (hb hby d_jdk_38_m_9_1)
  have R2 : ∀ tg, Sx p e below T1 m 4 #[rv a] [(.int n)] tg → Sx p e below s₁ m 0 #[rv a] [] tg := by
    intro tg kt
    refine XS.aloadN X0.here hx rfl (hb hby d_jdk_38_m_9_0) rfl rfl ?_
    refine st1 _ ?_
    show Sx p e below T1 m 4 #[rv a] [(.int n)] _
    exact kt
  by_cases hc4_3 : n = (0 : Int32)
  · obtain ⟨fs, hr, hrun, hended, hW, hsame⟩ := X1.leave (v := some (.int 1)) (fun h => by rw [Bd.returns] at h; cases h)
    refine ⟨_, _, pre0 _ (R2 _ ?_), hrun, hended, _, _, rfl, ?_, ⟨_, rfl⟩, hW, hsame.mono (by decide) (by decide)⟩
    · show Sx p e below T1 m 4 #[rv a] [(.int n)] _
      refine XS.ifNo X1.here hx rfl (hb hby d_jdk_38_m_9_4) rfl ((if0 _ _).trans (teq hc4_3).2) ?_
      refine XS.iconst X1.here hx rfl (hb hby d_jdk_38_m_9_7) ?_
      refine XS.goto X1.here hx rfl (pc0 := 8) (pc' := 12) rfl (hb hby d_jdk_38_m_9_8) (by decide) (by decide) ?_
      show Sx p e below T1 m 12 #[rv a] [(.int 1)] _
      exact retN X1 hx (t := .boolean) Bd.returns (by simp) (hb hby d_jdk_38_m_9_12) hr
    · show QV (some (.int (if n = 0 then (1 : Int32) else 0))) h0 n0 _ T1.heap _
      rw [e1]
      exact ⟨by rw [if_pos hc4_3], N0, rfl⟩
  · obtain ⟨fs, hr, hrun, hended, hW, hsame⟩ := X1.leave (v := some (.int 0)) (fun h => by rw [Bd.returns] at h; cases h)
    refine ⟨_, _, pre0 _ (R2 _ ?_), hrun, hended, _, _, rfl, ?_, ⟨_, rfl⟩, hW, hsame.mono (by decide) (by decide)⟩
    · show Sx p e below T1 m 4 #[rv a] [(.int n)] _
      refine XS.ifYes X1.here hx rfl (pc0 := 4) (pc' := 11) rfl (hb hby d_jdk_38_m_9_4) rfl ((if0 _ _).trans (feq hc4_3).2) (by decide) (by decide) ?_
      refine XS.iconst X1.here hx rfl (hb hby d_jdk_38_m_9_11) ?_
      show Sx p e below T1 m 12 #[rv a] [(.int 0)] _
      exact retN X1 hx (t := .boolean) Bd.returns (by simp) (hb hby d_jdk_38_m_9_12) hr
    · show QV (some (.int (if n = 0 then (1 : Int32) else 0))) h0 n0 _ T1.heap _
      rw [e1]
      exact ⟨by rw [if_neg hc4_3], N0, rfl⟩
theorem ef_rmT1 (m : MethodId) (x0 : Addr) : entryFrame m #[(.ref x0)] 1 = mkF m 0 #[rv x0] [] := by first | (simp [entryFrame, mkF, argsToLocals, Value.category]; done) | rfl
set_option maxRecDepth 65536 in
set_option maxHeartbeats 40000000 in
theorem rmT1 (l : Launch) (Z : State) (a0 : Array Value) (hw : ∀ d ∈ tables_1, d.before a0 Z = true) (ws : List Jvm.Cond) (a ea pa0 : Addr) (ke : ClassId) (mc : Int32) (h0 : Heap) (n0 : Nat) (Z0 : n0 ≤ h0.size) (hC : ALs Z n0 h0 a ea ke mc (1 : Int32) [.ref pa0, .null, .null, .null, .null, .null, .null, .null, .null, .null]) (hx0 : Exa Z h0 pa0 "com/example/clausemap/clausemap/outline/Part") (hM : ∃ (c : ClassId) (k : Class) (m : Addr), Z.vm.findClass "[Ljava/lang/Object;" = some c ∧ Z.vm.classes[c]? = some k ∧ k.mirror = some m) :
    MetFree l (⟨"java/util/ArrayList", "toArray", "()[Ljava/lang/Object;"⟩ : MethodName) (head1 (Jvm.Cond.code (⟨"java/util/ArrayList", "toArray", "()[Ljava/lang/Object;"⟩ : MethodName) jdk_38_method_16_code 1 (some (.array (.object "java/lang/Object"))) :: ws) ({ frames := 4, cells := 1, slots := 1, locals := 77 } : Room)) (fun aa_ UU_ => aa_ = #[(.ref a)] ∧ Z.Warmed39 UU_.vm ∧ UU_.heap = h0) (fun _ _ _ _ _ => True) (fun _ UU_ oo_ UE_ => ∃ vv_ LL_, oo_ = .returned vv_ ∧ QTA Z 1 [.ref pa0, .null, .null, .null, .null, .null, .null, .null, .null, .null] h0 n0 vv_ UE_.heap LL_ ∧ FrameEnd UU_ oo_ UE_ LL_ ({ frames := 4, cells := 1, slots := 1, locals := 77 } : Room).cells ({ frames := 4, cells := 1, slots := 1, locals := 77 } : Room).slots) := by
  refine MetFree.of_bodySF (plainFor_of_name pn_7) hisR ?_
  intro p e s m args below meth c s₁ Bd hml0 hP hK
  obtain ⟨rfl, hZ, hh⟩ := hP
  have hx := Bd.exec
  have hby := Bd.bytes
  have hml : c.maxLocals = 1 := hml0
  have hown : s.vm.findClass "java/util/ArrayList" = some m.cls := findClass_of_methodNamed Bd.named
  have hnm := (name_of_methodNamed Bd.named Bd.method).1
  have X0 : Stand p l e ({ frames := 4, cells := 1, slots := 1, locals := 77 } : Room) s m #[(.ref a)] below meth c s₁ [] 0 0 := Stand.of_body Bd
  have e0 : s₁.heap = h0 := by rw [← hh, Bd.state]; rfl
  have N0 := Fr.nil n0
  have K0 : Keep h0 h0 [] := Keep.refl h0 _
  have pre0 : ∀ tg, Steps p.tables e below (s₁.setTop (mkF m 0 #[rv a] [])) tg → Steps p.tables e below (s₁.setTop (entryFrame m #[(.ref a)] 1)) tg := fun tg kq_ => castTop (ef_rmT1 m a) kq_
  obtain ⟨⟨hE, hFm, hFe, hFs⟩, hVe, hXe, hO, hG, hge, hn2⟩ := hC
  obtain ⟨T1, X1, e1, st1⟩ := getF X0 hx hZ hown (host := "") (Or.inl (w_ hw 50 rfl)) Via.refl e0 hFe (g := (mkF m 1 #[rv a] [(.ref a)])) rfl rfl (hb hby d_jdk_38_m_16_1)
  obtain ⟨T2, X2, e2, st2⟩ := getF X1 hx hZ hown (host := "") (Or.inl (w_ hw 82 rfl)) Via.refl e1 hFs (g := (mkF m 5 #[rv a] [(.ref a), (.ref ea)])) rfl rfl (hb hby d_jdk_38_m_16_5)
  have hel3 : ∀ i, ([(.ref pa0), .null, .null, .null, .null, .null, .null, .null, .null, .null] : List Value).getD i .null = .null ∨ ∃ b : Addr, ([(.ref pa0), .null, .null, .null, .null, .null, .null, .null, .null, .null] : List Value).getD i .null = .ref b ∧ Ins Z h0 b "java/lang/Object" true := fun i => by
    match i with
    | 0 => exact Or.inr ⟨_, rfl, (Ins.of_exa hx0 (w_ hw 142 rfl))⟩
    | 1 => exact Or.inl rfl
    | 2 => exact Or.inl rfl
    | 3 => exact Or.inl rfl
    | 4 => exact Or.inl rfl
    | 5 => exact Or.inl rfl
    | 6 => exact Or.inl rfl
    | 7 => exact Or.inl rfl
    | 8 => exact Or.inl rfl
    | 9 => exact Or.inl rfl
    | _ + 10 => exact Or.inl rfl
  obtain ⟨T3, h3, k3, X3, e3, E3, A3, EX3, O3, st3⟩ := own_copyOf X2 hx hZ hw hown (w_ hw 151 rfl) e2 hM hVe hXe hO (Nat.le_of_ble_eq_true rfl) hel3 (n := (1 : Int32)) (by decide) (K := 1) (by decide) (by decide) (by decide) (g := (mkF m 8 #[rv a] [(.int 1), (.ref ea)])) rfl (by rw [hml]; rfl) rfl (hb hby d_jdk_38_m_16_8) (by decide) (W := 0) (by show 2 * 0 + _ ≤ _; exact Nat.le_of_eq rfl) (by decide) (by decide) (by decide)
  obtain ⟨b3, g3⟩ : ∃ z, z = h0.size := ⟨_, rfl⟩
  rw [← g3] at A3 EX3 st3
  have gb_b3 : n0 ≤ b3 := Nat.le_trans Z0 (Nat.le_of_eq g3.symm)
  have sz_b3 : h0.size ≤ b3 := Nat.le_trans K0.1 (Nat.le_of_eq g3.symm)
  have Z3 : n0 ≤ h3.size := Nat.le_trans Z0 E3.1
  have K3 : Keep h0 h3 [] := K0.ext E3
  obtain ⟨fs, hr, hrun, hended, hW, hsame⟩ := X3.leave (v := some (.ref b3)) (fun h => by rw [Bd.returns] at h; cases h)
  refine ⟨_, _, pre0 _ ?_, hrun, hended, _, _, rfl, ?_, ⟨_, rfl⟩, hW, hsame.mono (by decide) (by decide)⟩
  · show Sx p e below s₁ m 0 #[rv a] [] _
    refine XS.aloadN X0.here hx rfl (hb hby d_jdk_38_m_16_0) rfl rfl ?_
    refine st1 _ ?_
    refine XS.aloadN X1.here hx rfl (hb hby d_jdk_38_m_16_4) rfl rfl ?_
    refine st2 _ ?_
    refine st3 _ ?_
    show Sx p e below T3 m 11 #[rv a] [(.ref b3)] _
    jvm_step X3.here [X3.here.top, hx, (hb hby d_jdk_38_m_16_11), X3.method', Bd.returns, Value.isRef, FieldType.isReference]
    first | (intro acts; rw [hr _ acts rfl rfl rfl]) | rw [hr _ _ rfl rfl rfl]
    exact Steps.refl _
  · show QTA Z 1 [.ref pa0, .null, .null, .null, .null, .null, .null, .null, .null, .null] h0 n0 _ T3.heap _
    rw [e3]
    exact ⟨b3, _, rfl, N0, K3, A3⟩
theorem ef_rmC1 (m : MethodId) (x0 : Addr) : entryFrame m #[(.ref x0)] 2 = mkF m 0 #[rv x0, u_] [] := by first | (simp [entryFrame, mkF, argsToLocals, Value.category]; done) | rfl
set_option maxRecDepth 65536 in
set_option maxHeartbeats 40000000 in
theorem rmC1 (l : Launch) (Z : State) (a0 : Array Value) (hw : ∀ d ∈ tables_1, d.before a0 Z = true) (ws : List Jvm.Cond) (a ea pa0 em : Addr) (ke : ClassId) (mc : Int32) (h0 : Heap) (n0 : Nat) (Z0 : n0 ≤ h0.size) (hC : ALs Z n0 h0 a ea ke mc (1 : Int32) [.ref pa0, .null, .null, .null, .null, .null, .null, .null, .null, .null]) (hx0 : Exa Z h0 pa0 "com/example/clausemap/clausemap/outline/Part") (hM : ∃ (c : ClassId) (k : Class) (m : Addr), Z.vm.findClass "[Ljava/lang/Object;" = some c ∧ Z.vm.classes[c]? = some k ∧ k.mirror = some m) (hO1 : Old Z n0 h0) (hSe : Sta Z Z.heap "java/util/ImmutableCollections" "EMPTY" "Ljava/lang/Object;" (.ref em)) :
    MetFree l (⟨"java/util/ImmutableCollections", "listCopy", "(Ljava/util/Collection;)Ljava/util/List;"⟩ : MethodName) (head1 (Jvm.Cond.code (⟨"java/util/ImmutableCollections", "listCopy", "(Ljava/util/Collection;)Ljava/util/List;"⟩ : MethodName) jdk_56_method_3_code 2 (some (.object "java/util/List")) :: ws) ({ frames := 6, cells := 2, slots := 3, locals := 89 } : Room)) (fun aa_ UU_ => aa_ = #[(.ref a)] ∧ Z.Warmed39 UU_.vm ∧ UU_.heap = h0) (fun _ _ _ _ _ => True) (fun _ UU_ oo_ UE_ => ∃ vv_ LL_, oo_ = .returned vv_ ∧ QL2 Z pa0 em h0 n0 vv_ UE_.heap LL_ ∧ FrameEnd UU_ oo_ UE_ LL_ ({ frames := 6, cells := 2, slots := 3, locals := 89 } : Room).cells ({ frames := 6, cells := 2, slots := 3, locals := 89 } : Room).slots) := by
  refine MetFree.of_bodySF (plainFor_of_name pn_10) hisR ?_
  intro p e s m args below meth c s₁ Bd hml0 hP hK
  obtain ⟨rfl, hZ, hh⟩ := hP
  have hx := Bd.exec
  have hby := Bd.bytes
  have hml : c.maxLocals = 2 := hml0
  have hown : s.vm.findClass "java/util/ImmutableCollections" = some m.cls := findClass_of_methodNamed Bd.named
  have hnm := (name_of_methodNamed Bd.named Bd.method).1
  have X0 : Stand p l e ({ frames := 6, cells := 2, slots := 3, locals := 89 } : Room) s m #[(.ref a)] below meth c s₁ [] 0 0 := Stand.of_body Bd
  have e0 : s₁.heap = h0 := by rw [← hh, Bd.state]; rfl
  have N0 := Fr.nil n0
  have K0 : Keep h0 h0 [] := Keep.refl h0 _
  have pre0 : ∀ tg, Steps p.tables e below (s₁.setTop (mkF m 0 #[rv a, u_] [])) tg → Steps p.tables e below (s₁.setTop (entryFrame m #[(.ref a)] 2)) tg := fun tg kq_ => castTop (ef_rmC1 m a) kq_
  obtain ⟨⟨hE, hFm, hFe, hFs⟩, hVe, hXe, hO, hG, hge, hn2⟩ := hC
  obtain ⟨T1, X1, e1, st1⟩ := instNo X0 hx hZ hown (w_ hw 67 rfl) e0 hE (own_notA (w_ hw 68 rfl) (w_ hw 69 rfl) (w_ hw 70 rfl) (w_ hw 71 rfl) (w_ hw 221 rfl) (by decide) (by decide) (by decide) (by decide)) (g := (mkF m 1 #[rv a, u_] [(.ref a)])) rfl rfl (hb hby d_jdk_56_m_3_1)
  obtain ⟨T2, X2, e2, st2⟩ := instNo X1 hx hZ hown (w_ hw 72 rfl) e1 hE (own_notA (w_ hw 68 rfl) (w_ hw 69 rfl) (w_ hw 70 rfl) (w_ hw 71 rfl) (w_ hw 184 rfl) (by decide) (by decide) (by decide) (by decide)) (g := (mkF m 8 #[rv a, u_] [(.ref a)])) rfl rfl (hb hby d_jdk_56_m_3_8)
  obtain ⟨cq3, kq3, q3a, q3b, q3c⟩ := isOf hZ e2 hE
  obtain ⟨_, _, ⟨T3, L3, k3, n3⟩, -, X3, ⟨Lc3, hQ3, l3, y3, z3⟩, st3⟩ := X2.interfaceBack hx (xi := (⟨"java/util/Collection", "isEmpty", "()Z"⟩ : MethodName)) (y := (⟨"java/util/ArrayList", "isEmpty", "()Z"⟩ : MethodName)) hown (mvT hZ (w_ hw 73 rfl)) (mvT hZ (w_ hw 74 rfl)) (mvT hZ (w_ hw 75 rfl)) (mvT hZ (w_ hw 76 rfl)) (mvT hZ (w_ hw 77 rfl)) (mvT hZ (w_ hw 78 rfl)) (mvT hZ (w_ hw 79 rfl)) (mvT hZ (w_ hw 80 rfl)) (by decide) (backOf (W := 0) (rmIE l Z a0 hw [] a (1 : Int32) h0 n0 Z0 hFs) hZ (w_ hw 81 rfl) (w_ hw 30 rfl) (by decide) (by decide)) q3a q3b q3c (g := (mkF m 32 #[rv a, u_] [(.ref a)])) rfl (by rw [hml]; rfl) (Steps.refl _) (argsL := []) (rest := []) (lenOf pd_10 rfl) rfl (by show 2 * 0 + _ ≤ _; exact Nat.le_of_eq rfl) (hb hby d_jdk_56_m_3_32) (fun _ _ => ⟨rfl, e2, (by decide : 0 + 0 ≤ _), (by decide : 0 + 0 ≤ _)⟩)
  dsimp only [Pt.U, Pt.locs, Pt.cells, Pt.slots] at X3 l3 y3 z3 st3 hQ3
  subst l3 y3 z3
  obtain ⟨hv3, N3q, r3⟩ := hQ3
  rw [if_neg (by decide)] at hv3
  subst hv3
  have N3 := Fr.app N0 N3q
  obtain ⟨cq4, kq4, q4a, q4b, q4c⟩ := isOf hZ r3 hE
  obtain ⟨_, _, ⟨T4, L4, k4, n4⟩, -, X4, ⟨Lc4, hQ4, l4, y4, z4⟩, st4⟩ := X3.interfaceBack hx (xi := (⟨"java/util/Collection", "toArray", "()[Ljava/lang/Object;"⟩ : MethodName)) (y := (⟨"java/util/ArrayList", "toArray", "()[Ljava/lang/Object;"⟩ : MethodName)) hown (mvT hZ (w_ hw 143 rfl)) (mvT hZ (w_ hw 144 rfl)) (mvT hZ (w_ hw 145 rfl)) (mvT hZ (w_ hw 146 rfl)) (mvT hZ (w_ hw 147 rfl)) (mvT hZ (w_ hw 148 rfl)) (mvT hZ (w_ hw 149 rfl)) (mvT hZ (w_ hw 80 rfl)) (by decide) (backOf (W := 0) (rmT1 l Z a0 hw [] a ea pa0 ke mc h0 n0 Z0 ⟨⟨hE, hFm, hFe, hFs⟩, hVe, hXe, hO, hG, hge, hn2⟩ hx0 hM) hZ (w_ hw 150 rfl) (w_ hw 30 rfl) (by decide) (by decide)) q4a q4b q4c (g := (mkF m 45 #[rv a, u_] [(.ref a)])) rfl (by rw [hml]; rfl) (Steps.refl _) (argsL := []) (rest := []) (lenOf pd_3 rfl) rfl (by show 2 * 0 + _ ≤ _; exact Nat.le_of_eq rfl) (hb hby d_jdk_56_m_3_45) (fun _ _ => ⟨rfl, r3, (by decide : 0 + 1 ≤ _), (by decide : 0 + 1 ≤ _)⟩)
  dsimp only [Pt.U, Pt.locs, Pt.cells, Pt.slots] at X4 l4 y4 z4 st4 hQ4
  subst l4 y4 z4
  obtain ⟨ba4, ka4, hv4, N4q, kp4, va4⟩ := hQ4
  subst hv4
  have N4 := Fr.app N3 N4q
  have Z4 : n0 ≤ T4.heap.size := Nat.le_trans Z0 kp4.1
  have K4 : Keep h0 T4.heap [] := K0.trans kp4 all0
  have f5 := (hx0.keep kp4)
  have f6 := (hO1.keep kp4 all0)
  obtain ⟨_, _, ⟨T7, L7, k7, n7⟩, -, X7, ⟨Lc7, hQ7, l7, y7, z7⟩, st7⟩ := Jvm.LawKit.callS X4 hx (y := (⟨"java/util/List", "of", "([Ljava/lang/Object;)Ljava/util/List;"⟩ : MethodName)) hown (mvT hZ (w_ hw 173 rfl)) (mvT hZ (w_ hw 174 rfl)) (mvT hZ (w_ hw 61 rfl)) (mvT hZ (w_ hw 175 rfl)) (by decide) (backOf (W := 0) (rmO1 l Z a0 hw [] ba4 pa0 em ka4 T4.heap n0 Z4 va4 f5 f6 hSe) hZ (w_ hw 175 rfl) (w_ hw 61 rfl) (by decide) (by decide)) (g := (mkF m 50 #[rv a, u_] [(.ref ba4)])) rfl (by rw [hml]; rfl) (argsL := [(.ref ba4)]) (rest := []) (lenOf pd_9 rfl) rfl (by show 2 * 0 + _ ≤ _; exact Nat.le_of_eq rfl) (hb hby d_jdk_56_m_3_50) (fun _ _ => ⟨rfl, rfl, (by decide : 1 + 1 ≤ _), (by decide : 1 + 2 ≤ _)⟩)
  dsimp only [Pt.U, Pt.locs, Pt.cells, Pt.slots] at X7 l7 y7 z7 st7 hQ7
  subst l7 y7 z7
  obtain ⟨lb7, hv7, N7q, kp7, lv7⟩ := hQ7
  subst hv7
  have N7 := Fr.app N4 N7q
  have Z7 : n0 ≤ T7.heap.size := Nat.le_trans Z4 kp7.1
  have K7 : Keep h0 T7.heap [] := K4.trans kp7 all0
  obtain ⟨fs, hr, hrun, hended, hW, hsame⟩ := X7.leave (v := some (.ref lb7)) (fun h => by rw [Bd.returns] at h; cases h)
  refine ⟨_, _, pre0 _ ?_, hrun, hended, _, _, rfl, ?_, ⟨_, rfl⟩, hW, hsame.mono (by decide) (by decide)⟩
  · show Sx p e below s₁ m 0 #[rv a, u_] [] _
    refine XS.aloadN X0.here hx rfl (hb hby d_jdk_56_m_3_0) rfl rfl ?_
    refine st1 _ ?_
    refine XS.ifNo X1.here hx rfl (hb hby d_jdk_56_m_3_4) rfl ((if0 _ _).trans (teq (by decide : (0 : Int32) = (0 : Int32))).2) ?_
    refine XS.aloadN X1.here hx rfl (hb hby d_jdk_56_m_3_7) rfl rfl ?_
    refine st2 _ ?_
    show Sx p e below T2 m 11 #[rv a, u_] [(.int 0)] _
    refine XS.ifYes X2.here hx rfl (pc0 := 11) (pc' := 31) rfl (hb hby d_jdk_56_m_3_11) rfl ((if0 _ _).trans (teq (by decide : (0 : Int32) = (0 : Int32))).1) (by decide) (by decide) ?_
    refine XS.aloadN X2.here hx rfl (hb hby d_jdk_56_m_3_31) rfl rfl ?_
    refine st3.trans ?_
    refine XS.ifYes X3.here hx rfl (pc0 := 37) (pc' := 44) rfl (hb hby d_jdk_56_m_3_37) rfl ((if0 _ _).trans (teq (by decide : (0 : Int32) = (0 : Int32))).1) (by decide) (by decide) ?_
    refine XS.aloadN X3.here hx rfl (hb hby d_jdk_56_m_3_44) rfl rfl ?_
    show Sx p e below T3 m 45 #[rv a, u_] [(.ref a)] _
    refine st4.trans ?_
    refine st7 _ ?_
    show Sx p e below T7 m 53 #[rv a, u_] [(.ref lb7)] _
    jvm_step X7.here [X7.here.top, hx, (hb hby d_jdk_56_m_3_53), X7.method', Bd.returns, Value.isRef, FieldType.isReference]
    first | (intro acts; rw [hr _ acts rfl rfl rfl]) | rw [hr _ _ rfl rfl rfl]
    exact Steps.refl _
  · show QL2 Z pa0 em h0 n0 _ T7.heap _
    exact ⟨lb7, rfl, N7, K7, lv7⟩
theorem ef_rmY1 (m : MethodId) (x0 : Addr) : entryFrame m #[(.ref x0)] 1 = mkF m 0 #[rv x0] [] := by first | (simp [entryFrame, mkF, argsToLocals, Value.category]; done) | rfl
set_option maxRecDepth 65536 in
set_option maxHeartbeats 40000000 in
theorem rmY1 (l : Launch) (Z : State) (a0 : Array Value) (hw : ∀ d ∈ tables_1, d.before a0 Z = true) (ws : List Jvm.Cond) (a ea pa0 em : Addr) (ke : ClassId) (mc : Int32) (h0 : Heap) (n0 : Nat) (Z0 : n0 ≤ h0.size) (hC : ALs Z n0 h0 a ea ke mc (1 : Int32) [.ref pa0, .null, .null, .null, .null, .null, .null, .null, .null, .null]) (hx0 : Exa Z h0 pa0 "com/example/clausemap/clausemap/outline/Part") (hM : ∃ (c : ClassId) (k : Class) (m : Addr), Z.vm.findClass "[Ljava/lang/Object;" = some c ∧ Z.vm.classes[c]? = some k ∧ k.mirror = some m) (hO1 : Old Z n0 h0) (hSe : Sta Z Z.heap "java/util/ImmutableCollections" "EMPTY" "Ljava/lang/Object;" (.ref em)) :
    MetFree l (⟨"java/util/List", "copyOf", "(Ljava/util/Collection;)Ljava/util/List;"⟩ : MethodName) (head1 (Jvm.Cond.code (⟨"java/util/List", "copyOf", "(Ljava/util/Collection;)Ljava/util/List;"⟩ : MethodName) jdk_40_method_48_code 1 (some (.object "java/util/List")) :: ws) ({ frames := 7, cells := 2, slots := 3, locals := 102 } : Room)) (fun aa_ UU_ => aa_ = #[(.ref a)] ∧ Z.Warmed39 UU_.vm ∧ UU_.heap = h0) (fun _ _ _ _ _ => True) (fun _ UU_ oo_ UE_ => ∃ vv_ LL_, oo_ = .returned vv_ ∧ QL2 Z pa0 em h0 n0 vv_ UE_.heap LL_ ∧ FrameEnd UU_ oo_ UE_ LL_ ({ frames := 7, cells := 2, slots := 3, locals := 102 } : Room).cells ({ frames := 7, cells := 2, slots := 3, locals := 102 } : Room).slots) := by
  refine MetFree.of_bodySF (plainFor_of_name pn_11) hisR ?_
  intro p e s m args below meth c s₁ Bd hml0 hP hK
  obtain ⟨rfl, hZ, hh⟩ := hP
  have hx := Bd.exec
  have hby := Bd.bytes
  have hml : c.maxLocals = 1 := hml0
  have hown : s.vm.findClass "java/util/List" = some m.cls := findClass_of_methodNamed Bd.named
  have hnm := (name_of_methodNamed Bd.named Bd.method).1
  have X0 : Stand p l e ({ frames := 7, cells := 2, slots := 3, locals := 102 } : Room) s m #[(.ref a)] below meth c s₁ [] 0 0 := Stand.of_body Bd
  have e0 : s₁.heap = h0 := by rw [← hh, Bd.state]; rfl
  have N0 := Fr.nil n0
  have K0 : Keep h0 h0 [] := Keep.refl h0 _
  have pre0 : ∀ tg, Steps p.tables e below (s₁.setTop (mkF m 0 #[rv a] [])) tg → Steps p.tables e below (s₁.setTop (entryFrame m #[(.ref a)] 1)) tg := fun tg kq_ => castTop (ef_rmY1 m a) kq_
  obtain ⟨⟨hE, hFm, hFe, hFs⟩, hVe, hXe, hO, hG, hge, hn2⟩ := hC
  obtain ⟨_, _, ⟨T1, L1, k1, n1⟩, -, X1, ⟨Lc1, hQ1, l1, y1, z1⟩, st1⟩ := Jvm.LawKit.callS X0 hx (y := (⟨"java/util/ImmutableCollections", "listCopy", "(Ljava/util/Collection;)Ljava/util/List;"⟩ : MethodName)) hown (mvT hZ (w_ hw 63 rfl)) (mvT hZ (w_ hw 64 rfl)) (mvT hZ (w_ hw 65 rfl)) (mvT hZ (w_ hw 66 rfl)) (by decide) (backOf (W := 0) (rmC1 l Z a0 hw [] a ea pa0 em ke mc h0 n0 Z0 ⟨⟨hE, hFm, hFe, hFs⟩, hVe, hXe, hO, hG, hge, hn2⟩ hx0 hM hO1 hSe) hZ (w_ hw 66 rfl) (w_ hw 65 rfl) (by decide) (by decide)) (g := (mkF m 1 #[rv a] [(.ref a)])) rfl (by rw [hml]; rfl) (argsL := [(.ref a)]) (rest := []) (lenOf pd_11 rfl) rfl (by show 2 * 0 + _ ≤ _; exact Nat.le_of_eq rfl) (hb hby d_jdk_40_m_48_1) (fun _ _ => ⟨rfl, e0, (by decide : 0 + 2 ≤ _), (by decide : 0 + 3 ≤ _)⟩)
  dsimp only [Pt.U, Pt.locs, Pt.cells, Pt.slots] at X1 l1 y1 z1 st1 hQ1
  subst l1 y1 z1
  obtain ⟨lb1, hv1, N1q, kp1, lv1⟩ := hQ1
  subst hv1
  have N1 := Fr.app N0 N1q
  have Z1 : n0 ≤ T1.heap.size := Nat.le_trans Z0 kp1.1
  have K1 : Keep h0 T1.heap [] := K0.trans kp1 all0
  obtain ⟨fs, hr, hrun, hended, hW, hsame⟩ := X1.leave (v := some (.ref lb1)) (fun h => by rw [Bd.returns] at h; cases h)
  refine ⟨_, _, pre0 _ ?_, hrun, hended, _, _, rfl, ?_, ⟨_, rfl⟩, hW, hsame.mono (by decide) (by decide)⟩
  · show Sx p e below s₁ m 0 #[rv a] [] _
    refine XS.aloadN X0.here hx rfl (hb hby d_jdk_40_m_48_0) rfl rfl ?_
    refine st1 _ ?_
    show Sx p e below T1 m 4 #[rv a] [(.ref lb1)] _
    jvm_step X1.here [X1.here.top, hx, (hb hby d_jdk_40_m_48_4), X1.method', Bd.returns, Value.isRef, FieldType.isReference]
    first | (intro acts; rw [hr _ acts rfl rfl rfl]) | rw [hr _ _ rfl rfl rfl]
    exact Steps.refl _
  · show QL2 Z pa0 em h0 n0 _ T1.heap _
    exact ⟨lb1, rfl, N1, K1, lv1⟩
theorem ef_rmT2 (m : MethodId) (x0 : Addr) : entryFrame m #[(.ref x0)] 1 = mkF m 0 #[rv x0] [] := by first | (simp [entryFrame, mkF, argsToLocals, Value.category]; done) | rfl
set_option maxRecDepth 65536 in
set_option maxHeartbeats 40000000 in
theorem rmT2 (l : Launch) (Z : State) (a0 : Array Value) (hw : ∀ d ∈ tables_1, d.before a0 Z = true) (ws : List Jvm.Cond) (a ea pa0 pa1 : Addr) (ke : ClassId) (mc : Int32) (h0 : Heap) (n0 : Nat) (Z0 : n0 ≤ h0.size) (hC : ALs Z n0 h0 a ea ke mc (2 : Int32) [.ref pa0, .ref pa1, .null, .null, .null, .null, .null, .null, .null, .null]) (hx0 : Exa Z h0 pa0 "com/example/clausemap/clausemap/outline/Part") (hx1 : Exa Z h0 pa1 "com/example/clausemap/clausemap/outline/Part") (hM : ∃ (c : ClassId) (k : Class) (m : Addr), Z.vm.findClass "[Ljava/lang/Object;" = some c ∧ Z.vm.classes[c]? = some k ∧ k.mirror = some m) :
    MetFree l (⟨"java/util/ArrayList", "toArray", "()[Ljava/lang/Object;"⟩ : MethodName) (head1 (Jvm.Cond.code (⟨"java/util/ArrayList", "toArray", "()[Ljava/lang/Object;"⟩ : MethodName) jdk_38_method_16_code 1 (some (.array (.object "java/lang/Object"))) :: ws) ({ frames := 4, cells := 1, slots := 2, locals := 77 } : Room)) (fun aa_ UU_ => aa_ = #[(.ref a)] ∧ Z.Warmed39 UU_.vm ∧ UU_.heap = h0) (fun _ _ _ _ _ => True) (fun _ UU_ oo_ UE_ => ∃ vv_ LL_, oo_ = .returned vv_ ∧ QTA Z 2 [.ref pa0, .ref pa1, .null, .null, .null, .null, .null, .null, .null, .null] h0 n0 vv_ UE_.heap LL_ ∧ FrameEnd UU_ oo_ UE_ LL_ ({ frames := 4, cells := 1, slots := 2, locals := 77 } : Room).cells ({ frames := 4, cells := 1, slots := 2, locals := 77 } : Room).slots) := by
  refine MetFree.of_bodySF (plainFor_of_name pn_7) hisR ?_
  intro p e s m args below meth c s₁ Bd hml0 hP hK
  obtain ⟨rfl, hZ, hh⟩ := hP
  have hx := Bd.exec
  have hby := Bd.bytes
  have hml : c.maxLocals = 1 := hml0
  have hown : s.vm.findClass "java/util/ArrayList" = some m.cls := findClass_of_methodNamed Bd.named
  have hnm := (name_of_methodNamed Bd.named Bd.method).1
  have X0 : Stand p l e ({ frames := 4, cells := 1, slots := 2, locals := 77 } : Room) s m #[(.ref a)] below meth c s₁ [] 0 0 := Stand.of_body Bd
  have e0 : s₁.heap = h0 := by rw [← hh, Bd.state]; rfl
  have N0 := Fr.nil n0
  have K0 : Keep h0 h0 [] := Keep.refl h0 _
  have pre0 : ∀ tg, Steps p.tables e below (s₁.setTop (mkF m 0 #[rv a] [])) tg → Steps p.tables e below (s₁.setTop (entryFrame m #[(.ref a)] 1)) tg := fun tg kq_ => castTop (ef_rmT2 m a) kq_
  obtain ⟨⟨hE, hFm, hFe, hFs⟩, hVe, hXe, hO, hG, hge, hn2⟩ := hC
  obtain ⟨T1, X1, e1, st1⟩ := getF X0 hx hZ hown (host := "") (Or.inl (w_ hw 50 rfl)) Via.refl e0 hFe (g := (mkF m 1 #[rv a] [(.ref a)])) rfl rfl (hb hby d_jdk_38_m_16_1)
  obtain ⟨T2, X2, e2, st2⟩ := getF X1 hx hZ hown (host := "") (Or.inl (w_ hw 82 rfl)) Via.refl e1 hFs (g := (mkF m 5 #[rv a] [(.ref a), (.ref ea)])) rfl rfl (hb hby d_jdk_38_m_16_5)
  have hel3 : ∀ i, ([(.ref pa0), (.ref pa1), .null, .null, .null, .null, .null, .null, .null, .null] : List Value).getD i .null = .null ∨ ∃ b : Addr, ([(.ref pa0), (.ref pa1), .null, .null, .null, .null, .null, .null, .null, .null] : List Value).getD i .null = .ref b ∧ Ins Z h0 b "java/lang/Object" true := fun i => by
    match i with
    | 0 => exact Or.inr ⟨_, rfl, (Ins.of_exa hx0 (w_ hw 142 rfl))⟩
    | 1 => exact Or.inr ⟨_, rfl, (Ins.of_exa hx1 (w_ hw 142 rfl))⟩
    | 2 => exact Or.inl rfl
    | 3 => exact Or.inl rfl
    | 4 => exact Or.inl rfl
    | 5 => exact Or.inl rfl
    | 6 => exact Or.inl rfl
    | 7 => exact Or.inl rfl
    | 8 => exact Or.inl rfl
    | 9 => exact Or.inl rfl
    | _ + 10 => exact Or.inl rfl
  obtain ⟨T3, h3, k3, X3, e3, E3, A3, EX3, O3, st3⟩ := own_copyOf X2 hx hZ hw hown (w_ hw 151 rfl) e2 hM hVe hXe hO (Nat.le_of_ble_eq_true rfl) hel3 (n := (2 : Int32)) (by decide) (K := 2) (by decide) (by decide) (by decide) (g := (mkF m 8 #[rv a] [(.int 2), (.ref ea)])) rfl (by rw [hml]; rfl) rfl (hb hby d_jdk_38_m_16_8) (by decide) (W := 0) (by show 2 * 0 + _ ≤ _; exact Nat.le_of_eq rfl) (by decide) (by decide) (by decide)
  obtain ⟨b3, g3⟩ : ∃ z, z = h0.size := ⟨_, rfl⟩
  rw [← g3] at A3 EX3 st3
  have gb_b3 : n0 ≤ b3 := Nat.le_trans Z0 (Nat.le_of_eq g3.symm)
  have sz_b3 : h0.size ≤ b3 := Nat.le_trans K0.1 (Nat.le_of_eq g3.symm)
  have Z3 : n0 ≤ h3.size := Nat.le_trans Z0 E3.1
  have K3 : Keep h0 h3 [] := K0.ext E3
  obtain ⟨fs, hr, hrun, hended, hW, hsame⟩ := X3.leave (v := some (.ref b3)) (fun h => by rw [Bd.returns] at h; cases h)
  refine ⟨_, _, pre0 _ ?_, hrun, hended, _, _, rfl, ?_, ⟨_, rfl⟩, hW, hsame.mono (by decide) (by decide)⟩
  · show Sx p e below s₁ m 0 #[rv a] [] _
    refine XS.aloadN X0.here hx rfl (hb hby d_jdk_38_m_16_0) rfl rfl ?_
    refine st1 _ ?_
    refine XS.aloadN X1.here hx rfl (hb hby d_jdk_38_m_16_4) rfl rfl ?_
    refine st2 _ ?_
    refine st3 _ ?_
    show Sx p e below T3 m 11 #[rv a] [(.ref b3)] _
    jvm_step X3.here [X3.here.top, hx, (hb hby d_jdk_38_m_16_11), X3.method', Bd.returns, Value.isRef, FieldType.isReference]
    first | (intro acts; rw [hr _ acts rfl rfl rfl]) | rw [hr _ _ rfl rfl rfl]
    exact Steps.refl _
  · show QTA Z 2 [.ref pa0, .ref pa1, .null, .null, .null, .null, .null, .null, .null, .null] h0 n0 _ T3.heap _
    rw [e3]
    exact ⟨b3, _, rfl, N0, K3, A3⟩
theorem ef_rmC2 (m : MethodId) (x0 : Addr) : entryFrame m #[(.ref x0)] 2 = mkF m 0 #[rv x0, u_] [] := by first | (simp [entryFrame, mkF, argsToLocals, Value.category]; done) | rfl
set_option maxRecDepth 65536 in
set_option maxHeartbeats 40000000 in
theorem rmC2 (l : Launch) (Z : State) (a0 : Array Value) (hw : ∀ d ∈ tables_1, d.before a0 Z = true) (ws : List Jvm.Cond) (a ea pa0 pa1 em : Addr) (ke : ClassId) (mc : Int32) (h0 : Heap) (n0 : Nat) (Z0 : n0 ≤ h0.size) (hC : ALs Z n0 h0 a ea ke mc (2 : Int32) [.ref pa0, .ref pa1, .null, .null, .null, .null, .null, .null, .null, .null]) (hx0 : Exa Z h0 pa0 "com/example/clausemap/clausemap/outline/Part") (hx1 : Exa Z h0 pa1 "com/example/clausemap/clausemap/outline/Part") (hM : ∃ (c : ClassId) (k : Class) (m : Addr), Z.vm.findClass "[Ljava/lang/Object;" = some c ∧ Z.vm.classes[c]? = some k ∧ k.mirror = some m) (hO1 : Old Z n0 h0) (hSe : Sta Z Z.heap "java/util/ImmutableCollections" "EMPTY" "Ljava/lang/Object;" (.ref em)) :
    MetFree l (⟨"java/util/ImmutableCollections", "listCopy", "(Ljava/util/Collection;)Ljava/util/List;"⟩ : MethodName) (head1 (Jvm.Cond.code (⟨"java/util/ImmutableCollections", "listCopy", "(Ljava/util/Collection;)Ljava/util/List;"⟩ : MethodName) jdk_56_method_3_code 2 (some (.object "java/util/List")) :: ws) ({ frames := 6, cells := 2, slots := 4, locals := 89 } : Room)) (fun aa_ UU_ => aa_ = #[(.ref a)] ∧ Z.Warmed39 UU_.vm ∧ UU_.heap = h0) (fun _ _ _ _ _ => True) (fun _ UU_ oo_ UE_ => ∃ vv_ LL_, oo_ = .returned vv_ ∧ QL2 Z pa0 pa1 h0 n0 vv_ UE_.heap LL_ ∧ FrameEnd UU_ oo_ UE_ LL_ ({ frames := 6, cells := 2, slots := 4, locals := 89 } : Room).cells ({ frames := 6, cells := 2, slots := 4, locals := 89 } : Room).slots) := by
  refine MetFree.of_bodySF (plainFor_of_name pn_10) hisR ?_
  intro p e s m args below meth c s₁ Bd hml0 hP hK
  obtain ⟨rfl, hZ, hh⟩ := hP
  have hx := Bd.exec
  have hby := Bd.bytes
  have hml : c.maxLocals = 2 := hml0
  have hown : s.vm.findClass "java/util/ImmutableCollections" = some m.cls := findClass_of_methodNamed Bd.named
  have hnm := (name_of_methodNamed Bd.named Bd.method).1
  have X0 : Stand p l e ({ frames := 6, cells := 2, slots := 4, locals := 89 } : Room) s m #[(.ref a)] below meth c s₁ [] 0 0 := Stand.of_body Bd
  have e0 : s₁.heap = h0 := by rw [← hh, Bd.state]; rfl
  have N0 := Fr.nil n0
  have K0 : Keep h0 h0 [] := Keep.refl h0 _
  have pre0 : ∀ tg, Steps p.tables e below (s₁.setTop (mkF m 0 #[rv a, u_] [])) tg → Steps p.tables e below (s₁.setTop (entryFrame m #[(.ref a)] 2)) tg := fun tg kq_ => castTop (ef_rmC2 m a) kq_
  obtain ⟨⟨hE, hFm, hFe, hFs⟩, hVe, hXe, hO, hG, hge, hn2⟩ := hC
  obtain ⟨T1, X1, e1, st1⟩ := instNo X0 hx hZ hown (w_ hw 67 rfl) e0 hE (own_notA (w_ hw 68 rfl) (w_ hw 69 rfl) (w_ hw 70 rfl) (w_ hw 71 rfl) (w_ hw 221 rfl) (by decide) (by decide) (by decide) (by decide)) (g := (mkF m 1 #[rv a, u_] [(.ref a)])) rfl rfl (hb hby d_jdk_56_m_3_1)
  obtain ⟨T2, X2, e2, st2⟩ := instNo X1 hx hZ hown (w_ hw 72 rfl) e1 hE (own_notA (w_ hw 68 rfl) (w_ hw 69 rfl) (w_ hw 70 rfl) (w_ hw 71 rfl) (w_ hw 184 rfl) (by decide) (by decide) (by decide) (by decide)) (g := (mkF m 8 #[rv a, u_] [(.ref a)])) rfl rfl (hb hby d_jdk_56_m_3_8)
  obtain ⟨cq3, kq3, q3a, q3b, q3c⟩ := isOf hZ e2 hE
  obtain ⟨_, _, ⟨T3, L3, k3, n3⟩, -, X3, ⟨Lc3, hQ3, l3, y3, z3⟩, st3⟩ := X2.interfaceBack hx (xi := (⟨"java/util/Collection", "isEmpty", "()Z"⟩ : MethodName)) (y := (⟨"java/util/ArrayList", "isEmpty", "()Z"⟩ : MethodName)) hown (mvT hZ (w_ hw 73 rfl)) (mvT hZ (w_ hw 74 rfl)) (mvT hZ (w_ hw 75 rfl)) (mvT hZ (w_ hw 76 rfl)) (mvT hZ (w_ hw 77 rfl)) (mvT hZ (w_ hw 78 rfl)) (mvT hZ (w_ hw 79 rfl)) (mvT hZ (w_ hw 80 rfl)) (by decide) (backOf (W := 0) (rmIE l Z a0 hw [] a (2 : Int32) h0 n0 Z0 hFs) hZ (w_ hw 81 rfl) (w_ hw 30 rfl) (by decide) (by decide)) q3a q3b q3c (g := (mkF m 32 #[rv a, u_] [(.ref a)])) rfl (by rw [hml]; rfl) (Steps.refl _) (argsL := []) (rest := []) (lenOf pd_10 rfl) rfl (by show 2 * 0 + _ ≤ _; exact Nat.le_of_eq rfl) (hb hby d_jdk_56_m_3_32) (fun _ _ => ⟨rfl, e2, (by decide : 0 + 0 ≤ _), (by decide : 0 + 0 ≤ _)⟩)
  dsimp only [Pt.U, Pt.locs, Pt.cells, Pt.slots] at X3 l3 y3 z3 st3 hQ3
  subst l3 y3 z3
  obtain ⟨hv3, N3q, r3⟩ := hQ3
  rw [if_neg (by decide)] at hv3
  subst hv3
  have N3 := Fr.app N0 N3q
  obtain ⟨cq4, kq4, q4a, q4b, q4c⟩ := isOf hZ r3 hE
  obtain ⟨_, _, ⟨T4, L4, k4, n4⟩, -, X4, ⟨Lc4, hQ4, l4, y4, z4⟩, st4⟩ := X3.interfaceBack hx (xi := (⟨"java/util/Collection", "toArray", "()[Ljava/lang/Object;"⟩ : MethodName)) (y := (⟨"java/util/ArrayList", "toArray", "()[Ljava/lang/Object;"⟩ : MethodName)) hown (mvT hZ (w_ hw 143 rfl)) (mvT hZ (w_ hw 144 rfl)) (mvT hZ (w_ hw 145 rfl)) (mvT hZ (w_ hw 146 rfl)) (mvT hZ (w_ hw 147 rfl)) (mvT hZ (w_ hw 148 rfl)) (mvT hZ (w_ hw 149 rfl)) (mvT hZ (w_ hw 80 rfl)) (by decide) (backOf (W := 0) (rmT2 l Z a0 hw [] a ea pa0 pa1 ke mc h0 n0 Z0 ⟨⟨hE, hFm, hFe, hFs⟩, hVe, hXe, hO, hG, hge, hn2⟩ hx0 hx1 hM) hZ (w_ hw 150 rfl) (w_ hw 30 rfl) (by decide) (by decide)) q4a q4b q4c (g := (mkF m 45 #[rv a, u_] [(.ref a)])) rfl (by rw [hml]; rfl) (Steps.refl _) (argsL := []) (rest := []) (lenOf pd_3 rfl) rfl (by show 2 * 0 + _ ≤ _; exact Nat.le_of_eq rfl) (hb hby d_jdk_56_m_3_45) (fun _ _ => ⟨rfl, r3, (by decide : 0 + 1 ≤ _), (by decide : 0 + 2 ≤ _)⟩)
  dsimp only [Pt.U, Pt.locs, Pt.cells, Pt.slots] at X4 l4 y4 z4 st4 hQ4
  subst l4 y4 z4
  obtain ⟨ba4, ka4, hv4, N4q, kp4, va4⟩ := hQ4
  subst hv4
  have N4 := Fr.app N3 N4q
  have Z4 : n0 ≤ T4.heap.size := Nat.le_trans Z0 kp4.1
  have K4 : Keep h0 T4.heap [] := K0.trans kp4 all0
  have f5 := (hx0.keep kp4)
  have f6 := (hx1.keep kp4)
  have f7 := (hO1.keep kp4 all0)
  obtain ⟨_, _, ⟨T8, L8, k8, n8⟩, -, X8, ⟨Lc8, hQ8, l8, y8, z8⟩, st8⟩ := Jvm.LawKit.callS X4 hx (y := (⟨"java/util/List", "of", "([Ljava/lang/Object;)Ljava/util/List;"⟩ : MethodName)) hown (mvT hZ (w_ hw 173 rfl)) (mvT hZ (w_ hw 174 rfl)) (mvT hZ (w_ hw 61 rfl)) (mvT hZ (w_ hw 175 rfl)) (by decide) (backOf (W := 0) (rmO2 l Z a0 hw [] ba4 pa0 pa1 em ka4 T4.heap n0 Z4 va4 f5 f6 f7 hSe) hZ (w_ hw 175 rfl) (w_ hw 61 rfl) (by decide) (by decide)) (g := (mkF m 50 #[rv a, u_] [(.ref ba4)])) rfl (by rw [hml]; rfl) (argsL := [(.ref ba4)]) (rest := []) (lenOf pd_9 rfl) rfl (by show 2 * 0 + _ ≤ _; exact Nat.le_of_eq rfl) (hb hby d_jdk_56_m_3_50) (fun _ _ => ⟨rfl, rfl, (by decide : 1 + 1 ≤ _), (by decide : 2 + 2 ≤ _)⟩)
  dsimp only [Pt.U, Pt.locs, Pt.cells, Pt.slots] at X8 l8 y8 z8 st8 hQ8
  subst l8 y8 z8
  obtain ⟨lb8, hv8, N8q, kp8, lv8⟩ := hQ8
  subst hv8
  have N8 := Fr.app N4 N8q
  have Z8 : n0 ≤ T8.heap.size := Nat.le_trans Z4 kp8.1
  have K8 : Keep h0 T8.heap [] := K4.trans kp8 all0
  obtain ⟨fs, hr, hrun, hended, hW, hsame⟩ := X8.leave (v := some (.ref lb8)) (fun h => by rw [Bd.returns] at h; cases h)
  refine ⟨_, _, pre0 _ ?_, hrun, hended, _, _, rfl, ?_, ⟨_, rfl⟩, hW, hsame.mono (by decide) (by decide)⟩
  · show Sx p e below s₁ m 0 #[rv a, u_] [] _
    refine XS.aloadN X0.here hx rfl (hb hby d_jdk_56_m_3_0) rfl rfl ?_
    refine st1 _ ?_
    refine XS.ifNo X1.here hx rfl (hb hby d_jdk_56_m_3_4) rfl ((if0 _ _).trans (teq (by decide : (0 : Int32) = (0 : Int32))).2) ?_
    refine XS.aloadN X1.here hx rfl (hb hby d_jdk_56_m_3_7) rfl rfl ?_
    refine st2 _ ?_
    show Sx p e below T2 m 11 #[rv a, u_] [(.int 0)] _
    refine XS.ifYes X2.here hx rfl (pc0 := 11) (pc' := 31) rfl (hb hby d_jdk_56_m_3_11) rfl ((if0 _ _).trans (teq (by decide : (0 : Int32) = (0 : Int32))).1) (by decide) (by decide) ?_
    refine XS.aloadN X2.here hx rfl (hb hby d_jdk_56_m_3_31) rfl rfl ?_
    refine st3.trans ?_
    refine XS.ifYes X3.here hx rfl (pc0 := 37) (pc' := 44) rfl (hb hby d_jdk_56_m_3_37) rfl ((if0 _ _).trans (teq (by decide : (0 : Int32) = (0 : Int32))).1) (by decide) (by decide) ?_
    refine XS.aloadN X3.here hx rfl (hb hby d_jdk_56_m_3_44) rfl rfl ?_
    show Sx p e below T3 m 45 #[rv a, u_] [(.ref a)] _
    refine st4.trans ?_
    refine st8 _ ?_
    show Sx p e below T8 m 53 #[rv a, u_] [(.ref lb8)] _
    jvm_step X8.here [X8.here.top, hx, (hb hby d_jdk_56_m_3_53), X8.method', Bd.returns, Value.isRef, FieldType.isReference]
    first | (intro acts; rw [hr _ acts rfl rfl rfl]) | rw [hr _ _ rfl rfl rfl]
    exact Steps.refl _
  · show QL2 Z pa0 pa1 h0 n0 _ T8.heap _
    exact ⟨lb8, rfl, N8, K8, lv8⟩
theorem ef_rmY2 (m : MethodId) (x0 : Addr) : entryFrame m #[(.ref x0)] 1 = mkF m 0 #[rv x0] [] := by first | (simp [entryFrame, mkF, argsToLocals, Value.category]; done) | rfl
set_option maxRecDepth 65536 in
set_option maxHeartbeats 40000000 in
theorem rmY2 (l : Launch) (Z : State) (a0 : Array Value) (hw : ∀ d ∈ tables_1, d.before a0 Z = true) (ws : List Jvm.Cond) (a ea pa0 pa1 em : Addr) (ke : ClassId) (mc : Int32) (h0 : Heap) (n0 : Nat) (Z0 : n0 ≤ h0.size) (hC : ALs Z n0 h0 a ea ke mc (2 : Int32) [.ref pa0, .ref pa1, .null, .null, .null, .null, .null, .null, .null, .null]) (hx0 : Exa Z h0 pa0 "com/example/clausemap/clausemap/outline/Part") (hx1 : Exa Z h0 pa1 "com/example/clausemap/clausemap/outline/Part") (hM : ∃ (c : ClassId) (k : Class) (m : Addr), Z.vm.findClass "[Ljava/lang/Object;" = some c ∧ Z.vm.classes[c]? = some k ∧ k.mirror = some m) (hO1 : Old Z n0 h0) (hSe : Sta Z Z.heap "java/util/ImmutableCollections" "EMPTY" "Ljava/lang/Object;" (.ref em)) :
    MetFree l (⟨"java/util/List", "copyOf", "(Ljava/util/Collection;)Ljava/util/List;"⟩ : MethodName) (head1 (Jvm.Cond.code (⟨"java/util/List", "copyOf", "(Ljava/util/Collection;)Ljava/util/List;"⟩ : MethodName) jdk_40_method_48_code 1 (some (.object "java/util/List")) :: ws) ({ frames := 7, cells := 2, slots := 4, locals := 102 } : Room)) (fun aa_ UU_ => aa_ = #[(.ref a)] ∧ Z.Warmed39 UU_.vm ∧ UU_.heap = h0) (fun _ _ _ _ _ => True) (fun _ UU_ oo_ UE_ => ∃ vv_ LL_, oo_ = .returned vv_ ∧ QL2 Z pa0 pa1 h0 n0 vv_ UE_.heap LL_ ∧ FrameEnd UU_ oo_ UE_ LL_ ({ frames := 7, cells := 2, slots := 4, locals := 102 } : Room).cells ({ frames := 7, cells := 2, slots := 4, locals := 102 } : Room).slots) := by
  refine MetFree.of_bodySF (plainFor_of_name pn_11) hisR ?_
  intro p e s m args below meth c s₁ Bd hml0 hP hK
  obtain ⟨rfl, hZ, hh⟩ := hP
  have hx := Bd.exec
  have hby := Bd.bytes
  have hml : c.maxLocals = 1 := hml0
  have hown : s.vm.findClass "java/util/List" = some m.cls := findClass_of_methodNamed Bd.named
  have hnm := (name_of_methodNamed Bd.named Bd.method).1
  have X0 : Stand p l e ({ frames := 7, cells := 2, slots := 4, locals := 102 } : Room) s m #[(.ref a)] below meth c s₁ [] 0 0 := Stand.of_body Bd
  have e0 : s₁.heap = h0 := by rw [← hh, Bd.state]; rfl
  have N0 := Fr.nil n0
  have K0 : Keep h0 h0 [] := Keep.refl h0 _
  have pre0 : ∀ tg, Steps p.tables e below (s₁.setTop (mkF m 0 #[rv a] [])) tg → Steps p.tables e below (s₁.setTop (entryFrame m #[(.ref a)] 1)) tg := fun tg kq_ => castTop (ef_rmY2 m a) kq_
  obtain ⟨⟨hE, hFm, hFe, hFs⟩, hVe, hXe, hO, hG, hge, hn2⟩ := hC
  obtain ⟨_, _, ⟨T1, L1, k1, n1⟩, -, X1, ⟨Lc1, hQ1, l1, y1, z1⟩, st1⟩ := Jvm.LawKit.callS X0 hx (y := (⟨"java/util/ImmutableCollections", "listCopy", "(Ljava/util/Collection;)Ljava/util/List;"⟩ : MethodName)) hown (mvT hZ (w_ hw 63 rfl)) (mvT hZ (w_ hw 64 rfl)) (mvT hZ (w_ hw 65 rfl)) (mvT hZ (w_ hw 66 rfl)) (by decide) (backOf (W := 0) (rmC2 l Z a0 hw [] a ea pa0 pa1 em ke mc h0 n0 Z0 ⟨⟨hE, hFm, hFe, hFs⟩, hVe, hXe, hO, hG, hge, hn2⟩ hx0 hx1 hM hO1 hSe) hZ (w_ hw 66 rfl) (w_ hw 65 rfl) (by decide) (by decide)) (g := (mkF m 1 #[rv a] [(.ref a)])) rfl (by rw [hml]; rfl) (argsL := [(.ref a)]) (rest := []) (lenOf pd_11 rfl) rfl (by show 2 * 0 + _ ≤ _; exact Nat.le_of_eq rfl) (hb hby d_jdk_40_m_48_1) (fun _ _ => ⟨rfl, e0, (by decide : 0 + 2 ≤ _), (by decide : 0 + 4 ≤ _)⟩)
  dsimp only [Pt.U, Pt.locs, Pt.cells, Pt.slots] at X1 l1 y1 z1 st1 hQ1
  subst l1 y1 z1
  obtain ⟨lb1, hv1, N1q, kp1, lv1⟩ := hQ1
  subst hv1
  have N1 := Fr.app N0 N1q
  have Z1 : n0 ≤ T1.heap.size := Nat.le_trans Z0 kp1.1
  have K1 : Keep h0 T1.heap [] := K0.trans kp1 all0
  obtain ⟨fs, hr, hrun, hended, hW, hsame⟩ := X1.leave (v := some (.ref lb1)) (fun h => by rw [Bd.returns] at h; cases h)
  refine ⟨_, _, pre0 _ ?_, hrun, hended, _, _, rfl, ?_, ⟨_, rfl⟩, hW, hsame.mono (by decide) (by decide)⟩
  · show Sx p e below s₁ m 0 #[rv a] [] _
    refine XS.aloadN X0.here hx rfl (hb hby d_jdk_40_m_48_0) rfl rfl ?_
    refine st1 _ ?_
    show Sx p e below T1 m 4 #[rv a] [(.ref lb1)] _
    jvm_step X1.here [X1.here.top, hx, (hb hby d_jdk_40_m_48_4), X1.method', Bd.returns, Value.isRef, FieldType.isReference]
    first | (intro acts; rw [hr _ acts rfl rfl rfl]) | rw [hr _ _ rfl rfl rfl]
    exact Steps.refl _
  · show QL2 Z pa0 pa1 h0 n0 _ T1.heap _
    exact ⟨lb1, rfl, N1, K1, lv1⟩
theorem ef_rmT3 (m : MethodId) (x0 : Addr) : entryFrame m #[(.ref x0)] 1 = mkF m 0 #[rv x0] [] := by first | (simp [entryFrame, mkF, argsToLocals, Value.category]; done) | rfl
set_option maxRecDepth 65536 in
set_option maxHeartbeats 40000000 in
theorem rmT3 (l : Launch) (Z : State) (a0 : Array Value) (hw : ∀ d ∈ tables_1, d.before a0 Z = true) (ws : List Jvm.Cond) (a ea pa0 pa1 pa2 : Addr) (ke : ClassId) (mc : Int32) (h0 : Heap) (n0 : Nat) (Z0 : n0 ≤ h0.size) (hC : ALs Z n0 h0 a ea ke mc (3 : Int32) [.ref pa0, .ref pa1, .ref pa2, .null, .null, .null, .null, .null, .null, .null]) (hx0 : Exa Z h0 pa0 "com/example/clausemap/clausemap/outline/Part") (hx1 : Exa Z h0 pa1 "com/example/clausemap/clausemap/outline/Part") (hx2 : Exa Z h0 pa2 "com/example/clausemap/clausemap/outline/Part") (hM : ∃ (c : ClassId) (k : Class) (m : Addr), Z.vm.findClass "[Ljava/lang/Object;" = some c ∧ Z.vm.classes[c]? = some k ∧ k.mirror = some m) :
    MetFree l (⟨"java/util/ArrayList", "toArray", "()[Ljava/lang/Object;"⟩ : MethodName) (head1 (Jvm.Cond.code (⟨"java/util/ArrayList", "toArray", "()[Ljava/lang/Object;"⟩ : MethodName) jdk_38_method_16_code 1 (some (.array (.object "java/lang/Object"))) :: ws) ({ frames := 4, cells := 1, slots := 3, locals := 77 } : Room)) (fun aa_ UU_ => aa_ = #[(.ref a)] ∧ Z.Warmed39 UU_.vm ∧ UU_.heap = h0) (fun _ _ _ _ _ => True) (fun _ UU_ oo_ UE_ => ∃ vv_ LL_, oo_ = .returned vv_ ∧ QTA Z 3 [.ref pa0, .ref pa1, .ref pa2, .null, .null, .null, .null, .null, .null, .null] h0 n0 vv_ UE_.heap LL_ ∧ FrameEnd UU_ oo_ UE_ LL_ ({ frames := 4, cells := 1, slots := 3, locals := 77 } : Room).cells ({ frames := 4, cells := 1, slots := 3, locals := 77 } : Room).slots) := by
  refine MetFree.of_bodySF (plainFor_of_name pn_7) hisR ?_
  intro p e s m args below meth c s₁ Bd hml0 hP hK
  obtain ⟨rfl, hZ, hh⟩ := hP
  have hx := Bd.exec
  have hby := Bd.bytes
  have hml : c.maxLocals = 1 := hml0
  have hown : s.vm.findClass "java/util/ArrayList" = some m.cls := findClass_of_methodNamed Bd.named
  have hnm := (name_of_methodNamed Bd.named Bd.method).1
  have X0 : Stand p l e ({ frames := 4, cells := 1, slots := 3, locals := 77 } : Room) s m #[(.ref a)] below meth c s₁ [] 0 0 := Stand.of_body Bd
  have e0 : s₁.heap = h0 := by rw [← hh, Bd.state]; rfl
  have N0 := Fr.nil n0
  have K0 : Keep h0 h0 [] := Keep.refl h0 _
  have pre0 : ∀ tg, Steps p.tables e below (s₁.setTop (mkF m 0 #[rv a] [])) tg → Steps p.tables e below (s₁.setTop (entryFrame m #[(.ref a)] 1)) tg := fun tg kq_ => castTop (ef_rmT3 m a) kq_
  obtain ⟨⟨hE, hFm, hFe, hFs⟩, hVe, hXe, hO, hG, hge, hn2⟩ := hC
  obtain ⟨T1, X1, e1, st1⟩ := getF X0 hx hZ hown (host := "") (Or.inl (w_ hw 50 rfl)) Via.refl e0 hFe (g := (mkF m 1 #[rv a] [(.ref a)])) rfl rfl (hb hby d_jdk_38_m_16_1)
  obtain ⟨T2, X2, e2, st2⟩ := getF X1 hx hZ hown (host := "") (Or.inl (w_ hw 82 rfl)) Via.refl e1 hFs (g := (mkF m 5 #[rv a] [(.ref a), (.ref ea)])) rfl rfl (hb hby d_jdk_38_m_16_5)
  have hel3 : ∀ i, ([(.ref pa0), (.ref pa1), (.ref pa2), .null, .null, .null, .null, .null, .null, .null] : List Value).getD i .null = .null ∨ ∃ b : Addr, ([(.ref pa0), (.ref pa1), (.ref pa2), .null, .null, .null, .null, .null, .null, .null] : List Value).getD i .null = .ref b ∧ Ins Z h0 b "java/lang/Object" true := fun i => by
    match i with
    | 0 => exact Or.inr ⟨_, rfl, (Ins.of_exa hx0 (w_ hw 142 rfl))⟩
    | 1 => exact Or.inr ⟨_, rfl, (Ins.of_exa hx1 (w_ hw 142 rfl))⟩
    | 2 => exact Or.inr ⟨_, rfl, (Ins.of_exa hx2 (w_ hw 142 rfl))⟩
    | 3 => exact Or.inl rfl
    | 4 => exact Or.inl rfl
    | 5 => exact Or.inl rfl
    | 6 => exact Or.inl rfl
    | 7 => exact Or.inl rfl
    | 8 => exact Or.inl rfl
    | 9 => exact Or.inl rfl
    | _ + 10 => exact Or.inl rfl
  obtain ⟨T3, h3, k3, X3, e3, E3, A3, EX3, O3, st3⟩ := own_copyOf X2 hx hZ hw hown (w_ hw 151 rfl) e2 hM hVe hXe hO (Nat.le_of_ble_eq_true rfl) hel3 (n := (3 : Int32)) (by decide) (K := 3) (by decide) (by decide) (by decide) (g := (mkF m 8 #[rv a] [(.int 3), (.ref ea)])) rfl (by rw [hml]; rfl) rfl (hb hby d_jdk_38_m_16_8) (by decide) (W := 0) (by show 2 * 0 + _ ≤ _; exact Nat.le_of_eq rfl) (by decide) (by decide) (by decide)
  obtain ⟨b3, g3⟩ : ∃ z, z = h0.size := ⟨_, rfl⟩
  rw [← g3] at A3 EX3 st3
  have gb_b3 : n0 ≤ b3 := Nat.le_trans Z0 (Nat.le_of_eq g3.symm)
  have sz_b3 : h0.size ≤ b3 := Nat.le_trans K0.1 (Nat.le_of_eq g3.symm)
  have Z3 : n0 ≤ h3.size := Nat.le_trans Z0 E3.1
  have K3 : Keep h0 h3 [] := K0.ext E3
  obtain ⟨fs, hr, hrun, hended, hW, hsame⟩ := X3.leave (v := some (.ref b3)) (fun h => by rw [Bd.returns] at h; cases h)
  refine ⟨_, _, pre0 _ ?_, hrun, hended, _, _, rfl, ?_, ⟨_, rfl⟩, hW, hsame.mono (by decide) (by decide)⟩
  · show Sx p e below s₁ m 0 #[rv a] [] _
    refine XS.aloadN X0.here hx rfl (hb hby d_jdk_38_m_16_0) rfl rfl ?_
    refine st1 _ ?_
    refine XS.aloadN X1.here hx rfl (hb hby d_jdk_38_m_16_4) rfl rfl ?_
    refine st2 _ ?_
    refine st3 _ ?_
    show Sx p e below T3 m 11 #[rv a] [(.ref b3)] _
    jvm_step X3.here [X3.here.top, hx, (hb hby d_jdk_38_m_16_11), X3.method', Bd.returns, Value.isRef, FieldType.isReference]
    first | (intro acts; rw [hr _ acts rfl rfl rfl]) | rw [hr _ _ rfl rfl rfl]
    exact Steps.refl _
  · show QTA Z 3 [.ref pa0, .ref pa1, .ref pa2, .null, .null, .null, .null, .null, .null, .null] h0 n0 _ T3.heap _
    rw [e3]
    exact ⟨b3, _, rfl, N0, K3, A3⟩
theorem ef_rmC3 (m : MethodId) (x0 : Addr) : entryFrame m #[(.ref x0)] 2 = mkF m 0 #[rv x0, u_] [] := by first | (simp [entryFrame, mkF, argsToLocals, Value.category]; done) | rfl
set_option maxRecDepth 65536 in
set_option maxHeartbeats 40000000 in
theorem rmC3 (l : Launch) (Z : State) (a0 : Array Value) (hw : ∀ d ∈ tables_1, d.before a0 Z = true) (ws : List Jvm.Cond) (a ea pa0 pa1 pa2 em : Addr) (ke : ClassId) (mc : Int32) (h0 : Heap) (n0 : Nat) (Z0 : n0 ≤ h0.size) (hC : ALs Z n0 h0 a ea ke mc (3 : Int32) [.ref pa0, .ref pa1, .ref pa2, .null, .null, .null, .null, .null, .null, .null]) (hx0 : Exa Z h0 pa0 "com/example/clausemap/clausemap/outline/Part") (hx1 : Exa Z h0 pa1 "com/example/clausemap/clausemap/outline/Part") (hx2 : Exa Z h0 pa2 "com/example/clausemap/clausemap/outline/Part") (hM : ∃ (c : ClassId) (k : Class) (m : Addr), Z.vm.findClass "[Ljava/lang/Object;" = some c ∧ Z.vm.classes[c]? = some k ∧ k.mirror = some m) (hO1 : Old Z n0 h0) (hSe : Sta Z Z.heap "java/util/ImmutableCollections" "EMPTY" "Ljava/lang/Object;" (.ref em)) :
    MetFree l (⟨"java/util/ImmutableCollections", "listCopy", "(Ljava/util/Collection;)Ljava/util/List;"⟩ : MethodName) (head1 (Jvm.Cond.code (⟨"java/util/ImmutableCollections", "listCopy", "(Ljava/util/Collection;)Ljava/util/List;"⟩ : MethodName) jdk_56_method_3_code 2 (some (.object "java/util/List")) :: ws) ({ frames := 7, cells := 3, slots := 8, locals := 90 } : Room)) (fun aa_ UU_ => aa_ = #[(.ref a)] ∧ Z.Warmed39 UU_.vm ∧ UU_.heap = h0) (fun _ _ _ _ _ => True) (fun _ UU_ oo_ UE_ => ∃ vv_ LL_, oo_ = .returned vv_ ∧ QLN Z 3 [.ref pa0, .ref pa1, .ref pa2] h0 n0 vv_ UE_.heap LL_ ∧ FrameEnd UU_ oo_ UE_ LL_ ({ frames := 7, cells := 3, slots := 8, locals := 90 } : Room).cells ({ frames := 7, cells := 3, slots := 8, locals := 90 } : Room).slots) := by
  refine MetFree.of_bodySF (plainFor_of_name pn_10) hisR ?_
  intro p e s m args below meth c s₁ Bd hml0 hP hK
  obtain ⟨rfl, hZ, hh⟩ := hP
  have hx := Bd.exec
  have hby := Bd.bytes
  have hml : c.maxLocals = 2 := hml0
  have hown : s.vm.findClass "java/util/ImmutableCollections" = some m.cls := findClass_of_methodNamed Bd.named
  have hnm := (name_of_methodNamed Bd.named Bd.method).1
  have X0 : Stand p l e ({ frames := 7, cells := 3, slots := 8, locals := 90 } : Room) s m #[(.ref a)] below meth c s₁ [] 0 0 := Stand.of_body Bd
  have e0 : s₁.heap = h0 := by rw [← hh, Bd.state]; rfl
  have N0 := Fr.nil n0
  have K0 : Keep h0 h0 [] := Keep.refl h0 _
  have pre0 : ∀ tg, Steps p.tables e below (s₁.setTop (mkF m 0 #[rv a, u_] [])) tg → Steps p.tables e below (s₁.setTop (entryFrame m #[(.ref a)] 2)) tg := fun tg kq_ => castTop (ef_rmC3 m a) kq_
  obtain ⟨⟨hE, hFm, hFe, hFs⟩, hVe, hXe, hO, hG, hge, hn2⟩ := hC
  obtain ⟨T1, X1, e1, st1⟩ := instNo X0 hx hZ hown (w_ hw 67 rfl) e0 hE (own_notA (w_ hw 68 rfl) (w_ hw 69 rfl) (w_ hw 70 rfl) (w_ hw 71 rfl) (w_ hw 221 rfl) (by decide) (by decide) (by decide) (by decide)) (g := (mkF m 1 #[rv a, u_] [(.ref a)])) rfl rfl (hb hby d_jdk_56_m_3_1)
  obtain ⟨T2, X2, e2, st2⟩ := instNo X1 hx hZ hown (w_ hw 72 rfl) e1 hE (own_notA (w_ hw 68 rfl) (w_ hw 69 rfl) (w_ hw 70 rfl) (w_ hw 71 rfl) (w_ hw 184 rfl) (by decide) (by decide) (by decide) (by decide)) (g := (mkF m 8 #[rv a, u_] [(.ref a)])) rfl rfl (hb hby d_jdk_56_m_3_8)
  obtain ⟨cq3, kq3, q3a, q3b, q3c⟩ := isOf hZ e2 hE
  obtain ⟨_, _, ⟨T3, L3, k3, n3⟩, -, X3, ⟨Lc3, hQ3, l3, y3, z3⟩, st3⟩ := X2.interfaceBack hx (xi := (⟨"java/util/Collection", "isEmpty", "()Z"⟩ : MethodName)) (y := (⟨"java/util/ArrayList", "isEmpty", "()Z"⟩ : MethodName)) hown (mvT hZ (w_ hw 73 rfl)) (mvT hZ (w_ hw 74 rfl)) (mvT hZ (w_ hw 75 rfl)) (mvT hZ (w_ hw 76 rfl)) (mvT hZ (w_ hw 77 rfl)) (mvT hZ (w_ hw 78 rfl)) (mvT hZ (w_ hw 79 rfl)) (mvT hZ (w_ hw 80 rfl)) (by decide) (backOf (W := 0) (rmIE l Z a0 hw [] a (3 : Int32) h0 n0 Z0 hFs) hZ (w_ hw 81 rfl) (w_ hw 30 rfl) (by decide) (by decide)) q3a q3b q3c (g := (mkF m 32 #[rv a, u_] [(.ref a)])) rfl (by rw [hml]; rfl) (Steps.refl _) (argsL := []) (rest := []) (lenOf pd_10 rfl) rfl (by show 2 * 0 + _ ≤ _; exact Nat.le_of_eq rfl) (hb hby d_jdk_56_m_3_32) (fun _ _ => ⟨rfl, e2, (by decide : 0 + 0 ≤ _), (by decide : 0 + 0 ≤ _)⟩)
  dsimp only [Pt.U, Pt.locs, Pt.cells, Pt.slots] at X3 l3 y3 z3 st3 hQ3
  subst l3 y3 z3
  obtain ⟨hv3, N3q, r3⟩ := hQ3
  rw [if_neg (by decide)] at hv3
  subst hv3
  have N3 := Fr.app N0 N3q
  obtain ⟨cq4, kq4, q4a, q4b, q4c⟩ := isOf hZ r3 hE
  obtain ⟨_, _, ⟨T4, L4, k4, n4⟩, -, X4, ⟨Lc4, hQ4, l4, y4, z4⟩, st4⟩ := X3.interfaceBack hx (xi := (⟨"java/util/Collection", "toArray", "()[Ljava/lang/Object;"⟩ : MethodName)) (y := (⟨"java/util/ArrayList", "toArray", "()[Ljava/lang/Object;"⟩ : MethodName)) hown (mvT hZ (w_ hw 143 rfl)) (mvT hZ (w_ hw 144 rfl)) (mvT hZ (w_ hw 145 rfl)) (mvT hZ (w_ hw 146 rfl)) (mvT hZ (w_ hw 147 rfl)) (mvT hZ (w_ hw 148 rfl)) (mvT hZ (w_ hw 149 rfl)) (mvT hZ (w_ hw 80 rfl)) (by decide) (backOf (W := 0) (rmT3 l Z a0 hw [] a ea pa0 pa1 pa2 ke mc h0 n0 Z0 ⟨⟨hE, hFm, hFe, hFs⟩, hVe, hXe, hO, hG, hge, hn2⟩ hx0 hx1 hx2 hM) hZ (w_ hw 150 rfl) (w_ hw 30 rfl) (by decide) (by decide)) q4a q4b q4c (g := (mkF m 45 #[rv a, u_] [(.ref a)])) rfl (by rw [hml]; rfl) (Steps.refl _) (argsL := []) (rest := []) (lenOf pd_3 rfl) rfl (by show 2 * 0 + _ ≤ _; exact Nat.le_of_eq rfl) (hb hby d_jdk_56_m_3_45) (fun _ _ => ⟨rfl, r3, (by decide : 0 + 1 ≤ _), (by decide : 0 + 3 ≤ _)⟩)
  dsimp only [Pt.U, Pt.locs, Pt.cells, Pt.slots] at X4 l4 y4 z4 st4 hQ4
  subst l4 y4 z4
  obtain ⟨ba4, ka4, hv4, N4q, kp4, va4⟩ := hQ4
  subst hv4
  have N4 := Fr.app N3 N4q
  have Z4 : n0 ≤ T4.heap.size := Nat.le_trans Z0 kp4.1
  have K4 : Keep h0 T4.heap [] := K0.trans kp4 all0
  have f5 := (hx0.keep kp4)
  have f6 := (hx1.keep kp4)
  have f7 := (hx2.keep kp4)
  have f8 := (hO1.keep kp4 all0)
  obtain ⟨_, _, ⟨T9, L9, k9, n9⟩, -, X9, ⟨Lc9, hQ9, l9, y9, z9⟩, st9⟩ := Jvm.LawKit.callS X4 hx (y := (⟨"java/util/List", "of", "([Ljava/lang/Object;)Ljava/util/List;"⟩ : MethodName)) hown (mvT hZ (w_ hw 173 rfl)) (mvT hZ (w_ hw 174 rfl)) (mvT hZ (w_ hw 61 rfl)) (mvT hZ (w_ hw 175 rfl)) (by decide) (backOf (W := 0) (rmO3 l Z a0 hw [] ba4 pa0 pa1 pa2 em ka4 T4.heap n0 Z4 va4 f5 f6 f7 f8 hSe) hZ (w_ hw 175 rfl) (w_ hw 61 rfl) (by decide) (by decide)) (g := (mkF m 50 #[rv a, u_] [(.ref ba4)])) rfl (by rw [hml]; rfl) (argsL := [(.ref ba4)]) (rest := []) (lenOf pd_9 rfl) rfl (by show 2 * 0 + _ ≤ _; exact Nat.le_of_eq rfl) (hb hby d_jdk_56_m_3_50) (fun _ _ => ⟨rfl, rfl, (by decide : 1 + 2 ≤ _), (by decide : 3 + 5 ≤ _)⟩)
  dsimp only [Pt.U, Pt.locs, Pt.cells, Pt.slots] at X9 l9 y9 z9 st9 hQ9
  subst l9 y9 z9
  obtain ⟨lb9, hv9, N9q, kp9, lv9⟩ := hQ9
  subst hv9
  have N9 := Fr.app N4 N9q
  have Z9 : n0 ≤ T9.heap.size := Nat.le_trans Z4 kp9.1
  have K9 : Keep h0 T9.heap [] := K4.trans kp9 all0
  obtain ⟨fs, hr, hrun, hended, hW, hsame⟩ := X9.leave (v := some (.ref lb9)) (fun h => by rw [Bd.returns] at h; cases h)
  refine ⟨_, _, pre0 _ ?_, hrun, hended, _, _, rfl, ?_, ⟨_, rfl⟩, hW, hsame.mono (by decide) (by decide)⟩
  · show Sx p e below s₁ m 0 #[rv a, u_] [] _
    refine XS.aloadN X0.here hx rfl (hb hby d_jdk_56_m_3_0) rfl rfl ?_
    refine st1 _ ?_
    refine XS.ifNo X1.here hx rfl (hb hby d_jdk_56_m_3_4) rfl ((if0 _ _).trans (teq (by decide : (0 : Int32) = (0 : Int32))).2) ?_
    refine XS.aloadN X1.here hx rfl (hb hby d_jdk_56_m_3_7) rfl rfl ?_
    refine st2 _ ?_
    show Sx p e below T2 m 11 #[rv a, u_] [(.int 0)] _
    refine XS.ifYes X2.here hx rfl (pc0 := 11) (pc' := 31) rfl (hb hby d_jdk_56_m_3_11) rfl ((if0 _ _).trans (teq (by decide : (0 : Int32) = (0 : Int32))).1) (by decide) (by decide) ?_
    refine XS.aloadN X2.here hx rfl (hb hby d_jdk_56_m_3_31) rfl rfl ?_
    refine st3.trans ?_
    refine XS.ifYes X3.here hx rfl (pc0 := 37) (pc' := 44) rfl (hb hby d_jdk_56_m_3_37) rfl ((if0 _ _).trans (teq (by decide : (0 : Int32) = (0 : Int32))).1) (by decide) (by decide) ?_
    refine XS.aloadN X3.here hx rfl (hb hby d_jdk_56_m_3_44) rfl rfl ?_
    show Sx p e below T3 m 45 #[rv a, u_] [(.ref a)] _
    refine st4.trans ?_
    refine st9 _ ?_
    show Sx p e below T9 m 53 #[rv a, u_] [(.ref lb9)] _
    jvm_step X9.here [X9.here.top, hx, (hb hby d_jdk_56_m_3_53), X9.method', Bd.returns, Value.isRef, FieldType.isReference]
    first | (intro acts; rw [hr _ acts rfl rfl rfl]) | rw [hr _ _ rfl rfl rfl]
    exact Steps.refl _
  · show QLN Z 3 [.ref pa0, .ref pa1, .ref pa2] h0 n0 _ T9.heap _
    exact ⟨lb9, rfl, N9, K9, lv9⟩
theorem ef_rmY3 (m : MethodId) (x0 : Addr) : entryFrame m #[(.ref x0)] 1 = mkF m 0 #[rv x0] [] := by first | (simp [entryFrame, mkF, argsToLocals, Value.category]; done) | rfl
set_option maxRecDepth 65536 in
set_option maxHeartbeats 40000000 in
theorem rmY3 (l : Launch) (Z : State) (a0 : Array Value) (hw : ∀ d ∈ tables_1, d.before a0 Z = true) (ws : List Jvm.Cond) (a ea pa0 pa1 pa2 em : Addr) (ke : ClassId) (mc : Int32) (h0 : Heap) (n0 : Nat) (Z0 : n0 ≤ h0.size) (hC : ALs Z n0 h0 a ea ke mc (3 : Int32) [.ref pa0, .ref pa1, .ref pa2, .null, .null, .null, .null, .null, .null, .null]) (hx0 : Exa Z h0 pa0 "com/example/clausemap/clausemap/outline/Part") (hx1 : Exa Z h0 pa1 "com/example/clausemap/clausemap/outline/Part") (hx2 : Exa Z h0 pa2 "com/example/clausemap/clausemap/outline/Part") (hM : ∃ (c : ClassId) (k : Class) (m : Addr), Z.vm.findClass "[Ljava/lang/Object;" = some c ∧ Z.vm.classes[c]? = some k ∧ k.mirror = some m) (hO1 : Old Z n0 h0) (hSe : Sta Z Z.heap "java/util/ImmutableCollections" "EMPTY" "Ljava/lang/Object;" (.ref em)) :
    MetFree l (⟨"java/util/List", "copyOf", "(Ljava/util/Collection;)Ljava/util/List;"⟩ : MethodName) (head1 (Jvm.Cond.code (⟨"java/util/List", "copyOf", "(Ljava/util/Collection;)Ljava/util/List;"⟩ : MethodName) jdk_40_method_48_code 1 (some (.object "java/util/List")) :: ws) ({ frames := 8, cells := 3, slots := 8, locals := 103 } : Room)) (fun aa_ UU_ => aa_ = #[(.ref a)] ∧ Z.Warmed39 UU_.vm ∧ UU_.heap = h0) (fun _ _ _ _ _ => True) (fun _ UU_ oo_ UE_ => ∃ vv_ LL_, oo_ = .returned vv_ ∧ QLN Z 3 [.ref pa0, .ref pa1, .ref pa2] h0 n0 vv_ UE_.heap LL_ ∧ FrameEnd UU_ oo_ UE_ LL_ ({ frames := 8, cells := 3, slots := 8, locals := 103 } : Room).cells ({ frames := 8, cells := 3, slots := 8, locals := 103 } : Room).slots) := by
  refine MetFree.of_bodySF (plainFor_of_name pn_11) hisR ?_
  intro p e s m args below meth c s₁ Bd hml0 hP hK
  obtain ⟨rfl, hZ, hh⟩ := hP
  have hx := Bd.exec
  have hby := Bd.bytes
  have hml : c.maxLocals = 1 := hml0
  have hown : s.vm.findClass "java/util/List" = some m.cls := findClass_of_methodNamed Bd.named
  have hnm := (name_of_methodNamed Bd.named Bd.method).1
  have X0 : Stand p l e ({ frames := 8, cells := 3, slots := 8, locals := 103 } : Room) s m #[(.ref a)] below meth c s₁ [] 0 0 := Stand.of_body Bd
  have e0 : s₁.heap = h0 := by rw [← hh, Bd.state]; rfl
  have N0 := Fr.nil n0
  have K0 : Keep h0 h0 [] := Keep.refl h0 _
  have pre0 : ∀ tg, Steps p.tables e below (s₁.setTop (mkF m 0 #[rv a] [])) tg → Steps p.tables e below (s₁.setTop (entryFrame m #[(.ref a)] 1)) tg := fun tg kq_ => castTop (ef_rmY3 m a) kq_
  obtain ⟨⟨hE, hFm, hFe, hFs⟩, hVe, hXe, hO, hG, hge, hn2⟩ := hC
  obtain ⟨_, _, ⟨T1, L1, k1, n1⟩, -, X1, ⟨Lc1, hQ1, l1, y1, z1⟩, st1⟩ := Jvm.LawKit.callS X0 hx (y := (⟨"java/util/ImmutableCollections", "listCopy", "(Ljava/util/Collection;)Ljava/util/List;"⟩ : MethodName)) hown (mvT hZ (w_ hw 63 rfl)) (mvT hZ (w_ hw 64 rfl)) (mvT hZ (w_ hw 65 rfl)) (mvT hZ (w_ hw 66 rfl)) (by decide) (backOf (W := 0) (rmC3 l Z a0 hw [] a ea pa0 pa1 pa2 em ke mc h0 n0 Z0 ⟨⟨hE, hFm, hFe, hFs⟩, hVe, hXe, hO, hG, hge, hn2⟩ hx0 hx1 hx2 hM hO1 hSe) hZ (w_ hw 66 rfl) (w_ hw 65 rfl) (by decide) (by decide)) (g := (mkF m 1 #[rv a] [(.ref a)])) rfl (by rw [hml]; rfl) (argsL := [(.ref a)]) (rest := []) (lenOf pd_11 rfl) rfl (by show 2 * 0 + _ ≤ _; exact Nat.le_of_eq rfl) (hb hby d_jdk_40_m_48_1) (fun _ _ => ⟨rfl, e0, (by decide : 0 + 3 ≤ _), (by decide : 0 + 8 ≤ _)⟩)
  dsimp only [Pt.U, Pt.locs, Pt.cells, Pt.slots] at X1 l1 y1 z1 st1 hQ1
  subst l1 y1 z1
  obtain ⟨lb1, hv1, N1q, kp1, lv1⟩ := hQ1
  subst hv1
  have N1 := Fr.app N0 N1q
  have Z1 : n0 ≤ T1.heap.size := Nat.le_trans Z0 kp1.1
  have K1 : Keep h0 T1.heap [] := K0.trans kp1 all0
  obtain ⟨fs, hr, hrun, hended, hW, hsame⟩ := X1.leave (v := some (.ref lb1)) (fun h => by rw [Bd.returns] at h; cases h)
  refine ⟨_, _, pre0 _ ?_, hrun, hended, _, _, rfl, ?_, ⟨_, rfl⟩, hW, hsame.mono (by decide) (by decide)⟩
  · show Sx p e below s₁ m 0 #[rv a] [] _
    refine XS.aloadN X0.here hx rfl (hb hby d_jdk_40_m_48_0) rfl rfl ?_
    refine st1 _ ?_
    show Sx p e below T1 m 4 #[rv a] [(.ref lb1)] _
    jvm_step X1.here [X1.here.top, hx, (hb hby d_jdk_40_m_48_4), X1.method', Bd.returns, Value.isRef, FieldType.isReference]
    first | (intro acts; rw [hr _ acts rfl rfl rfl]) | rw [hr _ _ rfl rfl rfl]
    exact Steps.refl _
  · show QLN Z 3 [.ref pa0, .ref pa1, .ref pa2] h0 n0 _ T1.heap _
    exact ⟨lb1, rfl, N1, K1, lv1⟩
theorem ef_rmT4 (m : MethodId) (x0 : Addr) : entryFrame m #[(.ref x0)] 1 = mkF m 0 #[rv x0] [] := by first | (simp [entryFrame, mkF, argsToLocals, Value.category]; done) | rfl
set_option maxRecDepth 65536 in
set_option maxHeartbeats 40000000 in
theorem rmT4 (l : Launch) (Z : State) (a0 : Array Value) (hw : ∀ d ∈ tables_1, d.before a0 Z = true) (ws : List Jvm.Cond) (a ea pa0 pa1 pa2 pa3 : Addr) (ke : ClassId) (mc : Int32) (h0 : Heap) (n0 : Nat) (Z0 : n0 ≤ h0.size) (hC : ALs Z n0 h0 a ea ke mc (4 : Int32) [.ref pa0, .ref pa1, .ref pa2, .ref pa3, .null, .null, .null, .null, .null, .null]) (hx0 : Exa Z h0 pa0 "com/example/clausemap/clausemap/outline/Part") (hx1 : Exa Z h0 pa1 "com/example/clausemap/clausemap/outline/Part") (hx2 : Exa Z h0 pa2 "com/example/clausemap/clausemap/outline/Part") (hx3 : Exa Z h0 pa3 "com/example/clausemap/clausemap/outline/Part") (hM : ∃ (c : ClassId) (k : Class) (m : Addr), Z.vm.findClass "[Ljava/lang/Object;" = some c ∧ Z.vm.classes[c]? = some k ∧ k.mirror = some m) :
    MetFree l (⟨"java/util/ArrayList", "toArray", "()[Ljava/lang/Object;"⟩ : MethodName) (head1 (Jvm.Cond.code (⟨"java/util/ArrayList", "toArray", "()[Ljava/lang/Object;"⟩ : MethodName) jdk_38_method_16_code 1 (some (.array (.object "java/lang/Object"))) :: ws) ({ frames := 4, cells := 1, slots := 4, locals := 77 } : Room)) (fun aa_ UU_ => aa_ = #[(.ref a)] ∧ Z.Warmed39 UU_.vm ∧ UU_.heap = h0) (fun _ _ _ _ _ => True) (fun _ UU_ oo_ UE_ => ∃ vv_ LL_, oo_ = .returned vv_ ∧ QTA Z 4 [.ref pa0, .ref pa1, .ref pa2, .ref pa3, .null, .null, .null, .null, .null, .null] h0 n0 vv_ UE_.heap LL_ ∧ FrameEnd UU_ oo_ UE_ LL_ ({ frames := 4, cells := 1, slots := 4, locals := 77 } : Room).cells ({ frames := 4, cells := 1, slots := 4, locals := 77 } : Room).slots) := by
  refine MetFree.of_bodySF (plainFor_of_name pn_7) hisR ?_
  intro p e s m args below meth c s₁ Bd hml0 hP hK
  obtain ⟨rfl, hZ, hh⟩ := hP
  have hx := Bd.exec
  have hby := Bd.bytes
  have hml : c.maxLocals = 1 := hml0
  have hown : s.vm.findClass "java/util/ArrayList" = some m.cls := findClass_of_methodNamed Bd.named
  have hnm := (name_of_methodNamed Bd.named Bd.method).1
  have X0 : Stand p l e ({ frames := 4, cells := 1, slots := 4, locals := 77 } : Room) s m #[(.ref a)] below meth c s₁ [] 0 0 := Stand.of_body Bd
  have e0 : s₁.heap = h0 := by rw [← hh, Bd.state]; rfl
  have N0 := Fr.nil n0
  have K0 : Keep h0 h0 [] := Keep.refl h0 _
  have pre0 : ∀ tg, Steps p.tables e below (s₁.setTop (mkF m 0 #[rv a] [])) tg → Steps p.tables e below (s₁.setTop (entryFrame m #[(.ref a)] 1)) tg := fun tg kq_ => castTop (ef_rmT4 m a) kq_
  obtain ⟨⟨hE, hFm, hFe, hFs⟩, hVe, hXe, hO, hG, hge, hn2⟩ := hC
  obtain ⟨T1, X1, e1, st1⟩ := getF X0 hx hZ hown (host := "") (Or.inl (w_ hw 50 rfl)) Via.refl e0 hFe (g := (mkF m 1 #[rv a] [(.ref a)])) rfl rfl (hb hby d_jdk_38_m_16_1)
  obtain ⟨T2, X2, e2, st2⟩ := getF X1 hx hZ hown (host := "") (Or.inl (w_ hw 82 rfl)) Via.refl e1 hFs (g := (mkF m 5 #[rv a] [(.ref a), (.ref ea)])) rfl rfl (hb hby d_jdk_38_m_16_5)
  have hel3 : ∀ i, ([(.ref pa0), (.ref pa1), (.ref pa2), (.ref pa3), .null, .null, .null, .null, .null, .null] : List Value).getD i .null = .null ∨ ∃ b : Addr, ([(.ref pa0), (.ref pa1), (.ref pa2), (.ref pa3), .null, .null, .null, .null, .null, .null] : List Value).getD i .null = .ref b ∧ Ins Z h0 b "java/lang/Object" true := fun i => by
    match i with
    | 0 => exact Or.inr ⟨_, rfl, (Ins.of_exa hx0 (w_ hw 142 rfl))⟩
    | 1 => exact Or.inr ⟨_, rfl, (Ins.of_exa hx1 (w_ hw 142 rfl))⟩
    | 2 => exact Or.inr ⟨_, rfl, (Ins.of_exa hx2 (w_ hw 142 rfl))⟩
    | 3 => exact Or.inr ⟨_, rfl, (Ins.of_exa hx3 (w_ hw 142 rfl))⟩
    | 4 => exact Or.inl rfl
    | 5 => exact Or.inl rfl
    | 6 => exact Or.inl rfl
    | 7 => exact Or.inl rfl
    | 8 => exact Or.inl rfl
    | 9 => exact Or.inl rfl
    | _ + 10 => exact Or.inl rfl
  obtain ⟨T3, h3, k3, X3, e3, E3, A3, EX3, O3, st3⟩ := own_copyOf X2 hx hZ hw hown (w_ hw 151 rfl) e2 hM hVe hXe hO (Nat.le_of_ble_eq_true rfl) hel3 (n := (4 : Int32)) (by decide) (K := 4) (by decide) (by decide) (by decide) (g := (mkF m 8 #[rv a] [(.int 4), (.ref ea)])) rfl (by rw [hml]; rfl) rfl (hb hby d_jdk_38_m_16_8) (by decide) (W := 0) (by show 2 * 0 + _ ≤ _; exact Nat.le_of_eq rfl) (by decide) (by decide) (by decide)
  obtain ⟨b3, g3⟩ : ∃ z, z = h0.size := ⟨_, rfl⟩
  rw [← g3] at A3 EX3 st3
  have gb_b3 : n0 ≤ b3 := Nat.le_trans Z0 (Nat.le_of_eq g3.symm)
  have sz_b3 : h0.size ≤ b3 := Nat.le_trans K0.1 (Nat.le_of_eq g3.symm)
  have Z3 : n0 ≤ h3.size := Nat.le_trans Z0 E3.1
  have K3 : Keep h0 h3 [] := K0.ext E3
  obtain ⟨fs, hr, hrun, hended, hW, hsame⟩ := X3.leave (v := some (.ref b3)) (fun h => by rw [Bd.returns] at h; cases h)
  refine ⟨_, _, pre0 _ ?_, hrun, hended, _, _, rfl, ?_, ⟨_, rfl⟩, hW, hsame.mono (by decide) (by decide)⟩
  · show Sx p e below s₁ m 0 #[rv a] [] _
    refine XS.aloadN X0.here hx rfl (hb hby d_jdk_38_m_16_0) rfl rfl ?_
    refine st1 _ ?_
    refine XS.aloadN X1.here hx rfl (hb hby d_jdk_38_m_16_4) rfl rfl ?_
    refine st2 _ ?_
    refine st3 _ ?_
    show Sx p e below T3 m 11 #[rv a] [(.ref b3)] _
    jvm_step X3.here [X3.here.top, hx, (hb hby d_jdk_38_m_16_11), X3.method', Bd.returns, Value.isRef, FieldType.isReference]
    first | (intro acts; rw [hr _ acts rfl rfl rfl]) | rw [hr _ _ rfl rfl rfl]
    exact Steps.refl _
  · show QTA Z 4 [.ref pa0, .ref pa1, .ref pa2, .ref pa3, .null, .null, .null, .null, .null, .null] h0 n0 _ T3.heap _
    rw [e3]
    exact ⟨b3, _, rfl, N0, K3, A3⟩
theorem ef_rmC4 (m : MethodId) (x0 : Addr) : entryFrame m #[(.ref x0)] 2 = mkF m 0 #[rv x0, u_] [] := by first | (simp [entryFrame, mkF, argsToLocals, Value.category]; done) | rfl
set_option maxRecDepth 65536 in
set_option maxHeartbeats 40000000 in
theorem rmC4 (l : Launch) (Z : State) (a0 : Array Value) (hw : ∀ d ∈ tables_1, d.before a0 Z = true) (ws : List Jvm.Cond) (a ea pa0 pa1 pa2 pa3 em : Addr) (ke : ClassId) (mc : Int32) (h0 : Heap) (n0 : Nat) (Z0 : n0 ≤ h0.size) (hC : ALs Z n0 h0 a ea ke mc (4 : Int32) [.ref pa0, .ref pa1, .ref pa2, .ref pa3, .null, .null, .null, .null, .null, .null]) (hx0 : Exa Z h0 pa0 "com/example/clausemap/clausemap/outline/Part") (hx1 : Exa Z h0 pa1 "com/example/clausemap/clausemap/outline/Part") (hx2 : Exa Z h0 pa2 "com/example/clausemap/clausemap/outline/Part") (hx3 : Exa Z h0 pa3 "com/example/clausemap/clausemap/outline/Part") (hM : ∃ (c : ClassId) (k : Class) (m : Addr), Z.vm.findClass "[Ljava/lang/Object;" = some c ∧ Z.vm.classes[c]? = some k ∧ k.mirror = some m) (hO1 : Old Z n0 h0) (hSe : Sta Z Z.heap "java/util/ImmutableCollections" "EMPTY" "Ljava/lang/Object;" (.ref em)) :
    MetFree l (⟨"java/util/ImmutableCollections", "listCopy", "(Ljava/util/Collection;)Ljava/util/List;"⟩ : MethodName) (head1 (Jvm.Cond.code (⟨"java/util/ImmutableCollections", "listCopy", "(Ljava/util/Collection;)Ljava/util/List;"⟩ : MethodName) jdk_56_method_3_code 2 (some (.object "java/util/List")) :: ws) ({ frames := 7, cells := 3, slots := 10, locals := 90 } : Room)) (fun aa_ UU_ => aa_ = #[(.ref a)] ∧ Z.Warmed39 UU_.vm ∧ UU_.heap = h0) (fun _ _ _ _ _ => True) (fun _ UU_ oo_ UE_ => ∃ vv_ LL_, oo_ = .returned vv_ ∧ QLN Z 4 [.ref pa0, .ref pa1, .ref pa2, .ref pa3] h0 n0 vv_ UE_.heap LL_ ∧ FrameEnd UU_ oo_ UE_ LL_ ({ frames := 7, cells := 3, slots := 10, locals := 90 } : Room).cells ({ frames := 7, cells := 3, slots := 10, locals := 90 } : Room).slots) := by
  refine MetFree.of_bodySF (plainFor_of_name pn_10) hisR ?_
  intro p e s m args below meth c s₁ Bd hml0 hP hK
  obtain ⟨rfl, hZ, hh⟩ := hP
  have hx := Bd.exec
  have hby := Bd.bytes
  have hml : c.maxLocals = 2 := hml0
  have hown : s.vm.findClass "java/util/ImmutableCollections" = some m.cls := findClass_of_methodNamed Bd.named
  have hnm := (name_of_methodNamed Bd.named Bd.method).1
  have X0 : Stand p l e ({ frames := 7, cells := 3, slots := 10, locals := 90 } : Room) s m #[(.ref a)] below meth c s₁ [] 0 0 := Stand.of_body Bd
  have e0 : s₁.heap = h0 := by rw [← hh, Bd.state]; rfl
  have N0 := Fr.nil n0
  have K0 : Keep h0 h0 [] := Keep.refl h0 _
  have pre0 : ∀ tg, Steps p.tables e below (s₁.setTop (mkF m 0 #[rv a, u_] [])) tg → Steps p.tables e below (s₁.setTop (entryFrame m #[(.ref a)] 2)) tg := fun tg kq_ => castTop (ef_rmC4 m a) kq_
  obtain ⟨⟨hE, hFm, hFe, hFs⟩, hVe, hXe, hO, hG, hge, hn2⟩ := hC
  obtain ⟨T1, X1, e1, st1⟩ := instNo X0 hx hZ hown (w_ hw 67 rfl) e0 hE (own_notA (w_ hw 68 rfl) (w_ hw 69 rfl) (w_ hw 70 rfl) (w_ hw 71 rfl) (w_ hw 221 rfl) (by decide) (by decide) (by decide) (by decide)) (g := (mkF m 1 #[rv a, u_] [(.ref a)])) rfl rfl (hb hby d_jdk_56_m_3_1)
  obtain ⟨T2, X2, e2, st2⟩ := instNo X1 hx hZ hown (w_ hw 72 rfl) e1 hE (own_notA (w_ hw 68 rfl) (w_ hw 69 rfl) (w_ hw 70 rfl) (w_ hw 71 rfl) (w_ hw 184 rfl) (by decide) (by decide) (by decide) (by decide)) (g := (mkF m 8 #[rv a, u_] [(.ref a)])) rfl rfl (hb hby d_jdk_56_m_3_8)
  obtain ⟨cq3, kq3, q3a, q3b, q3c⟩ := isOf hZ e2 hE
  obtain ⟨_, _, ⟨T3, L3, k3, n3⟩, -, X3, ⟨Lc3, hQ3, l3, y3, z3⟩, st3⟩ := X2.interfaceBack hx (xi := (⟨"java/util/Collection", "isEmpty", "()Z"⟩ : MethodName)) (y := (⟨"java/util/ArrayList", "isEmpty", "()Z"⟩ : MethodName)) hown (mvT hZ (w_ hw 73 rfl)) (mvT hZ (w_ hw 74 rfl)) (mvT hZ (w_ hw 75 rfl)) (mvT hZ (w_ hw 76 rfl)) (mvT hZ (w_ hw 77 rfl)) (mvT hZ (w_ hw 78 rfl)) (mvT hZ (w_ hw 79 rfl)) (mvT hZ (w_ hw 80 rfl)) (by decide) (backOf (W := 0) (rmIE l Z a0 hw [] a (4 : Int32) h0 n0 Z0 hFs) hZ (w_ hw 81 rfl) (w_ hw 30 rfl) (by decide) (by decide)) q3a q3b q3c (g := (mkF m 32 #[rv a, u_] [(.ref a)])) rfl (by rw [hml]; rfl) (Steps.refl _) (argsL := []) (rest := []) (lenOf pd_10 rfl) rfl (by show 2 * 0 + _ ≤ _; exact Nat.le_of_eq rfl) (hb hby d_jdk_56_m_3_32) (fun _ _ => ⟨rfl, e2, (by decide : 0 + 0 ≤ _), (by decide : 0 + 0 ≤ _)⟩)
  dsimp only [Pt.U, Pt.locs, Pt.cells, Pt.slots] at X3 l3 y3 z3 st3 hQ3
  subst l3 y3 z3
  obtain ⟨hv3, N3q, r3⟩ := hQ3
  rw [if_neg (by decide)] at hv3
  subst hv3
  have N3 := Fr.app N0 N3q
  obtain ⟨cq4, kq4, q4a, q4b, q4c⟩ := isOf hZ r3 hE
  obtain ⟨_, _, ⟨T4, L4, k4, n4⟩, -, X4, ⟨Lc4, hQ4, l4, y4, z4⟩, st4⟩ := X3.interfaceBack hx (xi := (⟨"java/util/Collection", "toArray", "()[Ljava/lang/Object;"⟩ : MethodName)) (y := (⟨"java/util/ArrayList", "toArray", "()[Ljava/lang/Object;"⟩ : MethodName)) hown (mvT hZ (w_ hw 143 rfl)) (mvT hZ (w_ hw 144 rfl)) (mvT hZ (w_ hw 145 rfl)) (mvT hZ (w_ hw 146 rfl)) (mvT hZ (w_ hw 147 rfl)) (mvT hZ (w_ hw 148 rfl)) (mvT hZ (w_ hw 149 rfl)) (mvT hZ (w_ hw 80 rfl)) (by decide) (backOf (W := 0) (rmT4 l Z a0 hw [] a ea pa0 pa1 pa2 pa3 ke mc h0 n0 Z0 ⟨⟨hE, hFm, hFe, hFs⟩, hVe, hXe, hO, hG, hge, hn2⟩ hx0 hx1 hx2 hx3 hM) hZ (w_ hw 150 rfl) (w_ hw 30 rfl) (by decide) (by decide)) q4a q4b q4c (g := (mkF m 45 #[rv a, u_] [(.ref a)])) rfl (by rw [hml]; rfl) (Steps.refl _) (argsL := []) (rest := []) (lenOf pd_3 rfl) rfl (by show 2 * 0 + _ ≤ _; exact Nat.le_of_eq rfl) (hb hby d_jdk_56_m_3_45) (fun _ _ => ⟨rfl, r3, (by decide : 0 + 1 ≤ _), (by decide : 0 + 4 ≤ _)⟩)
  dsimp only [Pt.U, Pt.locs, Pt.cells, Pt.slots] at X4 l4 y4 z4 st4 hQ4
  subst l4 y4 z4
  obtain ⟨ba4, ka4, hv4, N4q, kp4, va4⟩ := hQ4
  subst hv4
  have N4 := Fr.app N3 N4q
  have Z4 : n0 ≤ T4.heap.size := Nat.le_trans Z0 kp4.1
  have K4 : Keep h0 T4.heap [] := K0.trans kp4 all0
  have f5 := (hx0.keep kp4)
  have f6 := (hx1.keep kp4)
  have f7 := (hx2.keep kp4)
  have f8 := (hx3.keep kp4)
  have f9 := (hO1.keep kp4 all0)
  obtain ⟨_, _, ⟨T10, L10, k10, n10⟩, -, X10, ⟨Lc10, hQ10, l10, y10, z10⟩, st10⟩ := Jvm.LawKit.callS X4 hx (y := (⟨"java/util/List", "of", "([Ljava/lang/Object;)Ljava/util/List;"⟩ : MethodName)) hown (mvT hZ (w_ hw 173 rfl)) (mvT hZ (w_ hw 174 rfl)) (mvT hZ (w_ hw 61 rfl)) (mvT hZ (w_ hw 175 rfl)) (by decide) (backOf (W := 0) (rmO4 l Z a0 hw [] ba4 pa0 pa1 pa2 pa3 em ka4 T4.heap n0 Z4 va4 f5 f6 f7 f8 f9 hSe) hZ (w_ hw 175 rfl) (w_ hw 61 rfl) (by decide) (by decide)) (g := (mkF m 50 #[rv a, u_] [(.ref ba4)])) rfl (by rw [hml]; rfl) (argsL := [(.ref ba4)]) (rest := []) (lenOf pd_9 rfl) rfl (by show 2 * 0 + _ ≤ _; exact Nat.le_of_eq rfl) (hb hby d_jdk_56_m_3_50) (fun _ _ => ⟨rfl, rfl, (by decide : 1 + 2 ≤ _), (by decide : 4 + 6 ≤ _)⟩)
  dsimp only [Pt.U, Pt.locs, Pt.cells, Pt.slots] at X10 l10 y10 z10 st10 hQ10
  subst l10 y10 z10
  obtain ⟨lb10, hv10, N10q, kp10, lv10⟩ := hQ10
  subst hv10
  have N10 := Fr.app N4 N10q
  have Z10 : n0 ≤ T10.heap.size := Nat.le_trans Z4 kp10.1
  have K10 : Keep h0 T10.heap [] := K4.trans kp10 all0
  obtain ⟨fs, hr, hrun, hended, hW, hsame⟩ := X10.leave (v := some (.ref lb10)) (fun h => by rw [Bd.returns] at h; cases h)
  refine ⟨_, _, pre0 _ ?_, hrun, hended, _, _, rfl, ?_, ⟨_, rfl⟩, hW, hsame.mono (by decide) (by decide)⟩
  · show Sx p e below s₁ m 0 #[rv a, u_] [] _
    refine XS.aloadN X0.here hx rfl (hb hby d_jdk_56_m_3_0) rfl rfl ?_
    refine st1 _ ?_
    refine XS.ifNo X1.here hx rfl (hb hby d_jdk_56_m_3_4) rfl ((if0 _ _).trans (teq (by decide : (0 : Int32) = (0 : Int32))).2) ?_
    refine XS.aloadN X1.here hx rfl (hb hby d_jdk_56_m_3_7) rfl rfl ?_
    refine st2 _ ?_
    show Sx p e below T2 m 11 #[rv a, u_] [(.int 0)] _
    refine XS.ifYes X2.here hx rfl (pc0 := 11) (pc' := 31) rfl (hb hby d_jdk_56_m_3_11) rfl ((if0 _ _).trans (teq (by decide : (0 : Int32) = (0 : Int32))).1) (by decide) (by decide) ?_
    refine XS.aloadN X2.here hx rfl (hb hby d_jdk_56_m_3_31) rfl rfl ?_
    refine st3.trans ?_
    refine XS.ifYes X3.here hx rfl (pc0 := 37) (pc' := 44) rfl (hb hby d_jdk_56_m_3_37) rfl ((if0 _ _).trans (teq (by decide : (0 : Int32) = (0 : Int32))).1) (by decide) (by decide) ?_
    refine XS.aloadN X3.here hx rfl (hb hby d_jdk_56_m_3_44) rfl rfl ?_
    show Sx p e below T3 m 45 #[rv a, u_] [(.ref a)] _
    refine st4.trans ?_
    refine st10 _ ?_
    show Sx p e below T10 m 53 #[rv a, u_] [(.ref lb10)] _
    jvm_step X10.here [X10.here.top, hx, (hb hby d_jdk_56_m_3_53), X10.method', Bd.returns, Value.isRef, FieldType.isReference]
    first | (intro acts; rw [hr _ acts rfl rfl rfl]) | rw [hr _ _ rfl rfl rfl]
    exact Steps.refl _
  · show QLN Z 4 [.ref pa0, .ref pa1, .ref pa2, .ref pa3] h0 n0 _ T10.heap _
    exact ⟨lb10, rfl, N10, K10, lv10⟩
theorem ef_rmY4 (m : MethodId) (x0 : Addr) : entryFrame m #[(.ref x0)] 1 = mkF m 0 #[rv x0] [] := by first | (simp [entryFrame, mkF, argsToLocals, Value.category]; done) | rfl
set_option maxRecDepth 65536 in
set_option maxHeartbeats 40000000 in
theorem rmY4 (l : Launch) (Z : State) (a0 : Array Value) (hw : ∀ d ∈ tables_1, d.before a0 Z = true) (ws : List Jvm.Cond) (a ea pa0 pa1 pa2 pa3 em : Addr) (ke : ClassId) (mc : Int32) (h0 : Heap) (n0 : Nat) (Z0 : n0 ≤ h0.size) (hC : ALs Z n0 h0 a ea ke mc (4 : Int32) [.ref pa0, .ref pa1, .ref pa2, .ref pa3, .null, .null, .null, .null, .null, .null]) (hx0 : Exa Z h0 pa0 "com/example/clausemap/clausemap/outline/Part") (hx1 : Exa Z h0 pa1 "com/example/clausemap/clausemap/outline/Part") (hx2 : Exa Z h0 pa2 "com/example/clausemap/clausemap/outline/Part") (hx3 : Exa Z h0 pa3 "com/example/clausemap/clausemap/outline/Part") (hM : ∃ (c : ClassId) (k : Class) (m : Addr), Z.vm.findClass "[Ljava/lang/Object;" = some c ∧ Z.vm.classes[c]? = some k ∧ k.mirror = some m) (hO1 : Old Z n0 h0) (hSe : Sta Z Z.heap "java/util/ImmutableCollections" "EMPTY" "Ljava/lang/Object;" (.ref em)) :
    MetFree l (⟨"java/util/List", "copyOf", "(Ljava/util/Collection;)Ljava/util/List;"⟩ : MethodName) (head1 (Jvm.Cond.code (⟨"java/util/List", "copyOf", "(Ljava/util/Collection;)Ljava/util/List;"⟩ : MethodName) jdk_40_method_48_code 1 (some (.object "java/util/List")) :: ws) ({ frames := 8, cells := 3, slots := 10, locals := 103 } : Room)) (fun aa_ UU_ => aa_ = #[(.ref a)] ∧ Z.Warmed39 UU_.vm ∧ UU_.heap = h0) (fun _ _ _ _ _ => True) (fun _ UU_ oo_ UE_ => ∃ vv_ LL_, oo_ = .returned vv_ ∧ QLN Z 4 [.ref pa0, .ref pa1, .ref pa2, .ref pa3] h0 n0 vv_ UE_.heap LL_ ∧ FrameEnd UU_ oo_ UE_ LL_ ({ frames := 8, cells := 3, slots := 10, locals := 103 } : Room).cells ({ frames := 8, cells := 3, slots := 10, locals := 103 } : Room).slots) := by
  refine MetFree.of_bodySF (plainFor_of_name pn_11) hisR ?_
  intro p e s m args below meth c s₁ Bd hml0 hP hK
  obtain ⟨rfl, hZ, hh⟩ := hP
  have hx := Bd.exec
  have hby := Bd.bytes
  have hml : c.maxLocals = 1 := hml0
  have hown : s.vm.findClass "java/util/List" = some m.cls := findClass_of_methodNamed Bd.named
  have hnm := (name_of_methodNamed Bd.named Bd.method).1
  have X0 : Stand p l e ({ frames := 8, cells := 3, slots := 10, locals := 103 } : Room) s m #[(.ref a)] below meth c s₁ [] 0 0 := Stand.of_body Bd
  have e0 : s₁.heap = h0 := by rw [← hh, Bd.state]; rfl
  have N0 := Fr.nil n0
  have K0 : Keep h0 h0 [] := Keep.refl h0 _
  have pre0 : ∀ tg, Steps p.tables e below (s₁.setTop (mkF m 0 #[rv a] [])) tg → Steps p.tables e below (s₁.setTop (entryFrame m #[(.ref a)] 1)) tg := fun tg kq_ => castTop (ef_rmY4 m a) kq_
  obtain ⟨⟨hE, hFm, hFe, hFs⟩, hVe, hXe, hO, hG, hge, hn2⟩ := hC
  obtain ⟨_, _, ⟨T1, L1, k1, n1⟩, -, X1, ⟨Lc1, hQ1, l1, y1, z1⟩, st1⟩ := Jvm.LawKit.callS X0 hx (y := (⟨"java/util/ImmutableCollections", "listCopy", "(Ljava/util/Collection;)Ljava/util/List;"⟩ : MethodName)) hown (mvT hZ (w_ hw 63 rfl)) (mvT hZ (w_ hw 64 rfl)) (mvT hZ (w_ hw 65 rfl)) (mvT hZ (w_ hw 66 rfl)) (by decide) (backOf (W := 0) (rmC4 l Z a0 hw [] a ea pa0 pa1 pa2 pa3 em ke mc h0 n0 Z0 ⟨⟨hE, hFm, hFe, hFs⟩, hVe, hXe, hO, hG, hge, hn2⟩ hx0 hx1 hx2 hx3 hM hO1 hSe) hZ (w_ hw 66 rfl) (w_ hw 65 rfl) (by decide) (by decide)) (g := (mkF m 1 #[rv a] [(.ref a)])) rfl (by rw [hml]; rfl) (argsL := [(.ref a)]) (rest := []) (lenOf pd_11 rfl) rfl (by show 2 * 0 + _ ≤ _; exact Nat.le_of_eq rfl) (hb hby d_jdk_40_m_48_1) (fun _ _ => ⟨rfl, e0, (by decide : 0 + 3 ≤ _), (by decide : 0 + 10 ≤ _)⟩)
  dsimp only [Pt.U, Pt.locs, Pt.cells, Pt.slots] at X1 l1 y1 z1 st1 hQ1
  subst l1 y1 z1
  obtain ⟨lb1, hv1, N1q, kp1, lv1⟩ := hQ1
  subst hv1
  have N1 := Fr.app N0 N1q
  have Z1 : n0 ≤ T1.heap.size := Nat.le_trans Z0 kp1.1
  have K1 : Keep h0 T1.heap [] := K0.trans kp1 all0
  obtain ⟨fs, hr, hrun, hended, hW, hsame⟩ := X1.leave (v := some (.ref lb1)) (fun h => by rw [Bd.returns] at h; cases h)
  refine ⟨_, _, pre0 _ ?_, hrun, hended, _, _, rfl, ?_, ⟨_, rfl⟩, hW, hsame.mono (by decide) (by decide)⟩
  · show Sx p e below s₁ m 0 #[rv a] [] _
    refine XS.aloadN X0.here hx rfl (hb hby d_jdk_40_m_48_0) rfl rfl ?_
    refine st1 _ ?_
    show Sx p e below T1 m 4 #[rv a] [(.ref lb1)] _
    jvm_step X1.here [X1.here.top, hx, (hb hby d_jdk_40_m_48_4), X1.method', Bd.returns, Value.isRef, FieldType.isReference]
    first | (intro acts; rw [hr _ acts rfl rfl rfl]) | rw [hr _ _ rfl rfl rfl]
    exact Steps.refl _
  · show QLN Z 4 [.ref pa0, .ref pa1, .ref pa2, .ref pa3] h0 n0 _ T1.heap _
    exact ⟨lb1, rfl, N1, K1, lv1⟩
theorem ef_rmC0 (m : MethodId) (x0 : Addr) : entryFrame m #[(.ref x0)] 2 = mkF m 0 #[rv x0, u_] [] := by first | (simp [entryFrame, mkF, argsToLocals, Value.category]; done) | rfl
set_option maxRecDepth 65536 in
set_option maxHeartbeats 40000000 in
theorem rmC0 (l : Launch) (Z : State) (a0 : Array Value) (hw : ∀ d ∈ tables_1, d.before a0 Z = true) (ws : List Jvm.Cond) (a dc el : Addr) (mc : Int32) (h0 : Heap) (n0 : Nat) (Z0 : n0 ≤ h0.size) (hA : ALf Z h0 a mc (.ref dc) 0) (hSl : Sta Z h0 "java/util/ImmutableCollections" "EMPTY_LIST" "Ljava/util/ImmutableCollections$ListN;" (.ref el)) :
    MetFree l (⟨"java/util/ImmutableCollections", "listCopy", "(Ljava/util/Collection;)Ljava/util/List;"⟩ : MethodName) (head1 (Jvm.Cond.code (⟨"java/util/ImmutableCollections", "listCopy", "(Ljava/util/Collection;)Ljava/util/List;"⟩ : MethodName) jdk_56_method_3_code 2 (some (.object "java/util/List")) :: ws) ({ frames := 1, cells := 0, slots := 0, locals := 12 } : Room)) (fun aa_ UU_ => aa_ = #[(.ref a)] ∧ Z.Warmed39 UU_.vm ∧ UU_.heap = h0) (fun _ _ _ _ _ => True) (fun _ UU_ oo_ UE_ => ∃ vv_ LL_, oo_ = .returned vv_ ∧ QV (some (.ref el)) h0 n0 vv_ UE_.heap LL_ ∧ FrameEnd UU_ oo_ UE_ LL_ ({ frames := 1, cells := 0, slots := 0, locals := 12 } : Room).cells ({ frames := 1, cells := 0, slots := 0, locals := 12 } : Room).slots) := by
  refine MetFree.of_bodySF (plainFor_of_name pn_10) hisR ?_
  intro p e s m args below meth c s₁ Bd hml0 hP hK
  obtain ⟨rfl, hZ, hh⟩ := hP
  have hx := Bd.exec
  have hby := Bd.bytes
  have hml : c.maxLocals = 2 := hml0
  have hown : s.vm.findClass "java/util/ImmutableCollections" = some m.cls := findClass_of_methodNamed Bd.named
  have hnm := (name_of_methodNamed Bd.named Bd.method).1
  have X0 : Stand p l e ({ frames := 1, cells := 0, slots := 0, locals := 12 } : Room) s m #[(.ref a)] below meth c s₁ [] 0 0 := Stand.of_body Bd
  have e0 : s₁.heap = h0 := by rw [← hh, Bd.state]; rfl
  have N0 := Fr.nil n0
  have pre0 : ∀ tg, Steps p.tables e below (s₁.setTop (mkF m 0 #[rv a, u_] [])) tg → Steps p.tables e below (s₁.setTop (entryFrame m #[(.ref a)] 2)) tg := fun tg kq_ => castTop (ef_rmC0 m a) kq_
  obtain ⟨hE, hFm, hFe, hFs⟩ := hA
  obtain ⟨T1, X1, e1, st1⟩ := instNo X0 hx hZ hown (w_ hw 67 rfl) e0 hE (own_notA (w_ hw 68 rfl) (w_ hw 69 rfl) (w_ hw 70 rfl) (w_ hw 71 rfl) (w_ hw 221 rfl) (by decide) (by decide) (by decide) (by decide)) (g := (mkF m 1 #[rv a, u_] [(.ref a)])) rfl rfl (hb hby d_jdk_56_m_3_1)
  obtain ⟨T2, X2, e2, st2⟩ := instNo X1 hx hZ hown (w_ hw 72 rfl) e1 hE (own_notA (w_ hw 68 rfl) (w_ hw 69 rfl) (w_ hw 70 rfl) (w_ hw 71 rfl) (w_ hw 184 rfl) (by decide) (by decide) (by decide) (by decide)) (g := (mkF m 8 #[rv a, u_] [(.ref a)])) rfl rfl (hb hby d_jdk_56_m_3_8)
  obtain ⟨cq3, kq3, q3a, q3b, q3c⟩ := isOf hZ e2 hE
  obtain ⟨_, _, ⟨T3, L3, k3, n3⟩, -, X3, ⟨Lc3, hQ3, l3, y3, z3⟩, st3⟩ := X2.interfaceBack hx (xi := (⟨"java/util/Collection", "isEmpty", "()Z"⟩ : MethodName)) (y := (⟨"java/util/ArrayList", "isEmpty", "()Z"⟩ : MethodName)) hown (mvT hZ (w_ hw 73 rfl)) (mvT hZ (w_ hw 74 rfl)) (mvT hZ (w_ hw 75 rfl)) (mvT hZ (w_ hw 76 rfl)) (mvT hZ (w_ hw 77 rfl)) (mvT hZ (w_ hw 78 rfl)) (mvT hZ (w_ hw 79 rfl)) (mvT hZ (w_ hw 80 rfl)) (by decide) (backOf (W := 0) (rmIE l Z a0 hw [] a (0 : Int32) h0 n0 Z0 hFs) hZ (w_ hw 81 rfl) (w_ hw 30 rfl) (by decide) (by decide)) q3a q3b q3c (g := (mkF m 32 #[rv a, u_] [(.ref a)])) rfl (by rw [hml]; rfl) (Steps.refl _) (argsL := []) (rest := []) (lenOf pd_10 rfl) rfl (by show 2 * 0 + _ ≤ _; exact Nat.le_of_eq rfl) (hb hby d_jdk_56_m_3_32) (fun _ _ => ⟨rfl, e2, (by decide : 0 + 0 ≤ _), (by decide : 0 + 0 ≤ _)⟩)
  dsimp only [Pt.U, Pt.locs, Pt.cells, Pt.slots] at X3 l3 y3 z3 st3 hQ3
  subst l3 y3 z3
  obtain ⟨hv3, N3q, r3⟩ := hQ3
  rw [if_pos rfl] at hv3
  subst hv3
  have N3 := Fr.app N0 N3q
  obtain ⟨_, _, ⟨T4, L4, k4, n4⟩, -, X4, ⟨Lc4, hQ4, l4, y4, z4⟩, st4⟩ := Jvm.LawKit.callS X3 hx (y := (⟨"java/util/List", "of", "()Ljava/util/List;"⟩ : MethodName)) hown (mvT hZ (w_ hw 84 rfl)) (mvT hZ (w_ hw 85 rfl)) (mvT hZ (w_ hw 61 rfl)) (mvT hZ (w_ hw 86 rfl)) (by decide) (backOf (W := 0) (rmO0 l Z a0 hw [] el h0 n0 Z0 hSl) hZ (w_ hw 86 rfl) (w_ hw 61 rfl) (by decide) (by decide)) (g := (mkF m 40 #[rv a, u_] [])) rfl (by rw [hml]; rfl) (argsL := []) (rest := []) (lenOf pd_12 rfl) rfl (by show 2 * 0 + _ ≤ _; exact Nat.le_of_eq rfl) (hb hby d_jdk_56_m_3_40) (fun _ _ => ⟨rfl, r3, (by decide : 0 + 0 ≤ _), (by decide : 0 + 0 ≤ _)⟩)
  dsimp only [Pt.U, Pt.locs, Pt.cells, Pt.slots] at X4 l4 y4 z4 st4 hQ4
  subst l4 y4 z4
  obtain ⟨hv4, N4q, r4⟩ := hQ4
  subst hv4
  have N4 := Fr.app N3 N4q
  obtain ⟨fs, hr, hrun, hended, hW, hsame⟩ := X4.leave (v := some (.ref el)) (fun h => by rw [Bd.returns] at h; cases h)
  refine ⟨_, _, pre0 _ ?_, hrun, hended, _, _, rfl, ?_, ⟨_, rfl⟩, hW, hsame.mono (by decide) (by decide)⟩
  · show Sx p e below s₁ m 0 #[rv a, u_] [] _
    refine XS.aloadN X0.here hx rfl (hb hby d_jdk_56_m_3_0) rfl rfl ?_
    refine st1 _ ?_
    refine XS.ifNo X1.here hx rfl (hb hby d_jdk_56_m_3_4) rfl ((if0 _ _).trans (teq (by decide : (0 : Int32) = (0 : Int32))).2) ?_
    refine XS.aloadN X1.here hx rfl (hb hby d_jdk_56_m_3_7) rfl rfl ?_
    refine st2 _ ?_
    show Sx p e below T2 m 11 #[rv a, u_] [(.int 0)] _
    refine XS.ifYes X2.here hx rfl (pc0 := 11) (pc' := 31) rfl (hb hby d_jdk_56_m_3_11) rfl ((if0 _ _).trans (teq (by decide : (0 : Int32) = (0 : Int32))).1) (by decide) (by decide) ?_
    refine XS.aloadN X2.here hx rfl (hb hby d_jdk_56_m_3_31) rfl rfl ?_
    refine st3.trans ?_
    refine XS.ifNo X3.here hx rfl (hb hby d_jdk_56_m_3_37) rfl ((if0 _ _).trans (feq (by decide : ¬ ((1 : Int32) = (0 : Int32)))).1) ?_
    refine st4 _ ?_
    show Sx p e below T4 m 43 #[rv a, u_] [(.ref el)] _
    jvm_step X4.here [X4.here.top, hx, (hb hby d_jdk_56_m_3_43), X4.method', Bd.returns, Value.isRef, FieldType.isReference]
    first | (intro acts; rw [hr _ acts rfl rfl rfl]) | rw [hr _ _ rfl rfl rfl]
    exact Steps.refl _
  · show QV (some (.ref el)) h0 n0 _ T4.heap _
    rw [r4]
    exact ⟨rfl, N4, rfl⟩
theorem ef_rmY0 (m : MethodId) (x0 : Addr) : entryFrame m #[(.ref x0)] 1 = mkF m 0 #[rv x0] [] := by first | (simp [entryFrame, mkF, argsToLocals, Value.category]; done) | rfl
set_option maxRecDepth 65536 in
set_option maxHeartbeats 40000000 in
theorem rmY0 (l : Launch) (Z : State) (a0 : Array Value) (hw : ∀ d ∈ tables_1, d.before a0 Z = true) (ws : List Jvm.Cond) (a dc el : Addr) (mc : Int32) (h0 : Heap) (n0 : Nat) (Z0 : n0 ≤ h0.size) (hA : ALf Z h0 a mc (.ref dc) 0) (hSl : Sta Z h0 "java/util/ImmutableCollections" "EMPTY_LIST" "Ljava/util/ImmutableCollections$ListN;" (.ref el)) :
    MetFree l (⟨"java/util/List", "copyOf", "(Ljava/util/Collection;)Ljava/util/List;"⟩ : MethodName) (head1 (Jvm.Cond.code (⟨"java/util/List", "copyOf", "(Ljava/util/Collection;)Ljava/util/List;"⟩ : MethodName) jdk_40_method_48_code 1 (some (.object "java/util/List")) :: ws) ({ frames := 2, cells := 0, slots := 0, locals := 25 } : Room)) (fun aa_ UU_ => aa_ = #[(.ref a)] ∧ Z.Warmed39 UU_.vm ∧ UU_.heap = h0) (fun _ _ _ _ _ => True) (fun _ UU_ oo_ UE_ => ∃ vv_ LL_, oo_ = .returned vv_ ∧ QV (some (.ref el)) h0 n0 vv_ UE_.heap LL_ ∧ FrameEnd UU_ oo_ UE_ LL_ ({ frames := 2, cells := 0, slots := 0, locals := 25 } : Room).cells ({ frames := 2, cells := 0, slots := 0, locals := 25 } : Room).slots) := by
  refine MetFree.of_bodySF (plainFor_of_name pn_11) hisR ?_
  intro p e s m args below meth c s₁ Bd hml0 hP hK
  obtain ⟨rfl, hZ, hh⟩ := hP
  have hx := Bd.exec
  have hby := Bd.bytes
  have hml : c.maxLocals = 1 := hml0
  have hown : s.vm.findClass "java/util/List" = some m.cls := findClass_of_methodNamed Bd.named
  have hnm := (name_of_methodNamed Bd.named Bd.method).1
  have X0 : Stand p l e ({ frames := 2, cells := 0, slots := 0, locals := 25 } : Room) s m #[(.ref a)] below meth c s₁ [] 0 0 := Stand.of_body Bd
  have e0 : s₁.heap = h0 := by rw [← hh, Bd.state]; rfl
  have N0 := Fr.nil n0
  have pre0 : ∀ tg, Steps p.tables e below (s₁.setTop (mkF m 0 #[rv a] [])) tg → Steps p.tables e below (s₁.setTop (entryFrame m #[(.ref a)] 1)) tg := fun tg kq_ => castTop (ef_rmY0 m a) kq_
  obtain ⟨hE, hFm, hFe, hFs⟩ := hA
  obtain ⟨_, _, ⟨T1, L1, k1, n1⟩, -, X1, ⟨Lc1, hQ1, l1, y1, z1⟩, st1⟩ := Jvm.LawKit.callS X0 hx (y := (⟨"java/util/ImmutableCollections", "listCopy", "(Ljava/util/Collection;)Ljava/util/List;"⟩ : MethodName)) hown (mvT hZ (w_ hw 63 rfl)) (mvT hZ (w_ hw 64 rfl)) (mvT hZ (w_ hw 65 rfl)) (mvT hZ (w_ hw 66 rfl)) (by decide) (backOf (W := 0) (rmC0 l Z a0 hw [] a dc el mc h0 n0 Z0 ⟨hE, hFm, hFe, hFs⟩ hSl) hZ (w_ hw 66 rfl) (w_ hw 65 rfl) (by decide) (by decide)) (g := (mkF m 1 #[rv a] [(.ref a)])) rfl (by rw [hml]; rfl) (argsL := [(.ref a)]) (rest := []) (lenOf pd_11 rfl) rfl (by show 2 * 0 + _ ≤ _; exact Nat.le_of_eq rfl) (hb hby d_jdk_40_m_48_1) (fun _ _ => ⟨rfl, e0, (by decide : 0 + 0 ≤ _), (by decide : 0 + 0 ≤ _)⟩)
  dsimp only [Pt.U, Pt.locs, Pt.cells, Pt.slots] at X1 l1 y1 z1 st1 hQ1
  subst l1 y1 z1
  obtain ⟨hv1, N1q, r1⟩ := hQ1
  subst hv1
  have N1 := Fr.app N0 N1q
  obtain ⟨fs, hr, hrun, hended, hW, hsame⟩ := X1.leave (v := some (.ref el)) (fun h => by rw [Bd.returns] at h; cases h)
  refine ⟨_, _, pre0 _ ?_, hrun, hended, _, _, rfl, ?_, ⟨_, rfl⟩, hW, hsame.mono (by decide) (by decide)⟩
  · show Sx p e below s₁ m 0 #[rv a] [] _
    refine XS.aloadN X0.here hx rfl (hb hby d_jdk_40_m_48_0) rfl rfl ?_
    refine st1 _ ?_
    show Sx p e below T1 m 4 #[rv a] [(.ref el)] _
    jvm_step X1.here [X1.here.top, hx, (hb hby d_jdk_40_m_48_4), X1.method', Bd.returns, Value.isRef, FieldType.isReference]
    first | (intro acts; rw [hr _ acts rfl rfl rfl]) | rw [hr _ _ rfl rfl rfl]
    exact Steps.refl _
  · show QV (some (.ref el)) h0 n0 _ T1.heap _
    rw [r1]
    exact ⟨rfl, N1, rfl⟩
theorem ef_rmI0 (m : MethodId) (x0 : Addr) (x1 : Addr) : entryFrame m #[(.ref x0), (.ref x1)] 2 = mkF m 0 #[rv x0, rv x1] [] := by first | (simp [entryFrame, mkF, argsToLocals, Value.category]; done) | rfl
set_option maxRecDepth 65536 in
set_option maxHeartbeats 40000000 in
theorem rmI0 (l : Launch) (Z : State) (a0 : Array Value) (hw : ∀ d ∈ tables_1, d.before a0 Z = true) (ws : List Jvm.Cond) (o a dc el : Addr) (mc : Int32) (h0 : Heap) (n0 : Nat) (Z0 : n0 ≤ h0.size) (hEo : Exa Z h0 o "com/example/clausemap/clausemap/outline/Outline") (hFo : Fld Z h0 o "com/example/clausemap/clausemap/outline/Outline" "parts" "Ljava/util/List;" .null) (hGo : n0 ≤ o) (hno : o ≠ a) (hA : ALf Z h0 a mc (.ref dc) 0) (hSl : Sta Z h0 "java/util/ImmutableCollections" "EMPTY_LIST" "Ljava/util/ImmutableCollections$ListN;" (.ref el)) (hLV : LVN Z h0 el 0 []) :
    MetFree l (⟨"com/example/clausemap/clausemap/outline/Outline", "<init>", "(Ljava/util/List;)V"⟩ : MethodName) (head1 (Jvm.Cond.code (⟨"com/example/clausemap/clausemap/outline/Outline", "<init>", "(Ljava/util/List;)V"⟩ : MethodName) prog_25_method_1_code 2 none :: ws) ({ frames := 3, cells := 0, slots := 0, locals := 38 } : Room)) (fun aa_ UU_ => aa_ = #[(.ref o), (.ref a)] ∧ Z.Warmed39 UU_.vm ∧ UU_.heap = h0) (fun _ _ _ _ _ => True) (fun _ UU_ oo_ UE_ => ∃ vv_ LL_, oo_ = .returned vv_ ∧ QON Z o 0 [] h0 n0 vv_ UE_.heap LL_ ∧ FrameEnd UU_ oo_ UE_ LL_ ({ frames := 3, cells := 0, slots := 0, locals := 38 } : Room).cells ({ frames := 3, cells := 0, slots := 0, locals := 38 } : Room).slots) := by
  refine MetFree.of_bodySF (plainFor_of_name pn_12) hisR ?_
  intro p e s m args below meth c s₁ Bd hml0 hP hK
  obtain ⟨rfl, hZ, hh⟩ := hP
  have hx := Bd.exec
  have hby := Bd.bytes
  have hml : c.maxLocals = 2 := hml0
  have hown : s.vm.findClass "com/example/clausemap/clausemap/outline/Outline" = some m.cls := findClass_of_methodNamed Bd.named
  have hnm := (name_of_methodNamed Bd.named Bd.method).1
  have X0 : Stand p l e ({ frames := 3, cells := 0, slots := 0, locals := 38 } : Room) s m #[(.ref o), (.ref a)] below meth c s₁ [] 0 0 := Stand.of_body Bd
  have e0 : s₁.heap = h0 := by rw [← hh, Bd.state]; rfl
  have N0 := Fr.nil n0
  have K0 : Keep h0 h0 [o] := Keep.refl h0 _
  have pre0 : ∀ tg, Steps p.tables e below (s₁.setTop (mkF m 0 #[rv o, rv a] [])) tg → Steps p.tables e below (s₁.setTop (entryFrame m #[(.ref o), (.ref a)] 2)) tg := fun tg kq_ => castTop (ef_rmI0 m o a) kq_
  obtain ⟨hE, hFm, hFe, hFs⟩ := hA
  obtain ⟨T1, X1, e1, st1⟩ := initO X0 hx hZ hown (w_ hw 58 rfl) (w_ hw 14 rfl) (w_ hw 15 rfl) e0 (g := (mkF m 1 #[rv o, rv a] [(.ref o)])) rfl (by rw [hml]; rfl) rfl (hb hby d_prog_25_m_1_1) (by decide) (W := 0) (by show 2 * 0 + _ ≤ _; exact Nat.le_of_eq rfl) (by decide)
  obtain ⟨_, _, ⟨T2, L2, k2, n2⟩, -, X2, ⟨Lc2, hQ2, l2, y2, z2⟩, st2⟩ := Jvm.LawKit.callS X1 hx (y := (⟨"java/util/List", "copyOf", "(Ljava/util/Collection;)Ljava/util/List;"⟩ : MethodName)) hown (mvT hZ (w_ hw 59 rfl)) (mvT hZ (w_ hw 60 rfl)) (mvT hZ (w_ hw 61 rfl)) (mvT hZ (w_ hw 62 rfl)) (by decide) (backOf (W := 1) (rmY0 l Z a0 hw [] a dc el mc h0 n0 Z0 ⟨hE, hFm, hFe, hFs⟩ hSl) hZ (w_ hw 62 rfl) (w_ hw 61 rfl) (by decide) (by decide)) (g := (mkF m 6 #[rv o, rv a] [(.ref a), (.ref o)])) rfl (by rw [hml]; rfl) (argsL := [(.ref a)]) (rest := [(.ref o)]) (lenOf pd_11 rfl) rfl (by show 2 * 0 + _ ≤ _; exact Nat.le_of_eq rfl) (hb hby d_prog_25_m_1_6) (fun _ _ => ⟨rfl, e1, (by decide : 0 + 0 ≤ _), (by decide : 0 + 0 ≤ _)⟩)
  dsimp only [Pt.U, Pt.locs, Pt.cells, Pt.slots] at X2 l2 y2 z2 st2 hQ2
  subst l2 y2 z2
  obtain ⟨hv2, N2q, r2⟩ := hQ2
  subst hv2
  have N2 := Fr.app N0 N2q
  obtain ⟨T3, h3, X3, e3, W3, st3⟩ := putF X2 hx hZ hown (host := "") (Or.inl (w_ hw 88 rfl)) Via.refl r2 hFo hEo (Or.inr ⟨(w_ hw 89 rfl), rfl, hnm⟩) (w_ hw 53 rfl) (ty := (.object "java/util/List")) (by decide) rfl rfl (g := (mkF m 9 #[rv o, rv a] [(.ref el), (.ref o)])) rfl rfl (hb hby d_prog_25_m_1_9)
  have Z3 : n0 ≤ h3.size := Nat.le_trans Z0 (Nat.le_of_eq W3.size.symm)
  have N3 := Fr.snoc X3 N2 hGo
  have K3 : Keep h0 h3 [o] := K0.wr W3 (Or.inl (List.mem_of_getElem? (i := 0) rfl))
  have Fw3 := hFo.same W3
  obtain ⟨fs, hr, hrun, hended, hW, hsame⟩ := X3.leave (v := none) (fun _ => rfl)
  refine ⟨_, _, pre0 _ ?_, hrun, hended, _, _, rfl, ?_, ⟨_, rfl⟩, hW, hsame.mono (by decide) (by decide)⟩
  · show Sx p e below s₁ m 0 #[rv o, rv a] [] _
    refine XS.aloadN X0.here hx rfl (hb hby d_prog_25_m_1_0) rfl rfl ?_
    refine st1 _ ?_
    refine XS.aloadN X1.here hx rfl (hb hby d_prog_25_m_1_4) rfl rfl ?_
    refine XS.aloadN X1.here hx rfl (hb hby d_prog_25_m_1_5) rfl rfl ?_
    refine st2 _ ?_
    show Sx p e below T2 m 9 #[rv o, rv a] [(.ref el), (.ref o)] _
    refine st3 _ ?_
    show Sx p e below T3 m 12 #[rv o, rv a] [] _
    exact X3.returnOut hx Bd.returns (hb hby d_prog_25_m_1_12) hr
  · show QON Z o 0 [] h0 n0 _ T3.heap _
    rw [e3]
    exact ⟨rfl, N3, K3, el, Fw3, hLV.wr W3 hEo (w_ hw 53 rfl)⟩
theorem ef_rmI1 (m : MethodId) (x0 : Addr) (x1 : Addr) : entryFrame m #[(.ref x0), (.ref x1)] 2 = mkF m 0 #[rv x0, rv x1] [] := by first | (simp [entryFrame, mkF, argsToLocals, Value.category]; done) | rfl
set_option maxRecDepth 65536 in
set_option maxHeartbeats 40000000 in
theorem rmI1 (l : Launch) (Z : State) (a0 : Array Value) (hw : ∀ d ∈ tables_1, d.before a0 Z = true) (ws : List Jvm.Cond) (o a ea pa0 em : Addr) (ke : ClassId) (mc : Int32) (h0 : Heap) (n0 : Nat) (Z0 : n0 ≤ h0.size) (hEo : Exa Z h0 o "com/example/clausemap/clausemap/outline/Outline") (hFo : Fld Z h0 o "com/example/clausemap/clausemap/outline/Outline" "parts" "Ljava/util/List;" .null) (hGo : n0 ≤ o) (hno : o ≠ a) (hC : ALs Z n0 h0 a ea ke mc (1 : Int32) [.ref pa0, .null, .null, .null, .null, .null, .null, .null, .null, .null]) (hx0 : Exa Z h0 pa0 "com/example/clausemap/clausemap/outline/Part") (hM : ∃ (c : ClassId) (k : Class) (m : Addr), Z.vm.findClass "[Ljava/lang/Object;" = some c ∧ Z.vm.classes[c]? = some k ∧ k.mirror = some m) (hO1 : Old Z n0 h0) (hSe : Sta Z Z.heap "java/util/ImmutableCollections" "EMPTY" "Ljava/lang/Object;" (.ref em)) :
    MetFree l (⟨"com/example/clausemap/clausemap/outline/Outline", "<init>", "(Ljava/util/List;)V"⟩ : MethodName) (head1 (Jvm.Cond.code (⟨"com/example/clausemap/clausemap/outline/Outline", "<init>", "(Ljava/util/List;)V"⟩ : MethodName) prog_25_method_1_code 2 none :: ws) ({ frames := 8, cells := 2, slots := 3, locals := 115 } : Room)) (fun aa_ UU_ => aa_ = #[(.ref o), (.ref a)] ∧ Z.Warmed39 UU_.vm ∧ UU_.heap = h0) (fun _ _ _ _ _ => True) (fun _ UU_ oo_ UE_ => ∃ vv_ LL_, oo_ = .returned vv_ ∧ QO2 Z o pa0 em h0 n0 vv_ UE_.heap LL_ ∧ FrameEnd UU_ oo_ UE_ LL_ ({ frames := 8, cells := 2, slots := 3, locals := 115 } : Room).cells ({ frames := 8, cells := 2, slots := 3, locals := 115 } : Room).slots) := by
  refine MetFree.of_bodySF (plainFor_of_name pn_12) hisR ?_
  intro p e s m args below meth c s₁ Bd hml0 hP hK
  obtain ⟨rfl, hZ, hh⟩ := hP
  have hx := Bd.exec
  have hby := Bd.bytes
  have hml : c.maxLocals = 2 := hml0
  have hown : s.vm.findClass "com/example/clausemap/clausemap/outline/Outline" = some m.cls := findClass_of_methodNamed Bd.named
  have hnm := (name_of_methodNamed Bd.named Bd.method).1
  have X0 : Stand p l e ({ frames := 8, cells := 2, slots := 3, locals := 115 } : Room) s m #[(.ref o), (.ref a)] below meth c s₁ [] 0 0 := Stand.of_body Bd
  have e0 : s₁.heap = h0 := by rw [← hh, Bd.state]; rfl
  have N0 := Fr.nil n0
  have K0 : Keep h0 h0 [o] := Keep.refl h0 _
  have pre0 : ∀ tg, Steps p.tables e below (s₁.setTop (mkF m 0 #[rv o, rv a] [])) tg → Steps p.tables e below (s₁.setTop (entryFrame m #[(.ref o), (.ref a)] 2)) tg := fun tg kq_ => castTop (ef_rmI1 m o a) kq_
  obtain ⟨⟨hE, hFm, hFe, hFs⟩, hVe, hXe, hO, hG, hge, hn2⟩ := hC
  obtain ⟨T1, X1, e1, st1⟩ := initO X0 hx hZ hown (w_ hw 58 rfl) (w_ hw 14 rfl) (w_ hw 15 rfl) e0 (g := (mkF m 1 #[rv o, rv a] [(.ref o)])) rfl (by rw [hml]; rfl) rfl (hb hby d_prog_25_m_1_1) (by decide) (W := 0) (by show 2 * 0 + _ ≤ _; exact Nat.le_of_eq rfl) (by decide)
  obtain ⟨_, _, ⟨T2, L2, k2, n2⟩, -, X2, ⟨Lc2, hQ2, l2, y2, z2⟩, st2⟩ := Jvm.LawKit.callS X1 hx (y := (⟨"java/util/List", "copyOf", "(Ljava/util/Collection;)Ljava/util/List;"⟩ : MethodName)) hown (mvT hZ (w_ hw 59 rfl)) (mvT hZ (w_ hw 60 rfl)) (mvT hZ (w_ hw 61 rfl)) (mvT hZ (w_ hw 62 rfl)) (by decide) (backOf (W := 1) (rmY1 l Z a0 hw [] a ea pa0 em ke mc h0 n0 Z0 ⟨⟨hE, hFm, hFe, hFs⟩, hVe, hXe, hO, hG, hge, hn2⟩ hx0 hM hO1 hSe) hZ (w_ hw 62 rfl) (w_ hw 61 rfl) (by decide) (by decide)) (g := (mkF m 6 #[rv o, rv a] [(.ref a), (.ref o)])) rfl (by rw [hml]; rfl) (argsL := [(.ref a)]) (rest := [(.ref o)]) (lenOf pd_11 rfl) rfl (by show 2 * 0 + _ ≤ _; exact Nat.le_of_eq rfl) (hb hby d_prog_25_m_1_6) (fun _ _ => ⟨rfl, e1, (by decide : 0 + 2 ≤ _), (by decide : 0 + 3 ≤ _)⟩)
  dsimp only [Pt.U, Pt.locs, Pt.cells, Pt.slots] at X2 l2 y2 z2 st2 hQ2
  subst l2 y2 z2
  obtain ⟨lb2, hv2, N2q, kp2, lv2⟩ := hQ2
  subst hv2
  have N2 := Fr.app N0 N2q
  have Z2 : n0 ≤ T2.heap.size := Nat.le_trans Z0 kp2.1
  have K2 : Keep h0 T2.heap [o] := K0.trans kp2 all0
  have f4 := (hEo.keep kp2)
  have f5 := (hFo.keep kp2 nin0)
  obtain ⟨T3, h3, X3, e3, W3, st3⟩ := putF X2 hx hZ hown (host := "") (Or.inl (w_ hw 88 rfl)) Via.refl rfl f5 f4 (Or.inr ⟨(w_ hw 89 rfl), rfl, hnm⟩) (w_ hw 53 rfl) (ty := (.object "java/util/List")) (by decide) rfl rfl (g := (mkF m 9 #[rv o, rv a] [(.ref lb2), (.ref o)])) rfl rfl (hb hby d_prog_25_m_1_9)
  have Z3 : n0 ≤ h3.size := Nat.le_trans Z2 (Nat.le_of_eq W3.size.symm)
  have N3 := Fr.snoc X3 N2 hGo
  have K3 : Keep h0 h3 [o] := K2.wr W3 (Or.inl (List.mem_of_getElem? (i := 0) rfl))
  have Fw3 := f5.same W3
  obtain ⟨fs, hr, hrun, hended, hW, hsame⟩ := X3.leave (v := none) (fun _ => rfl)
  refine ⟨_, _, pre0 _ ?_, hrun, hended, _, _, rfl, ?_, ⟨_, rfl⟩, hW, hsame.mono (by decide) (by decide)⟩
  · show Sx p e below s₁ m 0 #[rv o, rv a] [] _
    refine XS.aloadN X0.here hx rfl (hb hby d_prog_25_m_1_0) rfl rfl ?_
    refine st1 _ ?_
    refine XS.aloadN X1.here hx rfl (hb hby d_prog_25_m_1_4) rfl rfl ?_
    refine XS.aloadN X1.here hx rfl (hb hby d_prog_25_m_1_5) rfl rfl ?_
    refine st2 _ ?_
    show Sx p e below T2 m 9 #[rv o, rv a] [(.ref lb2), (.ref o)] _
    refine st3 _ ?_
    show Sx p e below T3 m 12 #[rv o, rv a] [] _
    exact X3.returnOut hx Bd.returns (hb hby d_prog_25_m_1_12) hr
  · show QO2 Z o pa0 em h0 n0 _ T3.heap _
    rw [e3]
    exact ⟨rfl, N3, K3, lb2, Fw3, lv2.wr W3 (hEo.keep kp2)⟩
theorem ef_rmI2 (m : MethodId) (x0 : Addr) (x1 : Addr) : entryFrame m #[(.ref x0), (.ref x1)] 2 = mkF m 0 #[rv x0, rv x1] [] := by first | (simp [entryFrame, mkF, argsToLocals, Value.category]; done) | rfl
set_option maxRecDepth 65536 in
set_option maxHeartbeats 40000000 in
theorem rmI2 (l : Launch) (Z : State) (a0 : Array Value) (hw : ∀ d ∈ tables_1, d.before a0 Z = true) (ws : List Jvm.Cond) (o a ea pa0 pa1 em : Addr) (ke : ClassId) (mc : Int32) (h0 : Heap) (n0 : Nat) (Z0 : n0 ≤ h0.size) (hEo : Exa Z h0 o "com/example/clausemap/clausemap/outline/Outline") (hFo : Fld Z h0 o "com/example/clausemap/clausemap/outline/Outline" "parts" "Ljava/util/List;" .null) (hGo : n0 ≤ o) (hno : o ≠ a) (hC : ALs Z n0 h0 a ea ke mc (2 : Int32) [.ref pa0, .ref pa1, .null, .null, .null, .null, .null, .null, .null, .null]) (hx0 : Exa Z h0 pa0 "com/example/clausemap/clausemap/outline/Part") (hx1 : Exa Z h0 pa1 "com/example/clausemap/clausemap/outline/Part") (hM : ∃ (c : ClassId) (k : Class) (m : Addr), Z.vm.findClass "[Ljava/lang/Object;" = some c ∧ Z.vm.classes[c]? = some k ∧ k.mirror = some m) (hO1 : Old Z n0 h0) (hSe : Sta Z Z.heap "java/util/ImmutableCollections" "EMPTY" "Ljava/lang/Object;" (.ref em)) :
    MetFree l (⟨"com/example/clausemap/clausemap/outline/Outline", "<init>", "(Ljava/util/List;)V"⟩ : MethodName) (head1 (Jvm.Cond.code (⟨"com/example/clausemap/clausemap/outline/Outline", "<init>", "(Ljava/util/List;)V"⟩ : MethodName) prog_25_method_1_code 2 none :: ws) ({ frames := 8, cells := 2, slots := 4, locals := 115 } : Room)) (fun aa_ UU_ => aa_ = #[(.ref o), (.ref a)] ∧ Z.Warmed39 UU_.vm ∧ UU_.heap = h0) (fun _ _ _ _ _ => True) (fun _ UU_ oo_ UE_ => ∃ vv_ LL_, oo_ = .returned vv_ ∧ QO2 Z o pa0 pa1 h0 n0 vv_ UE_.heap LL_ ∧ FrameEnd UU_ oo_ UE_ LL_ ({ frames := 8, cells := 2, slots := 4, locals := 115 } : Room).cells ({ frames := 8, cells := 2, slots := 4, locals := 115 } : Room).slots) := by
  refine MetFree.of_bodySF (plainFor_of_name pn_12) hisR ?_
  intro p e s m args below meth c s₁ Bd hml0 hP hK
  obtain ⟨rfl, hZ, hh⟩ := hP
  have hx := Bd.exec
  have hby := Bd.bytes
  have hml : c.maxLocals = 2 := hml0
  have hown : s.vm.findClass "com/example/clausemap/clausemap/outline/Outline" = some m.cls := findClass_of_methodNamed Bd.named
  have hnm := (name_of_methodNamed Bd.named Bd.method).1
  have X0 : Stand p l e ({ frames := 8, cells := 2, slots := 4, locals := 115 } : Room) s m #[(.ref o), (.ref a)] below meth c s₁ [] 0 0 := Stand.of_body Bd
  have e0 : s₁.heap = h0 := by rw [← hh, Bd.state]; rfl
  have N0 := Fr.nil n0
  have K0 : Keep h0 h0 [o] := Keep.refl h0 _
  have pre0 : ∀ tg, Steps p.tables e below (s₁.setTop (mkF m 0 #[rv o, rv a] [])) tg → Steps p.tables e below (s₁.setTop (entryFrame m #[(.ref o), (.ref a)] 2)) tg := fun tg kq_ => castTop (ef_rmI2 m o a) kq_
  obtain ⟨⟨hE, hFm, hFe, hFs⟩, hVe, hXe, hO, hG, hge, hn2⟩ := hC
  obtain ⟨T1, X1, e1, st1⟩ := initO X0 hx hZ hown (w_ hw 58 rfl) (w_ hw 14 rfl) (w_ hw 15 rfl) e0 (g := (mkF m 1 #[rv o, rv a] [(.ref o)])) rfl (by rw [hml]; rfl) rfl (hb hby d_prog_25_m_1_1) (by decide) (W := 0) (by show 2 * 0 + _ ≤ _; exact Nat.le_of_eq rfl) (by decide)
  obtain ⟨_, _, ⟨T2, L2, k2, n2⟩, -, X2, ⟨Lc2, hQ2, l2, y2, z2⟩, st2⟩ := Jvm.LawKit.callS X1 hx (y := (⟨"java/util/List", "copyOf", "(Ljava/util/Collection;)Ljava/util/List;"⟩ : MethodName)) hown (mvT hZ (w_ hw 59 rfl)) (mvT hZ (w_ hw 60 rfl)) (mvT hZ (w_ hw 61 rfl)) (mvT hZ (w_ hw 62 rfl)) (by decide) (backOf (W := 1) (rmY2 l Z a0 hw [] a ea pa0 pa1 em ke mc h0 n0 Z0 ⟨⟨hE, hFm, hFe, hFs⟩, hVe, hXe, hO, hG, hge, hn2⟩ hx0 hx1 hM hO1 hSe) hZ (w_ hw 62 rfl) (w_ hw 61 rfl) (by decide) (by decide)) (g := (mkF m 6 #[rv o, rv a] [(.ref a), (.ref o)])) rfl (by rw [hml]; rfl) (argsL := [(.ref a)]) (rest := [(.ref o)]) (lenOf pd_11 rfl) rfl (by show 2 * 0 + _ ≤ _; exact Nat.le_of_eq rfl) (hb hby d_prog_25_m_1_6) (fun _ _ => ⟨rfl, e1, (by decide : 0 + 2 ≤ _), (by decide : 0 + 4 ≤ _)⟩)
  dsimp only [Pt.U, Pt.locs, Pt.cells, Pt.slots] at X2 l2 y2 z2 st2 hQ2
  subst l2 y2 z2
  obtain ⟨lb2, hv2, N2q, kp2, lv2⟩ := hQ2
  subst hv2
  have N2 := Fr.app N0 N2q
  have Z2 : n0 ≤ T2.heap.size := Nat.le_trans Z0 kp2.1
  have K2 : Keep h0 T2.heap [o] := K0.trans kp2 all0
  have f4 := (hEo.keep kp2)
  have f5 := (hFo.keep kp2 nin0)
  obtain ⟨T3, h3, X3, e3, W3, st3⟩ := putF X2 hx hZ hown (host := "") (Or.inl (w_ hw 88 rfl)) Via.refl rfl f5 f4 (Or.inr ⟨(w_ hw 89 rfl), rfl, hnm⟩) (w_ hw 53 rfl) (ty := (.object "java/util/List")) (by decide) rfl rfl (g := (mkF m 9 #[rv o, rv a] [(.ref lb2), (.ref o)])) rfl rfl (hb hby d_prog_25_m_1_9)
  have Z3 : n0 ≤ h3.size := Nat.le_trans Z2 (Nat.le_of_eq W3.size.symm)
  have N3 := Fr.snoc X3 N2 hGo
  have K3 : Keep h0 h3 [o] := K2.wr W3 (Or.inl (List.mem_of_getElem? (i := 0) rfl))
  have Fw3 := f5.same W3
  obtain ⟨fs, hr, hrun, hended, hW, hsame⟩ := X3.leave (v := none) (fun _ => rfl)
  refine ⟨_, _, pre0 _ ?_, hrun, hended, _, _, rfl, ?_, ⟨_, rfl⟩, hW, hsame.mono (by decide) (by decide)⟩
  · show Sx p e below s₁ m 0 #[rv o, rv a] [] _
    refine XS.aloadN X0.here hx rfl (hb hby d_prog_25_m_1_0) rfl rfl ?_
    refine st1 _ ?_
    refine XS.aloadN X1.here hx rfl (hb hby d_prog_25_m_1_4) rfl rfl ?_
    refine XS.aloadN X1.here hx rfl (hb hby d_prog_25_m_1_5) rfl rfl ?_
    refine st2 _ ?_
    show Sx p e below T2 m 9 #[rv o, rv a] [(.ref lb2), (.ref o)] _
    refine st3 _ ?_
    show Sx p e below T3 m 12 #[rv o, rv a] [] _
    exact X3.returnOut hx Bd.returns (hb hby d_prog_25_m_1_12) hr
  · show QO2 Z o pa0 pa1 h0 n0 _ T3.heap _
    rw [e3]
    exact ⟨rfl, N3, K3, lb2, Fw3, lv2.wr W3 (hEo.keep kp2)⟩
theorem ef_rmI3 (m : MethodId) (x0 : Addr) (x1 : Addr) : entryFrame m #[(.ref x0), (.ref x1)] 2 = mkF m 0 #[rv x0, rv x1] [] := by first | (simp [entryFrame, mkF, argsToLocals, Value.category]; done) | rfl
set_option maxRecDepth 65536 in
set_option maxHeartbeats 40000000 in
theorem rmI3 (l : Launch) (Z : State) (a0 : Array Value) (hw : ∀ d ∈ tables_1, d.before a0 Z = true) (ws : List Jvm.Cond) (o a ea pa0 pa1 pa2 em : Addr) (ke : ClassId) (mc : Int32) (h0 : Heap) (n0 : Nat) (Z0 : n0 ≤ h0.size) (hEo : Exa Z h0 o "com/example/clausemap/clausemap/outline/Outline") (hFo : Fld Z h0 o "com/example/clausemap/clausemap/outline/Outline" "parts" "Ljava/util/List;" .null) (hGo : n0 ≤ o) (hno : o ≠ a) (hC : ALs Z n0 h0 a ea ke mc (3 : Int32) [.ref pa0, .ref pa1, .ref pa2, .null, .null, .null, .null, .null, .null, .null]) (hx0 : Exa Z h0 pa0 "com/example/clausemap/clausemap/outline/Part") (hx1 : Exa Z h0 pa1 "com/example/clausemap/clausemap/outline/Part") (hx2 : Exa Z h0 pa2 "com/example/clausemap/clausemap/outline/Part") (hM : ∃ (c : ClassId) (k : Class) (m : Addr), Z.vm.findClass "[Ljava/lang/Object;" = some c ∧ Z.vm.classes[c]? = some k ∧ k.mirror = some m) (hO1 : Old Z n0 h0) (hSe : Sta Z Z.heap "java/util/ImmutableCollections" "EMPTY" "Ljava/lang/Object;" (.ref em)) :
    MetFree l (⟨"com/example/clausemap/clausemap/outline/Outline", "<init>", "(Ljava/util/List;)V"⟩ : MethodName) (head1 (Jvm.Cond.code (⟨"com/example/clausemap/clausemap/outline/Outline", "<init>", "(Ljava/util/List;)V"⟩ : MethodName) prog_25_method_1_code 2 none :: ws) ({ frames := 9, cells := 3, slots := 8, locals := 116 } : Room)) (fun aa_ UU_ => aa_ = #[(.ref o), (.ref a)] ∧ Z.Warmed39 UU_.vm ∧ UU_.heap = h0) (fun _ _ _ _ _ => True) (fun _ UU_ oo_ UE_ => ∃ vv_ LL_, oo_ = .returned vv_ ∧ QON Z o 3 [.ref pa0, .ref pa1, .ref pa2] h0 n0 vv_ UE_.heap LL_ ∧ FrameEnd UU_ oo_ UE_ LL_ ({ frames := 9, cells := 3, slots := 8, locals := 116 } : Room).cells ({ frames := 9, cells := 3, slots := 8, locals := 116 } : Room).slots) := by
  refine MetFree.of_bodySF (plainFor_of_name pn_12) hisR ?_
  intro p e s m args below meth c s₁ Bd hml0 hP hK
  obtain ⟨rfl, hZ, hh⟩ := hP
  have hx := Bd.exec
  have hby := Bd.bytes
  have hml : c.maxLocals = 2 := hml0
  have hown : s.vm.findClass "com/example/clausemap/clausemap/outline/Outline" = some m.cls := findClass_of_methodNamed Bd.named
  have hnm := (name_of_methodNamed Bd.named Bd.method).1
  have X0 : Stand p l e ({ frames := 9, cells := 3, slots := 8, locals := 116 } : Room) s m #[(.ref o), (.ref a)] below meth c s₁ [] 0 0 := Stand.of_body Bd
  have e0 : s₁.heap = h0 := by rw [← hh, Bd.state]; rfl
  have N0 := Fr.nil n0
  have K0 : Keep h0 h0 [o] := Keep.refl h0 _
  have pre0 : ∀ tg, Steps p.tables e below (s₁.setTop (mkF m 0 #[rv o, rv a] [])) tg → Steps p.tables e below (s₁.setTop (entryFrame m #[(.ref o), (.ref a)] 2)) tg := fun tg kq_ => castTop (ef_rmI3 m o a) kq_
  obtain ⟨⟨hE, hFm, hFe, hFs⟩, hVe, hXe, hO, hG, hge, hn2⟩ := hC
  obtain ⟨T1, X1, e1, st1⟩ := initO X0 hx hZ hown (w_ hw 58 rfl) (w_ hw 14 rfl) (w_ hw 15 rfl) e0 (g := (mkF m 1 #[rv o, rv a] [(.ref o)])) rfl (by rw [hml]; rfl) rfl (hb hby d_prog_25_m_1_1) (by decide) (W := 0) (by show 2 * 0 + _ ≤ _; exact Nat.le_of_eq rfl) (by decide)
  obtain ⟨_, _, ⟨T2, L2, k2, n2⟩, -, X2, ⟨Lc2, hQ2, l2, y2, z2⟩, st2⟩ := Jvm.LawKit.callS X1 hx (y := (⟨"java/util/List", "copyOf", "(Ljava/util/Collection;)Ljava/util/List;"⟩ : MethodName)) hown (mvT hZ (w_ hw 59 rfl)) (mvT hZ (w_ hw 60 rfl)) (mvT hZ (w_ hw 61 rfl)) (mvT hZ (w_ hw 62 rfl)) (by decide) (backOf (W := 1) (rmY3 l Z a0 hw [] a ea pa0 pa1 pa2 em ke mc h0 n0 Z0 ⟨⟨hE, hFm, hFe, hFs⟩, hVe, hXe, hO, hG, hge, hn2⟩ hx0 hx1 hx2 hM hO1 hSe) hZ (w_ hw 62 rfl) (w_ hw 61 rfl) (by decide) (by decide)) (g := (mkF m 6 #[rv o, rv a] [(.ref a), (.ref o)])) rfl (by rw [hml]; rfl) (argsL := [(.ref a)]) (rest := [(.ref o)]) (lenOf pd_11 rfl) rfl (by show 2 * 0 + _ ≤ _; exact Nat.le_of_eq rfl) (hb hby d_prog_25_m_1_6) (fun _ _ => ⟨rfl, e1, (by decide : 0 + 3 ≤ _), (by decide : 0 + 8 ≤ _)⟩)
  dsimp only [Pt.U, Pt.locs, Pt.cells, Pt.slots] at X2 l2 y2 z2 st2 hQ2
  subst l2 y2 z2
  obtain ⟨lb2, hv2, N2q, kp2, lv2⟩ := hQ2
  subst hv2
  have N2 := Fr.app N0 N2q
  have Z2 : n0 ≤ T2.heap.size := Nat.le_trans Z0 kp2.1
  have K2 : Keep h0 T2.heap [o] := K0.trans kp2 all0
  have f4 := (hEo.keep kp2)
  have f5 := (hFo.keep kp2 nin0)
  obtain ⟨T3, h3, X3, e3, W3, st3⟩ := putF X2 hx hZ hown (host := "") (Or.inl (w_ hw 88 rfl)) Via.refl rfl f5 f4 (Or.inr ⟨(w_ hw 89 rfl), rfl, hnm⟩) (w_ hw 53 rfl) (ty := (.object "java/util/List")) (by decide) rfl rfl (g := (mkF m 9 #[rv o, rv a] [(.ref lb2), (.ref o)])) rfl rfl (hb hby d_prog_25_m_1_9)
  have Z3 : n0 ≤ h3.size := Nat.le_trans Z2 (Nat.le_of_eq W3.size.symm)
  have N3 := Fr.snoc X3 N2 hGo
  have K3 : Keep h0 h3 [o] := K2.wr W3 (Or.inl (List.mem_of_getElem? (i := 0) rfl))
  have Fw3 := f5.same W3
  obtain ⟨fs, hr, hrun, hended, hW, hsame⟩ := X3.leave (v := none) (fun _ => rfl)
  refine ⟨_, _, pre0 _ ?_, hrun, hended, _, _, rfl, ?_, ⟨_, rfl⟩, hW, hsame.mono (by decide) (by decide)⟩
  · show Sx p e below s₁ m 0 #[rv o, rv a] [] _
    refine XS.aloadN X0.here hx rfl (hb hby d_prog_25_m_1_0) rfl rfl ?_
    refine st1 _ ?_
    refine XS.aloadN X1.here hx rfl (hb hby d_prog_25_m_1_4) rfl rfl ?_
    refine XS.aloadN X1.here hx rfl (hb hby d_prog_25_m_1_5) rfl rfl ?_
    refine st2 _ ?_
    show Sx p e below T2 m 9 #[rv o, rv a] [(.ref lb2), (.ref o)] _
    refine st3 _ ?_
    show Sx p e below T3 m 12 #[rv o, rv a] [] _
    exact X3.returnOut hx Bd.returns (hb hby d_prog_25_m_1_12) hr
  · show QON Z o 3 [.ref pa0, .ref pa1, .ref pa2] h0 n0 _ T3.heap _
    rw [e3]
    exact ⟨rfl, N3, K3, lb2, Fw3, lv2.wr W3 (hEo.keep kp2) (w_ hw 53 rfl)⟩
theorem ef_rmI4 (m : MethodId) (x0 : Addr) (x1 : Addr) : entryFrame m #[(.ref x0), (.ref x1)] 2 = mkF m 0 #[rv x0, rv x1] [] := by first | (simp [entryFrame, mkF, argsToLocals, Value.category]; done) | rfl
set_option maxRecDepth 65536 in
set_option maxHeartbeats 40000000 in
theorem rmI4 (l : Launch) (Z : State) (a0 : Array Value) (hw : ∀ d ∈ tables_1, d.before a0 Z = true) (ws : List Jvm.Cond) (o a ea pa0 pa1 pa2 pa3 em : Addr) (ke : ClassId) (mc : Int32) (h0 : Heap) (n0 : Nat) (Z0 : n0 ≤ h0.size) (hEo : Exa Z h0 o "com/example/clausemap/clausemap/outline/Outline") (hFo : Fld Z h0 o "com/example/clausemap/clausemap/outline/Outline" "parts" "Ljava/util/List;" .null) (hGo : n0 ≤ o) (hno : o ≠ a) (hC : ALs Z n0 h0 a ea ke mc (4 : Int32) [.ref pa0, .ref pa1, .ref pa2, .ref pa3, .null, .null, .null, .null, .null, .null]) (hx0 : Exa Z h0 pa0 "com/example/clausemap/clausemap/outline/Part") (hx1 : Exa Z h0 pa1 "com/example/clausemap/clausemap/outline/Part") (hx2 : Exa Z h0 pa2 "com/example/clausemap/clausemap/outline/Part") (hx3 : Exa Z h0 pa3 "com/example/clausemap/clausemap/outline/Part") (hM : ∃ (c : ClassId) (k : Class) (m : Addr), Z.vm.findClass "[Ljava/lang/Object;" = some c ∧ Z.vm.classes[c]? = some k ∧ k.mirror = some m) (hO1 : Old Z n0 h0) (hSe : Sta Z Z.heap "java/util/ImmutableCollections" "EMPTY" "Ljava/lang/Object;" (.ref em)) :
    MetFree l (⟨"com/example/clausemap/clausemap/outline/Outline", "<init>", "(Ljava/util/List;)V"⟩ : MethodName) (head1 (Jvm.Cond.code (⟨"com/example/clausemap/clausemap/outline/Outline", "<init>", "(Ljava/util/List;)V"⟩ : MethodName) prog_25_method_1_code 2 none :: ws) ({ frames := 9, cells := 3, slots := 10, locals := 116 } : Room)) (fun aa_ UU_ => aa_ = #[(.ref o), (.ref a)] ∧ Z.Warmed39 UU_.vm ∧ UU_.heap = h0) (fun _ _ _ _ _ => True) (fun _ UU_ oo_ UE_ => ∃ vv_ LL_, oo_ = .returned vv_ ∧ QON Z o 4 [.ref pa0, .ref pa1, .ref pa2, .ref pa3] h0 n0 vv_ UE_.heap LL_ ∧ FrameEnd UU_ oo_ UE_ LL_ ({ frames := 9, cells := 3, slots := 10, locals := 116 } : Room).cells ({ frames := 9, cells := 3, slots := 10, locals := 116 } : Room).slots) := by
  refine MetFree.of_bodySF (plainFor_of_name pn_12) hisR ?_
  intro p e s m args below meth c s₁ Bd hml0 hP hK
  obtain ⟨rfl, hZ, hh⟩ := hP
  have hx := Bd.exec
  have hby := Bd.bytes
  have hml : c.maxLocals = 2 := hml0
  have hown : s.vm.findClass "com/example/clausemap/clausemap/outline/Outline" = some m.cls := findClass_of_methodNamed Bd.named
  have hnm := (name_of_methodNamed Bd.named Bd.method).1
  have X0 : Stand p l e ({ frames := 9, cells := 3, slots := 10, locals := 116 } : Room) s m #[(.ref o), (.ref a)] below meth c s₁ [] 0 0 := Stand.of_body Bd
  have e0 : s₁.heap = h0 := by rw [← hh, Bd.state]; rfl
  have N0 := Fr.nil n0
  have K0 : Keep h0 h0 [o] := Keep.refl h0 _
  have pre0 : ∀ tg, Steps p.tables e below (s₁.setTop (mkF m 0 #[rv o, rv a] [])) tg → Steps p.tables e below (s₁.setTop (entryFrame m #[(.ref o), (.ref a)] 2)) tg := fun tg kq_ => castTop (ef_rmI4 m o a) kq_
  obtain ⟨⟨hE, hFm, hFe, hFs⟩, hVe, hXe, hO, hG, hge, hn2⟩ := hC
  obtain ⟨T1, X1, e1, st1⟩ := initO X0 hx hZ hown (w_ hw 58 rfl) (w_ hw 14 rfl) (w_ hw 15 rfl) e0 (g := (mkF m 1 #[rv o, rv a] [(.ref o)])) rfl (by rw [hml]; rfl) rfl (hb hby d_prog_25_m_1_1) (by decide) (W := 0) (by show 2 * 0 + _ ≤ _; exact Nat.le_of_eq rfl) (by decide)
  obtain ⟨_, _, ⟨T2, L2, k2, n2⟩, -, X2, ⟨Lc2, hQ2, l2, y2, z2⟩, st2⟩ := Jvm.LawKit.callS X1 hx (y := (⟨"java/util/List", "copyOf", "(Ljava/util/Collection;)Ljava/util/List;"⟩ : MethodName)) hown (mvT hZ (w_ hw 59 rfl)) (mvT hZ (w_ hw 60 rfl)) (mvT hZ (w_ hw 61 rfl)) (mvT hZ (w_ hw 62 rfl)) (by decide) (backOf (W := 1) (rmY4 l Z a0 hw [] a ea pa0 pa1 pa2 pa3 em ke mc h0 n0 Z0 ⟨⟨hE, hFm, hFe, hFs⟩, hVe, hXe, hO, hG, hge, hn2⟩ hx0 hx1 hx2 hx3 hM hO1 hSe) hZ (w_ hw 62 rfl) (w_ hw 61 rfl) (by decide) (by decide)) (g := (mkF m 6 #[rv o, rv a] [(.ref a), (.ref o)])) rfl (by rw [hml]; rfl) (argsL := [(.ref a)]) (rest := [(.ref o)]) (lenOf pd_11 rfl) rfl (by show 2 * 0 + _ ≤ _; exact Nat.le_of_eq rfl) (hb hby d_prog_25_m_1_6) (fun _ _ => ⟨rfl, e1, (by decide : 0 + 3 ≤ _), (by decide : 0 + 10 ≤ _)⟩)
  dsimp only [Pt.U, Pt.locs, Pt.cells, Pt.slots] at X2 l2 y2 z2 st2 hQ2
  subst l2 y2 z2
  obtain ⟨lb2, hv2, N2q, kp2, lv2⟩ := hQ2
  subst hv2
  have N2 := Fr.app N0 N2q
  have Z2 : n0 ≤ T2.heap.size := Nat.le_trans Z0 kp2.1
  have K2 : Keep h0 T2.heap [o] := K0.trans kp2 all0
  have f4 := (hEo.keep kp2)
  have f5 := (hFo.keep kp2 nin0)
  obtain ⟨T3, h3, X3, e3, W3, st3⟩ := putF X2 hx hZ hown (host := "") (Or.inl (w_ hw 88 rfl)) Via.refl rfl f5 f4 (Or.inr ⟨(w_ hw 89 rfl), rfl, hnm⟩) (w_ hw 53 rfl) (ty := (.object "java/util/List")) (by decide) rfl rfl (g := (mkF m 9 #[rv o, rv a] [(.ref lb2), (.ref o)])) rfl rfl (hb hby d_prog_25_m_1_9)
  have Z3 : n0 ≤ h3.size := Nat.le_trans Z2 (Nat.le_of_eq W3.size.symm)
  have N3 := Fr.snoc X3 N2 hGo
  have K3 : Keep h0 h3 [o] := K2.wr W3 (Or.inl (List.mem_of_getElem? (i := 0) rfl))
  have Fw3 := f5.same W3
  obtain ⟨fs, hr, hrun, hended, hW, hsame⟩ := X3.leave (v := none) (fun _ => rfl)
  refine ⟨_, _, pre0 _ ?_, hrun, hended, _, _, rfl, ?_, ⟨_, rfl⟩, hW, hsame.mono (by decide) (by decide)⟩
  · show Sx p e below s₁ m 0 #[rv o, rv a] [] _
    refine XS.aloadN X0.here hx rfl (hb hby d_prog_25_m_1_0) rfl rfl ?_
    refine st1 _ ?_
    refine XS.aloadN X1.here hx rfl (hb hby d_prog_25_m_1_4) rfl rfl ?_
    refine XS.aloadN X1.here hx rfl (hb hby d_prog_25_m_1_5) rfl rfl ?_
    refine st2 _ ?_
    show Sx p e below T2 m 9 #[rv o, rv a] [(.ref lb2), (.ref o)] _
    refine st3 _ ?_
    show Sx p e below T3 m 12 #[rv o, rv a] [] _
    exact X3.returnOut hx Bd.returns (hb hby d_prog_25_m_1_12) hr
  · show QON Z o 4 [.ref pa0, .ref pa1, .ref pa2, .ref pa3] h0 n0 _ T3.heap _
    rw [e3]
    exact ⟨rfl, N3, K3, lb2, Fw3, lv2.wr W3 (hEo.keep kp2) (w_ hw 53 rfl)⟩
theorem ef_rmNs (m : MethodId) (x0 : Addr) : entryFrame m #[(.ref x0)] 1 = mkF m 0 #[rv x0] [] := by first | (simp [entryFrame, mkF, argsToLocals, Value.category]; done) | rfl
set_option maxRecDepth 65536 in
set_option maxHeartbeats 40000000 in
theorem rmNs (l : Launch) (Z : State) (a0 : Array Value) (hw : ∀ d ∈ tables_1, d.before a0 Z = true) (ws : List Jvm.Cond) (L ar : Addr) (k : ClassId) (n : Int32) (vs : List Value) (h0 : Heap) (n0 : Nat) (Z0 : n0 ≤ h0.size) (hF : Fld Z h0 L "java/util/ImmutableCollections$ListN" "elements" "[Ljava/lang/Object;" (.ref ar)) (hV : Arv Z h0 ar k (.object "java/lang/Object") n vs .null) :
    MetFree l (⟨"java/util/ImmutableCollections$ListN", "size", "()I"⟩ : MethodName) (head1 (Jvm.Cond.code (⟨"java/util/ImmutableCollections$ListN", "size", "()I"⟩ : MethodName) jdk_45_method_3_code 1 (some .int) :: ws) ({ frames := 0, cells := 0, slots := 0, locals := 0 } : Room)) (fun aa_ UU_ => aa_ = #[(.ref L)] ∧ Z.Warmed39 UU_.vm ∧ UU_.heap = h0) (fun _ _ _ _ _ => True) (fun _ UU_ oo_ UE_ => ∃ vv_ LL_, oo_ = .returned vv_ ∧ QV (some (.int n)) h0 n0 vv_ UE_.heap LL_ ∧ FrameEnd UU_ oo_ UE_ LL_ ({ frames := 0, cells := 0, slots := 0, locals := 0 } : Room).cells ({ frames := 0, cells := 0, slots := 0, locals := 0 } : Room).slots) := by
  refine MetFree.of_bodySF (plainFor_of_name pn_9) hisR ?_
  intro p e s m args below meth c s₁ Bd hml0 hP hK
  obtain ⟨rfl, hZ, hh⟩ := hP
  have hx := Bd.exec
  have hby := Bd.bytes
  have hml : c.maxLocals = 1 := hml0
  have hown : s.vm.findClass "java/util/ImmutableCollections$ListN" = some m.cls := findClass_of_methodNamed Bd.named
  have hnm := (name_of_methodNamed Bd.named Bd.method).1
  have X0 : Stand p l e ({ frames := 0, cells := 0, slots := 0, locals := 0 } : Room) s m #[(.ref L)] below meth c s₁ [] 0 0 := Stand.of_body Bd
  have e0 : s₁.heap = h0 := by rw [← hh, Bd.state]; rfl
  have N0 := Fr.nil n0
  have pre0 : ∀ tg, Steps p.tables e below (s₁.setTop (mkF m 0 #[rv L] [])) tg → Steps p.tables e below (s₁.setTop (entryFrame m #[(.ref L)] 1)) tg := fun tg kq_ => castTop (ef_rmNs m L) kq_
  obtain ⟨T1, X1, e1, st1⟩ := getF X0 hx hZ hown (host := "") (Or.inl (w_ hw 113 rfl)) Via.refl e0 hF (g := (mkF m 1 #[rv L] [(.ref L)])) rfl rfl (hb hby d_jdk_45_m_3_1)
  obtain ⟨cl2, Ar2, q2, Sz2, Nn2, Ha2, Ga2⟩ := id hV
  obtain ⟨fs, hr, hrun, hended, hW, hsame⟩ := X1.leave (v := some (.int n)) (fun h => by rw [Bd.returns] at h; cases h)
  refine ⟨_, _, pre0 _ ?_, hrun, hended, _, _, rfl, ?_, ⟨_, rfl⟩, hW, hsame.mono (by decide) (by decide)⟩
  · show Sx p e below s₁ m 0 #[rv L] [] _
    refine XS.aloadN X0.here hx rfl (hb hby d_jdk_45_m_3_0) rfl rfl ?_
    refine st1 _ ?_
    refine X1.arraylength hx (by rw [e1]; exact Ar2.1) (State.isArrayOf_alike hZ.alike Ar2.2.1) (g := (mkF m 4 #[rv L] [(.ref ar)])) rfl rfl (hb hby d_jdk_45_m_3_4) _ ?_
    rw [len_of Sz2 Nn2]
    show Sx p e below T1 m 5 #[rv L] [(.int n)] _
    exact retI X1 hx Bd.returns (hb hby d_jdk_45_m_3_5) hr
  · show QV (some (.int n)) h0 n0 _ T1.heap _
    rw [e1]
    exact ⟨rfl, N0, rfl⟩
theorem ef_rmNg (m : MethodId) (x0 : Addr) (x1 : Int32) : entryFrame m #[(.ref x0), (.int x1)] 2 = mkF m 0 #[rv x0, iv x1] [] := by first | (simp [entryFrame, mkF, argsToLocals, Value.category]; done) | rfl
set_option maxRecDepth 65536 in
set_option maxHeartbeats 40000000 in
theorem rmNg (l : Launch) (Z : State) (a0 : Array Value) (hw : ∀ d ∈ tables_1, d.before a0 Z = true) (ws : List Jvm.Cond) (L ar b : Addr) (k : ClassId) (n i : Int32) (vs : List Value) (h0 : Heap) (n0 : Nat) (Z0 : n0 ≤ h0.size) (hF : Fld Z h0 L "java/util/ImmutableCollections$ListN" "elements" "[Ljava/lang/Object;" (.ref ar)) (hV : Arv Z h0 ar k (.object "java/lang/Object") n vs .null) (hlo : ¬ i < 0 ∧ i < n) (hb1 : vs.getD i.toNatClampNeg .null = .ref b) :
    MetFree l (⟨"java/util/ImmutableCollections$ListN", "get", "(I)Ljava/lang/Object;"⟩ : MethodName) (head1 (Jvm.Cond.code (⟨"java/util/ImmutableCollections$ListN", "get", "(I)Ljava/lang/Object;"⟩ : MethodName) jdk_45_method_4_code 2 (some (.object "java/lang/Object")) :: ws) ({ frames := 0, cells := 0, slots := 0, locals := 0 } : Room)) (fun aa_ UU_ => aa_ = #[(.ref L), (.int i)] ∧ Z.Warmed39 UU_.vm ∧ UU_.heap = h0) (fun _ _ _ _ _ => True) (fun _ UU_ oo_ UE_ => ∃ vv_ LL_, oo_ = .returned vv_ ∧ QV (some (.ref b)) h0 n0 vv_ UE_.heap LL_ ∧ FrameEnd UU_ oo_ UE_ LL_ ({ frames := 0, cells := 0, slots := 0, locals := 0 } : Room).cells ({ frames := 0, cells := 0, slots := 0, locals := 0 } : Room).slots) := by
  refine MetFree.of_bodySF (plainFor_of_name pn_9) hisR ?_
  intro p e s m args below meth c s₁ Bd hml0 hP hK
  obtain ⟨rfl, hZ, hh⟩ := hP
  have hx := Bd.exec
  have hby := Bd.bytes
  have hml : c.maxLocals = 2 := hml0
  have hown : s.vm.findClass "java/util/ImmutableCollections$ListN" = some m.cls := findClass_of_methodNamed Bd.named
  have hnm := (name_of_methodNamed Bd.named Bd.method).1
  have X0 : Stand p l e ({ frames := 0, cells := 0, slots := 0, locals := 0 } : Room) s m #[(.ref L), (.int i)] below meth c s₁ [] 0 0 := Stand.of_body Bd
  have e0 : s₁.heap = h0 := by rw [← hh, Bd.state]; rfl
  have N0 := Fr.nil n0
  have pre0 : ∀ tg, Steps p.tables e below (s₁.setTop (mkF m 0 #[rv L, iv i] [])) tg → Steps p.tables e below (s₁.setTop (entryFrame m #[(.ref L), (.int i)] 2)) tg := fun tg kq_ => castTop (ef_rmNg m L i) kq_
  obtain ⟨T1, X1, e1, st1⟩ := getF X0 hx hZ hown (host := "") (Or.inl (w_ hw 113 rfl)) Via.refl e0 hF (g := (mkF m 1 #[rv L, iv i] [(.ref L)])) rfl rfl (hb hby d_jdk_45_m_4_1)
  obtain ⟨cl2, Ar2, q2, Sz2, Nn2, Ha2, Ga2⟩ := id hV
  have hin2 : ¬ (i < 0 ∨ cl2.slots.size ≤ (i).toNatClampNeg) := inb_of Sz2 hlo
  have hat2 : cl2.slots[(i).toNatClampNeg]? = some (.ref b) := Ha2.at hin2 hb1
  obtain ⟨fs, hr, hrun, hended, hW, hsame⟩ := X1.leave (v := some (.ref b)) (fun h => by rw [Bd.returns] at h; cases h)
  refine ⟨_, _, pre0 _ ?_, hrun, hended, _, _, rfl, ?_, ⟨_, rfl⟩, hW, hsame.mono (by decide) (by decide)⟩
  · show Sx p e below s₁ m 0 #[rv L, iv i] [] _
    refine XS.aloadN X0.here hx rfl (hb hby d_jdk_45_m_4_0) rfl rfl ?_
    refine st1 _ ?_
    refine XS.iloadN X1.here hx rfl (hb hby d_jdk_45_m_4_4) rfl ?_
    refine X1.aaload hx (j := i) (v := (.ref b)) (by rw [e1]; exact Ar2.1) (State.isArrayOf_alike hZ.alike Ar2.2.1) rfl Ar2.2.2 hin2 hat2 (g := (mkF m 5 #[rv L, iv i] [(.int i), (.ref ar)])) rfl rfl (hb hby d_jdk_45_m_4_5) _ ?_
    show Sx p e below T1 m 6 #[rv L, iv i] [(.ref b)] _
    jvm_step X1.here [X1.here.top, hx, (hb hby d_jdk_45_m_4_6), X1.method', Bd.returns, Value.isRef, FieldType.isReference]
    first | (intro acts; rw [hr _ acts rfl rfl rfl]) | rw [hr _ _ rfl rfl rfl]
    exact Steps.refl _
  · show QV (some (.ref b)) h0 n0 _ T1.heap _
    rw [e1]
    exact ⟨rfl, N0, rfl⟩
theorem ef_rm2s (m : MethodId) (x0 : Addr) : entryFrame m #[(.ref x0)] 1 = mkF m 0 #[rv x0] [] := by first | (simp [entryFrame, mkF, argsToLocals, Value.category]; done) | rfl
set_option maxRecDepth 65536 in
set_option maxHeartbeats 40000000 in
theorem rm2s (l : Launch) (Z : State) (a0 : Array Value) (hw : ∀ d ∈ tables_1, d.before a0 Z = true) (ws : List Jvm.Cond) (L pa pb em : Addr) (h0 : Heap) (n0 : Nat) (Z0 : n0 ≤ h0.size) (hF0 : Fld Z h0 L "java/util/ImmutableCollections$List12" "e0" "Ljava/lang/Object;" (.ref pa)) (hF1 : Fld Z h0 L "java/util/ImmutableCollections$List12" "e1" "Ljava/lang/Object;" (.ref pb)) (hSe : Sta Z h0 "java/util/ImmutableCollections" "EMPTY" "Ljava/lang/Object;" (.ref em)) :
    MetFree l (⟨"java/util/ImmutableCollections$List12", "size", "()I"⟩ : MethodName) (head1 (Jvm.Cond.code (⟨"java/util/ImmutableCollections$List12", "size", "()I"⟩ : MethodName) jdk_44_method_3_code 1 (some .int) :: ws) ({ frames := 0, cells := 0, slots := 0, locals := 0 } : Room)) (fun aa_ UU_ => aa_ = #[(.ref L)] ∧ Z.Warmed39 UU_.vm ∧ UU_.heap = h0) (fun _ _ _ _ _ => True) (fun _ UU_ oo_ UE_ => ∃ vv_ LL_, oo_ = .returned vv_ ∧ QV (some (.int (if pb = em then (1 : Int32) else 2))) h0 n0 vv_ UE_.heap LL_ ∧ FrameEnd UU_ oo_ UE_ LL_ ({ frames := 0, cells := 0, slots := 0, locals := 0 } : Room).cells ({ frames := 0, cells := 0, slots := 0, locals := 0 } : Room).slots) := by
  refine MetFree.of_bodySF (plainFor_of_name pn_8) hisR ?_
  intro p e s m args below meth c s₁ Bd hml0 hP hK
  obtain ⟨rfl, hZ, hh⟩ := hP
  have hx := Bd.exec
  have hby := Bd.bytes
  have hml : c.maxLocals = 1 := hml0
  have hown : s.vm.findClass "java/util/ImmutableCollections$List12" = some m.cls := findClass_of_methodNamed Bd.named
  have hnm := (name_of_methodNamed Bd.named Bd.method).1
  have X0 : Stand p l e ({ frames := 0, cells := 0, slots := 0, locals := 0 } : Room) s m #[(.ref L)] below meth c s₁ [] 0 0 := Stand.of_body Bd
  have e0 : s₁.heap = h0 := by rw [← hh, Bd.state]; rfl
  have N0 := Fr.nil n0
  have pre0 : ∀ tg, Steps p.tables e below (s₁.setTop (mkF m 0 #[rv L] [])) tg → Steps p.tables e below (s₁.setTop (entryFrame m #[(.ref L)] 1)) tg := fun tg kq_ => castTop (ef_rm2s m L) kq_
  obtain ⟨T1, X1, e1, st1⟩ := getF X0 hx hZ hown (host := "") (Or.inl (w_ hw 234 rfl)) Via.refl e0 hF1 (g := (mkF m 1 #[rv L] [(.ref L)])) rfl rfl (hb hby d_jdk_44_m_3_1)
  obtain ⟨T2, X2, e2, st2⟩ := getS2 X1 hx hZ hown (Or.inr (w_ hw 242 rfl)) Via.refl e1 hSe (g := (mkF m 4 #[rv L] [(.ref pb)])) rfl (hb hby d_jdk_44_m_3_4)
  have R3 : ∀ tg, Sx p e below T2 m 7 #[rv L] [(.ref em), (.ref pb)] tg → Sx p e below s₁ m 0 #[rv L] [] tg := by
    intro tg kt
    refine XS.aloadN X0.here hx rfl (hb hby d_jdk_44_m_3_0) rfl rfl ?_
    refine st1 _ ?_
    refine st2 _ ?_
    show Sx p e below T2 m 7 #[rv L] [(.ref em), (.ref pb)] _
    exact kt
  by_cases hc7_4 : pb = em
  · obtain ⟨fs, hr, hrun, hended, hW, hsame⟩ := X2.leave (v := some (.int 1)) (fun h => by rw [Bd.returns] at h; cases h)
    refine ⟨_, _, pre0 _ (R3 _ ?_), hrun, hended, _, _, rfl, ?_, ⟨_, rfl⟩, hW, hsame.mono (by decide) (by decide)⟩
    · show Sx p e below T2 m 7 #[rv L] [(.ref em), (.ref pb)] _
      refine Jvm.RoadKit.acmp (g := (mkF m 7 #[rv L] [(.ref em), (.ref pb)])) X2 hx rfl rfl rfl (pc0 := 7) (pc' := 14) (same := true) rfl (hb hby d_jdk_44_m_3_7) rfl (decide_eq_true (congrArg Value.ref hc7_4)) (by decide) (by decide) ?_
      refine XS.iconst X2.here hx rfl (hb hby d_jdk_44_m_3_14) ?_
      show Sx p e below T2 m 15 #[rv L] [(.int 1)] _
      exact retI X2 hx Bd.returns (hb hby d_jdk_44_m_3_15) hr
    · show QV (some (.int (if pb = em then (1 : Int32) else 2))) h0 n0 _ T2.heap _
      rw [e2]
      exact ⟨by rw [if_pos hc7_4], N0, rfl⟩
  · obtain ⟨fs, hr, hrun, hended, hW, hsame⟩ := X2.leave (v := some (.int 2)) (fun h => by rw [Bd.returns] at h; cases h)
    refine ⟨_, _, pre0 _ (R3 _ ?_), hrun, hended, _, _, rfl, ?_, ⟨_, rfl⟩, hW, hsame.mono (by decide) (by decide)⟩
    · show Sx p e below T2 m 7 #[rv L] [(.ref em), (.ref pb)] _
      refine Jvm.RoadKit.acmp (g := (mkF m 7 #[rv L] [(.ref em), (.ref pb)])) X2 hx rfl rfl rfl (pc0 := 7) (pc' := 10) (same := false) rfl (hb hby d_jdk_44_m_3_7) rfl (decide_eq_false fun q => hc7_4 (Value.ref.inj q)) (by decide) (by decide) ?_
      refine XS.iconst X2.here hx rfl (hb hby d_jdk_44_m_3_10) ?_
      refine XS.goto X2.here hx rfl (pc0 := 11) (pc' := 15) rfl (hb hby d_jdk_44_m_3_11) (by decide) (by decide) ?_
      show Sx p e below T2 m 15 #[rv L] [(.int 2)] _
      exact retI X2 hx Bd.returns (hb hby d_jdk_44_m_3_15) hr
    · show QV (some (.int (if pb = em then (1 : Int32) else 2))) h0 n0 _ T2.heap _
      rw [e2]
      exact ⟨by rw [if_neg hc7_4], N0, rfl⟩
theorem ef_rm2a (m : MethodId) (x0 : Addr) (x1 : Int32) : entryFrame m #[(.ref x0), (.int x1)] 2 = mkF m 0 #[rv x0, iv x1] [] := by first | (simp [entryFrame, mkF, argsToLocals, Value.category]; done) | rfl
set_option maxRecDepth 65536 in
set_option maxHeartbeats 40000000 in
theorem rm2a (l : Launch) (Z : State) (a0 : Array Value) (hw : ∀ d ∈ tables_1, d.before a0 Z = true) (ws : List Jvm.Cond) (L pa pb em : Addr) (h0 : Heap) (n0 : Nat) (Z0 : n0 ≤ h0.size) (hF0 : Fld Z h0 L "java/util/ImmutableCollections$List12" "e0" "Ljava/lang/Object;" (.ref pa)) (hF1 : Fld Z h0 L "java/util/ImmutableCollections$List12" "e1" "Ljava/lang/Object;" (.ref pb)) (hSe : Sta Z h0 "java/util/ImmutableCollections" "EMPTY" "Ljava/lang/Object;" (.ref em)) :
    MetFree l (⟨"java/util/ImmutableCollections$List12", "get", "(I)Ljava/lang/Object;"⟩ : MethodName) (head1 (Jvm.Cond.code (⟨"java/util/ImmutableCollections$List12", "get", "(I)Ljava/lang/Object;"⟩ : MethodName) jdk_44_method_5_code 2 (some (.object "java/lang/Object")) :: ws) ({ frames := 0, cells := 0, slots := 0, locals := 0 } : Room)) (fun aa_ UU_ => aa_ = #[(.ref L), (.int 0)] ∧ Z.Warmed39 UU_.vm ∧ UU_.heap = h0) (fun _ _ _ _ _ => True) (fun _ UU_ oo_ UE_ => ∃ vv_ LL_, oo_ = .returned vv_ ∧ QV (some (.ref pa)) h0 n0 vv_ UE_.heap LL_ ∧ FrameEnd UU_ oo_ UE_ LL_ ({ frames := 0, cells := 0, slots := 0, locals := 0 } : Room).cells ({ frames := 0, cells := 0, slots := 0, locals := 0 } : Room).slots) := by
  refine MetFree.of_bodySF (plainFor_of_name pn_8) hisR ?_
  intro p e s m args below meth c s₁ Bd hml0 hP hK
  obtain ⟨rfl, hZ, hh⟩ := hP
  have hx := Bd.exec
  have hby := Bd.bytes
  have hml : c.maxLocals = 2 := hml0
  have hown : s.vm.findClass "java/util/ImmutableCollections$List12" = some m.cls := findClass_of_methodNamed Bd.named
  have hnm := (name_of_methodNamed Bd.named Bd.method).1
  have X0 : Stand p l e ({ frames := 0, cells := 0, slots := 0, locals := 0 } : Room) s m #[(.ref L), (.int 0)] below meth c s₁ [] 0 0 := Stand.of_body Bd
  have e0 : s₁.heap = h0 := by rw [← hh, Bd.state]; rfl
  have N0 := Fr.nil n0
  have pre0 : ∀ tg, Steps p.tables e below (s₁.setTop (mkF m 0 #[rv L, iv 0] [])) tg → Steps p.tables e below (s₁.setTop (entryFrame m #[(.ref L), (.int 0)] 2)) tg := fun tg kq_ => castTop (ef_rm2a m L (0 : Int32)) kq_
  obtain ⟨T1, X1, e1, st1⟩ := getF X0 hx hZ hown (host := "") (Or.inl (w_ hw 232 rfl)) Via.refl e0 hF0 (g := (mkF m 5 #[rv L, iv 0] [(.ref L)])) rfl rfl (hb hby d_jdk_44_m_5_5)
  obtain ⟨fs, hr, hrun, hended, hW, hsame⟩ := X1.leave (v := some (.ref pa)) (fun h => by rw [Bd.returns] at h; cases h)
  refine ⟨_, _, pre0 _ ?_, hrun, hended, _, _, rfl, ?_, ⟨_, rfl⟩, hW, hsame.mono (by decide) (by decide)⟩
  · show Sx p e below s₁ m 0 #[rv L, iv 0] [] _
    refine XS.iloadN X0.here hx rfl (hb hby d_jdk_44_m_5_0) rfl ?_
    refine XS.ifNo X0.here hx rfl (hb hby d_jdk_44_m_5_1) rfl ((if0 _ _).trans (teq (by decide : (0 : Int32) = (0 : Int32))).2) ?_
    refine XS.aloadN X0.here hx rfl (hb hby d_jdk_44_m_5_4) rfl rfl ?_
    refine st1 _ ?_
    show Sx p e below T1 m 8 #[rv L, iv 0] [(.ref pa)] _
    jvm_step X1.here [X1.here.top, hx, (hb hby d_jdk_44_m_5_8), X1.method', Bd.returns, Value.isRef, FieldType.isReference]
    first | (intro acts; rw [hr _ acts rfl rfl rfl]) | rw [hr _ _ rfl rfl rfl]
    exact Steps.refl _
  · show QV (some (.ref pa)) h0 n0 _ T1.heap _
    rw [e1]
    exact ⟨rfl, N0, rfl⟩
theorem ef_rm2b (m : MethodId) (x0 : Addr) (x1 : Int32) : entryFrame m #[(.ref x0), (.int x1)] 2 = mkF m 0 #[rv x0, iv x1] [] := by first | (simp [entryFrame, mkF, argsToLocals, Value.category]; done) | rfl
set_option maxRecDepth 65536 in
set_option maxHeartbeats 40000000 in
theorem rm2b (l : Launch) (Z : State) (a0 : Array Value) (hw : ∀ d ∈ tables_1, d.before a0 Z = true) (ws : List Jvm.Cond) (L pa pb em : Addr) (h0 : Heap) (n0 : Nat) (Z0 : n0 ≤ h0.size) (hF0 : Fld Z h0 L "java/util/ImmutableCollections$List12" "e0" "Ljava/lang/Object;" (.ref pa)) (hF1 : Fld Z h0 L "java/util/ImmutableCollections$List12" "e1" "Ljava/lang/Object;" (.ref pb)) (hSe : Sta Z h0 "java/util/ImmutableCollections" "EMPTY" "Ljava/lang/Object;" (.ref em)) (hne : ¬ pb = em) :
    MetFree l (⟨"java/util/ImmutableCollections$List12", "get", "(I)Ljava/lang/Object;"⟩ : MethodName) (head1 (Jvm.Cond.code (⟨"java/util/ImmutableCollections$List12", "get", "(I)Ljava/lang/Object;"⟩ : MethodName) jdk_44_method_5_code 2 (some (.object "java/lang/Object")) :: ws) ({ frames := 0, cells := 0, slots := 0, locals := 0 } : Room)) (fun aa_ UU_ => aa_ = #[(.ref L), (.int 1)] ∧ Z.Warmed39 UU_.vm ∧ UU_.heap = h0) (fun _ _ _ _ _ => True) (fun _ UU_ oo_ UE_ => ∃ vv_ LL_, oo_ = .returned vv_ ∧ QV (some (.ref pb)) h0 n0 vv_ UE_.heap LL_ ∧ FrameEnd UU_ oo_ UE_ LL_ ({ frames := 0, cells := 0, slots := 0, locals := 0 } : Room).cells ({ frames := 0, cells := 0, slots := 0, locals := 0 } : Room).slots) := by
  refine MetFree.of_bodySF (plainFor_of_name pn_8) hisR ?_
  intro p e s m args below meth c s₁ Bd hml0 hP hK
  obtain ⟨rfl, hZ, hh⟩ := hP
  have hx := Bd.exec
  have hby := Bd.bytes
  have hml : c.maxLocals = 2 := hml0
  have hown : s.vm.findClass "java/util/ImmutableCollections$List12" = some m.cls := findClass_of_methodNamed Bd.named
  have hnm := (name_of_methodNamed Bd.named Bd.method).1
  have X0 : Stand p l e ({ frames := 0, cells := 0, slots := 0, locals := 0 } : Room) s m #[(.ref L), (.int 1)] below meth c s₁ [] 0 0 := Stand.of_body Bd
  have e0 : s₁.heap = h0 := by rw [← hh, Bd.state]; rfl
  have N0 := Fr.nil n0
  have pre0 : ∀ tg, Steps p.tables e below (s₁.setTop (mkF m 0 #[rv L, iv 1] [])) tg → Steps p.tables e below (s₁.setTop (entryFrame m #[(.ref L), (.int 1)] 2)) tg := fun tg kq_ => castTop (ef_rm2b m L (1 : Int32)) kq_
  obtain ⟨T1, X1, e1, st1⟩ := getF X0 hx hZ hown (host := "") (Or.inl (w_ hw 234 rfl)) Via.refl e0 hF1 (g := (mkF m 15 #[rv L, iv 1] [(.ref L)])) rfl rfl (hb hby d_jdk_44_m_5_15)
  obtain ⟨T2, X2, e2, st2⟩ := getS2 X1 hx hZ hown (Or.inr (w_ hw 242 rfl)) Via.refl e1 hSe (g := (mkF m 18 #[rv L, iv 1] [(.ref pb)])) rfl (hb hby d_jdk_44_m_5_18)
  obtain ⟨T3, X3, e3, st3⟩ := getF X2 hx hZ hown (host := "") (Or.inl (w_ hw 234 rfl)) Via.refl e2 hF1 (g := (mkF m 25 #[rv L, iv 1] [(.ref L)])) rfl rfl (hb hby d_jdk_44_m_5_25)
  obtain ⟨fs, hr, hrun, hended, hW, hsame⟩ := X3.leave (v := some (.ref pb)) (fun h => by rw [Bd.returns] at h; cases h)
  refine ⟨_, _, pre0 _ ?_, hrun, hended, _, _, rfl, ?_, ⟨_, rfl⟩, hW, hsame.mono (by decide) (by decide)⟩
  · show Sx p e below s₁ m 0 #[rv L, iv 1] [] _
    refine XS.iloadN X0.here hx rfl (hb hby d_jdk_44_m_5_0) rfl ?_
    refine XS.ifYes X0.here hx rfl (pc0 := 1) (pc' := 9) rfl (hb hby d_jdk_44_m_5_1) rfl ((if0 _ _).trans (feq (by decide : ¬ ((1 : Int32) = (0 : Int32)))).2) (by decide) (by decide) ?_
    refine XS.iloadN X0.here hx rfl (hb hby d_jdk_44_m_5_9) rfl ?_
    refine XS.iconst X0.here hx rfl (hb hby d_jdk_44_m_5_10) ?_
    refine XS.icmpNo X0.here hx rfl (hb hby d_jdk_44_m_5_11) rfl (teq (by decide : (1 : Int32) = (1 : Int32))).2 ?_
    show Sx p e below s₁ m 14 #[rv L, iv 1] [] _
    refine XS.aloadN X0.here hx rfl (hb hby d_jdk_44_m_5_14) rfl rfl ?_
    refine st1 _ ?_
    refine st2 _ ?_
    refine Jvm.RoadKit.acmp (g := (mkF m 21 #[rv L, iv 1] [(.ref em), (.ref pb)])) X2 hx rfl rfl rfl (pc0 := 21) (pc' := 24) (same := false) rfl (hb hby d_jdk_44_m_5_21) rfl (decide_eq_false fun q => hne (Value.ref.inj q)) (by decide) (by decide) ?_
    refine XS.aloadN X2.here hx rfl (hb hby d_jdk_44_m_5_24) rfl rfl ?_
    show Sx p e below T2 m 25 #[rv L, iv 1] [(.ref L)] _
    refine st3 _ ?_
    show Sx p e below T3 m 28 #[rv L, iv 1] [(.ref pb)] _
    jvm_step X3.here [X3.here.top, hx, (hb hby d_jdk_44_m_5_28), X3.method', Bd.returns, Value.isRef, FieldType.isReference]
    first | (intro acts; rw [hr _ acts rfl rfl rfl]) | rw [hr _ _ rfl rfl rfl]
    exact Steps.refl _
  · show QV (some (.ref pb)) h0 n0 _ T3.heap _
    rw [e3]
    exact ⟨rfl, N0, rfl⟩
theorem ef_rmP0 (m : MethodId) (x0 : Addr) (x1 : Int32) : entryFrame m #[(.ref x0), (.int x1)] 5 = mkF m 0 #[rv x0, iv x1, u_, u_, u_] [] := by first | (simp [entryFrame, mkF, argsToLocals, Value.category]; done) | rfl
set_option maxRecDepth 65536 in
set_option maxHeartbeats 40000000 in
theorem rmP0 (l : Launch) (Z : State) (a0 : Array Value) (hw : ∀ d ∈ tables_1, d.before a0 Z = true) (ws : List Jvm.Cond) (o L  em : Addr) (ix  : Int32) (h0 : Heap) (n0 : Nat) (Z0 : n0 ≤ h0.size) (hFp : Fld Z h0 o "com/example/clausemap/clausemap/outline/Outline" "parts" "Ljava/util/List;" (.ref L)) (hLV : LVN Z h0 L 0 [])    :
    MetFree l (⟨"com/example/clausemap/clausemap/outline/Outline", "partAt", "(I)Lcom/example/clausemap/clausemap/outline/Part;"⟩ : MethodName) (head1 (Jvm.Cond.code (⟨"com/example/clausemap/clausemap/outline/Outline", "partAt", "(I)Lcom/example/clausemap/clausemap/outline/Part;"⟩ : MethodName) prog_25_method_4_code 5 (some (.object "com/example/clausemap/clausemap/outline/Part")) :: ws) ({ frames := 1, cells := 0, slots := 0, locals := 12 } : Room)) (fun aa_ UU_ => aa_ = #[(.ref o), (.int ix)] ∧ Z.Warmed39 UU_.vm ∧ UU_.heap = h0) (fun _ _ _ _ _ => True) (fun _ UU_ oo_ UE_ => ∃ vv_ LL_, oo_ = .returned vv_ ∧ QV (some .null) h0 n0 vv_ UE_.heap LL_ ∧ FrameEnd UU_ oo_ UE_ LL_ ({ frames := 1, cells := 0, slots := 0, locals := 12 } : Room).cells ({ frames := 1, cells := 0, slots := 0, locals := 12 } : Room).slots) := by
  refine MetFree.of_bodySF (plainFor_of_name pn_12) hisR ?_
  intro p e s m args below meth c s₁ Bd hml0 hP hK
  obtain ⟨rfl, hZ, hh⟩ := hP
  have hx := Bd.exec
  have hby := Bd.bytes
  have hml : c.maxLocals = 5 := hml0
  have hown : s.vm.findClass "com/example/clausemap/clausemap/outline/Outline" = some m.cls := findClass_of_methodNamed Bd.named
  have hnm := (name_of_methodNamed Bd.named Bd.method).1
  have X0 : Stand p l e ({ frames := 1, cells := 0, slots := 0, locals := 12 } : Room) s m #[(.ref o), (.int ix)] below meth c s₁ [] 0 0 := Stand.of_body Bd
  have e0 : s₁.heap = h0 := by rw [← hh, Bd.state]; rfl
  have N0 := Fr.nil n0
  have pre0 : ∀ tg, Steps p.tables e below (s₁.setTop (mkF m 0 #[rv o, iv ix, u_, u_, u_] [])) tg → Steps p.tables e below (s₁.setTop (entryFrame m #[(.ref o), (.int ix)] 5)) tg := fun tg kq_ => castTop (ef_rmP0 m o ix) kq_
  obtain ⟨ar, kk, hLe, hLf, hLv⟩ := hLV
  obtain ⟨T1, X1, e1, st1⟩ := getF X0 hx hZ hown (host := "") (Or.inl (w_ hw 88 rfl)) Via.refl e0 hFp (g := (mkF m 3 #[rv o, iv ix, iv 0, u_, u_] [(.ref o)])) rfl rfl (hb hby d_prog_25_m_4_3)
  obtain ⟨cq2, kq2, q2a, q2b, q2c⟩ := isOf hZ e1 hLe
  obtain ⟨_, _, ⟨T2, L2, k2, n2⟩, -, X2, ⟨Lc2, hQ2, l2, y2, z2⟩, st2⟩ := X1.interfaceBack hx (xi := (⟨"java/util/List", "size", "()I"⟩ : MethodName)) (y := (⟨"java/util/ImmutableCollections$ListN", "size", "()I"⟩ : MethodName)) hown (mvT hZ (w_ hw 103 rfl)) (mvT hZ (w_ hw 104 rfl)) (mvT hZ (w_ hw 105 rfl)) (mvT hZ (w_ hw 106 rfl)) (mvT hZ (w_ hw 107 rfl)) (mvT hZ (w_ hw 108 rfl)) (mvT hZ (w_ hw 109 rfl)) (mvT hZ (w_ hw 110 rfl)) (by decide) (backOf (W := 0) (rmNs l Z a0 hw [] L ar kk (0 : Int32) [] h0 n0 Z0 hLf hLv) hZ (w_ hw 112 rfl) (w_ hw 111 rfl) (by decide) (by decide)) q2a q2b q2c (g := (mkF m 6 #[rv o, iv ix, iv 0, u_, u_] [(.ref L)])) rfl (by rw [hml]; rfl) (Steps.refl _) (argsL := []) (rest := []) (lenOf pd_13 rfl) rfl (by show 2 * 0 + _ ≤ _; exact Nat.le_of_eq rfl) (hb hby d_prog_25_m_4_6) (fun _ _ => ⟨rfl, e1, (by decide : 0 + 0 ≤ _), (by decide : 0 + 0 ≤ _)⟩)
  dsimp only [Pt.U, Pt.locs, Pt.cells, Pt.slots] at X2 l2 y2 z2 st2 hQ2
  subst l2 y2 z2
  obtain ⟨hv2, N2q, r2⟩ := hQ2
  subst hv2
  have N2 := Fr.app N0 N2q
  obtain ⟨fs, hr, hrun, hended, hW, hsame⟩ := X2.leave (v := some .null) (fun h => by rw [Bd.returns] at h; cases h)
  refine ⟨_, _, pre0 _ ?_, hrun, hended, _, _, rfl, ?_, ⟨_, rfl⟩, hW, hsame.mono (by decide) (by decide)⟩
  · show Sx p e below s₁ m 0 #[rv o, iv ix, u_, u_, u_] [] _
    refine XS.iconst X0.here hx rfl (hb hby d_prog_25_m_4_0) ?_
    refine XS.istoreN X0.here hx rfl (hb hby d_prog_25_m_4_1) rfl (l' := #[rv o, iv ix, iv 0, u_, u_]) rfl ?_
    refine XS.aloadN X0.here hx rfl (hb hby d_prog_25_m_4_2) rfl rfl ?_
    refine st1 _ ?_
    refine st2.trans ?_
    show Sx p e below T2 m 11 #[rv o, iv ix, iv 0, u_, u_] [(.int 0)] _
    refine XS.istoreN X2.here hx rfl (hb hby d_prog_25_m_4_11) rfl (l' := #[rv o, iv ix, iv 0, iv 0, u_]) rfl ?_
    refine XS.iloadN X2.here hx rfl (hb hby d_prog_25_m_4_12) rfl ?_
    refine XS.iloadN X2.here hx rfl (hb hby d_prog_25_m_4_13) rfl ?_
    refine XS.icmpYes X2.here hx rfl (pc0 := 14) (pc' := 59) rfl (hb hby d_prog_25_m_4_14) rfl (flt (by decide : ¬ ((0 : Int32) < (0 : Int32)))).2.1 (by decide) (by decide) ?_
    refine XS.iloadN X2.here hx rfl (hb hby d_prog_25_m_4_59) rfl ?_
    show Sx p e below T2 m 60 #[rv o, iv ix, iv 0, iv 0, u_] [(.int 0)] _
    refine XS.ifNo X2.here hx rfl (hb hby d_prog_25_m_4_60) rfl ((if0 _ _).trans (teq (by decide : (0 : Int32) = (0 : Int32))).2) ?_
    refine XS.aconstNull X2.here hx rfl (hb hby d_prog_25_m_4_63) ?_
    refine XS.goto X2.here hx rfl (pc0 := 64) (pc' := 82) rfl (hb hby d_prog_25_m_4_64) (by decide) (by decide) ?_
    show Sx p e below T2 m 82 #[rv o, iv ix, iv 0, iv 0, u_] [.null] _
    jvm_step X2.here [X2.here.top, hx, (hb hby d_prog_25_m_4_82), X2.method', Bd.returns, Value.isRef, FieldType.isReference]
    first | (intro acts; rw [hr _ acts rfl rfl rfl]) | rw [hr _ _ rfl rfl rfl]
    exact Steps.refl _
  · show QV (some .null) h0 n0 _ T2.heap _
    rw [r2]
    exact ⟨rfl, N2, rfl⟩
theorem ef_rmP1 (m : MethodId) (x0 : Addr) (x1 : Int32) : entryFrame m #[(.ref x0), (.int x1)] 5 = mkF m 0 #[rv x0, iv x1, u_, u_, u_] [] := by first | (simp [entryFrame, mkF, argsToLocals, Value.category]; done) | rfl
set_option maxRecDepth 65536 in
set_option maxHeartbeats 40000000 in
theorem rmP1 (l : Launch) (Z : State) (a0 : Array Value) (hw : ∀ d ∈ tables_1, d.before a0 Z = true) (ws : List Jvm.Cond) (o L pa0 em : Addr) (ix sv0 : Int32) (h0 : Heap) (n0 : Nat) (Z0 : n0 ≤ h0.size) (hFp : Fld Z h0 o "com/example/clausemap/clausemap/outline/Outline" "parts" "Ljava/util/List;" (.ref L)) (hLV : LV2 Z h0 L pa0 em) (hx0 : Exa Z h0 pa0 "com/example/clausemap/clausemap/outline/Part") (hs0 : Fld Z h0 pa0 "com/example/clausemap/clausemap/outline/Part" "start" "I" (.int sv0))  (hSe : Sta Z h0 "java/util/ImmutableCollections" "EMPTY" "Ljava/lang/Object;" (.ref em)) :
    MetFree l (⟨"com/example/clausemap/clausemap/outline/Outline", "partAt", "(I)Lcom/example/clausemap/clausemap/outline/Part;"⟩ : MethodName) (head1 (Jvm.Cond.code (⟨"com/example/clausemap/clausemap/outline/Outline", "partAt", "(I)Lcom/example/clausemap/clausemap/outline/Part;"⟩ : MethodName) prog_25_method_4_code 5 (some (.object "com/example/clausemap/clausemap/outline/Part")) :: ws) ({ frames := 1, cells := 0, slots := 0, locals := 13 } : Room)) (fun aa_ UU_ => aa_ = #[(.ref o), (.int ix)] ∧ Z.Warmed39 UU_.vm ∧ UU_.heap = h0) (fun _ _ _ _ _ => True) (fun _ UU_ oo_ UE_ => ∃ vv_ LL_, oo_ = .returned vv_ ∧ QV (some (if ix < sv0 then .null else .ref pa0)) h0 n0 vv_ UE_.heap LL_ ∧ FrameEnd UU_ oo_ UE_ LL_ ({ frames := 1, cells := 0, slots := 0, locals := 13 } : Room).cells ({ frames := 1, cells := 0, slots := 0, locals := 13 } : Room).slots) := by
  refine MetFree.of_bodySF (plainFor_of_name pn_12) hisR ?_
  intro p e s m args below meth c s₁ Bd hml0 hP hK
  obtain ⟨rfl, hZ, hh⟩ := hP
  have hx := Bd.exec
  have hby := Bd.bytes
  have hml : c.maxLocals = 5 := hml0
  have hown : s.vm.findClass "com/example/clausemap/clausemap/outline/Outline" = some m.cls := findClass_of_methodNamed Bd.named
  have hnm := (name_of_methodNamed Bd.named Bd.method).1
  have X0 : Stand p l e ({ frames := 1, cells := 0, slots := 0, locals := 13 } : Room) s m #[(.ref o), (.int ix)] below meth c s₁ [] 0 0 := Stand.of_body Bd
  have e0 : s₁.heap = h0 := by rw [← hh, Bd.state]; rfl
  have N0 := Fr.nil n0
  have pre0 : ∀ tg, Steps p.tables e below (s₁.setTop (mkF m 0 #[rv o, iv ix, u_, u_, u_] [])) tg → Steps p.tables e below (s₁.setTop (entryFrame m #[(.ref o), (.int ix)] 5)) tg := fun tg kq_ => castTop (ef_rmP1 m o ix) kq_
  obtain ⟨hLe, hL0, hL1⟩ := hLV
  obtain ⟨T1, X1, e1, st1⟩ := getF X0 hx hZ hown (host := "") (Or.inl (w_ hw 88 rfl)) Via.refl e0 hFp (g := (mkF m 3 #[rv o, iv ix, iv 0, u_, u_] [(.ref o)])) rfl rfl (hb hby d_prog_25_m_4_3)
  obtain ⟨cq2, kq2, q2a, q2b, q2c⟩ := isOf hZ e1 hLe
  obtain ⟨_, _, ⟨T2, L2, k2, n2⟩, -, X2, ⟨Lc2, hQ2, l2, y2, z2⟩, st2⟩ := X1.interfaceBack hx (xi := (⟨"java/util/List", "size", "()I"⟩ : MethodName)) (y := (⟨"java/util/ImmutableCollections$List12", "size", "()I"⟩ : MethodName)) hown (mvT hZ (w_ hw 103 rfl)) (mvT hZ (w_ hw 104 rfl)) (mvT hZ (w_ hw 105 rfl)) (mvT hZ (w_ hw 236 rfl)) (mvT hZ (w_ hw 237 rfl)) (mvT hZ (w_ hw 238 rfl)) (mvT hZ (w_ hw 239 rfl)) (mvT hZ (w_ hw 240 rfl)) (by decide) (backOf (W := 0) (rm2s l Z a0 hw [] L pa0 em em h0 n0 Z0 hL0 hL1 hSe) hZ (w_ hw 241 rfl) (w_ hw 222 rfl) (by decide) (by decide)) q2a q2b q2c (g := (mkF m 6 #[rv o, iv ix, iv 0, u_, u_] [(.ref L)])) rfl (by rw [hml]; rfl) (Steps.refl _) (argsL := []) (rest := []) (lenOf pd_13 rfl) rfl (by show 2 * 0 + _ ≤ _; exact Nat.le_of_eq rfl) (hb hby d_prog_25_m_4_6) (fun _ _ => ⟨rfl, e1, (by decide : 0 + 0 ≤ _), (by decide : 0 + 0 ≤ _)⟩)
  dsimp only [Pt.U, Pt.locs, Pt.cells, Pt.slots] at X2 l2 y2 z2 st2 hQ2
  subst l2 y2 z2
  obtain ⟨hv2, N2q, r2⟩ := hQ2
  rw [if_pos rfl] at hv2
  subst hv2
  have N2 := Fr.app N0 N2q
  have R3 : ∀ tg, Sx p e below T2 m 20 #[rv o, iv ix, iv 0, iv 1, u_] [(.int ((0 : Int32) + (1 : Int32)))] tg → Sx p e below s₁ m 0 #[rv o, iv ix, u_, u_, u_] [] tg := by
    intro tg kt
    refine XS.iconst X0.here hx rfl (hb hby d_prog_25_m_4_0) ?_
    refine XS.istoreN X0.here hx rfl (hb hby d_prog_25_m_4_1) rfl (l' := #[rv o, iv ix, iv 0, u_, u_]) rfl ?_
    refine XS.aloadN X0.here hx rfl (hb hby d_prog_25_m_4_2) rfl rfl ?_
    refine st1 _ ?_
    refine st2.trans ?_
    show Sx p e below T2 m 11 #[rv o, iv ix, iv 0, u_, u_] [(.int 1)] _
    refine XS.istoreN X2.here hx rfl (hb hby d_prog_25_m_4_11) rfl (l' := #[rv o, iv ix, iv 0, iv 1, u_]) rfl ?_
    refine XS.iloadN X2.here hx rfl (hb hby d_prog_25_m_4_12) rfl ?_
    refine XS.iloadN X2.here hx rfl (hb hby d_prog_25_m_4_13) rfl ?_
    refine XS.icmpNo X2.here hx rfl (hb hby d_prog_25_m_4_14) rfl (tlt (by decide : (0 : Int32) < (1 : Int32))).2.1 ?_
    refine XS.iloadN X2.here hx rfl (hb hby d_prog_25_m_4_17) rfl ?_
    show Sx p e below T2 m 18 #[rv o, iv ix, iv 0, iv 1, u_] [(.int 0)] _
    refine XS.iloadN X2.here hx rfl (hb hby d_prog_25_m_4_18) rfl ?_
    refine XS.iadd X2.here hx rfl (hb hby d_prog_25_m_4_19) rfl ?_
    show Sx p e below T2 m 20 #[rv o, iv ix, iv 0, iv 1, u_] [(.int ((0 : Int32) + (1 : Int32)))] _
    exact kt
  have R4 : ∀ tg, Sx p e below T2 m 20 #[rv o, iv ix, iv 0, iv 1, u_] [(.int 1)] tg → Sx p e below T2 m 20 #[rv o, iv ix, iv 0, iv 1, u_] [(.int ((0 : Int32) + (1 : Int32)))] tg := fun tg kt => by rw [(by decide : ((0 : Int32) + (1 : Int32)) = (1 : Int32))]; exact kt
  have R5 : ∀ tg, Sx p e below T2 m 22 #[rv o, iv ix, iv 0, iv 1, u_] [(.int (((1 : Int32).toUInt32 >>> ((1 : Int32) &&& 31).toUInt32).toInt32))] tg → Sx p e below T2 m 20 #[rv o, iv ix, iv 0, iv 1, u_] [(.int 1)] tg := by
    intro tg kt
    refine XS.iconst X2.here hx rfl (hb hby d_prog_25_m_4_20) ?_
    refine XS.iushr X2.here hx rfl (hb hby d_prog_25_m_4_21) rfl ?_
    show Sx p e below T2 m 22 #[rv o, iv ix, iv 0, iv 1, u_] [(.int (((1 : Int32).toUInt32 >>> ((1 : Int32) &&& 31).toUInt32).toInt32))] _
    exact kt
  have R6 : ∀ tg, Sx p e below T2 m 22 #[rv o, iv ix, iv 0, iv 1, u_] [(.int 0)] tg → Sx p e below T2 m 22 #[rv o, iv ix, iv 0, iv 1, u_] [(.int (((1 : Int32).toUInt32 >>> ((1 : Int32) &&& 31).toUInt32).toInt32))] tg := fun tg kt => by rw [(by decide : (((1 : Int32).toUInt32 >>> ((1 : Int32) &&& 31).toUInt32).toInt32) = (0 : Int32))]; exact kt
  obtain ⟨T7, X7, e7, st7⟩ := getF X2 hx hZ hown (host := "") (Or.inl (w_ hw 88 rfl)) Via.refl r2 hFp (g := (mkF m 25 #[rv o, iv ix, iv 0, iv 1, iv 0] [(.ref o)])) rfl rfl (hb hby d_prog_25_m_4_25)
  obtain ⟨cq8, kq8, q8a, q8b, q8c⟩ := isOf hZ e7 hLe
  obtain ⟨_, _, ⟨T8, L8, k8, n8⟩, -, X8, ⟨Lc8, hQ8, l8, y8, z8⟩, st8⟩ := X7.interfaceBack hx (xi := (⟨"java/util/List", "get", "(I)Ljava/lang/Object;"⟩ : MethodName)) (y := (⟨"java/util/ImmutableCollections$List12", "get", "(I)Ljava/lang/Object;"⟩ : MethodName)) hown (mvT hZ (w_ hw 205 rfl)) (mvT hZ (w_ hw 206 rfl)) (mvT hZ (w_ hw 207 rfl)) (mvT hZ (w_ hw 243 rfl)) (mvT hZ (w_ hw 244 rfl)) (mvT hZ (w_ hw 245 rfl)) (mvT hZ (w_ hw 246 rfl)) (mvT hZ (w_ hw 240 rfl)) (by decide) (backOf (W := 0) (rm2a l Z a0 hw [] L pa0 em em h0 n0 Z0 hL0 hL1 hSe) hZ (w_ hw 247 rfl) (w_ hw 222 rfl) (by decide) (by decide)) q8a q8b q8c (g := (mkF m 30 #[rv o, iv ix, iv 0, iv 1, iv 0] [(.int 0), (.ref L)])) rfl (by rw [hml]; rfl) (Steps.refl _) (argsL := [(.int 0)]) (rest := []) (lenOf pd_14 rfl) rfl (by show 2 * 0 + _ ≤ _; exact Nat.le_of_eq rfl) (hb hby d_prog_25_m_4_30) (fun _ _ => ⟨rfl, e7, (by decide : 0 + 0 ≤ _), (by decide : 0 + 0 ≤ _)⟩)
  dsimp only [Pt.U, Pt.locs, Pt.cells, Pt.slots] at X8 l8 y8 z8 st8 hQ8
  subst l8 y8 z8
  obtain ⟨hv8, N8q, r8⟩ := hQ8
  subst hv8
  have N8 := Fr.app N2 N8q
  obtain ⟨T9, X9, e9, st9⟩ := castY X8 hx hZ hown (w_ hw 213 rfl) r8 (Ins.self hx0) (g := (mkF m 35 #[rv o, iv ix, iv 0, iv 1, iv 0] [(.ref pa0)])) rfl rfl (hb hby d_prog_25_m_4_35)
  obtain ⟨cq10, kq10, q10a, q10b, q10c⟩ := isOf hZ e9 hx0
  obtain ⟨_, _, ⟨T10, L10, k10, n10⟩, -, X10, ⟨Lc10, hQ10, l10, y10, z10⟩, st10⟩ := X9.virtualBack hx (y := (⟨"com/example/clausemap/clausemap/outline/Part", "start", "()I"⟩ : MethodName)) (z := (⟨"com/example/clausemap/clausemap/outline/Part", "start", "()I"⟩ : MethodName)) hown (mvT hZ (w_ hw 215 rfl)) (mvT hZ (w_ hw 216 rfl)) (notFace_of_selects (args := #[]) (mvT hZ (w_ hw 218 rfl))) (mvT hZ (w_ hw 218 rfl)) (mvT hZ (w_ hw 217 rfl)) (by decide) (backOf (W := 0) (rmPs l Z a0 hw [] pa0 sv0 h0 n0 Z0 hs0) hZ (w_ hw 219 rfl) (w_ hw 4 rfl) (by decide) (by decide)) q10a q10c (g := (mkF m 38 #[rv o, iv ix, iv 0, iv 1, iv 0] [(.ref pa0)])) rfl (by rw [hml]; rfl) (Steps.refl _) (argsL := []) (rest := []) (lenOf pd_13 rfl) rfl (by show 2 * 0 + _ ≤ _; exact Nat.le_of_eq rfl) (hb hby d_prog_25_m_4_38) (fun _ _ => ⟨rfl, e9, (by decide : 0 + 0 ≤ _), (by decide : 0 + 0 ≤ _)⟩)
  dsimp only [Pt.U, Pt.locs, Pt.cells, Pt.slots] at X10 l10 y10 z10 st10 hQ10
  subst l10 y10 z10
  obtain ⟨hv10, N10q, r10⟩ := hQ10
  subst hv10
  have N10 := Fr.app N8 N10q
  have R11 : ∀ tg, Sx p e below T10 m 42 #[rv o, iv ix, iv 0, iv 1, iv 0] [(.int ix), (.int sv0)] tg → Sx p e below T2 m 22 #[rv o, iv ix, iv 0, iv 1, u_] [(.int 0)] tg := by
    intro tg kt
    refine XS.istore X2.here hx rfl (hb hby d_prog_25_m_4_22) rfl (l' := #[rv o, iv ix, iv 0, iv 1, iv 0]) rfl ?_
    refine XS.aloadN X2.here hx rfl (hb hby d_prog_25_m_4_24) rfl rfl ?_
    refine st7 _ ?_
    refine XS.iload X7.here hx rfl (hb hby d_prog_25_m_4_28) rfl ?_
    refine st8.trans ?_
    show Sx p e below T8 m 35 #[rv o, iv ix, iv 0, iv 1, iv 0] [(.ref pa0)] _
    refine st9 _ ?_
    refine st10.trans ?_
    refine XS.iloadN X10.here hx rfl (hb hby d_prog_25_m_4_41) rfl ?_
    show Sx p e below T10 m 42 #[rv o, iv ix, iv 0, iv 1, iv 0] [(.int ix), (.int sv0)] _
    exact kt
  by_cases hc42_12 : ix < sv0
  · obtain ⟨fs, hr, hrun, hended, hW, hsame⟩ := X10.leave (v := some .null) (fun h => by rw [Bd.returns] at h; cases h)
    refine ⟨_, _, pre0 _ (R3 _ (R4 _ (R5 _ (R6 _ (R11 _ ?_))))), hrun, hended, _, _, rfl, ?_, ⟨_, rfl⟩, hW, hsame.mono (by decide) (by decide)⟩
    · show Sx p e below T10 m 42 #[rv o, iv ix, iv 0, iv 1, iv 0] [(.int ix), (.int sv0)] _
      refine XS.icmpYes X10.here hx rfl (pc0 := 42) (pc' := 53) rfl (hb hby d_prog_25_m_4_42) rfl (tlt hc42_12).2.2.1 (by decide) (by decide) ?_
      refine XS.iload X10.here hx rfl (hb hby d_prog_25_m_4_53) rfl ?_
      refine XS.istoreN X10.here hx rfl (hb hby d_prog_25_m_4_55) rfl (l' := #[rv o, iv ix, iv 0, iv 0, iv 0]) rfl ?_
      refine XS.goto X10.here hx rfl (pc0 := 56) (pc' := 12) rfl (hb hby d_prog_25_m_4_56) (by decide) (by decide) ?_
      refine XS.iloadN X10.here hx rfl (hb hby d_prog_25_m_4_12) rfl ?_
      show Sx p e below T10 m 13 #[rv o, iv ix, iv 0, iv 0, iv 0] [(.int 0)] _
      refine XS.iloadN X10.here hx rfl (hb hby d_prog_25_m_4_13) rfl ?_
      refine XS.icmpYes X10.here hx rfl (pc0 := 14) (pc' := 59) rfl (hb hby d_prog_25_m_4_14) rfl (flt (by decide : ¬ ((0 : Int32) < (0 : Int32)))).2.1 (by decide) (by decide) ?_
      refine XS.iloadN X10.here hx rfl (hb hby d_prog_25_m_4_59) rfl ?_
      refine XS.ifNo X10.here hx rfl (hb hby d_prog_25_m_4_60) rfl ((if0 _ _).trans (teq (by decide : (0 : Int32) = (0 : Int32))).2) ?_
      refine XS.aconstNull X10.here hx rfl (hb hby d_prog_25_m_4_63) ?_
      show Sx p e below T10 m 64 #[rv o, iv ix, iv 0, iv 0, iv 0] [.null] _
      refine XS.goto X10.here hx rfl (pc0 := 64) (pc' := 82) rfl (hb hby d_prog_25_m_4_64) (by decide) (by decide) ?_
      show Sx p e below T10 m 82 #[rv o, iv ix, iv 0, iv 0, iv 0] [.null] _
      jvm_step X10.here [X10.here.top, hx, (hb hby d_prog_25_m_4_82), X10.method', Bd.returns, Value.isRef, FieldType.isReference]
      first | (intro acts; rw [hr _ acts rfl rfl rfl]) | rw [hr _ _ rfl rfl rfl]
      exact Steps.refl _
    · show QV (some (if ix < sv0 then .null else .ref pa0)) h0 n0 _ T10.heap _
      rw [r10]
      exact ⟨by rw [if_pos hc42_12], N10, rfl⟩
  · have R13 : ∀ tg, Sx p e below T10 m 49 #[rv o, iv ix, iv 0, iv 1, iv 0] [(.int ((0 : Int32) + (1 : Int32)))] tg → Sx p e below T10 m 42 #[rv o, iv ix, iv 0, iv 1, iv 0] [(.int ix), (.int sv0)] tg := by
      intro tg kt
      refine XS.icmpNo X10.here hx rfl (hb hby d_prog_25_m_4_42) rfl (flt hc42_12).2.2.1 ?_
      refine XS.iload X10.here hx rfl (hb hby d_prog_25_m_4_45) rfl ?_
      refine XS.iconst X10.here hx rfl (hb hby d_prog_25_m_4_47) ?_
      refine XS.iadd X10.here hx rfl (hb hby d_prog_25_m_4_48) rfl ?_
      show Sx p e below T10 m 49 #[rv o, iv ix, iv 0, iv 1, iv 0] [(.int ((0 : Int32) + (1 : Int32)))] _
      exact kt
    have R14 : ∀ tg, Sx p e below T10 m 49 #[rv o, iv ix, iv 0, iv 1, iv 0] [(.int 1)] tg → Sx p e below T10 m 49 #[rv o, iv ix, iv 0, iv 1, iv 0] [(.int ((0 : Int32) + (1 : Int32)))] tg := fun tg kt => by rw [(by decide : ((0 : Int32) + (1 : Int32)) = (1 : Int32))]; exact kt
    obtain ⟨T15, X15, e15, st15⟩ := getF X10 hx hZ hown (host := "") (Or.inl (w_ hw 88 rfl)) Via.refl r10 hFp (g := (mkF m 68 #[rv o, iv ix, iv 1, iv 1, iv 0] [(.ref o)])) rfl rfl (hb hby d_prog_25_m_4_68)
    have R16 : ∀ tg, Sx p e below T15 m 74 #[rv o, iv ix, iv 1, iv 1, iv 0] [(.int ((1 : Int32) - (1 : Int32))), (.ref L)] tg → Sx p e below T10 m 49 #[rv o, iv ix, iv 0, iv 1, iv 0] [(.int 1)] tg := by
      intro tg kt
      refine XS.istoreN X10.here hx rfl (hb hby d_prog_25_m_4_49) rfl (l' := #[rv o, iv ix, iv 1, iv 1, iv 0]) rfl ?_
      refine XS.goto X10.here hx rfl (pc0 := 50) (pc' := 56) rfl (hb hby d_prog_25_m_4_50) (by decide) (by decide) ?_
      refine XS.goto X10.here hx rfl (pc0 := 56) (pc' := 12) rfl (hb hby d_prog_25_m_4_56) (by decide) (by decide) ?_
      refine XS.iloadN X10.here hx rfl (hb hby d_prog_25_m_4_12) rfl ?_
      refine XS.iloadN X10.here hx rfl (hb hby d_prog_25_m_4_13) rfl ?_
      show Sx p e below T10 m 14 #[rv o, iv ix, iv 1, iv 1, iv 0] [(.int 1), (.int 1)] _
      refine XS.icmpYes X10.here hx rfl (pc0 := 14) (pc' := 59) rfl (hb hby d_prog_25_m_4_14) rfl (flt (by decide : ¬ ((1 : Int32) < (1 : Int32)))).2.1 (by decide) (by decide) ?_
      refine XS.iloadN X10.here hx rfl (hb hby d_prog_25_m_4_59) rfl ?_
      refine XS.ifYes X10.here hx rfl (pc0 := 60) (pc' := 67) rfl (hb hby d_prog_25_m_4_60) rfl ((if0 _ _).trans (feq (by decide : ¬ ((1 : Int32) = (0 : Int32)))).2) (by decide) (by decide) ?_
      refine XS.aloadN X10.here hx rfl (hb hby d_prog_25_m_4_67) rfl rfl ?_
      refine st15 _ ?_
      show Sx p e below T15 m 71 #[rv o, iv ix, iv 1, iv 1, iv 0] [(.ref L)] _
      refine XS.iloadN X15.here hx rfl (hb hby d_prog_25_m_4_71) rfl ?_
      refine XS.iconst X15.here hx rfl (hb hby d_prog_25_m_4_72) ?_
      refine XS.isub X15.here hx rfl (hb hby d_prog_25_m_4_73) rfl ?_
      show Sx p e below T15 m 74 #[rv o, iv ix, iv 1, iv 1, iv 0] [(.int ((1 : Int32) - (1 : Int32))), (.ref L)] _
      exact kt
    have R17 : ∀ tg, Sx p e below T15 m 74 #[rv o, iv ix, iv 1, iv 1, iv 0] [(.int 0), (.ref L)] tg → Sx p e below T15 m 74 #[rv o, iv ix, iv 1, iv 1, iv 0] [(.int ((1 : Int32) - (1 : Int32))), (.ref L)] tg := fun tg kt => by rw [(by decide : ((1 : Int32) - (1 : Int32)) = (0 : Int32))]; exact kt
    obtain ⟨cq18, kq18, q18a, q18b, q18c⟩ := isOf hZ e15 hLe
    obtain ⟨_, _, ⟨T18, L18, k18, n18⟩, -, X18, ⟨Lc18, hQ18, l18, y18, z18⟩, st18⟩ := X15.interfaceBack hx (xi := (⟨"java/util/List", "get", "(I)Ljava/lang/Object;"⟩ : MethodName)) (y := (⟨"java/util/ImmutableCollections$List12", "get", "(I)Ljava/lang/Object;"⟩ : MethodName)) hown (mvT hZ (w_ hw 205 rfl)) (mvT hZ (w_ hw 206 rfl)) (mvT hZ (w_ hw 207 rfl)) (mvT hZ (w_ hw 243 rfl)) (mvT hZ (w_ hw 244 rfl)) (mvT hZ (w_ hw 245 rfl)) (mvT hZ (w_ hw 246 rfl)) (mvT hZ (w_ hw 240 rfl)) (by decide) (backOf (W := 0) (rm2a l Z a0 hw [] L pa0 em em h0 n0 Z0 hL0 hL1 hSe) hZ (w_ hw 247 rfl) (w_ hw 222 rfl) (by decide) (by decide)) q18a q18b q18c (g := (mkF m 74 #[rv o, iv ix, iv 1, iv 1, iv 0] [(.int 0), (.ref L)])) rfl (by rw [hml]; rfl) (Steps.refl _) (argsL := [(.int 0)]) (rest := []) (lenOf pd_14 rfl) rfl (by show 2 * 0 + _ ≤ _; exact Nat.le_of_eq rfl) (hb hby d_prog_25_m_4_74) (fun _ _ => ⟨rfl, e15, (by decide : 0 + 0 ≤ _), (by decide : 0 + 0 ≤ _)⟩)
    dsimp only [Pt.U, Pt.locs, Pt.cells, Pt.slots] at X18 l18 y18 z18 st18 hQ18
    subst l18 y18 z18
    obtain ⟨hv18, N18q, r18⟩ := hQ18
    subst hv18
    have N18 := Fr.app N10 N18q
    obtain ⟨T19, X19, e19, st19⟩ := castY X18 hx hZ hown (w_ hw 213 rfl) r18 (Ins.self hx0) (g := (mkF m 79 #[rv o, iv ix, iv 1, iv 1, iv 0] [(.ref pa0)])) rfl rfl (hb hby d_prog_25_m_4_79)
    obtain ⟨fs, hr, hrun, hended, hW, hsame⟩ := X19.leave (v := some (.ref pa0)) (fun h => by rw [Bd.returns] at h; cases h)
    refine ⟨_, _, pre0 _ (R3 _ (R4 _ (R5 _ (R6 _ (R11 _ (R13 _ (R14 _ (R16 _ (R17 _ ?_))))))))), hrun, hended, _, _, rfl, ?_, ⟨_, rfl⟩, hW, hsame.mono (by decide) (by decide)⟩
    · show Sx p e below T15 m 74 #[rv o, iv ix, iv 1, iv 1, iv 0] [(.int 0), (.ref L)] _
      refine st18.trans ?_
      refine st19 _ ?_
      show Sx p e below T19 m 82 #[rv o, iv ix, iv 1, iv 1, iv 0] [(.ref pa0)] _
      jvm_step X19.here [X19.here.top, hx, (hb hby d_prog_25_m_4_82), X19.method', Bd.returns, Value.isRef, FieldType.isReference]
      first | (intro acts; rw [hr _ acts rfl rfl rfl]) | rw [hr _ _ rfl rfl rfl]
      exact Steps.refl _
    · show QV (some (if ix < sv0 then .null else .ref pa0)) h0 n0 _ T19.heap _
      rw [e19]
      exact ⟨by rw [if_neg hc42_12], N18, rfl⟩
theorem ef_rmP2 (m : MethodId) (x0 : Addr) (x1 : Int32) : entryFrame m #[(.ref x0), (.int x1)] 5 = mkF m 0 #[rv x0, iv x1, u_, u_, u_] [] := by first | (simp [entryFrame, mkF, argsToLocals, Value.category]; done) | rfl
set_option maxRecDepth 65536 in
set_option maxHeartbeats 40000000 in
theorem rmP2 (l : Launch) (Z : State) (a0 : Array Value) (hw : ∀ d ∈ tables_1, d.before a0 Z = true) (ws : List Jvm.Cond) (o L pa0 pa1 em : Addr) (ix sv0 sv1 : Int32) (h0 : Heap) (n0 : Nat) (Z0 : n0 ≤ h0.size) (hFp : Fld Z h0 o "com/example/clausemap/clausemap/outline/Outline" "parts" "Ljava/util/List;" (.ref L)) (hLV : LV2 Z h0 L pa0 pa1) (hx0 : Exa Z h0 pa0 "com/example/clausemap/clausemap/outline/Part") (hx1 : Exa Z h0 pa1 "com/example/clausemap/clausemap/outline/Part") (hs0 : Fld Z h0 pa0 "com/example/clausemap/clausemap/outline/Part" "start" "I" (.int sv0)) (hs1 : Fld Z h0 pa1 "com/example/clausemap/clausemap/outline/Part" "start" "I" (.int sv1)) (hlt0 : sv0 < sv1) (hSe : Sta Z h0 "java/util/ImmutableCollections" "EMPTY" "Ljava/lang/Object;" (.ref em)) (hne : ¬ pa1 = em) :
    MetFree l (⟨"com/example/clausemap/clausemap/outline/Outline", "partAt", "(I)Lcom/example/clausemap/clausemap/outline/Part;"⟩ : MethodName) (head1 (Jvm.Cond.code (⟨"com/example/clausemap/clausemap/outline/Outline", "partAt", "(I)Lcom/example/clausemap/clausemap/outline/Part;"⟩ : MethodName) prog_25_method_4_code 5 (some (.object "com/example/clausemap/clausemap/outline/Part")) :: ws) ({ frames := 1, cells := 0, slots := 0, locals := 13 } : Room)) (fun aa_ UU_ => aa_ = #[(.ref o), (.int ix)] ∧ Z.Warmed39 UU_.vm ∧ UU_.heap = h0) (fun _ _ _ _ _ => True) (fun _ UU_ oo_ UE_ => ∃ vv_ LL_, oo_ = .returned vv_ ∧ QV (some (if ix < sv1 then (if ix < sv0 then .null else .ref pa0) else .ref pa1)) h0 n0 vv_ UE_.heap LL_ ∧ FrameEnd UU_ oo_ UE_ LL_ ({ frames := 1, cells := 0, slots := 0, locals := 13 } : Room).cells ({ frames := 1, cells := 0, slots := 0, locals := 13 } : Room).slots) := by
  refine MetFree.of_bodySF (plainFor_of_name pn_12) hisR ?_
  intro p e s m args below meth c s₁ Bd hml0 hP hK
  obtain ⟨rfl, hZ, hh⟩ := hP
  have hx := Bd.exec
  have hby := Bd.bytes
  have hml : c.maxLocals = 5 := hml0
  have hown : s.vm.findClass "com/example/clausemap/clausemap/outline/Outline" = some m.cls := findClass_of_methodNamed Bd.named
  have hnm := (name_of_methodNamed Bd.named Bd.method).1
  have X0 : Stand p l e ({ frames := 1, cells := 0, slots := 0, locals := 13 } : Room) s m #[(.ref o), (.int ix)] below meth c s₁ [] 0 0 := Stand.of_body Bd
  have e0 : s₁.heap = h0 := by rw [← hh, Bd.state]; rfl
  have N0 := Fr.nil n0
  have pre0 : ∀ tg, Steps p.tables e below (s₁.setTop (mkF m 0 #[rv o, iv ix, u_, u_, u_] [])) tg → Steps p.tables e below (s₁.setTop (entryFrame m #[(.ref o), (.int ix)] 5)) tg := fun tg kq_ => castTop (ef_rmP2 m o ix) kq_
  obtain ⟨hLe, hL0, hL1⟩ := hLV
  obtain ⟨T1, X1, e1, st1⟩ := getF X0 hx hZ hown (host := "") (Or.inl (w_ hw 88 rfl)) Via.refl e0 hFp (g := (mkF m 3 #[rv o, iv ix, iv 0, u_, u_] [(.ref o)])) rfl rfl (hb hby d_prog_25_m_4_3)
  obtain ⟨cq2, kq2, q2a, q2b, q2c⟩ := isOf hZ e1 hLe
  obtain ⟨_, _, ⟨T2, L2, k2, n2⟩, -, X2, ⟨Lc2, hQ2, l2, y2, z2⟩, st2⟩ := X1.interfaceBack hx (xi := (⟨"java/util/List", "size", "()I"⟩ : MethodName)) (y := (⟨"java/util/ImmutableCollections$List12", "size", "()I"⟩ : MethodName)) hown (mvT hZ (w_ hw 103 rfl)) (mvT hZ (w_ hw 104 rfl)) (mvT hZ (w_ hw 105 rfl)) (mvT hZ (w_ hw 236 rfl)) (mvT hZ (w_ hw 237 rfl)) (mvT hZ (w_ hw 238 rfl)) (mvT hZ (w_ hw 239 rfl)) (mvT hZ (w_ hw 240 rfl)) (by decide) (backOf (W := 0) (rm2s l Z a0 hw [] L pa0 pa1 em h0 n0 Z0 hL0 hL1 hSe) hZ (w_ hw 241 rfl) (w_ hw 222 rfl) (by decide) (by decide)) q2a q2b q2c (g := (mkF m 6 #[rv o, iv ix, iv 0, u_, u_] [(.ref L)])) rfl (by rw [hml]; rfl) (Steps.refl _) (argsL := []) (rest := []) (lenOf pd_13 rfl) rfl (by show 2 * 0 + _ ≤ _; exact Nat.le_of_eq rfl) (hb hby d_prog_25_m_4_6) (fun _ _ => ⟨rfl, e1, (by decide : 0 + 0 ≤ _), (by decide : 0 + 0 ≤ _)⟩)
  dsimp only [Pt.U, Pt.locs, Pt.cells, Pt.slots] at X2 l2 y2 z2 st2 hQ2
  subst l2 y2 z2
  obtain ⟨hv2, N2q, r2⟩ := hQ2
  rw [if_neg hne] at hv2
  subst hv2
  have N2 := Fr.app N0 N2q
  have R3 : ∀ tg, Sx p e below T2 m 20 #[rv o, iv ix, iv 0, iv 2, u_] [(.int ((0 : Int32) + (2 : Int32)))] tg → Sx p e below s₁ m 0 #[rv o, iv ix, u_, u_, u_] [] tg := by
    intro tg kt
    refine XS.iconst X0.here hx rfl (hb hby d_prog_25_m_4_0) ?_
    refine XS.istoreN X0.here hx rfl (hb hby d_prog_25_m_4_1) rfl (l' := #[rv o, iv ix, iv 0, u_, u_]) rfl ?_
    refine XS.aloadN X0.here hx rfl (hb hby d_prog_25_m_4_2) rfl rfl ?_
    refine st1 _ ?_
    refine st2.trans ?_
    show Sx p e below T2 m 11 #[rv o, iv ix, iv 0, u_, u_] [(.int 2)] _
    refine XS.istoreN X2.here hx rfl (hb hby d_prog_25_m_4_11) rfl (l' := #[rv o, iv ix, iv 0, iv 2, u_]) rfl ?_
    refine XS.iloadN X2.here hx rfl (hb hby d_prog_25_m_4_12) rfl ?_
    refine XS.iloadN X2.here hx rfl (hb hby d_prog_25_m_4_13) rfl ?_
    refine XS.icmpNo X2.here hx rfl (hb hby d_prog_25_m_4_14) rfl (tlt (by decide : (0 : Int32) < (2 : Int32))).2.1 ?_
    refine XS.iloadN X2.here hx rfl (hb hby d_prog_25_m_4_17) rfl ?_
    show Sx p e below T2 m 18 #[rv o, iv ix, iv 0, iv 2, u_] [(.int 0)] _
    refine XS.iloadN X2.here hx rfl (hb hby d_prog_25_m_4_18) rfl ?_
    refine XS.iadd X2.here hx rfl (hb hby d_prog_25_m_4_19) rfl ?_
    show Sx p e below T2 m 20 #[rv o, iv ix, iv 0, iv 2, u_] [(.int ((0 : Int32) + (2 : Int32)))] _
    exact kt
  have R4 : ∀ tg, Sx p e below T2 m 20 #[rv o, iv ix, iv 0, iv 2, u_] [(.int 2)] tg → Sx p e below T2 m 20 #[rv o, iv ix, iv 0, iv 2, u_] [(.int ((0 : Int32) + (2 : Int32)))] tg := fun tg kt => by rw [(by decide : ((0 : Int32) + (2 : Int32)) = (2 : Int32))]; exact kt
  have R5 : ∀ tg, Sx p e below T2 m 22 #[rv o, iv ix, iv 0, iv 2, u_] [(.int (((2 : Int32).toUInt32 >>> ((1 : Int32) &&& 31).toUInt32).toInt32))] tg → Sx p e below T2 m 20 #[rv o, iv ix, iv 0, iv 2, u_] [(.int 2)] tg := by
    intro tg kt
    refine XS.iconst X2.here hx rfl (hb hby d_prog_25_m_4_20) ?_
    refine XS.iushr X2.here hx rfl (hb hby d_prog_25_m_4_21) rfl ?_
    show Sx p e below T2 m 22 #[rv o, iv ix, iv 0, iv 2, u_] [(.int (((2 : Int32).toUInt32 >>> ((1 : Int32) &&& 31).toUInt32).toInt32))] _
    exact kt
  have R6 : ∀ tg, Sx p e below T2 m 22 #[rv o, iv ix, iv 0, iv 2, u_] [(.int 1)] tg → Sx p e below T2 m 22 #[rv o, iv ix, iv 0, iv 2, u_] [(.int (((2 : Int32).toUInt32 >>> ((1 : Int32) &&& 31).toUInt32).toInt32))] tg := fun tg kt => by rw [(by decide : (((2 : Int32).toUInt32 >>> ((1 : Int32) &&& 31).toUInt32).toInt32) = (1 : Int32))]; exact kt
  obtain ⟨T7, X7, e7, st7⟩ := getF X2 hx hZ hown (host := "") (Or.inl (w_ hw 88 rfl)) Via.refl r2 hFp (g := (mkF m 25 #[rv o, iv ix, iv 0, iv 2, iv 1] [(.ref o)])) rfl rfl (hb hby d_prog_25_m_4_25)
  obtain ⟨cq8, kq8, q8a, q8b, q8c⟩ := isOf hZ e7 hLe
  obtain ⟨_, _, ⟨T8, L8, k8, n8⟩, -, X8, ⟨Lc8, hQ8, l8, y8, z8⟩, st8⟩ := X7.interfaceBack hx (xi := (⟨"java/util/List", "get", "(I)Ljava/lang/Object;"⟩ : MethodName)) (y := (⟨"java/util/ImmutableCollections$List12", "get", "(I)Ljava/lang/Object;"⟩ : MethodName)) hown (mvT hZ (w_ hw 205 rfl)) (mvT hZ (w_ hw 206 rfl)) (mvT hZ (w_ hw 207 rfl)) (mvT hZ (w_ hw 243 rfl)) (mvT hZ (w_ hw 244 rfl)) (mvT hZ (w_ hw 245 rfl)) (mvT hZ (w_ hw 246 rfl)) (mvT hZ (w_ hw 240 rfl)) (by decide) (backOf (W := 0) (rm2b l Z a0 hw [] L pa0 pa1 em h0 n0 Z0 hL0 hL1 hSe hne) hZ (w_ hw 247 rfl) (w_ hw 222 rfl) (by decide) (by decide)) q8a q8b q8c (g := (mkF m 30 #[rv o, iv ix, iv 0, iv 2, iv 1] [(.int 1), (.ref L)])) rfl (by rw [hml]; rfl) (Steps.refl _) (argsL := [(.int 1)]) (rest := []) (lenOf pd_14 rfl) rfl (by show 2 * 0 + _ ≤ _; exact Nat.le_of_eq rfl) (hb hby d_prog_25_m_4_30) (fun _ _ => ⟨rfl, e7, (by decide : 0 + 0 ≤ _), (by decide : 0 + 0 ≤ _)⟩)
  dsimp only [Pt.U, Pt.locs, Pt.cells, Pt.slots] at X8 l8 y8 z8 st8 hQ8
  subst l8 y8 z8
  obtain ⟨hv8, N8q, r8⟩ := hQ8
  subst hv8
  have N8 := Fr.app N2 N8q
  obtain ⟨T9, X9, e9, st9⟩ := castY X8 hx hZ hown (w_ hw 213 rfl) r8 (Ins.self hx1) (g := (mkF m 35 #[rv o, iv ix, iv 0, iv 2, iv 1] [(.ref pa1)])) rfl rfl (hb hby d_prog_25_m_4_35)
  obtain ⟨cq10, kq10, q10a, q10b, q10c⟩ := isOf hZ e9 hx1
  obtain ⟨_, _, ⟨T10, L10, k10, n10⟩, -, X10, ⟨Lc10, hQ10, l10, y10, z10⟩, st10⟩ := X9.virtualBack hx (y := (⟨"com/example/clausemap/clausemap/outline/Part", "start", "()I"⟩ : MethodName)) (z := (⟨"com/example/clausemap/clausemap/outline/Part", "start", "()I"⟩ : MethodName)) hown (mvT hZ (w_ hw 215 rfl)) (mvT hZ (w_ hw 216 rfl)) (notFace_of_selects (args := #[]) (mvT hZ (w_ hw 218 rfl))) (mvT hZ (w_ hw 218 rfl)) (mvT hZ (w_ hw 217 rfl)) (by decide) (backOf (W := 0) (rmPs l Z a0 hw [] pa1 sv1 h0 n0 Z0 hs1) hZ (w_ hw 219 rfl) (w_ hw 4 rfl) (by decide) (by decide)) q10a q10c (g := (mkF m 38 #[rv o, iv ix, iv 0, iv 2, iv 1] [(.ref pa1)])) rfl (by rw [hml]; rfl) (Steps.refl _) (argsL := []) (rest := []) (lenOf pd_13 rfl) rfl (by show 2 * 0 + _ ≤ _; exact Nat.le_of_eq rfl) (hb hby d_prog_25_m_4_38) (fun _ _ => ⟨rfl, e9, (by decide : 0 + 0 ≤ _), (by decide : 0 + 0 ≤ _)⟩)
  dsimp only [Pt.U, Pt.locs, Pt.cells, Pt.slots] at X10 l10 y10 z10 st10 hQ10
  subst l10 y10 z10
  obtain ⟨hv10, N10q, r10⟩ := hQ10
  subst hv10
  have N10 := Fr.app N8 N10q
  have R11 : ∀ tg, Sx p e below T10 m 42 #[rv o, iv ix, iv 0, iv 2, iv 1] [(.int ix), (.int sv1)] tg → Sx p e below T2 m 22 #[rv o, iv ix, iv 0, iv 2, u_] [(.int 1)] tg := by
    intro tg kt
    refine XS.istore X2.here hx rfl (hb hby d_prog_25_m_4_22) rfl (l' := #[rv o, iv ix, iv 0, iv 2, iv 1]) rfl ?_
    refine XS.aloadN X2.here hx rfl (hb hby d_prog_25_m_4_24) rfl rfl ?_
    refine st7 _ ?_
    refine XS.iload X7.here hx rfl (hb hby d_prog_25_m_4_28) rfl ?_
    refine st8.trans ?_
    show Sx p e below T8 m 35 #[rv o, iv ix, iv 0, iv 2, iv 1] [(.ref pa1)] _
    refine st9 _ ?_
    refine st10.trans ?_
    refine XS.iloadN X10.here hx rfl (hb hby d_prog_25_m_4_41) rfl ?_
    show Sx p e below T10 m 42 #[rv o, iv ix, iv 0, iv 2, iv 1] [(.int ix), (.int sv1)] _
    exact kt
  by_cases hc42_12 : ix < sv1
  · have R13 : ∀ tg, Sx p e below T10 m 20 #[rv o, iv ix, iv 0, iv 1, iv 1] [(.int ((0 : Int32) + (1 : Int32)))] tg → Sx p e below T10 m 42 #[rv o, iv ix, iv 0, iv 2, iv 1] [(.int ix), (.int sv1)] tg := by
      intro tg kt
      refine XS.icmpYes X10.here hx rfl (pc0 := 42) (pc' := 53) rfl (hb hby d_prog_25_m_4_42) rfl (tlt hc42_12).2.2.1 (by decide) (by decide) ?_
      refine XS.iload X10.here hx rfl (hb hby d_prog_25_m_4_53) rfl ?_
      refine XS.istoreN X10.here hx rfl (hb hby d_prog_25_m_4_55) rfl (l' := #[rv o, iv ix, iv 0, iv 1, iv 1]) rfl ?_
      refine XS.goto X10.here hx rfl (pc0 := 56) (pc' := 12) rfl (hb hby d_prog_25_m_4_56) (by decide) (by decide) ?_
      refine XS.iloadN X10.here hx rfl (hb hby d_prog_25_m_4_12) rfl ?_
      show Sx p e below T10 m 13 #[rv o, iv ix, iv 0, iv 1, iv 1] [(.int 0)] _
      refine XS.iloadN X10.here hx rfl (hb hby d_prog_25_m_4_13) rfl ?_
      refine XS.icmpNo X10.here hx rfl (hb hby d_prog_25_m_4_14) rfl (tlt (by decide : (0 : Int32) < (1 : Int32))).2.1 ?_
      refine XS.iloadN X10.here hx rfl (hb hby d_prog_25_m_4_17) rfl ?_
      refine XS.iloadN X10.here hx rfl (hb hby d_prog_25_m_4_18) rfl ?_
      refine XS.iadd X10.here hx rfl (hb hby d_prog_25_m_4_19) rfl ?_
      show Sx p e below T10 m 20 #[rv o, iv ix, iv 0, iv 1, iv 1] [(.int ((0 : Int32) + (1 : Int32)))] _
      exact kt
    have R14 : ∀ tg, Sx p e below T10 m 20 #[rv o, iv ix, iv 0, iv 1, iv 1] [(.int 1)] tg → Sx p e below T10 m 20 #[rv o, iv ix, iv 0, iv 1, iv 1] [(.int ((0 : Int32) + (1 : Int32)))] tg := fun tg kt => by rw [(by decide : ((0 : Int32) + (1 : Int32)) = (1 : Int32))]; exact kt
    have R15 : ∀ tg, Sx p e below T10 m 22 #[rv o, iv ix, iv 0, iv 1, iv 1] [(.int (((1 : Int32).toUInt32 >>> ((1 : Int32) &&& 31).toUInt32).toInt32))] tg → Sx p e below T10 m 20 #[rv o, iv ix, iv 0, iv 1, iv 1] [(.int 1)] tg := by
      intro tg kt
      refine XS.iconst X10.here hx rfl (hb hby d_prog_25_m_4_20) ?_
      refine XS.iushr X10.here hx rfl (hb hby d_prog_25_m_4_21) rfl ?_
      show Sx p e below T10 m 22 #[rv o, iv ix, iv 0, iv 1, iv 1] [(.int (((1 : Int32).toUInt32 >>> ((1 : Int32) &&& 31).toUInt32).toInt32))] _
      exact kt
    have R16 : ∀ tg, Sx p e below T10 m 22 #[rv o, iv ix, iv 0, iv 1, iv 1] [(.int 0)] tg → Sx p e below T10 m 22 #[rv o, iv ix, iv 0, iv 1, iv 1] [(.int (((1 : Int32).toUInt32 >>> ((1 : Int32) &&& 31).toUInt32).toInt32))] tg := fun tg kt => by rw [(by decide : (((1 : Int32).toUInt32 >>> ((1 : Int32) &&& 31).toUInt32).toInt32) = (0 : Int32))]; exact kt
    obtain ⟨T17, X17, e17, st17⟩ := getF X10 hx hZ hown (host := "") (Or.inl (w_ hw 88 rfl)) Via.refl r10 hFp (g := (mkF m 25 #[rv o, iv ix, iv 0, iv 1, iv 0] [(.ref o)])) rfl rfl (hb hby d_prog_25_m_4_25)
    obtain ⟨cq18, kq18, q18a, q18b, q18c⟩ := isOf hZ e17 hLe
    obtain ⟨_, _, ⟨T18, L18, k18, n18⟩, -, X18, ⟨Lc18, hQ18, l18, y18, z18⟩, st18⟩ := X17.interfaceBack hx (xi := (⟨"java/util/List", "get", "(I)Ljava/lang/Object;"⟩ : MethodName)) (y := (⟨"java/util/ImmutableCollections$List12", "get", "(I)Ljava/lang/Object;"⟩ : MethodName)) hown (mvT hZ (w_ hw 205 rfl)) (mvT hZ (w_ hw 206 rfl)) (mvT hZ (w_ hw 207 rfl)) (mvT hZ (w_ hw 243 rfl)) (mvT hZ (w_ hw 244 rfl)) (mvT hZ (w_ hw 245 rfl)) (mvT hZ (w_ hw 246 rfl)) (mvT hZ (w_ hw 240 rfl)) (by decide) (backOf (W := 0) (rm2a l Z a0 hw [] L pa0 pa1 em h0 n0 Z0 hL0 hL1 hSe) hZ (w_ hw 247 rfl) (w_ hw 222 rfl) (by decide) (by decide)) q18a q18b q18c (g := (mkF m 30 #[rv o, iv ix, iv 0, iv 1, iv 0] [(.int 0), (.ref L)])) rfl (by rw [hml]; rfl) (Steps.refl _) (argsL := [(.int 0)]) (rest := []) (lenOf pd_14 rfl) rfl (by show 2 * 0 + _ ≤ _; exact Nat.le_of_eq rfl) (hb hby d_prog_25_m_4_30) (fun _ _ => ⟨rfl, e17, (by decide : 0 + 0 ≤ _), (by decide : 0 + 0 ≤ _)⟩)
    dsimp only [Pt.U, Pt.locs, Pt.cells, Pt.slots] at X18 l18 y18 z18 st18 hQ18
    subst l18 y18 z18
    obtain ⟨hv18, N18q, r18⟩ := hQ18
    subst hv18
    have N18 := Fr.app N10 N18q
    obtain ⟨T19, X19, e19, st19⟩ := castY X18 hx hZ hown (w_ hw 213 rfl) r18 (Ins.self hx0) (g := (mkF m 35 #[rv o, iv ix, iv 0, iv 1, iv 0] [(.ref pa0)])) rfl rfl (hb hby d_prog_25_m_4_35)
    obtain ⟨cq20, kq20, q20a, q20b, q20c⟩ := isOf hZ e19 hx0
    obtain ⟨_, _, ⟨T20, L20, k20, n20⟩, -, X20, ⟨Lc20, hQ20, l20, y20, z20⟩, st20⟩ := X19.virtualBack hx (y := (⟨"com/example/clausemap/clausemap/outline/Part", "start", "()I"⟩ : MethodName)) (z := (⟨"com/example/clausemap/clausemap/outline/Part", "start", "()I"⟩ : MethodName)) hown (mvT hZ (w_ hw 215 rfl)) (mvT hZ (w_ hw 216 rfl)) (notFace_of_selects (args := #[]) (mvT hZ (w_ hw 218 rfl))) (mvT hZ (w_ hw 218 rfl)) (mvT hZ (w_ hw 217 rfl)) (by decide) (backOf (W := 0) (rmPs l Z a0 hw [] pa0 sv0 h0 n0 Z0 hs0) hZ (w_ hw 219 rfl) (w_ hw 4 rfl) (by decide) (by decide)) q20a q20c (g := (mkF m 38 #[rv o, iv ix, iv 0, iv 1, iv 0] [(.ref pa0)])) rfl (by rw [hml]; rfl) (Steps.refl _) (argsL := []) (rest := []) (lenOf pd_13 rfl) rfl (by show 2 * 0 + _ ≤ _; exact Nat.le_of_eq rfl) (hb hby d_prog_25_m_4_38) (fun _ _ => ⟨rfl, e19, (by decide : 0 + 0 ≤ _), (by decide : 0 + 0 ≤ _)⟩)
    dsimp only [Pt.U, Pt.locs, Pt.cells, Pt.slots] at X20 l20 y20 z20 st20 hQ20
    subst l20 y20 z20
    obtain ⟨hv20, N20q, r20⟩ := hQ20
    subst hv20
    have N20 := Fr.app N18 N20q
    have R21 : ∀ tg, Sx p e below T20 m 42 #[rv o, iv ix, iv 0, iv 1, iv 0] [(.int ix), (.int sv0)] tg → Sx p e below T10 m 22 #[rv o, iv ix, iv 0, iv 1, iv 1] [(.int 0)] tg := by
      intro tg kt
      refine XS.istore X10.here hx rfl (hb hby d_prog_25_m_4_22) rfl (l' := #[rv o, iv ix, iv 0, iv 1, iv 0]) rfl ?_
      refine XS.aloadN X10.here hx rfl (hb hby d_prog_25_m_4_24) rfl rfl ?_
      refine st17 _ ?_
      refine XS.iload X17.here hx rfl (hb hby d_prog_25_m_4_28) rfl ?_
      refine st18.trans ?_
      show Sx p e below T18 m 35 #[rv o, iv ix, iv 0, iv 1, iv 0] [(.ref pa0)] _
      refine st19 _ ?_
      refine st20.trans ?_
      refine XS.iloadN X20.here hx rfl (hb hby d_prog_25_m_4_41) rfl ?_
      show Sx p e below T20 m 42 #[rv o, iv ix, iv 0, iv 1, iv 0] [(.int ix), (.int sv0)] _
      exact kt
    by_cases hc42_22 : ix < sv0
    · obtain ⟨fs, hr, hrun, hended, hW, hsame⟩ := X20.leave (v := some .null) (fun h => by rw [Bd.returns] at h; cases h)
      refine ⟨_, _, pre0 _ (R3 _ (R4 _ (R5 _ (R6 _ (R11 _ (R13 _ (R14 _ (R15 _ (R16 _ (R21 _ ?_)))))))))), hrun, hended, _, _, rfl, ?_, ⟨_, rfl⟩, hW, hsame.mono (by decide) (by decide)⟩
      · show Sx p e below T20 m 42 #[rv o, iv ix, iv 0, iv 1, iv 0] [(.int ix), (.int sv0)] _
        refine XS.icmpYes X20.here hx rfl (pc0 := 42) (pc' := 53) rfl (hb hby d_prog_25_m_4_42) rfl (tlt hc42_22).2.2.1 (by decide) (by decide) ?_
        refine XS.iload X20.here hx rfl (hb hby d_prog_25_m_4_53) rfl ?_
        refine XS.istoreN X20.here hx rfl (hb hby d_prog_25_m_4_55) rfl (l' := #[rv o, iv ix, iv 0, iv 0, iv 0]) rfl ?_
        refine XS.goto X20.here hx rfl (pc0 := 56) (pc' := 12) rfl (hb hby d_prog_25_m_4_56) (by decide) (by decide) ?_
        refine XS.iloadN X20.here hx rfl (hb hby d_prog_25_m_4_12) rfl ?_
        show Sx p e below T20 m 13 #[rv o, iv ix, iv 0, iv 0, iv 0] [(.int 0)] _
        refine XS.iloadN X20.here hx rfl (hb hby d_prog_25_m_4_13) rfl ?_
        refine XS.icmpYes X20.here hx rfl (pc0 := 14) (pc' := 59) rfl (hb hby d_prog_25_m_4_14) rfl (flt (by decide : ¬ ((0 : Int32) < (0 : Int32)))).2.1 (by decide) (by decide) ?_
        refine XS.iloadN X20.here hx rfl (hb hby d_prog_25_m_4_59) rfl ?_
        refine XS.ifNo X20.here hx rfl (hb hby d_prog_25_m_4_60) rfl ((if0 _ _).trans (teq (by decide : (0 : Int32) = (0 : Int32))).2) ?_
        refine XS.aconstNull X20.here hx rfl (hb hby d_prog_25_m_4_63) ?_
        show Sx p e below T20 m 64 #[rv o, iv ix, iv 0, iv 0, iv 0] [.null] _
        refine XS.goto X20.here hx rfl (pc0 := 64) (pc' := 82) rfl (hb hby d_prog_25_m_4_64) (by decide) (by decide) ?_
        show Sx p e below T20 m 82 #[rv o, iv ix, iv 0, iv 0, iv 0] [.null] _
        jvm_step X20.here [X20.here.top, hx, (hb hby d_prog_25_m_4_82), X20.method', Bd.returns, Value.isRef, FieldType.isReference]
        first | (intro acts; rw [hr _ acts rfl rfl rfl]) | rw [hr _ _ rfl rfl rfl]
        exact Steps.refl _
      · show QV (some (if ix < sv1 then (if ix < sv0 then .null else .ref pa0) else .ref pa1)) h0 n0 _ T20.heap _
        rw [r20]
        exact ⟨by rw [if_pos (Int32.lt_trans hc42_22 hlt0), if_pos hc42_22], N20, rfl⟩
    · have R23 : ∀ tg, Sx p e below T20 m 49 #[rv o, iv ix, iv 0, iv 1, iv 0] [(.int ((0 : Int32) + (1 : Int32)))] tg → Sx p e below T20 m 42 #[rv o, iv ix, iv 0, iv 1, iv 0] [(.int ix), (.int sv0)] tg := by
        intro tg kt
        refine XS.icmpNo X20.here hx rfl (hb hby d_prog_25_m_4_42) rfl (flt hc42_22).2.2.1 ?_
        refine XS.iload X20.here hx rfl (hb hby d_prog_25_m_4_45) rfl ?_
        refine XS.iconst X20.here hx rfl (hb hby d_prog_25_m_4_47) ?_
        refine XS.iadd X20.here hx rfl (hb hby d_prog_25_m_4_48) rfl ?_
        show Sx p e below T20 m 49 #[rv o, iv ix, iv 0, iv 1, iv 0] [(.int ((0 : Int32) + (1 : Int32)))] _
        exact kt
      have R24 : ∀ tg, Sx p e below T20 m 49 #[rv o, iv ix, iv 0, iv 1, iv 0] [(.int 1)] tg → Sx p e below T20 m 49 #[rv o, iv ix, iv 0, iv 1, iv 0] [(.int ((0 : Int32) + (1 : Int32)))] tg := fun tg kt => by rw [(by decide : ((0 : Int32) + (1 : Int32)) = (1 : Int32))]; exact kt
      obtain ⟨T25, X25, e25, st25⟩ := getF X20 hx hZ hown (host := "") (Or.inl (w_ hw 88 rfl)) Via.refl r20 hFp (g := (mkF m 68 #[rv o, iv ix, iv 1, iv 1, iv 0] [(.ref o)])) rfl rfl (hb hby d_prog_25_m_4_68)
      have R26 : ∀ tg, Sx p e below T25 m 74 #[rv o, iv ix, iv 1, iv 1, iv 0] [(.int ((1 : Int32) - (1 : Int32))), (.ref L)] tg → Sx p e below T20 m 49 #[rv o, iv ix, iv 0, iv 1, iv 0] [(.int 1)] tg := by
        intro tg kt
        refine XS.istoreN X20.here hx rfl (hb hby d_prog_25_m_4_49) rfl (l' := #[rv o, iv ix, iv 1, iv 1, iv 0]) rfl ?_
        refine XS.goto X20.here hx rfl (pc0 := 50) (pc' := 56) rfl (hb hby d_prog_25_m_4_50) (by decide) (by decide) ?_
        refine XS.goto X20.here hx rfl (pc0 := 56) (pc' := 12) rfl (hb hby d_prog_25_m_4_56) (by decide) (by decide) ?_
        refine XS.iloadN X20.here hx rfl (hb hby d_prog_25_m_4_12) rfl ?_
        refine XS.iloadN X20.here hx rfl (hb hby d_prog_25_m_4_13) rfl ?_
        show Sx p e below T20 m 14 #[rv o, iv ix, iv 1, iv 1, iv 0] [(.int 1), (.int 1)] _
        refine XS.icmpYes X20.here hx rfl (pc0 := 14) (pc' := 59) rfl (hb hby d_prog_25_m_4_14) rfl (flt (by decide : ¬ ((1 : Int32) < (1 : Int32)))).2.1 (by decide) (by decide) ?_
        refine XS.iloadN X20.here hx rfl (hb hby d_prog_25_m_4_59) rfl ?_
        refine XS.ifYes X20.here hx rfl (pc0 := 60) (pc' := 67) rfl (hb hby d_prog_25_m_4_60) rfl ((if0 _ _).trans (feq (by decide : ¬ ((1 : Int32) = (0 : Int32)))).2) (by decide) (by decide) ?_
        refine XS.aloadN X20.here hx rfl (hb hby d_prog_25_m_4_67) rfl rfl ?_
        refine st25 _ ?_
        show Sx p e below T25 m 71 #[rv o, iv ix, iv 1, iv 1, iv 0] [(.ref L)] _
        refine XS.iloadN X25.here hx rfl (hb hby d_prog_25_m_4_71) rfl ?_
        refine XS.iconst X25.here hx rfl (hb hby d_prog_25_m_4_72) ?_
        refine XS.isub X25.here hx rfl (hb hby d_prog_25_m_4_73) rfl ?_
        show Sx p e below T25 m 74 #[rv o, iv ix, iv 1, iv 1, iv 0] [(.int ((1 : Int32) - (1 : Int32))), (.ref L)] _
        exact kt
      have R27 : ∀ tg, Sx p e below T25 m 74 #[rv o, iv ix, iv 1, iv 1, iv 0] [(.int 0), (.ref L)] tg → Sx p e below T25 m 74 #[rv o, iv ix, iv 1, iv 1, iv 0] [(.int ((1 : Int32) - (1 : Int32))), (.ref L)] tg := fun tg kt => by rw [(by decide : ((1 : Int32) - (1 : Int32)) = (0 : Int32))]; exact kt
      obtain ⟨cq28, kq28, q28a, q28b, q28c⟩ := isOf hZ e25 hLe
      obtain ⟨_, _, ⟨T28, L28, k28, n28⟩, -, X28, ⟨Lc28, hQ28, l28, y28, z28⟩, st28⟩ := X25.interfaceBack hx (xi := (⟨"java/util/List", "get", "(I)Ljava/lang/Object;"⟩ : MethodName)) (y := (⟨"java/util/ImmutableCollections$List12", "get", "(I)Ljava/lang/Object;"⟩ : MethodName)) hown (mvT hZ (w_ hw 205 rfl)) (mvT hZ (w_ hw 206 rfl)) (mvT hZ (w_ hw 207 rfl)) (mvT hZ (w_ hw 243 rfl)) (mvT hZ (w_ hw 244 rfl)) (mvT hZ (w_ hw 245 rfl)) (mvT hZ (w_ hw 246 rfl)) (mvT hZ (w_ hw 240 rfl)) (by decide) (backOf (W := 0) (rm2a l Z a0 hw [] L pa0 pa1 em h0 n0 Z0 hL0 hL1 hSe) hZ (w_ hw 247 rfl) (w_ hw 222 rfl) (by decide) (by decide)) q28a q28b q28c (g := (mkF m 74 #[rv o, iv ix, iv 1, iv 1, iv 0] [(.int 0), (.ref L)])) rfl (by rw [hml]; rfl) (Steps.refl _) (argsL := [(.int 0)]) (rest := []) (lenOf pd_14 rfl) rfl (by show 2 * 0 + _ ≤ _; exact Nat.le_of_eq rfl) (hb hby d_prog_25_m_4_74) (fun _ _ => ⟨rfl, e25, (by decide : 0 + 0 ≤ _), (by decide : 0 + 0 ≤ _)⟩)
      dsimp only [Pt.U, Pt.locs, Pt.cells, Pt.slots] at X28 l28 y28 z28 st28 hQ28
      subst l28 y28 z28
      obtain ⟨hv28, N28q, r28⟩ := hQ28
      subst hv28
      have N28 := Fr.app N20 N28q
      obtain ⟨T29, X29, e29, st29⟩ := castY X28 hx hZ hown (w_ hw 213 rfl) r28 (Ins.self hx0) (g := (mkF m 79 #[rv o, iv ix, iv 1, iv 1, iv 0] [(.ref pa0)])) rfl rfl (hb hby d_prog_25_m_4_79)
      obtain ⟨fs, hr, hrun, hended, hW, hsame⟩ := X29.leave (v := some (.ref pa0)) (fun h => by rw [Bd.returns] at h; cases h)
      refine ⟨_, _, pre0 _ (R3 _ (R4 _ (R5 _ (R6 _ (R11 _ (R13 _ (R14 _ (R15 _ (R16 _ (R21 _ (R23 _ (R24 _ (R26 _ (R27 _ ?_)))))))))))))), hrun, hended, _, _, rfl, ?_, ⟨_, rfl⟩, hW, hsame.mono (by decide) (by decide)⟩
      · show Sx p e below T25 m 74 #[rv o, iv ix, iv 1, iv 1, iv 0] [(.int 0), (.ref L)] _
        refine st28.trans ?_
        refine st29 _ ?_
        show Sx p e below T29 m 82 #[rv o, iv ix, iv 1, iv 1, iv 0] [(.ref pa0)] _
        jvm_step X29.here [X29.here.top, hx, (hb hby d_prog_25_m_4_82), X29.method', Bd.returns, Value.isRef, FieldType.isReference]
        first | (intro acts; rw [hr _ acts rfl rfl rfl]) | rw [hr _ _ rfl rfl rfl]
        exact Steps.refl _
      · show QV (some (if ix < sv1 then (if ix < sv0 then .null else .ref pa0) else .ref pa1)) h0 n0 _ T29.heap _
        rw [e29]
        exact ⟨by rw [if_pos hc42_12, if_neg hc42_22], N28, rfl⟩
  · have R30 : ∀ tg, Sx p e below T10 m 49 #[rv o, iv ix, iv 0, iv 2, iv 1] [(.int ((1 : Int32) + (1 : Int32)))] tg → Sx p e below T10 m 42 #[rv o, iv ix, iv 0, iv 2, iv 1] [(.int ix), (.int sv1)] tg := by
      intro tg kt
      refine XS.icmpNo X10.here hx rfl (hb hby d_prog_25_m_4_42) rfl (flt hc42_12).2.2.1 ?_
      refine XS.iload X10.here hx rfl (hb hby d_prog_25_m_4_45) rfl ?_
      refine XS.iconst X10.here hx rfl (hb hby d_prog_25_m_4_47) ?_
      refine XS.iadd X10.here hx rfl (hb hby d_prog_25_m_4_48) rfl ?_
      show Sx p e below T10 m 49 #[rv o, iv ix, iv 0, iv 2, iv 1] [(.int ((1 : Int32) + (1 : Int32)))] _
      exact kt
    have R31 : ∀ tg, Sx p e below T10 m 49 #[rv o, iv ix, iv 0, iv 2, iv 1] [(.int 2)] tg → Sx p e below T10 m 49 #[rv o, iv ix, iv 0, iv 2, iv 1] [(.int ((1 : Int32) + (1 : Int32)))] tg := fun tg kt => by rw [(by decide : ((1 : Int32) + (1 : Int32)) = (2 : Int32))]; exact kt
    obtain ⟨T32, X32, e32, st32⟩ := getF X10 hx hZ hown (host := "") (Or.inl (w_ hw 88 rfl)) Via.refl r10 hFp (g := (mkF m 68 #[rv o, iv ix, iv 2, iv 2, iv 1] [(.ref o)])) rfl rfl (hb hby d_prog_25_m_4_68)
    have R33 : ∀ tg, Sx p e below T32 m 74 #[rv o, iv ix, iv 2, iv 2, iv 1] [(.int ((2 : Int32) - (1 : Int32))), (.ref L)] tg → Sx p e below T10 m 49 #[rv o, iv ix, iv 0, iv 2, iv 1] [(.int 2)] tg := by
      intro tg kt
      refine XS.istoreN X10.here hx rfl (hb hby d_prog_25_m_4_49) rfl (l' := #[rv o, iv ix, iv 2, iv 2, iv 1]) rfl ?_
      refine XS.goto X10.here hx rfl (pc0 := 50) (pc' := 56) rfl (hb hby d_prog_25_m_4_50) (by decide) (by decide) ?_
      refine XS.goto X10.here hx rfl (pc0 := 56) (pc' := 12) rfl (hb hby d_prog_25_m_4_56) (by decide) (by decide) ?_
      refine XS.iloadN X10.here hx rfl (hb hby d_prog_25_m_4_12) rfl ?_
      refine XS.iloadN X10.here hx rfl (hb hby d_prog_25_m_4_13) rfl ?_
      show Sx p e below T10 m 14 #[rv o, iv ix, iv 2, iv 2, iv 1] [(.int 2), (.int 2)] _
      refine XS.icmpYes X10.here hx rfl (pc0 := 14) (pc' := 59) rfl (hb hby d_prog_25_m_4_14) rfl (flt (by decide : ¬ ((2 : Int32) < (2 : Int32)))).2.1 (by decide) (by decide) ?_
      refine XS.iloadN X10.here hx rfl (hb hby d_prog_25_m_4_59) rfl ?_
      refine XS.ifYes X10.here hx rfl (pc0 := 60) (pc' := 67) rfl (hb hby d_prog_25_m_4_60) rfl ((if0 _ _).trans (feq (by decide : ¬ ((2 : Int32) = (0 : Int32)))).2) (by decide) (by decide) ?_
      refine XS.aloadN X10.here hx rfl (hb hby d_prog_25_m_4_67) rfl rfl ?_
      refine st32 _ ?_
      show Sx p e below T32 m 71 #[rv o, iv ix, iv 2, iv 2, iv 1] [(.ref L)] _
      refine XS.iloadN X32.here hx rfl (hb hby d_prog_25_m_4_71) rfl ?_
      refine XS.iconst X32.here hx rfl (hb hby d_prog_25_m_4_72) ?_
      refine XS.isub X32.here hx rfl (hb hby d_prog_25_m_4_73) rfl ?_
      show Sx p e below T32 m 74 #[rv o, iv ix, iv 2, iv 2, iv 1] [(.int ((2 : Int32) - (1 : Int32))), (.ref L)] _
      exact kt
    have R34 : ∀ tg, Sx p e below T32 m 74 #[rv o, iv ix, iv 2, iv 2, iv 1] [(.int 1), (.ref L)] tg → Sx p e below T32 m 74 #[rv o, iv ix, iv 2, iv 2, iv 1] [(.int ((2 : Int32) - (1 : Int32))), (.ref L)] tg := fun tg kt => by rw [(by decide : ((2 : Int32) - (1 : Int32)) = (1 : Int32))]; exact kt
    obtain ⟨cq35, kq35, q35a, q35b, q35c⟩ := isOf hZ e32 hLe
    obtain ⟨_, _, ⟨T35, L35, k35, n35⟩, -, X35, ⟨Lc35, hQ35, l35, y35, z35⟩, st35⟩ := X32.interfaceBack hx (xi := (⟨"java/util/List", "get", "(I)Ljava/lang/Object;"⟩ : MethodName)) (y := (⟨"java/util/ImmutableCollections$List12", "get", "(I)Ljava/lang/Object;"⟩ : MethodName)) hown (mvT hZ (w_ hw 205 rfl)) (mvT hZ (w_ hw 206 rfl)) (mvT hZ (w_ hw 207 rfl)) (mvT hZ (w_ hw 243 rfl)) (mvT hZ (w_ hw 244 rfl)) (mvT hZ (w_ hw 245 rfl)) (mvT hZ (w_ hw 246 rfl)) (mvT hZ (w_ hw 240 rfl)) (by decide) (backOf (W := 0) (rm2b l Z a0 hw [] L pa0 pa1 em h0 n0 Z0 hL0 hL1 hSe hne) hZ (w_ hw 247 rfl) (w_ hw 222 rfl) (by decide) (by decide)) q35a q35b q35c (g := (mkF m 74 #[rv o, iv ix, iv 2, iv 2, iv 1] [(.int 1), (.ref L)])) rfl (by rw [hml]; rfl) (Steps.refl _) (argsL := [(.int 1)]) (rest := []) (lenOf pd_14 rfl) rfl (by show 2 * 0 + _ ≤ _; exact Nat.le_of_eq rfl) (hb hby d_prog_25_m_4_74) (fun _ _ => ⟨rfl, e32, (by decide : 0 + 0 ≤ _), (by decide : 0 + 0 ≤ _)⟩)
    dsimp only [Pt.U, Pt.locs, Pt.cells, Pt.slots] at X35 l35 y35 z35 st35 hQ35
    subst l35 y35 z35
    obtain ⟨hv35, N35q, r35⟩ := hQ35
    subst hv35
    have N35 := Fr.app N10 N35q
    obtain ⟨T36, X36, e36, st36⟩ := castY X35 hx hZ hown (w_ hw 213 rfl) r35 (Ins.self hx1) (g := (mkF m 79 #[rv o, iv ix, iv 2, iv 2, iv 1] [(.ref pa1)])) rfl rfl (hb hby d_prog_25_m_4_79)
    obtain ⟨fs, hr, hrun, hended, hW, hsame⟩ := X36.leave (v := some (.ref pa1)) (fun h => by rw [Bd.returns] at h; cases h)
    refine ⟨_, _, pre0 _ (R3 _ (R4 _ (R5 _ (R6 _ (R11 _ (R30 _ (R31 _ (R33 _ (R34 _ ?_))))))))), hrun, hended, _, _, rfl, ?_, ⟨_, rfl⟩, hW, hsame.mono (by decide) (by decide)⟩
    · show Sx p e below T32 m 74 #[rv o, iv ix, iv 2, iv 2, iv 1] [(.int 1), (.ref L)] _
      refine st35.trans ?_
      refine st36 _ ?_
      show Sx p e below T36 m 82 #[rv o, iv ix, iv 2, iv 2, iv 1] [(.ref pa1)] _
      jvm_step X36.here [X36.here.top, hx, (hb hby d_prog_25_m_4_82), X36.method', Bd.returns, Value.isRef, FieldType.isReference]
      first | (intro acts; rw [hr _ acts rfl rfl rfl]) | rw [hr _ _ rfl rfl rfl]
      exact Steps.refl _
    · show QV (some (if ix < sv1 then (if ix < sv0 then .null else .ref pa0) else .ref pa1)) h0 n0 _ T36.heap _
      rw [e36]
      exact ⟨by rw [if_neg hc42_12], N35, rfl⟩
theorem ef_rmP3 (m : MethodId) (x0 : Addr) (x1 : Int32) : entryFrame m #[(.ref x0), (.int x1)] 5 = mkF m 0 #[rv x0, iv x1, u_, u_, u_] [] := by first | (simp [entryFrame, mkF, argsToLocals, Value.category]; done) | rfl
set_option maxRecDepth 65536 in
set_option maxHeartbeats 40000000 in
theorem rmP3 (l : Launch) (Z : State) (a0 : Array Value) (hw : ∀ d ∈ tables_1, d.before a0 Z = true) (ws : List Jvm.Cond) (o L pa0 pa1 pa2 em : Addr) (ix sv0 sv1 sv2 : Int32) (h0 : Heap) (n0 : Nat) (Z0 : n0 ≤ h0.size) (hFp : Fld Z h0 o "com/example/clausemap/clausemap/outline/Outline" "parts" "Ljava/util/List;" (.ref L)) (hLV : LVN Z h0 L 3 [.ref pa0, .ref pa1, .ref pa2]) (hx0 : Exa Z h0 pa0 "com/example/clausemap/clausemap/outline/Part") (hx1 : Exa Z h0 pa1 "com/example/clausemap/clausemap/outline/Part") (hx2 : Exa Z h0 pa2 "com/example/clausemap/clausemap/outline/Part") (hs0 : Fld Z h0 pa0 "com/example/clausemap/clausemap/outline/Part" "start" "I" (.int sv0)) (hs1 : Fld Z h0 pa1 "com/example/clausemap/clausemap/outline/Part" "start" "I" (.int sv1)) (hs2 : Fld Z h0 pa2 "com/example/clausemap/clausemap/outline/Part" "start" "I" (.int sv2)) (hlt0 : sv0 < sv1) (hlt1 : sv1 < sv2) :
    MetFree l (⟨"com/example/clausemap/clausemap/outline/Outline", "partAt", "(I)Lcom/example/clausemap/clausemap/outline/Part;"⟩ : MethodName) (head1 (Jvm.Cond.code (⟨"com/example/clausemap/clausemap/outline/Outline", "partAt", "(I)Lcom/example/clausemap/clausemap/outline/Part;"⟩ : MethodName) prog_25_method_4_code 5 (some (.object "com/example/clausemap/clausemap/outline/Part")) :: ws) ({ frames := 1, cells := 0, slots := 0, locals := 13 } : Room)) (fun aa_ UU_ => aa_ = #[(.ref o), (.int ix)] ∧ Z.Warmed39 UU_.vm ∧ UU_.heap = h0) (fun _ _ _ _ _ => True) (fun _ UU_ oo_ UE_ => ∃ vv_ LL_, oo_ = .returned vv_ ∧ QV (some (if ix < sv2 then (if ix < sv1 then (if ix < sv0 then .null else .ref pa0) else .ref pa1) else .ref pa2)) h0 n0 vv_ UE_.heap LL_ ∧ FrameEnd UU_ oo_ UE_ LL_ ({ frames := 1, cells := 0, slots := 0, locals := 13 } : Room).cells ({ frames := 1, cells := 0, slots := 0, locals := 13 } : Room).slots) := by
  refine MetFree.of_bodySF (plainFor_of_name pn_12) hisR ?_
  intro p e s m args below meth c s₁ Bd hml0 hP hK
  obtain ⟨rfl, hZ, hh⟩ := hP
  have hx := Bd.exec
  have hby := Bd.bytes
  have hml : c.maxLocals = 5 := hml0
  have hown : s.vm.findClass "com/example/clausemap/clausemap/outline/Outline" = some m.cls := findClass_of_methodNamed Bd.named
  have hnm := (name_of_methodNamed Bd.named Bd.method).1
  have X0 : Stand p l e ({ frames := 1, cells := 0, slots := 0, locals := 13 } : Room) s m #[(.ref o), (.int ix)] below meth c s₁ [] 0 0 := Stand.of_body Bd
  have e0 : s₁.heap = h0 := by rw [← hh, Bd.state]; rfl
  have N0 := Fr.nil n0
  have pre0 : ∀ tg, Steps p.tables e below (s₁.setTop (mkF m 0 #[rv o, iv ix, u_, u_, u_] [])) tg → Steps p.tables e below (s₁.setTop (entryFrame m #[(.ref o), (.int ix)] 5)) tg := fun tg kq_ => castTop (ef_rmP3 m o ix) kq_
  obtain ⟨ar, kk, hLe, hLf, hLv⟩ := hLV
  obtain ⟨T1, X1, e1, st1⟩ := getF X0 hx hZ hown (host := "") (Or.inl (w_ hw 88 rfl)) Via.refl e0 hFp (g := (mkF m 3 #[rv o, iv ix, iv 0, u_, u_] [(.ref o)])) rfl rfl (hb hby d_prog_25_m_4_3)
  obtain ⟨cq2, kq2, q2a, q2b, q2c⟩ := isOf hZ e1 hLe
  obtain ⟨_, _, ⟨T2, L2, k2, n2⟩, -, X2, ⟨Lc2, hQ2, l2, y2, z2⟩, st2⟩ := X1.interfaceBack hx (xi := (⟨"java/util/List", "size", "()I"⟩ : MethodName)) (y := (⟨"java/util/ImmutableCollections$ListN", "size", "()I"⟩ : MethodName)) hown (mvT hZ (w_ hw 103 rfl)) (mvT hZ (w_ hw 104 rfl)) (mvT hZ (w_ hw 105 rfl)) (mvT hZ (w_ hw 106 rfl)) (mvT hZ (w_ hw 107 rfl)) (mvT hZ (w_ hw 108 rfl)) (mvT hZ (w_ hw 109 rfl)) (mvT hZ (w_ hw 110 rfl)) (by decide) (backOf (W := 0) (rmNs l Z a0 hw [] L ar kk (3 : Int32) [.ref pa0, .ref pa1, .ref pa2] h0 n0 Z0 hLf hLv) hZ (w_ hw 112 rfl) (w_ hw 111 rfl) (by decide) (by decide)) q2a q2b q2c (g := (mkF m 6 #[rv o, iv ix, iv 0, u_, u_] [(.ref L)])) rfl (by rw [hml]; rfl) (Steps.refl _) (argsL := []) (rest := []) (lenOf pd_13 rfl) rfl (by show 2 * 0 + _ ≤ _; exact Nat.le_of_eq rfl) (hb hby d_prog_25_m_4_6) (fun _ _ => ⟨rfl, e1, (by decide : 0 + 0 ≤ _), (by decide : 0 + 0 ≤ _)⟩)
  dsimp only [Pt.U, Pt.locs, Pt.cells, Pt.slots] at X2 l2 y2 z2 st2 hQ2
  subst l2 y2 z2
  obtain ⟨hv2, N2q, r2⟩ := hQ2
  subst hv2
  have N2 := Fr.app N0 N2q
  have R3 : ∀ tg, Sx p e below T2 m 20 #[rv o, iv ix, iv 0, iv 3, u_] [(.int ((0 : Int32) + (3 : Int32)))] tg → Sx p e below s₁ m 0 #[rv o, iv ix, u_, u_, u_] [] tg := by
    intro tg kt
    refine XS.iconst X0.here hx rfl (hb hby d_prog_25_m_4_0) ?_
    refine XS.istoreN X0.here hx rfl (hb hby d_prog_25_m_4_1) rfl (l' := #[rv o, iv ix, iv 0, u_, u_]) rfl ?_
    refine XS.aloadN X0.here hx rfl (hb hby d_prog_25_m_4_2) rfl rfl ?_
    refine st1 _ ?_
    refine st2.trans ?_
    show Sx p e below T2 m 11 #[rv o, iv ix, iv 0, u_, u_] [(.int 3)] _
    refine XS.istoreN X2.here hx rfl (hb hby d_prog_25_m_4_11) rfl (l' := #[rv o, iv ix, iv 0, iv 3, u_]) rfl ?_
    refine XS.iloadN X2.here hx rfl (hb hby d_prog_25_m_4_12) rfl ?_
    refine XS.iloadN X2.here hx rfl (hb hby d_prog_25_m_4_13) rfl ?_
    refine XS.icmpNo X2.here hx rfl (hb hby d_prog_25_m_4_14) rfl (tlt (by decide : (0 : Int32) < (3 : Int32))).2.1 ?_
    refine XS.iloadN X2.here hx rfl (hb hby d_prog_25_m_4_17) rfl ?_
    show Sx p e below T2 m 18 #[rv o, iv ix, iv 0, iv 3, u_] [(.int 0)] _
    refine XS.iloadN X2.here hx rfl (hb hby d_prog_25_m_4_18) rfl ?_
    refine XS.iadd X2.here hx rfl (hb hby d_prog_25_m_4_19) rfl ?_
    show Sx p e below T2 m 20 #[rv o, iv ix, iv 0, iv 3, u_] [(.int ((0 : Int32) + (3 : Int32)))] _
    exact kt
  have R4 : ∀ tg, Sx p e below T2 m 20 #[rv o, iv ix, iv 0, iv 3, u_] [(.int 3)] tg → Sx p e below T2 m 20 #[rv o, iv ix, iv 0, iv 3, u_] [(.int ((0 : Int32) + (3 : Int32)))] tg := fun tg kt => by rw [(by decide : ((0 : Int32) + (3 : Int32)) = (3 : Int32))]; exact kt
  have R5 : ∀ tg, Sx p e below T2 m 22 #[rv o, iv ix, iv 0, iv 3, u_] [(.int (((3 : Int32).toUInt32 >>> ((1 : Int32) &&& 31).toUInt32).toInt32))] tg → Sx p e below T2 m 20 #[rv o, iv ix, iv 0, iv 3, u_] [(.int 3)] tg := by
    intro tg kt
    refine XS.iconst X2.here hx rfl (hb hby d_prog_25_m_4_20) ?_
    refine XS.iushr X2.here hx rfl (hb hby d_prog_25_m_4_21) rfl ?_
    show Sx p e below T2 m 22 #[rv o, iv ix, iv 0, iv 3, u_] [(.int (((3 : Int32).toUInt32 >>> ((1 : Int32) &&& 31).toUInt32).toInt32))] _
    exact kt
  have R6 : ∀ tg, Sx p e below T2 m 22 #[rv o, iv ix, iv 0, iv 3, u_] [(.int 1)] tg → Sx p e below T2 m 22 #[rv o, iv ix, iv 0, iv 3, u_] [(.int (((3 : Int32).toUInt32 >>> ((1 : Int32) &&& 31).toUInt32).toInt32))] tg := fun tg kt => by rw [(by decide : (((3 : Int32).toUInt32 >>> ((1 : Int32) &&& 31).toUInt32).toInt32) = (1 : Int32))]; exact kt
  obtain ⟨T7, X7, e7, st7⟩ := getF X2 hx hZ hown (host := "") (Or.inl (w_ hw 88 rfl)) Via.refl r2 hFp (g := (mkF m 25 #[rv o, iv ix, iv 0, iv 3, iv 1] [(.ref o)])) rfl rfl (hb hby d_prog_25_m_4_25)
  obtain ⟨cq8, kq8, q8a, q8b, q8c⟩ := isOf hZ e7 hLe
  obtain ⟨_, _, ⟨T8, L8, k8, n8⟩, -, X8, ⟨Lc8, hQ8, l8, y8, z8⟩, st8⟩ := X7.interfaceBack hx (xi := (⟨"java/util/List", "get", "(I)Ljava/lang/Object;"⟩ : MethodName)) (y := (⟨"java/util/ImmutableCollections$ListN", "get", "(I)Ljava/lang/Object;"⟩ : MethodName)) hown (mvT hZ (w_ hw 205 rfl)) (mvT hZ (w_ hw 206 rfl)) (mvT hZ (w_ hw 207 rfl)) (mvT hZ (w_ hw 208 rfl)) (mvT hZ (w_ hw 209 rfl)) (mvT hZ (w_ hw 210 rfl)) (mvT hZ (w_ hw 211 rfl)) (mvT hZ (w_ hw 110 rfl)) (by decide) (backOf (W := 0) (rmNg l Z a0 hw [] L ar pa1 kk (3 : Int32) (1 : Int32) [.ref pa0, .ref pa1, .ref pa2] h0 n0 Z0 hLf hLv ⟨by decide, by decide⟩ rfl) hZ (w_ hw 212 rfl) (w_ hw 111 rfl) (by decide) (by decide)) q8a q8b q8c (g := (mkF m 30 #[rv o, iv ix, iv 0, iv 3, iv 1] [(.int 1), (.ref L)])) rfl (by rw [hml]; rfl) (Steps.refl _) (argsL := [(.int 1)]) (rest := []) (lenOf pd_14 rfl) rfl (by show 2 * 0 + _ ≤ _; exact Nat.le_of_eq rfl) (hb hby d_prog_25_m_4_30) (fun _ _ => ⟨rfl, e7, (by decide : 0 + 0 ≤ _), (by decide : 0 + 0 ≤ _)⟩)
  dsimp only [Pt.U, Pt.locs, Pt.cells, Pt.slots] at X8 l8 y8 z8 st8 hQ8
  subst l8 y8 z8
  obtain ⟨hv8, N8q, r8⟩ := hQ8
  subst hv8
  have N8 := Fr.app N2 N8q
  obtain ⟨T9, X9, e9, st9⟩ := castY X8 hx hZ hown (w_ hw 213 rfl) r8 (Ins.self hx1) (g := (mkF m 35 #[rv o, iv ix, iv 0, iv 3, iv 1] [(.ref pa1)])) rfl rfl (hb hby d_prog_25_m_4_35)
  obtain ⟨cq10, kq10, q10a, q10b, q10c⟩ := isOf hZ e9 hx1
  obtain ⟨_, _, ⟨T10, L10, k10, n10⟩, -, X10, ⟨Lc10, hQ10, l10, y10, z10⟩, st10⟩ := X9.virtualBack hx (y := (⟨"com/example/clausemap/clausemap/outline/Part", "start", "()I"⟩ : MethodName)) (z := (⟨"com/example/clausemap/clausemap/outline/Part", "start", "()I"⟩ : MethodName)) hown (mvT hZ (w_ hw 215 rfl)) (mvT hZ (w_ hw 216 rfl)) (notFace_of_selects (args := #[]) (mvT hZ (w_ hw 218 rfl))) (mvT hZ (w_ hw 218 rfl)) (mvT hZ (w_ hw 217 rfl)) (by decide) (backOf (W := 0) (rmPs l Z a0 hw [] pa1 sv1 h0 n0 Z0 hs1) hZ (w_ hw 219 rfl) (w_ hw 4 rfl) (by decide) (by decide)) q10a q10c (g := (mkF m 38 #[rv o, iv ix, iv 0, iv 3, iv 1] [(.ref pa1)])) rfl (by rw [hml]; rfl) (Steps.refl _) (argsL := []) (rest := []) (lenOf pd_13 rfl) rfl (by show 2 * 0 + _ ≤ _; exact Nat.le_of_eq rfl) (hb hby d_prog_25_m_4_38) (fun _ _ => ⟨rfl, e9, (by decide : 0 + 0 ≤ _), (by decide : 0 + 0 ≤ _)⟩)
  dsimp only [Pt.U, Pt.locs, Pt.cells, Pt.slots] at X10 l10 y10 z10 st10 hQ10
  subst l10 y10 z10
  obtain ⟨hv10, N10q, r10⟩ := hQ10
  subst hv10
  have N10 := Fr.app N8 N10q
  have R11 : ∀ tg, Sx p e below T10 m 42 #[rv o, iv ix, iv 0, iv 3, iv 1] [(.int ix), (.int sv1)] tg → Sx p e below T2 m 22 #[rv o, iv ix, iv 0, iv 3, u_] [(.int 1)] tg := by
    intro tg kt
    refine XS.istore X2.here hx rfl (hb hby d_prog_25_m_4_22) rfl (l' := #[rv o, iv ix, iv 0, iv 3, iv 1]) rfl ?_
    refine XS.aloadN X2.here hx rfl (hb hby d_prog_25_m_4_24) rfl rfl ?_
    refine st7 _ ?_
    refine XS.iload X7.here hx rfl (hb hby d_prog_25_m_4_28) rfl ?_
    refine st8.trans ?_
    show Sx p e below T8 m 35 #[rv o, iv ix, iv 0, iv 3, iv 1] [(.ref pa1)] _
    refine st9 _ ?_
    refine st10.trans ?_
    refine XS.iloadN X10.here hx rfl (hb hby d_prog_25_m_4_41) rfl ?_
    show Sx p e below T10 m 42 #[rv o, iv ix, iv 0, iv 3, iv 1] [(.int ix), (.int sv1)] _
    exact kt
  by_cases hc42_12 : ix < sv1
  · have R13 : ∀ tg, Sx p e below T10 m 20 #[rv o, iv ix, iv 0, iv 1, iv 1] [(.int ((0 : Int32) + (1 : Int32)))] tg → Sx p e below T10 m 42 #[rv o, iv ix, iv 0, iv 3, iv 1] [(.int ix), (.int sv1)] tg := by
      intro tg kt
      refine XS.icmpYes X10.here hx rfl (pc0 := 42) (pc' := 53) rfl (hb hby d_prog_25_m_4_42) rfl (tlt hc42_12).2.2.1 (by decide) (by decide) ?_
      refine XS.iload X10.here hx rfl (hb hby d_prog_25_m_4_53) rfl ?_
      refine XS.istoreN X10.here hx rfl (hb hby d_prog_25_m_4_55) rfl (l' := #[rv o, iv ix, iv 0, iv 1, iv 1]) rfl ?_
      refine XS.goto X10.here hx rfl (pc0 := 56) (pc' := 12) rfl (hb hby d_prog_25_m_4_56) (by decide) (by decide) ?_
      refine XS.iloadN X10.here hx rfl (hb hby d_prog_25_m_4_12) rfl ?_
      show Sx p e below T10 m 13 #[rv o, iv ix, iv 0, iv 1, iv 1] [(.int 0)] _
      refine XS.iloadN X10.here hx rfl (hb hby d_prog_25_m_4_13) rfl ?_
      refine XS.icmpNo X10.here hx rfl (hb hby d_prog_25_m_4_14) rfl (tlt (by decide : (0 : Int32) < (1 : Int32))).2.1 ?_
      refine XS.iloadN X10.here hx rfl (hb hby d_prog_25_m_4_17) rfl ?_
      refine XS.iloadN X10.here hx rfl (hb hby d_prog_25_m_4_18) rfl ?_
      refine XS.iadd X10.here hx rfl (hb hby d_prog_25_m_4_19) rfl ?_
      show Sx p e below T10 m 20 #[rv o, iv ix, iv 0, iv 1, iv 1] [(.int ((0 : Int32) + (1 : Int32)))] _
      exact kt
    have R14 : ∀ tg, Sx p e below T10 m 20 #[rv o, iv ix, iv 0, iv 1, iv 1] [(.int 1)] tg → Sx p e below T10 m 20 #[rv o, iv ix, iv 0, iv 1, iv 1] [(.int ((0 : Int32) + (1 : Int32)))] tg := fun tg kt => by rw [(by decide : ((0 : Int32) + (1 : Int32)) = (1 : Int32))]; exact kt
    have R15 : ∀ tg, Sx p e below T10 m 22 #[rv o, iv ix, iv 0, iv 1, iv 1] [(.int (((1 : Int32).toUInt32 >>> ((1 : Int32) &&& 31).toUInt32).toInt32))] tg → Sx p e below T10 m 20 #[rv o, iv ix, iv 0, iv 1, iv 1] [(.int 1)] tg := by
      intro tg kt
      refine XS.iconst X10.here hx rfl (hb hby d_prog_25_m_4_20) ?_
      refine XS.iushr X10.here hx rfl (hb hby d_prog_25_m_4_21) rfl ?_
      show Sx p e below T10 m 22 #[rv o, iv ix, iv 0, iv 1, iv 1] [(.int (((1 : Int32).toUInt32 >>> ((1 : Int32) &&& 31).toUInt32).toInt32))] _
      exact kt
    have R16 : ∀ tg, Sx p e below T10 m 22 #[rv o, iv ix, iv 0, iv 1, iv 1] [(.int 0)] tg → Sx p e below T10 m 22 #[rv o, iv ix, iv 0, iv 1, iv 1] [(.int (((1 : Int32).toUInt32 >>> ((1 : Int32) &&& 31).toUInt32).toInt32))] tg := fun tg kt => by rw [(by decide : (((1 : Int32).toUInt32 >>> ((1 : Int32) &&& 31).toUInt32).toInt32) = (0 : Int32))]; exact kt
    obtain ⟨T17, X17, e17, st17⟩ := getF X10 hx hZ hown (host := "") (Or.inl (w_ hw 88 rfl)) Via.refl r10 hFp (g := (mkF m 25 #[rv o, iv ix, iv 0, iv 1, iv 0] [(.ref o)])) rfl rfl (hb hby d_prog_25_m_4_25)
    obtain ⟨cq18, kq18, q18a, q18b, q18c⟩ := isOf hZ e17 hLe
    obtain ⟨_, _, ⟨T18, L18, k18, n18⟩, -, X18, ⟨Lc18, hQ18, l18, y18, z18⟩, st18⟩ := X17.interfaceBack hx (xi := (⟨"java/util/List", "get", "(I)Ljava/lang/Object;"⟩ : MethodName)) (y := (⟨"java/util/ImmutableCollections$ListN", "get", "(I)Ljava/lang/Object;"⟩ : MethodName)) hown (mvT hZ (w_ hw 205 rfl)) (mvT hZ (w_ hw 206 rfl)) (mvT hZ (w_ hw 207 rfl)) (mvT hZ (w_ hw 208 rfl)) (mvT hZ (w_ hw 209 rfl)) (mvT hZ (w_ hw 210 rfl)) (mvT hZ (w_ hw 211 rfl)) (mvT hZ (w_ hw 110 rfl)) (by decide) (backOf (W := 0) (rmNg l Z a0 hw [] L ar pa0 kk (3 : Int32) (0 : Int32) [.ref pa0, .ref pa1, .ref pa2] h0 n0 Z0 hLf hLv ⟨by decide, by decide⟩ rfl) hZ (w_ hw 212 rfl) (w_ hw 111 rfl) (by decide) (by decide)) q18a q18b q18c (g := (mkF m 30 #[rv o, iv ix, iv 0, iv 1, iv 0] [(.int 0), (.ref L)])) rfl (by rw [hml]; rfl) (Steps.refl _) (argsL := [(.int 0)]) (rest := []) (lenOf pd_14 rfl) rfl (by show 2 * 0 + _ ≤ _; exact Nat.le_of_eq rfl) (hb hby d_prog_25_m_4_30) (fun _ _ => ⟨rfl, e17, (by decide : 0 + 0 ≤ _), (by decide : 0 + 0 ≤ _)⟩)
    dsimp only [Pt.U, Pt.locs, Pt.cells, Pt.slots] at X18 l18 y18 z18 st18 hQ18
    subst l18 y18 z18
    obtain ⟨hv18, N18q, r18⟩ := hQ18
    subst hv18
    have N18 := Fr.app N10 N18q
    obtain ⟨T19, X19, e19, st19⟩ := castY X18 hx hZ hown (w_ hw 213 rfl) r18 (Ins.self hx0) (g := (mkF m 35 #[rv o, iv ix, iv 0, iv 1, iv 0] [(.ref pa0)])) rfl rfl (hb hby d_prog_25_m_4_35)
    obtain ⟨cq20, kq20, q20a, q20b, q20c⟩ := isOf hZ e19 hx0
    obtain ⟨_, _, ⟨T20, L20, k20, n20⟩, -, X20, ⟨Lc20, hQ20, l20, y20, z20⟩, st20⟩ := X19.virtualBack hx (y := (⟨"com/example/clausemap/clausemap/outline/Part", "start", "()I"⟩ : MethodName)) (z := (⟨"com/example/clausemap/clausemap/outline/Part", "start", "()I"⟩ : MethodName)) hown (mvT hZ (w_ hw 215 rfl)) (mvT hZ (w_ hw 216 rfl)) (notFace_of_selects (args := #[]) (mvT hZ (w_ hw 218 rfl))) (mvT hZ (w_ hw 218 rfl)) (mvT hZ (w_ hw 217 rfl)) (by decide) (backOf (W := 0) (rmPs l Z a0 hw [] pa0 sv0 h0 n0 Z0 hs0) hZ (w_ hw 219 rfl) (w_ hw 4 rfl) (by decide) (by decide)) q20a q20c (g := (mkF m 38 #[rv o, iv ix, iv 0, iv 1, iv 0] [(.ref pa0)])) rfl (by rw [hml]; rfl) (Steps.refl _) (argsL := []) (rest := []) (lenOf pd_13 rfl) rfl (by show 2 * 0 + _ ≤ _; exact Nat.le_of_eq rfl) (hb hby d_prog_25_m_4_38) (fun _ _ => ⟨rfl, e19, (by decide : 0 + 0 ≤ _), (by decide : 0 + 0 ≤ _)⟩)
    dsimp only [Pt.U, Pt.locs, Pt.cells, Pt.slots] at X20 l20 y20 z20 st20 hQ20
    subst l20 y20 z20
    obtain ⟨hv20, N20q, r20⟩ := hQ20
    subst hv20
    have N20 := Fr.app N18 N20q
    have R21 : ∀ tg, Sx p e below T20 m 42 #[rv o, iv ix, iv 0, iv 1, iv 0] [(.int ix), (.int sv0)] tg → Sx p e below T10 m 22 #[rv o, iv ix, iv 0, iv 1, iv 1] [(.int 0)] tg := by
      intro tg kt
      refine XS.istore X10.here hx rfl (hb hby d_prog_25_m_4_22) rfl (l' := #[rv o, iv ix, iv 0, iv 1, iv 0]) rfl ?_
      refine XS.aloadN X10.here hx rfl (hb hby d_prog_25_m_4_24) rfl rfl ?_
      refine st17 _ ?_
      refine XS.iload X17.here hx rfl (hb hby d_prog_25_m_4_28) rfl ?_
      refine st18.trans ?_
      show Sx p e below T18 m 35 #[rv o, iv ix, iv 0, iv 1, iv 0] [(.ref pa0)] _
      refine st19 _ ?_
      refine st20.trans ?_
      refine XS.iloadN X20.here hx rfl (hb hby d_prog_25_m_4_41) rfl ?_
      show Sx p e below T20 m 42 #[rv o, iv ix, iv 0, iv 1, iv 0] [(.int ix), (.int sv0)] _
      exact kt
    by_cases hc42_22 : ix < sv0
    · obtain ⟨fs, hr, hrun, hended, hW, hsame⟩ := X20.leave (v := some .null) (fun h => by rw [Bd.returns] at h; cases h)
      refine ⟨_, _, pre0 _ (R3 _ (R4 _ (R5 _ (R6 _ (R11 _ (R13 _ (R14 _ (R15 _ (R16 _ (R21 _ ?_)))))))))), hrun, hended, _, _, rfl, ?_, ⟨_, rfl⟩, hW, hsame.mono (by decide) (by decide)⟩
      · show Sx p e below T20 m 42 #[rv o, iv ix, iv 0, iv 1, iv 0] [(.int ix), (.int sv0)] _
        refine XS.icmpYes X20.here hx rfl (pc0 := 42) (pc' := 53) rfl (hb hby d_prog_25_m_4_42) rfl (tlt hc42_22).2.2.1 (by decide) (by decide) ?_
        refine XS.iload X20.here hx rfl (hb hby d_prog_25_m_4_53) rfl ?_
        refine XS.istoreN X20.here hx rfl (hb hby d_prog_25_m_4_55) rfl (l' := #[rv o, iv ix, iv 0, iv 0, iv 0]) rfl ?_
        refine XS.goto X20.here hx rfl (pc0 := 56) (pc' := 12) rfl (hb hby d_prog_25_m_4_56) (by decide) (by decide) ?_
        refine XS.iloadN X20.here hx rfl (hb hby d_prog_25_m_4_12) rfl ?_
        show Sx p e below T20 m 13 #[rv o, iv ix, iv 0, iv 0, iv 0] [(.int 0)] _
        refine XS.iloadN X20.here hx rfl (hb hby d_prog_25_m_4_13) rfl ?_
        refine XS.icmpYes X20.here hx rfl (pc0 := 14) (pc' := 59) rfl (hb hby d_prog_25_m_4_14) rfl (flt (by decide : ¬ ((0 : Int32) < (0 : Int32)))).2.1 (by decide) (by decide) ?_
        refine XS.iloadN X20.here hx rfl (hb hby d_prog_25_m_4_59) rfl ?_
        refine XS.ifNo X20.here hx rfl (hb hby d_prog_25_m_4_60) rfl ((if0 _ _).trans (teq (by decide : (0 : Int32) = (0 : Int32))).2) ?_
        refine XS.aconstNull X20.here hx rfl (hb hby d_prog_25_m_4_63) ?_
        show Sx p e below T20 m 64 #[rv o, iv ix, iv 0, iv 0, iv 0] [.null] _
        refine XS.goto X20.here hx rfl (pc0 := 64) (pc' := 82) rfl (hb hby d_prog_25_m_4_64) (by decide) (by decide) ?_
        show Sx p e below T20 m 82 #[rv o, iv ix, iv 0, iv 0, iv 0] [.null] _
        jvm_step X20.here [X20.here.top, hx, (hb hby d_prog_25_m_4_82), X20.method', Bd.returns, Value.isRef, FieldType.isReference]
        first | (intro acts; rw [hr _ acts rfl rfl rfl]) | rw [hr _ _ rfl rfl rfl]
        exact Steps.refl _
      · show QV (some (if ix < sv2 then (if ix < sv1 then (if ix < sv0 then .null else .ref pa0) else .ref pa1) else .ref pa2)) h0 n0 _ T20.heap _
        rw [r20]
        exact ⟨by rw [if_pos (Int32.lt_trans (Int32.lt_trans hc42_22 hlt0) hlt1), if_pos (Int32.lt_trans hc42_22 hlt0), if_pos hc42_22], N20, rfl⟩
    · have R23 : ∀ tg, Sx p e below T20 m 49 #[rv o, iv ix, iv 0, iv 1, iv 0] [(.int ((0 : Int32) + (1 : Int32)))] tg → Sx p e below T20 m 42 #[rv o, iv ix, iv 0, iv 1, iv 0] [(.int ix), (.int sv0)] tg := by
        intro tg kt
        refine XS.icmpNo X20.here hx rfl (hb hby d_prog_25_m_4_42) rfl (flt hc42_22).2.2.1 ?_
        refine XS.iload X20.here hx rfl (hb hby d_prog_25_m_4_45) rfl ?_
        refine XS.iconst X20.here hx rfl (hb hby d_prog_25_m_4_47) ?_
        refine XS.iadd X20.here hx rfl (hb hby d_prog_25_m_4_48) rfl ?_
        show Sx p e below T20 m 49 #[rv o, iv ix, iv 0, iv 1, iv 0] [(.int ((0 : Int32) + (1 : Int32)))] _
        exact kt
      have R24 : ∀ tg, Sx p e below T20 m 49 #[rv o, iv ix, iv 0, iv 1, iv 0] [(.int 1)] tg → Sx p e below T20 m 49 #[rv o, iv ix, iv 0, iv 1, iv 0] [(.int ((0 : Int32) + (1 : Int32)))] tg := fun tg kt => by rw [(by decide : ((0 : Int32) + (1 : Int32)) = (1 : Int32))]; exact kt
      obtain ⟨T25, X25, e25, st25⟩ := getF X20 hx hZ hown (host := "") (Or.inl (w_ hw 88 rfl)) Via.refl r20 hFp (g := (mkF m 68 #[rv o, iv ix, iv 1, iv 1, iv 0] [(.ref o)])) rfl rfl (hb hby d_prog_25_m_4_68)
      have R26 : ∀ tg, Sx p e below T25 m 74 #[rv o, iv ix, iv 1, iv 1, iv 0] [(.int ((1 : Int32) - (1 : Int32))), (.ref L)] tg → Sx p e below T20 m 49 #[rv o, iv ix, iv 0, iv 1, iv 0] [(.int 1)] tg := by
        intro tg kt
        refine XS.istoreN X20.here hx rfl (hb hby d_prog_25_m_4_49) rfl (l' := #[rv o, iv ix, iv 1, iv 1, iv 0]) rfl ?_
        refine XS.goto X20.here hx rfl (pc0 := 50) (pc' := 56) rfl (hb hby d_prog_25_m_4_50) (by decide) (by decide) ?_
        refine XS.goto X20.here hx rfl (pc0 := 56) (pc' := 12) rfl (hb hby d_prog_25_m_4_56) (by decide) (by decide) ?_
        refine XS.iloadN X20.here hx rfl (hb hby d_prog_25_m_4_12) rfl ?_
        refine XS.iloadN X20.here hx rfl (hb hby d_prog_25_m_4_13) rfl ?_
        show Sx p e below T20 m 14 #[rv o, iv ix, iv 1, iv 1, iv 0] [(.int 1), (.int 1)] _
        refine XS.icmpYes X20.here hx rfl (pc0 := 14) (pc' := 59) rfl (hb hby d_prog_25_m_4_14) rfl (flt (by decide : ¬ ((1 : Int32) < (1 : Int32)))).2.1 (by decide) (by decide) ?_
        refine XS.iloadN X20.here hx rfl (hb hby d_prog_25_m_4_59) rfl ?_
        refine XS.ifYes X20.here hx rfl (pc0 := 60) (pc' := 67) rfl (hb hby d_prog_25_m_4_60) rfl ((if0 _ _).trans (feq (by decide : ¬ ((1 : Int32) = (0 : Int32)))).2) (by decide) (by decide) ?_
        refine XS.aloadN X20.here hx rfl (hb hby d_prog_25_m_4_67) rfl rfl ?_
        refine st25 _ ?_
        show Sx p e below T25 m 71 #[rv o, iv ix, iv 1, iv 1, iv 0] [(.ref L)] _
        refine XS.iloadN X25.here hx rfl (hb hby d_prog_25_m_4_71) rfl ?_
        refine XS.iconst X25.here hx rfl (hb hby d_prog_25_m_4_72) ?_
        refine XS.isub X25.here hx rfl (hb hby d_prog_25_m_4_73) rfl ?_
        show Sx p e below T25 m 74 #[rv o, iv ix, iv 1, iv 1, iv 0] [(.int ((1 : Int32) - (1 : Int32))), (.ref L)] _
        exact kt
      have R27 : ∀ tg, Sx p e below T25 m 74 #[rv o, iv ix, iv 1, iv 1, iv 0] [(.int 0), (.ref L)] tg → Sx p e below T25 m 74 #[rv o, iv ix, iv 1, iv 1, iv 0] [(.int ((1 : Int32) - (1 : Int32))), (.ref L)] tg := fun tg kt => by rw [(by decide : ((1 : Int32) - (1 : Int32)) = (0 : Int32))]; exact kt
      obtain ⟨cq28, kq28, q28a, q28b, q28c⟩ := isOf hZ e25 hLe
      obtain ⟨_, _, ⟨T28, L28, k28, n28⟩, -, X28, ⟨Lc28, hQ28, l28, y28, z28⟩, st28⟩ := X25.interfaceBack hx (xi := (⟨"java/util/List", "get", "(I)Ljava/lang/Object;"⟩ : MethodName)) (y := (⟨"java/util/ImmutableCollections$ListN", "get", "(I)Ljava/lang/Object;"⟩ : MethodName)) hown (mvT hZ (w_ hw 205 rfl)) (mvT hZ (w_ hw 206 rfl)) (mvT hZ (w_ hw 207 rfl)) (mvT hZ (w_ hw 208 rfl)) (mvT hZ (w_ hw 209 rfl)) (mvT hZ (w_ hw 210 rfl)) (mvT hZ (w_ hw 211 rfl)) (mvT hZ (w_ hw 110 rfl)) (by decide) (backOf (W := 0) (rmNg l Z a0 hw [] L ar pa0 kk (3 : Int32) (0 : Int32) [.ref pa0, .ref pa1, .ref pa2] h0 n0 Z0 hLf hLv ⟨by decide, by decide⟩ rfl) hZ (w_ hw 212 rfl) (w_ hw 111 rfl) (by decide) (by decide)) q28a q28b q28c (g := (mkF m 74 #[rv o, iv ix, iv 1, iv 1, iv 0] [(.int 0), (.ref L)])) rfl (by rw [hml]; rfl) (Steps.refl _) (argsL := [(.int 0)]) (rest := []) (lenOf pd_14 rfl) rfl (by show 2 * 0 + _ ≤ _; exact Nat.le_of_eq rfl) (hb hby d_prog_25_m_4_74) (fun _ _ => ⟨rfl, e25, (by decide : 0 + 0 ≤ _), (by decide : 0 + 0 ≤ _)⟩)
      dsimp only [Pt.U, Pt.locs, Pt.cells, Pt.slots] at X28 l28 y28 z28 st28 hQ28
      subst l28 y28 z28
      obtain ⟨hv28, N28q, r28⟩ := hQ28
      subst hv28
      have N28 := Fr.app N20 N28q
      obtain ⟨T29, X29, e29, st29⟩ := castY X28 hx hZ hown (w_ hw 213 rfl) r28 (Ins.self hx0) (g := (mkF m 79 #[rv o, iv ix, iv 1, iv 1, iv 0] [(.ref pa0)])) rfl rfl (hb hby d_prog_25_m_4_79)
      obtain ⟨fs, hr, hrun, hended, hW, hsame⟩ := X29.leave (v := some (.ref pa0)) (fun h => by rw [Bd.returns] at h; cases h)
      refine ⟨_, _, pre0 _ (R3 _ (R4 _ (R5 _ (R6 _ (R11 _ (R13 _ (R14 _ (R15 _ (R16 _ (R21 _ (R23 _ (R24 _ (R26 _ (R27 _ ?_)))))))))))))), hrun, hended, _, _, rfl, ?_, ⟨_, rfl⟩, hW, hsame.mono (by decide) (by decide)⟩
      · show Sx p e below T25 m 74 #[rv o, iv ix, iv 1, iv 1, iv 0] [(.int 0), (.ref L)] _
        refine st28.trans ?_
        refine st29 _ ?_
        show Sx p e below T29 m 82 #[rv o, iv ix, iv 1, iv 1, iv 0] [(.ref pa0)] _
        jvm_step X29.here [X29.here.top, hx, (hb hby d_prog_25_m_4_82), X29.method', Bd.returns, Value.isRef, FieldType.isReference]
        first | (intro acts; rw [hr _ acts rfl rfl rfl]) | rw [hr _ _ rfl rfl rfl]
        exact Steps.refl _
      · show QV (some (if ix < sv2 then (if ix < sv1 then (if ix < sv0 then .null else .ref pa0) else .ref pa1) else .ref pa2)) h0 n0 _ T29.heap _
        rw [e29]
        exact ⟨by rw [if_pos (Int32.lt_trans hc42_12 hlt1), if_pos hc42_12, if_neg hc42_22], N28, rfl⟩
  · have R30 : ∀ tg, Sx p e below T10 m 49 #[rv o, iv ix, iv 0, iv 3, iv 1] [(.int ((1 : Int32) + (1 : Int32)))] tg → Sx p e below T10 m 42 #[rv o, iv ix, iv 0, iv 3, iv 1] [(.int ix), (.int sv1)] tg := by
      intro tg kt
      refine XS.icmpNo X10.here hx rfl (hb hby d_prog_25_m_4_42) rfl (flt hc42_12).2.2.1 ?_
      refine XS.iload X10.here hx rfl (hb hby d_prog_25_m_4_45) rfl ?_
      refine XS.iconst X10.here hx rfl (hb hby d_prog_25_m_4_47) ?_
      refine XS.iadd X10.here hx rfl (hb hby d_prog_25_m_4_48) rfl ?_
      show Sx p e below T10 m 49 #[rv o, iv ix, iv 0, iv 3, iv 1] [(.int ((1 : Int32) + (1 : Int32)))] _
      exact kt
    have R31 : ∀ tg, Sx p e below T10 m 49 #[rv o, iv ix, iv 0, iv 3, iv 1] [(.int 2)] tg → Sx p e below T10 m 49 #[rv o, iv ix, iv 0, iv 3, iv 1] [(.int ((1 : Int32) + (1 : Int32)))] tg := fun tg kt => by rw [(by decide : ((1 : Int32) + (1 : Int32)) = (2 : Int32))]; exact kt
    have R32 : ∀ tg, Sx p e below T10 m 20 #[rv o, iv ix, iv 2, iv 3, iv 1] [(.int ((2 : Int32) + (3 : Int32)))] tg → Sx p e below T10 m 49 #[rv o, iv ix, iv 0, iv 3, iv 1] [(.int 2)] tg := by
      intro tg kt
      refine XS.istoreN X10.here hx rfl (hb hby d_prog_25_m_4_49) rfl (l' := #[rv o, iv ix, iv 2, iv 3, iv 1]) rfl ?_
      refine XS.goto X10.here hx rfl (pc0 := 50) (pc' := 56) rfl (hb hby d_prog_25_m_4_50) (by decide) (by decide) ?_
      refine XS.goto X10.here hx rfl (pc0 := 56) (pc' := 12) rfl (hb hby d_prog_25_m_4_56) (by decide) (by decide) ?_
      refine XS.iloadN X10.here hx rfl (hb hby d_prog_25_m_4_12) rfl ?_
      refine XS.iloadN X10.here hx rfl (hb hby d_prog_25_m_4_13) rfl ?_
      show Sx p e below T10 m 14 #[rv o, iv ix, iv 2, iv 3, iv 1] [(.int 3), (.int 2)] _
      refine XS.icmpNo X10.here hx rfl (hb hby d_prog_25_m_4_14) rfl (tlt (by decide : (2 : Int32) < (3 : Int32))).2.1 ?_
      refine XS.iloadN X10.here hx rfl (hb hby d_prog_25_m_4_17) rfl ?_
      refine XS.iloadN X10.here hx rfl (hb hby d_prog_25_m_4_18) rfl ?_
      refine XS.iadd X10.here hx rfl (hb hby d_prog_25_m_4_19) rfl ?_
      show Sx p e below T10 m 20 #[rv o, iv ix, iv 2, iv 3, iv 1] [(.int ((2 : Int32) + (3 : Int32)))] _
      exact kt
    have R33 : ∀ tg, Sx p e below T10 m 20 #[rv o, iv ix, iv 2, iv 3, iv 1] [(.int 5)] tg → Sx p e below T10 m 20 #[rv o, iv ix, iv 2, iv 3, iv 1] [(.int ((2 : Int32) + (3 : Int32)))] tg := fun tg kt => by rw [(by decide : ((2 : Int32) + (3 : Int32)) = (5 : Int32))]; exact kt
    have R34 : ∀ tg, Sx p e below T10 m 22 #[rv o, iv ix, iv 2, iv 3, iv 1] [(.int (((5 : Int32).toUInt32 >>> ((1 : Int32) &&& 31).toUInt32).toInt32))] tg → Sx p e below T10 m 20 #[rv o, iv ix, iv 2, iv 3, iv 1] [(.int 5)] tg := by
      intro tg kt
      refine XS.iconst X10.here hx rfl (hb hby d_prog_25_m_4_20) ?_
      refine XS.iushr X10.here hx rfl (hb hby d_prog_25_m_4_21) rfl ?_
      show Sx p e below T10 m 22 #[rv o, iv ix, iv 2, iv 3, iv 1] [(.int (((5 : Int32).toUInt32 >>> ((1 : Int32) &&& 31).toUInt32).toInt32))] _
      exact kt
    have R35 : ∀ tg, Sx p e below T10 m 22 #[rv o, iv ix, iv 2, iv 3, iv 1] [(.int 2)] tg → Sx p e below T10 m 22 #[rv o, iv ix, iv 2, iv 3, iv 1] [(.int (((5 : Int32).toUInt32 >>> ((1 : Int32) &&& 31).toUInt32).toInt32))] tg := fun tg kt => by rw [(by decide : (((5 : Int32).toUInt32 >>> ((1 : Int32) &&& 31).toUInt32).toInt32) = (2 : Int32))]; exact kt
    obtain ⟨T36, X36, e36, st36⟩ := getF X10 hx hZ hown (host := "") (Or.inl (w_ hw 88 rfl)) Via.refl r10 hFp (g := (mkF m 25 #[rv o, iv ix, iv 2, iv 3, iv 2] [(.ref o)])) rfl rfl (hb hby d_prog_25_m_4_25)
    obtain ⟨cq37, kq37, q37a, q37b, q37c⟩ := isOf hZ e36 hLe
    obtain ⟨_, _, ⟨T37, L37, k37, n37⟩, -, X37, ⟨Lc37, hQ37, l37, y37, z37⟩, st37⟩ := X36.interfaceBack hx (xi := (⟨"java/util/List", "get", "(I)Ljava/lang/Object;"⟩ : MethodName)) (y := (⟨"java/util/ImmutableCollections$ListN", "get", "(I)Ljava/lang/Object;"⟩ : MethodName)) hown (mvT hZ (w_ hw 205 rfl)) (mvT hZ (w_ hw 206 rfl)) (mvT hZ (w_ hw 207 rfl)) (mvT hZ (w_ hw 208 rfl)) (mvT hZ (w_ hw 209 rfl)) (mvT hZ (w_ hw 210 rfl)) (mvT hZ (w_ hw 211 rfl)) (mvT hZ (w_ hw 110 rfl)) (by decide) (backOf (W := 0) (rmNg l Z a0 hw [] L ar pa2 kk (3 : Int32) (2 : Int32) [.ref pa0, .ref pa1, .ref pa2] h0 n0 Z0 hLf hLv ⟨by decide, by decide⟩ rfl) hZ (w_ hw 212 rfl) (w_ hw 111 rfl) (by decide) (by decide)) q37a q37b q37c (g := (mkF m 30 #[rv o, iv ix, iv 2, iv 3, iv 2] [(.int 2), (.ref L)])) rfl (by rw [hml]; rfl) (Steps.refl _) (argsL := [(.int 2)]) (rest := []) (lenOf pd_14 rfl) rfl (by show 2 * 0 + _ ≤ _; exact Nat.le_of_eq rfl) (hb hby d_prog_25_m_4_30) (fun _ _ => ⟨rfl, e36, (by decide : 0 + 0 ≤ _), (by decide : 0 + 0 ≤ _)⟩)
    dsimp only [Pt.U, Pt.locs, Pt.cells, Pt.slots] at X37 l37 y37 z37 st37 hQ37
    subst l37 y37 z37
    obtain ⟨hv37, N37q, r37⟩ := hQ37
    subst hv37
    have N37 := Fr.app N10 N37q
    obtain ⟨T38, X38, e38, st38⟩ := castY X37 hx hZ hown (w_ hw 213 rfl) r37 (Ins.self hx2) (g := (mkF m 35 #[rv o, iv ix, iv 2, iv 3, iv 2] [(.ref pa2)])) rfl rfl (hb hby d_prog_25_m_4_35)
    obtain ⟨cq39, kq39, q39a, q39b, q39c⟩ := isOf hZ e38 hx2
    obtain ⟨_, _, ⟨T39, L39, k39, n39⟩, -, X39, ⟨Lc39, hQ39, l39, y39, z39⟩, st39⟩ := X38.virtualBack hx (y := (⟨"com/example/clausemap/clausemap/outline/Part", "start", "()I"⟩ : MethodName)) (z := (⟨"com/example/clausemap/clausemap/outline/Part", "start", "()I"⟩ : MethodName)) hown (mvT hZ (w_ hw 215 rfl)) (mvT hZ (w_ hw 216 rfl)) (notFace_of_selects (args := #[]) (mvT hZ (w_ hw 218 rfl))) (mvT hZ (w_ hw 218 rfl)) (mvT hZ (w_ hw 217 rfl)) (by decide) (backOf (W := 0) (rmPs l Z a0 hw [] pa2 sv2 h0 n0 Z0 hs2) hZ (w_ hw 219 rfl) (w_ hw 4 rfl) (by decide) (by decide)) q39a q39c (g := (mkF m 38 #[rv o, iv ix, iv 2, iv 3, iv 2] [(.ref pa2)])) rfl (by rw [hml]; rfl) (Steps.refl _) (argsL := []) (rest := []) (lenOf pd_13 rfl) rfl (by show 2 * 0 + _ ≤ _; exact Nat.le_of_eq rfl) (hb hby d_prog_25_m_4_38) (fun _ _ => ⟨rfl, e38, (by decide : 0 + 0 ≤ _), (by decide : 0 + 0 ≤ _)⟩)
    dsimp only [Pt.U, Pt.locs, Pt.cells, Pt.slots] at X39 l39 y39 z39 st39 hQ39
    subst l39 y39 z39
    obtain ⟨hv39, N39q, r39⟩ := hQ39
    subst hv39
    have N39 := Fr.app N37 N39q
    have R40 : ∀ tg, Sx p e below T39 m 42 #[rv o, iv ix, iv 2, iv 3, iv 2] [(.int ix), (.int sv2)] tg → Sx p e below T10 m 22 #[rv o, iv ix, iv 2, iv 3, iv 1] [(.int 2)] tg := by
      intro tg kt
      refine XS.istore X10.here hx rfl (hb hby d_prog_25_m_4_22) rfl (l' := #[rv o, iv ix, iv 2, iv 3, iv 2]) rfl ?_
      refine XS.aloadN X10.here hx rfl (hb hby d_prog_25_m_4_24) rfl rfl ?_
      refine st36 _ ?_
      refine XS.iload X36.here hx rfl (hb hby d_prog_25_m_4_28) rfl ?_
      refine st37.trans ?_
      show Sx p e below T37 m 35 #[rv o, iv ix, iv 2, iv 3, iv 2] [(.ref pa2)] _
      refine st38 _ ?_
      refine st39.trans ?_
      refine XS.iloadN X39.here hx rfl (hb hby d_prog_25_m_4_41) rfl ?_
      show Sx p e below T39 m 42 #[rv o, iv ix, iv 2, iv 3, iv 2] [(.int ix), (.int sv2)] _
      exact kt
    by_cases hc42_41 : ix < sv2
    · obtain ⟨T42, X42, e42, st42⟩ := getF X39 hx hZ hown (host := "") (Or.inl (w_ hw 88 rfl)) Via.refl r39 hFp (g := (mkF m 68 #[rv o, iv ix, iv 2, iv 2, iv 2] [(.ref o)])) rfl rfl (hb hby d_prog_25_m_4_68)
      have R43 : ∀ tg, Sx p e below T42 m 74 #[rv o, iv ix, iv 2, iv 2, iv 2] [(.int ((2 : Int32) - (1 : Int32))), (.ref L)] tg → Sx p e below T39 m 42 #[rv o, iv ix, iv 2, iv 3, iv 2] [(.int ix), (.int sv2)] tg := by
        intro tg kt
        refine XS.icmpYes X39.here hx rfl (pc0 := 42) (pc' := 53) rfl (hb hby d_prog_25_m_4_42) rfl (tlt hc42_41).2.2.1 (by decide) (by decide) ?_
        refine XS.iload X39.here hx rfl (hb hby d_prog_25_m_4_53) rfl ?_
        refine XS.istoreN X39.here hx rfl (hb hby d_prog_25_m_4_55) rfl (l' := #[rv o, iv ix, iv 2, iv 2, iv 2]) rfl ?_
        refine XS.goto X39.here hx rfl (pc0 := 56) (pc' := 12) rfl (hb hby d_prog_25_m_4_56) (by decide) (by decide) ?_
        refine XS.iloadN X39.here hx rfl (hb hby d_prog_25_m_4_12) rfl ?_
        show Sx p e below T39 m 13 #[rv o, iv ix, iv 2, iv 2, iv 2] [(.int 2)] _
        refine XS.iloadN X39.here hx rfl (hb hby d_prog_25_m_4_13) rfl ?_
        refine XS.icmpYes X39.here hx rfl (pc0 := 14) (pc' := 59) rfl (hb hby d_prog_25_m_4_14) rfl (flt (by decide : ¬ ((2 : Int32) < (2 : Int32)))).2.1 (by decide) (by decide) ?_
        refine XS.iloadN X39.here hx rfl (hb hby d_prog_25_m_4_59) rfl ?_
        refine XS.ifYes X39.here hx rfl (pc0 := 60) (pc' := 67) rfl (hb hby d_prog_25_m_4_60) rfl ((if0 _ _).trans (feq (by decide : ¬ ((2 : Int32) = (0 : Int32)))).2) (by decide) (by decide) ?_
        refine XS.aloadN X39.here hx rfl (hb hby d_prog_25_m_4_67) rfl rfl ?_
        show Sx p e below T39 m 68 #[rv o, iv ix, iv 2, iv 2, iv 2] [(.ref o)] _
        refine st42 _ ?_
        refine XS.iloadN X42.here hx rfl (hb hby d_prog_25_m_4_71) rfl ?_
        refine XS.iconst X42.here hx rfl (hb hby d_prog_25_m_4_72) ?_
        refine XS.isub X42.here hx rfl (hb hby d_prog_25_m_4_73) rfl ?_
        show Sx p e below T42 m 74 #[rv o, iv ix, iv 2, iv 2, iv 2] [(.int ((2 : Int32) - (1 : Int32))), (.ref L)] _
        exact kt
      have R44 : ∀ tg, Sx p e below T42 m 74 #[rv o, iv ix, iv 2, iv 2, iv 2] [(.int 1), (.ref L)] tg → Sx p e below T42 m 74 #[rv o, iv ix, iv 2, iv 2, iv 2] [(.int ((2 : Int32) - (1 : Int32))), (.ref L)] tg := fun tg kt => by rw [(by decide : ((2 : Int32) - (1 : Int32)) = (1 : Int32))]; exact kt
      obtain ⟨cq45, kq45, q45a, q45b, q45c⟩ := isOf hZ e42 hLe
      obtain ⟨_, _, ⟨T45, L45, k45, n45⟩, -, X45, ⟨Lc45, hQ45, l45, y45, z45⟩, st45⟩ := X42.interfaceBack hx (xi := (⟨"java/util/List", "get", "(I)Ljava/lang/Object;"⟩ : MethodName)) (y := (⟨"java/util/ImmutableCollections$ListN", "get", "(I)Ljava/lang/Object;"⟩ : MethodName)) hown (mvT hZ (w_ hw 205 rfl)) (mvT hZ (w_ hw 206 rfl)) (mvT hZ (w_ hw 207 rfl)) (mvT hZ (w_ hw 208 rfl)) (mvT hZ (w_ hw 209 rfl)) (mvT hZ (w_ hw 210 rfl)) (mvT hZ (w_ hw 211 rfl)) (mvT hZ (w_ hw 110 rfl)) (by decide) (backOf (W := 0) (rmNg l Z a0 hw [] L ar pa1 kk (3 : Int32) (1 : Int32) [.ref pa0, .ref pa1, .ref pa2] h0 n0 Z0 hLf hLv ⟨by decide, by decide⟩ rfl) hZ (w_ hw 212 rfl) (w_ hw 111 rfl) (by decide) (by decide)) q45a q45b q45c (g := (mkF m 74 #[rv o, iv ix, iv 2, iv 2, iv 2] [(.int 1), (.ref L)])) rfl (by rw [hml]; rfl) (Steps.refl _) (argsL := [(.int 1)]) (rest := []) (lenOf pd_14 rfl) rfl (by show 2 * 0 + _ ≤ _; exact Nat.le_of_eq rfl) (hb hby d_prog_25_m_4_74) (fun _ _ => ⟨rfl, e42, (by decide : 0 + 0 ≤ _), (by decide : 0 + 0 ≤ _)⟩)
      dsimp only [Pt.U, Pt.locs, Pt.cells, Pt.slots] at X45 l45 y45 z45 st45 hQ45
      subst l45 y45 z45
      obtain ⟨hv45, N45q, r45⟩ := hQ45
      subst hv45
      have N45 := Fr.app N39 N45q
      obtain ⟨T46, X46, e46, st46⟩ := castY X45 hx hZ hown (w_ hw 213 rfl) r45 (Ins.self hx1) (g := (mkF m 79 #[rv o, iv ix, iv 2, iv 2, iv 2] [(.ref pa1)])) rfl rfl (hb hby d_prog_25_m_4_79)
      obtain ⟨fs, hr, hrun, hended, hW, hsame⟩ := X46.leave (v := some (.ref pa1)) (fun h => by rw [Bd.returns] at h; cases h)
      refine ⟨_, _, pre0 _ (R3 _ (R4 _ (R5 _ (R6 _ (R11 _ (R30 _ (R31 _ (R32 _ (R33 _ (R34 _ (R35 _ (R40 _ (R43 _ (R44 _ ?_)))))))))))))), hrun, hended, _, _, rfl, ?_, ⟨_, rfl⟩, hW, hsame.mono (by decide) (by decide)⟩
      · show Sx p e below T42 m 74 #[rv o, iv ix, iv 2, iv 2, iv 2] [(.int 1), (.ref L)] _
        refine st45.trans ?_
        refine st46 _ ?_
        show Sx p e below T46 m 82 #[rv o, iv ix, iv 2, iv 2, iv 2] [(.ref pa1)] _
        jvm_step X46.here [X46.here.top, hx, (hb hby d_prog_25_m_4_82), X46.method', Bd.returns, Value.isRef, FieldType.isReference]
        first | (intro acts; rw [hr _ acts rfl rfl rfl]) | rw [hr _ _ rfl rfl rfl]
        exact Steps.refl _
      · show QV (some (if ix < sv2 then (if ix < sv1 then (if ix < sv0 then .null else .ref pa0) else .ref pa1) else .ref pa2)) h0 n0 _ T46.heap _
        rw [e46]
        exact ⟨by rw [if_pos hc42_41, if_neg hc42_12], N45, rfl⟩
    · have R47 : ∀ tg, Sx p e below T39 m 49 #[rv o, iv ix, iv 2, iv 3, iv 2] [(.int ((2 : Int32) + (1 : Int32)))] tg → Sx p e below T39 m 42 #[rv o, iv ix, iv 2, iv 3, iv 2] [(.int ix), (.int sv2)] tg := by
        intro tg kt
        refine XS.icmpNo X39.here hx rfl (hb hby d_prog_25_m_4_42) rfl (flt hc42_41).2.2.1 ?_
        refine XS.iload X39.here hx rfl (hb hby d_prog_25_m_4_45) rfl ?_
        refine XS.iconst X39.here hx rfl (hb hby d_prog_25_m_4_47) ?_
        refine XS.iadd X39.here hx rfl (hb hby d_prog_25_m_4_48) rfl ?_
        show Sx p e below T39 m 49 #[rv o, iv ix, iv 2, iv 3, iv 2] [(.int ((2 : Int32) + (1 : Int32)))] _
        exact kt
      have R48 : ∀ tg, Sx p e below T39 m 49 #[rv o, iv ix, iv 2, iv 3, iv 2] [(.int 3)] tg → Sx p e below T39 m 49 #[rv o, iv ix, iv 2, iv 3, iv 2] [(.int ((2 : Int32) + (1 : Int32)))] tg := fun tg kt => by rw [(by decide : ((2 : Int32) + (1 : Int32)) = (3 : Int32))]; exact kt
      obtain ⟨T49, X49, e49, st49⟩ := getF X39 hx hZ hown (host := "") (Or.inl (w_ hw 88 rfl)) Via.refl r39 hFp (g := (mkF m 68 #[rv o, iv ix, iv 3, iv 3, iv 2] [(.ref o)])) rfl rfl (hb hby d_prog_25_m_4_68)
      have R50 : ∀ tg, Sx p e below T49 m 74 #[rv o, iv ix, iv 3, iv 3, iv 2] [(.int ((3 : Int32) - (1 : Int32))), (.ref L)] tg → Sx p e below T39 m 49 #[rv o, iv ix, iv 2, iv 3, iv 2] [(.int 3)] tg := by
        intro tg kt
        refine XS.istoreN X39.here hx rfl (hb hby d_prog_25_m_4_49) rfl (l' := #[rv o, iv ix, iv 3, iv 3, iv 2]) rfl ?_
        refine XS.goto X39.here hx rfl (pc0 := 50) (pc' := 56) rfl (hb hby d_prog_25_m_4_50) (by decide) (by decide) ?_
        refine XS.goto X39.here hx rfl (pc0 := 56) (pc' := 12) rfl (hb hby d_prog_25_m_4_56) (by decide) (by decide) ?_
        refine XS.iloadN X39.here hx rfl (hb hby d_prog_25_m_4_12) rfl ?_
        refine XS.iloadN X39.here hx rfl (hb hby d_prog_25_m_4_13) rfl ?_
        show Sx p e below T39 m 14 #[rv o, iv ix, iv 3, iv 3, iv 2] [(.int 3), (.int 3)] _
        refine XS.icmpYes X39.here hx rfl (pc0 := 14) (pc' := 59) rfl (hb hby d_prog_25_m_4_14) rfl (flt (by decide : ¬ ((3 : Int32) < (3 : Int32)))).2.1 (by decide) (by decide) ?_
        refine XS.iloadN X39.here hx rfl (hb hby d_prog_25_m_4_59) rfl ?_
        refine XS.ifYes X39.here hx rfl (pc0 := 60) (pc' := 67) rfl (hb hby d_prog_25_m_4_60) rfl ((if0 _ _).trans (feq (by decide : ¬ ((3 : Int32) = (0 : Int32)))).2) (by decide) (by decide) ?_
        refine XS.aloadN X39.here hx rfl (hb hby d_prog_25_m_4_67) rfl rfl ?_
        refine st49 _ ?_
        show Sx p e below T49 m 71 #[rv o, iv ix, iv 3, iv 3, iv 2] [(.ref L)] _
        refine XS.iloadN X49.here hx rfl (hb hby d_prog_25_m_4_71) rfl ?_
        refine XS.iconst X49.here hx rfl (hb hby d_prog_25_m_4_72) ?_
        refine XS.isub X49.here hx rfl (hb hby d_prog_25_m_4_73) rfl ?_
        show Sx p e below T49 m 74 #[rv o, iv ix, iv 3, iv 3, iv 2] [(.int ((3 : Int32) - (1 : Int32))), (.ref L)] _
        exact kt
      have R51 : ∀ tg, Sx p e below T49 m 74 #[rv o, iv ix, iv 3, iv 3, iv 2] [(.int 2), (.ref L)] tg → Sx p e below T49 m 74 #[rv o, iv ix, iv 3, iv 3, iv 2] [(.int ((3 : Int32) - (1 : Int32))), (.ref L)] tg := fun tg kt => by rw [(by decide : ((3 : Int32) - (1 : Int32)) = (2 : Int32))]; exact kt
      obtain ⟨cq52, kq52, q52a, q52b, q52c⟩ := isOf hZ e49 hLe
      obtain ⟨_, _, ⟨T52, L52, k52, n52⟩, -, X52, ⟨Lc52, hQ52, l52, y52, z52⟩, st52⟩ := X49.interfaceBack hx (xi := (⟨"java/util/List", "get", "(I)Ljava/lang/Object;"⟩ : MethodName)) (y := (⟨"java/util/ImmutableCollections$ListN", "get", "(I)Ljava/lang/Object;"⟩ : MethodName)) hown (mvT hZ (w_ hw 205 rfl)) (mvT hZ (w_ hw 206 rfl)) (mvT hZ (w_ hw 207 rfl)) (mvT hZ (w_ hw 208 rfl)) (mvT hZ (w_ hw 209 rfl)) (mvT hZ (w_ hw 210 rfl)) (mvT hZ (w_ hw 211 rfl)) (mvT hZ (w_ hw 110 rfl)) (by decide) (backOf (W := 0) (rmNg l Z a0 hw [] L ar pa2 kk (3 : Int32) (2 : Int32) [.ref pa0, .ref pa1, .ref pa2] h0 n0 Z0 hLf hLv ⟨by decide, by decide⟩ rfl) hZ (w_ hw 212 rfl) (w_ hw 111 rfl) (by decide) (by decide)) q52a q52b q52c (g := (mkF m 74 #[rv o, iv ix, iv 3, iv 3, iv 2] [(.int 2), (.ref L)])) rfl (by rw [hml]; rfl) (Steps.refl _) (argsL := [(.int 2)]) (rest := []) (lenOf pd_14 rfl) rfl (by show 2 * 0 + _ ≤ _; exact Nat.le_of_eq rfl) (hb hby d_prog_25_m_4_74) (fun _ _ => ⟨rfl, e49, (by decide : 0 + 0 ≤ _), (by decide : 0 + 0 ≤ _)⟩)
      dsimp only [Pt.U, Pt.locs, Pt.cells, Pt.slots] at X52 l52 y52 z52 st52 hQ52
      subst l52 y52 z52
      obtain ⟨hv52, N52q, r52⟩ := hQ52
      subst hv52
      have N52 := Fr.app N39 N52q
      obtain ⟨T53, X53, e53, st53⟩ := castY X52 hx hZ hown (w_ hw 213 rfl) r52 (Ins.self hx2) (g := (mkF m 79 #[rv o, iv ix, iv 3, iv 3, iv 2] [(.ref pa2)])) rfl rfl (hb hby d_prog_25_m_4_79)
      obtain ⟨fs, hr, hrun, hended, hW, hsame⟩ := X53.leave (v := some (.ref pa2)) (fun h => by rw [Bd.returns] at h; cases h)
      refine ⟨_, _, pre0 _ (R3 _ (R4 _ (R5 _ (R6 _ (R11 _ (R30 _ (R31 _ (R32 _ (R33 _ (R34 _ (R35 _ (R40 _ (R47 _ (R48 _ (R50 _ (R51 _ ?_)))))))))))))))), hrun, hended, _, _, rfl, ?_, ⟨_, rfl⟩, hW, hsame.mono (by decide) (by decide)⟩
      · show Sx p e below T49 m 74 #[rv o, iv ix, iv 3, iv 3, iv 2] [(.int 2), (.ref L)] _
        refine st52.trans ?_
        refine st53 _ ?_
        show Sx p e below T53 m 82 #[rv o, iv ix, iv 3, iv 3, iv 2] [(.ref pa2)] _
        jvm_step X53.here [X53.here.top, hx, (hb hby d_prog_25_m_4_82), X53.method', Bd.returns, Value.isRef, FieldType.isReference]
        first | (intro acts; rw [hr _ acts rfl rfl rfl]) | rw [hr _ _ rfl rfl rfl]
        exact Steps.refl _
      · show QV (some (if ix < sv2 then (if ix < sv1 then (if ix < sv0 then .null else .ref pa0) else .ref pa1) else .ref pa2)) h0 n0 _ T53.heap _
        rw [e53]
        exact ⟨by rw [if_neg hc42_41], N52, rfl⟩
theorem ef_rmP4 (m : MethodId) (x0 : Addr) (x1 : Int32) : entryFrame m #[(.ref x0), (.int x1)] 5 = mkF m 0 #[rv x0, iv x1, u_, u_, u_] [] := by first | (simp [entryFrame, mkF, argsToLocals, Value.category]; done) | rfl
set_option maxRecDepth 65536 in
set_option maxHeartbeats 40000000 in
theorem rmP4 (l : Launch) (Z : State) (a0 : Array Value) (hw : ∀ d ∈ tables_1, d.before a0 Z = true) (ws : List Jvm.Cond) (o L pa0 pa1 pa2 pa3 em : Addr) (ix sv0 sv1 sv2 sv3 : Int32) (h0 : Heap) (n0 : Nat) (Z0 : n0 ≤ h0.size) (hFp : Fld Z h0 o "com/example/clausemap/clausemap/outline/Outline" "parts" "Ljava/util/List;" (.ref L)) (hLV : LVN Z h0 L 4 [.ref pa0, .ref pa1, .ref pa2, .ref pa3]) (hx0 : Exa Z h0 pa0 "com/example/clausemap/clausemap/outline/Part") (hx1 : Exa Z h0 pa1 "com/example/clausemap/clausemap/outline/Part") (hx2 : Exa Z h0 pa2 "com/example/clausemap/clausemap/outline/Part") (hx3 : Exa Z h0 pa3 "com/example/clausemap/clausemap/outline/Part") (hs0 : Fld Z h0 pa0 "com/example/clausemap/clausemap/outline/Part" "start" "I" (.int sv0)) (hs1 : Fld Z h0 pa1 "com/example/clausemap/clausemap/outline/Part" "start" "I" (.int sv1)) (hs2 : Fld Z h0 pa2 "com/example/clausemap/clausemap/outline/Part" "start" "I" (.int sv2)) (hs3 : Fld Z h0 pa3 "com/example/clausemap/clausemap/outline/Part" "start" "I" (.int sv3)) (hlt0 : sv0 < sv1) (hlt1 : sv1 < sv2) (hlt2 : sv2 < sv3) :
    MetFree l (⟨"com/example/clausemap/clausemap/outline/Outline", "partAt", "(I)Lcom/example/clausemap/clausemap/outline/Part;"⟩ : MethodName) (head1 (Jvm.Cond.code (⟨"com/example/clausemap/clausemap/outline/Outline", "partAt", "(I)Lcom/example/clausemap/clausemap/outline/Part;"⟩ : MethodName) prog_25_method_4_code 5 (some (.object "com/example/clausemap/clausemap/outline/Part")) :: ws) ({ frames := 1, cells := 0, slots := 0, locals := 13 } : Room)) (fun aa_ UU_ => aa_ = #[(.ref o), (.int ix)] ∧ Z.Warmed39 UU_.vm ∧ UU_.heap = h0) (fun _ _ _ _ _ => True) (fun _ UU_ oo_ UE_ => ∃ vv_ LL_, oo_ = .returned vv_ ∧ QV (some (if ix < sv3 then (if ix < sv2 then (if ix < sv1 then (if ix < sv0 then .null else .ref pa0) else .ref pa1) else .ref pa2) else .ref pa3)) h0 n0 vv_ UE_.heap LL_ ∧ FrameEnd UU_ oo_ UE_ LL_ ({ frames := 1, cells := 0, slots := 0, locals := 13 } : Room).cells ({ frames := 1, cells := 0, slots := 0, locals := 13 } : Room).slots) := by
  refine MetFree.of_bodySF (plainFor_of_name pn_12) hisR ?_
  intro p e s m args below meth c s₁ Bd hml0 hP hK
  obtain ⟨rfl, hZ, hh⟩ := hP
  have hx := Bd.exec
  have hby := Bd.bytes
  have hml : c.maxLocals = 5 := hml0
  have hown : s.vm.findClass "com/example/clausemap/clausemap/outline/Outline" = some m.cls := findClass_of_methodNamed Bd.named
  have hnm := (name_of_methodNamed Bd.named Bd.method).1
  have X0 : Stand p l e ({ frames := 1, cells := 0, slots := 0, locals := 13 } : Room) s m #[(.ref o), (.int ix)] below meth c s₁ [] 0 0 := Stand.of_body Bd
  have e0 : s₁.heap = h0 := by rw [← hh, Bd.state]; rfl
  have N0 := Fr.nil n0
  have pre0 : ∀ tg, Steps p.tables e below (s₁.setTop (mkF m 0 #[rv o, iv ix, u_, u_, u_] [])) tg → Steps p.tables e below (s₁.setTop (entryFrame m #[(.ref o), (.int ix)] 5)) tg := fun tg kq_ => castTop (ef_rmP4 m o ix) kq_
  obtain ⟨ar, kk, hLe, hLf, hLv⟩ := hLV
  obtain ⟨T1, X1, e1, st1⟩ := getF X0 hx hZ hown (host := "") (Or.inl (w_ hw 88 rfl)) Via.refl e0 hFp (g := (mkF m 3 #[rv o, iv ix, iv 0, u_, u_] [(.ref o)])) rfl rfl (hb hby d_prog_25_m_4_3)
  obtain ⟨cq2, kq2, q2a, q2b, q2c⟩ := isOf hZ e1 hLe
  obtain ⟨_, _, ⟨T2, L2, k2, n2⟩, -, X2, ⟨Lc2, hQ2, l2, y2, z2⟩, st2⟩ := X1.interfaceBack hx (xi := (⟨"java/util/List", "size", "()I"⟩ : MethodName)) (y := (⟨"java/util/ImmutableCollections$ListN", "size", "()I"⟩ : MethodName)) hown (mvT hZ (w_ hw 103 rfl)) (mvT hZ (w_ hw 104 rfl)) (mvT hZ (w_ hw 105 rfl)) (mvT hZ (w_ hw 106 rfl)) (mvT hZ (w_ hw 107 rfl)) (mvT hZ (w_ hw 108 rfl)) (mvT hZ (w_ hw 109 rfl)) (mvT hZ (w_ hw 110 rfl)) (by decide) (backOf (W := 0) (rmNs l Z a0 hw [] L ar kk (4 : Int32) [.ref pa0, .ref pa1, .ref pa2, .ref pa3] h0 n0 Z0 hLf hLv) hZ (w_ hw 112 rfl) (w_ hw 111 rfl) (by decide) (by decide)) q2a q2b q2c (g := (mkF m 6 #[rv o, iv ix, iv 0, u_, u_] [(.ref L)])) rfl (by rw [hml]; rfl) (Steps.refl _) (argsL := []) (rest := []) (lenOf pd_13 rfl) rfl (by show 2 * 0 + _ ≤ _; exact Nat.le_of_eq rfl) (hb hby d_prog_25_m_4_6) (fun _ _ => ⟨rfl, e1, (by decide : 0 + 0 ≤ _), (by decide : 0 + 0 ≤ _)⟩)
  dsimp only [Pt.U, Pt.locs, Pt.cells, Pt.slots] at X2 l2 y2 z2 st2 hQ2
  subst l2 y2 z2
  obtain ⟨hv2, N2q, r2⟩ := hQ2
  subst hv2
  have N2 := Fr.app N0 N2q
  have R3 : ∀ tg, Sx p e below T2 m 20 #[rv o, iv ix, iv 0, iv 4, u_] [(.int ((0 : Int32) + (4 : Int32)))] tg → Sx p e below s₁ m 0 #[rv o, iv ix, u_, u_, u_] [] tg := by
    intro tg kt
    refine XS.iconst X0.here hx rfl (hb hby d_prog_25_m_4_0) ?_
    refine XS.istoreN X0.here hx rfl (hb hby d_prog_25_m_4_1) rfl (l' := #[rv o, iv ix, iv 0, u_, u_]) rfl ?_
    refine XS.aloadN X0.here hx rfl (hb hby d_prog_25_m_4_2) rfl rfl ?_
    refine st1 _ ?_
    refine st2.trans ?_
    show Sx p e below T2 m 11 #[rv o, iv ix, iv 0, u_, u_] [(.int 4)] _
    refine XS.istoreN X2.here hx rfl (hb hby d_prog_25_m_4_11) rfl (l' := #[rv o, iv ix, iv 0, iv 4, u_]) rfl ?_
    refine XS.iloadN X2.here hx rfl (hb hby d_prog_25_m_4_12) rfl ?_
    refine XS.iloadN X2.here hx rfl (hb hby d_prog_25_m_4_13) rfl ?_
    refine XS.icmpNo X2.here hx rfl (hb hby d_prog_25_m_4_14) rfl (tlt (by decide : (0 : Int32) < (4 : Int32))).2.1 ?_
    refine XS.iloadN X2.here hx rfl (hb hby d_prog_25_m_4_17) rfl ?_
    show Sx p e below T2 m 18 #[rv o, iv ix, iv 0, iv 4, u_] [(.int 0)] _
    refine XS.iloadN X2.here hx rfl (hb hby d_prog_25_m_4_18) rfl ?_
    refine XS.iadd X2.here hx rfl (hb hby d_prog_25_m_4_19) rfl ?_
    show Sx p e below T2 m 20 #[rv o, iv ix, iv 0, iv 4, u_] [(.int ((0 : Int32) + (4 : Int32)))] _
    exact kt
  have R4 : ∀ tg, Sx p e below T2 m 20 #[rv o, iv ix, iv 0, iv 4, u_] [(.int 4)] tg → Sx p e below T2 m 20 #[rv o, iv ix, iv 0, iv 4, u_] [(.int ((0 : Int32) + (4 : Int32)))] tg := fun tg kt => by rw [(by decide : ((0 : Int32) + (4 : Int32)) = (4 : Int32))]; exact kt
  have R5 : ∀ tg, Sx p e below T2 m 22 #[rv o, iv ix, iv 0, iv 4, u_] [(.int (((4 : Int32).toUInt32 >>> ((1 : Int32) &&& 31).toUInt32).toInt32))] tg → Sx p e below T2 m 20 #[rv o, iv ix, iv 0, iv 4, u_] [(.int 4)] tg := by
    intro tg kt
    refine XS.iconst X2.here hx rfl (hb hby d_prog_25_m_4_20) ?_
    refine XS.iushr X2.here hx rfl (hb hby d_prog_25_m_4_21) rfl ?_
    show Sx p e below T2 m 22 #[rv o, iv ix, iv 0, iv 4, u_] [(.int (((4 : Int32).toUInt32 >>> ((1 : Int32) &&& 31).toUInt32).toInt32))] _
    exact kt
  have R6 : ∀ tg, Sx p e below T2 m 22 #[rv o, iv ix, iv 0, iv 4, u_] [(.int 2)] tg → Sx p e below T2 m 22 #[rv o, iv ix, iv 0, iv 4, u_] [(.int (((4 : Int32).toUInt32 >>> ((1 : Int32) &&& 31).toUInt32).toInt32))] tg := fun tg kt => by rw [(by decide : (((4 : Int32).toUInt32 >>> ((1 : Int32) &&& 31).toUInt32).toInt32) = (2 : Int32))]; exact kt
  obtain ⟨T7, X7, e7, st7⟩ := getF X2 hx hZ hown (host := "") (Or.inl (w_ hw 88 rfl)) Via.refl r2 hFp (g := (mkF m 25 #[rv o, iv ix, iv 0, iv 4, iv 2] [(.ref o)])) rfl rfl (hb hby d_prog_25_m_4_25)
  obtain ⟨cq8, kq8, q8a, q8b, q8c⟩ := isOf hZ e7 hLe
  obtain ⟨_, _, ⟨T8, L8, k8, n8⟩, -, X8, ⟨Lc8, hQ8, l8, y8, z8⟩, st8⟩ := X7.interfaceBack hx (xi := (⟨"java/util/List", "get", "(I)Ljava/lang/Object;"⟩ : MethodName)) (y := (⟨"java/util/ImmutableCollections$ListN", "get", "(I)Ljava/lang/Object;"⟩ : MethodName)) hown (mvT hZ (w_ hw 205 rfl)) (mvT hZ (w_ hw 206 rfl)) (mvT hZ (w_ hw 207 rfl)) (mvT hZ (w_ hw 208 rfl)) (mvT hZ (w_ hw 209 rfl)) (mvT hZ (w_ hw 210 rfl)) (mvT hZ (w_ hw 211 rfl)) (mvT hZ (w_ hw 110 rfl)) (by decide) (backOf (W := 0) (rmNg l Z a0 hw [] L ar pa2 kk (4 : Int32) (2 : Int32) [.ref pa0, .ref pa1, .ref pa2, .ref pa3] h0 n0 Z0 hLf hLv ⟨by decide, by decide⟩ rfl) hZ (w_ hw 212 rfl) (w_ hw 111 rfl) (by decide) (by decide)) q8a q8b q8c (g := (mkF m 30 #[rv o, iv ix, iv 0, iv 4, iv 2] [(.int 2), (.ref L)])) rfl (by rw [hml]; rfl) (Steps.refl _) (argsL := [(.int 2)]) (rest := []) (lenOf pd_14 rfl) rfl (by show 2 * 0 + _ ≤ _; exact Nat.le_of_eq rfl) (hb hby d_prog_25_m_4_30) (fun _ _ => ⟨rfl, e7, (by decide : 0 + 0 ≤ _), (by decide : 0 + 0 ≤ _)⟩)
  dsimp only [Pt.U, Pt.locs, Pt.cells, Pt.slots] at X8 l8 y8 z8 st8 hQ8
  subst l8 y8 z8
  obtain ⟨hv8, N8q, r8⟩ := hQ8
  subst hv8
  have N8 := Fr.app N2 N8q
  obtain ⟨T9, X9, e9, st9⟩ := castY X8 hx hZ hown (w_ hw 213 rfl) r8 (Ins.self hx2) (g := (mkF m 35 #[rv o, iv ix, iv 0, iv 4, iv 2] [(.ref pa2)])) rfl rfl (hb hby d_prog_25_m_4_35)
  obtain ⟨cq10, kq10, q10a, q10b, q10c⟩ := isOf hZ e9 hx2
  obtain ⟨_, _, ⟨T10, L10, k10, n10⟩, -, X10, ⟨Lc10, hQ10, l10, y10, z10⟩, st10⟩ := X9.virtualBack hx (y := (⟨"com/example/clausemap/clausemap/outline/Part", "start", "()I"⟩ : MethodName)) (z := (⟨"com/example/clausemap/clausemap/outline/Part", "start", "()I"⟩ : MethodName)) hown (mvT hZ (w_ hw 215 rfl)) (mvT hZ (w_ hw 216 rfl)) (notFace_of_selects (args := #[]) (mvT hZ (w_ hw 218 rfl))) (mvT hZ (w_ hw 218 rfl)) (mvT hZ (w_ hw 217 rfl)) (by decide) (backOf (W := 0) (rmPs l Z a0 hw [] pa2 sv2 h0 n0 Z0 hs2) hZ (w_ hw 219 rfl) (w_ hw 4 rfl) (by decide) (by decide)) q10a q10c (g := (mkF m 38 #[rv o, iv ix, iv 0, iv 4, iv 2] [(.ref pa2)])) rfl (by rw [hml]; rfl) (Steps.refl _) (argsL := []) (rest := []) (lenOf pd_13 rfl) rfl (by show 2 * 0 + _ ≤ _; exact Nat.le_of_eq rfl) (hb hby d_prog_25_m_4_38) (fun _ _ => ⟨rfl, e9, (by decide : 0 + 0 ≤ _), (by decide : 0 + 0 ≤ _)⟩)
  dsimp only [Pt.U, Pt.locs, Pt.cells, Pt.slots] at X10 l10 y10 z10 st10 hQ10
  subst l10 y10 z10
  obtain ⟨hv10, N10q, r10⟩ := hQ10
  subst hv10
  have N10 := Fr.app N8 N10q
  have R11 : ∀ tg, Sx p e below T10 m 42 #[rv o, iv ix, iv 0, iv 4, iv 2] [(.int ix), (.int sv2)] tg → Sx p e below T2 m 22 #[rv o, iv ix, iv 0, iv 4, u_] [(.int 2)] tg := by
    intro tg kt
    refine XS.istore X2.here hx rfl (hb hby d_prog_25_m_4_22) rfl (l' := #[rv o, iv ix, iv 0, iv 4, iv 2]) rfl ?_
    refine XS.aloadN X2.here hx rfl (hb hby d_prog_25_m_4_24) rfl rfl ?_
    refine st7 _ ?_
    refine XS.iload X7.here hx rfl (hb hby d_prog_25_m_4_28) rfl ?_
    refine st8.trans ?_
    show Sx p e below T8 m 35 #[rv o, iv ix, iv 0, iv 4, iv 2] [(.ref pa2)] _
    refine st9 _ ?_
    refine st10.trans ?_
    refine XS.iloadN X10.here hx rfl (hb hby d_prog_25_m_4_41) rfl ?_
    show Sx p e below T10 m 42 #[rv o, iv ix, iv 0, iv 4, iv 2] [(.int ix), (.int sv2)] _
    exact kt
  by_cases hc42_12 : ix < sv2
  · have R13 : ∀ tg, Sx p e below T10 m 20 #[rv o, iv ix, iv 0, iv 2, iv 2] [(.int ((0 : Int32) + (2 : Int32)))] tg → Sx p e below T10 m 42 #[rv o, iv ix, iv 0, iv 4, iv 2] [(.int ix), (.int sv2)] tg := by
      intro tg kt
      refine XS.icmpYes X10.here hx rfl (pc0 := 42) (pc' := 53) rfl (hb hby d_prog_25_m_4_42) rfl (tlt hc42_12).2.2.1 (by decide) (by decide) ?_
      refine XS.iload X10.here hx rfl (hb hby d_prog_25_m_4_53) rfl ?_
      refine XS.istoreN X10.here hx rfl (hb hby d_prog_25_m_4_55) rfl (l' := #[rv o, iv ix, iv 0, iv 2, iv 2]) rfl ?_
      refine XS.goto X10.here hx rfl (pc0 := 56) (pc' := 12) rfl (hb hby d_prog_25_m_4_56) (by decide) (by decide) ?_
      refine XS.iloadN X10.here hx rfl (hb hby d_prog_25_m_4_12) rfl ?_
      show Sx p e below T10 m 13 #[rv o, iv ix, iv 0, iv 2, iv 2] [(.int 0)] _
      refine XS.iloadN X10.here hx rfl (hb hby d_prog_25_m_4_13) rfl ?_
      refine XS.icmpNo X10.here hx rfl (hb hby d_prog_25_m_4_14) rfl (tlt (by decide : (0 : Int32) < (2 : Int32))).2.1 ?_
      refine XS.iloadN X10.here hx rfl (hb hby d_prog_25_m_4_17) rfl ?_
      refine XS.iloadN X10.here hx rfl (hb hby d_prog_25_m_4_18) rfl ?_
      refine XS.iadd X10.here hx rfl (hb hby d_prog_25_m_4_19) rfl ?_
      show Sx p e below T10 m 20 #[rv o, iv ix, iv 0, iv 2, iv 2] [(.int ((0 : Int32) + (2 : Int32)))] _
      exact kt
    have R14 : ∀ tg, Sx p e below T10 m 20 #[rv o, iv ix, iv 0, iv 2, iv 2] [(.int 2)] tg → Sx p e below T10 m 20 #[rv o, iv ix, iv 0, iv 2, iv 2] [(.int ((0 : Int32) + (2 : Int32)))] tg := fun tg kt => by rw [(by decide : ((0 : Int32) + (2 : Int32)) = (2 : Int32))]; exact kt
    have R15 : ∀ tg, Sx p e below T10 m 22 #[rv o, iv ix, iv 0, iv 2, iv 2] [(.int (((2 : Int32).toUInt32 >>> ((1 : Int32) &&& 31).toUInt32).toInt32))] tg → Sx p e below T10 m 20 #[rv o, iv ix, iv 0, iv 2, iv 2] [(.int 2)] tg := by
      intro tg kt
      refine XS.iconst X10.here hx rfl (hb hby d_prog_25_m_4_20) ?_
      refine XS.iushr X10.here hx rfl (hb hby d_prog_25_m_4_21) rfl ?_
      show Sx p e below T10 m 22 #[rv o, iv ix, iv 0, iv 2, iv 2] [(.int (((2 : Int32).toUInt32 >>> ((1 : Int32) &&& 31).toUInt32).toInt32))] _
      exact kt
    have R16 : ∀ tg, Sx p e below T10 m 22 #[rv o, iv ix, iv 0, iv 2, iv 2] [(.int 1)] tg → Sx p e below T10 m 22 #[rv o, iv ix, iv 0, iv 2, iv 2] [(.int (((2 : Int32).toUInt32 >>> ((1 : Int32) &&& 31).toUInt32).toInt32))] tg := fun tg kt => by rw [(by decide : (((2 : Int32).toUInt32 >>> ((1 : Int32) &&& 31).toUInt32).toInt32) = (1 : Int32))]; exact kt
    obtain ⟨T17, X17, e17, st17⟩ := getF X10 hx hZ hown (host := "") (Or.inl (w_ hw 88 rfl)) Via.refl r10 hFp (g := (mkF m 25 #[rv o, iv ix, iv 0, iv 2, iv 1] [(.ref o)])) rfl rfl (hb hby d_prog_25_m_4_25)
    obtain ⟨cq18, kq18, q18a, q18b, q18c⟩ := isOf hZ e17 hLe
    obtain ⟨_, _, ⟨T18, L18, k18, n18⟩, -, X18, ⟨Lc18, hQ18, l18, y18, z18⟩, st18⟩ := X17.interfaceBack hx (xi := (⟨"java/util/List", "get", "(I)Ljava/lang/Object;"⟩ : MethodName)) (y := (⟨"java/util/ImmutableCollections$ListN", "get", "(I)Ljava/lang/Object;"⟩ : MethodName)) hown (mvT hZ (w_ hw 205 rfl)) (mvT hZ (w_ hw 206 rfl)) (mvT hZ (w_ hw 207 rfl)) (mvT hZ (w_ hw 208 rfl)) (mvT hZ (w_ hw 209 rfl)) (mvT hZ (w_ hw 210 rfl)) (mvT hZ (w_ hw 211 rfl)) (mvT hZ (w_ hw 110 rfl)) (by decide) (backOf (W := 0) (rmNg l Z a0 hw [] L ar pa1 kk (4 : Int32) (1 : Int32) [.ref pa0, .ref pa1, .ref pa2, .ref pa3] h0 n0 Z0 hLf hLv ⟨by decide, by decide⟩ rfl) hZ (w_ hw 212 rfl) (w_ hw 111 rfl) (by decide) (by decide)) q18a q18b q18c (g := (mkF m 30 #[rv o, iv ix, iv 0, iv 2, iv 1] [(.int 1), (.ref L)])) rfl (by rw [hml]; rfl) (Steps.refl _) (argsL := [(.int 1)]) (rest := []) (lenOf pd_14 rfl) rfl (by show 2 * 0 + _ ≤ _; exact Nat.le_of_eq rfl) (hb hby d_prog_25_m_4_30) (fun _ _ => ⟨rfl, e17, (by decide : 0 + 0 ≤ _), (by decide : 0 + 0 ≤ _)⟩)
    dsimp only [Pt.U, Pt.locs, Pt.cells, Pt.slots] at X18 l18 y18 z18 st18 hQ18
    subst l18 y18 z18
    obtain ⟨hv18, N18q, r18⟩ := hQ18
    subst hv18
    have N18 := Fr.app N10 N18q
    obtain ⟨T19, X19, e19, st19⟩ := castY X18 hx hZ hown (w_ hw 213 rfl) r18 (Ins.self hx1) (g := (mkF m 35 #[rv o, iv ix, iv 0, iv 2, iv 1] [(.ref pa1)])) rfl rfl (hb hby d_prog_25_m_4_35)
    obtain ⟨cq20, kq20, q20a, q20b, q20c⟩ := isOf hZ e19 hx1
    obtain ⟨_, _, ⟨T20, L20, k20, n20⟩, -, X20, ⟨Lc20, hQ20, l20, y20, z20⟩, st20⟩ := X19.virtualBack hx (y := (⟨"com/example/clausemap/clausemap/outline/Part", "start", "()I"⟩ : MethodName)) (z := (⟨"com/example/clausemap/clausemap/outline/Part", "start", "()I"⟩ : MethodName)) hown (mvT hZ (w_ hw 215 rfl)) (mvT hZ (w_ hw 216 rfl)) (notFace_of_selects (args := #[]) (mvT hZ (w_ hw 218 rfl))) (mvT hZ (w_ hw 218 rfl)) (mvT hZ (w_ hw 217 rfl)) (by decide) (backOf (W := 0) (rmPs l Z a0 hw [] pa1 sv1 h0 n0 Z0 hs1) hZ (w_ hw 219 rfl) (w_ hw 4 rfl) (by decide) (by decide)) q20a q20c (g := (mkF m 38 #[rv o, iv ix, iv 0, iv 2, iv 1] [(.ref pa1)])) rfl (by rw [hml]; rfl) (Steps.refl _) (argsL := []) (rest := []) (lenOf pd_13 rfl) rfl (by show 2 * 0 + _ ≤ _; exact Nat.le_of_eq rfl) (hb hby d_prog_25_m_4_38) (fun _ _ => ⟨rfl, e19, (by decide : 0 + 0 ≤ _), (by decide : 0 + 0 ≤ _)⟩)
    dsimp only [Pt.U, Pt.locs, Pt.cells, Pt.slots] at X20 l20 y20 z20 st20 hQ20
    subst l20 y20 z20
    obtain ⟨hv20, N20q, r20⟩ := hQ20
    subst hv20
    have N20 := Fr.app N18 N20q
    have R21 : ∀ tg, Sx p e below T20 m 42 #[rv o, iv ix, iv 0, iv 2, iv 1] [(.int ix), (.int sv1)] tg → Sx p e below T10 m 22 #[rv o, iv ix, iv 0, iv 2, iv 2] [(.int 1)] tg := by
      intro tg kt
      refine XS.istore X10.here hx rfl (hb hby d_prog_25_m_4_22) rfl (l' := #[rv o, iv ix, iv 0, iv 2, iv 1]) rfl ?_
      refine XS.aloadN X10.here hx rfl (hb hby d_prog_25_m_4_24) rfl rfl ?_
      refine st17 _ ?_
      refine XS.iload X17.here hx rfl (hb hby d_prog_25_m_4_28) rfl ?_
      refine st18.trans ?_
      show Sx p e below T18 m 35 #[rv o, iv ix, iv 0, iv 2, iv 1] [(.ref pa1)] _
      refine st19 _ ?_
      refine st20.trans ?_
      refine XS.iloadN X20.here hx rfl (hb hby d_prog_25_m_4_41) rfl ?_
      show Sx p e below T20 m 42 #[rv o, iv ix, iv 0, iv 2, iv 1] [(.int ix), (.int sv1)] _
      exact kt
    by_cases hc42_22 : ix < sv1
    · have R23 : ∀ tg, Sx p e below T20 m 20 #[rv o, iv ix, iv 0, iv 1, iv 1] [(.int ((0 : Int32) + (1 : Int32)))] tg → Sx p e below T20 m 42 #[rv o, iv ix, iv 0, iv 2, iv 1] [(.int ix), (.int sv1)] tg := by
        intro tg kt
        refine XS.icmpYes X20.here hx rfl (pc0 := 42) (pc' := 53) rfl (hb hby d_prog_25_m_4_42) rfl (tlt hc42_22).2.2.1 (by decide) (by decide) ?_
        refine XS.iload X20.here hx rfl (hb hby d_prog_25_m_4_53) rfl ?_
        refine XS.istoreN X20.here hx rfl (hb hby d_prog_25_m_4_55) rfl (l' := #[rv o, iv ix, iv 0, iv 1, iv 1]) rfl ?_
        refine XS.goto X20.here hx rfl (pc0 := 56) (pc' := 12) rfl (hb hby d_prog_25_m_4_56) (by decide) (by decide) ?_
        refine XS.iloadN X20.here hx rfl (hb hby d_prog_25_m_4_12) rfl ?_
        show Sx p e below T20 m 13 #[rv o, iv ix, iv 0, iv 1, iv 1] [(.int 0)] _
        refine XS.iloadN X20.here hx rfl (hb hby d_prog_25_m_4_13) rfl ?_
        refine XS.icmpNo X20.here hx rfl (hb hby d_prog_25_m_4_14) rfl (tlt (by decide : (0 : Int32) < (1 : Int32))).2.1 ?_
        refine XS.iloadN X20.here hx rfl (hb hby d_prog_25_m_4_17) rfl ?_
        refine XS.iloadN X20.here hx rfl (hb hby d_prog_25_m_4_18) rfl ?_
        refine XS.iadd X20.here hx rfl (hb hby d_prog_25_m_4_19) rfl ?_
        show Sx p e below T20 m 20 #[rv o, iv ix, iv 0, iv 1, iv 1] [(.int ((0 : Int32) + (1 : Int32)))] _
        exact kt
      have R24 : ∀ tg, Sx p e below T20 m 20 #[rv o, iv ix, iv 0, iv 1, iv 1] [(.int 1)] tg → Sx p e below T20 m 20 #[rv o, iv ix, iv 0, iv 1, iv 1] [(.int ((0 : Int32) + (1 : Int32)))] tg := fun tg kt => by rw [(by decide : ((0 : Int32) + (1 : Int32)) = (1 : Int32))]; exact kt
      have R25 : ∀ tg, Sx p e below T20 m 22 #[rv o, iv ix, iv 0, iv 1, iv 1] [(.int (((1 : Int32).toUInt32 >>> ((1 : Int32) &&& 31).toUInt32).toInt32))] tg → Sx p e below T20 m 20 #[rv o, iv ix, iv 0, iv 1, iv 1] [(.int 1)] tg := by
        intro tg kt
        refine XS.iconst X20.here hx rfl (hb hby d_prog_25_m_4_20) ?_
        refine XS.iushr X20.here hx rfl (hb hby d_prog_25_m_4_21) rfl ?_
        show Sx p e below T20 m 22 #[rv o, iv ix, iv 0, iv 1, iv 1] [(.int (((1 : Int32).toUInt32 >>> ((1 : Int32) &&& 31).toUInt32).toInt32))] _
        exact kt
      have R26 : ∀ tg, Sx p e below T20 m 22 #[rv o, iv ix, iv 0, iv 1, iv 1] [(.int 0)] tg → Sx p e below T20 m 22 #[rv o, iv ix, iv 0, iv 1, iv 1] [(.int (((1 : Int32).toUInt32 >>> ((1 : Int32) &&& 31).toUInt32).toInt32))] tg := fun tg kt => by rw [(by decide : (((1 : Int32).toUInt32 >>> ((1 : Int32) &&& 31).toUInt32).toInt32) = (0 : Int32))]; exact kt
      obtain ⟨T27, X27, e27, st27⟩ := getF X20 hx hZ hown (host := "") (Or.inl (w_ hw 88 rfl)) Via.refl r20 hFp (g := (mkF m 25 #[rv o, iv ix, iv 0, iv 1, iv 0] [(.ref o)])) rfl rfl (hb hby d_prog_25_m_4_25)
      obtain ⟨cq28, kq28, q28a, q28b, q28c⟩ := isOf hZ e27 hLe
      obtain ⟨_, _, ⟨T28, L28, k28, n28⟩, -, X28, ⟨Lc28, hQ28, l28, y28, z28⟩, st28⟩ := X27.interfaceBack hx (xi := (⟨"java/util/List", "get", "(I)Ljava/lang/Object;"⟩ : MethodName)) (y := (⟨"java/util/ImmutableCollections$ListN", "get", "(I)Ljava/lang/Object;"⟩ : MethodName)) hown (mvT hZ (w_ hw 205 rfl)) (mvT hZ (w_ hw 206 rfl)) (mvT hZ (w_ hw 207 rfl)) (mvT hZ (w_ hw 208 rfl)) (mvT hZ (w_ hw 209 rfl)) (mvT hZ (w_ hw 210 rfl)) (mvT hZ (w_ hw 211 rfl)) (mvT hZ (w_ hw 110 rfl)) (by decide) (backOf (W := 0) (rmNg l Z a0 hw [] L ar pa0 kk (4 : Int32) (0 : Int32) [.ref pa0, .ref pa1, .ref pa2, .ref pa3] h0 n0 Z0 hLf hLv ⟨by decide, by decide⟩ rfl) hZ (w_ hw 212 rfl) (w_ hw 111 rfl) (by decide) (by decide)) q28a q28b q28c (g := (mkF m 30 #[rv o, iv ix, iv 0, iv 1, iv 0] [(.int 0), (.ref L)])) rfl (by rw [hml]; rfl) (Steps.refl _) (argsL := [(.int 0)]) (rest := []) (lenOf pd_14 rfl) rfl (by show 2 * 0 + _ ≤ _; exact Nat.le_of_eq rfl) (hb hby d_prog_25_m_4_30) (fun _ _ => ⟨rfl, e27, (by decide : 0 + 0 ≤ _), (by decide : 0 + 0 ≤ _)⟩)
      dsimp only [Pt.U, Pt.locs, Pt.cells, Pt.slots] at X28 l28 y28 z28 st28 hQ28
      subst l28 y28 z28
      obtain ⟨hv28, N28q, r28⟩ := hQ28
      subst hv28
      have N28 := Fr.app N20 N28q
      obtain ⟨T29, X29, e29, st29⟩ := castY X28 hx hZ hown (w_ hw 213 rfl) r28 (Ins.self hx0) (g := (mkF m 35 #[rv o, iv ix, iv 0, iv 1, iv 0] [(.ref pa0)])) rfl rfl (hb hby d_prog_25_m_4_35)
      obtain ⟨cq30, kq30, q30a, q30b, q30c⟩ := isOf hZ e29 hx0
      obtain ⟨_, _, ⟨T30, L30, k30, n30⟩, -, X30, ⟨Lc30, hQ30, l30, y30, z30⟩, st30⟩ := X29.virtualBack hx (y := (⟨"com/example/clausemap/clausemap/outline/Part", "start", "()I"⟩ : MethodName)) (z := (⟨"com/example/clausemap/clausemap/outline/Part", "start", "()I"⟩ : MethodName)) hown (mvT hZ (w_ hw 215 rfl)) (mvT hZ (w_ hw 216 rfl)) (notFace_of_selects (args := #[]) (mvT hZ (w_ hw 218 rfl))) (mvT hZ (w_ hw 218 rfl)) (mvT hZ (w_ hw 217 rfl)) (by decide) (backOf (W := 0) (rmPs l Z a0 hw [] pa0 sv0 h0 n0 Z0 hs0) hZ (w_ hw 219 rfl) (w_ hw 4 rfl) (by decide) (by decide)) q30a q30c (g := (mkF m 38 #[rv o, iv ix, iv 0, iv 1, iv 0] [(.ref pa0)])) rfl (by rw [hml]; rfl) (Steps.refl _) (argsL := []) (rest := []) (lenOf pd_13 rfl) rfl (by show 2 * 0 + _ ≤ _; exact Nat.le_of_eq rfl) (hb hby d_prog_25_m_4_38) (fun _ _ => ⟨rfl, e29, (by decide : 0 + 0 ≤ _), (by decide : 0 + 0 ≤ _)⟩)
      dsimp only [Pt.U, Pt.locs, Pt.cells, Pt.slots] at X30 l30 y30 z30 st30 hQ30
      subst l30 y30 z30
      obtain ⟨hv30, N30q, r30⟩ := hQ30
      subst hv30
      have N30 := Fr.app N28 N30q
      have R31 : ∀ tg, Sx p e below T30 m 42 #[rv o, iv ix, iv 0, iv 1, iv 0] [(.int ix), (.int sv0)] tg → Sx p e below T20 m 22 #[rv o, iv ix, iv 0, iv 1, iv 1] [(.int 0)] tg := by
        intro tg kt
        refine XS.istore X20.here hx rfl (hb hby d_prog_25_m_4_22) rfl (l' := #[rv o, iv ix, iv 0, iv 1, iv 0]) rfl ?_
        refine XS.aloadN X20.here hx rfl (hb hby d_prog_25_m_4_24) rfl rfl ?_
        refine st27 _ ?_
        refine XS.iload X27.here hx rfl (hb hby d_prog_25_m_4_28) rfl ?_
        refine st28.trans ?_
        show Sx p e below T28 m 35 #[rv o, iv ix, iv 0, iv 1, iv 0] [(.ref pa0)] _
        refine st29 _ ?_
        refine st30.trans ?_
        refine XS.iloadN X30.here hx rfl (hb hby d_prog_25_m_4_41) rfl ?_
        show Sx p e below T30 m 42 #[rv o, iv ix, iv 0, iv 1, iv 0] [(.int ix), (.int sv0)] _
        exact kt
      by_cases hc42_32 : ix < sv0
      · obtain ⟨fs, hr, hrun, hended, hW, hsame⟩ := X30.leave (v := some .null) (fun h => by rw [Bd.returns] at h; cases h)
        refine ⟨_, _, pre0 _ (R3 _ (R4 _ (R5 _ (R6 _ (R11 _ (R13 _ (R14 _ (R15 _ (R16 _ (R21 _ (R23 _ (R24 _ (R25 _ (R26 _ (R31 _ ?_))))))))))))))), hrun, hended, _, _, rfl, ?_, ⟨_, rfl⟩, hW, hsame.mono (by decide) (by decide)⟩
        · show Sx p e below T30 m 42 #[rv o, iv ix, iv 0, iv 1, iv 0] [(.int ix), (.int sv0)] _
          refine XS.icmpYes X30.here hx rfl (pc0 := 42) (pc' := 53) rfl (hb hby d_prog_25_m_4_42) rfl (tlt hc42_32).2.2.1 (by decide) (by decide) ?_
          refine XS.iload X30.here hx rfl (hb hby d_prog_25_m_4_53) rfl ?_
          refine XS.istoreN X30.here hx rfl (hb hby d_prog_25_m_4_55) rfl (l' := #[rv o, iv ix, iv 0, iv 0, iv 0]) rfl ?_
          refine XS.goto X30.here hx rfl (pc0 := 56) (pc' := 12) rfl (hb hby d_prog_25_m_4_56) (by decide) (by decide) ?_
          refine XS.iloadN X30.here hx rfl (hb hby d_prog_25_m_4_12) rfl ?_
          show Sx p e below T30 m 13 #[rv o, iv ix, iv 0, iv 0, iv 0] [(.int 0)] _
          refine XS.iloadN X30.here hx rfl (hb hby d_prog_25_m_4_13) rfl ?_
          refine XS.icmpYes X30.here hx rfl (pc0 := 14) (pc' := 59) rfl (hb hby d_prog_25_m_4_14) rfl (flt (by decide : ¬ ((0 : Int32) < (0 : Int32)))).2.1 (by decide) (by decide) ?_
          refine XS.iloadN X30.here hx rfl (hb hby d_prog_25_m_4_59) rfl ?_
          refine XS.ifNo X30.here hx rfl (hb hby d_prog_25_m_4_60) rfl ((if0 _ _).trans (teq (by decide : (0 : Int32) = (0 : Int32))).2) ?_
          refine XS.aconstNull X30.here hx rfl (hb hby d_prog_25_m_4_63) ?_
          show Sx p e below T30 m 64 #[rv o, iv ix, iv 0, iv 0, iv 0] [.null] _
          refine XS.goto X30.here hx rfl (pc0 := 64) (pc' := 82) rfl (hb hby d_prog_25_m_4_64) (by decide) (by decide) ?_
          show Sx p e below T30 m 82 #[rv o, iv ix, iv 0, iv 0, iv 0] [.null] _
          jvm_step X30.here [X30.here.top, hx, (hb hby d_prog_25_m_4_82), X30.method', Bd.returns, Value.isRef, FieldType.isReference]
          first | (intro acts; rw [hr _ acts rfl rfl rfl]) | rw [hr _ _ rfl rfl rfl]
          exact Steps.refl _
        · show QV (some (if ix < sv3 then (if ix < sv2 then (if ix < sv1 then (if ix < sv0 then .null else .ref pa0) else .ref pa1) else .ref pa2) else .ref pa3)) h0 n0 _ T30.heap _
          rw [r30]
          exact ⟨by rw [if_pos (Int32.lt_trans (Int32.lt_trans (Int32.lt_trans hc42_32 hlt0) hlt1) hlt2), if_pos (Int32.lt_trans (Int32.lt_trans hc42_32 hlt0) hlt1), if_pos (Int32.lt_trans hc42_32 hlt0), if_pos hc42_32], N30, rfl⟩
      · have R33 : ∀ tg, Sx p e below T30 m 49 #[rv o, iv ix, iv 0, iv 1, iv 0] [(.int ((0 : Int32) + (1 : Int32)))] tg → Sx p e below T30 m 42 #[rv o, iv ix, iv 0, iv 1, iv 0] [(.int ix), (.int sv0)] tg := by
          intro tg kt
          refine XS.icmpNo X30.here hx rfl (hb hby d_prog_25_m_4_42) rfl (flt hc42_32).2.2.1 ?_
          refine XS.iload X30.here hx rfl (hb hby d_prog_25_m_4_45) rfl ?_
          refine XS.iconst X30.here hx rfl (hb hby d_prog_25_m_4_47) ?_
          refine XS.iadd X30.here hx rfl (hb hby d_prog_25_m_4_48) rfl ?_
          show Sx p e below T30 m 49 #[rv o, iv ix, iv 0, iv 1, iv 0] [(.int ((0 : Int32) + (1 : Int32)))] _
          exact kt
        have R34 : ∀ tg, Sx p e below T30 m 49 #[rv o, iv ix, iv 0, iv 1, iv 0] [(.int 1)] tg → Sx p e below T30 m 49 #[rv o, iv ix, iv 0, iv 1, iv 0] [(.int ((0 : Int32) + (1 : Int32)))] tg := fun tg kt => by rw [(by decide : ((0 : Int32) + (1 : Int32)) = (1 : Int32))]; exact kt
        obtain ⟨T35, X35, e35, st35⟩ := getF X30 hx hZ hown (host := "") (Or.inl (w_ hw 88 rfl)) Via.refl r30 hFp (g := (mkF m 68 #[rv o, iv ix, iv 1, iv 1, iv 0] [(.ref o)])) rfl rfl (hb hby d_prog_25_m_4_68)
        have R36 : ∀ tg, Sx p e below T35 m 74 #[rv o, iv ix, iv 1, iv 1, iv 0] [(.int ((1 : Int32) - (1 : Int32))), (.ref L)] tg → Sx p e below T30 m 49 #[rv o, iv ix, iv 0, iv 1, iv 0] [(.int 1)] tg := by
          intro tg kt
          refine XS.istoreN X30.here hx rfl (hb hby d_prog_25_m_4_49) rfl (l' := #[rv o, iv ix, iv 1, iv 1, iv 0]) rfl ?_
          refine XS.goto X30.here hx rfl (pc0 := 50) (pc' := 56) rfl (hb hby d_prog_25_m_4_50) (by decide) (by decide) ?_
          refine XS.goto X30.here hx rfl (pc0 := 56) (pc' := 12) rfl (hb hby d_prog_25_m_4_56) (by decide) (by decide) ?_
          refine XS.iloadN X30.here hx rfl (hb hby d_prog_25_m_4_12) rfl ?_
          refine XS.iloadN X30.here hx rfl (hb hby d_prog_25_m_4_13) rfl ?_
          show Sx p e below T30 m 14 #[rv o, iv ix, iv 1, iv 1, iv 0] [(.int 1), (.int 1)] _
          refine XS.icmpYes X30.here hx rfl (pc0 := 14) (pc' := 59) rfl (hb hby d_prog_25_m_4_14) rfl (flt (by decide : ¬ ((1 : Int32) < (1 : Int32)))).2.1 (by decide) (by decide) ?_
          refine XS.iloadN X30.here hx rfl (hb hby d_prog_25_m_4_59) rfl ?_
          refine XS.ifYes X30.here hx rfl (pc0 := 60) (pc' := 67) rfl (hb hby d_prog_25_m_4_60) rfl ((if0 _ _).trans (feq (by decide : ¬ ((1 : Int32) = (0 : Int32)))).2) (by decide) (by decide) ?_
          refine XS.aloadN X30.here hx rfl (hb hby d_prog_25_m_4_67) rfl rfl ?_
          refine st35 _ ?_
          show Sx p e below T35 m 71 #[rv o, iv ix, iv 1, iv 1, iv 0] [(.ref L)] _
          refine XS.iloadN X35.here hx rfl (hb hby d_prog_25_m_4_71) rfl ?_
          refine XS.iconst X35.here hx rfl (hb hby d_prog_25_m_4_72) ?_
          refine XS.isub X35.here hx rfl (hb hby d_prog_25_m_4_73) rfl ?_
          show Sx p e below T35 m 74 #[rv o, iv ix, iv 1, iv 1, iv 0] [(.int ((1 : Int32) - (1 : Int32))), (.ref L)] _
          exact kt
        have R37 : ∀ tg, Sx p e below T35 m 74 #[rv o, iv ix, iv 1, iv 1, iv 0] [(.int 0), (.ref L)] tg → Sx p e below T35 m 74 #[rv o, iv ix, iv 1, iv 1, iv 0] [(.int ((1 : Int32) - (1 : Int32))), (.ref L)] tg := fun tg kt => by rw [(by decide : ((1 : Int32) - (1 : Int32)) = (0 : Int32))]; exact kt
        obtain ⟨cq38, kq38, q38a, q38b, q38c⟩ := isOf hZ e35 hLe
        obtain ⟨_, _, ⟨T38, L38, k38, n38⟩, -, X38, ⟨Lc38, hQ38, l38, y38, z38⟩, st38⟩ := X35.interfaceBack hx (xi := (⟨"java/util/List", "get", "(I)Ljava/lang/Object;"⟩ : MethodName)) (y := (⟨"java/util/ImmutableCollections$ListN", "get", "(I)Ljava/lang/Object;"⟩ : MethodName)) hown (mvT hZ (w_ hw 205 rfl)) (mvT hZ (w_ hw 206 rfl)) (mvT hZ (w_ hw 207 rfl)) (mvT hZ (w_ hw 208 rfl)) (mvT hZ (w_ hw 209 rfl)) (mvT hZ (w_ hw 210 rfl)) (mvT hZ (w_ hw 211 rfl)) (mvT hZ (w_ hw 110 rfl)) (by decide) (backOf (W := 0) (rmNg l Z a0 hw [] L ar pa0 kk (4 : Int32) (0 : Int32) [.ref pa0, .ref pa1, .ref pa2, .ref pa3] h0 n0 Z0 hLf hLv ⟨by decide, by decide⟩ rfl) hZ (w_ hw 212 rfl) (w_ hw 111 rfl) (by decide) (by decide)) q38a q38b q38c (g := (mkF m 74 #[rv o, iv ix, iv 1, iv 1, iv 0] [(.int 0), (.ref L)])) rfl (by rw [hml]; rfl) (Steps.refl _) (argsL := [(.int 0)]) (rest := []) (lenOf pd_14 rfl) rfl (by show 2 * 0 + _ ≤ _; exact Nat.le_of_eq rfl) (hb hby d_prog_25_m_4_74) (fun _ _ => ⟨rfl, e35, (by decide : 0 + 0 ≤ _), (by decide : 0 + 0 ≤ _)⟩)
        dsimp only [Pt.U, Pt.locs, Pt.cells, Pt.slots] at X38 l38 y38 z38 st38 hQ38
        subst l38 y38 z38
        obtain ⟨hv38, N38q, r38⟩ := hQ38
        subst hv38
        have N38 := Fr.app N30 N38q
        obtain ⟨T39, X39, e39, st39⟩ := castY X38 hx hZ hown (w_ hw 213 rfl) r38 (Ins.self hx0) (g := (mkF m 79 #[rv o, iv ix, iv 1, iv 1, iv 0] [(.ref pa0)])) rfl rfl (hb hby d_prog_25_m_4_79)
        obtain ⟨fs, hr, hrun, hended, hW, hsame⟩ := X39.leave (v := some (.ref pa0)) (fun h => by rw [Bd.returns] at h; cases h)
        refine ⟨_, _, pre0 _ (R3 _ (R4 _ (R5 _ (R6 _ (R11 _ (R13 _ (R14 _ (R15 _ (R16 _ (R21 _ (R23 _ (R24 _ (R25 _ (R26 _ (R31 _ (R33 _ (R34 _ (R36 _ (R37 _ ?_))))))))))))))))))), hrun, hended, _, _, rfl, ?_, ⟨_, rfl⟩, hW, hsame.mono (by decide) (by decide)⟩
        · show Sx p e below T35 m 74 #[rv o, iv ix, iv 1, iv 1, iv 0] [(.int 0), (.ref L)] _
          refine st38.trans ?_
          refine st39 _ ?_
          show Sx p e below T39 m 82 #[rv o, iv ix, iv 1, iv 1, iv 0] [(.ref pa0)] _
          jvm_step X39.here [X39.here.top, hx, (hb hby d_prog_25_m_4_82), X39.method', Bd.returns, Value.isRef, FieldType.isReference]
          first | (intro acts; rw [hr _ acts rfl rfl rfl]) | rw [hr _ _ rfl rfl rfl]
          exact Steps.refl _
        · show QV (some (if ix < sv3 then (if ix < sv2 then (if ix < sv1 then (if ix < sv0 then .null else .ref pa0) else .ref pa1) else .ref pa2) else .ref pa3)) h0 n0 _ T39.heap _
          rw [e39]
          exact ⟨by rw [if_pos (Int32.lt_trans (Int32.lt_trans hc42_22 hlt1) hlt2), if_pos (Int32.lt_trans hc42_22 hlt1), if_pos hc42_22, if_neg hc42_32], N38, rfl⟩
    · have R40 : ∀ tg, Sx p e below T20 m 49 #[rv o, iv ix, iv 0, iv 2, iv 1] [(.int ((1 : Int32) + (1 : Int32)))] tg → Sx p e below T20 m 42 #[rv o, iv ix, iv 0, iv 2, iv 1] [(.int ix), (.int sv1)] tg := by
        intro tg kt
        refine XS.icmpNo X20.here hx rfl (hb hby d_prog_25_m_4_42) rfl (flt hc42_22).2.2.1 ?_
        refine XS.iload X20.here hx rfl (hb hby d_prog_25_m_4_45) rfl ?_
        refine XS.iconst X20.here hx rfl (hb hby d_prog_25_m_4_47) ?_
        refine XS.iadd X20.here hx rfl (hb hby d_prog_25_m_4_48) rfl ?_
        show Sx p e below T20 m 49 #[rv o, iv ix, iv 0, iv 2, iv 1] [(.int ((1 : Int32) + (1 : Int32)))] _
        exact kt
      have R41 : ∀ tg, Sx p e below T20 m 49 #[rv o, iv ix, iv 0, iv 2, iv 1] [(.int 2)] tg → Sx p e below T20 m 49 #[rv o, iv ix, iv 0, iv 2, iv 1] [(.int ((1 : Int32) + (1 : Int32)))] tg := fun tg kt => by rw [(by decide : ((1 : Int32) + (1 : Int32)) = (2 : Int32))]; exact kt
      obtain ⟨T42, X42, e42, st42⟩ := getF X20 hx hZ hown (host := "") (Or.inl (w_ hw 88 rfl)) Via.refl r20 hFp (g := (mkF m 68 #[rv o, iv ix, iv 2, iv 2, iv 1] [(.ref o)])) rfl rfl (hb hby d_prog_25_m_4_68)
      have R43 : ∀ tg, Sx p e below T42 m 74 #[rv o, iv ix, iv 2, iv 2, iv 1] [(.int ((2 : Int32) - (1 : Int32))), (.ref L)] tg → Sx p e below T20 m 49 #[rv o, iv ix, iv 0, iv 2, iv 1] [(.int 2)] tg := by
        intro tg kt
        refine XS.istoreN X20.here hx rfl (hb hby d_prog_25_m_4_49) rfl (l' := #[rv o, iv ix, iv 2, iv 2, iv 1]) rfl ?_
        refine XS.goto X20.here hx rfl (pc0 := 50) (pc' := 56) rfl (hb hby d_prog_25_m_4_50) (by decide) (by decide) ?_
        refine XS.goto X20.here hx rfl (pc0 := 56) (pc' := 12) rfl (hb hby d_prog_25_m_4_56) (by decide) (by decide) ?_
        refine XS.iloadN X20.here hx rfl (hb hby d_prog_25_m_4_12) rfl ?_
        refine XS.iloadN X20.here hx rfl (hb hby d_prog_25_m_4_13) rfl ?_
        show Sx p e below T20 m 14 #[rv o, iv ix, iv 2, iv 2, iv 1] [(.int 2), (.int 2)] _
        refine XS.icmpYes X20.here hx rfl (pc0 := 14) (pc' := 59) rfl (hb hby d_prog_25_m_4_14) rfl (flt (by decide : ¬ ((2 : Int32) < (2 : Int32)))).2.1 (by decide) (by decide) ?_
        refine XS.iloadN X20.here hx rfl (hb hby d_prog_25_m_4_59) rfl ?_
        refine XS.ifYes X20.here hx rfl (pc0 := 60) (pc' := 67) rfl (hb hby d_prog_25_m_4_60) rfl ((if0 _ _).trans (feq (by decide : ¬ ((2 : Int32) = (0 : Int32)))).2) (by decide) (by decide) ?_
        refine XS.aloadN X20.here hx rfl (hb hby d_prog_25_m_4_67) rfl rfl ?_
        refine st42 _ ?_
        show Sx p e below T42 m 71 #[rv o, iv ix, iv 2, iv 2, iv 1] [(.ref L)] _
        refine XS.iloadN X42.here hx rfl (hb hby d_prog_25_m_4_71) rfl ?_
        refine XS.iconst X42.here hx rfl (hb hby d_prog_25_m_4_72) ?_
        refine XS.isub X42.here hx rfl (hb hby d_prog_25_m_4_73) rfl ?_
        show Sx p e below T42 m 74 #[rv o, iv ix, iv 2, iv 2, iv 1] [(.int ((2 : Int32) - (1 : Int32))), (.ref L)] _
        exact kt
      have R44 : ∀ tg, Sx p e below T42 m 74 #[rv o, iv ix, iv 2, iv 2, iv 1] [(.int 1), (.ref L)] tg → Sx p e below T42 m 74 #[rv o, iv ix, iv 2, iv 2, iv 1] [(.int ((2 : Int32) - (1 : Int32))), (.ref L)] tg := fun tg kt => by rw [(by decide : ((2 : Int32) - (1 : Int32)) = (1 : Int32))]; exact kt
      obtain ⟨cq45, kq45, q45a, q45b, q45c⟩ := isOf hZ e42 hLe
      obtain ⟨_, _, ⟨T45, L45, k45, n45⟩, -, X45, ⟨Lc45, hQ45, l45, y45, z45⟩, st45⟩ := X42.interfaceBack hx (xi := (⟨"java/util/List", "get", "(I)Ljava/lang/Object;"⟩ : MethodName)) (y := (⟨"java/util/ImmutableCollections$ListN", "get", "(I)Ljava/lang/Object;"⟩ : MethodName)) hown (mvT hZ (w_ hw 205 rfl)) (mvT hZ (w_ hw 206 rfl)) (mvT hZ (w_ hw 207 rfl)) (mvT hZ (w_ hw 208 rfl)) (mvT hZ (w_ hw 209 rfl)) (mvT hZ (w_ hw 210 rfl)) (mvT hZ (w_ hw 211 rfl)) (mvT hZ (w_ hw 110 rfl)) (by decide) (backOf (W := 0) (rmNg l Z a0 hw [] L ar pa1 kk (4 : Int32) (1 : Int32) [.ref pa0, .ref pa1, .ref pa2, .ref pa3] h0 n0 Z0 hLf hLv ⟨by decide, by decide⟩ rfl) hZ (w_ hw 212 rfl) (w_ hw 111 rfl) (by decide) (by decide)) q45a q45b q45c (g := (mkF m 74 #[rv o, iv ix, iv 2, iv 2, iv 1] [(.int 1), (.ref L)])) rfl (by rw [hml]; rfl) (Steps.refl _) (argsL := [(.int 1)]) (rest := []) (lenOf pd_14 rfl) rfl (by show 2 * 0 + _ ≤ _; exact Nat.le_of_eq rfl) (hb hby d_prog_25_m_4_74) (fun _ _ => ⟨rfl, e42, (by decide : 0 + 0 ≤ _), (by decide : 0 + 0 ≤ _)⟩)
      dsimp only [Pt.U, Pt.locs, Pt.cells, Pt.slots] at X45 l45 y45 z45 st45 hQ45
      subst l45 y45 z45
      obtain ⟨hv45, N45q, r45⟩ := hQ45
      subst hv45
      have N45 := Fr.app N20 N45q
      obtain ⟨T46, X46, e46, st46⟩ := castY X45 hx hZ hown (w_ hw 213 rfl) r45 (Ins.self hx1) (g := (mkF m 79 #[rv o, iv ix, iv 2, iv 2, iv 1] [(.ref pa1)])) rfl rfl (hb hby d_prog_25_m_4_79)
      obtain ⟨fs, hr, hrun, hended, hW, hsame⟩ := X46.leave (v := some (.ref pa1)) (fun h => by rw [Bd.returns] at h; cases h)
      refine ⟨_, _, pre0 _ (R3 _ (R4 _ (R5 _ (R6 _ (R11 _ (R13 _ (R14 _ (R15 _ (R16 _ (R21 _ (R40 _ (R41 _ (R43 _ (R44 _ ?_)))))))))))))), hrun, hended, _, _, rfl, ?_, ⟨_, rfl⟩, hW, hsame.mono (by decide) (by decide)⟩
      · show Sx p e below T42 m 74 #[rv o, iv ix, iv 2, iv 2, iv 1] [(.int 1), (.ref L)] _
        refine st45.trans ?_
        refine st46 _ ?_
        show Sx p e below T46 m 82 #[rv o, iv ix, iv 2, iv 2, iv 1] [(.ref pa1)] _
        jvm_step X46.here [X46.here.top, hx, (hb hby d_prog_25_m_4_82), X46.method', Bd.returns, Value.isRef, FieldType.isReference]
        first | (intro acts; rw [hr _ acts rfl rfl rfl]) | rw [hr _ _ rfl rfl rfl]
        exact Steps.refl _
      · show QV (some (if ix < sv3 then (if ix < sv2 then (if ix < sv1 then (if ix < sv0 then .null else .ref pa0) else .ref pa1) else .ref pa2) else .ref pa3)) h0 n0 _ T46.heap _
        rw [e46]
        exact ⟨by rw [if_pos (Int32.lt_trans hc42_12 hlt2), if_pos hc42_12, if_neg hc42_22], N45, rfl⟩
  · have R47 : ∀ tg, Sx p e below T10 m 49 #[rv o, iv ix, iv 0, iv 4, iv 2] [(.int ((2 : Int32) + (1 : Int32)))] tg → Sx p e below T10 m 42 #[rv o, iv ix, iv 0, iv 4, iv 2] [(.int ix), (.int sv2)] tg := by
      intro tg kt
      refine XS.icmpNo X10.here hx rfl (hb hby d_prog_25_m_4_42) rfl (flt hc42_12).2.2.1 ?_
      refine XS.iload X10.here hx rfl (hb hby d_prog_25_m_4_45) rfl ?_
      refine XS.iconst X10.here hx rfl (hb hby d_prog_25_m_4_47) ?_
      refine XS.iadd X10.here hx rfl (hb hby d_prog_25_m_4_48) rfl ?_
      show Sx p e below T10 m 49 #[rv o, iv ix, iv 0, iv 4, iv 2] [(.int ((2 : Int32) + (1 : Int32)))] _
      exact kt
    have R48 : ∀ tg, Sx p e below T10 m 49 #[rv o, iv ix, iv 0, iv 4, iv 2] [(.int 3)] tg → Sx p e below T10 m 49 #[rv o, iv ix, iv 0, iv 4, iv 2] [(.int ((2 : Int32) + (1 : Int32)))] tg := fun tg kt => by rw [(by decide : ((2 : Int32) + (1 : Int32)) = (3 : Int32))]; exact kt
    have R49 : ∀ tg, Sx p e below T10 m 20 #[rv o, iv ix, iv 3, iv 4, iv 2] [(.int ((3 : Int32) + (4 : Int32)))] tg → Sx p e below T10 m 49 #[rv o, iv ix, iv 0, iv 4, iv 2] [(.int 3)] tg := by
      intro tg kt
      refine XS.istoreN X10.here hx rfl (hb hby d_prog_25_m_4_49) rfl (l' := #[rv o, iv ix, iv 3, iv 4, iv 2]) rfl ?_
      refine XS.goto X10.here hx rfl (pc0 := 50) (pc' := 56) rfl (hb hby d_prog_25_m_4_50) (by decide) (by decide) ?_
      refine XS.goto X10.here hx rfl (pc0 := 56) (pc' := 12) rfl (hb hby d_prog_25_m_4_56) (by decide) (by decide) ?_
      refine XS.iloadN X10.here hx rfl (hb hby d_prog_25_m_4_12) rfl ?_
      refine XS.iloadN X10.here hx rfl (hb hby d_prog_25_m_4_13) rfl ?_
      show Sx p e below T10 m 14 #[rv o, iv ix, iv 3, iv 4, iv 2] [(.int 4), (.int 3)] _
      refine XS.icmpNo X10.here hx rfl (hb hby d_prog_25_m_4_14) rfl (tlt (by decide : (3 : Int32) < (4 : Int32))).2.1 ?_
      refine XS.iloadN X10.here hx rfl (hb hby d_prog_25_m_4_17) rfl ?_
      refine XS.iloadN X10.here hx rfl (hb hby d_prog_25_m_4_18) rfl ?_
      refine XS.iadd X10.here hx rfl (hb hby d_prog_25_m_4_19) rfl ?_
      show Sx p e below T10 m 20 #[rv o, iv ix, iv 3, iv 4, iv 2] [(.int ((3 : Int32) + (4 : Int32)))] _
      exact kt
    have R50 : ∀ tg, Sx p e below T10 m 20 #[rv o, iv ix, iv 3, iv 4, iv 2] [(.int 7)] tg → Sx p e below T10 m 20 #[rv o, iv ix, iv 3, iv 4, iv 2] [(.int ((3 : Int32) + (4 : Int32)))] tg := fun tg kt => by rw [(by decide : ((3 : Int32) + (4 : Int32)) = (7 : Int32))]; exact kt
    have R51 : ∀ tg, Sx p e below T10 m 22 #[rv o, iv ix, iv 3, iv 4, iv 2] [(.int (((7 : Int32).toUInt32 >>> ((1 : Int32) &&& 31).toUInt32).toInt32))] tg → Sx p e below T10 m 20 #[rv o, iv ix, iv 3, iv 4, iv 2] [(.int 7)] tg := by
      intro tg kt
      refine XS.iconst X10.here hx rfl (hb hby d_prog_25_m_4_20) ?_
      refine XS.iushr X10.here hx rfl (hb hby d_prog_25_m_4_21) rfl ?_
      show Sx p e below T10 m 22 #[rv o, iv ix, iv 3, iv 4, iv 2] [(.int (((7 : Int32).toUInt32 >>> ((1 : Int32) &&& 31).toUInt32).toInt32))] _
      exact kt
    have R52 : ∀ tg, Sx p e below T10 m 22 #[rv o, iv ix, iv 3, iv 4, iv 2] [(.int 3)] tg → Sx p e below T10 m 22 #[rv o, iv ix, iv 3, iv 4, iv 2] [(.int (((7 : Int32).toUInt32 >>> ((1 : Int32) &&& 31).toUInt32).toInt32))] tg := fun tg kt => by rw [(by decide : (((7 : Int32).toUInt32 >>> ((1 : Int32) &&& 31).toUInt32).toInt32) = (3 : Int32))]; exact kt
    obtain ⟨T53, X53, e53, st53⟩ := getF X10 hx hZ hown (host := "") (Or.inl (w_ hw 88 rfl)) Via.refl r10 hFp (g := (mkF m 25 #[rv o, iv ix, iv 3, iv 4, iv 3] [(.ref o)])) rfl rfl (hb hby d_prog_25_m_4_25)
    obtain ⟨cq54, kq54, q54a, q54b, q54c⟩ := isOf hZ e53 hLe
    obtain ⟨_, _, ⟨T54, L54, k54, n54⟩, -, X54, ⟨Lc54, hQ54, l54, y54, z54⟩, st54⟩ := X53.interfaceBack hx (xi := (⟨"java/util/List", "get", "(I)Ljava/lang/Object;"⟩ : MethodName)) (y := (⟨"java/util/ImmutableCollections$ListN", "get", "(I)Ljava/lang/Object;"⟩ : MethodName)) hown (mvT hZ (w_ hw 205 rfl)) (mvT hZ (w_ hw 206 rfl)) (mvT hZ (w_ hw 207 rfl)) (mvT hZ (w_ hw 208 rfl)) (mvT hZ (w_ hw 209 rfl)) (mvT hZ (w_ hw 210 rfl)) (mvT hZ (w_ hw 211 rfl)) (mvT hZ (w_ hw 110 rfl)) (by decide) (backOf (W := 0) (rmNg l Z a0 hw [] L ar pa3 kk (4 : Int32) (3 : Int32) [.ref pa0, .ref pa1, .ref pa2, .ref pa3] h0 n0 Z0 hLf hLv ⟨by decide, by decide⟩ rfl) hZ (w_ hw 212 rfl) (w_ hw 111 rfl) (by decide) (by decide)) q54a q54b q54c (g := (mkF m 30 #[rv o, iv ix, iv 3, iv 4, iv 3] [(.int 3), (.ref L)])) rfl (by rw [hml]; rfl) (Steps.refl _) (argsL := [(.int 3)]) (rest := []) (lenOf pd_14 rfl) rfl (by show 2 * 0 + _ ≤ _; exact Nat.le_of_eq rfl) (hb hby d_prog_25_m_4_30) (fun _ _ => ⟨rfl, e53, (by decide : 0 + 0 ≤ _), (by decide : 0 + 0 ≤ _)⟩)
    dsimp only [Pt.U, Pt.locs, Pt.cells, Pt.slots] at X54 l54 y54 z54 st54 hQ54
    subst l54 y54 z54
    obtain ⟨hv54, N54q, r54⟩ := hQ54
    subst hv54
    have N54 := Fr.app N10 N54q
    obtain ⟨T55, X55, e55, st55⟩ := castY X54 hx hZ hown (w_ hw 213 rfl) r54 (Ins.self hx3) (g := (mkF m 35 #[rv o, iv ix, iv 3, iv 4, iv 3] [(.ref pa3)])) rfl rfl (hb hby d_prog_25_m_4_35)
    obtain ⟨cq56, kq56, q56a, q56b, q56c⟩ := isOf hZ e55 hx3
    obtain ⟨_, _, ⟨T56, L56, k56, n56⟩, -, X56, ⟨Lc56, hQ56, l56, y56, z56⟩, st56⟩ := X55.virtualBack hx (y := (⟨"com/example/clausemap/clausemap/outline/Part", "start", "()I"⟩ : MethodName)) (z := (⟨"com/example/clausemap/clausemap/outline/Part", "start", "()I"⟩ : MethodName)) hown (mvT hZ (w_ hw 215 rfl)) (mvT hZ (w_ hw 216 rfl)) (notFace_of_selects (args := #[]) (mvT hZ (w_ hw 218 rfl))) (mvT hZ (w_ hw 218 rfl)) (mvT hZ (w_ hw 217 rfl)) (by decide) (backOf (W := 0) (rmPs l Z a0 hw [] pa3 sv3 h0 n0 Z0 hs3) hZ (w_ hw 219 rfl) (w_ hw 4 rfl) (by decide) (by decide)) q56a q56c (g := (mkF m 38 #[rv o, iv ix, iv 3, iv 4, iv 3] [(.ref pa3)])) rfl (by rw [hml]; rfl) (Steps.refl _) (argsL := []) (rest := []) (lenOf pd_13 rfl) rfl (by show 2 * 0 + _ ≤ _; exact Nat.le_of_eq rfl) (hb hby d_prog_25_m_4_38) (fun _ _ => ⟨rfl, e55, (by decide : 0 + 0 ≤ _), (by decide : 0 + 0 ≤ _)⟩)
    dsimp only [Pt.U, Pt.locs, Pt.cells, Pt.slots] at X56 l56 y56 z56 st56 hQ56
    subst l56 y56 z56
    obtain ⟨hv56, N56q, r56⟩ := hQ56
    subst hv56
    have N56 := Fr.app N54 N56q
    have R57 : ∀ tg, Sx p e below T56 m 42 #[rv o, iv ix, iv 3, iv 4, iv 3] [(.int ix), (.int sv3)] tg → Sx p e below T10 m 22 #[rv o, iv ix, iv 3, iv 4, iv 2] [(.int 3)] tg := by
      intro tg kt
      refine XS.istore X10.here hx rfl (hb hby d_prog_25_m_4_22) rfl (l' := #[rv o, iv ix, iv 3, iv 4, iv 3]) rfl ?_
      refine XS.aloadN X10.here hx rfl (hb hby d_prog_25_m_4_24) rfl rfl ?_
      refine st53 _ ?_
      refine XS.iload X53.here hx rfl (hb hby d_prog_25_m_4_28) rfl ?_
      refine st54.trans ?_
      show Sx p e below T54 m 35 #[rv o, iv ix, iv 3, iv 4, iv 3] [(.ref pa3)] _
      refine st55 _ ?_
      refine st56.trans ?_
      refine XS.iloadN X56.here hx rfl (hb hby d_prog_25_m_4_41) rfl ?_
      show Sx p e below T56 m 42 #[rv o, iv ix, iv 3, iv 4, iv 3] [(.int ix), (.int sv3)] _
      exact kt
    by_cases hc42_58 : ix < sv3
    · obtain ⟨T59, X59, e59, st59⟩ := getF X56 hx hZ hown (host := "") (Or.inl (w_ hw 88 rfl)) Via.refl r56 hFp (g := (mkF m 68 #[rv o, iv ix, iv 3, iv 3, iv 3] [(.ref o)])) rfl rfl (hb hby d_prog_25_m_4_68)
      have R60 : ∀ tg, Sx p e below T59 m 74 #[rv o, iv ix, iv 3, iv 3, iv 3] [(.int ((3 : Int32) - (1 : Int32))), (.ref L)] tg → Sx p e below T56 m 42 #[rv o, iv ix, iv 3, iv 4, iv 3] [(.int ix), (.int sv3)] tg := by
        intro tg kt
        refine XS.icmpYes X56.here hx rfl (pc0 := 42) (pc' := 53) rfl (hb hby d_prog_25_m_4_42) rfl (tlt hc42_58).2.2.1 (by decide) (by decide) ?_
        refine XS.iload X56.here hx rfl (hb hby d_prog_25_m_4_53) rfl ?_
        refine XS.istoreN X56.here hx rfl (hb hby d_prog_25_m_4_55) rfl (l' := #[rv o, iv ix, iv 3, iv 3, iv 3]) rfl ?_
        refine XS.goto X56.here hx rfl (pc0 := 56) (pc' := 12) rfl (hb hby d_prog_25_m_4_56) (by decide) (by decide) ?_
        refine XS.iloadN X56.here hx rfl (hb hby d_prog_25_m_4_12) rfl ?_
        show Sx p e below T56 m 13 #[rv o, iv ix, iv 3, iv 3, iv 3] [(.int 3)] _
        refine XS.iloadN X56.here hx rfl (hb hby d_prog_25_m_4_13) rfl ?_
        refine XS.icmpYes X56.here hx rfl (pc0 := 14) (pc' := 59) rfl (hb hby d_prog_25_m_4_14) rfl (flt (by decide : ¬ ((3 : Int32) < (3 : Int32)))).2.1 (by decide) (by decide) ?_
        refine XS.iloadN X56.here hx rfl (hb hby d_prog_25_m_4_59) rfl ?_
        refine XS.ifYes X56.here hx rfl (pc0 := 60) (pc' := 67) rfl (hb hby d_prog_25_m_4_60) rfl ((if0 _ _).trans (feq (by decide : ¬ ((3 : Int32) = (0 : Int32)))).2) (by decide) (by decide) ?_
        refine XS.aloadN X56.here hx rfl (hb hby d_prog_25_m_4_67) rfl rfl ?_
        show Sx p e below T56 m 68 #[rv o, iv ix, iv 3, iv 3, iv 3] [(.ref o)] _
        refine st59 _ ?_
        refine XS.iloadN X59.here hx rfl (hb hby d_prog_25_m_4_71) rfl ?_
        refine XS.iconst X59.here hx rfl (hb hby d_prog_25_m_4_72) ?_
        refine XS.isub X59.here hx rfl (hb hby d_prog_25_m_4_73) rfl ?_
        show Sx p e below T59 m 74 #[rv o, iv ix, iv 3, iv 3, iv 3] [(.int ((3 : Int32) - (1 : Int32))), (.ref L)] _
        exact kt
      have R61 : ∀ tg, Sx p e below T59 m 74 #[rv o, iv ix, iv 3, iv 3, iv 3] [(.int 2), (.ref L)] tg → Sx p e below T59 m 74 #[rv o, iv ix, iv 3, iv 3, iv 3] [(.int ((3 : Int32) - (1 : Int32))), (.ref L)] tg := fun tg kt => by rw [(by decide : ((3 : Int32) - (1 : Int32)) = (2 : Int32))]; exact kt
      obtain ⟨cq62, kq62, q62a, q62b, q62c⟩ := isOf hZ e59 hLe
      obtain ⟨_, _, ⟨T62, L62, k62, n62⟩, -, X62, ⟨Lc62, hQ62, l62, y62, z62⟩, st62⟩ := X59.interfaceBack hx (xi := (⟨"java/util/List", "get", "(I)Ljava/lang/Object;"⟩ : MethodName)) (y := (⟨"java/util/ImmutableCollections$ListN", "get", "(I)Ljava/lang/Object;"⟩ : MethodName)) hown (mvT hZ (w_ hw 205 rfl)) (mvT hZ (w_ hw 206 rfl)) (mvT hZ (w_ hw 207 rfl)) (mvT hZ (w_ hw 208 rfl)) (mvT hZ (w_ hw 209 rfl)) (mvT hZ (w_ hw 210 rfl)) (mvT hZ (w_ hw 211 rfl)) (mvT hZ (w_ hw 110 rfl)) (by decide) (backOf (W := 0) (rmNg l Z a0 hw [] L ar pa2 kk (4 : Int32) (2 : Int32) [.ref pa0, .ref pa1, .ref pa2, .ref pa3] h0 n0 Z0 hLf hLv ⟨by decide, by decide⟩ rfl) hZ (w_ hw 212 rfl) (w_ hw 111 rfl) (by decide) (by decide)) q62a q62b q62c (g := (mkF m 74 #[rv o, iv ix, iv 3, iv 3, iv 3] [(.int 2), (.ref L)])) rfl (by rw [hml]; rfl) (Steps.refl _) (argsL := [(.int 2)]) (rest := []) (lenOf pd_14 rfl) rfl (by show 2 * 0 + _ ≤ _; exact Nat.le_of_eq rfl) (hb hby d_prog_25_m_4_74) (fun _ _ => ⟨rfl, e59, (by decide : 0 + 0 ≤ _), (by decide : 0 + 0 ≤ _)⟩)
      dsimp only [Pt.U, Pt.locs, Pt.cells, Pt.slots] at X62 l62 y62 z62 st62 hQ62
      subst l62 y62 z62
      obtain ⟨hv62, N62q, r62⟩ := hQ62
      subst hv62
      have N62 := Fr.app N56 N62q
      obtain ⟨T63, X63, e63, st63⟩ := castY X62 hx hZ hown (w_ hw 213 rfl) r62 (Ins.self hx2) (g := (mkF m 79 #[rv o, iv ix, iv 3, iv 3, iv 3] [(.ref pa2)])) rfl rfl (hb hby d_prog_25_m_4_79)
      obtain ⟨fs, hr, hrun, hended, hW, hsame⟩ := X63.leave (v := some (.ref pa2)) (fun h => by rw [Bd.returns] at h; cases h)
      refine ⟨_, _, pre0 _ (R3 _ (R4 _ (R5 _ (R6 _ (R11 _ (R47 _ (R48 _ (R49 _ (R50 _ (R51 _ (R52 _ (R57 _ (R60 _ (R61 _ ?_)))))))))))))), hrun, hended, _, _, rfl, ?_, ⟨_, rfl⟩, hW, hsame.mono (by decide) (by decide)⟩
      · show Sx p e below T59 m 74 #[rv o, iv ix, iv 3, iv 3, iv 3] [(.int 2), (.ref L)] _
        refine st62.trans ?_
        refine st63 _ ?_
        show Sx p e below T63 m 82 #[rv o, iv ix, iv 3, iv 3, iv 3] [(.ref pa2)] _
        jvm_step X63.here [X63.here.top, hx, (hb hby d_prog_25_m_4_82), X63.method', Bd.returns, Value.isRef, FieldType.isReference]
        first | (intro acts; rw [hr _ acts rfl rfl rfl]) | rw [hr _ _ rfl rfl rfl]
        exact Steps.refl _
      · show QV (some (if ix < sv3 then (if ix < sv2 then (if ix < sv1 then (if ix < sv0 then .null else .ref pa0) else .ref pa1) else .ref pa2) else .ref pa3)) h0 n0 _ T63.heap _
        rw [e63]
        exact ⟨by rw [if_pos hc42_58, if_neg hc42_12], N62, rfl⟩
    · have R64 : ∀ tg, Sx p e below T56 m 49 #[rv o, iv ix, iv 3, iv 4, iv 3] [(.int ((3 : Int32) + (1 : Int32)))] tg → Sx p e below T56 m 42 #[rv o, iv ix, iv 3, iv 4, iv 3] [(.int ix), (.int sv3)] tg := by
        intro tg kt
        refine XS.icmpNo X56.here hx rfl (hb hby d_prog_25_m_4_42) rfl (flt hc42_58).2.2.1 ?_
        refine XS.iload X56.here hx rfl (hb hby d_prog_25_m_4_45) rfl ?_
        refine XS.iconst X56.here hx rfl (hb hby d_prog_25_m_4_47) ?_
        refine XS.iadd X56.here hx rfl (hb hby d_prog_25_m_4_48) rfl ?_
        show Sx p e below T56 m 49 #[rv o, iv ix, iv 3, iv 4, iv 3] [(.int ((3 : Int32) + (1 : Int32)))] _
        exact kt
      have R65 : ∀ tg, Sx p e below T56 m 49 #[rv o, iv ix, iv 3, iv 4, iv 3] [(.int 4)] tg → Sx p e below T56 m 49 #[rv o, iv ix, iv 3, iv 4, iv 3] [(.int ((3 : Int32) + (1 : Int32)))] tg := fun tg kt => by rw [(by decide : ((3 : Int32) + (1 : Int32)) = (4 : Int32))]; exact kt
      obtain ⟨T66, X66, e66, st66⟩ := getF X56 hx hZ hown (host := "") (Or.inl (w_ hw 88 rfl)) Via.refl r56 hFp (g := (mkF m 68 #[rv o, iv ix, iv 4, iv 4, iv 3] [(.ref o)])) rfl rfl (hb hby d_prog_25_m_4_68)
      have R67 : ∀ tg, Sx p e below T66 m 74 #[rv o, iv ix, iv 4, iv 4, iv 3] [(.int ((4 : Int32) - (1 : Int32))), (.ref L)] tg → Sx p e below T56 m 49 #[rv o, iv ix, iv 3, iv 4, iv 3] [(.int 4)] tg := by
        intro tg kt
        refine XS.istoreN X56.here hx rfl (hb hby d_prog_25_m_4_49) rfl (l' := #[rv o, iv ix, iv 4, iv 4, iv 3]) rfl ?_
        refine XS.goto X56.here hx rfl (pc0 := 50) (pc' := 56) rfl (hb hby d_prog_25_m_4_50) (by decide) (by decide) ?_
        refine XS.goto X56.here hx rfl (pc0 := 56) (pc' := 12) rfl (hb hby d_prog_25_m_4_56) (by decide) (by decide) ?_
        refine XS.iloadN X56.here hx rfl (hb hby d_prog_25_m_4_12) rfl ?_
        refine XS.iloadN X56.here hx rfl (hb hby d_prog_25_m_4_13) rfl ?_
        show Sx p e below T56 m 14 #[rv o, iv ix, iv 4, iv 4, iv 3] [(.int 4), (.int 4)] _
        refine XS.icmpYes X56.here hx rfl (pc0 := 14) (pc' := 59) rfl (hb hby d_prog_25_m_4_14) rfl (flt (by decide : ¬ ((4 : Int32) < (4 : Int32)))).2.1 (by decide) (by decide) ?_
        refine XS.iloadN X56.here hx rfl (hb hby d_prog_25_m_4_59) rfl ?_
        refine XS.ifYes X56.here hx rfl (pc0 := 60) (pc' := 67) rfl (hb hby d_prog_25_m_4_60) rfl ((if0 _ _).trans (feq (by decide : ¬ ((4 : Int32) = (0 : Int32)))).2) (by decide) (by decide) ?_
        refine XS.aloadN X56.here hx rfl (hb hby d_prog_25_m_4_67) rfl rfl ?_
        refine st66 _ ?_
        show Sx p e below T66 m 71 #[rv o, iv ix, iv 4, iv 4, iv 3] [(.ref L)] _
        refine XS.iloadN X66.here hx rfl (hb hby d_prog_25_m_4_71) rfl ?_
        refine XS.iconst X66.here hx rfl (hb hby d_prog_25_m_4_72) ?_
        refine XS.isub X66.here hx rfl (hb hby d_prog_25_m_4_73) rfl ?_
        show Sx p e below T66 m 74 #[rv o, iv ix, iv 4, iv 4, iv 3] [(.int ((4 : Int32) - (1 : Int32))), (.ref L)] _
        exact kt
      have R68 : ∀ tg, Sx p e below T66 m 74 #[rv o, iv ix, iv 4, iv 4, iv 3] [(.int 3), (.ref L)] tg → Sx p e below T66 m 74 #[rv o, iv ix, iv 4, iv 4, iv 3] [(.int ((4 : Int32) - (1 : Int32))), (.ref L)] tg := fun tg kt => by rw [(by decide : ((4 : Int32) - (1 : Int32)) = (3 : Int32))]; exact kt
      obtain ⟨cq69, kq69, q69a, q69b, q69c⟩ := isOf hZ e66 hLe
      obtain ⟨_, _, ⟨T69, L69, k69, n69⟩, -, X69, ⟨Lc69, hQ69, l69, y69, z69⟩, st69⟩ := X66.interfaceBack hx (xi := (⟨"java/util/List", "get", "(I)Ljava/lang/Object;"⟩ : MethodName)) (y := (⟨"java/util/ImmutableCollections$ListN", "get", "(I)Ljava/lang/Object;"⟩ : MethodName)) hown (mvT hZ (w_ hw 205 rfl)) (mvT hZ (w_ hw 206 rfl)) (mvT hZ (w_ hw 207 rfl)) (mvT hZ (w_ hw 208 rfl)) (mvT hZ (w_ hw 209 rfl)) (mvT hZ (w_ hw 210 rfl)) (mvT hZ (w_ hw 211 rfl)) (mvT hZ (w_ hw 110 rfl)) (by decide) (backOf (W := 0) (rmNg l Z a0 hw [] L ar pa3 kk (4 : Int32) (3 : Int32) [.ref pa0, .ref pa1, .ref pa2, .ref pa3] h0 n0 Z0 hLf hLv ⟨by decide, by decide⟩ rfl) hZ (w_ hw 212 rfl) (w_ hw 111 rfl) (by decide) (by decide)) q69a q69b q69c (g := (mkF m 74 #[rv o, iv ix, iv 4, iv 4, iv 3] [(.int 3), (.ref L)])) rfl (by rw [hml]; rfl) (Steps.refl _) (argsL := [(.int 3)]) (rest := []) (lenOf pd_14 rfl) rfl (by show 2 * 0 + _ ≤ _; exact Nat.le_of_eq rfl) (hb hby d_prog_25_m_4_74) (fun _ _ => ⟨rfl, e66, (by decide : 0 + 0 ≤ _), (by decide : 0 + 0 ≤ _)⟩)
      dsimp only [Pt.U, Pt.locs, Pt.cells, Pt.slots] at X69 l69 y69 z69 st69 hQ69
      subst l69 y69 z69
      obtain ⟨hv69, N69q, r69⟩ := hQ69
      subst hv69
      have N69 := Fr.app N56 N69q
      obtain ⟨T70, X70, e70, st70⟩ := castY X69 hx hZ hown (w_ hw 213 rfl) r69 (Ins.self hx3) (g := (mkF m 79 #[rv o, iv ix, iv 4, iv 4, iv 3] [(.ref pa3)])) rfl rfl (hb hby d_prog_25_m_4_79)
      obtain ⟨fs, hr, hrun, hended, hW, hsame⟩ := X70.leave (v := some (.ref pa3)) (fun h => by rw [Bd.returns] at h; cases h)
      refine ⟨_, _, pre0 _ (R3 _ (R4 _ (R5 _ (R6 _ (R11 _ (R47 _ (R48 _ (R49 _ (R50 _ (R51 _ (R52 _ (R57 _ (R64 _ (R65 _ (R67 _ (R68 _ ?_)))))))))))))))), hrun, hended, _, _, rfl, ?_, ⟨_, rfl⟩, hW, hsame.mono (by decide) (by decide)⟩
      · show Sx p e below T66 m 74 #[rv o, iv ix, iv 4, iv 4, iv 3] [(.int 3), (.ref L)] _
        refine st69.trans ?_
        refine st70 _ ?_
        show Sx p e below T70 m 82 #[rv o, iv ix, iv 4, iv 4, iv 3] [(.ref pa3)] _
        jvm_step X70.here [X70.here.top, hx, (hb hby d_prog_25_m_4_82), X70.method', Bd.returns, Value.isRef, FieldType.isReference]
        first | (intro acts; rw [hr _ acts rfl rfl rfl]) | rw [hr _ _ rfl rfl rfl]
        exact Steps.refl _
      · show QV (some (if ix < sv3 then (if ix < sv2 then (if ix < sv1 then (if ix < sv0 then .null else .ref pa0) else .ref pa1) else .ref pa2) else .ref pa3)) h0 n0 _ T70.heap _
        rw [e70]
        exact ⟨by rw [if_neg hc42_58], N69, rfl⟩
theorem ef_rm0 (m : MethodId) (x0 : Int32) (x1 : Int32) (x2 : Int32) (x3 : Int32) (x4 : Int32) : entryFrame m #[(.int x0), (.int x1), (.int x2), (.int x3), (.int x4)] maxLocals = mkF m 0 #[iv x0, iv x1, iv x2, iv x3, iv x4, u_, u_, u_, u_, u_, u_, u_, u_, u_, u_, u_, u_, u_, u_, u_, u_, u_, u_, u_, u_, u_, u_, u_, u_, u_, u_, u_] [] := by first | (simp [entryFrame, mkF, argsToLocals, Value.category, maxLocals]; done) | rfl
set_option maxRecDepth 65536 in
set_option maxHeartbeats 40000000 in
theorem rm0 (l : Launch) (Z : State) (a0 : Array Value) (hw : ∀ d ∈ tables_1, d.before a0 Z = true) (ws : List Jvm.Cond) (pn ps pg pi pl : Int32) (dc el em : Addr) (kd : ClassId) (h0 : Heap) (n0 : Nat) (Z0 : n0 ≤ h0.size) (hO1 : Old Z n0 h0) (hSd : Sta Z Z.heap "java/util/ArrayList" "DEFAULTCAPACITY_EMPTY_ELEMENTDATA" "[Ljava/lang/Object;" (.ref dc)) (hAd : Arv Z Z.heap dc kd (.object "java/lang/Object") (0 : Int32) [] .null) (hSl : Sta Z Z.heap "java/util/ImmutableCollections" "EMPTY_LIST" "Ljava/util/ImmutableCollections$ListN;" (.ref el)) (hLV0 : LVN Z Z.heap el 0 []) (hSe : Sta Z Z.heap "java/util/ImmutableCollections" "EMPTY" "Ljava/lang/Object;" (.ref em)) (hEm : Exa Z Z.heap em "java/lang/Object") (hM : ∃ (c : ClassId) (k : Class) (m : Addr), Z.vm.findClass "[Ljava/lang/Object;" = some c ∧ Z.vm.classes[c]? = some k ∧ k.mirror = some m) :
    MetFree l x (head1 (Jvm.Cond.code x code maxLocals ret :: ws) room_1) (fun aa_ UU_ => aa_ = #[(.int pn), (.int ps), (.int pg), (.int pi), (.int pl)] ∧ Z.Warmed39 UU_.vm ∧ UU_.heap = h0) (fun _ _ _ _ _ => True) (fun _ UU_ oo_ UE_ => ∃ vv_ LL_, oo_ = .returned vv_ ∧ Q0 n0 vv_ UE_.heap LL_ ∧ FrameEnd UU_ oo_ UE_ LL_ room_1.cells room_1.slots) := by
  refine MetFree.of_bodySF (plainFor_of_name pn_13) hisR ?_
  intro p e s m args below meth c s₁ Bd hml0 hP hK
  obtain ⟨rfl, hZ, hh⟩ := hP
  have hx := Bd.exec
  have hby := Bd.bytes
  have hml : c.maxLocals = 32 := hml0
  have hown : s.vm.findClass "com/example/clausemap/clausemap/outline/OutlinePartAtPinLaw" = some m.cls := findClass_of_methodNamed Bd.named
  have hnm := (name_of_methodNamed Bd.named Bd.method).1
  have X0 : Stand p l e room_1 s m #[(.int pn), (.int ps), (.int pg), (.int pi), (.int pl)] below meth c s₁ [] 0 0 := Stand.of_body Bd
  have e0 : s₁.heap = h0 := by rw [← hh, Bd.state]; rfl
  have N0 := Fr.nil n0
  have pre0 : ∀ tg, Steps p.tables e below (s₁.setTop (mkF m 0 #[iv pn, iv ps, iv pg, iv pi, iv pl, u_, u_, u_, u_, u_, u_, u_, u_, u_, u_, u_, u_, u_, u_, u_, u_, u_, u_, u_, u_, u_, u_, u_, u_, u_, u_, u_] [])) tg → Steps p.tables e below (s₁.setTop (entryFrame m #[(.int pn), (.int ps), (.int pg), (.int pi), (.int pl)] maxLocals)) tg := fun tg kq_ => castTop (ef_rm0 m pn ps pg pi pl) kq_
  obtain ⟨l0, hl0⟩ : ∃ z, z = (ps.toInt64) := ⟨_, rfl⟩
  have R1 : ∀ tg, Sx p e below s₁ m 12 #[iv pn, iv ps, iv pg, iv pi, iv pl, iv ((pn &&& (2147483647 : Int32)) % (5 : Int32)), jv_ (ps.toInt64), s_, u_, u_, u_, u_, u_, u_, u_, u_, u_, u_, u_, u_, u_, u_, u_, u_, u_, u_, u_, u_, u_, u_, u_, u_] [] tg → Sx p e below s₁ m 0 #[iv pn, iv ps, iv pg, iv pi, iv pl, u_, u_, u_, u_, u_, u_, u_, u_, u_, u_, u_, u_, u_, u_, u_, u_, u_, u_, u_, u_, u_, u_, u_, u_, u_, u_, u_] [] tg := by
    intro tg kt
    refine XS.iloadN X0.here hx rfl (hb hby at_0) rfl ?_
    refine X0.ldcInt hx hown (mvT hZ (w_ hw 0 rfl)) (g := (mkF m 1 #[iv pn, iv ps, iv pg, iv pi, iv pl, u_, u_, u_, u_, u_, u_, u_, u_, u_, u_, u_, u_, u_, u_, u_, u_, u_, u_, u_, u_, u_, u_, u_, u_, u_, u_, u_] [(.int pn)])) rfl (hb hby at_1) _ ?_
    refine XS.iand X0.here hx rfl (hb hby at_3) rfl ?_
    refine XS.iconst X0.here hx rfl (hb hby at_4) ?_
    refine iremM (g := (mkF m 5 #[iv pn, iv ps, iv pg, iv pi, iv pl, u_, u_, u_, u_, u_, u_, u_, u_, u_, u_, u_, u_, u_, u_, u_, u_, u_, u_, u_, u_, u_, u_, u_, u_, u_, u_, u_] [(.int 5), (.int (pn &&& (2147483647 : Int32)))])) X0 hx rfl (hb hby at_5) rfl (by decide) ?_
    show Sx p e below s₁ m 6 #[iv pn, iv ps, iv pg, iv pi, iv pl, u_, u_, u_, u_, u_, u_, u_, u_, u_, u_, u_, u_, u_, u_, u_, u_, u_, u_, u_, u_, u_, u_, u_, u_, u_, u_, u_] [(.int ((pn &&& (2147483647 : Int32)) % (5 : Int32)))] _
    refine XS.istore X0.here hx rfl (hb hby at_6) rfl (l' := #[iv pn, iv ps, iv pg, iv pi, iv pl, iv ((pn &&& (2147483647 : Int32)) % (5 : Int32)), u_, u_, u_, u_, u_, u_, u_, u_, u_, u_, u_, u_, u_, u_, u_, u_, u_, u_, u_, u_, u_, u_, u_, u_, u_, u_]) rfl ?_
    refine XS.iloadN X0.here hx rfl (hb hby at_8) rfl ?_
    refine XS.i2l X0.here hx rfl (hb hby at_9) rfl ?_
    refine XS.lstore X0.here hx rfl (hb hby at_10) rfl (l' := #[iv pn, iv ps, iv pg, iv pi, iv pl, iv ((pn &&& (2147483647 : Int32)) % (5 : Int32)), jv_ (ps.toInt64), s_, u_, u_, u_, u_, u_, u_, u_, u_, u_, u_, u_, u_, u_, u_, u_, u_, u_, u_, u_, u_, u_, u_, u_, u_]) rfl ?_
    show Sx p e below s₁ m 12 #[iv pn, iv ps, iv pg, iv pi, iv pl, iv ((pn &&& (2147483647 : Int32)) % (5 : Int32)), jv_ (ps.toInt64), s_, u_, u_, u_, u_, u_, u_, u_, u_, u_, u_, u_, u_, u_, u_, u_, u_, u_, u_, u_, u_, u_, u_, u_, u_] [] _
    exact kt
  have R2 : ∀ tg, Sx p e below s₁ m 12 #[iv pn, iv ps, iv pg, iv pi, iv pl, iv ((pn &&& (2147483647 : Int32)) % (5 : Int32)), jv_ l0, s_, u_, u_, u_, u_, u_, u_, u_, u_, u_, u_, u_, u_, u_, u_, u_, u_, u_, u_, u_, u_, u_, u_, u_, u_] [] tg → Sx p e below s₁ m 12 #[iv pn, iv ps, iv pg, iv pi, iv pl, iv ((pn &&& (2147483647 : Int32)) % (5 : Int32)), jv_ (ps.toInt64), s_, u_, u_, u_, u_, u_, u_, u_, u_, u_, u_, u_, u_, u_, u_, u_, u_, u_, u_, u_, u_, u_, u_, u_, u_] [] tg := fun tg kt => by rw [← hl0]; exact kt
  obtain ⟨l1, hl1⟩ : ∃ z, z = ((l0 + (1 : Int64)) + ((pg &&& (1023 : Int32)).toInt64)) := ⟨_, rfl⟩
  have R3 : ∀ tg, Sx p e below s₁ m 25 #[iv pn, iv ps, iv pg, iv pi, iv pl, iv ((pn &&& (2147483647 : Int32)) % (5 : Int32)), jv_ l0, s_, jv_ ((l0 + (1 : Int64)) + ((pg &&& (1023 : Int32)).toInt64)), s_, u_, u_, u_, u_, u_, u_, u_, u_, u_, u_, u_, u_, u_, u_, u_, u_, u_, u_, u_, u_, u_, u_] [] tg → Sx p e below s₁ m 12 #[iv pn, iv ps, iv pg, iv pi, iv pl, iv ((pn &&& (2147483647 : Int32)) % (5 : Int32)), jv_ l0, s_, u_, u_, u_, u_, u_, u_, u_, u_, u_, u_, u_, u_, u_, u_, u_, u_, u_, u_, u_, u_, u_, u_, u_, u_] [] tg := by
    intro tg kt
    refine XS.lload X0.here hx rfl (hb hby at_12) rfl ?_
    refine XS.lconst X0.here hx rfl (hb hby at_14) ?_
    refine XS.ladd X0.here hx rfl (hb hby at_15) rfl ?_
    refine XS.iloadN X0.here hx rfl (hb hby at_16) rfl ?_
    refine XS.sipush X0.here hx rfl (hb hby at_17) ?_
    show Sx p e below s₁ m 20 #[iv pn, iv ps, iv pg, iv pi, iv pl, iv ((pn &&& (2147483647 : Int32)) % (5 : Int32)), jv_ l0, s_, u_, u_, u_, u_, u_, u_, u_, u_, u_, u_, u_, u_, u_, u_, u_, u_, u_, u_, u_, u_, u_, u_, u_, u_] [(.int 1023), (.int pg), (.long (l0 + (1 : Int64)))] _
    refine XS.iand X0.here hx rfl (hb hby at_20) rfl ?_
    refine XS.i2l X0.here hx rfl (hb hby at_21) rfl ?_
    refine XS.ladd X0.here hx rfl (hb hby at_22) rfl ?_
    refine XS.lstore X0.here hx rfl (hb hby at_23) rfl (l' := #[iv pn, iv ps, iv pg, iv pi, iv pl, iv ((pn &&& (2147483647 : Int32)) % (5 : Int32)), jv_ l0, s_, jv_ ((l0 + (1 : Int64)) + ((pg &&& (1023 : Int32)).toInt64)), s_, u_, u_, u_, u_, u_, u_, u_, u_, u_, u_, u_, u_, u_, u_, u_, u_, u_, u_, u_, u_, u_, u_]) rfl ?_
    show Sx p e below s₁ m 25 #[iv pn, iv ps, iv pg, iv pi, iv pl, iv ((pn &&& (2147483647 : Int32)) % (5 : Int32)), jv_ l0, s_, jv_ ((l0 + (1 : Int64)) + ((pg &&& (1023 : Int32)).toInt64)), s_, u_, u_, u_, u_, u_, u_, u_, u_, u_, u_, u_, u_, u_, u_, u_, u_, u_, u_, u_, u_, u_, u_] [] _
    exact kt
  have R4 : ∀ tg, Sx p e below s₁ m 25 #[iv pn, iv ps, iv pg, iv pi, iv pl, iv ((pn &&& (2147483647 : Int32)) % (5 : Int32)), jv_ l0, s_, jv_ l1, s_, u_, u_, u_, u_, u_, u_, u_, u_, u_, u_, u_, u_, u_, u_, u_, u_, u_, u_, u_, u_, u_, u_] [] tg → Sx p e below s₁ m 25 #[iv pn, iv ps, iv pg, iv pi, iv pl, iv ((pn &&& (2147483647 : Int32)) % (5 : Int32)), jv_ l0, s_, jv_ ((l0 + (1 : Int64)) + ((pg &&& (1023 : Int32)).toInt64)), s_, u_, u_, u_, u_, u_, u_, u_, u_, u_, u_, u_, u_, u_, u_, u_, u_, u_, u_, u_, u_, u_, u_] [] tg := fun tg kt => by rw [← hl1]; exact kt
  obtain ⟨l2, hl2⟩ : ∃ z, z = ((l1 + (1 : Int64)) + ((((pg.toUInt32 >>> ((10 : Int32) &&& 31).toUInt32).toInt32) &&& (1023 : Int32)).toInt64)) := ⟨_, rfl⟩
  have R5 : ∀ tg, Sx p e below s₁ m 41 #[iv pn, iv ps, iv pg, iv pi, iv pl, iv ((pn &&& (2147483647 : Int32)) % (5 : Int32)), jv_ l0, s_, jv_ l1, s_, jv_ ((l1 + (1 : Int64)) + ((((pg.toUInt32 >>> ((10 : Int32) &&& 31).toUInt32).toInt32) &&& (1023 : Int32)).toInt64)), s_, u_, u_, u_, u_, u_, u_, u_, u_, u_, u_, u_, u_, u_, u_, u_, u_, u_, u_, u_, u_] [] tg → Sx p e below s₁ m 25 #[iv pn, iv ps, iv pg, iv pi, iv pl, iv ((pn &&& (2147483647 : Int32)) % (5 : Int32)), jv_ l0, s_, jv_ l1, s_, u_, u_, u_, u_, u_, u_, u_, u_, u_, u_, u_, u_, u_, u_, u_, u_, u_, u_, u_, u_, u_, u_] [] tg := by
    intro tg kt
    refine XS.lload X0.here hx rfl (hb hby at_25) rfl ?_
    refine XS.lconst X0.here hx rfl (hb hby at_27) ?_
    refine XS.ladd X0.here hx rfl (hb hby at_28) rfl ?_
    refine XS.iloadN X0.here hx rfl (hb hby at_29) rfl ?_
    refine XS.bipush X0.here hx rfl (hb hby at_30) ?_
    show Sx p e below s₁ m 32 #[iv pn, iv ps, iv pg, iv pi, iv pl, iv ((pn &&& (2147483647 : Int32)) % (5 : Int32)), jv_ l0, s_, jv_ l1, s_, u_, u_, u_, u_, u_, u_, u_, u_, u_, u_, u_, u_, u_, u_, u_, u_, u_, u_, u_, u_, u_, u_] [(.int 10), (.int pg), (.long (l1 + (1 : Int64)))] _
    refine XS.iushr X0.here hx rfl (hb hby at_32) rfl ?_
    refine XS.sipush X0.here hx rfl (hb hby at_33) ?_
    refine XS.iand X0.here hx rfl (hb hby at_36) rfl ?_
    refine XS.i2l X0.here hx rfl (hb hby at_37) rfl ?_
    refine XS.ladd X0.here hx rfl (hb hby at_38) rfl ?_
    show Sx p e below s₁ m 39 #[iv pn, iv ps, iv pg, iv pi, iv pl, iv ((pn &&& (2147483647 : Int32)) % (5 : Int32)), jv_ l0, s_, jv_ l1, s_, u_, u_, u_, u_, u_, u_, u_, u_, u_, u_, u_, u_, u_, u_, u_, u_, u_, u_, u_, u_, u_, u_] [(.long ((l1 + (1 : Int64)) + ((((pg.toUInt32 >>> ((10 : Int32) &&& 31).toUInt32).toInt32) &&& (1023 : Int32)).toInt64)))] _
    refine XS.lstore X0.here hx rfl (hb hby at_39) rfl (l' := #[iv pn, iv ps, iv pg, iv pi, iv pl, iv ((pn &&& (2147483647 : Int32)) % (5 : Int32)), jv_ l0, s_, jv_ l1, s_, jv_ ((l1 + (1 : Int64)) + ((((pg.toUInt32 >>> ((10 : Int32) &&& 31).toUInt32).toInt32) &&& (1023 : Int32)).toInt64)), s_, u_, u_, u_, u_, u_, u_, u_, u_, u_, u_, u_, u_, u_, u_, u_, u_, u_, u_, u_, u_]) rfl ?_
    show Sx p e below s₁ m 41 #[iv pn, iv ps, iv pg, iv pi, iv pl, iv ((pn &&& (2147483647 : Int32)) % (5 : Int32)), jv_ l0, s_, jv_ l1, s_, jv_ ((l1 + (1 : Int64)) + ((((pg.toUInt32 >>> ((10 : Int32) &&& 31).toUInt32).toInt32) &&& (1023 : Int32)).toInt64)), s_, u_, u_, u_, u_, u_, u_, u_, u_, u_, u_, u_, u_, u_, u_, u_, u_, u_, u_, u_, u_] [] _
    exact kt
  have R6 : ∀ tg, Sx p e below s₁ m 41 #[iv pn, iv ps, iv pg, iv pi, iv pl, iv ((pn &&& (2147483647 : Int32)) % (5 : Int32)), jv_ l0, s_, jv_ l1, s_, jv_ l2, s_, u_, u_, u_, u_, u_, u_, u_, u_, u_, u_, u_, u_, u_, u_, u_, u_, u_, u_, u_, u_] [] tg → Sx p e below s₁ m 41 #[iv pn, iv ps, iv pg, iv pi, iv pl, iv ((pn &&& (2147483647 : Int32)) % (5 : Int32)), jv_ l0, s_, jv_ l1, s_, jv_ ((l1 + (1 : Int64)) + ((((pg.toUInt32 >>> ((10 : Int32) &&& 31).toUInt32).toInt32) &&& (1023 : Int32)).toInt64)), s_, u_, u_, u_, u_, u_, u_, u_, u_, u_, u_, u_, u_, u_, u_, u_, u_, u_, u_, u_, u_] [] tg := fun tg kt => by rw [← hl2]; exact kt
  obtain ⟨l3, hl3⟩ : ∃ z, z = ((l2 + (1 : Int64)) + ((((pg.toUInt32 >>> ((20 : Int32) &&& 31).toUInt32).toInt32) &&& (1023 : Int32)).toInt64)) := ⟨_, rfl⟩
  have R7 : ∀ tg, Sx p e below s₁ m 57 #[iv pn, iv ps, iv pg, iv pi, iv pl, iv ((pn &&& (2147483647 : Int32)) % (5 : Int32)), jv_ l0, s_, jv_ l1, s_, jv_ l2, s_, jv_ ((l2 + (1 : Int64)) + ((((pg.toUInt32 >>> ((20 : Int32) &&& 31).toUInt32).toInt32) &&& (1023 : Int32)).toInt64)), s_, u_, u_, u_, u_, u_, u_, u_, u_, u_, u_, u_, u_, u_, u_, u_, u_, u_, u_] [] tg → Sx p e below s₁ m 41 #[iv pn, iv ps, iv pg, iv pi, iv pl, iv ((pn &&& (2147483647 : Int32)) % (5 : Int32)), jv_ l0, s_, jv_ l1, s_, jv_ l2, s_, u_, u_, u_, u_, u_, u_, u_, u_, u_, u_, u_, u_, u_, u_, u_, u_, u_, u_, u_, u_] [] tg := by
    intro tg kt
    refine XS.lload X0.here hx rfl (hb hby at_41) rfl ?_
    refine XS.lconst X0.here hx rfl (hb hby at_43) ?_
    refine XS.ladd X0.here hx rfl (hb hby at_44) rfl ?_
    refine XS.iloadN X0.here hx rfl (hb hby at_45) rfl ?_
    refine XS.bipush X0.here hx rfl (hb hby at_46) ?_
    show Sx p e below s₁ m 48 #[iv pn, iv ps, iv pg, iv pi, iv pl, iv ((pn &&& (2147483647 : Int32)) % (5 : Int32)), jv_ l0, s_, jv_ l1, s_, jv_ l2, s_, u_, u_, u_, u_, u_, u_, u_, u_, u_, u_, u_, u_, u_, u_, u_, u_, u_, u_, u_, u_] [(.int 20), (.int pg), (.long (l2 + (1 : Int64)))] _
    refine XS.iushr X0.here hx rfl (hb hby at_48) rfl ?_
    refine XS.sipush X0.here hx rfl (hb hby at_49) ?_
    refine XS.iand X0.here hx rfl (hb hby at_52) rfl ?_
    refine XS.i2l X0.here hx rfl (hb hby at_53) rfl ?_
    refine XS.ladd X0.here hx rfl (hb hby at_54) rfl ?_
    show Sx p e below s₁ m 55 #[iv pn, iv ps, iv pg, iv pi, iv pl, iv ((pn &&& (2147483647 : Int32)) % (5 : Int32)), jv_ l0, s_, jv_ l1, s_, jv_ l2, s_, u_, u_, u_, u_, u_, u_, u_, u_, u_, u_, u_, u_, u_, u_, u_, u_, u_, u_, u_, u_] [(.long ((l2 + (1 : Int64)) + ((((pg.toUInt32 >>> ((20 : Int32) &&& 31).toUInt32).toInt32) &&& (1023 : Int32)).toInt64)))] _
    refine XS.lstore X0.here hx rfl (hb hby at_55) rfl (l' := #[iv pn, iv ps, iv pg, iv pi, iv pl, iv ((pn &&& (2147483647 : Int32)) % (5 : Int32)), jv_ l0, s_, jv_ l1, s_, jv_ l2, s_, jv_ ((l2 + (1 : Int64)) + ((((pg.toUInt32 >>> ((20 : Int32) &&& 31).toUInt32).toInt32) &&& (1023 : Int32)).toInt64)), s_, u_, u_, u_, u_, u_, u_, u_, u_, u_, u_, u_, u_, u_, u_, u_, u_, u_, u_]) rfl ?_
    show Sx p e below s₁ m 57 #[iv pn, iv ps, iv pg, iv pi, iv pl, iv ((pn &&& (2147483647 : Int32)) % (5 : Int32)), jv_ l0, s_, jv_ l1, s_, jv_ l2, s_, jv_ ((l2 + (1 : Int64)) + ((((pg.toUInt32 >>> ((20 : Int32) &&& 31).toUInt32).toInt32) &&& (1023 : Int32)).toInt64)), s_, u_, u_, u_, u_, u_, u_, u_, u_, u_, u_, u_, u_, u_, u_, u_, u_, u_, u_] [] _
    exact kt
  have R8 : ∀ tg, Sx p e below s₁ m 57 #[iv pn, iv ps, iv pg, iv pi, iv pl, iv ((pn &&& (2147483647 : Int32)) % (5 : Int32)), jv_ l0, s_, jv_ l1, s_, jv_ l2, s_, jv_ l3, s_, u_, u_, u_, u_, u_, u_, u_, u_, u_, u_, u_, u_, u_, u_, u_, u_, u_, u_] [] tg → Sx p e below s₁ m 57 #[iv pn, iv ps, iv pg, iv pi, iv pl, iv ((pn &&& (2147483647 : Int32)) % (5 : Int32)), jv_ l0, s_, jv_ l1, s_, jv_ l2, s_, jv_ ((l2 + (1 : Int64)) + ((((pg.toUInt32 >>> ((20 : Int32) &&& 31).toUInt32).toInt32) &&& (1023 : Int32)).toInt64)), s_, u_, u_, u_, u_, u_, u_, u_, u_, u_, u_, u_, u_, u_, u_, u_, u_, u_, u_] [] tg := fun tg kt => by rw [← hl3]; exact kt
  have R9 : ∀ tg, Sx p e below s₁ m 63 #[iv pn, iv ps, iv pg, iv pi, iv pl, iv ((pn &&& (2147483647 : Int32)) % (5 : Int32)), jv_ l0, s_, jv_ l1, s_, jv_ l2, s_, jv_ l3, s_, u_, u_, u_, u_, u_, u_, u_, u_, u_, u_, u_, u_, u_, u_, u_, u_, u_, u_] [(.int (lcmpW l3 (2147483647 : Int64)))] tg → Sx p e below s₁ m 57 #[iv pn, iv ps, iv pg, iv pi, iv pl, iv ((pn &&& (2147483647 : Int32)) % (5 : Int32)), jv_ l0, s_, jv_ l1, s_, jv_ l2, s_, jv_ l3, s_, u_, u_, u_, u_, u_, u_, u_, u_, u_, u_, u_, u_, u_, u_, u_, u_, u_, u_] [] tg := by
    intro tg kt
    refine XS.lload X0.here hx rfl (hb hby at_57) rfl ?_
    refine X0.ldc2Long hx hown (mvT hZ (w_ hw 1 rfl)) (g := (mkF m 59 #[iv pn, iv ps, iv pg, iv pi, iv pl, iv ((pn &&& (2147483647 : Int32)) % (5 : Int32)), jv_ l0, s_, jv_ l1, s_, jv_ l2, s_, jv_ l3, s_, u_, u_, u_, u_, u_, u_, u_, u_, u_, u_, u_, u_, u_, u_, u_, u_, u_, u_] [(.long l3)])) rfl (hb hby at_59) _ ?_
    refine XS.lcmp X0.here hx rfl (hb hby at_62) rfl ?_
    show Sx p e below s₁ m 63 #[iv pn, iv ps, iv pg, iv pi, iv pl, iv ((pn &&& (2147483647 : Int32)) % (5 : Int32)), jv_ l0, s_, jv_ l1, s_, jv_ l2, s_, jv_ l3, s_, u_, u_, u_, u_, u_, u_, u_, u_, u_, u_, u_, u_, u_, u_, u_, u_, u_, u_] [(.int (lcmpW l3 (2147483647 : Int64)))] _
    exact kt
  by_cases hc63_10 : (0 : Int32) < (lcmpW l3 (2147483647 : Int64))
  · obtain ⟨fs, hr, hrun, hended, hW, hsame⟩ := X0.leave (v := some (.int 1)) (fun h => by rw [Bd.returns] at h; cases h)
    refine ⟨_, _, pre0 _ (R1 _ (R2 _ (R3 _ (R4 _ (R5 _ (R6 _ (R7 _ (R8 _ (R9 _ ?_))))))))), hrun, hended, _, _, rfl, ?_, ⟨_, rfl⟩, hW, hsame.mono (by decide) (by decide)⟩
    · show Sx p e below s₁ m 63 #[iv pn, iv ps, iv pg, iv pi, iv pl, iv ((pn &&& (2147483647 : Int32)) % (5 : Int32)), jv_ l0, s_, jv_ l1, s_, jv_ l2, s_, jv_ l3, s_, u_, u_, u_, u_, u_, u_, u_, u_, u_, u_, u_, u_, u_, u_, u_, u_, u_, u_] [(.int (lcmpW l3 (2147483647 : Int64)))] _
      refine XS.ifNo X0.here hx rfl (hb hby at_63) rfl ((if0 _ _).trans (tlt hc63_10).2.2.2) ?_
      refine XS.iconst X0.here hx rfl (hb hby at_66) ?_
      show Sx p e below s₁ m 67 #[iv pn, iv ps, iv pg, iv pi, iv pl, iv ((pn &&& (2147483647 : Int32)) % (5 : Int32)), jv_ l0, s_, jv_ l1, s_, jv_ l2, s_, jv_ l3, s_, u_, u_, u_, u_, u_, u_, u_, u_, u_, u_, u_, u_, u_, u_, u_, u_, u_, u_] [(.int 1)] _
      exact retN X0 hx (t := .boolean) Bd.returns (by simp) (hb hby at_67) hr
    · show Q0 n0 _ s₁.heap _
      rw [e0]
      exact ⟨rfl, N0⟩
  · obtain ⟨hq01, hq12, hq23⟩ := own_sorted hl0 hl1 hl2 hl3 hc63_10
    obtain ⟨sq0, hsq0⟩ : ∃ z, z = l0.toInt32 := ⟨_, rfl⟩
    have R11 : ∀ tg, Sx p e below s₁ m 88 #[iv pn, iv ps, iv pg, iv pi, iv pl, iv ((pn &&& (2147483647 : Int32)) % (5 : Int32)), jv_ l0, s_, jv_ l1, s_, jv_ l2, s_, jv_ l3, s_, iv (l0.toInt32), iv (l1.toInt32), iv (l2.toInt32), iv (l3.toInt32), u_, u_, u_, u_, u_, u_, u_, u_, u_, u_, u_, u_, u_, u_] [] tg → Sx p e below s₁ m 63 #[iv pn, iv ps, iv pg, iv pi, iv pl, iv ((pn &&& (2147483647 : Int32)) % (5 : Int32)), jv_ l0, s_, jv_ l1, s_, jv_ l2, s_, jv_ l3, s_, u_, u_, u_, u_, u_, u_, u_, u_, u_, u_, u_, u_, u_, u_, u_, u_, u_, u_] [(.int (lcmpW l3 (2147483647 : Int64)))] tg := by
      intro tg kt
      refine XS.ifYes X0.here hx rfl (pc0 := 63) (pc' := 68) rfl (hb hby at_63) rfl ((if0 _ _).trans (flt hc63_10).2.2.2) (by decide) (by decide) ?_
      refine XS.lload X0.here hx rfl (hb hby at_68) rfl ?_
      refine XS.l2i X0.here hx rfl (hb hby at_70) rfl ?_
      refine XS.istore X0.here hx rfl (hb hby at_71) rfl (l' := #[iv pn, iv ps, iv pg, iv pi, iv pl, iv ((pn &&& (2147483647 : Int32)) % (5 : Int32)), jv_ l0, s_, jv_ l1, s_, jv_ l2, s_, jv_ l3, s_, iv (l0.toInt32), u_, u_, u_, u_, u_, u_, u_, u_, u_, u_, u_, u_, u_, u_, u_, u_, u_]) rfl ?_
      refine XS.lload X0.here hx rfl (hb hby at_73) rfl ?_
      show Sx p e below s₁ m 75 #[iv pn, iv ps, iv pg, iv pi, iv pl, iv ((pn &&& (2147483647 : Int32)) % (5 : Int32)), jv_ l0, s_, jv_ l1, s_, jv_ l2, s_, jv_ l3, s_, iv (l0.toInt32), u_, u_, u_, u_, u_, u_, u_, u_, u_, u_, u_, u_, u_, u_, u_, u_, u_] [(.long l1)] _
      refine XS.l2i X0.here hx rfl (hb hby at_75) rfl ?_
      refine XS.istore X0.here hx rfl (hb hby at_76) rfl (l' := #[iv pn, iv ps, iv pg, iv pi, iv pl, iv ((pn &&& (2147483647 : Int32)) % (5 : Int32)), jv_ l0, s_, jv_ l1, s_, jv_ l2, s_, jv_ l3, s_, iv (l0.toInt32), iv (l1.toInt32), u_, u_, u_, u_, u_, u_, u_, u_, u_, u_, u_, u_, u_, u_, u_, u_]) rfl ?_
      refine XS.lload X0.here hx rfl (hb hby at_78) rfl ?_
      refine XS.l2i X0.here hx rfl (hb hby at_80) rfl ?_
      refine XS.istore X0.here hx rfl (hb hby at_81) rfl (l' := #[iv pn, iv ps, iv pg, iv pi, iv pl, iv ((pn &&& (2147483647 : Int32)) % (5 : Int32)), jv_ l0, s_, jv_ l1, s_, jv_ l2, s_, jv_ l3, s_, iv (l0.toInt32), iv (l1.toInt32), iv (l2.toInt32), u_, u_, u_, u_, u_, u_, u_, u_, u_, u_, u_, u_, u_, u_, u_]) rfl ?_
      show Sx p e below s₁ m 83 #[iv pn, iv ps, iv pg, iv pi, iv pl, iv ((pn &&& (2147483647 : Int32)) % (5 : Int32)), jv_ l0, s_, jv_ l1, s_, jv_ l2, s_, jv_ l3, s_, iv (l0.toInt32), iv (l1.toInt32), iv (l2.toInt32), u_, u_, u_, u_, u_, u_, u_, u_, u_, u_, u_, u_, u_, u_, u_] [] _
      refine XS.lload X0.here hx rfl (hb hby at_83) rfl ?_
      refine XS.l2i X0.here hx rfl (hb hby at_85) rfl ?_
      refine XS.istore X0.here hx rfl (hb hby at_86) rfl (l' := #[iv pn, iv ps, iv pg, iv pi, iv pl, iv ((pn &&& (2147483647 : Int32)) % (5 : Int32)), jv_ l0, s_, jv_ l1, s_, jv_ l2, s_, jv_ l3, s_, iv (l0.toInt32), iv (l1.toInt32), iv (l2.toInt32), iv (l3.toInt32), u_, u_, u_, u_, u_, u_, u_, u_, u_, u_, u_, u_, u_, u_]) rfl ?_
      show Sx p e below s₁ m 88 #[iv pn, iv ps, iv pg, iv pi, iv pl, iv ((pn &&& (2147483647 : Int32)) % (5 : Int32)), jv_ l0, s_, jv_ l1, s_, jv_ l2, s_, jv_ l3, s_, iv (l0.toInt32), iv (l1.toInt32), iv (l2.toInt32), iv (l3.toInt32), u_, u_, u_, u_, u_, u_, u_, u_, u_, u_, u_, u_, u_, u_] [] _
      exact kt
    have R12 : ∀ tg, Sx p e below s₁ m 88 #[iv pn, iv ps, iv pg, iv pi, iv pl, iv ((pn &&& (2147483647 : Int32)) % (5 : Int32)), jv_ l0, s_, jv_ l1, s_, jv_ l2, s_, jv_ l3, s_, iv sq0, iv (l1.toInt32), iv (l2.toInt32), iv (l3.toInt32), u_, u_, u_, u_, u_, u_, u_, u_, u_, u_, u_, u_, u_, u_] [] tg → Sx p e below s₁ m 88 #[iv pn, iv ps, iv pg, iv pi, iv pl, iv ((pn &&& (2147483647 : Int32)) % (5 : Int32)), jv_ l0, s_, jv_ l1, s_, jv_ l2, s_, jv_ l3, s_, iv (l0.toInt32), iv (l1.toInt32), iv (l2.toInt32), iv (l3.toInt32), u_, u_, u_, u_, u_, u_, u_, u_, u_, u_, u_, u_, u_, u_] [] tg := fun tg kt => by rw [← hsq0]; exact kt
    obtain ⟨sq1, hsq1⟩ : ∃ z, z = l1.toInt32 := ⟨_, rfl⟩
    have R13 : ∀ tg, Sx p e below s₁ m 88 #[iv pn, iv ps, iv pg, iv pi, iv pl, iv ((pn &&& (2147483647 : Int32)) % (5 : Int32)), jv_ l0, s_, jv_ l1, s_, jv_ l2, s_, jv_ l3, s_, iv sq0, iv sq1, iv (l2.toInt32), iv (l3.toInt32), u_, u_, u_, u_, u_, u_, u_, u_, u_, u_, u_, u_, u_, u_] [] tg → Sx p e below s₁ m 88 #[iv pn, iv ps, iv pg, iv pi, iv pl, iv ((pn &&& (2147483647 : Int32)) % (5 : Int32)), jv_ l0, s_, jv_ l1, s_, jv_ l2, s_, jv_ l3, s_, iv sq0, iv (l1.toInt32), iv (l2.toInt32), iv (l3.toInt32), u_, u_, u_, u_, u_, u_, u_, u_, u_, u_, u_, u_, u_, u_] [] tg := fun tg kt => by rw [← hsq1]; exact kt
    obtain ⟨sq2, hsq2⟩ : ∃ z, z = l2.toInt32 := ⟨_, rfl⟩
    have R14 : ∀ tg, Sx p e below s₁ m 88 #[iv pn, iv ps, iv pg, iv pi, iv pl, iv ((pn &&& (2147483647 : Int32)) % (5 : Int32)), jv_ l0, s_, jv_ l1, s_, jv_ l2, s_, jv_ l3, s_, iv sq0, iv sq1, iv sq2, iv (l3.toInt32), u_, u_, u_, u_, u_, u_, u_, u_, u_, u_, u_, u_, u_, u_] [] tg → Sx p e below s₁ m 88 #[iv pn, iv ps, iv pg, iv pi, iv pl, iv ((pn &&& (2147483647 : Int32)) % (5 : Int32)), jv_ l0, s_, jv_ l1, s_, jv_ l2, s_, jv_ l3, s_, iv sq0, iv sq1, iv (l2.toInt32), iv (l3.toInt32), u_, u_, u_, u_, u_, u_, u_, u_, u_, u_, u_, u_, u_, u_] [] tg := fun tg kt => by rw [← hsq2]; exact kt
    obtain ⟨sq3, hsq3⟩ : ∃ z, z = l3.toInt32 := ⟨_, rfl⟩
    have R15 : ∀ tg, Sx p e below s₁ m 88 #[iv pn, iv ps, iv pg, iv pi, iv pl, iv ((pn &&& (2147483647 : Int32)) % (5 : Int32)), jv_ l0, s_, jv_ l1, s_, jv_ l2, s_, jv_ l3, s_, iv sq0, iv sq1, iv sq2, iv sq3, u_, u_, u_, u_, u_, u_, u_, u_, u_, u_, u_, u_, u_, u_] [] tg → Sx p e below s₁ m 88 #[iv pn, iv ps, iv pg, iv pi, iv pl, iv ((pn &&& (2147483647 : Int32)) % (5 : Int32)), jv_ l0, s_, jv_ l1, s_, jv_ l2, s_, jv_ l3, s_, iv sq0, iv sq1, iv sq2, iv (l3.toInt32), u_, u_, u_, u_, u_, u_, u_, u_, u_, u_, u_, u_, u_, u_] [] tg := fun tg kt => by rw [← hsq3]; exact kt
    rw [← hsq0, ← hsq1] at hq01
    rw [← hsq1, ← hsq2] at hq12
    rw [← hsq2, ← hsq3] at hq23
    obtain ⟨T16, h16, X16, e16, E16, A16, D16, -, st16⟩ := newO X0 hx hZ hown (w_ hw 2 rfl) (w_ hw 3 rfl) (w_ hw 4 rfl) e0 (g := (mkF m 88 #[iv pn, iv ps, iv pg, iv pi, iv pl, iv ((pn &&& (2147483647 : Int32)) % (5 : Int32)), jv_ l0, s_, jv_ l1, s_, jv_ l2, s_, jv_ l3, s_, iv sq0, iv sq1, iv sq2, iv sq3, u_, u_, u_, u_, u_, u_, u_, u_, u_, u_, u_, u_, u_, u_] [])) rfl (hb hby at_88) (by decide) (by decide)
    obtain ⟨b16, g16⟩ : ∃ z, z = h0.size := ⟨_, rfl⟩
    rw [← g16] at A16 D16 st16
    have gb_b16 : n0 ≤ b16 := Nat.le_trans Z0 (Nat.le_of_eq g16.symm)
    have Z16 : n0 ≤ h16.size := Nat.le_trans Z0 E16.1
    have F16_parent : Fld Z h16 b16 "com/example/clausemap/clausemap/outline/Part" "parent" "Lcom/example/clausemap/clausemap/outline/Part;" .null := D16 (Or.inr (w_ hw 17 rfl)) (ty := (.object "com/example/clausemap/clausemap/outline/Part")) (by decide)
    have F16_kind : Fld Z h16 b16 "com/example/clausemap/clausemap/outline/Part" "kind" "Lcom/example/clausemap/clausemap/outline/Part$Kind;" .null := D16 (Or.inr (w_ hw 19 rfl)) (ty := (.object "com/example/clausemap/clausemap/outline/Part$Kind")) (by decide)
    have F16_number : Fld Z h16 b16 "com/example/clausemap/clausemap/outline/Part" "number" "Ljava/lang/String;" .null := D16 (Or.inr (w_ hw 21 rfl)) (ty := (.object "java/lang/String")) (by decide)
    have F16_heading : Fld Z h16 b16 "com/example/clausemap/clausemap/outline/Part" "heading" "Ljava/lang/String;" .null := D16 (Or.inr (w_ hw 23 rfl)) (ty := (.object "java/lang/String")) (by decide)
    have F16_start : Fld Z h16 b16 "com/example/clausemap/clausemap/outline/Part" "start" "I" (.int 0) := D16 (Or.inr (w_ hw 25 rfl)) (ty := .int) (by decide)
    have F16_end : Fld Z h16 b16 "com/example/clausemap/clausemap/outline/Part" "end" "I" (.int 0) := D16 (Or.inr (w_ hw 27 rfl)) (ty := .int) (by decide)
    obtain ⟨_, _, ⟨T17, L17, k17, n17⟩, -, X17, ⟨Lc17, hQ17, l17, y17, z17⟩, st17⟩ := X16.specialBack hx (y := (⟨"com/example/clausemap/clausemap/outline/Part", "<init>", "(Lcom/example/clausemap/clausemap/outline/Part;Lcom/example/clausemap/clausemap/outline/Part$Kind;Ljava/lang/String;Ljava/lang/String;II)V"⟩ : MethodName)) rfl hown (mvT hZ (w_ hw 5 rfl)) (mvT hZ (w_ hw 6 rfl)) (mvT hZ (w_ hw 7 rfl)) (by decide) (backOf (W := 1) (rmPI l Z a0 hw [] b16 sq0 sq3 h16 n0 Z16 A16 F16_parent F16_kind F16_number F16_heading F16_start F16_end gb_b16) hZ (w_ hw 7 rfl) (w_ hw 4 rfl) (by decide) (by decide)) (g := (mkF m 100 #[iv pn, iv ps, iv pg, iv pi, iv pl, iv ((pn &&& (2147483647 : Int32)) % (5 : Int32)), jv_ l0, s_, jv_ l1, s_, jv_ l2, s_, jv_ l3, s_, iv sq0, iv sq1, iv sq2, iv sq3, u_, u_, u_, u_, u_, u_, u_, u_, u_, u_, u_, u_, u_, u_] [(.int sq3), (.int sq0), .null, .null, .null, .null, (.ref b16), (.ref b16)])) rfl (by rw [hml]; rfl) (Steps.refl _) (a := b16) (argsL := [.null, .null, .null, .null, (.int sq0), (.int sq3)]) (rest := [(.ref b16)]) (lenOf pd_15 rfl) rfl (by show 2 * 0 + _ ≤ _; exact Nat.le_of_eq rfl) (hb hby at_100) (fun _ _ => ⟨rfl, e16, (by decide : 1 + 0 ≤ _), (by decide : 6 + 0 ≤ _)⟩)
    dsimp only [Pt.U, Pt.locs, Pt.cells, Pt.slots] at X17 l17 y17 z17 st17 hQ17
    subst l17 y17 z17
    obtain ⟨hv17, N17q, kp17, fl17⟩ := hQ17
    subst hv17
    have N17 := Fr.app N0 N17q
    have Z17 : n0 ≤ T17.heap.size := Nat.le_trans Z16 kp17.1
    obtain ⟨T18, h18, X18, e18, E18, A18, D18, -, st18⟩ := newO X17 hx hZ hown (w_ hw 2 rfl) (w_ hw 3 rfl) (w_ hw 4 rfl) rfl (g := (mkF m 105 #[iv pn, iv ps, iv pg, iv pi, iv pl, iv ((pn &&& (2147483647 : Int32)) % (5 : Int32)), jv_ l0, s_, jv_ l1, s_, jv_ l2, s_, jv_ l3, s_, iv sq0, iv sq1, iv sq2, iv sq3, rv b16, u_, u_, u_, u_, u_, u_, u_, u_, u_, u_, u_, u_, u_] [])) rfl (hb hby at_105) (by decide) (by decide)
    obtain ⟨b18, g18⟩ : ∃ z, z = T17.heap.size := ⟨_, rfl⟩
    rw [← g18] at A18 D18 st18
    have f19 := (A16.keep kp17)
    have ne_b16_b18 : b16 ≠ b18 := Nat.ne_of_lt (Nat.lt_of_lt_of_le (f19).lt (Nat.le_of_eq g18.symm))
    have gb_b18 : n0 ≤ b18 := Nat.le_trans Z17 (Nat.le_of_eq g18.symm)
    have Z18 : n0 ≤ h18.size := Nat.le_trans Z17 E18.1
    have F18_parent : Fld Z h18 b18 "com/example/clausemap/clausemap/outline/Part" "parent" "Lcom/example/clausemap/clausemap/outline/Part;" .null := D18 (Or.inr (w_ hw 17 rfl)) (ty := (.object "com/example/clausemap/clausemap/outline/Part")) (by decide)
    have F18_kind : Fld Z h18 b18 "com/example/clausemap/clausemap/outline/Part" "kind" "Lcom/example/clausemap/clausemap/outline/Part$Kind;" .null := D18 (Or.inr (w_ hw 19 rfl)) (ty := (.object "com/example/clausemap/clausemap/outline/Part$Kind")) (by decide)
    have F18_number : Fld Z h18 b18 "com/example/clausemap/clausemap/outline/Part" "number" "Ljava/lang/String;" .null := D18 (Or.inr (w_ hw 21 rfl)) (ty := (.object "java/lang/String")) (by decide)
    have F18_heading : Fld Z h18 b18 "com/example/clausemap/clausemap/outline/Part" "heading" "Ljava/lang/String;" .null := D18 (Or.inr (w_ hw 23 rfl)) (ty := (.object "java/lang/String")) (by decide)
    have F18_start : Fld Z h18 b18 "com/example/clausemap/clausemap/outline/Part" "start" "I" (.int 0) := D18 (Or.inr (w_ hw 25 rfl)) (ty := .int) (by decide)
    have F18_end : Fld Z h18 b18 "com/example/clausemap/clausemap/outline/Part" "end" "I" (.int 0) := D18 (Or.inr (w_ hw 27 rfl)) (ty := .int) (by decide)
    obtain ⟨_, _, ⟨T20, L20, k20, n20⟩, -, X20, ⟨Lc20, hQ20, l20, y20, z20⟩, st20⟩ := X18.specialBack hx (y := (⟨"com/example/clausemap/clausemap/outline/Part", "<init>", "(Lcom/example/clausemap/clausemap/outline/Part;Lcom/example/clausemap/clausemap/outline/Part$Kind;Ljava/lang/String;Ljava/lang/String;II)V"⟩ : MethodName)) rfl hown (mvT hZ (w_ hw 5 rfl)) (mvT hZ (w_ hw 6 rfl)) (mvT hZ (w_ hw 7 rfl)) (by decide) (backOf (W := 1) (rmPI l Z a0 hw [] b18 sq1 sq3 h18 n0 Z18 A18 F18_parent F18_kind F18_number F18_heading F18_start F18_end gb_b18) hZ (w_ hw 7 rfl) (w_ hw 4 rfl) (by decide) (by decide)) (g := (mkF m 117 #[iv pn, iv ps, iv pg, iv pi, iv pl, iv ((pn &&& (2147483647 : Int32)) % (5 : Int32)), jv_ l0, s_, jv_ l1, s_, jv_ l2, s_, jv_ l3, s_, iv sq0, iv sq1, iv sq2, iv sq3, rv b16, u_, u_, u_, u_, u_, u_, u_, u_, u_, u_, u_, u_, u_] [(.int sq3), (.int sq1), .null, .null, .null, .null, (.ref b18), (.ref b18)])) rfl (by rw [hml]; rfl) (Steps.refl _) (a := b18) (argsL := [.null, .null, .null, .null, (.int sq1), (.int sq3)]) (rest := [(.ref b18)]) (lenOf pd_15 rfl) rfl (by show 2 * 0 + _ ≤ _; exact Nat.le_of_eq rfl) (hb hby at_117) (fun _ _ => ⟨rfl, e18, (by decide : 2 + 0 ≤ _), (by decide : 12 + 0 ≤ _)⟩)
    dsimp only [Pt.U, Pt.locs, Pt.cells, Pt.slots] at X20 l20 y20 z20 st20 hQ20
    subst l20 y20 z20
    obtain ⟨hv20, N20q, kp20, fl20⟩ := hQ20
    subst hv20
    have N20 := Fr.app N17 N20q
    have Z20 : n0 ≤ T20.heap.size := Nat.le_trans Z18 kp20.1
    obtain ⟨T21, h21, X21, e21, E21, A21, D21, -, st21⟩ := newO X20 hx hZ hown (w_ hw 2 rfl) (w_ hw 3 rfl) (w_ hw 4 rfl) rfl (g := (mkF m 122 #[iv pn, iv ps, iv pg, iv pi, iv pl, iv ((pn &&& (2147483647 : Int32)) % (5 : Int32)), jv_ l0, s_, jv_ l1, s_, jv_ l2, s_, jv_ l3, s_, iv sq0, iv sq1, iv sq2, iv sq3, rv b16, rv b18, u_, u_, u_, u_, u_, u_, u_, u_, u_, u_, u_, u_] [])) rfl (hb hby at_122) (by decide) (by decide)
    obtain ⟨b21, g21⟩ : ∃ z, z = T20.heap.size := ⟨_, rfl⟩
    rw [← g21] at A21 D21 st21
    have f22 := ((f19.ext E18).keep kp20)
    have ne_b16_b21 : b16 ≠ b21 := Nat.ne_of_lt (Nat.lt_of_lt_of_le (f22).lt (Nat.le_of_eq g21.symm))
    have f23 := (A18.keep kp20)
    have ne_b18_b21 : b18 ≠ b21 := Nat.ne_of_lt (Nat.lt_of_lt_of_le (f23).lt (Nat.le_of_eq g21.symm))
    have gb_b21 : n0 ≤ b21 := Nat.le_trans Z20 (Nat.le_of_eq g21.symm)
    have Z21 : n0 ≤ h21.size := Nat.le_trans Z20 E21.1
    have F21_parent : Fld Z h21 b21 "com/example/clausemap/clausemap/outline/Part" "parent" "Lcom/example/clausemap/clausemap/outline/Part;" .null := D21 (Or.inr (w_ hw 17 rfl)) (ty := (.object "com/example/clausemap/clausemap/outline/Part")) (by decide)
    have F21_kind : Fld Z h21 b21 "com/example/clausemap/clausemap/outline/Part" "kind" "Lcom/example/clausemap/clausemap/outline/Part$Kind;" .null := D21 (Or.inr (w_ hw 19 rfl)) (ty := (.object "com/example/clausemap/clausemap/outline/Part$Kind")) (by decide)
    have F21_number : Fld Z h21 b21 "com/example/clausemap/clausemap/outline/Part" "number" "Ljava/lang/String;" .null := D21 (Or.inr (w_ hw 21 rfl)) (ty := (.object "java/lang/String")) (by decide)
    have F21_heading : Fld Z h21 b21 "com/example/clausemap/clausemap/outline/Part" "heading" "Ljava/lang/String;" .null := D21 (Or.inr (w_ hw 23 rfl)) (ty := (.object "java/lang/String")) (by decide)
    have F21_start : Fld Z h21 b21 "com/example/clausemap/clausemap/outline/Part" "start" "I" (.int 0) := D21 (Or.inr (w_ hw 25 rfl)) (ty := .int) (by decide)
    have F21_end : Fld Z h21 b21 "com/example/clausemap/clausemap/outline/Part" "end" "I" (.int 0) := D21 (Or.inr (w_ hw 27 rfl)) (ty := .int) (by decide)
    obtain ⟨_, _, ⟨T24, L24, k24, n24⟩, -, X24, ⟨Lc24, hQ24, l24, y24, z24⟩, st24⟩ := X21.specialBack hx (y := (⟨"com/example/clausemap/clausemap/outline/Part", "<init>", "(Lcom/example/clausemap/clausemap/outline/Part;Lcom/example/clausemap/clausemap/outline/Part$Kind;Ljava/lang/String;Ljava/lang/String;II)V"⟩ : MethodName)) rfl hown (mvT hZ (w_ hw 5 rfl)) (mvT hZ (w_ hw 6 rfl)) (mvT hZ (w_ hw 7 rfl)) (by decide) (backOf (W := 1) (rmPI l Z a0 hw [] b21 sq2 sq3 h21 n0 Z21 A21 F21_parent F21_kind F21_number F21_heading F21_start F21_end gb_b21) hZ (w_ hw 7 rfl) (w_ hw 4 rfl) (by decide) (by decide)) (g := (mkF m 134 #[iv pn, iv ps, iv pg, iv pi, iv pl, iv ((pn &&& (2147483647 : Int32)) % (5 : Int32)), jv_ l0, s_, jv_ l1, s_, jv_ l2, s_, jv_ l3, s_, iv sq0, iv sq1, iv sq2, iv sq3, rv b16, rv b18, u_, u_, u_, u_, u_, u_, u_, u_, u_, u_, u_, u_] [(.int sq3), (.int sq2), .null, .null, .null, .null, (.ref b21), (.ref b21)])) rfl (by rw [hml]; rfl) (Steps.refl _) (a := b21) (argsL := [.null, .null, .null, .null, (.int sq2), (.int sq3)]) (rest := [(.ref b21)]) (lenOf pd_15 rfl) rfl (by show 2 * 0 + _ ≤ _; exact Nat.le_of_eq rfl) (hb hby at_134) (fun _ _ => ⟨rfl, e21, (by decide : 3 + 0 ≤ _), (by decide : 18 + 0 ≤ _)⟩)
    dsimp only [Pt.U, Pt.locs, Pt.cells, Pt.slots] at X24 l24 y24 z24 st24 hQ24
    subst l24 y24 z24
    obtain ⟨hv24, N24q, kp24, fl24⟩ := hQ24
    subst hv24
    have N24 := Fr.app N20 N24q
    have Z24 : n0 ≤ T24.heap.size := Nat.le_trans Z21 kp24.1
    obtain ⟨T25, h25, X25, e25, E25, A25, D25, -, st25⟩ := newO X24 hx hZ hown (w_ hw 2 rfl) (w_ hw 3 rfl) (w_ hw 4 rfl) rfl (g := (mkF m 139 #[iv pn, iv ps, iv pg, iv pi, iv pl, iv ((pn &&& (2147483647 : Int32)) % (5 : Int32)), jv_ l0, s_, jv_ l1, s_, jv_ l2, s_, jv_ l3, s_, iv sq0, iv sq1, iv sq2, iv sq3, rv b16, rv b18, rv b21, u_, u_, u_, u_, u_, u_, u_, u_, u_, u_, u_] [])) rfl (hb hby at_139) (by decide) (by decide)
    obtain ⟨b25, g25⟩ : ∃ z, z = T24.heap.size := ⟨_, rfl⟩
    rw [← g25] at A25 D25 st25
    have f26 := ((f22.ext E21).keep kp24)
    have ne_b16_b25 : b16 ≠ b25 := Nat.ne_of_lt (Nat.lt_of_lt_of_le (f26).lt (Nat.le_of_eq g25.symm))
    have f27 := ((f23.ext E21).keep kp24)
    have ne_b18_b25 : b18 ≠ b25 := Nat.ne_of_lt (Nat.lt_of_lt_of_le (f27).lt (Nat.le_of_eq g25.symm))
    have f28 := (A21.keep kp24)
    have ne_b21_b25 : b21 ≠ b25 := Nat.ne_of_lt (Nat.lt_of_lt_of_le (f28).lt (Nat.le_of_eq g25.symm))
    have gb_b25 : n0 ≤ b25 := Nat.le_trans Z24 (Nat.le_of_eq g25.symm)
    have Z25 : n0 ≤ h25.size := Nat.le_trans Z24 E25.1
    have F25_parent : Fld Z h25 b25 "com/example/clausemap/clausemap/outline/Part" "parent" "Lcom/example/clausemap/clausemap/outline/Part;" .null := D25 (Or.inr (w_ hw 17 rfl)) (ty := (.object "com/example/clausemap/clausemap/outline/Part")) (by decide)
    have F25_kind : Fld Z h25 b25 "com/example/clausemap/clausemap/outline/Part" "kind" "Lcom/example/clausemap/clausemap/outline/Part$Kind;" .null := D25 (Or.inr (w_ hw 19 rfl)) (ty := (.object "com/example/clausemap/clausemap/outline/Part$Kind")) (by decide)
    have F25_number : Fld Z h25 b25 "com/example/clausemap/clausemap/outline/Part" "number" "Ljava/lang/String;" .null := D25 (Or.inr (w_ hw 21 rfl)) (ty := (.object "java/lang/String")) (by decide)
    have F25_heading : Fld Z h25 b25 "com/example/clausemap/clausemap/outline/Part" "heading" "Ljava/lang/String;" .null := D25 (Or.inr (w_ hw 23 rfl)) (ty := (.object "java/lang/String")) (by decide)
    have F25_start : Fld Z h25 b25 "com/example/clausemap/clausemap/outline/Part" "start" "I" (.int 0) := D25 (Or.inr (w_ hw 25 rfl)) (ty := .int) (by decide)
    have F25_end : Fld Z h25 b25 "com/example/clausemap/clausemap/outline/Part" "end" "I" (.int 0) := D25 (Or.inr (w_ hw 27 rfl)) (ty := .int) (by decide)
    obtain ⟨_, _, ⟨T29, L29, k29, n29⟩, -, X29, ⟨Lc29, hQ29, l29, y29, z29⟩, st29⟩ := X25.specialBack hx (y := (⟨"com/example/clausemap/clausemap/outline/Part", "<init>", "(Lcom/example/clausemap/clausemap/outline/Part;Lcom/example/clausemap/clausemap/outline/Part$Kind;Ljava/lang/String;Ljava/lang/String;II)V"⟩ : MethodName)) rfl hown (mvT hZ (w_ hw 5 rfl)) (mvT hZ (w_ hw 6 rfl)) (mvT hZ (w_ hw 7 rfl)) (by decide) (backOf (W := 1) (rmPI l Z a0 hw [] b25 sq3 sq3 h25 n0 Z25 A25 F25_parent F25_kind F25_number F25_heading F25_start F25_end gb_b25) hZ (w_ hw 7 rfl) (w_ hw 4 rfl) (by decide) (by decide)) (g := (mkF m 151 #[iv pn, iv ps, iv pg, iv pi, iv pl, iv ((pn &&& (2147483647 : Int32)) % (5 : Int32)), jv_ l0, s_, jv_ l1, s_, jv_ l2, s_, jv_ l3, s_, iv sq0, iv sq1, iv sq2, iv sq3, rv b16, rv b18, rv b21, u_, u_, u_, u_, u_, u_, u_, u_, u_, u_, u_] [(.int sq3), (.int sq3), .null, .null, .null, .null, (.ref b25), (.ref b25)])) rfl (by rw [hml]; rfl) (Steps.refl _) (a := b25) (argsL := [.null, .null, .null, .null, (.int sq3), (.int sq3)]) (rest := [(.ref b25)]) (lenOf pd_15 rfl) rfl (by show 2 * 0 + _ ≤ _; exact Nat.le_of_eq rfl) (hb hby at_151) (fun _ _ => ⟨rfl, e25, (by decide : 4 + 0 ≤ _), (by decide : 24 + 0 ≤ _)⟩)
    dsimp only [Pt.U, Pt.locs, Pt.cells, Pt.slots] at X29 l29 y29 z29 st29 hQ29
    subst l29 y29 z29
    obtain ⟨hv29, N29q, kp29, fl29⟩ := hQ29
    subst hv29
    have N29 := Fr.app N24 N29q
    have Z29 : n0 ≤ T29.heap.size := Nat.le_trans Z25 kp29.1
    obtain ⟨T30, h30, X30, e30, E30, A30, D30, -, st30⟩ := newO X29 hx hZ hown (w_ hw 28 rfl) (w_ hw 29 rfl) (w_ hw 30 rfl) rfl (g := (mkF m 156 #[iv pn, iv ps, iv pg, iv pi, iv pl, iv ((pn &&& (2147483647 : Int32)) % (5 : Int32)), jv_ l0, s_, jv_ l1, s_, jv_ l2, s_, jv_ l3, s_, iv sq0, iv sq1, iv sq2, iv sq3, rv b16, rv b18, rv b21, rv b25, u_, u_, u_, u_, u_, u_, u_, u_, u_, u_] [])) rfl (hb hby at_156) (by decide) (by decide)
    obtain ⟨b30, g30⟩ : ∃ z, z = T29.heap.size := ⟨_, rfl⟩
    rw [← g30] at A30 D30 st30
    have f31 := ((f26.ext E25).keep kp29)
    have ne_b16_b30 : b16 ≠ b30 := Nat.ne_of_lt (Nat.lt_of_lt_of_le (f31).lt (Nat.le_of_eq g30.symm))
    have f32 := ((f27.ext E25).keep kp29)
    have ne_b18_b30 : b18 ≠ b30 := Nat.ne_of_lt (Nat.lt_of_lt_of_le (f32).lt (Nat.le_of_eq g30.symm))
    have f33 := ((f28.ext E25).keep kp29)
    have ne_b21_b30 : b21 ≠ b30 := Nat.ne_of_lt (Nat.lt_of_lt_of_le (f33).lt (Nat.le_of_eq g30.symm))
    have f34 := (A25.keep kp29)
    have ne_b25_b30 : b25 ≠ b30 := Nat.ne_of_lt (Nat.lt_of_lt_of_le (f34).lt (Nat.le_of_eq g30.symm))
    have gb_b30 : n0 ≤ b30 := Nat.le_trans Z29 (Nat.le_of_eq g30.symm)
    have Z30 : n0 ≤ h30.size := Nat.le_trans Z29 E30.1
    have F30_modCount : Fld Z h30 b30 "java/util/AbstractList" "modCount" "I" (.int 0) := D30 (Or.inl (w_ hw 48 rfl)) (ty := .int) (by decide)
    have F30_elementData : Fld Z h30 b30 "java/util/ArrayList" "elementData" "[Ljava/lang/Object;" .null := D30 (Or.inl (w_ hw 51 rfl)) (ty := (.array (.object "java/lang/Object"))) (by decide)
    have F30_size : Fld Z h30 b30 "java/util/ArrayList" "size" "I" (.int 0) := D30 (Or.inl (w_ hw 83 rfl)) (ty := .int) (by decide)
    have f35 := (((((((((hO1.ext E16).keep kp17 (allS gb_b16 all0)).ext E18).keep kp20 (allS gb_b18 all0)).ext E21).keep kp24 (allS gb_b21 all0)).ext E25).keep kp29 (allS gb_b25 all0)).ext E30)
    obtain ⟨_, _, ⟨T36, L36, k36, n36⟩, -, X36, ⟨Lc36, hQ36, l36, y36, z36⟩, st36⟩ := X30.specialBack hx (y := (⟨"java/util/ArrayList", "<init>", "()V"⟩ : MethodName)) rfl hown (mvT hZ (w_ hw 31 rfl)) (mvT hZ (w_ hw 32 rfl)) (mvT hZ (w_ hw 33 rfl)) (by decide) (backOf (W := 1) (rmALI l Z a0 hw [] b30 dc h30 n0 Z30 ⟨A30, F30_modCount, F30_elementData, F30_size⟩ gb_b30 f35 hSd) hZ (w_ hw 33 rfl) (w_ hw 30 rfl) (by decide) (by decide)) (g := (mkF m 160 #[iv pn, iv ps, iv pg, iv pi, iv pl, iv ((pn &&& (2147483647 : Int32)) % (5 : Int32)), jv_ l0, s_, jv_ l1, s_, jv_ l2, s_, jv_ l3, s_, iv sq0, iv sq1, iv sq2, iv sq3, rv b16, rv b18, rv b21, rv b25, u_, u_, u_, u_, u_, u_, u_, u_, u_, u_] [(.ref b30), (.ref b30)])) rfl (by rw [hml]; rfl) (Steps.refl _) (a := b30) (argsL := []) (rest := [(.ref b30)]) (lenOf pd_0 rfl) rfl (by show 2 * 0 + _ ≤ _; exact Nat.le_of_eq rfl) (hb hby at_160) (fun _ _ => ⟨rfl, e30, (by decide : 5 + 0 ≤ _), (by decide : 27 + 0 ≤ _)⟩)
    dsimp only [Pt.U, Pt.locs, Pt.cells, Pt.slots] at X36 l36 y36 z36 st36 hQ36
    subst l36 y36 z36
    obtain ⟨hv36, N36q, kp36, fl36⟩ := hQ36
    subst hv36
    have N36 := Fr.app N29 N36q
    have Z36 : n0 ≤ T36.heap.size := Nat.le_trans Z30 kp36.1
    obtain ⟨fa36, fb36, fc36, fd36⟩ := fl36
    have R37 : ∀ tg, Sx p e below T36 m 165 #[iv pn, iv ps, iv pg, iv pi, iv pl, iv ((pn &&& (2147483647 : Int32)) % (5 : Int32)), jv_ l0, s_, jv_ l1, s_, jv_ l2, s_, jv_ l3, s_, iv sq0, iv sq1, iv sq2, iv sq3, rv b16, rv b18, rv b21, rv b25, rv b30, u_, u_, u_, u_, u_, u_, u_, u_, u_] [] tg → Sx p e below s₁ m 88 #[iv pn, iv ps, iv pg, iv pi, iv pl, iv ((pn &&& (2147483647 : Int32)) % (5 : Int32)), jv_ l0, s_, jv_ l1, s_, jv_ l2, s_, jv_ l3, s_, iv sq0, iv sq1, iv sq2, iv sq3, u_, u_, u_, u_, u_, u_, u_, u_, u_, u_, u_, u_, u_, u_] [] tg := by
      intro tg kt
      refine st16 _ ?_
      refine XS.dup X16.here hx rfl (hb hby at_91) rfl rfl ?_
      refine XS.aconstNull X16.here hx rfl (hb hby at_92) ?_
      refine XS.aconstNull X16.here hx rfl (hb hby at_93) ?_
      refine XS.aconstNull X16.here hx rfl (hb hby at_94) ?_
      show Sx p e below T16 m 95 #[iv pn, iv ps, iv pg, iv pi, iv pl, iv ((pn &&& (2147483647 : Int32)) % (5 : Int32)), jv_ l0, s_, jv_ l1, s_, jv_ l2, s_, jv_ l3, s_, iv sq0, iv sq1, iv sq2, iv sq3, u_, u_, u_, u_, u_, u_, u_, u_, u_, u_, u_, u_, u_, u_] [.null, .null, .null, (.ref b16), (.ref b16)] _
      refine XS.aconstNull X16.here hx rfl (hb hby at_95) ?_
      refine XS.iload X16.here hx rfl (hb hby at_96) rfl ?_
      refine XS.iload X16.here hx rfl (hb hby at_98) rfl ?_
      refine st17.trans ?_
      refine XS.astore X17.here hx rfl (hb hby at_103) rfl rfl (l' := #[iv pn, iv ps, iv pg, iv pi, iv pl, iv ((pn &&& (2147483647 : Int32)) % (5 : Int32)), jv_ l0, s_, jv_ l1, s_, jv_ l2, s_, jv_ l3, s_, iv sq0, iv sq1, iv sq2, iv sq3, rv b16, u_, u_, u_, u_, u_, u_, u_, u_, u_, u_, u_, u_, u_]) rfl ?_
      show Sx p e below T17 m 105 #[iv pn, iv ps, iv pg, iv pi, iv pl, iv ((pn &&& (2147483647 : Int32)) % (5 : Int32)), jv_ l0, s_, jv_ l1, s_, jv_ l2, s_, jv_ l3, s_, iv sq0, iv sq1, iv sq2, iv sq3, rv b16, u_, u_, u_, u_, u_, u_, u_, u_, u_, u_, u_, u_, u_] [] _
      refine st18 _ ?_
      refine XS.dup X18.here hx rfl (hb hby at_108) rfl rfl ?_
      refine XS.aconstNull X18.here hx rfl (hb hby at_109) ?_
      refine XS.aconstNull X18.here hx rfl (hb hby at_110) ?_
      refine XS.aconstNull X18.here hx rfl (hb hby at_111) ?_
      show Sx p e below T18 m 112 #[iv pn, iv ps, iv pg, iv pi, iv pl, iv ((pn &&& (2147483647 : Int32)) % (5 : Int32)), jv_ l0, s_, jv_ l1, s_, jv_ l2, s_, jv_ l3, s_, iv sq0, iv sq1, iv sq2, iv sq3, rv b16, u_, u_, u_, u_, u_, u_, u_, u_, u_, u_, u_, u_, u_] [.null, .null, .null, (.ref b18), (.ref b18)] _
      refine XS.aconstNull X18.here hx rfl (hb hby at_112) ?_
      refine XS.iload X18.here hx rfl (hb hby at_113) rfl ?_
      refine XS.iload X18.here hx rfl (hb hby at_115) rfl ?_
      refine st20.trans ?_
      refine XS.astore X20.here hx rfl (hb hby at_120) rfl rfl (l' := #[iv pn, iv ps, iv pg, iv pi, iv pl, iv ((pn &&& (2147483647 : Int32)) % (5 : Int32)), jv_ l0, s_, jv_ l1, s_, jv_ l2, s_, jv_ l3, s_, iv sq0, iv sq1, iv sq2, iv sq3, rv b16, rv b18, u_, u_, u_, u_, u_, u_, u_, u_, u_, u_, u_, u_]) rfl ?_
      show Sx p e below T20 m 122 #[iv pn, iv ps, iv pg, iv pi, iv pl, iv ((pn &&& (2147483647 : Int32)) % (5 : Int32)), jv_ l0, s_, jv_ l1, s_, jv_ l2, s_, jv_ l3, s_, iv sq0, iv sq1, iv sq2, iv sq3, rv b16, rv b18, u_, u_, u_, u_, u_, u_, u_, u_, u_, u_, u_, u_] [] _
      refine st21 _ ?_
      refine XS.dup X21.here hx rfl (hb hby at_125) rfl rfl ?_
      refine XS.aconstNull X21.here hx rfl (hb hby at_126) ?_
      refine XS.aconstNull X21.here hx rfl (hb hby at_127) ?_
      refine XS.aconstNull X21.here hx rfl (hb hby at_128) ?_
      show Sx p e below T21 m 129 #[iv pn, iv ps, iv pg, iv pi, iv pl, iv ((pn &&& (2147483647 : Int32)) % (5 : Int32)), jv_ l0, s_, jv_ l1, s_, jv_ l2, s_, jv_ l3, s_, iv sq0, iv sq1, iv sq2, iv sq3, rv b16, rv b18, u_, u_, u_, u_, u_, u_, u_, u_, u_, u_, u_, u_] [.null, .null, .null, (.ref b21), (.ref b21)] _
      refine XS.aconstNull X21.here hx rfl (hb hby at_129) ?_
      refine XS.iload X21.here hx rfl (hb hby at_130) rfl ?_
      refine XS.iload X21.here hx rfl (hb hby at_132) rfl ?_
      refine st24.trans ?_
      refine XS.astore X24.here hx rfl (hb hby at_137) rfl rfl (l' := #[iv pn, iv ps, iv pg, iv pi, iv pl, iv ((pn &&& (2147483647 : Int32)) % (5 : Int32)), jv_ l0, s_, jv_ l1, s_, jv_ l2, s_, jv_ l3, s_, iv sq0, iv sq1, iv sq2, iv sq3, rv b16, rv b18, rv b21, u_, u_, u_, u_, u_, u_, u_, u_, u_, u_, u_]) rfl ?_
      show Sx p e below T24 m 139 #[iv pn, iv ps, iv pg, iv pi, iv pl, iv ((pn &&& (2147483647 : Int32)) % (5 : Int32)), jv_ l0, s_, jv_ l1, s_, jv_ l2, s_, jv_ l3, s_, iv sq0, iv sq1, iv sq2, iv sq3, rv b16, rv b18, rv b21, u_, u_, u_, u_, u_, u_, u_, u_, u_, u_, u_] [] _
      refine st25 _ ?_
      refine XS.dup X25.here hx rfl (hb hby at_142) rfl rfl ?_
      refine XS.aconstNull X25.here hx rfl (hb hby at_143) ?_
      refine XS.aconstNull X25.here hx rfl (hb hby at_144) ?_
      refine XS.aconstNull X25.here hx rfl (hb hby at_145) ?_
      show Sx p e below T25 m 146 #[iv pn, iv ps, iv pg, iv pi, iv pl, iv ((pn &&& (2147483647 : Int32)) % (5 : Int32)), jv_ l0, s_, jv_ l1, s_, jv_ l2, s_, jv_ l3, s_, iv sq0, iv sq1, iv sq2, iv sq3, rv b16, rv b18, rv b21, u_, u_, u_, u_, u_, u_, u_, u_, u_, u_, u_] [.null, .null, .null, (.ref b25), (.ref b25)] _
      refine XS.aconstNull X25.here hx rfl (hb hby at_146) ?_
      refine XS.iload X25.here hx rfl (hb hby at_147) rfl ?_
      refine XS.iload X25.here hx rfl (hb hby at_149) rfl ?_
      refine st29.trans ?_
      refine XS.astore X29.here hx rfl (hb hby at_154) rfl rfl (l' := #[iv pn, iv ps, iv pg, iv pi, iv pl, iv ((pn &&& (2147483647 : Int32)) % (5 : Int32)), jv_ l0, s_, jv_ l1, s_, jv_ l2, s_, jv_ l3, s_, iv sq0, iv sq1, iv sq2, iv sq3, rv b16, rv b18, rv b21, rv b25, u_, u_, u_, u_, u_, u_, u_, u_, u_, u_]) rfl ?_
      show Sx p e below T29 m 156 #[iv pn, iv ps, iv pg, iv pi, iv pl, iv ((pn &&& (2147483647 : Int32)) % (5 : Int32)), jv_ l0, s_, jv_ l1, s_, jv_ l2, s_, jv_ l3, s_, iv sq0, iv sq1, iv sq2, iv sq3, rv b16, rv b18, rv b21, rv b25, u_, u_, u_, u_, u_, u_, u_, u_, u_, u_] [] _
      refine st30 _ ?_
      refine XS.dup X30.here hx rfl (hb hby at_159) rfl rfl ?_
      refine st36.trans ?_
      refine XS.astore X36.here hx rfl (hb hby at_163) rfl rfl (l' := #[iv pn, iv ps, iv pg, iv pi, iv pl, iv ((pn &&& (2147483647 : Int32)) % (5 : Int32)), jv_ l0, s_, jv_ l1, s_, jv_ l2, s_, jv_ l3, s_, iv sq0, iv sq1, iv sq2, iv sq3, rv b16, rv b18, rv b21, rv b25, rv b30, u_, u_, u_, u_, u_, u_, u_, u_, u_]) rfl ?_
      show Sx p e below T36 m 165 #[iv pn, iv ps, iv pg, iv pi, iv pl, iv ((pn &&& (2147483647 : Int32)) % (5 : Int32)), jv_ l0, s_, jv_ l1, s_, jv_ l2, s_, jv_ l3, s_, iv sq0, iv sq1, iv sq2, iv sq3, rv b16, rv b18, rv b21, rv b25, rv b30, u_, u_, u_, u_, u_, u_, u_, u_, u_] [] _
      exact kt
    rcases own_m5 pn with hk38 | hk38 | hk38 | hk38 | hk38
    · have R39 : ∀ tg, Sx p e below T36 m 165 #[iv pn, iv ps, iv pg, iv pi, iv pl, iv 0, jv_ l0, s_, jv_ l1, s_, jv_ l2, s_, jv_ l3, s_, iv sq0, iv sq1, iv sq2, iv sq3, rv b16, rv b18, rv b21, rv b25, rv b30, u_, u_, u_, u_, u_, u_, u_, u_, u_] [] tg → Sx p e below T36 m 165 #[iv pn, iv ps, iv pg, iv pi, iv pl, iv ((pn &&& (2147483647 : Int32)) % (5 : Int32)), jv_ l0, s_, jv_ l1, s_, jv_ l2, s_, jv_ l3, s_, iv sq0, iv sq1, iv sq2, iv sq3, rv b16, rv b18, rv b21, rv b25, rv b30, u_, u_, u_, u_, u_, u_, u_, u_, u_] [] tg := fun tg kt => by rw [hk38]; exact kt
      obtain ⟨T40, h40, X40, e40, E40, A40, D40, -, st40⟩ := newO X36 hx hZ hown (w_ hw 52 rfl) (w_ hw 53 rfl) (w_ hw 54 rfl) rfl (g := (mkF m 220 #[iv pn, iv ps, iv pg, iv pi, iv pl, iv 0, jv_ l0, s_, jv_ l1, s_, jv_ l2, s_, jv_ l3, s_, iv sq0, iv sq1, iv sq2, iv sq3, rv b16, rv b18, rv b21, rv b25, rv b30, u_, u_, u_, u_, u_, u_, u_, u_, u_] [])) rfl (hb hby at_220) (by decide) (by decide)
      obtain ⟨b40, g40⟩ : ∃ z, z = T36.heap.size := ⟨_, rfl⟩
      rw [← g40] at A40 D40 st40
      have f41 := ((f31.ext E30).keep kp36)
      have ne_b16_b40 : b16 ≠ b40 := Nat.ne_of_lt (Nat.lt_of_lt_of_le (f41).lt (Nat.le_of_eq g40.symm))
      have f42 := ((f32.ext E30).keep kp36)
      have ne_b18_b40 : b18 ≠ b40 := Nat.ne_of_lt (Nat.lt_of_lt_of_le (f42).lt (Nat.le_of_eq g40.symm))
      have f43 := ((f33.ext E30).keep kp36)
      have ne_b21_b40 : b21 ≠ b40 := Nat.ne_of_lt (Nat.lt_of_lt_of_le (f43).lt (Nat.le_of_eq g40.symm))
      have f44 := ((f34.ext E30).keep kp36)
      have ne_b25_b40 : b25 ≠ b40 := Nat.ne_of_lt (Nat.lt_of_lt_of_le (f44).lt (Nat.le_of_eq g40.symm))
      have ne_b30_b40 : b30 ≠ b40 := Nat.ne_of_lt (Nat.lt_of_lt_of_le (fa36).lt (Nat.le_of_eq g40.symm))
      have gb_b40 : n0 ≤ b40 := Nat.le_trans Z36 (Nat.le_of_eq g40.symm)
      have Z40 : n0 ≤ h40.size := Nat.le_trans Z36 E40.1
      have F40_parts : Fld Z h40 b40 "com/example/clausemap/clausemap/outline/Outline" "parts" "Ljava/util/List;" .null := D40 (Or.inr (w_ hw 89 rfl)) (ty := (.object "java/util/List")) (by decide)
      have f45 := (fa36.ext E40)
      have f46 := (fb36.ext E40)
      have f47 := (fc36.ext E40)
      have f48 := (fd36.ext E40)
      have f49 := ((f35.keep kp36 (allS gb_b30 all0)).ext E40)
      obtain ⟨_, _, ⟨T50, L50, k50, n50⟩, -, X50, ⟨Lc50, hQ50, l50, y50, z50⟩, st50⟩ := X40.specialBack hx (y := (⟨"com/example/clausemap/clausemap/outline/Outline", "<init>", "(Ljava/util/List;)V"⟩ : MethodName)) rfl hown (mvT hZ (w_ hw 55 rfl)) (mvT hZ (w_ hw 56 rfl)) (mvT hZ (w_ hw 57 rfl)) (by decide) (backOf (W := 1) (rmI0 l Z a0 hw [] b40 b30 dc el (0 : Int32) h40 n0 Z40 A40 F40_parts gb_b40 (Ne.symm ne_b30_b40) ⟨f45, f46, f47, f48⟩ (hSl.ext f49.2) (hLV0.ext f49.2)) hZ (w_ hw 57 rfl) (w_ hw 54 rfl) (by decide) (by decide)) (g := (mkF m 226 #[iv pn, iv ps, iv pg, iv pi, iv pl, iv 0, jv_ l0, s_, jv_ l1, s_, jv_ l2, s_, jv_ l3, s_, iv sq0, iv sq1, iv sq2, iv sq3, rv b16, rv b18, rv b21, rv b25, rv b30, u_, u_, u_, u_, u_, u_, u_, u_, u_] [(.ref b30), (.ref b40), (.ref b40)])) rfl (by rw [hml]; rfl) (Steps.refl _) (a := b40) (argsL := [(.ref b30)]) (rest := [(.ref b40)]) (lenOf pd_16 rfl) rfl (by show 2 * 0 + _ ≤ _; exact Nat.le_of_eq rfl) (hb hby at_226) (fun _ _ => ⟨rfl, e40, (by decide : 6 + 0 ≤ _), (by decide : 28 + 0 ≤ _)⟩)
      dsimp only [Pt.U, Pt.locs, Pt.cells, Pt.slots] at X50 l50 y50 z50 st50 hQ50
      subst l50 y50 z50
      obtain ⟨hv50, N50q, kp50, lb50, fp50, lv50⟩ := hQ50
      subst hv50
      have N50 := Fr.app N36 N50q
      have Z50 : n0 ≤ T50.heap.size := Nat.le_trans Z40 kp50.1
      obtain ⟨pl3, hpl3⟩ : ∃ z, z = (pl &&& (3 : Int32)) := ⟨_, rfl⟩
      have R51 : ∀ tg, Sx p e below T50 m 245 #[iv pn, iv ps, iv pg, iv pi, iv pl, iv 0, jv_ l0, s_, jv_ l1, s_, jv_ l2, s_, jv_ l3, s_, iv sq0, iv sq1, iv sq2, iv sq3, rv b16, rv b18, rv b21, rv b25, rv b30, rv b40, iv (pl &&& (3 : Int32)), iv (((pl.toUInt32 >>> ((2 : Int32) &&& 31).toUInt32).toInt32) &&& (3 : Int32)), u_, u_, u_, u_, u_, u_] [] tg → Sx p e below T36 m 165 #[iv pn, iv ps, iv pg, iv pi, iv pl, iv 0, jv_ l0, s_, jv_ l1, s_, jv_ l2, s_, jv_ l3, s_, iv sq0, iv sq1, iv sq2, iv sq3, rv b16, rv b18, rv b21, rv b25, rv b30, u_, u_, u_, u_, u_, u_, u_, u_, u_] [] tg := by
        intro tg kt
        refine XS.iload X36.here hx rfl (hb hby at_165) rfl ?_
        refine XS.ifYes X36.here hx rfl (pc0 := 167) (pc' := 178) rfl (hb hby at_167) rfl ((if0 _ _).trans (flt (by decide : ¬ ((0 : Int32) < (0 : Int32)))).2.2.2) (by decide) (by decide) ?_
        refine XS.iload X36.here hx rfl (hb hby at_178) rfl ?_
        refine XS.iconst X36.here hx rfl (hb hby at_180) ?_
        refine XS.icmpYes X36.here hx rfl (pc0 := 181) (pc' := 192) rfl (hb hby at_181) rfl (flt (by decide : ¬ ((1 : Int32) < (0 : Int32)))).2.2.2 (by decide) (by decide) ?_
        show Sx p e below T36 m 192 #[iv pn, iv ps, iv pg, iv pi, iv pl, iv 0, jv_ l0, s_, jv_ l1, s_, jv_ l2, s_, jv_ l3, s_, iv sq0, iv sq1, iv sq2, iv sq3, rv b16, rv b18, rv b21, rv b25, rv b30, u_, u_, u_, u_, u_, u_, u_, u_, u_] [] _
        refine XS.iload X36.here hx rfl (hb hby at_192) rfl ?_
        refine XS.iconst X36.here hx rfl (hb hby at_194) ?_
        refine XS.icmpYes X36.here hx rfl (pc0 := 195) (pc' := 206) rfl (hb hby at_195) rfl (flt (by decide : ¬ ((2 : Int32) < (0 : Int32)))).2.2.2 (by decide) (by decide) ?_
        refine XS.iload X36.here hx rfl (hb hby at_206) rfl ?_
        refine XS.iconst X36.here hx rfl (hb hby at_208) ?_
        show Sx p e below T36 m 209 #[iv pn, iv ps, iv pg, iv pi, iv pl, iv 0, jv_ l0, s_, jv_ l1, s_, jv_ l2, s_, jv_ l3, s_, iv sq0, iv sq1, iv sq2, iv sq3, rv b16, rv b18, rv b21, rv b25, rv b30, u_, u_, u_, u_, u_, u_, u_, u_, u_] [(.int 3), (.int 0)] _
        refine XS.icmpYes X36.here hx rfl (pc0 := 209) (pc' := 220) rfl (hb hby at_209) rfl (flt (by decide : ¬ ((3 : Int32) < (0 : Int32)))).2.2.2 (by decide) (by decide) ?_
        refine st40 _ ?_
        refine XS.dup X40.here hx rfl (hb hby at_223) rfl rfl ?_
        refine XS.aload X40.here hx rfl (hb hby at_224) rfl rfl ?_
        refine st50.trans ?_
        show Sx p e below T50 m 229 #[iv pn, iv ps, iv pg, iv pi, iv pl, iv 0, jv_ l0, s_, jv_ l1, s_, jv_ l2, s_, jv_ l3, s_, iv sq0, iv sq1, iv sq2, iv sq3, rv b16, rv b18, rv b21, rv b25, rv b30, u_, u_, u_, u_, u_, u_, u_, u_, u_] [(.ref b40)] _
        refine XS.astore X50.here hx rfl (hb hby at_229) rfl rfl (l' := #[iv pn, iv ps, iv pg, iv pi, iv pl, iv 0, jv_ l0, s_, jv_ l1, s_, jv_ l2, s_, jv_ l3, s_, iv sq0, iv sq1, iv sq2, iv sq3, rv b16, rv b18, rv b21, rv b25, rv b30, rv b40, u_, u_, u_, u_, u_, u_, u_, u_]) rfl ?_
        refine XS.iload X50.here hx rfl (hb hby at_231) rfl ?_
        refine XS.iconst X50.here hx rfl (hb hby at_233) ?_
        refine XS.iand X50.here hx rfl (hb hby at_234) rfl ?_
        refine XS.istore X50.here hx rfl (hb hby at_235) rfl (l' := #[iv pn, iv ps, iv pg, iv pi, iv pl, iv 0, jv_ l0, s_, jv_ l1, s_, jv_ l2, s_, jv_ l3, s_, iv sq0, iv sq1, iv sq2, iv sq3, rv b16, rv b18, rv b21, rv b25, rv b30, rv b40, iv (pl &&& (3 : Int32)), u_, u_, u_, u_, u_, u_, u_]) rfl ?_
        show Sx p e below T50 m 237 #[iv pn, iv ps, iv pg, iv pi, iv pl, iv 0, jv_ l0, s_, jv_ l1, s_, jv_ l2, s_, jv_ l3, s_, iv sq0, iv sq1, iv sq2, iv sq3, rv b16, rv b18, rv b21, rv b25, rv b30, rv b40, iv (pl &&& (3 : Int32)), u_, u_, u_, u_, u_, u_, u_] [] _
        refine XS.iload X50.here hx rfl (hb hby at_237) rfl ?_
        refine XS.iconst X50.here hx rfl (hb hby at_239) ?_
        refine XS.iushr X50.here hx rfl (hb hby at_240) rfl ?_
        refine XS.iconst X50.here hx rfl (hb hby at_241) ?_
        refine XS.iand X50.here hx rfl (hb hby at_242) rfl ?_
        show Sx p e below T50 m 243 #[iv pn, iv ps, iv pg, iv pi, iv pl, iv 0, jv_ l0, s_, jv_ l1, s_, jv_ l2, s_, jv_ l3, s_, iv sq0, iv sq1, iv sq2, iv sq3, rv b16, rv b18, rv b21, rv b25, rv b30, rv b40, iv (pl &&& (3 : Int32)), u_, u_, u_, u_, u_, u_, u_] [(.int (((pl.toUInt32 >>> ((2 : Int32) &&& 31).toUInt32).toInt32) &&& (3 : Int32)))] _
        refine XS.istore X50.here hx rfl (hb hby at_243) rfl (l' := #[iv pn, iv ps, iv pg, iv pi, iv pl, iv 0, jv_ l0, s_, jv_ l1, s_, jv_ l2, s_, jv_ l3, s_, iv sq0, iv sq1, iv sq2, iv sq3, rv b16, rv b18, rv b21, rv b25, rv b30, rv b40, iv (pl &&& (3 : Int32)), iv (((pl.toUInt32 >>> ((2 : Int32) &&& 31).toUInt32).toInt32) &&& (3 : Int32)), u_, u_, u_, u_, u_, u_]) rfl ?_
        show Sx p e below T50 m 245 #[iv pn, iv ps, iv pg, iv pi, iv pl, iv 0, jv_ l0, s_, jv_ l1, s_, jv_ l2, s_, jv_ l3, s_, iv sq0, iv sq1, iv sq2, iv sq3, rv b16, rv b18, rv b21, rv b25, rv b30, rv b40, iv (pl &&& (3 : Int32)), iv (((pl.toUInt32 >>> ((2 : Int32) &&& 31).toUInt32).toInt32) &&& (3 : Int32)), u_, u_, u_, u_, u_, u_] [] _
        exact kt
      have R52 : ∀ tg, Sx p e below T50 m 245 #[iv pn, iv ps, iv pg, iv pi, iv pl, iv 0, jv_ l0, s_, jv_ l1, s_, jv_ l2, s_, jv_ l3, s_, iv sq0, iv sq1, iv sq2, iv sq3, rv b16, rv b18, rv b21, rv b25, rv b30, rv b40, iv pl3, iv (((pl.toUInt32 >>> ((2 : Int32) &&& 31).toUInt32).toInt32) &&& (3 : Int32)), u_, u_, u_, u_, u_, u_] [] tg → Sx p e below T50 m 245 #[iv pn, iv ps, iv pg, iv pi, iv pl, iv 0, jv_ l0, s_, jv_ l1, s_, jv_ l2, s_, jv_ l3, s_, iv sq0, iv sq1, iv sq2, iv sq3, rv b16, rv b18, rv b21, rv b25, rv b30, rv b40, iv (pl &&& (3 : Int32)), iv (((pl.toUInt32 >>> ((2 : Int32) &&& 31).toUInt32).toInt32) &&& (3 : Int32)), u_, u_, u_, u_, u_, u_] [] tg := fun tg kt => by rw [← hpl3]; exact kt
      obtain ⟨pl2, hpl2⟩ : ∃ z, z = (((pl.toUInt32 >>> ((2 : Int32) &&& 31).toUInt32).toInt32) &&& (3 : Int32)) := ⟨_, rfl⟩
      have R53 : ∀ tg, Sx p e below T50 m 245 #[iv pn, iv ps, iv pg, iv pi, iv pl, iv 0, jv_ l0, s_, jv_ l1, s_, jv_ l2, s_, jv_ l3, s_, iv sq0, iv sq1, iv sq2, iv sq3, rv b16, rv b18, rv b21, rv b25, rv b30, rv b40, iv pl3, iv pl2, u_, u_, u_, u_, u_, u_] [] tg → Sx p e below T50 m 245 #[iv pn, iv ps, iv pg, iv pi, iv pl, iv 0, jv_ l0, s_, jv_ l1, s_, jv_ l2, s_, jv_ l3, s_, iv sq0, iv sq1, iv sq2, iv sq3, rv b16, rv b18, rv b21, rv b25, rv b30, rv b40, iv pl3, iv (((pl.toUInt32 >>> ((2 : Int32) &&& 31).toUInt32).toInt32) &&& (3 : Int32)), u_, u_, u_, u_, u_, u_] [] tg := fun tg kt => by rw [← hpl2]; exact kt
      obtain ⟨T54, L54, tgt_, X54, e54, N54, R54⟩ : ∃ (T' : State) (L' : List Loc) (tgt_ : Int64), Stand p l e room_1 s m #[(.int pn), (.int ps), (.int pg), (.int pi), (.int pl)] below meth c T' L' 6 28 ∧ T'.heap = T50.heap ∧ Fr n0 L' ∧ ∀ tg, Sx p e below T' m 279 #[iv pn, iv ps, iv pg, iv pi, iv pl, iv 0, jv_ l0, s_, jv_ l1, s_, jv_ l2, s_, jv_ l3, s_, iv sq0, iv sq1, iv sq2, iv sq3, rv b16, rv b18, rv b21, rv b25, rv b30, rv b40, iv pl3, iv pl2, u_, u_, u_, u_, u_, u_] [(.long tgt_)] tg → Sx p e below T50 m 245 #[iv pn, iv ps, iv pg, iv pi, iv pl, iv 0, jv_ l0, s_, jv_ l1, s_, jv_ l2, s_, jv_ l3, s_, iv sq0, iv sq1, iv sq2, iv sq3, rv b16, rv b18, rv b21, rv b25, rv b30, rv b40, iv pl3, iv pl2, u_, u_, u_, u_, u_, u_] [] tg := by
        have R55 : ∀ tg, Sx p e below T50 m 247 #[iv pn, iv ps, iv pg, iv pi, iv pl, iv 0, jv_ l0, s_, jv_ l1, s_, jv_ l2, s_, jv_ l3, s_, iv sq0, iv sq1, iv sq2, iv sq3, rv b16, rv b18, rv b21, rv b25, rv b30, rv b40, iv pl3, iv pl2, u_, u_, u_, u_, u_, u_] [(.int pl2)] tg → Sx p e below T50 m 245 #[iv pn, iv ps, iv pg, iv pi, iv pl, iv 0, jv_ l0, s_, jv_ l1, s_, jv_ l2, s_, jv_ l3, s_, iv sq0, iv sq1, iv sq2, iv sq3, rv b16, rv b18, rv b21, rv b25, rv b30, rv b40, iv pl3, iv pl2, u_, u_, u_, u_, u_, u_] [] tg := by
          intro tg kt
          refine XS.iload X50.here hx rfl (hb hby at_245) rfl ?_
          show Sx p e below T50 m 247 #[iv pn, iv ps, iv pg, iv pi, iv pl, iv 0, jv_ l0, s_, jv_ l1, s_, jv_ l2, s_, jv_ l3, s_, iv sq0, iv sq1, iv sq2, iv sq3, rv b16, rv b18, rv b21, rv b25, rv b30, rv b40, iv pl3, iv pl2, u_, u_, u_, u_, u_, u_] [(.int pl2)] _
          exact kt
        by_cases hc247_56 : pl2 = (0 : Int32)
        · have R57 : ∀ tg, Sx p e below T50 m 279 #[iv pn, iv ps, iv pg, iv pi, iv pl, iv 0, jv_ l0, s_, jv_ l1, s_, jv_ l2, s_, jv_ l3, s_, iv sq0, iv sq1, iv sq2, iv sq3, rv b16, rv b18, rv b21, rv b25, rv b30, rv b40, iv pl3, iv pl2, u_, u_, u_, u_, u_, u_] [(.long l0)] tg → Sx p e below T50 m 247 #[iv pn, iv ps, iv pg, iv pi, iv pl, iv 0, jv_ l0, s_, jv_ l1, s_, jv_ l2, s_, jv_ l3, s_, iv sq0, iv sq1, iv sq2, iv sq3, rv b16, rv b18, rv b21, rv b25, rv b30, rv b40, iv pl3, iv pl2, u_, u_, u_, u_, u_, u_] [(.int pl2)] tg := by
            intro tg kt
            refine XS.ifNo X50.here hx rfl (hb hby at_247) rfl ((if0 _ _).trans (teq hc247_56).2) ?_
            refine XS.lload X50.here hx rfl (hb hby at_250) rfl ?_
            refine XS.goto X50.here hx rfl (pc0 := 252) (pc' := 279) rfl (hb hby at_252) (by decide) (by decide) ?_
            show Sx p e below T50 m 279 #[iv pn, iv ps, iv pg, iv pi, iv pl, iv 0, jv_ l0, s_, jv_ l1, s_, jv_ l2, s_, jv_ l3, s_, iv sq0, iv sq1, iv sq2, iv sq3, rv b16, rv b18, rv b21, rv b25, rv b30, rv b40, iv pl3, iv pl2, u_, u_, u_, u_, u_, u_] [(.long l0)] _
            exact kt
          exact ⟨T50, _, l0, X50.more (by decide) (by decide), rfl, N50, fun _ kt => (R55 _ (R57 _ kt))⟩
        · have R58 : ∀ tg, Sx p e below T50 m 258 #[iv pn, iv ps, iv pg, iv pi, iv pl, iv 0, jv_ l0, s_, jv_ l1, s_, jv_ l2, s_, jv_ l3, s_, iv sq0, iv sq1, iv sq2, iv sq3, rv b16, rv b18, rv b21, rv b25, rv b30, rv b40, iv pl3, iv pl2, u_, u_, u_, u_, u_, u_] [(.int 1), (.int pl2)] tg → Sx p e below T50 m 247 #[iv pn, iv ps, iv pg, iv pi, iv pl, iv 0, jv_ l0, s_, jv_ l1, s_, jv_ l2, s_, jv_ l3, s_, iv sq0, iv sq1, iv sq2, iv sq3, rv b16, rv b18, rv b21, rv b25, rv b30, rv b40, iv pl3, iv pl2, u_, u_, u_, u_, u_, u_] [(.int pl2)] tg := by
            intro tg kt
            refine XS.ifYes X50.here hx rfl (pc0 := 247) (pc' := 255) rfl (hb hby at_247) rfl ((if0 _ _).trans (feq hc247_56).2) (by decide) (by decide) ?_
            refine XS.iload X50.here hx rfl (hb hby at_255) rfl ?_
            refine XS.iconst X50.here hx rfl (hb hby at_257) ?_
            show Sx p e below T50 m 258 #[iv pn, iv ps, iv pg, iv pi, iv pl, iv 0, jv_ l0, s_, jv_ l1, s_, jv_ l2, s_, jv_ l3, s_, iv sq0, iv sq1, iv sq2, iv sq3, rv b16, rv b18, rv b21, rv b25, rv b30, rv b40, iv pl3, iv pl2, u_, u_, u_, u_, u_, u_] [(.int 1), (.int pl2)] _
            exact kt
          by_cases hc258_59 : pl2 = (1 : Int32)
          · have R60 : ∀ tg, Sx p e below T50 m 279 #[iv pn, iv ps, iv pg, iv pi, iv pl, iv 0, jv_ l0, s_, jv_ l1, s_, jv_ l2, s_, jv_ l3, s_, iv sq0, iv sq1, iv sq2, iv sq3, rv b16, rv b18, rv b21, rv b25, rv b30, rv b40, iv pl3, iv pl2, u_, u_, u_, u_, u_, u_] [(.long l1)] tg → Sx p e below T50 m 258 #[iv pn, iv ps, iv pg, iv pi, iv pl, iv 0, jv_ l0, s_, jv_ l1, s_, jv_ l2, s_, jv_ l3, s_, iv sq0, iv sq1, iv sq2, iv sq3, rv b16, rv b18, rv b21, rv b25, rv b30, rv b40, iv pl3, iv pl2, u_, u_, u_, u_, u_, u_] [(.int 1), (.int pl2)] tg := by
              intro tg kt
              refine XS.icmpNo X50.here hx rfl (hb hby at_258) rfl (teq hc258_59).2 ?_
              refine XS.lload X50.here hx rfl (hb hby at_261) rfl ?_
              refine XS.goto X50.here hx rfl (pc0 := 263) (pc' := 279) rfl (hb hby at_263) (by decide) (by decide) ?_
              show Sx p e below T50 m 279 #[iv pn, iv ps, iv pg, iv pi, iv pl, iv 0, jv_ l0, s_, jv_ l1, s_, jv_ l2, s_, jv_ l3, s_, iv sq0, iv sq1, iv sq2, iv sq3, rv b16, rv b18, rv b21, rv b25, rv b30, rv b40, iv pl3, iv pl2, u_, u_, u_, u_, u_, u_] [(.long l1)] _
              exact kt
            exact ⟨T50, _, l1, X50.more (by decide) (by decide), rfl, N50, fun _ kt => (R55 _ (R58 _ (R60 _ kt)))⟩
          · have R61 : ∀ tg, Sx p e below T50 m 269 #[iv pn, iv ps, iv pg, iv pi, iv pl, iv 0, jv_ l0, s_, jv_ l1, s_, jv_ l2, s_, jv_ l3, s_, iv sq0, iv sq1, iv sq2, iv sq3, rv b16, rv b18, rv b21, rv b25, rv b30, rv b40, iv pl3, iv pl2, u_, u_, u_, u_, u_, u_] [(.int 2), (.int pl2)] tg → Sx p e below T50 m 258 #[iv pn, iv ps, iv pg, iv pi, iv pl, iv 0, jv_ l0, s_, jv_ l1, s_, jv_ l2, s_, jv_ l3, s_, iv sq0, iv sq1, iv sq2, iv sq3, rv b16, rv b18, rv b21, rv b25, rv b30, rv b40, iv pl3, iv pl2, u_, u_, u_, u_, u_, u_] [(.int 1), (.int pl2)] tg := by
              intro tg kt
              refine XS.icmpYes X50.here hx rfl (pc0 := 258) (pc' := 266) rfl (hb hby at_258) rfl (feq hc258_59).2 (by decide) (by decide) ?_
              refine XS.iload X50.here hx rfl (hb hby at_266) rfl ?_
              refine XS.iconst X50.here hx rfl (hb hby at_268) ?_
              show Sx p e below T50 m 269 #[iv pn, iv ps, iv pg, iv pi, iv pl, iv 0, jv_ l0, s_, jv_ l1, s_, jv_ l2, s_, jv_ l3, s_, iv sq0, iv sq1, iv sq2, iv sq3, rv b16, rv b18, rv b21, rv b25, rv b30, rv b40, iv pl3, iv pl2, u_, u_, u_, u_, u_, u_] [(.int 2), (.int pl2)] _
              exact kt
            by_cases hc269_62 : pl2 = (2 : Int32)
            · have R63 : ∀ tg, Sx p e below T50 m 279 #[iv pn, iv ps, iv pg, iv pi, iv pl, iv 0, jv_ l0, s_, jv_ l1, s_, jv_ l2, s_, jv_ l3, s_, iv sq0, iv sq1, iv sq2, iv sq3, rv b16, rv b18, rv b21, rv b25, rv b30, rv b40, iv pl3, iv pl2, u_, u_, u_, u_, u_, u_] [(.long l2)] tg → Sx p e below T50 m 269 #[iv pn, iv ps, iv pg, iv pi, iv pl, iv 0, jv_ l0, s_, jv_ l1, s_, jv_ l2, s_, jv_ l3, s_, iv sq0, iv sq1, iv sq2, iv sq3, rv b16, rv b18, rv b21, rv b25, rv b30, rv b40, iv pl3, iv pl2, u_, u_, u_, u_, u_, u_] [(.int 2), (.int pl2)] tg := by
                intro tg kt
                refine XS.icmpNo X50.here hx rfl (hb hby at_269) rfl (teq hc269_62).2 ?_
                refine XS.lload X50.here hx rfl (hb hby at_272) rfl ?_
                refine XS.goto X50.here hx rfl (pc0 := 274) (pc' := 279) rfl (hb hby at_274) (by decide) (by decide) ?_
                show Sx p e below T50 m 279 #[iv pn, iv ps, iv pg, iv pi, iv pl, iv 0, jv_ l0, s_, jv_ l1, s_, jv_ l2, s_, jv_ l3, s_, iv sq0, iv sq1, iv sq2, iv sq3, rv b16, rv b18, rv b21, rv b25, rv b30, rv b40, iv pl3, iv pl2, u_, u_, u_, u_, u_, u_] [(.long l2)] _
                exact kt
              exact ⟨T50, _, l2, X50.more (by decide) (by decide), rfl, N50, fun _ kt => (R55 _ (R58 _ (R61 _ (R63 _ kt))))⟩
            · have R64 : ∀ tg, Sx p e below T50 m 279 #[iv pn, iv ps, iv pg, iv pi, iv pl, iv 0, jv_ l0, s_, jv_ l1, s_, jv_ l2, s_, jv_ l3, s_, iv sq0, iv sq1, iv sq2, iv sq3, rv b16, rv b18, rv b21, rv b25, rv b30, rv b40, iv pl3, iv pl2, u_, u_, u_, u_, u_, u_] [(.long l3)] tg → Sx p e below T50 m 269 #[iv pn, iv ps, iv pg, iv pi, iv pl, iv 0, jv_ l0, s_, jv_ l1, s_, jv_ l2, s_, jv_ l3, s_, iv sq0, iv sq1, iv sq2, iv sq3, rv b16, rv b18, rv b21, rv b25, rv b30, rv b40, iv pl3, iv pl2, u_, u_, u_, u_, u_, u_] [(.int 2), (.int pl2)] tg := by
                intro tg kt
                refine XS.icmpYes X50.here hx rfl (pc0 := 269) (pc' := 277) rfl (hb hby at_269) rfl (feq hc269_62).2 (by decide) (by decide) ?_
                refine XS.lload X50.here hx rfl (hb hby at_277) rfl ?_
                show Sx p e below T50 m 279 #[iv pn, iv ps, iv pg, iv pi, iv pl, iv 0, jv_ l0, s_, jv_ l1, s_, jv_ l2, s_, jv_ l3, s_, iv sq0, iv sq1, iv sq2, iv sq3, rv b16, rv b18, rv b21, rv b25, rv b30, rv b40, iv pl3, iv pl2, u_, u_, u_, u_, u_, u_] [(.long l3)] _
                exact kt
              exact ⟨T50, _, l3, X50.more (by decide) (by decide), rfl, N50, fun _ kt => (R55 _ (R58 _ (R61 _ (R64 _ kt))))⟩
      have R65 : ∀ tg, Sx p e below T54 m 281 #[iv pn, iv ps, iv pg, iv pi, iv pl, iv 0, jv_ l0, s_, jv_ l1, s_, jv_ l2, s_, jv_ l3, s_, iv sq0, iv sq1, iv sq2, iv sq3, rv b16, rv b18, rv b21, rv b25, rv b30, rv b40, iv pl3, iv pl2, jv_ tgt_, s_, u_, u_, u_, u_] [] tg → Sx p e below T54 m 279 #[iv pn, iv ps, iv pg, iv pi, iv pl, iv 0, jv_ l0, s_, jv_ l1, s_, jv_ l2, s_, jv_ l3, s_, iv sq0, iv sq1, iv sq2, iv sq3, rv b16, rv b18, rv b21, rv b25, rv b30, rv b40, iv pl3, iv pl2, u_, u_, u_, u_, u_, u_] [(.long tgt_)] tg := by
        intro tg kt
        refine XS.lstore X54.here hx rfl (hb hby at_279) rfl (l' := #[iv pn, iv ps, iv pg, iv pi, iv pl, iv 0, jv_ l0, s_, jv_ l1, s_, jv_ l2, s_, jv_ l3, s_, iv sq0, iv sq1, iv sq2, iv sq3, rv b16, rv b18, rv b21, rv b25, rv b30, rv b40, iv pl3, iv pl2, jv_ tgt_, s_, u_, u_, u_, u_]) rfl ?_
        show Sx p e below T54 m 281 #[iv pn, iv ps, iv pg, iv pi, iv pl, iv 0, jv_ l0, s_, jv_ l1, s_, jv_ l2, s_, jv_ l3, s_, iv sq0, iv sq1, iv sq2, iv sq3, rv b16, rv b18, rv b21, rv b25, rv b30, rv b40, iv pl3, iv pl2, jv_ tgt_, s_, u_, u_, u_, u_] [] _
        exact kt
      obtain ⟨T66, L66, at_, X66, e66, N66, R66⟩ : ∃ (T' : State) (L' : List Loc) (at_ : Int64), Stand p l e room_1 s m #[(.int pn), (.int ps), (.int pg), (.int pi), (.int pl)] below meth c T' L' 6 28 ∧ T'.heap = T50.heap ∧ Fr n0 L' ∧ ∀ tg, Sx p e below T' m 299 #[iv pn, iv ps, iv pg, iv pi, iv pl, iv 0, jv_ l0, s_, jv_ l1, s_, jv_ l2, s_, jv_ l3, s_, iv sq0, iv sq1, iv sq2, iv sq3, rv b16, rv b18, rv b21, rv b25, rv b30, rv b40, iv pl3, iv pl2, jv_ tgt_, s_, u_, u_, u_, u_] [(.long at_)] tg → Sx p e below T54 m 281 #[iv pn, iv ps, iv pg, iv pi, iv pl, iv 0, jv_ l0, s_, jv_ l1, s_, jv_ l2, s_, jv_ l3, s_, iv sq0, iv sq1, iv sq2, iv sq3, rv b16, rv b18, rv b21, rv b25, rv b30, rv b40, iv pl3, iv pl2, jv_ tgt_, s_, u_, u_, u_, u_] [] tg := by
        have R67 : ∀ tg, Sx p e below T54 m 283 #[iv pn, iv ps, iv pg, iv pi, iv pl, iv 0, jv_ l0, s_, jv_ l1, s_, jv_ l2, s_, jv_ l3, s_, iv sq0, iv sq1, iv sq2, iv sq3, rv b16, rv b18, rv b21, rv b25, rv b30, rv b40, iv pl3, iv pl2, jv_ tgt_, s_, u_, u_, u_, u_] [(.int pl3)] tg → Sx p e below T54 m 281 #[iv pn, iv ps, iv pg, iv pi, iv pl, iv 0, jv_ l0, s_, jv_ l1, s_, jv_ l2, s_, jv_ l3, s_, iv sq0, iv sq1, iv sq2, iv sq3, rv b16, rv b18, rv b21, rv b25, rv b30, rv b40, iv pl3, iv pl2, jv_ tgt_, s_, u_, u_, u_, u_] [] tg := by
          intro tg kt
          refine XS.iload X54.here hx rfl (hb hby at_281) rfl ?_
          show Sx p e below T54 m 283 #[iv pn, iv ps, iv pg, iv pi, iv pl, iv 0, jv_ l0, s_, jv_ l1, s_, jv_ l2, s_, jv_ l3, s_, iv sq0, iv sq1, iv sq2, iv sq3, rv b16, rv b18, rv b21, rv b25, rv b30, rv b40, iv pl3, iv pl2, jv_ tgt_, s_, u_, u_, u_, u_] [(.int pl3)] _
          exact kt
        by_cases hc283_68 : pl3 = (0 : Int32)
        · have R69 : ∀ tg, Sx p e below T54 m 299 #[iv pn, iv ps, iv pg, iv pi, iv pl, iv 0, jv_ l0, s_, jv_ l1, s_, jv_ l2, s_, jv_ l3, s_, iv sq0, iv sq1, iv sq2, iv sq3, rv b16, rv b18, rv b21, rv b25, rv b30, rv b40, iv pl3, iv pl2, jv_ tgt_, s_, u_, u_, u_, u_] [(.long (pi.toInt64))] tg → Sx p e below T54 m 283 #[iv pn, iv ps, iv pg, iv pi, iv pl, iv 0, jv_ l0, s_, jv_ l1, s_, jv_ l2, s_, jv_ l3, s_, iv sq0, iv sq1, iv sq2, iv sq3, rv b16, rv b18, rv b21, rv b25, rv b30, rv b40, iv pl3, iv pl2, jv_ tgt_, s_, u_, u_, u_, u_] [(.int pl3)] tg := by
            intro tg kt
            refine XS.ifNo X54.here hx rfl (hb hby at_283) rfl ((if0 _ _).trans (teq hc283_68).2) ?_
            refine XS.iloadN X54.here hx rfl (hb hby at_286) rfl ?_
            refine XS.i2l X54.here hx rfl (hb hby at_287) rfl ?_
            refine XS.goto X54.here hx rfl (pc0 := 288) (pc' := 299) rfl (hb hby at_288) (by decide) (by decide) ?_
            show Sx p e below T54 m 299 #[iv pn, iv ps, iv pg, iv pi, iv pl, iv 0, jv_ l0, s_, jv_ l1, s_, jv_ l2, s_, jv_ l3, s_, iv sq0, iv sq1, iv sq2, iv sq3, rv b16, rv b18, rv b21, rv b25, rv b30, rv b40, iv pl3, iv pl2, jv_ tgt_, s_, u_, u_, u_, u_] [(.long (pi.toInt64))] _
            exact kt
          exact ⟨T54, _, (pi.toInt64), X54.more (by decide) (by decide), e54, N54, fun _ kt => (R67 _ (R69 _ kt))⟩
        · have R70 : ∀ tg, Sx p e below T54 m 299 #[iv pn, iv ps, iv pg, iv pi, iv pl, iv 0, jv_ l0, s_, jv_ l1, s_, jv_ l2, s_, jv_ l3, s_, iv sq0, iv sq1, iv sq2, iv sq3, rv b16, rv b18, rv b21, rv b25, rv b30, rv b40, iv pl3, iv pl2, jv_ tgt_, s_, u_, u_, u_, u_] [(.long (tgt_ + ((pl3 - (2 : Int32)).toInt64)))] tg → Sx p e below T54 m 283 #[iv pn, iv ps, iv pg, iv pi, iv pl, iv 0, jv_ l0, s_, jv_ l1, s_, jv_ l2, s_, jv_ l3, s_, iv sq0, iv sq1, iv sq2, iv sq3, rv b16, rv b18, rv b21, rv b25, rv b30, rv b40, iv pl3, iv pl2, jv_ tgt_, s_, u_, u_, u_, u_] [(.int pl3)] tg := by
            intro tg kt
            refine XS.ifYes X54.here hx rfl (pc0 := 283) (pc' := 291) rfl (hb hby at_283) rfl ((if0 _ _).trans (feq hc283_68).2) (by decide) (by decide) ?_
            refine XS.lload X54.here hx rfl (hb hby at_291) rfl ?_
            refine XS.iload X54.here hx rfl (hb hby at_293) rfl ?_
            refine XS.iconst X54.here hx rfl (hb hby at_295) ?_
            refine XS.isub X54.here hx rfl (hb hby at_296) rfl ?_
            show Sx p e below T54 m 297 #[iv pn, iv ps, iv pg, iv pi, iv pl, iv 0, jv_ l0, s_, jv_ l1, s_, jv_ l2, s_, jv_ l3, s_, iv sq0, iv sq1, iv sq2, iv sq3, rv b16, rv b18, rv b21, rv b25, rv b30, rv b40, iv pl3, iv pl2, jv_ tgt_, s_, u_, u_, u_, u_] [(.int (pl3 - (2 : Int32))), (.long tgt_)] _
            refine XS.i2l X54.here hx rfl (hb hby at_297) rfl ?_
            refine XS.ladd X54.here hx rfl (hb hby at_298) rfl ?_
            show Sx p e below T54 m 299 #[iv pn, iv ps, iv pg, iv pi, iv pl, iv 0, jv_ l0, s_, jv_ l1, s_, jv_ l2, s_, jv_ l3, s_, iv sq0, iv sq1, iv sq2, iv sq3, rv b16, rv b18, rv b21, rv b25, rv b30, rv b40, iv pl3, iv pl2, jv_ tgt_, s_, u_, u_, u_, u_] [(.long (tgt_ + ((pl3 - (2 : Int32)).toInt64)))] _
            exact kt
          exact ⟨T54, _, (tgt_ + ((pl3 - (2 : Int32)).toInt64)), X54.more (by decide) (by decide), e54, N54, fun _ kt => (R67 _ (R70 _ kt))⟩
      obtain ⟨_, _, ⟨T71, L71, k71, n71⟩, -, X71, ⟨Lc71, hQ71, l71, y71, z71⟩, st71⟩ := Jvm.LawKit.callS X66 hx (y := (⟨"java/lang/Math", "min", "(JJ)J"⟩ : MethodName)) hown (mvT hZ (w_ hw 91 rfl)) (mvT hZ (w_ hw 92 rfl)) (mvT hZ (w_ hw 93 rfl)) (mvT hZ (w_ hw 94 rfl)) (by decide) (backOf (W := 2) (rmMnJ l Z a0 hw [] (2147483647 : Int64) at_ T50.heap n0 Z50) hZ (w_ hw 94 rfl) (w_ hw 93 rfl) (by decide) (by decide)) (g := (mkF m 309 #[iv pn, iv ps, iv pg, iv pi, iv pl, iv 0, jv_ l0, s_, jv_ l1, s_, jv_ l2, s_, jv_ l3, s_, iv sq0, iv sq1, iv sq2, iv sq3, rv b16, rv b18, rv b21, rv b25, rv b30, rv b40, iv pl3, iv pl2, jv_ tgt_, s_, jv_ at_, s_, u_, u_] [(.long at_), (.long 2147483647), (.long (-2147483648))])) rfl (by rw [hml]; rfl) (argsL := [(.long 2147483647), (.long at_)]) (rest := [(.long (-2147483648))]) (lenOf pd_17 rfl) rfl (by show 2 * 0 + _ ≤ _; exact Nat.le_of_eq rfl) (hb hby at_309) (fun _ _ => ⟨rfl, e66, (by decide : 6 + 0 ≤ _), (by decide : 28 + 0 ≤ _)⟩)
      dsimp only [Pt.U, Pt.locs, Pt.cells, Pt.slots] at X71 l71 y71 z71 st71 hQ71
      subst l71 y71 z71
      obtain ⟨hv71, N71q, r71⟩ := hQ71
      subst hv71
      have N71 := Fr.app N66 N71q
      obtain ⟨_, _, ⟨T72, L72, k72, n72⟩, -, X72, ⟨Lc72, hQ72, l72, y72, z72⟩, st72⟩ := Jvm.LawKit.callS X71 hx (y := (⟨"java/lang/Math", "max", "(JJ)J"⟩ : MethodName)) hown (mvT hZ (w_ hw 95 rfl)) (mvT hZ (w_ hw 96 rfl)) (mvT hZ (w_ hw 93 rfl)) (mvT hZ (w_ hw 97 rfl)) (by decide) (backOf (W := 0) (rmMxJ l Z a0 hw [] (-2147483648 : Int64) (if (0 : Int32) < (lcmpW (2147483647 : Int64) at_) then at_ else (2147483647 : Int64)) T50.heap n0 Z50) hZ (w_ hw 97 rfl) (w_ hw 93 rfl) (by decide) (by decide)) (g := (mkF m 312 #[iv pn, iv ps, iv pg, iv pi, iv pl, iv 0, jv_ l0, s_, jv_ l1, s_, jv_ l2, s_, jv_ l3, s_, iv sq0, iv sq1, iv sq2, iv sq3, rv b16, rv b18, rv b21, rv b25, rv b30, rv b40, iv pl3, iv pl2, jv_ tgt_, s_, jv_ at_, s_, u_, u_] [(.long (if (0 : Int32) < (lcmpW (2147483647 : Int64) at_) then at_ else (2147483647 : Int64))), (.long (-2147483648))])) rfl (by rw [hml]; rfl) (argsL := [(.long (-2147483648)), (.long (if (0 : Int32) < (lcmpW (2147483647 : Int64) at_) then at_ else (2147483647 : Int64)))]) (rest := []) (lenOf pd_17 rfl) rfl (by show 2 * 0 + _ ≤ _; exact Nat.le_of_eq rfl) (hb hby at_312) (fun _ _ => ⟨rfl, r71, (by decide : 6 + 0 ≤ _), (by decide : 28 + 0 ≤ _)⟩)
      dsimp only [Pt.U, Pt.locs, Pt.cells, Pt.slots] at X72 l72 y72 z72 st72 hQ72
      subst l72 y72 z72
      obtain ⟨hv72, N72q, r72⟩ := hQ72
      subst hv72
      have N72 := Fr.app N71 N72q
      obtain ⟨clp, hclp⟩ : ∃ z, z = (if (lcmpW (-2147483648 : Int64) (if (0 : Int32) < (lcmpW (2147483647 : Int64) at_) then at_ else (2147483647 : Int64))) < (0 : Int32) then (if (0 : Int32) < (lcmpW (2147483647 : Int64) at_) then at_ else (2147483647 : Int64)) else (-2147483648 : Int64)) := ⟨_, rfl⟩
      have R73 : ∀ tg, Sx p e below T72 m 317 #[iv pn, iv ps, iv pg, iv pi, iv pl, iv 0, jv_ l0, s_, jv_ l1, s_, jv_ l2, s_, jv_ l3, s_, iv sq0, iv sq1, iv sq2, iv sq3, rv b16, rv b18, rv b21, rv b25, rv b30, rv b40, iv pl3, iv pl2, jv_ tgt_, s_, jv_ (if (lcmpW (-2147483648 : Int64) (if (0 : Int32) < (lcmpW (2147483647 : Int64) at_) then at_ else (2147483647 : Int64))) < (0 : Int32) then (if (0 : Int32) < (lcmpW (2147483647 : Int64) at_) then at_ else (2147483647 : Int64)) else (-2147483648 : Int64)), s_, u_, u_] [] tg → Sx p e below T66 m 299 #[iv pn, iv ps, iv pg, iv pi, iv pl, iv 0, jv_ l0, s_, jv_ l1, s_, jv_ l2, s_, jv_ l3, s_, iv sq0, iv sq1, iv sq2, iv sq3, rv b16, rv b18, rv b21, rv b25, rv b30, rv b40, iv pl3, iv pl2, jv_ tgt_, s_, u_, u_, u_, u_] [(.long at_)] tg := by
        intro tg kt
        refine XS.lstore X66.here hx rfl (hb hby at_299) rfl (l' := #[iv pn, iv ps, iv pg, iv pi, iv pl, iv 0, jv_ l0, s_, jv_ l1, s_, jv_ l2, s_, jv_ l3, s_, iv sq0, iv sq1, iv sq2, iv sq3, rv b16, rv b18, rv b21, rv b25, rv b30, rv b40, iv pl3, iv pl2, jv_ tgt_, s_, jv_ at_, s_, u_, u_]) rfl ?_
        refine X66.ldc2Long hx hown (mvT hZ (w_ hw 90 rfl)) (g := (mkF m 301 #[iv pn, iv ps, iv pg, iv pi, iv pl, iv 0, jv_ l0, s_, jv_ l1, s_, jv_ l2, s_, jv_ l3, s_, iv sq0, iv sq1, iv sq2, iv sq3, rv b16, rv b18, rv b21, rv b25, rv b30, rv b40, iv pl3, iv pl2, jv_ tgt_, s_, jv_ at_, s_, u_, u_] [])) rfl (hb hby at_301) _ ?_
        refine X66.ldc2Long hx hown (mvT hZ (w_ hw 1 rfl)) (g := (mkF m 304 #[iv pn, iv ps, iv pg, iv pi, iv pl, iv 0, jv_ l0, s_, jv_ l1, s_, jv_ l2, s_, jv_ l3, s_, iv sq0, iv sq1, iv sq2, iv sq3, rv b16, rv b18, rv b21, rv b25, rv b30, rv b40, iv pl3, iv pl2, jv_ tgt_, s_, jv_ at_, s_, u_, u_] [(.long (-2147483648))])) rfl (hb hby at_304) _ ?_
        refine XS.lload X66.here hx rfl (hb hby at_307) rfl ?_
        refine st71 _ ?_
        show Sx p e below T71 m 312 #[iv pn, iv ps, iv pg, iv pi, iv pl, iv 0, jv_ l0, s_, jv_ l1, s_, jv_ l2, s_, jv_ l3, s_, iv sq0, iv sq1, iv sq2, iv sq3, rv b16, rv b18, rv b21, rv b25, rv b30, rv b40, iv pl3, iv pl2, jv_ tgt_, s_, jv_ at_, s_, u_, u_] [(.long (if (0 : Int32) < (lcmpW (2147483647 : Int64) at_) then at_ else (2147483647 : Int64))), (.long (-2147483648))] _
        refine st72 _ ?_
        refine XS.lstore X72.here hx rfl (hb hby at_315) rfl (l' := #[iv pn, iv ps, iv pg, iv pi, iv pl, iv 0, jv_ l0, s_, jv_ l1, s_, jv_ l2, s_, jv_ l3, s_, iv sq0, iv sq1, iv sq2, iv sq3, rv b16, rv b18, rv b21, rv b25, rv b30, rv b40, iv pl3, iv pl2, jv_ tgt_, s_, jv_ (if (lcmpW (-2147483648 : Int64) (if (0 : Int32) < (lcmpW (2147483647 : Int64) at_) then at_ else (2147483647 : Int64))) < (0 : Int32) then (if (0 : Int32) < (lcmpW (2147483647 : Int64) at_) then at_ else (2147483647 : Int64)) else (-2147483648 : Int64)), s_, u_, u_]) rfl ?_
        show Sx p e below T72 m 317 #[iv pn, iv ps, iv pg, iv pi, iv pl, iv 0, jv_ l0, s_, jv_ l1, s_, jv_ l2, s_, jv_ l3, s_, iv sq0, iv sq1, iv sq2, iv sq3, rv b16, rv b18, rv b21, rv b25, rv b30, rv b40, iv pl3, iv pl2, jv_ tgt_, s_, jv_ (if (lcmpW (-2147483648 : Int64) (if (0 : Int32) < (lcmpW (2147483647 : Int64) at_) then at_ else (2147483647 : Int64))) < (0 : Int32) then (if (0 : Int32) < (lcmpW (2147483647 : Int64) at_) then at_ else (2147483647 : Int64)) else (-2147483648 : Int64)), s_, u_, u_] [] _
        exact kt
      have R74 : ∀ tg, Sx p e below T72 m 317 #[iv pn, iv ps, iv pg, iv pi, iv pl, iv 0, jv_ l0, s_, jv_ l1, s_, jv_ l2, s_, jv_ l3, s_, iv sq0, iv sq1, iv sq2, iv sq3, rv b16, rv b18, rv b21, rv b25, rv b30, rv b40, iv pl3, iv pl2, jv_ tgt_, s_, jv_ clp, s_, u_, u_] [] tg → Sx p e below T72 m 317 #[iv pn, iv ps, iv pg, iv pi, iv pl, iv 0, jv_ l0, s_, jv_ l1, s_, jv_ l2, s_, jv_ l3, s_, iv sq0, iv sq1, iv sq2, iv sq3, rv b16, rv b18, rv b21, rv b25, rv b30, rv b40, iv pl3, iv pl2, jv_ tgt_, s_, jv_ (if (lcmpW (-2147483648 : Int64) (if (0 : Int32) < (lcmpW (2147483647 : Int64) at_) then at_ else (2147483647 : Int64))) < (0 : Int32) then (if (0 : Int32) < (lcmpW (2147483647 : Int64) at_) then at_ else (2147483647 : Int64)) else (-2147483648 : Int64)), s_, u_, u_] [] tg := fun tg kt => by rw [← hclp]; exact kt
      obtain ⟨ix, hix⟩ : ∃ z, z = (clp.toInt32) := ⟨_, rfl⟩
      have R75 : ∀ tg, Sx p e below T72 m 322 #[iv pn, iv ps, iv pg, iv pi, iv pl, iv 0, jv_ l0, s_, jv_ l1, s_, jv_ l2, s_, jv_ l3, s_, iv sq0, iv sq1, iv sq2, iv sq3, rv b16, rv b18, rv b21, rv b25, rv b30, rv b40, iv pl3, iv pl2, jv_ tgt_, s_, jv_ clp, s_, iv (clp.toInt32), u_] [] tg → Sx p e below T72 m 317 #[iv pn, iv ps, iv pg, iv pi, iv pl, iv 0, jv_ l0, s_, jv_ l1, s_, jv_ l2, s_, jv_ l3, s_, iv sq0, iv sq1, iv sq2, iv sq3, rv b16, rv b18, rv b21, rv b25, rv b30, rv b40, iv pl3, iv pl2, jv_ tgt_, s_, jv_ clp, s_, u_, u_] [] tg := by
        intro tg kt
        refine XS.lload X72.here hx rfl (hb hby at_317) rfl ?_
        refine XS.l2i X72.here hx rfl (hb hby at_319) rfl ?_
        refine XS.istore X72.here hx rfl (hb hby at_320) rfl (l' := #[iv pn, iv ps, iv pg, iv pi, iv pl, iv 0, jv_ l0, s_, jv_ l1, s_, jv_ l2, s_, jv_ l3, s_, iv sq0, iv sq1, iv sq2, iv sq3, rv b16, rv b18, rv b21, rv b25, rv b30, rv b40, iv pl3, iv pl2, jv_ tgt_, s_, jv_ clp, s_, iv (clp.toInt32), u_]) rfl ?_
        show Sx p e below T72 m 322 #[iv pn, iv ps, iv pg, iv pi, iv pl, iv 0, jv_ l0, s_, jv_ l1, s_, jv_ l2, s_, jv_ l3, s_, iv sq0, iv sq1, iv sq2, iv sq3, rv b16, rv b18, rv b21, rv b25, rv b30, rv b40, iv pl3, iv pl2, jv_ tgt_, s_, jv_ clp, s_, iv (clp.toInt32), u_] [] _
        exact kt
      have R76 : ∀ tg, Sx p e below T72 m 322 #[iv pn, iv ps, iv pg, iv pi, iv pl, iv 0, jv_ l0, s_, jv_ l1, s_, jv_ l2, s_, jv_ l3, s_, iv sq0, iv sq1, iv sq2, iv sq3, rv b16, rv b18, rv b21, rv b25, rv b30, rv b40, iv pl3, iv pl2, jv_ tgt_, s_, jv_ clp, s_, iv ix, u_] [] tg → Sx p e below T72 m 322 #[iv pn, iv ps, iv pg, iv pi, iv pl, iv 0, jv_ l0, s_, jv_ l1, s_, jv_ l2, s_, jv_ l3, s_, iv sq0, iv sq1, iv sq2, iv sq3, rv b16, rv b18, rv b21, rv b25, rv b30, rv b40, iv pl3, iv pl2, jv_ tgt_, s_, jv_ clp, s_, iv (clp.toInt32), u_] [] tg := fun tg kt => by rw [← hix]; exact kt
      have f78 := (A40.keep kp50)
      obtain ⟨cq77, kq77, q77a, q77b, q77c⟩ := isOf hZ r72 f78
      obtain ⟨_, _, ⟨T77, L77, k77, n77⟩, -, X77, ⟨Lc77, hQ77, l77, y77, z77⟩, st77⟩ := X72.virtualBack hx (y := (⟨"com/example/clausemap/clausemap/outline/Outline", "partAt", "(I)Lcom/example/clausemap/clausemap/outline/Part;"⟩ : MethodName)) (z := (⟨"com/example/clausemap/clausemap/outline/Outline", "partAt", "(I)Lcom/example/clausemap/clausemap/outline/Part;"⟩ : MethodName)) hown (mvT hZ (w_ hw 98 rfl)) (mvT hZ (w_ hw 99 rfl)) (notFace_of_selects (args := #[]) (mvT hZ (w_ hw 101 rfl))) (mvT hZ (w_ hw 101 rfl)) (mvT hZ (w_ hw 100 rfl)) (by decide) (backOf (W := 0) (rmP0 l Z a0 hw [] b40 lb50  em ix  T50.heap n0 Z50 fp50 lv50   ) hZ (w_ hw 102 rfl) (w_ hw 54 rfl) (by decide) (by decide)) q77a q77c (g := (mkF m 396 #[iv pn, iv ps, iv pg, iv pi, iv pl, iv 0, jv_ l0, s_, jv_ l1, s_, jv_ l2, s_, jv_ l3, s_, iv sq0, iv sq1, iv sq2, iv sq3, rv b16, rv b18, rv b21, rv b25, rv b30, rv b40, iv pl3, iv pl2, jv_ tgt_, s_, jv_ clp, s_, iv ix, n_] [(.int ix), (.ref b40)])) rfl (by rw [hml]; rfl) (Steps.refl _) (argsL := [(.int ix)]) (rest := []) (lenOf pd_18 rfl) rfl (by show 2 * 0 + _ ≤ _; exact Nat.le_of_eq rfl) (hb hby at_396) (fun _ _ => ⟨rfl, r72, (by decide : 6 + 0 ≤ _), (by decide : 28 + 0 ≤ _)⟩)
      dsimp only [Pt.U, Pt.locs, Pt.cells, Pt.slots] at X77 l77 y77 z77 st77 hQ77
      subst l77 y77 z77
      obtain ⟨hv77, N77q, r77⟩ := hQ77
      subst hv77
      have N77 := Fr.app N72 N77q
      obtain ⟨fs, hr, hrun, hended, hW, hsame⟩ := X77.leave (v := some (.int 1)) (fun h => by rw [Bd.returns] at h; cases h)
      refine ⟨_, _, pre0 _ (R1 _ (R2 _ (R3 _ (R4 _ (R5 _ (R6 _ (R7 _ (R8 _ (R9 _ (R11 _ (R12 _ (R13 _ (R14 _ (R15 _ (R37 _ (R39 _ (R51 _ (R52 _ (R53 _ (R54 _ (R65 _ (R66 _ (R73 _ (R74 _ (R75 _ (R76 _ ?_)))))))))))))))))))))))))), hrun, hended, _, _, rfl, ?_, ⟨_, rfl⟩, hW, hsame.mono (by decide) (by decide)⟩
      · show Sx p e below T72 m 322 #[iv pn, iv ps, iv pg, iv pi, iv pl, iv 0, jv_ l0, s_, jv_ l1, s_, jv_ l2, s_, jv_ l3, s_, iv sq0, iv sq1, iv sq2, iv sq3, rv b16, rv b18, rv b21, rv b25, rv b30, rv b40, iv pl3, iv pl2, jv_ tgt_, s_, jv_ clp, s_, iv ix, u_] [] _
        refine XS.aconstNull X72.here hx rfl (hb hby at_322) ?_
        refine XS.astore X72.here hx rfl (hb hby at_323) rfl rfl (l' := #[iv pn, iv ps, iv pg, iv pi, iv pl, iv 0, jv_ l0, s_, jv_ l1, s_, jv_ l2, s_, jv_ l3, s_, iv sq0, iv sq1, iv sq2, iv sq3, rv b16, rv b18, rv b21, rv b25, rv b30, rv b40, iv pl3, iv pl2, jv_ tgt_, s_, jv_ clp, s_, iv ix, n_]) rfl ?_
        refine XS.iload X72.here hx rfl (hb hby at_325) rfl ?_
        refine XS.ifYes X72.here hx rfl (pc0 := 327) (pc' := 341) rfl (hb hby at_327) rfl ((if0 _ _).trans (flt (by decide : ¬ ((0 : Int32) < (0 : Int32)))).2.2.2) (by decide) (by decide) ?_
        refine XS.iload X72.here hx rfl (hb hby at_341) rfl ?_
        show Sx p e below T72 m 343 #[iv pn, iv ps, iv pg, iv pi, iv pl, iv 0, jv_ l0, s_, jv_ l1, s_, jv_ l2, s_, jv_ l3, s_, iv sq0, iv sq1, iv sq2, iv sq3, rv b16, rv b18, rv b21, rv b25, rv b30, rv b40, iv pl3, iv pl2, jv_ tgt_, s_, jv_ clp, s_, iv ix, n_] [(.int 0)] _
        refine XS.iconst X72.here hx rfl (hb hby at_343) ?_
        refine XS.icmpYes X72.here hx rfl (pc0 := 344) (pc' := 358) rfl (hb hby at_344) rfl (flt (by decide : ¬ ((1 : Int32) < (0 : Int32)))).2.2.2 (by decide) (by decide) ?_
        refine XS.iload X72.here hx rfl (hb hby at_358) rfl ?_
        refine XS.iconst X72.here hx rfl (hb hby at_360) ?_
        refine XS.icmpYes X72.here hx rfl (pc0 := 361) (pc' := 375) rfl (hb hby at_361) rfl (flt (by decide : ¬ ((2 : Int32) < (0 : Int32)))).2.2.2 (by decide) (by decide) ?_
        show Sx p e below T72 m 375 #[iv pn, iv ps, iv pg, iv pi, iv pl, iv 0, jv_ l0, s_, jv_ l1, s_, jv_ l2, s_, jv_ l3, s_, iv sq0, iv sq1, iv sq2, iv sq3, rv b16, rv b18, rv b21, rv b25, rv b30, rv b40, iv pl3, iv pl2, jv_ tgt_, s_, jv_ clp, s_, iv ix, n_] [] _
        refine XS.iload X72.here hx rfl (hb hby at_375) rfl ?_
        refine XS.iconst X72.here hx rfl (hb hby at_377) ?_
        refine XS.icmpYes X72.here hx rfl (pc0 := 378) (pc' := 392) rfl (hb hby at_378) rfl (flt (by decide : ¬ ((3 : Int32) < (0 : Int32)))).2.2.2 (by decide) (by decide) ?_
        refine XS.aload X72.here hx rfl (hb hby at_392) rfl rfl ?_
        refine XS.iload X72.here hx rfl (hb hby at_394) rfl ?_
        show Sx p e below T72 m 396 #[iv pn, iv ps, iv pg, iv pi, iv pl, iv 0, jv_ l0, s_, jv_ l1, s_, jv_ l2, s_, jv_ l3, s_, iv sq0, iv sq1, iv sq2, iv sq3, rv b16, rv b18, rv b21, rv b25, rv b30, rv b40, iv pl3, iv pl2, jv_ tgt_, s_, jv_ clp, s_, iv ix, n_] [(.int ix), (.ref b40)] _
        refine st77.trans ?_
        refine XS.aload X77.here hx rfl (hb hby at_399) rfl rfl ?_
        refine Jvm.RoadKit.acmp (g := (mkF m 401 #[iv pn, iv ps, iv pg, iv pi, iv pl, iv 0, jv_ l0, s_, jv_ l1, s_, jv_ l2, s_, jv_ l3, s_, iv sq0, iv sq1, iv sq2, iv sq3, rv b16, rv b18, rv b21, rv b25, rv b30, rv b40, iv pl3, iv pl2, jv_ tgt_, s_, jv_ clp, s_, iv ix, n_] [.null, .null])) X77 hx rfl rfl rfl (pc0 := 401) (pc' := 404) (same := true) rfl (hb hby at_401) rfl (decide_eq_true rfl) (by decide) (by decide) ?_
        refine XS.iconst X77.here hx rfl (hb hby at_404) ?_
        refine XS.goto X77.here hx rfl (pc0 := 405) (pc' := 409) rfl (hb hby at_405) (by decide) (by decide) ?_
        show Sx p e below T77 m 409 #[iv pn, iv ps, iv pg, iv pi, iv pl, iv 0, jv_ l0, s_, jv_ l1, s_, jv_ l2, s_, jv_ l3, s_, iv sq0, iv sq1, iv sq2, iv sq3, rv b16, rv b18, rv b21, rv b25, rv b30, rv b40, iv pl3, iv pl2, jv_ tgt_, s_, jv_ clp, s_, iv ix, n_] [(.int 1)] _
        exact retN X77 hx (t := .boolean) Bd.returns (by simp) (hb hby at_409) hr
      · show Q0 n0 _ T77.heap _
        rw [r77]
        exact ⟨rfl, N77⟩
    · have R79 : ∀ tg, Sx p e below T36 m 165 #[iv pn, iv ps, iv pg, iv pi, iv pl, iv 1, jv_ l0, s_, jv_ l1, s_, jv_ l2, s_, jv_ l3, s_, iv sq0, iv sq1, iv sq2, iv sq3, rv b16, rv b18, rv b21, rv b25, rv b30, u_, u_, u_, u_, u_, u_, u_, u_, u_] [] tg → Sx p e below T36 m 165 #[iv pn, iv ps, iv pg, iv pi, iv pl, iv ((pn &&& (2147483647 : Int32)) % (5 : Int32)), jv_ l0, s_, jv_ l1, s_, jv_ l2, s_, jv_ l3, s_, iv sq0, iv sq1, iv sq2, iv sq3, rv b16, rv b18, rv b21, rv b25, rv b30, u_, u_, u_, u_, u_, u_, u_, u_, u_] [] tg := fun tg kt => by rw [hk38]; exact kt
      have f80 := (f35.keep kp36 (allS gb_b30 all0))
      have f81 := ((f31.ext E30).keep kp36)
      obtain ⟨cq82, kq82, q82a, q82b, q82c⟩ := isOf hZ rfl fa36
      obtain ⟨_, _, ⟨T82, L82, k82, n82⟩, -, X82, ⟨Lc82, hQ82, l82, y82, z82⟩, st82⟩ := X36.virtualBack hx (y := (⟨"java/util/ArrayList", "add", "(Ljava/lang/Object;)Z"⟩ : MethodName)) (z := (⟨"java/util/ArrayList", "add", "(Ljava/lang/Object;)Z"⟩ : MethodName)) hown (mvT hZ (w_ hw 115 rfl)) (mvT hZ (w_ hw 116 rfl)) (notFace_of_selects (args := #[]) (mvT hZ (w_ hw 118 rfl))) (mvT hZ (w_ hw 118 rfl)) (mvT hZ (w_ hw 117 rfl)) (by decide) (backOf (W := 0) (rmAg l Z a0 hw [] b30 b16 dc kd (0 : Int32) T36.heap n0 Z36 ⟨fa36, fb36, fc36, fd36⟩ gb_b30 (hSd.ext f80.2) (hAd.ext f80.2) f81 (Ne.symm (Old.ne f80 hAd.lt gb_b30))) hZ (w_ hw 119 rfl) (w_ hw 30 rfl) (by decide) (by decide)) q82a q82c (g := (mkF m 174 #[iv pn, iv ps, iv pg, iv pi, iv pl, iv 1, jv_ l0, s_, jv_ l1, s_, jv_ l2, s_, jv_ l3, s_, iv sq0, iv sq1, iv sq2, iv sq3, rv b16, rv b18, rv b21, rv b25, rv b30, u_, u_, u_, u_, u_, u_, u_, u_, u_] [(.ref b16), (.ref b30)])) rfl (by rw [hml]; rfl) (Steps.refl _) (argsL := [(.ref b16)]) (rest := []) (lenOf pd_19 rfl) rfl (by show 2 * 0 + _ ≤ _; exact Nat.le_of_eq rfl) (hb hby at_174) (fun _ _ => ⟨rfl, rfl, (by decide : 5 + 1 ≤ _), (by decide : 27 + 10 ≤ _)⟩)
      dsimp only [Pt.U, Pt.locs, Pt.cells, Pt.slots] at X82 l82 y82 z82 st82 hQ82
      subst l82 y82 z82
      obtain ⟨hv82, N82q, kp82, ea82, ke82, mc82, sz82, hC82⟩ := hQ82
      subst hv82
      have N82 := Fr.app N36 N82q
      have Z82 : n0 ≤ T82.heap.size := Nat.le_trans Z36 kp82.1
      obtain ⟨T83, h83, X83, e83, E83, A83, D83, -, st83⟩ := newO X82 hx hZ hown (w_ hw 52 rfl) (w_ hw 53 rfl) (w_ hw 54 rfl) rfl (g := (mkF m 220 #[iv pn, iv ps, iv pg, iv pi, iv pl, iv 1, jv_ l0, s_, jv_ l1, s_, jv_ l2, s_, jv_ l3, s_, iv sq0, iv sq1, iv sq2, iv sq3, rv b16, rv b18, rv b21, rv b25, rv b30, u_, u_, u_, u_, u_, u_, u_, u_, u_] [])) rfl (hb hby at_220) (by decide) (by decide)
      obtain ⟨b83, g83⟩ : ∃ z, z = T82.heap.size := ⟨_, rfl⟩
      rw [← g83] at A83 D83 st83
      have f84 := (f81.keep kp82)
      have ne_b16_b83 : b16 ≠ b83 := Nat.ne_of_lt (Nat.lt_of_lt_of_le (f84).lt (Nat.le_of_eq g83.symm))
      have f85 := (((f32.ext E30).keep kp36).keep kp82)
      have ne_b18_b83 : b18 ≠ b83 := Nat.ne_of_lt (Nat.lt_of_lt_of_le (f85).lt (Nat.le_of_eq g83.symm))
      have f86 := (((f33.ext E30).keep kp36).keep kp82)
      have ne_b21_b83 : b21 ≠ b83 := Nat.ne_of_lt (Nat.lt_of_lt_of_le (f86).lt (Nat.le_of_eq g83.symm))
      have f87 := (((f34.ext E30).keep kp36).keep kp82)
      have ne_b25_b83 : b25 ≠ b83 := Nat.ne_of_lt (Nat.lt_of_lt_of_le (f87).lt (Nat.le_of_eq g83.symm))
      have ne_b30_b83 : b30 ≠ b83 := Nat.ne_of_lt (Nat.lt_of_lt_of_le (hC82.1.1).lt (Nat.le_of_eq g83.symm))
      have gb_b83 : n0 ≤ b83 := Nat.le_trans Z82 (Nat.le_of_eq g83.symm)
      have Z83 : n0 ≤ h83.size := Nat.le_trans Z82 E83.1
      have F83_parts : Fld Z h83 b83 "com/example/clausemap/clausemap/outline/Outline" "parts" "Ljava/util/List;" .null := D83 (Or.inr (w_ hw 89 rfl)) (ty := (.object "java/util/List")) (by decide)
      have f88 := (ALs.ext hC82 E83)
      have f89 := (f84.ext E83)
      have f90 := ((f80.keep kp82 (allS gb_b30 all0)).ext E83)
      obtain ⟨_, _, ⟨T91, L91, k91, n91⟩, -, X91, ⟨Lc91, hQ91, l91, y91, z91⟩, st91⟩ := X83.specialBack hx (y := (⟨"com/example/clausemap/clausemap/outline/Outline", "<init>", "(Ljava/util/List;)V"⟩ : MethodName)) rfl hown (mvT hZ (w_ hw 55 rfl)) (mvT hZ (w_ hw 56 rfl)) (mvT hZ (w_ hw 57 rfl)) (by decide) (backOf (W := 1) (rmI1 l Z a0 hw [] b83 b30 ea82 b16 em ke82 mc82 h83 n0 Z83 A83 F83_parts gb_b83 (Ne.symm ne_b30_b83) f88 f89 hM f90 hSe) hZ (w_ hw 57 rfl) (w_ hw 54 rfl) (by decide) (by decide)) (g := (mkF m 226 #[iv pn, iv ps, iv pg, iv pi, iv pl, iv 1, jv_ l0, s_, jv_ l1, s_, jv_ l2, s_, jv_ l3, s_, iv sq0, iv sq1, iv sq2, iv sq3, rv b16, rv b18, rv b21, rv b25, rv b30, u_, u_, u_, u_, u_, u_, u_, u_, u_] [(.ref b30), (.ref b83), (.ref b83)])) rfl (by rw [hml]; rfl) (Steps.refl _) (a := b83) (argsL := [(.ref b30)]) (rest := [(.ref b83)]) (lenOf pd_16 rfl) rfl (by show 2 * 0 + _ ≤ _; exact Nat.le_of_eq rfl) (hb hby at_226) (fun _ _ => ⟨rfl, e83, (by decide : 7 + 2 ≤ _), (by decide : 38 + 3 ≤ _)⟩)
      dsimp only [Pt.U, Pt.locs, Pt.cells, Pt.slots] at X91 l91 y91 z91 st91 hQ91
      subst l91 y91 z91
      obtain ⟨hv91, N91q, kp91, lb91, fp91, lv91⟩ := hQ91
      subst hv91
      have N91 := Fr.app N82 N91q
      have Z91 : n0 ≤ T91.heap.size := Nat.le_trans Z83 kp91.1
      obtain ⟨pl3, hpl3⟩ : ∃ z, z = (pl &&& (3 : Int32)) := ⟨_, rfl⟩
      have R92 : ∀ tg, Sx p e below T91 m 245 #[iv pn, iv ps, iv pg, iv pi, iv pl, iv 1, jv_ l0, s_, jv_ l1, s_, jv_ l2, s_, jv_ l3, s_, iv sq0, iv sq1, iv sq2, iv sq3, rv b16, rv b18, rv b21, rv b25, rv b30, rv b83, iv (pl &&& (3 : Int32)), iv (((pl.toUInt32 >>> ((2 : Int32) &&& 31).toUInt32).toInt32) &&& (3 : Int32)), u_, u_, u_, u_, u_, u_] [] tg → Sx p e below T36 m 165 #[iv pn, iv ps, iv pg, iv pi, iv pl, iv 1, jv_ l0, s_, jv_ l1, s_, jv_ l2, s_, jv_ l3, s_, iv sq0, iv sq1, iv sq2, iv sq3, rv b16, rv b18, rv b21, rv b25, rv b30, u_, u_, u_, u_, u_, u_, u_, u_, u_] [] tg := by
        intro tg kt
        refine XS.iload X36.here hx rfl (hb hby at_165) rfl ?_
        refine XS.ifNo X36.here hx rfl (hb hby at_167) rfl ((if0 _ _).trans (tlt (by decide : (0 : Int32) < (1 : Int32))).2.2.2) ?_
        refine XS.aload X36.here hx rfl (hb hby at_170) rfl rfl ?_
        refine XS.aload X36.here hx rfl (hb hby at_172) rfl rfl ?_
        refine st82.trans ?_
        show Sx p e below T82 m 177 #[iv pn, iv ps, iv pg, iv pi, iv pl, iv 1, jv_ l0, s_, jv_ l1, s_, jv_ l2, s_, jv_ l3, s_, iv sq0, iv sq1, iv sq2, iv sq3, rv b16, rv b18, rv b21, rv b25, rv b30, u_, u_, u_, u_, u_, u_, u_, u_, u_] [(.int 1)] _
        refine XS.pop X82.here hx rfl (hb hby at_177) rfl rfl ?_
        refine XS.iload X82.here hx rfl (hb hby at_178) rfl ?_
        refine XS.iconst X82.here hx rfl (hb hby at_180) ?_
        refine XS.icmpYes X82.here hx rfl (pc0 := 181) (pc' := 192) rfl (hb hby at_181) rfl (flt (by decide : ¬ ((1 : Int32) < (1 : Int32)))).2.2.2 (by decide) (by decide) ?_
        refine XS.iload X82.here hx rfl (hb hby at_192) rfl ?_
        show Sx p e below T82 m 194 #[iv pn, iv ps, iv pg, iv pi, iv pl, iv 1, jv_ l0, s_, jv_ l1, s_, jv_ l2, s_, jv_ l3, s_, iv sq0, iv sq1, iv sq2, iv sq3, rv b16, rv b18, rv b21, rv b25, rv b30, u_, u_, u_, u_, u_, u_, u_, u_, u_] [(.int 1)] _
        refine XS.iconst X82.here hx rfl (hb hby at_194) ?_
        refine XS.icmpYes X82.here hx rfl (pc0 := 195) (pc' := 206) rfl (hb hby at_195) rfl (flt (by decide : ¬ ((2 : Int32) < (1 : Int32)))).2.2.2 (by decide) (by decide) ?_
        refine XS.iload X82.here hx rfl (hb hby at_206) rfl ?_
        refine XS.iconst X82.here hx rfl (hb hby at_208) ?_
        refine XS.icmpYes X82.here hx rfl (pc0 := 209) (pc' := 220) rfl (hb hby at_209) rfl (flt (by decide : ¬ ((3 : Int32) < (1 : Int32)))).2.2.2 (by decide) (by decide) ?_
        show Sx p e below T82 m 220 #[iv pn, iv ps, iv pg, iv pi, iv pl, iv 1, jv_ l0, s_, jv_ l1, s_, jv_ l2, s_, jv_ l3, s_, iv sq0, iv sq1, iv sq2, iv sq3, rv b16, rv b18, rv b21, rv b25, rv b30, u_, u_, u_, u_, u_, u_, u_, u_, u_] [] _
        refine st83 _ ?_
        refine XS.dup X83.here hx rfl (hb hby at_223) rfl rfl ?_
        refine XS.aload X83.here hx rfl (hb hby at_224) rfl rfl ?_
        refine st91.trans ?_
        refine XS.astore X91.here hx rfl (hb hby at_229) rfl rfl (l' := #[iv pn, iv ps, iv pg, iv pi, iv pl, iv 1, jv_ l0, s_, jv_ l1, s_, jv_ l2, s_, jv_ l3, s_, iv sq0, iv sq1, iv sq2, iv sq3, rv b16, rv b18, rv b21, rv b25, rv b30, rv b83, u_, u_, u_, u_, u_, u_, u_, u_]) rfl ?_
        show Sx p e below T91 m 231 #[iv pn, iv ps, iv pg, iv pi, iv pl, iv 1, jv_ l0, s_, jv_ l1, s_, jv_ l2, s_, jv_ l3, s_, iv sq0, iv sq1, iv sq2, iv sq3, rv b16, rv b18, rv b21, rv b25, rv b30, rv b83, u_, u_, u_, u_, u_, u_, u_, u_] [] _
        refine XS.iload X91.here hx rfl (hb hby at_231) rfl ?_
        refine XS.iconst X91.here hx rfl (hb hby at_233) ?_
        refine XS.iand X91.here hx rfl (hb hby at_234) rfl ?_
        refine XS.istore X91.here hx rfl (hb hby at_235) rfl (l' := #[iv pn, iv ps, iv pg, iv pi, iv pl, iv 1, jv_ l0, s_, jv_ l1, s_, jv_ l2, s_, jv_ l3, s_, iv sq0, iv sq1, iv sq2, iv sq3, rv b16, rv b18, rv b21, rv b25, rv b30, rv b83, iv (pl &&& (3 : Int32)), u_, u_, u_, u_, u_, u_, u_]) rfl ?_
        refine XS.iload X91.here hx rfl (hb hby at_237) rfl ?_
        show Sx p e below T91 m 239 #[iv pn, iv ps, iv pg, iv pi, iv pl, iv 1, jv_ l0, s_, jv_ l1, s_, jv_ l2, s_, jv_ l3, s_, iv sq0, iv sq1, iv sq2, iv sq3, rv b16, rv b18, rv b21, rv b25, rv b30, rv b83, iv (pl &&& (3 : Int32)), u_, u_, u_, u_, u_, u_, u_] [(.int pl)] _
        refine XS.iconst X91.here hx rfl (hb hby at_239) ?_
        refine XS.iushr X91.here hx rfl (hb hby at_240) rfl ?_
        refine XS.iconst X91.here hx rfl (hb hby at_241) ?_
        refine XS.iand X91.here hx rfl (hb hby at_242) rfl ?_
        refine XS.istore X91.here hx rfl (hb hby at_243) rfl (l' := #[iv pn, iv ps, iv pg, iv pi, iv pl, iv 1, jv_ l0, s_, jv_ l1, s_, jv_ l2, s_, jv_ l3, s_, iv sq0, iv sq1, iv sq2, iv sq3, rv b16, rv b18, rv b21, rv b25, rv b30, rv b83, iv (pl &&& (3 : Int32)), iv (((pl.toUInt32 >>> ((2 : Int32) &&& 31).toUInt32).toInt32) &&& (3 : Int32)), u_, u_, u_, u_, u_, u_]) rfl ?_
        show Sx p e below T91 m 245 #[iv pn, iv ps, iv pg, iv pi, iv pl, iv 1, jv_ l0, s_, jv_ l1, s_, jv_ l2, s_, jv_ l3, s_, iv sq0, iv sq1, iv sq2, iv sq3, rv b16, rv b18, rv b21, rv b25, rv b30, rv b83, iv (pl &&& (3 : Int32)), iv (((pl.toUInt32 >>> ((2 : Int32) &&& 31).toUInt32).toInt32) &&& (3 : Int32)), u_, u_, u_, u_, u_, u_] [] _
        exact kt
      have R93 : ∀ tg, Sx p e below T91 m 245 #[iv pn, iv ps, iv pg, iv pi, iv pl, iv 1, jv_ l0, s_, jv_ l1, s_, jv_ l2, s_, jv_ l3, s_, iv sq0, iv sq1, iv sq2, iv sq3, rv b16, rv b18, rv b21, rv b25, rv b30, rv b83, iv pl3, iv (((pl.toUInt32 >>> ((2 : Int32) &&& 31).toUInt32).toInt32) &&& (3 : Int32)), u_, u_, u_, u_, u_, u_] [] tg → Sx p e below T91 m 245 #[iv pn, iv ps, iv pg, iv pi, iv pl, iv 1, jv_ l0, s_, jv_ l1, s_, jv_ l2, s_, jv_ l3, s_, iv sq0, iv sq1, iv sq2, iv sq3, rv b16, rv b18, rv b21, rv b25, rv b30, rv b83, iv (pl &&& (3 : Int32)), iv (((pl.toUInt32 >>> ((2 : Int32) &&& 31).toUInt32).toInt32) &&& (3 : Int32)), u_, u_, u_, u_, u_, u_] [] tg := fun tg kt => by rw [← hpl3]; exact kt
      obtain ⟨pl2, hpl2⟩ : ∃ z, z = (((pl.toUInt32 >>> ((2 : Int32) &&& 31).toUInt32).toInt32) &&& (3 : Int32)) := ⟨_, rfl⟩
      have R94 : ∀ tg, Sx p e below T91 m 245 #[iv pn, iv ps, iv pg, iv pi, iv pl, iv 1, jv_ l0, s_, jv_ l1, s_, jv_ l2, s_, jv_ l3, s_, iv sq0, iv sq1, iv sq2, iv sq3, rv b16, rv b18, rv b21, rv b25, rv b30, rv b83, iv pl3, iv pl2, u_, u_, u_, u_, u_, u_] [] tg → Sx p e below T91 m 245 #[iv pn, iv ps, iv pg, iv pi, iv pl, iv 1, jv_ l0, s_, jv_ l1, s_, jv_ l2, s_, jv_ l3, s_, iv sq0, iv sq1, iv sq2, iv sq3, rv b16, rv b18, rv b21, rv b25, rv b30, rv b83, iv pl3, iv (((pl.toUInt32 >>> ((2 : Int32) &&& 31).toUInt32).toInt32) &&& (3 : Int32)), u_, u_, u_, u_, u_, u_] [] tg := fun tg kt => by rw [← hpl2]; exact kt
      obtain ⟨T95, L95, tgt_, X95, e95, N95, R95⟩ : ∃ (T' : State) (L' : List Loc) (tgt_ : Int64), Stand p l e room_1 s m #[(.int pn), (.int ps), (.int pg), (.int pi), (.int pl)] below meth c T' L' 9 41 ∧ T'.heap = T91.heap ∧ Fr n0 L' ∧ ∀ tg, Sx p e below T' m 279 #[iv pn, iv ps, iv pg, iv pi, iv pl, iv 1, jv_ l0, s_, jv_ l1, s_, jv_ l2, s_, jv_ l3, s_, iv sq0, iv sq1, iv sq2, iv sq3, rv b16, rv b18, rv b21, rv b25, rv b30, rv b83, iv pl3, iv pl2, u_, u_, u_, u_, u_, u_] [(.long tgt_)] tg → Sx p e below T91 m 245 #[iv pn, iv ps, iv pg, iv pi, iv pl, iv 1, jv_ l0, s_, jv_ l1, s_, jv_ l2, s_, jv_ l3, s_, iv sq0, iv sq1, iv sq2, iv sq3, rv b16, rv b18, rv b21, rv b25, rv b30, rv b83, iv pl3, iv pl2, u_, u_, u_, u_, u_, u_] [] tg := by
        have R96 : ∀ tg, Sx p e below T91 m 247 #[iv pn, iv ps, iv pg, iv pi, iv pl, iv 1, jv_ l0, s_, jv_ l1, s_, jv_ l2, s_, jv_ l3, s_, iv sq0, iv sq1, iv sq2, iv sq3, rv b16, rv b18, rv b21, rv b25, rv b30, rv b83, iv pl3, iv pl2, u_, u_, u_, u_, u_, u_] [(.int pl2)] tg → Sx p e below T91 m 245 #[iv pn, iv ps, iv pg, iv pi, iv pl, iv 1, jv_ l0, s_, jv_ l1, s_, jv_ l2, s_, jv_ l3, s_, iv sq0, iv sq1, iv sq2, iv sq3, rv b16, rv b18, rv b21, rv b25, rv b30, rv b83, iv pl3, iv pl2, u_, u_, u_, u_, u_, u_] [] tg := by
          intro tg kt
          refine XS.iload X91.here hx rfl (hb hby at_245) rfl ?_
          show Sx p e below T91 m 247 #[iv pn, iv ps, iv pg, iv pi, iv pl, iv 1, jv_ l0, s_, jv_ l1, s_, jv_ l2, s_, jv_ l3, s_, iv sq0, iv sq1, iv sq2, iv sq3, rv b16, rv b18, rv b21, rv b25, rv b30, rv b83, iv pl3, iv pl2, u_, u_, u_, u_, u_, u_] [(.int pl2)] _
          exact kt
        by_cases hc247_97 : pl2 = (0 : Int32)
        · have R98 : ∀ tg, Sx p e below T91 m 279 #[iv pn, iv ps, iv pg, iv pi, iv pl, iv 1, jv_ l0, s_, jv_ l1, s_, jv_ l2, s_, jv_ l3, s_, iv sq0, iv sq1, iv sq2, iv sq3, rv b16, rv b18, rv b21, rv b25, rv b30, rv b83, iv pl3, iv pl2, u_, u_, u_, u_, u_, u_] [(.long l0)] tg → Sx p e below T91 m 247 #[iv pn, iv ps, iv pg, iv pi, iv pl, iv 1, jv_ l0, s_, jv_ l1, s_, jv_ l2, s_, jv_ l3, s_, iv sq0, iv sq1, iv sq2, iv sq3, rv b16, rv b18, rv b21, rv b25, rv b30, rv b83, iv pl3, iv pl2, u_, u_, u_, u_, u_, u_] [(.int pl2)] tg := by
            intro tg kt
            refine XS.ifNo X91.here hx rfl (hb hby at_247) rfl ((if0 _ _).trans (teq hc247_97).2) ?_
            refine XS.lload X91.here hx rfl (hb hby at_250) rfl ?_
            refine XS.goto X91.here hx rfl (pc0 := 252) (pc' := 279) rfl (hb hby at_252) (by decide) (by decide) ?_
            show Sx p e below T91 m 279 #[iv pn, iv ps, iv pg, iv pi, iv pl, iv 1, jv_ l0, s_, jv_ l1, s_, jv_ l2, s_, jv_ l3, s_, iv sq0, iv sq1, iv sq2, iv sq3, rv b16, rv b18, rv b21, rv b25, rv b30, rv b83, iv pl3, iv pl2, u_, u_, u_, u_, u_, u_] [(.long l0)] _
            exact kt
          exact ⟨T91, _, l0, X91.more (by decide) (by decide), rfl, N91, fun _ kt => (R96 _ (R98 _ kt))⟩
        · have R99 : ∀ tg, Sx p e below T91 m 258 #[iv pn, iv ps, iv pg, iv pi, iv pl, iv 1, jv_ l0, s_, jv_ l1, s_, jv_ l2, s_, jv_ l3, s_, iv sq0, iv sq1, iv sq2, iv sq3, rv b16, rv b18, rv b21, rv b25, rv b30, rv b83, iv pl3, iv pl2, u_, u_, u_, u_, u_, u_] [(.int 1), (.int pl2)] tg → Sx p e below T91 m 247 #[iv pn, iv ps, iv pg, iv pi, iv pl, iv 1, jv_ l0, s_, jv_ l1, s_, jv_ l2, s_, jv_ l3, s_, iv sq0, iv sq1, iv sq2, iv sq3, rv b16, rv b18, rv b21, rv b25, rv b30, rv b83, iv pl3, iv pl2, u_, u_, u_, u_, u_, u_] [(.int pl2)] tg := by
            intro tg kt
            refine XS.ifYes X91.here hx rfl (pc0 := 247) (pc' := 255) rfl (hb hby at_247) rfl ((if0 _ _).trans (feq hc247_97).2) (by decide) (by decide) ?_
            refine XS.iload X91.here hx rfl (hb hby at_255) rfl ?_
            refine XS.iconst X91.here hx rfl (hb hby at_257) ?_
            show Sx p e below T91 m 258 #[iv pn, iv ps, iv pg, iv pi, iv pl, iv 1, jv_ l0, s_, jv_ l1, s_, jv_ l2, s_, jv_ l3, s_, iv sq0, iv sq1, iv sq2, iv sq3, rv b16, rv b18, rv b21, rv b25, rv b30, rv b83, iv pl3, iv pl2, u_, u_, u_, u_, u_, u_] [(.int 1), (.int pl2)] _
            exact kt
          by_cases hc258_100 : pl2 = (1 : Int32)
          · have R101 : ∀ tg, Sx p e below T91 m 279 #[iv pn, iv ps, iv pg, iv pi, iv pl, iv 1, jv_ l0, s_, jv_ l1, s_, jv_ l2, s_, jv_ l3, s_, iv sq0, iv sq1, iv sq2, iv sq3, rv b16, rv b18, rv b21, rv b25, rv b30, rv b83, iv pl3, iv pl2, u_, u_, u_, u_, u_, u_] [(.long l1)] tg → Sx p e below T91 m 258 #[iv pn, iv ps, iv pg, iv pi, iv pl, iv 1, jv_ l0, s_, jv_ l1, s_, jv_ l2, s_, jv_ l3, s_, iv sq0, iv sq1, iv sq2, iv sq3, rv b16, rv b18, rv b21, rv b25, rv b30, rv b83, iv pl3, iv pl2, u_, u_, u_, u_, u_, u_] [(.int 1), (.int pl2)] tg := by
              intro tg kt
              refine XS.icmpNo X91.here hx rfl (hb hby at_258) rfl (teq hc258_100).2 ?_
              refine XS.lload X91.here hx rfl (hb hby at_261) rfl ?_
              refine XS.goto X91.here hx rfl (pc0 := 263) (pc' := 279) rfl (hb hby at_263) (by decide) (by decide) ?_
              show Sx p e below T91 m 279 #[iv pn, iv ps, iv pg, iv pi, iv pl, iv 1, jv_ l0, s_, jv_ l1, s_, jv_ l2, s_, jv_ l3, s_, iv sq0, iv sq1, iv sq2, iv sq3, rv b16, rv b18, rv b21, rv b25, rv b30, rv b83, iv pl3, iv pl2, u_, u_, u_, u_, u_, u_] [(.long l1)] _
              exact kt
            exact ⟨T91, _, l1, X91.more (by decide) (by decide), rfl, N91, fun _ kt => (R96 _ (R99 _ (R101 _ kt)))⟩
          · have R102 : ∀ tg, Sx p e below T91 m 269 #[iv pn, iv ps, iv pg, iv pi, iv pl, iv 1, jv_ l0, s_, jv_ l1, s_, jv_ l2, s_, jv_ l3, s_, iv sq0, iv sq1, iv sq2, iv sq3, rv b16, rv b18, rv b21, rv b25, rv b30, rv b83, iv pl3, iv pl2, u_, u_, u_, u_, u_, u_] [(.int 2), (.int pl2)] tg → Sx p e below T91 m 258 #[iv pn, iv ps, iv pg, iv pi, iv pl, iv 1, jv_ l0, s_, jv_ l1, s_, jv_ l2, s_, jv_ l3, s_, iv sq0, iv sq1, iv sq2, iv sq3, rv b16, rv b18, rv b21, rv b25, rv b30, rv b83, iv pl3, iv pl2, u_, u_, u_, u_, u_, u_] [(.int 1), (.int pl2)] tg := by
              intro tg kt
              refine XS.icmpYes X91.here hx rfl (pc0 := 258) (pc' := 266) rfl (hb hby at_258) rfl (feq hc258_100).2 (by decide) (by decide) ?_
              refine XS.iload X91.here hx rfl (hb hby at_266) rfl ?_
              refine XS.iconst X91.here hx rfl (hb hby at_268) ?_
              show Sx p e below T91 m 269 #[iv pn, iv ps, iv pg, iv pi, iv pl, iv 1, jv_ l0, s_, jv_ l1, s_, jv_ l2, s_, jv_ l3, s_, iv sq0, iv sq1, iv sq2, iv sq3, rv b16, rv b18, rv b21, rv b25, rv b30, rv b83, iv pl3, iv pl2, u_, u_, u_, u_, u_, u_] [(.int 2), (.int pl2)] _
              exact kt
            by_cases hc269_103 : pl2 = (2 : Int32)
            · have R104 : ∀ tg, Sx p e below T91 m 279 #[iv pn, iv ps, iv pg, iv pi, iv pl, iv 1, jv_ l0, s_, jv_ l1, s_, jv_ l2, s_, jv_ l3, s_, iv sq0, iv sq1, iv sq2, iv sq3, rv b16, rv b18, rv b21, rv b25, rv b30, rv b83, iv pl3, iv pl2, u_, u_, u_, u_, u_, u_] [(.long l2)] tg → Sx p e below T91 m 269 #[iv pn, iv ps, iv pg, iv pi, iv pl, iv 1, jv_ l0, s_, jv_ l1, s_, jv_ l2, s_, jv_ l3, s_, iv sq0, iv sq1, iv sq2, iv sq3, rv b16, rv b18, rv b21, rv b25, rv b30, rv b83, iv pl3, iv pl2, u_, u_, u_, u_, u_, u_] [(.int 2), (.int pl2)] tg := by
                intro tg kt
                refine XS.icmpNo X91.here hx rfl (hb hby at_269) rfl (teq hc269_103).2 ?_
                refine XS.lload X91.here hx rfl (hb hby at_272) rfl ?_
                refine XS.goto X91.here hx rfl (pc0 := 274) (pc' := 279) rfl (hb hby at_274) (by decide) (by decide) ?_
                show Sx p e below T91 m 279 #[iv pn, iv ps, iv pg, iv pi, iv pl, iv 1, jv_ l0, s_, jv_ l1, s_, jv_ l2, s_, jv_ l3, s_, iv sq0, iv sq1, iv sq2, iv sq3, rv b16, rv b18, rv b21, rv b25, rv b30, rv b83, iv pl3, iv pl2, u_, u_, u_, u_, u_, u_] [(.long l2)] _
                exact kt
              exact ⟨T91, _, l2, X91.more (by decide) (by decide), rfl, N91, fun _ kt => (R96 _ (R99 _ (R102 _ (R104 _ kt))))⟩
            · have R105 : ∀ tg, Sx p e below T91 m 279 #[iv pn, iv ps, iv pg, iv pi, iv pl, iv 1, jv_ l0, s_, jv_ l1, s_, jv_ l2, s_, jv_ l3, s_, iv sq0, iv sq1, iv sq2, iv sq3, rv b16, rv b18, rv b21, rv b25, rv b30, rv b83, iv pl3, iv pl2, u_, u_, u_, u_, u_, u_] [(.long l3)] tg → Sx p e below T91 m 269 #[iv pn, iv ps, iv pg, iv pi, iv pl, iv 1, jv_ l0, s_, jv_ l1, s_, jv_ l2, s_, jv_ l3, s_, iv sq0, iv sq1, iv sq2, iv sq3, rv b16, rv b18, rv b21, rv b25, rv b30, rv b83, iv pl3, iv pl2, u_, u_, u_, u_, u_, u_] [(.int 2), (.int pl2)] tg := by
                intro tg kt
                refine XS.icmpYes X91.here hx rfl (pc0 := 269) (pc' := 277) rfl (hb hby at_269) rfl (feq hc269_103).2 (by decide) (by decide) ?_
                refine XS.lload X91.here hx rfl (hb hby at_277) rfl ?_
                show Sx p e below T91 m 279 #[iv pn, iv ps, iv pg, iv pi, iv pl, iv 1, jv_ l0, s_, jv_ l1, s_, jv_ l2, s_, jv_ l3, s_, iv sq0, iv sq1, iv sq2, iv sq3, rv b16, rv b18, rv b21, rv b25, rv b30, rv b83, iv pl3, iv pl2, u_, u_, u_, u_, u_, u_] [(.long l3)] _
                exact kt
              exact ⟨T91, _, l3, X91.more (by decide) (by decide), rfl, N91, fun _ kt => (R96 _ (R99 _ (R102 _ (R105 _ kt))))⟩
      have R106 : ∀ tg, Sx p e below T95 m 281 #[iv pn, iv ps, iv pg, iv pi, iv pl, iv 1, jv_ l0, s_, jv_ l1, s_, jv_ l2, s_, jv_ l3, s_, iv sq0, iv sq1, iv sq2, iv sq3, rv b16, rv b18, rv b21, rv b25, rv b30, rv b83, iv pl3, iv pl2, jv_ tgt_, s_, u_, u_, u_, u_] [] tg → Sx p e below T95 m 279 #[iv pn, iv ps, iv pg, iv pi, iv pl, iv 1, jv_ l0, s_, jv_ l1, s_, jv_ l2, s_, jv_ l3, s_, iv sq0, iv sq1, iv sq2, iv sq3, rv b16, rv b18, rv b21, rv b25, rv b30, rv b83, iv pl3, iv pl2, u_, u_, u_, u_, u_, u_] [(.long tgt_)] tg := by
        intro tg kt
        refine XS.lstore X95.here hx rfl (hb hby at_279) rfl (l' := #[iv pn, iv ps, iv pg, iv pi, iv pl, iv 1, jv_ l0, s_, jv_ l1, s_, jv_ l2, s_, jv_ l3, s_, iv sq0, iv sq1, iv sq2, iv sq3, rv b16, rv b18, rv b21, rv b25, rv b30, rv b83, iv pl3, iv pl2, jv_ tgt_, s_, u_, u_, u_, u_]) rfl ?_
        show Sx p e below T95 m 281 #[iv pn, iv ps, iv pg, iv pi, iv pl, iv 1, jv_ l0, s_, jv_ l1, s_, jv_ l2, s_, jv_ l3, s_, iv sq0, iv sq1, iv sq2, iv sq3, rv b16, rv b18, rv b21, rv b25, rv b30, rv b83, iv pl3, iv pl2, jv_ tgt_, s_, u_, u_, u_, u_] [] _
        exact kt
      obtain ⟨T107, L107, at_, X107, e107, N107, R107⟩ : ∃ (T' : State) (L' : List Loc) (at_ : Int64), Stand p l e room_1 s m #[(.int pn), (.int ps), (.int pg), (.int pi), (.int pl)] below meth c T' L' 9 41 ∧ T'.heap = T91.heap ∧ Fr n0 L' ∧ ∀ tg, Sx p e below T' m 299 #[iv pn, iv ps, iv pg, iv pi, iv pl, iv 1, jv_ l0, s_, jv_ l1, s_, jv_ l2, s_, jv_ l3, s_, iv sq0, iv sq1, iv sq2, iv sq3, rv b16, rv b18, rv b21, rv b25, rv b30, rv b83, iv pl3, iv pl2, jv_ tgt_, s_, u_, u_, u_, u_] [(.long at_)] tg → Sx p e below T95 m 281 #[iv pn, iv ps, iv pg, iv pi, iv pl, iv 1, jv_ l0, s_, jv_ l1, s_, jv_ l2, s_, jv_ l3, s_, iv sq0, iv sq1, iv sq2, iv sq3, rv b16, rv b18, rv b21, rv b25, rv b30, rv b83, iv pl3, iv pl2, jv_ tgt_, s_, u_, u_, u_, u_] [] tg := by
        have R108 : ∀ tg, Sx p e below T95 m 283 #[iv pn, iv ps, iv pg, iv pi, iv pl, iv 1, jv_ l0, s_, jv_ l1, s_, jv_ l2, s_, jv_ l3, s_, iv sq0, iv sq1, iv sq2, iv sq3, rv b16, rv b18, rv b21, rv b25, rv b30, rv b83, iv pl3, iv pl2, jv_ tgt_, s_, u_, u_, u_, u_] [(.int pl3)] tg → Sx p e below T95 m 281 #[iv pn, iv ps, iv pg, iv pi, iv pl, iv 1, jv_ l0, s_, jv_ l1, s_, jv_ l2, s_, jv_ l3, s_, iv sq0, iv sq1, iv sq2, iv sq3, rv b16, rv b18, rv b21, rv b25, rv b30, rv b83, iv pl3, iv pl2, jv_ tgt_, s_, u_, u_, u_, u_] [] tg := by
          intro tg kt
          refine XS.iload X95.here hx rfl (hb hby at_281) rfl ?_
          show Sx p e below T95 m 283 #[iv pn, iv ps, iv pg, iv pi, iv pl, iv 1, jv_ l0, s_, jv_ l1, s_, jv_ l2, s_, jv_ l3, s_, iv sq0, iv sq1, iv sq2, iv sq3, rv b16, rv b18, rv b21, rv b25, rv b30, rv b83, iv pl3, iv pl2, jv_ tgt_, s_, u_, u_, u_, u_] [(.int pl3)] _
          exact kt
        by_cases hc283_109 : pl3 = (0 : Int32)
        · have R110 : ∀ tg, Sx p e below T95 m 299 #[iv pn, iv ps, iv pg, iv pi, iv pl, iv 1, jv_ l0, s_, jv_ l1, s_, jv_ l2, s_, jv_ l3, s_, iv sq0, iv sq1, iv sq2, iv sq3, rv b16, rv b18, rv b21, rv b25, rv b30, rv b83, iv pl3, iv pl2, jv_ tgt_, s_, u_, u_, u_, u_] [(.long (pi.toInt64))] tg → Sx p e below T95 m 283 #[iv pn, iv ps, iv pg, iv pi, iv pl, iv 1, jv_ l0, s_, jv_ l1, s_, jv_ l2, s_, jv_ l3, s_, iv sq0, iv sq1, iv sq2, iv sq3, rv b16, rv b18, rv b21, rv b25, rv b30, rv b83, iv pl3, iv pl2, jv_ tgt_, s_, u_, u_, u_, u_] [(.int pl3)] tg := by
            intro tg kt
            refine XS.ifNo X95.here hx rfl (hb hby at_283) rfl ((if0 _ _).trans (teq hc283_109).2) ?_
            refine XS.iloadN X95.here hx rfl (hb hby at_286) rfl ?_
            refine XS.i2l X95.here hx rfl (hb hby at_287) rfl ?_
            refine XS.goto X95.here hx rfl (pc0 := 288) (pc' := 299) rfl (hb hby at_288) (by decide) (by decide) ?_
            show Sx p e below T95 m 299 #[iv pn, iv ps, iv pg, iv pi, iv pl, iv 1, jv_ l0, s_, jv_ l1, s_, jv_ l2, s_, jv_ l3, s_, iv sq0, iv sq1, iv sq2, iv sq3, rv b16, rv b18, rv b21, rv b25, rv b30, rv b83, iv pl3, iv pl2, jv_ tgt_, s_, u_, u_, u_, u_] [(.long (pi.toInt64))] _
            exact kt
          exact ⟨T95, _, (pi.toInt64), X95.more (by decide) (by decide), e95, N95, fun _ kt => (R108 _ (R110 _ kt))⟩
        · have R111 : ∀ tg, Sx p e below T95 m 299 #[iv pn, iv ps, iv pg, iv pi, iv pl, iv 1, jv_ l0, s_, jv_ l1, s_, jv_ l2, s_, jv_ l3, s_, iv sq0, iv sq1, iv sq2, iv sq3, rv b16, rv b18, rv b21, rv b25, rv b30, rv b83, iv pl3, iv pl2, jv_ tgt_, s_, u_, u_, u_, u_] [(.long (tgt_ + ((pl3 - (2 : Int32)).toInt64)))] tg → Sx p e below T95 m 283 #[iv pn, iv ps, iv pg, iv pi, iv pl, iv 1, jv_ l0, s_, jv_ l1, s_, jv_ l2, s_, jv_ l3, s_, iv sq0, iv sq1, iv sq2, iv sq3, rv b16, rv b18, rv b21, rv b25, rv b30, rv b83, iv pl3, iv pl2, jv_ tgt_, s_, u_, u_, u_, u_] [(.int pl3)] tg := by
            intro tg kt
            refine XS.ifYes X95.here hx rfl (pc0 := 283) (pc' := 291) rfl (hb hby at_283) rfl ((if0 _ _).trans (feq hc283_109).2) (by decide) (by decide) ?_
            refine XS.lload X95.here hx rfl (hb hby at_291) rfl ?_
            refine XS.iload X95.here hx rfl (hb hby at_293) rfl ?_
            refine XS.iconst X95.here hx rfl (hb hby at_295) ?_
            refine XS.isub X95.here hx rfl (hb hby at_296) rfl ?_
            show Sx p e below T95 m 297 #[iv pn, iv ps, iv pg, iv pi, iv pl, iv 1, jv_ l0, s_, jv_ l1, s_, jv_ l2, s_, jv_ l3, s_, iv sq0, iv sq1, iv sq2, iv sq3, rv b16, rv b18, rv b21, rv b25, rv b30, rv b83, iv pl3, iv pl2, jv_ tgt_, s_, u_, u_, u_, u_] [(.int (pl3 - (2 : Int32))), (.long tgt_)] _
            refine XS.i2l X95.here hx rfl (hb hby at_297) rfl ?_
            refine XS.ladd X95.here hx rfl (hb hby at_298) rfl ?_
            show Sx p e below T95 m 299 #[iv pn, iv ps, iv pg, iv pi, iv pl, iv 1, jv_ l0, s_, jv_ l1, s_, jv_ l2, s_, jv_ l3, s_, iv sq0, iv sq1, iv sq2, iv sq3, rv b16, rv b18, rv b21, rv b25, rv b30, rv b83, iv pl3, iv pl2, jv_ tgt_, s_, u_, u_, u_, u_] [(.long (tgt_ + ((pl3 - (2 : Int32)).toInt64)))] _
            exact kt
          exact ⟨T95, _, (tgt_ + ((pl3 - (2 : Int32)).toInt64)), X95.more (by decide) (by decide), e95, N95, fun _ kt => (R108 _ (R111 _ kt))⟩
      obtain ⟨_, _, ⟨T112, L112, k112, n112⟩, -, X112, ⟨Lc112, hQ112, l112, y112, z112⟩, st112⟩ := Jvm.LawKit.callS X107 hx (y := (⟨"java/lang/Math", "min", "(JJ)J"⟩ : MethodName)) hown (mvT hZ (w_ hw 91 rfl)) (mvT hZ (w_ hw 92 rfl)) (mvT hZ (w_ hw 93 rfl)) (mvT hZ (w_ hw 94 rfl)) (by decide) (backOf (W := 2) (rmMnJ l Z a0 hw [] (2147483647 : Int64) at_ T91.heap n0 Z91) hZ (w_ hw 94 rfl) (w_ hw 93 rfl) (by decide) (by decide)) (g := (mkF m 309 #[iv pn, iv ps, iv pg, iv pi, iv pl, iv 1, jv_ l0, s_, jv_ l1, s_, jv_ l2, s_, jv_ l3, s_, iv sq0, iv sq1, iv sq2, iv sq3, rv b16, rv b18, rv b21, rv b25, rv b30, rv b83, iv pl3, iv pl2, jv_ tgt_, s_, jv_ at_, s_, u_, u_] [(.long at_), (.long 2147483647), (.long (-2147483648))])) rfl (by rw [hml]; rfl) (argsL := [(.long 2147483647), (.long at_)]) (rest := [(.long (-2147483648))]) (lenOf pd_17 rfl) rfl (by show 2 * 0 + _ ≤ _; exact Nat.le_of_eq rfl) (hb hby at_309) (fun _ _ => ⟨rfl, e107, (by decide : 9 + 0 ≤ _), (by decide : 41 + 0 ≤ _)⟩)
      dsimp only [Pt.U, Pt.locs, Pt.cells, Pt.slots] at X112 l112 y112 z112 st112 hQ112
      subst l112 y112 z112
      obtain ⟨hv112, N112q, r112⟩ := hQ112
      subst hv112
      have N112 := Fr.app N107 N112q
      obtain ⟨_, _, ⟨T113, L113, k113, n113⟩, -, X113, ⟨Lc113, hQ113, l113, y113, z113⟩, st113⟩ := Jvm.LawKit.callS X112 hx (y := (⟨"java/lang/Math", "max", "(JJ)J"⟩ : MethodName)) hown (mvT hZ (w_ hw 95 rfl)) (mvT hZ (w_ hw 96 rfl)) (mvT hZ (w_ hw 93 rfl)) (mvT hZ (w_ hw 97 rfl)) (by decide) (backOf (W := 0) (rmMxJ l Z a0 hw [] (-2147483648 : Int64) (if (0 : Int32) < (lcmpW (2147483647 : Int64) at_) then at_ else (2147483647 : Int64)) T91.heap n0 Z91) hZ (w_ hw 97 rfl) (w_ hw 93 rfl) (by decide) (by decide)) (g := (mkF m 312 #[iv pn, iv ps, iv pg, iv pi, iv pl, iv 1, jv_ l0, s_, jv_ l1, s_, jv_ l2, s_, jv_ l3, s_, iv sq0, iv sq1, iv sq2, iv sq3, rv b16, rv b18, rv b21, rv b25, rv b30, rv b83, iv pl3, iv pl2, jv_ tgt_, s_, jv_ at_, s_, u_, u_] [(.long (if (0 : Int32) < (lcmpW (2147483647 : Int64) at_) then at_ else (2147483647 : Int64))), (.long (-2147483648))])) rfl (by rw [hml]; rfl) (argsL := [(.long (-2147483648)), (.long (if (0 : Int32) < (lcmpW (2147483647 : Int64) at_) then at_ else (2147483647 : Int64)))]) (rest := []) (lenOf pd_17 rfl) rfl (by show 2 * 0 + _ ≤ _; exact Nat.le_of_eq rfl) (hb hby at_312) (fun _ _ => ⟨rfl, r112, (by decide : 9 + 0 ≤ _), (by decide : 41 + 0 ≤ _)⟩)
      dsimp only [Pt.U, Pt.locs, Pt.cells, Pt.slots] at X113 l113 y113 z113 st113 hQ113
      subst l113 y113 z113
      obtain ⟨hv113, N113q, r113⟩ := hQ113
      subst hv113
      have N113 := Fr.app N112 N113q
      obtain ⟨clp, hclp⟩ : ∃ z, z = (if (lcmpW (-2147483648 : Int64) (if (0 : Int32) < (lcmpW (2147483647 : Int64) at_) then at_ else (2147483647 : Int64))) < (0 : Int32) then (if (0 : Int32) < (lcmpW (2147483647 : Int64) at_) then at_ else (2147483647 : Int64)) else (-2147483648 : Int64)) := ⟨_, rfl⟩
      have R114 : ∀ tg, Sx p e below T113 m 317 #[iv pn, iv ps, iv pg, iv pi, iv pl, iv 1, jv_ l0, s_, jv_ l1, s_, jv_ l2, s_, jv_ l3, s_, iv sq0, iv sq1, iv sq2, iv sq3, rv b16, rv b18, rv b21, rv b25, rv b30, rv b83, iv pl3, iv pl2, jv_ tgt_, s_, jv_ (if (lcmpW (-2147483648 : Int64) (if (0 : Int32) < (lcmpW (2147483647 : Int64) at_) then at_ else (2147483647 : Int64))) < (0 : Int32) then (if (0 : Int32) < (lcmpW (2147483647 : Int64) at_) then at_ else (2147483647 : Int64)) else (-2147483648 : Int64)), s_, u_, u_] [] tg → Sx p e below T107 m 299 #[iv pn, iv ps, iv pg, iv pi, iv pl, iv 1, jv_ l0, s_, jv_ l1, s_, jv_ l2, s_, jv_ l3, s_, iv sq0, iv sq1, iv sq2, iv sq3, rv b16, rv b18, rv b21, rv b25, rv b30, rv b83, iv pl3, iv pl2, jv_ tgt_, s_, u_, u_, u_, u_] [(.long at_)] tg := by
        intro tg kt
        refine XS.lstore X107.here hx rfl (hb hby at_299) rfl (l' := #[iv pn, iv ps, iv pg, iv pi, iv pl, iv 1, jv_ l0, s_, jv_ l1, s_, jv_ l2, s_, jv_ l3, s_, iv sq0, iv sq1, iv sq2, iv sq3, rv b16, rv b18, rv b21, rv b25, rv b30, rv b83, iv pl3, iv pl2, jv_ tgt_, s_, jv_ at_, s_, u_, u_]) rfl ?_
        refine X107.ldc2Long hx hown (mvT hZ (w_ hw 90 rfl)) (g := (mkF m 301 #[iv pn, iv ps, iv pg, iv pi, iv pl, iv 1, jv_ l0, s_, jv_ l1, s_, jv_ l2, s_, jv_ l3, s_, iv sq0, iv sq1, iv sq2, iv sq3, rv b16, rv b18, rv b21, rv b25, rv b30, rv b83, iv pl3, iv pl2, jv_ tgt_, s_, jv_ at_, s_, u_, u_] [])) rfl (hb hby at_301) _ ?_
        refine X107.ldc2Long hx hown (mvT hZ (w_ hw 1 rfl)) (g := (mkF m 304 #[iv pn, iv ps, iv pg, iv pi, iv pl, iv 1, jv_ l0, s_, jv_ l1, s_, jv_ l2, s_, jv_ l3, s_, iv sq0, iv sq1, iv sq2, iv sq3, rv b16, rv b18, rv b21, rv b25, rv b30, rv b83, iv pl3, iv pl2, jv_ tgt_, s_, jv_ at_, s_, u_, u_] [(.long (-2147483648))])) rfl (hb hby at_304) _ ?_
        refine XS.lload X107.here hx rfl (hb hby at_307) rfl ?_
        refine st112 _ ?_
        show Sx p e below T112 m 312 #[iv pn, iv ps, iv pg, iv pi, iv pl, iv 1, jv_ l0, s_, jv_ l1, s_, jv_ l2, s_, jv_ l3, s_, iv sq0, iv sq1, iv sq2, iv sq3, rv b16, rv b18, rv b21, rv b25, rv b30, rv b83, iv pl3, iv pl2, jv_ tgt_, s_, jv_ at_, s_, u_, u_] [(.long (if (0 : Int32) < (lcmpW (2147483647 : Int64) at_) then at_ else (2147483647 : Int64))), (.long (-2147483648))] _
        refine st113 _ ?_
        refine XS.lstore X113.here hx rfl (hb hby at_315) rfl (l' := #[iv pn, iv ps, iv pg, iv pi, iv pl, iv 1, jv_ l0, s_, jv_ l1, s_, jv_ l2, s_, jv_ l3, s_, iv sq0, iv sq1, iv sq2, iv sq3, rv b16, rv b18, rv b21, rv b25, rv b30, rv b83, iv pl3, iv pl2, jv_ tgt_, s_, jv_ (if (lcmpW (-2147483648 : Int64) (if (0 : Int32) < (lcmpW (2147483647 : Int64) at_) then at_ else (2147483647 : Int64))) < (0 : Int32) then (if (0 : Int32) < (lcmpW (2147483647 : Int64) at_) then at_ else (2147483647 : Int64)) else (-2147483648 : Int64)), s_, u_, u_]) rfl ?_
        show Sx p e below T113 m 317 #[iv pn, iv ps, iv pg, iv pi, iv pl, iv 1, jv_ l0, s_, jv_ l1, s_, jv_ l2, s_, jv_ l3, s_, iv sq0, iv sq1, iv sq2, iv sq3, rv b16, rv b18, rv b21, rv b25, rv b30, rv b83, iv pl3, iv pl2, jv_ tgt_, s_, jv_ (if (lcmpW (-2147483648 : Int64) (if (0 : Int32) < (lcmpW (2147483647 : Int64) at_) then at_ else (2147483647 : Int64))) < (0 : Int32) then (if (0 : Int32) < (lcmpW (2147483647 : Int64) at_) then at_ else (2147483647 : Int64)) else (-2147483648 : Int64)), s_, u_, u_] [] _
        exact kt
      have R115 : ∀ tg, Sx p e below T113 m 317 #[iv pn, iv ps, iv pg, iv pi, iv pl, iv 1, jv_ l0, s_, jv_ l1, s_, jv_ l2, s_, jv_ l3, s_, iv sq0, iv sq1, iv sq2, iv sq3, rv b16, rv b18, rv b21, rv b25, rv b30, rv b83, iv pl3, iv pl2, jv_ tgt_, s_, jv_ clp, s_, u_, u_] [] tg → Sx p e below T113 m 317 #[iv pn, iv ps, iv pg, iv pi, iv pl, iv 1, jv_ l0, s_, jv_ l1, s_, jv_ l2, s_, jv_ l3, s_, iv sq0, iv sq1, iv sq2, iv sq3, rv b16, rv b18, rv b21, rv b25, rv b30, rv b83, iv pl3, iv pl2, jv_ tgt_, s_, jv_ (if (lcmpW (-2147483648 : Int64) (if (0 : Int32) < (lcmpW (2147483647 : Int64) at_) then at_ else (2147483647 : Int64))) < (0 : Int32) then (if (0 : Int32) < (lcmpW (2147483647 : Int64) at_) then at_ else (2147483647 : Int64)) else (-2147483648 : Int64)), s_, u_, u_] [] tg := fun tg kt => by rw [← hclp]; exact kt
      obtain ⟨ix, hix⟩ : ∃ z, z = (clp.toInt32) := ⟨_, rfl⟩
      have R116 : ∀ tg, Sx p e below T113 m 322 #[iv pn, iv ps, iv pg, iv pi, iv pl, iv 1, jv_ l0, s_, jv_ l1, s_, jv_ l2, s_, jv_ l3, s_, iv sq0, iv sq1, iv sq2, iv sq3, rv b16, rv b18, rv b21, rv b25, rv b30, rv b83, iv pl3, iv pl2, jv_ tgt_, s_, jv_ clp, s_, iv (clp.toInt32), u_] [] tg → Sx p e below T113 m 317 #[iv pn, iv ps, iv pg, iv pi, iv pl, iv 1, jv_ l0, s_, jv_ l1, s_, jv_ l2, s_, jv_ l3, s_, iv sq0, iv sq1, iv sq2, iv sq3, rv b16, rv b18, rv b21, rv b25, rv b30, rv b83, iv pl3, iv pl2, jv_ tgt_, s_, jv_ clp, s_, u_, u_] [] tg := by
        intro tg kt
        refine XS.lload X113.here hx rfl (hb hby at_317) rfl ?_
        refine XS.l2i X113.here hx rfl (hb hby at_319) rfl ?_
        refine XS.istore X113.here hx rfl (hb hby at_320) rfl (l' := #[iv pn, iv ps, iv pg, iv pi, iv pl, iv 1, jv_ l0, s_, jv_ l1, s_, jv_ l2, s_, jv_ l3, s_, iv sq0, iv sq1, iv sq2, iv sq3, rv b16, rv b18, rv b21, rv b25, rv b30, rv b83, iv pl3, iv pl2, jv_ tgt_, s_, jv_ clp, s_, iv (clp.toInt32), u_]) rfl ?_
        show Sx p e below T113 m 322 #[iv pn, iv ps, iv pg, iv pi, iv pl, iv 1, jv_ l0, s_, jv_ l1, s_, jv_ l2, s_, jv_ l3, s_, iv sq0, iv sq1, iv sq2, iv sq3, rv b16, rv b18, rv b21, rv b25, rv b30, rv b83, iv pl3, iv pl2, jv_ tgt_, s_, jv_ clp, s_, iv (clp.toInt32), u_] [] _
        exact kt
      have R117 : ∀ tg, Sx p e below T113 m 322 #[iv pn, iv ps, iv pg, iv pi, iv pl, iv 1, jv_ l0, s_, jv_ l1, s_, jv_ l2, s_, jv_ l3, s_, iv sq0, iv sq1, iv sq2, iv sq3, rv b16, rv b18, rv b21, rv b25, rv b30, rv b83, iv pl3, iv pl2, jv_ tgt_, s_, jv_ clp, s_, iv ix, u_] [] tg → Sx p e below T113 m 322 #[iv pn, iv ps, iv pg, iv pi, iv pl, iv 1, jv_ l0, s_, jv_ l1, s_, jv_ l2, s_, jv_ l3, s_, iv sq0, iv sq1, iv sq2, iv sq3, rv b16, rv b18, rv b21, rv b25, rv b30, rv b83, iv pl3, iv pl2, jv_ tgt_, s_, jv_ clp, s_, iv (clp.toInt32), u_] [] tg := fun tg kt => by rw [← hix]; exact kt
      have R118 : ∀ tg, Sx p e below T113 m 325 #[iv pn, iv ps, iv pg, iv pi, iv pl, iv 1, jv_ l0, s_, jv_ l1, s_, jv_ l2, s_, jv_ l3, s_, iv sq0, iv sq1, iv sq2, iv sq3, rv b16, rv b18, rv b21, rv b25, rv b30, rv b83, iv pl3, iv pl2, jv_ tgt_, s_, jv_ clp, s_, iv ix, n_] [] tg → Sx p e below T113 m 322 #[iv pn, iv ps, iv pg, iv pi, iv pl, iv 1, jv_ l0, s_, jv_ l1, s_, jv_ l2, s_, jv_ l3, s_, iv sq0, iv sq1, iv sq2, iv sq3, rv b16, rv b18, rv b21, rv b25, rv b30, rv b83, iv pl3, iv pl2, jv_ tgt_, s_, jv_ clp, s_, iv ix, u_] [] tg := by
        intro tg kt
        refine XS.aconstNull X113.here hx rfl (hb hby at_322) ?_
        refine XS.astore X113.here hx rfl (hb hby at_323) rfl rfl (l' := #[iv pn, iv ps, iv pg, iv pi, iv pl, iv 1, jv_ l0, s_, jv_ l1, s_, jv_ l2, s_, jv_ l3, s_, iv sq0, iv sq1, iv sq2, iv sq3, rv b16, rv b18, rv b21, rv b25, rv b30, rv b83, iv pl3, iv pl2, jv_ tgt_, s_, jv_ clp, s_, iv ix, n_]) rfl ?_
        show Sx p e below T113 m 325 #[iv pn, iv ps, iv pg, iv pi, iv pl, iv 1, jv_ l0, s_, jv_ l1, s_, jv_ l2, s_, jv_ l3, s_, iv sq0, iv sq1, iv sq2, iv sq3, rv b16, rv b18, rv b21, rv b25, rv b30, rv b83, iv pl3, iv pl2, jv_ tgt_, s_, jv_ clp, s_, iv ix, n_] [] _
        exact kt
      obtain ⟨T119, L119, ex0_, X119, e119, N119, pj119_0, R119⟩ : ∃ (T' : State) (L' : List Loc) (ex0_ : Value), Stand p l e room_1 s m #[(.int pn), (.int ps), (.int pg), (.int pi), (.int pl)] below meth c T' L' 9 41 ∧ T'.heap = T91.heap ∧ Fr n0 L' ∧ (ex0_ = (if ix < sq0 then .null else .ref b16)) ∧ ∀ tg, Sx p e below T' m 341 #[iv pn, iv ps, iv pg, iv pi, iv pl, iv 1, jv_ l0, s_, jv_ l1, s_, jv_ l2, s_, jv_ l3, s_, iv sq0, iv sq1, iv sq2, iv sq3, rv b16, rv b18, rv b21, rv b25, rv b30, rv b83, iv pl3, iv pl2, jv_ tgt_, s_, jv_ clp, s_, iv ix, .val ex0_] [] tg → Sx p e below T113 m 325 #[iv pn, iv ps, iv pg, iv pi, iv pl, iv 1, jv_ l0, s_, jv_ l1, s_, jv_ l2, s_, jv_ l3, s_, iv sq0, iv sq1, iv sq2, iv sq3, rv b16, rv b18, rv b21, rv b25, rv b30, rv b83, iv pl3, iv pl2, jv_ tgt_, s_, jv_ clp, s_, iv ix, n_] [] tg := by
        have R120 : ∀ tg, Sx p e below T113 m 334 #[iv pn, iv ps, iv pg, iv pi, iv pl, iv 1, jv_ l0, s_, jv_ l1, s_, jv_ l2, s_, jv_ l3, s_, iv sq0, iv sq1, iv sq2, iv sq3, rv b16, rv b18, rv b21, rv b25, rv b30, rv b83, iv pl3, iv pl2, jv_ tgt_, s_, jv_ clp, s_, iv ix, n_] [(.int sq0), (.int ix)] tg → Sx p e below T113 m 325 #[iv pn, iv ps, iv pg, iv pi, iv pl, iv 1, jv_ l0, s_, jv_ l1, s_, jv_ l2, s_, jv_ l3, s_, iv sq0, iv sq1, iv sq2, iv sq3, rv b16, rv b18, rv b21, rv b25, rv b30, rv b83, iv pl3, iv pl2, jv_ tgt_, s_, jv_ clp, s_, iv ix, n_] [] tg := by
          intro tg kt
          refine XS.iload X113.here hx rfl (hb hby at_325) rfl ?_
          refine XS.ifNo X113.here hx rfl (hb hby at_327) rfl ((if0 _ _).trans (tlt (by decide : (0 : Int32) < (1 : Int32))).2.2.2) ?_
          refine XS.iload X113.here hx rfl (hb hby at_330) rfl ?_
          refine XS.iload X113.here hx rfl (hb hby at_332) rfl ?_
          show Sx p e below T113 m 334 #[iv pn, iv ps, iv pg, iv pi, iv pl, iv 1, jv_ l0, s_, jv_ l1, s_, jv_ l2, s_, jv_ l3, s_, iv sq0, iv sq1, iv sq2, iv sq3, rv b16, rv b18, rv b21, rv b25, rv b30, rv b83, iv pl3, iv pl2, jv_ tgt_, s_, jv_ clp, s_, iv ix, n_] [(.int sq0), (.int ix)] _
          exact kt
        by_cases hc334_121 : ix < sq0
        · have R122 : ∀ tg, Sx p e below T113 m 341 #[iv pn, iv ps, iv pg, iv pi, iv pl, iv 1, jv_ l0, s_, jv_ l1, s_, jv_ l2, s_, jv_ l3, s_, iv sq0, iv sq1, iv sq2, iv sq3, rv b16, rv b18, rv b21, rv b25, rv b30, rv b83, iv pl3, iv pl2, jv_ tgt_, s_, jv_ clp, s_, iv ix, n_] [] tg → Sx p e below T113 m 334 #[iv pn, iv ps, iv pg, iv pi, iv pl, iv 1, jv_ l0, s_, jv_ l1, s_, jv_ l2, s_, jv_ l3, s_, iv sq0, iv sq1, iv sq2, iv sq3, rv b16, rv b18, rv b21, rv b25, rv b30, rv b83, iv pl3, iv pl2, jv_ tgt_, s_, jv_ clp, s_, iv ix, n_] [(.int sq0), (.int ix)] tg := by
            intro tg kt
            refine XS.icmpYes X113.here hx rfl (pc0 := 334) (pc' := 341) rfl (hb hby at_334) rfl (tlt hc334_121).1 (by decide) (by decide) ?_
            show Sx p e below T113 m 341 #[iv pn, iv ps, iv pg, iv pi, iv pl, iv 1, jv_ l0, s_, jv_ l1, s_, jv_ l2, s_, jv_ l3, s_, iv sq0, iv sq1, iv sq2, iv sq3, rv b16, rv b18, rv b21, rv b25, rv b30, rv b83, iv pl3, iv pl2, jv_ tgt_, s_, jv_ clp, s_, iv ix, n_] [] _
            exact kt
          exact ⟨T113, _, .null, X113.more (by decide) (by decide), r113, N113, (if_pos hc334_121).symm, fun _ kt => (R120 _ (R122 _ kt))⟩
        · have R123 : ∀ tg, Sx p e below T113 m 341 #[iv pn, iv ps, iv pg, iv pi, iv pl, iv 1, jv_ l0, s_, jv_ l1, s_, jv_ l2, s_, jv_ l3, s_, iv sq0, iv sq1, iv sq2, iv sq3, rv b16, rv b18, rv b21, rv b25, rv b30, rv b83, iv pl3, iv pl2, jv_ tgt_, s_, jv_ clp, s_, iv ix, rv b16] [] tg → Sx p e below T113 m 334 #[iv pn, iv ps, iv pg, iv pi, iv pl, iv 1, jv_ l0, s_, jv_ l1, s_, jv_ l2, s_, jv_ l3, s_, iv sq0, iv sq1, iv sq2, iv sq3, rv b16, rv b18, rv b21, rv b25, rv b30, rv b83, iv pl3, iv pl2, jv_ tgt_, s_, jv_ clp, s_, iv ix, n_] [(.int sq0), (.int ix)] tg := by
            intro tg kt
            refine XS.icmpNo X113.here hx rfl (hb hby at_334) rfl (flt hc334_121).1 ?_
            refine XS.aload X113.here hx rfl (hb hby at_337) rfl rfl ?_
            refine XS.astore X113.here hx rfl (hb hby at_339) rfl rfl (l' := #[iv pn, iv ps, iv pg, iv pi, iv pl, iv 1, jv_ l0, s_, jv_ l1, s_, jv_ l2, s_, jv_ l3, s_, iv sq0, iv sq1, iv sq2, iv sq3, rv b16, rv b18, rv b21, rv b25, rv b30, rv b83, iv pl3, iv pl2, jv_ tgt_, s_, jv_ clp, s_, iv ix, rv b16]) rfl ?_
            show Sx p e below T113 m 341 #[iv pn, iv ps, iv pg, iv pi, iv pl, iv 1, jv_ l0, s_, jv_ l1, s_, jv_ l2, s_, jv_ l3, s_, iv sq0, iv sq1, iv sq2, iv sq3, rv b16, rv b18, rv b21, rv b25, rv b30, rv b83, iv pl3, iv pl2, jv_ tgt_, s_, jv_ clp, s_, iv ix, rv b16] [] _
            exact kt
          exact ⟨T113, _, (.ref b16), X113.more (by decide) (by decide), r113, N113, (if_neg hc334_121).symm, fun _ kt => (R120 _ (R123 _ kt))⟩
      have ir0 : ((if ix < sq0 then .null else .ref b16) : Value).isRef = true := by
        by_cases h : ix < sq0
        · rw [if_pos h]; rfl
        · rw [if_neg h]; rfl
      have R124 : ∀ tg, Sx p e below T119 m 341 #[iv pn, iv ps, iv pg, iv pi, iv pl, iv 1, jv_ l0, s_, jv_ l1, s_, jv_ l2, s_, jv_ l3, s_, iv sq0, iv sq1, iv sq2, iv sq3, rv b16, rv b18, rv b21, rv b25, rv b30, rv b83, iv pl3, iv pl2, jv_ tgt_, s_, jv_ clp, s_, iv ix, .val (if ix < sq0 then .null else .ref b16)] [] tg → Sx p e below T119 m 341 #[iv pn, iv ps, iv pg, iv pi, iv pl, iv 1, jv_ l0, s_, jv_ l1, s_, jv_ l2, s_, jv_ l3, s_, iv sq0, iv sq1, iv sq2, iv sq3, rv b16, rv b18, rv b21, rv b25, rv b30, rv b83, iv pl3, iv pl2, jv_ tgt_, s_, jv_ clp, s_, iv ix, .val ex0_] [] tg := fun tg kt => by rw [pj119_0]; exact kt
      have f125 := (f89.keep kp91)
      have f126 := (((((((((((fl17.ext E18).keep kp20 (ninS ne_b16_b18 nin0)).ext E21).keep kp24 (ninS ne_b16_b21 nin0)).ext E25).keep kp29 (ninS ne_b16_b25 nin0)).ext E30).keep kp36 (ninS ne_b16_b30 nin0)).keep kp82 (ninS ne_b16_b30 nin0)).ext E83).keep kp91 (ninS ne_b16_b83 nin0))
      have f127 := (f90.keep kp91 (allS gb_b83 all0))
      have f129 := (A83.keep kp91)
      obtain ⟨cq128, kq128, q128a, q128b, q128c⟩ := isOf hZ e119 f129
      obtain ⟨_, _, ⟨T128, L128, k128, n128⟩, -, X128, ⟨Lc128, hQ128, l128, y128, z128⟩, st128⟩ := X119.virtualBack hx (y := (⟨"com/example/clausemap/clausemap/outline/Outline", "partAt", "(I)Lcom/example/clausemap/clausemap/outline/Part;"⟩ : MethodName)) (z := (⟨"com/example/clausemap/clausemap/outline/Outline", "partAt", "(I)Lcom/example/clausemap/clausemap/outline/Part;"⟩ : MethodName)) hown (mvT hZ (w_ hw 98 rfl)) (mvT hZ (w_ hw 99 rfl)) (notFace_of_selects (args := #[]) (mvT hZ (w_ hw 101 rfl))) (mvT hZ (w_ hw 101 rfl)) (mvT hZ (w_ hw 100 rfl)) (by decide) (backOf (W := 0) (rmP1 l Z a0 hw [] b83 lb91 b16 em ix sq0 T91.heap n0 Z91 fp91 lv91 f125 f126  (hSe.ext f127.2)) hZ (w_ hw 102 rfl) (w_ hw 54 rfl) (by decide) (by decide)) q128a q128c (g := (mkF m 396 #[iv pn, iv ps, iv pg, iv pi, iv pl, iv 1, jv_ l0, s_, jv_ l1, s_, jv_ l2, s_, jv_ l3, s_, iv sq0, iv sq1, iv sq2, iv sq3, rv b16, rv b18, rv b21, rv b25, rv b30, rv b83, iv pl3, iv pl2, jv_ tgt_, s_, jv_ clp, s_, iv ix, .val (if ix < sq0 then .null else .ref b16)] [(.int ix), (.ref b83)])) rfl (by rw [hml]; rfl) (Steps.refl _) (argsL := [(.int ix)]) (rest := []) (lenOf pd_18 rfl) rfl (by show 2 * 0 + _ ≤ _; exact Nat.le_of_eq rfl) (hb hby at_396) (fun _ _ => ⟨rfl, e119, (by decide : 9 + 0 ≤ _), (by decide : 41 + 0 ≤ _)⟩)
      dsimp only [Pt.U, Pt.locs, Pt.cells, Pt.slots] at X128 l128 y128 z128 st128 hQ128
      subst l128 y128 z128
      obtain ⟨hv128, N128q, r128⟩ := hQ128
      subst hv128
      have N128 := Fr.app N119 N128q
      obtain ⟨fs, hr, hrun, hended, hW, hsame⟩ := X128.leave (v := some (.int 1)) (fun h => by rw [Bd.returns] at h; cases h)
      refine ⟨_, _, pre0 _ (R1 _ (R2 _ (R3 _ (R4 _ (R5 _ (R6 _ (R7 _ (R8 _ (R9 _ (R11 _ (R12 _ (R13 _ (R14 _ (R15 _ (R37 _ (R79 _ (R92 _ (R93 _ (R94 _ (R95 _ (R106 _ (R107 _ (R114 _ (R115 _ (R116 _ (R117 _ (R118 _ (R119 _ (R124 _ ?_))))))))))))))))))))))))))))), hrun, hended, _, _, rfl, ?_, ⟨_, rfl⟩, hW, hsame.mono (by decide) (by decide)⟩
      · show Sx p e below T119 m 341 #[iv pn, iv ps, iv pg, iv pi, iv pl, iv 1, jv_ l0, s_, jv_ l1, s_, jv_ l2, s_, jv_ l3, s_, iv sq0, iv sq1, iv sq2, iv sq3, rv b16, rv b18, rv b21, rv b25, rv b30, rv b83, iv pl3, iv pl2, jv_ tgt_, s_, jv_ clp, s_, iv ix, .val (if ix < sq0 then .null else .ref b16)] [] _
        refine XS.iload X119.here hx rfl (hb hby at_341) rfl ?_
        refine XS.iconst X119.here hx rfl (hb hby at_343) ?_
        refine XS.icmpYes X119.here hx rfl (pc0 := 344) (pc' := 358) rfl (hb hby at_344) rfl (flt (by decide : ¬ ((1 : Int32) < (1 : Int32)))).2.2.2 (by decide) (by decide) ?_
        refine XS.iload X119.here hx rfl (hb hby at_358) rfl ?_
        refine XS.iconst X119.here hx rfl (hb hby at_360) ?_
        show Sx p e below T119 m 361 #[iv pn, iv ps, iv pg, iv pi, iv pl, iv 1, jv_ l0, s_, jv_ l1, s_, jv_ l2, s_, jv_ l3, s_, iv sq0, iv sq1, iv sq2, iv sq3, rv b16, rv b18, rv b21, rv b25, rv b30, rv b83, iv pl3, iv pl2, jv_ tgt_, s_, jv_ clp, s_, iv ix, .val (if ix < sq0 then .null else .ref b16)] [(.int 2), (.int 1)] _
        refine XS.icmpYes X119.here hx rfl (pc0 := 361) (pc' := 375) rfl (hb hby at_361) rfl (flt (by decide : ¬ ((2 : Int32) < (1 : Int32)))).2.2.2 (by decide) (by decide) ?_
        refine XS.iload X119.here hx rfl (hb hby at_375) rfl ?_
        refine XS.iconst X119.here hx rfl (hb hby at_377) ?_
        refine XS.icmpYes X119.here hx rfl (pc0 := 378) (pc' := 392) rfl (hb hby at_378) rfl (flt (by decide : ¬ ((3 : Int32) < (1 : Int32)))).2.2.2 (by decide) (by decide) ?_
        refine XS.aload X119.here hx rfl (hb hby at_392) rfl rfl ?_
        show Sx p e below T119 m 394 #[iv pn, iv ps, iv pg, iv pi, iv pl, iv 1, jv_ l0, s_, jv_ l1, s_, jv_ l2, s_, jv_ l3, s_, iv sq0, iv sq1, iv sq2, iv sq3, rv b16, rv b18, rv b21, rv b25, rv b30, rv b83, iv pl3, iv pl2, jv_ tgt_, s_, jv_ clp, s_, iv ix, .val (if ix < sq0 then .null else .ref b16)] [(.ref b83)] _
        refine XS.iload X119.here hx rfl (hb hby at_394) rfl ?_
        refine st128.trans ?_
        refine XS.aload X128.here hx rfl (hb hby at_399) rfl ir0 ?_
        refine Jvm.RoadKit.acmp (g := (mkF m 401 #[iv pn, iv ps, iv pg, iv pi, iv pl, iv 1, jv_ l0, s_, jv_ l1, s_, jv_ l2, s_, jv_ l3, s_, iv sq0, iv sq1, iv sq2, iv sq3, rv b16, rv b18, rv b21, rv b25, rv b30, rv b83, iv pl3, iv pl2, jv_ tgt_, s_, jv_ clp, s_, iv ix, .val (if ix < sq0 then .null else .ref b16)] [(if ix < sq0 then .null else .ref b16), (if ix < sq0 then .null else .ref b16)])) X128 hx rfl ir0 ir0 (pc0 := 401) (pc' := 404) (same := true) rfl (hb hby at_401) rfl (decide_eq_true rfl) (by decide) (by decide) ?_
        refine XS.iconst X128.here hx rfl (hb hby at_404) ?_
        show Sx p e below T128 m 405 #[iv pn, iv ps, iv pg, iv pi, iv pl, iv 1, jv_ l0, s_, jv_ l1, s_, jv_ l2, s_, jv_ l3, s_, iv sq0, iv sq1, iv sq2, iv sq3, rv b16, rv b18, rv b21, rv b25, rv b30, rv b83, iv pl3, iv pl2, jv_ tgt_, s_, jv_ clp, s_, iv ix, .val (if ix < sq0 then .null else .ref b16)] [(.int 1)] _
        refine XS.goto X128.here hx rfl (pc0 := 405) (pc' := 409) rfl (hb hby at_405) (by decide) (by decide) ?_
        show Sx p e below T128 m 409 #[iv pn, iv ps, iv pg, iv pi, iv pl, iv 1, jv_ l0, s_, jv_ l1, s_, jv_ l2, s_, jv_ l3, s_, iv sq0, iv sq1, iv sq2, iv sq3, rv b16, rv b18, rv b21, rv b25, rv b30, rv b83, iv pl3, iv pl2, jv_ tgt_, s_, jv_ clp, s_, iv ix, .val (if ix < sq0 then .null else .ref b16)] [(.int 1)] _
        exact retN X128 hx (t := .boolean) Bd.returns (by simp) (hb hby at_409) hr
      · show Q0 n0 _ T128.heap _
        rw [r128]
        exact ⟨rfl, N128⟩
    · have R130 : ∀ tg, Sx p e below T36 m 165 #[iv pn, iv ps, iv pg, iv pi, iv pl, iv 2, jv_ l0, s_, jv_ l1, s_, jv_ l2, s_, jv_ l3, s_, iv sq0, iv sq1, iv sq2, iv sq3, rv b16, rv b18, rv b21, rv b25, rv b30, u_, u_, u_, u_, u_, u_, u_, u_, u_] [] tg → Sx p e below T36 m 165 #[iv pn, iv ps, iv pg, iv pi, iv pl, iv ((pn &&& (2147483647 : Int32)) % (5 : Int32)), jv_ l0, s_, jv_ l1, s_, jv_ l2, s_, jv_ l3, s_, iv sq0, iv sq1, iv sq2, iv sq3, rv b16, rv b18, rv b21, rv b25, rv b30, u_, u_, u_, u_, u_, u_, u_, u_, u_] [] tg := fun tg kt => by rw [hk38]; exact kt
      have f131 := (f35.keep kp36 (allS gb_b30 all0))
      have f132 := ((f31.ext E30).keep kp36)
      obtain ⟨cq133, kq133, q133a, q133b, q133c⟩ := isOf hZ rfl fa36
      obtain ⟨_, _, ⟨T133, L133, k133, n133⟩, -, X133, ⟨Lc133, hQ133, l133, y133, z133⟩, st133⟩ := X36.virtualBack hx (y := (⟨"java/util/ArrayList", "add", "(Ljava/lang/Object;)Z"⟩ : MethodName)) (z := (⟨"java/util/ArrayList", "add", "(Ljava/lang/Object;)Z"⟩ : MethodName)) hown (mvT hZ (w_ hw 115 rfl)) (mvT hZ (w_ hw 116 rfl)) (notFace_of_selects (args := #[]) (mvT hZ (w_ hw 118 rfl))) (mvT hZ (w_ hw 118 rfl)) (mvT hZ (w_ hw 117 rfl)) (by decide) (backOf (W := 0) (rmAg l Z a0 hw [] b30 b16 dc kd (0 : Int32) T36.heap n0 Z36 ⟨fa36, fb36, fc36, fd36⟩ gb_b30 (hSd.ext f131.2) (hAd.ext f131.2) f132 (Ne.symm (Old.ne f131 hAd.lt gb_b30))) hZ (w_ hw 119 rfl) (w_ hw 30 rfl) (by decide) (by decide)) q133a q133c (g := (mkF m 174 #[iv pn, iv ps, iv pg, iv pi, iv pl, iv 2, jv_ l0, s_, jv_ l1, s_, jv_ l2, s_, jv_ l3, s_, iv sq0, iv sq1, iv sq2, iv sq3, rv b16, rv b18, rv b21, rv b25, rv b30, u_, u_, u_, u_, u_, u_, u_, u_, u_] [(.ref b16), (.ref b30)])) rfl (by rw [hml]; rfl) (Steps.refl _) (argsL := [(.ref b16)]) (rest := []) (lenOf pd_19 rfl) rfl (by show 2 * 0 + _ ≤ _; exact Nat.le_of_eq rfl) (hb hby at_174) (fun _ _ => ⟨rfl, rfl, (by decide : 5 + 1 ≤ _), (by decide : 27 + 10 ≤ _)⟩)
      dsimp only [Pt.U, Pt.locs, Pt.cells, Pt.slots] at X133 l133 y133 z133 st133 hQ133
      subst l133 y133 z133
      obtain ⟨hv133, N133q, kp133, ea133, ke133, mc133, sz133, hC133⟩ := hQ133
      subst hv133
      have N133 := Fr.app N36 N133q
      have Z133 : n0 ≤ T133.heap.size := Nat.le_trans Z36 kp133.1
      have f135 := (f132.keep kp133)
      have nq134_b16 : b16 ≠ ea133 := own_ne_arv f135 (w_ hw 3 rfl) hC133.2.1
      have f136 := (((f32.ext E30).keep kp36).keep kp133)
      have nq134_b18 : b18 ≠ ea133 := own_ne_arv f136 (w_ hw 3 rfl) hC133.2.1
      have f137 := (((f33.ext E30).keep kp36).keep kp133)
      have nq134_b21 : b21 ≠ ea133 := own_ne_arv f137 (w_ hw 3 rfl) hC133.2.1
      have f138 := (((f34.ext E30).keep kp36).keep kp133)
      have nq134_b25 : b25 ≠ ea133 := own_ne_arv f138 (w_ hw 3 rfl) hC133.2.1
      obtain ⟨cq139, kq139, q139a, q139b, q139c⟩ := isOf hZ rfl hC133.1.1
      obtain ⟨_, _, ⟨T139, L139, k139, n139⟩, -, X139, ⟨Lc139, hQ139, l139, y139, z139⟩, st139⟩ := X133.virtualBack hx (y := (⟨"java/util/ArrayList", "add", "(Ljava/lang/Object;)Z"⟩ : MethodName)) (z := (⟨"java/util/ArrayList", "add", "(Ljava/lang/Object;)Z"⟩ : MethodName)) hown (mvT hZ (w_ hw 115 rfl)) (mvT hZ (w_ hw 116 rfl)) (notFace_of_selects (args := #[]) (mvT hZ (w_ hw 118 rfl))) (mvT hZ (w_ hw 118 rfl)) (mvT hZ (w_ hw 117 rfl)) (by decide) (backOf (W := 0) (rmAn l Z a0 hw [] b30 b18 ea133 ke133 mc133 (1 : Int32) [.ref b16, .null, .null, .null, .null, .null, .null, .null, .null, .null] 1 T133.heap n0 Z133 hC133 f136 (by decide) ⟨by decide, by decide⟩ rfl (Nat.le_of_ble_eq_true rfl)) hZ (w_ hw 119 rfl) (w_ hw 30 rfl) (by decide) (by decide)) q139a q139c (g := (mkF m 188 #[iv pn, iv ps, iv pg, iv pi, iv pl, iv 2, jv_ l0, s_, jv_ l1, s_, jv_ l2, s_, jv_ l3, s_, iv sq0, iv sq1, iv sq2, iv sq3, rv b16, rv b18, rv b21, rv b25, rv b30, u_, u_, u_, u_, u_, u_, u_, u_, u_] [(.ref b18), (.ref b30)])) rfl (by rw [hml]; rfl) (Steps.refl _) (argsL := [(.ref b18)]) (rest := []) (lenOf pd_19 rfl) rfl (by show 2 * 0 + _ ≤ _; exact Nat.le_of_eq rfl) (hb hby at_188) (fun _ _ => ⟨rfl, rfl, (by decide : 6 + 0 ≤ _), (by decide : 37 + 0 ≤ _)⟩)
      dsimp only [Pt.U, Pt.locs, Pt.cells, Pt.slots] at X139 l139 y139 z139 st139 hQ139
      subst l139 y139 z139
      obtain ⟨hv139, N139q, kp139, mc139, hC139⟩ := hQ139
      subst hv139
      have N139 := Fr.app N133 N139q
      have Z139 : n0 ≤ T139.heap.size := Nat.le_trans Z133 kp139.1
      have hC139' : ALs Z n0 T139.heap b30 ea133 ke133 mc139 (2 : Int32) [.ref b16, .ref b18, .null, .null, .null, .null, .null, .null, .null, .null] := by
        have q := hC139
        rw [show ((1 : Int32) + 1) = (2 : Int32) from by decide] at q
        exact q
      obtain ⟨T140, h140, X140, e140, E140, A140, D140, -, st140⟩ := newO X139 hx hZ hown (w_ hw 52 rfl) (w_ hw 53 rfl) (w_ hw 54 rfl) rfl (g := (mkF m 220 #[iv pn, iv ps, iv pg, iv pi, iv pl, iv 2, jv_ l0, s_, jv_ l1, s_, jv_ l2, s_, jv_ l3, s_, iv sq0, iv sq1, iv sq2, iv sq3, rv b16, rv b18, rv b21, rv b25, rv b30, u_, u_, u_, u_, u_, u_, u_, u_, u_] [])) rfl (hb hby at_220) (by decide) (by decide)
      obtain ⟨b140, g140⟩ : ∃ z, z = T139.heap.size := ⟨_, rfl⟩
      rw [← g140] at A140 D140 st140
      have f141 := (f135.keep kp139)
      have ne_b16_b140 : b16 ≠ b140 := Nat.ne_of_lt (Nat.lt_of_lt_of_le (f141).lt (Nat.le_of_eq g140.symm))
      have f142 := (f136.keep kp139)
      have ne_b18_b140 : b18 ≠ b140 := Nat.ne_of_lt (Nat.lt_of_lt_of_le (f142).lt (Nat.le_of_eq g140.symm))
      have f143 := (f137.keep kp139)
      have ne_b21_b140 : b21 ≠ b140 := Nat.ne_of_lt (Nat.lt_of_lt_of_le (f143).lt (Nat.le_of_eq g140.symm))
      have f144 := (f138.keep kp139)
      have ne_b25_b140 : b25 ≠ b140 := Nat.ne_of_lt (Nat.lt_of_lt_of_le (f144).lt (Nat.le_of_eq g140.symm))
      have ne_b30_b140 : b30 ≠ b140 := Nat.ne_of_lt (Nat.lt_of_lt_of_le (hC139'.1.1).lt (Nat.le_of_eq g140.symm))
      have gb_b140 : n0 ≤ b140 := Nat.le_trans Z139 (Nat.le_of_eq g140.symm)
      have Z140 : n0 ≤ h140.size := Nat.le_trans Z139 E140.1
      have F140_parts : Fld Z h140 b140 "com/example/clausemap/clausemap/outline/Outline" "parts" "Ljava/util/List;" .null := D140 (Or.inr (w_ hw 89 rfl)) (ty := (.object "java/util/List")) (by decide)
      have f145 := (ALs.ext hC139' E140)
      have f146 := (f141.ext E140)
      have f147 := (f142.ext E140)
      have f148 := (((f131.keep kp133 (allS gb_b30 all0)).keep kp139 (allS gb_b30 (allS (hC133.2.2.2.2.2.1) all0))).ext E140)
      obtain ⟨_, _, ⟨T149, L149, k149, n149⟩, -, X149, ⟨Lc149, hQ149, l149, y149, z149⟩, st149⟩ := X140.specialBack hx (y := (⟨"com/example/clausemap/clausemap/outline/Outline", "<init>", "(Ljava/util/List;)V"⟩ : MethodName)) rfl hown (mvT hZ (w_ hw 55 rfl)) (mvT hZ (w_ hw 56 rfl)) (mvT hZ (w_ hw 57 rfl)) (by decide) (backOf (W := 1) (rmI2 l Z a0 hw [] b140 b30 ea133 b16 b18 em ke133 mc139 h140 n0 Z140 A140 F140_parts gb_b140 (Ne.symm ne_b30_b140) f145 f146 f147 hM f148 hSe) hZ (w_ hw 57 rfl) (w_ hw 54 rfl) (by decide) (by decide)) (g := (mkF m 226 #[iv pn, iv ps, iv pg, iv pi, iv pl, iv 2, jv_ l0, s_, jv_ l1, s_, jv_ l2, s_, jv_ l3, s_, iv sq0, iv sq1, iv sq2, iv sq3, rv b16, rv b18, rv b21, rv b25, rv b30, u_, u_, u_, u_, u_, u_, u_, u_, u_] [(.ref b30), (.ref b140), (.ref b140)])) rfl (by rw [hml]; rfl) (Steps.refl _) (a := b140) (argsL := [(.ref b30)]) (rest := [(.ref b140)]) (lenOf pd_16 rfl) rfl (by show 2 * 0 + _ ≤ _; exact Nat.le_of_eq rfl) (hb hby at_226) (fun _ _ => ⟨rfl, e140, (by decide : 7 + 2 ≤ _), (by decide : 38 + 4 ≤ _)⟩)
      dsimp only [Pt.U, Pt.locs, Pt.cells, Pt.slots] at X149 l149 y149 z149 st149 hQ149
      subst l149 y149 z149
      obtain ⟨hv149, N149q, kp149, lb149, fp149, lv149⟩ := hQ149
      subst hv149
      have N149 := Fr.app N139 N149q
      have Z149 : n0 ≤ T149.heap.size := Nat.le_trans Z140 kp149.1
      obtain ⟨pl3, hpl3⟩ : ∃ z, z = (pl &&& (3 : Int32)) := ⟨_, rfl⟩
      have R150 : ∀ tg, Sx p e below T149 m 245 #[iv pn, iv ps, iv pg, iv pi, iv pl, iv 2, jv_ l0, s_, jv_ l1, s_, jv_ l2, s_, jv_ l3, s_, iv sq0, iv sq1, iv sq2, iv sq3, rv b16, rv b18, rv b21, rv b25, rv b30, rv b140, iv (pl &&& (3 : Int32)), iv (((pl.toUInt32 >>> ((2 : Int32) &&& 31).toUInt32).toInt32) &&& (3 : Int32)), u_, u_, u_, u_, u_, u_] [] tg → Sx p e below T36 m 165 #[iv pn, iv ps, iv pg, iv pi, iv pl, iv 2, jv_ l0, s_, jv_ l1, s_, jv_ l2, s_, jv_ l3, s_, iv sq0, iv sq1, iv sq2, iv sq3, rv b16, rv b18, rv b21, rv b25, rv b30, u_, u_, u_, u_, u_, u_, u_, u_, u_] [] tg := by
        intro tg kt
        refine XS.iload X36.here hx rfl (hb hby at_165) rfl ?_
        refine XS.ifNo X36.here hx rfl (hb hby at_167) rfl ((if0 _ _).trans (tlt (by decide : (0 : Int32) < (2 : Int32))).2.2.2) ?_
        refine XS.aload X36.here hx rfl (hb hby at_170) rfl rfl ?_
        refine XS.aload X36.here hx rfl (hb hby at_172) rfl rfl ?_
        refine st133.trans ?_
        show Sx p e below T133 m 177 #[iv pn, iv ps, iv pg, iv pi, iv pl, iv 2, jv_ l0, s_, jv_ l1, s_, jv_ l2, s_, jv_ l3, s_, iv sq0, iv sq1, iv sq2, iv sq3, rv b16, rv b18, rv b21, rv b25, rv b30, u_, u_, u_, u_, u_, u_, u_, u_, u_] [(.int 1)] _
        refine XS.pop X133.here hx rfl (hb hby at_177) rfl rfl ?_
        refine XS.iload X133.here hx rfl (hb hby at_178) rfl ?_
        refine XS.iconst X133.here hx rfl (hb hby at_180) ?_
        refine XS.icmpNo X133.here hx rfl (hb hby at_181) rfl (tlt (by decide : (1 : Int32) < (2 : Int32))).2.2.2 ?_
        refine XS.aload X133.here hx rfl (hb hby at_184) rfl rfl ?_
        show Sx p e below T133 m 186 #[iv pn, iv ps, iv pg, iv pi, iv pl, iv 2, jv_ l0, s_, jv_ l1, s_, jv_ l2, s_, jv_ l3, s_, iv sq0, iv sq1, iv sq2, iv sq3, rv b16, rv b18, rv b21, rv b25, rv b30, u_, u_, u_, u_, u_, u_, u_, u_, u_] [(.ref b30)] _
        refine XS.aload X133.here hx rfl (hb hby at_186) rfl rfl ?_
        refine st139.trans ?_
        refine XS.pop X139.here hx rfl (hb hby at_191) rfl rfl ?_
        refine XS.iload X139.here hx rfl (hb hby at_192) rfl ?_
        refine XS.iconst X139.here hx rfl (hb hby at_194) ?_
        show Sx p e below T139 m 195 #[iv pn, iv ps, iv pg, iv pi, iv pl, iv 2, jv_ l0, s_, jv_ l1, s_, jv_ l2, s_, jv_ l3, s_, iv sq0, iv sq1, iv sq2, iv sq3, rv b16, rv b18, rv b21, rv b25, rv b30, u_, u_, u_, u_, u_, u_, u_, u_, u_] [(.int 2), (.int 2)] _
        refine XS.icmpYes X139.here hx rfl (pc0 := 195) (pc' := 206) rfl (hb hby at_195) rfl (flt (by decide : ¬ ((2 : Int32) < (2 : Int32)))).2.2.2 (by decide) (by decide) ?_
        refine XS.iload X139.here hx rfl (hb hby at_206) rfl ?_
        refine XS.iconst X139.here hx rfl (hb hby at_208) ?_
        refine XS.icmpYes X139.here hx rfl (pc0 := 209) (pc' := 220) rfl (hb hby at_209) rfl (flt (by decide : ¬ ((3 : Int32) < (2 : Int32)))).2.2.2 (by decide) (by decide) ?_
        refine st140 _ ?_
        show Sx p e below T140 m 223 #[iv pn, iv ps, iv pg, iv pi, iv pl, iv 2, jv_ l0, s_, jv_ l1, s_, jv_ l2, s_, jv_ l3, s_, iv sq0, iv sq1, iv sq2, iv sq3, rv b16, rv b18, rv b21, rv b25, rv b30, u_, u_, u_, u_, u_, u_, u_, u_, u_] [(.ref b140)] _
        refine XS.dup X140.here hx rfl (hb hby at_223) rfl rfl ?_
        refine XS.aload X140.here hx rfl (hb hby at_224) rfl rfl ?_
        refine st149.trans ?_
        refine XS.astore X149.here hx rfl (hb hby at_229) rfl rfl (l' := #[iv pn, iv ps, iv pg, iv pi, iv pl, iv 2, jv_ l0, s_, jv_ l1, s_, jv_ l2, s_, jv_ l3, s_, iv sq0, iv sq1, iv sq2, iv sq3, rv b16, rv b18, rv b21, rv b25, rv b30, rv b140, u_, u_, u_, u_, u_, u_, u_, u_]) rfl ?_
        refine XS.iload X149.here hx rfl (hb hby at_231) rfl ?_
        show Sx p e below T149 m 233 #[iv pn, iv ps, iv pg, iv pi, iv pl, iv 2, jv_ l0, s_, jv_ l1, s_, jv_ l2, s_, jv_ l3, s_, iv sq0, iv sq1, iv sq2, iv sq3, rv b16, rv b18, rv b21, rv b25, rv b30, rv b140, u_, u_, u_, u_, u_, u_, u_, u_] [(.int pl)] _
        refine XS.iconst X149.here hx rfl (hb hby at_233) ?_
        refine XS.iand X149.here hx rfl (hb hby at_234) rfl ?_
        refine XS.istore X149.here hx rfl (hb hby at_235) rfl (l' := #[iv pn, iv ps, iv pg, iv pi, iv pl, iv 2, jv_ l0, s_, jv_ l1, s_, jv_ l2, s_, jv_ l3, s_, iv sq0, iv sq1, iv sq2, iv sq3, rv b16, rv b18, rv b21, rv b25, rv b30, rv b140, iv (pl &&& (3 : Int32)), u_, u_, u_, u_, u_, u_, u_]) rfl ?_
        refine XS.iload X149.here hx rfl (hb hby at_237) rfl ?_
        refine XS.iconst X149.here hx rfl (hb hby at_239) ?_
        show Sx p e below T149 m 240 #[iv pn, iv ps, iv pg, iv pi, iv pl, iv 2, jv_ l0, s_, jv_ l1, s_, jv_ l2, s_, jv_ l3, s_, iv sq0, iv sq1, iv sq2, iv sq3, rv b16, rv b18, rv b21, rv b25, rv b30, rv b140, iv (pl &&& (3 : Int32)), u_, u_, u_, u_, u_, u_, u_] [(.int 2), (.int pl)] _
        refine XS.iushr X149.here hx rfl (hb hby at_240) rfl ?_
        refine XS.iconst X149.here hx rfl (hb hby at_241) ?_
        refine XS.iand X149.here hx rfl (hb hby at_242) rfl ?_
        refine XS.istore X149.here hx rfl (hb hby at_243) rfl (l' := #[iv pn, iv ps, iv pg, iv pi, iv pl, iv 2, jv_ l0, s_, jv_ l1, s_, jv_ l2, s_, jv_ l3, s_, iv sq0, iv sq1, iv sq2, iv sq3, rv b16, rv b18, rv b21, rv b25, rv b30, rv b140, iv (pl &&& (3 : Int32)), iv (((pl.toUInt32 >>> ((2 : Int32) &&& 31).toUInt32).toInt32) &&& (3 : Int32)), u_, u_, u_, u_, u_, u_]) rfl ?_
        show Sx p e below T149 m 245 #[iv pn, iv ps, iv pg, iv pi, iv pl, iv 2, jv_ l0, s_, jv_ l1, s_, jv_ l2, s_, jv_ l3, s_, iv sq0, iv sq1, iv sq2, iv sq3, rv b16, rv b18, rv b21, rv b25, rv b30, rv b140, iv (pl &&& (3 : Int32)), iv (((pl.toUInt32 >>> ((2 : Int32) &&& 31).toUInt32).toInt32) &&& (3 : Int32)), u_, u_, u_, u_, u_, u_] [] _
        exact kt
      have R151 : ∀ tg, Sx p e below T149 m 245 #[iv pn, iv ps, iv pg, iv pi, iv pl, iv 2, jv_ l0, s_, jv_ l1, s_, jv_ l2, s_, jv_ l3, s_, iv sq0, iv sq1, iv sq2, iv sq3, rv b16, rv b18, rv b21, rv b25, rv b30, rv b140, iv pl3, iv (((pl.toUInt32 >>> ((2 : Int32) &&& 31).toUInt32).toInt32) &&& (3 : Int32)), u_, u_, u_, u_, u_, u_] [] tg → Sx p e below T149 m 245 #[iv pn, iv ps, iv pg, iv pi, iv pl, iv 2, jv_ l0, s_, jv_ l1, s_, jv_ l2, s_, jv_ l3, s_, iv sq0, iv sq1, iv sq2, iv sq3, rv b16, rv b18, rv b21, rv b25, rv b30, rv b140, iv (pl &&& (3 : Int32)), iv (((pl.toUInt32 >>> ((2 : Int32) &&& 31).toUInt32).toInt32) &&& (3 : Int32)), u_, u_, u_, u_, u_, u_] [] tg := fun tg kt => by rw [← hpl3]; exact kt
      obtain ⟨pl2, hpl2⟩ : ∃ z, z = (((pl.toUInt32 >>> ((2 : Int32) &&& 31).toUInt32).toInt32) &&& (3 : Int32)) := ⟨_, rfl⟩
      have R152 : ∀ tg, Sx p e below T149 m 245 #[iv pn, iv ps, iv pg, iv pi, iv pl, iv 2, jv_ l0, s_, jv_ l1, s_, jv_ l2, s_, jv_ l3, s_, iv sq0, iv sq1, iv sq2, iv sq3, rv b16, rv b18, rv b21, rv b25, rv b30, rv b140, iv pl3, iv pl2, u_, u_, u_, u_, u_, u_] [] tg → Sx p e below T149 m 245 #[iv pn, iv ps, iv pg, iv pi, iv pl, iv 2, jv_ l0, s_, jv_ l1, s_, jv_ l2, s_, jv_ l3, s_, iv sq0, iv sq1, iv sq2, iv sq3, rv b16, rv b18, rv b21, rv b25, rv b30, rv b140, iv pl3, iv (((pl.toUInt32 >>> ((2 : Int32) &&& 31).toUInt32).toInt32) &&& (3 : Int32)), u_, u_, u_, u_, u_, u_] [] tg := fun tg kt => by rw [← hpl2]; exact kt
      obtain ⟨T153, L153, tgt_, X153, e153, N153, R153⟩ : ∃ (T' : State) (L' : List Loc) (tgt_ : Int64), Stand p l e room_1 s m #[(.int pn), (.int ps), (.int pg), (.int pi), (.int pl)] below meth c T' L' 9 42 ∧ T'.heap = T149.heap ∧ Fr n0 L' ∧ ∀ tg, Sx p e below T' m 279 #[iv pn, iv ps, iv pg, iv pi, iv pl, iv 2, jv_ l0, s_, jv_ l1, s_, jv_ l2, s_, jv_ l3, s_, iv sq0, iv sq1, iv sq2, iv sq3, rv b16, rv b18, rv b21, rv b25, rv b30, rv b140, iv pl3, iv pl2, u_, u_, u_, u_, u_, u_] [(.long tgt_)] tg → Sx p e below T149 m 245 #[iv pn, iv ps, iv pg, iv pi, iv pl, iv 2, jv_ l0, s_, jv_ l1, s_, jv_ l2, s_, jv_ l3, s_, iv sq0, iv sq1, iv sq2, iv sq3, rv b16, rv b18, rv b21, rv b25, rv b30, rv b140, iv pl3, iv pl2, u_, u_, u_, u_, u_, u_] [] tg := by
        have R154 : ∀ tg, Sx p e below T149 m 247 #[iv pn, iv ps, iv pg, iv pi, iv pl, iv 2, jv_ l0, s_, jv_ l1, s_, jv_ l2, s_, jv_ l3, s_, iv sq0, iv sq1, iv sq2, iv sq3, rv b16, rv b18, rv b21, rv b25, rv b30, rv b140, iv pl3, iv pl2, u_, u_, u_, u_, u_, u_] [(.int pl2)] tg → Sx p e below T149 m 245 #[iv pn, iv ps, iv pg, iv pi, iv pl, iv 2, jv_ l0, s_, jv_ l1, s_, jv_ l2, s_, jv_ l3, s_, iv sq0, iv sq1, iv sq2, iv sq3, rv b16, rv b18, rv b21, rv b25, rv b30, rv b140, iv pl3, iv pl2, u_, u_, u_, u_, u_, u_] [] tg := by
          intro tg kt
          refine XS.iload X149.here hx rfl (hb hby at_245) rfl ?_
          show Sx p e below T149 m 247 #[iv pn, iv ps, iv pg, iv pi, iv pl, iv 2, jv_ l0, s_, jv_ l1, s_, jv_ l2, s_, jv_ l3, s_, iv sq0, iv sq1, iv sq2, iv sq3, rv b16, rv b18, rv b21, rv b25, rv b30, rv b140, iv pl3, iv pl2, u_, u_, u_, u_, u_, u_] [(.int pl2)] _
          exact kt
        by_cases hc247_155 : pl2 = (0 : Int32)
        · have R156 : ∀ tg, Sx p e below T149 m 279 #[iv pn, iv ps, iv pg, iv pi, iv pl, iv 2, jv_ l0, s_, jv_ l1, s_, jv_ l2, s_, jv_ l3, s_, iv sq0, iv sq1, iv sq2, iv sq3, rv b16, rv b18, rv b21, rv b25, rv b30, rv b140, iv pl3, iv pl2, u_, u_, u_, u_, u_, u_] [(.long l0)] tg → Sx p e below T149 m 247 #[iv pn, iv ps, iv pg, iv pi, iv pl, iv 2, jv_ l0, s_, jv_ l1, s_, jv_ l2, s_, jv_ l3, s_, iv sq0, iv sq1, iv sq2, iv sq3, rv b16, rv b18, rv b21, rv b25, rv b30, rv b140, iv pl3, iv pl2, u_, u_, u_, u_, u_, u_] [(.int pl2)] tg := by
            intro tg kt
            refine XS.ifNo X149.here hx rfl (hb hby at_247) rfl ((if0 _ _).trans (teq hc247_155).2) ?_
            refine XS.lload X149.here hx rfl (hb hby at_250) rfl ?_
            refine XS.goto X149.here hx rfl (pc0 := 252) (pc' := 279) rfl (hb hby at_252) (by decide) (by decide) ?_
            show Sx p e below T149 m 279 #[iv pn, iv ps, iv pg, iv pi, iv pl, iv 2, jv_ l0, s_, jv_ l1, s_, jv_ l2, s_, jv_ l3, s_, iv sq0, iv sq1, iv sq2, iv sq3, rv b16, rv b18, rv b21, rv b25, rv b30, rv b140, iv pl3, iv pl2, u_, u_, u_, u_, u_, u_] [(.long l0)] _
            exact kt
          exact ⟨T149, _, l0, X149.more (by decide) (by decide), rfl, N149, fun _ kt => (R154 _ (R156 _ kt))⟩
        · have R157 : ∀ tg, Sx p e below T149 m 258 #[iv pn, iv ps, iv pg, iv pi, iv pl, iv 2, jv_ l0, s_, jv_ l1, s_, jv_ l2, s_, jv_ l3, s_, iv sq0, iv sq1, iv sq2, iv sq3, rv b16, rv b18, rv b21, rv b25, rv b30, rv b140, iv pl3, iv pl2, u_, u_, u_, u_, u_, u_] [(.int 1), (.int pl2)] tg → Sx p e below T149 m 247 #[iv pn, iv ps, iv pg, iv pi, iv pl, iv 2, jv_ l0, s_, jv_ l1, s_, jv_ l2, s_, jv_ l3, s_, iv sq0, iv sq1, iv sq2, iv sq3, rv b16, rv b18, rv b21, rv b25, rv b30, rv b140, iv pl3, iv pl2, u_, u_, u_, u_, u_, u_] [(.int pl2)] tg := by
            intro tg kt
            refine XS.ifYes X149.here hx rfl (pc0 := 247) (pc' := 255) rfl (hb hby at_247) rfl ((if0 _ _).trans (feq hc247_155).2) (by decide) (by decide) ?_
            refine XS.iload X149.here hx rfl (hb hby at_255) rfl ?_
            refine XS.iconst X149.here hx rfl (hb hby at_257) ?_
            show Sx p e below T149 m 258 #[iv pn, iv ps, iv pg, iv pi, iv pl, iv 2, jv_ l0, s_, jv_ l1, s_, jv_ l2, s_, jv_ l3, s_, iv sq0, iv sq1, iv sq2, iv sq3, rv b16, rv b18, rv b21, rv b25, rv b30, rv b140, iv pl3, iv pl2, u_, u_, u_, u_, u_, u_] [(.int 1), (.int pl2)] _
            exact kt
          by_cases hc258_158 : pl2 = (1 : Int32)
          · have R159 : ∀ tg, Sx p e below T149 m 279 #[iv pn, iv ps, iv pg, iv pi, iv pl, iv 2, jv_ l0, s_, jv_ l1, s_, jv_ l2, s_, jv_ l3, s_, iv sq0, iv sq1, iv sq2, iv sq3, rv b16, rv b18, rv b21, rv b25, rv b30, rv b140, iv pl3, iv pl2, u_, u_, u_, u_, u_, u_] [(.long l1)] tg → Sx p e below T149 m 258 #[iv pn, iv ps, iv pg, iv pi, iv pl, iv 2, jv_ l0, s_, jv_ l1, s_, jv_ l2, s_, jv_ l3, s_, iv sq0, iv sq1, iv sq2, iv sq3, rv b16, rv b18, rv b21, rv b25, rv b30, rv b140, iv pl3, iv pl2, u_, u_, u_, u_, u_, u_] [(.int 1), (.int pl2)] tg := by
              intro tg kt
              refine XS.icmpNo X149.here hx rfl (hb hby at_258) rfl (teq hc258_158).2 ?_
              refine XS.lload X149.here hx rfl (hb hby at_261) rfl ?_
              refine XS.goto X149.here hx rfl (pc0 := 263) (pc' := 279) rfl (hb hby at_263) (by decide) (by decide) ?_
              show Sx p e below T149 m 279 #[iv pn, iv ps, iv pg, iv pi, iv pl, iv 2, jv_ l0, s_, jv_ l1, s_, jv_ l2, s_, jv_ l3, s_, iv sq0, iv sq1, iv sq2, iv sq3, rv b16, rv b18, rv b21, rv b25, rv b30, rv b140, iv pl3, iv pl2, u_, u_, u_, u_, u_, u_] [(.long l1)] _
              exact kt
            exact ⟨T149, _, l1, X149.more (by decide) (by decide), rfl, N149, fun _ kt => (R154 _ (R157 _ (R159 _ kt)))⟩
          · have R160 : ∀ tg, Sx p e below T149 m 269 #[iv pn, iv ps, iv pg, iv pi, iv pl, iv 2, jv_ l0, s_, jv_ l1, s_, jv_ l2, s_, jv_ l3, s_, iv sq0, iv sq1, iv sq2, iv sq3, rv b16, rv b18, rv b21, rv b25, rv b30, rv b140, iv pl3, iv pl2, u_, u_, u_, u_, u_, u_] [(.int 2), (.int pl2)] tg → Sx p e below T149 m 258 #[iv pn, iv ps, iv pg, iv pi, iv pl, iv 2, jv_ l0, s_, jv_ l1, s_, jv_ l2, s_, jv_ l3, s_, iv sq0, iv sq1, iv sq2, iv sq3, rv b16, rv b18, rv b21, rv b25, rv b30, rv b140, iv pl3, iv pl2, u_, u_, u_, u_, u_, u_] [(.int 1), (.int pl2)] tg := by
              intro tg kt
              refine XS.icmpYes X149.here hx rfl (pc0 := 258) (pc' := 266) rfl (hb hby at_258) rfl (feq hc258_158).2 (by decide) (by decide) ?_
              refine XS.iload X149.here hx rfl (hb hby at_266) rfl ?_
              refine XS.iconst X149.here hx rfl (hb hby at_268) ?_
              show Sx p e below T149 m 269 #[iv pn, iv ps, iv pg, iv pi, iv pl, iv 2, jv_ l0, s_, jv_ l1, s_, jv_ l2, s_, jv_ l3, s_, iv sq0, iv sq1, iv sq2, iv sq3, rv b16, rv b18, rv b21, rv b25, rv b30, rv b140, iv pl3, iv pl2, u_, u_, u_, u_, u_, u_] [(.int 2), (.int pl2)] _
              exact kt
            by_cases hc269_161 : pl2 = (2 : Int32)
            · have R162 : ∀ tg, Sx p e below T149 m 279 #[iv pn, iv ps, iv pg, iv pi, iv pl, iv 2, jv_ l0, s_, jv_ l1, s_, jv_ l2, s_, jv_ l3, s_, iv sq0, iv sq1, iv sq2, iv sq3, rv b16, rv b18, rv b21, rv b25, rv b30, rv b140, iv pl3, iv pl2, u_, u_, u_, u_, u_, u_] [(.long l2)] tg → Sx p e below T149 m 269 #[iv pn, iv ps, iv pg, iv pi, iv pl, iv 2, jv_ l0, s_, jv_ l1, s_, jv_ l2, s_, jv_ l3, s_, iv sq0, iv sq1, iv sq2, iv sq3, rv b16, rv b18, rv b21, rv b25, rv b30, rv b140, iv pl3, iv pl2, u_, u_, u_, u_, u_, u_] [(.int 2), (.int pl2)] tg := by
                intro tg kt
                refine XS.icmpNo X149.here hx rfl (hb hby at_269) rfl (teq hc269_161).2 ?_
                refine XS.lload X149.here hx rfl (hb hby at_272) rfl ?_
                refine XS.goto X149.here hx rfl (pc0 := 274) (pc' := 279) rfl (hb hby at_274) (by decide) (by decide) ?_
                show Sx p e below T149 m 279 #[iv pn, iv ps, iv pg, iv pi, iv pl, iv 2, jv_ l0, s_, jv_ l1, s_, jv_ l2, s_, jv_ l3, s_, iv sq0, iv sq1, iv sq2, iv sq3, rv b16, rv b18, rv b21, rv b25, rv b30, rv b140, iv pl3, iv pl2, u_, u_, u_, u_, u_, u_] [(.long l2)] _
                exact kt
              exact ⟨T149, _, l2, X149.more (by decide) (by decide), rfl, N149, fun _ kt => (R154 _ (R157 _ (R160 _ (R162 _ kt))))⟩
            · have R163 : ∀ tg, Sx p e below T149 m 279 #[iv pn, iv ps, iv pg, iv pi, iv pl, iv 2, jv_ l0, s_, jv_ l1, s_, jv_ l2, s_, jv_ l3, s_, iv sq0, iv sq1, iv sq2, iv sq3, rv b16, rv b18, rv b21, rv b25, rv b30, rv b140, iv pl3, iv pl2, u_, u_, u_, u_, u_, u_] [(.long l3)] tg → Sx p e below T149 m 269 #[iv pn, iv ps, iv pg, iv pi, iv pl, iv 2, jv_ l0, s_, jv_ l1, s_, jv_ l2, s_, jv_ l3, s_, iv sq0, iv sq1, iv sq2, iv sq3, rv b16, rv b18, rv b21, rv b25, rv b30, rv b140, iv pl3, iv pl2, u_, u_, u_, u_, u_, u_] [(.int 2), (.int pl2)] tg := by
                intro tg kt
                refine XS.icmpYes X149.here hx rfl (pc0 := 269) (pc' := 277) rfl (hb hby at_269) rfl (feq hc269_161).2 (by decide) (by decide) ?_
                refine XS.lload X149.here hx rfl (hb hby at_277) rfl ?_
                show Sx p e below T149 m 279 #[iv pn, iv ps, iv pg, iv pi, iv pl, iv 2, jv_ l0, s_, jv_ l1, s_, jv_ l2, s_, jv_ l3, s_, iv sq0, iv sq1, iv sq2, iv sq3, rv b16, rv b18, rv b21, rv b25, rv b30, rv b140, iv pl3, iv pl2, u_, u_, u_, u_, u_, u_] [(.long l3)] _
                exact kt
              exact ⟨T149, _, l3, X149.more (by decide) (by decide), rfl, N149, fun _ kt => (R154 _ (R157 _ (R160 _ (R163 _ kt))))⟩
      have R164 : ∀ tg, Sx p e below T153 m 281 #[iv pn, iv ps, iv pg, iv pi, iv pl, iv 2, jv_ l0, s_, jv_ l1, s_, jv_ l2, s_, jv_ l3, s_, iv sq0, iv sq1, iv sq2, iv sq3, rv b16, rv b18, rv b21, rv b25, rv b30, rv b140, iv pl3, iv pl2, jv_ tgt_, s_, u_, u_, u_, u_] [] tg → Sx p e below T153 m 279 #[iv pn, iv ps, iv pg, iv pi, iv pl, iv 2, jv_ l0, s_, jv_ l1, s_, jv_ l2, s_, jv_ l3, s_, iv sq0, iv sq1, iv sq2, iv sq3, rv b16, rv b18, rv b21, rv b25, rv b30, rv b140, iv pl3, iv pl2, u_, u_, u_, u_, u_, u_] [(.long tgt_)] tg := by
        intro tg kt
        refine XS.lstore X153.here hx rfl (hb hby at_279) rfl (l' := #[iv pn, iv ps, iv pg, iv pi, iv pl, iv 2, jv_ l0, s_, jv_ l1, s_, jv_ l2, s_, jv_ l3, s_, iv sq0, iv sq1, iv sq2, iv sq3, rv b16, rv b18, rv b21, rv b25, rv b30, rv b140, iv pl3, iv pl2, jv_ tgt_, s_, u_, u_, u_, u_]) rfl ?_
        show Sx p e below T153 m 281 #[iv pn, iv ps, iv pg, iv pi, iv pl, iv 2, jv_ l0, s_, jv_ l1, s_, jv_ l2, s_, jv_ l3, s_, iv sq0, iv sq1, iv sq2, iv sq3, rv b16, rv b18, rv b21, rv b25, rv b30, rv b140, iv pl3, iv pl2, jv_ tgt_, s_, u_, u_, u_, u_] [] _
        exact kt
      obtain ⟨T165, L165, at_, X165, e165, N165, R165⟩ : ∃ (T' : State) (L' : List Loc) (at_ : Int64), Stand p l e room_1 s m #[(.int pn), (.int ps), (.int pg), (.int pi), (.int pl)] below meth c T' L' 9 42 ∧ T'.heap = T149.heap ∧ Fr n0 L' ∧ ∀ tg, Sx p e below T' m 299 #[iv pn, iv ps, iv pg, iv pi, iv pl, iv 2, jv_ l0, s_, jv_ l1, s_, jv_ l2, s_, jv_ l3, s_, iv sq0, iv sq1, iv sq2, iv sq3, rv b16, rv b18, rv b21, rv b25, rv b30, rv b140, iv pl3, iv pl2, jv_ tgt_, s_, u_, u_, u_, u_] [(.long at_)] tg → Sx p e below T153 m 281 #[iv pn, iv ps, iv pg, iv pi, iv pl, iv 2, jv_ l0, s_, jv_ l1, s_, jv_ l2, s_, jv_ l3, s_, iv sq0, iv sq1, iv sq2, iv sq3, rv b16, rv b18, rv b21, rv b25, rv b30, rv b140, iv pl3, iv pl2, jv_ tgt_, s_, u_, u_, u_, u_] [] tg := by
        have R166 : ∀ tg, Sx p e below T153 m 283 #[iv pn, iv ps, iv pg, iv pi, iv pl, iv 2, jv_ l0, s_, jv_ l1, s_, jv_ l2, s_, jv_ l3, s_, iv sq0, iv sq1, iv sq2, iv sq3, rv b16, rv b18, rv b21, rv b25, rv b30, rv b140, iv pl3, iv pl2, jv_ tgt_, s_, u_, u_, u_, u_] [(.int pl3)] tg → Sx p e below T153 m 281 #[iv pn, iv ps, iv pg, iv pi, iv pl, iv 2, jv_ l0, s_, jv_ l1, s_, jv_ l2, s_, jv_ l3, s_, iv sq0, iv sq1, iv sq2, iv sq3, rv b16, rv b18, rv b21, rv b25, rv b30, rv b140, iv pl3, iv pl2, jv_ tgt_, s_, u_, u_, u_, u_] [] tg := by
          intro tg kt
          refine XS.iload X153.here hx rfl (hb hby at_281) rfl ?_
          show Sx p e below T153 m 283 #[iv pn, iv ps, iv pg, iv pi, iv pl, iv 2, jv_ l0, s_, jv_ l1, s_, jv_ l2, s_, jv_ l3, s_, iv sq0, iv sq1, iv sq2, iv sq3, rv b16, rv b18, rv b21, rv b25, rv b30, rv b140, iv pl3, iv pl2, jv_ tgt_, s_, u_, u_, u_, u_] [(.int pl3)] _
          exact kt
        by_cases hc283_167 : pl3 = (0 : Int32)
        · have R168 : ∀ tg, Sx p e below T153 m 299 #[iv pn, iv ps, iv pg, iv pi, iv pl, iv 2, jv_ l0, s_, jv_ l1, s_, jv_ l2, s_, jv_ l3, s_, iv sq0, iv sq1, iv sq2, iv sq3, rv b16, rv b18, rv b21, rv b25, rv b30, rv b140, iv pl3, iv pl2, jv_ tgt_, s_, u_, u_, u_, u_] [(.long (pi.toInt64))] tg → Sx p e below T153 m 283 #[iv pn, iv ps, iv pg, iv pi, iv pl, iv 2, jv_ l0, s_, jv_ l1, s_, jv_ l2, s_, jv_ l3, s_, iv sq0, iv sq1, iv sq2, iv sq3, rv b16, rv b18, rv b21, rv b25, rv b30, rv b140, iv pl3, iv pl2, jv_ tgt_, s_, u_, u_, u_, u_] [(.int pl3)] tg := by
            intro tg kt
            refine XS.ifNo X153.here hx rfl (hb hby at_283) rfl ((if0 _ _).trans (teq hc283_167).2) ?_
            refine XS.iloadN X153.here hx rfl (hb hby at_286) rfl ?_
            refine XS.i2l X153.here hx rfl (hb hby at_287) rfl ?_
            refine XS.goto X153.here hx rfl (pc0 := 288) (pc' := 299) rfl (hb hby at_288) (by decide) (by decide) ?_
            show Sx p e below T153 m 299 #[iv pn, iv ps, iv pg, iv pi, iv pl, iv 2, jv_ l0, s_, jv_ l1, s_, jv_ l2, s_, jv_ l3, s_, iv sq0, iv sq1, iv sq2, iv sq3, rv b16, rv b18, rv b21, rv b25, rv b30, rv b140, iv pl3, iv pl2, jv_ tgt_, s_, u_, u_, u_, u_] [(.long (pi.toInt64))] _
            exact kt
          exact ⟨T153, _, (pi.toInt64), X153.more (by decide) (by decide), e153, N153, fun _ kt => (R166 _ (R168 _ kt))⟩
        · have R169 : ∀ tg, Sx p e below T153 m 299 #[iv pn, iv ps, iv pg, iv pi, iv pl, iv 2, jv_ l0, s_, jv_ l1, s_, jv_ l2, s_, jv_ l3, s_, iv sq0, iv sq1, iv sq2, iv sq3, rv b16, rv b18, rv b21, rv b25, rv b30, rv b140, iv pl3, iv pl2, jv_ tgt_, s_, u_, u_, u_, u_] [(.long (tgt_ + ((pl3 - (2 : Int32)).toInt64)))] tg → Sx p e below T153 m 283 #[iv pn, iv ps, iv pg, iv pi, iv pl, iv 2, jv_ l0, s_, jv_ l1, s_, jv_ l2, s_, jv_ l3, s_, iv sq0, iv sq1, iv sq2, iv sq3, rv b16, rv b18, rv b21, rv b25, rv b30, rv b140, iv pl3, iv pl2, jv_ tgt_, s_, u_, u_, u_, u_] [(.int pl3)] tg := by
            intro tg kt
            refine XS.ifYes X153.here hx rfl (pc0 := 283) (pc' := 291) rfl (hb hby at_283) rfl ((if0 _ _).trans (feq hc283_167).2) (by decide) (by decide) ?_
            refine XS.lload X153.here hx rfl (hb hby at_291) rfl ?_
            refine XS.iload X153.here hx rfl (hb hby at_293) rfl ?_
            refine XS.iconst X153.here hx rfl (hb hby at_295) ?_
            refine XS.isub X153.here hx rfl (hb hby at_296) rfl ?_
            show Sx p e below T153 m 297 #[iv pn, iv ps, iv pg, iv pi, iv pl, iv 2, jv_ l0, s_, jv_ l1, s_, jv_ l2, s_, jv_ l3, s_, iv sq0, iv sq1, iv sq2, iv sq3, rv b16, rv b18, rv b21, rv b25, rv b30, rv b140, iv pl3, iv pl2, jv_ tgt_, s_, u_, u_, u_, u_] [(.int (pl3 - (2 : Int32))), (.long tgt_)] _
            refine XS.i2l X153.here hx rfl (hb hby at_297) rfl ?_
            refine XS.ladd X153.here hx rfl (hb hby at_298) rfl ?_
            show Sx p e below T153 m 299 #[iv pn, iv ps, iv pg, iv pi, iv pl, iv 2, jv_ l0, s_, jv_ l1, s_, jv_ l2, s_, jv_ l3, s_, iv sq0, iv sq1, iv sq2, iv sq3, rv b16, rv b18, rv b21, rv b25, rv b30, rv b140, iv pl3, iv pl2, jv_ tgt_, s_, u_, u_, u_, u_] [(.long (tgt_ + ((pl3 - (2 : Int32)).toInt64)))] _
            exact kt
          exact ⟨T153, _, (tgt_ + ((pl3 - (2 : Int32)).toInt64)), X153.more (by decide) (by decide), e153, N153, fun _ kt => (R166 _ (R169 _ kt))⟩
      obtain ⟨_, _, ⟨T170, L170, k170, n170⟩, -, X170, ⟨Lc170, hQ170, l170, y170, z170⟩, st170⟩ := Jvm.LawKit.callS X165 hx (y := (⟨"java/lang/Math", "min", "(JJ)J"⟩ : MethodName)) hown (mvT hZ (w_ hw 91 rfl)) (mvT hZ (w_ hw 92 rfl)) (mvT hZ (w_ hw 93 rfl)) (mvT hZ (w_ hw 94 rfl)) (by decide) (backOf (W := 2) (rmMnJ l Z a0 hw [] (2147483647 : Int64) at_ T149.heap n0 Z149) hZ (w_ hw 94 rfl) (w_ hw 93 rfl) (by decide) (by decide)) (g := (mkF m 309 #[iv pn, iv ps, iv pg, iv pi, iv pl, iv 2, jv_ l0, s_, jv_ l1, s_, jv_ l2, s_, jv_ l3, s_, iv sq0, iv sq1, iv sq2, iv sq3, rv b16, rv b18, rv b21, rv b25, rv b30, rv b140, iv pl3, iv pl2, jv_ tgt_, s_, jv_ at_, s_, u_, u_] [(.long at_), (.long 2147483647), (.long (-2147483648))])) rfl (by rw [hml]; rfl) (argsL := [(.long 2147483647), (.long at_)]) (rest := [(.long (-2147483648))]) (lenOf pd_17 rfl) rfl (by show 2 * 0 + _ ≤ _; exact Nat.le_of_eq rfl) (hb hby at_309) (fun _ _ => ⟨rfl, e165, (by decide : 9 + 0 ≤ _), (by decide : 42 + 0 ≤ _)⟩)
      dsimp only [Pt.U, Pt.locs, Pt.cells, Pt.slots] at X170 l170 y170 z170 st170 hQ170
      subst l170 y170 z170
      obtain ⟨hv170, N170q, r170⟩ := hQ170
      subst hv170
      have N170 := Fr.app N165 N170q
      obtain ⟨_, _, ⟨T171, L171, k171, n171⟩, -, X171, ⟨Lc171, hQ171, l171, y171, z171⟩, st171⟩ := Jvm.LawKit.callS X170 hx (y := (⟨"java/lang/Math", "max", "(JJ)J"⟩ : MethodName)) hown (mvT hZ (w_ hw 95 rfl)) (mvT hZ (w_ hw 96 rfl)) (mvT hZ (w_ hw 93 rfl)) (mvT hZ (w_ hw 97 rfl)) (by decide) (backOf (W := 0) (rmMxJ l Z a0 hw [] (-2147483648 : Int64) (if (0 : Int32) < (lcmpW (2147483647 : Int64) at_) then at_ else (2147483647 : Int64)) T149.heap n0 Z149) hZ (w_ hw 97 rfl) (w_ hw 93 rfl) (by decide) (by decide)) (g := (mkF m 312 #[iv pn, iv ps, iv pg, iv pi, iv pl, iv 2, jv_ l0, s_, jv_ l1, s_, jv_ l2, s_, jv_ l3, s_, iv sq0, iv sq1, iv sq2, iv sq3, rv b16, rv b18, rv b21, rv b25, rv b30, rv b140, iv pl3, iv pl2, jv_ tgt_, s_, jv_ at_, s_, u_, u_] [(.long (if (0 : Int32) < (lcmpW (2147483647 : Int64) at_) then at_ else (2147483647 : Int64))), (.long (-2147483648))])) rfl (by rw [hml]; rfl) (argsL := [(.long (-2147483648)), (.long (if (0 : Int32) < (lcmpW (2147483647 : Int64) at_) then at_ else (2147483647 : Int64)))]) (rest := []) (lenOf pd_17 rfl) rfl (by show 2 * 0 + _ ≤ _; exact Nat.le_of_eq rfl) (hb hby at_312) (fun _ _ => ⟨rfl, r170, (by decide : 9 + 0 ≤ _), (by decide : 42 + 0 ≤ _)⟩)
      dsimp only [Pt.U, Pt.locs, Pt.cells, Pt.slots] at X171 l171 y171 z171 st171 hQ171
      subst l171 y171 z171
      obtain ⟨hv171, N171q, r171⟩ := hQ171
      subst hv171
      have N171 := Fr.app N170 N171q
      obtain ⟨clp, hclp⟩ : ∃ z, z = (if (lcmpW (-2147483648 : Int64) (if (0 : Int32) < (lcmpW (2147483647 : Int64) at_) then at_ else (2147483647 : Int64))) < (0 : Int32) then (if (0 : Int32) < (lcmpW (2147483647 : Int64) at_) then at_ else (2147483647 : Int64)) else (-2147483648 : Int64)) := ⟨_, rfl⟩
      have R172 : ∀ tg, Sx p e below T171 m 317 #[iv pn, iv ps, iv pg, iv pi, iv pl, iv 2, jv_ l0, s_, jv_ l1, s_, jv_ l2, s_, jv_ l3, s_, iv sq0, iv sq1, iv sq2, iv sq3, rv b16, rv b18, rv b21, rv b25, rv b30, rv b140, iv pl3, iv pl2, jv_ tgt_, s_, jv_ (if (lcmpW (-2147483648 : Int64) (if (0 : Int32) < (lcmpW (2147483647 : Int64) at_) then at_ else (2147483647 : Int64))) < (0 : Int32) then (if (0 : Int32) < (lcmpW (2147483647 : Int64) at_) then at_ else (2147483647 : Int64)) else (-2147483648 : Int64)), s_, u_, u_] [] tg → Sx p e below T165 m 299 #[iv pn, iv ps, iv pg, iv pi, iv pl, iv 2, jv_ l0, s_, jv_ l1, s_, jv_ l2, s_, jv_ l3, s_, iv sq0, iv sq1, iv sq2, iv sq3, rv b16, rv b18, rv b21, rv b25, rv b30, rv b140, iv pl3, iv pl2, jv_ tgt_, s_, u_, u_, u_, u_] [(.long at_)] tg := by
        intro tg kt
        refine XS.lstore X165.here hx rfl (hb hby at_299) rfl (l' := #[iv pn, iv ps, iv pg, iv pi, iv pl, iv 2, jv_ l0, s_, jv_ l1, s_, jv_ l2, s_, jv_ l3, s_, iv sq0, iv sq1, iv sq2, iv sq3, rv b16, rv b18, rv b21, rv b25, rv b30, rv b140, iv pl3, iv pl2, jv_ tgt_, s_, jv_ at_, s_, u_, u_]) rfl ?_
        refine X165.ldc2Long hx hown (mvT hZ (w_ hw 90 rfl)) (g := (mkF m 301 #[iv pn, iv ps, iv pg, iv pi, iv pl, iv 2, jv_ l0, s_, jv_ l1, s_, jv_ l2, s_, jv_ l3, s_, iv sq0, iv sq1, iv sq2, iv sq3, rv b16, rv b18, rv b21, rv b25, rv b30, rv b140, iv pl3, iv pl2, jv_ tgt_, s_, jv_ at_, s_, u_, u_] [])) rfl (hb hby at_301) _ ?_
        refine X165.ldc2Long hx hown (mvT hZ (w_ hw 1 rfl)) (g := (mkF m 304 #[iv pn, iv ps, iv pg, iv pi, iv pl, iv 2, jv_ l0, s_, jv_ l1, s_, jv_ l2, s_, jv_ l3, s_, iv sq0, iv sq1, iv sq2, iv sq3, rv b16, rv b18, rv b21, rv b25, rv b30, rv b140, iv pl3, iv pl2, jv_ tgt_, s_, jv_ at_, s_, u_, u_] [(.long (-2147483648))])) rfl (hb hby at_304) _ ?_
        refine XS.lload X165.here hx rfl (hb hby at_307) rfl ?_
        refine st170 _ ?_
        show Sx p e below T170 m 312 #[iv pn, iv ps, iv pg, iv pi, iv pl, iv 2, jv_ l0, s_, jv_ l1, s_, jv_ l2, s_, jv_ l3, s_, iv sq0, iv sq1, iv sq2, iv sq3, rv b16, rv b18, rv b21, rv b25, rv b30, rv b140, iv pl3, iv pl2, jv_ tgt_, s_, jv_ at_, s_, u_, u_] [(.long (if (0 : Int32) < (lcmpW (2147483647 : Int64) at_) then at_ else (2147483647 : Int64))), (.long (-2147483648))] _
        refine st171 _ ?_
        refine XS.lstore X171.here hx rfl (hb hby at_315) rfl (l' := #[iv pn, iv ps, iv pg, iv pi, iv pl, iv 2, jv_ l0, s_, jv_ l1, s_, jv_ l2, s_, jv_ l3, s_, iv sq0, iv sq1, iv sq2, iv sq3, rv b16, rv b18, rv b21, rv b25, rv b30, rv b140, iv pl3, iv pl2, jv_ tgt_, s_, jv_ (if (lcmpW (-2147483648 : Int64) (if (0 : Int32) < (lcmpW (2147483647 : Int64) at_) then at_ else (2147483647 : Int64))) < (0 : Int32) then (if (0 : Int32) < (lcmpW (2147483647 : Int64) at_) then at_ else (2147483647 : Int64)) else (-2147483648 : Int64)), s_, u_, u_]) rfl ?_
        show Sx p e below T171 m 317 #[iv pn, iv ps, iv pg, iv pi, iv pl, iv 2, jv_ l0, s_, jv_ l1, s_, jv_ l2, s_, jv_ l3, s_, iv sq0, iv sq1, iv sq2, iv sq3, rv b16, rv b18, rv b21, rv b25, rv b30, rv b140, iv pl3, iv pl2, jv_ tgt_, s_, jv_ (if (lcmpW (-2147483648 : Int64) (if (0 : Int32) < (lcmpW (2147483647 : Int64) at_) then at_ else (2147483647 : Int64))) < (0 : Int32) then (if (0 : Int32) < (lcmpW (2147483647 : Int64) at_) then at_ else (2147483647 : Int64)) else (-2147483648 : Int64)), s_, u_, u_] [] _
        exact kt
      have R173 : ∀ tg, Sx p e below T171 m 317 #[iv pn, iv ps, iv pg, iv pi, iv pl, iv 2, jv_ l0, s_, jv_ l1, s_, jv_ l2, s_, jv_ l3, s_, iv sq0, iv sq1, iv sq2, iv sq3, rv b16, rv b18, rv b21, rv b25, rv b30, rv b140, iv pl3, iv pl2, jv_ tgt_, s_, jv_ clp, s_, u_, u_] [] tg → Sx p e below T171 m 317 #[iv pn, iv ps, iv pg, iv pi, iv pl, iv 2, jv_ l0, s_, jv_ l1, s_, jv_ l2, s_, jv_ l3, s_, iv sq0, iv sq1, iv sq2, iv sq3, rv b16, rv b18, rv b21, rv b25, rv b30, rv b140, iv pl3, iv pl2, jv_ tgt_, s_, jv_ (if (lcmpW (-2147483648 : Int64) (if (0 : Int32) < (lcmpW (2147483647 : Int64) at_) then at_ else (2147483647 : Int64))) < (0 : Int32) then (if (0 : Int32) < (lcmpW (2147483647 : Int64) at_) then at_ else (2147483647 : Int64)) else (-2147483648 : Int64)), s_, u_, u_] [] tg := fun tg kt => by rw [← hclp]; exact kt
      obtain ⟨ix, hix⟩ : ∃ z, z = (clp.toInt32) := ⟨_, rfl⟩
      have R174 : ∀ tg, Sx p e below T171 m 322 #[iv pn, iv ps, iv pg, iv pi, iv pl, iv 2, jv_ l0, s_, jv_ l1, s_, jv_ l2, s_, jv_ l3, s_, iv sq0, iv sq1, iv sq2, iv sq3, rv b16, rv b18, rv b21, rv b25, rv b30, rv b140, iv pl3, iv pl2, jv_ tgt_, s_, jv_ clp, s_, iv (clp.toInt32), u_] [] tg → Sx p e below T171 m 317 #[iv pn, iv ps, iv pg, iv pi, iv pl, iv 2, jv_ l0, s_, jv_ l1, s_, jv_ l2, s_, jv_ l3, s_, iv sq0, iv sq1, iv sq2, iv sq3, rv b16, rv b18, rv b21, rv b25, rv b30, rv b140, iv pl3, iv pl2, jv_ tgt_, s_, jv_ clp, s_, u_, u_] [] tg := by
        intro tg kt
        refine XS.lload X171.here hx rfl (hb hby at_317) rfl ?_
        refine XS.l2i X171.here hx rfl (hb hby at_319) rfl ?_
        refine XS.istore X171.here hx rfl (hb hby at_320) rfl (l' := #[iv pn, iv ps, iv pg, iv pi, iv pl, iv 2, jv_ l0, s_, jv_ l1, s_, jv_ l2, s_, jv_ l3, s_, iv sq0, iv sq1, iv sq2, iv sq3, rv b16, rv b18, rv b21, rv b25, rv b30, rv b140, iv pl3, iv pl2, jv_ tgt_, s_, jv_ clp, s_, iv (clp.toInt32), u_]) rfl ?_
        show Sx p e below T171 m 322 #[iv pn, iv ps, iv pg, iv pi, iv pl, iv 2, jv_ l0, s_, jv_ l1, s_, jv_ l2, s_, jv_ l3, s_, iv sq0, iv sq1, iv sq2, iv sq3, rv b16, rv b18, rv b21, rv b25, rv b30, rv b140, iv pl3, iv pl2, jv_ tgt_, s_, jv_ clp, s_, iv (clp.toInt32), u_] [] _
        exact kt
      have R175 : ∀ tg, Sx p e below T171 m 322 #[iv pn, iv ps, iv pg, iv pi, iv pl, iv 2, jv_ l0, s_, jv_ l1, s_, jv_ l2, s_, jv_ l3, s_, iv sq0, iv sq1, iv sq2, iv sq3, rv b16, rv b18, rv b21, rv b25, rv b30, rv b140, iv pl3, iv pl2, jv_ tgt_, s_, jv_ clp, s_, iv ix, u_] [] tg → Sx p e below T171 m 322 #[iv pn, iv ps, iv pg, iv pi, iv pl, iv 2, jv_ l0, s_, jv_ l1, s_, jv_ l2, s_, jv_ l3, s_, iv sq0, iv sq1, iv sq2, iv sq3, rv b16, rv b18, rv b21, rv b25, rv b30, rv b140, iv pl3, iv pl2, jv_ tgt_, s_, jv_ clp, s_, iv (clp.toInt32), u_] [] tg := fun tg kt => by rw [← hix]; exact kt
      have R176 : ∀ tg, Sx p e below T171 m 325 #[iv pn, iv ps, iv pg, iv pi, iv pl, iv 2, jv_ l0, s_, jv_ l1, s_, jv_ l2, s_, jv_ l3, s_, iv sq0, iv sq1, iv sq2, iv sq3, rv b16, rv b18, rv b21, rv b25, rv b30, rv b140, iv pl3, iv pl2, jv_ tgt_, s_, jv_ clp, s_, iv ix, n_] [] tg → Sx p e below T171 m 322 #[iv pn, iv ps, iv pg, iv pi, iv pl, iv 2, jv_ l0, s_, jv_ l1, s_, jv_ l2, s_, jv_ l3, s_, iv sq0, iv sq1, iv sq2, iv sq3, rv b16, rv b18, rv b21, rv b25, rv b30, rv b140, iv pl3, iv pl2, jv_ tgt_, s_, jv_ clp, s_, iv ix, u_] [] tg := by
        intro tg kt
        refine XS.aconstNull X171.here hx rfl (hb hby at_322) ?_
        refine XS.astore X171.here hx rfl (hb hby at_323) rfl rfl (l' := #[iv pn, iv ps, iv pg, iv pi, iv pl, iv 2, jv_ l0, s_, jv_ l1, s_, jv_ l2, s_, jv_ l3, s_, iv sq0, iv sq1, iv sq2, iv sq3, rv b16, rv b18, rv b21, rv b25, rv b30, rv b140, iv pl3, iv pl2, jv_ tgt_, s_, jv_ clp, s_, iv ix, n_]) rfl ?_
        show Sx p e below T171 m 325 #[iv pn, iv ps, iv pg, iv pi, iv pl, iv 2, jv_ l0, s_, jv_ l1, s_, jv_ l2, s_, jv_ l3, s_, iv sq0, iv sq1, iv sq2, iv sq3, rv b16, rv b18, rv b21, rv b25, rv b30, rv b140, iv pl3, iv pl2, jv_ tgt_, s_, jv_ clp, s_, iv ix, n_] [] _
        exact kt
      obtain ⟨T177, L177, ex0_, X177, e177, N177, pj177_0, R177⟩ : ∃ (T' : State) (L' : List Loc) (ex0_ : Value), Stand p l e room_1 s m #[(.int pn), (.int ps), (.int pg), (.int pi), (.int pl)] below meth c T' L' 9 42 ∧ T'.heap = T149.heap ∧ Fr n0 L' ∧ (ex0_ = (if ix < sq0 then .null else .ref b16)) ∧ ∀ tg, Sx p e below T' m 341 #[iv pn, iv ps, iv pg, iv pi, iv pl, iv 2, jv_ l0, s_, jv_ l1, s_, jv_ l2, s_, jv_ l3, s_, iv sq0, iv sq1, iv sq2, iv sq3, rv b16, rv b18, rv b21, rv b25, rv b30, rv b140, iv pl3, iv pl2, jv_ tgt_, s_, jv_ clp, s_, iv ix, .val ex0_] [] tg → Sx p e below T171 m 325 #[iv pn, iv ps, iv pg, iv pi, iv pl, iv 2, jv_ l0, s_, jv_ l1, s_, jv_ l2, s_, jv_ l3, s_, iv sq0, iv sq1, iv sq2, iv sq3, rv b16, rv b18, rv b21, rv b25, rv b30, rv b140, iv pl3, iv pl2, jv_ tgt_, s_, jv_ clp, s_, iv ix, n_] [] tg := by
        have R178 : ∀ tg, Sx p e below T171 m 334 #[iv pn, iv ps, iv pg, iv pi, iv pl, iv 2, jv_ l0, s_, jv_ l1, s_, jv_ l2, s_, jv_ l3, s_, iv sq0, iv sq1, iv sq2, iv sq3, rv b16, rv b18, rv b21, rv b25, rv b30, rv b140, iv pl3, iv pl2, jv_ tgt_, s_, jv_ clp, s_, iv ix, n_] [(.int sq0), (.int ix)] tg → Sx p e below T171 m 325 #[iv pn, iv ps, iv pg, iv pi, iv pl, iv 2, jv_ l0, s_, jv_ l1, s_, jv_ l2, s_, jv_ l3, s_, iv sq0, iv sq1, iv sq2, iv sq3, rv b16, rv b18, rv b21, rv b25, rv b30, rv b140, iv pl3, iv pl2, jv_ tgt_, s_, jv_ clp, s_, iv ix, n_] [] tg := by
          intro tg kt
          refine XS.iload X171.here hx rfl (hb hby at_325) rfl ?_
          refine XS.ifNo X171.here hx rfl (hb hby at_327) rfl ((if0 _ _).trans (tlt (by decide : (0 : Int32) < (2 : Int32))).2.2.2) ?_
          refine XS.iload X171.here hx rfl (hb hby at_330) rfl ?_
          refine XS.iload X171.here hx rfl (hb hby at_332) rfl ?_
          show Sx p e below T171 m 334 #[iv pn, iv ps, iv pg, iv pi, iv pl, iv 2, jv_ l0, s_, jv_ l1, s_, jv_ l2, s_, jv_ l3, s_, iv sq0, iv sq1, iv sq2, iv sq3, rv b16, rv b18, rv b21, rv b25, rv b30, rv b140, iv pl3, iv pl2, jv_ tgt_, s_, jv_ clp, s_, iv ix, n_] [(.int sq0), (.int ix)] _
          exact kt
        by_cases hc334_179 : ix < sq0
        · have R180 : ∀ tg, Sx p e below T171 m 341 #[iv pn, iv ps, iv pg, iv pi, iv pl, iv 2, jv_ l0, s_, jv_ l1, s_, jv_ l2, s_, jv_ l3, s_, iv sq0, iv sq1, iv sq2, iv sq3, rv b16, rv b18, rv b21, rv b25, rv b30, rv b140, iv pl3, iv pl2, jv_ tgt_, s_, jv_ clp, s_, iv ix, n_] [] tg → Sx p e below T171 m 334 #[iv pn, iv ps, iv pg, iv pi, iv pl, iv 2, jv_ l0, s_, jv_ l1, s_, jv_ l2, s_, jv_ l3, s_, iv sq0, iv sq1, iv sq2, iv sq3, rv b16, rv b18, rv b21, rv b25, rv b30, rv b140, iv pl3, iv pl2, jv_ tgt_, s_, jv_ clp, s_, iv ix, n_] [(.int sq0), (.int ix)] tg := by
            intro tg kt
            refine XS.icmpYes X171.here hx rfl (pc0 := 334) (pc' := 341) rfl (hb hby at_334) rfl (tlt hc334_179).1 (by decide) (by decide) ?_
            show Sx p e below T171 m 341 #[iv pn, iv ps, iv pg, iv pi, iv pl, iv 2, jv_ l0, s_, jv_ l1, s_, jv_ l2, s_, jv_ l3, s_, iv sq0, iv sq1, iv sq2, iv sq3, rv b16, rv b18, rv b21, rv b25, rv b30, rv b140, iv pl3, iv pl2, jv_ tgt_, s_, jv_ clp, s_, iv ix, n_] [] _
            exact kt
          exact ⟨T171, _, .null, X171.more (by decide) (by decide), r171, N171, (if_pos hc334_179).symm, fun _ kt => (R178 _ (R180 _ kt))⟩
        · have R181 : ∀ tg, Sx p e below T171 m 341 #[iv pn, iv ps, iv pg, iv pi, iv pl, iv 2, jv_ l0, s_, jv_ l1, s_, jv_ l2, s_, jv_ l3, s_, iv sq0, iv sq1, iv sq2, iv sq3, rv b16, rv b18, rv b21, rv b25, rv b30, rv b140, iv pl3, iv pl2, jv_ tgt_, s_, jv_ clp, s_, iv ix, rv b16] [] tg → Sx p e below T171 m 334 #[iv pn, iv ps, iv pg, iv pi, iv pl, iv 2, jv_ l0, s_, jv_ l1, s_, jv_ l2, s_, jv_ l3, s_, iv sq0, iv sq1, iv sq2, iv sq3, rv b16, rv b18, rv b21, rv b25, rv b30, rv b140, iv pl3, iv pl2, jv_ tgt_, s_, jv_ clp, s_, iv ix, n_] [(.int sq0), (.int ix)] tg := by
            intro tg kt
            refine XS.icmpNo X171.here hx rfl (hb hby at_334) rfl (flt hc334_179).1 ?_
            refine XS.aload X171.here hx rfl (hb hby at_337) rfl rfl ?_
            refine XS.astore X171.here hx rfl (hb hby at_339) rfl rfl (l' := #[iv pn, iv ps, iv pg, iv pi, iv pl, iv 2, jv_ l0, s_, jv_ l1, s_, jv_ l2, s_, jv_ l3, s_, iv sq0, iv sq1, iv sq2, iv sq3, rv b16, rv b18, rv b21, rv b25, rv b30, rv b140, iv pl3, iv pl2, jv_ tgt_, s_, jv_ clp, s_, iv ix, rv b16]) rfl ?_
            show Sx p e below T171 m 341 #[iv pn, iv ps, iv pg, iv pi, iv pl, iv 2, jv_ l0, s_, jv_ l1, s_, jv_ l2, s_, jv_ l3, s_, iv sq0, iv sq1, iv sq2, iv sq3, rv b16, rv b18, rv b21, rv b25, rv b30, rv b140, iv pl3, iv pl2, jv_ tgt_, s_, jv_ clp, s_, iv ix, rv b16] [] _
            exact kt
          exact ⟨T171, _, (.ref b16), X171.more (by decide) (by decide), r171, N171, (if_neg hc334_179).symm, fun _ kt => (R178 _ (R181 _ kt))⟩
      have ir0 : ((if ix < sq0 then .null else .ref b16) : Value).isRef = true := by
        by_cases h : ix < sq0
        · rw [if_pos h]; rfl
        · rw [if_neg h]; rfl
      have R182 : ∀ tg, Sx p e below T177 m 341 #[iv pn, iv ps, iv pg, iv pi, iv pl, iv 2, jv_ l0, s_, jv_ l1, s_, jv_ l2, s_, jv_ l3, s_, iv sq0, iv sq1, iv sq2, iv sq3, rv b16, rv b18, rv b21, rv b25, rv b30, rv b140, iv pl3, iv pl2, jv_ tgt_, s_, jv_ clp, s_, iv ix, .val (if ix < sq0 then .null else .ref b16)] [] tg → Sx p e below T177 m 341 #[iv pn, iv ps, iv pg, iv pi, iv pl, iv 2, jv_ l0, s_, jv_ l1, s_, jv_ l2, s_, jv_ l3, s_, iv sq0, iv sq1, iv sq2, iv sq3, rv b16, rv b18, rv b21, rv b25, rv b30, rv b140, iv pl3, iv pl2, jv_ tgt_, s_, jv_ clp, s_, iv ix, .val ex0_] [] tg := fun tg kt => by rw [pj177_0]; exact kt
      obtain ⟨T183, L183, ex1_, X183, e183, N183, pj183_0, R183⟩ : ∃ (T' : State) (L' : List Loc) (ex1_ : Value), Stand p l e room_1 s m #[(.int pn), (.int ps), (.int pg), (.int pi), (.int pl)] below meth c T' L' 9 42 ∧ T'.heap = T149.heap ∧ Fr n0 L' ∧ (ex1_ = (if ix < sq1 then (if ix < sq0 then .null else .ref b16) else .ref b18)) ∧ ∀ tg, Sx p e below T' m 358 #[iv pn, iv ps, iv pg, iv pi, iv pl, iv 2, jv_ l0, s_, jv_ l1, s_, jv_ l2, s_, jv_ l3, s_, iv sq0, iv sq1, iv sq2, iv sq3, rv b16, rv b18, rv b21, rv b25, rv b30, rv b140, iv pl3, iv pl2, jv_ tgt_, s_, jv_ clp, s_, iv ix, .val ex1_] [] tg → Sx p e below T177 m 341 #[iv pn, iv ps, iv pg, iv pi, iv pl, iv 2, jv_ l0, s_, jv_ l1, s_, jv_ l2, s_, jv_ l3, s_, iv sq0, iv sq1, iv sq2, iv sq3, rv b16, rv b18, rv b21, rv b25, rv b30, rv b140, iv pl3, iv pl2, jv_ tgt_, s_, jv_ clp, s_, iv ix, .val (if ix < sq0 then .null else .ref b16)] [] tg := by
        have R184 : ∀ tg, Sx p e below T177 m 351 #[iv pn, iv ps, iv pg, iv pi, iv pl, iv 2, jv_ l0, s_, jv_ l1, s_, jv_ l2, s_, jv_ l3, s_, iv sq0, iv sq1, iv sq2, iv sq3, rv b16, rv b18, rv b21, rv b25, rv b30, rv b140, iv pl3, iv pl2, jv_ tgt_, s_, jv_ clp, s_, iv ix, .val (if ix < sq0 then .null else .ref b16)] [(.int sq1), (.int ix)] tg → Sx p e below T177 m 341 #[iv pn, iv ps, iv pg, iv pi, iv pl, iv 2, jv_ l0, s_, jv_ l1, s_, jv_ l2, s_, jv_ l3, s_, iv sq0, iv sq1, iv sq2, iv sq3, rv b16, rv b18, rv b21, rv b25, rv b30, rv b140, iv pl3, iv pl2, jv_ tgt_, s_, jv_ clp, s_, iv ix, .val (if ix < sq0 then .null else .ref b16)] [] tg := by
          intro tg kt
          refine XS.iload X177.here hx rfl (hb hby at_341) rfl ?_
          refine XS.iconst X177.here hx rfl (hb hby at_343) ?_
          refine XS.icmpNo X177.here hx rfl (hb hby at_344) rfl (tlt (by decide : (1 : Int32) < (2 : Int32))).2.2.2 ?_
          refine XS.iload X177.here hx rfl (hb hby at_347) rfl ?_
          refine XS.iload X177.here hx rfl (hb hby at_349) rfl ?_
          show Sx p e below T177 m 351 #[iv pn, iv ps, iv pg, iv pi, iv pl, iv 2, jv_ l0, s_, jv_ l1, s_, jv_ l2, s_, jv_ l3, s_, iv sq0, iv sq1, iv sq2, iv sq3, rv b16, rv b18, rv b21, rv b25, rv b30, rv b140, iv pl3, iv pl2, jv_ tgt_, s_, jv_ clp, s_, iv ix, .val (if ix < sq0 then .null else .ref b16)] [(.int sq1), (.int ix)] _
          exact kt
        by_cases hc351_185 : ix < sq1
        · have R186 : ∀ tg, Sx p e below T177 m 358 #[iv pn, iv ps, iv pg, iv pi, iv pl, iv 2, jv_ l0, s_, jv_ l1, s_, jv_ l2, s_, jv_ l3, s_, iv sq0, iv sq1, iv sq2, iv sq3, rv b16, rv b18, rv b21, rv b25, rv b30, rv b140, iv pl3, iv pl2, jv_ tgt_, s_, jv_ clp, s_, iv ix, .val (if ix < sq0 then .null else .ref b16)] [] tg → Sx p e below T177 m 351 #[iv pn, iv ps, iv pg, iv pi, iv pl, iv 2, jv_ l0, s_, jv_ l1, s_, jv_ l2, s_, jv_ l3, s_, iv sq0, iv sq1, iv sq2, iv sq3, rv b16, rv b18, rv b21, rv b25, rv b30, rv b140, iv pl3, iv pl2, jv_ tgt_, s_, jv_ clp, s_, iv ix, .val (if ix < sq0 then .null else .ref b16)] [(.int sq1), (.int ix)] tg := by
            intro tg kt
            refine XS.icmpYes X177.here hx rfl (pc0 := 351) (pc' := 358) rfl (hb hby at_351) rfl (tlt hc351_185).1 (by decide) (by decide) ?_
            show Sx p e below T177 m 358 #[iv pn, iv ps, iv pg, iv pi, iv pl, iv 2, jv_ l0, s_, jv_ l1, s_, jv_ l2, s_, jv_ l3, s_, iv sq0, iv sq1, iv sq2, iv sq3, rv b16, rv b18, rv b21, rv b25, rv b30, rv b140, iv pl3, iv pl2, jv_ tgt_, s_, jv_ clp, s_, iv ix, .val (if ix < sq0 then .null else .ref b16)] [] _
            exact kt
          exact ⟨T177, _, (if ix < sq0 then .null else .ref b16), X177.more (by decide) (by decide), e177, N177, (if_pos hc351_185).symm, fun _ kt => (R184 _ (R186 _ kt))⟩
        · have R187 : ∀ tg, Sx p e below T177 m 358 #[iv pn, iv ps, iv pg, iv pi, iv pl, iv 2, jv_ l0, s_, jv_ l1, s_, jv_ l2, s_, jv_ l3, s_, iv sq0, iv sq1, iv sq2, iv sq3, rv b16, rv b18, rv b21, rv b25, rv b30, rv b140, iv pl3, iv pl2, jv_ tgt_, s_, jv_ clp, s_, iv ix, rv b18] [] tg → Sx p e below T177 m 351 #[iv pn, iv ps, iv pg, iv pi, iv pl, iv 2, jv_ l0, s_, jv_ l1, s_, jv_ l2, s_, jv_ l3, s_, iv sq0, iv sq1, iv sq2, iv sq3, rv b16, rv b18, rv b21, rv b25, rv b30, rv b140, iv pl3, iv pl2, jv_ tgt_, s_, jv_ clp, s_, iv ix, .val (if ix < sq0 then .null else .ref b16)] [(.int sq1), (.int ix)] tg := by
            intro tg kt
            refine XS.icmpNo X177.here hx rfl (hb hby at_351) rfl (flt hc351_185).1 ?_
            refine XS.aload X177.here hx rfl (hb hby at_354) rfl rfl ?_
            refine XS.astore X177.here hx rfl (hb hby at_356) rfl rfl (l' := #[iv pn, iv ps, iv pg, iv pi, iv pl, iv 2, jv_ l0, s_, jv_ l1, s_, jv_ l2, s_, jv_ l3, s_, iv sq0, iv sq1, iv sq2, iv sq3, rv b16, rv b18, rv b21, rv b25, rv b30, rv b140, iv pl3, iv pl2, jv_ tgt_, s_, jv_ clp, s_, iv ix, rv b18]) (XS.store1 rfl (Or.inr ⟨_, rfl, Jvm.Free.XT.cat1 ir0⟩) rfl) ?_
            show Sx p e below T177 m 358 #[iv pn, iv ps, iv pg, iv pi, iv pl, iv 2, jv_ l0, s_, jv_ l1, s_, jv_ l2, s_, jv_ l3, s_, iv sq0, iv sq1, iv sq2, iv sq3, rv b16, rv b18, rv b21, rv b25, rv b30, rv b140, iv pl3, iv pl2, jv_ tgt_, s_, jv_ clp, s_, iv ix, rv b18] [] _
            exact kt
          exact ⟨T177, _, (.ref b18), X177.more (by decide) (by decide), e177, N177, (if_neg hc351_185).symm, fun _ kt => (R184 _ (R187 _ kt))⟩
      have ir1 : ((if ix < sq1 then (if ix < sq0 then .null else .ref b16) else .ref b18) : Value).isRef = true := by
        by_cases h : ix < sq1
        · rw [if_pos h]; exact ir0
        · rw [if_neg h]; rfl
      have R188 : ∀ tg, Sx p e below T183 m 358 #[iv pn, iv ps, iv pg, iv pi, iv pl, iv 2, jv_ l0, s_, jv_ l1, s_, jv_ l2, s_, jv_ l3, s_, iv sq0, iv sq1, iv sq2, iv sq3, rv b16, rv b18, rv b21, rv b25, rv b30, rv b140, iv pl3, iv pl2, jv_ tgt_, s_, jv_ clp, s_, iv ix, .val (if ix < sq1 then (if ix < sq0 then .null else .ref b16) else .ref b18)] [] tg → Sx p e below T183 m 358 #[iv pn, iv ps, iv pg, iv pi, iv pl, iv 2, jv_ l0, s_, jv_ l1, s_, jv_ l2, s_, jv_ l3, s_, iv sq0, iv sq1, iv sq2, iv sq3, rv b16, rv b18, rv b21, rv b25, rv b30, rv b140, iv pl3, iv pl2, jv_ tgt_, s_, jv_ clp, s_, iv ix, .val ex1_] [] tg := fun tg kt => by rw [pj183_0]; exact kt
      have f189 := (f146.keep kp149)
      have f190 := (f147.keep kp149)
      have f191 := ((((((((((((fl17.ext E18).keep kp20 (ninS ne_b16_b18 nin0)).ext E21).keep kp24 (ninS ne_b16_b21 nin0)).ext E25).keep kp29 (ninS ne_b16_b25 nin0)).ext E30).keep kp36 (ninS ne_b16_b30 nin0)).keep kp133 (ninS ne_b16_b30 nin0)).keep kp139 (ninS ne_b16_b30 (ninS nq134_b16 nin0))).ext E140).keep kp149 (ninS ne_b16_b140 nin0))
      have f192 := ((((((((((fl20.ext E21).keep kp24 (ninS ne_b18_b21 nin0)).ext E25).keep kp29 (ninS ne_b18_b25 nin0)).ext E30).keep kp36 (ninS ne_b18_b30 nin0)).keep kp133 (ninS ne_b18_b30 nin0)).keep kp139 (ninS ne_b18_b30 (ninS nq134_b18 nin0))).ext E140).keep kp149 (ninS ne_b18_b140 nin0))
      have f193 := (f148.keep kp149 (allS gb_b140 all0))
      have f195 := (A140.keep kp149)
      obtain ⟨cq194, kq194, q194a, q194b, q194c⟩ := isOf hZ e183 f195
      obtain ⟨_, _, ⟨T194, L194, k194, n194⟩, -, X194, ⟨Lc194, hQ194, l194, y194, z194⟩, st194⟩ := X183.virtualBack hx (y := (⟨"com/example/clausemap/clausemap/outline/Outline", "partAt", "(I)Lcom/example/clausemap/clausemap/outline/Part;"⟩ : MethodName)) (z := (⟨"com/example/clausemap/clausemap/outline/Outline", "partAt", "(I)Lcom/example/clausemap/clausemap/outline/Part;"⟩ : MethodName)) hown (mvT hZ (w_ hw 98 rfl)) (mvT hZ (w_ hw 99 rfl)) (notFace_of_selects (args := #[]) (mvT hZ (w_ hw 101 rfl))) (mvT hZ (w_ hw 101 rfl)) (mvT hZ (w_ hw 100 rfl)) (by decide) (backOf (W := 0) (rmP2 l Z a0 hw [] b140 lb149 b16 b18 em ix sq0 sq1 T149.heap n0 Z149 fp149 lv149 f189 f190 f191 f192 hq01 (hSe.ext f193.2) (ne_exa f190 (hEm.ext f193.2) (by decide))) hZ (w_ hw 102 rfl) (w_ hw 54 rfl) (by decide) (by decide)) q194a q194c (g := (mkF m 396 #[iv pn, iv ps, iv pg, iv pi, iv pl, iv 2, jv_ l0, s_, jv_ l1, s_, jv_ l2, s_, jv_ l3, s_, iv sq0, iv sq1, iv sq2, iv sq3, rv b16, rv b18, rv b21, rv b25, rv b30, rv b140, iv pl3, iv pl2, jv_ tgt_, s_, jv_ clp, s_, iv ix, .val (if ix < sq1 then (if ix < sq0 then .null else .ref b16) else .ref b18)] [(.int ix), (.ref b140)])) rfl (by rw [hml]; rfl) (Steps.refl _) (argsL := [(.int ix)]) (rest := []) (lenOf pd_18 rfl) rfl (by show 2 * 0 + _ ≤ _; exact Nat.le_of_eq rfl) (hb hby at_396) (fun _ _ => ⟨rfl, e183, (by decide : 9 + 0 ≤ _), (by decide : 42 + 0 ≤ _)⟩)
      dsimp only [Pt.U, Pt.locs, Pt.cells, Pt.slots] at X194 l194 y194 z194 st194 hQ194
      subst l194 y194 z194
      obtain ⟨hv194, N194q, r194⟩ := hQ194
      subst hv194
      have N194 := Fr.app N183 N194q
      obtain ⟨fs, hr, hrun, hended, hW, hsame⟩ := X194.leave (v := some (.int 1)) (fun h => by rw [Bd.returns] at h; cases h)
      refine ⟨_, _, pre0 _ (R1 _ (R2 _ (R3 _ (R4 _ (R5 _ (R6 _ (R7 _ (R8 _ (R9 _ (R11 _ (R12 _ (R13 _ (R14 _ (R15 _ (R37 _ (R130 _ (R150 _ (R151 _ (R152 _ (R153 _ (R164 _ (R165 _ (R172 _ (R173 _ (R174 _ (R175 _ (R176 _ (R177 _ (R182 _ (R183 _ (R188 _ ?_))))))))))))))))))))))))))))))), hrun, hended, _, _, rfl, ?_, ⟨_, rfl⟩, hW, hsame.mono (by decide) (by decide)⟩
      · show Sx p e below T183 m 358 #[iv pn, iv ps, iv pg, iv pi, iv pl, iv 2, jv_ l0, s_, jv_ l1, s_, jv_ l2, s_, jv_ l3, s_, iv sq0, iv sq1, iv sq2, iv sq3, rv b16, rv b18, rv b21, rv b25, rv b30, rv b140, iv pl3, iv pl2, jv_ tgt_, s_, jv_ clp, s_, iv ix, .val (if ix < sq1 then (if ix < sq0 then .null else .ref b16) else .ref b18)] [] _
        refine XS.iload X183.here hx rfl (hb hby at_358) rfl ?_
        refine XS.iconst X183.here hx rfl (hb hby at_360) ?_
        refine XS.icmpYes X183.here hx rfl (pc0 := 361) (pc' := 375) rfl (hb hby at_361) rfl (flt (by decide : ¬ ((2 : Int32) < (2 : Int32)))).2.2.2 (by decide) (by decide) ?_
        refine XS.iload X183.here hx rfl (hb hby at_375) rfl ?_
        refine XS.iconst X183.here hx rfl (hb hby at_377) ?_
        show Sx p e below T183 m 378 #[iv pn, iv ps, iv pg, iv pi, iv pl, iv 2, jv_ l0, s_, jv_ l1, s_, jv_ l2, s_, jv_ l3, s_, iv sq0, iv sq1, iv sq2, iv sq3, rv b16, rv b18, rv b21, rv b25, rv b30, rv b140, iv pl3, iv pl2, jv_ tgt_, s_, jv_ clp, s_, iv ix, .val (if ix < sq1 then (if ix < sq0 then .null else .ref b16) else .ref b18)] [(.int 3), (.int 2)] _
        refine XS.icmpYes X183.here hx rfl (pc0 := 378) (pc' := 392) rfl (hb hby at_378) rfl (flt (by decide : ¬ ((3 : Int32) < (2 : Int32)))).2.2.2 (by decide) (by decide) ?_
        refine XS.aload X183.here hx rfl (hb hby at_392) rfl rfl ?_
        refine XS.iload X183.here hx rfl (hb hby at_394) rfl ?_
        refine st194.trans ?_
        refine XS.aload X194.here hx rfl (hb hby at_399) rfl ir1 ?_
        show Sx p e below T194 m 401 #[iv pn, iv ps, iv pg, iv pi, iv pl, iv 2, jv_ l0, s_, jv_ l1, s_, jv_ l2, s_, jv_ l3, s_, iv sq0, iv sq1, iv sq2, iv sq3, rv b16, rv b18, rv b21, rv b25, rv b30, rv b140, iv pl3, iv pl2, jv_ tgt_, s_, jv_ clp, s_, iv ix, .val (if ix < sq1 then (if ix < sq0 then .null else .ref b16) else .ref b18)] [(if ix < sq1 then (if ix < sq0 then .null else .ref b16) else .ref b18), (if ix < sq1 then (if ix < sq0 then .null else .ref b16) else .ref b18)] _
        refine Jvm.RoadKit.acmp (g := (mkF m 401 #[iv pn, iv ps, iv pg, iv pi, iv pl, iv 2, jv_ l0, s_, jv_ l1, s_, jv_ l2, s_, jv_ l3, s_, iv sq0, iv sq1, iv sq2, iv sq3, rv b16, rv b18, rv b21, rv b25, rv b30, rv b140, iv pl3, iv pl2, jv_ tgt_, s_, jv_ clp, s_, iv ix, .val (if ix < sq1 then (if ix < sq0 then .null else .ref b16) else .ref b18)] [(if ix < sq1 then (if ix < sq0 then .null else .ref b16) else .ref b18), (if ix < sq1 then (if ix < sq0 then .null else .ref b16) else .ref b18)])) X194 hx rfl ir1 ir1 (pc0 := 401) (pc' := 404) (same := true) rfl (hb hby at_401) rfl (decide_eq_true rfl) (by decide) (by decide) ?_
        refine XS.iconst X194.here hx rfl (hb hby at_404) ?_
        refine XS.goto X194.here hx rfl (pc0 := 405) (pc' := 409) rfl (hb hby at_405) (by decide) (by decide) ?_
        show Sx p e below T194 m 409 #[iv pn, iv ps, iv pg, iv pi, iv pl, iv 2, jv_ l0, s_, jv_ l1, s_, jv_ l2, s_, jv_ l3, s_, iv sq0, iv sq1, iv sq2, iv sq3, rv b16, rv b18, rv b21, rv b25, rv b30, rv b140, iv pl3, iv pl2, jv_ tgt_, s_, jv_ clp, s_, iv ix, .val (if ix < sq1 then (if ix < sq0 then .null else .ref b16) else .ref b18)] [(.int 1)] _
        exact retN X194 hx (t := .boolean) Bd.returns (by simp) (hb hby at_409) hr
      · show Q0 n0 _ T194.heap _
        rw [r194]
        exact ⟨rfl, N194⟩
    · have R196 : ∀ tg, Sx p e below T36 m 165 #[iv pn, iv ps, iv pg, iv pi, iv pl, iv 3, jv_ l0, s_, jv_ l1, s_, jv_ l2, s_, jv_ l3, s_, iv sq0, iv sq1, iv sq2, iv sq3, rv b16, rv b18, rv b21, rv b25, rv b30, u_, u_, u_, u_, u_, u_, u_, u_, u_] [] tg → Sx p e below T36 m 165 #[iv pn, iv ps, iv pg, iv pi, iv pl, iv ((pn &&& (2147483647 : Int32)) % (5 : Int32)), jv_ l0, s_, jv_ l1, s_, jv_ l2, s_, jv_ l3, s_, iv sq0, iv sq1, iv sq2, iv sq3, rv b16, rv b18, rv b21, rv b25, rv b30, u_, u_, u_, u_, u_, u_, u_, u_, u_] [] tg := fun tg kt => by rw [hk38]; exact kt
      have f197 := (f35.keep kp36 (allS gb_b30 all0))
      have f198 := ((f31.ext E30).keep kp36)
      obtain ⟨cq199, kq199, q199a, q199b, q199c⟩ := isOf hZ rfl fa36
      obtain ⟨_, _, ⟨T199, L199, k199, n199⟩, -, X199, ⟨Lc199, hQ199, l199, y199, z199⟩, st199⟩ := X36.virtualBack hx (y := (⟨"java/util/ArrayList", "add", "(Ljava/lang/Object;)Z"⟩ : MethodName)) (z := (⟨"java/util/ArrayList", "add", "(Ljava/lang/Object;)Z"⟩ : MethodName)) hown (mvT hZ (w_ hw 115 rfl)) (mvT hZ (w_ hw 116 rfl)) (notFace_of_selects (args := #[]) (mvT hZ (w_ hw 118 rfl))) (mvT hZ (w_ hw 118 rfl)) (mvT hZ (w_ hw 117 rfl)) (by decide) (backOf (W := 0) (rmAg l Z a0 hw [] b30 b16 dc kd (0 : Int32) T36.heap n0 Z36 ⟨fa36, fb36, fc36, fd36⟩ gb_b30 (hSd.ext f197.2) (hAd.ext f197.2) f198 (Ne.symm (Old.ne f197 hAd.lt gb_b30))) hZ (w_ hw 119 rfl) (w_ hw 30 rfl) (by decide) (by decide)) q199a q199c (g := (mkF m 174 #[iv pn, iv ps, iv pg, iv pi, iv pl, iv 3, jv_ l0, s_, jv_ l1, s_, jv_ l2, s_, jv_ l3, s_, iv sq0, iv sq1, iv sq2, iv sq3, rv b16, rv b18, rv b21, rv b25, rv b30, u_, u_, u_, u_, u_, u_, u_, u_, u_] [(.ref b16), (.ref b30)])) rfl (by rw [hml]; rfl) (Steps.refl _) (argsL := [(.ref b16)]) (rest := []) (lenOf pd_19 rfl) rfl (by show 2 * 0 + _ ≤ _; exact Nat.le_of_eq rfl) (hb hby at_174) (fun _ _ => ⟨rfl, rfl, (by decide : 5 + 1 ≤ _), (by decide : 27 + 10 ≤ _)⟩)
      dsimp only [Pt.U, Pt.locs, Pt.cells, Pt.slots] at X199 l199 y199 z199 st199 hQ199
      subst l199 y199 z199
      obtain ⟨hv199, N199q, kp199, ea199, ke199, mc199, sz199, hC199⟩ := hQ199
      subst hv199
      have N199 := Fr.app N36 N199q
      have Z199 : n0 ≤ T199.heap.size := Nat.le_trans Z36 kp199.1
      have f201 := (f198.keep kp199)
      have nq200_b16 : b16 ≠ ea199 := own_ne_arv f201 (w_ hw 3 rfl) hC199.2.1
      have f202 := (((f32.ext E30).keep kp36).keep kp199)
      have nq200_b18 : b18 ≠ ea199 := own_ne_arv f202 (w_ hw 3 rfl) hC199.2.1
      have f203 := (((f33.ext E30).keep kp36).keep kp199)
      have nq200_b21 : b21 ≠ ea199 := own_ne_arv f203 (w_ hw 3 rfl) hC199.2.1
      have f204 := (((f34.ext E30).keep kp36).keep kp199)
      have nq200_b25 : b25 ≠ ea199 := own_ne_arv f204 (w_ hw 3 rfl) hC199.2.1
      obtain ⟨cq205, kq205, q205a, q205b, q205c⟩ := isOf hZ rfl hC199.1.1
      obtain ⟨_, _, ⟨T205, L205, k205, n205⟩, -, X205, ⟨Lc205, hQ205, l205, y205, z205⟩, st205⟩ := X199.virtualBack hx (y := (⟨"java/util/ArrayList", "add", "(Ljava/lang/Object;)Z"⟩ : MethodName)) (z := (⟨"java/util/ArrayList", "add", "(Ljava/lang/Object;)Z"⟩ : MethodName)) hown (mvT hZ (w_ hw 115 rfl)) (mvT hZ (w_ hw 116 rfl)) (notFace_of_selects (args := #[]) (mvT hZ (w_ hw 118 rfl))) (mvT hZ (w_ hw 118 rfl)) (mvT hZ (w_ hw 117 rfl)) (by decide) (backOf (W := 0) (rmAn l Z a0 hw [] b30 b18 ea199 ke199 mc199 (1 : Int32) [.ref b16, .null, .null, .null, .null, .null, .null, .null, .null, .null] 1 T199.heap n0 Z199 hC199 f202 (by decide) ⟨by decide, by decide⟩ rfl (Nat.le_of_ble_eq_true rfl)) hZ (w_ hw 119 rfl) (w_ hw 30 rfl) (by decide) (by decide)) q205a q205c (g := (mkF m 188 #[iv pn, iv ps, iv pg, iv pi, iv pl, iv 3, jv_ l0, s_, jv_ l1, s_, jv_ l2, s_, jv_ l3, s_, iv sq0, iv sq1, iv sq2, iv sq3, rv b16, rv b18, rv b21, rv b25, rv b30, u_, u_, u_, u_, u_, u_, u_, u_, u_] [(.ref b18), (.ref b30)])) rfl (by rw [hml]; rfl) (Steps.refl _) (argsL := [(.ref b18)]) (rest := []) (lenOf pd_19 rfl) rfl (by show 2 * 0 + _ ≤ _; exact Nat.le_of_eq rfl) (hb hby at_188) (fun _ _ => ⟨rfl, rfl, (by decide : 6 + 0 ≤ _), (by decide : 37 + 0 ≤ _)⟩)
      dsimp only [Pt.U, Pt.locs, Pt.cells, Pt.slots] at X205 l205 y205 z205 st205 hQ205
      subst l205 y205 z205
      obtain ⟨hv205, N205q, kp205, mc205, hC205⟩ := hQ205
      subst hv205
      have N205 := Fr.app N199 N205q
      have Z205 : n0 ≤ T205.heap.size := Nat.le_trans Z199 kp205.1
      have hC205' : ALs Z n0 T205.heap b30 ea199 ke199 mc205 (2 : Int32) [.ref b16, .ref b18, .null, .null, .null, .null, .null, .null, .null, .null] := by
        have q := hC205
        rw [show ((1 : Int32) + 1) = (2 : Int32) from by decide] at q
        exact q
      have f207 := (f203.keep kp205)
      obtain ⟨cq208, kq208, q208a, q208b, q208c⟩ := isOf hZ rfl hC205'.1.1
      obtain ⟨_, _, ⟨T208, L208, k208, n208⟩, -, X208, ⟨Lc208, hQ208, l208, y208, z208⟩, st208⟩ := X205.virtualBack hx (y := (⟨"java/util/ArrayList", "add", "(Ljava/lang/Object;)Z"⟩ : MethodName)) (z := (⟨"java/util/ArrayList", "add", "(Ljava/lang/Object;)Z"⟩ : MethodName)) hown (mvT hZ (w_ hw 115 rfl)) (mvT hZ (w_ hw 116 rfl)) (notFace_of_selects (args := #[]) (mvT hZ (w_ hw 118 rfl))) (mvT hZ (w_ hw 118 rfl)) (mvT hZ (w_ hw 117 rfl)) (by decide) (backOf (W := 0) (rmAn l Z a0 hw [] b30 b21 ea199 ke199 mc205 (2 : Int32) [.ref b16, .ref b18, .null, .null, .null, .null, .null, .null, .null, .null] 2 T205.heap n0 Z205 hC205' f207 (by decide) ⟨by decide, by decide⟩ rfl (Nat.le_of_ble_eq_true rfl)) hZ (w_ hw 119 rfl) (w_ hw 30 rfl) (by decide) (by decide)) q208a q208c (g := (mkF m 202 #[iv pn, iv ps, iv pg, iv pi, iv pl, iv 3, jv_ l0, s_, jv_ l1, s_, jv_ l2, s_, jv_ l3, s_, iv sq0, iv sq1, iv sq2, iv sq3, rv b16, rv b18, rv b21, rv b25, rv b30, u_, u_, u_, u_, u_, u_, u_, u_, u_] [(.ref b21), (.ref b30)])) rfl (by rw [hml]; rfl) (Steps.refl _) (argsL := [(.ref b21)]) (rest := []) (lenOf pd_19 rfl) rfl (by show 2 * 0 + _ ≤ _; exact Nat.le_of_eq rfl) (hb hby at_202) (fun _ _ => ⟨rfl, rfl, (by decide : 6 + 0 ≤ _), (by decide : 37 + 0 ≤ _)⟩)
      dsimp only [Pt.U, Pt.locs, Pt.cells, Pt.slots] at X208 l208 y208 z208 st208 hQ208
      subst l208 y208 z208
      obtain ⟨hv208, N208q, kp208, mc208, hC208⟩ := hQ208
      subst hv208
      have N208 := Fr.app N205 N208q
      have Z208 : n0 ≤ T208.heap.size := Nat.le_trans Z205 kp208.1
      have hC208' : ALs Z n0 T208.heap b30 ea199 ke199 mc208 (3 : Int32) [.ref b16, .ref b18, .ref b21, .null, .null, .null, .null, .null, .null, .null] := by
        have q := hC208
        rw [show ((2 : Int32) + 1) = (3 : Int32) from by decide] at q
        exact q
      obtain ⟨T209, h209, X209, e209, E209, A209, D209, -, st209⟩ := newO X208 hx hZ hown (w_ hw 52 rfl) (w_ hw 53 rfl) (w_ hw 54 rfl) rfl (g := (mkF m 220 #[iv pn, iv ps, iv pg, iv pi, iv pl, iv 3, jv_ l0, s_, jv_ l1, s_, jv_ l2, s_, jv_ l3, s_, iv sq0, iv sq1, iv sq2, iv sq3, rv b16, rv b18, rv b21, rv b25, rv b30, u_, u_, u_, u_, u_, u_, u_, u_, u_] [])) rfl (hb hby at_220) (by decide) (by decide)
      obtain ⟨b209, g209⟩ : ∃ z, z = T208.heap.size := ⟨_, rfl⟩
      rw [← g209] at A209 D209 st209
      have f210 := ((f201.keep kp205).keep kp208)
      have ne_b16_b209 : b16 ≠ b209 := Nat.ne_of_lt (Nat.lt_of_lt_of_le (f210).lt (Nat.le_of_eq g209.symm))
      have f211 := ((f202.keep kp205).keep kp208)
      have ne_b18_b209 : b18 ≠ b209 := Nat.ne_of_lt (Nat.lt_of_lt_of_le (f211).lt (Nat.le_of_eq g209.symm))
      have f212 := (f207.keep kp208)
      have ne_b21_b209 : b21 ≠ b209 := Nat.ne_of_lt (Nat.lt_of_lt_of_le (f212).lt (Nat.le_of_eq g209.symm))
      have f213 := ((f204.keep kp205).keep kp208)
      have ne_b25_b209 : b25 ≠ b209 := Nat.ne_of_lt (Nat.lt_of_lt_of_le (f213).lt (Nat.le_of_eq g209.symm))
      have ne_b30_b209 : b30 ≠ b209 := Nat.ne_of_lt (Nat.lt_of_lt_of_le (hC208'.1.1).lt (Nat.le_of_eq g209.symm))
      have gb_b209 : n0 ≤ b209 := Nat.le_trans Z208 (Nat.le_of_eq g209.symm)
      have Z209 : n0 ≤ h209.size := Nat.le_trans Z208 E209.1
      have F209_parts : Fld Z h209 b209 "com/example/clausemap/clausemap/outline/Outline" "parts" "Ljava/util/List;" .null := D209 (Or.inr (w_ hw 89 rfl)) (ty := (.object "java/util/List")) (by decide)
      have f214 := (ALs.ext hC208' E209)
      have f215 := (f210.ext E209)
      have f216 := (f211.ext E209)
      have f217 := (f212.ext E209)
      have f218 := ((((f197.keep kp199 (allS gb_b30 all0)).keep kp205 (allS gb_b30 (allS (hC205'.2.2.2.2.2.1) all0))).keep kp208 (allS gb_b30 (allS (hC205'.2.2.2.2.2.1) all0))).ext E209)
      obtain ⟨_, _, ⟨T219, L219, k219, n219⟩, -, X219, ⟨Lc219, hQ219, l219, y219, z219⟩, st219⟩ := X209.specialBack hx (y := (⟨"com/example/clausemap/clausemap/outline/Outline", "<init>", "(Ljava/util/List;)V"⟩ : MethodName)) rfl hown (mvT hZ (w_ hw 55 rfl)) (mvT hZ (w_ hw 56 rfl)) (mvT hZ (w_ hw 57 rfl)) (by decide) (backOf (W := 1) (rmI3 l Z a0 hw [] b209 b30 ea199 b16 b18 b21 em ke199 mc208 h209 n0 Z209 A209 F209_parts gb_b209 (Ne.symm ne_b30_b209) f214 f215 f216 f217 hM f218 hSe) hZ (w_ hw 57 rfl) (w_ hw 54 rfl) (by decide) (by decide)) (g := (mkF m 226 #[iv pn, iv ps, iv pg, iv pi, iv pl, iv 3, jv_ l0, s_, jv_ l1, s_, jv_ l2, s_, jv_ l3, s_, iv sq0, iv sq1, iv sq2, iv sq3, rv b16, rv b18, rv b21, rv b25, rv b30, u_, u_, u_, u_, u_, u_, u_, u_, u_] [(.ref b30), (.ref b209), (.ref b209)])) rfl (by rw [hml]; rfl) (Steps.refl _) (a := b209) (argsL := [(.ref b30)]) (rest := [(.ref b209)]) (lenOf pd_16 rfl) rfl (by show 2 * 0 + _ ≤ _; exact Nat.le_of_eq rfl) (hb hby at_226) (fun _ _ => ⟨rfl, e209, (by decide : 7 + 3 ≤ _), (by decide : 38 + 8 ≤ _)⟩)
      dsimp only [Pt.U, Pt.locs, Pt.cells, Pt.slots] at X219 l219 y219 z219 st219 hQ219
      subst l219 y219 z219
      obtain ⟨hv219, N219q, kp219, lb219, fp219, lv219⟩ := hQ219
      subst hv219
      have N219 := Fr.app N208 N219q
      have Z219 : n0 ≤ T219.heap.size := Nat.le_trans Z209 kp219.1
      obtain ⟨pl3, hpl3⟩ : ∃ z, z = (pl &&& (3 : Int32)) := ⟨_, rfl⟩
      have R220 : ∀ tg, Sx p e below T219 m 245 #[iv pn, iv ps, iv pg, iv pi, iv pl, iv 3, jv_ l0, s_, jv_ l1, s_, jv_ l2, s_, jv_ l3, s_, iv sq0, iv sq1, iv sq2, iv sq3, rv b16, rv b18, rv b21, rv b25, rv b30, rv b209, iv (pl &&& (3 : Int32)), iv (((pl.toUInt32 >>> ((2 : Int32) &&& 31).toUInt32).toInt32) &&& (3 : Int32)), u_, u_, u_, u_, u_, u_] [] tg → Sx p e below T36 m 165 #[iv pn, iv ps, iv pg, iv pi, iv pl, iv 3, jv_ l0, s_, jv_ l1, s_, jv_ l2, s_, jv_ l3, s_, iv sq0, iv sq1, iv sq2, iv sq3, rv b16, rv b18, rv b21, rv b25, rv b30, u_, u_, u_, u_, u_, u_, u_, u_, u_] [] tg := by
        intro tg kt
        refine XS.iload X36.here hx rfl (hb hby at_165) rfl ?_
        refine XS.ifNo X36.here hx rfl (hb hby at_167) rfl ((if0 _ _).trans (tlt (by decide : (0 : Int32) < (3 : Int32))).2.2.2) ?_
        refine XS.aload X36.here hx rfl (hb hby at_170) rfl rfl ?_
        refine XS.aload X36.here hx rfl (hb hby at_172) rfl rfl ?_
        refine st199.trans ?_
        show Sx p e below T199 m 177 #[iv pn, iv ps, iv pg, iv pi, iv pl, iv 3, jv_ l0, s_, jv_ l1, s_, jv_ l2, s_, jv_ l3, s_, iv sq0, iv sq1, iv sq2, iv sq3, rv b16, rv b18, rv b21, rv b25, rv b30, u_, u_, u_, u_, u_, u_, u_, u_, u_] [(.int 1)] _
        refine XS.pop X199.here hx rfl (hb hby at_177) rfl rfl ?_
        refine XS.iload X199.here hx rfl (hb hby at_178) rfl ?_
        refine XS.iconst X199.here hx rfl (hb hby at_180) ?_
        refine XS.icmpNo X199.here hx rfl (hb hby at_181) rfl (tlt (by decide : (1 : Int32) < (3 : Int32))).2.2.2 ?_
        refine XS.aload X199.here hx rfl (hb hby at_184) rfl rfl ?_
        show Sx p e below T199 m 186 #[iv pn, iv ps, iv pg, iv pi, iv pl, iv 3, jv_ l0, s_, jv_ l1, s_, jv_ l2, s_, jv_ l3, s_, iv sq0, iv sq1, iv sq2, iv sq3, rv b16, rv b18, rv b21, rv b25, rv b30, u_, u_, u_, u_, u_, u_, u_, u_, u_] [(.ref b30)] _
        refine XS.aload X199.here hx rfl (hb hby at_186) rfl rfl ?_
        refine st205.trans ?_
        refine XS.pop X205.here hx rfl (hb hby at_191) rfl rfl ?_
        refine XS.iload X205.here hx rfl (hb hby at_192) rfl ?_
        refine XS.iconst X205.here hx rfl (hb hby at_194) ?_
        show Sx p e below T205 m 195 #[iv pn, iv ps, iv pg, iv pi, iv pl, iv 3, jv_ l0, s_, jv_ l1, s_, jv_ l2, s_, jv_ l3, s_, iv sq0, iv sq1, iv sq2, iv sq3, rv b16, rv b18, rv b21, rv b25, rv b30, u_, u_, u_, u_, u_, u_, u_, u_, u_] [(.int 2), (.int 3)] _
        refine XS.icmpNo X205.here hx rfl (hb hby at_195) rfl (tlt (by decide : (2 : Int32) < (3 : Int32))).2.2.2 ?_
        refine XS.aload X205.here hx rfl (hb hby at_198) rfl rfl ?_
        refine XS.aload X205.here hx rfl (hb hby at_200) rfl rfl ?_
        refine st208.trans ?_
        refine XS.pop X208.here hx rfl (hb hby at_205) rfl rfl ?_
        show Sx p e below T208 m 206 #[iv pn, iv ps, iv pg, iv pi, iv pl, iv 3, jv_ l0, s_, jv_ l1, s_, jv_ l2, s_, jv_ l3, s_, iv sq0, iv sq1, iv sq2, iv sq3, rv b16, rv b18, rv b21, rv b25, rv b30, u_, u_, u_, u_, u_, u_, u_, u_, u_] [] _
        refine XS.iload X208.here hx rfl (hb hby at_206) rfl ?_
        refine XS.iconst X208.here hx rfl (hb hby at_208) ?_
        refine XS.icmpYes X208.here hx rfl (pc0 := 209) (pc' := 220) rfl (hb hby at_209) rfl (flt (by decide : ¬ ((3 : Int32) < (3 : Int32)))).2.2.2 (by decide) (by decide) ?_
        refine st209 _ ?_
        refine XS.dup X209.here hx rfl (hb hby at_223) rfl rfl ?_
        show Sx p e below T209 m 224 #[iv pn, iv ps, iv pg, iv pi, iv pl, iv 3, jv_ l0, s_, jv_ l1, s_, jv_ l2, s_, jv_ l3, s_, iv sq0, iv sq1, iv sq2, iv sq3, rv b16, rv b18, rv b21, rv b25, rv b30, u_, u_, u_, u_, u_, u_, u_, u_, u_] [(.ref b209), (.ref b209)] _
        refine XS.aload X209.here hx rfl (hb hby at_224) rfl rfl ?_
        refine st219.trans ?_
        refine XS.astore X219.here hx rfl (hb hby at_229) rfl rfl (l' := #[iv pn, iv ps, iv pg, iv pi, iv pl, iv 3, jv_ l0, s_, jv_ l1, s_, jv_ l2, s_, jv_ l3, s_, iv sq0, iv sq1, iv sq2, iv sq3, rv b16, rv b18, rv b21, rv b25, rv b30, rv b209, u_, u_, u_, u_, u_, u_, u_, u_]) rfl ?_
        refine XS.iload X219.here hx rfl (hb hby at_231) rfl ?_
        refine XS.iconst X219.here hx rfl (hb hby at_233) ?_
        show Sx p e below T219 m 234 #[iv pn, iv ps, iv pg, iv pi, iv pl, iv 3, jv_ l0, s_, jv_ l1, s_, jv_ l2, s_, jv_ l3, s_, iv sq0, iv sq1, iv sq2, iv sq3, rv b16, rv b18, rv b21, rv b25, rv b30, rv b209, u_, u_, u_, u_, u_, u_, u_, u_] [(.int 3), (.int pl)] _
        refine XS.iand X219.here hx rfl (hb hby at_234) rfl ?_
        refine XS.istore X219.here hx rfl (hb hby at_235) rfl (l' := #[iv pn, iv ps, iv pg, iv pi, iv pl, iv 3, jv_ l0, s_, jv_ l1, s_, jv_ l2, s_, jv_ l3, s_, iv sq0, iv sq1, iv sq2, iv sq3, rv b16, rv b18, rv b21, rv b25, rv b30, rv b209, iv (pl &&& (3 : Int32)), u_, u_, u_, u_, u_, u_, u_]) rfl ?_
        refine XS.iload X219.here hx rfl (hb hby at_237) rfl ?_
        refine XS.iconst X219.here hx rfl (hb hby at_239) ?_
        refine XS.iushr X219.here hx rfl (hb hby at_240) rfl ?_
        show Sx p e below T219 m 241 #[iv pn, iv ps, iv pg, iv pi, iv pl, iv 3, jv_ l0, s_, jv_ l1, s_, jv_ l2, s_, jv_ l3, s_, iv sq0, iv sq1, iv sq2, iv sq3, rv b16, rv b18, rv b21, rv b25, rv b30, rv b209, iv (pl &&& (3 : Int32)), u_, u_, u_, u_, u_, u_, u_] [(.int ((pl.toUInt32 >>> ((2 : Int32) &&& 31).toUInt32).toInt32))] _
        refine XS.iconst X219.here hx rfl (hb hby at_241) ?_
        refine XS.iand X219.here hx rfl (hb hby at_242) rfl ?_
        refine XS.istore X219.here hx rfl (hb hby at_243) rfl (l' := #[iv pn, iv ps, iv pg, iv pi, iv pl, iv 3, jv_ l0, s_, jv_ l1, s_, jv_ l2, s_, jv_ l3, s_, iv sq0, iv sq1, iv sq2, iv sq3, rv b16, rv b18, rv b21, rv b25, rv b30, rv b209, iv (pl &&& (3 : Int32)), iv (((pl.toUInt32 >>> ((2 : Int32) &&& 31).toUInt32).toInt32) &&& (3 : Int32)), u_, u_, u_, u_, u_, u_]) rfl ?_
        show Sx p e below T219 m 245 #[iv pn, iv ps, iv pg, iv pi, iv pl, iv 3, jv_ l0, s_, jv_ l1, s_, jv_ l2, s_, jv_ l3, s_, iv sq0, iv sq1, iv sq2, iv sq3, rv b16, rv b18, rv b21, rv b25, rv b30, rv b209, iv (pl &&& (3 : Int32)), iv (((pl.toUInt32 >>> ((2 : Int32) &&& 31).toUInt32).toInt32) &&& (3 : Int32)), u_, u_, u_, u_, u_, u_] [] _
        exact kt
      have R221 : ∀ tg, Sx p e below T219 m 245 #[iv pn, iv ps, iv pg, iv pi, iv pl, iv 3, jv_ l0, s_, jv_ l1, s_, jv_ l2, s_, jv_ l3, s_, iv sq0, iv sq1, iv sq2, iv sq3, rv b16, rv b18, rv b21, rv b25, rv b30, rv b209, iv pl3, iv (((pl.toUInt32 >>> ((2 : Int32) &&& 31).toUInt32).toInt32) &&& (3 : Int32)), u_, u_, u_, u_, u_, u_] [] tg → Sx p e below T219 m 245 #[iv pn, iv ps, iv pg, iv pi, iv pl, iv 3, jv_ l0, s_, jv_ l1, s_, jv_ l2, s_, jv_ l3, s_, iv sq0, iv sq1, iv sq2, iv sq3, rv b16, rv b18, rv b21, rv b25, rv b30, rv b209, iv (pl &&& (3 : Int32)), iv (((pl.toUInt32 >>> ((2 : Int32) &&& 31).toUInt32).toInt32) &&& (3 : Int32)), u_, u_, u_, u_, u_, u_] [] tg := fun tg kt => by rw [← hpl3]; exact kt
      obtain ⟨pl2, hpl2⟩ : ∃ z, z = (((pl.toUInt32 >>> ((2 : Int32) &&& 31).toUInt32).toInt32) &&& (3 : Int32)) := ⟨_, rfl⟩
      have R222 : ∀ tg, Sx p e below T219 m 245 #[iv pn, iv ps, iv pg, iv pi, iv pl, iv 3, jv_ l0, s_, jv_ l1, s_, jv_ l2, s_, jv_ l3, s_, iv sq0, iv sq1, iv sq2, iv sq3, rv b16, rv b18, rv b21, rv b25, rv b30, rv b209, iv pl3, iv pl2, u_, u_, u_, u_, u_, u_] [] tg → Sx p e below T219 m 245 #[iv pn, iv ps, iv pg, iv pi, iv pl, iv 3, jv_ l0, s_, jv_ l1, s_, jv_ l2, s_, jv_ l3, s_, iv sq0, iv sq1, iv sq2, iv sq3, rv b16, rv b18, rv b21, rv b25, rv b30, rv b209, iv pl3, iv (((pl.toUInt32 >>> ((2 : Int32) &&& 31).toUInt32).toInt32) &&& (3 : Int32)), u_, u_, u_, u_, u_, u_] [] tg := fun tg kt => by rw [← hpl2]; exact kt
      obtain ⟨T223, L223, tgt_, X223, e223, N223, R223⟩ : ∃ (T' : State) (L' : List Loc) (tgt_ : Int64), Stand p l e room_1 s m #[(.int pn), (.int ps), (.int pg), (.int pi), (.int pl)] below meth c T' L' 10 46 ∧ T'.heap = T219.heap ∧ Fr n0 L' ∧ ∀ tg, Sx p e below T' m 279 #[iv pn, iv ps, iv pg, iv pi, iv pl, iv 3, jv_ l0, s_, jv_ l1, s_, jv_ l2, s_, jv_ l3, s_, iv sq0, iv sq1, iv sq2, iv sq3, rv b16, rv b18, rv b21, rv b25, rv b30, rv b209, iv pl3, iv pl2, u_, u_, u_, u_, u_, u_] [(.long tgt_)] tg → Sx p e below T219 m 245 #[iv pn, iv ps, iv pg, iv pi, iv pl, iv 3, jv_ l0, s_, jv_ l1, s_, jv_ l2, s_, jv_ l3, s_, iv sq0, iv sq1, iv sq2, iv sq3, rv b16, rv b18, rv b21, rv b25, rv b30, rv b209, iv pl3, iv pl2, u_, u_, u_, u_, u_, u_] [] tg := by
        have R224 : ∀ tg, Sx p e below T219 m 247 #[iv pn, iv ps, iv pg, iv pi, iv pl, iv 3, jv_ l0, s_, jv_ l1, s_, jv_ l2, s_, jv_ l3, s_, iv sq0, iv sq1, iv sq2, iv sq3, rv b16, rv b18, rv b21, rv b25, rv b30, rv b209, iv pl3, iv pl2, u_, u_, u_, u_, u_, u_] [(.int pl2)] tg → Sx p e below T219 m 245 #[iv pn, iv ps, iv pg, iv pi, iv pl, iv 3, jv_ l0, s_, jv_ l1, s_, jv_ l2, s_, jv_ l3, s_, iv sq0, iv sq1, iv sq2, iv sq3, rv b16, rv b18, rv b21, rv b25, rv b30, rv b209, iv pl3, iv pl2, u_, u_, u_, u_, u_, u_] [] tg := by
          intro tg kt
          refine XS.iload X219.here hx rfl (hb hby at_245) rfl ?_
          show Sx p e below T219 m 247 #[iv pn, iv ps, iv pg, iv pi, iv pl, iv 3, jv_ l0, s_, jv_ l1, s_, jv_ l2, s_, jv_ l3, s_, iv sq0, iv sq1, iv sq2, iv sq3, rv b16, rv b18, rv b21, rv b25, rv b30, rv b209, iv pl3, iv pl2, u_, u_, u_, u_, u_, u_] [(.int pl2)] _
          exact kt
        by_cases hc247_225 : pl2 = (0 : Int32)
        · have R226 : ∀ tg, Sx p e below T219 m 279 #[iv pn, iv ps, iv pg, iv pi, iv pl, iv 3, jv_ l0, s_, jv_ l1, s_, jv_ l2, s_, jv_ l3, s_, iv sq0, iv sq1, iv sq2, iv sq3, rv b16, rv b18, rv b21, rv b25, rv b30, rv b209, iv pl3, iv pl2, u_, u_, u_, u_, u_, u_] [(.long l0)] tg → Sx p e below T219 m 247 #[iv pn, iv ps, iv pg, iv pi, iv pl, iv 3, jv_ l0, s_, jv_ l1, s_, jv_ l2, s_, jv_ l3, s_, iv sq0, iv sq1, iv sq2, iv sq3, rv b16, rv b18, rv b21, rv b25, rv b30, rv b209, iv pl3, iv pl2, u_, u_, u_, u_, u_, u_] [(.int pl2)] tg := by
            intro tg kt
            refine XS.ifNo X219.here hx rfl (hb hby at_247) rfl ((if0 _ _).trans (teq hc247_225).2) ?_
            refine XS.lload X219.here hx rfl (hb hby at_250) rfl ?_
            refine XS.goto X219.here hx rfl (pc0 := 252) (pc' := 279) rfl (hb hby at_252) (by decide) (by decide) ?_
            show Sx p e below T219 m 279 #[iv pn, iv ps, iv pg, iv pi, iv pl, iv 3, jv_ l0, s_, jv_ l1, s_, jv_ l2, s_, jv_ l3, s_, iv sq0, iv sq1, iv sq2, iv sq3, rv b16, rv b18, rv b21, rv b25, rv b30, rv b209, iv pl3, iv pl2, u_, u_, u_, u_, u_, u_] [(.long l0)] _
            exact kt
          exact ⟨T219, _, l0, X219.more (by decide) (by decide), rfl, N219, fun _ kt => (R224 _ (R226 _ kt))⟩
        · have R227 : ∀ tg, Sx p e below T219 m 258 #[iv pn, iv ps, iv pg, iv pi, iv pl, iv 3, jv_ l0, s_, jv_ l1, s_, jv_ l2, s_, jv_ l3, s_, iv sq0, iv sq1, iv sq2, iv sq3, rv b16, rv b18, rv b21, rv b25, rv b30, rv b209, iv pl3, iv pl2, u_, u_, u_, u_, u_, u_] [(.int 1), (.int pl2)] tg → Sx p e below T219 m 247 #[iv pn, iv ps, iv pg, iv pi, iv pl, iv 3, jv_ l0, s_, jv_ l1, s_, jv_ l2, s_, jv_ l3, s_, iv sq0, iv sq1, iv sq2, iv sq3, rv b16, rv b18, rv b21, rv b25, rv b30, rv b209, iv pl3, iv pl2, u_, u_, u_, u_, u_, u_] [(.int pl2)] tg := by
            intro tg kt
            refine XS.ifYes X219.here hx rfl (pc0 := 247) (pc' := 255) rfl (hb hby at_247) rfl ((if0 _ _).trans (feq hc247_225).2) (by decide) (by decide) ?_
            refine XS.iload X219.here hx rfl (hb hby at_255) rfl ?_
            refine XS.iconst X219.here hx rfl (hb hby at_257) ?_
            show Sx p e below T219 m 258 #[iv pn, iv ps, iv pg, iv pi, iv pl, iv 3, jv_ l0, s_, jv_ l1, s_, jv_ l2, s_, jv_ l3, s_, iv sq0, iv sq1, iv sq2, iv sq3, rv b16, rv b18, rv b21, rv b25, rv b30, rv b209, iv pl3, iv pl2, u_, u_, u_, u_, u_, u_] [(.int 1), (.int pl2)] _
            exact kt
          by_cases hc258_228 : pl2 = (1 : Int32)
          · have R229 : ∀ tg, Sx p e below T219 m 279 #[iv pn, iv ps, iv pg, iv pi, iv pl, iv 3, jv_ l0, s_, jv_ l1, s_, jv_ l2, s_, jv_ l3, s_, iv sq0, iv sq1, iv sq2, iv sq3, rv b16, rv b18, rv b21, rv b25, rv b30, rv b209, iv pl3, iv pl2, u_, u_, u_, u_, u_, u_] [(.long l1)] tg → Sx p e below T219 m 258 #[iv pn, iv ps, iv pg, iv pi, iv pl, iv 3, jv_ l0, s_, jv_ l1, s_, jv_ l2, s_, jv_ l3, s_, iv sq0, iv sq1, iv sq2, iv sq3, rv b16, rv b18, rv b21, rv b25, rv b30, rv b209, iv pl3, iv pl2, u_, u_, u_, u_, u_, u_] [(.int 1), (.int pl2)] tg := by
              intro tg kt
              refine XS.icmpNo X219.here hx rfl (hb hby at_258) rfl (teq hc258_228).2 ?_
              refine XS.lload X219.here hx rfl (hb hby at_261) rfl ?_
              refine XS.goto X219.here hx rfl (pc0 := 263) (pc' := 279) rfl (hb hby at_263) (by decide) (by decide) ?_
              show Sx p e below T219 m 279 #[iv pn, iv ps, iv pg, iv pi, iv pl, iv 3, jv_ l0, s_, jv_ l1, s_, jv_ l2, s_, jv_ l3, s_, iv sq0, iv sq1, iv sq2, iv sq3, rv b16, rv b18, rv b21, rv b25, rv b30, rv b209, iv pl3, iv pl2, u_, u_, u_, u_, u_, u_] [(.long l1)] _
              exact kt
            exact ⟨T219, _, l1, X219.more (by decide) (by decide), rfl, N219, fun _ kt => (R224 _ (R227 _ (R229 _ kt)))⟩
          · have R230 : ∀ tg, Sx p e below T219 m 269 #[iv pn, iv ps, iv pg, iv pi, iv pl, iv 3, jv_ l0, s_, jv_ l1, s_, jv_ l2, s_, jv_ l3, s_, iv sq0, iv sq1, iv sq2, iv sq3, rv b16, rv b18, rv b21, rv b25, rv b30, rv b209, iv pl3, iv pl2, u_, u_, u_, u_, u_, u_] [(.int 2), (.int pl2)] tg → Sx p e below T219 m 258 #[iv pn, iv ps, iv pg, iv pi, iv pl, iv 3, jv_ l0, s_, jv_ l1, s_, jv_ l2, s_, jv_ l3, s_, iv sq0, iv sq1, iv sq2, iv sq3, rv b16, rv b18, rv b21, rv b25, rv b30, rv b209, iv pl3, iv pl2, u_, u_, u_, u_, u_, u_] [(.int 1), (.int pl2)] tg := by
              intro tg kt
              refine XS.icmpYes X219.here hx rfl (pc0 := 258) (pc' := 266) rfl (hb hby at_258) rfl (feq hc258_228).2 (by decide) (by decide) ?_
              refine XS.iload X219.here hx rfl (hb hby at_266) rfl ?_
              refine XS.iconst X219.here hx rfl (hb hby at_268) ?_
              show Sx p e below T219 m 269 #[iv pn, iv ps, iv pg, iv pi, iv pl, iv 3, jv_ l0, s_, jv_ l1, s_, jv_ l2, s_, jv_ l3, s_, iv sq0, iv sq1, iv sq2, iv sq3, rv b16, rv b18, rv b21, rv b25, rv b30, rv b209, iv pl3, iv pl2, u_, u_, u_, u_, u_, u_] [(.int 2), (.int pl2)] _
              exact kt
            by_cases hc269_231 : pl2 = (2 : Int32)
            · have R232 : ∀ tg, Sx p e below T219 m 279 #[iv pn, iv ps, iv pg, iv pi, iv pl, iv 3, jv_ l0, s_, jv_ l1, s_, jv_ l2, s_, jv_ l3, s_, iv sq0, iv sq1, iv sq2, iv sq3, rv b16, rv b18, rv b21, rv b25, rv b30, rv b209, iv pl3, iv pl2, u_, u_, u_, u_, u_, u_] [(.long l2)] tg → Sx p e below T219 m 269 #[iv pn, iv ps, iv pg, iv pi, iv pl, iv 3, jv_ l0, s_, jv_ l1, s_, jv_ l2, s_, jv_ l3, s_, iv sq0, iv sq1, iv sq2, iv sq3, rv b16, rv b18, rv b21, rv b25, rv b30, rv b209, iv pl3, iv pl2, u_, u_, u_, u_, u_, u_] [(.int 2), (.int pl2)] tg := by
                intro tg kt
                refine XS.icmpNo X219.here hx rfl (hb hby at_269) rfl (teq hc269_231).2 ?_
                refine XS.lload X219.here hx rfl (hb hby at_272) rfl ?_
                refine XS.goto X219.here hx rfl (pc0 := 274) (pc' := 279) rfl (hb hby at_274) (by decide) (by decide) ?_
                show Sx p e below T219 m 279 #[iv pn, iv ps, iv pg, iv pi, iv pl, iv 3, jv_ l0, s_, jv_ l1, s_, jv_ l2, s_, jv_ l3, s_, iv sq0, iv sq1, iv sq2, iv sq3, rv b16, rv b18, rv b21, rv b25, rv b30, rv b209, iv pl3, iv pl2, u_, u_, u_, u_, u_, u_] [(.long l2)] _
                exact kt
              exact ⟨T219, _, l2, X219.more (by decide) (by decide), rfl, N219, fun _ kt => (R224 _ (R227 _ (R230 _ (R232 _ kt))))⟩
            · have R233 : ∀ tg, Sx p e below T219 m 279 #[iv pn, iv ps, iv pg, iv pi, iv pl, iv 3, jv_ l0, s_, jv_ l1, s_, jv_ l2, s_, jv_ l3, s_, iv sq0, iv sq1, iv sq2, iv sq3, rv b16, rv b18, rv b21, rv b25, rv b30, rv b209, iv pl3, iv pl2, u_, u_, u_, u_, u_, u_] [(.long l3)] tg → Sx p e below T219 m 269 #[iv pn, iv ps, iv pg, iv pi, iv pl, iv 3, jv_ l0, s_, jv_ l1, s_, jv_ l2, s_, jv_ l3, s_, iv sq0, iv sq1, iv sq2, iv sq3, rv b16, rv b18, rv b21, rv b25, rv b30, rv b209, iv pl3, iv pl2, u_, u_, u_, u_, u_, u_] [(.int 2), (.int pl2)] tg := by
                intro tg kt
                refine XS.icmpYes X219.here hx rfl (pc0 := 269) (pc' := 277) rfl (hb hby at_269) rfl (feq hc269_231).2 (by decide) (by decide) ?_
                refine XS.lload X219.here hx rfl (hb hby at_277) rfl ?_
                show Sx p e below T219 m 279 #[iv pn, iv ps, iv pg, iv pi, iv pl, iv 3, jv_ l0, s_, jv_ l1, s_, jv_ l2, s_, jv_ l3, s_, iv sq0, iv sq1, iv sq2, iv sq3, rv b16, rv b18, rv b21, rv b25, rv b30, rv b209, iv pl3, iv pl2, u_, u_, u_, u_, u_, u_] [(.long l3)] _
                exact kt
              exact ⟨T219, _, l3, X219.more (by decide) (by decide), rfl, N219, fun _ kt => (R224 _ (R227 _ (R230 _ (R233 _ kt))))⟩
      have R234 : ∀ tg, Sx p e below T223 m 281 #[iv pn, iv ps, iv pg, iv pi, iv pl, iv 3, jv_ l0, s_, jv_ l1, s_, jv_ l2, s_, jv_ l3, s_, iv sq0, iv sq1, iv sq2, iv sq3, rv b16, rv b18, rv b21, rv b25, rv b30, rv b209, iv pl3, iv pl2, jv_ tgt_, s_, u_, u_, u_, u_] [] tg → Sx p e below T223 m 279 #[iv pn, iv ps, iv pg, iv pi, iv pl, iv 3, jv_ l0, s_, jv_ l1, s_, jv_ l2, s_, jv_ l3, s_, iv sq0, iv sq1, iv sq2, iv sq3, rv b16, rv b18, rv b21, rv b25, rv b30, rv b209, iv pl3, iv pl2, u_, u_, u_, u_, u_, u_] [(.long tgt_)] tg := by
        intro tg kt
        refine XS.lstore X223.here hx rfl (hb hby at_279) rfl (l' := #[iv pn, iv ps, iv pg, iv pi, iv pl, iv 3, jv_ l0, s_, jv_ l1, s_, jv_ l2, s_, jv_ l3, s_, iv sq0, iv sq1, iv sq2, iv sq3, rv b16, rv b18, rv b21, rv b25, rv b30, rv b209, iv pl3, iv pl2, jv_ tgt_, s_, u_, u_, u_, u_]) rfl ?_
        show Sx p e below T223 m 281 #[iv pn, iv ps, iv pg, iv pi, iv pl, iv 3, jv_ l0, s_, jv_ l1, s_, jv_ l2, s_, jv_ l3, s_, iv sq0, iv sq1, iv sq2, iv sq3, rv b16, rv b18, rv b21, rv b25, rv b30, rv b209, iv pl3, iv pl2, jv_ tgt_, s_, u_, u_, u_, u_] [] _
        exact kt
      obtain ⟨T235, L235, at_, X235, e235, N235, R235⟩ : ∃ (T' : State) (L' : List Loc) (at_ : Int64), Stand p l e room_1 s m #[(.int pn), (.int ps), (.int pg), (.int pi), (.int pl)] below meth c T' L' 10 46 ∧ T'.heap = T219.heap ∧ Fr n0 L' ∧ ∀ tg, Sx p e below T' m 299 #[iv pn, iv ps, iv pg, iv pi, iv pl, iv 3, jv_ l0, s_, jv_ l1, s_, jv_ l2, s_, jv_ l3, s_, iv sq0, iv sq1, iv sq2, iv sq3, rv b16, rv b18, rv b21, rv b25, rv b30, rv b209, iv pl3, iv pl2, jv_ tgt_, s_, u_, u_, u_, u_] [(.long at_)] tg → Sx p e below T223 m 281 #[iv pn, iv ps, iv pg, iv pi, iv pl, iv 3, jv_ l0, s_, jv_ l1, s_, jv_ l2, s_, jv_ l3, s_, iv sq0, iv sq1, iv sq2, iv sq3, rv b16, rv b18, rv b21, rv b25, rv b30, rv b209, iv pl3, iv pl2, jv_ tgt_, s_, u_, u_, u_, u_] [] tg := by
        have R236 : ∀ tg, Sx p e below T223 m 283 #[iv pn, iv ps, iv pg, iv pi, iv pl, iv 3, jv_ l0, s_, jv_ l1, s_, jv_ l2, s_, jv_ l3, s_, iv sq0, iv sq1, iv sq2, iv sq3, rv b16, rv b18, rv b21, rv b25, rv b30, rv b209, iv pl3, iv pl2, jv_ tgt_, s_, u_, u_, u_, u_] [(.int pl3)] tg → Sx p e below T223 m 281 #[iv pn, iv ps, iv pg, iv pi, iv pl, iv 3, jv_ l0, s_, jv_ l1, s_, jv_ l2, s_, jv_ l3, s_, iv sq0, iv sq1, iv sq2, iv sq3, rv b16, rv b18, rv b21, rv b25, rv b30, rv b209, iv pl3, iv pl2, jv_ tgt_, s_, u_, u_, u_, u_] [] tg := by
          intro tg kt
          refine XS.iload X223.here hx rfl (hb hby at_281) rfl ?_
          show Sx p e below T223 m 283 #[iv pn, iv ps, iv pg, iv pi, iv pl, iv 3, jv_ l0, s_, jv_ l1, s_, jv_ l2, s_, jv_ l3, s_, iv sq0, iv sq1, iv sq2, iv sq3, rv b16, rv b18, rv b21, rv b25, rv b30, rv b209, iv pl3, iv pl2, jv_ tgt_, s_, u_, u_, u_, u_] [(.int pl3)] _
          exact kt
        by_cases hc283_237 : pl3 = (0 : Int32)
        · have R238 : ∀ tg, Sx p e below T223 m 299 #[iv pn, iv ps, iv pg, iv pi, iv pl, iv 3, jv_ l0, s_, jv_ l1, s_, jv_ l2, s_, jv_ l3, s_, iv sq0, iv sq1, iv sq2, iv sq3, rv b16, rv b18, rv b21, rv b25, rv b30, rv b209, iv pl3, iv pl2, jv_ tgt_, s_, u_, u_, u_, u_] [(.long (pi.toInt64))] tg → Sx p e below T223 m 283 #[iv pn, iv ps, iv pg, iv pi, iv pl, iv 3, jv_ l0, s_, jv_ l1, s_, jv_ l2, s_, jv_ l3, s_, iv sq0, iv sq1, iv sq2, iv sq3, rv b16, rv b18, rv b21, rv b25, rv b30, rv b209, iv pl3, iv pl2, jv_ tgt_, s_, u_, u_, u_, u_] [(.int pl3)] tg := by
            intro tg kt
            refine XS.ifNo X223.here hx rfl (hb hby at_283) rfl ((if0 _ _).trans (teq hc283_237).2) ?_
            refine XS.iloadN X223.here hx rfl (hb hby at_286) rfl ?_
            refine XS.i2l X223.here hx rfl (hb hby at_287) rfl ?_
            refine XS.goto X223.here hx rfl (pc0 := 288) (pc' := 299) rfl (hb hby at_288) (by decide) (by decide) ?_
            show Sx p e below T223 m 299 #[iv pn, iv ps, iv pg, iv pi, iv pl, iv 3, jv_ l0, s_, jv_ l1, s_, jv_ l2, s_, jv_ l3, s_, iv sq0, iv sq1, iv sq2, iv sq3, rv b16, rv b18, rv b21, rv b25, rv b30, rv b209, iv pl3, iv pl2, jv_ tgt_, s_, u_, u_, u_, u_] [(.long (pi.toInt64))] _
            exact kt
          exact ⟨T223, _, (pi.toInt64), X223.more (by decide) (by decide), e223, N223, fun _ kt => (R236 _ (R238 _ kt))⟩
        · have R239 : ∀ tg, Sx p e below T223 m 299 #[iv pn, iv ps, iv pg, iv pi, iv pl, iv 3, jv_ l0, s_, jv_ l1, s_, jv_ l2, s_, jv_ l3, s_, iv sq0, iv sq1, iv sq2, iv sq3, rv b16, rv b18, rv b21, rv b25, rv b30, rv b209, iv pl3, iv pl2, jv_ tgt_, s_, u_, u_, u_, u_] [(.long (tgt_ + ((pl3 - (2 : Int32)).toInt64)))] tg → Sx p e below T223 m 283 #[iv pn, iv ps, iv pg, iv pi, iv pl, iv 3, jv_ l0, s_, jv_ l1, s_, jv_ l2, s_, jv_ l3, s_, iv sq0, iv sq1, iv sq2, iv sq3, rv b16, rv b18, rv b21, rv b25, rv b30, rv b209, iv pl3, iv pl2, jv_ tgt_, s_, u_, u_, u_, u_] [(.int pl3)] tg := by
            intro tg kt
            refine XS.ifYes X223.here hx rfl (pc0 := 283) (pc' := 291) rfl (hb hby at_283) rfl ((if0 _ _).trans (feq hc283_237).2) (by decide) (by decide) ?_
            refine XS.lload X223.here hx rfl (hb hby at_291) rfl ?_
            refine XS.iload X223.here hx rfl (hb hby at_293) rfl ?_
            refine XS.iconst X223.here hx rfl (hb hby at_295) ?_
            refine XS.isub X223.here hx rfl (hb hby at_296) rfl ?_
            show Sx p e below T223 m 297 #[iv pn, iv ps, iv pg, iv pi, iv pl, iv 3, jv_ l0, s_, jv_ l1, s_, jv_ l2, s_, jv_ l3, s_, iv sq0, iv sq1, iv sq2, iv sq3, rv b16, rv b18, rv b21, rv b25, rv b30, rv b209, iv pl3, iv pl2, jv_ tgt_, s_, u_, u_, u_, u_] [(.int (pl3 - (2 : Int32))), (.long tgt_)] _
            refine XS.i2l X223.here hx rfl (hb hby at_297) rfl ?_
            refine XS.ladd X223.here hx rfl (hb hby at_298) rfl ?_
            show Sx p e below T223 m 299 #[iv pn, iv ps, iv pg, iv pi, iv pl, iv 3, jv_ l0, s_, jv_ l1, s_, jv_ l2, s_, jv_ l3, s_, iv sq0, iv sq1, iv sq2, iv sq3, rv b16, rv b18, rv b21, rv b25, rv b30, rv b209, iv pl3, iv pl2, jv_ tgt_, s_, u_, u_, u_, u_] [(.long (tgt_ + ((pl3 - (2 : Int32)).toInt64)))] _
            exact kt
          exact ⟨T223, _, (tgt_ + ((pl3 - (2 : Int32)).toInt64)), X223.more (by decide) (by decide), e223, N223, fun _ kt => (R236 _ (R239 _ kt))⟩
      obtain ⟨_, _, ⟨T240, L240, k240, n240⟩, -, X240, ⟨Lc240, hQ240, l240, y240, z240⟩, st240⟩ := Jvm.LawKit.callS X235 hx (y := (⟨"java/lang/Math", "min", "(JJ)J"⟩ : MethodName)) hown (mvT hZ (w_ hw 91 rfl)) (mvT hZ (w_ hw 92 rfl)) (mvT hZ (w_ hw 93 rfl)) (mvT hZ (w_ hw 94 rfl)) (by decide) (backOf (W := 2) (rmMnJ l Z a0 hw [] (2147483647 : Int64) at_ T219.heap n0 Z219) hZ (w_ hw 94 rfl) (w_ hw 93 rfl) (by decide) (by decide)) (g := (mkF m 309 #[iv pn, iv ps, iv pg, iv pi, iv pl, iv 3, jv_ l0, s_, jv_ l1, s_, jv_ l2, s_, jv_ l3, s_, iv sq0, iv sq1, iv sq2, iv sq3, rv b16, rv b18, rv b21, rv b25, rv b30, rv b209, iv pl3, iv pl2, jv_ tgt_, s_, jv_ at_, s_, u_, u_] [(.long at_), (.long 2147483647), (.long (-2147483648))])) rfl (by rw [hml]; rfl) (argsL := [(.long 2147483647), (.long at_)]) (rest := [(.long (-2147483648))]) (lenOf pd_17 rfl) rfl (by show 2 * 0 + _ ≤ _; exact Nat.le_of_eq rfl) (hb hby at_309) (fun _ _ => ⟨rfl, e235, (by decide : 10 + 0 ≤ _), (by decide : 46 + 0 ≤ _)⟩)
      dsimp only [Pt.U, Pt.locs, Pt.cells, Pt.slots] at X240 l240 y240 z240 st240 hQ240
      subst l240 y240 z240
      obtain ⟨hv240, N240q, r240⟩ := hQ240
      subst hv240
      have N240 := Fr.app N235 N240q
      obtain ⟨_, _, ⟨T241, L241, k241, n241⟩, -, X241, ⟨Lc241, hQ241, l241, y241, z241⟩, st241⟩ := Jvm.LawKit.callS X240 hx (y := (⟨"java/lang/Math", "max", "(JJ)J"⟩ : MethodName)) hown (mvT hZ (w_ hw 95 rfl)) (mvT hZ (w_ hw 96 rfl)) (mvT hZ (w_ hw 93 rfl)) (mvT hZ (w_ hw 97 rfl)) (by decide) (backOf (W := 0) (rmMxJ l Z a0 hw [] (-2147483648 : Int64) (if (0 : Int32) < (lcmpW (2147483647 : Int64) at_) then at_ else (2147483647 : Int64)) T219.heap n0 Z219) hZ (w_ hw 97 rfl) (w_ hw 93 rfl) (by decide) (by decide)) (g := (mkF m 312 #[iv pn, iv ps, iv pg, iv pi, iv pl, iv 3, jv_ l0, s_, jv_ l1, s_, jv_ l2, s_, jv_ l3, s_, iv sq0, iv sq1, iv sq2, iv sq3, rv b16, rv b18, rv b21, rv b25, rv b30, rv b209, iv pl3, iv pl2, jv_ tgt_, s_, jv_ at_, s_, u_, u_] [(.long (if (0 : Int32) < (lcmpW (2147483647 : Int64) at_) then at_ else (2147483647 : Int64))), (.long (-2147483648))])) rfl (by rw [hml]; rfl) (argsL := [(.long (-2147483648)), (.long (if (0 : Int32) < (lcmpW (2147483647 : Int64) at_) then at_ else (2147483647 : Int64)))]) (rest := []) (lenOf pd_17 rfl) rfl (by show 2 * 0 + _ ≤ _; exact Nat.le_of_eq rfl) (hb hby at_312) (fun _ _ => ⟨rfl, r240, (by decide : 10 + 0 ≤ _), (by decide : 46 + 0 ≤ _)⟩)
      dsimp only [Pt.U, Pt.locs, Pt.cells, Pt.slots] at X241 l241 y241 z241 st241 hQ241
      subst l241 y241 z241
      obtain ⟨hv241, N241q, r241⟩ := hQ241
      subst hv241
      have N241 := Fr.app N240 N241q
      obtain ⟨clp, hclp⟩ : ∃ z, z = (if (lcmpW (-2147483648 : Int64) (if (0 : Int32) < (lcmpW (2147483647 : Int64) at_) then at_ else (2147483647 : Int64))) < (0 : Int32) then (if (0 : Int32) < (lcmpW (2147483647 : Int64) at_) then at_ else (2147483647 : Int64)) else (-2147483648 : Int64)) := ⟨_, rfl⟩
      have R242 : ∀ tg, Sx p e below T241 m 317 #[iv pn, iv ps, iv pg, iv pi, iv pl, iv 3, jv_ l0, s_, jv_ l1, s_, jv_ l2, s_, jv_ l3, s_, iv sq0, iv sq1, iv sq2, iv sq3, rv b16, rv b18, rv b21, rv b25, rv b30, rv b209, iv pl3, iv pl2, jv_ tgt_, s_, jv_ (if (lcmpW (-2147483648 : Int64) (if (0 : Int32) < (lcmpW (2147483647 : Int64) at_) then at_ else (2147483647 : Int64))) < (0 : Int32) then (if (0 : Int32) < (lcmpW (2147483647 : Int64) at_) then at_ else (2147483647 : Int64)) else (-2147483648 : Int64)), s_, u_, u_] [] tg → Sx p e below T235 m 299 #[iv pn, iv ps, iv pg, iv pi, iv pl, iv 3, jv_ l0, s_, jv_ l1, s_, jv_ l2, s_, jv_ l3, s_, iv sq0, iv sq1, iv sq2, iv sq3, rv b16, rv b18, rv b21, rv b25, rv b30, rv b209, iv pl3, iv pl2, jv_ tgt_, s_, u_, u_, u_, u_] [(.long at_)] tg := by
        intro tg kt
        refine XS.lstore X235.here hx rfl (hb hby at_299) rfl (l' := #[iv pn, iv ps, iv pg, iv pi, iv pl, iv 3, jv_ l0, s_, jv_ l1, s_, jv_ l2, s_, jv_ l3, s_, iv sq0, iv sq1, iv sq2, iv sq3, rv b16, rv b18, rv b21, rv b25, rv b30, rv b209, iv pl3, iv pl2, jv_ tgt_, s_, jv_ at_, s_, u_, u_]) rfl ?_
        refine X235.ldc2Long hx hown (mvT hZ (w_ hw 90 rfl)) (g := (mkF m 301 #[iv pn, iv ps, iv pg, iv pi, iv pl, iv 3, jv_ l0, s_, jv_ l1, s_, jv_ l2, s_, jv_ l3, s_, iv sq0, iv sq1, iv sq2, iv sq3, rv b16, rv b18, rv b21, rv b25, rv b30, rv b209, iv pl3, iv pl2, jv_ tgt_, s_, jv_ at_, s_, u_, u_] [])) rfl (hb hby at_301) _ ?_
        refine X235.ldc2Long hx hown (mvT hZ (w_ hw 1 rfl)) (g := (mkF m 304 #[iv pn, iv ps, iv pg, iv pi, iv pl, iv 3, jv_ l0, s_, jv_ l1, s_, jv_ l2, s_, jv_ l3, s_, iv sq0, iv sq1, iv sq2, iv sq3, rv b16, rv b18, rv b21, rv b25, rv b30, rv b209, iv pl3, iv pl2, jv_ tgt_, s_, jv_ at_, s_, u_, u_] [(.long (-2147483648))])) rfl (hb hby at_304) _ ?_
        refine XS.lload X235.here hx rfl (hb hby at_307) rfl ?_
        refine st240 _ ?_
        show Sx p e below T240 m 312 #[iv pn, iv ps, iv pg, iv pi, iv pl, iv 3, jv_ l0, s_, jv_ l1, s_, jv_ l2, s_, jv_ l3, s_, iv sq0, iv sq1, iv sq2, iv sq3, rv b16, rv b18, rv b21, rv b25, rv b30, rv b209, iv pl3, iv pl2, jv_ tgt_, s_, jv_ at_, s_, u_, u_] [(.long (if (0 : Int32) < (lcmpW (2147483647 : Int64) at_) then at_ else (2147483647 : Int64))), (.long (-2147483648))] _
        refine st241 _ ?_
        refine XS.lstore X241.here hx rfl (hb hby at_315) rfl (l' := #[iv pn, iv ps, iv pg, iv pi, iv pl, iv 3, jv_ l0, s_, jv_ l1, s_, jv_ l2, s_, jv_ l3, s_, iv sq0, iv sq1, iv sq2, iv sq3, rv b16, rv b18, rv b21, rv b25, rv b30, rv b209, iv pl3, iv pl2, jv_ tgt_, s_, jv_ (if (lcmpW (-2147483648 : Int64) (if (0 : Int32) < (lcmpW (2147483647 : Int64) at_) then at_ else (2147483647 : Int64))) < (0 : Int32) then (if (0 : Int32) < (lcmpW (2147483647 : Int64) at_) then at_ else (2147483647 : Int64)) else (-2147483648 : Int64)), s_, u_, u_]) rfl ?_
        show Sx p e below T241 m 317 #[iv pn, iv ps, iv pg, iv pi, iv pl, iv 3, jv_ l0, s_, jv_ l1, s_, jv_ l2, s_, jv_ l3, s_, iv sq0, iv sq1, iv sq2, iv sq3, rv b16, rv b18, rv b21, rv b25, rv b30, rv b209, iv pl3, iv pl2, jv_ tgt_, s_, jv_ (if (lcmpW (-2147483648 : Int64) (if (0 : Int32) < (lcmpW (2147483647 : Int64) at_) then at_ else (2147483647 : Int64))) < (0 : Int32) then (if (0 : Int32) < (lcmpW (2147483647 : Int64) at_) then at_ else (2147483647 : Int64)) else (-2147483648 : Int64)), s_, u_, u_] [] _
        exact kt
      have R243 : ∀ tg, Sx p e below T241 m 317 #[iv pn, iv ps, iv pg, iv pi, iv pl, iv 3, jv_ l0, s_, jv_ l1, s_, jv_ l2, s_, jv_ l3, s_, iv sq0, iv sq1, iv sq2, iv sq3, rv b16, rv b18, rv b21, rv b25, rv b30, rv b209, iv pl3, iv pl2, jv_ tgt_, s_, jv_ clp, s_, u_, u_] [] tg → Sx p e below T241 m 317 #[iv pn, iv ps, iv pg, iv pi, iv pl, iv 3, jv_ l0, s_, jv_ l1, s_, jv_ l2, s_, jv_ l3, s_, iv sq0, iv sq1, iv sq2, iv sq3, rv b16, rv b18, rv b21, rv b25, rv b30, rv b209, iv pl3, iv pl2, jv_ tgt_, s_, jv_ (if (lcmpW (-2147483648 : Int64) (if (0 : Int32) < (lcmpW (2147483647 : Int64) at_) then at_ else (2147483647 : Int64))) < (0 : Int32) then (if (0 : Int32) < (lcmpW (2147483647 : Int64) at_) then at_ else (2147483647 : Int64)) else (-2147483648 : Int64)), s_, u_, u_] [] tg := fun tg kt => by rw [← hclp]; exact kt
      obtain ⟨ix, hix⟩ : ∃ z, z = (clp.toInt32) := ⟨_, rfl⟩
      have R244 : ∀ tg, Sx p e below T241 m 322 #[iv pn, iv ps, iv pg, iv pi, iv pl, iv 3, jv_ l0, s_, jv_ l1, s_, jv_ l2, s_, jv_ l3, s_, iv sq0, iv sq1, iv sq2, iv sq3, rv b16, rv b18, rv b21, rv b25, rv b30, rv b209, iv pl3, iv pl2, jv_ tgt_, s_, jv_ clp, s_, iv (clp.toInt32), u_] [] tg → Sx p e below T241 m 317 #[iv pn, iv ps, iv pg, iv pi, iv pl, iv 3, jv_ l0, s_, jv_ l1, s_, jv_ l2, s_, jv_ l3, s_, iv sq0, iv sq1, iv sq2, iv sq3, rv b16, rv b18, rv b21, rv b25, rv b30, rv b209, iv pl3, iv pl2, jv_ tgt_, s_, jv_ clp, s_, u_, u_] [] tg := by
        intro tg kt
        refine XS.lload X241.here hx rfl (hb hby at_317) rfl ?_
        refine XS.l2i X241.here hx rfl (hb hby at_319) rfl ?_
        refine XS.istore X241.here hx rfl (hb hby at_320) rfl (l' := #[iv pn, iv ps, iv pg, iv pi, iv pl, iv 3, jv_ l0, s_, jv_ l1, s_, jv_ l2, s_, jv_ l3, s_, iv sq0, iv sq1, iv sq2, iv sq3, rv b16, rv b18, rv b21, rv b25, rv b30, rv b209, iv pl3, iv pl2, jv_ tgt_, s_, jv_ clp, s_, iv (clp.toInt32), u_]) rfl ?_
        show Sx p e below T241 m 322 #[iv pn, iv ps, iv pg, iv pi, iv pl, iv 3, jv_ l0, s_, jv_ l1, s_, jv_ l2, s_, jv_ l3, s_, iv sq0, iv sq1, iv sq2, iv sq3, rv b16, rv b18, rv b21, rv b25, rv b30, rv b209, iv pl3, iv pl2, jv_ tgt_, s_, jv_ clp, s_, iv (clp.toInt32), u_] [] _
        exact kt
      have R245 : ∀ tg, Sx p e below T241 m 322 #[iv pn, iv ps, iv pg, iv pi, iv pl, iv 3, jv_ l0, s_, jv_ l1, s_, jv_ l2, s_, jv_ l3, s_, iv sq0, iv sq1, iv sq2, iv sq3, rv b16, rv b18, rv b21, rv b25, rv b30, rv b209, iv pl3, iv pl2, jv_ tgt_, s_, jv_ clp, s_, iv ix, u_] [] tg → Sx p e below T241 m 322 #[iv pn, iv ps, iv pg, iv pi, iv pl, iv 3, jv_ l0, s_, jv_ l1, s_, jv_ l2, s_, jv_ l3, s_, iv sq0, iv sq1, iv sq2, iv sq3, rv b16, rv b18, rv b21, rv b25, rv b30, rv b209, iv pl3, iv pl2, jv_ tgt_, s_, jv_ clp, s_, iv (clp.toInt32), u_] [] tg := fun tg kt => by rw [← hix]; exact kt
      have R246 : ∀ tg, Sx p e below T241 m 325 #[iv pn, iv ps, iv pg, iv pi, iv pl, iv 3, jv_ l0, s_, jv_ l1, s_, jv_ l2, s_, jv_ l3, s_, iv sq0, iv sq1, iv sq2, iv sq3, rv b16, rv b18, rv b21, rv b25, rv b30, rv b209, iv pl3, iv pl2, jv_ tgt_, s_, jv_ clp, s_, iv ix, n_] [] tg → Sx p e below T241 m 322 #[iv pn, iv ps, iv pg, iv pi, iv pl, iv 3, jv_ l0, s_, jv_ l1, s_, jv_ l2, s_, jv_ l3, s_, iv sq0, iv sq1, iv sq2, iv sq3, rv b16, rv b18, rv b21, rv b25, rv b30, rv b209, iv pl3, iv pl2, jv_ tgt_, s_, jv_ clp, s_, iv ix, u_] [] tg := by
        intro tg kt
        refine XS.aconstNull X241.here hx rfl (hb hby at_322) ?_
        refine XS.astore X241.here hx rfl (hb hby at_323) rfl rfl (l' := #[iv pn, iv ps, iv pg, iv pi, iv pl, iv 3, jv_ l0, s_, jv_ l1, s_, jv_ l2, s_, jv_ l3, s_, iv sq0, iv sq1, iv sq2, iv sq3, rv b16, rv b18, rv b21, rv b25, rv b30, rv b209, iv pl3, iv pl2, jv_ tgt_, s_, jv_ clp, s_, iv ix, n_]) rfl ?_
        show Sx p e below T241 m 325 #[iv pn, iv ps, iv pg, iv pi, iv pl, iv 3, jv_ l0, s_, jv_ l1, s_, jv_ l2, s_, jv_ l3, s_, iv sq0, iv sq1, iv sq2, iv sq3, rv b16, rv b18, rv b21, rv b25, rv b30, rv b209, iv pl3, iv pl2, jv_ tgt_, s_, jv_ clp, s_, iv ix, n_] [] _
        exact kt
      obtain ⟨T247, L247, ex0_, X247, e247, N247, pj247_0, R247⟩ : ∃ (T' : State) (L' : List Loc) (ex0_ : Value), Stand p l e room_1 s m #[(.int pn), (.int ps), (.int pg), (.int pi), (.int pl)] below meth c T' L' 10 46 ∧ T'.heap = T219.heap ∧ Fr n0 L' ∧ (ex0_ = (if ix < sq0 then .null else .ref b16)) ∧ ∀ tg, Sx p e below T' m 341 #[iv pn, iv ps, iv pg, iv pi, iv pl, iv 3, jv_ l0, s_, jv_ l1, s_, jv_ l2, s_, jv_ l3, s_, iv sq0, iv sq1, iv sq2, iv sq3, rv b16, rv b18, rv b21, rv b25, rv b30, rv b209, iv pl3, iv pl2, jv_ tgt_, s_, jv_ clp, s_, iv ix, .val ex0_] [] tg → Sx p e below T241 m 325 #[iv pn, iv ps, iv pg, iv pi, iv pl, iv 3, jv_ l0, s_, jv_ l1, s_, jv_ l2, s_, jv_ l3, s_, iv sq0, iv sq1, iv sq2, iv sq3, rv b16, rv b18, rv b21, rv b25, rv b30, rv b209, iv pl3, iv pl2, jv_ tgt_, s_, jv_ clp, s_, iv ix, n_] [] tg := by
        have R248 : ∀ tg, Sx p e below T241 m 334 #[iv pn, iv ps, iv pg, iv pi, iv pl, iv 3, jv_ l0, s_, jv_ l1, s_, jv_ l2, s_, jv_ l3, s_, iv sq0, iv sq1, iv sq2, iv sq3, rv b16, rv b18, rv b21, rv b25, rv b30, rv b209, iv pl3, iv pl2, jv_ tgt_, s_, jv_ clp, s_, iv ix, n_] [(.int sq0), (.int ix)] tg → Sx p e below T241 m 325 #[iv pn, iv ps, iv pg, iv pi, iv pl, iv 3, jv_ l0, s_, jv_ l1, s_, jv_ l2, s_, jv_ l3, s_, iv sq0, iv sq1, iv sq2, iv sq3, rv b16, rv b18, rv b21, rv b25, rv b30, rv b209, iv pl3, iv pl2, jv_ tgt_, s_, jv_ clp, s_, iv ix, n_] [] tg := by
          intro tg kt
          refine XS.iload X241.here hx rfl (hb hby at_325) rfl ?_
          refine XS.ifNo X241.here hx rfl (hb hby at_327) rfl ((if0 _ _).trans (tlt (by decide : (0 : Int32) < (3 : Int32))).2.2.2) ?_
          refine XS.iload X241.here hx rfl (hb hby at_330) rfl ?_
          refine XS.iload X241.here hx rfl (hb hby at_332) rfl ?_
          show Sx p e below T241 m 334 #[iv pn, iv ps, iv pg, iv pi, iv pl, iv 3, jv_ l0, s_, jv_ l1, s_, jv_ l2, s_, jv_ l3, s_, iv sq0, iv sq1, iv sq2, iv sq3, rv b16, rv b18, rv b21, rv b25, rv b30, rv b209, iv pl3, iv pl2, jv_ tgt_, s_, jv_ clp, s_, iv ix, n_] [(.int sq0), (.int ix)] _
          exact kt
        by_cases hc334_249 : ix < sq0
        · have R250 : ∀ tg, Sx p e below T241 m 341 #[iv pn, iv ps, iv pg, iv pi, iv pl, iv 3, jv_ l0, s_, jv_ l1, s_, jv_ l2, s_, jv_ l3, s_, iv sq0, iv sq1, iv sq2, iv sq3, rv b16, rv b18, rv b21, rv b25, rv b30, rv b209, iv pl3, iv pl2, jv_ tgt_, s_, jv_ clp, s_, iv ix, n_] [] tg → Sx p e below T241 m 334 #[iv pn, iv ps, iv pg, iv pi, iv pl, iv 3, jv_ l0, s_, jv_ l1, s_, jv_ l2, s_, jv_ l3, s_, iv sq0, iv sq1, iv sq2, iv sq3, rv b16, rv b18, rv b21, rv b25, rv b30, rv b209, iv pl3, iv pl2, jv_ tgt_, s_, jv_ clp, s_, iv ix, n_] [(.int sq0), (.int ix)] tg := by
            intro tg kt
            refine XS.icmpYes X241.here hx rfl (pc0 := 334) (pc' := 341) rfl (hb hby at_334) rfl (tlt hc334_249).1 (by decide) (by decide) ?_
            show Sx p e below T241 m 341 #[iv pn, iv ps, iv pg, iv pi, iv pl, iv 3, jv_ l0, s_, jv_ l1, s_, jv_ l2, s_, jv_ l3, s_, iv sq0, iv sq1, iv sq2, iv sq3, rv b16, rv b18, rv b21, rv b25, rv b30, rv b209, iv pl3, iv pl2, jv_ tgt_, s_, jv_ clp, s_, iv ix, n_] [] _
            exact kt
          exact ⟨T241, _, .null, X241.more (by decide) (by decide), r241, N241, (if_pos hc334_249).symm, fun _ kt => (R248 _ (R250 _ kt))⟩
        · have R251 : ∀ tg, Sx p e below T241 m 341 #[iv pn, iv ps, iv pg, iv pi, iv pl, iv 3, jv_ l0, s_, jv_ l1, s_, jv_ l2, s_, jv_ l3, s_, iv sq0, iv sq1, iv sq2, iv sq3, rv b16, rv b18, rv b21, rv b25, rv b30, rv b209, iv pl3, iv pl2, jv_ tgt_, s_, jv_ clp, s_, iv ix, rv b16] [] tg → Sx p e below T241 m 334 #[iv pn, iv ps, iv pg, iv pi, iv pl, iv 3, jv_ l0, s_, jv_ l1, s_, jv_ l2, s_, jv_ l3, s_, iv sq0, iv sq1, iv sq2, iv sq3, rv b16, rv b18, rv b21, rv b25, rv b30, rv b209, iv pl3, iv pl2, jv_ tgt_, s_, jv_ clp, s_, iv ix, n_] [(.int sq0), (.int ix)] tg := by
            intro tg kt
            refine XS.icmpNo X241.here hx rfl (hb hby at_334) rfl (flt hc334_249).1 ?_
            refine XS.aload X241.here hx rfl (hb hby at_337) rfl rfl ?_
            refine XS.astore X241.here hx rfl (hb hby at_339) rfl rfl (l' := #[iv pn, iv ps, iv pg, iv pi, iv pl, iv 3, jv_ l0, s_, jv_ l1, s_, jv_ l2, s_, jv_ l3, s_, iv sq0, iv sq1, iv sq2, iv sq3, rv b16, rv b18, rv b21, rv b25, rv b30, rv b209, iv pl3, iv pl2, jv_ tgt_, s_, jv_ clp, s_, iv ix, rv b16]) rfl ?_
            show Sx p e below T241 m 341 #[iv pn, iv ps, iv pg, iv pi, iv pl, iv 3, jv_ l0, s_, jv_ l1, s_, jv_ l2, s_, jv_ l3, s_, iv sq0, iv sq1, iv sq2, iv sq3, rv b16, rv b18, rv b21, rv b25, rv b30, rv b209, iv pl3, iv pl2, jv_ tgt_, s_, jv_ clp, s_, iv ix, rv b16] [] _
            exact kt
          exact ⟨T241, _, (.ref b16), X241.more (by decide) (by decide), r241, N241, (if_neg hc334_249).symm, fun _ kt => (R248 _ (R251 _ kt))⟩
      have ir0 : ((if ix < sq0 then .null else .ref b16) : Value).isRef = true := by
        by_cases h : ix < sq0
        · rw [if_pos h]; rfl
        · rw [if_neg h]; rfl
      have R252 : ∀ tg, Sx p e below T247 m 341 #[iv pn, iv ps, iv pg, iv pi, iv pl, iv 3, jv_ l0, s_, jv_ l1, s_, jv_ l2, s_, jv_ l3, s_, iv sq0, iv sq1, iv sq2, iv sq3, rv b16, rv b18, rv b21, rv b25, rv b30, rv b209, iv pl3, iv pl2, jv_ tgt_, s_, jv_ clp, s_, iv ix, .val (if ix < sq0 then .null else .ref b16)] [] tg → Sx p e below T247 m 341 #[iv pn, iv ps, iv pg, iv pi, iv pl, iv 3, jv_ l0, s_, jv_ l1, s_, jv_ l2, s_, jv_ l3, s_, iv sq0, iv sq1, iv sq2, iv sq3, rv b16, rv b18, rv b21, rv b25, rv b30, rv b209, iv pl3, iv pl2, jv_ tgt_, s_, jv_ clp, s_, iv ix, .val ex0_] [] tg := fun tg kt => by rw [pj247_0]; exact kt
      obtain ⟨T253, L253, ex1_, X253, e253, N253, pj253_0, R253⟩ : ∃ (T' : State) (L' : List Loc) (ex1_ : Value), Stand p l e room_1 s m #[(.int pn), (.int ps), (.int pg), (.int pi), (.int pl)] below meth c T' L' 10 46 ∧ T'.heap = T219.heap ∧ Fr n0 L' ∧ (ex1_ = (if ix < sq1 then (if ix < sq0 then .null else .ref b16) else .ref b18)) ∧ ∀ tg, Sx p e below T' m 358 #[iv pn, iv ps, iv pg, iv pi, iv pl, iv 3, jv_ l0, s_, jv_ l1, s_, jv_ l2, s_, jv_ l3, s_, iv sq0, iv sq1, iv sq2, iv sq3, rv b16, rv b18, rv b21, rv b25, rv b30, rv b209, iv pl3, iv pl2, jv_ tgt_, s_, jv_ clp, s_, iv ix, .val ex1_] [] tg → Sx p e below T247 m 341 #[iv pn, iv ps, iv pg, iv pi, iv pl, iv 3, jv_ l0, s_, jv_ l1, s_, jv_ l2, s_, jv_ l3, s_, iv sq0, iv sq1, iv sq2, iv sq3, rv b16, rv b18, rv b21, rv b25, rv b30, rv b209, iv pl3, iv pl2, jv_ tgt_, s_, jv_ clp, s_, iv ix, .val (if ix < sq0 then .null else .ref b16)] [] tg := by
        have R254 : ∀ tg, Sx p e below T247 m 351 #[iv pn, iv ps, iv pg, iv pi, iv pl, iv 3, jv_ l0, s_, jv_ l1, s_, jv_ l2, s_, jv_ l3, s_, iv sq0, iv sq1, iv sq2, iv sq3, rv b16, rv b18, rv b21, rv b25, rv b30, rv b209, iv pl3, iv pl2, jv_ tgt_, s_, jv_ clp, s_, iv ix, .val (if ix < sq0 then .null else .ref b16)] [(.int sq1), (.int ix)] tg → Sx p e below T247 m 341 #[iv pn, iv ps, iv pg, iv pi, iv pl, iv 3, jv_ l0, s_, jv_ l1, s_, jv_ l2, s_, jv_ l3, s_, iv sq0, iv sq1, iv sq2, iv sq3, rv b16, rv b18, rv b21, rv b25, rv b30, rv b209, iv pl3, iv pl2, jv_ tgt_, s_, jv_ clp, s_, iv ix, .val (if ix < sq0 then .null else .ref b16)] [] tg := by
          intro tg kt
          refine XS.iload X247.here hx rfl (hb hby at_341) rfl ?_
          refine XS.iconst X247.here hx rfl (hb hby at_343) ?_
          refine XS.icmpNo X247.here hx rfl (hb hby at_344) rfl (tlt (by decide : (1 : Int32) < (3 : Int32))).2.2.2 ?_
          refine XS.iload X247.here hx rfl (hb hby at_347) rfl ?_
          refine XS.iload X247.here hx rfl (hb hby at_349) rfl ?_
          show Sx p e below T247 m 351 #[iv pn, iv ps, iv pg, iv pi, iv pl, iv 3, jv_ l0, s_, jv_ l1, s_, jv_ l2, s_, jv_ l3, s_, iv sq0, iv sq1, iv sq2, iv sq3, rv b16, rv b18, rv b21, rv b25, rv b30, rv b209, iv pl3, iv pl2, jv_ tgt_, s_, jv_ clp, s_, iv ix, .val (if ix < sq0 then .null else .ref b16)] [(.int sq1), (.int ix)] _
          exact kt
        by_cases hc351_255 : ix < sq1
        · have R256 : ∀ tg, Sx p e below T247 m 358 #[iv pn, iv ps, iv pg, iv pi, iv pl, iv 3, jv_ l0, s_, jv_ l1, s_, jv_ l2, s_, jv_ l3, s_, iv sq0, iv sq1, iv sq2, iv sq3, rv b16, rv b18, rv b21, rv b25, rv b30, rv b209, iv pl3, iv pl2, jv_ tgt_, s_, jv_ clp, s_, iv ix, .val (if ix < sq0 then .null else .ref b16)] [] tg → Sx p e below T247 m 351 #[iv pn, iv ps, iv pg, iv pi, iv pl, iv 3, jv_ l0, s_, jv_ l1, s_, jv_ l2, s_, jv_ l3, s_, iv sq0, iv sq1, iv sq2, iv sq3, rv b16, rv b18, rv b21, rv b25, rv b30, rv b209, iv pl3, iv pl2, jv_ tgt_, s_, jv_ clp, s_, iv ix, .val (if ix < sq0 then .null else .ref b16)] [(.int sq1), (.int ix)] tg := by
            intro tg kt
            refine XS.icmpYes X247.here hx rfl (pc0 := 351) (pc' := 358) rfl (hb hby at_351) rfl (tlt hc351_255).1 (by decide) (by decide) ?_
            show Sx p e below T247 m 358 #[iv pn, iv ps, iv pg, iv pi, iv pl, iv 3, jv_ l0, s_, jv_ l1, s_, jv_ l2, s_, jv_ l3, s_, iv sq0, iv sq1, iv sq2, iv sq3, rv b16, rv b18, rv b21, rv b25, rv b30, rv b209, iv pl3, iv pl2, jv_ tgt_, s_, jv_ clp, s_, iv ix, .val (if ix < sq0 then .null else .ref b16)] [] _
            exact kt
          exact ⟨T247, _, (if ix < sq0 then .null else .ref b16), X247.more (by decide) (by decide), e247, N247, (if_pos hc351_255).symm, fun _ kt => (R254 _ (R256 _ kt))⟩
        · have R257 : ∀ tg, Sx p e below T247 m 358 #[iv pn, iv ps, iv pg, iv pi, iv pl, iv 3, jv_ l0, s_, jv_ l1, s_, jv_ l2, s_, jv_ l3, s_, iv sq0, iv sq1, iv sq2, iv sq3, rv b16, rv b18, rv b21, rv b25, rv b30, rv b209, iv pl3, iv pl2, jv_ tgt_, s_, jv_ clp, s_, iv ix, rv b18] [] tg → Sx p e below T247 m 351 #[iv pn, iv ps, iv pg, iv pi, iv pl, iv 3, jv_ l0, s_, jv_ l1, s_, jv_ l2, s_, jv_ l3, s_, iv sq0, iv sq1, iv sq2, iv sq3, rv b16, rv b18, rv b21, rv b25, rv b30, rv b209, iv pl3, iv pl2, jv_ tgt_, s_, jv_ clp, s_, iv ix, .val (if ix < sq0 then .null else .ref b16)] [(.int sq1), (.int ix)] tg := by
            intro tg kt
            refine XS.icmpNo X247.here hx rfl (hb hby at_351) rfl (flt hc351_255).1 ?_
            refine XS.aload X247.here hx rfl (hb hby at_354) rfl rfl ?_
            refine XS.astore X247.here hx rfl (hb hby at_356) rfl rfl (l' := #[iv pn, iv ps, iv pg, iv pi, iv pl, iv 3, jv_ l0, s_, jv_ l1, s_, jv_ l2, s_, jv_ l3, s_, iv sq0, iv sq1, iv sq2, iv sq3, rv b16, rv b18, rv b21, rv b25, rv b30, rv b209, iv pl3, iv pl2, jv_ tgt_, s_, jv_ clp, s_, iv ix, rv b18]) (XS.store1 rfl (Or.inr ⟨_, rfl, Jvm.Free.XT.cat1 ir0⟩) rfl) ?_
            show Sx p e below T247 m 358 #[iv pn, iv ps, iv pg, iv pi, iv pl, iv 3, jv_ l0, s_, jv_ l1, s_, jv_ l2, s_, jv_ l3, s_, iv sq0, iv sq1, iv sq2, iv sq3, rv b16, rv b18, rv b21, rv b25, rv b30, rv b209, iv pl3, iv pl2, jv_ tgt_, s_, jv_ clp, s_, iv ix, rv b18] [] _
            exact kt
          exact ⟨T247, _, (.ref b18), X247.more (by decide) (by decide), e247, N247, (if_neg hc351_255).symm, fun _ kt => (R254 _ (R257 _ kt))⟩
      have ir1 : ((if ix < sq1 then (if ix < sq0 then .null else .ref b16) else .ref b18) : Value).isRef = true := by
        by_cases h : ix < sq1
        · rw [if_pos h]; exact ir0
        · rw [if_neg h]; rfl
      have R258 : ∀ tg, Sx p e below T253 m 358 #[iv pn, iv ps, iv pg, iv pi, iv pl, iv 3, jv_ l0, s_, jv_ l1, s_, jv_ l2, s_, jv_ l3, s_, iv sq0, iv sq1, iv sq2, iv sq3, rv b16, rv b18, rv b21, rv b25, rv b30, rv b209, iv pl3, iv pl2, jv_ tgt_, s_, jv_ clp, s_, iv ix, .val (if ix < sq1 then (if ix < sq0 then .null else .ref b16) else .ref b18)] [] tg → Sx p e below T253 m 358 #[iv pn, iv ps, iv pg, iv pi, iv pl, iv 3, jv_ l0, s_, jv_ l1, s_, jv_ l2, s_, jv_ l3, s_, iv sq0, iv sq1, iv sq2, iv sq3, rv b16, rv b18, rv b21, rv b25, rv b30, rv b209, iv pl3, iv pl2, jv_ tgt_, s_, jv_ clp, s_, iv ix, .val ex1_] [] tg := fun tg kt => by rw [pj253_0]; exact kt
      obtain ⟨T259, L259, ex2_, X259, e259, N259, pj259_0, R259⟩ : ∃ (T' : State) (L' : List Loc) (ex2_ : Value), Stand p l e room_1 s m #[(.int pn), (.int ps), (.int pg), (.int pi), (.int pl)] below meth c T' L' 10 46 ∧ T'.heap = T219.heap ∧ Fr n0 L' ∧ (ex2_ = (if ix < sq2 then (if ix < sq1 then (if ix < sq0 then .null else .ref b16) else .ref b18) else .ref b21)) ∧ ∀ tg, Sx p e below T' m 375 #[iv pn, iv ps, iv pg, iv pi, iv pl, iv 3, jv_ l0, s_, jv_ l1, s_, jv_ l2, s_, jv_ l3, s_, iv sq0, iv sq1, iv sq2, iv sq3, rv b16, rv b18, rv b21, rv b25, rv b30, rv b209, iv pl3, iv pl2, jv_ tgt_, s_, jv_ clp, s_, iv ix, .val ex2_] [] tg → Sx p e below T253 m 358 #[iv pn, iv ps, iv pg, iv pi, iv pl, iv 3, jv_ l0, s_, jv_ l1, s_, jv_ l2, s_, jv_ l3, s_, iv sq0, iv sq1, iv sq2, iv sq3, rv b16, rv b18, rv b21, rv b25, rv b30, rv b209, iv pl3, iv pl2, jv_ tgt_, s_, jv_ clp, s_, iv ix, .val (if ix < sq1 then (if ix < sq0 then .null else .ref b16) else .ref b18)] [] tg := by
        have R260 : ∀ tg, Sx p e below T253 m 368 #[iv pn, iv ps, iv pg, iv pi, iv pl, iv 3, jv_ l0, s_, jv_ l1, s_, jv_ l2, s_, jv_ l3, s_, iv sq0, iv sq1, iv sq2, iv sq3, rv b16, rv b18, rv b21, rv b25, rv b30, rv b209, iv pl3, iv pl2, jv_ tgt_, s_, jv_ clp, s_, iv ix, .val (if ix < sq1 then (if ix < sq0 then .null else .ref b16) else .ref b18)] [(.int sq2), (.int ix)] tg → Sx p e below T253 m 358 #[iv pn, iv ps, iv pg, iv pi, iv pl, iv 3, jv_ l0, s_, jv_ l1, s_, jv_ l2, s_, jv_ l3, s_, iv sq0, iv sq1, iv sq2, iv sq3, rv b16, rv b18, rv b21, rv b25, rv b30, rv b209, iv pl3, iv pl2, jv_ tgt_, s_, jv_ clp, s_, iv ix, .val (if ix < sq1 then (if ix < sq0 then .null else .ref b16) else .ref b18)] [] tg := by
          intro tg kt
          refine XS.iload X253.here hx rfl (hb hby at_358) rfl ?_
          refine XS.iconst X253.here hx rfl (hb hby at_360) ?_
          refine XS.icmpNo X253.here hx rfl (hb hby at_361) rfl (tlt (by decide : (2 : Int32) < (3 : Int32))).2.2.2 ?_
          refine XS.iload X253.here hx rfl (hb hby at_364) rfl ?_
          refine XS.iload X253.here hx rfl (hb hby at_366) rfl ?_
          show Sx p e below T253 m 368 #[iv pn, iv ps, iv pg, iv pi, iv pl, iv 3, jv_ l0, s_, jv_ l1, s_, jv_ l2, s_, jv_ l3, s_, iv sq0, iv sq1, iv sq2, iv sq3, rv b16, rv b18, rv b21, rv b25, rv b30, rv b209, iv pl3, iv pl2, jv_ tgt_, s_, jv_ clp, s_, iv ix, .val (if ix < sq1 then (if ix < sq0 then .null else .ref b16) else .ref b18)] [(.int sq2), (.int ix)] _
          exact kt
        by_cases hc368_261 : ix < sq2
        · have R262 : ∀ tg, Sx p e below T253 m 375 #[iv pn, iv ps, iv pg, iv pi, iv pl, iv 3, jv_ l0, s_, jv_ l1, s_, jv_ l2, s_, jv_ l3, s_, iv sq0, iv sq1, iv sq2, iv sq3, rv b16, rv b18, rv b21, rv b25, rv b30, rv b209, iv pl3, iv pl2, jv_ tgt_, s_, jv_ clp, s_, iv ix, .val (if ix < sq1 then (if ix < sq0 then .null else .ref b16) else .ref b18)] [] tg → Sx p e below T253 m 368 #[iv pn, iv ps, iv pg, iv pi, iv pl, iv 3, jv_ l0, s_, jv_ l1, s_, jv_ l2, s_, jv_ l3, s_, iv sq0, iv sq1, iv sq2, iv sq3, rv b16, rv b18, rv b21, rv b25, rv b30, rv b209, iv pl3, iv pl2, jv_ tgt_, s_, jv_ clp, s_, iv ix, .val (if ix < sq1 then (if ix < sq0 then .null else .ref b16) else .ref b18)] [(.int sq2), (.int ix)] tg := by
            intro tg kt
            refine XS.icmpYes X253.here hx rfl (pc0 := 368) (pc' := 375) rfl (hb hby at_368) rfl (tlt hc368_261).1 (by decide) (by decide) ?_
            show Sx p e below T253 m 375 #[iv pn, iv ps, iv pg, iv pi, iv pl, iv 3, jv_ l0, s_, jv_ l1, s_, jv_ l2, s_, jv_ l3, s_, iv sq0, iv sq1, iv sq2, iv sq3, rv b16, rv b18, rv b21, rv b25, rv b30, rv b209, iv pl3, iv pl2, jv_ tgt_, s_, jv_ clp, s_, iv ix, .val (if ix < sq1 then (if ix < sq0 then .null else .ref b16) else .ref b18)] [] _
            exact kt
          exact ⟨T253, _, (if ix < sq1 then (if ix < sq0 then .null else .ref b16) else .ref b18), X253.more (by decide) (by decide), e253, N253, (if_pos hc368_261).symm, fun _ kt => (R260 _ (R262 _ kt))⟩
        · have R263 : ∀ tg, Sx p e below T253 m 375 #[iv pn, iv ps, iv pg, iv pi, iv pl, iv 3, jv_ l0, s_, jv_ l1, s_, jv_ l2, s_, jv_ l3, s_, iv sq0, iv sq1, iv sq2, iv sq3, rv b16, rv b18, rv b21, rv b25, rv b30, rv b209, iv pl3, iv pl2, jv_ tgt_, s_, jv_ clp, s_, iv ix, rv b21] [] tg → Sx p e below T253 m 368 #[iv pn, iv ps, iv pg, iv pi, iv pl, iv 3, jv_ l0, s_, jv_ l1, s_, jv_ l2, s_, jv_ l3, s_, iv sq0, iv sq1, iv sq2, iv sq3, rv b16, rv b18, rv b21, rv b25, rv b30, rv b209, iv pl3, iv pl2, jv_ tgt_, s_, jv_ clp, s_, iv ix, .val (if ix < sq1 then (if ix < sq0 then .null else .ref b16) else .ref b18)] [(.int sq2), (.int ix)] tg := by
            intro tg kt
            refine XS.icmpNo X253.here hx rfl (hb hby at_368) rfl (flt hc368_261).1 ?_
            refine XS.aload X253.here hx rfl (hb hby at_371) rfl rfl ?_
            refine XS.astore X253.here hx rfl (hb hby at_373) rfl rfl (l' := #[iv pn, iv ps, iv pg, iv pi, iv pl, iv 3, jv_ l0, s_, jv_ l1, s_, jv_ l2, s_, jv_ l3, s_, iv sq0, iv sq1, iv sq2, iv sq3, rv b16, rv b18, rv b21, rv b25, rv b30, rv b209, iv pl3, iv pl2, jv_ tgt_, s_, jv_ clp, s_, iv ix, rv b21]) (XS.store1 rfl (Or.inr ⟨_, rfl, Jvm.Free.XT.cat1 ir1⟩) rfl) ?_
            show Sx p e below T253 m 375 #[iv pn, iv ps, iv pg, iv pi, iv pl, iv 3, jv_ l0, s_, jv_ l1, s_, jv_ l2, s_, jv_ l3, s_, iv sq0, iv sq1, iv sq2, iv sq3, rv b16, rv b18, rv b21, rv b25, rv b30, rv b209, iv pl3, iv pl2, jv_ tgt_, s_, jv_ clp, s_, iv ix, rv b21] [] _
            exact kt
          exact ⟨T253, _, (.ref b21), X253.more (by decide) (by decide), e253, N253, (if_neg hc368_261).symm, fun _ kt => (R260 _ (R263 _ kt))⟩
      have ir2 : ((if ix < sq2 then (if ix < sq1 then (if ix < sq0 then .null else .ref b16) else .ref b18) else .ref b21) : Value).isRef = true := by
        by_cases h : ix < sq2
        · rw [if_pos h]; exact ir1
        · rw [if_neg h]; rfl
      have R264 : ∀ tg, Sx p e below T259 m 375 #[iv pn, iv ps, iv pg, iv pi, iv pl, iv 3, jv_ l0, s_, jv_ l1, s_, jv_ l2, s_, jv_ l3, s_, iv sq0, iv sq1, iv sq2, iv sq3, rv b16, rv b18, rv b21, rv b25, rv b30, rv b209, iv pl3, iv pl2, jv_ tgt_, s_, jv_ clp, s_, iv ix, .val (if ix < sq2 then (if ix < sq1 then (if ix < sq0 then .null else .ref b16) else .ref b18) else .ref b21)] [] tg → Sx p e below T259 m 375 #[iv pn, iv ps, iv pg, iv pi, iv pl, iv 3, jv_ l0, s_, jv_ l1, s_, jv_ l2, s_, jv_ l3, s_, iv sq0, iv sq1, iv sq2, iv sq3, rv b16, rv b18, rv b21, rv b25, rv b30, rv b209, iv pl3, iv pl2, jv_ tgt_, s_, jv_ clp, s_, iv ix, .val ex2_] [] tg := fun tg kt => by rw [pj259_0]; exact kt
      have f265 := (f215.keep kp219)
      have f266 := (f216.keep kp219)
      have f267 := (f217.keep kp219)
      have f268 := (((((((((((((fl17.ext E18).keep kp20 (ninS ne_b16_b18 nin0)).ext E21).keep kp24 (ninS ne_b16_b21 nin0)).ext E25).keep kp29 (ninS ne_b16_b25 nin0)).ext E30).keep kp36 (ninS ne_b16_b30 nin0)).keep kp199 (ninS ne_b16_b30 nin0)).keep kp205 (ninS ne_b16_b30 (ninS nq200_b16 nin0))).keep kp208 (ninS ne_b16_b30 (ninS nq200_b16 nin0))).ext E209).keep kp219 (ninS ne_b16_b209 nin0))
      have f269 := (((((((((((fl20.ext E21).keep kp24 (ninS ne_b18_b21 nin0)).ext E25).keep kp29 (ninS ne_b18_b25 nin0)).ext E30).keep kp36 (ninS ne_b18_b30 nin0)).keep kp199 (ninS ne_b18_b30 nin0)).keep kp205 (ninS ne_b18_b30 (ninS nq200_b18 nin0))).keep kp208 (ninS ne_b18_b30 (ninS nq200_b18 nin0))).ext E209).keep kp219 (ninS ne_b18_b209 nin0))
      have f270 := (((((((((fl24.ext E25).keep kp29 (ninS ne_b21_b25 nin0)).ext E30).keep kp36 (ninS ne_b21_b30 nin0)).keep kp199 (ninS ne_b21_b30 nin0)).keep kp205 (ninS ne_b21_b30 (ninS nq200_b21 nin0))).keep kp208 (ninS ne_b21_b30 (ninS nq200_b21 nin0))).ext E209).keep kp219 (ninS ne_b21_b209 nin0))
      have f272 := (A209.keep kp219)
      obtain ⟨cq271, kq271, q271a, q271b, q271c⟩ := isOf hZ e259 f272
      obtain ⟨_, _, ⟨T271, L271, k271, n271⟩, -, X271, ⟨Lc271, hQ271, l271, y271, z271⟩, st271⟩ := X259.virtualBack hx (y := (⟨"com/example/clausemap/clausemap/outline/Outline", "partAt", "(I)Lcom/example/clausemap/clausemap/outline/Part;"⟩ : MethodName)) (z := (⟨"com/example/clausemap/clausemap/outline/Outline", "partAt", "(I)Lcom/example/clausemap/clausemap/outline/Part;"⟩ : MethodName)) hown (mvT hZ (w_ hw 98 rfl)) (mvT hZ (w_ hw 99 rfl)) (notFace_of_selects (args := #[]) (mvT hZ (w_ hw 101 rfl))) (mvT hZ (w_ hw 101 rfl)) (mvT hZ (w_ hw 100 rfl)) (by decide) (backOf (W := 0) (rmP3 l Z a0 hw [] b209 lb219 b16 b18 b21 em ix sq0 sq1 sq2 T219.heap n0 Z219 fp219 lv219 f265 f266 f267 f268 f269 f270 hq01 hq12) hZ (w_ hw 102 rfl) (w_ hw 54 rfl) (by decide) (by decide)) q271a q271c (g := (mkF m 396 #[iv pn, iv ps, iv pg, iv pi, iv pl, iv 3, jv_ l0, s_, jv_ l1, s_, jv_ l2, s_, jv_ l3, s_, iv sq0, iv sq1, iv sq2, iv sq3, rv b16, rv b18, rv b21, rv b25, rv b30, rv b209, iv pl3, iv pl2, jv_ tgt_, s_, jv_ clp, s_, iv ix, .val (if ix < sq2 then (if ix < sq1 then (if ix < sq0 then .null else .ref b16) else .ref b18) else .ref b21)] [(.int ix), (.ref b209)])) rfl (by rw [hml]; rfl) (Steps.refl _) (argsL := [(.int ix)]) (rest := []) (lenOf pd_18 rfl) rfl (by show 2 * 0 + _ ≤ _; exact Nat.le_of_eq rfl) (hb hby at_396) (fun _ _ => ⟨rfl, e259, (by decide : 10 + 0 ≤ _), (by decide : 46 + 0 ≤ _)⟩)
      dsimp only [Pt.U, Pt.locs, Pt.cells, Pt.slots] at X271 l271 y271 z271 st271 hQ271
      subst l271 y271 z271
      obtain ⟨hv271, N271q, r271⟩ := hQ271
      subst hv271
      have N271 := Fr.app N259 N271q
      obtain ⟨fs, hr, hrun, hended, hW, hsame⟩ := X271.leave (v := some (.int 1)) (fun h => by rw [Bd.returns] at h; cases h)
      refine ⟨_, _, pre0 _ (R1 _ (R2 _ (R3 _ (R4 _ (R5 _ (R6 _ (R7 _ (R8 _ (R9 _ (R11 _ (R12 _ (R13 _ (R14 _ (R15 _ (R37 _ (R196 _ (R220 _ (R221 _ (R222 _ (R223 _ (R234 _ (R235 _ (R242 _ (R243 _ (R244 _ (R245 _ (R246 _ (R247 _ (R252 _ (R253 _ (R258 _ (R259 _ (R264 _ ?_))))))))))))))))))))))))))))))))), hrun, hended, _, _, rfl, ?_, ⟨_, rfl⟩, hW, hsame.mono (by decide) (by decide)⟩
      · show Sx p e below T259 m 375 #[iv pn, iv ps, iv pg, iv pi, iv pl, iv 3, jv_ l0, s_, jv_ l1, s_, jv_ l2, s_, jv_ l3, s_, iv sq0, iv sq1, iv sq2, iv sq3, rv b16, rv b18, rv b21, rv b25, rv b30, rv b209, iv pl3, iv pl2, jv_ tgt_, s_, jv_ clp, s_, iv ix, .val (if ix < sq2 then (if ix < sq1 then (if ix < sq0 then .null else .ref b16) else .ref b18) else .ref b21)] [] _
        refine XS.iload X259.here hx rfl (hb hby at_375) rfl ?_
        refine XS.iconst X259.here hx rfl (hb hby at_377) ?_
        refine XS.icmpYes X259.here hx rfl (pc0 := 378) (pc' := 392) rfl (hb hby at_378) rfl (flt (by decide : ¬ ((3 : Int32) < (3 : Int32)))).2.2.2 (by decide) (by decide) ?_
        refine XS.aload X259.here hx rfl (hb hby at_392) rfl rfl ?_
        refine XS.iload X259.here hx rfl (hb hby at_394) rfl ?_
        show Sx p e below T259 m 396 #[iv pn, iv ps, iv pg, iv pi, iv pl, iv 3, jv_ l0, s_, jv_ l1, s_, jv_ l2, s_, jv_ l3, s_, iv sq0, iv sq1, iv sq2, iv sq3, rv b16, rv b18, rv b21, rv b25, rv b30, rv b209, iv pl3, iv pl2, jv_ tgt_, s_, jv_ clp, s_, iv ix, .val (if ix < sq2 then (if ix < sq1 then (if ix < sq0 then .null else .ref b16) else .ref b18) else .ref b21)] [(.int ix), (.ref b209)] _
        refine st271.trans ?_
        refine XS.aload X271.here hx rfl (hb hby at_399) rfl ir2 ?_
        refine Jvm.RoadKit.acmp (g := (mkF m 401 #[iv pn, iv ps, iv pg, iv pi, iv pl, iv 3, jv_ l0, s_, jv_ l1, s_, jv_ l2, s_, jv_ l3, s_, iv sq0, iv sq1, iv sq2, iv sq3, rv b16, rv b18, rv b21, rv b25, rv b30, rv b209, iv pl3, iv pl2, jv_ tgt_, s_, jv_ clp, s_, iv ix, .val (if ix < sq2 then (if ix < sq1 then (if ix < sq0 then .null else .ref b16) else .ref b18) else .ref b21)] [(if ix < sq2 then (if ix < sq1 then (if ix < sq0 then .null else .ref b16) else .ref b18) else .ref b21), (if ix < sq2 then (if ix < sq1 then (if ix < sq0 then .null else .ref b16) else .ref b18) else .ref b21)])) X271 hx rfl ir2 ir2 (pc0 := 401) (pc' := 404) (same := true) rfl (hb hby at_401) rfl (decide_eq_true rfl) (by decide) (by decide) ?_
        refine XS.iconst X271.here hx rfl (hb hby at_404) ?_
        refine XS.goto X271.here hx rfl (pc0 := 405) (pc' := 409) rfl (hb hby at_405) (by decide) (by decide) ?_
        show Sx p e below T271 m 409 #[iv pn, iv ps, iv pg, iv pi, iv pl, iv 3, jv_ l0, s_, jv_ l1, s_, jv_ l2, s_, jv_ l3, s_, iv sq0, iv sq1, iv sq2, iv sq3, rv b16, rv b18, rv b21, rv b25, rv b30, rv b209, iv pl3, iv pl2, jv_ tgt_, s_, jv_ clp, s_, iv ix, .val (if ix < sq2 then (if ix < sq1 then (if ix < sq0 then .null else .ref b16) else .ref b18) else .ref b21)] [(.int 1)] _
        exact retN X271 hx (t := .boolean) Bd.returns (by simp) (hb hby at_409) hr
      · show Q0 n0 _ T271.heap _
        rw [r271]
        exact ⟨rfl, N271⟩
    · have R273 : ∀ tg, Sx p e below T36 m 165 #[iv pn, iv ps, iv pg, iv pi, iv pl, iv 4, jv_ l0, s_, jv_ l1, s_, jv_ l2, s_, jv_ l3, s_, iv sq0, iv sq1, iv sq2, iv sq3, rv b16, rv b18, rv b21, rv b25, rv b30, u_, u_, u_, u_, u_, u_, u_, u_, u_] [] tg → Sx p e below T36 m 165 #[iv pn, iv ps, iv pg, iv pi, iv pl, iv ((pn &&& (2147483647 : Int32)) % (5 : Int32)), jv_ l0, s_, jv_ l1, s_, jv_ l2, s_, jv_ l3, s_, iv sq0, iv sq1, iv sq2, iv sq3, rv b16, rv b18, rv b21, rv b25, rv b30, u_, u_, u_, u_, u_, u_, u_, u_, u_] [] tg := fun tg kt => by rw [hk38]; exact kt
      have f274 := (f35.keep kp36 (allS gb_b30 all0))
      have f275 := ((f31.ext E30).keep kp36)
      obtain ⟨cq276, kq276, q276a, q276b, q276c⟩ := isOf hZ rfl fa36
      obtain ⟨_, _, ⟨T276, L276, k276, n276⟩, -, X276, ⟨Lc276, hQ276, l276, y276, z276⟩, st276⟩ := X36.virtualBack hx (y := (⟨"java/util/ArrayList", "add", "(Ljava/lang/Object;)Z"⟩ : MethodName)) (z := (⟨"java/util/ArrayList", "add", "(Ljava/lang/Object;)Z"⟩ : MethodName)) hown (mvT hZ (w_ hw 115 rfl)) (mvT hZ (w_ hw 116 rfl)) (notFace_of_selects (args := #[]) (mvT hZ (w_ hw 118 rfl))) (mvT hZ (w_ hw 118 rfl)) (mvT hZ (w_ hw 117 rfl)) (by decide) (backOf (W := 0) (rmAg l Z a0 hw [] b30 b16 dc kd (0 : Int32) T36.heap n0 Z36 ⟨fa36, fb36, fc36, fd36⟩ gb_b30 (hSd.ext f274.2) (hAd.ext f274.2) f275 (Ne.symm (Old.ne f274 hAd.lt gb_b30))) hZ (w_ hw 119 rfl) (w_ hw 30 rfl) (by decide) (by decide)) q276a q276c (g := (mkF m 174 #[iv pn, iv ps, iv pg, iv pi, iv pl, iv 4, jv_ l0, s_, jv_ l1, s_, jv_ l2, s_, jv_ l3, s_, iv sq0, iv sq1, iv sq2, iv sq3, rv b16, rv b18, rv b21, rv b25, rv b30, u_, u_, u_, u_, u_, u_, u_, u_, u_] [(.ref b16), (.ref b30)])) rfl (by rw [hml]; rfl) (Steps.refl _) (argsL := [(.ref b16)]) (rest := []) (lenOf pd_19 rfl) rfl (by show 2 * 0 + _ ≤ _; exact Nat.le_of_eq rfl) (hb hby at_174) (fun _ _ => ⟨rfl, rfl, (by decide : 5 + 1 ≤ _), (by decide : 27 + 10 ≤ _)⟩)
      dsimp only [Pt.U, Pt.locs, Pt.cells, Pt.slots] at X276 l276 y276 z276 st276 hQ276
      subst l276 y276 z276
      obtain ⟨hv276, N276q, kp276, ea276, ke276, mc276, sz276, hC276⟩ := hQ276
      subst hv276
      have N276 := Fr.app N36 N276q
      have Z276 : n0 ≤ T276.heap.size := Nat.le_trans Z36 kp276.1
      have f278 := (f275.keep kp276)
      have nq277_b16 : b16 ≠ ea276 := own_ne_arv f278 (w_ hw 3 rfl) hC276.2.1
      have f279 := (((f32.ext E30).keep kp36).keep kp276)
      have nq277_b18 : b18 ≠ ea276 := own_ne_arv f279 (w_ hw 3 rfl) hC276.2.1
      have f280 := (((f33.ext E30).keep kp36).keep kp276)
      have nq277_b21 : b21 ≠ ea276 := own_ne_arv f280 (w_ hw 3 rfl) hC276.2.1
      have f281 := (((f34.ext E30).keep kp36).keep kp276)
      have nq277_b25 : b25 ≠ ea276 := own_ne_arv f281 (w_ hw 3 rfl) hC276.2.1
      obtain ⟨cq282, kq282, q282a, q282b, q282c⟩ := isOf hZ rfl hC276.1.1
      obtain ⟨_, _, ⟨T282, L282, k282, n282⟩, -, X282, ⟨Lc282, hQ282, l282, y282, z282⟩, st282⟩ := X276.virtualBack hx (y := (⟨"java/util/ArrayList", "add", "(Ljava/lang/Object;)Z"⟩ : MethodName)) (z := (⟨"java/util/ArrayList", "add", "(Ljava/lang/Object;)Z"⟩ : MethodName)) hown (mvT hZ (w_ hw 115 rfl)) (mvT hZ (w_ hw 116 rfl)) (notFace_of_selects (args := #[]) (mvT hZ (w_ hw 118 rfl))) (mvT hZ (w_ hw 118 rfl)) (mvT hZ (w_ hw 117 rfl)) (by decide) (backOf (W := 0) (rmAn l Z a0 hw [] b30 b18 ea276 ke276 mc276 (1 : Int32) [.ref b16, .null, .null, .null, .null, .null, .null, .null, .null, .null] 1 T276.heap n0 Z276 hC276 f279 (by decide) ⟨by decide, by decide⟩ rfl (Nat.le_of_ble_eq_true rfl)) hZ (w_ hw 119 rfl) (w_ hw 30 rfl) (by decide) (by decide)) q282a q282c (g := (mkF m 188 #[iv pn, iv ps, iv pg, iv pi, iv pl, iv 4, jv_ l0, s_, jv_ l1, s_, jv_ l2, s_, jv_ l3, s_, iv sq0, iv sq1, iv sq2, iv sq3, rv b16, rv b18, rv b21, rv b25, rv b30, u_, u_, u_, u_, u_, u_, u_, u_, u_] [(.ref b18), (.ref b30)])) rfl (by rw [hml]; rfl) (Steps.refl _) (argsL := [(.ref b18)]) (rest := []) (lenOf pd_19 rfl) rfl (by show 2 * 0 + _ ≤ _; exact Nat.le_of_eq rfl) (hb hby at_188) (fun _ _ => ⟨rfl, rfl, (by decide : 6 + 0 ≤ _), (by decide : 37 + 0 ≤ _)⟩)
      dsimp only [Pt.U, Pt.locs, Pt.cells, Pt.slots] at X282 l282 y282 z282 st282 hQ282
      subst l282 y282 z282
      obtain ⟨hv282, N282q, kp282, mc282, hC282⟩ := hQ282
      subst hv282
      have N282 := Fr.app N276 N282q
      have Z282 : n0 ≤ T282.heap.size := Nat.le_trans Z276 kp282.1
      have hC282' : ALs Z n0 T282.heap b30 ea276 ke276 mc282 (2 : Int32) [.ref b16, .ref b18, .null, .null, .null, .null, .null, .null, .null, .null] := by
        have q := hC282
        rw [show ((1 : Int32) + 1) = (2 : Int32) from by decide] at q
        exact q
      have f284 := (f280.keep kp282)
      obtain ⟨cq285, kq285, q285a, q285b, q285c⟩ := isOf hZ rfl hC282'.1.1
      obtain ⟨_, _, ⟨T285, L285, k285, n285⟩, -, X285, ⟨Lc285, hQ285, l285, y285, z285⟩, st285⟩ := X282.virtualBack hx (y := (⟨"java/util/ArrayList", "add", "(Ljava/lang/Object;)Z"⟩ : MethodName)) (z := (⟨"java/util/ArrayList", "add", "(Ljava/lang/Object;)Z"⟩ : MethodName)) hown (mvT hZ (w_ hw 115 rfl)) (mvT hZ (w_ hw 116 rfl)) (notFace_of_selects (args := #[]) (mvT hZ (w_ hw 118 rfl))) (mvT hZ (w_ hw 118 rfl)) (mvT hZ (w_ hw 117 rfl)) (by decide) (backOf (W := 0) (rmAn l Z a0 hw [] b30 b21 ea276 ke276 mc282 (2 : Int32) [.ref b16, .ref b18, .null, .null, .null, .null, .null, .null, .null, .null] 2 T282.heap n0 Z282 hC282' f284 (by decide) ⟨by decide, by decide⟩ rfl (Nat.le_of_ble_eq_true rfl)) hZ (w_ hw 119 rfl) (w_ hw 30 rfl) (by decide) (by decide)) q285a q285c (g := (mkF m 202 #[iv pn, iv ps, iv pg, iv pi, iv pl, iv 4, jv_ l0, s_, jv_ l1, s_, jv_ l2, s_, jv_ l3, s_, iv sq0, iv sq1, iv sq2, iv sq3, rv b16, rv b18, rv b21, rv b25, rv b30, u_, u_, u_, u_, u_, u_, u_, u_, u_] [(.ref b21), (.ref b30)])) rfl (by rw [hml]; rfl) (Steps.refl _) (argsL := [(.ref b21)]) (rest := []) (lenOf pd_19 rfl) rfl (by show 2 * 0 + _ ≤ _; exact Nat.le_of_eq rfl) (hb hby at_202) (fun _ _ => ⟨rfl, rfl, (by decide : 6 + 0 ≤ _), (by decide : 37 + 0 ≤ _)⟩)
      dsimp only [Pt.U, Pt.locs, Pt.cells, Pt.slots] at X285 l285 y285 z285 st285 hQ285
      subst l285 y285 z285
      obtain ⟨hv285, N285q, kp285, mc285, hC285⟩ := hQ285
      subst hv285
      have N285 := Fr.app N282 N285q
      have Z285 : n0 ≤ T285.heap.size := Nat.le_trans Z282 kp285.1
      have hC285' : ALs Z n0 T285.heap b30 ea276 ke276 mc285 (3 : Int32) [.ref b16, .ref b18, .ref b21, .null, .null, .null, .null, .null, .null, .null] := by
        have q := hC285
        rw [show ((2 : Int32) + 1) = (3 : Int32) from by decide] at q
        exact q
      have f287 := ((f281.keep kp282).keep kp285)
      obtain ⟨cq288, kq288, q288a, q288b, q288c⟩ := isOf hZ rfl hC285'.1.1
      obtain ⟨_, _, ⟨T288, L288, k288, n288⟩, -, X288, ⟨Lc288, hQ288, l288, y288, z288⟩, st288⟩ := X285.virtualBack hx (y := (⟨"java/util/ArrayList", "add", "(Ljava/lang/Object;)Z"⟩ : MethodName)) (z := (⟨"java/util/ArrayList", "add", "(Ljava/lang/Object;)Z"⟩ : MethodName)) hown (mvT hZ (w_ hw 115 rfl)) (mvT hZ (w_ hw 116 rfl)) (notFace_of_selects (args := #[]) (mvT hZ (w_ hw 118 rfl))) (mvT hZ (w_ hw 118 rfl)) (mvT hZ (w_ hw 117 rfl)) (by decide) (backOf (W := 0) (rmAn l Z a0 hw [] b30 b25 ea276 ke276 mc285 (3 : Int32) [.ref b16, .ref b18, .ref b21, .null, .null, .null, .null, .null, .null, .null] 3 T285.heap n0 Z285 hC285' f287 (by decide) ⟨by decide, by decide⟩ rfl (Nat.le_of_ble_eq_true rfl)) hZ (w_ hw 119 rfl) (w_ hw 30 rfl) (by decide) (by decide)) q288a q288c (g := (mkF m 216 #[iv pn, iv ps, iv pg, iv pi, iv pl, iv 4, jv_ l0, s_, jv_ l1, s_, jv_ l2, s_, jv_ l3, s_, iv sq0, iv sq1, iv sq2, iv sq3, rv b16, rv b18, rv b21, rv b25, rv b30, u_, u_, u_, u_, u_, u_, u_, u_, u_] [(.ref b25), (.ref b30)])) rfl (by rw [hml]; rfl) (Steps.refl _) (argsL := [(.ref b25)]) (rest := []) (lenOf pd_19 rfl) rfl (by show 2 * 0 + _ ≤ _; exact Nat.le_of_eq rfl) (hb hby at_216) (fun _ _ => ⟨rfl, rfl, (by decide : 6 + 0 ≤ _), (by decide : 37 + 0 ≤ _)⟩)
      dsimp only [Pt.U, Pt.locs, Pt.cells, Pt.slots] at X288 l288 y288 z288 st288 hQ288
      subst l288 y288 z288
      obtain ⟨hv288, N288q, kp288, mc288, hC288⟩ := hQ288
      subst hv288
      have N288 := Fr.app N285 N288q
      have Z288 : n0 ≤ T288.heap.size := Nat.le_trans Z285 kp288.1
      have hC288' : ALs Z n0 T288.heap b30 ea276 ke276 mc288 (4 : Int32) [.ref b16, .ref b18, .ref b21, .ref b25, .null, .null, .null, .null, .null, .null] := by
        have q := hC288
        rw [show ((3 : Int32) + 1) = (4 : Int32) from by decide] at q
        exact q
      obtain ⟨T289, h289, X289, e289, E289, A289, D289, -, st289⟩ := newO X288 hx hZ hown (w_ hw 52 rfl) (w_ hw 53 rfl) (w_ hw 54 rfl) rfl (g := (mkF m 220 #[iv pn, iv ps, iv pg, iv pi, iv pl, iv 4, jv_ l0, s_, jv_ l1, s_, jv_ l2, s_, jv_ l3, s_, iv sq0, iv sq1, iv sq2, iv sq3, rv b16, rv b18, rv b21, rv b25, rv b30, u_, u_, u_, u_, u_, u_, u_, u_, u_] [])) rfl (hb hby at_220) (by decide) (by decide)
      obtain ⟨b289, g289⟩ : ∃ z, z = T288.heap.size := ⟨_, rfl⟩
      rw [← g289] at A289 D289 st289
      have f290 := (((f278.keep kp282).keep kp285).keep kp288)
      have ne_b16_b289 : b16 ≠ b289 := Nat.ne_of_lt (Nat.lt_of_lt_of_le (f290).lt (Nat.le_of_eq g289.symm))
      have f291 := (((f279.keep kp282).keep kp285).keep kp288)
      have ne_b18_b289 : b18 ≠ b289 := Nat.ne_of_lt (Nat.lt_of_lt_of_le (f291).lt (Nat.le_of_eq g289.symm))
      have f292 := ((f284.keep kp285).keep kp288)
      have ne_b21_b289 : b21 ≠ b289 := Nat.ne_of_lt (Nat.lt_of_lt_of_le (f292).lt (Nat.le_of_eq g289.symm))
      have f293 := (f287.keep kp288)
      have ne_b25_b289 : b25 ≠ b289 := Nat.ne_of_lt (Nat.lt_of_lt_of_le (f293).lt (Nat.le_of_eq g289.symm))
      have ne_b30_b289 : b30 ≠ b289 := Nat.ne_of_lt (Nat.lt_of_lt_of_le (hC288'.1.1).lt (Nat.le_of_eq g289.symm))
      have gb_b289 : n0 ≤ b289 := Nat.le_trans Z288 (Nat.le_of_eq g289.symm)
      have Z289 : n0 ≤ h289.size := Nat.le_trans Z288 E289.1
      have F289_parts : Fld Z h289 b289 "com/example/clausemap/clausemap/outline/Outline" "parts" "Ljava/util/List;" .null := D289 (Or.inr (w_ hw 89 rfl)) (ty := (.object "java/util/List")) (by decide)
      have f294 := (ALs.ext hC288' E289)
      have f295 := (f290.ext E289)
      have f296 := (f291.ext E289)
      have f297 := (f292.ext E289)
      have f298 := (f293.ext E289)
      have f299 := (((((f274.keep kp276 (allS gb_b30 all0)).keep kp282 (allS gb_b30 (allS (hC285'.2.2.2.2.2.1) all0))).keep kp285 (allS gb_b30 (allS (hC285'.2.2.2.2.2.1) all0))).keep kp288 (allS gb_b30 (allS (hC285'.2.2.2.2.2.1) all0))).ext E289)
      obtain ⟨_, _, ⟨T300, L300, k300, n300⟩, -, X300, ⟨Lc300, hQ300, l300, y300, z300⟩, st300⟩ := X289.specialBack hx (y := (⟨"com/example/clausemap/clausemap/outline/Outline", "<init>", "(Ljava/util/List;)V"⟩ : MethodName)) rfl hown (mvT hZ (w_ hw 55 rfl)) (mvT hZ (w_ hw 56 rfl)) (mvT hZ (w_ hw 57 rfl)) (by decide) (backOf (W := 1) (rmI4 l Z a0 hw [] b289 b30 ea276 b16 b18 b21 b25 em ke276 mc288 h289 n0 Z289 A289 F289_parts gb_b289 (Ne.symm ne_b30_b289) f294 f295 f296 f297 f298 hM f299 hSe) hZ (w_ hw 57 rfl) (w_ hw 54 rfl) (by decide) (by decide)) (g := (mkF m 226 #[iv pn, iv ps, iv pg, iv pi, iv pl, iv 4, jv_ l0, s_, jv_ l1, s_, jv_ l2, s_, jv_ l3, s_, iv sq0, iv sq1, iv sq2, iv sq3, rv b16, rv b18, rv b21, rv b25, rv b30, u_, u_, u_, u_, u_, u_, u_, u_, u_] [(.ref b30), (.ref b289), (.ref b289)])) rfl (by rw [hml]; rfl) (Steps.refl _) (a := b289) (argsL := [(.ref b30)]) (rest := [(.ref b289)]) (lenOf pd_16 rfl) rfl (by show 2 * 0 + _ ≤ _; exact Nat.le_of_eq rfl) (hb hby at_226) (fun _ _ => ⟨rfl, e289, (by decide : 7 + 3 ≤ _), (by decide : 38 + 10 ≤ _)⟩)
      dsimp only [Pt.U, Pt.locs, Pt.cells, Pt.slots] at X300 l300 y300 z300 st300 hQ300
      subst l300 y300 z300
      obtain ⟨hv300, N300q, kp300, lb300, fp300, lv300⟩ := hQ300
      subst hv300
      have N300 := Fr.app N288 N300q
      have Z300 : n0 ≤ T300.heap.size := Nat.le_trans Z289 kp300.1
      obtain ⟨pl3, hpl3⟩ : ∃ z, z = (pl &&& (3 : Int32)) := ⟨_, rfl⟩
      have R301 : ∀ tg, Sx p e below T300 m 245 #[iv pn, iv ps, iv pg, iv pi, iv pl, iv 4, jv_ l0, s_, jv_ l1, s_, jv_ l2, s_, jv_ l3, s_, iv sq0, iv sq1, iv sq2, iv sq3, rv b16, rv b18, rv b21, rv b25, rv b30, rv b289, iv (pl &&& (3 : Int32)), iv (((pl.toUInt32 >>> ((2 : Int32) &&& 31).toUInt32).toInt32) &&& (3 : Int32)), u_, u_, u_, u_, u_, u_] [] tg → Sx p e below T36 m 165 #[iv pn, iv ps, iv pg, iv pi, iv pl, iv 4, jv_ l0, s_, jv_ l1, s_, jv_ l2, s_, jv_ l3, s_, iv sq0, iv sq1, iv sq2, iv sq3, rv b16, rv b18, rv b21, rv b25, rv b30, u_, u_, u_, u_, u_, u_, u_, u_, u_] [] tg := by
        intro tg kt
        refine XS.iload X36.here hx rfl (hb hby at_165) rfl ?_
        refine XS.ifNo X36.here hx rfl (hb hby at_167) rfl ((if0 _ _).trans (tlt (by decide : (0 : Int32) < (4 : Int32))).2.2.2) ?_
        refine XS.aload X36.here hx rfl (hb hby at_170) rfl rfl ?_
        refine XS.aload X36.here hx rfl (hb hby at_172) rfl rfl ?_
        refine st276.trans ?_
        show Sx p e below T276 m 177 #[iv pn, iv ps, iv pg, iv pi, iv pl, iv 4, jv_ l0, s_, jv_ l1, s_, jv_ l2, s_, jv_ l3, s_, iv sq0, iv sq1, iv sq2, iv sq3, rv b16, rv b18, rv b21, rv b25, rv b30, u_, u_, u_, u_, u_, u_, u_, u_, u_] [(.int 1)] _
        refine XS.pop X276.here hx rfl (hb hby at_177) rfl rfl ?_
        refine XS.iload X276.here hx rfl (hb hby at_178) rfl ?_
        refine XS.iconst X276.here hx rfl (hb hby at_180) ?_
        refine XS.icmpNo X276.here hx rfl (hb hby at_181) rfl (tlt (by decide : (1 : Int32) < (4 : Int32))).2.2.2 ?_
        refine XS.aload X276.here hx rfl (hb hby at_184) rfl rfl ?_
        show Sx p e below T276 m 186 #[iv pn, iv ps, iv pg, iv pi, iv pl, iv 4, jv_ l0, s_, jv_ l1, s_, jv_ l2, s_, jv_ l3, s_, iv sq0, iv sq1, iv sq2, iv sq3, rv b16, rv b18, rv b21, rv b25, rv b30, u_, u_, u_, u_, u_, u_, u_, u_, u_] [(.ref b30)] _
        refine XS.aload X276.here hx rfl (hb hby at_186) rfl rfl ?_
        refine st282.trans ?_
        refine XS.pop X282.here hx rfl (hb hby at_191) rfl rfl ?_
        refine XS.iload X282.here hx rfl (hb hby at_192) rfl ?_
        refine XS.iconst X282.here hx rfl (hb hby at_194) ?_
        show Sx p e below T282 m 195 #[iv pn, iv ps, iv pg, iv pi, iv pl, iv 4, jv_ l0, s_, jv_ l1, s_, jv_ l2, s_, jv_ l3, s_, iv sq0, iv sq1, iv sq2, iv sq3, rv b16, rv b18, rv b21, rv b25, rv b30, u_, u_, u_, u_, u_, u_, u_, u_, u_] [(.int 2), (.int 4)] _
        refine XS.icmpNo X282.here hx rfl (hb hby at_195) rfl (tlt (by decide : (2 : Int32) < (4 : Int32))).2.2.2 ?_
        refine XS.aload X282.here hx rfl (hb hby at_198) rfl rfl ?_
        refine XS.aload X282.here hx rfl (hb hby at_200) rfl rfl ?_
        refine st285.trans ?_
        refine XS.pop X285.here hx rfl (hb hby at_205) rfl rfl ?_
        show Sx p e below T285 m 206 #[iv pn, iv ps, iv pg, iv pi, iv pl, iv 4, jv_ l0, s_, jv_ l1, s_, jv_ l2, s_, jv_ l3, s_, iv sq0, iv sq1, iv sq2, iv sq3, rv b16, rv b18, rv b21, rv b25, rv b30, u_, u_, u_, u_, u_, u_, u_, u_, u_] [] _
        refine XS.iload X285.here hx rfl (hb hby at_206) rfl ?_
        refine XS.iconst X285.here hx rfl (hb hby at_208) ?_
        refine XS.icmpNo X285.here hx rfl (hb hby at_209) rfl (tlt (by decide : (3 : Int32) < (4 : Int32))).2.2.2 ?_
        refine XS.aload X285.here hx rfl (hb hby at_212) rfl rfl ?_
        refine XS.aload X285.here hx rfl (hb hby at_214) rfl rfl ?_
        show Sx p e below T285 m 216 #[iv pn, iv ps, iv pg, iv pi, iv pl, iv 4, jv_ l0, s_, jv_ l1, s_, jv_ l2, s_, jv_ l3, s_, iv sq0, iv sq1, iv sq2, iv sq3, rv b16, rv b18, rv b21, rv b25, rv b30, u_, u_, u_, u_, u_, u_, u_, u_, u_] [(.ref b25), (.ref b30)] _
        refine st288.trans ?_
        refine XS.pop X288.here hx rfl (hb hby at_219) rfl rfl ?_
        refine st289 _ ?_
        refine XS.dup X289.here hx rfl (hb hby at_223) rfl rfl ?_
        refine XS.aload X289.here hx rfl (hb hby at_224) rfl rfl ?_
        show Sx p e below T289 m 226 #[iv pn, iv ps, iv pg, iv pi, iv pl, iv 4, jv_ l0, s_, jv_ l1, s_, jv_ l2, s_, jv_ l3, s_, iv sq0, iv sq1, iv sq2, iv sq3, rv b16, rv b18, rv b21, rv b25, rv b30, u_, u_, u_, u_, u_, u_, u_, u_, u_] [(.ref b30), (.ref b289), (.ref b289)] _
        refine st300.trans ?_
        refine XS.astore X300.here hx rfl (hb hby at_229) rfl rfl (l' := #[iv pn, iv ps, iv pg, iv pi, iv pl, iv 4, jv_ l0, s_, jv_ l1, s_, jv_ l2, s_, jv_ l3, s_, iv sq0, iv sq1, iv sq2, iv sq3, rv b16, rv b18, rv b21, rv b25, rv b30, rv b289, u_, u_, u_, u_, u_, u_, u_, u_]) rfl ?_
        refine XS.iload X300.here hx rfl (hb hby at_231) rfl ?_
        refine XS.iconst X300.here hx rfl (hb hby at_233) ?_
        refine XS.iand X300.here hx rfl (hb hby at_234) rfl ?_
        show Sx p e below T300 m 235 #[iv pn, iv ps, iv pg, iv pi, iv pl, iv 4, jv_ l0, s_, jv_ l1, s_, jv_ l2, s_, jv_ l3, s_, iv sq0, iv sq1, iv sq2, iv sq3, rv b16, rv b18, rv b21, rv b25, rv b30, rv b289, u_, u_, u_, u_, u_, u_, u_, u_] [(.int (pl &&& (3 : Int32)))] _
        refine XS.istore X300.here hx rfl (hb hby at_235) rfl (l' := #[iv pn, iv ps, iv pg, iv pi, iv pl, iv 4, jv_ l0, s_, jv_ l1, s_, jv_ l2, s_, jv_ l3, s_, iv sq0, iv sq1, iv sq2, iv sq3, rv b16, rv b18, rv b21, rv b25, rv b30, rv b289, iv (pl &&& (3 : Int32)), u_, u_, u_, u_, u_, u_, u_]) rfl ?_
        refine XS.iload X300.here hx rfl (hb hby at_237) rfl ?_
        refine XS.iconst X300.here hx rfl (hb hby at_239) ?_
        refine XS.iushr X300.here hx rfl (hb hby at_240) rfl ?_
        refine XS.iconst X300.here hx rfl (hb hby at_241) ?_
        show Sx p e below T300 m 242 #[iv pn, iv ps, iv pg, iv pi, iv pl, iv 4, jv_ l0, s_, jv_ l1, s_, jv_ l2, s_, jv_ l3, s_, iv sq0, iv sq1, iv sq2, iv sq3, rv b16, rv b18, rv b21, rv b25, rv b30, rv b289, iv (pl &&& (3 : Int32)), u_, u_, u_, u_, u_, u_, u_] [(.int 3), (.int ((pl.toUInt32 >>> ((2 : Int32) &&& 31).toUInt32).toInt32))] _
        refine XS.iand X300.here hx rfl (hb hby at_242) rfl ?_
        refine XS.istore X300.here hx rfl (hb hby at_243) rfl (l' := #[iv pn, iv ps, iv pg, iv pi, iv pl, iv 4, jv_ l0, s_, jv_ l1, s_, jv_ l2, s_, jv_ l3, s_, iv sq0, iv sq1, iv sq2, iv sq3, rv b16, rv b18, rv b21, rv b25, rv b30, rv b289, iv (pl &&& (3 : Int32)), iv (((pl.toUInt32 >>> ((2 : Int32) &&& 31).toUInt32).toInt32) &&& (3 : Int32)), u_, u_, u_, u_, u_, u_]) rfl ?_
        show Sx p e below T300 m 245 #[iv pn, iv ps, iv pg, iv pi, iv pl, iv 4, jv_ l0, s_, jv_ l1, s_, jv_ l2, s_, jv_ l3, s_, iv sq0, iv sq1, iv sq2, iv sq3, rv b16, rv b18, rv b21, rv b25, rv b30, rv b289, iv (pl &&& (3 : Int32)), iv (((pl.toUInt32 >>> ((2 : Int32) &&& 31).toUInt32).toInt32) &&& (3 : Int32)), u_, u_, u_, u_, u_, u_] [] _
        exact kt
      have R302 : ∀ tg, Sx p e below T300 m 245 #[iv pn, iv ps, iv pg, iv pi, iv pl, iv 4, jv_ l0, s_, jv_ l1, s_, jv_ l2, s_, jv_ l3, s_, iv sq0, iv sq1, iv sq2, iv sq3, rv b16, rv b18, rv b21, rv b25, rv b30, rv b289, iv pl3, iv (((pl.toUInt32 >>> ((2 : Int32) &&& 31).toUInt32).toInt32) &&& (3 : Int32)), u_, u_, u_, u_, u_, u_] [] tg → Sx p e below T300 m 245 #[iv pn, iv ps, iv pg, iv pi, iv pl, iv 4, jv_ l0, s_, jv_ l1, s_, jv_ l2, s_, jv_ l3, s_, iv sq0, iv sq1, iv sq2, iv sq3, rv b16, rv b18, rv b21, rv b25, rv b30, rv b289, iv (pl &&& (3 : Int32)), iv (((pl.toUInt32 >>> ((2 : Int32) &&& 31).toUInt32).toInt32) &&& (3 : Int32)), u_, u_, u_, u_, u_, u_] [] tg := fun tg kt => by rw [← hpl3]; exact kt
      obtain ⟨pl2, hpl2⟩ : ∃ z, z = (((pl.toUInt32 >>> ((2 : Int32) &&& 31).toUInt32).toInt32) &&& (3 : Int32)) := ⟨_, rfl⟩
      have R303 : ∀ tg, Sx p e below T300 m 245 #[iv pn, iv ps, iv pg, iv pi, iv pl, iv 4, jv_ l0, s_, jv_ l1, s_, jv_ l2, s_, jv_ l3, s_, iv sq0, iv sq1, iv sq2, iv sq3, rv b16, rv b18, rv b21, rv b25, rv b30, rv b289, iv pl3, iv pl2, u_, u_, u_, u_, u_, u_] [] tg → Sx p e below T300 m 245 #[iv pn, iv ps, iv pg, iv pi, iv pl, iv 4, jv_ l0, s_, jv_ l1, s_, jv_ l2, s_, jv_ l3, s_, iv sq0, iv sq1, iv sq2, iv sq3, rv b16, rv b18, rv b21, rv b25, rv b30, rv b289, iv pl3, iv (((pl.toUInt32 >>> ((2 : Int32) &&& 31).toUInt32).toInt32) &&& (3 : Int32)), u_, u_, u_, u_, u_, u_] [] tg := fun tg kt => by rw [← hpl2]; exact kt
      obtain ⟨T304, L304, tgt_, X304, e304, N304, R304⟩ : ∃ (T' : State) (L' : List Loc) (tgt_ : Int64), Stand p l e room_1 s m #[(.int pn), (.int ps), (.int pg), (.int pi), (.int pl)] below meth c T' L' 10 48 ∧ T'.heap = T300.heap ∧ Fr n0 L' ∧ ∀ tg, Sx p e below T' m 279 #[iv pn, iv ps, iv pg, iv pi, iv pl, iv 4, jv_ l0, s_, jv_ l1, s_, jv_ l2, s_, jv_ l3, s_, iv sq0, iv sq1, iv sq2, iv sq3, rv b16, rv b18, rv b21, rv b25, rv b30, rv b289, iv pl3, iv pl2, u_, u_, u_, u_, u_, u_] [(.long tgt_)] tg → Sx p e below T300 m 245 #[iv pn, iv ps, iv pg, iv pi, iv pl, iv 4, jv_ l0, s_, jv_ l1, s_, jv_ l2, s_, jv_ l3, s_, iv sq0, iv sq1, iv sq2, iv sq3, rv b16, rv b18, rv b21, rv b25, rv b30, rv b289, iv pl3, iv pl2, u_, u_, u_, u_, u_, u_] [] tg := by
        have R305 : ∀ tg, Sx p e below T300 m 247 #[iv pn, iv ps, iv pg, iv pi, iv pl, iv 4, jv_ l0, s_, jv_ l1, s_, jv_ l2, s_, jv_ l3, s_, iv sq0, iv sq1, iv sq2, iv sq3, rv b16, rv b18, rv b21, rv b25, rv b30, rv b289, iv pl3, iv pl2, u_, u_, u_, u_, u_, u_] [(.int pl2)] tg → Sx p e below T300 m 245 #[iv pn, iv ps, iv pg, iv pi, iv pl, iv 4, jv_ l0, s_, jv_ l1, s_, jv_ l2, s_, jv_ l3, s_, iv sq0, iv sq1, iv sq2, iv sq3, rv b16, rv b18, rv b21, rv b25, rv b30, rv b289, iv pl3, iv pl2, u_, u_, u_, u_, u_, u_] [] tg := by
          intro tg kt
          refine XS.iload X300.here hx rfl (hb hby at_245) rfl ?_
          show Sx p e below T300 m 247 #[iv pn, iv ps, iv pg, iv pi, iv pl, iv 4, jv_ l0, s_, jv_ l1, s_, jv_ l2, s_, jv_ l3, s_, iv sq0, iv sq1, iv sq2, iv sq3, rv b16, rv b18, rv b21, rv b25, rv b30, rv b289, iv pl3, iv pl2, u_, u_, u_, u_, u_, u_] [(.int pl2)] _
          exact kt
        by_cases hc247_306 : pl2 = (0 : Int32)
        · have R307 : ∀ tg, Sx p e below T300 m 279 #[iv pn, iv ps, iv pg, iv pi, iv pl, iv 4, jv_ l0, s_, jv_ l1, s_, jv_ l2, s_, jv_ l3, s_, iv sq0, iv sq1, iv sq2, iv sq3, rv b16, rv b18, rv b21, rv b25, rv b30, rv b289, iv pl3, iv pl2, u_, u_, u_, u_, u_, u_] [(.long l0)] tg → Sx p e below T300 m 247 #[iv pn, iv ps, iv pg, iv pi, iv pl, iv 4, jv_ l0, s_, jv_ l1, s_, jv_ l2, s_, jv_ l3, s_, iv sq0, iv sq1, iv sq2, iv sq3, rv b16, rv b18, rv b21, rv b25, rv b30, rv b289, iv pl3, iv pl2, u_, u_, u_, u_, u_, u_] [(.int pl2)] tg := by
            intro tg kt
            refine XS.ifNo X300.here hx rfl (hb hby at_247) rfl ((if0 _ _).trans (teq hc247_306).2) ?_
            refine XS.lload X300.here hx rfl (hb hby at_250) rfl ?_
            refine XS.goto X300.here hx rfl (pc0 := 252) (pc' := 279) rfl (hb hby at_252) (by decide) (by decide) ?_
            show Sx p e below T300 m 279 #[iv pn, iv ps, iv pg, iv pi, iv pl, iv 4, jv_ l0, s_, jv_ l1, s_, jv_ l2, s_, jv_ l3, s_, iv sq0, iv sq1, iv sq2, iv sq3, rv b16, rv b18, rv b21, rv b25, rv b30, rv b289, iv pl3, iv pl2, u_, u_, u_, u_, u_, u_] [(.long l0)] _
            exact kt
          exact ⟨T300, _, l0, X300.more (by decide) (by decide), rfl, N300, fun _ kt => (R305 _ (R307 _ kt))⟩
        · have R308 : ∀ tg, Sx p e below T300 m 258 #[iv pn, iv ps, iv pg, iv pi, iv pl, iv 4, jv_ l0, s_, jv_ l1, s_, jv_ l2, s_, jv_ l3, s_, iv sq0, iv sq1, iv sq2, iv sq3, rv b16, rv b18, rv b21, rv b25, rv b30, rv b289, iv pl3, iv pl2, u_, u_, u_, u_, u_, u_] [(.int 1), (.int pl2)] tg → Sx p e below T300 m 247 #[iv pn, iv ps, iv pg, iv pi, iv pl, iv 4, jv_ l0, s_, jv_ l1, s_, jv_ l2, s_, jv_ l3, s_, iv sq0, iv sq1, iv sq2, iv sq3, rv b16, rv b18, rv b21, rv b25, rv b30, rv b289, iv pl3, iv pl2, u_, u_, u_, u_, u_, u_] [(.int pl2)] tg := by
            intro tg kt
            refine XS.ifYes X300.here hx rfl (pc0 := 247) (pc' := 255) rfl (hb hby at_247) rfl ((if0 _ _).trans (feq hc247_306).2) (by decide) (by decide) ?_
            refine XS.iload X300.here hx rfl (hb hby at_255) rfl ?_
            refine XS.iconst X300.here hx rfl (hb hby at_257) ?_
            show Sx p e below T300 m 258 #[iv pn, iv ps, iv pg, iv pi, iv pl, iv 4, jv_ l0, s_, jv_ l1, s_, jv_ l2, s_, jv_ l3, s_, iv sq0, iv sq1, iv sq2, iv sq3, rv b16, rv b18, rv b21, rv b25, rv b30, rv b289, iv pl3, iv pl2, u_, u_, u_, u_, u_, u_] [(.int 1), (.int pl2)] _
            exact kt
          by_cases hc258_309 : pl2 = (1 : Int32)
          · have R310 : ∀ tg, Sx p e below T300 m 279 #[iv pn, iv ps, iv pg, iv pi, iv pl, iv 4, jv_ l0, s_, jv_ l1, s_, jv_ l2, s_, jv_ l3, s_, iv sq0, iv sq1, iv sq2, iv sq3, rv b16, rv b18, rv b21, rv b25, rv b30, rv b289, iv pl3, iv pl2, u_, u_, u_, u_, u_, u_] [(.long l1)] tg → Sx p e below T300 m 258 #[iv pn, iv ps, iv pg, iv pi, iv pl, iv 4, jv_ l0, s_, jv_ l1, s_, jv_ l2, s_, jv_ l3, s_, iv sq0, iv sq1, iv sq2, iv sq3, rv b16, rv b18, rv b21, rv b25, rv b30, rv b289, iv pl3, iv pl2, u_, u_, u_, u_, u_, u_] [(.int 1), (.int pl2)] tg := by
              intro tg kt
              refine XS.icmpNo X300.here hx rfl (hb hby at_258) rfl (teq hc258_309).2 ?_
              refine XS.lload X300.here hx rfl (hb hby at_261) rfl ?_
              refine XS.goto X300.here hx rfl (pc0 := 263) (pc' := 279) rfl (hb hby at_263) (by decide) (by decide) ?_
              show Sx p e below T300 m 279 #[iv pn, iv ps, iv pg, iv pi, iv pl, iv 4, jv_ l0, s_, jv_ l1, s_, jv_ l2, s_, jv_ l3, s_, iv sq0, iv sq1, iv sq2, iv sq3, rv b16, rv b18, rv b21, rv b25, rv b30, rv b289, iv pl3, iv pl2, u_, u_, u_, u_, u_, u_] [(.long l1)] _
              exact kt
            exact ⟨T300, _, l1, X300.more (by decide) (by decide), rfl, N300, fun _ kt => (R305 _ (R308 _ (R310 _ kt)))⟩
          · have R311 : ∀ tg, Sx p e below T300 m 269 #[iv pn, iv ps, iv pg, iv pi, iv pl, iv 4, jv_ l0, s_, jv_ l1, s_, jv_ l2, s_, jv_ l3, s_, iv sq0, iv sq1, iv sq2, iv sq3, rv b16, rv b18, rv b21, rv b25, rv b30, rv b289, iv pl3, iv pl2, u_, u_, u_, u_, u_, u_] [(.int 2), (.int pl2)] tg → Sx p e below T300 m 258 #[iv pn, iv ps, iv pg, iv pi, iv pl, iv 4, jv_ l0, s_, jv_ l1, s_, jv_ l2, s_, jv_ l3, s_, iv sq0, iv sq1, iv sq2, iv sq3, rv b16, rv b18, rv b21, rv b25, rv b30, rv b289, iv pl3, iv pl2, u_, u_, u_, u_, u_, u_] [(.int 1), (.int pl2)] tg := by
              intro tg kt
              refine XS.icmpYes X300.here hx rfl (pc0 := 258) (pc' := 266) rfl (hb hby at_258) rfl (feq hc258_309).2 (by decide) (by decide) ?_
              refine XS.iload X300.here hx rfl (hb hby at_266) rfl ?_
              refine XS.iconst X300.here hx rfl (hb hby at_268) ?_
              show Sx p e below T300 m 269 #[iv pn, iv ps, iv pg, iv pi, iv pl, iv 4, jv_ l0, s_, jv_ l1, s_, jv_ l2, s_, jv_ l3, s_, iv sq0, iv sq1, iv sq2, iv sq3, rv b16, rv b18, rv b21, rv b25, rv b30, rv b289, iv pl3, iv pl2, u_, u_, u_, u_, u_, u_] [(.int 2), (.int pl2)] _
              exact kt
            by_cases hc269_312 : pl2 = (2 : Int32)
            · have R313 : ∀ tg, Sx p e below T300 m 279 #[iv pn, iv ps, iv pg, iv pi, iv pl, iv 4, jv_ l0, s_, jv_ l1, s_, jv_ l2, s_, jv_ l3, s_, iv sq0, iv sq1, iv sq2, iv sq3, rv b16, rv b18, rv b21, rv b25, rv b30, rv b289, iv pl3, iv pl2, u_, u_, u_, u_, u_, u_] [(.long l2)] tg → Sx p e below T300 m 269 #[iv pn, iv ps, iv pg, iv pi, iv pl, iv 4, jv_ l0, s_, jv_ l1, s_, jv_ l2, s_, jv_ l3, s_, iv sq0, iv sq1, iv sq2, iv sq3, rv b16, rv b18, rv b21, rv b25, rv b30, rv b289, iv pl3, iv pl2, u_, u_, u_, u_, u_, u_] [(.int 2), (.int pl2)] tg := by
                intro tg kt
                refine XS.icmpNo X300.here hx rfl (hb hby at_269) rfl (teq hc269_312).2 ?_
                refine XS.lload X300.here hx rfl (hb hby at_272) rfl ?_
                refine XS.goto X300.here hx rfl (pc0 := 274) (pc' := 279) rfl (hb hby at_274) (by decide) (by decide) ?_
                show Sx p e below T300 m 279 #[iv pn, iv ps, iv pg, iv pi, iv pl, iv 4, jv_ l0, s_, jv_ l1, s_, jv_ l2, s_, jv_ l3, s_, iv sq0, iv sq1, iv sq2, iv sq3, rv b16, rv b18, rv b21, rv b25, rv b30, rv b289, iv pl3, iv pl2, u_, u_, u_, u_, u_, u_] [(.long l2)] _
                exact kt
              exact ⟨T300, _, l2, X300.more (by decide) (by decide), rfl, N300, fun _ kt => (R305 _ (R308 _ (R311 _ (R313 _ kt))))⟩
            · have R314 : ∀ tg, Sx p e below T300 m 279 #[iv pn, iv ps, iv pg, iv pi, iv pl, iv 4, jv_ l0, s_, jv_ l1, s_, jv_ l2, s_, jv_ l3, s_, iv sq0, iv sq1, iv sq2, iv sq3, rv b16, rv b18, rv b21, rv b25, rv b30, rv b289, iv pl3, iv pl2, u_, u_, u_, u_, u_, u_] [(.long l3)] tg → Sx p e below T300 m 269 #[iv pn, iv ps, iv pg, iv pi, iv pl, iv 4, jv_ l0, s_, jv_ l1, s_, jv_ l2, s_, jv_ l3, s_, iv sq0, iv sq1, iv sq2, iv sq3, rv b16, rv b18, rv b21, rv b25, rv b30, rv b289, iv pl3, iv pl2, u_, u_, u_, u_, u_, u_] [(.int 2), (.int pl2)] tg := by
                intro tg kt
                refine XS.icmpYes X300.here hx rfl (pc0 := 269) (pc' := 277) rfl (hb hby at_269) rfl (feq hc269_312).2 (by decide) (by decide) ?_
                refine XS.lload X300.here hx rfl (hb hby at_277) rfl ?_
                show Sx p e below T300 m 279 #[iv pn, iv ps, iv pg, iv pi, iv pl, iv 4, jv_ l0, s_, jv_ l1, s_, jv_ l2, s_, jv_ l3, s_, iv sq0, iv sq1, iv sq2, iv sq3, rv b16, rv b18, rv b21, rv b25, rv b30, rv b289, iv pl3, iv pl2, u_, u_, u_, u_, u_, u_] [(.long l3)] _
                exact kt
              exact ⟨T300, _, l3, X300.more (by decide) (by decide), rfl, N300, fun _ kt => (R305 _ (R308 _ (R311 _ (R314 _ kt))))⟩
      have R315 : ∀ tg, Sx p e below T304 m 281 #[iv pn, iv ps, iv pg, iv pi, iv pl, iv 4, jv_ l0, s_, jv_ l1, s_, jv_ l2, s_, jv_ l3, s_, iv sq0, iv sq1, iv sq2, iv sq3, rv b16, rv b18, rv b21, rv b25, rv b30, rv b289, iv pl3, iv pl2, jv_ tgt_, s_, u_, u_, u_, u_] [] tg → Sx p e below T304 m 279 #[iv pn, iv ps, iv pg, iv pi, iv pl, iv 4, jv_ l0, s_, jv_ l1, s_, jv_ l2, s_, jv_ l3, s_, iv sq0, iv sq1, iv sq2, iv sq3, rv b16, rv b18, rv b21, rv b25, rv b30, rv b289, iv pl3, iv pl2, u_, u_, u_, u_, u_, u_] [(.long tgt_)] tg := by
        intro tg kt
        refine XS.lstore X304.here hx rfl (hb hby at_279) rfl (l' := #[iv pn, iv ps, iv pg, iv pi, iv pl, iv 4, jv_ l0, s_, jv_ l1, s_, jv_ l2, s_, jv_ l3, s_, iv sq0, iv sq1, iv sq2, iv sq3, rv b16, rv b18, rv b21, rv b25, rv b30, rv b289, iv pl3, iv pl2, jv_ tgt_, s_, u_, u_, u_, u_]) rfl ?_
        show Sx p e below T304 m 281 #[iv pn, iv ps, iv pg, iv pi, iv pl, iv 4, jv_ l0, s_, jv_ l1, s_, jv_ l2, s_, jv_ l3, s_, iv sq0, iv sq1, iv sq2, iv sq3, rv b16, rv b18, rv b21, rv b25, rv b30, rv b289, iv pl3, iv pl2, jv_ tgt_, s_, u_, u_, u_, u_] [] _
        exact kt
      obtain ⟨T316, L316, at_, X316, e316, N316, R316⟩ : ∃ (T' : State) (L' : List Loc) (at_ : Int64), Stand p l e room_1 s m #[(.int pn), (.int ps), (.int pg), (.int pi), (.int pl)] below meth c T' L' 10 48 ∧ T'.heap = T300.heap ∧ Fr n0 L' ∧ ∀ tg, Sx p e below T' m 299 #[iv pn, iv ps, iv pg, iv pi, iv pl, iv 4, jv_ l0, s_, jv_ l1, s_, jv_ l2, s_, jv_ l3, s_, iv sq0, iv sq1, iv sq2, iv sq3, rv b16, rv b18, rv b21, rv b25, rv b30, rv b289, iv pl3, iv pl2, jv_ tgt_, s_, u_, u_, u_, u_] [(.long at_)] tg → Sx p e below T304 m 281 #[iv pn, iv ps, iv pg, iv pi, iv pl, iv 4, jv_ l0, s_, jv_ l1, s_, jv_ l2, s_, jv_ l3, s_, iv sq0, iv sq1, iv sq2, iv sq3, rv b16, rv b18, rv b21, rv b25, rv b30, rv b289, iv pl3, iv pl2, jv_ tgt_, s_, u_, u_, u_, u_] [] tg := by
        have R317 : ∀ tg, Sx p e below T304 m 283 #[iv pn, iv ps, iv pg, iv pi, iv pl, iv 4, jv_ l0, s_, jv_ l1, s_, jv_ l2, s_, jv_ l3, s_, iv sq0, iv sq1, iv sq2, iv sq3, rv b16, rv b18, rv b21, rv b25, rv b30, rv b289, iv pl3, iv pl2, jv_ tgt_, s_, u_, u_, u_, u_] [(.int pl3)] tg → Sx p e below T304 m 281 #[iv pn, iv ps, iv pg, iv pi, iv pl, iv 4, jv_ l0, s_, jv_ l1, s_, jv_ l2, s_, jv_ l3, s_, iv sq0, iv sq1, iv sq2, iv sq3, rv b16, rv b18, rv b21, rv b25, rv b30, rv b289, iv pl3, iv pl2, jv_ tgt_, s_, u_, u_, u_, u_] [] tg := by
          intro tg kt
          refine XS.iload X304.here hx rfl (hb hby at_281) rfl ?_
          show Sx p e below T304 m 283 #[iv pn, iv ps, iv pg, iv pi, iv pl, iv 4, jv_ l0, s_, jv_ l1, s_, jv_ l2, s_, jv_ l3, s_, iv sq0, iv sq1, iv sq2, iv sq3, rv b16, rv b18, rv b21, rv b25, rv b30, rv b289, iv pl3, iv pl2, jv_ tgt_, s_, u_, u_, u_, u_] [(.int pl3)] _
          exact kt
        by_cases hc283_318 : pl3 = (0 : Int32)
        · have R319 : ∀ tg, Sx p e below T304 m 299 #[iv pn, iv ps, iv pg, iv pi, iv pl, iv 4, jv_ l0, s_, jv_ l1, s_, jv_ l2, s_, jv_ l3, s_, iv sq0, iv sq1, iv sq2, iv sq3, rv b16, rv b18, rv b21, rv b25, rv b30, rv b289, iv pl3, iv pl2, jv_ tgt_, s_, u_, u_, u_, u_] [(.long (pi.toInt64))] tg → Sx p e below T304 m 283 #[iv pn, iv ps, iv pg, iv pi, iv pl, iv 4, jv_ l0, s_, jv_ l1, s_, jv_ l2, s_, jv_ l3, s_, iv sq0, iv sq1, iv sq2, iv sq3, rv b16, rv b18, rv b21, rv b25, rv b30, rv b289, iv pl3, iv pl2, jv_ tgt_, s_, u_, u_, u_, u_] [(.int pl3)] tg := by
            intro tg kt
            refine XS.ifNo X304.here hx rfl (hb hby at_283) rfl ((if0 _ _).trans (teq hc283_318).2) ?_
            refine XS.iloadN X304.here hx rfl (hb hby at_286) rfl ?_
            refine XS.i2l X304.here hx rfl (hb hby at_287) rfl ?_
            refine XS.goto X304.here hx rfl (pc0 := 288) (pc' := 299) rfl (hb hby at_288) (by decide) (by decide) ?_
            show Sx p e below T304 m 299 #[iv pn, iv ps, iv pg, iv pi, iv pl, iv 4, jv_ l0, s_, jv_ l1, s_, jv_ l2, s_, jv_ l3, s_, iv sq0, iv sq1, iv sq2, iv sq3, rv b16, rv b18, rv b21, rv b25, rv b30, rv b289, iv pl3, iv pl2, jv_ tgt_, s_, u_, u_, u_, u_] [(.long (pi.toInt64))] _
            exact kt
          exact ⟨T304, _, (pi.toInt64), X304.more (by decide) (by decide), e304, N304, fun _ kt => (R317 _ (R319 _ kt))⟩
        · have R320 : ∀ tg, Sx p e below T304 m 299 #[iv pn, iv ps, iv pg, iv pi, iv pl, iv 4, jv_ l0, s_, jv_ l1, s_, jv_ l2, s_, jv_ l3, s_, iv sq0, iv sq1, iv sq2, iv sq3, rv b16, rv b18, rv b21, rv b25, rv b30, rv b289, iv pl3, iv pl2, jv_ tgt_, s_, u_, u_, u_, u_] [(.long (tgt_ + ((pl3 - (2 : Int32)).toInt64)))] tg → Sx p e below T304 m 283 #[iv pn, iv ps, iv pg, iv pi, iv pl, iv 4, jv_ l0, s_, jv_ l1, s_, jv_ l2, s_, jv_ l3, s_, iv sq0, iv sq1, iv sq2, iv sq3, rv b16, rv b18, rv b21, rv b25, rv b30, rv b289, iv pl3, iv pl2, jv_ tgt_, s_, u_, u_, u_, u_] [(.int pl3)] tg := by
            intro tg kt
            refine XS.ifYes X304.here hx rfl (pc0 := 283) (pc' := 291) rfl (hb hby at_283) rfl ((if0 _ _).trans (feq hc283_318).2) (by decide) (by decide) ?_
            refine XS.lload X304.here hx rfl (hb hby at_291) rfl ?_
            refine XS.iload X304.here hx rfl (hb hby at_293) rfl ?_
            refine XS.iconst X304.here hx rfl (hb hby at_295) ?_
            refine XS.isub X304.here hx rfl (hb hby at_296) rfl ?_
            show Sx p e below T304 m 297 #[iv pn, iv ps, iv pg, iv pi, iv pl, iv 4, jv_ l0, s_, jv_ l1, s_, jv_ l2, s_, jv_ l3, s_, iv sq0, iv sq1, iv sq2, iv sq3, rv b16, rv b18, rv b21, rv b25, rv b30, rv b289, iv pl3, iv pl2, jv_ tgt_, s_, u_, u_, u_, u_] [(.int (pl3 - (2 : Int32))), (.long tgt_)] _
            refine XS.i2l X304.here hx rfl (hb hby at_297) rfl ?_
            refine XS.ladd X304.here hx rfl (hb hby at_298) rfl ?_
            show Sx p e below T304 m 299 #[iv pn, iv ps, iv pg, iv pi, iv pl, iv 4, jv_ l0, s_, jv_ l1, s_, jv_ l2, s_, jv_ l3, s_, iv sq0, iv sq1, iv sq2, iv sq3, rv b16, rv b18, rv b21, rv b25, rv b30, rv b289, iv pl3, iv pl2, jv_ tgt_, s_, u_, u_, u_, u_] [(.long (tgt_ + ((pl3 - (2 : Int32)).toInt64)))] _
            exact kt
          exact ⟨T304, _, (tgt_ + ((pl3 - (2 : Int32)).toInt64)), X304.more (by decide) (by decide), e304, N304, fun _ kt => (R317 _ (R320 _ kt))⟩
      obtain ⟨_, _, ⟨T321, L321, k321, n321⟩, -, X321, ⟨Lc321, hQ321, l321, y321, z321⟩, st321⟩ := Jvm.LawKit.callS X316 hx (y := (⟨"java/lang/Math", "min", "(JJ)J"⟩ : MethodName)) hown (mvT hZ (w_ hw 91 rfl)) (mvT hZ (w_ hw 92 rfl)) (mvT hZ (w_ hw 93 rfl)) (mvT hZ (w_ hw 94 rfl)) (by decide) (backOf (W := 2) (rmMnJ l Z a0 hw [] (2147483647 : Int64) at_ T300.heap n0 Z300) hZ (w_ hw 94 rfl) (w_ hw 93 rfl) (by decide) (by decide)) (g := (mkF m 309 #[iv pn, iv ps, iv pg, iv pi, iv pl, iv 4, jv_ l0, s_, jv_ l1, s_, jv_ l2, s_, jv_ l3, s_, iv sq0, iv sq1, iv sq2, iv sq3, rv b16, rv b18, rv b21, rv b25, rv b30, rv b289, iv pl3, iv pl2, jv_ tgt_, s_, jv_ at_, s_, u_, u_] [(.long at_), (.long 2147483647), (.long (-2147483648))])) rfl (by rw [hml]; rfl) (argsL := [(.long 2147483647), (.long at_)]) (rest := [(.long (-2147483648))]) (lenOf pd_17 rfl) rfl (by show 2 * 0 + _ ≤ _; exact Nat.le_of_eq rfl) (hb hby at_309) (fun _ _ => ⟨rfl, e316, (by decide : 10 + 0 ≤ _), (by decide : 48 + 0 ≤ _)⟩)
      dsimp only [Pt.U, Pt.locs, Pt.cells, Pt.slots] at X321 l321 y321 z321 st321 hQ321
      subst l321 y321 z321
      obtain ⟨hv321, N321q, r321⟩ := hQ321
      subst hv321
      have N321 := Fr.app N316 N321q
      obtain ⟨_, _, ⟨T322, L322, k322, n322⟩, -, X322, ⟨Lc322, hQ322, l322, y322, z322⟩, st322⟩ := Jvm.LawKit.callS X321 hx (y := (⟨"java/lang/Math", "max", "(JJ)J"⟩ : MethodName)) hown (mvT hZ (w_ hw 95 rfl)) (mvT hZ (w_ hw 96 rfl)) (mvT hZ (w_ hw 93 rfl)) (mvT hZ (w_ hw 97 rfl)) (by decide) (backOf (W := 0) (rmMxJ l Z a0 hw [] (-2147483648 : Int64) (if (0 : Int32) < (lcmpW (2147483647 : Int64) at_) then at_ else (2147483647 : Int64)) T300.heap n0 Z300) hZ (w_ hw 97 rfl) (w_ hw 93 rfl) (by decide) (by decide)) (g := (mkF m 312 #[iv pn, iv ps, iv pg, iv pi, iv pl, iv 4, jv_ l0, s_, jv_ l1, s_, jv_ l2, s_, jv_ l3, s_, iv sq0, iv sq1, iv sq2, iv sq3, rv b16, rv b18, rv b21, rv b25, rv b30, rv b289, iv pl3, iv pl2, jv_ tgt_, s_, jv_ at_, s_, u_, u_] [(.long (if (0 : Int32) < (lcmpW (2147483647 : Int64) at_) then at_ else (2147483647 : Int64))), (.long (-2147483648))])) rfl (by rw [hml]; rfl) (argsL := [(.long (-2147483648)), (.long (if (0 : Int32) < (lcmpW (2147483647 : Int64) at_) then at_ else (2147483647 : Int64)))]) (rest := []) (lenOf pd_17 rfl) rfl (by show 2 * 0 + _ ≤ _; exact Nat.le_of_eq rfl) (hb hby at_312) (fun _ _ => ⟨rfl, r321, (by decide : 10 + 0 ≤ _), (by decide : 48 + 0 ≤ _)⟩)
      dsimp only [Pt.U, Pt.locs, Pt.cells, Pt.slots] at X322 l322 y322 z322 st322 hQ322
      subst l322 y322 z322
      obtain ⟨hv322, N322q, r322⟩ := hQ322
      subst hv322
      have N322 := Fr.app N321 N322q
      obtain ⟨clp, hclp⟩ : ∃ z, z = (if (lcmpW (-2147483648 : Int64) (if (0 : Int32) < (lcmpW (2147483647 : Int64) at_) then at_ else (2147483647 : Int64))) < (0 : Int32) then (if (0 : Int32) < (lcmpW (2147483647 : Int64) at_) then at_ else (2147483647 : Int64)) else (-2147483648 : Int64)) := ⟨_, rfl⟩
      have R323 : ∀ tg, Sx p e below T322 m 317 #[iv pn, iv ps, iv pg, iv pi, iv pl, iv 4, jv_ l0, s_, jv_ l1, s_, jv_ l2, s_, jv_ l3, s_, iv sq0, iv sq1, iv sq2, iv sq3, rv b16, rv b18, rv b21, rv b25, rv b30, rv b289, iv pl3, iv pl2, jv_ tgt_, s_, jv_ (if (lcmpW (-2147483648 : Int64) (if (0 : Int32) < (lcmpW (2147483647 : Int64) at_) then at_ else (2147483647 : Int64))) < (0 : Int32) then (if (0 : Int32) < (lcmpW (2147483647 : Int64) at_) then at_ else (2147483647 : Int64)) else (-2147483648 : Int64)), s_, u_, u_] [] tg → Sx p e below T316 m 299 #[iv pn, iv ps, iv pg, iv pi, iv pl, iv 4, jv_ l0, s_, jv_ l1, s_, jv_ l2, s_, jv_ l3, s_, iv sq0, iv sq1, iv sq2, iv sq3, rv b16, rv b18, rv b21, rv b25, rv b30, rv b289, iv pl3, iv pl2, jv_ tgt_, s_, u_, u_, u_, u_] [(.long at_)] tg := by
        intro tg kt
        refine XS.lstore X316.here hx rfl (hb hby at_299) rfl (l' := #[iv pn, iv ps, iv pg, iv pi, iv pl, iv 4, jv_ l0, s_, jv_ l1, s_, jv_ l2, s_, jv_ l3, s_, iv sq0, iv sq1, iv sq2, iv sq3, rv b16, rv b18, rv b21, rv b25, rv b30, rv b289, iv pl3, iv pl2, jv_ tgt_, s_, jv_ at_, s_, u_, u_]) rfl ?_
        refine X316.ldc2Long hx hown (mvT hZ (w_ hw 90 rfl)) (g := (mkF m 301 #[iv pn, iv ps, iv pg, iv pi, iv pl, iv 4, jv_ l0, s_, jv_ l1, s_, jv_ l2, s_, jv_ l3, s_, iv sq0, iv sq1, iv sq2, iv sq3, rv b16, rv b18, rv b21, rv b25, rv b30, rv b289, iv pl3, iv pl2, jv_ tgt_, s_, jv_ at_, s_, u_, u_] [])) rfl (hb hby at_301) _ ?_
        refine X316.ldc2Long hx hown (mvT hZ (w_ hw 1 rfl)) (g := (mkF m 304 #[iv pn, iv ps, iv pg, iv pi, iv pl, iv 4, jv_ l0, s_, jv_ l1, s_, jv_ l2, s_, jv_ l3, s_, iv sq0, iv sq1, iv sq2, iv sq3, rv b16, rv b18, rv b21, rv b25, rv b30, rv b289, iv pl3, iv pl2, jv_ tgt_, s_, jv_ at_, s_, u_, u_] [(.long (-2147483648))])) rfl (hb hby at_304) _ ?_
        refine XS.lload X316.here hx rfl (hb hby at_307) rfl ?_
        refine st321 _ ?_
        show Sx p e below T321 m 312 #[iv pn, iv ps, iv pg, iv pi, iv pl, iv 4, jv_ l0, s_, jv_ l1, s_, jv_ l2, s_, jv_ l3, s_, iv sq0, iv sq1, iv sq2, iv sq3, rv b16, rv b18, rv b21, rv b25, rv b30, rv b289, iv pl3, iv pl2, jv_ tgt_, s_, jv_ at_, s_, u_, u_] [(.long (if (0 : Int32) < (lcmpW (2147483647 : Int64) at_) then at_ else (2147483647 : Int64))), (.long (-2147483648))] _
        refine st322 _ ?_
        refine XS.lstore X322.here hx rfl (hb hby at_315) rfl (l' := #[iv pn, iv ps, iv pg, iv pi, iv pl, iv 4, jv_ l0, s_, jv_ l1, s_, jv_ l2, s_, jv_ l3, s_, iv sq0, iv sq1, iv sq2, iv sq3, rv b16, rv b18, rv b21, rv b25, rv b30, rv b289, iv pl3, iv pl2, jv_ tgt_, s_, jv_ (if (lcmpW (-2147483648 : Int64) (if (0 : Int32) < (lcmpW (2147483647 : Int64) at_) then at_ else (2147483647 : Int64))) < (0 : Int32) then (if (0 : Int32) < (lcmpW (2147483647 : Int64) at_) then at_ else (2147483647 : Int64)) else (-2147483648 : Int64)), s_, u_, u_]) rfl ?_
        show Sx p e below T322 m 317 #[iv pn, iv ps, iv pg, iv pi, iv pl, iv 4, jv_ l0, s_, jv_ l1, s_, jv_ l2, s_, jv_ l3, s_, iv sq0, iv sq1, iv sq2, iv sq3, rv b16, rv b18, rv b21, rv b25, rv b30, rv b289, iv pl3, iv pl2, jv_ tgt_, s_, jv_ (if (lcmpW (-2147483648 : Int64) (if (0 : Int32) < (lcmpW (2147483647 : Int64) at_) then at_ else (2147483647 : Int64))) < (0 : Int32) then (if (0 : Int32) < (lcmpW (2147483647 : Int64) at_) then at_ else (2147483647 : Int64)) else (-2147483648 : Int64)), s_, u_, u_] [] _
        exact kt
      have R324 : ∀ tg, Sx p e below T322 m 317 #[iv pn, iv ps, iv pg, iv pi, iv pl, iv 4, jv_ l0, s_, jv_ l1, s_, jv_ l2, s_, jv_ l3, s_, iv sq0, iv sq1, iv sq2, iv sq3, rv b16, rv b18, rv b21, rv b25, rv b30, rv b289, iv pl3, iv pl2, jv_ tgt_, s_, jv_ clp, s_, u_, u_] [] tg → Sx p e below T322 m 317 #[iv pn, iv ps, iv pg, iv pi, iv pl, iv 4, jv_ l0, s_, jv_ l1, s_, jv_ l2, s_, jv_ l3, s_, iv sq0, iv sq1, iv sq2, iv sq3, rv b16, rv b18, rv b21, rv b25, rv b30, rv b289, iv pl3, iv pl2, jv_ tgt_, s_, jv_ (if (lcmpW (-2147483648 : Int64) (if (0 : Int32) < (lcmpW (2147483647 : Int64) at_) then at_ else (2147483647 : Int64))) < (0 : Int32) then (if (0 : Int32) < (lcmpW (2147483647 : Int64) at_) then at_ else (2147483647 : Int64)) else (-2147483648 : Int64)), s_, u_, u_] [] tg := fun tg kt => by rw [← hclp]; exact kt
      obtain ⟨ix, hix⟩ : ∃ z, z = (clp.toInt32) := ⟨_, rfl⟩
      have R325 : ∀ tg, Sx p e below T322 m 322 #[iv pn, iv ps, iv pg, iv pi, iv pl, iv 4, jv_ l0, s_, jv_ l1, s_, jv_ l2, s_, jv_ l3, s_, iv sq0, iv sq1, iv sq2, iv sq3, rv b16, rv b18, rv b21, rv b25, rv b30, rv b289, iv pl3, iv pl2, jv_ tgt_, s_, jv_ clp, s_, iv (clp.toInt32), u_] [] tg → Sx p e below T322 m 317 #[iv pn, iv ps, iv pg, iv pi, iv pl, iv 4, jv_ l0, s_, jv_ l1, s_, jv_ l2, s_, jv_ l3, s_, iv sq0, iv sq1, iv sq2, iv sq3, rv b16, rv b18, rv b21, rv b25, rv b30, rv b289, iv pl3, iv pl2, jv_ tgt_, s_, jv_ clp, s_, u_, u_] [] tg := by
        intro tg kt
        refine XS.lload X322.here hx rfl (hb hby at_317) rfl ?_
        refine XS.l2i X322.here hx rfl (hb hby at_319) rfl ?_
        refine XS.istore X322.here hx rfl (hb hby at_320) rfl (l' := #[iv pn, iv ps, iv pg, iv pi, iv pl, iv 4, jv_ l0, s_, jv_ l1, s_, jv_ l2, s_, jv_ l3, s_, iv sq0, iv sq1, iv sq2, iv sq3, rv b16, rv b18, rv b21, rv b25, rv b30, rv b289, iv pl3, iv pl2, jv_ tgt_, s_, jv_ clp, s_, iv (clp.toInt32), u_]) rfl ?_
        show Sx p e below T322 m 322 #[iv pn, iv ps, iv pg, iv pi, iv pl, iv 4, jv_ l0, s_, jv_ l1, s_, jv_ l2, s_, jv_ l3, s_, iv sq0, iv sq1, iv sq2, iv sq3, rv b16, rv b18, rv b21, rv b25, rv b30, rv b289, iv pl3, iv pl2, jv_ tgt_, s_, jv_ clp, s_, iv (clp.toInt32), u_] [] _
        exact kt
      have R326 : ∀ tg, Sx p e below T322 m 322 #[iv pn, iv ps, iv pg, iv pi, iv pl, iv 4, jv_ l0, s_, jv_ l1, s_, jv_ l2, s_, jv_ l3, s_, iv sq0, iv sq1, iv sq2, iv sq3, rv b16, rv b18, rv b21, rv b25, rv b30, rv b289, iv pl3, iv pl2, jv_ tgt_, s_, jv_ clp, s_, iv ix, u_] [] tg → Sx p e below T322 m 322 #[iv pn, iv ps, iv pg, iv pi, iv pl, iv 4, jv_ l0, s_, jv_ l1, s_, jv_ l2, s_, jv_ l3, s_, iv sq0, iv sq1, iv sq2, iv sq3, rv b16, rv b18, rv b21, rv b25, rv b30, rv b289, iv pl3, iv pl2, jv_ tgt_, s_, jv_ clp, s_, iv (clp.toInt32), u_] [] tg := fun tg kt => by rw [← hix]; exact kt
      have R327 : ∀ tg, Sx p e below T322 m 325 #[iv pn, iv ps, iv pg, iv pi, iv pl, iv 4, jv_ l0, s_, jv_ l1, s_, jv_ l2, s_, jv_ l3, s_, iv sq0, iv sq1, iv sq2, iv sq3, rv b16, rv b18, rv b21, rv b25, rv b30, rv b289, iv pl3, iv pl2, jv_ tgt_, s_, jv_ clp, s_, iv ix, n_] [] tg → Sx p e below T322 m 322 #[iv pn, iv ps, iv pg, iv pi, iv pl, iv 4, jv_ l0, s_, jv_ l1, s_, jv_ l2, s_, jv_ l3, s_, iv sq0, iv sq1, iv sq2, iv sq3, rv b16, rv b18, rv b21, rv b25, rv b30, rv b289, iv pl3, iv pl2, jv_ tgt_, s_, jv_ clp, s_, iv ix, u_] [] tg := by
        intro tg kt
        refine XS.aconstNull X322.here hx rfl (hb hby at_322) ?_
        refine XS.astore X322.here hx rfl (hb hby at_323) rfl rfl (l' := #[iv pn, iv ps, iv pg, iv pi, iv pl, iv 4, jv_ l0, s_, jv_ l1, s_, jv_ l2, s_, jv_ l3, s_, iv sq0, iv sq1, iv sq2, iv sq3, rv b16, rv b18, rv b21, rv b25, rv b30, rv b289, iv pl3, iv pl2, jv_ tgt_, s_, jv_ clp, s_, iv ix, n_]) rfl ?_
        show Sx p e below T322 m 325 #[iv pn, iv ps, iv pg, iv pi, iv pl, iv 4, jv_ l0, s_, jv_ l1, s_, jv_ l2, s_, jv_ l3, s_, iv sq0, iv sq1, iv sq2, iv sq3, rv b16, rv b18, rv b21, rv b25, rv b30, rv b289, iv pl3, iv pl2, jv_ tgt_, s_, jv_ clp, s_, iv ix, n_] [] _
        exact kt
      obtain ⟨T328, L328, ex0_, X328, e328, N328, pj328_0, R328⟩ : ∃ (T' : State) (L' : List Loc) (ex0_ : Value), Stand p l e room_1 s m #[(.int pn), (.int ps), (.int pg), (.int pi), (.int pl)] below meth c T' L' 10 48 ∧ T'.heap = T300.heap ∧ Fr n0 L' ∧ (ex0_ = (if ix < sq0 then .null else .ref b16)) ∧ ∀ tg, Sx p e below T' m 341 #[iv pn, iv ps, iv pg, iv pi, iv pl, iv 4, jv_ l0, s_, jv_ l1, s_, jv_ l2, s_, jv_ l3, s_, iv sq0, iv sq1, iv sq2, iv sq3, rv b16, rv b18, rv b21, rv b25, rv b30, rv b289, iv pl3, iv pl2, jv_ tgt_, s_, jv_ clp, s_, iv ix, .val ex0_] [] tg → Sx p e below T322 m 325 #[iv pn, iv ps, iv pg, iv pi, iv pl, iv 4, jv_ l0, s_, jv_ l1, s_, jv_ l2, s_, jv_ l3, s_, iv sq0, iv sq1, iv sq2, iv sq3, rv b16, rv b18, rv b21, rv b25, rv b30, rv b289, iv pl3, iv pl2, jv_ tgt_, s_, jv_ clp, s_, iv ix, n_] [] tg := by
        have R329 : ∀ tg, Sx p e below T322 m 334 #[iv pn, iv ps, iv pg, iv pi, iv pl, iv 4, jv_ l0, s_, jv_ l1, s_, jv_ l2, s_, jv_ l3, s_, iv sq0, iv sq1, iv sq2, iv sq3, rv b16, rv b18, rv b21, rv b25, rv b30, rv b289, iv pl3, iv pl2, jv_ tgt_, s_, jv_ clp, s_, iv ix, n_] [(.int sq0), (.int ix)] tg → Sx p e below T322 m 325 #[iv pn, iv ps, iv pg, iv pi, iv pl, iv 4, jv_ l0, s_, jv_ l1, s_, jv_ l2, s_, jv_ l3, s_, iv sq0, iv sq1, iv sq2, iv sq3, rv b16, rv b18, rv b21, rv b25, rv b30, rv b289, iv pl3, iv pl2, jv_ tgt_, s_, jv_ clp, s_, iv ix, n_] [] tg := by
          intro tg kt
          refine XS.iload X322.here hx rfl (hb hby at_325) rfl ?_
          refine XS.ifNo X322.here hx rfl (hb hby at_327) rfl ((if0 _ _).trans (tlt (by decide : (0 : Int32) < (4 : Int32))).2.2.2) ?_
          refine XS.iload X322.here hx rfl (hb hby at_330) rfl ?_
          refine XS.iload X322.here hx rfl (hb hby at_332) rfl ?_
          show Sx p e below T322 m 334 #[iv pn, iv ps, iv pg, iv pi, iv pl, iv 4, jv_ l0, s_, jv_ l1, s_, jv_ l2, s_, jv_ l3, s_, iv sq0, iv sq1, iv sq2, iv sq3, rv b16, rv b18, rv b21, rv b25, rv b30, rv b289, iv pl3, iv pl2, jv_ tgt_, s_, jv_ clp, s_, iv ix, n_] [(.int sq0), (.int ix)] _
          exact kt
        by_cases hc334_330 : ix < sq0
        · have R331 : ∀ tg, Sx p e below T322 m 341 #[iv pn, iv ps, iv pg, iv pi, iv pl, iv 4, jv_ l0, s_, jv_ l1, s_, jv_ l2, s_, jv_ l3, s_, iv sq0, iv sq1, iv sq2, iv sq3, rv b16, rv b18, rv b21, rv b25, rv b30, rv b289, iv pl3, iv pl2, jv_ tgt_, s_, jv_ clp, s_, iv ix, n_] [] tg → Sx p e below T322 m 334 #[iv pn, iv ps, iv pg, iv pi, iv pl, iv 4, jv_ l0, s_, jv_ l1, s_, jv_ l2, s_, jv_ l3, s_, iv sq0, iv sq1, iv sq2, iv sq3, rv b16, rv b18, rv b21, rv b25, rv b30, rv b289, iv pl3, iv pl2, jv_ tgt_, s_, jv_ clp, s_, iv ix, n_] [(.int sq0), (.int ix)] tg := by
            intro tg kt
            refine XS.icmpYes X322.here hx rfl (pc0 := 334) (pc' := 341) rfl (hb hby at_334) rfl (tlt hc334_330).1 (by decide) (by decide) ?_
            show Sx p e below T322 m 341 #[iv pn, iv ps, iv pg, iv pi, iv pl, iv 4, jv_ l0, s_, jv_ l1, s_, jv_ l2, s_, jv_ l3, s_, iv sq0, iv sq1, iv sq2, iv sq3, rv b16, rv b18, rv b21, rv b25, rv b30, rv b289, iv pl3, iv pl2, jv_ tgt_, s_, jv_ clp, s_, iv ix, n_] [] _
            exact kt
          exact ⟨T322, _, .null, X322.more (by decide) (by decide), r322, N322, (if_pos hc334_330).symm, fun _ kt => (R329 _ (R331 _ kt))⟩
        · have R332 : ∀ tg, Sx p e below T322 m 341 #[iv pn, iv ps, iv pg, iv pi, iv pl, iv 4, jv_ l0, s_, jv_ l1, s_, jv_ l2, s_, jv_ l3, s_, iv sq0, iv sq1, iv sq2, iv sq3, rv b16, rv b18, rv b21, rv b25, rv b30, rv b289, iv pl3, iv pl2, jv_ tgt_, s_, jv_ clp, s_, iv ix, rv b16] [] tg → Sx p e below T322 m 334 #[iv pn, iv ps, iv pg, iv pi, iv pl, iv 4, jv_ l0, s_, jv_ l1, s_, jv_ l2, s_, jv_ l3, s_, iv sq0, iv sq1, iv sq2, iv sq3, rv b16, rv b18, rv b21, rv b25, rv b30, rv b289, iv pl3, iv pl2, jv_ tgt_, s_, jv_ clp, s_, iv ix, n_] [(.int sq0), (.int ix)] tg := by
            intro tg kt
            refine XS.icmpNo X322.here hx rfl (hb hby at_334) rfl (flt hc334_330).1 ?_
            refine XS.aload X322.here hx rfl (hb hby at_337) rfl rfl ?_
            refine XS.astore X322.here hx rfl (hb hby at_339) rfl rfl (l' := #[iv pn, iv ps, iv pg, iv pi, iv pl, iv 4, jv_ l0, s_, jv_ l1, s_, jv_ l2, s_, jv_ l3, s_, iv sq0, iv sq1, iv sq2, iv sq3, rv b16, rv b18, rv b21, rv b25, rv b30, rv b289, iv pl3, iv pl2, jv_ tgt_, s_, jv_ clp, s_, iv ix, rv b16]) rfl ?_
            show Sx p e below T322 m 341 #[iv pn, iv ps, iv pg, iv pi, iv pl, iv 4, jv_ l0, s_, jv_ l1, s_, jv_ l2, s_, jv_ l3, s_, iv sq0, iv sq1, iv sq2, iv sq3, rv b16, rv b18, rv b21, rv b25, rv b30, rv b289, iv pl3, iv pl2, jv_ tgt_, s_, jv_ clp, s_, iv ix, rv b16] [] _
            exact kt
          exact ⟨T322, _, (.ref b16), X322.more (by decide) (by decide), r322, N322, (if_neg hc334_330).symm, fun _ kt => (R329 _ (R332 _ kt))⟩
      have ir0 : ((if ix < sq0 then .null else .ref b16) : Value).isRef = true := by
        by_cases h : ix < sq0
        · rw [if_pos h]; rfl
        · rw [if_neg h]; rfl
      have R333 : ∀ tg, Sx p e below T328 m 341 #[iv pn, iv ps, iv pg, iv pi, iv pl, iv 4, jv_ l0, s_, jv_ l1, s_, jv_ l2, s_, jv_ l3, s_, iv sq0, iv sq1, iv sq2, iv sq3, rv b16, rv b18, rv b21, rv b25, rv b30, rv b289, iv pl3, iv pl2, jv_ tgt_, s_, jv_ clp, s_, iv ix, .val (if ix < sq0 then .null else .ref b16)] [] tg → Sx p e below T328 m 341 #[iv pn, iv ps, iv pg, iv pi, iv pl, iv 4, jv_ l0, s_, jv_ l1, s_, jv_ l2, s_, jv_ l3, s_, iv sq0, iv sq1, iv sq2, iv sq3, rv b16, rv b18, rv b21, rv b25, rv b30, rv b289, iv pl3, iv pl2, jv_ tgt_, s_, jv_ clp, s_, iv ix, .val ex0_] [] tg := fun tg kt => by rw [pj328_0]; exact kt
      obtain ⟨T334, L334, ex1_, X334, e334, N334, pj334_0, R334⟩ : ∃ (T' : State) (L' : List Loc) (ex1_ : Value), Stand p l e room_1 s m #[(.int pn), (.int ps), (.int pg), (.int pi), (.int pl)] below meth c T' L' 10 48 ∧ T'.heap = T300.heap ∧ Fr n0 L' ∧ (ex1_ = (if ix < sq1 then (if ix < sq0 then .null else .ref b16) else .ref b18)) ∧ ∀ tg, Sx p e below T' m 358 #[iv pn, iv ps, iv pg, iv pi, iv pl, iv 4, jv_ l0, s_, jv_ l1, s_, jv_ l2, s_, jv_ l3, s_, iv sq0, iv sq1, iv sq2, iv sq3, rv b16, rv b18, rv b21, rv b25, rv b30, rv b289, iv pl3, iv pl2, jv_ tgt_, s_, jv_ clp, s_, iv ix, .val ex1_] [] tg → Sx p e below T328 m 341 #[iv pn, iv ps, iv pg, iv pi, iv pl, iv 4, jv_ l0, s_, jv_ l1, s_, jv_ l2, s_, jv_ l3, s_, iv sq0, iv sq1, iv sq2, iv sq3, rv b16, rv b18, rv b21, rv b25, rv b30, rv b289, iv pl3, iv pl2, jv_ tgt_, s_, jv_ clp, s_, iv ix, .val (if ix < sq0 then .null else .ref b16)] [] tg := by
        have R335 : ∀ tg, Sx p e below T328 m 351 #[iv pn, iv ps, iv pg, iv pi, iv pl, iv 4, jv_ l0, s_, jv_ l1, s_, jv_ l2, s_, jv_ l3, s_, iv sq0, iv sq1, iv sq2, iv sq3, rv b16, rv b18, rv b21, rv b25, rv b30, rv b289, iv pl3, iv pl2, jv_ tgt_, s_, jv_ clp, s_, iv ix, .val (if ix < sq0 then .null else .ref b16)] [(.int sq1), (.int ix)] tg → Sx p e below T328 m 341 #[iv pn, iv ps, iv pg, iv pi, iv pl, iv 4, jv_ l0, s_, jv_ l1, s_, jv_ l2, s_, jv_ l3, s_, iv sq0, iv sq1, iv sq2, iv sq3, rv b16, rv b18, rv b21, rv b25, rv b30, rv b289, iv pl3, iv pl2, jv_ tgt_, s_, jv_ clp, s_, iv ix, .val (if ix < sq0 then .null else .ref b16)] [] tg := by
          intro tg kt
          refine XS.iload X328.here hx rfl (hb hby at_341) rfl ?_
          refine XS.iconst X328.here hx rfl (hb hby at_343) ?_
          refine XS.icmpNo X328.here hx rfl (hb hby at_344) rfl (tlt (by decide : (1 : Int32) < (4 : Int32))).2.2.2 ?_
          refine XS.iload X328.here hx rfl (hb hby at_347) rfl ?_
          refine XS.iload X328.here hx rfl (hb hby at_349) rfl ?_
          show Sx p e below T328 m 351 #[iv pn, iv ps, iv pg, iv pi, iv pl, iv 4, jv_ l0, s_, jv_ l1, s_, jv_ l2, s_, jv_ l3, s_, iv sq0, iv sq1, iv sq2, iv sq3, rv b16, rv b18, rv b21, rv b25, rv b30, rv b289, iv pl3, iv pl2, jv_ tgt_, s_, jv_ clp, s_, iv ix, .val (if ix < sq0 then .null else .ref b16)] [(.int sq1), (.int ix)] _
          exact kt
        by_cases hc351_336 : ix < sq1
        · have R337 : ∀ tg, Sx p e below T328 m 358 #[iv pn, iv ps, iv pg, iv pi, iv pl, iv 4, jv_ l0, s_, jv_ l1, s_, jv_ l2, s_, jv_ l3, s_, iv sq0, iv sq1, iv sq2, iv sq3, rv b16, rv b18, rv b21, rv b25, rv b30, rv b289, iv pl3, iv pl2, jv_ tgt_, s_, jv_ clp, s_, iv ix, .val (if ix < sq0 then .null else .ref b16)] [] tg → Sx p e below T328 m 351 #[iv pn, iv ps, iv pg, iv pi, iv pl, iv 4, jv_ l0, s_, jv_ l1, s_, jv_ l2, s_, jv_ l3, s_, iv sq0, iv sq1, iv sq2, iv sq3, rv b16, rv b18, rv b21, rv b25, rv b30, rv b289, iv pl3, iv pl2, jv_ tgt_, s_, jv_ clp, s_, iv ix, .val (if ix < sq0 then .null else .ref b16)] [(.int sq1), (.int ix)] tg := by
            intro tg kt
            refine XS.icmpYes X328.here hx rfl (pc0 := 351) (pc' := 358) rfl (hb hby at_351) rfl (tlt hc351_336).1 (by decide) (by decide) ?_
            show Sx p e below T328 m 358 #[iv pn, iv ps, iv pg, iv pi, iv pl, iv 4, jv_ l0, s_, jv_ l1, s_, jv_ l2, s_, jv_ l3, s_, iv sq0, iv sq1, iv sq2, iv sq3, rv b16, rv b18, rv b21, rv b25, rv b30, rv b289, iv pl3, iv pl2, jv_ tgt_, s_, jv_ clp, s_, iv ix, .val (if ix < sq0 then .null else .ref b16)] [] _
            exact kt
          exact ⟨T328, _, (if ix < sq0 then .null else .ref b16), X328.more (by decide) (by decide), e328, N328, (if_pos hc351_336).symm, fun _ kt => (R335 _ (R337 _ kt))⟩
        · have R338 : ∀ tg, Sx p e below T328 m 358 #[iv pn, iv ps, iv pg, iv pi, iv pl, iv 4, jv_ l0, s_, jv_ l1, s_, jv_ l2, s_, jv_ l3, s_, iv sq0, iv sq1, iv sq2, iv sq3, rv b16, rv b18, rv b21, rv b25, rv b30, rv b289, iv pl3, iv pl2, jv_ tgt_, s_, jv_ clp, s_, iv ix, rv b18] [] tg → Sx p e below T328 m 351 #[iv pn, iv ps, iv pg, iv pi, iv pl, iv 4, jv_ l0, s_, jv_ l1, s_, jv_ l2, s_, jv_ l3, s_, iv sq0, iv sq1, iv sq2, iv sq3, rv b16, rv b18, rv b21, rv b25, rv b30, rv b289, iv pl3, iv pl2, jv_ tgt_, s_, jv_ clp, s_, iv ix, .val (if ix < sq0 then .null else .ref b16)] [(.int sq1), (.int ix)] tg := by
            intro tg kt
            refine XS.icmpNo X328.here hx rfl (hb hby at_351) rfl (flt hc351_336).1 ?_
            refine XS.aload X328.here hx rfl (hb hby at_354) rfl rfl ?_
            refine XS.astore X328.here hx rfl (hb hby at_356) rfl rfl (l' := #[iv pn, iv ps, iv pg, iv pi, iv pl, iv 4, jv_ l0, s_, jv_ l1, s_, jv_ l2, s_, jv_ l3, s_, iv sq0, iv sq1, iv sq2, iv sq3, rv b16, rv b18, rv b21, rv b25, rv b30, rv b289, iv pl3, iv pl2, jv_ tgt_, s_, jv_ clp, s_, iv ix, rv b18]) (XS.store1 rfl (Or.inr ⟨_, rfl, Jvm.Free.XT.cat1 ir0⟩) rfl) ?_
            show Sx p e below T328 m 358 #[iv pn, iv ps, iv pg, iv pi, iv pl, iv 4, jv_ l0, s_, jv_ l1, s_, jv_ l2, s_, jv_ l3, s_, iv sq0, iv sq1, iv sq2, iv sq3, rv b16, rv b18, rv b21, rv b25, rv b30, rv b289, iv pl3, iv pl2, jv_ tgt_, s_, jv_ clp, s_, iv ix, rv b18] [] _
            exact kt
          exact ⟨T328, _, (.ref b18), X328.more (by decide) (by decide), e328, N328, (if_neg hc351_336).symm, fun _ kt => (R335 _ (R338 _ kt))⟩
      have ir1 : ((if ix < sq1 then (if ix < sq0 then .null else .ref b16) else .ref b18) : Value).isRef = true := by
        by_cases h : ix < sq1
        · rw [if_pos h]; exact ir0
        · rw [if_neg h]; rfl
      have R339 : ∀ tg, Sx p e below T334 m 358 #[iv pn, iv ps, iv pg, iv pi, iv pl, iv 4, jv_ l0, s_, jv_ l1, s_, jv_ l2, s_, jv_ l3, s_, iv sq0, iv sq1, iv sq2, iv sq3, rv b16, rv b18, rv b21, rv b25, rv b30, rv b289, iv pl3, iv pl2, jv_ tgt_, s_, jv_ clp, s_, iv ix, .val (if ix < sq1 then (if ix < sq0 then .null else .ref b16) else .ref b18)] [] tg → Sx p e below T334 m 358 #[iv pn, iv ps, iv pg, iv pi, iv pl, iv 4, jv_ l0, s_, jv_ l1, s_, jv_ l2, s_, jv_ l3, s_, iv sq0, iv sq1, iv sq2, iv sq3, rv b16, rv b18, rv b21, rv b25, rv b30, rv b289, iv pl3, iv pl2, jv_ tgt_, s_, jv_ clp, s_, iv ix, .val ex1_] [] tg := fun tg kt => by rw [pj334_0]; exact kt
      obtain ⟨T340, L340, ex2_, X340, e340, N340, pj340_0, R340⟩ : ∃ (T' : State) (L' : List Loc) (ex2_ : Value), Stand p l e room_1 s m #[(.int pn), (.int ps), (.int pg), (.int pi), (.int pl)] below meth c T' L' 10 48 ∧ T'.heap = T300.heap ∧ Fr n0 L' ∧ (ex2_ = (if ix < sq2 then (if ix < sq1 then (if ix < sq0 then .null else .ref b16) else .ref b18) else .ref b21)) ∧ ∀ tg, Sx p e below T' m 375 #[iv pn, iv ps, iv pg, iv pi, iv pl, iv 4, jv_ l0, s_, jv_ l1, s_, jv_ l2, s_, jv_ l3, s_, iv sq0, iv sq1, iv sq2, iv sq3, rv b16, rv b18, rv b21, rv b25, rv b30, rv b289, iv pl3, iv pl2, jv_ tgt_, s_, jv_ clp, s_, iv ix, .val ex2_] [] tg → Sx p e below T334 m 358 #[iv pn, iv ps, iv pg, iv pi, iv pl, iv 4, jv_ l0, s_, jv_ l1, s_, jv_ l2, s_, jv_ l3, s_, iv sq0, iv sq1, iv sq2, iv sq3, rv b16, rv b18, rv b21, rv b25, rv b30, rv b289, iv pl3, iv pl2, jv_ tgt_, s_, jv_ clp, s_, iv ix, .val (if ix < sq1 then (if ix < sq0 then .null else .ref b16) else .ref b18)] [] tg := by
        have R341 : ∀ tg, Sx p e below T334 m 368 #[iv pn, iv ps, iv pg, iv pi, iv pl, iv 4, jv_ l0, s_, jv_ l1, s_, jv_ l2, s_, jv_ l3, s_, iv sq0, iv sq1, iv sq2, iv sq3, rv b16, rv b18, rv b21, rv b25, rv b30, rv b289, iv pl3, iv pl2, jv_ tgt_, s_, jv_ clp, s_, iv ix, .val (if ix < sq1 then (if ix < sq0 then .null else .ref b16) else .ref b18)] [(.int sq2), (.int ix)] tg → Sx p e below T334 m 358 #[iv pn, iv ps, iv pg, iv pi, iv pl, iv 4, jv_ l0, s_, jv_ l1, s_, jv_ l2, s_, jv_ l3, s_, iv sq0, iv sq1, iv sq2, iv sq3, rv b16, rv b18, rv b21, rv b25, rv b30, rv b289, iv pl3, iv pl2, jv_ tgt_, s_, jv_ clp, s_, iv ix, .val (if ix < sq1 then (if ix < sq0 then .null else .ref b16) else .ref b18)] [] tg := by
          intro tg kt
          refine XS.iload X334.here hx rfl (hb hby at_358) rfl ?_
          refine XS.iconst X334.here hx rfl (hb hby at_360) ?_
          refine XS.icmpNo X334.here hx rfl (hb hby at_361) rfl (tlt (by decide : (2 : Int32) < (4 : Int32))).2.2.2 ?_
          refine XS.iload X334.here hx rfl (hb hby at_364) rfl ?_
          refine XS.iload X334.here hx rfl (hb hby at_366) rfl ?_
          show Sx p e below T334 m 368 #[iv pn, iv ps, iv pg, iv pi, iv pl, iv 4, jv_ l0, s_, jv_ l1, s_, jv_ l2, s_, jv_ l3, s_, iv sq0, iv sq1, iv sq2, iv sq3, rv b16, rv b18, rv b21, rv b25, rv b30, rv b289, iv pl3, iv pl2, jv_ tgt_, s_, jv_ clp, s_, iv ix, .val (if ix < sq1 then (if ix < sq0 then .null else .ref b16) else .ref b18)] [(.int sq2), (.int ix)] _
          exact kt
        by_cases hc368_342 : ix < sq2
        · have R343 : ∀ tg, Sx p e below T334 m 375 #[iv pn, iv ps, iv pg, iv pi, iv pl, iv 4, jv_ l0, s_, jv_ l1, s_, jv_ l2, s_, jv_ l3, s_, iv sq0, iv sq1, iv sq2, iv sq3, rv b16, rv b18, rv b21, rv b25, rv b30, rv b289, iv pl3, iv pl2, jv_ tgt_, s_, jv_ clp, s_, iv ix, .val (if ix < sq1 then (if ix < sq0 then .null else .ref b16) else .ref b18)] [] tg → Sx p e below T334 m 368 #[iv pn, iv ps, iv pg, iv pi, iv pl, iv 4, jv_ l0, s_, jv_ l1, s_, jv_ l2, s_, jv_ l3, s_, iv sq0, iv sq1, iv sq2, iv sq3, rv b16, rv b18, rv b21, rv b25, rv b30, rv b289, iv pl3, iv pl2, jv_ tgt_, s_, jv_ clp, s_, iv ix, .val (if ix < sq1 then (if ix < sq0 then .null else .ref b16) else .ref b18)] [(.int sq2), (.int ix)] tg := by
            intro tg kt
            refine XS.icmpYes X334.here hx rfl (pc0 := 368) (pc' := 375) rfl (hb hby at_368) rfl (tlt hc368_342).1 (by decide) (by decide) ?_
            show Sx p e below T334 m 375 #[iv pn, iv ps, iv pg, iv pi, iv pl, iv 4, jv_ l0, s_, jv_ l1, s_, jv_ l2, s_, jv_ l3, s_, iv sq0, iv sq1, iv sq2, iv sq3, rv b16, rv b18, rv b21, rv b25, rv b30, rv b289, iv pl3, iv pl2, jv_ tgt_, s_, jv_ clp, s_, iv ix, .val (if ix < sq1 then (if ix < sq0 then .null else .ref b16) else .ref b18)] [] _
            exact kt
          exact ⟨T334, _, (if ix < sq1 then (if ix < sq0 then .null else .ref b16) else .ref b18), X334.more (by decide) (by decide), e334, N334, (if_pos hc368_342).symm, fun _ kt => (R341 _ (R343 _ kt))⟩
        · have R344 : ∀ tg, Sx p e below T334 m 375 #[iv pn, iv ps, iv pg, iv pi, iv pl, iv 4, jv_ l0, s_, jv_ l1, s_, jv_ l2, s_, jv_ l3, s_, iv sq0, iv sq1, iv sq2, iv sq3, rv b16, rv b18, rv b21, rv b25, rv b30, rv b289, iv pl3, iv pl2, jv_ tgt_, s_, jv_ clp, s_, iv ix, rv b21] [] tg → Sx p e below T334 m 368 #[iv pn, iv ps, iv pg, iv pi, iv pl, iv 4, jv_ l0, s_, jv_ l1, s_, jv_ l2, s_, jv_ l3, s_, iv sq0, iv sq1, iv sq2, iv sq3, rv b16, rv b18, rv b21, rv b25, rv b30, rv b289, iv pl3, iv pl2, jv_ tgt_, s_, jv_ clp, s_, iv ix, .val (if ix < sq1 then (if ix < sq0 then .null else .ref b16) else .ref b18)] [(.int sq2), (.int ix)] tg := by
            intro tg kt
            refine XS.icmpNo X334.here hx rfl (hb hby at_368) rfl (flt hc368_342).1 ?_
            refine XS.aload X334.here hx rfl (hb hby at_371) rfl rfl ?_
            refine XS.astore X334.here hx rfl (hb hby at_373) rfl rfl (l' := #[iv pn, iv ps, iv pg, iv pi, iv pl, iv 4, jv_ l0, s_, jv_ l1, s_, jv_ l2, s_, jv_ l3, s_, iv sq0, iv sq1, iv sq2, iv sq3, rv b16, rv b18, rv b21, rv b25, rv b30, rv b289, iv pl3, iv pl2, jv_ tgt_, s_, jv_ clp, s_, iv ix, rv b21]) (XS.store1 rfl (Or.inr ⟨_, rfl, Jvm.Free.XT.cat1 ir1⟩) rfl) ?_
            show Sx p e below T334 m 375 #[iv pn, iv ps, iv pg, iv pi, iv pl, iv 4, jv_ l0, s_, jv_ l1, s_, jv_ l2, s_, jv_ l3, s_, iv sq0, iv sq1, iv sq2, iv sq3, rv b16, rv b18, rv b21, rv b25, rv b30, rv b289, iv pl3, iv pl2, jv_ tgt_, s_, jv_ clp, s_, iv ix, rv b21] [] _
            exact kt
          exact ⟨T334, _, (.ref b21), X334.more (by decide) (by decide), e334, N334, (if_neg hc368_342).symm, fun _ kt => (R341 _ (R344 _ kt))⟩
      have ir2 : ((if ix < sq2 then (if ix < sq1 then (if ix < sq0 then .null else .ref b16) else .ref b18) else .ref b21) : Value).isRef = true := by
        by_cases h : ix < sq2
        · rw [if_pos h]; exact ir1
        · rw [if_neg h]; rfl
      have R345 : ∀ tg, Sx p e below T340 m 375 #[iv pn, iv ps, iv pg, iv pi, iv pl, iv 4, jv_ l0, s_, jv_ l1, s_, jv_ l2, s_, jv_ l3, s_, iv sq0, iv sq1, iv sq2, iv sq3, rv b16, rv b18, rv b21, rv b25, rv b30, rv b289, iv pl3, iv pl2, jv_ tgt_, s_, jv_ clp, s_, iv ix, .val (if ix < sq2 then (if ix < sq1 then (if ix < sq0 then .null else .ref b16) else .ref b18) else .ref b21)] [] tg → Sx p e below T340 m 375 #[iv pn, iv ps, iv pg, iv pi, iv pl, iv 4, jv_ l0, s_, jv_ l1, s_, jv_ l2, s_, jv_ l3, s_, iv sq0, iv sq1, iv sq2, iv sq3, rv b16, rv b18, rv b21, rv b25, rv b30, rv b289, iv pl3, iv pl2, jv_ tgt_, s_, jv_ clp, s_, iv ix, .val ex2_] [] tg := fun tg kt => by rw [pj340_0]; exact kt
      obtain ⟨T346, L346, ex3_, X346, e346, N346, pj346_0, R346⟩ : ∃ (T' : State) (L' : List Loc) (ex3_ : Value), Stand p l e room_1 s m #[(.int pn), (.int ps), (.int pg), (.int pi), (.int pl)] below meth c T' L' 10 48 ∧ T'.heap = T300.heap ∧ Fr n0 L' ∧ (ex3_ = (if ix < sq3 then (if ix < sq2 then (if ix < sq1 then (if ix < sq0 then .null else .ref b16) else .ref b18) else .ref b21) else .ref b25)) ∧ ∀ tg, Sx p e below T' m 392 #[iv pn, iv ps, iv pg, iv pi, iv pl, iv 4, jv_ l0, s_, jv_ l1, s_, jv_ l2, s_, jv_ l3, s_, iv sq0, iv sq1, iv sq2, iv sq3, rv b16, rv b18, rv b21, rv b25, rv b30, rv b289, iv pl3, iv pl2, jv_ tgt_, s_, jv_ clp, s_, iv ix, .val ex3_] [] tg → Sx p e below T340 m 375 #[iv pn, iv ps, iv pg, iv pi, iv pl, iv 4, jv_ l0, s_, jv_ l1, s_, jv_ l2, s_, jv_ l3, s_, iv sq0, iv sq1, iv sq2, iv sq3, rv b16, rv b18, rv b21, rv b25, rv b30, rv b289, iv pl3, iv pl2, jv_ tgt_, s_, jv_ clp, s_, iv ix, .val (if ix < sq2 then (if ix < sq1 then (if ix < sq0 then .null else .ref b16) else .ref b18) else .ref b21)] [] tg := by
        have R347 : ∀ tg, Sx p e below T340 m 385 #[iv pn, iv ps, iv pg, iv pi, iv pl, iv 4, jv_ l0, s_, jv_ l1, s_, jv_ l2, s_, jv_ l3, s_, iv sq0, iv sq1, iv sq2, iv sq3, rv b16, rv b18, rv b21, rv b25, rv b30, rv b289, iv pl3, iv pl2, jv_ tgt_, s_, jv_ clp, s_, iv ix, .val (if ix < sq2 then (if ix < sq1 then (if ix < sq0 then .null else .ref b16) else .ref b18) else .ref b21)] [(.int sq3), (.int ix)] tg → Sx p e below T340 m 375 #[iv pn, iv ps, iv pg, iv pi, iv pl, iv 4, jv_ l0, s_, jv_ l1, s_, jv_ l2, s_, jv_ l3, s_, iv sq0, iv sq1, iv sq2, iv sq3, rv b16, rv b18, rv b21, rv b25, rv b30, rv b289, iv pl3, iv pl2, jv_ tgt_, s_, jv_ clp, s_, iv ix, .val (if ix < sq2 then (if ix < sq1 then (if ix < sq0 then .null else .ref b16) else .ref b18) else .ref b21)] [] tg := by
          intro tg kt
          refine XS.iload X340.here hx rfl (hb hby at_375) rfl ?_
          refine XS.iconst X340.here hx rfl (hb hby at_377) ?_
          refine XS.icmpNo X340.here hx rfl (hb hby at_378) rfl (tlt (by decide : (3 : Int32) < (4 : Int32))).2.2.2 ?_
          refine XS.iload X340.here hx rfl (hb hby at_381) rfl ?_
          refine XS.iload X340.here hx rfl (hb hby at_383) rfl ?_
          show Sx p e below T340 m 385 #[iv pn, iv ps, iv pg, iv pi, iv pl, iv 4, jv_ l0, s_, jv_ l1, s_, jv_ l2, s_, jv_ l3, s_, iv sq0, iv sq1, iv sq2, iv sq3, rv b16, rv b18, rv b21, rv b25, rv b30, rv b289, iv pl3, iv pl2, jv_ tgt_, s_, jv_ clp, s_, iv ix, .val (if ix < sq2 then (if ix < sq1 then (if ix < sq0 then .null else .ref b16) else .ref b18) else .ref b21)] [(.int sq3), (.int ix)] _
          exact kt
        by_cases hc385_348 : ix < sq3
        · have R349 : ∀ tg, Sx p e below T340 m 392 #[iv pn, iv ps, iv pg, iv pi, iv pl, iv 4, jv_ l0, s_, jv_ l1, s_, jv_ l2, s_, jv_ l3, s_, iv sq0, iv sq1, iv sq2, iv sq3, rv b16, rv b18, rv b21, rv b25, rv b30, rv b289, iv pl3, iv pl2, jv_ tgt_, s_, jv_ clp, s_, iv ix, .val (if ix < sq2 then (if ix < sq1 then (if ix < sq0 then .null else .ref b16) else .ref b18) else .ref b21)] [] tg → Sx p e below T340 m 385 #[iv pn, iv ps, iv pg, iv pi, iv pl, iv 4, jv_ l0, s_, jv_ l1, s_, jv_ l2, s_, jv_ l3, s_, iv sq0, iv sq1, iv sq2, iv sq3, rv b16, rv b18, rv b21, rv b25, rv b30, rv b289, iv pl3, iv pl2, jv_ tgt_, s_, jv_ clp, s_, iv ix, .val (if ix < sq2 then (if ix < sq1 then (if ix < sq0 then .null else .ref b16) else .ref b18) else .ref b21)] [(.int sq3), (.int ix)] tg := by
            intro tg kt
            refine XS.icmpYes X340.here hx rfl (pc0 := 385) (pc' := 392) rfl (hb hby at_385) rfl (tlt hc385_348).1 (by decide) (by decide) ?_
            show Sx p e below T340 m 392 #[iv pn, iv ps, iv pg, iv pi, iv pl, iv 4, jv_ l0, s_, jv_ l1, s_, jv_ l2, s_, jv_ l3, s_, iv sq0, iv sq1, iv sq2, iv sq3, rv b16, rv b18, rv b21, rv b25, rv b30, rv b289, iv pl3, iv pl2, jv_ tgt_, s_, jv_ clp, s_, iv ix, .val (if ix < sq2 then (if ix < sq1 then (if ix < sq0 then .null else .ref b16) else .ref b18) else .ref b21)] [] _
            exact kt
          exact ⟨T340, _, (if ix < sq2 then (if ix < sq1 then (if ix < sq0 then .null else .ref b16) else .ref b18) else .ref b21), X340.more (by decide) (by decide), e340, N340, (if_pos hc385_348).symm, fun _ kt => (R347 _ (R349 _ kt))⟩
        · have R350 : ∀ tg, Sx p e below T340 m 392 #[iv pn, iv ps, iv pg, iv pi, iv pl, iv 4, jv_ l0, s_, jv_ l1, s_, jv_ l2, s_, jv_ l3, s_, iv sq0, iv sq1, iv sq2, iv sq3, rv b16, rv b18, rv b21, rv b25, rv b30, rv b289, iv pl3, iv pl2, jv_ tgt_, s_, jv_ clp, s_, iv ix, rv b25] [] tg → Sx p e below T340 m 385 #[iv pn, iv ps, iv pg, iv pi, iv pl, iv 4, jv_ l0, s_, jv_ l1, s_, jv_ l2, s_, jv_ l3, s_, iv sq0, iv sq1, iv sq2, iv sq3, rv b16, rv b18, rv b21, rv b25, rv b30, rv b289, iv pl3, iv pl2, jv_ tgt_, s_, jv_ clp, s_, iv ix, .val (if ix < sq2 then (if ix < sq1 then (if ix < sq0 then .null else .ref b16) else .ref b18) else .ref b21)] [(.int sq3), (.int ix)] tg := by
            intro tg kt
            refine XS.icmpNo X340.here hx rfl (hb hby at_385) rfl (flt hc385_348).1 ?_
            refine XS.aload X340.here hx rfl (hb hby at_388) rfl rfl ?_
            refine XS.astore X340.here hx rfl (hb hby at_390) rfl rfl (l' := #[iv pn, iv ps, iv pg, iv pi, iv pl, iv 4, jv_ l0, s_, jv_ l1, s_, jv_ l2, s_, jv_ l3, s_, iv sq0, iv sq1, iv sq2, iv sq3, rv b16, rv b18, rv b21, rv b25, rv b30, rv b289, iv pl3, iv pl2, jv_ tgt_, s_, jv_ clp, s_, iv ix, rv b25]) (XS.store1 rfl (Or.inr ⟨_, rfl, Jvm.Free.XT.cat1 ir2⟩) rfl) ?_
            show Sx p e below T340 m 392 #[iv pn, iv ps, iv pg, iv pi, iv pl, iv 4, jv_ l0, s_, jv_ l1, s_, jv_ l2, s_, jv_ l3, s_, iv sq0, iv sq1, iv sq2, iv sq3, rv b16, rv b18, rv b21, rv b25, rv b30, rv b289, iv pl3, iv pl2, jv_ tgt_, s_, jv_ clp, s_, iv ix, rv b25] [] _
            exact kt
          exact ⟨T340, _, (.ref b25), X340.more (by decide) (by decide), e340, N340, (if_neg hc385_348).symm, fun _ kt => (R347 _ (R350 _ kt))⟩
      have ir3 : ((if ix < sq3 then (if ix < sq2 then (if ix < sq1 then (if ix < sq0 then .null else .ref b16) else .ref b18) else .ref b21) else .ref b25) : Value).isRef = true := by
        by_cases h : ix < sq3
        · rw [if_pos h]; exact ir2
        · rw [if_neg h]; rfl
      have R351 : ∀ tg, Sx p e below T346 m 392 #[iv pn, iv ps, iv pg, iv pi, iv pl, iv 4, jv_ l0, s_, jv_ l1, s_, jv_ l2, s_, jv_ l3, s_, iv sq0, iv sq1, iv sq2, iv sq3, rv b16, rv b18, rv b21, rv b25, rv b30, rv b289, iv pl3, iv pl2, jv_ tgt_, s_, jv_ clp, s_, iv ix, .val (if ix < sq3 then (if ix < sq2 then (if ix < sq1 then (if ix < sq0 then .null else .ref b16) else .ref b18) else .ref b21) else .ref b25)] [] tg → Sx p e below T346 m 392 #[iv pn, iv ps, iv pg, iv pi, iv pl, iv 4, jv_ l0, s_, jv_ l1, s_, jv_ l2, s_, jv_ l3, s_, iv sq0, iv sq1, iv sq2, iv sq3, rv b16, rv b18, rv b21, rv b25, rv b30, rv b289, iv pl3, iv pl2, jv_ tgt_, s_, jv_ clp, s_, iv ix, .val ex3_] [] tg := fun tg kt => by rw [pj346_0]; exact kt
      have f352 := (f295.keep kp300)
      have f353 := (f296.keep kp300)
      have f354 := (f297.keep kp300)
      have f355 := (f298.keep kp300)
      have f356 := ((((((((((((((fl17.ext E18).keep kp20 (ninS ne_b16_b18 nin0)).ext E21).keep kp24 (ninS ne_b16_b21 nin0)).ext E25).keep kp29 (ninS ne_b16_b25 nin0)).ext E30).keep kp36 (ninS ne_b16_b30 nin0)).keep kp276 (ninS ne_b16_b30 nin0)).keep kp282 (ninS ne_b16_b30 (ninS nq277_b16 nin0))).keep kp285 (ninS ne_b16_b30 (ninS nq277_b16 nin0))).keep kp288 (ninS ne_b16_b30 (ninS nq277_b16 nin0))).ext E289).keep kp300 (ninS ne_b16_b289 nin0))
      have f357 := ((((((((((((fl20.ext E21).keep kp24 (ninS ne_b18_b21 nin0)).ext E25).keep kp29 (ninS ne_b18_b25 nin0)).ext E30).keep kp36 (ninS ne_b18_b30 nin0)).keep kp276 (ninS ne_b18_b30 nin0)).keep kp282 (ninS ne_b18_b30 (ninS nq277_b18 nin0))).keep kp285 (ninS ne_b18_b30 (ninS nq277_b18 nin0))).keep kp288 (ninS ne_b18_b30 (ninS nq277_b18 nin0))).ext E289).keep kp300 (ninS ne_b18_b289 nin0))
      have f358 := ((((((((((fl24.ext E25).keep kp29 (ninS ne_b21_b25 nin0)).ext E30).keep kp36 (ninS ne_b21_b30 nin0)).keep kp276 (ninS ne_b21_b30 nin0)).keep kp282 (ninS ne_b21_b30 (ninS nq277_b21 nin0))).keep kp285 (ninS ne_b21_b30 (ninS nq277_b21 nin0))).keep kp288 (ninS ne_b21_b30 (ninS nq277_b21 nin0))).ext E289).keep kp300 (ninS ne_b21_b289 nin0))
      have f359 := ((((((((fl29.ext E30).keep kp36 (ninS ne_b25_b30 nin0)).keep kp276 (ninS ne_b25_b30 nin0)).keep kp282 (ninS ne_b25_b30 (ninS nq277_b25 nin0))).keep kp285 (ninS ne_b25_b30 (ninS nq277_b25 nin0))).keep kp288 (ninS ne_b25_b30 (ninS nq277_b25 nin0))).ext E289).keep kp300 (ninS ne_b25_b289 nin0))
      have f361 := (A289.keep kp300)
      obtain ⟨cq360, kq360, q360a, q360b, q360c⟩ := isOf hZ e346 f361
      obtain ⟨_, _, ⟨T360, L360, k360, n360⟩, -, X360, ⟨Lc360, hQ360, l360, y360, z360⟩, st360⟩ := X346.virtualBack hx (y := (⟨"com/example/clausemap/clausemap/outline/Outline", "partAt", "(I)Lcom/example/clausemap/clausemap/outline/Part;"⟩ : MethodName)) (z := (⟨"com/example/clausemap/clausemap/outline/Outline", "partAt", "(I)Lcom/example/clausemap/clausemap/outline/Part;"⟩ : MethodName)) hown (mvT hZ (w_ hw 98 rfl)) (mvT hZ (w_ hw 99 rfl)) (notFace_of_selects (args := #[]) (mvT hZ (w_ hw 101 rfl))) (mvT hZ (w_ hw 101 rfl)) (mvT hZ (w_ hw 100 rfl)) (by decide) (backOf (W := 0) (rmP4 l Z a0 hw [] b289 lb300 b16 b18 b21 b25 em ix sq0 sq1 sq2 sq3 T300.heap n0 Z300 fp300 lv300 f352 f353 f354 f355 f356 f357 f358 f359 hq01 hq12 hq23) hZ (w_ hw 102 rfl) (w_ hw 54 rfl) (by decide) (by decide)) q360a q360c (g := (mkF m 396 #[iv pn, iv ps, iv pg, iv pi, iv pl, iv 4, jv_ l0, s_, jv_ l1, s_, jv_ l2, s_, jv_ l3, s_, iv sq0, iv sq1, iv sq2, iv sq3, rv b16, rv b18, rv b21, rv b25, rv b30, rv b289, iv pl3, iv pl2, jv_ tgt_, s_, jv_ clp, s_, iv ix, .val (if ix < sq3 then (if ix < sq2 then (if ix < sq1 then (if ix < sq0 then .null else .ref b16) else .ref b18) else .ref b21) else .ref b25)] [(.int ix), (.ref b289)])) rfl (by rw [hml]; rfl) (Steps.refl _) (argsL := [(.int ix)]) (rest := []) (lenOf pd_18 rfl) rfl (by show 2 * 0 + _ ≤ _; exact Nat.le_of_eq rfl) (hb hby at_396) (fun _ _ => ⟨rfl, e346, (by decide : 10 + 0 ≤ _), (by decide : 48 + 0 ≤ _)⟩)
      dsimp only [Pt.U, Pt.locs, Pt.cells, Pt.slots] at X360 l360 y360 z360 st360 hQ360
      subst l360 y360 z360
      obtain ⟨hv360, N360q, r360⟩ := hQ360
      subst hv360
      have N360 := Fr.app N346 N360q
      obtain ⟨fs, hr, hrun, hended, hW, hsame⟩ := X360.leave (v := some (.int 1)) (fun h => by rw [Bd.returns] at h; cases h)
      refine ⟨_, _, pre0 _ (R1 _ (R2 _ (R3 _ (R4 _ (R5 _ (R6 _ (R7 _ (R8 _ (R9 _ (R11 _ (R12 _ (R13 _ (R14 _ (R15 _ (R37 _ (R273 _ (R301 _ (R302 _ (R303 _ (R304 _ (R315 _ (R316 _ (R323 _ (R324 _ (R325 _ (R326 _ (R327 _ (R328 _ (R333 _ (R334 _ (R339 _ (R340 _ (R345 _ (R346 _ (R351 _ ?_))))))))))))))))))))))))))))))))))), hrun, hended, _, _, rfl, ?_, ⟨_, rfl⟩, hW, hsame.mono (by decide) (by decide)⟩
      · show Sx p e below T346 m 392 #[iv pn, iv ps, iv pg, iv pi, iv pl, iv 4, jv_ l0, s_, jv_ l1, s_, jv_ l2, s_, jv_ l3, s_, iv sq0, iv sq1, iv sq2, iv sq3, rv b16, rv b18, rv b21, rv b25, rv b30, rv b289, iv pl3, iv pl2, jv_ tgt_, s_, jv_ clp, s_, iv ix, .val (if ix < sq3 then (if ix < sq2 then (if ix < sq1 then (if ix < sq0 then .null else .ref b16) else .ref b18) else .ref b21) else .ref b25)] [] _
        refine XS.aload X346.here hx rfl (hb hby at_392) rfl rfl ?_
        refine XS.iload X346.here hx rfl (hb hby at_394) rfl ?_
        refine st360.trans ?_
        refine XS.aload X360.here hx rfl (hb hby at_399) rfl ir3 ?_
        refine Jvm.RoadKit.acmp (g := (mkF m 401 #[iv pn, iv ps, iv pg, iv pi, iv pl, iv 4, jv_ l0, s_, jv_ l1, s_, jv_ l2, s_, jv_ l3, s_, iv sq0, iv sq1, iv sq2, iv sq3, rv b16, rv b18, rv b21, rv b25, rv b30, rv b289, iv pl3, iv pl2, jv_ tgt_, s_, jv_ clp, s_, iv ix, .val (if ix < sq3 then (if ix < sq2 then (if ix < sq1 then (if ix < sq0 then .null else .ref b16) else .ref b18) else .ref b21) else .ref b25)] [(if ix < sq3 then (if ix < sq2 then (if ix < sq1 then (if ix < sq0 then .null else .ref b16) else .ref b18) else .ref b21) else .ref b25), (if ix < sq3 then (if ix < sq2 then (if ix < sq1 then (if ix < sq0 then .null else .ref b16) else .ref b18) else .ref b21) else .ref b25)])) X360 hx rfl ir3 ir3 (pc0 := 401) (pc' := 404) (same := true) rfl (hb hby at_401) rfl (decide_eq_true rfl) (by decide) (by decide) ?_
        show Sx p e below T360 m 404 #[iv pn, iv ps, iv pg, iv pi, iv pl, iv 4, jv_ l0, s_, jv_ l1, s_, jv_ l2, s_, jv_ l3, s_, iv sq0, iv sq1, iv sq2, iv sq3, rv b16, rv b18, rv b21, rv b25, rv b30, rv b289, iv pl3, iv pl2, jv_ tgt_, s_, jv_ clp, s_, iv ix, .val (if ix < sq3 then (if ix < sq2 then (if ix < sq1 then (if ix < sq0 then .null else .ref b16) else .ref b18) else .ref b21) else .ref b25)] [] _
        refine XS.iconst X360.here hx rfl (hb hby at_404) ?_
        refine XS.goto X360.here hx rfl (pc0 := 405) (pc' := 409) rfl (hb hby at_405) (by decide) (by decide) ?_
        show Sx p e below T360 m 409 #[iv pn, iv ps, iv pg, iv pi, iv pl, iv 4, jv_ l0, s_, jv_ l1, s_, jv_ l2, s_, jv_ l3, s_, iv sq0, iv sq1, iv sq2, iv sq3, rv b16, rv b18, rv b21, rv b25, rv b30, rv b289, iv pl3, iv pl2, jv_ tgt_, s_, jv_ clp, s_, iv ix, .val (if ix < sq3 then (if ix < sq2 then (if ix < sq1 then (if ix < sq0 then .null else .ref b16) else .ref b18) else .ref b21) else .ref b25)] [(.int 1)] _
        exact retN X360 hx (t := .boolean) Bd.returns (by simp) (hb hby at_409) hr
      · show Q0 n0 _ T360.heap _
        rw [r360]
        exact ⟨rfl, N360⟩
set_option maxRecDepth 65536 in
set_option maxHeartbeats 40000000 in
theorem comes_1 {Post : Tables → Env → Array Value → State → Outcome → State → Prop} (hpost : ∀ tb e args s v u, (limb_1_1.after args s (.returned v) u = true ∧ limb_1_2.after args s (.returned v) u = true ∧ True) → FrameEnd s (.returned v) u (Jvm.fieldLocs frame_1_writes args s ++ Jvm.arrayLocs frame_1_arrays args s ++ Jvm.staticLocs frame_1_statics s) 32 192 → Post tb e args s (.returned v) u) :
    ArmFor flags0 classFile x code maxLocals ret World_1 tables_1 room_1 Calls_1 rest_1 Pre_1 Post := by
  intro l hfl _ _ p e ha hc hk s m args below hf hA hF happ hP
  obtain ⟨hcalls, hrest, hpre⟩ := hP
  obtain ⟨-, -, -, hnamed, -, -, -, hat⟩ := (Spec.applies_iff hf).mp happ
  obtain ⟨hg, hn⟩ := and_e (Cond.before_iff.mp (show (Jvm.Cond.and given_1 narrow_1).before args s = true from hpre))
  obtain ⟨g1a, g1b⟩ := and_e hg
  obtain ⟨g2a, g2b⟩ := and_e g1b
  obtain ⟨g3a, g3b⟩ := and_e g2b
  obtain ⟨g4a, g4b⟩ := and_e g3b
  obtain ⟨g5a, g5b⟩ := and_e g4b
  obtain ⟨w0, w1, w2, w3, w4, rfl⟩ : ∃ w0 w1 w2 w3 w4 : Value, args = #[w0, w1, w2, w3, w4] := by
    have hs : args.size = 5 := by simpa [Cond.value, given_1] using g1a
    obtain ⟨L⟩ := args
    match L, hs with
    | [w0, w1, w2, w3, w4], _ => exact ⟨w0, w1, w2, w3, w4, rfl⟩
  have hw := fun d (hd : d ∈ tables_1) => atoms_spec (ws := Jvm.Cond.code x code maxLocals ret :: tables_1) hat d (List.mem_cons_of_mem _ hd)
  have hfit : Fit s := fun {y c} hc i hi => by
    obtain ⟨ha, rfl⟩ := Array.getElem?_eq_some_iff.mp hc
    have q := List.all_eq_true.mp ((Array.all_eq_true_iff_forall_mem.mp hF) _ (Array.getElem_mem ha)) i (List.mem_range.mpr hi)
    simpa [Array.getElem?_eq_getElem hi] using q
  obtain ⟨hsets, hown0⟩ := atoms_of _ (rest_1_c_eq ▸ (show rest_1_c.before _ s = true from hrest))
  have hr0 := Cond.before_iff.mp hown0
  obtain ⟨i0, ei0⟩ := is_v g2a
  obtain rfl : w0 = (.int i0) := Option.some.inj ei0
  obtain ⟨i1, ei1⟩ := is_v g3a
  obtain rfl : w1 = (.int i1) := Option.some.inj ei1
  obtain ⟨i2, ei2⟩ := is_v g4a
  obtain rfl : w2 = (.int i2) := Option.some.inj ei2
  obtain ⟨i3, ei3⟩ := is_v g5a
  obtain rfl : w3 = (.int i3) := Option.some.inj ei3
  obtain ⟨i4, ei4⟩ := is_v g5b
  obtain rfl : w4 = (.int i4) := Option.some.inj ei4
  obtain ⟨dc, edc⟩ := arr_v (Cond.before_iff.mp (hsets _ (List.mem_of_getElem? (i := 6) rfl)))
  have hSd := Sta.start edc (Or.inr ⟨(w_ hw 30 rfl), (hsets _ (List.mem_of_getElem? (i := 2) rfl))⟩)
  obtain ⟨cd, hAd0⟩ := Arr.start edc (Cond.before_iff.mp (hsets _ (List.mem_of_getElem? (i := 6) rfl)))
  obtain ⟨qd1, qd2⟩ := Jvm.Free.IntBox.length_fwd (hsets _ (List.mem_of_getElem? (i := 8) rfl)) edc hAd0.1 hAd0.2.1 hAd0.2.2
  have hAd : Arv s s.heap dc cd.cls (.object "java/lang/Object") (0 : Int32) [] .null := Arv.start hfit hAd0 qd1 qd2 (by decide) rfl trivial
  obtain ⟨el, eel⟩ := exa_v (Cond.before_iff.mp (hsets _ (List.mem_of_getElem? (i := 11) rfl)))
  have hSl := Sta.start eel (Or.inl (hsets _ (List.mem_of_getElem? (i := 10) rfl)))
  have hEl := Exa.start eel (Cond.before_iff.mp (hsets _ (List.mem_of_getElem? (i := 11) rfl)))
  obtain ⟨ar, ear⟩ := arr_v (Cond.before_iff.mp (hsets _ (List.mem_of_getElem? (i := 12) rfl)))
  have hFl : Fld s s.heap el "java/util/ImmutableCollections$ListN" "elements" "[Ljava/lang/Object;" (.ref ar) := Fld.start ((fld_at eel).symm.trans ear)
  obtain ⟨cr, hAr0⟩ := Arr.start ear (Cond.before_iff.mp (hsets _ (List.mem_of_getElem? (i := 12) rfl)))
  obtain ⟨qr1, qr2⟩ := Jvm.Free.IntBox.length_fwd (hsets _ (List.mem_of_getElem? (i := 14) rfl)) ear hAr0.1 hAr0.2.1 hAr0.2.2
  have hLV0 : LVN s s.heap el 0 [] := ⟨ar, cr.cls, hEl, hFl, Arv.start hfit hAr0 qr1 qr2 (by decide) rfl trivial⟩
  obtain ⟨em, eem⟩ := exa_v (Cond.before_iff.mp (hsets _ (List.mem_of_getElem? (i := 18) rfl)))
  have hSe := Sta.start eem (Or.inl (hsets _ (List.mem_of_getElem? (i := 17) rfl)))
  have hEm := Exa.start eem (Cond.before_iff.mp (hsets _ (List.mem_of_getElem? (i := 18) rfl)))
  obtain ⟨mc_, mk_, mm_, hm1, hm2, hm3, -⟩ := hcalls.1
  obtain ⟨n, o, h1, h2, h3, _, L, rfl, ⟨rfl, N⟩, hq⟩ := rm0 l s _ hw tables_1 i0 i1 i2 i3 i4 dc el em cd.cls s.heap s.heap.size (Nat.le_refl _) (Old.start s) hSd hAd hSl hLV0 hSe hEm ⟨mc_, mk_, mm_, hm1, hm2, hm3⟩ p e ha hc hk s m _ below hf ((Spec.applies_iff_loose hf).mp happ).1 ⟨rfl, State.Warmed39.refl s, rfl⟩ trivial
  refine ⟨n, _, h1, h2, h3, hpost _ _ _ _ _ _ ⟨Cond.after_iff.mpr rfl, Cond.after_iff.mpr (eq_i res_at (Term.int_eval (1)) rfl), trivial⟩ ⟨hq.1, hq.2.1, (hq.2.2.sift fun y hy => Or.inr (N y hy)).mono (by decide) (by decide)⟩⟩
theorem main_1_1 : Claimed_1_1 := comes_1 fun _ _ _ _ _ _ h hF => ⟨h.1, hF⟩
theorem main_1_2 : Claimed_1_2 := comes_1 fun _ _ _ _ _ _ h hF => ⟨h.2.1, hF⟩
end Jvm.Pilot.@@N@@
namespace Jvm.Pilot.@@N@@
open Jvm Jvm.ClassFile Sem Op Lib Jvm.Free Jvm.Stand Jvm.Pilot.@@N@@.Jvm.D
/-! MADE BY PROGRAM (witnessworld.py) out of the Statement's table words and the real class files: 29 classes; the members and pool entries that the words name. The judged class is class 1, her method 1. -/
namespace start1
open Jvm.ClassFile
def u (s : String) : CpInfo := .utf8 (stringToUtf16 s)
/-- a pool by its gaps: so many unusable entries, then the entry; so many at the end -/
def gap : Nat → List CpInfo → List CpInfo
  | 0, r => r
  | n + 1, r => .unusable :: gap n r
def poolList (es : List (Nat × CpInfo)) (last : Nat) : List CpInfo := es.foldr (fun e r => gap e.1 (e.2 :: r)) (gap last [])
def pool (es : List (Nat × CpInfo)) (last : Nat) : Array CpInfo := ⟨poolList es last⟩
def fileOf (pool : Array CpInfo) (this : Nat) (attrs : Array Attribute := #[]) (ms : Array MethodInfo := #[]) (fl : Nat := 33) (sup : Nat := 0) (ifs : Array Nat := #[]) (fds : Array FieldInfo := #[]) : ClassFile where
  minorVersion := 0
  majorVersion := 65
  constantPool := pool
  accessFlags := fl
  thisClass := this
  superClass := sup
  interfaces := ifs
  fields := fds
  methods := ms
  attributes := attrs
def plain (name : String) (sup : Option ClassId) : Class where
  name := name
  kind := .ordinary
  loader := none
  accessFlags := 33
  super := sup
  interfaces := #[]
  cf := none
  fields := #[]
  methods := #[]
  instanceTypes := #[]
  staticTypes := #[]
  resolved := #[]
  callSites := []
  init := .initialized
  statics := none
  mirror := none

def pool0 : Array CpInfo := pool [(5, u "<init>"), (0, u "()V"), (1, .class_ 10), (1, u "java/lang/Object"), (0, u "getClass"), (0, u "()Ljava/lang/Class;")] 111

def k0c0 : Code := { maxStack := 0, maxLocals := 1, code := object_method_1_code, exceptionTable := #[], attributes := #[] }
def k0m0 : Method := { name := "<init>", desc := "()V", sig := { parameters := [], returnType := none }, accessFlags := 1, code := some k0c0 }
def k0m1 : Method := { name := "getClass", desc := "()Ljava/lang/Class;", sig := { parameters := [], returnType := some (.object "java/lang/Class") }, accessFlags := 273, code := none }
/-- java/lang/Object -/
def k0 : Class := { plain "java/lang/Object" none with
  accessFlags := 33
  interfaces := #[]
  cf := some (fileOf pool0 8 #[] #[{ accessFlags := 1, nameIndex := 5, descriptorIndex := 6, attributes := #[] }, { accessFlags := 273, nameIndex := 11, descriptorIndex := 12, attributes := #[] }] 33 0 #[] #[])
  fields := #[]
  methods := #[k0m0, k0m1]
  instanceTypes := #[]
  staticTypes := #[]
  resolved := Array.replicate 124 none
  statics := none }

def pool1 : Array CpInfo := pool [(2, .class_ 4), (0, .nameAndType 5 6), (0, u "java/lang/Object"), (0, u "<init>"), (0, u "()V"), (0, .integer 2147483647), (2, .long 2147483647), (1, .class_ 13), (0, u "com/example/clausemap/clausemap/outline/Part"), (0, .methodref 12 15), (0, .nameAndType 5 16), (0, u "(Lcom/example/clausemap/clausemap/outline/Part;Lcom/example/clausemap/clausemap/outline/Part$Kind;Ljava/lang/String;Ljava/lang/String;II)V"), (0, .class_ 18), (0, u "java/util/ArrayList"), (0, .methodref 17 3), (0, .methodref 17 21), (0, .nameAndType 22 23), (0, u "add"), (0, u "(Ljava/lang/Object;)Z"), (0, .class_ 25), (0, u "com/example/clausemap/clausemap/outline/Outline"), (0, .methodref 24 27), (0, .nameAndType 5 28), (0, u "(Ljava/util/List;)V"), (0, .long 18446744071562067968), (1, .methodref 32 33), (0, .class_ 34), (0, .nameAndType 35 36), (0, u "java/lang/Math"), (0, u "min"), (0, u "(JJ)J"), (0, .methodref 32 38), (0, .nameAndType 39 36), (0, u "max"), (0, .methodref 24 41), (0, .nameAndType 42 43), (0, u "partAt"), (0, u "(I)Lcom/example/clausemap/clausemap/outline/Part;"), (0, .class_ 45), (0, u "com/example/clausemap/clausemap/outline/OutlinePartAtPinLaw"), (2, u "law"), (0, u "(IIIII)Z")] 7

def k1m0 : Method := { name := "<init>", desc := "()V", sig := { parameters := [], returnType := none }, accessFlags := 1, code := none }
def k1c1 : Code := { maxStack := 8, maxLocals := 32, code := code, exceptionTable := #[], attributes := #[] }
def k1m1 : Method := { name := "law", desc := "(IIIII)Z", sig := { parameters := [.int, .int, .int, .int, .int], returnType := some .boolean }, accessFlags := 9, code := some k1c1 }
/-- com/example/clausemap/clausemap/outline/OutlinePartAtPinLaw -/
def k1 : Class := { plain "com/example/clausemap/clausemap/outline/OutlinePartAtPinLaw" (some 0) with
  accessFlags := 49
  interfaces := #[]
  cf := some (fileOf pool1 44 #[] #[{ accessFlags := 1, nameIndex := 5, descriptorIndex := 6, attributes := #[] }, { accessFlags := 9, nameIndex := 48, descriptorIndex := 49, attributes := #[] }] 49 2 #[] #[])
  fields := #[]
  methods := #[k1m0, k1m1]
  instanceTypes := #[]
  staticTypes := #[]
  resolved := Array.replicate 57 none
  statics := none }

def pool2 : Array CpInfo := pool [(1, .methodref 2 3), (0, .class_ 4), (0, .nameAndType 5 6), (0, u "java/lang/Object"), (0, u "<init>"), (0, u "()V"), (0, .class_ 8), (0, u "java/lang/Record")] 13

def k2c0 : Code := { maxStack := 1, maxLocals := 1, code := jdk_30_method_1_code, exceptionTable := #[], attributes := #[] }
def k2m0 : Method := { name := "<init>", desc := "()V", sig := { parameters := [], returnType := none }, accessFlags := 4, code := some k2c0 }
/-- java/lang/Record -/
def k2 : Class := { plain "java/lang/Record" (some 0) with
  accessFlags := 1057
  interfaces := #[]
  cf := some (fileOf pool2 7 #[] #[{ accessFlags := 4, nameIndex := 5, descriptorIndex := 6, attributes := #[] }] 1057 2 #[] #[])
  fields := #[]
  methods := #[k2m0]
  instanceTypes := #[]
  staticTypes := #[]
  resolved := Array.replicate 22 none
  statics := none }

def pool3 : Array CpInfo := pool [(1, .methodref 2 3), (0, .class_ 4), (0, .nameAndType 5 6), (0, u "java/lang/Record"), (0, u "<init>"), (0, u "()V"), (0, .fieldref 8 9), (0, .class_ 10), (0, .nameAndType 11 12), (0, u "com/example/clausemap/clausemap/outline/Part"), (0, u "parent"), (0, u "Lcom/example/clausemap/clausemap/outline/Part;"), (0, .fieldref 8 14), (0, .nameAndType 15 16), (0, u "kind"), (0, u "Lcom/example/clausemap/clausemap/outline/Part$Kind;"), (0, .fieldref 8 18), (0, .nameAndType 19 20), (0, u "number"), (0, u "Ljava/lang/String;"), (0, .fieldref 8 22), (0, .nameAndType 23 20), (0, u "heading"), (0, .fieldref 8 25), (0, .nameAndType 26 27), (0, u "start"), (0, u "I"), (0, .fieldref 8 29), (0, .nameAndType 30 27), (0, u "end"), (1, .class_ 34), (1, u "com/example/clausemap/clausemap/outline/Part$Kind"), (32, u "(Lcom/example/clausemap/clausemap/outline/Part;Lcom/example/clausemap/clausemap/outline/Part$Kind;Ljava/lang/String;Ljava/lang/String;II)V"), (7, u "()I")] 38

def k3c0 : Code := { maxStack := 2, maxLocals := 7, code := prog_32_method_1_code, exceptionTable := #[], attributes := #[] }
def k3m0 : Method := { name := "<init>", desc := "(Lcom/example/clausemap/clausemap/outline/Part;Lcom/example/clausemap/clausemap/outline/Part$Kind;Ljava/lang/String;Ljava/lang/String;II)V", sig := { parameters := [(.object "com/example/clausemap/clausemap/outline/Part"), (.object "com/example/clausemap/clausemap/outline/Part$Kind"), (.object "java/lang/String"), (.object "java/lang/String"), .int, .int], returnType := none }, accessFlags := 1, code := some k3c0 }
def k3c1 : Code := { maxStack := 1, maxLocals := 1, code := prog_32_method_11_code, exceptionTable := #[], attributes := #[] }
def k3m1 : Method := { name := "start", desc := "()I", sig := { parameters := [], returnType := some .int }, accessFlags := 1, code := some k3c1 }
/-- com/example/clausemap/clausemap/outline/Part -/
def k3 : Class := { plain "com/example/clausemap/clausemap/outline/Part" (some 2) with
  accessFlags := 49
  interfaces := #[]
  cf := some (fileOf pool3 8 #[.nestMembers #[32]] #[{ accessFlags := 1, nameIndex := 5, descriptorIndex := 67, attributes := #[] }, { accessFlags := 1, nameIndex := 26, descriptorIndex := 75, attributes := #[] }] 49 2 #[] #[{ accessFlags := 18, nameIndex := 11, descriptorIndex := 12, attributes := #[] }, { accessFlags := 18, nameIndex := 15, descriptorIndex := 16, attributes := #[] }, { accessFlags := 18, nameIndex := 19, descriptorIndex := 20, attributes := #[] }, { accessFlags := 18, nameIndex := 23, descriptorIndex := 20, attributes := #[] }, { accessFlags := 18, nameIndex := 26, descriptorIndex := 27, attributes := #[] }, { accessFlags := 18, nameIndex := 30, descriptorIndex := 27, attributes := #[] }])
  fields := #[{ name := "parent", type := (.object "com/example/clausemap/clausemap/outline/Part"), accessFlags := 18, slot := 0, constantValue := 0 }, { name := "kind", type := (.object "com/example/clausemap/clausemap/outline/Part$Kind"), accessFlags := 18, slot := 1, constantValue := 0 }, { name := "number", type := (.object "java/lang/String"), accessFlags := 18, slot := 2, constantValue := 0 }, { name := "heading", type := (.object "java/lang/String"), accessFlags := 18, slot := 3, constantValue := 0 }, { name := "start", type := .int, accessFlags := 18, slot := 4, constantValue := 0 }, { name := "end", type := .int, accessFlags := 18, slot := 5, constantValue := 0 }]
  methods := #[k3m0, k3m1]
  instanceTypes := #[(.object "com/example/clausemap/clausemap/outline/Part"), (.object "com/example/clausemap/clausemap/outline/Part$Kind"), (.object "java/lang/String"), (.object "java/lang/String"), .int, .int]
  staticTypes := #[]
  resolved := Array.replicate 114 none
  statics := none }

def pool4 : Array CpInfo := pool [(8, .class_ 10), (1, u "java/lang/Iterable"), (24, .class_ 36), (0, u "java/lang/Object")] 25

/-- java/lang/Iterable -/
def k4 : Class := { plain "java/lang/Iterable" (some 0) with
  accessFlags := 1537
  interfaces := #[]
  cf := some (fileOf pool4 8 #[] #[] 1537 35 #[] #[])
  fields := #[]
  methods := #[]
  instanceTypes := #[]
  staticTypes := #[]
  resolved := Array.replicate 62 none
  statics := none }

def pool5 : Array CpInfo := pool [(10, .class_ 12), (1, u "java/util/Collection"), (0, u "toArray"), (16, u "()Z"), (29, .class_ 61), (0, u "java/lang/Object"), (0, .class_ 63), (0, u "java/lang/Iterable"), (2, u "isEmpty"), (3, u "()[Ljava/lang/Object;")] 44

def k5m0 : Method := { name := "isEmpty", desc := "()Z", sig := { parameters := [], returnType := some .boolean }, accessFlags := 1025, code := none }
def k5m1 : Method := { name := "toArray", desc := "()[Ljava/lang/Object;", sig := { parameters := [], returnType := some (.array (.object "java/lang/Object")) }, accessFlags := 1025, code := none }
/-- java/util/Collection -/
def k5 : Class := { plain "java/util/Collection" (some 0) with
  accessFlags := 1537
  interfaces := #[4]
  cf := some (fileOf pool5 10 #[] #[{ accessFlags := 1025, nameIndex := 66, descriptorIndex := 30, attributes := #[] }, { accessFlags := 1025, nameIndex := 13, descriptorIndex := 70, attributes := #[] }] 1537 60 #[62] #[])
  fields := #[]
  methods := #[k5m0, k5m1]
  instanceTypes := #[]
  staticTypes := #[]
  resolved := Array.replicate 115 none
  statics := none }

def pool6 : Array CpInfo := pool [(1, .methodref 2 3), (0, .class_ 4), (0, .nameAndType 5 6), (0, u "java/lang/Object"), (0, u "<init>"), (0, u "()V"), (1, .class_ 10), (1, u "java/util/AbstractCollection"), (66, .class_ 78), (0, u "java/util/Collection")] 81

def k6c0 : Code := { maxStack := 1, maxLocals := 1, code := jdk_22_method_1_code, exceptionTable := #[], attributes := #[] }
def k6m0 : Method := { name := "<init>", desc := "()V", sig := { parameters := [], returnType := none }, accessFlags := 4, code := some k6c0 }
/-- java/util/AbstractCollection -/
def k6 : Class := { plain "java/util/AbstractCollection" (some 0) with
  accessFlags := 1057
  interfaces := #[5]
  cf := some (fileOf pool6 8 #[] #[{ accessFlags := 4, nameIndex := 5, descriptorIndex := 6, attributes := #[] }] 1057 2 #[77] #[])
  fields := #[]
  methods := #[k6m0]
  instanceTypes := #[]
  staticTypes := #[]
  resolved := Array.replicate 160 none
  statics := none }

def pool7 : Array CpInfo := pool [(8, .class_ 10), (1, u "java/util/SequencedCollection"), (15, .class_ 27), (0, u "java/lang/Object"), (0, .class_ 29), (0, u "java/util/Collection")] 27

/-- java/util/SequencedCollection -/
def k7 : Class := { plain "java/util/SequencedCollection" (some 0) with
  accessFlags := 1537
  interfaces := #[5]
  cf := some (fileOf pool7 8 #[] #[] 1537 26 #[28] #[])
  fields := #[]
  methods := #[]
  instanceTypes := #[]
  staticTypes := #[]
  resolved := Array.replicate 57 none
  statics := none }

def pool8 : Array CpInfo := pool [(8, .class_ 10), (1, u "java/util/List"), (20, u "(Ljava/lang/Object;)V"), (16, u "<init>"), (26, u "get"), (0, u "(I)Ljava/lang/Object;"), (2, u "size"), (0, u "()I"), (7, u "of"), (1, .fieldref 91 92), (0, .class_ 93), (0, .nameAndType 94 95), (0, u "java/util/ImmutableCollections"), (0, u "EMPTY_LIST"), (0, u "Ljava/util/ImmutableCollections$ListN;"), (0, .class_ 97), (0, u "java/util/ImmutableCollections$List12"), (0, .methodref 96 99), (0, .nameAndType 48 31), (0, .methodref 96 101), (0, .nameAndType 48 102), (0, u "(Ljava/lang/Object;Ljava/lang/Object;)V"), (0, .class_ 104), (0, u "java/lang/Object"), (3, u "([Ljava/lang/Object;)Ljava/util/List;"), (0, .methodref 91 110), (0, .nameAndType 111 108), (0, u "listFromArray"), (0, .methodref 91 113), (0, .nameAndType 114 115), (0, u "listCopy"), (0, u "(Ljava/util/Collection;)Ljava/util/List;"), (3, u "()Ljava/util/List;"), (0, .class_ 121), (0, u "java/util/SequencedCollection"), (112, u "copyOf")] 16

def k8m0 : Method := { name := "size", desc := "()I", sig := { parameters := [], returnType := some .int }, accessFlags := 1025, code := none }
def k8m1 : Method := { name := "get", desc := "(I)Ljava/lang/Object;", sig := { parameters := [.int], returnType := some (.object "java/lang/Object") }, accessFlags := 1025, code := none }
def k8c2 : Code := { maxStack := 1, maxLocals := 0, code := jdk_40_method_36_code, exceptionTable := #[], attributes := #[] }
def k8m2 : Method := { name := "of", desc := "()Ljava/util/List;", sig := { parameters := [], returnType := some (.object "java/util/List") }, accessFlags := 9, code := some k8c2 }
def k8c3 : Code := { maxStack := 5, maxLocals := 2, code := jdk_40_method_47_code, exceptionTable := #[], attributes := #[] }
def k8m3 : Method := { name := "of", desc := "([Ljava/lang/Object;)Ljava/util/List;", sig := { parameters := [(.array (.object "java/lang/Object"))], returnType := some (.object "java/util/List") }, accessFlags := 137, code := some k8c3 }
def k8c4 : Code := { maxStack := 1, maxLocals := 1, code := jdk_40_method_48_code, exceptionTable := #[], attributes := #[] }
def k8m4 : Method := { name := "copyOf", desc := "(Ljava/util/Collection;)Ljava/util/List;", sig := { parameters := [(.object "java/util/Collection")], returnType := some (.object "java/util/List") }, accessFlags := 9, code := some k8c4 }
/-- java/util/List -/
def k8 : Class := { plain "java/util/List" (some 0) with
  accessFlags := 1537
  interfaces := #[7]
  cf := some (fileOf pool8 8 #[] #[{ accessFlags := 1025, nameIndex := 79, descriptorIndex := 80, attributes := #[] }, { accessFlags := 1025, nameIndex := 75, descriptorIndex := 76, attributes := #[] }, { accessFlags := 9, nameIndex := 88, descriptorIndex := 119, attributes := #[] }, { accessFlags := 137, nameIndex := 88, descriptorIndex := 108, attributes := #[] }, { accessFlags := 9, nameIndex := 234, descriptorIndex := 115, attributes := #[] }] 1537 103 #[120] #[])
  fields := #[]
  methods := #[k8m0, k8m1, k8m2, k8m3, k8m4]
  instanceTypes := #[]
  staticTypes := #[]
  resolved := Array.replicate 251 none
  statics := none }

def pool9 : Array CpInfo := pool [(1, .methodref 2 3), (0, .class_ 4), (0, .nameAndType 5 6), (0, u "java/util/AbstractCollection"), (0, u "<init>"), (0, u "()V"), (0, .fieldref 8 9), (0, .class_ 10), (0, .nameAndType 11 12), (0, u "java/util/AbstractList"), (0, u "modCount"), (0, u "I"), (64, .class_ 78), (0, u "java/util/AbstractList$Itr"), (3, .class_ 83), (0, u "java/util/AbstractList$ListItr"), (9, .class_ 94), (0, u "java/util/AbstractList$RandomAccessSubList"), (3, .class_ 99), (0, u "java/util/AbstractList$SubList"), (33, .class_ 134), (0, u "java/util/List"), (73, .class_ 209), (0, u "java/util/AbstractList$SubList$1"), (0, .class_ 211), (0, u "java/util/AbstractList$RandomAccessSpliterator")] 6

def k9c0 : Code := { maxStack := 2, maxLocals := 1, code := jdk_39_method_1_code, exceptionTable := #[], attributes := #[] }
def k9m0 : Method := { name := "<init>", desc := "()V", sig := { parameters := [], returnType := none }, accessFlags := 4, code := some k9c0 }
/-- java/util/AbstractList -/
def k9 : Class := { plain "java/util/AbstractList" (some 6) with
  accessFlags := 1057
  interfaces := #[8]
  cf := some (fileOf pool9 8 #[.nestMembers #[93, 98, 208, 210, 82, 77]] #[{ accessFlags := 4, nameIndex := 5, descriptorIndex := 6, attributes := #[] }] 1057 2 #[133] #[{ accessFlags := 132, nameIndex := 11, descriptorIndex := 12, attributes := #[] }])
  fields := #[{ name := "modCount", type := .int, accessFlags := 132, slot := 0, constantValue := 0 }]
  methods := #[k9m0]
  instanceTypes := #[.int]
  staticTypes := #[]
  resolved := Array.replicate 218 none
  statics := none }

def pool10 : Array CpInfo := pool [(1, .class_ 2), (0, u "java/util/RandomAccess"), (0, .class_ 4), (0, u "java/lang/Object")] 2

/-- java/util/RandomAccess -/
def k10 : Class := { plain "java/util/RandomAccess" (some 0) with
  accessFlags := 1537
  interfaces := #[]
  cf := some (fileOf pool10 1 #[] #[] 1537 3 #[] #[])
  fields := #[]
  methods := #[]
  instanceTypes := #[]
  staticTypes := #[]
  resolved := Array.replicate 7 none
  statics := none }

def pool11 : Array CpInfo := pool [(1, .class_ 2), (0, u "java/lang/Cloneable"), (0, .class_ 4), (0, u "java/lang/Object")] 2

/-- java/lang/Cloneable -/
def k11 : Class := { plain "java/lang/Cloneable" (some 0) with
  accessFlags := 1537
  interfaces := #[]
  cf := some (fileOf pool11 1 #[] #[] 1537 3 #[] #[])
  fields := #[]
  methods := #[]
  instanceTypes := #[]
  staticTypes := #[]
  resolved := Array.replicate 7 none
  statics := none }

def pool12 : Array CpInfo := pool [(1, .class_ 2), (0, u "java/io/Serializable"), (0, .class_ 4), (0, u "java/lang/Object")] 2

/-- java/io/Serializable -/
def k12 : Class := { plain "java/io/Serializable" (some 0) with
  accessFlags := 1537
  interfaces := #[]
  cf := some (fileOf pool12 1 #[] #[] 1537 3 #[] #[])
  fields := #[]
  methods := #[]
  instanceTypes := #[]
  staticTypes := #[]
  resolved := Array.replicate 7 none
  statics := none }

def pool13 : Array CpInfo := pool [(1, .methodref 2 3), (0, .class_ 4), (0, .nameAndType 5 6), (0, u "java/util/AbstractList"), (0, u "<init>"), (0, u "()V"), (0, .class_ 8), (0, u "java/lang/Object"), (0, .fieldref 10 11), (0, .class_ 12), (0, .nameAndType 13 14), (0, u "java/util/ArrayList"), (0, u "elementData"), (0, u "[Ljava/lang/Object;"), (2, u "EMPTY_ELEMENTDATA"), (21, .fieldref 10 40), (0, .nameAndType 41 14), (0, u "DEFAULTCAPACITY_EMPTY_ELEMENTDATA"), (4, u "toArray"), (0, u "()[Ljava/lang/Object;"), (0, .fieldref 10 49), (0, .nameAndType 50 51), (0, u "size"), (0, u "I"), (6, .class_ 60), (1, u "java/util/Arrays"), (0, u "copyOf"), (1, .fieldref 10 64), (0, .nameAndType 65 51), (0, u "modCount"), (0, .methodref 58 67), (0, .nameAndType 61 68), (0, u "([Ljava/lang/Object;I)[Ljava/lang/Object;"), (0, .methodref 10 70), (0, .nameAndType 71 72), (0, u "grow"), (0, u "(I)[Ljava/lang/Object;"), (6, .methodref 80 81), (0, .class_ 82), (0, .nameAndType 83 84), (0, u "java/lang/Math"), (0, u "max"), (0, u "(II)I"), (11, u "(Ljava/lang/Object;)Z"), (32, .methodref 10 130), (0, .nameAndType 71 47), (0, .methodref 10 132), (0, .nameAndType 133 134), (0, u "add"), (0, u "(Ljava/lang/Object;[Ljava/lang/Object;I)V"), (13, .class_ 149), (0, u "java/util/List"), (23, u "()Z"), (88, .class_ 263), (0, u "java/util/ArrayList$ListItr"), (3, .class_ 268), (0, u "java/util/ArrayList$Itr"), (7, .class_ 277), (0, u "java/util/ArrayList$SubList"), (12, .class_ 291), (0, u "java/util/ArrayList$ArrayListSpliterator"), (37, .class_ 330), (0, u "java/util/RandomAccess"), (0, .class_ 332), (0, u "java/lang/Cloneable"), (0, .class_ 334), (0, u "java/io/Serializable"), (0, u "serialVersionUID"), (0, u "J"), (3, u "DEFAULT_CAPACITY"), (22, u "isEmpty"), (136, .class_ 501), (0, u "java/util/ArrayList$SubList$2"), (0, .class_ 503), (0, u "java/util/ArrayList$SubList$1")] 5

def k13c0 : Code := { maxStack := 2, maxLocals := 1, code := jdk_38_method_2_code, exceptionTable := #[], attributes := #[] }
def k13m0 : Method := { name := "<init>", desc := "()V", sig := { parameters := [], returnType := none }, accessFlags := 1, code := some k13c0 }
def k13c1 : Code := { maxStack := 4, maxLocals := 4, code := jdk_38_method_6_code, exceptionTable := #[], attributes := #[] }
def k13m1 : Method := { name := "grow", desc := "(I)[Ljava/lang/Object;", sig := { parameters := [.int], returnType := some (.array (.object "java/lang/Object")) }, accessFlags := 2, code := some k13c1 }
def k13c2 : Code := { maxStack := 3, maxLocals := 1, code := jdk_38_method_7_code, exceptionTable := #[], attributes := #[] }
def k13m2 : Method := { name := "grow", desc := "()[Ljava/lang/Object;", sig := { parameters := [], returnType := some (.array (.object "java/lang/Object")) }, accessFlags := 2, code := some k13c2 }
def k13c3 : Code := { maxStack := 1, maxLocals := 1, code := jdk_38_method_9_code, exceptionTable := #[], attributes := #[] }
def k13m3 : Method := { name := "isEmpty", desc := "()Z", sig := { parameters := [], returnType := some .boolean }, accessFlags := 1, code := some k13c3 }
def k13c4 : Code := { maxStack := 2, maxLocals := 1, code := jdk_38_method_16_code, exceptionTable := #[], attributes := #[] }
def k13m4 : Method := { name := "toArray", desc := "()[Ljava/lang/Object;", sig := { parameters := [], returnType := some (.array (.object "java/lang/Object")) }, accessFlags := 1, code := some k13c4 }
def k13c5 : Code := { maxStack := 3, maxLocals := 4, code := jdk_38_method_24_code, exceptionTable := #[], attributes := #[] }
def k13m5 : Method := { name := "add", desc := "(Ljava/lang/Object;[Ljava/lang/Object;I)V", sig := { parameters := [(.object "java/lang/Object"), (.array (.object "java/lang/Object")), .int], returnType := none }, accessFlags := 2, code := some k13c5 }
def k13c6 : Code := { maxStack := 4, maxLocals := 2, code := jdk_38_method_25_code, exceptionTable := #[], attributes := #[] }
def k13m6 : Method := { name := "add", desc := "(Ljava/lang/Object;)Z", sig := { parameters := [(.object "java/lang/Object")], returnType := some .boolean }, accessFlags := 1, code := some k13c6 }
/-- java/util/ArrayList -/
def k13 : Class := { plain "java/util/ArrayList" (some 9) with
  accessFlags := 33
  interfaces := #[8, 10, 11, 12]
  cf := some (fileOf pool13 10 #[.nestMembers #[290, 276, 500, 502, 262, 267]] #[{ accessFlags := 1, nameIndex := 5, descriptorIndex := 6, attributes := #[] }, { accessFlags := 2, nameIndex := 71, descriptorIndex := 72, attributes := #[] }, { accessFlags := 2, nameIndex := 71, descriptorIndex := 47, attributes := #[] }, { accessFlags := 1, nameIndex := 363, descriptorIndex := 173, attributes := #[] }, { accessFlags := 1, nameIndex := 46, descriptorIndex := 47, attributes := #[] }, { accessFlags := 2, nameIndex := 133, descriptorIndex := 134, attributes := #[] }, { accessFlags := 1, nameIndex := 133, descriptorIndex := 96, attributes := #[] }] 33 2 #[148, 329, 331, 333] #[{ accessFlags := 26, nameIndex := 335, descriptorIndex := 336, attributes := #[] }, { accessFlags := 26, nameIndex := 340, descriptorIndex := 51, attributes := #[] }, { accessFlags := 26, nameIndex := 17, descriptorIndex := 14, attributes := #[] }, { accessFlags := 26, nameIndex := 41, descriptorIndex := 14, attributes := #[] }, { accessFlags := 128, nameIndex := 13, descriptorIndex := 14, attributes := #[] }, { accessFlags := 2, nameIndex := 50, descriptorIndex := 51, attributes := #[] }])
  fields := #[{ name := "serialVersionUID", type := .long, accessFlags := 26, slot := 0, constantValue := 0 }, { name := "DEFAULT_CAPACITY", type := .int, accessFlags := 26, slot := 1, constantValue := 0 }, { name := "EMPTY_ELEMENTDATA", type := (.array (.object "java/lang/Object")), accessFlags := 26, slot := 2, constantValue := 0 }, { name := "DEFAULTCAPACITY_EMPTY_ELEMENTDATA", type := (.array (.object "java/lang/Object")), accessFlags := 26, slot := 3, constantValue := 0 }, { name := "elementData", type := (.array (.object "java/lang/Object")), accessFlags := 128, slot := 1, constantValue := 0 }, { name := "size", type := .int, accessFlags := 2, slot := 2, constantValue := 0 }]
  methods := #[k13m0, k13m1, k13m2, k13m3, k13m4, k13m5, k13m6]
  instanceTypes := #[.int, (.array (.object "java/lang/Object")), .int]
  staticTypes := #[.long, .int, (.array (.object "java/lang/Object")), (.array (.object "java/lang/Object"))]
  resolved := Array.replicate 509 none
  statics := some 0 }

def pool14 : Array CpInfo := pool [(1, .methodref 2 3), (0, .class_ 4), (0, .nameAndType 5 6), (0, u "java/lang/Object"), (0, u "<init>"), (0, u "()V"), (0, .interfaceMethodref 8 9), (0, .class_ 10), (0, .nameAndType 11 12), (0, u "java/util/List"), (0, u "copyOf"), (0, u "(Ljava/util/Collection;)Ljava/util/List;"), (0, .fieldref 14 15), (0, .class_ 16), (0, .nameAndType 17 18), (0, u "com/example/clausemap/clausemap/outline/Outline"), (0, u "parts"), (0, u "Ljava/util/List;"), (2, u "partAt"), (0, u "(I)Lcom/example/clausemap/clausemap/outline/Part;"), (3, .class_ 28), (1, u "com/example/clausemap/clausemap/outline/Part"), (2, .interfaceMethodref 8 32), (0, .nameAndType 33 34), (0, u "size"), (0, u "()I"), (0, .interfaceMethodref 8 36), (0, .nameAndType 37 38), (0, u "get"), (0, u "(I)Ljava/lang/Object;"), (0, .methodref 26 40), (0, .nameAndType 41 34), (0, u "start"), (0, u "PREAMBLE"), (0, u "Ljava/lang/String;"), (3, u "(Ljava/util/List;)V")] 12

def k14c0 : Code := { maxStack := 2, maxLocals := 2, code := prog_25_method_1_code, exceptionTable := #[], attributes := #[] }
def k14m0 : Method := { name := "<init>", desc := "(Ljava/util/List;)V", sig := { parameters := [(.object "java/util/List")], returnType := none }, accessFlags := 0, code := some k14c0 }
def k14c1 : Code := { maxStack := 3, maxLocals := 5, code := prog_25_method_4_code, exceptionTable := #[], attributes := #[] }
def k14m1 : Method := { name := "partAt", desc := "(I)Lcom/example/clausemap/clausemap/outline/Part;", sig := { parameters := [.int], returnType := some (.object "com/example/clausemap/clausemap/outline/Part") }, accessFlags := 1, code := some k14c1 }
/-- com/example/clausemap/clausemap/outline/Outline -/
def k14 : Class := { plain "com/example/clausemap/clausemap/outline/Outline" (some 0) with
  accessFlags := 49
  interfaces := #[]
  cf := some (fileOf pool14 14 #[] #[{ accessFlags := 0, nameIndex := 5, descriptorIndex := 47, attributes := #[] }, { accessFlags := 1, nameIndex := 21, descriptorIndex := 22, attributes := #[] }] 49 2 #[] #[{ accessFlags := 25, nameIndex := 42, descriptorIndex := 43, attributes := #[] }, { accessFlags := 18, nameIndex := 17, descriptorIndex := 18, attributes := #[] }])
  fields := #[{ name := "PREAMBLE", type := (.object "java/lang/String"), accessFlags := 25, slot := 0, constantValue := 0 }, { name := "parts", type := (.object "java/util/List"), accessFlags := 18, slot := 0, constantValue := 0 }]
  methods := #[k14m0, k14m1]
  instanceTypes := #[(.object "java/util/List")]
  staticTypes := #[(.object "java/lang/String")]
  resolved := Array.replicate 60 none
  statics := none }

def pool15 : Array CpInfo := pool [(2, .class_ 4), (1, u "java/lang/Object"), (0, u "<init>"), (0, u "()V"), (3, .class_ 11), (0, u "java/util/ImmutableCollections$List12"), (0, .class_ 13), (0, u "java/util/ImmutableCollections$ListN"), (3, u "Z"), (0, .class_ 19), (0, u "java/util/List"), (0, .interfaceMethodref 21 22), (0, .class_ 23), (0, .nameAndType 24 25), (0, u "java/util/Collection"), (0, u "isEmpty"), (0, u "()Z"), (0, .interfaceMethodref 18 27), (0, .nameAndType 28 29), (0, u "of"), (0, u "()Ljava/util/List;"), (0, .interfaceMethodref 21 31), (0, .nameAndType 32 33), (0, u "toArray"), (0, u "()[Ljava/lang/Object;"), (0, .interfaceMethodref 18 35), (0, .nameAndType 28 36), (0, u "([Ljava/lang/Object;)Ljava/util/List;"), (0, .methodref 38 39), (0, .class_ 40), (0, .nameAndType 41 42), (0, u "java/util/Objects"), (0, u "requireNonNull"), (0, u "(Ljava/lang/Object;)Ljava/lang/Object;"), (0, .methodref 12 44), (0, .nameAndType 5 45), (0, u "([Ljava/lang/Object;Z)V"), (1, .class_ 49), (1, u "java/util/ImmutableCollections"), (0, u "$assertionsDisabled"), (5, u "[Ljava/lang/Object;"), (5, u "EMPTY_LIST"), (0, u "Ljava/util/ImmutableCollections$ListN;"), (8, u "EMPTY_LIST_NULLS"), (22, u "SALT32L"), (0, u "J"), (2, u "REVERSE"), (6, u "archivedObjects"), (2, u "EMPTY"), (0, u "Ljava/lang/Object;"), (0, .class_ 112), (0, u "java/util/ImmutableCollections$SetN"), (5, u "EMPTY_SET"), (0, u "Ljava/util/ImmutableCollections$SetN;"), (0, .class_ 121), (0, u "java/util/ImmutableCollections$MapN"), (3, u "EMPTY_MAP"), (0, u "Ljava/util/ImmutableCollections$MapN;"), (4, u "EXPAND_FACTOR"), (0, u "I"), (9, u "listCopy"), (0, u "(Ljava/util/Collection;)Ljava/util/List;"), (7, u "listFromArray"), (17, .class_ 170), (0, u "java/util/ImmutableCollections$MapN$MapNIterator"), (0, .class_ 172), (0, u "java/util/ImmutableCollections$MapN$1"), (0, .class_ 174), (0, u "java/util/ImmutableCollections$Map1"), (0, .class_ 176), (0, u "java/util/ImmutableCollections$AbstractImmutableMap"), (0, .class_ 178), (0, u "java/util/ImmutableCollections$SetN$SetNIterator"), (0, .class_ 180), (0, u "java/util/ImmutableCollections$Set12"), (0, .class_ 182), (0, u "java/util/ImmutableCollections$Set12$1"), (0, .class_ 184), (0, u "java/util/ImmutableCollections$AbstractImmutableSet"), (0, .class_ 186), (0, u "java/util/ImmutableCollections$SubList"), (0, .class_ 188), (0, u "java/util/ImmutableCollections$ListItr"), (0, .class_ 190), (0, u "java/util/ImmutableCollections$AbstractImmutableList"), (0, .class_ 192), (0, u "java/util/ImmutableCollections$AbstractImmutableCollection"), (0, .class_ 194), (0, u "java/util/ImmutableCollections$Access"), (0, .class_ 196), (0, u "java/util/ImmutableCollections$Access$1")] 16

def k15m0 : Method := { name := "<init>", desc := "()V", sig := { parameters := [], returnType := none }, accessFlags := 2, code := none }
def k15c1 : Code := { maxStack := 1, maxLocals := 2, code := jdk_56_method_3_code, exceptionTable := #[], attributes := #[] }
def k15m1 : Method := { name := "listCopy", desc := "(Ljava/util/Collection;)Ljava/util/List;", sig := { parameters := [(.object "java/util/Collection")], returnType := some (.object "java/util/List") }, accessFlags := 8, code := some k15c1 }
def k15c2 : Code := { maxStack := 4, maxLocals := 3, code := jdk_56_method_4_code, exceptionTable := #[], attributes := #[] }
def k15m2 : Method := { name := "listFromArray", desc := "([Ljava/lang/Object;)Ljava/util/List;", sig := { parameters := [(.array (.object "java/lang/Object"))], returnType := some (.object "java/util/List") }, accessFlags := 136, code := some k15c2 }
/-- java/util/ImmutableCollections -/
def k15 : Class := { plain "java/util/ImmutableCollections" (some 0) with
  accessFlags := 32
  interfaces := #[]
  cf := some (fileOf pool15 47 #[.nestMembers #[120, 169, 171, 173, 175, 111, 177, 179, 181, 183, 12, 10, 185, 187, 189, 191, 193, 195]] #[{ accessFlags := 2, nameIndex := 5, descriptorIndex := 6, attributes := #[] }, { accessFlags := 8, nameIndex := 142, descriptorIndex := 143, attributes := #[] }, { accessFlags := 136, nameIndex := 151, descriptorIndex := 36, attributes := #[] }] 32 2 #[] #[{ accessFlags := 26, nameIndex := 95, descriptorIndex := 96, attributes := #[] }, { accessFlags := 26, nameIndex := 99, descriptorIndex := 17, attributes := #[] }, { accessFlags := 10, nameIndex := 106, descriptorIndex := 56, attributes := #[] }, { accessFlags := 26, nameIndex := 109, descriptorIndex := 110, attributes := #[] }, { accessFlags := 24, nameIndex := 62, descriptorIndex := 63, attributes := #[] }, { accessFlags := 24, nameIndex := 72, descriptorIndex := 63, attributes := #[] }, { accessFlags := 24, nameIndex := 118, descriptorIndex := 119, attributes := #[] }, { accessFlags := 24, nameIndex := 125, descriptorIndex := 126, attributes := #[] }, { accessFlags := 24, nameIndex := 131, descriptorIndex := 132, attributes := #[] }, { accessFlags := 4120, nameIndex := 50, descriptorIndex := 17, attributes := #[] }])
  fields := #[{ name := "SALT32L", type := .long, accessFlags := 26, slot := 0, constantValue := 0 }, { name := "REVERSE", type := .boolean, accessFlags := 26, slot := 1, constantValue := 0 }, { name := "archivedObjects", type := (.array (.object "java/lang/Object")), accessFlags := 10, slot := 2, constantValue := 0 }, { name := "EMPTY", type := (.object "java/lang/Object"), accessFlags := 26, slot := 3, constantValue := 0 }, { name := "EMPTY_LIST", type := (.object "java/util/ImmutableCollections$ListN"), accessFlags := 24, slot := 4, constantValue := 0 }, { name := "EMPTY_LIST_NULLS", type := (.object "java/util/ImmutableCollections$ListN"), accessFlags := 24, slot := 5, constantValue := 0 }, { name := "EMPTY_SET", type := (.object "java/util/ImmutableCollections$SetN"), accessFlags := 24, slot := 6, constantValue := 0 }, { name := "EMPTY_MAP", type := (.object "java/util/ImmutableCollections$MapN"), accessFlags := 24, slot := 7, constantValue := 0 }, { name := "EXPAND_FACTOR", type := .int, accessFlags := 24, slot := 8, constantValue := 0 }, { name := "$assertionsDisabled", type := .boolean, accessFlags := 4120, slot := 9, constantValue := 0 }]
  methods := #[k15m0, k15m1, k15m2]
  instanceTypes := #[]
  staticTypes := #[.long, .boolean, (.array (.object "java/lang/Object")), (.object "java/lang/Object"), (.object "java/util/ImmutableCollections$ListN"), (.object "java/util/ImmutableCollections$ListN"), (.object "java/util/ImmutableCollections$SetN"), (.object "java/util/ImmutableCollections$MapN"), .int, .boolean]
  resolved := Array.replicate 213 none
  statics := some 1 }

def pool16 : Array CpInfo := pool [(1, .methodref 2 3), (0, .class_ 4), (0, .nameAndType 5 6), (0, u "java/util/AbstractCollection"), (0, u "<init>"), (0, u "()V"), (1, .class_ 10), (1, u "java/util/ImmutableCollections"), (2, .class_ 14), (0, u "java/util/ImmutableCollections$AbstractImmutableCollection")] 41

def k16c0 : Code := { maxStack := 1, maxLocals := 1, code := jdk_47_method_1_code, exceptionTable := #[], attributes := #[] }
def k16m0 : Method := { name := "<init>", desc := "()V", sig := { parameters := [], returnType := none }, accessFlags := 0, code := some k16c0 }
/-- java/util/ImmutableCollections$AbstractImmutableCollection -/
def k16 : Class := { plain "java/util/ImmutableCollections$AbstractImmutableCollection" (some 6) with
  accessFlags := 1056
  interfaces := #[]
  cf := some (fileOf pool16 13 #[.nestHost 8] #[{ accessFlags := 0, nameIndex := 5, descriptorIndex := 6, attributes := #[] }] 1056 2 #[] #[])
  fields := #[]
  methods := #[k16m0]
  instanceTypes := #[]
  staticTypes := #[]
  resolved := Array.replicate 56 none
  statics := none }

def pool17 : Array CpInfo := pool [(1, .methodref 2 3), (0, .class_ 4), (0, .nameAndType 5 6), (0, u "java/util/ImmutableCollections$AbstractImmutableCollection"), (0, u "<init>"), (0, u "()V"), (1, .class_ 10), (1, u "java/util/ImmutableCollections"), (3, .class_ 16), (1, u "java/util/ImmutableCollections$AbstractImmutableList"), (60, .class_ 78), (0, u "java/util/List"), (45, .class_ 125), (0, u "java/util/RandomAccess")] 70

def k17c0 : Code := { maxStack := 1, maxLocals := 1, code := jdk_46_method_1_code, exceptionTable := #[], attributes := #[] }
def k17m0 : Method := { name := "<init>", desc := "()V", sig := { parameters := [], returnType := none }, accessFlags := 0, code := some k17c0 }
/-- java/util/ImmutableCollections$AbstractImmutableList -/
def k17 : Class := { plain "java/util/ImmutableCollections$AbstractImmutableList" (some 16) with
  accessFlags := 1056
  interfaces := #[8, 10]
  cf := some (fileOf pool17 14 #[.nestHost 8] #[{ accessFlags := 0, nameIndex := 5, descriptorIndex := 6, attributes := #[] }] 1056 2 #[77, 124] #[])
  fields := #[]
  methods := #[k17m0]
  instanceTypes := #[]
  staticTypes := #[]
  resolved := Array.replicate 196 none
  statics := none }

def pool18 : Array CpInfo := pool [(1, .methodref 2 3), (0, .class_ 4), (0, .nameAndType 5 6), (0, u "java/util/ImmutableCollections$AbstractImmutableList"), (0, u "<init>"), (0, u "()V"), (0, .methodref 8 9), (0, .class_ 10), (0, .nameAndType 11 12), (0, u "java/util/Objects"), (0, u "requireNonNull"), (0, u "(Ljava/lang/Object;)Ljava/lang/Object;"), (0, .fieldref 14 15), (0, .class_ 16), (0, .nameAndType 17 18), (0, u "java/util/ImmutableCollections$List12"), (0, u "e0"), (0, u "Ljava/lang/Object;"), (0, .fieldref 20 21), (0, .class_ 22), (0, .nameAndType 23 18), (0, u "java/util/ImmutableCollections"), (0, u "EMPTY"), (0, .fieldref 14 25), (0, .nameAndType 26 18), (0, u "e1"), (24, u "size"), (0, u "()I"), (17, .class_ 71), (0, u "java/io/Serializable"), (4, u "(Ljava/lang/Object;)V"), (8, u "(Ljava/lang/Object;Ljava/lang/Object;)V"), (4, u "get"), (0, u "(I)Ljava/lang/Object;")] 33

def k18c0 : Code := { maxStack := 2, maxLocals := 2, code := jdk_44_method_1_code, exceptionTable := #[], attributes := #[] }
def k18m0 : Method := { name := "<init>", desc := "(Ljava/lang/Object;)V", sig := { parameters := [(.object "java/lang/Object")], returnType := none }, accessFlags := 0, code := some k18c0 }
def k18c1 : Code := { maxStack := 2, maxLocals := 3, code := jdk_44_method_2_code, exceptionTable := #[], attributes := #[] }
def k18m1 : Method := { name := "<init>", desc := "(Ljava/lang/Object;Ljava/lang/Object;)V", sig := { parameters := [(.object "java/lang/Object"), (.object "java/lang/Object")], returnType := none }, accessFlags := 0, code := some k18c1 }
def k18c2 : Code := { maxStack := 2, maxLocals := 1, code := jdk_44_method_3_code, exceptionTable := #[], attributes := #[] }
def k18m2 : Method := { name := "size", desc := "()I", sig := { parameters := [], returnType := some .int }, accessFlags := 1, code := some k18c2 }
def k18c3 : Code := { maxStack := 2, maxLocals := 2, code := jdk_44_method_5_code, exceptionTable := #[], attributes := #[] }
def k18m3 : Method := { name := "get", desc := "(I)Ljava/lang/Object;", sig := { parameters := [.int], returnType := some (.object "java/lang/Object") }, accessFlags := 1, code := some k18c3 }
/-- java/util/ImmutableCollections$List12 -/
def k18 : Class := { plain "java/util/ImmutableCollections$List12" (some 17) with
  accessFlags := 48
  interfaces := #[12]
  cf := some (fileOf pool18 14 #[.nestHost 20] #[{ accessFlags := 0, nameIndex := 5, descriptorIndex := 76, attributes := #[] }, { accessFlags := 0, nameIndex := 5, descriptorIndex := 85, attributes := #[] }, { accessFlags := 1, nameIndex := 51, descriptorIndex := 52, attributes := #[] }, { accessFlags := 1, nameIndex := 90, descriptorIndex := 91, attributes := #[] }] 48 2 #[70] #[{ accessFlags := 18, nameIndex := 17, descriptorIndex := 18, attributes := #[] }, { accessFlags := 18, nameIndex := 26, descriptorIndex := 18, attributes := #[] }])
  fields := #[{ name := "e0", type := (.object "java/lang/Object"), accessFlags := 18, slot := 0, constantValue := 0 }, { name := "e1", type := (.object "java/lang/Object"), accessFlags := 18, slot := 1, constantValue := 0 }]
  methods := #[k18m0, k18m1, k18m2, k18m3]
  instanceTypes := #[(.object "java/lang/Object"), (.object "java/lang/Object")]
  staticTypes := #[]
  resolved := Array.replicate 125 none
  statics := none }

def pool19 : Array CpInfo := pool [(1, .methodref 2 3), (0, .class_ 4), (0, .nameAndType 5 6), (0, u "java/util/ImmutableCollections$AbstractImmutableList"), (0, u "<init>"), (0, u "()V"), (0, .fieldref 8 9), (0, .class_ 10), (0, .nameAndType 11 12), (0, u "java/util/ImmutableCollections$ListN"), (0, u "elements"), (0, u "[Ljava/lang/Object;"), (0, .fieldref 8 14), (0, .nameAndType 15 16), (0, u "allowNulls"), (0, u "Z"), (42, .class_ 60), (0, u "java/io/Serializable"), (4, u "([Ljava/lang/Object;Z)V"), (11, u "size"), (0, u "()I"), (0, u "get"), (0, u "(I)Ljava/lang/Object;"), (33, .class_ 115), (0, u "java/util/ImmutableCollections")] 3

def k19c0 : Code := { maxStack := 2, maxLocals := 3, code := jdk_45_method_1_code, exceptionTable := #[], attributes := #[] }
def k19m0 : Method := { name := "<init>", desc := "([Ljava/lang/Object;Z)V", sig := { parameters := [(.array (.object "java/lang/Object")), .boolean], returnType := none }, accessFlags := 2, code := some k19c0 }
def k19c1 : Code := { maxStack := 1, maxLocals := 1, code := jdk_45_method_3_code, exceptionTable := #[], attributes := #[] }
def k19m1 : Method := { name := "size", desc := "()I", sig := { parameters := [], returnType := some .int }, accessFlags := 1, code := some k19c1 }
def k19c2 : Code := { maxStack := 2, maxLocals := 2, code := jdk_45_method_4_code, exceptionTable := #[], attributes := #[] }
def k19m2 : Method := { name := "get", desc := "(I)Ljava/lang/Object;", sig := { parameters := [.int], returnType := some (.object "java/lang/Object") }, accessFlags := 1, code := some k19c2 }
/-- java/util/ImmutableCollections$ListN -/
def k19 : Class := { plain "java/util/ImmutableCollections$ListN" (some 17) with
  accessFlags := 48
  interfaces := #[12]
  cf := some (fileOf pool19 8 #[.nestHost 114] #[{ accessFlags := 2, nameIndex := 5, descriptorIndex := 65, attributes := #[] }, { accessFlags := 1, nameIndex := 77, descriptorIndex := 78, attributes := #[] }, { accessFlags := 1, nameIndex := 79, descriptorIndex := 80, attributes := #[] }] 48 2 #[59] #[{ accessFlags := 18, nameIndex := 11, descriptorIndex := 12, attributes := #[] }, { accessFlags := 18, nameIndex := 15, descriptorIndex := 16, attributes := #[] }])
  fields := #[{ name := "elements", type := (.array (.object "java/lang/Object")), accessFlags := 18, slot := 0, constantValue := 0 }, { name := "allowNulls", type := .boolean, accessFlags := 18, slot := 1, constantValue := 0 }]
  methods := #[k19m0, k19m1, k19m2]
  instanceTypes := #[(.array (.object "java/lang/Object")), .boolean]
  staticTypes := #[]
  resolved := Array.replicate 119 none
  statics := none }

def pool20 : Array CpInfo := pool [(1, .class_ 2), (0, u "java/lang/Math"), (1, .class_ 6), (1, u "java/lang/Object"), (0, u "<init>"), (0, u "()V"), (89, .class_ 100), (1, u "java/lang/Math$RandomNumberGeneratorHolder"), (20, u "(JJ)J"), (50, u "negativeZeroFloatBits"), (0, u "J"), (2, u "negativeZeroDoubleBits"), (21, u "max"), (2, u "min"), (43, u "$assertionsDisabled"), (0, u "Z"), (88, u "(II)I"), (2, u "twoToTheDoubleScaleDown"), (0, u "D"), (4, u "twoToTheDoubleScaleUp"), (9, u "E"), (3, u "PI"), (2, u "TAU"), (2, u "DEGREES_TO_RADIANS"), (0, u "RADIANS_TO_DEGREES")] 94

def k20m0 : Method := { name := "<init>", desc := "()V", sig := { parameters := [], returnType := none }, accessFlags := 2, code := none }
def k20c1 : Code := { maxStack := 2, maxLocals := 2, code := jdk_29_method_65_code, exceptionTable := #[], attributes := #[] }
def k20m1 : Method := { name := "max", desc := "(II)I", sig := { parameters := [.int, .int], returnType := some .int }, accessFlags := 9, code := some k20c1 }
def k20c2 : Code := { maxStack := 4, maxLocals := 4, code := jdk_29_method_66_code, exceptionTable := #[], attributes := #[] }
def k20m2 : Method := { name := "max", desc := "(JJ)J", sig := { parameters := [.long, .long], returnType := some .long }, accessFlags := 9, code := some k20c2 }
def k20c3 : Code := { maxStack := 2, maxLocals := 2, code := jdk_29_method_69_code, exceptionTable := #[], attributes := #[] }
def k20m3 : Method := { name := "min", desc := "(II)I", sig := { parameters := [.int, .int], returnType := some .int }, accessFlags := 9, code := some k20c3 }
def k20c4 : Code := { maxStack := 4, maxLocals := 4, code := jdk_29_method_70_code, exceptionTable := #[], attributes := #[] }
def k20m4 : Method := { name := "min", desc := "(JJ)J", sig := { parameters := [.long, .long], returnType := some .long }, accessFlags := 9, code := some k20c4 }
/-- java/lang/Math -/
def k20 : Class := { plain "java/lang/Math" (some 0) with
  accessFlags := 49
  interfaces := #[]
  cf := some (fileOf pool20 1 #[.nestMembers #[98]] #[{ accessFlags := 2, nameIndex := 7, descriptorIndex := 8, attributes := #[] }, { accessFlags := 9, nameIndex := 198, descriptorIndex := 335, attributes := #[] }, { accessFlags := 9, nameIndex := 198, descriptorIndex := 121, attributes := #[] }, { accessFlags := 9, nameIndex := 201, descriptorIndex := 335, attributes := #[] }, { accessFlags := 9, nameIndex := 201, descriptorIndex := 121, attributes := #[] }] 49 4 #[] #[{ accessFlags := 25, nameIndex := 354, descriptorIndex := 339, attributes := #[] }, { accessFlags := 25, nameIndex := 358, descriptorIndex := 339, attributes := #[] }, { accessFlags := 25, nameIndex := 361, descriptorIndex := 339, attributes := #[] }, { accessFlags := 26, nameIndex := 364, descriptorIndex := 339, attributes := #[] }, { accessFlags := 26, nameIndex := 365, descriptorIndex := 339, attributes := #[] }, { accessFlags := 26, nameIndex := 172, descriptorIndex := 173, attributes := #[] }, { accessFlags := 26, nameIndex := 176, descriptorIndex := 173, attributes := #[] }, { accessFlags := 8, nameIndex := 344, descriptorIndex := 339, attributes := #[] }, { accessFlags := 8, nameIndex := 338, descriptorIndex := 339, attributes := #[] }, { accessFlags := 4120, nameIndex := 245, descriptorIndex := 246, attributes := #[] }])
  fields := #[{ name := "E", type := .double, accessFlags := 25, slot := 0, constantValue := 0 }, { name := "PI", type := .double, accessFlags := 25, slot := 1, constantValue := 0 }, { name := "TAU", type := .double, accessFlags := 25, slot := 2, constantValue := 0 }, { name := "DEGREES_TO_RADIANS", type := .double, accessFlags := 26, slot := 3, constantValue := 0 }, { name := "RADIANS_TO_DEGREES", type := .double, accessFlags := 26, slot := 4, constantValue := 0 }, { name := "negativeZeroFloatBits", type := .long, accessFlags := 26, slot := 5, constantValue := 0 }, { name := "negativeZeroDoubleBits", type := .long, accessFlags := 26, slot := 6, constantValue := 0 }, { name := "twoToTheDoubleScaleUp", type := .double, accessFlags := 8, slot := 7, constantValue := 0 }, { name := "twoToTheDoubleScaleDown", type := .double, accessFlags := 8, slot := 8, constantValue := 0 }, { name := "$assertionsDisabled", type := .boolean, accessFlags := 4120, slot := 9, constantValue := 0 }]
  methods := #[k20m0, k20m1, k20m2, k20m3, k20m4]
  instanceTypes := #[]
  staticTypes := #[.double, .double, .double, .double, .double, .long, .long, .double, .double, .boolean]
  resolved := Array.replicate 460 none
  statics := none }

def pool21 : Array CpInfo := pool [(2, .class_ 4), (1, u "java/lang/Object"), (0, u "<init>"), (0, u "()V"), (7, .class_ 16), (1, u "java/util/Arrays"), (57, .class_ 76), (1, u "java/util/Arrays$NaturalOrder"), (9, .methodref 2 87), (0, .nameAndType 88 89), (0, u "getClass"), (0, u "()Ljava/lang/Class;"), (20, .class_ 111), (0, u "[Ljava/lang/Object;"), (1, .class_ 115), (1, u "java/util/Arrays$LegacyMergeSort"), (1, u "Z"), (32, .methodref 151 152), (0, .class_ 153), (0, .nameAndType 154 155), (0, u "java/lang/System"), (0, u "arraycopy"), (0, u "(Ljava/lang/Object;ILjava/lang/Object;II)V"), (144, .methodref 14 301), (0, .nameAndType 302 303), (0, u "copyOf"), (0, u "([Ljava/lang/Object;ILjava/lang/Class;)[Ljava/lang/Object;"), (0, .methodref 305 306), (0, .class_ 307), (0, .nameAndType 308 309), (0, u "java/lang/Math"), (0, u "min"), (0, u "(II)I"), (65, .class_ 376), (0, u "java/util/Arrays$ArrayList"), (68, u "$assertionsDisabled"), (269, u "MIN_ARRAY_SORT_GRAN"), (0, u "I"), (2, u "INSERTIONSORT_THRESHOLD"), (140, u "([Ljava/lang/Object;I)[Ljava/lang/Object;"), (114, .class_ 976), (0, u "java/util/Arrays$ArrayItr")] 52

def k21m0 : Method := { name := "<init>", desc := "()V", sig := { parameters := [], returnType := none }, accessFlags := 2, code := none }
def k21c1 : Code := { maxStack := 3, maxLocals := 2, code := jdk_65_method_119_code, exceptionTable := #[], attributes := #[] }
def k21m1 : Method := { name := "copyOf", desc := "([Ljava/lang/Object;I)[Ljava/lang/Object;", sig := { parameters := [(.array (.object "java/lang/Object")), .int], returnType := some (.array (.object "java/lang/Object")) }, accessFlags := 9, code := some k21c1 }
def k21c2 : Code := { maxStack := 6, maxLocals := 4, code := jdk_65_method_120_code, exceptionTable := #[], attributes := #[] }
def k21m2 : Method := { name := "copyOf", desc := "([Ljava/lang/Object;ILjava/lang/Class;)[Ljava/lang/Object;", sig := { parameters := [(.array (.object "java/lang/Object")), .int, (.object "java/lang/Class")], returnType := some (.array (.object "java/lang/Object")) }, accessFlags := 9, code := some k21c2 }
/-- java/util/Arrays -/
def k21 : Class := { plain "java/util/Arrays" (some 0) with
  accessFlags := 49
  interfaces := #[]
  cf := some (fileOf pool21 14 #[.nestMembers #[975, 375, 113, 74]] #[{ accessFlags := 2, nameIndex := 5, descriptorIndex := 6, attributes := #[] }, { accessFlags := 9, nameIndex := 302, descriptorIndex := 860, attributes := #[] }, { accessFlags := 9, nameIndex := 302, descriptorIndex := 303, attributes := #[] }] 49 2 #[] #[{ accessFlags := 26, nameIndex := 715, descriptorIndex := 716, attributes := #[] }, { accessFlags := 26, nameIndex := 719, descriptorIndex := 716, attributes := #[] }, { accessFlags := 4120, nameIndex := 445, descriptorIndex := 117, attributes := #[] }])
  fields := #[{ name := "MIN_ARRAY_SORT_GRAN", type := .int, accessFlags := 26, slot := 0, constantValue := 0 }, { name := "INSERTIONSORT_THRESHOLD", type := .int, accessFlags := 26, slot := 1, constantValue := 0 }, { name := "$assertionsDisabled", type := .boolean, accessFlags := 4120, slot := 2, constantValue := 0 }]
  methods := #[k21m0, k21m1, k21m2]
  instanceTypes := #[]
  staticTypes := #[.int, .int, .boolean]
  resolved := Array.replicate 1029 none
  statics := none }

def pool22 : Array CpInfo := pool [(2, .class_ 4), (1, u "java/lang/Object"), (0, u "<init>"), (0, u "()V"), (1, .class_ 10), (1, u "java/lang/System"), (0, u "allowSecurityManager"), (0, u "I"), (16, u "cons"), (0, u "Ljava/io/Console;"), (77, .class_ 110), (1, u "java/lang/System$CallersHolder"), (43, u "initialErrStream"), (0, u "Ljava/io/PrintStream;"), (19, u "security"), (0, u "Ljava/lang/SecurityManager;"), (31, .class_ 209), (0, u "java/lang/System$1"), (7, u "props"), (0, u "Ljava/util/Properties;"), (2, u "lineSeparator"), (0, u "Ljava/lang/String;"), (96, .class_ 321), (1, u "java/lang/System$LoggerFinder"), (5, .class_ 328), (0, u "java/lang/System$Logger"), (67, u "err"), (2, u "out"), (91, u "notSupportedJnuEncoding"), (15, u "in"), (17, u "initialIn"), (0, u "Ljava/io/InputStream;"), (35, u "bootLayer"), (0, u "Ljava/lang/ModuleLayer;"), (99, .class_ 664), (0, u "java/lang/System$2"), (9, u "NEVER"), (2, u "MAYBE"), (49, u "arraycopy"), (0, u "(Ljava/lang/Object;ILjava/lang/Object;II)V"), (72, .class_ 802), (0, u "java/lang/System$Logger$Level")] 31

def k22m0 : Method := { name := "<init>", desc := "()V", sig := { parameters := [], returnType := none }, accessFlags := 2, code := none }
def k22m1 : Method := { name := "arraycopy", desc := "(Ljava/lang/Object;ILjava/lang/Object;II)V", sig := { parameters := [(.object "java/lang/Object"), .int, (.object "java/lang/Object"), .int, .int], returnType := none }, accessFlags := 265, code := none }
/-- java/lang/System -/
def k22 : Class := { plain "java/lang/System" (some 0) with
  accessFlags := 49
  interfaces := #[]
  cf := some (fileOf pool22 8 #[.nestMembers #[319, 327, 801, 108, 663, 208]] #[{ accessFlags := 2, nameIndex := 5, descriptorIndex := 6, attributes := #[] }, { accessFlags := 265, nameIndex := 727, descriptorIndex := 728, attributes := #[] }] 49 2 #[] #[{ accessFlags := 25, nameIndex := 507, descriptorIndex := 526, attributes := #[] }, { accessFlags := 25, nameIndex := 399, descriptorIndex := 155, attributes := #[] }, { accessFlags := 25, nameIndex := 396, descriptorIndex := 155, attributes := #[] }, { accessFlags := 10, nameIndex := 525, descriptorIndex := 526, attributes := #[] }, { accessFlags := 26, nameIndex := 674, descriptorIndex := 12, attributes := #[] }, { accessFlags := 26, nameIndex := 677, descriptorIndex := 12, attributes := #[] }, { accessFlags := 10, nameIndex := 11, descriptorIndex := 12, attributes := #[] }, { accessFlags := 74, nameIndex := 175, descriptorIndex := 176, attributes := #[] }, { accessFlags := 10, nameIndex := 491, descriptorIndex := 222, attributes := #[] }, { accessFlags := 74, nameIndex := 29, descriptorIndex := 30, attributes := #[] }, { accessFlags := 74, nameIndex := 154, descriptorIndex := 155, attributes := #[] }, { accessFlags := 10, nameIndex := 217, descriptorIndex := 218, attributes := #[] }, { accessFlags := 10, nameIndex := 221, descriptorIndex := 222, attributes := #[] }, { accessFlags := 8, nameIndex := 562, descriptorIndex := 563, attributes := #[] }])
  fields := #[{ name := "in", type := (.object "java/io/InputStream"), accessFlags := 25, slot := 0, constantValue := 0 }, { name := "out", type := (.object "java/io/PrintStream"), accessFlags := 25, slot := 1, constantValue := 0 }, { name := "err", type := (.object "java/io/PrintStream"), accessFlags := 25, slot := 2, constantValue := 0 }, { name := "initialIn", type := (.object "java/io/InputStream"), accessFlags := 10, slot := 3, constantValue := 0 }, { name := "NEVER", type := .int, accessFlags := 26, slot := 4, constantValue := 0 }, { name := "MAYBE", type := .int, accessFlags := 26, slot := 5, constantValue := 0 }, { name := "allowSecurityManager", type := .int, accessFlags := 10, slot := 6, constantValue := 0 }, { name := "security", type := (.object "java/lang/SecurityManager"), accessFlags := 74, slot := 7, constantValue := 0 }, { name := "notSupportedJnuEncoding", type := (.object "java/lang/String"), accessFlags := 10, slot := 8, constantValue := 0 }, { name := "cons", type := (.object "java/io/Console"), accessFlags := 74, slot := 9, constantValue := 0 }, { name := "initialErrStream", type := (.object "java/io/PrintStream"), accessFlags := 74, slot := 10, constantValue := 0 }, { name := "props", type := (.object "java/util/Properties"), accessFlags := 10, slot := 11, constantValue := 0 }, { name := "lineSeparator", type := (.object "java/lang/String"), accessFlags := 10, slot := 12, constantValue := 0 }, { name := "bootLayer", type := (.object "java/lang/ModuleLayer"), accessFlags := 8, slot := 13, constantValue := 0 }]
  methods := #[k22m0, k22m1]
  instanceTypes := #[]
  staticTypes := #[(.object "java/io/InputStream"), (.object "java/io/PrintStream"), (.object "java/io/PrintStream"), (.object "java/io/InputStream"), .int, .int, .int, (.object "java/lang/SecurityManager"), (.object "java/lang/String"), (.object "java/io/Console"), (.object "java/io/PrintStream"), (.object "java/util/Properties"), (.object "java/lang/String"), (.object "java/lang/ModuleLayer")]
  resolved := Array.replicate 834 none
  statics := none }

def pool23 : Array CpInfo := pool [(2, .class_ 4), (1, u "java/lang/Object"), (0, u "<init>"), (0, u "()V"), (35, .class_ 44), (1, u "java/util/Objects"), (0, u "requireNonNull"), (0, u "(Ljava/lang/Object;)Ljava/lang/Object;")] 137

def k23m0 : Method := { name := "<init>", desc := "()V", sig := { parameters := [], returnType := none }, accessFlags := 2, code := none }
def k23c1 : Code := { maxStack := 2, maxLocals := 1, code := jdk_31_method_10_code, exceptionTable := #[], attributes := #[] }
def k23m1 : Method := { name := "requireNonNull", desc := "(Ljava/lang/Object;)Ljava/lang/Object;", sig := { parameters := [(.object "java/lang/Object")], returnType := some (.object "java/lang/Object") }, accessFlags := 9, code := some k23c1 }
/-- java/util/Objects -/
def k23 : Class := { plain "java/util/Objects" (some 0) with
  accessFlags := 49
  interfaces := #[]
  cf := some (fileOf pool23 42 #[] #[{ accessFlags := 2, nameIndex := 5, descriptorIndex := 6, attributes := #[] }, { accessFlags := 9, nameIndex := 45, descriptorIndex := 46, attributes := #[] }] 49 2 #[] #[])
  fields := #[]
  methods := #[k23m0, k23m1]
  instanceTypes := #[]
  staticTypes := #[]
  resolved := Array.replicate 184 none
  statics := none }

/-- the primitive byte -/
def k24 : Class := { plain "byte" none with kind := .primitive 'B', accessFlags := 0x411 }
/-- [B -/
def k25 : Class := { plain "[B" (some 0) with kind := .array 24 .byte, interfaces := #[11, 12], accessFlags := 1041 }

/-- the primitive int -/
def k26 : Class := { plain "int" none with kind := .primitive 'I', accessFlags := 0x411 }
/-- [I -/
def k27 : Class := { plain "[I" (some 0) with kind := .array 26 .int, interfaces := #[11, 12], accessFlags := 1041 }

/-- [Ljava/lang/Object; -/
def k28 : Class := { plain "[Ljava/lang/Object;" (some 0) with kind := .array 0 (.object "java/lang/Object"), interfaces := #[11, 12], accessFlags := 1041, mirror := some 6 }

def heap : Heap := #[{ cls := 13, slots := #[.long 0, .int 0, .ref 2, .ref 3], vm := .statics 13 },
  { cls := 15, slots := #[.long 0, .int 0, .null, .ref 5, .ref 4, .null, .null, .null, .int 0, .int 1], vm := .statics 15 },
  { cls := 28, slots := #[], vm := .none },
  { cls := 28, slots := #[], vm := .none },
  { cls := 19, slots := #[.ref 3, .int 0], vm := .none },
  { cls := 0, slots := #[], vm := .none },
  { cls := 0, slots := #[], vm := .mirror 28 }]
def classes : Array Class := #[k0, k1, k2, k3, k4, k5, k6, k7, k8, k9, k10, k11, k12, k13, k14, k15, k16, k17, k18, k19, k20, k21, k22, k23, k24, k25, k26, k27, k28]
def interned : List (Array UInt16 × Addr) := []
def slotsUsed : Nat := 16
def theMethod : MethodId := ⟨1, 1⟩
def args0 : Array Value := #[.int 7, .int 5, .int 3, .int 2, .int 1]
def aboutOver (below : List Frame) : State where
  vm := { classes := classes, interned := interned.toArray }
  heap := heap
  slotsUsed := slotsUsed
  threads := #[{ frames := .invoking theMethod args0 :: below }]
def below0 : List Frame := [.native { method := ⟨0, 0⟩, args := #[] }]
def about1 : State := aboutOver below0
def p0 : Program := .bare "" "" ""
def e0 : Env := launch0.env 0 0 0
theorem w_frames : about1.frames = Frame.invoking theMethod args0 :: below0 := rfl
set_option maxRecDepth 65536 in
theorem w_args : argsFit about1.vm theMethod args0 = true := by decide +kernel
set_option maxRecDepth 65536 in
theorem w_heap : heapFits about1 = true := by decide +kernel
set_option maxRecDepth 65536 in
theorem w_runnable : about1.curStatus? = some .runnable := by decide +kernel
set_option maxRecDepth 65536 in
theorem w_alone : about1.alone = true := by decide +kernel
set_option maxRecDepth 65536 in
theorem w_named : about1.methodNamed? x = some theMethod := by decide +kernel
set_option maxRecDepth 65536 in
theorem w_hears : about1.hears theMethod below0 = true := by decide +kernel
set_option maxRecDepth 65536 in
theorem w_ripe : about1.ripe theMethod args0 below0 = true := by decide +kernel
theorem w_running : about1.status = .running := rfl
set_option maxRecDepth 65536 in
theorem w_room : about1.hasRoom e0.platform room_1 = true :=
  launch0.hasRoom_least _ room_1 (by decide +kernel) (by decide +kernel) (by decide +kernel) (by decide +kernel) (by decide +kernel) (by decide +kernel)
theorem allAtoms_all (ts : List Jvm.Cond) (a : Array Jvm.Value) (st : Jvm.State) : (allAtoms ts).before a st = ts.all (fun c => c.before a st) := by
  induction ts with
  | nil => rfl
  | cons c t ih =>
    show (Jvm.Cond.and c (allAtoms t)).before a st = _
    rw [Jvm.Cond.before_and, ih, List.all_cons]
def words1 : List Jvm.Cond := Jvm.Cond.code x code maxLocals ret :: tables_1
/-- a 'code' word, met by the world's own term for the bytes: nothing is compared byte by byte -/
theorem code_word {y : MethodName} {bytes : ByteArray} {mx : Nat} {rt : Option FieldType} {a : Array Value} {s : State} {m : MethodId} {meth : Method} {c : Code} (h1 : s.methodNamed? y = some m) (h2 : s.vm.method? m = some meth) (h3 : meth.code = some c) (h4 : c.code = bytes)
    (h5 : (c.maxLocals == mx && c.exceptionTable.isEmpty && decide (c.maxStack ≤ mostOperands) && decide (meth.sig.returnType = rt) && !meth.locks && decide (parseMethodDescriptor y.desc = some meth.sig)) = true) : (Jvm.Cond.code y bytes mx rt).before a s = true := by
  simp only [Bool.and_eq_true, beq_iff_eq, Bool.not_eq_true', decide_eq_true_eq] at h5
  obtain ⟨⟨⟨⟨⟨g1, g2⟩, g3⟩, g4⟩, g5⟩, g6⟩ := h5
  simp [Cond.before, Cond.holds, Cond.value, h1, h2, h3, h4, g1, g2, g3, g4, g5, g6]
def isCode : Jvm.Cond → Bool
  | .code _ _ _ _ => true
  | _ => false
theorem all_split {L : List Jvm.Cond} {P : Jvm.Cond → Bool} (h1 : L.all (fun c => isCode c || P c) = true) (h2 : ∀ c ∈ L.filter isCode, P c = true) : L.all P = true := by
  refine List.all_eq_true.mpr fun c hc => ?_
  have h := List.all_eq_true.mp h1 c hc
  rcases Bool.eq_false_or_eq_true (isCode c) with hi | hi
  · exact h2 c (List.mem_filter.mpr ⟨hc, hi⟩)
  · simpa [hi] using h
set_option maxRecDepth 65536 in
theorem w_c0 : (Jvm.Cond.code x code maxLocals ret).before args0 about1 = true := code_word (m := ⟨1, 1⟩) (meth := k1m1) (c := k1c1) (by decide +kernel) rfl rfl rfl (by decide +kernel)
set_option maxRecDepth 65536 in
theorem w_c1 : (Jvm.Cond.code ({ cls := "com/example/clausemap/clausemap/outline/Part", name := "<init>", desc := "(Lcom/example/clausemap/clausemap/outline/Part;Lcom/example/clausemap/clausemap/outline/Part$Kind;Ljava/lang/String;Ljava/lang/String;II)V" } : Jvm.MethodName) prog_32_method_1_code (7 : Nat) (Option.none : Option Jvm.ClassFile.FieldType)).before args0 about1 = true := code_word (m := ⟨3, 0⟩) (meth := k3m0) (c := k3c0) (by decide +kernel) rfl rfl rfl (by decide +kernel)
set_option maxRecDepth 65536 in
theorem w_c2 : (Jvm.Cond.code ({ cls := "java/lang/Record", name := "<init>", desc := "()V" } : Jvm.MethodName) jdk_30_method_1_code (1 : Nat) (Option.none : Option Jvm.ClassFile.FieldType)).before args0 about1 = true := code_word (m := ⟨2, 0⟩) (meth := k2m0) (c := k2c0) (by decide +kernel) rfl rfl rfl (by decide +kernel)
set_option maxRecDepth 65536 in
theorem w_c3 : (Jvm.Cond.code ({ cls := "java/lang/Object", name := "<init>", desc := "()V" } : Jvm.MethodName) object_method_1_code (1 : Nat) (Option.none : Option Jvm.ClassFile.FieldType)).before args0 about1 = true := code_word (m := ⟨0, 0⟩) (meth := k0m0) (c := k0c0) (by decide +kernel) rfl rfl rfl (by decide +kernel)
set_option maxRecDepth 65536 in
theorem w_c4 : (Jvm.Cond.code ({ cls := "java/util/ArrayList", name := "<init>", desc := "()V" } : Jvm.MethodName) jdk_38_method_2_code (1 : Nat) (Option.none : Option Jvm.ClassFile.FieldType)).before args0 about1 = true := code_word (m := ⟨13, 0⟩) (meth := k13m0) (c := k13c0) (by decide +kernel) rfl rfl rfl (by decide +kernel)
set_option maxRecDepth 65536 in
theorem w_c5 : (Jvm.Cond.code ({ cls := "java/util/AbstractList", name := "<init>", desc := "()V" } : Jvm.MethodName) jdk_39_method_1_code (1 : Nat) (Option.none : Option Jvm.ClassFile.FieldType)).before args0 about1 = true := code_word (m := ⟨9, 0⟩) (meth := k9m0) (c := k9c0) (by decide +kernel) rfl rfl rfl (by decide +kernel)
set_option maxRecDepth 65536 in
theorem w_c6 : (Jvm.Cond.code ({ cls := "java/util/AbstractCollection", name := "<init>", desc := "()V" } : Jvm.MethodName) jdk_22_method_1_code (1 : Nat) (Option.none : Option Jvm.ClassFile.FieldType)).before args0 about1 = true := code_word (m := ⟨6, 0⟩) (meth := k6m0) (c := k6c0) (by decide +kernel) rfl rfl rfl (by decide +kernel)
set_option maxRecDepth 65536 in
theorem w_c7 : (Jvm.Cond.code ({ cls := "com/example/clausemap/clausemap/outline/Outline", name := "<init>", desc := "(Ljava/util/List;)V" } : Jvm.MethodName) prog_25_method_1_code (2 : Nat) (Option.none : Option Jvm.ClassFile.FieldType)).before args0 about1 = true := code_word (m := ⟨14, 0⟩) (meth := k14m0) (c := k14c0) (by decide +kernel) rfl rfl rfl (by decide +kernel)
set_option maxRecDepth 65536 in
theorem w_c8 : (Jvm.Cond.code ({ cls := "java/util/List", name := "copyOf", desc := "(Ljava/util/Collection;)Ljava/util/List;" } : Jvm.MethodName) jdk_40_method_48_code (1 : Nat) (Option.some (Jvm.ClassFile.FieldType.object "java/util/List"))).before args0 about1 = true := code_word (m := ⟨8, 4⟩) (meth := k8m4) (c := k8c4) (by decide +kernel) rfl rfl rfl (by decide +kernel)
set_option maxRecDepth 65536 in
theorem w_c9 : (Jvm.Cond.code ({ cls := "java/util/ImmutableCollections", name := "listCopy", desc := "(Ljava/util/Collection;)Ljava/util/List;" } : Jvm.MethodName) jdk_56_method_3_code (2 : Nat) (Option.some (Jvm.ClassFile.FieldType.object "java/util/List"))).before args0 about1 = true := code_word (m := ⟨15, 1⟩) (meth := k15m1) (c := k15c1) (by decide +kernel) rfl rfl rfl (by decide +kernel)
set_option maxRecDepth 65536 in
theorem w_c10 : (Jvm.Cond.code ({ cls := "java/util/ArrayList", name := "isEmpty", desc := "()Z" } : Jvm.MethodName) jdk_38_method_9_code (1 : Nat) (Option.some Jvm.ClassFile.FieldType.boolean)).before args0 about1 = true := code_word (m := ⟨13, 3⟩) (meth := k13m3) (c := k13c3) (by decide +kernel) rfl rfl rfl (by decide +kernel)
set_option maxRecDepth 65536 in
theorem w_c11 : (Jvm.Cond.code ({ cls := "java/util/List", name := "of", desc := "()Ljava/util/List;" } : Jvm.MethodName) jdk_40_method_36_code (0 : Nat) (Option.some (Jvm.ClassFile.FieldType.object "java/util/List"))).before args0 about1 = true := code_word (m := ⟨8, 2⟩) (meth := k8m2) (c := k8c2) (by decide +kernel) rfl rfl rfl (by decide +kernel)
set_option maxRecDepth 65536 in
theorem w_c12 : (Jvm.Cond.code ({ cls := "java/lang/Math", name := "min", desc := "(JJ)J" } : Jvm.MethodName) jdk_29_method_70_code (4 : Nat) (Option.some Jvm.ClassFile.FieldType.long)).before args0 about1 = true := code_word (m := ⟨20, 4⟩) (meth := k20m4) (c := k20c4) (by decide +kernel) rfl rfl rfl (by decide +kernel)
set_option maxRecDepth 65536 in
theorem w_c13 : (Jvm.Cond.code ({ cls := "java/lang/Math", name := "max", desc := "(JJ)J" } : Jvm.MethodName) jdk_29_method_66_code (4 : Nat) (Option.some Jvm.ClassFile.FieldType.long)).before args0 about1 = true := code_word (m := ⟨20, 2⟩) (meth := k20m2) (c := k20c2) (by decide +kernel) rfl rfl rfl (by decide +kernel)
set_option maxRecDepth 65536 in
theorem w_c14 : (Jvm.Cond.code ({ cls := "com/example/clausemap/clausemap/outline/Outline", name := "partAt", desc := "(I)Lcom/example/clausemap/clausemap/outline/Part;" } : Jvm.MethodName) prog_25_method_4_code (5 : Nat) (Option.some (Jvm.ClassFile.FieldType.object "com/example/clausemap/clausemap/outline/Part"))).before args0 about1 = true := code_word (m := ⟨14, 1⟩) (meth := k14m1) (c := k14c1) (by decide +kernel) rfl rfl rfl (by decide +kernel)
set_option maxRecDepth 65536 in
theorem w_c15 : (Jvm.Cond.code ({ cls := "java/util/ImmutableCollections$ListN", name := "size", desc := "()I" } : Jvm.MethodName) jdk_45_method_3_code (1 : Nat) (Option.some Jvm.ClassFile.FieldType.int)).before args0 about1 = true := code_word (m := ⟨19, 1⟩) (meth := k19m1) (c := k19c1) (by decide +kernel) rfl rfl rfl (by decide +kernel)
set_option maxRecDepth 65536 in
theorem w_c16 : (Jvm.Cond.code ({ cls := "java/util/ArrayList", name := "add", desc := "(Ljava/lang/Object;)Z" } : Jvm.MethodName) jdk_38_method_25_code (2 : Nat) (Option.some Jvm.ClassFile.FieldType.boolean)).before args0 about1 = true := code_word (m := ⟨13, 6⟩) (meth := k13m6) (c := k13c6) (by decide +kernel) rfl rfl rfl (by decide +kernel)
set_option maxRecDepth 65536 in
theorem w_c17 : (Jvm.Cond.code ({ cls := "java/util/ArrayList", name := "add", desc := "(Ljava/lang/Object;[Ljava/lang/Object;I)V" } : Jvm.MethodName) jdk_38_method_24_code (4 : Nat) (Option.none : Option Jvm.ClassFile.FieldType)).before args0 about1 = true := code_word (m := ⟨13, 5⟩) (meth := k13m5) (c := k13c5) (by decide +kernel) rfl rfl rfl (by decide +kernel)
set_option maxRecDepth 65536 in
theorem w_c18 : (Jvm.Cond.code ({ cls := "java/util/ArrayList", name := "grow", desc := "()[Ljava/lang/Object;" } : Jvm.MethodName) jdk_38_method_7_code (1 : Nat) (Option.some (Jvm.ClassFile.FieldType.array (Jvm.ClassFile.FieldType.object "java/lang/Object")))).before args0 about1 = true := code_word (m := ⟨13, 2⟩) (meth := k13m2) (c := k13c2) (by decide +kernel) rfl rfl rfl (by decide +kernel)
set_option maxRecDepth 65536 in
theorem w_c19 : (Jvm.Cond.code ({ cls := "java/util/ArrayList", name := "grow", desc := "(I)[Ljava/lang/Object;" } : Jvm.MethodName) jdk_38_method_6_code (4 : Nat) (Option.some (Jvm.ClassFile.FieldType.array (Jvm.ClassFile.FieldType.object "java/lang/Object")))).before args0 about1 = true := code_word (m := ⟨13, 1⟩) (meth := k13m1) (c := k13c1) (by decide +kernel) rfl rfl rfl (by decide +kernel)
set_option maxRecDepth 65536 in
theorem w_c20 : (Jvm.Cond.code ({ cls := "java/lang/Math", name := "max", desc := "(II)I" } : Jvm.MethodName) jdk_29_method_65_code (2 : Nat) (Option.some Jvm.ClassFile.FieldType.int)).before args0 about1 = true := code_word (m := ⟨20, 1⟩) (meth := k20m1) (c := k20c1) (by decide +kernel) rfl rfl rfl (by decide +kernel)
set_option maxRecDepth 65536 in
theorem w_c21 : (Jvm.Cond.code ({ cls := "java/util/ArrayList", name := "toArray", desc := "()[Ljava/lang/Object;" } : Jvm.MethodName) jdk_38_method_16_code (1 : Nat) (Option.some (Jvm.ClassFile.FieldType.array (Jvm.ClassFile.FieldType.object "java/lang/Object")))).before args0 about1 = true := code_word (m := ⟨13, 4⟩) (meth := k13m4) (c := k13c4) (by decide +kernel) rfl rfl rfl (by decide +kernel)
set_option maxRecDepth 65536 in
theorem w_c22 : (Jvm.Cond.code ({ cls := "java/util/Arrays", name := "copyOf", desc := "([Ljava/lang/Object;I)[Ljava/lang/Object;" } : Jvm.MethodName) jdk_65_method_119_code (2 : Nat) (Option.some (Jvm.ClassFile.FieldType.array (Jvm.ClassFile.FieldType.object "java/lang/Object")))).before args0 about1 = true := code_word (m := ⟨21, 1⟩) (meth := k21m1) (c := k21c1) (by decide +kernel) rfl rfl rfl (by decide +kernel)
set_option maxRecDepth 65536 in
theorem w_c23 : (Jvm.Cond.code ({ cls := "java/util/Arrays", name := "copyOf", desc := "([Ljava/lang/Object;ILjava/lang/Class;)[Ljava/lang/Object;" } : Jvm.MethodName) jdk_65_method_120_code (4 : Nat) (Option.some (Jvm.ClassFile.FieldType.array (Jvm.ClassFile.FieldType.object "java/lang/Object")))).before args0 about1 = true := code_word (m := ⟨21, 2⟩) (meth := k21m2) (c := k21c2) (by decide +kernel) rfl rfl rfl (by decide +kernel)
set_option maxRecDepth 65536 in
theorem w_c24 : (Jvm.Cond.code ({ cls := "java/lang/Math", name := "min", desc := "(II)I" } : Jvm.MethodName) jdk_29_method_69_code (2 : Nat) (Option.some Jvm.ClassFile.FieldType.int)).before args0 about1 = true := code_word (m := ⟨20, 3⟩) (meth := k20m3) (c := k20c3) (by decide +kernel) rfl rfl rfl (by decide +kernel)
set_option maxRecDepth 65536 in
theorem w_c25 : (Jvm.Cond.code ({ cls := "java/util/List", name := "of", desc := "([Ljava/lang/Object;)Ljava/util/List;" } : Jvm.MethodName) jdk_40_method_47_code (2 : Nat) (Option.some (Jvm.ClassFile.FieldType.object "java/util/List"))).before args0 about1 = true := code_word (m := ⟨8, 3⟩) (meth := k8m3) (c := k8c3) (by decide +kernel) rfl rfl rfl (by decide +kernel)
set_option maxRecDepth 65536 in
theorem w_c26 : (Jvm.Cond.code ({ cls := "java/util/ImmutableCollections", name := "listFromArray", desc := "([Ljava/lang/Object;)Ljava/util/List;" } : Jvm.MethodName) jdk_56_method_4_code (3 : Nat) (Option.some (Jvm.ClassFile.FieldType.object "java/util/List"))).before args0 about1 = true := code_word (m := ⟨15, 2⟩) (meth := k15m2) (c := k15c2) (by decide +kernel) rfl rfl rfl (by decide +kernel)
set_option maxRecDepth 65536 in
theorem w_c27 : (Jvm.Cond.code ({ cls := "java/util/Objects", name := "requireNonNull", desc := "(Ljava/lang/Object;)Ljava/lang/Object;" } : Jvm.MethodName) jdk_31_method_10_code (1 : Nat) (Option.some (Jvm.ClassFile.FieldType.object "java/lang/Object"))).before args0 about1 = true := code_word (m := ⟨23, 1⟩) (meth := k23m1) (c := k23c1) (by decide +kernel) rfl rfl rfl (by decide +kernel)
set_option maxRecDepth 65536 in
theorem w_c28 : (Jvm.Cond.code ({ cls := "java/util/ImmutableCollections$ListN", name := "<init>", desc := "([Ljava/lang/Object;Z)V" } : Jvm.MethodName) jdk_45_method_1_code (3 : Nat) (Option.none : Option Jvm.ClassFile.FieldType)).before args0 about1 = true := code_word (m := ⟨19, 0⟩) (meth := k19m0) (c := k19c0) (by decide +kernel) rfl rfl rfl (by decide +kernel)
set_option maxRecDepth 65536 in
theorem w_c29 : (Jvm.Cond.code ({ cls := "java/util/ImmutableCollections$AbstractImmutableList", name := "<init>", desc := "()V" } : Jvm.MethodName) jdk_46_method_1_code (1 : Nat) (Option.none : Option Jvm.ClassFile.FieldType)).before args0 about1 = true := code_word (m := ⟨17, 0⟩) (meth := k17m0) (c := k17c0) (by decide +kernel) rfl rfl rfl (by decide +kernel)
set_option maxRecDepth 65536 in
theorem w_c30 : (Jvm.Cond.code ({ cls := "java/util/ImmutableCollections$AbstractImmutableCollection", name := "<init>", desc := "()V" } : Jvm.MethodName) jdk_47_method_1_code (1 : Nat) (Option.none : Option Jvm.ClassFile.FieldType)).before args0 about1 = true := code_word (m := ⟨16, 0⟩) (meth := k16m0) (c := k16c0) (by decide +kernel) rfl rfl rfl (by decide +kernel)
set_option maxRecDepth 65536 in
theorem w_c31 : (Jvm.Cond.code ({ cls := "java/util/ImmutableCollections$ListN", name := "get", desc := "(I)Ljava/lang/Object;" } : Jvm.MethodName) jdk_45_method_4_code (2 : Nat) (Option.some (Jvm.ClassFile.FieldType.object "java/lang/Object"))).before args0 about1 = true := code_word (m := ⟨19, 2⟩) (meth := k19m2) (c := k19c2) (by decide +kernel) rfl rfl rfl (by decide +kernel)
set_option maxRecDepth 65536 in
theorem w_c32 : (Jvm.Cond.code ({ cls := "com/example/clausemap/clausemap/outline/Part", name := "start", desc := "()I" } : Jvm.MethodName) prog_32_method_11_code (1 : Nat) (Option.some Jvm.ClassFile.FieldType.int)).before args0 about1 = true := code_word (m := ⟨3, 1⟩) (meth := k3m1) (c := k3c1) (by decide +kernel) rfl rfl rfl (by decide +kernel)
set_option maxRecDepth 65536 in
theorem w_c33 : (Jvm.Cond.code ({ cls := "java/util/ImmutableCollections$List12", name := "<init>", desc := "(Ljava/lang/Object;Ljava/lang/Object;)V" } : Jvm.MethodName) jdk_44_method_2_code (3 : Nat) (Option.none : Option Jvm.ClassFile.FieldType)).before args0 about1 = true := code_word (m := ⟨18, 1⟩) (meth := k18m1) (c := k18c1) (by decide +kernel) rfl rfl rfl (by decide +kernel)
set_option maxRecDepth 65536 in
theorem w_c34 : (Jvm.Cond.code ({ cls := "java/util/ImmutableCollections$List12", name := "size", desc := "()I" } : Jvm.MethodName) jdk_44_method_3_code (1 : Nat) (Option.some Jvm.ClassFile.FieldType.int)).before args0 about1 = true := code_word (m := ⟨18, 2⟩) (meth := k18m2) (c := k18c2) (by decide +kernel) rfl rfl rfl (by decide +kernel)
set_option maxRecDepth 65536 in
theorem w_c35 : (Jvm.Cond.code ({ cls := "java/util/ImmutableCollections$List12", name := "get", desc := "(I)Ljava/lang/Object;" } : Jvm.MethodName) jdk_44_method_5_code (2 : Nat) (Option.some (Jvm.ClassFile.FieldType.object "java/lang/Object"))).before args0 about1 = true := code_word (m := ⟨18, 3⟩) (meth := k18m3) (c := k18c3) (by decide +kernel) rfl rfl rfl (by decide +kernel)
set_option maxRecDepth 65536 in
theorem w_c36 : (Jvm.Cond.code ({ cls := "java/util/ImmutableCollections$List12", name := "<init>", desc := "(Ljava/lang/Object;)V" } : Jvm.MethodName) jdk_44_method_1_code (2 : Nat) (Option.none : Option Jvm.ClassFile.FieldType)).before args0 about1 = true := code_word (m := ⟨18, 0⟩) (meth := k18m0) (c := k18c0) (by decide +kernel) rfl rfl rfl (by decide +kernel)
def codes1 : List Jvm.Cond := [Jvm.Cond.code x code maxLocals ret, Jvm.Cond.code ({ cls := "com/example/clausemap/clausemap/outline/Part", name := "<init>", desc := "(Lcom/example/clausemap/clausemap/outline/Part;Lcom/example/clausemap/clausemap/outline/Part$Kind;Ljava/lang/String;Ljava/lang/String;II)V" } : Jvm.MethodName) prog_32_method_1_code (7 : Nat) (Option.none : Option Jvm.ClassFile.FieldType), Jvm.Cond.code ({ cls := "java/lang/Record", name := "<init>", desc := "()V" } : Jvm.MethodName) jdk_30_method_1_code (1 : Nat) (Option.none : Option Jvm.ClassFile.FieldType), Jvm.Cond.code ({ cls := "java/lang/Object", name := "<init>", desc := "()V" } : Jvm.MethodName) object_method_1_code (1 : Nat) (Option.none : Option Jvm.ClassFile.FieldType), Jvm.Cond.code ({ cls := "java/util/ArrayList", name := "<init>", desc := "()V" } : Jvm.MethodName) jdk_38_method_2_code (1 : Nat) (Option.none : Option Jvm.ClassFile.FieldType), Jvm.Cond.code ({ cls := "java/util/AbstractList", name := "<init>", desc := "()V" } : Jvm.MethodName) jdk_39_method_1_code (1 : Nat) (Option.none : Option Jvm.ClassFile.FieldType), Jvm.Cond.code ({ cls := "java/util/AbstractCollection", name := "<init>", desc := "()V" } : Jvm.MethodName) jdk_22_method_1_code (1 : Nat) (Option.none : Option Jvm.ClassFile.FieldType), Jvm.Cond.code ({ cls := "com/example/clausemap/clausemap/outline/Outline", name := "<init>", desc := "(Ljava/util/List;)V" } : Jvm.MethodName) prog_25_method_1_code (2 : Nat) (Option.none : Option Jvm.ClassFile.FieldType), Jvm.Cond.code ({ cls := "java/util/List", name := "copyOf", desc := "(Ljava/util/Collection;)Ljava/util/List;" } : Jvm.MethodName) jdk_40_method_48_code (1 : Nat) (Option.some (Jvm.ClassFile.FieldType.object "java/util/List")), Jvm.Cond.code ({ cls := "java/util/ImmutableCollections", name := "listCopy", desc := "(Ljava/util/Collection;)Ljava/util/List;" } : Jvm.MethodName) jdk_56_method_3_code (2 : Nat) (Option.some (Jvm.ClassFile.FieldType.object "java/util/List")), Jvm.Cond.code ({ cls := "java/util/ArrayList", name := "isEmpty", desc := "()Z" } : Jvm.MethodName) jdk_38_method_9_code (1 : Nat) (Option.some Jvm.ClassFile.FieldType.boolean), Jvm.Cond.code ({ cls := "java/util/List", name := "of", desc := "()Ljava/util/List;" } : Jvm.MethodName) jdk_40_method_36_code (0 : Nat) (Option.some (Jvm.ClassFile.FieldType.object "java/util/List")), Jvm.Cond.code ({ cls := "java/lang/Math", name := "min", desc := "(JJ)J" } : Jvm.MethodName) jdk_29_method_70_code (4 : Nat) (Option.some Jvm.ClassFile.FieldType.long), Jvm.Cond.code ({ cls := "java/lang/Math", name := "max", desc := "(JJ)J" } : Jvm.MethodName) jdk_29_method_66_code (4 : Nat) (Option.some Jvm.ClassFile.FieldType.long), Jvm.Cond.code ({ cls := "com/example/clausemap/clausemap/outline/Outline", name := "partAt", desc := "(I)Lcom/example/clausemap/clausemap/outline/Part;" } : Jvm.MethodName) prog_25_method_4_code (5 : Nat) (Option.some (Jvm.ClassFile.FieldType.object "com/example/clausemap/clausemap/outline/Part")), Jvm.Cond.code ({ cls := "java/util/ImmutableCollections$ListN", name := "size", desc := "()I" } : Jvm.MethodName) jdk_45_method_3_code (1 : Nat) (Option.some Jvm.ClassFile.FieldType.int), Jvm.Cond.code ({ cls := "java/util/ArrayList", name := "add", desc := "(Ljava/lang/Object;)Z" } : Jvm.MethodName) jdk_38_method_25_code (2 : Nat) (Option.some Jvm.ClassFile.FieldType.boolean), Jvm.Cond.code ({ cls := "java/util/ArrayList", name := "add", desc := "(Ljava/lang/Object;[Ljava/lang/Object;I)V" } : Jvm.MethodName) jdk_38_method_24_code (4 : Nat) (Option.none : Option Jvm.ClassFile.FieldType), Jvm.Cond.code ({ cls := "java/util/ArrayList", name := "grow", desc := "()[Ljava/lang/Object;" } : Jvm.MethodName) jdk_38_method_7_code (1 : Nat) (Option.some (Jvm.ClassFile.FieldType.array (Jvm.ClassFile.FieldType.object "java/lang/Object"))), Jvm.Cond.code ({ cls := "java/util/ArrayList", name := "grow", desc := "(I)[Ljava/lang/Object;" } : Jvm.MethodName) jdk_38_method_6_code (4 : Nat) (Option.some (Jvm.ClassFile.FieldType.array (Jvm.ClassFile.FieldType.object "java/lang/Object"))), Jvm.Cond.code ({ cls := "java/lang/Math", name := "max", desc := "(II)I" } : Jvm.MethodName) jdk_29_method_65_code (2 : Nat) (Option.some Jvm.ClassFile.FieldType.int), Jvm.Cond.code ({ cls := "java/util/ArrayList", name := "toArray", desc := "()[Ljava/lang/Object;" } : Jvm.MethodName) jdk_38_method_16_code (1 : Nat) (Option.some (Jvm.ClassFile.FieldType.array (Jvm.ClassFile.FieldType.object "java/lang/Object"))), Jvm.Cond.code ({ cls := "java/util/Arrays", name := "copyOf", desc := "([Ljava/lang/Object;I)[Ljava/lang/Object;" } : Jvm.MethodName) jdk_65_method_119_code (2 : Nat) (Option.some (Jvm.ClassFile.FieldType.array (Jvm.ClassFile.FieldType.object "java/lang/Object"))), Jvm.Cond.code ({ cls := "java/util/Arrays", name := "copyOf", desc := "([Ljava/lang/Object;ILjava/lang/Class;)[Ljava/lang/Object;" } : Jvm.MethodName) jdk_65_method_120_code (4 : Nat) (Option.some (Jvm.ClassFile.FieldType.array (Jvm.ClassFile.FieldType.object "java/lang/Object"))), Jvm.Cond.code ({ cls := "java/lang/Math", name := "min", desc := "(II)I" } : Jvm.MethodName) jdk_29_method_69_code (2 : Nat) (Option.some Jvm.ClassFile.FieldType.int), Jvm.Cond.code ({ cls := "java/util/List", name := "of", desc := "([Ljava/lang/Object;)Ljava/util/List;" } : Jvm.MethodName) jdk_40_method_47_code (2 : Nat) (Option.some (Jvm.ClassFile.FieldType.object "java/util/List")), Jvm.Cond.code ({ cls := "java/util/ImmutableCollections", name := "listFromArray", desc := "([Ljava/lang/Object;)Ljava/util/List;" } : Jvm.MethodName) jdk_56_method_4_code (3 : Nat) (Option.some (Jvm.ClassFile.FieldType.object "java/util/List")), Jvm.Cond.code ({ cls := "java/util/Objects", name := "requireNonNull", desc := "(Ljava/lang/Object;)Ljava/lang/Object;" } : Jvm.MethodName) jdk_31_method_10_code (1 : Nat) (Option.some (Jvm.ClassFile.FieldType.object "java/lang/Object")), Jvm.Cond.code ({ cls := "java/util/ImmutableCollections$ListN", name := "<init>", desc := "([Ljava/lang/Object;Z)V" } : Jvm.MethodName) jdk_45_method_1_code (3 : Nat) (Option.none : Option Jvm.ClassFile.FieldType), Jvm.Cond.code ({ cls := "java/util/ImmutableCollections$AbstractImmutableList", name := "<init>", desc := "()V" } : Jvm.MethodName) jdk_46_method_1_code (1 : Nat) (Option.none : Option Jvm.ClassFile.FieldType), Jvm.Cond.code ({ cls := "java/util/ImmutableCollections$AbstractImmutableCollection", name := "<init>", desc := "()V" } : Jvm.MethodName) jdk_47_method_1_code (1 : Nat) (Option.none : Option Jvm.ClassFile.FieldType), Jvm.Cond.code ({ cls := "java/util/ImmutableCollections$ListN", name := "get", desc := "(I)Ljava/lang/Object;" } : Jvm.MethodName) jdk_45_method_4_code (2 : Nat) (Option.some (Jvm.ClassFile.FieldType.object "java/lang/Object")), Jvm.Cond.code ({ cls := "com/example/clausemap/clausemap/outline/Part", name := "start", desc := "()I" } : Jvm.MethodName) prog_32_method_11_code (1 : Nat) (Option.some Jvm.ClassFile.FieldType.int), Jvm.Cond.code ({ cls := "java/util/ImmutableCollections$List12", name := "<init>", desc := "(Ljava/lang/Object;Ljava/lang/Object;)V" } : Jvm.MethodName) jdk_44_method_2_code (3 : Nat) (Option.none : Option Jvm.ClassFile.FieldType), Jvm.Cond.code ({ cls := "java/util/ImmutableCollections$List12", name := "size", desc := "()I" } : Jvm.MethodName) jdk_44_method_3_code (1 : Nat) (Option.some Jvm.ClassFile.FieldType.int), Jvm.Cond.code ({ cls := "java/util/ImmutableCollections$List12", name := "get", desc := "(I)Ljava/lang/Object;" } : Jvm.MethodName) jdk_44_method_5_code (2 : Nat) (Option.some (Jvm.ClassFile.FieldType.object "java/lang/Object")), Jvm.Cond.code ({ cls := "java/util/ImmutableCollections$List12", name := "<init>", desc := "(Ljava/lang/Object;)V" } : Jvm.MethodName) jdk_44_method_1_code (2 : Nat) (Option.none : Option Jvm.ClassFile.FieldType)]
set_option maxRecDepth 65536 in
theorem codes_eq : words1.filter isCode = codes1 := rfl
theorem w_codes : ∀ c ∈ words1.filter isCode, c.before args0 about1 = true := by
  rw [codes_eq]
  intro c hc
  simp only [codes1, List.mem_cons, List.not_mem_nil, or_false] at hc
  rcases hc with rfl | rfl | rfl | rfl | rfl | rfl | rfl | rfl | rfl | rfl | rfl | rfl | rfl | rfl | rfl | rfl | rfl | rfl | rfl | rfl | rfl | rfl | rfl | rfl | rfl | rfl | rfl | rfl | rfl | rfl | rfl | rfl | rfl | rfl | rfl | rfl | rfl
  · exact w_c0
  · exact w_c1
  · exact w_c2
  · exact w_c3
  · exact w_c4
  · exact w_c5
  · exact w_c6
  · exact w_c7
  · exact w_c8
  · exact w_c9
  · exact w_c10
  · exact w_c11
  · exact w_c12
  · exact w_c13
  · exact w_c14
  · exact w_c15
  · exact w_c16
  · exact w_c17
  · exact w_c18
  · exact w_c19
  · exact w_c20
  · exact w_c21
  · exact w_c22
  · exact w_c23
  · exact w_c24
  · exact w_c25
  · exact w_c26
  · exact w_c27
  · exact w_c28
  · exact w_c29
  · exact w_c30
  · exact w_c31
  · exact w_c32
  · exact w_c33
  · exact w_c34
  · exact w_c35
  · exact w_c36
set_option maxRecDepth 65536 in
theorem w_t1 : (words1.take 24).all (fun c => isCode c || c.before args0 about1) = true := by decide +kernel
set_option maxRecDepth 65536 in
theorem w_t2 : ((words1.drop 24).take 24).all (fun c => isCode c || c.before args0 about1) = true := by decide +kernel
set_option maxRecDepth 65536 in
theorem w_t3 : (((words1.drop 24).drop 24).take 24).all (fun c => isCode c || c.before args0 about1) = true := by decide +kernel
set_option maxRecDepth 65536 in
theorem w_t4 : ((((words1.drop 24).drop 24).drop 24).take 24).all (fun c => isCode c || c.before args0 about1) = true := by decide +kernel
set_option maxRecDepth 65536 in
theorem w_t5 : (((((words1.drop 24).drop 24).drop 24).drop 24).take 24).all (fun c => isCode c || c.before args0 about1) = true := by decide +kernel
set_option maxRecDepth 65536 in
theorem w_t6 : ((((((words1.drop 24).drop 24).drop 24).drop 24).drop 24).take 24).all (fun c => isCode c || c.before args0 about1) = true := by decide +kernel
set_option maxRecDepth 65536 in
theorem w_t7 : (((((((words1.drop 24).drop 24).drop 24).drop 24).drop 24).drop 24).take 24).all (fun c => isCode c || c.before args0 about1) = true := by decide +kernel
set_option maxRecDepth 65536 in
theorem w_t8 : ((((((((words1.drop 24).drop 24).drop 24).drop 24).drop 24).drop 24).drop 24).take 24).all (fun c => isCode c || c.before args0 about1) = true := by decide +kernel
set_option maxRecDepth 65536 in
theorem w_t9 : (((((((((words1.drop 24).drop 24).drop 24).drop 24).drop 24).drop 24).drop 24).drop 24).take 24).all (fun c => isCode c || c.before args0 about1) = true := by decide +kernel
set_option maxRecDepth 65536 in
theorem w_t10 : ((((((((((words1.drop 24).drop 24).drop 24).drop 24).drop 24).drop 24).drop 24).drop 24).drop 24).take 24).all (fun c => isCode c || c.before args0 about1) = true := by decide +kernel
set_option maxRecDepth 65536 in
theorem w_t11 : ((((((((((words1.drop 24).drop 24).drop 24).drop 24).drop 24).drop 24).drop 24).drop 24).drop 24).drop 24).all (fun c => isCode c || c.before args0 about1) = true := by decide +kernel
theorem w_tables : (allAtoms (Jvm.Cond.code x code maxLocals ret :: tables_1)).before args0 about1 = true := by
  rw [allAtoms_all]
  show words1.all (fun c => c.before args0 about1) = true
  refine all_split ?_ w_codes
  rw [← List.take_append_drop 24 words1, List.all_append, w_t1, ← List.take_append_drop 24 (words1.drop 24), List.all_append, w_t2, ← List.take_append_drop 24 ((words1.drop 24).drop 24), List.all_append, w_t3, ← List.take_append_drop 24 (((words1.drop 24).drop 24).drop 24), List.all_append, w_t4, ← List.take_append_drop 24 ((((words1.drop 24).drop 24).drop 24).drop 24), List.all_append, w_t5, ← List.take_append_drop 24 (((((words1.drop 24).drop 24).drop 24).drop 24).drop 24), List.all_append, w_t6, ← List.take_append_drop 24 ((((((words1.drop 24).drop 24).drop 24).drop 24).drop 24).drop 24), List.all_append, w_t7, ← List.take_append_drop 24 (((((((words1.drop 24).drop 24).drop 24).drop 24).drop 24).drop 24).drop 24), List.all_append, w_t8, ← List.take_append_drop 24 ((((((((words1.drop 24).drop 24).drop 24).drop 24).drop 24).drop 24).drop 24).drop 24), List.all_append, w_t9, ← List.take_append_drop 24 (((((((((words1.drop 24).drop 24).drop 24).drop 24).drop 24).drop 24).drop 24).drop 24).drop 24), List.all_append, w_t10, w_t11]
  rfl
set_option maxRecDepth 65536 in
theorem w_rest : rest_1_c.before args0 about1 = true := by decide +kernel
set_option maxRecDepth 65536 in
theorem w_case : (Jvm.Cond.and given_1 narrow_1).before args0 about1 = true := by decide +kernel
theorem w_applies : (headSpec (Jvm.Cond.code x code maxLocals ret :: tables_1) room_1).applies x e0.platform about1 = true :=
  (Spec.applies_iff w_frames).mpr ⟨w_running, w_runnable, w_alone, w_named, w_hears, w_ripe, w_room, w_tables⟩
set_option maxRecDepth 65536 in
theorem w_calls : Calls_1 p0.tables e0 args0 about1 := ⟨⟨28, k28, 6, by decide +kernel, rfl, rfl, { cls := 0, slots := #[], vm := .mirror 28 }, rfl, rfl⟩, trivial⟩
theorem atStart : AtStart classFile x code maxLocals ret World_1 tables_1 room_1 Calls_1 rest_1 Pre_1 launch0 p0 e0 about1 theMethod args0 below0 :=
  ⟨lists_1, trivial, launch0.admits_env _ _ _, launch0.least_env, fairChoices_fair.cas, fairChoices_fair.clock, w_frames, w_args, w_heap, w_applies, w_calls, w_rest, w_case⟩
end start1
theorem witness_1 : WitnessClaimed_1 := ⟨start1.p0, start1.e0, start1.about1, start1.theMethod, start1.args0, start1.below0, start1.atStart⟩
end Jvm.Pilot.@@N@@
