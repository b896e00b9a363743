import JvmDerived
import JvmDerived.Pilot.@@N@@Statement
import JvmDerived.Pilot.@@N@@Code
set_option linter.unusedVariables false
set_option linter.unusedSimpArgs false
namespace Jvm.RoadKit
open Sem ClassFile Op Lib Jvm.Stand Jvm.Free Jvm.LawKit
section New
variable {p : Program} {l : Launch} {e : Env} {R : Room} {s : State} {m : MethodId} {args : Array Value} {below : List Frame} {meth : Method} {c : Code} {T : State} {locs : List Loc} {cells slots : Nat}
theorem retI (X : Stand p l e R s m args below meth c T locs cells slots) (hx : p.tables.exec = Jvm.exec) {pc : Nat} {Ls : Array Slot} {z : Int32} {rest : List Value} (hret : meth.sig.returnType = some .int) (hd : decode c.code pc = .ok (.ireturn, 1)) {fs : List Frame}
    (hl : ∀ (f : JFrame) (acts : List Action), f.method = m → f.locked = none → f.entered = [] → (doReturn e (T.setTop f) acts (some (.int z))).1 = T.setFrames fs) : Steps p.tables e below (T.setTop (mkF m pc Ls (.int z :: rest))) (T.setFrames fs) := by
  have hm' : T.vm.method? m = some meth := X.method'
  have hn : narrow .int (.int z) = .int z := rfl
  show Steps p.tables e below (T.setTop { method := m, pc := pc, locals := Ls, stack := _ :: rest, locked := none }) _
  jvm_step X.here [X.here.top, hx, hd, hm', hret, hn]
  first | (intro acts; rw [hl _ acts rfl rfl rfl]) | rw [hl _ _ rfl rfl rfl]
  exact Steps.refl _
end New
end Jvm.RoadKit
namespace Jvm.Pilot.@@N@@
open Jvm Jvm.ClassFile Sem Op Lib Jvm.Free Jvm.Stand Jvm.LawKit Jvm.RoadKit Bundle Jvm.Pilot.@@N@@.Jvm.D
/-- what a body that writes nothing leaves: the value, and the heap as it was -/
def QV (r : Option Value) (h0 : Heap) (n0 : Nat) (v : Option Value) (h : Heap) (L : List Loc) : Prop := v = r ∧ Fr n0 L ∧ h = h0
theorem own_fld_one {Z : State} {h : Heap} {a : Addr} {C n d : String} {v w : Value} (F : Fld Z h a C n d v) (G : Fld Z h a C n d w) : v = w := by
  obtain ⟨c1, f1, k1, i1, g1, a1, a2, -, -, -, -, a7⟩ := F
  obtain ⟨c2, f2, k2, i2, g2, b1, b2, -, -, -, -, b7⟩ := G
  cases a1.symm.trans b1
  cases a2.symm.trans b2
  exact Option.some.inj (a7.symm.trans b7)
theorem own_ne_fld {Z : State} {h : Heap} {a b : Addr} {C n d : String} {x y : Int32} (F : Fld Z h a C n d (.int x)) (G : Fld Z h b C n d (.int y)) (hn : x ≠ y) : ¬ a = b := fun e => by
  subst e
  exact hn (Value.int.inj (own_fld_one F G))
theorem own_fld {args : Array Value} {s : State} {t : Term} {C n d : String} {k : Int32} {a : Addr} (ht : t.eval args s none [] s = some (.ref a)) (h : (Jvm.Cond.eq (Jvm.Term.field t C n d) (Jvm.Term.int k)).value args s none s [] = some true) : Fld s s.heap a C n d (.int k) := by
  refine Fld.start ((fld_at (idx := []) (first := s) (o := none) ht).symm.trans ?_)
  obtain ⟨x, y, e1, e2, k1, k2⟩ := cmp_v (Or.inl h)
  cases e2
  obtain ⟨z, rfl⟩ := k2
  have e3 : (Jvm.Term.int k).eval args s none [] s = some (.int k) := rfl
  have q : z = k := by simpa [Jvm.Cond.value, e1, e3] using h
  rw [e1, q]
def Q0 (n0 : Nat) (v : Option Value) (h : Heap) (L : List Loc) : Prop := v = some (.int (1 : Int32)) ∧ Fr n0 L
def QW (Z : State) (a : Addr) (C f d : String) (val : Value) (r : Option Value) (h0 : Heap) (n0 : Nat) (v : Option Value) (h : Heap) (L : List Loc) : Prop := v = r ∧ Fr n0 L ∧ Keep h0 h [a] ∧ Fld Z h a C f d val
def QIV (Z : State) (q : Int32) (h0 : Heap) (n0 : Nat) (v : Option Value) (h : Heap) (L : List Loc) : Prop := ∃ b : Addr, v = some (.ref b) ∧ Fr n0 L ∧ Keep h0 h [] ∧ Exa Z h b "java/lang/Integer" ∧ Fld Z h b "java/lang/Integer" "value" "I" (.int q)
theorem own_place (q : Int32) (h1 : ¬ q < (-128 : Int32)) (h2 : ¬ (127 : Int32) < q) : ¬ ((q + (128 : Int32)) < 0 ∨ (256 : Int32).toNatClampNeg ≤ (q + (128 : Int32)).toNatClampNeg) := by
  have a1 : (-128 : Int32).toInt = -128 := by decide
  have a2 : (127 : Int32).toInt = 127 := by decide
  have a3 : (128 : Int32).toInt = 128 := by decide
  have a4 : (256 : Int32).toNatClampNeg = 256 := by decide
  have a5 : (0 : Int32).toInt = 0 := by decide
  rw [Int32.lt_iff_toInt_lt] at h1 h2
  have e2 := c_iadd q 128
  have r1 := rng32 q
  have r2 := rng32 (q + 128)
  rw [Int32.lt_iff_toInt_lt, a4]
  have e3 : (q + 128).toInt = q.toInt + 128 := by omega
  have e4 : (q + 128).toNatClampNeg = (q + 128).toInt.toNat := rfl
  rintro (z | z)
  · omega
  · rw [e4] at z; omega
theorem own_bxs {Z : State} {args : Array Value} {a : Addr} {c : Cell} (ec : ∀ idx, (Jvm.Term.static "java/lang/Integer$IntegerCache" "cache" "[Ljava/lang/Integer;").eval args Z none idx Z = some (.ref a)) (A : Arr Z Z.heap a c (.object "java/lang/Integer")) (hl : (Jvm.Cond.eq (Jvm.Term.length (Jvm.Term.static "java/lang/Integer$IntegerCache" "cache" "[Ljava/lang/Integer;")) (Jvm.Term.int (256 : Int32))).before args Z = true)
    (h : (Jvm.Cond.all (Jvm.Term.static "java/lang/Integer$IntegerCache" "cache" "[Ljava/lang/Integer;") (Jvm.Cond.and (Jvm.Cond.exactly (Jvm.Term.elem (Jvm.Term.static "java/lang/Integer$IntegerCache" "cache" "[Ljava/lang/Integer;") (Jvm.Term.index (0 : Nat))) "java/lang/Integer") (Jvm.Cond.eq (Jvm.Term.field (Jvm.Term.elem (Jvm.Term.static "java/lang/Integer$IntegerCache" "cache" "[Ljava/lang/Integer;") (Jvm.Term.index (0 : Nat))) "java/lang/Integer" "value" "I") (Jvm.Term.sub (Jvm.Term.index (0 : Nat)) (Jvm.Term.int (128 : Int32)))))).before args Z = true) : Bxs Z a c "java/lang/Integer" "I" 256 (fun j => .int (j - 128)) := by
  obtain ⟨q1, q2⟩ := Jvm.Free.IntBox.length_fwd hl (ec []) A.1 A.2.1 A.2.2
  exact Bxs.start ec A q1 q2 (by decide) (Cond.before_iff.mp h) (fun X j nn he => eqv_i (Term.sub_int (idx_at nn) (Term.int_eval 128)) he)
def CLs (Z : State) (n0 : Nat) (h : Heap) (a ch ea : Addr) (kc ke : ClassId) (n mc cap : Int32) (vs : List Value) : Prop :=
  Exa Z h a "com/example/anchored_threads/anchoredthreads/internal/ChunkedList" ∧ Fld Z h a "com/example/anchored_threads/anchoredthreads/internal/ChunkedList" "size" "I" (.int n) ∧ Fld Z h a "com/example/anchored_threads/anchoredthreads/internal/ChunkedList" "chunks" "[[Ljava/lang/Object;" (.ref ch) ∧ Fld Z h a "java/util/AbstractList" "modCount" "I" (.int mc) ∧ Arv Z h ch kc (.array (.object "java/lang/Object")) (1 : Int32) [.ref ea] .null ∧ Arv Z h ea ke (.object "java/lang/Object") cap vs .null ∧ Exa Z h ea "[Ljava/lang/Object;" ∧ Ovr Z ke "java/lang/Object" ∧ OvrA Z kc (.object "java/lang/Object") "[Ljava/lang/Object;" ∧ n0 ≤ a ∧ n0 ≤ ch ∧ n0 ≤ ea ∧ a ≠ ch ∧ a ≠ ea ∧ ch ≠ ea
def QAL (Z : State) (a : Addr) (h0 : Heap) (n0 : Nat) (v : Option Value) (h : Heap) (L : List Loc) : Prop := v = none ∧ Fr n0 L ∧ Keep h0 h [a] ∧ Fld Z h a "java/util/AbstractList" "modCount" "I" (.int (0 : Int32)) ∧ Fld Z h a "com/example/anchored_threads/anchoredthreads/internal/ChunkedList" "size" "I" (.int (0 : Int32)) ∧ Fld Z h a "com/example/anchored_threads/anchoredthreads/internal/ChunkedList" "chunks" "[[Ljava/lang/Object;" .null
def QCI (Z : State) (a : Addr) (h0 : Heap) (n0 : Nat) (v : Option Value) (h : Heap) (L : List Loc) : Prop := v = none ∧ Fr n0 L ∧ Keep h0 h [a] ∧ ∃ (ch ea : Addr) (kc ke : ClassId), h0.size ≤ ch ∧ h0.size ≤ ea ∧ CLs Z n0 h a ch ea kc ke 0 0 4 [.null, .null, .null, .null]
def QAd (Z : State) (a ch ea : Addr) (kc ke : ClassId) (n cap : Int32) (vs : List Value) (h0 : Heap) (n0 : Nat) (v : Option Value) (h : Heap) (L : List Loc) : Prop := v = some (.int (1 : Int32)) ∧ Fr n0 L ∧ Keep h0 h [a, ch, ea] ∧ ∃ mc : Int32, CLs Z n0 h a ch ea kc ke n mc cap vs
def QGr (Z : State) (a ch ea : Addr) (kc : ClassId) (vs : List Value) (h0 : Heap) (n0 : Nat) (v : Option Value) (h : Heap) (L : List Loc) : Prop := v = some (.int (1 : Int32)) ∧ Fr n0 L ∧ Keep h0 h [a, ch, ea] ∧ ∃ (ea' : Addr) (ke' : ClassId) (mc : Int32), h0.size ≤ ea' ∧ CLs Z n0 h a ch ea' kc ke' (5 : Int32) mc (8 : Int32) vs
theorem CLs.keep {Z : State} {n0 : Nat} {h h' : Heap} {a ch ea : Addr} {kc ke : ClassId} {n mc cap : Int32} {vs : List Value} (C : CLs Z n0 h a ch ea kc ke n mc cap vs) (K : Keep h h' []) : CLs Z n0 h' a ch ea kc ke n mc cap vs := by
  obtain ⟨hE, hFs, hFc, hFm, hVc, hVe, hXe, r⟩ := C
  exact ⟨hE.keep K, hFs.keep K nin0, hFc.keep K nin0, hFm.keep K nin0, hVc.keep K nin0, hVe.keep K nin0, hXe.keep K, r⟩
theorem own_ne_arv {Z : State} {h : Heap} {a0 : Array Value} {b x : Addr} {C : String} {q : Nat} {k : ClassId} {ty : FieldType} {z : Int32} {vs : List Value} {d : Value} (E : Exa Z h b C) (wi : (Jvm.Cond.instantiable C q).before a0 Z = true) (G : Arv Z h x k ty z vs d) : b ≠ x := by
  obtain ⟨c, A, -⟩ := G
  exact ne_arr E wi A
def QRl (Z : State) (a ch ea : Addr) (kc ke : ClassId) (n cap : Int32) (vs : List Value) (b : Addr) (h0 : Heap) (n0 : Nat) (v : Option Value) (h : Heap) (L : List Loc) : Prop := v = some (.ref b) ∧ Fr n0 L ∧ Keep h0 h [a, ch, ea] ∧ ∃ mc : Int32, CLs Z n0 h a ch ea kc ke n mc cap vs
theorem own_tab3 {Z s : State} {a0 sargs : Array Value} (hw : ∀ d ∈ tables_1, d.before a0 Z = true) (hZ : Z.Warmed39 s.vm) : Jvm.Free.CopyOfC.Copy3.tab.before sargs s = true := by
  refine (conj_holds (args := sargs) (first := s) (o := none) (s := s) (idx := []) _ _).mpr ⟨mvT hZ (hw _ (List.mem_of_getElem? (i := 89) rfl)), fun d hd => ?_⟩
  simp only [List.mem_cons, List.not_mem_nil, or_false] at hd
  rcases hd with rfl | rfl | rfl | rfl | rfl | rfl | rfl | rfl | rfl | rfl | rfl
  · exact mvT hZ (hw _ (List.mem_of_getElem? (i := 91) rfl))
  · exact Cond.arrayOver_alike hZ.alike (hw _ (List.mem_of_getElem? (i := 36) rfl))
  · exact mvT hZ (hw _ (List.mem_of_getElem? (i := 92) rfl))
  · exact mvT hZ (hw _ (List.mem_of_getElem? (i := 75) rfl))
  · exact mvT hZ (hw _ (List.mem_of_getElem? (i := 76) rfl))
  · exact mvT hZ (hw _ (List.mem_of_getElem? (i := 77) rfl))
  · exact mvT hZ (hw _ (List.mem_of_getElem? (i := 93) rfl))
  · exact mvT hZ (hw _ (List.mem_of_getElem? (i := 96) rfl))
  · exact mvT hZ (hw _ (List.mem_of_getElem? (i := 94) rfl))
  · exact mvT hZ (hw _ (List.mem_of_getElem? (i := 95) rfl))
  · exact mvT hZ (hw _ (List.mem_of_getElem? (i := 90) rfl))
theorem own_tab2 {Z s : State} {a0 sargs : Array Value} (hw : ∀ d ∈ tables_1, d.before a0 Z = true) (hZ : Z.Warmed39 s.vm) : Jvm.Free.CopyOfC.Copy2.tab.before sargs s = true := by
  refine (conj_holds (args := sargs) (first := s) (o := none) (s := s) (idx := []) _ _).mpr ⟨mvT hZ (hw _ (List.mem_of_getElem? (i := 81) rfl)), fun d hd => ?_⟩
  rcases List.mem_append.mp hd with hd | hd
  · have hd : d ∈ [Jvm.Cond.methodLink "java/util/Arrays" 86 Jvm.Stand.gcN, .declares Jvm.Stand.gcN, .selects "[Ljava/lang/Object;" Jvm.Stand.gcN Jvm.Stand.gcN, .instanceMethod Jvm.Stand.gcN, .native Jvm.Stand.gcN, .methodLink "java/util/Arrays" 300 Jvm.Free.CopyOfC.copy3N, .static Jvm.Free.CopyOfC.copy3N, .initialized "java/util/Arrays"] := hd
    simp only [List.mem_cons, List.not_mem_nil, or_false] at hd
    rcases hd with rfl | rfl | rfl | rfl | rfl | rfl | rfl | rfl
    · exact mvT hZ (hw _ (List.mem_of_getElem? (i := 82) rfl))
    · exact mvT hZ (hw _ (List.mem_of_getElem? (i := 83) rfl))
    · exact mvT hZ (hw _ (List.mem_of_getElem? (i := 85) rfl))
    · exact mvT hZ (hw _ (List.mem_of_getElem? (i := 84) rfl))
    · exact mvT hZ (hw _ (List.mem_of_getElem? (i := 86) rfl))
    · exact mvT hZ (hw _ (List.mem_of_getElem? (i := 87) rfl))
    · exact mvT hZ (hw _ (List.mem_of_getElem? (i := 88) rfl))
    · exact mvT hZ (hw _ (List.mem_of_getElem? (i := 80) rfl))
  · rw [List.mem_singleton.mp hd]; exact own_tab3 hw hZ
theorem own_pdC : parseMethodDescriptor "([Ljava/lang/Object;I)[Ljava/lang/Object;" = some ⟨[(.array (.object "java/lang/Object")), .int], some (.array (.object "java/lang/Object"))⟩ := by decide +kernel
/-- the copy, read place for place -/
theorem own_copied {g : Jvm.Free.CopyOfC.Copy3.G} {vs : List Value} (hn : ¬ g.n < 0) (hsz : g.cs.slots.size < 2 ^ 31) (Ha : Has g.cs vs .null) (hl : vs.length ≤ g.cs.slots.size) :
    (copied g.cs (Jvm.Free.CopyOfC.Copy3.fresh g) 0 0 (Jvm.Free.CopyOfC.Copy3.mn g)).cls = g.cOA ∧ (copied g.cs (Jvm.Free.CopyOfC.Copy3.fresh g) 0 0 (Jvm.Free.CopyOfC.Copy3.mn g)).vm = .none ∧ (copied g.cs (Jvm.Free.CopyOfC.Copy3.fresh g) 0 0 (Jvm.Free.CopyOfC.Copy3.mn g)).slots.size = g.n.toNatClampNeg ∧
      Has (copied g.cs (Jvm.Free.CopyOfC.Copy3.fresh g) 0 0 (Jvm.Free.CopyOfC.Copy3.mn g)) vs .null := by
  obtain ⟨b1, b2⟩ := back32 hn
  have hmn : Jvm.Free.CopyOfC.Copy3.mn g = Int32.ofNat (min g.n.toNatClampNeg g.cs.slots.size) := by
    show (if g.n < g.cs.slots.size.toInt32 then g.n else g.cs.slots.size.toInt32) = _
    have t1 : (g.cs.slots.size.toInt32).toInt = (g.cs.slots.size : Int) := len_toInt hsz
    have t2 : g.n.toInt = (g.n.toNatClampNeg : Int) := nat_of hn
    by_cases q : g.n < g.cs.slots.size.toInt32
    · rw [if_pos q]
      rw [Int32.lt_iff_toInt_lt, t1, t2] at q
      have e : min g.n.toNatClampNeg g.cs.slots.size = g.n.toNatClampNeg := by omega
      rw [e]; exact b1.symm
    · rw [if_neg q]
      rw [Int32.lt_iff_toInt_lt, t1, t2] at q
      have e : min g.n.toNatClampNeg g.cs.slots.size = g.cs.slots.size := by omega
      rw [e]; try rfl
  have hf : (Jvm.Free.CopyOfC.Copy3.fresh g).slots = Array.replicate g.n.toNatClampNeg .null := rfl
  obtain ⟨f1, f2, f3⟩ := Jvm.Free.SB.copied_facts g.cs (Jvm.Free.CopyOfC.Copy3.fresh g) 0 0 (Jvm.Free.CopyOfC.Copy3.mn g)
  have hs : (copied g.cs (Jvm.Free.CopyOfC.Copy3.fresh g) 0 0 (Jvm.Free.CopyOfC.Copy3.mn g)).slots.size = g.n.toNatClampNeg := by rw [f3, hf]; simp
  refine ⟨f1, f2, hs, fun k hk => ?_⟩
  rw [hs] at hk
  have hat := Jvm.Free.SBG.copied_at (cs := g.cs) (cd := Jvm.Free.CopyOfC.Copy3.fresh g) (p := 0) (n := min g.n.toNatClampNeg g.cs.slots.size) (by decide) (by omega) (by rw [hf, Array.size_replicate]; omega) k
  rw [← hmn] at hat
  refine Eq.trans hat ?_
  by_cases q : k < min g.n.toNatClampNeg g.cs.slots.size
  · rw [if_pos ⟨Nat.zero_le _, by omega⟩, Nat.sub_zero]
    have hk2 : k < g.cs.slots.size := by omega
    have w := Ha k hk2
    rw [Array.getElem?_eq_getElem hk2] at w
    have e : g.cs.slots.getD k .null = vs.getD k .null := by
      rw [← Option.some.inj w]
      simp [Array.getD, hk2]
    rw [e]
  · rw [if_neg (by omega)]
    have e : vs.getD k .null = .null := by
      rw [List.getD_eq_getElem?_getD, List.getElem?_eq_none (by omega)]; rfl
    rw [e, hf, Array.getElem?_replicate, if_pos hk]
/-- Arrays.copyOf(Object[], int), one step of a walk -/
theorem own_copyOf {p : Program} {l : Launch} {e : Env} {R : Room} {s : State} {m : MethodId} {args : Array Value} {below : List Frame} {meth : Method} {c : Code} {T : State} {locs : List Loc} {cells slots : Nat} {Z : State} {a0 : Array Value} {h : Heap}
    (X : Stand p l e R s m args below meth c T locs cells slots) (hx : p.tables.exec = Jvm.exec) (hZ : Z.Warmed39 s.vm) (hw : ∀ d ∈ tables_1, d.before a0 Z = true) {own : String} {index : Nat} (hown : s.vm.findClass own = some m.cls) (w : (Jvm.Cond.methodLink own index ⟨"java/util/Arrays", "copyOf", "([Ljava/lang/Object;I)[Ljava/lang/Object;"⟩).before a0 Z = true) (eT : T.heap = h)
    (hM : ∃ (c : ClassId) (k : Class) (m : Addr), Z.vm.findClass "[Ljava/lang/Object;" = some c ∧ Z.vm.classes[c]? = some k ∧ k.mirror = some m) {ea : Addr} {k : ClassId} {z n : Int32} {vs : List Value} (V : Arv Z h ea k (.object "java/lang/Object") z vs .null) (EX : Exa Z h ea "[Ljava/lang/Object;") (O : Ovr Z k "java/lang/Object")
    (hl : vs.length ≤ z.toNatClampNeg) (hel : ∀ i, vs.getD i .null = .null ∨ ∃ b : Addr, vs.getD i .null = .ref b ∧ Ins Z h b "java/lang/Object" true) (hn : ¬ n < 0) {K : Nat} (hK : n.toNatClampNeg ≤ K) (hK2 : K * 4 ≤ 536870912) (hz : z.toNatClampNeg < 2 ^ 31)
    {g : JFrame} (hg : g.method = m) (hsize : g.locals.size = c.maxLocals) {rest : List Value} (hs : g.stack = .int n :: .ref ea :: rest) (hd : decode c.code g.pc = .ok (.invokestatic index, 3)) (hf : 4 ≤ R.frames) {W : Nat} (hW : 2 * g.monitorRoom + (rest.map fun v => v.category).sum ≤ W) (hlo : W + 77 ≤ R.locals) (hc : cells + 1 ≤ R.cells) (hsl : slots + K ≤ R.slots) :
    ∃ T' h' k', Stand p l e R s m args below meth c T' locs (cells + 1) (slots + K) ∧ T'.heap = h' ∧ Ext h h' ∧ Arv Z h' h.size k' (.object "java/lang/Object") n vs .null ∧ Exa Z h' h.size "[Ljava/lang/Object;" ∧ Ovr Z k' "java/lang/Object" ∧
      ∀ target, Steps p.tables e below (T'.setTop { g with pc := g.pc + 3, stack := .ref h.size :: rest }) target → Steps p.tables e below (T.setTop g) target := by
  obtain ⟨cs, Ar, hk, Sz, Nn, Ha, Ga⟩ := V
  obtain ⟨cOA, kOA, mir, m1, m2, m3⟩ := hM
  obtain ⟨cx, kx, x1, x2, x3, x4, -⟩ := EX
  cases x1.symm.trans Ar.1
  cases m1.symm.trans x2
  cases m2.symm.trans x3
  obtain ⟨kO, cObj, o1, o2, o3⟩ := O
  subst hk
  cases m2.symm.trans o1
  obtain ⟨kObj, ob⟩ := Vm.classAt_of_findClass o3
  have wcode : (Jvm.Cond.code (⟨"java/util/Arrays", "copyOf", "([Ljava/lang/Object;I)[Ljava/lang/Object;"⟩ : MethodName) _ 2 _).before a0 Z = true := (hw _ (List.mem_of_getElem? (i := 81) rfl))
  obtain ⟨mk, hnamed⟩ := Cond.code_named wcode
  have hAR : Z.vm.findClass "java/util/Arrays" = some mk.cls := findClass_of_methodNamed hnamed
  have hpre : ∀ vm₁, s.WarmedH vm₁ → Jvm.Free.CopyOfC.Copy2.P K ⟨ea, cs, n, mir, cs.cls, cObj, mk.cls⟩ #[.ref ea, .int n] (T.setVm vm₁) := fun vm₁ hW₁ => by
    have al : Z.vm.Alike vm₁ := hZ.alike.trans hW₁.alike
    have hZ1 : Z.Warmed39 (T.setVm vm₁).vm := State.Warmed39.trans hZ hW₁.wide
    obtain ⟨k1, a1, a2⟩ := al.2.2 _ _ m2
    obtain ⟨k2, c1, c2⟩ := al.2.2 _ _ ob
    refine ⟨rfl, ⟨rfl, by show T.heap[ea]? = _; rw [eT]; exact Ar.1, Ar.2.2, Ar.2.1.1, ⟨k1, cObj, _, a1, by rw [a2]; exact o2, rfl⟩, (by show vm₁.findClass _ = _; rw [al.findClass]; exact m1), ⟨k1, a1, by rw [a2]; exact o2, by rw [a2]; exact m3⟩, (by show vm₁.findClass _ = _; rw [al.findClass]; exact o3), ⟨k2, c1⟩, (by show vm₁.findClass _ = _; rw [al.findClass]; exact hAR), ?_, hK, (by show n.toNatClampNeg * 4 ≤ 536870912; omega), (by show cs.slots.size < _; rw [Sz]; exact hz), fun i hi => ?_⟩, notFace_of_selects (args := #[]) (mvT hZ1 (hw _ (List.mem_of_getElem? (i := 85) rfl))), rfl⟩
    · show 0 ≤ n.toInt
      rw [nat_of hn]; omega
    · refine ⟨_, Ha i hi, ?_⟩
      rcases hel i with q | ⟨b, q, I⟩
      · exact Or.inl q
      · obtain ⟨cv, cT, i1, i2, i3⟩ := I
        cases o3.symm.trans i2
        simp only [Bool.and_eq_true, Bool.not_eq_true'] at i3
        obtain ⟨kv, q2⟩ := Vm.classAt_of_assignable i3.2 ⟨_, ob⟩
        obtain ⟨k3, d1, -⟩ := al.2.2 _ _ q2
        exact Or.inr ⟨b, cv, q, by show T.heap[b]? = _; rw [eT]; exact i1, fun q z => by rw [z] at i3; exact absurd i3.1 (by simp [VmData.isStatics]), ⟨k3, d1⟩, (by show vm₁.assignable _ _ = true; rw [al.assignable]; exact i3.2)⟩
  obtain ⟨v, vm₁, ⟨T', L', k', n'⟩, hW₁, X', ⟨hv, hcell, l1, y1, z1, hold⟩, st⟩ := Jvm.LawKit.callS X hx (y := (⟨"java/util/Arrays", "copyOf", "([Ljava/lang/Object;I)[Ljava/lang/Object;"⟩ : MethodName)) hown (mvT hZ w) (mvT hZ (hw _ (List.mem_of_getElem? (i := 79) rfl))) (mvT hZ (hw _ (List.mem_of_getElem? (i := 80) rfl))) (mvT hZ wcode) (by decide) (Jvm.Free.CopyOfC.Copy2.pays K ⟨ea, cs, n, mir, cs.cls, cObj, mk.cls⟩ (own_tab2 hw hZ) hf hlo) hg hsize (argsL := [.ref ea, .int n]) (rest := rest) (lenOf own_pdC rfl) hs hW hd (fun vm₁ h₁ => ⟨hc, hsl, hpre vm₁ h₁⟩)
  dsimp only [Pt.U, Pt.locs, Pt.cells, Pt.slots] at X' st hcell l1 y1 z1 hold hv
  subst l1 y1 z1 hv
  have eH : (T.setVm vm₁).heap = h := eT
  rw [eH] at hcell hold st
  obtain ⟨g1, g2, g3, g4⟩ := own_copied (g := ⟨ea, cs, n, mir, cs.cls, cObj, mk.cls⟩) (vs := vs) hn (by show cs.slots.size < _; rw [Sz]; exact hz) Ha (by show _ ≤ cs.slots.size; rw [Sz]; exact hl)
  have AN : Arr Z T'.heap h.size _ (.object "java/lang/Object") := ⟨hcell, ⟨(fun q z => by rw [g2] at z; cases z), _, (by rw [g1]; exact m2), _, o2⟩, (by rw [g2]; exact fun z => by cases z)⟩
  refine ⟨T', _, cs.cls, X'.more (Nat.le_refl _) (Nat.add_le_add_left hK _), rfl, ⟨Nat.le_of_lt (Array.getElem?_eq_some_iff.mp hcell).1, hold⟩, ⟨_, AN, g1, g3, hn, g4, fun i hi => ?_⟩, ⟨_, _, hcell, (by rw [g1]; exact m1), (by rw [g1]; exact m2), (by rw [g2]; rfl), (fun q => by rw [o2] at q; cases q)⟩, ⟨_, _, m2, o2, o3⟩, st⟩
  rcases hel i with q | ⟨b, q, -⟩
  · rw [q]; rfl
  · rw [q]; rfl
theorem own_m6 (x : Int32) : ((x &&& (2147483647 : Int32)) % (6 : Int32)) = (0 : Int32) ∨ ((x &&& (2147483647 : Int32)) % (6 : Int32)) = (1 : Int32) ∨ ((x &&& (2147483647 : Int32)) % (6 : Int32)) = (2 : Int32) ∨ ((x &&& (2147483647 : Int32)) % (6 : Int32)) = (3 : Int32) ∨ ((x &&& (2147483647 : Int32)) % (6 : Int32)) = (4 : Int32) ∨ ((x &&& (2147483647 : Int32)) % (6 : Int32)) = (5 : Int32) := by
  have h1 := c_and x 2147483647 (by decide)
  have h2 := (c_irem (x &&& (2147483647 : Int32)) 6 6 (by decide)).1 h1.1
  have h3 : ((x &&& (2147483647 : Int32)) % (6 : Int32)).toInt = 0 ∨ ((x &&& (2147483647 : Int32)) % (6 : Int32)).toInt = 1 ∨ ((x &&& (2147483647 : Int32)) % (6 : Int32)).toInt = 2 ∨ ((x &&& (2147483647 : Int32)) % (6 : Int32)).toInt = 3 ∨ ((x &&& (2147483647 : Int32)) % (6 : Int32)).toInt = 4 ∨ ((x &&& (2147483647 : Int32)) % (6 : Int32)).toInt = 5 := by omega
  rcases h3 with h | h | h | h | h | h
  · exact Or.inl (Int32.toInt_inj.mp (h.trans (by decide)))
  · exact Or.inr (Or.inl (Int32.toInt_inj.mp (h.trans (by decide))))
  · exact Or.inr (Or.inr (Or.inl (Int32.toInt_inj.mp (h.trans (by decide)))))
  · exact Or.inr (Or.inr (Or.inr (Or.inl (Int32.toInt_inj.mp (h.trans (by decide))))))
  · exact Or.inr (Or.inr (Or.inr (Or.inr (Or.inl (Int32.toInt_inj.mp (h.trans (by decide)))))))
  · exact Or.inr (Or.inr (Or.inr (Or.inr (Or.inr (Int32.toInt_inj.mp (h.trans (by decide)))))))
theorem d_jdk_22_m_1_0 : decode jdk_22_method_1_code 0 = .ok (.aload_n 0, 1) := by decide +kernel
theorem d_jdk_22_m_1_1 : decode jdk_22_method_1_code 1 = .ok (.invokespecial 1, 3) := by decide +kernel
theorem d_jdk_22_m_1_4 : decode jdk_22_method_1_code 4 = .ok (.return_, 1) := by decide +kernel
theorem d_jdk_39_m_1_0 : decode jdk_39_method_1_code 0 = .ok (.aload_n 0, 1) := by decide +kernel
theorem d_jdk_39_m_1_1 : decode jdk_39_method_1_code 1 = .ok (.invokespecial 1, 3) := by decide +kernel
theorem d_jdk_39_m_1_4 : decode jdk_39_method_1_code 4 = .ok (.aload_n 0, 1) := by decide +kernel
theorem d_jdk_39_m_1_5 : decode jdk_39_method_1_code 5 = .ok (.iconst 0, 1) := by decide +kernel
theorem d_jdk_39_m_1_6 : decode jdk_39_method_1_code 6 = .ok (.putfield 7, 3) := by decide +kernel
theorem d_jdk_39_m_1_9 : decode jdk_39_method_1_code 9 = .ok (.return_, 1) := by decide +kernel
theorem d_prog_28_m_1_0 : decode prog_28_method_1_code 0 = .ok (.aload_n 0, 1) := by decide +kernel
theorem d_prog_28_m_1_1 : decode prog_28_method_1_code 1 = .ok (.invokespecial 3, 3) := by decide +kernel
theorem d_prog_28_m_1_4 : decode prog_28_method_1_code 4 = .ok (.aload_n 0, 1) := by decide +kernel
theorem d_prog_28_m_1_5 : decode prog_28_method_1_code 5 = .ok (.iconst 1, 1) := by decide +kernel
theorem d_prog_28_m_1_6 : decode prog_28_method_1_code 6 = .ok (.anewarray 9, 3) := by decide +kernel
theorem d_prog_28_m_1_9 : decode prog_28_method_1_code 9 = .ok (.dup, 1) := by decide +kernel
theorem d_prog_28_m_1_10 : decode prog_28_method_1_code 10 = .ok (.iconst 0, 1) := by decide +kernel
theorem d_prog_28_m_1_11 : decode prog_28_method_1_code 11 = .ok (.iconst 4, 1) := by decide +kernel
theorem d_prog_28_m_1_12 : decode prog_28_method_1_code 12 = .ok (.anewarray 11, 3) := by decide +kernel
theorem d_prog_28_m_1_15 : decode prog_28_method_1_code 15 = .ok (.aastore, 1) := by decide +kernel
theorem d_prog_28_m_1_16 : decode prog_28_method_1_code 16 = .ok (.putfield 13, 3) := by decide +kernel
theorem d_prog_28_m_1_19 : decode prog_28_method_1_code 19 = .ok (.return_, 1) := by decide +kernel
theorem d_prog_28_m_2_0 : decode prog_28_method_2_code 0 = .ok (.aload_n 0, 1) := by decide +kernel
theorem d_prog_28_m_2_1 : decode prog_28_method_2_code 1 = .ok (.getfield 17, 3) := by decide +kernel
theorem d_prog_28_m_2_4 : decode prog_28_method_2_code 4 = .ok (.bipush 12, 2) := by decide +kernel
theorem d_prog_28_m_2_6 : decode prog_28_method_2_code 6 = .ok (.iushr, 1) := by decide +kernel
theorem d_prog_28_m_2_7 : decode prog_28_method_2_code 7 = .ok (.istore_n 2, 1) := by decide +kernel
theorem d_prog_28_m_2_8 : decode prog_28_method_2_code 8 = .ok (.aload_n 0, 1) := by decide +kernel
theorem d_prog_28_m_2_9 : decode prog_28_method_2_code 9 = .ok (.getfield 17, 3) := by decide +kernel
theorem d_prog_28_m_2_12 : decode prog_28_method_2_code 12 = .ok (.sipush 4095, 3) := by decide +kernel
theorem d_prog_28_m_2_15 : decode prog_28_method_2_code 15 = .ok (.iand, 1) := by decide +kernel
theorem d_prog_28_m_2_16 : decode prog_28_method_2_code 16 = .ok (.istore_n 3, 1) := by decide +kernel
theorem d_prog_28_m_2_17 : decode prog_28_method_2_code 17 = .ok (.iload_n 2, 1) := by decide +kernel
theorem d_prog_28_m_2_18 : decode prog_28_method_2_code 18 = .ok (.aload_n 0, 1) := by decide +kernel
theorem d_prog_28_m_2_19 : decode prog_28_method_2_code 19 = .ok (.getfield 13, 3) := by decide +kernel
theorem d_prog_28_m_2_22 : decode prog_28_method_2_code 22 = .ok (.arraylength, 1) := by decide +kernel
theorem d_prog_28_m_2_23 : decode prog_28_method_2_code 23 = .ok (.if_icmp .ne 20, 3) := by decide +kernel
theorem d_prog_28_m_2_43 : decode prog_28_method_2_code 43 = .ok (.aload_n 0, 1) := by decide +kernel
theorem d_prog_28_m_2_44 : decode prog_28_method_2_code 44 = .ok (.getfield 13, 3) := by decide +kernel
theorem d_prog_28_m_2_47 : decode prog_28_method_2_code 47 = .ok (.iload_n 2, 1) := by decide +kernel
theorem d_prog_28_m_2_48 : decode prog_28_method_2_code 48 = .ok (.aaload, 1) := by decide +kernel
theorem d_prog_28_m_2_49 : decode prog_28_method_2_code 49 = .ok (.astore 4, 2) := by decide +kernel
theorem d_prog_28_m_2_51 : decode prog_28_method_2_code 51 = .ok (.aload 4, 2) := by decide +kernel
theorem d_prog_28_m_2_53 : decode prog_28_method_2_code 53 = .ok (.ifnonnull 22, 3) := by decide +kernel
theorem d_prog_28_m_2_75 : decode prog_28_method_2_code 75 = .ok (.iload_n 3, 1) := by decide +kernel
theorem d_prog_28_m_2_76 : decode prog_28_method_2_code 76 = .ok (.aload 4, 2) := by decide +kernel
theorem d_prog_28_m_2_78 : decode prog_28_method_2_code 78 = .ok (.arraylength, 1) := by decide +kernel
theorem d_prog_28_m_2_79 : decode prog_28_method_2_code 79 = .ok (.if_icmp .ne 27, 3) := by decide +kernel
theorem d_prog_28_m_2_82 : decode prog_28_method_2_code 82 = .ok (.aload 4, 2) := by decide +kernel
theorem d_prog_28_m_2_84 : decode prog_28_method_2_code 84 = .ok (.iconst 2, 1) := by decide +kernel
theorem d_prog_28_m_2_85 : decode prog_28_method_2_code 85 = .ok (.iload_n 3, 1) := by decide +kernel
theorem d_prog_28_m_2_86 : decode prog_28_method_2_code 86 = .ok (.imul, 1) := by decide +kernel
theorem d_prog_28_m_2_87 : decode prog_28_method_2_code 87 = .ok (.sipush 4096, 3) := by decide +kernel
theorem d_prog_28_m_2_90 : decode prog_28_method_2_code 90 = .ok (.invokestatic 28, 3) := by decide +kernel
theorem d_prog_28_m_2_93 : decode prog_28_method_2_code 93 = .ok (.invokestatic 21, 3) := by decide +kernel
theorem d_prog_28_m_2_96 : decode prog_28_method_2_code 96 = .ok (.astore 4, 2) := by decide +kernel
theorem d_prog_28_m_2_98 : decode prog_28_method_2_code 98 = .ok (.aload_n 0, 1) := by decide +kernel
theorem d_prog_28_m_2_99 : decode prog_28_method_2_code 99 = .ok (.getfield 13, 3) := by decide +kernel
theorem d_prog_28_m_2_102 : decode prog_28_method_2_code 102 = .ok (.iload_n 2, 1) := by decide +kernel
theorem d_prog_28_m_2_103 : decode prog_28_method_2_code 103 = .ok (.aload 4, 2) := by decide +kernel
theorem d_prog_28_m_2_105 : decode prog_28_method_2_code 105 = .ok (.aastore, 1) := by decide +kernel
theorem d_prog_28_m_2_106 : decode prog_28_method_2_code 106 = .ok (.aload 4, 2) := by decide +kernel
theorem d_prog_28_m_2_108 : decode prog_28_method_2_code 108 = .ok (.iload_n 3, 1) := by decide +kernel
theorem d_prog_28_m_2_109 : decode prog_28_method_2_code 109 = .ok (.aload_n 1, 1) := by decide +kernel
theorem d_prog_28_m_2_110 : decode prog_28_method_2_code 110 = .ok (.aastore, 1) := by decide +kernel
theorem d_prog_28_m_2_111 : decode prog_28_method_2_code 111 = .ok (.aload_n 0, 1) := by decide +kernel
theorem d_prog_28_m_2_112 : decode prog_28_method_2_code 112 = .ok (.dup, 1) := by decide +kernel
theorem d_prog_28_m_2_113 : decode prog_28_method_2_code 113 = .ok (.getfield 17, 3) := by decide +kernel
theorem d_prog_28_m_2_116 : decode prog_28_method_2_code 116 = .ok (.iconst 1, 1) := by decide +kernel
theorem d_prog_28_m_2_117 : decode prog_28_method_2_code 117 = .ok (.iadd, 1) := by decide +kernel
theorem d_prog_28_m_2_118 : decode prog_28_method_2_code 118 = .ok (.putfield 17, 3) := by decide +kernel
theorem d_prog_28_m_2_121 : decode prog_28_method_2_code 121 = .ok (.aload_n 0, 1) := by decide +kernel
theorem d_prog_28_m_2_122 : decode prog_28_method_2_code 122 = .ok (.dup, 1) := by decide +kernel
theorem d_prog_28_m_2_123 : decode prog_28_method_2_code 123 = .ok (.getfield 34, 3) := by decide +kernel
theorem d_prog_28_m_2_126 : decode prog_28_method_2_code 126 = .ok (.iconst 1, 1) := by decide +kernel
theorem d_prog_28_m_2_127 : decode prog_28_method_2_code 127 = .ok (.iadd, 1) := by decide +kernel
theorem d_prog_28_m_2_128 : decode prog_28_method_2_code 128 = .ok (.putfield 34, 3) := by decide +kernel
theorem d_prog_28_m_2_131 : decode prog_28_method_2_code 131 = .ok (.iconst 1, 1) := by decide +kernel
theorem d_prog_28_m_2_132 : decode prog_28_method_2_code 132 = .ok (.ireturn, 1) := by decide +kernel
theorem d_jdk_18_m_1_0 : decode jdk_18_method_1_code 0 = .ok (.aload_n 0, 1) := by decide +kernel
theorem d_jdk_18_m_1_1 : decode jdk_18_method_1_code 1 = .ok (.invokespecial 1, 3) := by decide +kernel
theorem d_jdk_18_m_1_4 : decode jdk_18_method_1_code 4 = .ok (.return_, 1) := by decide +kernel
theorem d_jdk_33_m_23_0 : decode jdk_33_method_23_code 0 = .ok (.aload_n 0, 1) := by decide +kernel
theorem d_jdk_33_m_23_1 : decode jdk_33_method_23_code 1 = .ok (.invokespecial 202, 3) := by decide +kernel
theorem d_jdk_33_m_23_4 : decode jdk_33_method_23_code 4 = .ok (.aload_n 0, 1) := by decide +kernel
theorem d_jdk_33_m_23_5 : decode jdk_33_method_23_code 5 = .ok (.iload_n 1, 1) := by decide +kernel
theorem d_jdk_33_m_23_6 : decode jdk_33_method_23_code 6 = .ok (.putfield 205, 3) := by decide +kernel
theorem d_jdk_33_m_23_9 : decode jdk_33_method_23_code 9 = .ok (.return_, 1) := by decide +kernel
theorem d_jdk_33_m_22_0 : decode jdk_33_method_22_code 0 = .ok (.iload_n 0, 1) := by decide +kernel
theorem d_jdk_33_m_22_1 : decode jdk_33_method_22_code 1 = .ok (.bipush (-128), 2) := by decide +kernel
theorem d_jdk_33_m_22_3 : decode jdk_33_method_22_code 3 = .ok (.if_icmp .lt 20, 3) := by decide +kernel
theorem d_jdk_33_m_22_6 : decode jdk_33_method_22_code 6 = .ok (.iload_n 0, 1) := by decide +kernel
theorem d_jdk_33_m_22_7 : decode jdk_33_method_22_code 7 = .ok (.getstatic 191, 3) := by decide +kernel
theorem d_jdk_33_m_22_10 : decode jdk_33_method_22_code 10 = .ok (.if_icmp .gt 13, 3) := by decide +kernel
theorem d_jdk_33_m_22_13 : decode jdk_33_method_22_code 13 = .ok (.getstatic 195, 3) := by decide +kernel
theorem d_jdk_33_m_22_16 : decode jdk_33_method_22_code 16 = .ok (.iload_n 0, 1) := by decide +kernel
theorem d_jdk_33_m_22_17 : decode jdk_33_method_22_code 17 = .ok (.sipush 128, 3) := by decide +kernel
theorem d_jdk_33_m_22_20 : decode jdk_33_method_22_code 20 = .ok (.iadd, 1) := by decide +kernel
theorem d_jdk_33_m_22_21 : decode jdk_33_method_22_code 21 = .ok (.aaload, 1) := by decide +kernel
theorem d_jdk_33_m_22_22 : decode jdk_33_method_22_code 22 = .ok (.areturn, 1) := by decide +kernel
theorem d_jdk_33_m_22_23 : decode jdk_33_method_22_code 23 = .ok (.new 1, 3) := by decide +kernel
theorem d_jdk_33_m_22_26 : decode jdk_33_method_22_code 26 = .ok (.dup, 1) := by decide +kernel
theorem d_jdk_33_m_22_27 : decode jdk_33_method_22_code 27 = .ok (.iload_n 0, 1) := by decide +kernel
theorem d_jdk_33_m_22_28 : decode jdk_33_method_22_code 28 = .ok (.invokespecial 199, 3) := by decide +kernel
theorem d_jdk_33_m_22_31 : decode jdk_33_method_22_code 31 = .ok (.areturn, 1) := by decide +kernel
theorem d_jdk_29_m_69_0 : decode jdk_29_method_69_code 0 = .ok (.iload_n 0, 1) := by decide +kernel
theorem d_jdk_29_m_69_1 : decode jdk_29_method_69_code 1 = .ok (.iload_n 1, 1) := by decide +kernel
theorem d_jdk_29_m_69_2 : decode jdk_29_method_69_code 2 = .ok (.if_icmp .gt 7, 3) := by decide +kernel
theorem d_jdk_29_m_69_5 : decode jdk_29_method_69_code 5 = .ok (.iload_n 0, 1) := by decide +kernel
theorem d_jdk_29_m_69_6 : decode jdk_29_method_69_code 6 = .ok (.goto 4, 3) := by decide +kernel
theorem d_jdk_29_m_69_9 : decode jdk_29_method_69_code 9 = .ok (.iload_n 1, 1) := by decide +kernel
theorem d_jdk_29_m_69_10 : decode jdk_29_method_69_code 10 = .ok (.ireturn, 1) := by decide +kernel
theorem d_prog_28_m_3_0 : decode prog_28_method_3_code 0 = .ok (.aload_n 0, 1) := by decide +kernel
theorem d_prog_28_m_3_1 : decode prog_28_method_3_code 1 = .ok (.getfield 17, 3) := by decide +kernel
theorem d_prog_28_m_3_4 : decode prog_28_method_3_code 4 = .ok (.ifCond .ne 13, 3) := by decide +kernel
theorem d_prog_28_m_3_17 : decode prog_28_method_3_code 17 = .ok (.aload_n 0, 1) := by decide +kernel
theorem d_prog_28_m_3_18 : decode prog_28_method_3_code 18 = .ok (.getfield 17, 3) := by decide +kernel
theorem d_prog_28_m_3_21 : decode prog_28_method_3_code 21 = .ok (.iconst 1, 1) := by decide +kernel
theorem d_prog_28_m_3_22 : decode prog_28_method_3_code 22 = .ok (.isub, 1) := by decide +kernel
theorem d_prog_28_m_3_23 : decode prog_28_method_3_code 23 = .ok (.istore_n 1, 1) := by decide +kernel
theorem d_prog_28_m_3_24 : decode prog_28_method_3_code 24 = .ok (.aload_n 0, 1) := by decide +kernel
theorem d_prog_28_m_3_25 : decode prog_28_method_3_code 25 = .ok (.getfield 13, 3) := by decide +kernel
theorem d_prog_28_m_3_28 : decode prog_28_method_3_code 28 = .ok (.iload_n 1, 1) := by decide +kernel
theorem d_prog_28_m_3_29 : decode prog_28_method_3_code 29 = .ok (.bipush 12, 2) := by decide +kernel
theorem d_prog_28_m_3_31 : decode prog_28_method_3_code 31 = .ok (.iushr, 1) := by decide +kernel
theorem d_prog_28_m_3_32 : decode prog_28_method_3_code 32 = .ok (.aaload, 1) := by decide +kernel
theorem d_prog_28_m_3_33 : decode prog_28_method_3_code 33 = .ok (.astore_n 2, 1) := by decide +kernel
theorem d_prog_28_m_3_34 : decode prog_28_method_3_code 34 = .ok (.iload_n 1, 1) := by decide +kernel
theorem d_prog_28_m_3_35 : decode prog_28_method_3_code 35 = .ok (.sipush 4095, 3) := by decide +kernel
theorem d_prog_28_m_3_38 : decode prog_28_method_3_code 38 = .ok (.iand, 1) := by decide +kernel
theorem d_prog_28_m_3_39 : decode prog_28_method_3_code 39 = .ok (.istore_n 3, 1) := by decide +kernel
theorem d_prog_28_m_3_40 : decode prog_28_method_3_code 40 = .ok (.aload_n 2, 1) := by decide +kernel
theorem d_prog_28_m_3_41 : decode prog_28_method_3_code 41 = .ok (.iload_n 3, 1) := by decide +kernel
theorem d_prog_28_m_3_42 : decode prog_28_method_3_code 42 = .ok (.aaload, 1) := by decide +kernel
theorem d_prog_28_m_3_43 : decode prog_28_method_3_code 43 = .ok (.astore 4, 2) := by decide +kernel
theorem d_prog_28_m_3_45 : decode prog_28_method_3_code 45 = .ok (.aload_n 2, 1) := by decide +kernel
theorem d_prog_28_m_3_46 : decode prog_28_method_3_code 46 = .ok (.iload_n 3, 1) := by decide +kernel
theorem d_prog_28_m_3_47 : decode prog_28_method_3_code 47 = .ok (.aconst_null, 1) := by decide +kernel
theorem d_prog_28_m_3_48 : decode prog_28_method_3_code 48 = .ok (.aastore, 1) := by decide +kernel
theorem d_prog_28_m_3_49 : decode prog_28_method_3_code 49 = .ok (.aload_n 0, 1) := by decide +kernel
theorem d_prog_28_m_3_50 : decode prog_28_method_3_code 50 = .ok (.iload_n 1, 1) := by decide +kernel
theorem d_prog_28_m_3_51 : decode prog_28_method_3_code 51 = .ok (.putfield 17, 3) := by decide +kernel
theorem d_prog_28_m_3_54 : decode prog_28_method_3_code 54 = .ok (.aload_n 0, 1) := by decide +kernel
theorem d_prog_28_m_3_55 : decode prog_28_method_3_code 55 = .ok (.dup, 1) := by decide +kernel
theorem d_prog_28_m_3_56 : decode prog_28_method_3_code 56 = .ok (.getfield 34, 3) := by decide +kernel
theorem d_prog_28_m_3_59 : decode prog_28_method_3_code 59 = .ok (.iconst 1, 1) := by decide +kernel
theorem d_prog_28_m_3_60 : decode prog_28_method_3_code 60 = .ok (.iadd, 1) := by decide +kernel
theorem d_prog_28_m_3_61 : decode prog_28_method_3_code 61 = .ok (.putfield 34, 3) := by decide +kernel
theorem d_prog_28_m_3_64 : decode prog_28_method_3_code 64 = .ok (.aload 4, 2) := by decide +kernel
theorem d_prog_28_m_3_66 : decode prog_28_method_3_code 66 = .ok (.areturn, 1) := by decide +kernel
theorem d_prog_28_m_5_0 : decode prog_28_method_5_code 0 = .ok (.aload_n 0, 1) := by decide +kernel
theorem d_prog_28_m_5_1 : decode prog_28_method_5_code 1 = .ok (.getfield 17, 3) := by decide +kernel
theorem d_prog_28_m_5_4 : decode prog_28_method_5_code 4 = .ok (.ireturn, 1) := by decide +kernel
theorem pd_0 : parseMethodDescriptor "()V" = some ⟨[], none⟩ := by decide +kernel
theorem pd_1 : parseMethodDescriptor "(I)V" = some ⟨[.int], none⟩ := by decide +kernel
theorem pd_2 : parseMethodDescriptor "(II)I" = some ⟨[.int, .int], some .int⟩ := by decide +kernel
theorem pd_3 : parseMethodDescriptor "(I)Ljava/lang/Integer;" = some ⟨[.int], some (.object "java/lang/Integer")⟩ := by decide +kernel
theorem pd_4 : parseMethodDescriptor "()I" = some ⟨[], some .int⟩ := by decide +kernel
theorem pd_5 : parseMethodDescriptor "(Ljava/lang/Object;)Z" = some ⟨[(.object "java/lang/Object")], some .boolean⟩ := by decide +kernel
theorem pd_6 : parseMethodDescriptor "()Ljava/lang/Object;" = some ⟨[], some (.object "java/lang/Object")⟩ := by decide +kernel
theorem pn_0 : plainName "java/util/AbstractCollection" = true := by first | (simp [plainName, overriddenIn]; done) | decide +kernel
theorem pn_1 : plainName "java/util/AbstractList" = true := by first | (simp [plainName, overriddenIn]; done) | decide +kernel
theorem pn_2 : plainName "com/example/anchored_threads/anchoredthreads/internal/ChunkedList" = true := by first | (simp [plainName, overriddenIn]; done) | decide +kernel
theorem pn_3 : plainName "java/lang/Number" = true := by first | (simp [plainName, overriddenIn]; done) | decide +kernel
theorem pn_4 : plainName "java/lang/Integer" = true := by first | (simp [plainName, overriddenIn]; done) | decide +kernel
theorem pn_5 : plainName "com/example/anchored_threads/anchoredthreads/internal/ChunkedListRemoveLastPinLaw" = true := by first | (simp [plainName, overriddenIn]; done) | decide +kernel
theorem ef_rmAC (m : MethodId) (x0 : Addr) : entryFrame m #[(.ref x0)] 1 = mkF m 0 #[.val (.ref x0)] [] := by first | (simp [entryFrame, mkF, argsToLocals, Value.category]; done) | rfl
set_option maxRecDepth 65536 in
set_option maxHeartbeats 40000000 in
theorem rmAC (l : Launch) (Z : State) (a0 : Array Value) (hw : ∀ d ∈ tables_1, d.before a0 Z = true) (ws : List Jvm.Cond) (a : Addr) (h0 : Heap) (n0 : Nat) (Z0 : n0 ≤ h0.size)  :
    MetFree l (⟨"java/util/AbstractCollection", "<init>", "()V"⟩ : MethodName) (head1 (Jvm.Cond.code (⟨"java/util/AbstractCollection", "<init>", "()V"⟩ : MethodName) jdk_22_method_1_code 1 none :: ws) ({ frames := 1, cells := 0, slots := 0, locals := 12 } : Room)) (fun aa_ UU_ => aa_ = #[(.ref a)] ∧ Z.Warmed39 UU_.vm ∧ UU_.heap = h0) (fun _ _ _ _ _ => True) (fun _ UU_ oo_ UE_ => ∃ vv_ LL_, oo_ = .returned vv_ ∧ QV none h0 n0 vv_ UE_.heap LL_ ∧ FrameEnd UU_ oo_ UE_ LL_ ({ frames := 1, cells := 0, slots := 0, locals := 12 } : Room).cells ({ frames := 1, cells := 0, slots := 0, locals := 12 } : Room).slots) := by
  refine MetFree.of_bodySF (plainFor_of_name pn_0) hisR ?_
  intro p e s m args below meth c s₁ Bd hml0 hP hK
  obtain ⟨rfl, hZ, hh⟩ := hP
  have hx := Bd.exec
  have hby := Bd.bytes
  have hml : c.maxLocals = 1 := hml0
  have hown : s.vm.findClass "java/util/AbstractCollection" = some m.cls := findClass_of_methodNamed Bd.named
  have hnm := (name_of_methodNamed Bd.named Bd.method).1
  have X0 : Stand p l e ({ frames := 1, cells := 0, slots := 0, locals := 12 } : Room) s m #[(.ref a)] below meth c s₁ [] 0 0 := Stand.of_body Bd
  have e0 : s₁.heap = h0 := by rw [← hh, Bd.state]; rfl
  have N0 := Fr.nil n0
  have pre0 : ∀ tg, Steps p.tables e below (s₁.setTop (mkF m 0 #[.val (.ref a)] [])) tg → Steps p.tables e below (s₁.setTop (entryFrame m #[(.ref a)] 1)) tg := fun tg kq_ => castTop (ef_rmAC m a) kq_
  obtain ⟨T1, X1, e1, st1⟩ := initO X0 hx hZ hown (hw _ (List.mem_of_getElem? (i := 28) rfl)) (hw _ (List.mem_of_getElem? (i := 29) rfl)) (hw _ (List.mem_of_getElem? (i := 30) rfl)) e0 (g := (mkF m 1 #[.val (.ref a)] [(.ref a)])) rfl (by rw [hml]; rfl) rfl (hb hby d_jdk_22_m_1_1) (by decide) (W := 0) (by show 2 * 0 + _ ≤ _; exact Nat.le_of_eq rfl) (by decide)
  obtain ⟨fs, hr, hrun, hended, hW, hsame⟩ := X1.leave (v := none) (fun _ => rfl)
  refine ⟨_, _, pre0 _ ?_, hrun, hended, _, _, rfl, ?_, ⟨_, rfl⟩, hW, hsame.mono (by decide) (by decide)⟩
  · show Steps p.tables e below (s₁.setTop (mkF m 0 #[.val (.ref a)] [])) _
    refine XS.aloadN X0.here hx rfl (hb hby d_jdk_22_m_1_0) rfl rfl ?_
    show Steps p.tables e below (s₁.setTop (mkF m 1 #[.val (.ref a)] [(.ref a)])) _
    refine st1 _ ?_
    show Steps p.tables e below (T1.setTop (mkF m 4 #[.val (.ref a)] [])) _
    exact X1.returnOut hx Bd.returns (hb hby d_jdk_22_m_1_4) hr
  · show QV none h0 n0 _ T1.heap _
    rw [e1]
    exact ⟨rfl, N0, rfl⟩
theorem ef_rmAL (m : MethodId) (x0 : Addr) : entryFrame m #[(.ref x0)] 1 = mkF m 0 #[.val (.ref x0)] [] := by first | (simp [entryFrame, mkF, argsToLocals, Value.category]; done) | rfl
set_option maxRecDepth 65536 in
set_option maxHeartbeats 40000000 in
theorem rmAL (l : Launch) (Z : State) (a0 : Array Value) (hw : ∀ d ∈ tables_1, d.before a0 Z = true) (ws : List Jvm.Cond) (a : Addr) (h0 : Heap) (n0 : Nat) (Z0 : n0 ≤ h0.size) (hE : Exa Z h0 a "com/example/anchored_threads/anchoredthreads/internal/ChunkedList") (hFm : Fld Z h0 a "java/util/AbstractList" "modCount" "I" (.int (0 : Int32))) (hFs : Fld Z h0 a "com/example/anchored_threads/anchoredthreads/internal/ChunkedList" "size" "I" (.int (0 : Int32))) (hFc : Fld Z h0 a "com/example/anchored_threads/anchoredthreads/internal/ChunkedList" "chunks" "[[Ljava/lang/Object;" .null) (hga : n0 ≤ a) :
    MetFree l (⟨"java/util/AbstractList", "<init>", "()V"⟩ : MethodName) (head1 (Jvm.Cond.code (⟨"java/util/AbstractList", "<init>", "()V"⟩ : MethodName) jdk_39_method_1_code 1 none :: ws) ({ frames := 2, cells := 0, slots := 0, locals := 24 } : Room)) (fun aa_ UU_ => aa_ = #[(.ref a)] ∧ Z.Warmed39 UU_.vm ∧ UU_.heap = h0) (fun _ _ _ _ _ => True) (fun _ UU_ oo_ UE_ => ∃ vv_ LL_, oo_ = .returned vv_ ∧ QAL Z a h0 n0 vv_ UE_.heap LL_ ∧ FrameEnd UU_ oo_ UE_ LL_ ({ frames := 2, cells := 0, slots := 0, locals := 24 } : Room).cells ({ frames := 2, cells := 0, slots := 0, locals := 24 } : Room).slots) := by
  refine MetFree.of_bodySF (plainFor_of_name pn_1) hisR ?_
  intro p e s m args below meth c s₁ Bd hml0 hP hK
  obtain ⟨rfl, hZ, hh⟩ := hP
  have hx := Bd.exec
  have hby := Bd.bytes
  have hml : c.maxLocals = 1 := hml0
  have hown : s.vm.findClass "java/util/AbstractList" = some m.cls := findClass_of_methodNamed Bd.named
  have hnm := (name_of_methodNamed Bd.named Bd.method).1
  have X0 : Stand p l e ({ frames := 2, cells := 0, slots := 0, locals := 24 } : Room) s m #[(.ref a)] below meth c s₁ [] 0 0 := Stand.of_body Bd
  have e0 : s₁.heap = h0 := by rw [← hh, Bd.state]; rfl
  have N0 := Fr.nil n0
  have K0 : Keep h0 h0 [a] := Keep.refl h0 _
  have pre0 : ∀ tg, Steps p.tables e below (s₁.setTop (mkF m 0 #[.val (.ref a)] [])) tg → Steps p.tables e below (s₁.setTop (entryFrame m #[(.ref a)] 1)) tg := fun tg kq_ => castTop (ef_rmAL m a) kq_
  obtain ⟨_, _, ⟨T1, L1, k1, n1⟩, -, X1, ⟨Lc1, hQ1, l1, y1, z1⟩, st1⟩ := X0.specialBack hx (y := (⟨"java/util/AbstractCollection", "<init>", "()V"⟩ : MethodName)) rfl hown (mvT hZ (hw _ (List.mem_of_getElem? (i := 22) rfl))) (mvT hZ (hw _ (List.mem_of_getElem? (i := 23) rfl))) (mvT hZ (hw _ (List.mem_of_getElem? (i := 27) rfl))) (by decide) (backOf (W := 0) (rmAC l Z a0 hw [] a h0 n0 Z0) hZ (hw _ (List.mem_of_getElem? (i := 27) rfl)) (hw _ (List.mem_of_getElem? (i := 26) rfl)) (by decide) (by decide)) (g := (mkF m 1 #[.val (.ref a)] [(.ref a)])) rfl (by rw [hml]; rfl) (Steps.refl _) (a := a) (argsL := []) (rest := []) (lenOf pd_0 rfl) rfl (by show 2 * 0 + _ ≤ _; exact Nat.le_of_eq rfl) (hb hby d_jdk_39_m_1_1) (fun _ _ => ⟨rfl, e0, (by decide : 0 + 0 ≤ _), (by decide : 0 + 0 ≤ _)⟩)
  dsimp only [Pt.U, Pt.locs, Pt.cells, Pt.slots] at X1 l1 y1 z1 st1 hQ1
  subst l1 y1 z1
  obtain ⟨hv1, N1q, r1⟩ := hQ1
  subst hv1
  have N1 := Fr.app N0 N1q
  obtain ⟨T2, h2, X2, e2, W2, st2⟩ := putF X1 hx hZ hown (host := "") (Or.inl (hw _ (List.mem_of_getElem? (i := 31) rfl))) Via.refl r1 hFm hE (Or.inl (hw _ (List.mem_of_getElem? (i := 32) rfl))) (hw _ (List.mem_of_getElem? (i := 12) rfl)) (ty := .int) (by decide) rfl rfl (g := (mkF m 6 #[.val (.ref a)] [(.int (0 : Int32)), (.ref a)])) rfl rfl (hb hby d_jdk_39_m_1_6)
  have Z2 : n0 ≤ h2.size := Nat.le_trans Z0 (Nat.le_of_eq W2.size.symm)
  have N2 := Fr.snoc X2 N1 hga
  have K2 : Keep h0 h2 [a] := K0.wr W2 (Or.inl (List.mem_of_getElem? (i := 0) rfl))
  have Fw2 := hFm.same W2
  obtain ⟨fs, hr, hrun, hended, hW, hsame⟩ := X2.leave (v := none) (fun _ => rfl)
  refine ⟨_, _, pre0 _ ?_, hrun, hended, _, _, rfl, ?_, ⟨_, rfl⟩, hW, hsame.mono (by decide) (by decide)⟩
  · show Steps p.tables e below (s₁.setTop (mkF m 0 #[.val (.ref a)] [])) _
    refine XS.aloadN X0.here hx rfl (hb hby d_jdk_39_m_1_0) rfl rfl ?_
    show Steps p.tables e below (s₁.setTop (mkF m 1 #[.val (.ref a)] [(.ref a)])) _
    refine st1.trans ?_
    show Steps p.tables e below (T1.setTop (mkF m 4 #[.val (.ref a)] [])) _
    refine XS.aloadN X1.here hx rfl (hb hby d_jdk_39_m_1_4) rfl rfl ?_
    show Steps p.tables e below (T1.setTop (mkF m 5 #[.val (.ref a)] [(.ref a)])) _
    refine XS.iconst X1.here hx rfl (hb hby d_jdk_39_m_1_5) ?_
    show Steps p.tables e below (T1.setTop (mkF m 6 #[.val (.ref a)] [(.int (0 : Int32)), (.ref a)])) _
    refine st2 _ ?_
    show Steps p.tables e below (T2.setTop (mkF m 9 #[.val (.ref a)] [])) _
    exact X2.returnOut hx Bd.returns (hb hby d_jdk_39_m_1_9) hr
  · show QAL Z a h0 n0 _ T2.heap _
    rw [e2]
    have f3 := (hFs.other W2 (Or.inr (slot_ne (Or.inl (hw _ (List.mem_of_getElem? (i := 46) rfl))) (Or.inl (hw _ (List.mem_of_getElem? (i := 32) rfl))) (by decide) (t := .int) (t' := .int) (by decide) (by decide))))
    have f4 := (hFc.other W2 (Or.inr (slot_ne (Or.inl (hw _ (List.mem_of_getElem? (i := 39) rfl))) (Or.inl (hw _ (List.mem_of_getElem? (i := 32) rfl))) (by decide) (t := (.array (.array (.object "java/lang/Object")))) (t' := .int) (by decide) (by decide))))
    exact ⟨rfl, N2, K2, Fw2, f3, f4⟩
theorem ef_rmCI (m : MethodId) (x0 : Addr) : entryFrame m #[(.ref x0)] 1 = mkF m 0 #[.val (.ref x0)] [] := by first | (simp [entryFrame, mkF, argsToLocals, Value.category]; done) | rfl
set_option maxRecDepth 65536 in
set_option maxHeartbeats 40000000 in
theorem rmCI (l : Launch) (Z : State) (a0 : Array Value) (hw : ∀ d ∈ tables_1, d.before a0 Z = true) (ws : List Jvm.Cond) (a : Addr) (h0 : Heap) (n0 : Nat) (Z0 : n0 ≤ h0.size) (hE : Exa Z h0 a "com/example/anchored_threads/anchoredthreads/internal/ChunkedList") (hFm : Fld Z h0 a "java/util/AbstractList" "modCount" "I" (.int (0 : Int32))) (hFs : Fld Z h0 a "com/example/anchored_threads/anchoredthreads/internal/ChunkedList" "size" "I" (.int (0 : Int32))) (hFc : Fld Z h0 a "com/example/anchored_threads/anchoredthreads/internal/ChunkedList" "chunks" "[[Ljava/lang/Object;" .null) (hga : n0 ≤ a) :
    MetFree l (⟨"com/example/anchored_threads/anchoredthreads/internal/ChunkedList", "<init>", "()V"⟩ : MethodName) (head1 (Jvm.Cond.code (⟨"com/example/anchored_threads/anchoredthreads/internal/ChunkedList", "<init>", "()V"⟩ : MethodName) prog_28_method_1_code 1 none :: ws) ({ frames := 3, cells := 2, slots := 5, locals := 36 } : Room)) (fun aa_ UU_ => aa_ = #[(.ref a)] ∧ Z.Warmed39 UU_.vm ∧ UU_.heap = h0) (fun _ _ _ _ _ => True) (fun _ UU_ oo_ UE_ => ∃ vv_ LL_, oo_ = .returned vv_ ∧ QCI Z a h0 n0 vv_ UE_.heap LL_ ∧ FrameEnd UU_ oo_ UE_ LL_ ({ frames := 3, cells := 2, slots := 5, locals := 36 } : Room).cells ({ frames := 3, cells := 2, slots := 5, locals := 36 } : Room).slots) := by
  refine MetFree.of_bodySF (plainFor_of_name pn_2) hisR ?_
  intro p e s m args below meth c s₁ Bd hml0 hP hK
  obtain ⟨rfl, hZ, hh⟩ := hP
  have hx := Bd.exec
  have hby := Bd.bytes
  have hml : c.maxLocals = 1 := hml0
  have hown : s.vm.findClass "com/example/anchored_threads/anchoredthreads/internal/ChunkedList" = some m.cls := findClass_of_methodNamed Bd.named
  have hnm := (name_of_methodNamed Bd.named Bd.method).1
  have X0 : Stand p l e ({ frames := 3, cells := 2, slots := 5, locals := 36 } : Room) s m #[(.ref a)] below meth c s₁ [] 0 0 := Stand.of_body Bd
  have e0 : s₁.heap = h0 := by rw [← hh, Bd.state]; rfl
  have N0 := Fr.nil n0
  have K0 : Keep h0 h0 [a] := Keep.refl h0 _
  have pre0 : ∀ tg, Steps p.tables e below (s₁.setTop (mkF m 0 #[.val (.ref a)] [])) tg → Steps p.tables e below (s₁.setTop (entryFrame m #[(.ref a)] 1)) tg := fun tg kq_ => castTop (ef_rmCI m a) kq_
  obtain ⟨_, _, ⟨T1, L1, k1, n1⟩, -, X1, ⟨Lc1, hQ1, l1, y1, z1⟩, st1⟩ := X0.specialBack hx (y := (⟨"java/util/AbstractList", "<init>", "()V"⟩ : MethodName)) rfl hown (mvT hZ (hw _ (List.mem_of_getElem? (i := 17) rfl))) (mvT hZ (hw _ (List.mem_of_getElem? (i := 18) rfl))) (mvT hZ (hw _ (List.mem_of_getElem? (i := 21) rfl))) (by decide) (backOf (W := 0) (rmAL l Z a0 hw [] a h0 n0 Z0 hE hFm hFs hFc hga) hZ (hw _ (List.mem_of_getElem? (i := 21) rfl)) (hw _ (List.mem_of_getElem? (i := 20) rfl)) (by decide) (by decide)) (g := (mkF m 1 #[.val (.ref a)] [(.ref a)])) rfl (by rw [hml]; rfl) (Steps.refl _) (a := a) (argsL := []) (rest := []) (lenOf pd_0 rfl) rfl (by show 2 * 0 + _ ≤ _; exact Nat.le_of_eq rfl) (hb hby d_prog_28_m_1_1) (fun _ _ => ⟨rfl, e0, (by decide : 0 + 0 ≤ _), (by decide : 0 + 0 ≤ _)⟩)
  dsimp only [Pt.U, Pt.locs, Pt.cells, Pt.slots] at X1 l1 y1 z1 st1 hQ1
  subst l1 y1 z1
  obtain ⟨hv1, N1q, kp1, fl1_0, fl1_1, fl1_2⟩ := hQ1
  subst hv1
  have N1 := Fr.app N0 N1q
  have Z1 : n0 ≤ T1.heap.size := Nat.le_trans Z0 kp1.1
  have K1 : Keep h0 T1.heap [a] := K0.trans kp1 (allS (Or.inl (List.mem_of_getElem? (i := 0) rfl)) all0)
  obtain ⟨T2, h2, k2, X2, e2, E2, A2, EX2, O2, st2⟩ := newRA X1 hx hZ hown (C := "[Ljava/lang/Object;") (ty := (.object "java/lang/Object")) (by decide) (hw _ (List.mem_of_getElem? (i := 33) rfl)) (hw _ (List.mem_of_getElem? (i := 34) rfl)) rfl (g := (mkF m 6 #[.val (.ref a)] [(.int (1 : Int32)), (.ref a)])) rfl (hb hby d_prog_28_m_1_6) rfl (by decide) (cap := 1) (by decide) (by decide) (by decide) (by decide) (ad := "[[Ljava/lang/Object;") (by decide)
  obtain ⟨b2, g2⟩ : ∃ z, z = T1.heap.size := ⟨_, rfl⟩
  rw [← g2] at A2 EX2 st2
  have f3 := (hE.keep kp1)
  have ne_a_b2 : a ≠ b2 := Nat.ne_of_lt (Nat.lt_of_lt_of_le (f3).lt (Nat.le_of_eq g2.symm))
  have gb_b2 : n0 ≤ b2 := Nat.le_trans Z1 (Nat.le_of_eq g2.symm)
  have sz_b2 : h0.size ≤ b2 := Nat.le_trans K1.1 (Nat.le_of_eq g2.symm)
  have Z2 : n0 ≤ h2.size := Nat.le_trans Z1 E2.1
  have K2 : Keep h0 h2 [a] := K1.ext E2
  have V2 : Arv Z h2 b2 k2 (.array (.object "java/lang/Object")) (1 : Int32) [.null] .null := (Arv.new A2 (by decide)).pad (pad_rep [] .null 1)
  obtain ⟨T4, h4, k4, X4, e4, E4, A4, EX4, O4, st4⟩ := newRE X2 hx hZ hown (hw _ (List.mem_of_getElem? (i := 35) rfl)) (hw _ (List.mem_of_getElem? (i := 36) rfl)) e2 (g := (mkF m 12 #[.val (.ref a)] [(.int (4 : Int32)), (.int (0 : Int32)), (.ref b2), (.ref b2), (.ref a)])) rfl (hb hby d_prog_28_m_1_12) rfl (by decide) (cap := 4) (by decide) (by decide) (by decide) (by decide) (ad := "[Ljava/lang/Object;") (by decide)
  obtain ⟨b4, g4⟩ : ∃ z, z = h2.size := ⟨_, rfl⟩
  rw [← g4] at A4 EX4 st4
  have f5 := (f3.ext E2)
  have ne_a_b4 : a ≠ b4 := Nat.ne_of_lt (Nat.lt_of_lt_of_le (f5).lt (Nat.le_of_eq g4.symm))
  have ne_b2_b4 : b2 ≠ b4 := Nat.ne_of_lt (Nat.lt_of_lt_of_le (V2).lt (Nat.le_of_eq g4.symm))
  have gb_b4 : n0 ≤ b4 := Nat.le_trans Z2 (Nat.le_of_eq g4.symm)
  have sz_b4 : h0.size ≤ b4 := Nat.le_trans K2.1 (Nat.le_of_eq g4.symm)
  have Z4 : n0 ≤ h4.size := Nat.le_trans Z2 E4.1
  have K4 : Keep h0 h4 [a] := K2.ext E4
  have V4 : Arv Z h4 b4 k4 (.object "java/lang/Object") (4 : Int32) [.null, .null, .null, .null] .null := (Arv.new A4 (by decide)).pad (pad_rep [] .null 4)
  have f7 := (V2.ext E4)
  obtain ⟨cl6, Ar6, q6, Sz6, Nn6, Ha6, Ga6⟩ := id f7
  have hin6 : ¬ ((0 : Int32) < 0 ∨ cl6.slots.size ≤ ((0 : Int32)).toNatClampNeg) := inb_of Sz6 ⟨by decide, by decide⟩
  obtain ⟨T6, h6, X6, e6, W6, st6⟩ := stR X4 hx hZ e4 Ar6 (j := (0 : Int32)) hin6 rfl (Sto.ofVA Ar6 q6 O2 (Ins.self EX4)) (g := (mkF m 15 #[.val (.ref a)] [(.ref b4), (.int (0 : Int32)), (.ref b2), (.ref b2), (.ref a)])) rfl rfl (hb hby d_prog_28_m_1_15)
  have V6 : Arv Z h6 b2 k2 (.array (.object "java/lang/Object")) (1 : Int32) [(.ref b4)] .null := Arv.set Ar6 q6 Sz6 Nn6 Ha6 Ga6 rfl W6 0 rfl (Nat.le_of_ble_eq_true rfl)
  have Z6 : n0 ≤ h6.size := Nat.le_trans Z4 (Nat.le_of_eq W6.size.symm)
  have N6 := Fr.snoc X6 N1 gb_b2
  have K6 : Keep h0 h6 [a] := K4.wr W6 (Or.inr sz_b2)
  have f9 := ((f5.ext E4).wr W6)
  have f10 := (((fl1_2.ext E2).ext E4).other W6 (Or.inl ne_a_b2))
  obtain ⟨T8, h8, X8, e8, W8, st8⟩ := putF X6 hx hZ hown (host := "") (Or.inl (hw _ (List.mem_of_getElem? (i := 38) rfl))) Via.refl e6 f10 f9 (Or.inl (hw _ (List.mem_of_getElem? (i := 39) rfl))) (hw _ (List.mem_of_getElem? (i := 12) rfl)) (ty := (.array (.array (.object "java/lang/Object")))) (by decide) rfl rfl (g := (mkF m 16 #[.val (.ref a)] [(.ref b2), (.ref a)])) rfl rfl (hb hby d_prog_28_m_1_16)
  have Z8 : n0 ≤ h8.size := Nat.le_trans Z6 (Nat.le_of_eq W8.size.symm)
  have N8 := Fr.snoc X8 N6 hga
  have K8 : Keep h0 h8 [a] := K6.wr W8 (Or.inl (List.mem_of_getElem? (i := 0) rfl))
  have Fw8 := f10.same W8
  obtain ⟨fs, hr, hrun, hended, hW, hsame⟩ := X8.leave (v := none) (fun _ => rfl)
  refine ⟨_, _, pre0 _ ?_, hrun, hended, _, _, rfl, ?_, ⟨_, rfl⟩, hW, hsame.mono (by decide) (by decide)⟩
  · show Steps p.tables e below (s₁.setTop (mkF m 0 #[.val (.ref a)] [])) _
    refine XS.aloadN X0.here hx rfl (hb hby d_prog_28_m_1_0) rfl rfl ?_
    show Steps p.tables e below (s₁.setTop (mkF m 1 #[.val (.ref a)] [(.ref a)])) _
    refine st1.trans ?_
    show Steps p.tables e below (T1.setTop (mkF m 4 #[.val (.ref a)] [])) _
    refine XS.aloadN X1.here hx rfl (hb hby d_prog_28_m_1_4) rfl rfl ?_
    show Steps p.tables e below (T1.setTop (mkF m 5 #[.val (.ref a)] [(.ref a)])) _
    refine XS.iconst X1.here hx rfl (hb hby d_prog_28_m_1_5) ?_
    show Steps p.tables e below (T1.setTop (mkF m 6 #[.val (.ref a)] [(.int (1 : Int32)), (.ref a)])) _
    refine st2 _ ?_
    show Steps p.tables e below (T2.setTop (mkF m 9 #[.val (.ref a)] [(.ref b2), (.ref a)])) _
    refine XS.dup X2.here hx rfl (hb hby d_prog_28_m_1_9) rfl rfl ?_
    show Steps p.tables e below (T2.setTop (mkF m 10 #[.val (.ref a)] [(.ref b2), (.ref b2), (.ref a)])) _
    refine XS.iconst X2.here hx rfl (hb hby d_prog_28_m_1_10) ?_
    show Steps p.tables e below (T2.setTop (mkF m 11 #[.val (.ref a)] [(.int (0 : Int32)), (.ref b2), (.ref b2), (.ref a)])) _
    refine XS.iconst X2.here hx rfl (hb hby d_prog_28_m_1_11) ?_
    show Steps p.tables e below (T2.setTop (mkF m 12 #[.val (.ref a)] [(.int (4 : Int32)), (.int (0 : Int32)), (.ref b2), (.ref b2), (.ref a)])) _
    refine st4 _ ?_
    show Steps p.tables e below (T4.setTop (mkF m 15 #[.val (.ref a)] [(.ref b4), (.int (0 : Int32)), (.ref b2), (.ref b2), (.ref a)])) _
    refine st6 _ ?_
    show Steps p.tables e below (T6.setTop (mkF m 16 #[.val (.ref a)] [(.ref b2), (.ref a)])) _
    refine st8 _ ?_
    show Steps p.tables e below (T8.setTop (mkF m 19 #[.val (.ref a)] [])) _
    exact X8.returnOut hx Bd.returns (hb hby d_prog_28_m_1_19) hr
  · show QCI Z a h0 n0 _ T8.heap _
    rw [e8]
    have f11 := (f9.wr W8)
    have f12 := ((((fl1_1.ext E2).ext E4).other W6 (Or.inl ne_a_b2)).other W8 (Or.inr (slot_ne (Or.inl (hw _ (List.mem_of_getElem? (i := 46) rfl))) (Or.inl (hw _ (List.mem_of_getElem? (i := 39) rfl))) (by decide) (t := .int) (t' := (.array (.array (.object "java/lang/Object")))) (by decide) (by decide))))
    have f13 := ((((fl1_0.ext E2).ext E4).other W6 (Or.inl ne_a_b2)).other W8 (Or.inr (slot_ne (Or.inl (hw _ (List.mem_of_getElem? (i := 32) rfl))) (Or.inl (hw _ (List.mem_of_getElem? (i := 39) rfl))) (by decide) (t := .int) (t' := (.array (.array (.object "java/lang/Object")))) (by decide) (by decide))))
    have f14 := (V6.other W8 (Ne.symm ne_a_b2))
    have f15 := ((V4.other W6 (Ne.symm ne_b2_b4)).other W8 (Ne.symm ne_a_b4))
    have f16 := ((EX4.wr W6).wr W8)
    exact ⟨rfl, N8, K8, b2, b4, _, _, sz_b2, sz_b4, ⟨f11, f12, Fw8, f13, f14, f15, f16, O4, O2, hga, gb_b2, gb_b4, ne_a_b2, ne_a_b4, ne_b2_b4⟩⟩
theorem ef_rmAd (m : MethodId) (x0 : Addr) (x1 : Addr) : entryFrame m #[(.ref x0), (.ref x1)] 5 = mkF m 0 #[.val (.ref x0), .val (.ref x1), .unset, .unset, .unset] [] := by first | (simp [entryFrame, mkF, argsToLocals, Value.category]; done) | rfl
set_option maxRecDepth 65536 in
set_option maxHeartbeats 40000000 in
theorem rmAd (l : Launch) (Z : State) (a0 : Array Value) (hw : ∀ d ∈ tables_1, d.before a0 Z = true) (ws : List Jvm.Cond) (a vv ch ea : Addr) (kc ke : ClassId) (n mc cap : Int32) (vs : List Value) (i : Nat) (h0 : Heap) (n0 : Nat) (Z0 : n0 ≤ h0.size) (hC : CLs Z n0 h0 a ch ea kc ke n mc cap vs) (hv : Exa Z h0 vv "java/lang/Integer") (hs1 : ((n.toUInt32 >>> ((12 : Int32) &&& 31).toUInt32).toInt32) = (0 : Int32)) (hs2 : (n &&& (4095 : Int32)) = n) (hs3 : ¬ n = cap) (hlo : ¬ n < 0 ∧ n < cap) (hi : n.toNatClampNeg = i) (hl : i < vs.length) :
    MetFree l (⟨"com/example/anchored_threads/anchoredthreads/internal/ChunkedList", "add", "(Ljava/lang/Object;)Z"⟩ : MethodName) (head1 (Jvm.Cond.code (⟨"com/example/anchored_threads/anchoredthreads/internal/ChunkedList", "add", "(Ljava/lang/Object;)Z"⟩ : MethodName) prog_28_method_2_code 5 (some .boolean) :: ws) ({ frames := 0, cells := 0, slots := 0, locals := 0 } : Room)) (fun aa_ UU_ => aa_ = #[(.ref a), (.ref vv)] ∧ Z.Warmed39 UU_.vm ∧ UU_.heap = h0) (fun _ _ _ _ _ => True) (fun _ UU_ oo_ UE_ => ∃ vv_ LL_, oo_ = .returned vv_ ∧ QAd Z a ch ea kc ke (n + 1) cap (vs.set i (.ref vv)) h0 n0 vv_ UE_.heap LL_ ∧ FrameEnd UU_ oo_ UE_ LL_ ({ frames := 0, cells := 0, slots := 0, locals := 0 } : Room).cells ({ frames := 0, cells := 0, slots := 0, locals := 0 } : Room).slots) := by
  refine MetFree.of_bodySF (plainFor_of_name pn_2) hisR ?_
  intro p e s m args below meth c s₁ Bd hml0 hP hK
  obtain ⟨rfl, hZ, hh⟩ := hP
  have hx := Bd.exec
  have hby := Bd.bytes
  have hml : c.maxLocals = 5 := hml0
  have hown : s.vm.findClass "com/example/anchored_threads/anchoredthreads/internal/ChunkedList" = some m.cls := findClass_of_methodNamed Bd.named
  have hnm := (name_of_methodNamed Bd.named Bd.method).1
  have X0 : Stand p l e ({ frames := 0, cells := 0, slots := 0, locals := 0 } : Room) s m #[(.ref a), (.ref vv)] below meth c s₁ [] 0 0 := Stand.of_body Bd
  have e0 : s₁.heap = h0 := by rw [← hh, Bd.state]; rfl
  have N0 := Fr.nil n0
  have K0 : Keep h0 h0 [a, ch, ea] := Keep.refl h0 _
  have pre0 : ∀ tg, Steps p.tables e below (s₁.setTop (mkF m 0 #[.val (.ref a), .val (.ref vv), .unset, .unset, .unset] [])) tg → Steps p.tables e below (s₁.setTop (entryFrame m #[(.ref a), (.ref vv)] 5)) tg := fun tg kq_ => castTop (ef_rmAd m a vv) kq_
  obtain ⟨hE, hFs, hFc, hFm, hVc, hVe, hXe, hO, hOA, hga, hgc, hge, hn1, hn2, hn3⟩ := hC
  obtain ⟨T1, X1, e1, st1⟩ := getF X0 hx hZ hown (host := "") (Or.inl (hw _ (List.mem_of_getElem? (i := 45) rfl))) Via.refl e0 hFs (g := (mkF m 1 #[.val (.ref a), .val (.ref vv), .unset, .unset, .unset] [(.ref a)])) rfl rfl (hb hby d_prog_28_m_2_1)
  have R2 : ∀ tg, Steps p.tables e below (T1.setTop (mkF m 8 #[.val (.ref a), .val (.ref vv), .val (.int ((n.toUInt32 >>> ((12 : Int32) &&& 31).toUInt32).toInt32)), .unset, .unset] [])) tg → Steps p.tables e below (s₁.setTop (mkF m 0 #[.val (.ref a), .val (.ref vv), .unset, .unset, .unset] [])) tg := by
    intro tg kt
    refine XS.aloadN X0.here hx rfl (hb hby d_prog_28_m_2_0) rfl rfl ?_
    show Steps p.tables e below (s₁.setTop (mkF m 1 #[.val (.ref a), .val (.ref vv), .unset, .unset, .unset] [(.ref a)])) _
    refine st1 _ ?_
    show Steps p.tables e below (T1.setTop (mkF m 4 #[.val (.ref a), .val (.ref vv), .unset, .unset, .unset] [(.int n)])) _
    refine XS.bipush X1.here hx rfl (hb hby d_prog_28_m_2_4) ?_
    show Steps p.tables e below (T1.setTop (mkF m 6 #[.val (.ref a), .val (.ref vv), .unset, .unset, .unset] [(.int (12 : Int32)), (.int n)])) _
    refine XS.iushr X1.here hx rfl (hb hby d_prog_28_m_2_6) rfl ?_
    show Steps p.tables e below (T1.setTop (mkF m 7 #[.val (.ref a), .val (.ref vv), .unset, .unset, .unset] [(.int ((n.toUInt32 >>> ((12 : Int32) &&& 31).toUInt32).toInt32))])) _
    refine XS.istoreN X1.here hx rfl (hb hby d_prog_28_m_2_7) rfl (l' := #[.val (.ref a), .val (.ref vv), .val (.int ((n.toUInt32 >>> ((12 : Int32) &&& 31).toUInt32).toInt32)), .unset, .unset]) rfl ?_
    show Steps p.tables e below (T1.setTop (mkF m 8 #[.val (.ref a), .val (.ref vv), .val (.int ((n.toUInt32 >>> ((12 : Int32) &&& 31).toUInt32).toInt32)), .unset, .unset] [])) _
    exact kt
  have R3 : ∀ tg, Steps p.tables e below (T1.setTop (mkF m 8 #[.val (.ref a), .val (.ref vv), .val (.int (0 : Int32)), .unset, .unset] [])) tg → Steps p.tables e below (T1.setTop (mkF m 8 #[.val (.ref a), .val (.ref vv), .val (.int ((n.toUInt32 >>> ((12 : Int32) &&& 31).toUInt32).toInt32)), .unset, .unset] [])) tg := fun tg kt => by rw [hs1]; exact kt
  obtain ⟨T4, X4, e4, st4⟩ := getF X1 hx hZ hown (host := "") (Or.inl (hw _ (List.mem_of_getElem? (i := 45) rfl))) Via.refl e1 hFs (g := (mkF m 9 #[.val (.ref a), .val (.ref vv), .val (.int (0 : Int32)), .unset, .unset] [(.ref a)])) rfl rfl (hb hby d_prog_28_m_2_9)
  have R5 : ∀ tg, Steps p.tables e below (T4.setTop (mkF m 17 #[.val (.ref a), .val (.ref vv), .val (.int (0 : Int32)), .val (.int (n &&& (4095 : Int32))), .unset] [])) tg → Steps p.tables e below (T1.setTop (mkF m 8 #[.val (.ref a), .val (.ref vv), .val (.int (0 : Int32)), .unset, .unset] [])) tg := by
    intro tg kt
    refine XS.aloadN X1.here hx rfl (hb hby d_prog_28_m_2_8) rfl rfl ?_
    show Steps p.tables e below (T1.setTop (mkF m 9 #[.val (.ref a), .val (.ref vv), .val (.int (0 : Int32)), .unset, .unset] [(.ref a)])) _
    refine st4 _ ?_
    show Steps p.tables e below (T4.setTop (mkF m 12 #[.val (.ref a), .val (.ref vv), .val (.int (0 : Int32)), .unset, .unset] [(.int n)])) _
    refine XS.sipush X4.here hx rfl (hb hby d_prog_28_m_2_12) ?_
    show Steps p.tables e below (T4.setTop (mkF m 15 #[.val (.ref a), .val (.ref vv), .val (.int (0 : Int32)), .unset, .unset] [(.int (4095 : Int32)), (.int n)])) _
    refine XS.iand X4.here hx rfl (hb hby d_prog_28_m_2_15) rfl ?_
    show Steps p.tables e below (T4.setTop (mkF m 16 #[.val (.ref a), .val (.ref vv), .val (.int (0 : Int32)), .unset, .unset] [(.int (n &&& (4095 : Int32)))])) _
    refine XS.istoreN X4.here hx rfl (hb hby d_prog_28_m_2_16) rfl (l' := #[.val (.ref a), .val (.ref vv), .val (.int (0 : Int32)), .val (.int (n &&& (4095 : Int32))), .unset]) rfl ?_
    show Steps p.tables e below (T4.setTop (mkF m 17 #[.val (.ref a), .val (.ref vv), .val (.int (0 : Int32)), .val (.int (n &&& (4095 : Int32))), .unset] [])) _
    exact kt
  have R6 : ∀ tg, Steps p.tables e below (T4.setTop (mkF m 17 #[.val (.ref a), .val (.ref vv), .val (.int (0 : Int32)), .val (.int n), .unset] [])) tg → Steps p.tables e below (T4.setTop (mkF m 17 #[.val (.ref a), .val (.ref vv), .val (.int (0 : Int32)), .val (.int (n &&& (4095 : Int32))), .unset] [])) tg := fun tg kt => by rw [hs2]; exact kt
  obtain ⟨T7, X7, e7, st7⟩ := getF X4 hx hZ hown (host := "") (Or.inl (hw _ (List.mem_of_getElem? (i := 38) rfl))) Via.refl e4 hFc (g := (mkF m 19 #[.val (.ref a), .val (.ref vv), .val (.int (0 : Int32)), .val (.int n), .unset] [(.ref a), (.int (0 : Int32))])) rfl rfl (hb hby d_prog_28_m_2_19)
  obtain ⟨cl8, Ar8, q8, Sz8, Nn8, Ha8, Ga8⟩ := id hVc
  obtain ⟨T9, X9, e9, st9⟩ := getF X7 hx hZ hown (host := "") (Or.inl (hw _ (List.mem_of_getElem? (i := 38) rfl))) Via.refl e7 hFc (g := (mkF m 44 #[.val (.ref a), .val (.ref vv), .val (.int (0 : Int32)), .val (.int n), .unset] [(.ref a)])) rfl rfl (hb hby d_prog_28_m_2_44)
  obtain ⟨cl10, Ar10, q10, Sz10, Nn10, Ha10, Ga10⟩ := id hVc
  have hin10 : ¬ ((0 : Int32) < 0 ∨ cl10.slots.size ≤ ((0 : Int32)).toNatClampNeg) := inb_of Sz10 ⟨by decide, by decide⟩
  have hat10 : cl10.slots[((0 : Int32)).toNatClampNeg]? = some (.ref ea) := Ha10.at hin10 rfl
  obtain ⟨cl11, Ar11, q11, Sz11, Nn11, Ha11, Ga11⟩ := id hVe
  obtain ⟨cl12, Ar12, q12, Sz12, Nn12, Ha12, Ga12⟩ := id hVe
  have hin12 : ¬ (n < 0 ∨ cl12.slots.size ≤ (n).toNatClampNeg) := inb_of Sz12 hlo
  obtain ⟨T12, h12, X12, e12, W12, st12⟩ := stR X9 hx hZ e9 Ar12 (j := n) hin12 rfl (Sto.ofV Ar12 q12 hO (Ins.of_exa hv (hw _ (List.mem_of_getElem? (i := 52) rfl)))) (g := (mkF m 110 #[.val (.ref a), .val (.ref vv), .val (.int (0 : Int32)), .val (.int n), .val (.ref ea)] [(.ref vv), (.int n), (.ref ea)])) rfl rfl (hb hby d_prog_28_m_2_110)
  have V12 : Arv Z h12 ea ke (.object "java/lang/Object") cap (vs.set i (.ref vv)) .null := Arv.set Ar12 q12 Sz12 Nn12 Ha12 Ga12 rfl W12 i hi hl
  have Z12 : n0 ≤ h12.size := Nat.le_trans Z0 (Nat.le_of_eq W12.size.symm)
  have N12 := Fr.snoc X12 N0 hge
  have K12 : Keep h0 h12 [a, ch, ea] := K0.wr W12 (Or.inl (List.mem_of_getElem? (i := 2) rfl))
  have f13 := (hFs.other W12 (Or.inl hn2))
  obtain ⟨T14, X14, e14, st14⟩ := getF X12 hx hZ hown (host := "") (Or.inl (hw _ (List.mem_of_getElem? (i := 45) rfl))) Via.refl e12 f13 (g := (mkF m 113 #[.val (.ref a), .val (.ref vv), .val (.int (0 : Int32)), .val (.int n), .val (.ref ea)] [(.ref a), (.ref a)])) rfl rfl (hb hby d_prog_28_m_2_113)
  have f16 := (hE.wr W12)
  obtain ⟨T15, h15, X15, e15, W15, st15⟩ := putF X14 hx hZ hown (host := "") (Or.inl (hw _ (List.mem_of_getElem? (i := 45) rfl))) Via.refl e14 f13 f16 (Or.inl (hw _ (List.mem_of_getElem? (i := 46) rfl))) (hw _ (List.mem_of_getElem? (i := 12) rfl)) (ty := .int) (by decide) rfl rfl (g := (mkF m 118 #[.val (.ref a), .val (.ref vv), .val (.int (0 : Int32)), .val (.int n), .val (.ref ea)] [(.int (n + (1 : Int32))), (.ref a)])) rfl rfl (hb hby d_prog_28_m_2_118)
  have Z15 : n0 ≤ h15.size := Nat.le_trans Z12 (Nat.le_of_eq W15.size.symm)
  have N15 := Fr.snoc X15 N12 hga
  have K15 : Keep h0 h15 [a, ch, ea] := K12.wr W15 (Or.inl (List.mem_of_getElem? (i := 0) rfl))
  have Fw15 := f13.same W15
  have f17 := ((hFm.other W12 (Or.inl hn2)).other W15 (Or.inr (slot_ne (Or.inl (hw _ (List.mem_of_getElem? (i := 32) rfl))) (Or.inl (hw _ (List.mem_of_getElem? (i := 46) rfl))) (by decide) (t := .int) (t' := .int) (by decide) (by decide))))
  obtain ⟨T18, X18, e18, st18⟩ := getF X15 hx hZ hown (host := "") (Or.inl (hw _ (List.mem_of_getElem? (i := 53) rfl))) (Via.of (hw _ (List.mem_of_getElem? (i := 54) rfl))) e15 f17 (g := (mkF m 123 #[.val (.ref a), .val (.ref vv), .val (.int (0 : Int32)), .val (.int n), .val (.ref ea)] [(.ref a), (.ref a)])) rfl rfl (hb hby d_prog_28_m_2_123)
  have f20 := (f16.wr W15)
  obtain ⟨T19, h19, X19, e19, W19, st19⟩ := putF X18 hx hZ hown (host := "") (Or.inl (hw _ (List.mem_of_getElem? (i := 53) rfl))) (Via.of (hw _ (List.mem_of_getElem? (i := 54) rfl))) e18 f17 f20 (Or.inl (hw _ (List.mem_of_getElem? (i := 32) rfl))) (hw _ (List.mem_of_getElem? (i := 12) rfl)) (ty := .int) (by decide) rfl rfl (g := (mkF m 128 #[.val (.ref a), .val (.ref vv), .val (.int (0 : Int32)), .val (.int n), .val (.ref ea)] [(.int (mc + (1 : Int32))), (.ref a)])) rfl rfl (hb hby d_prog_28_m_2_128)
  have Z19 : n0 ≤ h19.size := Nat.le_trans Z15 (Nat.le_of_eq W19.size.symm)
  have N19 := Fr.snoc X19 N15 hga
  have K19 : Keep h0 h19 [a, ch, ea] := K15.wr W19 (Or.inl (List.mem_of_getElem? (i := 0) rfl))
  have Fw19 := f17.same W19
  obtain ⟨fs, hr, hrun, hended, hW, hsame⟩ := X19.leave (v := some (.int (1 : Int32))) (fun h => by rw [Bd.returns] at h; cases h)
  refine ⟨_, _, pre0 _ (R2 _ (R3 _ (R5 _ (R6 _ ?_)))), hrun, hended, _, _, rfl, ?_, ⟨_, rfl⟩, hW, hsame.mono (by decide) (by decide)⟩
  · show Steps p.tables e below (T4.setTop (mkF m 17 #[.val (.ref a), .val (.ref vv), .val (.int (0 : Int32)), .val (.int n), .unset] [])) _
    refine XS.iloadN X4.here hx rfl (hb hby d_prog_28_m_2_17) rfl ?_
    show Steps p.tables e below (T4.setTop (mkF m 18 #[.val (.ref a), .val (.ref vv), .val (.int (0 : Int32)), .val (.int n), .unset] [(.int (0 : Int32))])) _
    refine XS.aloadN X4.here hx rfl (hb hby d_prog_28_m_2_18) rfl rfl ?_
    show Steps p.tables e below (T4.setTop (mkF m 19 #[.val (.ref a), .val (.ref vv), .val (.int (0 : Int32)), .val (.int n), .unset] [(.ref a), (.int (0 : Int32))])) _
    refine st7 _ ?_
    show Steps p.tables e below (T7.setTop (mkF m 22 #[.val (.ref a), .val (.ref vv), .val (.int (0 : Int32)), .val (.int n), .unset] [(.ref ch), (.int (0 : Int32))])) _
    refine X7.arraylength hx (by rw [e7]; exact Ar8.1) (State.isArrayOf_alike hZ.alike Ar8.2.1) (g := (mkF m 22 #[.val (.ref a), .val (.ref vv), .val (.int (0 : Int32)), .val (.int n), .unset] [(.ref ch), (.int (0 : Int32))])) rfl rfl (hb hby d_prog_28_m_2_22) _ ?_
    rw [len_of Sz8 Nn8]
    show Steps p.tables e below (T7.setTop (mkF m 23 #[.val (.ref a), .val (.ref vv), .val (.int (0 : Int32)), .val (.int n), .unset] [(.int (1 : Int32)), (.int (0 : Int32))])) _
    refine XS.icmpYes X7.here hx rfl (pc0 := 23) (pc' := 43) rfl (hb hby d_prog_28_m_2_23) rfl (feq (by decide : ¬ ((0 : Int32) = (1 : Int32)))).2 (by decide) (by decide) ?_
    show Steps p.tables e below (T7.setTop (mkF m 43 #[.val (.ref a), .val (.ref vv), .val (.int (0 : Int32)), .val (.int n), .unset] [])) _
    refine XS.aloadN X7.here hx rfl (hb hby d_prog_28_m_2_43) rfl rfl ?_
    show Steps p.tables e below (T7.setTop (mkF m 44 #[.val (.ref a), .val (.ref vv), .val (.int (0 : Int32)), .val (.int n), .unset] [(.ref a)])) _
    refine st9 _ ?_
    show Steps p.tables e below (T9.setTop (mkF m 47 #[.val (.ref a), .val (.ref vv), .val (.int (0 : Int32)), .val (.int n), .unset] [(.ref ch)])) _
    refine XS.iloadN X9.here hx rfl (hb hby d_prog_28_m_2_47) rfl ?_
    show Steps p.tables e below (T9.setTop (mkF m 48 #[.val (.ref a), .val (.ref vv), .val (.int (0 : Int32)), .val (.int n), .unset] [(.int (0 : Int32)), (.ref ch)])) _
    refine X9.aaload hx (j := (0 : Int32)) (v := (.ref ea)) (by rw [e9]; exact Ar10.1) (State.isArrayOf_alike hZ.alike Ar10.2.1) rfl Ar10.2.2 hin10 hat10 (g := (mkF m 48 #[.val (.ref a), .val (.ref vv), .val (.int (0 : Int32)), .val (.int n), .unset] [(.int (0 : Int32)), (.ref ch)])) rfl rfl (hb hby d_prog_28_m_2_48) _ ?_
    show Steps p.tables e below (T9.setTop (mkF m 49 #[.val (.ref a), .val (.ref vv), .val (.int (0 : Int32)), .val (.int n), .unset] [(.ref ea)])) _
    refine XS.astore X9.here hx rfl (hb hby d_prog_28_m_2_49) rfl rfl (l' := #[.val (.ref a), .val (.ref vv), .val (.int (0 : Int32)), .val (.int n), .val (.ref ea)]) rfl ?_
    show Steps p.tables e below (T9.setTop (mkF m 51 #[.val (.ref a), .val (.ref vv), .val (.int (0 : Int32)), .val (.int n), .val (.ref ea)] [])) _
    refine XS.aload X9.here hx rfl (hb hby d_prog_28_m_2_51) rfl rfl ?_
    show Steps p.tables e below (T9.setTop (mkF m 53 #[.val (.ref a), .val (.ref vv), .val (.int (0 : Int32)), .val (.int n), .val (.ref ea)] [(.ref ea)])) _
    refine XS.ifnonnullYes X9.here hx rfl (pc0 := 53) (pc' := 75) rfl (hb hby d_prog_28_m_2_53) rfl (by decide) (by decide) ?_
    show Steps p.tables e below (T9.setTop (mkF m 75 #[.val (.ref a), .val (.ref vv), .val (.int (0 : Int32)), .val (.int n), .val (.ref ea)] [])) _
    refine XS.iloadN X9.here hx rfl (hb hby d_prog_28_m_2_75) rfl ?_
    show Steps p.tables e below (T9.setTop (mkF m 76 #[.val (.ref a), .val (.ref vv), .val (.int (0 : Int32)), .val (.int n), .val (.ref ea)] [(.int n)])) _
    refine XS.aload X9.here hx rfl (hb hby d_prog_28_m_2_76) rfl rfl ?_
    show Steps p.tables e below (T9.setTop (mkF m 78 #[.val (.ref a), .val (.ref vv), .val (.int (0 : Int32)), .val (.int n), .val (.ref ea)] [(.ref ea), (.int n)])) _
    refine X9.arraylength hx (by rw [e9]; exact Ar11.1) (State.isArrayOf_alike hZ.alike Ar11.2.1) (g := (mkF m 78 #[.val (.ref a), .val (.ref vv), .val (.int (0 : Int32)), .val (.int n), .val (.ref ea)] [(.ref ea), (.int n)])) rfl rfl (hb hby d_prog_28_m_2_78) _ ?_
    rw [len_of Sz11 Nn11]
    show Steps p.tables e below (T9.setTop (mkF m 79 #[.val (.ref a), .val (.ref vv), .val (.int (0 : Int32)), .val (.int n), .val (.ref ea)] [(.int cap), (.int n)])) _
    refine XS.icmpYes X9.here hx rfl (pc0 := 79) (pc' := 106) rfl (hb hby d_prog_28_m_2_79) rfl (feq hs3).2 (by decide) (by decide) ?_
    show Steps p.tables e below (T9.setTop (mkF m 106 #[.val (.ref a), .val (.ref vv), .val (.int (0 : Int32)), .val (.int n), .val (.ref ea)] [])) _
    refine XS.aload X9.here hx rfl (hb hby d_prog_28_m_2_106) rfl rfl ?_
    show Steps p.tables e below (T9.setTop (mkF m 108 #[.val (.ref a), .val (.ref vv), .val (.int (0 : Int32)), .val (.int n), .val (.ref ea)] [(.ref ea)])) _
    refine XS.iloadN X9.here hx rfl (hb hby d_prog_28_m_2_108) rfl ?_
    show Steps p.tables e below (T9.setTop (mkF m 109 #[.val (.ref a), .val (.ref vv), .val (.int (0 : Int32)), .val (.int n), .val (.ref ea)] [(.int n), (.ref ea)])) _
    refine XS.aloadN X9.here hx rfl (hb hby d_prog_28_m_2_109) rfl rfl ?_
    show Steps p.tables e below (T9.setTop (mkF m 110 #[.val (.ref a), .val (.ref vv), .val (.int (0 : Int32)), .val (.int n), .val (.ref ea)] [(.ref vv), (.int n), (.ref ea)])) _
    refine st12 _ ?_
    show Steps p.tables e below (T12.setTop (mkF m 111 #[.val (.ref a), .val (.ref vv), .val (.int (0 : Int32)), .val (.int n), .val (.ref ea)] [])) _
    refine XS.aloadN X12.here hx rfl (hb hby d_prog_28_m_2_111) rfl rfl ?_
    show Steps p.tables e below (T12.setTop (mkF m 112 #[.val (.ref a), .val (.ref vv), .val (.int (0 : Int32)), .val (.int n), .val (.ref ea)] [(.ref a)])) _
    refine XS.dup X12.here hx rfl (hb hby d_prog_28_m_2_112) rfl rfl ?_
    show Steps p.tables e below (T12.setTop (mkF m 113 #[.val (.ref a), .val (.ref vv), .val (.int (0 : Int32)), .val (.int n), .val (.ref ea)] [(.ref a), (.ref a)])) _
    refine st14 _ ?_
    show Steps p.tables e below (T14.setTop (mkF m 116 #[.val (.ref a), .val (.ref vv), .val (.int (0 : Int32)), .val (.int n), .val (.ref ea)] [(.int n), (.ref a)])) _
    refine XS.iconst X14.here hx rfl (hb hby d_prog_28_m_2_116) ?_
    show Steps p.tables e below (T14.setTop (mkF m 117 #[.val (.ref a), .val (.ref vv), .val (.int (0 : Int32)), .val (.int n), .val (.ref ea)] [(.int (1 : Int32)), (.int n), (.ref a)])) _
    refine XS.iadd X14.here hx rfl (hb hby d_prog_28_m_2_117) rfl ?_
    show Steps p.tables e below (T14.setTop (mkF m 118 #[.val (.ref a), .val (.ref vv), .val (.int (0 : Int32)), .val (.int n), .val (.ref ea)] [(.int (n + (1 : Int32))), (.ref a)])) _
    refine st15 _ ?_
    show Steps p.tables e below (T15.setTop (mkF m 121 #[.val (.ref a), .val (.ref vv), .val (.int (0 : Int32)), .val (.int n), .val (.ref ea)] [])) _
    refine XS.aloadN X15.here hx rfl (hb hby d_prog_28_m_2_121) rfl rfl ?_
    show Steps p.tables e below (T15.setTop (mkF m 122 #[.val (.ref a), .val (.ref vv), .val (.int (0 : Int32)), .val (.int n), .val (.ref ea)] [(.ref a)])) _
    refine XS.dup X15.here hx rfl (hb hby d_prog_28_m_2_122) rfl rfl ?_
    show Steps p.tables e below (T15.setTop (mkF m 123 #[.val (.ref a), .val (.ref vv), .val (.int (0 : Int32)), .val (.int n), .val (.ref ea)] [(.ref a), (.ref a)])) _
    refine st18 _ ?_
    show Steps p.tables e below (T18.setTop (mkF m 126 #[.val (.ref a), .val (.ref vv), .val (.int (0 : Int32)), .val (.int n), .val (.ref ea)] [(.int mc), (.ref a)])) _
    refine XS.iconst X18.here hx rfl (hb hby d_prog_28_m_2_126) ?_
    show Steps p.tables e below (T18.setTop (mkF m 127 #[.val (.ref a), .val (.ref vv), .val (.int (0 : Int32)), .val (.int n), .val (.ref ea)] [(.int (1 : Int32)), (.int mc), (.ref a)])) _
    refine XS.iadd X18.here hx rfl (hb hby d_prog_28_m_2_127) rfl ?_
    show Steps p.tables e below (T18.setTop (mkF m 128 #[.val (.ref a), .val (.ref vv), .val (.int (0 : Int32)), .val (.int n), .val (.ref ea)] [(.int (mc + (1 : Int32))), (.ref a)])) _
    refine st19 _ ?_
    show Steps p.tables e below (T19.setTop (mkF m 131 #[.val (.ref a), .val (.ref vv), .val (.int (0 : Int32)), .val (.int n), .val (.ref ea)] [])) _
    refine XS.iconst X19.here hx rfl (hb hby d_prog_28_m_2_131) ?_
    show Steps p.tables e below (T19.setTop (mkF m 132 #[.val (.ref a), .val (.ref vv), .val (.int (0 : Int32)), .val (.int n), .val (.ref ea)] [(.int (1 : Int32))])) _
    exact retN X19 hx (t := .boolean) Bd.returns (by simp) (hb hby d_prog_28_m_2_132) hr
  · show QAd Z a ch ea kc ke (n + 1) cap (vs.set i (.ref vv)) h0 n0 _ T19.heap _
    rw [e19]
    have f21 := (f20.wr W19)
    have f22 := (Fw15.other W19 (Or.inr (slot_ne (Or.inl (hw _ (List.mem_of_getElem? (i := 46) rfl))) (Or.inl (hw _ (List.mem_of_getElem? (i := 32) rfl))) (by decide) (t := .int) (t' := .int) (by decide) (by decide))))
    have f23 := (((hFc.other W12 (Or.inl hn2)).other W15 (Or.inr (slot_ne (Or.inl (hw _ (List.mem_of_getElem? (i := 39) rfl))) (Or.inl (hw _ (List.mem_of_getElem? (i := 46) rfl))) (by decide) (t := (.array (.array (.object "java/lang/Object")))) (t' := .int) (by decide) (by decide)))).other W19 (Or.inr (slot_ne (Or.inl (hw _ (List.mem_of_getElem? (i := 39) rfl))) (Or.inl (hw _ (List.mem_of_getElem? (i := 32) rfl))) (by decide) (t := (.array (.array (.object "java/lang/Object")))) (t' := .int) (by decide) (by decide))))
    have f24 := (((hVc.other W12 hn3).other W15 (Ne.symm hn1)).other W19 (Ne.symm hn1))
    have f25 := ((V12.other W15 (Ne.symm hn2)).other W19 (Ne.symm hn2))
    have f26 := (((hXe.wr W12).wr W15).wr W19)
    exact ⟨rfl, N19, K19, _, ⟨f21, f22, f23, Fw19, f24, f25, f26, hO, hOA, hga, hgc, hge, hn1, hn2, hn3⟩⟩
theorem ef_rmNI (m : MethodId) (x0 : Addr) : entryFrame m #[(.ref x0)] 1 = mkF m 0 #[.val (.ref x0)] [] := by first | (simp [entryFrame, mkF, argsToLocals, Value.category]; done) | rfl
set_option maxRecDepth 65536 in
set_option maxHeartbeats 40000000 in
theorem rmNI (l : Launch) (Z : State) (a0 : Array Value) (hw : ∀ d ∈ tables_1, d.before a0 Z = true) (ws : List Jvm.Cond) (a : Addr) (h0 : Heap) (n0 : Nat) (Z0 : n0 ≤ h0.size)  :
    MetFree l (⟨"java/lang/Number", "<init>", "()V"⟩ : MethodName) (head1 (Jvm.Cond.code (⟨"java/lang/Number", "<init>", "()V"⟩ : MethodName) jdk_18_method_1_code 1 none :: ws) ({ frames := 1, cells := 0, slots := 0, locals := 12 } : Room)) (fun aa_ UU_ => aa_ = #[(.ref a)] ∧ Z.Warmed39 UU_.vm ∧ UU_.heap = h0) (fun _ _ _ _ _ => True) (fun _ UU_ oo_ UE_ => ∃ vv_ LL_, oo_ = .returned vv_ ∧ QV none h0 n0 vv_ UE_.heap LL_ ∧ FrameEnd UU_ oo_ UE_ LL_ ({ frames := 1, cells := 0, slots := 0, locals := 12 } : Room).cells ({ frames := 1, cells := 0, slots := 0, locals := 12 } : Room).slots) := by
  refine MetFree.of_bodySF (plainFor_of_name pn_3) hisR ?_
  intro p e s m args below meth c s₁ Bd hml0 hP hK
  obtain ⟨rfl, hZ, hh⟩ := hP
  have hx := Bd.exec
  have hby := Bd.bytes
  have hml : c.maxLocals = 1 := hml0
  have hown : s.vm.findClass "java/lang/Number" = some m.cls := findClass_of_methodNamed Bd.named
  have hnm := (name_of_methodNamed Bd.named Bd.method).1
  have X0 : Stand p l e ({ frames := 1, cells := 0, slots := 0, locals := 12 } : Room) s m #[(.ref a)] below meth c s₁ [] 0 0 := Stand.of_body Bd
  have e0 : s₁.heap = h0 := by rw [← hh, Bd.state]; rfl
  have N0 := Fr.nil n0
  have pre0 : ∀ tg, Steps p.tables e below (s₁.setTop (mkF m 0 #[.val (.ref a)] [])) tg → Steps p.tables e below (s₁.setTop (entryFrame m #[(.ref a)] 1)) tg := fun tg kq_ => castTop (ef_rmNI m a) kq_
  obtain ⟨T1, X1, e1, st1⟩ := initO X0 hx hZ hown (hw _ (List.mem_of_getElem? (i := 71) rfl)) (hw _ (List.mem_of_getElem? (i := 29) rfl)) (hw _ (List.mem_of_getElem? (i := 30) rfl)) e0 (g := (mkF m 1 #[.val (.ref a)] [(.ref a)])) rfl (by rw [hml]; rfl) rfl (hb hby d_jdk_18_m_1_1) (by decide) (W := 0) (by show 2 * 0 + _ ≤ _; exact Nat.le_of_eq rfl) (by decide)
  obtain ⟨fs, hr, hrun, hended, hW, hsame⟩ := X1.leave (v := none) (fun _ => rfl)
  refine ⟨_, _, pre0 _ ?_, hrun, hended, _, _, rfl, ?_, ⟨_, rfl⟩, hW, hsame.mono (by decide) (by decide)⟩
  · show Steps p.tables e below (s₁.setTop (mkF m 0 #[.val (.ref a)] [])) _
    refine XS.aloadN X0.here hx rfl (hb hby d_jdk_18_m_1_0) rfl rfl ?_
    show Steps p.tables e below (s₁.setTop (mkF m 1 #[.val (.ref a)] [(.ref a)])) _
    refine st1 _ ?_
    show Steps p.tables e below (T1.setTop (mkF m 4 #[.val (.ref a)] [])) _
    exact X1.returnOut hx Bd.returns (hb hby d_jdk_18_m_1_4) hr
  · show QV none h0 n0 _ T1.heap _
    rw [e1]
    exact ⟨rfl, N0, rfl⟩
theorem ef_rmII (m : MethodId) (x0 : Addr) (x1 : Int32) : entryFrame m #[(.ref x0), (.int x1)] 2 = mkF m 0 #[.val (.ref x0), .val (.int x1)] [] := by first | (simp [entryFrame, mkF, argsToLocals, Value.category]; done) | rfl
set_option maxRecDepth 65536 in
set_option maxHeartbeats 40000000 in
theorem rmII (l : Launch) (Z : State) (a0 : Array Value) (hw : ∀ d ∈ tables_1, d.before a0 Z = true) (ws : List Jvm.Cond) (a : Addr) (q : Int32) (h0 : Heap) (n0 : Nat) (Z0 : n0 ≤ h0.size) (hE1 : Exa Z h0 a "java/lang/Integer") (hF1 : Fld Z h0 a "java/lang/Integer" "value" "I" (.int (0 : Int32))) (hG1 : n0 ≤ a) :
    MetFree l (⟨"java/lang/Integer", "<init>", "(I)V"⟩ : MethodName) (head1 (Jvm.Cond.code (⟨"java/lang/Integer", "<init>", "(I)V"⟩ : MethodName) jdk_33_method_23_code 2 none :: ws) ({ frames := 2, cells := 0, slots := 0, locals := 24 } : Room)) (fun aa_ UU_ => aa_ = #[(.ref a), (.int q)] ∧ Z.Warmed39 UU_.vm ∧ UU_.heap = h0) (fun _ _ _ _ _ => True) (fun _ UU_ oo_ UE_ => ∃ vv_ LL_, oo_ = .returned vv_ ∧ QW Z a "java/lang/Integer" "value" "I" (.int q) none h0 n0 vv_ UE_.heap LL_ ∧ FrameEnd UU_ oo_ UE_ LL_ ({ frames := 2, cells := 0, slots := 0, locals := 24 } : Room).cells ({ frames := 2, cells := 0, slots := 0, locals := 24 } : Room).slots) := by
  refine MetFree.of_bodySF (plainFor_of_name pn_4) hisR ?_
  intro p e s m args below meth c s₁ Bd hml0 hP hK
  obtain ⟨rfl, hZ, hh⟩ := hP
  have hx := Bd.exec
  have hby := Bd.bytes
  have hml : c.maxLocals = 2 := hml0
  have hown : s.vm.findClass "java/lang/Integer" = some m.cls := findClass_of_methodNamed Bd.named
  have hnm := (name_of_methodNamed Bd.named Bd.method).1
  have X0 : Stand p l e ({ frames := 2, cells := 0, slots := 0, locals := 24 } : Room) s m #[(.ref a), (.int q)] below meth c s₁ [] 0 0 := Stand.of_body Bd
  have e0 : s₁.heap = h0 := by rw [← hh, Bd.state]; rfl
  have N0 := Fr.nil n0
  have K0 : Keep h0 h0 [a] := Keep.refl h0 _
  have pre0 : ∀ tg, Steps p.tables e below (s₁.setTop (mkF m 0 #[.val (.ref a), .val (.int q)] [])) tg → Steps p.tables e below (s₁.setTop (entryFrame m #[(.ref a), (.int q)] 2)) tg := fun tg kq_ => castTop (ef_rmII m a q) kq_
  obtain ⟨_, _, ⟨T1, L1, k1, n1⟩, -, X1, ⟨Lc1, hQ1, l1, y1, z1⟩, st1⟩ := X0.specialBack hx (y := (⟨"java/lang/Number", "<init>", "()V"⟩ : MethodName)) rfl hown (mvT hZ (hw _ (List.mem_of_getElem? (i := 65) rfl))) (mvT hZ (hw _ (List.mem_of_getElem? (i := 66) rfl))) (mvT hZ (hw _ (List.mem_of_getElem? (i := 70) rfl))) (by decide) (backOf (W := 0) (rmNI l Z a0 hw [] a h0 n0 Z0) hZ (hw _ (List.mem_of_getElem? (i := 70) rfl)) (hw _ (List.mem_of_getElem? (i := 69) rfl)) (by decide) (by decide)) (g := (mkF m 1 #[.val (.ref a), .val (.int q)] [(.ref a)])) rfl (by rw [hml]; rfl) (Steps.refl _) (a := a) (argsL := []) (rest := []) (lenOf pd_0 rfl) rfl (by show 2 * 0 + _ ≤ _; exact Nat.le_of_eq rfl) (hb hby d_jdk_33_m_23_1) (fun _ _ => ⟨rfl, e0, (by decide : 0 + 0 ≤ _), (by decide : 0 + 0 ≤ _)⟩)
  dsimp only [Pt.U, Pt.locs, Pt.cells, Pt.slots] at X1 l1 y1 z1 st1 hQ1
  subst l1 y1 z1
  obtain ⟨hv1, N1q, r1⟩ := hQ1
  subst hv1
  have N1 := Fr.app N0 N1q
  obtain ⟨T2, h2, X2, e2, W2, st2⟩ := putF X1 hx hZ hown (host := "") (Or.inl (hw _ (List.mem_of_getElem? (i := 72) rfl))) Via.refl r1 hF1 hE1 (Or.inr ⟨(hw _ (List.mem_of_getElem? (i := 73) rfl)), rfl, hnm⟩) (hw _ (List.mem_of_getElem? (i := 61) rfl)) (ty := .int) (by decide) rfl rfl (g := (mkF m 6 #[.val (.ref a), .val (.int q)] [(.int q), (.ref a)])) rfl rfl (hb hby d_jdk_33_m_23_6)
  have Z2 : n0 ≤ h2.size := Nat.le_trans Z0 (Nat.le_of_eq W2.size.symm)
  have N2 := Fr.snoc X2 N1 hG1
  have K2 : Keep h0 h2 [a] := K0.wr W2 (Or.inl (List.mem_of_getElem? (i := 0) rfl))
  have Fw2 := hF1.same W2
  obtain ⟨fs, hr, hrun, hended, hW, hsame⟩ := X2.leave (v := none) (fun _ => rfl)
  refine ⟨_, _, pre0 _ ?_, hrun, hended, _, _, rfl, ?_, ⟨_, rfl⟩, hW, hsame.mono (by decide) (by decide)⟩
  · show Steps p.tables e below (s₁.setTop (mkF m 0 #[.val (.ref a), .val (.int q)] [])) _
    refine XS.aloadN X0.here hx rfl (hb hby d_jdk_33_m_23_0) rfl rfl ?_
    show Steps p.tables e below (s₁.setTop (mkF m 1 #[.val (.ref a), .val (.int q)] [(.ref a)])) _
    refine st1.trans ?_
    show Steps p.tables e below (T1.setTop (mkF m 4 #[.val (.ref a), .val (.int q)] [])) _
    refine XS.aloadN X1.here hx rfl (hb hby d_jdk_33_m_23_4) rfl rfl ?_
    show Steps p.tables e below (T1.setTop (mkF m 5 #[.val (.ref a), .val (.int q)] [(.ref a)])) _
    refine XS.iloadN X1.here hx rfl (hb hby d_jdk_33_m_23_5) rfl ?_
    show Steps p.tables e below (T1.setTop (mkF m 6 #[.val (.ref a), .val (.int q)] [(.int q), (.ref a)])) _
    refine st2 _ ?_
    show Steps p.tables e below (T2.setTop (mkF m 9 #[.val (.ref a), .val (.int q)] [])) _
    exact X2.returnOut hx Bd.returns (hb hby d_jdk_33_m_23_9) hr
  · show QW Z a "java/lang/Integer" "value" "I" (.int q) none h0 n0 _ T2.heap _
    rw [e2]
    exact ⟨rfl, N2, K2, Fw2⟩
theorem ef_rmIV (m : MethodId) (x0 : Int32) : entryFrame m #[(.int x0)] 1 = mkF m 0 #[.val (.int x0)] [] := by first | (simp [entryFrame, mkF, argsToLocals, Value.category]; done) | rfl
set_option maxRecDepth 65536 in
set_option maxHeartbeats 40000000 in
theorem rmIV (l : Launch) (Z : State) (a0 : Array Value) (hw : ∀ d ∈ tables_1, d.before a0 Z = true) (ws : List Jvm.Cond) (q : Int32) (ca : Addr) (cc : Cell) (h0 : Heap) (n0 : Nat) (Z0 : n0 ≤ h0.size) (hO1 : Old Z n0 h0) (hS0 : Sta Z Z.heap "java/lang/Integer$IntegerCache" "high" "I" (.int (127 : Int32))) (hS1 : Sta Z Z.heap "java/lang/Integer$IntegerCache" "cache" "[Ljava/lang/Integer;" (.ref ca)) (hB1 : Bxs Z ca cc "java/lang/Integer" "I" (256 : Int32) (fun j => .int (j - 128))) :
    MetFree l (⟨"java/lang/Integer", "valueOf", "(I)Ljava/lang/Integer;"⟩ : MethodName) (head1 (Jvm.Cond.code (⟨"java/lang/Integer", "valueOf", "(I)Ljava/lang/Integer;"⟩ : MethodName) jdk_33_method_22_code 1 (some (.object "java/lang/Integer")) :: ws) ({ frames := 3, cells := 1, slots := 1, locals := 38 } : Room)) (fun aa_ UU_ => aa_ = #[(.int q)] ∧ Z.Warmed39 UU_.vm ∧ UU_.heap = h0) (fun _ _ _ _ _ => True) (fun _ UU_ oo_ UE_ => ∃ vv_ LL_, oo_ = .returned vv_ ∧ QIV Z q h0 n0 vv_ UE_.heap LL_ ∧ FrameEnd UU_ oo_ UE_ LL_ ({ frames := 3, cells := 1, slots := 1, locals := 38 } : Room).cells ({ frames := 3, cells := 1, slots := 1, locals := 38 } : Room).slots) := by
  refine MetFree.of_bodySF (plainFor_of_name pn_4) hisR ?_
  intro p e s m args below meth c s₁ Bd hml0 hP hK
  obtain ⟨rfl, hZ, hh⟩ := hP
  have hx := Bd.exec
  have hby := Bd.bytes
  have hml : c.maxLocals = 1 := hml0
  have hown : s.vm.findClass "java/lang/Integer" = some m.cls := findClass_of_methodNamed Bd.named
  have hnm := (name_of_methodNamed Bd.named Bd.method).1
  have X0 : Stand p l e ({ frames := 3, cells := 1, slots := 1, locals := 38 } : Room) s m #[(.int q)] below meth c s₁ [] 0 0 := Stand.of_body Bd
  have e0 : s₁.heap = h0 := by rw [← hh, Bd.state]; rfl
  have N0 := Fr.nil n0
  have K0 : Keep h0 h0 [] := Keep.refl h0 _
  have pre0 : ∀ tg, Steps p.tables e below (s₁.setTop (mkF m 0 #[.val (.int q)] [])) tg → Steps p.tables e below (s₁.setTop (entryFrame m #[(.int q)] 1)) tg := fun tg kq_ => castTop (ef_rmIV m q) kq_
  have R1 : ∀ tg, Steps p.tables e below (s₁.setTop (mkF m 3 #[.val (.int q)] [(.int (-128 : Int32)), (.int q)])) tg → Steps p.tables e below (s₁.setTop (mkF m 0 #[.val (.int q)] [])) tg := by
    intro tg kt
    refine XS.iloadN X0.here hx rfl (hb hby d_jdk_33_m_22_0) rfl ?_
    show Steps p.tables e below (s₁.setTop (mkF m 1 #[.val (.int q)] [(.int q)])) _
    refine XS.bipush X0.here hx rfl (hb hby d_jdk_33_m_22_1) ?_
    show Steps p.tables e below (s₁.setTop (mkF m 3 #[.val (.int q)] [(.int (-128 : Int32)), (.int q)])) _
    exact kt
  by_cases hc3_2 : q < (-128 : Int32)
  · obtain ⟨T3, h3, X3, e3, E3, A3, D3, -, st3⟩ := newO X0 hx hZ hown (hw _ (List.mem_of_getElem? (i := 60) rfl)) (hw _ (List.mem_of_getElem? (i := 61) rfl)) (hw _ (List.mem_of_getElem? (i := 5) rfl)) e0 (g := (mkF m 23 #[.val (.int q)] [])) rfl (hb hby d_jdk_33_m_22_23) (by decide) (by decide)
    obtain ⟨b3, g3⟩ : ∃ z, z = h0.size := ⟨_, rfl⟩
    rw [← g3] at A3 D3 st3
    have gb_b3 : n0 ≤ b3 := Nat.le_trans Z0 (Nat.le_of_eq g3.symm)
    have sz_b3 : h0.size ≤ b3 := Nat.le_trans K0.1 (Nat.le_of_eq g3.symm)
    have Z3 : n0 ≤ h3.size := Nat.le_trans Z0 E3.1
    have K3 : Keep h0 h3 [] := K0.ext E3
    have F3_value : Fld Z h3 b3 "java/lang/Integer" "value" "I" (.int (0 : Int32)) := D3 (Or.inr (hw _ (List.mem_of_getElem? (i := 73) rfl))) (ty := .int) (by decide)
    obtain ⟨_, _, ⟨T4, L4, k4, n4⟩, -, X4, ⟨Lc4, hQ4, l4, y4, z4⟩, st4⟩ := X3.specialBack hx (y := (⟨"java/lang/Integer", "<init>", "(I)V"⟩ : MethodName)) rfl hown (mvT hZ (hw _ (List.mem_of_getElem? (i := 62) rfl))) (mvT hZ (hw _ (List.mem_of_getElem? (i := 63) rfl))) (mvT hZ (hw _ (List.mem_of_getElem? (i := 64) rfl))) (by decide) (backOf (W := 1) (rmII l Z a0 hw [] b3 q h3 n0 Z3 A3 F3_value gb_b3) hZ (hw _ (List.mem_of_getElem? (i := 64) rfl)) (hw _ (List.mem_of_getElem? (i := 5) rfl)) (by decide) (by decide)) (g := (mkF m 28 #[.val (.int q)] [(.int q), (.ref b3), (.ref b3)])) rfl (by rw [hml]; rfl) (Steps.refl _) (a := b3) (argsL := [(.int q)]) (rest := [(.ref b3)]) (lenOf pd_1 rfl) rfl (by show 2 * 0 + _ ≤ _; exact Nat.le_of_eq rfl) (hb hby d_jdk_33_m_22_28) (fun _ _ => ⟨rfl, e3, (by decide : 1 + 0 ≤ _), (by decide : 1 + 0 ≤ _)⟩)
    dsimp only [Pt.U, Pt.locs, Pt.cells, Pt.slots] at X4 l4 y4 z4 st4 hQ4
    subst l4 y4 z4
    obtain ⟨hv4, N4q, kp4, fl4⟩ := hQ4
    subst hv4
    have N4 := Fr.app N0 N4q
    have Z4 : n0 ≤ T4.heap.size := Nat.le_trans Z3 kp4.1
    have K4 : Keep h0 T4.heap [] := K3.trans kp4 (allS (Or.inr sz_b3) all0)
    obtain ⟨fs, hr, hrun, hended, hW, hsame⟩ := X4.leave (v := some (.ref b3)) (fun h => by rw [Bd.returns] at h; cases h)
    refine ⟨_, _, pre0 _ (R1 _ ?_), hrun, hended, _, _, rfl, ?_, ⟨_, rfl⟩, hW, hsame.mono (by decide) (by decide)⟩
    · show Steps p.tables e below (s₁.setTop (mkF m 3 #[.val (.int q)] [(.int (-128 : Int32)), (.int q)])) _
      refine XS.icmpYes X0.here hx rfl (pc0 := 3) (pc' := 23) rfl (hb hby d_jdk_33_m_22_3) rfl (tlt hc3_2).1 (by decide) (by decide) ?_
      show Steps p.tables e below (s₁.setTop (mkF m 23 #[.val (.int q)] [])) _
      refine st3 _ ?_
      show Steps p.tables e below (T3.setTop (mkF m 26 #[.val (.int q)] [(.ref b3)])) _
      refine XS.dup X3.here hx rfl (hb hby d_jdk_33_m_22_26) rfl rfl ?_
      show Steps p.tables e below (T3.setTop (mkF m 27 #[.val (.int q)] [(.ref b3), (.ref b3)])) _
      refine XS.iloadN X3.here hx rfl (hb hby d_jdk_33_m_22_27) rfl ?_
      show Steps p.tables e below (T3.setTop (mkF m 28 #[.val (.int q)] [(.int q), (.ref b3), (.ref b3)])) _
      refine st4.trans ?_
      show Steps p.tables e below (T4.setTop (mkF m 31 #[.val (.int q)] [(.ref b3)])) _
      jvm_step X4.here [X4.here.top, hx, (hb hby d_jdk_33_m_22_31), X4.method', Bd.returns, Value.isRef, FieldType.isReference]
      first | (intro acts; rw [hr _ acts rfl rfl rfl]) | rw [hr _ _ rfl rfl rfl]
      exact Steps.refl _
    · show QIV Z q h0 n0 _ T4.heap _
      have f5 := (A3.keep kp4)
      exact ⟨b3, rfl, N4, K4, f5, fl4⟩
  · obtain ⟨T6, X6, e6, st6⟩ := getS2 X0 hx hZ hown (host := "") (Or.inl (hw _ (List.mem_of_getElem? (i := 7) rfl))) Via.refl e0 (hS0.ext hO1.2) (g := (mkF m 7 #[.val (.int q)] [(.int q)])) rfl (hb hby d_jdk_33_m_22_7)
    have R7 : ∀ tg, Steps p.tables e below (T6.setTop (mkF m 10 #[.val (.int q)] [(.int (127 : Int32)), (.int q)])) tg → Steps p.tables e below (s₁.setTop (mkF m 3 #[.val (.int q)] [(.int (-128 : Int32)), (.int q)])) tg := by
      intro tg kt
      refine XS.icmpNo X0.here hx rfl (hb hby d_jdk_33_m_22_3) rfl (flt hc3_2).1 ?_
      show Steps p.tables e below (s₁.setTop (mkF m 6 #[.val (.int q)] [])) _
      refine XS.iloadN X0.here hx rfl (hb hby d_jdk_33_m_22_6) rfl ?_
      show Steps p.tables e below (s₁.setTop (mkF m 7 #[.val (.int q)] [(.int q)])) _
      refine st6 _ ?_
      show Steps p.tables e below (T6.setTop (mkF m 10 #[.val (.int q)] [(.int (127 : Int32)), (.int q)])) _
      exact kt
    by_cases hc10_8 : (127 : Int32) < q
    · obtain ⟨T9, h9, X9, e9, E9, A9, D9, -, st9⟩ := newO X6 hx hZ hown (hw _ (List.mem_of_getElem? (i := 60) rfl)) (hw _ (List.mem_of_getElem? (i := 61) rfl)) (hw _ (List.mem_of_getElem? (i := 5) rfl)) e6 (g := (mkF m 23 #[.val (.int q)] [])) rfl (hb hby d_jdk_33_m_22_23) (by decide) (by decide)
      obtain ⟨b9, g9⟩ : ∃ z, z = h0.size := ⟨_, rfl⟩
      rw [← g9] at A9 D9 st9
      have gb_b9 : n0 ≤ b9 := Nat.le_trans Z0 (Nat.le_of_eq g9.symm)
      have sz_b9 : h0.size ≤ b9 := Nat.le_trans K0.1 (Nat.le_of_eq g9.symm)
      have Z9 : n0 ≤ h9.size := Nat.le_trans Z0 E9.1
      have K9 : Keep h0 h9 [] := K0.ext E9
      have F9_value : Fld Z h9 b9 "java/lang/Integer" "value" "I" (.int (0 : Int32)) := D9 (Or.inr (hw _ (List.mem_of_getElem? (i := 73) rfl))) (ty := .int) (by decide)
      obtain ⟨_, _, ⟨T10, L10, k10, n10⟩, -, X10, ⟨Lc10, hQ10, l10, y10, z10⟩, st10⟩ := X9.specialBack hx (y := (⟨"java/lang/Integer", "<init>", "(I)V"⟩ : MethodName)) rfl hown (mvT hZ (hw _ (List.mem_of_getElem? (i := 62) rfl))) (mvT hZ (hw _ (List.mem_of_getElem? (i := 63) rfl))) (mvT hZ (hw _ (List.mem_of_getElem? (i := 64) rfl))) (by decide) (backOf (W := 1) (rmII l Z a0 hw [] b9 q h9 n0 Z9 A9 F9_value gb_b9) hZ (hw _ (List.mem_of_getElem? (i := 64) rfl)) (hw _ (List.mem_of_getElem? (i := 5) rfl)) (by decide) (by decide)) (g := (mkF m 28 #[.val (.int q)] [(.int q), (.ref b9), (.ref b9)])) rfl (by rw [hml]; rfl) (Steps.refl _) (a := b9) (argsL := [(.int q)]) (rest := [(.ref b9)]) (lenOf pd_1 rfl) rfl (by show 2 * 0 + _ ≤ _; exact Nat.le_of_eq rfl) (hb hby d_jdk_33_m_22_28) (fun _ _ => ⟨rfl, e9, (by decide : 1 + 0 ≤ _), (by decide : 1 + 0 ≤ _)⟩)
      dsimp only [Pt.U, Pt.locs, Pt.cells, Pt.slots] at X10 l10 y10 z10 st10 hQ10
      subst l10 y10 z10
      obtain ⟨hv10, N10q, kp10, fl10⟩ := hQ10
      subst hv10
      have N10 := Fr.app N0 N10q
      have Z10 : n0 ≤ T10.heap.size := Nat.le_trans Z9 kp10.1
      have K10 : Keep h0 T10.heap [] := K9.trans kp10 (allS (Or.inr sz_b9) all0)
      obtain ⟨fs, hr, hrun, hended, hW, hsame⟩ := X10.leave (v := some (.ref b9)) (fun h => by rw [Bd.returns] at h; cases h)
      refine ⟨_, _, pre0 _ (R1 _ (R7 _ ?_)), hrun, hended, _, _, rfl, ?_, ⟨_, rfl⟩, hW, hsame.mono (by decide) (by decide)⟩
      · show Steps p.tables e below (T6.setTop (mkF m 10 #[.val (.int q)] [(.int (127 : Int32)), (.int q)])) _
        refine XS.icmpYes X6.here hx rfl (pc0 := 10) (pc' := 23) rfl (hb hby d_jdk_33_m_22_10) rfl (tlt hc10_8).2.2.1 (by decide) (by decide) ?_
        show Steps p.tables e below (T6.setTop (mkF m 23 #[.val (.int q)] [])) _
        refine st9 _ ?_
        show Steps p.tables e below (T9.setTop (mkF m 26 #[.val (.int q)] [(.ref b9)])) _
        refine XS.dup X9.here hx rfl (hb hby d_jdk_33_m_22_26) rfl rfl ?_
        show Steps p.tables e below (T9.setTop (mkF m 27 #[.val (.int q)] [(.ref b9), (.ref b9)])) _
        refine XS.iloadN X9.here hx rfl (hb hby d_jdk_33_m_22_27) rfl ?_
        show Steps p.tables e below (T9.setTop (mkF m 28 #[.val (.int q)] [(.int q), (.ref b9), (.ref b9)])) _
        refine st10.trans ?_
        show Steps p.tables e below (T10.setTop (mkF m 31 #[.val (.int q)] [(.ref b9)])) _
        jvm_step X10.here [X10.here.top, hx, (hb hby d_jdk_33_m_22_31), X10.method', Bd.returns, Value.isRef, FieldType.isReference]
        first | (intro acts; rw [hr _ acts rfl rfl rfl]) | rw [hr _ _ rfl rfl rfl]
        exact Steps.refl _
      · show QIV Z q h0 n0 _ T10.heap _
        have f11 := (A9.keep kp10)
        exact ⟨b9, rfl, N10, K10, f11, fl10⟩
    · obtain ⟨T12, X12, e12, st12⟩ := getS2 X6 hx hZ hown (host := "") (Or.inl (hw _ (List.mem_of_getElem? (i := 9) rfl))) Via.refl e6 (hS1.ext hO1.2) (g := (mkF m 13 #[.val (.int q)] [])) rfl (hb hby d_jdk_33_m_22_13)
      have hin : ¬ ((q + (128 : Int32)) < 0 ∨ cc.slots.size ≤ (q + (128 : Int32)).toNatClampNeg) := by
        rw [hB1.2.1]
        exact own_place q hc3_2 hc10_8
      obtain ⟨bx, hat, EB, FB⟩ := hB1.2.2.2 _ hin
      have FB' : Fld Z Z.heap bx "java/lang/Integer" "value" "I" (.int q) := by
        have e : q + (128 : Int32) - 128 = q := Int32.add_sub_cancel q 128
        rw [← e]; exact FB
      obtain ⟨fs, hr, hrun, hended, hW, hsame⟩ := X12.leave (v := some (.ref bx)) (fun h => by rw [Bd.returns] at h; cases h)
      refine ⟨_, _, pre0 _ (R1 _ (R7 _ ?_)), hrun, hended, _, _, rfl, ?_, ⟨_, rfl⟩, hW, hsame.mono (by decide) (by decide)⟩
      · show Steps p.tables e below (T6.setTop (mkF m 10 #[.val (.int q)] [(.int (127 : Int32)), (.int q)])) _
        refine XS.icmpNo X6.here hx rfl (hb hby d_jdk_33_m_22_10) rfl (flt hc10_8).2.2.1 ?_
        show Steps p.tables e below (T6.setTop (mkF m 13 #[.val (.int q)] [])) _
        refine st12 _ ?_
        show Steps p.tables e below (T12.setTop (mkF m 16 #[.val (.int q)] [(.ref ca)])) _
        refine XS.iloadN X12.here hx rfl (hb hby d_jdk_33_m_22_16) rfl ?_
        show Steps p.tables e below (T12.setTop (mkF m 17 #[.val (.int q)] [(.int q), (.ref ca)])) _
        refine XS.sipush X12.here hx rfl (hb hby d_jdk_33_m_22_17) ?_
        show Steps p.tables e below (T12.setTop (mkF m 20 #[.val (.int q)] [(.int (128 : Int32)), (.int q), (.ref ca)])) _
        refine XS.iadd X12.here hx rfl (hb hby d_jdk_33_m_22_20) rfl ?_
        show Steps p.tables e below (T12.setTop (mkF m 21 #[.val (.int q)] [(.int (q + (128 : Int32))), (.ref ca)])) _
        refine X12.aaload hx (j := (q + (128 : Int32))) (v := (.ref bx)) (by rw [e12]; exact (hB1.ext hO1.2).1.1) (State.isArrayOf_alike hZ.alike (hB1.ext hO1.2).1.2.1) rfl (hB1.ext hO1.2).1.2.2 hin hat (g := (mkF m 21 #[.val (.int q)] [(.int (q + (128 : Int32))), (.ref ca)])) rfl rfl (hb hby d_jdk_33_m_22_21) _ ?_
        show Steps p.tables e below (T12.setTop (mkF m 22 #[.val (.int q)] [(.ref bx)])) _
        jvm_step X12.here [X12.here.top, hx, (hb hby d_jdk_33_m_22_22), X12.method', Bd.returns, Value.isRef, FieldType.isReference]
        first | (intro acts; rw [hr _ acts rfl rfl rfl]) | rw [hr _ _ rfl rfl rfl]
        exact Steps.refl _
      · show QIV Z q h0 n0 _ T12.heap _
        rw [e12]
        exact ⟨bx, rfl, N0, K0, EB.ext hO1.2, FB'.ext hO1.2⟩
theorem ef_rmMn (m : MethodId) (x0 : Int32) (x1 : Int32) : entryFrame m #[(.int x0), (.int x1)] 2 = mkF m 0 #[.val (.int x0), .val (.int x1)] [] := by first | (simp [entryFrame, mkF, argsToLocals, Value.category]; done) | rfl
set_option maxRecDepth 65536 in
set_option maxHeartbeats 40000000 in
theorem rmMn (l : Launch) (Z : State) (a0 : Array Value) (hw : ∀ d ∈ tables_1, d.before a0 Z = true) (ws : List Jvm.Cond) (x y : Int32) (h0 : Heap) (n0 : Nat) (Z0 : n0 ≤ h0.size)  :
    MetFree l (⟨"java/lang/Math", "min", "(II)I"⟩ : MethodName) (head1 (Jvm.Cond.code (⟨"java/lang/Math", "min", "(II)I"⟩ : MethodName) jdk_29_method_69_code 2 (some .int) :: ws) ({ frames := 0, cells := 0, slots := 0, locals := 0 } : Room)) (fun aa_ UU_ => aa_ = #[(.int x), (.int y)] ∧ Z.Warmed39 UU_.vm ∧ UU_.heap = h0) (fun _ _ _ _ _ => True) (fun _ UU_ oo_ UE_ => ∃ vv_ LL_, oo_ = .returned vv_ ∧ QV (some (.int (if y < x then y else x))) h0 n0 vv_ UE_.heap LL_ ∧ FrameEnd UU_ oo_ UE_ LL_ ({ frames := 0, cells := 0, slots := 0, locals := 0 } : Room).cells ({ frames := 0, cells := 0, slots := 0, locals := 0 } : Room).slots) := by
  refine MetFree.of_bodySF (Jvm.Free.JP.mathPlain rfl (by decide +kernel)) hisR ?_
  intro p e s m args below meth c s₁ Bd hml0 hP hK
  obtain ⟨rfl, hZ, hh⟩ := hP
  have hx := Bd.exec
  have hby := Bd.bytes
  have hml : c.maxLocals = 2 := hml0
  have hown : s.vm.findClass "java/lang/Math" = some m.cls := findClass_of_methodNamed Bd.named
  have hnm := (name_of_methodNamed Bd.named Bd.method).1
  have X0 : Stand p l e ({ frames := 0, cells := 0, slots := 0, locals := 0 } : Room) s m #[(.int x), (.int y)] below meth c s₁ [] 0 0 := Stand.of_body Bd
  have e0 : s₁.heap = h0 := by rw [← hh, Bd.state]; rfl
  have N0 := Fr.nil n0
  have pre0 : ∀ tg, Steps p.tables e below (s₁.setTop (mkF m 0 #[.val (.int x), .val (.int y)] [])) tg → Steps p.tables e below (s₁.setTop (entryFrame m #[(.int x), (.int y)] 2)) tg := fun tg kq_ => castTop (ef_rmMn m x y) kq_
  have R1 : ∀ tg, Steps p.tables e below (s₁.setTop (mkF m 2 #[.val (.int x), .val (.int y)] [(.int y), (.int x)])) tg → Steps p.tables e below (s₁.setTop (mkF m 0 #[.val (.int x), .val (.int y)] [])) tg := by
    intro tg kt
    refine XS.iloadN X0.here hx rfl (hb hby d_jdk_29_m_69_0) rfl ?_
    show Steps p.tables e below (s₁.setTop (mkF m 1 #[.val (.int x), .val (.int y)] [(.int x)])) _
    refine XS.iloadN X0.here hx rfl (hb hby d_jdk_29_m_69_1) rfl ?_
    show Steps p.tables e below (s₁.setTop (mkF m 2 #[.val (.int x), .val (.int y)] [(.int y), (.int x)])) _
    exact kt
  by_cases hc2_2 : y < x
  · obtain ⟨fs, hr, hrun, hended, hW, hsame⟩ := X0.leave (v := some (.int y)) (fun h => by rw [Bd.returns] at h; cases h)
    refine ⟨_, _, pre0 _ (R1 _ ?_), hrun, hended, _, _, rfl, ?_, ⟨_, rfl⟩, hW, hsame.mono (by decide) (by decide)⟩
    · show Steps p.tables e below (s₁.setTop (mkF m 2 #[.val (.int x), .val (.int y)] [(.int y), (.int x)])) _
      refine XS.icmpYes X0.here hx rfl (pc0 := 2) (pc' := 9) rfl (hb hby d_jdk_29_m_69_2) rfl (tlt hc2_2).2.2.1 (by decide) (by decide) ?_
      show Steps p.tables e below (s₁.setTop (mkF m 9 #[.val (.int x), .val (.int y)] [])) _
      refine XS.iloadN X0.here hx rfl (hb hby d_jdk_29_m_69_9) rfl ?_
      show Steps p.tables e below (s₁.setTop (mkF m 10 #[.val (.int x), .val (.int y)] [(.int y)])) _
      exact retI X0 hx Bd.returns (hb hby d_jdk_29_m_69_10) hr
    · show QV (some (.int (if y < x then y else x))) h0 n0 _ s₁.heap _
      rw [e0]
      exact ⟨by rw [if_pos hc2_2], N0, rfl⟩
  · obtain ⟨fs, hr, hrun, hended, hW, hsame⟩ := X0.leave (v := some (.int x)) (fun h => by rw [Bd.returns] at h; cases h)
    refine ⟨_, _, pre0 _ (R1 _ ?_), hrun, hended, _, _, rfl, ?_, ⟨_, rfl⟩, hW, hsame.mono (by decide) (by decide)⟩
    · show Steps p.tables e below (s₁.setTop (mkF m 2 #[.val (.int x), .val (.int y)] [(.int y), (.int x)])) _
      refine XS.icmpNo X0.here hx rfl (hb hby d_jdk_29_m_69_2) rfl (flt hc2_2).2.2.1 ?_
      show Steps p.tables e below (s₁.setTop (mkF m 5 #[.val (.int x), .val (.int y)] [])) _
      refine XS.iloadN X0.here hx rfl (hb hby d_jdk_29_m_69_5) rfl ?_
      show Steps p.tables e below (s₁.setTop (mkF m 6 #[.val (.int x), .val (.int y)] [(.int x)])) _
      refine XS.goto X0.here hx rfl (pc0 := 6) (pc' := 10) rfl (hb hby d_jdk_29_m_69_6) (by decide) (by decide) ?_
      show Steps p.tables e below (s₁.setTop (mkF m 10 #[.val (.int x), .val (.int y)] [(.int x)])) _
      exact retI X0 hx Bd.returns (hb hby d_jdk_29_m_69_10) hr
    · show QV (some (.int (if y < x then y else x))) h0 n0 _ s₁.heap _
      rw [e0]
      exact ⟨by rw [if_neg hc2_2], N0, rfl⟩
theorem ef_rmGr (m : MethodId) (x0 : Addr) (x1 : Addr) : entryFrame m #[(.ref x0), (.ref x1)] 5 = mkF m 0 #[.val (.ref x0), .val (.ref x1), .unset, .unset, .unset] [] := by first | (simp [entryFrame, mkF, argsToLocals, Value.category]; done) | rfl
set_option maxRecDepth 65536 in
set_option maxHeartbeats 40000000 in
theorem rmGr (l : Launch) (Z : State) (a0 : Array Value) (hw : ∀ d ∈ tables_1, d.before a0 Z = true) (ws : List Jvm.Cond) (a vv ch ea xe0 xe1 xe2 xe3 : Addr) (kc ke : ClassId) (mc : Int32) (h0 : Heap) (n0 : Nat) (Z0 : n0 ≤ h0.size) (hC : CLs Z n0 h0 a ch ea kc ke (4 : Int32) mc (4 : Int32) [.ref xe0, .ref xe1, .ref xe2, .ref xe3]) (hv : Exa Z h0 vv "java/lang/Integer") (hxe0 : Exa Z h0 xe0 "java/lang/Integer") (hxe1 : Exa Z h0 xe1 "java/lang/Integer") (hxe2 : Exa Z h0 xe2 "java/lang/Integer") (hxe3 : Exa Z h0 xe3 "java/lang/Integer") (hM : ∃ (c : ClassId) (k : Class) (m : Addr), Z.vm.findClass "[Ljava/lang/Object;" = some c ∧ Z.vm.classes[c]? = some k ∧ k.mirror = some m) :
    MetFree l (⟨"com/example/anchored_threads/anchoredthreads/internal/ChunkedList", "add", "(Ljava/lang/Object;)Z"⟩ : MethodName) (head1 (Jvm.Cond.code (⟨"com/example/anchored_threads/anchoredthreads/internal/ChunkedList", "add", "(Ljava/lang/Object;)Z"⟩ : MethodName) prog_28_method_2_code 5 (some .boolean) :: ws) ({ frames := 4, cells := 1, slots := 8, locals := 77 } : Room)) (fun aa_ UU_ => aa_ = #[(.ref a), (.ref vv)] ∧ Z.Warmed39 UU_.vm ∧ UU_.heap = h0) (fun _ _ _ _ _ => True) (fun _ UU_ oo_ UE_ => ∃ vv_ LL_, oo_ = .returned vv_ ∧ QGr Z a ch ea kc [.ref xe0, .ref xe1, .ref xe2, .ref xe3, .ref vv, .null, .null, .null] h0 n0 vv_ UE_.heap LL_ ∧ FrameEnd UU_ oo_ UE_ LL_ ({ frames := 4, cells := 1, slots := 8, locals := 77 } : Room).cells ({ frames := 4, cells := 1, slots := 8, locals := 77 } : Room).slots) := by
  refine MetFree.of_bodySF (plainFor_of_name pn_2) hisR ?_
  intro p e s m args below meth c s₁ Bd hml0 hP hK
  obtain ⟨rfl, hZ, hh⟩ := hP
  have hx := Bd.exec
  have hby := Bd.bytes
  have hml : c.maxLocals = 5 := hml0
  have hown : s.vm.findClass "com/example/anchored_threads/anchoredthreads/internal/ChunkedList" = some m.cls := findClass_of_methodNamed Bd.named
  have hnm := (name_of_methodNamed Bd.named Bd.method).1
  have X0 : Stand p l e ({ frames := 4, cells := 1, slots := 8, locals := 77 } : Room) s m #[(.ref a), (.ref vv)] below meth c s₁ [] 0 0 := Stand.of_body Bd
  have e0 : s₁.heap = h0 := by rw [← hh, Bd.state]; rfl
  have N0 := Fr.nil n0
  have K0 : Keep h0 h0 [a, ch, ea] := Keep.refl h0 _
  have pre0 : ∀ tg, Steps p.tables e below (s₁.setTop (mkF m 0 #[.val (.ref a), .val (.ref vv), .unset, .unset, .unset] [])) tg → Steps p.tables e below (s₁.setTop (entryFrame m #[(.ref a), (.ref vv)] 5)) tg := fun tg kq_ => castTop (ef_rmGr m a vv) kq_
  obtain ⟨hE, hFs, hFc, hFm, hVc, hVe, hXe, hO, hOA, hga, hgc, hge, hn1, hn2, hn3⟩ := hC
  obtain ⟨T1, X1, e1, st1⟩ := getF X0 hx hZ hown (host := "") (Or.inl (hw _ (List.mem_of_getElem? (i := 45) rfl))) Via.refl e0 hFs (g := (mkF m 1 #[.val (.ref a), .val (.ref vv), .unset, .unset, .unset] [(.ref a)])) rfl rfl (hb hby d_prog_28_m_2_1)
  have R2 : ∀ tg, Steps p.tables e below (T1.setTop (mkF m 8 #[.val (.ref a), .val (.ref vv), .val (.int (((4 : Int32).toUInt32 >>> ((12 : Int32) &&& 31).toUInt32).toInt32)), .unset, .unset] [])) tg → Steps p.tables e below (s₁.setTop (mkF m 0 #[.val (.ref a), .val (.ref vv), .unset, .unset, .unset] [])) tg := by
    intro tg kt
    refine XS.aloadN X0.here hx rfl (hb hby d_prog_28_m_2_0) rfl rfl ?_
    show Steps p.tables e below (s₁.setTop (mkF m 1 #[.val (.ref a), .val (.ref vv), .unset, .unset, .unset] [(.ref a)])) _
    refine st1 _ ?_
    show Steps p.tables e below (T1.setTop (mkF m 4 #[.val (.ref a), .val (.ref vv), .unset, .unset, .unset] [(.int (4 : Int32))])) _
    refine XS.bipush X1.here hx rfl (hb hby d_prog_28_m_2_4) ?_
    show Steps p.tables e below (T1.setTop (mkF m 6 #[.val (.ref a), .val (.ref vv), .unset, .unset, .unset] [(.int (12 : Int32)), (.int (4 : Int32))])) _
    refine XS.iushr X1.here hx rfl (hb hby d_prog_28_m_2_6) rfl ?_
    show Steps p.tables e below (T1.setTop (mkF m 7 #[.val (.ref a), .val (.ref vv), .unset, .unset, .unset] [(.int (((4 : Int32).toUInt32 >>> ((12 : Int32) &&& 31).toUInt32).toInt32))])) _
    refine XS.istoreN X1.here hx rfl (hb hby d_prog_28_m_2_7) rfl (l' := #[.val (.ref a), .val (.ref vv), .val (.int (((4 : Int32).toUInt32 >>> ((12 : Int32) &&& 31).toUInt32).toInt32)), .unset, .unset]) rfl ?_
    show Steps p.tables e below (T1.setTop (mkF m 8 #[.val (.ref a), .val (.ref vv), .val (.int (((4 : Int32).toUInt32 >>> ((12 : Int32) &&& 31).toUInt32).toInt32)), .unset, .unset] [])) _
    exact kt
  have R3 : ∀ tg, Steps p.tables e below (T1.setTop (mkF m 8 #[.val (.ref a), .val (.ref vv), .val (.int (0 : Int32)), .unset, .unset] [])) tg → Steps p.tables e below (T1.setTop (mkF m 8 #[.val (.ref a), .val (.ref vv), .val (.int (((4 : Int32).toUInt32 >>> ((12 : Int32) &&& 31).toUInt32).toInt32)), .unset, .unset] [])) tg := fun tg kt => by rw [(by decide : (((4 : Int32).toUInt32 >>> ((12 : Int32) &&& 31).toUInt32).toInt32) = (0 : Int32))]; exact kt
  obtain ⟨T4, X4, e4, st4⟩ := getF X1 hx hZ hown (host := "") (Or.inl (hw _ (List.mem_of_getElem? (i := 45) rfl))) Via.refl e1 hFs (g := (mkF m 9 #[.val (.ref a), .val (.ref vv), .val (.int (0 : Int32)), .unset, .unset] [(.ref a)])) rfl rfl (hb hby d_prog_28_m_2_9)
  have R5 : ∀ tg, Steps p.tables e below (T4.setTop (mkF m 17 #[.val (.ref a), .val (.ref vv), .val (.int (0 : Int32)), .val (.int ((4 : Int32) &&& (4095 : Int32))), .unset] [])) tg → Steps p.tables e below (T1.setTop (mkF m 8 #[.val (.ref a), .val (.ref vv), .val (.int (0 : Int32)), .unset, .unset] [])) tg := by
    intro tg kt
    refine XS.aloadN X1.here hx rfl (hb hby d_prog_28_m_2_8) rfl rfl ?_
    show Steps p.tables e below (T1.setTop (mkF m 9 #[.val (.ref a), .val (.ref vv), .val (.int (0 : Int32)), .unset, .unset] [(.ref a)])) _
    refine st4 _ ?_
    show Steps p.tables e below (T4.setTop (mkF m 12 #[.val (.ref a), .val (.ref vv), .val (.int (0 : Int32)), .unset, .unset] [(.int (4 : Int32))])) _
    refine XS.sipush X4.here hx rfl (hb hby d_prog_28_m_2_12) ?_
    show Steps p.tables e below (T4.setTop (mkF m 15 #[.val (.ref a), .val (.ref vv), .val (.int (0 : Int32)), .unset, .unset] [(.int (4095 : Int32)), (.int (4 : Int32))])) _
    refine XS.iand X4.here hx rfl (hb hby d_prog_28_m_2_15) rfl ?_
    show Steps p.tables e below (T4.setTop (mkF m 16 #[.val (.ref a), .val (.ref vv), .val (.int (0 : Int32)), .unset, .unset] [(.int ((4 : Int32) &&& (4095 : Int32)))])) _
    refine XS.istoreN X4.here hx rfl (hb hby d_prog_28_m_2_16) rfl (l' := #[.val (.ref a), .val (.ref vv), .val (.int (0 : Int32)), .val (.int ((4 : Int32) &&& (4095 : Int32))), .unset]) rfl ?_
    show Steps p.tables e below (T4.setTop (mkF m 17 #[.val (.ref a), .val (.ref vv), .val (.int (0 : Int32)), .val (.int ((4 : Int32) &&& (4095 : Int32))), .unset] [])) _
    exact kt
  have R6 : ∀ tg, Steps p.tables e below (T4.setTop (mkF m 17 #[.val (.ref a), .val (.ref vv), .val (.int (0 : Int32)), .val (.int (4 : Int32)), .unset] [])) tg → Steps p.tables e below (T4.setTop (mkF m 17 #[.val (.ref a), .val (.ref vv), .val (.int (0 : Int32)), .val (.int ((4 : Int32) &&& (4095 : Int32))), .unset] [])) tg := fun tg kt => by rw [(by decide : ((4 : Int32) &&& (4095 : Int32)) = (4 : Int32))]; exact kt
  obtain ⟨T7, X7, e7, st7⟩ := getF X4 hx hZ hown (host := "") (Or.inl (hw _ (List.mem_of_getElem? (i := 38) rfl))) Via.refl e4 hFc (g := (mkF m 19 #[.val (.ref a), .val (.ref vv), .val (.int (0 : Int32)), .val (.int (4 : Int32)), .unset] [(.ref a), (.int (0 : Int32))])) rfl rfl (hb hby d_prog_28_m_2_19)
  obtain ⟨cl8, Ar8, q8, Sz8, Nn8, Ha8, Ga8⟩ := id hVc
  obtain ⟨T9, X9, e9, st9⟩ := getF X7 hx hZ hown (host := "") (Or.inl (hw _ (List.mem_of_getElem? (i := 38) rfl))) Via.refl e7 hFc (g := (mkF m 44 #[.val (.ref a), .val (.ref vv), .val (.int (0 : Int32)), .val (.int (4 : Int32)), .unset] [(.ref a)])) rfl rfl (hb hby d_prog_28_m_2_44)
  obtain ⟨cl10, Ar10, q10, Sz10, Nn10, Ha10, Ga10⟩ := id hVc
  have hin10 : ¬ ((0 : Int32) < 0 ∨ cl10.slots.size ≤ ((0 : Int32)).toNatClampNeg) := inb_of Sz10 ⟨by decide, by decide⟩
  have hat10 : cl10.slots[((0 : Int32)).toNatClampNeg]? = some (.ref ea) := Ha10.at hin10 rfl
  obtain ⟨cl11, Ar11, q11, Sz11, Nn11, Ha11, Ga11⟩ := id hVe
  obtain ⟨_, _, ⟨T12, L12, k12, n12⟩, -, X12, ⟨Lc12, hQ12, l12, y12, z12⟩, st12⟩ := Jvm.LawKit.callS X9 hx (y := (⟨"java/lang/Math", "min", "(II)I"⟩ : MethodName)) hown (mvT hZ (hw _ (List.mem_of_getElem? (i := 74) rfl))) (mvT hZ (hw _ (List.mem_of_getElem? (i := 75) rfl))) (mvT hZ (hw _ (List.mem_of_getElem? (i := 76) rfl))) (mvT hZ (hw _ (List.mem_of_getElem? (i := 77) rfl))) (by decide) (backOf (W := 1) (rmMn l Z a0 hw [] ((2 : Int32) * (4 : Int32)) (4096 : Int32) h0 n0 Z0) hZ (hw _ (List.mem_of_getElem? (i := 77) rfl)) (hw _ (List.mem_of_getElem? (i := 76) rfl)) (by decide) (by decide)) (g := (mkF m 90 #[.val (.ref a), .val (.ref vv), .val (.int (0 : Int32)), .val (.int (4 : Int32)), .val (.ref ea)] [(.int (4096 : Int32)), (.int ((2 : Int32) * (4 : Int32))), (.ref ea)])) rfl (by rw [hml]; rfl) (argsL := [(.int ((2 : Int32) * (4 : Int32))), (.int (4096 : Int32))]) (rest := [(.ref ea)]) (lenOf pd_2 rfl) rfl (by show 2 * 0 + _ ≤ _; exact Nat.le_of_eq rfl) (hb hby d_prog_28_m_2_90) (fun _ _ => ⟨rfl, e9, (by decide : 0 + 0 ≤ _), (by decide : 0 + 0 ≤ _)⟩)
  dsimp only [Pt.U, Pt.locs, Pt.cells, Pt.slots] at X12 l12 y12 z12 st12 hQ12
  subst l12 y12 z12
  obtain ⟨hv12, N12q, r12⟩ := hQ12
  rw [show (if (4096 : Int32) < ((2 : Int32) * (4 : Int32)) then (4096 : Int32) else ((2 : Int32) * (4 : Int32))) = (8 : Int32) from by decide] at hv12
  subst hv12
  have N12 := Fr.app N0 N12q
  have hel13 : ∀ i, ([.ref xe0, .ref xe1, .ref xe2, .ref xe3] : List Value).getD i .null = .null ∨ ∃ b : Addr, ([.ref xe0, .ref xe1, .ref xe2, .ref xe3] : List Value).getD i .null = .ref b ∧ Ins Z h0 b "java/lang/Object" true := fun i => by
    match i with
    | 0 => exact Or.inr ⟨_, rfl, (Ins.of_exa hxe0 (hw _ (List.mem_of_getElem? (i := 52) rfl)))⟩
    | 1 => exact Or.inr ⟨_, rfl, (Ins.of_exa hxe1 (hw _ (List.mem_of_getElem? (i := 52) rfl)))⟩
    | 2 => exact Or.inr ⟨_, rfl, (Ins.of_exa hxe2 (hw _ (List.mem_of_getElem? (i := 52) rfl)))⟩
    | 3 => exact Or.inr ⟨_, rfl, (Ins.of_exa hxe3 (hw _ (List.mem_of_getElem? (i := 52) rfl)))⟩
    | _ + 4 => exact Or.inl rfl
  obtain ⟨T13, h13, k13, X13, e13, E13, A13, EX13, O13, st13⟩ := own_copyOf X12 hx hZ hw hown (hw _ (List.mem_of_getElem? (i := 78) rfl)) r12 hM hVe hXe hO (Nat.le_of_ble_eq_true rfl) hel13 (n := (8 : Int32)) (by decide) (K := 8) (by decide) (by decide) (by decide) (g := (mkF m 93 #[.val (.ref a), .val (.ref vv), .val (.int (0 : Int32)), .val (.int (4 : Int32)), .val (.ref ea)] [(.int (8 : Int32)), (.ref ea)])) rfl (by rw [hml]; rfl) rfl (hb hby d_prog_28_m_2_93) (by decide) (W := 0) (by show 2 * 0 + _ ≤ _; exact Nat.le_of_eq rfl) (by decide) (by decide) (by decide)
  obtain ⟨b13, g13⟩ : ∃ z, z = h0.size := ⟨_, rfl⟩
  rw [← g13] at A13 EX13 st13
  have ne_a_b13 : a ≠ b13 := Nat.ne_of_lt (Nat.lt_of_lt_of_le (hE).lt (Nat.le_of_eq g13.symm))
  have ne_ch_b13 : ch ≠ b13 := Nat.ne_of_lt (Nat.lt_of_lt_of_le (hVc).lt (Nat.le_of_eq g13.symm))
  have ne_ea_b13 : ea ≠ b13 := Nat.ne_of_lt (Nat.lt_of_lt_of_le (hVe).lt (Nat.le_of_eq g13.symm))
  have gb_b13 : n0 ≤ b13 := Nat.le_trans Z0 (Nat.le_of_eq g13.symm)
  have sz_b13 : h0.size ≤ b13 := Nat.le_trans K0.1 (Nat.le_of_eq g13.symm)
  have Z13 : n0 ≤ h13.size := Nat.le_trans Z0 E13.1
  have K13 : Keep h0 h13 [a, ch, ea] := K0.ext E13
  have V13 : Arv Z h13 b13 k13 (.object "java/lang/Object") (8 : Int32) [(.ref xe0), (.ref xe1), (.ref xe2), (.ref xe3), .null, .null, .null, .null] .null := A13.pad (pad_rep [(.ref xe0), (.ref xe1), (.ref xe2), (.ref xe3)] .null 4)
  have f14 := (hFc.ext E13)
  obtain ⟨T15, X15, e15, st15⟩ := getF X13 hx hZ hown (host := "") (Or.inl (hw _ (List.mem_of_getElem? (i := 38) rfl))) Via.refl e13 f14 (g := (mkF m 99 #[.val (.ref a), .val (.ref vv), .val (.int (0 : Int32)), .val (.int (4 : Int32)), .val (.ref b13)] [(.ref a)])) rfl rfl (hb hby d_prog_28_m_2_99)
  have f17 := (hVc.ext E13)
  obtain ⟨cl16, Ar16, q16, Sz16, Nn16, Ha16, Ga16⟩ := id f17
  have hin16 : ¬ ((0 : Int32) < 0 ∨ cl16.slots.size ≤ ((0 : Int32)).toNatClampNeg) := inb_of Sz16 ⟨by decide, by decide⟩
  obtain ⟨T16, h16, X16, e16, W16, st16⟩ := stR X15 hx hZ e15 Ar16 (j := (0 : Int32)) hin16 rfl (Sto.ofVA Ar16 q16 hOA (Ins.self EX13)) (g := (mkF m 105 #[.val (.ref a), .val (.ref vv), .val (.int (0 : Int32)), .val (.int (4 : Int32)), .val (.ref b13)] [(.ref b13), (.int (0 : Int32)), (.ref ch)])) rfl rfl (hb hby d_prog_28_m_2_105)
  have V16 : Arv Z h16 ch kc (.array (.object "java/lang/Object")) (1 : Int32) [(.ref b13)] .null := Arv.set Ar16 q16 Sz16 Nn16 Ha16 Ga16 rfl W16 0 rfl (Nat.le_of_ble_eq_true rfl)
  have Z16 : n0 ≤ h16.size := Nat.le_trans Z13 (Nat.le_of_eq W16.size.symm)
  have N16 := Fr.snoc X16 N12 hgc
  have K16 : Keep h0 h16 [a, ch, ea] := K13.wr W16 (Or.inl (List.mem_of_getElem? (i := 1) rfl))
  have f19 := (V13.other W16 (Ne.symm ne_ch_b13))
  obtain ⟨cl18, Ar18, q18, Sz18, Nn18, Ha18, Ga18⟩ := id f19
  have hin18 : ¬ ((4 : Int32) < 0 ∨ cl18.slots.size ≤ ((4 : Int32)).toNatClampNeg) := inb_of Sz18 ⟨by decide, by decide⟩
  have f20 := ((hv.ext E13).wr W16)
  obtain ⟨T18, h18, X18, e18, W18, st18⟩ := stR X16 hx hZ e16 Ar18 (j := (4 : Int32)) hin18 rfl (Sto.ofV Ar18 q18 O13 (Ins.of_exa f20 (hw _ (List.mem_of_getElem? (i := 52) rfl)))) (g := (mkF m 110 #[.val (.ref a), .val (.ref vv), .val (.int (0 : Int32)), .val (.int (4 : Int32)), .val (.ref b13)] [(.ref vv), (.int (4 : Int32)), (.ref b13)])) rfl rfl (hb hby d_prog_28_m_2_110)
  have V18 : Arv Z h18 b13 k13 (.object "java/lang/Object") (8 : Int32) [(.ref xe0), (.ref xe1), (.ref xe2), (.ref xe3), (.ref vv), .null, .null, .null] .null := Arv.set Ar18 q18 Sz18 Nn18 Ha18 Ga18 rfl W18 4 rfl (Nat.le_of_ble_eq_true rfl)
  have Z18 : n0 ≤ h18.size := Nat.le_trans Z16 (Nat.le_of_eq W18.size.symm)
  have N18 := Fr.snoc X18 N16 gb_b13
  have K18 : Keep h0 h18 [a, ch, ea] := K16.wr W18 (Or.inr sz_b13)
  have f21 := (((hFs.ext E13).other W16 (Or.inl hn1)).other W18 (Or.inl ne_a_b13))
  obtain ⟨T22, X22, e22, st22⟩ := getF X18 hx hZ hown (host := "") (Or.inl (hw _ (List.mem_of_getElem? (i := 45) rfl))) Via.refl e18 f21 (g := (mkF m 113 #[.val (.ref a), .val (.ref vv), .val (.int (0 : Int32)), .val (.int (4 : Int32)), .val (.ref b13)] [(.ref a), (.ref a)])) rfl rfl (hb hby d_prog_28_m_2_113)
  have f24 := (((hE.ext E13).wr W16).wr W18)
  obtain ⟨T23, h23, X23, e23, W23, st23⟩ := putF X22 hx hZ hown (host := "") (Or.inl (hw _ (List.mem_of_getElem? (i := 45) rfl))) Via.refl e22 f21 f24 (Or.inl (hw _ (List.mem_of_getElem? (i := 46) rfl))) (hw _ (List.mem_of_getElem? (i := 12) rfl)) (ty := .int) (by decide) rfl rfl (g := (mkF m 118 #[.val (.ref a), .val (.ref vv), .val (.int (0 : Int32)), .val (.int (4 : Int32)), .val (.ref b13)] [(.int ((4 : Int32) + (1 : Int32))), (.ref a)])) rfl rfl (hb hby d_prog_28_m_2_118)
  have Z23 : n0 ≤ h23.size := Nat.le_trans Z18 (Nat.le_of_eq W23.size.symm)
  have N23 := Fr.snoc X23 N18 hga
  have K23 : Keep h0 h23 [a, ch, ea] := K18.wr W23 (Or.inl (List.mem_of_getElem? (i := 0) rfl))
  have Fw23 := f21.same W23
  have f25 := ((((hFm.ext E13).other W16 (Or.inl hn1)).other W18 (Or.inl ne_a_b13)).other W23 (Or.inr (slot_ne (Or.inl (hw _ (List.mem_of_getElem? (i := 32) rfl))) (Or.inl (hw _ (List.mem_of_getElem? (i := 46) rfl))) (by decide) (t := .int) (t' := .int) (by decide) (by decide))))
  obtain ⟨T26, X26, e26, st26⟩ := getF X23 hx hZ hown (host := "") (Or.inl (hw _ (List.mem_of_getElem? (i := 53) rfl))) (Via.of (hw _ (List.mem_of_getElem? (i := 54) rfl))) e23 f25 (g := (mkF m 123 #[.val (.ref a), .val (.ref vv), .val (.int (0 : Int32)), .val (.int (4 : Int32)), .val (.ref b13)] [(.ref a), (.ref a)])) rfl rfl (hb hby d_prog_28_m_2_123)
  have f28 := (f24.wr W23)
  obtain ⟨T27, h27, X27, e27, W27, st27⟩ := putF X26 hx hZ hown (host := "") (Or.inl (hw _ (List.mem_of_getElem? (i := 53) rfl))) (Via.of (hw _ (List.mem_of_getElem? (i := 54) rfl))) e26 f25 f28 (Or.inl (hw _ (List.mem_of_getElem? (i := 32) rfl))) (hw _ (List.mem_of_getElem? (i := 12) rfl)) (ty := .int) (by decide) rfl rfl (g := (mkF m 128 #[.val (.ref a), .val (.ref vv), .val (.int (0 : Int32)), .val (.int (4 : Int32)), .val (.ref b13)] [(.int (mc + (1 : Int32))), (.ref a)])) rfl rfl (hb hby d_prog_28_m_2_128)
  have Z27 : n0 ≤ h27.size := Nat.le_trans Z23 (Nat.le_of_eq W27.size.symm)
  have N27 := Fr.snoc X27 N23 hga
  have K27 : Keep h0 h27 [a, ch, ea] := K23.wr W27 (Or.inl (List.mem_of_getElem? (i := 0) rfl))
  have Fw27 := f25.same W27
  obtain ⟨fs, hr, hrun, hended, hW, hsame⟩ := X27.leave (v := some (.int (1 : Int32))) (fun h => by rw [Bd.returns] at h; cases h)
  refine ⟨_, _, pre0 _ (R2 _ (R3 _ (R5 _ (R6 _ ?_)))), hrun, hended, _, _, rfl, ?_, ⟨_, rfl⟩, hW, hsame.mono (by decide) (by decide)⟩
  · show Steps p.tables e below (T4.setTop (mkF m 17 #[.val (.ref a), .val (.ref vv), .val (.int (0 : Int32)), .val (.int (4 : Int32)), .unset] [])) _
    refine XS.iloadN X4.here hx rfl (hb hby d_prog_28_m_2_17) rfl ?_
    show Steps p.tables e below (T4.setTop (mkF m 18 #[.val (.ref a), .val (.ref vv), .val (.int (0 : Int32)), .val (.int (4 : Int32)), .unset] [(.int (0 : Int32))])) _
    refine XS.aloadN X4.here hx rfl (hb hby d_prog_28_m_2_18) rfl rfl ?_
    show Steps p.tables e below (T4.setTop (mkF m 19 #[.val (.ref a), .val (.ref vv), .val (.int (0 : Int32)), .val (.int (4 : Int32)), .unset] [(.ref a), (.int (0 : Int32))])) _
    refine st7 _ ?_
    show Steps p.tables e below (T7.setTop (mkF m 22 #[.val (.ref a), .val (.ref vv), .val (.int (0 : Int32)), .val (.int (4 : Int32)), .unset] [(.ref ch), (.int (0 : Int32))])) _
    refine X7.arraylength hx (by rw [e7]; exact Ar8.1) (State.isArrayOf_alike hZ.alike Ar8.2.1) (g := (mkF m 22 #[.val (.ref a), .val (.ref vv), .val (.int (0 : Int32)), .val (.int (4 : Int32)), .unset] [(.ref ch), (.int (0 : Int32))])) rfl rfl (hb hby d_prog_28_m_2_22) _ ?_
    rw [len_of Sz8 Nn8]
    show Steps p.tables e below (T7.setTop (mkF m 23 #[.val (.ref a), .val (.ref vv), .val (.int (0 : Int32)), .val (.int (4 : Int32)), .unset] [(.int (1 : Int32)), (.int (0 : Int32))])) _
    refine XS.icmpYes X7.here hx rfl (pc0 := 23) (pc' := 43) rfl (hb hby d_prog_28_m_2_23) rfl (feq (by decide : ¬ ((0 : Int32) = (1 : Int32)))).2 (by decide) (by decide) ?_
    show Steps p.tables e below (T7.setTop (mkF m 43 #[.val (.ref a), .val (.ref vv), .val (.int (0 : Int32)), .val (.int (4 : Int32)), .unset] [])) _
    refine XS.aloadN X7.here hx rfl (hb hby d_prog_28_m_2_43) rfl rfl ?_
    show Steps p.tables e below (T7.setTop (mkF m 44 #[.val (.ref a), .val (.ref vv), .val (.int (0 : Int32)), .val (.int (4 : Int32)), .unset] [(.ref a)])) _
    refine st9 _ ?_
    show Steps p.tables e below (T9.setTop (mkF m 47 #[.val (.ref a), .val (.ref vv), .val (.int (0 : Int32)), .val (.int (4 : Int32)), .unset] [(.ref ch)])) _
    refine XS.iloadN X9.here hx rfl (hb hby d_prog_28_m_2_47) rfl ?_
    show Steps p.tables e below (T9.setTop (mkF m 48 #[.val (.ref a), .val (.ref vv), .val (.int (0 : Int32)), .val (.int (4 : Int32)), .unset] [(.int (0 : Int32)), (.ref ch)])) _
    refine X9.aaload hx (j := (0 : Int32)) (v := (.ref ea)) (by rw [e9]; exact Ar10.1) (State.isArrayOf_alike hZ.alike Ar10.2.1) rfl Ar10.2.2 hin10 hat10 (g := (mkF m 48 #[.val (.ref a), .val (.ref vv), .val (.int (0 : Int32)), .val (.int (4 : Int32)), .unset] [(.int (0 : Int32)), (.ref ch)])) rfl rfl (hb hby d_prog_28_m_2_48) _ ?_
    show Steps p.tables e below (T9.setTop (mkF m 49 #[.val (.ref a), .val (.ref vv), .val (.int (0 : Int32)), .val (.int (4 : Int32)), .unset] [(.ref ea)])) _
    refine XS.astore X9.here hx rfl (hb hby d_prog_28_m_2_49) rfl rfl (l' := #[.val (.ref a), .val (.ref vv), .val (.int (0 : Int32)), .val (.int (4 : Int32)), .val (.ref ea)]) rfl ?_
    show Steps p.tables e below (T9.setTop (mkF m 51 #[.val (.ref a), .val (.ref vv), .val (.int (0 : Int32)), .val (.int (4 : Int32)), .val (.ref ea)] [])) _
    refine XS.aload X9.here hx rfl (hb hby d_prog_28_m_2_51) rfl rfl ?_
    show Steps p.tables e below (T9.setTop (mkF m 53 #[.val (.ref a), .val (.ref vv), .val (.int (0 : Int32)), .val (.int (4 : Int32)), .val (.ref ea)] [(.ref ea)])) _
    refine XS.ifnonnullYes X9.here hx rfl (pc0 := 53) (pc' := 75) rfl (hb hby d_prog_28_m_2_53) rfl (by decide) (by decide) ?_
    show Steps p.tables e below (T9.setTop (mkF m 75 #[.val (.ref a), .val (.ref vv), .val (.int (0 : Int32)), .val (.int (4 : Int32)), .val (.ref ea)] [])) _
    refine XS.iloadN X9.here hx rfl (hb hby d_prog_28_m_2_75) rfl ?_
    show Steps p.tables e below (T9.setTop (mkF m 76 #[.val (.ref a), .val (.ref vv), .val (.int (0 : Int32)), .val (.int (4 : Int32)), .val (.ref ea)] [(.int (4 : Int32))])) _
    refine XS.aload X9.here hx rfl (hb hby d_prog_28_m_2_76) rfl rfl ?_
    show Steps p.tables e below (T9.setTop (mkF m 78 #[.val (.ref a), .val (.ref vv), .val (.int (0 : Int32)), .val (.int (4 : Int32)), .val (.ref ea)] [(.ref ea), (.int (4 : Int32))])) _
    refine X9.arraylength hx (by rw [e9]; exact Ar11.1) (State.isArrayOf_alike hZ.alike Ar11.2.1) (g := (mkF m 78 #[.val (.ref a), .val (.ref vv), .val (.int (0 : Int32)), .val (.int (4 : Int32)), .val (.ref ea)] [(.ref ea), (.int (4 : Int32))])) rfl rfl (hb hby d_prog_28_m_2_78) _ ?_
    rw [len_of Sz11 Nn11]
    show Steps p.tables e below (T9.setTop (mkF m 79 #[.val (.ref a), .val (.ref vv), .val (.int (0 : Int32)), .val (.int (4 : Int32)), .val (.ref ea)] [(.int (4 : Int32)), (.int (4 : Int32))])) _
    refine XS.icmpNo X9.here hx rfl (hb hby d_prog_28_m_2_79) rfl (teq (by decide : (4 : Int32) = (4 : Int32))).2 ?_
    show Steps p.tables e below (T9.setTop (mkF m 82 #[.val (.ref a), .val (.ref vv), .val (.int (0 : Int32)), .val (.int (4 : Int32)), .val (.ref ea)] [])) _
    refine XS.aload X9.here hx rfl (hb hby d_prog_28_m_2_82) rfl rfl ?_
    show Steps p.tables e below (T9.setTop (mkF m 84 #[.val (.ref a), .val (.ref vv), .val (.int (0 : Int32)), .val (.int (4 : Int32)), .val (.ref ea)] [(.ref ea)])) _
    refine XS.iconst X9.here hx rfl (hb hby d_prog_28_m_2_84) ?_
    show Steps p.tables e below (T9.setTop (mkF m 85 #[.val (.ref a), .val (.ref vv), .val (.int (0 : Int32)), .val (.int (4 : Int32)), .val (.ref ea)] [(.int (2 : Int32)), (.ref ea)])) _
    refine XS.iloadN X9.here hx rfl (hb hby d_prog_28_m_2_85) rfl ?_
    show Steps p.tables e below (T9.setTop (mkF m 86 #[.val (.ref a), .val (.ref vv), .val (.int (0 : Int32)), .val (.int (4 : Int32)), .val (.ref ea)] [(.int (4 : Int32)), (.int (2 : Int32)), (.ref ea)])) _
    refine XS.imul X9.here hx rfl (hb hby d_prog_28_m_2_86) rfl ?_
    show Steps p.tables e below (T9.setTop (mkF m 87 #[.val (.ref a), .val (.ref vv), .val (.int (0 : Int32)), .val (.int (4 : Int32)), .val (.ref ea)] [(.int ((2 : Int32) * (4 : Int32))), (.ref ea)])) _
    refine XS.sipush X9.here hx rfl (hb hby d_prog_28_m_2_87) ?_
    show Steps p.tables e below (T9.setTop (mkF m 90 #[.val (.ref a), .val (.ref vv), .val (.int (0 : Int32)), .val (.int (4 : Int32)), .val (.ref ea)] [(.int (4096 : Int32)), (.int ((2 : Int32) * (4 : Int32))), (.ref ea)])) _
    refine st12 _ ?_
    show Steps p.tables e below (T12.setTop (mkF m 93 #[.val (.ref a), .val (.ref vv), .val (.int (0 : Int32)), .val (.int (4 : Int32)), .val (.ref ea)] [(.int (8 : Int32)), (.ref ea)])) _
    refine st13 _ ?_
    show Steps p.tables e below (T13.setTop (mkF m 96 #[.val (.ref a), .val (.ref vv), .val (.int (0 : Int32)), .val (.int (4 : Int32)), .val (.ref ea)] [(.ref b13)])) _
    refine XS.astore X13.here hx rfl (hb hby d_prog_28_m_2_96) rfl rfl (l' := #[.val (.ref a), .val (.ref vv), .val (.int (0 : Int32)), .val (.int (4 : Int32)), .val (.ref b13)]) rfl ?_
    show Steps p.tables e below (T13.setTop (mkF m 98 #[.val (.ref a), .val (.ref vv), .val (.int (0 : Int32)), .val (.int (4 : Int32)), .val (.ref b13)] [])) _
    refine XS.aloadN X13.here hx rfl (hb hby d_prog_28_m_2_98) rfl rfl ?_
    show Steps p.tables e below (T13.setTop (mkF m 99 #[.val (.ref a), .val (.ref vv), .val (.int (0 : Int32)), .val (.int (4 : Int32)), .val (.ref b13)] [(.ref a)])) _
    refine st15 _ ?_
    show Steps p.tables e below (T15.setTop (mkF m 102 #[.val (.ref a), .val (.ref vv), .val (.int (0 : Int32)), .val (.int (4 : Int32)), .val (.ref b13)] [(.ref ch)])) _
    refine XS.iloadN X15.here hx rfl (hb hby d_prog_28_m_2_102) rfl ?_
    show Steps p.tables e below (T15.setTop (mkF m 103 #[.val (.ref a), .val (.ref vv), .val (.int (0 : Int32)), .val (.int (4 : Int32)), .val (.ref b13)] [(.int (0 : Int32)), (.ref ch)])) _
    refine XS.aload X15.here hx rfl (hb hby d_prog_28_m_2_103) rfl rfl ?_
    show Steps p.tables e below (T15.setTop (mkF m 105 #[.val (.ref a), .val (.ref vv), .val (.int (0 : Int32)), .val (.int (4 : Int32)), .val (.ref b13)] [(.ref b13), (.int (0 : Int32)), (.ref ch)])) _
    refine st16 _ ?_
    show Steps p.tables e below (T16.setTop (mkF m 106 #[.val (.ref a), .val (.ref vv), .val (.int (0 : Int32)), .val (.int (4 : Int32)), .val (.ref b13)] [])) _
    refine XS.aload X16.here hx rfl (hb hby d_prog_28_m_2_106) rfl rfl ?_
    show Steps p.tables e below (T16.setTop (mkF m 108 #[.val (.ref a), .val (.ref vv), .val (.int (0 : Int32)), .val (.int (4 : Int32)), .val (.ref b13)] [(.ref b13)])) _
    refine XS.iloadN X16.here hx rfl (hb hby d_prog_28_m_2_108) rfl ?_
    show Steps p.tables e below (T16.setTop (mkF m 109 #[.val (.ref a), .val (.ref vv), .val (.int (0 : Int32)), .val (.int (4 : Int32)), .val (.ref b13)] [(.int (4 : Int32)), (.ref b13)])) _
    refine XS.aloadN X16.here hx rfl (hb hby d_prog_28_m_2_109) rfl rfl ?_
    show Steps p.tables e below (T16.setTop (mkF m 110 #[.val (.ref a), .val (.ref vv), .val (.int (0 : Int32)), .val (.int (4 : Int32)), .val (.ref b13)] [(.ref vv), (.int (4 : Int32)), (.ref b13)])) _
    refine st18 _ ?_
    show Steps p.tables e below (T18.setTop (mkF m 111 #[.val (.ref a), .val (.ref vv), .val (.int (0 : Int32)), .val (.int (4 : Int32)), .val (.ref b13)] [])) _
    refine XS.aloadN X18.here hx rfl (hb hby d_prog_28_m_2_111) rfl rfl ?_
    show Steps p.tables e below (T18.setTop (mkF m 112 #[.val (.ref a), .val (.ref vv), .val (.int (0 : Int32)), .val (.int (4 : Int32)), .val (.ref b13)] [(.ref a)])) _
    refine XS.dup X18.here hx rfl (hb hby d_prog_28_m_2_112) rfl rfl ?_
    show Steps p.tables e below (T18.setTop (mkF m 113 #[.val (.ref a), .val (.ref vv), .val (.int (0 : Int32)), .val (.int (4 : Int32)), .val (.ref b13)] [(.ref a), (.ref a)])) _
    refine st22 _ ?_
    show Steps p.tables e below (T22.setTop (mkF m 116 #[.val (.ref a), .val (.ref vv), .val (.int (0 : Int32)), .val (.int (4 : Int32)), .val (.ref b13)] [(.int (4 : Int32)), (.ref a)])) _
    refine XS.iconst X22.here hx rfl (hb hby d_prog_28_m_2_116) ?_
    show Steps p.tables e below (T22.setTop (mkF m 117 #[.val (.ref a), .val (.ref vv), .val (.int (0 : Int32)), .val (.int (4 : Int32)), .val (.ref b13)] [(.int (1 : Int32)), (.int (4 : Int32)), (.ref a)])) _
    refine XS.iadd X22.here hx rfl (hb hby d_prog_28_m_2_117) rfl ?_
    show Steps p.tables e below (T22.setTop (mkF m 118 #[.val (.ref a), .val (.ref vv), .val (.int (0 : Int32)), .val (.int (4 : Int32)), .val (.ref b13)] [(.int ((4 : Int32) + (1 : Int32))), (.ref a)])) _
    refine st23 _ ?_
    show Steps p.tables e below (T23.setTop (mkF m 121 #[.val (.ref a), .val (.ref vv), .val (.int (0 : Int32)), .val (.int (4 : Int32)), .val (.ref b13)] [])) _
    refine XS.aloadN X23.here hx rfl (hb hby d_prog_28_m_2_121) rfl rfl ?_
    show Steps p.tables e below (T23.setTop (mkF m 122 #[.val (.ref a), .val (.ref vv), .val (.int (0 : Int32)), .val (.int (4 : Int32)), .val (.ref b13)] [(.ref a)])) _
    refine XS.dup X23.here hx rfl (hb hby d_prog_28_m_2_122) rfl rfl ?_
    show Steps p.tables e below (T23.setTop (mkF m 123 #[.val (.ref a), .val (.ref vv), .val (.int (0 : Int32)), .val (.int (4 : Int32)), .val (.ref b13)] [(.ref a), (.ref a)])) _
    refine st26 _ ?_
    show Steps p.tables e below (T26.setTop (mkF m 126 #[.val (.ref a), .val (.ref vv), .val (.int (0 : Int32)), .val (.int (4 : Int32)), .val (.ref b13)] [(.int mc), (.ref a)])) _
    refine XS.iconst X26.here hx rfl (hb hby d_prog_28_m_2_126) ?_
    show Steps p.tables e below (T26.setTop (mkF m 127 #[.val (.ref a), .val (.ref vv), .val (.int (0 : Int32)), .val (.int (4 : Int32)), .val (.ref b13)] [(.int (1 : Int32)), (.int mc), (.ref a)])) _
    refine XS.iadd X26.here hx rfl (hb hby d_prog_28_m_2_127) rfl ?_
    show Steps p.tables e below (T26.setTop (mkF m 128 #[.val (.ref a), .val (.ref vv), .val (.int (0 : Int32)), .val (.int (4 : Int32)), .val (.ref b13)] [(.int (mc + (1 : Int32))), (.ref a)])) _
    refine st27 _ ?_
    show Steps p.tables e below (T27.setTop (mkF m 131 #[.val (.ref a), .val (.ref vv), .val (.int (0 : Int32)), .val (.int (4 : Int32)), .val (.ref b13)] [])) _
    refine XS.iconst X27.here hx rfl (hb hby d_prog_28_m_2_131) ?_
    show Steps p.tables e below (T27.setTop (mkF m 132 #[.val (.ref a), .val (.ref vv), .val (.int (0 : Int32)), .val (.int (4 : Int32)), .val (.ref b13)] [(.int (1 : Int32))])) _
    exact retN X27 hx (t := .boolean) Bd.returns (by simp) (hb hby d_prog_28_m_2_132) hr
  · show QGr Z a ch ea kc [.ref xe0, .ref xe1, .ref xe2, .ref xe3, .ref vv, .null, .null, .null] h0 n0 _ T27.heap _
    rw [e27]
    have f29 := (f28.wr W27)
    have f30 := (Fw23.other W27 (Or.inr (slot_ne (Or.inl (hw _ (List.mem_of_getElem? (i := 46) rfl))) (Or.inl (hw _ (List.mem_of_getElem? (i := 32) rfl))) (by decide) (t := .int) (t' := .int) (by decide) (by decide))))
    have f31 := ((((f14.other W16 (Or.inl hn1)).other W18 (Or.inl ne_a_b13)).other W23 (Or.inr (slot_ne (Or.inl (hw _ (List.mem_of_getElem? (i := 39) rfl))) (Or.inl (hw _ (List.mem_of_getElem? (i := 46) rfl))) (by decide) (t := (.array (.array (.object "java/lang/Object")))) (t' := .int) (by decide) (by decide)))).other W27 (Or.inr (slot_ne (Or.inl (hw _ (List.mem_of_getElem? (i := 39) rfl))) (Or.inl (hw _ (List.mem_of_getElem? (i := 32) rfl))) (by decide) (t := (.array (.array (.object "java/lang/Object")))) (t' := .int) (by decide) (by decide))))
    have f32 := (((V16.other W18 ne_ch_b13).other W23 (Ne.symm hn1)).other W27 (Ne.symm hn1))
    have f33 := ((V18.other W23 (Ne.symm ne_a_b13)).other W27 (Ne.symm ne_a_b13))
    have f34 := ((((EX13.wr W16).wr W18).wr W23).wr W27)
    exact ⟨rfl, N27, K27, b13, _, _, sz_b13, ⟨f29, f30, f31, Fw27, f32, f33, f34, O13, hOA, hga, hgc, gb_b13, hn1, ne_a_b13, ne_ch_b13⟩⟩
theorem ef_rmRl (m : MethodId) (x0 : Addr) : entryFrame m #[(.ref x0)] 5 = mkF m 0 #[.val (.ref x0), .unset, .unset, .unset, .unset] [] := by first | (simp [entryFrame, mkF, argsToLocals, Value.category]; done) | rfl
set_option maxRecDepth 65536 in
set_option maxHeartbeats 40000000 in
theorem rmRl (l : Launch) (Z : State) (a0 : Array Value) (hw : ∀ d ∈ tables_1, d.before a0 Z = true) (ws : List Jvm.Cond) (a ch ea : Addr) (kc ke : ClassId) (n mc cap j : Int32) (vs : List Value) (i : Nat) (b : Addr) (h0 : Heap) (n0 : Nat) (Z0 : n0 ≤ h0.size) (hC : CLs Z n0 h0 a ch ea kc ke n mc cap vs) (hnz : ¬ n = (0 : Int32)) (hs0 : (n - (1 : Int32)) = j) (hs1 : ((j.toUInt32 >>> ((12 : Int32) &&& 31).toUInt32).toInt32) = (0 : Int32)) (hs2 : (j &&& (4095 : Int32)) = j) (hlo : ¬ j < 0 ∧ j < cap) (hi : j.toNatClampNeg = i) (hl : i < vs.length) (hb1 : vs.getD j.toNatClampNeg .null = .ref b) :
    MetFree l (⟨"com/example/anchored_threads/anchoredthreads/internal/ChunkedList", "removeLast", "()Ljava/lang/Object;"⟩ : MethodName) (head1 (Jvm.Cond.code (⟨"com/example/anchored_threads/anchoredthreads/internal/ChunkedList", "removeLast", "()Ljava/lang/Object;"⟩ : MethodName) prog_28_method_3_code 5 (some (.object "java/lang/Object")) :: ws) ({ frames := 0, cells := 0, slots := 0, locals := 0 } : Room)) (fun aa_ UU_ => aa_ = #[(.ref a)] ∧ Z.Warmed39 UU_.vm ∧ UU_.heap = h0) (fun _ _ _ _ _ => True) (fun _ UU_ oo_ UE_ => ∃ vv_ LL_, oo_ = .returned vv_ ∧ QRl Z a ch ea kc ke j cap (vs.set i .null) b h0 n0 vv_ UE_.heap LL_ ∧ FrameEnd UU_ oo_ UE_ LL_ ({ frames := 0, cells := 0, slots := 0, locals := 0 } : Room).cells ({ frames := 0, cells := 0, slots := 0, locals := 0 } : Room).slots) := by
  refine MetFree.of_bodySF (plainFor_of_name pn_2) hisR ?_
  intro p e s m args below meth c s₁ Bd hml0 hP hK
  obtain ⟨rfl, hZ, hh⟩ := hP
  have hx := Bd.exec
  have hby := Bd.bytes
  have hml : c.maxLocals = 5 := hml0
  have hown : s.vm.findClass "com/example/anchored_threads/anchoredthreads/internal/ChunkedList" = some m.cls := findClass_of_methodNamed Bd.named
  have hnm := (name_of_methodNamed Bd.named Bd.method).1
  have X0 : Stand p l e ({ frames := 0, cells := 0, slots := 0, locals := 0 } : Room) s m #[(.ref a)] below meth c s₁ [] 0 0 := Stand.of_body Bd
  have e0 : s₁.heap = h0 := by rw [← hh, Bd.state]; rfl
  have N0 := Fr.nil n0
  have K0 : Keep h0 h0 [a, ch, ea] := Keep.refl h0 _
  have pre0 : ∀ tg, Steps p.tables e below (s₁.setTop (mkF m 0 #[.val (.ref a), .unset, .unset, .unset, .unset] [])) tg → Steps p.tables e below (s₁.setTop (entryFrame m #[(.ref a)] 5)) tg := fun tg kq_ => castTop (ef_rmRl m a) kq_
  obtain ⟨hE, hFs, hFc, hFm, hVc, hVe, hXe, hO, hOA, hga, hgc, hge, hn1, hn2, hn3⟩ := hC
  obtain ⟨T1, X1, e1, st1⟩ := getF X0 hx hZ hown (host := "") (Or.inl (hw _ (List.mem_of_getElem? (i := 45) rfl))) Via.refl e0 hFs (g := (mkF m 1 #[.val (.ref a), .unset, .unset, .unset, .unset] [(.ref a)])) rfl rfl (hb hby d_prog_28_m_3_1)
  obtain ⟨T2, X2, e2, st2⟩ := getF X1 hx hZ hown (host := "") (Or.inl (hw _ (List.mem_of_getElem? (i := 45) rfl))) Via.refl e1 hFs (g := (mkF m 18 #[.val (.ref a), .unset, .unset, .unset, .unset] [(.ref a)])) rfl rfl (hb hby d_prog_28_m_3_18)
  have R3 : ∀ tg, Steps p.tables e below (T2.setTop (mkF m 23 #[.val (.ref a), .unset, .unset, .unset, .unset] [(.int (n - (1 : Int32)))])) tg → Steps p.tables e below (s₁.setTop (mkF m 0 #[.val (.ref a), .unset, .unset, .unset, .unset] [])) tg := by
    intro tg kt
    refine XS.aloadN X0.here hx rfl (hb hby d_prog_28_m_3_0) rfl rfl ?_
    show Steps p.tables e below (s₁.setTop (mkF m 1 #[.val (.ref a), .unset, .unset, .unset, .unset] [(.ref a)])) _
    refine st1 _ ?_
    show Steps p.tables e below (T1.setTop (mkF m 4 #[.val (.ref a), .unset, .unset, .unset, .unset] [(.int n)])) _
    refine XS.ifYes X1.here hx rfl (pc0 := 4) (pc' := 17) rfl (hb hby d_prog_28_m_3_4) rfl ((if0 _ _).trans (feq hnz).2) (by decide) (by decide) ?_
    show Steps p.tables e below (T1.setTop (mkF m 17 #[.val (.ref a), .unset, .unset, .unset, .unset] [])) _
    refine XS.aloadN X1.here hx rfl (hb hby d_prog_28_m_3_17) rfl rfl ?_
    show Steps p.tables e below (T1.setTop (mkF m 18 #[.val (.ref a), .unset, .unset, .unset, .unset] [(.ref a)])) _
    refine st2 _ ?_
    show Steps p.tables e below (T2.setTop (mkF m 21 #[.val (.ref a), .unset, .unset, .unset, .unset] [(.int n)])) _
    refine XS.iconst X2.here hx rfl (hb hby d_prog_28_m_3_21) ?_
    show Steps p.tables e below (T2.setTop (mkF m 22 #[.val (.ref a), .unset, .unset, .unset, .unset] [(.int (1 : Int32)), (.int n)])) _
    refine XS.isub X2.here hx rfl (hb hby d_prog_28_m_3_22) rfl ?_
    show Steps p.tables e below (T2.setTop (mkF m 23 #[.val (.ref a), .unset, .unset, .unset, .unset] [(.int (n - (1 : Int32)))])) _
    exact kt
  have R4 : ∀ tg, Steps p.tables e below (T2.setTop (mkF m 23 #[.val (.ref a), .unset, .unset, .unset, .unset] [(.int j)])) tg → Steps p.tables e below (T2.setTop (mkF m 23 #[.val (.ref a), .unset, .unset, .unset, .unset] [(.int (n - (1 : Int32)))])) tg := fun tg kt => by rw [hs0]; exact kt
  obtain ⟨T5, X5, e5, st5⟩ := getF X2 hx hZ hown (host := "") (Or.inl (hw _ (List.mem_of_getElem? (i := 38) rfl))) Via.refl e2 hFc (g := (mkF m 25 #[.val (.ref a), .val (.int j), .unset, .unset, .unset] [(.ref a)])) rfl rfl (hb hby d_prog_28_m_3_25)
  have R6 : ∀ tg, Steps p.tables e below (T5.setTop (mkF m 32 #[.val (.ref a), .val (.int j), .unset, .unset, .unset] [(.int ((j.toUInt32 >>> ((12 : Int32) &&& 31).toUInt32).toInt32)), (.ref ch)])) tg → Steps p.tables e below (T2.setTop (mkF m 23 #[.val (.ref a), .unset, .unset, .unset, .unset] [(.int j)])) tg := by
    intro tg kt
    refine XS.istoreN X2.here hx rfl (hb hby d_prog_28_m_3_23) rfl (l' := #[.val (.ref a), .val (.int j), .unset, .unset, .unset]) rfl ?_
    show Steps p.tables e below (T2.setTop (mkF m 24 #[.val (.ref a), .val (.int j), .unset, .unset, .unset] [])) _
    refine XS.aloadN X2.here hx rfl (hb hby d_prog_28_m_3_24) rfl rfl ?_
    show Steps p.tables e below (T2.setTop (mkF m 25 #[.val (.ref a), .val (.int j), .unset, .unset, .unset] [(.ref a)])) _
    refine st5 _ ?_
    show Steps p.tables e below (T5.setTop (mkF m 28 #[.val (.ref a), .val (.int j), .unset, .unset, .unset] [(.ref ch)])) _
    refine XS.iloadN X5.here hx rfl (hb hby d_prog_28_m_3_28) rfl ?_
    show Steps p.tables e below (T5.setTop (mkF m 29 #[.val (.ref a), .val (.int j), .unset, .unset, .unset] [(.int j), (.ref ch)])) _
    refine XS.bipush X5.here hx rfl (hb hby d_prog_28_m_3_29) ?_
    show Steps p.tables e below (T5.setTop (mkF m 31 #[.val (.ref a), .val (.int j), .unset, .unset, .unset] [(.int (12 : Int32)), (.int j), (.ref ch)])) _
    refine XS.iushr X5.here hx rfl (hb hby d_prog_28_m_3_31) rfl ?_
    show Steps p.tables e below (T5.setTop (mkF m 32 #[.val (.ref a), .val (.int j), .unset, .unset, .unset] [(.int ((j.toUInt32 >>> ((12 : Int32) &&& 31).toUInt32).toInt32)), (.ref ch)])) _
    exact kt
  have R7 : ∀ tg, Steps p.tables e below (T5.setTop (mkF m 32 #[.val (.ref a), .val (.int j), .unset, .unset, .unset] [(.int (0 : Int32)), (.ref ch)])) tg → Steps p.tables e below (T5.setTop (mkF m 32 #[.val (.ref a), .val (.int j), .unset, .unset, .unset] [(.int ((j.toUInt32 >>> ((12 : Int32) &&& 31).toUInt32).toInt32)), (.ref ch)])) tg := fun tg kt => by rw [hs1]; exact kt
  obtain ⟨cl8, Ar8, q8, Sz8, Nn8, Ha8, Ga8⟩ := id hVc
  have hin8 : ¬ ((0 : Int32) < 0 ∨ cl8.slots.size ≤ ((0 : Int32)).toNatClampNeg) := inb_of Sz8 ⟨by decide, by decide⟩
  have hat8 : cl8.slots[((0 : Int32)).toNatClampNeg]? = some (.ref ea) := Ha8.at hin8 rfl
  have R9 : ∀ tg, Steps p.tables e below (T5.setTop (mkF m 39 #[.val (.ref a), .val (.int j), .val (.ref ea), .unset, .unset] [(.int (j &&& (4095 : Int32)))])) tg → Steps p.tables e below (T5.setTop (mkF m 32 #[.val (.ref a), .val (.int j), .unset, .unset, .unset] [(.int (0 : Int32)), (.ref ch)])) tg := by
    intro tg kt
    refine X5.aaload hx (j := (0 : Int32)) (v := (.ref ea)) (by rw [e5]; exact Ar8.1) (State.isArrayOf_alike hZ.alike Ar8.2.1) rfl Ar8.2.2 hin8 hat8 (g := (mkF m 32 #[.val (.ref a), .val (.int j), .unset, .unset, .unset] [(.int (0 : Int32)), (.ref ch)])) rfl rfl (hb hby d_prog_28_m_3_32) _ ?_
    show Steps p.tables e below (T5.setTop (mkF m 33 #[.val (.ref a), .val (.int j), .unset, .unset, .unset] [(.ref ea)])) _
    refine XS.astoreN X5.here hx rfl (hb hby d_prog_28_m_3_33) rfl rfl (l' := #[.val (.ref a), .val (.int j), .val (.ref ea), .unset, .unset]) rfl ?_
    show Steps p.tables e below (T5.setTop (mkF m 34 #[.val (.ref a), .val (.int j), .val (.ref ea), .unset, .unset] [])) _
    refine XS.iloadN X5.here hx rfl (hb hby d_prog_28_m_3_34) rfl ?_
    show Steps p.tables e below (T5.setTop (mkF m 35 #[.val (.ref a), .val (.int j), .val (.ref ea), .unset, .unset] [(.int j)])) _
    refine XS.sipush X5.here hx rfl (hb hby d_prog_28_m_3_35) ?_
    show Steps p.tables e below (T5.setTop (mkF m 38 #[.val (.ref a), .val (.int j), .val (.ref ea), .unset, .unset] [(.int (4095 : Int32)), (.int j)])) _
    refine XS.iand X5.here hx rfl (hb hby d_prog_28_m_3_38) rfl ?_
    show Steps p.tables e below (T5.setTop (mkF m 39 #[.val (.ref a), .val (.int j), .val (.ref ea), .unset, .unset] [(.int (j &&& (4095 : Int32)))])) _
    exact kt
  have R10 : ∀ tg, Steps p.tables e below (T5.setTop (mkF m 39 #[.val (.ref a), .val (.int j), .val (.ref ea), .unset, .unset] [(.int j)])) tg → Steps p.tables e below (T5.setTop (mkF m 39 #[.val (.ref a), .val (.int j), .val (.ref ea), .unset, .unset] [(.int (j &&& (4095 : Int32)))])) tg := fun tg kt => by rw [hs2]; exact kt
  obtain ⟨cl11, Ar11, q11, Sz11, Nn11, Ha11, Ga11⟩ := id hVe
  have hin11 : ¬ (j < 0 ∨ cl11.slots.size ≤ (j).toNatClampNeg) := inb_of Sz11 hlo
  have hat11 : cl11.slots[(j).toNatClampNeg]? = some (.ref b) := Ha11.at hin11 hb1
  obtain ⟨cl12, Ar12, q12, Sz12, Nn12, Ha12, Ga12⟩ := id hVe
  have hin12 : ¬ (j < 0 ∨ cl12.slots.size ≤ (j).toNatClampNeg) := inb_of Sz12 hlo
  obtain ⟨T12, h12, X12, e12, W12, st12⟩ := stR X5 hx hZ e5 Ar12 (j := j) hin12 rfl (Or.inl rfl) (g := (mkF m 48 #[.val (.ref a), .val (.int j), .val (.ref ea), .val (.int j), .val (.ref b)] [.null, (.int j), (.ref ea)])) rfl rfl (hb hby d_prog_28_m_3_48)
  have V12 : Arv Z h12 ea ke (.object "java/lang/Object") cap (vs.set i .null) .null := Arv.set Ar12 q12 Sz12 Nn12 Ha12 Ga12 rfl W12 i hi hl
  have Z12 : n0 ≤ h12.size := Nat.le_trans Z0 (Nat.le_of_eq W12.size.symm)
  have N12 := Fr.snoc X12 N0 hge
  have K12 : Keep h0 h12 [a, ch, ea] := K0.wr W12 (Or.inl (List.mem_of_getElem? (i := 2) rfl))
  have f14 := (hE.wr W12)
  have f15 := (hFs.other W12 (Or.inl hn2))
  obtain ⟨T13, h13, X13, e13, W13, st13⟩ := putF X12 hx hZ hown (host := "") (Or.inl (hw _ (List.mem_of_getElem? (i := 45) rfl))) Via.refl e12 f15 f14 (Or.inl (hw _ (List.mem_of_getElem? (i := 46) rfl))) (hw _ (List.mem_of_getElem? (i := 12) rfl)) (ty := .int) (by decide) rfl rfl (g := (mkF m 51 #[.val (.ref a), .val (.int j), .val (.ref ea), .val (.int j), .val (.ref b)] [(.int j), (.ref a)])) rfl rfl (hb hby d_prog_28_m_3_51)
  have Z13 : n0 ≤ h13.size := Nat.le_trans Z12 (Nat.le_of_eq W13.size.symm)
  have N13 := Fr.snoc X13 N12 hga
  have K13 : Keep h0 h13 [a, ch, ea] := K12.wr W13 (Or.inl (List.mem_of_getElem? (i := 0) rfl))
  have Fw13 := f15.same W13
  have f16 := ((hFm.other W12 (Or.inl hn2)).other W13 (Or.inr (slot_ne (Or.inl (hw _ (List.mem_of_getElem? (i := 32) rfl))) (Or.inl (hw _ (List.mem_of_getElem? (i := 46) rfl))) (by decide) (t := .int) (t' := .int) (by decide) (by decide))))
  obtain ⟨T17, X17, e17, st17⟩ := getF X13 hx hZ hown (host := "") (Or.inl (hw _ (List.mem_of_getElem? (i := 53) rfl))) (Via.of (hw _ (List.mem_of_getElem? (i := 54) rfl))) e13 f16 (g := (mkF m 56 #[.val (.ref a), .val (.int j), .val (.ref ea), .val (.int j), .val (.ref b)] [(.ref a), (.ref a)])) rfl rfl (hb hby d_prog_28_m_3_56)
  have f19 := (f14.wr W13)
  obtain ⟨T18, h18, X18, e18, W18, st18⟩ := putF X17 hx hZ hown (host := "") (Or.inl (hw _ (List.mem_of_getElem? (i := 53) rfl))) (Via.of (hw _ (List.mem_of_getElem? (i := 54) rfl))) e17 f16 f19 (Or.inl (hw _ (List.mem_of_getElem? (i := 32) rfl))) (hw _ (List.mem_of_getElem? (i := 12) rfl)) (ty := .int) (by decide) rfl rfl (g := (mkF m 61 #[.val (.ref a), .val (.int j), .val (.ref ea), .val (.int j), .val (.ref b)] [(.int (mc + (1 : Int32))), (.ref a)])) rfl rfl (hb hby d_prog_28_m_3_61)
  have Z18 : n0 ≤ h18.size := Nat.le_trans Z13 (Nat.le_of_eq W18.size.symm)
  have N18 := Fr.snoc X18 N13 hga
  have K18 : Keep h0 h18 [a, ch, ea] := K13.wr W18 (Or.inl (List.mem_of_getElem? (i := 0) rfl))
  have Fw18 := f16.same W18
  obtain ⟨fs, hr, hrun, hended, hW, hsame⟩ := X18.leave (v := some (.ref b)) (fun h => by rw [Bd.returns] at h; cases h)
  refine ⟨_, _, pre0 _ (R3 _ (R4 _ (R6 _ (R7 _ (R9 _ (R10 _ ?_)))))), hrun, hended, _, _, rfl, ?_, ⟨_, rfl⟩, hW, hsame.mono (by decide) (by decide)⟩
  · show Steps p.tables e below (T5.setTop (mkF m 39 #[.val (.ref a), .val (.int j), .val (.ref ea), .unset, .unset] [(.int j)])) _
    refine XS.istoreN X5.here hx rfl (hb hby d_prog_28_m_3_39) rfl (l' := #[.val (.ref a), .val (.int j), .val (.ref ea), .val (.int j), .unset]) rfl ?_
    show Steps p.tables e below (T5.setTop (mkF m 40 #[.val (.ref a), .val (.int j), .val (.ref ea), .val (.int j), .unset] [])) _
    refine XS.aloadN X5.here hx rfl (hb hby d_prog_28_m_3_40) rfl rfl ?_
    show Steps p.tables e below (T5.setTop (mkF m 41 #[.val (.ref a), .val (.int j), .val (.ref ea), .val (.int j), .unset] [(.ref ea)])) _
    refine XS.iloadN X5.here hx rfl (hb hby d_prog_28_m_3_41) rfl ?_
    show Steps p.tables e below (T5.setTop (mkF m 42 #[.val (.ref a), .val (.int j), .val (.ref ea), .val (.int j), .unset] [(.int j), (.ref ea)])) _
    refine X5.aaload hx (j := j) (v := (.ref b)) (by rw [e5]; exact Ar11.1) (State.isArrayOf_alike hZ.alike Ar11.2.1) rfl Ar11.2.2 hin11 hat11 (g := (mkF m 42 #[.val (.ref a), .val (.int j), .val (.ref ea), .val (.int j), .unset] [(.int j), (.ref ea)])) rfl rfl (hb hby d_prog_28_m_3_42) _ ?_
    show Steps p.tables e below (T5.setTop (mkF m 43 #[.val (.ref a), .val (.int j), .val (.ref ea), .val (.int j), .unset] [(.ref b)])) _
    refine XS.astore X5.here hx rfl (hb hby d_prog_28_m_3_43) rfl rfl (l' := #[.val (.ref a), .val (.int j), .val (.ref ea), .val (.int j), .val (.ref b)]) rfl ?_
    show Steps p.tables e below (T5.setTop (mkF m 45 #[.val (.ref a), .val (.int j), .val (.ref ea), .val (.int j), .val (.ref b)] [])) _
    refine XS.aloadN X5.here hx rfl (hb hby d_prog_28_m_3_45) rfl rfl ?_
    show Steps p.tables e below (T5.setTop (mkF m 46 #[.val (.ref a), .val (.int j), .val (.ref ea), .val (.int j), .val (.ref b)] [(.ref ea)])) _
    refine XS.iloadN X5.here hx rfl (hb hby d_prog_28_m_3_46) rfl ?_
    show Steps p.tables e below (T5.setTop (mkF m 47 #[.val (.ref a), .val (.int j), .val (.ref ea), .val (.int j), .val (.ref b)] [(.int j), (.ref ea)])) _
    refine XS.aconstNull X5.here hx rfl (hb hby d_prog_28_m_3_47) ?_
    show Steps p.tables e below (T5.setTop (mkF m 48 #[.val (.ref a), .val (.int j), .val (.ref ea), .val (.int j), .val (.ref b)] [.null, (.int j), (.ref ea)])) _
    refine st12 _ ?_
    show Steps p.tables e below (T12.setTop (mkF m 49 #[.val (.ref a), .val (.int j), .val (.ref ea), .val (.int j), .val (.ref b)] [])) _
    refine XS.aloadN X12.here hx rfl (hb hby d_prog_28_m_3_49) rfl rfl ?_
    show Steps p.tables e below (T12.setTop (mkF m 50 #[.val (.ref a), .val (.int j), .val (.ref ea), .val (.int j), .val (.ref b)] [(.ref a)])) _
    refine XS.iloadN X12.here hx rfl (hb hby d_prog_28_m_3_50) rfl ?_
    show Steps p.tables e below (T12.setTop (mkF m 51 #[.val (.ref a), .val (.int j), .val (.ref ea), .val (.int j), .val (.ref b)] [(.int j), (.ref a)])) _
    refine st13 _ ?_
    show Steps p.tables e below (T13.setTop (mkF m 54 #[.val (.ref a), .val (.int j), .val (.ref ea), .val (.int j), .val (.ref b)] [])) _
    refine XS.aloadN X13.here hx rfl (hb hby d_prog_28_m_3_54) rfl rfl ?_
    show Steps p.tables e below (T13.setTop (mkF m 55 #[.val (.ref a), .val (.int j), .val (.ref ea), .val (.int j), .val (.ref b)] [(.ref a)])) _
    refine XS.dup X13.here hx rfl (hb hby d_prog_28_m_3_55) rfl rfl ?_
    show Steps p.tables e below (T13.setTop (mkF m 56 #[.val (.ref a), .val (.int j), .val (.ref ea), .val (.int j), .val (.ref b)] [(.ref a), (.ref a)])) _
    refine st17 _ ?_
    show Steps p.tables e below (T17.setTop (mkF m 59 #[.val (.ref a), .val (.int j), .val (.ref ea), .val (.int j), .val (.ref b)] [(.int mc), (.ref a)])) _
    refine XS.iconst X17.here hx rfl (hb hby d_prog_28_m_3_59) ?_
    show Steps p.tables e below (T17.setTop (mkF m 60 #[.val (.ref a), .val (.int j), .val (.ref ea), .val (.int j), .val (.ref b)] [(.int (1 : Int32)), (.int mc), (.ref a)])) _
    refine XS.iadd X17.here hx rfl (hb hby d_prog_28_m_3_60) rfl ?_
    show Steps p.tables e below (T17.setTop (mkF m 61 #[.val (.ref a), .val (.int j), .val (.ref ea), .val (.int j), .val (.ref b)] [(.int (mc + (1 : Int32))), (.ref a)])) _
    refine st18 _ ?_
    show Steps p.tables e below (T18.setTop (mkF m 64 #[.val (.ref a), .val (.int j), .val (.ref ea), .val (.int j), .val (.ref b)] [])) _
    refine XS.aload X18.here hx rfl (hb hby d_prog_28_m_3_64) rfl rfl ?_
    show Steps p.tables e below (T18.setTop (mkF m 66 #[.val (.ref a), .val (.int j), .val (.ref ea), .val (.int j), .val (.ref b)] [(.ref b)])) _
    jvm_step X18.here [X18.here.top, hx, (hb hby d_prog_28_m_3_66), X18.method', Bd.returns, Value.isRef, FieldType.isReference]
    first | (intro acts; rw [hr _ acts rfl rfl rfl]) | rw [hr _ _ rfl rfl rfl]
    exact Steps.refl _
  · show QRl Z a ch ea kc ke j cap (vs.set i .null) b h0 n0 _ T18.heap _
    rw [e18]
    have f20 := (f19.wr W18)
    have f21 := (Fw13.other W18 (Or.inr (slot_ne (Or.inl (hw _ (List.mem_of_getElem? (i := 46) rfl))) (Or.inl (hw _ (List.mem_of_getElem? (i := 32) rfl))) (by decide) (t := .int) (t' := .int) (by decide) (by decide))))
    have f22 := (((hFc.other W12 (Or.inl hn2)).other W13 (Or.inr (slot_ne (Or.inl (hw _ (List.mem_of_getElem? (i := 39) rfl))) (Or.inl (hw _ (List.mem_of_getElem? (i := 46) rfl))) (by decide) (t := (.array (.array (.object "java/lang/Object")))) (t' := .int) (by decide) (by decide)))).other W18 (Or.inr (slot_ne (Or.inl (hw _ (List.mem_of_getElem? (i := 39) rfl))) (Or.inl (hw _ (List.mem_of_getElem? (i := 32) rfl))) (by decide) (t := (.array (.array (.object "java/lang/Object")))) (t' := .int) (by decide) (by decide))))
    have f23 := (((hVc.other W12 hn3).other W13 (Ne.symm hn1)).other W18 (Ne.symm hn1))
    have f24 := ((V12.other W13 (Ne.symm hn2)).other W18 (Ne.symm hn2))
    have f25 := (((hXe.wr W12).wr W13).wr W18)
    exact ⟨rfl, N18, K18, _, ⟨f20, f21, f22, Fw18, f23, f24, f25, hO, hOA, hga, hgc, hge, hn1, hn2, hn3⟩⟩
theorem ef_rmSz (m : MethodId) (x0 : Addr) : entryFrame m #[(.ref x0)] 1 = mkF m 0 #[.val (.ref x0)] [] := by first | (simp [entryFrame, mkF, argsToLocals, Value.category]; done) | rfl
set_option maxRecDepth 65536 in
set_option maxHeartbeats 40000000 in
theorem rmSz (l : Launch) (Z : State) (a0 : Array Value) (hw : ∀ d ∈ tables_1, d.before a0 Z = true) (ws : List Jvm.Cond) (a : Addr) (n : Int32) (h0 : Heap) (n0 : Nat) (Z0 : n0 ≤ h0.size) (hF : Fld Z h0 a "com/example/anchored_threads/anchoredthreads/internal/ChunkedList" "size" "I" (.int n)) :
    MetFree l (⟨"com/example/anchored_threads/anchoredthreads/internal/ChunkedList", "size", "()I"⟩ : MethodName) (head1 (Jvm.Cond.code (⟨"com/example/anchored_threads/anchoredthreads/internal/ChunkedList", "size", "()I"⟩ : MethodName) prog_28_method_5_code 1 (some .int) :: ws) ({ frames := 0, cells := 0, slots := 0, locals := 0 } : Room)) (fun aa_ UU_ => aa_ = #[(.ref a)] ∧ Z.Warmed39 UU_.vm ∧ UU_.heap = h0) (fun _ _ _ _ _ => True) (fun _ UU_ oo_ UE_ => ∃ vv_ LL_, oo_ = .returned vv_ ∧ QV (some (.int n)) h0 n0 vv_ UE_.heap LL_ ∧ FrameEnd UU_ oo_ UE_ LL_ ({ frames := 0, cells := 0, slots := 0, locals := 0 } : Room).cells ({ frames := 0, cells := 0, slots := 0, locals := 0 } : Room).slots) := by
  refine MetFree.of_bodySF (plainFor_of_name pn_2) hisR ?_
  intro p e s m args below meth c s₁ Bd hml0 hP hK
  obtain ⟨rfl, hZ, hh⟩ := hP
  have hx := Bd.exec
  have hby := Bd.bytes
  have hml : c.maxLocals = 1 := hml0
  have hown : s.vm.findClass "com/example/anchored_threads/anchoredthreads/internal/ChunkedList" = some m.cls := findClass_of_methodNamed Bd.named
  have hnm := (name_of_methodNamed Bd.named Bd.method).1
  have X0 : Stand p l e ({ frames := 0, cells := 0, slots := 0, locals := 0 } : Room) s m #[(.ref a)] below meth c s₁ [] 0 0 := Stand.of_body Bd
  have e0 : s₁.heap = h0 := by rw [← hh, Bd.state]; rfl
  have N0 := Fr.nil n0
  have pre0 : ∀ tg, Steps p.tables e below (s₁.setTop (mkF m 0 #[.val (.ref a)] [])) tg → Steps p.tables e below (s₁.setTop (entryFrame m #[(.ref a)] 1)) tg := fun tg kq_ => castTop (ef_rmSz m a) kq_
  obtain ⟨T1, X1, e1, st1⟩ := getF X0 hx hZ hown (host := "") (Or.inl (hw _ (List.mem_of_getElem? (i := 45) rfl))) Via.refl e0 hF (g := (mkF m 1 #[.val (.ref a)] [(.ref a)])) rfl rfl (hb hby d_prog_28_m_5_1)
  obtain ⟨fs, hr, hrun, hended, hW, hsame⟩ := X1.leave (v := some (.int n)) (fun h => by rw [Bd.returns] at h; cases h)
  refine ⟨_, _, pre0 _ ?_, hrun, hended, _, _, rfl, ?_, ⟨_, rfl⟩, hW, hsame.mono (by decide) (by decide)⟩
  · show Steps p.tables e below (s₁.setTop (mkF m 0 #[.val (.ref a)] [])) _
    refine XS.aloadN X0.here hx rfl (hb hby d_prog_28_m_5_0) rfl rfl ?_
    show Steps p.tables e below (s₁.setTop (mkF m 1 #[.val (.ref a)] [(.ref a)])) _
    refine st1 _ ?_
    show Steps p.tables e below (T1.setTop (mkF m 4 #[.val (.ref a)] [(.int n)])) _
    exact retI X1 hx Bd.returns (hb hby d_prog_28_m_5_4) hr
  · show QV (some (.int n)) h0 n0 _ T1.heap _
    rw [e1]
    exact ⟨rfl, N0, rfl⟩
theorem ef_rm0 (m : MethodId) (x0 : Int32) (x1 : Int32) (x2 : Int32) : entryFrame m #[(.int x0), (.int x1), (.int x2)] maxLocals = mkF m 0 #[.val (.int x0), .val (.int x1), .val (.int x2), .unset, .unset, .unset, .unset, .unset] [] := by first | (simp [entryFrame, mkF, argsToLocals, Value.category, maxLocals]; done) | rfl
set_option maxRecDepth 65536 in
set_option maxHeartbeats 40000000 in
theorem rm0 (l : Launch) (Z : State) (a0 : Array Value) (hw : ∀ d ∈ tables_1, d.before a0 Z = true) (ws : List Jvm.Cond) (p1 p2 p3 : Int32) (ca : Addr) (cc : Cell) (h0 : Heap) (n0 : Nat) (Z0 : n0 ≤ h0.size) (hO1 : Old Z n0 h0) (hS0 : Sta Z Z.heap "java/lang/Integer$IntegerCache" "high" "I" (.int (127 : Int32))) (hS1 : Sta Z Z.heap "java/lang/Integer$IntegerCache" "cache" "[Ljava/lang/Integer;" (.ref ca)) (hB1 : Bxs Z ca cc "java/lang/Integer" "I" (256 : Int32) (fun j => .int (j - 128))) (hM : ∃ (c : ClassId) (k : Class) (m : Addr), Z.vm.findClass "[Ljava/lang/Object;" = some c ∧ Z.vm.classes[c]? = some k ∧ k.mirror = some m) :
    MetFree l x (head1 (Jvm.Cond.code x code maxLocals ret :: ws) room_1) (fun aa_ UU_ => aa_ = #[(.int p1), (.int p2), (.int p3)] ∧ Z.Warmed39 UU_.vm ∧ UU_.heap = h0) (fun _ _ _ _ _ => True) (fun _ UU_ oo_ UE_ => ∃ vv_ LL_, oo_ = .returned vv_ ∧ Q0 n0 vv_ UE_.heap LL_ ∧ FrameEnd UU_ oo_ UE_ LL_ room_1.cells room_1.slots) := by
  refine MetFree.of_bodySF (plainFor_of_name pn_5) hisR ?_
  intro p e s m args below meth c s₁ Bd hml0 hP hK
  obtain ⟨rfl, hZ, hh⟩ := hP
  have hx := Bd.exec
  have hby := Bd.bytes
  have hml : c.maxLocals = 8 := hml0
  have hown : s.vm.findClass "com/example/anchored_threads/anchoredthreads/internal/ChunkedListRemoveLastPinLaw" = some m.cls := findClass_of_methodNamed Bd.named
  have hnm := (name_of_methodNamed Bd.named Bd.method).1
  have X0 : Stand p l e room_1 s m #[(.int p1), (.int p2), (.int p3)] below meth c s₁ [] 0 0 := Stand.of_body Bd
  have e0 : s₁.heap = h0 := by rw [← hh, Bd.state]; rfl
  have N0 := Fr.nil n0
  have pre0 : ∀ tg, Steps p.tables e below (s₁.setTop (mkF m 0 #[.val (.int p1), .val (.int p2), .val (.int p3), .unset, .unset, .unset, .unset, .unset] [])) tg → Steps p.tables e below (s₁.setTop (entryFrame m #[(.int p1), (.int p2), (.int p3)] maxLocals)) tg := fun tg kq_ => castTop (ef_rm0 m p1 p2 p3) kq_
  obtain ⟨T1, h1, k1, X1, e1, E1, A1, EX1, O1, st1⟩ := newRE X0 hx hZ hown (hw _ (List.mem_of_getElem? (i := 1) rfl)) (hw _ (List.mem_of_getElem? (i := 2) rfl)) e0 (g := (mkF m 9 #[.val (.int p1), .val (.int p2), .val (.int p3), .val (.int ((p1 &&& (2147483647 : Int32)) % (6 : Int32))), .unset, .unset, .unset, .unset] [(.int (5 : Int32))])) rfl (hb hby at_9) rfl (by decide) (cap := 5) (by decide) (by decide) (by decide) (by decide) (ad := "[Ljava/lang/Integer;") (by decide)
  obtain ⟨b1, g1⟩ : ∃ z, z = h0.size := ⟨_, rfl⟩
  rw [← g1] at A1 EX1 st1
  have gb_b1 : n0 ≤ b1 := Nat.le_trans Z0 (Nat.le_of_eq g1.symm)
  have Z1 : n0 ≤ h1.size := Nat.le_trans Z0 E1.1
  have V1 : Arv Z h1 b1 k1 (.object "java/lang/Integer") (5 : Int32) [.null, .null, .null, .null, .null] .null := (Arv.new A1 (by decide)).pad (pad_rep [] .null 5)
  have f2 := (hO1.ext E1)
  obtain ⟨_, _, ⟨T3, L3, k3, n3⟩, -, X3, ⟨Lc3, hQ3, l3, y3, z3⟩, st3⟩ := Jvm.LawKit.callS X1 hx (y := (⟨"java/lang/Integer", "valueOf", "(I)Ljava/lang/Integer;"⟩ : MethodName)) hown (mvT hZ (hw _ (List.mem_of_getElem? (i := 3) rfl))) (mvT hZ (hw _ (List.mem_of_getElem? (i := 4) rfl))) (mvT hZ (hw _ (List.mem_of_getElem? (i := 5) rfl))) (mvT hZ (hw _ (List.mem_of_getElem? (i := 6) rfl))) (by decide) (backOf (W := 3) (rmIV l Z a0 hw [] p2 ca cc h1 n0 Z1 f2 hS0 hS1 hB1) hZ (hw _ (List.mem_of_getElem? (i := 6) rfl)) (hw _ (List.mem_of_getElem? (i := 5) rfl)) (by decide) (by decide)) (g := (mkF m 15 #[.val (.int p1), .val (.int p2), .val (.int p3), .val (.int ((p1 &&& (2147483647 : Int32)) % (6 : Int32))), .unset, .unset, .unset, .unset] [(.int p2), (.int (0 : Int32)), (.ref b1), (.ref b1)])) rfl (by rw [hml]; rfl) (argsL := [(.int p2)]) (rest := [(.int (0 : Int32)), (.ref b1), (.ref b1)]) (lenOf pd_3 rfl) rfl (by show 2 * 0 + _ ≤ _; exact Nat.le_of_eq rfl) (hb hby at_15) (fun _ _ => ⟨rfl, e1, (by decide : 1 + 1 ≤ _), (by decide : 5 + 1 ≤ _)⟩)
  dsimp only [Pt.U, Pt.locs, Pt.cells, Pt.slots] at X3 l3 y3 z3 st3 hQ3
  subst l3 y3 z3
  obtain ⟨bx3, hv3, N3q, kp3, EB3, FB3⟩ := hQ3
  subst hv3
  have N3 := Fr.app N0 N3q
  have Z3 : n0 ≤ T3.heap.size := Nat.le_trans Z1 kp3.1
  have f5 := (V1.keep kp3 nin0)
  obtain ⟨cl4, Ar4, q4, Sz4, Nn4, Ha4, Ga4⟩ := id f5
  have hin4 : ¬ ((0 : Int32) < 0 ∨ cl4.slots.size ≤ ((0 : Int32)).toNatClampNeg) := inb_of Sz4 ⟨by decide, by decide⟩
  obtain ⟨T4, h4, X4, e4, W4, st4⟩ := stR X3 hx hZ rfl Ar4 (j := (0 : Int32)) hin4 rfl (Sto.ofV Ar4 q4 O1 (Ins.self EB3)) (g := (mkF m 18 #[.val (.int p1), .val (.int p2), .val (.int p3), .val (.int ((p1 &&& (2147483647 : Int32)) % (6 : Int32))), .unset, .unset, .unset, .unset] [(.ref bx3), (.int (0 : Int32)), (.ref b1), (.ref b1)])) rfl rfl (hb hby at_18)
  have V4 : Arv Z h4 b1 k1 (.object "java/lang/Integer") (5 : Int32) [(.ref bx3), .null, .null, .null, .null] .null := Arv.set Ar4 q4 Sz4 Nn4 Ha4 Ga4 rfl W4 0 rfl (Nat.le_of_ble_eq_true rfl)
  have Z4 : n0 ≤ h4.size := Nat.le_trans Z3 (Nat.le_of_eq W4.size.symm)
  have N4 := Fr.snoc X4 N3 gb_b1
  have f6 := ((f2.keep kp3 all0).wr W4 gb_b1)
  obtain ⟨_, _, ⟨T7, L7, k7, n7⟩, -, X7, ⟨Lc7, hQ7, l7, y7, z7⟩, st7⟩ := Jvm.LawKit.callS X4 hx (y := (⟨"java/lang/Integer", "valueOf", "(I)Ljava/lang/Integer;"⟩ : MethodName)) hown (mvT hZ (hw _ (List.mem_of_getElem? (i := 3) rfl))) (mvT hZ (hw _ (List.mem_of_getElem? (i := 4) rfl))) (mvT hZ (hw _ (List.mem_of_getElem? (i := 5) rfl))) (mvT hZ (hw _ (List.mem_of_getElem? (i := 6) rfl))) (by decide) (backOf (W := 3) (rmIV l Z a0 hw [] (p2 ^^^ (1 : Int32)) ca cc h4 n0 Z4 f6 hS0 hS1 hB1) hZ (hw _ (List.mem_of_getElem? (i := 6) rfl)) (hw _ (List.mem_of_getElem? (i := 5) rfl)) (by decide) (by decide)) (g := (mkF m 24 #[.val (.int p1), .val (.int p2), .val (.int p3), .val (.int ((p1 &&& (2147483647 : Int32)) % (6 : Int32))), .unset, .unset, .unset, .unset] [(.int (p2 ^^^ (1 : Int32))), (.int (1 : Int32)), (.ref b1), (.ref b1)])) rfl (by rw [hml]; rfl) (argsL := [(.int (p2 ^^^ (1 : Int32)))]) (rest := [(.int (1 : Int32)), (.ref b1), (.ref b1)]) (lenOf pd_3 rfl) rfl (by show 2 * 0 + _ ≤ _; exact Nat.le_of_eq rfl) (hb hby at_24) (fun _ _ => ⟨rfl, e4, (by decide : 2 + 1 ≤ _), (by decide : 6 + 1 ≤ _)⟩)
  dsimp only [Pt.U, Pt.locs, Pt.cells, Pt.slots] at X7 l7 y7 z7 st7 hQ7
  subst l7 y7 z7
  obtain ⟨bx7, hv7, N7q, kp7, EB7, FB7⟩ := hQ7
  subst hv7
  have N7 := Fr.app N4 N7q
  have Z7 : n0 ≤ T7.heap.size := Nat.le_trans Z4 kp7.1
  have f9 := (V4.keep kp7 nin0)
  obtain ⟨cl8, Ar8, q8, Sz8, Nn8, Ha8, Ga8⟩ := id f9
  have hin8 : ¬ ((1 : Int32) < 0 ∨ cl8.slots.size ≤ ((1 : Int32)).toNatClampNeg) := inb_of Sz8 ⟨by decide, by decide⟩
  obtain ⟨T8, h8, X8, e8, W8, st8⟩ := stR X7 hx hZ rfl Ar8 (j := (1 : Int32)) hin8 rfl (Sto.ofV Ar8 q8 O1 (Ins.self EB7)) (g := (mkF m 27 #[.val (.int p1), .val (.int p2), .val (.int p3), .val (.int ((p1 &&& (2147483647 : Int32)) % (6 : Int32))), .unset, .unset, .unset, .unset] [(.ref bx7), (.int (1 : Int32)), (.ref b1), (.ref b1)])) rfl rfl (hb hby at_27)
  have V8 : Arv Z h8 b1 k1 (.object "java/lang/Integer") (5 : Int32) [(.ref bx3), (.ref bx7), .null, .null, .null] .null := Arv.set Ar8 q8 Sz8 Nn8 Ha8 Ga8 rfl W8 1 rfl (Nat.le_of_ble_eq_true rfl)
  have Z8 : n0 ≤ h8.size := Nat.le_trans Z7 (Nat.le_of_eq W8.size.symm)
  have N8 := Fr.snoc X8 N7 gb_b1
  have f10 := ((f6.keep kp7 all0).wr W8 gb_b1)
  obtain ⟨_, _, ⟨T11, L11, k11, n11⟩, -, X11, ⟨Lc11, hQ11, l11, y11, z11⟩, st11⟩ := Jvm.LawKit.callS X8 hx (y := (⟨"java/lang/Integer", "valueOf", "(I)Ljava/lang/Integer;"⟩ : MethodName)) hown (mvT hZ (hw _ (List.mem_of_getElem? (i := 3) rfl))) (mvT hZ (hw _ (List.mem_of_getElem? (i := 4) rfl))) (mvT hZ (hw _ (List.mem_of_getElem? (i := 5) rfl))) (mvT hZ (hw _ (List.mem_of_getElem? (i := 6) rfl))) (by decide) (backOf (W := 3) (rmIV l Z a0 hw [] (p2 ^^^ (2 : Int32)) ca cc h8 n0 Z8 f10 hS0 hS1 hB1) hZ (hw _ (List.mem_of_getElem? (i := 6) rfl)) (hw _ (List.mem_of_getElem? (i := 5) rfl)) (by decide) (by decide)) (g := (mkF m 33 #[.val (.int p1), .val (.int p2), .val (.int p3), .val (.int ((p1 &&& (2147483647 : Int32)) % (6 : Int32))), .unset, .unset, .unset, .unset] [(.int (p2 ^^^ (2 : Int32))), (.int (2 : Int32)), (.ref b1), (.ref b1)])) rfl (by rw [hml]; rfl) (argsL := [(.int (p2 ^^^ (2 : Int32)))]) (rest := [(.int (2 : Int32)), (.ref b1), (.ref b1)]) (lenOf pd_3 rfl) rfl (by show 2 * 0 + _ ≤ _; exact Nat.le_of_eq rfl) (hb hby at_33) (fun _ _ => ⟨rfl, e8, (by decide : 3 + 1 ≤ _), (by decide : 7 + 1 ≤ _)⟩)
  dsimp only [Pt.U, Pt.locs, Pt.cells, Pt.slots] at X11 l11 y11 z11 st11 hQ11
  subst l11 y11 z11
  obtain ⟨bx11, hv11, N11q, kp11, EB11, FB11⟩ := hQ11
  subst hv11
  have N11 := Fr.app N8 N11q
  have Z11 : n0 ≤ T11.heap.size := Nat.le_trans Z8 kp11.1
  have f13 := (V8.keep kp11 nin0)
  obtain ⟨cl12, Ar12, q12, Sz12, Nn12, Ha12, Ga12⟩ := id f13
  have hin12 : ¬ ((2 : Int32) < 0 ∨ cl12.slots.size ≤ ((2 : Int32)).toNatClampNeg) := inb_of Sz12 ⟨by decide, by decide⟩
  obtain ⟨T12, h12, X12, e12, W12, st12⟩ := stR X11 hx hZ rfl Ar12 (j := (2 : Int32)) hin12 rfl (Sto.ofV Ar12 q12 O1 (Ins.self EB11)) (g := (mkF m 36 #[.val (.int p1), .val (.int p2), .val (.int p3), .val (.int ((p1 &&& (2147483647 : Int32)) % (6 : Int32))), .unset, .unset, .unset, .unset] [(.ref bx11), (.int (2 : Int32)), (.ref b1), (.ref b1)])) rfl rfl (hb hby at_36)
  have V12 : Arv Z h12 b1 k1 (.object "java/lang/Integer") (5 : Int32) [(.ref bx3), (.ref bx7), (.ref bx11), .null, .null] .null := Arv.set Ar12 q12 Sz12 Nn12 Ha12 Ga12 rfl W12 2 rfl (Nat.le_of_ble_eq_true rfl)
  have Z12 : n0 ≤ h12.size := Nat.le_trans Z11 (Nat.le_of_eq W12.size.symm)
  have N12 := Fr.snoc X12 N11 gb_b1
  have f14 := ((f10.keep kp11 all0).wr W12 gb_b1)
  obtain ⟨_, _, ⟨T15, L15, k15, n15⟩, -, X15, ⟨Lc15, hQ15, l15, y15, z15⟩, st15⟩ := Jvm.LawKit.callS X12 hx (y := (⟨"java/lang/Integer", "valueOf", "(I)Ljava/lang/Integer;"⟩ : MethodName)) hown (mvT hZ (hw _ (List.mem_of_getElem? (i := 3) rfl))) (mvT hZ (hw _ (List.mem_of_getElem? (i := 4) rfl))) (mvT hZ (hw _ (List.mem_of_getElem? (i := 5) rfl))) (mvT hZ (hw _ (List.mem_of_getElem? (i := 6) rfl))) (by decide) (backOf (W := 3) (rmIV l Z a0 hw [] (p2 ^^^ (3 : Int32)) ca cc h12 n0 Z12 f14 hS0 hS1 hB1) hZ (hw _ (List.mem_of_getElem? (i := 6) rfl)) (hw _ (List.mem_of_getElem? (i := 5) rfl)) (by decide) (by decide)) (g := (mkF m 42 #[.val (.int p1), .val (.int p2), .val (.int p3), .val (.int ((p1 &&& (2147483647 : Int32)) % (6 : Int32))), .unset, .unset, .unset, .unset] [(.int (p2 ^^^ (3 : Int32))), (.int (3 : Int32)), (.ref b1), (.ref b1)])) rfl (by rw [hml]; rfl) (argsL := [(.int (p2 ^^^ (3 : Int32)))]) (rest := [(.int (3 : Int32)), (.ref b1), (.ref b1)]) (lenOf pd_3 rfl) rfl (by show 2 * 0 + _ ≤ _; exact Nat.le_of_eq rfl) (hb hby at_42) (fun _ _ => ⟨rfl, e12, (by decide : 4 + 1 ≤ _), (by decide : 8 + 1 ≤ _)⟩)
  dsimp only [Pt.U, Pt.locs, Pt.cells, Pt.slots] at X15 l15 y15 z15 st15 hQ15
  subst l15 y15 z15
  obtain ⟨bx15, hv15, N15q, kp15, EB15, FB15⟩ := hQ15
  subst hv15
  have N15 := Fr.app N12 N15q
  have Z15 : n0 ≤ T15.heap.size := Nat.le_trans Z12 kp15.1
  have f17 := (V12.keep kp15 nin0)
  obtain ⟨cl16, Ar16, q16, Sz16, Nn16, Ha16, Ga16⟩ := id f17
  have hin16 : ¬ ((3 : Int32) < 0 ∨ cl16.slots.size ≤ ((3 : Int32)).toNatClampNeg) := inb_of Sz16 ⟨by decide, by decide⟩
  obtain ⟨T16, h16, X16, e16, W16, st16⟩ := stR X15 hx hZ rfl Ar16 (j := (3 : Int32)) hin16 rfl (Sto.ofV Ar16 q16 O1 (Ins.self EB15)) (g := (mkF m 45 #[.val (.int p1), .val (.int p2), .val (.int p3), .val (.int ((p1 &&& (2147483647 : Int32)) % (6 : Int32))), .unset, .unset, .unset, .unset] [(.ref bx15), (.int (3 : Int32)), (.ref b1), (.ref b1)])) rfl rfl (hb hby at_45)
  have V16 : Arv Z h16 b1 k1 (.object "java/lang/Integer") (5 : Int32) [(.ref bx3), (.ref bx7), (.ref bx11), (.ref bx15), .null] .null := Arv.set Ar16 q16 Sz16 Nn16 Ha16 Ga16 rfl W16 3 rfl (Nat.le_of_ble_eq_true rfl)
  have Z16 : n0 ≤ h16.size := Nat.le_trans Z15 (Nat.le_of_eq W16.size.symm)
  have N16 := Fr.snoc X16 N15 gb_b1
  have f18 := ((f14.keep kp15 all0).wr W16 gb_b1)
  obtain ⟨_, _, ⟨T19, L19, k19, n19⟩, -, X19, ⟨Lc19, hQ19, l19, y19, z19⟩, st19⟩ := Jvm.LawKit.callS X16 hx (y := (⟨"java/lang/Integer", "valueOf", "(I)Ljava/lang/Integer;"⟩ : MethodName)) hown (mvT hZ (hw _ (List.mem_of_getElem? (i := 3) rfl))) (mvT hZ (hw _ (List.mem_of_getElem? (i := 4) rfl))) (mvT hZ (hw _ (List.mem_of_getElem? (i := 5) rfl))) (mvT hZ (hw _ (List.mem_of_getElem? (i := 6) rfl))) (by decide) (backOf (W := 3) (rmIV l Z a0 hw [] (p2 ^^^ (4 : Int32)) ca cc h16 n0 Z16 f18 hS0 hS1 hB1) hZ (hw _ (List.mem_of_getElem? (i := 6) rfl)) (hw _ (List.mem_of_getElem? (i := 5) rfl)) (by decide) (by decide)) (g := (mkF m 51 #[.val (.int p1), .val (.int p2), .val (.int p3), .val (.int ((p1 &&& (2147483647 : Int32)) % (6 : Int32))), .unset, .unset, .unset, .unset] [(.int (p2 ^^^ (4 : Int32))), (.int (4 : Int32)), (.ref b1), (.ref b1)])) rfl (by rw [hml]; rfl) (argsL := [(.int (p2 ^^^ (4 : Int32)))]) (rest := [(.int (4 : Int32)), (.ref b1), (.ref b1)]) (lenOf pd_3 rfl) rfl (by show 2 * 0 + _ ≤ _; exact Nat.le_of_eq rfl) (hb hby at_51) (fun _ _ => ⟨rfl, e16, (by decide : 5 + 1 ≤ _), (by decide : 9 + 1 ≤ _)⟩)
  dsimp only [Pt.U, Pt.locs, Pt.cells, Pt.slots] at X19 l19 y19 z19 st19 hQ19
  subst l19 y19 z19
  obtain ⟨bx19, hv19, N19q, kp19, EB19, FB19⟩ := hQ19
  subst hv19
  have N19 := Fr.app N16 N19q
  have Z19 : n0 ≤ T19.heap.size := Nat.le_trans Z16 kp19.1
  have f21 := (V16.keep kp19 nin0)
  obtain ⟨cl20, Ar20, q20, Sz20, Nn20, Ha20, Ga20⟩ := id f21
  have hin20 : ¬ ((4 : Int32) < 0 ∨ cl20.slots.size ≤ ((4 : Int32)).toNatClampNeg) := inb_of Sz20 ⟨by decide, by decide⟩
  obtain ⟨T20, h20, X20, e20, W20, st20⟩ := stR X19 hx hZ rfl Ar20 (j := (4 : Int32)) hin20 rfl (Sto.ofV Ar20 q20 O1 (Ins.self EB19)) (g := (mkF m 54 #[.val (.int p1), .val (.int p2), .val (.int p3), .val (.int ((p1 &&& (2147483647 : Int32)) % (6 : Int32))), .unset, .unset, .unset, .unset] [(.ref bx19), (.int (4 : Int32)), (.ref b1), (.ref b1)])) rfl rfl (hb hby at_54)
  have V20 : Arv Z h20 b1 k1 (.object "java/lang/Integer") (5 : Int32) [(.ref bx3), (.ref bx7), (.ref bx11), (.ref bx15), (.ref bx19)] .null := Arv.set Ar20 q20 Sz20 Nn20 Ha20 Ga20 rfl W20 4 rfl (Nat.le_of_ble_eq_true rfl)
  have Z20 : n0 ≤ h20.size := Nat.le_trans Z19 (Nat.le_of_eq W20.size.symm)
  have N20 := Fr.snoc X20 N19 gb_b1
  have f22 := ((f18.keep kp19 all0).wr W20 gb_b1)
  obtain ⟨_, _, ⟨T23, L23, k23, n23⟩, -, X23, ⟨Lc23, hQ23, l23, y23, z23⟩, st23⟩ := Jvm.LawKit.callS X20 hx (y := (⟨"java/lang/Integer", "valueOf", "(I)Ljava/lang/Integer;"⟩ : MethodName)) hown (mvT hZ (hw _ (List.mem_of_getElem? (i := 3) rfl))) (mvT hZ (hw _ (List.mem_of_getElem? (i := 4) rfl))) (mvT hZ (hw _ (List.mem_of_getElem? (i := 5) rfl))) (mvT hZ (hw _ (List.mem_of_getElem? (i := 6) rfl))) (by decide) (backOf (W := 0) (rmIV l Z a0 hw [] p3 ca cc h20 n0 Z20 f22 hS0 hS1 hB1) hZ (hw _ (List.mem_of_getElem? (i := 6) rfl)) (hw _ (List.mem_of_getElem? (i := 5) rfl)) (by decide) (by decide)) (g := (mkF m 58 #[.val (.int p1), .val (.int p2), .val (.int p3), .val (.int ((p1 &&& (2147483647 : Int32)) % (6 : Int32))), .val (.ref b1), .unset, .unset, .unset] [(.int p3)])) rfl (by rw [hml]; rfl) (argsL := [(.int p3)]) (rest := []) (lenOf pd_3 rfl) rfl (by show 2 * 0 + _ ≤ _; exact Nat.le_of_eq rfl) (hb hby at_58) (fun _ _ => ⟨rfl, e20, (by decide : 6 + 1 ≤ _), (by decide : 10 + 1 ≤ _)⟩)
  dsimp only [Pt.U, Pt.locs, Pt.cells, Pt.slots] at X23 l23 y23 z23 st23 hQ23
  subst l23 y23 z23
  obtain ⟨bx23, hv23, N23q, kp23, EB23, FB23⟩ := hQ23
  subst hv23
  have N23 := Fr.app N20 N23q
  have Z23 : n0 ≤ T23.heap.size := Nat.le_trans Z20 kp23.1
  obtain ⟨T24, h24, X24, e24, E24, A24, D24, -, st24⟩ := newO X23 hx hZ hown (hw _ (List.mem_of_getElem? (i := 11) rfl)) (hw _ (List.mem_of_getElem? (i := 12) rfl)) (hw _ (List.mem_of_getElem? (i := 13) rfl)) rfl (g := (mkF m 63 #[.val (.int p1), .val (.int p2), .val (.int p3), .val (.int ((p1 &&& (2147483647 : Int32)) % (6 : Int32))), .val (.ref b1), .val (.ref bx23), .unset, .unset] [])) rfl (hb hby at_63) (by decide) (by decide)
  obtain ⟨b24, g24⟩ : ∃ z, z = T23.heap.size := ⟨_, rfl⟩
  rw [← g24] at A24 D24 st24
  have f25 := (V20.keep kp23 nin0)
  have ne_b1_b24 : b1 ≠ b24 := Nat.ne_of_lt (Nat.lt_of_lt_of_le (f25).lt (Nat.le_of_eq g24.symm))
  have f26 := ((((((((((EB3.wr W4).keep kp7).wr W8).keep kp11).wr W12).keep kp15).wr W16).keep kp19).wr W20).keep kp23)
  have ne_bx3_b24 : bx3 ≠ b24 := Nat.ne_of_lt (Nat.lt_of_lt_of_le (f26).lt (Nat.le_of_eq g24.symm))
  have f27 := ((((((((EB7.wr W8).keep kp11).wr W12).keep kp15).wr W16).keep kp19).wr W20).keep kp23)
  have ne_bx7_b24 : bx7 ≠ b24 := Nat.ne_of_lt (Nat.lt_of_lt_of_le (f27).lt (Nat.le_of_eq g24.symm))
  have f28 := ((((((EB11.wr W12).keep kp15).wr W16).keep kp19).wr W20).keep kp23)
  have ne_bx11_b24 : bx11 ≠ b24 := Nat.ne_of_lt (Nat.lt_of_lt_of_le (f28).lt (Nat.le_of_eq g24.symm))
  have f29 := ((((EB15.wr W16).keep kp19).wr W20).keep kp23)
  have ne_bx15_b24 : bx15 ≠ b24 := Nat.ne_of_lt (Nat.lt_of_lt_of_le (f29).lt (Nat.le_of_eq g24.symm))
  have f30 := ((EB19.wr W20).keep kp23)
  have ne_bx19_b24 : bx19 ≠ b24 := Nat.ne_of_lt (Nat.lt_of_lt_of_le (f30).lt (Nat.le_of_eq g24.symm))
  have ne_bx23_b24 : bx23 ≠ b24 := Nat.ne_of_lt (Nat.lt_of_lt_of_le (EB23).lt (Nat.le_of_eq g24.symm))
  have gb_b24 : n0 ≤ b24 := Nat.le_trans Z23 (Nat.le_of_eq g24.symm)
  have Z24 : n0 ≤ h24.size := Nat.le_trans Z23 E24.1
  have F24_modCount : Fld Z h24 b24 "java/util/AbstractList" "modCount" "I" (.int (0 : Int32)) := D24 (Or.inl (hw _ (List.mem_of_getElem? (i := 32) rfl))) (ty := .int) (by decide)
  have F24_chunks : Fld Z h24 b24 "com/example/anchored_threads/anchoredthreads/internal/ChunkedList" "chunks" "[[Ljava/lang/Object;" .null := D24 (Or.inl (hw _ (List.mem_of_getElem? (i := 39) rfl))) (ty := (.array (.array (.object "java/lang/Object")))) (by decide)
  have F24_size : Fld Z h24 b24 "com/example/anchored_threads/anchoredthreads/internal/ChunkedList" "size" "I" (.int (0 : Int32)) := D24 (Or.inl (hw _ (List.mem_of_getElem? (i := 46) rfl))) (ty := .int) (by decide)
  have f32 := (f25.ext E24)
  have lt31 := (f32).lt
  obtain ⟨_, _, ⟨T33, L33, k33, n33⟩, -, X33, ⟨Lc33, hQ33, l33, y33, z33⟩, st33⟩ := X24.specialBack hx (y := (⟨"com/example/anchored_threads/anchoredthreads/internal/ChunkedList", "<init>", "()V"⟩ : MethodName)) rfl hown (mvT hZ (hw _ (List.mem_of_getElem? (i := 14) rfl))) (mvT hZ (hw _ (List.mem_of_getElem? (i := 15) rfl))) (mvT hZ (hw _ (List.mem_of_getElem? (i := 16) rfl))) (by decide) (backOf (W := 1) (rmCI l Z a0 hw [] b24 h24 n0 Z24 A24 F24_modCount F24_size F24_chunks gb_b24) hZ (hw _ (List.mem_of_getElem? (i := 16) rfl)) (hw _ (List.mem_of_getElem? (i := 13) rfl)) (by decide) (by decide)) (g := (mkF m 67 #[.val (.int p1), .val (.int p2), .val (.int p3), .val (.int ((p1 &&& (2147483647 : Int32)) % (6 : Int32))), .val (.ref b1), .val (.ref bx23), .unset, .unset] [(.ref b24), (.ref b24)])) rfl (by rw [hml]; rfl) (Steps.refl _) (a := b24) (argsL := []) (rest := [(.ref b24)]) (lenOf pd_0 rfl) rfl (by show 2 * 0 + _ ≤ _; exact Nat.le_of_eq rfl) (hb hby at_67) (fun _ _ => ⟨rfl, e24, (by decide : 8 + 2 ≤ _), (by decide : 14 + 5 ≤ _)⟩)
  dsimp only [Pt.U, Pt.locs, Pt.cells, Pt.slots] at X33 l33 y33 z33 st33 hQ33
  subst l33 y33 z33
  obtain ⟨hv33, N33q, kp33, ch33, ea33, kc33, ke33, sc33, se33, hC33⟩ := hQ33
  subst hv33
  have N33 := Fr.app N23 N33q
  have Z33 : n0 ≤ T33.heap.size := Nat.le_trans Z24 kp33.1
  have nes_c33 : b1 ≠ ch33 := Nat.ne_of_lt (Nat.lt_of_lt_of_le lt31 sc33)
  have nes_e33 : b1 ≠ ea33 := Nat.ne_of_lt (Nat.lt_of_lt_of_le lt31 se33)
  have R34 : ∀ tg, Steps p.tables e below (T33.setTop (mkF m 72 #[.val (.int p1), .val (.int p2), .val (.int p3), .val (.int ((p1 &&& (2147483647 : Int32)) % (6 : Int32))), .val (.ref b1), .val (.ref bx23), .val (.ref b24), .unset] [])) tg → Steps p.tables e below (s₁.setTop (mkF m 0 #[.val (.int p1), .val (.int p2), .val (.int p3), .unset, .unset, .unset, .unset, .unset] [])) tg := by
    intro tg kt
    refine XS.iloadN X0.here hx rfl (hb hby at_0) rfl ?_
    show Steps p.tables e below (s₁.setTop (mkF m 1 #[.val (.int p1), .val (.int p2), .val (.int p3), .unset, .unset, .unset, .unset, .unset] [(.int p1)])) _
    refine X0.ldcInt hx hown (mvT hZ (hw _ (List.mem_of_getElem? (i := 0) rfl))) (g := (mkF m 1 #[.val (.int p1), .val (.int p2), .val (.int p3), .unset, .unset, .unset, .unset, .unset] [(.int p1)])) rfl (hb hby at_1) _ ?_
    show Steps p.tables e below (s₁.setTop (mkF m 3 #[.val (.int p1), .val (.int p2), .val (.int p3), .unset, .unset, .unset, .unset, .unset] [(.int (2147483647 : Int32)), (.int p1)])) _
    refine XS.iand X0.here hx rfl (hb hby at_3) rfl ?_
    show Steps p.tables e below (s₁.setTop (mkF m 4 #[.val (.int p1), .val (.int p2), .val (.int p3), .unset, .unset, .unset, .unset, .unset] [(.int (p1 &&& (2147483647 : Int32)))])) _
    refine XS.bipush X0.here hx rfl (hb hby at_4) ?_
    show Steps p.tables e below (s₁.setTop (mkF m 6 #[.val (.int p1), .val (.int p2), .val (.int p3), .unset, .unset, .unset, .unset, .unset] [(.int (6 : Int32)), (.int (p1 &&& (2147483647 : Int32)))])) _
    refine iremM (g := (mkF m 6 #[.val (.int p1), .val (.int p2), .val (.int p3), .unset, .unset, .unset, .unset, .unset] [(.int (6 : Int32)), (.int (p1 &&& (2147483647 : Int32)))])) X0 hx rfl (hb hby at_6) rfl (by decide) ?_
    show Steps p.tables e below (s₁.setTop (mkF m 7 #[.val (.int p1), .val (.int p2), .val (.int p3), .unset, .unset, .unset, .unset, .unset] [(.int ((p1 &&& (2147483647 : Int32)) % (6 : Int32)))])) _
    refine XS.istoreN X0.here hx rfl (hb hby at_7) rfl (l' := #[.val (.int p1), .val (.int p2), .val (.int p3), .val (.int ((p1 &&& (2147483647 : Int32)) % (6 : Int32))), .unset, .unset, .unset, .unset]) rfl ?_
    show Steps p.tables e below (s₁.setTop (mkF m 8 #[.val (.int p1), .val (.int p2), .val (.int p3), .val (.int ((p1 &&& (2147483647 : Int32)) % (6 : Int32))), .unset, .unset, .unset, .unset] [])) _
    refine XS.iconst X0.here hx rfl (hb hby at_8) ?_
    show Steps p.tables e below (s₁.setTop (mkF m 9 #[.val (.int p1), .val (.int p2), .val (.int p3), .val (.int ((p1 &&& (2147483647 : Int32)) % (6 : Int32))), .unset, .unset, .unset, .unset] [(.int (5 : Int32))])) _
    refine st1 _ ?_
    show Steps p.tables e below (T1.setTop (mkF m 12 #[.val (.int p1), .val (.int p2), .val (.int p3), .val (.int ((p1 &&& (2147483647 : Int32)) % (6 : Int32))), .unset, .unset, .unset, .unset] [(.ref b1)])) _
    refine XS.dup X1.here hx rfl (hb hby at_12) rfl rfl ?_
    show Steps p.tables e below (T1.setTop (mkF m 13 #[.val (.int p1), .val (.int p2), .val (.int p3), .val (.int ((p1 &&& (2147483647 : Int32)) % (6 : Int32))), .unset, .unset, .unset, .unset] [(.ref b1), (.ref b1)])) _
    refine XS.iconst X1.here hx rfl (hb hby at_13) ?_
    show Steps p.tables e below (T1.setTop (mkF m 14 #[.val (.int p1), .val (.int p2), .val (.int p3), .val (.int ((p1 &&& (2147483647 : Int32)) % (6 : Int32))), .unset, .unset, .unset, .unset] [(.int (0 : Int32)), (.ref b1), (.ref b1)])) _
    refine XS.iloadN X1.here hx rfl (hb hby at_14) rfl ?_
    show Steps p.tables e below (T1.setTop (mkF m 15 #[.val (.int p1), .val (.int p2), .val (.int p3), .val (.int ((p1 &&& (2147483647 : Int32)) % (6 : Int32))), .unset, .unset, .unset, .unset] [(.int p2), (.int (0 : Int32)), (.ref b1), (.ref b1)])) _
    refine st3 _ ?_
    show Steps p.tables e below (T3.setTop (mkF m 18 #[.val (.int p1), .val (.int p2), .val (.int p3), .val (.int ((p1 &&& (2147483647 : Int32)) % (6 : Int32))), .unset, .unset, .unset, .unset] [(.ref bx3), (.int (0 : Int32)), (.ref b1), (.ref b1)])) _
    refine st4 _ ?_
    show Steps p.tables e below (T4.setTop (mkF m 19 #[.val (.int p1), .val (.int p2), .val (.int p3), .val (.int ((p1 &&& (2147483647 : Int32)) % (6 : Int32))), .unset, .unset, .unset, .unset] [(.ref b1)])) _
    refine XS.dup X4.here hx rfl (hb hby at_19) rfl rfl ?_
    show Steps p.tables e below (T4.setTop (mkF m 20 #[.val (.int p1), .val (.int p2), .val (.int p3), .val (.int ((p1 &&& (2147483647 : Int32)) % (6 : Int32))), .unset, .unset, .unset, .unset] [(.ref b1), (.ref b1)])) _
    refine XS.iconst X4.here hx rfl (hb hby at_20) ?_
    show Steps p.tables e below (T4.setTop (mkF m 21 #[.val (.int p1), .val (.int p2), .val (.int p3), .val (.int ((p1 &&& (2147483647 : Int32)) % (6 : Int32))), .unset, .unset, .unset, .unset] [(.int (1 : Int32)), (.ref b1), (.ref b1)])) _
    refine XS.iloadN X4.here hx rfl (hb hby at_21) rfl ?_
    show Steps p.tables e below (T4.setTop (mkF m 22 #[.val (.int p1), .val (.int p2), .val (.int p3), .val (.int ((p1 &&& (2147483647 : Int32)) % (6 : Int32))), .unset, .unset, .unset, .unset] [(.int p2), (.int (1 : Int32)), (.ref b1), (.ref b1)])) _
    refine XS.iconst X4.here hx rfl (hb hby at_22) ?_
    show Steps p.tables e below (T4.setTop (mkF m 23 #[.val (.int p1), .val (.int p2), .val (.int p3), .val (.int ((p1 &&& (2147483647 : Int32)) % (6 : Int32))), .unset, .unset, .unset, .unset] [(.int (1 : Int32)), (.int p2), (.int (1 : Int32)), (.ref b1), (.ref b1)])) _
    refine XS.ixor X4.here hx rfl (hb hby at_23) rfl ?_
    show Steps p.tables e below (T4.setTop (mkF m 24 #[.val (.int p1), .val (.int p2), .val (.int p3), .val (.int ((p1 &&& (2147483647 : Int32)) % (6 : Int32))), .unset, .unset, .unset, .unset] [(.int (p2 ^^^ (1 : Int32))), (.int (1 : Int32)), (.ref b1), (.ref b1)])) _
    refine st7 _ ?_
    show Steps p.tables e below (T7.setTop (mkF m 27 #[.val (.int p1), .val (.int p2), .val (.int p3), .val (.int ((p1 &&& (2147483647 : Int32)) % (6 : Int32))), .unset, .unset, .unset, .unset] [(.ref bx7), (.int (1 : Int32)), (.ref b1), (.ref b1)])) _
    refine st8 _ ?_
    show Steps p.tables e below (T8.setTop (mkF m 28 #[.val (.int p1), .val (.int p2), .val (.int p3), .val (.int ((p1 &&& (2147483647 : Int32)) % (6 : Int32))), .unset, .unset, .unset, .unset] [(.ref b1)])) _
    refine XS.dup X8.here hx rfl (hb hby at_28) rfl rfl ?_
    show Steps p.tables e below (T8.setTop (mkF m 29 #[.val (.int p1), .val (.int p2), .val (.int p3), .val (.int ((p1 &&& (2147483647 : Int32)) % (6 : Int32))), .unset, .unset, .unset, .unset] [(.ref b1), (.ref b1)])) _
    refine XS.iconst X8.here hx rfl (hb hby at_29) ?_
    show Steps p.tables e below (T8.setTop (mkF m 30 #[.val (.int p1), .val (.int p2), .val (.int p3), .val (.int ((p1 &&& (2147483647 : Int32)) % (6 : Int32))), .unset, .unset, .unset, .unset] [(.int (2 : Int32)), (.ref b1), (.ref b1)])) _
    refine XS.iloadN X8.here hx rfl (hb hby at_30) rfl ?_
    show Steps p.tables e below (T8.setTop (mkF m 31 #[.val (.int p1), .val (.int p2), .val (.int p3), .val (.int ((p1 &&& (2147483647 : Int32)) % (6 : Int32))), .unset, .unset, .unset, .unset] [(.int p2), (.int (2 : Int32)), (.ref b1), (.ref b1)])) _
    refine XS.iconst X8.here hx rfl (hb hby at_31) ?_
    show Steps p.tables e below (T8.setTop (mkF m 32 #[.val (.int p1), .val (.int p2), .val (.int p3), .val (.int ((p1 &&& (2147483647 : Int32)) % (6 : Int32))), .unset, .unset, .unset, .unset] [(.int (2 : Int32)), (.int p2), (.int (2 : Int32)), (.ref b1), (.ref b1)])) _
    refine XS.ixor X8.here hx rfl (hb hby at_32) rfl ?_
    show Steps p.tables e below (T8.setTop (mkF m 33 #[.val (.int p1), .val (.int p2), .val (.int p3), .val (.int ((p1 &&& (2147483647 : Int32)) % (6 : Int32))), .unset, .unset, .unset, .unset] [(.int (p2 ^^^ (2 : Int32))), (.int (2 : Int32)), (.ref b1), (.ref b1)])) _
    refine st11 _ ?_
    show Steps p.tables e below (T11.setTop (mkF m 36 #[.val (.int p1), .val (.int p2), .val (.int p3), .val (.int ((p1 &&& (2147483647 : Int32)) % (6 : Int32))), .unset, .unset, .unset, .unset] [(.ref bx11), (.int (2 : Int32)), (.ref b1), (.ref b1)])) _
    refine st12 _ ?_
    show Steps p.tables e below (T12.setTop (mkF m 37 #[.val (.int p1), .val (.int p2), .val (.int p3), .val (.int ((p1 &&& (2147483647 : Int32)) % (6 : Int32))), .unset, .unset, .unset, .unset] [(.ref b1)])) _
    refine XS.dup X12.here hx rfl (hb hby at_37) rfl rfl ?_
    show Steps p.tables e below (T12.setTop (mkF m 38 #[.val (.int p1), .val (.int p2), .val (.int p3), .val (.int ((p1 &&& (2147483647 : Int32)) % (6 : Int32))), .unset, .unset, .unset, .unset] [(.ref b1), (.ref b1)])) _
    refine XS.iconst X12.here hx rfl (hb hby at_38) ?_
    show Steps p.tables e below (T12.setTop (mkF m 39 #[.val (.int p1), .val (.int p2), .val (.int p3), .val (.int ((p1 &&& (2147483647 : Int32)) % (6 : Int32))), .unset, .unset, .unset, .unset] [(.int (3 : Int32)), (.ref b1), (.ref b1)])) _
    refine XS.iloadN X12.here hx rfl (hb hby at_39) rfl ?_
    show Steps p.tables e below (T12.setTop (mkF m 40 #[.val (.int p1), .val (.int p2), .val (.int p3), .val (.int ((p1 &&& (2147483647 : Int32)) % (6 : Int32))), .unset, .unset, .unset, .unset] [(.int p2), (.int (3 : Int32)), (.ref b1), (.ref b1)])) _
    refine XS.iconst X12.here hx rfl (hb hby at_40) ?_
    show Steps p.tables e below (T12.setTop (mkF m 41 #[.val (.int p1), .val (.int p2), .val (.int p3), .val (.int ((p1 &&& (2147483647 : Int32)) % (6 : Int32))), .unset, .unset, .unset, .unset] [(.int (3 : Int32)), (.int p2), (.int (3 : Int32)), (.ref b1), (.ref b1)])) _
    refine XS.ixor X12.here hx rfl (hb hby at_41) rfl ?_
    show Steps p.tables e below (T12.setTop (mkF m 42 #[.val (.int p1), .val (.int p2), .val (.int p3), .val (.int ((p1 &&& (2147483647 : Int32)) % (6 : Int32))), .unset, .unset, .unset, .unset] [(.int (p2 ^^^ (3 : Int32))), (.int (3 : Int32)), (.ref b1), (.ref b1)])) _
    refine st15 _ ?_
    show Steps p.tables e below (T15.setTop (mkF m 45 #[.val (.int p1), .val (.int p2), .val (.int p3), .val (.int ((p1 &&& (2147483647 : Int32)) % (6 : Int32))), .unset, .unset, .unset, .unset] [(.ref bx15), (.int (3 : Int32)), (.ref b1), (.ref b1)])) _
    refine st16 _ ?_
    show Steps p.tables e below (T16.setTop (mkF m 46 #[.val (.int p1), .val (.int p2), .val (.int p3), .val (.int ((p1 &&& (2147483647 : Int32)) % (6 : Int32))), .unset, .unset, .unset, .unset] [(.ref b1)])) _
    refine XS.dup X16.here hx rfl (hb hby at_46) rfl rfl ?_
    show Steps p.tables e below (T16.setTop (mkF m 47 #[.val (.int p1), .val (.int p2), .val (.int p3), .val (.int ((p1 &&& (2147483647 : Int32)) % (6 : Int32))), .unset, .unset, .unset, .unset] [(.ref b1), (.ref b1)])) _
    refine XS.iconst X16.here hx rfl (hb hby at_47) ?_
    show Steps p.tables e below (T16.setTop (mkF m 48 #[.val (.int p1), .val (.int p2), .val (.int p3), .val (.int ((p1 &&& (2147483647 : Int32)) % (6 : Int32))), .unset, .unset, .unset, .unset] [(.int (4 : Int32)), (.ref b1), (.ref b1)])) _
    refine XS.iloadN X16.here hx rfl (hb hby at_48) rfl ?_
    show Steps p.tables e below (T16.setTop (mkF m 49 #[.val (.int p1), .val (.int p2), .val (.int p3), .val (.int ((p1 &&& (2147483647 : Int32)) % (6 : Int32))), .unset, .unset, .unset, .unset] [(.int p2), (.int (4 : Int32)), (.ref b1), (.ref b1)])) _
    refine XS.iconst X16.here hx rfl (hb hby at_49) ?_
    show Steps p.tables e below (T16.setTop (mkF m 50 #[.val (.int p1), .val (.int p2), .val (.int p3), .val (.int ((p1 &&& (2147483647 : Int32)) % (6 : Int32))), .unset, .unset, .unset, .unset] [(.int (4 : Int32)), (.int p2), (.int (4 : Int32)), (.ref b1), (.ref b1)])) _
    refine XS.ixor X16.here hx rfl (hb hby at_50) rfl ?_
    show Steps p.tables e below (T16.setTop (mkF m 51 #[.val (.int p1), .val (.int p2), .val (.int p3), .val (.int ((p1 &&& (2147483647 : Int32)) % (6 : Int32))), .unset, .unset, .unset, .unset] [(.int (p2 ^^^ (4 : Int32))), (.int (4 : Int32)), (.ref b1), (.ref b1)])) _
    refine st19 _ ?_
    show Steps p.tables e below (T19.setTop (mkF m 54 #[.val (.int p1), .val (.int p2), .val (.int p3), .val (.int ((p1 &&& (2147483647 : Int32)) % (6 : Int32))), .unset, .unset, .unset, .unset] [(.ref bx19), (.int (4 : Int32)), (.ref b1), (.ref b1)])) _
    refine st20 _ ?_
    show Steps p.tables e below (T20.setTop (mkF m 55 #[.val (.int p1), .val (.int p2), .val (.int p3), .val (.int ((p1 &&& (2147483647 : Int32)) % (6 : Int32))), .unset, .unset, .unset, .unset] [(.ref b1)])) _
    refine XS.astore X20.here hx rfl (hb hby at_55) rfl rfl (l' := #[.val (.int p1), .val (.int p2), .val (.int p3), .val (.int ((p1 &&& (2147483647 : Int32)) % (6 : Int32))), .val (.ref b1), .unset, .unset, .unset]) rfl ?_
    show Steps p.tables e below (T20.setTop (mkF m 57 #[.val (.int p1), .val (.int p2), .val (.int p3), .val (.int ((p1 &&& (2147483647 : Int32)) % (6 : Int32))), .val (.ref b1), .unset, .unset, .unset] [])) _
    refine XS.iloadN X20.here hx rfl (hb hby at_57) rfl ?_
    show Steps p.tables e below (T20.setTop (mkF m 58 #[.val (.int p1), .val (.int p2), .val (.int p3), .val (.int ((p1 &&& (2147483647 : Int32)) % (6 : Int32))), .val (.ref b1), .unset, .unset, .unset] [(.int p3)])) _
    refine st23 _ ?_
    show Steps p.tables e below (T23.setTop (mkF m 61 #[.val (.int p1), .val (.int p2), .val (.int p3), .val (.int ((p1 &&& (2147483647 : Int32)) % (6 : Int32))), .val (.ref b1), .unset, .unset, .unset] [(.ref bx23)])) _
    refine XS.astore X23.here hx rfl (hb hby at_61) rfl rfl (l' := #[.val (.int p1), .val (.int p2), .val (.int p3), .val (.int ((p1 &&& (2147483647 : Int32)) % (6 : Int32))), .val (.ref b1), .val (.ref bx23), .unset, .unset]) rfl ?_
    show Steps p.tables e below (T23.setTop (mkF m 63 #[.val (.int p1), .val (.int p2), .val (.int p3), .val (.int ((p1 &&& (2147483647 : Int32)) % (6 : Int32))), .val (.ref b1), .val (.ref bx23), .unset, .unset] [])) _
    refine st24 _ ?_
    show Steps p.tables e below (T24.setTop (mkF m 66 #[.val (.int p1), .val (.int p2), .val (.int p3), .val (.int ((p1 &&& (2147483647 : Int32)) % (6 : Int32))), .val (.ref b1), .val (.ref bx23), .unset, .unset] [(.ref b24)])) _
    refine XS.dup X24.here hx rfl (hb hby at_66) rfl rfl ?_
    show Steps p.tables e below (T24.setTop (mkF m 67 #[.val (.int p1), .val (.int p2), .val (.int p3), .val (.int ((p1 &&& (2147483647 : Int32)) % (6 : Int32))), .val (.ref b1), .val (.ref bx23), .unset, .unset] [(.ref b24), (.ref b24)])) _
    refine st33.trans ?_
    show Steps p.tables e below (T33.setTop (mkF m 70 #[.val (.int p1), .val (.int p2), .val (.int p3), .val (.int ((p1 &&& (2147483647 : Int32)) % (6 : Int32))), .val (.ref b1), .val (.ref bx23), .unset, .unset] [(.ref b24)])) _
    refine XS.astore X33.here hx rfl (hb hby at_70) rfl rfl (l' := #[.val (.int p1), .val (.int p2), .val (.int p3), .val (.int ((p1 &&& (2147483647 : Int32)) % (6 : Int32))), .val (.ref b1), .val (.ref bx23), .val (.ref b24), .unset]) rfl ?_
    show Steps p.tables e below (T33.setTop (mkF m 72 #[.val (.int p1), .val (.int p2), .val (.int p3), .val (.int ((p1 &&& (2147483647 : Int32)) % (6 : Int32))), .val (.ref b1), .val (.ref bx23), .val (.ref b24), .unset] [])) _
    exact kt
  rcases own_m6 p1 with hk35 | hk35 | hk35 | hk35 | hk35 | hk35
  · have R36 : ∀ tg, Steps p.tables e below (T33.setTop (mkF m 72 #[.val (.int p1), .val (.int p2), .val (.int p3), .val (.int (0 : Int32)), .val (.ref b1), .val (.ref bx23), .val (.ref b24), .unset] [])) tg → Steps p.tables e below (T33.setTop (mkF m 72 #[.val (.int p1), .val (.int p2), .val (.int p3), .val (.int ((p1 &&& (2147483647 : Int32)) % (6 : Int32))), .val (.ref b1), .val (.ref bx23), .val (.ref b24), .unset] [])) tg := fun tg kt => by rw [hk35]; exact kt
    obtain ⟨cq37, kq37, q37a, q37b, q37c⟩ := isOf hZ rfl hC33.1
    obtain ⟨_, _, ⟨T37, L37, k37, n37⟩, -, X37, ⟨Lc37, hQ37, l37, y37, z37⟩, st37⟩ := X33.virtualBack hx (y := (⟨"com/example/anchored_threads/anchoredthreads/internal/ChunkedList", "size", "()I"⟩ : MethodName)) (z := (⟨"com/example/anchored_threads/anchoredthreads/internal/ChunkedList", "size", "()I"⟩ : MethodName)) hown (mvT hZ (hw _ (List.mem_of_getElem? (i := 40) rfl))) (mvT hZ (hw _ (List.mem_of_getElem? (i := 41) rfl))) (notFace_of_selects (args := #[]) (mvT hZ (hw _ (List.mem_of_getElem? (i := 43) rfl)))) (mvT hZ (hw _ (List.mem_of_getElem? (i := 43) rfl))) (mvT hZ (hw _ (List.mem_of_getElem? (i := 42) rfl))) (by decide) (backOf (W := 0) (rmSz l Z a0 hw [] b24 (0 : Int32) T33.heap n0 Z33 hC33.2.1) hZ (hw _ (List.mem_of_getElem? (i := 44) rfl)) (hw _ (List.mem_of_getElem? (i := 13) rfl)) (by decide) (by decide)) q37a q37c (g := (mkF m 152 #[.val (.int p1), .val (.int p2), .val (.int p3), .val (.int (0 : Int32)), .val (.ref b1), .val (.ref bx23), .val (.ref b24), .unset] [(.ref b24)])) rfl (by rw [hml]; rfl) (Steps.refl _) (argsL := []) (rest := []) (lenOf pd_4 rfl) rfl (by show 2 * 0 + _ ≤ _; exact Nat.le_of_eq rfl) (hb hby at_152) (fun _ _ => ⟨rfl, rfl, (by decide : 10 + 0 ≤ _), (by decide : 19 + 0 ≤ _)⟩)
    dsimp only [Pt.U, Pt.locs, Pt.cells, Pt.slots] at X37 l37 y37 z37 st37 hQ37
    subst l37 y37 z37
    obtain ⟨hv37, N37q, r37⟩ := hQ37
    subst hv37
    have N37 := Fr.app N33 N37q
    obtain ⟨fs, hr, hrun, hended, hW, hsame⟩ := X37.leave (v := some (.int (1 : Int32))) (fun h => by rw [Bd.returns] at h; cases h)
    refine ⟨_, _, pre0 _ (R34 _ (R36 _ ?_)), hrun, hended, _, _, rfl, ?_, ⟨_, rfl⟩, hW, hsame.mono (by decide) (by decide)⟩
    · show Steps p.tables e below (T33.setTop (mkF m 72 #[.val (.int p1), .val (.int p2), .val (.int p3), .val (.int (0 : Int32)), .val (.ref b1), .val (.ref bx23), .val (.ref b24), .unset] [])) _
      refine XS.iloadN X33.here hx rfl (hb hby at_72) rfl ?_
      show Steps p.tables e below (T33.setTop (mkF m 73 #[.val (.int p1), .val (.int p2), .val (.int p3), .val (.int (0 : Int32)), .val (.ref b1), .val (.ref bx23), .val (.ref b24), .unset] [(.int (0 : Int32))])) _
      refine XS.ifYes X33.here hx rfl (pc0 := 73) (pc' := 86) rfl (hb hby at_73) rfl ((if0 _ _).trans (flt (by decide : ¬ ((0 : Int32) < (0 : Int32)))).2.2.2) (by decide) (by decide) ?_
      show Steps p.tables e below (T33.setTop (mkF m 86 #[.val (.int p1), .val (.int p2), .val (.int p3), .val (.int (0 : Int32)), .val (.ref b1), .val (.ref bx23), .val (.ref b24), .unset] [])) _
      refine XS.iloadN X33.here hx rfl (hb hby at_86) rfl ?_
      show Steps p.tables e below (T33.setTop (mkF m 87 #[.val (.int p1), .val (.int p2), .val (.int p3), .val (.int (0 : Int32)), .val (.ref b1), .val (.ref bx23), .val (.ref b24), .unset] [(.int (0 : Int32))])) _
      refine XS.iconst X33.here hx rfl (hb hby at_87) ?_
      show Steps p.tables e below (T33.setTop (mkF m 88 #[.val (.int p1), .val (.int p2), .val (.int p3), .val (.int (0 : Int32)), .val (.ref b1), .val (.ref bx23), .val (.ref b24), .unset] [(.int (1 : Int32)), (.int (0 : Int32))])) _
      refine XS.icmpYes X33.here hx rfl (pc0 := 88) (pc' := 101) rfl (hb hby at_88) rfl (flt (by decide : ¬ ((1 : Int32) < (0 : Int32)))).2.2.2 (by decide) (by decide) ?_
      show Steps p.tables e below (T33.setTop (mkF m 101 #[.val (.int p1), .val (.int p2), .val (.int p3), .val (.int (0 : Int32)), .val (.ref b1), .val (.ref bx23), .val (.ref b24), .unset] [])) _
      refine XS.iloadN X33.here hx rfl (hb hby at_101) rfl ?_
      show Steps p.tables e below (T33.setTop (mkF m 102 #[.val (.int p1), .val (.int p2), .val (.int p3), .val (.int (0 : Int32)), .val (.ref b1), .val (.ref bx23), .val (.ref b24), .unset] [(.int (0 : Int32))])) _
      refine XS.iconst X33.here hx rfl (hb hby at_102) ?_
      show Steps p.tables e below (T33.setTop (mkF m 103 #[.val (.int p1), .val (.int p2), .val (.int p3), .val (.int (0 : Int32)), .val (.ref b1), .val (.ref bx23), .val (.ref b24), .unset] [(.int (2 : Int32)), (.int (0 : Int32))])) _
      refine XS.icmpYes X33.here hx rfl (pc0 := 103) (pc' := 116) rfl (hb hby at_103) rfl (flt (by decide : ¬ ((2 : Int32) < (0 : Int32)))).2.2.2 (by decide) (by decide) ?_
      show Steps p.tables e below (T33.setTop (mkF m 116 #[.val (.int p1), .val (.int p2), .val (.int p3), .val (.int (0 : Int32)), .val (.ref b1), .val (.ref bx23), .val (.ref b24), .unset] [])) _
      refine XS.iloadN X33.here hx rfl (hb hby at_116) rfl ?_
      show Steps p.tables e below (T33.setTop (mkF m 117 #[.val (.int p1), .val (.int p2), .val (.int p3), .val (.int (0 : Int32)), .val (.ref b1), .val (.ref bx23), .val (.ref b24), .unset] [(.int (0 : Int32))])) _
      refine XS.iconst X33.here hx rfl (hb hby at_117) ?_
      show Steps p.tables e below (T33.setTop (mkF m 118 #[.val (.int p1), .val (.int p2), .val (.int p3), .val (.int (0 : Int32)), .val (.ref b1), .val (.ref bx23), .val (.ref b24), .unset] [(.int (3 : Int32)), (.int (0 : Int32))])) _
      refine XS.icmpYes X33.here hx rfl (pc0 := 118) (pc' := 131) rfl (hb hby at_118) rfl (flt (by decide : ¬ ((3 : Int32) < (0 : Int32)))).2.2.2 (by decide) (by decide) ?_
      show Steps p.tables e below (T33.setTop (mkF m 131 #[.val (.int p1), .val (.int p2), .val (.int p3), .val (.int (0 : Int32)), .val (.ref b1), .val (.ref bx23), .val (.ref b24), .unset] [])) _
      refine XS.iloadN X33.here hx rfl (hb hby at_131) rfl ?_
      show Steps p.tables e below (T33.setTop (mkF m 132 #[.val (.int p1), .val (.int p2), .val (.int p3), .val (.int (0 : Int32)), .val (.ref b1), .val (.ref bx23), .val (.ref b24), .unset] [(.int (0 : Int32))])) _
      refine XS.iconst X33.here hx rfl (hb hby at_132) ?_
      show Steps p.tables e below (T33.setTop (mkF m 133 #[.val (.int p1), .val (.int p2), .val (.int p3), .val (.int (0 : Int32)), .val (.ref b1), .val (.ref bx23), .val (.ref b24), .unset] [(.int (4 : Int32)), (.int (0 : Int32))])) _
      refine XS.icmpYes X33.here hx rfl (pc0 := 133) (pc' := 146) rfl (hb hby at_133) rfl (flt (by decide : ¬ ((4 : Int32) < (0 : Int32)))).2.2.2 (by decide) (by decide) ?_
      show Steps p.tables e below (T33.setTop (mkF m 146 #[.val (.int p1), .val (.int p2), .val (.int p3), .val (.int (0 : Int32)), .val (.ref b1), .val (.ref bx23), .val (.ref b24), .unset] [])) _
      refine XS.iloadN X33.here hx rfl (hb hby at_146) rfl ?_
      show Steps p.tables e below (T33.setTop (mkF m 147 #[.val (.int p1), .val (.int p2), .val (.int p3), .val (.int (0 : Int32)), .val (.ref b1), .val (.ref bx23), .val (.ref b24), .unset] [(.int (0 : Int32))])) _
      refine XS.ifNo X33.here hx rfl (hb hby at_147) rfl ((if0 _ _).trans (teq (by decide : (0 : Int32) = (0 : Int32))).2) ?_
      show Steps p.tables e below (T33.setTop (mkF m 150 #[.val (.int p1), .val (.int p2), .val (.int p3), .val (.int (0 : Int32)), .val (.ref b1), .val (.ref bx23), .val (.ref b24), .unset] [])) _
      refine XS.aload X33.here hx rfl (hb hby at_150) rfl rfl ?_
      show Steps p.tables e below (T33.setTop (mkF m 152 #[.val (.int p1), .val (.int p2), .val (.int p3), .val (.int (0 : Int32)), .val (.ref b1), .val (.ref bx23), .val (.ref b24), .unset] [(.ref b24)])) _
      refine st37.trans ?_
      show Steps p.tables e below (T37.setTop (mkF m 155 #[.val (.int p1), .val (.int p2), .val (.int p3), .val (.int (0 : Int32)), .val (.ref b1), .val (.ref bx23), .val (.ref b24), .unset] [(.int (0 : Int32))])) _
      refine XS.ifNo X37.here hx rfl (hb hby at_155) rfl ((if0 _ _).trans (teq (by decide : (0 : Int32) = (0 : Int32))).2) ?_
      show Steps p.tables e below (T37.setTop (mkF m 158 #[.val (.int p1), .val (.int p2), .val (.int p3), .val (.int (0 : Int32)), .val (.ref b1), .val (.ref bx23), .val (.ref b24), .unset] [])) _
      refine XS.iconst X37.here hx rfl (hb hby at_158) ?_
      show Steps p.tables e below (T37.setTop (mkF m 159 #[.val (.int p1), .val (.int p2), .val (.int p3), .val (.int (0 : Int32)), .val (.ref b1), .val (.ref bx23), .val (.ref b24), .unset] [(.int (1 : Int32))])) _
      refine XS.goto X37.here hx rfl (pc0 := 159) (pc' := 163) rfl (hb hby at_159) (by decide) (by decide) ?_
      show Steps p.tables e below (T37.setTop (mkF m 163 #[.val (.int p1), .val (.int p2), .val (.int p3), .val (.int (0 : Int32)), .val (.ref b1), .val (.ref bx23), .val (.ref b24), .unset] [(.int (1 : Int32))])) _
      exact retN X37 hx (t := .boolean) Bd.returns (by simp) (hb hby at_163) hr
    · show Q0 n0 _ T37.heap _
      rw [r37]
      exact ⟨rfl, N37⟩
  · have R38 : ∀ tg, Steps p.tables e below (T33.setTop (mkF m 72 #[.val (.int p1), .val (.int p2), .val (.int p3), .val (.int (1 : Int32)), .val (.ref b1), .val (.ref bx23), .val (.ref b24), .unset] [])) tg → Steps p.tables e below (T33.setTop (mkF m 72 #[.val (.int p1), .val (.int p2), .val (.int p3), .val (.int ((p1 &&& (2147483647 : Int32)) % (6 : Int32))), .val (.ref b1), .val (.ref bx23), .val (.ref b24), .unset] [])) tg := fun tg kt => by rw [hk35]; exact kt
    have f40 := (f32.keep kp33 (ninS ne_b1_b24 nin0))
    obtain ⟨cl39, Ar39, q39, Sz39, Nn39, Ha39, Ga39⟩ := id f40
    have hin39 : ¬ ((0 : Int32) < 0 ∨ cl39.slots.size ≤ ((0 : Int32)).toNatClampNeg) := inb_of Sz39 ⟨by decide, by decide⟩
    have hat39 : cl39.slots[((0 : Int32)).toNatClampNeg]? = some (.ref bx3) := Ha39.at hin39 rfl
    have f41 := ((f26.ext E24).keep kp33)
    obtain ⟨cq42, kq42, q42a, q42b, q42c⟩ := isOf hZ rfl hC33.1
    obtain ⟨_, _, ⟨T42, L42, k42, n42⟩, -, X42, ⟨Lc42, hQ42, l42, y42, z42⟩, st42⟩ := X33.virtualBack hx (y := (⟨"com/example/anchored_threads/anchoredthreads/internal/ChunkedList", "add", "(Ljava/lang/Object;)Z"⟩ : MethodName)) (z := (⟨"com/example/anchored_threads/anchoredthreads/internal/ChunkedList", "add", "(Ljava/lang/Object;)Z"⟩ : MethodName)) hown (mvT hZ (hw _ (List.mem_of_getElem? (i := 47) rfl))) (mvT hZ (hw _ (List.mem_of_getElem? (i := 48) rfl))) (notFace_of_selects (args := #[]) (mvT hZ (hw _ (List.mem_of_getElem? (i := 50) rfl)))) (mvT hZ (hw _ (List.mem_of_getElem? (i := 50) rfl))) (mvT hZ (hw _ (List.mem_of_getElem? (i := 49) rfl))) (by decide) (backOf (W := 0) (rmAd l Z a0 hw [] b24 bx3 ch33 ea33 kc33 ke33 (0 : Int32) (0 : Int32) (4 : Int32) [.null, .null, .null, .null] 0 T33.heap n0 Z33 hC33 f41 (by decide) (by decide) (by decide) ⟨by decide, by decide⟩ rfl (Nat.le_of_ble_eq_true rfl)) hZ (hw _ (List.mem_of_getElem? (i := 51) rfl)) (hw _ (List.mem_of_getElem? (i := 13) rfl)) (by decide) (by decide)) q42a q42c (g := (mkF m 82 #[.val (.int p1), .val (.int p2), .val (.int p3), .val (.int (1 : Int32)), .val (.ref b1), .val (.ref bx23), .val (.ref b24), .unset] [(.ref bx3), (.ref b24)])) rfl (by rw [hml]; rfl) (Steps.refl _) (argsL := [(.ref bx3)]) (rest := []) (lenOf pd_5 rfl) rfl (by show 2 * 0 + _ ≤ _; exact Nat.le_of_eq rfl) (hb hby at_82) (fun _ _ => ⟨rfl, rfl, (by decide : 10 + 0 ≤ _), (by decide : 19 + 0 ≤ _)⟩)
    dsimp only [Pt.U, Pt.locs, Pt.cells, Pt.slots] at X42 l42 y42 z42 st42 hQ42
    subst l42 y42 z42
    obtain ⟨hv42, N42q, kp42, mc42, hC42⟩ := hQ42
    subst hv42
    have N42 := Fr.app N33 N42q
    have Z42 : n0 ≤ T42.heap.size := Nat.le_trans Z33 kp42.1
    have hC42' : CLs Z n0 T42.heap b24 ch33 ea33 kc33 ke33 (1 : Int32) mc42 (4 : Int32) [(.ref bx3), .null, .null, .null] := by
      have q := hC42
      rw [show ((0 : Int32) + 1) = (1 : Int32) from by decide] at q
      exact q
    obtain ⟨cq43, kq43, q43a, q43b, q43c⟩ := isOf hZ rfl hC42'.1
    obtain ⟨_, _, ⟨T43, L43, k43, n43⟩, -, X43, ⟨Lc43, hQ43, l43, y43, z43⟩, st43⟩ := X42.virtualBack hx (y := (⟨"com/example/anchored_threads/anchoredthreads/internal/ChunkedList", "removeLast", "()Ljava/lang/Object;"⟩ : MethodName)) (z := (⟨"com/example/anchored_threads/anchoredthreads/internal/ChunkedList", "removeLast", "()Ljava/lang/Object;"⟩ : MethodName)) hown (mvT hZ (hw _ (List.mem_of_getElem? (i := 55) rfl))) (mvT hZ (hw _ (List.mem_of_getElem? (i := 56) rfl))) (notFace_of_selects (args := #[]) (mvT hZ (hw _ (List.mem_of_getElem? (i := 58) rfl)))) (mvT hZ (hw _ (List.mem_of_getElem? (i := 58) rfl))) (mvT hZ (hw _ (List.mem_of_getElem? (i := 57) rfl))) (by decide) (backOf (W := 0) (rmRl l Z a0 hw [] b24 ch33 ea33 kc33 ke33 (1 : Int32) mc42 (4 : Int32) (0 : Int32) [(.ref bx3), .null, .null, .null] 0 bx3 T42.heap n0 Z42 hC42' (by decide) (by decide) (by decide) (by decide) ⟨by decide, by decide⟩ rfl (Nat.le_of_ble_eq_true rfl) rfl) hZ (hw _ (List.mem_of_getElem? (i := 59) rfl)) (hw _ (List.mem_of_getElem? (i := 13) rfl)) (by decide) (by decide)) q43a q43c (g := (mkF m 166 #[.val (.int p1), .val (.int p2), .val (.int p3), .val (.int (1 : Int32)), .val (.ref b1), .val (.ref bx23), .val (.ref b24), .unset] [(.ref b24)])) rfl (by rw [hml]; rfl) (Steps.refl _) (argsL := []) (rest := []) (lenOf pd_6 rfl) rfl (by show 2 * 0 + _ ≤ _; exact Nat.le_of_eq rfl) (hb hby at_166) (fun _ _ => ⟨rfl, rfl, (by decide : 10 + 0 ≤ _), (by decide : 19 + 0 ≤ _)⟩)
    dsimp only [Pt.U, Pt.locs, Pt.cells, Pt.slots] at X43 l43 y43 z43 st43 hQ43
    subst l43 y43 z43
    obtain ⟨hv43, N43q, kp43, mc43, hC43⟩ := hQ43
    subst hv43
    have N43 := Fr.app N42 N43q
    have Z43 : n0 ≤ T43.heap.size := Nat.le_trans Z42 kp43.1
    have hC43' : CLs Z n0 T43.heap b24 ch33 ea33 kc33 ke33 (0 : Int32) mc43 (4 : Int32) [.null, .null, .null, .null] := hC43
    have R44 : ∀ tg, Steps p.tables e below (T43.setTop (mkF m 174 #[.val (.int p1), .val (.int p2), .val (.int p3), .val (.int (1 : Int32)), .val (.ref b1), .val (.ref bx23), .val (.ref b24), .unset] [(.int ((1 : Int32) - (1 : Int32))), (.ref b1), (.ref bx3)])) tg → Steps p.tables e below (T33.setTop (mkF m 72 #[.val (.int p1), .val (.int p2), .val (.int p3), .val (.int (1 : Int32)), .val (.ref b1), .val (.ref bx23), .val (.ref b24), .unset] [])) tg := by
      intro tg kt
      refine XS.iloadN X33.here hx rfl (hb hby at_72) rfl ?_
      show Steps p.tables e below (T33.setTop (mkF m 73 #[.val (.int p1), .val (.int p2), .val (.int p3), .val (.int (1 : Int32)), .val (.ref b1), .val (.ref bx23), .val (.ref b24), .unset] [(.int (1 : Int32))])) _
      refine XS.ifNo X33.here hx rfl (hb hby at_73) rfl ((if0 _ _).trans (tlt (by decide : (0 : Int32) < (1 : Int32))).2.2.2) ?_
      show Steps p.tables e below (T33.setTop (mkF m 76 #[.val (.int p1), .val (.int p2), .val (.int p3), .val (.int (1 : Int32)), .val (.ref b1), .val (.ref bx23), .val (.ref b24), .unset] [])) _
      refine XS.aload X33.here hx rfl (hb hby at_76) rfl rfl ?_
      show Steps p.tables e below (T33.setTop (mkF m 78 #[.val (.int p1), .val (.int p2), .val (.int p3), .val (.int (1 : Int32)), .val (.ref b1), .val (.ref bx23), .val (.ref b24), .unset] [(.ref b24)])) _
      refine XS.aload X33.here hx rfl (hb hby at_78) rfl rfl ?_
      show Steps p.tables e below (T33.setTop (mkF m 80 #[.val (.int p1), .val (.int p2), .val (.int p3), .val (.int (1 : Int32)), .val (.ref b1), .val (.ref bx23), .val (.ref b24), .unset] [(.ref b1), (.ref b24)])) _
      refine XS.iconst X33.here hx rfl (hb hby at_80) ?_
      show Steps p.tables e below (T33.setTop (mkF m 81 #[.val (.int p1), .val (.int p2), .val (.int p3), .val (.int (1 : Int32)), .val (.ref b1), .val (.ref bx23), .val (.ref b24), .unset] [(.int (0 : Int32)), (.ref b1), (.ref b24)])) _
      refine X33.aaload hx (j := (0 : Int32)) (v := (.ref bx3)) (Ar39.1) (State.isArrayOf_alike hZ.alike Ar39.2.1) rfl Ar39.2.2 hin39 hat39 (g := (mkF m 81 #[.val (.int p1), .val (.int p2), .val (.int p3), .val (.int (1 : Int32)), .val (.ref b1), .val (.ref bx23), .val (.ref b24), .unset] [(.int (0 : Int32)), (.ref b1), (.ref b24)])) rfl rfl (hb hby at_81) _ ?_
      show Steps p.tables e below (T33.setTop (mkF m 82 #[.val (.int p1), .val (.int p2), .val (.int p3), .val (.int (1 : Int32)), .val (.ref b1), .val (.ref bx23), .val (.ref b24), .unset] [(.ref bx3), (.ref b24)])) _
      refine st42.trans ?_
      show Steps p.tables e below (T42.setTop (mkF m 85 #[.val (.int p1), .val (.int p2), .val (.int p3), .val (.int (1 : Int32)), .val (.ref b1), .val (.ref bx23), .val (.ref b24), .unset] [(.int (1 : Int32))])) _
      refine XS.pop X42.here hx rfl (hb hby at_85) rfl rfl ?_
      show Steps p.tables e below (T42.setTop (mkF m 86 #[.val (.int p1), .val (.int p2), .val (.int p3), .val (.int (1 : Int32)), .val (.ref b1), .val (.ref bx23), .val (.ref b24), .unset] [])) _
      refine XS.iloadN X42.here hx rfl (hb hby at_86) rfl ?_
      show Steps p.tables e below (T42.setTop (mkF m 87 #[.val (.int p1), .val (.int p2), .val (.int p3), .val (.int (1 : Int32)), .val (.ref b1), .val (.ref bx23), .val (.ref b24), .unset] [(.int (1 : Int32))])) _
      refine XS.iconst X42.here hx rfl (hb hby at_87) ?_
      show Steps p.tables e below (T42.setTop (mkF m 88 #[.val (.int p1), .val (.int p2), .val (.int p3), .val (.int (1 : Int32)), .val (.ref b1), .val (.ref bx23), .val (.ref b24), .unset] [(.int (1 : Int32)), (.int (1 : Int32))])) _
      refine XS.icmpYes X42.here hx rfl (pc0 := 88) (pc' := 101) rfl (hb hby at_88) rfl (flt (by decide : ¬ ((1 : Int32) < (1 : Int32)))).2.2.2 (by decide) (by decide) ?_
      show Steps p.tables e below (T42.setTop (mkF m 101 #[.val (.int p1), .val (.int p2), .val (.int p3), .val (.int (1 : Int32)), .val (.ref b1), .val (.ref bx23), .val (.ref b24), .unset] [])) _
      refine XS.iloadN X42.here hx rfl (hb hby at_101) rfl ?_
      show Steps p.tables e below (T42.setTop (mkF m 102 #[.val (.int p1), .val (.int p2), .val (.int p3), .val (.int (1 : Int32)), .val (.ref b1), .val (.ref bx23), .val (.ref b24), .unset] [(.int (1 : Int32))])) _
      refine XS.iconst X42.here hx rfl (hb hby at_102) ?_
      show Steps p.tables e below (T42.setTop (mkF m 103 #[.val (.int p1), .val (.int p2), .val (.int p3), .val (.int (1 : Int32)), .val (.ref b1), .val (.ref bx23), .val (.ref b24), .unset] [(.int (2 : Int32)), (.int (1 : Int32))])) _
      refine XS.icmpYes X42.here hx rfl (pc0 := 103) (pc' := 116) rfl (hb hby at_103) rfl (flt (by decide : ¬ ((2 : Int32) < (1 : Int32)))).2.2.2 (by decide) (by decide) ?_
      show Steps p.tables e below (T42.setTop (mkF m 116 #[.val (.int p1), .val (.int p2), .val (.int p3), .val (.int (1 : Int32)), .val (.ref b1), .val (.ref bx23), .val (.ref b24), .unset] [])) _
      refine XS.iloadN X42.here hx rfl (hb hby at_116) rfl ?_
      show Steps p.tables e below (T42.setTop (mkF m 117 #[.val (.int p1), .val (.int p2), .val (.int p3), .val (.int (1 : Int32)), .val (.ref b1), .val (.ref bx23), .val (.ref b24), .unset] [(.int (1 : Int32))])) _
      refine XS.iconst X42.here hx rfl (hb hby at_117) ?_
      show Steps p.tables e below (T42.setTop (mkF m 118 #[.val (.int p1), .val (.int p2), .val (.int p3), .val (.int (1 : Int32)), .val (.ref b1), .val (.ref bx23), .val (.ref b24), .unset] [(.int (3 : Int32)), (.int (1 : Int32))])) _
      refine XS.icmpYes X42.here hx rfl (pc0 := 118) (pc' := 131) rfl (hb hby at_118) rfl (flt (by decide : ¬ ((3 : Int32) < (1 : Int32)))).2.2.2 (by decide) (by decide) ?_
      show Steps p.tables e below (T42.setTop (mkF m 131 #[.val (.int p1), .val (.int p2), .val (.int p3), .val (.int (1 : Int32)), .val (.ref b1), .val (.ref bx23), .val (.ref b24), .unset] [])) _
      refine XS.iloadN X42.here hx rfl (hb hby at_131) rfl ?_
      show Steps p.tables e below (T42.setTop (mkF m 132 #[.val (.int p1), .val (.int p2), .val (.int p3), .val (.int (1 : Int32)), .val (.ref b1), .val (.ref bx23), .val (.ref b24), .unset] [(.int (1 : Int32))])) _
      refine XS.iconst X42.here hx rfl (hb hby at_132) ?_
      show Steps p.tables e below (T42.setTop (mkF m 133 #[.val (.int p1), .val (.int p2), .val (.int p3), .val (.int (1 : Int32)), .val (.ref b1), .val (.ref bx23), .val (.ref b24), .unset] [(.int (4 : Int32)), (.int (1 : Int32))])) _
      refine XS.icmpYes X42.here hx rfl (pc0 := 133) (pc' := 146) rfl (hb hby at_133) rfl (flt (by decide : ¬ ((4 : Int32) < (1 : Int32)))).2.2.2 (by decide) (by decide) ?_
      show Steps p.tables e below (T42.setTop (mkF m 146 #[.val (.int p1), .val (.int p2), .val (.int p3), .val (.int (1 : Int32)), .val (.ref b1), .val (.ref bx23), .val (.ref b24), .unset] [])) _
      refine XS.iloadN X42.here hx rfl (hb hby at_146) rfl ?_
      show Steps p.tables e below (T42.setTop (mkF m 147 #[.val (.int p1), .val (.int p2), .val (.int p3), .val (.int (1 : Int32)), .val (.ref b1), .val (.ref bx23), .val (.ref b24), .unset] [(.int (1 : Int32))])) _
      refine XS.ifYes X42.here hx rfl (pc0 := 147) (pc' := 164) rfl (hb hby at_147) rfl ((if0 _ _).trans (feq (by decide : ¬ ((1 : Int32) = (0 : Int32)))).2) (by decide) (by decide) ?_
      show Steps p.tables e below (T42.setTop (mkF m 164 #[.val (.int p1), .val (.int p2), .val (.int p3), .val (.int (1 : Int32)), .val (.ref b1), .val (.ref bx23), .val (.ref b24), .unset] [])) _
      refine XS.aload X42.here hx rfl (hb hby at_164) rfl rfl ?_
      show Steps p.tables e below (T42.setTop (mkF m 166 #[.val (.int p1), .val (.int p2), .val (.int p3), .val (.int (1 : Int32)), .val (.ref b1), .val (.ref bx23), .val (.ref b24), .unset] [(.ref b24)])) _
      refine st43.trans ?_
      show Steps p.tables e below (T43.setTop (mkF m 169 #[.val (.int p1), .val (.int p2), .val (.int p3), .val (.int (1 : Int32)), .val (.ref b1), .val (.ref bx23), .val (.ref b24), .unset] [(.ref bx3)])) _
      refine XS.aload X43.here hx rfl (hb hby at_169) rfl rfl ?_
      show Steps p.tables e below (T43.setTop (mkF m 171 #[.val (.int p1), .val (.int p2), .val (.int p3), .val (.int (1 : Int32)), .val (.ref b1), .val (.ref bx23), .val (.ref b24), .unset] [(.ref b1), (.ref bx3)])) _
      refine XS.iloadN X43.here hx rfl (hb hby at_171) rfl ?_
      show Steps p.tables e below (T43.setTop (mkF m 172 #[.val (.int p1), .val (.int p2), .val (.int p3), .val (.int (1 : Int32)), .val (.ref b1), .val (.ref bx23), .val (.ref b24), .unset] [(.int (1 : Int32)), (.ref b1), (.ref bx3)])) _
      refine XS.iconst X43.here hx rfl (hb hby at_172) ?_
      show Steps p.tables e below (T43.setTop (mkF m 173 #[.val (.int p1), .val (.int p2), .val (.int p3), .val (.int (1 : Int32)), .val (.ref b1), .val (.ref bx23), .val (.ref b24), .unset] [(.int (1 : Int32)), (.int (1 : Int32)), (.ref b1), (.ref bx3)])) _
      refine XS.isub X43.here hx rfl (hb hby at_173) rfl ?_
      show Steps p.tables e below (T43.setTop (mkF m 174 #[.val (.int p1), .val (.int p2), .val (.int p3), .val (.int (1 : Int32)), .val (.ref b1), .val (.ref bx23), .val (.ref b24), .unset] [(.int ((1 : Int32) - (1 : Int32))), (.ref b1), (.ref bx3)])) _
      exact kt
    have R45 : ∀ tg, Steps p.tables e below (T43.setTop (mkF m 174 #[.val (.int p1), .val (.int p2), .val (.int p3), .val (.int (1 : Int32)), .val (.ref b1), .val (.ref bx23), .val (.ref b24), .unset] [(.int (0 : Int32)), (.ref b1), (.ref bx3)])) tg → Steps p.tables e below (T43.setTop (mkF m 174 #[.val (.int p1), .val (.int p2), .val (.int p3), .val (.int (1 : Int32)), .val (.ref b1), .val (.ref bx23), .val (.ref b24), .unset] [(.int ((1 : Int32) - (1 : Int32))), (.ref b1), (.ref bx3)])) tg := fun tg kt => by rw [(by decide : ((1 : Int32) - (1 : Int32)) = (0 : Int32))]; exact kt
    have f47 := ((f40.keep kp42 (ninS ne_b1_b24 (ninS nes_c33 (ninS nes_e33 nin0)))).keep kp43 (ninS ne_b1_b24 (ninS nes_c33 (ninS nes_e33 nin0))))
    obtain ⟨cl46, Ar46, q46, Sz46, Nn46, Ha46, Ga46⟩ := id f47
    have hin46 : ¬ ((0 : Int32) < 0 ∨ cl46.slots.size ≤ ((0 : Int32)).toNatClampNeg) := inb_of Sz46 ⟨by decide, by decide⟩
    have hat46 : cl46.slots[((0 : Int32)).toNatClampNeg]? = some (.ref bx3) := Ha46.at hin46 rfl
    have f48 := ((((EB23.ext E24).keep kp33).keep kp42).keep kp43)
    obtain ⟨cq49, kq49, q49a, q49b, q49c⟩ := isOf hZ rfl hC43'.1
    obtain ⟨_, _, ⟨T49, L49, k49, n49⟩, -, X49, ⟨Lc49, hQ49, l49, y49, z49⟩, st49⟩ := X43.virtualBack hx (y := (⟨"com/example/anchored_threads/anchoredthreads/internal/ChunkedList", "add", "(Ljava/lang/Object;)Z"⟩ : MethodName)) (z := (⟨"com/example/anchored_threads/anchoredthreads/internal/ChunkedList", "add", "(Ljava/lang/Object;)Z"⟩ : MethodName)) hown (mvT hZ (hw _ (List.mem_of_getElem? (i := 47) rfl))) (mvT hZ (hw _ (List.mem_of_getElem? (i := 48) rfl))) (notFace_of_selects (args := #[]) (mvT hZ (hw _ (List.mem_of_getElem? (i := 50) rfl)))) (mvT hZ (hw _ (List.mem_of_getElem? (i := 50) rfl))) (mvT hZ (hw _ (List.mem_of_getElem? (i := 49) rfl))) (by decide) (backOf (W := 0) (rmAd l Z a0 hw [] b24 bx23 ch33 ea33 kc33 ke33 (0 : Int32) mc43 (4 : Int32) [.null, .null, .null, .null] 0 T43.heap n0 Z43 hC43' f48 (by decide) (by decide) (by decide) ⟨by decide, by decide⟩ rfl (Nat.le_of_ble_eq_true rfl)) hZ (hw _ (List.mem_of_getElem? (i := 51) rfl)) (hw _ (List.mem_of_getElem? (i := 13) rfl)) (by decide) (by decide)) q49a q49c (g := (mkF m 189 #[.val (.int p1), .val (.int p2), .val (.int p3), .val (.int (1 : Int32)), .val (.ref b1), .val (.ref bx23), .val (.ref b24), .val (.int (1 : Int32))] [(.ref bx23), (.ref b24)])) rfl (by rw [hml]; rfl) (Steps.refl _) (argsL := [(.ref bx23)]) (rest := []) (lenOf pd_5 rfl) rfl (by show 2 * 0 + _ ≤ _; exact Nat.le_of_eq rfl) (hb hby at_189) (fun _ _ => ⟨rfl, rfl, (by decide : 10 + 0 ≤ _), (by decide : 19 + 0 ≤ _)⟩)
    dsimp only [Pt.U, Pt.locs, Pt.cells, Pt.slots] at X49 l49 y49 z49 st49 hQ49
    subst l49 y49 z49
    obtain ⟨hv49, N49q, kp49, mc49, hC49⟩ := hQ49
    subst hv49
    have N49 := Fr.app N43 N49q
    have Z49 : n0 ≤ T49.heap.size := Nat.le_trans Z43 kp49.1
    have hC49' : CLs Z n0 T49.heap b24 ch33 ea33 kc33 ke33 (1 : Int32) mc49 (4 : Int32) [(.ref bx23), .null, .null, .null] := by
      have q := hC49
      rw [show ((0 : Int32) + 1) = (1 : Int32) from by decide] at q
      exact q
    obtain ⟨cq50, kq50, q50a, q50b, q50c⟩ := isOf hZ rfl hC49'.1
    obtain ⟨_, _, ⟨T50, L50, k50, n50⟩, -, X50, ⟨Lc50, hQ50, l50, y50, z50⟩, st50⟩ := X49.virtualBack hx (y := (⟨"com/example/anchored_threads/anchoredthreads/internal/ChunkedList", "removeLast", "()Ljava/lang/Object;"⟩ : MethodName)) (z := (⟨"com/example/anchored_threads/anchoredthreads/internal/ChunkedList", "removeLast", "()Ljava/lang/Object;"⟩ : MethodName)) hown (mvT hZ (hw _ (List.mem_of_getElem? (i := 55) rfl))) (mvT hZ (hw _ (List.mem_of_getElem? (i := 56) rfl))) (notFace_of_selects (args := #[]) (mvT hZ (hw _ (List.mem_of_getElem? (i := 58) rfl)))) (mvT hZ (hw _ (List.mem_of_getElem? (i := 58) rfl))) (mvT hZ (hw _ (List.mem_of_getElem? (i := 57) rfl))) (by decide) (backOf (W := 1) (rmRl l Z a0 hw [] b24 ch33 ea33 kc33 ke33 (1 : Int32) mc49 (4 : Int32) (0 : Int32) [(.ref bx23), .null, .null, .null] 0 bx23 T49.heap n0 Z49 hC49' (by decide) (by decide) (by decide) (by decide) ⟨by decide, by decide⟩ rfl (Nat.le_of_ble_eq_true rfl) rfl) hZ (hw _ (List.mem_of_getElem? (i := 59) rfl)) (hw _ (List.mem_of_getElem? (i := 13) rfl)) (by decide) (by decide)) q50a q50c (g := (mkF m 197 #[.val (.int p1), .val (.int p2), .val (.int p3), .val (.int (1 : Int32)), .val (.ref b1), .val (.ref bx23), .val (.ref b24), .val (.int (1 : Int32))] [(.ref b24), (.int (1 : Int32))])) rfl (by rw [hml]; rfl) (Steps.refl _) (argsL := []) (rest := [(.int (1 : Int32))]) (lenOf pd_6 rfl) rfl (by show 2 * 0 + _ ≤ _; exact Nat.le_of_eq rfl) (hb hby at_197) (fun _ _ => ⟨rfl, rfl, (by decide : 10 + 0 ≤ _), (by decide : 19 + 0 ≤ _)⟩)
    dsimp only [Pt.U, Pt.locs, Pt.cells, Pt.slots] at X50 l50 y50 z50 st50 hQ50
    subst l50 y50 z50
    obtain ⟨hv50, N50q, kp50, mc50, hC50⟩ := hQ50
    subst hv50
    have N50 := Fr.app N49 N50q
    have Z50 : n0 ≤ T50.heap.size := Nat.le_trans Z49 kp50.1
    have hC50' : CLs Z n0 T50.heap b24 ch33 ea33 kc33 ke33 (0 : Int32) mc50 (4 : Int32) [.null, .null, .null, .null] := hC50
    have R51 : ∀ tg, Steps p.tables e below (T50.setTop (mkF m 211 #[.val (.int p1), .val (.int p2), .val (.int p3), .val (.int (1 : Int32)), .val (.ref b1), .val (.ref bx23), .val (.ref b24), .val (.int (1 : Int32))] [(.int ((1 : Int32) &&& (1 : Int32)))])) tg → Steps p.tables e below (T43.setTop (mkF m 174 #[.val (.int p1), .val (.int p2), .val (.int p3), .val (.int (1 : Int32)), .val (.ref b1), .val (.ref bx23), .val (.ref b24), .unset] [(.int (0 : Int32)), (.ref b1), (.ref bx3)])) tg := by
      intro tg kt
      refine X43.aaload hx (j := (0 : Int32)) (v := (.ref bx3)) (Ar46.1) (State.isArrayOf_alike hZ.alike Ar46.2.1) rfl Ar46.2.2 hin46 hat46 (g := (mkF m 174 #[.val (.int p1), .val (.int p2), .val (.int p3), .val (.int (1 : Int32)), .val (.ref b1), .val (.ref bx23), .val (.ref b24), .unset] [(.int (0 : Int32)), (.ref b1), (.ref bx3)])) rfl rfl (hb hby at_174) _ ?_
      show Steps p.tables e below (T43.setTop (mkF m 175 #[.val (.int p1), .val (.int p2), .val (.int p3), .val (.int (1 : Int32)), .val (.ref b1), .val (.ref bx23), .val (.ref b24), .unset] [(.ref bx3), (.ref bx3)])) _
      refine Jvm.RoadKit.acmp (g := (mkF m 175 #[.val (.int p1), .val (.int p2), .val (.int p3), .val (.int (1 : Int32)), .val (.ref b1), .val (.ref bx23), .val (.ref b24), .unset] [(.ref bx3), (.ref bx3)])) X43 hx rfl rfl rfl (pc0 := 175) (pc' := 178) (same := true) rfl (hb hby at_175) rfl (decide_eq_true rfl) (by decide) (by decide) ?_
      show Steps p.tables e below (T43.setTop (mkF m 178 #[.val (.int p1), .val (.int p2), .val (.int p3), .val (.int (1 : Int32)), .val (.ref b1), .val (.ref bx23), .val (.ref b24), .unset] [])) _
      refine XS.iconst X43.here hx rfl (hb hby at_178) ?_
      show Steps p.tables e below (T43.setTop (mkF m 179 #[.val (.int p1), .val (.int p2), .val (.int p3), .val (.int (1 : Int32)), .val (.ref b1), .val (.ref bx23), .val (.ref b24), .unset] [(.int (1 : Int32))])) _
      refine XS.goto X43.here hx rfl (pc0 := 179) (pc' := 183) rfl (hb hby at_179) (by decide) (by decide) ?_
      show Steps p.tables e below (T43.setTop (mkF m 183 #[.val (.int p1), .val (.int p2), .val (.int p3), .val (.int (1 : Int32)), .val (.ref b1), .val (.ref bx23), .val (.ref b24), .unset] [(.int (1 : Int32))])) _
      refine XS.istore X43.here hx rfl (hb hby at_183) rfl (l' := #[.val (.int p1), .val (.int p2), .val (.int p3), .val (.int (1 : Int32)), .val (.ref b1), .val (.ref bx23), .val (.ref b24), .val (.int (1 : Int32))]) rfl ?_
      show Steps p.tables e below (T43.setTop (mkF m 185 #[.val (.int p1), .val (.int p2), .val (.int p3), .val (.int (1 : Int32)), .val (.ref b1), .val (.ref bx23), .val (.ref b24), .val (.int (1 : Int32))] [])) _
      refine XS.aload X43.here hx rfl (hb hby at_185) rfl rfl ?_
      show Steps p.tables e below (T43.setTop (mkF m 187 #[.val (.int p1), .val (.int p2), .val (.int p3), .val (.int (1 : Int32)), .val (.ref b1), .val (.ref bx23), .val (.ref b24), .val (.int (1 : Int32))] [(.ref b24)])) _
      refine XS.aload X43.here hx rfl (hb hby at_187) rfl rfl ?_
      show Steps p.tables e below (T43.setTop (mkF m 189 #[.val (.int p1), .val (.int p2), .val (.int p3), .val (.int (1 : Int32)), .val (.ref b1), .val (.ref bx23), .val (.ref b24), .val (.int (1 : Int32))] [(.ref bx23), (.ref b24)])) _
      refine st49.trans ?_
      show Steps p.tables e below (T49.setTop (mkF m 192 #[.val (.int p1), .val (.int p2), .val (.int p3), .val (.int (1 : Int32)), .val (.ref b1), .val (.ref bx23), .val (.ref b24), .val (.int (1 : Int32))] [(.int (1 : Int32))])) _
      refine XS.pop X49.here hx rfl (hb hby at_192) rfl rfl ?_
      show Steps p.tables e below (T49.setTop (mkF m 193 #[.val (.int p1), .val (.int p2), .val (.int p3), .val (.int (1 : Int32)), .val (.ref b1), .val (.ref bx23), .val (.ref b24), .val (.int (1 : Int32))] [])) _
      refine XS.iload X49.here hx rfl (hb hby at_193) rfl ?_
      show Steps p.tables e below (T49.setTop (mkF m 195 #[.val (.int p1), .val (.int p2), .val (.int p3), .val (.int (1 : Int32)), .val (.ref b1), .val (.ref bx23), .val (.ref b24), .val (.int (1 : Int32))] [(.int (1 : Int32))])) _
      refine XS.aload X49.here hx rfl (hb hby at_195) rfl rfl ?_
      show Steps p.tables e below (T49.setTop (mkF m 197 #[.val (.int p1), .val (.int p2), .val (.int p3), .val (.int (1 : Int32)), .val (.ref b1), .val (.ref bx23), .val (.ref b24), .val (.int (1 : Int32))] [(.ref b24), (.int (1 : Int32))])) _
      refine st50.trans ?_
      show Steps p.tables e below (T50.setTop (mkF m 200 #[.val (.int p1), .val (.int p2), .val (.int p3), .val (.int (1 : Int32)), .val (.ref b1), .val (.ref bx23), .val (.ref b24), .val (.int (1 : Int32))] [(.ref bx23), (.int (1 : Int32))])) _
      refine XS.aload X50.here hx rfl (hb hby at_200) rfl rfl ?_
      show Steps p.tables e below (T50.setTop (mkF m 202 #[.val (.int p1), .val (.int p2), .val (.int p3), .val (.int (1 : Int32)), .val (.ref b1), .val (.ref bx23), .val (.ref b24), .val (.int (1 : Int32))] [(.ref bx23), (.ref bx23), (.int (1 : Int32))])) _
      refine Jvm.RoadKit.acmp (g := (mkF m 202 #[.val (.int p1), .val (.int p2), .val (.int p3), .val (.int (1 : Int32)), .val (.ref b1), .val (.ref bx23), .val (.ref b24), .val (.int (1 : Int32))] [(.ref bx23), (.ref bx23), (.int (1 : Int32))])) X50 hx rfl rfl rfl (pc0 := 202) (pc' := 205) (same := true) rfl (hb hby at_202) rfl (decide_eq_true rfl) (by decide) (by decide) ?_
      show Steps p.tables e below (T50.setTop (mkF m 205 #[.val (.int p1), .val (.int p2), .val (.int p3), .val (.int (1 : Int32)), .val (.ref b1), .val (.ref bx23), .val (.ref b24), .val (.int (1 : Int32))] [(.int (1 : Int32))])) _
      refine XS.iconst X50.here hx rfl (hb hby at_205) ?_
      show Steps p.tables e below (T50.setTop (mkF m 206 #[.val (.int p1), .val (.int p2), .val (.int p3), .val (.int (1 : Int32)), .val (.ref b1), .val (.ref bx23), .val (.ref b24), .val (.int (1 : Int32))] [(.int (1 : Int32)), (.int (1 : Int32))])) _
      refine XS.goto X50.here hx rfl (pc0 := 206) (pc' := 210) rfl (hb hby at_206) (by decide) (by decide) ?_
      show Steps p.tables e below (T50.setTop (mkF m 210 #[.val (.int p1), .val (.int p2), .val (.int p3), .val (.int (1 : Int32)), .val (.ref b1), .val (.ref bx23), .val (.ref b24), .val (.int (1 : Int32))] [(.int (1 : Int32)), (.int (1 : Int32))])) _
      refine XS.iand X50.here hx rfl (hb hby at_210) rfl ?_
      show Steps p.tables e below (T50.setTop (mkF m 211 #[.val (.int p1), .val (.int p2), .val (.int p3), .val (.int (1 : Int32)), .val (.ref b1), .val (.ref bx23), .val (.ref b24), .val (.int (1 : Int32))] [(.int ((1 : Int32) &&& (1 : Int32)))])) _
      exact kt
    have R52 : ∀ tg, Steps p.tables e below (T50.setTop (mkF m 211 #[.val (.int p1), .val (.int p2), .val (.int p3), .val (.int (1 : Int32)), .val (.ref b1), .val (.ref bx23), .val (.ref b24), .val (.int (1 : Int32))] [(.int (1 : Int32))])) tg → Steps p.tables e below (T50.setTop (mkF m 211 #[.val (.int p1), .val (.int p2), .val (.int p3), .val (.int (1 : Int32)), .val (.ref b1), .val (.ref bx23), .val (.ref b24), .val (.int (1 : Int32))] [(.int ((1 : Int32) &&& (1 : Int32)))])) tg := fun tg kt => by rw [(by decide : ((1 : Int32) &&& (1 : Int32)) = (1 : Int32))]; exact kt
    obtain ⟨cq53, kq53, q53a, q53b, q53c⟩ := isOf hZ rfl hC50'.1
    obtain ⟨_, _, ⟨T53, L53, k53, n53⟩, -, X53, ⟨Lc53, hQ53, l53, y53, z53⟩, st53⟩ := X50.virtualBack hx (y := (⟨"com/example/anchored_threads/anchoredthreads/internal/ChunkedList", "size", "()I"⟩ : MethodName)) (z := (⟨"com/example/anchored_threads/anchoredthreads/internal/ChunkedList", "size", "()I"⟩ : MethodName)) hown (mvT hZ (hw _ (List.mem_of_getElem? (i := 40) rfl))) (mvT hZ (hw _ (List.mem_of_getElem? (i := 41) rfl))) (notFace_of_selects (args := #[]) (mvT hZ (hw _ (List.mem_of_getElem? (i := 43) rfl)))) (mvT hZ (hw _ (List.mem_of_getElem? (i := 43) rfl))) (mvT hZ (hw _ (List.mem_of_getElem? (i := 42) rfl))) (by decide) (backOf (W := 1) (rmSz l Z a0 hw [] b24 (0 : Int32) T50.heap n0 Z50 hC50'.2.1) hZ (hw _ (List.mem_of_getElem? (i := 44) rfl)) (hw _ (List.mem_of_getElem? (i := 13) rfl)) (by decide) (by decide)) q53a q53c (g := (mkF m 217 #[.val (.int p1), .val (.int p2), .val (.int p3), .val (.int (1 : Int32)), .val (.ref b1), .val (.ref bx23), .val (.ref b24), .val (.int (1 : Int32))] [(.ref b24), (.int (1 : Int32))])) rfl (by rw [hml]; rfl) (Steps.refl _) (argsL := []) (rest := [(.int (1 : Int32))]) (lenOf pd_4 rfl) rfl (by show 2 * 0 + _ ≤ _; exact Nat.le_of_eq rfl) (hb hby at_217) (fun _ _ => ⟨rfl, rfl, (by decide : 10 + 0 ≤ _), (by decide : 19 + 0 ≤ _)⟩)
    dsimp only [Pt.U, Pt.locs, Pt.cells, Pt.slots] at X53 l53 y53 z53 st53 hQ53
    subst l53 y53 z53
    obtain ⟨hv53, N53q, r53⟩ := hQ53
    subst hv53
    have N53 := Fr.app N50 N53q
    have R54 : ∀ tg, Steps p.tables e below (T53.setTop (mkF m 223 #[.val (.int p1), .val (.int p2), .val (.int p3), .val (.int (1 : Int32)), .val (.ref b1), .val (.ref bx23), .val (.ref b24), .val (.int (1 : Int32))] [(.int ((1 : Int32) - (1 : Int32))), (.int (0 : Int32)), (.int (1 : Int32))])) tg → Steps p.tables e below (T50.setTop (mkF m 211 #[.val (.int p1), .val (.int p2), .val (.int p3), .val (.int (1 : Int32)), .val (.ref b1), .val (.ref bx23), .val (.ref b24), .val (.int (1 : Int32))] [(.int (1 : Int32))])) tg := by
      intro tg kt
      refine XS.istore X50.here hx rfl (hb hby at_211) rfl (l' := #[.val (.int p1), .val (.int p2), .val (.int p3), .val (.int (1 : Int32)), .val (.ref b1), .val (.ref bx23), .val (.ref b24), .val (.int (1 : Int32))]) rfl ?_
      show Steps p.tables e below (T50.setTop (mkF m 213 #[.val (.int p1), .val (.int p2), .val (.int p3), .val (.int (1 : Int32)), .val (.ref b1), .val (.ref bx23), .val (.ref b24), .val (.int (1 : Int32))] [])) _
      refine XS.iload X50.here hx rfl (hb hby at_213) rfl ?_
      show Steps p.tables e below (T50.setTop (mkF m 215 #[.val (.int p1), .val (.int p2), .val (.int p3), .val (.int (1 : Int32)), .val (.ref b1), .val (.ref bx23), .val (.ref b24), .val (.int (1 : Int32))] [(.int (1 : Int32))])) _
      refine XS.aload X50.here hx rfl (hb hby at_215) rfl rfl ?_
      show Steps p.tables e below (T50.setTop (mkF m 217 #[.val (.int p1), .val (.int p2), .val (.int p3), .val (.int (1 : Int32)), .val (.ref b1), .val (.ref bx23), .val (.ref b24), .val (.int (1 : Int32))] [(.ref b24), (.int (1 : Int32))])) _
      refine st53.trans ?_
      show Steps p.tables e below (T53.setTop (mkF m 220 #[.val (.int p1), .val (.int p2), .val (.int p3), .val (.int (1 : Int32)), .val (.ref b1), .val (.ref bx23), .val (.ref b24), .val (.int (1 : Int32))] [(.int (0 : Int32)), (.int (1 : Int32))])) _
      refine XS.iloadN X53.here hx rfl (hb hby at_220) rfl ?_
      show Steps p.tables e below (T53.setTop (mkF m 221 #[.val (.int p1), .val (.int p2), .val (.int p3), .val (.int (1 : Int32)), .val (.ref b1), .val (.ref bx23), .val (.ref b24), .val (.int (1 : Int32))] [(.int (1 : Int32)), (.int (0 : Int32)), (.int (1 : Int32))])) _
      refine XS.iconst X53.here hx rfl (hb hby at_221) ?_
      show Steps p.tables e below (T53.setTop (mkF m 222 #[.val (.int p1), .val (.int p2), .val (.int p3), .val (.int (1 : Int32)), .val (.ref b1), .val (.ref bx23), .val (.ref b24), .val (.int (1 : Int32))] [(.int (1 : Int32)), (.int (1 : Int32)), (.int (0 : Int32)), (.int (1 : Int32))])) _
      refine XS.isub X53.here hx rfl (hb hby at_222) rfl ?_
      show Steps p.tables e below (T53.setTop (mkF m 223 #[.val (.int p1), .val (.int p2), .val (.int p3), .val (.int (1 : Int32)), .val (.ref b1), .val (.ref bx23), .val (.ref b24), .val (.int (1 : Int32))] [(.int ((1 : Int32) - (1 : Int32))), (.int (0 : Int32)), (.int (1 : Int32))])) _
      exact kt
    have R55 : ∀ tg, Steps p.tables e below (T53.setTop (mkF m 223 #[.val (.int p1), .val (.int p2), .val (.int p3), .val (.int (1 : Int32)), .val (.ref b1), .val (.ref bx23), .val (.ref b24), .val (.int (1 : Int32))] [(.int (0 : Int32)), (.int (0 : Int32)), (.int (1 : Int32))])) tg → Steps p.tables e below (T53.setTop (mkF m 223 #[.val (.int p1), .val (.int p2), .val (.int p3), .val (.int (1 : Int32)), .val (.ref b1), .val (.ref bx23), .val (.ref b24), .val (.int (1 : Int32))] [(.int ((1 : Int32) - (1 : Int32))), (.int (0 : Int32)), (.int (1 : Int32))])) tg := fun tg kt => by rw [(by decide : ((1 : Int32) - (1 : Int32)) = (0 : Int32))]; exact kt
    have R56 : ∀ tg, Steps p.tables e below (T53.setTop (mkF m 232 #[.val (.int p1), .val (.int p2), .val (.int p3), .val (.int (1 : Int32)), .val (.ref b1), .val (.ref bx23), .val (.ref b24), .val (.int (1 : Int32))] [(.int ((1 : Int32) &&& (1 : Int32)))])) tg → Steps p.tables e below (T53.setTop (mkF m 223 #[.val (.int p1), .val (.int p2), .val (.int p3), .val (.int (1 : Int32)), .val (.ref b1), .val (.ref bx23), .val (.ref b24), .val (.int (1 : Int32))] [(.int (0 : Int32)), (.int (0 : Int32)), (.int (1 : Int32))])) tg := by
      intro tg kt
      refine XS.icmpNo X53.here hx rfl (hb hby at_223) rfl (teq (by decide : (0 : Int32) = (0 : Int32))).2 ?_
      show Steps p.tables e below (T53.setTop (mkF m 226 #[.val (.int p1), .val (.int p2), .val (.int p3), .val (.int (1 : Int32)), .val (.ref b1), .val (.ref bx23), .val (.ref b24), .val (.int (1 : Int32))] [(.int (1 : Int32))])) _
      refine XS.iconst X53.here hx rfl (hb hby at_226) ?_
      show Steps p.tables e below (T53.setTop (mkF m 227 #[.val (.int p1), .val (.int p2), .val (.int p3), .val (.int (1 : Int32)), .val (.ref b1), .val (.ref bx23), .val (.ref b24), .val (.int (1 : Int32))] [(.int (1 : Int32)), (.int (1 : Int32))])) _
      refine XS.goto X53.here hx rfl (pc0 := 227) (pc' := 231) rfl (hb hby at_227) (by decide) (by decide) ?_
      show Steps p.tables e below (T53.setTop (mkF m 231 #[.val (.int p1), .val (.int p2), .val (.int p3), .val (.int (1 : Int32)), .val (.ref b1), .val (.ref bx23), .val (.ref b24), .val (.int (1 : Int32))] [(.int (1 : Int32)), (.int (1 : Int32))])) _
      refine XS.iand X53.here hx rfl (hb hby at_231) rfl ?_
      show Steps p.tables e below (T53.setTop (mkF m 232 #[.val (.int p1), .val (.int p2), .val (.int p3), .val (.int (1 : Int32)), .val (.ref b1), .val (.ref bx23), .val (.ref b24), .val (.int (1 : Int32))] [(.int ((1 : Int32) &&& (1 : Int32)))])) _
      exact kt
    have R57 : ∀ tg, Steps p.tables e below (T53.setTop (mkF m 232 #[.val (.int p1), .val (.int p2), .val (.int p3), .val (.int (1 : Int32)), .val (.ref b1), .val (.ref bx23), .val (.ref b24), .val (.int (1 : Int32))] [(.int (1 : Int32))])) tg → Steps p.tables e below (T53.setTop (mkF m 232 #[.val (.int p1), .val (.int p2), .val (.int p3), .val (.int (1 : Int32)), .val (.ref b1), .val (.ref bx23), .val (.ref b24), .val (.int (1 : Int32))] [(.int ((1 : Int32) &&& (1 : Int32)))])) tg := fun tg kt => by rw [(by decide : ((1 : Int32) &&& (1 : Int32)) = (1 : Int32))]; exact kt
    obtain ⟨fs, hr, hrun, hended, hW, hsame⟩ := X53.leave (v := some (.int (1 : Int32))) (fun h => by rw [Bd.returns] at h; cases h)
    refine ⟨_, _, pre0 _ (R34 _ (R38 _ (R44 _ (R45 _ (R51 _ (R52 _ (R54 _ (R55 _ (R56 _ (R57 _ ?_)))))))))), hrun, hended, _, _, rfl, ?_, ⟨_, rfl⟩, hW, hsame.mono (by decide) (by decide)⟩
    · show Steps p.tables e below (T53.setTop (mkF m 232 #[.val (.int p1), .val (.int p2), .val (.int p3), .val (.int (1 : Int32)), .val (.ref b1), .val (.ref bx23), .val (.ref b24), .val (.int (1 : Int32))] [(.int (1 : Int32))])) _
      refine XS.istore X53.here hx rfl (hb hby at_232) rfl (l' := #[.val (.int p1), .val (.int p2), .val (.int p3), .val (.int (1 : Int32)), .val (.ref b1), .val (.ref bx23), .val (.ref b24), .val (.int (1 : Int32))]) rfl ?_
      show Steps p.tables e below (T53.setTop (mkF m 234 #[.val (.int p1), .val (.int p2), .val (.int p3), .val (.int (1 : Int32)), .val (.ref b1), .val (.ref bx23), .val (.ref b24), .val (.int (1 : Int32))] [])) _
      refine XS.iloadN X53.here hx rfl (hb hby at_234) rfl ?_
      show Steps p.tables e below (T53.setTop (mkF m 235 #[.val (.int p1), .val (.int p2), .val (.int p3), .val (.int (1 : Int32)), .val (.ref b1), .val (.ref bx23), .val (.ref b24), .val (.int (1 : Int32))] [(.int (1 : Int32))])) _
      refine XS.iconst X53.here hx rfl (hb hby at_235) ?_
      show Steps p.tables e below (T53.setTop (mkF m 236 #[.val (.int p1), .val (.int p2), .val (.int p3), .val (.int (1 : Int32)), .val (.ref b1), .val (.ref bx23), .val (.ref b24), .val (.int (1 : Int32))] [(.int (2 : Int32)), (.int (1 : Int32))])) _
      refine XS.icmpYes X53.here hx rfl (pc0 := 236) (pc' := 284) rfl (hb hby at_236) rfl (tlt (by decide : (1 : Int32) < (2 : Int32))).1 (by decide) (by decide) ?_
      show Steps p.tables e below (T53.setTop (mkF m 284 #[.val (.int p1), .val (.int p2), .val (.int p3), .val (.int (1 : Int32)), .val (.ref b1), .val (.ref bx23), .val (.ref b24), .val (.int (1 : Int32))] [])) _
      refine XS.iload X53.here hx rfl (hb hby at_284) rfl ?_
      show Steps p.tables e below (T53.setTop (mkF m 286 #[.val (.int p1), .val (.int p2), .val (.int p3), .val (.int (1 : Int32)), .val (.ref b1), .val (.ref bx23), .val (.ref b24), .val (.int (1 : Int32))] [(.int (1 : Int32))])) _
      exact retN X53 hx (t := .boolean) Bd.returns (by simp) (hb hby at_286) hr
    · show Q0 n0 _ T53.heap _
      rw [r53]
      exact ⟨rfl, N53⟩
  · have R58 : ∀ tg, Steps p.tables e below (T33.setTop (mkF m 72 #[.val (.int p1), .val (.int p2), .val (.int p3), .val (.int (2 : Int32)), .val (.ref b1), .val (.ref bx23), .val (.ref b24), .unset] [])) tg → Steps p.tables e below (T33.setTop (mkF m 72 #[.val (.int p1), .val (.int p2), .val (.int p3), .val (.int ((p1 &&& (2147483647 : Int32)) % (6 : Int32))), .val (.ref b1), .val (.ref bx23), .val (.ref b24), .unset] [])) tg := fun tg kt => by rw [hk35]; exact kt
    have f60 := (f32.keep kp33 (ninS ne_b1_b24 nin0))
    obtain ⟨cl59, Ar59, q59, Sz59, Nn59, Ha59, Ga59⟩ := id f60
    have hin59 : ¬ ((0 : Int32) < 0 ∨ cl59.slots.size ≤ ((0 : Int32)).toNatClampNeg) := inb_of Sz59 ⟨by decide, by decide⟩
    have hat59 : cl59.slots[((0 : Int32)).toNatClampNeg]? = some (.ref bx3) := Ha59.at hin59 rfl
    have f61 := ((f26.ext E24).keep kp33)
    obtain ⟨cq62, kq62, q62a, q62b, q62c⟩ := isOf hZ rfl hC33.1
    obtain ⟨_, _, ⟨T62, L62, k62, n62⟩, -, X62, ⟨Lc62, hQ62, l62, y62, z62⟩, st62⟩ := X33.virtualBack hx (y := (⟨"com/example/anchored_threads/anchoredthreads/internal/ChunkedList", "add", "(Ljava/lang/Object;)Z"⟩ : MethodName)) (z := (⟨"com/example/anchored_threads/anchoredthreads/internal/ChunkedList", "add", "(Ljava/lang/Object;)Z"⟩ : MethodName)) hown (mvT hZ (hw _ (List.mem_of_getElem? (i := 47) rfl))) (mvT hZ (hw _ (List.mem_of_getElem? (i := 48) rfl))) (notFace_of_selects (args := #[]) (mvT hZ (hw _ (List.mem_of_getElem? (i := 50) rfl)))) (mvT hZ (hw _ (List.mem_of_getElem? (i := 50) rfl))) (mvT hZ (hw _ (List.mem_of_getElem? (i := 49) rfl))) (by decide) (backOf (W := 0) (rmAd l Z a0 hw [] b24 bx3 ch33 ea33 kc33 ke33 (0 : Int32) (0 : Int32) (4 : Int32) [.null, .null, .null, .null] 0 T33.heap n0 Z33 hC33 f61 (by decide) (by decide) (by decide) ⟨by decide, by decide⟩ rfl (Nat.le_of_ble_eq_true rfl)) hZ (hw _ (List.mem_of_getElem? (i := 51) rfl)) (hw _ (List.mem_of_getElem? (i := 13) rfl)) (by decide) (by decide)) q62a q62c (g := (mkF m 82 #[.val (.int p1), .val (.int p2), .val (.int p3), .val (.int (2 : Int32)), .val (.ref b1), .val (.ref bx23), .val (.ref b24), .unset] [(.ref bx3), (.ref b24)])) rfl (by rw [hml]; rfl) (Steps.refl _) (argsL := [(.ref bx3)]) (rest := []) (lenOf pd_5 rfl) rfl (by show 2 * 0 + _ ≤ _; exact Nat.le_of_eq rfl) (hb hby at_82) (fun _ _ => ⟨rfl, rfl, (by decide : 10 + 0 ≤ _), (by decide : 19 + 0 ≤ _)⟩)
    dsimp only [Pt.U, Pt.locs, Pt.cells, Pt.slots] at X62 l62 y62 z62 st62 hQ62
    subst l62 y62 z62
    obtain ⟨hv62, N62q, kp62, mc62, hC62⟩ := hQ62
    subst hv62
    have N62 := Fr.app N33 N62q
    have Z62 : n0 ≤ T62.heap.size := Nat.le_trans Z33 kp62.1
    have hC62' : CLs Z n0 T62.heap b24 ch33 ea33 kc33 ke33 (1 : Int32) mc62 (4 : Int32) [(.ref bx3), .null, .null, .null] := by
      have q := hC62
      rw [show ((0 : Int32) + 1) = (1 : Int32) from by decide] at q
      exact q
    have f64 := (f60.keep kp62 (ninS ne_b1_b24 (ninS nes_c33 (ninS nes_e33 nin0))))
    obtain ⟨cl63, Ar63, q63, Sz63, Nn63, Ha63, Ga63⟩ := id f64
    have hin63 : ¬ ((1 : Int32) < 0 ∨ cl63.slots.size ≤ ((1 : Int32)).toNatClampNeg) := inb_of Sz63 ⟨by decide, by decide⟩
    have hat63 : cl63.slots[((1 : Int32)).toNatClampNeg]? = some (.ref bx7) := Ha63.at hin63 rfl
    have f65 := (((f27.ext E24).keep kp33).keep kp62)
    obtain ⟨cq66, kq66, q66a, q66b, q66c⟩ := isOf hZ rfl hC62'.1
    obtain ⟨_, _, ⟨T66, L66, k66, n66⟩, -, X66, ⟨Lc66, hQ66, l66, y66, z66⟩, st66⟩ := X62.virtualBack hx (y := (⟨"com/example/anchored_threads/anchoredthreads/internal/ChunkedList", "add", "(Ljava/lang/Object;)Z"⟩ : MethodName)) (z := (⟨"com/example/anchored_threads/anchoredthreads/internal/ChunkedList", "add", "(Ljava/lang/Object;)Z"⟩ : MethodName)) hown (mvT hZ (hw _ (List.mem_of_getElem? (i := 47) rfl))) (mvT hZ (hw _ (List.mem_of_getElem? (i := 48) rfl))) (notFace_of_selects (args := #[]) (mvT hZ (hw _ (List.mem_of_getElem? (i := 50) rfl)))) (mvT hZ (hw _ (List.mem_of_getElem? (i := 50) rfl))) (mvT hZ (hw _ (List.mem_of_getElem? (i := 49) rfl))) (by decide) (backOf (W := 0) (rmAd l Z a0 hw [] b24 bx7 ch33 ea33 kc33 ke33 (1 : Int32) mc62 (4 : Int32) [(.ref bx3), .null, .null, .null] 1 T62.heap n0 Z62 hC62' f65 (by decide) (by decide) (by decide) ⟨by decide, by decide⟩ rfl (Nat.le_of_ble_eq_true rfl)) hZ (hw _ (List.mem_of_getElem? (i := 51) rfl)) (hw _ (List.mem_of_getElem? (i := 13) rfl)) (by decide) (by decide)) q66a q66c (g := (mkF m 97 #[.val (.int p1), .val (.int p2), .val (.int p3), .val (.int (2 : Int32)), .val (.ref b1), .val (.ref bx23), .val (.ref b24), .unset] [(.ref bx7), (.ref b24)])) rfl (by rw [hml]; rfl) (Steps.refl _) (argsL := [(.ref bx7)]) (rest := []) (lenOf pd_5 rfl) rfl (by show 2 * 0 + _ ≤ _; exact Nat.le_of_eq rfl) (hb hby at_97) (fun _ _ => ⟨rfl, rfl, (by decide : 10 + 0 ≤ _), (by decide : 19 + 0 ≤ _)⟩)
    dsimp only [Pt.U, Pt.locs, Pt.cells, Pt.slots] at X66 l66 y66 z66 st66 hQ66
    subst l66 y66 z66
    obtain ⟨hv66, N66q, kp66, mc66, hC66⟩ := hQ66
    subst hv66
    have N66 := Fr.app N62 N66q
    have Z66 : n0 ≤ T66.heap.size := Nat.le_trans Z62 kp66.1
    have hC66' : CLs Z n0 T66.heap b24 ch33 ea33 kc33 ke33 (2 : Int32) mc66 (4 : Int32) [(.ref bx3), (.ref bx7), .null, .null] := by
      have q := hC66
      rw [show ((1 : Int32) + 1) = (2 : Int32) from by decide] at q
      exact q
    obtain ⟨cq67, kq67, q67a, q67b, q67c⟩ := isOf hZ rfl hC66'.1
    obtain ⟨_, _, ⟨T67, L67, k67, n67⟩, -, X67, ⟨Lc67, hQ67, l67, y67, z67⟩, st67⟩ := X66.virtualBack hx (y := (⟨"com/example/anchored_threads/anchoredthreads/internal/ChunkedList", "removeLast", "()Ljava/lang/Object;"⟩ : MethodName)) (z := (⟨"com/example/anchored_threads/anchoredthreads/internal/ChunkedList", "removeLast", "()Ljava/lang/Object;"⟩ : MethodName)) hown (mvT hZ (hw _ (List.mem_of_getElem? (i := 55) rfl))) (mvT hZ (hw _ (List.mem_of_getElem? (i := 56) rfl))) (notFace_of_selects (args := #[]) (mvT hZ (hw _ (List.mem_of_getElem? (i := 58) rfl)))) (mvT hZ (hw _ (List.mem_of_getElem? (i := 58) rfl))) (mvT hZ (hw _ (List.mem_of_getElem? (i := 57) rfl))) (by decide) (backOf (W := 0) (rmRl l Z a0 hw [] b24 ch33 ea33 kc33 ke33 (2 : Int32) mc66 (4 : Int32) (1 : Int32) [(.ref bx3), (.ref bx7), .null, .null] 1 bx7 T66.heap n0 Z66 hC66' (by decide) (by decide) (by decide) (by decide) ⟨by decide, by decide⟩ rfl (Nat.le_of_ble_eq_true rfl) rfl) hZ (hw _ (List.mem_of_getElem? (i := 59) rfl)) (hw _ (List.mem_of_getElem? (i := 13) rfl)) (by decide) (by decide)) q67a q67c (g := (mkF m 166 #[.val (.int p1), .val (.int p2), .val (.int p3), .val (.int (2 : Int32)), .val (.ref b1), .val (.ref bx23), .val (.ref b24), .unset] [(.ref b24)])) rfl (by rw [hml]; rfl) (Steps.refl _) (argsL := []) (rest := []) (lenOf pd_6 rfl) rfl (by show 2 * 0 + _ ≤ _; exact Nat.le_of_eq rfl) (hb hby at_166) (fun _ _ => ⟨rfl, rfl, (by decide : 10 + 0 ≤ _), (by decide : 19 + 0 ≤ _)⟩)
    dsimp only [Pt.U, Pt.locs, Pt.cells, Pt.slots] at X67 l67 y67 z67 st67 hQ67
    subst l67 y67 z67
    obtain ⟨hv67, N67q, kp67, mc67, hC67⟩ := hQ67
    subst hv67
    have N67 := Fr.app N66 N67q
    have Z67 : n0 ≤ T67.heap.size := Nat.le_trans Z66 kp67.1
    have hC67' : CLs Z n0 T67.heap b24 ch33 ea33 kc33 ke33 (1 : Int32) mc67 (4 : Int32) [(.ref bx3), .null, .null, .null] := hC67
    have R68 : ∀ tg, Steps p.tables e below (T67.setTop (mkF m 174 #[.val (.int p1), .val (.int p2), .val (.int p3), .val (.int (2 : Int32)), .val (.ref b1), .val (.ref bx23), .val (.ref b24), .unset] [(.int ((2 : Int32) - (1 : Int32))), (.ref b1), (.ref bx7)])) tg → Steps p.tables e below (T33.setTop (mkF m 72 #[.val (.int p1), .val (.int p2), .val (.int p3), .val (.int (2 : Int32)), .val (.ref b1), .val (.ref bx23), .val (.ref b24), .unset] [])) tg := by
      intro tg kt
      refine XS.iloadN X33.here hx rfl (hb hby at_72) rfl ?_
      show Steps p.tables e below (T33.setTop (mkF m 73 #[.val (.int p1), .val (.int p2), .val (.int p3), .val (.int (2 : Int32)), .val (.ref b1), .val (.ref bx23), .val (.ref b24), .unset] [(.int (2 : Int32))])) _
      refine XS.ifNo X33.here hx rfl (hb hby at_73) rfl ((if0 _ _).trans (tlt (by decide : (0 : Int32) < (2 : Int32))).2.2.2) ?_
      show Steps p.tables e below (T33.setTop (mkF m 76 #[.val (.int p1), .val (.int p2), .val (.int p3), .val (.int (2 : Int32)), .val (.ref b1), .val (.ref bx23), .val (.ref b24), .unset] [])) _
      refine XS.aload X33.here hx rfl (hb hby at_76) rfl rfl ?_
      show Steps p.tables e below (T33.setTop (mkF m 78 #[.val (.int p1), .val (.int p2), .val (.int p3), .val (.int (2 : Int32)), .val (.ref b1), .val (.ref bx23), .val (.ref b24), .unset] [(.ref b24)])) _
      refine XS.aload X33.here hx rfl (hb hby at_78) rfl rfl ?_
      show Steps p.tables e below (T33.setTop (mkF m 80 #[.val (.int p1), .val (.int p2), .val (.int p3), .val (.int (2 : Int32)), .val (.ref b1), .val (.ref bx23), .val (.ref b24), .unset] [(.ref b1), (.ref b24)])) _
      refine XS.iconst X33.here hx rfl (hb hby at_80) ?_
      show Steps p.tables e below (T33.setTop (mkF m 81 #[.val (.int p1), .val (.int p2), .val (.int p3), .val (.int (2 : Int32)), .val (.ref b1), .val (.ref bx23), .val (.ref b24), .unset] [(.int (0 : Int32)), (.ref b1), (.ref b24)])) _
      refine X33.aaload hx (j := (0 : Int32)) (v := (.ref bx3)) (Ar59.1) (State.isArrayOf_alike hZ.alike Ar59.2.1) rfl Ar59.2.2 hin59 hat59 (g := (mkF m 81 #[.val (.int p1), .val (.int p2), .val (.int p3), .val (.int (2 : Int32)), .val (.ref b1), .val (.ref bx23), .val (.ref b24), .unset] [(.int (0 : Int32)), (.ref b1), (.ref b24)])) rfl rfl (hb hby at_81) _ ?_
      show Steps p.tables e below (T33.setTop (mkF m 82 #[.val (.int p1), .val (.int p2), .val (.int p3), .val (.int (2 : Int32)), .val (.ref b1), .val (.ref bx23), .val (.ref b24), .unset] [(.ref bx3), (.ref b24)])) _
      refine st62.trans ?_
      show Steps p.tables e below (T62.setTop (mkF m 85 #[.val (.int p1), .val (.int p2), .val (.int p3), .val (.int (2 : Int32)), .val (.ref b1), .val (.ref bx23), .val (.ref b24), .unset] [(.int (1 : Int32))])) _
      refine XS.pop X62.here hx rfl (hb hby at_85) rfl rfl ?_
      show Steps p.tables e below (T62.setTop (mkF m 86 #[.val (.int p1), .val (.int p2), .val (.int p3), .val (.int (2 : Int32)), .val (.ref b1), .val (.ref bx23), .val (.ref b24), .unset] [])) _
      refine XS.iloadN X62.here hx rfl (hb hby at_86) rfl ?_
      show Steps p.tables e below (T62.setTop (mkF m 87 #[.val (.int p1), .val (.int p2), .val (.int p3), .val (.int (2 : Int32)), .val (.ref b1), .val (.ref bx23), .val (.ref b24), .unset] [(.int (2 : Int32))])) _
      refine XS.iconst X62.here hx rfl (hb hby at_87) ?_
      show Steps p.tables e below (T62.setTop (mkF m 88 #[.val (.int p1), .val (.int p2), .val (.int p3), .val (.int (2 : Int32)), .val (.ref b1), .val (.ref bx23), .val (.ref b24), .unset] [(.int (1 : Int32)), (.int (2 : Int32))])) _
      refine XS.icmpNo X62.here hx rfl (hb hby at_88) rfl (tlt (by decide : (1 : Int32) < (2 : Int32))).2.2.2 ?_
      show Steps p.tables e below (T62.setTop (mkF m 91 #[.val (.int p1), .val (.int p2), .val (.int p3), .val (.int (2 : Int32)), .val (.ref b1), .val (.ref bx23), .val (.ref b24), .unset] [])) _
      refine XS.aload X62.here hx rfl (hb hby at_91) rfl rfl ?_
      show Steps p.tables e below (T62.setTop (mkF m 93 #[.val (.int p1), .val (.int p2), .val (.int p3), .val (.int (2 : Int32)), .val (.ref b1), .val (.ref bx23), .val (.ref b24), .unset] [(.ref b24)])) _
      refine XS.aload X62.here hx rfl (hb hby at_93) rfl rfl ?_
      show Steps p.tables e below (T62.setTop (mkF m 95 #[.val (.int p1), .val (.int p2), .val (.int p3), .val (.int (2 : Int32)), .val (.ref b1), .val (.ref bx23), .val (.ref b24), .unset] [(.ref b1), (.ref b24)])) _
      refine XS.iconst X62.here hx rfl (hb hby at_95) ?_
      show Steps p.tables e below (T62.setTop (mkF m 96 #[.val (.int p1), .val (.int p2), .val (.int p3), .val (.int (2 : Int32)), .val (.ref b1), .val (.ref bx23), .val (.ref b24), .unset] [(.int (1 : Int32)), (.ref b1), (.ref b24)])) _
      refine X62.aaload hx (j := (1 : Int32)) (v := (.ref bx7)) (Ar63.1) (State.isArrayOf_alike hZ.alike Ar63.2.1) rfl Ar63.2.2 hin63 hat63 (g := (mkF m 96 #[.val (.int p1), .val (.int p2), .val (.int p3), .val (.int (2 : Int32)), .val (.ref b1), .val (.ref bx23), .val (.ref b24), .unset] [(.int (1 : Int32)), (.ref b1), (.ref b24)])) rfl rfl (hb hby at_96) _ ?_
      show Steps p.tables e below (T62.setTop (mkF m 97 #[.val (.int p1), .val (.int p2), .val (.int p3), .val (.int (2 : Int32)), .val (.ref b1), .val (.ref bx23), .val (.ref b24), .unset] [(.ref bx7), (.ref b24)])) _
      refine st66.trans ?_
      show Steps p.tables e below (T66.setTop (mkF m 100 #[.val (.int p1), .val (.int p2), .val (.int p3), .val (.int (2 : Int32)), .val (.ref b1), .val (.ref bx23), .val (.ref b24), .unset] [(.int (1 : Int32))])) _
      refine XS.pop X66.here hx rfl (hb hby at_100) rfl rfl ?_
      show Steps p.tables e below (T66.setTop (mkF m 101 #[.val (.int p1), .val (.int p2), .val (.int p3), .val (.int (2 : Int32)), .val (.ref b1), .val (.ref bx23), .val (.ref b24), .unset] [])) _
      refine XS.iloadN X66.here hx rfl (hb hby at_101) rfl ?_
      show Steps p.tables e below (T66.setTop (mkF m 102 #[.val (.int p1), .val (.int p2), .val (.int p3), .val (.int (2 : Int32)), .val (.ref b1), .val (.ref bx23), .val (.ref b24), .unset] [(.int (2 : Int32))])) _
      refine XS.iconst X66.here hx rfl (hb hby at_102) ?_
      show Steps p.tables e below (T66.setTop (mkF m 103 #[.val (.int p1), .val (.int p2), .val (.int p3), .val (.int (2 : Int32)), .val (.ref b1), .val (.ref bx23), .val (.ref b24), .unset] [(.int (2 : Int32)), (.int (2 : Int32))])) _
      refine XS.icmpYes X66.here hx rfl (pc0 := 103) (pc' := 116) rfl (hb hby at_103) rfl (flt (by decide : ¬ ((2 : Int32) < (2 : Int32)))).2.2.2 (by decide) (by decide) ?_
      show Steps p.tables e below (T66.setTop (mkF m 116 #[.val (.int p1), .val (.int p2), .val (.int p3), .val (.int (2 : Int32)), .val (.ref b1), .val (.ref bx23), .val (.ref b24), .unset] [])) _
      refine XS.iloadN X66.here hx rfl (hb hby at_116) rfl ?_
      show Steps p.tables e below (T66.setTop (mkF m 117 #[.val (.int p1), .val (.int p2), .val (.int p3), .val (.int (2 : Int32)), .val (.ref b1), .val (.ref bx23), .val (.ref b24), .unset] [(.int (2 : Int32))])) _
      refine XS.iconst X66.here hx rfl (hb hby at_117) ?_
      show Steps p.tables e below (T66.setTop (mkF m 118 #[.val (.int p1), .val (.int p2), .val (.int p3), .val (.int (2 : Int32)), .val (.ref b1), .val (.ref bx23), .val (.ref b24), .unset] [(.int (3 : Int32)), (.int (2 : Int32))])) _
      refine XS.icmpYes X66.here hx rfl (pc0 := 118) (pc' := 131) rfl (hb hby at_118) rfl (flt (by decide : ¬ ((3 : Int32) < (2 : Int32)))).2.2.2 (by decide) (by decide) ?_
      show Steps p.tables e below (T66.setTop (mkF m 131 #[.val (.int p1), .val (.int p2), .val (.int p3), .val (.int (2 : Int32)), .val (.ref b1), .val (.ref bx23), .val (.ref b24), .unset] [])) _
      refine XS.iloadN X66.here hx rfl (hb hby at_131) rfl ?_
      show Steps p.tables e below (T66.setTop (mkF m 132 #[.val (.int p1), .val (.int p2), .val (.int p3), .val (.int (2 : Int32)), .val (.ref b1), .val (.ref bx23), .val (.ref b24), .unset] [(.int (2 : Int32))])) _
      refine XS.iconst X66.here hx rfl (hb hby at_132) ?_
      show Steps p.tables e below (T66.setTop (mkF m 133 #[.val (.int p1), .val (.int p2), .val (.int p3), .val (.int (2 : Int32)), .val (.ref b1), .val (.ref bx23), .val (.ref b24), .unset] [(.int (4 : Int32)), (.int (2 : Int32))])) _
      refine XS.icmpYes X66.here hx rfl (pc0 := 133) (pc' := 146) rfl (hb hby at_133) rfl (flt (by decide : ¬ ((4 : Int32) < (2 : Int32)))).2.2.2 (by decide) (by decide) ?_
      show Steps p.tables e below (T66.setTop (mkF m 146 #[.val (.int p1), .val (.int p2), .val (.int p3), .val (.int (2 : Int32)), .val (.ref b1), .val (.ref bx23), .val (.ref b24), .unset] [])) _
      refine XS.iloadN X66.here hx rfl (hb hby at_146) rfl ?_
      show Steps p.tables e below (T66.setTop (mkF m 147 #[.val (.int p1), .val (.int p2), .val (.int p3), .val (.int (2 : Int32)), .val (.ref b1), .val (.ref bx23), .val (.ref b24), .unset] [(.int (2 : Int32))])) _
      refine XS.ifYes X66.here hx rfl (pc0 := 147) (pc' := 164) rfl (hb hby at_147) rfl ((if0 _ _).trans (feq (by decide : ¬ ((2 : Int32) = (0 : Int32)))).2) (by decide) (by decide) ?_
      show Steps p.tables e below (T66.setTop (mkF m 164 #[.val (.int p1), .val (.int p2), .val (.int p3), .val (.int (2 : Int32)), .val (.ref b1), .val (.ref bx23), .val (.ref b24), .unset] [])) _
      refine XS.aload X66.here hx rfl (hb hby at_164) rfl rfl ?_
      show Steps p.tables e below (T66.setTop (mkF m 166 #[.val (.int p1), .val (.int p2), .val (.int p3), .val (.int (2 : Int32)), .val (.ref b1), .val (.ref bx23), .val (.ref b24), .unset] [(.ref b24)])) _
      refine st67.trans ?_
      show Steps p.tables e below (T67.setTop (mkF m 169 #[.val (.int p1), .val (.int p2), .val (.int p3), .val (.int (2 : Int32)), .val (.ref b1), .val (.ref bx23), .val (.ref b24), .unset] [(.ref bx7)])) _
      refine XS.aload X67.here hx rfl (hb hby at_169) rfl rfl ?_
      show Steps p.tables e below (T67.setTop (mkF m 171 #[.val (.int p1), .val (.int p2), .val (.int p3), .val (.int (2 : Int32)), .val (.ref b1), .val (.ref bx23), .val (.ref b24), .unset] [(.ref b1), (.ref bx7)])) _
      refine XS.iloadN X67.here hx rfl (hb hby at_171) rfl ?_
      show Steps p.tables e below (T67.setTop (mkF m 172 #[.val (.int p1), .val (.int p2), .val (.int p3), .val (.int (2 : Int32)), .val (.ref b1), .val (.ref bx23), .val (.ref b24), .unset] [(.int (2 : Int32)), (.ref b1), (.ref bx7)])) _
      refine XS.iconst X67.here hx rfl (hb hby at_172) ?_
      show Steps p.tables e below (T67.setTop (mkF m 173 #[.val (.int p1), .val (.int p2), .val (.int p3), .val (.int (2 : Int32)), .val (.ref b1), .val (.ref bx23), .val (.ref b24), .unset] [(.int (1 : Int32)), (.int (2 : Int32)), (.ref b1), (.ref bx7)])) _
      refine XS.isub X67.here hx rfl (hb hby at_173) rfl ?_
      show Steps p.tables e below (T67.setTop (mkF m 174 #[.val (.int p1), .val (.int p2), .val (.int p3), .val (.int (2 : Int32)), .val (.ref b1), .val (.ref bx23), .val (.ref b24), .unset] [(.int ((2 : Int32) - (1 : Int32))), (.ref b1), (.ref bx7)])) _
      exact kt
    have R69 : ∀ tg, Steps p.tables e below (T67.setTop (mkF m 174 #[.val (.int p1), .val (.int p2), .val (.int p3), .val (.int (2 : Int32)), .val (.ref b1), .val (.ref bx23), .val (.ref b24), .unset] [(.int (1 : Int32)), (.ref b1), (.ref bx7)])) tg → Steps p.tables e below (T67.setTop (mkF m 174 #[.val (.int p1), .val (.int p2), .val (.int p3), .val (.int (2 : Int32)), .val (.ref b1), .val (.ref bx23), .val (.ref b24), .unset] [(.int ((2 : Int32) - (1 : Int32))), (.ref b1), (.ref bx7)])) tg := fun tg kt => by rw [(by decide : ((2 : Int32) - (1 : Int32)) = (1 : Int32))]; exact kt
    have f71 := ((f64.keep kp66 (ninS ne_b1_b24 (ninS nes_c33 (ninS nes_e33 nin0)))).keep kp67 (ninS ne_b1_b24 (ninS nes_c33 (ninS nes_e33 nin0))))
    obtain ⟨cl70, Ar70, q70, Sz70, Nn70, Ha70, Ga70⟩ := id f71
    have hin70 : ¬ ((1 : Int32) < 0 ∨ cl70.slots.size ≤ ((1 : Int32)).toNatClampNeg) := inb_of Sz70 ⟨by decide, by decide⟩
    have hat70 : cl70.slots[((1 : Int32)).toNatClampNeg]? = some (.ref bx7) := Ha70.at hin70 rfl
    have f72 := (((((EB23.ext E24).keep kp33).keep kp62).keep kp66).keep kp67)
    obtain ⟨cq73, kq73, q73a, q73b, q73c⟩ := isOf hZ rfl hC67'.1
    obtain ⟨_, _, ⟨T73, L73, k73, n73⟩, -, X73, ⟨Lc73, hQ73, l73, y73, z73⟩, st73⟩ := X67.virtualBack hx (y := (⟨"com/example/anchored_threads/anchoredthreads/internal/ChunkedList", "add", "(Ljava/lang/Object;)Z"⟩ : MethodName)) (z := (⟨"com/example/anchored_threads/anchoredthreads/internal/ChunkedList", "add", "(Ljava/lang/Object;)Z"⟩ : MethodName)) hown (mvT hZ (hw _ (List.mem_of_getElem? (i := 47) rfl))) (mvT hZ (hw _ (List.mem_of_getElem? (i := 48) rfl))) (notFace_of_selects (args := #[]) (mvT hZ (hw _ (List.mem_of_getElem? (i := 50) rfl)))) (mvT hZ (hw _ (List.mem_of_getElem? (i := 50) rfl))) (mvT hZ (hw _ (List.mem_of_getElem? (i := 49) rfl))) (by decide) (backOf (W := 0) (rmAd l Z a0 hw [] b24 bx23 ch33 ea33 kc33 ke33 (1 : Int32) mc67 (4 : Int32) [(.ref bx3), .null, .null, .null] 1 T67.heap n0 Z67 hC67' f72 (by decide) (by decide) (by decide) ⟨by decide, by decide⟩ rfl (Nat.le_of_ble_eq_true rfl)) hZ (hw _ (List.mem_of_getElem? (i := 51) rfl)) (hw _ (List.mem_of_getElem? (i := 13) rfl)) (by decide) (by decide)) q73a q73c (g := (mkF m 189 #[.val (.int p1), .val (.int p2), .val (.int p3), .val (.int (2 : Int32)), .val (.ref b1), .val (.ref bx23), .val (.ref b24), .val (.int (1 : Int32))] [(.ref bx23), (.ref b24)])) rfl (by rw [hml]; rfl) (Steps.refl _) (argsL := [(.ref bx23)]) (rest := []) (lenOf pd_5 rfl) rfl (by show 2 * 0 + _ ≤ _; exact Nat.le_of_eq rfl) (hb hby at_189) (fun _ _ => ⟨rfl, rfl, (by decide : 10 + 0 ≤ _), (by decide : 19 + 0 ≤ _)⟩)
    dsimp only [Pt.U, Pt.locs, Pt.cells, Pt.slots] at X73 l73 y73 z73 st73 hQ73
    subst l73 y73 z73
    obtain ⟨hv73, N73q, kp73, mc73, hC73⟩ := hQ73
    subst hv73
    have N73 := Fr.app N67 N73q
    have Z73 : n0 ≤ T73.heap.size := Nat.le_trans Z67 kp73.1
    have hC73' : CLs Z n0 T73.heap b24 ch33 ea33 kc33 ke33 (2 : Int32) mc73 (4 : Int32) [(.ref bx3), (.ref bx23), .null, .null] := by
      have q := hC73
      rw [show ((1 : Int32) + 1) = (2 : Int32) from by decide] at q
      exact q
    obtain ⟨cq74, kq74, q74a, q74b, q74c⟩ := isOf hZ rfl hC73'.1
    obtain ⟨_, _, ⟨T74, L74, k74, n74⟩, -, X74, ⟨Lc74, hQ74, l74, y74, z74⟩, st74⟩ := X73.virtualBack hx (y := (⟨"com/example/anchored_threads/anchoredthreads/internal/ChunkedList", "removeLast", "()Ljava/lang/Object;"⟩ : MethodName)) (z := (⟨"com/example/anchored_threads/anchoredthreads/internal/ChunkedList", "removeLast", "()Ljava/lang/Object;"⟩ : MethodName)) hown (mvT hZ (hw _ (List.mem_of_getElem? (i := 55) rfl))) (mvT hZ (hw _ (List.mem_of_getElem? (i := 56) rfl))) (notFace_of_selects (args := #[]) (mvT hZ (hw _ (List.mem_of_getElem? (i := 58) rfl)))) (mvT hZ (hw _ (List.mem_of_getElem? (i := 58) rfl))) (mvT hZ (hw _ (List.mem_of_getElem? (i := 57) rfl))) (by decide) (backOf (W := 1) (rmRl l Z a0 hw [] b24 ch33 ea33 kc33 ke33 (2 : Int32) mc73 (4 : Int32) (1 : Int32) [(.ref bx3), (.ref bx23), .null, .null] 1 bx23 T73.heap n0 Z73 hC73' (by decide) (by decide) (by decide) (by decide) ⟨by decide, by decide⟩ rfl (Nat.le_of_ble_eq_true rfl) rfl) hZ (hw _ (List.mem_of_getElem? (i := 59) rfl)) (hw _ (List.mem_of_getElem? (i := 13) rfl)) (by decide) (by decide)) q74a q74c (g := (mkF m 197 #[.val (.int p1), .val (.int p2), .val (.int p3), .val (.int (2 : Int32)), .val (.ref b1), .val (.ref bx23), .val (.ref b24), .val (.int (1 : Int32))] [(.ref b24), (.int (1 : Int32))])) rfl (by rw [hml]; rfl) (Steps.refl _) (argsL := []) (rest := [(.int (1 : Int32))]) (lenOf pd_6 rfl) rfl (by show 2 * 0 + _ ≤ _; exact Nat.le_of_eq rfl) (hb hby at_197) (fun _ _ => ⟨rfl, rfl, (by decide : 10 + 0 ≤ _), (by decide : 19 + 0 ≤ _)⟩)
    dsimp only [Pt.U, Pt.locs, Pt.cells, Pt.slots] at X74 l74 y74 z74 st74 hQ74
    subst l74 y74 z74
    obtain ⟨hv74, N74q, kp74, mc74, hC74⟩ := hQ74
    subst hv74
    have N74 := Fr.app N73 N74q
    have Z74 : n0 ≤ T74.heap.size := Nat.le_trans Z73 kp74.1
    have hC74' : CLs Z n0 T74.heap b24 ch33 ea33 kc33 ke33 (1 : Int32) mc74 (4 : Int32) [(.ref bx3), .null, .null, .null] := hC74
    have R75 : ∀ tg, Steps p.tables e below (T74.setTop (mkF m 211 #[.val (.int p1), .val (.int p2), .val (.int p3), .val (.int (2 : Int32)), .val (.ref b1), .val (.ref bx23), .val (.ref b24), .val (.int (1 : Int32))] [(.int ((1 : Int32) &&& (1 : Int32)))])) tg → Steps p.tables e below (T67.setTop (mkF m 174 #[.val (.int p1), .val (.int p2), .val (.int p3), .val (.int (2 : Int32)), .val (.ref b1), .val (.ref bx23), .val (.ref b24), .unset] [(.int (1 : Int32)), (.ref b1), (.ref bx7)])) tg := by
      intro tg kt
      refine X67.aaload hx (j := (1 : Int32)) (v := (.ref bx7)) (Ar70.1) (State.isArrayOf_alike hZ.alike Ar70.2.1) rfl Ar70.2.2 hin70 hat70 (g := (mkF m 174 #[.val (.int p1), .val (.int p2), .val (.int p3), .val (.int (2 : Int32)), .val (.ref b1), .val (.ref bx23), .val (.ref b24), .unset] [(.int (1 : Int32)), (.ref b1), (.ref bx7)])) rfl rfl (hb hby at_174) _ ?_
      show Steps p.tables e below (T67.setTop (mkF m 175 #[.val (.int p1), .val (.int p2), .val (.int p3), .val (.int (2 : Int32)), .val (.ref b1), .val (.ref bx23), .val (.ref b24), .unset] [(.ref bx7), (.ref bx7)])) _
      refine Jvm.RoadKit.acmp (g := (mkF m 175 #[.val (.int p1), .val (.int p2), .val (.int p3), .val (.int (2 : Int32)), .val (.ref b1), .val (.ref bx23), .val (.ref b24), .unset] [(.ref bx7), (.ref bx7)])) X67 hx rfl rfl rfl (pc0 := 175) (pc' := 178) (same := true) rfl (hb hby at_175) rfl (decide_eq_true rfl) (by decide) (by decide) ?_
      show Steps p.tables e below (T67.setTop (mkF m 178 #[.val (.int p1), .val (.int p2), .val (.int p3), .val (.int (2 : Int32)), .val (.ref b1), .val (.ref bx23), .val (.ref b24), .unset] [])) _
      refine XS.iconst X67.here hx rfl (hb hby at_178) ?_
      show Steps p.tables e below (T67.setTop (mkF m 179 #[.val (.int p1), .val (.int p2), .val (.int p3), .val (.int (2 : Int32)), .val (.ref b1), .val (.ref bx23), .val (.ref b24), .unset] [(.int (1 : Int32))])) _
      refine XS.goto X67.here hx rfl (pc0 := 179) (pc' := 183) rfl (hb hby at_179) (by decide) (by decide) ?_
      show Steps p.tables e below (T67.setTop (mkF m 183 #[.val (.int p1), .val (.int p2), .val (.int p3), .val (.int (2 : Int32)), .val (.ref b1), .val (.ref bx23), .val (.ref b24), .unset] [(.int (1 : Int32))])) _
      refine XS.istore X67.here hx rfl (hb hby at_183) rfl (l' := #[.val (.int p1), .val (.int p2), .val (.int p3), .val (.int (2 : Int32)), .val (.ref b1), .val (.ref bx23), .val (.ref b24), .val (.int (1 : Int32))]) rfl ?_
      show Steps p.tables e below (T67.setTop (mkF m 185 #[.val (.int p1), .val (.int p2), .val (.int p3), .val (.int (2 : Int32)), .val (.ref b1), .val (.ref bx23), .val (.ref b24), .val (.int (1 : Int32))] [])) _
      refine XS.aload X67.here hx rfl (hb hby at_185) rfl rfl ?_
      show Steps p.tables e below (T67.setTop (mkF m 187 #[.val (.int p1), .val (.int p2), .val (.int p3), .val (.int (2 : Int32)), .val (.ref b1), .val (.ref bx23), .val (.ref b24), .val (.int (1 : Int32))] [(.ref b24)])) _
      refine XS.aload X67.here hx rfl (hb hby at_187) rfl rfl ?_
      show Steps p.tables e below (T67.setTop (mkF m 189 #[.val (.int p1), .val (.int p2), .val (.int p3), .val (.int (2 : Int32)), .val (.ref b1), .val (.ref bx23), .val (.ref b24), .val (.int (1 : Int32))] [(.ref bx23), (.ref b24)])) _
      refine st73.trans ?_
      show Steps p.tables e below (T73.setTop (mkF m 192 #[.val (.int p1), .val (.int p2), .val (.int p3), .val (.int (2 : Int32)), .val (.ref b1), .val (.ref bx23), .val (.ref b24), .val (.int (1 : Int32))] [(.int (1 : Int32))])) _
      refine XS.pop X73.here hx rfl (hb hby at_192) rfl rfl ?_
      show Steps p.tables e below (T73.setTop (mkF m 193 #[.val (.int p1), .val (.int p2), .val (.int p3), .val (.int (2 : Int32)), .val (.ref b1), .val (.ref bx23), .val (.ref b24), .val (.int (1 : Int32))] [])) _
      refine XS.iload X73.here hx rfl (hb hby at_193) rfl ?_
      show Steps p.tables e below (T73.setTop (mkF m 195 #[.val (.int p1), .val (.int p2), .val (.int p3), .val (.int (2 : Int32)), .val (.ref b1), .val (.ref bx23), .val (.ref b24), .val (.int (1 : Int32))] [(.int (1 : Int32))])) _
      refine XS.aload X73.here hx rfl (hb hby at_195) rfl rfl ?_
      show Steps p.tables e below (T73.setTop (mkF m 197 #[.val (.int p1), .val (.int p2), .val (.int p3), .val (.int (2 : Int32)), .val (.ref b1), .val (.ref bx23), .val (.ref b24), .val (.int (1 : Int32))] [(.ref b24), (.int (1 : Int32))])) _
      refine st74.trans ?_
      show Steps p.tables e below (T74.setTop (mkF m 200 #[.val (.int p1), .val (.int p2), .val (.int p3), .val (.int (2 : Int32)), .val (.ref b1), .val (.ref bx23), .val (.ref b24), .val (.int (1 : Int32))] [(.ref bx23), (.int (1 : Int32))])) _
      refine XS.aload X74.here hx rfl (hb hby at_200) rfl rfl ?_
      show Steps p.tables e below (T74.setTop (mkF m 202 #[.val (.int p1), .val (.int p2), .val (.int p3), .val (.int (2 : Int32)), .val (.ref b1), .val (.ref bx23), .val (.ref b24), .val (.int (1 : Int32))] [(.ref bx23), (.ref bx23), (.int (1 : Int32))])) _
      refine Jvm.RoadKit.acmp (g := (mkF m 202 #[.val (.int p1), .val (.int p2), .val (.int p3), .val (.int (2 : Int32)), .val (.ref b1), .val (.ref bx23), .val (.ref b24), .val (.int (1 : Int32))] [(.ref bx23), (.ref bx23), (.int (1 : Int32))])) X74 hx rfl rfl rfl (pc0 := 202) (pc' := 205) (same := true) rfl (hb hby at_202) rfl (decide_eq_true rfl) (by decide) (by decide) ?_
      show Steps p.tables e below (T74.setTop (mkF m 205 #[.val (.int p1), .val (.int p2), .val (.int p3), .val (.int (2 : Int32)), .val (.ref b1), .val (.ref bx23), .val (.ref b24), .val (.int (1 : Int32))] [(.int (1 : Int32))])) _
      refine XS.iconst X74.here hx rfl (hb hby at_205) ?_
      show Steps p.tables e below (T74.setTop (mkF m 206 #[.val (.int p1), .val (.int p2), .val (.int p3), .val (.int (2 : Int32)), .val (.ref b1), .val (.ref bx23), .val (.ref b24), .val (.int (1 : Int32))] [(.int (1 : Int32)), (.int (1 : Int32))])) _
      refine XS.goto X74.here hx rfl (pc0 := 206) (pc' := 210) rfl (hb hby at_206) (by decide) (by decide) ?_
      show Steps p.tables e below (T74.setTop (mkF m 210 #[.val (.int p1), .val (.int p2), .val (.int p3), .val (.int (2 : Int32)), .val (.ref b1), .val (.ref bx23), .val (.ref b24), .val (.int (1 : Int32))] [(.int (1 : Int32)), (.int (1 : Int32))])) _
      refine XS.iand X74.here hx rfl (hb hby at_210) rfl ?_
      show Steps p.tables e below (T74.setTop (mkF m 211 #[.val (.int p1), .val (.int p2), .val (.int p3), .val (.int (2 : Int32)), .val (.ref b1), .val (.ref bx23), .val (.ref b24), .val (.int (1 : Int32))] [(.int ((1 : Int32) &&& (1 : Int32)))])) _
      exact kt
    have R76 : ∀ tg, Steps p.tables e below (T74.setTop (mkF m 211 #[.val (.int p1), .val (.int p2), .val (.int p3), .val (.int (2 : Int32)), .val (.ref b1), .val (.ref bx23), .val (.ref b24), .val (.int (1 : Int32))] [(.int (1 : Int32))])) tg → Steps p.tables e below (T74.setTop (mkF m 211 #[.val (.int p1), .val (.int p2), .val (.int p3), .val (.int (2 : Int32)), .val (.ref b1), .val (.ref bx23), .val (.ref b24), .val (.int (1 : Int32))] [(.int ((1 : Int32) &&& (1 : Int32)))])) tg := fun tg kt => by rw [(by decide : ((1 : Int32) &&& (1 : Int32)) = (1 : Int32))]; exact kt
    obtain ⟨cq77, kq77, q77a, q77b, q77c⟩ := isOf hZ rfl hC74'.1
    obtain ⟨_, _, ⟨T77, L77, k77, n77⟩, -, X77, ⟨Lc77, hQ77, l77, y77, z77⟩, st77⟩ := X74.virtualBack hx (y := (⟨"com/example/anchored_threads/anchoredthreads/internal/ChunkedList", "size", "()I"⟩ : MethodName)) (z := (⟨"com/example/anchored_threads/anchoredthreads/internal/ChunkedList", "size", "()I"⟩ : MethodName)) hown (mvT hZ (hw _ (List.mem_of_getElem? (i := 40) rfl))) (mvT hZ (hw _ (List.mem_of_getElem? (i := 41) rfl))) (notFace_of_selects (args := #[]) (mvT hZ (hw _ (List.mem_of_getElem? (i := 43) rfl)))) (mvT hZ (hw _ (List.mem_of_getElem? (i := 43) rfl))) (mvT hZ (hw _ (List.mem_of_getElem? (i := 42) rfl))) (by decide) (backOf (W := 1) (rmSz l Z a0 hw [] b24 (1 : Int32) T74.heap n0 Z74 hC74'.2.1) hZ (hw _ (List.mem_of_getElem? (i := 44) rfl)) (hw _ (List.mem_of_getElem? (i := 13) rfl)) (by decide) (by decide)) q77a q77c (g := (mkF m 217 #[.val (.int p1), .val (.int p2), .val (.int p3), .val (.int (2 : Int32)), .val (.ref b1), .val (.ref bx23), .val (.ref b24), .val (.int (1 : Int32))] [(.ref b24), (.int (1 : Int32))])) rfl (by rw [hml]; rfl) (Steps.refl _) (argsL := []) (rest := [(.int (1 : Int32))]) (lenOf pd_4 rfl) rfl (by show 2 * 0 + _ ≤ _; exact Nat.le_of_eq rfl) (hb hby at_217) (fun _ _ => ⟨rfl, rfl, (by decide : 10 + 0 ≤ _), (by decide : 19 + 0 ≤ _)⟩)
    dsimp only [Pt.U, Pt.locs, Pt.cells, Pt.slots] at X77 l77 y77 z77 st77 hQ77
    subst l77 y77 z77
    obtain ⟨hv77, N77q, r77⟩ := hQ77
    subst hv77
    have N77 := Fr.app N74 N77q
    have R78 : ∀ tg, Steps p.tables e below (T77.setTop (mkF m 223 #[.val (.int p1), .val (.int p2), .val (.int p3), .val (.int (2 : Int32)), .val (.ref b1), .val (.ref bx23), .val (.ref b24), .val (.int (1 : Int32))] [(.int ((2 : Int32) - (1 : Int32))), (.int (1 : Int32)), (.int (1 : Int32))])) tg → Steps p.tables e below (T74.setTop (mkF m 211 #[.val (.int p1), .val (.int p2), .val (.int p3), .val (.int (2 : Int32)), .val (.ref b1), .val (.ref bx23), .val (.ref b24), .val (.int (1 : Int32))] [(.int (1 : Int32))])) tg := by
      intro tg kt
      refine XS.istore X74.here hx rfl (hb hby at_211) rfl (l' := #[.val (.int p1), .val (.int p2), .val (.int p3), .val (.int (2 : Int32)), .val (.ref b1), .val (.ref bx23), .val (.ref b24), .val (.int (1 : Int32))]) rfl ?_
      show Steps p.tables e below (T74.setTop (mkF m 213 #[.val (.int p1), .val (.int p2), .val (.int p3), .val (.int (2 : Int32)), .val (.ref b1), .val (.ref bx23), .val (.ref b24), .val (.int (1 : Int32))] [])) _
      refine XS.iload X74.here hx rfl (hb hby at_213) rfl ?_
      show Steps p.tables e below (T74.setTop (mkF m 215 #[.val (.int p1), .val (.int p2), .val (.int p3), .val (.int (2 : Int32)), .val (.ref b1), .val (.ref bx23), .val (.ref b24), .val (.int (1 : Int32))] [(.int (1 : Int32))])) _
      refine XS.aload X74.here hx rfl (hb hby at_215) rfl rfl ?_
      show Steps p.tables e below (T74.setTop (mkF m 217 #[.val (.int p1), .val (.int p2), .val (.int p3), .val (.int (2 : Int32)), .val (.ref b1), .val (.ref bx23), .val (.ref b24), .val (.int (1 : Int32))] [(.ref b24), (.int (1 : Int32))])) _
      refine st77.trans ?_
      show Steps p.tables e below (T77.setTop (mkF m 220 #[.val (.int p1), .val (.int p2), .val (.int p3), .val (.int (2 : Int32)), .val (.ref b1), .val (.ref bx23), .val (.ref b24), .val (.int (1 : Int32))] [(.int (1 : Int32)), (.int (1 : Int32))])) _
      refine XS.iloadN X77.here hx rfl (hb hby at_220) rfl ?_
      show Steps p.tables e below (T77.setTop (mkF m 221 #[.val (.int p1), .val (.int p2), .val (.int p3), .val (.int (2 : Int32)), .val (.ref b1), .val (.ref bx23), .val (.ref b24), .val (.int (1 : Int32))] [(.int (2 : Int32)), (.int (1 : Int32)), (.int (1 : Int32))])) _
      refine XS.iconst X77.here hx rfl (hb hby at_221) ?_
      show Steps p.tables e below (T77.setTop (mkF m 222 #[.val (.int p1), .val (.int p2), .val (.int p3), .val (.int (2 : Int32)), .val (.ref b1), .val (.ref bx23), .val (.ref b24), .val (.int (1 : Int32))] [(.int (1 : Int32)), (.int (2 : Int32)), (.int (1 : Int32)), (.int (1 : Int32))])) _
      refine XS.isub X77.here hx rfl (hb hby at_222) rfl ?_
      show Steps p.tables e below (T77.setTop (mkF m 223 #[.val (.int p1), .val (.int p2), .val (.int p3), .val (.int (2 : Int32)), .val (.ref b1), .val (.ref bx23), .val (.ref b24), .val (.int (1 : Int32))] [(.int ((2 : Int32) - (1 : Int32))), (.int (1 : Int32)), (.int (1 : Int32))])) _
      exact kt
    have R79 : ∀ tg, Steps p.tables e below (T77.setTop (mkF m 223 #[.val (.int p1), .val (.int p2), .val (.int p3), .val (.int (2 : Int32)), .val (.ref b1), .val (.ref bx23), .val (.ref b24), .val (.int (1 : Int32))] [(.int (1 : Int32)), (.int (1 : Int32)), (.int (1 : Int32))])) tg → Steps p.tables e below (T77.setTop (mkF m 223 #[.val (.int p1), .val (.int p2), .val (.int p3), .val (.int (2 : Int32)), .val (.ref b1), .val (.ref bx23), .val (.ref b24), .val (.int (1 : Int32))] [(.int ((2 : Int32) - (1 : Int32))), (.int (1 : Int32)), (.int (1 : Int32))])) tg := fun tg kt => by rw [(by decide : ((2 : Int32) - (1 : Int32)) = (1 : Int32))]; exact kt
    have R80 : ∀ tg, Steps p.tables e below (T77.setTop (mkF m 232 #[.val (.int p1), .val (.int p2), .val (.int p3), .val (.int (2 : Int32)), .val (.ref b1), .val (.ref bx23), .val (.ref b24), .val (.int (1 : Int32))] [(.int ((1 : Int32) &&& (1 : Int32)))])) tg → Steps p.tables e below (T77.setTop (mkF m 223 #[.val (.int p1), .val (.int p2), .val (.int p3), .val (.int (2 : Int32)), .val (.ref b1), .val (.ref bx23), .val (.ref b24), .val (.int (1 : Int32))] [(.int (1 : Int32)), (.int (1 : Int32)), (.int (1 : Int32))])) tg := by
      intro tg kt
      refine XS.icmpNo X77.here hx rfl (hb hby at_223) rfl (teq (by decide : (1 : Int32) = (1 : Int32))).2 ?_
      show Steps p.tables e below (T77.setTop (mkF m 226 #[.val (.int p1), .val (.int p2), .val (.int p3), .val (.int (2 : Int32)), .val (.ref b1), .val (.ref bx23), .val (.ref b24), .val (.int (1 : Int32))] [(.int (1 : Int32))])) _
      refine XS.iconst X77.here hx rfl (hb hby at_226) ?_
      show Steps p.tables e below (T77.setTop (mkF m 227 #[.val (.int p1), .val (.int p2), .val (.int p3), .val (.int (2 : Int32)), .val (.ref b1), .val (.ref bx23), .val (.ref b24), .val (.int (1 : Int32))] [(.int (1 : Int32)), (.int (1 : Int32))])) _
      refine XS.goto X77.here hx rfl (pc0 := 227) (pc' := 231) rfl (hb hby at_227) (by decide) (by decide) ?_
      show Steps p.tables e below (T77.setTop (mkF m 231 #[.val (.int p1), .val (.int p2), .val (.int p3), .val (.int (2 : Int32)), .val (.ref b1), .val (.ref bx23), .val (.ref b24), .val (.int (1 : Int32))] [(.int (1 : Int32)), (.int (1 : Int32))])) _
      refine XS.iand X77.here hx rfl (hb hby at_231) rfl ?_
      show Steps p.tables e below (T77.setTop (mkF m 232 #[.val (.int p1), .val (.int p2), .val (.int p3), .val (.int (2 : Int32)), .val (.ref b1), .val (.ref bx23), .val (.ref b24), .val (.int (1 : Int32))] [(.int ((1 : Int32) &&& (1 : Int32)))])) _
      exact kt
    have R81 : ∀ tg, Steps p.tables e below (T77.setTop (mkF m 232 #[.val (.int p1), .val (.int p2), .val (.int p3), .val (.int (2 : Int32)), .val (.ref b1), .val (.ref bx23), .val (.ref b24), .val (.int (1 : Int32))] [(.int (1 : Int32))])) tg → Steps p.tables e below (T77.setTop (mkF m 232 #[.val (.int p1), .val (.int p2), .val (.int p3), .val (.int (2 : Int32)), .val (.ref b1), .val (.ref bx23), .val (.ref b24), .val (.int (1 : Int32))] [(.int ((1 : Int32) &&& (1 : Int32)))])) tg := fun tg kt => by rw [(by decide : ((1 : Int32) &&& (1 : Int32)) = (1 : Int32))]; exact kt
    obtain ⟨cq82, kq82, q82a, q82b, q82c⟩ := isOf hZ r77 hC74'.1
    obtain ⟨_, _, ⟨T82, L82, k82, n82⟩, -, X82, ⟨Lc82, hQ82, l82, y82, z82⟩, st82⟩ := X77.virtualBack hx (y := (⟨"com/example/anchored_threads/anchoredthreads/internal/ChunkedList", "removeLast", "()Ljava/lang/Object;"⟩ : MethodName)) (z := (⟨"com/example/anchored_threads/anchoredthreads/internal/ChunkedList", "removeLast", "()Ljava/lang/Object;"⟩ : MethodName)) hown (mvT hZ (hw _ (List.mem_of_getElem? (i := 55) rfl))) (mvT hZ (hw _ (List.mem_of_getElem? (i := 56) rfl))) (notFace_of_selects (args := #[]) (mvT hZ (hw _ (List.mem_of_getElem? (i := 58) rfl)))) (mvT hZ (hw _ (List.mem_of_getElem? (i := 58) rfl))) (mvT hZ (hw _ (List.mem_of_getElem? (i := 57) rfl))) (by decide) (backOf (W := 1) (rmRl l Z a0 hw [] b24 ch33 ea33 kc33 ke33 (1 : Int32) mc74 (4 : Int32) (0 : Int32) [(.ref bx3), .null, .null, .null] 0 bx3 T74.heap n0 Z74 hC74' (by decide) (by decide) (by decide) (by decide) ⟨by decide, by decide⟩ rfl (Nat.le_of_ble_eq_true rfl) rfl) hZ (hw _ (List.mem_of_getElem? (i := 59) rfl)) (hw _ (List.mem_of_getElem? (i := 13) rfl)) (by decide) (by decide)) q82a q82c (g := (mkF m 243 #[.val (.int p1), .val (.int p2), .val (.int p3), .val (.int (2 : Int32)), .val (.ref b1), .val (.ref bx23), .val (.ref b24), .val (.int (1 : Int32))] [(.ref b24), (.int (1 : Int32))])) rfl (by rw [hml]; rfl) (Steps.refl _) (argsL := []) (rest := [(.int (1 : Int32))]) (lenOf pd_6 rfl) rfl (by show 2 * 0 + _ ≤ _; exact Nat.le_of_eq rfl) (hb hby at_243) (fun _ _ => ⟨rfl, r77, (by decide : 10 + 0 ≤ _), (by decide : 19 + 0 ≤ _)⟩)
    dsimp only [Pt.U, Pt.locs, Pt.cells, Pt.slots] at X82 l82 y82 z82 st82 hQ82
    subst l82 y82 z82
    obtain ⟨hv82, N82q, kp82, mc82, hC82⟩ := hQ82
    subst hv82
    have N82 := Fr.app N77 N82q
    have Z82 : n0 ≤ T82.heap.size := Nat.le_trans Z74 kp82.1
    have hC82' : CLs Z n0 T82.heap b24 ch33 ea33 kc33 ke33 (0 : Int32) mc82 (4 : Int32) [.null, .null, .null, .null] := hC82
    have R83 : ∀ tg, Steps p.tables e below (T82.setTop (mkF m 251 #[.val (.int p1), .val (.int p2), .val (.int p3), .val (.int (2 : Int32)), .val (.ref b1), .val (.ref bx23), .val (.ref b24), .val (.int (1 : Int32))] [(.int ((2 : Int32) - (2 : Int32))), (.ref b1), (.ref bx3), (.int (1 : Int32))])) tg → Steps p.tables e below (T77.setTop (mkF m 232 #[.val (.int p1), .val (.int p2), .val (.int p3), .val (.int (2 : Int32)), .val (.ref b1), .val (.ref bx23), .val (.ref b24), .val (.int (1 : Int32))] [(.int (1 : Int32))])) tg := by
      intro tg kt
      refine XS.istore X77.here hx rfl (hb hby at_232) rfl (l' := #[.val (.int p1), .val (.int p2), .val (.int p3), .val (.int (2 : Int32)), .val (.ref b1), .val (.ref bx23), .val (.ref b24), .val (.int (1 : Int32))]) rfl ?_
      show Steps p.tables e below (T77.setTop (mkF m 234 #[.val (.int p1), .val (.int p2), .val (.int p3), .val (.int (2 : Int32)), .val (.ref b1), .val (.ref bx23), .val (.ref b24), .val (.int (1 : Int32))] [])) _
      refine XS.iloadN X77.here hx rfl (hb hby at_234) rfl ?_
      show Steps p.tables e below (T77.setTop (mkF m 235 #[.val (.int p1), .val (.int p2), .val (.int p3), .val (.int (2 : Int32)), .val (.ref b1), .val (.ref bx23), .val (.ref b24), .val (.int (1 : Int32))] [(.int (2 : Int32))])) _
      refine XS.iconst X77.here hx rfl (hb hby at_235) ?_
      show Steps p.tables e below (T77.setTop (mkF m 236 #[.val (.int p1), .val (.int p2), .val (.int p3), .val (.int (2 : Int32)), .val (.ref b1), .val (.ref bx23), .val (.ref b24), .val (.int (1 : Int32))] [(.int (2 : Int32)), (.int (2 : Int32))])) _
      refine XS.icmpNo X77.here hx rfl (hb hby at_236) rfl (flt (by decide : ¬ ((2 : Int32) < (2 : Int32)))).1 ?_
      show Steps p.tables e below (T77.setTop (mkF m 239 #[.val (.int p1), .val (.int p2), .val (.int p3), .val (.int (2 : Int32)), .val (.ref b1), .val (.ref bx23), .val (.ref b24), .val (.int (1 : Int32))] [])) _
      refine XS.iload X77.here hx rfl (hb hby at_239) rfl ?_
      show Steps p.tables e below (T77.setTop (mkF m 241 #[.val (.int p1), .val (.int p2), .val (.int p3), .val (.int (2 : Int32)), .val (.ref b1), .val (.ref bx23), .val (.ref b24), .val (.int (1 : Int32))] [(.int (1 : Int32))])) _
      refine XS.aload X77.here hx rfl (hb hby at_241) rfl rfl ?_
      show Steps p.tables e below (T77.setTop (mkF m 243 #[.val (.int p1), .val (.int p2), .val (.int p3), .val (.int (2 : Int32)), .val (.ref b1), .val (.ref bx23), .val (.ref b24), .val (.int (1 : Int32))] [(.ref b24), (.int (1 : Int32))])) _
      refine st82.trans ?_
      show Steps p.tables e below (T82.setTop (mkF m 246 #[.val (.int p1), .val (.int p2), .val (.int p3), .val (.int (2 : Int32)), .val (.ref b1), .val (.ref bx23), .val (.ref b24), .val (.int (1 : Int32))] [(.ref bx3), (.int (1 : Int32))])) _
      refine XS.aload X82.here hx rfl (hb hby at_246) rfl rfl ?_
      show Steps p.tables e below (T82.setTop (mkF m 248 #[.val (.int p1), .val (.int p2), .val (.int p3), .val (.int (2 : Int32)), .val (.ref b1), .val (.ref bx23), .val (.ref b24), .val (.int (1 : Int32))] [(.ref b1), (.ref bx3), (.int (1 : Int32))])) _
      refine XS.iloadN X82.here hx rfl (hb hby at_248) rfl ?_
      show Steps p.tables e below (T82.setTop (mkF m 249 #[.val (.int p1), .val (.int p2), .val (.int p3), .val (.int (2 : Int32)), .val (.ref b1), .val (.ref bx23), .val (.ref b24), .val (.int (1 : Int32))] [(.int (2 : Int32)), (.ref b1), (.ref bx3), (.int (1 : Int32))])) _
      refine XS.iconst X82.here hx rfl (hb hby at_249) ?_
      show Steps p.tables e below (T82.setTop (mkF m 250 #[.val (.int p1), .val (.int p2), .val (.int p3), .val (.int (2 : Int32)), .val (.ref b1), .val (.ref bx23), .val (.ref b24), .val (.int (1 : Int32))] [(.int (2 : Int32)), (.int (2 : Int32)), (.ref b1), (.ref bx3), (.int (1 : Int32))])) _
      refine XS.isub X82.here hx rfl (hb hby at_250) rfl ?_
      show Steps p.tables e below (T82.setTop (mkF m 251 #[.val (.int p1), .val (.int p2), .val (.int p3), .val (.int (2 : Int32)), .val (.ref b1), .val (.ref bx23), .val (.ref b24), .val (.int (1 : Int32))] [(.int ((2 : Int32) - (2 : Int32))), (.ref b1), (.ref bx3), (.int (1 : Int32))])) _
      exact kt
    have R84 : ∀ tg, Steps p.tables e below (T82.setTop (mkF m 251 #[.val (.int p1), .val (.int p2), .val (.int p3), .val (.int (2 : Int32)), .val (.ref b1), .val (.ref bx23), .val (.ref b24), .val (.int (1 : Int32))] [(.int (0 : Int32)), (.ref b1), (.ref bx3), (.int (1 : Int32))])) tg → Steps p.tables e below (T82.setTop (mkF m 251 #[.val (.int p1), .val (.int p2), .val (.int p3), .val (.int (2 : Int32)), .val (.ref b1), .val (.ref bx23), .val (.ref b24), .val (.int (1 : Int32))] [(.int ((2 : Int32) - (2 : Int32))), (.ref b1), (.ref bx3), (.int (1 : Int32))])) tg := fun tg kt => by rw [(by decide : ((2 : Int32) - (2 : Int32)) = (0 : Int32))]; exact kt
    have f86 := (((f71.keep kp73 (ninS ne_b1_b24 (ninS nes_c33 (ninS nes_e33 nin0)))).keep kp74 (ninS ne_b1_b24 (ninS nes_c33 (ninS nes_e33 nin0)))).keep kp82 (ninS ne_b1_b24 (ninS nes_c33 (ninS nes_e33 nin0))))
    obtain ⟨cl85, Ar85, q85, Sz85, Nn85, Ha85, Ga85⟩ := id f86
    have hin85 : ¬ ((0 : Int32) < 0 ∨ cl85.slots.size ≤ ((0 : Int32)).toNatClampNeg) := inb_of Sz85 ⟨by decide, by decide⟩
    have hat85 : cl85.slots[((0 : Int32)).toNatClampNeg]? = some (.ref bx3) := Ha85.at hin85 rfl
    have R87 : ∀ tg, Steps p.tables e below (T82.setTop (mkF m 261 #[.val (.int p1), .val (.int p2), .val (.int p3), .val (.int (2 : Int32)), .val (.ref b1), .val (.ref bx23), .val (.ref b24), .val (.int (1 : Int32))] [(.int ((1 : Int32) &&& (1 : Int32)))])) tg → Steps p.tables e below (T82.setTop (mkF m 251 #[.val (.int p1), .val (.int p2), .val (.int p3), .val (.int (2 : Int32)), .val (.ref b1), .val (.ref bx23), .val (.ref b24), .val (.int (1 : Int32))] [(.int (0 : Int32)), (.ref b1), (.ref bx3), (.int (1 : Int32))])) tg := by
      intro tg kt
      refine X82.aaload hx (j := (0 : Int32)) (v := (.ref bx3)) (Ar85.1) (State.isArrayOf_alike hZ.alike Ar85.2.1) rfl Ar85.2.2 hin85 hat85 (g := (mkF m 251 #[.val (.int p1), .val (.int p2), .val (.int p3), .val (.int (2 : Int32)), .val (.ref b1), .val (.ref bx23), .val (.ref b24), .val (.int (1 : Int32))] [(.int (0 : Int32)), (.ref b1), (.ref bx3), (.int (1 : Int32))])) rfl rfl (hb hby at_251) _ ?_
      show Steps p.tables e below (T82.setTop (mkF m 252 #[.val (.int p1), .val (.int p2), .val (.int p3), .val (.int (2 : Int32)), .val (.ref b1), .val (.ref bx23), .val (.ref b24), .val (.int (1 : Int32))] [(.ref bx3), (.ref bx3), (.int (1 : Int32))])) _
      refine Jvm.RoadKit.acmp (g := (mkF m 252 #[.val (.int p1), .val (.int p2), .val (.int p3), .val (.int (2 : Int32)), .val (.ref b1), .val (.ref bx23), .val (.ref b24), .val (.int (1 : Int32))] [(.ref bx3), (.ref bx3), (.int (1 : Int32))])) X82 hx rfl rfl rfl (pc0 := 252) (pc' := 255) (same := true) rfl (hb hby at_252) rfl (decide_eq_true rfl) (by decide) (by decide) ?_
      show Steps p.tables e below (T82.setTop (mkF m 255 #[.val (.int p1), .val (.int p2), .val (.int p3), .val (.int (2 : Int32)), .val (.ref b1), .val (.ref bx23), .val (.ref b24), .val (.int (1 : Int32))] [(.int (1 : Int32))])) _
      refine XS.iconst X82.here hx rfl (hb hby at_255) ?_
      show Steps p.tables e below (T82.setTop (mkF m 256 #[.val (.int p1), .val (.int p2), .val (.int p3), .val (.int (2 : Int32)), .val (.ref b1), .val (.ref bx23), .val (.ref b24), .val (.int (1 : Int32))] [(.int (1 : Int32)), (.int (1 : Int32))])) _
      refine XS.goto X82.here hx rfl (pc0 := 256) (pc' := 260) rfl (hb hby at_256) (by decide) (by decide) ?_
      show Steps p.tables e below (T82.setTop (mkF m 260 #[.val (.int p1), .val (.int p2), .val (.int p3), .val (.int (2 : Int32)), .val (.ref b1), .val (.ref bx23), .val (.ref b24), .val (.int (1 : Int32))] [(.int (1 : Int32)), (.int (1 : Int32))])) _
      refine XS.iand X82.here hx rfl (hb hby at_260) rfl ?_
      show Steps p.tables e below (T82.setTop (mkF m 261 #[.val (.int p1), .val (.int p2), .val (.int p3), .val (.int (2 : Int32)), .val (.ref b1), .val (.ref bx23), .val (.ref b24), .val (.int (1 : Int32))] [(.int ((1 : Int32) &&& (1 : Int32)))])) _
      exact kt
    have R88 : ∀ tg, Steps p.tables e below (T82.setTop (mkF m 261 #[.val (.int p1), .val (.int p2), .val (.int p3), .val (.int (2 : Int32)), .val (.ref b1), .val (.ref bx23), .val (.ref b24), .val (.int (1 : Int32))] [(.int (1 : Int32))])) tg → Steps p.tables e below (T82.setTop (mkF m 261 #[.val (.int p1), .val (.int p2), .val (.int p3), .val (.int (2 : Int32)), .val (.ref b1), .val (.ref bx23), .val (.ref b24), .val (.int (1 : Int32))] [(.int ((1 : Int32) &&& (1 : Int32)))])) tg := fun tg kt => by rw [(by decide : ((1 : Int32) &&& (1 : Int32)) = (1 : Int32))]; exact kt
    obtain ⟨cq89, kq89, q89a, q89b, q89c⟩ := isOf hZ rfl hC82'.1
    obtain ⟨_, _, ⟨T89, L89, k89, n89⟩, -, X89, ⟨Lc89, hQ89, l89, y89, z89⟩, st89⟩ := X82.virtualBack hx (y := (⟨"com/example/anchored_threads/anchoredthreads/internal/ChunkedList", "size", "()I"⟩ : MethodName)) (z := (⟨"com/example/anchored_threads/anchoredthreads/internal/ChunkedList", "size", "()I"⟩ : MethodName)) hown (mvT hZ (hw _ (List.mem_of_getElem? (i := 40) rfl))) (mvT hZ (hw _ (List.mem_of_getElem? (i := 41) rfl))) (notFace_of_selects (args := #[]) (mvT hZ (hw _ (List.mem_of_getElem? (i := 43) rfl)))) (mvT hZ (hw _ (List.mem_of_getElem? (i := 43) rfl))) (mvT hZ (hw _ (List.mem_of_getElem? (i := 42) rfl))) (by decide) (backOf (W := 1) (rmSz l Z a0 hw [] b24 (0 : Int32) T82.heap n0 Z82 hC82'.2.1) hZ (hw _ (List.mem_of_getElem? (i := 44) rfl)) (hw _ (List.mem_of_getElem? (i := 13) rfl)) (by decide) (by decide)) q89a q89c (g := (mkF m 267 #[.val (.int p1), .val (.int p2), .val (.int p3), .val (.int (2 : Int32)), .val (.ref b1), .val (.ref bx23), .val (.ref b24), .val (.int (1 : Int32))] [(.ref b24), (.int (1 : Int32))])) rfl (by rw [hml]; rfl) (Steps.refl _) (argsL := []) (rest := [(.int (1 : Int32))]) (lenOf pd_4 rfl) rfl (by show 2 * 0 + _ ≤ _; exact Nat.le_of_eq rfl) (hb hby at_267) (fun _ _ => ⟨rfl, rfl, (by decide : 10 + 0 ≤ _), (by decide : 19 + 0 ≤ _)⟩)
    dsimp only [Pt.U, Pt.locs, Pt.cells, Pt.slots] at X89 l89 y89 z89 st89 hQ89
    subst l89 y89 z89
    obtain ⟨hv89, N89q, r89⟩ := hQ89
    subst hv89
    have N89 := Fr.app N82 N89q
    have R90 : ∀ tg, Steps p.tables e below (T89.setTop (mkF m 273 #[.val (.int p1), .val (.int p2), .val (.int p3), .val (.int (2 : Int32)), .val (.ref b1), .val (.ref bx23), .val (.ref b24), .val (.int (1 : Int32))] [(.int ((2 : Int32) - (2 : Int32))), (.int (0 : Int32)), (.int (1 : Int32))])) tg → Steps p.tables e below (T82.setTop (mkF m 261 #[.val (.int p1), .val (.int p2), .val (.int p3), .val (.int (2 : Int32)), .val (.ref b1), .val (.ref bx23), .val (.ref b24), .val (.int (1 : Int32))] [(.int (1 : Int32))])) tg := by
      intro tg kt
      refine XS.istore X82.here hx rfl (hb hby at_261) rfl (l' := #[.val (.int p1), .val (.int p2), .val (.int p3), .val (.int (2 : Int32)), .val (.ref b1), .val (.ref bx23), .val (.ref b24), .val (.int (1 : Int32))]) rfl ?_
      show Steps p.tables e below (T82.setTop (mkF m 263 #[.val (.int p1), .val (.int p2), .val (.int p3), .val (.int (2 : Int32)), .val (.ref b1), .val (.ref bx23), .val (.ref b24), .val (.int (1 : Int32))] [])) _
      refine XS.iload X82.here hx rfl (hb hby at_263) rfl ?_
      show Steps p.tables e below (T82.setTop (mkF m 265 #[.val (.int p1), .val (.int p2), .val (.int p3), .val (.int (2 : Int32)), .val (.ref b1), .val (.ref bx23), .val (.ref b24), .val (.int (1 : Int32))] [(.int (1 : Int32))])) _
      refine XS.aload X82.here hx rfl (hb hby at_265) rfl rfl ?_
      show Steps p.tables e below (T82.setTop (mkF m 267 #[.val (.int p1), .val (.int p2), .val (.int p3), .val (.int (2 : Int32)), .val (.ref b1), .val (.ref bx23), .val (.ref b24), .val (.int (1 : Int32))] [(.ref b24), (.int (1 : Int32))])) _
      refine st89.trans ?_
      show Steps p.tables e below (T89.setTop (mkF m 270 #[.val (.int p1), .val (.int p2), .val (.int p3), .val (.int (2 : Int32)), .val (.ref b1), .val (.ref bx23), .val (.ref b24), .val (.int (1 : Int32))] [(.int (0 : Int32)), (.int (1 : Int32))])) _
      refine XS.iloadN X89.here hx rfl (hb hby at_270) rfl ?_
      show Steps p.tables e below (T89.setTop (mkF m 271 #[.val (.int p1), .val (.int p2), .val (.int p3), .val (.int (2 : Int32)), .val (.ref b1), .val (.ref bx23), .val (.ref b24), .val (.int (1 : Int32))] [(.int (2 : Int32)), (.int (0 : Int32)), (.int (1 : Int32))])) _
      refine XS.iconst X89.here hx rfl (hb hby at_271) ?_
      show Steps p.tables e below (T89.setTop (mkF m 272 #[.val (.int p1), .val (.int p2), .val (.int p3), .val (.int (2 : Int32)), .val (.ref b1), .val (.ref bx23), .val (.ref b24), .val (.int (1 : Int32))] [(.int (2 : Int32)), (.int (2 : Int32)), (.int (0 : Int32)), (.int (1 : Int32))])) _
      refine XS.isub X89.here hx rfl (hb hby at_272) rfl ?_
      show Steps p.tables e below (T89.setTop (mkF m 273 #[.val (.int p1), .val (.int p2), .val (.int p3), .val (.int (2 : Int32)), .val (.ref b1), .val (.ref bx23), .val (.ref b24), .val (.int (1 : Int32))] [(.int ((2 : Int32) - (2 : Int32))), (.int (0 : Int32)), (.int (1 : Int32))])) _
      exact kt
    have R91 : ∀ tg, Steps p.tables e below (T89.setTop (mkF m 273 #[.val (.int p1), .val (.int p2), .val (.int p3), .val (.int (2 : Int32)), .val (.ref b1), .val (.ref bx23), .val (.ref b24), .val (.int (1 : Int32))] [(.int (0 : Int32)), (.int (0 : Int32)), (.int (1 : Int32))])) tg → Steps p.tables e below (T89.setTop (mkF m 273 #[.val (.int p1), .val (.int p2), .val (.int p3), .val (.int (2 : Int32)), .val (.ref b1), .val (.ref bx23), .val (.ref b24), .val (.int (1 : Int32))] [(.int ((2 : Int32) - (2 : Int32))), (.int (0 : Int32)), (.int (1 : Int32))])) tg := fun tg kt => by rw [(by decide : ((2 : Int32) - (2 : Int32)) = (0 : Int32))]; exact kt
    have R92 : ∀ tg, Steps p.tables e below (T89.setTop (mkF m 282 #[.val (.int p1), .val (.int p2), .val (.int p3), .val (.int (2 : Int32)), .val (.ref b1), .val (.ref bx23), .val (.ref b24), .val (.int (1 : Int32))] [(.int ((1 : Int32) &&& (1 : Int32)))])) tg → Steps p.tables e below (T89.setTop (mkF m 273 #[.val (.int p1), .val (.int p2), .val (.int p3), .val (.int (2 : Int32)), .val (.ref b1), .val (.ref bx23), .val (.ref b24), .val (.int (1 : Int32))] [(.int (0 : Int32)), (.int (0 : Int32)), (.int (1 : Int32))])) tg := by
      intro tg kt
      refine XS.icmpNo X89.here hx rfl (hb hby at_273) rfl (teq (by decide : (0 : Int32) = (0 : Int32))).2 ?_
      show Steps p.tables e below (T89.setTop (mkF m 276 #[.val (.int p1), .val (.int p2), .val (.int p3), .val (.int (2 : Int32)), .val (.ref b1), .val (.ref bx23), .val (.ref b24), .val (.int (1 : Int32))] [(.int (1 : Int32))])) _
      refine XS.iconst X89.here hx rfl (hb hby at_276) ?_
      show Steps p.tables e below (T89.setTop (mkF m 277 #[.val (.int p1), .val (.int p2), .val (.int p3), .val (.int (2 : Int32)), .val (.ref b1), .val (.ref bx23), .val (.ref b24), .val (.int (1 : Int32))] [(.int (1 : Int32)), (.int (1 : Int32))])) _
      refine XS.goto X89.here hx rfl (pc0 := 277) (pc' := 281) rfl (hb hby at_277) (by decide) (by decide) ?_
      show Steps p.tables e below (T89.setTop (mkF m 281 #[.val (.int p1), .val (.int p2), .val (.int p3), .val (.int (2 : Int32)), .val (.ref b1), .val (.ref bx23), .val (.ref b24), .val (.int (1 : Int32))] [(.int (1 : Int32)), (.int (1 : Int32))])) _
      refine XS.iand X89.here hx rfl (hb hby at_281) rfl ?_
      show Steps p.tables e below (T89.setTop (mkF m 282 #[.val (.int p1), .val (.int p2), .val (.int p3), .val (.int (2 : Int32)), .val (.ref b1), .val (.ref bx23), .val (.ref b24), .val (.int (1 : Int32))] [(.int ((1 : Int32) &&& (1 : Int32)))])) _
      exact kt
    have R93 : ∀ tg, Steps p.tables e below (T89.setTop (mkF m 282 #[.val (.int p1), .val (.int p2), .val (.int p3), .val (.int (2 : Int32)), .val (.ref b1), .val (.ref bx23), .val (.ref b24), .val (.int (1 : Int32))] [(.int (1 : Int32))])) tg → Steps p.tables e below (T89.setTop (mkF m 282 #[.val (.int p1), .val (.int p2), .val (.int p3), .val (.int (2 : Int32)), .val (.ref b1), .val (.ref bx23), .val (.ref b24), .val (.int (1 : Int32))] [(.int ((1 : Int32) &&& (1 : Int32)))])) tg := fun tg kt => by rw [(by decide : ((1 : Int32) &&& (1 : Int32)) = (1 : Int32))]; exact kt
    obtain ⟨fs, hr, hrun, hended, hW, hsame⟩ := X89.leave (v := some (.int (1 : Int32))) (fun h => by rw [Bd.returns] at h; cases h)
    refine ⟨_, _, pre0 _ (R34 _ (R58 _ (R68 _ (R69 _ (R75 _ (R76 _ (R78 _ (R79 _ (R80 _ (R81 _ (R83 _ (R84 _ (R87 _ (R88 _ (R90 _ (R91 _ (R92 _ (R93 _ ?_)))))))))))))))))), hrun, hended, _, _, rfl, ?_, ⟨_, rfl⟩, hW, hsame.mono (by decide) (by decide)⟩
    · show Steps p.tables e below (T89.setTop (mkF m 282 #[.val (.int p1), .val (.int p2), .val (.int p3), .val (.int (2 : Int32)), .val (.ref b1), .val (.ref bx23), .val (.ref b24), .val (.int (1 : Int32))] [(.int (1 : Int32))])) _
      refine XS.istore X89.here hx rfl (hb hby at_282) rfl (l' := #[.val (.int p1), .val (.int p2), .val (.int p3), .val (.int (2 : Int32)), .val (.ref b1), .val (.ref bx23), .val (.ref b24), .val (.int (1 : Int32))]) rfl ?_
      show Steps p.tables e below (T89.setTop (mkF m 284 #[.val (.int p1), .val (.int p2), .val (.int p3), .val (.int (2 : Int32)), .val (.ref b1), .val (.ref bx23), .val (.ref b24), .val (.int (1 : Int32))] [])) _
      refine XS.iload X89.here hx rfl (hb hby at_284) rfl ?_
      show Steps p.tables e below (T89.setTop (mkF m 286 #[.val (.int p1), .val (.int p2), .val (.int p3), .val (.int (2 : Int32)), .val (.ref b1), .val (.ref bx23), .val (.ref b24), .val (.int (1 : Int32))] [(.int (1 : Int32))])) _
      exact retN X89 hx (t := .boolean) Bd.returns (by simp) (hb hby at_286) hr
    · show Q0 n0 _ T89.heap _
      rw [r89]
      exact ⟨rfl, N89⟩
  · have R94 : ∀ tg, Steps p.tables e below (T33.setTop (mkF m 72 #[.val (.int p1), .val (.int p2), .val (.int p3), .val (.int (3 : Int32)), .val (.ref b1), .val (.ref bx23), .val (.ref b24), .unset] [])) tg → Steps p.tables e below (T33.setTop (mkF m 72 #[.val (.int p1), .val (.int p2), .val (.int p3), .val (.int ((p1 &&& (2147483647 : Int32)) % (6 : Int32))), .val (.ref b1), .val (.ref bx23), .val (.ref b24), .unset] [])) tg := fun tg kt => by rw [hk35]; exact kt
    have f96 := (f32.keep kp33 (ninS ne_b1_b24 nin0))
    obtain ⟨cl95, Ar95, q95, Sz95, Nn95, Ha95, Ga95⟩ := id f96
    have hin95 : ¬ ((0 : Int32) < 0 ∨ cl95.slots.size ≤ ((0 : Int32)).toNatClampNeg) := inb_of Sz95 ⟨by decide, by decide⟩
    have hat95 : cl95.slots[((0 : Int32)).toNatClampNeg]? = some (.ref bx3) := Ha95.at hin95 rfl
    have f97 := ((f26.ext E24).keep kp33)
    obtain ⟨cq98, kq98, q98a, q98b, q98c⟩ := isOf hZ rfl hC33.1
    obtain ⟨_, _, ⟨T98, L98, k98, n98⟩, -, X98, ⟨Lc98, hQ98, l98, y98, z98⟩, st98⟩ := X33.virtualBack hx (y := (⟨"com/example/anchored_threads/anchoredthreads/internal/ChunkedList", "add", "(Ljava/lang/Object;)Z"⟩ : MethodName)) (z := (⟨"com/example/anchored_threads/anchoredthreads/internal/ChunkedList", "add", "(Ljava/lang/Object;)Z"⟩ : MethodName)) hown (mvT hZ (hw _ (List.mem_of_getElem? (i := 47) rfl))) (mvT hZ (hw _ (List.mem_of_getElem? (i := 48) rfl))) (notFace_of_selects (args := #[]) (mvT hZ (hw _ (List.mem_of_getElem? (i := 50) rfl)))) (mvT hZ (hw _ (List.mem_of_getElem? (i := 50) rfl))) (mvT hZ (hw _ (List.mem_of_getElem? (i := 49) rfl))) (by decide) (backOf (W := 0) (rmAd l Z a0 hw [] b24 bx3 ch33 ea33 kc33 ke33 (0 : Int32) (0 : Int32) (4 : Int32) [.null, .null, .null, .null] 0 T33.heap n0 Z33 hC33 f97 (by decide) (by decide) (by decide) ⟨by decide, by decide⟩ rfl (Nat.le_of_ble_eq_true rfl)) hZ (hw _ (List.mem_of_getElem? (i := 51) rfl)) (hw _ (List.mem_of_getElem? (i := 13) rfl)) (by decide) (by decide)) q98a q98c (g := (mkF m 82 #[.val (.int p1), .val (.int p2), .val (.int p3), .val (.int (3 : Int32)), .val (.ref b1), .val (.ref bx23), .val (.ref b24), .unset] [(.ref bx3), (.ref b24)])) rfl (by rw [hml]; rfl) (Steps.refl _) (argsL := [(.ref bx3)]) (rest := []) (lenOf pd_5 rfl) rfl (by show 2 * 0 + _ ≤ _; exact Nat.le_of_eq rfl) (hb hby at_82) (fun _ _ => ⟨rfl, rfl, (by decide : 10 + 0 ≤ _), (by decide : 19 + 0 ≤ _)⟩)
    dsimp only [Pt.U, Pt.locs, Pt.cells, Pt.slots] at X98 l98 y98 z98 st98 hQ98
    subst l98 y98 z98
    obtain ⟨hv98, N98q, kp98, mc98, hC98⟩ := hQ98
    subst hv98
    have N98 := Fr.app N33 N98q
    have Z98 : n0 ≤ T98.heap.size := Nat.le_trans Z33 kp98.1
    have hC98' : CLs Z n0 T98.heap b24 ch33 ea33 kc33 ke33 (1 : Int32) mc98 (4 : Int32) [(.ref bx3), .null, .null, .null] := by
      have q := hC98
      rw [show ((0 : Int32) + 1) = (1 : Int32) from by decide] at q
      exact q
    have f100 := (f96.keep kp98 (ninS ne_b1_b24 (ninS nes_c33 (ninS nes_e33 nin0))))
    obtain ⟨cl99, Ar99, q99, Sz99, Nn99, Ha99, Ga99⟩ := id f100
    have hin99 : ¬ ((1 : Int32) < 0 ∨ cl99.slots.size ≤ ((1 : Int32)).toNatClampNeg) := inb_of Sz99 ⟨by decide, by decide⟩
    have hat99 : cl99.slots[((1 : Int32)).toNatClampNeg]? = some (.ref bx7) := Ha99.at hin99 rfl
    have f101 := (((f27.ext E24).keep kp33).keep kp98)
    obtain ⟨cq102, kq102, q102a, q102b, q102c⟩ := isOf hZ rfl hC98'.1
    obtain ⟨_, _, ⟨T102, L102, k102, n102⟩, -, X102, ⟨Lc102, hQ102, l102, y102, z102⟩, st102⟩ := X98.virtualBack hx (y := (⟨"com/example/anchored_threads/anchoredthreads/internal/ChunkedList", "add", "(Ljava/lang/Object;)Z"⟩ : MethodName)) (z := (⟨"com/example/anchored_threads/anchoredthreads/internal/ChunkedList", "add", "(Ljava/lang/Object;)Z"⟩ : MethodName)) hown (mvT hZ (hw _ (List.mem_of_getElem? (i := 47) rfl))) (mvT hZ (hw _ (List.mem_of_getElem? (i := 48) rfl))) (notFace_of_selects (args := #[]) (mvT hZ (hw _ (List.mem_of_getElem? (i := 50) rfl)))) (mvT hZ (hw _ (List.mem_of_getElem? (i := 50) rfl))) (mvT hZ (hw _ (List.mem_of_getElem? (i := 49) rfl))) (by decide) (backOf (W := 0) (rmAd l Z a0 hw [] b24 bx7 ch33 ea33 kc33 ke33 (1 : Int32) mc98 (4 : Int32) [(.ref bx3), .null, .null, .null] 1 T98.heap n0 Z98 hC98' f101 (by decide) (by decide) (by decide) ⟨by decide, by decide⟩ rfl (Nat.le_of_ble_eq_true rfl)) hZ (hw _ (List.mem_of_getElem? (i := 51) rfl)) (hw _ (List.mem_of_getElem? (i := 13) rfl)) (by decide) (by decide)) q102a q102c (g := (mkF m 97 #[.val (.int p1), .val (.int p2), .val (.int p3), .val (.int (3 : Int32)), .val (.ref b1), .val (.ref bx23), .val (.ref b24), .unset] [(.ref bx7), (.ref b24)])) rfl (by rw [hml]; rfl) (Steps.refl _) (argsL := [(.ref bx7)]) (rest := []) (lenOf pd_5 rfl) rfl (by show 2 * 0 + _ ≤ _; exact Nat.le_of_eq rfl) (hb hby at_97) (fun _ _ => ⟨rfl, rfl, (by decide : 10 + 0 ≤ _), (by decide : 19 + 0 ≤ _)⟩)
    dsimp only [Pt.U, Pt.locs, Pt.cells, Pt.slots] at X102 l102 y102 z102 st102 hQ102
    subst l102 y102 z102
    obtain ⟨hv102, N102q, kp102, mc102, hC102⟩ := hQ102
    subst hv102
    have N102 := Fr.app N98 N102q
    have Z102 : n0 ≤ T102.heap.size := Nat.le_trans Z98 kp102.1
    have hC102' : CLs Z n0 T102.heap b24 ch33 ea33 kc33 ke33 (2 : Int32) mc102 (4 : Int32) [(.ref bx3), (.ref bx7), .null, .null] := by
      have q := hC102
      rw [show ((1 : Int32) + 1) = (2 : Int32) from by decide] at q
      exact q
    have f104 := (f100.keep kp102 (ninS ne_b1_b24 (ninS nes_c33 (ninS nes_e33 nin0))))
    obtain ⟨cl103, Ar103, q103, Sz103, Nn103, Ha103, Ga103⟩ := id f104
    have hin103 : ¬ ((2 : Int32) < 0 ∨ cl103.slots.size ≤ ((2 : Int32)).toNatClampNeg) := inb_of Sz103 ⟨by decide, by decide⟩
    have hat103 : cl103.slots[((2 : Int32)).toNatClampNeg]? = some (.ref bx11) := Ha103.at hin103 rfl
    have f105 := ((((f28.ext E24).keep kp33).keep kp98).keep kp102)
    obtain ⟨cq106, kq106, q106a, q106b, q106c⟩ := isOf hZ rfl hC102'.1
    obtain ⟨_, _, ⟨T106, L106, k106, n106⟩, -, X106, ⟨Lc106, hQ106, l106, y106, z106⟩, st106⟩ := X102.virtualBack hx (y := (⟨"com/example/anchored_threads/anchoredthreads/internal/ChunkedList", "add", "(Ljava/lang/Object;)Z"⟩ : MethodName)) (z := (⟨"com/example/anchored_threads/anchoredthreads/internal/ChunkedList", "add", "(Ljava/lang/Object;)Z"⟩ : MethodName)) hown (mvT hZ (hw _ (List.mem_of_getElem? (i := 47) rfl))) (mvT hZ (hw _ (List.mem_of_getElem? (i := 48) rfl))) (notFace_of_selects (args := #[]) (mvT hZ (hw _ (List.mem_of_getElem? (i := 50) rfl)))) (mvT hZ (hw _ (List.mem_of_getElem? (i := 50) rfl))) (mvT hZ (hw _ (List.mem_of_getElem? (i := 49) rfl))) (by decide) (backOf (W := 0) (rmAd l Z a0 hw [] b24 bx11 ch33 ea33 kc33 ke33 (2 : Int32) mc102 (4 : Int32) [(.ref bx3), (.ref bx7), .null, .null] 2 T102.heap n0 Z102 hC102' f105 (by decide) (by decide) (by decide) ⟨by decide, by decide⟩ rfl (Nat.le_of_ble_eq_true rfl)) hZ (hw _ (List.mem_of_getElem? (i := 51) rfl)) (hw _ (List.mem_of_getElem? (i := 13) rfl)) (by decide) (by decide)) q106a q106c (g := (mkF m 112 #[.val (.int p1), .val (.int p2), .val (.int p3), .val (.int (3 : Int32)), .val (.ref b1), .val (.ref bx23), .val (.ref b24), .unset] [(.ref bx11), (.ref b24)])) rfl (by rw [hml]; rfl) (Steps.refl _) (argsL := [(.ref bx11)]) (rest := []) (lenOf pd_5 rfl) rfl (by show 2 * 0 + _ ≤ _; exact Nat.le_of_eq rfl) (hb hby at_112) (fun _ _ => ⟨rfl, rfl, (by decide : 10 + 0 ≤ _), (by decide : 19 + 0 ≤ _)⟩)
    dsimp only [Pt.U, Pt.locs, Pt.cells, Pt.slots] at X106 l106 y106 z106 st106 hQ106
    subst l106 y106 z106
    obtain ⟨hv106, N106q, kp106, mc106, hC106⟩ := hQ106
    subst hv106
    have N106 := Fr.app N102 N106q
    have Z106 : n0 ≤ T106.heap.size := Nat.le_trans Z102 kp106.1
    have hC106' : CLs Z n0 T106.heap b24 ch33 ea33 kc33 ke33 (3 : Int32) mc106 (4 : Int32) [(.ref bx3), (.ref bx7), (.ref bx11), .null] := by
      have q := hC106
      rw [show ((2 : Int32) + 1) = (3 : Int32) from by decide] at q
      exact q
    obtain ⟨cq107, kq107, q107a, q107b, q107c⟩ := isOf hZ rfl hC106'.1
    obtain ⟨_, _, ⟨T107, L107, k107, n107⟩, -, X107, ⟨Lc107, hQ107, l107, y107, z107⟩, st107⟩ := X106.virtualBack hx (y := (⟨"com/example/anchored_threads/anchoredthreads/internal/ChunkedList", "removeLast", "()Ljava/lang/Object;"⟩ : MethodName)) (z := (⟨"com/example/anchored_threads/anchoredthreads/internal/ChunkedList", "removeLast", "()Ljava/lang/Object;"⟩ : MethodName)) hown (mvT hZ (hw _ (List.mem_of_getElem? (i := 55) rfl))) (mvT hZ (hw _ (List.mem_of_getElem? (i := 56) rfl))) (notFace_of_selects (args := #[]) (mvT hZ (hw _ (List.mem_of_getElem? (i := 58) rfl)))) (mvT hZ (hw _ (List.mem_of_getElem? (i := 58) rfl))) (mvT hZ (hw _ (List.mem_of_getElem? (i := 57) rfl))) (by decide) (backOf (W := 0) (rmRl l Z a0 hw [] b24 ch33 ea33 kc33 ke33 (3 : Int32) mc106 (4 : Int32) (2 : Int32) [(.ref bx3), (.ref bx7), (.ref bx11), .null] 2 bx11 T106.heap n0 Z106 hC106' (by decide) (by decide) (by decide) (by decide) ⟨by decide, by decide⟩ rfl (Nat.le_of_ble_eq_true rfl) rfl) hZ (hw _ (List.mem_of_getElem? (i := 59) rfl)) (hw _ (List.mem_of_getElem? (i := 13) rfl)) (by decide) (by decide)) q107a q107c (g := (mkF m 166 #[.val (.int p1), .val (.int p2), .val (.int p3), .val (.int (3 : Int32)), .val (.ref b1), .val (.ref bx23), .val (.ref b24), .unset] [(.ref b24)])) rfl (by rw [hml]; rfl) (Steps.refl _) (argsL := []) (rest := []) (lenOf pd_6 rfl) rfl (by show 2 * 0 + _ ≤ _; exact Nat.le_of_eq rfl) (hb hby at_166) (fun _ _ => ⟨rfl, rfl, (by decide : 10 + 0 ≤ _), (by decide : 19 + 0 ≤ _)⟩)
    dsimp only [Pt.U, Pt.locs, Pt.cells, Pt.slots] at X107 l107 y107 z107 st107 hQ107
    subst l107 y107 z107
    obtain ⟨hv107, N107q, kp107, mc107, hC107⟩ := hQ107
    subst hv107
    have N107 := Fr.app N106 N107q
    have Z107 : n0 ≤ T107.heap.size := Nat.le_trans Z106 kp107.1
    have hC107' : CLs Z n0 T107.heap b24 ch33 ea33 kc33 ke33 (2 : Int32) mc107 (4 : Int32) [(.ref bx3), (.ref bx7), .null, .null] := hC107
    have R108 : ∀ tg, Steps p.tables e below (T107.setTop (mkF m 174 #[.val (.int p1), .val (.int p2), .val (.int p3), .val (.int (3 : Int32)), .val (.ref b1), .val (.ref bx23), .val (.ref b24), .unset] [(.int ((3 : Int32) - (1 : Int32))), (.ref b1), (.ref bx11)])) tg → Steps p.tables e below (T33.setTop (mkF m 72 #[.val (.int p1), .val (.int p2), .val (.int p3), .val (.int (3 : Int32)), .val (.ref b1), .val (.ref bx23), .val (.ref b24), .unset] [])) tg := by
      intro tg kt
      refine XS.iloadN X33.here hx rfl (hb hby at_72) rfl ?_
      show Steps p.tables e below (T33.setTop (mkF m 73 #[.val (.int p1), .val (.int p2), .val (.int p3), .val (.int (3 : Int32)), .val (.ref b1), .val (.ref bx23), .val (.ref b24), .unset] [(.int (3 : Int32))])) _
      refine XS.ifNo X33.here hx rfl (hb hby at_73) rfl ((if0 _ _).trans (tlt (by decide : (0 : Int32) < (3 : Int32))).2.2.2) ?_
      show Steps p.tables e below (T33.setTop (mkF m 76 #[.val (.int p1), .val (.int p2), .val (.int p3), .val (.int (3 : Int32)), .val (.ref b1), .val (.ref bx23), .val (.ref b24), .unset] [])) _
      refine XS.aload X33.here hx rfl (hb hby at_76) rfl rfl ?_
      show Steps p.tables e below (T33.setTop (mkF m 78 #[.val (.int p1), .val (.int p2), .val (.int p3), .val (.int (3 : Int32)), .val (.ref b1), .val (.ref bx23), .val (.ref b24), .unset] [(.ref b24)])) _
      refine XS.aload X33.here hx rfl (hb hby at_78) rfl rfl ?_
      show Steps p.tables e below (T33.setTop (mkF m 80 #[.val (.int p1), .val (.int p2), .val (.int p3), .val (.int (3 : Int32)), .val (.ref b1), .val (.ref bx23), .val (.ref b24), .unset] [(.ref b1), (.ref b24)])) _
      refine XS.iconst X33.here hx rfl (hb hby at_80) ?_
      show Steps p.tables e below (T33.setTop (mkF m 81 #[.val (.int p1), .val (.int p2), .val (.int p3), .val (.int (3 : Int32)), .val (.ref b1), .val (.ref bx23), .val (.ref b24), .unset] [(.int (0 : Int32)), (.ref b1), (.ref b24)])) _
      refine X33.aaload hx (j := (0 : Int32)) (v := (.ref bx3)) (Ar95.1) (State.isArrayOf_alike hZ.alike Ar95.2.1) rfl Ar95.2.2 hin95 hat95 (g := (mkF m 81 #[.val (.int p1), .val (.int p2), .val (.int p3), .val (.int (3 : Int32)), .val (.ref b1), .val (.ref bx23), .val (.ref b24), .unset] [(.int (0 : Int32)), (.ref b1), (.ref b24)])) rfl rfl (hb hby at_81) _ ?_
      show Steps p.tables e below (T33.setTop (mkF m 82 #[.val (.int p1), .val (.int p2), .val (.int p3), .val (.int (3 : Int32)), .val (.ref b1), .val (.ref bx23), .val (.ref b24), .unset] [(.ref bx3), (.ref b24)])) _
      refine st98.trans ?_
      show Steps p.tables e below (T98.setTop (mkF m 85 #[.val (.int p1), .val (.int p2), .val (.int p3), .val (.int (3 : Int32)), .val (.ref b1), .val (.ref bx23), .val (.ref b24), .unset] [(.int (1 : Int32))])) _
      refine XS.pop X98.here hx rfl (hb hby at_85) rfl rfl ?_
      show Steps p.tables e below (T98.setTop (mkF m 86 #[.val (.int p1), .val (.int p2), .val (.int p3), .val (.int (3 : Int32)), .val (.ref b1), .val (.ref bx23), .val (.ref b24), .unset] [])) _
      refine XS.iloadN X98.here hx rfl (hb hby at_86) rfl ?_
      show Steps p.tables e below (T98.setTop (mkF m 87 #[.val (.int p1), .val (.int p2), .val (.int p3), .val (.int (3 : Int32)), .val (.ref b1), .val (.ref bx23), .val (.ref b24), .unset] [(.int (3 : Int32))])) _
      refine XS.iconst X98.here hx rfl (hb hby at_87) ?_
      show Steps p.tables e below (T98.setTop (mkF m 88 #[.val (.int p1), .val (.int p2), .val (.int p3), .val (.int (3 : Int32)), .val (.ref b1), .val (.ref bx23), .val (.ref b24), .unset] [(.int (1 : Int32)), (.int (3 : Int32))])) _
      refine XS.icmpNo X98.here hx rfl (hb hby at_88) rfl (tlt (by decide : (1 : Int32) < (3 : Int32))).2.2.2 ?_
      show Steps p.tables e below (T98.setTop (mkF m 91 #[.val (.int p1), .val (.int p2), .val (.int p3), .val (.int (3 : Int32)), .val (.ref b1), .val (.ref bx23), .val (.ref b24), .unset] [])) _
      refine XS.aload X98.here hx rfl (hb hby at_91) rfl rfl ?_
      show Steps p.tables e below (T98.setTop (mkF m 93 #[.val (.int p1), .val (.int p2), .val (.int p3), .val (.int (3 : Int32)), .val (.ref b1), .val (.ref bx23), .val (.ref b24), .unset] [(.ref b24)])) _
      refine XS.aload X98.here hx rfl (hb hby at_93) rfl rfl ?_
      show Steps p.tables e below (T98.setTop (mkF m 95 #[.val (.int p1), .val (.int p2), .val (.int p3), .val (.int (3 : Int32)), .val (.ref b1), .val (.ref bx23), .val (.ref b24), .unset] [(.ref b1), (.ref b24)])) _
      refine XS.iconst X98.here hx rfl (hb hby at_95) ?_
      show Steps p.tables e below (T98.setTop (mkF m 96 #[.val (.int p1), .val (.int p2), .val (.int p3), .val (.int (3 : Int32)), .val (.ref b1), .val (.ref bx23), .val (.ref b24), .unset] [(.int (1 : Int32)), (.ref b1), (.ref b24)])) _
      refine X98.aaload hx (j := (1 : Int32)) (v := (.ref bx7)) (Ar99.1) (State.isArrayOf_alike hZ.alike Ar99.2.1) rfl Ar99.2.2 hin99 hat99 (g := (mkF m 96 #[.val (.int p1), .val (.int p2), .val (.int p3), .val (.int (3 : Int32)), .val (.ref b1), .val (.ref bx23), .val (.ref b24), .unset] [(.int (1 : Int32)), (.ref b1), (.ref b24)])) rfl rfl (hb hby at_96) _ ?_
      show Steps p.tables e below (T98.setTop (mkF m 97 #[.val (.int p1), .val (.int p2), .val (.int p3), .val (.int (3 : Int32)), .val (.ref b1), .val (.ref bx23), .val (.ref b24), .unset] [(.ref bx7), (.ref b24)])) _
      refine st102.trans ?_
      show Steps p.tables e below (T102.setTop (mkF m 100 #[.val (.int p1), .val (.int p2), .val (.int p3), .val (.int (3 : Int32)), .val (.ref b1), .val (.ref bx23), .val (.ref b24), .unset] [(.int (1 : Int32))])) _
      refine XS.pop X102.here hx rfl (hb hby at_100) rfl rfl ?_
      show Steps p.tables e below (T102.setTop (mkF m 101 #[.val (.int p1), .val (.int p2), .val (.int p3), .val (.int (3 : Int32)), .val (.ref b1), .val (.ref bx23), .val (.ref b24), .unset] [])) _
      refine XS.iloadN X102.here hx rfl (hb hby at_101) rfl ?_
      show Steps p.tables e below (T102.setTop (mkF m 102 #[.val (.int p1), .val (.int p2), .val (.int p3), .val (.int (3 : Int32)), .val (.ref b1), .val (.ref bx23), .val (.ref b24), .unset] [(.int (3 : Int32))])) _
      refine XS.iconst X102.here hx rfl (hb hby at_102) ?_
      show Steps p.tables e below (T102.setTop (mkF m 103 #[.val (.int p1), .val (.int p2), .val (.int p3), .val (.int (3 : Int32)), .val (.ref b1), .val (.ref bx23), .val (.ref b24), .unset] [(.int (2 : Int32)), (.int (3 : Int32))])) _
      refine XS.icmpNo X102.here hx rfl (hb hby at_103) rfl (tlt (by decide : (2 : Int32) < (3 : Int32))).2.2.2 ?_
      show Steps p.tables e below (T102.setTop (mkF m 106 #[.val (.int p1), .val (.int p2), .val (.int p3), .val (.int (3 : Int32)), .val (.ref b1), .val (.ref bx23), .val (.ref b24), .unset] [])) _
      refine XS.aload X102.here hx rfl (hb hby at_106) rfl rfl ?_
      show Steps p.tables e below (T102.setTop (mkF m 108 #[.val (.int p1), .val (.int p2), .val (.int p3), .val (.int (3 : Int32)), .val (.ref b1), .val (.ref bx23), .val (.ref b24), .unset] [(.ref b24)])) _
      refine XS.aload X102.here hx rfl (hb hby at_108) rfl rfl ?_
      show Steps p.tables e below (T102.setTop (mkF m 110 #[.val (.int p1), .val (.int p2), .val (.int p3), .val (.int (3 : Int32)), .val (.ref b1), .val (.ref bx23), .val (.ref b24), .unset] [(.ref b1), (.ref b24)])) _
      refine XS.iconst X102.here hx rfl (hb hby at_110) ?_
      show Steps p.tables e below (T102.setTop (mkF m 111 #[.val (.int p1), .val (.int p2), .val (.int p3), .val (.int (3 : Int32)), .val (.ref b1), .val (.ref bx23), .val (.ref b24), .unset] [(.int (2 : Int32)), (.ref b1), (.ref b24)])) _
      refine X102.aaload hx (j := (2 : Int32)) (v := (.ref bx11)) (Ar103.1) (State.isArrayOf_alike hZ.alike Ar103.2.1) rfl Ar103.2.2 hin103 hat103 (g := (mkF m 111 #[.val (.int p1), .val (.int p2), .val (.int p3), .val (.int (3 : Int32)), .val (.ref b1), .val (.ref bx23), .val (.ref b24), .unset] [(.int (2 : Int32)), (.ref b1), (.ref b24)])) rfl rfl (hb hby at_111) _ ?_
      show Steps p.tables e below (T102.setTop (mkF m 112 #[.val (.int p1), .val (.int p2), .val (.int p3), .val (.int (3 : Int32)), .val (.ref b1), .val (.ref bx23), .val (.ref b24), .unset] [(.ref bx11), (.ref b24)])) _
      refine st106.trans ?_
      show Steps p.tables e below (T106.setTop (mkF m 115 #[.val (.int p1), .val (.int p2), .val (.int p3), .val (.int (3 : Int32)), .val (.ref b1), .val (.ref bx23), .val (.ref b24), .unset] [(.int (1 : Int32))])) _
      refine XS.pop X106.here hx rfl (hb hby at_115) rfl rfl ?_
      show Steps p.tables e below (T106.setTop (mkF m 116 #[.val (.int p1), .val (.int p2), .val (.int p3), .val (.int (3 : Int32)), .val (.ref b1), .val (.ref bx23), .val (.ref b24), .unset] [])) _
      refine XS.iloadN X106.here hx rfl (hb hby at_116) rfl ?_
      show Steps p.tables e below (T106.setTop (mkF m 117 #[.val (.int p1), .val (.int p2), .val (.int p3), .val (.int (3 : Int32)), .val (.ref b1), .val (.ref bx23), .val (.ref b24), .unset] [(.int (3 : Int32))])) _
      refine XS.iconst X106.here hx rfl (hb hby at_117) ?_
      show Steps p.tables e below (T106.setTop (mkF m 118 #[.val (.int p1), .val (.int p2), .val (.int p3), .val (.int (3 : Int32)), .val (.ref b1), .val (.ref bx23), .val (.ref b24), .unset] [(.int (3 : Int32)), (.int (3 : Int32))])) _
      refine XS.icmpYes X106.here hx rfl (pc0 := 118) (pc' := 131) rfl (hb hby at_118) rfl (flt (by decide : ¬ ((3 : Int32) < (3 : Int32)))).2.2.2 (by decide) (by decide) ?_
      show Steps p.tables e below (T106.setTop (mkF m 131 #[.val (.int p1), .val (.int p2), .val (.int p3), .val (.int (3 : Int32)), .val (.ref b1), .val (.ref bx23), .val (.ref b24), .unset] [])) _
      refine XS.iloadN X106.here hx rfl (hb hby at_131) rfl ?_
      show Steps p.tables e below (T106.setTop (mkF m 132 #[.val (.int p1), .val (.int p2), .val (.int p3), .val (.int (3 : Int32)), .val (.ref b1), .val (.ref bx23), .val (.ref b24), .unset] [(.int (3 : Int32))])) _
      refine XS.iconst X106.here hx rfl (hb hby at_132) ?_
      show Steps p.tables e below (T106.setTop (mkF m 133 #[.val (.int p1), .val (.int p2), .val (.int p3), .val (.int (3 : Int32)), .val (.ref b1), .val (.ref bx23), .val (.ref b24), .unset] [(.int (4 : Int32)), (.int (3 : Int32))])) _
      refine XS.icmpYes X106.here hx rfl (pc0 := 133) (pc' := 146) rfl (hb hby at_133) rfl (flt (by decide : ¬ ((4 : Int32) < (3 : Int32)))).2.2.2 (by decide) (by decide) ?_
      show Steps p.tables e below (T106.setTop (mkF m 146 #[.val (.int p1), .val (.int p2), .val (.int p3), .val (.int (3 : Int32)), .val (.ref b1), .val (.ref bx23), .val (.ref b24), .unset] [])) _
      refine XS.iloadN X106.here hx rfl (hb hby at_146) rfl ?_
      show Steps p.tables e below (T106.setTop (mkF m 147 #[.val (.int p1), .val (.int p2), .val (.int p3), .val (.int (3 : Int32)), .val (.ref b1), .val (.ref bx23), .val (.ref b24), .unset] [(.int (3 : Int32))])) _
      refine XS.ifYes X106.here hx rfl (pc0 := 147) (pc' := 164) rfl (hb hby at_147) rfl ((if0 _ _).trans (feq (by decide : ¬ ((3 : Int32) = (0 : Int32)))).2) (by decide) (by decide) ?_
      show Steps p.tables e below (T106.setTop (mkF m 164 #[.val (.int p1), .val (.int p2), .val (.int p3), .val (.int (3 : Int32)), .val (.ref b1), .val (.ref bx23), .val (.ref b24), .unset] [])) _
      refine XS.aload X106.here hx rfl (hb hby at_164) rfl rfl ?_
      show Steps p.tables e below (T106.setTop (mkF m 166 #[.val (.int p1), .val (.int p2), .val (.int p3), .val (.int (3 : Int32)), .val (.ref b1), .val (.ref bx23), .val (.ref b24), .unset] [(.ref b24)])) _
      refine st107.trans ?_
      show Steps p.tables e below (T107.setTop (mkF m 169 #[.val (.int p1), .val (.int p2), .val (.int p3), .val (.int (3 : Int32)), .val (.ref b1), .val (.ref bx23), .val (.ref b24), .unset] [(.ref bx11)])) _
      refine XS.aload X107.here hx rfl (hb hby at_169) rfl rfl ?_
      show Steps p.tables e below (T107.setTop (mkF m 171 #[.val (.int p1), .val (.int p2), .val (.int p3), .val (.int (3 : Int32)), .val (.ref b1), .val (.ref bx23), .val (.ref b24), .unset] [(.ref b1), (.ref bx11)])) _
      refine XS.iloadN X107.here hx rfl (hb hby at_171) rfl ?_
      show Steps p.tables e below (T107.setTop (mkF m 172 #[.val (.int p1), .val (.int p2), .val (.int p3), .val (.int (3 : Int32)), .val (.ref b1), .val (.ref bx23), .val (.ref b24), .unset] [(.int (3 : Int32)), (.ref b1), (.ref bx11)])) _
      refine XS.iconst X107.here hx rfl (hb hby at_172) ?_
      show Steps p.tables e below (T107.setTop (mkF m 173 #[.val (.int p1), .val (.int p2), .val (.int p3), .val (.int (3 : Int32)), .val (.ref b1), .val (.ref bx23), .val (.ref b24), .unset] [(.int (1 : Int32)), (.int (3 : Int32)), (.ref b1), (.ref bx11)])) _
      refine XS.isub X107.here hx rfl (hb hby at_173) rfl ?_
      show Steps p.tables e below (T107.setTop (mkF m 174 #[.val (.int p1), .val (.int p2), .val (.int p3), .val (.int (3 : Int32)), .val (.ref b1), .val (.ref bx23), .val (.ref b24), .unset] [(.int ((3 : Int32) - (1 : Int32))), (.ref b1), (.ref bx11)])) _
      exact kt
    have R109 : ∀ tg, Steps p.tables e below (T107.setTop (mkF m 174 #[.val (.int p1), .val (.int p2), .val (.int p3), .val (.int (3 : Int32)), .val (.ref b1), .val (.ref bx23), .val (.ref b24), .unset] [(.int (2 : Int32)), (.ref b1), (.ref bx11)])) tg → Steps p.tables e below (T107.setTop (mkF m 174 #[.val (.int p1), .val (.int p2), .val (.int p3), .val (.int (3 : Int32)), .val (.ref b1), .val (.ref bx23), .val (.ref b24), .unset] [(.int ((3 : Int32) - (1 : Int32))), (.ref b1), (.ref bx11)])) tg := fun tg kt => by rw [(by decide : ((3 : Int32) - (1 : Int32)) = (2 : Int32))]; exact kt
    have f111 := ((f104.keep kp106 (ninS ne_b1_b24 (ninS nes_c33 (ninS nes_e33 nin0)))).keep kp107 (ninS ne_b1_b24 (ninS nes_c33 (ninS nes_e33 nin0))))
    obtain ⟨cl110, Ar110, q110, Sz110, Nn110, Ha110, Ga110⟩ := id f111
    have hin110 : ¬ ((2 : Int32) < 0 ∨ cl110.slots.size ≤ ((2 : Int32)).toNatClampNeg) := inb_of Sz110 ⟨by decide, by decide⟩
    have hat110 : cl110.slots[((2 : Int32)).toNatClampNeg]? = some (.ref bx11) := Ha110.at hin110 rfl
    have f112 := ((((((EB23.ext E24).keep kp33).keep kp98).keep kp102).keep kp106).keep kp107)
    obtain ⟨cq113, kq113, q113a, q113b, q113c⟩ := isOf hZ rfl hC107'.1
    obtain ⟨_, _, ⟨T113, L113, k113, n113⟩, -, X113, ⟨Lc113, hQ113, l113, y113, z113⟩, st113⟩ := X107.virtualBack hx (y := (⟨"com/example/anchored_threads/anchoredthreads/internal/ChunkedList", "add", "(Ljava/lang/Object;)Z"⟩ : MethodName)) (z := (⟨"com/example/anchored_threads/anchoredthreads/internal/ChunkedList", "add", "(Ljava/lang/Object;)Z"⟩ : MethodName)) hown (mvT hZ (hw _ (List.mem_of_getElem? (i := 47) rfl))) (mvT hZ (hw _ (List.mem_of_getElem? (i := 48) rfl))) (notFace_of_selects (args := #[]) (mvT hZ (hw _ (List.mem_of_getElem? (i := 50) rfl)))) (mvT hZ (hw _ (List.mem_of_getElem? (i := 50) rfl))) (mvT hZ (hw _ (List.mem_of_getElem? (i := 49) rfl))) (by decide) (backOf (W := 0) (rmAd l Z a0 hw [] b24 bx23 ch33 ea33 kc33 ke33 (2 : Int32) mc107 (4 : Int32) [(.ref bx3), (.ref bx7), .null, .null] 2 T107.heap n0 Z107 hC107' f112 (by decide) (by decide) (by decide) ⟨by decide, by decide⟩ rfl (Nat.le_of_ble_eq_true rfl)) hZ (hw _ (List.mem_of_getElem? (i := 51) rfl)) (hw _ (List.mem_of_getElem? (i := 13) rfl)) (by decide) (by decide)) q113a q113c (g := (mkF m 189 #[.val (.int p1), .val (.int p2), .val (.int p3), .val (.int (3 : Int32)), .val (.ref b1), .val (.ref bx23), .val (.ref b24), .val (.int (1 : Int32))] [(.ref bx23), (.ref b24)])) rfl (by rw [hml]; rfl) (Steps.refl _) (argsL := [(.ref bx23)]) (rest := []) (lenOf pd_5 rfl) rfl (by show 2 * 0 + _ ≤ _; exact Nat.le_of_eq rfl) (hb hby at_189) (fun _ _ => ⟨rfl, rfl, (by decide : 10 + 0 ≤ _), (by decide : 19 + 0 ≤ _)⟩)
    dsimp only [Pt.U, Pt.locs, Pt.cells, Pt.slots] at X113 l113 y113 z113 st113 hQ113
    subst l113 y113 z113
    obtain ⟨hv113, N113q, kp113, mc113, hC113⟩ := hQ113
    subst hv113
    have N113 := Fr.app N107 N113q
    have Z113 : n0 ≤ T113.heap.size := Nat.le_trans Z107 kp113.1
    have hC113' : CLs Z n0 T113.heap b24 ch33 ea33 kc33 ke33 (3 : Int32) mc113 (4 : Int32) [(.ref bx3), (.ref bx7), (.ref bx23), .null] := by
      have q := hC113
      rw [show ((2 : Int32) + 1) = (3 : Int32) from by decide] at q
      exact q
    obtain ⟨cq114, kq114, q114a, q114b, q114c⟩ := isOf hZ rfl hC113'.1
    obtain ⟨_, _, ⟨T114, L114, k114, n114⟩, -, X114, ⟨Lc114, hQ114, l114, y114, z114⟩, st114⟩ := X113.virtualBack hx (y := (⟨"com/example/anchored_threads/anchoredthreads/internal/ChunkedList", "removeLast", "()Ljava/lang/Object;"⟩ : MethodName)) (z := (⟨"com/example/anchored_threads/anchoredthreads/internal/ChunkedList", "removeLast", "()Ljava/lang/Object;"⟩ : MethodName)) hown (mvT hZ (hw _ (List.mem_of_getElem? (i := 55) rfl))) (mvT hZ (hw _ (List.mem_of_getElem? (i := 56) rfl))) (notFace_of_selects (args := #[]) (mvT hZ (hw _ (List.mem_of_getElem? (i := 58) rfl)))) (mvT hZ (hw _ (List.mem_of_getElem? (i := 58) rfl))) (mvT hZ (hw _ (List.mem_of_getElem? (i := 57) rfl))) (by decide) (backOf (W := 1) (rmRl l Z a0 hw [] b24 ch33 ea33 kc33 ke33 (3 : Int32) mc113 (4 : Int32) (2 : Int32) [(.ref bx3), (.ref bx7), (.ref bx23), .null] 2 bx23 T113.heap n0 Z113 hC113' (by decide) (by decide) (by decide) (by decide) ⟨by decide, by decide⟩ rfl (Nat.le_of_ble_eq_true rfl) rfl) hZ (hw _ (List.mem_of_getElem? (i := 59) rfl)) (hw _ (List.mem_of_getElem? (i := 13) rfl)) (by decide) (by decide)) q114a q114c (g := (mkF m 197 #[.val (.int p1), .val (.int p2), .val (.int p3), .val (.int (3 : Int32)), .val (.ref b1), .val (.ref bx23), .val (.ref b24), .val (.int (1 : Int32))] [(.ref b24), (.int (1 : Int32))])) rfl (by rw [hml]; rfl) (Steps.refl _) (argsL := []) (rest := [(.int (1 : Int32))]) (lenOf pd_6 rfl) rfl (by show 2 * 0 + _ ≤ _; exact Nat.le_of_eq rfl) (hb hby at_197) (fun _ _ => ⟨rfl, rfl, (by decide : 10 + 0 ≤ _), (by decide : 19 + 0 ≤ _)⟩)
    dsimp only [Pt.U, Pt.locs, Pt.cells, Pt.slots] at X114 l114 y114 z114 st114 hQ114
    subst l114 y114 z114
    obtain ⟨hv114, N114q, kp114, mc114, hC114⟩ := hQ114
    subst hv114
    have N114 := Fr.app N113 N114q
    have Z114 : n0 ≤ T114.heap.size := Nat.le_trans Z113 kp114.1
    have hC114' : CLs Z n0 T114.heap b24 ch33 ea33 kc33 ke33 (2 : Int32) mc114 (4 : Int32) [(.ref bx3), (.ref bx7), .null, .null] := hC114
    have R115 : ∀ tg, Steps p.tables e below (T114.setTop (mkF m 211 #[.val (.int p1), .val (.int p2), .val (.int p3), .val (.int (3 : Int32)), .val (.ref b1), .val (.ref bx23), .val (.ref b24), .val (.int (1 : Int32))] [(.int ((1 : Int32) &&& (1 : Int32)))])) tg → Steps p.tables e below (T107.setTop (mkF m 174 #[.val (.int p1), .val (.int p2), .val (.int p3), .val (.int (3 : Int32)), .val (.ref b1), .val (.ref bx23), .val (.ref b24), .unset] [(.int (2 : Int32)), (.ref b1), (.ref bx11)])) tg := by
      intro tg kt
      refine X107.aaload hx (j := (2 : Int32)) (v := (.ref bx11)) (Ar110.1) (State.isArrayOf_alike hZ.alike Ar110.2.1) rfl Ar110.2.2 hin110 hat110 (g := (mkF m 174 #[.val (.int p1), .val (.int p2), .val (.int p3), .val (.int (3 : Int32)), .val (.ref b1), .val (.ref bx23), .val (.ref b24), .unset] [(.int (2 : Int32)), (.ref b1), (.ref bx11)])) rfl rfl (hb hby at_174) _ ?_
      show Steps p.tables e below (T107.setTop (mkF m 175 #[.val (.int p1), .val (.int p2), .val (.int p3), .val (.int (3 : Int32)), .val (.ref b1), .val (.ref bx23), .val (.ref b24), .unset] [(.ref bx11), (.ref bx11)])) _
      refine Jvm.RoadKit.acmp (g := (mkF m 175 #[.val (.int p1), .val (.int p2), .val (.int p3), .val (.int (3 : Int32)), .val (.ref b1), .val (.ref bx23), .val (.ref b24), .unset] [(.ref bx11), (.ref bx11)])) X107 hx rfl rfl rfl (pc0 := 175) (pc' := 178) (same := true) rfl (hb hby at_175) rfl (decide_eq_true rfl) (by decide) (by decide) ?_
      show Steps p.tables e below (T107.setTop (mkF m 178 #[.val (.int p1), .val (.int p2), .val (.int p3), .val (.int (3 : Int32)), .val (.ref b1), .val (.ref bx23), .val (.ref b24), .unset] [])) _
      refine XS.iconst X107.here hx rfl (hb hby at_178) ?_
      show Steps p.tables e below (T107.setTop (mkF m 179 #[.val (.int p1), .val (.int p2), .val (.int p3), .val (.int (3 : Int32)), .val (.ref b1), .val (.ref bx23), .val (.ref b24), .unset] [(.int (1 : Int32))])) _
      refine XS.goto X107.here hx rfl (pc0 := 179) (pc' := 183) rfl (hb hby at_179) (by decide) (by decide) ?_
      show Steps p.tables e below (T107.setTop (mkF m 183 #[.val (.int p1), .val (.int p2), .val (.int p3), .val (.int (3 : Int32)), .val (.ref b1), .val (.ref bx23), .val (.ref b24), .unset] [(.int (1 : Int32))])) _
      refine XS.istore X107.here hx rfl (hb hby at_183) rfl (l' := #[.val (.int p1), .val (.int p2), .val (.int p3), .val (.int (3 : Int32)), .val (.ref b1), .val (.ref bx23), .val (.ref b24), .val (.int (1 : Int32))]) rfl ?_
      show Steps p.tables e below (T107.setTop (mkF m 185 #[.val (.int p1), .val (.int p2), .val (.int p3), .val (.int (3 : Int32)), .val (.ref b1), .val (.ref bx23), .val (.ref b24), .val (.int (1 : Int32))] [])) _
      refine XS.aload X107.here hx rfl (hb hby at_185) rfl rfl ?_
      show Steps p.tables e below (T107.setTop (mkF m 187 #[.val (.int p1), .val (.int p2), .val (.int p3), .val (.int (3 : Int32)), .val (.ref b1), .val (.ref bx23), .val (.ref b24), .val (.int (1 : Int32))] [(.ref b24)])) _
      refine XS.aload X107.here hx rfl (hb hby at_187) rfl rfl ?_
      show Steps p.tables e below (T107.setTop (mkF m 189 #[.val (.int p1), .val (.int p2), .val (.int p3), .val (.int (3 : Int32)), .val (.ref b1), .val (.ref bx23), .val (.ref b24), .val (.int (1 : Int32))] [(.ref bx23), (.ref b24)])) _
      refine st113.trans ?_
      show Steps p.tables e below (T113.setTop (mkF m 192 #[.val (.int p1), .val (.int p2), .val (.int p3), .val (.int (3 : Int32)), .val (.ref b1), .val (.ref bx23), .val (.ref b24), .val (.int (1 : Int32))] [(.int (1 : Int32))])) _
      refine XS.pop X113.here hx rfl (hb hby at_192) rfl rfl ?_
      show Steps p.tables e below (T113.setTop (mkF m 193 #[.val (.int p1), .val (.int p2), .val (.int p3), .val (.int (3 : Int32)), .val (.ref b1), .val (.ref bx23), .val (.ref b24), .val (.int (1 : Int32))] [])) _
      refine XS.iload X113.here hx rfl (hb hby at_193) rfl ?_
      show Steps p.tables e below (T113.setTop (mkF m 195 #[.val (.int p1), .val (.int p2), .val (.int p3), .val (.int (3 : Int32)), .val (.ref b1), .val (.ref bx23), .val (.ref b24), .val (.int (1 : Int32))] [(.int (1 : Int32))])) _
      refine XS.aload X113.here hx rfl (hb hby at_195) rfl rfl ?_
      show Steps p.tables e below (T113.setTop (mkF m 197 #[.val (.int p1), .val (.int p2), .val (.int p3), .val (.int (3 : Int32)), .val (.ref b1), .val (.ref bx23), .val (.ref b24), .val (.int (1 : Int32))] [(.ref b24), (.int (1 : Int32))])) _
      refine st114.trans ?_
      show Steps p.tables e below (T114.setTop (mkF m 200 #[.val (.int p1), .val (.int p2), .val (.int p3), .val (.int (3 : Int32)), .val (.ref b1), .val (.ref bx23), .val (.ref b24), .val (.int (1 : Int32))] [(.ref bx23), (.int (1 : Int32))])) _
      refine XS.aload X114.here hx rfl (hb hby at_200) rfl rfl ?_
      show Steps p.tables e below (T114.setTop (mkF m 202 #[.val (.int p1), .val (.int p2), .val (.int p3), .val (.int (3 : Int32)), .val (.ref b1), .val (.ref bx23), .val (.ref b24), .val (.int (1 : Int32))] [(.ref bx23), (.ref bx23), (.int (1 : Int32))])) _
      refine Jvm.RoadKit.acmp (g := (mkF m 202 #[.val (.int p1), .val (.int p2), .val (.int p3), .val (.int (3 : Int32)), .val (.ref b1), .val (.ref bx23), .val (.ref b24), .val (.int (1 : Int32))] [(.ref bx23), (.ref bx23), (.int (1 : Int32))])) X114 hx rfl rfl rfl (pc0 := 202) (pc' := 205) (same := true) rfl (hb hby at_202) rfl (decide_eq_true rfl) (by decide) (by decide) ?_
      show Steps p.tables e below (T114.setTop (mkF m 205 #[.val (.int p1), .val (.int p2), .val (.int p3), .val (.int (3 : Int32)), .val (.ref b1), .val (.ref bx23), .val (.ref b24), .val (.int (1 : Int32))] [(.int (1 : Int32))])) _
      refine XS.iconst X114.here hx rfl (hb hby at_205) ?_
      show Steps p.tables e below (T114.setTop (mkF m 206 #[.val (.int p1), .val (.int p2), .val (.int p3), .val (.int (3 : Int32)), .val (.ref b1), .val (.ref bx23), .val (.ref b24), .val (.int (1 : Int32))] [(.int (1 : Int32)), (.int (1 : Int32))])) _
      refine XS.goto X114.here hx rfl (pc0 := 206) (pc' := 210) rfl (hb hby at_206) (by decide) (by decide) ?_
      show Steps p.tables e below (T114.setTop (mkF m 210 #[.val (.int p1), .val (.int p2), .val (.int p3), .val (.int (3 : Int32)), .val (.ref b1), .val (.ref bx23), .val (.ref b24), .val (.int (1 : Int32))] [(.int (1 : Int32)), (.int (1 : Int32))])) _
      refine XS.iand X114.here hx rfl (hb hby at_210) rfl ?_
      show Steps p.tables e below (T114.setTop (mkF m 211 #[.val (.int p1), .val (.int p2), .val (.int p3), .val (.int (3 : Int32)), .val (.ref b1), .val (.ref bx23), .val (.ref b24), .val (.int (1 : Int32))] [(.int ((1 : Int32) &&& (1 : Int32)))])) _
      exact kt
    have R116 : ∀ tg, Steps p.tables e below (T114.setTop (mkF m 211 #[.val (.int p1), .val (.int p2), .val (.int p3), .val (.int (3 : Int32)), .val (.ref b1), .val (.ref bx23), .val (.ref b24), .val (.int (1 : Int32))] [(.int (1 : Int32))])) tg → Steps p.tables e below (T114.setTop (mkF m 211 #[.val (.int p1), .val (.int p2), .val (.int p3), .val (.int (3 : Int32)), .val (.ref b1), .val (.ref bx23), .val (.ref b24), .val (.int (1 : Int32))] [(.int ((1 : Int32) &&& (1 : Int32)))])) tg := fun tg kt => by rw [(by decide : ((1 : Int32) &&& (1 : Int32)) = (1 : Int32))]; exact kt
    obtain ⟨cq117, kq117, q117a, q117b, q117c⟩ := isOf hZ rfl hC114'.1
    obtain ⟨_, _, ⟨T117, L117, k117, n117⟩, -, X117, ⟨Lc117, hQ117, l117, y117, z117⟩, st117⟩ := X114.virtualBack hx (y := (⟨"com/example/anchored_threads/anchoredthreads/internal/ChunkedList", "size", "()I"⟩ : MethodName)) (z := (⟨"com/example/anchored_threads/anchoredthreads/internal/ChunkedList", "size", "()I"⟩ : MethodName)) hown (mvT hZ (hw _ (List.mem_of_getElem? (i := 40) rfl))) (mvT hZ (hw _ (List.mem_of_getElem? (i := 41) rfl))) (notFace_of_selects (args := #[]) (mvT hZ (hw _ (List.mem_of_getElem? (i := 43) rfl)))) (mvT hZ (hw _ (List.mem_of_getElem? (i := 43) rfl))) (mvT hZ (hw _ (List.mem_of_getElem? (i := 42) rfl))) (by decide) (backOf (W := 1) (rmSz l Z a0 hw [] b24 (2 : Int32) T114.heap n0 Z114 hC114'.2.1) hZ (hw _ (List.mem_of_getElem? (i := 44) rfl)) (hw _ (List.mem_of_getElem? (i := 13) rfl)) (by decide) (by decide)) q117a q117c (g := (mkF m 217 #[.val (.int p1), .val (.int p2), .val (.int p3), .val (.int (3 : Int32)), .val (.ref b1), .val (.ref bx23), .val (.ref b24), .val (.int (1 : Int32))] [(.ref b24), (.int (1 : Int32))])) rfl (by rw [hml]; rfl) (Steps.refl _) (argsL := []) (rest := [(.int (1 : Int32))]) (lenOf pd_4 rfl) rfl (by show 2 * 0 + _ ≤ _; exact Nat.le_of_eq rfl) (hb hby at_217) (fun _ _ => ⟨rfl, rfl, (by decide : 10 + 0 ≤ _), (by decide : 19 + 0 ≤ _)⟩)
    dsimp only [Pt.U, Pt.locs, Pt.cells, Pt.slots] at X117 l117 y117 z117 st117 hQ117
    subst l117 y117 z117
    obtain ⟨hv117, N117q, r117⟩ := hQ117
    subst hv117
    have N117 := Fr.app N114 N117q
    have R118 : ∀ tg, Steps p.tables e below (T117.setTop (mkF m 223 #[.val (.int p1), .val (.int p2), .val (.int p3), .val (.int (3 : Int32)), .val (.ref b1), .val (.ref bx23), .val (.ref b24), .val (.int (1 : Int32))] [(.int ((3 : Int32) - (1 : Int32))), (.int (2 : Int32)), (.int (1 : Int32))])) tg → Steps p.tables e below (T114.setTop (mkF m 211 #[.val (.int p1), .val (.int p2), .val (.int p3), .val (.int (3 : Int32)), .val (.ref b1), .val (.ref bx23), .val (.ref b24), .val (.int (1 : Int32))] [(.int (1 : Int32))])) tg := by
      intro tg kt
      refine XS.istore X114.here hx rfl (hb hby at_211) rfl (l' := #[.val (.int p1), .val (.int p2), .val (.int p3), .val (.int (3 : Int32)), .val (.ref b1), .val (.ref bx23), .val (.ref b24), .val (.int (1 : Int32))]) rfl ?_
      show Steps p.tables e below (T114.setTop (mkF m 213 #[.val (.int p1), .val (.int p2), .val (.int p3), .val (.int (3 : Int32)), .val (.ref b1), .val (.ref bx23), .val (.ref b24), .val (.int (1 : Int32))] [])) _
      refine XS.iload X114.here hx rfl (hb hby at_213) rfl ?_
      show Steps p.tables e below (T114.setTop (mkF m 215 #[.val (.int p1), .val (.int p2), .val (.int p3), .val (.int (3 : Int32)), .val (.ref b1), .val (.ref bx23), .val (.ref b24), .val (.int (1 : Int32))] [(.int (1 : Int32))])) _
      refine XS.aload X114.here hx rfl (hb hby at_215) rfl rfl ?_
      show Steps p.tables e below (T114.setTop (mkF m 217 #[.val (.int p1), .val (.int p2), .val (.int p3), .val (.int (3 : Int32)), .val (.ref b1), .val (.ref bx23), .val (.ref b24), .val (.int (1 : Int32))] [(.ref b24), (.int (1 : Int32))])) _
      refine st117.trans ?_
      show Steps p.tables e below (T117.setTop (mkF m 220 #[.val (.int p1), .val (.int p2), .val (.int p3), .val (.int (3 : Int32)), .val (.ref b1), .val (.ref bx23), .val (.ref b24), .val (.int (1 : Int32))] [(.int (2 : Int32)), (.int (1 : Int32))])) _
      refine XS.iloadN X117.here hx rfl (hb hby at_220) rfl ?_
      show Steps p.tables e below (T117.setTop (mkF m 221 #[.val (.int p1), .val (.int p2), .val (.int p3), .val (.int (3 : Int32)), .val (.ref b1), .val (.ref bx23), .val (.ref b24), .val (.int (1 : Int32))] [(.int (3 : Int32)), (.int (2 : Int32)), (.int (1 : Int32))])) _
      refine XS.iconst X117.here hx rfl (hb hby at_221) ?_
      show Steps p.tables e below (T117.setTop (mkF m 222 #[.val (.int p1), .val (.int p2), .val (.int p3), .val (.int (3 : Int32)), .val (.ref b1), .val (.ref bx23), .val (.ref b24), .val (.int (1 : Int32))] [(.int (1 : Int32)), (.int (3 : Int32)), (.int (2 : Int32)), (.int (1 : Int32))])) _
      refine XS.isub X117.here hx rfl (hb hby at_222) rfl ?_
      show Steps p.tables e below (T117.setTop (mkF m 223 #[.val (.int p1), .val (.int p2), .val (.int p3), .val (.int (3 : Int32)), .val (.ref b1), .val (.ref bx23), .val (.ref b24), .val (.int (1 : Int32))] [(.int ((3 : Int32) - (1 : Int32))), (.int (2 : Int32)), (.int (1 : Int32))])) _
      exact kt
    have R119 : ∀ tg, Steps p.tables e below (T117.setTop (mkF m 223 #[.val (.int p1), .val (.int p2), .val (.int p3), .val (.int (3 : Int32)), .val (.ref b1), .val (.ref bx23), .val (.ref b24), .val (.int (1 : Int32))] [(.int (2 : Int32)), (.int (2 : Int32)), (.int (1 : Int32))])) tg → Steps p.tables e below (T117.setTop (mkF m 223 #[.val (.int p1), .val (.int p2), .val (.int p3), .val (.int (3 : Int32)), .val (.ref b1), .val (.ref bx23), .val (.ref b24), .val (.int (1 : Int32))] [(.int ((3 : Int32) - (1 : Int32))), (.int (2 : Int32)), (.int (1 : Int32))])) tg := fun tg kt => by rw [(by decide : ((3 : Int32) - (1 : Int32)) = (2 : Int32))]; exact kt
    have R120 : ∀ tg, Steps p.tables e below (T117.setTop (mkF m 232 #[.val (.int p1), .val (.int p2), .val (.int p3), .val (.int (3 : Int32)), .val (.ref b1), .val (.ref bx23), .val (.ref b24), .val (.int (1 : Int32))] [(.int ((1 : Int32) &&& (1 : Int32)))])) tg → Steps p.tables e below (T117.setTop (mkF m 223 #[.val (.int p1), .val (.int p2), .val (.int p3), .val (.int (3 : Int32)), .val (.ref b1), .val (.ref bx23), .val (.ref b24), .val (.int (1 : Int32))] [(.int (2 : Int32)), (.int (2 : Int32)), (.int (1 : Int32))])) tg := by
      intro tg kt
      refine XS.icmpNo X117.here hx rfl (hb hby at_223) rfl (teq (by decide : (2 : Int32) = (2 : Int32))).2 ?_
      show Steps p.tables e below (T117.setTop (mkF m 226 #[.val (.int p1), .val (.int p2), .val (.int p3), .val (.int (3 : Int32)), .val (.ref b1), .val (.ref bx23), .val (.ref b24), .val (.int (1 : Int32))] [(.int (1 : Int32))])) _
      refine XS.iconst X117.here hx rfl (hb hby at_226) ?_
      show Steps p.tables e below (T117.setTop (mkF m 227 #[.val (.int p1), .val (.int p2), .val (.int p3), .val (.int (3 : Int32)), .val (.ref b1), .val (.ref bx23), .val (.ref b24), .val (.int (1 : Int32))] [(.int (1 : Int32)), (.int (1 : Int32))])) _
      refine XS.goto X117.here hx rfl (pc0 := 227) (pc' := 231) rfl (hb hby at_227) (by decide) (by decide) ?_
      show Steps p.tables e below (T117.setTop (mkF m 231 #[.val (.int p1), .val (.int p2), .val (.int p3), .val (.int (3 : Int32)), .val (.ref b1), .val (.ref bx23), .val (.ref b24), .val (.int (1 : Int32))] [(.int (1 : Int32)), (.int (1 : Int32))])) _
      refine XS.iand X117.here hx rfl (hb hby at_231) rfl ?_
      show Steps p.tables e below (T117.setTop (mkF m 232 #[.val (.int p1), .val (.int p2), .val (.int p3), .val (.int (3 : Int32)), .val (.ref b1), .val (.ref bx23), .val (.ref b24), .val (.int (1 : Int32))] [(.int ((1 : Int32) &&& (1 : Int32)))])) _
      exact kt
    have R121 : ∀ tg, Steps p.tables e below (T117.setTop (mkF m 232 #[.val (.int p1), .val (.int p2), .val (.int p3), .val (.int (3 : Int32)), .val (.ref b1), .val (.ref bx23), .val (.ref b24), .val (.int (1 : Int32))] [(.int (1 : Int32))])) tg → Steps p.tables e below (T117.setTop (mkF m 232 #[.val (.int p1), .val (.int p2), .val (.int p3), .val (.int (3 : Int32)), .val (.ref b1), .val (.ref bx23), .val (.ref b24), .val (.int (1 : Int32))] [(.int ((1 : Int32) &&& (1 : Int32)))])) tg := fun tg kt => by rw [(by decide : ((1 : Int32) &&& (1 : Int32)) = (1 : Int32))]; exact kt
    obtain ⟨cq122, kq122, q122a, q122b, q122c⟩ := isOf hZ r117 hC114'.1
    obtain ⟨_, _, ⟨T122, L122, k122, n122⟩, -, X122, ⟨Lc122, hQ122, l122, y122, z122⟩, st122⟩ := X117.virtualBack hx (y := (⟨"com/example/anchored_threads/anchoredthreads/internal/ChunkedList", "removeLast", "()Ljava/lang/Object;"⟩ : MethodName)) (z := (⟨"com/example/anchored_threads/anchoredthreads/internal/ChunkedList", "removeLast", "()Ljava/lang/Object;"⟩ : MethodName)) hown (mvT hZ (hw _ (List.mem_of_getElem? (i := 55) rfl))) (mvT hZ (hw _ (List.mem_of_getElem? (i := 56) rfl))) (notFace_of_selects (args := #[]) (mvT hZ (hw _ (List.mem_of_getElem? (i := 58) rfl)))) (mvT hZ (hw _ (List.mem_of_getElem? (i := 58) rfl))) (mvT hZ (hw _ (List.mem_of_getElem? (i := 57) rfl))) (by decide) (backOf (W := 1) (rmRl l Z a0 hw [] b24 ch33 ea33 kc33 ke33 (2 : Int32) mc114 (4 : Int32) (1 : Int32) [(.ref bx3), (.ref bx7), .null, .null] 1 bx7 T114.heap n0 Z114 hC114' (by decide) (by decide) (by decide) (by decide) ⟨by decide, by decide⟩ rfl (Nat.le_of_ble_eq_true rfl) rfl) hZ (hw _ (List.mem_of_getElem? (i := 59) rfl)) (hw _ (List.mem_of_getElem? (i := 13) rfl)) (by decide) (by decide)) q122a q122c (g := (mkF m 243 #[.val (.int p1), .val (.int p2), .val (.int p3), .val (.int (3 : Int32)), .val (.ref b1), .val (.ref bx23), .val (.ref b24), .val (.int (1 : Int32))] [(.ref b24), (.int (1 : Int32))])) rfl (by rw [hml]; rfl) (Steps.refl _) (argsL := []) (rest := [(.int (1 : Int32))]) (lenOf pd_6 rfl) rfl (by show 2 * 0 + _ ≤ _; exact Nat.le_of_eq rfl) (hb hby at_243) (fun _ _ => ⟨rfl, r117, (by decide : 10 + 0 ≤ _), (by decide : 19 + 0 ≤ _)⟩)
    dsimp only [Pt.U, Pt.locs, Pt.cells, Pt.slots] at X122 l122 y122 z122 st122 hQ122
    subst l122 y122 z122
    obtain ⟨hv122, N122q, kp122, mc122, hC122⟩ := hQ122
    subst hv122
    have N122 := Fr.app N117 N122q
    have Z122 : n0 ≤ T122.heap.size := Nat.le_trans Z114 kp122.1
    have hC122' : CLs Z n0 T122.heap b24 ch33 ea33 kc33 ke33 (1 : Int32) mc122 (4 : Int32) [(.ref bx3), .null, .null, .null] := hC122
    have R123 : ∀ tg, Steps p.tables e below (T122.setTop (mkF m 251 #[.val (.int p1), .val (.int p2), .val (.int p3), .val (.int (3 : Int32)), .val (.ref b1), .val (.ref bx23), .val (.ref b24), .val (.int (1 : Int32))] [(.int ((3 : Int32) - (2 : Int32))), (.ref b1), (.ref bx7), (.int (1 : Int32))])) tg → Steps p.tables e below (T117.setTop (mkF m 232 #[.val (.int p1), .val (.int p2), .val (.int p3), .val (.int (3 : Int32)), .val (.ref b1), .val (.ref bx23), .val (.ref b24), .val (.int (1 : Int32))] [(.int (1 : Int32))])) tg := by
      intro tg kt
      refine XS.istore X117.here hx rfl (hb hby at_232) rfl (l' := #[.val (.int p1), .val (.int p2), .val (.int p3), .val (.int (3 : Int32)), .val (.ref b1), .val (.ref bx23), .val (.ref b24), .val (.int (1 : Int32))]) rfl ?_
      show Steps p.tables e below (T117.setTop (mkF m 234 #[.val (.int p1), .val (.int p2), .val (.int p3), .val (.int (3 : Int32)), .val (.ref b1), .val (.ref bx23), .val (.ref b24), .val (.int (1 : Int32))] [])) _
      refine XS.iloadN X117.here hx rfl (hb hby at_234) rfl ?_
      show Steps p.tables e below (T117.setTop (mkF m 235 #[.val (.int p1), .val (.int p2), .val (.int p3), .val (.int (3 : Int32)), .val (.ref b1), .val (.ref bx23), .val (.ref b24), .val (.int (1 : Int32))] [(.int (3 : Int32))])) _
      refine XS.iconst X117.here hx rfl (hb hby at_235) ?_
      show Steps p.tables e below (T117.setTop (mkF m 236 #[.val (.int p1), .val (.int p2), .val (.int p3), .val (.int (3 : Int32)), .val (.ref b1), .val (.ref bx23), .val (.ref b24), .val (.int (1 : Int32))] [(.int (2 : Int32)), (.int (3 : Int32))])) _
      refine XS.icmpNo X117.here hx rfl (hb hby at_236) rfl (flt (by decide : ¬ ((3 : Int32) < (2 : Int32)))).1 ?_
      show Steps p.tables e below (T117.setTop (mkF m 239 #[.val (.int p1), .val (.int p2), .val (.int p3), .val (.int (3 : Int32)), .val (.ref b1), .val (.ref bx23), .val (.ref b24), .val (.int (1 : Int32))] [])) _
      refine XS.iload X117.here hx rfl (hb hby at_239) rfl ?_
      show Steps p.tables e below (T117.setTop (mkF m 241 #[.val (.int p1), .val (.int p2), .val (.int p3), .val (.int (3 : Int32)), .val (.ref b1), .val (.ref bx23), .val (.ref b24), .val (.int (1 : Int32))] [(.int (1 : Int32))])) _
      refine XS.aload X117.here hx rfl (hb hby at_241) rfl rfl ?_
      show Steps p.tables e below (T117.setTop (mkF m 243 #[.val (.int p1), .val (.int p2), .val (.int p3), .val (.int (3 : Int32)), .val (.ref b1), .val (.ref bx23), .val (.ref b24), .val (.int (1 : Int32))] [(.ref b24), (.int (1 : Int32))])) _
      refine st122.trans ?_
      show Steps p.tables e below (T122.setTop (mkF m 246 #[.val (.int p1), .val (.int p2), .val (.int p3), .val (.int (3 : Int32)), .val (.ref b1), .val (.ref bx23), .val (.ref b24), .val (.int (1 : Int32))] [(.ref bx7), (.int (1 : Int32))])) _
      refine XS.aload X122.here hx rfl (hb hby at_246) rfl rfl ?_
      show Steps p.tables e below (T122.setTop (mkF m 248 #[.val (.int p1), .val (.int p2), .val (.int p3), .val (.int (3 : Int32)), .val (.ref b1), .val (.ref bx23), .val (.ref b24), .val (.int (1 : Int32))] [(.ref b1), (.ref bx7), (.int (1 : Int32))])) _
      refine XS.iloadN X122.here hx rfl (hb hby at_248) rfl ?_
      show Steps p.tables e below (T122.setTop (mkF m 249 #[.val (.int p1), .val (.int p2), .val (.int p3), .val (.int (3 : Int32)), .val (.ref b1), .val (.ref bx23), .val (.ref b24), .val (.int (1 : Int32))] [(.int (3 : Int32)), (.ref b1), (.ref bx7), (.int (1 : Int32))])) _
      refine XS.iconst X122.here hx rfl (hb hby at_249) ?_
      show Steps p.tables e below (T122.setTop (mkF m 250 #[.val (.int p1), .val (.int p2), .val (.int p3), .val (.int (3 : Int32)), .val (.ref b1), .val (.ref bx23), .val (.ref b24), .val (.int (1 : Int32))] [(.int (2 : Int32)), (.int (3 : Int32)), (.ref b1), (.ref bx7), (.int (1 : Int32))])) _
      refine XS.isub X122.here hx rfl (hb hby at_250) rfl ?_
      show Steps p.tables e below (T122.setTop (mkF m 251 #[.val (.int p1), .val (.int p2), .val (.int p3), .val (.int (3 : Int32)), .val (.ref b1), .val (.ref bx23), .val (.ref b24), .val (.int (1 : Int32))] [(.int ((3 : Int32) - (2 : Int32))), (.ref b1), (.ref bx7), (.int (1 : Int32))])) _
      exact kt
    have R124 : ∀ tg, Steps p.tables e below (T122.setTop (mkF m 251 #[.val (.int p1), .val (.int p2), .val (.int p3), .val (.int (3 : Int32)), .val (.ref b1), .val (.ref bx23), .val (.ref b24), .val (.int (1 : Int32))] [(.int (1 : Int32)), (.ref b1), (.ref bx7), (.int (1 : Int32))])) tg → Steps p.tables e below (T122.setTop (mkF m 251 #[.val (.int p1), .val (.int p2), .val (.int p3), .val (.int (3 : Int32)), .val (.ref b1), .val (.ref bx23), .val (.ref b24), .val (.int (1 : Int32))] [(.int ((3 : Int32) - (2 : Int32))), (.ref b1), (.ref bx7), (.int (1 : Int32))])) tg := fun tg kt => by rw [(by decide : ((3 : Int32) - (2 : Int32)) = (1 : Int32))]; exact kt
    have f126 := (((f111.keep kp113 (ninS ne_b1_b24 (ninS nes_c33 (ninS nes_e33 nin0)))).keep kp114 (ninS ne_b1_b24 (ninS nes_c33 (ninS nes_e33 nin0)))).keep kp122 (ninS ne_b1_b24 (ninS nes_c33 (ninS nes_e33 nin0))))
    obtain ⟨cl125, Ar125, q125, Sz125, Nn125, Ha125, Ga125⟩ := id f126
    have hin125 : ¬ ((1 : Int32) < 0 ∨ cl125.slots.size ≤ ((1 : Int32)).toNatClampNeg) := inb_of Sz125 ⟨by decide, by decide⟩
    have hat125 : cl125.slots[((1 : Int32)).toNatClampNeg]? = some (.ref bx7) := Ha125.at hin125 rfl
    have R127 : ∀ tg, Steps p.tables e below (T122.setTop (mkF m 261 #[.val (.int p1), .val (.int p2), .val (.int p3), .val (.int (3 : Int32)), .val (.ref b1), .val (.ref bx23), .val (.ref b24), .val (.int (1 : Int32))] [(.int ((1 : Int32) &&& (1 : Int32)))])) tg → Steps p.tables e below (T122.setTop (mkF m 251 #[.val (.int p1), .val (.int p2), .val (.int p3), .val (.int (3 : Int32)), .val (.ref b1), .val (.ref bx23), .val (.ref b24), .val (.int (1 : Int32))] [(.int (1 : Int32)), (.ref b1), (.ref bx7), (.int (1 : Int32))])) tg := by
      intro tg kt
      refine X122.aaload hx (j := (1 : Int32)) (v := (.ref bx7)) (Ar125.1) (State.isArrayOf_alike hZ.alike Ar125.2.1) rfl Ar125.2.2 hin125 hat125 (g := (mkF m 251 #[.val (.int p1), .val (.int p2), .val (.int p3), .val (.int (3 : Int32)), .val (.ref b1), .val (.ref bx23), .val (.ref b24), .val (.int (1 : Int32))] [(.int (1 : Int32)), (.ref b1), (.ref bx7), (.int (1 : Int32))])) rfl rfl (hb hby at_251) _ ?_
      show Steps p.tables e below (T122.setTop (mkF m 252 #[.val (.int p1), .val (.int p2), .val (.int p3), .val (.int (3 : Int32)), .val (.ref b1), .val (.ref bx23), .val (.ref b24), .val (.int (1 : Int32))] [(.ref bx7), (.ref bx7), (.int (1 : Int32))])) _
      refine Jvm.RoadKit.acmp (g := (mkF m 252 #[.val (.int p1), .val (.int p2), .val (.int p3), .val (.int (3 : Int32)), .val (.ref b1), .val (.ref bx23), .val (.ref b24), .val (.int (1 : Int32))] [(.ref bx7), (.ref bx7), (.int (1 : Int32))])) X122 hx rfl rfl rfl (pc0 := 252) (pc' := 255) (same := true) rfl (hb hby at_252) rfl (decide_eq_true rfl) (by decide) (by decide) ?_
      show Steps p.tables e below (T122.setTop (mkF m 255 #[.val (.int p1), .val (.int p2), .val (.int p3), .val (.int (3 : Int32)), .val (.ref b1), .val (.ref bx23), .val (.ref b24), .val (.int (1 : Int32))] [(.int (1 : Int32))])) _
      refine XS.iconst X122.here hx rfl (hb hby at_255) ?_
      show Steps p.tables e below (T122.setTop (mkF m 256 #[.val (.int p1), .val (.int p2), .val (.int p3), .val (.int (3 : Int32)), .val (.ref b1), .val (.ref bx23), .val (.ref b24), .val (.int (1 : Int32))] [(.int (1 : Int32)), (.int (1 : Int32))])) _
      refine XS.goto X122.here hx rfl (pc0 := 256) (pc' := 260) rfl (hb hby at_256) (by decide) (by decide) ?_
      show Steps p.tables e below (T122.setTop (mkF m 260 #[.val (.int p1), .val (.int p2), .val (.int p3), .val (.int (3 : Int32)), .val (.ref b1), .val (.ref bx23), .val (.ref b24), .val (.int (1 : Int32))] [(.int (1 : Int32)), (.int (1 : Int32))])) _
      refine XS.iand X122.here hx rfl (hb hby at_260) rfl ?_
      show Steps p.tables e below (T122.setTop (mkF m 261 #[.val (.int p1), .val (.int p2), .val (.int p3), .val (.int (3 : Int32)), .val (.ref b1), .val (.ref bx23), .val (.ref b24), .val (.int (1 : Int32))] [(.int ((1 : Int32) &&& (1 : Int32)))])) _
      exact kt
    have R128 : ∀ tg, Steps p.tables e below (T122.setTop (mkF m 261 #[.val (.int p1), .val (.int p2), .val (.int p3), .val (.int (3 : Int32)), .val (.ref b1), .val (.ref bx23), .val (.ref b24), .val (.int (1 : Int32))] [(.int (1 : Int32))])) tg → Steps p.tables e below (T122.setTop (mkF m 261 #[.val (.int p1), .val (.int p2), .val (.int p3), .val (.int (3 : Int32)), .val (.ref b1), .val (.ref bx23), .val (.ref b24), .val (.int (1 : Int32))] [(.int ((1 : Int32) &&& (1 : Int32)))])) tg := fun tg kt => by rw [(by decide : ((1 : Int32) &&& (1 : Int32)) = (1 : Int32))]; exact kt
    obtain ⟨cq129, kq129, q129a, q129b, q129c⟩ := isOf hZ rfl hC122'.1
    obtain ⟨_, _, ⟨T129, L129, k129, n129⟩, -, X129, ⟨Lc129, hQ129, l129, y129, z129⟩, st129⟩ := X122.virtualBack hx (y := (⟨"com/example/anchored_threads/anchoredthreads/internal/ChunkedList", "size", "()I"⟩ : MethodName)) (z := (⟨"com/example/anchored_threads/anchoredthreads/internal/ChunkedList", "size", "()I"⟩ : MethodName)) hown (mvT hZ (hw _ (List.mem_of_getElem? (i := 40) rfl))) (mvT hZ (hw _ (List.mem_of_getElem? (i := 41) rfl))) (notFace_of_selects (args := #[]) (mvT hZ (hw _ (List.mem_of_getElem? (i := 43) rfl)))) (mvT hZ (hw _ (List.mem_of_getElem? (i := 43) rfl))) (mvT hZ (hw _ (List.mem_of_getElem? (i := 42) rfl))) (by decide) (backOf (W := 1) (rmSz l Z a0 hw [] b24 (1 : Int32) T122.heap n0 Z122 hC122'.2.1) hZ (hw _ (List.mem_of_getElem? (i := 44) rfl)) (hw _ (List.mem_of_getElem? (i := 13) rfl)) (by decide) (by decide)) q129a q129c (g := (mkF m 267 #[.val (.int p1), .val (.int p2), .val (.int p3), .val (.int (3 : Int32)), .val (.ref b1), .val (.ref bx23), .val (.ref b24), .val (.int (1 : Int32))] [(.ref b24), (.int (1 : Int32))])) rfl (by rw [hml]; rfl) (Steps.refl _) (argsL := []) (rest := [(.int (1 : Int32))]) (lenOf pd_4 rfl) rfl (by show 2 * 0 + _ ≤ _; exact Nat.le_of_eq rfl) (hb hby at_267) (fun _ _ => ⟨rfl, rfl, (by decide : 10 + 0 ≤ _), (by decide : 19 + 0 ≤ _)⟩)
    dsimp only [Pt.U, Pt.locs, Pt.cells, Pt.slots] at X129 l129 y129 z129 st129 hQ129
    subst l129 y129 z129
    obtain ⟨hv129, N129q, r129⟩ := hQ129
    subst hv129
    have N129 := Fr.app N122 N129q
    have R130 : ∀ tg, Steps p.tables e below (T129.setTop (mkF m 273 #[.val (.int p1), .val (.int p2), .val (.int p3), .val (.int (3 : Int32)), .val (.ref b1), .val (.ref bx23), .val (.ref b24), .val (.int (1 : Int32))] [(.int ((3 : Int32) - (2 : Int32))), (.int (1 : Int32)), (.int (1 : Int32))])) tg → Steps p.tables e below (T122.setTop (mkF m 261 #[.val (.int p1), .val (.int p2), .val (.int p3), .val (.int (3 : Int32)), .val (.ref b1), .val (.ref bx23), .val (.ref b24), .val (.int (1 : Int32))] [(.int (1 : Int32))])) tg := by
      intro tg kt
      refine XS.istore X122.here hx rfl (hb hby at_261) rfl (l' := #[.val (.int p1), .val (.int p2), .val (.int p3), .val (.int (3 : Int32)), .val (.ref b1), .val (.ref bx23), .val (.ref b24), .val (.int (1 : Int32))]) rfl ?_
      show Steps p.tables e below (T122.setTop (mkF m 263 #[.val (.int p1), .val (.int p2), .val (.int p3), .val (.int (3 : Int32)), .val (.ref b1), .val (.ref bx23), .val (.ref b24), .val (.int (1 : Int32))] [])) _
      refine XS.iload X122.here hx rfl (hb hby at_263) rfl ?_
      show Steps p.tables e below (T122.setTop (mkF m 265 #[.val (.int p1), .val (.int p2), .val (.int p3), .val (.int (3 : Int32)), .val (.ref b1), .val (.ref bx23), .val (.ref b24), .val (.int (1 : Int32))] [(.int (1 : Int32))])) _
      refine XS.aload X122.here hx rfl (hb hby at_265) rfl rfl ?_
      show Steps p.tables e below (T122.setTop (mkF m 267 #[.val (.int p1), .val (.int p2), .val (.int p3), .val (.int (3 : Int32)), .val (.ref b1), .val (.ref bx23), .val (.ref b24), .val (.int (1 : Int32))] [(.ref b24), (.int (1 : Int32))])) _
      refine st129.trans ?_
      show Steps p.tables e below (T129.setTop (mkF m 270 #[.val (.int p1), .val (.int p2), .val (.int p3), .val (.int (3 : Int32)), .val (.ref b1), .val (.ref bx23), .val (.ref b24), .val (.int (1 : Int32))] [(.int (1 : Int32)), (.int (1 : Int32))])) _
      refine XS.iloadN X129.here hx rfl (hb hby at_270) rfl ?_
      show Steps p.tables e below (T129.setTop (mkF m 271 #[.val (.int p1), .val (.int p2), .val (.int p3), .val (.int (3 : Int32)), .val (.ref b1), .val (.ref bx23), .val (.ref b24), .val (.int (1 : Int32))] [(.int (3 : Int32)), (.int (1 : Int32)), (.int (1 : Int32))])) _
      refine XS.iconst X129.here hx rfl (hb hby at_271) ?_
      show Steps p.tables e below (T129.setTop (mkF m 272 #[.val (.int p1), .val (.int p2), .val (.int p3), .val (.int (3 : Int32)), .val (.ref b1), .val (.ref bx23), .val (.ref b24), .val (.int (1 : Int32))] [(.int (2 : Int32)), (.int (3 : Int32)), (.int (1 : Int32)), (.int (1 : Int32))])) _
      refine XS.isub X129.here hx rfl (hb hby at_272) rfl ?_
      show Steps p.tables e below (T129.setTop (mkF m 273 #[.val (.int p1), .val (.int p2), .val (.int p3), .val (.int (3 : Int32)), .val (.ref b1), .val (.ref bx23), .val (.ref b24), .val (.int (1 : Int32))] [(.int ((3 : Int32) - (2 : Int32))), (.int (1 : Int32)), (.int (1 : Int32))])) _
      exact kt
    have R131 : ∀ tg, Steps p.tables e below (T129.setTop (mkF m 273 #[.val (.int p1), .val (.int p2), .val (.int p3), .val (.int (3 : Int32)), .val (.ref b1), .val (.ref bx23), .val (.ref b24), .val (.int (1 : Int32))] [(.int (1 : Int32)), (.int (1 : Int32)), (.int (1 : Int32))])) tg → Steps p.tables e below (T129.setTop (mkF m 273 #[.val (.int p1), .val (.int p2), .val (.int p3), .val (.int (3 : Int32)), .val (.ref b1), .val (.ref bx23), .val (.ref b24), .val (.int (1 : Int32))] [(.int ((3 : Int32) - (2 : Int32))), (.int (1 : Int32)), (.int (1 : Int32))])) tg := fun tg kt => by rw [(by decide : ((3 : Int32) - (2 : Int32)) = (1 : Int32))]; exact kt
    have R132 : ∀ tg, Steps p.tables e below (T129.setTop (mkF m 282 #[.val (.int p1), .val (.int p2), .val (.int p3), .val (.int (3 : Int32)), .val (.ref b1), .val (.ref bx23), .val (.ref b24), .val (.int (1 : Int32))] [(.int ((1 : Int32) &&& (1 : Int32)))])) tg → Steps p.tables e below (T129.setTop (mkF m 273 #[.val (.int p1), .val (.int p2), .val (.int p3), .val (.int (3 : Int32)), .val (.ref b1), .val (.ref bx23), .val (.ref b24), .val (.int (1 : Int32))] [(.int (1 : Int32)), (.int (1 : Int32)), (.int (1 : Int32))])) tg := by
      intro tg kt
      refine XS.icmpNo X129.here hx rfl (hb hby at_273) rfl (teq (by decide : (1 : Int32) = (1 : Int32))).2 ?_
      show Steps p.tables e below (T129.setTop (mkF m 276 #[.val (.int p1), .val (.int p2), .val (.int p3), .val (.int (3 : Int32)), .val (.ref b1), .val (.ref bx23), .val (.ref b24), .val (.int (1 : Int32))] [(.int (1 : Int32))])) _
      refine XS.iconst X129.here hx rfl (hb hby at_276) ?_
      show Steps p.tables e below (T129.setTop (mkF m 277 #[.val (.int p1), .val (.int p2), .val (.int p3), .val (.int (3 : Int32)), .val (.ref b1), .val (.ref bx23), .val (.ref b24), .val (.int (1 : Int32))] [(.int (1 : Int32)), (.int (1 : Int32))])) _
      refine XS.goto X129.here hx rfl (pc0 := 277) (pc' := 281) rfl (hb hby at_277) (by decide) (by decide) ?_
      show Steps p.tables e below (T129.setTop (mkF m 281 #[.val (.int p1), .val (.int p2), .val (.int p3), .val (.int (3 : Int32)), .val (.ref b1), .val (.ref bx23), .val (.ref b24), .val (.int (1 : Int32))] [(.int (1 : Int32)), (.int (1 : Int32))])) _
      refine XS.iand X129.here hx rfl (hb hby at_281) rfl ?_
      show Steps p.tables e below (T129.setTop (mkF m 282 #[.val (.int p1), .val (.int p2), .val (.int p3), .val (.int (3 : Int32)), .val (.ref b1), .val (.ref bx23), .val (.ref b24), .val (.int (1 : Int32))] [(.int ((1 : Int32) &&& (1 : Int32)))])) _
      exact kt
    have R133 : ∀ tg, Steps p.tables e below (T129.setTop (mkF m 282 #[.val (.int p1), .val (.int p2), .val (.int p3), .val (.int (3 : Int32)), .val (.ref b1), .val (.ref bx23), .val (.ref b24), .val (.int (1 : Int32))] [(.int (1 : Int32))])) tg → Steps p.tables e below (T129.setTop (mkF m 282 #[.val (.int p1), .val (.int p2), .val (.int p3), .val (.int (3 : Int32)), .val (.ref b1), .val (.ref bx23), .val (.ref b24), .val (.int (1 : Int32))] [(.int ((1 : Int32) &&& (1 : Int32)))])) tg := fun tg kt => by rw [(by decide : ((1 : Int32) &&& (1 : Int32)) = (1 : Int32))]; exact kt
    obtain ⟨fs, hr, hrun, hended, hW, hsame⟩ := X129.leave (v := some (.int (1 : Int32))) (fun h => by rw [Bd.returns] at h; cases h)
    refine ⟨_, _, pre0 _ (R34 _ (R94 _ (R108 _ (R109 _ (R115 _ (R116 _ (R118 _ (R119 _ (R120 _ (R121 _ (R123 _ (R124 _ (R127 _ (R128 _ (R130 _ (R131 _ (R132 _ (R133 _ ?_)))))))))))))))))), hrun, hended, _, _, rfl, ?_, ⟨_, rfl⟩, hW, hsame.mono (by decide) (by decide)⟩
    · show Steps p.tables e below (T129.setTop (mkF m 282 #[.val (.int p1), .val (.int p2), .val (.int p3), .val (.int (3 : Int32)), .val (.ref b1), .val (.ref bx23), .val (.ref b24), .val (.int (1 : Int32))] [(.int (1 : Int32))])) _
      refine XS.istore X129.here hx rfl (hb hby at_282) rfl (l' := #[.val (.int p1), .val (.int p2), .val (.int p3), .val (.int (3 : Int32)), .val (.ref b1), .val (.ref bx23), .val (.ref b24), .val (.int (1 : Int32))]) rfl ?_
      show Steps p.tables e below (T129.setTop (mkF m 284 #[.val (.int p1), .val (.int p2), .val (.int p3), .val (.int (3 : Int32)), .val (.ref b1), .val (.ref bx23), .val (.ref b24), .val (.int (1 : Int32))] [])) _
      refine XS.iload X129.here hx rfl (hb hby at_284) rfl ?_
      show Steps p.tables e below (T129.setTop (mkF m 286 #[.val (.int p1), .val (.int p2), .val (.int p3), .val (.int (3 : Int32)), .val (.ref b1), .val (.ref bx23), .val (.ref b24), .val (.int (1 : Int32))] [(.int (1 : Int32))])) _
      exact retN X129 hx (t := .boolean) Bd.returns (by simp) (hb hby at_286) hr
    · show Q0 n0 _ T129.heap _
      rw [r129]
      exact ⟨rfl, N129⟩
  · have R134 : ∀ tg, Steps p.tables e below (T33.setTop (mkF m 72 #[.val (.int p1), .val (.int p2), .val (.int p3), .val (.int (4 : Int32)), .val (.ref b1), .val (.ref bx23), .val (.ref b24), .unset] [])) tg → Steps p.tables e below (T33.setTop (mkF m 72 #[.val (.int p1), .val (.int p2), .val (.int p3), .val (.int ((p1 &&& (2147483647 : Int32)) % (6 : Int32))), .val (.ref b1), .val (.ref bx23), .val (.ref b24), .unset] [])) tg := fun tg kt => by rw [hk35]; exact kt
    have f136 := (f32.keep kp33 (ninS ne_b1_b24 nin0))
    obtain ⟨cl135, Ar135, q135, Sz135, Nn135, Ha135, Ga135⟩ := id f136
    have hin135 : ¬ ((0 : Int32) < 0 ∨ cl135.slots.size ≤ ((0 : Int32)).toNatClampNeg) := inb_of Sz135 ⟨by decide, by decide⟩
    have hat135 : cl135.slots[((0 : Int32)).toNatClampNeg]? = some (.ref bx3) := Ha135.at hin135 rfl
    have f137 := ((f26.ext E24).keep kp33)
    obtain ⟨cq138, kq138, q138a, q138b, q138c⟩ := isOf hZ rfl hC33.1
    obtain ⟨_, _, ⟨T138, L138, k138, n138⟩, -, X138, ⟨Lc138, hQ138, l138, y138, z138⟩, st138⟩ := X33.virtualBack hx (y := (⟨"com/example/anchored_threads/anchoredthreads/internal/ChunkedList", "add", "(Ljava/lang/Object;)Z"⟩ : MethodName)) (z := (⟨"com/example/anchored_threads/anchoredthreads/internal/ChunkedList", "add", "(Ljava/lang/Object;)Z"⟩ : MethodName)) hown (mvT hZ (hw _ (List.mem_of_getElem? (i := 47) rfl))) (mvT hZ (hw _ (List.mem_of_getElem? (i := 48) rfl))) (notFace_of_selects (args := #[]) (mvT hZ (hw _ (List.mem_of_getElem? (i := 50) rfl)))) (mvT hZ (hw _ (List.mem_of_getElem? (i := 50) rfl))) (mvT hZ (hw _ (List.mem_of_getElem? (i := 49) rfl))) (by decide) (backOf (W := 0) (rmAd l Z a0 hw [] b24 bx3 ch33 ea33 kc33 ke33 (0 : Int32) (0 : Int32) (4 : Int32) [.null, .null, .null, .null] 0 T33.heap n0 Z33 hC33 f137 (by decide) (by decide) (by decide) ⟨by decide, by decide⟩ rfl (Nat.le_of_ble_eq_true rfl)) hZ (hw _ (List.mem_of_getElem? (i := 51) rfl)) (hw _ (List.mem_of_getElem? (i := 13) rfl)) (by decide) (by decide)) q138a q138c (g := (mkF m 82 #[.val (.int p1), .val (.int p2), .val (.int p3), .val (.int (4 : Int32)), .val (.ref b1), .val (.ref bx23), .val (.ref b24), .unset] [(.ref bx3), (.ref b24)])) rfl (by rw [hml]; rfl) (Steps.refl _) (argsL := [(.ref bx3)]) (rest := []) (lenOf pd_5 rfl) rfl (by show 2 * 0 + _ ≤ _; exact Nat.le_of_eq rfl) (hb hby at_82) (fun _ _ => ⟨rfl, rfl, (by decide : 10 + 0 ≤ _), (by decide : 19 + 0 ≤ _)⟩)
    dsimp only [Pt.U, Pt.locs, Pt.cells, Pt.slots] at X138 l138 y138 z138 st138 hQ138
    subst l138 y138 z138
    obtain ⟨hv138, N138q, kp138, mc138, hC138⟩ := hQ138
    subst hv138
    have N138 := Fr.app N33 N138q
    have Z138 : n0 ≤ T138.heap.size := Nat.le_trans Z33 kp138.1
    have hC138' : CLs Z n0 T138.heap b24 ch33 ea33 kc33 ke33 (1 : Int32) mc138 (4 : Int32) [(.ref bx3), .null, .null, .null] := by
      have q := hC138
      rw [show ((0 : Int32) + 1) = (1 : Int32) from by decide] at q
      exact q
    have f140 := (f136.keep kp138 (ninS ne_b1_b24 (ninS nes_c33 (ninS nes_e33 nin0))))
    obtain ⟨cl139, Ar139, q139, Sz139, Nn139, Ha139, Ga139⟩ := id f140
    have hin139 : ¬ ((1 : Int32) < 0 ∨ cl139.slots.size ≤ ((1 : Int32)).toNatClampNeg) := inb_of Sz139 ⟨by decide, by decide⟩
    have hat139 : cl139.slots[((1 : Int32)).toNatClampNeg]? = some (.ref bx7) := Ha139.at hin139 rfl
    have f141 := (((f27.ext E24).keep kp33).keep kp138)
    obtain ⟨cq142, kq142, q142a, q142b, q142c⟩ := isOf hZ rfl hC138'.1
    obtain ⟨_, _, ⟨T142, L142, k142, n142⟩, -, X142, ⟨Lc142, hQ142, l142, y142, z142⟩, st142⟩ := X138.virtualBack hx (y := (⟨"com/example/anchored_threads/anchoredthreads/internal/ChunkedList", "add", "(Ljava/lang/Object;)Z"⟩ : MethodName)) (z := (⟨"com/example/anchored_threads/anchoredthreads/internal/ChunkedList", "add", "(Ljava/lang/Object;)Z"⟩ : MethodName)) hown (mvT hZ (hw _ (List.mem_of_getElem? (i := 47) rfl))) (mvT hZ (hw _ (List.mem_of_getElem? (i := 48) rfl))) (notFace_of_selects (args := #[]) (mvT hZ (hw _ (List.mem_of_getElem? (i := 50) rfl)))) (mvT hZ (hw _ (List.mem_of_getElem? (i := 50) rfl))) (mvT hZ (hw _ (List.mem_of_getElem? (i := 49) rfl))) (by decide) (backOf (W := 0) (rmAd l Z a0 hw [] b24 bx7 ch33 ea33 kc33 ke33 (1 : Int32) mc138 (4 : Int32) [(.ref bx3), .null, .null, .null] 1 T138.heap n0 Z138 hC138' f141 (by decide) (by decide) (by decide) ⟨by decide, by decide⟩ rfl (Nat.le_of_ble_eq_true rfl)) hZ (hw _ (List.mem_of_getElem? (i := 51) rfl)) (hw _ (List.mem_of_getElem? (i := 13) rfl)) (by decide) (by decide)) q142a q142c (g := (mkF m 97 #[.val (.int p1), .val (.int p2), .val (.int p3), .val (.int (4 : Int32)), .val (.ref b1), .val (.ref bx23), .val (.ref b24), .unset] [(.ref bx7), (.ref b24)])) rfl (by rw [hml]; rfl) (Steps.refl _) (argsL := [(.ref bx7)]) (rest := []) (lenOf pd_5 rfl) rfl (by show 2 * 0 + _ ≤ _; exact Nat.le_of_eq rfl) (hb hby at_97) (fun _ _ => ⟨rfl, rfl, (by decide : 10 + 0 ≤ _), (by decide : 19 + 0 ≤ _)⟩)
    dsimp only [Pt.U, Pt.locs, Pt.cells, Pt.slots] at X142 l142 y142 z142 st142 hQ142
    subst l142 y142 z142
    obtain ⟨hv142, N142q, kp142, mc142, hC142⟩ := hQ142
    subst hv142
    have N142 := Fr.app N138 N142q
    have Z142 : n0 ≤ T142.heap.size := Nat.le_trans Z138 kp142.1
    have hC142' : CLs Z n0 T142.heap b24 ch33 ea33 kc33 ke33 (2 : Int32) mc142 (4 : Int32) [(.ref bx3), (.ref bx7), .null, .null] := by
      have q := hC142
      rw [show ((1 : Int32) + 1) = (2 : Int32) from by decide] at q
      exact q
    have f144 := (f140.keep kp142 (ninS ne_b1_b24 (ninS nes_c33 (ninS nes_e33 nin0))))
    obtain ⟨cl143, Ar143, q143, Sz143, Nn143, Ha143, Ga143⟩ := id f144
    have hin143 : ¬ ((2 : Int32) < 0 ∨ cl143.slots.size ≤ ((2 : Int32)).toNatClampNeg) := inb_of Sz143 ⟨by decide, by decide⟩
    have hat143 : cl143.slots[((2 : Int32)).toNatClampNeg]? = some (.ref bx11) := Ha143.at hin143 rfl
    have f145 := ((((f28.ext E24).keep kp33).keep kp138).keep kp142)
    obtain ⟨cq146, kq146, q146a, q146b, q146c⟩ := isOf hZ rfl hC142'.1
    obtain ⟨_, _, ⟨T146, L146, k146, n146⟩, -, X146, ⟨Lc146, hQ146, l146, y146, z146⟩, st146⟩ := X142.virtualBack hx (y := (⟨"com/example/anchored_threads/anchoredthreads/internal/ChunkedList", "add", "(Ljava/lang/Object;)Z"⟩ : MethodName)) (z := (⟨"com/example/anchored_threads/anchoredthreads/internal/ChunkedList", "add", "(Ljava/lang/Object;)Z"⟩ : MethodName)) hown (mvT hZ (hw _ (List.mem_of_getElem? (i := 47) rfl))) (mvT hZ (hw _ (List.mem_of_getElem? (i := 48) rfl))) (notFace_of_selects (args := #[]) (mvT hZ (hw _ (List.mem_of_getElem? (i := 50) rfl)))) (mvT hZ (hw _ (List.mem_of_getElem? (i := 50) rfl))) (mvT hZ (hw _ (List.mem_of_getElem? (i := 49) rfl))) (by decide) (backOf (W := 0) (rmAd l Z a0 hw [] b24 bx11 ch33 ea33 kc33 ke33 (2 : Int32) mc142 (4 : Int32) [(.ref bx3), (.ref bx7), .null, .null] 2 T142.heap n0 Z142 hC142' f145 (by decide) (by decide) (by decide) ⟨by decide, by decide⟩ rfl (Nat.le_of_ble_eq_true rfl)) hZ (hw _ (List.mem_of_getElem? (i := 51) rfl)) (hw _ (List.mem_of_getElem? (i := 13) rfl)) (by decide) (by decide)) q146a q146c (g := (mkF m 112 #[.val (.int p1), .val (.int p2), .val (.int p3), .val (.int (4 : Int32)), .val (.ref b1), .val (.ref bx23), .val (.ref b24), .unset] [(.ref bx11), (.ref b24)])) rfl (by rw [hml]; rfl) (Steps.refl _) (argsL := [(.ref bx11)]) (rest := []) (lenOf pd_5 rfl) rfl (by show 2 * 0 + _ ≤ _; exact Nat.le_of_eq rfl) (hb hby at_112) (fun _ _ => ⟨rfl, rfl, (by decide : 10 + 0 ≤ _), (by decide : 19 + 0 ≤ _)⟩)
    dsimp only [Pt.U, Pt.locs, Pt.cells, Pt.slots] at X146 l146 y146 z146 st146 hQ146
    subst l146 y146 z146
    obtain ⟨hv146, N146q, kp146, mc146, hC146⟩ := hQ146
    subst hv146
    have N146 := Fr.app N142 N146q
    have Z146 : n0 ≤ T146.heap.size := Nat.le_trans Z142 kp146.1
    have hC146' : CLs Z n0 T146.heap b24 ch33 ea33 kc33 ke33 (3 : Int32) mc146 (4 : Int32) [(.ref bx3), (.ref bx7), (.ref bx11), .null] := by
      have q := hC146
      rw [show ((2 : Int32) + 1) = (3 : Int32) from by decide] at q
      exact q
    have f148 := (f144.keep kp146 (ninS ne_b1_b24 (ninS nes_c33 (ninS nes_e33 nin0))))
    obtain ⟨cl147, Ar147, q147, Sz147, Nn147, Ha147, Ga147⟩ := id f148
    have hin147 : ¬ ((3 : Int32) < 0 ∨ cl147.slots.size ≤ ((3 : Int32)).toNatClampNeg) := inb_of Sz147 ⟨by decide, by decide⟩
    have hat147 : cl147.slots[((3 : Int32)).toNatClampNeg]? = some (.ref bx15) := Ha147.at hin147 rfl
    have f149 := (((((f29.ext E24).keep kp33).keep kp138).keep kp142).keep kp146)
    obtain ⟨cq150, kq150, q150a, q150b, q150c⟩ := isOf hZ rfl hC146'.1
    obtain ⟨_, _, ⟨T150, L150, k150, n150⟩, -, X150, ⟨Lc150, hQ150, l150, y150, z150⟩, st150⟩ := X146.virtualBack hx (y := (⟨"com/example/anchored_threads/anchoredthreads/internal/ChunkedList", "add", "(Ljava/lang/Object;)Z"⟩ : MethodName)) (z := (⟨"com/example/anchored_threads/anchoredthreads/internal/ChunkedList", "add", "(Ljava/lang/Object;)Z"⟩ : MethodName)) hown (mvT hZ (hw _ (List.mem_of_getElem? (i := 47) rfl))) (mvT hZ (hw _ (List.mem_of_getElem? (i := 48) rfl))) (notFace_of_selects (args := #[]) (mvT hZ (hw _ (List.mem_of_getElem? (i := 50) rfl)))) (mvT hZ (hw _ (List.mem_of_getElem? (i := 50) rfl))) (mvT hZ (hw _ (List.mem_of_getElem? (i := 49) rfl))) (by decide) (backOf (W := 0) (rmAd l Z a0 hw [] b24 bx15 ch33 ea33 kc33 ke33 (3 : Int32) mc146 (4 : Int32) [(.ref bx3), (.ref bx7), (.ref bx11), .null] 3 T146.heap n0 Z146 hC146' f149 (by decide) (by decide) (by decide) ⟨by decide, by decide⟩ rfl (Nat.le_of_ble_eq_true rfl)) hZ (hw _ (List.mem_of_getElem? (i := 51) rfl)) (hw _ (List.mem_of_getElem? (i := 13) rfl)) (by decide) (by decide)) q150a q150c (g := (mkF m 127 #[.val (.int p1), .val (.int p2), .val (.int p3), .val (.int (4 : Int32)), .val (.ref b1), .val (.ref bx23), .val (.ref b24), .unset] [(.ref bx15), (.ref b24)])) rfl (by rw [hml]; rfl) (Steps.refl _) (argsL := [(.ref bx15)]) (rest := []) (lenOf pd_5 rfl) rfl (by show 2 * 0 + _ ≤ _; exact Nat.le_of_eq rfl) (hb hby at_127) (fun _ _ => ⟨rfl, rfl, (by decide : 10 + 0 ≤ _), (by decide : 19 + 0 ≤ _)⟩)
    dsimp only [Pt.U, Pt.locs, Pt.cells, Pt.slots] at X150 l150 y150 z150 st150 hQ150
    subst l150 y150 z150
    obtain ⟨hv150, N150q, kp150, mc150, hC150⟩ := hQ150
    subst hv150
    have N150 := Fr.app N146 N150q
    have Z150 : n0 ≤ T150.heap.size := Nat.le_trans Z146 kp150.1
    have hC150' : CLs Z n0 T150.heap b24 ch33 ea33 kc33 ke33 (4 : Int32) mc150 (4 : Int32) [(.ref bx3), (.ref bx7), (.ref bx11), (.ref bx15)] := by
      have q := hC150
      rw [show ((3 : Int32) + 1) = (4 : Int32) from by decide] at q
      exact q
    obtain ⟨cq151, kq151, q151a, q151b, q151c⟩ := isOf hZ rfl hC150'.1
    obtain ⟨_, _, ⟨T151, L151, k151, n151⟩, -, X151, ⟨Lc151, hQ151, l151, y151, z151⟩, st151⟩ := X150.virtualBack hx (y := (⟨"com/example/anchored_threads/anchoredthreads/internal/ChunkedList", "removeLast", "()Ljava/lang/Object;"⟩ : MethodName)) (z := (⟨"com/example/anchored_threads/anchoredthreads/internal/ChunkedList", "removeLast", "()Ljava/lang/Object;"⟩ : MethodName)) hown (mvT hZ (hw _ (List.mem_of_getElem? (i := 55) rfl))) (mvT hZ (hw _ (List.mem_of_getElem? (i := 56) rfl))) (notFace_of_selects (args := #[]) (mvT hZ (hw _ (List.mem_of_getElem? (i := 58) rfl)))) (mvT hZ (hw _ (List.mem_of_getElem? (i := 58) rfl))) (mvT hZ (hw _ (List.mem_of_getElem? (i := 57) rfl))) (by decide) (backOf (W := 0) (rmRl l Z a0 hw [] b24 ch33 ea33 kc33 ke33 (4 : Int32) mc150 (4 : Int32) (3 : Int32) [(.ref bx3), (.ref bx7), (.ref bx11), (.ref bx15)] 3 bx15 T150.heap n0 Z150 hC150' (by decide) (by decide) (by decide) (by decide) ⟨by decide, by decide⟩ rfl (Nat.le_of_ble_eq_true rfl) rfl) hZ (hw _ (List.mem_of_getElem? (i := 59) rfl)) (hw _ (List.mem_of_getElem? (i := 13) rfl)) (by decide) (by decide)) q151a q151c (g := (mkF m 166 #[.val (.int p1), .val (.int p2), .val (.int p3), .val (.int (4 : Int32)), .val (.ref b1), .val (.ref bx23), .val (.ref b24), .unset] [(.ref b24)])) rfl (by rw [hml]; rfl) (Steps.refl _) (argsL := []) (rest := []) (lenOf pd_6 rfl) rfl (by show 2 * 0 + _ ≤ _; exact Nat.le_of_eq rfl) (hb hby at_166) (fun _ _ => ⟨rfl, rfl, (by decide : 10 + 0 ≤ _), (by decide : 19 + 0 ≤ _)⟩)
    dsimp only [Pt.U, Pt.locs, Pt.cells, Pt.slots] at X151 l151 y151 z151 st151 hQ151
    subst l151 y151 z151
    obtain ⟨hv151, N151q, kp151, mc151, hC151⟩ := hQ151
    subst hv151
    have N151 := Fr.app N150 N151q
    have Z151 : n0 ≤ T151.heap.size := Nat.le_trans Z150 kp151.1
    have hC151' : CLs Z n0 T151.heap b24 ch33 ea33 kc33 ke33 (3 : Int32) mc151 (4 : Int32) [(.ref bx3), (.ref bx7), (.ref bx11), .null] := hC151
    have R152 : ∀ tg, Steps p.tables e below (T151.setTop (mkF m 174 #[.val (.int p1), .val (.int p2), .val (.int p3), .val (.int (4 : Int32)), .val (.ref b1), .val (.ref bx23), .val (.ref b24), .unset] [(.int ((4 : Int32) - (1 : Int32))), (.ref b1), (.ref bx15)])) tg → Steps p.tables e below (T33.setTop (mkF m 72 #[.val (.int p1), .val (.int p2), .val (.int p3), .val (.int (4 : Int32)), .val (.ref b1), .val (.ref bx23), .val (.ref b24), .unset] [])) tg := by
      intro tg kt
      refine XS.iloadN X33.here hx rfl (hb hby at_72) rfl ?_
      show Steps p.tables e below (T33.setTop (mkF m 73 #[.val (.int p1), .val (.int p2), .val (.int p3), .val (.int (4 : Int32)), .val (.ref b1), .val (.ref bx23), .val (.ref b24), .unset] [(.int (4 : Int32))])) _
      refine XS.ifNo X33.here hx rfl (hb hby at_73) rfl ((if0 _ _).trans (tlt (by decide : (0 : Int32) < (4 : Int32))).2.2.2) ?_
      show Steps p.tables e below (T33.setTop (mkF m 76 #[.val (.int p1), .val (.int p2), .val (.int p3), .val (.int (4 : Int32)), .val (.ref b1), .val (.ref bx23), .val (.ref b24), .unset] [])) _
      refine XS.aload X33.here hx rfl (hb hby at_76) rfl rfl ?_
      show Steps p.tables e below (T33.setTop (mkF m 78 #[.val (.int p1), .val (.int p2), .val (.int p3), .val (.int (4 : Int32)), .val (.ref b1), .val (.ref bx23), .val (.ref b24), .unset] [(.ref b24)])) _
      refine XS.aload X33.here hx rfl (hb hby at_78) rfl rfl ?_
      show Steps p.tables e below (T33.setTop (mkF m 80 #[.val (.int p1), .val (.int p2), .val (.int p3), .val (.int (4 : Int32)), .val (.ref b1), .val (.ref bx23), .val (.ref b24), .unset] [(.ref b1), (.ref b24)])) _
      refine XS.iconst X33.here hx rfl (hb hby at_80) ?_
      show Steps p.tables e below (T33.setTop (mkF m 81 #[.val (.int p1), .val (.int p2), .val (.int p3), .val (.int (4 : Int32)), .val (.ref b1), .val (.ref bx23), .val (.ref b24), .unset] [(.int (0 : Int32)), (.ref b1), (.ref b24)])) _
      refine X33.aaload hx (j := (0 : Int32)) (v := (.ref bx3)) (Ar135.1) (State.isArrayOf_alike hZ.alike Ar135.2.1) rfl Ar135.2.2 hin135 hat135 (g := (mkF m 81 #[.val (.int p1), .val (.int p2), .val (.int p3), .val (.int (4 : Int32)), .val (.ref b1), .val (.ref bx23), .val (.ref b24), .unset] [(.int (0 : Int32)), (.ref b1), (.ref b24)])) rfl rfl (hb hby at_81) _ ?_
      show Steps p.tables e below (T33.setTop (mkF m 82 #[.val (.int p1), .val (.int p2), .val (.int p3), .val (.int (4 : Int32)), .val (.ref b1), .val (.ref bx23), .val (.ref b24), .unset] [(.ref bx3), (.ref b24)])) _
      refine st138.trans ?_
      show Steps p.tables e below (T138.setTop (mkF m 85 #[.val (.int p1), .val (.int p2), .val (.int p3), .val (.int (4 : Int32)), .val (.ref b1), .val (.ref bx23), .val (.ref b24), .unset] [(.int (1 : Int32))])) _
      refine XS.pop X138.here hx rfl (hb hby at_85) rfl rfl ?_
      show Steps p.tables e below (T138.setTop (mkF m 86 #[.val (.int p1), .val (.int p2), .val (.int p3), .val (.int (4 : Int32)), .val (.ref b1), .val (.ref bx23), .val (.ref b24), .unset] [])) _
      refine XS.iloadN X138.here hx rfl (hb hby at_86) rfl ?_
      show Steps p.tables e below (T138.setTop (mkF m 87 #[.val (.int p1), .val (.int p2), .val (.int p3), .val (.int (4 : Int32)), .val (.ref b1), .val (.ref bx23), .val (.ref b24), .unset] [(.int (4 : Int32))])) _
      refine XS.iconst X138.here hx rfl (hb hby at_87) ?_
      show Steps p.tables e below (T138.setTop (mkF m 88 #[.val (.int p1), .val (.int p2), .val (.int p3), .val (.int (4 : Int32)), .val (.ref b1), .val (.ref bx23), .val (.ref b24), .unset] [(.int (1 : Int32)), (.int (4 : Int32))])) _
      refine XS.icmpNo X138.here hx rfl (hb hby at_88) rfl (tlt (by decide : (1 : Int32) < (4 : Int32))).2.2.2 ?_
      show Steps p.tables e below (T138.setTop (mkF m 91 #[.val (.int p1), .val (.int p2), .val (.int p3), .val (.int (4 : Int32)), .val (.ref b1), .val (.ref bx23), .val (.ref b24), .unset] [])) _
      refine XS.aload X138.here hx rfl (hb hby at_91) rfl rfl ?_
      show Steps p.tables e below (T138.setTop (mkF m 93 #[.val (.int p1), .val (.int p2), .val (.int p3), .val (.int (4 : Int32)), .val (.ref b1), .val (.ref bx23), .val (.ref b24), .unset] [(.ref b24)])) _
      refine XS.aload X138.here hx rfl (hb hby at_93) rfl rfl ?_
      show Steps p.tables e below (T138.setTop (mkF m 95 #[.val (.int p1), .val (.int p2), .val (.int p3), .val (.int (4 : Int32)), .val (.ref b1), .val (.ref bx23), .val (.ref b24), .unset] [(.ref b1), (.ref b24)])) _
      refine XS.iconst X138.here hx rfl (hb hby at_95) ?_
      show Steps p.tables e below (T138.setTop (mkF m 96 #[.val (.int p1), .val (.int p2), .val (.int p3), .val (.int (4 : Int32)), .val (.ref b1), .val (.ref bx23), .val (.ref b24), .unset] [(.int (1 : Int32)), (.ref b1), (.ref b24)])) _
      refine X138.aaload hx (j := (1 : Int32)) (v := (.ref bx7)) (Ar139.1) (State.isArrayOf_alike hZ.alike Ar139.2.1) rfl Ar139.2.2 hin139 hat139 (g := (mkF m 96 #[.val (.int p1), .val (.int p2), .val (.int p3), .val (.int (4 : Int32)), .val (.ref b1), .val (.ref bx23), .val (.ref b24), .unset] [(.int (1 : Int32)), (.ref b1), (.ref b24)])) rfl rfl (hb hby at_96) _ ?_
      show Steps p.tables e below (T138.setTop (mkF m 97 #[.val (.int p1), .val (.int p2), .val (.int p3), .val (.int (4 : Int32)), .val (.ref b1), .val (.ref bx23), .val (.ref b24), .unset] [(.ref bx7), (.ref b24)])) _
      refine st142.trans ?_
      show Steps p.tables e below (T142.setTop (mkF m 100 #[.val (.int p1), .val (.int p2), .val (.int p3), .val (.int (4 : Int32)), .val (.ref b1), .val (.ref bx23), .val (.ref b24), .unset] [(.int (1 : Int32))])) _
      refine XS.pop X142.here hx rfl (hb hby at_100) rfl rfl ?_
      show Steps p.tables e below (T142.setTop (mkF m 101 #[.val (.int p1), .val (.int p2), .val (.int p3), .val (.int (4 : Int32)), .val (.ref b1), .val (.ref bx23), .val (.ref b24), .unset] [])) _
      refine XS.iloadN X142.here hx rfl (hb hby at_101) rfl ?_
      show Steps p.tables e below (T142.setTop (mkF m 102 #[.val (.int p1), .val (.int p2), .val (.int p3), .val (.int (4 : Int32)), .val (.ref b1), .val (.ref bx23), .val (.ref b24), .unset] [(.int (4 : Int32))])) _
      refine XS.iconst X142.here hx rfl (hb hby at_102) ?_
      show Steps p.tables e below (T142.setTop (mkF m 103 #[.val (.int p1), .val (.int p2), .val (.int p3), .val (.int (4 : Int32)), .val (.ref b1), .val (.ref bx23), .val (.ref b24), .unset] [(.int (2 : Int32)), (.int (4 : Int32))])) _
      refine XS.icmpNo X142.here hx rfl (hb hby at_103) rfl (tlt (by decide : (2 : Int32) < (4 : Int32))).2.2.2 ?_
      show Steps p.tables e below (T142.setTop (mkF m 106 #[.val (.int p1), .val (.int p2), .val (.int p3), .val (.int (4 : Int32)), .val (.ref b1), .val (.ref bx23), .val (.ref b24), .unset] [])) _
      refine XS.aload X142.here hx rfl (hb hby at_106) rfl rfl ?_
      show Steps p.tables e below (T142.setTop (mkF m 108 #[.val (.int p1), .val (.int p2), .val (.int p3), .val (.int (4 : Int32)), .val (.ref b1), .val (.ref bx23), .val (.ref b24), .unset] [(.ref b24)])) _
      refine XS.aload X142.here hx rfl (hb hby at_108) rfl rfl ?_
      show Steps p.tables e below (T142.setTop (mkF m 110 #[.val (.int p1), .val (.int p2), .val (.int p3), .val (.int (4 : Int32)), .val (.ref b1), .val (.ref bx23), .val (.ref b24), .unset] [(.ref b1), (.ref b24)])) _
      refine XS.iconst X142.here hx rfl (hb hby at_110) ?_
      show Steps p.tables e below (T142.setTop (mkF m 111 #[.val (.int p1), .val (.int p2), .val (.int p3), .val (.int (4 : Int32)), .val (.ref b1), .val (.ref bx23), .val (.ref b24), .unset] [(.int (2 : Int32)), (.ref b1), (.ref b24)])) _
      refine X142.aaload hx (j := (2 : Int32)) (v := (.ref bx11)) (Ar143.1) (State.isArrayOf_alike hZ.alike Ar143.2.1) rfl Ar143.2.2 hin143 hat143 (g := (mkF m 111 #[.val (.int p1), .val (.int p2), .val (.int p3), .val (.int (4 : Int32)), .val (.ref b1), .val (.ref bx23), .val (.ref b24), .unset] [(.int (2 : Int32)), (.ref b1), (.ref b24)])) rfl rfl (hb hby at_111) _ ?_
      show Steps p.tables e below (T142.setTop (mkF m 112 #[.val (.int p1), .val (.int p2), .val (.int p3), .val (.int (4 : Int32)), .val (.ref b1), .val (.ref bx23), .val (.ref b24), .unset] [(.ref bx11), (.ref b24)])) _
      refine st146.trans ?_
      show Steps p.tables e below (T146.setTop (mkF m 115 #[.val (.int p1), .val (.int p2), .val (.int p3), .val (.int (4 : Int32)), .val (.ref b1), .val (.ref bx23), .val (.ref b24), .unset] [(.int (1 : Int32))])) _
      refine XS.pop X146.here hx rfl (hb hby at_115) rfl rfl ?_
      show Steps p.tables e below (T146.setTop (mkF m 116 #[.val (.int p1), .val (.int p2), .val (.int p3), .val (.int (4 : Int32)), .val (.ref b1), .val (.ref bx23), .val (.ref b24), .unset] [])) _
      refine XS.iloadN X146.here hx rfl (hb hby at_116) rfl ?_
      show Steps p.tables e below (T146.setTop (mkF m 117 #[.val (.int p1), .val (.int p2), .val (.int p3), .val (.int (4 : Int32)), .val (.ref b1), .val (.ref bx23), .val (.ref b24), .unset] [(.int (4 : Int32))])) _
      refine XS.iconst X146.here hx rfl (hb hby at_117) ?_
      show Steps p.tables e below (T146.setTop (mkF m 118 #[.val (.int p1), .val (.int p2), .val (.int p3), .val (.int (4 : Int32)), .val (.ref b1), .val (.ref bx23), .val (.ref b24), .unset] [(.int (3 : Int32)), (.int (4 : Int32))])) _
      refine XS.icmpNo X146.here hx rfl (hb hby at_118) rfl (tlt (by decide : (3 : Int32) < (4 : Int32))).2.2.2 ?_
      show Steps p.tables e below (T146.setTop (mkF m 121 #[.val (.int p1), .val (.int p2), .val (.int p3), .val (.int (4 : Int32)), .val (.ref b1), .val (.ref bx23), .val (.ref b24), .unset] [])) _
      refine XS.aload X146.here hx rfl (hb hby at_121) rfl rfl ?_
      show Steps p.tables e below (T146.setTop (mkF m 123 #[.val (.int p1), .val (.int p2), .val (.int p3), .val (.int (4 : Int32)), .val (.ref b1), .val (.ref bx23), .val (.ref b24), .unset] [(.ref b24)])) _
      refine XS.aload X146.here hx rfl (hb hby at_123) rfl rfl ?_
      show Steps p.tables e below (T146.setTop (mkF m 125 #[.val (.int p1), .val (.int p2), .val (.int p3), .val (.int (4 : Int32)), .val (.ref b1), .val (.ref bx23), .val (.ref b24), .unset] [(.ref b1), (.ref b24)])) _
      refine XS.iconst X146.here hx rfl (hb hby at_125) ?_
      show Steps p.tables e below (T146.setTop (mkF m 126 #[.val (.int p1), .val (.int p2), .val (.int p3), .val (.int (4 : Int32)), .val (.ref b1), .val (.ref bx23), .val (.ref b24), .unset] [(.int (3 : Int32)), (.ref b1), (.ref b24)])) _
      refine X146.aaload hx (j := (3 : Int32)) (v := (.ref bx15)) (Ar147.1) (State.isArrayOf_alike hZ.alike Ar147.2.1) rfl Ar147.2.2 hin147 hat147 (g := (mkF m 126 #[.val (.int p1), .val (.int p2), .val (.int p3), .val (.int (4 : Int32)), .val (.ref b1), .val (.ref bx23), .val (.ref b24), .unset] [(.int (3 : Int32)), (.ref b1), (.ref b24)])) rfl rfl (hb hby at_126) _ ?_
      show Steps p.tables e below (T146.setTop (mkF m 127 #[.val (.int p1), .val (.int p2), .val (.int p3), .val (.int (4 : Int32)), .val (.ref b1), .val (.ref bx23), .val (.ref b24), .unset] [(.ref bx15), (.ref b24)])) _
      refine st150.trans ?_
      show Steps p.tables e below (T150.setTop (mkF m 130 #[.val (.int p1), .val (.int p2), .val (.int p3), .val (.int (4 : Int32)), .val (.ref b1), .val (.ref bx23), .val (.ref b24), .unset] [(.int (1 : Int32))])) _
      refine XS.pop X150.here hx rfl (hb hby at_130) rfl rfl ?_
      show Steps p.tables e below (T150.setTop (mkF m 131 #[.val (.int p1), .val (.int p2), .val (.int p3), .val (.int (4 : Int32)), .val (.ref b1), .val (.ref bx23), .val (.ref b24), .unset] [])) _
      refine XS.iloadN X150.here hx rfl (hb hby at_131) rfl ?_
      show Steps p.tables e below (T150.setTop (mkF m 132 #[.val (.int p1), .val (.int p2), .val (.int p3), .val (.int (4 : Int32)), .val (.ref b1), .val (.ref bx23), .val (.ref b24), .unset] [(.int (4 : Int32))])) _
      refine XS.iconst X150.here hx rfl (hb hby at_132) ?_
      show Steps p.tables e below (T150.setTop (mkF m 133 #[.val (.int p1), .val (.int p2), .val (.int p3), .val (.int (4 : Int32)), .val (.ref b1), .val (.ref bx23), .val (.ref b24), .unset] [(.int (4 : Int32)), (.int (4 : Int32))])) _
      refine XS.icmpYes X150.here hx rfl (pc0 := 133) (pc' := 146) rfl (hb hby at_133) rfl (flt (by decide : ¬ ((4 : Int32) < (4 : Int32)))).2.2.2 (by decide) (by decide) ?_
      show Steps p.tables e below (T150.setTop (mkF m 146 #[.val (.int p1), .val (.int p2), .val (.int p3), .val (.int (4 : Int32)), .val (.ref b1), .val (.ref bx23), .val (.ref b24), .unset] [])) _
      refine XS.iloadN X150.here hx rfl (hb hby at_146) rfl ?_
      show Steps p.tables e below (T150.setTop (mkF m 147 #[.val (.int p1), .val (.int p2), .val (.int p3), .val (.int (4 : Int32)), .val (.ref b1), .val (.ref bx23), .val (.ref b24), .unset] [(.int (4 : Int32))])) _
      refine XS.ifYes X150.here hx rfl (pc0 := 147) (pc' := 164) rfl (hb hby at_147) rfl ((if0 _ _).trans (feq (by decide : ¬ ((4 : Int32) = (0 : Int32)))).2) (by decide) (by decide) ?_
      show Steps p.tables e below (T150.setTop (mkF m 164 #[.val (.int p1), .val (.int p2), .val (.int p3), .val (.int (4 : Int32)), .val (.ref b1), .val (.ref bx23), .val (.ref b24), .unset] [])) _
      refine XS.aload X150.here hx rfl (hb hby at_164) rfl rfl ?_
      show Steps p.tables e below (T150.setTop (mkF m 166 #[.val (.int p1), .val (.int p2), .val (.int p3), .val (.int (4 : Int32)), .val (.ref b1), .val (.ref bx23), .val (.ref b24), .unset] [(.ref b24)])) _
      refine st151.trans ?_
      show Steps p.tables e below (T151.setTop (mkF m 169 #[.val (.int p1), .val (.int p2), .val (.int p3), .val (.int (4 : Int32)), .val (.ref b1), .val (.ref bx23), .val (.ref b24), .unset] [(.ref bx15)])) _
      refine XS.aload X151.here hx rfl (hb hby at_169) rfl rfl ?_
      show Steps p.tables e below (T151.setTop (mkF m 171 #[.val (.int p1), .val (.int p2), .val (.int p3), .val (.int (4 : Int32)), .val (.ref b1), .val (.ref bx23), .val (.ref b24), .unset] [(.ref b1), (.ref bx15)])) _
      refine XS.iloadN X151.here hx rfl (hb hby at_171) rfl ?_
      show Steps p.tables e below (T151.setTop (mkF m 172 #[.val (.int p1), .val (.int p2), .val (.int p3), .val (.int (4 : Int32)), .val (.ref b1), .val (.ref bx23), .val (.ref b24), .unset] [(.int (4 : Int32)), (.ref b1), (.ref bx15)])) _
      refine XS.iconst X151.here hx rfl (hb hby at_172) ?_
      show Steps p.tables e below (T151.setTop (mkF m 173 #[.val (.int p1), .val (.int p2), .val (.int p3), .val (.int (4 : Int32)), .val (.ref b1), .val (.ref bx23), .val (.ref b24), .unset] [(.int (1 : Int32)), (.int (4 : Int32)), (.ref b1), (.ref bx15)])) _
      refine XS.isub X151.here hx rfl (hb hby at_173) rfl ?_
      show Steps p.tables e below (T151.setTop (mkF m 174 #[.val (.int p1), .val (.int p2), .val (.int p3), .val (.int (4 : Int32)), .val (.ref b1), .val (.ref bx23), .val (.ref b24), .unset] [(.int ((4 : Int32) - (1 : Int32))), (.ref b1), (.ref bx15)])) _
      exact kt
    have R153 : ∀ tg, Steps p.tables e below (T151.setTop (mkF m 174 #[.val (.int p1), .val (.int p2), .val (.int p3), .val (.int (4 : Int32)), .val (.ref b1), .val (.ref bx23), .val (.ref b24), .unset] [(.int (3 : Int32)), (.ref b1), (.ref bx15)])) tg → Steps p.tables e below (T151.setTop (mkF m 174 #[.val (.int p1), .val (.int p2), .val (.int p3), .val (.int (4 : Int32)), .val (.ref b1), .val (.ref bx23), .val (.ref b24), .unset] [(.int ((4 : Int32) - (1 : Int32))), (.ref b1), (.ref bx15)])) tg := fun tg kt => by rw [(by decide : ((4 : Int32) - (1 : Int32)) = (3 : Int32))]; exact kt
    have f155 := ((f148.keep kp150 (ninS ne_b1_b24 (ninS nes_c33 (ninS nes_e33 nin0)))).keep kp151 (ninS ne_b1_b24 (ninS nes_c33 (ninS nes_e33 nin0))))
    obtain ⟨cl154, Ar154, q154, Sz154, Nn154, Ha154, Ga154⟩ := id f155
    have hin154 : ¬ ((3 : Int32) < 0 ∨ cl154.slots.size ≤ ((3 : Int32)).toNatClampNeg) := inb_of Sz154 ⟨by decide, by decide⟩
    have hat154 : cl154.slots[((3 : Int32)).toNatClampNeg]? = some (.ref bx15) := Ha154.at hin154 rfl
    have f156 := (((((((EB23.ext E24).keep kp33).keep kp138).keep kp142).keep kp146).keep kp150).keep kp151)
    obtain ⟨cq157, kq157, q157a, q157b, q157c⟩ := isOf hZ rfl hC151'.1
    obtain ⟨_, _, ⟨T157, L157, k157, n157⟩, -, X157, ⟨Lc157, hQ157, l157, y157, z157⟩, st157⟩ := X151.virtualBack hx (y := (⟨"com/example/anchored_threads/anchoredthreads/internal/ChunkedList", "add", "(Ljava/lang/Object;)Z"⟩ : MethodName)) (z := (⟨"com/example/anchored_threads/anchoredthreads/internal/ChunkedList", "add", "(Ljava/lang/Object;)Z"⟩ : MethodName)) hown (mvT hZ (hw _ (List.mem_of_getElem? (i := 47) rfl))) (mvT hZ (hw _ (List.mem_of_getElem? (i := 48) rfl))) (notFace_of_selects (args := #[]) (mvT hZ (hw _ (List.mem_of_getElem? (i := 50) rfl)))) (mvT hZ (hw _ (List.mem_of_getElem? (i := 50) rfl))) (mvT hZ (hw _ (List.mem_of_getElem? (i := 49) rfl))) (by decide) (backOf (W := 0) (rmAd l Z a0 hw [] b24 bx23 ch33 ea33 kc33 ke33 (3 : Int32) mc151 (4 : Int32) [(.ref bx3), (.ref bx7), (.ref bx11), .null] 3 T151.heap n0 Z151 hC151' f156 (by decide) (by decide) (by decide) ⟨by decide, by decide⟩ rfl (Nat.le_of_ble_eq_true rfl)) hZ (hw _ (List.mem_of_getElem? (i := 51) rfl)) (hw _ (List.mem_of_getElem? (i := 13) rfl)) (by decide) (by decide)) q157a q157c (g := (mkF m 189 #[.val (.int p1), .val (.int p2), .val (.int p3), .val (.int (4 : Int32)), .val (.ref b1), .val (.ref bx23), .val (.ref b24), .val (.int (1 : Int32))] [(.ref bx23), (.ref b24)])) rfl (by rw [hml]; rfl) (Steps.refl _) (argsL := [(.ref bx23)]) (rest := []) (lenOf pd_5 rfl) rfl (by show 2 * 0 + _ ≤ _; exact Nat.le_of_eq rfl) (hb hby at_189) (fun _ _ => ⟨rfl, rfl, (by decide : 10 + 0 ≤ _), (by decide : 19 + 0 ≤ _)⟩)
    dsimp only [Pt.U, Pt.locs, Pt.cells, Pt.slots] at X157 l157 y157 z157 st157 hQ157
    subst l157 y157 z157
    obtain ⟨hv157, N157q, kp157, mc157, hC157⟩ := hQ157
    subst hv157
    have N157 := Fr.app N151 N157q
    have Z157 : n0 ≤ T157.heap.size := Nat.le_trans Z151 kp157.1
    have hC157' : CLs Z n0 T157.heap b24 ch33 ea33 kc33 ke33 (4 : Int32) mc157 (4 : Int32) [(.ref bx3), (.ref bx7), (.ref bx11), (.ref bx23)] := by
      have q := hC157
      rw [show ((3 : Int32) + 1) = (4 : Int32) from by decide] at q
      exact q
    obtain ⟨cq158, kq158, q158a, q158b, q158c⟩ := isOf hZ rfl hC157'.1
    obtain ⟨_, _, ⟨T158, L158, k158, n158⟩, -, X158, ⟨Lc158, hQ158, l158, y158, z158⟩, st158⟩ := X157.virtualBack hx (y := (⟨"com/example/anchored_threads/anchoredthreads/internal/ChunkedList", "removeLast", "()Ljava/lang/Object;"⟩ : MethodName)) (z := (⟨"com/example/anchored_threads/anchoredthreads/internal/ChunkedList", "removeLast", "()Ljava/lang/Object;"⟩ : MethodName)) hown (mvT hZ (hw _ (List.mem_of_getElem? (i := 55) rfl))) (mvT hZ (hw _ (List.mem_of_getElem? (i := 56) rfl))) (notFace_of_selects (args := #[]) (mvT hZ (hw _ (List.mem_of_getElem? (i := 58) rfl)))) (mvT hZ (hw _ (List.mem_of_getElem? (i := 58) rfl))) (mvT hZ (hw _ (List.mem_of_getElem? (i := 57) rfl))) (by decide) (backOf (W := 1) (rmRl l Z a0 hw [] b24 ch33 ea33 kc33 ke33 (4 : Int32) mc157 (4 : Int32) (3 : Int32) [(.ref bx3), (.ref bx7), (.ref bx11), (.ref bx23)] 3 bx23 T157.heap n0 Z157 hC157' (by decide) (by decide) (by decide) (by decide) ⟨by decide, by decide⟩ rfl (Nat.le_of_ble_eq_true rfl) rfl) hZ (hw _ (List.mem_of_getElem? (i := 59) rfl)) (hw _ (List.mem_of_getElem? (i := 13) rfl)) (by decide) (by decide)) q158a q158c (g := (mkF m 197 #[.val (.int p1), .val (.int p2), .val (.int p3), .val (.int (4 : Int32)), .val (.ref b1), .val (.ref bx23), .val (.ref b24), .val (.int (1 : Int32))] [(.ref b24), (.int (1 : Int32))])) rfl (by rw [hml]; rfl) (Steps.refl _) (argsL := []) (rest := [(.int (1 : Int32))]) (lenOf pd_6 rfl) rfl (by show 2 * 0 + _ ≤ _; exact Nat.le_of_eq rfl) (hb hby at_197) (fun _ _ => ⟨rfl, rfl, (by decide : 10 + 0 ≤ _), (by decide : 19 + 0 ≤ _)⟩)
    dsimp only [Pt.U, Pt.locs, Pt.cells, Pt.slots] at X158 l158 y158 z158 st158 hQ158
    subst l158 y158 z158
    obtain ⟨hv158, N158q, kp158, mc158, hC158⟩ := hQ158
    subst hv158
    have N158 := Fr.app N157 N158q
    have Z158 : n0 ≤ T158.heap.size := Nat.le_trans Z157 kp158.1
    have hC158' : CLs Z n0 T158.heap b24 ch33 ea33 kc33 ke33 (3 : Int32) mc158 (4 : Int32) [(.ref bx3), (.ref bx7), (.ref bx11), .null] := hC158
    have R159 : ∀ tg, Steps p.tables e below (T158.setTop (mkF m 211 #[.val (.int p1), .val (.int p2), .val (.int p3), .val (.int (4 : Int32)), .val (.ref b1), .val (.ref bx23), .val (.ref b24), .val (.int (1 : Int32))] [(.int ((1 : Int32) &&& (1 : Int32)))])) tg → Steps p.tables e below (T151.setTop (mkF m 174 #[.val (.int p1), .val (.int p2), .val (.int p3), .val (.int (4 : Int32)), .val (.ref b1), .val (.ref bx23), .val (.ref b24), .unset] [(.int (3 : Int32)), (.ref b1), (.ref bx15)])) tg := by
      intro tg kt
      refine X151.aaload hx (j := (3 : Int32)) (v := (.ref bx15)) (Ar154.1) (State.isArrayOf_alike hZ.alike Ar154.2.1) rfl Ar154.2.2 hin154 hat154 (g := (mkF m 174 #[.val (.int p1), .val (.int p2), .val (.int p3), .val (.int (4 : Int32)), .val (.ref b1), .val (.ref bx23), .val (.ref b24), .unset] [(.int (3 : Int32)), (.ref b1), (.ref bx15)])) rfl rfl (hb hby at_174) _ ?_
      show Steps p.tables e below (T151.setTop (mkF m 175 #[.val (.int p1), .val (.int p2), .val (.int p3), .val (.int (4 : Int32)), .val (.ref b1), .val (.ref bx23), .val (.ref b24), .unset] [(.ref bx15), (.ref bx15)])) _
      refine Jvm.RoadKit.acmp (g := (mkF m 175 #[.val (.int p1), .val (.int p2), .val (.int p3), .val (.int (4 : Int32)), .val (.ref b1), .val (.ref bx23), .val (.ref b24), .unset] [(.ref bx15), (.ref bx15)])) X151 hx rfl rfl rfl (pc0 := 175) (pc' := 178) (same := true) rfl (hb hby at_175) rfl (decide_eq_true rfl) (by decide) (by decide) ?_
      show Steps p.tables e below (T151.setTop (mkF m 178 #[.val (.int p1), .val (.int p2), .val (.int p3), .val (.int (4 : Int32)), .val (.ref b1), .val (.ref bx23), .val (.ref b24), .unset] [])) _
      refine XS.iconst X151.here hx rfl (hb hby at_178) ?_
      show Steps p.tables e below (T151.setTop (mkF m 179 #[.val (.int p1), .val (.int p2), .val (.int p3), .val (.int (4 : Int32)), .val (.ref b1), .val (.ref bx23), .val (.ref b24), .unset] [(.int (1 : Int32))])) _
      refine XS.goto X151.here hx rfl (pc0 := 179) (pc' := 183) rfl (hb hby at_179) (by decide) (by decide) ?_
      show Steps p.tables e below (T151.setTop (mkF m 183 #[.val (.int p1), .val (.int p2), .val (.int p3), .val (.int (4 : Int32)), .val (.ref b1), .val (.ref bx23), .val (.ref b24), .unset] [(.int (1 : Int32))])) _
      refine XS.istore X151.here hx rfl (hb hby at_183) rfl (l' := #[.val (.int p1), .val (.int p2), .val (.int p3), .val (.int (4 : Int32)), .val (.ref b1), .val (.ref bx23), .val (.ref b24), .val (.int (1 : Int32))]) rfl ?_
      show Steps p.tables e below (T151.setTop (mkF m 185 #[.val (.int p1), .val (.int p2), .val (.int p3), .val (.int (4 : Int32)), .val (.ref b1), .val (.ref bx23), .val (.ref b24), .val (.int (1 : Int32))] [])) _
      refine XS.aload X151.here hx rfl (hb hby at_185) rfl rfl ?_
      show Steps p.tables e below (T151.setTop (mkF m 187 #[.val (.int p1), .val (.int p2), .val (.int p3), .val (.int (4 : Int32)), .val (.ref b1), .val (.ref bx23), .val (.ref b24), .val (.int (1 : Int32))] [(.ref b24)])) _
      refine XS.aload X151.here hx rfl (hb hby at_187) rfl rfl ?_
      show Steps p.tables e below (T151.setTop (mkF m 189 #[.val (.int p1), .val (.int p2), .val (.int p3), .val (.int (4 : Int32)), .val (.ref b1), .val (.ref bx23), .val (.ref b24), .val (.int (1 : Int32))] [(.ref bx23), (.ref b24)])) _
      refine st157.trans ?_
      show Steps p.tables e below (T157.setTop (mkF m 192 #[.val (.int p1), .val (.int p2), .val (.int p3), .val (.int (4 : Int32)), .val (.ref b1), .val (.ref bx23), .val (.ref b24), .val (.int (1 : Int32))] [(.int (1 : Int32))])) _
      refine XS.pop X157.here hx rfl (hb hby at_192) rfl rfl ?_
      show Steps p.tables e below (T157.setTop (mkF m 193 #[.val (.int p1), .val (.int p2), .val (.int p3), .val (.int (4 : Int32)), .val (.ref b1), .val (.ref bx23), .val (.ref b24), .val (.int (1 : Int32))] [])) _
      refine XS.iload X157.here hx rfl (hb hby at_193) rfl ?_
      show Steps p.tables e below (T157.setTop (mkF m 195 #[.val (.int p1), .val (.int p2), .val (.int p3), .val (.int (4 : Int32)), .val (.ref b1), .val (.ref bx23), .val (.ref b24), .val (.int (1 : Int32))] [(.int (1 : Int32))])) _
      refine XS.aload X157.here hx rfl (hb hby at_195) rfl rfl ?_
      show Steps p.tables e below (T157.setTop (mkF m 197 #[.val (.int p1), .val (.int p2), .val (.int p3), .val (.int (4 : Int32)), .val (.ref b1), .val (.ref bx23), .val (.ref b24), .val (.int (1 : Int32))] [(.ref b24), (.int (1 : Int32))])) _
      refine st158.trans ?_
      show Steps p.tables e below (T158.setTop (mkF m 200 #[.val (.int p1), .val (.int p2), .val (.int p3), .val (.int (4 : Int32)), .val (.ref b1), .val (.ref bx23), .val (.ref b24), .val (.int (1 : Int32))] [(.ref bx23), (.int (1 : Int32))])) _
      refine XS.aload X158.here hx rfl (hb hby at_200) rfl rfl ?_
      show Steps p.tables e below (T158.setTop (mkF m 202 #[.val (.int p1), .val (.int p2), .val (.int p3), .val (.int (4 : Int32)), .val (.ref b1), .val (.ref bx23), .val (.ref b24), .val (.int (1 : Int32))] [(.ref bx23), (.ref bx23), (.int (1 : Int32))])) _
      refine Jvm.RoadKit.acmp (g := (mkF m 202 #[.val (.int p1), .val (.int p2), .val (.int p3), .val (.int (4 : Int32)), .val (.ref b1), .val (.ref bx23), .val (.ref b24), .val (.int (1 : Int32))] [(.ref bx23), (.ref bx23), (.int (1 : Int32))])) X158 hx rfl rfl rfl (pc0 := 202) (pc' := 205) (same := true) rfl (hb hby at_202) rfl (decide_eq_true rfl) (by decide) (by decide) ?_
      show Steps p.tables e below (T158.setTop (mkF m 205 #[.val (.int p1), .val (.int p2), .val (.int p3), .val (.int (4 : Int32)), .val (.ref b1), .val (.ref bx23), .val (.ref b24), .val (.int (1 : Int32))] [(.int (1 : Int32))])) _
      refine XS.iconst X158.here hx rfl (hb hby at_205) ?_
      show Steps p.tables e below (T158.setTop (mkF m 206 #[.val (.int p1), .val (.int p2), .val (.int p3), .val (.int (4 : Int32)), .val (.ref b1), .val (.ref bx23), .val (.ref b24), .val (.int (1 : Int32))] [(.int (1 : Int32)), (.int (1 : Int32))])) _
      refine XS.goto X158.here hx rfl (pc0 := 206) (pc' := 210) rfl (hb hby at_206) (by decide) (by decide) ?_
      show Steps p.tables e below (T158.setTop (mkF m 210 #[.val (.int p1), .val (.int p2), .val (.int p3), .val (.int (4 : Int32)), .val (.ref b1), .val (.ref bx23), .val (.ref b24), .val (.int (1 : Int32))] [(.int (1 : Int32)), (.int (1 : Int32))])) _
      refine XS.iand X158.here hx rfl (hb hby at_210) rfl ?_
      show Steps p.tables e below (T158.setTop (mkF m 211 #[.val (.int p1), .val (.int p2), .val (.int p3), .val (.int (4 : Int32)), .val (.ref b1), .val (.ref bx23), .val (.ref b24), .val (.int (1 : Int32))] [(.int ((1 : Int32) &&& (1 : Int32)))])) _
      exact kt
    have R160 : ∀ tg, Steps p.tables e below (T158.setTop (mkF m 211 #[.val (.int p1), .val (.int p2), .val (.int p3), .val (.int (4 : Int32)), .val (.ref b1), .val (.ref bx23), .val (.ref b24), .val (.int (1 : Int32))] [(.int (1 : Int32))])) tg → Steps p.tables e below (T158.setTop (mkF m 211 #[.val (.int p1), .val (.int p2), .val (.int p3), .val (.int (4 : Int32)), .val (.ref b1), .val (.ref bx23), .val (.ref b24), .val (.int (1 : Int32))] [(.int ((1 : Int32) &&& (1 : Int32)))])) tg := fun tg kt => by rw [(by decide : ((1 : Int32) &&& (1 : Int32)) = (1 : Int32))]; exact kt
    obtain ⟨cq161, kq161, q161a, q161b, q161c⟩ := isOf hZ rfl hC158'.1
    obtain ⟨_, _, ⟨T161, L161, k161, n161⟩, -, X161, ⟨Lc161, hQ161, l161, y161, z161⟩, st161⟩ := X158.virtualBack hx (y := (⟨"com/example/anchored_threads/anchoredthreads/internal/ChunkedList", "size", "()I"⟩ : MethodName)) (z := (⟨"com/example/anchored_threads/anchoredthreads/internal/ChunkedList", "size", "()I"⟩ : MethodName)) hown (mvT hZ (hw _ (List.mem_of_getElem? (i := 40) rfl))) (mvT hZ (hw _ (List.mem_of_getElem? (i := 41) rfl))) (notFace_of_selects (args := #[]) (mvT hZ (hw _ (List.mem_of_getElem? (i := 43) rfl)))) (mvT hZ (hw _ (List.mem_of_getElem? (i := 43) rfl))) (mvT hZ (hw _ (List.mem_of_getElem? (i := 42) rfl))) (by decide) (backOf (W := 1) (rmSz l Z a0 hw [] b24 (3 : Int32) T158.heap n0 Z158 hC158'.2.1) hZ (hw _ (List.mem_of_getElem? (i := 44) rfl)) (hw _ (List.mem_of_getElem? (i := 13) rfl)) (by decide) (by decide)) q161a q161c (g := (mkF m 217 #[.val (.int p1), .val (.int p2), .val (.int p3), .val (.int (4 : Int32)), .val (.ref b1), .val (.ref bx23), .val (.ref b24), .val (.int (1 : Int32))] [(.ref b24), (.int (1 : Int32))])) rfl (by rw [hml]; rfl) (Steps.refl _) (argsL := []) (rest := [(.int (1 : Int32))]) (lenOf pd_4 rfl) rfl (by show 2 * 0 + _ ≤ _; exact Nat.le_of_eq rfl) (hb hby at_217) (fun _ _ => ⟨rfl, rfl, (by decide : 10 + 0 ≤ _), (by decide : 19 + 0 ≤ _)⟩)
    dsimp only [Pt.U, Pt.locs, Pt.cells, Pt.slots] at X161 l161 y161 z161 st161 hQ161
    subst l161 y161 z161
    obtain ⟨hv161, N161q, r161⟩ := hQ161
    subst hv161
    have N161 := Fr.app N158 N161q
    have R162 : ∀ tg, Steps p.tables e below (T161.setTop (mkF m 223 #[.val (.int p1), .val (.int p2), .val (.int p3), .val (.int (4 : Int32)), .val (.ref b1), .val (.ref bx23), .val (.ref b24), .val (.int (1 : Int32))] [(.int ((4 : Int32) - (1 : Int32))), (.int (3 : Int32)), (.int (1 : Int32))])) tg → Steps p.tables e below (T158.setTop (mkF m 211 #[.val (.int p1), .val (.int p2), .val (.int p3), .val (.int (4 : Int32)), .val (.ref b1), .val (.ref bx23), .val (.ref b24), .val (.int (1 : Int32))] [(.int (1 : Int32))])) tg := by
      intro tg kt
      refine XS.istore X158.here hx rfl (hb hby at_211) rfl (l' := #[.val (.int p1), .val (.int p2), .val (.int p3), .val (.int (4 : Int32)), .val (.ref b1), .val (.ref bx23), .val (.ref b24), .val (.int (1 : Int32))]) rfl ?_
      show Steps p.tables e below (T158.setTop (mkF m 213 #[.val (.int p1), .val (.int p2), .val (.int p3), .val (.int (4 : Int32)), .val (.ref b1), .val (.ref bx23), .val (.ref b24), .val (.int (1 : Int32))] [])) _
      refine XS.iload X158.here hx rfl (hb hby at_213) rfl ?_
      show Steps p.tables e below (T158.setTop (mkF m 215 #[.val (.int p1), .val (.int p2), .val (.int p3), .val (.int (4 : Int32)), .val (.ref b1), .val (.ref bx23), .val (.ref b24), .val (.int (1 : Int32))] [(.int (1 : Int32))])) _
      refine XS.aload X158.here hx rfl (hb hby at_215) rfl rfl ?_
      show Steps p.tables e below (T158.setTop (mkF m 217 #[.val (.int p1), .val (.int p2), .val (.int p3), .val (.int (4 : Int32)), .val (.ref b1), .val (.ref bx23), .val (.ref b24), .val (.int (1 : Int32))] [(.ref b24), (.int (1 : Int32))])) _
      refine st161.trans ?_
      show Steps p.tables e below (T161.setTop (mkF m 220 #[.val (.int p1), .val (.int p2), .val (.int p3), .val (.int (4 : Int32)), .val (.ref b1), .val (.ref bx23), .val (.ref b24), .val (.int (1 : Int32))] [(.int (3 : Int32)), (.int (1 : Int32))])) _
      refine XS.iloadN X161.here hx rfl (hb hby at_220) rfl ?_
      show Steps p.tables e below (T161.setTop (mkF m 221 #[.val (.int p1), .val (.int p2), .val (.int p3), .val (.int (4 : Int32)), .val (.ref b1), .val (.ref bx23), .val (.ref b24), .val (.int (1 : Int32))] [(.int (4 : Int32)), (.int (3 : Int32)), (.int (1 : Int32))])) _
      refine XS.iconst X161.here hx rfl (hb hby at_221) ?_
      show Steps p.tables e below (T161.setTop (mkF m 222 #[.val (.int p1), .val (.int p2), .val (.int p3), .val (.int (4 : Int32)), .val (.ref b1), .val (.ref bx23), .val (.ref b24), .val (.int (1 : Int32))] [(.int (1 : Int32)), (.int (4 : Int32)), (.int (3 : Int32)), (.int (1 : Int32))])) _
      refine XS.isub X161.here hx rfl (hb hby at_222) rfl ?_
      show Steps p.tables e below (T161.setTop (mkF m 223 #[.val (.int p1), .val (.int p2), .val (.int p3), .val (.int (4 : Int32)), .val (.ref b1), .val (.ref bx23), .val (.ref b24), .val (.int (1 : Int32))] [(.int ((4 : Int32) - (1 : Int32))), (.int (3 : Int32)), (.int (1 : Int32))])) _
      exact kt
    have R163 : ∀ tg, Steps p.tables e below (T161.setTop (mkF m 223 #[.val (.int p1), .val (.int p2), .val (.int p3), .val (.int (4 : Int32)), .val (.ref b1), .val (.ref bx23), .val (.ref b24), .val (.int (1 : Int32))] [(.int (3 : Int32)), (.int (3 : Int32)), (.int (1 : Int32))])) tg → Steps p.tables e below (T161.setTop (mkF m 223 #[.val (.int p1), .val (.int p2), .val (.int p3), .val (.int (4 : Int32)), .val (.ref b1), .val (.ref bx23), .val (.ref b24), .val (.int (1 : Int32))] [(.int ((4 : Int32) - (1 : Int32))), (.int (3 : Int32)), (.int (1 : Int32))])) tg := fun tg kt => by rw [(by decide : ((4 : Int32) - (1 : Int32)) = (3 : Int32))]; exact kt
    have R164 : ∀ tg, Steps p.tables e below (T161.setTop (mkF m 232 #[.val (.int p1), .val (.int p2), .val (.int p3), .val (.int (4 : Int32)), .val (.ref b1), .val (.ref bx23), .val (.ref b24), .val (.int (1 : Int32))] [(.int ((1 : Int32) &&& (1 : Int32)))])) tg → Steps p.tables e below (T161.setTop (mkF m 223 #[.val (.int p1), .val (.int p2), .val (.int p3), .val (.int (4 : Int32)), .val (.ref b1), .val (.ref bx23), .val (.ref b24), .val (.int (1 : Int32))] [(.int (3 : Int32)), (.int (3 : Int32)), (.int (1 : Int32))])) tg := by
      intro tg kt
      refine XS.icmpNo X161.here hx rfl (hb hby at_223) rfl (teq (by decide : (3 : Int32) = (3 : Int32))).2 ?_
      show Steps p.tables e below (T161.setTop (mkF m 226 #[.val (.int p1), .val (.int p2), .val (.int p3), .val (.int (4 : Int32)), .val (.ref b1), .val (.ref bx23), .val (.ref b24), .val (.int (1 : Int32))] [(.int (1 : Int32))])) _
      refine XS.iconst X161.here hx rfl (hb hby at_226) ?_
      show Steps p.tables e below (T161.setTop (mkF m 227 #[.val (.int p1), .val (.int p2), .val (.int p3), .val (.int (4 : Int32)), .val (.ref b1), .val (.ref bx23), .val (.ref b24), .val (.int (1 : Int32))] [(.int (1 : Int32)), (.int (1 : Int32))])) _
      refine XS.goto X161.here hx rfl (pc0 := 227) (pc' := 231) rfl (hb hby at_227) (by decide) (by decide) ?_
      show Steps p.tables e below (T161.setTop (mkF m 231 #[.val (.int p1), .val (.int p2), .val (.int p3), .val (.int (4 : Int32)), .val (.ref b1), .val (.ref bx23), .val (.ref b24), .val (.int (1 : Int32))] [(.int (1 : Int32)), (.int (1 : Int32))])) _
      refine XS.iand X161.here hx rfl (hb hby at_231) rfl ?_
      show Steps p.tables e below (T161.setTop (mkF m 232 #[.val (.int p1), .val (.int p2), .val (.int p3), .val (.int (4 : Int32)), .val (.ref b1), .val (.ref bx23), .val (.ref b24), .val (.int (1 : Int32))] [(.int ((1 : Int32) &&& (1 : Int32)))])) _
      exact kt
    have R165 : ∀ tg, Steps p.tables e below (T161.setTop (mkF m 232 #[.val (.int p1), .val (.int p2), .val (.int p3), .val (.int (4 : Int32)), .val (.ref b1), .val (.ref bx23), .val (.ref b24), .val (.int (1 : Int32))] [(.int (1 : Int32))])) tg → Steps p.tables e below (T161.setTop (mkF m 232 #[.val (.int p1), .val (.int p2), .val (.int p3), .val (.int (4 : Int32)), .val (.ref b1), .val (.ref bx23), .val (.ref b24), .val (.int (1 : Int32))] [(.int ((1 : Int32) &&& (1 : Int32)))])) tg := fun tg kt => by rw [(by decide : ((1 : Int32) &&& (1 : Int32)) = (1 : Int32))]; exact kt
    obtain ⟨cq166, kq166, q166a, q166b, q166c⟩ := isOf hZ r161 hC158'.1
    obtain ⟨_, _, ⟨T166, L166, k166, n166⟩, -, X166, ⟨Lc166, hQ166, l166, y166, z166⟩, st166⟩ := X161.virtualBack hx (y := (⟨"com/example/anchored_threads/anchoredthreads/internal/ChunkedList", "removeLast", "()Ljava/lang/Object;"⟩ : MethodName)) (z := (⟨"com/example/anchored_threads/anchoredthreads/internal/ChunkedList", "removeLast", "()Ljava/lang/Object;"⟩ : MethodName)) hown (mvT hZ (hw _ (List.mem_of_getElem? (i := 55) rfl))) (mvT hZ (hw _ (List.mem_of_getElem? (i := 56) rfl))) (notFace_of_selects (args := #[]) (mvT hZ (hw _ (List.mem_of_getElem? (i := 58) rfl)))) (mvT hZ (hw _ (List.mem_of_getElem? (i := 58) rfl))) (mvT hZ (hw _ (List.mem_of_getElem? (i := 57) rfl))) (by decide) (backOf (W := 1) (rmRl l Z a0 hw [] b24 ch33 ea33 kc33 ke33 (3 : Int32) mc158 (4 : Int32) (2 : Int32) [(.ref bx3), (.ref bx7), (.ref bx11), .null] 2 bx11 T158.heap n0 Z158 hC158' (by decide) (by decide) (by decide) (by decide) ⟨by decide, by decide⟩ rfl (Nat.le_of_ble_eq_true rfl) rfl) hZ (hw _ (List.mem_of_getElem? (i := 59) rfl)) (hw _ (List.mem_of_getElem? (i := 13) rfl)) (by decide) (by decide)) q166a q166c (g := (mkF m 243 #[.val (.int p1), .val (.int p2), .val (.int p3), .val (.int (4 : Int32)), .val (.ref b1), .val (.ref bx23), .val (.ref b24), .val (.int (1 : Int32))] [(.ref b24), (.int (1 : Int32))])) rfl (by rw [hml]; rfl) (Steps.refl _) (argsL := []) (rest := [(.int (1 : Int32))]) (lenOf pd_6 rfl) rfl (by show 2 * 0 + _ ≤ _; exact Nat.le_of_eq rfl) (hb hby at_243) (fun _ _ => ⟨rfl, r161, (by decide : 10 + 0 ≤ _), (by decide : 19 + 0 ≤ _)⟩)
    dsimp only [Pt.U, Pt.locs, Pt.cells, Pt.slots] at X166 l166 y166 z166 st166 hQ166
    subst l166 y166 z166
    obtain ⟨hv166, N166q, kp166, mc166, hC166⟩ := hQ166
    subst hv166
    have N166 := Fr.app N161 N166q
    have Z166 : n0 ≤ T166.heap.size := Nat.le_trans Z158 kp166.1
    have hC166' : CLs Z n0 T166.heap b24 ch33 ea33 kc33 ke33 (2 : Int32) mc166 (4 : Int32) [(.ref bx3), (.ref bx7), .null, .null] := hC166
    have R167 : ∀ tg, Steps p.tables e below (T166.setTop (mkF m 251 #[.val (.int p1), .val (.int p2), .val (.int p3), .val (.int (4 : Int32)), .val (.ref b1), .val (.ref bx23), .val (.ref b24), .val (.int (1 : Int32))] [(.int ((4 : Int32) - (2 : Int32))), (.ref b1), (.ref bx11), (.int (1 : Int32))])) tg → Steps p.tables e below (T161.setTop (mkF m 232 #[.val (.int p1), .val (.int p2), .val (.int p3), .val (.int (4 : Int32)), .val (.ref b1), .val (.ref bx23), .val (.ref b24), .val (.int (1 : Int32))] [(.int (1 : Int32))])) tg := by
      intro tg kt
      refine XS.istore X161.here hx rfl (hb hby at_232) rfl (l' := #[.val (.int p1), .val (.int p2), .val (.int p3), .val (.int (4 : Int32)), .val (.ref b1), .val (.ref bx23), .val (.ref b24), .val (.int (1 : Int32))]) rfl ?_
      show Steps p.tables e below (T161.setTop (mkF m 234 #[.val (.int p1), .val (.int p2), .val (.int p3), .val (.int (4 : Int32)), .val (.ref b1), .val (.ref bx23), .val (.ref b24), .val (.int (1 : Int32))] [])) _
      refine XS.iloadN X161.here hx rfl (hb hby at_234) rfl ?_
      show Steps p.tables e below (T161.setTop (mkF m 235 #[.val (.int p1), .val (.int p2), .val (.int p3), .val (.int (4 : Int32)), .val (.ref b1), .val (.ref bx23), .val (.ref b24), .val (.int (1 : Int32))] [(.int (4 : Int32))])) _
      refine XS.iconst X161.here hx rfl (hb hby at_235) ?_
      show Steps p.tables e below (T161.setTop (mkF m 236 #[.val (.int p1), .val (.int p2), .val (.int p3), .val (.int (4 : Int32)), .val (.ref b1), .val (.ref bx23), .val (.ref b24), .val (.int (1 : Int32))] [(.int (2 : Int32)), (.int (4 : Int32))])) _
      refine XS.icmpNo X161.here hx rfl (hb hby at_236) rfl (flt (by decide : ¬ ((4 : Int32) < (2 : Int32)))).1 ?_
      show Steps p.tables e below (T161.setTop (mkF m 239 #[.val (.int p1), .val (.int p2), .val (.int p3), .val (.int (4 : Int32)), .val (.ref b1), .val (.ref bx23), .val (.ref b24), .val (.int (1 : Int32))] [])) _
      refine XS.iload X161.here hx rfl (hb hby at_239) rfl ?_
      show Steps p.tables e below (T161.setTop (mkF m 241 #[.val (.int p1), .val (.int p2), .val (.int p3), .val (.int (4 : Int32)), .val (.ref b1), .val (.ref bx23), .val (.ref b24), .val (.int (1 : Int32))] [(.int (1 : Int32))])) _
      refine XS.aload X161.here hx rfl (hb hby at_241) rfl rfl ?_
      show Steps p.tables e below (T161.setTop (mkF m 243 #[.val (.int p1), .val (.int p2), .val (.int p3), .val (.int (4 : Int32)), .val (.ref b1), .val (.ref bx23), .val (.ref b24), .val (.int (1 : Int32))] [(.ref b24), (.int (1 : Int32))])) _
      refine st166.trans ?_
      show Steps p.tables e below (T166.setTop (mkF m 246 #[.val (.int p1), .val (.int p2), .val (.int p3), .val (.int (4 : Int32)), .val (.ref b1), .val (.ref bx23), .val (.ref b24), .val (.int (1 : Int32))] [(.ref bx11), (.int (1 : Int32))])) _
      refine XS.aload X166.here hx rfl (hb hby at_246) rfl rfl ?_
      show Steps p.tables e below (T166.setTop (mkF m 248 #[.val (.int p1), .val (.int p2), .val (.int p3), .val (.int (4 : Int32)), .val (.ref b1), .val (.ref bx23), .val (.ref b24), .val (.int (1 : Int32))] [(.ref b1), (.ref bx11), (.int (1 : Int32))])) _
      refine XS.iloadN X166.here hx rfl (hb hby at_248) rfl ?_
      show Steps p.tables e below (T166.setTop (mkF m 249 #[.val (.int p1), .val (.int p2), .val (.int p3), .val (.int (4 : Int32)), .val (.ref b1), .val (.ref bx23), .val (.ref b24), .val (.int (1 : Int32))] [(.int (4 : Int32)), (.ref b1), (.ref bx11), (.int (1 : Int32))])) _
      refine XS.iconst X166.here hx rfl (hb hby at_249) ?_
      show Steps p.tables e below (T166.setTop (mkF m 250 #[.val (.int p1), .val (.int p2), .val (.int p3), .val (.int (4 : Int32)), .val (.ref b1), .val (.ref bx23), .val (.ref b24), .val (.int (1 : Int32))] [(.int (2 : Int32)), (.int (4 : Int32)), (.ref b1), (.ref bx11), (.int (1 : Int32))])) _
      refine XS.isub X166.here hx rfl (hb hby at_250) rfl ?_
      show Steps p.tables e below (T166.setTop (mkF m 251 #[.val (.int p1), .val (.int p2), .val (.int p3), .val (.int (4 : Int32)), .val (.ref b1), .val (.ref bx23), .val (.ref b24), .val (.int (1 : Int32))] [(.int ((4 : Int32) - (2 : Int32))), (.ref b1), (.ref bx11), (.int (1 : Int32))])) _
      exact kt
    have R168 : ∀ tg, Steps p.tables e below (T166.setTop (mkF m 251 #[.val (.int p1), .val (.int p2), .val (.int p3), .val (.int (4 : Int32)), .val (.ref b1), .val (.ref bx23), .val (.ref b24), .val (.int (1 : Int32))] [(.int (2 : Int32)), (.ref b1), (.ref bx11), (.int (1 : Int32))])) tg → Steps p.tables e below (T166.setTop (mkF m 251 #[.val (.int p1), .val (.int p2), .val (.int p3), .val (.int (4 : Int32)), .val (.ref b1), .val (.ref bx23), .val (.ref b24), .val (.int (1 : Int32))] [(.int ((4 : Int32) - (2 : Int32))), (.ref b1), (.ref bx11), (.int (1 : Int32))])) tg := fun tg kt => by rw [(by decide : ((4 : Int32) - (2 : Int32)) = (2 : Int32))]; exact kt
    have f170 := (((f155.keep kp157 (ninS ne_b1_b24 (ninS nes_c33 (ninS nes_e33 nin0)))).keep kp158 (ninS ne_b1_b24 (ninS nes_c33 (ninS nes_e33 nin0)))).keep kp166 (ninS ne_b1_b24 (ninS nes_c33 (ninS nes_e33 nin0))))
    obtain ⟨cl169, Ar169, q169, Sz169, Nn169, Ha169, Ga169⟩ := id f170
    have hin169 : ¬ ((2 : Int32) < 0 ∨ cl169.slots.size ≤ ((2 : Int32)).toNatClampNeg) := inb_of Sz169 ⟨by decide, by decide⟩
    have hat169 : cl169.slots[((2 : Int32)).toNatClampNeg]? = some (.ref bx11) := Ha169.at hin169 rfl
    have R171 : ∀ tg, Steps p.tables e below (T166.setTop (mkF m 261 #[.val (.int p1), .val (.int p2), .val (.int p3), .val (.int (4 : Int32)), .val (.ref b1), .val (.ref bx23), .val (.ref b24), .val (.int (1 : Int32))] [(.int ((1 : Int32) &&& (1 : Int32)))])) tg → Steps p.tables e below (T166.setTop (mkF m 251 #[.val (.int p1), .val (.int p2), .val (.int p3), .val (.int (4 : Int32)), .val (.ref b1), .val (.ref bx23), .val (.ref b24), .val (.int (1 : Int32))] [(.int (2 : Int32)), (.ref b1), (.ref bx11), (.int (1 : Int32))])) tg := by
      intro tg kt
      refine X166.aaload hx (j := (2 : Int32)) (v := (.ref bx11)) (Ar169.1) (State.isArrayOf_alike hZ.alike Ar169.2.1) rfl Ar169.2.2 hin169 hat169 (g := (mkF m 251 #[.val (.int p1), .val (.int p2), .val (.int p3), .val (.int (4 : Int32)), .val (.ref b1), .val (.ref bx23), .val (.ref b24), .val (.int (1 : Int32))] [(.int (2 : Int32)), (.ref b1), (.ref bx11), (.int (1 : Int32))])) rfl rfl (hb hby at_251) _ ?_
      show Steps p.tables e below (T166.setTop (mkF m 252 #[.val (.int p1), .val (.int p2), .val (.int p3), .val (.int (4 : Int32)), .val (.ref b1), .val (.ref bx23), .val (.ref b24), .val (.int (1 : Int32))] [(.ref bx11), (.ref bx11), (.int (1 : Int32))])) _
      refine Jvm.RoadKit.acmp (g := (mkF m 252 #[.val (.int p1), .val (.int p2), .val (.int p3), .val (.int (4 : Int32)), .val (.ref b1), .val (.ref bx23), .val (.ref b24), .val (.int (1 : Int32))] [(.ref bx11), (.ref bx11), (.int (1 : Int32))])) X166 hx rfl rfl rfl (pc0 := 252) (pc' := 255) (same := true) rfl (hb hby at_252) rfl (decide_eq_true rfl) (by decide) (by decide) ?_
      show Steps p.tables e below (T166.setTop (mkF m 255 #[.val (.int p1), .val (.int p2), .val (.int p3), .val (.int (4 : Int32)), .val (.ref b1), .val (.ref bx23), .val (.ref b24), .val (.int (1 : Int32))] [(.int (1 : Int32))])) _
      refine XS.iconst X166.here hx rfl (hb hby at_255) ?_
      show Steps p.tables e below (T166.setTop (mkF m 256 #[.val (.int p1), .val (.int p2), .val (.int p3), .val (.int (4 : Int32)), .val (.ref b1), .val (.ref bx23), .val (.ref b24), .val (.int (1 : Int32))] [(.int (1 : Int32)), (.int (1 : Int32))])) _
      refine XS.goto X166.here hx rfl (pc0 := 256) (pc' := 260) rfl (hb hby at_256) (by decide) (by decide) ?_
      show Steps p.tables e below (T166.setTop (mkF m 260 #[.val (.int p1), .val (.int p2), .val (.int p3), .val (.int (4 : Int32)), .val (.ref b1), .val (.ref bx23), .val (.ref b24), .val (.int (1 : Int32))] [(.int (1 : Int32)), (.int (1 : Int32))])) _
      refine XS.iand X166.here hx rfl (hb hby at_260) rfl ?_
      show Steps p.tables e below (T166.setTop (mkF m 261 #[.val (.int p1), .val (.int p2), .val (.int p3), .val (.int (4 : Int32)), .val (.ref b1), .val (.ref bx23), .val (.ref b24), .val (.int (1 : Int32))] [(.int ((1 : Int32) &&& (1 : Int32)))])) _
      exact kt
    have R172 : ∀ tg, Steps p.tables e below (T166.setTop (mkF m 261 #[.val (.int p1), .val (.int p2), .val (.int p3), .val (.int (4 : Int32)), .val (.ref b1), .val (.ref bx23), .val (.ref b24), .val (.int (1 : Int32))] [(.int (1 : Int32))])) tg → Steps p.tables e below (T166.setTop (mkF m 261 #[.val (.int p1), .val (.int p2), .val (.int p3), .val (.int (4 : Int32)), .val (.ref b1), .val (.ref bx23), .val (.ref b24), .val (.int (1 : Int32))] [(.int ((1 : Int32) &&& (1 : Int32)))])) tg := fun tg kt => by rw [(by decide : ((1 : Int32) &&& (1 : Int32)) = (1 : Int32))]; exact kt
    obtain ⟨cq173, kq173, q173a, q173b, q173c⟩ := isOf hZ rfl hC166'.1
    obtain ⟨_, _, ⟨T173, L173, k173, n173⟩, -, X173, ⟨Lc173, hQ173, l173, y173, z173⟩, st173⟩ := X166.virtualBack hx (y := (⟨"com/example/anchored_threads/anchoredthreads/internal/ChunkedList", "size", "()I"⟩ : MethodName)) (z := (⟨"com/example/anchored_threads/anchoredthreads/internal/ChunkedList", "size", "()I"⟩ : MethodName)) hown (mvT hZ (hw _ (List.mem_of_getElem? (i := 40) rfl))) (mvT hZ (hw _ (List.mem_of_getElem? (i := 41) rfl))) (notFace_of_selects (args := #[]) (mvT hZ (hw _ (List.mem_of_getElem? (i := 43) rfl)))) (mvT hZ (hw _ (List.mem_of_getElem? (i := 43) rfl))) (mvT hZ (hw _ (List.mem_of_getElem? (i := 42) rfl))) (by decide) (backOf (W := 1) (rmSz l Z a0 hw [] b24 (2 : Int32) T166.heap n0 Z166 hC166'.2.1) hZ (hw _ (List.mem_of_getElem? (i := 44) rfl)) (hw _ (List.mem_of_getElem? (i := 13) rfl)) (by decide) (by decide)) q173a q173c (g := (mkF m 267 #[.val (.int p1), .val (.int p2), .val (.int p3), .val (.int (4 : Int32)), .val (.ref b1), .val (.ref bx23), .val (.ref b24), .val (.int (1 : Int32))] [(.ref b24), (.int (1 : Int32))])) rfl (by rw [hml]; rfl) (Steps.refl _) (argsL := []) (rest := [(.int (1 : Int32))]) (lenOf pd_4 rfl) rfl (by show 2 * 0 + _ ≤ _; exact Nat.le_of_eq rfl) (hb hby at_267) (fun _ _ => ⟨rfl, rfl, (by decide : 10 + 0 ≤ _), (by decide : 19 + 0 ≤ _)⟩)
    dsimp only [Pt.U, Pt.locs, Pt.cells, Pt.slots] at X173 l173 y173 z173 st173 hQ173
    subst l173 y173 z173
    obtain ⟨hv173, N173q, r173⟩ := hQ173
    subst hv173
    have N173 := Fr.app N166 N173q
    have R174 : ∀ tg, Steps p.tables e below (T173.setTop (mkF m 273 #[.val (.int p1), .val (.int p2), .val (.int p3), .val (.int (4 : Int32)), .val (.ref b1), .val (.ref bx23), .val (.ref b24), .val (.int (1 : Int32))] [(.int ((4 : Int32) - (2 : Int32))), (.int (2 : Int32)), (.int (1 : Int32))])) tg → Steps p.tables e below (T166.setTop (mkF m 261 #[.val (.int p1), .val (.int p2), .val (.int p3), .val (.int (4 : Int32)), .val (.ref b1), .val (.ref bx23), .val (.ref b24), .val (.int (1 : Int32))] [(.int (1 : Int32))])) tg := by
      intro tg kt
      refine XS.istore X166.here hx rfl (hb hby at_261) rfl (l' := #[.val (.int p1), .val (.int p2), .val (.int p3), .val (.int (4 : Int32)), .val (.ref b1), .val (.ref bx23), .val (.ref b24), .val (.int (1 : Int32))]) rfl ?_
      show Steps p.tables e below (T166.setTop (mkF m 263 #[.val (.int p1), .val (.int p2), .val (.int p3), .val (.int (4 : Int32)), .val (.ref b1), .val (.ref bx23), .val (.ref b24), .val (.int (1 : Int32))] [])) _
      refine XS.iload X166.here hx rfl (hb hby at_263) rfl ?_
      show Steps p.tables e below (T166.setTop (mkF m 265 #[.val (.int p1), .val (.int p2), .val (.int p3), .val (.int (4 : Int32)), .val (.ref b1), .val (.ref bx23), .val (.ref b24), .val (.int (1 : Int32))] [(.int (1 : Int32))])) _
      refine XS.aload X166.here hx rfl (hb hby at_265) rfl rfl ?_
      show Steps p.tables e below (T166.setTop (mkF m 267 #[.val (.int p1), .val (.int p2), .val (.int p3), .val (.int (4 : Int32)), .val (.ref b1), .val (.ref bx23), .val (.ref b24), .val (.int (1 : Int32))] [(.ref b24), (.int (1 : Int32))])) _
      refine st173.trans ?_
      show Steps p.tables e below (T173.setTop (mkF m 270 #[.val (.int p1), .val (.int p2), .val (.int p3), .val (.int (4 : Int32)), .val (.ref b1), .val (.ref bx23), .val (.ref b24), .val (.int (1 : Int32))] [(.int (2 : Int32)), (.int (1 : Int32))])) _
      refine XS.iloadN X173.here hx rfl (hb hby at_270) rfl ?_
      show Steps p.tables e below (T173.setTop (mkF m 271 #[.val (.int p1), .val (.int p2), .val (.int p3), .val (.int (4 : Int32)), .val (.ref b1), .val (.ref bx23), .val (.ref b24), .val (.int (1 : Int32))] [(.int (4 : Int32)), (.int (2 : Int32)), (.int (1 : Int32))])) _
      refine XS.iconst X173.here hx rfl (hb hby at_271) ?_
      show Steps p.tables e below (T173.setTop (mkF m 272 #[.val (.int p1), .val (.int p2), .val (.int p3), .val (.int (4 : Int32)), .val (.ref b1), .val (.ref bx23), .val (.ref b24), .val (.int (1 : Int32))] [(.int (2 : Int32)), (.int (4 : Int32)), (.int (2 : Int32)), (.int (1 : Int32))])) _
      refine XS.isub X173.here hx rfl (hb hby at_272) rfl ?_
      show Steps p.tables e below (T173.setTop (mkF m 273 #[.val (.int p1), .val (.int p2), .val (.int p3), .val (.int (4 : Int32)), .val (.ref b1), .val (.ref bx23), .val (.ref b24), .val (.int (1 : Int32))] [(.int ((4 : Int32) - (2 : Int32))), (.int (2 : Int32)), (.int (1 : Int32))])) _
      exact kt
    have R175 : ∀ tg, Steps p.tables e below (T173.setTop (mkF m 273 #[.val (.int p1), .val (.int p2), .val (.int p3), .val (.int (4 : Int32)), .val (.ref b1), .val (.ref bx23), .val (.ref b24), .val (.int (1 : Int32))] [(.int (2 : Int32)), (.int (2 : Int32)), (.int (1 : Int32))])) tg → Steps p.tables e below (T173.setTop (mkF m 273 #[.val (.int p1), .val (.int p2), .val (.int p3), .val (.int (4 : Int32)), .val (.ref b1), .val (.ref bx23), .val (.ref b24), .val (.int (1 : Int32))] [(.int ((4 : Int32) - (2 : Int32))), (.int (2 : Int32)), (.int (1 : Int32))])) tg := fun tg kt => by rw [(by decide : ((4 : Int32) - (2 : Int32)) = (2 : Int32))]; exact kt
    have R176 : ∀ tg, Steps p.tables e below (T173.setTop (mkF m 282 #[.val (.int p1), .val (.int p2), .val (.int p3), .val (.int (4 : Int32)), .val (.ref b1), .val (.ref bx23), .val (.ref b24), .val (.int (1 : Int32))] [(.int ((1 : Int32) &&& (1 : Int32)))])) tg → Steps p.tables e below (T173.setTop (mkF m 273 #[.val (.int p1), .val (.int p2), .val (.int p3), .val (.int (4 : Int32)), .val (.ref b1), .val (.ref bx23), .val (.ref b24), .val (.int (1 : Int32))] [(.int (2 : Int32)), (.int (2 : Int32)), (.int (1 : Int32))])) tg := by
      intro tg kt
      refine XS.icmpNo X173.here hx rfl (hb hby at_273) rfl (teq (by decide : (2 : Int32) = (2 : Int32))).2 ?_
      show Steps p.tables e below (T173.setTop (mkF m 276 #[.val (.int p1), .val (.int p2), .val (.int p3), .val (.int (4 : Int32)), .val (.ref b1), .val (.ref bx23), .val (.ref b24), .val (.int (1 : Int32))] [(.int (1 : Int32))])) _
      refine XS.iconst X173.here hx rfl (hb hby at_276) ?_
      show Steps p.tables e below (T173.setTop (mkF m 277 #[.val (.int p1), .val (.int p2), .val (.int p3), .val (.int (4 : Int32)), .val (.ref b1), .val (.ref bx23), .val (.ref b24), .val (.int (1 : Int32))] [(.int (1 : Int32)), (.int (1 : Int32))])) _
      refine XS.goto X173.here hx rfl (pc0 := 277) (pc' := 281) rfl (hb hby at_277) (by decide) (by decide) ?_
      show Steps p.tables e below (T173.setTop (mkF m 281 #[.val (.int p1), .val (.int p2), .val (.int p3), .val (.int (4 : Int32)), .val (.ref b1), .val (.ref bx23), .val (.ref b24), .val (.int (1 : Int32))] [(.int (1 : Int32)), (.int (1 : Int32))])) _
      refine XS.iand X173.here hx rfl (hb hby at_281) rfl ?_
      show Steps p.tables e below (T173.setTop (mkF m 282 #[.val (.int p1), .val (.int p2), .val (.int p3), .val (.int (4 : Int32)), .val (.ref b1), .val (.ref bx23), .val (.ref b24), .val (.int (1 : Int32))] [(.int ((1 : Int32) &&& (1 : Int32)))])) _
      exact kt
    have R177 : ∀ tg, Steps p.tables e below (T173.setTop (mkF m 282 #[.val (.int p1), .val (.int p2), .val (.int p3), .val (.int (4 : Int32)), .val (.ref b1), .val (.ref bx23), .val (.ref b24), .val (.int (1 : Int32))] [(.int (1 : Int32))])) tg → Steps p.tables e below (T173.setTop (mkF m 282 #[.val (.int p1), .val (.int p2), .val (.int p3), .val (.int (4 : Int32)), .val (.ref b1), .val (.ref bx23), .val (.ref b24), .val (.int (1 : Int32))] [(.int ((1 : Int32) &&& (1 : Int32)))])) tg := fun tg kt => by rw [(by decide : ((1 : Int32) &&& (1 : Int32)) = (1 : Int32))]; exact kt
    obtain ⟨fs, hr, hrun, hended, hW, hsame⟩ := X173.leave (v := some (.int (1 : Int32))) (fun h => by rw [Bd.returns] at h; cases h)
    refine ⟨_, _, pre0 _ (R34 _ (R134 _ (R152 _ (R153 _ (R159 _ (R160 _ (R162 _ (R163 _ (R164 _ (R165 _ (R167 _ (R168 _ (R171 _ (R172 _ (R174 _ (R175 _ (R176 _ (R177 _ ?_)))))))))))))))))), hrun, hended, _, _, rfl, ?_, ⟨_, rfl⟩, hW, hsame.mono (by decide) (by decide)⟩
    · show Steps p.tables e below (T173.setTop (mkF m 282 #[.val (.int p1), .val (.int p2), .val (.int p3), .val (.int (4 : Int32)), .val (.ref b1), .val (.ref bx23), .val (.ref b24), .val (.int (1 : Int32))] [(.int (1 : Int32))])) _
      refine XS.istore X173.here hx rfl (hb hby at_282) rfl (l' := #[.val (.int p1), .val (.int p2), .val (.int p3), .val (.int (4 : Int32)), .val (.ref b1), .val (.ref bx23), .val (.ref b24), .val (.int (1 : Int32))]) rfl ?_
      show Steps p.tables e below (T173.setTop (mkF m 284 #[.val (.int p1), .val (.int p2), .val (.int p3), .val (.int (4 : Int32)), .val (.ref b1), .val (.ref bx23), .val (.ref b24), .val (.int (1 : Int32))] [])) _
      refine XS.iload X173.here hx rfl (hb hby at_284) rfl ?_
      show Steps p.tables e below (T173.setTop (mkF m 286 #[.val (.int p1), .val (.int p2), .val (.int p3), .val (.int (4 : Int32)), .val (.ref b1), .val (.ref bx23), .val (.ref b24), .val (.int (1 : Int32))] [(.int (1 : Int32))])) _
      exact retN X173 hx (t := .boolean) Bd.returns (by simp) (hb hby at_286) hr
    · show Q0 n0 _ T173.heap _
      rw [r173]
      exact ⟨rfl, N173⟩
  · have R178 : ∀ tg, Steps p.tables e below (T33.setTop (mkF m 72 #[.val (.int p1), .val (.int p2), .val (.int p3), .val (.int (5 : Int32)), .val (.ref b1), .val (.ref bx23), .val (.ref b24), .unset] [])) tg → Steps p.tables e below (T33.setTop (mkF m 72 #[.val (.int p1), .val (.int p2), .val (.int p3), .val (.int ((p1 &&& (2147483647 : Int32)) % (6 : Int32))), .val (.ref b1), .val (.ref bx23), .val (.ref b24), .unset] [])) tg := fun tg kt => by rw [hk35]; exact kt
    have f180 := (f32.keep kp33 (ninS ne_b1_b24 nin0))
    obtain ⟨cl179, Ar179, q179, Sz179, Nn179, Ha179, Ga179⟩ := id f180
    have hin179 : ¬ ((0 : Int32) < 0 ∨ cl179.slots.size ≤ ((0 : Int32)).toNatClampNeg) := inb_of Sz179 ⟨by decide, by decide⟩
    have hat179 : cl179.slots[((0 : Int32)).toNatClampNeg]? = some (.ref bx3) := Ha179.at hin179 rfl
    have f181 := ((f26.ext E24).keep kp33)
    obtain ⟨cq182, kq182, q182a, q182b, q182c⟩ := isOf hZ rfl hC33.1
    obtain ⟨_, _, ⟨T182, L182, k182, n182⟩, -, X182, ⟨Lc182, hQ182, l182, y182, z182⟩, st182⟩ := X33.virtualBack hx (y := (⟨"com/example/anchored_threads/anchoredthreads/internal/ChunkedList", "add", "(Ljava/lang/Object;)Z"⟩ : MethodName)) (z := (⟨"com/example/anchored_threads/anchoredthreads/internal/ChunkedList", "add", "(Ljava/lang/Object;)Z"⟩ : MethodName)) hown (mvT hZ (hw _ (List.mem_of_getElem? (i := 47) rfl))) (mvT hZ (hw _ (List.mem_of_getElem? (i := 48) rfl))) (notFace_of_selects (args := #[]) (mvT hZ (hw _ (List.mem_of_getElem? (i := 50) rfl)))) (mvT hZ (hw _ (List.mem_of_getElem? (i := 50) rfl))) (mvT hZ (hw _ (List.mem_of_getElem? (i := 49) rfl))) (by decide) (backOf (W := 0) (rmAd l Z a0 hw [] b24 bx3 ch33 ea33 kc33 ke33 (0 : Int32) (0 : Int32) (4 : Int32) [.null, .null, .null, .null] 0 T33.heap n0 Z33 hC33 f181 (by decide) (by decide) (by decide) ⟨by decide, by decide⟩ rfl (Nat.le_of_ble_eq_true rfl)) hZ (hw _ (List.mem_of_getElem? (i := 51) rfl)) (hw _ (List.mem_of_getElem? (i := 13) rfl)) (by decide) (by decide)) q182a q182c (g := (mkF m 82 #[.val (.int p1), .val (.int p2), .val (.int p3), .val (.int (5 : Int32)), .val (.ref b1), .val (.ref bx23), .val (.ref b24), .unset] [(.ref bx3), (.ref b24)])) rfl (by rw [hml]; rfl) (Steps.refl _) (argsL := [(.ref bx3)]) (rest := []) (lenOf pd_5 rfl) rfl (by show 2 * 0 + _ ≤ _; exact Nat.le_of_eq rfl) (hb hby at_82) (fun _ _ => ⟨rfl, rfl, (by decide : 10 + 0 ≤ _), (by decide : 19 + 0 ≤ _)⟩)
    dsimp only [Pt.U, Pt.locs, Pt.cells, Pt.slots] at X182 l182 y182 z182 st182 hQ182
    subst l182 y182 z182
    obtain ⟨hv182, N182q, kp182, mc182, hC182⟩ := hQ182
    subst hv182
    have N182 := Fr.app N33 N182q
    have Z182 : n0 ≤ T182.heap.size := Nat.le_trans Z33 kp182.1
    have hC182' : CLs Z n0 T182.heap b24 ch33 ea33 kc33 ke33 (1 : Int32) mc182 (4 : Int32) [(.ref bx3), .null, .null, .null] := by
      have q := hC182
      rw [show ((0 : Int32) + 1) = (1 : Int32) from by decide] at q
      exact q
    have f184 := (f180.keep kp182 (ninS ne_b1_b24 (ninS nes_c33 (ninS nes_e33 nin0))))
    obtain ⟨cl183, Ar183, q183, Sz183, Nn183, Ha183, Ga183⟩ := id f184
    have hin183 : ¬ ((1 : Int32) < 0 ∨ cl183.slots.size ≤ ((1 : Int32)).toNatClampNeg) := inb_of Sz183 ⟨by decide, by decide⟩
    have hat183 : cl183.slots[((1 : Int32)).toNatClampNeg]? = some (.ref bx7) := Ha183.at hin183 rfl
    have f185 := (((f27.ext E24).keep kp33).keep kp182)
    obtain ⟨cq186, kq186, q186a, q186b, q186c⟩ := isOf hZ rfl hC182'.1
    obtain ⟨_, _, ⟨T186, L186, k186, n186⟩, -, X186, ⟨Lc186, hQ186, l186, y186, z186⟩, st186⟩ := X182.virtualBack hx (y := (⟨"com/example/anchored_threads/anchoredthreads/internal/ChunkedList", "add", "(Ljava/lang/Object;)Z"⟩ : MethodName)) (z := (⟨"com/example/anchored_threads/anchoredthreads/internal/ChunkedList", "add", "(Ljava/lang/Object;)Z"⟩ : MethodName)) hown (mvT hZ (hw _ (List.mem_of_getElem? (i := 47) rfl))) (mvT hZ (hw _ (List.mem_of_getElem? (i := 48) rfl))) (notFace_of_selects (args := #[]) (mvT hZ (hw _ (List.mem_of_getElem? (i := 50) rfl)))) (mvT hZ (hw _ (List.mem_of_getElem? (i := 50) rfl))) (mvT hZ (hw _ (List.mem_of_getElem? (i := 49) rfl))) (by decide) (backOf (W := 0) (rmAd l Z a0 hw [] b24 bx7 ch33 ea33 kc33 ke33 (1 : Int32) mc182 (4 : Int32) [(.ref bx3), .null, .null, .null] 1 T182.heap n0 Z182 hC182' f185 (by decide) (by decide) (by decide) ⟨by decide, by decide⟩ rfl (Nat.le_of_ble_eq_true rfl)) hZ (hw _ (List.mem_of_getElem? (i := 51) rfl)) (hw _ (List.mem_of_getElem? (i := 13) rfl)) (by decide) (by decide)) q186a q186c (g := (mkF m 97 #[.val (.int p1), .val (.int p2), .val (.int p3), .val (.int (5 : Int32)), .val (.ref b1), .val (.ref bx23), .val (.ref b24), .unset] [(.ref bx7), (.ref b24)])) rfl (by rw [hml]; rfl) (Steps.refl _) (argsL := [(.ref bx7)]) (rest := []) (lenOf pd_5 rfl) rfl (by show 2 * 0 + _ ≤ _; exact Nat.le_of_eq rfl) (hb hby at_97) (fun _ _ => ⟨rfl, rfl, (by decide : 10 + 0 ≤ _), (by decide : 19 + 0 ≤ _)⟩)
    dsimp only [Pt.U, Pt.locs, Pt.cells, Pt.slots] at X186 l186 y186 z186 st186 hQ186
    subst l186 y186 z186
    obtain ⟨hv186, N186q, kp186, mc186, hC186⟩ := hQ186
    subst hv186
    have N186 := Fr.app N182 N186q
    have Z186 : n0 ≤ T186.heap.size := Nat.le_trans Z182 kp186.1
    have hC186' : CLs Z n0 T186.heap b24 ch33 ea33 kc33 ke33 (2 : Int32) mc186 (4 : Int32) [(.ref bx3), (.ref bx7), .null, .null] := by
      have q := hC186
      rw [show ((1 : Int32) + 1) = (2 : Int32) from by decide] at q
      exact q
    have f188 := (f184.keep kp186 (ninS ne_b1_b24 (ninS nes_c33 (ninS nes_e33 nin0))))
    obtain ⟨cl187, Ar187, q187, Sz187, Nn187, Ha187, Ga187⟩ := id f188
    have hin187 : ¬ ((2 : Int32) < 0 ∨ cl187.slots.size ≤ ((2 : Int32)).toNatClampNeg) := inb_of Sz187 ⟨by decide, by decide⟩
    have hat187 : cl187.slots[((2 : Int32)).toNatClampNeg]? = some (.ref bx11) := Ha187.at hin187 rfl
    have f189 := ((((f28.ext E24).keep kp33).keep kp182).keep kp186)
    obtain ⟨cq190, kq190, q190a, q190b, q190c⟩ := isOf hZ rfl hC186'.1
    obtain ⟨_, _, ⟨T190, L190, k190, n190⟩, -, X190, ⟨Lc190, hQ190, l190, y190, z190⟩, st190⟩ := X186.virtualBack hx (y := (⟨"com/example/anchored_threads/anchoredthreads/internal/ChunkedList", "add", "(Ljava/lang/Object;)Z"⟩ : MethodName)) (z := (⟨"com/example/anchored_threads/anchoredthreads/internal/ChunkedList", "add", "(Ljava/lang/Object;)Z"⟩ : MethodName)) hown (mvT hZ (hw _ (List.mem_of_getElem? (i := 47) rfl))) (mvT hZ (hw _ (List.mem_of_getElem? (i := 48) rfl))) (notFace_of_selects (args := #[]) (mvT hZ (hw _ (List.mem_of_getElem? (i := 50) rfl)))) (mvT hZ (hw _ (List.mem_of_getElem? (i := 50) rfl))) (mvT hZ (hw _ (List.mem_of_getElem? (i := 49) rfl))) (by decide) (backOf (W := 0) (rmAd l Z a0 hw [] b24 bx11 ch33 ea33 kc33 ke33 (2 : Int32) mc186 (4 : Int32) [(.ref bx3), (.ref bx7), .null, .null] 2 T186.heap n0 Z186 hC186' f189 (by decide) (by decide) (by decide) ⟨by decide, by decide⟩ rfl (Nat.le_of_ble_eq_true rfl)) hZ (hw _ (List.mem_of_getElem? (i := 51) rfl)) (hw _ (List.mem_of_getElem? (i := 13) rfl)) (by decide) (by decide)) q190a q190c (g := (mkF m 112 #[.val (.int p1), .val (.int p2), .val (.int p3), .val (.int (5 : Int32)), .val (.ref b1), .val (.ref bx23), .val (.ref b24), .unset] [(.ref bx11), (.ref b24)])) rfl (by rw [hml]; rfl) (Steps.refl _) (argsL := [(.ref bx11)]) (rest := []) (lenOf pd_5 rfl) rfl (by show 2 * 0 + _ ≤ _; exact Nat.le_of_eq rfl) (hb hby at_112) (fun _ _ => ⟨rfl, rfl, (by decide : 10 + 0 ≤ _), (by decide : 19 + 0 ≤ _)⟩)
    dsimp only [Pt.U, Pt.locs, Pt.cells, Pt.slots] at X190 l190 y190 z190 st190 hQ190
    subst l190 y190 z190
    obtain ⟨hv190, N190q, kp190, mc190, hC190⟩ := hQ190
    subst hv190
    have N190 := Fr.app N186 N190q
    have Z190 : n0 ≤ T190.heap.size := Nat.le_trans Z186 kp190.1
    have hC190' : CLs Z n0 T190.heap b24 ch33 ea33 kc33 ke33 (3 : Int32) mc190 (4 : Int32) [(.ref bx3), (.ref bx7), (.ref bx11), .null] := by
      have q := hC190
      rw [show ((2 : Int32) + 1) = (3 : Int32) from by decide] at q
      exact q
    have f192 := (f188.keep kp190 (ninS ne_b1_b24 (ninS nes_c33 (ninS nes_e33 nin0))))
    obtain ⟨cl191, Ar191, q191, Sz191, Nn191, Ha191, Ga191⟩ := id f192
    have hin191 : ¬ ((3 : Int32) < 0 ∨ cl191.slots.size ≤ ((3 : Int32)).toNatClampNeg) := inb_of Sz191 ⟨by decide, by decide⟩
    have hat191 : cl191.slots[((3 : Int32)).toNatClampNeg]? = some (.ref bx15) := Ha191.at hin191 rfl
    have f193 := (((((f29.ext E24).keep kp33).keep kp182).keep kp186).keep kp190)
    obtain ⟨cq194, kq194, q194a, q194b, q194c⟩ := isOf hZ rfl hC190'.1
    obtain ⟨_, _, ⟨T194, L194, k194, n194⟩, -, X194, ⟨Lc194, hQ194, l194, y194, z194⟩, st194⟩ := X190.virtualBack hx (y := (⟨"com/example/anchored_threads/anchoredthreads/internal/ChunkedList", "add", "(Ljava/lang/Object;)Z"⟩ : MethodName)) (z := (⟨"com/example/anchored_threads/anchoredthreads/internal/ChunkedList", "add", "(Ljava/lang/Object;)Z"⟩ : MethodName)) hown (mvT hZ (hw _ (List.mem_of_getElem? (i := 47) rfl))) (mvT hZ (hw _ (List.mem_of_getElem? (i := 48) rfl))) (notFace_of_selects (args := #[]) (mvT hZ (hw _ (List.mem_of_getElem? (i := 50) rfl)))) (mvT hZ (hw _ (List.mem_of_getElem? (i := 50) rfl))) (mvT hZ (hw _ (List.mem_of_getElem? (i := 49) rfl))) (by decide) (backOf (W := 0) (rmAd l Z a0 hw [] b24 bx15 ch33 ea33 kc33 ke33 (3 : Int32) mc190 (4 : Int32) [(.ref bx3), (.ref bx7), (.ref bx11), .null] 3 T190.heap n0 Z190 hC190' f193 (by decide) (by decide) (by decide) ⟨by decide, by decide⟩ rfl (Nat.le_of_ble_eq_true rfl)) hZ (hw _ (List.mem_of_getElem? (i := 51) rfl)) (hw _ (List.mem_of_getElem? (i := 13) rfl)) (by decide) (by decide)) q194a q194c (g := (mkF m 127 #[.val (.int p1), .val (.int p2), .val (.int p3), .val (.int (5 : Int32)), .val (.ref b1), .val (.ref bx23), .val (.ref b24), .unset] [(.ref bx15), (.ref b24)])) rfl (by rw [hml]; rfl) (Steps.refl _) (argsL := [(.ref bx15)]) (rest := []) (lenOf pd_5 rfl) rfl (by show 2 * 0 + _ ≤ _; exact Nat.le_of_eq rfl) (hb hby at_127) (fun _ _ => ⟨rfl, rfl, (by decide : 10 + 0 ≤ _), (by decide : 19 + 0 ≤ _)⟩)
    dsimp only [Pt.U, Pt.locs, Pt.cells, Pt.slots] at X194 l194 y194 z194 st194 hQ194
    subst l194 y194 z194
    obtain ⟨hv194, N194q, kp194, mc194, hC194⟩ := hQ194
    subst hv194
    have N194 := Fr.app N190 N194q
    have Z194 : n0 ≤ T194.heap.size := Nat.le_trans Z190 kp194.1
    have hC194' : CLs Z n0 T194.heap b24 ch33 ea33 kc33 ke33 (4 : Int32) mc194 (4 : Int32) [(.ref bx3), (.ref bx7), (.ref bx11), (.ref bx15)] := by
      have q := hC194
      rw [show ((3 : Int32) + 1) = (4 : Int32) from by decide] at q
      exact q
    have f196 := (f192.keep kp194 (ninS ne_b1_b24 (ninS nes_c33 (ninS nes_e33 nin0))))
    obtain ⟨cl195, Ar195, q195, Sz195, Nn195, Ha195, Ga195⟩ := id f196
    have hin195 : ¬ ((4 : Int32) < 0 ∨ cl195.slots.size ≤ ((4 : Int32)).toNatClampNeg) := inb_of Sz195 ⟨by decide, by decide⟩
    have hat195 : cl195.slots[((4 : Int32)).toNatClampNeg]? = some (.ref bx19) := Ha195.at hin195 rfl
    have lt197 := (f196).lt
    have f198 := ((((((f30.ext E24).keep kp33).keep kp182).keep kp186).keep kp190).keep kp194)
    have f199 := ((((f181.keep kp182).keep kp186).keep kp190).keep kp194)
    have f200 := (((f185.keep kp186).keep kp190).keep kp194)
    have f201 := ((f189.keep kp190).keep kp194)
    have f202 := (f193.keep kp194)
    obtain ⟨cq203, kq203, q203a, q203b, q203c⟩ := isOf hZ rfl hC194'.1
    obtain ⟨_, _, ⟨T203, L203, k203, n203⟩, -, X203, ⟨Lc203, hQ203, l203, y203, z203⟩, st203⟩ := X194.virtualBack hx (y := (⟨"com/example/anchored_threads/anchoredthreads/internal/ChunkedList", "add", "(Ljava/lang/Object;)Z"⟩ : MethodName)) (z := (⟨"com/example/anchored_threads/anchoredthreads/internal/ChunkedList", "add", "(Ljava/lang/Object;)Z"⟩ : MethodName)) hown (mvT hZ (hw _ (List.mem_of_getElem? (i := 47) rfl))) (mvT hZ (hw _ (List.mem_of_getElem? (i := 48) rfl))) (notFace_of_selects (args := #[]) (mvT hZ (hw _ (List.mem_of_getElem? (i := 50) rfl)))) (mvT hZ (hw _ (List.mem_of_getElem? (i := 50) rfl))) (mvT hZ (hw _ (List.mem_of_getElem? (i := 49) rfl))) (by decide) (backOf (W := 0) (rmGr l Z a0 hw [] b24 bx19 ch33 ea33 bx3 bx7 bx11 bx15 kc33 ke33 mc194 T194.heap n0 Z194 hC194' f198 f199 f200 f201 f202 hM) hZ (hw _ (List.mem_of_getElem? (i := 51) rfl)) (hw _ (List.mem_of_getElem? (i := 13) rfl)) (by decide) (by decide)) q203a q203c (g := (mkF m 142 #[.val (.int p1), .val (.int p2), .val (.int p3), .val (.int (5 : Int32)), .val (.ref b1), .val (.ref bx23), .val (.ref b24), .unset] [(.ref bx19), (.ref b24)])) rfl (by rw [hml]; rfl) (Steps.refl _) (argsL := [(.ref bx19)]) (rest := []) (lenOf pd_5 rfl) rfl (by show 2 * 0 + _ ≤ _; exact Nat.le_of_eq rfl) (hb hby at_142) (fun _ _ => ⟨rfl, rfl, (by decide : 10 + 1 ≤ _), (by decide : 19 + 8 ≤ _)⟩)
    dsimp only [Pt.U, Pt.locs, Pt.cells, Pt.slots] at X203 l203 y203 z203 st203 hQ203
    subst l203 y203 z203
    obtain ⟨hv203, N203q, kp203, ea203, ke203, mc203, sg203, hC203⟩ := hQ203
    subst hv203
    have N203 := Fr.app N194 N203q
    have Z203 : n0 ≤ T203.heap.size := Nat.le_trans Z194 kp203.1
    have nes_e203 : b1 ≠ ea203 := Nat.ne_of_lt (Nat.lt_of_lt_of_le lt197 sg203)
    obtain ⟨cq204, kq204, q204a, q204b, q204c⟩ := isOf hZ rfl hC203.1
    obtain ⟨_, _, ⟨T204, L204, k204, n204⟩, -, X204, ⟨Lc204, hQ204, l204, y204, z204⟩, st204⟩ := X203.virtualBack hx (y := (⟨"com/example/anchored_threads/anchoredthreads/internal/ChunkedList", "removeLast", "()Ljava/lang/Object;"⟩ : MethodName)) (z := (⟨"com/example/anchored_threads/anchoredthreads/internal/ChunkedList", "removeLast", "()Ljava/lang/Object;"⟩ : MethodName)) hown (mvT hZ (hw _ (List.mem_of_getElem? (i := 55) rfl))) (mvT hZ (hw _ (List.mem_of_getElem? (i := 56) rfl))) (notFace_of_selects (args := #[]) (mvT hZ (hw _ (List.mem_of_getElem? (i := 58) rfl)))) (mvT hZ (hw _ (List.mem_of_getElem? (i := 58) rfl))) (mvT hZ (hw _ (List.mem_of_getElem? (i := 57) rfl))) (by decide) (backOf (W := 0) (rmRl l Z a0 hw [] b24 ch33 ea203 kc33 ke203 (5 : Int32) mc203 (8 : Int32) (4 : Int32) [(.ref bx3), (.ref bx7), (.ref bx11), (.ref bx15), (.ref bx19), .null, .null, .null] 4 bx19 T203.heap n0 Z203 hC203 (by decide) (by decide) (by decide) (by decide) ⟨by decide, by decide⟩ rfl (Nat.le_of_ble_eq_true rfl) rfl) hZ (hw _ (List.mem_of_getElem? (i := 59) rfl)) (hw _ (List.mem_of_getElem? (i := 13) rfl)) (by decide) (by decide)) q204a q204c (g := (mkF m 166 #[.val (.int p1), .val (.int p2), .val (.int p3), .val (.int (5 : Int32)), .val (.ref b1), .val (.ref bx23), .val (.ref b24), .unset] [(.ref b24)])) rfl (by rw [hml]; rfl) (Steps.refl _) (argsL := []) (rest := []) (lenOf pd_6 rfl) rfl (by show 2 * 0 + _ ≤ _; exact Nat.le_of_eq rfl) (hb hby at_166) (fun _ _ => ⟨rfl, rfl, (by decide : 11 + 0 ≤ _), (by decide : 27 + 0 ≤ _)⟩)
    dsimp only [Pt.U, Pt.locs, Pt.cells, Pt.slots] at X204 l204 y204 z204 st204 hQ204
    subst l204 y204 z204
    obtain ⟨hv204, N204q, kp204, mc204, hC204⟩ := hQ204
    subst hv204
    have N204 := Fr.app N203 N204q
    have Z204 : n0 ≤ T204.heap.size := Nat.le_trans Z203 kp204.1
    have hC204' : CLs Z n0 T204.heap b24 ch33 ea203 kc33 ke203 (4 : Int32) mc204 (8 : Int32) [(.ref bx3), (.ref bx7), (.ref bx11), (.ref bx15), .null, .null, .null, .null] := hC204
    have R205 : ∀ tg, Steps p.tables e below (T204.setTop (mkF m 174 #[.val (.int p1), .val (.int p2), .val (.int p3), .val (.int (5 : Int32)), .val (.ref b1), .val (.ref bx23), .val (.ref b24), .unset] [(.int ((5 : Int32) - (1 : Int32))), (.ref b1), (.ref bx19)])) tg → Steps p.tables e below (T33.setTop (mkF m 72 #[.val (.int p1), .val (.int p2), .val (.int p3), .val (.int (5 : Int32)), .val (.ref b1), .val (.ref bx23), .val (.ref b24), .unset] [])) tg := by
      intro tg kt
      refine XS.iloadN X33.here hx rfl (hb hby at_72) rfl ?_
      show Steps p.tables e below (T33.setTop (mkF m 73 #[.val (.int p1), .val (.int p2), .val (.int p3), .val (.int (5 : Int32)), .val (.ref b1), .val (.ref bx23), .val (.ref b24), .unset] [(.int (5 : Int32))])) _
      refine XS.ifNo X33.here hx rfl (hb hby at_73) rfl ((if0 _ _).trans (tlt (by decide : (0 : Int32) < (5 : Int32))).2.2.2) ?_
      show Steps p.tables e below (T33.setTop (mkF m 76 #[.val (.int p1), .val (.int p2), .val (.int p3), .val (.int (5 : Int32)), .val (.ref b1), .val (.ref bx23), .val (.ref b24), .unset] [])) _
      refine XS.aload X33.here hx rfl (hb hby at_76) rfl rfl ?_
      show Steps p.tables e below (T33.setTop (mkF m 78 #[.val (.int p1), .val (.int p2), .val (.int p3), .val (.int (5 : Int32)), .val (.ref b1), .val (.ref bx23), .val (.ref b24), .unset] [(.ref b24)])) _
      refine XS.aload X33.here hx rfl (hb hby at_78) rfl rfl ?_
      show Steps p.tables e below (T33.setTop (mkF m 80 #[.val (.int p1), .val (.int p2), .val (.int p3), .val (.int (5 : Int32)), .val (.ref b1), .val (.ref bx23), .val (.ref b24), .unset] [(.ref b1), (.ref b24)])) _
      refine XS.iconst X33.here hx rfl (hb hby at_80) ?_
      show Steps p.tables e below (T33.setTop (mkF m 81 #[.val (.int p1), .val (.int p2), .val (.int p3), .val (.int (5 : Int32)), .val (.ref b1), .val (.ref bx23), .val (.ref b24), .unset] [(.int (0 : Int32)), (.ref b1), (.ref b24)])) _
      refine X33.aaload hx (j := (0 : Int32)) (v := (.ref bx3)) (Ar179.1) (State.isArrayOf_alike hZ.alike Ar179.2.1) rfl Ar179.2.2 hin179 hat179 (g := (mkF m 81 #[.val (.int p1), .val (.int p2), .val (.int p3), .val (.int (5 : Int32)), .val (.ref b1), .val (.ref bx23), .val (.ref b24), .unset] [(.int (0 : Int32)), (.ref b1), (.ref b24)])) rfl rfl (hb hby at_81) _ ?_
      show Steps p.tables e below (T33.setTop (mkF m 82 #[.val (.int p1), .val (.int p2), .val (.int p3), .val (.int (5 : Int32)), .val (.ref b1), .val (.ref bx23), .val (.ref b24), .unset] [(.ref bx3), (.ref b24)])) _
      refine st182.trans ?_
      show Steps p.tables e below (T182.setTop (mkF m 85 #[.val (.int p1), .val (.int p2), .val (.int p3), .val (.int (5 : Int32)), .val (.ref b1), .val (.ref bx23), .val (.ref b24), .unset] [(.int (1 : Int32))])) _
      refine XS.pop X182.here hx rfl (hb hby at_85) rfl rfl ?_
      show Steps p.tables e below (T182.setTop (mkF m 86 #[.val (.int p1), .val (.int p2), .val (.int p3), .val (.int (5 : Int32)), .val (.ref b1), .val (.ref bx23), .val (.ref b24), .unset] [])) _
      refine XS.iloadN X182.here hx rfl (hb hby at_86) rfl ?_
      show Steps p.tables e below (T182.setTop (mkF m 87 #[.val (.int p1), .val (.int p2), .val (.int p3), .val (.int (5 : Int32)), .val (.ref b1), .val (.ref bx23), .val (.ref b24), .unset] [(.int (5 : Int32))])) _
      refine XS.iconst X182.here hx rfl (hb hby at_87) ?_
      show Steps p.tables e below (T182.setTop (mkF m 88 #[.val (.int p1), .val (.int p2), .val (.int p3), .val (.int (5 : Int32)), .val (.ref b1), .val (.ref bx23), .val (.ref b24), .unset] [(.int (1 : Int32)), (.int (5 : Int32))])) _
      refine XS.icmpNo X182.here hx rfl (hb hby at_88) rfl (tlt (by decide : (1 : Int32) < (5 : Int32))).2.2.2 ?_
      show Steps p.tables e below (T182.setTop (mkF m 91 #[.val (.int p1), .val (.int p2), .val (.int p3), .val (.int (5 : Int32)), .val (.ref b1), .val (.ref bx23), .val (.ref b24), .unset] [])) _
      refine XS.aload X182.here hx rfl (hb hby at_91) rfl rfl ?_
      show Steps p.tables e below (T182.setTop (mkF m 93 #[.val (.int p1), .val (.int p2), .val (.int p3), .val (.int (5 : Int32)), .val (.ref b1), .val (.ref bx23), .val (.ref b24), .unset] [(.ref b24)])) _
      refine XS.aload X182.here hx rfl (hb hby at_93) rfl rfl ?_
      show Steps p.tables e below (T182.setTop (mkF m 95 #[.val (.int p1), .val (.int p2), .val (.int p3), .val (.int (5 : Int32)), .val (.ref b1), .val (.ref bx23), .val (.ref b24), .unset] [(.ref b1), (.ref b24)])) _
      refine XS.iconst X182.here hx rfl (hb hby at_95) ?_
      show Steps p.tables e below (T182.setTop (mkF m 96 #[.val (.int p1), .val (.int p2), .val (.int p3), .val (.int (5 : Int32)), .val (.ref b1), .val (.ref bx23), .val (.ref b24), .unset] [(.int (1 : Int32)), (.ref b1), (.ref b24)])) _
      refine X182.aaload hx (j := (1 : Int32)) (v := (.ref bx7)) (Ar183.1) (State.isArrayOf_alike hZ.alike Ar183.2.1) rfl Ar183.2.2 hin183 hat183 (g := (mkF m 96 #[.val (.int p1), .val (.int p2), .val (.int p3), .val (.int (5 : Int32)), .val (.ref b1), .val (.ref bx23), .val (.ref b24), .unset] [(.int (1 : Int32)), (.ref b1), (.ref b24)])) rfl rfl (hb hby at_96) _ ?_
      show Steps p.tables e below (T182.setTop (mkF m 97 #[.val (.int p1), .val (.int p2), .val (.int p3), .val (.int (5 : Int32)), .val (.ref b1), .val (.ref bx23), .val (.ref b24), .unset] [(.ref bx7), (.ref b24)])) _
      refine st186.trans ?_
      show Steps p.tables e below (T186.setTop (mkF m 100 #[.val (.int p1), .val (.int p2), .val (.int p3), .val (.int (5 : Int32)), .val (.ref b1), .val (.ref bx23), .val (.ref b24), .unset] [(.int (1 : Int32))])) _
      refine XS.pop X186.here hx rfl (hb hby at_100) rfl rfl ?_
      show Steps p.tables e below (T186.setTop (mkF m 101 #[.val (.int p1), .val (.int p2), .val (.int p3), .val (.int (5 : Int32)), .val (.ref b1), .val (.ref bx23), .val (.ref b24), .unset] [])) _
      refine XS.iloadN X186.here hx rfl (hb hby at_101) rfl ?_
      show Steps p.tables e below (T186.setTop (mkF m 102 #[.val (.int p1), .val (.int p2), .val (.int p3), .val (.int (5 : Int32)), .val (.ref b1), .val (.ref bx23), .val (.ref b24), .unset] [(.int (5 : Int32))])) _
      refine XS.iconst X186.here hx rfl (hb hby at_102) ?_
      show Steps p.tables e below (T186.setTop (mkF m 103 #[.val (.int p1), .val (.int p2), .val (.int p3), .val (.int (5 : Int32)), .val (.ref b1), .val (.ref bx23), .val (.ref b24), .unset] [(.int (2 : Int32)), (.int (5 : Int32))])) _
      refine XS.icmpNo X186.here hx rfl (hb hby at_103) rfl (tlt (by decide : (2 : Int32) < (5 : Int32))).2.2.2 ?_
      show Steps p.tables e below (T186.setTop (mkF m 106 #[.val (.int p1), .val (.int p2), .val (.int p3), .val (.int (5 : Int32)), .val (.ref b1), .val (.ref bx23), .val (.ref b24), .unset] [])) _
      refine XS.aload X186.here hx rfl (hb hby at_106) rfl rfl ?_
      show Steps p.tables e below (T186.setTop (mkF m 108 #[.val (.int p1), .val (.int p2), .val (.int p3), .val (.int (5 : Int32)), .val (.ref b1), .val (.ref bx23), .val (.ref b24), .unset] [(.ref b24)])) _
      refine XS.aload X186.here hx rfl (hb hby at_108) rfl rfl ?_
      show Steps p.tables e below (T186.setTop (mkF m 110 #[.val (.int p1), .val (.int p2), .val (.int p3), .val (.int (5 : Int32)), .val (.ref b1), .val (.ref bx23), .val (.ref b24), .unset] [(.ref b1), (.ref b24)])) _
      refine XS.iconst X186.here hx rfl (hb hby at_110) ?_
      show Steps p.tables e below (T186.setTop (mkF m 111 #[.val (.int p1), .val (.int p2), .val (.int p3), .val (.int (5 : Int32)), .val (.ref b1), .val (.ref bx23), .val (.ref b24), .unset] [(.int (2 : Int32)), (.ref b1), (.ref b24)])) _
      refine X186.aaload hx (j := (2 : Int32)) (v := (.ref bx11)) (Ar187.1) (State.isArrayOf_alike hZ.alike Ar187.2.1) rfl Ar187.2.2 hin187 hat187 (g := (mkF m 111 #[.val (.int p1), .val (.int p2), .val (.int p3), .val (.int (5 : Int32)), .val (.ref b1), .val (.ref bx23), .val (.ref b24), .unset] [(.int (2 : Int32)), (.ref b1), (.ref b24)])) rfl rfl (hb hby at_111) _ ?_
      show Steps p.tables e below (T186.setTop (mkF m 112 #[.val (.int p1), .val (.int p2), .val (.int p3), .val (.int (5 : Int32)), .val (.ref b1), .val (.ref bx23), .val (.ref b24), .unset] [(.ref bx11), (.ref b24)])) _
      refine st190.trans ?_
      show Steps p.tables e below (T190.setTop (mkF m 115 #[.val (.int p1), .val (.int p2), .val (.int p3), .val (.int (5 : Int32)), .val (.ref b1), .val (.ref bx23), .val (.ref b24), .unset] [(.int (1 : Int32))])) _
      refine XS.pop X190.here hx rfl (hb hby at_115) rfl rfl ?_
      show Steps p.tables e below (T190.setTop (mkF m 116 #[.val (.int p1), .val (.int p2), .val (.int p3), .val (.int (5 : Int32)), .val (.ref b1), .val (.ref bx23), .val (.ref b24), .unset] [])) _
      refine XS.iloadN X190.here hx rfl (hb hby at_116) rfl ?_
      show Steps p.tables e below (T190.setTop (mkF m 117 #[.val (.int p1), .val (.int p2), .val (.int p3), .val (.int (5 : Int32)), .val (.ref b1), .val (.ref bx23), .val (.ref b24), .unset] [(.int (5 : Int32))])) _
      refine XS.iconst X190.here hx rfl (hb hby at_117) ?_
      show Steps p.tables e below (T190.setTop (mkF m 118 #[.val (.int p1), .val (.int p2), .val (.int p3), .val (.int (5 : Int32)), .val (.ref b1), .val (.ref bx23), .val (.ref b24), .unset] [(.int (3 : Int32)), (.int (5 : Int32))])) _
      refine XS.icmpNo X190.here hx rfl (hb hby at_118) rfl (tlt (by decide : (3 : Int32) < (5 : Int32))).2.2.2 ?_
      show Steps p.tables e below (T190.setTop (mkF m 121 #[.val (.int p1), .val (.int p2), .val (.int p3), .val (.int (5 : Int32)), .val (.ref b1), .val (.ref bx23), .val (.ref b24), .unset] [])) _
      refine XS.aload X190.here hx rfl (hb hby at_121) rfl rfl ?_
      show Steps p.tables e below (T190.setTop (mkF m 123 #[.val (.int p1), .val (.int p2), .val (.int p3), .val (.int (5 : Int32)), .val (.ref b1), .val (.ref bx23), .val (.ref b24), .unset] [(.ref b24)])) _
      refine XS.aload X190.here hx rfl (hb hby at_123) rfl rfl ?_
      show Steps p.tables e below (T190.setTop (mkF m 125 #[.val (.int p1), .val (.int p2), .val (.int p3), .val (.int (5 : Int32)), .val (.ref b1), .val (.ref bx23), .val (.ref b24), .unset] [(.ref b1), (.ref b24)])) _
      refine XS.iconst X190.here hx rfl (hb hby at_125) ?_
      show Steps p.tables e below (T190.setTop (mkF m 126 #[.val (.int p1), .val (.int p2), .val (.int p3), .val (.int (5 : Int32)), .val (.ref b1), .val (.ref bx23), .val (.ref b24), .unset] [(.int (3 : Int32)), (.ref b1), (.ref b24)])) _
      refine X190.aaload hx (j := (3 : Int32)) (v := (.ref bx15)) (Ar191.1) (State.isArrayOf_alike hZ.alike Ar191.2.1) rfl Ar191.2.2 hin191 hat191 (g := (mkF m 126 #[.val (.int p1), .val (.int p2), .val (.int p3), .val (.int (5 : Int32)), .val (.ref b1), .val (.ref bx23), .val (.ref b24), .unset] [(.int (3 : Int32)), (.ref b1), (.ref b24)])) rfl rfl (hb hby at_126) _ ?_
      show Steps p.tables e below (T190.setTop (mkF m 127 #[.val (.int p1), .val (.int p2), .val (.int p3), .val (.int (5 : Int32)), .val (.ref b1), .val (.ref bx23), .val (.ref b24), .unset] [(.ref bx15), (.ref b24)])) _
      refine st194.trans ?_
      show Steps p.tables e below (T194.setTop (mkF m 130 #[.val (.int p1), .val (.int p2), .val (.int p3), .val (.int (5 : Int32)), .val (.ref b1), .val (.ref bx23), .val (.ref b24), .unset] [(.int (1 : Int32))])) _
      refine XS.pop X194.here hx rfl (hb hby at_130) rfl rfl ?_
      show Steps p.tables e below (T194.setTop (mkF m 131 #[.val (.int p1), .val (.int p2), .val (.int p3), .val (.int (5 : Int32)), .val (.ref b1), .val (.ref bx23), .val (.ref b24), .unset] [])) _
      refine XS.iloadN X194.here hx rfl (hb hby at_131) rfl ?_
      show Steps p.tables e below (T194.setTop (mkF m 132 #[.val (.int p1), .val (.int p2), .val (.int p3), .val (.int (5 : Int32)), .val (.ref b1), .val (.ref bx23), .val (.ref b24), .unset] [(.int (5 : Int32))])) _
      refine XS.iconst X194.here hx rfl (hb hby at_132) ?_
      show Steps p.tables e below (T194.setTop (mkF m 133 #[.val (.int p1), .val (.int p2), .val (.int p3), .val (.int (5 : Int32)), .val (.ref b1), .val (.ref bx23), .val (.ref b24), .unset] [(.int (4 : Int32)), (.int (5 : Int32))])) _
      refine XS.icmpNo X194.here hx rfl (hb hby at_133) rfl (tlt (by decide : (4 : Int32) < (5 : Int32))).2.2.2 ?_
      show Steps p.tables e below (T194.setTop (mkF m 136 #[.val (.int p1), .val (.int p2), .val (.int p3), .val (.int (5 : Int32)), .val (.ref b1), .val (.ref bx23), .val (.ref b24), .unset] [])) _
      refine XS.aload X194.here hx rfl (hb hby at_136) rfl rfl ?_
      show Steps p.tables e below (T194.setTop (mkF m 138 #[.val (.int p1), .val (.int p2), .val (.int p3), .val (.int (5 : Int32)), .val (.ref b1), .val (.ref bx23), .val (.ref b24), .unset] [(.ref b24)])) _
      refine XS.aload X194.here hx rfl (hb hby at_138) rfl rfl ?_
      show Steps p.tables e below (T194.setTop (mkF m 140 #[.val (.int p1), .val (.int p2), .val (.int p3), .val (.int (5 : Int32)), .val (.ref b1), .val (.ref bx23), .val (.ref b24), .unset] [(.ref b1), (.ref b24)])) _
      refine XS.iconst X194.here hx rfl (hb hby at_140) ?_
      show Steps p.tables e below (T194.setTop (mkF m 141 #[.val (.int p1), .val (.int p2), .val (.int p3), .val (.int (5 : Int32)), .val (.ref b1), .val (.ref bx23), .val (.ref b24), .unset] [(.int (4 : Int32)), (.ref b1), (.ref b24)])) _
      refine X194.aaload hx (j := (4 : Int32)) (v := (.ref bx19)) (Ar195.1) (State.isArrayOf_alike hZ.alike Ar195.2.1) rfl Ar195.2.2 hin195 hat195 (g := (mkF m 141 #[.val (.int p1), .val (.int p2), .val (.int p3), .val (.int (5 : Int32)), .val (.ref b1), .val (.ref bx23), .val (.ref b24), .unset] [(.int (4 : Int32)), (.ref b1), (.ref b24)])) rfl rfl (hb hby at_141) _ ?_
      show Steps p.tables e below (T194.setTop (mkF m 142 #[.val (.int p1), .val (.int p2), .val (.int p3), .val (.int (5 : Int32)), .val (.ref b1), .val (.ref bx23), .val (.ref b24), .unset] [(.ref bx19), (.ref b24)])) _
      refine st203.trans ?_
      show Steps p.tables e below (T203.setTop (mkF m 145 #[.val (.int p1), .val (.int p2), .val (.int p3), .val (.int (5 : Int32)), .val (.ref b1), .val (.ref bx23), .val (.ref b24), .unset] [(.int (1 : Int32))])) _
      refine XS.pop X203.here hx rfl (hb hby at_145) rfl rfl ?_
      show Steps p.tables e below (T203.setTop (mkF m 146 #[.val (.int p1), .val (.int p2), .val (.int p3), .val (.int (5 : Int32)), .val (.ref b1), .val (.ref bx23), .val (.ref b24), .unset] [])) _
      refine XS.iloadN X203.here hx rfl (hb hby at_146) rfl ?_
      show Steps p.tables e below (T203.setTop (mkF m 147 #[.val (.int p1), .val (.int p2), .val (.int p3), .val (.int (5 : Int32)), .val (.ref b1), .val (.ref bx23), .val (.ref b24), .unset] [(.int (5 : Int32))])) _
      refine XS.ifYes X203.here hx rfl (pc0 := 147) (pc' := 164) rfl (hb hby at_147) rfl ((if0 _ _).trans (feq (by decide : ¬ ((5 : Int32) = (0 : Int32)))).2) (by decide) (by decide) ?_
      show Steps p.tables e below (T203.setTop (mkF m 164 #[.val (.int p1), .val (.int p2), .val (.int p3), .val (.int (5 : Int32)), .val (.ref b1), .val (.ref bx23), .val (.ref b24), .unset] [])) _
      refine XS.aload X203.here hx rfl (hb hby at_164) rfl rfl ?_
      show Steps p.tables e below (T203.setTop (mkF m 166 #[.val (.int p1), .val (.int p2), .val (.int p3), .val (.int (5 : Int32)), .val (.ref b1), .val (.ref bx23), .val (.ref b24), .unset] [(.ref b24)])) _
      refine st204.trans ?_
      show Steps p.tables e below (T204.setTop (mkF m 169 #[.val (.int p1), .val (.int p2), .val (.int p3), .val (.int (5 : Int32)), .val (.ref b1), .val (.ref bx23), .val (.ref b24), .unset] [(.ref bx19)])) _
      refine XS.aload X204.here hx rfl (hb hby at_169) rfl rfl ?_
      show Steps p.tables e below (T204.setTop (mkF m 171 #[.val (.int p1), .val (.int p2), .val (.int p3), .val (.int (5 : Int32)), .val (.ref b1), .val (.ref bx23), .val (.ref b24), .unset] [(.ref b1), (.ref bx19)])) _
      refine XS.iloadN X204.here hx rfl (hb hby at_171) rfl ?_
      show Steps p.tables e below (T204.setTop (mkF m 172 #[.val (.int p1), .val (.int p2), .val (.int p3), .val (.int (5 : Int32)), .val (.ref b1), .val (.ref bx23), .val (.ref b24), .unset] [(.int (5 : Int32)), (.ref b1), (.ref bx19)])) _
      refine XS.iconst X204.here hx rfl (hb hby at_172) ?_
      show Steps p.tables e below (T204.setTop (mkF m 173 #[.val (.int p1), .val (.int p2), .val (.int p3), .val (.int (5 : Int32)), .val (.ref b1), .val (.ref bx23), .val (.ref b24), .unset] [(.int (1 : Int32)), (.int (5 : Int32)), (.ref b1), (.ref bx19)])) _
      refine XS.isub X204.here hx rfl (hb hby at_173) rfl ?_
      show Steps p.tables e below (T204.setTop (mkF m 174 #[.val (.int p1), .val (.int p2), .val (.int p3), .val (.int (5 : Int32)), .val (.ref b1), .val (.ref bx23), .val (.ref b24), .unset] [(.int ((5 : Int32) - (1 : Int32))), (.ref b1), (.ref bx19)])) _
      exact kt
    have R206 : ∀ tg, Steps p.tables e below (T204.setTop (mkF m 174 #[.val (.int p1), .val (.int p2), .val (.int p3), .val (.int (5 : Int32)), .val (.ref b1), .val (.ref bx23), .val (.ref b24), .unset] [(.int (4 : Int32)), (.ref b1), (.ref bx19)])) tg → Steps p.tables e below (T204.setTop (mkF m 174 #[.val (.int p1), .val (.int p2), .val (.int p3), .val (.int (5 : Int32)), .val (.ref b1), .val (.ref bx23), .val (.ref b24), .unset] [(.int ((5 : Int32) - (1 : Int32))), (.ref b1), (.ref bx19)])) tg := fun tg kt => by rw [(by decide : ((5 : Int32) - (1 : Int32)) = (4 : Int32))]; exact kt
    have f208 := ((f196.keep kp203 (ninS ne_b1_b24 (ninS nes_c33 (ninS nes_e33 nin0)))).keep kp204 (ninS ne_b1_b24 (ninS nes_c33 (ninS nes_e203 nin0))))
    obtain ⟨cl207, Ar207, q207, Sz207, Nn207, Ha207, Ga207⟩ := id f208
    have hin207 : ¬ ((4 : Int32) < 0 ∨ cl207.slots.size ≤ ((4 : Int32)).toNatClampNeg) := inb_of Sz207 ⟨by decide, by decide⟩
    have hat207 : cl207.slots[((4 : Int32)).toNatClampNeg]? = some (.ref bx19) := Ha207.at hin207 rfl
    have f209 := ((((((((EB23.ext E24).keep kp33).keep kp182).keep kp186).keep kp190).keep kp194).keep kp203).keep kp204)
    obtain ⟨cq210, kq210, q210a, q210b, q210c⟩ := isOf hZ rfl hC204'.1
    obtain ⟨_, _, ⟨T210, L210, k210, n210⟩, -, X210, ⟨Lc210, hQ210, l210, y210, z210⟩, st210⟩ := X204.virtualBack hx (y := (⟨"com/example/anchored_threads/anchoredthreads/internal/ChunkedList", "add", "(Ljava/lang/Object;)Z"⟩ : MethodName)) (z := (⟨"com/example/anchored_threads/anchoredthreads/internal/ChunkedList", "add", "(Ljava/lang/Object;)Z"⟩ : MethodName)) hown (mvT hZ (hw _ (List.mem_of_getElem? (i := 47) rfl))) (mvT hZ (hw _ (List.mem_of_getElem? (i := 48) rfl))) (notFace_of_selects (args := #[]) (mvT hZ (hw _ (List.mem_of_getElem? (i := 50) rfl)))) (mvT hZ (hw _ (List.mem_of_getElem? (i := 50) rfl))) (mvT hZ (hw _ (List.mem_of_getElem? (i := 49) rfl))) (by decide) (backOf (W := 0) (rmAd l Z a0 hw [] b24 bx23 ch33 ea203 kc33 ke203 (4 : Int32) mc204 (8 : Int32) [(.ref bx3), (.ref bx7), (.ref bx11), (.ref bx15), .null, .null, .null, .null] 4 T204.heap n0 Z204 hC204' f209 (by decide) (by decide) (by decide) ⟨by decide, by decide⟩ rfl (Nat.le_of_ble_eq_true rfl)) hZ (hw _ (List.mem_of_getElem? (i := 51) rfl)) (hw _ (List.mem_of_getElem? (i := 13) rfl)) (by decide) (by decide)) q210a q210c (g := (mkF m 189 #[.val (.int p1), .val (.int p2), .val (.int p3), .val (.int (5 : Int32)), .val (.ref b1), .val (.ref bx23), .val (.ref b24), .val (.int (1 : Int32))] [(.ref bx23), (.ref b24)])) rfl (by rw [hml]; rfl) (Steps.refl _) (argsL := [(.ref bx23)]) (rest := []) (lenOf pd_5 rfl) rfl (by show 2 * 0 + _ ≤ _; exact Nat.le_of_eq rfl) (hb hby at_189) (fun _ _ => ⟨rfl, rfl, (by decide : 11 + 0 ≤ _), (by decide : 27 + 0 ≤ _)⟩)
    dsimp only [Pt.U, Pt.locs, Pt.cells, Pt.slots] at X210 l210 y210 z210 st210 hQ210
    subst l210 y210 z210
    obtain ⟨hv210, N210q, kp210, mc210, hC210⟩ := hQ210
    subst hv210
    have N210 := Fr.app N204 N210q
    have Z210 : n0 ≤ T210.heap.size := Nat.le_trans Z204 kp210.1
    have hC210' : CLs Z n0 T210.heap b24 ch33 ea203 kc33 ke203 (5 : Int32) mc210 (8 : Int32) [(.ref bx3), (.ref bx7), (.ref bx11), (.ref bx15), (.ref bx23), .null, .null, .null] := by
      have q := hC210
      rw [show ((4 : Int32) + 1) = (5 : Int32) from by decide] at q
      exact q
    obtain ⟨cq211, kq211, q211a, q211b, q211c⟩ := isOf hZ rfl hC210'.1
    obtain ⟨_, _, ⟨T211, L211, k211, n211⟩, -, X211, ⟨Lc211, hQ211, l211, y211, z211⟩, st211⟩ := X210.virtualBack hx (y := (⟨"com/example/anchored_threads/anchoredthreads/internal/ChunkedList", "removeLast", "()Ljava/lang/Object;"⟩ : MethodName)) (z := (⟨"com/example/anchored_threads/anchoredthreads/internal/ChunkedList", "removeLast", "()Ljava/lang/Object;"⟩ : MethodName)) hown (mvT hZ (hw _ (List.mem_of_getElem? (i := 55) rfl))) (mvT hZ (hw _ (List.mem_of_getElem? (i := 56) rfl))) (notFace_of_selects (args := #[]) (mvT hZ (hw _ (List.mem_of_getElem? (i := 58) rfl)))) (mvT hZ (hw _ (List.mem_of_getElem? (i := 58) rfl))) (mvT hZ (hw _ (List.mem_of_getElem? (i := 57) rfl))) (by decide) (backOf (W := 1) (rmRl l Z a0 hw [] b24 ch33 ea203 kc33 ke203 (5 : Int32) mc210 (8 : Int32) (4 : Int32) [(.ref bx3), (.ref bx7), (.ref bx11), (.ref bx15), (.ref bx23), .null, .null, .null] 4 bx23 T210.heap n0 Z210 hC210' (by decide) (by decide) (by decide) (by decide) ⟨by decide, by decide⟩ rfl (Nat.le_of_ble_eq_true rfl) rfl) hZ (hw _ (List.mem_of_getElem? (i := 59) rfl)) (hw _ (List.mem_of_getElem? (i := 13) rfl)) (by decide) (by decide)) q211a q211c (g := (mkF m 197 #[.val (.int p1), .val (.int p2), .val (.int p3), .val (.int (5 : Int32)), .val (.ref b1), .val (.ref bx23), .val (.ref b24), .val (.int (1 : Int32))] [(.ref b24), (.int (1 : Int32))])) rfl (by rw [hml]; rfl) (Steps.refl _) (argsL := []) (rest := [(.int (1 : Int32))]) (lenOf pd_6 rfl) rfl (by show 2 * 0 + _ ≤ _; exact Nat.le_of_eq rfl) (hb hby at_197) (fun _ _ => ⟨rfl, rfl, (by decide : 11 + 0 ≤ _), (by decide : 27 + 0 ≤ _)⟩)
    dsimp only [Pt.U, Pt.locs, Pt.cells, Pt.slots] at X211 l211 y211 z211 st211 hQ211
    subst l211 y211 z211
    obtain ⟨hv211, N211q, kp211, mc211, hC211⟩ := hQ211
    subst hv211
    have N211 := Fr.app N210 N211q
    have Z211 : n0 ≤ T211.heap.size := Nat.le_trans Z210 kp211.1
    have hC211' : CLs Z n0 T211.heap b24 ch33 ea203 kc33 ke203 (4 : Int32) mc211 (8 : Int32) [(.ref bx3), (.ref bx7), (.ref bx11), (.ref bx15), .null, .null, .null, .null] := hC211
    have R212 : ∀ tg, Steps p.tables e below (T211.setTop (mkF m 211 #[.val (.int p1), .val (.int p2), .val (.int p3), .val (.int (5 : Int32)), .val (.ref b1), .val (.ref bx23), .val (.ref b24), .val (.int (1 : Int32))] [(.int ((1 : Int32) &&& (1 : Int32)))])) tg → Steps p.tables e below (T204.setTop (mkF m 174 #[.val (.int p1), .val (.int p2), .val (.int p3), .val (.int (5 : Int32)), .val (.ref b1), .val (.ref bx23), .val (.ref b24), .unset] [(.int (4 : Int32)), (.ref b1), (.ref bx19)])) tg := by
      intro tg kt
      refine X204.aaload hx (j := (4 : Int32)) (v := (.ref bx19)) (Ar207.1) (State.isArrayOf_alike hZ.alike Ar207.2.1) rfl Ar207.2.2 hin207 hat207 (g := (mkF m 174 #[.val (.int p1), .val (.int p2), .val (.int p3), .val (.int (5 : Int32)), .val (.ref b1), .val (.ref bx23), .val (.ref b24), .unset] [(.int (4 : Int32)), (.ref b1), (.ref bx19)])) rfl rfl (hb hby at_174) _ ?_
      show Steps p.tables e below (T204.setTop (mkF m 175 #[.val (.int p1), .val (.int p2), .val (.int p3), .val (.int (5 : Int32)), .val (.ref b1), .val (.ref bx23), .val (.ref b24), .unset] [(.ref bx19), (.ref bx19)])) _
      refine Jvm.RoadKit.acmp (g := (mkF m 175 #[.val (.int p1), .val (.int p2), .val (.int p3), .val (.int (5 : Int32)), .val (.ref b1), .val (.ref bx23), .val (.ref b24), .unset] [(.ref bx19), (.ref bx19)])) X204 hx rfl rfl rfl (pc0 := 175) (pc' := 178) (same := true) rfl (hb hby at_175) rfl (decide_eq_true rfl) (by decide) (by decide) ?_
      show Steps p.tables e below (T204.setTop (mkF m 178 #[.val (.int p1), .val (.int p2), .val (.int p3), .val (.int (5 : Int32)), .val (.ref b1), .val (.ref bx23), .val (.ref b24), .unset] [])) _
      refine XS.iconst X204.here hx rfl (hb hby at_178) ?_
      show Steps p.tables e below (T204.setTop (mkF m 179 #[.val (.int p1), .val (.int p2), .val (.int p3), .val (.int (5 : Int32)), .val (.ref b1), .val (.ref bx23), .val (.ref b24), .unset] [(.int (1 : Int32))])) _
      refine XS.goto X204.here hx rfl (pc0 := 179) (pc' := 183) rfl (hb hby at_179) (by decide) (by decide) ?_
      show Steps p.tables e below (T204.setTop (mkF m 183 #[.val (.int p1), .val (.int p2), .val (.int p3), .val (.int (5 : Int32)), .val (.ref b1), .val (.ref bx23), .val (.ref b24), .unset] [(.int (1 : Int32))])) _
      refine XS.istore X204.here hx rfl (hb hby at_183) rfl (l' := #[.val (.int p1), .val (.int p2), .val (.int p3), .val (.int (5 : Int32)), .val (.ref b1), .val (.ref bx23), .val (.ref b24), .val (.int (1 : Int32))]) rfl ?_
      show Steps p.tables e below (T204.setTop (mkF m 185 #[.val (.int p1), .val (.int p2), .val (.int p3), .val (.int (5 : Int32)), .val (.ref b1), .val (.ref bx23), .val (.ref b24), .val (.int (1 : Int32))] [])) _
      refine XS.aload X204.here hx rfl (hb hby at_185) rfl rfl ?_
      show Steps p.tables e below (T204.setTop (mkF m 187 #[.val (.int p1), .val (.int p2), .val (.int p3), .val (.int (5 : Int32)), .val (.ref b1), .val (.ref bx23), .val (.ref b24), .val (.int (1 : Int32))] [(.ref b24)])) _
      refine XS.aload X204.here hx rfl (hb hby at_187) rfl rfl ?_
      show Steps p.tables e below (T204.setTop (mkF m 189 #[.val (.int p1), .val (.int p2), .val (.int p3), .val (.int (5 : Int32)), .val (.ref b1), .val (.ref bx23), .val (.ref b24), .val (.int (1 : Int32))] [(.ref bx23), (.ref b24)])) _
      refine st210.trans ?_
      show Steps p.tables e below (T210.setTop (mkF m 192 #[.val (.int p1), .val (.int p2), .val (.int p3), .val (.int (5 : Int32)), .val (.ref b1), .val (.ref bx23), .val (.ref b24), .val (.int (1 : Int32))] [(.int (1 : Int32))])) _
      refine XS.pop X210.here hx rfl (hb hby at_192) rfl rfl ?_
      show Steps p.tables e below (T210.setTop (mkF m 193 #[.val (.int p1), .val (.int p2), .val (.int p3), .val (.int (5 : Int32)), .val (.ref b1), .val (.ref bx23), .val (.ref b24), .val (.int (1 : Int32))] [])) _
      refine XS.iload X210.here hx rfl (hb hby at_193) rfl ?_
      show Steps p.tables e below (T210.setTop (mkF m 195 #[.val (.int p1), .val (.int p2), .val (.int p3), .val (.int (5 : Int32)), .val (.ref b1), .val (.ref bx23), .val (.ref b24), .val (.int (1 : Int32))] [(.int (1 : Int32))])) _
      refine XS.aload X210.here hx rfl (hb hby at_195) rfl rfl ?_
      show Steps p.tables e below (T210.setTop (mkF m 197 #[.val (.int p1), .val (.int p2), .val (.int p3), .val (.int (5 : Int32)), .val (.ref b1), .val (.ref bx23), .val (.ref b24), .val (.int (1 : Int32))] [(.ref b24), (.int (1 : Int32))])) _
      refine st211.trans ?_
      show Steps p.tables e below (T211.setTop (mkF m 200 #[.val (.int p1), .val (.int p2), .val (.int p3), .val (.int (5 : Int32)), .val (.ref b1), .val (.ref bx23), .val (.ref b24), .val (.int (1 : Int32))] [(.ref bx23), (.int (1 : Int32))])) _
      refine XS.aload X211.here hx rfl (hb hby at_200) rfl rfl ?_
      show Steps p.tables e below (T211.setTop (mkF m 202 #[.val (.int p1), .val (.int p2), .val (.int p3), .val (.int (5 : Int32)), .val (.ref b1), .val (.ref bx23), .val (.ref b24), .val (.int (1 : Int32))] [(.ref bx23), (.ref bx23), (.int (1 : Int32))])) _
      refine Jvm.RoadKit.acmp (g := (mkF m 202 #[.val (.int p1), .val (.int p2), .val (.int p3), .val (.int (5 : Int32)), .val (.ref b1), .val (.ref bx23), .val (.ref b24), .val (.int (1 : Int32))] [(.ref bx23), (.ref bx23), (.int (1 : Int32))])) X211 hx rfl rfl rfl (pc0 := 202) (pc' := 205) (same := true) rfl (hb hby at_202) rfl (decide_eq_true rfl) (by decide) (by decide) ?_
      show Steps p.tables e below (T211.setTop (mkF m 205 #[.val (.int p1), .val (.int p2), .val (.int p3), .val (.int (5 : Int32)), .val (.ref b1), .val (.ref bx23), .val (.ref b24), .val (.int (1 : Int32))] [(.int (1 : Int32))])) _
      refine XS.iconst X211.here hx rfl (hb hby at_205) ?_
      show Steps p.tables e below (T211.setTop (mkF m 206 #[.val (.int p1), .val (.int p2), .val (.int p3), .val (.int (5 : Int32)), .val (.ref b1), .val (.ref bx23), .val (.ref b24), .val (.int (1 : Int32))] [(.int (1 : Int32)), (.int (1 : Int32))])) _
      refine XS.goto X211.here hx rfl (pc0 := 206) (pc' := 210) rfl (hb hby at_206) (by decide) (by decide) ?_
      show Steps p.tables e below (T211.setTop (mkF m 210 #[.val (.int p1), .val (.int p2), .val (.int p3), .val (.int (5 : Int32)), .val (.ref b1), .val (.ref bx23), .val (.ref b24), .val (.int (1 : Int32))] [(.int (1 : Int32)), (.int (1 : Int32))])) _
      refine XS.iand X211.here hx rfl (hb hby at_210) rfl ?_
      show Steps p.tables e below (T211.setTop (mkF m 211 #[.val (.int p1), .val (.int p2), .val (.int p3), .val (.int (5 : Int32)), .val (.ref b1), .val (.ref bx23), .val (.ref b24), .val (.int (1 : Int32))] [(.int ((1 : Int32) &&& (1 : Int32)))])) _
      exact kt
    have R213 : ∀ tg, Steps p.tables e below (T211.setTop (mkF m 211 #[.val (.int p1), .val (.int p2), .val (.int p3), .val (.int (5 : Int32)), .val (.ref b1), .val (.ref bx23), .val (.ref b24), .val (.int (1 : Int32))] [(.int (1 : Int32))])) tg → Steps p.tables e below (T211.setTop (mkF m 211 #[.val (.int p1), .val (.int p2), .val (.int p3), .val (.int (5 : Int32)), .val (.ref b1), .val (.ref bx23), .val (.ref b24), .val (.int (1 : Int32))] [(.int ((1 : Int32) &&& (1 : Int32)))])) tg := fun tg kt => by rw [(by decide : ((1 : Int32) &&& (1 : Int32)) = (1 : Int32))]; exact kt
    obtain ⟨cq214, kq214, q214a, q214b, q214c⟩ := isOf hZ rfl hC211'.1
    obtain ⟨_, _, ⟨T214, L214, k214, n214⟩, -, X214, ⟨Lc214, hQ214, l214, y214, z214⟩, st214⟩ := X211.virtualBack hx (y := (⟨"com/example/anchored_threads/anchoredthreads/internal/ChunkedList", "size", "()I"⟩ : MethodName)) (z := (⟨"com/example/anchored_threads/anchoredthreads/internal/ChunkedList", "size", "()I"⟩ : MethodName)) hown (mvT hZ (hw _ (List.mem_of_getElem? (i := 40) rfl))) (mvT hZ (hw _ (List.mem_of_getElem? (i := 41) rfl))) (notFace_of_selects (args := #[]) (mvT hZ (hw _ (List.mem_of_getElem? (i := 43) rfl)))) (mvT hZ (hw _ (List.mem_of_getElem? (i := 43) rfl))) (mvT hZ (hw _ (List.mem_of_getElem? (i := 42) rfl))) (by decide) (backOf (W := 1) (rmSz l Z a0 hw [] b24 (4 : Int32) T211.heap n0 Z211 hC211'.2.1) hZ (hw _ (List.mem_of_getElem? (i := 44) rfl)) (hw _ (List.mem_of_getElem? (i := 13) rfl)) (by decide) (by decide)) q214a q214c (g := (mkF m 217 #[.val (.int p1), .val (.int p2), .val (.int p3), .val (.int (5 : Int32)), .val (.ref b1), .val (.ref bx23), .val (.ref b24), .val (.int (1 : Int32))] [(.ref b24), (.int (1 : Int32))])) rfl (by rw [hml]; rfl) (Steps.refl _) (argsL := []) (rest := [(.int (1 : Int32))]) (lenOf pd_4 rfl) rfl (by show 2 * 0 + _ ≤ _; exact Nat.le_of_eq rfl) (hb hby at_217) (fun _ _ => ⟨rfl, rfl, (by decide : 11 + 0 ≤ _), (by decide : 27 + 0 ≤ _)⟩)
    dsimp only [Pt.U, Pt.locs, Pt.cells, Pt.slots] at X214 l214 y214 z214 st214 hQ214
    subst l214 y214 z214
    obtain ⟨hv214, N214q, r214⟩ := hQ214
    subst hv214
    have N214 := Fr.app N211 N214q
    have R215 : ∀ tg, Steps p.tables e below (T214.setTop (mkF m 223 #[.val (.int p1), .val (.int p2), .val (.int p3), .val (.int (5 : Int32)), .val (.ref b1), .val (.ref bx23), .val (.ref b24), .val (.int (1 : Int32))] [(.int ((5 : Int32) - (1 : Int32))), (.int (4 : Int32)), (.int (1 : Int32))])) tg → Steps p.tables e below (T211.setTop (mkF m 211 #[.val (.int p1), .val (.int p2), .val (.int p3), .val (.int (5 : Int32)), .val (.ref b1), .val (.ref bx23), .val (.ref b24), .val (.int (1 : Int32))] [(.int (1 : Int32))])) tg := by
      intro tg kt
      refine XS.istore X211.here hx rfl (hb hby at_211) rfl (l' := #[.val (.int p1), .val (.int p2), .val (.int p3), .val (.int (5 : Int32)), .val (.ref b1), .val (.ref bx23), .val (.ref b24), .val (.int (1 : Int32))]) rfl ?_
      show Steps p.tables e below (T211.setTop (mkF m 213 #[.val (.int p1), .val (.int p2), .val (.int p3), .val (.int (5 : Int32)), .val (.ref b1), .val (.ref bx23), .val (.ref b24), .val (.int (1 : Int32))] [])) _
      refine XS.iload X211.here hx rfl (hb hby at_213) rfl ?_
      show Steps p.tables e below (T211.setTop (mkF m 215 #[.val (.int p1), .val (.int p2), .val (.int p3), .val (.int (5 : Int32)), .val (.ref b1), .val (.ref bx23), .val (.ref b24), .val (.int (1 : Int32))] [(.int (1 : Int32))])) _
      refine XS.aload X211.here hx rfl (hb hby at_215) rfl rfl ?_
      show Steps p.tables e below (T211.setTop (mkF m 217 #[.val (.int p1), .val (.int p2), .val (.int p3), .val (.int (5 : Int32)), .val (.ref b1), .val (.ref bx23), .val (.ref b24), .val (.int (1 : Int32))] [(.ref b24), (.int (1 : Int32))])) _
      refine st214.trans ?_
      show Steps p.tables e below (T214.setTop (mkF m 220 #[.val (.int p1), .val (.int p2), .val (.int p3), .val (.int (5 : Int32)), .val (.ref b1), .val (.ref bx23), .val (.ref b24), .val (.int (1 : Int32))] [(.int (4 : Int32)), (.int (1 : Int32))])) _
      refine XS.iloadN X214.here hx rfl (hb hby at_220) rfl ?_
      show Steps p.tables e below (T214.setTop (mkF m 221 #[.val (.int p1), .val (.int p2), .val (.int p3), .val (.int (5 : Int32)), .val (.ref b1), .val (.ref bx23), .val (.ref b24), .val (.int (1 : Int32))] [(.int (5 : Int32)), (.int (4 : Int32)), (.int (1 : Int32))])) _
      refine XS.iconst X214.here hx rfl (hb hby at_221) ?_
      show Steps p.tables e below (T214.setTop (mkF m 222 #[.val (.int p1), .val (.int p2), .val (.int p3), .val (.int (5 : Int32)), .val (.ref b1), .val (.ref bx23), .val (.ref b24), .val (.int (1 : Int32))] [(.int (1 : Int32)), (.int (5 : Int32)), (.int (4 : Int32)), (.int (1 : Int32))])) _
      refine XS.isub X214.here hx rfl (hb hby at_222) rfl ?_
      show Steps p.tables e below (T214.setTop (mkF m 223 #[.val (.int p1), .val (.int p2), .val (.int p3), .val (.int (5 : Int32)), .val (.ref b1), .val (.ref bx23), .val (.ref b24), .val (.int (1 : Int32))] [(.int ((5 : Int32) - (1 : Int32))), (.int (4 : Int32)), (.int (1 : Int32))])) _
      exact kt
    have R216 : ∀ tg, Steps p.tables e below (T214.setTop (mkF m 223 #[.val (.int p1), .val (.int p2), .val (.int p3), .val (.int (5 : Int32)), .val (.ref b1), .val (.ref bx23), .val (.ref b24), .val (.int (1 : Int32))] [(.int (4 : Int32)), (.int (4 : Int32)), (.int (1 : Int32))])) tg → Steps p.tables e below (T214.setTop (mkF m 223 #[.val (.int p1), .val (.int p2), .val (.int p3), .val (.int (5 : Int32)), .val (.ref b1), .val (.ref bx23), .val (.ref b24), .val (.int (1 : Int32))] [(.int ((5 : Int32) - (1 : Int32))), (.int (4 : Int32)), (.int (1 : Int32))])) tg := fun tg kt => by rw [(by decide : ((5 : Int32) - (1 : Int32)) = (4 : Int32))]; exact kt
    have R217 : ∀ tg, Steps p.tables e below (T214.setTop (mkF m 232 #[.val (.int p1), .val (.int p2), .val (.int p3), .val (.int (5 : Int32)), .val (.ref b1), .val (.ref bx23), .val (.ref b24), .val (.int (1 : Int32))] [(.int ((1 : Int32) &&& (1 : Int32)))])) tg → Steps p.tables e below (T214.setTop (mkF m 223 #[.val (.int p1), .val (.int p2), .val (.int p3), .val (.int (5 : Int32)), .val (.ref b1), .val (.ref bx23), .val (.ref b24), .val (.int (1 : Int32))] [(.int (4 : Int32)), (.int (4 : Int32)), (.int (1 : Int32))])) tg := by
      intro tg kt
      refine XS.icmpNo X214.here hx rfl (hb hby at_223) rfl (teq (by decide : (4 : Int32) = (4 : Int32))).2 ?_
      show Steps p.tables e below (T214.setTop (mkF m 226 #[.val (.int p1), .val (.int p2), .val (.int p3), .val (.int (5 : Int32)), .val (.ref b1), .val (.ref bx23), .val (.ref b24), .val (.int (1 : Int32))] [(.int (1 : Int32))])) _
      refine XS.iconst X214.here hx rfl (hb hby at_226) ?_
      show Steps p.tables e below (T214.setTop (mkF m 227 #[.val (.int p1), .val (.int p2), .val (.int p3), .val (.int (5 : Int32)), .val (.ref b1), .val (.ref bx23), .val (.ref b24), .val (.int (1 : Int32))] [(.int (1 : Int32)), (.int (1 : Int32))])) _
      refine XS.goto X214.here hx rfl (pc0 := 227) (pc' := 231) rfl (hb hby at_227) (by decide) (by decide) ?_
      show Steps p.tables e below (T214.setTop (mkF m 231 #[.val (.int p1), .val (.int p2), .val (.int p3), .val (.int (5 : Int32)), .val (.ref b1), .val (.ref bx23), .val (.ref b24), .val (.int (1 : Int32))] [(.int (1 : Int32)), (.int (1 : Int32))])) _
      refine XS.iand X214.here hx rfl (hb hby at_231) rfl ?_
      show Steps p.tables e below (T214.setTop (mkF m 232 #[.val (.int p1), .val (.int p2), .val (.int p3), .val (.int (5 : Int32)), .val (.ref b1), .val (.ref bx23), .val (.ref b24), .val (.int (1 : Int32))] [(.int ((1 : Int32) &&& (1 : Int32)))])) _
      exact kt
    have R218 : ∀ tg, Steps p.tables e below (T214.setTop (mkF m 232 #[.val (.int p1), .val (.int p2), .val (.int p3), .val (.int (5 : Int32)), .val (.ref b1), .val (.ref bx23), .val (.ref b24), .val (.int (1 : Int32))] [(.int (1 : Int32))])) tg → Steps p.tables e below (T214.setTop (mkF m 232 #[.val (.int p1), .val (.int p2), .val (.int p3), .val (.int (5 : Int32)), .val (.ref b1), .val (.ref bx23), .val (.ref b24), .val (.int (1 : Int32))] [(.int ((1 : Int32) &&& (1 : Int32)))])) tg := fun tg kt => by rw [(by decide : ((1 : Int32) &&& (1 : Int32)) = (1 : Int32))]; exact kt
    obtain ⟨cq219, kq219, q219a, q219b, q219c⟩ := isOf hZ r214 hC211'.1
    obtain ⟨_, _, ⟨T219, L219, k219, n219⟩, -, X219, ⟨Lc219, hQ219, l219, y219, z219⟩, st219⟩ := X214.virtualBack hx (y := (⟨"com/example/anchored_threads/anchoredthreads/internal/ChunkedList", "removeLast", "()Ljava/lang/Object;"⟩ : MethodName)) (z := (⟨"com/example/anchored_threads/anchoredthreads/internal/ChunkedList", "removeLast", "()Ljava/lang/Object;"⟩ : MethodName)) hown (mvT hZ (hw _ (List.mem_of_getElem? (i := 55) rfl))) (mvT hZ (hw _ (List.mem_of_getElem? (i := 56) rfl))) (notFace_of_selects (args := #[]) (mvT hZ (hw _ (List.mem_of_getElem? (i := 58) rfl)))) (mvT hZ (hw _ (List.mem_of_getElem? (i := 58) rfl))) (mvT hZ (hw _ (List.mem_of_getElem? (i := 57) rfl))) (by decide) (backOf (W := 1) (rmRl l Z a0 hw [] b24 ch33 ea203 kc33 ke203 (4 : Int32) mc211 (8 : Int32) (3 : Int32) [(.ref bx3), (.ref bx7), (.ref bx11), (.ref bx15), .null, .null, .null, .null] 3 bx15 T211.heap n0 Z211 hC211' (by decide) (by decide) (by decide) (by decide) ⟨by decide, by decide⟩ rfl (Nat.le_of_ble_eq_true rfl) rfl) hZ (hw _ (List.mem_of_getElem? (i := 59) rfl)) (hw _ (List.mem_of_getElem? (i := 13) rfl)) (by decide) (by decide)) q219a q219c (g := (mkF m 243 #[.val (.int p1), .val (.int p2), .val (.int p3), .val (.int (5 : Int32)), .val (.ref b1), .val (.ref bx23), .val (.ref b24), .val (.int (1 : Int32))] [(.ref b24), (.int (1 : Int32))])) rfl (by rw [hml]; rfl) (Steps.refl _) (argsL := []) (rest := [(.int (1 : Int32))]) (lenOf pd_6 rfl) rfl (by show 2 * 0 + _ ≤ _; exact Nat.le_of_eq rfl) (hb hby at_243) (fun _ _ => ⟨rfl, r214, (by decide : 11 + 0 ≤ _), (by decide : 27 + 0 ≤ _)⟩)
    dsimp only [Pt.U, Pt.locs, Pt.cells, Pt.slots] at X219 l219 y219 z219 st219 hQ219
    subst l219 y219 z219
    obtain ⟨hv219, N219q, kp219, mc219, hC219⟩ := hQ219
    subst hv219
    have N219 := Fr.app N214 N219q
    have Z219 : n0 ≤ T219.heap.size := Nat.le_trans Z211 kp219.1
    have hC219' : CLs Z n0 T219.heap b24 ch33 ea203 kc33 ke203 (3 : Int32) mc219 (8 : Int32) [(.ref bx3), (.ref bx7), (.ref bx11), .null, .null, .null, .null, .null] := hC219
    have R220 : ∀ tg, Steps p.tables e below (T219.setTop (mkF m 251 #[.val (.int p1), .val (.int p2), .val (.int p3), .val (.int (5 : Int32)), .val (.ref b1), .val (.ref bx23), .val (.ref b24), .val (.int (1 : Int32))] [(.int ((5 : Int32) - (2 : Int32))), (.ref b1), (.ref bx15), (.int (1 : Int32))])) tg → Steps p.tables e below (T214.setTop (mkF m 232 #[.val (.int p1), .val (.int p2), .val (.int p3), .val (.int (5 : Int32)), .val (.ref b1), .val (.ref bx23), .val (.ref b24), .val (.int (1 : Int32))] [(.int (1 : Int32))])) tg := by
      intro tg kt
      refine XS.istore X214.here hx rfl (hb hby at_232) rfl (l' := #[.val (.int p1), .val (.int p2), .val (.int p3), .val (.int (5 : Int32)), .val (.ref b1), .val (.ref bx23), .val (.ref b24), .val (.int (1 : Int32))]) rfl ?_
      show Steps p.tables e below (T214.setTop (mkF m 234 #[.val (.int p1), .val (.int p2), .val (.int p3), .val (.int (5 : Int32)), .val (.ref b1), .val (.ref bx23), .val (.ref b24), .val (.int (1 : Int32))] [])) _
      refine XS.iloadN X214.here hx rfl (hb hby at_234) rfl ?_
      show Steps p.tables e below (T214.setTop (mkF m 235 #[.val (.int p1), .val (.int p2), .val (.int p3), .val (.int (5 : Int32)), .val (.ref b1), .val (.ref bx23), .val (.ref b24), .val (.int (1 : Int32))] [(.int (5 : Int32))])) _
      refine XS.iconst X214.here hx rfl (hb hby at_235) ?_
      show Steps p.tables e below (T214.setTop (mkF m 236 #[.val (.int p1), .val (.int p2), .val (.int p3), .val (.int (5 : Int32)), .val (.ref b1), .val (.ref bx23), .val (.ref b24), .val (.int (1 : Int32))] [(.int (2 : Int32)), (.int (5 : Int32))])) _
      refine XS.icmpNo X214.here hx rfl (hb hby at_236) rfl (flt (by decide : ¬ ((5 : Int32) < (2 : Int32)))).1 ?_
      show Steps p.tables e below (T214.setTop (mkF m 239 #[.val (.int p1), .val (.int p2), .val (.int p3), .val (.int (5 : Int32)), .val (.ref b1), .val (.ref bx23), .val (.ref b24), .val (.int (1 : Int32))] [])) _
      refine XS.iload X214.here hx rfl (hb hby at_239) rfl ?_
      show Steps p.tables e below (T214.setTop (mkF m 241 #[.val (.int p1), .val (.int p2), .val (.int p3), .val (.int (5 : Int32)), .val (.ref b1), .val (.ref bx23), .val (.ref b24), .val (.int (1 : Int32))] [(.int (1 : Int32))])) _
      refine XS.aload X214.here hx rfl (hb hby at_241) rfl rfl ?_
      show Steps p.tables e below (T214.setTop (mkF m 243 #[.val (.int p1), .val (.int p2), .val (.int p3), .val (.int (5 : Int32)), .val (.ref b1), .val (.ref bx23), .val (.ref b24), .val (.int (1 : Int32))] [(.ref b24), (.int (1 : Int32))])) _
      refine st219.trans ?_
      show Steps p.tables e below (T219.setTop (mkF m 246 #[.val (.int p1), .val (.int p2), .val (.int p3), .val (.int (5 : Int32)), .val (.ref b1), .val (.ref bx23), .val (.ref b24), .val (.int (1 : Int32))] [(.ref bx15), (.int (1 : Int32))])) _
      refine XS.aload X219.here hx rfl (hb hby at_246) rfl rfl ?_
      show Steps p.tables e below (T219.setTop (mkF m 248 #[.val (.int p1), .val (.int p2), .val (.int p3), .val (.int (5 : Int32)), .val (.ref b1), .val (.ref bx23), .val (.ref b24), .val (.int (1 : Int32))] [(.ref b1), (.ref bx15), (.int (1 : Int32))])) _
      refine XS.iloadN X219.here hx rfl (hb hby at_248) rfl ?_
      show Steps p.tables e below (T219.setTop (mkF m 249 #[.val (.int p1), .val (.int p2), .val (.int p3), .val (.int (5 : Int32)), .val (.ref b1), .val (.ref bx23), .val (.ref b24), .val (.int (1 : Int32))] [(.int (5 : Int32)), (.ref b1), (.ref bx15), (.int (1 : Int32))])) _
      refine XS.iconst X219.here hx rfl (hb hby at_249) ?_
      show Steps p.tables e below (T219.setTop (mkF m 250 #[.val (.int p1), .val (.int p2), .val (.int p3), .val (.int (5 : Int32)), .val (.ref b1), .val (.ref bx23), .val (.ref b24), .val (.int (1 : Int32))] [(.int (2 : Int32)), (.int (5 : Int32)), (.ref b1), (.ref bx15), (.int (1 : Int32))])) _
      refine XS.isub X219.here hx rfl (hb hby at_250) rfl ?_
      show Steps p.tables e below (T219.setTop (mkF m 251 #[.val (.int p1), .val (.int p2), .val (.int p3), .val (.int (5 : Int32)), .val (.ref b1), .val (.ref bx23), .val (.ref b24), .val (.int (1 : Int32))] [(.int ((5 : Int32) - (2 : Int32))), (.ref b1), (.ref bx15), (.int (1 : Int32))])) _
      exact kt
    have R221 : ∀ tg, Steps p.tables e below (T219.setTop (mkF m 251 #[.val (.int p1), .val (.int p2), .val (.int p3), .val (.int (5 : Int32)), .val (.ref b1), .val (.ref bx23), .val (.ref b24), .val (.int (1 : Int32))] [(.int (3 : Int32)), (.ref b1), (.ref bx15), (.int (1 : Int32))])) tg → Steps p.tables e below (T219.setTop (mkF m 251 #[.val (.int p1), .val (.int p2), .val (.int p3), .val (.int (5 : Int32)), .val (.ref b1), .val (.ref bx23), .val (.ref b24), .val (.int (1 : Int32))] [(.int ((5 : Int32) - (2 : Int32))), (.ref b1), (.ref bx15), (.int (1 : Int32))])) tg := fun tg kt => by rw [(by decide : ((5 : Int32) - (2 : Int32)) = (3 : Int32))]; exact kt
    have f223 := (((f208.keep kp210 (ninS ne_b1_b24 (ninS nes_c33 (ninS nes_e203 nin0)))).keep kp211 (ninS ne_b1_b24 (ninS nes_c33 (ninS nes_e203 nin0)))).keep kp219 (ninS ne_b1_b24 (ninS nes_c33 (ninS nes_e203 nin0))))
    obtain ⟨cl222, Ar222, q222, Sz222, Nn222, Ha222, Ga222⟩ := id f223
    have hin222 : ¬ ((3 : Int32) < 0 ∨ cl222.slots.size ≤ ((3 : Int32)).toNatClampNeg) := inb_of Sz222 ⟨by decide, by decide⟩
    have hat222 : cl222.slots[((3 : Int32)).toNatClampNeg]? = some (.ref bx15) := Ha222.at hin222 rfl
    have R224 : ∀ tg, Steps p.tables e below (T219.setTop (mkF m 261 #[.val (.int p1), .val (.int p2), .val (.int p3), .val (.int (5 : Int32)), .val (.ref b1), .val (.ref bx23), .val (.ref b24), .val (.int (1 : Int32))] [(.int ((1 : Int32) &&& (1 : Int32)))])) tg → Steps p.tables e below (T219.setTop (mkF m 251 #[.val (.int p1), .val (.int p2), .val (.int p3), .val (.int (5 : Int32)), .val (.ref b1), .val (.ref bx23), .val (.ref b24), .val (.int (1 : Int32))] [(.int (3 : Int32)), (.ref b1), (.ref bx15), (.int (1 : Int32))])) tg := by
      intro tg kt
      refine X219.aaload hx (j := (3 : Int32)) (v := (.ref bx15)) (Ar222.1) (State.isArrayOf_alike hZ.alike Ar222.2.1) rfl Ar222.2.2 hin222 hat222 (g := (mkF m 251 #[.val (.int p1), .val (.int p2), .val (.int p3), .val (.int (5 : Int32)), .val (.ref b1), .val (.ref bx23), .val (.ref b24), .val (.int (1 : Int32))] [(.int (3 : Int32)), (.ref b1), (.ref bx15), (.int (1 : Int32))])) rfl rfl (hb hby at_251) _ ?_
      show Steps p.tables e below (T219.setTop (mkF m 252 #[.val (.int p1), .val (.int p2), .val (.int p3), .val (.int (5 : Int32)), .val (.ref b1), .val (.ref bx23), .val (.ref b24), .val (.int (1 : Int32))] [(.ref bx15), (.ref bx15), (.int (1 : Int32))])) _
      refine Jvm.RoadKit.acmp (g := (mkF m 252 #[.val (.int p1), .val (.int p2), .val (.int p3), .val (.int (5 : Int32)), .val (.ref b1), .val (.ref bx23), .val (.ref b24), .val (.int (1 : Int32))] [(.ref bx15), (.ref bx15), (.int (1 : Int32))])) X219 hx rfl rfl rfl (pc0 := 252) (pc' := 255) (same := true) rfl (hb hby at_252) rfl (decide_eq_true rfl) (by decide) (by decide) ?_
      show Steps p.tables e below (T219.setTop (mkF m 255 #[.val (.int p1), .val (.int p2), .val (.int p3), .val (.int (5 : Int32)), .val (.ref b1), .val (.ref bx23), .val (.ref b24), .val (.int (1 : Int32))] [(.int (1 : Int32))])) _
      refine XS.iconst X219.here hx rfl (hb hby at_255) ?_
      show Steps p.tables e below (T219.setTop (mkF m 256 #[.val (.int p1), .val (.int p2), .val (.int p3), .val (.int (5 : Int32)), .val (.ref b1), .val (.ref bx23), .val (.ref b24), .val (.int (1 : Int32))] [(.int (1 : Int32)), (.int (1 : Int32))])) _
      refine XS.goto X219.here hx rfl (pc0 := 256) (pc' := 260) rfl (hb hby at_256) (by decide) (by decide) ?_
      show Steps p.tables e below (T219.setTop (mkF m 260 #[.val (.int p1), .val (.int p2), .val (.int p3), .val (.int (5 : Int32)), .val (.ref b1), .val (.ref bx23), .val (.ref b24), .val (.int (1 : Int32))] [(.int (1 : Int32)), (.int (1 : Int32))])) _
      refine XS.iand X219.here hx rfl (hb hby at_260) rfl ?_
      show Steps p.tables e below (T219.setTop (mkF m 261 #[.val (.int p1), .val (.int p2), .val (.int p3), .val (.int (5 : Int32)), .val (.ref b1), .val (.ref bx23), .val (.ref b24), .val (.int (1 : Int32))] [(.int ((1 : Int32) &&& (1 : Int32)))])) _
      exact kt
    have R225 : ∀ tg, Steps p.tables e below (T219.setTop (mkF m 261 #[.val (.int p1), .val (.int p2), .val (.int p3), .val (.int (5 : Int32)), .val (.ref b1), .val (.ref bx23), .val (.ref b24), .val (.int (1 : Int32))] [(.int (1 : Int32))])) tg → Steps p.tables e below (T219.setTop (mkF m 261 #[.val (.int p1), .val (.int p2), .val (.int p3), .val (.int (5 : Int32)), .val (.ref b1), .val (.ref bx23), .val (.ref b24), .val (.int (1 : Int32))] [(.int ((1 : Int32) &&& (1 : Int32)))])) tg := fun tg kt => by rw [(by decide : ((1 : Int32) &&& (1 : Int32)) = (1 : Int32))]; exact kt
    obtain ⟨cq226, kq226, q226a, q226b, q226c⟩ := isOf hZ rfl hC219'.1
    obtain ⟨_, _, ⟨T226, L226, k226, n226⟩, -, X226, ⟨Lc226, hQ226, l226, y226, z226⟩, st226⟩ := X219.virtualBack hx (y := (⟨"com/example/anchored_threads/anchoredthreads/internal/ChunkedList", "size", "()I"⟩ : MethodName)) (z := (⟨"com/example/anchored_threads/anchoredthreads/internal/ChunkedList", "size", "()I"⟩ : MethodName)) hown (mvT hZ (hw _ (List.mem_of_getElem? (i := 40) rfl))) (mvT hZ (hw _ (List.mem_of_getElem? (i := 41) rfl))) (notFace_of_selects (args := #[]) (mvT hZ (hw _ (List.mem_of_getElem? (i := 43) rfl)))) (mvT hZ (hw _ (List.mem_of_getElem? (i := 43) rfl))) (mvT hZ (hw _ (List.mem_of_getElem? (i := 42) rfl))) (by decide) (backOf (W := 1) (rmSz l Z a0 hw [] b24 (3 : Int32) T219.heap n0 Z219 hC219'.2.1) hZ (hw _ (List.mem_of_getElem? (i := 44) rfl)) (hw _ (List.mem_of_getElem? (i := 13) rfl)) (by decide) (by decide)) q226a q226c (g := (mkF m 267 #[.val (.int p1), .val (.int p2), .val (.int p3), .val (.int (5 : Int32)), .val (.ref b1), .val (.ref bx23), .val (.ref b24), .val (.int (1 : Int32))] [(.ref b24), (.int (1 : Int32))])) rfl (by rw [hml]; rfl) (Steps.refl _) (argsL := []) (rest := [(.int (1 : Int32))]) (lenOf pd_4 rfl) rfl (by show 2 * 0 + _ ≤ _; exact Nat.le_of_eq rfl) (hb hby at_267) (fun _ _ => ⟨rfl, rfl, (by decide : 11 + 0 ≤ _), (by decide : 27 + 0 ≤ _)⟩)
    dsimp only [Pt.U, Pt.locs, Pt.cells, Pt.slots] at X226 l226 y226 z226 st226 hQ226
    subst l226 y226 z226
    obtain ⟨hv226, N226q, r226⟩ := hQ226
    subst hv226
    have N226 := Fr.app N219 N226q
    have R227 : ∀ tg, Steps p.tables e below (T226.setTop (mkF m 273 #[.val (.int p1), .val (.int p2), .val (.int p3), .val (.int (5 : Int32)), .val (.ref b1), .val (.ref bx23), .val (.ref b24), .val (.int (1 : Int32))] [(.int ((5 : Int32) - (2 : Int32))), (.int (3 : Int32)), (.int (1 : Int32))])) tg → Steps p.tables e below (T219.setTop (mkF m 261 #[.val (.int p1), .val (.int p2), .val (.int p3), .val (.int (5 : Int32)), .val (.ref b1), .val (.ref bx23), .val (.ref b24), .val (.int (1 : Int32))] [(.int (1 : Int32))])) tg := by
      intro tg kt
      refine XS.istore X219.here hx rfl (hb hby at_261) rfl (l' := #[.val (.int p1), .val (.int p2), .val (.int p3), .val (.int (5 : Int32)), .val (.ref b1), .val (.ref bx23), .val (.ref b24), .val (.int (1 : Int32))]) rfl ?_
      show Steps p.tables e below (T219.setTop (mkF m 263 #[.val (.int p1), .val (.int p2), .val (.int p3), .val (.int (5 : Int32)), .val (.ref b1), .val (.ref bx23), .val (.ref b24), .val (.int (1 : Int32))] [])) _
      refine XS.iload X219.here hx rfl (hb hby at_263) rfl ?_
      show Steps p.tables e below (T219.setTop (mkF m 265 #[.val (.int p1), .val (.int p2), .val (.int p3), .val (.int (5 : Int32)), .val (.ref b1), .val (.ref bx23), .val (.ref b24), .val (.int (1 : Int32))] [(.int (1 : Int32))])) _
      refine XS.aload X219.here hx rfl (hb hby at_265) rfl rfl ?_
      show Steps p.tables e below (T219.setTop (mkF m 267 #[.val (.int p1), .val (.int p2), .val (.int p3), .val (.int (5 : Int32)), .val (.ref b1), .val (.ref bx23), .val (.ref b24), .val (.int (1 : Int32))] [(.ref b24), (.int (1 : Int32))])) _
      refine st226.trans ?_
      show Steps p.tables e below (T226.setTop (mkF m 270 #[.val (.int p1), .val (.int p2), .val (.int p3), .val (.int (5 : Int32)), .val (.ref b1), .val (.ref bx23), .val (.ref b24), .val (.int (1 : Int32))] [(.int (3 : Int32)), (.int (1 : Int32))])) _
      refine XS.iloadN X226.here hx rfl (hb hby at_270) rfl ?_
      show Steps p.tables e below (T226.setTop (mkF m 271 #[.val (.int p1), .val (.int p2), .val (.int p3), .val (.int (5 : Int32)), .val (.ref b1), .val (.ref bx23), .val (.ref b24), .val (.int (1 : Int32))] [(.int (5 : Int32)), (.int (3 : Int32)), (.int (1 : Int32))])) _
      refine XS.iconst X226.here hx rfl (hb hby at_271) ?_
      show Steps p.tables e below (T226.setTop (mkF m 272 #[.val (.int p1), .val (.int p2), .val (.int p3), .val (.int (5 : Int32)), .val (.ref b1), .val (.ref bx23), .val (.ref b24), .val (.int (1 : Int32))] [(.int (2 : Int32)), (.int (5 : Int32)), (.int (3 : Int32)), (.int (1 : Int32))])) _
      refine XS.isub X226.here hx rfl (hb hby at_272) rfl ?_
      show Steps p.tables e below (T226.setTop (mkF m 273 #[.val (.int p1), .val (.int p2), .val (.int p3), .val (.int (5 : Int32)), .val (.ref b1), .val (.ref bx23), .val (.ref b24), .val (.int (1 : Int32))] [(.int ((5 : Int32) - (2 : Int32))), (.int (3 : Int32)), (.int (1 : Int32))])) _
      exact kt
    have R228 : ∀ tg, Steps p.tables e below (T226.setTop (mkF m 273 #[.val (.int p1), .val (.int p2), .val (.int p3), .val (.int (5 : Int32)), .val (.ref b1), .val (.ref bx23), .val (.ref b24), .val (.int (1 : Int32))] [(.int (3 : Int32)), (.int (3 : Int32)), (.int (1 : Int32))])) tg → Steps p.tables e below (T226.setTop (mkF m 273 #[.val (.int p1), .val (.int p2), .val (.int p3), .val (.int (5 : Int32)), .val (.ref b1), .val (.ref bx23), .val (.ref b24), .val (.int (1 : Int32))] [(.int ((5 : Int32) - (2 : Int32))), (.int (3 : Int32)), (.int (1 : Int32))])) tg := fun tg kt => by rw [(by decide : ((5 : Int32) - (2 : Int32)) = (3 : Int32))]; exact kt
    have R229 : ∀ tg, Steps p.tables e below (T226.setTop (mkF m 282 #[.val (.int p1), .val (.int p2), .val (.int p3), .val (.int (5 : Int32)), .val (.ref b1), .val (.ref bx23), .val (.ref b24), .val (.int (1 : Int32))] [(.int ((1 : Int32) &&& (1 : Int32)))])) tg → Steps p.tables e below (T226.setTop (mkF m 273 #[.val (.int p1), .val (.int p2), .val (.int p3), .val (.int (5 : Int32)), .val (.ref b1), .val (.ref bx23), .val (.ref b24), .val (.int (1 : Int32))] [(.int (3 : Int32)), (.int (3 : Int32)), (.int (1 : Int32))])) tg := by
      intro tg kt
      refine XS.icmpNo X226.here hx rfl (hb hby at_273) rfl (teq (by decide : (3 : Int32) = (3 : Int32))).2 ?_
      show Steps p.tables e below (T226.setTop (mkF m 276 #[.val (.int p1), .val (.int p2), .val (.int p3), .val (.int (5 : Int32)), .val (.ref b1), .val (.ref bx23), .val (.ref b24), .val (.int (1 : Int32))] [(.int (1 : Int32))])) _
      refine XS.iconst X226.here hx rfl (hb hby at_276) ?_
      show Steps p.tables e below (T226.setTop (mkF m 277 #[.val (.int p1), .val (.int p2), .val (.int p3), .val (.int (5 : Int32)), .val (.ref b1), .val (.ref bx23), .val (.ref b24), .val (.int (1 : Int32))] [(.int (1 : Int32)), (.int (1 : Int32))])) _
      refine XS.goto X226.here hx rfl (pc0 := 277) (pc' := 281) rfl (hb hby at_277) (by decide) (by decide) ?_
      show Steps p.tables e below (T226.setTop (mkF m 281 #[.val (.int p1), .val (.int p2), .val (.int p3), .val (.int (5 : Int32)), .val (.ref b1), .val (.ref bx23), .val (.ref b24), .val (.int (1 : Int32))] [(.int (1 : Int32)), (.int (1 : Int32))])) _
      refine XS.iand X226.here hx rfl (hb hby at_281) rfl ?_
      show Steps p.tables e below (T226.setTop (mkF m 282 #[.val (.int p1), .val (.int p2), .val (.int p3), .val (.int (5 : Int32)), .val (.ref b1), .val (.ref bx23), .val (.ref b24), .val (.int (1 : Int32))] [(.int ((1 : Int32) &&& (1 : Int32)))])) _
      exact kt
    have R230 : ∀ tg, Steps p.tables e below (T226.setTop (mkF m 282 #[.val (.int p1), .val (.int p2), .val (.int p3), .val (.int (5 : Int32)), .val (.ref b1), .val (.ref bx23), .val (.ref b24), .val (.int (1 : Int32))] [(.int (1 : Int32))])) tg → Steps p.tables e below (T226.setTop (mkF m 282 #[.val (.int p1), .val (.int p2), .val (.int p3), .val (.int (5 : Int32)), .val (.ref b1), .val (.ref bx23), .val (.ref b24), .val (.int (1 : Int32))] [(.int ((1 : Int32) &&& (1 : Int32)))])) tg := fun tg kt => by rw [(by decide : ((1 : Int32) &&& (1 : Int32)) = (1 : Int32))]; exact kt
    obtain ⟨fs, hr, hrun, hended, hW, hsame⟩ := X226.leave (v := some (.int (1 : Int32))) (fun h => by rw [Bd.returns] at h; cases h)
    refine ⟨_, _, pre0 _ (R34 _ (R178 _ (R205 _ (R206 _ (R212 _ (R213 _ (R215 _ (R216 _ (R217 _ (R218 _ (R220 _ (R221 _ (R224 _ (R225 _ (R227 _ (R228 _ (R229 _ (R230 _ ?_)))))))))))))))))), hrun, hended, _, _, rfl, ?_, ⟨_, rfl⟩, hW, hsame.mono (by decide) (by decide)⟩
    · show Steps p.tables e below (T226.setTop (mkF m 282 #[.val (.int p1), .val (.int p2), .val (.int p3), .val (.int (5 : Int32)), .val (.ref b1), .val (.ref bx23), .val (.ref b24), .val (.int (1 : Int32))] [(.int (1 : Int32))])) _
      refine XS.istore X226.here hx rfl (hb hby at_282) rfl (l' := #[.val (.int p1), .val (.int p2), .val (.int p3), .val (.int (5 : Int32)), .val (.ref b1), .val (.ref bx23), .val (.ref b24), .val (.int (1 : Int32))]) rfl ?_
      show Steps p.tables e below (T226.setTop (mkF m 284 #[.val (.int p1), .val (.int p2), .val (.int p3), .val (.int (5 : Int32)), .val (.ref b1), .val (.ref bx23), .val (.ref b24), .val (.int (1 : Int32))] [])) _
      refine XS.iload X226.here hx rfl (hb hby at_284) rfl ?_
      show Steps p.tables e below (T226.setTop (mkF m 286 #[.val (.int p1), .val (.int p2), .val (.int p3), .val (.int (5 : Int32)), .val (.ref b1), .val (.ref bx23), .val (.ref b24), .val (.int (1 : Int32))] [(.int (1 : Int32))])) _
      exact retN X226 hx (t := .boolean) Bd.returns (by simp) (hb hby at_286) hr
    · show Q0 n0 _ T226.heap _
      rw [r226]
      exact ⟨rfl, N226⟩
set_option maxRecDepth 65536 in
set_option maxHeartbeats 40000000 in
theorem comes_1 {Post : Tables → Env → Array Value → State → Outcome → State → Prop} (hpost : ∀ tb e args s v u, (limb_1_1.after args s (.returned v) u = true ∧ limb_1_2.after args s (.returned v) u = true ∧ True) → FrameEnd s (.returned v) u (Jvm.fieldLocs frame_1_writes args s ++ Jvm.arrayLocs frame_1_arrays args s ++ Jvm.staticLocs frame_1_statics s) 32 128 → Post tb e args s (.returned v) u) :
    ArmFor flags0 classFile x code maxLocals ret World_1 tables_1 room_1 Calls_1 rest_1 Pre_1 Post := by
  intro l hfl _ _ p e ha hc hk s m args below hf hA hF happ hP
  obtain ⟨hcalls, hrest, hpre⟩ := hP
  obtain ⟨-, -, -, hnamed, -, -, -, hat⟩ := (Spec.applies_iff hf).mp happ
  obtain ⟨hg, hn⟩ := and_e (Cond.before_iff.mp (show (Jvm.Cond.and given_1 narrow_1).before args s = true from hpre))
  obtain ⟨g1a, g1b⟩ := and_e hg
  obtain ⟨g2a, g2b⟩ := and_e g1b
  obtain ⟨g3a, g3b⟩ := and_e g2b
  obtain ⟨w0, w1, w2, rfl⟩ : ∃ w0 w1 w2 : Value, args = #[w0, w1, w2] := by
    have hs : args.size = 3 := by simpa [Cond.value, given_1] using g1a
    obtain ⟨L⟩ := args
    match L, hs with
    | [w0, w1, w2], _ => exact ⟨w0, w1, w2, rfl⟩
  have hw := fun d (hd : d ∈ tables_1) => atoms_spec (ws := Jvm.Cond.code x code maxLocals ret :: tables_1) hat d (List.mem_cons_of_mem _ hd)
  have hfit : Fit s := fun {y c} hc i hi => by
    obtain ⟨ha, rfl⟩ := Array.getElem?_eq_some_iff.mp hc
    have q := List.all_eq_true.mp ((Array.all_eq_true_iff_forall_mem.mp hF) _ (Array.getElem_mem ha)) i (List.mem_range.mpr hi)
    simpa [Array.getElem?_eq_getElem hi] using q
  obtain ⟨hsets, hown0⟩ := atoms_of _ (rest_1_c_eq ▸ (show rest_1_c.before _ s = true from hrest))
  have hr0 := Cond.before_iff.mp hown0
  obtain ⟨i0, ei0⟩ := is_v g2a
  obtain rfl : w0 = (.int i0) := Option.some.inj ei0
  obtain ⟨i1, ei1⟩ := is_v g3a
  obtain rfl : w1 = (.int i1) := Option.some.inj ei1
  obtain ⟨i2, ei2⟩ := is_v g3b
  obtain rfl : w2 = (.int i2) := Option.some.inj ei2
  obtain ⟨ca, eca⟩ := arr_v (Cond.before_iff.mp (hsets _ (List.mem_of_getElem? (i := 4) rfl)))
  have hS1 := Sta.start eca (Or.inr ⟨hw _ (List.mem_of_getElem? (i := 8) rfl), hsets _ (List.mem_of_getElem? (i := 2) rfl)⟩)
  have hS0 := Sta.start (eqv_i (Term.int_eval 127) (Cond.before_iff.mp (hsets _ (List.mem_of_getElem? (i := 3) rfl)))) (Or.inl (hsets _ (List.mem_of_getElem? (i := 1) rfl)))
  obtain ⟨cc, hA1⟩ := Arr.start eca (Cond.before_iff.mp (hsets _ (List.mem_of_getElem? (i := 4) rfl)))
  have hB1 := own_bxs (fun idx => eca) hA1 (hsets _ (List.mem_of_getElem? (i := 6) rfl)) (hsets _ (List.mem_of_getElem? (i := 7) rfl))
  obtain ⟨mc_, mk_, mm_, hm1, hm2, hm3, -⟩ := hcalls.1
  obtain ⟨n, o, h1, h2, h3, _, L, rfl, ⟨rfl, N⟩, hq⟩ := rm0 l s _ hw tables_1 i0 i1 i2 ca cc s.heap s.heap.size (Nat.le_refl _) (Old.start s) hS0 hS1 hB1 ⟨mc_, mk_, mm_, hm1, hm2, hm3⟩ p e ha hc hk s m _ below hf ((Spec.applies_iff_loose hf).mp happ).1 ⟨rfl, State.Warmed39.refl s, rfl⟩ trivial
  refine ⟨n, _, h1, h2, h3, hpost _ _ _ _ _ _ ⟨Cond.after_iff.mpr rfl, Cond.after_iff.mpr (eq_i res_at (Term.int_eval (1)) rfl), trivial⟩ ⟨hq.1, hq.2.1, (hq.2.2.sift fun y hy => Or.inr (N y hy)).mono (by decide) (by decide)⟩⟩
theorem main_1_1 : Claimed_1_1 := comes_1 fun _ _ _ _ _ _ h hF => ⟨h.1, hF⟩
theorem main_1_2 : Claimed_1_2 := comes_1 fun _ _ _ _ _ _ h hF => ⟨h.2.1, hF⟩
end Jvm.Pilot.@@N@@
namespace Jvm.Pilot.@@N@@
open Jvm Jvm.ClassFile Sem Op Lib Jvm.Free Jvm.Stand Jvm.Pilot.@@N@@.Jvm.D
/-! MADE BY PROGRAM (witnessworld.py) out of the Statement's table words and the real class files: 27 classes; the members and pool entries that the words name. The judged class is class 1, her method 1. -/
namespace start1
open Jvm.ClassFile
def u (s : String) : CpInfo := .utf8 (stringToUtf16 s)
/-- a pool by its gaps: so many unusable entries, then the entry; so many at the end -/
def gap : Nat → List CpInfo → List CpInfo
  | 0, r => r
  | n + 1, r => .unusable :: gap n r
def poolList (es : List (Nat × CpInfo)) (last : Nat) : List CpInfo := es.foldr (fun e r => gap e.1 (e.2 :: r)) (gap last [])
def pool (es : List (Nat × CpInfo)) (last : Nat) : Array CpInfo := ⟨poolList es last⟩
def fileOf (pool : Array CpInfo) (this : Nat) (attrs : Array Attribute := #[]) (ms : Array MethodInfo := #[]) (fl : Nat := 33) (sup : Nat := 0) (ifs : Array Nat := #[]) (fds : Array FieldInfo := #[]) : ClassFile where
  minorVersion := 0
  majorVersion := 65
  constantPool := pool
  accessFlags := fl
  thisClass := this
  superClass := sup
  interfaces := ifs
  fields := fds
  methods := ms
  attributes := attrs
def plain (name : String) (sup : Option ClassId) : Class where
  name := name
  kind := .ordinary
  loader := none
  accessFlags := 33
  super := sup
  interfaces := #[]
  cf := none
  fields := #[]
  methods := #[]
  instanceTypes := #[]
  staticTypes := #[]
  resolved := #[]
  callSites := []
  init := .initialized
  statics := none
  mirror := none

def pool0 : Array CpInfo := pool [(5, u "<init>"), (0, u "()V"), (1, .class_ 10), (1, u "java/lang/Object"), (0, u "getClass"), (0, u "()Ljava/lang/Class;")] 111

def k0c0 : Code := { maxStack := 0, maxLocals := 1, code := object_method_1_code, exceptionTable := #[], attributes := #[] }
def k0m0 : Method := { name := "<init>", desc := "()V", sig := { parameters := [], returnType := none }, accessFlags := 1, code := some k0c0 }
def k0m1 : Method := { name := "getClass", desc := "()Ljava/lang/Class;", sig := { parameters := [], returnType := some (.object "java/lang/Class") }, accessFlags := 273, code := none }
/-- java/lang/Object -/
def k0 : Class := { plain "java/lang/Object" none with
  accessFlags := 33
  interfaces := #[]
  cf := some (fileOf pool0 8 #[] #[{ accessFlags := 1, nameIndex := 5, descriptorIndex := 6, attributes := #[] }, { accessFlags := 273, nameIndex := 11, descriptorIndex := 12, attributes := #[] }] 33 0 #[] #[])
  fields := #[]
  methods := #[k0m0, k0m1]
  instanceTypes := #[]
  staticTypes := #[]
  resolved := Array.replicate 124 none
  statics := none }

def pool1 : Array CpInfo := pool [(2, .class_ 4), (0, .nameAndType 5 6), (0, u "java/lang/Object"), (0, u "<init>"), (0, u "()V"), (0, .integer 2147483647), (0, .class_ 9), (0, u "java/lang/Integer"), (0, .methodref 8 11), (0, .nameAndType 12 13), (0, u "valueOf"), (0, u "(I)Ljava/lang/Integer;"), (0, .class_ 15), (0, u "com/example/anchored_threads/anchoredthreads/internal/ChunkedList"), (0, .methodref 14 3), (0, .methodref 14 18), (0, .nameAndType 19 20), (0, u "add"), (0, u "(Ljava/lang/Object;)Z"), (0, .methodref 14 22), (0, .nameAndType 23 24), (0, u "size"), (0, u "()I"), (0, .methodref 14 26), (0, .nameAndType 27 28), (0, u "removeLast"), (0, u "()Ljava/lang/Object;"), (0, .class_ 30), (0, u "com/example/anchored_threads/anchoredthreads/internal/ChunkedListRemoveLastPinLaw"), (2, u "law"), (0, u "(III)Z")] 5

def k1m0 : Method := { name := "<init>", desc := "()V", sig := { parameters := [], returnType := none }, accessFlags := 1, code := none }
def k1c1 : Code := { maxStack := 5, maxLocals := 8, code := code, exceptionTable := #[], attributes := #[] }
def k1m1 : Method := { name := "law", desc := "(III)Z", sig := { parameters := [.int, .int, .int], returnType := some .boolean }, accessFlags := 9, code := some k1c1 }
/-- com/example/anchored_threads/anchoredthreads/internal/ChunkedListRemoveLastPinLaw -/
def k1 : Class := { plain "com/example/anchored_threads/anchoredthreads/internal/ChunkedListRemoveLastPinLaw" (some 0) with
  accessFlags := 49
  interfaces := #[]
  cf := some (fileOf pool1 29 #[] #[{ accessFlags := 1, nameIndex := 5, descriptorIndex := 6, attributes := #[] }, { accessFlags := 9, nameIndex := 33, descriptorIndex := 34, attributes := #[] }] 49 2 #[] #[])
  fields := #[]
  methods := #[k1m0, k1m1]
  instanceTypes := #[]
  staticTypes := #[]
  resolved := Array.replicate 40 none
  statics := none }

def pool2 : Array CpInfo := pool [(1, .class_ 2), (0, u "java/io/Serializable"), (0, .class_ 4), (0, u "java/lang/Object")] 2

/-- java/io/Serializable -/
def k2 : Class := { plain "java/io/Serializable" (some 0) with
  accessFlags := 1537
  interfaces := #[]
  cf := some (fileOf pool2 1 #[] #[] 1537 3 #[] #[])
  fields := #[]
  methods := #[]
  instanceTypes := #[]
  staticTypes := #[]
  resolved := Array.replicate 7 none
  statics := none }

def pool3 : Array CpInfo := pool [(1, .methodref 2 3), (0, .class_ 4), (0, .nameAndType 5 6), (0, u "java/lang/Object"), (0, u "<init>"), (0, u "()V"), (1, .class_ 10), (1, u "java/lang/Number"), (2, .class_ 14), (0, u "java/io/Serializable"), (0, u "serialVersionUID"), (0, u "J")] 20

def k3c0 : Code := { maxStack := 1, maxLocals := 1, code := jdk_18_method_1_code, exceptionTable := #[], attributes := #[] }
def k3m0 : Method := { name := "<init>", desc := "()V", sig := { parameters := [], returnType := none }, accessFlags := 1, code := some k3c0 }
/-- java/lang/Number -/
def k3 : Class := { plain "java/lang/Number" (some 0) with
  accessFlags := 1057
  interfaces := #[2]
  cf := some (fileOf pool3 8 #[] #[{ accessFlags := 1, nameIndex := 5, descriptorIndex := 6, attributes := #[] }] 1057 2 #[13] #[{ accessFlags := 26, nameIndex := 15, descriptorIndex := 16, attributes := #[] }])
  fields := #[{ name := "serialVersionUID", type := .long, accessFlags := 26, slot := 0, constantValue := 0 }]
  methods := #[k3m0]
  instanceTypes := #[]
  staticTypes := #[.long]
  resolved := Array.replicate 37 none
  statics := none }

def pool4 : Array CpInfo := pool [(1, .class_ 2), (0, u "java/lang/Comparable"), (0, .class_ 4), (0, u "java/lang/Object")] 7

/-- java/lang/Comparable -/
def k4 : Class := { plain "java/lang/Comparable" (some 0) with
  accessFlags := 1537
  interfaces := #[]
  cf := some (fileOf pool4 1 #[] #[] 1537 3 #[] #[])
  fields := #[]
  methods := #[]
  instanceTypes := #[]
  staticTypes := #[]
  resolved := Array.replicate 12 none
  statics := none }

def pool5 : Array CpInfo := pool [(1, .class_ 2), (0, u "java/lang/constant/Constable"), (0, .class_ 4), (0, u "java/lang/Object")] 6

/-- java/lang/constant/Constable -/
def k5 : Class := { plain "java/lang/constant/Constable" (some 0) with
  accessFlags := 1537
  interfaces := #[]
  cf := some (fileOf pool5 1 #[] #[] 1537 3 #[] #[])
  fields := #[]
  methods := #[]
  instanceTypes := #[]
  staticTypes := #[]
  resolved := Array.replicate 11 none
  statics := none }

def pool6 : Array CpInfo := pool [(1, .class_ 2), (0, u "java/lang/constant/ConstantDesc"), (0, .class_ 4), (0, u "java/lang/Object")] 32

/-- java/lang/constant/ConstantDesc -/
def k6 : Class := { plain "java/lang/constant/ConstantDesc" (some 0) with
  accessFlags := 1537
  interfaces := #[]
  cf := some (fileOf pool6 1 #[] #[] 1537 3 #[] #[])
  fields := #[]
  methods := #[]
  instanceTypes := #[]
  staticTypes := #[]
  resolved := Array.replicate 37 none
  statics := none }

def pool7 : Array CpInfo := pool [(1, .class_ 2), (0, u "java/lang/Integer"), (16, u "digits"), (0, u "[C"), (46, u "<init>"), (17, u "DigitOnes"), (0, u "[B"), (2, u "DigitTens"), (10, .nameAndType 67 101), (0, u "()V"), (85, u "valueOf"), (0, u "(I)Ljava/lang/Integer;"), (0, .class_ 190), (0, u "java/lang/Integer$IntegerCache"), (0, .fieldref 189 192), (0, .nameAndType 193 194), (0, u "high"), (0, u "I"), (0, .fieldref 189 196), (0, .nameAndType 197 198), (0, u "cache"), (0, u "[Ljava/lang/Integer;"), (0, .methodref 1 200), (0, .nameAndType 67 201), (0, u "(I)V"), (0, .methodref 203 100), (0, .class_ 204), (0, u "java/lang/Number"), (0, .fieldref 1 206), (0, .nameAndType 207 194), (0, u "value"), (94, u "TYPE"), (0, u "Ljava/lang/Class;"), (0, .class_ 305), (0, u "java/lang/Comparable"), (0, .class_ 307), (0, u "java/lang/constant/Constable"), (0, .class_ 309), (0, u "java/lang/constant/ConstantDesc"), (0, u "MIN_VALUE"), (1, u "MAX_VALUE"), (3, u "SIZE"), (1, u "BYTES"), (1, u "serialVersionUID"), (0, u "J")] 131

def k7c0 : Code := { maxStack := 3, maxLocals := 1, code := jdk_33_method_22_code, exceptionTable := #[], attributes := #[] }
def k7m0 : Method := { name := "valueOf", desc := "(I)Ljava/lang/Integer;", sig := { parameters := [.int], returnType := some (.object "java/lang/Integer") }, accessFlags := 9, code := some k7c0 }
def k7c1 : Code := { maxStack := 2, maxLocals := 2, code := jdk_33_method_23_code, exceptionTable := #[], attributes := #[] }
def k7m1 : Method := { name := "<init>", desc := "(I)V", sig := { parameters := [.int], returnType := none }, accessFlags := 1, code := some k7c1 }
/-- java/lang/Integer -/
def k7 : Class := { plain "java/lang/Integer" (some 3) with
  accessFlags := 49
  interfaces := #[4, 5, 6]
  cf := some (fileOf pool7 1 #[.nestMembers #[189]] #[{ accessFlags := 9, nameIndex := 187, descriptorIndex := 188, attributes := #[] }, { accessFlags := 1, nameIndex := 67, descriptorIndex := 201, attributes := #[] }] 49 203 #[304, 306, 308] #[{ accessFlags := 25, nameIndex := 310, descriptorIndex := 194, attributes := #[] }, { accessFlags := 25, nameIndex := 312, descriptorIndex := 194, attributes := #[] }, { accessFlags := 25, nameIndex := 302, descriptorIndex := 303, attributes := #[] }, { accessFlags := 24, nameIndex := 19, descriptorIndex := 20, attributes := #[] }, { accessFlags := 24, nameIndex := 89, descriptorIndex := 86, attributes := #[] }, { accessFlags := 24, nameIndex := 85, descriptorIndex := 86, attributes := #[] }, { accessFlags := 18, nameIndex := 207, descriptorIndex := 194, attributes := #[] }, { accessFlags := 25, nameIndex := 316, descriptorIndex := 194, attributes := #[] }, { accessFlags := 25, nameIndex := 318, descriptorIndex := 194, attributes := #[] }, { accessFlags := 26, nameIndex := 320, descriptorIndex := 321, attributes := #[] }])
  fields := #[{ name := "MIN_VALUE", type := .int, accessFlags := 25, slot := 0, constantValue := 0 }, { name := "MAX_VALUE", type := .int, accessFlags := 25, slot := 1, constantValue := 0 }, { name := "TYPE", type := (.object "java/lang/Class"), accessFlags := 25, slot := 2, constantValue := 0 }, { name := "digits", type := (.array .char), accessFlags := 24, slot := 3, constantValue := 0 }, { name := "DigitTens", type := (.array .byte), accessFlags := 24, slot := 4, constantValue := 0 }, { name := "DigitOnes", type := (.array .byte), accessFlags := 24, slot := 5, constantValue := 0 }, { name := "value", type := .int, accessFlags := 18, slot := 0, constantValue := 0 }, { name := "SIZE", type := .int, accessFlags := 25, slot := 6, constantValue := 0 }, { name := "BYTES", type := .int, accessFlags := 25, slot := 7, constantValue := 0 }, { name := "serialVersionUID", type := .long, accessFlags := 26, slot := 8, constantValue := 0 }]
  methods := #[k7m0, k7m1]
  instanceTypes := #[.int]
  staticTypes := #[.int, .int, (.object "java/lang/Class"), (.array .char), (.array .byte), (.array .byte), .int, .int, .long]
  resolved := Array.replicate 453 none
  statics := none }

def pool8 : Array CpInfo := pool [(2, .class_ 4), (1, u "java/lang/Object"), (0, u "<init>"), (0, u "()V"), (0, .class_ 8), (0, u "java/lang/Integer"), (7, .class_ 18), (1, u "java/lang/Integer$IntegerCache"), (0, u "$assertionsDisabled"), (0, u "Z"), (26, u "high"), (0, u "I"), (8, u "archivedCache"), (0, u "[Ljava/lang/Integer;"), (12, u "cache"), (0, u "low")] 27

def k8m0 : Method := { name := "<init>", desc := "()V", sig := { parameters := [], returnType := none }, accessFlags := 2, code := none }
/-- java/lang/Integer$IntegerCache -/
def k8 : Class := { plain "java/lang/Integer$IntegerCache" (some 0) with
  accessFlags := 48
  interfaces := #[]
  cf := some (fileOf pool8 16 #[.nestHost 7] #[{ accessFlags := 2, nameIndex := 5, descriptorIndex := 6, attributes := #[] }] 48 2 #[] #[{ accessFlags := 24, nameIndex := 72, descriptorIndex := 48, attributes := #[] }, { accessFlags := 24, nameIndex := 47, descriptorIndex := 48, attributes := #[] }, { accessFlags := 24, nameIndex := 71, descriptorIndex := 58, attributes := #[] }, { accessFlags := 8, nameIndex := 57, descriptorIndex := 58, attributes := #[] }, { accessFlags := 4120, nameIndex := 19, descriptorIndex := 20, attributes := #[] }])
  fields := #[{ name := "low", type := .int, accessFlags := 24, slot := 0, constantValue := 0 }, { name := "high", type := .int, accessFlags := 24, slot := 1, constantValue := 0 }, { name := "cache", type := (.array (.object "java/lang/Integer")), accessFlags := 24, slot := 2, constantValue := 0 }, { name := "archivedCache", type := (.array (.object "java/lang/Integer")), accessFlags := 8, slot := 3, constantValue := 0 }, { name := "$assertionsDisabled", type := .boolean, accessFlags := 4120, slot := 4, constantValue := 0 }]
  methods := #[k8m0]
  instanceTypes := #[]
  staticTypes := #[.int, .int, (.array (.object "java/lang/Integer")), (.array (.object "java/lang/Integer")), .boolean]
  resolved := Array.replicate 100 none
  statics := some 0 }

def pool9 : Array CpInfo := pool [(8, .class_ 10), (1, u "java/lang/Iterable"), (24, .class_ 36), (0, u "java/lang/Object")] 25

/-- java/lang/Iterable -/
def k9 : Class := { plain "java/lang/Iterable" (some 0) with
  accessFlags := 1537
  interfaces := #[]
  cf := some (fileOf pool9 8 #[] #[] 1537 35 #[] #[])
  fields := #[]
  methods := #[]
  instanceTypes := #[]
  staticTypes := #[]
  resolved := Array.replicate 62 none
  statics := none }

def pool10 : Array CpInfo := pool [(10, .class_ 12), (1, u "java/util/Collection"), (47, .class_ 61), (0, u "java/lang/Object"), (0, .class_ 63), (0, u "java/lang/Iterable")] 51

/-- java/util/Collection -/
def k10 : Class := { plain "java/util/Collection" (some 0) with
  accessFlags := 1537
  interfaces := #[9]
  cf := some (fileOf pool10 10 #[] #[] 1537 60 #[62] #[])
  fields := #[]
  methods := #[]
  instanceTypes := #[]
  staticTypes := #[]
  resolved := Array.replicate 115 none
  statics := none }

def pool11 : Array CpInfo := pool [(1, .methodref 2 3), (0, .class_ 4), (0, .nameAndType 5 6), (0, u "java/lang/Object"), (0, u "<init>"), (0, u "()V"), (1, .class_ 10), (1, u "java/util/AbstractCollection"), (66, .class_ 78), (0, u "java/util/Collection")] 81

def k11c0 : Code := { maxStack := 1, maxLocals := 1, code := jdk_22_method_1_code, exceptionTable := #[], attributes := #[] }
def k11m0 : Method := { name := "<init>", desc := "()V", sig := { parameters := [], returnType := none }, accessFlags := 4, code := some k11c0 }
/-- java/util/AbstractCollection -/
def k11 : Class := { plain "java/util/AbstractCollection" (some 0) with
  accessFlags := 1057
  interfaces := #[10]
  cf := some (fileOf pool11 8 #[] #[{ accessFlags := 4, nameIndex := 5, descriptorIndex := 6, attributes := #[] }] 1057 2 #[77] #[])
  fields := #[]
  methods := #[k11m0]
  instanceTypes := #[]
  staticTypes := #[]
  resolved := Array.replicate 160 none
  statics := none }

def pool12 : Array CpInfo := pool [(8, .class_ 10), (1, u "java/util/SequencedCollection"), (15, .class_ 27), (0, u "java/lang/Object"), (0, .class_ 29), (0, u "java/util/Collection")] 27

/-- java/util/SequencedCollection -/
def k12 : Class := { plain "java/util/SequencedCollection" (some 0) with
  accessFlags := 1537
  interfaces := #[10]
  cf := some (fileOf pool12 8 #[] #[] 1537 26 #[28] #[])
  fields := #[]
  methods := #[]
  instanceTypes := #[]
  staticTypes := #[]
  resolved := Array.replicate 57 none
  statics := none }

def pool13 : Array CpInfo := pool [(8, .class_ 10), (1, u "java/util/List"), (92, .class_ 104), (0, u "java/lang/Object"), (15, .class_ 121), (0, u "java/util/SequencedCollection")] 129

/-- java/util/List -/
def k13 : Class := { plain "java/util/List" (some 0) with
  accessFlags := 1537
  interfaces := #[12]
  cf := some (fileOf pool13 8 #[] #[] 1537 103 #[120] #[])
  fields := #[]
  methods := #[]
  instanceTypes := #[]
  staticTypes := #[]
  resolved := Array.replicate 251 none
  statics := none }

def pool14 : Array CpInfo := pool [(1, .methodref 2 3), (0, .class_ 4), (0, .nameAndType 5 6), (0, u "java/util/AbstractCollection"), (0, u "<init>"), (0, u "()V"), (0, .fieldref 8 9), (0, .class_ 10), (0, .nameAndType 11 12), (0, u "java/util/AbstractList"), (0, u "modCount"), (0, u "I"), (64, .class_ 78), (0, u "java/util/AbstractList$Itr"), (3, .class_ 83), (0, u "java/util/AbstractList$ListItr"), (9, .class_ 94), (0, u "java/util/AbstractList$RandomAccessSubList"), (3, .class_ 99), (0, u "java/util/AbstractList$SubList"), (33, .class_ 134), (0, u "java/util/List"), (73, .class_ 209), (0, u "java/util/AbstractList$SubList$1"), (0, .class_ 211), (0, u "java/util/AbstractList$RandomAccessSpliterator")] 6

def k14c0 : Code := { maxStack := 2, maxLocals := 1, code := jdk_39_method_1_code, exceptionTable := #[], attributes := #[] }
def k14m0 : Method := { name := "<init>", desc := "()V", sig := { parameters := [], returnType := none }, accessFlags := 4, code := some k14c0 }
/-- java/util/AbstractList -/
def k14 : Class := { plain "java/util/AbstractList" (some 11) with
  accessFlags := 1057
  interfaces := #[13]
  cf := some (fileOf pool14 8 #[.nestMembers #[93, 98, 208, 210, 82, 77]] #[{ accessFlags := 4, nameIndex := 5, descriptorIndex := 6, attributes := #[] }] 1057 2 #[133] #[{ accessFlags := 132, nameIndex := 11, descriptorIndex := 12, attributes := #[] }])
  fields := #[{ name := "modCount", type := .int, accessFlags := 132, slot := 0, constantValue := 0 }]
  methods := #[k14m0]
  instanceTypes := #[.int]
  staticTypes := #[]
  resolved := Array.replicate 218 none
  statics := none }

def pool15 : Array CpInfo := pool [(1, .class_ 2), (0, u "java/util/RandomAccess"), (0, .class_ 4), (0, u "java/lang/Object")] 2

/-- java/util/RandomAccess -/
def k15 : Class := { plain "java/util/RandomAccess" (some 0) with
  accessFlags := 1537
  interfaces := #[]
  cf := some (fileOf pool15 1 #[] #[] 1537 3 #[] #[])
  fields := #[]
  methods := #[]
  instanceTypes := #[]
  staticTypes := #[]
  resolved := Array.replicate 7 none
  statics := none }

def pool16 : Array CpInfo := pool [(1, .class_ 2), (0, u "com/example/anchored_threads/anchoredthreads/internal/ChunkedList"), (0, .methodref 4 5), (0, .class_ 6), (0, .nameAndType 7 8), (0, u "java/util/AbstractList"), (0, u "<init>"), (0, u "()V"), (0, .class_ 10), (0, u "[Ljava/lang/Object;"), (0, .class_ 12), (0, u "java/lang/Object"), (0, .fieldref 1 14), (0, .nameAndType 15 16), (0, u "chunks"), (0, u "[[Ljava/lang/Object;"), (0, .fieldref 1 18), (0, .nameAndType 19 20), (0, u "size"), (0, u "I"), (0, .methodref 22 23), (0, .class_ 24), (0, .nameAndType 25 26), (0, u "java/util/Arrays"), (0, u "copyOf"), (0, u "([Ljava/lang/Object;I)[Ljava/lang/Object;"), (1, .methodref 29 30), (0, .class_ 31), (0, .nameAndType 32 33), (0, u "java/lang/Math"), (0, u "min"), (0, u "(II)I"), (0, .fieldref 1 35), (0, .nameAndType 36 20), (0, u "modCount"), (12, .class_ 50), (0, u "java/util/RandomAccess"), (0, u "CHUNK_BITS"), (2, u "CHUNK"), (1, u "FIRST_CHUNK"), (3, u "add"), (0, u "(Ljava/lang/Object;)Z"), (3, u "removeLast"), (0, u "()Ljava/lang/Object;"), (4, u "()I")] 3

def k16c0 : Code := { maxStack := 5, maxLocals := 1, code := prog_28_method_1_code, exceptionTable := #[], attributes := #[] }
def k16m0 : Method := { name := "<init>", desc := "()V", sig := { parameters := [], returnType := none }, accessFlags := 1, code := some k16c0 }
def k16c1 : Code := { maxStack := 4, maxLocals := 5, code := prog_28_method_2_code, exceptionTable := #[], attributes := #[] }
def k16m1 : Method := { name := "add", desc := "(Ljava/lang/Object;)Z", sig := { parameters := [(.object "java/lang/Object")], returnType := some .boolean }, accessFlags := 1, code := some k16c1 }
def k16c2 : Code := { maxStack := 3, maxLocals := 5, code := prog_28_method_3_code, exceptionTable := #[], attributes := #[] }
def k16m2 : Method := { name := "removeLast", desc := "()Ljava/lang/Object;", sig := { parameters := [], returnType := some (.object "java/lang/Object") }, accessFlags := 1, code := some k16c2 }
def k16c3 : Code := { maxStack := 1, maxLocals := 1, code := prog_28_method_5_code, exceptionTable := #[], attributes := #[] }
def k16m3 : Method := { name := "size", desc := "()I", sig := { parameters := [], returnType := some .int }, accessFlags := 1, code := some k16c3 }
/-- com/example/anchored_threads/anchoredthreads/internal/ChunkedList -/
def k16 : Class := { plain "com/example/anchored_threads/anchoredthreads/internal/ChunkedList" (some 14) with
  accessFlags := 49
  interfaces := #[15]
  cf := some (fileOf pool16 1 #[] #[{ accessFlags := 1, nameIndex := 7, descriptorIndex := 8, attributes := #[] }, { accessFlags := 1, nameIndex := 60, descriptorIndex := 61, attributes := #[] }, { accessFlags := 1, nameIndex := 65, descriptorIndex := 66, attributes := #[] }, { accessFlags := 1, nameIndex := 19, descriptorIndex := 71, attributes := #[] }] 49 4 #[49] #[{ accessFlags := 26, nameIndex := 51, descriptorIndex := 20, attributes := #[] }, { accessFlags := 24, nameIndex := 54, descriptorIndex := 20, attributes := #[] }, { accessFlags := 24, nameIndex := 56, descriptorIndex := 20, attributes := #[] }, { accessFlags := 2, nameIndex := 15, descriptorIndex := 16, attributes := #[] }, { accessFlags := 2, nameIndex := 19, descriptorIndex := 20, attributes := #[] }])
  fields := #[{ name := "CHUNK_BITS", type := .int, accessFlags := 26, slot := 0, constantValue := 0 }, { name := "CHUNK", type := .int, accessFlags := 24, slot := 1, constantValue := 0 }, { name := "FIRST_CHUNK", type := .int, accessFlags := 24, slot := 2, constantValue := 0 }, { name := "chunks", type := (.array (.array (.object "java/lang/Object"))), accessFlags := 2, slot := 1, constantValue := 0 }, { name := "size", type := .int, accessFlags := 2, slot := 2, constantValue := 0 }]
  methods := #[k16m0, k16m1, k16m2, k16m3]
  instanceTypes := #[.int, (.array (.array (.object "java/lang/Object"))), .int]
  staticTypes := #[.int, .int, .int]
  resolved := Array.replicate 75 none
  statics := none }

def pool17 : Array CpInfo := pool [(1, .class_ 2), (0, u "java/lang/Math"), (1, .class_ 6), (1, u "java/lang/Object"), (0, u "<init>"), (0, u "()V"), (89, .class_ 100), (1, u "java/lang/Math$RandomNumberGeneratorHolder"), (71, u "negativeZeroFloatBits"), (0, u "J"), (2, u "negativeZeroDoubleBits"), (24, u "min"), (43, u "$assertionsDisabled"), (0, u "Z"), (88, u "(II)I"), (2, u "twoToTheDoubleScaleDown"), (0, u "D"), (4, u "twoToTheDoubleScaleUp"), (9, u "E"), (3, u "PI"), (2, u "TAU"), (2, u "DEGREES_TO_RADIANS"), (0, u "RADIANS_TO_DEGREES")] 94

def k17m0 : Method := { name := "<init>", desc := "()V", sig := { parameters := [], returnType := none }, accessFlags := 2, code := none }
def k17c1 : Code := { maxStack := 2, maxLocals := 2, code := jdk_29_method_69_code, exceptionTable := #[], attributes := #[] }
def k17m1 : Method := { name := "min", desc := "(II)I", sig := { parameters := [.int, .int], returnType := some .int }, accessFlags := 9, code := some k17c1 }
/-- java/lang/Math -/
def k17 : Class := { plain "java/lang/Math" (some 0) with
  accessFlags := 49
  interfaces := #[]
  cf := some (fileOf pool17 1 #[.nestMembers #[98]] #[{ accessFlags := 2, nameIndex := 7, descriptorIndex := 8, attributes := #[] }, { accessFlags := 9, nameIndex := 201, descriptorIndex := 335, attributes := #[] }] 49 4 #[] #[{ accessFlags := 25, nameIndex := 354, descriptorIndex := 339, attributes := #[] }, { accessFlags := 25, nameIndex := 358, descriptorIndex := 339, attributes := #[] }, { accessFlags := 25, nameIndex := 361, descriptorIndex := 339, attributes := #[] }, { accessFlags := 26, nameIndex := 364, descriptorIndex := 339, attributes := #[] }, { accessFlags := 26, nameIndex := 365, descriptorIndex := 339, attributes := #[] }, { accessFlags := 26, nameIndex := 172, descriptorIndex := 173, attributes := #[] }, { accessFlags := 26, nameIndex := 176, descriptorIndex := 173, attributes := #[] }, { accessFlags := 8, nameIndex := 344, descriptorIndex := 339, attributes := #[] }, { accessFlags := 8, nameIndex := 338, descriptorIndex := 339, attributes := #[] }, { accessFlags := 4120, nameIndex := 245, descriptorIndex := 246, attributes := #[] }])
  fields := #[{ name := "E", type := .double, accessFlags := 25, slot := 0, constantValue := 0 }, { name := "PI", type := .double, accessFlags := 25, slot := 1, constantValue := 0 }, { name := "TAU", type := .double, accessFlags := 25, slot := 2, constantValue := 0 }, { name := "DEGREES_TO_RADIANS", type := .double, accessFlags := 26, slot := 3, constantValue := 0 }, { name := "RADIANS_TO_DEGREES", type := .double, accessFlags := 26, slot := 4, constantValue := 0 }, { name := "negativeZeroFloatBits", type := .long, accessFlags := 26, slot := 5, constantValue := 0 }, { name := "negativeZeroDoubleBits", type := .long, accessFlags := 26, slot := 6, constantValue := 0 }, { name := "twoToTheDoubleScaleUp", type := .double, accessFlags := 8, slot := 7, constantValue := 0 }, { name := "twoToTheDoubleScaleDown", type := .double, accessFlags := 8, slot := 8, constantValue := 0 }, { name := "$assertionsDisabled", type := .boolean, accessFlags := 4120, slot := 9, constantValue := 0 }]
  methods := #[k17m0, k17m1]
  instanceTypes := #[]
  staticTypes := #[.double, .double, .double, .double, .double, .long, .long, .double, .double, .boolean]
  resolved := Array.replicate 460 none
  statics := none }

def pool18 : Array CpInfo := pool [(2, .class_ 4), (1, u "java/lang/Object"), (0, u "<init>"), (0, u "()V"), (7, .class_ 16), (1, u "java/util/Arrays"), (57, .class_ 76), (1, u "java/util/Arrays$NaturalOrder"), (9, .methodref 2 87), (0, .nameAndType 88 89), (0, u "getClass"), (0, u "()Ljava/lang/Class;"), (20, .class_ 111), (0, u "[Ljava/lang/Object;"), (1, .class_ 115), (1, u "java/util/Arrays$LegacyMergeSort"), (1, u "Z"), (32, .methodref 151 152), (0, .class_ 153), (0, .nameAndType 154 155), (0, u "java/lang/System"), (0, u "arraycopy"), (0, u "(Ljava/lang/Object;ILjava/lang/Object;II)V"), (144, .methodref 14 301), (0, .nameAndType 302 303), (0, u "copyOf"), (0, u "([Ljava/lang/Object;ILjava/lang/Class;)[Ljava/lang/Object;"), (0, .methodref 305 306), (0, .class_ 307), (0, .nameAndType 308 309), (0, u "java/lang/Math"), (0, u "min"), (0, u "(II)I"), (65, .class_ 376), (0, u "java/util/Arrays$ArrayList"), (68, u "$assertionsDisabled"), (269, u "MIN_ARRAY_SORT_GRAN"), (0, u "I"), (2, u "INSERTIONSORT_THRESHOLD"), (140, u "([Ljava/lang/Object;I)[Ljava/lang/Object;"), (114, .class_ 976), (0, u "java/util/Arrays$ArrayItr")] 52

def k18m0 : Method := { name := "<init>", desc := "()V", sig := { parameters := [], returnType := none }, accessFlags := 2, code := none }
def k18c1 : Code := { maxStack := 3, maxLocals := 2, code := jdk_65_method_119_code, exceptionTable := #[], attributes := #[] }
def k18m1 : Method := { name := "copyOf", desc := "([Ljava/lang/Object;I)[Ljava/lang/Object;", sig := { parameters := [(.array (.object "java/lang/Object")), .int], returnType := some (.array (.object "java/lang/Object")) }, accessFlags := 9, code := some k18c1 }
def k18c2 : Code := { maxStack := 6, maxLocals := 4, code := jdk_65_method_120_code, exceptionTable := #[], attributes := #[] }
def k18m2 : Method := { name := "copyOf", desc := "([Ljava/lang/Object;ILjava/lang/Class;)[Ljava/lang/Object;", sig := { parameters := [(.array (.object "java/lang/Object")), .int, (.object "java/lang/Class")], returnType := some (.array (.object "java/lang/Object")) }, accessFlags := 9, code := some k18c2 }
/-- java/util/Arrays -/
def k18 : Class := { plain "java/util/Arrays" (some 0) with
  accessFlags := 49
  interfaces := #[]
  cf := some (fileOf pool18 14 #[.nestMembers #[975, 375, 113, 74]] #[{ accessFlags := 2, nameIndex := 5, descriptorIndex := 6, attributes := #[] }, { accessFlags := 9, nameIndex := 302, descriptorIndex := 860, attributes := #[] }, { accessFlags := 9, nameIndex := 302, descriptorIndex := 303, attributes := #[] }] 49 2 #[] #[{ accessFlags := 26, nameIndex := 715, descriptorIndex := 716, attributes := #[] }, { accessFlags := 26, nameIndex := 719, descriptorIndex := 716, attributes := #[] }, { accessFlags := 4120, nameIndex := 445, descriptorIndex := 117, attributes := #[] }])
  fields := #[{ name := "MIN_ARRAY_SORT_GRAN", type := .int, accessFlags := 26, slot := 0, constantValue := 0 }, { name := "INSERTIONSORT_THRESHOLD", type := .int, accessFlags := 26, slot := 1, constantValue := 0 }, { name := "$assertionsDisabled", type := .boolean, accessFlags := 4120, slot := 2, constantValue := 0 }]
  methods := #[k18m0, k18m1, k18m2]
  instanceTypes := #[]
  staticTypes := #[.int, .int, .boolean]
  resolved := Array.replicate 1029 none
  statics := none }

def pool19 : Array CpInfo := pool [(2, .class_ 4), (1, u "java/lang/Object"), (0, u "<init>"), (0, u "()V"), (1, .class_ 10), (1, u "java/lang/System"), (0, u "allowSecurityManager"), (0, u "I"), (16, u "cons"), (0, u "Ljava/io/Console;"), (77, .class_ 110), (1, u "java/lang/System$CallersHolder"), (43, u "initialErrStream"), (0, u "Ljava/io/PrintStream;"), (19, u "security"), (0, u "Ljava/lang/SecurityManager;"), (31, .class_ 209), (0, u "java/lang/System$1"), (7, u "props"), (0, u "Ljava/util/Properties;"), (2, u "lineSeparator"), (0, u "Ljava/lang/String;"), (96, .class_ 321), (1, u "java/lang/System$LoggerFinder"), (5, .class_ 328), (0, u "java/lang/System$Logger"), (67, u "err"), (2, u "out"), (91, u "notSupportedJnuEncoding"), (15, u "in"), (17, u "initialIn"), (0, u "Ljava/io/InputStream;"), (35, u "bootLayer"), (0, u "Ljava/lang/ModuleLayer;"), (99, .class_ 664), (0, u "java/lang/System$2"), (9, u "NEVER"), (2, u "MAYBE"), (49, u "arraycopy"), (0, u "(Ljava/lang/Object;ILjava/lang/Object;II)V"), (72, .class_ 802), (0, u "java/lang/System$Logger$Level")] 31

def k19m0 : Method := { name := "<init>", desc := "()V", sig := { parameters := [], returnType := none }, accessFlags := 2, code := none }
def k19m1 : Method := { name := "arraycopy", desc := "(Ljava/lang/Object;ILjava/lang/Object;II)V", sig := { parameters := [(.object "java/lang/Object"), .int, (.object "java/lang/Object"), .int, .int], returnType := none }, accessFlags := 265, code := none }
/-- java/lang/System -/
def k19 : Class := { plain "java/lang/System" (some 0) with
  accessFlags := 49
  interfaces := #[]
  cf := some (fileOf pool19 8 #[.nestMembers #[319, 327, 801, 108, 663, 208]] #[{ accessFlags := 2, nameIndex := 5, descriptorIndex := 6, attributes := #[] }, { accessFlags := 265, nameIndex := 727, descriptorIndex := 728, attributes := #[] }] 49 2 #[] #[{ accessFlags := 25, nameIndex := 507, descriptorIndex := 526, attributes := #[] }, { accessFlags := 25, nameIndex := 399, descriptorIndex := 155, attributes := #[] }, { accessFlags := 25, nameIndex := 396, descriptorIndex := 155, attributes := #[] }, { accessFlags := 10, nameIndex := 525, descriptorIndex := 526, attributes := #[] }, { accessFlags := 26, nameIndex := 674, descriptorIndex := 12, attributes := #[] }, { accessFlags := 26, nameIndex := 677, descriptorIndex := 12, attributes := #[] }, { accessFlags := 10, nameIndex := 11, descriptorIndex := 12, attributes := #[] }, { accessFlags := 74, nameIndex := 175, descriptorIndex := 176, attributes := #[] }, { accessFlags := 10, nameIndex := 491, descriptorIndex := 222, attributes := #[] }, { accessFlags := 74, nameIndex := 29, descriptorIndex := 30, attributes := #[] }, { accessFlags := 74, nameIndex := 154, descriptorIndex := 155, attributes := #[] }, { accessFlags := 10, nameIndex := 217, descriptorIndex := 218, attributes := #[] }, { accessFlags := 10, nameIndex := 221, descriptorIndex := 222, attributes := #[] }, { accessFlags := 8, nameIndex := 562, descriptorIndex := 563, attributes := #[] }])
  fields := #[{ name := "in", type := (.object "java/io/InputStream"), accessFlags := 25, slot := 0, constantValue := 0 }, { name := "out", type := (.object "java/io/PrintStream"), accessFlags := 25, slot := 1, constantValue := 0 }, { name := "err", type := (.object "java/io/PrintStream"), accessFlags := 25, slot := 2, constantValue := 0 }, { name := "initialIn", type := (.object "java/io/InputStream"), accessFlags := 10, slot := 3, constantValue := 0 }, { name := "NEVER", type := .int, accessFlags := 26, slot := 4, constantValue := 0 }, { name := "MAYBE", type := .int, accessFlags := 26, slot := 5, constantValue := 0 }, { name := "allowSecurityManager", type := .int, accessFlags := 10, slot := 6, constantValue := 0 }, { name := "security", type := (.object "java/lang/SecurityManager"), accessFlags := 74, slot := 7, constantValue := 0 }, { name := "notSupportedJnuEncoding", type := (.object "java/lang/String"), accessFlags := 10, slot := 8, constantValue := 0 }, { name := "cons", type := (.object "java/io/Console"), accessFlags := 74, slot := 9, constantValue := 0 }, { name := "initialErrStream", type := (.object "java/io/PrintStream"), accessFlags := 74, slot := 10, constantValue := 0 }, { name := "props", type := (.object "java/util/Properties"), accessFlags := 10, slot := 11, constantValue := 0 }, { name := "lineSeparator", type := (.object "java/lang/String"), accessFlags := 10, slot := 12, constantValue := 0 }, { name := "bootLayer", type := (.object "java/lang/ModuleLayer"), accessFlags := 8, slot := 13, constantValue := 0 }]
  methods := #[k19m0, k19m1]
  instanceTypes := #[]
  staticTypes := #[(.object "java/io/InputStream"), (.object "java/io/PrintStream"), (.object "java/io/PrintStream"), (.object "java/io/InputStream"), .int, .int, .int, (.object "java/lang/SecurityManager"), (.object "java/lang/String"), (.object "java/io/Console"), (.object "java/io/PrintStream"), (.object "java/util/Properties"), (.object "java/lang/String"), (.object "java/lang/ModuleLayer")]
  resolved := Array.replicate 834 none
  statics := none }

def pool20 : Array CpInfo := pool [(1, u "java/lang/Cloneable"), (0, .class_ 1), (0, u "java/lang/Object"), (0, .class_ 3)] 3

/-- java/lang/Cloneable -/
def k20 : Class := { plain "java/lang/Cloneable" (some 0) with
  accessFlags := 1537
  interfaces := #[]
  cf := some (fileOf pool20 2 #[] #[] 1537 4 #[] #[])
  fields := #[]
  methods := #[]
  instanceTypes := #[]
  staticTypes := #[]
  resolved := Array.replicate 8 none
  statics := none }

/-- the primitive byte -/
def k21 : Class := { plain "byte" none with kind := .primitive 'B', accessFlags := 0x411 }
/-- [B -/
def k22 : Class := { plain "[B" (some 0) with kind := .array 21 .byte, interfaces := #[20, 2], accessFlags := 1041 }

/-- the primitive int -/
def k23 : Class := { plain "int" none with kind := .primitive 'I', accessFlags := 0x411 }
/-- [I -/
def k24 : Class := { plain "[I" (some 0) with kind := .array 23 .int, interfaces := #[20, 2], accessFlags := 1041 }

/-- [Ljava/lang/Integer; -/
def k25 : Class := { plain "[Ljava/lang/Integer;" (some 0) with kind := .array 7 (.object "java/lang/Integer"), interfaces := #[20, 2], accessFlags := 1041 }

/-- [Ljava/lang/Object; -/
def k26 : Class := { plain "[Ljava/lang/Object;" (some 0) with kind := .array 0 (.object "java/lang/Object"), interfaces := #[20, 2], accessFlags := 1041, mirror := some 258 }
def k27 : Class := { plain "[[Ljava/lang/Object;" (some 0) with kind := .array 26 (.array (.object "java/lang/Object")), interfaces := #[20, 2], accessFlags := 1041 }

def heap : Heap := #[{ cls := 8, slots := #[.int 0, .int 127, .ref 1, .null, .int 0], vm := .statics 8 },
  { cls := 25, slots := #[.ref 2, .ref 3, .ref 4, .ref 5, .ref 6, .ref 7, .ref 8, .ref 9, .ref 10, .ref 11, .ref 12, .ref 13, .ref 14, .ref 15, .ref 16, .ref 17, .ref 18, .ref 19, .ref 20, .ref 21, .ref 22, .ref 23, .ref 24, .ref 25, .ref 26, .ref 27, .ref 28, .ref 29, .ref 30, .ref 31, .ref 32, .ref 33, .ref 34, .ref 35, .ref 36, .ref 37, .ref 38, .ref 39, .ref 40, .ref 41, .ref 42, .ref 43, .ref 44, .ref 45, .ref 46, .ref 47, .ref 48, .ref 49, .ref 50, .ref 51, .ref 52, .ref 53, .ref 54, .ref 55, .ref 56, .ref 57, .ref 58, .ref 59, .ref 60, .ref 61, .ref 62, .ref 63, .ref 64, .ref 65, .ref 66, .ref 67, .ref 68, .ref 69, .ref 70, .ref 71, .ref 72, .ref 73, .ref 74, .ref 75, .ref 76, .ref 77, .ref 78, .ref 79, .ref 80, .ref 81, .ref 82, .ref 83, .ref 84, .ref 85, .ref 86, .ref 87, .ref 88, .ref 89, .ref 90, .ref 91, .ref 92, .ref 93, .ref 94, .ref 95, .ref 96, .ref 97, .ref 98, .ref 99, .ref 100, .ref 101, .ref 102, .ref 103, .ref 104, .ref 105, .ref 106, .ref 107, .ref 108, .ref 109, .ref 110, .ref 111, .ref 112, .ref 113, .ref 114, .ref 115, .ref 116, .ref 117, .ref 118, .ref 119, .ref 120, .ref 121, .ref 122, .ref 123, .ref 124, .ref 125, .ref 126, .ref 127, .ref 128, .ref 129, .ref 130, .ref 131, .ref 132, .ref 133, .ref 134, .ref 135, .ref 136, .ref 137, .ref 138, .ref 139, .ref 140, .ref 141, .ref 142, .ref 143, .ref 144, .ref 145, .ref 146, .ref 147, .ref 148, .ref 149, .ref 150, .ref 151, .ref 152, .ref 153, .ref 154, .ref 155, .ref 156, .ref 157, .ref 158, .ref 159, .ref 160, .ref 161, .ref 162, .ref 163, .ref 164, .ref 165, .ref 166, .ref 167, .ref 168, .ref 169, .ref 170, .ref 171, .ref 172, .ref 173, .ref 174, .ref 175, .ref 176, .ref 177, .ref 178, .ref 179, .ref 180, .ref 181, .ref 182, .ref 183, .ref 184, .ref 185, .ref 186, .ref 187, .ref 188, .ref 189, .ref 190, .ref 191, .ref 192, .ref 193, .ref 194, .ref 195, .ref 196, .ref 197, .ref 198, .ref 199, .ref 200, .ref 201, .ref 202, .ref 203, .ref 204, .ref 205, .ref 206, .ref 207, .ref 208, .ref 209, .ref 210, .ref 211, .ref 212, .ref 213, .ref 214, .ref 215, .ref 216, .ref 217, .ref 218, .ref 219, .ref 220, .ref 221, .ref 222, .ref 223, .ref 224, .ref 225, .ref 226, .ref 227, .ref 228, .ref 229, .ref 230, .ref 231, .ref 232, .ref 233, .ref 234, .ref 235, .ref 236, .ref 237, .ref 238, .ref 239, .ref 240, .ref 241, .ref 242, .ref 243, .ref 244, .ref 245, .ref 246, .ref 247, .ref 248, .ref 249, .ref 250, .ref 251, .ref 252, .ref 253, .ref 254, .ref 255, .ref 256, .ref 257], vm := .none },
  { cls := 7, slots := #[.int (-128)], vm := .none },
  { cls := 7, slots := #[.int (-127)], vm := .none },
  { cls := 7, slots := #[.int (-126)], vm := .none },
  { cls := 7, slots := #[.int (-125)], vm := .none },
  { cls := 7, slots := #[.int (-124)], vm := .none },
  { cls := 7, slots := #[.int (-123)], vm := .none },
  { cls := 7, slots := #[.int (-122)], vm := .none },
  { cls := 7, slots := #[.int (-121)], vm := .none },
  { cls := 7, slots := #[.int (-120)], vm := .none },
  { cls := 7, slots := #[.int (-119)], vm := .none },
  { cls := 7, slots := #[.int (-118)], vm := .none },
  { cls := 7, slots := #[.int (-117)], vm := .none },
  { cls := 7, slots := #[.int (-116)], vm := .none },
  { cls := 7, slots := #[.int (-115)], vm := .none },
  { cls := 7, slots := #[.int (-114)], vm := .none },
  { cls := 7, slots := #[.int (-113)], vm := .none },
  { cls := 7, slots := #[.int (-112)], vm := .none },
  { cls := 7, slots := #[.int (-111)], vm := .none },
  { cls := 7, slots := #[.int (-110)], vm := .none },
  { cls := 7, slots := #[.int (-109)], vm := .none },
  { cls := 7, slots := #[.int (-108)], vm := .none },
  { cls := 7, slots := #[.int (-107)], vm := .none },
  { cls := 7, slots := #[.int (-106)], vm := .none },
  { cls := 7, slots := #[.int (-105)], vm := .none },
  { cls := 7, slots := #[.int (-104)], vm := .none },
  { cls := 7, slots := #[.int (-103)], vm := .none },
  { cls := 7, slots := #[.int (-102)], vm := .none },
  { cls := 7, slots := #[.int (-101)], vm := .none },
  { cls := 7, slots := #[.int (-100)], vm := .none },
  { cls := 7, slots := #[.int (-99)], vm := .none },
  { cls := 7, slots := #[.int (-98)], vm := .none },
  { cls := 7, slots := #[.int (-97)], vm := .none },
  { cls := 7, slots := #[.int (-96)], vm := .none },
  { cls := 7, slots := #[.int (-95)], vm := .none },
  { cls := 7, slots := #[.int (-94)], vm := .none },
  { cls := 7, slots := #[.int (-93)], vm := .none },
  { cls := 7, slots := #[.int (-92)], vm := .none },
  { cls := 7, slots := #[.int (-91)], vm := .none },
  { cls := 7, slots := #[.int (-90)], vm := .none },
  { cls := 7, slots := #[.int (-89)], vm := .none },
  { cls := 7, slots := #[.int (-88)], vm := .none },
  { cls := 7, slots := #[.int (-87)], vm := .none },
  { cls := 7, slots := #[.int (-86)], vm := .none },
  { cls := 7, slots := #[.int (-85)], vm := .none },
  { cls := 7, slots := #[.int (-84)], vm := .none },
  { cls := 7, slots := #[.int (-83)], vm := .none },
  { cls := 7, slots := #[.int (-82)], vm := .none },
  { cls := 7, slots := #[.int (-81)], vm := .none },
  { cls := 7, slots := #[.int (-80)], vm := .none },
  { cls := 7, slots := #[.int (-79)], vm := .none },
  { cls := 7, slots := #[.int (-78)], vm := .none },
  { cls := 7, slots := #[.int (-77)], vm := .none },
  { cls := 7, slots := #[.int (-76)], vm := .none },
  { cls := 7, slots := #[.int (-75)], vm := .none },
  { cls := 7, slots := #[.int (-74)], vm := .none },
  { cls := 7, slots := #[.int (-73)], vm := .none },
  { cls := 7, slots := #[.int (-72)], vm := .none },
  { cls := 7, slots := #[.int (-71)], vm := .none },
  { cls := 7, slots := #[.int (-70)], vm := .none },
  { cls := 7, slots := #[.int (-69)], vm := .none },
  { cls := 7, slots := #[.int (-68)], vm := .none },
  { cls := 7, slots := #[.int (-67)], vm := .none },
  { cls := 7, slots := #[.int (-66)], vm := .none },
  { cls := 7, slots := #[.int (-65)], vm := .none },
  { cls := 7, slots := #[.int (-64)], vm := .none },
  { cls := 7, slots := #[.int (-63)], vm := .none },
  { cls := 7, slots := #[.int (-62)], vm := .none },
  { cls := 7, slots := #[.int (-61)], vm := .none },
  { cls := 7, slots := #[.int (-60)], vm := .none },
  { cls := 7, slots := #[.int (-59)], vm := .none },
  { cls := 7, slots := #[.int (-58)], vm := .none },
  { cls := 7, slots := #[.int (-57)], vm := .none },
  { cls := 7, slots := #[.int (-56)], vm := .none },
  { cls := 7, slots := #[.int (-55)], vm := .none },
  { cls := 7, slots := #[.int (-54)], vm := .none },
  { cls := 7, slots := #[.int (-53)], vm := .none },
  { cls := 7, slots := #[.int (-52)], vm := .none },
  { cls := 7, slots := #[.int (-51)], vm := .none },
  { cls := 7, slots := #[.int (-50)], vm := .none },
  { cls := 7, slots := #[.int (-49)], vm := .none },
  { cls := 7, slots := #[.int (-48)], vm := .none },
  { cls := 7, slots := #[.int (-47)], vm := .none },
  { cls := 7, slots := #[.int (-46)], vm := .none },
  { cls := 7, slots := #[.int (-45)], vm := .none },
  { cls := 7, slots := #[.int (-44)], vm := .none },
  { cls := 7, slots := #[.int (-43)], vm := .none },
  { cls := 7, slots := #[.int (-42)], vm := .none },
  { cls := 7, slots := #[.int (-41)], vm := .none },
  { cls := 7, slots := #[.int (-40)], vm := .none },
  { cls := 7, slots := #[.int (-39)], vm := .none },
  { cls := 7, slots := #[.int (-38)], vm := .none },
  { cls := 7, slots := #[.int (-37)], vm := .none },
  { cls := 7, slots := #[.int (-36)], vm := .none },
  { cls := 7, slots := #[.int (-35)], vm := .none },
  { cls := 7, slots := #[.int (-34)], vm := .none },
  { cls := 7, slots := #[.int (-33)], vm := .none },
  { cls := 7, slots := #[.int (-32)], vm := .none },
  { cls := 7, slots := #[.int (-31)], vm := .none },
  { cls := 7, slots := #[.int (-30)], vm := .none },
  { cls := 7, slots := #[.int (-29)], vm := .none },
  { cls := 7, slots := #[.int (-28)], vm := .none },
  { cls := 7, slots := #[.int (-27)], vm := .none },
  { cls := 7, slots := #[.int (-26)], vm := .none },
  { cls := 7, slots := #[.int (-25)], vm := .none },
  { cls := 7, slots := #[.int (-24)], vm := .none },
  { cls := 7, slots := #[.int (-23)], vm := .none },
  { cls := 7, slots := #[.int (-22)], vm := .none },
  { cls := 7, slots := #[.int (-21)], vm := .none },
  { cls := 7, slots := #[.int (-20)], vm := .none },
  { cls := 7, slots := #[.int (-19)], vm := .none },
  { cls := 7, slots := #[.int (-18)], vm := .none },
  { cls := 7, slots := #[.int (-17)], vm := .none },
  { cls := 7, slots := #[.int (-16)], vm := .none },
  { cls := 7, slots := #[.int (-15)], vm := .none },
  { cls := 7, slots := #[.int (-14)], vm := .none },
  { cls := 7, slots := #[.int (-13)], vm := .none },
  { cls := 7, slots := #[.int (-12)], vm := .none },
  { cls := 7, slots := #[.int (-11)], vm := .none },
  { cls := 7, slots := #[.int (-10)], vm := .none },
  { cls := 7, slots := #[.int (-9)], vm := .none },
  { cls := 7, slots := #[.int (-8)], vm := .none },
  { cls := 7, slots := #[.int (-7)], vm := .none },
  { cls := 7, slots := #[.int (-6)], vm := .none },
  { cls := 7, slots := #[.int (-5)], vm := .none },
  { cls := 7, slots := #[.int (-4)], vm := .none },
  { cls := 7, slots := #[.int (-3)], vm := .none },
  { cls := 7, slots := #[.int (-2)], vm := .none },
  { cls := 7, slots := #[.int (-1)], vm := .none },
  { cls := 7, slots := #[.int 0], vm := .none },
  { cls := 7, slots := #[.int 1], vm := .none },
  { cls := 7, slots := #[.int 2], vm := .none },
  { cls := 7, slots := #[.int 3], vm := .none },
  { cls := 7, slots := #[.int 4], vm := .none },
  { cls := 7, slots := #[.int 5], vm := .none },
  { cls := 7, slots := #[.int 6], vm := .none },
  { cls := 7, slots := #[.int 7], vm := .none },
  { cls := 7, slots := #[.int 8], vm := .none },
  { cls := 7, slots := #[.int 9], vm := .none },
  { cls := 7, slots := #[.int 10], vm := .none },
  { cls := 7, slots := #[.int 11], vm := .none },
  { cls := 7, slots := #[.int 12], vm := .none },
  { cls := 7, slots := #[.int 13], vm := .none },
  { cls := 7, slots := #[.int 14], vm := .none },
  { cls := 7, slots := #[.int 15], vm := .none },
  { cls := 7, slots := #[.int 16], vm := .none },
  { cls := 7, slots := #[.int 17], vm := .none },
  { cls := 7, slots := #[.int 18], vm := .none },
  { cls := 7, slots := #[.int 19], vm := .none },
  { cls := 7, slots := #[.int 20], vm := .none },
  { cls := 7, slots := #[.int 21], vm := .none },
  { cls := 7, slots := #[.int 22], vm := .none },
  { cls := 7, slots := #[.int 23], vm := .none },
  { cls := 7, slots := #[.int 24], vm := .none },
  { cls := 7, slots := #[.int 25], vm := .none },
  { cls := 7, slots := #[.int 26], vm := .none },
  { cls := 7, slots := #[.int 27], vm := .none },
  { cls := 7, slots := #[.int 28], vm := .none },
  { cls := 7, slots := #[.int 29], vm := .none },
  { cls := 7, slots := #[.int 30], vm := .none },
  { cls := 7, slots := #[.int 31], vm := .none },
  { cls := 7, slots := #[.int 32], vm := .none },
  { cls := 7, slots := #[.int 33], vm := .none },
  { cls := 7, slots := #[.int 34], vm := .none },
  { cls := 7, slots := #[.int 35], vm := .none },
  { cls := 7, slots := #[.int 36], vm := .none },
  { cls := 7, slots := #[.int 37], vm := .none },
  { cls := 7, slots := #[.int 38], vm := .none },
  { cls := 7, slots := #[.int 39], vm := .none },
  { cls := 7, slots := #[.int 40], vm := .none },
  { cls := 7, slots := #[.int 41], vm := .none },
  { cls := 7, slots := #[.int 42], vm := .none },
  { cls := 7, slots := #[.int 43], vm := .none },
  { cls := 7, slots := #[.int 44], vm := .none },
  { cls := 7, slots := #[.int 45], vm := .none },
  { cls := 7, slots := #[.int 46], vm := .none },
  { cls := 7, slots := #[.int 47], vm := .none },
  { cls := 7, slots := #[.int 48], vm := .none },
  { cls := 7, slots := #[.int 49], vm := .none },
  { cls := 7, slots := #[.int 50], vm := .none },
  { cls := 7, slots := #[.int 51], vm := .none },
  { cls := 7, slots := #[.int 52], vm := .none },
  { cls := 7, slots := #[.int 53], vm := .none },
  { cls := 7, slots := #[.int 54], vm := .none },
  { cls := 7, slots := #[.int 55], vm := .none },
  { cls := 7, slots := #[.int 56], vm := .none },
  { cls := 7, slots := #[.int 57], vm := .none },
  { cls := 7, slots := #[.int 58], vm := .none },
  { cls := 7, slots := #[.int 59], vm := .none },
  { cls := 7, slots := #[.int 60], vm := .none },
  { cls := 7, slots := #[.int 61], vm := .none },
  { cls := 7, slots := #[.int 62], vm := .none },
  { cls := 7, slots := #[.int 63], vm := .none },
  { cls := 7, slots := #[.int 64], vm := .none },
  { cls := 7, slots := #[.int 65], vm := .none },
  { cls := 7, slots := #[.int 66], vm := .none },
  { cls := 7, slots := #[.int 67], vm := .none },
  { cls := 7, slots := #[.int 68], vm := .none },
  { cls := 7, slots := #[.int 69], vm := .none },
  { cls := 7, slots := #[.int 70], vm := .none },
  { cls := 7, slots := #[.int 71], vm := .none },
  { cls := 7, slots := #[.int 72], vm := .none },
  { cls := 7, slots := #[.int 73], vm := .none },
  { cls := 7, slots := #[.int 74], vm := .none },
  { cls := 7, slots := #[.int 75], vm := .none },
  { cls := 7, slots := #[.int 76], vm := .none },
  { cls := 7, slots := #[.int 77], vm := .none },
  { cls := 7, slots := #[.int 78], vm := .none },
  { cls := 7, slots := #[.int 79], vm := .none },
  { cls := 7, slots := #[.int 80], vm := .none },
  { cls := 7, slots := #[.int 81], vm := .none },
  { cls := 7, slots := #[.int 82], vm := .none },
  { cls := 7, slots := #[.int 83], vm := .none },
  { cls := 7, slots := #[.int 84], vm := .none },
  { cls := 7, slots := #[.int 85], vm := .none },
  { cls := 7, slots := #[.int 86], vm := .none },
  { cls := 7, slots := #[.int 87], vm := .none },
  { cls := 7, slots := #[.int 88], vm := .none },
  { cls := 7, slots := #[.int 89], vm := .none },
  { cls := 7, slots := #[.int 90], vm := .none },
  { cls := 7, slots := #[.int 91], vm := .none },
  { cls := 7, slots := #[.int 92], vm := .none },
  { cls := 7, slots := #[.int 93], vm := .none },
  { cls := 7, slots := #[.int 94], vm := .none },
  { cls := 7, slots := #[.int 95], vm := .none },
  { cls := 7, slots := #[.int 96], vm := .none },
  { cls := 7, slots := #[.int 97], vm := .none },
  { cls := 7, slots := #[.int 98], vm := .none },
  { cls := 7, slots := #[.int 99], vm := .none },
  { cls := 7, slots := #[.int 100], vm := .none },
  { cls := 7, slots := #[.int 101], vm := .none },
  { cls := 7, slots := #[.int 102], vm := .none },
  { cls := 7, slots := #[.int 103], vm := .none },
  { cls := 7, slots := #[.int 104], vm := .none },
  { cls := 7, slots := #[.int 105], vm := .none },
  { cls := 7, slots := #[.int 106], vm := .none },
  { cls := 7, slots := #[.int 107], vm := .none },
  { cls := 7, slots := #[.int 108], vm := .none },
  { cls := 7, slots := #[.int 109], vm := .none },
  { cls := 7, slots := #[.int 110], vm := .none },
  { cls := 7, slots := #[.int 111], vm := .none },
  { cls := 7, slots := #[.int 112], vm := .none },
  { cls := 7, slots := #[.int 113], vm := .none },
  { cls := 7, slots := #[.int 114], vm := .none },
  { cls := 7, slots := #[.int 115], vm := .none },
  { cls := 7, slots := #[.int 116], vm := .none },
  { cls := 7, slots := #[.int 117], vm := .none },
  { cls := 7, slots := #[.int 118], vm := .none },
  { cls := 7, slots := #[.int 119], vm := .none },
  { cls := 7, slots := #[.int 120], vm := .none },
  { cls := 7, slots := #[.int 121], vm := .none },
  { cls := 7, slots := #[.int 122], vm := .none },
  { cls := 7, slots := #[.int 123], vm := .none },
  { cls := 7, slots := #[.int 124], vm := .none },
  { cls := 7, slots := #[.int 125], vm := .none },
  { cls := 7, slots := #[.int 126], vm := .none },
  { cls := 7, slots := #[.int 127], vm := .none },
  { cls := 0, slots := #[], vm := .mirror 26 }]
def classes : Array Class := #[k0, k1, k2, k3, k4, k5, k6, k7, k8, k9, k10, k11, k12, k13, k14, k15, k16, k17, k18, k19, k20, k21, k22, k23, k24, k25, k26, k27]
def interned : List (Array UInt16 × Addr) := []
def slotsUsed : Nat := 517
def theMethod : MethodId := ⟨1, 1⟩
def args0 : Array Value := #[.int 5, .int 7, .int 3]
def aboutOver (below : List Frame) : State where
  vm := { classes := classes, interned := interned.toArray }
  heap := heap
  slotsUsed := slotsUsed
  threads := #[{ frames := .invoking theMethod args0 :: below }]
def below0 : List Frame := [.native { method := ⟨0, 0⟩, args := #[] }]
def about1 : State := aboutOver below0
def p0 : Program := .bare "" "" ""
def e0 : Env := launch0.env 0 0 0
theorem w_frames : about1.frames = Frame.invoking theMethod args0 :: below0 := rfl
set_option maxRecDepth 65536 in
theorem w_args : argsFit about1.vm theMethod args0 = true := by decide +kernel
set_option maxRecDepth 65536 in
theorem w_heap : heapFits about1 = true := by decide +kernel
set_option maxRecDepth 65536 in
theorem w_runnable : about1.curStatus? = some .runnable := by decide +kernel
set_option maxRecDepth 65536 in
theorem w_alone : about1.alone = true := by decide +kernel
set_option maxRecDepth 65536 in
theorem w_named : about1.methodNamed? x = some theMethod := by decide +kernel
set_option maxRecDepth 65536 in
theorem w_hears : about1.hears theMethod below0 = true := by decide +kernel
set_option maxRecDepth 65536 in
theorem w_ripe : about1.ripe theMethod args0 below0 = true := by decide +kernel
theorem w_running : about1.status = .running := rfl
set_option maxRecDepth 65536 in
theorem w_room : about1.hasRoom e0.platform room_1 = true :=
  launch0.hasRoom_least _ room_1 (by decide +kernel) (by decide +kernel) (by decide +kernel) (by decide +kernel) (by decide +kernel) (by decide +kernel)
theorem allAtoms_all (ts : List Jvm.Cond) (a : Array Jvm.Value) (st : Jvm.State) : (allAtoms ts).before a st = ts.all (fun c => c.before a st) := by
  induction ts with
  | nil => rfl
  | cons c t ih =>
    show (Jvm.Cond.and c (allAtoms t)).before a st = _
    rw [Jvm.Cond.before_and, ih, List.all_cons]
def words1 : List Jvm.Cond := Jvm.Cond.code x code maxLocals ret :: tables_1
/-- a 'code' word, met by the world's own term for the bytes: nothing is compared byte by byte -/
theorem code_word {y : MethodName} {bytes : ByteArray} {mx : Nat} {rt : Option FieldType} {a : Array Value} {s : State} {m : MethodId} {meth : Method} {c : Code} (h1 : s.methodNamed? y = some m) (h2 : s.vm.method? m = some meth) (h3 : meth.code = some c) (h4 : c.code = bytes)
    (h5 : (c.maxLocals == mx && c.exceptionTable.isEmpty && decide (c.maxStack ≤ mostOperands) && decide (meth.sig.returnType = rt) && !meth.locks && decide (parseMethodDescriptor y.desc = some meth.sig)) = true) : (Jvm.Cond.code y bytes mx rt).before a s = true := by
  simp only [Bool.and_eq_true, beq_iff_eq, Bool.not_eq_true', decide_eq_true_eq] at h5
  obtain ⟨⟨⟨⟨⟨g1, g2⟩, g3⟩, g4⟩, g5⟩, g6⟩ := h5
  simp [Cond.before, Cond.holds, Cond.value, h1, h2, h3, h4, g1, g2, g3, g4, g5, g6]
def isCode : Jvm.Cond → Bool
  | .code _ _ _ _ => true
  | _ => false
theorem all_split {L : List Jvm.Cond} {P : Jvm.Cond → Bool} (h1 : L.all (fun c => isCode c || P c) = true) (h2 : ∀ c ∈ L.filter isCode, P c = true) : L.all P = true := by
  refine List.all_eq_true.mpr fun c hc => ?_
  have h := List.all_eq_true.mp h1 c hc
  rcases Bool.eq_false_or_eq_true (isCode c) with hi | hi
  · exact h2 c (List.mem_filter.mpr ⟨hc, hi⟩)
  · simpa [hi] using h
set_option maxRecDepth 65536 in
theorem w_c0 : (Jvm.Cond.code x code maxLocals ret).before args0 about1 = true := code_word (m := ⟨1, 1⟩) (meth := k1m1) (c := k1c1) (by decide +kernel) rfl rfl rfl (by decide +kernel)
set_option maxRecDepth 65536 in
theorem w_c1 : (Jvm.Cond.code ({ cls := "java/lang/Integer", name := "valueOf", desc := "(I)Ljava/lang/Integer;" } : Jvm.MethodName) jdk_33_method_22_code (1 : Nat) (Option.some (Jvm.ClassFile.FieldType.object "java/lang/Integer"))).before args0 about1 = true := code_word (m := ⟨7, 0⟩) (meth := k7m0) (c := k7c0) (by decide +kernel) rfl rfl rfl (by decide +kernel)
set_option maxRecDepth 65536 in
theorem w_c2 : (Jvm.Cond.code ({ cls := "com/example/anchored_threads/anchoredthreads/internal/ChunkedList", name := "<init>", desc := "()V" } : Jvm.MethodName) prog_28_method_1_code (1 : Nat) (Option.none : Option Jvm.ClassFile.FieldType)).before args0 about1 = true := code_word (m := ⟨16, 0⟩) (meth := k16m0) (c := k16c0) (by decide +kernel) rfl rfl rfl (by decide +kernel)
set_option maxRecDepth 65536 in
theorem w_c3 : (Jvm.Cond.code ({ cls := "java/util/AbstractList", name := "<init>", desc := "()V" } : Jvm.MethodName) jdk_39_method_1_code (1 : Nat) (Option.none : Option Jvm.ClassFile.FieldType)).before args0 about1 = true := code_word (m := ⟨14, 0⟩) (meth := k14m0) (c := k14c0) (by decide +kernel) rfl rfl rfl (by decide +kernel)
set_option maxRecDepth 65536 in
theorem w_c4 : (Jvm.Cond.code ({ cls := "java/util/AbstractCollection", name := "<init>", desc := "()V" } : Jvm.MethodName) jdk_22_method_1_code (1 : Nat) (Option.none : Option Jvm.ClassFile.FieldType)).before args0 about1 = true := code_word (m := ⟨11, 0⟩) (meth := k11m0) (c := k11c0) (by decide +kernel) rfl rfl rfl (by decide +kernel)
set_option maxRecDepth 65536 in
theorem w_c5 : (Jvm.Cond.code ({ cls := "java/lang/Object", name := "<init>", desc := "()V" } : Jvm.MethodName) object_method_1_code (1 : Nat) (Option.none : Option Jvm.ClassFile.FieldType)).before args0 about1 = true := code_word (m := ⟨0, 0⟩) (meth := k0m0) (c := k0c0) (by decide +kernel) rfl rfl rfl (by decide +kernel)
set_option maxRecDepth 65536 in
theorem w_c6 : (Jvm.Cond.code ({ cls := "com/example/anchored_threads/anchoredthreads/internal/ChunkedList", name := "size", desc := "()I" } : Jvm.MethodName) prog_28_method_5_code (1 : Nat) (Option.some Jvm.ClassFile.FieldType.int)).before args0 about1 = true := code_word (m := ⟨16, 3⟩) (meth := k16m3) (c := k16c3) (by decide +kernel) rfl rfl rfl (by decide +kernel)
set_option maxRecDepth 65536 in
theorem w_c7 : (Jvm.Cond.code ({ cls := "com/example/anchored_threads/anchoredthreads/internal/ChunkedList", name := "add", desc := "(Ljava/lang/Object;)Z" } : Jvm.MethodName) prog_28_method_2_code (5 : Nat) (Option.some Jvm.ClassFile.FieldType.boolean)).before args0 about1 = true := code_word (m := ⟨16, 1⟩) (meth := k16m1) (c := k16c1) (by decide +kernel) rfl rfl rfl (by decide +kernel)
set_option maxRecDepth 65536 in
theorem w_c8 : (Jvm.Cond.code ({ cls := "com/example/anchored_threads/anchoredthreads/internal/ChunkedList", name := "removeLast", desc := "()Ljava/lang/Object;" } : Jvm.MethodName) prog_28_method_3_code (5 : Nat) (Option.some (Jvm.ClassFile.FieldType.object "java/lang/Object"))).before args0 about1 = true := code_word (m := ⟨16, 2⟩) (meth := k16m2) (c := k16c2) (by decide +kernel) rfl rfl rfl (by decide +kernel)
set_option maxRecDepth 65536 in
theorem w_c9 : (Jvm.Cond.code ({ cls := "java/lang/Integer", name := "<init>", desc := "(I)V" } : Jvm.MethodName) jdk_33_method_23_code (2 : Nat) (Option.none : Option Jvm.ClassFile.FieldType)).before args0 about1 = true := code_word (m := ⟨7, 1⟩) (meth := k7m1) (c := k7c1) (by decide +kernel) rfl rfl rfl (by decide +kernel)
set_option maxRecDepth 65536 in
theorem w_c10 : (Jvm.Cond.code ({ cls := "java/lang/Number", name := "<init>", desc := "()V" } : Jvm.MethodName) jdk_18_method_1_code (1 : Nat) (Option.none : Option Jvm.ClassFile.FieldType)).before args0 about1 = true := code_word (m := ⟨3, 0⟩) (meth := k3m0) (c := k3c0) (by decide +kernel) rfl rfl rfl (by decide +kernel)
set_option maxRecDepth 65536 in
theorem w_c11 : (Jvm.Cond.code ({ cls := "java/lang/Math", name := "min", desc := "(II)I" } : Jvm.MethodName) jdk_29_method_69_code (2 : Nat) (Option.some Jvm.ClassFile.FieldType.int)).before args0 about1 = true := code_word (m := ⟨17, 1⟩) (meth := k17m1) (c := k17c1) (by decide +kernel) rfl rfl rfl (by decide +kernel)
set_option maxRecDepth 65536 in
theorem w_c12 : (Jvm.Cond.code ({ cls := "java/util/Arrays", name := "copyOf", desc := "([Ljava/lang/Object;I)[Ljava/lang/Object;" } : Jvm.MethodName) jdk_65_method_119_code (2 : Nat) (Option.some (Jvm.ClassFile.FieldType.array (Jvm.ClassFile.FieldType.object "java/lang/Object")))).before args0 about1 = true := code_word (m := ⟨18, 1⟩) (meth := k18m1) (c := k18c1) (by decide +kernel) rfl rfl rfl (by decide +kernel)
set_option maxRecDepth 65536 in
theorem w_c13 : (Jvm.Cond.code ({ cls := "java/util/Arrays", name := "copyOf", desc := "([Ljava/lang/Object;ILjava/lang/Class;)[Ljava/lang/Object;" } : Jvm.MethodName) jdk_65_method_120_code (4 : Nat) (Option.some (Jvm.ClassFile.FieldType.array (Jvm.ClassFile.FieldType.object "java/lang/Object")))).before args0 about1 = true := code_word (m := ⟨18, 2⟩) (meth := k18m2) (c := k18c2) (by decide +kernel) rfl rfl rfl (by decide +kernel)
def codes1 : List Jvm.Cond := [Jvm.Cond.code x code maxLocals ret, Jvm.Cond.code ({ cls := "java/lang/Integer", name := "valueOf", desc := "(I)Ljava/lang/Integer;" } : Jvm.MethodName) jdk_33_method_22_code (1 : Nat) (Option.some (Jvm.ClassFile.FieldType.object "java/lang/Integer")), Jvm.Cond.code ({ cls := "com/example/anchored_threads/anchoredthreads/internal/ChunkedList", name := "<init>", desc := "()V" } : Jvm.MethodName) prog_28_method_1_code (1 : Nat) (Option.none : Option Jvm.ClassFile.FieldType), Jvm.Cond.code ({ cls := "java/util/AbstractList", name := "<init>", desc := "()V" } : Jvm.MethodName) jdk_39_method_1_code (1 : Nat) (Option.none : Option Jvm.ClassFile.FieldType), Jvm.Cond.code ({ cls := "java/util/AbstractCollection", name := "<init>", desc := "()V" } : Jvm.MethodName) jdk_22_method_1_code (1 : Nat) (Option.none : Option Jvm.ClassFile.FieldType), Jvm.Cond.code ({ cls := "java/lang/Object", name := "<init>", desc := "()V" } : Jvm.MethodName) object_method_1_code (1 : Nat) (Option.none : Option Jvm.ClassFile.FieldType), Jvm.Cond.code ({ cls := "com/example/anchored_threads/anchoredthreads/internal/ChunkedList", name := "size", desc := "()I" } : Jvm.MethodName) prog_28_method_5_code (1 : Nat) (Option.some Jvm.ClassFile.FieldType.int), Jvm.Cond.code ({ cls := "com/example/anchored_threads/anchoredthreads/internal/ChunkedList", name := "add", desc := "(Ljava/lang/Object;)Z" } : Jvm.MethodName) prog_28_method_2_code (5 : Nat) (Option.some Jvm.ClassFile.FieldType.boolean), Jvm.Cond.code ({ cls := "com/example/anchored_threads/anchoredthreads/internal/ChunkedList", name := "removeLast", desc := "()Ljava/lang/Object;" } : Jvm.MethodName) prog_28_method_3_code (5 : Nat) (Option.some (Jvm.ClassFile.FieldType.object "java/lang/Object")), Jvm.Cond.code ({ cls := "java/lang/Integer", name := "<init>", desc := "(I)V" } : Jvm.MethodName) jdk_33_method_23_code (2 : Nat) (Option.none : Option Jvm.ClassFile.FieldType), Jvm.Cond.code ({ cls := "java/lang/Number", name := "<init>", desc := "()V" } : Jvm.MethodName) jdk_18_method_1_code (1 : Nat) (Option.none : Option Jvm.ClassFile.FieldType), Jvm.Cond.code ({ cls := "java/lang/Math", name := "min", desc := "(II)I" } : Jvm.MethodName) jdk_29_method_69_code (2 : Nat) (Option.some Jvm.ClassFile.FieldType.int), Jvm.Cond.code ({ cls := "java/util/Arrays", name := "copyOf", desc := "([Ljava/lang/Object;I)[Ljava/lang/Object;" } : Jvm.MethodName) jdk_65_method_119_code (2 : Nat) (Option.some (Jvm.ClassFile.FieldType.array (Jvm.ClassFile.FieldType.object "java/lang/Object"))), Jvm.Cond.code ({ cls := "java/util/Arrays", name := "copyOf", desc := "([Ljava/lang/Object;ILjava/lang/Class;)[Ljava/lang/Object;" } : Jvm.MethodName) jdk_65_method_120_code (4 : Nat) (Option.some (Jvm.ClassFile.FieldType.array (Jvm.ClassFile.FieldType.object "java/lang/Object")))]
set_option maxRecDepth 65536 in
theorem codes_eq : words1.filter isCode = codes1 := rfl
theorem w_codes : ∀ c ∈ words1.filter isCode, c.before args0 about1 = true := by
  rw [codes_eq]
  intro c hc
  simp only [codes1, List.mem_cons, List.not_mem_nil, or_false] at hc
  rcases hc with rfl | rfl | rfl | rfl | rfl | rfl | rfl | rfl | rfl | rfl | rfl | rfl | rfl | rfl
  · exact w_c0
  · exact w_c1
  · exact w_c2
  · exact w_c3
  · exact w_c4
  · exact w_c5
  · exact w_c6
  · exact w_c7
  · exact w_c8
  · exact w_c9
  · exact w_c10
  · exact w_c11
  · exact w_c12
  · exact w_c13
set_option maxRecDepth 65536 in
theorem w_t1 : (words1.take 24).all (fun c => isCode c || c.before args0 about1) = true := by decide +kernel
set_option maxRecDepth 65536 in
theorem w_t2 : ((words1.drop 24).take 24).all (fun c => isCode c || c.before args0 about1) = true := by decide +kernel
set_option maxRecDepth 65536 in
theorem w_t3 : (((words1.drop 24).drop 24).take 24).all (fun c => isCode c || c.before args0 about1) = true := by decide +kernel
set_option maxRecDepth 65536 in
theorem w_t4 : ((((words1.drop 24).drop 24).drop 24).take 24).all (fun c => isCode c || c.before args0 about1) = true := by decide +kernel
set_option maxRecDepth 65536 in
theorem w_t5 : ((((words1.drop 24).drop 24).drop 24).drop 24).all (fun c => isCode c || c.before args0 about1) = true := by decide +kernel
theorem w_tables : (allAtoms (Jvm.Cond.code x code maxLocals ret :: tables_1)).before args0 about1 = true := by
  rw [allAtoms_all]
  show words1.all (fun c => c.before args0 about1) = true
  refine all_split ?_ w_codes
  rw [← List.take_append_drop 24 words1, List.all_append, w_t1, ← List.take_append_drop 24 (words1.drop 24), List.all_append, w_t2, ← List.take_append_drop 24 ((words1.drop 24).drop 24), List.all_append, w_t3, ← List.take_append_drop 24 (((words1.drop 24).drop 24).drop 24), List.all_append, w_t4, w_t5]
  rfl
set_option maxRecDepth 65536 in
theorem w_rest : rest_1_c.before args0 about1 = true := by decide +kernel
set_option maxRecDepth 65536 in
theorem w_case : (Jvm.Cond.and given_1 narrow_1).before args0 about1 = true := by decide +kernel
theorem w_applies : (headSpec (Jvm.Cond.code x code maxLocals ret :: tables_1) room_1).applies x e0.platform about1 = true :=
  (Spec.applies_iff w_frames).mpr ⟨w_running, w_runnable, w_alone, w_named, w_hears, w_ripe, w_room, w_tables⟩
set_option maxRecDepth 65536 in
theorem w_calls : Calls_1 p0.tables e0 args0 about1 := ⟨⟨26, k26, 258, by decide +kernel, rfl, rfl, { cls := 0, slots := #[], vm := .mirror 26 }, rfl, rfl⟩, trivial⟩
theorem atStart : AtStart classFile x code maxLocals ret World_1 tables_1 room_1 Calls_1 rest_1 Pre_1 launch0 p0 e0 about1 theMethod args0 below0 :=
  ⟨lists_1, trivial, launch0.admits_env _ _ _, launch0.least_env, fairChoices_fair.cas, fairChoices_fair.clock, w_frames, w_args, w_heap, w_applies, w_calls, w_rest, w_case⟩
end start1
theorem witness_1 : WitnessClaimed_1 := ⟨start1.p0, start1.e0, start1.about1, start1.theMethod, start1.args0, start1.below0, start1.atStart⟩
end Jvm.Pilot.@@N@@
