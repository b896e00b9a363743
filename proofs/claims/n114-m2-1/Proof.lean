import JvmDerived
import JvmDerived.Pilot.@@N@@Statement
import JvmDerived.Pilot.@@N@@Code
set_option linter.unusedVariables false
set_option linter.unusedSimpArgs false
namespace Jvm.RoadKit
open Sem ClassFile Op Lib Jvm.Stand Jvm.Free Jvm.LawKit
section New
variable {p : Program} {l : Launch} {e : Env} {R : Room} {s : State} {m : MethodId} {args : Array Value} {below : List Frame} {meth : Method} {c : Code} {T : State} {locs : List Loc} {cells slots : Nat}
theorem retI (X : Stand p l e R s m args below meth c T locs cells slots) (hx : p.tables.exec = Jvm.exec) {pc : Nat} {Ls : Array Slot} {z : Int32} {rest : List Value} (hret : meth.sig.returnType = some .int) (hd : decode c.code pc = .ok (.ireturn, 1)) {fs : List Frame}
    (hl : ∀ (f : JFrame) (acts : List Action), f.method = m → f.locked = none → f.entered = [] → (doReturn e (T.setTop f) acts (some (.int z))).1 = T.setFrames fs) : Steps p.tables e below (T.setTop (mkF m pc Ls (.int z :: rest))) (T.setFrames fs) := by
  have hm' : T.vm.method? m = some meth := X.method'
  have hn : narrow .int (.int z) = .int z := rfl
  show Steps p.tables e below (T.setTop { method := m, pc := pc, locals := Ls, stack := _ :: rest, locked := none }) _
  jvm_step X.here [X.here.top, hx, hd, hm', hret, hn]
  first | (intro acts; rw [hl _ acts rfl rfl rfl]) | rw [hl _ _ rfl rfl rfl]
  exact Steps.refl _
end New
end Jvm.RoadKit
namespace Jvm.Pilot.@@N@@
open Jvm Jvm.ClassFile Sem Op Lib Jvm.Free Jvm.Stand Jvm.LawKit Jvm.RoadKit Bundle Jvm.Pilot.@@N@@.Jvm.D
/-- what a body that writes nothing leaves: the value, and the heap as it was -/
def QV (r : Option Value) (h0 : Heap) (n0 : Nat) (v : Option Value) (h : Heap) (L : List Loc) : Prop := v = r ∧ Fr n0 L ∧ h = h0
theorem own_fld_one {Z : State} {h : Heap} {a : Addr} {C n d : String} {v w : Value} (F : Fld Z h a C n d v) (G : Fld Z h a C n d w) : v = w := by
  obtain ⟨c1, f1, k1, i1, g1, a1, a2, -, -, -, -, a7⟩ := F
  obtain ⟨c2, f2, k2, i2, g2, b1, b2, -, -, -, -, b7⟩ := G
  cases a1.symm.trans b1
  cases a2.symm.trans b2
  exact Option.some.inj (a7.symm.trans b7)
theorem own_ne_fld {Z : State} {h : Heap} {a b : Addr} {C n d : String} {x y : Int32} (F : Fld Z h a C n d (.int x)) (G : Fld Z h b C n d (.int y)) (hn : x ≠ y) : ¬ a = b := fun e => by
  subst e
  exact hn (Value.int.inj (own_fld_one F G))
theorem own_fld {args : Array Value} {s : State} {t : Term} {C n d : String} {k : Int32} {a : Addr} (ht : t.eval args s none [] s = some (.ref a)) (h : (Jvm.Cond.eq (Jvm.Term.field t C n d) (Jvm.Term.int k)).value args s none s [] = some true) : Fld s s.heap a C n d (.int k) := by
  refine Fld.start ((fld_at (idx := []) (first := s) (o := none) ht).symm.trans ?_)
  obtain ⟨x, y, e1, e2, k1, k2⟩ := cmp_v (Or.inl h)
  cases e2
  obtain ⟨z, rfl⟩ := k2
  have e3 : (Jvm.Term.int k).eval args s none [] s = some (.int k) := rfl
  have q : z = k := by simpa [Jvm.Cond.value, e1, e3] using h
  rw [e1, q]
def Q0 (n0 : Nat) (v : Option Value) (h : Heap) (L : List Loc) : Prop := v = some (.int (1 : Int32)) ∧ Fr n0 L
def QW (Z : State) (a : Addr) (C f d : String) (val : Value) (r : Option Value) (h0 : Heap) (n0 : Nat) (v : Option Value) (h : Heap) (L : List Loc) : Prop := v = r ∧ Fr n0 L ∧ Keep h0 h [a] ∧ Fld Z h a C f d val
def QIV (Z : State) (q : Int32) (h0 : Heap) (n0 : Nat) (v : Option Value) (h : Heap) (L : List Loc) : Prop := ∃ b : Addr, v = some (.ref b) ∧ Fr n0 L ∧ Keep h0 h [] ∧ Exa Z h b "java/lang/Integer" ∧ Fld Z h b "java/lang/Integer" "value" "I" (.int q)
theorem own_place (q : Int32) (h1 : ¬ q < (-128 : Int32)) (h2 : ¬ (127 : Int32) < q) : ¬ ((q + (128 : Int32)) < 0 ∨ (256 : Int32).toNatClampNeg ≤ (q + (128 : Int32)).toNatClampNeg) := by
  have a1 : (-128 : Int32).toInt = -128 := by decide
  have a2 : (127 : Int32).toInt = 127 := by decide
  have a3 : (128 : Int32).toInt = 128 := by decide
  have a4 : (256 : Int32).toNatClampNeg = 256 := by decide
  have a5 : (0 : Int32).toInt = 0 := by decide
  rw [Int32.lt_iff_toInt_lt] at h1 h2
  have e2 := c_iadd q 128
  have r1 := rng32 q
  have r2 := rng32 (q + 128)
  rw [Int32.lt_iff_toInt_lt, a4]
  have e3 : (q + 128).toInt = q.toInt + 128 := by omega
  have e4 : (q + 128).toNatClampNeg = (q + 128).toInt.toNat := rfl
  rintro (z | z)
  · omega
  · rw [e4] at z; omega
theorem own_bxs {Z : State} {args : Array Value} {a : Addr} {c : Cell} (ec : ∀ idx, (Jvm.Term.static "java/lang/Integer$IntegerCache" "cache" "[Ljava/lang/Integer;").eval args Z none idx Z = some (.ref a)) (A : Arr Z Z.heap a c (.object "java/lang/Integer")) (hl : (Jvm.Cond.eq (Jvm.Term.length (Jvm.Term.static "java/lang/Integer$IntegerCache" "cache" "[Ljava/lang/Integer;")) (Jvm.Term.int (256 : Int32))).before args Z = true)
    (h : (Jvm.Cond.all (Jvm.Term.static "java/lang/Integer$IntegerCache" "cache" "[Ljava/lang/Integer;") (Jvm.Cond.and (Jvm.Cond.exactly (Jvm.Term.elem (Jvm.Term.static "java/lang/Integer$IntegerCache" "cache" "[Ljava/lang/Integer;") (Jvm.Term.index (0 : Nat))) "java/lang/Integer") (Jvm.Cond.eq (Jvm.Term.field (Jvm.Term.elem (Jvm.Term.static "java/lang/Integer$IntegerCache" "cache" "[Ljava/lang/Integer;") (Jvm.Term.index (0 : Nat))) "java/lang/Integer" "value" "I") (Jvm.Term.sub (Jvm.Term.index (0 : Nat)) (Jvm.Term.int (128 : Int32)))))).before args Z = true) : Bxs Z a c "java/lang/Integer" "I" 256 (fun j => .int (j - 128)) := by
  obtain ⟨q1, q2⟩ := Jvm.Free.IntBox.length_fwd hl (ec []) A.1 A.2.1 A.2.2
  exact Bxs.start ec A q1 q2 (by decide) (Cond.before_iff.mp h) (fun X j nn he => eqv_i (Term.sub_int (idx_at nn) (Term.int_eval 128)) he)
def CLs (Z : State) (n0 : Nat) (h : Heap) (a ch ea : Addr) (kc ke : ClassId) (n mc cap : Int32) (vs : List Value) : Prop :=
  Exa Z h a "com/example/anchored_threads/anchoredthreads/internal/ChunkedList" ∧ Fld Z h a "com/example/anchored_threads/anchoredthreads/internal/ChunkedList" "size" "I" (.int n) ∧ Fld Z h a "com/example/anchored_threads/anchoredthreads/internal/ChunkedList" "chunks" "[[Ljava/lang/Object;" (.ref ch) ∧ Fld Z h a "java/util/AbstractList" "modCount" "I" (.int mc) ∧ Arv Z h ch kc (.array (.object "java/lang/Object")) (1 : Int32) [.ref ea] .null ∧ Arv Z h ea ke (.object "java/lang/Object") cap vs .null ∧ Exa Z h ea "[Ljava/lang/Object;" ∧ Ovr Z ke "java/lang/Object" ∧ OvrA Z kc (.object "java/lang/Object") "[Ljava/lang/Object;" ∧ n0 ≤ a ∧ n0 ≤ ch ∧ n0 ≤ ea ∧ a ≠ ch ∧ a ≠ ea ∧ ch ≠ ea
def QAL (Z : State) (a : Addr) (h0 : Heap) (n0 : Nat) (v : Option Value) (h : Heap) (L : List Loc) : Prop := v = none ∧ Fr n0 L ∧ Keep h0 h [a] ∧ Fld Z h a "java/util/AbstractList" "modCount" "I" (.int (0 : Int32)) ∧ Fld Z h a "com/example/anchored_threads/anchoredthreads/internal/ChunkedList" "size" "I" (.int (0 : Int32)) ∧ Fld Z h a "com/example/anchored_threads/anchoredthreads/internal/ChunkedList" "chunks" "[[Ljava/lang/Object;" .null
def QCI (Z : State) (a : Addr) (h0 : Heap) (n0 : Nat) (v : Option Value) (h : Heap) (L : List Loc) : Prop := v = none ∧ Fr n0 L ∧ Keep h0 h [a] ∧ ∃ (ch ea : Addr) (kc ke : ClassId), h0.size ≤ ch ∧ h0.size ≤ ea ∧ CLs Z n0 h a ch ea kc ke 0 0 4 [.null, .null, .null, .null]
def QAd (Z : State) (a ch ea : Addr) (kc ke : ClassId) (n cap : Int32) (vs : List Value) (h0 : Heap) (n0 : Nat) (v : Option Value) (h : Heap) (L : List Loc) : Prop := v = some (.int (1 : Int32)) ∧ Fr n0 L ∧ Keep h0 h [a, ch, ea] ∧ ∃ mc : Int32, CLs Z n0 h a ch ea kc ke n mc cap vs
def QGr (Z : State) (a ch ea : Addr) (kc : ClassId) (vs : List Value) (h0 : Heap) (n0 : Nat) (v : Option Value) (h : Heap) (L : List Loc) : Prop := v = some (.int (1 : Int32)) ∧ Fr n0 L ∧ Keep h0 h [a, ch, ea] ∧ ∃ (ea' : Addr) (ke' : ClassId) (mc : Int32), CLs Z n0 h a ch ea' kc ke' (5 : Int32) mc (8 : Int32) vs
theorem CLs.keep {Z : State} {n0 : Nat} {h h' : Heap} {a ch ea : Addr} {kc ke : ClassId} {n mc cap : Int32} {vs : List Value} (C : CLs Z n0 h a ch ea kc ke n mc cap vs) (K : Keep h h' []) : CLs Z n0 h' a ch ea kc ke n mc cap vs := by
  obtain ⟨hE, hFs, hFc, hFm, hVc, hVe, hXe, r⟩ := C
  exact ⟨hE.keep K, hFs.keep K nin0, hFc.keep K nin0, hFm.keep K nin0, hVc.keep K nin0, hVe.keep K nin0, hXe.keep K, r⟩
theorem own_ne_arv {Z : State} {h : Heap} {a0 : Array Value} {b x : Addr} {C : String} {q : Nat} {k : ClassId} {ty : FieldType} {z : Int32} {vs : List Value} {d : Value} (E : Exa Z h b C) (wi : (Jvm.Cond.instantiable C q).before a0 Z = true) (G : Arv Z h x k ty z vs d) : b ≠ x := by
  obtain ⟨c, A, -⟩ := G
  exact ne_arr E wi A
theorem own_tab3 {Z s : State} {a0 sargs : Array Value} (hw : ∀ d ∈ tables_1, d.before a0 Z = true) (hZ : Z.Warmed39 s.vm) : Jvm.Free.CopyOfC.Copy3.tab.before sargs s = true := by
  refine (conj_holds (args := sargs) (first := s) (o := none) (s := s) (idx := []) _ _).mpr ⟨mvT hZ (hw _ (List.mem_of_getElem? (i := 96) rfl)), fun d hd => ?_⟩
  simp only [List.mem_cons, List.not_mem_nil, or_false] at hd
  rcases hd with rfl | rfl | rfl | rfl | rfl | rfl | rfl | rfl | rfl | rfl | rfl
  · exact mvT hZ (hw _ (List.mem_of_getElem? (i := 98) rfl))
  · exact Cond.arrayOver_alike hZ.alike (hw _ (List.mem_of_getElem? (i := 26) rfl))
  · exact mvT hZ (hw _ (List.mem_of_getElem? (i := 99) rfl))
  · exact mvT hZ (hw _ (List.mem_of_getElem? (i := 82) rfl))
  · exact mvT hZ (hw _ (List.mem_of_getElem? (i := 83) rfl))
  · exact mvT hZ (hw _ (List.mem_of_getElem? (i := 84) rfl))
  · exact mvT hZ (hw _ (List.mem_of_getElem? (i := 100) rfl))
  · exact mvT hZ (hw _ (List.mem_of_getElem? (i := 103) rfl))
  · exact mvT hZ (hw _ (List.mem_of_getElem? (i := 101) rfl))
  · exact mvT hZ (hw _ (List.mem_of_getElem? (i := 102) rfl))
  · exact mvT hZ (hw _ (List.mem_of_getElem? (i := 97) rfl))
theorem own_tab2 {Z s : State} {a0 sargs : Array Value} (hw : ∀ d ∈ tables_1, d.before a0 Z = true) (hZ : Z.Warmed39 s.vm) : Jvm.Free.CopyOfC.Copy2.tab.before sargs s = true := by
  refine (conj_holds (args := sargs) (first := s) (o := none) (s := s) (idx := []) _ _).mpr ⟨mvT hZ (hw _ (List.mem_of_getElem? (i := 88) rfl)), fun d hd => ?_⟩
  rcases List.mem_append.mp hd with hd | hd
  · have hd : d ∈ [Jvm.Cond.methodLink "java/util/Arrays" 86 Jvm.Stand.gcN, .declares Jvm.Stand.gcN, .selects "[Ljava/lang/Object;" Jvm.Stand.gcN Jvm.Stand.gcN, .instanceMethod Jvm.Stand.gcN, .native Jvm.Stand.gcN, .methodLink "java/util/Arrays" 300 Jvm.Free.CopyOfC.copy3N, .static Jvm.Free.CopyOfC.copy3N, .initialized "java/util/Arrays"] := hd
    simp only [List.mem_cons, List.not_mem_nil, or_false] at hd
    rcases hd with rfl | rfl | rfl | rfl | rfl | rfl | rfl | rfl
    · exact mvT hZ (hw _ (List.mem_of_getElem? (i := 89) rfl))
    · exact mvT hZ (hw _ (List.mem_of_getElem? (i := 90) rfl))
    · exact mvT hZ (hw _ (List.mem_of_getElem? (i := 92) rfl))
    · exact mvT hZ (hw _ (List.mem_of_getElem? (i := 91) rfl))
    · exact mvT hZ (hw _ (List.mem_of_getElem? (i := 93) rfl))
    · exact mvT hZ (hw _ (List.mem_of_getElem? (i := 94) rfl))
    · exact mvT hZ (hw _ (List.mem_of_getElem? (i := 95) rfl))
    · exact mvT hZ (hw _ (List.mem_of_getElem? (i := 87) rfl))
  · rw [List.mem_singleton.mp hd]; exact own_tab3 hw hZ
theorem own_pdC : parseMethodDescriptor "([Ljava/lang/Object;I)[Ljava/lang/Object;" = some ⟨[(.array (.object "java/lang/Object")), .int], some (.array (.object "java/lang/Object"))⟩ := by decide +kernel
/-- the copy, read place for place -/
theorem own_copied {g : Jvm.Free.CopyOfC.Copy3.G} {vs : List Value} (hn : ¬ g.n < 0) (hsz : g.cs.slots.size < 2 ^ 31) (Ha : Has g.cs vs .null) (hl : vs.length ≤ g.cs.slots.size) :
    (copied g.cs (Jvm.Free.CopyOfC.Copy3.fresh g) 0 0 (Jvm.Free.CopyOfC.Copy3.mn g)).cls = g.cOA ∧ (copied g.cs (Jvm.Free.CopyOfC.Copy3.fresh g) 0 0 (Jvm.Free.CopyOfC.Copy3.mn g)).vm = .none ∧ (copied g.cs (Jvm.Free.CopyOfC.Copy3.fresh g) 0 0 (Jvm.Free.CopyOfC.Copy3.mn g)).slots.size = g.n.toNatClampNeg ∧
      Has (copied g.cs (Jvm.Free.CopyOfC.Copy3.fresh g) 0 0 (Jvm.Free.CopyOfC.Copy3.mn g)) vs .null := by
  obtain ⟨b1, b2⟩ := back32 hn
  have hmn : Jvm.Free.CopyOfC.Copy3.mn g = Int32.ofNat (min g.n.toNatClampNeg g.cs.slots.size) := by
    show (if g.n < g.cs.slots.size.toInt32 then g.n else g.cs.slots.size.toInt32) = _
    have t1 : (g.cs.slots.size.toInt32).toInt = (g.cs.slots.size : Int) := len_toInt hsz
    have t2 : g.n.toInt = (g.n.toNatClampNeg : Int) := nat_of hn
    by_cases q : g.n < g.cs.slots.size.toInt32
    · rw [if_pos q]
      rw [Int32.lt_iff_toInt_lt, t1, t2] at q
      have e : min g.n.toNatClampNeg g.cs.slots.size = g.n.toNatClampNeg := by omega
      rw [e]; exact b1.symm
    · rw [if_neg q]
      rw [Int32.lt_iff_toInt_lt, t1, t2] at q
      have e : min g.n.toNatClampNeg g.cs.slots.size = g.cs.slots.size := by omega
      rw [e]; try rfl
  have hf : (Jvm.Free.CopyOfC.Copy3.fresh g).slots = Array.replicate g.n.toNatClampNeg .null := rfl
  obtain ⟨f1, f2, f3⟩ := Jvm.Free.SB.copied_facts g.cs (Jvm.Free.CopyOfC.Copy3.fresh g) 0 0 (Jvm.Free.CopyOfC.Copy3.mn g)
  have hs : (copied g.cs (Jvm.Free.CopyOfC.Copy3.fresh g) 0 0 (Jvm.Free.CopyOfC.Copy3.mn g)).slots.size = g.n.toNatClampNeg := by rw [f3, hf]; simp
  refine ⟨f1, f2, hs, fun k hk => ?_⟩
  rw [hs] at hk
  have hat := Jvm.Free.SBG.copied_at (cs := g.cs) (cd := Jvm.Free.CopyOfC.Copy3.fresh g) (p := 0) (n := min g.n.toNatClampNeg g.cs.slots.size) (by decide) (by omega) (by rw [hf, Array.size_replicate]; omega) k
  rw [← hmn] at hat
  refine Eq.trans hat ?_
  by_cases q : k < min g.n.toNatClampNeg g.cs.slots.size
  · rw [if_pos ⟨Nat.zero_le _, by omega⟩, Nat.sub_zero]
    have hk2 : k < g.cs.slots.size := by omega
    have w := Ha k hk2
    rw [Array.getElem?_eq_getElem hk2] at w
    have e : g.cs.slots.getD k .null = vs.getD k .null := by
      rw [← Option.some.inj w]
      simp [Array.getD, hk2]
    rw [e]
  · rw [if_neg (by omega)]
    have e : vs.getD k .null = .null := by
      rw [List.getD_eq_getElem?_getD, List.getElem?_eq_none (by omega)]; rfl
    rw [e, hf, Array.getElem?_replicate, if_pos hk]
/-- Arrays.copyOf(Object[], int), one step of a walk -/
theorem own_copyOf {p : Program} {l : Launch} {e : Env} {R : Room} {s : State} {m : MethodId} {args : Array Value} {below : List Frame} {meth : Method} {c : Code} {T : State} {locs : List Loc} {cells slots : Nat} {Z : State} {a0 : Array Value} {h : Heap}
    (X : Stand p l e R s m args below meth c T locs cells slots) (hx : p.tables.exec = Jvm.exec) (hZ : Z.Warmed39 s.vm) (hw : ∀ d ∈ tables_1, d.before a0 Z = true) {own : String} {index : Nat} (hown : s.vm.findClass own = some m.cls) (w : (Jvm.Cond.methodLink own index ⟨"java/util/Arrays", "copyOf", "([Ljava/lang/Object;I)[Ljava/lang/Object;"⟩).before a0 Z = true) (eT : T.heap = h)
    (hM : ∃ (c : ClassId) (k : Class) (m : Addr), Z.vm.findClass "[Ljava/lang/Object;" = some c ∧ Z.vm.classes[c]? = some k ∧ k.mirror = some m) {ea : Addr} {k : ClassId} {z n : Int32} {vs : List Value} (V : Arv Z h ea k (.object "java/lang/Object") z vs .null) (EX : Exa Z h ea "[Ljava/lang/Object;") (O : Ovr Z k "java/lang/Object")
    (hl : vs.length ≤ z.toNatClampNeg) (hel : ∀ i, vs.getD i .null = .null ∨ ∃ b : Addr, vs.getD i .null = .ref b ∧ Ins Z h b "java/lang/Object" true) (hn : ¬ n < 0) {K : Nat} (hK : n.toNatClampNeg ≤ K) (hK2 : K * 4 ≤ 536870912) (hz : z.toNatClampNeg < 2 ^ 31)
    {g : JFrame} (hg : g.method = m) (hsize : g.locals.size = c.maxLocals) {rest : List Value} (hs : g.stack = .int n :: .ref ea :: rest) (hd : decode c.code g.pc = .ok (.invokestatic index, 3)) (hf : 4 ≤ R.frames) {W : Nat} (hW : 2 * g.monitorRoom + (rest.map fun v => v.category).sum ≤ W) (hlo : W + 77 ≤ R.locals) (hc : cells + 1 ≤ R.cells) (hsl : slots + K ≤ R.slots) :
    ∃ T' h' k', Stand p l e R s m args below meth c T' locs (cells + 1) (slots + K) ∧ T'.heap = h' ∧ Ext h h' ∧ Arv Z h' h.size k' (.object "java/lang/Object") n vs .null ∧ Exa Z h' h.size "[Ljava/lang/Object;" ∧ Ovr Z k' "java/lang/Object" ∧
      ∀ target, Steps p.tables e below (T'.setTop { g with pc := g.pc + 3, stack := .ref h.size :: rest }) target → Steps p.tables e below (T.setTop g) target := by
  obtain ⟨cs, Ar, hk, Sz, Nn, Ha, Ga⟩ := V
  obtain ⟨cOA, kOA, mir, m1, m2, m3⟩ := hM
  obtain ⟨cx, kx, x1, x2, x3, x4, -⟩ := EX
  cases x1.symm.trans Ar.1
  cases m1.symm.trans x2
  cases m2.symm.trans x3
  obtain ⟨kO, cObj, o1, o2, o3⟩ := O
  subst hk
  cases m2.symm.trans o1
  obtain ⟨kObj, ob⟩ := Vm.classAt_of_findClass o3
  have wcode : (Jvm.Cond.code (⟨"java/util/Arrays", "copyOf", "([Ljava/lang/Object;I)[Ljava/lang/Object;"⟩ : MethodName) _ 2 _).before a0 Z = true := (hw _ (List.mem_of_getElem? (i := 88) rfl))
  obtain ⟨mk, hnamed⟩ := Cond.code_named wcode
  have hAR : Z.vm.findClass "java/util/Arrays" = some mk.cls := findClass_of_methodNamed hnamed
  have hpre : ∀ vm₁, s.WarmedH vm₁ → Jvm.Free.CopyOfC.Copy2.P K ⟨ea, cs, n, mir, cs.cls, cObj, mk.cls⟩ #[.ref ea, .int n] (T.setVm vm₁) := fun vm₁ hW₁ => by
    have al : Z.vm.Alike vm₁ := hZ.alike.trans hW₁.alike
    have hZ1 : Z.Warmed39 (T.setVm vm₁).vm := State.Warmed39.trans hZ hW₁.wide
    obtain ⟨k1, a1, a2⟩ := al.2.2 _ _ m2
    obtain ⟨k2, c1, c2⟩ := al.2.2 _ _ ob
    refine ⟨rfl, ⟨rfl, by show T.heap[ea]? = _; rw [eT]; exact Ar.1, Ar.2.2, Ar.2.1.1, ⟨k1, cObj, _, a1, by rw [a2]; exact o2, rfl⟩, (by show vm₁.findClass _ = _; rw [al.findClass]; exact m1), ⟨k1, a1, by rw [a2]; exact o2, by rw [a2]; exact m3⟩, (by show vm₁.findClass _ = _; rw [al.findClass]; exact o3), ⟨k2, c1⟩, (by show vm₁.findClass _ = _; rw [al.findClass]; exact hAR), ?_, hK, (by show n.toNatClampNeg * 4 ≤ 536870912; omega), (by show cs.slots.size < _; rw [Sz]; exact hz), fun i hi => ?_⟩, notFace_of_selects (args := #[]) (mvT hZ1 (hw _ (List.mem_of_getElem? (i := 92) rfl))), rfl⟩
    · show 0 ≤ n.toInt
      rw [nat_of hn]; omega
    · refine ⟨_, Ha i hi, ?_⟩
      rcases hel i with q | ⟨b, q, I⟩
      · exact Or.inl q
      · obtain ⟨cv, cT, i1, i2, i3⟩ := I
        cases o3.symm.trans i2
        simp only [Bool.and_eq_true, Bool.not_eq_true'] at i3
        obtain ⟨kv, q2⟩ := Vm.classAt_of_assignable i3.2 ⟨_, ob⟩
        obtain ⟨k3, d1, -⟩ := al.2.2 _ _ q2
        exact Or.inr ⟨b, cv, q, by show T.heap[b]? = _; rw [eT]; exact i1, fun q z => by rw [z] at i3; exact absurd i3.1 (by simp [VmData.isStatics]), ⟨k3, d1⟩, (by show vm₁.assignable _ _ = true; rw [al.assignable]; exact i3.2)⟩
  obtain ⟨v, vm₁, ⟨T', L', k', n'⟩, hW₁, X', ⟨hv, hcell, l1, y1, z1, hold⟩, st⟩ := Jvm.LawKit.callS X hx (y := (⟨"java/util/Arrays", "copyOf", "([Ljava/lang/Object;I)[Ljava/lang/Object;"⟩ : MethodName)) hown (mvT hZ w) (mvT hZ (hw _ (List.mem_of_getElem? (i := 86) rfl))) (mvT hZ (hw _ (List.mem_of_getElem? (i := 87) rfl))) (mvT hZ wcode) (by decide) (Jvm.Free.CopyOfC.Copy2.pays K ⟨ea, cs, n, mir, cs.cls, cObj, mk.cls⟩ (own_tab2 hw hZ) hf hlo) hg hsize (argsL := [.ref ea, .int n]) (rest := rest) (lenOf own_pdC rfl) hs hW hd (fun vm₁ h₁ => ⟨hc, hsl, hpre vm₁ h₁⟩)
  dsimp only [Pt.U, Pt.locs, Pt.cells, Pt.slots] at X' st hcell l1 y1 z1 hold hv
  subst l1 y1 z1 hv
  have eH : (T.setVm vm₁).heap = h := eT
  rw [eH] at hcell hold st
  obtain ⟨g1, g2, g3, g4⟩ := own_copied (g := ⟨ea, cs, n, mir, cs.cls, cObj, mk.cls⟩) (vs := vs) hn (by show cs.slots.size < _; rw [Sz]; exact hz) Ha (by show _ ≤ cs.slots.size; rw [Sz]; exact hl)
  have AN : Arr Z T'.heap h.size _ (.object "java/lang/Object") := ⟨hcell, ⟨(fun q z => by rw [g2] at z; cases z), _, (by rw [g1]; exact m2), _, o2⟩, (by rw [g2]; exact fun z => by cases z)⟩
  refine ⟨T', _, cs.cls, X'.more (Nat.le_refl _) (Nat.add_le_add_left hK _), rfl, ⟨Nat.le_of_lt (Array.getElem?_eq_some_iff.mp hcell).1, hold⟩, ⟨_, AN, g1, g3, hn, g4, fun i hi => ?_⟩, ⟨_, _, hcell, (by rw [g1]; exact m1), (by rw [g1]; exact m2), (by rw [g2]; rfl), (fun q => by rw [o2] at q; cases q)⟩, ⟨_, _, m2, o2, o3⟩, st⟩
  rcases hel i with q | ⟨b, q, -⟩
  · rw [q]; rfl
  · rw [q]; rfl
theorem own_m1 (x : Int32) : ((x &&& (2147483647 : Int32)) % (1 : Int32)) = (0 : Int32) := by
  have h1 := c_and x 2147483647 (by decide)
  have h2 := (c_irem (x &&& (2147483647 : Int32)) 1 1 (by decide)).1 h1.1
  have h3 : ((x &&& (2147483647 : Int32)) % (1 : Int32)).toInt = 0 := by omega
  exact Int32.toInt_inj.mp (h3.trans (by decide))
theorem own_m2 (x : Int32) : ((x &&& (2147483647 : Int32)) % (2 : Int32)) = (0 : Int32) ∨ ((x &&& (2147483647 : Int32)) % (2 : Int32)) = (1 : Int32) := by
  have h1 := c_and x 2147483647 (by decide)
  have h2 := (c_irem (x &&& (2147483647 : Int32)) 2 2 (by decide)).1 h1.1
  have h3 : ((x &&& (2147483647 : Int32)) % (2 : Int32)).toInt = 0 ∨ ((x &&& (2147483647 : Int32)) % (2 : Int32)).toInt = 1 := by omega
  rcases h3 with h | h
  · exact Or.inl (Int32.toInt_inj.mp (h.trans (by decide)))
  · exact Or.inr (Int32.toInt_inj.mp (h.trans (by decide)))
theorem own_m3 (x : Int32) : ((x &&& (2147483647 : Int32)) % (3 : Int32)) = (0 : Int32) ∨ ((x &&& (2147483647 : Int32)) % (3 : Int32)) = (1 : Int32) ∨ ((x &&& (2147483647 : Int32)) % (3 : Int32)) = (2 : Int32) := by
  have h1 := c_and x 2147483647 (by decide)
  have h2 := (c_irem (x &&& (2147483647 : Int32)) 3 3 (by decide)).1 h1.1
  have h3 : ((x &&& (2147483647 : Int32)) % (3 : Int32)).toInt = 0 ∨ ((x &&& (2147483647 : Int32)) % (3 : Int32)).toInt = 1 ∨ ((x &&& (2147483647 : Int32)) % (3 : Int32)).toInt = 2 := by omega
  rcases h3 with h | h | h
  · exact Or.inl (Int32.toInt_inj.mp (h.trans (by decide)))
  · exact Or.inr (Or.inl (Int32.toInt_inj.mp (h.trans (by decide))))
  · exact Or.inr (Or.inr (Int32.toInt_inj.mp (h.trans (by decide))))
theorem own_m4 (x : Int32) : ((x &&& (2147483647 : Int32)) % (4 : Int32)) = (0 : Int32) ∨ ((x &&& (2147483647 : Int32)) % (4 : Int32)) = (1 : Int32) ∨ ((x &&& (2147483647 : Int32)) % (4 : Int32)) = (2 : Int32) ∨ ((x &&& (2147483647 : Int32)) % (4 : Int32)) = (3 : Int32) := by
  have h1 := c_and x 2147483647 (by decide)
  have h2 := (c_irem (x &&& (2147483647 : Int32)) 4 4 (by decide)).1 h1.1
  have h3 : ((x &&& (2147483647 : Int32)) % (4 : Int32)).toInt = 0 ∨ ((x &&& (2147483647 : Int32)) % (4 : Int32)).toInt = 1 ∨ ((x &&& (2147483647 : Int32)) % (4 : Int32)).toInt = 2 ∨ ((x &&& (2147483647 : Int32)) % (4 : Int32)).toInt = 3 := by omega
  rcases h3 with h | h | h | h
  · exact Or.inl (Int32.toInt_inj.mp (h.trans (by decide)))
  · exact Or.inr (Or.inl (Int32.toInt_inj.mp (h.trans (by decide))))
  · exact Or.inr (Or.inr (Or.inl (Int32.toInt_inj.mp (h.trans (by decide)))))
  · exact Or.inr (Or.inr (Or.inr (Int32.toInt_inj.mp (h.trans (by decide)))))
theorem own_m5 (x : Int32) : ((x &&& (2147483647 : Int32)) % (5 : Int32)) = (0 : Int32) ∨ ((x &&& (2147483647 : Int32)) % (5 : Int32)) = (1 : Int32) ∨ ((x &&& (2147483647 : Int32)) % (5 : Int32)) = (2 : Int32) ∨ ((x &&& (2147483647 : Int32)) % (5 : Int32)) = (3 : Int32) ∨ ((x &&& (2147483647 : Int32)) % (5 : Int32)) = (4 : Int32) := by
  have h1 := c_and x 2147483647 (by decide)
  have h2 := (c_irem (x &&& (2147483647 : Int32)) 5 5 (by decide)).1 h1.1
  have h3 : ((x &&& (2147483647 : Int32)) % (5 : Int32)).toInt = 0 ∨ ((x &&& (2147483647 : Int32)) % (5 : Int32)).toInt = 1 ∨ ((x &&& (2147483647 : Int32)) % (5 : Int32)).toInt = 2 ∨ ((x &&& (2147483647 : Int32)) % (5 : Int32)).toInt = 3 ∨ ((x &&& (2147483647 : Int32)) % (5 : Int32)).toInt = 4 := by omega
  rcases h3 with h | h | h | h | h
  · exact Or.inl (Int32.toInt_inj.mp (h.trans (by decide)))
  · exact Or.inr (Or.inl (Int32.toInt_inj.mp (h.trans (by decide))))
  · exact Or.inr (Or.inr (Or.inl (Int32.toInt_inj.mp (h.trans (by decide)))))
  · exact Or.inr (Or.inr (Or.inr (Or.inl (Int32.toInt_inj.mp (h.trans (by decide))))))
  · exact Or.inr (Or.inr (Or.inr (Or.inr (Int32.toInt_inj.mp (h.trans (by decide))))))
theorem own_m6 (x : Int32) : ((x &&& (2147483647 : Int32)) % (6 : Int32)) = (0 : Int32) ∨ ((x &&& (2147483647 : Int32)) % (6 : Int32)) = (1 : Int32) ∨ ((x &&& (2147483647 : Int32)) % (6 : Int32)) = (2 : Int32) ∨ ((x &&& (2147483647 : Int32)) % (6 : Int32)) = (3 : Int32) ∨ ((x &&& (2147483647 : Int32)) % (6 : Int32)) = (4 : Int32) ∨ ((x &&& (2147483647 : Int32)) % (6 : Int32)) = (5 : Int32) := by
  have h1 := c_and x 2147483647 (by decide)
  have h2 := (c_irem (x &&& (2147483647 : Int32)) 6 6 (by decide)).1 h1.1
  have h3 : ((x &&& (2147483647 : Int32)) % (6 : Int32)).toInt = 0 ∨ ((x &&& (2147483647 : Int32)) % (6 : Int32)).toInt = 1 ∨ ((x &&& (2147483647 : Int32)) % (6 : Int32)).toInt = 2 ∨ ((x &&& (2147483647 : Int32)) % (6 : Int32)).toInt = 3 ∨ ((x &&& (2147483647 : Int32)) % (6 : Int32)).toInt = 4 ∨ ((x &&& (2147483647 : Int32)) % (6 : Int32)).toInt = 5 := by omega
  rcases h3 with h | h | h | h | h | h
  · exact Or.inl (Int32.toInt_inj.mp (h.trans (by decide)))
  · exact Or.inr (Or.inl (Int32.toInt_inj.mp (h.trans (by decide))))
  · exact Or.inr (Or.inr (Or.inl (Int32.toInt_inj.mp (h.trans (by decide)))))
  · exact Or.inr (Or.inr (Or.inr (Or.inl (Int32.toInt_inj.mp (h.trans (by decide))))))
  · exact Or.inr (Or.inr (Or.inr (Or.inr (Or.inl (Int32.toInt_inj.mp (h.trans (by decide)))))))
  · exact Or.inr (Or.inr (Or.inr (Or.inr (Or.inr (Int32.toInt_inj.mp (h.trans (by decide)))))))
theorem own_n (x : Int32) : ((1 : Int32) + ((x &&& (2147483647 : Int32)) % (6 : Int32))) = (1 : Int32) ∨ ((1 : Int32) + ((x &&& (2147483647 : Int32)) % (6 : Int32))) = (2 : Int32) ∨ ((1 : Int32) + ((x &&& (2147483647 : Int32)) % (6 : Int32))) = (3 : Int32) ∨ ((1 : Int32) + ((x &&& (2147483647 : Int32)) % (6 : Int32))) = (4 : Int32) ∨ ((1 : Int32) + ((x &&& (2147483647 : Int32)) % (6 : Int32))) = (5 : Int32) ∨ ((1 : Int32) + ((x &&& (2147483647 : Int32)) % (6 : Int32))) = (6 : Int32) := by
  rcases own_m6 x with h | h | h | h | h | h
  · exact Or.inl (by rw [h]; decide)
  · exact Or.inr (Or.inl (by rw [h]; decide))
  · exact Or.inr (Or.inr (Or.inl (by rw [h]; decide)))
  · exact Or.inr (Or.inr (Or.inr (Or.inl (by rw [h]; decide))))
  · exact Or.inr (Or.inr (Or.inr (Or.inr (Or.inl (by rw [h]; decide)))))
  · exact Or.inr (Or.inr (Or.inr (Or.inr (Or.inr ((by rw [h]; decide))))))
theorem own_add0 (x : Int32) : x = x + (0 : Int32) := (Int32.add_zero x).symm
theorem d_jdk_22_m_1_0 : decode jdk_22_method_1_code 0 = .ok (.aload_n 0, 1) := by decide +kernel
theorem d_jdk_22_m_1_1 : decode jdk_22_method_1_code 1 = .ok (.invokespecial 1, 3) := by decide +kernel
theorem d_jdk_22_m_1_4 : decode jdk_22_method_1_code 4 = .ok (.return_, 1) := by decide +kernel
theorem d_jdk_39_m_1_0 : decode jdk_39_method_1_code 0 = .ok (.aload_n 0, 1) := by decide +kernel
theorem d_jdk_39_m_1_1 : decode jdk_39_method_1_code 1 = .ok (.invokespecial 1, 3) := by decide +kernel
theorem d_jdk_39_m_1_4 : decode jdk_39_method_1_code 4 = .ok (.aload_n 0, 1) := by decide +kernel
theorem d_jdk_39_m_1_5 : decode jdk_39_method_1_code 5 = .ok (.iconst 0, 1) := by decide +kernel
theorem d_jdk_39_m_1_6 : decode jdk_39_method_1_code 6 = .ok (.putfield 7, 3) := by decide +kernel
theorem d_jdk_39_m_1_9 : decode jdk_39_method_1_code 9 = .ok (.return_, 1) := by decide +kernel
theorem d_prog_28_m_1_0 : decode prog_28_method_1_code 0 = .ok (.aload_n 0, 1) := by decide +kernel
theorem d_prog_28_m_1_1 : decode prog_28_method_1_code 1 = .ok (.invokespecial 3, 3) := by decide +kernel
theorem d_prog_28_m_1_4 : decode prog_28_method_1_code 4 = .ok (.aload_n 0, 1) := by decide +kernel
theorem d_prog_28_m_1_5 : decode prog_28_method_1_code 5 = .ok (.iconst 1, 1) := by decide +kernel
theorem d_prog_28_m_1_6 : decode prog_28_method_1_code 6 = .ok (.anewarray 9, 3) := by decide +kernel
theorem d_prog_28_m_1_9 : decode prog_28_method_1_code 9 = .ok (.dup, 1) := by decide +kernel
theorem d_prog_28_m_1_10 : decode prog_28_method_1_code 10 = .ok (.iconst 0, 1) := by decide +kernel
theorem d_prog_28_m_1_11 : decode prog_28_method_1_code 11 = .ok (.iconst 4, 1) := by decide +kernel
theorem d_prog_28_m_1_12 : decode prog_28_method_1_code 12 = .ok (.anewarray 11, 3) := by decide +kernel
theorem d_prog_28_m_1_15 : decode prog_28_method_1_code 15 = .ok (.aastore, 1) := by decide +kernel
theorem d_prog_28_m_1_16 : decode prog_28_method_1_code 16 = .ok (.putfield 13, 3) := by decide +kernel
theorem d_prog_28_m_1_19 : decode prog_28_method_1_code 19 = .ok (.return_, 1) := by decide +kernel
theorem d_prog_28_m_2_0 : decode prog_28_method_2_code 0 = .ok (.aload_n 0, 1) := by decide +kernel
theorem d_prog_28_m_2_1 : decode prog_28_method_2_code 1 = .ok (.getfield 17, 3) := by decide +kernel
theorem d_prog_28_m_2_4 : decode prog_28_method_2_code 4 = .ok (.bipush 12, 2) := by decide +kernel
theorem d_prog_28_m_2_6 : decode prog_28_method_2_code 6 = .ok (.iushr, 1) := by decide +kernel
theorem d_prog_28_m_2_7 : decode prog_28_method_2_code 7 = .ok (.istore_n 2, 1) := by decide +kernel
theorem d_prog_28_m_2_8 : decode prog_28_method_2_code 8 = .ok (.aload_n 0, 1) := by decide +kernel
theorem d_prog_28_m_2_9 : decode prog_28_method_2_code 9 = .ok (.getfield 17, 3) := by decide +kernel
theorem d_prog_28_m_2_12 : decode prog_28_method_2_code 12 = .ok (.sipush 4095, 3) := by decide +kernel
theorem d_prog_28_m_2_15 : decode prog_28_method_2_code 15 = .ok (.iand, 1) := by decide +kernel
theorem d_prog_28_m_2_16 : decode prog_28_method_2_code 16 = .ok (.istore_n 3, 1) := by decide +kernel
theorem d_prog_28_m_2_17 : decode prog_28_method_2_code 17 = .ok (.iload_n 2, 1) := by decide +kernel
theorem d_prog_28_m_2_18 : decode prog_28_method_2_code 18 = .ok (.aload_n 0, 1) := by decide +kernel
theorem d_prog_28_m_2_19 : decode prog_28_method_2_code 19 = .ok (.getfield 13, 3) := by decide +kernel
theorem d_prog_28_m_2_22 : decode prog_28_method_2_code 22 = .ok (.arraylength, 1) := by decide +kernel
theorem d_prog_28_m_2_23 : decode prog_28_method_2_code 23 = .ok (.if_icmp .ne 20, 3) := by decide +kernel
theorem d_prog_28_m_2_43 : decode prog_28_method_2_code 43 = .ok (.aload_n 0, 1) := by decide +kernel
theorem d_prog_28_m_2_44 : decode prog_28_method_2_code 44 = .ok (.getfield 13, 3) := by decide +kernel
theorem d_prog_28_m_2_47 : decode prog_28_method_2_code 47 = .ok (.iload_n 2, 1) := by decide +kernel
theorem d_prog_28_m_2_48 : decode prog_28_method_2_code 48 = .ok (.aaload, 1) := by decide +kernel
theorem d_prog_28_m_2_49 : decode prog_28_method_2_code 49 = .ok (.astore 4, 2) := by decide +kernel
theorem d_prog_28_m_2_51 : decode prog_28_method_2_code 51 = .ok (.aload 4, 2) := by decide +kernel
theorem d_prog_28_m_2_53 : decode prog_28_method_2_code 53 = .ok (.ifnonnull 22, 3) := by decide +kernel
theorem d_prog_28_m_2_75 : decode prog_28_method_2_code 75 = .ok (.iload_n 3, 1) := by decide +kernel
theorem d_prog_28_m_2_76 : decode prog_28_method_2_code 76 = .ok (.aload 4, 2) := by decide +kernel
theorem d_prog_28_m_2_78 : decode prog_28_method_2_code 78 = .ok (.arraylength, 1) := by decide +kernel
theorem d_prog_28_m_2_79 : decode prog_28_method_2_code 79 = .ok (.if_icmp .ne 27, 3) := by decide +kernel
theorem d_prog_28_m_2_82 : decode prog_28_method_2_code 82 = .ok (.aload 4, 2) := by decide +kernel
theorem d_prog_28_m_2_84 : decode prog_28_method_2_code 84 = .ok (.iconst 2, 1) := by decide +kernel
theorem d_prog_28_m_2_85 : decode prog_28_method_2_code 85 = .ok (.iload_n 3, 1) := by decide +kernel
theorem d_prog_28_m_2_86 : decode prog_28_method_2_code 86 = .ok (.imul, 1) := by decide +kernel
theorem d_prog_28_m_2_87 : decode prog_28_method_2_code 87 = .ok (.sipush 4096, 3) := by decide +kernel
theorem d_prog_28_m_2_90 : decode prog_28_method_2_code 90 = .ok (.invokestatic 28, 3) := by decide +kernel
theorem d_prog_28_m_2_93 : decode prog_28_method_2_code 93 = .ok (.invokestatic 21, 3) := by decide +kernel
theorem d_prog_28_m_2_96 : decode prog_28_method_2_code 96 = .ok (.astore 4, 2) := by decide +kernel
theorem d_prog_28_m_2_98 : decode prog_28_method_2_code 98 = .ok (.aload_n 0, 1) := by decide +kernel
theorem d_prog_28_m_2_99 : decode prog_28_method_2_code 99 = .ok (.getfield 13, 3) := by decide +kernel
theorem d_prog_28_m_2_102 : decode prog_28_method_2_code 102 = .ok (.iload_n 2, 1) := by decide +kernel
theorem d_prog_28_m_2_103 : decode prog_28_method_2_code 103 = .ok (.aload 4, 2) := by decide +kernel
theorem d_prog_28_m_2_105 : decode prog_28_method_2_code 105 = .ok (.aastore, 1) := by decide +kernel
theorem d_prog_28_m_2_106 : decode prog_28_method_2_code 106 = .ok (.aload 4, 2) := by decide +kernel
theorem d_prog_28_m_2_108 : decode prog_28_method_2_code 108 = .ok (.iload_n 3, 1) := by decide +kernel
theorem d_prog_28_m_2_109 : decode prog_28_method_2_code 109 = .ok (.aload_n 1, 1) := by decide +kernel
theorem d_prog_28_m_2_110 : decode prog_28_method_2_code 110 = .ok (.aastore, 1) := by decide +kernel
theorem d_prog_28_m_2_111 : decode prog_28_method_2_code 111 = .ok (.aload_n 0, 1) := by decide +kernel
theorem d_prog_28_m_2_112 : decode prog_28_method_2_code 112 = .ok (.dup, 1) := by decide +kernel
theorem d_prog_28_m_2_113 : decode prog_28_method_2_code 113 = .ok (.getfield 17, 3) := by decide +kernel
theorem d_prog_28_m_2_116 : decode prog_28_method_2_code 116 = .ok (.iconst 1, 1) := by decide +kernel
theorem d_prog_28_m_2_117 : decode prog_28_method_2_code 117 = .ok (.iadd, 1) := by decide +kernel
theorem d_prog_28_m_2_118 : decode prog_28_method_2_code 118 = .ok (.putfield 17, 3) := by decide +kernel
theorem d_prog_28_m_2_121 : decode prog_28_method_2_code 121 = .ok (.aload_n 0, 1) := by decide +kernel
theorem d_prog_28_m_2_122 : decode prog_28_method_2_code 122 = .ok (.dup, 1) := by decide +kernel
theorem d_prog_28_m_2_123 : decode prog_28_method_2_code 123 = .ok (.getfield 34, 3) := by decide +kernel
theorem d_prog_28_m_2_126 : decode prog_28_method_2_code 126 = .ok (.iconst 1, 1) := by decide +kernel
theorem d_prog_28_m_2_127 : decode prog_28_method_2_code 127 = .ok (.iadd, 1) := by decide +kernel
theorem d_prog_28_m_2_128 : decode prog_28_method_2_code 128 = .ok (.putfield 34, 3) := by decide +kernel
theorem d_prog_28_m_2_131 : decode prog_28_method_2_code 131 = .ok (.iconst 1, 1) := by decide +kernel
theorem d_prog_28_m_2_132 : decode prog_28_method_2_code 132 = .ok (.ireturn, 1) := by decide +kernel
theorem d_jdk_18_m_1_0 : decode jdk_18_method_1_code 0 = .ok (.aload_n 0, 1) := by decide +kernel
theorem d_jdk_18_m_1_1 : decode jdk_18_method_1_code 1 = .ok (.invokespecial 1, 3) := by decide +kernel
theorem d_jdk_18_m_1_4 : decode jdk_18_method_1_code 4 = .ok (.return_, 1) := by decide +kernel
theorem d_jdk_33_m_23_0 : decode jdk_33_method_23_code 0 = .ok (.aload_n 0, 1) := by decide +kernel
theorem d_jdk_33_m_23_1 : decode jdk_33_method_23_code 1 = .ok (.invokespecial 202, 3) := by decide +kernel
theorem d_jdk_33_m_23_4 : decode jdk_33_method_23_code 4 = .ok (.aload_n 0, 1) := by decide +kernel
theorem d_jdk_33_m_23_5 : decode jdk_33_method_23_code 5 = .ok (.iload_n 1, 1) := by decide +kernel
theorem d_jdk_33_m_23_6 : decode jdk_33_method_23_code 6 = .ok (.putfield 205, 3) := by decide +kernel
theorem d_jdk_33_m_23_9 : decode jdk_33_method_23_code 9 = .ok (.return_, 1) := by decide +kernel
theorem d_jdk_33_m_22_0 : decode jdk_33_method_22_code 0 = .ok (.iload_n 0, 1) := by decide +kernel
theorem d_jdk_33_m_22_1 : decode jdk_33_method_22_code 1 = .ok (.bipush (-128), 2) := by decide +kernel
theorem d_jdk_33_m_22_3 : decode jdk_33_method_22_code 3 = .ok (.if_icmp .lt 20, 3) := by decide +kernel
theorem d_jdk_33_m_22_6 : decode jdk_33_method_22_code 6 = .ok (.iload_n 0, 1) := by decide +kernel
theorem d_jdk_33_m_22_7 : decode jdk_33_method_22_code 7 = .ok (.getstatic 191, 3) := by decide +kernel
theorem d_jdk_33_m_22_10 : decode jdk_33_method_22_code 10 = .ok (.if_icmp .gt 13, 3) := by decide +kernel
theorem d_jdk_33_m_22_13 : decode jdk_33_method_22_code 13 = .ok (.getstatic 195, 3) := by decide +kernel
theorem d_jdk_33_m_22_16 : decode jdk_33_method_22_code 16 = .ok (.iload_n 0, 1) := by decide +kernel
theorem d_jdk_33_m_22_17 : decode jdk_33_method_22_code 17 = .ok (.sipush 128, 3) := by decide +kernel
theorem d_jdk_33_m_22_20 : decode jdk_33_method_22_code 20 = .ok (.iadd, 1) := by decide +kernel
theorem d_jdk_33_m_22_21 : decode jdk_33_method_22_code 21 = .ok (.aaload, 1) := by decide +kernel
theorem d_jdk_33_m_22_22 : decode jdk_33_method_22_code 22 = .ok (.areturn, 1) := by decide +kernel
theorem d_jdk_33_m_22_23 : decode jdk_33_method_22_code 23 = .ok (.new 1, 3) := by decide +kernel
theorem d_jdk_33_m_22_26 : decode jdk_33_method_22_code 26 = .ok (.dup, 1) := by decide +kernel
theorem d_jdk_33_m_22_27 : decode jdk_33_method_22_code 27 = .ok (.iload_n 0, 1) := by decide +kernel
theorem d_jdk_33_m_22_28 : decode jdk_33_method_22_code 28 = .ok (.invokespecial 199, 3) := by decide +kernel
theorem d_jdk_33_m_22_31 : decode jdk_33_method_22_code 31 = .ok (.areturn, 1) := by decide +kernel
theorem d_jdk_29_m_69_0 : decode jdk_29_method_69_code 0 = .ok (.iload_n 0, 1) := by decide +kernel
theorem d_jdk_29_m_69_1 : decode jdk_29_method_69_code 1 = .ok (.iload_n 1, 1) := by decide +kernel
theorem d_jdk_29_m_69_2 : decode jdk_29_method_69_code 2 = .ok (.if_icmp .gt 7, 3) := by decide +kernel
theorem d_jdk_29_m_69_5 : decode jdk_29_method_69_code 5 = .ok (.iload_n 0, 1) := by decide +kernel
theorem d_jdk_29_m_69_6 : decode jdk_29_method_69_code 6 = .ok (.goto 4, 3) := by decide +kernel
theorem d_jdk_29_m_69_9 : decode jdk_29_method_69_code 9 = .ok (.iload_n 1, 1) := by decide +kernel
theorem d_jdk_29_m_69_10 : decode jdk_29_method_69_code 10 = .ok (.ireturn, 1) := by decide +kernel
theorem d_jdk_41_m_11_0 : decode jdk_41_method_11_code 0 = .ok (.iload_n 0, 1) := by decide +kernel
theorem d_jdk_41_m_11_1 : decode jdk_41_method_11_code 1 = .ok (.ifCond .lt 8, 3) := by decide +kernel
theorem d_jdk_41_m_11_4 : decode jdk_41_method_11_code 4 = .ok (.iload_n 0, 1) := by decide +kernel
theorem d_jdk_41_m_11_5 : decode jdk_41_method_11_code 5 = .ok (.iload_n 1, 1) := by decide +kernel
theorem d_jdk_41_m_11_6 : decode jdk_41_method_11_code 6 = .ok (.if_icmp .lt 10, 3) := by decide +kernel
theorem d_jdk_41_m_11_16 : decode jdk_41_method_11_code 16 = .ok (.iload_n 0, 1) := by decide +kernel
theorem d_jdk_41_m_11_17 : decode jdk_41_method_11_code 17 = .ok (.ireturn, 1) := by decide +kernel
theorem d_jdk_31_m_17_0 : decode jdk_31_method_17_code 0 = .ok (.iload_n 0, 1) := by decide +kernel
theorem d_jdk_31_m_17_1 : decode jdk_31_method_17_code 1 = .ok (.iload_n 1, 1) := by decide +kernel
theorem d_jdk_31_m_17_2 : decode jdk_31_method_17_code 2 = .ok (.aconst_null, 1) := by decide +kernel
theorem d_jdk_31_m_17_3 : decode jdk_31_method_17_code 3 = .ok (.invokestatic 105, 3) := by decide +kernel
theorem d_jdk_31_m_17_6 : decode jdk_31_method_17_code 6 = .ok (.ireturn, 1) := by decide +kernel
theorem d_prog_28_m_4_0 : decode prog_28_method_4_code 0 = .ok (.iload_n 1, 1) := by decide +kernel
theorem d_prog_28_m_4_1 : decode prog_28_method_4_code 1 = .ok (.aload_n 0, 1) := by decide +kernel
theorem d_prog_28_m_4_2 : decode prog_28_method_4_code 2 = .ok (.getfield 17, 3) := by decide +kernel
theorem d_prog_28_m_4_5 : decode prog_28_method_4_code 5 = .ok (.invokestatic 44, 3) := by decide +kernel
theorem d_prog_28_m_4_8 : decode prog_28_method_4_code 8 = .ok (.pop, 1) := by decide +kernel
theorem d_prog_28_m_4_9 : decode prog_28_method_4_code 9 = .ok (.aload_n 0, 1) := by decide +kernel
theorem d_prog_28_m_4_10 : decode prog_28_method_4_code 10 = .ok (.getfield 13, 3) := by decide +kernel
theorem d_prog_28_m_4_13 : decode prog_28_method_4_code 13 = .ok (.iload_n 1, 1) := by decide +kernel
theorem d_prog_28_m_4_14 : decode prog_28_method_4_code 14 = .ok (.bipush 12, 2) := by decide +kernel
theorem d_prog_28_m_4_16 : decode prog_28_method_4_code 16 = .ok (.iushr, 1) := by decide +kernel
theorem d_prog_28_m_4_17 : decode prog_28_method_4_code 17 = .ok (.aaload, 1) := by decide +kernel
theorem d_prog_28_m_4_18 : decode prog_28_method_4_code 18 = .ok (.iload_n 1, 1) := by decide +kernel
theorem d_prog_28_m_4_19 : decode prog_28_method_4_code 19 = .ok (.sipush 4095, 3) := by decide +kernel
theorem d_prog_28_m_4_22 : decode prog_28_method_4_code 22 = .ok (.iand, 1) := by decide +kernel
theorem d_prog_28_m_4_23 : decode prog_28_method_4_code 23 = .ok (.aaload, 1) := by decide +kernel
theorem d_prog_28_m_4_24 : decode prog_28_method_4_code 24 = .ok (.astore_n 2, 1) := by decide +kernel
theorem d_prog_28_m_4_25 : decode prog_28_method_4_code 25 = .ok (.aload_n 2, 1) := by decide +kernel
theorem d_prog_28_m_4_26 : decode prog_28_method_4_code 26 = .ok (.areturn, 1) := by decide +kernel
theorem d_jdk_33_m_27_0 : decode jdk_33_method_27_code 0 = .ok (.aload_n 0, 1) := by decide +kernel
theorem d_jdk_33_m_27_1 : decode jdk_33_method_27_code 1 = .ok (.getfield 205, 3) := by decide +kernel
theorem d_jdk_33_m_27_4 : decode jdk_33_method_27_code 4 = .ok (.ireturn, 1) := by decide +kernel
theorem pd_0 : parseMethodDescriptor "()V" = some ⟨[], none⟩ := by decide +kernel
theorem pd_1 : parseMethodDescriptor "(I)V" = some ⟨[.int], none⟩ := by decide +kernel
theorem pd_2 : parseMethodDescriptor "(II)I" = some ⟨[.int, .int], some .int⟩ := by decide +kernel
theorem pd_3 : parseMethodDescriptor "(IILjava/util/function/BiFunction;)I" = some ⟨[.int, .int, (.object "java/util/function/BiFunction")], some .int⟩ := by decide +kernel
theorem pd_4 : parseMethodDescriptor "(I)Ljava/lang/Integer;" = some ⟨[.int], some (.object "java/lang/Integer")⟩ := by decide +kernel
theorem pd_5 : parseMethodDescriptor "(Ljava/lang/Object;)Z" = some ⟨[(.object "java/lang/Object")], some .boolean⟩ := by decide +kernel
theorem pd_6 : parseMethodDescriptor "(I)Ljava/lang/Object;" = some ⟨[.int], some (.object "java/lang/Object")⟩ := by decide +kernel
theorem pd_7 : parseMethodDescriptor "()I" = some ⟨[], some .int⟩ := by decide +kernel
theorem pn_0 : plainName "java/util/AbstractCollection" = true := by first | (simp [plainName, overriddenIn]; done) | decide +kernel
theorem pn_1 : plainName "java/util/AbstractList" = true := by first | (simp [plainName, overriddenIn]; done) | decide +kernel
theorem pn_2 : plainName "com/example/anchored_threads/anchoredthreads/internal/ChunkedList" = true := by first | (simp [plainName, overriddenIn]; done) | decide +kernel
theorem pn_3 : plainName "java/lang/Number" = true := by first | (simp [plainName, overriddenIn]; done) | decide +kernel
theorem pn_4 : plainName "java/lang/Integer" = true := by first | (simp [plainName, overriddenIn]; done) | decide +kernel
theorem pn_5 : plainName "jdk/internal/util/Preconditions" = true := by first | (simp [plainName, overriddenIn]; done) | decide +kernel
theorem pn_6 : plainName "java/util/Objects" = true := by first | (simp [plainName, overriddenIn]; done) | decide +kernel
theorem pn_7 : plainName "com/example/anchored_threads/anchoredthreads/internal/ChunkedListGetPinLaw" = true := by first | (simp [plainName, overriddenIn]; done) | decide +kernel
theorem ef_rmAC (m : MethodId) (x0 : Addr) : entryFrame m #[(.ref x0)] 1 = mkF m 0 #[.val (.ref x0)] [] := by first | (simp [entryFrame, mkF, argsToLocals, Value.category]; done) | rfl
set_option maxRecDepth 65536 in
set_option maxHeartbeats 40000000 in
theorem rmAC (l : Launch) (Z : State) (a0 : Array Value) (hw : ∀ d ∈ tables_1, d.before a0 Z = true) (ws : List Jvm.Cond) (a : Addr) (h0 : Heap) (n0 : Nat) (Z0 : n0 ≤ h0.size)  :
    MetFree l (⟨"java/util/AbstractCollection", "<init>", "()V"⟩ : MethodName) (head1 (Jvm.Cond.code (⟨"java/util/AbstractCollection", "<init>", "()V"⟩ : MethodName) jdk_22_method_1_code 1 none :: ws) ({ frames := 1, cells := 0, slots := 0, locals := 12 } : Room)) (fun aa_ UU_ => aa_ = #[(.ref a)] ∧ Z.Warmed39 UU_.vm ∧ UU_.heap = h0) (fun _ _ _ _ _ => True) (fun _ UU_ oo_ UE_ => ∃ vv_ LL_, oo_ = .returned vv_ ∧ QV none h0 n0 vv_ UE_.heap LL_ ∧ FrameEnd UU_ oo_ UE_ LL_ ({ frames := 1, cells := 0, slots := 0, locals := 12 } : Room).cells ({ frames := 1, cells := 0, slots := 0, locals := 12 } : Room).slots) := by
  refine MetFree.of_bodySF (plainFor_of_name pn_0) hisR ?_
  intro p e s m args below meth c s₁ Bd hml0 hP hK
  obtain ⟨rfl, hZ, hh⟩ := hP
  have hx := Bd.exec
  have hby := Bd.bytes
  have hml : c.maxLocals = 1 := hml0
  have hown : s.vm.findClass "java/util/AbstractCollection" = some m.cls := findClass_of_methodNamed Bd.named
  have hnm := (name_of_methodNamed Bd.named Bd.method).1
  have X0 : Stand p l e ({ frames := 1, cells := 0, slots := 0, locals := 12 } : Room) s m #[(.ref a)] below meth c s₁ [] 0 0 := Stand.of_body Bd
  have e0 : s₁.heap = h0 := by rw [← hh, Bd.state]; rfl
  have N0 := Fr.nil n0
  have pre0 : ∀ tg, Steps p.tables e below (s₁.setTop (mkF m 0 #[.val (.ref a)] [])) tg → Steps p.tables e below (s₁.setTop (entryFrame m #[(.ref a)] 1)) tg := fun tg kq_ => castTop (ef_rmAC m a) kq_
  obtain ⟨T1, X1, e1, st1⟩ := initO X0 hx hZ hown (hw _ (List.mem_of_getElem? (i := 18) rfl)) (hw _ (List.mem_of_getElem? (i := 19) rfl)) (hw _ (List.mem_of_getElem? (i := 20) rfl)) e0 (g := (mkF m 1 #[.val (.ref a)] [(.ref a)])) rfl (by rw [hml]; rfl) rfl (hb hby d_jdk_22_m_1_1) (by decide) (W := 0) (by show 2 * 0 + _ ≤ _; exact Nat.le_of_eq rfl) (by decide)
  obtain ⟨fs, hr, hrun, hended, hW, hsame⟩ := X1.leave (v := none) (fun _ => rfl)
  refine ⟨_, _, pre0 _ ?_, hrun, hended, _, _, rfl, ?_, ⟨_, rfl⟩, hW, hsame.mono (by decide) (by decide)⟩
  · show Steps p.tables e below (s₁.setTop (mkF m 0 #[.val (.ref a)] [])) _
    refine XS.aloadN X0.here hx rfl (hb hby d_jdk_22_m_1_0) rfl rfl ?_
    show Steps p.tables e below (s₁.setTop (mkF m 1 #[.val (.ref a)] [(.ref a)])) _
    refine st1 _ ?_
    show Steps p.tables e below (T1.setTop (mkF m 4 #[.val (.ref a)] [])) _
    exact X1.returnOut hx Bd.returns (hb hby d_jdk_22_m_1_4) hr
  · show QV none h0 n0 _ T1.heap _
    rw [e1]
    exact ⟨rfl, N0, rfl⟩
theorem ef_rmAL (m : MethodId) (x0 : Addr) : entryFrame m #[(.ref x0)] 1 = mkF m 0 #[.val (.ref x0)] [] := by first | (simp [entryFrame, mkF, argsToLocals, Value.category]; done) | rfl
set_option maxRecDepth 65536 in
set_option maxHeartbeats 40000000 in
theorem rmAL (l : Launch) (Z : State) (a0 : Array Value) (hw : ∀ d ∈ tables_1, d.before a0 Z = true) (ws : List Jvm.Cond) (a : Addr) (h0 : Heap) (n0 : Nat) (Z0 : n0 ≤ h0.size) (hE : Exa Z h0 a "com/example/anchored_threads/anchoredthreads/internal/ChunkedList") (hFm : Fld Z h0 a "java/util/AbstractList" "modCount" "I" (.int (0 : Int32))) (hFs : Fld Z h0 a "com/example/anchored_threads/anchoredthreads/internal/ChunkedList" "size" "I" (.int (0 : Int32))) (hFc : Fld Z h0 a "com/example/anchored_threads/anchoredthreads/internal/ChunkedList" "chunks" "[[Ljava/lang/Object;" .null) (hga : n0 ≤ a) :
    MetFree l (⟨"java/util/AbstractList", "<init>", "()V"⟩ : MethodName) (head1 (Jvm.Cond.code (⟨"java/util/AbstractList", "<init>", "()V"⟩ : MethodName) jdk_39_method_1_code 1 none :: ws) ({ frames := 2, cells := 0, slots := 0, locals := 24 } : Room)) (fun aa_ UU_ => aa_ = #[(.ref a)] ∧ Z.Warmed39 UU_.vm ∧ UU_.heap = h0) (fun _ _ _ _ _ => True) (fun _ UU_ oo_ UE_ => ∃ vv_ LL_, oo_ = .returned vv_ ∧ QAL Z a h0 n0 vv_ UE_.heap LL_ ∧ FrameEnd UU_ oo_ UE_ LL_ ({ frames := 2, cells := 0, slots := 0, locals := 24 } : Room).cells ({ frames := 2, cells := 0, slots := 0, locals := 24 } : Room).slots) := by
  refine MetFree.of_bodySF (plainFor_of_name pn_1) hisR ?_
  intro p e s m args below meth c s₁ Bd hml0 hP hK
  obtain ⟨rfl, hZ, hh⟩ := hP
  have hx := Bd.exec
  have hby := Bd.bytes
  have hml : c.maxLocals = 1 := hml0
  have hown : s.vm.findClass "java/util/AbstractList" = some m.cls := findClass_of_methodNamed Bd.named
  have hnm := (name_of_methodNamed Bd.named Bd.method).1
  have X0 : Stand p l e ({ frames := 2, cells := 0, slots := 0, locals := 24 } : Room) s m #[(.ref a)] below meth c s₁ [] 0 0 := Stand.of_body Bd
  have e0 : s₁.heap = h0 := by rw [← hh, Bd.state]; rfl
  have N0 := Fr.nil n0
  have K0 : Keep h0 h0 [a] := Keep.refl h0 _
  have pre0 : ∀ tg, Steps p.tables e below (s₁.setTop (mkF m 0 #[.val (.ref a)] [])) tg → Steps p.tables e below (s₁.setTop (entryFrame m #[(.ref a)] 1)) tg := fun tg kq_ => castTop (ef_rmAL m a) kq_
  obtain ⟨_, _, ⟨T1, L1, k1, n1⟩, -, X1, ⟨Lc1, hQ1, l1, y1, z1⟩, st1⟩ := X0.specialBack hx (y := (⟨"java/util/AbstractCollection", "<init>", "()V"⟩ : MethodName)) rfl hown (mvT hZ (hw _ (List.mem_of_getElem? (i := 12) rfl))) (mvT hZ (hw _ (List.mem_of_getElem? (i := 13) rfl))) (mvT hZ (hw _ (List.mem_of_getElem? (i := 17) rfl))) (by decide) (backOf (W := 0) (rmAC l Z a0 hw [] a h0 n0 Z0) hZ (hw _ (List.mem_of_getElem? (i := 17) rfl)) (hw _ (List.mem_of_getElem? (i := 16) rfl)) (by decide) (by decide)) (g := (mkF m 1 #[.val (.ref a)] [(.ref a)])) rfl (by rw [hml]; rfl) (Steps.refl _) (a := a) (argsL := []) (rest := []) (lenOf pd_0 rfl) rfl (by show 2 * 0 + _ ≤ _; exact Nat.le_of_eq rfl) (hb hby d_jdk_39_m_1_1) (fun _ _ => ⟨rfl, e0, (by decide : 0 + 0 ≤ _), (by decide : 0 + 0 ≤ _)⟩)
  dsimp only [Pt.U, Pt.locs, Pt.cells, Pt.slots] at X1 l1 y1 z1 st1 hQ1
  subst l1 y1 z1
  obtain ⟨hv1, N1q, r1⟩ := hQ1
  subst hv1
  have N1 := Fr.app N0 N1q
  obtain ⟨T2, h2, X2, e2, W2, st2⟩ := putF X1 hx hZ hown (host := "") (Or.inl (hw _ (List.mem_of_getElem? (i := 21) rfl))) Via.refl r1 hFm hE (Or.inl (hw _ (List.mem_of_getElem? (i := 22) rfl))) (hw _ (List.mem_of_getElem? (i := 2) rfl)) (ty := .int) (by decide) rfl rfl (g := (mkF m 6 #[.val (.ref a)] [(.int (0 : Int32)), (.ref a)])) rfl rfl (hb hby d_jdk_39_m_1_6)
  have Z2 : n0 ≤ h2.size := Nat.le_trans Z0 (Nat.le_of_eq W2.size.symm)
  have N2 := Fr.snoc X2 N1 hga
  have K2 : Keep h0 h2 [a] := K0.wr W2 (Or.inl (List.mem_of_getElem? (i := 0) rfl))
  have Fw2 := hFm.same W2
  obtain ⟨fs, hr, hrun, hended, hW, hsame⟩ := X2.leave (v := none) (fun _ => rfl)
  refine ⟨_, _, pre0 _ ?_, hrun, hended, _, _, rfl, ?_, ⟨_, rfl⟩, hW, hsame.mono (by decide) (by decide)⟩
  · show Steps p.tables e below (s₁.setTop (mkF m 0 #[.val (.ref a)] [])) _
    refine XS.aloadN X0.here hx rfl (hb hby d_jdk_39_m_1_0) rfl rfl ?_
    show Steps p.tables e below (s₁.setTop (mkF m 1 #[.val (.ref a)] [(.ref a)])) _
    refine st1.trans ?_
    show Steps p.tables e below (T1.setTop (mkF m 4 #[.val (.ref a)] [])) _
    refine XS.aloadN X1.here hx rfl (hb hby d_jdk_39_m_1_4) rfl rfl ?_
    show Steps p.tables e below (T1.setTop (mkF m 5 #[.val (.ref a)] [(.ref a)])) _
    refine XS.iconst X1.here hx rfl (hb hby d_jdk_39_m_1_5) ?_
    show Steps p.tables e below (T1.setTop (mkF m 6 #[.val (.ref a)] [(.int (0 : Int32)), (.ref a)])) _
    refine st2 _ ?_
    show Steps p.tables e below (T2.setTop (mkF m 9 #[.val (.ref a)] [])) _
    exact X2.returnOut hx Bd.returns (hb hby d_jdk_39_m_1_9) hr
  · show QAL Z a h0 n0 _ T2.heap _
    rw [e2]
    have f3 := (hFs.other W2 (Or.inr (slot_ne (Or.inl (hw _ (List.mem_of_getElem? (i := 43) rfl))) (Or.inl (hw _ (List.mem_of_getElem? (i := 22) rfl))) (by decide) (t := .int) (t' := .int) (by decide) (by decide))))
    have f4 := (hFc.other W2 (Or.inr (slot_ne (Or.inl (hw _ (List.mem_of_getElem? (i := 29) rfl))) (Or.inl (hw _ (List.mem_of_getElem? (i := 22) rfl))) (by decide) (t := (.array (.array (.object "java/lang/Object")))) (t' := .int) (by decide) (by decide))))
    exact ⟨rfl, N2, K2, Fw2, f3, f4⟩
theorem ef_rmCI (m : MethodId) (x0 : Addr) : entryFrame m #[(.ref x0)] 1 = mkF m 0 #[.val (.ref x0)] [] := by first | (simp [entryFrame, mkF, argsToLocals, Value.category]; done) | rfl
set_option maxRecDepth 65536 in
set_option maxHeartbeats 40000000 in
theorem rmCI (l : Launch) (Z : State) (a0 : Array Value) (hw : ∀ d ∈ tables_1, d.before a0 Z = true) (ws : List Jvm.Cond) (a : Addr) (h0 : Heap) (n0 : Nat) (Z0 : n0 ≤ h0.size) (hE : Exa Z h0 a "com/example/anchored_threads/anchoredthreads/internal/ChunkedList") (hFm : Fld Z h0 a "java/util/AbstractList" "modCount" "I" (.int (0 : Int32))) (hFs : Fld Z h0 a "com/example/anchored_threads/anchoredthreads/internal/ChunkedList" "size" "I" (.int (0 : Int32))) (hFc : Fld Z h0 a "com/example/anchored_threads/anchoredthreads/internal/ChunkedList" "chunks" "[[Ljava/lang/Object;" .null) (hga : n0 ≤ a) :
    MetFree l (⟨"com/example/anchored_threads/anchoredthreads/internal/ChunkedList", "<init>", "()V"⟩ : MethodName) (head1 (Jvm.Cond.code (⟨"com/example/anchored_threads/anchoredthreads/internal/ChunkedList", "<init>", "()V"⟩ : MethodName) prog_28_method_1_code 1 none :: ws) ({ frames := 3, cells := 2, slots := 5, locals := 36 } : Room)) (fun aa_ UU_ => aa_ = #[(.ref a)] ∧ Z.Warmed39 UU_.vm ∧ UU_.heap = h0) (fun _ _ _ _ _ => True) (fun _ UU_ oo_ UE_ => ∃ vv_ LL_, oo_ = .returned vv_ ∧ QCI Z a h0 n0 vv_ UE_.heap LL_ ∧ FrameEnd UU_ oo_ UE_ LL_ ({ frames := 3, cells := 2, slots := 5, locals := 36 } : Room).cells ({ frames := 3, cells := 2, slots := 5, locals := 36 } : Room).slots) := by
  refine MetFree.of_bodySF (plainFor_of_name pn_2) hisR ?_
  intro p e s m args below meth c s₁ Bd hml0 hP hK
  obtain ⟨rfl, hZ, hh⟩ := hP
  have hx := Bd.exec
  have hby := Bd.bytes
  have hml : c.maxLocals = 1 := hml0
  have hown : s.vm.findClass "com/example/anchored_threads/anchoredthreads/internal/ChunkedList" = some m.cls := findClass_of_methodNamed Bd.named
  have hnm := (name_of_methodNamed Bd.named Bd.method).1
  have X0 : Stand p l e ({ frames := 3, cells := 2, slots := 5, locals := 36 } : Room) s m #[(.ref a)] below meth c s₁ [] 0 0 := Stand.of_body Bd
  have e0 : s₁.heap = h0 := by rw [← hh, Bd.state]; rfl
  have N0 := Fr.nil n0
  have K0 : Keep h0 h0 [a] := Keep.refl h0 _
  have pre0 : ∀ tg, Steps p.tables e below (s₁.setTop (mkF m 0 #[.val (.ref a)] [])) tg → Steps p.tables e below (s₁.setTop (entryFrame m #[(.ref a)] 1)) tg := fun tg kq_ => castTop (ef_rmCI m a) kq_
  obtain ⟨_, _, ⟨T1, L1, k1, n1⟩, -, X1, ⟨Lc1, hQ1, l1, y1, z1⟩, st1⟩ := X0.specialBack hx (y := (⟨"java/util/AbstractList", "<init>", "()V"⟩ : MethodName)) rfl hown (mvT hZ (hw _ (List.mem_of_getElem? (i := 7) rfl))) (mvT hZ (hw _ (List.mem_of_getElem? (i := 8) rfl))) (mvT hZ (hw _ (List.mem_of_getElem? (i := 11) rfl))) (by decide) (backOf (W := 0) (rmAL l Z a0 hw [] a h0 n0 Z0 hE hFm hFs hFc hga) hZ (hw _ (List.mem_of_getElem? (i := 11) rfl)) (hw _ (List.mem_of_getElem? (i := 10) rfl)) (by decide) (by decide)) (g := (mkF m 1 #[.val (.ref a)] [(.ref a)])) rfl (by rw [hml]; rfl) (Steps.refl _) (a := a) (argsL := []) (rest := []) (lenOf pd_0 rfl) rfl (by show 2 * 0 + _ ≤ _; exact Nat.le_of_eq rfl) (hb hby d_prog_28_m_1_1) (fun _ _ => ⟨rfl, e0, (by decide : 0 + 0 ≤ _), (by decide : 0 + 0 ≤ _)⟩)
  dsimp only [Pt.U, Pt.locs, Pt.cells, Pt.slots] at X1 l1 y1 z1 st1 hQ1
  subst l1 y1 z1
  obtain ⟨hv1, N1q, kp1, fl1_0, fl1_1, fl1_2⟩ := hQ1
  subst hv1
  have N1 := Fr.app N0 N1q
  have Z1 : n0 ≤ T1.heap.size := Nat.le_trans Z0 kp1.1
  have K1 : Keep h0 T1.heap [a] := K0.trans kp1 (allS (Or.inl (List.mem_of_getElem? (i := 0) rfl)) all0)
  obtain ⟨T2, h2, k2, X2, e2, E2, A2, EX2, O2, st2⟩ := newRA X1 hx hZ hown (C := "[Ljava/lang/Object;") (ty := (.object "java/lang/Object")) (by decide) (hw _ (List.mem_of_getElem? (i := 23) rfl)) (hw _ (List.mem_of_getElem? (i := 24) rfl)) rfl (g := (mkF m 6 #[.val (.ref a)] [(.int (1 : Int32)), (.ref a)])) rfl (hb hby d_prog_28_m_1_6) rfl (by decide) (cap := 1) (by decide) (by decide) (by decide) (by decide) (ad := "[[Ljava/lang/Object;") (by decide)
  obtain ⟨b2, g2⟩ : ∃ z, z = T1.heap.size := ⟨_, rfl⟩
  rw [← g2] at A2 EX2 st2
  have f3 := (hE.keep kp1)
  have ne_a_b2 : a ≠ b2 := Nat.ne_of_lt (Nat.lt_of_lt_of_le (f3).lt (Nat.le_of_eq g2.symm))
  have gb_b2 : n0 ≤ b2 := Nat.le_trans Z1 (Nat.le_of_eq g2.symm)
  have sz_b2 : h0.size ≤ b2 := Nat.le_trans K1.1 (Nat.le_of_eq g2.symm)
  have Z2 : n0 ≤ h2.size := Nat.le_trans Z1 E2.1
  have K2 : Keep h0 h2 [a] := K1.ext E2
  have V2 : Arv Z h2 b2 k2 (.array (.object "java/lang/Object")) (1 : Int32) [.null] .null := (Arv.new A2 (by decide)).pad (pad_rep [] .null 1)
  obtain ⟨T4, h4, k4, X4, e4, E4, A4, EX4, O4, st4⟩ := newRE X2 hx hZ hown (hw _ (List.mem_of_getElem? (i := 25) rfl)) (hw _ (List.mem_of_getElem? (i := 26) rfl)) e2 (g := (mkF m 12 #[.val (.ref a)] [(.int (4 : Int32)), (.int (0 : Int32)), (.ref b2), (.ref b2), (.ref a)])) rfl (hb hby d_prog_28_m_1_12) rfl (by decide) (cap := 4) (by decide) (by decide) (by decide) (by decide) (ad := "[Ljava/lang/Object;") (by decide)
  obtain ⟨b4, g4⟩ : ∃ z, z = h2.size := ⟨_, rfl⟩
  rw [← g4] at A4 EX4 st4
  have f5 := (f3.ext E2)
  have ne_a_b4 : a ≠ b4 := Nat.ne_of_lt (Nat.lt_of_lt_of_le (f5).lt (Nat.le_of_eq g4.symm))
  have ne_b2_b4 : b2 ≠ b4 := Nat.ne_of_lt (Nat.lt_of_lt_of_le (V2).lt (Nat.le_of_eq g4.symm))
  have gb_b4 : n0 ≤ b4 := Nat.le_trans Z2 (Nat.le_of_eq g4.symm)
  have sz_b4 : h0.size ≤ b4 := Nat.le_trans K2.1 (Nat.le_of_eq g4.symm)
  have Z4 : n0 ≤ h4.size := Nat.le_trans Z2 E4.1
  have K4 : Keep h0 h4 [a] := K2.ext E4
  have V4 : Arv Z h4 b4 k4 (.object "java/lang/Object") (4 : Int32) [.null, .null, .null, .null] .null := (Arv.new A4 (by decide)).pad (pad_rep [] .null 4)
  have f7 := (V2.ext E4)
  obtain ⟨cl6, Ar6, q6, Sz6, Nn6, Ha6, Ga6⟩ := id f7
  have hin6 : ¬ ((0 : Int32) < 0 ∨ cl6.slots.size ≤ ((0 : Int32)).toNatClampNeg) := inb_of Sz6 ⟨by decide, by decide⟩
  obtain ⟨T6, h6, X6, e6, W6, st6⟩ := stR X4 hx hZ e4 Ar6 (j := (0 : Int32)) hin6 rfl (Sto.ofVA Ar6 q6 O2 (Ins.self EX4)) (g := (mkF m 15 #[.val (.ref a)] [(.ref b4), (.int (0 : Int32)), (.ref b2), (.ref b2), (.ref a)])) rfl rfl (hb hby d_prog_28_m_1_15)
  have V6 : Arv Z h6 b2 k2 (.array (.object "java/lang/Object")) (1 : Int32) [(.ref b4)] .null := Arv.set Ar6 q6 Sz6 Nn6 Ha6 Ga6 rfl W6 0 rfl (Nat.le_of_ble_eq_true rfl)
  have Z6 : n0 ≤ h6.size := Nat.le_trans Z4 (Nat.le_of_eq W6.size.symm)
  have N6 := Fr.snoc X6 N1 gb_b2
  have K6 : Keep h0 h6 [a] := K4.wr W6 (Or.inr sz_b2)
  have f9 := ((f5.ext E4).wr W6)
  have f10 := (((fl1_2.ext E2).ext E4).other W6 (Or.inl ne_a_b2))
  obtain ⟨T8, h8, X8, e8, W8, st8⟩ := putF X6 hx hZ hown (host := "") (Or.inl (hw _ (List.mem_of_getElem? (i := 28) rfl))) Via.refl e6 f10 f9 (Or.inl (hw _ (List.mem_of_getElem? (i := 29) rfl))) (hw _ (List.mem_of_getElem? (i := 2) rfl)) (ty := (.array (.array (.object "java/lang/Object")))) (by decide) rfl rfl (g := (mkF m 16 #[.val (.ref a)] [(.ref b2), (.ref a)])) rfl rfl (hb hby d_prog_28_m_1_16)
  have Z8 : n0 ≤ h8.size := Nat.le_trans Z6 (Nat.le_of_eq W8.size.symm)
  have N8 := Fr.snoc X8 N6 hga
  have K8 : Keep h0 h8 [a] := K6.wr W8 (Or.inl (List.mem_of_getElem? (i := 0) rfl))
  have Fw8 := f10.same W8
  obtain ⟨fs, hr, hrun, hended, hW, hsame⟩ := X8.leave (v := none) (fun _ => rfl)
  refine ⟨_, _, pre0 _ ?_, hrun, hended, _, _, rfl, ?_, ⟨_, rfl⟩, hW, hsame.mono (by decide) (by decide)⟩
  · show Steps p.tables e below (s₁.setTop (mkF m 0 #[.val (.ref a)] [])) _
    refine XS.aloadN X0.here hx rfl (hb hby d_prog_28_m_1_0) rfl rfl ?_
    show Steps p.tables e below (s₁.setTop (mkF m 1 #[.val (.ref a)] [(.ref a)])) _
    refine st1.trans ?_
    show Steps p.tables e below (T1.setTop (mkF m 4 #[.val (.ref a)] [])) _
    refine XS.aloadN X1.here hx rfl (hb hby d_prog_28_m_1_4) rfl rfl ?_
    show Steps p.tables e below (T1.setTop (mkF m 5 #[.val (.ref a)] [(.ref a)])) _
    refine XS.iconst X1.here hx rfl (hb hby d_prog_28_m_1_5) ?_
    show Steps p.tables e below (T1.setTop (mkF m 6 #[.val (.ref a)] [(.int (1 : Int32)), (.ref a)])) _
    refine st2 _ ?_
    show Steps p.tables e below (T2.setTop (mkF m 9 #[.val (.ref a)] [(.ref b2), (.ref a)])) _
    refine XS.dup X2.here hx rfl (hb hby d_prog_28_m_1_9) rfl rfl ?_
    show Steps p.tables e below (T2.setTop (mkF m 10 #[.val (.ref a)] [(.ref b2), (.ref b2), (.ref a)])) _
    refine XS.iconst X2.here hx rfl (hb hby d_prog_28_m_1_10) ?_
    show Steps p.tables e below (T2.setTop (mkF m 11 #[.val (.ref a)] [(.int (0 : Int32)), (.ref b2), (.ref b2), (.ref a)])) _
    refine XS.iconst X2.here hx rfl (hb hby d_prog_28_m_1_11) ?_
    show Steps p.tables e below (T2.setTop (mkF m 12 #[.val (.ref a)] [(.int (4 : Int32)), (.int (0 : Int32)), (.ref b2), (.ref b2), (.ref a)])) _
    refine st4 _ ?_
    show Steps p.tables e below (T4.setTop (mkF m 15 #[.val (.ref a)] [(.ref b4), (.int (0 : Int32)), (.ref b2), (.ref b2), (.ref a)])) _
    refine st6 _ ?_
    show Steps p.tables e below (T6.setTop (mkF m 16 #[.val (.ref a)] [(.ref b2), (.ref a)])) _
    refine st8 _ ?_
    show Steps p.tables e below (T8.setTop (mkF m 19 #[.val (.ref a)] [])) _
    exact X8.returnOut hx Bd.returns (hb hby d_prog_28_m_1_19) hr
  · show QCI Z a h0 n0 _ T8.heap _
    rw [e8]
    have f11 := (f9.wr W8)
    have f12 := ((((fl1_1.ext E2).ext E4).other W6 (Or.inl ne_a_b2)).other W8 (Or.inr (slot_ne (Or.inl (hw _ (List.mem_of_getElem? (i := 43) rfl))) (Or.inl (hw _ (List.mem_of_getElem? (i := 29) rfl))) (by decide) (t := .int) (t' := (.array (.array (.object "java/lang/Object")))) (by decide) (by decide))))
    have f13 := ((((fl1_0.ext E2).ext E4).other W6 (Or.inl ne_a_b2)).other W8 (Or.inr (slot_ne (Or.inl (hw _ (List.mem_of_getElem? (i := 22) rfl))) (Or.inl (hw _ (List.mem_of_getElem? (i := 29) rfl))) (by decide) (t := .int) (t' := (.array (.array (.object "java/lang/Object")))) (by decide) (by decide))))
    have f14 := (V6.other W8 (Ne.symm ne_a_b2))
    have f15 := ((V4.other W6 (Ne.symm ne_b2_b4)).other W8 (Ne.symm ne_a_b4))
    have f16 := ((EX4.wr W6).wr W8)
    exact ⟨rfl, N8, K8, b2, b4, _, _, sz_b2, sz_b4, ⟨f11, f12, Fw8, f13, f14, f15, f16, O4, O2, hga, gb_b2, gb_b4, ne_a_b2, ne_a_b4, ne_b2_b4⟩⟩
theorem ef_rmAd (m : MethodId) (x0 : Addr) (x1 : Addr) : entryFrame m #[(.ref x0), (.ref x1)] 5 = mkF m 0 #[.val (.ref x0), .val (.ref x1), .unset, .unset, .unset] [] := by first | (simp [entryFrame, mkF, argsToLocals, Value.category]; done) | rfl
set_option maxRecDepth 65536 in
set_option maxHeartbeats 40000000 in
theorem rmAd (l : Launch) (Z : State) (a0 : Array Value) (hw : ∀ d ∈ tables_1, d.before a0 Z = true) (ws : List Jvm.Cond) (a vv ch ea : Addr) (kc ke : ClassId) (n mc cap : Int32) (vs : List Value) (i : Nat) (h0 : Heap) (n0 : Nat) (Z0 : n0 ≤ h0.size) (hC : CLs Z n0 h0 a ch ea kc ke n mc cap vs) (hv : Exa Z h0 vv "java/lang/Integer") (hs1 : ((n.toUInt32 >>> ((12 : Int32) &&& 31).toUInt32).toInt32) = (0 : Int32)) (hs2 : (n &&& (4095 : Int32)) = n) (hs3 : ¬ n = cap) (hlo : ¬ n < 0 ∧ n < cap) (hi : n.toNatClampNeg = i) (hl : i < vs.length) :
    MetFree l (⟨"com/example/anchored_threads/anchoredthreads/internal/ChunkedList", "add", "(Ljava/lang/Object;)Z"⟩ : MethodName) (head1 (Jvm.Cond.code (⟨"com/example/anchored_threads/anchoredthreads/internal/ChunkedList", "add", "(Ljava/lang/Object;)Z"⟩ : MethodName) prog_28_method_2_code 5 (some .boolean) :: ws) ({ frames := 0, cells := 0, slots := 0, locals := 0 } : Room)) (fun aa_ UU_ => aa_ = #[(.ref a), (.ref vv)] ∧ Z.Warmed39 UU_.vm ∧ UU_.heap = h0) (fun _ _ _ _ _ => True) (fun _ UU_ oo_ UE_ => ∃ vv_ LL_, oo_ = .returned vv_ ∧ QAd Z a ch ea kc ke (n + 1) cap (vs.set i (.ref vv)) h0 n0 vv_ UE_.heap LL_ ∧ FrameEnd UU_ oo_ UE_ LL_ ({ frames := 0, cells := 0, slots := 0, locals := 0 } : Room).cells ({ frames := 0, cells := 0, slots := 0, locals := 0 } : Room).slots) := by
  refine MetFree.of_bodySF (plainFor_of_name pn_2) hisR ?_
  intro p e s m args below meth c s₁ Bd hml0 hP hK
  obtain ⟨rfl, hZ, hh⟩ := hP
  have hx := Bd.exec
  have hby := Bd.bytes
  have hml : c.maxLocals = 5 := hml0
  have hown : s.vm.findClass "com/example/anchored_threads/anchoredthreads/internal/ChunkedList" = some m.cls := findClass_of_methodNamed Bd.named
  have hnm := (name_of_methodNamed Bd.named Bd.method).1
  have X0 : Stand p l e ({ frames := 0, cells := 0, slots := 0, locals := 0 } : Room) s m #[(.ref a), (.ref vv)] below meth c s₁ [] 0 0 := Stand.of_body Bd
  have e0 : s₁.heap = h0 := by rw [← hh, Bd.state]; rfl
  have N0 := Fr.nil n0
  have K0 : Keep h0 h0 [a, ch, ea] := Keep.refl h0 _
  have pre0 : ∀ tg, Steps p.tables e below (s₁.setTop (mkF m 0 #[.val (.ref a), .val (.ref vv), .unset, .unset, .unset] [])) tg → Steps p.tables e below (s₁.setTop (entryFrame m #[(.ref a), (.ref vv)] 5)) tg := fun tg kq_ => castTop (ef_rmAd m a vv) kq_
  obtain ⟨hE, hFs, hFc, hFm, hVc, hVe, hXe, hO, hOA, hga, hgc, hge, hn1, hn2, hn3⟩ := hC
  obtain ⟨T1, X1, e1, st1⟩ := getF X0 hx hZ hown (host := "") (Or.inl (hw _ (List.mem_of_getElem? (i := 42) rfl))) Via.refl e0 hFs (g := (mkF m 1 #[.val (.ref a), .val (.ref vv), .unset, .unset, .unset] [(.ref a)])) rfl rfl (hb hby d_prog_28_m_2_1)
  have R2 : ∀ tg, Steps p.tables e below (T1.setTop (mkF m 8 #[.val (.ref a), .val (.ref vv), .val (.int ((n.toUInt32 >>> ((12 : Int32) &&& 31).toUInt32).toInt32)), .unset, .unset] [])) tg → Steps p.tables e below (s₁.setTop (mkF m 0 #[.val (.ref a), .val (.ref vv), .unset, .unset, .unset] [])) tg := by
    intro tg kt
    refine XS.aloadN X0.here hx rfl (hb hby d_prog_28_m_2_0) rfl rfl ?_
    show Steps p.tables e below (s₁.setTop (mkF m 1 #[.val (.ref a), .val (.ref vv), .unset, .unset, .unset] [(.ref a)])) _
    refine st1 _ ?_
    show Steps p.tables e below (T1.setTop (mkF m 4 #[.val (.ref a), .val (.ref vv), .unset, .unset, .unset] [(.int n)])) _
    refine XS.bipush X1.here hx rfl (hb hby d_prog_28_m_2_4) ?_
    show Steps p.tables e below (T1.setTop (mkF m 6 #[.val (.ref a), .val (.ref vv), .unset, .unset, .unset] [(.int (12 : Int32)), (.int n)])) _
    refine XS.iushr X1.here hx rfl (hb hby d_prog_28_m_2_6) rfl ?_
    show Steps p.tables e below (T1.setTop (mkF m 7 #[.val (.ref a), .val (.ref vv), .unset, .unset, .unset] [(.int ((n.toUInt32 >>> ((12 : Int32) &&& 31).toUInt32).toInt32))])) _
    refine XS.istoreN X1.here hx rfl (hb hby d_prog_28_m_2_7) rfl (l' := #[.val (.ref a), .val (.ref vv), .val (.int ((n.toUInt32 >>> ((12 : Int32) &&& 31).toUInt32).toInt32)), .unset, .unset]) rfl ?_
    show Steps p.tables e below (T1.setTop (mkF m 8 #[.val (.ref a), .val (.ref vv), .val (.int ((n.toUInt32 >>> ((12 : Int32) &&& 31).toUInt32).toInt32)), .unset, .unset] [])) _
    exact kt
  have R3 : ∀ tg, Steps p.tables e below (T1.setTop (mkF m 8 #[.val (.ref a), .val (.ref vv), .val (.int (0 : Int32)), .unset, .unset] [])) tg → Steps p.tables e below (T1.setTop (mkF m 8 #[.val (.ref a), .val (.ref vv), .val (.int ((n.toUInt32 >>> ((12 : Int32) &&& 31).toUInt32).toInt32)), .unset, .unset] [])) tg := fun tg kt => by rw [hs1]; exact kt
  obtain ⟨T4, X4, e4, st4⟩ := getF X1 hx hZ hown (host := "") (Or.inl (hw _ (List.mem_of_getElem? (i := 42) rfl))) Via.refl e1 hFs (g := (mkF m 9 #[.val (.ref a), .val (.ref vv), .val (.int (0 : Int32)), .unset, .unset] [(.ref a)])) rfl rfl (hb hby d_prog_28_m_2_9)
  have R5 : ∀ tg, Steps p.tables e below (T4.setTop (mkF m 17 #[.val (.ref a), .val (.ref vv), .val (.int (0 : Int32)), .val (.int (n &&& (4095 : Int32))), .unset] [])) tg → Steps p.tables e below (T1.setTop (mkF m 8 #[.val (.ref a), .val (.ref vv), .val (.int (0 : Int32)), .unset, .unset] [])) tg := by
    intro tg kt
    refine XS.aloadN X1.here hx rfl (hb hby d_prog_28_m_2_8) rfl rfl ?_
    show Steps p.tables e below (T1.setTop (mkF m 9 #[.val (.ref a), .val (.ref vv), .val (.int (0 : Int32)), .unset, .unset] [(.ref a)])) _
    refine st4 _ ?_
    show Steps p.tables e below (T4.setTop (mkF m 12 #[.val (.ref a), .val (.ref vv), .val (.int (0 : Int32)), .unset, .unset] [(.int n)])) _
    refine XS.sipush X4.here hx rfl (hb hby d_prog_28_m_2_12) ?_
    show Steps p.tables e below (T4.setTop (mkF m 15 #[.val (.ref a), .val (.ref vv), .val (.int (0 : Int32)), .unset, .unset] [(.int (4095 : Int32)), (.int n)])) _
    refine XS.iand X4.here hx rfl (hb hby d_prog_28_m_2_15) rfl ?_
    show Steps p.tables e below (T4.setTop (mkF m 16 #[.val (.ref a), .val (.ref vv), .val (.int (0 : Int32)), .unset, .unset] [(.int (n &&& (4095 : Int32)))])) _
    refine XS.istoreN X4.here hx rfl (hb hby d_prog_28_m_2_16) rfl (l' := #[.val (.ref a), .val (.ref vv), .val (.int (0 : Int32)), .val (.int (n &&& (4095 : Int32))), .unset]) rfl ?_
    show Steps p.tables e below (T4.setTop (mkF m 17 #[.val (.ref a), .val (.ref vv), .val (.int (0 : Int32)), .val (.int (n &&& (4095 : Int32))), .unset] [])) _
    exact kt
  have R6 : ∀ tg, Steps p.tables e below (T4.setTop (mkF m 17 #[.val (.ref a), .val (.ref vv), .val (.int (0 : Int32)), .val (.int n), .unset] [])) tg → Steps p.tables e below (T4.setTop (mkF m 17 #[.val (.ref a), .val (.ref vv), .val (.int (0 : Int32)), .val (.int (n &&& (4095 : Int32))), .unset] [])) tg := fun tg kt => by rw [hs2]; exact kt
  obtain ⟨T7, X7, e7, st7⟩ := getF X4 hx hZ hown (host := "") (Or.inl (hw _ (List.mem_of_getElem? (i := 28) rfl))) Via.refl e4 hFc (g := (mkF m 19 #[.val (.ref a), .val (.ref vv), .val (.int (0 : Int32)), .val (.int n), .unset] [(.ref a), (.int (0 : Int32))])) rfl rfl (hb hby d_prog_28_m_2_19)
  obtain ⟨cl8, Ar8, q8, Sz8, Nn8, Ha8, Ga8⟩ := id hVc
  obtain ⟨T9, X9, e9, st9⟩ := getF X7 hx hZ hown (host := "") (Or.inl (hw _ (List.mem_of_getElem? (i := 28) rfl))) Via.refl e7 hFc (g := (mkF m 44 #[.val (.ref a), .val (.ref vv), .val (.int (0 : Int32)), .val (.int n), .unset] [(.ref a)])) rfl rfl (hb hby d_prog_28_m_2_44)
  obtain ⟨cl10, Ar10, q10, Sz10, Nn10, Ha10, Ga10⟩ := id hVc
  have hin10 : ¬ ((0 : Int32) < 0 ∨ cl10.slots.size ≤ ((0 : Int32)).toNatClampNeg) := inb_of Sz10 ⟨by decide, by decide⟩
  have hat10 : cl10.slots[((0 : Int32)).toNatClampNeg]? = some (.ref ea) := Ha10.at hin10 rfl
  obtain ⟨cl11, Ar11, q11, Sz11, Nn11, Ha11, Ga11⟩ := id hVe
  obtain ⟨cl12, Ar12, q12, Sz12, Nn12, Ha12, Ga12⟩ := id hVe
  have hin12 : ¬ (n < 0 ∨ cl12.slots.size ≤ (n).toNatClampNeg) := inb_of Sz12 hlo
  obtain ⟨T12, h12, X12, e12, W12, st12⟩ := stR X9 hx hZ e9 Ar12 (j := n) hin12 rfl (Sto.ofV Ar12 q12 hO (Ins.of_exa hv (hw _ (List.mem_of_getElem? (i := 44) rfl)))) (g := (mkF m 110 #[.val (.ref a), .val (.ref vv), .val (.int (0 : Int32)), .val (.int n), .val (.ref ea)] [(.ref vv), (.int n), (.ref ea)])) rfl rfl (hb hby d_prog_28_m_2_110)
  have V12 : Arv Z h12 ea ke (.object "java/lang/Object") cap (vs.set i (.ref vv)) .null := Arv.set Ar12 q12 Sz12 Nn12 Ha12 Ga12 rfl W12 i hi hl
  have Z12 : n0 ≤ h12.size := Nat.le_trans Z0 (Nat.le_of_eq W12.size.symm)
  have N12 := Fr.snoc X12 N0 hge
  have K12 : Keep h0 h12 [a, ch, ea] := K0.wr W12 (Or.inl (List.mem_of_getElem? (i := 2) rfl))
  have f13 := (hFs.other W12 (Or.inl hn2))
  obtain ⟨T14, X14, e14, st14⟩ := getF X12 hx hZ hown (host := "") (Or.inl (hw _ (List.mem_of_getElem? (i := 42) rfl))) Via.refl e12 f13 (g := (mkF m 113 #[.val (.ref a), .val (.ref vv), .val (.int (0 : Int32)), .val (.int n), .val (.ref ea)] [(.ref a), (.ref a)])) rfl rfl (hb hby d_prog_28_m_2_113)
  have f16 := (hE.wr W12)
  obtain ⟨T15, h15, X15, e15, W15, st15⟩ := putF X14 hx hZ hown (host := "") (Or.inl (hw _ (List.mem_of_getElem? (i := 42) rfl))) Via.refl e14 f13 f16 (Or.inl (hw _ (List.mem_of_getElem? (i := 43) rfl))) (hw _ (List.mem_of_getElem? (i := 2) rfl)) (ty := .int) (by decide) rfl rfl (g := (mkF m 118 #[.val (.ref a), .val (.ref vv), .val (.int (0 : Int32)), .val (.int n), .val (.ref ea)] [(.int (n + (1 : Int32))), (.ref a)])) rfl rfl (hb hby d_prog_28_m_2_118)
  have Z15 : n0 ≤ h15.size := Nat.le_trans Z12 (Nat.le_of_eq W15.size.symm)
  have N15 := Fr.snoc X15 N12 hga
  have K15 : Keep h0 h15 [a, ch, ea] := K12.wr W15 (Or.inl (List.mem_of_getElem? (i := 0) rfl))
  have Fw15 := f13.same W15
  have f17 := ((hFm.other W12 (Or.inl hn2)).other W15 (Or.inr (slot_ne (Or.inl (hw _ (List.mem_of_getElem? (i := 22) rfl))) (Or.inl (hw _ (List.mem_of_getElem? (i := 43) rfl))) (by decide) (t := .int) (t' := .int) (by decide) (by decide))))
  obtain ⟨T18, X18, e18, st18⟩ := getF X15 hx hZ hown (host := "") (Or.inl (hw _ (List.mem_of_getElem? (i := 45) rfl))) (Via.of (hw _ (List.mem_of_getElem? (i := 46) rfl))) e15 f17 (g := (mkF m 123 #[.val (.ref a), .val (.ref vv), .val (.int (0 : Int32)), .val (.int n), .val (.ref ea)] [(.ref a), (.ref a)])) rfl rfl (hb hby d_prog_28_m_2_123)
  have f20 := (f16.wr W15)
  obtain ⟨T19, h19, X19, e19, W19, st19⟩ := putF X18 hx hZ hown (host := "") (Or.inl (hw _ (List.mem_of_getElem? (i := 45) rfl))) (Via.of (hw _ (List.mem_of_getElem? (i := 46) rfl))) e18 f17 f20 (Or.inl (hw _ (List.mem_of_getElem? (i := 22) rfl))) (hw _ (List.mem_of_getElem? (i := 2) rfl)) (ty := .int) (by decide) rfl rfl (g := (mkF m 128 #[.val (.ref a), .val (.ref vv), .val (.int (0 : Int32)), .val (.int n), .val (.ref ea)] [(.int (mc + (1 : Int32))), (.ref a)])) rfl rfl (hb hby d_prog_28_m_2_128)
  have Z19 : n0 ≤ h19.size := Nat.le_trans Z15 (Nat.le_of_eq W19.size.symm)
  have N19 := Fr.snoc X19 N15 hga
  have K19 : Keep h0 h19 [a, ch, ea] := K15.wr W19 (Or.inl (List.mem_of_getElem? (i := 0) rfl))
  have Fw19 := f17.same W19
  obtain ⟨fs, hr, hrun, hended, hW, hsame⟩ := X19.leave (v := some (.int (1 : Int32))) (fun h => by rw [Bd.returns] at h; cases h)
  refine ⟨_, _, pre0 _ (R2 _ (R3 _ (R5 _ (R6 _ ?_)))), hrun, hended, _, _, rfl, ?_, ⟨_, rfl⟩, hW, hsame.mono (by decide) (by decide)⟩
  · show Steps p.tables e below (T4.setTop (mkF m 17 #[.val (.ref a), .val (.ref vv), .val (.int (0 : Int32)), .val (.int n), .unset] [])) _
    refine XS.iloadN X4.here hx rfl (hb hby d_prog_28_m_2_17) rfl ?_
    show Steps p.tables e below (T4.setTop (mkF m 18 #[.val (.ref a), .val (.ref vv), .val (.int (0 : Int32)), .val (.int n), .unset] [(.int (0 : Int32))])) _
    refine XS.aloadN X4.here hx rfl (hb hby d_prog_28_m_2_18) rfl rfl ?_
    show Steps p.tables e below (T4.setTop (mkF m 19 #[.val (.ref a), .val (.ref vv), .val (.int (0 : Int32)), .val (.int n), .unset] [(.ref a), (.int (0 : Int32))])) _
    refine st7 _ ?_
    show Steps p.tables e below (T7.setTop (mkF m 22 #[.val (.ref a), .val (.ref vv), .val (.int (0 : Int32)), .val (.int n), .unset] [(.ref ch), (.int (0 : Int32))])) _
    refine X7.arraylength hx (by rw [e7]; exact Ar8.1) (State.isArrayOf_alike hZ.alike Ar8.2.1) (g := (mkF m 22 #[.val (.ref a), .val (.ref vv), .val (.int (0 : Int32)), .val (.int n), .unset] [(.ref ch), (.int (0 : Int32))])) rfl rfl (hb hby d_prog_28_m_2_22) _ ?_
    rw [len_of Sz8 Nn8]
    show Steps p.tables e below (T7.setTop (mkF m 23 #[.val (.ref a), .val (.ref vv), .val (.int (0 : Int32)), .val (.int n), .unset] [(.int (1 : Int32)), (.int (0 : Int32))])) _
    refine XS.icmpYes X7.here hx rfl (pc0 := 23) (pc' := 43) rfl (hb hby d_prog_28_m_2_23) rfl (feq (by decide : ¬ ((0 : Int32) = (1 : Int32)))).2 (by decide) (by decide) ?_
    show Steps p.tables e below (T7.setTop (mkF m 43 #[.val (.ref a), .val (.ref vv), .val (.int (0 : Int32)), .val (.int n), .unset] [])) _
    refine XS.aloadN X7.here hx rfl (hb hby d_prog_28_m_2_43) rfl rfl ?_
    show Steps p.tables e below (T7.setTop (mkF m 44 #[.val (.ref a), .val (.ref vv), .val (.int (0 : Int32)), .val (.int n), .unset] [(.ref a)])) _
    refine st9 _ ?_
    show Steps p.tables e below (T9.setTop (mkF m 47 #[.val (.ref a), .val (.ref vv), .val (.int (0 : Int32)), .val (.int n), .unset] [(.ref ch)])) _
    refine XS.iloadN X9.here hx rfl (hb hby d_prog_28_m_2_47) rfl ?_
    show Steps p.tables e below (T9.setTop (mkF m 48 #[.val (.ref a), .val (.ref vv), .val (.int (0 : Int32)), .val (.int n), .unset] [(.int (0 : Int32)), (.ref ch)])) _
    refine X9.aaload hx (j := (0 : Int32)) (v := (.ref ea)) (by rw [e9]; exact Ar10.1) (State.isArrayOf_alike hZ.alike Ar10.2.1) rfl Ar10.2.2 hin10 hat10 (g := (mkF m 48 #[.val (.ref a), .val (.ref vv), .val (.int (0 : Int32)), .val (.int n), .unset] [(.int (0 : Int32)), (.ref ch)])) rfl rfl (hb hby d_prog_28_m_2_48) _ ?_
    show Steps p.tables e below (T9.setTop (mkF m 49 #[.val (.ref a), .val (.ref vv), .val (.int (0 : Int32)), .val (.int n), .unset] [(.ref ea)])) _
    refine XS.astore X9.here hx rfl (hb hby d_prog_28_m_2_49) rfl rfl (l' := #[.val (.ref a), .val (.ref vv), .val (.int (0 : Int32)), .val (.int n), .val (.ref ea)]) rfl ?_
    show Steps p.tables e below (T9.setTop (mkF m 51 #[.val (.ref a), .val (.ref vv), .val (.int (0 : Int32)), .val (.int n), .val (.ref ea)] [])) _
    refine XS.aload X9.here hx rfl (hb hby d_prog_28_m_2_51) rfl rfl ?_
    show Steps p.tables e below (T9.setTop (mkF m 53 #[.val (.ref a), .val (.ref vv), .val (.int (0 : Int32)), .val (.int n), .val (.ref ea)] [(.ref ea)])) _
    refine XS.ifnonnullYes X9.here hx rfl (pc0 := 53) (pc' := 75) rfl (hb hby d_prog_28_m_2_53) rfl (by decide) (by decide) ?_
    show Steps p.tables e below (T9.setTop (mkF m 75 #[.val (.ref a), .val (.ref vv), .val (.int (0 : Int32)), .val (.int n), .val (.ref ea)] [])) _
    refine XS.iloadN X9.here hx rfl (hb hby d_prog_28_m_2_75) rfl ?_
    show Steps p.tables e below (T9.setTop (mkF m 76 #[.val (.ref a), .val (.ref vv), .val (.int (0 : Int32)), .val (.int n), .val (.ref ea)] [(.int n)])) _
    refine XS.aload X9.here hx rfl (hb hby d_prog_28_m_2_76) rfl rfl ?_
    show Steps p.tables e below (T9.setTop (mkF m 78 #[.val (.ref a), .val (.ref vv), .val (.int (0 : Int32)), .val (.int n), .val (.ref ea)] [(.ref ea), (.int n)])) _
    refine X9.arraylength hx (by rw [e9]; exact Ar11.1) (State.isArrayOf_alike hZ.alike Ar11.2.1) (g := (mkF m 78 #[.val (.ref a), .val (.ref vv), .val (.int (0 : Int32)), .val (.int n), .val (.ref ea)] [(.ref ea), (.int n)])) rfl rfl (hb hby d_prog_28_m_2_78) _ ?_
    rw [len_of Sz11 Nn11]
    show Steps p.tables e below (T9.setTop (mkF m 79 #[.val (.ref a), .val (.ref vv), .val (.int (0 : Int32)), .val (.int n), .val (.ref ea)] [(.int cap), (.int n)])) _
    refine XS.icmpYes X9.here hx rfl (pc0 := 79) (pc' := 106) rfl (hb hby d_prog_28_m_2_79) rfl (feq hs3).2 (by decide) (by decide) ?_
    show Steps p.tables e below (T9.setTop (mkF m 106 #[.val (.ref a), .val (.ref vv), .val (.int (0 : Int32)), .val (.int n), .val (.ref ea)] [])) _
    refine XS.aload X9.here hx rfl (hb hby d_prog_28_m_2_106) rfl rfl ?_
    show Steps p.tables e below (T9.setTop (mkF m 108 #[.val (.ref a), .val (.ref vv), .val (.int (0 : Int32)), .val (.int n), .val (.ref ea)] [(.ref ea)])) _
    refine XS.iloadN X9.here hx rfl (hb hby d_prog_28_m_2_108) rfl ?_
    show Steps p.tables e below (T9.setTop (mkF m 109 #[.val (.ref a), .val (.ref vv), .val (.int (0 : Int32)), .val (.int n), .val (.ref ea)] [(.int n), (.ref ea)])) _
    refine XS.aloadN X9.here hx rfl (hb hby d_prog_28_m_2_109) rfl rfl ?_
    show Steps p.tables e below (T9.setTop (mkF m 110 #[.val (.ref a), .val (.ref vv), .val (.int (0 : Int32)), .val (.int n), .val (.ref ea)] [(.ref vv), (.int n), (.ref ea)])) _
    refine st12 _ ?_
    show Steps p.tables e below (T12.setTop (mkF m 111 #[.val (.ref a), .val (.ref vv), .val (.int (0 : Int32)), .val (.int n), .val (.ref ea)] [])) _
    refine XS.aloadN X12.here hx rfl (hb hby d_prog_28_m_2_111) rfl rfl ?_
    show Steps p.tables e below (T12.setTop (mkF m 112 #[.val (.ref a), .val (.ref vv), .val (.int (0 : Int32)), .val (.int n), .val (.ref ea)] [(.ref a)])) _
    refine XS.dup X12.here hx rfl (hb hby d_prog_28_m_2_112) rfl rfl ?_
    show Steps p.tables e below (T12.setTop (mkF m 113 #[.val (.ref a), .val (.ref vv), .val (.int (0 : Int32)), .val (.int n), .val (.ref ea)] [(.ref a), (.ref a)])) _
    refine st14 _ ?_
    show Steps p.tables e below (T14.setTop (mkF m 116 #[.val (.ref a), .val (.ref vv), .val (.int (0 : Int32)), .val (.int n), .val (.ref ea)] [(.int n), (.ref a)])) _
    refine XS.iconst X14.here hx rfl (hb hby d_prog_28_m_2_116) ?_
    show Steps p.tables e below (T14.setTop (mkF m 117 #[.val (.ref a), .val (.ref vv), .val (.int (0 : Int32)), .val (.int n), .val (.ref ea)] [(.int (1 : Int32)), (.int n), (.ref a)])) _
    refine XS.iadd X14.here hx rfl (hb hby d_prog_28_m_2_117) rfl ?_
    show Steps p.tables e below (T14.setTop (mkF m 118 #[.val (.ref a), .val (.ref vv), .val (.int (0 : Int32)), .val (.int n), .val (.ref ea)] [(.int (n + (1 : Int32))), (.ref a)])) _
    refine st15 _ ?_
    show Steps p.tables e below (T15.setTop (mkF m 121 #[.val (.ref a), .val (.ref vv), .val (.int (0 : Int32)), .val (.int n), .val (.ref ea)] [])) _
    refine XS.aloadN X15.here hx rfl (hb hby d_prog_28_m_2_121) rfl rfl ?_
    show Steps p.tables e below (T15.setTop (mkF m 122 #[.val (.ref a), .val (.ref vv), .val (.int (0 : Int32)), .val (.int n), .val (.ref ea)] [(.ref a)])) _
    refine XS.dup X15.here hx rfl (hb hby d_prog_28_m_2_122) rfl rfl ?_
    show Steps p.tables e below (T15.setTop (mkF m 123 #[.val (.ref a), .val (.ref vv), .val (.int (0 : Int32)), .val (.int n), .val (.ref ea)] [(.ref a), (.ref a)])) _
    refine st18 _ ?_
    show Steps p.tables e below (T18.setTop (mkF m 126 #[.val (.ref a), .val (.ref vv), .val (.int (0 : Int32)), .val (.int n), .val (.ref ea)] [(.int mc), (.ref a)])) _
    refine XS.iconst X18.here hx rfl (hb hby d_prog_28_m_2_126) ?_
    show Steps p.tables e below (T18.setTop (mkF m 127 #[.val (.ref a), .val (.ref vv), .val (.int (0 : Int32)), .val (.int n), .val (.ref ea)] [(.int (1 : Int32)), (.int mc), (.ref a)])) _
    refine XS.iadd X18.here hx rfl (hb hby d_prog_28_m_2_127) rfl ?_
    show Steps p.tables e below (T18.setTop (mkF m 128 #[.val (.ref a), .val (.ref vv), .val (.int (0 : Int32)), .val (.int n), .val (.ref ea)] [(.int (mc + (1 : Int32))), (.ref a)])) _
    refine st19 _ ?_
    show Steps p.tables e below (T19.setTop (mkF m 131 #[.val (.ref a), .val (.ref vv), .val (.int (0 : Int32)), .val (.int n), .val (.ref ea)] [])) _
    refine XS.iconst X19.here hx rfl (hb hby d_prog_28_m_2_131) ?_
    show Steps p.tables e below (T19.setTop (mkF m 132 #[.val (.ref a), .val (.ref vv), .val (.int (0 : Int32)), .val (.int n), .val (.ref ea)] [(.int (1 : Int32))])) _
    exact retN X19 hx (t := .boolean) Bd.returns (by simp) (hb hby d_prog_28_m_2_132) hr
  · show QAd Z a ch ea kc ke (n + 1) cap (vs.set i (.ref vv)) h0 n0 _ T19.heap _
    rw [e19]
    have f21 := (f20.wr W19)
    have f22 := (Fw15.other W19 (Or.inr (slot_ne (Or.inl (hw _ (List.mem_of_getElem? (i := 43) rfl))) (Or.inl (hw _ (List.mem_of_getElem? (i := 22) rfl))) (by decide) (t := .int) (t' := .int) (by decide) (by decide))))
    have f23 := (((hFc.other W12 (Or.inl hn2)).other W15 (Or.inr (slot_ne (Or.inl (hw _ (List.mem_of_getElem? (i := 29) rfl))) (Or.inl (hw _ (List.mem_of_getElem? (i := 43) rfl))) (by decide) (t := (.array (.array (.object "java/lang/Object")))) (t' := .int) (by decide) (by decide)))).other W19 (Or.inr (slot_ne (Or.inl (hw _ (List.mem_of_getElem? (i := 29) rfl))) (Or.inl (hw _ (List.mem_of_getElem? (i := 22) rfl))) (by decide) (t := (.array (.array (.object "java/lang/Object")))) (t' := .int) (by decide) (by decide))))
    have f24 := (((hVc.other W12 hn3).other W15 (Ne.symm hn1)).other W19 (Ne.symm hn1))
    have f25 := ((V12.other W15 (Ne.symm hn2)).other W19 (Ne.symm hn2))
    have f26 := (((hXe.wr W12).wr W15).wr W19)
    exact ⟨rfl, N19, K19, _, ⟨f21, f22, f23, Fw19, f24, f25, f26, hO, hOA, hga, hgc, hge, hn1, hn2, hn3⟩⟩
theorem ef_rmNI (m : MethodId) (x0 : Addr) : entryFrame m #[(.ref x0)] 1 = mkF m 0 #[.val (.ref x0)] [] := by first | (simp [entryFrame, mkF, argsToLocals, Value.category]; done) | rfl
set_option maxRecDepth 65536 in
set_option maxHeartbeats 40000000 in
theorem rmNI (l : Launch) (Z : State) (a0 : Array Value) (hw : ∀ d ∈ tables_1, d.before a0 Z = true) (ws : List Jvm.Cond) (a : Addr) (h0 : Heap) (n0 : Nat) (Z0 : n0 ≤ h0.size)  :
    MetFree l (⟨"java/lang/Number", "<init>", "()V"⟩ : MethodName) (head1 (Jvm.Cond.code (⟨"java/lang/Number", "<init>", "()V"⟩ : MethodName) jdk_18_method_1_code 1 none :: ws) ({ frames := 1, cells := 0, slots := 0, locals := 12 } : Room)) (fun aa_ UU_ => aa_ = #[(.ref a)] ∧ Z.Warmed39 UU_.vm ∧ UU_.heap = h0) (fun _ _ _ _ _ => True) (fun _ UU_ oo_ UE_ => ∃ vv_ LL_, oo_ = .returned vv_ ∧ QV none h0 n0 vv_ UE_.heap LL_ ∧ FrameEnd UU_ oo_ UE_ LL_ ({ frames := 1, cells := 0, slots := 0, locals := 12 } : Room).cells ({ frames := 1, cells := 0, slots := 0, locals := 12 } : Room).slots) := by
  refine MetFree.of_bodySF (plainFor_of_name pn_3) hisR ?_
  intro p e s m args below meth c s₁ Bd hml0 hP hK
  obtain ⟨rfl, hZ, hh⟩ := hP
  have hx := Bd.exec
  have hby := Bd.bytes
  have hml : c.maxLocals = 1 := hml0
  have hown : s.vm.findClass "java/lang/Number" = some m.cls := findClass_of_methodNamed Bd.named
  have hnm := (name_of_methodNamed Bd.named Bd.method).1
  have X0 : Stand p l e ({ frames := 1, cells := 0, slots := 0, locals := 12 } : Room) s m #[(.ref a)] below meth c s₁ [] 0 0 := Stand.of_body Bd
  have e0 : s₁.heap = h0 := by rw [← hh, Bd.state]; rfl
  have N0 := Fr.nil n0
  have pre0 : ∀ tg, Steps p.tables e below (s₁.setTop (mkF m 0 #[.val (.ref a)] [])) tg → Steps p.tables e below (s₁.setTop (entryFrame m #[(.ref a)] 1)) tg := fun tg kq_ => castTop (ef_rmNI m a) kq_
  obtain ⟨T1, X1, e1, st1⟩ := initO X0 hx hZ hown (hw _ (List.mem_of_getElem? (i := 80) rfl)) (hw _ (List.mem_of_getElem? (i := 19) rfl)) (hw _ (List.mem_of_getElem? (i := 20) rfl)) e0 (g := (mkF m 1 #[.val (.ref a)] [(.ref a)])) rfl (by rw [hml]; rfl) rfl (hb hby d_jdk_18_m_1_1) (by decide) (W := 0) (by show 2 * 0 + _ ≤ _; exact Nat.le_of_eq rfl) (by decide)
  obtain ⟨fs, hr, hrun, hended, hW, hsame⟩ := X1.leave (v := none) (fun _ => rfl)
  refine ⟨_, _, pre0 _ ?_, hrun, hended, _, _, rfl, ?_, ⟨_, rfl⟩, hW, hsame.mono (by decide) (by decide)⟩
  · show Steps p.tables e below (s₁.setTop (mkF m 0 #[.val (.ref a)] [])) _
    refine XS.aloadN X0.here hx rfl (hb hby d_jdk_18_m_1_0) rfl rfl ?_
    show Steps p.tables e below (s₁.setTop (mkF m 1 #[.val (.ref a)] [(.ref a)])) _
    refine st1 _ ?_
    show Steps p.tables e below (T1.setTop (mkF m 4 #[.val (.ref a)] [])) _
    exact X1.returnOut hx Bd.returns (hb hby d_jdk_18_m_1_4) hr
  · show QV none h0 n0 _ T1.heap _
    rw [e1]
    exact ⟨rfl, N0, rfl⟩
theorem ef_rmII (m : MethodId) (x0 : Addr) (x1 : Int32) : entryFrame m #[(.ref x0), (.int x1)] 2 = mkF m 0 #[.val (.ref x0), .val (.int x1)] [] := by first | (simp [entryFrame, mkF, argsToLocals, Value.category]; done) | rfl
set_option maxRecDepth 65536 in
set_option maxHeartbeats 40000000 in
theorem rmII (l : Launch) (Z : State) (a0 : Array Value) (hw : ∀ d ∈ tables_1, d.before a0 Z = true) (ws : List Jvm.Cond) (a : Addr) (q : Int32) (h0 : Heap) (n0 : Nat) (Z0 : n0 ≤ h0.size) (hE1 : Exa Z h0 a "java/lang/Integer") (hF1 : Fld Z h0 a "java/lang/Integer" "value" "I" (.int (0 : Int32))) (hG1 : n0 ≤ a) :
    MetFree l (⟨"java/lang/Integer", "<init>", "(I)V"⟩ : MethodName) (head1 (Jvm.Cond.code (⟨"java/lang/Integer", "<init>", "(I)V"⟩ : MethodName) jdk_33_method_23_code 2 none :: ws) ({ frames := 2, cells := 0, slots := 0, locals := 24 } : Room)) (fun aa_ UU_ => aa_ = #[(.ref a), (.int q)] ∧ Z.Warmed39 UU_.vm ∧ UU_.heap = h0) (fun _ _ _ _ _ => True) (fun _ UU_ oo_ UE_ => ∃ vv_ LL_, oo_ = .returned vv_ ∧ QW Z a "java/lang/Integer" "value" "I" (.int q) none h0 n0 vv_ UE_.heap LL_ ∧ FrameEnd UU_ oo_ UE_ LL_ ({ frames := 2, cells := 0, slots := 0, locals := 24 } : Room).cells ({ frames := 2, cells := 0, slots := 0, locals := 24 } : Room).slots) := by
  refine MetFree.of_bodySF (plainFor_of_name pn_4) hisR ?_
  intro p e s m args below meth c s₁ Bd hml0 hP hK
  obtain ⟨rfl, hZ, hh⟩ := hP
  have hx := Bd.exec
  have hby := Bd.bytes
  have hml : c.maxLocals = 2 := hml0
  have hown : s.vm.findClass "java/lang/Integer" = some m.cls := findClass_of_methodNamed Bd.named
  have hnm := (name_of_methodNamed Bd.named Bd.method).1
  have X0 : Stand p l e ({ frames := 2, cells := 0, slots := 0, locals := 24 } : Room) s m #[(.ref a), (.int q)] below meth c s₁ [] 0 0 := Stand.of_body Bd
  have e0 : s₁.heap = h0 := by rw [← hh, Bd.state]; rfl
  have N0 := Fr.nil n0
  have K0 : Keep h0 h0 [a] := Keep.refl h0 _
  have pre0 : ∀ tg, Steps p.tables e below (s₁.setTop (mkF m 0 #[.val (.ref a), .val (.int q)] [])) tg → Steps p.tables e below (s₁.setTop (entryFrame m #[(.ref a), (.int q)] 2)) tg := fun tg kq_ => castTop (ef_rmII m a q) kq_
  obtain ⟨_, _, ⟨T1, L1, k1, n1⟩, -, X1, ⟨Lc1, hQ1, l1, y1, z1⟩, st1⟩ := X0.specialBack hx (y := (⟨"java/lang/Number", "<init>", "()V"⟩ : MethodName)) rfl hown (mvT hZ (hw _ (List.mem_of_getElem? (i := 74) rfl))) (mvT hZ (hw _ (List.mem_of_getElem? (i := 75) rfl))) (mvT hZ (hw _ (List.mem_of_getElem? (i := 79) rfl))) (by decide) (backOf (W := 0) (rmNI l Z a0 hw [] a h0 n0 Z0) hZ (hw _ (List.mem_of_getElem? (i := 79) rfl)) (hw _ (List.mem_of_getElem? (i := 78) rfl)) (by decide) (by decide)) (g := (mkF m 1 #[.val (.ref a), .val (.int q)] [(.ref a)])) rfl (by rw [hml]; rfl) (Steps.refl _) (a := a) (argsL := []) (rest := []) (lenOf pd_0 rfl) rfl (by show 2 * 0 + _ ≤ _; exact Nat.le_of_eq rfl) (hb hby d_jdk_33_m_23_1) (fun _ _ => ⟨rfl, e0, (by decide : 0 + 0 ≤ _), (by decide : 0 + 0 ≤ _)⟩)
  dsimp only [Pt.U, Pt.locs, Pt.cells, Pt.slots] at X1 l1 y1 z1 st1 hQ1
  subst l1 y1 z1
  obtain ⟨hv1, N1q, r1⟩ := hQ1
  subst hv1
  have N1 := Fr.app N0 N1q
  obtain ⟨T2, h2, X2, e2, W2, st2⟩ := putF X1 hx hZ hown (host := "") (Or.inl (hw _ (List.mem_of_getElem? (i := 67) rfl))) Via.refl r1 hF1 hE1 (Or.inr ⟨(hw _ (List.mem_of_getElem? (i := 68) rfl)), rfl, hnm⟩) (hw _ (List.mem_of_getElem? (i := 70) rfl)) (ty := .int) (by decide) rfl rfl (g := (mkF m 6 #[.val (.ref a), .val (.int q)] [(.int q), (.ref a)])) rfl rfl (hb hby d_jdk_33_m_23_6)
  have Z2 : n0 ≤ h2.size := Nat.le_trans Z0 (Nat.le_of_eq W2.size.symm)
  have N2 := Fr.snoc X2 N1 hG1
  have K2 : Keep h0 h2 [a] := K0.wr W2 (Or.inl (List.mem_of_getElem? (i := 0) rfl))
  have Fw2 := hF1.same W2
  obtain ⟨fs, hr, hrun, hended, hW, hsame⟩ := X2.leave (v := none) (fun _ => rfl)
  refine ⟨_, _, pre0 _ ?_, hrun, hended, _, _, rfl, ?_, ⟨_, rfl⟩, hW, hsame.mono (by decide) (by decide)⟩
  · show Steps p.tables e below (s₁.setTop (mkF m 0 #[.val (.ref a), .val (.int q)] [])) _
    refine XS.aloadN X0.here hx rfl (hb hby d_jdk_33_m_23_0) rfl rfl ?_
    show Steps p.tables e below (s₁.setTop (mkF m 1 #[.val (.ref a), .val (.int q)] [(.ref a)])) _
    refine st1.trans ?_
    show Steps p.tables e below (T1.setTop (mkF m 4 #[.val (.ref a), .val (.int q)] [])) _
    refine XS.aloadN X1.here hx rfl (hb hby d_jdk_33_m_23_4) rfl rfl ?_
    show Steps p.tables e below (T1.setTop (mkF m 5 #[.val (.ref a), .val (.int q)] [(.ref a)])) _
    refine XS.iloadN X1.here hx rfl (hb hby d_jdk_33_m_23_5) rfl ?_
    show Steps p.tables e below (T1.setTop (mkF m 6 #[.val (.ref a), .val (.int q)] [(.int q), (.ref a)])) _
    refine st2 _ ?_
    show Steps p.tables e below (T2.setTop (mkF m 9 #[.val (.ref a), .val (.int q)] [])) _
    exact X2.returnOut hx Bd.returns (hb hby d_jdk_33_m_23_9) hr
  · show QW Z a "java/lang/Integer" "value" "I" (.int q) none h0 n0 _ T2.heap _
    rw [e2]
    exact ⟨rfl, N2, K2, Fw2⟩
theorem ef_rmIV (m : MethodId) (x0 : Int32) : entryFrame m #[(.int x0)] 1 = mkF m 0 #[.val (.int x0)] [] := by first | (simp [entryFrame, mkF, argsToLocals, Value.category]; done) | rfl
set_option maxRecDepth 65536 in
set_option maxHeartbeats 40000000 in
theorem rmIV (l : Launch) (Z : State) (a0 : Array Value) (hw : ∀ d ∈ tables_1, d.before a0 Z = true) (ws : List Jvm.Cond) (q : Int32) (ca : Addr) (cc : Cell) (h0 : Heap) (n0 : Nat) (Z0 : n0 ≤ h0.size) (hO1 : Old Z n0 h0) (hS0 : Sta Z Z.heap "java/lang/Integer$IntegerCache" "high" "I" (.int (127 : Int32))) (hS1 : Sta Z Z.heap "java/lang/Integer$IntegerCache" "cache" "[Ljava/lang/Integer;" (.ref ca)) (hB1 : Bxs Z ca cc "java/lang/Integer" "I" (256 : Int32) (fun j => .int (j - 128))) :
    MetFree l (⟨"java/lang/Integer", "valueOf", "(I)Ljava/lang/Integer;"⟩ : MethodName) (head1 (Jvm.Cond.code (⟨"java/lang/Integer", "valueOf", "(I)Ljava/lang/Integer;"⟩ : MethodName) jdk_33_method_22_code 1 (some (.object "java/lang/Integer")) :: ws) ({ frames := 3, cells := 1, slots := 1, locals := 38 } : Room)) (fun aa_ UU_ => aa_ = #[(.int q)] ∧ Z.Warmed39 UU_.vm ∧ UU_.heap = h0) (fun _ _ _ _ _ => True) (fun _ UU_ oo_ UE_ => ∃ vv_ LL_, oo_ = .returned vv_ ∧ QIV Z q h0 n0 vv_ UE_.heap LL_ ∧ FrameEnd UU_ oo_ UE_ LL_ ({ frames := 3, cells := 1, slots := 1, locals := 38 } : Room).cells ({ frames := 3, cells := 1, slots := 1, locals := 38 } : Room).slots) := by
  refine MetFree.of_bodySF (plainFor_of_name pn_4) hisR ?_
  intro p e s m args below meth c s₁ Bd hml0 hP hK
  obtain ⟨rfl, hZ, hh⟩ := hP
  have hx := Bd.exec
  have hby := Bd.bytes
  have hml : c.maxLocals = 1 := hml0
  have hown : s.vm.findClass "java/lang/Integer" = some m.cls := findClass_of_methodNamed Bd.named
  have hnm := (name_of_methodNamed Bd.named Bd.method).1
  have X0 : Stand p l e ({ frames := 3, cells := 1, slots := 1, locals := 38 } : Room) s m #[(.int q)] below meth c s₁ [] 0 0 := Stand.of_body Bd
  have e0 : s₁.heap = h0 := by rw [← hh, Bd.state]; rfl
  have N0 := Fr.nil n0
  have K0 : Keep h0 h0 [] := Keep.refl h0 _
  have pre0 : ∀ tg, Steps p.tables e below (s₁.setTop (mkF m 0 #[.val (.int q)] [])) tg → Steps p.tables e below (s₁.setTop (entryFrame m #[(.int q)] 1)) tg := fun tg kq_ => castTop (ef_rmIV m q) kq_
  have R1 : ∀ tg, Steps p.tables e below (s₁.setTop (mkF m 3 #[.val (.int q)] [(.int (-128 : Int32)), (.int q)])) tg → Steps p.tables e below (s₁.setTop (mkF m 0 #[.val (.int q)] [])) tg := by
    intro tg kt
    refine XS.iloadN X0.here hx rfl (hb hby d_jdk_33_m_22_0) rfl ?_
    show Steps p.tables e below (s₁.setTop (mkF m 1 #[.val (.int q)] [(.int q)])) _
    refine XS.bipush X0.here hx rfl (hb hby d_jdk_33_m_22_1) ?_
    show Steps p.tables e below (s₁.setTop (mkF m 3 #[.val (.int q)] [(.int (-128 : Int32)), (.int q)])) _
    exact kt
  by_cases hc3_2 : q < (-128 : Int32)
  · obtain ⟨T3, h3, X3, e3, E3, A3, D3, -, st3⟩ := newO X0 hx hZ hown (hw _ (List.mem_of_getElem? (i := 69) rfl)) (hw _ (List.mem_of_getElem? (i := 70) rfl)) (hw _ (List.mem_of_getElem? (i := 32) rfl)) e0 (g := (mkF m 23 #[.val (.int q)] [])) rfl (hb hby d_jdk_33_m_22_23) (by decide) (by decide)
    obtain ⟨b3, g3⟩ : ∃ z, z = h0.size := ⟨_, rfl⟩
    rw [← g3] at A3 D3 st3
    have gb_b3 : n0 ≤ b3 := Nat.le_trans Z0 (Nat.le_of_eq g3.symm)
    have sz_b3 : h0.size ≤ b3 := Nat.le_trans K0.1 (Nat.le_of_eq g3.symm)
    have Z3 : n0 ≤ h3.size := Nat.le_trans Z0 E3.1
    have K3 : Keep h0 h3 [] := K0.ext E3
    have F3_value : Fld Z h3 b3 "java/lang/Integer" "value" "I" (.int (0 : Int32)) := D3 (Or.inr (hw _ (List.mem_of_getElem? (i := 68) rfl))) (ty := .int) (by decide)
    obtain ⟨_, _, ⟨T4, L4, k4, n4⟩, -, X4, ⟨Lc4, hQ4, l4, y4, z4⟩, st4⟩ := X3.specialBack hx (y := (⟨"java/lang/Integer", "<init>", "(I)V"⟩ : MethodName)) rfl hown (mvT hZ (hw _ (List.mem_of_getElem? (i := 71) rfl))) (mvT hZ (hw _ (List.mem_of_getElem? (i := 72) rfl))) (mvT hZ (hw _ (List.mem_of_getElem? (i := 73) rfl))) (by decide) (backOf (W := 1) (rmII l Z a0 hw [] b3 q h3 n0 Z3 A3 F3_value gb_b3) hZ (hw _ (List.mem_of_getElem? (i := 73) rfl)) (hw _ (List.mem_of_getElem? (i := 32) rfl)) (by decide) (by decide)) (g := (mkF m 28 #[.val (.int q)] [(.int q), (.ref b3), (.ref b3)])) rfl (by rw [hml]; rfl) (Steps.refl _) (a := b3) (argsL := [(.int q)]) (rest := [(.ref b3)]) (lenOf pd_1 rfl) rfl (by show 2 * 0 + _ ≤ _; exact Nat.le_of_eq rfl) (hb hby d_jdk_33_m_22_28) (fun _ _ => ⟨rfl, e3, (by decide : 1 + 0 ≤ _), (by decide : 1 + 0 ≤ _)⟩)
    dsimp only [Pt.U, Pt.locs, Pt.cells, Pt.slots] at X4 l4 y4 z4 st4 hQ4
    subst l4 y4 z4
    obtain ⟨hv4, N4q, kp4, fl4⟩ := hQ4
    subst hv4
    have N4 := Fr.app N0 N4q
    have Z4 : n0 ≤ T4.heap.size := Nat.le_trans Z3 kp4.1
    have K4 : Keep h0 T4.heap [] := K3.trans kp4 (allS (Or.inr sz_b3) all0)
    obtain ⟨fs, hr, hrun, hended, hW, hsame⟩ := X4.leave (v := some (.ref b3)) (fun h => by rw [Bd.returns] at h; cases h)
    refine ⟨_, _, pre0 _ (R1 _ ?_), hrun, hended, _, _, rfl, ?_, ⟨_, rfl⟩, hW, hsame.mono (by decide) (by decide)⟩
    · show Steps p.tables e below (s₁.setTop (mkF m 3 #[.val (.int q)] [(.int (-128 : Int32)), (.int q)])) _
      refine XS.icmpYes X0.here hx rfl (pc0 := 3) (pc' := 23) rfl (hb hby d_jdk_33_m_22_3) rfl (tlt hc3_2).1 (by decide) (by decide) ?_
      show Steps p.tables e below (s₁.setTop (mkF m 23 #[.val (.int q)] [])) _
      refine st3 _ ?_
      show Steps p.tables e below (T3.setTop (mkF m 26 #[.val (.int q)] [(.ref b3)])) _
      refine XS.dup X3.here hx rfl (hb hby d_jdk_33_m_22_26) rfl rfl ?_
      show Steps p.tables e below (T3.setTop (mkF m 27 #[.val (.int q)] [(.ref b3), (.ref b3)])) _
      refine XS.iloadN X3.here hx rfl (hb hby d_jdk_33_m_22_27) rfl ?_
      show Steps p.tables e below (T3.setTop (mkF m 28 #[.val (.int q)] [(.int q), (.ref b3), (.ref b3)])) _
      refine st4.trans ?_
      show Steps p.tables e below (T4.setTop (mkF m 31 #[.val (.int q)] [(.ref b3)])) _
      jvm_step X4.here [X4.here.top, hx, (hb hby d_jdk_33_m_22_31), X4.method', Bd.returns, Value.isRef, FieldType.isReference]
      first | (intro acts; rw [hr _ acts rfl rfl rfl]) | rw [hr _ _ rfl rfl rfl]
      exact Steps.refl _
    · show QIV Z q h0 n0 _ T4.heap _
      have f5 := (A3.keep kp4)
      exact ⟨b3, rfl, N4, K4, f5, fl4⟩
  · obtain ⟨T6, X6, e6, st6⟩ := getS2 X0 hx hZ hown (host := "") (Or.inl (hw _ (List.mem_of_getElem? (i := 34) rfl))) Via.refl e0 (hS0.ext hO1.2) (g := (mkF m 7 #[.val (.int q)] [(.int q)])) rfl (hb hby d_jdk_33_m_22_7)
    have R7 : ∀ tg, Steps p.tables e below (T6.setTop (mkF m 10 #[.val (.int q)] [(.int (127 : Int32)), (.int q)])) tg → Steps p.tables e below (s₁.setTop (mkF m 3 #[.val (.int q)] [(.int (-128 : Int32)), (.int q)])) tg := by
      intro tg kt
      refine XS.icmpNo X0.here hx rfl (hb hby d_jdk_33_m_22_3) rfl (flt hc3_2).1 ?_
      show Steps p.tables e below (s₁.setTop (mkF m 6 #[.val (.int q)] [])) _
      refine XS.iloadN X0.here hx rfl (hb hby d_jdk_33_m_22_6) rfl ?_
      show Steps p.tables e below (s₁.setTop (mkF m 7 #[.val (.int q)] [(.int q)])) _
      refine st6 _ ?_
      show Steps p.tables e below (T6.setTop (mkF m 10 #[.val (.int q)] [(.int (127 : Int32)), (.int q)])) _
      exact kt
    by_cases hc10_8 : (127 : Int32) < q
    · obtain ⟨T9, h9, X9, e9, E9, A9, D9, -, st9⟩ := newO X6 hx hZ hown (hw _ (List.mem_of_getElem? (i := 69) rfl)) (hw _ (List.mem_of_getElem? (i := 70) rfl)) (hw _ (List.mem_of_getElem? (i := 32) rfl)) e6 (g := (mkF m 23 #[.val (.int q)] [])) rfl (hb hby d_jdk_33_m_22_23) (by decide) (by decide)
      obtain ⟨b9, g9⟩ : ∃ z, z = h0.size := ⟨_, rfl⟩
      rw [← g9] at A9 D9 st9
      have gb_b9 : n0 ≤ b9 := Nat.le_trans Z0 (Nat.le_of_eq g9.symm)
      have sz_b9 : h0.size ≤ b9 := Nat.le_trans K0.1 (Nat.le_of_eq g9.symm)
      have Z9 : n0 ≤ h9.size := Nat.le_trans Z0 E9.1
      have K9 : Keep h0 h9 [] := K0.ext E9
      have F9_value : Fld Z h9 b9 "java/lang/Integer" "value" "I" (.int (0 : Int32)) := D9 (Or.inr (hw _ (List.mem_of_getElem? (i := 68) rfl))) (ty := .int) (by decide)
      obtain ⟨_, _, ⟨T10, L10, k10, n10⟩, -, X10, ⟨Lc10, hQ10, l10, y10, z10⟩, st10⟩ := X9.specialBack hx (y := (⟨"java/lang/Integer", "<init>", "(I)V"⟩ : MethodName)) rfl hown (mvT hZ (hw _ (List.mem_of_getElem? (i := 71) rfl))) (mvT hZ (hw _ (List.mem_of_getElem? (i := 72) rfl))) (mvT hZ (hw _ (List.mem_of_getElem? (i := 73) rfl))) (by decide) (backOf (W := 1) (rmII l Z a0 hw [] b9 q h9 n0 Z9 A9 F9_value gb_b9) hZ (hw _ (List.mem_of_getElem? (i := 73) rfl)) (hw _ (List.mem_of_getElem? (i := 32) rfl)) (by decide) (by decide)) (g := (mkF m 28 #[.val (.int q)] [(.int q), (.ref b9), (.ref b9)])) rfl (by rw [hml]; rfl) (Steps.refl _) (a := b9) (argsL := [(.int q)]) (rest := [(.ref b9)]) (lenOf pd_1 rfl) rfl (by show 2 * 0 + _ ≤ _; exact Nat.le_of_eq rfl) (hb hby d_jdk_33_m_22_28) (fun _ _ => ⟨rfl, e9, (by decide : 1 + 0 ≤ _), (by decide : 1 + 0 ≤ _)⟩)
      dsimp only [Pt.U, Pt.locs, Pt.cells, Pt.slots] at X10 l10 y10 z10 st10 hQ10
      subst l10 y10 z10
      obtain ⟨hv10, N10q, kp10, fl10⟩ := hQ10
      subst hv10
      have N10 := Fr.app N0 N10q
      have Z10 : n0 ≤ T10.heap.size := Nat.le_trans Z9 kp10.1
      have K10 : Keep h0 T10.heap [] := K9.trans kp10 (allS (Or.inr sz_b9) all0)
      obtain ⟨fs, hr, hrun, hended, hW, hsame⟩ := X10.leave (v := some (.ref b9)) (fun h => by rw [Bd.returns] at h; cases h)
      refine ⟨_, _, pre0 _ (R1 _ (R7 _ ?_)), hrun, hended, _, _, rfl, ?_, ⟨_, rfl⟩, hW, hsame.mono (by decide) (by decide)⟩
      · show Steps p.tables e below (T6.setTop (mkF m 10 #[.val (.int q)] [(.int (127 : Int32)), (.int q)])) _
        refine XS.icmpYes X6.here hx rfl (pc0 := 10) (pc' := 23) rfl (hb hby d_jdk_33_m_22_10) rfl (tlt hc10_8).2.2.1 (by decide) (by decide) ?_
        show Steps p.tables e below (T6.setTop (mkF m 23 #[.val (.int q)] [])) _
        refine st9 _ ?_
        show Steps p.tables e below (T9.setTop (mkF m 26 #[.val (.int q)] [(.ref b9)])) _
        refine XS.dup X9.here hx rfl (hb hby d_jdk_33_m_22_26) rfl rfl ?_
        show Steps p.tables e below (T9.setTop (mkF m 27 #[.val (.int q)] [(.ref b9), (.ref b9)])) _
        refine XS.iloadN X9.here hx rfl (hb hby d_jdk_33_m_22_27) rfl ?_
        show Steps p.tables e below (T9.setTop (mkF m 28 #[.val (.int q)] [(.int q), (.ref b9), (.ref b9)])) _
        refine st10.trans ?_
        show Steps p.tables e below (T10.setTop (mkF m 31 #[.val (.int q)] [(.ref b9)])) _
        jvm_step X10.here [X10.here.top, hx, (hb hby d_jdk_33_m_22_31), X10.method', Bd.returns, Value.isRef, FieldType.isReference]
        first | (intro acts; rw [hr _ acts rfl rfl rfl]) | rw [hr _ _ rfl rfl rfl]
        exact Steps.refl _
      · show QIV Z q h0 n0 _ T10.heap _
        have f11 := (A9.keep kp10)
        exact ⟨b9, rfl, N10, K10, f11, fl10⟩
    · obtain ⟨T12, X12, e12, st12⟩ := getS2 X6 hx hZ hown (host := "") (Or.inl (hw _ (List.mem_of_getElem? (i := 36) rfl))) Via.refl e6 (hS1.ext hO1.2) (g := (mkF m 13 #[.val (.int q)] [])) rfl (hb hby d_jdk_33_m_22_13)
      have hin : ¬ ((q + (128 : Int32)) < 0 ∨ cc.slots.size ≤ (q + (128 : Int32)).toNatClampNeg) := by
        rw [hB1.2.1]
        exact own_place q hc3_2 hc10_8
      obtain ⟨bx, hat, EB, FB⟩ := hB1.2.2.2 _ hin
      have FB' : Fld Z Z.heap bx "java/lang/Integer" "value" "I" (.int q) := by
        have e : q + (128 : Int32) - 128 = q := Int32.add_sub_cancel q 128
        rw [← e]; exact FB
      obtain ⟨fs, hr, hrun, hended, hW, hsame⟩ := X12.leave (v := some (.ref bx)) (fun h => by rw [Bd.returns] at h; cases h)
      refine ⟨_, _, pre0 _ (R1 _ (R7 _ ?_)), hrun, hended, _, _, rfl, ?_, ⟨_, rfl⟩, hW, hsame.mono (by decide) (by decide)⟩
      · show Steps p.tables e below (T6.setTop (mkF m 10 #[.val (.int q)] [(.int (127 : Int32)), (.int q)])) _
        refine XS.icmpNo X6.here hx rfl (hb hby d_jdk_33_m_22_10) rfl (flt hc10_8).2.2.1 ?_
        show Steps p.tables e below (T6.setTop (mkF m 13 #[.val (.int q)] [])) _
        refine st12 _ ?_
        show Steps p.tables e below (T12.setTop (mkF m 16 #[.val (.int q)] [(.ref ca)])) _
        refine XS.iloadN X12.here hx rfl (hb hby d_jdk_33_m_22_16) rfl ?_
        show Steps p.tables e below (T12.setTop (mkF m 17 #[.val (.int q)] [(.int q), (.ref ca)])) _
        refine XS.sipush X12.here hx rfl (hb hby d_jdk_33_m_22_17) ?_
        show Steps p.tables e below (T12.setTop (mkF m 20 #[.val (.int q)] [(.int (128 : Int32)), (.int q), (.ref ca)])) _
        refine XS.iadd X12.here hx rfl (hb hby d_jdk_33_m_22_20) rfl ?_
        show Steps p.tables e below (T12.setTop (mkF m 21 #[.val (.int q)] [(.int (q + (128 : Int32))), (.ref ca)])) _
        refine X12.aaload hx (j := (q + (128 : Int32))) (v := (.ref bx)) (by rw [e12]; exact (hB1.ext hO1.2).1.1) (State.isArrayOf_alike hZ.alike (hB1.ext hO1.2).1.2.1) rfl (hB1.ext hO1.2).1.2.2 hin hat (g := (mkF m 21 #[.val (.int q)] [(.int (q + (128 : Int32))), (.ref ca)])) rfl rfl (hb hby d_jdk_33_m_22_21) _ ?_
        show Steps p.tables e below (T12.setTop (mkF m 22 #[.val (.int q)] [(.ref bx)])) _
        jvm_step X12.here [X12.here.top, hx, (hb hby d_jdk_33_m_22_22), X12.method', Bd.returns, Value.isRef, FieldType.isReference]
        first | (intro acts; rw [hr _ acts rfl rfl rfl]) | rw [hr _ _ rfl rfl rfl]
        exact Steps.refl _
      · show QIV Z q h0 n0 _ T12.heap _
        rw [e12]
        exact ⟨bx, rfl, N0, K0, EB.ext hO1.2, FB'.ext hO1.2⟩
theorem ef_rmMn (m : MethodId) (x0 : Int32) (x1 : Int32) : entryFrame m #[(.int x0), (.int x1)] 2 = mkF m 0 #[.val (.int x0), .val (.int x1)] [] := by first | (simp [entryFrame, mkF, argsToLocals, Value.category]; done) | rfl
set_option maxRecDepth 65536 in
set_option maxHeartbeats 40000000 in
theorem rmMn (l : Launch) (Z : State) (a0 : Array Value) (hw : ∀ d ∈ tables_1, d.before a0 Z = true) (ws : List Jvm.Cond) (x y : Int32) (h0 : Heap) (n0 : Nat) (Z0 : n0 ≤ h0.size)  :
    MetFree l (⟨"java/lang/Math", "min", "(II)I"⟩ : MethodName) (head1 (Jvm.Cond.code (⟨"java/lang/Math", "min", "(II)I"⟩ : MethodName) jdk_29_method_69_code 2 (some .int) :: ws) ({ frames := 0, cells := 0, slots := 0, locals := 0 } : Room)) (fun aa_ UU_ => aa_ = #[(.int x), (.int y)] ∧ Z.Warmed39 UU_.vm ∧ UU_.heap = h0) (fun _ _ _ _ _ => True) (fun _ UU_ oo_ UE_ => ∃ vv_ LL_, oo_ = .returned vv_ ∧ QV (some (.int (if y < x then y else x))) h0 n0 vv_ UE_.heap LL_ ∧ FrameEnd UU_ oo_ UE_ LL_ ({ frames := 0, cells := 0, slots := 0, locals := 0 } : Room).cells ({ frames := 0, cells := 0, slots := 0, locals := 0 } : Room).slots) := by
  refine MetFree.of_bodySF (Jvm.Free.JP.mathPlain rfl (by decide +kernel)) hisR ?_
  intro p e s m args below meth c s₁ Bd hml0 hP hK
  obtain ⟨rfl, hZ, hh⟩ := hP
  have hx := Bd.exec
  have hby := Bd.bytes
  have hml : c.maxLocals = 2 := hml0
  have hown : s.vm.findClass "java/lang/Math" = some m.cls := findClass_of_methodNamed Bd.named
  have hnm := (name_of_methodNamed Bd.named Bd.method).1
  have X0 : Stand p l e ({ frames := 0, cells := 0, slots := 0, locals := 0 } : Room) s m #[(.int x), (.int y)] below meth c s₁ [] 0 0 := Stand.of_body Bd
  have e0 : s₁.heap = h0 := by rw [← hh, Bd.state]; rfl
  have N0 := Fr.nil n0
  have pre0 : ∀ tg, Steps p.tables e below (s₁.setTop (mkF m 0 #[.val (.int x), .val (.int y)] [])) tg → Steps p.tables e below (s₁.setTop (entryFrame m #[(.int x), (.int y)] 2)) tg := fun tg kq_ => castTop (ef_rmMn m x y) kq_
  have R1 : ∀ tg, Steps p.tables e below (s₁.setTop (mkF m 2 #[.val (.int x), .val (.int y)] [(.int y), (.int x)])) tg → Steps p.tables e below (s₁.setTop (mkF m 0 #[.val (.int x), .val (.int y)] [])) tg := by
    intro tg kt
    refine XS.iloadN X0.here hx rfl (hb hby d_jdk_29_m_69_0) rfl ?_
    show Steps p.tables e below (s₁.setTop (mkF m 1 #[.val (.int x), .val (.int y)] [(.int x)])) _
    refine XS.iloadN X0.here hx rfl (hb hby d_jdk_29_m_69_1) rfl ?_
    show Steps p.tables e below (s₁.setTop (mkF m 2 #[.val (.int x), .val (.int y)] [(.int y), (.int x)])) _
    exact kt
  by_cases hc2_2 : y < x
  · obtain ⟨fs, hr, hrun, hended, hW, hsame⟩ := X0.leave (v := some (.int y)) (fun h => by rw [Bd.returns] at h; cases h)
    refine ⟨_, _, pre0 _ (R1 _ ?_), hrun, hended, _, _, rfl, ?_, ⟨_, rfl⟩, hW, hsame.mono (by decide) (by decide)⟩
    · show Steps p.tables e below (s₁.setTop (mkF m 2 #[.val (.int x), .val (.int y)] [(.int y), (.int x)])) _
      refine XS.icmpYes X0.here hx rfl (pc0 := 2) (pc' := 9) rfl (hb hby d_jdk_29_m_69_2) rfl (tlt hc2_2).2.2.1 (by decide) (by decide) ?_
      show Steps p.tables e below (s₁.setTop (mkF m 9 #[.val (.int x), .val (.int y)] [])) _
      refine XS.iloadN X0.here hx rfl (hb hby d_jdk_29_m_69_9) rfl ?_
      show Steps p.tables e below (s₁.setTop (mkF m 10 #[.val (.int x), .val (.int y)] [(.int y)])) _
      exact retI X0 hx Bd.returns (hb hby d_jdk_29_m_69_10) hr
    · show QV (some (.int (if y < x then y else x))) h0 n0 _ s₁.heap _
      rw [e0]
      exact ⟨by rw [if_pos hc2_2], N0, rfl⟩
  · obtain ⟨fs, hr, hrun, hended, hW, hsame⟩ := X0.leave (v := some (.int x)) (fun h => by rw [Bd.returns] at h; cases h)
    refine ⟨_, _, pre0 _ (R1 _ ?_), hrun, hended, _, _, rfl, ?_, ⟨_, rfl⟩, hW, hsame.mono (by decide) (by decide)⟩
    · show Steps p.tables e below (s₁.setTop (mkF m 2 #[.val (.int x), .val (.int y)] [(.int y), (.int x)])) _
      refine XS.icmpNo X0.here hx rfl (hb hby d_jdk_29_m_69_2) rfl (flt hc2_2).2.2.1 ?_
      show Steps p.tables e below (s₁.setTop (mkF m 5 #[.val (.int x), .val (.int y)] [])) _
      refine XS.iloadN X0.here hx rfl (hb hby d_jdk_29_m_69_5) rfl ?_
      show Steps p.tables e below (s₁.setTop (mkF m 6 #[.val (.int x), .val (.int y)] [(.int x)])) _
      refine XS.goto X0.here hx rfl (pc0 := 6) (pc' := 10) rfl (hb hby d_jdk_29_m_69_6) (by decide) (by decide) ?_
      show Steps p.tables e below (s₁.setTop (mkF m 10 #[.val (.int x), .val (.int y)] [(.int x)])) _
      exact retI X0 hx Bd.returns (hb hby d_jdk_29_m_69_10) hr
    · show QV (some (.int (if y < x then y else x))) h0 n0 _ s₁.heap _
      rw [e0]
      exact ⟨by rw [if_neg hc2_2], N0, rfl⟩
theorem ef_rmGr (m : MethodId) (x0 : Addr) (x1 : Addr) : entryFrame m #[(.ref x0), (.ref x1)] 5 = mkF m 0 #[.val (.ref x0), .val (.ref x1), .unset, .unset, .unset] [] := by first | (simp [entryFrame, mkF, argsToLocals, Value.category]; done) | rfl
set_option maxRecDepth 65536 in
set_option maxHeartbeats 40000000 in
theorem rmGr (l : Launch) (Z : State) (a0 : Array Value) (hw : ∀ d ∈ tables_1, d.before a0 Z = true) (ws : List Jvm.Cond) (a vv ch ea xe0 xe1 xe2 xe3 : Addr) (kc ke : ClassId) (mc : Int32) (h0 : Heap) (n0 : Nat) (Z0 : n0 ≤ h0.size) (hC : CLs Z n0 h0 a ch ea kc ke (4 : Int32) mc (4 : Int32) [.ref xe0, .ref xe1, .ref xe2, .ref xe3]) (hv : Exa Z h0 vv "java/lang/Integer") (hxe0 : Exa Z h0 xe0 "java/lang/Integer") (hxe1 : Exa Z h0 xe1 "java/lang/Integer") (hxe2 : Exa Z h0 xe2 "java/lang/Integer") (hxe3 : Exa Z h0 xe3 "java/lang/Integer") (hM : ∃ (c : ClassId) (k : Class) (m : Addr), Z.vm.findClass "[Ljava/lang/Object;" = some c ∧ Z.vm.classes[c]? = some k ∧ k.mirror = some m) :
    MetFree l (⟨"com/example/anchored_threads/anchoredthreads/internal/ChunkedList", "add", "(Ljava/lang/Object;)Z"⟩ : MethodName) (head1 (Jvm.Cond.code (⟨"com/example/anchored_threads/anchoredthreads/internal/ChunkedList", "add", "(Ljava/lang/Object;)Z"⟩ : MethodName) prog_28_method_2_code 5 (some .boolean) :: ws) ({ frames := 4, cells := 1, slots := 8, locals := 77 } : Room)) (fun aa_ UU_ => aa_ = #[(.ref a), (.ref vv)] ∧ Z.Warmed39 UU_.vm ∧ UU_.heap = h0) (fun _ _ _ _ _ => True) (fun _ UU_ oo_ UE_ => ∃ vv_ LL_, oo_ = .returned vv_ ∧ QGr Z a ch ea kc [.ref xe0, .ref xe1, .ref xe2, .ref xe3, .ref vv, .null, .null, .null] h0 n0 vv_ UE_.heap LL_ ∧ FrameEnd UU_ oo_ UE_ LL_ ({ frames := 4, cells := 1, slots := 8, locals := 77 } : Room).cells ({ frames := 4, cells := 1, slots := 8, locals := 77 } : Room).slots) := by
  refine MetFree.of_bodySF (plainFor_of_name pn_2) hisR ?_
  intro p e s m args below meth c s₁ Bd hml0 hP hK
  obtain ⟨rfl, hZ, hh⟩ := hP
  have hx := Bd.exec
  have hby := Bd.bytes
  have hml : c.maxLocals = 5 := hml0
  have hown : s.vm.findClass "com/example/anchored_threads/anchoredthreads/internal/ChunkedList" = some m.cls := findClass_of_methodNamed Bd.named
  have hnm := (name_of_methodNamed Bd.named Bd.method).1
  have X0 : Stand p l e ({ frames := 4, cells := 1, slots := 8, locals := 77 } : Room) s m #[(.ref a), (.ref vv)] below meth c s₁ [] 0 0 := Stand.of_body Bd
  have e0 : s₁.heap = h0 := by rw [← hh, Bd.state]; rfl
  have N0 := Fr.nil n0
  have K0 : Keep h0 h0 [a, ch, ea] := Keep.refl h0 _
  have pre0 : ∀ tg, Steps p.tables e below (s₁.setTop (mkF m 0 #[.val (.ref a), .val (.ref vv), .unset, .unset, .unset] [])) tg → Steps p.tables e below (s₁.setTop (entryFrame m #[(.ref a), (.ref vv)] 5)) tg := fun tg kq_ => castTop (ef_rmGr m a vv) kq_
  obtain ⟨hE, hFs, hFc, hFm, hVc, hVe, hXe, hO, hOA, hga, hgc, hge, hn1, hn2, hn3⟩ := hC
  obtain ⟨T1, X1, e1, st1⟩ := getF X0 hx hZ hown (host := "") (Or.inl (hw _ (List.mem_of_getElem? (i := 42) rfl))) Via.refl e0 hFs (g := (mkF m 1 #[.val (.ref a), .val (.ref vv), .unset, .unset, .unset] [(.ref a)])) rfl rfl (hb hby d_prog_28_m_2_1)
  have R2 : ∀ tg, Steps p.tables e below (T1.setTop (mkF m 8 #[.val (.ref a), .val (.ref vv), .val (.int (((4 : Int32).toUInt32 >>> ((12 : Int32) &&& 31).toUInt32).toInt32)), .unset, .unset] [])) tg → Steps p.tables e below (s₁.setTop (mkF m 0 #[.val (.ref a), .val (.ref vv), .unset, .unset, .unset] [])) tg := by
    intro tg kt
    refine XS.aloadN X0.here hx rfl (hb hby d_prog_28_m_2_0) rfl rfl ?_
    show Steps p.tables e below (s₁.setTop (mkF m 1 #[.val (.ref a), .val (.ref vv), .unset, .unset, .unset] [(.ref a)])) _
    refine st1 _ ?_
    show Steps p.tables e below (T1.setTop (mkF m 4 #[.val (.ref a), .val (.ref vv), .unset, .unset, .unset] [(.int (4 : Int32))])) _
    refine XS.bipush X1.here hx rfl (hb hby d_prog_28_m_2_4) ?_
    show Steps p.tables e below (T1.setTop (mkF m 6 #[.val (.ref a), .val (.ref vv), .unset, .unset, .unset] [(.int (12 : Int32)), (.int (4 : Int32))])) _
    refine XS.iushr X1.here hx rfl (hb hby d_prog_28_m_2_6) rfl ?_
    show Steps p.tables e below (T1.setTop (mkF m 7 #[.val (.ref a), .val (.ref vv), .unset, .unset, .unset] [(.int (((4 : Int32).toUInt32 >>> ((12 : Int32) &&& 31).toUInt32).toInt32))])) _
    refine XS.istoreN X1.here hx rfl (hb hby d_prog_28_m_2_7) rfl (l' := #[.val (.ref a), .val (.ref vv), .val (.int (((4 : Int32).toUInt32 >>> ((12 : Int32) &&& 31).toUInt32).toInt32)), .unset, .unset]) rfl ?_
    show Steps p.tables e below (T1.setTop (mkF m 8 #[.val (.ref a), .val (.ref vv), .val (.int (((4 : Int32).toUInt32 >>> ((12 : Int32) &&& 31).toUInt32).toInt32)), .unset, .unset] [])) _
    exact kt
  have R3 : ∀ tg, Steps p.tables e below (T1.setTop (mkF m 8 #[.val (.ref a), .val (.ref vv), .val (.int (0 : Int32)), .unset, .unset] [])) tg → Steps p.tables e below (T1.setTop (mkF m 8 #[.val (.ref a), .val (.ref vv), .val (.int (((4 : Int32).toUInt32 >>> ((12 : Int32) &&& 31).toUInt32).toInt32)), .unset, .unset] [])) tg := fun tg kt => by rw [(by decide : (((4 : Int32).toUInt32 >>> ((12 : Int32) &&& 31).toUInt32).toInt32) = (0 : Int32))]; exact kt
  obtain ⟨T4, X4, e4, st4⟩ := getF X1 hx hZ hown (host := "") (Or.inl (hw _ (List.mem_of_getElem? (i := 42) rfl))) Via.refl e1 hFs (g := (mkF m 9 #[.val (.ref a), .val (.ref vv), .val (.int (0 : Int32)), .unset, .unset] [(.ref a)])) rfl rfl (hb hby d_prog_28_m_2_9)
  have R5 : ∀ tg, Steps p.tables e below (T4.setTop (mkF m 17 #[.val (.ref a), .val (.ref vv), .val (.int (0 : Int32)), .val (.int ((4 : Int32) &&& (4095 : Int32))), .unset] [])) tg → Steps p.tables e below (T1.setTop (mkF m 8 #[.val (.ref a), .val (.ref vv), .val (.int (0 : Int32)), .unset, .unset] [])) tg := by
    intro tg kt
    refine XS.aloadN X1.here hx rfl (hb hby d_prog_28_m_2_8) rfl rfl ?_
    show Steps p.tables e below (T1.setTop (mkF m 9 #[.val (.ref a), .val (.ref vv), .val (.int (0 : Int32)), .unset, .unset] [(.ref a)])) _
    refine st4 _ ?_
    show Steps p.tables e below (T4.setTop (mkF m 12 #[.val (.ref a), .val (.ref vv), .val (.int (0 : Int32)), .unset, .unset] [(.int (4 : Int32))])) _
    refine XS.sipush X4.here hx rfl (hb hby d_prog_28_m_2_12) ?_
    show Steps p.tables e below (T4.setTop (mkF m 15 #[.val (.ref a), .val (.ref vv), .val (.int (0 : Int32)), .unset, .unset] [(.int (4095 : Int32)), (.int (4 : Int32))])) _
    refine XS.iand X4.here hx rfl (hb hby d_prog_28_m_2_15) rfl ?_
    show Steps p.tables e below (T4.setTop (mkF m 16 #[.val (.ref a), .val (.ref vv), .val (.int (0 : Int32)), .unset, .unset] [(.int ((4 : Int32) &&& (4095 : Int32)))])) _
    refine XS.istoreN X4.here hx rfl (hb hby d_prog_28_m_2_16) rfl (l' := #[.val (.ref a), .val (.ref vv), .val (.int (0 : Int32)), .val (.int ((4 : Int32) &&& (4095 : Int32))), .unset]) rfl ?_
    show Steps p.tables e below (T4.setTop (mkF m 17 #[.val (.ref a), .val (.ref vv), .val (.int (0 : Int32)), .val (.int ((4 : Int32) &&& (4095 : Int32))), .unset] [])) _
    exact kt
  have R6 : ∀ tg, Steps p.tables e below (T4.setTop (mkF m 17 #[.val (.ref a), .val (.ref vv), .val (.int (0 : Int32)), .val (.int (4 : Int32)), .unset] [])) tg → Steps p.tables e below (T4.setTop (mkF m 17 #[.val (.ref a), .val (.ref vv), .val (.int (0 : Int32)), .val (.int ((4 : Int32) &&& (4095 : Int32))), .unset] [])) tg := fun tg kt => by rw [(by decide : ((4 : Int32) &&& (4095 : Int32)) = (4 : Int32))]; exact kt
  obtain ⟨T7, X7, e7, st7⟩ := getF X4 hx hZ hown (host := "") (Or.inl (hw _ (List.mem_of_getElem? (i := 28) rfl))) Via.refl e4 hFc (g := (mkF m 19 #[.val (.ref a), .val (.ref vv), .val (.int (0 : Int32)), .val (.int (4 : Int32)), .unset] [(.ref a), (.int (0 : Int32))])) rfl rfl (hb hby d_prog_28_m_2_19)
  obtain ⟨cl8, Ar8, q8, Sz8, Nn8, Ha8, Ga8⟩ := id hVc
  obtain ⟨T9, X9, e9, st9⟩ := getF X7 hx hZ hown (host := "") (Or.inl (hw _ (List.mem_of_getElem? (i := 28) rfl))) Via.refl e7 hFc (g := (mkF m 44 #[.val (.ref a), .val (.ref vv), .val (.int (0 : Int32)), .val (.int (4 : Int32)), .unset] [(.ref a)])) rfl rfl (hb hby d_prog_28_m_2_44)
  obtain ⟨cl10, Ar10, q10, Sz10, Nn10, Ha10, Ga10⟩ := id hVc
  have hin10 : ¬ ((0 : Int32) < 0 ∨ cl10.slots.size ≤ ((0 : Int32)).toNatClampNeg) := inb_of Sz10 ⟨by decide, by decide⟩
  have hat10 : cl10.slots[((0 : Int32)).toNatClampNeg]? = some (.ref ea) := Ha10.at hin10 rfl
  obtain ⟨cl11, Ar11, q11, Sz11, Nn11, Ha11, Ga11⟩ := id hVe
  obtain ⟨_, _, ⟨T12, L12, k12, n12⟩, -, X12, ⟨Lc12, hQ12, l12, y12, z12⟩, st12⟩ := Jvm.LawKit.callS X9 hx (y := (⟨"java/lang/Math", "min", "(II)I"⟩ : MethodName)) hown (mvT hZ (hw _ (List.mem_of_getElem? (i := 81) rfl))) (mvT hZ (hw _ (List.mem_of_getElem? (i := 82) rfl))) (mvT hZ (hw _ (List.mem_of_getElem? (i := 83) rfl))) (mvT hZ (hw _ (List.mem_of_getElem? (i := 84) rfl))) (by decide) (backOf (W := 1) (rmMn l Z a0 hw [] ((2 : Int32) * (4 : Int32)) (4096 : Int32) h0 n0 Z0) hZ (hw _ (List.mem_of_getElem? (i := 84) rfl)) (hw _ (List.mem_of_getElem? (i := 83) rfl)) (by decide) (by decide)) (g := (mkF m 90 #[.val (.ref a), .val (.ref vv), .val (.int (0 : Int32)), .val (.int (4 : Int32)), .val (.ref ea)] [(.int (4096 : Int32)), (.int ((2 : Int32) * (4 : Int32))), (.ref ea)])) rfl (by rw [hml]; rfl) (argsL := [(.int ((2 : Int32) * (4 : Int32))), (.int (4096 : Int32))]) (rest := [(.ref ea)]) (lenOf pd_2 rfl) rfl (by show 2 * 0 + _ ≤ _; exact Nat.le_of_eq rfl) (hb hby d_prog_28_m_2_90) (fun _ _ => ⟨rfl, e9, (by decide : 0 + 0 ≤ _), (by decide : 0 + 0 ≤ _)⟩)
  dsimp only [Pt.U, Pt.locs, Pt.cells, Pt.slots] at X12 l12 y12 z12 st12 hQ12
  subst l12 y12 z12
  obtain ⟨hv12, N12q, r12⟩ := hQ12
  rw [show (if (4096 : Int32) < ((2 : Int32) * (4 : Int32)) then (4096 : Int32) else ((2 : Int32) * (4 : Int32))) = (8 : Int32) from by decide] at hv12
  subst hv12
  have N12 := Fr.app N0 N12q
  have hel13 : ∀ i, ([.ref xe0, .ref xe1, .ref xe2, .ref xe3] : List Value).getD i .null = .null ∨ ∃ b : Addr, ([.ref xe0, .ref xe1, .ref xe2, .ref xe3] : List Value).getD i .null = .ref b ∧ Ins Z h0 b "java/lang/Object" true := fun i => by
    match i with
    | 0 => exact Or.inr ⟨_, rfl, (Ins.of_exa hxe0 (hw _ (List.mem_of_getElem? (i := 44) rfl)))⟩
    | 1 => exact Or.inr ⟨_, rfl, (Ins.of_exa hxe1 (hw _ (List.mem_of_getElem? (i := 44) rfl)))⟩
    | 2 => exact Or.inr ⟨_, rfl, (Ins.of_exa hxe2 (hw _ (List.mem_of_getElem? (i := 44) rfl)))⟩
    | 3 => exact Or.inr ⟨_, rfl, (Ins.of_exa hxe3 (hw _ (List.mem_of_getElem? (i := 44) rfl)))⟩
    | _ + 4 => exact Or.inl rfl
  obtain ⟨T13, h13, k13, X13, e13, E13, A13, EX13, O13, st13⟩ := own_copyOf X12 hx hZ hw hown (hw _ (List.mem_of_getElem? (i := 85) rfl)) r12 hM hVe hXe hO (Nat.le_of_ble_eq_true rfl) hel13 (n := (8 : Int32)) (by decide) (K := 8) (by decide) (by decide) (by decide) (g := (mkF m 93 #[.val (.ref a), .val (.ref vv), .val (.int (0 : Int32)), .val (.int (4 : Int32)), .val (.ref ea)] [(.int (8 : Int32)), (.ref ea)])) rfl (by rw [hml]; rfl) rfl (hb hby d_prog_28_m_2_93) (by decide) (W := 0) (by show 2 * 0 + _ ≤ _; exact Nat.le_of_eq rfl) (by decide) (by decide) (by decide)
  obtain ⟨b13, g13⟩ : ∃ z, z = h0.size := ⟨_, rfl⟩
  rw [← g13] at A13 EX13 st13
  have ne_a_b13 : a ≠ b13 := Nat.ne_of_lt (Nat.lt_of_lt_of_le (hE).lt (Nat.le_of_eq g13.symm))
  have ne_ch_b13 : ch ≠ b13 := Nat.ne_of_lt (Nat.lt_of_lt_of_le (hVc).lt (Nat.le_of_eq g13.symm))
  have ne_ea_b13 : ea ≠ b13 := Nat.ne_of_lt (Nat.lt_of_lt_of_le (hVe).lt (Nat.le_of_eq g13.symm))
  have gb_b13 : n0 ≤ b13 := Nat.le_trans Z0 (Nat.le_of_eq g13.symm)
  have sz_b13 : h0.size ≤ b13 := Nat.le_trans K0.1 (Nat.le_of_eq g13.symm)
  have Z13 : n0 ≤ h13.size := Nat.le_trans Z0 E13.1
  have K13 : Keep h0 h13 [a, ch, ea] := K0.ext E13
  have V13 : Arv Z h13 b13 k13 (.object "java/lang/Object") (8 : Int32) [(.ref xe0), (.ref xe1), (.ref xe2), (.ref xe3), .null, .null, .null, .null] .null := A13.pad (pad_rep [(.ref xe0), (.ref xe1), (.ref xe2), (.ref xe3)] .null 4)
  have f14 := (hFc.ext E13)
  obtain ⟨T15, X15, e15, st15⟩ := getF X13 hx hZ hown (host := "") (Or.inl (hw _ (List.mem_of_getElem? (i := 28) rfl))) Via.refl e13 f14 (g := (mkF m 99 #[.val (.ref a), .val (.ref vv), .val (.int (0 : Int32)), .val (.int (4 : Int32)), .val (.ref b13)] [(.ref a)])) rfl rfl (hb hby d_prog_28_m_2_99)
  have f17 := (hVc.ext E13)
  obtain ⟨cl16, Ar16, q16, Sz16, Nn16, Ha16, Ga16⟩ := id f17
  have hin16 : ¬ ((0 : Int32) < 0 ∨ cl16.slots.size ≤ ((0 : Int32)).toNatClampNeg) := inb_of Sz16 ⟨by decide, by decide⟩
  obtain ⟨T16, h16, X16, e16, W16, st16⟩ := stR X15 hx hZ e15 Ar16 (j := (0 : Int32)) hin16 rfl (Sto.ofVA Ar16 q16 hOA (Ins.self EX13)) (g := (mkF m 105 #[.val (.ref a), .val (.ref vv), .val (.int (0 : Int32)), .val (.int (4 : Int32)), .val (.ref b13)] [(.ref b13), (.int (0 : Int32)), (.ref ch)])) rfl rfl (hb hby d_prog_28_m_2_105)
  have V16 : Arv Z h16 ch kc (.array (.object "java/lang/Object")) (1 : Int32) [(.ref b13)] .null := Arv.set Ar16 q16 Sz16 Nn16 Ha16 Ga16 rfl W16 0 rfl (Nat.le_of_ble_eq_true rfl)
  have Z16 : n0 ≤ h16.size := Nat.le_trans Z13 (Nat.le_of_eq W16.size.symm)
  have N16 := Fr.snoc X16 N12 hgc
  have K16 : Keep h0 h16 [a, ch, ea] := K13.wr W16 (Or.inl (List.mem_of_getElem? (i := 1) rfl))
  have f19 := (V13.other W16 (Ne.symm ne_ch_b13))
  obtain ⟨cl18, Ar18, q18, Sz18, Nn18, Ha18, Ga18⟩ := id f19
  have hin18 : ¬ ((4 : Int32) < 0 ∨ cl18.slots.size ≤ ((4 : Int32)).toNatClampNeg) := inb_of Sz18 ⟨by decide, by decide⟩
  have f20 := ((hv.ext E13).wr W16)
  obtain ⟨T18, h18, X18, e18, W18, st18⟩ := stR X16 hx hZ e16 Ar18 (j := (4 : Int32)) hin18 rfl (Sto.ofV Ar18 q18 O13 (Ins.of_exa f20 (hw _ (List.mem_of_getElem? (i := 44) rfl)))) (g := (mkF m 110 #[.val (.ref a), .val (.ref vv), .val (.int (0 : Int32)), .val (.int (4 : Int32)), .val (.ref b13)] [(.ref vv), (.int (4 : Int32)), (.ref b13)])) rfl rfl (hb hby d_prog_28_m_2_110)
  have V18 : Arv Z h18 b13 k13 (.object "java/lang/Object") (8 : Int32) [(.ref xe0), (.ref xe1), (.ref xe2), (.ref xe3), (.ref vv), .null, .null, .null] .null := Arv.set Ar18 q18 Sz18 Nn18 Ha18 Ga18 rfl W18 4 rfl (Nat.le_of_ble_eq_true rfl)
  have Z18 : n0 ≤ h18.size := Nat.le_trans Z16 (Nat.le_of_eq W18.size.symm)
  have N18 := Fr.snoc X18 N16 gb_b13
  have K18 : Keep h0 h18 [a, ch, ea] := K16.wr W18 (Or.inr sz_b13)
  have f21 := (((hFs.ext E13).other W16 (Or.inl hn1)).other W18 (Or.inl ne_a_b13))
  obtain ⟨T22, X22, e22, st22⟩ := getF X18 hx hZ hown (host := "") (Or.inl (hw _ (List.mem_of_getElem? (i := 42) rfl))) Via.refl e18 f21 (g := (mkF m 113 #[.val (.ref a), .val (.ref vv), .val (.int (0 : Int32)), .val (.int (4 : Int32)), .val (.ref b13)] [(.ref a), (.ref a)])) rfl rfl (hb hby d_prog_28_m_2_113)
  have f24 := (((hE.ext E13).wr W16).wr W18)
  obtain ⟨T23, h23, X23, e23, W23, st23⟩ := putF X22 hx hZ hown (host := "") (Or.inl (hw _ (List.mem_of_getElem? (i := 42) rfl))) Via.refl e22 f21 f24 (Or.inl (hw _ (List.mem_of_getElem? (i := 43) rfl))) (hw _ (List.mem_of_getElem? (i := 2) rfl)) (ty := .int) (by decide) rfl rfl (g := (mkF m 118 #[.val (.ref a), .val (.ref vv), .val (.int (0 : Int32)), .val (.int (4 : Int32)), .val (.ref b13)] [(.int ((4 : Int32) + (1 : Int32))), (.ref a)])) rfl rfl (hb hby d_prog_28_m_2_118)
  have Z23 : n0 ≤ h23.size := Nat.le_trans Z18 (Nat.le_of_eq W23.size.symm)
  have N23 := Fr.snoc X23 N18 hga
  have K23 : Keep h0 h23 [a, ch, ea] := K18.wr W23 (Or.inl (List.mem_of_getElem? (i := 0) rfl))
  have Fw23 := f21.same W23
  have f25 := ((((hFm.ext E13).other W16 (Or.inl hn1)).other W18 (Or.inl ne_a_b13)).other W23 (Or.inr (slot_ne (Or.inl (hw _ (List.mem_of_getElem? (i := 22) rfl))) (Or.inl (hw _ (List.mem_of_getElem? (i := 43) rfl))) (by decide) (t := .int) (t' := .int) (by decide) (by decide))))
  obtain ⟨T26, X26, e26, st26⟩ := getF X23 hx hZ hown (host := "") (Or.inl (hw _ (List.mem_of_getElem? (i := 45) rfl))) (Via.of (hw _ (List.mem_of_getElem? (i := 46) rfl))) e23 f25 (g := (mkF m 123 #[.val (.ref a), .val (.ref vv), .val (.int (0 : Int32)), .val (.int (4 : Int32)), .val (.ref b13)] [(.ref a), (.ref a)])) rfl rfl (hb hby d_prog_28_m_2_123)
  have f28 := (f24.wr W23)
  obtain ⟨T27, h27, X27, e27, W27, st27⟩ := putF X26 hx hZ hown (host := "") (Or.inl (hw _ (List.mem_of_getElem? (i := 45) rfl))) (Via.of (hw _ (List.mem_of_getElem? (i := 46) rfl))) e26 f25 f28 (Or.inl (hw _ (List.mem_of_getElem? (i := 22) rfl))) (hw _ (List.mem_of_getElem? (i := 2) rfl)) (ty := .int) (by decide) rfl rfl (g := (mkF m 128 #[.val (.ref a), .val (.ref vv), .val (.int (0 : Int32)), .val (.int (4 : Int32)), .val (.ref b13)] [(.int (mc + (1 : Int32))), (.ref a)])) rfl rfl (hb hby d_prog_28_m_2_128)
  have Z27 : n0 ≤ h27.size := Nat.le_trans Z23 (Nat.le_of_eq W27.size.symm)
  have N27 := Fr.snoc X27 N23 hga
  have K27 : Keep h0 h27 [a, ch, ea] := K23.wr W27 (Or.inl (List.mem_of_getElem? (i := 0) rfl))
  have Fw27 := f25.same W27
  obtain ⟨fs, hr, hrun, hended, hW, hsame⟩ := X27.leave (v := some (.int (1 : Int32))) (fun h => by rw [Bd.returns] at h; cases h)
  refine ⟨_, _, pre0 _ (R2 _ (R3 _ (R5 _ (R6 _ ?_)))), hrun, hended, _, _, rfl, ?_, ⟨_, rfl⟩, hW, hsame.mono (by decide) (by decide)⟩
  · show Steps p.tables e below (T4.setTop (mkF m 17 #[.val (.ref a), .val (.ref vv), .val (.int (0 : Int32)), .val (.int (4 : Int32)), .unset] [])) _
    refine XS.iloadN X4.here hx rfl (hb hby d_prog_28_m_2_17) rfl ?_
    show Steps p.tables e below (T4.setTop (mkF m 18 #[.val (.ref a), .val (.ref vv), .val (.int (0 : Int32)), .val (.int (4 : Int32)), .unset] [(.int (0 : Int32))])) _
    refine XS.aloadN X4.here hx rfl (hb hby d_prog_28_m_2_18) rfl rfl ?_
    show Steps p.tables e below (T4.setTop (mkF m 19 #[.val (.ref a), .val (.ref vv), .val (.int (0 : Int32)), .val (.int (4 : Int32)), .unset] [(.ref a), (.int (0 : Int32))])) _
    refine st7 _ ?_
    show Steps p.tables e below (T7.setTop (mkF m 22 #[.val (.ref a), .val (.ref vv), .val (.int (0 : Int32)), .val (.int (4 : Int32)), .unset] [(.ref ch), (.int (0 : Int32))])) _
    refine X7.arraylength hx (by rw [e7]; exact Ar8.1) (State.isArrayOf_alike hZ.alike Ar8.2.1) (g := (mkF m 22 #[.val (.ref a), .val (.ref vv), .val (.int (0 : Int32)), .val (.int (4 : Int32)), .unset] [(.ref ch), (.int (0 : Int32))])) rfl rfl (hb hby d_prog_28_m_2_22) _ ?_
    rw [len_of Sz8 Nn8]
    show Steps p.tables e below (T7.setTop (mkF m 23 #[.val (.ref a), .val (.ref vv), .val (.int (0 : Int32)), .val (.int (4 : Int32)), .unset] [(.int (1 : Int32)), (.int (0 : Int32))])) _
    refine XS.icmpYes X7.here hx rfl (pc0 := 23) (pc' := 43) rfl (hb hby d_prog_28_m_2_23) rfl (feq (by decide : ¬ ((0 : Int32) = (1 : Int32)))).2 (by decide) (by decide) ?_
    show Steps p.tables e below (T7.setTop (mkF m 43 #[.val (.ref a), .val (.ref vv), .val (.int (0 : Int32)), .val (.int (4 : Int32)), .unset] [])) _
    refine XS.aloadN X7.here hx rfl (hb hby d_prog_28_m_2_43) rfl rfl ?_
    show Steps p.tables e below (T7.setTop (mkF m 44 #[.val (.ref a), .val (.ref vv), .val (.int (0 : Int32)), .val (.int (4 : Int32)), .unset] [(.ref a)])) _
    refine st9 _ ?_
    show Steps p.tables e below (T9.setTop (mkF m 47 #[.val (.ref a), .val (.ref vv), .val (.int (0 : Int32)), .val (.int (4 : Int32)), .unset] [(.ref ch)])) _
    refine XS.iloadN X9.here hx rfl (hb hby d_prog_28_m_2_47) rfl ?_
    show Steps p.tables e below (T9.setTop (mkF m 48 #[.val (.ref a), .val (.ref vv), .val (.int (0 : Int32)), .val (.int (4 : Int32)), .unset] [(.int (0 : Int32)), (.ref ch)])) _
    refine X9.aaload hx (j := (0 : Int32)) (v := (.ref ea)) (by rw [e9]; exact Ar10.1) (State.isArrayOf_alike hZ.alike Ar10.2.1) rfl Ar10.2.2 hin10 hat10 (g := (mkF m 48 #[.val (.ref a), .val (.ref vv), .val (.int (0 : Int32)), .val (.int (4 : Int32)), .unset] [(.int (0 : Int32)), (.ref ch)])) rfl rfl (hb hby d_prog_28_m_2_48) _ ?_
    show Steps p.tables e below (T9.setTop (mkF m 49 #[.val (.ref a), .val (.ref vv), .val (.int (0 : Int32)), .val (.int (4 : Int32)), .unset] [(.ref ea)])) _
    refine XS.astore X9.here hx rfl (hb hby d_prog_28_m_2_49) rfl rfl (l' := #[.val (.ref a), .val (.ref vv), .val (.int (0 : Int32)), .val (.int (4 : Int32)), .val (.ref ea)]) rfl ?_
    show Steps p.tables e below (T9.setTop (mkF m 51 #[.val (.ref a), .val (.ref vv), .val (.int (0 : Int32)), .val (.int (4 : Int32)), .val (.ref ea)] [])) _
    refine XS.aload X9.here hx rfl (hb hby d_prog_28_m_2_51) rfl rfl ?_
    show Steps p.tables e below (T9.setTop (mkF m 53 #[.val (.ref a), .val (.ref vv), .val (.int (0 : Int32)), .val (.int (4 : Int32)), .val (.ref ea)] [(.ref ea)])) _
    refine XS.ifnonnullYes X9.here hx rfl (pc0 := 53) (pc' := 75) rfl (hb hby d_prog_28_m_2_53) rfl (by decide) (by decide) ?_
    show Steps p.tables e below (T9.setTop (mkF m 75 #[.val (.ref a), .val (.ref vv), .val (.int (0 : Int32)), .val (.int (4 : Int32)), .val (.ref ea)] [])) _
    refine XS.iloadN X9.here hx rfl (hb hby d_prog_28_m_2_75) rfl ?_
    show Steps p.tables e below (T9.setTop (mkF m 76 #[.val (.ref a), .val (.ref vv), .val (.int (0 : Int32)), .val (.int (4 : Int32)), .val (.ref ea)] [(.int (4 : Int32))])) _
    refine XS.aload X9.here hx rfl (hb hby d_prog_28_m_2_76) rfl rfl ?_
    show Steps p.tables e below (T9.setTop (mkF m 78 #[.val (.ref a), .val (.ref vv), .val (.int (0 : Int32)), .val (.int (4 : Int32)), .val (.ref ea)] [(.ref ea), (.int (4 : Int32))])) _
    refine X9.arraylength hx (by rw [e9]; exact Ar11.1) (State.isArrayOf_alike hZ.alike Ar11.2.1) (g := (mkF m 78 #[.val (.ref a), .val (.ref vv), .val (.int (0 : Int32)), .val (.int (4 : Int32)), .val (.ref ea)] [(.ref ea), (.int (4 : Int32))])) rfl rfl (hb hby d_prog_28_m_2_78) _ ?_
    rw [len_of Sz11 Nn11]
    show Steps p.tables e below (T9.setTop (mkF m 79 #[.val (.ref a), .val (.ref vv), .val (.int (0 : Int32)), .val (.int (4 : Int32)), .val (.ref ea)] [(.int (4 : Int32)), (.int (4 : Int32))])) _
    refine XS.icmpNo X9.here hx rfl (hb hby d_prog_28_m_2_79) rfl (teq (by decide : (4 : Int32) = (4 : Int32))).2 ?_
    show Steps p.tables e below (T9.setTop (mkF m 82 #[.val (.ref a), .val (.ref vv), .val (.int (0 : Int32)), .val (.int (4 : Int32)), .val (.ref ea)] [])) _
    refine XS.aload X9.here hx rfl (hb hby d_prog_28_m_2_82) rfl rfl ?_
    show Steps p.tables e below (T9.setTop (mkF m 84 #[.val (.ref a), .val (.ref vv), .val (.int (0 : Int32)), .val (.int (4 : Int32)), .val (.ref ea)] [(.ref ea)])) _
    refine XS.iconst X9.here hx rfl (hb hby d_prog_28_m_2_84) ?_
    show Steps p.tables e below (T9.setTop (mkF m 85 #[.val (.ref a), .val (.ref vv), .val (.int (0 : Int32)), .val (.int (4 : Int32)), .val (.ref ea)] [(.int (2 : Int32)), (.ref ea)])) _
    refine XS.iloadN X9.here hx rfl (hb hby d_prog_28_m_2_85) rfl ?_
    show Steps p.tables e below (T9.setTop (mkF m 86 #[.val (.ref a), .val (.ref vv), .val (.int (0 : Int32)), .val (.int (4 : Int32)), .val (.ref ea)] [(.int (4 : Int32)), (.int (2 : Int32)), (.ref ea)])) _
    refine XS.imul X9.here hx rfl (hb hby d_prog_28_m_2_86) rfl ?_
    show Steps p.tables e below (T9.setTop (mkF m 87 #[.val (.ref a), .val (.ref vv), .val (.int (0 : Int32)), .val (.int (4 : Int32)), .val (.ref ea)] [(.int ((2 : Int32) * (4 : Int32))), (.ref ea)])) _
    refine XS.sipush X9.here hx rfl (hb hby d_prog_28_m_2_87) ?_
    show Steps p.tables e below (T9.setTop (mkF m 90 #[.val (.ref a), .val (.ref vv), .val (.int (0 : Int32)), .val (.int (4 : Int32)), .val (.ref ea)] [(.int (4096 : Int32)), (.int ((2 : Int32) * (4 : Int32))), (.ref ea)])) _
    refine st12 _ ?_
    show Steps p.tables e below (T12.setTop (mkF m 93 #[.val (.ref a), .val (.ref vv), .val (.int (0 : Int32)), .val (.int (4 : Int32)), .val (.ref ea)] [(.int (8 : Int32)), (.ref ea)])) _
    refine st13 _ ?_
    show Steps p.tables e below (T13.setTop (mkF m 96 #[.val (.ref a), .val (.ref vv), .val (.int (0 : Int32)), .val (.int (4 : Int32)), .val (.ref ea)] [(.ref b13)])) _
    refine XS.astore X13.here hx rfl (hb hby d_prog_28_m_2_96) rfl rfl (l' := #[.val (.ref a), .val (.ref vv), .val (.int (0 : Int32)), .val (.int (4 : Int32)), .val (.ref b13)]) rfl ?_
    show Steps p.tables e below (T13.setTop (mkF m 98 #[.val (.ref a), .val (.ref vv), .val (.int (0 : Int32)), .val (.int (4 : Int32)), .val (.ref b13)] [])) _
    refine XS.aloadN X13.here hx rfl (hb hby d_prog_28_m_2_98) rfl rfl ?_
    show Steps p.tables e below (T13.setTop (mkF m 99 #[.val (.ref a), .val (.ref vv), .val (.int (0 : Int32)), .val (.int (4 : Int32)), .val (.ref b13)] [(.ref a)])) _
    refine st15 _ ?_
    show Steps p.tables e below (T15.setTop (mkF m 102 #[.val (.ref a), .val (.ref vv), .val (.int (0 : Int32)), .val (.int (4 : Int32)), .val (.ref b13)] [(.ref ch)])) _
    refine XS.iloadN X15.here hx rfl (hb hby d_prog_28_m_2_102) rfl ?_
    show Steps p.tables e below (T15.setTop (mkF m 103 #[.val (.ref a), .val (.ref vv), .val (.int (0 : Int32)), .val (.int (4 : Int32)), .val (.ref b13)] [(.int (0 : Int32)), (.ref ch)])) _
    refine XS.aload X15.here hx rfl (hb hby d_prog_28_m_2_103) rfl rfl ?_
    show Steps p.tables e below (T15.setTop (mkF m 105 #[.val (.ref a), .val (.ref vv), .val (.int (0 : Int32)), .val (.int (4 : Int32)), .val (.ref b13)] [(.ref b13), (.int (0 : Int32)), (.ref ch)])) _
    refine st16 _ ?_
    show Steps p.tables e below (T16.setTop (mkF m 106 #[.val (.ref a), .val (.ref vv), .val (.int (0 : Int32)), .val (.int (4 : Int32)), .val (.ref b13)] [])) _
    refine XS.aload X16.here hx rfl (hb hby d_prog_28_m_2_106) rfl rfl ?_
    show Steps p.tables e below (T16.setTop (mkF m 108 #[.val (.ref a), .val (.ref vv), .val (.int (0 : Int32)), .val (.int (4 : Int32)), .val (.ref b13)] [(.ref b13)])) _
    refine XS.iloadN X16.here hx rfl (hb hby d_prog_28_m_2_108) rfl ?_
    show Steps p.tables e below (T16.setTop (mkF m 109 #[.val (.ref a), .val (.ref vv), .val (.int (0 : Int32)), .val (.int (4 : Int32)), .val (.ref b13)] [(.int (4 : Int32)), (.ref b13)])) _
    refine XS.aloadN X16.here hx rfl (hb hby d_prog_28_m_2_109) rfl rfl ?_
    show Steps p.tables e below (T16.setTop (mkF m 110 #[.val (.ref a), .val (.ref vv), .val (.int (0 : Int32)), .val (.int (4 : Int32)), .val (.ref b13)] [(.ref vv), (.int (4 : Int32)), (.ref b13)])) _
    refine st18 _ ?_
    show Steps p.tables e below (T18.setTop (mkF m 111 #[.val (.ref a), .val (.ref vv), .val (.int (0 : Int32)), .val (.int (4 : Int32)), .val (.ref b13)] [])) _
    refine XS.aloadN X18.here hx rfl (hb hby d_prog_28_m_2_111) rfl rfl ?_
    show Steps p.tables e below (T18.setTop (mkF m 112 #[.val (.ref a), .val (.ref vv), .val (.int (0 : Int32)), .val (.int (4 : Int32)), .val (.ref b13)] [(.ref a)])) _
    refine XS.dup X18.here hx rfl (hb hby d_prog_28_m_2_112) rfl rfl ?_
    show Steps p.tables e below (T18.setTop (mkF m 113 #[.val (.ref a), .val (.ref vv), .val (.int (0 : Int32)), .val (.int (4 : Int32)), .val (.ref b13)] [(.ref a), (.ref a)])) _
    refine st22 _ ?_
    show Steps p.tables e below (T22.setTop (mkF m 116 #[.val (.ref a), .val (.ref vv), .val (.int (0 : Int32)), .val (.int (4 : Int32)), .val (.ref b13)] [(.int (4 : Int32)), (.ref a)])) _
    refine XS.iconst X22.here hx rfl (hb hby d_prog_28_m_2_116) ?_
    show Steps p.tables e below (T22.setTop (mkF m 117 #[.val (.ref a), .val (.ref vv), .val (.int (0 : Int32)), .val (.int (4 : Int32)), .val (.ref b13)] [(.int (1 : Int32)), (.int (4 : Int32)), (.ref a)])) _
    refine XS.iadd X22.here hx rfl (hb hby d_prog_28_m_2_117) rfl ?_
    show Steps p.tables e below (T22.setTop (mkF m 118 #[.val (.ref a), .val (.ref vv), .val (.int (0 : Int32)), .val (.int (4 : Int32)), .val (.ref b13)] [(.int ((4 : Int32) + (1 : Int32))), (.ref a)])) _
    refine st23 _ ?_
    show Steps p.tables e below (T23.setTop (mkF m 121 #[.val (.ref a), .val (.ref vv), .val (.int (0 : Int32)), .val (.int (4 : Int32)), .val (.ref b13)] [])) _
    refine XS.aloadN X23.here hx rfl (hb hby d_prog_28_m_2_121) rfl rfl ?_
    show Steps p.tables e below (T23.setTop (mkF m 122 #[.val (.ref a), .val (.ref vv), .val (.int (0 : Int32)), .val (.int (4 : Int32)), .val (.ref b13)] [(.ref a)])) _
    refine XS.dup X23.here hx rfl (hb hby d_prog_28_m_2_122) rfl rfl ?_
    show Steps p.tables e below (T23.setTop (mkF m 123 #[.val (.ref a), .val (.ref vv), .val (.int (0 : Int32)), .val (.int (4 : Int32)), .val (.ref b13)] [(.ref a), (.ref a)])) _
    refine st26 _ ?_
    show Steps p.tables e below (T26.setTop (mkF m 126 #[.val (.ref a), .val (.ref vv), .val (.int (0 : Int32)), .val (.int (4 : Int32)), .val (.ref b13)] [(.int mc), (.ref a)])) _
    refine XS.iconst X26.here hx rfl (hb hby d_prog_28_m_2_126) ?_
    show Steps p.tables e below (T26.setTop (mkF m 127 #[.val (.ref a), .val (.ref vv), .val (.int (0 : Int32)), .val (.int (4 : Int32)), .val (.ref b13)] [(.int (1 : Int32)), (.int mc), (.ref a)])) _
    refine XS.iadd X26.here hx rfl (hb hby d_prog_28_m_2_127) rfl ?_
    show Steps p.tables e below (T26.setTop (mkF m 128 #[.val (.ref a), .val (.ref vv), .val (.int (0 : Int32)), .val (.int (4 : Int32)), .val (.ref b13)] [(.int (mc + (1 : Int32))), (.ref a)])) _
    refine st27 _ ?_
    show Steps p.tables e below (T27.setTop (mkF m 131 #[.val (.ref a), .val (.ref vv), .val (.int (0 : Int32)), .val (.int (4 : Int32)), .val (.ref b13)] [])) _
    refine XS.iconst X27.here hx rfl (hb hby d_prog_28_m_2_131) ?_
    show Steps p.tables e below (T27.setTop (mkF m 132 #[.val (.ref a), .val (.ref vv), .val (.int (0 : Int32)), .val (.int (4 : Int32)), .val (.ref b13)] [(.int (1 : Int32))])) _
    exact retN X27 hx (t := .boolean) Bd.returns (by simp) (hb hby d_prog_28_m_2_132) hr
  · show QGr Z a ch ea kc [.ref xe0, .ref xe1, .ref xe2, .ref xe3, .ref vv, .null, .null, .null] h0 n0 _ T27.heap _
    rw [e27]
    have f29 := (f28.wr W27)
    have f30 := (Fw23.other W27 (Or.inr (slot_ne (Or.inl (hw _ (List.mem_of_getElem? (i := 43) rfl))) (Or.inl (hw _ (List.mem_of_getElem? (i := 22) rfl))) (by decide) (t := .int) (t' := .int) (by decide) (by decide))))
    have f31 := ((((f14.other W16 (Or.inl hn1)).other W18 (Or.inl ne_a_b13)).other W23 (Or.inr (slot_ne (Or.inl (hw _ (List.mem_of_getElem? (i := 29) rfl))) (Or.inl (hw _ (List.mem_of_getElem? (i := 43) rfl))) (by decide) (t := (.array (.array (.object "java/lang/Object")))) (t' := .int) (by decide) (by decide)))).other W27 (Or.inr (slot_ne (Or.inl (hw _ (List.mem_of_getElem? (i := 29) rfl))) (Or.inl (hw _ (List.mem_of_getElem? (i := 22) rfl))) (by decide) (t := (.array (.array (.object "java/lang/Object")))) (t' := .int) (by decide) (by decide))))
    have f32 := (((V16.other W18 ne_ch_b13).other W23 (Ne.symm hn1)).other W27 (Ne.symm hn1))
    have f33 := ((V18.other W23 (Ne.symm ne_a_b13)).other W27 (Ne.symm ne_a_b13))
    have f34 := ((((EX13.wr W16).wr W18).wr W23).wr W27)
    exact ⟨rfl, N27, K27, b13, _, _, ⟨f29, f30, f31, Fw27, f32, f33, f34, O13, hOA, hga, hgc, gb_b13, hn1, ne_a_b13, ne_ch_b13⟩⟩
theorem ef_rmCk (m : MethodId) (x0 : Int32) (x1 : Int32) : entryFrame m #[(.int x0), (.int x1), .null] 3 = mkF m 0 #[.val (.int x0), .val (.int x1), .val .null] [] := by first | (simp [entryFrame, mkF, argsToLocals, Value.category]; done) | rfl
set_option maxRecDepth 65536 in
set_option maxHeartbeats 40000000 in
theorem rmCk (l : Launch) (Z : State) (a0 : Array Value) (hw : ∀ d ∈ tables_1, d.before a0 Z = true) (ws : List Jvm.Cond) (i n : Int32) (h0 : Heap) (n0 : Nat) (Z0 : n0 ≤ h0.size) (h1 : ¬ i < (0 : Int32)) (h2 : i < n) :
    MetFree l (⟨"jdk/internal/util/Preconditions", "checkIndex", "(IILjava/util/function/BiFunction;)I"⟩ : MethodName) (head1 (Jvm.Cond.code (⟨"jdk/internal/util/Preconditions", "checkIndex", "(IILjava/util/function/BiFunction;)I"⟩ : MethodName) jdk_41_method_11_code 3 (some .int) :: ws) ({ frames := 0, cells := 0, slots := 0, locals := 0 } : Room)) (fun aa_ UU_ => aa_ = #[(.int i), (.int n), .null] ∧ Z.Warmed39 UU_.vm ∧ UU_.heap = h0) (fun _ _ _ _ _ => True) (fun _ UU_ oo_ UE_ => ∃ vv_ LL_, oo_ = .returned vv_ ∧ QV (some (.int i)) h0 n0 vv_ UE_.heap LL_ ∧ FrameEnd UU_ oo_ UE_ LL_ ({ frames := 0, cells := 0, slots := 0, locals := 0 } : Room).cells ({ frames := 0, cells := 0, slots := 0, locals := 0 } : Room).slots) := by
  refine MetFree.of_bodySF (plainFor_of_name pn_5) hisR ?_
  intro p e s m args below meth c s₁ Bd hml0 hP hK
  obtain ⟨rfl, hZ, hh⟩ := hP
  have hx := Bd.exec
  have hby := Bd.bytes
  have hml : c.maxLocals = 3 := hml0
  have hown : s.vm.findClass "jdk/internal/util/Preconditions" = some m.cls := findClass_of_methodNamed Bd.named
  have hnm := (name_of_methodNamed Bd.named Bd.method).1
  have X0 : Stand p l e ({ frames := 0, cells := 0, slots := 0, locals := 0 } : Room) s m #[(.int i), (.int n), .null] below meth c s₁ [] 0 0 := Stand.of_body Bd
  have e0 : s₁.heap = h0 := by rw [← hh, Bd.state]; rfl
  have N0 := Fr.nil n0
  have pre0 : ∀ tg, Steps p.tables e below (s₁.setTop (mkF m 0 #[.val (.int i), .val (.int n), .val .null] [])) tg → Steps p.tables e below (s₁.setTop (entryFrame m #[(.int i), (.int n), .null] 3)) tg := fun tg kq_ => castTop (ef_rmCk m i n) kq_
  obtain ⟨fs, hr, hrun, hended, hW, hsame⟩ := X0.leave (v := some (.int i)) (fun h => by rw [Bd.returns] at h; cases h)
  refine ⟨_, _, pre0 _ ?_, hrun, hended, _, _, rfl, ?_, ⟨_, rfl⟩, hW, hsame.mono (by decide) (by decide)⟩
  · show Steps p.tables e below (s₁.setTop (mkF m 0 #[.val (.int i), .val (.int n), .val .null] [])) _
    refine XS.iloadN X0.here hx rfl (hb hby d_jdk_41_m_11_0) rfl ?_
    show Steps p.tables e below (s₁.setTop (mkF m 1 #[.val (.int i), .val (.int n), .val .null] [(.int i)])) _
    refine XS.ifNo X0.here hx rfl (hb hby d_jdk_41_m_11_1) rfl ((if0 _ _).trans (flt h1).1) ?_
    show Steps p.tables e below (s₁.setTop (mkF m 4 #[.val (.int i), .val (.int n), .val .null] [])) _
    refine XS.iloadN X0.here hx rfl (hb hby d_jdk_41_m_11_4) rfl ?_
    show Steps p.tables e below (s₁.setTop (mkF m 5 #[.val (.int i), .val (.int n), .val .null] [(.int i)])) _
    refine XS.iloadN X0.here hx rfl (hb hby d_jdk_41_m_11_5) rfl ?_
    show Steps p.tables e below (s₁.setTop (mkF m 6 #[.val (.int i), .val (.int n), .val .null] [(.int n), (.int i)])) _
    refine XS.icmpYes X0.here hx rfl (pc0 := 6) (pc' := 16) rfl (hb hby d_jdk_41_m_11_6) rfl (tlt h2).1 (by decide) (by decide) ?_
    show Steps p.tables e below (s₁.setTop (mkF m 16 #[.val (.int i), .val (.int n), .val .null] [])) _
    refine XS.iloadN X0.here hx rfl (hb hby d_jdk_41_m_11_16) rfl ?_
    show Steps p.tables e below (s₁.setTop (mkF m 17 #[.val (.int i), .val (.int n), .val .null] [(.int i)])) _
    exact retI X0 hx Bd.returns (hb hby d_jdk_41_m_11_17) hr
  · show QV (some (.int i)) h0 n0 _ s₁.heap _
    rw [e0]
    exact ⟨rfl, N0, rfl⟩
theorem ef_rmOk (m : MethodId) (x0 : Int32) (x1 : Int32) : entryFrame m #[(.int x0), (.int x1)] 2 = mkF m 0 #[.val (.int x0), .val (.int x1)] [] := by first | (simp [entryFrame, mkF, argsToLocals, Value.category]; done) | rfl
set_option maxRecDepth 65536 in
set_option maxHeartbeats 40000000 in
theorem rmOk (l : Launch) (Z : State) (a0 : Array Value) (hw : ∀ d ∈ tables_1, d.before a0 Z = true) (ws : List Jvm.Cond) (i n : Int32) (h0 : Heap) (n0 : Nat) (Z0 : n0 ≤ h0.size) (h1 : ¬ i < (0 : Int32)) (h2 : i < n) :
    MetFree l (⟨"java/util/Objects", "checkIndex", "(II)I"⟩ : MethodName) (head1 (Jvm.Cond.code (⟨"java/util/Objects", "checkIndex", "(II)I"⟩ : MethodName) jdk_31_method_17_code 2 (some .int) :: ws) ({ frames := 1, cells := 0, slots := 0, locals := 14 } : Room)) (fun aa_ UU_ => aa_ = #[(.int i), (.int n)] ∧ Z.Warmed39 UU_.vm ∧ UU_.heap = h0) (fun _ _ _ _ _ => True) (fun _ UU_ oo_ UE_ => ∃ vv_ LL_, oo_ = .returned vv_ ∧ QV (some (.int i)) h0 n0 vv_ UE_.heap LL_ ∧ FrameEnd UU_ oo_ UE_ LL_ ({ frames := 1, cells := 0, slots := 0, locals := 14 } : Room).cells ({ frames := 1, cells := 0, slots := 0, locals := 14 } : Room).slots) := by
  refine MetFree.of_bodySF (plainFor_of_name pn_6) hisR ?_
  intro p e s m args below meth c s₁ Bd hml0 hP hK
  obtain ⟨rfl, hZ, hh⟩ := hP
  have hx := Bd.exec
  have hby := Bd.bytes
  have hml : c.maxLocals = 2 := hml0
  have hown : s.vm.findClass "java/util/Objects" = some m.cls := findClass_of_methodNamed Bd.named
  have hnm := (name_of_methodNamed Bd.named Bd.method).1
  have X0 : Stand p l e ({ frames := 1, cells := 0, slots := 0, locals := 14 } : Room) s m #[(.int i), (.int n)] below meth c s₁ [] 0 0 := Stand.of_body Bd
  have e0 : s₁.heap = h0 := by rw [← hh, Bd.state]; rfl
  have N0 := Fr.nil n0
  have pre0 : ∀ tg, Steps p.tables e below (s₁.setTop (mkF m 0 #[.val (.int i), .val (.int n)] [])) tg → Steps p.tables e below (s₁.setTop (entryFrame m #[(.int i), (.int n)] 2)) tg := fun tg kq_ => castTop (ef_rmOk m i n) kq_
  obtain ⟨_, _, ⟨T1, L1, k1, n1⟩, -, X1, ⟨Lc1, hQ1, l1, y1, z1⟩, st1⟩ := Jvm.LawKit.callS X0 hx (y := (⟨"jdk/internal/util/Preconditions", "checkIndex", "(IILjava/util/function/BiFunction;)I"⟩ : MethodName)) hown (mvT hZ (hw _ (List.mem_of_getElem? (i := 56) rfl))) (mvT hZ (hw _ (List.mem_of_getElem? (i := 57) rfl))) (mvT hZ (hw _ (List.mem_of_getElem? (i := 58) rfl))) (mvT hZ (hw _ (List.mem_of_getElem? (i := 59) rfl))) (by decide) (backOf (W := 0) (rmCk l Z a0 hw [] i n h0 n0 Z0 h1 h2) hZ (hw _ (List.mem_of_getElem? (i := 59) rfl)) (hw _ (List.mem_of_getElem? (i := 58) rfl)) (by decide) (by decide)) (g := (mkF m 3 #[.val (.int i), .val (.int n)] [.null, (.int n), (.int i)])) rfl (by rw [hml]; rfl) (argsL := [(.int i), (.int n), .null]) (rest := []) (lenOf pd_3 rfl) rfl (by show 2 * 0 + _ ≤ _; exact Nat.le_of_eq rfl) (hb hby d_jdk_31_m_17_3) (fun _ _ => ⟨rfl, e0, (by decide : 0 + 0 ≤ _), (by decide : 0 + 0 ≤ _)⟩)
  dsimp only [Pt.U, Pt.locs, Pt.cells, Pt.slots] at X1 l1 y1 z1 st1 hQ1
  subst l1 y1 z1
  obtain ⟨hv1, N1q, r1⟩ := hQ1
  subst hv1
  have N1 := Fr.app N0 N1q
  obtain ⟨fs, hr, hrun, hended, hW, hsame⟩ := X1.leave (v := some (.int i)) (fun h => by rw [Bd.returns] at h; cases h)
  refine ⟨_, _, pre0 _ ?_, hrun, hended, _, _, rfl, ?_, ⟨_, rfl⟩, hW, hsame.mono (by decide) (by decide)⟩
  · show Steps p.tables e below (s₁.setTop (mkF m 0 #[.val (.int i), .val (.int n)] [])) _
    refine XS.iloadN X0.here hx rfl (hb hby d_jdk_31_m_17_0) rfl ?_
    show Steps p.tables e below (s₁.setTop (mkF m 1 #[.val (.int i), .val (.int n)] [(.int i)])) _
    refine XS.iloadN X0.here hx rfl (hb hby d_jdk_31_m_17_1) rfl ?_
    show Steps p.tables e below (s₁.setTop (mkF m 2 #[.val (.int i), .val (.int n)] [(.int n), (.int i)])) _
    refine XS.aconstNull X0.here hx rfl (hb hby d_jdk_31_m_17_2) ?_
    show Steps p.tables e below (s₁.setTop (mkF m 3 #[.val (.int i), .val (.int n)] [.null, (.int n), (.int i)])) _
    refine st1 _ ?_
    show Steps p.tables e below (T1.setTop (mkF m 6 #[.val (.int i), .val (.int n)] [(.int i)])) _
    exact retI X1 hx Bd.returns (hb hby d_jdk_31_m_17_6) hr
  · show QV (some (.int i)) h0 n0 _ T1.heap _
    rw [r1]
    exact ⟨rfl, N1, rfl⟩
theorem ef_rmGt (m : MethodId) (x0 : Addr) (x1 : Int32) : entryFrame m #[(.ref x0), (.int x1)] 3 = mkF m 0 #[.val (.ref x0), .val (.int x1), .unset] [] := by first | (simp [entryFrame, mkF, argsToLocals, Value.category]; done) | rfl
set_option maxRecDepth 65536 in
set_option maxHeartbeats 40000000 in
theorem rmGt (l : Launch) (Z : State) (a0 : Array Value) (hw : ∀ d ∈ tables_1, d.before a0 Z = true) (ws : List Jvm.Cond) (a ch ea : Addr) (kc ke : ClassId) (n mc cap : Int32) (vs : List Value) (i : Int32) (b : Addr) (h0 : Heap) (n0 : Nat) (Z0 : n0 ≤ h0.size) (hC : CLs Z n0 h0 a ch ea kc ke n mc cap vs) (h1 : ¬ i < (0 : Int32)) (h2 : i < n) (hs1 : ((i.toUInt32 >>> ((12 : Int32) &&& 31).toUInt32).toInt32) = (0 : Int32)) (hs2 : (i &&& (4095 : Int32)) = i) (hlo : ¬ i < 0 ∧ i < cap) (hb1 : vs.getD i.toNatClampNeg .null = .ref b) :
    MetFree l (⟨"com/example/anchored_threads/anchoredthreads/internal/ChunkedList", "get", "(I)Ljava/lang/Object;"⟩ : MethodName) (head1 (Jvm.Cond.code (⟨"com/example/anchored_threads/anchoredthreads/internal/ChunkedList", "get", "(I)Ljava/lang/Object;"⟩ : MethodName) prog_28_method_4_code 3 (some (.object "java/lang/Object")) :: ws) ({ frames := 2, cells := 0, slots := 0, locals := 27 } : Room)) (fun aa_ UU_ => aa_ = #[(.ref a), (.int i)] ∧ Z.Warmed39 UU_.vm ∧ UU_.heap = h0) (fun _ _ _ _ _ => True) (fun _ UU_ oo_ UE_ => ∃ vv_ LL_, oo_ = .returned vv_ ∧ QV (some (.ref b)) h0 n0 vv_ UE_.heap LL_ ∧ FrameEnd UU_ oo_ UE_ LL_ ({ frames := 2, cells := 0, slots := 0, locals := 27 } : Room).cells ({ frames := 2, cells := 0, slots := 0, locals := 27 } : Room).slots) := by
  refine MetFree.of_bodySF (plainFor_of_name pn_2) hisR ?_
  intro p e s m args below meth c s₁ Bd hml0 hP hK
  obtain ⟨rfl, hZ, hh⟩ := hP
  have hx := Bd.exec
  have hby := Bd.bytes
  have hml : c.maxLocals = 3 := hml0
  have hown : s.vm.findClass "com/example/anchored_threads/anchoredthreads/internal/ChunkedList" = some m.cls := findClass_of_methodNamed Bd.named
  have hnm := (name_of_methodNamed Bd.named Bd.method).1
  have X0 : Stand p l e ({ frames := 2, cells := 0, slots := 0, locals := 27 } : Room) s m #[(.ref a), (.int i)] below meth c s₁ [] 0 0 := Stand.of_body Bd
  have e0 : s₁.heap = h0 := by rw [← hh, Bd.state]; rfl
  have N0 := Fr.nil n0
  have pre0 : ∀ tg, Steps p.tables e below (s₁.setTop (mkF m 0 #[.val (.ref a), .val (.int i), .unset] [])) tg → Steps p.tables e below (s₁.setTop (entryFrame m #[(.ref a), (.int i)] 3)) tg := fun tg kq_ => castTop (ef_rmGt m a i) kq_
  obtain ⟨hE, hFs, hFc, hFm, hVc, hVe, hXe, hO, hOA, hga, hgc, hge, hn1, hn2, hn3⟩ := hC
  obtain ⟨T1, X1, e1, st1⟩ := getF X0 hx hZ hown (host := "") (Or.inl (hw _ (List.mem_of_getElem? (i := 42) rfl))) Via.refl e0 hFs (g := (mkF m 2 #[.val (.ref a), .val (.int i), .unset] [(.ref a), (.int i)])) rfl rfl (hb hby d_prog_28_m_4_2)
  obtain ⟨_, _, ⟨T2, L2, k2, n2⟩, -, X2, ⟨Lc2, hQ2, l2, y2, z2⟩, st2⟩ := Jvm.LawKit.callS X1 hx (y := (⟨"java/util/Objects", "checkIndex", "(II)I"⟩ : MethodName)) hown (mvT hZ (hw _ (List.mem_of_getElem? (i := 52) rfl))) (mvT hZ (hw _ (List.mem_of_getElem? (i := 53) rfl))) (mvT hZ (hw _ (List.mem_of_getElem? (i := 54) rfl))) (mvT hZ (hw _ (List.mem_of_getElem? (i := 55) rfl))) (by decide) (backOf (W := 0) (rmOk l Z a0 hw [] i n h0 n0 Z0 h1 h2) hZ (hw _ (List.mem_of_getElem? (i := 55) rfl)) (hw _ (List.mem_of_getElem? (i := 54) rfl)) (by decide) (by decide)) (g := (mkF m 5 #[.val (.ref a), .val (.int i), .unset] [(.int n), (.int i)])) rfl (by rw [hml]; rfl) (argsL := [(.int i), (.int n)]) (rest := []) (lenOf pd_2 rfl) rfl (by show 2 * 0 + _ ≤ _; exact Nat.le_of_eq rfl) (hb hby d_prog_28_m_4_5) (fun _ _ => ⟨rfl, e1, (by decide : 0 + 0 ≤ _), (by decide : 0 + 0 ≤ _)⟩)
  dsimp only [Pt.U, Pt.locs, Pt.cells, Pt.slots] at X2 l2 y2 z2 st2 hQ2
  subst l2 y2 z2
  obtain ⟨hv2, N2q, r2⟩ := hQ2
  subst hv2
  have N2 := Fr.app N0 N2q
  obtain ⟨T3, X3, e3, st3⟩ := getF X2 hx hZ hown (host := "") (Or.inl (hw _ (List.mem_of_getElem? (i := 28) rfl))) Via.refl r2 hFc (g := (mkF m 10 #[.val (.ref a), .val (.int i), .unset] [(.ref a)])) rfl rfl (hb hby d_prog_28_m_4_10)
  have R4 : ∀ tg, Steps p.tables e below (T3.setTop (mkF m 17 #[.val (.ref a), .val (.int i), .unset] [(.int ((i.toUInt32 >>> ((12 : Int32) &&& 31).toUInt32).toInt32)), (.ref ch)])) tg → Steps p.tables e below (s₁.setTop (mkF m 0 #[.val (.ref a), .val (.int i), .unset] [])) tg := by
    intro tg kt
    refine XS.iloadN X0.here hx rfl (hb hby d_prog_28_m_4_0) rfl ?_
    show Steps p.tables e below (s₁.setTop (mkF m 1 #[.val (.ref a), .val (.int i), .unset] [(.int i)])) _
    refine XS.aloadN X0.here hx rfl (hb hby d_prog_28_m_4_1) rfl rfl ?_
    show Steps p.tables e below (s₁.setTop (mkF m 2 #[.val (.ref a), .val (.int i), .unset] [(.ref a), (.int i)])) _
    refine st1 _ ?_
    show Steps p.tables e below (T1.setTop (mkF m 5 #[.val (.ref a), .val (.int i), .unset] [(.int n), (.int i)])) _
    refine st2 _ ?_
    show Steps p.tables e below (T2.setTop (mkF m 8 #[.val (.ref a), .val (.int i), .unset] [(.int i)])) _
    refine XS.pop X2.here hx rfl (hb hby d_prog_28_m_4_8) rfl rfl ?_
    show Steps p.tables e below (T2.setTop (mkF m 9 #[.val (.ref a), .val (.int i), .unset] [])) _
    refine XS.aloadN X2.here hx rfl (hb hby d_prog_28_m_4_9) rfl rfl ?_
    show Steps p.tables e below (T2.setTop (mkF m 10 #[.val (.ref a), .val (.int i), .unset] [(.ref a)])) _
    refine st3 _ ?_
    show Steps p.tables e below (T3.setTop (mkF m 13 #[.val (.ref a), .val (.int i), .unset] [(.ref ch)])) _
    refine XS.iloadN X3.here hx rfl (hb hby d_prog_28_m_4_13) rfl ?_
    show Steps p.tables e below (T3.setTop (mkF m 14 #[.val (.ref a), .val (.int i), .unset] [(.int i), (.ref ch)])) _
    refine XS.bipush X3.here hx rfl (hb hby d_prog_28_m_4_14) ?_
    show Steps p.tables e below (T3.setTop (mkF m 16 #[.val (.ref a), .val (.int i), .unset] [(.int (12 : Int32)), (.int i), (.ref ch)])) _
    refine XS.iushr X3.here hx rfl (hb hby d_prog_28_m_4_16) rfl ?_
    show Steps p.tables e below (T3.setTop (mkF m 17 #[.val (.ref a), .val (.int i), .unset] [(.int ((i.toUInt32 >>> ((12 : Int32) &&& 31).toUInt32).toInt32)), (.ref ch)])) _
    exact kt
  have R5 : ∀ tg, Steps p.tables e below (T3.setTop (mkF m 17 #[.val (.ref a), .val (.int i), .unset] [(.int (0 : Int32)), (.ref ch)])) tg → Steps p.tables e below (T3.setTop (mkF m 17 #[.val (.ref a), .val (.int i), .unset] [(.int ((i.toUInt32 >>> ((12 : Int32) &&& 31).toUInt32).toInt32)), (.ref ch)])) tg := fun tg kt => by rw [hs1]; exact kt
  obtain ⟨cl6, Ar6, q6, Sz6, Nn6, Ha6, Ga6⟩ := id hVc
  have hin6 : ¬ ((0 : Int32) < 0 ∨ cl6.slots.size ≤ ((0 : Int32)).toNatClampNeg) := inb_of Sz6 ⟨by decide, by decide⟩
  have hat6 : cl6.slots[((0 : Int32)).toNatClampNeg]? = some (.ref ea) := Ha6.at hin6 rfl
  have R7 : ∀ tg, Steps p.tables e below (T3.setTop (mkF m 23 #[.val (.ref a), .val (.int i), .unset] [(.int (i &&& (4095 : Int32))), (.ref ea)])) tg → Steps p.tables e below (T3.setTop (mkF m 17 #[.val (.ref a), .val (.int i), .unset] [(.int (0 : Int32)), (.ref ch)])) tg := by
    intro tg kt
    refine X3.aaload hx (j := (0 : Int32)) (v := (.ref ea)) (by rw [e3]; exact Ar6.1) (State.isArrayOf_alike hZ.alike Ar6.2.1) rfl Ar6.2.2 hin6 hat6 (g := (mkF m 17 #[.val (.ref a), .val (.int i), .unset] [(.int (0 : Int32)), (.ref ch)])) rfl rfl (hb hby d_prog_28_m_4_17) _ ?_
    show Steps p.tables e below (T3.setTop (mkF m 18 #[.val (.ref a), .val (.int i), .unset] [(.ref ea)])) _
    refine XS.iloadN X3.here hx rfl (hb hby d_prog_28_m_4_18) rfl ?_
    show Steps p.tables e below (T3.setTop (mkF m 19 #[.val (.ref a), .val (.int i), .unset] [(.int i), (.ref ea)])) _
    refine XS.sipush X3.here hx rfl (hb hby d_prog_28_m_4_19) ?_
    show Steps p.tables e below (T3.setTop (mkF m 22 #[.val (.ref a), .val (.int i), .unset] [(.int (4095 : Int32)), (.int i), (.ref ea)])) _
    refine XS.iand X3.here hx rfl (hb hby d_prog_28_m_4_22) rfl ?_
    show Steps p.tables e below (T3.setTop (mkF m 23 #[.val (.ref a), .val (.int i), .unset] [(.int (i &&& (4095 : Int32))), (.ref ea)])) _
    exact kt
  have R8 : ∀ tg, Steps p.tables e below (T3.setTop (mkF m 23 #[.val (.ref a), .val (.int i), .unset] [(.int i), (.ref ea)])) tg → Steps p.tables e below (T3.setTop (mkF m 23 #[.val (.ref a), .val (.int i), .unset] [(.int (i &&& (4095 : Int32))), (.ref ea)])) tg := fun tg kt => by rw [hs2]; exact kt
  obtain ⟨cl9, Ar9, q9, Sz9, Nn9, Ha9, Ga9⟩ := id hVe
  have hin9 : ¬ (i < 0 ∨ cl9.slots.size ≤ (i).toNatClampNeg) := inb_of Sz9 hlo
  have hat9 : cl9.slots[(i).toNatClampNeg]? = some (.ref b) := Ha9.at hin9 hb1
  obtain ⟨fs, hr, hrun, hended, hW, hsame⟩ := X3.leave (v := some (.ref b)) (fun h => by rw [Bd.returns] at h; cases h)
  refine ⟨_, _, pre0 _ (R4 _ (R5 _ (R7 _ (R8 _ ?_)))), hrun, hended, _, _, rfl, ?_, ⟨_, rfl⟩, hW, hsame.mono (by decide) (by decide)⟩
  · show Steps p.tables e below (T3.setTop (mkF m 23 #[.val (.ref a), .val (.int i), .unset] [(.int i), (.ref ea)])) _
    refine X3.aaload hx (j := i) (v := (.ref b)) (by rw [e3]; exact Ar9.1) (State.isArrayOf_alike hZ.alike Ar9.2.1) rfl Ar9.2.2 hin9 hat9 (g := (mkF m 23 #[.val (.ref a), .val (.int i), .unset] [(.int i), (.ref ea)])) rfl rfl (hb hby d_prog_28_m_4_23) _ ?_
    show Steps p.tables e below (T3.setTop (mkF m 24 #[.val (.ref a), .val (.int i), .unset] [(.ref b)])) _
    refine XS.astoreN X3.here hx rfl (hb hby d_prog_28_m_4_24) rfl rfl (l' := #[.val (.ref a), .val (.int i), .val (.ref b)]) rfl ?_
    show Steps p.tables e below (T3.setTop (mkF m 25 #[.val (.ref a), .val (.int i), .val (.ref b)] [])) _
    refine XS.aloadN X3.here hx rfl (hb hby d_prog_28_m_4_25) rfl rfl ?_
    show Steps p.tables e below (T3.setTop (mkF m 26 #[.val (.ref a), .val (.int i), .val (.ref b)] [(.ref b)])) _
    jvm_step X3.here [X3.here.top, hx, (hb hby d_prog_28_m_4_26), X3.method', Bd.returns, Value.isRef, FieldType.isReference]
    first | (intro acts; rw [hr _ acts rfl rfl rfl]) | rw [hr _ _ rfl rfl rfl]
    exact Steps.refl _
  · show QV (some (.ref b)) h0 n0 _ T3.heap _
    rw [e3]
    exact ⟨rfl, N2, rfl⟩
theorem ef_rmIn (m : MethodId) (x0 : Addr) : entryFrame m #[(.ref x0)] 1 = mkF m 0 #[.val (.ref x0)] [] := by first | (simp [entryFrame, mkF, argsToLocals, Value.category]; done) | rfl
set_option maxRecDepth 65536 in
set_option maxHeartbeats 40000000 in
theorem rmIn (l : Launch) (Z : State) (a0 : Array Value) (hw : ∀ d ∈ tables_1, d.before a0 Z = true) (ws : List Jvm.Cond) (a : Addr) (q : Int32) (h0 : Heap) (n0 : Nat) (Z0 : n0 ≤ h0.size) (hF : Fld Z h0 a "java/lang/Integer" "value" "I" (.int q)) :
    MetFree l (⟨"java/lang/Integer", "intValue", "()I"⟩ : MethodName) (head1 (Jvm.Cond.code (⟨"java/lang/Integer", "intValue", "()I"⟩ : MethodName) jdk_33_method_27_code 1 (some .int) :: ws) ({ frames := 0, cells := 0, slots := 0, locals := 0 } : Room)) (fun aa_ UU_ => aa_ = #[(.ref a)] ∧ Z.Warmed39 UU_.vm ∧ UU_.heap = h0) (fun _ _ _ _ _ => True) (fun _ UU_ oo_ UE_ => ∃ vv_ LL_, oo_ = .returned vv_ ∧ QV (some (.int q)) h0 n0 vv_ UE_.heap LL_ ∧ FrameEnd UU_ oo_ UE_ LL_ ({ frames := 0, cells := 0, slots := 0, locals := 0 } : Room).cells ({ frames := 0, cells := 0, slots := 0, locals := 0 } : Room).slots) := by
  refine MetFree.of_bodySF (plainFor_of_name pn_4) hisR ?_
  intro p e s m args below meth c s₁ Bd hml0 hP hK
  obtain ⟨rfl, hZ, hh⟩ := hP
  have hx := Bd.exec
  have hby := Bd.bytes
  have hml : c.maxLocals = 1 := hml0
  have hown : s.vm.findClass "java/lang/Integer" = some m.cls := findClass_of_methodNamed Bd.named
  have hnm := (name_of_methodNamed Bd.named Bd.method).1
  have X0 : Stand p l e ({ frames := 0, cells := 0, slots := 0, locals := 0 } : Room) s m #[(.ref a)] below meth c s₁ [] 0 0 := Stand.of_body Bd
  have e0 : s₁.heap = h0 := by rw [← hh, Bd.state]; rfl
  have N0 := Fr.nil n0
  have pre0 : ∀ tg, Steps p.tables e below (s₁.setTop (mkF m 0 #[.val (.ref a)] [])) tg → Steps p.tables e below (s₁.setTop (entryFrame m #[(.ref a)] 1)) tg := fun tg kq_ => castTop (ef_rmIn m a) kq_
  obtain ⟨T1, X1, e1, st1⟩ := getF X0 hx hZ hown (host := "") (Or.inl (hw _ (List.mem_of_getElem? (i := 67) rfl))) Via.refl e0 hF (g := (mkF m 1 #[.val (.ref a)] [(.ref a)])) rfl rfl (hb hby d_jdk_33_m_27_1)
  obtain ⟨fs, hr, hrun, hended, hW, hsame⟩ := X1.leave (v := some (.int q)) (fun h => by rw [Bd.returns] at h; cases h)
  refine ⟨_, _, pre0 _ ?_, hrun, hended, _, _, rfl, ?_, ⟨_, rfl⟩, hW, hsame.mono (by decide) (by decide)⟩
  · show Steps p.tables e below (s₁.setTop (mkF m 0 #[.val (.ref a)] [])) _
    refine XS.aloadN X0.here hx rfl (hb hby d_jdk_33_m_27_0) rfl rfl ?_
    show Steps p.tables e below (s₁.setTop (mkF m 1 #[.val (.ref a)] [(.ref a)])) _
    refine st1 _ ?_
    show Steps p.tables e below (T1.setTop (mkF m 4 #[.val (.ref a)] [(.int q)])) _
    exact retI X1 hx Bd.returns (hb hby d_jdk_33_m_27_4) hr
  · show QV (some (.int q)) h0 n0 _ T1.heap _
    rw [e1]
    exact ⟨rfl, N0, rfl⟩
theorem ef_rm0 (m : MethodId) (x0 : Int32) (x1 : Int32) (x2 : Int32) : entryFrame m #[(.int x0), (.int x1), (.int x2)] maxLocals = mkF m 0 #[.val (.int x0), .val (.int x1), .val (.int x2), .unset, .unset, .unset, .unset] [] := by first | (simp [entryFrame, mkF, argsToLocals, Value.category, maxLocals]; done) | rfl
set_option maxRecDepth 65536 in
set_option maxHeartbeats 40000000 in
theorem rm0 (l : Launch) (Z : State) (a0 : Array Value) (hw : ∀ d ∈ tables_1, d.before a0 Z = true) (ws : List Jvm.Cond) (p1 p2 p3 : Int32) (ca : Addr) (cc : Cell) (h0 : Heap) (n0 : Nat) (Z0 : n0 ≤ h0.size) (hO1 : Old Z n0 h0) (hS0 : Sta Z Z.heap "java/lang/Integer$IntegerCache" "high" "I" (.int (127 : Int32))) (hS1 : Sta Z Z.heap "java/lang/Integer$IntegerCache" "cache" "[Ljava/lang/Integer;" (.ref ca)) (hB1 : Bxs Z ca cc "java/lang/Integer" "I" (256 : Int32) (fun j => .int (j - 128))) (hM : ∃ (c : ClassId) (k : Class) (m : Addr), Z.vm.findClass "[Ljava/lang/Object;" = some c ∧ Z.vm.classes[c]? = some k ∧ k.mirror = some m) :
    MetFree l x (head1 (Jvm.Cond.code x code maxLocals ret :: ws) room_1) (fun aa_ UU_ => aa_ = #[(.int p1), (.int p2), (.int p3)] ∧ Z.Warmed39 UU_.vm ∧ UU_.heap = h0) (fun _ _ _ _ _ => True) (fun _ UU_ oo_ UE_ => ∃ vv_ LL_, oo_ = .returned vv_ ∧ Q0 n0 vv_ UE_.heap LL_ ∧ FrameEnd UU_ oo_ UE_ LL_ room_1.cells room_1.slots) := by
  refine MetFree.of_bodySF (plainFor_of_name pn_7) hisR ?_
  intro p e s m args below meth c s₁ Bd hml0 hP hK
  obtain ⟨rfl, hZ, hh⟩ := hP
  have hx := Bd.exec
  have hby := Bd.bytes
  have hml : c.maxLocals = 7 := hml0
  have hown : s.vm.findClass "com/example/anchored_threads/anchoredthreads/internal/ChunkedListGetPinLaw" = some m.cls := findClass_of_methodNamed Bd.named
  have hnm := (name_of_methodNamed Bd.named Bd.method).1
  have X0 : Stand p l e room_1 s m #[(.int p1), (.int p2), (.int p3)] below meth c s₁ [] 0 0 := Stand.of_body Bd
  have e0 : s₁.heap = h0 := by rw [← hh, Bd.state]; rfl
  have N0 := Fr.nil n0
  have pre0 : ∀ tg, Steps p.tables e below (s₁.setTop (mkF m 0 #[.val (.int p1), .val (.int p2), .val (.int p3), .unset, .unset, .unset, .unset] [])) tg → Steps p.tables e below (s₁.setTop (entryFrame m #[(.int p1), (.int p2), (.int p3)] maxLocals)) tg := fun tg kq_ => castTop (ef_rm0 m p1 p2 p3) kq_
  obtain ⟨T1, h1, X1, e1, E1, A1, D1, -, st1⟩ := newO X0 hx hZ hown (hw _ (List.mem_of_getElem? (i := 1) rfl)) (hw _ (List.mem_of_getElem? (i := 2) rfl)) (hw _ (List.mem_of_getElem? (i := 3) rfl)) e0 (g := (mkF m 10 #[.val (.int p1), .val (.int p2), .val (.int p3), .val (.int ((1 : Int32) + ((p1 &&& (2147483647 : Int32)) % (6 : Int32)))), .unset, .unset, .unset] [])) rfl (hb hby at_10) (by decide) (by decide)
  obtain ⟨b1, g1⟩ : ∃ z, z = h0.size := ⟨_, rfl⟩
  rw [← g1] at A1 D1 st1
  have gb_b1 : n0 ≤ b1 := Nat.le_trans Z0 (Nat.le_of_eq g1.symm)
  have Z1 : n0 ≤ h1.size := Nat.le_trans Z0 E1.1
  have F1_modCount : Fld Z h1 b1 "java/util/AbstractList" "modCount" "I" (.int (0 : Int32)) := D1 (Or.inl (hw _ (List.mem_of_getElem? (i := 22) rfl))) (ty := .int) (by decide)
  have F1_chunks : Fld Z h1 b1 "com/example/anchored_threads/anchoredthreads/internal/ChunkedList" "chunks" "[[Ljava/lang/Object;" .null := D1 (Or.inl (hw _ (List.mem_of_getElem? (i := 29) rfl))) (ty := (.array (.array (.object "java/lang/Object")))) (by decide)
  have F1_size : Fld Z h1 b1 "com/example/anchored_threads/anchoredthreads/internal/ChunkedList" "size" "I" (.int (0 : Int32)) := D1 (Or.inl (hw _ (List.mem_of_getElem? (i := 43) rfl))) (ty := .int) (by decide)
  obtain ⟨_, _, ⟨T2, L2, k2, n2⟩, -, X2, ⟨Lc2, hQ2, l2, y2, z2⟩, st2⟩ := X1.specialBack hx (y := (⟨"com/example/anchored_threads/anchoredthreads/internal/ChunkedList", "<init>", "()V"⟩ : MethodName)) rfl hown (mvT hZ (hw _ (List.mem_of_getElem? (i := 4) rfl))) (mvT hZ (hw _ (List.mem_of_getElem? (i := 5) rfl))) (mvT hZ (hw _ (List.mem_of_getElem? (i := 6) rfl))) (by decide) (backOf (W := 1) (rmCI l Z a0 hw [] b1 h1 n0 Z1 A1 F1_modCount F1_size F1_chunks gb_b1) hZ (hw _ (List.mem_of_getElem? (i := 6) rfl)) (hw _ (List.mem_of_getElem? (i := 3) rfl)) (by decide) (by decide)) (g := (mkF m 14 #[.val (.int p1), .val (.int p2), .val (.int p3), .val (.int ((1 : Int32) + ((p1 &&& (2147483647 : Int32)) % (6 : Int32)))), .unset, .unset, .unset] [(.ref b1), (.ref b1)])) rfl (by rw [hml]; rfl) (Steps.refl _) (a := b1) (argsL := []) (rest := [(.ref b1)]) (lenOf pd_0 rfl) rfl (by show 2 * 0 + _ ≤ _; exact Nat.le_of_eq rfl) (hb hby at_14) (fun _ _ => ⟨rfl, e1, (by decide : 1 + 2 ≤ _), (by decide : 3 + 5 ≤ _)⟩)
  dsimp only [Pt.U, Pt.locs, Pt.cells, Pt.slots] at X2 l2 y2 z2 st2 hQ2
  subst l2 y2 z2
  obtain ⟨hv2, N2q, kp2, ch2, ea2, kc2, ke2, sc2, se2, hC2⟩ := hQ2
  subst hv2
  have N2 := Fr.app N0 N2q
  have Z2 : n0 ≤ T2.heap.size := Nat.le_trans Z1 kp2.1
  have f3 := ((hO1.ext E1).keep kp2 (allS gb_b1 all0))
  obtain ⟨_, _, ⟨T4, L4, k4, n4⟩, -, X4, ⟨Lc4, hQ4, l4, y4, z4⟩, st4⟩ := Jvm.LawKit.callS X2 hx (y := (⟨"java/lang/Integer", "valueOf", "(I)Ljava/lang/Integer;"⟩ : MethodName)) hown (mvT hZ (hw _ (List.mem_of_getElem? (i := 30) rfl))) (mvT hZ (hw _ (List.mem_of_getElem? (i := 31) rfl))) (mvT hZ (hw _ (List.mem_of_getElem? (i := 32) rfl))) (mvT hZ (hw _ (List.mem_of_getElem? (i := 33) rfl))) (by decide) (backOf (W := 1) (rmIV l Z a0 hw [] p2 ca cc T2.heap n0 Z2 f3 hS0 hS1 hB1) hZ (hw _ (List.mem_of_getElem? (i := 33) rfl)) (hw _ (List.mem_of_getElem? (i := 32) rfl)) (by decide) (by decide)) (g := (mkF m 22 #[.val (.int p1), .val (.int p2), .val (.int p3), .val (.int ((1 : Int32) + ((p1 &&& (2147483647 : Int32)) % (6 : Int32)))), .val (.ref b1), .unset, .unset] [(.int p2), (.ref b1)])) rfl (by rw [hml]; rfl) (argsL := [(.int p2)]) (rest := [(.ref b1)]) (lenOf pd_4 rfl) rfl (by show 2 * 0 + _ ≤ _; exact Nat.le_of_eq rfl) (hb hby at_22) (fun _ _ => ⟨rfl, rfl, (by decide : 3 + 1 ≤ _), (by decide : 8 + 1 ≤ _)⟩)
  dsimp only [Pt.U, Pt.locs, Pt.cells, Pt.slots] at X4 l4 y4 z4 st4 hQ4
  subst l4 y4 z4
  obtain ⟨bx4, hv4, N4q, kp4, EB4, FB4⟩ := hQ4
  subst hv4
  have N4 := Fr.app N2 N4q
  have Z4 : n0 ≤ T4.heap.size := Nat.le_trans Z2 kp4.1
  have f5 := (CLs.keep hC2 kp4)
  have nq6_bx4_b1 : bx4 ≠ b1 := ne_exa EB4 f5.1 (by decide)
  have nq6_bx4_ch2 : bx4 ≠ ch2 := own_ne_arv EB4 (hw _ (List.mem_of_getElem? (i := 70) rfl)) f5.2.2.2.2.1
  have nq6_bx4_ea2 : bx4 ≠ ea2 := own_ne_arv EB4 (hw _ (List.mem_of_getElem? (i := 70) rfl)) f5.2.2.2.2.2.1
  obtain ⟨cq7, kq7, q7a, q7b, q7c⟩ := isOf hZ rfl f5.1
  obtain ⟨_, _, ⟨T7, L7, k7, n7⟩, -, X7, ⟨Lc7, hQ7, l7, y7, z7⟩, st7⟩ := X4.virtualBack hx (y := (⟨"com/example/anchored_threads/anchoredthreads/internal/ChunkedList", "add", "(Ljava/lang/Object;)Z"⟩ : MethodName)) (z := (⟨"com/example/anchored_threads/anchoredthreads/internal/ChunkedList", "add", "(Ljava/lang/Object;)Z"⟩ : MethodName)) hown (mvT hZ (hw _ (List.mem_of_getElem? (i := 37) rfl))) (mvT hZ (hw _ (List.mem_of_getElem? (i := 38) rfl))) (notFace_of_selects (args := #[]) (mvT hZ (hw _ (List.mem_of_getElem? (i := 40) rfl)))) (mvT hZ (hw _ (List.mem_of_getElem? (i := 40) rfl))) (mvT hZ (hw _ (List.mem_of_getElem? (i := 39) rfl))) (by decide) (backOf (W := 0) (rmAd l Z a0 hw [] b1 bx4 ch2 ea2 kc2 ke2 (0 : Int32) (0 : Int32) (4 : Int32) [.null, .null, .null, .null] 0 T4.heap n0 Z4 f5 EB4 (by decide) (by decide) (by decide) ⟨by decide, by decide⟩ rfl (Nat.le_of_ble_eq_true rfl)) hZ (hw _ (List.mem_of_getElem? (i := 41) rfl)) (hw _ (List.mem_of_getElem? (i := 3) rfl)) (by decide) (by decide)) q7a q7c (g := (mkF m 25 #[.val (.int p1), .val (.int p2), .val (.int p3), .val (.int ((1 : Int32) + ((p1 &&& (2147483647 : Int32)) % (6 : Int32)))), .val (.ref b1), .unset, .unset] [(.ref bx4), (.ref b1)])) rfl (by rw [hml]; rfl) (Steps.refl _) (argsL := [(.ref bx4)]) (rest := []) (lenOf pd_5 rfl) rfl (by show 2 * 0 + _ ≤ _; exact Nat.le_of_eq rfl) (hb hby at_25) (fun _ _ => ⟨rfl, rfl, (by decide : 4 + 0 ≤ _), (by decide : 9 + 0 ≤ _)⟩)
  dsimp only [Pt.U, Pt.locs, Pt.cells, Pt.slots] at X7 l7 y7 z7 st7 hQ7
  subst l7 y7 z7
  obtain ⟨hv7, N7q, kp7, mc7, hC7⟩ := hQ7
  subst hv7
  have N7 := Fr.app N4 N7q
  have Z7 : n0 ≤ T7.heap.size := Nat.le_trans Z4 kp7.1
  have hC7' : CLs Z n0 T7.heap b1 ch2 ea2 kc2 ke2 (1 : Int32) mc7 (4 : Int32) [(.ref bx4), .null, .null, .null] := by
    have q := hC7
    rw [show ((0 : Int32) + 1) = (1 : Int32) from by decide] at q
    exact q
  have R8 : ∀ tg, Steps p.tables e below (T7.setTop (mkF m 29 #[.val (.int p1), .val (.int p2), .val (.int p3), .val (.int ((1 : Int32) + ((p1 &&& (2147483647 : Int32)) % (6 : Int32)))), .val (.ref b1), .unset, .unset] [])) tg → Steps p.tables e below (s₁.setTop (mkF m 0 #[.val (.int p1), .val (.int p2), .val (.int p3), .unset, .unset, .unset, .unset] [])) tg := by
    intro tg kt
    refine XS.iconst X0.here hx rfl (hb hby at_0) ?_
    show Steps p.tables e below (s₁.setTop (mkF m 1 #[.val (.int p1), .val (.int p2), .val (.int p3), .unset, .unset, .unset, .unset] [(.int (1 : Int32))])) _
    refine XS.iloadN X0.here hx rfl (hb hby at_1) rfl ?_
    show Steps p.tables e below (s₁.setTop (mkF m 2 #[.val (.int p1), .val (.int p2), .val (.int p3), .unset, .unset, .unset, .unset] [(.int p1), (.int (1 : Int32))])) _
    refine X0.ldcInt hx hown (mvT hZ (hw _ (List.mem_of_getElem? (i := 0) rfl))) (g := (mkF m 2 #[.val (.int p1), .val (.int p2), .val (.int p3), .unset, .unset, .unset, .unset] [(.int p1), (.int (1 : Int32))])) rfl (hb hby at_2) _ ?_
    show Steps p.tables e below (s₁.setTop (mkF m 4 #[.val (.int p1), .val (.int p2), .val (.int p3), .unset, .unset, .unset, .unset] [(.int (2147483647 : Int32)), (.int p1), (.int (1 : Int32))])) _
    refine XS.iand X0.here hx rfl (hb hby at_4) rfl ?_
    show Steps p.tables e below (s₁.setTop (mkF m 5 #[.val (.int p1), .val (.int p2), .val (.int p3), .unset, .unset, .unset, .unset] [(.int (p1 &&& (2147483647 : Int32))), (.int (1 : Int32))])) _
    refine XS.bipush X0.here hx rfl (hb hby at_5) ?_
    show Steps p.tables e below (s₁.setTop (mkF m 7 #[.val (.int p1), .val (.int p2), .val (.int p3), .unset, .unset, .unset, .unset] [(.int (6 : Int32)), (.int (p1 &&& (2147483647 : Int32))), (.int (1 : Int32))])) _
    refine iremM (g := (mkF m 7 #[.val (.int p1), .val (.int p2), .val (.int p3), .unset, .unset, .unset, .unset] [(.int (6 : Int32)), (.int (p1 &&& (2147483647 : Int32))), (.int (1 : Int32))])) X0 hx rfl (hb hby at_7) rfl (by decide) ?_
    show Steps p.tables e below (s₁.setTop (mkF m 8 #[.val (.int p1), .val (.int p2), .val (.int p3), .unset, .unset, .unset, .unset] [(.int ((p1 &&& (2147483647 : Int32)) % (6 : Int32))), (.int (1 : Int32))])) _
    refine XS.iadd X0.here hx rfl (hb hby at_8) rfl ?_
    show Steps p.tables e below (s₁.setTop (mkF m 9 #[.val (.int p1), .val (.int p2), .val (.int p3), .unset, .unset, .unset, .unset] [(.int ((1 : Int32) + ((p1 &&& (2147483647 : Int32)) % (6 : Int32))))])) _
    refine XS.istoreN X0.here hx rfl (hb hby at_9) rfl (l' := #[.val (.int p1), .val (.int p2), .val (.int p3), .val (.int ((1 : Int32) + ((p1 &&& (2147483647 : Int32)) % (6 : Int32)))), .unset, .unset, .unset]) rfl ?_
    show Steps p.tables e below (s₁.setTop (mkF m 10 #[.val (.int p1), .val (.int p2), .val (.int p3), .val (.int ((1 : Int32) + ((p1 &&& (2147483647 : Int32)) % (6 : Int32)))), .unset, .unset, .unset] [])) _
    refine st1 _ ?_
    show Steps p.tables e below (T1.setTop (mkF m 13 #[.val (.int p1), .val (.int p2), .val (.int p3), .val (.int ((1 : Int32) + ((p1 &&& (2147483647 : Int32)) % (6 : Int32)))), .unset, .unset, .unset] [(.ref b1)])) _
    refine XS.dup X1.here hx rfl (hb hby at_13) rfl rfl ?_
    show Steps p.tables e below (T1.setTop (mkF m 14 #[.val (.int p1), .val (.int p2), .val (.int p3), .val (.int ((1 : Int32) + ((p1 &&& (2147483647 : Int32)) % (6 : Int32)))), .unset, .unset, .unset] [(.ref b1), (.ref b1)])) _
    refine st2.trans ?_
    show Steps p.tables e below (T2.setTop (mkF m 17 #[.val (.int p1), .val (.int p2), .val (.int p3), .val (.int ((1 : Int32) + ((p1 &&& (2147483647 : Int32)) % (6 : Int32)))), .unset, .unset, .unset] [(.ref b1)])) _
    refine XS.astore X2.here hx rfl (hb hby at_17) rfl rfl (l' := #[.val (.int p1), .val (.int p2), .val (.int p3), .val (.int ((1 : Int32) + ((p1 &&& (2147483647 : Int32)) % (6 : Int32)))), .val (.ref b1), .unset, .unset]) rfl ?_
    show Steps p.tables e below (T2.setTop (mkF m 19 #[.val (.int p1), .val (.int p2), .val (.int p3), .val (.int ((1 : Int32) + ((p1 &&& (2147483647 : Int32)) % (6 : Int32)))), .val (.ref b1), .unset, .unset] [])) _
    refine XS.aload X2.here hx rfl (hb hby at_19) rfl rfl ?_
    show Steps p.tables e below (T2.setTop (mkF m 21 #[.val (.int p1), .val (.int p2), .val (.int p3), .val (.int ((1 : Int32) + ((p1 &&& (2147483647 : Int32)) % (6 : Int32)))), .val (.ref b1), .unset, .unset] [(.ref b1)])) _
    refine XS.iloadN X2.here hx rfl (hb hby at_21) rfl ?_
    show Steps p.tables e below (T2.setTop (mkF m 22 #[.val (.int p1), .val (.int p2), .val (.int p3), .val (.int ((1 : Int32) + ((p1 &&& (2147483647 : Int32)) % (6 : Int32)))), .val (.ref b1), .unset, .unset] [(.int p2), (.ref b1)])) _
    refine st4 _ ?_
    show Steps p.tables e below (T4.setTop (mkF m 25 #[.val (.int p1), .val (.int p2), .val (.int p3), .val (.int ((1 : Int32) + ((p1 &&& (2147483647 : Int32)) % (6 : Int32)))), .val (.ref b1), .unset, .unset] [(.ref bx4), (.ref b1)])) _
    refine st7.trans ?_
    show Steps p.tables e below (T7.setTop (mkF m 28 #[.val (.int p1), .val (.int p2), .val (.int p3), .val (.int ((1 : Int32) + ((p1 &&& (2147483647 : Int32)) % (6 : Int32)))), .val (.ref b1), .unset, .unset] [(.int (1 : Int32))])) _
    refine XS.pop X7.here hx rfl (hb hby at_28) rfl rfl ?_
    show Steps p.tables e below (T7.setTop (mkF m 29 #[.val (.int p1), .val (.int p2), .val (.int p3), .val (.int ((1 : Int32) + ((p1 &&& (2147483647 : Int32)) % (6 : Int32)))), .val (.ref b1), .unset, .unset] [])) _
    exact kt
  rcases own_n p1 with hk9 | hk9 | hk9 | hk9 | hk9 | hk9
  · have R10 : ∀ tg, Steps p.tables e below (T7.setTop (mkF m 29 #[.val (.int p1), .val (.int p2), .val (.int p3), .val (.int (1 : Int32)), .val (.ref b1), .unset, .unset] [])) tg → Steps p.tables e below (T7.setTop (mkF m 29 #[.val (.int p1), .val (.int p2), .val (.int p3), .val (.int ((1 : Int32) + ((p1 &&& (2147483647 : Int32)) % (6 : Int32)))), .val (.ref b1), .unset, .unset] [])) tg := fun tg kt => by rw [hk9]; exact kt
    have R11 : ∀ tg, Steps p.tables e below (T7.setTop (mkF m 122 #[.val (.int p1), .val (.int p2), .val (.int p3), .val (.int (1 : Int32)), .val (.ref b1), .val (.int ((p3 &&& (2147483647 : Int32)) % (1 : Int32))), .unset] [])) tg → Steps p.tables e below (T7.setTop (mkF m 29 #[.val (.int p1), .val (.int p2), .val (.int p3), .val (.int (1 : Int32)), .val (.ref b1), .unset, .unset] [])) tg := by
      intro tg kt
      refine XS.iloadN X7.here hx rfl (hb hby at_29) rfl ?_
      show Steps p.tables e below (T7.setTop (mkF m 30 #[.val (.int p1), .val (.int p2), .val (.int p3), .val (.int (1 : Int32)), .val (.ref b1), .unset, .unset] [(.int (1 : Int32))])) _
      refine XS.iconst X7.here hx rfl (hb hby at_30) ?_
      show Steps p.tables e below (T7.setTop (mkF m 31 #[.val (.int p1), .val (.int p2), .val (.int p3), .val (.int (1 : Int32)), .val (.ref b1), .unset, .unset] [(.int (1 : Int32)), (.int (1 : Int32))])) _
      refine XS.icmpYes X7.here hx rfl (pc0 := 31) (pc' := 46) rfl (hb hby at_31) rfl (flt (by decide : ¬ ((1 : Int32) < (1 : Int32)))).2.2.2 (by decide) (by decide) ?_
      show Steps p.tables e below (T7.setTop (mkF m 46 #[.val (.int p1), .val (.int p2), .val (.int p3), .val (.int (1 : Int32)), .val (.ref b1), .unset, .unset] [])) _
      refine XS.iloadN X7.here hx rfl (hb hby at_46) rfl ?_
      show Steps p.tables e below (T7.setTop (mkF m 47 #[.val (.int p1), .val (.int p2), .val (.int p3), .val (.int (1 : Int32)), .val (.ref b1), .unset, .unset] [(.int (1 : Int32))])) _
      refine XS.iconst X7.here hx rfl (hb hby at_47) ?_
      show Steps p.tables e below (T7.setTop (mkF m 48 #[.val (.int p1), .val (.int p2), .val (.int p3), .val (.int (1 : Int32)), .val (.ref b1), .unset, .unset] [(.int (2 : Int32)), (.int (1 : Int32))])) _
      refine XS.icmpYes X7.here hx rfl (pc0 := 48) (pc' := 63) rfl (hb hby at_48) rfl (flt (by decide : ¬ ((2 : Int32) < (1 : Int32)))).2.2.2 (by decide) (by decide) ?_
      show Steps p.tables e below (T7.setTop (mkF m 63 #[.val (.int p1), .val (.int p2), .val (.int p3), .val (.int (1 : Int32)), .val (.ref b1), .unset, .unset] [])) _
      refine XS.iloadN X7.here hx rfl (hb hby at_63) rfl ?_
      show Steps p.tables e below (T7.setTop (mkF m 64 #[.val (.int p1), .val (.int p2), .val (.int p3), .val (.int (1 : Int32)), .val (.ref b1), .unset, .unset] [(.int (1 : Int32))])) _
      refine XS.iconst X7.here hx rfl (hb hby at_64) ?_
      show Steps p.tables e below (T7.setTop (mkF m 65 #[.val (.int p1), .val (.int p2), .val (.int p3), .val (.int (1 : Int32)), .val (.ref b1), .unset, .unset] [(.int (3 : Int32)), (.int (1 : Int32))])) _
      refine XS.icmpYes X7.here hx rfl (pc0 := 65) (pc' := 80) rfl (hb hby at_65) rfl (flt (by decide : ¬ ((3 : Int32) < (1 : Int32)))).2.2.2 (by decide) (by decide) ?_
      show Steps p.tables e below (T7.setTop (mkF m 80 #[.val (.int p1), .val (.int p2), .val (.int p3), .val (.int (1 : Int32)), .val (.ref b1), .unset, .unset] [])) _
      refine XS.iloadN X7.here hx rfl (hb hby at_80) rfl ?_
      show Steps p.tables e below (T7.setTop (mkF m 81 #[.val (.int p1), .val (.int p2), .val (.int p3), .val (.int (1 : Int32)), .val (.ref b1), .unset, .unset] [(.int (1 : Int32))])) _
      refine XS.iconst X7.here hx rfl (hb hby at_81) ?_
      show Steps p.tables e below (T7.setTop (mkF m 82 #[.val (.int p1), .val (.int p2), .val (.int p3), .val (.int (1 : Int32)), .val (.ref b1), .unset, .unset] [(.int (4 : Int32)), (.int (1 : Int32))])) _
      refine XS.icmpYes X7.here hx rfl (pc0 := 82) (pc' := 97) rfl (hb hby at_82) rfl (flt (by decide : ¬ ((4 : Int32) < (1 : Int32)))).2.2.2 (by decide) (by decide) ?_
      show Steps p.tables e below (T7.setTop (mkF m 97 #[.val (.int p1), .val (.int p2), .val (.int p3), .val (.int (1 : Int32)), .val (.ref b1), .unset, .unset] [])) _
      refine XS.iloadN X7.here hx rfl (hb hby at_97) rfl ?_
      show Steps p.tables e below (T7.setTop (mkF m 98 #[.val (.int p1), .val (.int p2), .val (.int p3), .val (.int (1 : Int32)), .val (.ref b1), .unset, .unset] [(.int (1 : Int32))])) _
      refine XS.iconst X7.here hx rfl (hb hby at_98) ?_
      show Steps p.tables e below (T7.setTop (mkF m 99 #[.val (.int p1), .val (.int p2), .val (.int p3), .val (.int (1 : Int32)), .val (.ref b1), .unset, .unset] [(.int (5 : Int32)), (.int (1 : Int32))])) _
      refine XS.icmpYes X7.here hx rfl (pc0 := 99) (pc' := 114) rfl (hb hby at_99) rfl (flt (by decide : ¬ ((5 : Int32) < (1 : Int32)))).2.2.2 (by decide) (by decide) ?_
      show Steps p.tables e below (T7.setTop (mkF m 114 #[.val (.int p1), .val (.int p2), .val (.int p3), .val (.int (1 : Int32)), .val (.ref b1), .unset, .unset] [])) _
      refine XS.iloadN X7.here hx rfl (hb hby at_114) rfl ?_
      show Steps p.tables e below (T7.setTop (mkF m 115 #[.val (.int p1), .val (.int p2), .val (.int p3), .val (.int (1 : Int32)), .val (.ref b1), .unset, .unset] [(.int p3)])) _
      refine X7.ldcInt hx hown (mvT hZ (hw _ (List.mem_of_getElem? (i := 0) rfl))) (g := (mkF m 115 #[.val (.int p1), .val (.int p2), .val (.int p3), .val (.int (1 : Int32)), .val (.ref b1), .unset, .unset] [(.int p3)])) rfl (hb hby at_115) _ ?_
      show Steps p.tables e below (T7.setTop (mkF m 117 #[.val (.int p1), .val (.int p2), .val (.int p3), .val (.int (1 : Int32)), .val (.ref b1), .unset, .unset] [(.int (2147483647 : Int32)), (.int p3)])) _
      refine XS.iand X7.here hx rfl (hb hby at_117) rfl ?_
      show Steps p.tables e below (T7.setTop (mkF m 118 #[.val (.int p1), .val (.int p2), .val (.int p3), .val (.int (1 : Int32)), .val (.ref b1), .unset, .unset] [(.int (p3 &&& (2147483647 : Int32)))])) _
      refine XS.iloadN X7.here hx rfl (hb hby at_118) rfl ?_
      show Steps p.tables e below (T7.setTop (mkF m 119 #[.val (.int p1), .val (.int p2), .val (.int p3), .val (.int (1 : Int32)), .val (.ref b1), .unset, .unset] [(.int (1 : Int32)), (.int (p3 &&& (2147483647 : Int32)))])) _
      refine iremM (g := (mkF m 119 #[.val (.int p1), .val (.int p2), .val (.int p3), .val (.int (1 : Int32)), .val (.ref b1), .unset, .unset] [(.int (1 : Int32)), (.int (p3 &&& (2147483647 : Int32)))])) X7 hx rfl (hb hby at_119) rfl (by decide) ?_
      show Steps p.tables e below (T7.setTop (mkF m 120 #[.val (.int p1), .val (.int p2), .val (.int p3), .val (.int (1 : Int32)), .val (.ref b1), .unset, .unset] [(.int ((p3 &&& (2147483647 : Int32)) % (1 : Int32)))])) _
      refine XS.istore X7.here hx rfl (hb hby at_120) rfl (l' := #[.val (.int p1), .val (.int p2), .val (.int p3), .val (.int (1 : Int32)), .val (.ref b1), .val (.int ((p3 &&& (2147483647 : Int32)) % (1 : Int32))), .unset]) rfl ?_
      show Steps p.tables e below (T7.setTop (mkF m 122 #[.val (.int p1), .val (.int p2), .val (.int p3), .val (.int (1 : Int32)), .val (.ref b1), .val (.int ((p3 &&& (2147483647 : Int32)) % (1 : Int32))), .unset] [])) _
      exact kt
    rcases own_m1 p3 with hk12
    · have R13 : ∀ tg, Steps p.tables e below (T7.setTop (mkF m 122 #[.val (.int p1), .val (.int p2), .val (.int p3), .val (.int (1 : Int32)), .val (.ref b1), .val (.int (0 : Int32)), .unset] [])) tg → Steps p.tables e below (T7.setTop (mkF m 122 #[.val (.int p1), .val (.int p2), .val (.int p3), .val (.int (1 : Int32)), .val (.ref b1), .val (.int ((p3 &&& (2147483647 : Int32)) % (1 : Int32))), .unset] [])) tg := fun tg kt => by rw [hk12]; exact kt
      obtain ⟨cq14, kq14, q14a, q14b, q14c⟩ := isOf hZ rfl hC7'.1
      obtain ⟨_, _, ⟨T14, L14, k14, n14⟩, -, X14, ⟨Lc14, hQ14, l14, y14, z14⟩, st14⟩ := X7.virtualBack hx (y := (⟨"com/example/anchored_threads/anchoredthreads/internal/ChunkedList", "get", "(I)Ljava/lang/Object;"⟩ : MethodName)) (z := (⟨"com/example/anchored_threads/anchoredthreads/internal/ChunkedList", "get", "(I)Ljava/lang/Object;"⟩ : MethodName)) hown (mvT hZ (hw _ (List.mem_of_getElem? (i := 47) rfl))) (mvT hZ (hw _ (List.mem_of_getElem? (i := 48) rfl))) (notFace_of_selects (args := #[]) (mvT hZ (hw _ (List.mem_of_getElem? (i := 50) rfl)))) (mvT hZ (hw _ (List.mem_of_getElem? (i := 50) rfl))) (mvT hZ (hw _ (List.mem_of_getElem? (i := 49) rfl))) (by decide) (backOf (W := 0) (rmGt l Z a0 hw [] b1 ch2 ea2 kc2 ke2 (1 : Int32) mc7 (4 : Int32) [(.ref bx4), .null, .null, .null] (0 : Int32) bx4 T7.heap n0 Z7 hC7' (by decide) (by decide) (by decide) (by decide) ⟨by decide, by decide⟩ rfl) hZ (hw _ (List.mem_of_getElem? (i := 51) rfl)) (hw _ (List.mem_of_getElem? (i := 3) rfl)) (by decide) (by decide)) q14a q14c (g := (mkF m 126 #[.val (.int p1), .val (.int p2), .val (.int p3), .val (.int (1 : Int32)), .val (.ref b1), .val (.int (0 : Int32)), .unset] [(.int (0 : Int32)), (.ref b1)])) rfl (by rw [hml]; rfl) (Steps.refl _) (argsL := [(.int (0 : Int32))]) (rest := []) (lenOf pd_6 rfl) rfl (by show 2 * 0 + _ ≤ _; exact Nat.le_of_eq rfl) (hb hby at_126) (fun _ _ => ⟨rfl, rfl, (by decide : 4 + 0 ≤ _), (by decide : 9 + 0 ≤ _)⟩)
      dsimp only [Pt.U, Pt.locs, Pt.cells, Pt.slots] at X14 l14 y14 z14 st14 hQ14
      subst l14 y14 z14
      obtain ⟨hv14, N14q, r14⟩ := hQ14
      subst hv14
      have N14 := Fr.app N7 N14q
      have f15 := (EB4.keep kp7)
      obtain ⟨T16, X16, e16, st16⟩ := castY X14 hx hZ hown (hw _ (List.mem_of_getElem? (i := 60) rfl)) r14 (Ins.self f15) (g := (mkF m 129 #[.val (.int p1), .val (.int p2), .val (.int p3), .val (.int (1 : Int32)), .val (.ref b1), .val (.int (0 : Int32)), .unset] [(.ref bx4)])) rfl rfl (hb hby at_129)
      have f17 := (FB4.keep kp7 (ninS nq6_bx4_b1 (ninS nq6_bx4_ch2 (ninS nq6_bx4_ea2 nin0))))
      obtain ⟨cq18, kq18, q18a, q18b, q18c⟩ := isOf hZ e16 f15
      obtain ⟨_, _, ⟨T18, L18, k18, n18⟩, -, X18, ⟨Lc18, hQ18, l18, y18, z18⟩, st18⟩ := X16.virtualBack hx (y := (⟨"java/lang/Integer", "intValue", "()I"⟩ : MethodName)) (z := (⟨"java/lang/Integer", "intValue", "()I"⟩ : MethodName)) hown (mvT hZ (hw _ (List.mem_of_getElem? (i := 62) rfl))) (mvT hZ (hw _ (List.mem_of_getElem? (i := 63) rfl))) (notFace_of_selects (args := #[]) (mvT hZ (hw _ (List.mem_of_getElem? (i := 65) rfl)))) (mvT hZ (hw _ (List.mem_of_getElem? (i := 65) rfl))) (mvT hZ (hw _ (List.mem_of_getElem? (i := 64) rfl))) (by decide) (backOf (W := 0) (rmIn l Z a0 hw [] bx4 p2 T7.heap n0 Z7 f17) hZ (hw _ (List.mem_of_getElem? (i := 66) rfl)) (hw _ (List.mem_of_getElem? (i := 32) rfl)) (by decide) (by decide)) q18a q18c (g := (mkF m 141 #[.val (.int p1), .val (.int p2), .val (.int p3), .val (.int (1 : Int32)), .val (.ref b1), .val (.int (0 : Int32)), .val (.ref bx4)] [(.ref bx4)])) rfl (by rw [hml]; rfl) (Steps.refl _) (argsL := []) (rest := []) (lenOf pd_7 rfl) rfl (by show 2 * 0 + _ ≤ _; exact Nat.le_of_eq rfl) (hb hby at_141) (fun _ _ => ⟨rfl, e16, (by decide : 4 + 0 ≤ _), (by decide : 9 + 0 ≤ _)⟩)
      dsimp only [Pt.U, Pt.locs, Pt.cells, Pt.slots] at X18 l18 y18 z18 st18 hQ18
      subst l18 y18 z18
      obtain ⟨hv18, N18q, r18⟩ := hQ18
      subst hv18
      have N18 := Fr.app N14 N18q
      obtain ⟨fs, hr, hrun, hended, hW, hsame⟩ := X18.leave (v := some (.int (1 : Int32))) (fun h => by rw [Bd.returns] at h; cases h)
      refine ⟨_, _, pre0 _ (R8 _ (R10 _ (R11 _ (R13 _ ?_)))), hrun, hended, _, _, rfl, ?_, ⟨_, rfl⟩, hW, hsame.mono (by decide) (by decide)⟩
      · show Steps p.tables e below (T7.setTop (mkF m 122 #[.val (.int p1), .val (.int p2), .val (.int p3), .val (.int (1 : Int32)), .val (.ref b1), .val (.int (0 : Int32)), .unset] [])) _
        refine XS.aload X7.here hx rfl (hb hby at_122) rfl rfl ?_
        show Steps p.tables e below (T7.setTop (mkF m 124 #[.val (.int p1), .val (.int p2), .val (.int p3), .val (.int (1 : Int32)), .val (.ref b1), .val (.int (0 : Int32)), .unset] [(.ref b1)])) _
        refine XS.iload X7.here hx rfl (hb hby at_124) rfl ?_
        show Steps p.tables e below (T7.setTop (mkF m 126 #[.val (.int p1), .val (.int p2), .val (.int p3), .val (.int (1 : Int32)), .val (.ref b1), .val (.int (0 : Int32)), .unset] [(.int (0 : Int32)), (.ref b1)])) _
        refine st14.trans ?_
        show Steps p.tables e below (T14.setTop (mkF m 129 #[.val (.int p1), .val (.int p2), .val (.int p3), .val (.int (1 : Int32)), .val (.ref b1), .val (.int (0 : Int32)), .unset] [(.ref bx4)])) _
        refine st16 _ ?_
        show Steps p.tables e below (T16.setTop (mkF m 132 #[.val (.int p1), .val (.int p2), .val (.int p3), .val (.int (1 : Int32)), .val (.ref b1), .val (.int (0 : Int32)), .unset] [(.ref bx4)])) _
        refine XS.astore X16.here hx rfl (hb hby at_132) rfl rfl (l' := #[.val (.int p1), .val (.int p2), .val (.int p3), .val (.int (1 : Int32)), .val (.ref b1), .val (.int (0 : Int32)), .val (.ref bx4)]) rfl ?_
        show Steps p.tables e below (T16.setTop (mkF m 134 #[.val (.int p1), .val (.int p2), .val (.int p3), .val (.int (1 : Int32)), .val (.ref b1), .val (.int (0 : Int32)), .val (.ref bx4)] [])) _
        refine XS.aload X16.here hx rfl (hb hby at_134) rfl rfl ?_
        show Steps p.tables e below (T16.setTop (mkF m 136 #[.val (.int p1), .val (.int p2), .val (.int p3), .val (.int (1 : Int32)), .val (.ref b1), .val (.int (0 : Int32)), .val (.ref bx4)] [(.ref bx4)])) _
        refine XS.ifnullNo X16.here hx rfl (hb hby at_136) rfl ?_
        show Steps p.tables e below (T16.setTop (mkF m 139 #[.val (.int p1), .val (.int p2), .val (.int p3), .val (.int (1 : Int32)), .val (.ref b1), .val (.int (0 : Int32)), .val (.ref bx4)] [])) _
        refine XS.aload X16.here hx rfl (hb hby at_139) rfl rfl ?_
        show Steps p.tables e below (T16.setTop (mkF m 141 #[.val (.int p1), .val (.int p2), .val (.int p3), .val (.int (1 : Int32)), .val (.ref b1), .val (.int (0 : Int32)), .val (.ref bx4)] [(.ref bx4)])) _
        refine st18.trans ?_
        show Steps p.tables e below (T18.setTop (mkF m 144 #[.val (.int p1), .val (.int p2), .val (.int p3), .val (.int (1 : Int32)), .val (.ref b1), .val (.int (0 : Int32)), .val (.ref bx4)] [(.int p2)])) _
        refine XS.iloadN X18.here hx rfl (hb hby at_144) rfl ?_
        show Steps p.tables e below (T18.setTop (mkF m 145 #[.val (.int p1), .val (.int p2), .val (.int p3), .val (.int (1 : Int32)), .val (.ref b1), .val (.int (0 : Int32)), .val (.ref bx4)] [(.int p2), (.int p2)])) _
        refine XS.iload X18.here hx rfl (hb hby at_145) rfl ?_
        show Steps p.tables e below (T18.setTop (mkF m 147 #[.val (.int p1), .val (.int p2), .val (.int p3), .val (.int (1 : Int32)), .val (.ref b1), .val (.int (0 : Int32)), .val (.ref bx4)] [(.int (0 : Int32)), (.int p2), (.int p2)])) _
        refine XS.iadd X18.here hx rfl (hb hby at_147) rfl ?_
        show Steps p.tables e below (T18.setTop (mkF m 148 #[.val (.int p1), .val (.int p2), .val (.int p3), .val (.int (1 : Int32)), .val (.ref b1), .val (.int (0 : Int32)), .val (.ref bx4)] [(.int (p2 + (0 : Int32))), (.int p2)])) _
        refine XS.icmpNo X18.here hx rfl (hb hby at_148) rfl (teq (own_add0 p2)).2 ?_
        show Steps p.tables e below (T18.setTop (mkF m 151 #[.val (.int p1), .val (.int p2), .val (.int p3), .val (.int (1 : Int32)), .val (.ref b1), .val (.int (0 : Int32)), .val (.ref bx4)] [])) _
        refine XS.iconst X18.here hx rfl (hb hby at_151) ?_
        show Steps p.tables e below (T18.setTop (mkF m 152 #[.val (.int p1), .val (.int p2), .val (.int p3), .val (.int (1 : Int32)), .val (.ref b1), .val (.int (0 : Int32)), .val (.ref bx4)] [(.int (1 : Int32))])) _
        refine XS.goto X18.here hx rfl (pc0 := 152) (pc' := 156) rfl (hb hby at_152) (by decide) (by decide) ?_
        show Steps p.tables e below (T18.setTop (mkF m 156 #[.val (.int p1), .val (.int p2), .val (.int p3), .val (.int (1 : Int32)), .val (.ref b1), .val (.int (0 : Int32)), .val (.ref bx4)] [(.int (1 : Int32))])) _
        exact retN X18 hx (t := .boolean) Bd.returns (by simp) (hb hby at_156) hr
      · show Q0 n0 _ T18.heap _
        rw [r18]
        exact ⟨rfl, N18⟩
  · have R19 : ∀ tg, Steps p.tables e below (T7.setTop (mkF m 29 #[.val (.int p1), .val (.int p2), .val (.int p3), .val (.int (2 : Int32)), .val (.ref b1), .unset, .unset] [])) tg → Steps p.tables e below (T7.setTop (mkF m 29 #[.val (.int p1), .val (.int p2), .val (.int p3), .val (.int ((1 : Int32) + ((p1 &&& (2147483647 : Int32)) % (6 : Int32)))), .val (.ref b1), .unset, .unset] [])) tg := fun tg kt => by rw [hk9]; exact kt
    have f20 := ((f3.keep kp4 all0).keep kp7 (allS (f5.2.2.2.2.2.2.2.2.2.1) (allS (f5.2.2.2.2.2.2.2.2.2.2.1) (allS (f5.2.2.2.2.2.2.2.2.2.2.2.1) all0))))
    obtain ⟨_, _, ⟨T21, L21, k21, n21⟩, -, X21, ⟨Lc21, hQ21, l21, y21, z21⟩, st21⟩ := Jvm.LawKit.callS X7 hx (y := (⟨"java/lang/Integer", "valueOf", "(I)Ljava/lang/Integer;"⟩ : MethodName)) hown (mvT hZ (hw _ (List.mem_of_getElem? (i := 30) rfl))) (mvT hZ (hw _ (List.mem_of_getElem? (i := 31) rfl))) (mvT hZ (hw _ (List.mem_of_getElem? (i := 32) rfl))) (mvT hZ (hw _ (List.mem_of_getElem? (i := 33) rfl))) (by decide) (backOf (W := 1) (rmIV l Z a0 hw [] (p2 + (1 : Int32)) ca cc T7.heap n0 Z7 f20 hS0 hS1 hB1) hZ (hw _ (List.mem_of_getElem? (i := 33) rfl)) (hw _ (List.mem_of_getElem? (i := 32) rfl)) (by decide) (by decide)) (g := (mkF m 39 #[.val (.int p1), .val (.int p2), .val (.int p3), .val (.int (2 : Int32)), .val (.ref b1), .unset, .unset] [(.int (p2 + (1 : Int32))), (.ref b1)])) rfl (by rw [hml]; rfl) (argsL := [(.int (p2 + (1 : Int32)))]) (rest := [(.ref b1)]) (lenOf pd_4 rfl) rfl (by show 2 * 0 + _ ≤ _; exact Nat.le_of_eq rfl) (hb hby at_39) (fun _ _ => ⟨rfl, rfl, (by decide : 4 + 1 ≤ _), (by decide : 9 + 1 ≤ _)⟩)
    dsimp only [Pt.U, Pt.locs, Pt.cells, Pt.slots] at X21 l21 y21 z21 st21 hQ21
    subst l21 y21 z21
    obtain ⟨bx21, hv21, N21q, kp21, EB21, FB21⟩ := hQ21
    subst hv21
    have N21 := Fr.app N7 N21q
    have Z21 : n0 ≤ T21.heap.size := Nat.le_trans Z7 kp21.1
    have f22 := (CLs.keep hC7' kp21)
    have f23 := ((EB4.keep kp7).keep kp21)
    have nq25_bx21_b1 : bx21 ≠ b1 := ne_exa EB21 f22.1 (by decide)
    have nq25_bx21_ch2 : bx21 ≠ ch2 := own_ne_arv EB21 (hw _ (List.mem_of_getElem? (i := 70) rfl)) f22.2.2.2.2.1
    have nq25_bx21_ea2 : bx21 ≠ ea2 := own_ne_arv EB21 (hw _ (List.mem_of_getElem? (i := 70) rfl)) f22.2.2.2.2.2.1
    obtain ⟨cq26, kq26, q26a, q26b, q26c⟩ := isOf hZ rfl f22.1
    obtain ⟨_, _, ⟨T26, L26, k26, n26⟩, -, X26, ⟨Lc26, hQ26, l26, y26, z26⟩, st26⟩ := X21.virtualBack hx (y := (⟨"com/example/anchored_threads/anchoredthreads/internal/ChunkedList", "add", "(Ljava/lang/Object;)Z"⟩ : MethodName)) (z := (⟨"com/example/anchored_threads/anchoredthreads/internal/ChunkedList", "add", "(Ljava/lang/Object;)Z"⟩ : MethodName)) hown (mvT hZ (hw _ (List.mem_of_getElem? (i := 37) rfl))) (mvT hZ (hw _ (List.mem_of_getElem? (i := 38) rfl))) (notFace_of_selects (args := #[]) (mvT hZ (hw _ (List.mem_of_getElem? (i := 40) rfl)))) (mvT hZ (hw _ (List.mem_of_getElem? (i := 40) rfl))) (mvT hZ (hw _ (List.mem_of_getElem? (i := 39) rfl))) (by decide) (backOf (W := 0) (rmAd l Z a0 hw [] b1 bx21 ch2 ea2 kc2 ke2 (1 : Int32) mc7 (4 : Int32) [(.ref bx4), .null, .null, .null] 1 T21.heap n0 Z21 f22 EB21 (by decide) (by decide) (by decide) ⟨by decide, by decide⟩ rfl (Nat.le_of_ble_eq_true rfl)) hZ (hw _ (List.mem_of_getElem? (i := 41) rfl)) (hw _ (List.mem_of_getElem? (i := 3) rfl)) (by decide) (by decide)) q26a q26c (g := (mkF m 42 #[.val (.int p1), .val (.int p2), .val (.int p3), .val (.int (2 : Int32)), .val (.ref b1), .unset, .unset] [(.ref bx21), (.ref b1)])) rfl (by rw [hml]; rfl) (Steps.refl _) (argsL := [(.ref bx21)]) (rest := []) (lenOf pd_5 rfl) rfl (by show 2 * 0 + _ ≤ _; exact Nat.le_of_eq rfl) (hb hby at_42) (fun _ _ => ⟨rfl, rfl, (by decide : 5 + 0 ≤ _), (by decide : 10 + 0 ≤ _)⟩)
    dsimp only [Pt.U, Pt.locs, Pt.cells, Pt.slots] at X26 l26 y26 z26 st26 hQ26
    subst l26 y26 z26
    obtain ⟨hv26, N26q, kp26, mc26, hC26⟩ := hQ26
    subst hv26
    have N26 := Fr.app N21 N26q
    have Z26 : n0 ≤ T26.heap.size := Nat.le_trans Z21 kp26.1
    have hC26' : CLs Z n0 T26.heap b1 ch2 ea2 kc2 ke2 (2 : Int32) mc26 (4 : Int32) [(.ref bx4), (.ref bx21), .null, .null] := by
      have q := hC26
      rw [show ((1 : Int32) + 1) = (2 : Int32) from by decide] at q
      exact q
    have R27 : ∀ tg, Steps p.tables e below (T26.setTop (mkF m 122 #[.val (.int p1), .val (.int p2), .val (.int p3), .val (.int (2 : Int32)), .val (.ref b1), .val (.int ((p3 &&& (2147483647 : Int32)) % (2 : Int32))), .unset] [])) tg → Steps p.tables e below (T7.setTop (mkF m 29 #[.val (.int p1), .val (.int p2), .val (.int p3), .val (.int (2 : Int32)), .val (.ref b1), .unset, .unset] [])) tg := by
      intro tg kt
      refine XS.iloadN X7.here hx rfl (hb hby at_29) rfl ?_
      show Steps p.tables e below (T7.setTop (mkF m 30 #[.val (.int p1), .val (.int p2), .val (.int p3), .val (.int (2 : Int32)), .val (.ref b1), .unset, .unset] [(.int (2 : Int32))])) _
      refine XS.iconst X7.here hx rfl (hb hby at_30) ?_
      show Steps p.tables e below (T7.setTop (mkF m 31 #[.val (.int p1), .val (.int p2), .val (.int p3), .val (.int (2 : Int32)), .val (.ref b1), .unset, .unset] [(.int (1 : Int32)), (.int (2 : Int32))])) _
      refine XS.icmpNo X7.here hx rfl (hb hby at_31) rfl (tlt (by decide : (1 : Int32) < (2 : Int32))).2.2.2 ?_
      show Steps p.tables e below (T7.setTop (mkF m 34 #[.val (.int p1), .val (.int p2), .val (.int p3), .val (.int (2 : Int32)), .val (.ref b1), .unset, .unset] [])) _
      refine XS.aload X7.here hx rfl (hb hby at_34) rfl rfl ?_
      show Steps p.tables e below (T7.setTop (mkF m 36 #[.val (.int p1), .val (.int p2), .val (.int p3), .val (.int (2 : Int32)), .val (.ref b1), .unset, .unset] [(.ref b1)])) _
      refine XS.iloadN X7.here hx rfl (hb hby at_36) rfl ?_
      show Steps p.tables e below (T7.setTop (mkF m 37 #[.val (.int p1), .val (.int p2), .val (.int p3), .val (.int (2 : Int32)), .val (.ref b1), .unset, .unset] [(.int p2), (.ref b1)])) _
      refine XS.iconst X7.here hx rfl (hb hby at_37) ?_
      show Steps p.tables e below (T7.setTop (mkF m 38 #[.val (.int p1), .val (.int p2), .val (.int p3), .val (.int (2 : Int32)), .val (.ref b1), .unset, .unset] [(.int (1 : Int32)), (.int p2), (.ref b1)])) _
      refine XS.iadd X7.here hx rfl (hb hby at_38) rfl ?_
      show Steps p.tables e below (T7.setTop (mkF m 39 #[.val (.int p1), .val (.int p2), .val (.int p3), .val (.int (2 : Int32)), .val (.ref b1), .unset, .unset] [(.int (p2 + (1 : Int32))), (.ref b1)])) _
      refine st21 _ ?_
      show Steps p.tables e below (T21.setTop (mkF m 42 #[.val (.int p1), .val (.int p2), .val (.int p3), .val (.int (2 : Int32)), .val (.ref b1), .unset, .unset] [(.ref bx21), (.ref b1)])) _
      refine st26.trans ?_
      show Steps p.tables e below (T26.setTop (mkF m 45 #[.val (.int p1), .val (.int p2), .val (.int p3), .val (.int (2 : Int32)), .val (.ref b1), .unset, .unset] [(.int (1 : Int32))])) _
      refine XS.pop X26.here hx rfl (hb hby at_45) rfl rfl ?_
      show Steps p.tables e below (T26.setTop (mkF m 46 #[.val (.int p1), .val (.int p2), .val (.int p3), .val (.int (2 : Int32)), .val (.ref b1), .unset, .unset] [])) _
      refine XS.iloadN X26.here hx rfl (hb hby at_46) rfl ?_
      show Steps p.tables e below (T26.setTop (mkF m 47 #[.val (.int p1), .val (.int p2), .val (.int p3), .val (.int (2 : Int32)), .val (.ref b1), .unset, .unset] [(.int (2 : Int32))])) _
      refine XS.iconst X26.here hx rfl (hb hby at_47) ?_
      show Steps p.tables e below (T26.setTop (mkF m 48 #[.val (.int p1), .val (.int p2), .val (.int p3), .val (.int (2 : Int32)), .val (.ref b1), .unset, .unset] [(.int (2 : Int32)), (.int (2 : Int32))])) _
      refine XS.icmpYes X26.here hx rfl (pc0 := 48) (pc' := 63) rfl (hb hby at_48) rfl (flt (by decide : ¬ ((2 : Int32) < (2 : Int32)))).2.2.2 (by decide) (by decide) ?_
      show Steps p.tables e below (T26.setTop (mkF m 63 #[.val (.int p1), .val (.int p2), .val (.int p3), .val (.int (2 : Int32)), .val (.ref b1), .unset, .unset] [])) _
      refine XS.iloadN X26.here hx rfl (hb hby at_63) rfl ?_
      show Steps p.tables e below (T26.setTop (mkF m 64 #[.val (.int p1), .val (.int p2), .val (.int p3), .val (.int (2 : Int32)), .val (.ref b1), .unset, .unset] [(.int (2 : Int32))])) _
      refine XS.iconst X26.here hx rfl (hb hby at_64) ?_
      show Steps p.tables e below (T26.setTop (mkF m 65 #[.val (.int p1), .val (.int p2), .val (.int p3), .val (.int (2 : Int32)), .val (.ref b1), .unset, .unset] [(.int (3 : Int32)), (.int (2 : Int32))])) _
      refine XS.icmpYes X26.here hx rfl (pc0 := 65) (pc' := 80) rfl (hb hby at_65) rfl (flt (by decide : ¬ ((3 : Int32) < (2 : Int32)))).2.2.2 (by decide) (by decide) ?_
      show Steps p.tables e below (T26.setTop (mkF m 80 #[.val (.int p1), .val (.int p2), .val (.int p3), .val (.int (2 : Int32)), .val (.ref b1), .unset, .unset] [])) _
      refine XS.iloadN X26.here hx rfl (hb hby at_80) rfl ?_
      show Steps p.tables e below (T26.setTop (mkF m 81 #[.val (.int p1), .val (.int p2), .val (.int p3), .val (.int (2 : Int32)), .val (.ref b1), .unset, .unset] [(.int (2 : Int32))])) _
      refine XS.iconst X26.here hx rfl (hb hby at_81) ?_
      show Steps p.tables e below (T26.setTop (mkF m 82 #[.val (.int p1), .val (.int p2), .val (.int p3), .val (.int (2 : Int32)), .val (.ref b1), .unset, .unset] [(.int (4 : Int32)), (.int (2 : Int32))])) _
      refine XS.icmpYes X26.here hx rfl (pc0 := 82) (pc' := 97) rfl (hb hby at_82) rfl (flt (by decide : ¬ ((4 : Int32) < (2 : Int32)))).2.2.2 (by decide) (by decide) ?_
      show Steps p.tables e below (T26.setTop (mkF m 97 #[.val (.int p1), .val (.int p2), .val (.int p3), .val (.int (2 : Int32)), .val (.ref b1), .unset, .unset] [])) _
      refine XS.iloadN X26.here hx rfl (hb hby at_97) rfl ?_
      show Steps p.tables e below (T26.setTop (mkF m 98 #[.val (.int p1), .val (.int p2), .val (.int p3), .val (.int (2 : Int32)), .val (.ref b1), .unset, .unset] [(.int (2 : Int32))])) _
      refine XS.iconst X26.here hx rfl (hb hby at_98) ?_
      show Steps p.tables e below (T26.setTop (mkF m 99 #[.val (.int p1), .val (.int p2), .val (.int p3), .val (.int (2 : Int32)), .val (.ref b1), .unset, .unset] [(.int (5 : Int32)), (.int (2 : Int32))])) _
      refine XS.icmpYes X26.here hx rfl (pc0 := 99) (pc' := 114) rfl (hb hby at_99) rfl (flt (by decide : ¬ ((5 : Int32) < (2 : Int32)))).2.2.2 (by decide) (by decide) ?_
      show Steps p.tables e below (T26.setTop (mkF m 114 #[.val (.int p1), .val (.int p2), .val (.int p3), .val (.int (2 : Int32)), .val (.ref b1), .unset, .unset] [])) _
      refine XS.iloadN X26.here hx rfl (hb hby at_114) rfl ?_
      show Steps p.tables e below (T26.setTop (mkF m 115 #[.val (.int p1), .val (.int p2), .val (.int p3), .val (.int (2 : Int32)), .val (.ref b1), .unset, .unset] [(.int p3)])) _
      refine X26.ldcInt hx hown (mvT hZ (hw _ (List.mem_of_getElem? (i := 0) rfl))) (g := (mkF m 115 #[.val (.int p1), .val (.int p2), .val (.int p3), .val (.int (2 : Int32)), .val (.ref b1), .unset, .unset] [(.int p3)])) rfl (hb hby at_115) _ ?_
      show Steps p.tables e below (T26.setTop (mkF m 117 #[.val (.int p1), .val (.int p2), .val (.int p3), .val (.int (2 : Int32)), .val (.ref b1), .unset, .unset] [(.int (2147483647 : Int32)), (.int p3)])) _
      refine XS.iand X26.here hx rfl (hb hby at_117) rfl ?_
      show Steps p.tables e below (T26.setTop (mkF m 118 #[.val (.int p1), .val (.int p2), .val (.int p3), .val (.int (2 : Int32)), .val (.ref b1), .unset, .unset] [(.int (p3 &&& (2147483647 : Int32)))])) _
      refine XS.iloadN X26.here hx rfl (hb hby at_118) rfl ?_
      show Steps p.tables e below (T26.setTop (mkF m 119 #[.val (.int p1), .val (.int p2), .val (.int p3), .val (.int (2 : Int32)), .val (.ref b1), .unset, .unset] [(.int (2 : Int32)), (.int (p3 &&& (2147483647 : Int32)))])) _
      refine iremM (g := (mkF m 119 #[.val (.int p1), .val (.int p2), .val (.int p3), .val (.int (2 : Int32)), .val (.ref b1), .unset, .unset] [(.int (2 : Int32)), (.int (p3 &&& (2147483647 : Int32)))])) X26 hx rfl (hb hby at_119) rfl (by decide) ?_
      show Steps p.tables e below (T26.setTop (mkF m 120 #[.val (.int p1), .val (.int p2), .val (.int p3), .val (.int (2 : Int32)), .val (.ref b1), .unset, .unset] [(.int ((p3 &&& (2147483647 : Int32)) % (2 : Int32)))])) _
      refine XS.istore X26.here hx rfl (hb hby at_120) rfl (l' := #[.val (.int p1), .val (.int p2), .val (.int p3), .val (.int (2 : Int32)), .val (.ref b1), .val (.int ((p3 &&& (2147483647 : Int32)) % (2 : Int32))), .unset]) rfl ?_
      show Steps p.tables e below (T26.setTop (mkF m 122 #[.val (.int p1), .val (.int p2), .val (.int p3), .val (.int (2 : Int32)), .val (.ref b1), .val (.int ((p3 &&& (2147483647 : Int32)) % (2 : Int32))), .unset] [])) _
      exact kt
    rcases own_m2 p3 with hk28 | hk28
    · have R29 : ∀ tg, Steps p.tables e below (T26.setTop (mkF m 122 #[.val (.int p1), .val (.int p2), .val (.int p3), .val (.int (2 : Int32)), .val (.ref b1), .val (.int (0 : Int32)), .unset] [])) tg → Steps p.tables e below (T26.setTop (mkF m 122 #[.val (.int p1), .val (.int p2), .val (.int p3), .val (.int (2 : Int32)), .val (.ref b1), .val (.int ((p3 &&& (2147483647 : Int32)) % (2 : Int32))), .unset] [])) tg := fun tg kt => by rw [hk28]; exact kt
      obtain ⟨cq30, kq30, q30a, q30b, q30c⟩ := isOf hZ rfl hC26'.1
      obtain ⟨_, _, ⟨T30, L30, k30, n30⟩, -, X30, ⟨Lc30, hQ30, l30, y30, z30⟩, st30⟩ := X26.virtualBack hx (y := (⟨"com/example/anchored_threads/anchoredthreads/internal/ChunkedList", "get", "(I)Ljava/lang/Object;"⟩ : MethodName)) (z := (⟨"com/example/anchored_threads/anchoredthreads/internal/ChunkedList", "get", "(I)Ljava/lang/Object;"⟩ : MethodName)) hown (mvT hZ (hw _ (List.mem_of_getElem? (i := 47) rfl))) (mvT hZ (hw _ (List.mem_of_getElem? (i := 48) rfl))) (notFace_of_selects (args := #[]) (mvT hZ (hw _ (List.mem_of_getElem? (i := 50) rfl)))) (mvT hZ (hw _ (List.mem_of_getElem? (i := 50) rfl))) (mvT hZ (hw _ (List.mem_of_getElem? (i := 49) rfl))) (by decide) (backOf (W := 0) (rmGt l Z a0 hw [] b1 ch2 ea2 kc2 ke2 (2 : Int32) mc26 (4 : Int32) [(.ref bx4), (.ref bx21), .null, .null] (0 : Int32) bx4 T26.heap n0 Z26 hC26' (by decide) (by decide) (by decide) (by decide) ⟨by decide, by decide⟩ rfl) hZ (hw _ (List.mem_of_getElem? (i := 51) rfl)) (hw _ (List.mem_of_getElem? (i := 3) rfl)) (by decide) (by decide)) q30a q30c (g := (mkF m 126 #[.val (.int p1), .val (.int p2), .val (.int p3), .val (.int (2 : Int32)), .val (.ref b1), .val (.int (0 : Int32)), .unset] [(.int (0 : Int32)), (.ref b1)])) rfl (by rw [hml]; rfl) (Steps.refl _) (argsL := [(.int (0 : Int32))]) (rest := []) (lenOf pd_6 rfl) rfl (by show 2 * 0 + _ ≤ _; exact Nat.le_of_eq rfl) (hb hby at_126) (fun _ _ => ⟨rfl, rfl, (by decide : 5 + 0 ≤ _), (by decide : 10 + 0 ≤ _)⟩)
      dsimp only [Pt.U, Pt.locs, Pt.cells, Pt.slots] at X30 l30 y30 z30 st30 hQ30
      subst l30 y30 z30
      obtain ⟨hv30, N30q, r30⟩ := hQ30
      subst hv30
      have N30 := Fr.app N26 N30q
      have f31 := (f23.keep kp26)
      obtain ⟨T32, X32, e32, st32⟩ := castY X30 hx hZ hown (hw _ (List.mem_of_getElem? (i := 60) rfl)) r30 (Ins.self f31) (g := (mkF m 129 #[.val (.int p1), .val (.int p2), .val (.int p3), .val (.int (2 : Int32)), .val (.ref b1), .val (.int (0 : Int32)), .unset] [(.ref bx4)])) rfl rfl (hb hby at_129)
      have f33 := (((FB4.keep kp7 (ninS nq6_bx4_b1 (ninS nq6_bx4_ch2 (ninS nq6_bx4_ea2 nin0)))).keep kp21 nin0).keep kp26 (ninS nq6_bx4_b1 (ninS nq6_bx4_ch2 (ninS nq6_bx4_ea2 nin0))))
      obtain ⟨cq34, kq34, q34a, q34b, q34c⟩ := isOf hZ e32 f31
      obtain ⟨_, _, ⟨T34, L34, k34, n34⟩, -, X34, ⟨Lc34, hQ34, l34, y34, z34⟩, st34⟩ := X32.virtualBack hx (y := (⟨"java/lang/Integer", "intValue", "()I"⟩ : MethodName)) (z := (⟨"java/lang/Integer", "intValue", "()I"⟩ : MethodName)) hown (mvT hZ (hw _ (List.mem_of_getElem? (i := 62) rfl))) (mvT hZ (hw _ (List.mem_of_getElem? (i := 63) rfl))) (notFace_of_selects (args := #[]) (mvT hZ (hw _ (List.mem_of_getElem? (i := 65) rfl)))) (mvT hZ (hw _ (List.mem_of_getElem? (i := 65) rfl))) (mvT hZ (hw _ (List.mem_of_getElem? (i := 64) rfl))) (by decide) (backOf (W := 0) (rmIn l Z a0 hw [] bx4 p2 T26.heap n0 Z26 f33) hZ (hw _ (List.mem_of_getElem? (i := 66) rfl)) (hw _ (List.mem_of_getElem? (i := 32) rfl)) (by decide) (by decide)) q34a q34c (g := (mkF m 141 #[.val (.int p1), .val (.int p2), .val (.int p3), .val (.int (2 : Int32)), .val (.ref b1), .val (.int (0 : Int32)), .val (.ref bx4)] [(.ref bx4)])) rfl (by rw [hml]; rfl) (Steps.refl _) (argsL := []) (rest := []) (lenOf pd_7 rfl) rfl (by show 2 * 0 + _ ≤ _; exact Nat.le_of_eq rfl) (hb hby at_141) (fun _ _ => ⟨rfl, e32, (by decide : 5 + 0 ≤ _), (by decide : 10 + 0 ≤ _)⟩)
      dsimp only [Pt.U, Pt.locs, Pt.cells, Pt.slots] at X34 l34 y34 z34 st34 hQ34
      subst l34 y34 z34
      obtain ⟨hv34, N34q, r34⟩ := hQ34
      subst hv34
      have N34 := Fr.app N30 N34q
      obtain ⟨fs, hr, hrun, hended, hW, hsame⟩ := X34.leave (v := some (.int (1 : Int32))) (fun h => by rw [Bd.returns] at h; cases h)
      refine ⟨_, _, pre0 _ (R8 _ (R19 _ (R27 _ (R29 _ ?_)))), hrun, hended, _, _, rfl, ?_, ⟨_, rfl⟩, hW, hsame.mono (by decide) (by decide)⟩
      · show Steps p.tables e below (T26.setTop (mkF m 122 #[.val (.int p1), .val (.int p2), .val (.int p3), .val (.int (2 : Int32)), .val (.ref b1), .val (.int (0 : Int32)), .unset] [])) _
        refine XS.aload X26.here hx rfl (hb hby at_122) rfl rfl ?_
        show Steps p.tables e below (T26.setTop (mkF m 124 #[.val (.int p1), .val (.int p2), .val (.int p3), .val (.int (2 : Int32)), .val (.ref b1), .val (.int (0 : Int32)), .unset] [(.ref b1)])) _
        refine XS.iload X26.here hx rfl (hb hby at_124) rfl ?_
        show Steps p.tables e below (T26.setTop (mkF m 126 #[.val (.int p1), .val (.int p2), .val (.int p3), .val (.int (2 : Int32)), .val (.ref b1), .val (.int (0 : Int32)), .unset] [(.int (0 : Int32)), (.ref b1)])) _
        refine st30.trans ?_
        show Steps p.tables e below (T30.setTop (mkF m 129 #[.val (.int p1), .val (.int p2), .val (.int p3), .val (.int (2 : Int32)), .val (.ref b1), .val (.int (0 : Int32)), .unset] [(.ref bx4)])) _
        refine st32 _ ?_
        show Steps p.tables e below (T32.setTop (mkF m 132 #[.val (.int p1), .val (.int p2), .val (.int p3), .val (.int (2 : Int32)), .val (.ref b1), .val (.int (0 : Int32)), .unset] [(.ref bx4)])) _
        refine XS.astore X32.here hx rfl (hb hby at_132) rfl rfl (l' := #[.val (.int p1), .val (.int p2), .val (.int p3), .val (.int (2 : Int32)), .val (.ref b1), .val (.int (0 : Int32)), .val (.ref bx4)]) rfl ?_
        show Steps p.tables e below (T32.setTop (mkF m 134 #[.val (.int p1), .val (.int p2), .val (.int p3), .val (.int (2 : Int32)), .val (.ref b1), .val (.int (0 : Int32)), .val (.ref bx4)] [])) _
        refine XS.aload X32.here hx rfl (hb hby at_134) rfl rfl ?_
        show Steps p.tables e below (T32.setTop (mkF m 136 #[.val (.int p1), .val (.int p2), .val (.int p3), .val (.int (2 : Int32)), .val (.ref b1), .val (.int (0 : Int32)), .val (.ref bx4)] [(.ref bx4)])) _
        refine XS.ifnullNo X32.here hx rfl (hb hby at_136) rfl ?_
        show Steps p.tables e below (T32.setTop (mkF m 139 #[.val (.int p1), .val (.int p2), .val (.int p3), .val (.int (2 : Int32)), .val (.ref b1), .val (.int (0 : Int32)), .val (.ref bx4)] [])) _
        refine XS.aload X32.here hx rfl (hb hby at_139) rfl rfl ?_
        show Steps p.tables e below (T32.setTop (mkF m 141 #[.val (.int p1), .val (.int p2), .val (.int p3), .val (.int (2 : Int32)), .val (.ref b1), .val (.int (0 : Int32)), .val (.ref bx4)] [(.ref bx4)])) _
        refine st34.trans ?_
        show Steps p.tables e below (T34.setTop (mkF m 144 #[.val (.int p1), .val (.int p2), .val (.int p3), .val (.int (2 : Int32)), .val (.ref b1), .val (.int (0 : Int32)), .val (.ref bx4)] [(.int p2)])) _
        refine XS.iloadN X34.here hx rfl (hb hby at_144) rfl ?_
        show Steps p.tables e below (T34.setTop (mkF m 145 #[.val (.int p1), .val (.int p2), .val (.int p3), .val (.int (2 : Int32)), .val (.ref b1), .val (.int (0 : Int32)), .val (.ref bx4)] [(.int p2), (.int p2)])) _
        refine XS.iload X34.here hx rfl (hb hby at_145) rfl ?_
        show Steps p.tables e below (T34.setTop (mkF m 147 #[.val (.int p1), .val (.int p2), .val (.int p3), .val (.int (2 : Int32)), .val (.ref b1), .val (.int (0 : Int32)), .val (.ref bx4)] [(.int (0 : Int32)), (.int p2), (.int p2)])) _
        refine XS.iadd X34.here hx rfl (hb hby at_147) rfl ?_
        show Steps p.tables e below (T34.setTop (mkF m 148 #[.val (.int p1), .val (.int p2), .val (.int p3), .val (.int (2 : Int32)), .val (.ref b1), .val (.int (0 : Int32)), .val (.ref bx4)] [(.int (p2 + (0 : Int32))), (.int p2)])) _
        refine XS.icmpNo X34.here hx rfl (hb hby at_148) rfl (teq (own_add0 p2)).2 ?_
        show Steps p.tables e below (T34.setTop (mkF m 151 #[.val (.int p1), .val (.int p2), .val (.int p3), .val (.int (2 : Int32)), .val (.ref b1), .val (.int (0 : Int32)), .val (.ref bx4)] [])) _
        refine XS.iconst X34.here hx rfl (hb hby at_151) ?_
        show Steps p.tables e below (T34.setTop (mkF m 152 #[.val (.int p1), .val (.int p2), .val (.int p3), .val (.int (2 : Int32)), .val (.ref b1), .val (.int (0 : Int32)), .val (.ref bx4)] [(.int (1 : Int32))])) _
        refine XS.goto X34.here hx rfl (pc0 := 152) (pc' := 156) rfl (hb hby at_152) (by decide) (by decide) ?_
        show Steps p.tables e below (T34.setTop (mkF m 156 #[.val (.int p1), .val (.int p2), .val (.int p3), .val (.int (2 : Int32)), .val (.ref b1), .val (.int (0 : Int32)), .val (.ref bx4)] [(.int (1 : Int32))])) _
        exact retN X34 hx (t := .boolean) Bd.returns (by simp) (hb hby at_156) hr
      · show Q0 n0 _ T34.heap _
        rw [r34]
        exact ⟨rfl, N34⟩
    · have R35 : ∀ tg, Steps p.tables e below (T26.setTop (mkF m 122 #[.val (.int p1), .val (.int p2), .val (.int p3), .val (.int (2 : Int32)), .val (.ref b1), .val (.int (1 : Int32)), .unset] [])) tg → Steps p.tables e below (T26.setTop (mkF m 122 #[.val (.int p1), .val (.int p2), .val (.int p3), .val (.int (2 : Int32)), .val (.ref b1), .val (.int ((p3 &&& (2147483647 : Int32)) % (2 : Int32))), .unset] [])) tg := fun tg kt => by rw [hk28]; exact kt
      obtain ⟨cq36, kq36, q36a, q36b, q36c⟩ := isOf hZ rfl hC26'.1
      obtain ⟨_, _, ⟨T36, L36, k36, n36⟩, -, X36, ⟨Lc36, hQ36, l36, y36, z36⟩, st36⟩ := X26.virtualBack hx (y := (⟨"com/example/anchored_threads/anchoredthreads/internal/ChunkedList", "get", "(I)Ljava/lang/Object;"⟩ : MethodName)) (z := (⟨"com/example/anchored_threads/anchoredthreads/internal/ChunkedList", "get", "(I)Ljava/lang/Object;"⟩ : MethodName)) hown (mvT hZ (hw _ (List.mem_of_getElem? (i := 47) rfl))) (mvT hZ (hw _ (List.mem_of_getElem? (i := 48) rfl))) (notFace_of_selects (args := #[]) (mvT hZ (hw _ (List.mem_of_getElem? (i := 50) rfl)))) (mvT hZ (hw _ (List.mem_of_getElem? (i := 50) rfl))) (mvT hZ (hw _ (List.mem_of_getElem? (i := 49) rfl))) (by decide) (backOf (W := 0) (rmGt l Z a0 hw [] b1 ch2 ea2 kc2 ke2 (2 : Int32) mc26 (4 : Int32) [(.ref bx4), (.ref bx21), .null, .null] (1 : Int32) bx21 T26.heap n0 Z26 hC26' (by decide) (by decide) (by decide) (by decide) ⟨by decide, by decide⟩ rfl) hZ (hw _ (List.mem_of_getElem? (i := 51) rfl)) (hw _ (List.mem_of_getElem? (i := 3) rfl)) (by decide) (by decide)) q36a q36c (g := (mkF m 126 #[.val (.int p1), .val (.int p2), .val (.int p3), .val (.int (2 : Int32)), .val (.ref b1), .val (.int (1 : Int32)), .unset] [(.int (1 : Int32)), (.ref b1)])) rfl (by rw [hml]; rfl) (Steps.refl _) (argsL := [(.int (1 : Int32))]) (rest := []) (lenOf pd_6 rfl) rfl (by show 2 * 0 + _ ≤ _; exact Nat.le_of_eq rfl) (hb hby at_126) (fun _ _ => ⟨rfl, rfl, (by decide : 5 + 0 ≤ _), (by decide : 10 + 0 ≤ _)⟩)
      dsimp only [Pt.U, Pt.locs, Pt.cells, Pt.slots] at X36 l36 y36 z36 st36 hQ36
      subst l36 y36 z36
      obtain ⟨hv36, N36q, r36⟩ := hQ36
      subst hv36
      have N36 := Fr.app N26 N36q
      have f37 := (EB21.keep kp26)
      obtain ⟨T38, X38, e38, st38⟩ := castY X36 hx hZ hown (hw _ (List.mem_of_getElem? (i := 60) rfl)) r36 (Ins.self f37) (g := (mkF m 129 #[.val (.int p1), .val (.int p2), .val (.int p3), .val (.int (2 : Int32)), .val (.ref b1), .val (.int (1 : Int32)), .unset] [(.ref bx21)])) rfl rfl (hb hby at_129)
      have f39 := (FB21.keep kp26 (ninS nq25_bx21_b1 (ninS nq25_bx21_ch2 (ninS nq25_bx21_ea2 nin0))))
      obtain ⟨cq40, kq40, q40a, q40b, q40c⟩ := isOf hZ e38 f37
      obtain ⟨_, _, ⟨T40, L40, k40, n40⟩, -, X40, ⟨Lc40, hQ40, l40, y40, z40⟩, st40⟩ := X38.virtualBack hx (y := (⟨"java/lang/Integer", "intValue", "()I"⟩ : MethodName)) (z := (⟨"java/lang/Integer", "intValue", "()I"⟩ : MethodName)) hown (mvT hZ (hw _ (List.mem_of_getElem? (i := 62) rfl))) (mvT hZ (hw _ (List.mem_of_getElem? (i := 63) rfl))) (notFace_of_selects (args := #[]) (mvT hZ (hw _ (List.mem_of_getElem? (i := 65) rfl)))) (mvT hZ (hw _ (List.mem_of_getElem? (i := 65) rfl))) (mvT hZ (hw _ (List.mem_of_getElem? (i := 64) rfl))) (by decide) (backOf (W := 0) (rmIn l Z a0 hw [] bx21 (p2 + (1 : Int32)) T26.heap n0 Z26 f39) hZ (hw _ (List.mem_of_getElem? (i := 66) rfl)) (hw _ (List.mem_of_getElem? (i := 32) rfl)) (by decide) (by decide)) q40a q40c (g := (mkF m 141 #[.val (.int p1), .val (.int p2), .val (.int p3), .val (.int (2 : Int32)), .val (.ref b1), .val (.int (1 : Int32)), .val (.ref bx21)] [(.ref bx21)])) rfl (by rw [hml]; rfl) (Steps.refl _) (argsL := []) (rest := []) (lenOf pd_7 rfl) rfl (by show 2 * 0 + _ ≤ _; exact Nat.le_of_eq rfl) (hb hby at_141) (fun _ _ => ⟨rfl, e38, (by decide : 5 + 0 ≤ _), (by decide : 10 + 0 ≤ _)⟩)
      dsimp only [Pt.U, Pt.locs, Pt.cells, Pt.slots] at X40 l40 y40 z40 st40 hQ40
      subst l40 y40 z40
      obtain ⟨hv40, N40q, r40⟩ := hQ40
      subst hv40
      have N40 := Fr.app N36 N40q
      obtain ⟨fs, hr, hrun, hended, hW, hsame⟩ := X40.leave (v := some (.int (1 : Int32))) (fun h => by rw [Bd.returns] at h; cases h)
      refine ⟨_, _, pre0 _ (R8 _ (R19 _ (R27 _ (R35 _ ?_)))), hrun, hended, _, _, rfl, ?_, ⟨_, rfl⟩, hW, hsame.mono (by decide) (by decide)⟩
      · show Steps p.tables e below (T26.setTop (mkF m 122 #[.val (.int p1), .val (.int p2), .val (.int p3), .val (.int (2 : Int32)), .val (.ref b1), .val (.int (1 : Int32)), .unset] [])) _
        refine XS.aload X26.here hx rfl (hb hby at_122) rfl rfl ?_
        show Steps p.tables e below (T26.setTop (mkF m 124 #[.val (.int p1), .val (.int p2), .val (.int p3), .val (.int (2 : Int32)), .val (.ref b1), .val (.int (1 : Int32)), .unset] [(.ref b1)])) _
        refine XS.iload X26.here hx rfl (hb hby at_124) rfl ?_
        show Steps p.tables e below (T26.setTop (mkF m 126 #[.val (.int p1), .val (.int p2), .val (.int p3), .val (.int (2 : Int32)), .val (.ref b1), .val (.int (1 : Int32)), .unset] [(.int (1 : Int32)), (.ref b1)])) _
        refine st36.trans ?_
        show Steps p.tables e below (T36.setTop (mkF m 129 #[.val (.int p1), .val (.int p2), .val (.int p3), .val (.int (2 : Int32)), .val (.ref b1), .val (.int (1 : Int32)), .unset] [(.ref bx21)])) _
        refine st38 _ ?_
        show Steps p.tables e below (T38.setTop (mkF m 132 #[.val (.int p1), .val (.int p2), .val (.int p3), .val (.int (2 : Int32)), .val (.ref b1), .val (.int (1 : Int32)), .unset] [(.ref bx21)])) _
        refine XS.astore X38.here hx rfl (hb hby at_132) rfl rfl (l' := #[.val (.int p1), .val (.int p2), .val (.int p3), .val (.int (2 : Int32)), .val (.ref b1), .val (.int (1 : Int32)), .val (.ref bx21)]) rfl ?_
        show Steps p.tables e below (T38.setTop (mkF m 134 #[.val (.int p1), .val (.int p2), .val (.int p3), .val (.int (2 : Int32)), .val (.ref b1), .val (.int (1 : Int32)), .val (.ref bx21)] [])) _
        refine XS.aload X38.here hx rfl (hb hby at_134) rfl rfl ?_
        show Steps p.tables e below (T38.setTop (mkF m 136 #[.val (.int p1), .val (.int p2), .val (.int p3), .val (.int (2 : Int32)), .val (.ref b1), .val (.int (1 : Int32)), .val (.ref bx21)] [(.ref bx21)])) _
        refine XS.ifnullNo X38.here hx rfl (hb hby at_136) rfl ?_
        show Steps p.tables e below (T38.setTop (mkF m 139 #[.val (.int p1), .val (.int p2), .val (.int p3), .val (.int (2 : Int32)), .val (.ref b1), .val (.int (1 : Int32)), .val (.ref bx21)] [])) _
        refine XS.aload X38.here hx rfl (hb hby at_139) rfl rfl ?_
        show Steps p.tables e below (T38.setTop (mkF m 141 #[.val (.int p1), .val (.int p2), .val (.int p3), .val (.int (2 : Int32)), .val (.ref b1), .val (.int (1 : Int32)), .val (.ref bx21)] [(.ref bx21)])) _
        refine st40.trans ?_
        show Steps p.tables e below (T40.setTop (mkF m 144 #[.val (.int p1), .val (.int p2), .val (.int p3), .val (.int (2 : Int32)), .val (.ref b1), .val (.int (1 : Int32)), .val (.ref bx21)] [(.int (p2 + (1 : Int32)))])) _
        refine XS.iloadN X40.here hx rfl (hb hby at_144) rfl ?_
        show Steps p.tables e below (T40.setTop (mkF m 145 #[.val (.int p1), .val (.int p2), .val (.int p3), .val (.int (2 : Int32)), .val (.ref b1), .val (.int (1 : Int32)), .val (.ref bx21)] [(.int p2), (.int (p2 + (1 : Int32)))])) _
        refine XS.iload X40.here hx rfl (hb hby at_145) rfl ?_
        show Steps p.tables e below (T40.setTop (mkF m 147 #[.val (.int p1), .val (.int p2), .val (.int p3), .val (.int (2 : Int32)), .val (.ref b1), .val (.int (1 : Int32)), .val (.ref bx21)] [(.int (1 : Int32)), (.int p2), (.int (p2 + (1 : Int32)))])) _
        refine XS.iadd X40.here hx rfl (hb hby at_147) rfl ?_
        show Steps p.tables e below (T40.setTop (mkF m 148 #[.val (.int p1), .val (.int p2), .val (.int p3), .val (.int (2 : Int32)), .val (.ref b1), .val (.int (1 : Int32)), .val (.ref bx21)] [(.int (p2 + (1 : Int32))), (.int (p2 + (1 : Int32)))])) _
        refine XS.icmpNo X40.here hx rfl (hb hby at_148) rfl (teq rfl).2 ?_
        show Steps p.tables e below (T40.setTop (mkF m 151 #[.val (.int p1), .val (.int p2), .val (.int p3), .val (.int (2 : Int32)), .val (.ref b1), .val (.int (1 : Int32)), .val (.ref bx21)] [])) _
        refine XS.iconst X40.here hx rfl (hb hby at_151) ?_
        show Steps p.tables e below (T40.setTop (mkF m 152 #[.val (.int p1), .val (.int p2), .val (.int p3), .val (.int (2 : Int32)), .val (.ref b1), .val (.int (1 : Int32)), .val (.ref bx21)] [(.int (1 : Int32))])) _
        refine XS.goto X40.here hx rfl (pc0 := 152) (pc' := 156) rfl (hb hby at_152) (by decide) (by decide) ?_
        show Steps p.tables e below (T40.setTop (mkF m 156 #[.val (.int p1), .val (.int p2), .val (.int p3), .val (.int (2 : Int32)), .val (.ref b1), .val (.int (1 : Int32)), .val (.ref bx21)] [(.int (1 : Int32))])) _
        exact retN X40 hx (t := .boolean) Bd.returns (by simp) (hb hby at_156) hr
      · show Q0 n0 _ T40.heap _
        rw [r40]
        exact ⟨rfl, N40⟩
  · have R41 : ∀ tg, Steps p.tables e below (T7.setTop (mkF m 29 #[.val (.int p1), .val (.int p2), .val (.int p3), .val (.int (3 : Int32)), .val (.ref b1), .unset, .unset] [])) tg → Steps p.tables e below (T7.setTop (mkF m 29 #[.val (.int p1), .val (.int p2), .val (.int p3), .val (.int ((1 : Int32) + ((p1 &&& (2147483647 : Int32)) % (6 : Int32)))), .val (.ref b1), .unset, .unset] [])) tg := fun tg kt => by rw [hk9]; exact kt
    have f42 := ((f3.keep kp4 all0).keep kp7 (allS (f5.2.2.2.2.2.2.2.2.2.1) (allS (f5.2.2.2.2.2.2.2.2.2.2.1) (allS (f5.2.2.2.2.2.2.2.2.2.2.2.1) all0))))
    obtain ⟨_, _, ⟨T43, L43, k43, n43⟩, -, X43, ⟨Lc43, hQ43, l43, y43, z43⟩, st43⟩ := Jvm.LawKit.callS X7 hx (y := (⟨"java/lang/Integer", "valueOf", "(I)Ljava/lang/Integer;"⟩ : MethodName)) hown (mvT hZ (hw _ (List.mem_of_getElem? (i := 30) rfl))) (mvT hZ (hw _ (List.mem_of_getElem? (i := 31) rfl))) (mvT hZ (hw _ (List.mem_of_getElem? (i := 32) rfl))) (mvT hZ (hw _ (List.mem_of_getElem? (i := 33) rfl))) (by decide) (backOf (W := 1) (rmIV l Z a0 hw [] (p2 + (1 : Int32)) ca cc T7.heap n0 Z7 f42 hS0 hS1 hB1) hZ (hw _ (List.mem_of_getElem? (i := 33) rfl)) (hw _ (List.mem_of_getElem? (i := 32) rfl)) (by decide) (by decide)) (g := (mkF m 39 #[.val (.int p1), .val (.int p2), .val (.int p3), .val (.int (3 : Int32)), .val (.ref b1), .unset, .unset] [(.int (p2 + (1 : Int32))), (.ref b1)])) rfl (by rw [hml]; rfl) (argsL := [(.int (p2 + (1 : Int32)))]) (rest := [(.ref b1)]) (lenOf pd_4 rfl) rfl (by show 2 * 0 + _ ≤ _; exact Nat.le_of_eq rfl) (hb hby at_39) (fun _ _ => ⟨rfl, rfl, (by decide : 4 + 1 ≤ _), (by decide : 9 + 1 ≤ _)⟩)
    dsimp only [Pt.U, Pt.locs, Pt.cells, Pt.slots] at X43 l43 y43 z43 st43 hQ43
    subst l43 y43 z43
    obtain ⟨bx43, hv43, N43q, kp43, EB43, FB43⟩ := hQ43
    subst hv43
    have N43 := Fr.app N7 N43q
    have Z43 : n0 ≤ T43.heap.size := Nat.le_trans Z7 kp43.1
    have f44 := (CLs.keep hC7' kp43)
    have f45 := ((EB4.keep kp7).keep kp43)
    have nq47_bx43_b1 : bx43 ≠ b1 := ne_exa EB43 f44.1 (by decide)
    have nq47_bx43_ch2 : bx43 ≠ ch2 := own_ne_arv EB43 (hw _ (List.mem_of_getElem? (i := 70) rfl)) f44.2.2.2.2.1
    have nq47_bx43_ea2 : bx43 ≠ ea2 := own_ne_arv EB43 (hw _ (List.mem_of_getElem? (i := 70) rfl)) f44.2.2.2.2.2.1
    obtain ⟨cq48, kq48, q48a, q48b, q48c⟩ := isOf hZ rfl f44.1
    obtain ⟨_, _, ⟨T48, L48, k48, n48⟩, -, X48, ⟨Lc48, hQ48, l48, y48, z48⟩, st48⟩ := X43.virtualBack hx (y := (⟨"com/example/anchored_threads/anchoredthreads/internal/ChunkedList", "add", "(Ljava/lang/Object;)Z"⟩ : MethodName)) (z := (⟨"com/example/anchored_threads/anchoredthreads/internal/ChunkedList", "add", "(Ljava/lang/Object;)Z"⟩ : MethodName)) hown (mvT hZ (hw _ (List.mem_of_getElem? (i := 37) rfl))) (mvT hZ (hw _ (List.mem_of_getElem? (i := 38) rfl))) (notFace_of_selects (args := #[]) (mvT hZ (hw _ (List.mem_of_getElem? (i := 40) rfl)))) (mvT hZ (hw _ (List.mem_of_getElem? (i := 40) rfl))) (mvT hZ (hw _ (List.mem_of_getElem? (i := 39) rfl))) (by decide) (backOf (W := 0) (rmAd l Z a0 hw [] b1 bx43 ch2 ea2 kc2 ke2 (1 : Int32) mc7 (4 : Int32) [(.ref bx4), .null, .null, .null] 1 T43.heap n0 Z43 f44 EB43 (by decide) (by decide) (by decide) ⟨by decide, by decide⟩ rfl (Nat.le_of_ble_eq_true rfl)) hZ (hw _ (List.mem_of_getElem? (i := 41) rfl)) (hw _ (List.mem_of_getElem? (i := 3) rfl)) (by decide) (by decide)) q48a q48c (g := (mkF m 42 #[.val (.int p1), .val (.int p2), .val (.int p3), .val (.int (3 : Int32)), .val (.ref b1), .unset, .unset] [(.ref bx43), (.ref b1)])) rfl (by rw [hml]; rfl) (Steps.refl _) (argsL := [(.ref bx43)]) (rest := []) (lenOf pd_5 rfl) rfl (by show 2 * 0 + _ ≤ _; exact Nat.le_of_eq rfl) (hb hby at_42) (fun _ _ => ⟨rfl, rfl, (by decide : 5 + 0 ≤ _), (by decide : 10 + 0 ≤ _)⟩)
    dsimp only [Pt.U, Pt.locs, Pt.cells, Pt.slots] at X48 l48 y48 z48 st48 hQ48
    subst l48 y48 z48
    obtain ⟨hv48, N48q, kp48, mc48, hC48⟩ := hQ48
    subst hv48
    have N48 := Fr.app N43 N48q
    have Z48 : n0 ≤ T48.heap.size := Nat.le_trans Z43 kp48.1
    have hC48' : CLs Z n0 T48.heap b1 ch2 ea2 kc2 ke2 (2 : Int32) mc48 (4 : Int32) [(.ref bx4), (.ref bx43), .null, .null] := by
      have q := hC48
      rw [show ((1 : Int32) + 1) = (2 : Int32) from by decide] at q
      exact q
    have f49 := ((f42.keep kp43 all0).keep kp48 (allS (f44.2.2.2.2.2.2.2.2.2.1) (allS (f44.2.2.2.2.2.2.2.2.2.2.1) (allS (f44.2.2.2.2.2.2.2.2.2.2.2.1) all0))))
    obtain ⟨_, _, ⟨T50, L50, k50, n50⟩, -, X50, ⟨Lc50, hQ50, l50, y50, z50⟩, st50⟩ := Jvm.LawKit.callS X48 hx (y := (⟨"java/lang/Integer", "valueOf", "(I)Ljava/lang/Integer;"⟩ : MethodName)) hown (mvT hZ (hw _ (List.mem_of_getElem? (i := 30) rfl))) (mvT hZ (hw _ (List.mem_of_getElem? (i := 31) rfl))) (mvT hZ (hw _ (List.mem_of_getElem? (i := 32) rfl))) (mvT hZ (hw _ (List.mem_of_getElem? (i := 33) rfl))) (by decide) (backOf (W := 1) (rmIV l Z a0 hw [] (p2 + (2 : Int32)) ca cc T48.heap n0 Z48 f49 hS0 hS1 hB1) hZ (hw _ (List.mem_of_getElem? (i := 33) rfl)) (hw _ (List.mem_of_getElem? (i := 32) rfl)) (by decide) (by decide)) (g := (mkF m 56 #[.val (.int p1), .val (.int p2), .val (.int p3), .val (.int (3 : Int32)), .val (.ref b1), .unset, .unset] [(.int (p2 + (2 : Int32))), (.ref b1)])) rfl (by rw [hml]; rfl) (argsL := [(.int (p2 + (2 : Int32)))]) (rest := [(.ref b1)]) (lenOf pd_4 rfl) rfl (by show 2 * 0 + _ ≤ _; exact Nat.le_of_eq rfl) (hb hby at_56) (fun _ _ => ⟨rfl, rfl, (by decide : 5 + 1 ≤ _), (by decide : 10 + 1 ≤ _)⟩)
    dsimp only [Pt.U, Pt.locs, Pt.cells, Pt.slots] at X50 l50 y50 z50 st50 hQ50
    subst l50 y50 z50
    obtain ⟨bx50, hv50, N50q, kp50, EB50, FB50⟩ := hQ50
    subst hv50
    have N50 := Fr.app N48 N50q
    have Z50 : n0 ≤ T50.heap.size := Nat.le_trans Z48 kp50.1
    have f51 := (CLs.keep hC48' kp50)
    have f52 := ((f45.keep kp48).keep kp50)
    have f54 := ((EB43.keep kp48).keep kp50)
    have nq56_bx50_b1 : bx50 ≠ b1 := ne_exa EB50 f51.1 (by decide)
    have nq56_bx50_ch2 : bx50 ≠ ch2 := own_ne_arv EB50 (hw _ (List.mem_of_getElem? (i := 70) rfl)) f51.2.2.2.2.1
    have nq56_bx50_ea2 : bx50 ≠ ea2 := own_ne_arv EB50 (hw _ (List.mem_of_getElem? (i := 70) rfl)) f51.2.2.2.2.2.1
    obtain ⟨cq57, kq57, q57a, q57b, q57c⟩ := isOf hZ rfl f51.1
    obtain ⟨_, _, ⟨T57, L57, k57, n57⟩, -, X57, ⟨Lc57, hQ57, l57, y57, z57⟩, st57⟩ := X50.virtualBack hx (y := (⟨"com/example/anchored_threads/anchoredthreads/internal/ChunkedList", "add", "(Ljava/lang/Object;)Z"⟩ : MethodName)) (z := (⟨"com/example/anchored_threads/anchoredthreads/internal/ChunkedList", "add", "(Ljava/lang/Object;)Z"⟩ : MethodName)) hown (mvT hZ (hw _ (List.mem_of_getElem? (i := 37) rfl))) (mvT hZ (hw _ (List.mem_of_getElem? (i := 38) rfl))) (notFace_of_selects (args := #[]) (mvT hZ (hw _ (List.mem_of_getElem? (i := 40) rfl)))) (mvT hZ (hw _ (List.mem_of_getElem? (i := 40) rfl))) (mvT hZ (hw _ (List.mem_of_getElem? (i := 39) rfl))) (by decide) (backOf (W := 0) (rmAd l Z a0 hw [] b1 bx50 ch2 ea2 kc2 ke2 (2 : Int32) mc48 (4 : Int32) [(.ref bx4), (.ref bx43), .null, .null] 2 T50.heap n0 Z50 f51 EB50 (by decide) (by decide) (by decide) ⟨by decide, by decide⟩ rfl (Nat.le_of_ble_eq_true rfl)) hZ (hw _ (List.mem_of_getElem? (i := 41) rfl)) (hw _ (List.mem_of_getElem? (i := 3) rfl)) (by decide) (by decide)) q57a q57c (g := (mkF m 59 #[.val (.int p1), .val (.int p2), .val (.int p3), .val (.int (3 : Int32)), .val (.ref b1), .unset, .unset] [(.ref bx50), (.ref b1)])) rfl (by rw [hml]; rfl) (Steps.refl _) (argsL := [(.ref bx50)]) (rest := []) (lenOf pd_5 rfl) rfl (by show 2 * 0 + _ ≤ _; exact Nat.le_of_eq rfl) (hb hby at_59) (fun _ _ => ⟨rfl, rfl, (by decide : 6 + 0 ≤ _), (by decide : 11 + 0 ≤ _)⟩)
    dsimp only [Pt.U, Pt.locs, Pt.cells, Pt.slots] at X57 l57 y57 z57 st57 hQ57
    subst l57 y57 z57
    obtain ⟨hv57, N57q, kp57, mc57, hC57⟩ := hQ57
    subst hv57
    have N57 := Fr.app N50 N57q
    have Z57 : n0 ≤ T57.heap.size := Nat.le_trans Z50 kp57.1
    have hC57' : CLs Z n0 T57.heap b1 ch2 ea2 kc2 ke2 (3 : Int32) mc57 (4 : Int32) [(.ref bx4), (.ref bx43), (.ref bx50), .null] := by
      have q := hC57
      rw [show ((2 : Int32) + 1) = (3 : Int32) from by decide] at q
      exact q
    have R58 : ∀ tg, Steps p.tables e below (T57.setTop (mkF m 122 #[.val (.int p1), .val (.int p2), .val (.int p3), .val (.int (3 : Int32)), .val (.ref b1), .val (.int ((p3 &&& (2147483647 : Int32)) % (3 : Int32))), .unset] [])) tg → Steps p.tables e below (T7.setTop (mkF m 29 #[.val (.int p1), .val (.int p2), .val (.int p3), .val (.int (3 : Int32)), .val (.ref b1), .unset, .unset] [])) tg := by
      intro tg kt
      refine XS.iloadN X7.here hx rfl (hb hby at_29) rfl ?_
      show Steps p.tables e below (T7.setTop (mkF m 30 #[.val (.int p1), .val (.int p2), .val (.int p3), .val (.int (3 : Int32)), .val (.ref b1), .unset, .unset] [(.int (3 : Int32))])) _
      refine XS.iconst X7.here hx rfl (hb hby at_30) ?_
      show Steps p.tables e below (T7.setTop (mkF m 31 #[.val (.int p1), .val (.int p2), .val (.int p3), .val (.int (3 : Int32)), .val (.ref b1), .unset, .unset] [(.int (1 : Int32)), (.int (3 : Int32))])) _
      refine XS.icmpNo X7.here hx rfl (hb hby at_31) rfl (tlt (by decide : (1 : Int32) < (3 : Int32))).2.2.2 ?_
      show Steps p.tables e below (T7.setTop (mkF m 34 #[.val (.int p1), .val (.int p2), .val (.int p3), .val (.int (3 : Int32)), .val (.ref b1), .unset, .unset] [])) _
      refine XS.aload X7.here hx rfl (hb hby at_34) rfl rfl ?_
      show Steps p.tables e below (T7.setTop (mkF m 36 #[.val (.int p1), .val (.int p2), .val (.int p3), .val (.int (3 : Int32)), .val (.ref b1), .unset, .unset] [(.ref b1)])) _
      refine XS.iloadN X7.here hx rfl (hb hby at_36) rfl ?_
      show Steps p.tables e below (T7.setTop (mkF m 37 #[.val (.int p1), .val (.int p2), .val (.int p3), .val (.int (3 : Int32)), .val (.ref b1), .unset, .unset] [(.int p2), (.ref b1)])) _
      refine XS.iconst X7.here hx rfl (hb hby at_37) ?_
      show Steps p.tables e below (T7.setTop (mkF m 38 #[.val (.int p1), .val (.int p2), .val (.int p3), .val (.int (3 : Int32)), .val (.ref b1), .unset, .unset] [(.int (1 : Int32)), (.int p2), (.ref b1)])) _
      refine XS.iadd X7.here hx rfl (hb hby at_38) rfl ?_
      show Steps p.tables e below (T7.setTop (mkF m 39 #[.val (.int p1), .val (.int p2), .val (.int p3), .val (.int (3 : Int32)), .val (.ref b1), .unset, .unset] [(.int (p2 + (1 : Int32))), (.ref b1)])) _
      refine st43 _ ?_
      show Steps p.tables e below (T43.setTop (mkF m 42 #[.val (.int p1), .val (.int p2), .val (.int p3), .val (.int (3 : Int32)), .val (.ref b1), .unset, .unset] [(.ref bx43), (.ref b1)])) _
      refine st48.trans ?_
      show Steps p.tables e below (T48.setTop (mkF m 45 #[.val (.int p1), .val (.int p2), .val (.int p3), .val (.int (3 : Int32)), .val (.ref b1), .unset, .unset] [(.int (1 : Int32))])) _
      refine XS.pop X48.here hx rfl (hb hby at_45) rfl rfl ?_
      show Steps p.tables e below (T48.setTop (mkF m 46 #[.val (.int p1), .val (.int p2), .val (.int p3), .val (.int (3 : Int32)), .val (.ref b1), .unset, .unset] [])) _
      refine XS.iloadN X48.here hx rfl (hb hby at_46) rfl ?_
      show Steps p.tables e below (T48.setTop (mkF m 47 #[.val (.int p1), .val (.int p2), .val (.int p3), .val (.int (3 : Int32)), .val (.ref b1), .unset, .unset] [(.int (3 : Int32))])) _
      refine XS.iconst X48.here hx rfl (hb hby at_47) ?_
      show Steps p.tables e below (T48.setTop (mkF m 48 #[.val (.int p1), .val (.int p2), .val (.int p3), .val (.int (3 : Int32)), .val (.ref b1), .unset, .unset] [(.int (2 : Int32)), (.int (3 : Int32))])) _
      refine XS.icmpNo X48.here hx rfl (hb hby at_48) rfl (tlt (by decide : (2 : Int32) < (3 : Int32))).2.2.2 ?_
      show Steps p.tables e below (T48.setTop (mkF m 51 #[.val (.int p1), .val (.int p2), .val (.int p3), .val (.int (3 : Int32)), .val (.ref b1), .unset, .unset] [])) _
      refine XS.aload X48.here hx rfl (hb hby at_51) rfl rfl ?_
      show Steps p.tables e below (T48.setTop (mkF m 53 #[.val (.int p1), .val (.int p2), .val (.int p3), .val (.int (3 : Int32)), .val (.ref b1), .unset, .unset] [(.ref b1)])) _
      refine XS.iloadN X48.here hx rfl (hb hby at_53) rfl ?_
      show Steps p.tables e below (T48.setTop (mkF m 54 #[.val (.int p1), .val (.int p2), .val (.int p3), .val (.int (3 : Int32)), .val (.ref b1), .unset, .unset] [(.int p2), (.ref b1)])) _
      refine XS.iconst X48.here hx rfl (hb hby at_54) ?_
      show Steps p.tables e below (T48.setTop (mkF m 55 #[.val (.int p1), .val (.int p2), .val (.int p3), .val (.int (3 : Int32)), .val (.ref b1), .unset, .unset] [(.int (2 : Int32)), (.int p2), (.ref b1)])) _
      refine XS.iadd X48.here hx rfl (hb hby at_55) rfl ?_
      show Steps p.tables e below (T48.setTop (mkF m 56 #[.val (.int p1), .val (.int p2), .val (.int p3), .val (.int (3 : Int32)), .val (.ref b1), .unset, .unset] [(.int (p2 + (2 : Int32))), (.ref b1)])) _
      refine st50 _ ?_
      show Steps p.tables e below (T50.setTop (mkF m 59 #[.val (.int p1), .val (.int p2), .val (.int p3), .val (.int (3 : Int32)), .val (.ref b1), .unset, .unset] [(.ref bx50), (.ref b1)])) _
      refine st57.trans ?_
      show Steps p.tables e below (T57.setTop (mkF m 62 #[.val (.int p1), .val (.int p2), .val (.int p3), .val (.int (3 : Int32)), .val (.ref b1), .unset, .unset] [(.int (1 : Int32))])) _
      refine XS.pop X57.here hx rfl (hb hby at_62) rfl rfl ?_
      show Steps p.tables e below (T57.setTop (mkF m 63 #[.val (.int p1), .val (.int p2), .val (.int p3), .val (.int (3 : Int32)), .val (.ref b1), .unset, .unset] [])) _
      refine XS.iloadN X57.here hx rfl (hb hby at_63) rfl ?_
      show Steps p.tables e below (T57.setTop (mkF m 64 #[.val (.int p1), .val (.int p2), .val (.int p3), .val (.int (3 : Int32)), .val (.ref b1), .unset, .unset] [(.int (3 : Int32))])) _
      refine XS.iconst X57.here hx rfl (hb hby at_64) ?_
      show Steps p.tables e below (T57.setTop (mkF m 65 #[.val (.int p1), .val (.int p2), .val (.int p3), .val (.int (3 : Int32)), .val (.ref b1), .unset, .unset] [(.int (3 : Int32)), (.int (3 : Int32))])) _
      refine XS.icmpYes X57.here hx rfl (pc0 := 65) (pc' := 80) rfl (hb hby at_65) rfl (flt (by decide : ¬ ((3 : Int32) < (3 : Int32)))).2.2.2 (by decide) (by decide) ?_
      show Steps p.tables e below (T57.setTop (mkF m 80 #[.val (.int p1), .val (.int p2), .val (.int p3), .val (.int (3 : Int32)), .val (.ref b1), .unset, .unset] [])) _
      refine XS.iloadN X57.here hx rfl (hb hby at_80) rfl ?_
      show Steps p.tables e below (T57.setTop (mkF m 81 #[.val (.int p1), .val (.int p2), .val (.int p3), .val (.int (3 : Int32)), .val (.ref b1), .unset, .unset] [(.int (3 : Int32))])) _
      refine XS.iconst X57.here hx rfl (hb hby at_81) ?_
      show Steps p.tables e below (T57.setTop (mkF m 82 #[.val (.int p1), .val (.int p2), .val (.int p3), .val (.int (3 : Int32)), .val (.ref b1), .unset, .unset] [(.int (4 : Int32)), (.int (3 : Int32))])) _
      refine XS.icmpYes X57.here hx rfl (pc0 := 82) (pc' := 97) rfl (hb hby at_82) rfl (flt (by decide : ¬ ((4 : Int32) < (3 : Int32)))).2.2.2 (by decide) (by decide) ?_
      show Steps p.tables e below (T57.setTop (mkF m 97 #[.val (.int p1), .val (.int p2), .val (.int p3), .val (.int (3 : Int32)), .val (.ref b1), .unset, .unset] [])) _
      refine XS.iloadN X57.here hx rfl (hb hby at_97) rfl ?_
      show Steps p.tables e below (T57.setTop (mkF m 98 #[.val (.int p1), .val (.int p2), .val (.int p3), .val (.int (3 : Int32)), .val (.ref b1), .unset, .unset] [(.int (3 : Int32))])) _
      refine XS.iconst X57.here hx rfl (hb hby at_98) ?_
      show Steps p.tables e below (T57.setTop (mkF m 99 #[.val (.int p1), .val (.int p2), .val (.int p3), .val (.int (3 : Int32)), .val (.ref b1), .unset, .unset] [(.int (5 : Int32)), (.int (3 : Int32))])) _
      refine XS.icmpYes X57.here hx rfl (pc0 := 99) (pc' := 114) rfl (hb hby at_99) rfl (flt (by decide : ¬ ((5 : Int32) < (3 : Int32)))).2.2.2 (by decide) (by decide) ?_
      show Steps p.tables e below (T57.setTop (mkF m 114 #[.val (.int p1), .val (.int p2), .val (.int p3), .val (.int (3 : Int32)), .val (.ref b1), .unset, .unset] [])) _
      refine XS.iloadN X57.here hx rfl (hb hby at_114) rfl ?_
      show Steps p.tables e below (T57.setTop (mkF m 115 #[.val (.int p1), .val (.int p2), .val (.int p3), .val (.int (3 : Int32)), .val (.ref b1), .unset, .unset] [(.int p3)])) _
      refine X57.ldcInt hx hown (mvT hZ (hw _ (List.mem_of_getElem? (i := 0) rfl))) (g := (mkF m 115 #[.val (.int p1), .val (.int p2), .val (.int p3), .val (.int (3 : Int32)), .val (.ref b1), .unset, .unset] [(.int p3)])) rfl (hb hby at_115) _ ?_
      show Steps p.tables e below (T57.setTop (mkF m 117 #[.val (.int p1), .val (.int p2), .val (.int p3), .val (.int (3 : Int32)), .val (.ref b1), .unset, .unset] [(.int (2147483647 : Int32)), (.int p3)])) _
      refine XS.iand X57.here hx rfl (hb hby at_117) rfl ?_
      show Steps p.tables e below (T57.setTop (mkF m 118 #[.val (.int p1), .val (.int p2), .val (.int p3), .val (.int (3 : Int32)), .val (.ref b1), .unset, .unset] [(.int (p3 &&& (2147483647 : Int32)))])) _
      refine XS.iloadN X57.here hx rfl (hb hby at_118) rfl ?_
      show Steps p.tables e below (T57.setTop (mkF m 119 #[.val (.int p1), .val (.int p2), .val (.int p3), .val (.int (3 : Int32)), .val (.ref b1), .unset, .unset] [(.int (3 : Int32)), (.int (p3 &&& (2147483647 : Int32)))])) _
      refine iremM (g := (mkF m 119 #[.val (.int p1), .val (.int p2), .val (.int p3), .val (.int (3 : Int32)), .val (.ref b1), .unset, .unset] [(.int (3 : Int32)), (.int (p3 &&& (2147483647 : Int32)))])) X57 hx rfl (hb hby at_119) rfl (by decide) ?_
      show Steps p.tables e below (T57.setTop (mkF m 120 #[.val (.int p1), .val (.int p2), .val (.int p3), .val (.int (3 : Int32)), .val (.ref b1), .unset, .unset] [(.int ((p3 &&& (2147483647 : Int32)) % (3 : Int32)))])) _
      refine XS.istore X57.here hx rfl (hb hby at_120) rfl (l' := #[.val (.int p1), .val (.int p2), .val (.int p3), .val (.int (3 : Int32)), .val (.ref b1), .val (.int ((p3 &&& (2147483647 : Int32)) % (3 : Int32))), .unset]) rfl ?_
      show Steps p.tables e below (T57.setTop (mkF m 122 #[.val (.int p1), .val (.int p2), .val (.int p3), .val (.int (3 : Int32)), .val (.ref b1), .val (.int ((p3 &&& (2147483647 : Int32)) % (3 : Int32))), .unset] [])) _
      exact kt
    rcases own_m3 p3 with hk59 | hk59 | hk59
    · have R60 : ∀ tg, Steps p.tables e below (T57.setTop (mkF m 122 #[.val (.int p1), .val (.int p2), .val (.int p3), .val (.int (3 : Int32)), .val (.ref b1), .val (.int (0 : Int32)), .unset] [])) tg → Steps p.tables e below (T57.setTop (mkF m 122 #[.val (.int p1), .val (.int p2), .val (.int p3), .val (.int (3 : Int32)), .val (.ref b1), .val (.int ((p3 &&& (2147483647 : Int32)) % (3 : Int32))), .unset] [])) tg := fun tg kt => by rw [hk59]; exact kt
      obtain ⟨cq61, kq61, q61a, q61b, q61c⟩ := isOf hZ rfl hC57'.1
      obtain ⟨_, _, ⟨T61, L61, k61, n61⟩, -, X61, ⟨Lc61, hQ61, l61, y61, z61⟩, st61⟩ := X57.virtualBack hx (y := (⟨"com/example/anchored_threads/anchoredthreads/internal/ChunkedList", "get", "(I)Ljava/lang/Object;"⟩ : MethodName)) (z := (⟨"com/example/anchored_threads/anchoredthreads/internal/ChunkedList", "get", "(I)Ljava/lang/Object;"⟩ : MethodName)) hown (mvT hZ (hw _ (List.mem_of_getElem? (i := 47) rfl))) (mvT hZ (hw _ (List.mem_of_getElem? (i := 48) rfl))) (notFace_of_selects (args := #[]) (mvT hZ (hw _ (List.mem_of_getElem? (i := 50) rfl)))) (mvT hZ (hw _ (List.mem_of_getElem? (i := 50) rfl))) (mvT hZ (hw _ (List.mem_of_getElem? (i := 49) rfl))) (by decide) (backOf (W := 0) (rmGt l Z a0 hw [] b1 ch2 ea2 kc2 ke2 (3 : Int32) mc57 (4 : Int32) [(.ref bx4), (.ref bx43), (.ref bx50), .null] (0 : Int32) bx4 T57.heap n0 Z57 hC57' (by decide) (by decide) (by decide) (by decide) ⟨by decide, by decide⟩ rfl) hZ (hw _ (List.mem_of_getElem? (i := 51) rfl)) (hw _ (List.mem_of_getElem? (i := 3) rfl)) (by decide) (by decide)) q61a q61c (g := (mkF m 126 #[.val (.int p1), .val (.int p2), .val (.int p3), .val (.int (3 : Int32)), .val (.ref b1), .val (.int (0 : Int32)), .unset] [(.int (0 : Int32)), (.ref b1)])) rfl (by rw [hml]; rfl) (Steps.refl _) (argsL := [(.int (0 : Int32))]) (rest := []) (lenOf pd_6 rfl) rfl (by show 2 * 0 + _ ≤ _; exact Nat.le_of_eq rfl) (hb hby at_126) (fun _ _ => ⟨rfl, rfl, (by decide : 6 + 0 ≤ _), (by decide : 11 + 0 ≤ _)⟩)
      dsimp only [Pt.U, Pt.locs, Pt.cells, Pt.slots] at X61 l61 y61 z61 st61 hQ61
      subst l61 y61 z61
      obtain ⟨hv61, N61q, r61⟩ := hQ61
      subst hv61
      have N61 := Fr.app N57 N61q
      have f62 := (f52.keep kp57)
      obtain ⟨T63, X63, e63, st63⟩ := castY X61 hx hZ hown (hw _ (List.mem_of_getElem? (i := 60) rfl)) r61 (Ins.self f62) (g := (mkF m 129 #[.val (.int p1), .val (.int p2), .val (.int p3), .val (.int (3 : Int32)), .val (.ref b1), .val (.int (0 : Int32)), .unset] [(.ref bx4)])) rfl rfl (hb hby at_129)
      have f64 := (((((FB4.keep kp7 (ninS nq6_bx4_b1 (ninS nq6_bx4_ch2 (ninS nq6_bx4_ea2 nin0)))).keep kp43 nin0).keep kp48 (ninS nq6_bx4_b1 (ninS nq6_bx4_ch2 (ninS nq6_bx4_ea2 nin0)))).keep kp50 nin0).keep kp57 (ninS nq6_bx4_b1 (ninS nq6_bx4_ch2 (ninS nq6_bx4_ea2 nin0))))
      obtain ⟨cq65, kq65, q65a, q65b, q65c⟩ := isOf hZ e63 f62
      obtain ⟨_, _, ⟨T65, L65, k65, n65⟩, -, X65, ⟨Lc65, hQ65, l65, y65, z65⟩, st65⟩ := X63.virtualBack hx (y := (⟨"java/lang/Integer", "intValue", "()I"⟩ : MethodName)) (z := (⟨"java/lang/Integer", "intValue", "()I"⟩ : MethodName)) hown (mvT hZ (hw _ (List.mem_of_getElem? (i := 62) rfl))) (mvT hZ (hw _ (List.mem_of_getElem? (i := 63) rfl))) (notFace_of_selects (args := #[]) (mvT hZ (hw _ (List.mem_of_getElem? (i := 65) rfl)))) (mvT hZ (hw _ (List.mem_of_getElem? (i := 65) rfl))) (mvT hZ (hw _ (List.mem_of_getElem? (i := 64) rfl))) (by decide) (backOf (W := 0) (rmIn l Z a0 hw [] bx4 p2 T57.heap n0 Z57 f64) hZ (hw _ (List.mem_of_getElem? (i := 66) rfl)) (hw _ (List.mem_of_getElem? (i := 32) rfl)) (by decide) (by decide)) q65a q65c (g := (mkF m 141 #[.val (.int p1), .val (.int p2), .val (.int p3), .val (.int (3 : Int32)), .val (.ref b1), .val (.int (0 : Int32)), .val (.ref bx4)] [(.ref bx4)])) rfl (by rw [hml]; rfl) (Steps.refl _) (argsL := []) (rest := []) (lenOf pd_7 rfl) rfl (by show 2 * 0 + _ ≤ _; exact Nat.le_of_eq rfl) (hb hby at_141) (fun _ _ => ⟨rfl, e63, (by decide : 6 + 0 ≤ _), (by decide : 11 + 0 ≤ _)⟩)
      dsimp only [Pt.U, Pt.locs, Pt.cells, Pt.slots] at X65 l65 y65 z65 st65 hQ65
      subst l65 y65 z65
      obtain ⟨hv65, N65q, r65⟩ := hQ65
      subst hv65
      have N65 := Fr.app N61 N65q
      obtain ⟨fs, hr, hrun, hended, hW, hsame⟩ := X65.leave (v := some (.int (1 : Int32))) (fun h => by rw [Bd.returns] at h; cases h)
      refine ⟨_, _, pre0 _ (R8 _ (R41 _ (R58 _ (R60 _ ?_)))), hrun, hended, _, _, rfl, ?_, ⟨_, rfl⟩, hW, hsame.mono (by decide) (by decide)⟩
      · show Steps p.tables e below (T57.setTop (mkF m 122 #[.val (.int p1), .val (.int p2), .val (.int p3), .val (.int (3 : Int32)), .val (.ref b1), .val (.int (0 : Int32)), .unset] [])) _
        refine XS.aload X57.here hx rfl (hb hby at_122) rfl rfl ?_
        show Steps p.tables e below (T57.setTop (mkF m 124 #[.val (.int p1), .val (.int p2), .val (.int p3), .val (.int (3 : Int32)), .val (.ref b1), .val (.int (0 : Int32)), .unset] [(.ref b1)])) _
        refine XS.iload X57.here hx rfl (hb hby at_124) rfl ?_
        show Steps p.tables e below (T57.setTop (mkF m 126 #[.val (.int p1), .val (.int p2), .val (.int p3), .val (.int (3 : Int32)), .val (.ref b1), .val (.int (0 : Int32)), .unset] [(.int (0 : Int32)), (.ref b1)])) _
        refine st61.trans ?_
        show Steps p.tables e below (T61.setTop (mkF m 129 #[.val (.int p1), .val (.int p2), .val (.int p3), .val (.int (3 : Int32)), .val (.ref b1), .val (.int (0 : Int32)), .unset] [(.ref bx4)])) _
        refine st63 _ ?_
        show Steps p.tables e below (T63.setTop (mkF m 132 #[.val (.int p1), .val (.int p2), .val (.int p3), .val (.int (3 : Int32)), .val (.ref b1), .val (.int (0 : Int32)), .unset] [(.ref bx4)])) _
        refine XS.astore X63.here hx rfl (hb hby at_132) rfl rfl (l' := #[.val (.int p1), .val (.int p2), .val (.int p3), .val (.int (3 : Int32)), .val (.ref b1), .val (.int (0 : Int32)), .val (.ref bx4)]) rfl ?_
        show Steps p.tables e below (T63.setTop (mkF m 134 #[.val (.int p1), .val (.int p2), .val (.int p3), .val (.int (3 : Int32)), .val (.ref b1), .val (.int (0 : Int32)), .val (.ref bx4)] [])) _
        refine XS.aload X63.here hx rfl (hb hby at_134) rfl rfl ?_
        show Steps p.tables e below (T63.setTop (mkF m 136 #[.val (.int p1), .val (.int p2), .val (.int p3), .val (.int (3 : Int32)), .val (.ref b1), .val (.int (0 : Int32)), .val (.ref bx4)] [(.ref bx4)])) _
        refine XS.ifnullNo X63.here hx rfl (hb hby at_136) rfl ?_
        show Steps p.tables e below (T63.setTop (mkF m 139 #[.val (.int p1), .val (.int p2), .val (.int p3), .val (.int (3 : Int32)), .val (.ref b1), .val (.int (0 : Int32)), .val (.ref bx4)] [])) _
        refine XS.aload X63.here hx rfl (hb hby at_139) rfl rfl ?_
        show Steps p.tables e below (T63.setTop (mkF m 141 #[.val (.int p1), .val (.int p2), .val (.int p3), .val (.int (3 : Int32)), .val (.ref b1), .val (.int (0 : Int32)), .val (.ref bx4)] [(.ref bx4)])) _
        refine st65.trans ?_
        show Steps p.tables e below (T65.setTop (mkF m 144 #[.val (.int p1), .val (.int p2), .val (.int p3), .val (.int (3 : Int32)), .val (.ref b1), .val (.int (0 : Int32)), .val (.ref bx4)] [(.int p2)])) _
        refine XS.iloadN X65.here hx rfl (hb hby at_144) rfl ?_
        show Steps p.tables e below (T65.setTop (mkF m 145 #[.val (.int p1), .val (.int p2), .val (.int p3), .val (.int (3 : Int32)), .val (.ref b1), .val (.int (0 : Int32)), .val (.ref bx4)] [(.int p2), (.int p2)])) _
        refine XS.iload X65.here hx rfl (hb hby at_145) rfl ?_
        show Steps p.tables e below (T65.setTop (mkF m 147 #[.val (.int p1), .val (.int p2), .val (.int p3), .val (.int (3 : Int32)), .val (.ref b1), .val (.int (0 : Int32)), .val (.ref bx4)] [(.int (0 : Int32)), (.int p2), (.int p2)])) _
        refine XS.iadd X65.here hx rfl (hb hby at_147) rfl ?_
        show Steps p.tables e below (T65.setTop (mkF m 148 #[.val (.int p1), .val (.int p2), .val (.int p3), .val (.int (3 : Int32)), .val (.ref b1), .val (.int (0 : Int32)), .val (.ref bx4)] [(.int (p2 + (0 : Int32))), (.int p2)])) _
        refine XS.icmpNo X65.here hx rfl (hb hby at_148) rfl (teq (own_add0 p2)).2 ?_
        show Steps p.tables e below (T65.setTop (mkF m 151 #[.val (.int p1), .val (.int p2), .val (.int p3), .val (.int (3 : Int32)), .val (.ref b1), .val (.int (0 : Int32)), .val (.ref bx4)] [])) _
        refine XS.iconst X65.here hx rfl (hb hby at_151) ?_
        show Steps p.tables e below (T65.setTop (mkF m 152 #[.val (.int p1), .val (.int p2), .val (.int p3), .val (.int (3 : Int32)), .val (.ref b1), .val (.int (0 : Int32)), .val (.ref bx4)] [(.int (1 : Int32))])) _
        refine XS.goto X65.here hx rfl (pc0 := 152) (pc' := 156) rfl (hb hby at_152) (by decide) (by decide) ?_
        show Steps p.tables e below (T65.setTop (mkF m 156 #[.val (.int p1), .val (.int p2), .val (.int p3), .val (.int (3 : Int32)), .val (.ref b1), .val (.int (0 : Int32)), .val (.ref bx4)] [(.int (1 : Int32))])) _
        exact retN X65 hx (t := .boolean) Bd.returns (by simp) (hb hby at_156) hr
      · show Q0 n0 _ T65.heap _
        rw [r65]
        exact ⟨rfl, N65⟩
    · have R66 : ∀ tg, Steps p.tables e below (T57.setTop (mkF m 122 #[.val (.int p1), .val (.int p2), .val (.int p3), .val (.int (3 : Int32)), .val (.ref b1), .val (.int (1 : Int32)), .unset] [])) tg → Steps p.tables e below (T57.setTop (mkF m 122 #[.val (.int p1), .val (.int p2), .val (.int p3), .val (.int (3 : Int32)), .val (.ref b1), .val (.int ((p3 &&& (2147483647 : Int32)) % (3 : Int32))), .unset] [])) tg := fun tg kt => by rw [hk59]; exact kt
      obtain ⟨cq67, kq67, q67a, q67b, q67c⟩ := isOf hZ rfl hC57'.1
      obtain ⟨_, _, ⟨T67, L67, k67, n67⟩, -, X67, ⟨Lc67, hQ67, l67, y67, z67⟩, st67⟩ := X57.virtualBack hx (y := (⟨"com/example/anchored_threads/anchoredthreads/internal/ChunkedList", "get", "(I)Ljava/lang/Object;"⟩ : MethodName)) (z := (⟨"com/example/anchored_threads/anchoredthreads/internal/ChunkedList", "get", "(I)Ljava/lang/Object;"⟩ : MethodName)) hown (mvT hZ (hw _ (List.mem_of_getElem? (i := 47) rfl))) (mvT hZ (hw _ (List.mem_of_getElem? (i := 48) rfl))) (notFace_of_selects (args := #[]) (mvT hZ (hw _ (List.mem_of_getElem? (i := 50) rfl)))) (mvT hZ (hw _ (List.mem_of_getElem? (i := 50) rfl))) (mvT hZ (hw _ (List.mem_of_getElem? (i := 49) rfl))) (by decide) (backOf (W := 0) (rmGt l Z a0 hw [] b1 ch2 ea2 kc2 ke2 (3 : Int32) mc57 (4 : Int32) [(.ref bx4), (.ref bx43), (.ref bx50), .null] (1 : Int32) bx43 T57.heap n0 Z57 hC57' (by decide) (by decide) (by decide) (by decide) ⟨by decide, by decide⟩ rfl) hZ (hw _ (List.mem_of_getElem? (i := 51) rfl)) (hw _ (List.mem_of_getElem? (i := 3) rfl)) (by decide) (by decide)) q67a q67c (g := (mkF m 126 #[.val (.int p1), .val (.int p2), .val (.int p3), .val (.int (3 : Int32)), .val (.ref b1), .val (.int (1 : Int32)), .unset] [(.int (1 : Int32)), (.ref b1)])) rfl (by rw [hml]; rfl) (Steps.refl _) (argsL := [(.int (1 : Int32))]) (rest := []) (lenOf pd_6 rfl) rfl (by show 2 * 0 + _ ≤ _; exact Nat.le_of_eq rfl) (hb hby at_126) (fun _ _ => ⟨rfl, rfl, (by decide : 6 + 0 ≤ _), (by decide : 11 + 0 ≤ _)⟩)
      dsimp only [Pt.U, Pt.locs, Pt.cells, Pt.slots] at X67 l67 y67 z67 st67 hQ67
      subst l67 y67 z67
      obtain ⟨hv67, N67q, r67⟩ := hQ67
      subst hv67
      have N67 := Fr.app N57 N67q
      have f68 := (f54.keep kp57)
      obtain ⟨T69, X69, e69, st69⟩ := castY X67 hx hZ hown (hw _ (List.mem_of_getElem? (i := 60) rfl)) r67 (Ins.self f68) (g := (mkF m 129 #[.val (.int p1), .val (.int p2), .val (.int p3), .val (.int (3 : Int32)), .val (.ref b1), .val (.int (1 : Int32)), .unset] [(.ref bx43)])) rfl rfl (hb hby at_129)
      have f70 := (((FB43.keep kp48 (ninS nq47_bx43_b1 (ninS nq47_bx43_ch2 (ninS nq47_bx43_ea2 nin0)))).keep kp50 nin0).keep kp57 (ninS nq47_bx43_b1 (ninS nq47_bx43_ch2 (ninS nq47_bx43_ea2 nin0))))
      obtain ⟨cq71, kq71, q71a, q71b, q71c⟩ := isOf hZ e69 f68
      obtain ⟨_, _, ⟨T71, L71, k71, n71⟩, -, X71, ⟨Lc71, hQ71, l71, y71, z71⟩, st71⟩ := X69.virtualBack hx (y := (⟨"java/lang/Integer", "intValue", "()I"⟩ : MethodName)) (z := (⟨"java/lang/Integer", "intValue", "()I"⟩ : MethodName)) hown (mvT hZ (hw _ (List.mem_of_getElem? (i := 62) rfl))) (mvT hZ (hw _ (List.mem_of_getElem? (i := 63) rfl))) (notFace_of_selects (args := #[]) (mvT hZ (hw _ (List.mem_of_getElem? (i := 65) rfl)))) (mvT hZ (hw _ (List.mem_of_getElem? (i := 65) rfl))) (mvT hZ (hw _ (List.mem_of_getElem? (i := 64) rfl))) (by decide) (backOf (W := 0) (rmIn l Z a0 hw [] bx43 (p2 + (1 : Int32)) T57.heap n0 Z57 f70) hZ (hw _ (List.mem_of_getElem? (i := 66) rfl)) (hw _ (List.mem_of_getElem? (i := 32) rfl)) (by decide) (by decide)) q71a q71c (g := (mkF m 141 #[.val (.int p1), .val (.int p2), .val (.int p3), .val (.int (3 : Int32)), .val (.ref b1), .val (.int (1 : Int32)), .val (.ref bx43)] [(.ref bx43)])) rfl (by rw [hml]; rfl) (Steps.refl _) (argsL := []) (rest := []) (lenOf pd_7 rfl) rfl (by show 2 * 0 + _ ≤ _; exact Nat.le_of_eq rfl) (hb hby at_141) (fun _ _ => ⟨rfl, e69, (by decide : 6 + 0 ≤ _), (by decide : 11 + 0 ≤ _)⟩)
      dsimp only [Pt.U, Pt.locs, Pt.cells, Pt.slots] at X71 l71 y71 z71 st71 hQ71
      subst l71 y71 z71
      obtain ⟨hv71, N71q, r71⟩ := hQ71
      subst hv71
      have N71 := Fr.app N67 N71q
      obtain ⟨fs, hr, hrun, hended, hW, hsame⟩ := X71.leave (v := some (.int (1 : Int32))) (fun h => by rw [Bd.returns] at h; cases h)
      refine ⟨_, _, pre0 _ (R8 _ (R41 _ (R58 _ (R66 _ ?_)))), hrun, hended, _, _, rfl, ?_, ⟨_, rfl⟩, hW, hsame.mono (by decide) (by decide)⟩
      · show Steps p.tables e below (T57.setTop (mkF m 122 #[.val (.int p1), .val (.int p2), .val (.int p3), .val (.int (3 : Int32)), .val (.ref b1), .val (.int (1 : Int32)), .unset] [])) _
        refine XS.aload X57.here hx rfl (hb hby at_122) rfl rfl ?_
        show Steps p.tables e below (T57.setTop (mkF m 124 #[.val (.int p1), .val (.int p2), .val (.int p3), .val (.int (3 : Int32)), .val (.ref b1), .val (.int (1 : Int32)), .unset] [(.ref b1)])) _
        refine XS.iload X57.here hx rfl (hb hby at_124) rfl ?_
        show Steps p.tables e below (T57.setTop (mkF m 126 #[.val (.int p1), .val (.int p2), .val (.int p3), .val (.int (3 : Int32)), .val (.ref b1), .val (.int (1 : Int32)), .unset] [(.int (1 : Int32)), (.ref b1)])) _
        refine st67.trans ?_
        show Steps p.tables e below (T67.setTop (mkF m 129 #[.val (.int p1), .val (.int p2), .val (.int p3), .val (.int (3 : Int32)), .val (.ref b1), .val (.int (1 : Int32)), .unset] [(.ref bx43)])) _
        refine st69 _ ?_
        show Steps p.tables e below (T69.setTop (mkF m 132 #[.val (.int p1), .val (.int p2), .val (.int p3), .val (.int (3 : Int32)), .val (.ref b1), .val (.int (1 : Int32)), .unset] [(.ref bx43)])) _
        refine XS.astore X69.here hx rfl (hb hby at_132) rfl rfl (l' := #[.val (.int p1), .val (.int p2), .val (.int p3), .val (.int (3 : Int32)), .val (.ref b1), .val (.int (1 : Int32)), .val (.ref bx43)]) rfl ?_
        show Steps p.tables e below (T69.setTop (mkF m 134 #[.val (.int p1), .val (.int p2), .val (.int p3), .val (.int (3 : Int32)), .val (.ref b1), .val (.int (1 : Int32)), .val (.ref bx43)] [])) _
        refine XS.aload X69.here hx rfl (hb hby at_134) rfl rfl ?_
        show Steps p.tables e below (T69.setTop (mkF m 136 #[.val (.int p1), .val (.int p2), .val (.int p3), .val (.int (3 : Int32)), .val (.ref b1), .val (.int (1 : Int32)), .val (.ref bx43)] [(.ref bx43)])) _
        refine XS.ifnullNo X69.here hx rfl (hb hby at_136) rfl ?_
        show Steps p.tables e below (T69.setTop (mkF m 139 #[.val (.int p1), .val (.int p2), .val (.int p3), .val (.int (3 : Int32)), .val (.ref b1), .val (.int (1 : Int32)), .val (.ref bx43)] [])) _
        refine XS.aload X69.here hx rfl (hb hby at_139) rfl rfl ?_
        show Steps p.tables e below (T69.setTop (mkF m 141 #[.val (.int p1), .val (.int p2), .val (.int p3), .val (.int (3 : Int32)), .val (.ref b1), .val (.int (1 : Int32)), .val (.ref bx43)] [(.ref bx43)])) _
        refine st71.trans ?_
        show Steps p.tables e below (T71.setTop (mkF m 144 #[.val (.int p1), .val (.int p2), .val (.int p3), .val (.int (3 : Int32)), .val (.ref b1), .val (.int (1 : Int32)), .val (.ref bx43)] [(.int (p2 + (1 : Int32)))])) _
        refine XS.iloadN X71.here hx rfl (hb hby at_144) rfl ?_
        show Steps p.tables e below (T71.setTop (mkF m 145 #[.val (.int p1), .val (.int p2), .val (.int p3), .val (.int (3 : Int32)), .val (.ref b1), .val (.int (1 : Int32)), .val (.ref bx43)] [(.int p2), (.int (p2 + (1 : Int32)))])) _
        refine XS.iload X71.here hx rfl (hb hby at_145) rfl ?_
        show Steps p.tables e below (T71.setTop (mkF m 147 #[.val (.int p1), .val (.int p2), .val (.int p3), .val (.int (3 : Int32)), .val (.ref b1), .val (.int (1 : Int32)), .val (.ref bx43)] [(.int (1 : Int32)), (.int p2), (.int (p2 + (1 : Int32)))])) _
        refine XS.iadd X71.here hx rfl (hb hby at_147) rfl ?_
        show Steps p.tables e below (T71.setTop (mkF m 148 #[.val (.int p1), .val (.int p2), .val (.int p3), .val (.int (3 : Int32)), .val (.ref b1), .val (.int (1 : Int32)), .val (.ref bx43)] [(.int (p2 + (1 : Int32))), (.int (p2 + (1 : Int32)))])) _
        refine XS.icmpNo X71.here hx rfl (hb hby at_148) rfl (teq rfl).2 ?_
        show Steps p.tables e below (T71.setTop (mkF m 151 #[.val (.int p1), .val (.int p2), .val (.int p3), .val (.int (3 : Int32)), .val (.ref b1), .val (.int (1 : Int32)), .val (.ref bx43)] [])) _
        refine XS.iconst X71.here hx rfl (hb hby at_151) ?_
        show Steps p.tables e below (T71.setTop (mkF m 152 #[.val (.int p1), .val (.int p2), .val (.int p3), .val (.int (3 : Int32)), .val (.ref b1), .val (.int (1 : Int32)), .val (.ref bx43)] [(.int (1 : Int32))])) _
        refine XS.goto X71.here hx rfl (pc0 := 152) (pc' := 156) rfl (hb hby at_152) (by decide) (by decide) ?_
        show Steps p.tables e below (T71.setTop (mkF m 156 #[.val (.int p1), .val (.int p2), .val (.int p3), .val (.int (3 : Int32)), .val (.ref b1), .val (.int (1 : Int32)), .val (.ref bx43)] [(.int (1 : Int32))])) _
        exact retN X71 hx (t := .boolean) Bd.returns (by simp) (hb hby at_156) hr
      · show Q0 n0 _ T71.heap _
        rw [r71]
        exact ⟨rfl, N71⟩
    · have R72 : ∀ tg, Steps p.tables e below (T57.setTop (mkF m 122 #[.val (.int p1), .val (.int p2), .val (.int p3), .val (.int (3 : Int32)), .val (.ref b1), .val (.int (2 : Int32)), .unset] [])) tg → Steps p.tables e below (T57.setTop (mkF m 122 #[.val (.int p1), .val (.int p2), .val (.int p3), .val (.int (3 : Int32)), .val (.ref b1), .val (.int ((p3 &&& (2147483647 : Int32)) % (3 : Int32))), .unset] [])) tg := fun tg kt => by rw [hk59]; exact kt
      obtain ⟨cq73, kq73, q73a, q73b, q73c⟩ := isOf hZ rfl hC57'.1
      obtain ⟨_, _, ⟨T73, L73, k73, n73⟩, -, X73, ⟨Lc73, hQ73, l73, y73, z73⟩, st73⟩ := X57.virtualBack hx (y := (⟨"com/example/anchored_threads/anchoredthreads/internal/ChunkedList", "get", "(I)Ljava/lang/Object;"⟩ : MethodName)) (z := (⟨"com/example/anchored_threads/anchoredthreads/internal/ChunkedList", "get", "(I)Ljava/lang/Object;"⟩ : MethodName)) hown (mvT hZ (hw _ (List.mem_of_getElem? (i := 47) rfl))) (mvT hZ (hw _ (List.mem_of_getElem? (i := 48) rfl))) (notFace_of_selects (args := #[]) (mvT hZ (hw _ (List.mem_of_getElem? (i := 50) rfl)))) (mvT hZ (hw _ (List.mem_of_getElem? (i := 50) rfl))) (mvT hZ (hw _ (List.mem_of_getElem? (i := 49) rfl))) (by decide) (backOf (W := 0) (rmGt l Z a0 hw [] b1 ch2 ea2 kc2 ke2 (3 : Int32) mc57 (4 : Int32) [(.ref bx4), (.ref bx43), (.ref bx50), .null] (2 : Int32) bx50 T57.heap n0 Z57 hC57' (by decide) (by decide) (by decide) (by decide) ⟨by decide, by decide⟩ rfl) hZ (hw _ (List.mem_of_getElem? (i := 51) rfl)) (hw _ (List.mem_of_getElem? (i := 3) rfl)) (by decide) (by decide)) q73a q73c (g := (mkF m 126 #[.val (.int p1), .val (.int p2), .val (.int p3), .val (.int (3 : Int32)), .val (.ref b1), .val (.int (2 : Int32)), .unset] [(.int (2 : Int32)), (.ref b1)])) rfl (by rw [hml]; rfl) (Steps.refl _) (argsL := [(.int (2 : Int32))]) (rest := []) (lenOf pd_6 rfl) rfl (by show 2 * 0 + _ ≤ _; exact Nat.le_of_eq rfl) (hb hby at_126) (fun _ _ => ⟨rfl, rfl, (by decide : 6 + 0 ≤ _), (by decide : 11 + 0 ≤ _)⟩)
      dsimp only [Pt.U, Pt.locs, Pt.cells, Pt.slots] at X73 l73 y73 z73 st73 hQ73
      subst l73 y73 z73
      obtain ⟨hv73, N73q, r73⟩ := hQ73
      subst hv73
      have N73 := Fr.app N57 N73q
      have f74 := (EB50.keep kp57)
      obtain ⟨T75, X75, e75, st75⟩ := castY X73 hx hZ hown (hw _ (List.mem_of_getElem? (i := 60) rfl)) r73 (Ins.self f74) (g := (mkF m 129 #[.val (.int p1), .val (.int p2), .val (.int p3), .val (.int (3 : Int32)), .val (.ref b1), .val (.int (2 : Int32)), .unset] [(.ref bx50)])) rfl rfl (hb hby at_129)
      have f76 := (FB50.keep kp57 (ninS nq56_bx50_b1 (ninS nq56_bx50_ch2 (ninS nq56_bx50_ea2 nin0))))
      obtain ⟨cq77, kq77, q77a, q77b, q77c⟩ := isOf hZ e75 f74
      obtain ⟨_, _, ⟨T77, L77, k77, n77⟩, -, X77, ⟨Lc77, hQ77, l77, y77, z77⟩, st77⟩ := X75.virtualBack hx (y := (⟨"java/lang/Integer", "intValue", "()I"⟩ : MethodName)) (z := (⟨"java/lang/Integer", "intValue", "()I"⟩ : MethodName)) hown (mvT hZ (hw _ (List.mem_of_getElem? (i := 62) rfl))) (mvT hZ (hw _ (List.mem_of_getElem? (i := 63) rfl))) (notFace_of_selects (args := #[]) (mvT hZ (hw _ (List.mem_of_getElem? (i := 65) rfl)))) (mvT hZ (hw _ (List.mem_of_getElem? (i := 65) rfl))) (mvT hZ (hw _ (List.mem_of_getElem? (i := 64) rfl))) (by decide) (backOf (W := 0) (rmIn l Z a0 hw [] bx50 (p2 + (2 : Int32)) T57.heap n0 Z57 f76) hZ (hw _ (List.mem_of_getElem? (i := 66) rfl)) (hw _ (List.mem_of_getElem? (i := 32) rfl)) (by decide) (by decide)) q77a q77c (g := (mkF m 141 #[.val (.int p1), .val (.int p2), .val (.int p3), .val (.int (3 : Int32)), .val (.ref b1), .val (.int (2 : Int32)), .val (.ref bx50)] [(.ref bx50)])) rfl (by rw [hml]; rfl) (Steps.refl _) (argsL := []) (rest := []) (lenOf pd_7 rfl) rfl (by show 2 * 0 + _ ≤ _; exact Nat.le_of_eq rfl) (hb hby at_141) (fun _ _ => ⟨rfl, e75, (by decide : 6 + 0 ≤ _), (by decide : 11 + 0 ≤ _)⟩)
      dsimp only [Pt.U, Pt.locs, Pt.cells, Pt.slots] at X77 l77 y77 z77 st77 hQ77
      subst l77 y77 z77
      obtain ⟨hv77, N77q, r77⟩ := hQ77
      subst hv77
      have N77 := Fr.app N73 N77q
      obtain ⟨fs, hr, hrun, hended, hW, hsame⟩ := X77.leave (v := some (.int (1 : Int32))) (fun h => by rw [Bd.returns] at h; cases h)
      refine ⟨_, _, pre0 _ (R8 _ (R41 _ (R58 _ (R72 _ ?_)))), hrun, hended, _, _, rfl, ?_, ⟨_, rfl⟩, hW, hsame.mono (by decide) (by decide)⟩
      · show Steps p.tables e below (T57.setTop (mkF m 122 #[.val (.int p1), .val (.int p2), .val (.int p3), .val (.int (3 : Int32)), .val (.ref b1), .val (.int (2 : Int32)), .unset] [])) _
        refine XS.aload X57.here hx rfl (hb hby at_122) rfl rfl ?_
        show Steps p.tables e below (T57.setTop (mkF m 124 #[.val (.int p1), .val (.int p2), .val (.int p3), .val (.int (3 : Int32)), .val (.ref b1), .val (.int (2 : Int32)), .unset] [(.ref b1)])) _
        refine XS.iload X57.here hx rfl (hb hby at_124) rfl ?_
        show Steps p.tables e below (T57.setTop (mkF m 126 #[.val (.int p1), .val (.int p2), .val (.int p3), .val (.int (3 : Int32)), .val (.ref b1), .val (.int (2 : Int32)), .unset] [(.int (2 : Int32)), (.ref b1)])) _
        refine st73.trans ?_
        show Steps p.tables e below (T73.setTop (mkF m 129 #[.val (.int p1), .val (.int p2), .val (.int p3), .val (.int (3 : Int32)), .val (.ref b1), .val (.int (2 : Int32)), .unset] [(.ref bx50)])) _
        refine st75 _ ?_
        show Steps p.tables e below (T75.setTop (mkF m 132 #[.val (.int p1), .val (.int p2), .val (.int p3), .val (.int (3 : Int32)), .val (.ref b1), .val (.int (2 : Int32)), .unset] [(.ref bx50)])) _
        refine XS.astore X75.here hx rfl (hb hby at_132) rfl rfl (l' := #[.val (.int p1), .val (.int p2), .val (.int p3), .val (.int (3 : Int32)), .val (.ref b1), .val (.int (2 : Int32)), .val (.ref bx50)]) rfl ?_
        show Steps p.tables e below (T75.setTop (mkF m 134 #[.val (.int p1), .val (.int p2), .val (.int p3), .val (.int (3 : Int32)), .val (.ref b1), .val (.int (2 : Int32)), .val (.ref bx50)] [])) _
        refine XS.aload X75.here hx rfl (hb hby at_134) rfl rfl ?_
        show Steps p.tables e below (T75.setTop (mkF m 136 #[.val (.int p1), .val (.int p2), .val (.int p3), .val (.int (3 : Int32)), .val (.ref b1), .val (.int (2 : Int32)), .val (.ref bx50)] [(.ref bx50)])) _
        refine XS.ifnullNo X75.here hx rfl (hb hby at_136) rfl ?_
        show Steps p.tables e below (T75.setTop (mkF m 139 #[.val (.int p1), .val (.int p2), .val (.int p3), .val (.int (3 : Int32)), .val (.ref b1), .val (.int (2 : Int32)), .val (.ref bx50)] [])) _
        refine XS.aload X75.here hx rfl (hb hby at_139) rfl rfl ?_
        show Steps p.tables e below (T75.setTop (mkF m 141 #[.val (.int p1), .val (.int p2), .val (.int p3), .val (.int (3 : Int32)), .val (.ref b1), .val (.int (2 : Int32)), .val (.ref bx50)] [(.ref bx50)])) _
        refine st77.trans ?_
        show Steps p.tables e below (T77.setTop (mkF m 144 #[.val (.int p1), .val (.int p2), .val (.int p3), .val (.int (3 : Int32)), .val (.ref b1), .val (.int (2 : Int32)), .val (.ref bx50)] [(.int (p2 + (2 : Int32)))])) _
        refine XS.iloadN X77.here hx rfl (hb hby at_144) rfl ?_
        show Steps p.tables e below (T77.setTop (mkF m 145 #[.val (.int p1), .val (.int p2), .val (.int p3), .val (.int (3 : Int32)), .val (.ref b1), .val (.int (2 : Int32)), .val (.ref bx50)] [(.int p2), (.int (p2 + (2 : Int32)))])) _
        refine XS.iload X77.here hx rfl (hb hby at_145) rfl ?_
        show Steps p.tables e below (T77.setTop (mkF m 147 #[.val (.int p1), .val (.int p2), .val (.int p3), .val (.int (3 : Int32)), .val (.ref b1), .val (.int (2 : Int32)), .val (.ref bx50)] [(.int (2 : Int32)), (.int p2), (.int (p2 + (2 : Int32)))])) _
        refine XS.iadd X77.here hx rfl (hb hby at_147) rfl ?_
        show Steps p.tables e below (T77.setTop (mkF m 148 #[.val (.int p1), .val (.int p2), .val (.int p3), .val (.int (3 : Int32)), .val (.ref b1), .val (.int (2 : Int32)), .val (.ref bx50)] [(.int (p2 + (2 : Int32))), (.int (p2 + (2 : Int32)))])) _
        refine XS.icmpNo X77.here hx rfl (hb hby at_148) rfl (teq rfl).2 ?_
        show Steps p.tables e below (T77.setTop (mkF m 151 #[.val (.int p1), .val (.int p2), .val (.int p3), .val (.int (3 : Int32)), .val (.ref b1), .val (.int (2 : Int32)), .val (.ref bx50)] [])) _
        refine XS.iconst X77.here hx rfl (hb hby at_151) ?_
        show Steps p.tables e below (T77.setTop (mkF m 152 #[.val (.int p1), .val (.int p2), .val (.int p3), .val (.int (3 : Int32)), .val (.ref b1), .val (.int (2 : Int32)), .val (.ref bx50)] [(.int (1 : Int32))])) _
        refine XS.goto X77.here hx rfl (pc0 := 152) (pc' := 156) rfl (hb hby at_152) (by decide) (by decide) ?_
        show Steps p.tables e below (T77.setTop (mkF m 156 #[.val (.int p1), .val (.int p2), .val (.int p3), .val (.int (3 : Int32)), .val (.ref b1), .val (.int (2 : Int32)), .val (.ref bx50)] [(.int (1 : Int32))])) _
        exact retN X77 hx (t := .boolean) Bd.returns (by simp) (hb hby at_156) hr
      · show Q0 n0 _ T77.heap _
        rw [r77]
        exact ⟨rfl, N77⟩
  · have R78 : ∀ tg, Steps p.tables e below (T7.setTop (mkF m 29 #[.val (.int p1), .val (.int p2), .val (.int p3), .val (.int (4 : Int32)), .val (.ref b1), .unset, .unset] [])) tg → Steps p.tables e below (T7.setTop (mkF m 29 #[.val (.int p1), .val (.int p2), .val (.int p3), .val (.int ((1 : Int32) + ((p1 &&& (2147483647 : Int32)) % (6 : Int32)))), .val (.ref b1), .unset, .unset] [])) tg := fun tg kt => by rw [hk9]; exact kt
    have f79 := ((f3.keep kp4 all0).keep kp7 (allS (f5.2.2.2.2.2.2.2.2.2.1) (allS (f5.2.2.2.2.2.2.2.2.2.2.1) (allS (f5.2.2.2.2.2.2.2.2.2.2.2.1) all0))))
    obtain ⟨_, _, ⟨T80, L80, k80, n80⟩, -, X80, ⟨Lc80, hQ80, l80, y80, z80⟩, st80⟩ := Jvm.LawKit.callS X7 hx (y := (⟨"java/lang/Integer", "valueOf", "(I)Ljava/lang/Integer;"⟩ : MethodName)) hown (mvT hZ (hw _ (List.mem_of_getElem? (i := 30) rfl))) (mvT hZ (hw _ (List.mem_of_getElem? (i := 31) rfl))) (mvT hZ (hw _ (List.mem_of_getElem? (i := 32) rfl))) (mvT hZ (hw _ (List.mem_of_getElem? (i := 33) rfl))) (by decide) (backOf (W := 1) (rmIV l Z a0 hw [] (p2 + (1 : Int32)) ca cc T7.heap n0 Z7 f79 hS0 hS1 hB1) hZ (hw _ (List.mem_of_getElem? (i := 33) rfl)) (hw _ (List.mem_of_getElem? (i := 32) rfl)) (by decide) (by decide)) (g := (mkF m 39 #[.val (.int p1), .val (.int p2), .val (.int p3), .val (.int (4 : Int32)), .val (.ref b1), .unset, .unset] [(.int (p2 + (1 : Int32))), (.ref b1)])) rfl (by rw [hml]; rfl) (argsL := [(.int (p2 + (1 : Int32)))]) (rest := [(.ref b1)]) (lenOf pd_4 rfl) rfl (by show 2 * 0 + _ ≤ _; exact Nat.le_of_eq rfl) (hb hby at_39) (fun _ _ => ⟨rfl, rfl, (by decide : 4 + 1 ≤ _), (by decide : 9 + 1 ≤ _)⟩)
    dsimp only [Pt.U, Pt.locs, Pt.cells, Pt.slots] at X80 l80 y80 z80 st80 hQ80
    subst l80 y80 z80
    obtain ⟨bx80, hv80, N80q, kp80, EB80, FB80⟩ := hQ80
    subst hv80
    have N80 := Fr.app N7 N80q
    have Z80 : n0 ≤ T80.heap.size := Nat.le_trans Z7 kp80.1
    have f81 := (CLs.keep hC7' kp80)
    have f82 := ((EB4.keep kp7).keep kp80)
    have nq84_bx80_b1 : bx80 ≠ b1 := ne_exa EB80 f81.1 (by decide)
    have nq84_bx80_ch2 : bx80 ≠ ch2 := own_ne_arv EB80 (hw _ (List.mem_of_getElem? (i := 70) rfl)) f81.2.2.2.2.1
    have nq84_bx80_ea2 : bx80 ≠ ea2 := own_ne_arv EB80 (hw _ (List.mem_of_getElem? (i := 70) rfl)) f81.2.2.2.2.2.1
    obtain ⟨cq85, kq85, q85a, q85b, q85c⟩ := isOf hZ rfl f81.1
    obtain ⟨_, _, ⟨T85, L85, k85, n85⟩, -, X85, ⟨Lc85, hQ85, l85, y85, z85⟩, st85⟩ := X80.virtualBack hx (y := (⟨"com/example/anchored_threads/anchoredthreads/internal/ChunkedList", "add", "(Ljava/lang/Object;)Z"⟩ : MethodName)) (z := (⟨"com/example/anchored_threads/anchoredthreads/internal/ChunkedList", "add", "(Ljava/lang/Object;)Z"⟩ : MethodName)) hown (mvT hZ (hw _ (List.mem_of_getElem? (i := 37) rfl))) (mvT hZ (hw _ (List.mem_of_getElem? (i := 38) rfl))) (notFace_of_selects (args := #[]) (mvT hZ (hw _ (List.mem_of_getElem? (i := 40) rfl)))) (mvT hZ (hw _ (List.mem_of_getElem? (i := 40) rfl))) (mvT hZ (hw _ (List.mem_of_getElem? (i := 39) rfl))) (by decide) (backOf (W := 0) (rmAd l Z a0 hw [] b1 bx80 ch2 ea2 kc2 ke2 (1 : Int32) mc7 (4 : Int32) [(.ref bx4), .null, .null, .null] 1 T80.heap n0 Z80 f81 EB80 (by decide) (by decide) (by decide) ⟨by decide, by decide⟩ rfl (Nat.le_of_ble_eq_true rfl)) hZ (hw _ (List.mem_of_getElem? (i := 41) rfl)) (hw _ (List.mem_of_getElem? (i := 3) rfl)) (by decide) (by decide)) q85a q85c (g := (mkF m 42 #[.val (.int p1), .val (.int p2), .val (.int p3), .val (.int (4 : Int32)), .val (.ref b1), .unset, .unset] [(.ref bx80), (.ref b1)])) rfl (by rw [hml]; rfl) (Steps.refl _) (argsL := [(.ref bx80)]) (rest := []) (lenOf pd_5 rfl) rfl (by show 2 * 0 + _ ≤ _; exact Nat.le_of_eq rfl) (hb hby at_42) (fun _ _ => ⟨rfl, rfl, (by decide : 5 + 0 ≤ _), (by decide : 10 + 0 ≤ _)⟩)
    dsimp only [Pt.U, Pt.locs, Pt.cells, Pt.slots] at X85 l85 y85 z85 st85 hQ85
    subst l85 y85 z85
    obtain ⟨hv85, N85q, kp85, mc85, hC85⟩ := hQ85
    subst hv85
    have N85 := Fr.app N80 N85q
    have Z85 : n0 ≤ T85.heap.size := Nat.le_trans Z80 kp85.1
    have hC85' : CLs Z n0 T85.heap b1 ch2 ea2 kc2 ke2 (2 : Int32) mc85 (4 : Int32) [(.ref bx4), (.ref bx80), .null, .null] := by
      have q := hC85
      rw [show ((1 : Int32) + 1) = (2 : Int32) from by decide] at q
      exact q
    have f86 := ((f79.keep kp80 all0).keep kp85 (allS (f81.2.2.2.2.2.2.2.2.2.1) (allS (f81.2.2.2.2.2.2.2.2.2.2.1) (allS (f81.2.2.2.2.2.2.2.2.2.2.2.1) all0))))
    obtain ⟨_, _, ⟨T87, L87, k87, n87⟩, -, X87, ⟨Lc87, hQ87, l87, y87, z87⟩, st87⟩ := Jvm.LawKit.callS X85 hx (y := (⟨"java/lang/Integer", "valueOf", "(I)Ljava/lang/Integer;"⟩ : MethodName)) hown (mvT hZ (hw _ (List.mem_of_getElem? (i := 30) rfl))) (mvT hZ (hw _ (List.mem_of_getElem? (i := 31) rfl))) (mvT hZ (hw _ (List.mem_of_getElem? (i := 32) rfl))) (mvT hZ (hw _ (List.mem_of_getElem? (i := 33) rfl))) (by decide) (backOf (W := 1) (rmIV l Z a0 hw [] (p2 + (2 : Int32)) ca cc T85.heap n0 Z85 f86 hS0 hS1 hB1) hZ (hw _ (List.mem_of_getElem? (i := 33) rfl)) (hw _ (List.mem_of_getElem? (i := 32) rfl)) (by decide) (by decide)) (g := (mkF m 56 #[.val (.int p1), .val (.int p2), .val (.int p3), .val (.int (4 : Int32)), .val (.ref b1), .unset, .unset] [(.int (p2 + (2 : Int32))), (.ref b1)])) rfl (by rw [hml]; rfl) (argsL := [(.int (p2 + (2 : Int32)))]) (rest := [(.ref b1)]) (lenOf pd_4 rfl) rfl (by show 2 * 0 + _ ≤ _; exact Nat.le_of_eq rfl) (hb hby at_56) (fun _ _ => ⟨rfl, rfl, (by decide : 5 + 1 ≤ _), (by decide : 10 + 1 ≤ _)⟩)
    dsimp only [Pt.U, Pt.locs, Pt.cells, Pt.slots] at X87 l87 y87 z87 st87 hQ87
    subst l87 y87 z87
    obtain ⟨bx87, hv87, N87q, kp87, EB87, FB87⟩ := hQ87
    subst hv87
    have N87 := Fr.app N85 N87q
    have Z87 : n0 ≤ T87.heap.size := Nat.le_trans Z85 kp87.1
    have f88 := (CLs.keep hC85' kp87)
    have f89 := ((f82.keep kp85).keep kp87)
    have f91 := ((EB80.keep kp85).keep kp87)
    have nq93_bx87_b1 : bx87 ≠ b1 := ne_exa EB87 f88.1 (by decide)
    have nq93_bx87_ch2 : bx87 ≠ ch2 := own_ne_arv EB87 (hw _ (List.mem_of_getElem? (i := 70) rfl)) f88.2.2.2.2.1
    have nq93_bx87_ea2 : bx87 ≠ ea2 := own_ne_arv EB87 (hw _ (List.mem_of_getElem? (i := 70) rfl)) f88.2.2.2.2.2.1
    obtain ⟨cq94, kq94, q94a, q94b, q94c⟩ := isOf hZ rfl f88.1
    obtain ⟨_, _, ⟨T94, L94, k94, n94⟩, -, X94, ⟨Lc94, hQ94, l94, y94, z94⟩, st94⟩ := X87.virtualBack hx (y := (⟨"com/example/anchored_threads/anchoredthreads/internal/ChunkedList", "add", "(Ljava/lang/Object;)Z"⟩ : MethodName)) (z := (⟨"com/example/anchored_threads/anchoredthreads/internal/ChunkedList", "add", "(Ljava/lang/Object;)Z"⟩ : MethodName)) hown (mvT hZ (hw _ (List.mem_of_getElem? (i := 37) rfl))) (mvT hZ (hw _ (List.mem_of_getElem? (i := 38) rfl))) (notFace_of_selects (args := #[]) (mvT hZ (hw _ (List.mem_of_getElem? (i := 40) rfl)))) (mvT hZ (hw _ (List.mem_of_getElem? (i := 40) rfl))) (mvT hZ (hw _ (List.mem_of_getElem? (i := 39) rfl))) (by decide) (backOf (W := 0) (rmAd l Z a0 hw [] b1 bx87 ch2 ea2 kc2 ke2 (2 : Int32) mc85 (4 : Int32) [(.ref bx4), (.ref bx80), .null, .null] 2 T87.heap n0 Z87 f88 EB87 (by decide) (by decide) (by decide) ⟨by decide, by decide⟩ rfl (Nat.le_of_ble_eq_true rfl)) hZ (hw _ (List.mem_of_getElem? (i := 41) rfl)) (hw _ (List.mem_of_getElem? (i := 3) rfl)) (by decide) (by decide)) q94a q94c (g := (mkF m 59 #[.val (.int p1), .val (.int p2), .val (.int p3), .val (.int (4 : Int32)), .val (.ref b1), .unset, .unset] [(.ref bx87), (.ref b1)])) rfl (by rw [hml]; rfl) (Steps.refl _) (argsL := [(.ref bx87)]) (rest := []) (lenOf pd_5 rfl) rfl (by show 2 * 0 + _ ≤ _; exact Nat.le_of_eq rfl) (hb hby at_59) (fun _ _ => ⟨rfl, rfl, (by decide : 6 + 0 ≤ _), (by decide : 11 + 0 ≤ _)⟩)
    dsimp only [Pt.U, Pt.locs, Pt.cells, Pt.slots] at X94 l94 y94 z94 st94 hQ94
    subst l94 y94 z94
    obtain ⟨hv94, N94q, kp94, mc94, hC94⟩ := hQ94
    subst hv94
    have N94 := Fr.app N87 N94q
    have Z94 : n0 ≤ T94.heap.size := Nat.le_trans Z87 kp94.1
    have hC94' : CLs Z n0 T94.heap b1 ch2 ea2 kc2 ke2 (3 : Int32) mc94 (4 : Int32) [(.ref bx4), (.ref bx80), (.ref bx87), .null] := by
      have q := hC94
      rw [show ((2 : Int32) + 1) = (3 : Int32) from by decide] at q
      exact q
    have f95 := ((f86.keep kp87 all0).keep kp94 (allS (f88.2.2.2.2.2.2.2.2.2.1) (allS (f88.2.2.2.2.2.2.2.2.2.2.1) (allS (f88.2.2.2.2.2.2.2.2.2.2.2.1) all0))))
    obtain ⟨_, _, ⟨T96, L96, k96, n96⟩, -, X96, ⟨Lc96, hQ96, l96, y96, z96⟩, st96⟩ := Jvm.LawKit.callS X94 hx (y := (⟨"java/lang/Integer", "valueOf", "(I)Ljava/lang/Integer;"⟩ : MethodName)) hown (mvT hZ (hw _ (List.mem_of_getElem? (i := 30) rfl))) (mvT hZ (hw _ (List.mem_of_getElem? (i := 31) rfl))) (mvT hZ (hw _ (List.mem_of_getElem? (i := 32) rfl))) (mvT hZ (hw _ (List.mem_of_getElem? (i := 33) rfl))) (by decide) (backOf (W := 1) (rmIV l Z a0 hw [] (p2 + (3 : Int32)) ca cc T94.heap n0 Z94 f95 hS0 hS1 hB1) hZ (hw _ (List.mem_of_getElem? (i := 33) rfl)) (hw _ (List.mem_of_getElem? (i := 32) rfl)) (by decide) (by decide)) (g := (mkF m 73 #[.val (.int p1), .val (.int p2), .val (.int p3), .val (.int (4 : Int32)), .val (.ref b1), .unset, .unset] [(.int (p2 + (3 : Int32))), (.ref b1)])) rfl (by rw [hml]; rfl) (argsL := [(.int (p2 + (3 : Int32)))]) (rest := [(.ref b1)]) (lenOf pd_4 rfl) rfl (by show 2 * 0 + _ ≤ _; exact Nat.le_of_eq rfl) (hb hby at_73) (fun _ _ => ⟨rfl, rfl, (by decide : 6 + 1 ≤ _), (by decide : 11 + 1 ≤ _)⟩)
    dsimp only [Pt.U, Pt.locs, Pt.cells, Pt.slots] at X96 l96 y96 z96 st96 hQ96
    subst l96 y96 z96
    obtain ⟨bx96, hv96, N96q, kp96, EB96, FB96⟩ := hQ96
    subst hv96
    have N96 := Fr.app N94 N96q
    have Z96 : n0 ≤ T96.heap.size := Nat.le_trans Z94 kp96.1
    have f97 := (CLs.keep hC94' kp96)
    have f98 := ((f89.keep kp94).keep kp96)
    have f100 := ((f91.keep kp94).keep kp96)
    have f102 := ((EB87.keep kp94).keep kp96)
    have nq104_bx96_b1 : bx96 ≠ b1 := ne_exa EB96 f97.1 (by decide)
    have nq104_bx96_ch2 : bx96 ≠ ch2 := own_ne_arv EB96 (hw _ (List.mem_of_getElem? (i := 70) rfl)) f97.2.2.2.2.1
    have nq104_bx96_ea2 : bx96 ≠ ea2 := own_ne_arv EB96 (hw _ (List.mem_of_getElem? (i := 70) rfl)) f97.2.2.2.2.2.1
    obtain ⟨cq105, kq105, q105a, q105b, q105c⟩ := isOf hZ rfl f97.1
    obtain ⟨_, _, ⟨T105, L105, k105, n105⟩, -, X105, ⟨Lc105, hQ105, l105, y105, z105⟩, st105⟩ := X96.virtualBack hx (y := (⟨"com/example/anchored_threads/anchoredthreads/internal/ChunkedList", "add", "(Ljava/lang/Object;)Z"⟩ : MethodName)) (z := (⟨"com/example/anchored_threads/anchoredthreads/internal/ChunkedList", "add", "(Ljava/lang/Object;)Z"⟩ : MethodName)) hown (mvT hZ (hw _ (List.mem_of_getElem? (i := 37) rfl))) (mvT hZ (hw _ (List.mem_of_getElem? (i := 38) rfl))) (notFace_of_selects (args := #[]) (mvT hZ (hw _ (List.mem_of_getElem? (i := 40) rfl)))) (mvT hZ (hw _ (List.mem_of_getElem? (i := 40) rfl))) (mvT hZ (hw _ (List.mem_of_getElem? (i := 39) rfl))) (by decide) (backOf (W := 0) (rmAd l Z a0 hw [] b1 bx96 ch2 ea2 kc2 ke2 (3 : Int32) mc94 (4 : Int32) [(.ref bx4), (.ref bx80), (.ref bx87), .null] 3 T96.heap n0 Z96 f97 EB96 (by decide) (by decide) (by decide) ⟨by decide, by decide⟩ rfl (Nat.le_of_ble_eq_true rfl)) hZ (hw _ (List.mem_of_getElem? (i := 41) rfl)) (hw _ (List.mem_of_getElem? (i := 3) rfl)) (by decide) (by decide)) q105a q105c (g := (mkF m 76 #[.val (.int p1), .val (.int p2), .val (.int p3), .val (.int (4 : Int32)), .val (.ref b1), .unset, .unset] [(.ref bx96), (.ref b1)])) rfl (by rw [hml]; rfl) (Steps.refl _) (argsL := [(.ref bx96)]) (rest := []) (lenOf pd_5 rfl) rfl (by show 2 * 0 + _ ≤ _; exact Nat.le_of_eq rfl) (hb hby at_76) (fun _ _ => ⟨rfl, rfl, (by decide : 7 + 0 ≤ _), (by decide : 12 + 0 ≤ _)⟩)
    dsimp only [Pt.U, Pt.locs, Pt.cells, Pt.slots] at X105 l105 y105 z105 st105 hQ105
    subst l105 y105 z105
    obtain ⟨hv105, N105q, kp105, mc105, hC105⟩ := hQ105
    subst hv105
    have N105 := Fr.app N96 N105q
    have Z105 : n0 ≤ T105.heap.size := Nat.le_trans Z96 kp105.1
    have hC105' : CLs Z n0 T105.heap b1 ch2 ea2 kc2 ke2 (4 : Int32) mc105 (4 : Int32) [(.ref bx4), (.ref bx80), (.ref bx87), (.ref bx96)] := by
      have q := hC105
      rw [show ((3 : Int32) + 1) = (4 : Int32) from by decide] at q
      exact q
    have R106 : ∀ tg, Steps p.tables e below (T105.setTop (mkF m 122 #[.val (.int p1), .val (.int p2), .val (.int p3), .val (.int (4 : Int32)), .val (.ref b1), .val (.int ((p3 &&& (2147483647 : Int32)) % (4 : Int32))), .unset] [])) tg → Steps p.tables e below (T7.setTop (mkF m 29 #[.val (.int p1), .val (.int p2), .val (.int p3), .val (.int (4 : Int32)), .val (.ref b1), .unset, .unset] [])) tg := by
      intro tg kt
      refine XS.iloadN X7.here hx rfl (hb hby at_29) rfl ?_
      show Steps p.tables e below (T7.setTop (mkF m 30 #[.val (.int p1), .val (.int p2), .val (.int p3), .val (.int (4 : Int32)), .val (.ref b1), .unset, .unset] [(.int (4 : Int32))])) _
      refine XS.iconst X7.here hx rfl (hb hby at_30) ?_
      show Steps p.tables e below (T7.setTop (mkF m 31 #[.val (.int p1), .val (.int p2), .val (.int p3), .val (.int (4 : Int32)), .val (.ref b1), .unset, .unset] [(.int (1 : Int32)), (.int (4 : Int32))])) _
      refine XS.icmpNo X7.here hx rfl (hb hby at_31) rfl (tlt (by decide : (1 : Int32) < (4 : Int32))).2.2.2 ?_
      show Steps p.tables e below (T7.setTop (mkF m 34 #[.val (.int p1), .val (.int p2), .val (.int p3), .val (.int (4 : Int32)), .val (.ref b1), .unset, .unset] [])) _
      refine XS.aload X7.here hx rfl (hb hby at_34) rfl rfl ?_
      show Steps p.tables e below (T7.setTop (mkF m 36 #[.val (.int p1), .val (.int p2), .val (.int p3), .val (.int (4 : Int32)), .val (.ref b1), .unset, .unset] [(.ref b1)])) _
      refine XS.iloadN X7.here hx rfl (hb hby at_36) rfl ?_
      show Steps p.tables e below (T7.setTop (mkF m 37 #[.val (.int p1), .val (.int p2), .val (.int p3), .val (.int (4 : Int32)), .val (.ref b1), .unset, .unset] [(.int p2), (.ref b1)])) _
      refine XS.iconst X7.here hx rfl (hb hby at_37) ?_
      show Steps p.tables e below (T7.setTop (mkF m 38 #[.val (.int p1), .val (.int p2), .val (.int p3), .val (.int (4 : Int32)), .val (.ref b1), .unset, .unset] [(.int (1 : Int32)), (.int p2), (.ref b1)])) _
      refine XS.iadd X7.here hx rfl (hb hby at_38) rfl ?_
      show Steps p.tables e below (T7.setTop (mkF m 39 #[.val (.int p1), .val (.int p2), .val (.int p3), .val (.int (4 : Int32)), .val (.ref b1), .unset, .unset] [(.int (p2 + (1 : Int32))), (.ref b1)])) _
      refine st80 _ ?_
      show Steps p.tables e below (T80.setTop (mkF m 42 #[.val (.int p1), .val (.int p2), .val (.int p3), .val (.int (4 : Int32)), .val (.ref b1), .unset, .unset] [(.ref bx80), (.ref b1)])) _
      refine st85.trans ?_
      show Steps p.tables e below (T85.setTop (mkF m 45 #[.val (.int p1), .val (.int p2), .val (.int p3), .val (.int (4 : Int32)), .val (.ref b1), .unset, .unset] [(.int (1 : Int32))])) _
      refine XS.pop X85.here hx rfl (hb hby at_45) rfl rfl ?_
      show Steps p.tables e below (T85.setTop (mkF m 46 #[.val (.int p1), .val (.int p2), .val (.int p3), .val (.int (4 : Int32)), .val (.ref b1), .unset, .unset] [])) _
      refine XS.iloadN X85.here hx rfl (hb hby at_46) rfl ?_
      show Steps p.tables e below (T85.setTop (mkF m 47 #[.val (.int p1), .val (.int p2), .val (.int p3), .val (.int (4 : Int32)), .val (.ref b1), .unset, .unset] [(.int (4 : Int32))])) _
      refine XS.iconst X85.here hx rfl (hb hby at_47) ?_
      show Steps p.tables e below (T85.setTop (mkF m 48 #[.val (.int p1), .val (.int p2), .val (.int p3), .val (.int (4 : Int32)), .val (.ref b1), .unset, .unset] [(.int (2 : Int32)), (.int (4 : Int32))])) _
      refine XS.icmpNo X85.here hx rfl (hb hby at_48) rfl (tlt (by decide : (2 : Int32) < (4 : Int32))).2.2.2 ?_
      show Steps p.tables e below (T85.setTop (mkF m 51 #[.val (.int p1), .val (.int p2), .val (.int p3), .val (.int (4 : Int32)), .val (.ref b1), .unset, .unset] [])) _
      refine XS.aload X85.here hx rfl (hb hby at_51) rfl rfl ?_
      show Steps p.tables e below (T85.setTop (mkF m 53 #[.val (.int p1), .val (.int p2), .val (.int p3), .val (.int (4 : Int32)), .val (.ref b1), .unset, .unset] [(.ref b1)])) _
      refine XS.iloadN X85.here hx rfl (hb hby at_53) rfl ?_
      show Steps p.tables e below (T85.setTop (mkF m 54 #[.val (.int p1), .val (.int p2), .val (.int p3), .val (.int (4 : Int32)), .val (.ref b1), .unset, .unset] [(.int p2), (.ref b1)])) _
      refine XS.iconst X85.here hx rfl (hb hby at_54) ?_
      show Steps p.tables e below (T85.setTop (mkF m 55 #[.val (.int p1), .val (.int p2), .val (.int p3), .val (.int (4 : Int32)), .val (.ref b1), .unset, .unset] [(.int (2 : Int32)), (.int p2), (.ref b1)])) _
      refine XS.iadd X85.here hx rfl (hb hby at_55) rfl ?_
      show Steps p.tables e below (T85.setTop (mkF m 56 #[.val (.int p1), .val (.int p2), .val (.int p3), .val (.int (4 : Int32)), .val (.ref b1), .unset, .unset] [(.int (p2 + (2 : Int32))), (.ref b1)])) _
      refine st87 _ ?_
      show Steps p.tables e below (T87.setTop (mkF m 59 #[.val (.int p1), .val (.int p2), .val (.int p3), .val (.int (4 : Int32)), .val (.ref b1), .unset, .unset] [(.ref bx87), (.ref b1)])) _
      refine st94.trans ?_
      show Steps p.tables e below (T94.setTop (mkF m 62 #[.val (.int p1), .val (.int p2), .val (.int p3), .val (.int (4 : Int32)), .val (.ref b1), .unset, .unset] [(.int (1 : Int32))])) _
      refine XS.pop X94.here hx rfl (hb hby at_62) rfl rfl ?_
      show Steps p.tables e below (T94.setTop (mkF m 63 #[.val (.int p1), .val (.int p2), .val (.int p3), .val (.int (4 : Int32)), .val (.ref b1), .unset, .unset] [])) _
      refine XS.iloadN X94.here hx rfl (hb hby at_63) rfl ?_
      show Steps p.tables e below (T94.setTop (mkF m 64 #[.val (.int p1), .val (.int p2), .val (.int p3), .val (.int (4 : Int32)), .val (.ref b1), .unset, .unset] [(.int (4 : Int32))])) _
      refine XS.iconst X94.here hx rfl (hb hby at_64) ?_
      show Steps p.tables e below (T94.setTop (mkF m 65 #[.val (.int p1), .val (.int p2), .val (.int p3), .val (.int (4 : Int32)), .val (.ref b1), .unset, .unset] [(.int (3 : Int32)), (.int (4 : Int32))])) _
      refine XS.icmpNo X94.here hx rfl (hb hby at_65) rfl (tlt (by decide : (3 : Int32) < (4 : Int32))).2.2.2 ?_
      show Steps p.tables e below (T94.setTop (mkF m 68 #[.val (.int p1), .val (.int p2), .val (.int p3), .val (.int (4 : Int32)), .val (.ref b1), .unset, .unset] [])) _
      refine XS.aload X94.here hx rfl (hb hby at_68) rfl rfl ?_
      show Steps p.tables e below (T94.setTop (mkF m 70 #[.val (.int p1), .val (.int p2), .val (.int p3), .val (.int (4 : Int32)), .val (.ref b1), .unset, .unset] [(.ref b1)])) _
      refine XS.iloadN X94.here hx rfl (hb hby at_70) rfl ?_
      show Steps p.tables e below (T94.setTop (mkF m 71 #[.val (.int p1), .val (.int p2), .val (.int p3), .val (.int (4 : Int32)), .val (.ref b1), .unset, .unset] [(.int p2), (.ref b1)])) _
      refine XS.iconst X94.here hx rfl (hb hby at_71) ?_
      show Steps p.tables e below (T94.setTop (mkF m 72 #[.val (.int p1), .val (.int p2), .val (.int p3), .val (.int (4 : Int32)), .val (.ref b1), .unset, .unset] [(.int (3 : Int32)), (.int p2), (.ref b1)])) _
      refine XS.iadd X94.here hx rfl (hb hby at_72) rfl ?_
      show Steps p.tables e below (T94.setTop (mkF m 73 #[.val (.int p1), .val (.int p2), .val (.int p3), .val (.int (4 : Int32)), .val (.ref b1), .unset, .unset] [(.int (p2 + (3 : Int32))), (.ref b1)])) _
      refine st96 _ ?_
      show Steps p.tables e below (T96.setTop (mkF m 76 #[.val (.int p1), .val (.int p2), .val (.int p3), .val (.int (4 : Int32)), .val (.ref b1), .unset, .unset] [(.ref bx96), (.ref b1)])) _
      refine st105.trans ?_
      show Steps p.tables e below (T105.setTop (mkF m 79 #[.val (.int p1), .val (.int p2), .val (.int p3), .val (.int (4 : Int32)), .val (.ref b1), .unset, .unset] [(.int (1 : Int32))])) _
      refine XS.pop X105.here hx rfl (hb hby at_79) rfl rfl ?_
      show Steps p.tables e below (T105.setTop (mkF m 80 #[.val (.int p1), .val (.int p2), .val (.int p3), .val (.int (4 : Int32)), .val (.ref b1), .unset, .unset] [])) _
      refine XS.iloadN X105.here hx rfl (hb hby at_80) rfl ?_
      show Steps p.tables e below (T105.setTop (mkF m 81 #[.val (.int p1), .val (.int p2), .val (.int p3), .val (.int (4 : Int32)), .val (.ref b1), .unset, .unset] [(.int (4 : Int32))])) _
      refine XS.iconst X105.here hx rfl (hb hby at_81) ?_
      show Steps p.tables e below (T105.setTop (mkF m 82 #[.val (.int p1), .val (.int p2), .val (.int p3), .val (.int (4 : Int32)), .val (.ref b1), .unset, .unset] [(.int (4 : Int32)), (.int (4 : Int32))])) _
      refine XS.icmpYes X105.here hx rfl (pc0 := 82) (pc' := 97) rfl (hb hby at_82) rfl (flt (by decide : ¬ ((4 : Int32) < (4 : Int32)))).2.2.2 (by decide) (by decide) ?_
      show Steps p.tables e below (T105.setTop (mkF m 97 #[.val (.int p1), .val (.int p2), .val (.int p3), .val (.int (4 : Int32)), .val (.ref b1), .unset, .unset] [])) _
      refine XS.iloadN X105.here hx rfl (hb hby at_97) rfl ?_
      show Steps p.tables e below (T105.setTop (mkF m 98 #[.val (.int p1), .val (.int p2), .val (.int p3), .val (.int (4 : Int32)), .val (.ref b1), .unset, .unset] [(.int (4 : Int32))])) _
      refine XS.iconst X105.here hx rfl (hb hby at_98) ?_
      show Steps p.tables e below (T105.setTop (mkF m 99 #[.val (.int p1), .val (.int p2), .val (.int p3), .val (.int (4 : Int32)), .val (.ref b1), .unset, .unset] [(.int (5 : Int32)), (.int (4 : Int32))])) _
      refine XS.icmpYes X105.here hx rfl (pc0 := 99) (pc' := 114) rfl (hb hby at_99) rfl (flt (by decide : ¬ ((5 : Int32) < (4 : Int32)))).2.2.2 (by decide) (by decide) ?_
      show Steps p.tables e below (T105.setTop (mkF m 114 #[.val (.int p1), .val (.int p2), .val (.int p3), .val (.int (4 : Int32)), .val (.ref b1), .unset, .unset] [])) _
      refine XS.iloadN X105.here hx rfl (hb hby at_114) rfl ?_
      show Steps p.tables e below (T105.setTop (mkF m 115 #[.val (.int p1), .val (.int p2), .val (.int p3), .val (.int (4 : Int32)), .val (.ref b1), .unset, .unset] [(.int p3)])) _
      refine X105.ldcInt hx hown (mvT hZ (hw _ (List.mem_of_getElem? (i := 0) rfl))) (g := (mkF m 115 #[.val (.int p1), .val (.int p2), .val (.int p3), .val (.int (4 : Int32)), .val (.ref b1), .unset, .unset] [(.int p3)])) rfl (hb hby at_115) _ ?_
      show Steps p.tables e below (T105.setTop (mkF m 117 #[.val (.int p1), .val (.int p2), .val (.int p3), .val (.int (4 : Int32)), .val (.ref b1), .unset, .unset] [(.int (2147483647 : Int32)), (.int p3)])) _
      refine XS.iand X105.here hx rfl (hb hby at_117) rfl ?_
      show Steps p.tables e below (T105.setTop (mkF m 118 #[.val (.int p1), .val (.int p2), .val (.int p3), .val (.int (4 : Int32)), .val (.ref b1), .unset, .unset] [(.int (p3 &&& (2147483647 : Int32)))])) _
      refine XS.iloadN X105.here hx rfl (hb hby at_118) rfl ?_
      show Steps p.tables e below (T105.setTop (mkF m 119 #[.val (.int p1), .val (.int p2), .val (.int p3), .val (.int (4 : Int32)), .val (.ref b1), .unset, .unset] [(.int (4 : Int32)), (.int (p3 &&& (2147483647 : Int32)))])) _
      refine iremM (g := (mkF m 119 #[.val (.int p1), .val (.int p2), .val (.int p3), .val (.int (4 : Int32)), .val (.ref b1), .unset, .unset] [(.int (4 : Int32)), (.int (p3 &&& (2147483647 : Int32)))])) X105 hx rfl (hb hby at_119) rfl (by decide) ?_
      show Steps p.tables e below (T105.setTop (mkF m 120 #[.val (.int p1), .val (.int p2), .val (.int p3), .val (.int (4 : Int32)), .val (.ref b1), .unset, .unset] [(.int ((p3 &&& (2147483647 : Int32)) % (4 : Int32)))])) _
      refine XS.istore X105.here hx rfl (hb hby at_120) rfl (l' := #[.val (.int p1), .val (.int p2), .val (.int p3), .val (.int (4 : Int32)), .val (.ref b1), .val (.int ((p3 &&& (2147483647 : Int32)) % (4 : Int32))), .unset]) rfl ?_
      show Steps p.tables e below (T105.setTop (mkF m 122 #[.val (.int p1), .val (.int p2), .val (.int p3), .val (.int (4 : Int32)), .val (.ref b1), .val (.int ((p3 &&& (2147483647 : Int32)) % (4 : Int32))), .unset] [])) _
      exact kt
    rcases own_m4 p3 with hk107 | hk107 | hk107 | hk107
    · have R108 : ∀ tg, Steps p.tables e below (T105.setTop (mkF m 122 #[.val (.int p1), .val (.int p2), .val (.int p3), .val (.int (4 : Int32)), .val (.ref b1), .val (.int (0 : Int32)), .unset] [])) tg → Steps p.tables e below (T105.setTop (mkF m 122 #[.val (.int p1), .val (.int p2), .val (.int p3), .val (.int (4 : Int32)), .val (.ref b1), .val (.int ((p3 &&& (2147483647 : Int32)) % (4 : Int32))), .unset] [])) tg := fun tg kt => by rw [hk107]; exact kt
      obtain ⟨cq109, kq109, q109a, q109b, q109c⟩ := isOf hZ rfl hC105'.1
      obtain ⟨_, _, ⟨T109, L109, k109, n109⟩, -, X109, ⟨Lc109, hQ109, l109, y109, z109⟩, st109⟩ := X105.virtualBack hx (y := (⟨"com/example/anchored_threads/anchoredthreads/internal/ChunkedList", "get", "(I)Ljava/lang/Object;"⟩ : MethodName)) (z := (⟨"com/example/anchored_threads/anchoredthreads/internal/ChunkedList", "get", "(I)Ljava/lang/Object;"⟩ : MethodName)) hown (mvT hZ (hw _ (List.mem_of_getElem? (i := 47) rfl))) (mvT hZ (hw _ (List.mem_of_getElem? (i := 48) rfl))) (notFace_of_selects (args := #[]) (mvT hZ (hw _ (List.mem_of_getElem? (i := 50) rfl)))) (mvT hZ (hw _ (List.mem_of_getElem? (i := 50) rfl))) (mvT hZ (hw _ (List.mem_of_getElem? (i := 49) rfl))) (by decide) (backOf (W := 0) (rmGt l Z a0 hw [] b1 ch2 ea2 kc2 ke2 (4 : Int32) mc105 (4 : Int32) [(.ref bx4), (.ref bx80), (.ref bx87), (.ref bx96)] (0 : Int32) bx4 T105.heap n0 Z105 hC105' (by decide) (by decide) (by decide) (by decide) ⟨by decide, by decide⟩ rfl) hZ (hw _ (List.mem_of_getElem? (i := 51) rfl)) (hw _ (List.mem_of_getElem? (i := 3) rfl)) (by decide) (by decide)) q109a q109c (g := (mkF m 126 #[.val (.int p1), .val (.int p2), .val (.int p3), .val (.int (4 : Int32)), .val (.ref b1), .val (.int (0 : Int32)), .unset] [(.int (0 : Int32)), (.ref b1)])) rfl (by rw [hml]; rfl) (Steps.refl _) (argsL := [(.int (0 : Int32))]) (rest := []) (lenOf pd_6 rfl) rfl (by show 2 * 0 + _ ≤ _; exact Nat.le_of_eq rfl) (hb hby at_126) (fun _ _ => ⟨rfl, rfl, (by decide : 7 + 0 ≤ _), (by decide : 12 + 0 ≤ _)⟩)
      dsimp only [Pt.U, Pt.locs, Pt.cells, Pt.slots] at X109 l109 y109 z109 st109 hQ109
      subst l109 y109 z109
      obtain ⟨hv109, N109q, r109⟩ := hQ109
      subst hv109
      have N109 := Fr.app N105 N109q
      have f110 := (f98.keep kp105)
      obtain ⟨T111, X111, e111, st111⟩ := castY X109 hx hZ hown (hw _ (List.mem_of_getElem? (i := 60) rfl)) r109 (Ins.self f110) (g := (mkF m 129 #[.val (.int p1), .val (.int p2), .val (.int p3), .val (.int (4 : Int32)), .val (.ref b1), .val (.int (0 : Int32)), .unset] [(.ref bx4)])) rfl rfl (hb hby at_129)
      have f112 := (((((((FB4.keep kp7 (ninS nq6_bx4_b1 (ninS nq6_bx4_ch2 (ninS nq6_bx4_ea2 nin0)))).keep kp80 nin0).keep kp85 (ninS nq6_bx4_b1 (ninS nq6_bx4_ch2 (ninS nq6_bx4_ea2 nin0)))).keep kp87 nin0).keep kp94 (ninS nq6_bx4_b1 (ninS nq6_bx4_ch2 (ninS nq6_bx4_ea2 nin0)))).keep kp96 nin0).keep kp105 (ninS nq6_bx4_b1 (ninS nq6_bx4_ch2 (ninS nq6_bx4_ea2 nin0))))
      obtain ⟨cq113, kq113, q113a, q113b, q113c⟩ := isOf hZ e111 f110
      obtain ⟨_, _, ⟨T113, L113, k113, n113⟩, -, X113, ⟨Lc113, hQ113, l113, y113, z113⟩, st113⟩ := X111.virtualBack hx (y := (⟨"java/lang/Integer", "intValue", "()I"⟩ : MethodName)) (z := (⟨"java/lang/Integer", "intValue", "()I"⟩ : MethodName)) hown (mvT hZ (hw _ (List.mem_of_getElem? (i := 62) rfl))) (mvT hZ (hw _ (List.mem_of_getElem? (i := 63) rfl))) (notFace_of_selects (args := #[]) (mvT hZ (hw _ (List.mem_of_getElem? (i := 65) rfl)))) (mvT hZ (hw _ (List.mem_of_getElem? (i := 65) rfl))) (mvT hZ (hw _ (List.mem_of_getElem? (i := 64) rfl))) (by decide) (backOf (W := 0) (rmIn l Z a0 hw [] bx4 p2 T105.heap n0 Z105 f112) hZ (hw _ (List.mem_of_getElem? (i := 66) rfl)) (hw _ (List.mem_of_getElem? (i := 32) rfl)) (by decide) (by decide)) q113a q113c (g := (mkF m 141 #[.val (.int p1), .val (.int p2), .val (.int p3), .val (.int (4 : Int32)), .val (.ref b1), .val (.int (0 : Int32)), .val (.ref bx4)] [(.ref bx4)])) rfl (by rw [hml]; rfl) (Steps.refl _) (argsL := []) (rest := []) (lenOf pd_7 rfl) rfl (by show 2 * 0 + _ ≤ _; exact Nat.le_of_eq rfl) (hb hby at_141) (fun _ _ => ⟨rfl, e111, (by decide : 7 + 0 ≤ _), (by decide : 12 + 0 ≤ _)⟩)
      dsimp only [Pt.U, Pt.locs, Pt.cells, Pt.slots] at X113 l113 y113 z113 st113 hQ113
      subst l113 y113 z113
      obtain ⟨hv113, N113q, r113⟩ := hQ113
      subst hv113
      have N113 := Fr.app N109 N113q
      obtain ⟨fs, hr, hrun, hended, hW, hsame⟩ := X113.leave (v := some (.int (1 : Int32))) (fun h => by rw [Bd.returns] at h; cases h)
      refine ⟨_, _, pre0 _ (R8 _ (R78 _ (R106 _ (R108 _ ?_)))), hrun, hended, _, _, rfl, ?_, ⟨_, rfl⟩, hW, hsame.mono (by decide) (by decide)⟩
      · show Steps p.tables e below (T105.setTop (mkF m 122 #[.val (.int p1), .val (.int p2), .val (.int p3), .val (.int (4 : Int32)), .val (.ref b1), .val (.int (0 : Int32)), .unset] [])) _
        refine XS.aload X105.here hx rfl (hb hby at_122) rfl rfl ?_
        show Steps p.tables e below (T105.setTop (mkF m 124 #[.val (.int p1), .val (.int p2), .val (.int p3), .val (.int (4 : Int32)), .val (.ref b1), .val (.int (0 : Int32)), .unset] [(.ref b1)])) _
        refine XS.iload X105.here hx rfl (hb hby at_124) rfl ?_
        show Steps p.tables e below (T105.setTop (mkF m 126 #[.val (.int p1), .val (.int p2), .val (.int p3), .val (.int (4 : Int32)), .val (.ref b1), .val (.int (0 : Int32)), .unset] [(.int (0 : Int32)), (.ref b1)])) _
        refine st109.trans ?_
        show Steps p.tables e below (T109.setTop (mkF m 129 #[.val (.int p1), .val (.int p2), .val (.int p3), .val (.int (4 : Int32)), .val (.ref b1), .val (.int (0 : Int32)), .unset] [(.ref bx4)])) _
        refine st111 _ ?_
        show Steps p.tables e below (T111.setTop (mkF m 132 #[.val (.int p1), .val (.int p2), .val (.int p3), .val (.int (4 : Int32)), .val (.ref b1), .val (.int (0 : Int32)), .unset] [(.ref bx4)])) _
        refine XS.astore X111.here hx rfl (hb hby at_132) rfl rfl (l' := #[.val (.int p1), .val (.int p2), .val (.int p3), .val (.int (4 : Int32)), .val (.ref b1), .val (.int (0 : Int32)), .val (.ref bx4)]) rfl ?_
        show Steps p.tables e below (T111.setTop (mkF m 134 #[.val (.int p1), .val (.int p2), .val (.int p3), .val (.int (4 : Int32)), .val (.ref b1), .val (.int (0 : Int32)), .val (.ref bx4)] [])) _
        refine XS.aload X111.here hx rfl (hb hby at_134) rfl rfl ?_
        show Steps p.tables e below (T111.setTop (mkF m 136 #[.val (.int p1), .val (.int p2), .val (.int p3), .val (.int (4 : Int32)), .val (.ref b1), .val (.int (0 : Int32)), .val (.ref bx4)] [(.ref bx4)])) _
        refine XS.ifnullNo X111.here hx rfl (hb hby at_136) rfl ?_
        show Steps p.tables e below (T111.setTop (mkF m 139 #[.val (.int p1), .val (.int p2), .val (.int p3), .val (.int (4 : Int32)), .val (.ref b1), .val (.int (0 : Int32)), .val (.ref bx4)] [])) _
        refine XS.aload X111.here hx rfl (hb hby at_139) rfl rfl ?_
        show Steps p.tables e below (T111.setTop (mkF m 141 #[.val (.int p1), .val (.int p2), .val (.int p3), .val (.int (4 : Int32)), .val (.ref b1), .val (.int (0 : Int32)), .val (.ref bx4)] [(.ref bx4)])) _
        refine st113.trans ?_
        show Steps p.tables e below (T113.setTop (mkF m 144 #[.val (.int p1), .val (.int p2), .val (.int p3), .val (.int (4 : Int32)), .val (.ref b1), .val (.int (0 : Int32)), .val (.ref bx4)] [(.int p2)])) _
        refine XS.iloadN X113.here hx rfl (hb hby at_144) rfl ?_
        show Steps p.tables e below (T113.setTop (mkF m 145 #[.val (.int p1), .val (.int p2), .val (.int p3), .val (.int (4 : Int32)), .val (.ref b1), .val (.int (0 : Int32)), .val (.ref bx4)] [(.int p2), (.int p2)])) _
        refine XS.iload X113.here hx rfl (hb hby at_145) rfl ?_
        show Steps p.tables e below (T113.setTop (mkF m 147 #[.val (.int p1), .val (.int p2), .val (.int p3), .val (.int (4 : Int32)), .val (.ref b1), .val (.int (0 : Int32)), .val (.ref bx4)] [(.int (0 : Int32)), (.int p2), (.int p2)])) _
        refine XS.iadd X113.here hx rfl (hb hby at_147) rfl ?_
        show Steps p.tables e below (T113.setTop (mkF m 148 #[.val (.int p1), .val (.int p2), .val (.int p3), .val (.int (4 : Int32)), .val (.ref b1), .val (.int (0 : Int32)), .val (.ref bx4)] [(.int (p2 + (0 : Int32))), (.int p2)])) _
        refine XS.icmpNo X113.here hx rfl (hb hby at_148) rfl (teq (own_add0 p2)).2 ?_
        show Steps p.tables e below (T113.setTop (mkF m 151 #[.val (.int p1), .val (.int p2), .val (.int p3), .val (.int (4 : Int32)), .val (.ref b1), .val (.int (0 : Int32)), .val (.ref bx4)] [])) _
        refine XS.iconst X113.here hx rfl (hb hby at_151) ?_
        show Steps p.tables e below (T113.setTop (mkF m 152 #[.val (.int p1), .val (.int p2), .val (.int p3), .val (.int (4 : Int32)), .val (.ref b1), .val (.int (0 : Int32)), .val (.ref bx4)] [(.int (1 : Int32))])) _
        refine XS.goto X113.here hx rfl (pc0 := 152) (pc' := 156) rfl (hb hby at_152) (by decide) (by decide) ?_
        show Steps p.tables e below (T113.setTop (mkF m 156 #[.val (.int p1), .val (.int p2), .val (.int p3), .val (.int (4 : Int32)), .val (.ref b1), .val (.int (0 : Int32)), .val (.ref bx4)] [(.int (1 : Int32))])) _
        exact retN X113 hx (t := .boolean) Bd.returns (by simp) (hb hby at_156) hr
      · show Q0 n0 _ T113.heap _
        rw [r113]
        exact ⟨rfl, N113⟩
    · have R114 : ∀ tg, Steps p.tables e below (T105.setTop (mkF m 122 #[.val (.int p1), .val (.int p2), .val (.int p3), .val (.int (4 : Int32)), .val (.ref b1), .val (.int (1 : Int32)), .unset] [])) tg → Steps p.tables e below (T105.setTop (mkF m 122 #[.val (.int p1), .val (.int p2), .val (.int p3), .val (.int (4 : Int32)), .val (.ref b1), .val (.int ((p3 &&& (2147483647 : Int32)) % (4 : Int32))), .unset] [])) tg := fun tg kt => by rw [hk107]; exact kt
      obtain ⟨cq115, kq115, q115a, q115b, q115c⟩ := isOf hZ rfl hC105'.1
      obtain ⟨_, _, ⟨T115, L115, k115, n115⟩, -, X115, ⟨Lc115, hQ115, l115, y115, z115⟩, st115⟩ := X105.virtualBack hx (y := (⟨"com/example/anchored_threads/anchoredthreads/internal/ChunkedList", "get", "(I)Ljava/lang/Object;"⟩ : MethodName)) (z := (⟨"com/example/anchored_threads/anchoredthreads/internal/ChunkedList", "get", "(I)Ljava/lang/Object;"⟩ : MethodName)) hown (mvT hZ (hw _ (List.mem_of_getElem? (i := 47) rfl))) (mvT hZ (hw _ (List.mem_of_getElem? (i := 48) rfl))) (notFace_of_selects (args := #[]) (mvT hZ (hw _ (List.mem_of_getElem? (i := 50) rfl)))) (mvT hZ (hw _ (List.mem_of_getElem? (i := 50) rfl))) (mvT hZ (hw _ (List.mem_of_getElem? (i := 49) rfl))) (by decide) (backOf (W := 0) (rmGt l Z a0 hw [] b1 ch2 ea2 kc2 ke2 (4 : Int32) mc105 (4 : Int32) [(.ref bx4), (.ref bx80), (.ref bx87), (.ref bx96)] (1 : Int32) bx80 T105.heap n0 Z105 hC105' (by decide) (by decide) (by decide) (by decide) ⟨by decide, by decide⟩ rfl) hZ (hw _ (List.mem_of_getElem? (i := 51) rfl)) (hw _ (List.mem_of_getElem? (i := 3) rfl)) (by decide) (by decide)) q115a q115c (g := (mkF m 126 #[.val (.int p1), .val (.int p2), .val (.int p3), .val (.int (4 : Int32)), .val (.ref b1), .val (.int (1 : Int32)), .unset] [(.int (1 : Int32)), (.ref b1)])) rfl (by rw [hml]; rfl) (Steps.refl _) (argsL := [(.int (1 : Int32))]) (rest := []) (lenOf pd_6 rfl) rfl (by show 2 * 0 + _ ≤ _; exact Nat.le_of_eq rfl) (hb hby at_126) (fun _ _ => ⟨rfl, rfl, (by decide : 7 + 0 ≤ _), (by decide : 12 + 0 ≤ _)⟩)
      dsimp only [Pt.U, Pt.locs, Pt.cells, Pt.slots] at X115 l115 y115 z115 st115 hQ115
      subst l115 y115 z115
      obtain ⟨hv115, N115q, r115⟩ := hQ115
      subst hv115
      have N115 := Fr.app N105 N115q
      have f116 := (f100.keep kp105)
      obtain ⟨T117, X117, e117, st117⟩ := castY X115 hx hZ hown (hw _ (List.mem_of_getElem? (i := 60) rfl)) r115 (Ins.self f116) (g := (mkF m 129 #[.val (.int p1), .val (.int p2), .val (.int p3), .val (.int (4 : Int32)), .val (.ref b1), .val (.int (1 : Int32)), .unset] [(.ref bx80)])) rfl rfl (hb hby at_129)
      have f118 := (((((FB80.keep kp85 (ninS nq84_bx80_b1 (ninS nq84_bx80_ch2 (ninS nq84_bx80_ea2 nin0)))).keep kp87 nin0).keep kp94 (ninS nq84_bx80_b1 (ninS nq84_bx80_ch2 (ninS nq84_bx80_ea2 nin0)))).keep kp96 nin0).keep kp105 (ninS nq84_bx80_b1 (ninS nq84_bx80_ch2 (ninS nq84_bx80_ea2 nin0))))
      obtain ⟨cq119, kq119, q119a, q119b, q119c⟩ := isOf hZ e117 f116
      obtain ⟨_, _, ⟨T119, L119, k119, n119⟩, -, X119, ⟨Lc119, hQ119, l119, y119, z119⟩, st119⟩ := X117.virtualBack hx (y := (⟨"java/lang/Integer", "intValue", "()I"⟩ : MethodName)) (z := (⟨"java/lang/Integer", "intValue", "()I"⟩ : MethodName)) hown (mvT hZ (hw _ (List.mem_of_getElem? (i := 62) rfl))) (mvT hZ (hw _ (List.mem_of_getElem? (i := 63) rfl))) (notFace_of_selects (args := #[]) (mvT hZ (hw _ (List.mem_of_getElem? (i := 65) rfl)))) (mvT hZ (hw _ (List.mem_of_getElem? (i := 65) rfl))) (mvT hZ (hw _ (List.mem_of_getElem? (i := 64) rfl))) (by decide) (backOf (W := 0) (rmIn l Z a0 hw [] bx80 (p2 + (1 : Int32)) T105.heap n0 Z105 f118) hZ (hw _ (List.mem_of_getElem? (i := 66) rfl)) (hw _ (List.mem_of_getElem? (i := 32) rfl)) (by decide) (by decide)) q119a q119c (g := (mkF m 141 #[.val (.int p1), .val (.int p2), .val (.int p3), .val (.int (4 : Int32)), .val (.ref b1), .val (.int (1 : Int32)), .val (.ref bx80)] [(.ref bx80)])) rfl (by rw [hml]; rfl) (Steps.refl _) (argsL := []) (rest := []) (lenOf pd_7 rfl) rfl (by show 2 * 0 + _ ≤ _; exact Nat.le_of_eq rfl) (hb hby at_141) (fun _ _ => ⟨rfl, e117, (by decide : 7 + 0 ≤ _), (by decide : 12 + 0 ≤ _)⟩)
      dsimp only [Pt.U, Pt.locs, Pt.cells, Pt.slots] at X119 l119 y119 z119 st119 hQ119
      subst l119 y119 z119
      obtain ⟨hv119, N119q, r119⟩ := hQ119
      subst hv119
      have N119 := Fr.app N115 N119q
      obtain ⟨fs, hr, hrun, hended, hW, hsame⟩ := X119.leave (v := some (.int (1 : Int32))) (fun h => by rw [Bd.returns] at h; cases h)
      refine ⟨_, _, pre0 _ (R8 _ (R78 _ (R106 _ (R114 _ ?_)))), hrun, hended, _, _, rfl, ?_, ⟨_, rfl⟩, hW, hsame.mono (by decide) (by decide)⟩
      · show Steps p.tables e below (T105.setTop (mkF m 122 #[.val (.int p1), .val (.int p2), .val (.int p3), .val (.int (4 : Int32)), .val (.ref b1), .val (.int (1 : Int32)), .unset] [])) _
        refine XS.aload X105.here hx rfl (hb hby at_122) rfl rfl ?_
        show Steps p.tables e below (T105.setTop (mkF m 124 #[.val (.int p1), .val (.int p2), .val (.int p3), .val (.int (4 : Int32)), .val (.ref b1), .val (.int (1 : Int32)), .unset] [(.ref b1)])) _
        refine XS.iload X105.here hx rfl (hb hby at_124) rfl ?_
        show Steps p.tables e below (T105.setTop (mkF m 126 #[.val (.int p1), .val (.int p2), .val (.int p3), .val (.int (4 : Int32)), .val (.ref b1), .val (.int (1 : Int32)), .unset] [(.int (1 : Int32)), (.ref b1)])) _
        refine st115.trans ?_
        show Steps p.tables e below (T115.setTop (mkF m 129 #[.val (.int p1), .val (.int p2), .val (.int p3), .val (.int (4 : Int32)), .val (.ref b1), .val (.int (1 : Int32)), .unset] [(.ref bx80)])) _
        refine st117 _ ?_
        show Steps p.tables e below (T117.setTop (mkF m 132 #[.val (.int p1), .val (.int p2), .val (.int p3), .val (.int (4 : Int32)), .val (.ref b1), .val (.int (1 : Int32)), .unset] [(.ref bx80)])) _
        refine XS.astore X117.here hx rfl (hb hby at_132) rfl rfl (l' := #[.val (.int p1), .val (.int p2), .val (.int p3), .val (.int (4 : Int32)), .val (.ref b1), .val (.int (1 : Int32)), .val (.ref bx80)]) rfl ?_
        show Steps p.tables e below (T117.setTop (mkF m 134 #[.val (.int p1), .val (.int p2), .val (.int p3), .val (.int (4 : Int32)), .val (.ref b1), .val (.int (1 : Int32)), .val (.ref bx80)] [])) _
        refine XS.aload X117.here hx rfl (hb hby at_134) rfl rfl ?_
        show Steps p.tables e below (T117.setTop (mkF m 136 #[.val (.int p1), .val (.int p2), .val (.int p3), .val (.int (4 : Int32)), .val (.ref b1), .val (.int (1 : Int32)), .val (.ref bx80)] [(.ref bx80)])) _
        refine XS.ifnullNo X117.here hx rfl (hb hby at_136) rfl ?_
        show Steps p.tables e below (T117.setTop (mkF m 139 #[.val (.int p1), .val (.int p2), .val (.int p3), .val (.int (4 : Int32)), .val (.ref b1), .val (.int (1 : Int32)), .val (.ref bx80)] [])) _
        refine XS.aload X117.here hx rfl (hb hby at_139) rfl rfl ?_
        show Steps p.tables e below (T117.setTop (mkF m 141 #[.val (.int p1), .val (.int p2), .val (.int p3), .val (.int (4 : Int32)), .val (.ref b1), .val (.int (1 : Int32)), .val (.ref bx80)] [(.ref bx80)])) _
        refine st119.trans ?_
        show Steps p.tables e below (T119.setTop (mkF m 144 #[.val (.int p1), .val (.int p2), .val (.int p3), .val (.int (4 : Int32)), .val (.ref b1), .val (.int (1 : Int32)), .val (.ref bx80)] [(.int (p2 + (1 : Int32)))])) _
        refine XS.iloadN X119.here hx rfl (hb hby at_144) rfl ?_
        show Steps p.tables e below (T119.setTop (mkF m 145 #[.val (.int p1), .val (.int p2), .val (.int p3), .val (.int (4 : Int32)), .val (.ref b1), .val (.int (1 : Int32)), .val (.ref bx80)] [(.int p2), (.int (p2 + (1 : Int32)))])) _
        refine XS.iload X119.here hx rfl (hb hby at_145) rfl ?_
        show Steps p.tables e below (T119.setTop (mkF m 147 #[.val (.int p1), .val (.int p2), .val (.int p3), .val (.int (4 : Int32)), .val (.ref b1), .val (.int (1 : Int32)), .val (.ref bx80)] [(.int (1 : Int32)), (.int p2), (.int (p2 + (1 : Int32)))])) _
        refine XS.iadd X119.here hx rfl (hb hby at_147) rfl ?_
        show Steps p.tables e below (T119.setTop (mkF m 148 #[.val (.int p1), .val (.int p2), .val (.int p3), .val (.int (4 : Int32)), .val (.ref b1), .val (.int (1 : Int32)), .val (.ref bx80)] [(.int (p2 + (1 : Int32))), (.int (p2 + (1 : Int32)))])) _
        refine XS.icmpNo X119.here hx rfl (hb hby at_148) rfl (teq rfl).2 ?_
        show Steps p.tables e below (T119.setTop (mkF m 151 #[.val (.int p1), .val (.int p2), .val (.int p3), .val (.int (4 : Int32)), .val (.ref b1), .val (.int (1 : Int32)), .val (.ref bx80)] [])) _
        refine XS.iconst X119.here hx rfl (hb hby at_151) ?_
        show Steps p.tables e below (T119.setTop (mkF m 152 #[.val (.int p1), .val (.int p2), .val (.int p3), .val (.int (4 : Int32)), .val (.ref b1), .val (.int (1 : Int32)), .val (.ref bx80)] [(.int (1 : Int32))])) _
        refine XS.goto X119.here hx rfl (pc0 := 152) (pc' := 156) rfl (hb hby at_152) (by decide) (by decide) ?_
        show Steps p.tables e below (T119.setTop (mkF m 156 #[.val (.int p1), .val (.int p2), .val (.int p3), .val (.int (4 : Int32)), .val (.ref b1), .val (.int (1 : Int32)), .val (.ref bx80)] [(.int (1 : Int32))])) _
        exact retN X119 hx (t := .boolean) Bd.returns (by simp) (hb hby at_156) hr
      · show Q0 n0 _ T119.heap _
        rw [r119]
        exact ⟨rfl, N119⟩
    · have R120 : ∀ tg, Steps p.tables e below (T105.setTop (mkF m 122 #[.val (.int p1), .val (.int p2), .val (.int p3), .val (.int (4 : Int32)), .val (.ref b1), .val (.int (2 : Int32)), .unset] [])) tg → Steps p.tables e below (T105.setTop (mkF m 122 #[.val (.int p1), .val (.int p2), .val (.int p3), .val (.int (4 : Int32)), .val (.ref b1), .val (.int ((p3 &&& (2147483647 : Int32)) % (4 : Int32))), .unset] [])) tg := fun tg kt => by rw [hk107]; exact kt
      obtain ⟨cq121, kq121, q121a, q121b, q121c⟩ := isOf hZ rfl hC105'.1
      obtain ⟨_, _, ⟨T121, L121, k121, n121⟩, -, X121, ⟨Lc121, hQ121, l121, y121, z121⟩, st121⟩ := X105.virtualBack hx (y := (⟨"com/example/anchored_threads/anchoredthreads/internal/ChunkedList", "get", "(I)Ljava/lang/Object;"⟩ : MethodName)) (z := (⟨"com/example/anchored_threads/anchoredthreads/internal/ChunkedList", "get", "(I)Ljava/lang/Object;"⟩ : MethodName)) hown (mvT hZ (hw _ (List.mem_of_getElem? (i := 47) rfl))) (mvT hZ (hw _ (List.mem_of_getElem? (i := 48) rfl))) (notFace_of_selects (args := #[]) (mvT hZ (hw _ (List.mem_of_getElem? (i := 50) rfl)))) (mvT hZ (hw _ (List.mem_of_getElem? (i := 50) rfl))) (mvT hZ (hw _ (List.mem_of_getElem? (i := 49) rfl))) (by decide) (backOf (W := 0) (rmGt l Z a0 hw [] b1 ch2 ea2 kc2 ke2 (4 : Int32) mc105 (4 : Int32) [(.ref bx4), (.ref bx80), (.ref bx87), (.ref bx96)] (2 : Int32) bx87 T105.heap n0 Z105 hC105' (by decide) (by decide) (by decide) (by decide) ⟨by decide, by decide⟩ rfl) hZ (hw _ (List.mem_of_getElem? (i := 51) rfl)) (hw _ (List.mem_of_getElem? (i := 3) rfl)) (by decide) (by decide)) q121a q121c (g := (mkF m 126 #[.val (.int p1), .val (.int p2), .val (.int p3), .val (.int (4 : Int32)), .val (.ref b1), .val (.int (2 : Int32)), .unset] [(.int (2 : Int32)), (.ref b1)])) rfl (by rw [hml]; rfl) (Steps.refl _) (argsL := [(.int (2 : Int32))]) (rest := []) (lenOf pd_6 rfl) rfl (by show 2 * 0 + _ ≤ _; exact Nat.le_of_eq rfl) (hb hby at_126) (fun _ _ => ⟨rfl, rfl, (by decide : 7 + 0 ≤ _), (by decide : 12 + 0 ≤ _)⟩)
      dsimp only [Pt.U, Pt.locs, Pt.cells, Pt.slots] at X121 l121 y121 z121 st121 hQ121
      subst l121 y121 z121
      obtain ⟨hv121, N121q, r121⟩ := hQ121
      subst hv121
      have N121 := Fr.app N105 N121q
      have f122 := (f102.keep kp105)
      obtain ⟨T123, X123, e123, st123⟩ := castY X121 hx hZ hown (hw _ (List.mem_of_getElem? (i := 60) rfl)) r121 (Ins.self f122) (g := (mkF m 129 #[.val (.int p1), .val (.int p2), .val (.int p3), .val (.int (4 : Int32)), .val (.ref b1), .val (.int (2 : Int32)), .unset] [(.ref bx87)])) rfl rfl (hb hby at_129)
      have f124 := (((FB87.keep kp94 (ninS nq93_bx87_b1 (ninS nq93_bx87_ch2 (ninS nq93_bx87_ea2 nin0)))).keep kp96 nin0).keep kp105 (ninS nq93_bx87_b1 (ninS nq93_bx87_ch2 (ninS nq93_bx87_ea2 nin0))))
      obtain ⟨cq125, kq125, q125a, q125b, q125c⟩ := isOf hZ e123 f122
      obtain ⟨_, _, ⟨T125, L125, k125, n125⟩, -, X125, ⟨Lc125, hQ125, l125, y125, z125⟩, st125⟩ := X123.virtualBack hx (y := (⟨"java/lang/Integer", "intValue", "()I"⟩ : MethodName)) (z := (⟨"java/lang/Integer", "intValue", "()I"⟩ : MethodName)) hown (mvT hZ (hw _ (List.mem_of_getElem? (i := 62) rfl))) (mvT hZ (hw _ (List.mem_of_getElem? (i := 63) rfl))) (notFace_of_selects (args := #[]) (mvT hZ (hw _ (List.mem_of_getElem? (i := 65) rfl)))) (mvT hZ (hw _ (List.mem_of_getElem? (i := 65) rfl))) (mvT hZ (hw _ (List.mem_of_getElem? (i := 64) rfl))) (by decide) (backOf (W := 0) (rmIn l Z a0 hw [] bx87 (p2 + (2 : Int32)) T105.heap n0 Z105 f124) hZ (hw _ (List.mem_of_getElem? (i := 66) rfl)) (hw _ (List.mem_of_getElem? (i := 32) rfl)) (by decide) (by decide)) q125a q125c (g := (mkF m 141 #[.val (.int p1), .val (.int p2), .val (.int p3), .val (.int (4 : Int32)), .val (.ref b1), .val (.int (2 : Int32)), .val (.ref bx87)] [(.ref bx87)])) rfl (by rw [hml]; rfl) (Steps.refl _) (argsL := []) (rest := []) (lenOf pd_7 rfl) rfl (by show 2 * 0 + _ ≤ _; exact Nat.le_of_eq rfl) (hb hby at_141) (fun _ _ => ⟨rfl, e123, (by decide : 7 + 0 ≤ _), (by decide : 12 + 0 ≤ _)⟩)
      dsimp only [Pt.U, Pt.locs, Pt.cells, Pt.slots] at X125 l125 y125 z125 st125 hQ125
      subst l125 y125 z125
      obtain ⟨hv125, N125q, r125⟩ := hQ125
      subst hv125
      have N125 := Fr.app N121 N125q
      obtain ⟨fs, hr, hrun, hended, hW, hsame⟩ := X125.leave (v := some (.int (1 : Int32))) (fun h => by rw [Bd.returns] at h; cases h)
      refine ⟨_, _, pre0 _ (R8 _ (R78 _ (R106 _ (R120 _ ?_)))), hrun, hended, _, _, rfl, ?_, ⟨_, rfl⟩, hW, hsame.mono (by decide) (by decide)⟩
      · show Steps p.tables e below (T105.setTop (mkF m 122 #[.val (.int p1), .val (.int p2), .val (.int p3), .val (.int (4 : Int32)), .val (.ref b1), .val (.int (2 : Int32)), .unset] [])) _
        refine XS.aload X105.here hx rfl (hb hby at_122) rfl rfl ?_
        show Steps p.tables e below (T105.setTop (mkF m 124 #[.val (.int p1), .val (.int p2), .val (.int p3), .val (.int (4 : Int32)), .val (.ref b1), .val (.int (2 : Int32)), .unset] [(.ref b1)])) _
        refine XS.iload X105.here hx rfl (hb hby at_124) rfl ?_
        show Steps p.tables e below (T105.setTop (mkF m 126 #[.val (.int p1), .val (.int p2), .val (.int p3), .val (.int (4 : Int32)), .val (.ref b1), .val (.int (2 : Int32)), .unset] [(.int (2 : Int32)), (.ref b1)])) _
        refine st121.trans ?_
        show Steps p.tables e below (T121.setTop (mkF m 129 #[.val (.int p1), .val (.int p2), .val (.int p3), .val (.int (4 : Int32)), .val (.ref b1), .val (.int (2 : Int32)), .unset] [(.ref bx87)])) _
        refine st123 _ ?_
        show Steps p.tables e below (T123.setTop (mkF m 132 #[.val (.int p1), .val (.int p2), .val (.int p3), .val (.int (4 : Int32)), .val (.ref b1), .val (.int (2 : Int32)), .unset] [(.ref bx87)])) _
        refine XS.astore X123.here hx rfl (hb hby at_132) rfl rfl (l' := #[.val (.int p1), .val (.int p2), .val (.int p3), .val (.int (4 : Int32)), .val (.ref b1), .val (.int (2 : Int32)), .val (.ref bx87)]) rfl ?_
        show Steps p.tables e below (T123.setTop (mkF m 134 #[.val (.int p1), .val (.int p2), .val (.int p3), .val (.int (4 : Int32)), .val (.ref b1), .val (.int (2 : Int32)), .val (.ref bx87)] [])) _
        refine XS.aload X123.here hx rfl (hb hby at_134) rfl rfl ?_
        show Steps p.tables e below (T123.setTop (mkF m 136 #[.val (.int p1), .val (.int p2), .val (.int p3), .val (.int (4 : Int32)), .val (.ref b1), .val (.int (2 : Int32)), .val (.ref bx87)] [(.ref bx87)])) _
        refine XS.ifnullNo X123.here hx rfl (hb hby at_136) rfl ?_
        show Steps p.tables e below (T123.setTop (mkF m 139 #[.val (.int p1), .val (.int p2), .val (.int p3), .val (.int (4 : Int32)), .val (.ref b1), .val (.int (2 : Int32)), .val (.ref bx87)] [])) _
        refine XS.aload X123.here hx rfl (hb hby at_139) rfl rfl ?_
        show Steps p.tables e below (T123.setTop (mkF m 141 #[.val (.int p1), .val (.int p2), .val (.int p3), .val (.int (4 : Int32)), .val (.ref b1), .val (.int (2 : Int32)), .val (.ref bx87)] [(.ref bx87)])) _
        refine st125.trans ?_
        show Steps p.tables e below (T125.setTop (mkF m 144 #[.val (.int p1), .val (.int p2), .val (.int p3), .val (.int (4 : Int32)), .val (.ref b1), .val (.int (2 : Int32)), .val (.ref bx87)] [(.int (p2 + (2 : Int32)))])) _
        refine XS.iloadN X125.here hx rfl (hb hby at_144) rfl ?_
        show Steps p.tables e below (T125.setTop (mkF m 145 #[.val (.int p1), .val (.int p2), .val (.int p3), .val (.int (4 : Int32)), .val (.ref b1), .val (.int (2 : Int32)), .val (.ref bx87)] [(.int p2), (.int (p2 + (2 : Int32)))])) _
        refine XS.iload X125.here hx rfl (hb hby at_145) rfl ?_
        show Steps p.tables e below (T125.setTop (mkF m 147 #[.val (.int p1), .val (.int p2), .val (.int p3), .val (.int (4 : Int32)), .val (.ref b1), .val (.int (2 : Int32)), .val (.ref bx87)] [(.int (2 : Int32)), (.int p2), (.int (p2 + (2 : Int32)))])) _
        refine XS.iadd X125.here hx rfl (hb hby at_147) rfl ?_
        show Steps p.tables e below (T125.setTop (mkF m 148 #[.val (.int p1), .val (.int p2), .val (.int p3), .val (.int (4 : Int32)), .val (.ref b1), .val (.int (2 : Int32)), .val (.ref bx87)] [(.int (p2 + (2 : Int32))), (.int (p2 + (2 : Int32)))])) _
        refine XS.icmpNo X125.here hx rfl (hb hby at_148) rfl (teq rfl).2 ?_
        show Steps p.tables e below (T125.setTop (mkF m 151 #[.val (.int p1), .val (.int p2), .val (.int p3), .val (.int (4 : Int32)), .val (.ref b1), .val (.int (2 : Int32)), .val (.ref bx87)] [])) _
        refine XS.iconst X125.here hx rfl (hb hby at_151) ?_
        show Steps p.tables e below (T125.setTop (mkF m 152 #[.val (.int p1), .val (.int p2), .val (.int p3), .val (.int (4 : Int32)), .val (.ref b1), .val (.int (2 : Int32)), .val (.ref bx87)] [(.int (1 : Int32))])) _
        refine XS.goto X125.here hx rfl (pc0 := 152) (pc' := 156) rfl (hb hby at_152) (by decide) (by decide) ?_
        show Steps p.tables e below (T125.setTop (mkF m 156 #[.val (.int p1), .val (.int p2), .val (.int p3), .val (.int (4 : Int32)), .val (.ref b1), .val (.int (2 : Int32)), .val (.ref bx87)] [(.int (1 : Int32))])) _
        exact retN X125 hx (t := .boolean) Bd.returns (by simp) (hb hby at_156) hr
      · show Q0 n0 _ T125.heap _
        rw [r125]
        exact ⟨rfl, N125⟩
    · have R126 : ∀ tg, Steps p.tables e below (T105.setTop (mkF m 122 #[.val (.int p1), .val (.int p2), .val (.int p3), .val (.int (4 : Int32)), .val (.ref b1), .val (.int (3 : Int32)), .unset] [])) tg → Steps p.tables e below (T105.setTop (mkF m 122 #[.val (.int p1), .val (.int p2), .val (.int p3), .val (.int (4 : Int32)), .val (.ref b1), .val (.int ((p3 &&& (2147483647 : Int32)) % (4 : Int32))), .unset] [])) tg := fun tg kt => by rw [hk107]; exact kt
      obtain ⟨cq127, kq127, q127a, q127b, q127c⟩ := isOf hZ rfl hC105'.1
      obtain ⟨_, _, ⟨T127, L127, k127, n127⟩, -, X127, ⟨Lc127, hQ127, l127, y127, z127⟩, st127⟩ := X105.virtualBack hx (y := (⟨"com/example/anchored_threads/anchoredthreads/internal/ChunkedList", "get", "(I)Ljava/lang/Object;"⟩ : MethodName)) (z := (⟨"com/example/anchored_threads/anchoredthreads/internal/ChunkedList", "get", "(I)Ljava/lang/Object;"⟩ : MethodName)) hown (mvT hZ (hw _ (List.mem_of_getElem? (i := 47) rfl))) (mvT hZ (hw _ (List.mem_of_getElem? (i := 48) rfl))) (notFace_of_selects (args := #[]) (mvT hZ (hw _ (List.mem_of_getElem? (i := 50) rfl)))) (mvT hZ (hw _ (List.mem_of_getElem? (i := 50) rfl))) (mvT hZ (hw _ (List.mem_of_getElem? (i := 49) rfl))) (by decide) (backOf (W := 0) (rmGt l Z a0 hw [] b1 ch2 ea2 kc2 ke2 (4 : Int32) mc105 (4 : Int32) [(.ref bx4), (.ref bx80), (.ref bx87), (.ref bx96)] (3 : Int32) bx96 T105.heap n0 Z105 hC105' (by decide) (by decide) (by decide) (by decide) ⟨by decide, by decide⟩ rfl) hZ (hw _ (List.mem_of_getElem? (i := 51) rfl)) (hw _ (List.mem_of_getElem? (i := 3) rfl)) (by decide) (by decide)) q127a q127c (g := (mkF m 126 #[.val (.int p1), .val (.int p2), .val (.int p3), .val (.int (4 : Int32)), .val (.ref b1), .val (.int (3 : Int32)), .unset] [(.int (3 : Int32)), (.ref b1)])) rfl (by rw [hml]; rfl) (Steps.refl _) (argsL := [(.int (3 : Int32))]) (rest := []) (lenOf pd_6 rfl) rfl (by show 2 * 0 + _ ≤ _; exact Nat.le_of_eq rfl) (hb hby at_126) (fun _ _ => ⟨rfl, rfl, (by decide : 7 + 0 ≤ _), (by decide : 12 + 0 ≤ _)⟩)
      dsimp only [Pt.U, Pt.locs, Pt.cells, Pt.slots] at X127 l127 y127 z127 st127 hQ127
      subst l127 y127 z127
      obtain ⟨hv127, N127q, r127⟩ := hQ127
      subst hv127
      have N127 := Fr.app N105 N127q
      have f128 := (EB96.keep kp105)
      obtain ⟨T129, X129, e129, st129⟩ := castY X127 hx hZ hown (hw _ (List.mem_of_getElem? (i := 60) rfl)) r127 (Ins.self f128) (g := (mkF m 129 #[.val (.int p1), .val (.int p2), .val (.int p3), .val (.int (4 : Int32)), .val (.ref b1), .val (.int (3 : Int32)), .unset] [(.ref bx96)])) rfl rfl (hb hby at_129)
      have f130 := (FB96.keep kp105 (ninS nq104_bx96_b1 (ninS nq104_bx96_ch2 (ninS nq104_bx96_ea2 nin0))))
      obtain ⟨cq131, kq131, q131a, q131b, q131c⟩ := isOf hZ e129 f128
      obtain ⟨_, _, ⟨T131, L131, k131, n131⟩, -, X131, ⟨Lc131, hQ131, l131, y131, z131⟩, st131⟩ := X129.virtualBack hx (y := (⟨"java/lang/Integer", "intValue", "()I"⟩ : MethodName)) (z := (⟨"java/lang/Integer", "intValue", "()I"⟩ : MethodName)) hown (mvT hZ (hw _ (List.mem_of_getElem? (i := 62) rfl))) (mvT hZ (hw _ (List.mem_of_getElem? (i := 63) rfl))) (notFace_of_selects (args := #[]) (mvT hZ (hw _ (List.mem_of_getElem? (i := 65) rfl)))) (mvT hZ (hw _ (List.mem_of_getElem? (i := 65) rfl))) (mvT hZ (hw _ (List.mem_of_getElem? (i := 64) rfl))) (by decide) (backOf (W := 0) (rmIn l Z a0 hw [] bx96 (p2 + (3 : Int32)) T105.heap n0 Z105 f130) hZ (hw _ (List.mem_of_getElem? (i := 66) rfl)) (hw _ (List.mem_of_getElem? (i := 32) rfl)) (by decide) (by decide)) q131a q131c (g := (mkF m 141 #[.val (.int p1), .val (.int p2), .val (.int p3), .val (.int (4 : Int32)), .val (.ref b1), .val (.int (3 : Int32)), .val (.ref bx96)] [(.ref bx96)])) rfl (by rw [hml]; rfl) (Steps.refl _) (argsL := []) (rest := []) (lenOf pd_7 rfl) rfl (by show 2 * 0 + _ ≤ _; exact Nat.le_of_eq rfl) (hb hby at_141) (fun _ _ => ⟨rfl, e129, (by decide : 7 + 0 ≤ _), (by decide : 12 + 0 ≤ _)⟩)
      dsimp only [Pt.U, Pt.locs, Pt.cells, Pt.slots] at X131 l131 y131 z131 st131 hQ131
      subst l131 y131 z131
      obtain ⟨hv131, N131q, r131⟩ := hQ131
      subst hv131
      have N131 := Fr.app N127 N131q
      obtain ⟨fs, hr, hrun, hended, hW, hsame⟩ := X131.leave (v := some (.int (1 : Int32))) (fun h => by rw [Bd.returns] at h; cases h)
      refine ⟨_, _, pre0 _ (R8 _ (R78 _ (R106 _ (R126 _ ?_)))), hrun, hended, _, _, rfl, ?_, ⟨_, rfl⟩, hW, hsame.mono (by decide) (by decide)⟩
      · show Steps p.tables e below (T105.setTop (mkF m 122 #[.val (.int p1), .val (.int p2), .val (.int p3), .val (.int (4 : Int32)), .val (.ref b1), .val (.int (3 : Int32)), .unset] [])) _
        refine XS.aload X105.here hx rfl (hb hby at_122) rfl rfl ?_
        show Steps p.tables e below (T105.setTop (mkF m 124 #[.val (.int p1), .val (.int p2), .val (.int p3), .val (.int (4 : Int32)), .val (.ref b1), .val (.int (3 : Int32)), .unset] [(.ref b1)])) _
        refine XS.iload X105.here hx rfl (hb hby at_124) rfl ?_
        show Steps p.tables e below (T105.setTop (mkF m 126 #[.val (.int p1), .val (.int p2), .val (.int p3), .val (.int (4 : Int32)), .val (.ref b1), .val (.int (3 : Int32)), .unset] [(.int (3 : Int32)), (.ref b1)])) _
        refine st127.trans ?_
        show Steps p.tables e below (T127.setTop (mkF m 129 #[.val (.int p1), .val (.int p2), .val (.int p3), .val (.int (4 : Int32)), .val (.ref b1), .val (.int (3 : Int32)), .unset] [(.ref bx96)])) _
        refine st129 _ ?_
        show Steps p.tables e below (T129.setTop (mkF m 132 #[.val (.int p1), .val (.int p2), .val (.int p3), .val (.int (4 : Int32)), .val (.ref b1), .val (.int (3 : Int32)), .unset] [(.ref bx96)])) _
        refine XS.astore X129.here hx rfl (hb hby at_132) rfl rfl (l' := #[.val (.int p1), .val (.int p2), .val (.int p3), .val (.int (4 : Int32)), .val (.ref b1), .val (.int (3 : Int32)), .val (.ref bx96)]) rfl ?_
        show Steps p.tables e below (T129.setTop (mkF m 134 #[.val (.int p1), .val (.int p2), .val (.int p3), .val (.int (4 : Int32)), .val (.ref b1), .val (.int (3 : Int32)), .val (.ref bx96)] [])) _
        refine XS.aload X129.here hx rfl (hb hby at_134) rfl rfl ?_
        show Steps p.tables e below (T129.setTop (mkF m 136 #[.val (.int p1), .val (.int p2), .val (.int p3), .val (.int (4 : Int32)), .val (.ref b1), .val (.int (3 : Int32)), .val (.ref bx96)] [(.ref bx96)])) _
        refine XS.ifnullNo X129.here hx rfl (hb hby at_136) rfl ?_
        show Steps p.tables e below (T129.setTop (mkF m 139 #[.val (.int p1), .val (.int p2), .val (.int p3), .val (.int (4 : Int32)), .val (.ref b1), .val (.int (3 : Int32)), .val (.ref bx96)] [])) _
        refine XS.aload X129.here hx rfl (hb hby at_139) rfl rfl ?_
        show Steps p.tables e below (T129.setTop (mkF m 141 #[.val (.int p1), .val (.int p2), .val (.int p3), .val (.int (4 : Int32)), .val (.ref b1), .val (.int (3 : Int32)), .val (.ref bx96)] [(.ref bx96)])) _
        refine st131.trans ?_
        show Steps p.tables e below (T131.setTop (mkF m 144 #[.val (.int p1), .val (.int p2), .val (.int p3), .val (.int (4 : Int32)), .val (.ref b1), .val (.int (3 : Int32)), .val (.ref bx96)] [(.int (p2 + (3 : Int32)))])) _
        refine XS.iloadN X131.here hx rfl (hb hby at_144) rfl ?_
        show Steps p.tables e below (T131.setTop (mkF m 145 #[.val (.int p1), .val (.int p2), .val (.int p3), .val (.int (4 : Int32)), .val (.ref b1), .val (.int (3 : Int32)), .val (.ref bx96)] [(.int p2), (.int (p2 + (3 : Int32)))])) _
        refine XS.iload X131.here hx rfl (hb hby at_145) rfl ?_
        show Steps p.tables e below (T131.setTop (mkF m 147 #[.val (.int p1), .val (.int p2), .val (.int p3), .val (.int (4 : Int32)), .val (.ref b1), .val (.int (3 : Int32)), .val (.ref bx96)] [(.int (3 : Int32)), (.int p2), (.int (p2 + (3 : Int32)))])) _
        refine XS.iadd X131.here hx rfl (hb hby at_147) rfl ?_
        show Steps p.tables e below (T131.setTop (mkF m 148 #[.val (.int p1), .val (.int p2), .val (.int p3), .val (.int (4 : Int32)), .val (.ref b1), .val (.int (3 : Int32)), .val (.ref bx96)] [(.int (p2 + (3 : Int32))), (.int (p2 + (3 : Int32)))])) _
        refine XS.icmpNo X131.here hx rfl (hb hby at_148) rfl (teq rfl).2 ?_
        show Steps p.tables e below (T131.setTop (mkF m 151 #[.val (.int p1), .val (.int p2), .val (.int p3), .val (.int (4 : Int32)), .val (.ref b1), .val (.int (3 : Int32)), .val (.ref bx96)] [])) _
        refine XS.iconst X131.here hx rfl (hb hby at_151) ?_
        show Steps p.tables e below (T131.setTop (mkF m 152 #[.val (.int p1), .val (.int p2), .val (.int p3), .val (.int (4 : Int32)), .val (.ref b1), .val (.int (3 : Int32)), .val (.ref bx96)] [(.int (1 : Int32))])) _
        refine XS.goto X131.here hx rfl (pc0 := 152) (pc' := 156) rfl (hb hby at_152) (by decide) (by decide) ?_
        show Steps p.tables e below (T131.setTop (mkF m 156 #[.val (.int p1), .val (.int p2), .val (.int p3), .val (.int (4 : Int32)), .val (.ref b1), .val (.int (3 : Int32)), .val (.ref bx96)] [(.int (1 : Int32))])) _
        exact retN X131 hx (t := .boolean) Bd.returns (by simp) (hb hby at_156) hr
      · show Q0 n0 _ T131.heap _
        rw [r131]
        exact ⟨rfl, N131⟩
  · have R132 : ∀ tg, Steps p.tables e below (T7.setTop (mkF m 29 #[.val (.int p1), .val (.int p2), .val (.int p3), .val (.int (5 : Int32)), .val (.ref b1), .unset, .unset] [])) tg → Steps p.tables e below (T7.setTop (mkF m 29 #[.val (.int p1), .val (.int p2), .val (.int p3), .val (.int ((1 : Int32) + ((p1 &&& (2147483647 : Int32)) % (6 : Int32)))), .val (.ref b1), .unset, .unset] [])) tg := fun tg kt => by rw [hk9]; exact kt
    have f133 := ((f3.keep kp4 all0).keep kp7 (allS (f5.2.2.2.2.2.2.2.2.2.1) (allS (f5.2.2.2.2.2.2.2.2.2.2.1) (allS (f5.2.2.2.2.2.2.2.2.2.2.2.1) all0))))
    obtain ⟨_, _, ⟨T134, L134, k134, n134⟩, -, X134, ⟨Lc134, hQ134, l134, y134, z134⟩, st134⟩ := Jvm.LawKit.callS X7 hx (y := (⟨"java/lang/Integer", "valueOf", "(I)Ljava/lang/Integer;"⟩ : MethodName)) hown (mvT hZ (hw _ (List.mem_of_getElem? (i := 30) rfl))) (mvT hZ (hw _ (List.mem_of_getElem? (i := 31) rfl))) (mvT hZ (hw _ (List.mem_of_getElem? (i := 32) rfl))) (mvT hZ (hw _ (List.mem_of_getElem? (i := 33) rfl))) (by decide) (backOf (W := 1) (rmIV l Z a0 hw [] (p2 + (1 : Int32)) ca cc T7.heap n0 Z7 f133 hS0 hS1 hB1) hZ (hw _ (List.mem_of_getElem? (i := 33) rfl)) (hw _ (List.mem_of_getElem? (i := 32) rfl)) (by decide) (by decide)) (g := (mkF m 39 #[.val (.int p1), .val (.int p2), .val (.int p3), .val (.int (5 : Int32)), .val (.ref b1), .unset, .unset] [(.int (p2 + (1 : Int32))), (.ref b1)])) rfl (by rw [hml]; rfl) (argsL := [(.int (p2 + (1 : Int32)))]) (rest := [(.ref b1)]) (lenOf pd_4 rfl) rfl (by show 2 * 0 + _ ≤ _; exact Nat.le_of_eq rfl) (hb hby at_39) (fun _ _ => ⟨rfl, rfl, (by decide : 4 + 1 ≤ _), (by decide : 9 + 1 ≤ _)⟩)
    dsimp only [Pt.U, Pt.locs, Pt.cells, Pt.slots] at X134 l134 y134 z134 st134 hQ134
    subst l134 y134 z134
    obtain ⟨bx134, hv134, N134q, kp134, EB134, FB134⟩ := hQ134
    subst hv134
    have N134 := Fr.app N7 N134q
    have Z134 : n0 ≤ T134.heap.size := Nat.le_trans Z7 kp134.1
    have f135 := (CLs.keep hC7' kp134)
    have f136 := ((EB4.keep kp7).keep kp134)
    have nq138_bx134_b1 : bx134 ≠ b1 := ne_exa EB134 f135.1 (by decide)
    have nq138_bx134_ch2 : bx134 ≠ ch2 := own_ne_arv EB134 (hw _ (List.mem_of_getElem? (i := 70) rfl)) f135.2.2.2.2.1
    have nq138_bx134_ea2 : bx134 ≠ ea2 := own_ne_arv EB134 (hw _ (List.mem_of_getElem? (i := 70) rfl)) f135.2.2.2.2.2.1
    obtain ⟨cq139, kq139, q139a, q139b, q139c⟩ := isOf hZ rfl f135.1
    obtain ⟨_, _, ⟨T139, L139, k139, n139⟩, -, X139, ⟨Lc139, hQ139, l139, y139, z139⟩, st139⟩ := X134.virtualBack hx (y := (⟨"com/example/anchored_threads/anchoredthreads/internal/ChunkedList", "add", "(Ljava/lang/Object;)Z"⟩ : MethodName)) (z := (⟨"com/example/anchored_threads/anchoredthreads/internal/ChunkedList", "add", "(Ljava/lang/Object;)Z"⟩ : MethodName)) hown (mvT hZ (hw _ (List.mem_of_getElem? (i := 37) rfl))) (mvT hZ (hw _ (List.mem_of_getElem? (i := 38) rfl))) (notFace_of_selects (args := #[]) (mvT hZ (hw _ (List.mem_of_getElem? (i := 40) rfl)))) (mvT hZ (hw _ (List.mem_of_getElem? (i := 40) rfl))) (mvT hZ (hw _ (List.mem_of_getElem? (i := 39) rfl))) (by decide) (backOf (W := 0) (rmAd l Z a0 hw [] b1 bx134 ch2 ea2 kc2 ke2 (1 : Int32) mc7 (4 : Int32) [(.ref bx4), .null, .null, .null] 1 T134.heap n0 Z134 f135 EB134 (by decide) (by decide) (by decide) ⟨by decide, by decide⟩ rfl (Nat.le_of_ble_eq_true rfl)) hZ (hw _ (List.mem_of_getElem? (i := 41) rfl)) (hw _ (List.mem_of_getElem? (i := 3) rfl)) (by decide) (by decide)) q139a q139c (g := (mkF m 42 #[.val (.int p1), .val (.int p2), .val (.int p3), .val (.int (5 : Int32)), .val (.ref b1), .unset, .unset] [(.ref bx134), (.ref b1)])) rfl (by rw [hml]; rfl) (Steps.refl _) (argsL := [(.ref bx134)]) (rest := []) (lenOf pd_5 rfl) rfl (by show 2 * 0 + _ ≤ _; exact Nat.le_of_eq rfl) (hb hby at_42) (fun _ _ => ⟨rfl, rfl, (by decide : 5 + 0 ≤ _), (by decide : 10 + 0 ≤ _)⟩)
    dsimp only [Pt.U, Pt.locs, Pt.cells, Pt.slots] at X139 l139 y139 z139 st139 hQ139
    subst l139 y139 z139
    obtain ⟨hv139, N139q, kp139, mc139, hC139⟩ := hQ139
    subst hv139
    have N139 := Fr.app N134 N139q
    have Z139 : n0 ≤ T139.heap.size := Nat.le_trans Z134 kp139.1
    have hC139' : CLs Z n0 T139.heap b1 ch2 ea2 kc2 ke2 (2 : Int32) mc139 (4 : Int32) [(.ref bx4), (.ref bx134), .null, .null] := by
      have q := hC139
      rw [show ((1 : Int32) + 1) = (2 : Int32) from by decide] at q
      exact q
    have f140 := ((f133.keep kp134 all0).keep kp139 (allS (f135.2.2.2.2.2.2.2.2.2.1) (allS (f135.2.2.2.2.2.2.2.2.2.2.1) (allS (f135.2.2.2.2.2.2.2.2.2.2.2.1) all0))))
    obtain ⟨_, _, ⟨T141, L141, k141, n141⟩, -, X141, ⟨Lc141, hQ141, l141, y141, z141⟩, st141⟩ := Jvm.LawKit.callS X139 hx (y := (⟨"java/lang/Integer", "valueOf", "(I)Ljava/lang/Integer;"⟩ : MethodName)) hown (mvT hZ (hw _ (List.mem_of_getElem? (i := 30) rfl))) (mvT hZ (hw _ (List.mem_of_getElem? (i := 31) rfl))) (mvT hZ (hw _ (List.mem_of_getElem? (i := 32) rfl))) (mvT hZ (hw _ (List.mem_of_getElem? (i := 33) rfl))) (by decide) (backOf (W := 1) (rmIV l Z a0 hw [] (p2 + (2 : Int32)) ca cc T139.heap n0 Z139 f140 hS0 hS1 hB1) hZ (hw _ (List.mem_of_getElem? (i := 33) rfl)) (hw _ (List.mem_of_getElem? (i := 32) rfl)) (by decide) (by decide)) (g := (mkF m 56 #[.val (.int p1), .val (.int p2), .val (.int p3), .val (.int (5 : Int32)), .val (.ref b1), .unset, .unset] [(.int (p2 + (2 : Int32))), (.ref b1)])) rfl (by rw [hml]; rfl) (argsL := [(.int (p2 + (2 : Int32)))]) (rest := [(.ref b1)]) (lenOf pd_4 rfl) rfl (by show 2 * 0 + _ ≤ _; exact Nat.le_of_eq rfl) (hb hby at_56) (fun _ _ => ⟨rfl, rfl, (by decide : 5 + 1 ≤ _), (by decide : 10 + 1 ≤ _)⟩)
    dsimp only [Pt.U, Pt.locs, Pt.cells, Pt.slots] at X141 l141 y141 z141 st141 hQ141
    subst l141 y141 z141
    obtain ⟨bx141, hv141, N141q, kp141, EB141, FB141⟩ := hQ141
    subst hv141
    have N141 := Fr.app N139 N141q
    have Z141 : n0 ≤ T141.heap.size := Nat.le_trans Z139 kp141.1
    have f142 := (CLs.keep hC139' kp141)
    have f143 := ((f136.keep kp139).keep kp141)
    have f145 := ((EB134.keep kp139).keep kp141)
    have nq147_bx141_b1 : bx141 ≠ b1 := ne_exa EB141 f142.1 (by decide)
    have nq147_bx141_ch2 : bx141 ≠ ch2 := own_ne_arv EB141 (hw _ (List.mem_of_getElem? (i := 70) rfl)) f142.2.2.2.2.1
    have nq147_bx141_ea2 : bx141 ≠ ea2 := own_ne_arv EB141 (hw _ (List.mem_of_getElem? (i := 70) rfl)) f142.2.2.2.2.2.1
    obtain ⟨cq148, kq148, q148a, q148b, q148c⟩ := isOf hZ rfl f142.1
    obtain ⟨_, _, ⟨T148, L148, k148, n148⟩, -, X148, ⟨Lc148, hQ148, l148, y148, z148⟩, st148⟩ := X141.virtualBack hx (y := (⟨"com/example/anchored_threads/anchoredthreads/internal/ChunkedList", "add", "(Ljava/lang/Object;)Z"⟩ : MethodName)) (z := (⟨"com/example/anchored_threads/anchoredthreads/internal/ChunkedList", "add", "(Ljava/lang/Object;)Z"⟩ : MethodName)) hown (mvT hZ (hw _ (List.mem_of_getElem? (i := 37) rfl))) (mvT hZ (hw _ (List.mem_of_getElem? (i := 38) rfl))) (notFace_of_selects (args := #[]) (mvT hZ (hw _ (List.mem_of_getElem? (i := 40) rfl)))) (mvT hZ (hw _ (List.mem_of_getElem? (i := 40) rfl))) (mvT hZ (hw _ (List.mem_of_getElem? (i := 39) rfl))) (by decide) (backOf (W := 0) (rmAd l Z a0 hw [] b1 bx141 ch2 ea2 kc2 ke2 (2 : Int32) mc139 (4 : Int32) [(.ref bx4), (.ref bx134), .null, .null] 2 T141.heap n0 Z141 f142 EB141 (by decide) (by decide) (by decide) ⟨by decide, by decide⟩ rfl (Nat.le_of_ble_eq_true rfl)) hZ (hw _ (List.mem_of_getElem? (i := 41) rfl)) (hw _ (List.mem_of_getElem? (i := 3) rfl)) (by decide) (by decide)) q148a q148c (g := (mkF m 59 #[.val (.int p1), .val (.int p2), .val (.int p3), .val (.int (5 : Int32)), .val (.ref b1), .unset, .unset] [(.ref bx141), (.ref b1)])) rfl (by rw [hml]; rfl) (Steps.refl _) (argsL := [(.ref bx141)]) (rest := []) (lenOf pd_5 rfl) rfl (by show 2 * 0 + _ ≤ _; exact Nat.le_of_eq rfl) (hb hby at_59) (fun _ _ => ⟨rfl, rfl, (by decide : 6 + 0 ≤ _), (by decide : 11 + 0 ≤ _)⟩)
    dsimp only [Pt.U, Pt.locs, Pt.cells, Pt.slots] at X148 l148 y148 z148 st148 hQ148
    subst l148 y148 z148
    obtain ⟨hv148, N148q, kp148, mc148, hC148⟩ := hQ148
    subst hv148
    have N148 := Fr.app N141 N148q
    have Z148 : n0 ≤ T148.heap.size := Nat.le_trans Z141 kp148.1
    have hC148' : CLs Z n0 T148.heap b1 ch2 ea2 kc2 ke2 (3 : Int32) mc148 (4 : Int32) [(.ref bx4), (.ref bx134), (.ref bx141), .null] := by
      have q := hC148
      rw [show ((2 : Int32) + 1) = (3 : Int32) from by decide] at q
      exact q
    have f149 := ((f140.keep kp141 all0).keep kp148 (allS (f142.2.2.2.2.2.2.2.2.2.1) (allS (f142.2.2.2.2.2.2.2.2.2.2.1) (allS (f142.2.2.2.2.2.2.2.2.2.2.2.1) all0))))
    obtain ⟨_, _, ⟨T150, L150, k150, n150⟩, -, X150, ⟨Lc150, hQ150, l150, y150, z150⟩, st150⟩ := Jvm.LawKit.callS X148 hx (y := (⟨"java/lang/Integer", "valueOf", "(I)Ljava/lang/Integer;"⟩ : MethodName)) hown (mvT hZ (hw _ (List.mem_of_getElem? (i := 30) rfl))) (mvT hZ (hw _ (List.mem_of_getElem? (i := 31) rfl))) (mvT hZ (hw _ (List.mem_of_getElem? (i := 32) rfl))) (mvT hZ (hw _ (List.mem_of_getElem? (i := 33) rfl))) (by decide) (backOf (W := 1) (rmIV l Z a0 hw [] (p2 + (3 : Int32)) ca cc T148.heap n0 Z148 f149 hS0 hS1 hB1) hZ (hw _ (List.mem_of_getElem? (i := 33) rfl)) (hw _ (List.mem_of_getElem? (i := 32) rfl)) (by decide) (by decide)) (g := (mkF m 73 #[.val (.int p1), .val (.int p2), .val (.int p3), .val (.int (5 : Int32)), .val (.ref b1), .unset, .unset] [(.int (p2 + (3 : Int32))), (.ref b1)])) rfl (by rw [hml]; rfl) (argsL := [(.int (p2 + (3 : Int32)))]) (rest := [(.ref b1)]) (lenOf pd_4 rfl) rfl (by show 2 * 0 + _ ≤ _; exact Nat.le_of_eq rfl) (hb hby at_73) (fun _ _ => ⟨rfl, rfl, (by decide : 6 + 1 ≤ _), (by decide : 11 + 1 ≤ _)⟩)
    dsimp only [Pt.U, Pt.locs, Pt.cells, Pt.slots] at X150 l150 y150 z150 st150 hQ150
    subst l150 y150 z150
    obtain ⟨bx150, hv150, N150q, kp150, EB150, FB150⟩ := hQ150
    subst hv150
    have N150 := Fr.app N148 N150q
    have Z150 : n0 ≤ T150.heap.size := Nat.le_trans Z148 kp150.1
    have f151 := (CLs.keep hC148' kp150)
    have f152 := ((f143.keep kp148).keep kp150)
    have f154 := ((f145.keep kp148).keep kp150)
    have f156 := ((EB141.keep kp148).keep kp150)
    have nq158_bx150_b1 : bx150 ≠ b1 := ne_exa EB150 f151.1 (by decide)
    have nq158_bx150_ch2 : bx150 ≠ ch2 := own_ne_arv EB150 (hw _ (List.mem_of_getElem? (i := 70) rfl)) f151.2.2.2.2.1
    have nq158_bx150_ea2 : bx150 ≠ ea2 := own_ne_arv EB150 (hw _ (List.mem_of_getElem? (i := 70) rfl)) f151.2.2.2.2.2.1
    obtain ⟨cq159, kq159, q159a, q159b, q159c⟩ := isOf hZ rfl f151.1
    obtain ⟨_, _, ⟨T159, L159, k159, n159⟩, -, X159, ⟨Lc159, hQ159, l159, y159, z159⟩, st159⟩ := X150.virtualBack hx (y := (⟨"com/example/anchored_threads/anchoredthreads/internal/ChunkedList", "add", "(Ljava/lang/Object;)Z"⟩ : MethodName)) (z := (⟨"com/example/anchored_threads/anchoredthreads/internal/ChunkedList", "add", "(Ljava/lang/Object;)Z"⟩ : MethodName)) hown (mvT hZ (hw _ (List.mem_of_getElem? (i := 37) rfl))) (mvT hZ (hw _ (List.mem_of_getElem? (i := 38) rfl))) (notFace_of_selects (args := #[]) (mvT hZ (hw _ (List.mem_of_getElem? (i := 40) rfl)))) (mvT hZ (hw _ (List.mem_of_getElem? (i := 40) rfl))) (mvT hZ (hw _ (List.mem_of_getElem? (i := 39) rfl))) (by decide) (backOf (W := 0) (rmAd l Z a0 hw [] b1 bx150 ch2 ea2 kc2 ke2 (3 : Int32) mc148 (4 : Int32) [(.ref bx4), (.ref bx134), (.ref bx141), .null] 3 T150.heap n0 Z150 f151 EB150 (by decide) (by decide) (by decide) ⟨by decide, by decide⟩ rfl (Nat.le_of_ble_eq_true rfl)) hZ (hw _ (List.mem_of_getElem? (i := 41) rfl)) (hw _ (List.mem_of_getElem? (i := 3) rfl)) (by decide) (by decide)) q159a q159c (g := (mkF m 76 #[.val (.int p1), .val (.int p2), .val (.int p3), .val (.int (5 : Int32)), .val (.ref b1), .unset, .unset] [(.ref bx150), (.ref b1)])) rfl (by rw [hml]; rfl) (Steps.refl _) (argsL := [(.ref bx150)]) (rest := []) (lenOf pd_5 rfl) rfl (by show 2 * 0 + _ ≤ _; exact Nat.le_of_eq rfl) (hb hby at_76) (fun _ _ => ⟨rfl, rfl, (by decide : 7 + 0 ≤ _), (by decide : 12 + 0 ≤ _)⟩)
    dsimp only [Pt.U, Pt.locs, Pt.cells, Pt.slots] at X159 l159 y159 z159 st159 hQ159
    subst l159 y159 z159
    obtain ⟨hv159, N159q, kp159, mc159, hC159⟩ := hQ159
    subst hv159
    have N159 := Fr.app N150 N159q
    have Z159 : n0 ≤ T159.heap.size := Nat.le_trans Z150 kp159.1
    have hC159' : CLs Z n0 T159.heap b1 ch2 ea2 kc2 ke2 (4 : Int32) mc159 (4 : Int32) [(.ref bx4), (.ref bx134), (.ref bx141), (.ref bx150)] := by
      have q := hC159
      rw [show ((3 : Int32) + 1) = (4 : Int32) from by decide] at q
      exact q
    have f160 := ((f149.keep kp150 all0).keep kp159 (allS (f151.2.2.2.2.2.2.2.2.2.1) (allS (f151.2.2.2.2.2.2.2.2.2.2.1) (allS (f151.2.2.2.2.2.2.2.2.2.2.2.1) all0))))
    obtain ⟨_, _, ⟨T161, L161, k161, n161⟩, -, X161, ⟨Lc161, hQ161, l161, y161, z161⟩, st161⟩ := Jvm.LawKit.callS X159 hx (y := (⟨"java/lang/Integer", "valueOf", "(I)Ljava/lang/Integer;"⟩ : MethodName)) hown (mvT hZ (hw _ (List.mem_of_getElem? (i := 30) rfl))) (mvT hZ (hw _ (List.mem_of_getElem? (i := 31) rfl))) (mvT hZ (hw _ (List.mem_of_getElem? (i := 32) rfl))) (mvT hZ (hw _ (List.mem_of_getElem? (i := 33) rfl))) (by decide) (backOf (W := 1) (rmIV l Z a0 hw [] (p2 + (4 : Int32)) ca cc T159.heap n0 Z159 f160 hS0 hS1 hB1) hZ (hw _ (List.mem_of_getElem? (i := 33) rfl)) (hw _ (List.mem_of_getElem? (i := 32) rfl)) (by decide) (by decide)) (g := (mkF m 90 #[.val (.int p1), .val (.int p2), .val (.int p3), .val (.int (5 : Int32)), .val (.ref b1), .unset, .unset] [(.int (p2 + (4 : Int32))), (.ref b1)])) rfl (by rw [hml]; rfl) (argsL := [(.int (p2 + (4 : Int32)))]) (rest := [(.ref b1)]) (lenOf pd_4 rfl) rfl (by show 2 * 0 + _ ≤ _; exact Nat.le_of_eq rfl) (hb hby at_90) (fun _ _ => ⟨rfl, rfl, (by decide : 7 + 1 ≤ _), (by decide : 12 + 1 ≤ _)⟩)
    dsimp only [Pt.U, Pt.locs, Pt.cells, Pt.slots] at X161 l161 y161 z161 st161 hQ161
    subst l161 y161 z161
    obtain ⟨bx161, hv161, N161q, kp161, EB161, FB161⟩ := hQ161
    subst hv161
    have N161 := Fr.app N159 N161q
    have Z161 : n0 ≤ T161.heap.size := Nat.le_trans Z159 kp161.1
    have f162 := (CLs.keep hC159' kp161)
    have f163 := ((f152.keep kp159).keep kp161)
    have f165 := ((f154.keep kp159).keep kp161)
    have f167 := ((f156.keep kp159).keep kp161)
    have f169 := ((EB150.keep kp159).keep kp161)
    have nq171_bx161_b1 : bx161 ≠ b1 := ne_exa EB161 f162.1 (by decide)
    have nq171_bx161_ch2 : bx161 ≠ ch2 := own_ne_arv EB161 (hw _ (List.mem_of_getElem? (i := 70) rfl)) f162.2.2.2.2.1
    have nq171_bx161_ea2 : bx161 ≠ ea2 := own_ne_arv EB161 (hw _ (List.mem_of_getElem? (i := 70) rfl)) f162.2.2.2.2.2.1
    obtain ⟨cq172, kq172, q172a, q172b, q172c⟩ := isOf hZ rfl f162.1
    obtain ⟨_, _, ⟨T172, L172, k172, n172⟩, -, X172, ⟨Lc172, hQ172, l172, y172, z172⟩, st172⟩ := X161.virtualBack hx (y := (⟨"com/example/anchored_threads/anchoredthreads/internal/ChunkedList", "add", "(Ljava/lang/Object;)Z"⟩ : MethodName)) (z := (⟨"com/example/anchored_threads/anchoredthreads/internal/ChunkedList", "add", "(Ljava/lang/Object;)Z"⟩ : MethodName)) hown (mvT hZ (hw _ (List.mem_of_getElem? (i := 37) rfl))) (mvT hZ (hw _ (List.mem_of_getElem? (i := 38) rfl))) (notFace_of_selects (args := #[]) (mvT hZ (hw _ (List.mem_of_getElem? (i := 40) rfl)))) (mvT hZ (hw _ (List.mem_of_getElem? (i := 40) rfl))) (mvT hZ (hw _ (List.mem_of_getElem? (i := 39) rfl))) (by decide) (backOf (W := 0) (rmGr l Z a0 hw [] b1 bx161 ch2 ea2 bx4 bx134 bx141 bx150 kc2 ke2 mc159 T161.heap n0 Z161 f162 EB161 f163 f165 f167 f169 hM) hZ (hw _ (List.mem_of_getElem? (i := 41) rfl)) (hw _ (List.mem_of_getElem? (i := 3) rfl)) (by decide) (by decide)) q172a q172c (g := (mkF m 93 #[.val (.int p1), .val (.int p2), .val (.int p3), .val (.int (5 : Int32)), .val (.ref b1), .unset, .unset] [(.ref bx161), (.ref b1)])) rfl (by rw [hml]; rfl) (Steps.refl _) (argsL := [(.ref bx161)]) (rest := []) (lenOf pd_5 rfl) rfl (by show 2 * 0 + _ ≤ _; exact Nat.le_of_eq rfl) (hb hby at_93) (fun _ _ => ⟨rfl, rfl, (by decide : 8 + 1 ≤ _), (by decide : 13 + 8 ≤ _)⟩)
    dsimp only [Pt.U, Pt.locs, Pt.cells, Pt.slots] at X172 l172 y172 z172 st172 hQ172
    subst l172 y172 z172
    obtain ⟨hv172, N172q, kp172, ea172, ke172, mc172, hC172⟩ := hQ172
    subst hv172
    have N172 := Fr.app N161 N172q
    have Z172 : n0 ≤ T172.heap.size := Nat.le_trans Z161 kp172.1
    have R173 : ∀ tg, Steps p.tables e below (T172.setTop (mkF m 122 #[.val (.int p1), .val (.int p2), .val (.int p3), .val (.int (5 : Int32)), .val (.ref b1), .val (.int ((p3 &&& (2147483647 : Int32)) % (5 : Int32))), .unset] [])) tg → Steps p.tables e below (T7.setTop (mkF m 29 #[.val (.int p1), .val (.int p2), .val (.int p3), .val (.int (5 : Int32)), .val (.ref b1), .unset, .unset] [])) tg := by
      intro tg kt
      refine XS.iloadN X7.here hx rfl (hb hby at_29) rfl ?_
      show Steps p.tables e below (T7.setTop (mkF m 30 #[.val (.int p1), .val (.int p2), .val (.int p3), .val (.int (5 : Int32)), .val (.ref b1), .unset, .unset] [(.int (5 : Int32))])) _
      refine XS.iconst X7.here hx rfl (hb hby at_30) ?_
      show Steps p.tables e below (T7.setTop (mkF m 31 #[.val (.int p1), .val (.int p2), .val (.int p3), .val (.int (5 : Int32)), .val (.ref b1), .unset, .unset] [(.int (1 : Int32)), (.int (5 : Int32))])) _
      refine XS.icmpNo X7.here hx rfl (hb hby at_31) rfl (tlt (by decide : (1 : Int32) < (5 : Int32))).2.2.2 ?_
      show Steps p.tables e below (T7.setTop (mkF m 34 #[.val (.int p1), .val (.int p2), .val (.int p3), .val (.int (5 : Int32)), .val (.ref b1), .unset, .unset] [])) _
      refine XS.aload X7.here hx rfl (hb hby at_34) rfl rfl ?_
      show Steps p.tables e below (T7.setTop (mkF m 36 #[.val (.int p1), .val (.int p2), .val (.int p3), .val (.int (5 : Int32)), .val (.ref b1), .unset, .unset] [(.ref b1)])) _
      refine XS.iloadN X7.here hx rfl (hb hby at_36) rfl ?_
      show Steps p.tables e below (T7.setTop (mkF m 37 #[.val (.int p1), .val (.int p2), .val (.int p3), .val (.int (5 : Int32)), .val (.ref b1), .unset, .unset] [(.int p2), (.ref b1)])) _
      refine XS.iconst X7.here hx rfl (hb hby at_37) ?_
      show Steps p.tables e below (T7.setTop (mkF m 38 #[.val (.int p1), .val (.int p2), .val (.int p3), .val (.int (5 : Int32)), .val (.ref b1), .unset, .unset] [(.int (1 : Int32)), (.int p2), (.ref b1)])) _
      refine XS.iadd X7.here hx rfl (hb hby at_38) rfl ?_
      show Steps p.tables e below (T7.setTop (mkF m 39 #[.val (.int p1), .val (.int p2), .val (.int p3), .val (.int (5 : Int32)), .val (.ref b1), .unset, .unset] [(.int (p2 + (1 : Int32))), (.ref b1)])) _
      refine st134 _ ?_
      show Steps p.tables e below (T134.setTop (mkF m 42 #[.val (.int p1), .val (.int p2), .val (.int p3), .val (.int (5 : Int32)), .val (.ref b1), .unset, .unset] [(.ref bx134), (.ref b1)])) _
      refine st139.trans ?_
      show Steps p.tables e below (T139.setTop (mkF m 45 #[.val (.int p1), .val (.int p2), .val (.int p3), .val (.int (5 : Int32)), .val (.ref b1), .unset, .unset] [(.int (1 : Int32))])) _
      refine XS.pop X139.here hx rfl (hb hby at_45) rfl rfl ?_
      show Steps p.tables e below (T139.setTop (mkF m 46 #[.val (.int p1), .val (.int p2), .val (.int p3), .val (.int (5 : Int32)), .val (.ref b1), .unset, .unset] [])) _
      refine XS.iloadN X139.here hx rfl (hb hby at_46) rfl ?_
      show Steps p.tables e below (T139.setTop (mkF m 47 #[.val (.int p1), .val (.int p2), .val (.int p3), .val (.int (5 : Int32)), .val (.ref b1), .unset, .unset] [(.int (5 : Int32))])) _
      refine XS.iconst X139.here hx rfl (hb hby at_47) ?_
      show Steps p.tables e below (T139.setTop (mkF m 48 #[.val (.int p1), .val (.int p2), .val (.int p3), .val (.int (5 : Int32)), .val (.ref b1), .unset, .unset] [(.int (2 : Int32)), (.int (5 : Int32))])) _
      refine XS.icmpNo X139.here hx rfl (hb hby at_48) rfl (tlt (by decide : (2 : Int32) < (5 : Int32))).2.2.2 ?_
      show Steps p.tables e below (T139.setTop (mkF m 51 #[.val (.int p1), .val (.int p2), .val (.int p3), .val (.int (5 : Int32)), .val (.ref b1), .unset, .unset] [])) _
      refine XS.aload X139.here hx rfl (hb hby at_51) rfl rfl ?_
      show Steps p.tables e below (T139.setTop (mkF m 53 #[.val (.int p1), .val (.int p2), .val (.int p3), .val (.int (5 : Int32)), .val (.ref b1), .unset, .unset] [(.ref b1)])) _
      refine XS.iloadN X139.here hx rfl (hb hby at_53) rfl ?_
      show Steps p.tables e below (T139.setTop (mkF m 54 #[.val (.int p1), .val (.int p2), .val (.int p3), .val (.int (5 : Int32)), .val (.ref b1), .unset, .unset] [(.int p2), (.ref b1)])) _
      refine XS.iconst X139.here hx rfl (hb hby at_54) ?_
      show Steps p.tables e below (T139.setTop (mkF m 55 #[.val (.int p1), .val (.int p2), .val (.int p3), .val (.int (5 : Int32)), .val (.ref b1), .unset, .unset] [(.int (2 : Int32)), (.int p2), (.ref b1)])) _
      refine XS.iadd X139.here hx rfl (hb hby at_55) rfl ?_
      show Steps p.tables e below (T139.setTop (mkF m 56 #[.val (.int p1), .val (.int p2), .val (.int p3), .val (.int (5 : Int32)), .val (.ref b1), .unset, .unset] [(.int (p2 + (2 : Int32))), (.ref b1)])) _
      refine st141 _ ?_
      show Steps p.tables e below (T141.setTop (mkF m 59 #[.val (.int p1), .val (.int p2), .val (.int p3), .val (.int (5 : Int32)), .val (.ref b1), .unset, .unset] [(.ref bx141), (.ref b1)])) _
      refine st148.trans ?_
      show Steps p.tables e below (T148.setTop (mkF m 62 #[.val (.int p1), .val (.int p2), .val (.int p3), .val (.int (5 : Int32)), .val (.ref b1), .unset, .unset] [(.int (1 : Int32))])) _
      refine XS.pop X148.here hx rfl (hb hby at_62) rfl rfl ?_
      show Steps p.tables e below (T148.setTop (mkF m 63 #[.val (.int p1), .val (.int p2), .val (.int p3), .val (.int (5 : Int32)), .val (.ref b1), .unset, .unset] [])) _
      refine XS.iloadN X148.here hx rfl (hb hby at_63) rfl ?_
      show Steps p.tables e below (T148.setTop (mkF m 64 #[.val (.int p1), .val (.int p2), .val (.int p3), .val (.int (5 : Int32)), .val (.ref b1), .unset, .unset] [(.int (5 : Int32))])) _
      refine XS.iconst X148.here hx rfl (hb hby at_64) ?_
      show Steps p.tables e below (T148.setTop (mkF m 65 #[.val (.int p1), .val (.int p2), .val (.int p3), .val (.int (5 : Int32)), .val (.ref b1), .unset, .unset] [(.int (3 : Int32)), (.int (5 : Int32))])) _
      refine XS.icmpNo X148.here hx rfl (hb hby at_65) rfl (tlt (by decide : (3 : Int32) < (5 : Int32))).2.2.2 ?_
      show Steps p.tables e below (T148.setTop (mkF m 68 #[.val (.int p1), .val (.int p2), .val (.int p3), .val (.int (5 : Int32)), .val (.ref b1), .unset, .unset] [])) _
      refine XS.aload X148.here hx rfl (hb hby at_68) rfl rfl ?_
      show Steps p.tables e below (T148.setTop (mkF m 70 #[.val (.int p1), .val (.int p2), .val (.int p3), .val (.int (5 : Int32)), .val (.ref b1), .unset, .unset] [(.ref b1)])) _
      refine XS.iloadN X148.here hx rfl (hb hby at_70) rfl ?_
      show Steps p.tables e below (T148.setTop (mkF m 71 #[.val (.int p1), .val (.int p2), .val (.int p3), .val (.int (5 : Int32)), .val (.ref b1), .unset, .unset] [(.int p2), (.ref b1)])) _
      refine XS.iconst X148.here hx rfl (hb hby at_71) ?_
      show Steps p.tables e below (T148.setTop (mkF m 72 #[.val (.int p1), .val (.int p2), .val (.int p3), .val (.int (5 : Int32)), .val (.ref b1), .unset, .unset] [(.int (3 : Int32)), (.int p2), (.ref b1)])) _
      refine XS.iadd X148.here hx rfl (hb hby at_72) rfl ?_
      show Steps p.tables e below (T148.setTop (mkF m 73 #[.val (.int p1), .val (.int p2), .val (.int p3), .val (.int (5 : Int32)), .val (.ref b1), .unset, .unset] [(.int (p2 + (3 : Int32))), (.ref b1)])) _
      refine st150 _ ?_
      show Steps p.tables e below (T150.setTop (mkF m 76 #[.val (.int p1), .val (.int p2), .val (.int p3), .val (.int (5 : Int32)), .val (.ref b1), .unset, .unset] [(.ref bx150), (.ref b1)])) _
      refine st159.trans ?_
      show Steps p.tables e below (T159.setTop (mkF m 79 #[.val (.int p1), .val (.int p2), .val (.int p3), .val (.int (5 : Int32)), .val (.ref b1), .unset, .unset] [(.int (1 : Int32))])) _
      refine XS.pop X159.here hx rfl (hb hby at_79) rfl rfl ?_
      show Steps p.tables e below (T159.setTop (mkF m 80 #[.val (.int p1), .val (.int p2), .val (.int p3), .val (.int (5 : Int32)), .val (.ref b1), .unset, .unset] [])) _
      refine XS.iloadN X159.here hx rfl (hb hby at_80) rfl ?_
      show Steps p.tables e below (T159.setTop (mkF m 81 #[.val (.int p1), .val (.int p2), .val (.int p3), .val (.int (5 : Int32)), .val (.ref b1), .unset, .unset] [(.int (5 : Int32))])) _
      refine XS.iconst X159.here hx rfl (hb hby at_81) ?_
      show Steps p.tables e below (T159.setTop (mkF m 82 #[.val (.int p1), .val (.int p2), .val (.int p3), .val (.int (5 : Int32)), .val (.ref b1), .unset, .unset] [(.int (4 : Int32)), (.int (5 : Int32))])) _
      refine XS.icmpNo X159.here hx rfl (hb hby at_82) rfl (tlt (by decide : (4 : Int32) < (5 : Int32))).2.2.2 ?_
      show Steps p.tables e below (T159.setTop (mkF m 85 #[.val (.int p1), .val (.int p2), .val (.int p3), .val (.int (5 : Int32)), .val (.ref b1), .unset, .unset] [])) _
      refine XS.aload X159.here hx rfl (hb hby at_85) rfl rfl ?_
      show Steps p.tables e below (T159.setTop (mkF m 87 #[.val (.int p1), .val (.int p2), .val (.int p3), .val (.int (5 : Int32)), .val (.ref b1), .unset, .unset] [(.ref b1)])) _
      refine XS.iloadN X159.here hx rfl (hb hby at_87) rfl ?_
      show Steps p.tables e below (T159.setTop (mkF m 88 #[.val (.int p1), .val (.int p2), .val (.int p3), .val (.int (5 : Int32)), .val (.ref b1), .unset, .unset] [(.int p2), (.ref b1)])) _
      refine XS.iconst X159.here hx rfl (hb hby at_88) ?_
      show Steps p.tables e below (T159.setTop (mkF m 89 #[.val (.int p1), .val (.int p2), .val (.int p3), .val (.int (5 : Int32)), .val (.ref b1), .unset, .unset] [(.int (4 : Int32)), (.int p2), (.ref b1)])) _
      refine XS.iadd X159.here hx rfl (hb hby at_89) rfl ?_
      show Steps p.tables e below (T159.setTop (mkF m 90 #[.val (.int p1), .val (.int p2), .val (.int p3), .val (.int (5 : Int32)), .val (.ref b1), .unset, .unset] [(.int (p2 + (4 : Int32))), (.ref b1)])) _
      refine st161 _ ?_
      show Steps p.tables e below (T161.setTop (mkF m 93 #[.val (.int p1), .val (.int p2), .val (.int p3), .val (.int (5 : Int32)), .val (.ref b1), .unset, .unset] [(.ref bx161), (.ref b1)])) _
      refine st172.trans ?_
      show Steps p.tables e below (T172.setTop (mkF m 96 #[.val (.int p1), .val (.int p2), .val (.int p3), .val (.int (5 : Int32)), .val (.ref b1), .unset, .unset] [(.int (1 : Int32))])) _
      refine XS.pop X172.here hx rfl (hb hby at_96) rfl rfl ?_
      show Steps p.tables e below (T172.setTop (mkF m 97 #[.val (.int p1), .val (.int p2), .val (.int p3), .val (.int (5 : Int32)), .val (.ref b1), .unset, .unset] [])) _
      refine XS.iloadN X172.here hx rfl (hb hby at_97) rfl ?_
      show Steps p.tables e below (T172.setTop (mkF m 98 #[.val (.int p1), .val (.int p2), .val (.int p3), .val (.int (5 : Int32)), .val (.ref b1), .unset, .unset] [(.int (5 : Int32))])) _
      refine XS.iconst X172.here hx rfl (hb hby at_98) ?_
      show Steps p.tables e below (T172.setTop (mkF m 99 #[.val (.int p1), .val (.int p2), .val (.int p3), .val (.int (5 : Int32)), .val (.ref b1), .unset, .unset] [(.int (5 : Int32)), (.int (5 : Int32))])) _
      refine XS.icmpYes X172.here hx rfl (pc0 := 99) (pc' := 114) rfl (hb hby at_99) rfl (flt (by decide : ¬ ((5 : Int32) < (5 : Int32)))).2.2.2 (by decide) (by decide) ?_
      show Steps p.tables e below (T172.setTop (mkF m 114 #[.val (.int p1), .val (.int p2), .val (.int p3), .val (.int (5 : Int32)), .val (.ref b1), .unset, .unset] [])) _
      refine XS.iloadN X172.here hx rfl (hb hby at_114) rfl ?_
      show Steps p.tables e below (T172.setTop (mkF m 115 #[.val (.int p1), .val (.int p2), .val (.int p3), .val (.int (5 : Int32)), .val (.ref b1), .unset, .unset] [(.int p3)])) _
      refine X172.ldcInt hx hown (mvT hZ (hw _ (List.mem_of_getElem? (i := 0) rfl))) (g := (mkF m 115 #[.val (.int p1), .val (.int p2), .val (.int p3), .val (.int (5 : Int32)), .val (.ref b1), .unset, .unset] [(.int p3)])) rfl (hb hby at_115) _ ?_
      show Steps p.tables e below (T172.setTop (mkF m 117 #[.val (.int p1), .val (.int p2), .val (.int p3), .val (.int (5 : Int32)), .val (.ref b1), .unset, .unset] [(.int (2147483647 : Int32)), (.int p3)])) _
      refine XS.iand X172.here hx rfl (hb hby at_117) rfl ?_
      show Steps p.tables e below (T172.setTop (mkF m 118 #[.val (.int p1), .val (.int p2), .val (.int p3), .val (.int (5 : Int32)), .val (.ref b1), .unset, .unset] [(.int (p3 &&& (2147483647 : Int32)))])) _
      refine XS.iloadN X172.here hx rfl (hb hby at_118) rfl ?_
      show Steps p.tables e below (T172.setTop (mkF m 119 #[.val (.int p1), .val (.int p2), .val (.int p3), .val (.int (5 : Int32)), .val (.ref b1), .unset, .unset] [(.int (5 : Int32)), (.int (p3 &&& (2147483647 : Int32)))])) _
      refine iremM (g := (mkF m 119 #[.val (.int p1), .val (.int p2), .val (.int p3), .val (.int (5 : Int32)), .val (.ref b1), .unset, .unset] [(.int (5 : Int32)), (.int (p3 &&& (2147483647 : Int32)))])) X172 hx rfl (hb hby at_119) rfl (by decide) ?_
      show Steps p.tables e below (T172.setTop (mkF m 120 #[.val (.int p1), .val (.int p2), .val (.int p3), .val (.int (5 : Int32)), .val (.ref b1), .unset, .unset] [(.int ((p3 &&& (2147483647 : Int32)) % (5 : Int32)))])) _
      refine XS.istore X172.here hx rfl (hb hby at_120) rfl (l' := #[.val (.int p1), .val (.int p2), .val (.int p3), .val (.int (5 : Int32)), .val (.ref b1), .val (.int ((p3 &&& (2147483647 : Int32)) % (5 : Int32))), .unset]) rfl ?_
      show Steps p.tables e below (T172.setTop (mkF m 122 #[.val (.int p1), .val (.int p2), .val (.int p3), .val (.int (5 : Int32)), .val (.ref b1), .val (.int ((p3 &&& (2147483647 : Int32)) % (5 : Int32))), .unset] [])) _
      exact kt
    rcases own_m5 p3 with hk174 | hk174 | hk174 | hk174 | hk174
    · have R175 : ∀ tg, Steps p.tables e below (T172.setTop (mkF m 122 #[.val (.int p1), .val (.int p2), .val (.int p3), .val (.int (5 : Int32)), .val (.ref b1), .val (.int (0 : Int32)), .unset] [])) tg → Steps p.tables e below (T172.setTop (mkF m 122 #[.val (.int p1), .val (.int p2), .val (.int p3), .val (.int (5 : Int32)), .val (.ref b1), .val (.int ((p3 &&& (2147483647 : Int32)) % (5 : Int32))), .unset] [])) tg := fun tg kt => by rw [hk174]; exact kt
      obtain ⟨cq176, kq176, q176a, q176b, q176c⟩ := isOf hZ rfl hC172.1
      obtain ⟨_, _, ⟨T176, L176, k176, n176⟩, -, X176, ⟨Lc176, hQ176, l176, y176, z176⟩, st176⟩ := X172.virtualBack hx (y := (⟨"com/example/anchored_threads/anchoredthreads/internal/ChunkedList", "get", "(I)Ljava/lang/Object;"⟩ : MethodName)) (z := (⟨"com/example/anchored_threads/anchoredthreads/internal/ChunkedList", "get", "(I)Ljava/lang/Object;"⟩ : MethodName)) hown (mvT hZ (hw _ (List.mem_of_getElem? (i := 47) rfl))) (mvT hZ (hw _ (List.mem_of_getElem? (i := 48) rfl))) (notFace_of_selects (args := #[]) (mvT hZ (hw _ (List.mem_of_getElem? (i := 50) rfl)))) (mvT hZ (hw _ (List.mem_of_getElem? (i := 50) rfl))) (mvT hZ (hw _ (List.mem_of_getElem? (i := 49) rfl))) (by decide) (backOf (W := 0) (rmGt l Z a0 hw [] b1 ch2 ea172 kc2 ke172 (5 : Int32) mc172 (8 : Int32) [(.ref bx4), (.ref bx134), (.ref bx141), (.ref bx150), (.ref bx161), .null, .null, .null] (0 : Int32) bx4 T172.heap n0 Z172 hC172 (by decide) (by decide) (by decide) (by decide) ⟨by decide, by decide⟩ rfl) hZ (hw _ (List.mem_of_getElem? (i := 51) rfl)) (hw _ (List.mem_of_getElem? (i := 3) rfl)) (by decide) (by decide)) q176a q176c (g := (mkF m 126 #[.val (.int p1), .val (.int p2), .val (.int p3), .val (.int (5 : Int32)), .val (.ref b1), .val (.int (0 : Int32)), .unset] [(.int (0 : Int32)), (.ref b1)])) rfl (by rw [hml]; rfl) (Steps.refl _) (argsL := [(.int (0 : Int32))]) (rest := []) (lenOf pd_6 rfl) rfl (by show 2 * 0 + _ ≤ _; exact Nat.le_of_eq rfl) (hb hby at_126) (fun _ _ => ⟨rfl, rfl, (by decide : 9 + 0 ≤ _), (by decide : 21 + 0 ≤ _)⟩)
      dsimp only [Pt.U, Pt.locs, Pt.cells, Pt.slots] at X176 l176 y176 z176 st176 hQ176
      subst l176 y176 z176
      obtain ⟨hv176, N176q, r176⟩ := hQ176
      subst hv176
      have N176 := Fr.app N172 N176q
      have f177 := (f163.keep kp172)
      obtain ⟨T178, X178, e178, st178⟩ := castY X176 hx hZ hown (hw _ (List.mem_of_getElem? (i := 60) rfl)) r176 (Ins.self f177) (g := (mkF m 129 #[.val (.int p1), .val (.int p2), .val (.int p3), .val (.int (5 : Int32)), .val (.ref b1), .val (.int (0 : Int32)), .unset] [(.ref bx4)])) rfl rfl (hb hby at_129)
      have f179 := (((((((((FB4.keep kp7 (ninS nq6_bx4_b1 (ninS nq6_bx4_ch2 (ninS nq6_bx4_ea2 nin0)))).keep kp134 nin0).keep kp139 (ninS nq6_bx4_b1 (ninS nq6_bx4_ch2 (ninS nq6_bx4_ea2 nin0)))).keep kp141 nin0).keep kp148 (ninS nq6_bx4_b1 (ninS nq6_bx4_ch2 (ninS nq6_bx4_ea2 nin0)))).keep kp150 nin0).keep kp159 (ninS nq6_bx4_b1 (ninS nq6_bx4_ch2 (ninS nq6_bx4_ea2 nin0)))).keep kp161 nin0).keep kp172 (ninS nq6_bx4_b1 (ninS nq6_bx4_ch2 (ninS nq6_bx4_ea2 nin0))))
      obtain ⟨cq180, kq180, q180a, q180b, q180c⟩ := isOf hZ e178 f177
      obtain ⟨_, _, ⟨T180, L180, k180, n180⟩, -, X180, ⟨Lc180, hQ180, l180, y180, z180⟩, st180⟩ := X178.virtualBack hx (y := (⟨"java/lang/Integer", "intValue", "()I"⟩ : MethodName)) (z := (⟨"java/lang/Integer", "intValue", "()I"⟩ : MethodName)) hown (mvT hZ (hw _ (List.mem_of_getElem? (i := 62) rfl))) (mvT hZ (hw _ (List.mem_of_getElem? (i := 63) rfl))) (notFace_of_selects (args := #[]) (mvT hZ (hw _ (List.mem_of_getElem? (i := 65) rfl)))) (mvT hZ (hw _ (List.mem_of_getElem? (i := 65) rfl))) (mvT hZ (hw _ (List.mem_of_getElem? (i := 64) rfl))) (by decide) (backOf (W := 0) (rmIn l Z a0 hw [] bx4 p2 T172.heap n0 Z172 f179) hZ (hw _ (List.mem_of_getElem? (i := 66) rfl)) (hw _ (List.mem_of_getElem? (i := 32) rfl)) (by decide) (by decide)) q180a q180c (g := (mkF m 141 #[.val (.int p1), .val (.int p2), .val (.int p3), .val (.int (5 : Int32)), .val (.ref b1), .val (.int (0 : Int32)), .val (.ref bx4)] [(.ref bx4)])) rfl (by rw [hml]; rfl) (Steps.refl _) (argsL := []) (rest := []) (lenOf pd_7 rfl) rfl (by show 2 * 0 + _ ≤ _; exact Nat.le_of_eq rfl) (hb hby at_141) (fun _ _ => ⟨rfl, e178, (by decide : 9 + 0 ≤ _), (by decide : 21 + 0 ≤ _)⟩)
      dsimp only [Pt.U, Pt.locs, Pt.cells, Pt.slots] at X180 l180 y180 z180 st180 hQ180
      subst l180 y180 z180
      obtain ⟨hv180, N180q, r180⟩ := hQ180
      subst hv180
      have N180 := Fr.app N176 N180q
      obtain ⟨fs, hr, hrun, hended, hW, hsame⟩ := X180.leave (v := some (.int (1 : Int32))) (fun h => by rw [Bd.returns] at h; cases h)
      refine ⟨_, _, pre0 _ (R8 _ (R132 _ (R173 _ (R175 _ ?_)))), hrun, hended, _, _, rfl, ?_, ⟨_, rfl⟩, hW, hsame.mono (by decide) (by decide)⟩
      · show Steps p.tables e below (T172.setTop (mkF m 122 #[.val (.int p1), .val (.int p2), .val (.int p3), .val (.int (5 : Int32)), .val (.ref b1), .val (.int (0 : Int32)), .unset] [])) _
        refine XS.aload X172.here hx rfl (hb hby at_122) rfl rfl ?_
        show Steps p.tables e below (T172.setTop (mkF m 124 #[.val (.int p1), .val (.int p2), .val (.int p3), .val (.int (5 : Int32)), .val (.ref b1), .val (.int (0 : Int32)), .unset] [(.ref b1)])) _
        refine XS.iload X172.here hx rfl (hb hby at_124) rfl ?_
        show Steps p.tables e below (T172.setTop (mkF m 126 #[.val (.int p1), .val (.int p2), .val (.int p3), .val (.int (5 : Int32)), .val (.ref b1), .val (.int (0 : Int32)), .unset] [(.int (0 : Int32)), (.ref b1)])) _
        refine st176.trans ?_
        show Steps p.tables e below (T176.setTop (mkF m 129 #[.val (.int p1), .val (.int p2), .val (.int p3), .val (.int (5 : Int32)), .val (.ref b1), .val (.int (0 : Int32)), .unset] [(.ref bx4)])) _
        refine st178 _ ?_
        show Steps p.tables e below (T178.setTop (mkF m 132 #[.val (.int p1), .val (.int p2), .val (.int p3), .val (.int (5 : Int32)), .val (.ref b1), .val (.int (0 : Int32)), .unset] [(.ref bx4)])) _
        refine XS.astore X178.here hx rfl (hb hby at_132) rfl rfl (l' := #[.val (.int p1), .val (.int p2), .val (.int p3), .val (.int (5 : Int32)), .val (.ref b1), .val (.int (0 : Int32)), .val (.ref bx4)]) rfl ?_
        show Steps p.tables e below (T178.setTop (mkF m 134 #[.val (.int p1), .val (.int p2), .val (.int p3), .val (.int (5 : Int32)), .val (.ref b1), .val (.int (0 : Int32)), .val (.ref bx4)] [])) _
        refine XS.aload X178.here hx rfl (hb hby at_134) rfl rfl ?_
        show Steps p.tables e below (T178.setTop (mkF m 136 #[.val (.int p1), .val (.int p2), .val (.int p3), .val (.int (5 : Int32)), .val (.ref b1), .val (.int (0 : Int32)), .val (.ref bx4)] [(.ref bx4)])) _
        refine XS.ifnullNo X178.here hx rfl (hb hby at_136) rfl ?_
        show Steps p.tables e below (T178.setTop (mkF m 139 #[.val (.int p1), .val (.int p2), .val (.int p3), .val (.int (5 : Int32)), .val (.ref b1), .val (.int (0 : Int32)), .val (.ref bx4)] [])) _
        refine XS.aload X178.here hx rfl (hb hby at_139) rfl rfl ?_
        show Steps p.tables e below (T178.setTop (mkF m 141 #[.val (.int p1), .val (.int p2), .val (.int p3), .val (.int (5 : Int32)), .val (.ref b1), .val (.int (0 : Int32)), .val (.ref bx4)] [(.ref bx4)])) _
        refine st180.trans ?_
        show Steps p.tables e below (T180.setTop (mkF m 144 #[.val (.int p1), .val (.int p2), .val (.int p3), .val (.int (5 : Int32)), .val (.ref b1), .val (.int (0 : Int32)), .val (.ref bx4)] [(.int p2)])) _
        refine XS.iloadN X180.here hx rfl (hb hby at_144) rfl ?_
        show Steps p.tables e below (T180.setTop (mkF m 145 #[.val (.int p1), .val (.int p2), .val (.int p3), .val (.int (5 : Int32)), .val (.ref b1), .val (.int (0 : Int32)), .val (.ref bx4)] [(.int p2), (.int p2)])) _
        refine XS.iload X180.here hx rfl (hb hby at_145) rfl ?_
        show Steps p.tables e below (T180.setTop (mkF m 147 #[.val (.int p1), .val (.int p2), .val (.int p3), .val (.int (5 : Int32)), .val (.ref b1), .val (.int (0 : Int32)), .val (.ref bx4)] [(.int (0 : Int32)), (.int p2), (.int p2)])) _
        refine XS.iadd X180.here hx rfl (hb hby at_147) rfl ?_
        show Steps p.tables e below (T180.setTop (mkF m 148 #[.val (.int p1), .val (.int p2), .val (.int p3), .val (.int (5 : Int32)), .val (.ref b1), .val (.int (0 : Int32)), .val (.ref bx4)] [(.int (p2 + (0 : Int32))), (.int p2)])) _
        refine XS.icmpNo X180.here hx rfl (hb hby at_148) rfl (teq (own_add0 p2)).2 ?_
        show Steps p.tables e below (T180.setTop (mkF m 151 #[.val (.int p1), .val (.int p2), .val (.int p3), .val (.int (5 : Int32)), .val (.ref b1), .val (.int (0 : Int32)), .val (.ref bx4)] [])) _
        refine XS.iconst X180.here hx rfl (hb hby at_151) ?_
        show Steps p.tables e below (T180.setTop (mkF m 152 #[.val (.int p1), .val (.int p2), .val (.int p3), .val (.int (5 : Int32)), .val (.ref b1), .val (.int (0 : Int32)), .val (.ref bx4)] [(.int (1 : Int32))])) _
        refine XS.goto X180.here hx rfl (pc0 := 152) (pc' := 156) rfl (hb hby at_152) (by decide) (by decide) ?_
        show Steps p.tables e below (T180.setTop (mkF m 156 #[.val (.int p1), .val (.int p2), .val (.int p3), .val (.int (5 : Int32)), .val (.ref b1), .val (.int (0 : Int32)), .val (.ref bx4)] [(.int (1 : Int32))])) _
        exact retN X180 hx (t := .boolean) Bd.returns (by simp) (hb hby at_156) hr
      · show Q0 n0 _ T180.heap _
        rw [r180]
        exact ⟨rfl, N180⟩
    · have R181 : ∀ tg, Steps p.tables e below (T172.setTop (mkF m 122 #[.val (.int p1), .val (.int p2), .val (.int p3), .val (.int (5 : Int32)), .val (.ref b1), .val (.int (1 : Int32)), .unset] [])) tg → Steps p.tables e below (T172.setTop (mkF m 122 #[.val (.int p1), .val (.int p2), .val (.int p3), .val (.int (5 : Int32)), .val (.ref b1), .val (.int ((p3 &&& (2147483647 : Int32)) % (5 : Int32))), .unset] [])) tg := fun tg kt => by rw [hk174]; exact kt
      obtain ⟨cq182, kq182, q182a, q182b, q182c⟩ := isOf hZ rfl hC172.1
      obtain ⟨_, _, ⟨T182, L182, k182, n182⟩, -, X182, ⟨Lc182, hQ182, l182, y182, z182⟩, st182⟩ := X172.virtualBack hx (y := (⟨"com/example/anchored_threads/anchoredthreads/internal/ChunkedList", "get", "(I)Ljava/lang/Object;"⟩ : MethodName)) (z := (⟨"com/example/anchored_threads/anchoredthreads/internal/ChunkedList", "get", "(I)Ljava/lang/Object;"⟩ : MethodName)) hown (mvT hZ (hw _ (List.mem_of_getElem? (i := 47) rfl))) (mvT hZ (hw _ (List.mem_of_getElem? (i := 48) rfl))) (notFace_of_selects (args := #[]) (mvT hZ (hw _ (List.mem_of_getElem? (i := 50) rfl)))) (mvT hZ (hw _ (List.mem_of_getElem? (i := 50) rfl))) (mvT hZ (hw _ (List.mem_of_getElem? (i := 49) rfl))) (by decide) (backOf (W := 0) (rmGt l Z a0 hw [] b1 ch2 ea172 kc2 ke172 (5 : Int32) mc172 (8 : Int32) [(.ref bx4), (.ref bx134), (.ref bx141), (.ref bx150), (.ref bx161), .null, .null, .null] (1 : Int32) bx134 T172.heap n0 Z172 hC172 (by decide) (by decide) (by decide) (by decide) ⟨by decide, by decide⟩ rfl) hZ (hw _ (List.mem_of_getElem? (i := 51) rfl)) (hw _ (List.mem_of_getElem? (i := 3) rfl)) (by decide) (by decide)) q182a q182c (g := (mkF m 126 #[.val (.int p1), .val (.int p2), .val (.int p3), .val (.int (5 : Int32)), .val (.ref b1), .val (.int (1 : Int32)), .unset] [(.int (1 : Int32)), (.ref b1)])) rfl (by rw [hml]; rfl) (Steps.refl _) (argsL := [(.int (1 : Int32))]) (rest := []) (lenOf pd_6 rfl) rfl (by show 2 * 0 + _ ≤ _; exact Nat.le_of_eq rfl) (hb hby at_126) (fun _ _ => ⟨rfl, rfl, (by decide : 9 + 0 ≤ _), (by decide : 21 + 0 ≤ _)⟩)
      dsimp only [Pt.U, Pt.locs, Pt.cells, Pt.slots] at X182 l182 y182 z182 st182 hQ182
      subst l182 y182 z182
      obtain ⟨hv182, N182q, r182⟩ := hQ182
      subst hv182
      have N182 := Fr.app N172 N182q
      have f183 := (f165.keep kp172)
      obtain ⟨T184, X184, e184, st184⟩ := castY X182 hx hZ hown (hw _ (List.mem_of_getElem? (i := 60) rfl)) r182 (Ins.self f183) (g := (mkF m 129 #[.val (.int p1), .val (.int p2), .val (.int p3), .val (.int (5 : Int32)), .val (.ref b1), .val (.int (1 : Int32)), .unset] [(.ref bx134)])) rfl rfl (hb hby at_129)
      have f185 := (((((((FB134.keep kp139 (ninS nq138_bx134_b1 (ninS nq138_bx134_ch2 (ninS nq138_bx134_ea2 nin0)))).keep kp141 nin0).keep kp148 (ninS nq138_bx134_b1 (ninS nq138_bx134_ch2 (ninS nq138_bx134_ea2 nin0)))).keep kp150 nin0).keep kp159 (ninS nq138_bx134_b1 (ninS nq138_bx134_ch2 (ninS nq138_bx134_ea2 nin0)))).keep kp161 nin0).keep kp172 (ninS nq138_bx134_b1 (ninS nq138_bx134_ch2 (ninS nq138_bx134_ea2 nin0))))
      obtain ⟨cq186, kq186, q186a, q186b, q186c⟩ := isOf hZ e184 f183
      obtain ⟨_, _, ⟨T186, L186, k186, n186⟩, -, X186, ⟨Lc186, hQ186, l186, y186, z186⟩, st186⟩ := X184.virtualBack hx (y := (⟨"java/lang/Integer", "intValue", "()I"⟩ : MethodName)) (z := (⟨"java/lang/Integer", "intValue", "()I"⟩ : MethodName)) hown (mvT hZ (hw _ (List.mem_of_getElem? (i := 62) rfl))) (mvT hZ (hw _ (List.mem_of_getElem? (i := 63) rfl))) (notFace_of_selects (args := #[]) (mvT hZ (hw _ (List.mem_of_getElem? (i := 65) rfl)))) (mvT hZ (hw _ (List.mem_of_getElem? (i := 65) rfl))) (mvT hZ (hw _ (List.mem_of_getElem? (i := 64) rfl))) (by decide) (backOf (W := 0) (rmIn l Z a0 hw [] bx134 (p2 + (1 : Int32)) T172.heap n0 Z172 f185) hZ (hw _ (List.mem_of_getElem? (i := 66) rfl)) (hw _ (List.mem_of_getElem? (i := 32) rfl)) (by decide) (by decide)) q186a q186c (g := (mkF m 141 #[.val (.int p1), .val (.int p2), .val (.int p3), .val (.int (5 : Int32)), .val (.ref b1), .val (.int (1 : Int32)), .val (.ref bx134)] [(.ref bx134)])) rfl (by rw [hml]; rfl) (Steps.refl _) (argsL := []) (rest := []) (lenOf pd_7 rfl) rfl (by show 2 * 0 + _ ≤ _; exact Nat.le_of_eq rfl) (hb hby at_141) (fun _ _ => ⟨rfl, e184, (by decide : 9 + 0 ≤ _), (by decide : 21 + 0 ≤ _)⟩)
      dsimp only [Pt.U, Pt.locs, Pt.cells, Pt.slots] at X186 l186 y186 z186 st186 hQ186
      subst l186 y186 z186
      obtain ⟨hv186, N186q, r186⟩ := hQ186
      subst hv186
      have N186 := Fr.app N182 N186q
      obtain ⟨fs, hr, hrun, hended, hW, hsame⟩ := X186.leave (v := some (.int (1 : Int32))) (fun h => by rw [Bd.returns] at h; cases h)
      refine ⟨_, _, pre0 _ (R8 _ (R132 _ (R173 _ (R181 _ ?_)))), hrun, hended, _, _, rfl, ?_, ⟨_, rfl⟩, hW, hsame.mono (by decide) (by decide)⟩
      · show Steps p.tables e below (T172.setTop (mkF m 122 #[.val (.int p1), .val (.int p2), .val (.int p3), .val (.int (5 : Int32)), .val (.ref b1), .val (.int (1 : Int32)), .unset] [])) _
        refine XS.aload X172.here hx rfl (hb hby at_122) rfl rfl ?_
        show Steps p.tables e below (T172.setTop (mkF m 124 #[.val (.int p1), .val (.int p2), .val (.int p3), .val (.int (5 : Int32)), .val (.ref b1), .val (.int (1 : Int32)), .unset] [(.ref b1)])) _
        refine XS.iload X172.here hx rfl (hb hby at_124) rfl ?_
        show Steps p.tables e below (T172.setTop (mkF m 126 #[.val (.int p1), .val (.int p2), .val (.int p3), .val (.int (5 : Int32)), .val (.ref b1), .val (.int (1 : Int32)), .unset] [(.int (1 : Int32)), (.ref b1)])) _
        refine st182.trans ?_
        show Steps p.tables e below (T182.setTop (mkF m 129 #[.val (.int p1), .val (.int p2), .val (.int p3), .val (.int (5 : Int32)), .val (.ref b1), .val (.int (1 : Int32)), .unset] [(.ref bx134)])) _
        refine st184 _ ?_
        show Steps p.tables e below (T184.setTop (mkF m 132 #[.val (.int p1), .val (.int p2), .val (.int p3), .val (.int (5 : Int32)), .val (.ref b1), .val (.int (1 : Int32)), .unset] [(.ref bx134)])) _
        refine XS.astore X184.here hx rfl (hb hby at_132) rfl rfl (l' := #[.val (.int p1), .val (.int p2), .val (.int p3), .val (.int (5 : Int32)), .val (.ref b1), .val (.int (1 : Int32)), .val (.ref bx134)]) rfl ?_
        show Steps p.tables e below (T184.setTop (mkF m 134 #[.val (.int p1), .val (.int p2), .val (.int p3), .val (.int (5 : Int32)), .val (.ref b1), .val (.int (1 : Int32)), .val (.ref bx134)] [])) _
        refine XS.aload X184.here hx rfl (hb hby at_134) rfl rfl ?_
        show Steps p.tables e below (T184.setTop (mkF m 136 #[.val (.int p1), .val (.int p2), .val (.int p3), .val (.int (5 : Int32)), .val (.ref b1), .val (.int (1 : Int32)), .val (.ref bx134)] [(.ref bx134)])) _
        refine XS.ifnullNo X184.here hx rfl (hb hby at_136) rfl ?_
        show Steps p.tables e below (T184.setTop (mkF m 139 #[.val (.int p1), .val (.int p2), .val (.int p3), .val (.int (5 : Int32)), .val (.ref b1), .val (.int (1 : Int32)), .val (.ref bx134)] [])) _
        refine XS.aload X184.here hx rfl (hb hby at_139) rfl rfl ?_
        show Steps p.tables e below (T184.setTop (mkF m 141 #[.val (.int p1), .val (.int p2), .val (.int p3), .val (.int (5 : Int32)), .val (.ref b1), .val (.int (1 : Int32)), .val (.ref bx134)] [(.ref bx134)])) _
        refine st186.trans ?_
        show Steps p.tables e below (T186.setTop (mkF m 144 #[.val (.int p1), .val (.int p2), .val (.int p3), .val (.int (5 : Int32)), .val (.ref b1), .val (.int (1 : Int32)), .val (.ref bx134)] [(.int (p2 + (1 : Int32)))])) _
        refine XS.iloadN X186.here hx rfl (hb hby at_144) rfl ?_
        show Steps p.tables e below (T186.setTop (mkF m 145 #[.val (.int p1), .val (.int p2), .val (.int p3), .val (.int (5 : Int32)), .val (.ref b1), .val (.int (1 : Int32)), .val (.ref bx134)] [(.int p2), (.int (p2 + (1 : Int32)))])) _
        refine XS.iload X186.here hx rfl (hb hby at_145) rfl ?_
        show Steps p.tables e below (T186.setTop (mkF m 147 #[.val (.int p1), .val (.int p2), .val (.int p3), .val (.int (5 : Int32)), .val (.ref b1), .val (.int (1 : Int32)), .val (.ref bx134)] [(.int (1 : Int32)), (.int p2), (.int (p2 + (1 : Int32)))])) _
        refine XS.iadd X186.here hx rfl (hb hby at_147) rfl ?_
        show Steps p.tables e below (T186.setTop (mkF m 148 #[.val (.int p1), .val (.int p2), .val (.int p3), .val (.int (5 : Int32)), .val (.ref b1), .val (.int (1 : Int32)), .val (.ref bx134)] [(.int (p2 + (1 : Int32))), (.int (p2 + (1 : Int32)))])) _
        refine XS.icmpNo X186.here hx rfl (hb hby at_148) rfl (teq rfl).2 ?_
        show Steps p.tables e below (T186.setTop (mkF m 151 #[.val (.int p1), .val (.int p2), .val (.int p3), .val (.int (5 : Int32)), .val (.ref b1), .val (.int (1 : Int32)), .val (.ref bx134)] [])) _
        refine XS.iconst X186.here hx rfl (hb hby at_151) ?_
        show Steps p.tables e below (T186.setTop (mkF m 152 #[.val (.int p1), .val (.int p2), .val (.int p3), .val (.int (5 : Int32)), .val (.ref b1), .val (.int (1 : Int32)), .val (.ref bx134)] [(.int (1 : Int32))])) _
        refine XS.goto X186.here hx rfl (pc0 := 152) (pc' := 156) rfl (hb hby at_152) (by decide) (by decide) ?_
        show Steps p.tables e below (T186.setTop (mkF m 156 #[.val (.int p1), .val (.int p2), .val (.int p3), .val (.int (5 : Int32)), .val (.ref b1), .val (.int (1 : Int32)), .val (.ref bx134)] [(.int (1 : Int32))])) _
        exact retN X186 hx (t := .boolean) Bd.returns (by simp) (hb hby at_156) hr
      · show Q0 n0 _ T186.heap _
        rw [r186]
        exact ⟨rfl, N186⟩
    · have R187 : ∀ tg, Steps p.tables e below (T172.setTop (mkF m 122 #[.val (.int p1), .val (.int p2), .val (.int p3), .val (.int (5 : Int32)), .val (.ref b1), .val (.int (2 : Int32)), .unset] [])) tg → Steps p.tables e below (T172.setTop (mkF m 122 #[.val (.int p1), .val (.int p2), .val (.int p3), .val (.int (5 : Int32)), .val (.ref b1), .val (.int ((p3 &&& (2147483647 : Int32)) % (5 : Int32))), .unset] [])) tg := fun tg kt => by rw [hk174]; exact kt
      obtain ⟨cq188, kq188, q188a, q188b, q188c⟩ := isOf hZ rfl hC172.1
      obtain ⟨_, _, ⟨T188, L188, k188, n188⟩, -, X188, ⟨Lc188, hQ188, l188, y188, z188⟩, st188⟩ := X172.virtualBack hx (y := (⟨"com/example/anchored_threads/anchoredthreads/internal/ChunkedList", "get", "(I)Ljava/lang/Object;"⟩ : MethodName)) (z := (⟨"com/example/anchored_threads/anchoredthreads/internal/ChunkedList", "get", "(I)Ljava/lang/Object;"⟩ : MethodName)) hown (mvT hZ (hw _ (List.mem_of_getElem? (i := 47) rfl))) (mvT hZ (hw _ (List.mem_of_getElem? (i := 48) rfl))) (notFace_of_selects (args := #[]) (mvT hZ (hw _ (List.mem_of_getElem? (i := 50) rfl)))) (mvT hZ (hw _ (List.mem_of_getElem? (i := 50) rfl))) (mvT hZ (hw _ (List.mem_of_getElem? (i := 49) rfl))) (by decide) (backOf (W := 0) (rmGt l Z a0 hw [] b1 ch2 ea172 kc2 ke172 (5 : Int32) mc172 (8 : Int32) [(.ref bx4), (.ref bx134), (.ref bx141), (.ref bx150), (.ref bx161), .null, .null, .null] (2 : Int32) bx141 T172.heap n0 Z172 hC172 (by decide) (by decide) (by decide) (by decide) ⟨by decide, by decide⟩ rfl) hZ (hw _ (List.mem_of_getElem? (i := 51) rfl)) (hw _ (List.mem_of_getElem? (i := 3) rfl)) (by decide) (by decide)) q188a q188c (g := (mkF m 126 #[.val (.int p1), .val (.int p2), .val (.int p3), .val (.int (5 : Int32)), .val (.ref b1), .val (.int (2 : Int32)), .unset] [(.int (2 : Int32)), (.ref b1)])) rfl (by rw [hml]; rfl) (Steps.refl _) (argsL := [(.int (2 : Int32))]) (rest := []) (lenOf pd_6 rfl) rfl (by show 2 * 0 + _ ≤ _; exact Nat.le_of_eq rfl) (hb hby at_126) (fun _ _ => ⟨rfl, rfl, (by decide : 9 + 0 ≤ _), (by decide : 21 + 0 ≤ _)⟩)
      dsimp only [Pt.U, Pt.locs, Pt.cells, Pt.slots] at X188 l188 y188 z188 st188 hQ188
      subst l188 y188 z188
      obtain ⟨hv188, N188q, r188⟩ := hQ188
      subst hv188
      have N188 := Fr.app N172 N188q
      have f189 := (f167.keep kp172)
      obtain ⟨T190, X190, e190, st190⟩ := castY X188 hx hZ hown (hw _ (List.mem_of_getElem? (i := 60) rfl)) r188 (Ins.self f189) (g := (mkF m 129 #[.val (.int p1), .val (.int p2), .val (.int p3), .val (.int (5 : Int32)), .val (.ref b1), .val (.int (2 : Int32)), .unset] [(.ref bx141)])) rfl rfl (hb hby at_129)
      have f191 := (((((FB141.keep kp148 (ninS nq147_bx141_b1 (ninS nq147_bx141_ch2 (ninS nq147_bx141_ea2 nin0)))).keep kp150 nin0).keep kp159 (ninS nq147_bx141_b1 (ninS nq147_bx141_ch2 (ninS nq147_bx141_ea2 nin0)))).keep kp161 nin0).keep kp172 (ninS nq147_bx141_b1 (ninS nq147_bx141_ch2 (ninS nq147_bx141_ea2 nin0))))
      obtain ⟨cq192, kq192, q192a, q192b, q192c⟩ := isOf hZ e190 f189
      obtain ⟨_, _, ⟨T192, L192, k192, n192⟩, -, X192, ⟨Lc192, hQ192, l192, y192, z192⟩, st192⟩ := X190.virtualBack hx (y := (⟨"java/lang/Integer", "intValue", "()I"⟩ : MethodName)) (z := (⟨"java/lang/Integer", "intValue", "()I"⟩ : MethodName)) hown (mvT hZ (hw _ (List.mem_of_getElem? (i := 62) rfl))) (mvT hZ (hw _ (List.mem_of_getElem? (i := 63) rfl))) (notFace_of_selects (args := #[]) (mvT hZ (hw _ (List.mem_of_getElem? (i := 65) rfl)))) (mvT hZ (hw _ (List.mem_of_getElem? (i := 65) rfl))) (mvT hZ (hw _ (List.mem_of_getElem? (i := 64) rfl))) (by decide) (backOf (W := 0) (rmIn l Z a0 hw [] bx141 (p2 + (2 : Int32)) T172.heap n0 Z172 f191) hZ (hw _ (List.mem_of_getElem? (i := 66) rfl)) (hw _ (List.mem_of_getElem? (i := 32) rfl)) (by decide) (by decide)) q192a q192c (g := (mkF m 141 #[.val (.int p1), .val (.int p2), .val (.int p3), .val (.int (5 : Int32)), .val (.ref b1), .val (.int (2 : Int32)), .val (.ref bx141)] [(.ref bx141)])) rfl (by rw [hml]; rfl) (Steps.refl _) (argsL := []) (rest := []) (lenOf pd_7 rfl) rfl (by show 2 * 0 + _ ≤ _; exact Nat.le_of_eq rfl) (hb hby at_141) (fun _ _ => ⟨rfl, e190, (by decide : 9 + 0 ≤ _), (by decide : 21 + 0 ≤ _)⟩)
      dsimp only [Pt.U, Pt.locs, Pt.cells, Pt.slots] at X192 l192 y192 z192 st192 hQ192
      subst l192 y192 z192
      obtain ⟨hv192, N192q, r192⟩ := hQ192
      subst hv192
      have N192 := Fr.app N188 N192q
      obtain ⟨fs, hr, hrun, hended, hW, hsame⟩ := X192.leave (v := some (.int (1 : Int32))) (fun h => by rw [Bd.returns] at h; cases h)
      refine ⟨_, _, pre0 _ (R8 _ (R132 _ (R173 _ (R187 _ ?_)))), hrun, hended, _, _, rfl, ?_, ⟨_, rfl⟩, hW, hsame.mono (by decide) (by decide)⟩
      · show Steps p.tables e below (T172.setTop (mkF m 122 #[.val (.int p1), .val (.int p2), .val (.int p3), .val (.int (5 : Int32)), .val (.ref b1), .val (.int (2 : Int32)), .unset] [])) _
        refine XS.aload X172.here hx rfl (hb hby at_122) rfl rfl ?_
        show Steps p.tables e below (T172.setTop (mkF m 124 #[.val (.int p1), .val (.int p2), .val (.int p3), .val (.int (5 : Int32)), .val (.ref b1), .val (.int (2 : Int32)), .unset] [(.ref b1)])) _
        refine XS.iload X172.here hx rfl (hb hby at_124) rfl ?_
        show Steps p.tables e below (T172.setTop (mkF m 126 #[.val (.int p1), .val (.int p2), .val (.int p3), .val (.int (5 : Int32)), .val (.ref b1), .val (.int (2 : Int32)), .unset] [(.int (2 : Int32)), (.ref b1)])) _
        refine st188.trans ?_
        show Steps p.tables e below (T188.setTop (mkF m 129 #[.val (.int p1), .val (.int p2), .val (.int p3), .val (.int (5 : Int32)), .val (.ref b1), .val (.int (2 : Int32)), .unset] [(.ref bx141)])) _
        refine st190 _ ?_
        show Steps p.tables e below (T190.setTop (mkF m 132 #[.val (.int p1), .val (.int p2), .val (.int p3), .val (.int (5 : Int32)), .val (.ref b1), .val (.int (2 : Int32)), .unset] [(.ref bx141)])) _
        refine XS.astore X190.here hx rfl (hb hby at_132) rfl rfl (l' := #[.val (.int p1), .val (.int p2), .val (.int p3), .val (.int (5 : Int32)), .val (.ref b1), .val (.int (2 : Int32)), .val (.ref bx141)]) rfl ?_
        show Steps p.tables e below (T190.setTop (mkF m 134 #[.val (.int p1), .val (.int p2), .val (.int p3), .val (.int (5 : Int32)), .val (.ref b1), .val (.int (2 : Int32)), .val (.ref bx141)] [])) _
        refine XS.aload X190.here hx rfl (hb hby at_134) rfl rfl ?_
        show Steps p.tables e below (T190.setTop (mkF m 136 #[.val (.int p1), .val (.int p2), .val (.int p3), .val (.int (5 : Int32)), .val (.ref b1), .val (.int (2 : Int32)), .val (.ref bx141)] [(.ref bx141)])) _
        refine XS.ifnullNo X190.here hx rfl (hb hby at_136) rfl ?_
        show Steps p.tables e below (T190.setTop (mkF m 139 #[.val (.int p1), .val (.int p2), .val (.int p3), .val (.int (5 : Int32)), .val (.ref b1), .val (.int (2 : Int32)), .val (.ref bx141)] [])) _
        refine XS.aload X190.here hx rfl (hb hby at_139) rfl rfl ?_
        show Steps p.tables e below (T190.setTop (mkF m 141 #[.val (.int p1), .val (.int p2), .val (.int p3), .val (.int (5 : Int32)), .val (.ref b1), .val (.int (2 : Int32)), .val (.ref bx141)] [(.ref bx141)])) _
        refine st192.trans ?_
        show Steps p.tables e below (T192.setTop (mkF m 144 #[.val (.int p1), .val (.int p2), .val (.int p3), .val (.int (5 : Int32)), .val (.ref b1), .val (.int (2 : Int32)), .val (.ref bx141)] [(.int (p2 + (2 : Int32)))])) _
        refine XS.iloadN X192.here hx rfl (hb hby at_144) rfl ?_
        show Steps p.tables e below (T192.setTop (mkF m 145 #[.val (.int p1), .val (.int p2), .val (.int p3), .val (.int (5 : Int32)), .val (.ref b1), .val (.int (2 : Int32)), .val (.ref bx141)] [(.int p2), (.int (p2 + (2 : Int32)))])) _
        refine XS.iload X192.here hx rfl (hb hby at_145) rfl ?_
        show Steps p.tables e below (T192.setTop (mkF m 147 #[.val (.int p1), .val (.int p2), .val (.int p3), .val (.int (5 : Int32)), .val (.ref b1), .val (.int (2 : Int32)), .val (.ref bx141)] [(.int (2 : Int32)), (.int p2), (.int (p2 + (2 : Int32)))])) _
        refine XS.iadd X192.here hx rfl (hb hby at_147) rfl ?_
        show Steps p.tables e below (T192.setTop (mkF m 148 #[.val (.int p1), .val (.int p2), .val (.int p3), .val (.int (5 : Int32)), .val (.ref b1), .val (.int (2 : Int32)), .val (.ref bx141)] [(.int (p2 + (2 : Int32))), (.int (p2 + (2 : Int32)))])) _
        refine XS.icmpNo X192.here hx rfl (hb hby at_148) rfl (teq rfl).2 ?_
        show Steps p.tables e below (T192.setTop (mkF m 151 #[.val (.int p1), .val (.int p2), .val (.int p3), .val (.int (5 : Int32)), .val (.ref b1), .val (.int (2 : Int32)), .val (.ref bx141)] [])) _
        refine XS.iconst X192.here hx rfl (hb hby at_151) ?_
        show Steps p.tables e below (T192.setTop (mkF m 152 #[.val (.int p1), .val (.int p2), .val (.int p3), .val (.int (5 : Int32)), .val (.ref b1), .val (.int (2 : Int32)), .val (.ref bx141)] [(.int (1 : Int32))])) _
        refine XS.goto X192.here hx rfl (pc0 := 152) (pc' := 156) rfl (hb hby at_152) (by decide) (by decide) ?_
        show Steps p.tables e below (T192.setTop (mkF m 156 #[.val (.int p1), .val (.int p2), .val (.int p3), .val (.int (5 : Int32)), .val (.ref b1), .val (.int (2 : Int32)), .val (.ref bx141)] [(.int (1 : Int32))])) _
        exact retN X192 hx (t := .boolean) Bd.returns (by simp) (hb hby at_156) hr
      · show Q0 n0 _ T192.heap _
        rw [r192]
        exact ⟨rfl, N192⟩
    · have R193 : ∀ tg, Steps p.tables e below (T172.setTop (mkF m 122 #[.val (.int p1), .val (.int p2), .val (.int p3), .val (.int (5 : Int32)), .val (.ref b1), .val (.int (3 : Int32)), .unset] [])) tg → Steps p.tables e below (T172.setTop (mkF m 122 #[.val (.int p1), .val (.int p2), .val (.int p3), .val (.int (5 : Int32)), .val (.ref b1), .val (.int ((p3 &&& (2147483647 : Int32)) % (5 : Int32))), .unset] [])) tg := fun tg kt => by rw [hk174]; exact kt
      obtain ⟨cq194, kq194, q194a, q194b, q194c⟩ := isOf hZ rfl hC172.1
      obtain ⟨_, _, ⟨T194, L194, k194, n194⟩, -, X194, ⟨Lc194, hQ194, l194, y194, z194⟩, st194⟩ := X172.virtualBack hx (y := (⟨"com/example/anchored_threads/anchoredthreads/internal/ChunkedList", "get", "(I)Ljava/lang/Object;"⟩ : MethodName)) (z := (⟨"com/example/anchored_threads/anchoredthreads/internal/ChunkedList", "get", "(I)Ljava/lang/Object;"⟩ : MethodName)) hown (mvT hZ (hw _ (List.mem_of_getElem? (i := 47) rfl))) (mvT hZ (hw _ (List.mem_of_getElem? (i := 48) rfl))) (notFace_of_selects (args := #[]) (mvT hZ (hw _ (List.mem_of_getElem? (i := 50) rfl)))) (mvT hZ (hw _ (List.mem_of_getElem? (i := 50) rfl))) (mvT hZ (hw _ (List.mem_of_getElem? (i := 49) rfl))) (by decide) (backOf (W := 0) (rmGt l Z a0 hw [] b1 ch2 ea172 kc2 ke172 (5 : Int32) mc172 (8 : Int32) [(.ref bx4), (.ref bx134), (.ref bx141), (.ref bx150), (.ref bx161), .null, .null, .null] (3 : Int32) bx150 T172.heap n0 Z172 hC172 (by decide) (by decide) (by decide) (by decide) ⟨by decide, by decide⟩ rfl) hZ (hw _ (List.mem_of_getElem? (i := 51) rfl)) (hw _ (List.mem_of_getElem? (i := 3) rfl)) (by decide) (by decide)) q194a q194c (g := (mkF m 126 #[.val (.int p1), .val (.int p2), .val (.int p3), .val (.int (5 : Int32)), .val (.ref b1), .val (.int (3 : Int32)), .unset] [(.int (3 : Int32)), (.ref b1)])) rfl (by rw [hml]; rfl) (Steps.refl _) (argsL := [(.int (3 : Int32))]) (rest := []) (lenOf pd_6 rfl) rfl (by show 2 * 0 + _ ≤ _; exact Nat.le_of_eq rfl) (hb hby at_126) (fun _ _ => ⟨rfl, rfl, (by decide : 9 + 0 ≤ _), (by decide : 21 + 0 ≤ _)⟩)
      dsimp only [Pt.U, Pt.locs, Pt.cells, Pt.slots] at X194 l194 y194 z194 st194 hQ194
      subst l194 y194 z194
      obtain ⟨hv194, N194q, r194⟩ := hQ194
      subst hv194
      have N194 := Fr.app N172 N194q
      have f195 := (f169.keep kp172)
      obtain ⟨T196, X196, e196, st196⟩ := castY X194 hx hZ hown (hw _ (List.mem_of_getElem? (i := 60) rfl)) r194 (Ins.self f195) (g := (mkF m 129 #[.val (.int p1), .val (.int p2), .val (.int p3), .val (.int (5 : Int32)), .val (.ref b1), .val (.int (3 : Int32)), .unset] [(.ref bx150)])) rfl rfl (hb hby at_129)
      have f197 := (((FB150.keep kp159 (ninS nq158_bx150_b1 (ninS nq158_bx150_ch2 (ninS nq158_bx150_ea2 nin0)))).keep kp161 nin0).keep kp172 (ninS nq158_bx150_b1 (ninS nq158_bx150_ch2 (ninS nq158_bx150_ea2 nin0))))
      obtain ⟨cq198, kq198, q198a, q198b, q198c⟩ := isOf hZ e196 f195
      obtain ⟨_, _, ⟨T198, L198, k198, n198⟩, -, X198, ⟨Lc198, hQ198, l198, y198, z198⟩, st198⟩ := X196.virtualBack hx (y := (⟨"java/lang/Integer", "intValue", "()I"⟩ : MethodName)) (z := (⟨"java/lang/Integer", "intValue", "()I"⟩ : MethodName)) hown (mvT hZ (hw _ (List.mem_of_getElem? (i := 62) rfl))) (mvT hZ (hw _ (List.mem_of_getElem? (i := 63) rfl))) (notFace_of_selects (args := #[]) (mvT hZ (hw _ (List.mem_of_getElem? (i := 65) rfl)))) (mvT hZ (hw _ (List.mem_of_getElem? (i := 65) rfl))) (mvT hZ (hw _ (List.mem_of_getElem? (i := 64) rfl))) (by decide) (backOf (W := 0) (rmIn l Z a0 hw [] bx150 (p2 + (3 : Int32)) T172.heap n0 Z172 f197) hZ (hw _ (List.mem_of_getElem? (i := 66) rfl)) (hw _ (List.mem_of_getElem? (i := 32) rfl)) (by decide) (by decide)) q198a q198c (g := (mkF m 141 #[.val (.int p1), .val (.int p2), .val (.int p3), .val (.int (5 : Int32)), .val (.ref b1), .val (.int (3 : Int32)), .val (.ref bx150)] [(.ref bx150)])) rfl (by rw [hml]; rfl) (Steps.refl _) (argsL := []) (rest := []) (lenOf pd_7 rfl) rfl (by show 2 * 0 + _ ≤ _; exact Nat.le_of_eq rfl) (hb hby at_141) (fun _ _ => ⟨rfl, e196, (by decide : 9 + 0 ≤ _), (by decide : 21 + 0 ≤ _)⟩)
      dsimp only [Pt.U, Pt.locs, Pt.cells, Pt.slots] at X198 l198 y198 z198 st198 hQ198
      subst l198 y198 z198
      obtain ⟨hv198, N198q, r198⟩ := hQ198
      subst hv198
      have N198 := Fr.app N194 N198q
      obtain ⟨fs, hr, hrun, hended, hW, hsame⟩ := X198.leave (v := some (.int (1 : Int32))) (fun h => by rw [Bd.returns] at h; cases h)
      refine ⟨_, _, pre0 _ (R8 _ (R132 _ (R173 _ (R193 _ ?_)))), hrun, hended, _, _, rfl, ?_, ⟨_, rfl⟩, hW, hsame.mono (by decide) (by decide)⟩
      · show Steps p.tables e below (T172.setTop (mkF m 122 #[.val (.int p1), .val (.int p2), .val (.int p3), .val (.int (5 : Int32)), .val (.ref b1), .val (.int (3 : Int32)), .unset] [])) _
        refine XS.aload X172.here hx rfl (hb hby at_122) rfl rfl ?_
        show Steps p.tables e below (T172.setTop (mkF m 124 #[.val (.int p1), .val (.int p2), .val (.int p3), .val (.int (5 : Int32)), .val (.ref b1), .val (.int (3 : Int32)), .unset] [(.ref b1)])) _
        refine XS.iload X172.here hx rfl (hb hby at_124) rfl ?_
        show Steps p.tables e below (T172.setTop (mkF m 126 #[.val (.int p1), .val (.int p2), .val (.int p3), .val (.int (5 : Int32)), .val (.ref b1), .val (.int (3 : Int32)), .unset] [(.int (3 : Int32)), (.ref b1)])) _
        refine st194.trans ?_
        show Steps p.tables e below (T194.setTop (mkF m 129 #[.val (.int p1), .val (.int p2), .val (.int p3), .val (.int (5 : Int32)), .val (.ref b1), .val (.int (3 : Int32)), .unset] [(.ref bx150)])) _
        refine st196 _ ?_
        show Steps p.tables e below (T196.setTop (mkF m 132 #[.val (.int p1), .val (.int p2), .val (.int p3), .val (.int (5 : Int32)), .val (.ref b1), .val (.int (3 : Int32)), .unset] [(.ref bx150)])) _
        refine XS.astore X196.here hx rfl (hb hby at_132) rfl rfl (l' := #[.val (.int p1), .val (.int p2), .val (.int p3), .val (.int (5 : Int32)), .val (.ref b1), .val (.int (3 : Int32)), .val (.ref bx150)]) rfl ?_
        show Steps p.tables e below (T196.setTop (mkF m 134 #[.val (.int p1), .val (.int p2), .val (.int p3), .val (.int (5 : Int32)), .val (.ref b1), .val (.int (3 : Int32)), .val (.ref bx150)] [])) _
        refine XS.aload X196.here hx rfl (hb hby at_134) rfl rfl ?_
        show Steps p.tables e below (T196.setTop (mkF m 136 #[.val (.int p1), .val (.int p2), .val (.int p3), .val (.int (5 : Int32)), .val (.ref b1), .val (.int (3 : Int32)), .val (.ref bx150)] [(.ref bx150)])) _
        refine XS.ifnullNo X196.here hx rfl (hb hby at_136) rfl ?_
        show Steps p.tables e below (T196.setTop (mkF m 139 #[.val (.int p1), .val (.int p2), .val (.int p3), .val (.int (5 : Int32)), .val (.ref b1), .val (.int (3 : Int32)), .val (.ref bx150)] [])) _
        refine XS.aload X196.here hx rfl (hb hby at_139) rfl rfl ?_
        show Steps p.tables e below (T196.setTop (mkF m 141 #[.val (.int p1), .val (.int p2), .val (.int p3), .val (.int (5 : Int32)), .val (.ref b1), .val (.int (3 : Int32)), .val (.ref bx150)] [(.ref bx150)])) _
        refine st198.trans ?_
        show Steps p.tables e below (T198.setTop (mkF m 144 #[.val (.int p1), .val (.int p2), .val (.int p3), .val (.int (5 : Int32)), .val (.ref b1), .val (.int (3 : Int32)), .val (.ref bx150)] [(.int (p2 + (3 : Int32)))])) _
        refine XS.iloadN X198.here hx rfl (hb hby at_144) rfl ?_
        show Steps p.tables e below (T198.setTop (mkF m 145 #[.val (.int p1), .val (.int p2), .val (.int p3), .val (.int (5 : Int32)), .val (.ref b1), .val (.int (3 : Int32)), .val (.ref bx150)] [(.int p2), (.int (p2 + (3 : Int32)))])) _
        refine XS.iload X198.here hx rfl (hb hby at_145) rfl ?_
        show Steps p.tables e below (T198.setTop (mkF m 147 #[.val (.int p1), .val (.int p2), .val (.int p3), .val (.int (5 : Int32)), .val (.ref b1), .val (.int (3 : Int32)), .val (.ref bx150)] [(.int (3 : Int32)), (.int p2), (.int (p2 + (3 : Int32)))])) _
        refine XS.iadd X198.here hx rfl (hb hby at_147) rfl ?_
        show Steps p.tables e below (T198.setTop (mkF m 148 #[.val (.int p1), .val (.int p2), .val (.int p3), .val (.int (5 : Int32)), .val (.ref b1), .val (.int (3 : Int32)), .val (.ref bx150)] [(.int (p2 + (3 : Int32))), (.int (p2 + (3 : Int32)))])) _
        refine XS.icmpNo X198.here hx rfl (hb hby at_148) rfl (teq rfl).2 ?_
        show Steps p.tables e below (T198.setTop (mkF m 151 #[.val (.int p1), .val (.int p2), .val (.int p3), .val (.int (5 : Int32)), .val (.ref b1), .val (.int (3 : Int32)), .val (.ref bx150)] [])) _
        refine XS.iconst X198.here hx rfl (hb hby at_151) ?_
        show Steps p.tables e below (T198.setTop (mkF m 152 #[.val (.int p1), .val (.int p2), .val (.int p3), .val (.int (5 : Int32)), .val (.ref b1), .val (.int (3 : Int32)), .val (.ref bx150)] [(.int (1 : Int32))])) _
        refine XS.goto X198.here hx rfl (pc0 := 152) (pc' := 156) rfl (hb hby at_152) (by decide) (by decide) ?_
        show Steps p.tables e below (T198.setTop (mkF m 156 #[.val (.int p1), .val (.int p2), .val (.int p3), .val (.int (5 : Int32)), .val (.ref b1), .val (.int (3 : Int32)), .val (.ref bx150)] [(.int (1 : Int32))])) _
        exact retN X198 hx (t := .boolean) Bd.returns (by simp) (hb hby at_156) hr
      · show Q0 n0 _ T198.heap _
        rw [r198]
        exact ⟨rfl, N198⟩
    · have R199 : ∀ tg, Steps p.tables e below (T172.setTop (mkF m 122 #[.val (.int p1), .val (.int p2), .val (.int p3), .val (.int (5 : Int32)), .val (.ref b1), .val (.int (4 : Int32)), .unset] [])) tg → Steps p.tables e below (T172.setTop (mkF m 122 #[.val (.int p1), .val (.int p2), .val (.int p3), .val (.int (5 : Int32)), .val (.ref b1), .val (.int ((p3 &&& (2147483647 : Int32)) % (5 : Int32))), .unset] [])) tg := fun tg kt => by rw [hk174]; exact kt
      obtain ⟨cq200, kq200, q200a, q200b, q200c⟩ := isOf hZ rfl hC172.1
      obtain ⟨_, _, ⟨T200, L200, k200, n200⟩, -, X200, ⟨Lc200, hQ200, l200, y200, z200⟩, st200⟩ := X172.virtualBack hx (y := (⟨"com/example/anchored_threads/anchoredthreads/internal/ChunkedList", "get", "(I)Ljava/lang/Object;"⟩ : MethodName)) (z := (⟨"com/example/anchored_threads/anchoredthreads/internal/ChunkedList", "get", "(I)Ljava/lang/Object;"⟩ : MethodName)) hown (mvT hZ (hw _ (List.mem_of_getElem? (i := 47) rfl))) (mvT hZ (hw _ (List.mem_of_getElem? (i := 48) rfl))) (notFace_of_selects (args := #[]) (mvT hZ (hw _ (List.mem_of_getElem? (i := 50) rfl)))) (mvT hZ (hw _ (List.mem_of_getElem? (i := 50) rfl))) (mvT hZ (hw _ (List.mem_of_getElem? (i := 49) rfl))) (by decide) (backOf (W := 0) (rmGt l Z a0 hw [] b1 ch2 ea172 kc2 ke172 (5 : Int32) mc172 (8 : Int32) [(.ref bx4), (.ref bx134), (.ref bx141), (.ref bx150), (.ref bx161), .null, .null, .null] (4 : Int32) bx161 T172.heap n0 Z172 hC172 (by decide) (by decide) (by decide) (by decide) ⟨by decide, by decide⟩ rfl) hZ (hw _ (List.mem_of_getElem? (i := 51) rfl)) (hw _ (List.mem_of_getElem? (i := 3) rfl)) (by decide) (by decide)) q200a q200c (g := (mkF m 126 #[.val (.int p1), .val (.int p2), .val (.int p3), .val (.int (5 : Int32)), .val (.ref b1), .val (.int (4 : Int32)), .unset] [(.int (4 : Int32)), (.ref b1)])) rfl (by rw [hml]; rfl) (Steps.refl _) (argsL := [(.int (4 : Int32))]) (rest := []) (lenOf pd_6 rfl) rfl (by show 2 * 0 + _ ≤ _; exact Nat.le_of_eq rfl) (hb hby at_126) (fun _ _ => ⟨rfl, rfl, (by decide : 9 + 0 ≤ _), (by decide : 21 + 0 ≤ _)⟩)
      dsimp only [Pt.U, Pt.locs, Pt.cells, Pt.slots] at X200 l200 y200 z200 st200 hQ200
      subst l200 y200 z200
      obtain ⟨hv200, N200q, r200⟩ := hQ200
      subst hv200
      have N200 := Fr.app N172 N200q
      have f201 := (EB161.keep kp172)
      obtain ⟨T202, X202, e202, st202⟩ := castY X200 hx hZ hown (hw _ (List.mem_of_getElem? (i := 60) rfl)) r200 (Ins.self f201) (g := (mkF m 129 #[.val (.int p1), .val (.int p2), .val (.int p3), .val (.int (5 : Int32)), .val (.ref b1), .val (.int (4 : Int32)), .unset] [(.ref bx161)])) rfl rfl (hb hby at_129)
      have f203 := (FB161.keep kp172 (ninS nq171_bx161_b1 (ninS nq171_bx161_ch2 (ninS nq171_bx161_ea2 nin0))))
      obtain ⟨cq204, kq204, q204a, q204b, q204c⟩ := isOf hZ e202 f201
      obtain ⟨_, _, ⟨T204, L204, k204, n204⟩, -, X204, ⟨Lc204, hQ204, l204, y204, z204⟩, st204⟩ := X202.virtualBack hx (y := (⟨"java/lang/Integer", "intValue", "()I"⟩ : MethodName)) (z := (⟨"java/lang/Integer", "intValue", "()I"⟩ : MethodName)) hown (mvT hZ (hw _ (List.mem_of_getElem? (i := 62) rfl))) (mvT hZ (hw _ (List.mem_of_getElem? (i := 63) rfl))) (notFace_of_selects (args := #[]) (mvT hZ (hw _ (List.mem_of_getElem? (i := 65) rfl)))) (mvT hZ (hw _ (List.mem_of_getElem? (i := 65) rfl))) (mvT hZ (hw _ (List.mem_of_getElem? (i := 64) rfl))) (by decide) (backOf (W := 0) (rmIn l Z a0 hw [] bx161 (p2 + (4 : Int32)) T172.heap n0 Z172 f203) hZ (hw _ (List.mem_of_getElem? (i := 66) rfl)) (hw _ (List.mem_of_getElem? (i := 32) rfl)) (by decide) (by decide)) q204a q204c (g := (mkF m 141 #[.val (.int p1), .val (.int p2), .val (.int p3), .val (.int (5 : Int32)), .val (.ref b1), .val (.int (4 : Int32)), .val (.ref bx161)] [(.ref bx161)])) rfl (by rw [hml]; rfl) (Steps.refl _) (argsL := []) (rest := []) (lenOf pd_7 rfl) rfl (by show 2 * 0 + _ ≤ _; exact Nat.le_of_eq rfl) (hb hby at_141) (fun _ _ => ⟨rfl, e202, (by decide : 9 + 0 ≤ _), (by decide : 21 + 0 ≤ _)⟩)
      dsimp only [Pt.U, Pt.locs, Pt.cells, Pt.slots] at X204 l204 y204 z204 st204 hQ204
      subst l204 y204 z204
      obtain ⟨hv204, N204q, r204⟩ := hQ204
      subst hv204
      have N204 := Fr.app N200 N204q
      obtain ⟨fs, hr, hrun, hended, hW, hsame⟩ := X204.leave (v := some (.int (1 : Int32))) (fun h => by rw [Bd.returns] at h; cases h)
      refine ⟨_, _, pre0 _ (R8 _ (R132 _ (R173 _ (R199 _ ?_)))), hrun, hended, _, _, rfl, ?_, ⟨_, rfl⟩, hW, hsame.mono (by decide) (by decide)⟩
      · show Steps p.tables e below (T172.setTop (mkF m 122 #[.val (.int p1), .val (.int p2), .val (.int p3), .val (.int (5 : Int32)), .val (.ref b1), .val (.int (4 : Int32)), .unset] [])) _
        refine XS.aload X172.here hx rfl (hb hby at_122) rfl rfl ?_
        show Steps p.tables e below (T172.setTop (mkF m 124 #[.val (.int p1), .val (.int p2), .val (.int p3), .val (.int (5 : Int32)), .val (.ref b1), .val (.int (4 : Int32)), .unset] [(.ref b1)])) _
        refine XS.iload X172.here hx rfl (hb hby at_124) rfl ?_
        show Steps p.tables e below (T172.setTop (mkF m 126 #[.val (.int p1), .val (.int p2), .val (.int p3), .val (.int (5 : Int32)), .val (.ref b1), .val (.int (4 : Int32)), .unset] [(.int (4 : Int32)), (.ref b1)])) _
        refine st200.trans ?_
        show Steps p.tables e below (T200.setTop (mkF m 129 #[.val (.int p1), .val (.int p2), .val (.int p3), .val (.int (5 : Int32)), .val (.ref b1), .val (.int (4 : Int32)), .unset] [(.ref bx161)])) _
        refine st202 _ ?_
        show Steps p.tables e below (T202.setTop (mkF m 132 #[.val (.int p1), .val (.int p2), .val (.int p3), .val (.int (5 : Int32)), .val (.ref b1), .val (.int (4 : Int32)), .unset] [(.ref bx161)])) _
        refine XS.astore X202.here hx rfl (hb hby at_132) rfl rfl (l' := #[.val (.int p1), .val (.int p2), .val (.int p3), .val (.int (5 : Int32)), .val (.ref b1), .val (.int (4 : Int32)), .val (.ref bx161)]) rfl ?_
        show Steps p.tables e below (T202.setTop (mkF m 134 #[.val (.int p1), .val (.int p2), .val (.int p3), .val (.int (5 : Int32)), .val (.ref b1), .val (.int (4 : Int32)), .val (.ref bx161)] [])) _
        refine XS.aload X202.here hx rfl (hb hby at_134) rfl rfl ?_
        show Steps p.tables e below (T202.setTop (mkF m 136 #[.val (.int p1), .val (.int p2), .val (.int p3), .val (.int (5 : Int32)), .val (.ref b1), .val (.int (4 : Int32)), .val (.ref bx161)] [(.ref bx161)])) _
        refine XS.ifnullNo X202.here hx rfl (hb hby at_136) rfl ?_
        show Steps p.tables e below (T202.setTop (mkF m 139 #[.val (.int p1), .val (.int p2), .val (.int p3), .val (.int (5 : Int32)), .val (.ref b1), .val (.int (4 : Int32)), .val (.ref bx161)] [])) _
        refine XS.aload X202.here hx rfl (hb hby at_139) rfl rfl ?_
        show Steps p.tables e below (T202.setTop (mkF m 141 #[.val (.int p1), .val (.int p2), .val (.int p3), .val (.int (5 : Int32)), .val (.ref b1), .val (.int (4 : Int32)), .val (.ref bx161)] [(.ref bx161)])) _
        refine st204.trans ?_
        show Steps p.tables e below (T204.setTop (mkF m 144 #[.val (.int p1), .val (.int p2), .val (.int p3), .val (.int (5 : Int32)), .val (.ref b1), .val (.int (4 : Int32)), .val (.ref bx161)] [(.int (p2 + (4 : Int32)))])) _
        refine XS.iloadN X204.here hx rfl (hb hby at_144) rfl ?_
        show Steps p.tables e below (T204.setTop (mkF m 145 #[.val (.int p1), .val (.int p2), .val (.int p3), .val (.int (5 : Int32)), .val (.ref b1), .val (.int (4 : Int32)), .val (.ref bx161)] [(.int p2), (.int (p2 + (4 : Int32)))])) _
        refine XS.iload X204.here hx rfl (hb hby at_145) rfl ?_
        show Steps p.tables e below (T204.setTop (mkF m 147 #[.val (.int p1), .val (.int p2), .val (.int p3), .val (.int (5 : Int32)), .val (.ref b1), .val (.int (4 : Int32)), .val (.ref bx161)] [(.int (4 : Int32)), (.int p2), (.int (p2 + (4 : Int32)))])) _
        refine XS.iadd X204.here hx rfl (hb hby at_147) rfl ?_
        show Steps p.tables e below (T204.setTop (mkF m 148 #[.val (.int p1), .val (.int p2), .val (.int p3), .val (.int (5 : Int32)), .val (.ref b1), .val (.int (4 : Int32)), .val (.ref bx161)] [(.int (p2 + (4 : Int32))), (.int (p2 + (4 : Int32)))])) _
        refine XS.icmpNo X204.here hx rfl (hb hby at_148) rfl (teq rfl).2 ?_
        show Steps p.tables e below (T204.setTop (mkF m 151 #[.val (.int p1), .val (.int p2), .val (.int p3), .val (.int (5 : Int32)), .val (.ref b1), .val (.int (4 : Int32)), .val (.ref bx161)] [])) _
        refine XS.iconst X204.here hx rfl (hb hby at_151) ?_
        show Steps p.tables e below (T204.setTop (mkF m 152 #[.val (.int p1), .val (.int p2), .val (.int p3), .val (.int (5 : Int32)), .val (.ref b1), .val (.int (4 : Int32)), .val (.ref bx161)] [(.int (1 : Int32))])) _
        refine XS.goto X204.here hx rfl (pc0 := 152) (pc' := 156) rfl (hb hby at_152) (by decide) (by decide) ?_
        show Steps p.tables e below (T204.setTop (mkF m 156 #[.val (.int p1), .val (.int p2), .val (.int p3), .val (.int (5 : Int32)), .val (.ref b1), .val (.int (4 : Int32)), .val (.ref bx161)] [(.int (1 : Int32))])) _
        exact retN X204 hx (t := .boolean) Bd.returns (by simp) (hb hby at_156) hr
      · show Q0 n0 _ T204.heap _
        rw [r204]
        exact ⟨rfl, N204⟩
  · have R205 : ∀ tg, Steps p.tables e below (T7.setTop (mkF m 29 #[.val (.int p1), .val (.int p2), .val (.int p3), .val (.int (6 : Int32)), .val (.ref b1), .unset, .unset] [])) tg → Steps p.tables e below (T7.setTop (mkF m 29 #[.val (.int p1), .val (.int p2), .val (.int p3), .val (.int ((1 : Int32) + ((p1 &&& (2147483647 : Int32)) % (6 : Int32)))), .val (.ref b1), .unset, .unset] [])) tg := fun tg kt => by rw [hk9]; exact kt
    have f206 := ((f3.keep kp4 all0).keep kp7 (allS (f5.2.2.2.2.2.2.2.2.2.1) (allS (f5.2.2.2.2.2.2.2.2.2.2.1) (allS (f5.2.2.2.2.2.2.2.2.2.2.2.1) all0))))
    obtain ⟨_, _, ⟨T207, L207, k207, n207⟩, -, X207, ⟨Lc207, hQ207, l207, y207, z207⟩, st207⟩ := Jvm.LawKit.callS X7 hx (y := (⟨"java/lang/Integer", "valueOf", "(I)Ljava/lang/Integer;"⟩ : MethodName)) hown (mvT hZ (hw _ (List.mem_of_getElem? (i := 30) rfl))) (mvT hZ (hw _ (List.mem_of_getElem? (i := 31) rfl))) (mvT hZ (hw _ (List.mem_of_getElem? (i := 32) rfl))) (mvT hZ (hw _ (List.mem_of_getElem? (i := 33) rfl))) (by decide) (backOf (W := 1) (rmIV l Z a0 hw [] (p2 + (1 : Int32)) ca cc T7.heap n0 Z7 f206 hS0 hS1 hB1) hZ (hw _ (List.mem_of_getElem? (i := 33) rfl)) (hw _ (List.mem_of_getElem? (i := 32) rfl)) (by decide) (by decide)) (g := (mkF m 39 #[.val (.int p1), .val (.int p2), .val (.int p3), .val (.int (6 : Int32)), .val (.ref b1), .unset, .unset] [(.int (p2 + (1 : Int32))), (.ref b1)])) rfl (by rw [hml]; rfl) (argsL := [(.int (p2 + (1 : Int32)))]) (rest := [(.ref b1)]) (lenOf pd_4 rfl) rfl (by show 2 * 0 + _ ≤ _; exact Nat.le_of_eq rfl) (hb hby at_39) (fun _ _ => ⟨rfl, rfl, (by decide : 4 + 1 ≤ _), (by decide : 9 + 1 ≤ _)⟩)
    dsimp only [Pt.U, Pt.locs, Pt.cells, Pt.slots] at X207 l207 y207 z207 st207 hQ207
    subst l207 y207 z207
    obtain ⟨bx207, hv207, N207q, kp207, EB207, FB207⟩ := hQ207
    subst hv207
    have N207 := Fr.app N7 N207q
    have Z207 : n0 ≤ T207.heap.size := Nat.le_trans Z7 kp207.1
    have f208 := (CLs.keep hC7' kp207)
    have f209 := ((EB4.keep kp7).keep kp207)
    have nq211_bx207_b1 : bx207 ≠ b1 := ne_exa EB207 f208.1 (by decide)
    have nq211_bx207_ch2 : bx207 ≠ ch2 := own_ne_arv EB207 (hw _ (List.mem_of_getElem? (i := 70) rfl)) f208.2.2.2.2.1
    have nq211_bx207_ea2 : bx207 ≠ ea2 := own_ne_arv EB207 (hw _ (List.mem_of_getElem? (i := 70) rfl)) f208.2.2.2.2.2.1
    obtain ⟨cq212, kq212, q212a, q212b, q212c⟩ := isOf hZ rfl f208.1
    obtain ⟨_, _, ⟨T212, L212, k212, n212⟩, -, X212, ⟨Lc212, hQ212, l212, y212, z212⟩, st212⟩ := X207.virtualBack hx (y := (⟨"com/example/anchored_threads/anchoredthreads/internal/ChunkedList", "add", "(Ljava/lang/Object;)Z"⟩ : MethodName)) (z := (⟨"com/example/anchored_threads/anchoredthreads/internal/ChunkedList", "add", "(Ljava/lang/Object;)Z"⟩ : MethodName)) hown (mvT hZ (hw _ (List.mem_of_getElem? (i := 37) rfl))) (mvT hZ (hw _ (List.mem_of_getElem? (i := 38) rfl))) (notFace_of_selects (args := #[]) (mvT hZ (hw _ (List.mem_of_getElem? (i := 40) rfl)))) (mvT hZ (hw _ (List.mem_of_getElem? (i := 40) rfl))) (mvT hZ (hw _ (List.mem_of_getElem? (i := 39) rfl))) (by decide) (backOf (W := 0) (rmAd l Z a0 hw [] b1 bx207 ch2 ea2 kc2 ke2 (1 : Int32) mc7 (4 : Int32) [(.ref bx4), .null, .null, .null] 1 T207.heap n0 Z207 f208 EB207 (by decide) (by decide) (by decide) ⟨by decide, by decide⟩ rfl (Nat.le_of_ble_eq_true rfl)) hZ (hw _ (List.mem_of_getElem? (i := 41) rfl)) (hw _ (List.mem_of_getElem? (i := 3) rfl)) (by decide) (by decide)) q212a q212c (g := (mkF m 42 #[.val (.int p1), .val (.int p2), .val (.int p3), .val (.int (6 : Int32)), .val (.ref b1), .unset, .unset] [(.ref bx207), (.ref b1)])) rfl (by rw [hml]; rfl) (Steps.refl _) (argsL := [(.ref bx207)]) (rest := []) (lenOf pd_5 rfl) rfl (by show 2 * 0 + _ ≤ _; exact Nat.le_of_eq rfl) (hb hby at_42) (fun _ _ => ⟨rfl, rfl, (by decide : 5 + 0 ≤ _), (by decide : 10 + 0 ≤ _)⟩)
    dsimp only [Pt.U, Pt.locs, Pt.cells, Pt.slots] at X212 l212 y212 z212 st212 hQ212
    subst l212 y212 z212
    obtain ⟨hv212, N212q, kp212, mc212, hC212⟩ := hQ212
    subst hv212
    have N212 := Fr.app N207 N212q
    have Z212 : n0 ≤ T212.heap.size := Nat.le_trans Z207 kp212.1
    have hC212' : CLs Z n0 T212.heap b1 ch2 ea2 kc2 ke2 (2 : Int32) mc212 (4 : Int32) [(.ref bx4), (.ref bx207), .null, .null] := by
      have q := hC212
      rw [show ((1 : Int32) + 1) = (2 : Int32) from by decide] at q
      exact q
    have f213 := ((f206.keep kp207 all0).keep kp212 (allS (f208.2.2.2.2.2.2.2.2.2.1) (allS (f208.2.2.2.2.2.2.2.2.2.2.1) (allS (f208.2.2.2.2.2.2.2.2.2.2.2.1) all0))))
    obtain ⟨_, _, ⟨T214, L214, k214, n214⟩, -, X214, ⟨Lc214, hQ214, l214, y214, z214⟩, st214⟩ := Jvm.LawKit.callS X212 hx (y := (⟨"java/lang/Integer", "valueOf", "(I)Ljava/lang/Integer;"⟩ : MethodName)) hown (mvT hZ (hw _ (List.mem_of_getElem? (i := 30) rfl))) (mvT hZ (hw _ (List.mem_of_getElem? (i := 31) rfl))) (mvT hZ (hw _ (List.mem_of_getElem? (i := 32) rfl))) (mvT hZ (hw _ (List.mem_of_getElem? (i := 33) rfl))) (by decide) (backOf (W := 1) (rmIV l Z a0 hw [] (p2 + (2 : Int32)) ca cc T212.heap n0 Z212 f213 hS0 hS1 hB1) hZ (hw _ (List.mem_of_getElem? (i := 33) rfl)) (hw _ (List.mem_of_getElem? (i := 32) rfl)) (by decide) (by decide)) (g := (mkF m 56 #[.val (.int p1), .val (.int p2), .val (.int p3), .val (.int (6 : Int32)), .val (.ref b1), .unset, .unset] [(.int (p2 + (2 : Int32))), (.ref b1)])) rfl (by rw [hml]; rfl) (argsL := [(.int (p2 + (2 : Int32)))]) (rest := [(.ref b1)]) (lenOf pd_4 rfl) rfl (by show 2 * 0 + _ ≤ _; exact Nat.le_of_eq rfl) (hb hby at_56) (fun _ _ => ⟨rfl, rfl, (by decide : 5 + 1 ≤ _), (by decide : 10 + 1 ≤ _)⟩)
    dsimp only [Pt.U, Pt.locs, Pt.cells, Pt.slots] at X214 l214 y214 z214 st214 hQ214
    subst l214 y214 z214
    obtain ⟨bx214, hv214, N214q, kp214, EB214, FB214⟩ := hQ214
    subst hv214
    have N214 := Fr.app N212 N214q
    have Z214 : n0 ≤ T214.heap.size := Nat.le_trans Z212 kp214.1
    have f215 := (CLs.keep hC212' kp214)
    have f216 := ((f209.keep kp212).keep kp214)
    have f218 := ((EB207.keep kp212).keep kp214)
    have nq220_bx214_b1 : bx214 ≠ b1 := ne_exa EB214 f215.1 (by decide)
    have nq220_bx214_ch2 : bx214 ≠ ch2 := own_ne_arv EB214 (hw _ (List.mem_of_getElem? (i := 70) rfl)) f215.2.2.2.2.1
    have nq220_bx214_ea2 : bx214 ≠ ea2 := own_ne_arv EB214 (hw _ (List.mem_of_getElem? (i := 70) rfl)) f215.2.2.2.2.2.1
    obtain ⟨cq221, kq221, q221a, q221b, q221c⟩ := isOf hZ rfl f215.1
    obtain ⟨_, _, ⟨T221, L221, k221, n221⟩, -, X221, ⟨Lc221, hQ221, l221, y221, z221⟩, st221⟩ := X214.virtualBack hx (y := (⟨"com/example/anchored_threads/anchoredthreads/internal/ChunkedList", "add", "(Ljava/lang/Object;)Z"⟩ : MethodName)) (z := (⟨"com/example/anchored_threads/anchoredthreads/internal/ChunkedList", "add", "(Ljava/lang/Object;)Z"⟩ : MethodName)) hown (mvT hZ (hw _ (List.mem_of_getElem? (i := 37) rfl))) (mvT hZ (hw _ (List.mem_of_getElem? (i := 38) rfl))) (notFace_of_selects (args := #[]) (mvT hZ (hw _ (List.mem_of_getElem? (i := 40) rfl)))) (mvT hZ (hw _ (List.mem_of_getElem? (i := 40) rfl))) (mvT hZ (hw _ (List.mem_of_getElem? (i := 39) rfl))) (by decide) (backOf (W := 0) (rmAd l Z a0 hw [] b1 bx214 ch2 ea2 kc2 ke2 (2 : Int32) mc212 (4 : Int32) [(.ref bx4), (.ref bx207), .null, .null] 2 T214.heap n0 Z214 f215 EB214 (by decide) (by decide) (by decide) ⟨by decide, by decide⟩ rfl (Nat.le_of_ble_eq_true rfl)) hZ (hw _ (List.mem_of_getElem? (i := 41) rfl)) (hw _ (List.mem_of_getElem? (i := 3) rfl)) (by decide) (by decide)) q221a q221c (g := (mkF m 59 #[.val (.int p1), .val (.int p2), .val (.int p3), .val (.int (6 : Int32)), .val (.ref b1), .unset, .unset] [(.ref bx214), (.ref b1)])) rfl (by rw [hml]; rfl) (Steps.refl _) (argsL := [(.ref bx214)]) (rest := []) (lenOf pd_5 rfl) rfl (by show 2 * 0 + _ ≤ _; exact Nat.le_of_eq rfl) (hb hby at_59) (fun _ _ => ⟨rfl, rfl, (by decide : 6 + 0 ≤ _), (by decide : 11 + 0 ≤ _)⟩)
    dsimp only [Pt.U, Pt.locs, Pt.cells, Pt.slots] at X221 l221 y221 z221 st221 hQ221
    subst l221 y221 z221
    obtain ⟨hv221, N221q, kp221, mc221, hC221⟩ := hQ221
    subst hv221
    have N221 := Fr.app N214 N221q
    have Z221 : n0 ≤ T221.heap.size := Nat.le_trans Z214 kp221.1
    have hC221' : CLs Z n0 T221.heap b1 ch2 ea2 kc2 ke2 (3 : Int32) mc221 (4 : Int32) [(.ref bx4), (.ref bx207), (.ref bx214), .null] := by
      have q := hC221
      rw [show ((2 : Int32) + 1) = (3 : Int32) from by decide] at q
      exact q
    have f222 := ((f213.keep kp214 all0).keep kp221 (allS (f215.2.2.2.2.2.2.2.2.2.1) (allS (f215.2.2.2.2.2.2.2.2.2.2.1) (allS (f215.2.2.2.2.2.2.2.2.2.2.2.1) all0))))
    obtain ⟨_, _, ⟨T223, L223, k223, n223⟩, -, X223, ⟨Lc223, hQ223, l223, y223, z223⟩, st223⟩ := Jvm.LawKit.callS X221 hx (y := (⟨"java/lang/Integer", "valueOf", "(I)Ljava/lang/Integer;"⟩ : MethodName)) hown (mvT hZ (hw _ (List.mem_of_getElem? (i := 30) rfl))) (mvT hZ (hw _ (List.mem_of_getElem? (i := 31) rfl))) (mvT hZ (hw _ (List.mem_of_getElem? (i := 32) rfl))) (mvT hZ (hw _ (List.mem_of_getElem? (i := 33) rfl))) (by decide) (backOf (W := 1) (rmIV l Z a0 hw [] (p2 + (3 : Int32)) ca cc T221.heap n0 Z221 f222 hS0 hS1 hB1) hZ (hw _ (List.mem_of_getElem? (i := 33) rfl)) (hw _ (List.mem_of_getElem? (i := 32) rfl)) (by decide) (by decide)) (g := (mkF m 73 #[.val (.int p1), .val (.int p2), .val (.int p3), .val (.int (6 : Int32)), .val (.ref b1), .unset, .unset] [(.int (p2 + (3 : Int32))), (.ref b1)])) rfl (by rw [hml]; rfl) (argsL := [(.int (p2 + (3 : Int32)))]) (rest := [(.ref b1)]) (lenOf pd_4 rfl) rfl (by show 2 * 0 + _ ≤ _; exact Nat.le_of_eq rfl) (hb hby at_73) (fun _ _ => ⟨rfl, rfl, (by decide : 6 + 1 ≤ _), (by decide : 11 + 1 ≤ _)⟩)
    dsimp only [Pt.U, Pt.locs, Pt.cells, Pt.slots] at X223 l223 y223 z223 st223 hQ223
    subst l223 y223 z223
    obtain ⟨bx223, hv223, N223q, kp223, EB223, FB223⟩ := hQ223
    subst hv223
    have N223 := Fr.app N221 N223q
    have Z223 : n0 ≤ T223.heap.size := Nat.le_trans Z221 kp223.1
    have f224 := (CLs.keep hC221' kp223)
    have f225 := ((f216.keep kp221).keep kp223)
    have f227 := ((f218.keep kp221).keep kp223)
    have f229 := ((EB214.keep kp221).keep kp223)
    have nq231_bx223_b1 : bx223 ≠ b1 := ne_exa EB223 f224.1 (by decide)
    have nq231_bx223_ch2 : bx223 ≠ ch2 := own_ne_arv EB223 (hw _ (List.mem_of_getElem? (i := 70) rfl)) f224.2.2.2.2.1
    have nq231_bx223_ea2 : bx223 ≠ ea2 := own_ne_arv EB223 (hw _ (List.mem_of_getElem? (i := 70) rfl)) f224.2.2.2.2.2.1
    obtain ⟨cq232, kq232, q232a, q232b, q232c⟩ := isOf hZ rfl f224.1
    obtain ⟨_, _, ⟨T232, L232, k232, n232⟩, -, X232, ⟨Lc232, hQ232, l232, y232, z232⟩, st232⟩ := X223.virtualBack hx (y := (⟨"com/example/anchored_threads/anchoredthreads/internal/ChunkedList", "add", "(Ljava/lang/Object;)Z"⟩ : MethodName)) (z := (⟨"com/example/anchored_threads/anchoredthreads/internal/ChunkedList", "add", "(Ljava/lang/Object;)Z"⟩ : MethodName)) hown (mvT hZ (hw _ (List.mem_of_getElem? (i := 37) rfl))) (mvT hZ (hw _ (List.mem_of_getElem? (i := 38) rfl))) (notFace_of_selects (args := #[]) (mvT hZ (hw _ (List.mem_of_getElem? (i := 40) rfl)))) (mvT hZ (hw _ (List.mem_of_getElem? (i := 40) rfl))) (mvT hZ (hw _ (List.mem_of_getElem? (i := 39) rfl))) (by decide) (backOf (W := 0) (rmAd l Z a0 hw [] b1 bx223 ch2 ea2 kc2 ke2 (3 : Int32) mc221 (4 : Int32) [(.ref bx4), (.ref bx207), (.ref bx214), .null] 3 T223.heap n0 Z223 f224 EB223 (by decide) (by decide) (by decide) ⟨by decide, by decide⟩ rfl (Nat.le_of_ble_eq_true rfl)) hZ (hw _ (List.mem_of_getElem? (i := 41) rfl)) (hw _ (List.mem_of_getElem? (i := 3) rfl)) (by decide) (by decide)) q232a q232c (g := (mkF m 76 #[.val (.int p1), .val (.int p2), .val (.int p3), .val (.int (6 : Int32)), .val (.ref b1), .unset, .unset] [(.ref bx223), (.ref b1)])) rfl (by rw [hml]; rfl) (Steps.refl _) (argsL := [(.ref bx223)]) (rest := []) (lenOf pd_5 rfl) rfl (by show 2 * 0 + _ ≤ _; exact Nat.le_of_eq rfl) (hb hby at_76) (fun _ _ => ⟨rfl, rfl, (by decide : 7 + 0 ≤ _), (by decide : 12 + 0 ≤ _)⟩)
    dsimp only [Pt.U, Pt.locs, Pt.cells, Pt.slots] at X232 l232 y232 z232 st232 hQ232
    subst l232 y232 z232
    obtain ⟨hv232, N232q, kp232, mc232, hC232⟩ := hQ232
    subst hv232
    have N232 := Fr.app N223 N232q
    have Z232 : n0 ≤ T232.heap.size := Nat.le_trans Z223 kp232.1
    have hC232' : CLs Z n0 T232.heap b1 ch2 ea2 kc2 ke2 (4 : Int32) mc232 (4 : Int32) [(.ref bx4), (.ref bx207), (.ref bx214), (.ref bx223)] := by
      have q := hC232
      rw [show ((3 : Int32) + 1) = (4 : Int32) from by decide] at q
      exact q
    have f233 := ((f222.keep kp223 all0).keep kp232 (allS (f224.2.2.2.2.2.2.2.2.2.1) (allS (f224.2.2.2.2.2.2.2.2.2.2.1) (allS (f224.2.2.2.2.2.2.2.2.2.2.2.1) all0))))
    obtain ⟨_, _, ⟨T234, L234, k234, n234⟩, -, X234, ⟨Lc234, hQ234, l234, y234, z234⟩, st234⟩ := Jvm.LawKit.callS X232 hx (y := (⟨"java/lang/Integer", "valueOf", "(I)Ljava/lang/Integer;"⟩ : MethodName)) hown (mvT hZ (hw _ (List.mem_of_getElem? (i := 30) rfl))) (mvT hZ (hw _ (List.mem_of_getElem? (i := 31) rfl))) (mvT hZ (hw _ (List.mem_of_getElem? (i := 32) rfl))) (mvT hZ (hw _ (List.mem_of_getElem? (i := 33) rfl))) (by decide) (backOf (W := 1) (rmIV l Z a0 hw [] (p2 + (4 : Int32)) ca cc T232.heap n0 Z232 f233 hS0 hS1 hB1) hZ (hw _ (List.mem_of_getElem? (i := 33) rfl)) (hw _ (List.mem_of_getElem? (i := 32) rfl)) (by decide) (by decide)) (g := (mkF m 90 #[.val (.int p1), .val (.int p2), .val (.int p3), .val (.int (6 : Int32)), .val (.ref b1), .unset, .unset] [(.int (p2 + (4 : Int32))), (.ref b1)])) rfl (by rw [hml]; rfl) (argsL := [(.int (p2 + (4 : Int32)))]) (rest := [(.ref b1)]) (lenOf pd_4 rfl) rfl (by show 2 * 0 + _ ≤ _; exact Nat.le_of_eq rfl) (hb hby at_90) (fun _ _ => ⟨rfl, rfl, (by decide : 7 + 1 ≤ _), (by decide : 12 + 1 ≤ _)⟩)
    dsimp only [Pt.U, Pt.locs, Pt.cells, Pt.slots] at X234 l234 y234 z234 st234 hQ234
    subst l234 y234 z234
    obtain ⟨bx234, hv234, N234q, kp234, EB234, FB234⟩ := hQ234
    subst hv234
    have N234 := Fr.app N232 N234q
    have Z234 : n0 ≤ T234.heap.size := Nat.le_trans Z232 kp234.1
    have f235 := (CLs.keep hC232' kp234)
    have f236 := ((f225.keep kp232).keep kp234)
    have f238 := ((f227.keep kp232).keep kp234)
    have f240 := ((f229.keep kp232).keep kp234)
    have f242 := ((EB223.keep kp232).keep kp234)
    have nq244_bx234_b1 : bx234 ≠ b1 := ne_exa EB234 f235.1 (by decide)
    have nq244_bx234_ch2 : bx234 ≠ ch2 := own_ne_arv EB234 (hw _ (List.mem_of_getElem? (i := 70) rfl)) f235.2.2.2.2.1
    have nq244_bx234_ea2 : bx234 ≠ ea2 := own_ne_arv EB234 (hw _ (List.mem_of_getElem? (i := 70) rfl)) f235.2.2.2.2.2.1
    obtain ⟨cq245, kq245, q245a, q245b, q245c⟩ := isOf hZ rfl f235.1
    obtain ⟨_, _, ⟨T245, L245, k245, n245⟩, -, X245, ⟨Lc245, hQ245, l245, y245, z245⟩, st245⟩ := X234.virtualBack hx (y := (⟨"com/example/anchored_threads/anchoredthreads/internal/ChunkedList", "add", "(Ljava/lang/Object;)Z"⟩ : MethodName)) (z := (⟨"com/example/anchored_threads/anchoredthreads/internal/ChunkedList", "add", "(Ljava/lang/Object;)Z"⟩ : MethodName)) hown (mvT hZ (hw _ (List.mem_of_getElem? (i := 37) rfl))) (mvT hZ (hw _ (List.mem_of_getElem? (i := 38) rfl))) (notFace_of_selects (args := #[]) (mvT hZ (hw _ (List.mem_of_getElem? (i := 40) rfl)))) (mvT hZ (hw _ (List.mem_of_getElem? (i := 40) rfl))) (mvT hZ (hw _ (List.mem_of_getElem? (i := 39) rfl))) (by decide) (backOf (W := 0) (rmGr l Z a0 hw [] b1 bx234 ch2 ea2 bx4 bx207 bx214 bx223 kc2 ke2 mc232 T234.heap n0 Z234 f235 EB234 f236 f238 f240 f242 hM) hZ (hw _ (List.mem_of_getElem? (i := 41) rfl)) (hw _ (List.mem_of_getElem? (i := 3) rfl)) (by decide) (by decide)) q245a q245c (g := (mkF m 93 #[.val (.int p1), .val (.int p2), .val (.int p3), .val (.int (6 : Int32)), .val (.ref b1), .unset, .unset] [(.ref bx234), (.ref b1)])) rfl (by rw [hml]; rfl) (Steps.refl _) (argsL := [(.ref bx234)]) (rest := []) (lenOf pd_5 rfl) rfl (by show 2 * 0 + _ ≤ _; exact Nat.le_of_eq rfl) (hb hby at_93) (fun _ _ => ⟨rfl, rfl, (by decide : 8 + 1 ≤ _), (by decide : 13 + 8 ≤ _)⟩)
    dsimp only [Pt.U, Pt.locs, Pt.cells, Pt.slots] at X245 l245 y245 z245 st245 hQ245
    subst l245 y245 z245
    obtain ⟨hv245, N245q, kp245, ea245, ke245, mc245, hC245⟩ := hQ245
    subst hv245
    have N245 := Fr.app N234 N245q
    have Z245 : n0 ≤ T245.heap.size := Nat.le_trans Z234 kp245.1
    have f246 := ((f233.keep kp234 all0).keep kp245 (allS (f235.2.2.2.2.2.2.2.2.2.1) (allS (f235.2.2.2.2.2.2.2.2.2.2.1) (allS (f235.2.2.2.2.2.2.2.2.2.2.2.1) all0))))
    obtain ⟨_, _, ⟨T247, L247, k247, n247⟩, -, X247, ⟨Lc247, hQ247, l247, y247, z247⟩, st247⟩ := Jvm.LawKit.callS X245 hx (y := (⟨"java/lang/Integer", "valueOf", "(I)Ljava/lang/Integer;"⟩ : MethodName)) hown (mvT hZ (hw _ (List.mem_of_getElem? (i := 30) rfl))) (mvT hZ (hw _ (List.mem_of_getElem? (i := 31) rfl))) (mvT hZ (hw _ (List.mem_of_getElem? (i := 32) rfl))) (mvT hZ (hw _ (List.mem_of_getElem? (i := 33) rfl))) (by decide) (backOf (W := 1) (rmIV l Z a0 hw [] (p2 + (5 : Int32)) ca cc T245.heap n0 Z245 f246 hS0 hS1 hB1) hZ (hw _ (List.mem_of_getElem? (i := 33) rfl)) (hw _ (List.mem_of_getElem? (i := 32) rfl)) (by decide) (by decide)) (g := (mkF m 107 #[.val (.int p1), .val (.int p2), .val (.int p3), .val (.int (6 : Int32)), .val (.ref b1), .unset, .unset] [(.int (p2 + (5 : Int32))), (.ref b1)])) rfl (by rw [hml]; rfl) (argsL := [(.int (p2 + (5 : Int32)))]) (rest := [(.ref b1)]) (lenOf pd_4 rfl) rfl (by show 2 * 0 + _ ≤ _; exact Nat.le_of_eq rfl) (hb hby at_107) (fun _ _ => ⟨rfl, rfl, (by decide : 9 + 1 ≤ _), (by decide : 21 + 1 ≤ _)⟩)
    dsimp only [Pt.U, Pt.locs, Pt.cells, Pt.slots] at X247 l247 y247 z247 st247 hQ247
    subst l247 y247 z247
    obtain ⟨bx247, hv247, N247q, kp247, EB247, FB247⟩ := hQ247
    subst hv247
    have N247 := Fr.app N245 N247q
    have Z247 : n0 ≤ T247.heap.size := Nat.le_trans Z245 kp247.1
    have f248 := (CLs.keep hC245 kp247)
    have f249 := ((f236.keep kp245).keep kp247)
    have nq250_bx4_ea245 : bx4 ≠ ea245 := own_ne_arv f249 (hw _ (List.mem_of_getElem? (i := 70) rfl)) f248.2.2.2.2.2.1
    have f251 := ((f238.keep kp245).keep kp247)
    have nq252_bx207_ea245 : bx207 ≠ ea245 := own_ne_arv f251 (hw _ (List.mem_of_getElem? (i := 70) rfl)) f248.2.2.2.2.2.1
    have f253 := ((f240.keep kp245).keep kp247)
    have nq254_bx214_ea245 : bx214 ≠ ea245 := own_ne_arv f253 (hw _ (List.mem_of_getElem? (i := 70) rfl)) f248.2.2.2.2.2.1
    have f255 := ((f242.keep kp245).keep kp247)
    have nq256_bx223_ea245 : bx223 ≠ ea245 := own_ne_arv f255 (hw _ (List.mem_of_getElem? (i := 70) rfl)) f248.2.2.2.2.2.1
    have f257 := ((EB234.keep kp245).keep kp247)
    have nq258_bx234_ea245 : bx234 ≠ ea245 := own_ne_arv f257 (hw _ (List.mem_of_getElem? (i := 70) rfl)) f248.2.2.2.2.2.1
    have nq259_bx247_b1 : bx247 ≠ b1 := ne_exa EB247 f248.1 (by decide)
    have nq259_bx247_ch2 : bx247 ≠ ch2 := own_ne_arv EB247 (hw _ (List.mem_of_getElem? (i := 70) rfl)) f248.2.2.2.2.1
    have nq259_bx247_ea245 : bx247 ≠ ea245 := own_ne_arv EB247 (hw _ (List.mem_of_getElem? (i := 70) rfl)) f248.2.2.2.2.2.1
    obtain ⟨cq260, kq260, q260a, q260b, q260c⟩ := isOf hZ rfl f248.1
    obtain ⟨_, _, ⟨T260, L260, k260, n260⟩, -, X260, ⟨Lc260, hQ260, l260, y260, z260⟩, st260⟩ := X247.virtualBack hx (y := (⟨"com/example/anchored_threads/anchoredthreads/internal/ChunkedList", "add", "(Ljava/lang/Object;)Z"⟩ : MethodName)) (z := (⟨"com/example/anchored_threads/anchoredthreads/internal/ChunkedList", "add", "(Ljava/lang/Object;)Z"⟩ : MethodName)) hown (mvT hZ (hw _ (List.mem_of_getElem? (i := 37) rfl))) (mvT hZ (hw _ (List.mem_of_getElem? (i := 38) rfl))) (notFace_of_selects (args := #[]) (mvT hZ (hw _ (List.mem_of_getElem? (i := 40) rfl)))) (mvT hZ (hw _ (List.mem_of_getElem? (i := 40) rfl))) (mvT hZ (hw _ (List.mem_of_getElem? (i := 39) rfl))) (by decide) (backOf (W := 0) (rmAd l Z a0 hw [] b1 bx247 ch2 ea245 kc2 ke245 (5 : Int32) mc245 (8 : Int32) [(.ref bx4), (.ref bx207), (.ref bx214), (.ref bx223), (.ref bx234), .null, .null, .null] 5 T247.heap n0 Z247 f248 EB247 (by decide) (by decide) (by decide) ⟨by decide, by decide⟩ rfl (Nat.le_of_ble_eq_true rfl)) hZ (hw _ (List.mem_of_getElem? (i := 41) rfl)) (hw _ (List.mem_of_getElem? (i := 3) rfl)) (by decide) (by decide)) q260a q260c (g := (mkF m 110 #[.val (.int p1), .val (.int p2), .val (.int p3), .val (.int (6 : Int32)), .val (.ref b1), .unset, .unset] [(.ref bx247), (.ref b1)])) rfl (by rw [hml]; rfl) (Steps.refl _) (argsL := [(.ref bx247)]) (rest := []) (lenOf pd_5 rfl) rfl (by show 2 * 0 + _ ≤ _; exact Nat.le_of_eq rfl) (hb hby at_110) (fun _ _ => ⟨rfl, rfl, (by decide : 10 + 0 ≤ _), (by decide : 22 + 0 ≤ _)⟩)
    dsimp only [Pt.U, Pt.locs, Pt.cells, Pt.slots] at X260 l260 y260 z260 st260 hQ260
    subst l260 y260 z260
    obtain ⟨hv260, N260q, kp260, mc260, hC260⟩ := hQ260
    subst hv260
    have N260 := Fr.app N247 N260q
    have Z260 : n0 ≤ T260.heap.size := Nat.le_trans Z247 kp260.1
    have hC260' : CLs Z n0 T260.heap b1 ch2 ea245 kc2 ke245 (6 : Int32) mc260 (8 : Int32) [(.ref bx4), (.ref bx207), (.ref bx214), (.ref bx223), (.ref bx234), (.ref bx247), .null, .null] := by
      have q := hC260
      rw [show ((5 : Int32) + 1) = (6 : Int32) from by decide] at q
      exact q
    have R261 : ∀ tg, Steps p.tables e below (T260.setTop (mkF m 122 #[.val (.int p1), .val (.int p2), .val (.int p3), .val (.int (6 : Int32)), .val (.ref b1), .val (.int ((p3 &&& (2147483647 : Int32)) % (6 : Int32))), .unset] [])) tg → Steps p.tables e below (T7.setTop (mkF m 29 #[.val (.int p1), .val (.int p2), .val (.int p3), .val (.int (6 : Int32)), .val (.ref b1), .unset, .unset] [])) tg := by
      intro tg kt
      refine XS.iloadN X7.here hx rfl (hb hby at_29) rfl ?_
      show Steps p.tables e below (T7.setTop (mkF m 30 #[.val (.int p1), .val (.int p2), .val (.int p3), .val (.int (6 : Int32)), .val (.ref b1), .unset, .unset] [(.int (6 : Int32))])) _
      refine XS.iconst X7.here hx rfl (hb hby at_30) ?_
      show Steps p.tables e below (T7.setTop (mkF m 31 #[.val (.int p1), .val (.int p2), .val (.int p3), .val (.int (6 : Int32)), .val (.ref b1), .unset, .unset] [(.int (1 : Int32)), (.int (6 : Int32))])) _
      refine XS.icmpNo X7.here hx rfl (hb hby at_31) rfl (tlt (by decide : (1 : Int32) < (6 : Int32))).2.2.2 ?_
      show Steps p.tables e below (T7.setTop (mkF m 34 #[.val (.int p1), .val (.int p2), .val (.int p3), .val (.int (6 : Int32)), .val (.ref b1), .unset, .unset] [])) _
      refine XS.aload X7.here hx rfl (hb hby at_34) rfl rfl ?_
      show Steps p.tables e below (T7.setTop (mkF m 36 #[.val (.int p1), .val (.int p2), .val (.int p3), .val (.int (6 : Int32)), .val (.ref b1), .unset, .unset] [(.ref b1)])) _
      refine XS.iloadN X7.here hx rfl (hb hby at_36) rfl ?_
      show Steps p.tables e below (T7.setTop (mkF m 37 #[.val (.int p1), .val (.int p2), .val (.int p3), .val (.int (6 : Int32)), .val (.ref b1), .unset, .unset] [(.int p2), (.ref b1)])) _
      refine XS.iconst X7.here hx rfl (hb hby at_37) ?_
      show Steps p.tables e below (T7.setTop (mkF m 38 #[.val (.int p1), .val (.int p2), .val (.int p3), .val (.int (6 : Int32)), .val (.ref b1), .unset, .unset] [(.int (1 : Int32)), (.int p2), (.ref b1)])) _
      refine XS.iadd X7.here hx rfl (hb hby at_38) rfl ?_
      show Steps p.tables e below (T7.setTop (mkF m 39 #[.val (.int p1), .val (.int p2), .val (.int p3), .val (.int (6 : Int32)), .val (.ref b1), .unset, .unset] [(.int (p2 + (1 : Int32))), (.ref b1)])) _
      refine st207 _ ?_
      show Steps p.tables e below (T207.setTop (mkF m 42 #[.val (.int p1), .val (.int p2), .val (.int p3), .val (.int (6 : Int32)), .val (.ref b1), .unset, .unset] [(.ref bx207), (.ref b1)])) _
      refine st212.trans ?_
      show Steps p.tables e below (T212.setTop (mkF m 45 #[.val (.int p1), .val (.int p2), .val (.int p3), .val (.int (6 : Int32)), .val (.ref b1), .unset, .unset] [(.int (1 : Int32))])) _
      refine XS.pop X212.here hx rfl (hb hby at_45) rfl rfl ?_
      show Steps p.tables e below (T212.setTop (mkF m 46 #[.val (.int p1), .val (.int p2), .val (.int p3), .val (.int (6 : Int32)), .val (.ref b1), .unset, .unset] [])) _
      refine XS.iloadN X212.here hx rfl (hb hby at_46) rfl ?_
      show Steps p.tables e below (T212.setTop (mkF m 47 #[.val (.int p1), .val (.int p2), .val (.int p3), .val (.int (6 : Int32)), .val (.ref b1), .unset, .unset] [(.int (6 : Int32))])) _
      refine XS.iconst X212.here hx rfl (hb hby at_47) ?_
      show Steps p.tables e below (T212.setTop (mkF m 48 #[.val (.int p1), .val (.int p2), .val (.int p3), .val (.int (6 : Int32)), .val (.ref b1), .unset, .unset] [(.int (2 : Int32)), (.int (6 : Int32))])) _
      refine XS.icmpNo X212.here hx rfl (hb hby at_48) rfl (tlt (by decide : (2 : Int32) < (6 : Int32))).2.2.2 ?_
      show Steps p.tables e below (T212.setTop (mkF m 51 #[.val (.int p1), .val (.int p2), .val (.int p3), .val (.int (6 : Int32)), .val (.ref b1), .unset, .unset] [])) _
      refine XS.aload X212.here hx rfl (hb hby at_51) rfl rfl ?_
      show Steps p.tables e below (T212.setTop (mkF m 53 #[.val (.int p1), .val (.int p2), .val (.int p3), .val (.int (6 : Int32)), .val (.ref b1), .unset, .unset] [(.ref b1)])) _
      refine XS.iloadN X212.here hx rfl (hb hby at_53) rfl ?_
      show Steps p.tables e below (T212.setTop (mkF m 54 #[.val (.int p1), .val (.int p2), .val (.int p3), .val (.int (6 : Int32)), .val (.ref b1), .unset, .unset] [(.int p2), (.ref b1)])) _
      refine XS.iconst X212.here hx rfl (hb hby at_54) ?_
      show Steps p.tables e below (T212.setTop (mkF m 55 #[.val (.int p1), .val (.int p2), .val (.int p3), .val (.int (6 : Int32)), .val (.ref b1), .unset, .unset] [(.int (2 : Int32)), (.int p2), (.ref b1)])) _
      refine XS.iadd X212.here hx rfl (hb hby at_55) rfl ?_
      show Steps p.tables e below (T212.setTop (mkF m 56 #[.val (.int p1), .val (.int p2), .val (.int p3), .val (.int (6 : Int32)), .val (.ref b1), .unset, .unset] [(.int (p2 + (2 : Int32))), (.ref b1)])) _
      refine st214 _ ?_
      show Steps p.tables e below (T214.setTop (mkF m 59 #[.val (.int p1), .val (.int p2), .val (.int p3), .val (.int (6 : Int32)), .val (.ref b1), .unset, .unset] [(.ref bx214), (.ref b1)])) _
      refine st221.trans ?_
      show Steps p.tables e below (T221.setTop (mkF m 62 #[.val (.int p1), .val (.int p2), .val (.int p3), .val (.int (6 : Int32)), .val (.ref b1), .unset, .unset] [(.int (1 : Int32))])) _
      refine XS.pop X221.here hx rfl (hb hby at_62) rfl rfl ?_
      show Steps p.tables e below (T221.setTop (mkF m 63 #[.val (.int p1), .val (.int p2), .val (.int p3), .val (.int (6 : Int32)), .val (.ref b1), .unset, .unset] [])) _
      refine XS.iloadN X221.here hx rfl (hb hby at_63) rfl ?_
      show Steps p.tables e below (T221.setTop (mkF m 64 #[.val (.int p1), .val (.int p2), .val (.int p3), .val (.int (6 : Int32)), .val (.ref b1), .unset, .unset] [(.int (6 : Int32))])) _
      refine XS.iconst X221.here hx rfl (hb hby at_64) ?_
      show Steps p.tables e below (T221.setTop (mkF m 65 #[.val (.int p1), .val (.int p2), .val (.int p3), .val (.int (6 : Int32)), .val (.ref b1), .unset, .unset] [(.int (3 : Int32)), (.int (6 : Int32))])) _
      refine XS.icmpNo X221.here hx rfl (hb hby at_65) rfl (tlt (by decide : (3 : Int32) < (6 : Int32))).2.2.2 ?_
      show Steps p.tables e below (T221.setTop (mkF m 68 #[.val (.int p1), .val (.int p2), .val (.int p3), .val (.int (6 : Int32)), .val (.ref b1), .unset, .unset] [])) _
      refine XS.aload X221.here hx rfl (hb hby at_68) rfl rfl ?_
      show Steps p.tables e below (T221.setTop (mkF m 70 #[.val (.int p1), .val (.int p2), .val (.int p3), .val (.int (6 : Int32)), .val (.ref b1), .unset, .unset] [(.ref b1)])) _
      refine XS.iloadN X221.here hx rfl (hb hby at_70) rfl ?_
      show Steps p.tables e below (T221.setTop (mkF m 71 #[.val (.int p1), .val (.int p2), .val (.int p3), .val (.int (6 : Int32)), .val (.ref b1), .unset, .unset] [(.int p2), (.ref b1)])) _
      refine XS.iconst X221.here hx rfl (hb hby at_71) ?_
      show Steps p.tables e below (T221.setTop (mkF m 72 #[.val (.int p1), .val (.int p2), .val (.int p3), .val (.int (6 : Int32)), .val (.ref b1), .unset, .unset] [(.int (3 : Int32)), (.int p2), (.ref b1)])) _
      refine XS.iadd X221.here hx rfl (hb hby at_72) rfl ?_
      show Steps p.tables e below (T221.setTop (mkF m 73 #[.val (.int p1), .val (.int p2), .val (.int p3), .val (.int (6 : Int32)), .val (.ref b1), .unset, .unset] [(.int (p2 + (3 : Int32))), (.ref b1)])) _
      refine st223 _ ?_
      show Steps p.tables e below (T223.setTop (mkF m 76 #[.val (.int p1), .val (.int p2), .val (.int p3), .val (.int (6 : Int32)), .val (.ref b1), .unset, .unset] [(.ref bx223), (.ref b1)])) _
      refine st232.trans ?_
      show Steps p.tables e below (T232.setTop (mkF m 79 #[.val (.int p1), .val (.int p2), .val (.int p3), .val (.int (6 : Int32)), .val (.ref b1), .unset, .unset] [(.int (1 : Int32))])) _
      refine XS.pop X232.here hx rfl (hb hby at_79) rfl rfl ?_
      show Steps p.tables e below (T232.setTop (mkF m 80 #[.val (.int p1), .val (.int p2), .val (.int p3), .val (.int (6 : Int32)), .val (.ref b1), .unset, .unset] [])) _
      refine XS.iloadN X232.here hx rfl (hb hby at_80) rfl ?_
      show Steps p.tables e below (T232.setTop (mkF m 81 #[.val (.int p1), .val (.int p2), .val (.int p3), .val (.int (6 : Int32)), .val (.ref b1), .unset, .unset] [(.int (6 : Int32))])) _
      refine XS.iconst X232.here hx rfl (hb hby at_81) ?_
      show Steps p.tables e below (T232.setTop (mkF m 82 #[.val (.int p1), .val (.int p2), .val (.int p3), .val (.int (6 : Int32)), .val (.ref b1), .unset, .unset] [(.int (4 : Int32)), (.int (6 : Int32))])) _
      refine XS.icmpNo X232.here hx rfl (hb hby at_82) rfl (tlt (by decide : (4 : Int32) < (6 : Int32))).2.2.2 ?_
      show Steps p.tables e below (T232.setTop (mkF m 85 #[.val (.int p1), .val (.int p2), .val (.int p3), .val (.int (6 : Int32)), .val (.ref b1), .unset, .unset] [])) _
      refine XS.aload X232.here hx rfl (hb hby at_85) rfl rfl ?_
      show Steps p.tables e below (T232.setTop (mkF m 87 #[.val (.int p1), .val (.int p2), .val (.int p3), .val (.int (6 : Int32)), .val (.ref b1), .unset, .unset] [(.ref b1)])) _
      refine XS.iloadN X232.here hx rfl (hb hby at_87) rfl ?_
      show Steps p.tables e below (T232.setTop (mkF m 88 #[.val (.int p1), .val (.int p2), .val (.int p3), .val (.int (6 : Int32)), .val (.ref b1), .unset, .unset] [(.int p2), (.ref b1)])) _
      refine XS.iconst X232.here hx rfl (hb hby at_88) ?_
      show Steps p.tables e below (T232.setTop (mkF m 89 #[.val (.int p1), .val (.int p2), .val (.int p3), .val (.int (6 : Int32)), .val (.ref b1), .unset, .unset] [(.int (4 : Int32)), (.int p2), (.ref b1)])) _
      refine XS.iadd X232.here hx rfl (hb hby at_89) rfl ?_
      show Steps p.tables e below (T232.setTop (mkF m 90 #[.val (.int p1), .val (.int p2), .val (.int p3), .val (.int (6 : Int32)), .val (.ref b1), .unset, .unset] [(.int (p2 + (4 : Int32))), (.ref b1)])) _
      refine st234 _ ?_
      show Steps p.tables e below (T234.setTop (mkF m 93 #[.val (.int p1), .val (.int p2), .val (.int p3), .val (.int (6 : Int32)), .val (.ref b1), .unset, .unset] [(.ref bx234), (.ref b1)])) _
      refine st245.trans ?_
      show Steps p.tables e below (T245.setTop (mkF m 96 #[.val (.int p1), .val (.int p2), .val (.int p3), .val (.int (6 : Int32)), .val (.ref b1), .unset, .unset] [(.int (1 : Int32))])) _
      refine XS.pop X245.here hx rfl (hb hby at_96) rfl rfl ?_
      show Steps p.tables e below (T245.setTop (mkF m 97 #[.val (.int p1), .val (.int p2), .val (.int p3), .val (.int (6 : Int32)), .val (.ref b1), .unset, .unset] [])) _
      refine XS.iloadN X245.here hx rfl (hb hby at_97) rfl ?_
      show Steps p.tables e below (T245.setTop (mkF m 98 #[.val (.int p1), .val (.int p2), .val (.int p3), .val (.int (6 : Int32)), .val (.ref b1), .unset, .unset] [(.int (6 : Int32))])) _
      refine XS.iconst X245.here hx rfl (hb hby at_98) ?_
      show Steps p.tables e below (T245.setTop (mkF m 99 #[.val (.int p1), .val (.int p2), .val (.int p3), .val (.int (6 : Int32)), .val (.ref b1), .unset, .unset] [(.int (5 : Int32)), (.int (6 : Int32))])) _
      refine XS.icmpNo X245.here hx rfl (hb hby at_99) rfl (tlt (by decide : (5 : Int32) < (6 : Int32))).2.2.2 ?_
      show Steps p.tables e below (T245.setTop (mkF m 102 #[.val (.int p1), .val (.int p2), .val (.int p3), .val (.int (6 : Int32)), .val (.ref b1), .unset, .unset] [])) _
      refine XS.aload X245.here hx rfl (hb hby at_102) rfl rfl ?_
      show Steps p.tables e below (T245.setTop (mkF m 104 #[.val (.int p1), .val (.int p2), .val (.int p3), .val (.int (6 : Int32)), .val (.ref b1), .unset, .unset] [(.ref b1)])) _
      refine XS.iloadN X245.here hx rfl (hb hby at_104) rfl ?_
      show Steps p.tables e below (T245.setTop (mkF m 105 #[.val (.int p1), .val (.int p2), .val (.int p3), .val (.int (6 : Int32)), .val (.ref b1), .unset, .unset] [(.int p2), (.ref b1)])) _
      refine XS.iconst X245.here hx rfl (hb hby at_105) ?_
      show Steps p.tables e below (T245.setTop (mkF m 106 #[.val (.int p1), .val (.int p2), .val (.int p3), .val (.int (6 : Int32)), .val (.ref b1), .unset, .unset] [(.int (5 : Int32)), (.int p2), (.ref b1)])) _
      refine XS.iadd X245.here hx rfl (hb hby at_106) rfl ?_
      show Steps p.tables e below (T245.setTop (mkF m 107 #[.val (.int p1), .val (.int p2), .val (.int p3), .val (.int (6 : Int32)), .val (.ref b1), .unset, .unset] [(.int (p2 + (5 : Int32))), (.ref b1)])) _
      refine st247 _ ?_
      show Steps p.tables e below (T247.setTop (mkF m 110 #[.val (.int p1), .val (.int p2), .val (.int p3), .val (.int (6 : Int32)), .val (.ref b1), .unset, .unset] [(.ref bx247), (.ref b1)])) _
      refine st260.trans ?_
      show Steps p.tables e below (T260.setTop (mkF m 113 #[.val (.int p1), .val (.int p2), .val (.int p3), .val (.int (6 : Int32)), .val (.ref b1), .unset, .unset] [(.int (1 : Int32))])) _
      refine XS.pop X260.here hx rfl (hb hby at_113) rfl rfl ?_
      show Steps p.tables e below (T260.setTop (mkF m 114 #[.val (.int p1), .val (.int p2), .val (.int p3), .val (.int (6 : Int32)), .val (.ref b1), .unset, .unset] [])) _
      refine XS.iloadN X260.here hx rfl (hb hby at_114) rfl ?_
      show Steps p.tables e below (T260.setTop (mkF m 115 #[.val (.int p1), .val (.int p2), .val (.int p3), .val (.int (6 : Int32)), .val (.ref b1), .unset, .unset] [(.int p3)])) _
      refine X260.ldcInt hx hown (mvT hZ (hw _ (List.mem_of_getElem? (i := 0) rfl))) (g := (mkF m 115 #[.val (.int p1), .val (.int p2), .val (.int p3), .val (.int (6 : Int32)), .val (.ref b1), .unset, .unset] [(.int p3)])) rfl (hb hby at_115) _ ?_
      show Steps p.tables e below (T260.setTop (mkF m 117 #[.val (.int p1), .val (.int p2), .val (.int p3), .val (.int (6 : Int32)), .val (.ref b1), .unset, .unset] [(.int (2147483647 : Int32)), (.int p3)])) _
      refine XS.iand X260.here hx rfl (hb hby at_117) rfl ?_
      show Steps p.tables e below (T260.setTop (mkF m 118 #[.val (.int p1), .val (.int p2), .val (.int p3), .val (.int (6 : Int32)), .val (.ref b1), .unset, .unset] [(.int (p3 &&& (2147483647 : Int32)))])) _
      refine XS.iloadN X260.here hx rfl (hb hby at_118) rfl ?_
      show Steps p.tables e below (T260.setTop (mkF m 119 #[.val (.int p1), .val (.int p2), .val (.int p3), .val (.int (6 : Int32)), .val (.ref b1), .unset, .unset] [(.int (6 : Int32)), (.int (p3 &&& (2147483647 : Int32)))])) _
      refine iremM (g := (mkF m 119 #[.val (.int p1), .val (.int p2), .val (.int p3), .val (.int (6 : Int32)), .val (.ref b1), .unset, .unset] [(.int (6 : Int32)), (.int (p3 &&& (2147483647 : Int32)))])) X260 hx rfl (hb hby at_119) rfl (by decide) ?_
      show Steps p.tables e below (T260.setTop (mkF m 120 #[.val (.int p1), .val (.int p2), .val (.int p3), .val (.int (6 : Int32)), .val (.ref b1), .unset, .unset] [(.int ((p3 &&& (2147483647 : Int32)) % (6 : Int32)))])) _
      refine XS.istore X260.here hx rfl (hb hby at_120) rfl (l' := #[.val (.int p1), .val (.int p2), .val (.int p3), .val (.int (6 : Int32)), .val (.ref b1), .val (.int ((p3 &&& (2147483647 : Int32)) % (6 : Int32))), .unset]) rfl ?_
      show Steps p.tables e below (T260.setTop (mkF m 122 #[.val (.int p1), .val (.int p2), .val (.int p3), .val (.int (6 : Int32)), .val (.ref b1), .val (.int ((p3 &&& (2147483647 : Int32)) % (6 : Int32))), .unset] [])) _
      exact kt
    rcases own_m6 p3 with hk262 | hk262 | hk262 | hk262 | hk262 | hk262
    · have R263 : ∀ tg, Steps p.tables e below (T260.setTop (mkF m 122 #[.val (.int p1), .val (.int p2), .val (.int p3), .val (.int (6 : Int32)), .val (.ref b1), .val (.int (0 : Int32)), .unset] [])) tg → Steps p.tables e below (T260.setTop (mkF m 122 #[.val (.int p1), .val (.int p2), .val (.int p3), .val (.int (6 : Int32)), .val (.ref b1), .val (.int ((p3 &&& (2147483647 : Int32)) % (6 : Int32))), .unset] [])) tg := fun tg kt => by rw [hk262]; exact kt
      obtain ⟨cq264, kq264, q264a, q264b, q264c⟩ := isOf hZ rfl hC260'.1
      obtain ⟨_, _, ⟨T264, L264, k264, n264⟩, -, X264, ⟨Lc264, hQ264, l264, y264, z264⟩, st264⟩ := X260.virtualBack hx (y := (⟨"com/example/anchored_threads/anchoredthreads/internal/ChunkedList", "get", "(I)Ljava/lang/Object;"⟩ : MethodName)) (z := (⟨"com/example/anchored_threads/anchoredthreads/internal/ChunkedList", "get", "(I)Ljava/lang/Object;"⟩ : MethodName)) hown (mvT hZ (hw _ (List.mem_of_getElem? (i := 47) rfl))) (mvT hZ (hw _ (List.mem_of_getElem? (i := 48) rfl))) (notFace_of_selects (args := #[]) (mvT hZ (hw _ (List.mem_of_getElem? (i := 50) rfl)))) (mvT hZ (hw _ (List.mem_of_getElem? (i := 50) rfl))) (mvT hZ (hw _ (List.mem_of_getElem? (i := 49) rfl))) (by decide) (backOf (W := 0) (rmGt l Z a0 hw [] b1 ch2 ea245 kc2 ke245 (6 : Int32) mc260 (8 : Int32) [(.ref bx4), (.ref bx207), (.ref bx214), (.ref bx223), (.ref bx234), (.ref bx247), .null, .null] (0 : Int32) bx4 T260.heap n0 Z260 hC260' (by decide) (by decide) (by decide) (by decide) ⟨by decide, by decide⟩ rfl) hZ (hw _ (List.mem_of_getElem? (i := 51) rfl)) (hw _ (List.mem_of_getElem? (i := 3) rfl)) (by decide) (by decide)) q264a q264c (g := (mkF m 126 #[.val (.int p1), .val (.int p2), .val (.int p3), .val (.int (6 : Int32)), .val (.ref b1), .val (.int (0 : Int32)), .unset] [(.int (0 : Int32)), (.ref b1)])) rfl (by rw [hml]; rfl) (Steps.refl _) (argsL := [(.int (0 : Int32))]) (rest := []) (lenOf pd_6 rfl) rfl (by show 2 * 0 + _ ≤ _; exact Nat.le_of_eq rfl) (hb hby at_126) (fun _ _ => ⟨rfl, rfl, (by decide : 10 + 0 ≤ _), (by decide : 22 + 0 ≤ _)⟩)
      dsimp only [Pt.U, Pt.locs, Pt.cells, Pt.slots] at X264 l264 y264 z264 st264 hQ264
      subst l264 y264 z264
      obtain ⟨hv264, N264q, r264⟩ := hQ264
      subst hv264
      have N264 := Fr.app N260 N264q
      have f265 := (f249.keep kp260)
      obtain ⟨T266, X266, e266, st266⟩ := castY X264 hx hZ hown (hw _ (List.mem_of_getElem? (i := 60) rfl)) r264 (Ins.self f265) (g := (mkF m 129 #[.val (.int p1), .val (.int p2), .val (.int p3), .val (.int (6 : Int32)), .val (.ref b1), .val (.int (0 : Int32)), .unset] [(.ref bx4)])) rfl rfl (hb hby at_129)
      have f267 := (((((((((((FB4.keep kp7 (ninS nq6_bx4_b1 (ninS nq6_bx4_ch2 (ninS nq6_bx4_ea2 nin0)))).keep kp207 nin0).keep kp212 (ninS nq6_bx4_b1 (ninS nq6_bx4_ch2 (ninS nq6_bx4_ea2 nin0)))).keep kp214 nin0).keep kp221 (ninS nq6_bx4_b1 (ninS nq6_bx4_ch2 (ninS nq6_bx4_ea2 nin0)))).keep kp223 nin0).keep kp232 (ninS nq6_bx4_b1 (ninS nq6_bx4_ch2 (ninS nq6_bx4_ea2 nin0)))).keep kp234 nin0).keep kp245 (ninS nq6_bx4_b1 (ninS nq6_bx4_ch2 (ninS nq6_bx4_ea2 nin0)))).keep kp247 nin0).keep kp260 (ninS nq6_bx4_b1 (ninS nq6_bx4_ch2 (ninS nq250_bx4_ea245 nin0))))
      obtain ⟨cq268, kq268, q268a, q268b, q268c⟩ := isOf hZ e266 f265
      obtain ⟨_, _, ⟨T268, L268, k268, n268⟩, -, X268, ⟨Lc268, hQ268, l268, y268, z268⟩, st268⟩ := X266.virtualBack hx (y := (⟨"java/lang/Integer", "intValue", "()I"⟩ : MethodName)) (z := (⟨"java/lang/Integer", "intValue", "()I"⟩ : MethodName)) hown (mvT hZ (hw _ (List.mem_of_getElem? (i := 62) rfl))) (mvT hZ (hw _ (List.mem_of_getElem? (i := 63) rfl))) (notFace_of_selects (args := #[]) (mvT hZ (hw _ (List.mem_of_getElem? (i := 65) rfl)))) (mvT hZ (hw _ (List.mem_of_getElem? (i := 65) rfl))) (mvT hZ (hw _ (List.mem_of_getElem? (i := 64) rfl))) (by decide) (backOf (W := 0) (rmIn l Z a0 hw [] bx4 p2 T260.heap n0 Z260 f267) hZ (hw _ (List.mem_of_getElem? (i := 66) rfl)) (hw _ (List.mem_of_getElem? (i := 32) rfl)) (by decide) (by decide)) q268a q268c (g := (mkF m 141 #[.val (.int p1), .val (.int p2), .val (.int p3), .val (.int (6 : Int32)), .val (.ref b1), .val (.int (0 : Int32)), .val (.ref bx4)] [(.ref bx4)])) rfl (by rw [hml]; rfl) (Steps.refl _) (argsL := []) (rest := []) (lenOf pd_7 rfl) rfl (by show 2 * 0 + _ ≤ _; exact Nat.le_of_eq rfl) (hb hby at_141) (fun _ _ => ⟨rfl, e266, (by decide : 10 + 0 ≤ _), (by decide : 22 + 0 ≤ _)⟩)
      dsimp only [Pt.U, Pt.locs, Pt.cells, Pt.slots] at X268 l268 y268 z268 st268 hQ268
      subst l268 y268 z268
      obtain ⟨hv268, N268q, r268⟩ := hQ268
      subst hv268
      have N268 := Fr.app N264 N268q
      obtain ⟨fs, hr, hrun, hended, hW, hsame⟩ := X268.leave (v := some (.int (1 : Int32))) (fun h => by rw [Bd.returns] at h; cases h)
      refine ⟨_, _, pre0 _ (R8 _ (R205 _ (R261 _ (R263 _ ?_)))), hrun, hended, _, _, rfl, ?_, ⟨_, rfl⟩, hW, hsame.mono (by decide) (by decide)⟩
      · show Steps p.tables e below (T260.setTop (mkF m 122 #[.val (.int p1), .val (.int p2), .val (.int p3), .val (.int (6 : Int32)), .val (.ref b1), .val (.int (0 : Int32)), .unset] [])) _
        refine XS.aload X260.here hx rfl (hb hby at_122) rfl rfl ?_
        show Steps p.tables e below (T260.setTop (mkF m 124 #[.val (.int p1), .val (.int p2), .val (.int p3), .val (.int (6 : Int32)), .val (.ref b1), .val (.int (0 : Int32)), .unset] [(.ref b1)])) _
        refine XS.iload X260.here hx rfl (hb hby at_124) rfl ?_
        show Steps p.tables e below (T260.setTop (mkF m 126 #[.val (.int p1), .val (.int p2), .val (.int p3), .val (.int (6 : Int32)), .val (.ref b1), .val (.int (0 : Int32)), .unset] [(.int (0 : Int32)), (.ref b1)])) _
        refine st264.trans ?_
        show Steps p.tables e below (T264.setTop (mkF m 129 #[.val (.int p1), .val (.int p2), .val (.int p3), .val (.int (6 : Int32)), .val (.ref b1), .val (.int (0 : Int32)), .unset] [(.ref bx4)])) _
        refine st266 _ ?_
        show Steps p.tables e below (T266.setTop (mkF m 132 #[.val (.int p1), .val (.int p2), .val (.int p3), .val (.int (6 : Int32)), .val (.ref b1), .val (.int (0 : Int32)), .unset] [(.ref bx4)])) _
        refine XS.astore X266.here hx rfl (hb hby at_132) rfl rfl (l' := #[.val (.int p1), .val (.int p2), .val (.int p3), .val (.int (6 : Int32)), .val (.ref b1), .val (.int (0 : Int32)), .val (.ref bx4)]) rfl ?_
        show Steps p.tables e below (T266.setTop (mkF m 134 #[.val (.int p1), .val (.int p2), .val (.int p3), .val (.int (6 : Int32)), .val (.ref b1), .val (.int (0 : Int32)), .val (.ref bx4)] [])) _
        refine XS.aload X266.here hx rfl (hb hby at_134) rfl rfl ?_
        show Steps p.tables e below (T266.setTop (mkF m 136 #[.val (.int p1), .val (.int p2), .val (.int p3), .val (.int (6 : Int32)), .val (.ref b1), .val (.int (0 : Int32)), .val (.ref bx4)] [(.ref bx4)])) _
        refine XS.ifnullNo X266.here hx rfl (hb hby at_136) rfl ?_
        show Steps p.tables e below (T266.setTop (mkF m 139 #[.val (.int p1), .val (.int p2), .val (.int p3), .val (.int (6 : Int32)), .val (.ref b1), .val (.int (0 : Int32)), .val (.ref bx4)] [])) _
        refine XS.aload X266.here hx rfl (hb hby at_139) rfl rfl ?_
        show Steps p.tables e below (T266.setTop (mkF m 141 #[.val (.int p1), .val (.int p2), .val (.int p3), .val (.int (6 : Int32)), .val (.ref b1), .val (.int (0 : Int32)), .val (.ref bx4)] [(.ref bx4)])) _
        refine st268.trans ?_
        show Steps p.tables e below (T268.setTop (mkF m 144 #[.val (.int p1), .val (.int p2), .val (.int p3), .val (.int (6 : Int32)), .val (.ref b1), .val (.int (0 : Int32)), .val (.ref bx4)] [(.int p2)])) _
        refine XS.iloadN X268.here hx rfl (hb hby at_144) rfl ?_
        show Steps p.tables e below (T268.setTop (mkF m 145 #[.val (.int p1), .val (.int p2), .val (.int p3), .val (.int (6 : Int32)), .val (.ref b1), .val (.int (0 : Int32)), .val (.ref bx4)] [(.int p2), (.int p2)])) _
        refine XS.iload X268.here hx rfl (hb hby at_145) rfl ?_
        show Steps p.tables e below (T268.setTop (mkF m 147 #[.val (.int p1), .val (.int p2), .val (.int p3), .val (.int (6 : Int32)), .val (.ref b1), .val (.int (0 : Int32)), .val (.ref bx4)] [(.int (0 : Int32)), (.int p2), (.int p2)])) _
        refine XS.iadd X268.here hx rfl (hb hby at_147) rfl ?_
        show Steps p.tables e below (T268.setTop (mkF m 148 #[.val (.int p1), .val (.int p2), .val (.int p3), .val (.int (6 : Int32)), .val (.ref b1), .val (.int (0 : Int32)), .val (.ref bx4)] [(.int (p2 + (0 : Int32))), (.int p2)])) _
        refine XS.icmpNo X268.here hx rfl (hb hby at_148) rfl (teq (own_add0 p2)).2 ?_
        show Steps p.tables e below (T268.setTop (mkF m 151 #[.val (.int p1), .val (.int p2), .val (.int p3), .val (.int (6 : Int32)), .val (.ref b1), .val (.int (0 : Int32)), .val (.ref bx4)] [])) _
        refine XS.iconst X268.here hx rfl (hb hby at_151) ?_
        show Steps p.tables e below (T268.setTop (mkF m 152 #[.val (.int p1), .val (.int p2), .val (.int p3), .val (.int (6 : Int32)), .val (.ref b1), .val (.int (0 : Int32)), .val (.ref bx4)] [(.int (1 : Int32))])) _
        refine XS.goto X268.here hx rfl (pc0 := 152) (pc' := 156) rfl (hb hby at_152) (by decide) (by decide) ?_
        show Steps p.tables e below (T268.setTop (mkF m 156 #[.val (.int p1), .val (.int p2), .val (.int p3), .val (.int (6 : Int32)), .val (.ref b1), .val (.int (0 : Int32)), .val (.ref bx4)] [(.int (1 : Int32))])) _
        exact retN X268 hx (t := .boolean) Bd.returns (by simp) (hb hby at_156) hr
      · show Q0 n0 _ T268.heap _
        rw [r268]
        exact ⟨rfl, N268⟩
    · have R269 : ∀ tg, Steps p.tables e below (T260.setTop (mkF m 122 #[.val (.int p1), .val (.int p2), .val (.int p3), .val (.int (6 : Int32)), .val (.ref b1), .val (.int (1 : Int32)), .unset] [])) tg → Steps p.tables e below (T260.setTop (mkF m 122 #[.val (.int p1), .val (.int p2), .val (.int p3), .val (.int (6 : Int32)), .val (.ref b1), .val (.int ((p3 &&& (2147483647 : Int32)) % (6 : Int32))), .unset] [])) tg := fun tg kt => by rw [hk262]; exact kt
      obtain ⟨cq270, kq270, q270a, q270b, q270c⟩ := isOf hZ rfl hC260'.1
      obtain ⟨_, _, ⟨T270, L270, k270, n270⟩, -, X270, ⟨Lc270, hQ270, l270, y270, z270⟩, st270⟩ := X260.virtualBack hx (y := (⟨"com/example/anchored_threads/anchoredthreads/internal/ChunkedList", "get", "(I)Ljava/lang/Object;"⟩ : MethodName)) (z := (⟨"com/example/anchored_threads/anchoredthreads/internal/ChunkedList", "get", "(I)Ljava/lang/Object;"⟩ : MethodName)) hown (mvT hZ (hw _ (List.mem_of_getElem? (i := 47) rfl))) (mvT hZ (hw _ (List.mem_of_getElem? (i := 48) rfl))) (notFace_of_selects (args := #[]) (mvT hZ (hw _ (List.mem_of_getElem? (i := 50) rfl)))) (mvT hZ (hw _ (List.mem_of_getElem? (i := 50) rfl))) (mvT hZ (hw _ (List.mem_of_getElem? (i := 49) rfl))) (by decide) (backOf (W := 0) (rmGt l Z a0 hw [] b1 ch2 ea245 kc2 ke245 (6 : Int32) mc260 (8 : Int32) [(.ref bx4), (.ref bx207), (.ref bx214), (.ref bx223), (.ref bx234), (.ref bx247), .null, .null] (1 : Int32) bx207 T260.heap n0 Z260 hC260' (by decide) (by decide) (by decide) (by decide) ⟨by decide, by decide⟩ rfl) hZ (hw _ (List.mem_of_getElem? (i := 51) rfl)) (hw _ (List.mem_of_getElem? (i := 3) rfl)) (by decide) (by decide)) q270a q270c (g := (mkF m 126 #[.val (.int p1), .val (.int p2), .val (.int p3), .val (.int (6 : Int32)), .val (.ref b1), .val (.int (1 : Int32)), .unset] [(.int (1 : Int32)), (.ref b1)])) rfl (by rw [hml]; rfl) (Steps.refl _) (argsL := [(.int (1 : Int32))]) (rest := []) (lenOf pd_6 rfl) rfl (by show 2 * 0 + _ ≤ _; exact Nat.le_of_eq rfl) (hb hby at_126) (fun _ _ => ⟨rfl, rfl, (by decide : 10 + 0 ≤ _), (by decide : 22 + 0 ≤ _)⟩)
      dsimp only [Pt.U, Pt.locs, Pt.cells, Pt.slots] at X270 l270 y270 z270 st270 hQ270
      subst l270 y270 z270
      obtain ⟨hv270, N270q, r270⟩ := hQ270
      subst hv270
      have N270 := Fr.app N260 N270q
      have f271 := (f251.keep kp260)
      obtain ⟨T272, X272, e272, st272⟩ := castY X270 hx hZ hown (hw _ (List.mem_of_getElem? (i := 60) rfl)) r270 (Ins.self f271) (g := (mkF m 129 #[.val (.int p1), .val (.int p2), .val (.int p3), .val (.int (6 : Int32)), .val (.ref b1), .val (.int (1 : Int32)), .unset] [(.ref bx207)])) rfl rfl (hb hby at_129)
      have f273 := (((((((((FB207.keep kp212 (ninS nq211_bx207_b1 (ninS nq211_bx207_ch2 (ninS nq211_bx207_ea2 nin0)))).keep kp214 nin0).keep kp221 (ninS nq211_bx207_b1 (ninS nq211_bx207_ch2 (ninS nq211_bx207_ea2 nin0)))).keep kp223 nin0).keep kp232 (ninS nq211_bx207_b1 (ninS nq211_bx207_ch2 (ninS nq211_bx207_ea2 nin0)))).keep kp234 nin0).keep kp245 (ninS nq211_bx207_b1 (ninS nq211_bx207_ch2 (ninS nq211_bx207_ea2 nin0)))).keep kp247 nin0).keep kp260 (ninS nq211_bx207_b1 (ninS nq211_bx207_ch2 (ninS nq252_bx207_ea245 nin0))))
      obtain ⟨cq274, kq274, q274a, q274b, q274c⟩ := isOf hZ e272 f271
      obtain ⟨_, _, ⟨T274, L274, k274, n274⟩, -, X274, ⟨Lc274, hQ274, l274, y274, z274⟩, st274⟩ := X272.virtualBack hx (y := (⟨"java/lang/Integer", "intValue", "()I"⟩ : MethodName)) (z := (⟨"java/lang/Integer", "intValue", "()I"⟩ : MethodName)) hown (mvT hZ (hw _ (List.mem_of_getElem? (i := 62) rfl))) (mvT hZ (hw _ (List.mem_of_getElem? (i := 63) rfl))) (notFace_of_selects (args := #[]) (mvT hZ (hw _ (List.mem_of_getElem? (i := 65) rfl)))) (mvT hZ (hw _ (List.mem_of_getElem? (i := 65) rfl))) (mvT hZ (hw _ (List.mem_of_getElem? (i := 64) rfl))) (by decide) (backOf (W := 0) (rmIn l Z a0 hw [] bx207 (p2 + (1 : Int32)) T260.heap n0 Z260 f273) hZ (hw _ (List.mem_of_getElem? (i := 66) rfl)) (hw _ (List.mem_of_getElem? (i := 32) rfl)) (by decide) (by decide)) q274a q274c (g := (mkF m 141 #[.val (.int p1), .val (.int p2), .val (.int p3), .val (.int (6 : Int32)), .val (.ref b1), .val (.int (1 : Int32)), .val (.ref bx207)] [(.ref bx207)])) rfl (by rw [hml]; rfl) (Steps.refl _) (argsL := []) (rest := []) (lenOf pd_7 rfl) rfl (by show 2 * 0 + _ ≤ _; exact Nat.le_of_eq rfl) (hb hby at_141) (fun _ _ => ⟨rfl, e272, (by decide : 10 + 0 ≤ _), (by decide : 22 + 0 ≤ _)⟩)
      dsimp only [Pt.U, Pt.locs, Pt.cells, Pt.slots] at X274 l274 y274 z274 st274 hQ274
      subst l274 y274 z274
      obtain ⟨hv274, N274q, r274⟩ := hQ274
      subst hv274
      have N274 := Fr.app N270 N274q
      obtain ⟨fs, hr, hrun, hended, hW, hsame⟩ := X274.leave (v := some (.int (1 : Int32))) (fun h => by rw [Bd.returns] at h; cases h)
      refine ⟨_, _, pre0 _ (R8 _ (R205 _ (R261 _ (R269 _ ?_)))), hrun, hended, _, _, rfl, ?_, ⟨_, rfl⟩, hW, hsame.mono (by decide) (by decide)⟩
      · show Steps p.tables e below (T260.setTop (mkF m 122 #[.val (.int p1), .val (.int p2), .val (.int p3), .val (.int (6 : Int32)), .val (.ref b1), .val (.int (1 : Int32)), .unset] [])) _
        refine XS.aload X260.here hx rfl (hb hby at_122) rfl rfl ?_
        show Steps p.tables e below (T260.setTop (mkF m 124 #[.val (.int p1), .val (.int p2), .val (.int p3), .val (.int (6 : Int32)), .val (.ref b1), .val (.int (1 : Int32)), .unset] [(.ref b1)])) _
        refine XS.iload X260.here hx rfl (hb hby at_124) rfl ?_
        show Steps p.tables e below (T260.setTop (mkF m 126 #[.val (.int p1), .val (.int p2), .val (.int p3), .val (.int (6 : Int32)), .val (.ref b1), .val (.int (1 : Int32)), .unset] [(.int (1 : Int32)), (.ref b1)])) _
        refine st270.trans ?_
        show Steps p.tables e below (T270.setTop (mkF m 129 #[.val (.int p1), .val (.int p2), .val (.int p3), .val (.int (6 : Int32)), .val (.ref b1), .val (.int (1 : Int32)), .unset] [(.ref bx207)])) _
        refine st272 _ ?_
        show Steps p.tables e below (T272.setTop (mkF m 132 #[.val (.int p1), .val (.int p2), .val (.int p3), .val (.int (6 : Int32)), .val (.ref b1), .val (.int (1 : Int32)), .unset] [(.ref bx207)])) _
        refine XS.astore X272.here hx rfl (hb hby at_132) rfl rfl (l' := #[.val (.int p1), .val (.int p2), .val (.int p3), .val (.int (6 : Int32)), .val (.ref b1), .val (.int (1 : Int32)), .val (.ref bx207)]) rfl ?_
        show Steps p.tables e below (T272.setTop (mkF m 134 #[.val (.int p1), .val (.int p2), .val (.int p3), .val (.int (6 : Int32)), .val (.ref b1), .val (.int (1 : Int32)), .val (.ref bx207)] [])) _
        refine XS.aload X272.here hx rfl (hb hby at_134) rfl rfl ?_
        show Steps p.tables e below (T272.setTop (mkF m 136 #[.val (.int p1), .val (.int p2), .val (.int p3), .val (.int (6 : Int32)), .val (.ref b1), .val (.int (1 : Int32)), .val (.ref bx207)] [(.ref bx207)])) _
        refine XS.ifnullNo X272.here hx rfl (hb hby at_136) rfl ?_
        show Steps p.tables e below (T272.setTop (mkF m 139 #[.val (.int p1), .val (.int p2), .val (.int p3), .val (.int (6 : Int32)), .val (.ref b1), .val (.int (1 : Int32)), .val (.ref bx207)] [])) _
        refine XS.aload X272.here hx rfl (hb hby at_139) rfl rfl ?_
        show Steps p.tables e below (T272.setTop (mkF m 141 #[.val (.int p1), .val (.int p2), .val (.int p3), .val (.int (6 : Int32)), .val (.ref b1), .val (.int (1 : Int32)), .val (.ref bx207)] [(.ref bx207)])) _
        refine st274.trans ?_
        show Steps p.tables e below (T274.setTop (mkF m 144 #[.val (.int p1), .val (.int p2), .val (.int p3), .val (.int (6 : Int32)), .val (.ref b1), .val (.int (1 : Int32)), .val (.ref bx207)] [(.int (p2 + (1 : Int32)))])) _
        refine XS.iloadN X274.here hx rfl (hb hby at_144) rfl ?_
        show Steps p.tables e below (T274.setTop (mkF m 145 #[.val (.int p1), .val (.int p2), .val (.int p3), .val (.int (6 : Int32)), .val (.ref b1), .val (.int (1 : Int32)), .val (.ref bx207)] [(.int p2), (.int (p2 + (1 : Int32)))])) _
        refine XS.iload X274.here hx rfl (hb hby at_145) rfl ?_
        show Steps p.tables e below (T274.setTop (mkF m 147 #[.val (.int p1), .val (.int p2), .val (.int p3), .val (.int (6 : Int32)), .val (.ref b1), .val (.int (1 : Int32)), .val (.ref bx207)] [(.int (1 : Int32)), (.int p2), (.int (p2 + (1 : Int32)))])) _
        refine XS.iadd X274.here hx rfl (hb hby at_147) rfl ?_
        show Steps p.tables e below (T274.setTop (mkF m 148 #[.val (.int p1), .val (.int p2), .val (.int p3), .val (.int (6 : Int32)), .val (.ref b1), .val (.int (1 : Int32)), .val (.ref bx207)] [(.int (p2 + (1 : Int32))), (.int (p2 + (1 : Int32)))])) _
        refine XS.icmpNo X274.here hx rfl (hb hby at_148) rfl (teq rfl).2 ?_
        show Steps p.tables e below (T274.setTop (mkF m 151 #[.val (.int p1), .val (.int p2), .val (.int p3), .val (.int (6 : Int32)), .val (.ref b1), .val (.int (1 : Int32)), .val (.ref bx207)] [])) _
        refine XS.iconst X274.here hx rfl (hb hby at_151) ?_
        show Steps p.tables e below (T274.setTop (mkF m 152 #[.val (.int p1), .val (.int p2), .val (.int p3), .val (.int (6 : Int32)), .val (.ref b1), .val (.int (1 : Int32)), .val (.ref bx207)] [(.int (1 : Int32))])) _
        refine XS.goto X274.here hx rfl (pc0 := 152) (pc' := 156) rfl (hb hby at_152) (by decide) (by decide) ?_
        show Steps p.tables e below (T274.setTop (mkF m 156 #[.val (.int p1), .val (.int p2), .val (.int p3), .val (.int (6 : Int32)), .val (.ref b1), .val (.int (1 : Int32)), .val (.ref bx207)] [(.int (1 : Int32))])) _
        exact retN X274 hx (t := .boolean) Bd.returns (by simp) (hb hby at_156) hr
      · show Q0 n0 _ T274.heap _
        rw [r274]
        exact ⟨rfl, N274⟩
    · have R275 : ∀ tg, Steps p.tables e below (T260.setTop (mkF m 122 #[.val (.int p1), .val (.int p2), .val (.int p3), .val (.int (6 : Int32)), .val (.ref b1), .val (.int (2 : Int32)), .unset] [])) tg → Steps p.tables e below (T260.setTop (mkF m 122 #[.val (.int p1), .val (.int p2), .val (.int p3), .val (.int (6 : Int32)), .val (.ref b1), .val (.int ((p3 &&& (2147483647 : Int32)) % (6 : Int32))), .unset] [])) tg := fun tg kt => by rw [hk262]; exact kt
      obtain ⟨cq276, kq276, q276a, q276b, q276c⟩ := isOf hZ rfl hC260'.1
      obtain ⟨_, _, ⟨T276, L276, k276, n276⟩, -, X276, ⟨Lc276, hQ276, l276, y276, z276⟩, st276⟩ := X260.virtualBack hx (y := (⟨"com/example/anchored_threads/anchoredthreads/internal/ChunkedList", "get", "(I)Ljava/lang/Object;"⟩ : MethodName)) (z := (⟨"com/example/anchored_threads/anchoredthreads/internal/ChunkedList", "get", "(I)Ljava/lang/Object;"⟩ : MethodName)) hown (mvT hZ (hw _ (List.mem_of_getElem? (i := 47) rfl))) (mvT hZ (hw _ (List.mem_of_getElem? (i := 48) rfl))) (notFace_of_selects (args := #[]) (mvT hZ (hw _ (List.mem_of_getElem? (i := 50) rfl)))) (mvT hZ (hw _ (List.mem_of_getElem? (i := 50) rfl))) (mvT hZ (hw _ (List.mem_of_getElem? (i := 49) rfl))) (by decide) (backOf (W := 0) (rmGt l Z a0 hw [] b1 ch2 ea245 kc2 ke245 (6 : Int32) mc260 (8 : Int32) [(.ref bx4), (.ref bx207), (.ref bx214), (.ref bx223), (.ref bx234), (.ref bx247), .null, .null] (2 : Int32) bx214 T260.heap n0 Z260 hC260' (by decide) (by decide) (by decide) (by decide) ⟨by decide, by decide⟩ rfl) hZ (hw _ (List.mem_of_getElem? (i := 51) rfl)) (hw _ (List.mem_of_getElem? (i := 3) rfl)) (by decide) (by decide)) q276a q276c (g := (mkF m 126 #[.val (.int p1), .val (.int p2), .val (.int p3), .val (.int (6 : Int32)), .val (.ref b1), .val (.int (2 : Int32)), .unset] [(.int (2 : Int32)), (.ref b1)])) rfl (by rw [hml]; rfl) (Steps.refl _) (argsL := [(.int (2 : Int32))]) (rest := []) (lenOf pd_6 rfl) rfl (by show 2 * 0 + _ ≤ _; exact Nat.le_of_eq rfl) (hb hby at_126) (fun _ _ => ⟨rfl, rfl, (by decide : 10 + 0 ≤ _), (by decide : 22 + 0 ≤ _)⟩)
      dsimp only [Pt.U, Pt.locs, Pt.cells, Pt.slots] at X276 l276 y276 z276 st276 hQ276
      subst l276 y276 z276
      obtain ⟨hv276, N276q, r276⟩ := hQ276
      subst hv276
      have N276 := Fr.app N260 N276q
      have f277 := (f253.keep kp260)
      obtain ⟨T278, X278, e278, st278⟩ := castY X276 hx hZ hown (hw _ (List.mem_of_getElem? (i := 60) rfl)) r276 (Ins.self f277) (g := (mkF m 129 #[.val (.int p1), .val (.int p2), .val (.int p3), .val (.int (6 : Int32)), .val (.ref b1), .val (.int (2 : Int32)), .unset] [(.ref bx214)])) rfl rfl (hb hby at_129)
      have f279 := (((((((FB214.keep kp221 (ninS nq220_bx214_b1 (ninS nq220_bx214_ch2 (ninS nq220_bx214_ea2 nin0)))).keep kp223 nin0).keep kp232 (ninS nq220_bx214_b1 (ninS nq220_bx214_ch2 (ninS nq220_bx214_ea2 nin0)))).keep kp234 nin0).keep kp245 (ninS nq220_bx214_b1 (ninS nq220_bx214_ch2 (ninS nq220_bx214_ea2 nin0)))).keep kp247 nin0).keep kp260 (ninS nq220_bx214_b1 (ninS nq220_bx214_ch2 (ninS nq254_bx214_ea245 nin0))))
      obtain ⟨cq280, kq280, q280a, q280b, q280c⟩ := isOf hZ e278 f277
      obtain ⟨_, _, ⟨T280, L280, k280, n280⟩, -, X280, ⟨Lc280, hQ280, l280, y280, z280⟩, st280⟩ := X278.virtualBack hx (y := (⟨"java/lang/Integer", "intValue", "()I"⟩ : MethodName)) (z := (⟨"java/lang/Integer", "intValue", "()I"⟩ : MethodName)) hown (mvT hZ (hw _ (List.mem_of_getElem? (i := 62) rfl))) (mvT hZ (hw _ (List.mem_of_getElem? (i := 63) rfl))) (notFace_of_selects (args := #[]) (mvT hZ (hw _ (List.mem_of_getElem? (i := 65) rfl)))) (mvT hZ (hw _ (List.mem_of_getElem? (i := 65) rfl))) (mvT hZ (hw _ (List.mem_of_getElem? (i := 64) rfl))) (by decide) (backOf (W := 0) (rmIn l Z a0 hw [] bx214 (p2 + (2 : Int32)) T260.heap n0 Z260 f279) hZ (hw _ (List.mem_of_getElem? (i := 66) rfl)) (hw _ (List.mem_of_getElem? (i := 32) rfl)) (by decide) (by decide)) q280a q280c (g := (mkF m 141 #[.val (.int p1), .val (.int p2), .val (.int p3), .val (.int (6 : Int32)), .val (.ref b1), .val (.int (2 : Int32)), .val (.ref bx214)] [(.ref bx214)])) rfl (by rw [hml]; rfl) (Steps.refl _) (argsL := []) (rest := []) (lenOf pd_7 rfl) rfl (by show 2 * 0 + _ ≤ _; exact Nat.le_of_eq rfl) (hb hby at_141) (fun _ _ => ⟨rfl, e278, (by decide : 10 + 0 ≤ _), (by decide : 22 + 0 ≤ _)⟩)
      dsimp only [Pt.U, Pt.locs, Pt.cells, Pt.slots] at X280 l280 y280 z280 st280 hQ280
      subst l280 y280 z280
      obtain ⟨hv280, N280q, r280⟩ := hQ280
      subst hv280
      have N280 := Fr.app N276 N280q
      obtain ⟨fs, hr, hrun, hended, hW, hsame⟩ := X280.leave (v := some (.int (1 : Int32))) (fun h => by rw [Bd.returns] at h; cases h)
      refine ⟨_, _, pre0 _ (R8 _ (R205 _ (R261 _ (R275 _ ?_)))), hrun, hended, _, _, rfl, ?_, ⟨_, rfl⟩, hW, hsame.mono (by decide) (by decide)⟩
      · show Steps p.tables e below (T260.setTop (mkF m 122 #[.val (.int p1), .val (.int p2), .val (.int p3), .val (.int (6 : Int32)), .val (.ref b1), .val (.int (2 : Int32)), .unset] [])) _
        refine XS.aload X260.here hx rfl (hb hby at_122) rfl rfl ?_
        show Steps p.tables e below (T260.setTop (mkF m 124 #[.val (.int p1), .val (.int p2), .val (.int p3), .val (.int (6 : Int32)), .val (.ref b1), .val (.int (2 : Int32)), .unset] [(.ref b1)])) _
        refine XS.iload X260.here hx rfl (hb hby at_124) rfl ?_
        show Steps p.tables e below (T260.setTop (mkF m 126 #[.val (.int p1), .val (.int p2), .val (.int p3), .val (.int (6 : Int32)), .val (.ref b1), .val (.int (2 : Int32)), .unset] [(.int (2 : Int32)), (.ref b1)])) _
        refine st276.trans ?_
        show Steps p.tables e below (T276.setTop (mkF m 129 #[.val (.int p1), .val (.int p2), .val (.int p3), .val (.int (6 : Int32)), .val (.ref b1), .val (.int (2 : Int32)), .unset] [(.ref bx214)])) _
        refine st278 _ ?_
        show Steps p.tables e below (T278.setTop (mkF m 132 #[.val (.int p1), .val (.int p2), .val (.int p3), .val (.int (6 : Int32)), .val (.ref b1), .val (.int (2 : Int32)), .unset] [(.ref bx214)])) _
        refine XS.astore X278.here hx rfl (hb hby at_132) rfl rfl (l' := #[.val (.int p1), .val (.int p2), .val (.int p3), .val (.int (6 : Int32)), .val (.ref b1), .val (.int (2 : Int32)), .val (.ref bx214)]) rfl ?_
        show Steps p.tables e below (T278.setTop (mkF m 134 #[.val (.int p1), .val (.int p2), .val (.int p3), .val (.int (6 : Int32)), .val (.ref b1), .val (.int (2 : Int32)), .val (.ref bx214)] [])) _
        refine XS.aload X278.here hx rfl (hb hby at_134) rfl rfl ?_
        show Steps p.tables e below (T278.setTop (mkF m 136 #[.val (.int p1), .val (.int p2), .val (.int p3), .val (.int (6 : Int32)), .val (.ref b1), .val (.int (2 : Int32)), .val (.ref bx214)] [(.ref bx214)])) _
        refine XS.ifnullNo X278.here hx rfl (hb hby at_136) rfl ?_
        show Steps p.tables e below (T278.setTop (mkF m 139 #[.val (.int p1), .val (.int p2), .val (.int p3), .val (.int (6 : Int32)), .val (.ref b1), .val (.int (2 : Int32)), .val (.ref bx214)] [])) _
        refine XS.aload X278.here hx rfl (hb hby at_139) rfl rfl ?_
        show Steps p.tables e below (T278.setTop (mkF m 141 #[.val (.int p1), .val (.int p2), .val (.int p3), .val (.int (6 : Int32)), .val (.ref b1), .val (.int (2 : Int32)), .val (.ref bx214)] [(.ref bx214)])) _
        refine st280.trans ?_
        show Steps p.tables e below (T280.setTop (mkF m 144 #[.val (.int p1), .val (.int p2), .val (.int p3), .val (.int (6 : Int32)), .val (.ref b1), .val (.int (2 : Int32)), .val (.ref bx214)] [(.int (p2 + (2 : Int32)))])) _
        refine XS.iloadN X280.here hx rfl (hb hby at_144) rfl ?_
        show Steps p.tables e below (T280.setTop (mkF m 145 #[.val (.int p1), .val (.int p2), .val (.int p3), .val (.int (6 : Int32)), .val (.ref b1), .val (.int (2 : Int32)), .val (.ref bx214)] [(.int p2), (.int (p2 + (2 : Int32)))])) _
        refine XS.iload X280.here hx rfl (hb hby at_145) rfl ?_
        show Steps p.tables e below (T280.setTop (mkF m 147 #[.val (.int p1), .val (.int p2), .val (.int p3), .val (.int (6 : Int32)), .val (.ref b1), .val (.int (2 : Int32)), .val (.ref bx214)] [(.int (2 : Int32)), (.int p2), (.int (p2 + (2 : Int32)))])) _
        refine XS.iadd X280.here hx rfl (hb hby at_147) rfl ?_
        show Steps p.tables e below (T280.setTop (mkF m 148 #[.val (.int p1), .val (.int p2), .val (.int p3), .val (.int (6 : Int32)), .val (.ref b1), .val (.int (2 : Int32)), .val (.ref bx214)] [(.int (p2 + (2 : Int32))), (.int (p2 + (2 : Int32)))])) _
        refine XS.icmpNo X280.here hx rfl (hb hby at_148) rfl (teq rfl).2 ?_
        show Steps p.tables e below (T280.setTop (mkF m 151 #[.val (.int p1), .val (.int p2), .val (.int p3), .val (.int (6 : Int32)), .val (.ref b1), .val (.int (2 : Int32)), .val (.ref bx214)] [])) _
        refine XS.iconst X280.here hx rfl (hb hby at_151) ?_
        show Steps p.tables e below (T280.setTop (mkF m 152 #[.val (.int p1), .val (.int p2), .val (.int p3), .val (.int (6 : Int32)), .val (.ref b1), .val (.int (2 : Int32)), .val (.ref bx214)] [(.int (1 : Int32))])) _
        refine XS.goto X280.here hx rfl (pc0 := 152) (pc' := 156) rfl (hb hby at_152) (by decide) (by decide) ?_
        show Steps p.tables e below (T280.setTop (mkF m 156 #[.val (.int p1), .val (.int p2), .val (.int p3), .val (.int (6 : Int32)), .val (.ref b1), .val (.int (2 : Int32)), .val (.ref bx214)] [(.int (1 : Int32))])) _
        exact retN X280 hx (t := .boolean) Bd.returns (by simp) (hb hby at_156) hr
      · show Q0 n0 _ T280.heap _
        rw [r280]
        exact ⟨rfl, N280⟩
    · have R281 : ∀ tg, Steps p.tables e below (T260.setTop (mkF m 122 #[.val (.int p1), .val (.int p2), .val (.int p3), .val (.int (6 : Int32)), .val (.ref b1), .val (.int (3 : Int32)), .unset] [])) tg → Steps p.tables e below (T260.setTop (mkF m 122 #[.val (.int p1), .val (.int p2), .val (.int p3), .val (.int (6 : Int32)), .val (.ref b1), .val (.int ((p3 &&& (2147483647 : Int32)) % (6 : Int32))), .unset] [])) tg := fun tg kt => by rw [hk262]; exact kt
      obtain ⟨cq282, kq282, q282a, q282b, q282c⟩ := isOf hZ rfl hC260'.1
      obtain ⟨_, _, ⟨T282, L282, k282, n282⟩, -, X282, ⟨Lc282, hQ282, l282, y282, z282⟩, st282⟩ := X260.virtualBack hx (y := (⟨"com/example/anchored_threads/anchoredthreads/internal/ChunkedList", "get", "(I)Ljava/lang/Object;"⟩ : MethodName)) (z := (⟨"com/example/anchored_threads/anchoredthreads/internal/ChunkedList", "get", "(I)Ljava/lang/Object;"⟩ : MethodName)) hown (mvT hZ (hw _ (List.mem_of_getElem? (i := 47) rfl))) (mvT hZ (hw _ (List.mem_of_getElem? (i := 48) rfl))) (notFace_of_selects (args := #[]) (mvT hZ (hw _ (List.mem_of_getElem? (i := 50) rfl)))) (mvT hZ (hw _ (List.mem_of_getElem? (i := 50) rfl))) (mvT hZ (hw _ (List.mem_of_getElem? (i := 49) rfl))) (by decide) (backOf (W := 0) (rmGt l Z a0 hw [] b1 ch2 ea245 kc2 ke245 (6 : Int32) mc260 (8 : Int32) [(.ref bx4), (.ref bx207), (.ref bx214), (.ref bx223), (.ref bx234), (.ref bx247), .null, .null] (3 : Int32) bx223 T260.heap n0 Z260 hC260' (by decide) (by decide) (by decide) (by decide) ⟨by decide, by decide⟩ rfl) hZ (hw _ (List.mem_of_getElem? (i := 51) rfl)) (hw _ (List.mem_of_getElem? (i := 3) rfl)) (by decide) (by decide)) q282a q282c (g := (mkF m 126 #[.val (.int p1), .val (.int p2), .val (.int p3), .val (.int (6 : Int32)), .val (.ref b1), .val (.int (3 : Int32)), .unset] [(.int (3 : Int32)), (.ref b1)])) rfl (by rw [hml]; rfl) (Steps.refl _) (argsL := [(.int (3 : Int32))]) (rest := []) (lenOf pd_6 rfl) rfl (by show 2 * 0 + _ ≤ _; exact Nat.le_of_eq rfl) (hb hby at_126) (fun _ _ => ⟨rfl, rfl, (by decide : 10 + 0 ≤ _), (by decide : 22 + 0 ≤ _)⟩)
      dsimp only [Pt.U, Pt.locs, Pt.cells, Pt.slots] at X282 l282 y282 z282 st282 hQ282
      subst l282 y282 z282
      obtain ⟨hv282, N282q, r282⟩ := hQ282
      subst hv282
      have N282 := Fr.app N260 N282q
      have f283 := (f255.keep kp260)
      obtain ⟨T284, X284, e284, st284⟩ := castY X282 hx hZ hown (hw _ (List.mem_of_getElem? (i := 60) rfl)) r282 (Ins.self f283) (g := (mkF m 129 #[.val (.int p1), .val (.int p2), .val (.int p3), .val (.int (6 : Int32)), .val (.ref b1), .val (.int (3 : Int32)), .unset] [(.ref bx223)])) rfl rfl (hb hby at_129)
      have f285 := (((((FB223.keep kp232 (ninS nq231_bx223_b1 (ninS nq231_bx223_ch2 (ninS nq231_bx223_ea2 nin0)))).keep kp234 nin0).keep kp245 (ninS nq231_bx223_b1 (ninS nq231_bx223_ch2 (ninS nq231_bx223_ea2 nin0)))).keep kp247 nin0).keep kp260 (ninS nq231_bx223_b1 (ninS nq231_bx223_ch2 (ninS nq256_bx223_ea245 nin0))))
      obtain ⟨cq286, kq286, q286a, q286b, q286c⟩ := isOf hZ e284 f283
      obtain ⟨_, _, ⟨T286, L286, k286, n286⟩, -, X286, ⟨Lc286, hQ286, l286, y286, z286⟩, st286⟩ := X284.virtualBack hx (y := (⟨"java/lang/Integer", "intValue", "()I"⟩ : MethodName)) (z := (⟨"java/lang/Integer", "intValue", "()I"⟩ : MethodName)) hown (mvT hZ (hw _ (List.mem_of_getElem? (i := 62) rfl))) (mvT hZ (hw _ (List.mem_of_getElem? (i := 63) rfl))) (notFace_of_selects (args := #[]) (mvT hZ (hw _ (List.mem_of_getElem? (i := 65) rfl)))) (mvT hZ (hw _ (List.mem_of_getElem? (i := 65) rfl))) (mvT hZ (hw _ (List.mem_of_getElem? (i := 64) rfl))) (by decide) (backOf (W := 0) (rmIn l Z a0 hw [] bx223 (p2 + (3 : Int32)) T260.heap n0 Z260 f285) hZ (hw _ (List.mem_of_getElem? (i := 66) rfl)) (hw _ (List.mem_of_getElem? (i := 32) rfl)) (by decide) (by decide)) q286a q286c (g := (mkF m 141 #[.val (.int p1), .val (.int p2), .val (.int p3), .val (.int (6 : Int32)), .val (.ref b1), .val (.int (3 : Int32)), .val (.ref bx223)] [(.ref bx223)])) rfl (by rw [hml]; rfl) (Steps.refl _) (argsL := []) (rest := []) (lenOf pd_7 rfl) rfl (by show 2 * 0 + _ ≤ _; exact Nat.le_of_eq rfl) (hb hby at_141) (fun _ _ => ⟨rfl, e284, (by decide : 10 + 0 ≤ _), (by decide : 22 + 0 ≤ _)⟩)
      dsimp only [Pt.U, Pt.locs, Pt.cells, Pt.slots] at X286 l286 y286 z286 st286 hQ286
      subst l286 y286 z286
      obtain ⟨hv286, N286q, r286⟩ := hQ286
      subst hv286
      have N286 := Fr.app N282 N286q
      obtain ⟨fs, hr, hrun, hended, hW, hsame⟩ := X286.leave (v := some (.int (1 : Int32))) (fun h => by rw [Bd.returns] at h; cases h)
      refine ⟨_, _, pre0 _ (R8 _ (R205 _ (R261 _ (R281 _ ?_)))), hrun, hended, _, _, rfl, ?_, ⟨_, rfl⟩, hW, hsame.mono (by decide) (by decide)⟩
      · show Steps p.tables e below (T260.setTop (mkF m 122 #[.val (.int p1), .val (.int p2), .val (.int p3), .val (.int (6 : Int32)), .val (.ref b1), .val (.int (3 : Int32)), .unset] [])) _
        refine XS.aload X260.here hx rfl (hb hby at_122) rfl rfl ?_
        show Steps p.tables e below (T260.setTop (mkF m 124 #[.val (.int p1), .val (.int p2), .val (.int p3), .val (.int (6 : Int32)), .val (.ref b1), .val (.int (3 : Int32)), .unset] [(.ref b1)])) _
        refine XS.iload X260.here hx rfl (hb hby at_124) rfl ?_
        show Steps p.tables e below (T260.setTop (mkF m 126 #[.val (.int p1), .val (.int p2), .val (.int p3), .val (.int (6 : Int32)), .val (.ref b1), .val (.int (3 : Int32)), .unset] [(.int (3 : Int32)), (.ref b1)])) _
        refine st282.trans ?_
        show Steps p.tables e below (T282.setTop (mkF m 129 #[.val (.int p1), .val (.int p2), .val (.int p3), .val (.int (6 : Int32)), .val (.ref b1), .val (.int (3 : Int32)), .unset] [(.ref bx223)])) _
        refine st284 _ ?_
        show Steps p.tables e below (T284.setTop (mkF m 132 #[.val (.int p1), .val (.int p2), .val (.int p3), .val (.int (6 : Int32)), .val (.ref b1), .val (.int (3 : Int32)), .unset] [(.ref bx223)])) _
        refine XS.astore X284.here hx rfl (hb hby at_132) rfl rfl (l' := #[.val (.int p1), .val (.int p2), .val (.int p3), .val (.int (6 : Int32)), .val (.ref b1), .val (.int (3 : Int32)), .val (.ref bx223)]) rfl ?_
        show Steps p.tables e below (T284.setTop (mkF m 134 #[.val (.int p1), .val (.int p2), .val (.int p3), .val (.int (6 : Int32)), .val (.ref b1), .val (.int (3 : Int32)), .val (.ref bx223)] [])) _
        refine XS.aload X284.here hx rfl (hb hby at_134) rfl rfl ?_
        show Steps p.tables e below (T284.setTop (mkF m 136 #[.val (.int p1), .val (.int p2), .val (.int p3), .val (.int (6 : Int32)), .val (.ref b1), .val (.int (3 : Int32)), .val (.ref bx223)] [(.ref bx223)])) _
        refine XS.ifnullNo X284.here hx rfl (hb hby at_136) rfl ?_
        show Steps p.tables e below (T284.setTop (mkF m 139 #[.val (.int p1), .val (.int p2), .val (.int p3), .val (.int (6 : Int32)), .val (.ref b1), .val (.int (3 : Int32)), .val (.ref bx223)] [])) _
        refine XS.aload X284.here hx rfl (hb hby at_139) rfl rfl ?_
        show Steps p.tables e below (T284.setTop (mkF m 141 #[.val (.int p1), .val (.int p2), .val (.int p3), .val (.int (6 : Int32)), .val (.ref b1), .val (.int (3 : Int32)), .val (.ref bx223)] [(.ref bx223)])) _
        refine st286.trans ?_
        show Steps p.tables e below (T286.setTop (mkF m 144 #[.val (.int p1), .val (.int p2), .val (.int p3), .val (.int (6 : Int32)), .val (.ref b1), .val (.int (3 : Int32)), .val (.ref bx223)] [(.int (p2 + (3 : Int32)))])) _
        refine XS.iloadN X286.here hx rfl (hb hby at_144) rfl ?_
        show Steps p.tables e below (T286.setTop (mkF m 145 #[.val (.int p1), .val (.int p2), .val (.int p3), .val (.int (6 : Int32)), .val (.ref b1), .val (.int (3 : Int32)), .val (.ref bx223)] [(.int p2), (.int (p2 + (3 : Int32)))])) _
        refine XS.iload X286.here hx rfl (hb hby at_145) rfl ?_
        show Steps p.tables e below (T286.setTop (mkF m 147 #[.val (.int p1), .val (.int p2), .val (.int p3), .val (.int (6 : Int32)), .val (.ref b1), .val (.int (3 : Int32)), .val (.ref bx223)] [(.int (3 : Int32)), (.int p2), (.int (p2 + (3 : Int32)))])) _
        refine XS.iadd X286.here hx rfl (hb hby at_147) rfl ?_
        show Steps p.tables e below (T286.setTop (mkF m 148 #[.val (.int p1), .val (.int p2), .val (.int p3), .val (.int (6 : Int32)), .val (.ref b1), .val (.int (3 : Int32)), .val (.ref bx223)] [(.int (p2 + (3 : Int32))), (.int (p2 + (3 : Int32)))])) _
        refine XS.icmpNo X286.here hx rfl (hb hby at_148) rfl (teq rfl).2 ?_
        show Steps p.tables e below (T286.setTop (mkF m 151 #[.val (.int p1), .val (.int p2), .val (.int p3), .val (.int (6 : Int32)), .val (.ref b1), .val (.int (3 : Int32)), .val (.ref bx223)] [])) _
        refine XS.iconst X286.here hx rfl (hb hby at_151) ?_
        show Steps p.tables e below (T286.setTop (mkF m 152 #[.val (.int p1), .val (.int p2), .val (.int p3), .val (.int (6 : Int32)), .val (.ref b1), .val (.int (3 : Int32)), .val (.ref bx223)] [(.int (1 : Int32))])) _
        refine XS.goto X286.here hx rfl (pc0 := 152) (pc' := 156) rfl (hb hby at_152) (by decide) (by decide) ?_
        show Steps p.tables e below (T286.setTop (mkF m 156 #[.val (.int p1), .val (.int p2), .val (.int p3), .val (.int (6 : Int32)), .val (.ref b1), .val (.int (3 : Int32)), .val (.ref bx223)] [(.int (1 : Int32))])) _
        exact retN X286 hx (t := .boolean) Bd.returns (by simp) (hb hby at_156) hr
      · show Q0 n0 _ T286.heap _
        rw [r286]
        exact ⟨rfl, N286⟩
    · have R287 : ∀ tg, Steps p.tables e below (T260.setTop (mkF m 122 #[.val (.int p1), .val (.int p2), .val (.int p3), .val (.int (6 : Int32)), .val (.ref b1), .val (.int (4 : Int32)), .unset] [])) tg → Steps p.tables e below (T260.setTop (mkF m 122 #[.val (.int p1), .val (.int p2), .val (.int p3), .val (.int (6 : Int32)), .val (.ref b1), .val (.int ((p3 &&& (2147483647 : Int32)) % (6 : Int32))), .unset] [])) tg := fun tg kt => by rw [hk262]; exact kt
      obtain ⟨cq288, kq288, q288a, q288b, q288c⟩ := isOf hZ rfl hC260'.1
      obtain ⟨_, _, ⟨T288, L288, k288, n288⟩, -, X288, ⟨Lc288, hQ288, l288, y288, z288⟩, st288⟩ := X260.virtualBack hx (y := (⟨"com/example/anchored_threads/anchoredthreads/internal/ChunkedList", "get", "(I)Ljava/lang/Object;"⟩ : MethodName)) (z := (⟨"com/example/anchored_threads/anchoredthreads/internal/ChunkedList", "get", "(I)Ljava/lang/Object;"⟩ : MethodName)) hown (mvT hZ (hw _ (List.mem_of_getElem? (i := 47) rfl))) (mvT hZ (hw _ (List.mem_of_getElem? (i := 48) rfl))) (notFace_of_selects (args := #[]) (mvT hZ (hw _ (List.mem_of_getElem? (i := 50) rfl)))) (mvT hZ (hw _ (List.mem_of_getElem? (i := 50) rfl))) (mvT hZ (hw _ (List.mem_of_getElem? (i := 49) rfl))) (by decide) (backOf (W := 0) (rmGt l Z a0 hw [] b1 ch2 ea245 kc2 ke245 (6 : Int32) mc260 (8 : Int32) [(.ref bx4), (.ref bx207), (.ref bx214), (.ref bx223), (.ref bx234), (.ref bx247), .null, .null] (4 : Int32) bx234 T260.heap n0 Z260 hC260' (by decide) (by decide) (by decide) (by decide) ⟨by decide, by decide⟩ rfl) hZ (hw _ (List.mem_of_getElem? (i := 51) rfl)) (hw _ (List.mem_of_getElem? (i := 3) rfl)) (by decide) (by decide)) q288a q288c (g := (mkF m 126 #[.val (.int p1), .val (.int p2), .val (.int p3), .val (.int (6 : Int32)), .val (.ref b1), .val (.int (4 : Int32)), .unset] [(.int (4 : Int32)), (.ref b1)])) rfl (by rw [hml]; rfl) (Steps.refl _) (argsL := [(.int (4 : Int32))]) (rest := []) (lenOf pd_6 rfl) rfl (by show 2 * 0 + _ ≤ _; exact Nat.le_of_eq rfl) (hb hby at_126) (fun _ _ => ⟨rfl, rfl, (by decide : 10 + 0 ≤ _), (by decide : 22 + 0 ≤ _)⟩)
      dsimp only [Pt.U, Pt.locs, Pt.cells, Pt.slots] at X288 l288 y288 z288 st288 hQ288
      subst l288 y288 z288
      obtain ⟨hv288, N288q, r288⟩ := hQ288
      subst hv288
      have N288 := Fr.app N260 N288q
      have f289 := (f257.keep kp260)
      obtain ⟨T290, X290, e290, st290⟩ := castY X288 hx hZ hown (hw _ (List.mem_of_getElem? (i := 60) rfl)) r288 (Ins.self f289) (g := (mkF m 129 #[.val (.int p1), .val (.int p2), .val (.int p3), .val (.int (6 : Int32)), .val (.ref b1), .val (.int (4 : Int32)), .unset] [(.ref bx234)])) rfl rfl (hb hby at_129)
      have f291 := (((FB234.keep kp245 (ninS nq244_bx234_b1 (ninS nq244_bx234_ch2 (ninS nq244_bx234_ea2 nin0)))).keep kp247 nin0).keep kp260 (ninS nq244_bx234_b1 (ninS nq244_bx234_ch2 (ninS nq258_bx234_ea245 nin0))))
      obtain ⟨cq292, kq292, q292a, q292b, q292c⟩ := isOf hZ e290 f289
      obtain ⟨_, _, ⟨T292, L292, k292, n292⟩, -, X292, ⟨Lc292, hQ292, l292, y292, z292⟩, st292⟩ := X290.virtualBack hx (y := (⟨"java/lang/Integer", "intValue", "()I"⟩ : MethodName)) (z := (⟨"java/lang/Integer", "intValue", "()I"⟩ : MethodName)) hown (mvT hZ (hw _ (List.mem_of_getElem? (i := 62) rfl))) (mvT hZ (hw _ (List.mem_of_getElem? (i := 63) rfl))) (notFace_of_selects (args := #[]) (mvT hZ (hw _ (List.mem_of_getElem? (i := 65) rfl)))) (mvT hZ (hw _ (List.mem_of_getElem? (i := 65) rfl))) (mvT hZ (hw _ (List.mem_of_getElem? (i := 64) rfl))) (by decide) (backOf (W := 0) (rmIn l Z a0 hw [] bx234 (p2 + (4 : Int32)) T260.heap n0 Z260 f291) hZ (hw _ (List.mem_of_getElem? (i := 66) rfl)) (hw _ (List.mem_of_getElem? (i := 32) rfl)) (by decide) (by decide)) q292a q292c (g := (mkF m 141 #[.val (.int p1), .val (.int p2), .val (.int p3), .val (.int (6 : Int32)), .val (.ref b1), .val (.int (4 : Int32)), .val (.ref bx234)] [(.ref bx234)])) rfl (by rw [hml]; rfl) (Steps.refl _) (argsL := []) (rest := []) (lenOf pd_7 rfl) rfl (by show 2 * 0 + _ ≤ _; exact Nat.le_of_eq rfl) (hb hby at_141) (fun _ _ => ⟨rfl, e290, (by decide : 10 + 0 ≤ _), (by decide : 22 + 0 ≤ _)⟩)
      dsimp only [Pt.U, Pt.locs, Pt.cells, Pt.slots] at X292 l292 y292 z292 st292 hQ292
      subst l292 y292 z292
      obtain ⟨hv292, N292q, r292⟩ := hQ292
      subst hv292
      have N292 := Fr.app N288 N292q
      obtain ⟨fs, hr, hrun, hended, hW, hsame⟩ := X292.leave (v := some (.int (1 : Int32))) (fun h => by rw [Bd.returns] at h; cases h)
      refine ⟨_, _, pre0 _ (R8 _ (R205 _ (R261 _ (R287 _ ?_)))), hrun, hended, _, _, rfl, ?_, ⟨_, rfl⟩, hW, hsame.mono (by decide) (by decide)⟩
      · show Steps p.tables e below (T260.setTop (mkF m 122 #[.val (.int p1), .val (.int p2), .val (.int p3), .val (.int (6 : Int32)), .val (.ref b1), .val (.int (4 : Int32)), .unset] [])) _
        refine XS.aload X260.here hx rfl (hb hby at_122) rfl rfl ?_
        show Steps p.tables e below (T260.setTop (mkF m 124 #[.val (.int p1), .val (.int p2), .val (.int p3), .val (.int (6 : Int32)), .val (.ref b1), .val (.int (4 : Int32)), .unset] [(.ref b1)])) _
        refine XS.iload X260.here hx rfl (hb hby at_124) rfl ?_
        show Steps p.tables e below (T260.setTop (mkF m 126 #[.val (.int p1), .val (.int p2), .val (.int p3), .val (.int (6 : Int32)), .val (.ref b1), .val (.int (4 : Int32)), .unset] [(.int (4 : Int32)), (.ref b1)])) _
        refine st288.trans ?_
        show Steps p.tables e below (T288.setTop (mkF m 129 #[.val (.int p1), .val (.int p2), .val (.int p3), .val (.int (6 : Int32)), .val (.ref b1), .val (.int (4 : Int32)), .unset] [(.ref bx234)])) _
        refine st290 _ ?_
        show Steps p.tables e below (T290.setTop (mkF m 132 #[.val (.int p1), .val (.int p2), .val (.int p3), .val (.int (6 : Int32)), .val (.ref b1), .val (.int (4 : Int32)), .unset] [(.ref bx234)])) _
        refine XS.astore X290.here hx rfl (hb hby at_132) rfl rfl (l' := #[.val (.int p1), .val (.int p2), .val (.int p3), .val (.int (6 : Int32)), .val (.ref b1), .val (.int (4 : Int32)), .val (.ref bx234)]) rfl ?_
        show Steps p.tables e below (T290.setTop (mkF m 134 #[.val (.int p1), .val (.int p2), .val (.int p3), .val (.int (6 : Int32)), .val (.ref b1), .val (.int (4 : Int32)), .val (.ref bx234)] [])) _
        refine XS.aload X290.here hx rfl (hb hby at_134) rfl rfl ?_
        show Steps p.tables e below (T290.setTop (mkF m 136 #[.val (.int p1), .val (.int p2), .val (.int p3), .val (.int (6 : Int32)), .val (.ref b1), .val (.int (4 : Int32)), .val (.ref bx234)] [(.ref bx234)])) _
        refine XS.ifnullNo X290.here hx rfl (hb hby at_136) rfl ?_
        show Steps p.tables e below (T290.setTop (mkF m 139 #[.val (.int p1), .val (.int p2), .val (.int p3), .val (.int (6 : Int32)), .val (.ref b1), .val (.int (4 : Int32)), .val (.ref bx234)] [])) _
        refine XS.aload X290.here hx rfl (hb hby at_139) rfl rfl ?_
        show Steps p.tables e below (T290.setTop (mkF m 141 #[.val (.int p1), .val (.int p2), .val (.int p3), .val (.int (6 : Int32)), .val (.ref b1), .val (.int (4 : Int32)), .val (.ref bx234)] [(.ref bx234)])) _
        refine st292.trans ?_
        show Steps p.tables e below (T292.setTop (mkF m 144 #[.val (.int p1), .val (.int p2), .val (.int p3), .val (.int (6 : Int32)), .val (.ref b1), .val (.int (4 : Int32)), .val (.ref bx234)] [(.int (p2 + (4 : Int32)))])) _
        refine XS.iloadN X292.here hx rfl (hb hby at_144) rfl ?_
        show Steps p.tables e below (T292.setTop (mkF m 145 #[.val (.int p1), .val (.int p2), .val (.int p3), .val (.int (6 : Int32)), .val (.ref b1), .val (.int (4 : Int32)), .val (.ref bx234)] [(.int p2), (.int (p2 + (4 : Int32)))])) _
        refine XS.iload X292.here hx rfl (hb hby at_145) rfl ?_
        show Steps p.tables e below (T292.setTop (mkF m 147 #[.val (.int p1), .val (.int p2), .val (.int p3), .val (.int (6 : Int32)), .val (.ref b1), .val (.int (4 : Int32)), .val (.ref bx234)] [(.int (4 : Int32)), (.int p2), (.int (p2 + (4 : Int32)))])) _
        refine XS.iadd X292.here hx rfl (hb hby at_147) rfl ?_
        show Steps p.tables e below (T292.setTop (mkF m 148 #[.val (.int p1), .val (.int p2), .val (.int p3), .val (.int (6 : Int32)), .val (.ref b1), .val (.int (4 : Int32)), .val (.ref bx234)] [(.int (p2 + (4 : Int32))), (.int (p2 + (4 : Int32)))])) _
        refine XS.icmpNo X292.here hx rfl (hb hby at_148) rfl (teq rfl).2 ?_
        show Steps p.tables e below (T292.setTop (mkF m 151 #[.val (.int p1), .val (.int p2), .val (.int p3), .val (.int (6 : Int32)), .val (.ref b1), .val (.int (4 : Int32)), .val (.ref bx234)] [])) _
        refine XS.iconst X292.here hx rfl (hb hby at_151) ?_
        show Steps p.tables e below (T292.setTop (mkF m 152 #[.val (.int p1), .val (.int p2), .val (.int p3), .val (.int (6 : Int32)), .val (.ref b1), .val (.int (4 : Int32)), .val (.ref bx234)] [(.int (1 : Int32))])) _
        refine XS.goto X292.here hx rfl (pc0 := 152) (pc' := 156) rfl (hb hby at_152) (by decide) (by decide) ?_
        show Steps p.tables e below (T292.setTop (mkF m 156 #[.val (.int p1), .val (.int p2), .val (.int p3), .val (.int (6 : Int32)), .val (.ref b1), .val (.int (4 : Int32)), .val (.ref bx234)] [(.int (1 : Int32))])) _
        exact retN X292 hx (t := .boolean) Bd.returns (by simp) (hb hby at_156) hr
      · show Q0 n0 _ T292.heap _
        rw [r292]
        exact ⟨rfl, N292⟩
    · have R293 : ∀ tg, Steps p.tables e below (T260.setTop (mkF m 122 #[.val (.int p1), .val (.int p2), .val (.int p3), .val (.int (6 : Int32)), .val (.ref b1), .val (.int (5 : Int32)), .unset] [])) tg → Steps p.tables e below (T260.setTop (mkF m 122 #[.val (.int p1), .val (.int p2), .val (.int p3), .val (.int (6 : Int32)), .val (.ref b1), .val (.int ((p3 &&& (2147483647 : Int32)) % (6 : Int32))), .unset] [])) tg := fun tg kt => by rw [hk262]; exact kt
      obtain ⟨cq294, kq294, q294a, q294b, q294c⟩ := isOf hZ rfl hC260'.1
      obtain ⟨_, _, ⟨T294, L294, k294, n294⟩, -, X294, ⟨Lc294, hQ294, l294, y294, z294⟩, st294⟩ := X260.virtualBack hx (y := (⟨"com/example/anchored_threads/anchoredthreads/internal/ChunkedList", "get", "(I)Ljava/lang/Object;"⟩ : MethodName)) (z := (⟨"com/example/anchored_threads/anchoredthreads/internal/ChunkedList", "get", "(I)Ljava/lang/Object;"⟩ : MethodName)) hown (mvT hZ (hw _ (List.mem_of_getElem? (i := 47) rfl))) (mvT hZ (hw _ (List.mem_of_getElem? (i := 48) rfl))) (notFace_of_selects (args := #[]) (mvT hZ (hw _ (List.mem_of_getElem? (i := 50) rfl)))) (mvT hZ (hw _ (List.mem_of_getElem? (i := 50) rfl))) (mvT hZ (hw _ (List.mem_of_getElem? (i := 49) rfl))) (by decide) (backOf (W := 0) (rmGt l Z a0 hw [] b1 ch2 ea245 kc2 ke245 (6 : Int32) mc260 (8 : Int32) [(.ref bx4), (.ref bx207), (.ref bx214), (.ref bx223), (.ref bx234), (.ref bx247), .null, .null] (5 : Int32) bx247 T260.heap n0 Z260 hC260' (by decide) (by decide) (by decide) (by decide) ⟨by decide, by decide⟩ rfl) hZ (hw _ (List.mem_of_getElem? (i := 51) rfl)) (hw _ (List.mem_of_getElem? (i := 3) rfl)) (by decide) (by decide)) q294a q294c (g := (mkF m 126 #[.val (.int p1), .val (.int p2), .val (.int p3), .val (.int (6 : Int32)), .val (.ref b1), .val (.int (5 : Int32)), .unset] [(.int (5 : Int32)), (.ref b1)])) rfl (by rw [hml]; rfl) (Steps.refl _) (argsL := [(.int (5 : Int32))]) (rest := []) (lenOf pd_6 rfl) rfl (by show 2 * 0 + _ ≤ _; exact Nat.le_of_eq rfl) (hb hby at_126) (fun _ _ => ⟨rfl, rfl, (by decide : 10 + 0 ≤ _), (by decide : 22 + 0 ≤ _)⟩)
      dsimp only [Pt.U, Pt.locs, Pt.cells, Pt.slots] at X294 l294 y294 z294 st294 hQ294
      subst l294 y294 z294
      obtain ⟨hv294, N294q, r294⟩ := hQ294
      subst hv294
      have N294 := Fr.app N260 N294q
      have f295 := (EB247.keep kp260)
      obtain ⟨T296, X296, e296, st296⟩ := castY X294 hx hZ hown (hw _ (List.mem_of_getElem? (i := 60) rfl)) r294 (Ins.self f295) (g := (mkF m 129 #[.val (.int p1), .val (.int p2), .val (.int p3), .val (.int (6 : Int32)), .val (.ref b1), .val (.int (5 : Int32)), .unset] [(.ref bx247)])) rfl rfl (hb hby at_129)
      have f297 := (FB247.keep kp260 (ninS nq259_bx247_b1 (ninS nq259_bx247_ch2 (ninS nq259_bx247_ea245 nin0))))
      obtain ⟨cq298, kq298, q298a, q298b, q298c⟩ := isOf hZ e296 f295
      obtain ⟨_, _, ⟨T298, L298, k298, n298⟩, -, X298, ⟨Lc298, hQ298, l298, y298, z298⟩, st298⟩ := X296.virtualBack hx (y := (⟨"java/lang/Integer", "intValue", "()I"⟩ : MethodName)) (z := (⟨"java/lang/Integer", "intValue", "()I"⟩ : MethodName)) hown (mvT hZ (hw _ (List.mem_of_getElem? (i := 62) rfl))) (mvT hZ (hw _ (List.mem_of_getElem? (i := 63) rfl))) (notFace_of_selects (args := #[]) (mvT hZ (hw _ (List.mem_of_getElem? (i := 65) rfl)))) (mvT hZ (hw _ (List.mem_of_getElem? (i := 65) rfl))) (mvT hZ (hw _ (List.mem_of_getElem? (i := 64) rfl))) (by decide) (backOf (W := 0) (rmIn l Z a0 hw [] bx247 (p2 + (5 : Int32)) T260.heap n0 Z260 f297) hZ (hw _ (List.mem_of_getElem? (i := 66) rfl)) (hw _ (List.mem_of_getElem? (i := 32) rfl)) (by decide) (by decide)) q298a q298c (g := (mkF m 141 #[.val (.int p1), .val (.int p2), .val (.int p3), .val (.int (6 : Int32)), .val (.ref b1), .val (.int (5 : Int32)), .val (.ref bx247)] [(.ref bx247)])) rfl (by rw [hml]; rfl) (Steps.refl _) (argsL := []) (rest := []) (lenOf pd_7 rfl) rfl (by show 2 * 0 + _ ≤ _; exact Nat.le_of_eq rfl) (hb hby at_141) (fun _ _ => ⟨rfl, e296, (by decide : 10 + 0 ≤ _), (by decide : 22 + 0 ≤ _)⟩)
      dsimp only [Pt.U, Pt.locs, Pt.cells, Pt.slots] at X298 l298 y298 z298 st298 hQ298
      subst l298 y298 z298
      obtain ⟨hv298, N298q, r298⟩ := hQ298
      subst hv298
      have N298 := Fr.app N294 N298q
      obtain ⟨fs, hr, hrun, hended, hW, hsame⟩ := X298.leave (v := some (.int (1 : Int32))) (fun h => by rw [Bd.returns] at h; cases h)
      refine ⟨_, _, pre0 _ (R8 _ (R205 _ (R261 _ (R293 _ ?_)))), hrun, hended, _, _, rfl, ?_, ⟨_, rfl⟩, hW, hsame.mono (by decide) (by decide)⟩
      · show Steps p.tables e below (T260.setTop (mkF m 122 #[.val (.int p1), .val (.int p2), .val (.int p3), .val (.int (6 : Int32)), .val (.ref b1), .val (.int (5 : Int32)), .unset] [])) _
        refine XS.aload X260.here hx rfl (hb hby at_122) rfl rfl ?_
        show Steps p.tables e below (T260.setTop (mkF m 124 #[.val (.int p1), .val (.int p2), .val (.int p3), .val (.int (6 : Int32)), .val (.ref b1), .val (.int (5 : Int32)), .unset] [(.ref b1)])) _
        refine XS.iload X260.here hx rfl (hb hby at_124) rfl ?_
        show Steps p.tables e below (T260.setTop (mkF m 126 #[.val (.int p1), .val (.int p2), .val (.int p3), .val (.int (6 : Int32)), .val (.ref b1), .val (.int (5 : Int32)), .unset] [(.int (5 : Int32)), (.ref b1)])) _
        refine st294.trans ?_
        show Steps p.tables e below (T294.setTop (mkF m 129 #[.val (.int p1), .val (.int p2), .val (.int p3), .val (.int (6 : Int32)), .val (.ref b1), .val (.int (5 : Int32)), .unset] [(.ref bx247)])) _
        refine st296 _ ?_
        show Steps p.tables e below (T296.setTop (mkF m 132 #[.val (.int p1), .val (.int p2), .val (.int p3), .val (.int (6 : Int32)), .val (.ref b1), .val (.int (5 : Int32)), .unset] [(.ref bx247)])) _
        refine XS.astore X296.here hx rfl (hb hby at_132) rfl rfl (l' := #[.val (.int p1), .val (.int p2), .val (.int p3), .val (.int (6 : Int32)), .val (.ref b1), .val (.int (5 : Int32)), .val (.ref bx247)]) rfl ?_
        show Steps p.tables e below (T296.setTop (mkF m 134 #[.val (.int p1), .val (.int p2), .val (.int p3), .val (.int (6 : Int32)), .val (.ref b1), .val (.int (5 : Int32)), .val (.ref bx247)] [])) _
        refine XS.aload X296.here hx rfl (hb hby at_134) rfl rfl ?_
        show Steps p.tables e below (T296.setTop (mkF m 136 #[.val (.int p1), .val (.int p2), .val (.int p3), .val (.int (6 : Int32)), .val (.ref b1), .val (.int (5 : Int32)), .val (.ref bx247)] [(.ref bx247)])) _
        refine XS.ifnullNo X296.here hx rfl (hb hby at_136) rfl ?_
        show Steps p.tables e below (T296.setTop (mkF m 139 #[.val (.int p1), .val (.int p2), .val (.int p3), .val (.int (6 : Int32)), .val (.ref b1), .val (.int (5 : Int32)), .val (.ref bx247)] [])) _
        refine XS.aload X296.here hx rfl (hb hby at_139) rfl rfl ?_
        show Steps p.tables e below (T296.setTop (mkF m 141 #[.val (.int p1), .val (.int p2), .val (.int p3), .val (.int (6 : Int32)), .val (.ref b1), .val (.int (5 : Int32)), .val (.ref bx247)] [(.ref bx247)])) _
        refine st298.trans ?_
        show Steps p.tables e below (T298.setTop (mkF m 144 #[.val (.int p1), .val (.int p2), .val (.int p3), .val (.int (6 : Int32)), .val (.ref b1), .val (.int (5 : Int32)), .val (.ref bx247)] [(.int (p2 + (5 : Int32)))])) _
        refine XS.iloadN X298.here hx rfl (hb hby at_144) rfl ?_
        show Steps p.tables e below (T298.setTop (mkF m 145 #[.val (.int p1), .val (.int p2), .val (.int p3), .val (.int (6 : Int32)), .val (.ref b1), .val (.int (5 : Int32)), .val (.ref bx247)] [(.int p2), (.int (p2 + (5 : Int32)))])) _
        refine XS.iload X298.here hx rfl (hb hby at_145) rfl ?_
        show Steps p.tables e below (T298.setTop (mkF m 147 #[.val (.int p1), .val (.int p2), .val (.int p3), .val (.int (6 : Int32)), .val (.ref b1), .val (.int (5 : Int32)), .val (.ref bx247)] [(.int (5 : Int32)), (.int p2), (.int (p2 + (5 : Int32)))])) _
        refine XS.iadd X298.here hx rfl (hb hby at_147) rfl ?_
        show Steps p.tables e below (T298.setTop (mkF m 148 #[.val (.int p1), .val (.int p2), .val (.int p3), .val (.int (6 : Int32)), .val (.ref b1), .val (.int (5 : Int32)), .val (.ref bx247)] [(.int (p2 + (5 : Int32))), (.int (p2 + (5 : Int32)))])) _
        refine XS.icmpNo X298.here hx rfl (hb hby at_148) rfl (teq rfl).2 ?_
        show Steps p.tables e below (T298.setTop (mkF m 151 #[.val (.int p1), .val (.int p2), .val (.int p3), .val (.int (6 : Int32)), .val (.ref b1), .val (.int (5 : Int32)), .val (.ref bx247)] [])) _
        refine XS.iconst X298.here hx rfl (hb hby at_151) ?_
        show Steps p.tables e below (T298.setTop (mkF m 152 #[.val (.int p1), .val (.int p2), .val (.int p3), .val (.int (6 : Int32)), .val (.ref b1), .val (.int (5 : Int32)), .val (.ref bx247)] [(.int (1 : Int32))])) _
        refine XS.goto X298.here hx rfl (pc0 := 152) (pc' := 156) rfl (hb hby at_152) (by decide) (by decide) ?_
        show Steps p.tables e below (T298.setTop (mkF m 156 #[.val (.int p1), .val (.int p2), .val (.int p3), .val (.int (6 : Int32)), .val (.ref b1), .val (.int (5 : Int32)), .val (.ref bx247)] [(.int (1 : Int32))])) _
        exact retN X298 hx (t := .boolean) Bd.returns (by simp) (hb hby at_156) hr
      · show Q0 n0 _ T298.heap _
        rw [r298]
        exact ⟨rfl, N298⟩
set_option maxRecDepth 65536 in
set_option maxHeartbeats 40000000 in
theorem comes_1 {Post : Tables → Env → Array Value → State → Outcome → State → Prop} (hpost : ∀ tb e args s v u, (limb_1_1.after args s (.returned v) u = true ∧ limb_1_2.after args s (.returned v) u = true ∧ True) → FrameEnd s (.returned v) u (Jvm.fieldLocs frame_1_writes args s ++ Jvm.arrayLocs frame_1_arrays args s ++ Jvm.staticLocs frame_1_statics s) 32 128 → Post tb e args s (.returned v) u) :
    ArmFor flags0 classFile x code maxLocals ret World_1 tables_1 room_1 Calls_1 rest_1 Pre_1 Post := by
  intro l hfl _ _ p e ha hc hk s m args below hf hA hF happ hP
  obtain ⟨hcalls, hrest, hpre⟩ := hP
  obtain ⟨-, -, -, hnamed, -, -, -, hat⟩ := (Spec.applies_iff hf).mp happ
  obtain ⟨hg, hn⟩ := and_e (Cond.before_iff.mp (show (Jvm.Cond.and given_1 narrow_1).before args s = true from hpre))
  obtain ⟨g1a, g1b⟩ := and_e hg
  obtain ⟨g2a, g2b⟩ := and_e g1b
  obtain ⟨g3a, g3b⟩ := and_e g2b
  obtain ⟨w0, w1, w2, rfl⟩ : ∃ w0 w1 w2 : Value, args = #[w0, w1, w2] := by
    have hs : args.size = 3 := by simpa [Cond.value, given_1] using g1a
    obtain ⟨L⟩ := args
    match L, hs with
    | [w0, w1, w2], _ => exact ⟨w0, w1, w2, rfl⟩
  have hw := fun d (hd : d ∈ tables_1) => atoms_spec (ws := Jvm.Cond.code x code maxLocals ret :: tables_1) hat d (List.mem_cons_of_mem _ hd)
  have hfit : Fit s := fun {y c} hc i hi => by
    obtain ⟨ha, rfl⟩ := Array.getElem?_eq_some_iff.mp hc
    have q := List.all_eq_true.mp ((Array.all_eq_true_iff_forall_mem.mp hF) _ (Array.getElem_mem ha)) i (List.mem_range.mpr hi)
    simpa [Array.getElem?_eq_getElem hi] using q
  obtain ⟨hsets, hown0⟩ := atoms_of _ (rest_1_c_eq ▸ (show rest_1_c.before _ s = true from hrest))
  have hr0 := Cond.before_iff.mp hown0
  obtain ⟨i0, ei0⟩ := is_v g2a
  obtain rfl : w0 = (.int i0) := Option.some.inj ei0
  obtain ⟨i1, ei1⟩ := is_v g3a
  obtain rfl : w1 = (.int i1) := Option.some.inj ei1
  obtain ⟨i2, ei2⟩ := is_v g3b
  obtain rfl : w2 = (.int i2) := Option.some.inj ei2
  obtain ⟨ca, eca⟩ := arr_v (Cond.before_iff.mp (hsets _ (List.mem_of_getElem? (i := 4) rfl)))
  have hS1 := Sta.start eca (Or.inr ⟨hw _ (List.mem_of_getElem? (i := 35) rfl), hsets _ (List.mem_of_getElem? (i := 2) rfl)⟩)
  have hS0 := Sta.start (eqv_i (Term.int_eval 127) (Cond.before_iff.mp (hsets _ (List.mem_of_getElem? (i := 3) rfl)))) (Or.inl (hsets _ (List.mem_of_getElem? (i := 1) rfl)))
  obtain ⟨cc, hA1⟩ := Arr.start eca (Cond.before_iff.mp (hsets _ (List.mem_of_getElem? (i := 4) rfl)))
  have hB1 := own_bxs (fun idx => eca) hA1 (hsets _ (List.mem_of_getElem? (i := 6) rfl)) (hsets _ (List.mem_of_getElem? (i := 7) rfl))
  obtain ⟨mc_, mk_, mm_, hm1, hm2, hm3, -⟩ := hcalls.1
  obtain ⟨n, o, h1, h2, h3, _, L, rfl, ⟨rfl, N⟩, hq⟩ := rm0 l s _ hw tables_1 i0 i1 i2 ca cc s.heap s.heap.size (Nat.le_refl _) (Old.start s) hS0 hS1 hB1 ⟨mc_, mk_, mm_, hm1, hm2, hm3⟩ p e ha hc hk s m _ below hf ((Spec.applies_iff_loose hf).mp happ).1 ⟨rfl, State.Warmed39.refl s, rfl⟩ trivial
  refine ⟨n, _, h1, h2, h3, hpost _ _ _ _ _ _ ⟨Cond.after_iff.mpr rfl, Cond.after_iff.mpr (eq_i res_at (Term.int_eval (1)) rfl), trivial⟩ ⟨hq.1, hq.2.1, (hq.2.2.sift fun y hy => Or.inr (N y hy)).mono (by decide) (by decide)⟩⟩
theorem main_1_1 : Claimed_1_1 := comes_1 fun _ _ _ _ _ _ h hF => ⟨h.1, hF⟩
theorem main_1_2 : Claimed_1_2 := comes_1 fun _ _ _ _ _ _ h hF => ⟨h.2.1, hF⟩
end Jvm.Pilot.@@N@@
namespace Jvm.Pilot.@@N@@
open Jvm Jvm.ClassFile Sem Op Lib Jvm.Free Jvm.Stand Jvm.Pilot.@@N@@.Jvm.D
/-! MADE BY PROGRAM (witnessworld.py) out of the Statement's table words and the real class files: 29 classes; the members and pool entries that the words name. The judged class is class 1, her method 1. -/
namespace start1
open Jvm.ClassFile
def u (s : String) : CpInfo := .utf8 (stringToUtf16 s)
/-- a pool by its gaps: so many unusable entries, then the entry; so many at the end -/
def gap : Nat → List CpInfo → List CpInfo
  | 0, r => r
  | n + 1, r => .unusable :: gap n r
def poolList (es : List (Nat × CpInfo)) (last : Nat) : List CpInfo := es.foldr (fun e r => gap e.1 (e.2 :: r)) (gap last [])
def pool (es : List (Nat × CpInfo)) (last : Nat) : Array CpInfo := ⟨poolList es last⟩
def fileOf (pool : Array CpInfo) (this : Nat) (attrs : Array Attribute := #[]) (ms : Array MethodInfo := #[]) (fl : Nat := 33) (sup : Nat := 0) (ifs : Array Nat := #[]) (fds : Array FieldInfo := #[]) : ClassFile where
  minorVersion := 0
  majorVersion := 65
  constantPool := pool
  accessFlags := fl
  thisClass := this
  superClass := sup
  interfaces := ifs
  fields := fds
  methods := ms
  attributes := attrs
def plain (name : String) (sup : Option ClassId) : Class where
  name := name
  kind := .ordinary
  loader := none
  accessFlags := 33
  super := sup
  interfaces := #[]
  cf := none
  fields := #[]
  methods := #[]
  instanceTypes := #[]
  staticTypes := #[]
  resolved := #[]
  callSites := []
  init := .initialized
  statics := none
  mirror := none

def pool0 : Array CpInfo := pool [(5, u "<init>"), (0, u "()V"), (1, .class_ 10), (1, u "java/lang/Object"), (0, u "getClass"), (0, u "()Ljava/lang/Class;")] 111

def k0c0 : Code := { maxStack := 0, maxLocals := 1, code := object_method_1_code, exceptionTable := #[], attributes := #[] }
def k0m0 : Method := { name := "<init>", desc := "()V", sig := { parameters := [], returnType := none }, accessFlags := 1, code := some k0c0 }
def k0m1 : Method := { name := "getClass", desc := "()Ljava/lang/Class;", sig := { parameters := [], returnType := some (.object "java/lang/Class") }, accessFlags := 273, code := none }
/-- java/lang/Object -/
def k0 : Class := { plain "java/lang/Object" none with
  accessFlags := 33
  interfaces := #[]
  cf := some (fileOf pool0 8 #[] #[{ accessFlags := 1, nameIndex := 5, descriptorIndex := 6, attributes := #[] }, { accessFlags := 273, nameIndex := 11, descriptorIndex := 12, attributes := #[] }] 33 0 #[] #[])
  fields := #[]
  methods := #[k0m0, k0m1]
  instanceTypes := #[]
  staticTypes := #[]
  resolved := Array.replicate 124 none
  statics := none }

def pool1 : Array CpInfo := pool [(2, .class_ 4), (0, .nameAndType 5 6), (0, u "java/lang/Object"), (0, u "<init>"), (0, u "()V"), (0, .integer 2147483647), (0, .class_ 9), (0, u "com/example/anchored_threads/anchoredthreads/internal/ChunkedList"), (0, .methodref 8 3), (0, .methodref 12 13), (0, .class_ 14), (0, .nameAndType 15 16), (0, u "java/lang/Integer"), (0, u "valueOf"), (0, u "(I)Ljava/lang/Integer;"), (0, .methodref 8 18), (0, .nameAndType 19 20), (0, u "add"), (0, u "(Ljava/lang/Object;)Z"), (0, .methodref 8 22), (0, .nameAndType 23 24), (0, u "get"), (0, u "(I)Ljava/lang/Object;"), (0, .methodref 12 26), (0, .nameAndType 27 28), (0, u "intValue"), (0, u "()I"), (0, .class_ 30), (0, u "com/example/anchored_threads/anchoredthreads/internal/ChunkedListGetPinLaw"), (2, u "law"), (0, u "(III)Z")] 3

def k1m0 : Method := { name := "<init>", desc := "()V", sig := { parameters := [], returnType := none }, accessFlags := 1, code := none }
def k1c1 : Code := { maxStack := 3, maxLocals := 7, code := code, exceptionTable := #[], attributes := #[] }
def k1m1 : Method := { name := "law", desc := "(III)Z", sig := { parameters := [.int, .int, .int], returnType := some .boolean }, accessFlags := 9, code := some k1c1 }
/-- com/example/anchored_threads/anchoredthreads/internal/ChunkedListGetPinLaw -/
def k1 : Class := { plain "com/example/anchored_threads/anchoredthreads/internal/ChunkedListGetPinLaw" (some 0) with
  accessFlags := 49
  interfaces := #[]
  cf := some (fileOf pool1 29 #[] #[{ accessFlags := 1, nameIndex := 5, descriptorIndex := 6, attributes := #[] }, { accessFlags := 9, nameIndex := 33, descriptorIndex := 34, attributes := #[] }] 49 2 #[] #[])
  fields := #[]
  methods := #[k1m0, k1m1]
  instanceTypes := #[]
  staticTypes := #[]
  resolved := Array.replicate 38 none
  statics := none }

def pool2 : Array CpInfo := pool [(8, .class_ 10), (1, u "java/lang/Iterable"), (24, .class_ 36), (0, u "java/lang/Object")] 25

/-- java/lang/Iterable -/
def k2 : Class := { plain "java/lang/Iterable" (some 0) with
  accessFlags := 1537
  interfaces := #[]
  cf := some (fileOf pool2 8 #[] #[] 1537 35 #[] #[])
  fields := #[]
  methods := #[]
  instanceTypes := #[]
  staticTypes := #[]
  resolved := Array.replicate 62 none
  statics := none }

def pool3 : Array CpInfo := pool [(10, .class_ 12), (1, u "java/util/Collection"), (47, .class_ 61), (0, u "java/lang/Object"), (0, .class_ 63), (0, u "java/lang/Iterable")] 51

/-- java/util/Collection -/
def k3 : Class := { plain "java/util/Collection" (some 0) with
  accessFlags := 1537
  interfaces := #[2]
  cf := some (fileOf pool3 10 #[] #[] 1537 60 #[62] #[])
  fields := #[]
  methods := #[]
  instanceTypes := #[]
  staticTypes := #[]
  resolved := Array.replicate 115 none
  statics := none }

def pool4 : Array CpInfo := pool [(1, .methodref 2 3), (0, .class_ 4), (0, .nameAndType 5 6), (0, u "java/lang/Object"), (0, u "<init>"), (0, u "()V"), (1, .class_ 10), (1, u "java/util/AbstractCollection"), (66, .class_ 78), (0, u "java/util/Collection")] 81

def k4c0 : Code := { maxStack := 1, maxLocals := 1, code := jdk_22_method_1_code, exceptionTable := #[], attributes := #[] }
def k4m0 : Method := { name := "<init>", desc := "()V", sig := { parameters := [], returnType := none }, accessFlags := 4, code := some k4c0 }
/-- java/util/AbstractCollection -/
def k4 : Class := { plain "java/util/AbstractCollection" (some 0) with
  accessFlags := 1057
  interfaces := #[3]
  cf := some (fileOf pool4 8 #[] #[{ accessFlags := 4, nameIndex := 5, descriptorIndex := 6, attributes := #[] }] 1057 2 #[77] #[])
  fields := #[]
  methods := #[k4m0]
  instanceTypes := #[]
  staticTypes := #[]
  resolved := Array.replicate 160 none
  statics := none }

def pool5 : Array CpInfo := pool [(8, .class_ 10), (1, u "java/util/SequencedCollection"), (15, .class_ 27), (0, u "java/lang/Object"), (0, .class_ 29), (0, u "java/util/Collection")] 27

/-- java/util/SequencedCollection -/
def k5 : Class := { plain "java/util/SequencedCollection" (some 0) with
  accessFlags := 1537
  interfaces := #[3]
  cf := some (fileOf pool5 8 #[] #[] 1537 26 #[28] #[])
  fields := #[]
  methods := #[]
  instanceTypes := #[]
  staticTypes := #[]
  resolved := Array.replicate 57 none
  statics := none }

def pool6 : Array CpInfo := pool [(8, .class_ 10), (1, u "java/util/List"), (92, .class_ 104), (0, u "java/lang/Object"), (15, .class_ 121), (0, u "java/util/SequencedCollection")] 129

/-- java/util/List -/
def k6 : Class := { plain "java/util/List" (some 0) with
  accessFlags := 1537
  interfaces := #[5]
  cf := some (fileOf pool6 8 #[] #[] 1537 103 #[120] #[])
  fields := #[]
  methods := #[]
  instanceTypes := #[]
  staticTypes := #[]
  resolved := Array.replicate 251 none
  statics := none }

def pool7 : Array CpInfo := pool [(1, .methodref 2 3), (0, .class_ 4), (0, .nameAndType 5 6), (0, u "java/util/AbstractCollection"), (0, u "<init>"), (0, u "()V"), (0, .fieldref 8 9), (0, .class_ 10), (0, .nameAndType 11 12), (0, u "java/util/AbstractList"), (0, u "modCount"), (0, u "I"), (64, .class_ 78), (0, u "java/util/AbstractList$Itr"), (3, .class_ 83), (0, u "java/util/AbstractList$ListItr"), (9, .class_ 94), (0, u "java/util/AbstractList$RandomAccessSubList"), (3, .class_ 99), (0, u "java/util/AbstractList$SubList"), (33, .class_ 134), (0, u "java/util/List"), (73, .class_ 209), (0, u "java/util/AbstractList$SubList$1"), (0, .class_ 211), (0, u "java/util/AbstractList$RandomAccessSpliterator")] 6

def k7c0 : Code := { maxStack := 2, maxLocals := 1, code := jdk_39_method_1_code, exceptionTable := #[], attributes := #[] }
def k7m0 : Method := { name := "<init>", desc := "()V", sig := { parameters := [], returnType := none }, accessFlags := 4, code := some k7c0 }
/-- java/util/AbstractList -/
def k7 : Class := { plain "java/util/AbstractList" (some 4) with
  accessFlags := 1057
  interfaces := #[6]
  cf := some (fileOf pool7 8 #[.nestMembers #[93, 98, 208, 210, 82, 77]] #[{ accessFlags := 4, nameIndex := 5, descriptorIndex := 6, attributes := #[] }] 1057 2 #[133] #[{ accessFlags := 132, nameIndex := 11, descriptorIndex := 12, attributes := #[] }])
  fields := #[{ name := "modCount", type := .int, accessFlags := 132, slot := 0, constantValue := 0 }]
  methods := #[k7m0]
  instanceTypes := #[.int]
  staticTypes := #[]
  resolved := Array.replicate 218 none
  statics := none }

def pool8 : Array CpInfo := pool [(1, .class_ 2), (0, u "java/util/RandomAccess"), (0, .class_ 4), (0, u "java/lang/Object")] 2

/-- java/util/RandomAccess -/
def k8 : Class := { plain "java/util/RandomAccess" (some 0) with
  accessFlags := 1537
  interfaces := #[]
  cf := some (fileOf pool8 1 #[] #[] 1537 3 #[] #[])
  fields := #[]
  methods := #[]
  instanceTypes := #[]
  staticTypes := #[]
  resolved := Array.replicate 7 none
  statics := none }

def pool9 : Array CpInfo := pool [(1, .class_ 2), (0, u "com/example/anchored_threads/anchoredthreads/internal/ChunkedList"), (0, .methodref 4 5), (0, .class_ 6), (0, .nameAndType 7 8), (0, u "java/util/AbstractList"), (0, u "<init>"), (0, u "()V"), (0, .class_ 10), (0, u "[Ljava/lang/Object;"), (0, .class_ 12), (0, u "java/lang/Object"), (0, .fieldref 1 14), (0, .nameAndType 15 16), (0, u "chunks"), (0, u "[[Ljava/lang/Object;"), (0, .fieldref 1 18), (0, .nameAndType 19 20), (0, u "size"), (0, u "I"), (0, .methodref 22 23), (0, .class_ 24), (0, .nameAndType 25 26), (0, u "java/util/Arrays"), (0, u "copyOf"), (0, u "([Ljava/lang/Object;I)[Ljava/lang/Object;"), (1, .methodref 29 30), (0, .class_ 31), (0, .nameAndType 32 33), (0, u "java/lang/Math"), (0, u "min"), (0, u "(II)I"), (0, .fieldref 1 35), (0, .nameAndType 36 20), (0, u "modCount"), (7, .methodref 45 46), (0, .class_ 47), (0, .nameAndType 48 33), (0, u "java/util/Objects"), (0, u "checkIndex"), (0, .class_ 50), (0, u "java/util/RandomAccess"), (0, u "CHUNK_BITS"), (2, u "CHUNK"), (1, u "FIRST_CHUNK"), (3, u "add"), (0, u "(Ljava/lang/Object;)Z"), (6, u "get"), (0, u "(I)Ljava/lang/Object;")] 5

def k9c0 : Code := { maxStack := 5, maxLocals := 1, code := prog_28_method_1_code, exceptionTable := #[], attributes := #[] }
def k9m0 : Method := { name := "<init>", desc := "()V", sig := { parameters := [], returnType := none }, accessFlags := 1, code := some k9c0 }
def k9c1 : Code := { maxStack := 4, maxLocals := 5, code := prog_28_method_2_code, exceptionTable := #[], attributes := #[] }
def k9m1 : Method := { name := "add", desc := "(Ljava/lang/Object;)Z", sig := { parameters := [(.object "java/lang/Object")], returnType := some .boolean }, accessFlags := 1, code := some k9c1 }
def k9c2 : Code := { maxStack := 3, maxLocals := 3, code := prog_28_method_4_code, exceptionTable := #[], attributes := #[] }
def k9m2 : Method := { name := "get", desc := "(I)Ljava/lang/Object;", sig := { parameters := [.int], returnType := some (.object "java/lang/Object") }, accessFlags := 1, code := some k9c2 }
/-- com/example/anchored_threads/anchoredthreads/internal/ChunkedList -/
def k9 : Class := { plain "com/example/anchored_threads/anchoredthreads/internal/ChunkedList" (some 7) with
  accessFlags := 49
  interfaces := #[8]
  cf := some (fileOf pool9 1 #[] #[{ accessFlags := 1, nameIndex := 7, descriptorIndex := 8, attributes := #[] }, { accessFlags := 1, nameIndex := 60, descriptorIndex := 61, attributes := #[] }, { accessFlags := 1, nameIndex := 68, descriptorIndex := 69, attributes := #[] }] 49 4 #[49] #[{ accessFlags := 26, nameIndex := 51, descriptorIndex := 20, attributes := #[] }, { accessFlags := 24, nameIndex := 54, descriptorIndex := 20, attributes := #[] }, { accessFlags := 24, nameIndex := 56, descriptorIndex := 20, attributes := #[] }, { accessFlags := 2, nameIndex := 15, descriptorIndex := 16, attributes := #[] }, { accessFlags := 2, nameIndex := 19, descriptorIndex := 20, attributes := #[] }])
  fields := #[{ name := "CHUNK_BITS", type := .int, accessFlags := 26, slot := 0, constantValue := 0 }, { name := "CHUNK", type := .int, accessFlags := 24, slot := 1, constantValue := 0 }, { name := "FIRST_CHUNK", type := .int, accessFlags := 24, slot := 2, constantValue := 0 }, { name := "chunks", type := (.array (.array (.object "java/lang/Object"))), accessFlags := 2, slot := 1, constantValue := 0 }, { name := "size", type := .int, accessFlags := 2, slot := 2, constantValue := 0 }]
  methods := #[k9m0, k9m1, k9m2]
  instanceTypes := #[.int, (.array (.array (.object "java/lang/Object"))), .int]
  staticTypes := #[.int, .int, .int]
  resolved := Array.replicate 75 none
  statics := none }

def pool10 : Array CpInfo := pool [(1, .class_ 2), (0, u "java/io/Serializable"), (0, .class_ 4), (0, u "java/lang/Object")] 2

/-- java/io/Serializable -/
def k10 : Class := { plain "java/io/Serializable" (some 0) with
  accessFlags := 1537
  interfaces := #[]
  cf := some (fileOf pool10 1 #[] #[] 1537 3 #[] #[])
  fields := #[]
  methods := #[]
  instanceTypes := #[]
  staticTypes := #[]
  resolved := Array.replicate 7 none
  statics := none }

def pool11 : Array CpInfo := pool [(1, .methodref 2 3), (0, .class_ 4), (0, .nameAndType 5 6), (0, u "java/lang/Object"), (0, u "<init>"), (0, u "()V"), (1, .class_ 10), (1, u "java/lang/Number"), (2, .class_ 14), (0, u "java/io/Serializable"), (0, u "serialVersionUID"), (0, u "J")] 20

def k11c0 : Code := { maxStack := 1, maxLocals := 1, code := jdk_18_method_1_code, exceptionTable := #[], attributes := #[] }
def k11m0 : Method := { name := "<init>", desc := "()V", sig := { parameters := [], returnType := none }, accessFlags := 1, code := some k11c0 }
/-- java/lang/Number -/
def k11 : Class := { plain "java/lang/Number" (some 0) with
  accessFlags := 1057
  interfaces := #[10]
  cf := some (fileOf pool11 8 #[] #[{ accessFlags := 1, nameIndex := 5, descriptorIndex := 6, attributes := #[] }] 1057 2 #[13] #[{ accessFlags := 26, nameIndex := 15, descriptorIndex := 16, attributes := #[] }])
  fields := #[{ name := "serialVersionUID", type := .long, accessFlags := 26, slot := 0, constantValue := 0 }]
  methods := #[k11m0]
  instanceTypes := #[]
  staticTypes := #[.long]
  resolved := Array.replicate 37 none
  statics := none }

def pool12 : Array CpInfo := pool [(1, .class_ 2), (0, u "java/lang/Comparable"), (0, .class_ 4), (0, u "java/lang/Object")] 7

/-- java/lang/Comparable -/
def k12 : Class := { plain "java/lang/Comparable" (some 0) with
  accessFlags := 1537
  interfaces := #[]
  cf := some (fileOf pool12 1 #[] #[] 1537 3 #[] #[])
  fields := #[]
  methods := #[]
  instanceTypes := #[]
  staticTypes := #[]
  resolved := Array.replicate 12 none
  statics := none }

def pool13 : Array CpInfo := pool [(1, .class_ 2), (0, u "java/lang/constant/Constable"), (0, .class_ 4), (0, u "java/lang/Object")] 6

/-- java/lang/constant/Constable -/
def k13 : Class := { plain "java/lang/constant/Constable" (some 0) with
  accessFlags := 1537
  interfaces := #[]
  cf := some (fileOf pool13 1 #[] #[] 1537 3 #[] #[])
  fields := #[]
  methods := #[]
  instanceTypes := #[]
  staticTypes := #[]
  resolved := Array.replicate 11 none
  statics := none }

def pool14 : Array CpInfo := pool [(1, .class_ 2), (0, u "java/lang/constant/ConstantDesc"), (0, .class_ 4), (0, u "java/lang/Object")] 32

/-- java/lang/constant/ConstantDesc -/
def k14 : Class := { plain "java/lang/constant/ConstantDesc" (some 0) with
  accessFlags := 1537
  interfaces := #[]
  cf := some (fileOf pool14 1 #[] #[] 1537 3 #[] #[])
  fields := #[]
  methods := #[]
  instanceTypes := #[]
  staticTypes := #[]
  resolved := Array.replicate 37 none
  statics := none }

def pool15 : Array CpInfo := pool [(1, .class_ 2), (0, u "java/lang/Integer"), (16, u "digits"), (0, u "[C"), (46, u "<init>"), (17, u "DigitOnes"), (0, u "[B"), (2, u "DigitTens"), (10, .nameAndType 67 101), (0, u "()V"), (19, u "()I"), (65, u "valueOf"), (0, u "(I)Ljava/lang/Integer;"), (0, .class_ 190), (0, u "java/lang/Integer$IntegerCache"), (0, .fieldref 189 192), (0, .nameAndType 193 194), (0, u "high"), (0, u "I"), (0, .fieldref 189 196), (0, .nameAndType 197 198), (0, u "cache"), (0, u "[Ljava/lang/Integer;"), (0, .methodref 1 200), (0, .nameAndType 67 201), (0, u "(I)V"), (0, .methodref 203 100), (0, .class_ 204), (0, u "java/lang/Number"), (0, .fieldref 1 206), (0, .nameAndType 207 194), (0, u "value"), (5, u "intValue"), (88, u "TYPE"), (0, u "Ljava/lang/Class;"), (0, .class_ 305), (0, u "java/lang/Comparable"), (0, .class_ 307), (0, u "java/lang/constant/Constable"), (0, .class_ 309), (0, u "java/lang/constant/ConstantDesc"), (0, u "MIN_VALUE"), (1, u "MAX_VALUE"), (3, u "SIZE"), (1, u "BYTES"), (1, u "serialVersionUID"), (0, u "J")] 131

def k15c0 : Code := { maxStack := 3, maxLocals := 1, code := jdk_33_method_22_code, exceptionTable := #[], attributes := #[] }
def k15m0 : Method := { name := "valueOf", desc := "(I)Ljava/lang/Integer;", sig := { parameters := [.int], returnType := some (.object "java/lang/Integer") }, accessFlags := 9, code := some k15c0 }
def k15c1 : Code := { maxStack := 2, maxLocals := 2, code := jdk_33_method_23_code, exceptionTable := #[], attributes := #[] }
def k15m1 : Method := { name := "<init>", desc := "(I)V", sig := { parameters := [.int], returnType := none }, accessFlags := 1, code := some k15c1 }
def k15c2 : Code := { maxStack := 1, maxLocals := 1, code := jdk_33_method_27_code, exceptionTable := #[], attributes := #[] }
def k15m2 : Method := { name := "intValue", desc := "()I", sig := { parameters := [], returnType := some .int }, accessFlags := 1, code := some k15c2 }
/-- java/lang/Integer -/
def k15 : Class := { plain "java/lang/Integer" (some 11) with
  accessFlags := 49
  interfaces := #[12, 13, 14]
  cf := some (fileOf pool15 1 #[.nestMembers #[189]] #[{ accessFlags := 9, nameIndex := 187, descriptorIndex := 188, attributes := #[] }, { accessFlags := 1, nameIndex := 67, descriptorIndex := 201, attributes := #[] }, { accessFlags := 1, nameIndex := 213, descriptorIndex := 121, attributes := #[] }] 49 203 #[304, 306, 308] #[{ accessFlags := 25, nameIndex := 310, descriptorIndex := 194, attributes := #[] }, { accessFlags := 25, nameIndex := 312, descriptorIndex := 194, attributes := #[] }, { accessFlags := 25, nameIndex := 302, descriptorIndex := 303, attributes := #[] }, { accessFlags := 24, nameIndex := 19, descriptorIndex := 20, attributes := #[] }, { accessFlags := 24, nameIndex := 89, descriptorIndex := 86, attributes := #[] }, { accessFlags := 24, nameIndex := 85, descriptorIndex := 86, attributes := #[] }, { accessFlags := 18, nameIndex := 207, descriptorIndex := 194, attributes := #[] }, { accessFlags := 25, nameIndex := 316, descriptorIndex := 194, attributes := #[] }, { accessFlags := 25, nameIndex := 318, descriptorIndex := 194, attributes := #[] }, { accessFlags := 26, nameIndex := 320, descriptorIndex := 321, attributes := #[] }])
  fields := #[{ name := "MIN_VALUE", type := .int, accessFlags := 25, slot := 0, constantValue := 0 }, { name := "MAX_VALUE", type := .int, accessFlags := 25, slot := 1, constantValue := 0 }, { name := "TYPE", type := (.object "java/lang/Class"), accessFlags := 25, slot := 2, constantValue := 0 }, { name := "digits", type := (.array .char), accessFlags := 24, slot := 3, constantValue := 0 }, { name := "DigitTens", type := (.array .byte), accessFlags := 24, slot := 4, constantValue := 0 }, { name := "DigitOnes", type := (.array .byte), accessFlags := 24, slot := 5, constantValue := 0 }, { name := "value", type := .int, accessFlags := 18, slot := 0, constantValue := 0 }, { name := "SIZE", type := .int, accessFlags := 25, slot := 6, constantValue := 0 }, { name := "BYTES", type := .int, accessFlags := 25, slot := 7, constantValue := 0 }, { name := "serialVersionUID", type := .long, accessFlags := 26, slot := 8, constantValue := 0 }]
  methods := #[k15m0, k15m1, k15m2]
  instanceTypes := #[.int]
  staticTypes := #[.int, .int, (.object "java/lang/Class"), (.array .char), (.array .byte), (.array .byte), .int, .int, .long]
  resolved := Array.replicate 453 none
  statics := none }

def pool16 : Array CpInfo := pool [(2, .class_ 4), (1, u "java/lang/Object"), (0, u "<init>"), (0, u "()V"), (0, .class_ 8), (0, u "java/lang/Integer"), (7, .class_ 18), (1, u "java/lang/Integer$IntegerCache"), (0, u "$assertionsDisabled"), (0, u "Z"), (26, u "high"), (0, u "I"), (8, u "archivedCache"), (0, u "[Ljava/lang/Integer;"), (12, u "cache"), (0, u "low")] 27

def k16m0 : Method := { name := "<init>", desc := "()V", sig := { parameters := [], returnType := none }, accessFlags := 2, code := none }
/-- java/lang/Integer$IntegerCache -/
def k16 : Class := { plain "java/lang/Integer$IntegerCache" (some 0) with
  accessFlags := 48
  interfaces := #[]
  cf := some (fileOf pool16 16 #[.nestHost 7] #[{ accessFlags := 2, nameIndex := 5, descriptorIndex := 6, attributes := #[] }] 48 2 #[] #[{ accessFlags := 24, nameIndex := 72, descriptorIndex := 48, attributes := #[] }, { accessFlags := 24, nameIndex := 47, descriptorIndex := 48, attributes := #[] }, { accessFlags := 24, nameIndex := 71, descriptorIndex := 58, attributes := #[] }, { accessFlags := 8, nameIndex := 57, descriptorIndex := 58, attributes := #[] }, { accessFlags := 4120, nameIndex := 19, descriptorIndex := 20, attributes := #[] }])
  fields := #[{ name := "low", type := .int, accessFlags := 24, slot := 0, constantValue := 0 }, { name := "high", type := .int, accessFlags := 24, slot := 1, constantValue := 0 }, { name := "cache", type := (.array (.object "java/lang/Integer")), accessFlags := 24, slot := 2, constantValue := 0 }, { name := "archivedCache", type := (.array (.object "java/lang/Integer")), accessFlags := 8, slot := 3, constantValue := 0 }, { name := "$assertionsDisabled", type := .boolean, accessFlags := 4120, slot := 4, constantValue := 0 }]
  methods := #[k16m0]
  instanceTypes := #[]
  staticTypes := #[.int, .int, (.array (.object "java/lang/Integer")), (.array (.object "java/lang/Integer")), .boolean]
  resolved := Array.replicate 100 none
  statics := some 0 }

def pool17 : Array CpInfo := pool [(2, .class_ 4), (1, u "java/lang/Object"), (0, u "<init>"), (0, u "()V"), (35, .class_ 44), (1, u "java/util/Objects"), (60, .methodref 106 107), (0, .class_ 108), (0, .nameAndType 109 110), (0, u "jdk/internal/util/Preconditions"), (0, u "checkIndex"), (0, u "(IILjava/util/function/BiFunction;)I"), (60, u "(II)I")] 12

def k17m0 : Method := { name := "<init>", desc := "()V", sig := { parameters := [], returnType := none }, accessFlags := 2, code := none }
def k17c1 : Code := { maxStack := 3, maxLocals := 2, code := jdk_31_method_17_code, exceptionTable := #[], attributes := #[] }
def k17m1 : Method := { name := "checkIndex", desc := "(II)I", sig := { parameters := [.int, .int], returnType := some .int }, accessFlags := 9, code := some k17c1 }
/-- java/util/Objects -/
def k17 : Class := { plain "java/util/Objects" (some 0) with
  accessFlags := 49
  interfaces := #[]
  cf := some (fileOf pool17 42 #[] #[{ accessFlags := 2, nameIndex := 5, descriptorIndex := 6, attributes := #[] }, { accessFlags := 9, nameIndex := 109, descriptorIndex := 171, attributes := #[] }] 49 2 #[] #[])
  fields := #[]
  methods := #[k17m0, k17m1]
  instanceTypes := #[]
  staticTypes := #[]
  resolved := Array.replicate 184 none
  statics := none }

def pool18 : Array CpInfo := pool [(2, .class_ 4), (1, u "java/lang/Object"), (0, u "<init>"), (0, u "()V"), (17, .class_ 26), (1, u "jdk/internal/util/Preconditions"), (6, u "checkIndex"), (21, .class_ 56), (0, u "jdk/internal/util/Preconditions$4"), (57, .class_ 115), (0, u "jdk/internal/util/Preconditions$1"), (7, u "SIOOBE_FORMATTER"), (0, u "Ljava/util/function/BiFunction;"), (0, .class_ 126), (0, u "jdk/internal/util/Preconditions$2"), (3, u "AIOOBE_FORMATTER"), (0, .class_ 132), (0, u "jdk/internal/util/Preconditions$3"), (3, u "IOOBE_FORMATTER"), (41, u "(IILjava/util/function/BiFunction;)I")] 15

def k18m0 : Method := { name := "<init>", desc := "()V", sig := { parameters := [], returnType := none }, accessFlags := 1, code := none }
def k18c1 : Code := { maxStack := 3, maxLocals := 3, code := jdk_41_method_11_code, exceptionTable := #[], attributes := #[] }
def k18m1 : Method := { name := "checkIndex", desc := "(IILjava/util/function/BiFunction;)I", sig := { parameters := [.int, .int, (.object "java/util/function/BiFunction")], returnType := some .int }, accessFlags := 9, code := some k18c1 }
/-- jdk/internal/util/Preconditions -/
def k18 : Class := { plain "jdk/internal/util/Preconditions" (some 0) with
  accessFlags := 33
  interfaces := #[]
  cf := some (fileOf pool18 24 #[.nestMembers #[55, 131, 125, 114]] #[{ accessFlags := 1, nameIndex := 5, descriptorIndex := 6, attributes := #[] }, { accessFlags := 9, nameIndex := 33, descriptorIndex := 178, attributes := #[] }] 33 2 #[] #[{ accessFlags := 25, nameIndex := 123, descriptorIndex := 124, attributes := #[] }, { accessFlags := 25, nameIndex := 130, descriptorIndex := 124, attributes := #[] }, { accessFlags := 25, nameIndex := 136, descriptorIndex := 124, attributes := #[] }])
  fields := #[{ name := "SIOOBE_FORMATTER", type := (.object "java/util/function/BiFunction"), accessFlags := 25, slot := 0, constantValue := 0 }, { name := "AIOOBE_FORMATTER", type := (.object "java/util/function/BiFunction"), accessFlags := 25, slot := 1, constantValue := 0 }, { name := "IOOBE_FORMATTER", type := (.object "java/util/function/BiFunction"), accessFlags := 25, slot := 2, constantValue := 0 }]
  methods := #[k18m0, k18m1]
  instanceTypes := #[]
  staticTypes := #[(.object "java/util/function/BiFunction"), (.object "java/util/function/BiFunction"), (.object "java/util/function/BiFunction")]
  resolved := Array.replicate 194 none
  statics := none }

def pool19 : Array CpInfo := pool [(1, .class_ 2), (0, u "java/lang/Math"), (1, .class_ 6), (1, u "java/lang/Object"), (0, u "<init>"), (0, u "()V"), (89, .class_ 100), (1, u "java/lang/Math$RandomNumberGeneratorHolder"), (71, u "negativeZeroFloatBits"), (0, u "J"), (2, u "negativeZeroDoubleBits"), (24, u "min"), (43, u "$assertionsDisabled"), (0, u "Z"), (88, u "(II)I"), (2, u "twoToTheDoubleScaleDown"), (0, u "D"), (4, u "twoToTheDoubleScaleUp"), (9, u "E"), (3, u "PI"), (2, u "TAU"), (2, u "DEGREES_TO_RADIANS"), (0, u "RADIANS_TO_DEGREES")] 94

def k19m0 : Method := { name := "<init>", desc := "()V", sig := { parameters := [], returnType := none }, accessFlags := 2, code := none }
def k19c1 : Code := { maxStack := 2, maxLocals := 2, code := jdk_29_method_69_code, exceptionTable := #[], attributes := #[] }
def k19m1 : Method := { name := "min", desc := "(II)I", sig := { parameters := [.int, .int], returnType := some .int }, accessFlags := 9, code := some k19c1 }
/-- java/lang/Math -/
def k19 : Class := { plain "java/lang/Math" (some 0) with
  accessFlags := 49
  interfaces := #[]
  cf := some (fileOf pool19 1 #[.nestMembers #[98]] #[{ accessFlags := 2, nameIndex := 7, descriptorIndex := 8, attributes := #[] }, { accessFlags := 9, nameIndex := 201, descriptorIndex := 335, attributes := #[] }] 49 4 #[] #[{ accessFlags := 25, nameIndex := 354, descriptorIndex := 339, attributes := #[] }, { accessFlags := 25, nameIndex := 358, descriptorIndex := 339, attributes := #[] }, { accessFlags := 25, nameIndex := 361, descriptorIndex := 339, attributes := #[] }, { accessFlags := 26, nameIndex := 364, descriptorIndex := 339, attributes := #[] }, { accessFlags := 26, nameIndex := 365, descriptorIndex := 339, attributes := #[] }, { accessFlags := 26, nameIndex := 172, descriptorIndex := 173, attributes := #[] }, { accessFlags := 26, nameIndex := 176, descriptorIndex := 173, attributes := #[] }, { accessFlags := 8, nameIndex := 344, descriptorIndex := 339, attributes := #[] }, { accessFlags := 8, nameIndex := 338, descriptorIndex := 339, attributes := #[] }, { accessFlags := 4120, nameIndex := 245, descriptorIndex := 246, attributes := #[] }])
  fields := #[{ name := "E", type := .double, accessFlags := 25, slot := 0, constantValue := 0 }, { name := "PI", type := .double, accessFlags := 25, slot := 1, constantValue := 0 }, { name := "TAU", type := .double, accessFlags := 25, slot := 2, constantValue := 0 }, { name := "DEGREES_TO_RADIANS", type := .double, accessFlags := 26, slot := 3, constantValue := 0 }, { name := "RADIANS_TO_DEGREES", type := .double, accessFlags := 26, slot := 4, constantValue := 0 }, { name := "negativeZeroFloatBits", type := .long, accessFlags := 26, slot := 5, constantValue := 0 }, { name := "negativeZeroDoubleBits", type := .long, accessFlags := 26, slot := 6, constantValue := 0 }, { name := "twoToTheDoubleScaleUp", type := .double, accessFlags := 8, slot := 7, constantValue := 0 }, { name := "twoToTheDoubleScaleDown", type := .double, accessFlags := 8, slot := 8, constantValue := 0 }, { name := "$assertionsDisabled", type := .boolean, accessFlags := 4120, slot := 9, constantValue := 0 }]
  methods := #[k19m0, k19m1]
  instanceTypes := #[]
  staticTypes := #[.double, .double, .double, .double, .double, .long, .long, .double, .double, .boolean]
  resolved := Array.replicate 460 none
  statics := none }

def pool20 : Array CpInfo := pool [(2, .class_ 4), (1, u "java/lang/Object"), (0, u "<init>"), (0, u "()V"), (7, .class_ 16), (1, u "java/util/Arrays"), (57, .class_ 76), (1, u "java/util/Arrays$NaturalOrder"), (9, .methodref 2 87), (0, .nameAndType 88 89), (0, u "getClass"), (0, u "()Ljava/lang/Class;"), (20, .class_ 111), (0, u "[Ljava/lang/Object;"), (1, .class_ 115), (1, u "java/util/Arrays$LegacyMergeSort"), (1, u "Z"), (32, .methodref 151 152), (0, .class_ 153), (0, .nameAndType 154 155), (0, u "java/lang/System"), (0, u "arraycopy"), (0, u "(Ljava/lang/Object;ILjava/lang/Object;II)V"), (144, .methodref 14 301), (0, .nameAndType 302 303), (0, u "copyOf"), (0, u "([Ljava/lang/Object;ILjava/lang/Class;)[Ljava/lang/Object;"), (0, .methodref 305 306), (0, .class_ 307), (0, .nameAndType 308 309), (0, u "java/lang/Math"), (0, u "min"), (0, u "(II)I"), (65, .class_ 376), (0, u "java/util/Arrays$ArrayList"), (68, u "$assertionsDisabled"), (269, u "MIN_ARRAY_SORT_GRAN"), (0, u "I"), (2, u "INSERTIONSORT_THRESHOLD"), (140, u "([Ljava/lang/Object;I)[Ljava/lang/Object;"), (114, .class_ 976), (0, u "java/util/Arrays$ArrayItr")] 52

def k20m0 : Method := { name := "<init>", desc := "()V", sig := { parameters := [], returnType := none }, accessFlags := 2, code := none }
def k20c1 : Code := { maxStack := 3, maxLocals := 2, code := jdk_65_method_119_code, exceptionTable := #[], attributes := #[] }
def k20m1 : Method := { name := "copyOf", desc := "([Ljava/lang/Object;I)[Ljava/lang/Object;", sig := { parameters := [(.array (.object "java/lang/Object")), .int], returnType := some (.array (.object "java/lang/Object")) }, accessFlags := 9, code := some k20c1 }
def k20c2 : Code := { maxStack := 6, maxLocals := 4, code := jdk_65_method_120_code, exceptionTable := #[], attributes := #[] }
def k20m2 : Method := { name := "copyOf", desc := "([Ljava/lang/Object;ILjava/lang/Class;)[Ljava/lang/Object;", sig := { parameters := [(.array (.object "java/lang/Object")), .int, (.object "java/lang/Class")], returnType := some (.array (.object "java/lang/Object")) }, accessFlags := 9, code := some k20c2 }
/-- java/util/Arrays -/
def k20 : Class := { plain "java/util/Arrays" (some 0) with
  accessFlags := 49
  interfaces := #[]
  cf := some (fileOf pool20 14 #[.nestMembers #[975, 375, 113, 74]] #[{ accessFlags := 2, nameIndex := 5, descriptorIndex := 6, attributes := #[] }, { accessFlags := 9, nameIndex := 302, descriptorIndex := 860, attributes := #[] }, { accessFlags := 9, nameIndex := 302, descriptorIndex := 303, attributes := #[] }] 49 2 #[] #[{ accessFlags := 26, nameIndex := 715, descriptorIndex := 716, attributes := #[] }, { accessFlags := 26, nameIndex := 719, descriptorIndex := 716, attributes := #[] }, { accessFlags := 4120, nameIndex := 445, descriptorIndex := 117, attributes := #[] }])
  fields := #[{ name := "MIN_ARRAY_SORT_GRAN", type := .int, accessFlags := 26, slot := 0, constantValue := 0 }, { name := "INSERTIONSORT_THRESHOLD", type := .int, accessFlags := 26, slot := 1, constantValue := 0 }, { name := "$assertionsDisabled", type := .boolean, accessFlags := 4120, slot := 2, constantValue := 0 }]
  methods := #[k20m0, k20m1, k20m2]
  instanceTypes := #[]
  staticTypes := #[.int, .int, .boolean]
  resolved := Array.replicate 1029 none
  statics := none }

def pool21 : Array CpInfo := pool [(2, .class_ 4), (1, u "java/lang/Object"), (0, u "<init>"), (0, u "()V"), (1, .class_ 10), (1, u "java/lang/System"), (0, u "allowSecurityManager"), (0, u "I"), (16, u "cons"), (0, u "Ljava/io/Console;"), (77, .class_ 110), (1, u "java/lang/System$CallersHolder"), (43, u "initialErrStream"), (0, u "Ljava/io/PrintStream;"), (19, u "security"), (0, u "Ljava/lang/SecurityManager;"), (31, .class_ 209), (0, u "java/lang/System$1"), (7, u "props"), (0, u "Ljava/util/Properties;"), (2, u "lineSeparator"), (0, u "Ljava/lang/String;"), (96, .class_ 321), (1, u "java/lang/System$LoggerFinder"), (5, .class_ 328), (0, u "java/lang/System$Logger"), (67, u "err"), (2, u "out"), (91, u "notSupportedJnuEncoding"), (15, u "in"), (17, u "initialIn"), (0, u "Ljava/io/InputStream;"), (35, u "bootLayer"), (0, u "Ljava/lang/ModuleLayer;"), (99, .class_ 664), (0, u "java/lang/System$2"), (9, u "NEVER"), (2, u "MAYBE"), (49, u "arraycopy"), (0, u "(Ljava/lang/Object;ILjava/lang/Object;II)V"), (72, .class_ 802), (0, u "java/lang/System$Logger$Level")] 31

def k21m0 : Method := { name := "<init>", desc := "()V", sig := { parameters := [], returnType := none }, accessFlags := 2, code := none }
def k21m1 : Method := { name := "arraycopy", desc := "(Ljava/lang/Object;ILjava/lang/Object;II)V", sig := { parameters := [(.object "java/lang/Object"), .int, (.object "java/lang/Object"), .int, .int], returnType := none }, accessFlags := 265, code := none }
/-- java/lang/System -/
def k21 : Class := { plain "java/lang/System" (some 0) with
  accessFlags := 49
  interfaces := #[]
  cf := some (fileOf pool21 8 #[.nestMembers #[319, 327, 801, 108, 663, 208]] #[{ accessFlags := 2, nameIndex := 5, descriptorIndex := 6, attributes := #[] }, { accessFlags := 265, nameIndex := 727, descriptorIndex := 728, attributes := #[] }] 49 2 #[] #[{ accessFlags := 25, nameIndex := 507, descriptorIndex := 526, attributes := #[] }, { accessFlags := 25, nameIndex := 399, descriptorIndex := 155, attributes := #[] }, { accessFlags := 25, nameIndex := 396, descriptorIndex := 155, attributes := #[] }, { accessFlags := 10, nameIndex := 525, descriptorIndex := 526, attributes := #[] }, { accessFlags := 26, nameIndex := 674, descriptorIndex := 12, attributes := #[] }, { accessFlags := 26, nameIndex := 677, descriptorIndex := 12, attributes := #[] }, { accessFlags := 10, nameIndex := 11, descriptorIndex := 12, attributes := #[] }, { accessFlags := 74, nameIndex := 175, descriptorIndex := 176, attributes := #[] }, { accessFlags := 10, nameIndex := 491, descriptorIndex := 222, attributes := #[] }, { accessFlags := 74, nameIndex := 29, descriptorIndex := 30, attributes := #[] }, { accessFlags := 74, nameIndex := 154, descriptorIndex := 155, attributes := #[] }, { accessFlags := 10, nameIndex := 217, descriptorIndex := 218, attributes := #[] }, { accessFlags := 10, nameIndex := 221, descriptorIndex := 222, attributes := #[] }, { accessFlags := 8, nameIndex := 562, descriptorIndex := 563, attributes := #[] }])
  fields := #[{ name := "in", type := (.object "java/io/InputStream"), accessFlags := 25, slot := 0, constantValue := 0 }, { name := "out", type := (.object "java/io/PrintStream"), accessFlags := 25, slot := 1, constantValue := 0 }, { name := "err", type := (.object "java/io/PrintStream"), accessFlags := 25, slot := 2, constantValue := 0 }, { name := "initialIn", type := (.object "java/io/InputStream"), accessFlags := 10, slot := 3, constantValue := 0 }, { name := "NEVER", type := .int, accessFlags := 26, slot := 4, constantValue := 0 }, { name := "MAYBE", type := .int, accessFlags := 26, slot := 5, constantValue := 0 }, { name := "allowSecurityManager", type := .int, accessFlags := 10, slot := 6, constantValue := 0 }, { name := "security", type := (.object "java/lang/SecurityManager"), accessFlags := 74, slot := 7, constantValue := 0 }, { name := "notSupportedJnuEncoding", type := (.object "java/lang/String"), accessFlags := 10, slot := 8, constantValue := 0 }, { name := "cons", type := (.object "java/io/Console"), accessFlags := 74, slot := 9, constantValue := 0 }, { name := "initialErrStream", type := (.object "java/io/PrintStream"), accessFlags := 74, slot := 10, constantValue := 0 }, { name := "props", type := (.object "java/util/Properties"), accessFlags := 10, slot := 11, constantValue := 0 }, { name := "lineSeparator", type := (.object "java/lang/String"), accessFlags := 10, slot := 12, constantValue := 0 }, { name := "bootLayer", type := (.object "java/lang/ModuleLayer"), accessFlags := 8, slot := 13, constantValue := 0 }]
  methods := #[k21m0, k21m1]
  instanceTypes := #[]
  staticTypes := #[(.object "java/io/InputStream"), (.object "java/io/PrintStream"), (.object "java/io/PrintStream"), (.object "java/io/InputStream"), .int, .int, .int, (.object "java/lang/SecurityManager"), (.object "java/lang/String"), (.object "java/io/Console"), (.object "java/io/PrintStream"), (.object "java/util/Properties"), (.object "java/lang/String"), (.object "java/lang/ModuleLayer")]
  resolved := Array.replicate 834 none
  statics := none }

def pool22 : Array CpInfo := pool [(1, u "java/lang/Cloneable"), (0, .class_ 1), (0, u "java/lang/Object"), (0, .class_ 3)] 3

/-- java/lang/Cloneable -/
def k22 : Class := { plain "java/lang/Cloneable" (some 0) with
  accessFlags := 1537
  interfaces := #[]
  cf := some (fileOf pool22 2 #[] #[] 1537 4 #[] #[])
  fields := #[]
  methods := #[]
  instanceTypes := #[]
  staticTypes := #[]
  resolved := Array.replicate 8 none
  statics := none }

/-- the primitive byte -/
def k23 : Class := { plain "byte" none with kind := .primitive 'B', accessFlags := 0x411 }
/-- [B -/
def k24 : Class := { plain "[B" (some 0) with kind := .array 23 .byte, interfaces := #[22, 10], accessFlags := 1041 }

/-- the primitive int -/
def k25 : Class := { plain "int" none with kind := .primitive 'I', accessFlags := 0x411 }
/-- [I -/
def k26 : Class := { plain "[I" (some 0) with kind := .array 25 .int, interfaces := #[22, 10], accessFlags := 1041 }

/-- [Ljava/lang/Integer; -/
def k27 : Class := { plain "[Ljava/lang/Integer;" (some 0) with kind := .array 15 (.object "java/lang/Integer"), interfaces := #[22, 10], accessFlags := 1041 }

/-- [Ljava/lang/Object; -/
def k28 : Class := { plain "[Ljava/lang/Object;" (some 0) with kind := .array 0 (.object "java/lang/Object"), interfaces := #[22, 10], accessFlags := 1041, mirror := some 258 }
def k29 : Class := { plain "[[Ljava/lang/Object;" (some 0) with kind := .array 28 (.array (.object "java/lang/Object")), interfaces := #[22, 10], accessFlags := 1041 }

def heap : Heap := #[{ cls := 16, slots := #[.int 0, .int 127, .ref 1, .null, .int 0], vm := .statics 16 },
  { cls := 27, slots := #[.ref 2, .ref 3, .ref 4, .ref 5, .ref 6, .ref 7, .ref 8, .ref 9, .ref 10, .ref 11, .ref 12, .ref 13, .ref 14, .ref 15, .ref 16, .ref 17, .ref 18, .ref 19, .ref 20, .ref 21, .ref 22, .ref 23, .ref 24, .ref 25, .ref 26, .ref 27, .ref 28, .ref 29, .ref 30, .ref 31, .ref 32, .ref 33, .ref 34, .ref 35, .ref 36, .ref 37, .ref 38, .ref 39, .ref 40, .ref 41, .ref 42, .ref 43, .ref 44, .ref 45, .ref 46, .ref 47, .ref 48, .ref 49, .ref 50, .ref 51, .ref 52, .ref 53, .ref 54, .ref 55, .ref 56, .ref 57, .ref 58, .ref 59, .ref 60, .ref 61, .ref 62, .ref 63, .ref 64, .ref 65, .ref 66, .ref 67, .ref 68, .ref 69, .ref 70, .ref 71, .ref 72, .ref 73, .ref 74, .ref 75, .ref 76, .ref 77, .ref 78, .ref 79, .ref 80, .ref 81, .ref 82, .ref 83, .ref 84, .ref 85, .ref 86, .ref 87, .ref 88, .ref 89, .ref 90, .ref 91, .ref 92, .ref 93, .ref 94, .ref 95, .ref 96, .ref 97, .ref 98, .ref 99, .ref 100, .ref 101, .ref 102, .ref 103, .ref 104, .ref 105, .ref 106, .ref 107, .ref 108, .ref 109, .ref 110, .ref 111, .ref 112, .ref 113, .ref 114, .ref 115, .ref 116, .ref 117, .ref 118, .ref 119, .ref 120, .ref 121, .ref 122, .ref 123, .ref 124, .ref 125, .ref 126, .ref 127, .ref 128, .ref 129, .ref 130, .ref 131, .ref 132, .ref 133, .ref 134, .ref 135, .ref 136, .ref 137, .ref 138, .ref 139, .ref 140, .ref 141, .ref 142, .ref 143, .ref 144, .ref 145, .ref 146, .ref 147, .ref 148, .ref 149, .ref 150, .ref 151, .ref 152, .ref 153, .ref 154, .ref 155, .ref 156, .ref 157, .ref 158, .ref 159, .ref 160, .ref 161, .ref 162, .ref 163, .ref 164, .ref 165, .ref 166, .ref 167, .ref 168, .ref 169, .ref 170, .ref 171, .ref 172, .ref 173, .ref 174, .ref 175, .ref 176, .ref 177, .ref 178, .ref 179, .ref 180, .ref 181, .ref 182, .ref 183, .ref 184, .ref 185, .ref 186, .ref 187, .ref 188, .ref 189, .ref 190, .ref 191, .ref 192, .ref 193, .ref 194, .ref 195, .ref 196, .ref 197, .ref 198, .ref 199, .ref 200, .ref 201, .ref 202, .ref 203, .ref 204, .ref 205, .ref 206, .ref 207, .ref 208, .ref 209, .ref 210, .ref 211, .ref 212, .ref 213, .ref 214, .ref 215, .ref 216, .ref 217, .ref 218, .ref 219, .ref 220, .ref 221, .ref 222, .ref 223, .ref 224, .ref 225, .ref 226, .ref 227, .ref 228, .ref 229, .ref 230, .ref 231, .ref 232, .ref 233, .ref 234, .ref 235, .ref 236, .ref 237, .ref 238, .ref 239, .ref 240, .ref 241, .ref 242, .ref 243, .ref 244, .ref 245, .ref 246, .ref 247, .ref 248, .ref 249, .ref 250, .ref 251, .ref 252, .ref 253, .ref 254, .ref 255, .ref 256, .ref 257], vm := .none },
  { cls := 15, slots := #[.int (-128)], vm := .none },
  { cls := 15, slots := #[.int (-127)], vm := .none },
  { cls := 15, slots := #[.int (-126)], vm := .none },
  { cls := 15, slots := #[.int (-125)], vm := .none },
  { cls := 15, slots := #[.int (-124)], vm := .none },
  { cls := 15, slots := #[.int (-123)], vm := .none },
  { cls := 15, slots := #[.int (-122)], vm := .none },
  { cls := 15, slots := #[.int (-121)], vm := .none },
  { cls := 15, slots := #[.int (-120)], vm := .none },
  { cls := 15, slots := #[.int (-119)], vm := .none },
  { cls := 15, slots := #[.int (-118)], vm := .none },
  { cls := 15, slots := #[.int (-117)], vm := .none },
  { cls := 15, slots := #[.int (-116)], vm := .none },
  { cls := 15, slots := #[.int (-115)], vm := .none },
  { cls := 15, slots := #[.int (-114)], vm := .none },
  { cls := 15, slots := #[.int (-113)], vm := .none },
  { cls := 15, slots := #[.int (-112)], vm := .none },
  { cls := 15, slots := #[.int (-111)], vm := .none },
  { cls := 15, slots := #[.int (-110)], vm := .none },
  { cls := 15, slots := #[.int (-109)], vm := .none },
  { cls := 15, slots := #[.int (-108)], vm := .none },
  { cls := 15, slots := #[.int (-107)], vm := .none },
  { cls := 15, slots := #[.int (-106)], vm := .none },
  { cls := 15, slots := #[.int (-105)], vm := .none },
  { cls := 15, slots := #[.int (-104)], vm := .none },
  { cls := 15, slots := #[.int (-103)], vm := .none },
  { cls := 15, slots := #[.int (-102)], vm := .none },
  { cls := 15, slots := #[.int (-101)], vm := .none },
  { cls := 15, slots := #[.int (-100)], vm := .none },
  { cls := 15, slots := #[.int (-99)], vm := .none },
  { cls := 15, slots := #[.int (-98)], vm := .none },
  { cls := 15, slots := #[.int (-97)], vm := .none },
  { cls := 15, slots := #[.int (-96)], vm := .none },
  { cls := 15, slots := #[.int (-95)], vm := .none },
  { cls := 15, slots := #[.int (-94)], vm := .none },
  { cls := 15, slots := #[.int (-93)], vm := .none },
  { cls := 15, slots := #[.int (-92)], vm := .none },
  { cls := 15, slots := #[.int (-91)], vm := .none },
  { cls := 15, slots := #[.int (-90)], vm := .none },
  { cls := 15, slots := #[.int (-89)], vm := .none },
  { cls := 15, slots := #[.int (-88)], vm := .none },
  { cls := 15, slots := #[.int (-87)], vm := .none },
  { cls := 15, slots := #[.int (-86)], vm := .none },
  { cls := 15, slots := #[.int (-85)], vm := .none },
  { cls := 15, slots := #[.int (-84)], vm := .none },
  { cls := 15, slots := #[.int (-83)], vm := .none },
  { cls := 15, slots := #[.int (-82)], vm := .none },
  { cls := 15, slots := #[.int (-81)], vm := .none },
  { cls := 15, slots := #[.int (-80)], vm := .none },
  { cls := 15, slots := #[.int (-79)], vm := .none },
  { cls := 15, slots := #[.int (-78)], vm := .none },
  { cls := 15, slots := #[.int (-77)], vm := .none },
  { cls := 15, slots := #[.int (-76)], vm := .none },
  { cls := 15, slots := #[.int (-75)], vm := .none },
  { cls := 15, slots := #[.int (-74)], vm := .none },
  { cls := 15, slots := #[.int (-73)], vm := .none },
  { cls := 15, slots := #[.int (-72)], vm := .none },
  { cls := 15, slots := #[.int (-71)], vm := .none },
  { cls := 15, slots := #[.int (-70)], vm := .none },
  { cls := 15, slots := #[.int (-69)], vm := .none },
  { cls := 15, slots := #[.int (-68)], vm := .none },
  { cls := 15, slots := #[.int (-67)], vm := .none },
  { cls := 15, slots := #[.int (-66)], vm := .none },
  { cls := 15, slots := #[.int (-65)], vm := .none },
  { cls := 15, slots := #[.int (-64)], vm := .none },
  { cls := 15, slots := #[.int (-63)], vm := .none },
  { cls := 15, slots := #[.int (-62)], vm := .none },
  { cls := 15, slots := #[.int (-61)], vm := .none },
  { cls := 15, slots := #[.int (-60)], vm := .none },
  { cls := 15, slots := #[.int (-59)], vm := .none },
  { cls := 15, slots := #[.int (-58)], vm := .none },
  { cls := 15, slots := #[.int (-57)], vm := .none },
  { cls := 15, slots := #[.int (-56)], vm := .none },
  { cls := 15, slots := #[.int (-55)], vm := .none },
  { cls := 15, slots := #[.int (-54)], vm := .none },
  { cls := 15, slots := #[.int (-53)], vm := .none },
  { cls := 15, slots := #[.int (-52)], vm := .none },
  { cls := 15, slots := #[.int (-51)], vm := .none },
  { cls := 15, slots := #[.int (-50)], vm := .none },
  { cls := 15, slots := #[.int (-49)], vm := .none },
  { cls := 15, slots := #[.int (-48)], vm := .none },
  { cls := 15, slots := #[.int (-47)], vm := .none },
  { cls := 15, slots := #[.int (-46)], vm := .none },
  { cls := 15, slots := #[.int (-45)], vm := .none },
  { cls := 15, slots := #[.int (-44)], vm := .none },
  { cls := 15, slots := #[.int (-43)], vm := .none },
  { cls := 15, slots := #[.int (-42)], vm := .none },
  { cls := 15, slots := #[.int (-41)], vm := .none },
  { cls := 15, slots := #[.int (-40)], vm := .none },
  { cls := 15, slots := #[.int (-39)], vm := .none },
  { cls := 15, slots := #[.int (-38)], vm := .none },
  { cls := 15, slots := #[.int (-37)], vm := .none },
  { cls := 15, slots := #[.int (-36)], vm := .none },
  { cls := 15, slots := #[.int (-35)], vm := .none },
  { cls := 15, slots := #[.int (-34)], vm := .none },
  { cls := 15, slots := #[.int (-33)], vm := .none },
  { cls := 15, slots := #[.int (-32)], vm := .none },
  { cls := 15, slots := #[.int (-31)], vm := .none },
  { cls := 15, slots := #[.int (-30)], vm := .none },
  { cls := 15, slots := #[.int (-29)], vm := .none },
  { cls := 15, slots := #[.int (-28)], vm := .none },
  { cls := 15, slots := #[.int (-27)], vm := .none },
  { cls := 15, slots := #[.int (-26)], vm := .none },
  { cls := 15, slots := #[.int (-25)], vm := .none },
  { cls := 15, slots := #[.int (-24)], vm := .none },
  { cls := 15, slots := #[.int (-23)], vm := .none },
  { cls := 15, slots := #[.int (-22)], vm := .none },
  { cls := 15, slots := #[.int (-21)], vm := .none },
  { cls := 15, slots := #[.int (-20)], vm := .none },
  { cls := 15, slots := #[.int (-19)], vm := .none },
  { cls := 15, slots := #[.int (-18)], vm := .none },
  { cls := 15, slots := #[.int (-17)], vm := .none },
  { cls := 15, slots := #[.int (-16)], vm := .none },
  { cls := 15, slots := #[.int (-15)], vm := .none },
  { cls := 15, slots := #[.int (-14)], vm := .none },
  { cls := 15, slots := #[.int (-13)], vm := .none },
  { cls := 15, slots := #[.int (-12)], vm := .none },
  { cls := 15, slots := #[.int (-11)], vm := .none },
  { cls := 15, slots := #[.int (-10)], vm := .none },
  { cls := 15, slots := #[.int (-9)], vm := .none },
  { cls := 15, slots := #[.int (-8)], vm := .none },
  { cls := 15, slots := #[.int (-7)], vm := .none },
  { cls := 15, slots := #[.int (-6)], vm := .none },
  { cls := 15, slots := #[.int (-5)], vm := .none },
  { cls := 15, slots := #[.int (-4)], vm := .none },
  { cls := 15, slots := #[.int (-3)], vm := .none },
  { cls := 15, slots := #[.int (-2)], vm := .none },
  { cls := 15, slots := #[.int (-1)], vm := .none },
  { cls := 15, slots := #[.int 0], vm := .none },
  { cls := 15, slots := #[.int 1], vm := .none },
  { cls := 15, slots := #[.int 2], vm := .none },
  { cls := 15, slots := #[.int 3], vm := .none },
  { cls := 15, slots := #[.int 4], vm := .none },
  { cls := 15, slots := #[.int 5], vm := .none },
  { cls := 15, slots := #[.int 6], vm := .none },
  { cls := 15, slots := #[.int 7], vm := .none },
  { cls := 15, slots := #[.int 8], vm := .none },
  { cls := 15, slots := #[.int 9], vm := .none },
  { cls := 15, slots := #[.int 10], vm := .none },
  { cls := 15, slots := #[.int 11], vm := .none },
  { cls := 15, slots := #[.int 12], vm := .none },
  { cls := 15, slots := #[.int 13], vm := .none },
  { cls := 15, slots := #[.int 14], vm := .none },
  { cls := 15, slots := #[.int 15], vm := .none },
  { cls := 15, slots := #[.int 16], vm := .none },
  { cls := 15, slots := #[.int 17], vm := .none },
  { cls := 15, slots := #[.int 18], vm := .none },
  { cls := 15, slots := #[.int 19], vm := .none },
  { cls := 15, slots := #[.int 20], vm := .none },
  { cls := 15, slots := #[.int 21], vm := .none },
  { cls := 15, slots := #[.int 22], vm := .none },
  { cls := 15, slots := #[.int 23], vm := .none },
  { cls := 15, slots := #[.int 24], vm := .none },
  { cls := 15, slots := #[.int 25], vm := .none },
  { cls := 15, slots := #[.int 26], vm := .none },
  { cls := 15, slots := #[.int 27], vm := .none },
  { cls := 15, slots := #[.int 28], vm := .none },
  { cls := 15, slots := #[.int 29], vm := .none },
  { cls := 15, slots := #[.int 30], vm := .none },
  { cls := 15, slots := #[.int 31], vm := .none },
  { cls := 15, slots := #[.int 32], vm := .none },
  { cls := 15, slots := #[.int 33], vm := .none },
  { cls := 15, slots := #[.int 34], vm := .none },
  { cls := 15, slots := #[.int 35], vm := .none },
  { cls := 15, slots := #[.int 36], vm := .none },
  { cls := 15, slots := #[.int 37], vm := .none },
  { cls := 15, slots := #[.int 38], vm := .none },
  { cls := 15, slots := #[.int 39], vm := .none },
  { cls := 15, slots := #[.int 40], vm := .none },
  { cls := 15, slots := #[.int 41], vm := .none },
  { cls := 15, slots := #[.int 42], vm := .none },
  { cls := 15, slots := #[.int 43], vm := .none },
  { cls := 15, slots := #[.int 44], vm := .none },
  { cls := 15, slots := #[.int 45], vm := .none },
  { cls := 15, slots := #[.int 46], vm := .none },
  { cls := 15, slots := #[.int 47], vm := .none },
  { cls := 15, slots := #[.int 48], vm := .none },
  { cls := 15, slots := #[.int 49], vm := .none },
  { cls := 15, slots := #[.int 50], vm := .none },
  { cls := 15, slots := #[.int 51], vm := .none },
  { cls := 15, slots := #[.int 52], vm := .none },
  { cls := 15, slots := #[.int 53], vm := .none },
  { cls := 15, slots := #[.int 54], vm := .none },
  { cls := 15, slots := #[.int 55], vm := .none },
  { cls := 15, slots := #[.int 56], vm := .none },
  { cls := 15, slots := #[.int 57], vm := .none },
  { cls := 15, slots := #[.int 58], vm := .none },
  { cls := 15, slots := #[.int 59], vm := .none },
  { cls := 15, slots := #[.int 60], vm := .none },
  { cls := 15, slots := #[.int 61], vm := .none },
  { cls := 15, slots := #[.int 62], vm := .none },
  { cls := 15, slots := #[.int 63], vm := .none },
  { cls := 15, slots := #[.int 64], vm := .none },
  { cls := 15, slots := #[.int 65], vm := .none },
  { cls := 15, slots := #[.int 66], vm := .none },
  { cls := 15, slots := #[.int 67], vm := .none },
  { cls := 15, slots := #[.int 68], vm := .none },
  { cls := 15, slots := #[.int 69], vm := .none },
  { cls := 15, slots := #[.int 70], vm := .none },
  { cls := 15, slots := #[.int 71], vm := .none },
  { cls := 15, slots := #[.int 72], vm := .none },
  { cls := 15, slots := #[.int 73], vm := .none },
  { cls := 15, slots := #[.int 74], vm := .none },
  { cls := 15, slots := #[.int 75], vm := .none },
  { cls := 15, slots := #[.int 76], vm := .none },
  { cls := 15, slots := #[.int 77], vm := .none },
  { cls := 15, slots := #[.int 78], vm := .none },
  { cls := 15, slots := #[.int 79], vm := .none },
  { cls := 15, slots := #[.int 80], vm := .none },
  { cls := 15, slots := #[.int 81], vm := .none },
  { cls := 15, slots := #[.int 82], vm := .none },
  { cls := 15, slots := #[.int 83], vm := .none },
  { cls := 15, slots := #[.int 84], vm := .none },
  { cls := 15, slots := #[.int 85], vm := .none },
  { cls := 15, slots := #[.int 86], vm := .none },
  { cls := 15, slots := #[.int 87], vm := .none },
  { cls := 15, slots := #[.int 88], vm := .none },
  { cls := 15, slots := #[.int 89], vm := .none },
  { cls := 15, slots := #[.int 90], vm := .none },
  { cls := 15, slots := #[.int 91], vm := .none },
  { cls := 15, slots := #[.int 92], vm := .none },
  { cls := 15, slots := #[.int 93], vm := .none },
  { cls := 15, slots := #[.int 94], vm := .none },
  { cls := 15, slots := #[.int 95], vm := .none },
  { cls := 15, slots := #[.int 96], vm := .none },
  { cls := 15, slots := #[.int 97], vm := .none },
  { cls := 15, slots := #[.int 98], vm := .none },
  { cls := 15, slots := #[.int 99], vm := .none },
  { cls := 15, slots := #[.int 100], vm := .none },
  { cls := 15, slots := #[.int 101], vm := .none },
  { cls := 15, slots := #[.int 102], vm := .none },
  { cls := 15, slots := #[.int 103], vm := .none },
  { cls := 15, slots := #[.int 104], vm := .none },
  { cls := 15, slots := #[.int 105], vm := .none },
  { cls := 15, slots := #[.int 106], vm := .none },
  { cls := 15, slots := #[.int 107], vm := .none },
  { cls := 15, slots := #[.int 108], vm := .none },
  { cls := 15, slots := #[.int 109], vm := .none },
  { cls := 15, slots := #[.int 110], vm := .none },
  { cls := 15, slots := #[.int 111], vm := .none },
  { cls := 15, slots := #[.int 112], vm := .none },
  { cls := 15, slots := #[.int 113], vm := .none },
  { cls := 15, slots := #[.int 114], vm := .none },
  { cls := 15, slots := #[.int 115], vm := .none },
  { cls := 15, slots := #[.int 116], vm := .none },
  { cls := 15, slots := #[.int 117], vm := .none },
  { cls := 15, slots := #[.int 118], vm := .none },
  { cls := 15, slots := #[.int 119], vm := .none },
  { cls := 15, slots := #[.int 120], vm := .none },
  { cls := 15, slots := #[.int 121], vm := .none },
  { cls := 15, slots := #[.int 122], vm := .none },
  { cls := 15, slots := #[.int 123], vm := .none },
  { cls := 15, slots := #[.int 124], vm := .none },
  { cls := 15, slots := #[.int 125], vm := .none },
  { cls := 15, slots := #[.int 126], vm := .none },
  { cls := 15, slots := #[.int 127], vm := .none },
  { cls := 0, slots := #[], vm := .mirror 28 }]
def classes : Array Class := #[k0, k1, k2, k3, k4, k5, k6, k7, k8, k9, k10, k11, k12, k13, k14, k15, k16, k17, k18, k19, k20, k21, k22, k23, k24, k25, k26, k27, k28, k29]
def interned : List (Array UInt16 × Addr) := []
def slotsUsed : Nat := 517
def theMethod : MethodId := ⟨1, 1⟩
def args0 : Array Value := #[.int 5, .int 7, .int 3]
def aboutOver (below : List Frame) : State where
  vm := { classes := classes, interned := interned.toArray }
  heap := heap
  slotsUsed := slotsUsed
  threads := #[{ frames := .invoking theMethod args0 :: below }]
def below0 : List Frame := [.native { method := ⟨0, 0⟩, args := #[] }]
def about1 : State := aboutOver below0
def p0 : Program := .bare "" "" ""
def e0 : Env := launch0.env 0 0 0
theorem w_frames : about1.frames = Frame.invoking theMethod args0 :: below0 := rfl
set_option maxRecDepth 65536 in
theorem w_args : argsFit about1.vm theMethod args0 = true := by decide +kernel
set_option maxRecDepth 65536 in
theorem w_heap : heapFits about1 = true := by decide +kernel
set_option maxRecDepth 65536 in
theorem w_runnable : about1.curStatus? = some .runnable := by decide +kernel
set_option maxRecDepth 65536 in
theorem w_alone : about1.alone = true := by decide +kernel
set_option maxRecDepth 65536 in
theorem w_named : about1.methodNamed? x = some theMethod := by decide +kernel
set_option maxRecDepth 65536 in
theorem w_hears : about1.hears theMethod below0 = true := by decide +kernel
set_option maxRecDepth 65536 in
theorem w_ripe : about1.ripe theMethod args0 below0 = true := by decide +kernel
theorem w_running : about1.status = .running := rfl
set_option maxRecDepth 65536 in
theorem w_room : about1.hasRoom e0.platform room_1 = true :=
  launch0.hasRoom_least _ room_1 (by decide +kernel) (by decide +kernel) (by decide +kernel) (by decide +kernel) (by decide +kernel) (by decide +kernel)
theorem allAtoms_all (ts : List Jvm.Cond) (a : Array Jvm.Value) (st : Jvm.State) : (allAtoms ts).before a st = ts.all (fun c => c.before a st) := by
  induction ts with
  | nil => rfl
  | cons c t ih =>
    show (Jvm.Cond.and c (allAtoms t)).before a st = _
    rw [Jvm.Cond.before_and, ih, List.all_cons]
def words1 : List Jvm.Cond := Jvm.Cond.code x code maxLocals ret :: tables_1
/-- a 'code' word, met by the world's own term for the bytes: nothing is compared byte by byte -/
theorem code_word {y : MethodName} {bytes : ByteArray} {mx : Nat} {rt : Option FieldType} {a : Array Value} {s : State} {m : MethodId} {meth : Method} {c : Code} (h1 : s.methodNamed? y = some m) (h2 : s.vm.method? m = some meth) (h3 : meth.code = some c) (h4 : c.code = bytes)
    (h5 : (c.maxLocals == mx && c.exceptionTable.isEmpty && decide (c.maxStack ≤ mostOperands) && decide (meth.sig.returnType = rt) && !meth.locks && decide (parseMethodDescriptor y.desc = some meth.sig)) = true) : (Jvm.Cond.code y bytes mx rt).before a s = true := by
  simp only [Bool.and_eq_true, beq_iff_eq, Bool.not_eq_true', decide_eq_true_eq] at h5
  obtain ⟨⟨⟨⟨⟨g1, g2⟩, g3⟩, g4⟩, g5⟩, g6⟩ := h5
  simp [Cond.before, Cond.holds, Cond.value, h1, h2, h3, h4, g1, g2, g3, g4, g5, g6]
def isCode : Jvm.Cond → Bool
  | .code _ _ _ _ => true
  | _ => false
theorem all_split {L : List Jvm.Cond} {P : Jvm.Cond → Bool} (h1 : L.all (fun c => isCode c || P c) = true) (h2 : ∀ c ∈ L.filter isCode, P c = true) : L.all P = true := by
  refine List.all_eq_true.mpr fun c hc => ?_
  have h := List.all_eq_true.mp h1 c hc
  rcases Bool.eq_false_or_eq_true (isCode c) with hi | hi
  · exact h2 c (List.mem_filter.mpr ⟨hc, hi⟩)
  · simpa [hi] using h
set_option maxRecDepth 65536 in
theorem w_c0 : (Jvm.Cond.code x code maxLocals ret).before args0 about1 = true := code_word (m := ⟨1, 1⟩) (meth := k1m1) (c := k1c1) (by decide +kernel) rfl rfl rfl (by decide +kernel)
set_option maxRecDepth 65536 in
theorem w_c1 : (Jvm.Cond.code ({ cls := "com/example/anchored_threads/anchoredthreads/internal/ChunkedList", name := "<init>", desc := "()V" } : Jvm.MethodName) prog_28_method_1_code (1 : Nat) (Option.none : Option Jvm.ClassFile.FieldType)).before args0 about1 = true := code_word (m := ⟨9, 0⟩) (meth := k9m0) (c := k9c0) (by decide +kernel) rfl rfl rfl (by decide +kernel)
set_option maxRecDepth 65536 in
theorem w_c2 : (Jvm.Cond.code ({ cls := "java/util/AbstractList", name := "<init>", desc := "()V" } : Jvm.MethodName) jdk_39_method_1_code (1 : Nat) (Option.none : Option Jvm.ClassFile.FieldType)).before args0 about1 = true := code_word (m := ⟨7, 0⟩) (meth := k7m0) (c := k7c0) (by decide +kernel) rfl rfl rfl (by decide +kernel)
set_option maxRecDepth 65536 in
theorem w_c3 : (Jvm.Cond.code ({ cls := "java/util/AbstractCollection", name := "<init>", desc := "()V" } : Jvm.MethodName) jdk_22_method_1_code (1 : Nat) (Option.none : Option Jvm.ClassFile.FieldType)).before args0 about1 = true := code_word (m := ⟨4, 0⟩) (meth := k4m0) (c := k4c0) (by decide +kernel) rfl rfl rfl (by decide +kernel)
set_option maxRecDepth 65536 in
theorem w_c4 : (Jvm.Cond.code ({ cls := "java/lang/Object", name := "<init>", desc := "()V" } : Jvm.MethodName) object_method_1_code (1 : Nat) (Option.none : Option Jvm.ClassFile.FieldType)).before args0 about1 = true := code_word (m := ⟨0, 0⟩) (meth := k0m0) (c := k0c0) (by decide +kernel) rfl rfl rfl (by decide +kernel)
set_option maxRecDepth 65536 in
theorem w_c5 : (Jvm.Cond.code ({ cls := "java/lang/Integer", name := "valueOf", desc := "(I)Ljava/lang/Integer;" } : Jvm.MethodName) jdk_33_method_22_code (1 : Nat) (Option.some (Jvm.ClassFile.FieldType.object "java/lang/Integer"))).before args0 about1 = true := code_word (m := ⟨15, 0⟩) (meth := k15m0) (c := k15c0) (by decide +kernel) rfl rfl rfl (by decide +kernel)
set_option maxRecDepth 65536 in
theorem w_c6 : (Jvm.Cond.code ({ cls := "com/example/anchored_threads/anchoredthreads/internal/ChunkedList", name := "add", desc := "(Ljava/lang/Object;)Z" } : Jvm.MethodName) prog_28_method_2_code (5 : Nat) (Option.some Jvm.ClassFile.FieldType.boolean)).before args0 about1 = true := code_word (m := ⟨9, 1⟩) (meth := k9m1) (c := k9c1) (by decide +kernel) rfl rfl rfl (by decide +kernel)
set_option maxRecDepth 65536 in
theorem w_c7 : (Jvm.Cond.code ({ cls := "com/example/anchored_threads/anchoredthreads/internal/ChunkedList", name := "get", desc := "(I)Ljava/lang/Object;" } : Jvm.MethodName) prog_28_method_4_code (3 : Nat) (Option.some (Jvm.ClassFile.FieldType.object "java/lang/Object"))).before args0 about1 = true := code_word (m := ⟨9, 2⟩) (meth := k9m2) (c := k9c2) (by decide +kernel) rfl rfl rfl (by decide +kernel)
set_option maxRecDepth 65536 in
theorem w_c8 : (Jvm.Cond.code ({ cls := "java/util/Objects", name := "checkIndex", desc := "(II)I" } : Jvm.MethodName) jdk_31_method_17_code (2 : Nat) (Option.some Jvm.ClassFile.FieldType.int)).before args0 about1 = true := code_word (m := ⟨17, 1⟩) (meth := k17m1) (c := k17c1) (by decide +kernel) rfl rfl rfl (by decide +kernel)
set_option maxRecDepth 65536 in
theorem w_c9 : (Jvm.Cond.code ({ cls := "jdk/internal/util/Preconditions", name := "checkIndex", desc := "(IILjava/util/function/BiFunction;)I" } : Jvm.MethodName) jdk_41_method_11_code (3 : Nat) (Option.some Jvm.ClassFile.FieldType.int)).before args0 about1 = true := code_word (m := ⟨18, 1⟩) (meth := k18m1) (c := k18c1) (by decide +kernel) rfl rfl rfl (by decide +kernel)
set_option maxRecDepth 65536 in
theorem w_c10 : (Jvm.Cond.code ({ cls := "java/lang/Integer", name := "intValue", desc := "()I" } : Jvm.MethodName) jdk_33_method_27_code (1 : Nat) (Option.some Jvm.ClassFile.FieldType.int)).before args0 about1 = true := code_word (m := ⟨15, 2⟩) (meth := k15m2) (c := k15c2) (by decide +kernel) rfl rfl rfl (by decide +kernel)
set_option maxRecDepth 65536 in
theorem w_c11 : (Jvm.Cond.code ({ cls := "java/lang/Integer", name := "<init>", desc := "(I)V" } : Jvm.MethodName) jdk_33_method_23_code (2 : Nat) (Option.none : Option Jvm.ClassFile.FieldType)).before args0 about1 = true := code_word (m := ⟨15, 1⟩) (meth := k15m1) (c := k15c1) (by decide +kernel) rfl rfl rfl (by decide +kernel)
set_option maxRecDepth 65536 in
theorem w_c12 : (Jvm.Cond.code ({ cls := "java/lang/Number", name := "<init>", desc := "()V" } : Jvm.MethodName) jdk_18_method_1_code (1 : Nat) (Option.none : Option Jvm.ClassFile.FieldType)).before args0 about1 = true := code_word (m := ⟨11, 0⟩) (meth := k11m0) (c := k11c0) (by decide +kernel) rfl rfl rfl (by decide +kernel)
set_option maxRecDepth 65536 in
theorem w_c13 : (Jvm.Cond.code ({ cls := "java/lang/Math", name := "min", desc := "(II)I" } : Jvm.MethodName) jdk_29_method_69_code (2 : Nat) (Option.some Jvm.ClassFile.FieldType.int)).before args0 about1 = true := code_word (m := ⟨19, 1⟩) (meth := k19m1) (c := k19c1) (by decide +kernel) rfl rfl rfl (by decide +kernel)
set_option maxRecDepth 65536 in
theorem w_c14 : (Jvm.Cond.code ({ cls := "java/util/Arrays", name := "copyOf", desc := "([Ljava/lang/Object;I)[Ljava/lang/Object;" } : Jvm.MethodName) jdk_65_method_119_code (2 : Nat) (Option.some (Jvm.ClassFile.FieldType.array (Jvm.ClassFile.FieldType.object "java/lang/Object")))).before args0 about1 = true := code_word (m := ⟨20, 1⟩) (meth := k20m1) (c := k20c1) (by decide +kernel) rfl rfl rfl (by decide +kernel)
set_option maxRecDepth 65536 in
theorem w_c15 : (Jvm.Cond.code ({ cls := "java/util/Arrays", name := "copyOf", desc := "([Ljava/lang/Object;ILjava/lang/Class;)[Ljava/lang/Object;" } : Jvm.MethodName) jdk_65_method_120_code (4 : Nat) (Option.some (Jvm.ClassFile.FieldType.array (Jvm.ClassFile.FieldType.object "java/lang/Object")))).before args0 about1 = true := code_word (m := ⟨20, 2⟩) (meth := k20m2) (c := k20c2) (by decide +kernel) rfl rfl rfl (by decide +kernel)
def codes1 : List Jvm.Cond := [Jvm.Cond.code x code maxLocals ret, Jvm.Cond.code ({ cls := "com/example/anchored_threads/anchoredthreads/internal/ChunkedList", name := "<init>", desc := "()V" } : Jvm.MethodName) prog_28_method_1_code (1 : Nat) (Option.none : Option Jvm.ClassFile.FieldType), Jvm.Cond.code ({ cls := "java/util/AbstractList", name := "<init>", desc := "()V" } : Jvm.MethodName) jdk_39_method_1_code (1 : Nat) (Option.none : Option Jvm.ClassFile.FieldType), Jvm.Cond.code ({ cls := "java/util/AbstractCollection", name := "<init>", desc := "()V" } : Jvm.MethodName) jdk_22_method_1_code (1 : Nat) (Option.none : Option Jvm.ClassFile.FieldType), Jvm.Cond.code ({ cls := "java/lang/Object", name := "<init>", desc := "()V" } : Jvm.MethodName) object_method_1_code (1 : Nat) (Option.none : Option Jvm.ClassFile.FieldType), Jvm.Cond.code ({ cls := "java/lang/Integer", name := "valueOf", desc := "(I)Ljava/lang/Integer;" } : Jvm.MethodName) jdk_33_method_22_code (1 : Nat) (Option.some (Jvm.ClassFile.FieldType.object "java/lang/Integer")), Jvm.Cond.code ({ cls := "com/example/anchored_threads/anchoredthreads/internal/ChunkedList", name := "add", desc := "(Ljava/lang/Object;)Z" } : Jvm.MethodName) prog_28_method_2_code (5 : Nat) (Option.some Jvm.ClassFile.FieldType.boolean), Jvm.Cond.code ({ cls := "com/example/anchored_threads/anchoredthreads/internal/ChunkedList", name := "get", desc := "(I)Ljava/lang/Object;" } : Jvm.MethodName) prog_28_method_4_code (3 : Nat) (Option.some (Jvm.ClassFile.FieldType.object "java/lang/Object")), Jvm.Cond.code ({ cls := "java/util/Objects", name := "checkIndex", desc := "(II)I" } : Jvm.MethodName) jdk_31_method_17_code (2 : Nat) (Option.some Jvm.ClassFile.FieldType.int), Jvm.Cond.code ({ cls := "jdk/internal/util/Preconditions", name := "checkIndex", desc := "(IILjava/util/function/BiFunction;)I" } : Jvm.MethodName) jdk_41_method_11_code (3 : Nat) (Option.some Jvm.ClassFile.FieldType.int), Jvm.Cond.code ({ cls := "java/lang/Integer", name := "intValue", desc := "()I" } : Jvm.MethodName) jdk_33_method_27_code (1 : Nat) (Option.some Jvm.ClassFile.FieldType.int), Jvm.Cond.code ({ cls := "java/lang/Integer", name := "<init>", desc := "(I)V" } : Jvm.MethodName) jdk_33_method_23_code (2 : Nat) (Option.none : Option Jvm.ClassFile.FieldType), Jvm.Cond.code ({ cls := "java/lang/Number", name := "<init>", desc := "()V" } : Jvm.MethodName) jdk_18_method_1_code (1 : Nat) (Option.none : Option Jvm.ClassFile.FieldType), Jvm.Cond.code ({ cls := "java/lang/Math", name := "min", desc := "(II)I" } : Jvm.MethodName) jdk_29_method_69_code (2 : Nat) (Option.some Jvm.ClassFile.FieldType.int), Jvm.Cond.code ({ cls := "java/util/Arrays", name := "copyOf", desc := "([Ljava/lang/Object;I)[Ljava/lang/Object;" } : Jvm.MethodName) jdk_65_method_119_code (2 : Nat) (Option.some (Jvm.ClassFile.FieldType.array (Jvm.ClassFile.FieldType.object "java/lang/Object"))), Jvm.Cond.code ({ cls := "java/util/Arrays", name := "copyOf", desc := "([Ljava/lang/Object;ILjava/lang/Class;)[Ljava/lang/Object;" } : Jvm.MethodName) jdk_65_method_120_code (4 : Nat) (Option.some (Jvm.ClassFile.FieldType.array (Jvm.ClassFile.FieldType.object "java/lang/Object")))]
set_option maxRecDepth 65536 in
theorem codes_eq : words1.filter isCode = codes1 := rfl
theorem w_codes : ∀ c ∈ words1.filter isCode, c.before args0 about1 = true := by
  rw [codes_eq]
  intro c hc
  simp only [codes1, List.mem_cons, List.not_mem_nil, or_false] at hc
  rcases hc with rfl | rfl | rfl | rfl | rfl | rfl | rfl | rfl | rfl | rfl | rfl | rfl | rfl | rfl | rfl | rfl
  · exact w_c0
  · exact w_c1
  · exact w_c2
  · exact w_c3
  · exact w_c4
  · exact w_c5
  · exact w_c6
  · exact w_c7
  · exact w_c8
  · exact w_c9
  · exact w_c10
  · exact w_c11
  · exact w_c12
  · exact w_c13
  · exact w_c14
  · exact w_c15
set_option maxRecDepth 65536 in
theorem w_t1 : (words1.take 24).all (fun c => isCode c || c.before args0 about1) = true := by decide +kernel
set_option maxRecDepth 65536 in
theorem w_t2 : ((words1.drop 24).take 24).all (fun c => isCode c || c.before args0 about1) = true := by decide +kernel
set_option maxRecDepth 65536 in
theorem w_t3 : (((words1.drop 24).drop 24).take 24).all (fun c => isCode c || c.before args0 about1) = true := by decide +kernel
set_option maxRecDepth 65536 in
theorem w_t4 : ((((words1.drop 24).drop 24).drop 24).take 24).all (fun c => isCode c || c.before args0 about1) = true := by decide +kernel
set_option maxRecDepth 65536 in
theorem w_t5 : ((((words1.drop 24).drop 24).drop 24).drop 24).all (fun c => isCode c || c.before args0 about1) = true := by decide +kernel
theorem w_tables : (allAtoms (Jvm.Cond.code x code maxLocals ret :: tables_1)).before args0 about1 = true := by
  rw [allAtoms_all]
  show words1.all (fun c => c.before args0 about1) = true
  refine all_split ?_ w_codes
  rw [← List.take_append_drop 24 words1, List.all_append, w_t1, ← List.take_append_drop 24 (words1.drop 24), List.all_append, w_t2, ← List.take_append_drop 24 ((words1.drop 24).drop 24), List.all_append, w_t3, ← List.take_append_drop 24 (((words1.drop 24).drop 24).drop 24), List.all_append, w_t4, w_t5]
  rfl
set_option maxRecDepth 65536 in
theorem w_rest : rest_1_c.before args0 about1 = true := by decide +kernel
set_option maxRecDepth 65536 in
theorem w_case : (Jvm.Cond.and given_1 narrow_1).before args0 about1 = true := by decide +kernel
theorem w_applies : (headSpec (Jvm.Cond.code x code maxLocals ret :: tables_1) room_1).applies x e0.platform about1 = true :=
  (Spec.applies_iff w_frames).mpr ⟨w_running, w_runnable, w_alone, w_named, w_hears, w_ripe, w_room, w_tables⟩
set_option maxRecDepth 65536 in
theorem w_calls : Calls_1 p0.tables e0 args0 about1 := ⟨⟨28, k28, 258, by decide +kernel, rfl, rfl, { cls := 0, slots := #[], vm := .mirror 28 }, rfl, rfl⟩, trivial⟩
theorem atStart : AtStart classFile x code maxLocals ret World_1 tables_1 room_1 Calls_1 rest_1 Pre_1 launch0 p0 e0 about1 theMethod args0 below0 :=
  ⟨lists_1, trivial, launch0.admits_env _ _ _, launch0.least_env, fairChoices_fair.cas, fairChoices_fair.clock, w_frames, w_args, w_heap, w_applies, w_calls, w_rest, w_case⟩
end start1
theorem witness_1 : WitnessClaimed_1 := ⟨start1.p0, start1.e0, start1.about1, start1.theMethod, start1.args0, start1.below0, start1.atStart⟩
end Jvm.Pilot.@@N@@
