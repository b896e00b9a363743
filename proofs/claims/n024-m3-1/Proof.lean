import JvmDerived
import JvmDerived.Pilot.@@N@@Statement
import JvmDerived.Pilot.@@N@@Code
set_option linter.unusedVariables false
set_option linter.unusedSimpArgs false
namespace Jvm.RoadKit
open Sem ClassFile Op Lib Jvm.Stand Jvm.Free Jvm.LawKit
section New
variable {p : Program} {l : Launch} {e : Env} {R : Room} {s : State} {m : MethodId} {args : Array Value} {below : List Frame} {meth : Method} {c : Code} {T : State} {locs : List Loc} {cells slots : Nat}
theorem retI (X : Stand p l e R s m args below meth c T locs cells slots) (hx : p.tables.exec = Jvm.exec) {pc : Nat} {Ls : Array Slot} {z : Int32} {rest : List Value} (hret : meth.sig.returnType = some .int) (hd : decode c.code pc = .ok (.ireturn, 1)) {fs : List Frame}
    (hl : ∀ (f : JFrame) (acts : List Action), f.method = m → f.locked = none → f.entered = [] → (doReturn e (T.setTop f) acts (some (.int z))).1 = T.setFrames fs) : Steps p.tables e below (T.setTop (mkF m pc Ls (.int z :: rest))) (T.setFrames fs) := by
  have hm' : T.vm.method? m = some meth := X.method'
  have hn : narrow .int (.int z) = .int z := rfl
  show Steps p.tables e below (T.setTop { method := m, pc := pc, locals := Ls, stack := _ :: rest, locked := none }) _
  jvm_step X.here [X.here.top, hx, hd, hm', hret, hn]
  first | (intro acts; rw [hl _ acts rfl rfl rfl]) | rw [hl _ _ rfl rfl rfl]
  exact Steps.refl _
end New
end Jvm.RoadKit
namespace Jvm.Pilot.@@N@@
open Jvm Jvm.ClassFile Sem Op Lib Jvm.Free Jvm.Stand Jvm.LawKit Jvm.RoadKit Bundle Jvm.Pilot.@@N@@.Jvm.D
/-- what a body that writes nothing leaves: the value, and the heap as it was -/
def QV (r : Option Value) (h0 : Heap) (n0 : Nat) (v : Option Value) (h : Heap) (L : List Loc) : Prop := v = r ∧ Fr n0 L ∧ h = h0
theorem own_fld_one {Z : State} {h : Heap} {a : Addr} {C n d : String} {v w : Value} (F : Fld Z h a C n d v) (G : Fld Z h a C n d w) : v = w := by
  obtain ⟨c1, f1, k1, i1, g1, a1, a2, -, -, -, -, a7⟩ := F
  obtain ⟨c2, f2, k2, i2, g2, b1, b2, -, -, -, -, b7⟩ := G
  cases a1.symm.trans b1
  cases a2.symm.trans b2
  exact Option.some.inj (a7.symm.trans b7)
theorem own_ne_fld {Z : State} {h : Heap} {a b : Addr} {C n d : String} {x y : Int32} (F : Fld Z h a C n d (.int x)) (G : Fld Z h b C n d (.int y)) (hn : x ≠ y) : ¬ a = b := fun e => by
  subst e
  exact hn (Value.int.inj (own_fld_one F G))
theorem own_fld {args : Array Value} {s : State} {t : Term} {C n d : String} {k : Int32} {a : Addr} (ht : t.eval args s none [] s = some (.ref a)) (h : (Jvm.Cond.eq (Jvm.Term.field t C n d) (Jvm.Term.int k)).value args s none s [] = some true) : Fld s s.heap a C n d (.int k) := by
  refine Fld.start ((fld_at (idx := []) (first := s) (o := none) ht).symm.trans ?_)
  obtain ⟨x, y, e1, e2, k1, k2⟩ := cmp_v (Or.inl h)
  cases e2
  obtain ⟨z, rfl⟩ := k2
  have e3 : (Jvm.Term.int k).eval args s none [] s = some (.int k) := rfl
  have q : z = k := by simpa [Jvm.Cond.value, e1, e3] using h
  rw [e1, q]
def Q0 (n0 : Nat) (v : Option Value) (h : Heap) (L : List Loc) : Prop := v = some (.int (1 : Int32)) ∧ Fr n0 L
def QW (Z : State) (a : Addr) (C f d : String) (val : Value) (r : Option Value) (h0 : Heap) (n0 : Nat) (v : Option Value) (h : Heap) (L : List Loc) : Prop := v = r ∧ Fr n0 L ∧ Keep h0 h [a] ∧ Fld Z h a C f d val
def QLV (Z : State) (h0 : Heap) (n0 : Nat) (v : Option Value) (h : Heap) (L : List Loc) : Prop := ∃ b : Addr, v = some (.ref b) ∧ Fr n0 L ∧ Keep h0 h [] ∧ Exa Z h b "java/lang/Long"
theorem own_place (q : Int64) (h1 : ¬ q < (-128 : Int64)) (h2 : ¬ (127 : Int64) < q) : ¬ ((q.toInt32 + (128 : Int32)) < 0 ∨ (256 : Int32).toNatClampNeg ≤ (q.toInt32 + (128 : Int32)).toNatClampNeg) := by
  have a1 : (-128 : Int64).toInt = -128 := by decide
  have a2 : (127 : Int64).toInt = 127 := by decide
  have a3 : (128 : Int32).toInt = 128 := by decide
  have a4 : (256 : Int32).toNatClampNeg = 256 := by decide
  have a5 : (0 : Int32).toInt = 0 := by decide
  rw [Int64.lt_iff_toInt_lt] at h1 h2
  have e1 := c_l2i q
  have e2 := c_iadd q.toInt32 128
  have r1 := rng32 q.toInt32
  have r2 := rng32 (q.toInt32 + 128)
  rw [Int32.lt_iff_toInt_lt, a4]
  have e3 : (q.toInt32 + 128).toInt = q.toInt + 128 := by omega
  rintro (z | z)
  · omega
  · have e4 : (q.toInt32 + 128).toNatClampNeg = (q.toInt32 + 128).toInt.toNat := rfl
    rw [e4] at z; omega
theorem own_asg (vm : Vm) (s t : ClassId) : vm.assignable s t = (s == t || match vm.classes[s]?, vm.classes[t]? with
      | some ks, some kt =>
        match ks.kind, kt.kind with
        | .array sc _, .array tc _ =>
          if vm.isPrimitive sc || vm.isPrimitive tc then sc == tc else vm.assignableAux 255 sc tc
        | .primitive _, _ | _, .primitive _ => false
        | _, _ => if kt.isInterface then (vm.superinterfaces s).contains t else vm.isSubclass s t
      | _, _ => false) := rfl
theorem own_sub0 (vm : Vm) (s t : ClassId) : vm.isSubclassAux 0 s t = false := rfl
theorem own_sub1 (vm : Vm) (n : Nat) (s t : ClassId) : vm.isSubclassAux (n + 1) s t = (s == t || match vm.classes[s]? with
      | some k => match k.super with
        | some p => vm.isSubclassAux n p t
        | none => false
      | none => false) := rfl
theorem own_sub_step {vm : Vm} {c t p : ClassId} {k : Class} (hne : c ≠ t) (hk : vm.classes[c]? = some k) (hs : k.super = some p) (hp : ∀ n, vm.isSubclassAux n p t = false) : ∀ n, vm.isSubclassAux n c t = false := by
  intro n
  cases n with
  | zero => exact own_sub0 _ _ _
  | succ n => rw [own_sub1]; simp [hne, hk, hs, hp]
theorem own_sub_end {vm : Vm} {c t : ClassId} {k : Class} (hne : c ≠ t) (hk : vm.classes[c]? = some k) (hs : k.super = none) : ∀ n, vm.isSubclassAux n c t = false := by
  intro n
  cases n with
  | zero => exact own_sub0 _ _ _
  | succ n => rw [own_sub1]; simp [hne, hk, hs]
theorem own_ne_cls {vm : Vm} {A B : String} {a b : ClassId} (ha : vm.findClass A = some a) (hb : vm.findClass B = some b) (hn : A ≠ B) : a ≠ b := fun e => by
  subst e
  obtain ⟨k1, a1, a2⟩ := Vm.findClass_spec ha
  obtain ⟨k2, b1, b2⟩ := Vm.findClass_spec hb
  cases a1.symm.trans b1
  exact hn (a2.symm.trans b2)
theorem own_sub (vm : Vm) (s t : ClassId) : vm.isSubclass s t = vm.isSubclassAux (vm.classes.size + 1) s t := rfl
theorem own_notA {Z : State} {K : String} {a0 : Array Value} {n : Nat} (w1 : (Jvm.Cond.superclass "java/lang/Long" "java/lang/Number").before a0 Z = true) (w2 : (Jvm.Cond.superclass "java/lang/Number" "java/lang/Object").before a0 Z = true) (w3 : (Jvm.Cond.noSuperclass "java/lang/Object").before a0 Z = true) (wi : (Jvm.Cond.instantiable K n).before a0 Z = true)
    (k1 : "java/lang/Long" ≠ K) (k2 : "java/lang/Number" ≠ K) (k3 : "java/lang/Object" ≠ K) : ∃ c t, Z.vm.findClass "java/lang/Long" = some c ∧ Z.vm.findClass K = some t ∧ Z.vm.assignable c t = false := by
  obtain ⟨cL, h2⟩ := found_sup w1
  obtain ⟨cK, kK, i1, i2, i3, i4, -⟩ := Cond.instantiable_spec wi
  obtain ⟨p, q1, kp, s1, s2, s3, s4, s5, s6, s7⟩ := Cond.superclass_spec h2 w1
  obtain ⟨p2, q2, kp2, t1, t2, t3, t4, -⟩ := Cond.superclass_spec s1 w2
  obtain ⟨p3, q3, n1, n2, n3, -⟩ := Cond.noSuperclass_spec w3
  cases t1.symm.trans n1
  have e3 := own_sub_end (own_ne_cls n1 i1 k3) n2 n3
  have e2 := own_sub_step (own_ne_cls s1 i1 k2) t2 t4 e3
  have e1 := own_sub_step (own_ne_cls h2 i1 k1) s2 s4 e2
  have hne := own_ne_cls h2 i1 k1
  have i4' : kK.isInterface = false := by
    rw [Bool.or_eq_false_iff] at i4; exact i4.1
  refine ⟨cL, cK, h2, i1, ?_⟩
  rw [own_asg, s2, i2]
  simp [hne, s5, i3, i4', own_sub, e1]
theorem own_bxs {Z : State} {args : Array Value} {a : Addr} {c : Cell} (ec : ∀ idx, (Jvm.Term.static "java/lang/Long$LongCache" "cache" "[Ljava/lang/Long;").eval args Z none idx Z = some (.ref a)) (A : Arr Z Z.heap a c (.object "java/lang/Long")) (hl : (Jvm.Cond.eq (Jvm.Term.length (Jvm.Term.static "java/lang/Long$LongCache" "cache" "[Ljava/lang/Long;")) (Jvm.Term.int (256 : Int32))).before args Z = true)
    (h : (Jvm.Cond.all (Jvm.Term.static "java/lang/Long$LongCache" "cache" "[Ljava/lang/Long;") (Jvm.Cond.and (Jvm.Cond.exactly (Jvm.Term.elem (Jvm.Term.static "java/lang/Long$LongCache" "cache" "[Ljava/lang/Long;") (Jvm.Term.index (0 : Nat))) "java/lang/Long") (Jvm.Cond.eq (Jvm.Term.field (Jvm.Term.elem (Jvm.Term.static "java/lang/Long$LongCache" "cache" "[Ljava/lang/Long;") (Jvm.Term.index (0 : Nat))) "java/lang/Long" "value" "J") (Jvm.Term.op1 Jvm.Unary.i2l (Jvm.Term.sub (Jvm.Term.index (0 : Nat)) (Jvm.Term.int (128 : Int32))))))).before args Z = true) : Bxs Z a c "java/lang/Long" "J" 256 (fun j => .long (j - 128).toInt64) := by
  obtain ⟨q1, q2⟩ := Jvm.Free.IntBox.length_fwd hl (ec []) A.1 A.2.1 A.2.2
  exact Bxs.start ec A q1 q2 (by decide) (Cond.before_iff.mp h) (fun X j nn he => eqv_l (i2l_at (Term.sub_int (idx_at nn) (Term.int_eval 128))) he)
theorem own_lc (a b : Int64) : (if (lcmpW a b) = (0 : Int32) then (1 : Int32) else 0) = (if (lcmpW b a) = (0 : Int32) then 1 else 0) := by
  by_cases h : a = b
  · rw [h]
  · rw [if_neg (fun z => h ((lw_eq a b).mp z)), if_neg (fun z => h ((lw_eq b a).mp z).symm)]
theorem own_lc0 (a : Int64) : ¬ (if (lcmpW a a) = (0 : Int32) then (1 : Int32) else 0) = 0 := by
  rw [if_pos ((lw_eq a a).mpr rfl)]; decide
theorem d_jdk_18_m_1_0 : decode jdk_18_method_1_code 0 = .ok (.aload_n 0, 1) := by decide +kernel
theorem d_jdk_18_m_1_1 : decode jdk_18_method_1_code 1 = .ok (.invokespecial 1, 3) := by decide +kernel
theorem d_jdk_18_m_1_4 : decode jdk_18_method_1_code 4 = .ok (.return_, 1) := by decide +kernel
theorem d_jdk_35_m_26_0 : decode jdk_35_method_26_code 0 = .ok (.aload_n 0, 1) := by decide +kernel
theorem d_jdk_35_m_26_1 : decode jdk_35_method_26_code 1 = .ok (.invokespecial 270, 3) := by decide +kernel
theorem d_jdk_35_m_26_4 : decode jdk_35_method_26_code 4 = .ok (.aload_n 0, 1) := by decide +kernel
theorem d_jdk_35_m_26_5 : decode jdk_35_method_26_code 5 = .ok (.lload_n 1, 1) := by decide +kernel
theorem d_jdk_35_m_26_6 : decode jdk_35_method_26_code 6 = .ok (.putfield 273, 3) := by decide +kernel
theorem d_jdk_35_m_26_9 : decode jdk_35_method_26_code 9 = .ok (.return_, 1) := by decide +kernel
theorem d_jdk_35_m_24_0 : decode jdk_35_method_24_code 0 = .ok (.sipush 128, 3) := by decide +kernel
theorem d_jdk_35_m_24_3 : decode jdk_35_method_24_code 3 = .ok (.istore_n 2, 1) := by decide +kernel
theorem d_jdk_35_m_24_4 : decode jdk_35_method_24_code 4 = .ok (.lload_n 0, 1) := by decide +kernel
theorem d_jdk_35_m_24_5 : decode jdk_35_method_24_code 5 = .ok (.ldc2_w 230, 3) := by decide +kernel
theorem d_jdk_35_m_24_8 : decode jdk_35_method_24_code 8 = .ok (.lcmp, 1) := by decide +kernel
theorem d_jdk_35_m_24_9 : decode jdk_35_method_24_code 9 = .ok (.ifCond .lt 22, 3) := by decide +kernel
theorem d_jdk_35_m_24_12 : decode jdk_35_method_24_code 12 = .ok (.lload_n 0, 1) := by decide +kernel
theorem d_jdk_35_m_24_13 : decode jdk_35_method_24_code 13 = .ok (.ldc2_w 232, 3) := by decide +kernel
theorem d_jdk_35_m_24_16 : decode jdk_35_method_24_code 16 = .ok (.lcmp, 1) := by decide +kernel
theorem d_jdk_35_m_24_17 : decode jdk_35_method_24_code 17 = .ok (.ifCond .gt 14, 3) := by decide +kernel
theorem d_jdk_35_m_24_20 : decode jdk_35_method_24_code 20 = .ok (.getstatic 234, 3) := by decide +kernel
theorem d_jdk_35_m_24_23 : decode jdk_35_method_24_code 23 = .ok (.lload_n 0, 1) := by decide +kernel
theorem d_jdk_35_m_24_24 : decode jdk_35_method_24_code 24 = .ok (.l2i, 1) := by decide +kernel
theorem d_jdk_35_m_24_25 : decode jdk_35_method_24_code 25 = .ok (.sipush 128, 3) := by decide +kernel
theorem d_jdk_35_m_24_28 : decode jdk_35_method_24_code 28 = .ok (.iadd, 1) := by decide +kernel
theorem d_jdk_35_m_24_29 : decode jdk_35_method_24_code 29 = .ok (.aaload, 1) := by decide +kernel
theorem d_jdk_35_m_24_30 : decode jdk_35_method_24_code 30 = .ok (.areturn, 1) := by decide +kernel
theorem d_jdk_35_m_24_31 : decode jdk_35_method_24_code 31 = .ok (.new 1, 3) := by decide +kernel
theorem d_jdk_35_m_24_34 : decode jdk_35_method_24_code 34 = .ok (.dup, 1) := by decide +kernel
theorem d_jdk_35_m_24_35 : decode jdk_35_method_24_code 35 = .ok (.lload_n 0, 1) := by decide +kernel
theorem d_jdk_35_m_24_36 : decode jdk_35_method_24_code 36 = .ok (.invokespecial 240, 3) := by decide +kernel
theorem d_jdk_35_m_24_39 : decode jdk_35_method_24_code 39 = .ok (.areturn, 1) := by decide +kernel
theorem d_prog_16_m_1_0 : decode prog_16_method_1_code 0 = .ok (.aload_n 0, 1) := by decide +kernel
theorem d_prog_16_m_1_1 : decode prog_16_method_1_code 1 = .ok (.invokespecial 1, 3) := by decide +kernel
theorem d_prog_16_m_1_4 : decode prog_16_method_1_code 4 = .ok (.return_, 1) := by decide +kernel
theorem d_jdk_29_m_66_0 : decode jdk_29_method_66_code 0 = .ok (.lload_n 0, 1) := by decide +kernel
theorem d_jdk_29_m_66_1 : decode jdk_29_method_66_code 1 = .ok (.lload_n 2, 1) := by decide +kernel
theorem d_jdk_29_m_66_2 : decode jdk_29_method_66_code 2 = .ok (.lcmp, 1) := by decide +kernel
theorem d_jdk_29_m_66_3 : decode jdk_29_method_66_code 3 = .ok (.ifCond .lt 7, 3) := by decide +kernel
theorem d_jdk_29_m_66_6 : decode jdk_29_method_66_code 6 = .ok (.lload_n 0, 1) := by decide +kernel
theorem d_jdk_29_m_66_7 : decode jdk_29_method_66_code 7 = .ok (.goto 4, 3) := by decide +kernel
theorem d_jdk_29_m_66_10 : decode jdk_29_method_66_code 10 = .ok (.lload_n 2, 1) := by decide +kernel
theorem d_jdk_29_m_66_11 : decode jdk_29_method_66_code 11 = .ok (.lreturn, 1) := by decide +kernel
theorem d_prog_16_m_4_0 : decode prog_16_method_4_code 0 = .ok (.aload_n 0, 1) := by decide +kernel
theorem d_prog_16_m_4_1 : decode prog_16_method_4_code 1 = .ok (.aload_n 0, 1) := by decide +kernel
theorem d_prog_16_m_4_2 : decode prog_16_method_4_code 2 = .ok (.getfield 7, 3) := by decide +kernel
theorem d_prog_16_m_4_5 : decode prog_16_method_4_code 5 = .ok (.lload_n 1, 1) := by decide +kernel
theorem d_prog_16_m_4_6 : decode prog_16_method_4_code 6 = .ok (.invokestatic 13, 3) := by decide +kernel
theorem d_prog_16_m_4_9 : decode prog_16_method_4_code 9 = .ok (.lconst 1, 1) := by decide +kernel
theorem d_prog_16_m_4_10 : decode prog_16_method_4_code 10 = .ok (.ladd, 1) := by decide +kernel
theorem d_prog_16_m_4_11 : decode prog_16_method_4_code 11 = .ok (.putfield 7, 3) := by decide +kernel
theorem d_prog_16_m_4_14 : decode prog_16_method_4_code 14 = .ok (.return_, 1) := by decide +kernel
theorem d_prog_16_m_3_0 : decode prog_16_method_3_code 0 = .ok (.aload_n 0, 1) := by decide +kernel
theorem d_prog_16_m_3_1 : decode prog_16_method_3_code 1 = .ok (.getfield 7, 3) := by decide +kernel
theorem d_prog_16_m_3_4 : decode prog_16_method_3_code 4 = .ok (.lstore_n 1, 1) := by decide +kernel
theorem d_prog_16_m_3_5 : decode prog_16_method_3_code 5 = .ok (.aload_n 0, 1) := by decide +kernel
theorem d_prog_16_m_3_6 : decode prog_16_method_3_code 6 = .ok (.dup, 1) := by decide +kernel
theorem d_prog_16_m_3_7 : decode prog_16_method_3_code 7 = .ok (.getfield 7, 3) := by decide +kernel
theorem d_prog_16_m_3_10 : decode prog_16_method_3_code 10 = .ok (.lconst 1, 1) := by decide +kernel
theorem d_prog_16_m_3_11 : decode prog_16_method_3_code 11 = .ok (.ladd, 1) := by decide +kernel
theorem d_prog_16_m_3_12 : decode prog_16_method_3_code 12 = .ok (.putfield 7, 3) := by decide +kernel
theorem d_prog_16_m_3_15 : decode prog_16_method_3_code 15 = .ok (.lload_n 1, 1) := by decide +kernel
theorem d_prog_16_m_3_16 : decode prog_16_method_3_code 16 = .ok (.lreturn, 1) := by decide +kernel
theorem d_prog_16_m_5_0 : decode prog_16_method_5_code 0 = .ok (.aload_n 1, 1) := by decide +kernel
theorem d_prog_16_m_5_1 : decode prog_16_method_5_code 1 = .ok (.instanceof 8, 3) := by decide +kernel
theorem d_prog_16_m_5_4 : decode prog_16_method_5_code 4 = .ok (.ifCond .eq 24, 3) := by decide +kernel
theorem d_prog_16_m_5_7 : decode prog_16_method_5_code 7 = .ok (.aload_n 1, 1) := by decide +kernel
theorem d_prog_16_m_5_8 : decode prog_16_method_5_code 8 = .ok (.checkcast 8, 3) := by decide +kernel
theorem d_prog_16_m_5_11 : decode prog_16_method_5_code 11 = .ok (.astore_n 2, 1) := by decide +kernel
theorem d_prog_16_m_5_12 : decode prog_16_method_5_code 12 = .ok (.aload_n 0, 1) := by decide +kernel
theorem d_prog_16_m_5_13 : decode prog_16_method_5_code 13 = .ok (.getfield 7, 3) := by decide +kernel
theorem d_prog_16_m_5_16 : decode prog_16_method_5_code 16 = .ok (.aload_n 2, 1) := by decide +kernel
theorem d_prog_16_m_5_17 : decode prog_16_method_5_code 17 = .ok (.getfield 7, 3) := by decide +kernel
theorem d_prog_16_m_5_20 : decode prog_16_method_5_code 20 = .ok (.lcmp, 1) := by decide +kernel
theorem d_prog_16_m_5_21 : decode prog_16_method_5_code 21 = .ok (.ifCond .ne 7, 3) := by decide +kernel
theorem d_prog_16_m_5_24 : decode prog_16_method_5_code 24 = .ok (.iconst 1, 1) := by decide +kernel
theorem d_prog_16_m_5_25 : decode prog_16_method_5_code 25 = .ok (.goto 4, 3) := by decide +kernel
theorem d_prog_16_m_5_28 : decode prog_16_method_5_code 28 = .ok (.iconst 0, 1) := by decide +kernel
theorem d_prog_16_m_5_29 : decode prog_16_method_5_code 29 = .ok (.ireturn, 1) := by decide +kernel
theorem pd_0 : parseMethodDescriptor "()V" = some ⟨[], none⟩ := by decide +kernel
theorem pd_1 : parseMethodDescriptor "(J)V" = some ⟨[.long], none⟩ := by decide +kernel
theorem pd_2 : parseMethodDescriptor "(JJ)J" = some ⟨[.long, .long], some .long⟩ := by decide +kernel
theorem pd_3 : parseMethodDescriptor "(Ljava/lang/Object;)Z" = some ⟨[(.object "java/lang/Object")], some .boolean⟩ := by decide +kernel
theorem pd_4 : parseMethodDescriptor "(J)Ljava/lang/Long;" = some ⟨[.long], some (.object "java/lang/Long")⟩ := by decide +kernel
theorem pd_5 : parseMethodDescriptor "()J" = some ⟨[], some .long⟩ := by decide +kernel
theorem pn_0 : plainName "java/lang/Number" = true := by first | (simp [plainName, overriddenIn]; done) | decide +kernel
theorem pn_1 : plainName "java/lang/Long" = true := by first | (simp [plainName, overriddenIn]; done) | decide +kernel
theorem pn_2 : plainName "com/example/durchlass/durchlass/algorithm/LamportClock" = true := by first | (simp [plainName, overriddenIn]; done) | decide +kernel
theorem pn_3 : plainName "com/example/durchlass/durchlass/algorithm/LamportClockEqualsPinLaw" = true := by first | (simp [plainName, overriddenIn]; done) | decide +kernel
theorem ef_rmNI (m : MethodId) (x0 : Addr) : entryFrame m #[(.ref x0)] 1 = mkF m 0 #[.val (.ref x0)] [] := by first | (simp [entryFrame, mkF, argsToLocals, Value.category]; done) | rfl
set_option maxRecDepth 65536 in
set_option maxHeartbeats 40000000 in
theorem rmNI (l : Launch) (Z : State) (a0 : Array Value) (hw : ∀ d ∈ tables_1, d.before a0 Z = true) (ws : List Jvm.Cond) (a : Addr) (h0 : Heap) (n0 : Nat) (Z0 : n0 ≤ h0.size)  :
    MetFree l (⟨"java/lang/Number", "<init>", "()V"⟩ : MethodName) (head1 (Jvm.Cond.code (⟨"java/lang/Number", "<init>", "()V"⟩ : MethodName) jdk_18_method_1_code 1 none :: ws) ({ frames := 1, cells := 0, slots := 0, locals := 12 } : Room)) (fun aa_ UU_ => aa_ = #[(.ref a)] ∧ Z.Warmed39 UU_.vm ∧ UU_.heap = h0) (fun _ _ _ _ _ => True) (fun _ UU_ oo_ UE_ => ∃ vv_ LL_, oo_ = .returned vv_ ∧ QV none h0 n0 vv_ UE_.heap LL_ ∧ FrameEnd UU_ oo_ UE_ LL_ ({ frames := 1, cells := 0, slots := 0, locals := 12 } : Room).cells ({ frames := 1, cells := 0, slots := 0, locals := 12 } : Room).slots) := by
  refine MetFree.of_bodySF (plainFor_of_name pn_0) hisR ?_
  intro p e s m args below meth c s₁ Bd hml0 hP hK
  obtain ⟨rfl, hZ, hh⟩ := hP
  have hx := Bd.exec
  have hby := Bd.bytes
  have hml : c.maxLocals = 1 := hml0
  have hown : s.vm.findClass "java/lang/Number" = some m.cls := findClass_of_methodNamed Bd.named
  have hnm := (name_of_methodNamed Bd.named Bd.method).1
  have X0 : Stand p l e ({ frames := 1, cells := 0, slots := 0, locals := 12 } : Room) s m #[(.ref a)] below meth c s₁ [] 0 0 := Stand.of_body Bd
  have e0 : s₁.heap = h0 := by rw [← hh, Bd.state]; rfl
  have N0 := Fr.nil n0
  have pre0 : ∀ tg, Steps p.tables e below (s₁.setTop (mkF m 0 #[.val (.ref a)] [])) tg → Steps p.tables e below (s₁.setTop (entryFrame m #[(.ref a)] 1)) tg := fun tg kq_ => castTop (ef_rmNI m a) kq_
  obtain ⟨T1, X1, e1, st1⟩ := initO X0 hx hZ hown (hw _ (List.mem_of_getElem? (i := 55) rfl)) (hw _ (List.mem_of_getElem? (i := 7) rfl)) (hw _ (List.mem_of_getElem? (i := 8) rfl)) e0 (g := (mkF m 1 #[.val (.ref a)] [(.ref a)])) rfl (by rw [hml]; rfl) rfl (hb hby d_jdk_18_m_1_1) (by decide) (W := 0) (by show 2 * 0 + _ ≤ _; exact Nat.le_of_eq rfl) (by decide)
  obtain ⟨fs, hr, hrun, hended, hW, hsame⟩ := X1.leave (v := none) (fun _ => rfl)
  refine ⟨_, _, pre0 _ ?_, hrun, hended, _, _, rfl, ?_, ⟨_, rfl⟩, hW, hsame.mono (by decide) (by decide)⟩
  · show Steps p.tables e below (s₁.setTop (mkF m 0 #[.val (.ref a)] [])) _
    refine XS.aloadN X0.here hx rfl (hb hby d_jdk_18_m_1_0) rfl rfl ?_
    show Steps p.tables e below (s₁.setTop (mkF m 1 #[.val (.ref a)] [(.ref a)])) _
    refine st1 _ ?_
    show Steps p.tables e below (T1.setTop (mkF m 4 #[.val (.ref a)] [])) _
    exact X1.returnOut hx Bd.returns (hb hby d_jdk_18_m_1_4) hr
  · show QV none h0 n0 _ T1.heap _
    rw [e1]
    exact ⟨rfl, N0, rfl⟩
theorem ef_rmLI (m : MethodId) (x0 : Addr) (x1 : Int64) : entryFrame m #[(.ref x0), (.long x1)] 3 = mkF m 0 #[.val (.ref x0), .val (.long x1), .second] [] := by first | (simp [entryFrame, mkF, argsToLocals, Value.category]; done) | rfl
set_option maxRecDepth 65536 in
set_option maxHeartbeats 40000000 in
theorem rmLI (l : Launch) (Z : State) (a0 : Array Value) (hw : ∀ d ∈ tables_1, d.before a0 Z = true) (ws : List Jvm.Cond) (a : Addr) (q : Int64) (h0 : Heap) (n0 : Nat) (Z0 : n0 ≤ h0.size) (hE1 : Exa Z h0 a "java/lang/Long") (hF1 : Fld Z h0 a "java/lang/Long" "value" "J" (.long (0 : Int64))) (hg1 : n0 ≤ a) :
    MetFree l (⟨"java/lang/Long", "<init>", "(J)V"⟩ : MethodName) (head1 (Jvm.Cond.code (⟨"java/lang/Long", "<init>", "(J)V"⟩ : MethodName) jdk_35_method_26_code 3 none :: ws) ({ frames := 2, cells := 0, slots := 0, locals := 24 } : Room)) (fun aa_ UU_ => aa_ = #[(.ref a), (.long q)] ∧ Z.Warmed39 UU_.vm ∧ UU_.heap = h0) (fun _ _ _ _ _ => True) (fun _ UU_ oo_ UE_ => ∃ vv_ LL_, oo_ = .returned vv_ ∧ QW Z a "java/lang/Long" "value" "J" (.long q) none h0 n0 vv_ UE_.heap LL_ ∧ FrameEnd UU_ oo_ UE_ LL_ ({ frames := 2, cells := 0, slots := 0, locals := 24 } : Room).cells ({ frames := 2, cells := 0, slots := 0, locals := 24 } : Room).slots) := by
  refine MetFree.of_bodySF (plainFor_of_name pn_1) hisR ?_
  intro p e s m args below meth c s₁ Bd hml0 hP hK
  obtain ⟨rfl, hZ, hh⟩ := hP
  have hx := Bd.exec
  have hby := Bd.bytes
  have hml : c.maxLocals = 3 := hml0
  have hown : s.vm.findClass "java/lang/Long" = some m.cls := findClass_of_methodNamed Bd.named
  have hnm := (name_of_methodNamed Bd.named Bd.method).1
  have X0 : Stand p l e ({ frames := 2, cells := 0, slots := 0, locals := 24 } : Room) s m #[(.ref a), (.long q)] below meth c s₁ [] 0 0 := Stand.of_body Bd
  have e0 : s₁.heap = h0 := by rw [← hh, Bd.state]; rfl
  have N0 := Fr.nil n0
  have K0 : Keep h0 h0 [a] := Keep.refl h0 _
  have pre0 : ∀ tg, Steps p.tables e below (s₁.setTop (mkF m 0 #[.val (.ref a), .val (.long q), .second] [])) tg → Steps p.tables e below (s₁.setTop (entryFrame m #[(.ref a), (.long q)] 3)) tg := fun tg kq_ => castTop (ef_rmLI m a q) kq_
  obtain ⟨_, _, ⟨T1, L1, k1, n1⟩, -, X1, ⟨Lc1, hQ1, l1, y1, z1⟩, st1⟩ := X0.specialBack hx (y := (⟨"java/lang/Number", "<init>", "()V"⟩ : MethodName)) rfl hown (mvT hZ (hw _ (List.mem_of_getElem? (i := 49) rfl))) (mvT hZ (hw _ (List.mem_of_getElem? (i := 50) rfl))) (mvT hZ (hw _ (List.mem_of_getElem? (i := 54) rfl))) (by decide) (backOf (W := 0) (rmNI l Z a0 hw [] a h0 n0 Z0) hZ (hw _ (List.mem_of_getElem? (i := 54) rfl)) (hw _ (List.mem_of_getElem? (i := 53) rfl)) (by decide) (by decide)) (g := (mkF m 1 #[.val (.ref a), .val (.long q), .second] [(.ref a)])) rfl (by rw [hml]; rfl) (Steps.refl _) (a := a) (argsL := []) (rest := []) (lenOf pd_0 rfl) rfl (by show 2 * 0 + _ ≤ _; exact Nat.le_of_eq rfl) (hb hby d_jdk_35_m_26_1) (fun _ _ => ⟨rfl, e0, (by decide : 0 + 0 ≤ _), (by decide : 0 + 0 ≤ _)⟩)
  dsimp only [Pt.U, Pt.locs, Pt.cells, Pt.slots] at X1 l1 y1 z1 st1 hQ1
  subst l1 y1 z1
  obtain ⟨hv1, N1q, r1⟩ := hQ1
  subst hv1
  have N1 := Fr.app N0 N1q
  obtain ⟨T2, h2, X2, e2, W2, st2⟩ := putF X1 hx hZ hown (host := "") (Or.inl (hw _ (List.mem_of_getElem? (i := 56) rfl))) Via.refl r1 hF1 hE1 (Or.inr ⟨(hw _ (List.mem_of_getElem? (i := 57) rfl)), rfl, hnm⟩) (hw _ (List.mem_of_getElem? (i := 44) rfl)) (ty := .long) (by decide) rfl rfl (g := (mkF m 6 #[.val (.ref a), .val (.long q), .second] [(.long q), (.ref a)])) rfl rfl (hb hby d_jdk_35_m_26_6)
  have Z2 : n0 ≤ h2.size := Nat.le_trans Z0 (Nat.le_of_eq W2.size.symm)
  have N2 := Fr.snoc X2 N1 hg1
  have K2 : Keep h0 h2 [a] := K0.wr W2 (Or.inl (List.mem_of_getElem? (i := 0) rfl))
  have Fw2 := hF1.same W2
  obtain ⟨fs, hr, hrun, hended, hW, hsame⟩ := X2.leave (v := none) (fun _ => rfl)
  refine ⟨_, _, pre0 _ ?_, hrun, hended, _, _, rfl, ?_, ⟨_, rfl⟩, hW, hsame.mono (by decide) (by decide)⟩
  · show Steps p.tables e below (s₁.setTop (mkF m 0 #[.val (.ref a), .val (.long q), .second] [])) _
    refine XS.aloadN X0.here hx rfl (hb hby d_jdk_35_m_26_0) rfl rfl ?_
    show Steps p.tables e below (s₁.setTop (mkF m 1 #[.val (.ref a), .val (.long q), .second] [(.ref a)])) _
    refine st1.trans ?_
    show Steps p.tables e below (T1.setTop (mkF m 4 #[.val (.ref a), .val (.long q), .second] [])) _
    refine XS.aloadN X1.here hx rfl (hb hby d_jdk_35_m_26_4) rfl rfl ?_
    show Steps p.tables e below (T1.setTop (mkF m 5 #[.val (.ref a), .val (.long q), .second] [(.ref a)])) _
    refine XS.lloadN X1.here hx rfl (hb hby d_jdk_35_m_26_5) rfl ?_
    show Steps p.tables e below (T1.setTop (mkF m 6 #[.val (.ref a), .val (.long q), .second] [(.long q), (.ref a)])) _
    refine st2 _ ?_
    show Steps p.tables e below (T2.setTop (mkF m 9 #[.val (.ref a), .val (.long q), .second] [])) _
    exact X2.returnOut hx Bd.returns (hb hby d_jdk_35_m_26_9) hr
  · show QW Z a "java/lang/Long" "value" "J" (.long q) none h0 n0 _ T2.heap _
    rw [e2]
    exact ⟨rfl, N2, K2, Fw2⟩
theorem ef_rmLV (m : MethodId) (x0 : Int64) : entryFrame m #[(.long x0)] 3 = mkF m 0 #[.val (.long x0), .second, .unset] [] := by first | (simp [entryFrame, mkF, argsToLocals, Value.category]; done) | rfl
set_option maxRecDepth 65536 in
set_option maxHeartbeats 40000000 in
theorem rmLV (l : Launch) (Z : State) (a0 : Array Value) (hw : ∀ d ∈ tables_1, d.before a0 Z = true) (ws : List Jvm.Cond) (q : Int64) (ca : Addr) (cc : Cell) (val : Int32 → Value) (h0 : Heap) (n0 : Nat) (Z0 : n0 ≤ h0.size) (hO1 : Old Z n0 h0) (hS1 : Sta Z Z.heap "java/lang/Long$LongCache" "cache" "[Ljava/lang/Long;" (.ref ca)) (hB1 : Bxs Z ca cc "java/lang/Long" "J" (256 : Int32) val) :
    MetFree l (⟨"java/lang/Long", "valueOf", "(J)Ljava/lang/Long;"⟩ : MethodName) (head1 (Jvm.Cond.code (⟨"java/lang/Long", "valueOf", "(J)Ljava/lang/Long;"⟩ : MethodName) jdk_35_method_24_code 3 (some (.object "java/lang/Long")) :: ws) ({ frames := 3, cells := 1, slots := 1, locals := 39 } : Room)) (fun aa_ UU_ => aa_ = #[(.long q)] ∧ Z.Warmed39 UU_.vm ∧ UU_.heap = h0) (fun _ _ _ _ _ => True) (fun _ UU_ oo_ UE_ => ∃ vv_ LL_, oo_ = .returned vv_ ∧ QLV Z h0 n0 vv_ UE_.heap LL_ ∧ FrameEnd UU_ oo_ UE_ LL_ ({ frames := 3, cells := 1, slots := 1, locals := 39 } : Room).cells ({ frames := 3, cells := 1, slots := 1, locals := 39 } : Room).slots) := by
  refine MetFree.of_bodySF (plainFor_of_name pn_1) hisR ?_
  intro p e s m args below meth c s₁ Bd hml0 hP hK
  obtain ⟨rfl, hZ, hh⟩ := hP
  have hx := Bd.exec
  have hby := Bd.bytes
  have hml : c.maxLocals = 3 := hml0
  have hown : s.vm.findClass "java/lang/Long" = some m.cls := findClass_of_methodNamed Bd.named
  have hnm := (name_of_methodNamed Bd.named Bd.method).1
  have X0 : Stand p l e ({ frames := 3, cells := 1, slots := 1, locals := 39 } : Room) s m #[(.long q)] below meth c s₁ [] 0 0 := Stand.of_body Bd
  have e0 : s₁.heap = h0 := by rw [← hh, Bd.state]; rfl
  have N0 := Fr.nil n0
  have K0 : Keep h0 h0 [] := Keep.refl h0 _
  have pre0 : ∀ tg, Steps p.tables e below (s₁.setTop (mkF m 0 #[.val (.long q), .second, .unset] [])) tg → Steps p.tables e below (s₁.setTop (entryFrame m #[(.long q)] 3)) tg := fun tg kq_ => castTop (ef_rmLV m q) kq_
  have R1 : ∀ tg, Steps p.tables e below (s₁.setTop (mkF m 9 #[.val (.long q), .second, .val (.int (128 : Int32))] [(.int (lcmpW q (-128 : Int64)))])) tg → Steps p.tables e below (s₁.setTop (mkF m 0 #[.val (.long q), .second, .unset] [])) tg := by
    intro tg kt
    refine XS.sipush X0.here hx rfl (hb hby d_jdk_35_m_24_0) ?_
    show Steps p.tables e below (s₁.setTop (mkF m 3 #[.val (.long q), .second, .unset] [(.int (128 : Int32))])) _
    refine XS.istoreN X0.here hx rfl (hb hby d_jdk_35_m_24_3) rfl (l' := #[.val (.long q), .second, .val (.int (128 : Int32))]) rfl ?_
    show Steps p.tables e below (s₁.setTop (mkF m 4 #[.val (.long q), .second, .val (.int (128 : Int32))] [])) _
    refine XS.lloadN X0.here hx rfl (hb hby d_jdk_35_m_24_4) rfl ?_
    show Steps p.tables e below (s₁.setTop (mkF m 5 #[.val (.long q), .second, .val (.int (128 : Int32))] [(.long q)])) _
    refine X0.ldc2Long hx hown (mvT hZ (hw _ (List.mem_of_getElem? (i := 22) rfl))) (g := (mkF m 5 #[.val (.long q), .second, .val (.int (128 : Int32))] [(.long q)])) rfl (hb hby d_jdk_35_m_24_5) _ ?_
    show Steps p.tables e below (s₁.setTop (mkF m 8 #[.val (.long q), .second, .val (.int (128 : Int32))] [(.long (-128 : Int64)), (.long q)])) _
    refine XS.lcmp X0.here hx rfl (hb hby d_jdk_35_m_24_8) rfl ?_
    show Steps p.tables e below (s₁.setTop (mkF m 9 #[.val (.long q), .second, .val (.int (128 : Int32))] [(.int (lcmpW q (-128 : Int64)))])) _
    exact kt
  by_cases hc9_2 : (lcmpW q (-128 : Int64)) < (0 : Int32)
  · obtain ⟨T3, h3, X3, e3, E3, A3, D3, -, st3⟩ := newO X0 hx hZ hown (hw _ (List.mem_of_getElem? (i := 43) rfl)) (hw _ (List.mem_of_getElem? (i := 44) rfl)) (hw _ (List.mem_of_getElem? (i := 20) rfl)) e0 (g := (mkF m 31 #[.val (.long q), .second, .val (.int (128 : Int32))] [])) rfl (hb hby d_jdk_35_m_24_31) (by decide) (by decide)
    obtain ⟨b3, g3⟩ : ∃ z, z = h0.size := ⟨_, rfl⟩
    rw [← g3] at A3 D3 st3
    have gb_b3 : n0 ≤ b3 := Nat.le_trans Z0 (Nat.le_of_eq g3.symm)
    have sz_b3 : h0.size ≤ b3 := Nat.le_trans K0.1 (Nat.le_of_eq g3.symm)
    have Z3 : n0 ≤ h3.size := Nat.le_trans Z0 E3.1
    have K3 : Keep h0 h3 [] := K0.ext E3
    have F3_value : Fld Z h3 b3 "java/lang/Long" "value" "J" (.long (0 : Int64)) := D3 (Or.inr (hw _ (List.mem_of_getElem? (i := 57) rfl))) (ty := .long) (by decide)
    obtain ⟨_, _, ⟨T4, L4, k4, n4⟩, -, X4, ⟨Lc4, hQ4, l4, y4, z4⟩, st4⟩ := X3.specialBack hx (y := (⟨"java/lang/Long", "<init>", "(J)V"⟩ : MethodName)) rfl hown (mvT hZ (hw _ (List.mem_of_getElem? (i := 45) rfl))) (mvT hZ (hw _ (List.mem_of_getElem? (i := 46) rfl))) (mvT hZ (hw _ (List.mem_of_getElem? (i := 48) rfl))) (by decide) (backOf (W := 1) (rmLI l Z a0 hw [] b3 q h3 n0 Z3 A3 F3_value gb_b3) hZ (hw _ (List.mem_of_getElem? (i := 48) rfl)) (hw _ (List.mem_of_getElem? (i := 20) rfl)) (by decide) (by decide)) (g := (mkF m 36 #[.val (.long q), .second, .val (.int (128 : Int32))] [(.long q), (.ref b3), (.ref b3)])) rfl (by rw [hml]; rfl) (Steps.refl _) (a := b3) (argsL := [(.long q)]) (rest := [(.ref b3)]) (lenOf pd_1 rfl) rfl (by show 2 * 0 + _ ≤ _; exact Nat.le_of_eq rfl) (hb hby d_jdk_35_m_24_36) (fun _ _ => ⟨rfl, e3, (by decide : 1 + 0 ≤ _), (by decide : 1 + 0 ≤ _)⟩)
    dsimp only [Pt.U, Pt.locs, Pt.cells, Pt.slots] at X4 l4 y4 z4 st4 hQ4
    subst l4 y4 z4
    obtain ⟨hv4, N4q, kp4, fl4⟩ := hQ4
    subst hv4
    have N4 := Fr.app N0 N4q
    have Z4 : n0 ≤ T4.heap.size := Nat.le_trans Z3 kp4.1
    have K4 : Keep h0 T4.heap [] := K3.trans kp4 (allS (Or.inr sz_b3) all0)
    obtain ⟨fs, hr, hrun, hended, hW, hsame⟩ := X4.leave (v := some (.ref b3)) (fun h => by rw [Bd.returns] at h; cases h)
    refine ⟨_, _, pre0 _ (R1 _ ?_), hrun, hended, _, _, rfl, ?_, ⟨_, rfl⟩, hW, hsame.mono (by decide) (by decide)⟩
    · show Steps p.tables e below (s₁.setTop (mkF m 9 #[.val (.long q), .second, .val (.int (128 : Int32))] [(.int (lcmpW q (-128 : Int64)))])) _
      refine XS.ifYes X0.here hx rfl (pc0 := 9) (pc' := 31) rfl (hb hby d_jdk_35_m_24_9) rfl ((if0 _ _).trans (tlt hc9_2).1) (by decide) (by decide) ?_
      show Steps p.tables e below (s₁.setTop (mkF m 31 #[.val (.long q), .second, .val (.int (128 : Int32))] [])) _
      refine st3 _ ?_
      show Steps p.tables e below (T3.setTop (mkF m 34 #[.val (.long q), .second, .val (.int (128 : Int32))] [(.ref b3)])) _
      refine XS.dup X3.here hx rfl (hb hby d_jdk_35_m_24_34) rfl rfl ?_
      show Steps p.tables e below (T3.setTop (mkF m 35 #[.val (.long q), .second, .val (.int (128 : Int32))] [(.ref b3), (.ref b3)])) _
      refine XS.lloadN X3.here hx rfl (hb hby d_jdk_35_m_24_35) rfl ?_
      show Steps p.tables e below (T3.setTop (mkF m 36 #[.val (.long q), .second, .val (.int (128 : Int32))] [(.long q), (.ref b3), (.ref b3)])) _
      refine st4.trans ?_
      show Steps p.tables e below (T4.setTop (mkF m 39 #[.val (.long q), .second, .val (.int (128 : Int32))] [(.ref b3)])) _
      jvm_step X4.here [X4.here.top, hx, (hb hby d_jdk_35_m_24_39), X4.method', Bd.returns, Value.isRef, FieldType.isReference]
      first | (intro acts; rw [hr _ acts rfl rfl rfl]) | rw [hr _ _ rfl rfl rfl]
      exact Steps.refl _
    · show QLV Z h0 n0 _ T4.heap _
      have f5 := (A3.keep kp4)
      exact ⟨b3, rfl, N4, K4, f5⟩
  · have R6 : ∀ tg, Steps p.tables e below (s₁.setTop (mkF m 17 #[.val (.long q), .second, .val (.int (128 : Int32))] [(.int (lcmpW q (127 : Int64)))])) tg → Steps p.tables e below (s₁.setTop (mkF m 9 #[.val (.long q), .second, .val (.int (128 : Int32))] [(.int (lcmpW q (-128 : Int64)))])) tg := by
      intro tg kt
      refine XS.ifNo X0.here hx rfl (hb hby d_jdk_35_m_24_9) rfl ((if0 _ _).trans (flt hc9_2).1) ?_
      show Steps p.tables e below (s₁.setTop (mkF m 12 #[.val (.long q), .second, .val (.int (128 : Int32))] [])) _
      refine XS.lloadN X0.here hx rfl (hb hby d_jdk_35_m_24_12) rfl ?_
      show Steps p.tables e below (s₁.setTop (mkF m 13 #[.val (.long q), .second, .val (.int (128 : Int32))] [(.long q)])) _
      refine X0.ldc2Long hx hown (mvT hZ (hw _ (List.mem_of_getElem? (i := 23) rfl))) (g := (mkF m 13 #[.val (.long q), .second, .val (.int (128 : Int32))] [(.long q)])) rfl (hb hby d_jdk_35_m_24_13) _ ?_
      show Steps p.tables e below (s₁.setTop (mkF m 16 #[.val (.long q), .second, .val (.int (128 : Int32))] [(.long (127 : Int64)), (.long q)])) _
      refine XS.lcmp X0.here hx rfl (hb hby d_jdk_35_m_24_16) rfl ?_
      show Steps p.tables e below (s₁.setTop (mkF m 17 #[.val (.long q), .second, .val (.int (128 : Int32))] [(.int (lcmpW q (127 : Int64)))])) _
      exact kt
    by_cases hc17_7 : (0 : Int32) < (lcmpW q (127 : Int64))
    · obtain ⟨T8, h8, X8, e8, E8, A8, D8, -, st8⟩ := newO X0 hx hZ hown (hw _ (List.mem_of_getElem? (i := 43) rfl)) (hw _ (List.mem_of_getElem? (i := 44) rfl)) (hw _ (List.mem_of_getElem? (i := 20) rfl)) e0 (g := (mkF m 31 #[.val (.long q), .second, .val (.int (128 : Int32))] [])) rfl (hb hby d_jdk_35_m_24_31) (by decide) (by decide)
      obtain ⟨b8, g8⟩ : ∃ z, z = h0.size := ⟨_, rfl⟩
      rw [← g8] at A8 D8 st8
      have gb_b8 : n0 ≤ b8 := Nat.le_trans Z0 (Nat.le_of_eq g8.symm)
      have sz_b8 : h0.size ≤ b8 := Nat.le_trans K0.1 (Nat.le_of_eq g8.symm)
      have Z8 : n0 ≤ h8.size := Nat.le_trans Z0 E8.1
      have K8 : Keep h0 h8 [] := K0.ext E8
      have F8_value : Fld Z h8 b8 "java/lang/Long" "value" "J" (.long (0 : Int64)) := D8 (Or.inr (hw _ (List.mem_of_getElem? (i := 57) rfl))) (ty := .long) (by decide)
      obtain ⟨_, _, ⟨T9, L9, k9, n9⟩, -, X9, ⟨Lc9, hQ9, l9, y9, z9⟩, st9⟩ := X8.specialBack hx (y := (⟨"java/lang/Long", "<init>", "(J)V"⟩ : MethodName)) rfl hown (mvT hZ (hw _ (List.mem_of_getElem? (i := 45) rfl))) (mvT hZ (hw _ (List.mem_of_getElem? (i := 46) rfl))) (mvT hZ (hw _ (List.mem_of_getElem? (i := 48) rfl))) (by decide) (backOf (W := 1) (rmLI l Z a0 hw [] b8 q h8 n0 Z8 A8 F8_value gb_b8) hZ (hw _ (List.mem_of_getElem? (i := 48) rfl)) (hw _ (List.mem_of_getElem? (i := 20) rfl)) (by decide) (by decide)) (g := (mkF m 36 #[.val (.long q), .second, .val (.int (128 : Int32))] [(.long q), (.ref b8), (.ref b8)])) rfl (by rw [hml]; rfl) (Steps.refl _) (a := b8) (argsL := [(.long q)]) (rest := [(.ref b8)]) (lenOf pd_1 rfl) rfl (by show 2 * 0 + _ ≤ _; exact Nat.le_of_eq rfl) (hb hby d_jdk_35_m_24_36) (fun _ _ => ⟨rfl, e8, (by decide : 1 + 0 ≤ _), (by decide : 1 + 0 ≤ _)⟩)
      dsimp only [Pt.U, Pt.locs, Pt.cells, Pt.slots] at X9 l9 y9 z9 st9 hQ9
      subst l9 y9 z9
      obtain ⟨hv9, N9q, kp9, fl9⟩ := hQ9
      subst hv9
      have N9 := Fr.app N0 N9q
      have Z9 : n0 ≤ T9.heap.size := Nat.le_trans Z8 kp9.1
      have K9 : Keep h0 T9.heap [] := K8.trans kp9 (allS (Or.inr sz_b8) all0)
      obtain ⟨fs, hr, hrun, hended, hW, hsame⟩ := X9.leave (v := some (.ref b8)) (fun h => by rw [Bd.returns] at h; cases h)
      refine ⟨_, _, pre0 _ (R1 _ (R6 _ ?_)), hrun, hended, _, _, rfl, ?_, ⟨_, rfl⟩, hW, hsame.mono (by decide) (by decide)⟩
      · show Steps p.tables e below (s₁.setTop (mkF m 17 #[.val (.long q), .second, .val (.int (128 : Int32))] [(.int (lcmpW q (127 : Int64)))])) _
        refine XS.ifYes X0.here hx rfl (pc0 := 17) (pc' := 31) rfl (hb hby d_jdk_35_m_24_17) rfl ((if0 _ _).trans (tlt hc17_7).2.2.1) (by decide) (by decide) ?_
        show Steps p.tables e below (s₁.setTop (mkF m 31 #[.val (.long q), .second, .val (.int (128 : Int32))] [])) _
        refine st8 _ ?_
        show Steps p.tables e below (T8.setTop (mkF m 34 #[.val (.long q), .second, .val (.int (128 : Int32))] [(.ref b8)])) _
        refine XS.dup X8.here hx rfl (hb hby d_jdk_35_m_24_34) rfl rfl ?_
        show Steps p.tables e below (T8.setTop (mkF m 35 #[.val (.long q), .second, .val (.int (128 : Int32))] [(.ref b8), (.ref b8)])) _
        refine XS.lloadN X8.here hx rfl (hb hby d_jdk_35_m_24_35) rfl ?_
        show Steps p.tables e below (T8.setTop (mkF m 36 #[.val (.long q), .second, .val (.int (128 : Int32))] [(.long q), (.ref b8), (.ref b8)])) _
        refine st9.trans ?_
        show Steps p.tables e below (T9.setTop (mkF m 39 #[.val (.long q), .second, .val (.int (128 : Int32))] [(.ref b8)])) _
        jvm_step X9.here [X9.here.top, hx, (hb hby d_jdk_35_m_24_39), X9.method', Bd.returns, Value.isRef, FieldType.isReference]
        first | (intro acts; rw [hr _ acts rfl rfl rfl]) | rw [hr _ _ rfl rfl rfl]
        exact Steps.refl _
      · show QLV Z h0 n0 _ T9.heap _
        have f10 := (A8.keep kp9)
        exact ⟨b8, rfl, N9, K9, f10⟩
    · obtain ⟨T11, X11, e11, st11⟩ := getS2 X0 hx hZ hown (host := "") (Or.inl (hw _ (List.mem_of_getElem? (i := 24) rfl))) Via.refl e0 (hS1.ext hO1.2) (g := (mkF m 20 #[.val (.long q), .second, .val (.int (128 : Int32))] [])) rfl (hb hby d_jdk_35_m_24_20)
      have hin : ¬ ((q.toInt32 + (128 : Int32)) < 0 ∨ cc.slots.size ≤ (q.toInt32 + (128 : Int32)).toNatClampNeg) := by
        rw [hB1.2.1]
        exact own_place q (fun z => hc9_2 ((lw_lt q (-128)).mpr z)) (fun z => hc17_7 ((lw_gt q 127).mpr z))
      obtain ⟨bx, hat, EB, FB⟩ := hB1.2.2.2 _ hin
      obtain ⟨fs, hr, hrun, hended, hW, hsame⟩ := X11.leave (v := some (.ref bx)) (fun h => by rw [Bd.returns] at h; cases h)
      refine ⟨_, _, pre0 _ (R1 _ (R6 _ ?_)), hrun, hended, _, _, rfl, ?_, ⟨_, rfl⟩, hW, hsame.mono (by decide) (by decide)⟩
      · show Steps p.tables e below (s₁.setTop (mkF m 17 #[.val (.long q), .second, .val (.int (128 : Int32))] [(.int (lcmpW q (127 : Int64)))])) _
        refine XS.ifNo X0.here hx rfl (hb hby d_jdk_35_m_24_17) rfl ((if0 _ _).trans (flt hc17_7).2.2.1) ?_
        show Steps p.tables e below (s₁.setTop (mkF m 20 #[.val (.long q), .second, .val (.int (128 : Int32))] [])) _
        refine st11 _ ?_
        show Steps p.tables e below (T11.setTop (mkF m 23 #[.val (.long q), .second, .val (.int (128 : Int32))] [(.ref ca)])) _
        refine XS.lloadN X11.here hx rfl (hb hby d_jdk_35_m_24_23) rfl ?_
        show Steps p.tables e below (T11.setTop (mkF m 24 #[.val (.long q), .second, .val (.int (128 : Int32))] [(.long q), (.ref ca)])) _
        refine XS.l2i X11.here hx rfl (hb hby d_jdk_35_m_24_24) rfl ?_
        show Steps p.tables e below (T11.setTop (mkF m 25 #[.val (.long q), .second, .val (.int (128 : Int32))] [(.int (q.toInt32)), (.ref ca)])) _
        refine XS.sipush X11.here hx rfl (hb hby d_jdk_35_m_24_25) ?_
        show Steps p.tables e below (T11.setTop (mkF m 28 #[.val (.long q), .second, .val (.int (128 : Int32))] [(.int (128 : Int32)), (.int (q.toInt32)), (.ref ca)])) _
        refine XS.iadd X11.here hx rfl (hb hby d_jdk_35_m_24_28) rfl ?_
        show Steps p.tables e below (T11.setTop (mkF m 29 #[.val (.long q), .second, .val (.int (128 : Int32))] [(.int ((q.toInt32) + (128 : Int32))), (.ref ca)])) _
        refine X11.aaload hx (j := ((q.toInt32) + (128 : Int32))) (v := (.ref bx)) (by rw [e11]; exact (hB1.ext hO1.2).1.1) (State.isArrayOf_alike hZ.alike (hB1.ext hO1.2).1.2.1) rfl (hB1.ext hO1.2).1.2.2 hin hat (g := (mkF m 29 #[.val (.long q), .second, .val (.int (128 : Int32))] [(.int ((q.toInt32) + (128 : Int32))), (.ref ca)])) rfl rfl (hb hby d_jdk_35_m_24_29) _ ?_
        show Steps p.tables e below (T11.setTop (mkF m 30 #[.val (.long q), .second, .val (.int (128 : Int32))] [(.ref bx)])) _
        jvm_step X11.here [X11.here.top, hx, (hb hby d_jdk_35_m_24_30), X11.method', Bd.returns, Value.isRef, FieldType.isReference]
        first | (intro acts; rw [hr _ acts rfl rfl rfl]) | rw [hr _ _ rfl rfl rfl]
        exact Steps.refl _
      · show QLV Z h0 n0 _ T11.heap _
        rw [e11]
        exact ⟨bx, rfl, N0, K0, EB.ext hO1.2⟩
theorem ef_rmC (m : MethodId) (x0 : Addr) : entryFrame m #[(.ref x0)] 1 = mkF m 0 #[.val (.ref x0)] [] := by first | (simp [entryFrame, mkF, argsToLocals, Value.category]; done) | rfl
set_option maxRecDepth 65536 in
set_option maxHeartbeats 40000000 in
theorem rmC (l : Launch) (Z : State) (a0 : Array Value) (hw : ∀ d ∈ tables_1, d.before a0 Z = true) (ws : List Jvm.Cond) (a : Addr) (h0 : Heap) (n0 : Nat) (Z0 : n0 ≤ h0.size)  :
    MetFree l (⟨"com/example/durchlass/durchlass/algorithm/LamportClock", "<init>", "()V"⟩ : MethodName) (head1 (Jvm.Cond.code (⟨"com/example/durchlass/durchlass/algorithm/LamportClock", "<init>", "()V"⟩ : MethodName) prog_16_method_1_code 1 none :: ws) ({ frames := 1, cells := 0, slots := 0, locals := 12 } : Room)) (fun aa_ UU_ => aa_ = #[(.ref a)] ∧ Z.Warmed39 UU_.vm ∧ UU_.heap = h0) (fun _ _ _ _ _ => True) (fun _ UU_ oo_ UE_ => ∃ vv_ LL_, oo_ = .returned vv_ ∧ QV none h0 n0 vv_ UE_.heap LL_ ∧ FrameEnd UU_ oo_ UE_ LL_ ({ frames := 1, cells := 0, slots := 0, locals := 12 } : Room).cells ({ frames := 1, cells := 0, slots := 0, locals := 12 } : Room).slots) := by
  refine MetFree.of_bodySF (plainFor_of_name pn_2) hisR ?_
  intro p e s m args below meth c s₁ Bd hml0 hP hK
  obtain ⟨rfl, hZ, hh⟩ := hP
  have hx := Bd.exec
  have hby := Bd.bytes
  have hml : c.maxLocals = 1 := hml0
  have hown : s.vm.findClass "com/example/durchlass/durchlass/algorithm/LamportClock" = some m.cls := findClass_of_methodNamed Bd.named
  have hnm := (name_of_methodNamed Bd.named Bd.method).1
  have X0 : Stand p l e ({ frames := 1, cells := 0, slots := 0, locals := 12 } : Room) s m #[(.ref a)] below meth c s₁ [] 0 0 := Stand.of_body Bd
  have e0 : s₁.heap = h0 := by rw [← hh, Bd.state]; rfl
  have N0 := Fr.nil n0
  have pre0 : ∀ tg, Steps p.tables e below (s₁.setTop (mkF m 0 #[.val (.ref a)] [])) tg → Steps p.tables e below (s₁.setTop (entryFrame m #[(.ref a)] 1)) tg := fun tg kq_ => castTop (ef_rmC m a) kq_
  obtain ⟨T1, X1, e1, st1⟩ := initO X0 hx hZ hown (hw _ (List.mem_of_getElem? (i := 6) rfl)) (hw _ (List.mem_of_getElem? (i := 7) rfl)) (hw _ (List.mem_of_getElem? (i := 8) rfl)) e0 (g := (mkF m 1 #[.val (.ref a)] [(.ref a)])) rfl (by rw [hml]; rfl) rfl (hb hby d_prog_16_m_1_1) (by decide) (W := 0) (by show 2 * 0 + _ ≤ _; exact Nat.le_of_eq rfl) (by decide)
  obtain ⟨fs, hr, hrun, hended, hW, hsame⟩ := X1.leave (v := none) (fun _ => rfl)
  refine ⟨_, _, pre0 _ ?_, hrun, hended, _, _, rfl, ?_, ⟨_, rfl⟩, hW, hsame.mono (by decide) (by decide)⟩
  · show Steps p.tables e below (s₁.setTop (mkF m 0 #[.val (.ref a)] [])) _
    refine XS.aloadN X0.here hx rfl (hb hby d_prog_16_m_1_0) rfl rfl ?_
    show Steps p.tables e below (s₁.setTop (mkF m 1 #[.val (.ref a)] [(.ref a)])) _
    refine st1 _ ?_
    show Steps p.tables e below (T1.setTop (mkF m 4 #[.val (.ref a)] [])) _
    exact X1.returnOut hx Bd.returns (hb hby d_prog_16_m_1_4) hr
  · show QV none h0 n0 _ T1.heap _
    rw [e1]
    exact ⟨rfl, N0, rfl⟩
theorem ef_rmM (m : MethodId) (x0 : Int64) (x1 : Int64) : entryFrame m #[(.long x0), (.long x1)] 4 = mkF m 0 #[.val (.long x0), .second, .val (.long x1), .second] [] := by first | (simp [entryFrame, mkF, argsToLocals, Value.category]; done) | rfl
set_option maxRecDepth 65536 in
set_option maxHeartbeats 40000000 in
theorem rmM (l : Launch) (Z : State) (a0 : Array Value) (hw : ∀ d ∈ tables_1, d.before a0 Z = true) (ws : List Jvm.Cond) (x y : Int64) (h0 : Heap) (n0 : Nat) (Z0 : n0 ≤ h0.size)  :
    MetFree l (⟨"java/lang/Math", "max", "(JJ)J"⟩ : MethodName) (head1 (Jvm.Cond.code (⟨"java/lang/Math", "max", "(JJ)J"⟩ : MethodName) jdk_29_method_66_code 4 (some .long) :: ws) ({ frames := 0, cells := 0, slots := 0, locals := 0 } : Room)) (fun aa_ UU_ => aa_ = #[(.long x), (.long y)] ∧ Z.Warmed39 UU_.vm ∧ UU_.heap = h0) (fun _ _ _ _ _ => True) (fun _ UU_ oo_ UE_ => ∃ vv_ LL_, oo_ = .returned vv_ ∧ QV (some (.long (if (lcmpW x y) < (0 : Int32) then y else x))) h0 n0 vv_ UE_.heap LL_ ∧ FrameEnd UU_ oo_ UE_ LL_ ({ frames := 0, cells := 0, slots := 0, locals := 0 } : Room).cells ({ frames := 0, cells := 0, slots := 0, locals := 0 } : Room).slots) := by
  refine MetFree.of_bodySF (Jvm.Free.JP.mathPlain rfl (by decide +kernel)) hisR ?_
  intro p e s m args below meth c s₁ Bd hml0 hP hK
  obtain ⟨rfl, hZ, hh⟩ := hP
  have hx := Bd.exec
  have hby := Bd.bytes
  have hml : c.maxLocals = 4 := hml0
  have hown : s.vm.findClass "java/lang/Math" = some m.cls := findClass_of_methodNamed Bd.named
  have hnm := (name_of_methodNamed Bd.named Bd.method).1
  have X0 : Stand p l e ({ frames := 0, cells := 0, slots := 0, locals := 0 } : Room) s m #[(.long x), (.long y)] below meth c s₁ [] 0 0 := Stand.of_body Bd
  have e0 : s₁.heap = h0 := by rw [← hh, Bd.state]; rfl
  have N0 := Fr.nil n0
  have pre0 : ∀ tg, Steps p.tables e below (s₁.setTop (mkF m 0 #[.val (.long x), .second, .val (.long y), .second] [])) tg → Steps p.tables e below (s₁.setTop (entryFrame m #[(.long x), (.long y)] 4)) tg := fun tg kq_ => castTop (ef_rmM m x y) kq_
  have R1 : ∀ tg, Steps p.tables e below (s₁.setTop (mkF m 3 #[.val (.long x), .second, .val (.long y), .second] [(.int (lcmpW x y))])) tg → Steps p.tables e below (s₁.setTop (mkF m 0 #[.val (.long x), .second, .val (.long y), .second] [])) tg := by
    intro tg kt
    refine XS.lloadN X0.here hx rfl (hb hby d_jdk_29_m_66_0) rfl ?_
    show Steps p.tables e below (s₁.setTop (mkF m 1 #[.val (.long x), .second, .val (.long y), .second] [(.long x)])) _
    refine XS.lloadN X0.here hx rfl (hb hby d_jdk_29_m_66_1) rfl ?_
    show Steps p.tables e below (s₁.setTop (mkF m 2 #[.val (.long x), .second, .val (.long y), .second] [(.long y), (.long x)])) _
    refine XS.lcmp X0.here hx rfl (hb hby d_jdk_29_m_66_2) rfl ?_
    show Steps p.tables e below (s₁.setTop (mkF m 3 #[.val (.long x), .second, .val (.long y), .second] [(.int (lcmpW x y))])) _
    exact kt
  by_cases hc3_2 : (lcmpW x y) < (0 : Int32)
  · obtain ⟨fs, hr, hrun, hended, hW, hsame⟩ := X0.leave (v := some (.long y)) (fun h => by rw [Bd.returns] at h; cases h)
    refine ⟨_, _, pre0 _ (R1 _ ?_), hrun, hended, _, _, rfl, ?_, ⟨_, rfl⟩, hW, hsame.mono (by decide) (by decide)⟩
    · show Steps p.tables e below (s₁.setTop (mkF m 3 #[.val (.long x), .second, .val (.long y), .second] [(.int (lcmpW x y))])) _
      refine XS.ifYes X0.here hx rfl (pc0 := 3) (pc' := 10) rfl (hb hby d_jdk_29_m_66_3) rfl ((if0 _ _).trans (tlt hc3_2).1) (by decide) (by decide) ?_
      show Steps p.tables e below (s₁.setTop (mkF m 10 #[.val (.long x), .second, .val (.long y), .second] [])) _
      refine XS.lloadN X0.here hx rfl (hb hby d_jdk_29_m_66_10) rfl ?_
      show Steps p.tables e below (s₁.setTop (mkF m 11 #[.val (.long x), .second, .val (.long y), .second] [(.long y)])) _
      jvm_step X0.here [X0.here.top, hx, (hb hby d_jdk_29_m_66_11), X0.method', Bd.returns, narrow]
      first | (intro acts; rw [hr _ acts rfl rfl rfl]) | rw [hr _ _ rfl rfl rfl]
      exact Steps.refl _
    · show QV (some (.long (if (lcmpW x y) < (0 : Int32) then y else x))) h0 n0 _ s₁.heap _
      rw [e0]
      exact ⟨by rw [if_pos hc3_2], N0, rfl⟩
  · obtain ⟨fs, hr, hrun, hended, hW, hsame⟩ := X0.leave (v := some (.long x)) (fun h => by rw [Bd.returns] at h; cases h)
    refine ⟨_, _, pre0 _ (R1 _ ?_), hrun, hended, _, _, rfl, ?_, ⟨_, rfl⟩, hW, hsame.mono (by decide) (by decide)⟩
    · show Steps p.tables e below (s₁.setTop (mkF m 3 #[.val (.long x), .second, .val (.long y), .second] [(.int (lcmpW x y))])) _
      refine XS.ifNo X0.here hx rfl (hb hby d_jdk_29_m_66_3) rfl ((if0 _ _).trans (flt hc3_2).1) ?_
      show Steps p.tables e below (s₁.setTop (mkF m 6 #[.val (.long x), .second, .val (.long y), .second] [])) _
      refine XS.lloadN X0.here hx rfl (hb hby d_jdk_29_m_66_6) rfl ?_
      show Steps p.tables e below (s₁.setTop (mkF m 7 #[.val (.long x), .second, .val (.long y), .second] [(.long x)])) _
      refine XS.goto X0.here hx rfl (pc0 := 7) (pc' := 11) rfl (hb hby d_jdk_29_m_66_7) (by decide) (by decide) ?_
      show Steps p.tables e below (s₁.setTop (mkF m 11 #[.val (.long x), .second, .val (.long y), .second] [(.long x)])) _
      jvm_step X0.here [X0.here.top, hx, (hb hby d_jdk_29_m_66_11), X0.method', Bd.returns, narrow]
      first | (intro acts; rw [hr _ acts rfl rfl rfl]) | rw [hr _ _ rfl rfl rfl]
      exact Steps.refl _
    · show QV (some (.long (if (lcmpW x y) < (0 : Int32) then y else x))) h0 n0 _ s₁.heap _
      rw [e0]
      exact ⟨by rw [if_neg hc3_2], N0, rfl⟩
theorem ef_rmR (m : MethodId) (x0 : Addr) (x1 : Int64) : entryFrame m #[(.ref x0), (.long x1)] 3 = mkF m 0 #[.val (.ref x0), .val (.long x1), .second] [] := by first | (simp [entryFrame, mkF, argsToLocals, Value.category]; done) | rfl
set_option maxRecDepth 65536 in
set_option maxHeartbeats 40000000 in
theorem rmR (l : Launch) (Z : State) (a0 : Array Value) (hw : ∀ d ∈ tables_1, d.before a0 Z = true) (ws : List Jvm.Cond) (a : Addr) (t x : Int64) (h0 : Heap) (n0 : Nat) (Z0 : n0 ≤ h0.size) (hE1 : Exa Z h0 a "com/example/durchlass/durchlass/algorithm/LamportClock") (hF1 : Fld Z h0 a "com/example/durchlass/durchlass/algorithm/LamportClock" "time" "J" (.long t)) (hg1 : n0 ≤ a) :
    MetFree l (⟨"com/example/durchlass/durchlass/algorithm/LamportClock", "receive", "(J)V"⟩ : MethodName) (head1 (Jvm.Cond.code (⟨"com/example/durchlass/durchlass/algorithm/LamportClock", "receive", "(J)V"⟩ : MethodName) prog_16_method_4_code 3 none :: ws) ({ frames := 1, cells := 0, slots := 0, locals := 16 } : Room)) (fun aa_ UU_ => aa_ = #[(.ref a), (.long x)] ∧ Z.Warmed39 UU_.vm ∧ UU_.heap = h0) (fun _ _ _ _ _ => True) (fun _ UU_ oo_ UE_ => ∃ vv_ LL_, oo_ = .returned vv_ ∧ QW Z a "com/example/durchlass/durchlass/algorithm/LamportClock" "time" "J" (.long ((if (lcmpW t x) < (0 : Int32) then x else t) + (1 : Int64))) none h0 n0 vv_ UE_.heap LL_ ∧ FrameEnd UU_ oo_ UE_ LL_ ({ frames := 1, cells := 0, slots := 0, locals := 16 } : Room).cells ({ frames := 1, cells := 0, slots := 0, locals := 16 } : Room).slots) := by
  refine MetFree.of_bodySF (plainFor_of_name pn_2) hisR ?_
  intro p e s m args below meth c s₁ Bd hml0 hP hK
  obtain ⟨rfl, hZ, hh⟩ := hP
  have hx := Bd.exec
  have hby := Bd.bytes
  have hml : c.maxLocals = 3 := hml0
  have hown : s.vm.findClass "com/example/durchlass/durchlass/algorithm/LamportClock" = some m.cls := findClass_of_methodNamed Bd.named
  have hnm := (name_of_methodNamed Bd.named Bd.method).1
  have X0 : Stand p l e ({ frames := 1, cells := 0, slots := 0, locals := 16 } : Room) s m #[(.ref a), (.long x)] below meth c s₁ [] 0 0 := Stand.of_body Bd
  have e0 : s₁.heap = h0 := by rw [← hh, Bd.state]; rfl
  have N0 := Fr.nil n0
  have K0 : Keep h0 h0 [a] := Keep.refl h0 _
  have pre0 : ∀ tg, Steps p.tables e below (s₁.setTop (mkF m 0 #[.val (.ref a), .val (.long x), .second] [])) tg → Steps p.tables e below (s₁.setTop (entryFrame m #[(.ref a), (.long x)] 3)) tg := fun tg kq_ => castTop (ef_rmR m a x) kq_
  obtain ⟨T1, X1, e1, st1⟩ := getF X0 hx hZ hown (host := "") (Or.inl (hw _ (List.mem_of_getElem? (i := 16) rfl))) Via.refl e0 hF1 (g := (mkF m 2 #[.val (.ref a), .val (.long x), .second] [(.ref a), (.ref a)])) rfl rfl (hb hby d_prog_16_m_4_2)
  obtain ⟨_, _, ⟨T2, L2, k2, n2⟩, -, X2, ⟨Lc2, hQ2, l2, y2, z2⟩, st2⟩ := Jvm.LawKit.callS X1 hx (y := (⟨"java/lang/Math", "max", "(JJ)J"⟩ : MethodName)) hown (mvT hZ (hw _ (List.mem_of_getElem? (i := 39) rfl))) (mvT hZ (hw _ (List.mem_of_getElem? (i := 40) rfl))) (mvT hZ (hw _ (List.mem_of_getElem? (i := 41) rfl))) (mvT hZ (hw _ (List.mem_of_getElem? (i := 42) rfl))) (by decide) (backOf (W := 1) (rmM l Z a0 hw [] t x h0 n0 Z0) hZ (hw _ (List.mem_of_getElem? (i := 42) rfl)) (hw _ (List.mem_of_getElem? (i := 41) rfl)) (by decide) (by decide)) (g := (mkF m 6 #[.val (.ref a), .val (.long x), .second] [(.long x), (.long t), (.ref a)])) rfl (by rw [hml]; rfl) (argsL := [(.long t), (.long x)]) (rest := [(.ref a)]) (lenOf pd_2 rfl) rfl (by show 2 * 0 + _ ≤ _; exact Nat.le_of_eq rfl) (hb hby d_prog_16_m_4_6) (fun _ _ => ⟨rfl, e1, (by decide : 0 + 0 ≤ _), (by decide : 0 + 0 ≤ _)⟩)
  dsimp only [Pt.U, Pt.locs, Pt.cells, Pt.slots] at X2 l2 y2 z2 st2 hQ2
  subst l2 y2 z2
  obtain ⟨hv2, N2q, r2⟩ := hQ2
  subst hv2
  have N2 := Fr.app N0 N2q
  obtain ⟨T3, h3, X3, e3, W3, st3⟩ := putF X2 hx hZ hown (host := "") (Or.inl (hw _ (List.mem_of_getElem? (i := 16) rfl))) Via.refl r2 hF1 hE1 (Or.inl (hw _ (List.mem_of_getElem? (i := 17) rfl))) (hw _ (List.mem_of_getElem? (i := 1) rfl)) (ty := .long) (by decide) rfl rfl (g := (mkF m 11 #[.val (.ref a), .val (.long x), .second] [(.long ((if (lcmpW t x) < (0 : Int32) then x else t) + (1 : Int64))), (.ref a)])) rfl rfl (hb hby d_prog_16_m_4_11)
  have Z3 : n0 ≤ h3.size := Nat.le_trans Z0 (Nat.le_of_eq W3.size.symm)
  have N3 := Fr.snoc X3 N2 hg1
  have K3 : Keep h0 h3 [a] := K0.wr W3 (Or.inl (List.mem_of_getElem? (i := 0) rfl))
  have Fw3 := hF1.same W3
  obtain ⟨fs, hr, hrun, hended, hW, hsame⟩ := X3.leave (v := none) (fun _ => rfl)
  refine ⟨_, _, pre0 _ ?_, hrun, hended, _, _, rfl, ?_, ⟨_, rfl⟩, hW, hsame.mono (by decide) (by decide)⟩
  · show Steps p.tables e below (s₁.setTop (mkF m 0 #[.val (.ref a), .val (.long x), .second] [])) _
    refine XS.aloadN X0.here hx rfl (hb hby d_prog_16_m_4_0) rfl rfl ?_
    show Steps p.tables e below (s₁.setTop (mkF m 1 #[.val (.ref a), .val (.long x), .second] [(.ref a)])) _
    refine XS.aloadN X0.here hx rfl (hb hby d_prog_16_m_4_1) rfl rfl ?_
    show Steps p.tables e below (s₁.setTop (mkF m 2 #[.val (.ref a), .val (.long x), .second] [(.ref a), (.ref a)])) _
    refine st1 _ ?_
    show Steps p.tables e below (T1.setTop (mkF m 5 #[.val (.ref a), .val (.long x), .second] [(.long t), (.ref a)])) _
    refine XS.lloadN X1.here hx rfl (hb hby d_prog_16_m_4_5) rfl ?_
    show Steps p.tables e below (T1.setTop (mkF m 6 #[.val (.ref a), .val (.long x), .second] [(.long x), (.long t), (.ref a)])) _
    refine st2 _ ?_
    show Steps p.tables e below (T2.setTop (mkF m 9 #[.val (.ref a), .val (.long x), .second] [(.long (if (lcmpW t x) < (0 : Int32) then x else t)), (.ref a)])) _
    refine XS.lconst X2.here hx rfl (hb hby d_prog_16_m_4_9) ?_
    show Steps p.tables e below (T2.setTop (mkF m 10 #[.val (.ref a), .val (.long x), .second] [(.long (1 : Int64)), (.long (if (lcmpW t x) < (0 : Int32) then x else t)), (.ref a)])) _
    refine XS.ladd X2.here hx rfl (hb hby d_prog_16_m_4_10) rfl ?_
    show Steps p.tables e below (T2.setTop (mkF m 11 #[.val (.ref a), .val (.long x), .second] [(.long ((if (lcmpW t x) < (0 : Int32) then x else t) + (1 : Int64))), (.ref a)])) _
    refine st3 _ ?_
    show Steps p.tables e below (T3.setTop (mkF m 14 #[.val (.ref a), .val (.long x), .second] [])) _
    exact X3.returnOut hx Bd.returns (hb hby d_prog_16_m_4_14) hr
  · show QW Z a "com/example/durchlass/durchlass/algorithm/LamportClock" "time" "J" (.long ((if (lcmpW t x) < (0 : Int32) then x else t) + (1 : Int64))) none h0 n0 _ T3.heap _
    rw [e3]
    exact ⟨rfl, N3, K3, Fw3⟩
theorem ef_rmS (m : MethodId) (x0 : Addr) : entryFrame m #[(.ref x0)] 3 = mkF m 0 #[.val (.ref x0), .unset, .unset] [] := by first | (simp [entryFrame, mkF, argsToLocals, Value.category]; done) | rfl
set_option maxRecDepth 65536 in
set_option maxHeartbeats 40000000 in
theorem rmS (l : Launch) (Z : State) (a0 : Array Value) (hw : ∀ d ∈ tables_1, d.before a0 Z = true) (ws : List Jvm.Cond) (a : Addr) (t : Int64) (h0 : Heap) (n0 : Nat) (Z0 : n0 ≤ h0.size) (hE1 : Exa Z h0 a "com/example/durchlass/durchlass/algorithm/LamportClock") (hF1 : Fld Z h0 a "com/example/durchlass/durchlass/algorithm/LamportClock" "time" "J" (.long t)) (hg1 : n0 ≤ a) :
    MetFree l (⟨"com/example/durchlass/durchlass/algorithm/LamportClock", "send", "()J"⟩ : MethodName) (head1 (Jvm.Cond.code (⟨"com/example/durchlass/durchlass/algorithm/LamportClock", "send", "()J"⟩ : MethodName) prog_16_method_3_code 3 (some .long) :: ws) ({ frames := 0, cells := 0, slots := 0, locals := 0 } : Room)) (fun aa_ UU_ => aa_ = #[(.ref a)] ∧ Z.Warmed39 UU_.vm ∧ UU_.heap = h0) (fun _ _ _ _ _ => True) (fun _ UU_ oo_ UE_ => ∃ vv_ LL_, oo_ = .returned vv_ ∧ QW Z a "com/example/durchlass/durchlass/algorithm/LamportClock" "time" "J" (.long (t + (1 : Int64))) (some (.long t)) h0 n0 vv_ UE_.heap LL_ ∧ FrameEnd UU_ oo_ UE_ LL_ ({ frames := 0, cells := 0, slots := 0, locals := 0 } : Room).cells ({ frames := 0, cells := 0, slots := 0, locals := 0 } : Room).slots) := by
  refine MetFree.of_bodySF (plainFor_of_name pn_2) hisR ?_
  intro p e s m args below meth c s₁ Bd hml0 hP hK
  obtain ⟨rfl, hZ, hh⟩ := hP
  have hx := Bd.exec
  have hby := Bd.bytes
  have hml : c.maxLocals = 3 := hml0
  have hown : s.vm.findClass "com/example/durchlass/durchlass/algorithm/LamportClock" = some m.cls := findClass_of_methodNamed Bd.named
  have hnm := (name_of_methodNamed Bd.named Bd.method).1
  have X0 : Stand p l e ({ frames := 0, cells := 0, slots := 0, locals := 0 } : Room) s m #[(.ref a)] below meth c s₁ [] 0 0 := Stand.of_body Bd
  have e0 : s₁.heap = h0 := by rw [← hh, Bd.state]; rfl
  have N0 := Fr.nil n0
  have K0 : Keep h0 h0 [a] := Keep.refl h0 _
  have pre0 : ∀ tg, Steps p.tables e below (s₁.setTop (mkF m 0 #[.val (.ref a), .unset, .unset] [])) tg → Steps p.tables e below (s₁.setTop (entryFrame m #[(.ref a)] 3)) tg := fun tg kq_ => castTop (ef_rmS m a) kq_
  obtain ⟨T1, X1, e1, st1⟩ := getF X0 hx hZ hown (host := "") (Or.inl (hw _ (List.mem_of_getElem? (i := 16) rfl))) Via.refl e0 hF1 (g := (mkF m 1 #[.val (.ref a), .unset, .unset] [(.ref a)])) rfl rfl (hb hby d_prog_16_m_3_1)
  obtain ⟨T2, X2, e2, st2⟩ := getF X1 hx hZ hown (host := "") (Or.inl (hw _ (List.mem_of_getElem? (i := 16) rfl))) Via.refl e1 hF1 (g := (mkF m 7 #[.val (.ref a), .val (.long t), .second] [(.ref a), (.ref a)])) rfl rfl (hb hby d_prog_16_m_3_7)
  obtain ⟨T3, h3, X3, e3, W3, st3⟩ := putF X2 hx hZ hown (host := "") (Or.inl (hw _ (List.mem_of_getElem? (i := 16) rfl))) Via.refl e2 hF1 hE1 (Or.inl (hw _ (List.mem_of_getElem? (i := 17) rfl))) (hw _ (List.mem_of_getElem? (i := 1) rfl)) (ty := .long) (by decide) rfl rfl (g := (mkF m 12 #[.val (.ref a), .val (.long t), .second] [(.long (t + (1 : Int64))), (.ref a)])) rfl rfl (hb hby d_prog_16_m_3_12)
  have Z3 : n0 ≤ h3.size := Nat.le_trans Z0 (Nat.le_of_eq W3.size.symm)
  have N3 := Fr.snoc X3 N0 hg1
  have K3 : Keep h0 h3 [a] := K0.wr W3 (Or.inl (List.mem_of_getElem? (i := 0) rfl))
  have Fw3 := hF1.same W3
  obtain ⟨fs, hr, hrun, hended, hW, hsame⟩ := X3.leave (v := some (.long t)) (fun h => by rw [Bd.returns] at h; cases h)
  refine ⟨_, _, pre0 _ ?_, hrun, hended, _, _, rfl, ?_, ⟨_, rfl⟩, hW, hsame.mono (by decide) (by decide)⟩
  · show Steps p.tables e below (s₁.setTop (mkF m 0 #[.val (.ref a), .unset, .unset] [])) _
    refine XS.aloadN X0.here hx rfl (hb hby d_prog_16_m_3_0) rfl rfl ?_
    show Steps p.tables e below (s₁.setTop (mkF m 1 #[.val (.ref a), .unset, .unset] [(.ref a)])) _
    refine st1 _ ?_
    show Steps p.tables e below (T1.setTop (mkF m 4 #[.val (.ref a), .unset, .unset] [(.long t)])) _
    refine XS.lstoreN X1.here hx rfl (hb hby d_prog_16_m_3_4) rfl (l' := #[.val (.ref a), .val (.long t), .second]) rfl ?_
    show Steps p.tables e below (T1.setTop (mkF m 5 #[.val (.ref a), .val (.long t), .second] [])) _
    refine XS.aloadN X1.here hx rfl (hb hby d_prog_16_m_3_5) rfl rfl ?_
    show Steps p.tables e below (T1.setTop (mkF m 6 #[.val (.ref a), .val (.long t), .second] [(.ref a)])) _
    refine XS.dup X1.here hx rfl (hb hby d_prog_16_m_3_6) rfl rfl ?_
    show Steps p.tables e below (T1.setTop (mkF m 7 #[.val (.ref a), .val (.long t), .second] [(.ref a), (.ref a)])) _
    refine st2 _ ?_
    show Steps p.tables e below (T2.setTop (mkF m 10 #[.val (.ref a), .val (.long t), .second] [(.long t), (.ref a)])) _
    refine XS.lconst X2.here hx rfl (hb hby d_prog_16_m_3_10) ?_
    show Steps p.tables e below (T2.setTop (mkF m 11 #[.val (.ref a), .val (.long t), .second] [(.long (1 : Int64)), (.long t), (.ref a)])) _
    refine XS.ladd X2.here hx rfl (hb hby d_prog_16_m_3_11) rfl ?_
    show Steps p.tables e below (T2.setTop (mkF m 12 #[.val (.ref a), .val (.long t), .second] [(.long (t + (1 : Int64))), (.ref a)])) _
    refine st3 _ ?_
    show Steps p.tables e below (T3.setTop (mkF m 15 #[.val (.ref a), .val (.long t), .second] [])) _
    refine XS.lloadN X3.here hx rfl (hb hby d_prog_16_m_3_15) rfl ?_
    show Steps p.tables e below (T3.setTop (mkF m 16 #[.val (.ref a), .val (.long t), .second] [(.long t)])) _
    jvm_step X3.here [X3.here.top, hx, (hb hby d_prog_16_m_3_16), X3.method', Bd.returns, narrow]
    first | (intro acts; rw [hr _ acts rfl rfl rfl]) | rw [hr _ _ rfl rfl rfl]
    exact Steps.refl _
  · show QW Z a "com/example/durchlass/durchlass/algorithm/LamportClock" "time" "J" (.long (t + (1 : Int64))) (some (.long t)) h0 n0 _ T3.heap _
    rw [e3]
    exact ⟨rfl, N3, K3, Fw3⟩
theorem ef_rmE (m : MethodId) (x0 : Addr) (x1 : Addr) : entryFrame m #[(.ref x0), (.ref x1)] 3 = mkF m 0 #[.val (.ref x0), .val (.ref x1), .unset] [] := by first | (simp [entryFrame, mkF, argsToLocals, Value.category]; done) | rfl
set_option maxRecDepth 65536 in
set_option maxHeartbeats 40000000 in
theorem rmE (l : Launch) (Z : State) (a0 : Array Value) (hw : ∀ d ∈ tables_1, d.before a0 Z = true) (ws : List Jvm.Cond) (a b : Addr) (t u : Int64) (h0 : Heap) (n0 : Nat) (Z0 : n0 ≤ h0.size) (hF1 : Fld Z h0 a "com/example/durchlass/durchlass/algorithm/LamportClock" "time" "J" (.long t)) (hE2 : Exa Z h0 b "com/example/durchlass/durchlass/algorithm/LamportClock") (hF2 : Fld Z h0 b "com/example/durchlass/durchlass/algorithm/LamportClock" "time" "J" (.long u)) :
    MetFree l (⟨"com/example/durchlass/durchlass/algorithm/LamportClock", "equals", "(Ljava/lang/Object;)Z"⟩ : MethodName) (head1 (Jvm.Cond.code (⟨"com/example/durchlass/durchlass/algorithm/LamportClock", "equals", "(Ljava/lang/Object;)Z"⟩ : MethodName) prog_16_method_5_code 3 (some .boolean) :: ws) ({ frames := 0, cells := 0, slots := 0, locals := 0 } : Room)) (fun aa_ UU_ => aa_ = #[(.ref a), (.ref b)] ∧ Z.Warmed39 UU_.vm ∧ UU_.heap = h0) (fun _ _ _ _ _ => True) (fun _ UU_ oo_ UE_ => ∃ vv_ LL_, oo_ = .returned vv_ ∧ QV (some (.int (if (lcmpW t u) = (0 : Int32) then 1 else 0))) h0 n0 vv_ UE_.heap LL_ ∧ FrameEnd UU_ oo_ UE_ LL_ ({ frames := 0, cells := 0, slots := 0, locals := 0 } : Room).cells ({ frames := 0, cells := 0, slots := 0, locals := 0 } : Room).slots) := by
  refine MetFree.of_bodySF (plainFor_of_name pn_2) hisR ?_
  intro p e s m args below meth c s₁ Bd hml0 hP hK
  obtain ⟨rfl, hZ, hh⟩ := hP
  have hx := Bd.exec
  have hby := Bd.bytes
  have hml : c.maxLocals = 3 := hml0
  have hown : s.vm.findClass "com/example/durchlass/durchlass/algorithm/LamportClock" = some m.cls := findClass_of_methodNamed Bd.named
  have hnm := (name_of_methodNamed Bd.named Bd.method).1
  have X0 : Stand p l e ({ frames := 0, cells := 0, slots := 0, locals := 0 } : Room) s m #[(.ref a), (.ref b)] below meth c s₁ [] 0 0 := Stand.of_body Bd
  have e0 : s₁.heap = h0 := by rw [← hh, Bd.state]; rfl
  have N0 := Fr.nil n0
  have pre0 : ∀ tg, Steps p.tables e below (s₁.setTop (mkF m 0 #[.val (.ref a), .val (.ref b), .unset] [])) tg → Steps p.tables e below (s₁.setTop (entryFrame m #[(.ref a), (.ref b)] 3)) tg := fun tg kq_ => castTop (ef_rmE m a b) kq_
  obtain ⟨T1, X1, e1, st1⟩ := instY X0 hx hZ hown (hw _ (List.mem_of_getElem? (i := 14) rfl)) e0 (Ins.self hE2) (g := (mkF m 1 #[.val (.ref a), .val (.ref b), .unset] [(.ref b)])) rfl rfl (hb hby d_prog_16_m_5_1)
  obtain ⟨T2, X2, e2, st2⟩ := castY X1 hx hZ hown (hw _ (List.mem_of_getElem? (i := 14) rfl)) e1 (Ins.self hE2) (g := (mkF m 8 #[.val (.ref a), .val (.ref b), .unset] [(.ref b)])) rfl rfl (hb hby d_prog_16_m_5_8)
  obtain ⟨T3, X3, e3, st3⟩ := getF X2 hx hZ hown (host := "") (Or.inl (hw _ (List.mem_of_getElem? (i := 16) rfl))) Via.refl e2 hF1 (g := (mkF m 13 #[.val (.ref a), .val (.ref b), .val (.ref b)] [(.ref a)])) rfl rfl (hb hby d_prog_16_m_5_13)
  obtain ⟨T4, X4, e4, st4⟩ := getF X3 hx hZ hown (host := "") (Or.inl (hw _ (List.mem_of_getElem? (i := 16) rfl))) Via.refl e3 hF2 (g := (mkF m 17 #[.val (.ref a), .val (.ref b), .val (.ref b)] [(.ref b), (.long t)])) rfl rfl (hb hby d_prog_16_m_5_17)
  have R5 : ∀ tg, Steps p.tables e below (T4.setTop (mkF m 21 #[.val (.ref a), .val (.ref b), .val (.ref b)] [(.int (lcmpW t u))])) tg → Steps p.tables e below (s₁.setTop (mkF m 0 #[.val (.ref a), .val (.ref b), .unset] [])) tg := by
    intro tg kt
    refine XS.aloadN X0.here hx rfl (hb hby d_prog_16_m_5_0) rfl rfl ?_
    show Steps p.tables e below (s₁.setTop (mkF m 1 #[.val (.ref a), .val (.ref b), .unset] [(.ref b)])) _
    refine st1 _ ?_
    show Steps p.tables e below (T1.setTop (mkF m 4 #[.val (.ref a), .val (.ref b), .unset] [(.int (1 : Int32))])) _
    refine XS.ifNo X1.here hx rfl (hb hby d_prog_16_m_5_4) rfl ((if0 _ _).trans (feq (by decide : ¬ ((1 : Int32) = (0 : Int32)))).1) ?_
    show Steps p.tables e below (T1.setTop (mkF m 7 #[.val (.ref a), .val (.ref b), .unset] [])) _
    refine XS.aloadN X1.here hx rfl (hb hby d_prog_16_m_5_7) rfl rfl ?_
    show Steps p.tables e below (T1.setTop (mkF m 8 #[.val (.ref a), .val (.ref b), .unset] [(.ref b)])) _
    refine st2 _ ?_
    show Steps p.tables e below (T2.setTop (mkF m 11 #[.val (.ref a), .val (.ref b), .unset] [(.ref b)])) _
    refine XS.astoreN X2.here hx rfl (hb hby d_prog_16_m_5_11) rfl rfl (l' := #[.val (.ref a), .val (.ref b), .val (.ref b)]) rfl ?_
    show Steps p.tables e below (T2.setTop (mkF m 12 #[.val (.ref a), .val (.ref b), .val (.ref b)] [])) _
    refine XS.aloadN X2.here hx rfl (hb hby d_prog_16_m_5_12) rfl rfl ?_
    show Steps p.tables e below (T2.setTop (mkF m 13 #[.val (.ref a), .val (.ref b), .val (.ref b)] [(.ref a)])) _
    refine st3 _ ?_
    show Steps p.tables e below (T3.setTop (mkF m 16 #[.val (.ref a), .val (.ref b), .val (.ref b)] [(.long t)])) _
    refine XS.aloadN X3.here hx rfl (hb hby d_prog_16_m_5_16) rfl rfl ?_
    show Steps p.tables e below (T3.setTop (mkF m 17 #[.val (.ref a), .val (.ref b), .val (.ref b)] [(.ref b), (.long t)])) _
    refine st4 _ ?_
    show Steps p.tables e below (T4.setTop (mkF m 20 #[.val (.ref a), .val (.ref b), .val (.ref b)] [(.long u), (.long t)])) _
    refine XS.lcmp X4.here hx rfl (hb hby d_prog_16_m_5_20) rfl ?_
    show Steps p.tables e below (T4.setTop (mkF m 21 #[.val (.ref a), .val (.ref b), .val (.ref b)] [(.int (lcmpW t u))])) _
    exact kt
  by_cases hc21_6 : (lcmpW t u) = (0 : Int32)
  · obtain ⟨fs, hr, hrun, hended, hW, hsame⟩ := X4.leave (v := some (.int (1 : Int32))) (fun h => by rw [Bd.returns] at h; cases h)
    refine ⟨_, _, pre0 _ (R5 _ ?_), hrun, hended, _, _, rfl, ?_, ⟨_, rfl⟩, hW, hsame.mono (by decide) (by decide)⟩
    · show Steps p.tables e below (T4.setTop (mkF m 21 #[.val (.ref a), .val (.ref b), .val (.ref b)] [(.int (lcmpW t u))])) _
      refine XS.ifNo X4.here hx rfl (hb hby d_prog_16_m_5_21) rfl ((if0 _ _).trans (teq hc21_6).2) ?_
      show Steps p.tables e below (T4.setTop (mkF m 24 #[.val (.ref a), .val (.ref b), .val (.ref b)] [])) _
      refine XS.iconst X4.here hx rfl (hb hby d_prog_16_m_5_24) ?_
      show Steps p.tables e below (T4.setTop (mkF m 25 #[.val (.ref a), .val (.ref b), .val (.ref b)] [(.int (1 : Int32))])) _
      refine XS.goto X4.here hx rfl (pc0 := 25) (pc' := 29) rfl (hb hby d_prog_16_m_5_25) (by decide) (by decide) ?_
      show Steps p.tables e below (T4.setTop (mkF m 29 #[.val (.ref a), .val (.ref b), .val (.ref b)] [(.int (1 : Int32))])) _
      exact retN X4 hx (t := .boolean) Bd.returns (by simp) (hb hby d_prog_16_m_5_29) hr
    · show QV (some (.int (if (lcmpW t u) = (0 : Int32) then 1 else 0))) h0 n0 _ T4.heap _
      rw [e4]
      exact ⟨by rw [if_pos hc21_6], N0, rfl⟩
  · obtain ⟨fs, hr, hrun, hended, hW, hsame⟩ := X4.leave (v := some (.int (0 : Int32))) (fun h => by rw [Bd.returns] at h; cases h)
    refine ⟨_, _, pre0 _ (R5 _ ?_), hrun, hended, _, _, rfl, ?_, ⟨_, rfl⟩, hW, hsame.mono (by decide) (by decide)⟩
    · show Steps p.tables e below (T4.setTop (mkF m 21 #[.val (.ref a), .val (.ref b), .val (.ref b)] [(.int (lcmpW t u))])) _
      refine XS.ifYes X4.here hx rfl (pc0 := 21) (pc' := 28) rfl (hb hby d_prog_16_m_5_21) rfl ((if0 _ _).trans (feq hc21_6).2) (by decide) (by decide) ?_
      show Steps p.tables e below (T4.setTop (mkF m 28 #[.val (.ref a), .val (.ref b), .val (.ref b)] [])) _
      refine XS.iconst X4.here hx rfl (hb hby d_prog_16_m_5_28) ?_
      show Steps p.tables e below (T4.setTop (mkF m 29 #[.val (.ref a), .val (.ref b), .val (.ref b)] [(.int (0 : Int32))])) _
      exact retN X4 hx (t := .boolean) Bd.returns (by simp) (hb hby d_prog_16_m_5_29) hr
    · show QV (some (.int (if (lcmpW t u) = (0 : Int32) then 1 else 0))) h0 n0 _ T4.heap _
      rw [e4]
      exact ⟨by rw [if_neg hc21_6], N0, rfl⟩
theorem ef_rmEn (m : MethodId) (x0 : Addr) : entryFrame m #[(.ref x0), .null] 3 = mkF m 0 #[.val (.ref x0), .val .null, .unset] [] := by first | (simp [entryFrame, mkF, argsToLocals, Value.category]; done) | rfl
set_option maxRecDepth 65536 in
set_option maxHeartbeats 40000000 in
theorem rmEn (l : Launch) (Z : State) (a0 : Array Value) (hw : ∀ d ∈ tables_1, d.before a0 Z = true) (ws : List Jvm.Cond) (a : Addr) (h0 : Heap) (n0 : Nat) (Z0 : n0 ≤ h0.size)  :
    MetFree l (⟨"com/example/durchlass/durchlass/algorithm/LamportClock", "equals", "(Ljava/lang/Object;)Z"⟩ : MethodName) (head1 (Jvm.Cond.code (⟨"com/example/durchlass/durchlass/algorithm/LamportClock", "equals", "(Ljava/lang/Object;)Z"⟩ : MethodName) prog_16_method_5_code 3 (some .boolean) :: ws) ({ frames := 0, cells := 0, slots := 0, locals := 0 } : Room)) (fun aa_ UU_ => aa_ = #[(.ref a), .null] ∧ Z.Warmed39 UU_.vm ∧ UU_.heap = h0) (fun _ _ _ _ _ => True) (fun _ UU_ oo_ UE_ => ∃ vv_ LL_, oo_ = .returned vv_ ∧ QV (some (.int (0 : Int32))) h0 n0 vv_ UE_.heap LL_ ∧ FrameEnd UU_ oo_ UE_ LL_ ({ frames := 0, cells := 0, slots := 0, locals := 0 } : Room).cells ({ frames := 0, cells := 0, slots := 0, locals := 0 } : Room).slots) := by
  refine MetFree.of_bodySF (plainFor_of_name pn_2) hisR ?_
  intro p e s m args below meth c s₁ Bd hml0 hP hK
  obtain ⟨rfl, hZ, hh⟩ := hP
  have hx := Bd.exec
  have hby := Bd.bytes
  have hml : c.maxLocals = 3 := hml0
  have hown : s.vm.findClass "com/example/durchlass/durchlass/algorithm/LamportClock" = some m.cls := findClass_of_methodNamed Bd.named
  have hnm := (name_of_methodNamed Bd.named Bd.method).1
  have X0 : Stand p l e ({ frames := 0, cells := 0, slots := 0, locals := 0 } : Room) s m #[(.ref a), .null] below meth c s₁ [] 0 0 := Stand.of_body Bd
  have e0 : s₁.heap = h0 := by rw [← hh, Bd.state]; rfl
  have N0 := Fr.nil n0
  have pre0 : ∀ tg, Steps p.tables e below (s₁.setTop (mkF m 0 #[.val (.ref a), .val .null, .unset] [])) tg → Steps p.tables e below (s₁.setTop (entryFrame m #[(.ref a), .null] 3)) tg := fun tg kq_ => castTop (ef_rmEn m a) kq_
  obtain ⟨fs, hr, hrun, hended, hW, hsame⟩ := X0.leave (v := some (.int (0 : Int32))) (fun h => by rw [Bd.returns] at h; cases h)
  refine ⟨_, _, pre0 _ ?_, hrun, hended, _, _, rfl, ?_, ⟨_, rfl⟩, hW, hsame.mono (by decide) (by decide)⟩
  · show Steps p.tables e below (s₁.setTop (mkF m 0 #[.val (.ref a), .val .null, .unset] [])) _
    refine XS.aloadN X0.here hx rfl (hb hby d_prog_16_m_5_0) rfl rfl ?_
    show Steps p.tables e below (s₁.setTop (mkF m 1 #[.val (.ref a), .val .null, .unset] [.null])) _
    refine X0.instanceofNull hx (g := (mkF m 1 #[.val (.ref a), .val .null, .unset] [.null])) rfl rfl (hb hby d_prog_16_m_5_1) _ ?_
    show Steps p.tables e below (s₁.setTop (mkF m 4 #[.val (.ref a), .val .null, .unset] [(.int (0 : Int32))])) _
    refine XS.ifYes X0.here hx rfl (pc0 := 4) (pc' := 28) rfl (hb hby d_prog_16_m_5_4) rfl ((if0 _ _).trans (teq (by decide : (0 : Int32) = (0 : Int32))).1) (by decide) (by decide) ?_
    show Steps p.tables e below (s₁.setTop (mkF m 28 #[.val (.ref a), .val .null, .unset] [])) _
    refine XS.iconst X0.here hx rfl (hb hby d_prog_16_m_5_28) ?_
    show Steps p.tables e below (s₁.setTop (mkF m 29 #[.val (.ref a), .val .null, .unset] [(.int (0 : Int32))])) _
    exact retN X0 hx (t := .boolean) Bd.returns (by simp) (hb hby d_prog_16_m_5_29) hr
  · show QV (some (.int (0 : Int32))) h0 n0 _ s₁.heap _
    rw [e0]
    exact ⟨rfl, N0, rfl⟩
theorem ef_rmEl (m : MethodId) (x0 : Addr) (x1 : Addr) : entryFrame m #[(.ref x0), (.ref x1)] 3 = mkF m 0 #[.val (.ref x0), .val (.ref x1), .unset] [] := by first | (simp [entryFrame, mkF, argsToLocals, Value.category]; done) | rfl
set_option maxRecDepth 65536 in
set_option maxHeartbeats 40000000 in
theorem rmEl (l : Launch) (Z : State) (a0 : Array Value) (hw : ∀ d ∈ tables_1, d.before a0 Z = true) (ws : List Jvm.Cond) (a b : Addr) (h0 : Heap) (n0 : Nat) (Z0 : n0 ≤ h0.size) (hI2 : ∃ c t, Z.vm.findClass "java/lang/Long" = some c ∧ Z.vm.findClass "com/example/durchlass/durchlass/algorithm/LamportClock" = some t ∧ Z.vm.assignable c t = false) (hE2 : Exa Z h0 b "java/lang/Long") :
    MetFree l (⟨"com/example/durchlass/durchlass/algorithm/LamportClock", "equals", "(Ljava/lang/Object;)Z"⟩ : MethodName) (head1 (Jvm.Cond.code (⟨"com/example/durchlass/durchlass/algorithm/LamportClock", "equals", "(Ljava/lang/Object;)Z"⟩ : MethodName) prog_16_method_5_code 3 (some .boolean) :: ws) ({ frames := 0, cells := 0, slots := 0, locals := 0 } : Room)) (fun aa_ UU_ => aa_ = #[(.ref a), (.ref b)] ∧ Z.Warmed39 UU_.vm ∧ UU_.heap = h0) (fun _ _ _ _ _ => True) (fun _ UU_ oo_ UE_ => ∃ vv_ LL_, oo_ = .returned vv_ ∧ QV (some (.int (0 : Int32))) h0 n0 vv_ UE_.heap LL_ ∧ FrameEnd UU_ oo_ UE_ LL_ ({ frames := 0, cells := 0, slots := 0, locals := 0 } : Room).cells ({ frames := 0, cells := 0, slots := 0, locals := 0 } : Room).slots) := by
  refine MetFree.of_bodySF (plainFor_of_name pn_2) hisR ?_
  intro p e s m args below meth c s₁ Bd hml0 hP hK
  obtain ⟨rfl, hZ, hh⟩ := hP
  have hx := Bd.exec
  have hby := Bd.bytes
  have hml : c.maxLocals = 3 := hml0
  have hown : s.vm.findClass "com/example/durchlass/durchlass/algorithm/LamportClock" = some m.cls := findClass_of_methodNamed Bd.named
  have hnm := (name_of_methodNamed Bd.named Bd.method).1
  have X0 : Stand p l e ({ frames := 0, cells := 0, slots := 0, locals := 0 } : Room) s m #[(.ref a), (.ref b)] below meth c s₁ [] 0 0 := Stand.of_body Bd
  have e0 : s₁.heap = h0 := by rw [← hh, Bd.state]; rfl
  have N0 := Fr.nil n0
  have pre0 : ∀ tg, Steps p.tables e below (s₁.setTop (mkF m 0 #[.val (.ref a), .val (.ref b), .unset] [])) tg → Steps p.tables e below (s₁.setTop (entryFrame m #[(.ref a), (.ref b)] 3)) tg := fun tg kq_ => castTop (ef_rmEl m a b) kq_
  obtain ⟨T1, X1, e1, st1⟩ := instNo X0 hx hZ hown (hw _ (List.mem_of_getElem? (i := 14) rfl)) e0 hE2 hI2 (g := (mkF m 1 #[.val (.ref a), .val (.ref b), .unset] [(.ref b)])) rfl rfl (hb hby d_prog_16_m_5_1)
  obtain ⟨fs, hr, hrun, hended, hW, hsame⟩ := X1.leave (v := some (.int (0 : Int32))) (fun h => by rw [Bd.returns] at h; cases h)
  refine ⟨_, _, pre0 _ ?_, hrun, hended, _, _, rfl, ?_, ⟨_, rfl⟩, hW, hsame.mono (by decide) (by decide)⟩
  · show Steps p.tables e below (s₁.setTop (mkF m 0 #[.val (.ref a), .val (.ref b), .unset] [])) _
    refine XS.aloadN X0.here hx rfl (hb hby d_prog_16_m_5_0) rfl rfl ?_
    show Steps p.tables e below (s₁.setTop (mkF m 1 #[.val (.ref a), .val (.ref b), .unset] [(.ref b)])) _
    refine st1 _ ?_
    show Steps p.tables e below (T1.setTop (mkF m 4 #[.val (.ref a), .val (.ref b), .unset] [(.int (0 : Int32))])) _
    refine XS.ifYes X1.here hx rfl (pc0 := 4) (pc' := 28) rfl (hb hby d_prog_16_m_5_4) rfl ((if0 _ _).trans (teq (by decide : (0 : Int32) = (0 : Int32))).1) (by decide) (by decide) ?_
    show Steps p.tables e below (T1.setTop (mkF m 28 #[.val (.ref a), .val (.ref b), .unset] [])) _
    refine XS.iconst X1.here hx rfl (hb hby d_prog_16_m_5_28) ?_
    show Steps p.tables e below (T1.setTop (mkF m 29 #[.val (.ref a), .val (.ref b), .unset] [(.int (0 : Int32))])) _
    exact retN X1 hx (t := .boolean) Bd.returns (by simp) (hb hby d_prog_16_m_5_29) hr
  · show QV (some (.int (0 : Int32))) h0 n0 _ T1.heap _
    rw [e1]
    exact ⟨rfl, N0, rfl⟩
theorem ef_rm0 (m : MethodId) (x0 : Int64) (x1 : Int64) (x2 : Int32) : entryFrame m #[(.long x0), (.long x1), (.int x2)] maxLocals = mkF m 0 #[.val (.long x0), .second, .val (.long x1), .second, .val (.int x2), .unset, .unset, .unset, .unset, .unset, .unset, .unset, .unset, .unset, .unset, .unset] [] := by first | (simp [entryFrame, mkF, argsToLocals, Value.category, maxLocals]; done) | rfl
set_option maxRecDepth 65536 in
set_option maxHeartbeats 40000000 in
theorem rm0 (l : Launch) (Z : State) (a0 : Array Value) (hw : ∀ d ∈ tables_1, d.before a0 Z = true) (ws : List Jvm.Cond) (px py : Int64) (pf : Int32) (ca : Addr) (cc : Cell) (val : Int32 → Value) (h0 : Heap) (n0 : Nat) (Z0 : n0 ≤ h0.size) (hO1 : Old Z n0 h0) (hS1 : Sta Z Z.heap "java/lang/Long$LongCache" "cache" "[Ljava/lang/Long;" (.ref ca)) (hB1 : Bxs Z ca cc "java/lang/Long" "J" (256 : Int32) val) :
    MetFree l x (head1 (Jvm.Cond.code x code maxLocals ret :: ws) room_1) (fun aa_ UU_ => aa_ = #[(.long px), (.long py), (.int pf)] ∧ Z.Warmed39 UU_.vm ∧ UU_.heap = h0) (fun _ _ _ _ _ => True) (fun _ UU_ oo_ UE_ => ∃ vv_ LL_, oo_ = .returned vv_ ∧ Q0 n0 vv_ UE_.heap LL_ ∧ FrameEnd UU_ oo_ UE_ LL_ room_1.cells room_1.slots) := by
  refine MetFree.of_bodySF (plainFor_of_name pn_3) hisR ?_
  intro p e s m args below meth c s₁ Bd hml0 hP hK
  obtain ⟨rfl, hZ, hh⟩ := hP
  have hx := Bd.exec
  have hby := Bd.bytes
  have hml : c.maxLocals = 16 := hml0
  have hown : s.vm.findClass "com/example/durchlass/durchlass/algorithm/LamportClockEqualsPinLaw" = some m.cls := findClass_of_methodNamed Bd.named
  have hnm := (name_of_methodNamed Bd.named Bd.method).1
  have X0 : Stand p l e room_1 s m #[(.long px), (.long py), (.int pf)] below meth c s₁ [] 0 0 := Stand.of_body Bd
  have e0 : s₁.heap = h0 := by rw [← hh, Bd.state]; rfl
  have N0 := Fr.nil n0
  have pre0 : ∀ tg, Steps p.tables e below (s₁.setTop (mkF m 0 #[.val (.long px), .second, .val (.long py), .second, .val (.int pf), .unset, .unset, .unset, .unset, .unset, .unset, .unset, .unset, .unset, .unset, .unset] [])) tg → Steps p.tables e below (s₁.setTop (entryFrame m #[(.long px), (.long py), (.int pf)] maxLocals)) tg := fun tg kq_ => castTop (ef_rm0 m px py pf) kq_
  obtain ⟨T1, h1, X1, e1, E1, A1, D1, -, st1⟩ := newO X0 hx hZ hown (hw _ (List.mem_of_getElem? (i := 0) rfl)) (hw _ (List.mem_of_getElem? (i := 1) rfl)) (hw _ (List.mem_of_getElem? (i := 2) rfl)) e0 (g := (mkF m 0 #[.val (.long px), .second, .val (.long py), .second, .val (.int pf), .unset, .unset, .unset, .unset, .unset, .unset, .unset, .unset, .unset, .unset, .unset] [])) rfl (hb hby at_0) (by decide) (by decide)
  obtain ⟨b1, g1⟩ : ∃ z, z = h0.size := ⟨_, rfl⟩
  rw [← g1] at A1 D1 st1
  have gb_b1 : n0 ≤ b1 := Nat.le_trans Z0 (Nat.le_of_eq g1.symm)
  have Z1 : n0 ≤ h1.size := Nat.le_trans Z0 E1.1
  have F1_time : Fld Z h1 b1 "com/example/durchlass/durchlass/algorithm/LamportClock" "time" "J" (.long (0 : Int64)) := D1 (Or.inl (hw _ (List.mem_of_getElem? (i := 17) rfl))) (ty := .long) (by decide)
  obtain ⟨_, _, ⟨T2, L2, k2, n2⟩, -, X2, ⟨Lc2, hQ2, l2, y2, z2⟩, st2⟩ := X1.specialBack hx (y := (⟨"com/example/durchlass/durchlass/algorithm/LamportClock", "<init>", "()V"⟩ : MethodName)) rfl hown (mvT hZ (hw _ (List.mem_of_getElem? (i := 3) rfl))) (mvT hZ (hw _ (List.mem_of_getElem? (i := 4) rfl))) (mvT hZ (hw _ (List.mem_of_getElem? (i := 5) rfl))) (by decide) (backOf (W := 1) (rmC l Z a0 hw [] b1 h1 n0 Z1) hZ (hw _ (List.mem_of_getElem? (i := 5) rfl)) (hw _ (List.mem_of_getElem? (i := 2) rfl)) (by decide) (by decide)) (g := (mkF m 4 #[.val (.long px), .second, .val (.long py), .second, .val (.int pf), .unset, .unset, .unset, .unset, .unset, .unset, .unset, .unset, .unset, .unset, .unset] [(.ref b1), (.ref b1)])) rfl (by rw [hml]; rfl) (Steps.refl _) (a := b1) (argsL := []) (rest := [(.ref b1)]) (lenOf pd_0 rfl) rfl (by show 2 * 0 + _ ≤ _; exact Nat.le_of_eq rfl) (hb hby at_4) (fun _ _ => ⟨rfl, e1, (by decide : 1 + 0 ≤ _), (by decide : 1 + 0 ≤ _)⟩)
  dsimp only [Pt.U, Pt.locs, Pt.cells, Pt.slots] at X2 l2 y2 z2 st2 hQ2
  subst l2 y2 z2
  obtain ⟨hv2, N2q, r2⟩ := hQ2
  subst hv2
  have N2 := Fr.app N0 N2q
  obtain ⟨T3, h3, X3, e3, E3, A3, D3, -, st3⟩ := newO X2 hx hZ hown (hw _ (List.mem_of_getElem? (i := 0) rfl)) (hw _ (List.mem_of_getElem? (i := 1) rfl)) (hw _ (List.mem_of_getElem? (i := 2) rfl)) r2 (g := (mkF m 9 #[.val (.long px), .second, .val (.long py), .second, .val (.int pf), .val (.ref b1), .unset, .unset, .unset, .unset, .unset, .unset, .unset, .unset, .unset, .unset] [])) rfl (hb hby at_9) (by decide) (by decide)
  obtain ⟨b3, g3⟩ : ∃ z, z = h1.size := ⟨_, rfl⟩
  rw [← g3] at A3 D3 st3
  have ne_b1_b3 : b1 ≠ b3 := Nat.ne_of_lt (Nat.lt_of_lt_of_le (A1).lt (Nat.le_of_eq g3.symm))
  have gb_b3 : n0 ≤ b3 := Nat.le_trans Z1 (Nat.le_of_eq g3.symm)
  have Z3 : n0 ≤ h3.size := Nat.le_trans Z1 E3.1
  have F3_time : Fld Z h3 b3 "com/example/durchlass/durchlass/algorithm/LamportClock" "time" "J" (.long (0 : Int64)) := D3 (Or.inl (hw _ (List.mem_of_getElem? (i := 17) rfl))) (ty := .long) (by decide)
  obtain ⟨_, _, ⟨T4, L4, k4, n4⟩, -, X4, ⟨Lc4, hQ4, l4, y4, z4⟩, st4⟩ := X3.specialBack hx (y := (⟨"com/example/durchlass/durchlass/algorithm/LamportClock", "<init>", "()V"⟩ : MethodName)) rfl hown (mvT hZ (hw _ (List.mem_of_getElem? (i := 3) rfl))) (mvT hZ (hw _ (List.mem_of_getElem? (i := 4) rfl))) (mvT hZ (hw _ (List.mem_of_getElem? (i := 5) rfl))) (by decide) (backOf (W := 1) (rmC l Z a0 hw [] b3 h3 n0 Z3) hZ (hw _ (List.mem_of_getElem? (i := 5) rfl)) (hw _ (List.mem_of_getElem? (i := 2) rfl)) (by decide) (by decide)) (g := (mkF m 13 #[.val (.long px), .second, .val (.long py), .second, .val (.int pf), .val (.ref b1), .unset, .unset, .unset, .unset, .unset, .unset, .unset, .unset, .unset, .unset] [(.ref b3), (.ref b3)])) rfl (by rw [hml]; rfl) (Steps.refl _) (a := b3) (argsL := []) (rest := [(.ref b3)]) (lenOf pd_0 rfl) rfl (by show 2 * 0 + _ ≤ _; exact Nat.le_of_eq rfl) (hb hby at_13) (fun _ _ => ⟨rfl, e3, (by decide : 2 + 0 ≤ _), (by decide : 2 + 0 ≤ _)⟩)
  dsimp only [Pt.U, Pt.locs, Pt.cells, Pt.slots] at X4 l4 y4 z4 st4 hQ4
  subst l4 y4 z4
  obtain ⟨hv4, N4q, r4⟩ := hQ4
  subst hv4
  have N4 := Fr.app N2 N4q
  have R5 : ∀ tg, Steps p.tables e below (T4.setTop (mkF m 18 #[.val (.long px), .second, .val (.long py), .second, .val (.int pf), .val (.ref b1), .val (.ref b3), .unset, .unset, .unset, .unset, .unset, .unset, .unset, .unset, .unset] [])) tg → Steps p.tables e below (s₁.setTop (mkF m 0 #[.val (.long px), .second, .val (.long py), .second, .val (.int pf), .unset, .unset, .unset, .unset, .unset, .unset, .unset, .unset, .unset, .unset, .unset] [])) tg := by
    intro tg kt
    refine st1 _ ?_
    show Steps p.tables e below (T1.setTop (mkF m 3 #[.val (.long px), .second, .val (.long py), .second, .val (.int pf), .unset, .unset, .unset, .unset, .unset, .unset, .unset, .unset, .unset, .unset, .unset] [(.ref b1)])) _
    refine XS.dup X1.here hx rfl (hb hby at_3) rfl rfl ?_
    show Steps p.tables e below (T1.setTop (mkF m 4 #[.val (.long px), .second, .val (.long py), .second, .val (.int pf), .unset, .unset, .unset, .unset, .unset, .unset, .unset, .unset, .unset, .unset, .unset] [(.ref b1), (.ref b1)])) _
    refine st2.trans ?_
    show Steps p.tables e below (T2.setTop (mkF m 7 #[.val (.long px), .second, .val (.long py), .second, .val (.int pf), .unset, .unset, .unset, .unset, .unset, .unset, .unset, .unset, .unset, .unset, .unset] [(.ref b1)])) _
    refine XS.astore X2.here hx rfl (hb hby at_7) rfl rfl (l' := #[.val (.long px), .second, .val (.long py), .second, .val (.int pf), .val (.ref b1), .unset, .unset, .unset, .unset, .unset, .unset, .unset, .unset, .unset, .unset]) rfl ?_
    show Steps p.tables e below (T2.setTop (mkF m 9 #[.val (.long px), .second, .val (.long py), .second, .val (.int pf), .val (.ref b1), .unset, .unset, .unset, .unset, .unset, .unset, .unset, .unset, .unset, .unset] [])) _
    refine st3 _ ?_
    show Steps p.tables e below (T3.setTop (mkF m 12 #[.val (.long px), .second, .val (.long py), .second, .val (.int pf), .val (.ref b1), .unset, .unset, .unset, .unset, .unset, .unset, .unset, .unset, .unset, .unset] [(.ref b3)])) _
    refine XS.dup X3.here hx rfl (hb hby at_12) rfl rfl ?_
    show Steps p.tables e below (T3.setTop (mkF m 13 #[.val (.long px), .second, .val (.long py), .second, .val (.int pf), .val (.ref b1), .unset, .unset, .unset, .unset, .unset, .unset, .unset, .unset, .unset, .unset] [(.ref b3), (.ref b3)])) _
    refine st4.trans ?_
    show Steps p.tables e below (T4.setTop (mkF m 16 #[.val (.long px), .second, .val (.long py), .second, .val (.int pf), .val (.ref b1), .unset, .unset, .unset, .unset, .unset, .unset, .unset, .unset, .unset, .unset] [(.ref b3)])) _
    refine XS.astore X4.here hx rfl (hb hby at_16) rfl rfl (l' := #[.val (.long px), .second, .val (.long py), .second, .val (.int pf), .val (.ref b1), .val (.ref b3), .unset, .unset, .unset, .unset, .unset, .unset, .unset, .unset, .unset]) rfl ?_
    show Steps p.tables e below (T4.setTop (mkF m 18 #[.val (.long px), .second, .val (.long py), .second, .val (.int pf), .val (.ref b1), .val (.ref b3), .unset, .unset, .unset, .unset, .unset, .unset, .unset, .unset, .unset] [])) _
    exact kt
  obtain ⟨T6, h6, L6, t_b1, X6, e6, N6, kp6, fj6_0, R6⟩ : ∃ (T' : State) (h' : Heap) (L' : List Loc) (t_b1 : Int64), Stand p l e room_1 s m #[(.long px), (.long py), (.int pf)] below meth c T' L' 2 2 ∧ T'.heap = h' ∧ Fr n0 L' ∧ Keep h3 h' [b1] ∧ Fld Z h' b1 "com/example/durchlass/durchlass/algorithm/LamportClock" "time" "J" (.long t_b1) ∧ ∀ tg, Steps p.tables e below (T'.setTop (mkF m 31 #[.val (.long px), .second, .val (.long py), .second, .val (.int pf), .val (.ref b1), .val (.ref b3), .unset, .unset, .unset, .unset, .unset, .unset, .unset, .unset, .unset] [])) tg → Steps p.tables e below (T4.setTop (mkF m 18 #[.val (.long px), .second, .val (.long py), .second, .val (.int pf), .val (.ref b1), .val (.ref b3), .unset, .unset, .unset, .unset, .unset, .unset, .unset, .unset, .unset] [])) tg := by
    have R7 : ∀ tg, Steps p.tables e below (T4.setTop (mkF m 22 #[.val (.long px), .second, .val (.long py), .second, .val (.int pf), .val (.ref b1), .val (.ref b3), .unset, .unset, .unset, .unset, .unset, .unset, .unset, .unset, .unset] [(.int (pf &&& (1 : Int32)))])) tg → Steps p.tables e below (T4.setTop (mkF m 18 #[.val (.long px), .second, .val (.long py), .second, .val (.int pf), .val (.ref b1), .val (.ref b3), .unset, .unset, .unset, .unset, .unset, .unset, .unset, .unset, .unset] [])) tg := by
      intro tg kt
      refine XS.iload X4.here hx rfl (hb hby at_18) rfl ?_
      show Steps p.tables e below (T4.setTop (mkF m 20 #[.val (.long px), .second, .val (.long py), .second, .val (.int pf), .val (.ref b1), .val (.ref b3), .unset, .unset, .unset, .unset, .unset, .unset, .unset, .unset, .unset] [(.int pf)])) _
      refine XS.iconst X4.here hx rfl (hb hby at_20) ?_
      show Steps p.tables e below (T4.setTop (mkF m 21 #[.val (.long px), .second, .val (.long py), .second, .val (.int pf), .val (.ref b1), .val (.ref b3), .unset, .unset, .unset, .unset, .unset, .unset, .unset, .unset, .unset] [(.int (1 : Int32)), (.int pf)])) _
      refine XS.iand X4.here hx rfl (hb hby at_21) rfl ?_
      show Steps p.tables e below (T4.setTop (mkF m 22 #[.val (.long px), .second, .val (.long py), .second, .val (.int pf), .val (.ref b1), .val (.ref b3), .unset, .unset, .unset, .unset, .unset, .unset, .unset, .unset, .unset] [(.int (pf &&& (1 : Int32)))])) _
      exact kt
    by_cases hc22_8 : (pf &&& (1 : Int32)) = (0 : Int32)
    · have f9 := (F1_time.ext E3)
      have R10 : ∀ tg, Steps p.tables e below (T4.setTop (mkF m 31 #[.val (.long px), .second, .val (.long py), .second, .val (.int pf), .val (.ref b1), .val (.ref b3), .unset, .unset, .unset, .unset, .unset, .unset, .unset, .unset, .unset] [])) tg → Steps p.tables e below (T4.setTop (mkF m 22 #[.val (.long px), .second, .val (.long py), .second, .val (.int pf), .val (.ref b1), .val (.ref b3), .unset, .unset, .unset, .unset, .unset, .unset, .unset, .unset, .unset] [(.int (pf &&& (1 : Int32)))])) tg := by
        intro tg kt
        refine XS.ifYes X4.here hx rfl (pc0 := 22) (pc' := 31) rfl (hb hby at_22) rfl ((if0 _ _).trans (teq hc22_8).1) (by decide) (by decide) ?_
        show Steps p.tables e below (T4.setTop (mkF m 31 #[.val (.long px), .second, .val (.long py), .second, .val (.int pf), .val (.ref b1), .val (.ref b3), .unset, .unset, .unset, .unset, .unset, .unset, .unset, .unset, .unset] [])) _
        exact kt
      exact ⟨T4, h3, _, (0 : Int64), X4.more (by decide) (by decide), r4, N4, (Keep.refl h3 _), f9, fun _ kt => (R7 _ (R10 _ kt))⟩
    · have f11 := (A1.ext E3)
      have f12 := (F1_time.ext E3)
      obtain ⟨cq13, kq13, q13a, q13b, q13c⟩ := isOf hZ r4 f11
      obtain ⟨_, _, ⟨T13, L13, k13, n13⟩, -, X13, ⟨Lc13, hQ13, l13, y13, z13⟩, st13⟩ := X4.virtualBack hx (y := (⟨"com/example/durchlass/durchlass/algorithm/LamportClock", "receive", "(J)V"⟩ : MethodName)) (z := (⟨"com/example/durchlass/durchlass/algorithm/LamportClock", "receive", "(J)V"⟩ : MethodName)) hown (mvT hZ (hw _ (List.mem_of_getElem? (i := 34) rfl))) (mvT hZ (hw _ (List.mem_of_getElem? (i := 35) rfl))) (notFace_of_selects (args := #[]) (mvT hZ (hw _ (List.mem_of_getElem? (i := 37) rfl)))) (mvT hZ (hw _ (List.mem_of_getElem? (i := 37) rfl))) (mvT hZ (hw _ (List.mem_of_getElem? (i := 36) rfl))) (by decide) (backOf (W := 0) (rmR l Z a0 hw [] b1 (0 : Int64) px h3 n0 Z3 f11 f12 gb_b1) hZ (hw _ (List.mem_of_getElem? (i := 38) rfl)) (hw _ (List.mem_of_getElem? (i := 2) rfl)) (by decide) (by decide)) q13a q13c (g := (mkF m 28 #[.val (.long px), .second, .val (.long py), .second, .val (.int pf), .val (.ref b1), .val (.ref b3), .unset, .unset, .unset, .unset, .unset, .unset, .unset, .unset, .unset] [(.long px), (.ref b1)])) rfl (by rw [hml]; rfl) (Steps.refl _) (argsL := [(.long px)]) (rest := []) (lenOf pd_1 rfl) rfl (by show 2 * 0 + _ ≤ _; exact Nat.le_of_eq rfl) (hb hby at_28) (fun _ _ => ⟨rfl, r4, (by decide : 2 + 0 ≤ _), (by decide : 2 + 0 ≤ _)⟩)
      dsimp only [Pt.U, Pt.locs, Pt.cells, Pt.slots] at X13 l13 y13 z13 st13 hQ13
      subst l13 y13 z13
      obtain ⟨hv13, N13q, kp13, fl13⟩ := hQ13
      subst hv13
      have N13 := Fr.app N4 N13q
      have Z13 : n0 ≤ T13.heap.size := Nat.le_trans Z3 kp13.1
      have R14 : ∀ tg, Steps p.tables e below (T13.setTop (mkF m 31 #[.val (.long px), .second, .val (.long py), .second, .val (.int pf), .val (.ref b1), .val (.ref b3), .unset, .unset, .unset, .unset, .unset, .unset, .unset, .unset, .unset] [])) tg → Steps p.tables e below (T4.setTop (mkF m 22 #[.val (.long px), .second, .val (.long py), .second, .val (.int pf), .val (.ref b1), .val (.ref b3), .unset, .unset, .unset, .unset, .unset, .unset, .unset, .unset, .unset] [(.int (pf &&& (1 : Int32)))])) tg := by
        intro tg kt
        refine XS.ifNo X4.here hx rfl (hb hby at_22) rfl ((if0 _ _).trans (feq hc22_8).1) ?_
        show Steps p.tables e below (T4.setTop (mkF m 25 #[.val (.long px), .second, .val (.long py), .second, .val (.int pf), .val (.ref b1), .val (.ref b3), .unset, .unset, .unset, .unset, .unset, .unset, .unset, .unset, .unset] [])) _
        refine XS.aload X4.here hx rfl (hb hby at_25) rfl rfl ?_
        show Steps p.tables e below (T4.setTop (mkF m 27 #[.val (.long px), .second, .val (.long py), .second, .val (.int pf), .val (.ref b1), .val (.ref b3), .unset, .unset, .unset, .unset, .unset, .unset, .unset, .unset, .unset] [(.ref b1)])) _
        refine XS.lloadN X4.here hx rfl (hb hby at_27) rfl ?_
        show Steps p.tables e below (T4.setTop (mkF m 28 #[.val (.long px), .second, .val (.long py), .second, .val (.int pf), .val (.ref b1), .val (.ref b3), .unset, .unset, .unset, .unset, .unset, .unset, .unset, .unset, .unset] [(.long px), (.ref b1)])) _
        refine st13.trans ?_
        show Steps p.tables e below (T13.setTop (mkF m 31 #[.val (.long px), .second, .val (.long py), .second, .val (.int pf), .val (.ref b1), .val (.ref b3), .unset, .unset, .unset, .unset, .unset, .unset, .unset, .unset, .unset] [])) _
        exact kt
      exact ⟨T13, T13.heap, _, ((if (lcmpW (0 : Int64) px) < (0 : Int32) then px else (0 : Int64)) + (1 : Int64)), X13.more (by decide) (by decide), rfl, N13, ((Keep.refl h3 _).trans kp13 (allS (Or.inl (List.mem_of_getElem? (i := 0) rfl)) all0)), fl13, fun _ kt => (R7 _ (R14 _ kt))⟩
  have Z6 : n0 ≤ h6.size := Nat.le_trans Z3 kp6.1
  obtain ⟨T15, h15, L15, t_b3, X15, e15, N15, kp15, fj15_0, R15⟩ : ∃ (T' : State) (h' : Heap) (L' : List Loc) (t_b3 : Int64), Stand p l e room_1 s m #[(.long px), (.long py), (.int pf)] below meth c T' L' 2 2 ∧ T'.heap = h' ∧ Fr n0 L' ∧ Keep h6 h' [b3] ∧ Fld Z h' b3 "com/example/durchlass/durchlass/algorithm/LamportClock" "time" "J" (.long t_b3) ∧ ∀ tg, Steps p.tables e below (T'.setTop (mkF m 44 #[.val (.long px), .second, .val (.long py), .second, .val (.int pf), .val (.ref b1), .val (.ref b3), .unset, .unset, .unset, .unset, .unset, .unset, .unset, .unset, .unset] [])) tg → Steps p.tables e below (T6.setTop (mkF m 31 #[.val (.long px), .second, .val (.long py), .second, .val (.int pf), .val (.ref b1), .val (.ref b3), .unset, .unset, .unset, .unset, .unset, .unset, .unset, .unset, .unset] [])) tg := by
    have R16 : ∀ tg, Steps p.tables e below (T6.setTop (mkF m 35 #[.val (.long px), .second, .val (.long py), .second, .val (.int pf), .val (.ref b1), .val (.ref b3), .unset, .unset, .unset, .unset, .unset, .unset, .unset, .unset, .unset] [(.int (pf &&& (2 : Int32)))])) tg → Steps p.tables e below (T6.setTop (mkF m 31 #[.val (.long px), .second, .val (.long py), .second, .val (.int pf), .val (.ref b1), .val (.ref b3), .unset, .unset, .unset, .unset, .unset, .unset, .unset, .unset, .unset] [])) tg := by
      intro tg kt
      refine XS.iload X6.here hx rfl (hb hby at_31) rfl ?_
      show Steps p.tables e below (T6.setTop (mkF m 33 #[.val (.long px), .second, .val (.long py), .second, .val (.int pf), .val (.ref b1), .val (.ref b3), .unset, .unset, .unset, .unset, .unset, .unset, .unset, .unset, .unset] [(.int pf)])) _
      refine XS.iconst X6.here hx rfl (hb hby at_33) ?_
      show Steps p.tables e below (T6.setTop (mkF m 34 #[.val (.long px), .second, .val (.long py), .second, .val (.int pf), .val (.ref b1), .val (.ref b3), .unset, .unset, .unset, .unset, .unset, .unset, .unset, .unset, .unset] [(.int (2 : Int32)), (.int pf)])) _
      refine XS.iand X6.here hx rfl (hb hby at_34) rfl ?_
      show Steps p.tables e below (T6.setTop (mkF m 35 #[.val (.long px), .second, .val (.long py), .second, .val (.int pf), .val (.ref b1), .val (.ref b3), .unset, .unset, .unset, .unset, .unset, .unset, .unset, .unset, .unset] [(.int (pf &&& (2 : Int32)))])) _
      exact kt
    by_cases hc35_17 : (pf &&& (2 : Int32)) = (0 : Int32)
    · have f18 := (F3_time.keep kp6 (ninS (Ne.symm ne_b1_b3) nin0))
      have R19 : ∀ tg, Steps p.tables e below (T6.setTop (mkF m 44 #[.val (.long px), .second, .val (.long py), .second, .val (.int pf), .val (.ref b1), .val (.ref b3), .unset, .unset, .unset, .unset, .unset, .unset, .unset, .unset, .unset] [])) tg → Steps p.tables e below (T6.setTop (mkF m 35 #[.val (.long px), .second, .val (.long py), .second, .val (.int pf), .val (.ref b1), .val (.ref b3), .unset, .unset, .unset, .unset, .unset, .unset, .unset, .unset, .unset] [(.int (pf &&& (2 : Int32)))])) tg := by
        intro tg kt
        refine XS.ifYes X6.here hx rfl (pc0 := 35) (pc' := 44) rfl (hb hby at_35) rfl ((if0 _ _).trans (teq hc35_17).1) (by decide) (by decide) ?_
        show Steps p.tables e below (T6.setTop (mkF m 44 #[.val (.long px), .second, .val (.long py), .second, .val (.int pf), .val (.ref b1), .val (.ref b3), .unset, .unset, .unset, .unset, .unset, .unset, .unset, .unset, .unset] [])) _
        exact kt
      exact ⟨T6, h6, _, (0 : Int64), X6.more (by decide) (by decide), e6, N6, (Keep.refl h6 _), f18, fun _ kt => (R16 _ (R19 _ kt))⟩
    · have f20 := (A3.keep kp6)
      have f21 := (F3_time.keep kp6 (ninS (Ne.symm ne_b1_b3) nin0))
      obtain ⟨cq22, kq22, q22a, q22b, q22c⟩ := isOf hZ e6 f20
      obtain ⟨_, _, ⟨T22, L22, k22, n22⟩, -, X22, ⟨Lc22, hQ22, l22, y22, z22⟩, st22⟩ := X6.virtualBack hx (y := (⟨"com/example/durchlass/durchlass/algorithm/LamportClock", "receive", "(J)V"⟩ : MethodName)) (z := (⟨"com/example/durchlass/durchlass/algorithm/LamportClock", "receive", "(J)V"⟩ : MethodName)) hown (mvT hZ (hw _ (List.mem_of_getElem? (i := 34) rfl))) (mvT hZ (hw _ (List.mem_of_getElem? (i := 35) rfl))) (notFace_of_selects (args := #[]) (mvT hZ (hw _ (List.mem_of_getElem? (i := 37) rfl)))) (mvT hZ (hw _ (List.mem_of_getElem? (i := 37) rfl))) (mvT hZ (hw _ (List.mem_of_getElem? (i := 36) rfl))) (by decide) (backOf (W := 0) (rmR l Z a0 hw [] b3 (0 : Int64) py h6 n0 Z6 f20 f21 gb_b3) hZ (hw _ (List.mem_of_getElem? (i := 38) rfl)) (hw _ (List.mem_of_getElem? (i := 2) rfl)) (by decide) (by decide)) q22a q22c (g := (mkF m 41 #[.val (.long px), .second, .val (.long py), .second, .val (.int pf), .val (.ref b1), .val (.ref b3), .unset, .unset, .unset, .unset, .unset, .unset, .unset, .unset, .unset] [(.long py), (.ref b3)])) rfl (by rw [hml]; rfl) (Steps.refl _) (argsL := [(.long py)]) (rest := []) (lenOf pd_1 rfl) rfl (by show 2 * 0 + _ ≤ _; exact Nat.le_of_eq rfl) (hb hby at_41) (fun _ _ => ⟨rfl, e6, (by decide : 2 + 0 ≤ _), (by decide : 2 + 0 ≤ _)⟩)
      dsimp only [Pt.U, Pt.locs, Pt.cells, Pt.slots] at X22 l22 y22 z22 st22 hQ22
      subst l22 y22 z22
      obtain ⟨hv22, N22q, kp22, fl22⟩ := hQ22
      subst hv22
      have N22 := Fr.app N6 N22q
      have Z22 : n0 ≤ T22.heap.size := Nat.le_trans Z6 kp22.1
      have R23 : ∀ tg, Steps p.tables e below (T22.setTop (mkF m 44 #[.val (.long px), .second, .val (.long py), .second, .val (.int pf), .val (.ref b1), .val (.ref b3), .unset, .unset, .unset, .unset, .unset, .unset, .unset, .unset, .unset] [])) tg → Steps p.tables e below (T6.setTop (mkF m 35 #[.val (.long px), .second, .val (.long py), .second, .val (.int pf), .val (.ref b1), .val (.ref b3), .unset, .unset, .unset, .unset, .unset, .unset, .unset, .unset, .unset] [(.int (pf &&& (2 : Int32)))])) tg := by
        intro tg kt
        refine XS.ifNo X6.here hx rfl (hb hby at_35) rfl ((if0 _ _).trans (feq hc35_17).1) ?_
        show Steps p.tables e below (T6.setTop (mkF m 38 #[.val (.long px), .second, .val (.long py), .second, .val (.int pf), .val (.ref b1), .val (.ref b3), .unset, .unset, .unset, .unset, .unset, .unset, .unset, .unset, .unset] [])) _
        refine XS.aload X6.here hx rfl (hb hby at_38) rfl rfl ?_
        show Steps p.tables e below (T6.setTop (mkF m 40 #[.val (.long px), .second, .val (.long py), .second, .val (.int pf), .val (.ref b1), .val (.ref b3), .unset, .unset, .unset, .unset, .unset, .unset, .unset, .unset, .unset] [(.ref b3)])) _
        refine XS.lloadN X6.here hx rfl (hb hby at_40) rfl ?_
        show Steps p.tables e below (T6.setTop (mkF m 41 #[.val (.long px), .second, .val (.long py), .second, .val (.int pf), .val (.ref b1), .val (.ref b3), .unset, .unset, .unset, .unset, .unset, .unset, .unset, .unset, .unset] [(.long py), (.ref b3)])) _
        refine st22.trans ?_
        show Steps p.tables e below (T22.setTop (mkF m 44 #[.val (.long px), .second, .val (.long py), .second, .val (.int pf), .val (.ref b1), .val (.ref b3), .unset, .unset, .unset, .unset, .unset, .unset, .unset, .unset, .unset] [])) _
        exact kt
      exact ⟨T22, T22.heap, _, ((if (lcmpW (0 : Int64) py) < (0 : Int32) then py else (0 : Int64)) + (1 : Int64)), X22.more (by decide) (by decide), rfl, N22, ((Keep.refl h6 _).trans kp22 (allS (Or.inl (List.mem_of_getElem? (i := 0) rfl)) all0)), fl22, fun _ kt => (R16 _ (R23 _ kt))⟩
  have Z15 : n0 ≤ h15.size := Nat.le_trans Z6 kp15.1
  have f24 := (fj6_0.keep kp15 (ninS ne_b1_b3 nin0))
  have f25 := ((A3.keep kp6).keep kp15)
  have f27 := (((A1.ext E3).keep kp6).keep kp15)
  obtain ⟨cq26, kq26, q26a, q26b, q26c⟩ := isOf hZ e15 f27
  obtain ⟨_, _, ⟨T26, L26, k26, n26⟩, -, X26, ⟨Lc26, hQ26, l26, y26, z26⟩, st26⟩ := X15.virtualBack hx (y := (⟨"com/example/durchlass/durchlass/algorithm/LamportClock", "equals", "(Ljava/lang/Object;)Z"⟩ : MethodName)) (z := (⟨"com/example/durchlass/durchlass/algorithm/LamportClock", "equals", "(Ljava/lang/Object;)Z"⟩ : MethodName)) hown (mvT hZ (hw _ (List.mem_of_getElem? (i := 9) rfl))) (mvT hZ (hw _ (List.mem_of_getElem? (i := 10) rfl))) (notFace_of_selects (args := #[]) (mvT hZ (hw _ (List.mem_of_getElem? (i := 12) rfl)))) (mvT hZ (hw _ (List.mem_of_getElem? (i := 12) rfl))) (mvT hZ (hw _ (List.mem_of_getElem? (i := 11) rfl))) (by decide) (backOf (W := 0) (rmE l Z a0 hw [] b1 b3 t_b1 t_b3 h15 n0 Z15 f24 f25 fj15_0) hZ (hw _ (List.mem_of_getElem? (i := 13) rfl)) (hw _ (List.mem_of_getElem? (i := 2) rfl)) (by decide) (by decide)) q26a q26c (g := (mkF m 48 #[.val (.long px), .second, .val (.long py), .second, .val (.int pf), .val (.ref b1), .val (.ref b3), .unset, .unset, .unset, .unset, .unset, .unset, .unset, .unset, .unset] [(.ref b3), (.ref b1)])) rfl (by rw [hml]; rfl) (Steps.refl _) (argsL := [(.ref b3)]) (rest := []) (lenOf pd_3 rfl) rfl (by show 2 * 0 + _ ≤ _; exact Nat.le_of_eq rfl) (hb hby at_48) (fun _ _ => ⟨rfl, e15, (by decide : 2 + 0 ≤ _), (by decide : 2 + 0 ≤ _)⟩)
  dsimp only [Pt.U, Pt.locs, Pt.cells, Pt.slots] at X26 l26 y26 z26 st26 hQ26
  subst l26 y26 z26
  obtain ⟨hv26, N26q, r26⟩ := hQ26
  subst hv26
  have N26 := Fr.app N15 N26q
  obtain ⟨cq28, kq28, q28a, q28b, q28c⟩ := isOf hZ r26 f25
  obtain ⟨_, _, ⟨T28, L28, k28, n28⟩, -, X28, ⟨Lc28, hQ28, l28, y28, z28⟩, st28⟩ := X26.virtualBack hx (y := (⟨"com/example/durchlass/durchlass/algorithm/LamportClock", "equals", "(Ljava/lang/Object;)Z"⟩ : MethodName)) (z := (⟨"com/example/durchlass/durchlass/algorithm/LamportClock", "equals", "(Ljava/lang/Object;)Z"⟩ : MethodName)) hown (mvT hZ (hw _ (List.mem_of_getElem? (i := 9) rfl))) (mvT hZ (hw _ (List.mem_of_getElem? (i := 10) rfl))) (notFace_of_selects (args := #[]) (mvT hZ (hw _ (List.mem_of_getElem? (i := 12) rfl)))) (mvT hZ (hw _ (List.mem_of_getElem? (i := 12) rfl))) (mvT hZ (hw _ (List.mem_of_getElem? (i := 11) rfl))) (by decide) (backOf (W := 0) (rmE l Z a0 hw [] b3 b1 t_b3 t_b1 h15 n0 Z15 fj15_0 f27 f24) hZ (hw _ (List.mem_of_getElem? (i := 13) rfl)) (hw _ (List.mem_of_getElem? (i := 2) rfl)) (by decide) (by decide)) q28a q28c (g := (mkF m 57 #[.val (.long px), .second, .val (.long py), .second, .val (.int pf), .val (.ref b1), .val (.ref b3), .val (.int (if (lcmpW t_b1 t_b3) = (0 : Int32) then 1 else 0)), .unset, .unset, .unset, .unset, .unset, .unset, .unset, .unset] [(.ref b1), (.ref b3)])) rfl (by rw [hml]; rfl) (Steps.refl _) (argsL := [(.ref b1)]) (rest := []) (lenOf pd_3 rfl) rfl (by show 2 * 0 + _ ≤ _; exact Nat.le_of_eq rfl) (hb hby at_57) (fun _ _ => ⟨rfl, r26, (by decide : 2 + 0 ≤ _), (by decide : 2 + 0 ≤ _)⟩)
  dsimp only [Pt.U, Pt.locs, Pt.cells, Pt.slots] at X28 l28 y28 z28 st28 hQ28
  subst l28 y28 z28
  obtain ⟨hv28, N28q, r28⟩ := hQ28
  subst hv28
  have N28 := Fr.app N26 N28q
  obtain ⟨cq29, kq29, q29a, q29b, q29c⟩ := isOf hZ r28 f27
  obtain ⟨_, _, ⟨T29, L29, k29, n29⟩, -, X29, ⟨Lc29, hQ29, l29, y29, z29⟩, st29⟩ := X28.virtualBack hx (y := (⟨"com/example/durchlass/durchlass/algorithm/LamportClock", "equals", "(Ljava/lang/Object;)Z"⟩ : MethodName)) (z := (⟨"com/example/durchlass/durchlass/algorithm/LamportClock", "equals", "(Ljava/lang/Object;)Z"⟩ : MethodName)) hown (mvT hZ (hw _ (List.mem_of_getElem? (i := 9) rfl))) (mvT hZ (hw _ (List.mem_of_getElem? (i := 10) rfl))) (notFace_of_selects (args := #[]) (mvT hZ (hw _ (List.mem_of_getElem? (i := 12) rfl)))) (mvT hZ (hw _ (List.mem_of_getElem? (i := 12) rfl))) (mvT hZ (hw _ (List.mem_of_getElem? (i := 11) rfl))) (by decide) (backOf (W := 0) (rmE l Z a0 hw [] b1 b1 t_b1 t_b1 h15 n0 Z15 f24 f27 f24) hZ (hw _ (List.mem_of_getElem? (i := 13) rfl)) (hw _ (List.mem_of_getElem? (i := 2) rfl)) (by decide) (by decide)) q29a q29c (g := (mkF m 66 #[.val (.long px), .second, .val (.long py), .second, .val (.int pf), .val (.ref b1), .val (.ref b3), .val (.int (if (lcmpW t_b1 t_b3) = (0 : Int32) then 1 else 0)), .val (.int (if (lcmpW t_b3 t_b1) = (0 : Int32) then 1 else 0)), .unset, .unset, .unset, .unset, .unset, .unset, .unset] [(.ref b1), (.ref b1)])) rfl (by rw [hml]; rfl) (Steps.refl _) (argsL := [(.ref b1)]) (rest := []) (lenOf pd_3 rfl) rfl (by show 2 * 0 + _ ≤ _; exact Nat.le_of_eq rfl) (hb hby at_66) (fun _ _ => ⟨rfl, r28, (by decide : 2 + 0 ≤ _), (by decide : 2 + 0 ≤ _)⟩)
  dsimp only [Pt.U, Pt.locs, Pt.cells, Pt.slots] at X29 l29 y29 z29 st29 hQ29
  subst l29 y29 z29
  obtain ⟨hv29, N29q, r29⟩ := hQ29
  subst hv29
  have N29 := Fr.app N28 N29q
  have f30 := ((((hO1.ext E1).ext E3).keep kp6 (allS gb_b1 all0)).keep kp15 (allS gb_b3 all0))
  obtain ⟨_, _, ⟨T31, L31, k31, n31⟩, -, X31, ⟨Lc31, hQ31, l31, y31, z31⟩, st31⟩ := Jvm.LawKit.callS X29 hx (y := (⟨"java/lang/Long", "valueOf", "(J)Ljava/lang/Long;"⟩ : MethodName)) hown (mvT hZ (hw _ (List.mem_of_getElem? (i := 18) rfl))) (mvT hZ (hw _ (List.mem_of_getElem? (i := 19) rfl))) (mvT hZ (hw _ (List.mem_of_getElem? (i := 20) rfl))) (mvT hZ (hw _ (List.mem_of_getElem? (i := 21) rfl))) (by decide) (backOf (W := 1) (rmLV l Z a0 hw [] px ca cc val h15 n0 Z15 f30 hS1 hB1) hZ (hw _ (List.mem_of_getElem? (i := 21) rfl)) (hw _ (List.mem_of_getElem? (i := 20) rfl)) (by decide) (by decide)) (g := (mkF m 74 #[.val (.long px), .second, .val (.long py), .second, .val (.int pf), .val (.ref b1), .val (.ref b3), .val (.int (if (lcmpW t_b1 t_b3) = (0 : Int32) then 1 else 0)), .val (.int (if (lcmpW t_b3 t_b1) = (0 : Int32) then 1 else 0)), .val (.int (if (lcmpW t_b1 t_b1) = (0 : Int32) then 1 else 0)), .unset, .unset, .unset, .unset, .unset, .unset] [(.long px), (.ref b1)])) rfl (by rw [hml]; rfl) (argsL := [(.long px)]) (rest := [(.ref b1)]) (lenOf pd_4 rfl) rfl (by show 2 * 0 + _ ≤ _; exact Nat.le_of_eq rfl) (hb hby at_74) (fun _ _ => ⟨rfl, r29, (by decide : 2 + 1 ≤ _), (by decide : 2 + 1 ≤ _)⟩)
  dsimp only [Pt.U, Pt.locs, Pt.cells, Pt.slots] at X31 l31 y31 z31 st31 hQ31
  subst l31 y31 z31
  obtain ⟨lg31, hv31, N31q, kp31, EL31⟩ := hQ31
  subst hv31
  have N31 := Fr.app N29 N31q
  have Z31 : n0 ≤ T31.heap.size := Nat.le_trans Z15 kp31.1
  have f33 := (f27.keep kp31)
  obtain ⟨cq32, kq32, q32a, q32b, q32c⟩ := isOf hZ rfl f33
  obtain ⟨_, _, ⟨T32, L32, k32, n32⟩, -, X32, ⟨Lc32, hQ32, l32, y32, z32⟩, st32⟩ := X31.virtualBack hx (y := (⟨"com/example/durchlass/durchlass/algorithm/LamportClock", "equals", "(Ljava/lang/Object;)Z"⟩ : MethodName)) (z := (⟨"com/example/durchlass/durchlass/algorithm/LamportClock", "equals", "(Ljava/lang/Object;)Z"⟩ : MethodName)) hown (mvT hZ (hw _ (List.mem_of_getElem? (i := 9) rfl))) (mvT hZ (hw _ (List.mem_of_getElem? (i := 10) rfl))) (notFace_of_selects (args := #[]) (mvT hZ (hw _ (List.mem_of_getElem? (i := 12) rfl)))) (mvT hZ (hw _ (List.mem_of_getElem? (i := 12) rfl))) (mvT hZ (hw _ (List.mem_of_getElem? (i := 11) rfl))) (by decide) (backOf (W := 0) (rmEl l Z a0 hw [] b1 lg31 T31.heap n0 Z31 (own_notA (hw _ (List.mem_of_getElem? (i := 26) rfl)) (hw _ (List.mem_of_getElem? (i := 27) rfl)) (hw _ (List.mem_of_getElem? (i := 28) rfl)) (hw _ (List.mem_of_getElem? (i := 1) rfl)) (by decide) (by decide) (by decide)) EL31) hZ (hw _ (List.mem_of_getElem? (i := 13) rfl)) (hw _ (List.mem_of_getElem? (i := 2) rfl)) (by decide) (by decide)) q32a q32c (g := (mkF m 77 #[.val (.long px), .second, .val (.long py), .second, .val (.int pf), .val (.ref b1), .val (.ref b3), .val (.int (if (lcmpW t_b1 t_b3) = (0 : Int32) then 1 else 0)), .val (.int (if (lcmpW t_b3 t_b1) = (0 : Int32) then 1 else 0)), .val (.int (if (lcmpW t_b1 t_b1) = (0 : Int32) then 1 else 0)), .unset, .unset, .unset, .unset, .unset, .unset] [(.ref lg31), (.ref b1)])) rfl (by rw [hml]; rfl) (Steps.refl _) (argsL := [(.ref lg31)]) (rest := []) (lenOf pd_3 rfl) rfl (by show 2 * 0 + _ ≤ _; exact Nat.le_of_eq rfl) (hb hby at_77) (fun _ _ => ⟨rfl, rfl, (by decide : 3 + 0 ≤ _), (by decide : 3 + 0 ≤ _)⟩)
  dsimp only [Pt.U, Pt.locs, Pt.cells, Pt.slots] at X32 l32 y32 z32 st32 hQ32
  subst l32 y32 z32
  obtain ⟨hv32, N32q, r32⟩ := hQ32
  subst hv32
  have N32 := Fr.app N31 N32q
  obtain ⟨cq34, kq34, q34a, q34b, q34c⟩ := isOf hZ r32 f33
  obtain ⟨_, _, ⟨T34, L34, k34, n34⟩, -, X34, ⟨Lc34, hQ34, l34, y34, z34⟩, st34⟩ := X32.virtualBack hx (y := (⟨"com/example/durchlass/durchlass/algorithm/LamportClock", "equals", "(Ljava/lang/Object;)Z"⟩ : MethodName)) (z := (⟨"com/example/durchlass/durchlass/algorithm/LamportClock", "equals", "(Ljava/lang/Object;)Z"⟩ : MethodName)) hown (mvT hZ (hw _ (List.mem_of_getElem? (i := 9) rfl))) (mvT hZ (hw _ (List.mem_of_getElem? (i := 10) rfl))) (notFace_of_selects (args := #[]) (mvT hZ (hw _ (List.mem_of_getElem? (i := 12) rfl)))) (mvT hZ (hw _ (List.mem_of_getElem? (i := 12) rfl))) (mvT hZ (hw _ (List.mem_of_getElem? (i := 11) rfl))) (by decide) (backOf (W := 0) (rmEn l Z a0 hw [] b1 T31.heap n0 Z31) hZ (hw _ (List.mem_of_getElem? (i := 13) rfl)) (hw _ (List.mem_of_getElem? (i := 2) rfl)) (by decide) (by decide)) q34a q34c (g := (mkF m 85 #[.val (.long px), .second, .val (.long py), .second, .val (.int pf), .val (.ref b1), .val (.ref b3), .val (.int (if (lcmpW t_b1 t_b3) = (0 : Int32) then 1 else 0)), .val (.int (if (lcmpW t_b3 t_b1) = (0 : Int32) then 1 else 0)), .val (.int (if (lcmpW t_b1 t_b1) = (0 : Int32) then 1 else 0)), .val (.int (0 : Int32)), .unset, .unset, .unset, .unset, .unset] [.null, (.ref b1)])) rfl (by rw [hml]; rfl) (Steps.refl _) (argsL := [.null]) (rest := []) (lenOf pd_3 rfl) rfl (by show 2 * 0 + _ ≤ _; exact Nat.le_of_eq rfl) (hb hby at_85) (fun _ _ => ⟨rfl, r32, (by decide : 3 + 0 ≤ _), (by decide : 3 + 0 ≤ _)⟩)
  dsimp only [Pt.U, Pt.locs, Pt.cells, Pt.slots] at X34 l34 y34 z34 st34 hQ34
  subst l34 y34 z34
  obtain ⟨hv34, N34q, r34⟩ := hQ34
  subst hv34
  have N34 := Fr.app N32 N34q
  have f35 := (f24.keep kp31 nin0)
  obtain ⟨cq36, kq36, q36a, q36b, q36c⟩ := isOf hZ r34 f33
  obtain ⟨_, _, ⟨T36, L36, k36, n36⟩, -, X36, ⟨Lc36, hQ36, l36, y36, z36⟩, st36⟩ := X34.virtualBack hx (y := (⟨"com/example/durchlass/durchlass/algorithm/LamportClock", "send", "()J"⟩ : MethodName)) (z := (⟨"com/example/durchlass/durchlass/algorithm/LamportClock", "send", "()J"⟩ : MethodName)) hown (mvT hZ (hw _ (List.mem_of_getElem? (i := 29) rfl))) (mvT hZ (hw _ (List.mem_of_getElem? (i := 30) rfl))) (notFace_of_selects (args := #[]) (mvT hZ (hw _ (List.mem_of_getElem? (i := 32) rfl)))) (mvT hZ (hw _ (List.mem_of_getElem? (i := 32) rfl))) (mvT hZ (hw _ (List.mem_of_getElem? (i := 31) rfl))) (by decide) (backOf (W := 0) (rmS l Z a0 hw [] b1 t_b1 T31.heap n0 Z31 f33 f35 gb_b1) hZ (hw _ (List.mem_of_getElem? (i := 33) rfl)) (hw _ (List.mem_of_getElem? (i := 2) rfl)) (by decide) (by decide)) q36a q36c (g := (mkF m 92 #[.val (.long px), .second, .val (.long py), .second, .val (.int pf), .val (.ref b1), .val (.ref b3), .val (.int (if (lcmpW t_b1 t_b3) = (0 : Int32) then 1 else 0)), .val (.int (if (lcmpW t_b3 t_b1) = (0 : Int32) then 1 else 0)), .val (.int (if (lcmpW t_b1 t_b1) = (0 : Int32) then 1 else 0)), .val (.int (0 : Int32)), .val (.int (0 : Int32)), .unset, .unset, .unset, .unset] [(.ref b1)])) rfl (by rw [hml]; rfl) (Steps.refl _) (argsL := []) (rest := []) (lenOf pd_5 rfl) rfl (by show 2 * 0 + _ ≤ _; exact Nat.le_of_eq rfl) (hb hby at_92) (fun _ _ => ⟨rfl, r34, (by decide : 3 + 0 ≤ _), (by decide : 3 + 0 ≤ _)⟩)
  dsimp only [Pt.U, Pt.locs, Pt.cells, Pt.slots] at X36 l36 y36 z36 st36 hQ36
  subst l36 y36 z36
  obtain ⟨hv36, N36q, kp36, fl36⟩ := hQ36
  subst hv36
  have N36 := Fr.app N34 N36q
  have Z36 : n0 ≤ T36.heap.size := Nat.le_trans Z31 kp36.1
  have f37 := ((f25.keep kp31).keep kp36)
  have f38 := ((fj15_0.keep kp31 nin0).keep kp36 (ninS (Ne.symm ne_b1_b3) nin0))
  obtain ⟨cq39, kq39, q39a, q39b, q39c⟩ := isOf hZ rfl f37
  obtain ⟨_, _, ⟨T39, L39, k39, n39⟩, -, X39, ⟨Lc39, hQ39, l39, y39, z39⟩, st39⟩ := X36.virtualBack hx (y := (⟨"com/example/durchlass/durchlass/algorithm/LamportClock", "send", "()J"⟩ : MethodName)) (z := (⟨"com/example/durchlass/durchlass/algorithm/LamportClock", "send", "()J"⟩ : MethodName)) hown (mvT hZ (hw _ (List.mem_of_getElem? (i := 29) rfl))) (mvT hZ (hw _ (List.mem_of_getElem? (i := 30) rfl))) (notFace_of_selects (args := #[]) (mvT hZ (hw _ (List.mem_of_getElem? (i := 32) rfl)))) (mvT hZ (hw _ (List.mem_of_getElem? (i := 32) rfl))) (mvT hZ (hw _ (List.mem_of_getElem? (i := 31) rfl))) (by decide) (backOf (W := 0) (rmS l Z a0 hw [] b3 t_b3 T36.heap n0 Z36 f37 f38 gb_b3) hZ (hw _ (List.mem_of_getElem? (i := 33) rfl)) (hw _ (List.mem_of_getElem? (i := 2) rfl)) (by decide) (by decide)) q39a q39c (g := (mkF m 99 #[.val (.long px), .second, .val (.long py), .second, .val (.int pf), .val (.ref b1), .val (.ref b3), .val (.int (if (lcmpW t_b1 t_b3) = (0 : Int32) then 1 else 0)), .val (.int (if (lcmpW t_b3 t_b1) = (0 : Int32) then 1 else 0)), .val (.int (if (lcmpW t_b1 t_b1) = (0 : Int32) then 1 else 0)), .val (.int (0 : Int32)), .val (.int (0 : Int32)), .val (.long t_b1), .second, .unset, .unset] [(.ref b3)])) rfl (by rw [hml]; rfl) (Steps.refl _) (argsL := []) (rest := []) (lenOf pd_5 rfl) rfl (by show 2 * 0 + _ ≤ _; exact Nat.le_of_eq rfl) (hb hby at_99) (fun _ _ => ⟨rfl, rfl, (by decide : 3 + 0 ≤ _), (by decide : 3 + 0 ≤ _)⟩)
  dsimp only [Pt.U, Pt.locs, Pt.cells, Pt.slots] at X39 l39 y39 z39 st39 hQ39
  subst l39 y39 z39
  obtain ⟨hv39, N39q, kp39, fl39⟩ := hQ39
  subst hv39
  have N39 := Fr.app N36 N39q
  have Z39 : n0 ≤ T39.heap.size := Nat.le_trans Z36 kp39.1
  have R40 : ∀ tg, Steps p.tables e below (T39.setTop (mkF m 111 #[.val (.long px), .second, .val (.long py), .second, .val (.int pf), .val (.ref b1), .val (.ref b3), .val (.int (if (lcmpW t_b1 t_b3) = (0 : Int32) then 1 else 0)), .val (.int (if (lcmpW t_b3 t_b1) = (0 : Int32) then 1 else 0)), .val (.int (if (lcmpW t_b1 t_b1) = (0 : Int32) then 1 else 0)), .val (.int (0 : Int32)), .val (.int (0 : Int32)), .val (.long t_b1), .second, .val (.long t_b3), .second] [(.int (lcmpW t_b1 t_b3)), (.int (if (lcmpW t_b1 t_b3) = (0 : Int32) then 1 else 0))])) tg → Steps p.tables e below (T15.setTop (mkF m 44 #[.val (.long px), .second, .val (.long py), .second, .val (.int pf), .val (.ref b1), .val (.ref b3), .unset, .unset, .unset, .unset, .unset, .unset, .unset, .unset, .unset] [])) tg := by
    intro tg kt
    refine XS.aload X15.here hx rfl (hb hby at_44) rfl rfl ?_
    show Steps p.tables e below (T15.setTop (mkF m 46 #[.val (.long px), .second, .val (.long py), .second, .val (.int pf), .val (.ref b1), .val (.ref b3), .unset, .unset, .unset, .unset, .unset, .unset, .unset, .unset, .unset] [(.ref b1)])) _
    refine XS.aload X15.here hx rfl (hb hby at_46) rfl rfl ?_
    show Steps p.tables e below (T15.setTop (mkF m 48 #[.val (.long px), .second, .val (.long py), .second, .val (.int pf), .val (.ref b1), .val (.ref b3), .unset, .unset, .unset, .unset, .unset, .unset, .unset, .unset, .unset] [(.ref b3), (.ref b1)])) _
    refine st26.trans ?_
    show Steps p.tables e below (T26.setTop (mkF m 51 #[.val (.long px), .second, .val (.long py), .second, .val (.int pf), .val (.ref b1), .val (.ref b3), .unset, .unset, .unset, .unset, .unset, .unset, .unset, .unset, .unset] [(.int (if (lcmpW t_b1 t_b3) = (0 : Int32) then 1 else 0))])) _
    refine XS.istore X26.here hx rfl (hb hby at_51) rfl (l' := #[.val (.long px), .second, .val (.long py), .second, .val (.int pf), .val (.ref b1), .val (.ref b3), .val (.int (if (lcmpW t_b1 t_b3) = (0 : Int32) then 1 else 0)), .unset, .unset, .unset, .unset, .unset, .unset, .unset, .unset]) rfl ?_
    show Steps p.tables e below (T26.setTop (mkF m 53 #[.val (.long px), .second, .val (.long py), .second, .val (.int pf), .val (.ref b1), .val (.ref b3), .val (.int (if (lcmpW t_b1 t_b3) = (0 : Int32) then 1 else 0)), .unset, .unset, .unset, .unset, .unset, .unset, .unset, .unset] [])) _
    refine XS.aload X26.here hx rfl (hb hby at_53) rfl rfl ?_
    show Steps p.tables e below (T26.setTop (mkF m 55 #[.val (.long px), .second, .val (.long py), .second, .val (.int pf), .val (.ref b1), .val (.ref b3), .val (.int (if (lcmpW t_b1 t_b3) = (0 : Int32) then 1 else 0)), .unset, .unset, .unset, .unset, .unset, .unset, .unset, .unset] [(.ref b3)])) _
    refine XS.aload X26.here hx rfl (hb hby at_55) rfl rfl ?_
    show Steps p.tables e below (T26.setTop (mkF m 57 #[.val (.long px), .second, .val (.long py), .second, .val (.int pf), .val (.ref b1), .val (.ref b3), .val (.int (if (lcmpW t_b1 t_b3) = (0 : Int32) then 1 else 0)), .unset, .unset, .unset, .unset, .unset, .unset, .unset, .unset] [(.ref b1), (.ref b3)])) _
    refine st28.trans ?_
    show Steps p.tables e below (T28.setTop (mkF m 60 #[.val (.long px), .second, .val (.long py), .second, .val (.int pf), .val (.ref b1), .val (.ref b3), .val (.int (if (lcmpW t_b1 t_b3) = (0 : Int32) then 1 else 0)), .unset, .unset, .unset, .unset, .unset, .unset, .unset, .unset] [(.int (if (lcmpW t_b3 t_b1) = (0 : Int32) then 1 else 0))])) _
    refine XS.istore X28.here hx rfl (hb hby at_60) rfl (l' := #[.val (.long px), .second, .val (.long py), .second, .val (.int pf), .val (.ref b1), .val (.ref b3), .val (.int (if (lcmpW t_b1 t_b3) = (0 : Int32) then 1 else 0)), .val (.int (if (lcmpW t_b3 t_b1) = (0 : Int32) then 1 else 0)), .unset, .unset, .unset, .unset, .unset, .unset, .unset]) rfl ?_
    show Steps p.tables e below (T28.setTop (mkF m 62 #[.val (.long px), .second, .val (.long py), .second, .val (.int pf), .val (.ref b1), .val (.ref b3), .val (.int (if (lcmpW t_b1 t_b3) = (0 : Int32) then 1 else 0)), .val (.int (if (lcmpW t_b3 t_b1) = (0 : Int32) then 1 else 0)), .unset, .unset, .unset, .unset, .unset, .unset, .unset] [])) _
    refine XS.aload X28.here hx rfl (hb hby at_62) rfl rfl ?_
    show Steps p.tables e below (T28.setTop (mkF m 64 #[.val (.long px), .second, .val (.long py), .second, .val (.int pf), .val (.ref b1), .val (.ref b3), .val (.int (if (lcmpW t_b1 t_b3) = (0 : Int32) then 1 else 0)), .val (.int (if (lcmpW t_b3 t_b1) = (0 : Int32) then 1 else 0)), .unset, .unset, .unset, .unset, .unset, .unset, .unset] [(.ref b1)])) _
    refine XS.aload X28.here hx rfl (hb hby at_64) rfl rfl ?_
    show Steps p.tables e below (T28.setTop (mkF m 66 #[.val (.long px), .second, .val (.long py), .second, .val (.int pf), .val (.ref b1), .val (.ref b3), .val (.int (if (lcmpW t_b1 t_b3) = (0 : Int32) then 1 else 0)), .val (.int (if (lcmpW t_b3 t_b1) = (0 : Int32) then 1 else 0)), .unset, .unset, .unset, .unset, .unset, .unset, .unset] [(.ref b1), (.ref b1)])) _
    refine st29.trans ?_
    show Steps p.tables e below (T29.setTop (mkF m 69 #[.val (.long px), .second, .val (.long py), .second, .val (.int pf), .val (.ref b1), .val (.ref b3), .val (.int (if (lcmpW t_b1 t_b3) = (0 : Int32) then 1 else 0)), .val (.int (if (lcmpW t_b3 t_b1) = (0 : Int32) then 1 else 0)), .unset, .unset, .unset, .unset, .unset, .unset, .unset] [(.int (if (lcmpW t_b1 t_b1) = (0 : Int32) then 1 else 0))])) _
    refine XS.istore X29.here hx rfl (hb hby at_69) rfl (l' := #[.val (.long px), .second, .val (.long py), .second, .val (.int pf), .val (.ref b1), .val (.ref b3), .val (.int (if (lcmpW t_b1 t_b3) = (0 : Int32) then 1 else 0)), .val (.int (if (lcmpW t_b3 t_b1) = (0 : Int32) then 1 else 0)), .val (.int (if (lcmpW t_b1 t_b1) = (0 : Int32) then 1 else 0)), .unset, .unset, .unset, .unset, .unset, .unset]) rfl ?_
    show Steps p.tables e below (T29.setTop (mkF m 71 #[.val (.long px), .second, .val (.long py), .second, .val (.int pf), .val (.ref b1), .val (.ref b3), .val (.int (if (lcmpW t_b1 t_b3) = (0 : Int32) then 1 else 0)), .val (.int (if (lcmpW t_b3 t_b1) = (0 : Int32) then 1 else 0)), .val (.int (if (lcmpW t_b1 t_b1) = (0 : Int32) then 1 else 0)), .unset, .unset, .unset, .unset, .unset, .unset] [])) _
    refine XS.aload X29.here hx rfl (hb hby at_71) rfl rfl ?_
    show Steps p.tables e below (T29.setTop (mkF m 73 #[.val (.long px), .second, .val (.long py), .second, .val (.int pf), .val (.ref b1), .val (.ref b3), .val (.int (if (lcmpW t_b1 t_b3) = (0 : Int32) then 1 else 0)), .val (.int (if (lcmpW t_b3 t_b1) = (0 : Int32) then 1 else 0)), .val (.int (if (lcmpW t_b1 t_b1) = (0 : Int32) then 1 else 0)), .unset, .unset, .unset, .unset, .unset, .unset] [(.ref b1)])) _
    refine XS.lloadN X29.here hx rfl (hb hby at_73) rfl ?_
    show Steps p.tables e below (T29.setTop (mkF m 74 #[.val (.long px), .second, .val (.long py), .second, .val (.int pf), .val (.ref b1), .val (.ref b3), .val (.int (if (lcmpW t_b1 t_b3) = (0 : Int32) then 1 else 0)), .val (.int (if (lcmpW t_b3 t_b1) = (0 : Int32) then 1 else 0)), .val (.int (if (lcmpW t_b1 t_b1) = (0 : Int32) then 1 else 0)), .unset, .unset, .unset, .unset, .unset, .unset] [(.long px), (.ref b1)])) _
    refine st31 _ ?_
    show Steps p.tables e below (T31.setTop (mkF m 77 #[.val (.long px), .second, .val (.long py), .second, .val (.int pf), .val (.ref b1), .val (.ref b3), .val (.int (if (lcmpW t_b1 t_b3) = (0 : Int32) then 1 else 0)), .val (.int (if (lcmpW t_b3 t_b1) = (0 : Int32) then 1 else 0)), .val (.int (if (lcmpW t_b1 t_b1) = (0 : Int32) then 1 else 0)), .unset, .unset, .unset, .unset, .unset, .unset] [(.ref lg31), (.ref b1)])) _
    refine st32.trans ?_
    show Steps p.tables e below (T32.setTop (mkF m 80 #[.val (.long px), .second, .val (.long py), .second, .val (.int pf), .val (.ref b1), .val (.ref b3), .val (.int (if (lcmpW t_b1 t_b3) = (0 : Int32) then 1 else 0)), .val (.int (if (lcmpW t_b3 t_b1) = (0 : Int32) then 1 else 0)), .val (.int (if (lcmpW t_b1 t_b1) = (0 : Int32) then 1 else 0)), .unset, .unset, .unset, .unset, .unset, .unset] [(.int (0 : Int32))])) _
    refine XS.istore X32.here hx rfl (hb hby at_80) rfl (l' := #[.val (.long px), .second, .val (.long py), .second, .val (.int pf), .val (.ref b1), .val (.ref b3), .val (.int (if (lcmpW t_b1 t_b3) = (0 : Int32) then 1 else 0)), .val (.int (if (lcmpW t_b3 t_b1) = (0 : Int32) then 1 else 0)), .val (.int (if (lcmpW t_b1 t_b1) = (0 : Int32) then 1 else 0)), .val (.int (0 : Int32)), .unset, .unset, .unset, .unset, .unset]) rfl ?_
    show Steps p.tables e below (T32.setTop (mkF m 82 #[.val (.long px), .second, .val (.long py), .second, .val (.int pf), .val (.ref b1), .val (.ref b3), .val (.int (if (lcmpW t_b1 t_b3) = (0 : Int32) then 1 else 0)), .val (.int (if (lcmpW t_b3 t_b1) = (0 : Int32) then 1 else 0)), .val (.int (if (lcmpW t_b1 t_b1) = (0 : Int32) then 1 else 0)), .val (.int (0 : Int32)), .unset, .unset, .unset, .unset, .unset] [])) _
    refine XS.aload X32.here hx rfl (hb hby at_82) rfl rfl ?_
    show Steps p.tables e below (T32.setTop (mkF m 84 #[.val (.long px), .second, .val (.long py), .second, .val (.int pf), .val (.ref b1), .val (.ref b3), .val (.int (if (lcmpW t_b1 t_b3) = (0 : Int32) then 1 else 0)), .val (.int (if (lcmpW t_b3 t_b1) = (0 : Int32) then 1 else 0)), .val (.int (if (lcmpW t_b1 t_b1) = (0 : Int32) then 1 else 0)), .val (.int (0 : Int32)), .unset, .unset, .unset, .unset, .unset] [(.ref b1)])) _
    refine XS.aconstNull X32.here hx rfl (hb hby at_84) ?_
    show Steps p.tables e below (T32.setTop (mkF m 85 #[.val (.long px), .second, .val (.long py), .second, .val (.int pf), .val (.ref b1), .val (.ref b3), .val (.int (if (lcmpW t_b1 t_b3) = (0 : Int32) then 1 else 0)), .val (.int (if (lcmpW t_b3 t_b1) = (0 : Int32) then 1 else 0)), .val (.int (if (lcmpW t_b1 t_b1) = (0 : Int32) then 1 else 0)), .val (.int (0 : Int32)), .unset, .unset, .unset, .unset, .unset] [.null, (.ref b1)])) _
    refine st34.trans ?_
    show Steps p.tables e below (T34.setTop (mkF m 88 #[.val (.long px), .second, .val (.long py), .second, .val (.int pf), .val (.ref b1), .val (.ref b3), .val (.int (if (lcmpW t_b1 t_b3) = (0 : Int32) then 1 else 0)), .val (.int (if (lcmpW t_b3 t_b1) = (0 : Int32) then 1 else 0)), .val (.int (if (lcmpW t_b1 t_b1) = (0 : Int32) then 1 else 0)), .val (.int (0 : Int32)), .unset, .unset, .unset, .unset, .unset] [(.int (0 : Int32))])) _
    refine XS.istore X34.here hx rfl (hb hby at_88) rfl (l' := #[.val (.long px), .second, .val (.long py), .second, .val (.int pf), .val (.ref b1), .val (.ref b3), .val (.int (if (lcmpW t_b1 t_b3) = (0 : Int32) then 1 else 0)), .val (.int (if (lcmpW t_b3 t_b1) = (0 : Int32) then 1 else 0)), .val (.int (if (lcmpW t_b1 t_b1) = (0 : Int32) then 1 else 0)), .val (.int (0 : Int32)), .val (.int (0 : Int32)), .unset, .unset, .unset, .unset]) rfl ?_
    show Steps p.tables e below (T34.setTop (mkF m 90 #[.val (.long px), .second, .val (.long py), .second, .val (.int pf), .val (.ref b1), .val (.ref b3), .val (.int (if (lcmpW t_b1 t_b3) = (0 : Int32) then 1 else 0)), .val (.int (if (lcmpW t_b3 t_b1) = (0 : Int32) then 1 else 0)), .val (.int (if (lcmpW t_b1 t_b1) = (0 : Int32) then 1 else 0)), .val (.int (0 : Int32)), .val (.int (0 : Int32)), .unset, .unset, .unset, .unset] [])) _
    refine XS.aload X34.here hx rfl (hb hby at_90) rfl rfl ?_
    show Steps p.tables e below (T34.setTop (mkF m 92 #[.val (.long px), .second, .val (.long py), .second, .val (.int pf), .val (.ref b1), .val (.ref b3), .val (.int (if (lcmpW t_b1 t_b3) = (0 : Int32) then 1 else 0)), .val (.int (if (lcmpW t_b3 t_b1) = (0 : Int32) then 1 else 0)), .val (.int (if (lcmpW t_b1 t_b1) = (0 : Int32) then 1 else 0)), .val (.int (0 : Int32)), .val (.int (0 : Int32)), .unset, .unset, .unset, .unset] [(.ref b1)])) _
    refine st36.trans ?_
    show Steps p.tables e below (T36.setTop (mkF m 95 #[.val (.long px), .second, .val (.long py), .second, .val (.int pf), .val (.ref b1), .val (.ref b3), .val (.int (if (lcmpW t_b1 t_b3) = (0 : Int32) then 1 else 0)), .val (.int (if (lcmpW t_b3 t_b1) = (0 : Int32) then 1 else 0)), .val (.int (if (lcmpW t_b1 t_b1) = (0 : Int32) then 1 else 0)), .val (.int (0 : Int32)), .val (.int (0 : Int32)), .unset, .unset, .unset, .unset] [(.long t_b1)])) _
    refine XS.lstore X36.here hx rfl (hb hby at_95) rfl (l' := #[.val (.long px), .second, .val (.long py), .second, .val (.int pf), .val (.ref b1), .val (.ref b3), .val (.int (if (lcmpW t_b1 t_b3) = (0 : Int32) then 1 else 0)), .val (.int (if (lcmpW t_b3 t_b1) = (0 : Int32) then 1 else 0)), .val (.int (if (lcmpW t_b1 t_b1) = (0 : Int32) then 1 else 0)), .val (.int (0 : Int32)), .val (.int (0 : Int32)), .val (.long t_b1), .second, .unset, .unset]) rfl ?_
    show Steps p.tables e below (T36.setTop (mkF m 97 #[.val (.long px), .second, .val (.long py), .second, .val (.int pf), .val (.ref b1), .val (.ref b3), .val (.int (if (lcmpW t_b1 t_b3) = (0 : Int32) then 1 else 0)), .val (.int (if (lcmpW t_b3 t_b1) = (0 : Int32) then 1 else 0)), .val (.int (if (lcmpW t_b1 t_b1) = (0 : Int32) then 1 else 0)), .val (.int (0 : Int32)), .val (.int (0 : Int32)), .val (.long t_b1), .second, .unset, .unset] [])) _
    refine XS.aload X36.here hx rfl (hb hby at_97) rfl rfl ?_
    show Steps p.tables e below (T36.setTop (mkF m 99 #[.val (.long px), .second, .val (.long py), .second, .val (.int pf), .val (.ref b1), .val (.ref b3), .val (.int (if (lcmpW t_b1 t_b3) = (0 : Int32) then 1 else 0)), .val (.int (if (lcmpW t_b3 t_b1) = (0 : Int32) then 1 else 0)), .val (.int (if (lcmpW t_b1 t_b1) = (0 : Int32) then 1 else 0)), .val (.int (0 : Int32)), .val (.int (0 : Int32)), .val (.long t_b1), .second, .unset, .unset] [(.ref b3)])) _
    refine st39.trans ?_
    show Steps p.tables e below (T39.setTop (mkF m 102 #[.val (.long px), .second, .val (.long py), .second, .val (.int pf), .val (.ref b1), .val (.ref b3), .val (.int (if (lcmpW t_b1 t_b3) = (0 : Int32) then 1 else 0)), .val (.int (if (lcmpW t_b3 t_b1) = (0 : Int32) then 1 else 0)), .val (.int (if (lcmpW t_b1 t_b1) = (0 : Int32) then 1 else 0)), .val (.int (0 : Int32)), .val (.int (0 : Int32)), .val (.long t_b1), .second, .unset, .unset] [(.long t_b3)])) _
    refine XS.lstore X39.here hx rfl (hb hby at_102) rfl (l' := #[.val (.long px), .second, .val (.long py), .second, .val (.int pf), .val (.ref b1), .val (.ref b3), .val (.int (if (lcmpW t_b1 t_b3) = (0 : Int32) then 1 else 0)), .val (.int (if (lcmpW t_b3 t_b1) = (0 : Int32) then 1 else 0)), .val (.int (if (lcmpW t_b1 t_b1) = (0 : Int32) then 1 else 0)), .val (.int (0 : Int32)), .val (.int (0 : Int32)), .val (.long t_b1), .second, .val (.long t_b3), .second]) rfl ?_
    show Steps p.tables e below (T39.setTop (mkF m 104 #[.val (.long px), .second, .val (.long py), .second, .val (.int pf), .val (.ref b1), .val (.ref b3), .val (.int (if (lcmpW t_b1 t_b3) = (0 : Int32) then 1 else 0)), .val (.int (if (lcmpW t_b3 t_b1) = (0 : Int32) then 1 else 0)), .val (.int (if (lcmpW t_b1 t_b1) = (0 : Int32) then 1 else 0)), .val (.int (0 : Int32)), .val (.int (0 : Int32)), .val (.long t_b1), .second, .val (.long t_b3), .second] [])) _
    refine XS.iload X39.here hx rfl (hb hby at_104) rfl ?_
    show Steps p.tables e below (T39.setTop (mkF m 106 #[.val (.long px), .second, .val (.long py), .second, .val (.int pf), .val (.ref b1), .val (.ref b3), .val (.int (if (lcmpW t_b1 t_b3) = (0 : Int32) then 1 else 0)), .val (.int (if (lcmpW t_b3 t_b1) = (0 : Int32) then 1 else 0)), .val (.int (if (lcmpW t_b1 t_b1) = (0 : Int32) then 1 else 0)), .val (.int (0 : Int32)), .val (.int (0 : Int32)), .val (.long t_b1), .second, .val (.long t_b3), .second] [(.int (if (lcmpW t_b1 t_b3) = (0 : Int32) then 1 else 0))])) _
    refine XS.lload X39.here hx rfl (hb hby at_106) rfl ?_
    show Steps p.tables e below (T39.setTop (mkF m 108 #[.val (.long px), .second, .val (.long py), .second, .val (.int pf), .val (.ref b1), .val (.ref b3), .val (.int (if (lcmpW t_b1 t_b3) = (0 : Int32) then 1 else 0)), .val (.int (if (lcmpW t_b3 t_b1) = (0 : Int32) then 1 else 0)), .val (.int (if (lcmpW t_b1 t_b1) = (0 : Int32) then 1 else 0)), .val (.int (0 : Int32)), .val (.int (0 : Int32)), .val (.long t_b1), .second, .val (.long t_b3), .second] [(.long t_b1), (.int (if (lcmpW t_b1 t_b3) = (0 : Int32) then 1 else 0))])) _
    refine XS.lload X39.here hx rfl (hb hby at_108) rfl ?_
    show Steps p.tables e below (T39.setTop (mkF m 110 #[.val (.long px), .second, .val (.long py), .second, .val (.int pf), .val (.ref b1), .val (.ref b3), .val (.int (if (lcmpW t_b1 t_b3) = (0 : Int32) then 1 else 0)), .val (.int (if (lcmpW t_b3 t_b1) = (0 : Int32) then 1 else 0)), .val (.int (if (lcmpW t_b1 t_b1) = (0 : Int32) then 1 else 0)), .val (.int (0 : Int32)), .val (.int (0 : Int32)), .val (.long t_b1), .second, .val (.long t_b3), .second] [(.long t_b3), (.long t_b1), (.int (if (lcmpW t_b1 t_b3) = (0 : Int32) then 1 else 0))])) _
    refine XS.lcmp X39.here hx rfl (hb hby at_110) rfl ?_
    show Steps p.tables e below (T39.setTop (mkF m 111 #[.val (.long px), .second, .val (.long py), .second, .val (.int pf), .val (.ref b1), .val (.ref b3), .val (.int (if (lcmpW t_b1 t_b3) = (0 : Int32) then 1 else 0)), .val (.int (if (lcmpW t_b3 t_b1) = (0 : Int32) then 1 else 0)), .val (.int (if (lcmpW t_b1 t_b1) = (0 : Int32) then 1 else 0)), .val (.int (0 : Int32)), .val (.int (0 : Int32)), .val (.long t_b1), .second, .val (.long t_b3), .second] [(.int (lcmpW t_b1 t_b3)), (.int (if (lcmpW t_b1 t_b3) = (0 : Int32) then 1 else 0))])) _
    exact kt
  by_cases hc111_41 : (lcmpW t_b1 t_b3) = (0 : Int32)
  · obtain ⟨fs, hr, hrun, hended, hW, hsame⟩ := X39.leave (v := some (.int (1 : Int32))) (fun h => by rw [Bd.returns] at h; cases h)
    refine ⟨_, _, pre0 _ (R5 _ (R6 _ (R15 _ (R40 _ ?_)))), hrun, hended, _, _, rfl, ?_, ⟨_, rfl⟩, hW, hsame.mono (by decide) (by decide)⟩
    · show Steps p.tables e below (T39.setTop (mkF m 111 #[.val (.long px), .second, .val (.long py), .second, .val (.int pf), .val (.ref b1), .val (.ref b3), .val (.int (if (lcmpW t_b1 t_b3) = (0 : Int32) then 1 else 0)), .val (.int (if (lcmpW t_b3 t_b1) = (0 : Int32) then 1 else 0)), .val (.int (if (lcmpW t_b1 t_b1) = (0 : Int32) then 1 else 0)), .val (.int (0 : Int32)), .val (.int (0 : Int32)), .val (.long t_b1), .second, .val (.long t_b3), .second] [(.int (lcmpW t_b1 t_b3)), (.int (if (lcmpW t_b1 t_b3) = (0 : Int32) then 1 else 0))])) _
      refine XS.ifNo X39.here hx rfl (hb hby at_111) rfl ((if0 _ _).trans (teq hc111_41).2) ?_
      show Steps p.tables e below (T39.setTop (mkF m 114 #[.val (.long px), .second, .val (.long py), .second, .val (.int pf), .val (.ref b1), .val (.ref b3), .val (.int (if (lcmpW t_b1 t_b3) = (0 : Int32) then 1 else 0)), .val (.int (if (lcmpW t_b3 t_b1) = (0 : Int32) then 1 else 0)), .val (.int (if (lcmpW t_b1 t_b1) = (0 : Int32) then 1 else 0)), .val (.int (0 : Int32)), .val (.int (0 : Int32)), .val (.long t_b1), .second, .val (.long t_b3), .second] [(.int (if (lcmpW t_b1 t_b3) = (0 : Int32) then 1 else 0))])) _
      refine XS.iconst X39.here hx rfl (hb hby at_114) ?_
      show Steps p.tables e below (T39.setTop (mkF m 115 #[.val (.long px), .second, .val (.long py), .second, .val (.int pf), .val (.ref b1), .val (.ref b3), .val (.int (if (lcmpW t_b1 t_b3) = (0 : Int32) then 1 else 0)), .val (.int (if (lcmpW t_b3 t_b1) = (0 : Int32) then 1 else 0)), .val (.int (if (lcmpW t_b1 t_b1) = (0 : Int32) then 1 else 0)), .val (.int (0 : Int32)), .val (.int (0 : Int32)), .val (.long t_b1), .second, .val (.long t_b3), .second] [(.int (1 : Int32)), (.int (if (lcmpW t_b1 t_b3) = (0 : Int32) then 1 else 0))])) _
      refine XS.goto X39.here hx rfl (pc0 := 115) (pc' := 119) rfl (hb hby at_115) (by decide) (by decide) ?_
      show Steps p.tables e below (T39.setTop (mkF m 119 #[.val (.long px), .second, .val (.long py), .second, .val (.int pf), .val (.ref b1), .val (.ref b3), .val (.int (if (lcmpW t_b1 t_b3) = (0 : Int32) then 1 else 0)), .val (.int (if (lcmpW t_b3 t_b1) = (0 : Int32) then 1 else 0)), .val (.int (if (lcmpW t_b1 t_b1) = (0 : Int32) then 1 else 0)), .val (.int (0 : Int32)), .val (.int (0 : Int32)), .val (.long t_b1), .second, .val (.long t_b3), .second] [(.int (1 : Int32)), (.int (if (lcmpW t_b1 t_b3) = (0 : Int32) then 1 else 0))])) _
      refine XS.icmpNo X39.here hx rfl (hb hby at_119) rfl (teq (if_pos hc111_41)).2 ?_
      show Steps p.tables e below (T39.setTop (mkF m 122 #[.val (.long px), .second, .val (.long py), .second, .val (.int pf), .val (.ref b1), .val (.ref b3), .val (.int (if (lcmpW t_b1 t_b3) = (0 : Int32) then 1 else 0)), .val (.int (if (lcmpW t_b3 t_b1) = (0 : Int32) then 1 else 0)), .val (.int (if (lcmpW t_b1 t_b1) = (0 : Int32) then 1 else 0)), .val (.int (0 : Int32)), .val (.int (0 : Int32)), .val (.long t_b1), .second, .val (.long t_b3), .second] [])) _
      refine XS.iload X39.here hx rfl (hb hby at_122) rfl ?_
      show Steps p.tables e below (T39.setTop (mkF m 124 #[.val (.long px), .second, .val (.long py), .second, .val (.int pf), .val (.ref b1), .val (.ref b3), .val (.int (if (lcmpW t_b1 t_b3) = (0 : Int32) then 1 else 0)), .val (.int (if (lcmpW t_b3 t_b1) = (0 : Int32) then 1 else 0)), .val (.int (if (lcmpW t_b1 t_b1) = (0 : Int32) then 1 else 0)), .val (.int (0 : Int32)), .val (.int (0 : Int32)), .val (.long t_b1), .second, .val (.long t_b3), .second] [(.int (if (lcmpW t_b3 t_b1) = (0 : Int32) then 1 else 0))])) _
      refine XS.iload X39.here hx rfl (hb hby at_124) rfl ?_
      show Steps p.tables e below (T39.setTop (mkF m 126 #[.val (.long px), .second, .val (.long py), .second, .val (.int pf), .val (.ref b1), .val (.ref b3), .val (.int (if (lcmpW t_b1 t_b3) = (0 : Int32) then 1 else 0)), .val (.int (if (lcmpW t_b3 t_b1) = (0 : Int32) then 1 else 0)), .val (.int (if (lcmpW t_b1 t_b1) = (0 : Int32) then 1 else 0)), .val (.int (0 : Int32)), .val (.int (0 : Int32)), .val (.long t_b1), .second, .val (.long t_b3), .second] [(.int (if (lcmpW t_b1 t_b3) = (0 : Int32) then 1 else 0)), (.int (if (lcmpW t_b3 t_b1) = (0 : Int32) then 1 else 0))])) _
      refine XS.icmpNo X39.here hx rfl (hb hby at_126) rfl (teq (own_lc t_b3 t_b1)).2 ?_
      show Steps p.tables e below (T39.setTop (mkF m 129 #[.val (.long px), .second, .val (.long py), .second, .val (.int pf), .val (.ref b1), .val (.ref b3), .val (.int (if (lcmpW t_b1 t_b3) = (0 : Int32) then 1 else 0)), .val (.int (if (lcmpW t_b3 t_b1) = (0 : Int32) then 1 else 0)), .val (.int (if (lcmpW t_b1 t_b1) = (0 : Int32) then 1 else 0)), .val (.int (0 : Int32)), .val (.int (0 : Int32)), .val (.long t_b1), .second, .val (.long t_b3), .second] [])) _
      refine XS.iload X39.here hx rfl (hb hby at_129) rfl ?_
      show Steps p.tables e below (T39.setTop (mkF m 131 #[.val (.long px), .second, .val (.long py), .second, .val (.int pf), .val (.ref b1), .val (.ref b3), .val (.int (if (lcmpW t_b1 t_b3) = (0 : Int32) then 1 else 0)), .val (.int (if (lcmpW t_b3 t_b1) = (0 : Int32) then 1 else 0)), .val (.int (if (lcmpW t_b1 t_b1) = (0 : Int32) then 1 else 0)), .val (.int (0 : Int32)), .val (.int (0 : Int32)), .val (.long t_b1), .second, .val (.long t_b3), .second] [(.int (if (lcmpW t_b1 t_b1) = (0 : Int32) then 1 else 0))])) _
      refine XS.ifNo X39.here hx rfl (hb hby at_131) rfl ((if0 _ _).trans (feq (own_lc0 t_b1)).1) ?_
      show Steps p.tables e below (T39.setTop (mkF m 134 #[.val (.long px), .second, .val (.long py), .second, .val (.int pf), .val (.ref b1), .val (.ref b3), .val (.int (if (lcmpW t_b1 t_b3) = (0 : Int32) then 1 else 0)), .val (.int (if (lcmpW t_b3 t_b1) = (0 : Int32) then 1 else 0)), .val (.int (if (lcmpW t_b1 t_b1) = (0 : Int32) then 1 else 0)), .val (.int (0 : Int32)), .val (.int (0 : Int32)), .val (.long t_b1), .second, .val (.long t_b3), .second] [])) _
      refine XS.iload X39.here hx rfl (hb hby at_134) rfl ?_
      show Steps p.tables e below (T39.setTop (mkF m 136 #[.val (.long px), .second, .val (.long py), .second, .val (.int pf), .val (.ref b1), .val (.ref b3), .val (.int (if (lcmpW t_b1 t_b3) = (0 : Int32) then 1 else 0)), .val (.int (if (lcmpW t_b3 t_b1) = (0 : Int32) then 1 else 0)), .val (.int (if (lcmpW t_b1 t_b1) = (0 : Int32) then 1 else 0)), .val (.int (0 : Int32)), .val (.int (0 : Int32)), .val (.long t_b1), .second, .val (.long t_b3), .second] [(.int (0 : Int32))])) _
      refine XS.ifNo X39.here hx rfl (hb hby at_136) rfl ((if0 _ _).trans (teq (by decide : (0 : Int32) = (0 : Int32))).2) ?_
      show Steps p.tables e below (T39.setTop (mkF m 139 #[.val (.long px), .second, .val (.long py), .second, .val (.int pf), .val (.ref b1), .val (.ref b3), .val (.int (if (lcmpW t_b1 t_b3) = (0 : Int32) then 1 else 0)), .val (.int (if (lcmpW t_b3 t_b1) = (0 : Int32) then 1 else 0)), .val (.int (if (lcmpW t_b1 t_b1) = (0 : Int32) then 1 else 0)), .val (.int (0 : Int32)), .val (.int (0 : Int32)), .val (.long t_b1), .second, .val (.long t_b3), .second] [])) _
      refine XS.iload X39.here hx rfl (hb hby at_139) rfl ?_
      show Steps p.tables e below (T39.setTop (mkF m 141 #[.val (.long px), .second, .val (.long py), .second, .val (.int pf), .val (.ref b1), .val (.ref b3), .val (.int (if (lcmpW t_b1 t_b3) = (0 : Int32) then 1 else 0)), .val (.int (if (lcmpW t_b3 t_b1) = (0 : Int32) then 1 else 0)), .val (.int (if (lcmpW t_b1 t_b1) = (0 : Int32) then 1 else 0)), .val (.int (0 : Int32)), .val (.int (0 : Int32)), .val (.long t_b1), .second, .val (.long t_b3), .second] [(.int (0 : Int32))])) _
      refine XS.ifNo X39.here hx rfl (hb hby at_141) rfl ((if0 _ _).trans (teq (by decide : (0 : Int32) = (0 : Int32))).2) ?_
      show Steps p.tables e below (T39.setTop (mkF m 144 #[.val (.long px), .second, .val (.long py), .second, .val (.int pf), .val (.ref b1), .val (.ref b3), .val (.int (if (lcmpW t_b1 t_b3) = (0 : Int32) then 1 else 0)), .val (.int (if (lcmpW t_b3 t_b1) = (0 : Int32) then 1 else 0)), .val (.int (if (lcmpW t_b1 t_b1) = (0 : Int32) then 1 else 0)), .val (.int (0 : Int32)), .val (.int (0 : Int32)), .val (.long t_b1), .second, .val (.long t_b3), .second] [])) _
      refine XS.iconst X39.here hx rfl (hb hby at_144) ?_
      show Steps p.tables e below (T39.setTop (mkF m 145 #[.val (.long px), .second, .val (.long py), .second, .val (.int pf), .val (.ref b1), .val (.ref b3), .val (.int (if (lcmpW t_b1 t_b3) = (0 : Int32) then 1 else 0)), .val (.int (if (lcmpW t_b3 t_b1) = (0 : Int32) then 1 else 0)), .val (.int (if (lcmpW t_b1 t_b1) = (0 : Int32) then 1 else 0)), .val (.int (0 : Int32)), .val (.int (0 : Int32)), .val (.long t_b1), .second, .val (.long t_b3), .second] [(.int (1 : Int32))])) _
      refine XS.goto X39.here hx rfl (pc0 := 145) (pc' := 149) rfl (hb hby at_145) (by decide) (by decide) ?_
      show Steps p.tables e below (T39.setTop (mkF m 149 #[.val (.long px), .second, .val (.long py), .second, .val (.int pf), .val (.ref b1), .val (.ref b3), .val (.int (if (lcmpW t_b1 t_b3) = (0 : Int32) then 1 else 0)), .val (.int (if (lcmpW t_b3 t_b1) = (0 : Int32) then 1 else 0)), .val (.int (if (lcmpW t_b1 t_b1) = (0 : Int32) then 1 else 0)), .val (.int (0 : Int32)), .val (.int (0 : Int32)), .val (.long t_b1), .second, .val (.long t_b3), .second] [(.int (1 : Int32))])) _
      exact retN X39 hx (t := .boolean) Bd.returns (by simp) (hb hby at_149) hr
    · show Q0 n0 _ T39.heap _
      exact ⟨rfl, N39⟩
  · obtain ⟨fs, hr, hrun, hended, hW, hsame⟩ := X39.leave (v := some (.int (1 : Int32))) (fun h => by rw [Bd.returns] at h; cases h)
    refine ⟨_, _, pre0 _ (R5 _ (R6 _ (R15 _ (R40 _ ?_)))), hrun, hended, _, _, rfl, ?_, ⟨_, rfl⟩, hW, hsame.mono (by decide) (by decide)⟩
    · show Steps p.tables e below (T39.setTop (mkF m 111 #[.val (.long px), .second, .val (.long py), .second, .val (.int pf), .val (.ref b1), .val (.ref b3), .val (.int (if (lcmpW t_b1 t_b3) = (0 : Int32) then 1 else 0)), .val (.int (if (lcmpW t_b3 t_b1) = (0 : Int32) then 1 else 0)), .val (.int (if (lcmpW t_b1 t_b1) = (0 : Int32) then 1 else 0)), .val (.int (0 : Int32)), .val (.int (0 : Int32)), .val (.long t_b1), .second, .val (.long t_b3), .second] [(.int (lcmpW t_b1 t_b3)), (.int (if (lcmpW t_b1 t_b3) = (0 : Int32) then 1 else 0))])) _
      refine XS.ifYes X39.here hx rfl (pc0 := 111) (pc' := 118) rfl (hb hby at_111) rfl ((if0 _ _).trans (feq hc111_41).2) (by decide) (by decide) ?_
      show Steps p.tables e below (T39.setTop (mkF m 118 #[.val (.long px), .second, .val (.long py), .second, .val (.int pf), .val (.ref b1), .val (.ref b3), .val (.int (if (lcmpW t_b1 t_b3) = (0 : Int32) then 1 else 0)), .val (.int (if (lcmpW t_b3 t_b1) = (0 : Int32) then 1 else 0)), .val (.int (if (lcmpW t_b1 t_b1) = (0 : Int32) then 1 else 0)), .val (.int (0 : Int32)), .val (.int (0 : Int32)), .val (.long t_b1), .second, .val (.long t_b3), .second] [(.int (if (lcmpW t_b1 t_b3) = (0 : Int32) then 1 else 0))])) _
      refine XS.iconst X39.here hx rfl (hb hby at_118) ?_
      show Steps p.tables e below (T39.setTop (mkF m 119 #[.val (.long px), .second, .val (.long py), .second, .val (.int pf), .val (.ref b1), .val (.ref b3), .val (.int (if (lcmpW t_b1 t_b3) = (0 : Int32) then 1 else 0)), .val (.int (if (lcmpW t_b3 t_b1) = (0 : Int32) then 1 else 0)), .val (.int (if (lcmpW t_b1 t_b1) = (0 : Int32) then 1 else 0)), .val (.int (0 : Int32)), .val (.int (0 : Int32)), .val (.long t_b1), .second, .val (.long t_b3), .second] [(.int (0 : Int32)), (.int (if (lcmpW t_b1 t_b3) = (0 : Int32) then 1 else 0))])) _
      refine XS.icmpNo X39.here hx rfl (hb hby at_119) rfl (teq (if_neg hc111_41)).2 ?_
      show Steps p.tables e below (T39.setTop (mkF m 122 #[.val (.long px), .second, .val (.long py), .second, .val (.int pf), .val (.ref b1), .val (.ref b3), .val (.int (if (lcmpW t_b1 t_b3) = (0 : Int32) then 1 else 0)), .val (.int (if (lcmpW t_b3 t_b1) = (0 : Int32) then 1 else 0)), .val (.int (if (lcmpW t_b1 t_b1) = (0 : Int32) then 1 else 0)), .val (.int (0 : Int32)), .val (.int (0 : Int32)), .val (.long t_b1), .second, .val (.long t_b3), .second] [])) _
      refine XS.iload X39.here hx rfl (hb hby at_122) rfl ?_
      show Steps p.tables e below (T39.setTop (mkF m 124 #[.val (.long px), .second, .val (.long py), .second, .val (.int pf), .val (.ref b1), .val (.ref b3), .val (.int (if (lcmpW t_b1 t_b3) = (0 : Int32) then 1 else 0)), .val (.int (if (lcmpW t_b3 t_b1) = (0 : Int32) then 1 else 0)), .val (.int (if (lcmpW t_b1 t_b1) = (0 : Int32) then 1 else 0)), .val (.int (0 : Int32)), .val (.int (0 : Int32)), .val (.long t_b1), .second, .val (.long t_b3), .second] [(.int (if (lcmpW t_b3 t_b1) = (0 : Int32) then 1 else 0))])) _
      refine XS.iload X39.here hx rfl (hb hby at_124) rfl ?_
      show Steps p.tables e below (T39.setTop (mkF m 126 #[.val (.long px), .second, .val (.long py), .second, .val (.int pf), .val (.ref b1), .val (.ref b3), .val (.int (if (lcmpW t_b1 t_b3) = (0 : Int32) then 1 else 0)), .val (.int (if (lcmpW t_b3 t_b1) = (0 : Int32) then 1 else 0)), .val (.int (if (lcmpW t_b1 t_b1) = (0 : Int32) then 1 else 0)), .val (.int (0 : Int32)), .val (.int (0 : Int32)), .val (.long t_b1), .second, .val (.long t_b3), .second] [(.int (if (lcmpW t_b1 t_b3) = (0 : Int32) then 1 else 0)), (.int (if (lcmpW t_b3 t_b1) = (0 : Int32) then 1 else 0))])) _
      refine XS.icmpNo X39.here hx rfl (hb hby at_126) rfl (teq (own_lc t_b3 t_b1)).2 ?_
      show Steps p.tables e below (T39.setTop (mkF m 129 #[.val (.long px), .second, .val (.long py), .second, .val (.int pf), .val (.ref b1), .val (.ref b3), .val (.int (if (lcmpW t_b1 t_b3) = (0 : Int32) then 1 else 0)), .val (.int (if (lcmpW t_b3 t_b1) = (0 : Int32) then 1 else 0)), .val (.int (if (lcmpW t_b1 t_b1) = (0 : Int32) then 1 else 0)), .val (.int (0 : Int32)), .val (.int (0 : Int32)), .val (.long t_b1), .second, .val (.long t_b3), .second] [])) _
      refine XS.iload X39.here hx rfl (hb hby at_129) rfl ?_
      show Steps p.tables e below (T39.setTop (mkF m 131 #[.val (.long px), .second, .val (.long py), .second, .val (.int pf), .val (.ref b1), .val (.ref b3), .val (.int (if (lcmpW t_b1 t_b3) = (0 : Int32) then 1 else 0)), .val (.int (if (lcmpW t_b3 t_b1) = (0 : Int32) then 1 else 0)), .val (.int (if (lcmpW t_b1 t_b1) = (0 : Int32) then 1 else 0)), .val (.int (0 : Int32)), .val (.int (0 : Int32)), .val (.long t_b1), .second, .val (.long t_b3), .second] [(.int (if (lcmpW t_b1 t_b1) = (0 : Int32) then 1 else 0))])) _
      refine XS.ifNo X39.here hx rfl (hb hby at_131) rfl ((if0 _ _).trans (feq (own_lc0 t_b1)).1) ?_
      show Steps p.tables e below (T39.setTop (mkF m 134 #[.val (.long px), .second, .val (.long py), .second, .val (.int pf), .val (.ref b1), .val (.ref b3), .val (.int (if (lcmpW t_b1 t_b3) = (0 : Int32) then 1 else 0)), .val (.int (if (lcmpW t_b3 t_b1) = (0 : Int32) then 1 else 0)), .val (.int (if (lcmpW t_b1 t_b1) = (0 : Int32) then 1 else 0)), .val (.int (0 : Int32)), .val (.int (0 : Int32)), .val (.long t_b1), .second, .val (.long t_b3), .second] [])) _
      refine XS.iload X39.here hx rfl (hb hby at_134) rfl ?_
      show Steps p.tables e below (T39.setTop (mkF m 136 #[.val (.long px), .second, .val (.long py), .second, .val (.int pf), .val (.ref b1), .val (.ref b3), .val (.int (if (lcmpW t_b1 t_b3) = (0 : Int32) then 1 else 0)), .val (.int (if (lcmpW t_b3 t_b1) = (0 : Int32) then 1 else 0)), .val (.int (if (lcmpW t_b1 t_b1) = (0 : Int32) then 1 else 0)), .val (.int (0 : Int32)), .val (.int (0 : Int32)), .val (.long t_b1), .second, .val (.long t_b3), .second] [(.int (0 : Int32))])) _
      refine XS.ifNo X39.here hx rfl (hb hby at_136) rfl ((if0 _ _).trans (teq (by decide : (0 : Int32) = (0 : Int32))).2) ?_
      show Steps p.tables e below (T39.setTop (mkF m 139 #[.val (.long px), .second, .val (.long py), .second, .val (.int pf), .val (.ref b1), .val (.ref b3), .val (.int (if (lcmpW t_b1 t_b3) = (0 : Int32) then 1 else 0)), .val (.int (if (lcmpW t_b3 t_b1) = (0 : Int32) then 1 else 0)), .val (.int (if (lcmpW t_b1 t_b1) = (0 : Int32) then 1 else 0)), .val (.int (0 : Int32)), .val (.int (0 : Int32)), .val (.long t_b1), .second, .val (.long t_b3), .second] [])) _
      refine XS.iload X39.here hx rfl (hb hby at_139) rfl ?_
      show Steps p.tables e below (T39.setTop (mkF m 141 #[.val (.long px), .second, .val (.long py), .second, .val (.int pf), .val (.ref b1), .val (.ref b3), .val (.int (if (lcmpW t_b1 t_b3) = (0 : Int32) then 1 else 0)), .val (.int (if (lcmpW t_b3 t_b1) = (0 : Int32) then 1 else 0)), .val (.int (if (lcmpW t_b1 t_b1) = (0 : Int32) then 1 else 0)), .val (.int (0 : Int32)), .val (.int (0 : Int32)), .val (.long t_b1), .second, .val (.long t_b3), .second] [(.int (0 : Int32))])) _
      refine XS.ifNo X39.here hx rfl (hb hby at_141) rfl ((if0 _ _).trans (teq (by decide : (0 : Int32) = (0 : Int32))).2) ?_
      show Steps p.tables e below (T39.setTop (mkF m 144 #[.val (.long px), .second, .val (.long py), .second, .val (.int pf), .val (.ref b1), .val (.ref b3), .val (.int (if (lcmpW t_b1 t_b3) = (0 : Int32) then 1 else 0)), .val (.int (if (lcmpW t_b3 t_b1) = (0 : Int32) then 1 else 0)), .val (.int (if (lcmpW t_b1 t_b1) = (0 : Int32) then 1 else 0)), .val (.int (0 : Int32)), .val (.int (0 : Int32)), .val (.long t_b1), .second, .val (.long t_b3), .second] [])) _
      refine XS.iconst X39.here hx rfl (hb hby at_144) ?_
      show Steps p.tables e below (T39.setTop (mkF m 145 #[.val (.long px), .second, .val (.long py), .second, .val (.int pf), .val (.ref b1), .val (.ref b3), .val (.int (if (lcmpW t_b1 t_b3) = (0 : Int32) then 1 else 0)), .val (.int (if (lcmpW t_b3 t_b1) = (0 : Int32) then 1 else 0)), .val (.int (if (lcmpW t_b1 t_b1) = (0 : Int32) then 1 else 0)), .val (.int (0 : Int32)), .val (.int (0 : Int32)), .val (.long t_b1), .second, .val (.long t_b3), .second] [(.int (1 : Int32))])) _
      refine XS.goto X39.here hx rfl (pc0 := 145) (pc' := 149) rfl (hb hby at_145) (by decide) (by decide) ?_
      show Steps p.tables e below (T39.setTop (mkF m 149 #[.val (.long px), .second, .val (.long py), .second, .val (.int pf), .val (.ref b1), .val (.ref b3), .val (.int (if (lcmpW t_b1 t_b3) = (0 : Int32) then 1 else 0)), .val (.int (if (lcmpW t_b3 t_b1) = (0 : Int32) then 1 else 0)), .val (.int (if (lcmpW t_b1 t_b1) = (0 : Int32) then 1 else 0)), .val (.int (0 : Int32)), .val (.int (0 : Int32)), .val (.long t_b1), .second, .val (.long t_b3), .second] [(.int (1 : Int32))])) _
      exact retN X39 hx (t := .boolean) Bd.returns (by simp) (hb hby at_149) hr
    · show Q0 n0 _ T39.heap _
      exact ⟨rfl, N39⟩
set_option maxRecDepth 65536 in
set_option maxHeartbeats 40000000 in
theorem comes_1 {Post : Tables → Env → Array Value → State → Outcome → State → Prop} (hpost : ∀ tb e args s v u, (limb_1_1.after args s (.returned v) u = true ∧ limb_1_2.after args s (.returned v) u = true ∧ True) → FrameEnd s (.returned v) u (Jvm.fieldLocs frame_1_writes args s ++ Jvm.arrayLocs frame_1_arrays args s ++ Jvm.staticLocs frame_1_statics s) 16 128 → Post tb e args s (.returned v) u) :
    ArmFor flags0 classFile x code maxLocals ret World_1 tables_1 room_1 Calls_1 rest_1 Pre_1 Post := by
  intro l hfl _ _ p e ha hc hk s m args below hf hA hF happ hP
  obtain ⟨hcalls, hrest, hpre⟩ := hP
  obtain ⟨-, -, -, hnamed, -, -, -, hat⟩ := (Spec.applies_iff hf).mp happ
  obtain ⟨hg, hn⟩ := and_e (Cond.before_iff.mp (show (Jvm.Cond.and given_1 narrow_1).before args s = true from hpre))
  obtain ⟨g1a, g1b⟩ := and_e hg
  obtain ⟨g2a, g2b⟩ := and_e g1b
  obtain ⟨g3a, g3b⟩ := and_e g2b
  obtain ⟨w0, w1, w2, rfl⟩ : ∃ w0 w1 w2 : Value, args = #[w0, w1, w2] := by
    have hs : args.size = 3 := by simpa [Cond.value, given_1] using g1a
    obtain ⟨L⟩ := args
    match L, hs with
    | [w0, w1, w2], _ => exact ⟨w0, w1, w2, rfl⟩
  have hw := fun d (hd : d ∈ tables_1) => atoms_spec (ws := Jvm.Cond.code x code maxLocals ret :: tables_1) hat d (List.mem_cons_of_mem _ hd)
  have hfit : Fit s := fun {y c} hc i hi => by
    obtain ⟨ha, rfl⟩ := Array.getElem?_eq_some_iff.mp hc
    have q := List.all_eq_true.mp ((Array.all_eq_true_iff_forall_mem.mp hF) _ (Array.getElem_mem ha)) i (List.mem_range.mpr hi)
    simpa [Array.getElem?_eq_getElem hi] using q
  obtain ⟨hsets, hown0⟩ := atoms_of _ (rest_1_c_eq ▸ (show rest_1_c.before _ s = true from hrest))
  have hr0 := Cond.before_iff.mp hown0
  obtain ⟨i0, ei0⟩ := isL_v g2a
  obtain rfl : w0 = (.long i0) := Option.some.inj ei0
  obtain ⟨i1, ei1⟩ := isL_v g3a
  obtain rfl : w1 = (.long i1) := Option.some.inj ei1
  obtain ⟨i2, ei2⟩ := is_v g3b
  obtain rfl : w2 = (.int i2) := Option.some.inj ei2
  obtain ⟨ca, eca⟩ := arr_v (Cond.before_iff.mp (hsets _ (List.mem_of_getElem? (i := 2) rfl)))
  have hS1 := Sta.start eca (Or.inl (hsets _ (List.mem_of_getElem? (i := 1) rfl)))
  obtain ⟨cc, hA1⟩ := Arr.start eca (Cond.before_iff.mp (hsets _ (List.mem_of_getElem? (i := 2) rfl)))
  have hB1 := own_bxs (fun idx => eca) hA1 (hsets _ (List.mem_of_getElem? (i := 4) rfl)) (hsets _ (List.mem_of_getElem? (i := 5) rfl))
  obtain ⟨n, o, h1, h2, h3, _, L, rfl, ⟨rfl, N⟩, hq⟩ := rm0 l s _ hw tables_1 i0 i1 i2 ca cc _ s.heap s.heap.size (Nat.le_refl _) (Old.start s) hS1 hB1 p e ha hc hk s m _ below hf ((Spec.applies_iff_loose hf).mp happ).1 ⟨rfl, State.Warmed39.refl s, rfl⟩ trivial
  refine ⟨n, _, h1, h2, h3, hpost _ _ _ _ _ _ ⟨Cond.after_iff.mpr rfl, Cond.after_iff.mpr (eq_i res_at (Term.int_eval (1)) rfl), trivial⟩ ⟨hq.1, hq.2.1, (hq.2.2.sift fun y hy => Or.inr (N y hy)).mono (by decide) (by decide)⟩⟩
theorem main_1_1 : Claimed_1_1 := comes_1 fun _ _ _ _ _ _ h hF => ⟨h.1, hF⟩
theorem main_1_2 : Claimed_1_2 := comes_1 fun _ _ _ _ _ _ h hF => ⟨h.2.1, hF⟩
end Jvm.Pilot.@@N@@
namespace Jvm.Pilot.@@N@@
open Jvm Jvm.ClassFile Sem Op Lib Jvm.Free Jvm.Stand Jvm.Pilot.@@N@@.Jvm.D
/-! MADE BY PROGRAM (witnessworld.py) out of the Statement's table words and the real class files: 17 classes; the members and pool entries that the words name. The judged class is class 1, her method 1. -/
namespace start1
open Jvm.ClassFile
def u (s : String) : CpInfo := .utf8 (stringToUtf16 s)
/-- a pool by its gaps: so many unusable entries, then the entry; so many at the end -/
def gap : Nat → List CpInfo → List CpInfo
  | 0, r => r
  | n + 1, r => .unusable :: gap n r
def poolList (es : List (Nat × CpInfo)) (last : Nat) : List CpInfo := es.foldr (fun e r => gap e.1 (e.2 :: r)) (gap last [])
def pool (es : List (Nat × CpInfo)) (last : Nat) : Array CpInfo := ⟨poolList es last⟩
def fileOf (pool : Array CpInfo) (this : Nat) (attrs : Array Attribute := #[]) (ms : Array MethodInfo := #[]) (fl : Nat := 33) (sup : Nat := 0) (ifs : Array Nat := #[]) (fds : Array FieldInfo := #[]) : ClassFile where
  minorVersion := 0
  majorVersion := 65
  constantPool := pool
  accessFlags := fl
  thisClass := this
  superClass := sup
  interfaces := ifs
  fields := fds
  methods := ms
  attributes := attrs
def plain (name : String) (sup : Option ClassId) : Class where
  name := name
  kind := .ordinary
  loader := none
  accessFlags := 33
  super := sup
  interfaces := #[]
  cf := none
  fields := #[]
  methods := #[]
  instanceTypes := #[]
  staticTypes := #[]
  resolved := #[]
  callSites := []
  init := .initialized
  statics := none
  mirror := none

def pool0 : Array CpInfo := pool [(5, u "<init>"), (0, u "()V"), (1, .class_ 10), (1, u "java/lang/Object")] 113

def k0c0 : Code := { maxStack := 0, maxLocals := 1, code := object_method_1_code, exceptionTable := #[], attributes := #[] }
def k0m0 : Method := { name := "<init>", desc := "()V", sig := { parameters := [], returnType := none }, accessFlags := 1, code := some k0c0 }
/-- java/lang/Object -/
def k0 : Class := { plain "java/lang/Object" none with
  accessFlags := 33
  interfaces := #[]
  cf := some (fileOf pool0 8 #[] #[{ accessFlags := 1, nameIndex := 5, descriptorIndex := 6, attributes := #[] }] 33 0 #[] #[])
  fields := #[]
  methods := #[k0m0]
  instanceTypes := #[]
  staticTypes := #[]
  resolved := Array.replicate 124 none
  statics := none }

def pool1 : Array CpInfo := pool [(2, .class_ 4), (0, .nameAndType 5 6), (0, u "java/lang/Object"), (0, u "<init>"), (0, u "()V"), (0, .class_ 8), (0, u "com/example/durchlass/durchlass/algorithm/LamportClock"), (0, .methodref 7 3), (0, .methodref 7 11), (0, .nameAndType 12 13), (0, u "receive"), (0, u "(J)V"), (0, .methodref 7 15), (0, .nameAndType 16 17), (0, u "equals"), (0, u "(Ljava/lang/Object;)Z"), (0, .methodref 19 20), (0, .class_ 21), (0, .nameAndType 22 23), (0, u "java/lang/Long"), (0, u "valueOf"), (0, u "(J)Ljava/lang/Long;"), (0, .methodref 7 25), (0, .nameAndType 26 27), (0, u "send"), (0, u "()J"), (0, .class_ 29), (0, u "com/example/durchlass/durchlass/algorithm/LamportClockEqualsPinLaw"), (2, u "law"), (0, u "(JJI)Z")] 3

def k1m0 : Method := { name := "<init>", desc := "()V", sig := { parameters := [], returnType := none }, accessFlags := 1, code := none }
def k1c1 : Code := { maxStack := 5, maxLocals := 16, code := code, exceptionTable := #[], attributes := #[] }
def k1m1 : Method := { name := "law", desc := "(JJI)Z", sig := { parameters := [.long, .long, .int], returnType := some .boolean }, accessFlags := 9, code := some k1c1 }
/-- com/example/durchlass/durchlass/algorithm/LamportClockEqualsPinLaw -/
def k1 : Class := { plain "com/example/durchlass/durchlass/algorithm/LamportClockEqualsPinLaw" (some 0) with
  accessFlags := 49
  interfaces := #[]
  cf := some (fileOf pool1 28 #[] #[{ accessFlags := 1, nameIndex := 5, descriptorIndex := 6, attributes := #[] }, { accessFlags := 9, nameIndex := 32, descriptorIndex := 33, attributes := #[] }] 49 2 #[] #[])
  fields := #[]
  methods := #[k1m0, k1m1]
  instanceTypes := #[]
  staticTypes := #[]
  resolved := Array.replicate 37 none
  statics := none }

def pool2 : Array CpInfo := pool [(1, .methodref 2 3), (0, .class_ 4), (0, .nameAndType 5 6), (0, u "java/lang/Object"), (0, u "<init>"), (0, u "()V"), (0, .fieldref 8 9), (0, .class_ 10), (0, .nameAndType 11 12), (0, u "com/example/durchlass/durchlass/algorithm/LamportClock"), (0, u "time"), (0, u "J"), (0, .methodref 14 15), (0, .class_ 16), (0, .nameAndType 17 18), (0, u "java/lang/Math"), (0, u "max"), (0, u "(JJ)J"), (9, u "send"), (0, u "()J"), (0, u "receive"), (0, u "(J)V"), (0, u "equals"), (0, u "(Ljava/lang/Object;)Z")] 4

def k2c0 : Code := { maxStack := 1, maxLocals := 1, code := prog_16_method_1_code, exceptionTable := #[], attributes := #[] }
def k2m0 : Method := { name := "<init>", desc := "()V", sig := { parameters := [], returnType := none }, accessFlags := 0, code := some k2c0 }
def k2c1 : Code := { maxStack := 5, maxLocals := 3, code := prog_16_method_3_code, exceptionTable := #[], attributes := #[] }
def k2m1 : Method := { name := "send", desc := "()J", sig := { parameters := [], returnType := some .long }, accessFlags := 0, code := some k2c1 }
def k2c2 : Code := { maxStack := 5, maxLocals := 3, code := prog_16_method_4_code, exceptionTable := #[], attributes := #[] }
def k2m2 : Method := { name := "receive", desc := "(J)V", sig := { parameters := [.long], returnType := none }, accessFlags := 0, code := some k2c2 }
def k2c3 : Code := { maxStack := 4, maxLocals := 3, code := prog_16_method_5_code, exceptionTable := #[], attributes := #[] }
def k2m3 : Method := { name := "equals", desc := "(Ljava/lang/Object;)Z", sig := { parameters := [(.object "java/lang/Object")], returnType := some .boolean }, accessFlags := 1, code := some k2c3 }
/-- com/example/durchlass/durchlass/algorithm/LamportClock -/
def k2 : Class := { plain "com/example/durchlass/durchlass/algorithm/LamportClock" (some 0) with
  accessFlags := 48
  interfaces := #[]
  cf := some (fileOf pool2 8 #[] #[{ accessFlags := 0, nameIndex := 5, descriptorIndex := 6, attributes := #[] }, { accessFlags := 0, nameIndex := 28, descriptorIndex := 29, attributes := #[] }, { accessFlags := 0, nameIndex := 30, descriptorIndex := 31, attributes := #[] }, { accessFlags := 1, nameIndex := 32, descriptorIndex := 33, attributes := #[] }] 48 2 #[] #[{ accessFlags := 2, nameIndex := 11, descriptorIndex := 12, attributes := #[] }])
  fields := #[{ name := "time", type := .long, accessFlags := 2, slot := 0, constantValue := 0 }]
  methods := #[k2m0, k2m1, k2m2, k2m3]
  instanceTypes := #[.long]
  staticTypes := #[]
  resolved := Array.replicate 38 none
  statics := none }

def pool3 : Array CpInfo := pool [(1, .class_ 2), (0, u "java/io/Serializable"), (0, .class_ 4), (0, u "java/lang/Object")] 2

/-- java/io/Serializable -/
def k3 : Class := { plain "java/io/Serializable" (some 0) with
  accessFlags := 1537
  interfaces := #[]
  cf := some (fileOf pool3 1 #[] #[] 1537 3 #[] #[])
  fields := #[]
  methods := #[]
  instanceTypes := #[]
  staticTypes := #[]
  resolved := Array.replicate 7 none
  statics := none }

def pool4 : Array CpInfo := pool [(1, .methodref 2 3), (0, .class_ 4), (0, .nameAndType 5 6), (0, u "java/lang/Object"), (0, u "<init>"), (0, u "()V"), (1, .class_ 10), (1, u "java/lang/Number"), (2, .class_ 14), (0, u "java/io/Serializable"), (0, u "serialVersionUID"), (0, u "J")] 20

def k4c0 : Code := { maxStack := 1, maxLocals := 1, code := jdk_18_method_1_code, exceptionTable := #[], attributes := #[] }
def k4m0 : Method := { name := "<init>", desc := "()V", sig := { parameters := [], returnType := none }, accessFlags := 1, code := some k4c0 }
/-- java/lang/Number -/
def k4 : Class := { plain "java/lang/Number" (some 0) with
  accessFlags := 1057
  interfaces := #[3]
  cf := some (fileOf pool4 8 #[] #[{ accessFlags := 1, nameIndex := 5, descriptorIndex := 6, attributes := #[] }] 1057 2 #[13] #[{ accessFlags := 26, nameIndex := 15, descriptorIndex := 16, attributes := #[] }])
  fields := #[{ name := "serialVersionUID", type := .long, accessFlags := 26, slot := 0, constantValue := 0 }]
  methods := #[k4m0]
  instanceTypes := #[]
  staticTypes := #[.long]
  resolved := Array.replicate 37 none
  statics := none }

def pool5 : Array CpInfo := pool [(1, .class_ 2), (0, u "java/lang/Comparable"), (0, .class_ 4), (0, u "java/lang/Object")] 7

/-- java/lang/Comparable -/
def k5 : Class := { plain "java/lang/Comparable" (some 0) with
  accessFlags := 1537
  interfaces := #[]
  cf := some (fileOf pool5 1 #[] #[] 1537 3 #[] #[])
  fields := #[]
  methods := #[]
  instanceTypes := #[]
  staticTypes := #[]
  resolved := Array.replicate 12 none
  statics := none }

def pool6 : Array CpInfo := pool [(1, .class_ 2), (0, u "java/lang/constant/Constable"), (0, .class_ 4), (0, u "java/lang/Object")] 6

/-- java/lang/constant/Constable -/
def k6 : Class := { plain "java/lang/constant/Constable" (some 0) with
  accessFlags := 1537
  interfaces := #[]
  cf := some (fileOf pool6 1 #[] #[] 1537 3 #[] #[])
  fields := #[]
  methods := #[]
  instanceTypes := #[]
  staticTypes := #[]
  resolved := Array.replicate 11 none
  statics := none }

def pool7 : Array CpInfo := pool [(1, .class_ 2), (0, u "java/lang/constant/ConstantDesc"), (0, .class_ 4), (0, u "java/lang/Object")] 32

/-- java/lang/constant/ConstantDesc -/
def k7 : Class := { plain "java/lang/constant/ConstantDesc" (some 0) with
  accessFlags := 1537
  interfaces := #[]
  cf := some (fileOf pool7 1 #[] #[] 1537 3 #[] #[])
  fields := #[]
  methods := #[]
  instanceTypes := #[]
  staticTypes := #[]
  resolved := Array.replicate 37 none
  statics := none }

def pool8 : Array CpInfo := pool [(1, .class_ 2), (0, u "java/lang/Long"), (55, .nameAndType 59 60), (0, u "<init>"), (0, u "()V"), (24, u "valueOf"), (143, u "(J)Ljava/lang/Long;"), (0, .long 18446744073709551488), (1, .long 127), (1, .fieldref 235 236), (0, .class_ 237), (0, .nameAndType 238 239), (0, u "java/lang/Long$LongCache"), (0, u "cache"), (0, u "[Ljava/lang/Long;"), (0, .methodref 1 241), (0, .nameAndType 59 242), (0, u "(J)V"), (27, .methodref 271 58), (0, .class_ 272), (0, u "java/lang/Number"), (0, .fieldref 1 274), (0, .nameAndType 275 276), (0, u "value"), (0, u "J"), (84, u "TYPE"), (0, u "Ljava/lang/Class;"), (0, .class_ 364), (0, u "java/lang/Comparable"), (0, .class_ 366), (0, u "java/lang/constant/Constable"), (0, .class_ 368), (0, u "java/lang/constant/ConstantDesc"), (0, u "MIN_VALUE"), (1, u "MAX_VALUE"), (4, u "SIZE"), (0, u "I"), (1, u "BYTES"), (1, u "serialVersionUID")] 142

def k8c0 : Code := { maxStack := 4, maxLocals := 3, code := jdk_35_method_24_code, exceptionTable := #[], attributes := #[] }
def k8m0 : Method := { name := "valueOf", desc := "(J)Ljava/lang/Long;", sig := { parameters := [.long], returnType := some (.object "java/lang/Long") }, accessFlags := 9, code := some k8c0 }
def k8c1 : Code := { maxStack := 3, maxLocals := 3, code := jdk_35_method_26_code, exceptionTable := #[], attributes := #[] }
def k8m1 : Method := { name := "<init>", desc := "(J)V", sig := { parameters := [.long], returnType := none }, accessFlags := 1, code := some k8c1 }
/-- java/lang/Long -/
def k8 : Class := { plain "java/lang/Long" (some 4) with
  accessFlags := 49
  interfaces := #[5, 6, 7]
  cf := some (fileOf pool8 1 #[.nestMembers #[235]] #[{ accessFlags := 9, nameIndex := 85, descriptorIndex := 229, attributes := #[] }, { accessFlags := 1, nameIndex := 59, descriptorIndex := 242, attributes := #[] }] 49 271 #[363, 365, 367] #[{ accessFlags := 25, nameIndex := 369, descriptorIndex := 276, attributes := #[] }, { accessFlags := 25, nameIndex := 371, descriptorIndex := 276, attributes := #[] }, { accessFlags := 25, nameIndex := 361, descriptorIndex := 362, attributes := #[] }, { accessFlags := 18, nameIndex := 275, descriptorIndex := 276, attributes := #[] }, { accessFlags := 25, nameIndex := 376, descriptorIndex := 377, attributes := #[] }, { accessFlags := 25, nameIndex := 379, descriptorIndex := 377, attributes := #[] }, { accessFlags := 26, nameIndex := 381, descriptorIndex := 276, attributes := #[] }])
  fields := #[{ name := "MIN_VALUE", type := .long, accessFlags := 25, slot := 0, constantValue := 0 }, { name := "MAX_VALUE", type := .long, accessFlags := 25, slot := 1, constantValue := 0 }, { name := "TYPE", type := (.object "java/lang/Class"), accessFlags := 25, slot := 2, constantValue := 0 }, { name := "value", type := .long, accessFlags := 18, slot := 0, constantValue := 0 }, { name := "SIZE", type := .int, accessFlags := 25, slot := 3, constantValue := 0 }, { name := "BYTES", type := .int, accessFlags := 25, slot := 4, constantValue := 0 }, { name := "serialVersionUID", type := .long, accessFlags := 26, slot := 5, constantValue := 0 }]
  methods := #[k8m0, k8m1]
  instanceTypes := #[.long]
  staticTypes := #[.long, .long, (.object "java/lang/Class"), .int, .int, .long]
  resolved := Array.replicate 524 none
  statics := none }

def pool9 : Array CpInfo := pool [(2, .class_ 4), (1, u "java/lang/Object"), (0, u "<init>"), (0, u "()V"), (0, .class_ 8), (0, u "java/lang/Long"), (7, .class_ 18), (1, u "java/lang/Long$LongCache"), (0, u "$assertionsDisabled"), (0, u "Z"), (8, u "archivedCache"), (0, u "[Ljava/lang/Long;"), (7, u "cache")] 24

def k9m0 : Method := { name := "<init>", desc := "()V", sig := { parameters := [], returnType := none }, accessFlags := 2, code := none }
/-- java/lang/Long$LongCache -/
def k9 : Class := { plain "java/lang/Long$LongCache" (some 0) with
  accessFlags := 48
  interfaces := #[]
  cf := some (fileOf pool9 16 #[.nestHost 7] #[{ accessFlags := 2, nameIndex := 5, descriptorIndex := 6, attributes := #[] }] 48 2 #[] #[{ accessFlags := 24, nameIndex := 38, descriptorIndex := 30, attributes := #[] }, { accessFlags := 8, nameIndex := 29, descriptorIndex := 30, attributes := #[] }, { accessFlags := 4120, nameIndex := 19, descriptorIndex := 20, attributes := #[] }])
  fields := #[{ name := "cache", type := (.array (.object "java/lang/Long")), accessFlags := 24, slot := 0, constantValue := 0 }, { name := "archivedCache", type := (.array (.object "java/lang/Long")), accessFlags := 8, slot := 1, constantValue := 0 }, { name := "$assertionsDisabled", type := .boolean, accessFlags := 4120, slot := 2, constantValue := 0 }]
  methods := #[k9m0]
  instanceTypes := #[]
  staticTypes := #[(.array (.object "java/lang/Long")), (.array (.object "java/lang/Long")), .boolean]
  resolved := Array.replicate 63 none
  statics := some 0 }

def pool10 : Array CpInfo := pool [(1, .class_ 2), (0, u "java/lang/Math"), (1, .class_ 6), (1, u "java/lang/Object"), (0, u "<init>"), (0, u "()V"), (89, .class_ 100), (1, u "java/lang/Math$RandomNumberGeneratorHolder"), (20, u "(JJ)J"), (50, u "negativeZeroFloatBits"), (0, u "J"), (2, u "negativeZeroDoubleBits"), (21, u "max"), (46, u "$assertionsDisabled"), (0, u "Z"), (91, u "twoToTheDoubleScaleDown"), (0, u "D"), (4, u "twoToTheDoubleScaleUp"), (9, u "E"), (3, u "PI"), (2, u "TAU"), (2, u "DEGREES_TO_RADIANS"), (0, u "RADIANS_TO_DEGREES")] 94

def k10m0 : Method := { name := "<init>", desc := "()V", sig := { parameters := [], returnType := none }, accessFlags := 2, code := none }
def k10c1 : Code := { maxStack := 4, maxLocals := 4, code := jdk_29_method_66_code, exceptionTable := #[], attributes := #[] }
def k10m1 : Method := { name := "max", desc := "(JJ)J", sig := { parameters := [.long, .long], returnType := some .long }, accessFlags := 9, code := some k10c1 }
/-- java/lang/Math -/
def k10 : Class := { plain "java/lang/Math" (some 0) with
  accessFlags := 49
  interfaces := #[]
  cf := some (fileOf pool10 1 #[.nestMembers #[98]] #[{ accessFlags := 2, nameIndex := 7, descriptorIndex := 8, attributes := #[] }, { accessFlags := 9, nameIndex := 198, descriptorIndex := 121, attributes := #[] }] 49 4 #[] #[{ accessFlags := 25, nameIndex := 354, descriptorIndex := 339, attributes := #[] }, { accessFlags := 25, nameIndex := 358, descriptorIndex := 339, attributes := #[] }, { accessFlags := 25, nameIndex := 361, descriptorIndex := 339, attributes := #[] }, { accessFlags := 26, nameIndex := 364, descriptorIndex := 339, attributes := #[] }, { accessFlags := 26, nameIndex := 365, descriptorIndex := 339, attributes := #[] }, { accessFlags := 26, nameIndex := 172, descriptorIndex := 173, attributes := #[] }, { accessFlags := 26, nameIndex := 176, descriptorIndex := 173, attributes := #[] }, { accessFlags := 8, nameIndex := 344, descriptorIndex := 339, attributes := #[] }, { accessFlags := 8, nameIndex := 338, descriptorIndex := 339, attributes := #[] }, { accessFlags := 4120, nameIndex := 245, descriptorIndex := 246, attributes := #[] }])
  fields := #[{ name := "E", type := .double, accessFlags := 25, slot := 0, constantValue := 0 }, { name := "PI", type := .double, accessFlags := 25, slot := 1, constantValue := 0 }, { name := "TAU", type := .double, accessFlags := 25, slot := 2, constantValue := 0 }, { name := "DEGREES_TO_RADIANS", type := .double, accessFlags := 26, slot := 3, constantValue := 0 }, { name := "RADIANS_TO_DEGREES", type := .double, accessFlags := 26, slot := 4, constantValue := 0 }, { name := "negativeZeroFloatBits", type := .long, accessFlags := 26, slot := 5, constantValue := 0 }, { name := "negativeZeroDoubleBits", type := .long, accessFlags := 26, slot := 6, constantValue := 0 }, { name := "twoToTheDoubleScaleUp", type := .double, accessFlags := 8, slot := 7, constantValue := 0 }, { name := "twoToTheDoubleScaleDown", type := .double, accessFlags := 8, slot := 8, constantValue := 0 }, { name := "$assertionsDisabled", type := .boolean, accessFlags := 4120, slot := 9, constantValue := 0 }]
  methods := #[k10m0, k10m1]
  instanceTypes := #[]
  staticTypes := #[.double, .double, .double, .double, .double, .long, .long, .double, .double, .boolean]
  resolved := Array.replicate 460 none
  statics := none }

def pool11 : Array CpInfo := pool [(1, u "java/lang/Cloneable"), (0, .class_ 1), (0, u "java/lang/Object"), (0, .class_ 3)] 3

/-- java/lang/Cloneable -/
def k11 : Class := { plain "java/lang/Cloneable" (some 0) with
  accessFlags := 1537
  interfaces := #[]
  cf := some (fileOf pool11 2 #[] #[] 1537 4 #[] #[])
  fields := #[]
  methods := #[]
  instanceTypes := #[]
  staticTypes := #[]
  resolved := Array.replicate 8 none
  statics := none }

/-- the primitive byte -/
def k12 : Class := { plain "byte" none with kind := .primitive 'B', accessFlags := 0x411 }
/-- [B -/
def k13 : Class := { plain "[B" (some 0) with kind := .array 12 .byte, interfaces := #[11, 3], accessFlags := 1041 }

/-- the primitive int -/
def k14 : Class := { plain "int" none with kind := .primitive 'I', accessFlags := 0x411 }
/-- [I -/
def k15 : Class := { plain "[I" (some 0) with kind := .array 14 .int, interfaces := #[11, 3], accessFlags := 1041 }

/-- [Ljava/lang/Long; -/
def k16 : Class := { plain "[Ljava/lang/Long;" (some 0) with kind := .array 8 (.object "java/lang/Long"), interfaces := #[11, 3], accessFlags := 1041 }

def heap : Heap := #[{ cls := 9, slots := #[.ref 1, .null, .int 0], vm := .statics 9 },
  { cls := 16, slots := #[.ref 2, .ref 3, .ref 4, .ref 5, .ref 6, .ref 7, .ref 8, .ref 9, .ref 10, .ref 11, .ref 12, .ref 13, .ref 14, .ref 15, .ref 16, .ref 17, .ref 18, .ref 19, .ref 20, .ref 21, .ref 22, .ref 23, .ref 24, .ref 25, .ref 26, .ref 27, .ref 28, .ref 29, .ref 30, .ref 31, .ref 32, .ref 33, .ref 34, .ref 35, .ref 36, .ref 37, .ref 38, .ref 39, .ref 40, .ref 41, .ref 42, .ref 43, .ref 44, .ref 45, .ref 46, .ref 47, .ref 48, .ref 49, .ref 50, .ref 51, .ref 52, .ref 53, .ref 54, .ref 55, .ref 56, .ref 57, .ref 58, .ref 59, .ref 60, .ref 61, .ref 62, .ref 63, .ref 64, .ref 65, .ref 66, .ref 67, .ref 68, .ref 69, .ref 70, .ref 71, .ref 72, .ref 73, .ref 74, .ref 75, .ref 76, .ref 77, .ref 78, .ref 79, .ref 80, .ref 81, .ref 82, .ref 83, .ref 84, .ref 85, .ref 86, .ref 87, .ref 88, .ref 89, .ref 90, .ref 91, .ref 92, .ref 93, .ref 94, .ref 95, .ref 96, .ref 97, .ref 98, .ref 99, .ref 100, .ref 101, .ref 102, .ref 103, .ref 104, .ref 105, .ref 106, .ref 107, .ref 108, .ref 109, .ref 110, .ref 111, .ref 112, .ref 113, .ref 114, .ref 115, .ref 116, .ref 117, .ref 118, .ref 119, .ref 120, .ref 121, .ref 122, .ref 123, .ref 124, .ref 125, .ref 126, .ref 127, .ref 128, .ref 129, .ref 130, .ref 131, .ref 132, .ref 133, .ref 134, .ref 135, .ref 136, .ref 137, .ref 138, .ref 139, .ref 140, .ref 141, .ref 142, .ref 143, .ref 144, .ref 145, .ref 146, .ref 147, .ref 148, .ref 149, .ref 150, .ref 151, .ref 152, .ref 153, .ref 154, .ref 155, .ref 156, .ref 157, .ref 158, .ref 159, .ref 160, .ref 161, .ref 162, .ref 163, .ref 164, .ref 165, .ref 166, .ref 167, .ref 168, .ref 169, .ref 170, .ref 171, .ref 172, .ref 173, .ref 174, .ref 175, .ref 176, .ref 177, .ref 178, .ref 179, .ref 180, .ref 181, .ref 182, .ref 183, .ref 184, .ref 185, .ref 186, .ref 187, .ref 188, .ref 189, .ref 190, .ref 191, .ref 192, .ref 193, .ref 194, .ref 195, .ref 196, .ref 197, .ref 198, .ref 199, .ref 200, .ref 201, .ref 202, .ref 203, .ref 204, .ref 205, .ref 206, .ref 207, .ref 208, .ref 209, .ref 210, .ref 211, .ref 212, .ref 213, .ref 214, .ref 215, .ref 216, .ref 217, .ref 218, .ref 219, .ref 220, .ref 221, .ref 222, .ref 223, .ref 224, .ref 225, .ref 226, .ref 227, .ref 228, .ref 229, .ref 230, .ref 231, .ref 232, .ref 233, .ref 234, .ref 235, .ref 236, .ref 237, .ref 238, .ref 239, .ref 240, .ref 241, .ref 242, .ref 243, .ref 244, .ref 245, .ref 246, .ref 247, .ref 248, .ref 249, .ref 250, .ref 251, .ref 252, .ref 253, .ref 254, .ref 255, .ref 256, .ref 257], vm := .none },
  { cls := 8, slots := #[.long (-128)], vm := .none },
  { cls := 8, slots := #[.long (-127)], vm := .none },
  { cls := 8, slots := #[.long (-126)], vm := .none },
  { cls := 8, slots := #[.long (-125)], vm := .none },
  { cls := 8, slots := #[.long (-124)], vm := .none },
  { cls := 8, slots := #[.long (-123)], vm := .none },
  { cls := 8, slots := #[.long (-122)], vm := .none },
  { cls := 8, slots := #[.long (-121)], vm := .none },
  { cls := 8, slots := #[.long (-120)], vm := .none },
  { cls := 8, slots := #[.long (-119)], vm := .none },
  { cls := 8, slots := #[.long (-118)], vm := .none },
  { cls := 8, slots := #[.long (-117)], vm := .none },
  { cls := 8, slots := #[.long (-116)], vm := .none },
  { cls := 8, slots := #[.long (-115)], vm := .none },
  { cls := 8, slots := #[.long (-114)], vm := .none },
  { cls := 8, slots := #[.long (-113)], vm := .none },
  { cls := 8, slots := #[.long (-112)], vm := .none },
  { cls := 8, slots := #[.long (-111)], vm := .none },
  { cls := 8, slots := #[.long (-110)], vm := .none },
  { cls := 8, slots := #[.long (-109)], vm := .none },
  { cls := 8, slots := #[.long (-108)], vm := .none },
  { cls := 8, slots := #[.long (-107)], vm := .none },
  { cls := 8, slots := #[.long (-106)], vm := .none },
  { cls := 8, slots := #[.long (-105)], vm := .none },
  { cls := 8, slots := #[.long (-104)], vm := .none },
  { cls := 8, slots := #[.long (-103)], vm := .none },
  { cls := 8, slots := #[.long (-102)], vm := .none },
  { cls := 8, slots := #[.long (-101)], vm := .none },
  { cls := 8, slots := #[.long (-100)], vm := .none },
  { cls := 8, slots := #[.long (-99)], vm := .none },
  { cls := 8, slots := #[.long (-98)], vm := .none },
  { cls := 8, slots := #[.long (-97)], vm := .none },
  { cls := 8, slots := #[.long (-96)], vm := .none },
  { cls := 8, slots := #[.long (-95)], vm := .none },
  { cls := 8, slots := #[.long (-94)], vm := .none },
  { cls := 8, slots := #[.long (-93)], vm := .none },
  { cls := 8, slots := #[.long (-92)], vm := .none },
  { cls := 8, slots := #[.long (-91)], vm := .none },
  { cls := 8, slots := #[.long (-90)], vm := .none },
  { cls := 8, slots := #[.long (-89)], vm := .none },
  { cls := 8, slots := #[.long (-88)], vm := .none },
  { cls := 8, slots := #[.long (-87)], vm := .none },
  { cls := 8, slots := #[.long (-86)], vm := .none },
  { cls := 8, slots := #[.long (-85)], vm := .none },
  { cls := 8, slots := #[.long (-84)], vm := .none },
  { cls := 8, slots := #[.long (-83)], vm := .none },
  { cls := 8, slots := #[.long (-82)], vm := .none },
  { cls := 8, slots := #[.long (-81)], vm := .none },
  { cls := 8, slots := #[.long (-80)], vm := .none },
  { cls := 8, slots := #[.long (-79)], vm := .none },
  { cls := 8, slots := #[.long (-78)], vm := .none },
  { cls := 8, slots := #[.long (-77)], vm := .none },
  { cls := 8, slots := #[.long (-76)], vm := .none },
  { cls := 8, slots := #[.long (-75)], vm := .none },
  { cls := 8, slots := #[.long (-74)], vm := .none },
  { cls := 8, slots := #[.long (-73)], vm := .none },
  { cls := 8, slots := #[.long (-72)], vm := .none },
  { cls := 8, slots := #[.long (-71)], vm := .none },
  { cls := 8, slots := #[.long (-70)], vm := .none },
  { cls := 8, slots := #[.long (-69)], vm := .none },
  { cls := 8, slots := #[.long (-68)], vm := .none },
  { cls := 8, slots := #[.long (-67)], vm := .none },
  { cls := 8, slots := #[.long (-66)], vm := .none },
  { cls := 8, slots := #[.long (-65)], vm := .none },
  { cls := 8, slots := #[.long (-64)], vm := .none },
  { cls := 8, slots := #[.long (-63)], vm := .none },
  { cls := 8, slots := #[.long (-62)], vm := .none },
  { cls := 8, slots := #[.long (-61)], vm := .none },
  { cls := 8, slots := #[.long (-60)], vm := .none },
  { cls := 8, slots := #[.long (-59)], vm := .none },
  { cls := 8, slots := #[.long (-58)], vm := .none },
  { cls := 8, slots := #[.long (-57)], vm := .none },
  { cls := 8, slots := #[.long (-56)], vm := .none },
  { cls := 8, slots := #[.long (-55)], vm := .none },
  { cls := 8, slots := #[.long (-54)], vm := .none },
  { cls := 8, slots := #[.long (-53)], vm := .none },
  { cls := 8, slots := #[.long (-52)], vm := .none },
  { cls := 8, slots := #[.long (-51)], vm := .none },
  { cls := 8, slots := #[.long (-50)], vm := .none },
  { cls := 8, slots := #[.long (-49)], vm := .none },
  { cls := 8, slots := #[.long (-48)], vm := .none },
  { cls := 8, slots := #[.long (-47)], vm := .none },
  { cls := 8, slots := #[.long (-46)], vm := .none },
  { cls := 8, slots := #[.long (-45)], vm := .none },
  { cls := 8, slots := #[.long (-44)], vm := .none },
  { cls := 8, slots := #[.long (-43)], vm := .none },
  { cls := 8, slots := #[.long (-42)], vm := .none },
  { cls := 8, slots := #[.long (-41)], vm := .none },
  { cls := 8, slots := #[.long (-40)], vm := .none },
  { cls := 8, slots := #[.long (-39)], vm := .none },
  { cls := 8, slots := #[.long (-38)], vm := .none },
  { cls := 8, slots := #[.long (-37)], vm := .none },
  { cls := 8, slots := #[.long (-36)], vm := .none },
  { cls := 8, slots := #[.long (-35)], vm := .none },
  { cls := 8, slots := #[.long (-34)], vm := .none },
  { cls := 8, slots := #[.long (-33)], vm := .none },
  { cls := 8, slots := #[.long (-32)], vm := .none },
  { cls := 8, slots := #[.long (-31)], vm := .none },
  { cls := 8, slots := #[.long (-30)], vm := .none },
  { cls := 8, slots := #[.long (-29)], vm := .none },
  { cls := 8, slots := #[.long (-28)], vm := .none },
  { cls := 8, slots := #[.long (-27)], vm := .none },
  { cls := 8, slots := #[.long (-26)], vm := .none },
  { cls := 8, slots := #[.long (-25)], vm := .none },
  { cls := 8, slots := #[.long (-24)], vm := .none },
  { cls := 8, slots := #[.long (-23)], vm := .none },
  { cls := 8, slots := #[.long (-22)], vm := .none },
  { cls := 8, slots := #[.long (-21)], vm := .none },
  { cls := 8, slots := #[.long (-20)], vm := .none },
  { cls := 8, slots := #[.long (-19)], vm := .none },
  { cls := 8, slots := #[.long (-18)], vm := .none },
  { cls := 8, slots := #[.long (-17)], vm := .none },
  { cls := 8, slots := #[.long (-16)], vm := .none },
  { cls := 8, slots := #[.long (-15)], vm := .none },
  { cls := 8, slots := #[.long (-14)], vm := .none },
  { cls := 8, slots := #[.long (-13)], vm := .none },
  { cls := 8, slots := #[.long (-12)], vm := .none },
  { cls := 8, slots := #[.long (-11)], vm := .none },
  { cls := 8, slots := #[.long (-10)], vm := .none },
  { cls := 8, slots := #[.long (-9)], vm := .none },
  { cls := 8, slots := #[.long (-8)], vm := .none },
  { cls := 8, slots := #[.long (-7)], vm := .none },
  { cls := 8, slots := #[.long (-6)], vm := .none },
  { cls := 8, slots := #[.long (-5)], vm := .none },
  { cls := 8, slots := #[.long (-4)], vm := .none },
  { cls := 8, slots := #[.long (-3)], vm := .none },
  { cls := 8, slots := #[.long (-2)], vm := .none },
  { cls := 8, slots := #[.long (-1)], vm := .none },
  { cls := 8, slots := #[.long 0], vm := .none },
  { cls := 8, slots := #[.long 1], vm := .none },
  { cls := 8, slots := #[.long 2], vm := .none },
  { cls := 8, slots := #[.long 3], vm := .none },
  { cls := 8, slots := #[.long 4], vm := .none },
  { cls := 8, slots := #[.long 5], vm := .none },
  { cls := 8, slots := #[.long 6], vm := .none },
  { cls := 8, slots := #[.long 7], vm := .none },
  { cls := 8, slots := #[.long 8], vm := .none },
  { cls := 8, slots := #[.long 9], vm := .none },
  { cls := 8, slots := #[.long 10], vm := .none },
  { cls := 8, slots := #[.long 11], vm := .none },
  { cls := 8, slots := #[.long 12], vm := .none },
  { cls := 8, slots := #[.long 13], vm := .none },
  { cls := 8, slots := #[.long 14], vm := .none },
  { cls := 8, slots := #[.long 15], vm := .none },
  { cls := 8, slots := #[.long 16], vm := .none },
  { cls := 8, slots := #[.long 17], vm := .none },
  { cls := 8, slots := #[.long 18], vm := .none },
  { cls := 8, slots := #[.long 19], vm := .none },
  { cls := 8, slots := #[.long 20], vm := .none },
  { cls := 8, slots := #[.long 21], vm := .none },
  { cls := 8, slots := #[.long 22], vm := .none },
  { cls := 8, slots := #[.long 23], vm := .none },
  { cls := 8, slots := #[.long 24], vm := .none },
  { cls := 8, slots := #[.long 25], vm := .none },
  { cls := 8, slots := #[.long 26], vm := .none },
  { cls := 8, slots := #[.long 27], vm := .none },
  { cls := 8, slots := #[.long 28], vm := .none },
  { cls := 8, slots := #[.long 29], vm := .none },
  { cls := 8, slots := #[.long 30], vm := .none },
  { cls := 8, slots := #[.long 31], vm := .none },
  { cls := 8, slots := #[.long 32], vm := .none },
  { cls := 8, slots := #[.long 33], vm := .none },
  { cls := 8, slots := #[.long 34], vm := .none },
  { cls := 8, slots := #[.long 35], vm := .none },
  { cls := 8, slots := #[.long 36], vm := .none },
  { cls := 8, slots := #[.long 37], vm := .none },
  { cls := 8, slots := #[.long 38], vm := .none },
  { cls := 8, slots := #[.long 39], vm := .none },
  { cls := 8, slots := #[.long 40], vm := .none },
  { cls := 8, slots := #[.long 41], vm := .none },
  { cls := 8, slots := #[.long 42], vm := .none },
  { cls := 8, slots := #[.long 43], vm := .none },
  { cls := 8, slots := #[.long 44], vm := .none },
  { cls := 8, slots := #[.long 45], vm := .none },
  { cls := 8, slots := #[.long 46], vm := .none },
  { cls := 8, slots := #[.long 47], vm := .none },
  { cls := 8, slots := #[.long 48], vm := .none },
  { cls := 8, slots := #[.long 49], vm := .none },
  { cls := 8, slots := #[.long 50], vm := .none },
  { cls := 8, slots := #[.long 51], vm := .none },
  { cls := 8, slots := #[.long 52], vm := .none },
  { cls := 8, slots := #[.long 53], vm := .none },
  { cls := 8, slots := #[.long 54], vm := .none },
  { cls := 8, slots := #[.long 55], vm := .none },
  { cls := 8, slots := #[.long 56], vm := .none },
  { cls := 8, slots := #[.long 57], vm := .none },
  { cls := 8, slots := #[.long 58], vm := .none },
  { cls := 8, slots := #[.long 59], vm := .none },
  { cls := 8, slots := #[.long 60], vm := .none },
  { cls := 8, slots := #[.long 61], vm := .none },
  { cls := 8, slots := #[.long 62], vm := .none },
  { cls := 8, slots := #[.long 63], vm := .none },
  { cls := 8, slots := #[.long 64], vm := .none },
  { cls := 8, slots := #[.long 65], vm := .none },
  { cls := 8, slots := #[.long 66], vm := .none },
  { cls := 8, slots := #[.long 67], vm := .none },
  { cls := 8, slots := #[.long 68], vm := .none },
  { cls := 8, slots := #[.long 69], vm := .none },
  { cls := 8, slots := #[.long 70], vm := .none },
  { cls := 8, slots := #[.long 71], vm := .none },
  { cls := 8, slots := #[.long 72], vm := .none },
  { cls := 8, slots := #[.long 73], vm := .none },
  { cls := 8, slots := #[.long 74], vm := .none },
  { cls := 8, slots := #[.long 75], vm := .none },
  { cls := 8, slots := #[.long 76], vm := .none },
  { cls := 8, slots := #[.long 77], vm := .none },
  { cls := 8, slots := #[.long 78], vm := .none },
  { cls := 8, slots := #[.long 79], vm := .none },
  { cls := 8, slots := #[.long 80], vm := .none },
  { cls := 8, slots := #[.long 81], vm := .none },
  { cls := 8, slots := #[.long 82], vm := .none },
  { cls := 8, slots := #[.long 83], vm := .none },
  { cls := 8, slots := #[.long 84], vm := .none },
  { cls := 8, slots := #[.long 85], vm := .none },
  { cls := 8, slots := #[.long 86], vm := .none },
  { cls := 8, slots := #[.long 87], vm := .none },
  { cls := 8, slots := #[.long 88], vm := .none },
  { cls := 8, slots := #[.long 89], vm := .none },
  { cls := 8, slots := #[.long 90], vm := .none },
  { cls := 8, slots := #[.long 91], vm := .none },
  { cls := 8, slots := #[.long 92], vm := .none },
  { cls := 8, slots := #[.long 93], vm := .none },
  { cls := 8, slots := #[.long 94], vm := .none },
  { cls := 8, slots := #[.long 95], vm := .none },
  { cls := 8, slots := #[.long 96], vm := .none },
  { cls := 8, slots := #[.long 97], vm := .none },
  { cls := 8, slots := #[.long 98], vm := .none },
  { cls := 8, slots := #[.long 99], vm := .none },
  { cls := 8, slots := #[.long 100], vm := .none },
  { cls := 8, slots := #[.long 101], vm := .none },
  { cls := 8, slots := #[.long 102], vm := .none },
  { cls := 8, slots := #[.long 103], vm := .none },
  { cls := 8, slots := #[.long 104], vm := .none },
  { cls := 8, slots := #[.long 105], vm := .none },
  { cls := 8, slots := #[.long 106], vm := .none },
  { cls := 8, slots := #[.long 107], vm := .none },
  { cls := 8, slots := #[.long 108], vm := .none },
  { cls := 8, slots := #[.long 109], vm := .none },
  { cls := 8, slots := #[.long 110], vm := .none },
  { cls := 8, slots := #[.long 111], vm := .none },
  { cls := 8, slots := #[.long 112], vm := .none },
  { cls := 8, slots := #[.long 113], vm := .none },
  { cls := 8, slots := #[.long 114], vm := .none },
  { cls := 8, slots := #[.long 115], vm := .none },
  { cls := 8, slots := #[.long 116], vm := .none },
  { cls := 8, slots := #[.long 117], vm := .none },
  { cls := 8, slots := #[.long 118], vm := .none },
  { cls := 8, slots := #[.long 119], vm := .none },
  { cls := 8, slots := #[.long 120], vm := .none },
  { cls := 8, slots := #[.long 121], vm := .none },
  { cls := 8, slots := #[.long 122], vm := .none },
  { cls := 8, slots := #[.long 123], vm := .none },
  { cls := 8, slots := #[.long 124], vm := .none },
  { cls := 8, slots := #[.long 125], vm := .none },
  { cls := 8, slots := #[.long 126], vm := .none },
  { cls := 8, slots := #[.long 127], vm := .none }]
def classes : Array Class := #[k0, k1, k2, k3, k4, k5, k6, k7, k8, k9, k10, k11, k12, k13, k14, k15, k16]
def interned : List (Array UInt16 × Addr) := []
def slotsUsed : Nat := 515
def theMethod : MethodId := ⟨1, 1⟩
def args0 : Array Value := #[.long 5, .long 9, .int 3]
def aboutOver (below : List Frame) : State where
  vm := { classes := classes, interned := interned.toArray }
  heap := heap
  slotsUsed := slotsUsed
  threads := #[{ frames := .invoking theMethod args0 :: below }]
def below0 : List Frame := [.native { method := ⟨0, 0⟩, args := #[] }]
def about1 : State := aboutOver below0
def p0 : Program := .bare "" "" ""
def e0 : Env := launch0.env 0 0 0
theorem w_frames : about1.frames = Frame.invoking theMethod args0 :: below0 := rfl
set_option maxRecDepth 65536 in
theorem w_args : argsFit about1.vm theMethod args0 = true := by decide +kernel
set_option maxRecDepth 65536 in
theorem w_heap : heapFits about1 = true := by decide +kernel
set_option maxRecDepth 65536 in
theorem w_runnable : about1.curStatus? = some .runnable := by decide +kernel
set_option maxRecDepth 65536 in
theorem w_alone : about1.alone = true := by decide +kernel
set_option maxRecDepth 65536 in
theorem w_named : about1.methodNamed? x = some theMethod := by decide +kernel
set_option maxRecDepth 65536 in
theorem w_hears : about1.hears theMethod below0 = true := by decide +kernel
set_option maxRecDepth 65536 in
theorem w_ripe : about1.ripe theMethod args0 below0 = true := by decide +kernel
theorem w_running : about1.status = .running := rfl
set_option maxRecDepth 65536 in
theorem w_room : about1.hasRoom e0.platform room_1 = true :=
  launch0.hasRoom_least _ room_1 (by decide +kernel) (by decide +kernel) (by decide +kernel) (by decide +kernel) (by decide +kernel) (by decide +kernel)
theorem allAtoms_all (ts : List Jvm.Cond) (a : Array Jvm.Value) (st : Jvm.State) : (allAtoms ts).before a st = ts.all (fun c => c.before a st) := by
  induction ts with
  | nil => rfl
  | cons c t ih =>
    show (Jvm.Cond.and c (allAtoms t)).before a st = _
    rw [Jvm.Cond.before_and, ih, List.all_cons]
def words1 : List Jvm.Cond := Jvm.Cond.code x code maxLocals ret :: tables_1
/-- a 'code' word, met by the world's own term for the bytes: nothing is compared byte by byte -/
theorem code_word {y : MethodName} {bytes : ByteArray} {mx : Nat} {rt : Option FieldType} {a : Array Value} {s : State} {m : MethodId} {meth : Method} {c : Code} (h1 : s.methodNamed? y = some m) (h2 : s.vm.method? m = some meth) (h3 : meth.code = some c) (h4 : c.code = bytes)
    (h5 : (c.maxLocals == mx && c.exceptionTable.isEmpty && decide (c.maxStack ≤ mostOperands) && decide (meth.sig.returnType = rt) && !meth.locks && decide (parseMethodDescriptor y.desc = some meth.sig)) = true) : (Jvm.Cond.code y bytes mx rt).before a s = true := by
  simp only [Bool.and_eq_true, beq_iff_eq, Bool.not_eq_true', decide_eq_true_eq] at h5
  obtain ⟨⟨⟨⟨⟨g1, g2⟩, g3⟩, g4⟩, g5⟩, g6⟩ := h5
  simp [Cond.before, Cond.holds, Cond.value, h1, h2, h3, h4, g1, g2, g3, g4, g5, g6]
def isCode : Jvm.Cond → Bool
  | .code _ _ _ _ => true
  | _ => false
theorem all_split {L : List Jvm.Cond} {P : Jvm.Cond → Bool} (h1 : L.all (fun c => isCode c || P c) = true) (h2 : ∀ c ∈ L.filter isCode, P c = true) : L.all P = true := by
  refine List.all_eq_true.mpr fun c hc => ?_
  have h := List.all_eq_true.mp h1 c hc
  rcases Bool.eq_false_or_eq_true (isCode c) with hi | hi
  · exact h2 c (List.mem_filter.mpr ⟨hc, hi⟩)
  · simpa [hi] using h
set_option maxRecDepth 65536 in
theorem w_c0 : (Jvm.Cond.code x code maxLocals ret).before args0 about1 = true := code_word (m := ⟨1, 1⟩) (meth := k1m1) (c := k1c1) (by decide +kernel) rfl rfl rfl (by decide +kernel)
set_option maxRecDepth 65536 in
theorem w_c1 : (Jvm.Cond.code ({ cls := "com/example/durchlass/durchlass/algorithm/LamportClock", name := "<init>", desc := "()V" } : Jvm.MethodName) prog_16_method_1_code (1 : Nat) (Option.none : Option Jvm.ClassFile.FieldType)).before args0 about1 = true := code_word (m := ⟨2, 0⟩) (meth := k2m0) (c := k2c0) (by decide +kernel) rfl rfl rfl (by decide +kernel)
set_option maxRecDepth 65536 in
theorem w_c2 : (Jvm.Cond.code ({ cls := "java/lang/Object", name := "<init>", desc := "()V" } : Jvm.MethodName) object_method_1_code (1 : Nat) (Option.none : Option Jvm.ClassFile.FieldType)).before args0 about1 = true := code_word (m := ⟨0, 0⟩) (meth := k0m0) (c := k0c0) (by decide +kernel) rfl rfl rfl (by decide +kernel)
set_option maxRecDepth 65536 in
theorem w_c3 : (Jvm.Cond.code ({ cls := "com/example/durchlass/durchlass/algorithm/LamportClock", name := "equals", desc := "(Ljava/lang/Object;)Z" } : Jvm.MethodName) prog_16_method_5_code (3 : Nat) (Option.some Jvm.ClassFile.FieldType.boolean)).before args0 about1 = true := code_word (m := ⟨2, 3⟩) (meth := k2m3) (c := k2c3) (by decide +kernel) rfl rfl rfl (by decide +kernel)
set_option maxRecDepth 65536 in
theorem w_c4 : (Jvm.Cond.code ({ cls := "java/lang/Long", name := "valueOf", desc := "(J)Ljava/lang/Long;" } : Jvm.MethodName) jdk_35_method_24_code (3 : Nat) (Option.some (Jvm.ClassFile.FieldType.object "java/lang/Long"))).before args0 about1 = true := code_word (m := ⟨8, 0⟩) (meth := k8m0) (c := k8c0) (by decide +kernel) rfl rfl rfl (by decide +kernel)
set_option maxRecDepth 65536 in
theorem w_c5 : (Jvm.Cond.code ({ cls := "com/example/durchlass/durchlass/algorithm/LamportClock", name := "send", desc := "()J" } : Jvm.MethodName) prog_16_method_3_code (3 : Nat) (Option.some Jvm.ClassFile.FieldType.long)).before args0 about1 = true := code_word (m := ⟨2, 1⟩) (meth := k2m1) (c := k2c1) (by decide +kernel) rfl rfl rfl (by decide +kernel)
set_option maxRecDepth 65536 in
theorem w_c6 : (Jvm.Cond.code ({ cls := "com/example/durchlass/durchlass/algorithm/LamportClock", name := "receive", desc := "(J)V" } : Jvm.MethodName) prog_16_method_4_code (3 : Nat) (Option.none : Option Jvm.ClassFile.FieldType)).before args0 about1 = true := code_word (m := ⟨2, 2⟩) (meth := k2m2) (c := k2c2) (by decide +kernel) rfl rfl rfl (by decide +kernel)
set_option maxRecDepth 65536 in
theorem w_c7 : (Jvm.Cond.code ({ cls := "java/lang/Math", name := "max", desc := "(JJ)J" } : Jvm.MethodName) jdk_29_method_66_code (4 : Nat) (Option.some Jvm.ClassFile.FieldType.long)).before args0 about1 = true := code_word (m := ⟨10, 1⟩) (meth := k10m1) (c := k10c1) (by decide +kernel) rfl rfl rfl (by decide +kernel)
set_option maxRecDepth 65536 in
theorem w_c8 : (Jvm.Cond.code ({ cls := "java/lang/Long", name := "<init>", desc := "(J)V" } : Jvm.MethodName) jdk_35_method_26_code (3 : Nat) (Option.none : Option Jvm.ClassFile.FieldType)).before args0 about1 = true := code_word (m := ⟨8, 1⟩) (meth := k8m1) (c := k8c1) (by decide +kernel) rfl rfl rfl (by decide +kernel)
set_option maxRecDepth 65536 in
theorem w_c9 : (Jvm.Cond.code ({ cls := "java/lang/Number", name := "<init>", desc := "()V" } : Jvm.MethodName) jdk_18_method_1_code (1 : Nat) (Option.none : Option Jvm.ClassFile.FieldType)).before args0 about1 = true := code_word (m := ⟨4, 0⟩) (meth := k4m0) (c := k4c0) (by decide +kernel) rfl rfl rfl (by decide +kernel)
def codes1 : List Jvm.Cond := [Jvm.Cond.code x code maxLocals ret, Jvm.Cond.code ({ cls := "com/example/durchlass/durchlass/algorithm/LamportClock", name := "<init>", desc := "()V" } : Jvm.MethodName) prog_16_method_1_code (1 : Nat) (Option.none : Option Jvm.ClassFile.FieldType), Jvm.Cond.code ({ cls := "java/lang/Object", name := "<init>", desc := "()V" } : Jvm.MethodName) object_method_1_code (1 : Nat) (Option.none : Option Jvm.ClassFile.FieldType), Jvm.Cond.code ({ cls := "com/example/durchlass/durchlass/algorithm/LamportClock", name := "equals", desc := "(Ljava/lang/Object;)Z" } : Jvm.MethodName) prog_16_method_5_code (3 : Nat) (Option.some Jvm.ClassFile.FieldType.boolean), Jvm.Cond.code ({ cls := "java/lang/Long", name := "valueOf", desc := "(J)Ljava/lang/Long;" } : Jvm.MethodName) jdk_35_method_24_code (3 : Nat) (Option.some (Jvm.ClassFile.FieldType.object "java/lang/Long")), Jvm.Cond.code ({ cls := "com/example/durchlass/durchlass/algorithm/LamportClock", name := "send", desc := "()J" } : Jvm.MethodName) prog_16_method_3_code (3 : Nat) (Option.some Jvm.ClassFile.FieldType.long), Jvm.Cond.code ({ cls := "com/example/durchlass/durchlass/algorithm/LamportClock", name := "receive", desc := "(J)V" } : Jvm.MethodName) prog_16_method_4_code (3 : Nat) (Option.none : Option Jvm.ClassFile.FieldType), Jvm.Cond.code ({ cls := "java/lang/Math", name := "max", desc := "(JJ)J" } : Jvm.MethodName) jdk_29_method_66_code (4 : Nat) (Option.some Jvm.ClassFile.FieldType.long), Jvm.Cond.code ({ cls := "java/lang/Long", name := "<init>", desc := "(J)V" } : Jvm.MethodName) jdk_35_method_26_code (3 : Nat) (Option.none : Option Jvm.ClassFile.FieldType), Jvm.Cond.code ({ cls := "java/lang/Number", name := "<init>", desc := "()V" } : Jvm.MethodName) jdk_18_method_1_code (1 : Nat) (Option.none : Option Jvm.ClassFile.FieldType)]
set_option maxRecDepth 65536 in
theorem codes_eq : words1.filter isCode = codes1 := rfl
theorem w_codes : ∀ c ∈ words1.filter isCode, c.before args0 about1 = true := by
  rw [codes_eq]
  intro c hc
  simp only [codes1, List.mem_cons, List.not_mem_nil, or_false] at hc
  rcases hc with rfl | rfl | rfl | rfl | rfl | rfl | rfl | rfl | rfl | rfl
  · exact w_c0
  · exact w_c1
  · exact w_c2
  · exact w_c3
  · exact w_c4
  · exact w_c5
  · exact w_c6
  · exact w_c7
  · exact w_c8
  · exact w_c9
set_option maxRecDepth 65536 in
theorem w_t1 : (words1.take 24).all (fun c => isCode c || c.before args0 about1) = true := by decide +kernel
set_option maxRecDepth 65536 in
theorem w_t2 : ((words1.drop 24).take 24).all (fun c => isCode c || c.before args0 about1) = true := by decide +kernel
set_option maxRecDepth 65536 in
theorem w_t3 : ((words1.drop 24).drop 24).all (fun c => isCode c || c.before args0 about1) = true := by decide +kernel
theorem w_tables : (allAtoms (Jvm.Cond.code x code maxLocals ret :: tables_1)).before args0 about1 = true := by
  rw [allAtoms_all]
  show words1.all (fun c => c.before args0 about1) = true
  refine all_split ?_ w_codes
  rw [← List.take_append_drop 24 words1, List.all_append, w_t1, ← List.take_append_drop 24 (words1.drop 24), List.all_append, w_t2, w_t3]
  rfl
set_option maxRecDepth 65536 in
theorem w_rest : rest_1_c.before args0 about1 = true := by decide +kernel
set_option maxRecDepth 65536 in
theorem w_case : (Jvm.Cond.and given_1 narrow_1).before args0 about1 = true := by decide +kernel
theorem w_applies : (headSpec (Jvm.Cond.code x code maxLocals ret :: tables_1) room_1).applies x e0.platform about1 = true :=
  (Spec.applies_iff w_frames).mpr ⟨w_running, w_runnable, w_alone, w_named, w_hears, w_ripe, w_room, w_tables⟩
theorem atStart : AtStart classFile x code maxLocals ret World_1 tables_1 room_1 Calls_1 rest_1 Pre_1 launch0 p0 e0 about1 theMethod args0 below0 :=
  ⟨lists_1, trivial, launch0.admits_env _ _ _, launch0.least_env, fairChoices_fair.cas, fairChoices_fair.clock, w_frames, w_args, w_heap, w_applies, trivial, w_rest, w_case⟩
end start1
theorem witness_1 : WitnessClaimed_1 := ⟨start1.p0, start1.e0, start1.about1, start1.theMethod, start1.args0, start1.below0, start1.atStart⟩
end Jvm.Pilot.@@N@@
