import JvmDerived
import JvmDerived.Pilot.@@N@@Statement
import JvmDerived.Pilot.@@N@@Code
set_option linter.unusedVariables false
set_option linter.unusedSimpArgs false
namespace Jvm.RoadKit
open Sem ClassFile Op Lib Jvm.Stand Jvm.Free Jvm.LawKit
section New
variable {p : Program} {l : Launch} {e : Env} {R : Room} {s : State} {m : MethodId} {args : Array Value} {below : List Frame} {meth : Method} {c : Code} {T : State} {locs : List Loc} {cells slots : Nat}
theorem retI (X : Stand p l e R s m args below meth c T locs cells slots) (hx : p.tables.exec = Jvm.exec) {pc : Nat} {Ls : Array Slot} {z : Int32} {rest : List Value} (hret : meth.sig.returnType = some .int) (hd : decode c.code pc = .ok (.ireturn, 1)) {fs : List Frame}
    (hl : ∀ (f : JFrame) (acts : List Action), f.method = m → f.locked = none → f.entered = [] → (doReturn e (T.setTop f) acts (some (.int z))).1 = T.setFrames fs) : Steps p.tables e below (T.setTop (mkF m pc Ls (.int z :: rest))) (T.setFrames fs) := by
  have hm' : T.vm.method? m = some meth := X.method'
  have hn : narrow .int (.int z) = .int z := rfl
  show Steps p.tables e below (T.setTop { method := m, pc := pc, locals := Ls, stack := _ :: rest, locked := none }) _
  jvm_step X.here [X.here.top, hx, hd, hm', hret, hn]
  first | (intro acts; rw [hl _ acts rfl rfl rfl]) | rw [hl _ _ rfl rfl rfl]
  exact Steps.refl _
end New
end Jvm.RoadKit
namespace Jvm.Pilot.@@N@@
open Jvm Jvm.ClassFile Sem Op Lib Jvm.Free Jvm.Stand Jvm.LawKit Jvm.RoadKit Bundle Jvm.Pilot.@@N@@.Jvm.D
/-- what a body that writes nothing leaves: the value, and the heap as it was -/
def QV (r : Option Value) (h0 : Heap) (n0 : Nat) (v : Option Value) (h : Heap) (L : List Loc) : Prop := v = r ∧ Fr n0 L ∧ h = h0
theorem own_fld_one {Z : State} {h : Heap} {a : Addr} {C n d : String} {v w : Value} (F : Fld Z h a C n d v) (G : Fld Z h a C n d w) : v = w := by
  obtain ⟨c1, f1, k1, i1, g1, a1, a2, -, -, -, -, a7⟩ := F
  obtain ⟨c2, f2, k2, i2, g2, b1, b2, -, -, -, -, b7⟩ := G
  cases a1.symm.trans b1
  cases a2.symm.trans b2
  exact Option.some.inj (a7.symm.trans b7)
theorem own_ne_fld {Z : State} {h : Heap} {a b : Addr} {C n d : String} {x y : Int32} (F : Fld Z h a C n d (.int x)) (G : Fld Z h b C n d (.int y)) (hn : x ≠ y) : ¬ a = b := fun e => by
  subst e
  exact hn (Value.int.inj (own_fld_one F G))
theorem own_fld {args : Array Value} {s : State} {t : Term} {C n d : String} {k : Int32} {a : Addr} (ht : t.eval args s none [] s = some (.ref a)) (h : (Jvm.Cond.eq (Jvm.Term.field t C n d) (Jvm.Term.int k)).value args s none s [] = some true) : Fld s s.heap a C n d (.int k) := by
  refine Fld.start ((fld_at (idx := []) (first := s) (o := none) ht).symm.trans ?_)
  obtain ⟨x, y, e1, e2, k1, k2⟩ := cmp_v (Or.inl h)
  cases e2
  obtain ⟨z, rfl⟩ := k2
  have e3 : (Jvm.Term.int k).eval args s none [] s = some (.int k) := rfl
  have q : z = k := by simpa [Jvm.Cond.value, e1, e3] using h
  rw [e1, q]
def Q0 (n0 : Nat) (v : Option Value) (h : Heap) (L : List Loc) : Prop := v = some (.int (1 : Int32)) ∧ Fr n0 L
def QB (h0 : Heap) (n0 : Nat) (v : Option Value) (h : Heap) (L : List Loc) : Prop := ∃ b : Addr, v = some (.ref b) ∧ Fr n0 L ∧ Keep h0 h []
def QK (a : Addr) (h0 : Heap) (n0 : Nat) (v : Option Value) (h : Heap) (L : List Loc) : Prop := v = none ∧ Fr n0 L ∧ Keep h0 h [a]
def QBI (Z : State) (a : Addr) (bz1 bz2 bz3 : Int32) (h0 : Heap) (n0 : Nat) (v : Option Value) (h : Heap) (L : List Loc) : Prop := v = none ∧ Fr n0 L ∧ Keep h0 h [a] ∧ Fld Z h a "com/example/inplace/inplace/Behaviour" "instant" "Z" (.int bz1) ∧ Fld Z h a "com/example/inplace/inplace/Behaviour" "inPlace" "Z" (.int bz2) ∧ Fld Z h a "com/example/inplace/inplace/Behaviour" "copy" "Z" (.int bz3)
theorem own_fit {v : Value} {n : String} (h : v.isRef = true) : fits (.object n) v = true := by rcases ref_cases h with rfl | ⟨_, rfl⟩ <;> rfl
theorem own_narz {z : Int32} (h : z = 0 ∨ z = 1) : narrow .boolean (.int z) = .int z := by rcases h with rfl | rfl <;> rfl
theorem own_fitz {z : Int32} (h : z = 0 ∨ z = 1) : fits .boolean (.int z) = true := by rcases h with rfl | rfl <;> rfl
theorem own_and1 {z : Int32} (h : z = 0 ∨ z = 1) : z &&& 1 = z := by rcases h with rfl | rfl <;> decide
theorem own_ch (x : Int32) : ¬ (255 : Int32) < (x &&& (255 : Int32)).toUInt32.toUInt16.toUInt32.toInt32 := by
  rw [i2c_mask]
  have h := c_and x 255 (by decide)
  have e : (255 : Int32).toInt = 255 := by decide
  rw [Int32.lt_iff_toInt_lt, e]; omega
theorem own_copy {bz1 bz2 bz3 : Int32} (h : ¬ (if bz1 = 0 ∧ bz2 = 0 then (1 : Int32) else 0) = 0) (hA : ¬ bz1 = 0 ∨ ¬ bz2 = 0 ∨ ¬ bz3 = 0) : ¬ bz3 = 0 := fun h3 => by
  by_cases q : bz1 = 0 ∧ bz2 = 0
  · rcases hA with a | a | a
    · exact a q.1
    · exact a q.2
    · exact a h3
  · exact h (if_neg q)
theorem d_jdk_43_m_3_0 : decode jdk_43_method_3_code 0 = .ok (.iload_n 0, 1) := by decide +kernel
theorem d_jdk_43_m_3_1 : decode jdk_43_method_3_code 1 = .ok (.sipush 255, 3) := by decide +kernel
theorem d_jdk_43_m_3_4 : decode jdk_43_method_3_code 4 = .ok (.if_icmp .gt 7, 3) := by decide +kernel
theorem d_jdk_43_m_3_7 : decode jdk_43_method_3_code 7 = .ok (.iconst 1, 1) := by decide +kernel
theorem d_jdk_43_m_3_8 : decode jdk_43_method_3_code 8 = .ok (.goto 4, 3) := by decide +kernel
theorem d_jdk_43_m_3_11 : decode jdk_43_method_3_code 11 = .ok (.iconst 0, 1) := by decide +kernel
theorem d_jdk_43_m_3_12 : decode jdk_43_method_3_code 12 = .ok (.ireturn, 1) := by decide +kernel
theorem d_jdk_43_m_46_0 : decode jdk_43_method_46_code 0 = .ok (.iconst 1, 1) := by decide +kernel
theorem d_jdk_43_m_46_1 : decode jdk_43_method_46_code 1 = .ok (.newarray .byte, 2) := by decide +kernel
theorem d_jdk_43_m_46_3 : decode jdk_43_method_46_code 3 = .ok (.dup, 1) := by decide +kernel
theorem d_jdk_43_m_46_4 : decode jdk_43_method_46_code 4 = .ok (.iconst 0, 1) := by decide +kernel
theorem d_jdk_43_m_46_5 : decode jdk_43_method_46_code 5 = .ok (.iload_n 0, 1) := by decide +kernel
theorem d_jdk_43_m_46_6 : decode jdk_43_method_46_code 6 = .ok (.i2b, 1) := by decide +kernel
theorem d_jdk_43_m_46_7 : decode jdk_43_method_46_code 7 = .ok (.bastore, 1) := by decide +kernel
theorem d_jdk_43_m_46_8 : decode jdk_43_method_46_code 8 = .ok (.areturn, 1) := by decide +kernel
theorem d_jdk_42_m_151_0 : decode jdk_42_method_151_code 0 = .ok (.aload_n 0, 1) := by decide +kernel
theorem d_jdk_42_m_151_1 : decode jdk_42_method_151_code 1 = .ok (.invokespecial 1, 3) := by decide +kernel
theorem d_jdk_42_m_151_4 : decode jdk_42_method_151_code 4 = .ok (.aload_n 0, 1) := by decide +kernel
theorem d_jdk_42_m_151_5 : decode jdk_42_method_151_code 5 = .ok (.aload_n 1, 1) := by decide +kernel
theorem d_jdk_42_m_151_6 : decode jdk_42_method_151_code 6 = .ok (.putfield 9, 3) := by decide +kernel
theorem d_jdk_42_m_151_9 : decode jdk_42_method_151_code 9 = .ok (.aload_n 0, 1) := by decide +kernel
theorem d_jdk_42_m_151_10 : decode jdk_42_method_151_code 10 = .ok (.iload_n 2, 1) := by decide +kernel
theorem d_jdk_42_m_151_11 : decode jdk_42_method_151_code 11 = .ok (.putfield 15, 3) := by decide +kernel
theorem d_jdk_42_m_151_14 : decode jdk_42_method_151_code 14 = .ok (.return_, 1) := by decide +kernel
theorem d_jdk_42_m_139_0 : decode jdk_42_method_139_code 0 = .ok (.getstatic 38, 3) := by decide +kernel
theorem d_jdk_42_m_139_3 : decode jdk_42_method_139_code 3 = .ok (.ifCond .eq 23, 3) := by decide +kernel
theorem d_jdk_42_m_139_6 : decode jdk_42_method_139_code 6 = .ok (.iload_n 0, 1) := by decide +kernel
theorem d_jdk_42_m_139_7 : decode jdk_42_method_139_code 7 = .ok (.invokestatic 1015, 3) := by decide +kernel
theorem d_jdk_42_m_139_10 : decode jdk_42_method_139_code 10 = .ok (.ifCond .eq 16, 3) := by decide +kernel
theorem d_jdk_42_m_139_13 : decode jdk_42_method_139_code 13 = .ok (.new 10, 3) := by decide +kernel
theorem d_jdk_42_m_139_16 : decode jdk_42_method_139_code 16 = .ok (.dup, 1) := by decide +kernel
theorem d_jdk_42_m_139_17 : decode jdk_42_method_139_code 17 = .ok (.iload_n 0, 1) := by decide +kernel
theorem d_jdk_42_m_139_18 : decode jdk_42_method_139_code 18 = .ok (.invokestatic 1018, 3) := by decide +kernel
theorem d_jdk_42_m_139_21 : decode jdk_42_method_139_code 21 = .ok (.iconst 0, 1) := by decide +kernel
theorem d_jdk_42_m_139_22 : decode jdk_42_method_139_code 22 = .ok (.invokespecial 209, 3) := by decide +kernel
theorem d_jdk_42_m_139_25 : decode jdk_42_method_139_code 25 = .ok (.areturn, 1) := by decide +kernel
theorem d_jdk_30_m_1_0 : decode jdk_30_method_1_code 0 = .ok (.aload_n 0, 1) := by decide +kernel
theorem d_jdk_30_m_1_1 : decode jdk_30_method_1_code 1 = .ok (.invokespecial 1, 3) := by decide +kernel
theorem d_jdk_30_m_1_4 : decode jdk_30_method_1_code 4 = .ok (.return_, 1) := by decide +kernel
theorem d_prog_4_m_1_0 : decode prog_4_method_1_code 0 = .ok (.aload_n 0, 1) := by decide +kernel
theorem d_prog_4_m_1_1 : decode prog_4_method_1_code 1 = .ok (.invokespecial 1, 3) := by decide +kernel
theorem d_prog_4_m_1_4 : decode prog_4_method_1_code 4 = .ok (.iload_n 1, 1) := by decide +kernel
theorem d_prog_4_m_1_5 : decode prog_4_method_1_code 5 = .ok (.ifCond .ne 21, 3) := by decide +kernel
theorem d_prog_4_m_1_8 : decode prog_4_method_1_code 8 = .ok (.iload_n 2, 1) := by decide +kernel
theorem d_prog_4_m_1_9 : decode prog_4_method_1_code 9 = .ok (.ifCond .ne 17, 3) := by decide +kernel
theorem d_prog_4_m_1_12 : decode prog_4_method_1_code 12 = .ok (.iload_n 3, 1) := by decide +kernel
theorem d_prog_4_m_1_13 : decode prog_4_method_1_code 13 = .ok (.ifCond .ne 13, 3) := by decide +kernel
theorem d_prog_4_m_1_26 : decode prog_4_method_1_code 26 = .ok (.iload 4, 2) := by decide +kernel
theorem d_prog_4_m_1_28 : decode prog_4_method_1_code 28 = .ok (.ifCond .eq 18, 3) := by decide +kernel
theorem d_prog_4_m_1_31 : decode prog_4_method_1_code 31 = .ok (.iload 6, 2) := by decide +kernel
theorem d_prog_4_m_1_33 : decode prog_4_method_1_code 33 = .ok (.ifCond .eq 13, 3) := by decide +kernel
theorem d_prog_4_m_1_46 : decode prog_4_method_1_code 46 = .ok (.aload_n 0, 1) := by decide +kernel
theorem d_prog_4_m_1_47 : decode prog_4_method_1_code 47 = .ok (.iload_n 1, 1) := by decide +kernel
theorem d_prog_4_m_1_48 : decode prog_4_method_1_code 48 = .ok (.putfield 16, 3) := by decide +kernel
theorem d_prog_4_m_1_51 : decode prog_4_method_1_code 51 = .ok (.aload_n 0, 1) := by decide +kernel
theorem d_prog_4_m_1_52 : decode prog_4_method_1_code 52 = .ok (.iload_n 2, 1) := by decide +kernel
theorem d_prog_4_m_1_53 : decode prog_4_method_1_code 53 = .ok (.putfield 22, 3) := by decide +kernel
theorem d_prog_4_m_1_56 : decode prog_4_method_1_code 56 = .ok (.aload_n 0, 1) := by decide +kernel
theorem d_prog_4_m_1_57 : decode prog_4_method_1_code 57 = .ok (.iload_n 3, 1) := by decide +kernel
theorem d_prog_4_m_1_58 : decode prog_4_method_1_code 58 = .ok (.putfield 25, 3) := by decide +kernel
theorem d_prog_4_m_1_61 : decode prog_4_method_1_code 61 = .ok (.aload_n 0, 1) := by decide +kernel
theorem d_prog_4_m_1_62 : decode prog_4_method_1_code 62 = .ok (.iload 4, 2) := by decide +kernel
theorem d_prog_4_m_1_64 : decode prog_4_method_1_code 64 = .ok (.putfield 28, 3) := by decide +kernel
theorem d_prog_4_m_1_67 : decode prog_4_method_1_code 67 = .ok (.aload_n 0, 1) := by decide +kernel
theorem d_prog_4_m_1_68 : decode prog_4_method_1_code 68 = .ok (.iload 5, 2) := by decide +kernel
theorem d_prog_4_m_1_70 : decode prog_4_method_1_code 70 = .ok (.putfield 31, 3) := by decide +kernel
theorem d_prog_4_m_1_73 : decode prog_4_method_1_code 73 = .ok (.aload_n 0, 1) := by decide +kernel
theorem d_prog_4_m_1_74 : decode prog_4_method_1_code 74 = .ok (.iload 6, 2) := by decide +kernel
theorem d_prog_4_m_1_76 : decode prog_4_method_1_code 76 = .ok (.putfield 34, 3) := by decide +kernel
theorem d_prog_4_m_1_79 : decode prog_4_method_1_code 79 = .ok (.aload_n 0, 1) := by decide +kernel
theorem d_prog_4_m_1_80 : decode prog_4_method_1_code 80 = .ok (.aload 7, 2) := by decide +kernel
theorem d_prog_4_m_1_82 : decode prog_4_method_1_code 82 = .ok (.putfield 37, 3) := by decide +kernel
theorem d_prog_4_m_1_85 : decode prog_4_method_1_code 85 = .ok (.aload_n 0, 1) := by decide +kernel
theorem d_prog_4_m_1_86 : decode prog_4_method_1_code 86 = .ok (.aload 8, 2) := by decide +kernel
theorem d_prog_4_m_1_88 : decode prog_4_method_1_code 88 = .ok (.putfield 41, 3) := by decide +kernel
theorem d_prog_4_m_1_91 : decode prog_4_method_1_code 91 = .ok (.return_, 1) := by decide +kernel
theorem d_prog_4_m_9_0 : decode prog_4_method_9_code 0 = .ok (.aload_n 0, 1) := by decide +kernel
theorem d_prog_4_m_9_1 : decode prog_4_method_9_code 1 = .ok (.getfield 16, 3) := by decide +kernel
theorem d_prog_4_m_9_4 : decode prog_4_method_9_code 4 = .ok (.ifCond .ne 14, 3) := by decide +kernel
theorem d_prog_4_m_9_7 : decode prog_4_method_9_code 7 = .ok (.aload_n 0, 1) := by decide +kernel
theorem d_prog_4_m_9_8 : decode prog_4_method_9_code 8 = .ok (.getfield 22, 3) := by decide +kernel
theorem d_prog_4_m_9_11 : decode prog_4_method_9_code 11 = .ok (.ifCond .ne 7, 3) := by decide +kernel
theorem d_prog_4_m_9_14 : decode prog_4_method_9_code 14 = .ok (.iconst 1, 1) := by decide +kernel
theorem d_prog_4_m_9_15 : decode prog_4_method_9_code 15 = .ok (.goto 4, 3) := by decide +kernel
theorem d_prog_4_m_9_18 : decode prog_4_method_9_code 18 = .ok (.iconst 0, 1) := by decide +kernel
theorem d_prog_4_m_9_19 : decode prog_4_method_9_code 19 = .ok (.ireturn, 1) := by decide +kernel
theorem d_prog_4_m_10_0 : decode prog_4_method_10_code 0 = .ok (.aload_n 1, 1) := by decide +kernel
theorem d_prog_4_m_10_1 : decode prog_4_method_10_code 1 = .ok (.getstatic 47, 3) := by decide +kernel
theorem d_prog_4_m_10_4 : decode prog_4_method_10_code 4 = .ok (.if_acmp .ne 11, 3) := by decide +kernel
theorem d_prog_4_m_10_7 : decode prog_4_method_10_code 7 = .ok (.aload_n 0, 1) := by decide +kernel
theorem d_prog_4_m_10_8 : decode prog_4_method_10_code 8 = .ok (.getfield 16, 3) := by decide +kernel
theorem d_prog_4_m_10_11 : decode prog_4_method_10_code 11 = .ok (.istore_n 2, 1) := by decide +kernel
theorem d_prog_4_m_10_12 : decode prog_4_method_10_code 12 = .ok (.goto 23, 3) := by decide +kernel
theorem d_prog_4_m_10_15 : decode prog_4_method_10_code 15 = .ok (.aload_n 1, 1) := by decide +kernel
theorem d_prog_4_m_10_16 : decode prog_4_method_10_code 16 = .ok (.getstatic 53, 3) := by decide +kernel
theorem d_prog_4_m_10_19 : decode prog_4_method_10_code 19 = .ok (.if_acmp .ne 11, 3) := by decide +kernel
theorem d_prog_4_m_10_22 : decode prog_4_method_10_code 22 = .ok (.aload_n 0, 1) := by decide +kernel
theorem d_prog_4_m_10_23 : decode prog_4_method_10_code 23 = .ok (.getfield 22, 3) := by decide +kernel
theorem d_prog_4_m_10_26 : decode prog_4_method_10_code 26 = .ok (.istore_n 2, 1) := by decide +kernel
theorem d_prog_4_m_10_27 : decode prog_4_method_10_code 27 = .ok (.goto 8, 3) := by decide +kernel
theorem d_prog_4_m_10_35 : decode prog_4_method_10_code 35 = .ok (.iload_n 2, 1) := by decide +kernel
theorem d_prog_4_m_10_36 : decode prog_4_method_10_code 36 = .ok (.ireturn, 1) := by decide +kernel
theorem d_prog_4_m_16_0 : decode prog_4_method_16_code 0 = .ok (.aload_n 0, 1) := by decide +kernel
theorem d_prog_4_m_16_1 : decode prog_4_method_16_code 1 = .ok (.getfield 25, 3) := by decide +kernel
theorem d_prog_4_m_16_4 : decode prog_4_method_16_code 4 = .ok (.ireturn, 1) := by decide +kernel
theorem pd_0 : parseMethodDescriptor "(C)Z" = some ⟨[.char], some .boolean⟩ := by decide +kernel
theorem pd_1 : parseMethodDescriptor "(C)[B" = some ⟨[.char], some (.array .byte)⟩ := by decide +kernel
theorem pd_2 : parseMethodDescriptor "([BB)V" = some ⟨[(.array .byte), .byte], none⟩ := by decide +kernel
theorem pd_3 : parseMethodDescriptor "()V" = some ⟨[], none⟩ := by decide +kernel
theorem pd_4 : parseMethodDescriptor "(C)Ljava/lang/String;" = some ⟨[.char], some (.object "java/lang/String")⟩ := by decide +kernel
theorem pd_5 : parseMethodDescriptor "(ZZZZZZLjava/lang/String;Ljava/lang/String;)V" = some ⟨[.boolean, .boolean, .boolean, .boolean, .boolean, .boolean, (.object "java/lang/String"), (.object "java/lang/String")], none⟩ := by decide +kernel
theorem pd_6 : parseMethodDescriptor "()Z" = some ⟨[], some .boolean⟩ := by decide +kernel
theorem pd_7 : parseMethodDescriptor "(Lcom/example/inplace/inplace/Verdict$Algorithm;)Z" = some ⟨[(.object "com/example/inplace/inplace/Verdict$Algorithm")], some .boolean⟩ := by decide +kernel
theorem pn_0 : plainName "java/lang/StringLatin1" = true := by first | (simp [plainName, overriddenIn]; done) | decide +kernel
theorem pn_1 : plainName "java/lang/String" = true := by first | (simp [plainName, overriddenIn]; done) | decide +kernel
theorem pn_2 : plainName "java/lang/Record" = true := by first | (simp [plainName, overriddenIn]; done) | decide +kernel
theorem pn_3 : plainName "com/example/inplace/inplace/Behaviour" = true := by first | (simp [plainName, overriddenIn]; done) | decide +kernel
theorem pn_4 : plainName "com/example/inplace/inplace/BehaviourIsCopyOnlyPinLaw" = true := by first | (simp [plainName, overriddenIn]; done) | decide +kernel
theorem ef_rmCE (m : MethodId) (x0 : Int32) : entryFrame m #[(.int x0)] 1 = mkF m 0 #[.val (.int x0)] [] := by first | (simp [entryFrame, mkF, argsToLocals, Value.category]; done) | rfl
set_option maxRecDepth 65536 in
set_option maxHeartbeats 40000000 in
theorem rmCE (l : Launch) (Z : State) (a0 : Array Value) (hw : ∀ d ∈ tables_1, d.before a0 Z = true) (ws : List Jvm.Cond) (k : Int32) (h0 : Heap) (n0 : Nat) (Z0 : n0 ≤ h0.size)  :
    MetFree l (⟨"java/lang/StringLatin1", "canEncode", "(C)Z"⟩ : MethodName) (head1 (Jvm.Cond.code (⟨"java/lang/StringLatin1", "canEncode", "(C)Z"⟩ : MethodName) jdk_43_method_3_code 1 (some .boolean) :: ws) ({ frames := 0, cells := 0, slots := 0, locals := 0 } : Room)) (fun aa_ UU_ => aa_ = #[(.int k)] ∧ Z.Warmed39 UU_.vm ∧ UU_.heap = h0) (fun _ _ _ _ _ => True) (fun _ UU_ oo_ UE_ => ∃ vv_ LL_, oo_ = .returned vv_ ∧ QV (some (.int (if (255 : Int32) < k then (0 : Int32) else 1))) h0 n0 vv_ UE_.heap LL_ ∧ FrameEnd UU_ oo_ UE_ LL_ ({ frames := 0, cells := 0, slots := 0, locals := 0 } : Room).cells ({ frames := 0, cells := 0, slots := 0, locals := 0 } : Room).slots) := by
  refine MetFree.of_bodySF (plainFor_of_name pn_0) hisR ?_
  intro p e s m args below meth c s₁ Bd hml0 hP hK
  obtain ⟨rfl, hZ, hh⟩ := hP
  have hx := Bd.exec
  have hby := Bd.bytes
  have hml : c.maxLocals = 1 := hml0
  have hown : s.vm.findClass "java/lang/StringLatin1" = some m.cls := findClass_of_methodNamed Bd.named
  have hnm := (name_of_methodNamed Bd.named Bd.method).1
  have X0 : Stand p l e ({ frames := 0, cells := 0, slots := 0, locals := 0 } : Room) s m #[(.int k)] below meth c s₁ [] 0 0 := Stand.of_body Bd
  have e0 : s₁.heap = h0 := by rw [← hh, Bd.state]; rfl
  have N0 := Fr.nil n0
  have pre0 : ∀ tg, Steps p.tables e below (s₁.setTop (mkF m 0 #[.val (.int k)] [])) tg → Steps p.tables e below (s₁.setTop (entryFrame m #[(.int k)] 1)) tg := fun tg kq_ => castTop (ef_rmCE m k) kq_
  have R1 : ∀ tg, Steps p.tables e below (s₁.setTop (mkF m 4 #[.val (.int k)] [(.int (255 : Int32)), (.int k)])) tg → Steps p.tables e below (s₁.setTop (mkF m 0 #[.val (.int k)] [])) tg := by
    intro tg kt
    refine XS.iloadN X0.here hx rfl (hb hby d_jdk_43_m_3_0) rfl ?_
    show Steps p.tables e below (s₁.setTop (mkF m 1 #[.val (.int k)] [(.int k)])) _
    refine XS.sipush X0.here hx rfl (hb hby d_jdk_43_m_3_1) ?_
    show Steps p.tables e below (s₁.setTop (mkF m 4 #[.val (.int k)] [(.int (255 : Int32)), (.int k)])) _
    exact kt
  by_cases hc4_2 : (255 : Int32) < k
  · obtain ⟨fs, hr, hrun, hended, hW, hsame⟩ := X0.leave (v := some (.int (0 : Int32))) (fun h => by rw [Bd.returns] at h; cases h)
    refine ⟨_, _, pre0 _ (R1 _ ?_), hrun, hended, _, _, rfl, ?_, ⟨_, rfl⟩, hW, hsame.mono (by decide) (by decide)⟩
    · show Steps p.tables e below (s₁.setTop (mkF m 4 #[.val (.int k)] [(.int (255 : Int32)), (.int k)])) _
      refine XS.icmpYes X0.here hx rfl (pc0 := 4) (pc' := 11) rfl (hb hby d_jdk_43_m_3_4) rfl (tlt hc4_2).2.2.1 (by decide) (by decide) ?_
      show Steps p.tables e below (s₁.setTop (mkF m 11 #[.val (.int k)] [])) _
      refine XS.iconst X0.here hx rfl (hb hby d_jdk_43_m_3_11) ?_
      show Steps p.tables e below (s₁.setTop (mkF m 12 #[.val (.int k)] [(.int (0 : Int32))])) _
      exact retN X0 hx (t := .boolean) Bd.returns (by simp) (hb hby d_jdk_43_m_3_12) hr
    · show QV (some (.int (if (255 : Int32) < k then (0 : Int32) else 1))) h0 n0 _ s₁.heap _
      rw [e0]
      exact ⟨by rw [if_pos hc4_2], N0, rfl⟩
  · obtain ⟨fs, hr, hrun, hended, hW, hsame⟩ := X0.leave (v := some (.int (1 : Int32))) (fun h => by rw [Bd.returns] at h; cases h)
    refine ⟨_, _, pre0 _ (R1 _ ?_), hrun, hended, _, _, rfl, ?_, ⟨_, rfl⟩, hW, hsame.mono (by decide) (by decide)⟩
    · show Steps p.tables e below (s₁.setTop (mkF m 4 #[.val (.int k)] [(.int (255 : Int32)), (.int k)])) _
      refine XS.icmpNo X0.here hx rfl (hb hby d_jdk_43_m_3_4) rfl (flt hc4_2).2.2.1 ?_
      show Steps p.tables e below (s₁.setTop (mkF m 7 #[.val (.int k)] [])) _
      refine XS.iconst X0.here hx rfl (hb hby d_jdk_43_m_3_7) ?_
      show Steps p.tables e below (s₁.setTop (mkF m 8 #[.val (.int k)] [(.int (1 : Int32))])) _
      refine XS.goto X0.here hx rfl (pc0 := 8) (pc' := 12) rfl (hb hby d_jdk_43_m_3_8) (by decide) (by decide) ?_
      show Steps p.tables e below (s₁.setTop (mkF m 12 #[.val (.int k)] [(.int (1 : Int32))])) _
      exact retN X0 hx (t := .boolean) Bd.returns (by simp) (hb hby d_jdk_43_m_3_12) hr
    · show QV (some (.int (if (255 : Int32) < k then (0 : Int32) else 1))) h0 n0 _ s₁.heap _
      rw [e0]
      exact ⟨by rw [if_neg hc4_2], N0, rfl⟩
theorem ef_rmTB (m : MethodId) (x0 : Int32) : entryFrame m #[(.int x0)] 1 = mkF m 0 #[.val (.int x0)] [] := by first | (simp [entryFrame, mkF, argsToLocals, Value.category]; done) | rfl
set_option maxRecDepth 65536 in
set_option maxHeartbeats 40000000 in
theorem rmTB (l : Launch) (Z : State) (a0 : Array Value) (hw : ∀ d ∈ tables_1, d.before a0 Z = true) (ws : List Jvm.Cond) (k : Int32) (h0 : Heap) (n0 : Nat) (Z0 : n0 ≤ h0.size)  :
    MetFree l (⟨"java/lang/StringLatin1", "toBytes", "(C)[B"⟩ : MethodName) (head1 (Jvm.Cond.code (⟨"java/lang/StringLatin1", "toBytes", "(C)[B"⟩ : MethodName) jdk_43_method_46_code 1 (some (.array .byte)) :: ws) ({ frames := 0, cells := 1, slots := 1, locals := 0 } : Room)) (fun aa_ UU_ => aa_ = #[(.int k)] ∧ Z.Warmed39 UU_.vm ∧ UU_.heap = h0) (fun _ _ _ _ _ => True) (fun _ UU_ oo_ UE_ => ∃ vv_ LL_, oo_ = .returned vv_ ∧ QB h0 n0 vv_ UE_.heap LL_ ∧ FrameEnd UU_ oo_ UE_ LL_ ({ frames := 0, cells := 1, slots := 1, locals := 0 } : Room).cells ({ frames := 0, cells := 1, slots := 1, locals := 0 } : Room).slots) := by
  refine MetFree.of_bodySF (plainFor_of_name pn_0) hisR ?_
  intro p e s m args below meth c s₁ Bd hml0 hP hK
  obtain ⟨rfl, hZ, hh⟩ := hP
  have hx := Bd.exec
  have hby := Bd.bytes
  have hml : c.maxLocals = 1 := hml0
  have hown : s.vm.findClass "java/lang/StringLatin1" = some m.cls := findClass_of_methodNamed Bd.named
  have hnm := (name_of_methodNamed Bd.named Bd.method).1
  have X0 : Stand p l e ({ frames := 0, cells := 1, slots := 1, locals := 0 } : Room) s m #[(.int k)] below meth c s₁ [] 0 0 := Stand.of_body Bd
  have e0 : s₁.heap = h0 := by rw [← hh, Bd.state]; rfl
  have N0 := Fr.nil n0
  have K0 : Keep h0 h0 [] := Keep.refl h0 _
  have pre0 : ∀ tg, Steps p.tables e below (s₁.setTop (mkF m 0 #[.val (.int k)] [])) tg → Steps p.tables e below (s₁.setTop (entryFrame m #[(.int k)] 1)) tg := fun tg kq_ => castTop (ef_rmTB m k) kq_
  obtain ⟨T1, h1, k1, X1, e1, E1, A1, st1⟩ := newP X0 hx hZ (hw _ (List.mem_of_getElem? (i := 14) rfl)) e0 (g := (mkF m 1 #[.val (.int k)] [(.int (1 : Int32))])) rfl (hb hby d_jdk_43_m_46_1) rfl (by decide) (cap := 1) (by decide) (by decide) (by decide) (by decide)
  obtain ⟨b1, g1⟩ : ∃ z, z = h0.size := ⟨_, rfl⟩
  rw [← g1] at A1 st1
  have gb_b1 : n0 ≤ b1 := Nat.le_trans Z0 (Nat.le_of_eq g1.symm)
  have sz_b1 : h0.size ≤ b1 := Nat.le_trans K0.1 (Nat.le_of_eq g1.symm)
  have Z1 : n0 ≤ h1.size := Nat.le_trans Z0 E1.1
  have K1 : Keep h0 h1 [] := K0.ext E1
  have V1 : Arv Z h1 b1 k1 .byte (1 : Int32) [(.int (0 : Int32))] (.int (0 : Int32)) := (Arv.new A1 (by decide)).pad (pad_rep [] (.int (0 : Int32)) 1)
  obtain ⟨cl2, Ar2, q2, Sz2, Nn2, Ha2, Ga2⟩ := id V1
  have hin2 : ¬ ((0 : Int32) < 0 ∨ cl2.slots.size ≤ ((0 : Int32)).toNatClampNeg) := inb_of Sz2 ⟨by decide, by decide⟩
  obtain ⟨T2, h2, X2, e2, W2, st2⟩ := stB X1 hx hZ e1 Ar2 (j := (0 : Int32)) hin2 (g := (mkF m 7 #[.val (.int k)] [(.int (k.toInt8.toInt32)), (.int (0 : Int32)), (.ref b1), (.ref b1)])) rfl rfl (hb hby d_jdk_43_m_46_7)
  have Z2 : n0 ≤ h2.size := Nat.le_trans Z1 (Nat.le_of_eq W2.size.symm)
  have N2 := Fr.snoc X2 N0 gb_b1
  have K2 : Keep h0 h2 [] := K1.wr W2 (Or.inr sz_b1)
  obtain ⟨fs, hr, hrun, hended, hW, hsame⟩ := X2.leave (v := some (.ref b1)) (fun h => by rw [Bd.returns] at h; cases h)
  refine ⟨_, _, pre0 _ ?_, hrun, hended, _, _, rfl, ?_, ⟨_, rfl⟩, hW, hsame.mono (by decide) (by decide)⟩
  · show Steps p.tables e below (s₁.setTop (mkF m 0 #[.val (.int k)] [])) _
    refine XS.iconst X0.here hx rfl (hb hby d_jdk_43_m_46_0) ?_
    show Steps p.tables e below (s₁.setTop (mkF m 1 #[.val (.int k)] [(.int (1 : Int32))])) _
    refine st1 _ ?_
    show Steps p.tables e below (T1.setTop (mkF m 3 #[.val (.int k)] [(.ref b1)])) _
    refine XS.dup X1.here hx rfl (hb hby d_jdk_43_m_46_3) rfl rfl ?_
    show Steps p.tables e below (T1.setTop (mkF m 4 #[.val (.int k)] [(.ref b1), (.ref b1)])) _
    refine XS.iconst X1.here hx rfl (hb hby d_jdk_43_m_46_4) ?_
    show Steps p.tables e below (T1.setTop (mkF m 5 #[.val (.int k)] [(.int (0 : Int32)), (.ref b1), (.ref b1)])) _
    refine XS.iloadN X1.here hx rfl (hb hby d_jdk_43_m_46_5) rfl ?_
    show Steps p.tables e below (T1.setTop (mkF m 6 #[.val (.int k)] [(.int k), (.int (0 : Int32)), (.ref b1), (.ref b1)])) _
    refine XS.i2b X1.here hx rfl (hb hby d_jdk_43_m_46_6) rfl ?_
    show Steps p.tables e below (T1.setTop (mkF m 7 #[.val (.int k)] [(.int (k.toInt8.toInt32)), (.int (0 : Int32)), (.ref b1), (.ref b1)])) _
    refine st2 _ ?_
    show Steps p.tables e below (T2.setTop (mkF m 8 #[.val (.int k)] [(.ref b1)])) _
    jvm_step X2.here [X2.here.top, hx, (hb hby d_jdk_43_m_46_8), X2.method', Bd.returns, Value.isRef, FieldType.isReference]
    first | (intro acts; rw [hr _ acts rfl rfl rfl]) | rw [hr _ _ rfl rfl rfl]
    exact Steps.refl _
  · show QB h0 n0 _ T2.heap _
    rw [e2]
    exact ⟨b1, rfl, N2, K2⟩
theorem ef_rmSI (m : MethodId) (x0 : Addr) (x1 : Addr) (x2 : Int32) : entryFrame m #[(.ref x0), (.ref x1), (.int x2)] 3 = mkF m 0 #[.val (.ref x0), .val (.ref x1), .val (.int x2)] [] := by first | (simp [entryFrame, mkF, argsToLocals, Value.category]; done) | rfl
set_option maxRecDepth 65536 in
set_option maxHeartbeats 40000000 in
theorem rmSI (l : Launch) (Z : State) (a0 : Array Value) (hw : ∀ d ∈ tables_1, d.before a0 Z = true) (ws : List Jvm.Cond) (a r : Addr) (h0 : Heap) (n0 : Nat) (Z0 : n0 ≤ h0.size) (hE1 : Exa Z h0 a "java/lang/String") (hF1 : Fld Z h0 a "java/lang/String" "value" "[B" .null) (hF2 : Fld Z h0 a "java/lang/String" "coder" "B" (.int (0 : Int32))) (hG1 : n0 ≤ a) :
    MetFree l (⟨"java/lang/String", "<init>", "([BB)V"⟩ : MethodName) (head1 (Jvm.Cond.code (⟨"java/lang/String", "<init>", "([BB)V"⟩ : MethodName) jdk_42_method_151_code 3 none :: ws) ({ frames := 1, cells := 0, slots := 0, locals := 12 } : Room)) (fun aa_ UU_ => aa_ = #[(.ref a), (.ref r), (.int (0 : Int32))] ∧ Z.Warmed39 UU_.vm ∧ UU_.heap = h0) (fun _ _ _ _ _ => True) (fun _ UU_ oo_ UE_ => ∃ vv_ LL_, oo_ = .returned vv_ ∧ QK a h0 n0 vv_ UE_.heap LL_ ∧ FrameEnd UU_ oo_ UE_ LL_ ({ frames := 1, cells := 0, slots := 0, locals := 12 } : Room).cells ({ frames := 1, cells := 0, slots := 0, locals := 12 } : Room).slots) := by
  refine MetFree.of_bodySF (plainFor_of_name pn_1) hisR ?_
  intro p e s m args below meth c s₁ Bd hml0 hP hK
  obtain ⟨rfl, hZ, hh⟩ := hP
  have hx := Bd.exec
  have hby := Bd.bytes
  have hml : c.maxLocals = 3 := hml0
  have hown : s.vm.findClass "java/lang/String" = some m.cls := findClass_of_methodNamed Bd.named
  have hnm := (name_of_methodNamed Bd.named Bd.method).1
  have X0 : Stand p l e ({ frames := 1, cells := 0, slots := 0, locals := 12 } : Room) s m #[(.ref a), (.ref r), (.int (0 : Int32))] below meth c s₁ [] 0 0 := Stand.of_body Bd
  have e0 : s₁.heap = h0 := by rw [← hh, Bd.state]; rfl
  have N0 := Fr.nil n0
  have K0 : Keep h0 h0 [a] := Keep.refl h0 _
  have pre0 : ∀ tg, Steps p.tables e below (s₁.setTop (mkF m 0 #[.val (.ref a), .val (.ref r), .val (.int (0 : Int32))] [])) tg → Steps p.tables e below (s₁.setTop (entryFrame m #[(.ref a), (.ref r), (.int (0 : Int32))] 3)) tg := fun tg kq_ => castTop (ef_rmSI m a r (0 : Int32)) kq_
  obtain ⟨T1, X1, e1, st1⟩ := initO X0 hx hZ hown (hw _ (List.mem_of_getElem? (i := 19) rfl)) (hw _ (List.mem_of_getElem? (i := 20) rfl)) (hw _ (List.mem_of_getElem? (i := 21) rfl)) e0 (g := (mkF m 1 #[.val (.ref a), .val (.ref r), .val (.int (0 : Int32))] [(.ref a)])) rfl (by rw [hml]; rfl) rfl (hb hby d_jdk_42_m_151_1) (by decide) (W := 0) (by show 2 * 0 + _ ≤ _; exact Nat.le_of_eq rfl) (by decide)
  obtain ⟨T2, h2, X2, e2, W2, st2⟩ := putF X1 hx hZ hown (host := "") (Or.inl (hw _ (List.mem_of_getElem? (i := 22) rfl))) Via.refl e1 hF1 hE1 (Or.inr ⟨(hw _ (List.mem_of_getElem? (i := 23) rfl)), rfl, hnm⟩) (hw _ (List.mem_of_getElem? (i := 10) rfl)) (ty := (.array .byte)) (by decide) rfl rfl (g := (mkF m 6 #[.val (.ref a), .val (.ref r), .val (.int (0 : Int32))] [(.ref r), (.ref a)])) rfl rfl (hb hby d_jdk_42_m_151_6)
  have Z2 : n0 ≤ h2.size := Nat.le_trans Z0 (Nat.le_of_eq W2.size.symm)
  have N2 := Fr.snoc X2 N0 hG1
  have K2 : Keep h0 h2 [a] := K0.wr W2 (Or.inl (List.mem_of_getElem? (i := 0) rfl))
  have Fw2 := hF1.same W2
  have f4 := (hE1.wr W2)
  have f5 := (hF2.other W2 (Or.inr (slot_ne (Or.inr (hw _ (List.mem_of_getElem? (i := 25) rfl))) (Or.inr (hw _ (List.mem_of_getElem? (i := 23) rfl))) (by decide) (t := .byte) (t' := (.array .byte)) (by decide) (by decide))))
  obtain ⟨T3, h3, X3, e3, W3, st3⟩ := putFN X2 hx hZ hown (hw _ (List.mem_of_getElem? (i := 24) rfl)) Via.refl e2 f5 f4 (Or.inr ⟨(hw _ (List.mem_of_getElem? (i := 25) rfl)), rfl, hnm⟩) (hw _ (List.mem_of_getElem? (i := 10) rfl)) (ty := .byte) (v' := (.int (0 : Int32))) (by decide) rfl rfl (g := (mkF m 11 #[.val (.ref a), .val (.ref r), .val (.int (0 : Int32))] [(.int (0 : Int32)), (.ref a)])) rfl rfl (hb hby d_jdk_42_m_151_11)
  have Z3 : n0 ≤ h3.size := Nat.le_trans Z2 (Nat.le_of_eq W3.size.symm)
  have N3 := Fr.snoc X3 N2 hG1
  have K3 : Keep h0 h3 [a] := K2.wr W3 (Or.inl (List.mem_of_getElem? (i := 0) rfl))
  have Fw3 := f5.same W3
  obtain ⟨fs, hr, hrun, hended, hW, hsame⟩ := X3.leave (v := none) (fun _ => rfl)
  refine ⟨_, _, pre0 _ ?_, hrun, hended, _, _, rfl, ?_, ⟨_, rfl⟩, hW, hsame.mono (by decide) (by decide)⟩
  · show Steps p.tables e below (s₁.setTop (mkF m 0 #[.val (.ref a), .val (.ref r), .val (.int (0 : Int32))] [])) _
    refine XS.aloadN X0.here hx rfl (hb hby d_jdk_42_m_151_0) rfl rfl ?_
    show Steps p.tables e below (s₁.setTop (mkF m 1 #[.val (.ref a), .val (.ref r), .val (.int (0 : Int32))] [(.ref a)])) _
    refine st1 _ ?_
    show Steps p.tables e below (T1.setTop (mkF m 4 #[.val (.ref a), .val (.ref r), .val (.int (0 : Int32))] [])) _
    refine XS.aloadN X1.here hx rfl (hb hby d_jdk_42_m_151_4) rfl rfl ?_
    show Steps p.tables e below (T1.setTop (mkF m 5 #[.val (.ref a), .val (.ref r), .val (.int (0 : Int32))] [(.ref a)])) _
    refine XS.aloadN X1.here hx rfl (hb hby d_jdk_42_m_151_5) rfl rfl ?_
    show Steps p.tables e below (T1.setTop (mkF m 6 #[.val (.ref a), .val (.ref r), .val (.int (0 : Int32))] [(.ref r), (.ref a)])) _
    refine st2 _ ?_
    show Steps p.tables e below (T2.setTop (mkF m 9 #[.val (.ref a), .val (.ref r), .val (.int (0 : Int32))] [])) _
    refine XS.aloadN X2.here hx rfl (hb hby d_jdk_42_m_151_9) rfl rfl ?_
    show Steps p.tables e below (T2.setTop (mkF m 10 #[.val (.ref a), .val (.ref r), .val (.int (0 : Int32))] [(.ref a)])) _
    refine XS.iloadN X2.here hx rfl (hb hby d_jdk_42_m_151_10) rfl ?_
    show Steps p.tables e below (T2.setTop (mkF m 11 #[.val (.ref a), .val (.ref r), .val (.int (0 : Int32))] [(.int (0 : Int32)), (.ref a)])) _
    refine st3 _ ?_
    show Steps p.tables e below (T3.setTop (mkF m 14 #[.val (.ref a), .val (.ref r), .val (.int (0 : Int32))] [])) _
    exact X3.returnOut hx Bd.returns (hb hby d_jdk_42_m_151_14) hr
  · show QK a h0 n0 _ T3.heap _
    rw [e3]
    exact ⟨rfl, N3, K3⟩
theorem ef_rmSV (m : MethodId) (x0 : Int32) : entryFrame m #[(.int x0)] 1 = mkF m 0 #[.val (.int x0)] [] := by first | (simp [entryFrame, mkF, argsToLocals, Value.category]; done) | rfl
set_option maxRecDepth 65536 in
set_option maxHeartbeats 40000000 in
theorem rmSV (l : Launch) (Z : State) (a0 : Array Value) (hw : ∀ d ∈ tables_1, d.before a0 Z = true) (ws : List Jvm.Cond) (k cs : Int32) (h0 : Heap) (n0 : Nat) (Z0 : n0 ≤ h0.size) (hS1 : Sta Z h0 "java/lang/String" "COMPACT_STRINGS" "Z" (.int cs)) (hcs : ¬ cs = (0 : Int32)) (hk : ¬ (255 : Int32) < k) :
    MetFree l (⟨"java/lang/String", "valueOf", "(C)Ljava/lang/String;"⟩ : MethodName) (head1 (Jvm.Cond.code (⟨"java/lang/String", "valueOf", "(C)Ljava/lang/String;"⟩ : MethodName) jdk_42_method_139_code 1 (some (.object "java/lang/String")) :: ws) ({ frames := 2, cells := 2, slots := 5, locals := 27 } : Room)) (fun aa_ UU_ => aa_ = #[(.int k)] ∧ Z.Warmed39 UU_.vm ∧ UU_.heap = h0) (fun _ _ _ _ _ => True) (fun _ UU_ oo_ UE_ => ∃ vv_ LL_, oo_ = .returned vv_ ∧ QB h0 n0 vv_ UE_.heap LL_ ∧ FrameEnd UU_ oo_ UE_ LL_ ({ frames := 2, cells := 2, slots := 5, locals := 27 } : Room).cells ({ frames := 2, cells := 2, slots := 5, locals := 27 } : Room).slots) := by
  refine MetFree.of_bodySF (plainFor_of_name pn_1) hisR ?_
  intro p e s m args below meth c s₁ Bd hml0 hP hK
  obtain ⟨rfl, hZ, hh⟩ := hP
  have hx := Bd.exec
  have hby := Bd.bytes
  have hml : c.maxLocals = 1 := hml0
  have hown : s.vm.findClass "java/lang/String" = some m.cls := findClass_of_methodNamed Bd.named
  have hnm := (name_of_methodNamed Bd.named Bd.method).1
  have X0 : Stand p l e ({ frames := 2, cells := 2, slots := 5, locals := 27 } : Room) s m #[(.int k)] below meth c s₁ [] 0 0 := Stand.of_body Bd
  have e0 : s₁.heap = h0 := by rw [← hh, Bd.state]; rfl
  have N0 := Fr.nil n0
  have K0 : Keep h0 h0 [] := Keep.refl h0 _
  have pre0 : ∀ tg, Steps p.tables e below (s₁.setTop (mkF m 0 #[.val (.int k)] [])) tg → Steps p.tables e below (s₁.setTop (entryFrame m #[(.int k)] 1)) tg := fun tg kq_ => castTop (ef_rmSV m k) kq_
  obtain ⟨T1, X1, e1, st1⟩ := getS2 X0 hx hZ hown (host := "") (Or.inl (hw _ (List.mem_of_getElem? (i := 4) rfl))) Via.refl e0 hS1 (g := (mkF m 0 #[.val (.int k)] [])) rfl (hb hby d_jdk_42_m_139_0)
  obtain ⟨_, _, ⟨T2, L2, k2, n2⟩, -, X2, ⟨Lc2, hQ2, l2, y2, z2⟩, st2⟩ := Jvm.LawKit.callS X1 hx (y := (⟨"java/lang/StringLatin1", "canEncode", "(C)Z"⟩ : MethodName)) hown (mvT hZ (hw _ (List.mem_of_getElem? (i := 5) rfl))) (mvT hZ (hw _ (List.mem_of_getElem? (i := 6) rfl))) (mvT hZ (hw _ (List.mem_of_getElem? (i := 7) rfl))) (mvT hZ (hw _ (List.mem_of_getElem? (i := 8) rfl))) (by decide) (backOf (W := 0) (rmCE l Z a0 hw [] k h0 n0 Z0) hZ (hw _ (List.mem_of_getElem? (i := 8) rfl)) (hw _ (List.mem_of_getElem? (i := 7) rfl)) (by decide) (by decide)) (g := (mkF m 7 #[.val (.int k)] [(.int k)])) rfl (by rw [hml]; rfl) (argsL := [(.int k)]) (rest := []) (lenOf pd_0 rfl) rfl (by show 2 * 0 + _ ≤ _; exact Nat.le_of_eq rfl) (hb hby d_jdk_42_m_139_7) (fun _ _ => ⟨rfl, e1, (by decide : 0 + 0 ≤ _), (by decide : 0 + 0 ≤ _)⟩)
  dsimp only [Pt.U, Pt.locs, Pt.cells, Pt.slots] at X2 l2 y2 z2 st2 hQ2
  subst l2 y2 z2
  obtain ⟨hv2, N2q, r2⟩ := hQ2
  rw [if_neg hk] at hv2
  subst hv2
  have N2 := Fr.app N0 N2q
  obtain ⟨T3, h3, X3, e3, E3, A3, D3, -, st3⟩ := newO X2 hx hZ hown (hw _ (List.mem_of_getElem? (i := 9) rfl)) (hw _ (List.mem_of_getElem? (i := 10) rfl)) (hw _ (List.mem_of_getElem? (i := 2) rfl)) r2 (g := (mkF m 13 #[.val (.int k)] [])) rfl (hb hby d_jdk_42_m_139_13) (by decide) (by decide)
  obtain ⟨b3, g3⟩ : ∃ z, z = h0.size := ⟨_, rfl⟩
  rw [← g3] at A3 D3 st3
  have gb_b3 : n0 ≤ b3 := Nat.le_trans Z0 (Nat.le_of_eq g3.symm)
  have sz_b3 : h0.size ≤ b3 := Nat.le_trans K0.1 (Nat.le_of_eq g3.symm)
  have Z3 : n0 ≤ h3.size := Nat.le_trans Z0 E3.1
  have K3 : Keep h0 h3 [] := K0.ext E3
  have F3_value : Fld Z h3 b3 "java/lang/String" "value" "[B" .null := D3 (Or.inr (hw _ (List.mem_of_getElem? (i := 23) rfl))) (ty := (.array .byte)) (by decide)
  have F3_coder : Fld Z h3 b3 "java/lang/String" "coder" "B" (.int (0 : Int32)) := D3 (Or.inr (hw _ (List.mem_of_getElem? (i := 25) rfl))) (ty := .byte) (by decide)
  obtain ⟨_, _, ⟨T4, L4, k4, n4⟩, -, X4, ⟨Lc4, hQ4, l4, y4, z4⟩, st4⟩ := Jvm.LawKit.callS X3 hx (y := (⟨"java/lang/StringLatin1", "toBytes", "(C)[B"⟩ : MethodName)) hown (mvT hZ (hw _ (List.mem_of_getElem? (i := 11) rfl))) (mvT hZ (hw _ (List.mem_of_getElem? (i := 12) rfl))) (mvT hZ (hw _ (List.mem_of_getElem? (i := 7) rfl))) (mvT hZ (hw _ (List.mem_of_getElem? (i := 13) rfl))) (by decide) (backOf (W := 2) (rmTB l Z a0 hw [] k h3 n0 Z3) hZ (hw _ (List.mem_of_getElem? (i := 13) rfl)) (hw _ (List.mem_of_getElem? (i := 7) rfl)) (by decide) (by decide)) (g := (mkF m 18 #[.val (.int k)] [(.int k), (.ref b3), (.ref b3)])) rfl (by rw [hml]; rfl) (argsL := [(.int k)]) (rest := [(.ref b3), (.ref b3)]) (lenOf pd_1 rfl) rfl (by show 2 * 0 + _ ≤ _; exact Nat.le_of_eq rfl) (hb hby d_jdk_42_m_139_18) (fun _ _ => ⟨rfl, e3, (by decide : 1 + 1 ≤ _), (by decide : 4 + 1 ≤ _)⟩)
  dsimp only [Pt.U, Pt.locs, Pt.cells, Pt.slots] at X4 l4 y4 z4 st4 hQ4
  subst l4 y4 z4
  obtain ⟨by4, hv4, N4q, kp4⟩ := hQ4
  subst hv4
  have N4 := Fr.app N2 N4q
  have Z4 : n0 ≤ T4.heap.size := Nat.le_trans Z3 kp4.1
  have K4 : Keep h0 T4.heap [] := K3.trans kp4 all0
  have f5 := (A3.keep kp4)
  have f6 := (F3_value.keep kp4 nin0)
  have f7 := (F3_coder.keep kp4 nin0)
  obtain ⟨_, _, ⟨T8, L8, k8, n8⟩, -, X8, ⟨Lc8, hQ8, l8, y8, z8⟩, st8⟩ := X4.specialBack hx (y := (⟨"java/lang/String", "<init>", "([BB)V"⟩ : MethodName)) rfl hown (mvT hZ (hw _ (List.mem_of_getElem? (i := 15) rfl))) (mvT hZ (hw _ (List.mem_of_getElem? (i := 16) rfl))) (mvT hZ (hw _ (List.mem_of_getElem? (i := 18) rfl))) (by decide) (backOf (W := 1) (rmSI l Z a0 hw [] b3 by4 T4.heap n0 Z4 f5 f6 f7 gb_b3) hZ (hw _ (List.mem_of_getElem? (i := 18) rfl)) (hw _ (List.mem_of_getElem? (i := 2) rfl)) (by decide) (by decide)) (g := (mkF m 22 #[.val (.int k)] [(.int (0 : Int32)), (.ref by4), (.ref b3), (.ref b3)])) rfl (by rw [hml]; rfl) (Steps.refl _) (a := b3) (argsL := [(.ref by4), (.int (0 : Int32))]) (rest := [(.ref b3)]) (lenOf pd_2 rfl) rfl (by show 2 * 0 + _ ≤ _; exact Nat.le_of_eq rfl) (hb hby d_jdk_42_m_139_22) (fun _ _ => ⟨rfl, rfl, (by decide : 2 + 0 ≤ _), (by decide : 5 + 0 ≤ _)⟩)
  dsimp only [Pt.U, Pt.locs, Pt.cells, Pt.slots] at X8 l8 y8 z8 st8 hQ8
  subst l8 y8 z8
  obtain ⟨hv8, N8q, kp8⟩ := hQ8
  subst hv8
  have N8 := Fr.app N4 N8q
  have Z8 : n0 ≤ T8.heap.size := Nat.le_trans Z4 kp8.1
  have K8 : Keep h0 T8.heap [] := K4.trans kp8 (allS (Or.inr sz_b3) all0)
  obtain ⟨fs, hr, hrun, hended, hW, hsame⟩ := X8.leave (v := some (.ref b3)) (fun h => by rw [Bd.returns] at h; cases h)
  refine ⟨_, _, pre0 _ ?_, hrun, hended, _, _, rfl, ?_, ⟨_, rfl⟩, hW, hsame.mono (by decide) (by decide)⟩
  · show Steps p.tables e below (s₁.setTop (mkF m 0 #[.val (.int k)] [])) _
    refine st1 _ ?_
    show Steps p.tables e below (T1.setTop (mkF m 3 #[.val (.int k)] [(.int cs)])) _
    refine XS.ifNo X1.here hx rfl (hb hby d_jdk_42_m_139_3) rfl ((if0 _ _).trans (feq hcs).1) ?_
    show Steps p.tables e below (T1.setTop (mkF m 6 #[.val (.int k)] [])) _
    refine XS.iloadN X1.here hx rfl (hb hby d_jdk_42_m_139_6) rfl ?_
    show Steps p.tables e below (T1.setTop (mkF m 7 #[.val (.int k)] [(.int k)])) _
    refine st2 _ ?_
    show Steps p.tables e below (T2.setTop (mkF m 10 #[.val (.int k)] [(.int (1 : Int32))])) _
    refine XS.ifNo X2.here hx rfl (hb hby d_jdk_42_m_139_10) rfl ((if0 _ _).trans (feq (by decide : ¬ ((1 : Int32) = (0 : Int32)))).1) ?_
    show Steps p.tables e below (T2.setTop (mkF m 13 #[.val (.int k)] [])) _
    refine st3 _ ?_
    show Steps p.tables e below (T3.setTop (mkF m 16 #[.val (.int k)] [(.ref b3)])) _
    refine XS.dup X3.here hx rfl (hb hby d_jdk_42_m_139_16) rfl rfl ?_
    show Steps p.tables e below (T3.setTop (mkF m 17 #[.val (.int k)] [(.ref b3), (.ref b3)])) _
    refine XS.iloadN X3.here hx rfl (hb hby d_jdk_42_m_139_17) rfl ?_
    show Steps p.tables e below (T3.setTop (mkF m 18 #[.val (.int k)] [(.int k), (.ref b3), (.ref b3)])) _
    refine st4 _ ?_
    show Steps p.tables e below (T4.setTop (mkF m 21 #[.val (.int k)] [(.ref by4), (.ref b3), (.ref b3)])) _
    refine XS.iconst X4.here hx rfl (hb hby d_jdk_42_m_139_21) ?_
    show Steps p.tables e below (T4.setTop (mkF m 22 #[.val (.int k)] [(.int (0 : Int32)), (.ref by4), (.ref b3), (.ref b3)])) _
    refine st8.trans ?_
    show Steps p.tables e below (T8.setTop (mkF m 25 #[.val (.int k)] [(.ref b3)])) _
    jvm_step X8.here [X8.here.top, hx, (hb hby d_jdk_42_m_139_25), X8.method', Bd.returns, Value.isRef, FieldType.isReference]
    first | (intro acts; rw [hr _ acts rfl rfl rfl]) | rw [hr _ _ rfl rfl rfl]
    exact Steps.refl _
  · show QB h0 n0 _ T8.heap _
    exact ⟨b3, rfl, N8, K8⟩
theorem ef_rmRI (m : MethodId) (x0 : Addr) : entryFrame m #[(.ref x0)] 1 = mkF m 0 #[.val (.ref x0)] [] := by first | (simp [entryFrame, mkF, argsToLocals, Value.category]; done) | rfl
set_option maxRecDepth 65536 in
set_option maxHeartbeats 40000000 in
theorem rmRI (l : Launch) (Z : State) (a0 : Array Value) (hw : ∀ d ∈ tables_1, d.before a0 Z = true) (ws : List Jvm.Cond) (a : Addr) (h0 : Heap) (n0 : Nat) (Z0 : n0 ≤ h0.size)  :
    MetFree l (⟨"java/lang/Record", "<init>", "()V"⟩ : MethodName) (head1 (Jvm.Cond.code (⟨"java/lang/Record", "<init>", "()V"⟩ : MethodName) jdk_30_method_1_code 1 none :: ws) ({ frames := 1, cells := 0, slots := 0, locals := 12 } : Room)) (fun aa_ UU_ => aa_ = #[(.ref a)] ∧ Z.Warmed39 UU_.vm ∧ UU_.heap = h0) (fun _ _ _ _ _ => True) (fun _ UU_ oo_ UE_ => ∃ vv_ LL_, oo_ = .returned vv_ ∧ QV none h0 n0 vv_ UE_.heap LL_ ∧ FrameEnd UU_ oo_ UE_ LL_ ({ frames := 1, cells := 0, slots := 0, locals := 12 } : Room).cells ({ frames := 1, cells := 0, slots := 0, locals := 12 } : Room).slots) := by
  refine MetFree.of_bodySF (plainFor_of_name pn_2) hisR ?_
  intro p e s m args below meth c s₁ Bd hml0 hP hK
  obtain ⟨rfl, hZ, hh⟩ := hP
  have hx := Bd.exec
  have hby := Bd.bytes
  have hml : c.maxLocals = 1 := hml0
  have hown : s.vm.findClass "java/lang/Record" = some m.cls := findClass_of_methodNamed Bd.named
  have hnm := (name_of_methodNamed Bd.named Bd.method).1
  have X0 : Stand p l e ({ frames := 1, cells := 0, slots := 0, locals := 12 } : Room) s m #[(.ref a)] below meth c s₁ [] 0 0 := Stand.of_body Bd
  have e0 : s₁.heap = h0 := by rw [← hh, Bd.state]; rfl
  have N0 := Fr.nil n0
  have pre0 : ∀ tg, Steps p.tables e below (s₁.setTop (mkF m 0 #[.val (.ref a)] [])) tg → Steps p.tables e below (s₁.setTop (entryFrame m #[(.ref a)] 1)) tg := fun tg kq_ => castTop (ef_rmRI m a) kq_
  obtain ⟨T1, X1, e1, st1⟩ := initO X0 hx hZ hown (hw _ (List.mem_of_getElem? (i := 37) rfl)) (hw _ (List.mem_of_getElem? (i := 20) rfl)) (hw _ (List.mem_of_getElem? (i := 21) rfl)) e0 (g := (mkF m 1 #[.val (.ref a)] [(.ref a)])) rfl (by rw [hml]; rfl) rfl (hb hby d_jdk_30_m_1_1) (by decide) (W := 0) (by show 2 * 0 + _ ≤ _; exact Nat.le_of_eq rfl) (by decide)
  obtain ⟨fs, hr, hrun, hended, hW, hsame⟩ := X1.leave (v := none) (fun _ => rfl)
  refine ⟨_, _, pre0 _ ?_, hrun, hended, _, _, rfl, ?_, ⟨_, rfl⟩, hW, hsame.mono (by decide) (by decide)⟩
  · show Steps p.tables e below (s₁.setTop (mkF m 0 #[.val (.ref a)] [])) _
    refine XS.aloadN X0.here hx rfl (hb hby d_jdk_30_m_1_0) rfl rfl ?_
    show Steps p.tables e below (s₁.setTop (mkF m 1 #[.val (.ref a)] [(.ref a)])) _
    refine st1 _ ?_
    show Steps p.tables e below (T1.setTop (mkF m 4 #[.val (.ref a)] [])) _
    exact X1.returnOut hx Bd.returns (hb hby d_jdk_30_m_1_4) hr
  · show QV none h0 n0 _ T1.heap _
    rw [e1]
    exact ⟨rfl, N0, rfl⟩
theorem ef_rmBI (m : MethodId) (x0 : Addr) (x1 : Int32) (x2 : Int32) (x3 : Int32) (x4 : Int32) (x5 : Int32) (x6 : Int32) (x7 : Value) (x8 : Value) (hx7 : x7.isRef = true) (hx8 : x8.isRef = true) : entryFrame m #[(.ref x0), (.int x1), (.int x2), (.int x3), (.int x4), (.int x5), (.int x6), x7, x8] 9 = mkF m 0 #[.val (.ref x0), .val (.int x1), .val (.int x2), .val (.int x3), .val (.int x4), .val (.int x5), .val (.int x6), .val x7, .val x8] [] := by rcases ref_cases hx7 with rfl | ⟨_, rfl⟩ <;> rcases ref_cases hx8 with rfl | ⟨_, rfl⟩ <;> first | (simp [entryFrame, mkF, argsToLocals, Value.category]; done) | rfl
set_option maxRecDepth 65536 in
set_option maxHeartbeats 40000000 in
theorem rmBI (l : Launch) (Z : State) (a0 : Array Value) (hw : ∀ d ∈ tables_1, d.before a0 Z = true) (ws : List Jvm.Cond) (a : Addr) (bz1 bz2 bz3 bz4 bz5 bz6 : Int32) (rfa rfb : Value) (h0 : Heap) (n0 : Nat) (Z0 : n0 ≤ h0.size) (hE1 : Exa Z h0 a "com/example/inplace/inplace/Behaviour") (hF_instant : Fld Z h0 a "com/example/inplace/inplace/Behaviour" "instant" "Z" (.int (0 : Int32))) (hF_inPlace : Fld Z h0 a "com/example/inplace/inplace/Behaviour" "inPlace" "Z" (.int (0 : Int32))) (hF_copy : Fld Z h0 a "com/example/inplace/inplace/Behaviour" "copy" "Z" (.int (0 : Int32))) (hF_rebuildsTable : Fld Z h0 a "com/example/inplace/inplace/Behaviour" "rebuildsTable" "Z" (.int (0 : Int32))) (hF_concurrentDml : Fld Z h0 a "com/example/inplace/inplace/Behaviour" "concurrentDml" "Z" (.int (0 : Int32))) (hF_metadataOnly : Fld Z h0 a "com/example/inplace/inplace/Behaviour" "metadataOnly" "Z" (.int (0 : Int32))) (hF_refusal : Fld Z h0 a "com/example/inplace/inplace/Behaviour" "refusal" "Ljava/lang/String;" .null) (hF_instantRefusal : Fld Z h0 a "com/example/inplace/inplace/Behaviour" "instantRefusal" "Ljava/lang/String;" .null) (hG1 : n0 ≤ a) (hbz1 : bz1 = 0 ∨ bz1 = 1) (hbz2 : bz2 = 0 ∨ bz2 = 1) (hbz3 : bz3 = 0 ∨ bz3 = 1) (hbz4 : bz4 = 0 ∨ bz4 = 1) (hbz5 : bz5 = 0 ∨ bz5 = 1) (hbz6 : bz6 = 0 ∨ bz6 = 1) (hrfa : rfa.isRef = true) (hrfb : rfb.isRef = true) (hA : ¬ bz1 = 0 ∨ ¬ bz2 = 0 ∨ ¬ bz3 = 0) (hB : bz4 = 0 ∨ bz6 = 0) :
    MetFree l (⟨"com/example/inplace/inplace/Behaviour", "<init>", "(ZZZZZZLjava/lang/String;Ljava/lang/String;)V"⟩ : MethodName) (head1 (Jvm.Cond.code (⟨"com/example/inplace/inplace/Behaviour", "<init>", "(ZZZZZZLjava/lang/String;Ljava/lang/String;)V"⟩ : MethodName) prog_4_method_1_code 9 none :: ws) ({ frames := 2, cells := 0, slots := 0, locals := 24 } : Room)) (fun aa_ UU_ => aa_ = #[(.ref a), (.int bz1), (.int bz2), (.int bz3), (.int bz4), (.int bz5), (.int bz6), rfa, rfb] ∧ Z.Warmed39 UU_.vm ∧ UU_.heap = h0) (fun _ _ _ _ _ => True) (fun _ UU_ oo_ UE_ => ∃ vv_ LL_, oo_ = .returned vv_ ∧ QBI Z a bz1 bz2 bz3 h0 n0 vv_ UE_.heap LL_ ∧ FrameEnd UU_ oo_ UE_ LL_ ({ frames := 2, cells := 0, slots := 0, locals := 24 } : Room).cells ({ frames := 2, cells := 0, slots := 0, locals := 24 } : Room).slots) := by
  refine MetFree.of_bodySF (plainFor_of_name pn_3) hisR ?_
  intro p e s m args below meth c s₁ Bd hml0 hP hK
  obtain ⟨rfl, hZ, hh⟩ := hP
  have hx := Bd.exec
  have hby := Bd.bytes
  have hml : c.maxLocals = 9 := hml0
  have hown : s.vm.findClass "com/example/inplace/inplace/Behaviour" = some m.cls := findClass_of_methodNamed Bd.named
  have hnm := (name_of_methodNamed Bd.named Bd.method).1
  have X0 : Stand p l e ({ frames := 2, cells := 0, slots := 0, locals := 24 } : Room) s m #[(.ref a), (.int bz1), (.int bz2), (.int bz3), (.int bz4), (.int bz5), (.int bz6), rfa, rfb] below meth c s₁ [] 0 0 := Stand.of_body Bd
  have e0 : s₁.heap = h0 := by rw [← hh, Bd.state]; rfl
  have N0 := Fr.nil n0
  have K0 : Keep h0 h0 [a] := Keep.refl h0 _
  have pre0 : ∀ tg, Steps p.tables e below (s₁.setTop (mkF m 0 #[.val (.ref a), .val (.int bz1), .val (.int bz2), .val (.int bz3), .val (.int bz4), .val (.int bz5), .val (.int bz6), .val rfa, .val rfb] [])) tg → Steps p.tables e below (s₁.setTop (entryFrame m #[(.ref a), (.int bz1), (.int bz2), (.int bz3), (.int bz4), (.int bz5), (.int bz6), rfa, rfb] 9)) tg := fun tg kq_ => castTop (ef_rmBI m a bz1 bz2 bz3 bz4 bz5 bz6 rfa rfb hrfa hrfb) kq_
  obtain ⟨_, _, ⟨T1, L1, k1, n1⟩, -, X1, ⟨Lc1, hQ1, l1, y1, z1⟩, st1⟩ := X0.specialBack hx (y := (⟨"java/lang/Record", "<init>", "()V"⟩ : MethodName)) rfl hown (mvT hZ (hw _ (List.mem_of_getElem? (i := 32) rfl))) (mvT hZ (hw _ (List.mem_of_getElem? (i := 33) rfl))) (mvT hZ (hw _ (List.mem_of_getElem? (i := 36) rfl))) (by decide) (backOf (W := 0) (rmRI l Z a0 hw [] a h0 n0 Z0) hZ (hw _ (List.mem_of_getElem? (i := 36) rfl)) (hw _ (List.mem_of_getElem? (i := 35) rfl)) (by decide) (by decide)) (g := (mkF m 1 #[.val (.ref a), .val (.int bz1), .val (.int bz2), .val (.int bz3), .val (.int bz4), .val (.int bz5), .val (.int bz6), .val rfa, .val rfb] [(.ref a)])) rfl (by rw [hml]; rfl) (Steps.refl _) (a := a) (argsL := []) (rest := []) (lenOf pd_3 rfl) rfl (by show 2 * 0 + _ ≤ _; exact Nat.le_of_eq rfl) (hb hby d_prog_4_m_1_1) (fun _ _ => ⟨rfl, e0, (by decide : 0 + 0 ≤ _), (by decide : 0 + 0 ≤ _)⟩)
  dsimp only [Pt.U, Pt.locs, Pt.cells, Pt.slots] at X1 l1 y1 z1 st1 hQ1
  subst l1 y1 z1
  obtain ⟨hv1, N1q, r1⟩ := hQ1
  subst hv1
  have N1 := Fr.app N0 N1q
  have R2 : ∀ tg, Steps p.tables e below (T1.setTop (mkF m 4 #[.val (.ref a), .val (.int bz1), .val (.int bz2), .val (.int bz3), .val (.int bz4), .val (.int bz5), .val (.int bz6), .val rfa, .val rfb] [])) tg → Steps p.tables e below (s₁.setTop (mkF m 0 #[.val (.ref a), .val (.int bz1), .val (.int bz2), .val (.int bz3), .val (.int bz4), .val (.int bz5), .val (.int bz6), .val rfa, .val rfb] [])) tg := by
    intro tg kt
    refine XS.aloadN X0.here hx rfl (hb hby d_prog_4_m_1_0) rfl rfl ?_
    show Steps p.tables e below (s₁.setTop (mkF m 1 #[.val (.ref a), .val (.int bz1), .val (.int bz2), .val (.int bz3), .val (.int bz4), .val (.int bz5), .val (.int bz6), .val rfa, .val rfb] [(.ref a)])) _
    refine st1.trans ?_
    show Steps p.tables e below (T1.setTop (mkF m 4 #[.val (.ref a), .val (.int bz1), .val (.int bz2), .val (.int bz3), .val (.int bz4), .val (.int bz5), .val (.int bz6), .val rfa, .val rfb] [])) _
    exact kt
  obtain ⟨T3, L3, X3, e3, N3, R3⟩ : ∃ (T' : State) (L' : List Loc), Stand p l e ({ frames := 2, cells := 0, slots := 0, locals := 24 } : Room) s m #[(.ref a), (.int bz1), (.int bz2), (.int bz3), (.int bz4), (.int bz5), (.int bz6), rfa, rfb] below meth c T' L' 0 0 ∧ T'.heap = h0 ∧ Fr n0 L' ∧ ∀ tg, Steps p.tables e below (T'.setTop (mkF m 26 #[.val (.ref a), .val (.int bz1), .val (.int bz2), .val (.int bz3), .val (.int bz4), .val (.int bz5), .val (.int bz6), .val rfa, .val rfb] [])) tg → Steps p.tables e below (T1.setTop (mkF m 4 #[.val (.ref a), .val (.int bz1), .val (.int bz2), .val (.int bz3), .val (.int bz4), .val (.int bz5), .val (.int bz6), .val rfa, .val rfb] [])) tg := by
    have R4 : ∀ tg, Steps p.tables e below (T1.setTop (mkF m 5 #[.val (.ref a), .val (.int bz1), .val (.int bz2), .val (.int bz3), .val (.int bz4), .val (.int bz5), .val (.int bz6), .val rfa, .val rfb] [(.int bz1)])) tg → Steps p.tables e below (T1.setTop (mkF m 4 #[.val (.ref a), .val (.int bz1), .val (.int bz2), .val (.int bz3), .val (.int bz4), .val (.int bz5), .val (.int bz6), .val rfa, .val rfb] [])) tg := by
      intro tg kt
      refine XS.iloadN X1.here hx rfl (hb hby d_prog_4_m_1_4) rfl ?_
      show Steps p.tables e below (T1.setTop (mkF m 5 #[.val (.ref a), .val (.int bz1), .val (.int bz2), .val (.int bz3), .val (.int bz4), .val (.int bz5), .val (.int bz6), .val rfa, .val rfb] [(.int bz1)])) _
      exact kt
    by_cases hc5_5 : bz1 = (0 : Int32)
    · have R6 : ∀ tg, Steps p.tables e below (T1.setTop (mkF m 9 #[.val (.ref a), .val (.int bz1), .val (.int bz2), .val (.int bz3), .val (.int bz4), .val (.int bz5), .val (.int bz6), .val rfa, .val rfb] [(.int bz2)])) tg → Steps p.tables e below (T1.setTop (mkF m 5 #[.val (.ref a), .val (.int bz1), .val (.int bz2), .val (.int bz3), .val (.int bz4), .val (.int bz5), .val (.int bz6), .val rfa, .val rfb] [(.int bz1)])) tg := by
        intro tg kt
        refine XS.ifNo X1.here hx rfl (hb hby d_prog_4_m_1_5) rfl ((if0 _ _).trans (teq hc5_5).2) ?_
        show Steps p.tables e below (T1.setTop (mkF m 8 #[.val (.ref a), .val (.int bz1), .val (.int bz2), .val (.int bz3), .val (.int bz4), .val (.int bz5), .val (.int bz6), .val rfa, .val rfb] [])) _
        refine XS.iloadN X1.here hx rfl (hb hby d_prog_4_m_1_8) rfl ?_
        show Steps p.tables e below (T1.setTop (mkF m 9 #[.val (.ref a), .val (.int bz1), .val (.int bz2), .val (.int bz3), .val (.int bz4), .val (.int bz5), .val (.int bz6), .val rfa, .val rfb] [(.int bz2)])) _
        exact kt
      by_cases hc9_7 : bz2 = (0 : Int32)
      · have R8 : ∀ tg, Steps p.tables e below (T1.setTop (mkF m 13 #[.val (.ref a), .val (.int bz1), .val (.int bz2), .val (.int bz3), .val (.int bz4), .val (.int bz5), .val (.int bz6), .val rfa, .val rfb] [(.int bz3)])) tg → Steps p.tables e below (T1.setTop (mkF m 9 #[.val (.ref a), .val (.int bz1), .val (.int bz2), .val (.int bz3), .val (.int bz4), .val (.int bz5), .val (.int bz6), .val rfa, .val rfb] [(.int bz2)])) tg := by
          intro tg kt
          refine XS.ifNo X1.here hx rfl (hb hby d_prog_4_m_1_9) rfl ((if0 _ _).trans (teq hc9_7).2) ?_
          show Steps p.tables e below (T1.setTop (mkF m 12 #[.val (.ref a), .val (.int bz1), .val (.int bz2), .val (.int bz3), .val (.int bz4), .val (.int bz5), .val (.int bz6), .val rfa, .val rfb] [])) _
          refine XS.iloadN X1.here hx rfl (hb hby d_prog_4_m_1_12) rfl ?_
          show Steps p.tables e below (T1.setTop (mkF m 13 #[.val (.ref a), .val (.int bz1), .val (.int bz2), .val (.int bz3), .val (.int bz4), .val (.int bz5), .val (.int bz6), .val rfa, .val rfb] [(.int bz3)])) _
          exact kt
        by_cases hc13_9 : bz3 = (0 : Int32)
        · exact absurd hA (fun z => z.elim (fun q => q hc5_5) (fun z => z.elim (fun q => q hc9_7) (fun q => q hc13_9)))
        · have R10 : ∀ tg, Steps p.tables e below (T1.setTop (mkF m 26 #[.val (.ref a), .val (.int bz1), .val (.int bz2), .val (.int bz3), .val (.int bz4), .val (.int bz5), .val (.int bz6), .val rfa, .val rfb] [])) tg → Steps p.tables e below (T1.setTop (mkF m 13 #[.val (.ref a), .val (.int bz1), .val (.int bz2), .val (.int bz3), .val (.int bz4), .val (.int bz5), .val (.int bz6), .val rfa, .val rfb] [(.int bz3)])) tg := by
            intro tg kt
            refine XS.ifYes X1.here hx rfl (pc0 := 13) (pc' := 26) rfl (hb hby d_prog_4_m_1_13) rfl ((if0 _ _).trans (feq hc13_9).2) (by decide) (by decide) ?_
            show Steps p.tables e below (T1.setTop (mkF m 26 #[.val (.ref a), .val (.int bz1), .val (.int bz2), .val (.int bz3), .val (.int bz4), .val (.int bz5), .val (.int bz6), .val rfa, .val rfb] [])) _
            exact kt
          exact ⟨T1, _, X1.more (by decide) (by decide), r1, N1, fun _ kt => (R4 _ (R6 _ (R8 _ (R10 _ kt))))⟩
      · have R11 : ∀ tg, Steps p.tables e below (T1.setTop (mkF m 26 #[.val (.ref a), .val (.int bz1), .val (.int bz2), .val (.int bz3), .val (.int bz4), .val (.int bz5), .val (.int bz6), .val rfa, .val rfb] [])) tg → Steps p.tables e below (T1.setTop (mkF m 9 #[.val (.ref a), .val (.int bz1), .val (.int bz2), .val (.int bz3), .val (.int bz4), .val (.int bz5), .val (.int bz6), .val rfa, .val rfb] [(.int bz2)])) tg := by
          intro tg kt
          refine XS.ifYes X1.here hx rfl (pc0 := 9) (pc' := 26) rfl (hb hby d_prog_4_m_1_9) rfl ((if0 _ _).trans (feq hc9_7).2) (by decide) (by decide) ?_
          show Steps p.tables e below (T1.setTop (mkF m 26 #[.val (.ref a), .val (.int bz1), .val (.int bz2), .val (.int bz3), .val (.int bz4), .val (.int bz5), .val (.int bz6), .val rfa, .val rfb] [])) _
          exact kt
        exact ⟨T1, _, X1.more (by decide) (by decide), r1, N1, fun _ kt => (R4 _ (R6 _ (R11 _ kt)))⟩
    · have R12 : ∀ tg, Steps p.tables e below (T1.setTop (mkF m 26 #[.val (.ref a), .val (.int bz1), .val (.int bz2), .val (.int bz3), .val (.int bz4), .val (.int bz5), .val (.int bz6), .val rfa, .val rfb] [])) tg → Steps p.tables e below (T1.setTop (mkF m 5 #[.val (.ref a), .val (.int bz1), .val (.int bz2), .val (.int bz3), .val (.int bz4), .val (.int bz5), .val (.int bz6), .val rfa, .val rfb] [(.int bz1)])) tg := by
        intro tg kt
        refine XS.ifYes X1.here hx rfl (pc0 := 5) (pc' := 26) rfl (hb hby d_prog_4_m_1_5) rfl ((if0 _ _).trans (feq hc5_5).2) (by decide) (by decide) ?_
        show Steps p.tables e below (T1.setTop (mkF m 26 #[.val (.ref a), .val (.int bz1), .val (.int bz2), .val (.int bz3), .val (.int bz4), .val (.int bz5), .val (.int bz6), .val rfa, .val rfb] [])) _
        exact kt
      exact ⟨T1, _, X1.more (by decide) (by decide), r1, N1, fun _ kt => (R4 _ (R12 _ kt))⟩
  obtain ⟨T13, L13, X13, e13, N13, R13⟩ : ∃ (T' : State) (L' : List Loc), Stand p l e ({ frames := 2, cells := 0, slots := 0, locals := 24 } : Room) s m #[(.ref a), (.int bz1), (.int bz2), (.int bz3), (.int bz4), (.int bz5), (.int bz6), rfa, rfb] below meth c T' L' 0 0 ∧ T'.heap = h0 ∧ Fr n0 L' ∧ ∀ tg, Steps p.tables e below (T'.setTop (mkF m 46 #[.val (.ref a), .val (.int bz1), .val (.int bz2), .val (.int bz3), .val (.int bz4), .val (.int bz5), .val (.int bz6), .val rfa, .val rfb] [])) tg → Steps p.tables e below (T3.setTop (mkF m 26 #[.val (.ref a), .val (.int bz1), .val (.int bz2), .val (.int bz3), .val (.int bz4), .val (.int bz5), .val (.int bz6), .val rfa, .val rfb] [])) tg := by
    have R14 : ∀ tg, Steps p.tables e below (T3.setTop (mkF m 28 #[.val (.ref a), .val (.int bz1), .val (.int bz2), .val (.int bz3), .val (.int bz4), .val (.int bz5), .val (.int bz6), .val rfa, .val rfb] [(.int bz4)])) tg → Steps p.tables e below (T3.setTop (mkF m 26 #[.val (.ref a), .val (.int bz1), .val (.int bz2), .val (.int bz3), .val (.int bz4), .val (.int bz5), .val (.int bz6), .val rfa, .val rfb] [])) tg := by
      intro tg kt
      refine XS.iload X3.here hx rfl (hb hby d_prog_4_m_1_26) rfl ?_
      show Steps p.tables e below (T3.setTop (mkF m 28 #[.val (.ref a), .val (.int bz1), .val (.int bz2), .val (.int bz3), .val (.int bz4), .val (.int bz5), .val (.int bz6), .val rfa, .val rfb] [(.int bz4)])) _
      exact kt
    by_cases hc28_15 : bz4 = (0 : Int32)
    · have R16 : ∀ tg, Steps p.tables e below (T3.setTop (mkF m 46 #[.val (.ref a), .val (.int bz1), .val (.int bz2), .val (.int bz3), .val (.int bz4), .val (.int bz5), .val (.int bz6), .val rfa, .val rfb] [])) tg → Steps p.tables e below (T3.setTop (mkF m 28 #[.val (.ref a), .val (.int bz1), .val (.int bz2), .val (.int bz3), .val (.int bz4), .val (.int bz5), .val (.int bz6), .val rfa, .val rfb] [(.int bz4)])) tg := by
        intro tg kt
        refine XS.ifYes X3.here hx rfl (pc0 := 28) (pc' := 46) rfl (hb hby d_prog_4_m_1_28) rfl ((if0 _ _).trans (teq hc28_15).1) (by decide) (by decide) ?_
        show Steps p.tables e below (T3.setTop (mkF m 46 #[.val (.ref a), .val (.int bz1), .val (.int bz2), .val (.int bz3), .val (.int bz4), .val (.int bz5), .val (.int bz6), .val rfa, .val rfb] [])) _
        exact kt
      exact ⟨T3, _, X3.more (by decide) (by decide), e3, N3, fun _ kt => (R14 _ (R16 _ kt))⟩
    · have R17 : ∀ tg, Steps p.tables e below (T3.setTop (mkF m 33 #[.val (.ref a), .val (.int bz1), .val (.int bz2), .val (.int bz3), .val (.int bz4), .val (.int bz5), .val (.int bz6), .val rfa, .val rfb] [(.int bz6)])) tg → Steps p.tables e below (T3.setTop (mkF m 28 #[.val (.ref a), .val (.int bz1), .val (.int bz2), .val (.int bz3), .val (.int bz4), .val (.int bz5), .val (.int bz6), .val rfa, .val rfb] [(.int bz4)])) tg := by
        intro tg kt
        refine XS.ifNo X3.here hx rfl (hb hby d_prog_4_m_1_28) rfl ((if0 _ _).trans (feq hc28_15).1) ?_
        show Steps p.tables e below (T3.setTop (mkF m 31 #[.val (.ref a), .val (.int bz1), .val (.int bz2), .val (.int bz3), .val (.int bz4), .val (.int bz5), .val (.int bz6), .val rfa, .val rfb] [])) _
        refine XS.iload X3.here hx rfl (hb hby d_prog_4_m_1_31) rfl ?_
        show Steps p.tables e below (T3.setTop (mkF m 33 #[.val (.ref a), .val (.int bz1), .val (.int bz2), .val (.int bz3), .val (.int bz4), .val (.int bz5), .val (.int bz6), .val rfa, .val rfb] [(.int bz6)])) _
        exact kt
      by_cases hc33_18 : bz6 = (0 : Int32)
      · have R19 : ∀ tg, Steps p.tables e below (T3.setTop (mkF m 46 #[.val (.ref a), .val (.int bz1), .val (.int bz2), .val (.int bz3), .val (.int bz4), .val (.int bz5), .val (.int bz6), .val rfa, .val rfb] [])) tg → Steps p.tables e below (T3.setTop (mkF m 33 #[.val (.ref a), .val (.int bz1), .val (.int bz2), .val (.int bz3), .val (.int bz4), .val (.int bz5), .val (.int bz6), .val rfa, .val rfb] [(.int bz6)])) tg := by
          intro tg kt
          refine XS.ifYes X3.here hx rfl (pc0 := 33) (pc' := 46) rfl (hb hby d_prog_4_m_1_33) rfl ((if0 _ _).trans (teq hc33_18).1) (by decide) (by decide) ?_
          show Steps p.tables e below (T3.setTop (mkF m 46 #[.val (.ref a), .val (.int bz1), .val (.int bz2), .val (.int bz3), .val (.int bz4), .val (.int bz5), .val (.int bz6), .val rfa, .val rfb] [])) _
          exact kt
        exact ⟨T3, _, X3.more (by decide) (by decide), e3, N3, fun _ kt => (R14 _ (R17 _ (R19 _ kt)))⟩
      · exact absurd hB (fun z => z.elim hc28_15 hc33_18)
  obtain ⟨T20, h20, X20, e20, W20, st20⟩ := putFN X13 hx hZ hown (hw _ (List.mem_of_getElem? (i := 38) rfl)) Via.refl e13 hF_instant hE1 (Or.inr ⟨(hw _ (List.mem_of_getElem? (i := 39) rfl)), rfl, hnm⟩) (hw _ (List.mem_of_getElem? (i := 27) rfl)) (ty := .boolean) (v' := (.int bz1)) (by decide) (own_narz hbz1) (own_fitz hbz1) (g := (mkF m 48 #[.val (.ref a), .val (.int bz1), .val (.int bz2), .val (.int bz3), .val (.int bz4), .val (.int bz5), .val (.int bz6), .val rfa, .val rfb] [(.int bz1), (.ref a)])) rfl rfl (hb hby d_prog_4_m_1_48)
  have Z20 : n0 ≤ h20.size := Nat.le_trans Z0 (Nat.le_of_eq W20.size.symm)
  have N20 := Fr.snoc X20 N13 hG1
  have K20 : Keep h0 h20 [a] := K0.wr W20 (Or.inl (List.mem_of_getElem? (i := 0) rfl))
  have Fw20 := hF_instant.same W20
  have f22 := (hE1.wr W20)
  have f23 := (hF_inPlace.other W20 (Or.inr (slot_ne (Or.inr (hw _ (List.mem_of_getElem? (i := 41) rfl))) (Or.inr (hw _ (List.mem_of_getElem? (i := 39) rfl))) (by decide) (t := .boolean) (t' := .boolean) (by decide) (by decide))))
  obtain ⟨T21, h21, X21, e21, W21, st21⟩ := putFN X20 hx hZ hown (hw _ (List.mem_of_getElem? (i := 40) rfl)) Via.refl e20 f23 f22 (Or.inr ⟨(hw _ (List.mem_of_getElem? (i := 41) rfl)), rfl, hnm⟩) (hw _ (List.mem_of_getElem? (i := 27) rfl)) (ty := .boolean) (v' := (.int bz2)) (by decide) (own_narz hbz2) (own_fitz hbz2) (g := (mkF m 53 #[.val (.ref a), .val (.int bz1), .val (.int bz2), .val (.int bz3), .val (.int bz4), .val (.int bz5), .val (.int bz6), .val rfa, .val rfb] [(.int bz2), (.ref a)])) rfl rfl (hb hby d_prog_4_m_1_53)
  have Z21 : n0 ≤ h21.size := Nat.le_trans Z20 (Nat.le_of_eq W21.size.symm)
  have N21 := Fr.snoc X21 N20 hG1
  have K21 : Keep h0 h21 [a] := K20.wr W21 (Or.inl (List.mem_of_getElem? (i := 0) rfl))
  have Fw21 := f23.same W21
  have f25 := (f22.wr W21)
  have f26 := ((hF_copy.other W20 (Or.inr (slot_ne (Or.inr (hw _ (List.mem_of_getElem? (i := 43) rfl))) (Or.inr (hw _ (List.mem_of_getElem? (i := 39) rfl))) (by decide) (t := .boolean) (t' := .boolean) (by decide) (by decide)))).other W21 (Or.inr (slot_ne (Or.inr (hw _ (List.mem_of_getElem? (i := 43) rfl))) (Or.inr (hw _ (List.mem_of_getElem? (i := 41) rfl))) (by decide) (t := .boolean) (t' := .boolean) (by decide) (by decide))))
  obtain ⟨T24, h24, X24, e24, W24, st24⟩ := putFN X21 hx hZ hown (hw _ (List.mem_of_getElem? (i := 42) rfl)) Via.refl e21 f26 f25 (Or.inr ⟨(hw _ (List.mem_of_getElem? (i := 43) rfl)), rfl, hnm⟩) (hw _ (List.mem_of_getElem? (i := 27) rfl)) (ty := .boolean) (v' := (.int bz3)) (by decide) (own_narz hbz3) (own_fitz hbz3) (g := (mkF m 58 #[.val (.ref a), .val (.int bz1), .val (.int bz2), .val (.int bz3), .val (.int bz4), .val (.int bz5), .val (.int bz6), .val rfa, .val rfb] [(.int bz3), (.ref a)])) rfl rfl (hb hby d_prog_4_m_1_58)
  have Z24 : n0 ≤ h24.size := Nat.le_trans Z21 (Nat.le_of_eq W24.size.symm)
  have N24 := Fr.snoc X24 N21 hG1
  have K24 : Keep h0 h24 [a] := K21.wr W24 (Or.inl (List.mem_of_getElem? (i := 0) rfl))
  have Fw24 := f26.same W24
  have f28 := (f25.wr W24)
  have f29 := (((hF_rebuildsTable.other W20 (Or.inr (slot_ne (Or.inr (hw _ (List.mem_of_getElem? (i := 45) rfl))) (Or.inr (hw _ (List.mem_of_getElem? (i := 39) rfl))) (by decide) (t := .boolean) (t' := .boolean) (by decide) (by decide)))).other W21 (Or.inr (slot_ne (Or.inr (hw _ (List.mem_of_getElem? (i := 45) rfl))) (Or.inr (hw _ (List.mem_of_getElem? (i := 41) rfl))) (by decide) (t := .boolean) (t' := .boolean) (by decide) (by decide)))).other W24 (Or.inr (slot_ne (Or.inr (hw _ (List.mem_of_getElem? (i := 45) rfl))) (Or.inr (hw _ (List.mem_of_getElem? (i := 43) rfl))) (by decide) (t := .boolean) (t' := .boolean) (by decide) (by decide))))
  obtain ⟨T27, h27, X27, e27, W27, st27⟩ := putFN X24 hx hZ hown (hw _ (List.mem_of_getElem? (i := 44) rfl)) Via.refl e24 f29 f28 (Or.inr ⟨(hw _ (List.mem_of_getElem? (i := 45) rfl)), rfl, hnm⟩) (hw _ (List.mem_of_getElem? (i := 27) rfl)) (ty := .boolean) (v' := (.int bz4)) (by decide) (own_narz hbz4) (own_fitz hbz4) (g := (mkF m 64 #[.val (.ref a), .val (.int bz1), .val (.int bz2), .val (.int bz3), .val (.int bz4), .val (.int bz5), .val (.int bz6), .val rfa, .val rfb] [(.int bz4), (.ref a)])) rfl rfl (hb hby d_prog_4_m_1_64)
  have Z27 : n0 ≤ h27.size := Nat.le_trans Z24 (Nat.le_of_eq W27.size.symm)
  have N27 := Fr.snoc X27 N24 hG1
  have K27 : Keep h0 h27 [a] := K24.wr W27 (Or.inl (List.mem_of_getElem? (i := 0) rfl))
  have Fw27 := f29.same W27
  have f31 := (f28.wr W27)
  have f32 := ((((hF_concurrentDml.other W20 (Or.inr (slot_ne (Or.inr (hw _ (List.mem_of_getElem? (i := 47) rfl))) (Or.inr (hw _ (List.mem_of_getElem? (i := 39) rfl))) (by decide) (t := .boolean) (t' := .boolean) (by decide) (by decide)))).other W21 (Or.inr (slot_ne (Or.inr (hw _ (List.mem_of_getElem? (i := 47) rfl))) (Or.inr (hw _ (List.mem_of_getElem? (i := 41) rfl))) (by decide) (t := .boolean) (t' := .boolean) (by decide) (by decide)))).other W24 (Or.inr (slot_ne (Or.inr (hw _ (List.mem_of_getElem? (i := 47) rfl))) (Or.inr (hw _ (List.mem_of_getElem? (i := 43) rfl))) (by decide) (t := .boolean) (t' := .boolean) (by decide) (by decide)))).other W27 (Or.inr (slot_ne (Or.inr (hw _ (List.mem_of_getElem? (i := 47) rfl))) (Or.inr (hw _ (List.mem_of_getElem? (i := 45) rfl))) (by decide) (t := .boolean) (t' := .boolean) (by decide) (by decide))))
  obtain ⟨T30, h30, X30, e30, W30, st30⟩ := putFN X27 hx hZ hown (hw _ (List.mem_of_getElem? (i := 46) rfl)) Via.refl e27 f32 f31 (Or.inr ⟨(hw _ (List.mem_of_getElem? (i := 47) rfl)), rfl, hnm⟩) (hw _ (List.mem_of_getElem? (i := 27) rfl)) (ty := .boolean) (v' := (.int bz5)) (by decide) (own_narz hbz5) (own_fitz hbz5) (g := (mkF m 70 #[.val (.ref a), .val (.int bz1), .val (.int bz2), .val (.int bz3), .val (.int bz4), .val (.int bz5), .val (.int bz6), .val rfa, .val rfb] [(.int bz5), (.ref a)])) rfl rfl (hb hby d_prog_4_m_1_70)
  have Z30 : n0 ≤ h30.size := Nat.le_trans Z27 (Nat.le_of_eq W30.size.symm)
  have N30 := Fr.snoc X30 N27 hG1
  have K30 : Keep h0 h30 [a] := K27.wr W30 (Or.inl (List.mem_of_getElem? (i := 0) rfl))
  have Fw30 := f32.same W30
  have f34 := (f31.wr W30)
  have f35 := (((((hF_metadataOnly.other W20 (Or.inr (slot_ne (Or.inr (hw _ (List.mem_of_getElem? (i := 49) rfl))) (Or.inr (hw _ (List.mem_of_getElem? (i := 39) rfl))) (by decide) (t := .boolean) (t' := .boolean) (by decide) (by decide)))).other W21 (Or.inr (slot_ne (Or.inr (hw _ (List.mem_of_getElem? (i := 49) rfl))) (Or.inr (hw _ (List.mem_of_getElem? (i := 41) rfl))) (by decide) (t := .boolean) (t' := .boolean) (by decide) (by decide)))).other W24 (Or.inr (slot_ne (Or.inr (hw _ (List.mem_of_getElem? (i := 49) rfl))) (Or.inr (hw _ (List.mem_of_getElem? (i := 43) rfl))) (by decide) (t := .boolean) (t' := .boolean) (by decide) (by decide)))).other W27 (Or.inr (slot_ne (Or.inr (hw _ (List.mem_of_getElem? (i := 49) rfl))) (Or.inr (hw _ (List.mem_of_getElem? (i := 45) rfl))) (by decide) (t := .boolean) (t' := .boolean) (by decide) (by decide)))).other W30 (Or.inr (slot_ne (Or.inr (hw _ (List.mem_of_getElem? (i := 49) rfl))) (Or.inr (hw _ (List.mem_of_getElem? (i := 47) rfl))) (by decide) (t := .boolean) (t' := .boolean) (by decide) (by decide))))
  obtain ⟨T33, h33, X33, e33, W33, st33⟩ := putFN X30 hx hZ hown (hw _ (List.mem_of_getElem? (i := 48) rfl)) Via.refl e30 f35 f34 (Or.inr ⟨(hw _ (List.mem_of_getElem? (i := 49) rfl)), rfl, hnm⟩) (hw _ (List.mem_of_getElem? (i := 27) rfl)) (ty := .boolean) (v' := (.int bz6)) (by decide) (own_narz hbz6) (own_fitz hbz6) (g := (mkF m 76 #[.val (.ref a), .val (.int bz1), .val (.int bz2), .val (.int bz3), .val (.int bz4), .val (.int bz5), .val (.int bz6), .val rfa, .val rfb] [(.int bz6), (.ref a)])) rfl rfl (hb hby d_prog_4_m_1_76)
  have Z33 : n0 ≤ h33.size := Nat.le_trans Z30 (Nat.le_of_eq W33.size.symm)
  have N33 := Fr.snoc X33 N30 hG1
  have K33 : Keep h0 h33 [a] := K30.wr W33 (Or.inl (List.mem_of_getElem? (i := 0) rfl))
  have Fw33 := f35.same W33
  have f37 := (f34.wr W33)
  have f38 := ((((((hF_refusal.other W20 (Or.inr (slot_ne (Or.inr (hw _ (List.mem_of_getElem? (i := 51) rfl))) (Or.inr (hw _ (List.mem_of_getElem? (i := 39) rfl))) (by decide) (t := (.object "java/lang/String")) (t' := .boolean) (by decide) (by decide)))).other W21 (Or.inr (slot_ne (Or.inr (hw _ (List.mem_of_getElem? (i := 51) rfl))) (Or.inr (hw _ (List.mem_of_getElem? (i := 41) rfl))) (by decide) (t := (.object "java/lang/String")) (t' := .boolean) (by decide) (by decide)))).other W24 (Or.inr (slot_ne (Or.inr (hw _ (List.mem_of_getElem? (i := 51) rfl))) (Or.inr (hw _ (List.mem_of_getElem? (i := 43) rfl))) (by decide) (t := (.object "java/lang/String")) (t' := .boolean) (by decide) (by decide)))).other W27 (Or.inr (slot_ne (Or.inr (hw _ (List.mem_of_getElem? (i := 51) rfl))) (Or.inr (hw _ (List.mem_of_getElem? (i := 45) rfl))) (by decide) (t := (.object "java/lang/String")) (t' := .boolean) (by decide) (by decide)))).other W30 (Or.inr (slot_ne (Or.inr (hw _ (List.mem_of_getElem? (i := 51) rfl))) (Or.inr (hw _ (List.mem_of_getElem? (i := 47) rfl))) (by decide) (t := (.object "java/lang/String")) (t' := .boolean) (by decide) (by decide)))).other W33 (Or.inr (slot_ne (Or.inr (hw _ (List.mem_of_getElem? (i := 51) rfl))) (Or.inr (hw _ (List.mem_of_getElem? (i := 49) rfl))) (by decide) (t := (.object "java/lang/String")) (t' := .boolean) (by decide) (by decide))))
  obtain ⟨T36, h36, X36, e36, W36, st36⟩ := putF X33 hx hZ hown (host := "") (Or.inl (hw _ (List.mem_of_getElem? (i := 50) rfl))) Via.refl e33 f38 f37 (Or.inr ⟨(hw _ (List.mem_of_getElem? (i := 51) rfl)), rfl, hnm⟩) (hw _ (List.mem_of_getElem? (i := 27) rfl)) (ty := (.object "java/lang/String")) (by decide) rfl (own_fit hrfa) (g := (mkF m 82 #[.val (.ref a), .val (.int bz1), .val (.int bz2), .val (.int bz3), .val (.int bz4), .val (.int bz5), .val (.int bz6), .val rfa, .val rfb] [rfa, (.ref a)])) rfl rfl (hb hby d_prog_4_m_1_82)
  have Z36 : n0 ≤ h36.size := Nat.le_trans Z33 (Nat.le_of_eq W36.size.symm)
  have N36 := Fr.snoc X36 N33 hG1
  have K36 : Keep h0 h36 [a] := K33.wr W36 (Or.inl (List.mem_of_getElem? (i := 0) rfl))
  have Fw36 := f38.same W36
  have f40 := (f37.wr W36)
  have f41 := (((((((hF_instantRefusal.other W20 (Or.inr (slot_ne (Or.inr (hw _ (List.mem_of_getElem? (i := 53) rfl))) (Or.inr (hw _ (List.mem_of_getElem? (i := 39) rfl))) (by decide) (t := (.object "java/lang/String")) (t' := .boolean) (by decide) (by decide)))).other W21 (Or.inr (slot_ne (Or.inr (hw _ (List.mem_of_getElem? (i := 53) rfl))) (Or.inr (hw _ (List.mem_of_getElem? (i := 41) rfl))) (by decide) (t := (.object "java/lang/String")) (t' := .boolean) (by decide) (by decide)))).other W24 (Or.inr (slot_ne (Or.inr (hw _ (List.mem_of_getElem? (i := 53) rfl))) (Or.inr (hw _ (List.mem_of_getElem? (i := 43) rfl))) (by decide) (t := (.object "java/lang/String")) (t' := .boolean) (by decide) (by decide)))).other W27 (Or.inr (slot_ne (Or.inr (hw _ (List.mem_of_getElem? (i := 53) rfl))) (Or.inr (hw _ (List.mem_of_getElem? (i := 45) rfl))) (by decide) (t := (.object "java/lang/String")) (t' := .boolean) (by decide) (by decide)))).other W30 (Or.inr (slot_ne (Or.inr (hw _ (List.mem_of_getElem? (i := 53) rfl))) (Or.inr (hw _ (List.mem_of_getElem? (i := 47) rfl))) (by decide) (t := (.object "java/lang/String")) (t' := .boolean) (by decide) (by decide)))).other W33 (Or.inr (slot_ne (Or.inr (hw _ (List.mem_of_getElem? (i := 53) rfl))) (Or.inr (hw _ (List.mem_of_getElem? (i := 49) rfl))) (by decide) (t := (.object "java/lang/String")) (t' := .boolean) (by decide) (by decide)))).other W36 (Or.inr (slot_ne (Or.inr (hw _ (List.mem_of_getElem? (i := 53) rfl))) (Or.inr (hw _ (List.mem_of_getElem? (i := 51) rfl))) (by decide) (t := (.object "java/lang/String")) (t' := (.object "java/lang/String")) (by decide) (by decide))))
  obtain ⟨T39, h39, X39, e39, W39, st39⟩ := putF X36 hx hZ hown (host := "") (Or.inl (hw _ (List.mem_of_getElem? (i := 52) rfl))) Via.refl e36 f41 f40 (Or.inr ⟨(hw _ (List.mem_of_getElem? (i := 53) rfl)), rfl, hnm⟩) (hw _ (List.mem_of_getElem? (i := 27) rfl)) (ty := (.object "java/lang/String")) (by decide) rfl (own_fit hrfb) (g := (mkF m 88 #[.val (.ref a), .val (.int bz1), .val (.int bz2), .val (.int bz3), .val (.int bz4), .val (.int bz5), .val (.int bz6), .val rfa, .val rfb] [rfb, (.ref a)])) rfl rfl (hb hby d_prog_4_m_1_88)
  have Z39 : n0 ≤ h39.size := Nat.le_trans Z36 (Nat.le_of_eq W39.size.symm)
  have N39 := Fr.snoc X39 N36 hG1
  have K39 : Keep h0 h39 [a] := K36.wr W39 (Or.inl (List.mem_of_getElem? (i := 0) rfl))
  have Fw39 := f41.same W39
  obtain ⟨fs, hr, hrun, hended, hW, hsame⟩ := X39.leave (v := none) (fun _ => rfl)
  refine ⟨_, _, pre0 _ (R2 _ (R3 _ (R13 _ ?_))), hrun, hended, _, _, rfl, ?_, ⟨_, rfl⟩, hW, hsame.mono (by decide) (by decide)⟩
  · show Steps p.tables e below (T13.setTop (mkF m 46 #[.val (.ref a), .val (.int bz1), .val (.int bz2), .val (.int bz3), .val (.int bz4), .val (.int bz5), .val (.int bz6), .val rfa, .val rfb] [])) _
    refine XS.aloadN X13.here hx rfl (hb hby d_prog_4_m_1_46) rfl rfl ?_
    show Steps p.tables e below (T13.setTop (mkF m 47 #[.val (.ref a), .val (.int bz1), .val (.int bz2), .val (.int bz3), .val (.int bz4), .val (.int bz5), .val (.int bz6), .val rfa, .val rfb] [(.ref a)])) _
    refine XS.iloadN X13.here hx rfl (hb hby d_prog_4_m_1_47) rfl ?_
    show Steps p.tables e below (T13.setTop (mkF m 48 #[.val (.ref a), .val (.int bz1), .val (.int bz2), .val (.int bz3), .val (.int bz4), .val (.int bz5), .val (.int bz6), .val rfa, .val rfb] [(.int bz1), (.ref a)])) _
    refine st20 _ ?_
    show Steps p.tables e below (T20.setTop (mkF m 51 #[.val (.ref a), .val (.int bz1), .val (.int bz2), .val (.int bz3), .val (.int bz4), .val (.int bz5), .val (.int bz6), .val rfa, .val rfb] [])) _
    refine XS.aloadN X20.here hx rfl (hb hby d_prog_4_m_1_51) rfl rfl ?_
    show Steps p.tables e below (T20.setTop (mkF m 52 #[.val (.ref a), .val (.int bz1), .val (.int bz2), .val (.int bz3), .val (.int bz4), .val (.int bz5), .val (.int bz6), .val rfa, .val rfb] [(.ref a)])) _
    refine XS.iloadN X20.here hx rfl (hb hby d_prog_4_m_1_52) rfl ?_
    show Steps p.tables e below (T20.setTop (mkF m 53 #[.val (.ref a), .val (.int bz1), .val (.int bz2), .val (.int bz3), .val (.int bz4), .val (.int bz5), .val (.int bz6), .val rfa, .val rfb] [(.int bz2), (.ref a)])) _
    refine st21 _ ?_
    show Steps p.tables e below (T21.setTop (mkF m 56 #[.val (.ref a), .val (.int bz1), .val (.int bz2), .val (.int bz3), .val (.int bz4), .val (.int bz5), .val (.int bz6), .val rfa, .val rfb] [])) _
    refine XS.aloadN X21.here hx rfl (hb hby d_prog_4_m_1_56) rfl rfl ?_
    show Steps p.tables e below (T21.setTop (mkF m 57 #[.val (.ref a), .val (.int bz1), .val (.int bz2), .val (.int bz3), .val (.int bz4), .val (.int bz5), .val (.int bz6), .val rfa, .val rfb] [(.ref a)])) _
    refine XS.iloadN X21.here hx rfl (hb hby d_prog_4_m_1_57) rfl ?_
    show Steps p.tables e below (T21.setTop (mkF m 58 #[.val (.ref a), .val (.int bz1), .val (.int bz2), .val (.int bz3), .val (.int bz4), .val (.int bz5), .val (.int bz6), .val rfa, .val rfb] [(.int bz3), (.ref a)])) _
    refine st24 _ ?_
    show Steps p.tables e below (T24.setTop (mkF m 61 #[.val (.ref a), .val (.int bz1), .val (.int bz2), .val (.int bz3), .val (.int bz4), .val (.int bz5), .val (.int bz6), .val rfa, .val rfb] [])) _
    refine XS.aloadN X24.here hx rfl (hb hby d_prog_4_m_1_61) rfl rfl ?_
    show Steps p.tables e below (T24.setTop (mkF m 62 #[.val (.ref a), .val (.int bz1), .val (.int bz2), .val (.int bz3), .val (.int bz4), .val (.int bz5), .val (.int bz6), .val rfa, .val rfb] [(.ref a)])) _
    refine XS.iload X24.here hx rfl (hb hby d_prog_4_m_1_62) rfl ?_
    show Steps p.tables e below (T24.setTop (mkF m 64 #[.val (.ref a), .val (.int bz1), .val (.int bz2), .val (.int bz3), .val (.int bz4), .val (.int bz5), .val (.int bz6), .val rfa, .val rfb] [(.int bz4), (.ref a)])) _
    refine st27 _ ?_
    show Steps p.tables e below (T27.setTop (mkF m 67 #[.val (.ref a), .val (.int bz1), .val (.int bz2), .val (.int bz3), .val (.int bz4), .val (.int bz5), .val (.int bz6), .val rfa, .val rfb] [])) _
    refine XS.aloadN X27.here hx rfl (hb hby d_prog_4_m_1_67) rfl rfl ?_
    show Steps p.tables e below (T27.setTop (mkF m 68 #[.val (.ref a), .val (.int bz1), .val (.int bz2), .val (.int bz3), .val (.int bz4), .val (.int bz5), .val (.int bz6), .val rfa, .val rfb] [(.ref a)])) _
    refine XS.iload X27.here hx rfl (hb hby d_prog_4_m_1_68) rfl ?_
    show Steps p.tables e below (T27.setTop (mkF m 70 #[.val (.ref a), .val (.int bz1), .val (.int bz2), .val (.int bz3), .val (.int bz4), .val (.int bz5), .val (.int bz6), .val rfa, .val rfb] [(.int bz5), (.ref a)])) _
    refine st30 _ ?_
    show Steps p.tables e below (T30.setTop (mkF m 73 #[.val (.ref a), .val (.int bz1), .val (.int bz2), .val (.int bz3), .val (.int bz4), .val (.int bz5), .val (.int bz6), .val rfa, .val rfb] [])) _
    refine XS.aloadN X30.here hx rfl (hb hby d_prog_4_m_1_73) rfl rfl ?_
    show Steps p.tables e below (T30.setTop (mkF m 74 #[.val (.ref a), .val (.int bz1), .val (.int bz2), .val (.int bz3), .val (.int bz4), .val (.int bz5), .val (.int bz6), .val rfa, .val rfb] [(.ref a)])) _
    refine XS.iload X30.here hx rfl (hb hby d_prog_4_m_1_74) rfl ?_
    show Steps p.tables e below (T30.setTop (mkF m 76 #[.val (.ref a), .val (.int bz1), .val (.int bz2), .val (.int bz3), .val (.int bz4), .val (.int bz5), .val (.int bz6), .val rfa, .val rfb] [(.int bz6), (.ref a)])) _
    refine st33 _ ?_
    show Steps p.tables e below (T33.setTop (mkF m 79 #[.val (.ref a), .val (.int bz1), .val (.int bz2), .val (.int bz3), .val (.int bz4), .val (.int bz5), .val (.int bz6), .val rfa, .val rfb] [])) _
    refine XS.aloadN X33.here hx rfl (hb hby d_prog_4_m_1_79) rfl rfl ?_
    show Steps p.tables e below (T33.setTop (mkF m 80 #[.val (.ref a), .val (.int bz1), .val (.int bz2), .val (.int bz3), .val (.int bz4), .val (.int bz5), .val (.int bz6), .val rfa, .val rfb] [(.ref a)])) _
    refine XS.aload X33.here hx rfl (hb hby d_prog_4_m_1_80) rfl hrfa ?_
    show Steps p.tables e below (T33.setTop (mkF m 82 #[.val (.ref a), .val (.int bz1), .val (.int bz2), .val (.int bz3), .val (.int bz4), .val (.int bz5), .val (.int bz6), .val rfa, .val rfb] [rfa, (.ref a)])) _
    refine st36 _ ?_
    show Steps p.tables e below (T36.setTop (mkF m 85 #[.val (.ref a), .val (.int bz1), .val (.int bz2), .val (.int bz3), .val (.int bz4), .val (.int bz5), .val (.int bz6), .val rfa, .val rfb] [])) _
    refine XS.aloadN X36.here hx rfl (hb hby d_prog_4_m_1_85) rfl rfl ?_
    show Steps p.tables e below (T36.setTop (mkF m 86 #[.val (.ref a), .val (.int bz1), .val (.int bz2), .val (.int bz3), .val (.int bz4), .val (.int bz5), .val (.int bz6), .val rfa, .val rfb] [(.ref a)])) _
    refine XS.aload X36.here hx rfl (hb hby d_prog_4_m_1_86) rfl hrfb ?_
    show Steps p.tables e below (T36.setTop (mkF m 88 #[.val (.ref a), .val (.int bz1), .val (.int bz2), .val (.int bz3), .val (.int bz4), .val (.int bz5), .val (.int bz6), .val rfa, .val rfb] [rfb, (.ref a)])) _
    refine st39 _ ?_
    show Steps p.tables e below (T39.setTop (mkF m 91 #[.val (.ref a), .val (.int bz1), .val (.int bz2), .val (.int bz3), .val (.int bz4), .val (.int bz5), .val (.int bz6), .val rfa, .val rfb] [])) _
    exact X39.returnOut hx Bd.returns (hb hby d_prog_4_m_1_91) hr
  · show QBI Z a bz1 bz2 bz3 h0 n0 _ T39.heap _
    rw [e39]
    have f42 := (((((((Fw20.other W21 (Or.inr (slot_ne (Or.inr (hw _ (List.mem_of_getElem? (i := 39) rfl))) (Or.inr (hw _ (List.mem_of_getElem? (i := 41) rfl))) (by decide) (t := .boolean) (t' := .boolean) (by decide) (by decide)))).other W24 (Or.inr (slot_ne (Or.inr (hw _ (List.mem_of_getElem? (i := 39) rfl))) (Or.inr (hw _ (List.mem_of_getElem? (i := 43) rfl))) (by decide) (t := .boolean) (t' := .boolean) (by decide) (by decide)))).other W27 (Or.inr (slot_ne (Or.inr (hw _ (List.mem_of_getElem? (i := 39) rfl))) (Or.inr (hw _ (List.mem_of_getElem? (i := 45) rfl))) (by decide) (t := .boolean) (t' := .boolean) (by decide) (by decide)))).other W30 (Or.inr (slot_ne (Or.inr (hw _ (List.mem_of_getElem? (i := 39) rfl))) (Or.inr (hw _ (List.mem_of_getElem? (i := 47) rfl))) (by decide) (t := .boolean) (t' := .boolean) (by decide) (by decide)))).other W33 (Or.inr (slot_ne (Or.inr (hw _ (List.mem_of_getElem? (i := 39) rfl))) (Or.inr (hw _ (List.mem_of_getElem? (i := 49) rfl))) (by decide) (t := .boolean) (t' := .boolean) (by decide) (by decide)))).other W36 (Or.inr (slot_ne (Or.inr (hw _ (List.mem_of_getElem? (i := 39) rfl))) (Or.inr (hw _ (List.mem_of_getElem? (i := 51) rfl))) (by decide) (t := .boolean) (t' := (.object "java/lang/String")) (by decide) (by decide)))).other W39 (Or.inr (slot_ne (Or.inr (hw _ (List.mem_of_getElem? (i := 39) rfl))) (Or.inr (hw _ (List.mem_of_getElem? (i := 53) rfl))) (by decide) (t := .boolean) (t' := (.object "java/lang/String")) (by decide) (by decide))))
    have f43 := ((((((Fw21.other W24 (Or.inr (slot_ne (Or.inr (hw _ (List.mem_of_getElem? (i := 41) rfl))) (Or.inr (hw _ (List.mem_of_getElem? (i := 43) rfl))) (by decide) (t := .boolean) (t' := .boolean) (by decide) (by decide)))).other W27 (Or.inr (slot_ne (Or.inr (hw _ (List.mem_of_getElem? (i := 41) rfl))) (Or.inr (hw _ (List.mem_of_getElem? (i := 45) rfl))) (by decide) (t := .boolean) (t' := .boolean) (by decide) (by decide)))).other W30 (Or.inr (slot_ne (Or.inr (hw _ (List.mem_of_getElem? (i := 41) rfl))) (Or.inr (hw _ (List.mem_of_getElem? (i := 47) rfl))) (by decide) (t := .boolean) (t' := .boolean) (by decide) (by decide)))).other W33 (Or.inr (slot_ne (Or.inr (hw _ (List.mem_of_getElem? (i := 41) rfl))) (Or.inr (hw _ (List.mem_of_getElem? (i := 49) rfl))) (by decide) (t := .boolean) (t' := .boolean) (by decide) (by decide)))).other W36 (Or.inr (slot_ne (Or.inr (hw _ (List.mem_of_getElem? (i := 41) rfl))) (Or.inr (hw _ (List.mem_of_getElem? (i := 51) rfl))) (by decide) (t := .boolean) (t' := (.object "java/lang/String")) (by decide) (by decide)))).other W39 (Or.inr (slot_ne (Or.inr (hw _ (List.mem_of_getElem? (i := 41) rfl))) (Or.inr (hw _ (List.mem_of_getElem? (i := 53) rfl))) (by decide) (t := .boolean) (t' := (.object "java/lang/String")) (by decide) (by decide))))
    have f44 := (((((Fw24.other W27 (Or.inr (slot_ne (Or.inr (hw _ (List.mem_of_getElem? (i := 43) rfl))) (Or.inr (hw _ (List.mem_of_getElem? (i := 45) rfl))) (by decide) (t := .boolean) (t' := .boolean) (by decide) (by decide)))).other W30 (Or.inr (slot_ne (Or.inr (hw _ (List.mem_of_getElem? (i := 43) rfl))) (Or.inr (hw _ (List.mem_of_getElem? (i := 47) rfl))) (by decide) (t := .boolean) (t' := .boolean) (by decide) (by decide)))).other W33 (Or.inr (slot_ne (Or.inr (hw _ (List.mem_of_getElem? (i := 43) rfl))) (Or.inr (hw _ (List.mem_of_getElem? (i := 49) rfl))) (by decide) (t := .boolean) (t' := .boolean) (by decide) (by decide)))).other W36 (Or.inr (slot_ne (Or.inr (hw _ (List.mem_of_getElem? (i := 43) rfl))) (Or.inr (hw _ (List.mem_of_getElem? (i := 51) rfl))) (by decide) (t := .boolean) (t' := (.object "java/lang/String")) (by decide) (by decide)))).other W39 (Or.inr (slot_ne (Or.inr (hw _ (List.mem_of_getElem? (i := 43) rfl))) (Or.inr (hw _ (List.mem_of_getElem? (i := 53) rfl))) (by decide) (t := .boolean) (t' := (.object "java/lang/String")) (by decide) (by decide))))
    exact ⟨rfl, N39, K39, f42, f43, f44⟩
theorem ef_rmIC (m : MethodId) (x0 : Addr) : entryFrame m #[(.ref x0)] 1 = mkF m 0 #[.val (.ref x0)] [] := by first | (simp [entryFrame, mkF, argsToLocals, Value.category]; done) | rfl
set_option maxRecDepth 65536 in
set_option maxHeartbeats 40000000 in
theorem rmIC (l : Launch) (Z : State) (a0 : Array Value) (hw : ∀ d ∈ tables_1, d.before a0 Z = true) (ws : List Jvm.Cond) (a : Addr) (bz1 bz2 : Int32) (h0 : Heap) (n0 : Nat) (Z0 : n0 ≤ h0.size) (hF_instant : Fld Z h0 a "com/example/inplace/inplace/Behaviour" "instant" "Z" (.int bz1)) (hF_inPlace : Fld Z h0 a "com/example/inplace/inplace/Behaviour" "inPlace" "Z" (.int bz2)) :
    MetFree l (⟨"com/example/inplace/inplace/Behaviour", "isCopyOnly", "()Z"⟩ : MethodName) (head1 (Jvm.Cond.code (⟨"com/example/inplace/inplace/Behaviour", "isCopyOnly", "()Z"⟩ : MethodName) prog_4_method_9_code 1 (some .boolean) :: ws) ({ frames := 0, cells := 0, slots := 0, locals := 0 } : Room)) (fun aa_ UU_ => aa_ = #[(.ref a)] ∧ Z.Warmed39 UU_.vm ∧ UU_.heap = h0) (fun _ _ _ _ _ => True) (fun _ UU_ oo_ UE_ => ∃ vv_ LL_, oo_ = .returned vv_ ∧ QV (some (.int (if bz1 = 0 ∧ bz2 = 0 then (1 : Int32) else 0))) h0 n0 vv_ UE_.heap LL_ ∧ FrameEnd UU_ oo_ UE_ LL_ ({ frames := 0, cells := 0, slots := 0, locals := 0 } : Room).cells ({ frames := 0, cells := 0, slots := 0, locals := 0 } : Room).slots) := by
  refine MetFree.of_bodySF (plainFor_of_name pn_3) hisR ?_
  intro p e s m args below meth c s₁ Bd hml0 hP hK
  obtain ⟨rfl, hZ, hh⟩ := hP
  have hx := Bd.exec
  have hby := Bd.bytes
  have hml : c.maxLocals = 1 := hml0
  have hown : s.vm.findClass "com/example/inplace/inplace/Behaviour" = some m.cls := findClass_of_methodNamed Bd.named
  have hnm := (name_of_methodNamed Bd.named Bd.method).1
  have X0 : Stand p l e ({ frames := 0, cells := 0, slots := 0, locals := 0 } : Room) s m #[(.ref a)] below meth c s₁ [] 0 0 := Stand.of_body Bd
  have e0 : s₁.heap = h0 := by rw [← hh, Bd.state]; rfl
  have N0 := Fr.nil n0
  have pre0 : ∀ tg, Steps p.tables e below (s₁.setTop (mkF m 0 #[.val (.ref a)] [])) tg → Steps p.tables e below (s₁.setTop (entryFrame m #[(.ref a)] 1)) tg := fun tg kq_ => castTop (ef_rmIC m a) kq_
  obtain ⟨T1, X1, e1, st1⟩ := getF X0 hx hZ hown (host := "") (Or.inl (hw _ (List.mem_of_getElem? (i := 38) rfl))) Via.refl e0 hF_instant (g := (mkF m 1 #[.val (.ref a)] [(.ref a)])) rfl rfl (hb hby d_prog_4_m_9_1)
  have R2 : ∀ tg, Steps p.tables e below (T1.setTop (mkF m 4 #[.val (.ref a)] [(.int bz1)])) tg → Steps p.tables e below (s₁.setTop (mkF m 0 #[.val (.ref a)] [])) tg := by
    intro tg kt
    refine XS.aloadN X0.here hx rfl (hb hby d_prog_4_m_9_0) rfl rfl ?_
    show Steps p.tables e below (s₁.setTop (mkF m 1 #[.val (.ref a)] [(.ref a)])) _
    refine st1 _ ?_
    show Steps p.tables e below (T1.setTop (mkF m 4 #[.val (.ref a)] [(.int bz1)])) _
    exact kt
  by_cases hc4_3 : bz1 = (0 : Int32)
  · obtain ⟨T4, X4, e4, st4⟩ := getF X1 hx hZ hown (host := "") (Or.inl (hw _ (List.mem_of_getElem? (i := 40) rfl))) Via.refl e1 hF_inPlace (g := (mkF m 8 #[.val (.ref a)] [(.ref a)])) rfl rfl (hb hby d_prog_4_m_9_8)
    have R5 : ∀ tg, Steps p.tables e below (T4.setTop (mkF m 11 #[.val (.ref a)] [(.int bz2)])) tg → Steps p.tables e below (T1.setTop (mkF m 4 #[.val (.ref a)] [(.int bz1)])) tg := by
      intro tg kt
      refine XS.ifNo X1.here hx rfl (hb hby d_prog_4_m_9_4) rfl ((if0 _ _).trans (teq hc4_3).2) ?_
      show Steps p.tables e below (T1.setTop (mkF m 7 #[.val (.ref a)] [])) _
      refine XS.aloadN X1.here hx rfl (hb hby d_prog_4_m_9_7) rfl rfl ?_
      show Steps p.tables e below (T1.setTop (mkF m 8 #[.val (.ref a)] [(.ref a)])) _
      refine st4 _ ?_
      show Steps p.tables e below (T4.setTop (mkF m 11 #[.val (.ref a)] [(.int bz2)])) _
      exact kt
    by_cases hc11_6 : bz2 = (0 : Int32)
    · obtain ⟨fs, hr, hrun, hended, hW, hsame⟩ := X4.leave (v := some (.int (1 : Int32))) (fun h => by rw [Bd.returns] at h; cases h)
      refine ⟨_, _, pre0 _ (R2 _ (R5 _ ?_)), hrun, hended, _, _, rfl, ?_, ⟨_, rfl⟩, hW, hsame.mono (by decide) (by decide)⟩
      · show Steps p.tables e below (T4.setTop (mkF m 11 #[.val (.ref a)] [(.int bz2)])) _
        refine XS.ifNo X4.here hx rfl (hb hby d_prog_4_m_9_11) rfl ((if0 _ _).trans (teq hc11_6).2) ?_
        show Steps p.tables e below (T4.setTop (mkF m 14 #[.val (.ref a)] [])) _
        refine XS.iconst X4.here hx rfl (hb hby d_prog_4_m_9_14) ?_
        show Steps p.tables e below (T4.setTop (mkF m 15 #[.val (.ref a)] [(.int (1 : Int32))])) _
        refine XS.goto X4.here hx rfl (pc0 := 15) (pc' := 19) rfl (hb hby d_prog_4_m_9_15) (by decide) (by decide) ?_
        show Steps p.tables e below (T4.setTop (mkF m 19 #[.val (.ref a)] [(.int (1 : Int32))])) _
        exact retN X4 hx (t := .boolean) Bd.returns (by simp) (hb hby d_prog_4_m_9_19) hr
      · show QV (some (.int (if bz1 = 0 ∧ bz2 = 0 then (1 : Int32) else 0))) h0 n0 _ T4.heap _
        rw [e4]
        exact ⟨by rw [if_pos ⟨hc4_3, hc11_6⟩], N0, rfl⟩
    · obtain ⟨fs, hr, hrun, hended, hW, hsame⟩ := X4.leave (v := some (.int (0 : Int32))) (fun h => by rw [Bd.returns] at h; cases h)
      refine ⟨_, _, pre0 _ (R2 _ (R5 _ ?_)), hrun, hended, _, _, rfl, ?_, ⟨_, rfl⟩, hW, hsame.mono (by decide) (by decide)⟩
      · show Steps p.tables e below (T4.setTop (mkF m 11 #[.val (.ref a)] [(.int bz2)])) _
        refine XS.ifYes X4.here hx rfl (pc0 := 11) (pc' := 18) rfl (hb hby d_prog_4_m_9_11) rfl ((if0 _ _).trans (feq hc11_6).2) (by decide) (by decide) ?_
        show Steps p.tables e below (T4.setTop (mkF m 18 #[.val (.ref a)] [])) _
        refine XS.iconst X4.here hx rfl (hb hby d_prog_4_m_9_18) ?_
        show Steps p.tables e below (T4.setTop (mkF m 19 #[.val (.ref a)] [(.int (0 : Int32))])) _
        exact retN X4 hx (t := .boolean) Bd.returns (by simp) (hb hby d_prog_4_m_9_19) hr
      · show QV (some (.int (if bz1 = 0 ∧ bz2 = 0 then (1 : Int32) else 0))) h0 n0 _ T4.heap _
        rw [e4]
        exact ⟨by rw [if_neg (fun z => hc11_6 z.2)], N0, rfl⟩
  · obtain ⟨fs, hr, hrun, hended, hW, hsame⟩ := X1.leave (v := some (.int (0 : Int32))) (fun h => by rw [Bd.returns] at h; cases h)
    refine ⟨_, _, pre0 _ (R2 _ ?_), hrun, hended, _, _, rfl, ?_, ⟨_, rfl⟩, hW, hsame.mono (by decide) (by decide)⟩
    · show Steps p.tables e below (T1.setTop (mkF m 4 #[.val (.ref a)] [(.int bz1)])) _
      refine XS.ifYes X1.here hx rfl (pc0 := 4) (pc' := 18) rfl (hb hby d_prog_4_m_9_4) rfl ((if0 _ _).trans (feq hc4_3).2) (by decide) (by decide) ?_
      show Steps p.tables e below (T1.setTop (mkF m 18 #[.val (.ref a)] [])) _
      refine XS.iconst X1.here hx rfl (hb hby d_prog_4_m_9_18) ?_
      show Steps p.tables e below (T1.setTop (mkF m 19 #[.val (.ref a)] [(.int (0 : Int32))])) _
      exact retN X1 hx (t := .boolean) Bd.returns (by simp) (hb hby d_prog_4_m_9_19) hr
    · show QV (some (.int (if bz1 = 0 ∧ bz2 = 0 then (1 : Int32) else 0))) h0 n0 _ T1.heap _
      rw [e1]
      exact ⟨by rw [if_neg (fun z => hc4_3 z.1)], N0, rfl⟩
theorem ef_rmA1 (m : MethodId) (x0 : Addr) (x1 : Addr) : entryFrame m #[(.ref x0), (.ref x1)] 3 = mkF m 0 #[.val (.ref x0), .val (.ref x1), .unset] [] := by first | (simp [entryFrame, mkF, argsToLocals, Value.category]; done) | rfl
set_option maxRecDepth 65536 in
set_option maxHeartbeats 40000000 in
theorem rmA1 (l : Launch) (Z : State) (a0 : Array Value) (hw : ∀ d ∈ tables_1, d.before a0 Z = true) (ws : List Jvm.Cond) (a : Addr) (bz1 : Int32) (a_INSTANT : Addr) (a_INPLACE : Addr) (h0 : Heap) (n0 : Nat) (Z0 : n0 ≤ h0.size) (S_INSTANT : Sta Z h0 "com/example/inplace/inplace/Verdict$Algorithm" "INSTANT" "Lcom/example/inplace/inplace/Verdict$Algorithm;" (.ref a_INSTANT)) (S_INPLACE : Sta Z h0 "com/example/inplace/inplace/Verdict$Algorithm" "INPLACE" "Lcom/example/inplace/inplace/Verdict$Algorithm;" (.ref a_INPLACE)) (hF_instant : Fld Z h0 a "com/example/inplace/inplace/Behaviour" "instant" "Z" (.int bz1)) (hne : ¬ a_INPLACE = a_INSTANT) :
    MetFree l (⟨"com/example/inplace/inplace/Behaviour", "allows", "(Lcom/example/inplace/inplace/Verdict$Algorithm;)Z"⟩ : MethodName) (head1 (Jvm.Cond.code (⟨"com/example/inplace/inplace/Behaviour", "allows", "(Lcom/example/inplace/inplace/Verdict$Algorithm;)Z"⟩ : MethodName) prog_4_method_10_code 3 (some .boolean) :: ws) ({ frames := 0, cells := 0, slots := 0, locals := 0 } : Room)) (fun aa_ UU_ => aa_ = #[(.ref a), (.ref a_INSTANT)] ∧ Z.Warmed39 UU_.vm ∧ UU_.heap = h0) (fun _ _ _ _ _ => True) (fun _ UU_ oo_ UE_ => ∃ vv_ LL_, oo_ = .returned vv_ ∧ QV (some (.int (bz1 &&& 1))) h0 n0 vv_ UE_.heap LL_ ∧ FrameEnd UU_ oo_ UE_ LL_ ({ frames := 0, cells := 0, slots := 0, locals := 0 } : Room).cells ({ frames := 0, cells := 0, slots := 0, locals := 0 } : Room).slots) := by
  refine MetFree.of_bodySF (plainFor_of_name pn_3) hisR ?_
  intro p e s m args below meth c s₁ Bd hml0 hP hK
  obtain ⟨rfl, hZ, hh⟩ := hP
  have hx := Bd.exec
  have hby := Bd.bytes
  have hml : c.maxLocals = 3 := hml0
  have hown : s.vm.findClass "com/example/inplace/inplace/Behaviour" = some m.cls := findClass_of_methodNamed Bd.named
  have hnm := (name_of_methodNamed Bd.named Bd.method).1
  have X0 : Stand p l e ({ frames := 0, cells := 0, slots := 0, locals := 0 } : Room) s m #[(.ref a), (.ref a_INSTANT)] below meth c s₁ [] 0 0 := Stand.of_body Bd
  have e0 : s₁.heap = h0 := by rw [← hh, Bd.state]; rfl
  have N0 := Fr.nil n0
  have pre0 : ∀ tg, Steps p.tables e below (s₁.setTop (mkF m 0 #[.val (.ref a), .val (.ref a_INSTANT), .unset] [])) tg → Steps p.tables e below (s₁.setTop (entryFrame m #[(.ref a), (.ref a_INSTANT)] 3)) tg := fun tg kq_ => castTop (ef_rmA1 m a a_INSTANT) kq_
  obtain ⟨T1, X1, e1, st1⟩ := getS2 X0 hx hZ hown (host := "") (Or.inl (hw _ (List.mem_of_getElem? (i := 67) rfl))) Via.refl e0 S_INSTANT (g := (mkF m 1 #[.val (.ref a), .val (.ref a_INSTANT), .unset] [(.ref a_INSTANT)])) rfl (hb hby d_prog_4_m_10_1)
  obtain ⟨T2, X2, e2, st2⟩ := getF X1 hx hZ hown (host := "") (Or.inl (hw _ (List.mem_of_getElem? (i := 38) rfl))) Via.refl e1 hF_instant (g := (mkF m 8 #[.val (.ref a), .val (.ref a_INSTANT), .unset] [(.ref a)])) rfl rfl (hb hby d_prog_4_m_10_8)
  obtain ⟨fs, hr, hrun, hended, hW, hsame⟩ := X2.leave (v := some (.int (nar .boolean bz1))) (fun h => by rw [Bd.returns] at h; cases h)
  refine ⟨_, _, pre0 _ ?_, hrun, hended, _, _, rfl, ?_, ⟨_, rfl⟩, hW, hsame.mono (by decide) (by decide)⟩
  · show Steps p.tables e below (s₁.setTop (mkF m 0 #[.val (.ref a), .val (.ref a_INSTANT), .unset] [])) _
    refine XS.aloadN X0.here hx rfl (hb hby d_prog_4_m_10_0) rfl rfl ?_
    show Steps p.tables e below (s₁.setTop (mkF m 1 #[.val (.ref a), .val (.ref a_INSTANT), .unset] [(.ref a_INSTANT)])) _
    refine st1 _ ?_
    show Steps p.tables e below (T1.setTop (mkF m 4 #[.val (.ref a), .val (.ref a_INSTANT), .unset] [(.ref a_INSTANT), (.ref a_INSTANT)])) _
    refine Jvm.RoadKit.acmp (g := (mkF m 4 #[.val (.ref a), .val (.ref a_INSTANT), .unset] [(.ref a_INSTANT), (.ref a_INSTANT)])) X1 hx rfl rfl rfl (pc0 := 4) (pc' := 7) (same := true) rfl (hb hby d_prog_4_m_10_4) rfl (decide_eq_true rfl) (by decide) (by decide) ?_
    show Steps p.tables e below (T1.setTop (mkF m 7 #[.val (.ref a), .val (.ref a_INSTANT), .unset] [])) _
    refine XS.aloadN X1.here hx rfl (hb hby d_prog_4_m_10_7) rfl rfl ?_
    show Steps p.tables e below (T1.setTop (mkF m 8 #[.val (.ref a), .val (.ref a_INSTANT), .unset] [(.ref a)])) _
    refine st2 _ ?_
    show Steps p.tables e below (T2.setTop (mkF m 11 #[.val (.ref a), .val (.ref a_INSTANT), .unset] [(.int bz1)])) _
    refine XS.istoreN X2.here hx rfl (hb hby d_prog_4_m_10_11) rfl (l' := #[.val (.ref a), .val (.ref a_INSTANT), .val (.int bz1)]) rfl ?_
    show Steps p.tables e below (T2.setTop (mkF m 12 #[.val (.ref a), .val (.ref a_INSTANT), .val (.int bz1)] [])) _
    refine XS.goto X2.here hx rfl (pc0 := 12) (pc' := 35) rfl (hb hby d_prog_4_m_10_12) (by decide) (by decide) ?_
    show Steps p.tables e below (T2.setTop (mkF m 35 #[.val (.ref a), .val (.ref a_INSTANT), .val (.int bz1)] [])) _
    refine XS.iloadN X2.here hx rfl (hb hby d_prog_4_m_10_35) rfl ?_
    show Steps p.tables e below (T2.setTop (mkF m 36 #[.val (.ref a), .val (.ref a_INSTANT), .val (.int bz1)] [(.int bz1)])) _
    exact retN X2 hx (t := .boolean) Bd.returns (by simp) (hb hby d_prog_4_m_10_36) hr
  · show QV (some (.int (bz1 &&& 1))) h0 n0 _ T2.heap _
    rw [e2]
    exact ⟨rfl, N0, rfl⟩
theorem ef_rmA2 (m : MethodId) (x0 : Addr) (x1 : Addr) : entryFrame m #[(.ref x0), (.ref x1)] 3 = mkF m 0 #[.val (.ref x0), .val (.ref x1), .unset] [] := by first | (simp [entryFrame, mkF, argsToLocals, Value.category]; done) | rfl
set_option maxRecDepth 65536 in
set_option maxHeartbeats 40000000 in
theorem rmA2 (l : Launch) (Z : State) (a0 : Array Value) (hw : ∀ d ∈ tables_1, d.before a0 Z = true) (ws : List Jvm.Cond) (a : Addr) (bz1 : Int32) (a_INSTANT : Addr) (a_INPLACE : Addr) (h0 : Heap) (n0 : Nat) (Z0 : n0 ≤ h0.size) (S_INSTANT : Sta Z h0 "com/example/inplace/inplace/Verdict$Algorithm" "INSTANT" "Lcom/example/inplace/inplace/Verdict$Algorithm;" (.ref a_INSTANT)) (S_INPLACE : Sta Z h0 "com/example/inplace/inplace/Verdict$Algorithm" "INPLACE" "Lcom/example/inplace/inplace/Verdict$Algorithm;" (.ref a_INPLACE)) (hF_inPlace : Fld Z h0 a "com/example/inplace/inplace/Behaviour" "inPlace" "Z" (.int bz1)) (hne : ¬ a_INPLACE = a_INSTANT) :
    MetFree l (⟨"com/example/inplace/inplace/Behaviour", "allows", "(Lcom/example/inplace/inplace/Verdict$Algorithm;)Z"⟩ : MethodName) (head1 (Jvm.Cond.code (⟨"com/example/inplace/inplace/Behaviour", "allows", "(Lcom/example/inplace/inplace/Verdict$Algorithm;)Z"⟩ : MethodName) prog_4_method_10_code 3 (some .boolean) :: ws) ({ frames := 0, cells := 0, slots := 0, locals := 0 } : Room)) (fun aa_ UU_ => aa_ = #[(.ref a), (.ref a_INPLACE)] ∧ Z.Warmed39 UU_.vm ∧ UU_.heap = h0) (fun _ _ _ _ _ => True) (fun _ UU_ oo_ UE_ => ∃ vv_ LL_, oo_ = .returned vv_ ∧ QV (some (.int (bz1 &&& 1))) h0 n0 vv_ UE_.heap LL_ ∧ FrameEnd UU_ oo_ UE_ LL_ ({ frames := 0, cells := 0, slots := 0, locals := 0 } : Room).cells ({ frames := 0, cells := 0, slots := 0, locals := 0 } : Room).slots) := by
  refine MetFree.of_bodySF (plainFor_of_name pn_3) hisR ?_
  intro p e s m args below meth c s₁ Bd hml0 hP hK
  obtain ⟨rfl, hZ, hh⟩ := hP
  have hx := Bd.exec
  have hby := Bd.bytes
  have hml : c.maxLocals = 3 := hml0
  have hown : s.vm.findClass "com/example/inplace/inplace/Behaviour" = some m.cls := findClass_of_methodNamed Bd.named
  have hnm := (name_of_methodNamed Bd.named Bd.method).1
  have X0 : Stand p l e ({ frames := 0, cells := 0, slots := 0, locals := 0 } : Room) s m #[(.ref a), (.ref a_INPLACE)] below meth c s₁ [] 0 0 := Stand.of_body Bd
  have e0 : s₁.heap = h0 := by rw [← hh, Bd.state]; rfl
  have N0 := Fr.nil n0
  have pre0 : ∀ tg, Steps p.tables e below (s₁.setTop (mkF m 0 #[.val (.ref a), .val (.ref a_INPLACE), .unset] [])) tg → Steps p.tables e below (s₁.setTop (entryFrame m #[(.ref a), (.ref a_INPLACE)] 3)) tg := fun tg kq_ => castTop (ef_rmA2 m a a_INPLACE) kq_
  obtain ⟨T1, X1, e1, st1⟩ := getS2 X0 hx hZ hown (host := "") (Or.inl (hw _ (List.mem_of_getElem? (i := 67) rfl))) Via.refl e0 S_INSTANT (g := (mkF m 1 #[.val (.ref a), .val (.ref a_INPLACE), .unset] [(.ref a_INPLACE)])) rfl (hb hby d_prog_4_m_10_1)
  obtain ⟨T2, X2, e2, st2⟩ := getS2 X1 hx hZ hown (host := "") (Or.inl (hw _ (List.mem_of_getElem? (i := 70) rfl))) Via.refl e1 S_INPLACE (g := (mkF m 16 #[.val (.ref a), .val (.ref a_INPLACE), .unset] [(.ref a_INPLACE)])) rfl (hb hby d_prog_4_m_10_16)
  obtain ⟨T3, X3, e3, st3⟩ := getF X2 hx hZ hown (host := "") (Or.inl (hw _ (List.mem_of_getElem? (i := 40) rfl))) Via.refl e2 hF_inPlace (g := (mkF m 23 #[.val (.ref a), .val (.ref a_INPLACE), .unset] [(.ref a)])) rfl rfl (hb hby d_prog_4_m_10_23)
  obtain ⟨fs, hr, hrun, hended, hW, hsame⟩ := X3.leave (v := some (.int (nar .boolean bz1))) (fun h => by rw [Bd.returns] at h; cases h)
  refine ⟨_, _, pre0 _ ?_, hrun, hended, _, _, rfl, ?_, ⟨_, rfl⟩, hW, hsame.mono (by decide) (by decide)⟩
  · show Steps p.tables e below (s₁.setTop (mkF m 0 #[.val (.ref a), .val (.ref a_INPLACE), .unset] [])) _
    refine XS.aloadN X0.here hx rfl (hb hby d_prog_4_m_10_0) rfl rfl ?_
    show Steps p.tables e below (s₁.setTop (mkF m 1 #[.val (.ref a), .val (.ref a_INPLACE), .unset] [(.ref a_INPLACE)])) _
    refine st1 _ ?_
    show Steps p.tables e below (T1.setTop (mkF m 4 #[.val (.ref a), .val (.ref a_INPLACE), .unset] [(.ref a_INSTANT), (.ref a_INPLACE)])) _
    refine Jvm.RoadKit.acmp (g := (mkF m 4 #[.val (.ref a), .val (.ref a_INPLACE), .unset] [(.ref a_INSTANT), (.ref a_INPLACE)])) X1 hx rfl rfl rfl (pc0 := 4) (pc' := 15) (same := false) rfl (hb hby d_prog_4_m_10_4) rfl (decide_eq_false fun q => hne (Value.ref.inj q)) (by decide) (by decide) ?_
    show Steps p.tables e below (T1.setTop (mkF m 15 #[.val (.ref a), .val (.ref a_INPLACE), .unset] [])) _
    refine XS.aloadN X1.here hx rfl (hb hby d_prog_4_m_10_15) rfl rfl ?_
    show Steps p.tables e below (T1.setTop (mkF m 16 #[.val (.ref a), .val (.ref a_INPLACE), .unset] [(.ref a_INPLACE)])) _
    refine st2 _ ?_
    show Steps p.tables e below (T2.setTop (mkF m 19 #[.val (.ref a), .val (.ref a_INPLACE), .unset] [(.ref a_INPLACE), (.ref a_INPLACE)])) _
    refine Jvm.RoadKit.acmp (g := (mkF m 19 #[.val (.ref a), .val (.ref a_INPLACE), .unset] [(.ref a_INPLACE), (.ref a_INPLACE)])) X2 hx rfl rfl rfl (pc0 := 19) (pc' := 22) (same := true) rfl (hb hby d_prog_4_m_10_19) rfl (decide_eq_true rfl) (by decide) (by decide) ?_
    show Steps p.tables e below (T2.setTop (mkF m 22 #[.val (.ref a), .val (.ref a_INPLACE), .unset] [])) _
    refine XS.aloadN X2.here hx rfl (hb hby d_prog_4_m_10_22) rfl rfl ?_
    show Steps p.tables e below (T2.setTop (mkF m 23 #[.val (.ref a), .val (.ref a_INPLACE), .unset] [(.ref a)])) _
    refine st3 _ ?_
    show Steps p.tables e below (T3.setTop (mkF m 26 #[.val (.ref a), .val (.ref a_INPLACE), .unset] [(.int bz1)])) _
    refine XS.istoreN X3.here hx rfl (hb hby d_prog_4_m_10_26) rfl (l' := #[.val (.ref a), .val (.ref a_INPLACE), .val (.int bz1)]) rfl ?_
    show Steps p.tables e below (T3.setTop (mkF m 27 #[.val (.ref a), .val (.ref a_INPLACE), .val (.int bz1)] [])) _
    refine XS.goto X3.here hx rfl (pc0 := 27) (pc' := 35) rfl (hb hby d_prog_4_m_10_27) (by decide) (by decide) ?_
    show Steps p.tables e below (T3.setTop (mkF m 35 #[.val (.ref a), .val (.ref a_INPLACE), .val (.int bz1)] [])) _
    refine XS.iloadN X3.here hx rfl (hb hby d_prog_4_m_10_35) rfl ?_
    show Steps p.tables e below (T3.setTop (mkF m 36 #[.val (.ref a), .val (.ref a_INPLACE), .val (.int bz1)] [(.int bz1)])) _
    exact retN X3 hx (t := .boolean) Bd.returns (by simp) (hb hby d_prog_4_m_10_36) hr
  · show QV (some (.int (bz1 &&& 1))) h0 n0 _ T3.heap _
    rw [e3]
    exact ⟨rfl, N0, rfl⟩
theorem ef_rmCp (m : MethodId) (x0 : Addr) : entryFrame m #[(.ref x0)] 1 = mkF m 0 #[.val (.ref x0)] [] := by first | (simp [entryFrame, mkF, argsToLocals, Value.category]; done) | rfl
set_option maxRecDepth 65536 in
set_option maxHeartbeats 40000000 in
theorem rmCp (l : Launch) (Z : State) (a0 : Array Value) (hw : ∀ d ∈ tables_1, d.before a0 Z = true) (ws : List Jvm.Cond) (a : Addr) (bz1 : Int32) (h0 : Heap) (n0 : Nat) (Z0 : n0 ≤ h0.size) (hF_copy : Fld Z h0 a "com/example/inplace/inplace/Behaviour" "copy" "Z" (.int bz1)) :
    MetFree l (⟨"com/example/inplace/inplace/Behaviour", "copy", "()Z"⟩ : MethodName) (head1 (Jvm.Cond.code (⟨"com/example/inplace/inplace/Behaviour", "copy", "()Z"⟩ : MethodName) prog_4_method_16_code 1 (some .boolean) :: ws) ({ frames := 0, cells := 0, slots := 0, locals := 0 } : Room)) (fun aa_ UU_ => aa_ = #[(.ref a)] ∧ Z.Warmed39 UU_.vm ∧ UU_.heap = h0) (fun _ _ _ _ _ => True) (fun _ UU_ oo_ UE_ => ∃ vv_ LL_, oo_ = .returned vv_ ∧ QV (some (.int (bz1 &&& 1))) h0 n0 vv_ UE_.heap LL_ ∧ FrameEnd UU_ oo_ UE_ LL_ ({ frames := 0, cells := 0, slots := 0, locals := 0 } : Room).cells ({ frames := 0, cells := 0, slots := 0, locals := 0 } : Room).slots) := by
  refine MetFree.of_bodySF (plainFor_of_name pn_3) hisR ?_
  intro p e s m args below meth c s₁ Bd hml0 hP hK
  obtain ⟨rfl, hZ, hh⟩ := hP
  have hx := Bd.exec
  have hby := Bd.bytes
  have hml : c.maxLocals = 1 := hml0
  have hown : s.vm.findClass "com/example/inplace/inplace/Behaviour" = some m.cls := findClass_of_methodNamed Bd.named
  have hnm := (name_of_methodNamed Bd.named Bd.method).1
  have X0 : Stand p l e ({ frames := 0, cells := 0, slots := 0, locals := 0 } : Room) s m #[(.ref a)] below meth c s₁ [] 0 0 := Stand.of_body Bd
  have e0 : s₁.heap = h0 := by rw [← hh, Bd.state]; rfl
  have N0 := Fr.nil n0
  have pre0 : ∀ tg, Steps p.tables e below (s₁.setTop (mkF m 0 #[.val (.ref a)] [])) tg → Steps p.tables e below (s₁.setTop (entryFrame m #[(.ref a)] 1)) tg := fun tg kq_ => castTop (ef_rmCp m a) kq_
  obtain ⟨T1, X1, e1, st1⟩ := getF X0 hx hZ hown (host := "") (Or.inl (hw _ (List.mem_of_getElem? (i := 42) rfl))) Via.refl e0 hF_copy (g := (mkF m 1 #[.val (.ref a)] [(.ref a)])) rfl rfl (hb hby d_prog_4_m_16_1)
  obtain ⟨fs, hr, hrun, hended, hW, hsame⟩ := X1.leave (v := some (.int (nar .boolean bz1))) (fun h => by rw [Bd.returns] at h; cases h)
  refine ⟨_, _, pre0 _ ?_, hrun, hended, _, _, rfl, ?_, ⟨_, rfl⟩, hW, hsame.mono (by decide) (by decide)⟩
  · show Steps p.tables e below (s₁.setTop (mkF m 0 #[.val (.ref a)] [])) _
    refine XS.aloadN X0.here hx rfl (hb hby d_prog_4_m_16_0) rfl rfl ?_
    show Steps p.tables e below (s₁.setTop (mkF m 1 #[.val (.ref a)] [(.ref a)])) _
    refine st1 _ ?_
    show Steps p.tables e below (T1.setTop (mkF m 4 #[.val (.ref a)] [(.int bz1)])) _
    exact retN X1 hx (t := .boolean) Bd.returns (by simp) (hb hby d_prog_4_m_16_4) hr
  · show QV (some (.int (bz1 &&& 1))) h0 n0 _ T1.heap _
    rw [e1]
    exact ⟨rfl, N0, rfl⟩
theorem ef_rm0 (m : MethodId) (x0 : Int32) (x1 : Int32) (x2 : Int32) : entryFrame m #[(.int x0), (.int x1), (.int x2)] maxLocals = mkF m 0 #[.val (.int x0), .val (.int x1), .val (.int x2), .unset, .unset, .unset, .unset, .unset, .unset, .unset, .unset, .unset, .unset, .unset, .unset] [] := by first | (simp [entryFrame, mkF, argsToLocals, Value.category, maxLocals]; done) | rfl
set_option maxRecDepth 65536 in
set_option maxHeartbeats 40000000 in
theorem rm0 (l : Launch) (Z : State) (a0 : Array Value) (hw : ∀ d ∈ tables_1, d.before a0 Z = true) (ws : List Jvm.Cond) (fg ps1 ps2 cs : Int32) (a_INSTANT : Addr) (a_INPLACE : Addr) (h0 : Heap) (n0 : Nat) (Z0 : n0 ≤ h0.size) (hO1 : Old Z n0 h0) (hS1 : Sta Z Z.heap "java/lang/String" "COMPACT_STRINGS" "Z" (.int cs)) (hcs : ¬ cs = (0 : Int32)) (S_INSTANT : Sta Z Z.heap "com/example/inplace/inplace/Verdict$Algorithm" "INSTANT" "Lcom/example/inplace/inplace/Verdict$Algorithm;" (.ref a_INSTANT)) (E_INSTANT : Exa Z Z.heap a_INSTANT "com/example/inplace/inplace/Verdict$Algorithm") (F_INSTANT_ordinal : Fld Z Z.heap a_INSTANT "java/lang/Enum" "ordinal" "I" (.int (0 : Int32))) (S_INPLACE : Sta Z Z.heap "com/example/inplace/inplace/Verdict$Algorithm" "INPLACE" "Lcom/example/inplace/inplace/Verdict$Algorithm;" (.ref a_INPLACE)) (E_INPLACE : Exa Z Z.heap a_INPLACE "com/example/inplace/inplace/Verdict$Algorithm") (F_INPLACE_ordinal : Fld Z Z.heap a_INPLACE "java/lang/Enum" "ordinal" "I" (.int (1 : Int32))) :
    MetFree l x (head1 (Jvm.Cond.code x code maxLocals ret :: ws) room_1) (fun aa_ UU_ => aa_ = #[(.int fg), (.int ps1), (.int ps2)] ∧ Z.Warmed39 UU_.vm ∧ UU_.heap = h0) (fun _ _ _ _ _ => True) (fun _ UU_ oo_ UE_ => ∃ vv_ LL_, oo_ = .returned vv_ ∧ Q0 n0 vv_ UE_.heap LL_ ∧ FrameEnd UU_ oo_ UE_ LL_ room_1.cells room_1.slots) := by
  refine MetFree.of_bodySF (plainFor_of_name pn_4) hisR ?_
  intro p e s m args below meth c s₁ Bd hml0 hP hK
  obtain ⟨rfl, hZ, hh⟩ := hP
  have hx := Bd.exec
  have hby := Bd.bytes
  have hml : c.maxLocals = 15 := hml0
  have hown : s.vm.findClass "com/example/inplace/inplace/BehaviourIsCopyOnlyPinLaw" = some m.cls := findClass_of_methodNamed Bd.named
  have hnm := (name_of_methodNamed Bd.named Bd.method).1
  have X0 : Stand p l e room_1 s m #[(.int fg), (.int ps1), (.int ps2)] below meth c s₁ [] 0 0 := Stand.of_body Bd
  have e0 : s₁.heap = h0 := by rw [← hh, Bd.state]; rfl
  have N0 := Fr.nil n0
  have pre0 : ∀ tg, Steps p.tables e below (s₁.setTop (mkF m 0 #[.val (.int fg), .val (.int ps1), .val (.int ps2), .unset, .unset, .unset, .unset, .unset, .unset, .unset, .unset, .unset, .unset, .unset, .unset] [])) tg → Steps p.tables e below (s₁.setTop (entryFrame m #[(.int fg), (.int ps1), (.int ps2)] maxLocals)) tg := fun tg kq_ => castTop (ef_rm0 m fg ps1 ps2) kq_
  obtain ⟨T1, L1, bz1, X1, e1, N1, pj1_0, R1⟩ : ∃ (T' : State) (L' : List Loc) (bz1 : Int32), Stand p l e room_1 s m #[(.int fg), (.int ps1), (.int ps2)] below meth c T' L' 0 0 ∧ T'.heap = h0 ∧ Fr n0 L' ∧ (bz1 = 0 ∨ bz1 = 1) ∧ ∀ tg, Steps p.tables e below (T'.setTop (mkF m 11 #[.val (.int fg), .val (.int ps1), .val (.int ps2), .unset, .unset, .unset, .unset, .unset, .unset, .unset, .unset, .unset, .unset, .unset, .unset] [(.int bz1)])) tg → Steps p.tables e below (s₁.setTop (mkF m 0 #[.val (.int fg), .val (.int ps1), .val (.int ps2), .unset, .unset, .unset, .unset, .unset, .unset, .unset, .unset, .unset, .unset, .unset, .unset] [])) tg := by
    have R2 : ∀ tg, Steps p.tables e below (s₁.setTop (mkF m 3 #[.val (.int fg), .val (.int ps1), .val (.int ps2), .unset, .unset, .unset, .unset, .unset, .unset, .unset, .unset, .unset, .unset, .unset, .unset] [(.int (fg &&& (1 : Int32)))])) tg → Steps p.tables e below (s₁.setTop (mkF m 0 #[.val (.int fg), .val (.int ps1), .val (.int ps2), .unset, .unset, .unset, .unset, .unset, .unset, .unset, .unset, .unset, .unset, .unset, .unset] [])) tg := by
      intro tg kt
      refine XS.iloadN X0.here hx rfl (hb hby at_0) rfl ?_
      show Steps p.tables e below (s₁.setTop (mkF m 1 #[.val (.int fg), .val (.int ps1), .val (.int ps2), .unset, .unset, .unset, .unset, .unset, .unset, .unset, .unset, .unset, .unset, .unset, .unset] [(.int fg)])) _
      refine XS.iconst X0.here hx rfl (hb hby at_1) ?_
      show Steps p.tables e below (s₁.setTop (mkF m 2 #[.val (.int fg), .val (.int ps1), .val (.int ps2), .unset, .unset, .unset, .unset, .unset, .unset, .unset, .unset, .unset, .unset, .unset, .unset] [(.int (1 : Int32)), (.int fg)])) _
      refine XS.iand X0.here hx rfl (hb hby at_2) rfl ?_
      show Steps p.tables e below (s₁.setTop (mkF m 3 #[.val (.int fg), .val (.int ps1), .val (.int ps2), .unset, .unset, .unset, .unset, .unset, .unset, .unset, .unset, .unset, .unset, .unset, .unset] [(.int (fg &&& (1 : Int32)))])) _
      exact kt
    by_cases hc3_3 : (fg &&& (1 : Int32)) = (0 : Int32)
    · have R4 : ∀ tg, Steps p.tables e below (s₁.setTop (mkF m 11 #[.val (.int fg), .val (.int ps1), .val (.int ps2), .unset, .unset, .unset, .unset, .unset, .unset, .unset, .unset, .unset, .unset, .unset, .unset] [(.int (0 : Int32))])) tg → Steps p.tables e below (s₁.setTop (mkF m 3 #[.val (.int fg), .val (.int ps1), .val (.int ps2), .unset, .unset, .unset, .unset, .unset, .unset, .unset, .unset, .unset, .unset, .unset, .unset] [(.int (fg &&& (1 : Int32)))])) tg := by
        intro tg kt
        refine XS.ifYes X0.here hx rfl (pc0 := 3) (pc' := 10) rfl (hb hby at_3) rfl ((if0 _ _).trans (teq hc3_3).1) (by decide) (by decide) ?_
        show Steps p.tables e below (s₁.setTop (mkF m 10 #[.val (.int fg), .val (.int ps1), .val (.int ps2), .unset, .unset, .unset, .unset, .unset, .unset, .unset, .unset, .unset, .unset, .unset, .unset] [])) _
        refine XS.iconst X0.here hx rfl (hb hby at_10) ?_
        show Steps p.tables e below (s₁.setTop (mkF m 11 #[.val (.int fg), .val (.int ps1), .val (.int ps2), .unset, .unset, .unset, .unset, .unset, .unset, .unset, .unset, .unset, .unset, .unset, .unset] [(.int (0 : Int32))])) _
        exact kt
      exact ⟨s₁, _, (0 : Int32), X0.more (by decide) (by decide), e0, N0, Or.inl rfl, fun _ kt => (R2 _ (R4 _ kt))⟩
    · have R5 : ∀ tg, Steps p.tables e below (s₁.setTop (mkF m 11 #[.val (.int fg), .val (.int ps1), .val (.int ps2), .unset, .unset, .unset, .unset, .unset, .unset, .unset, .unset, .unset, .unset, .unset, .unset] [(.int (1 : Int32))])) tg → Steps p.tables e below (s₁.setTop (mkF m 3 #[.val (.int fg), .val (.int ps1), .val (.int ps2), .unset, .unset, .unset, .unset, .unset, .unset, .unset, .unset, .unset, .unset, .unset, .unset] [(.int (fg &&& (1 : Int32)))])) tg := by
        intro tg kt
        refine XS.ifNo X0.here hx rfl (hb hby at_3) rfl ((if0 _ _).trans (feq hc3_3).1) ?_
        show Steps p.tables e below (s₁.setTop (mkF m 6 #[.val (.int fg), .val (.int ps1), .val (.int ps2), .unset, .unset, .unset, .unset, .unset, .unset, .unset, .unset, .unset, .unset, .unset, .unset] [])) _
        refine XS.iconst X0.here hx rfl (hb hby at_6) ?_
        show Steps p.tables e below (s₁.setTop (mkF m 7 #[.val (.int fg), .val (.int ps1), .val (.int ps2), .unset, .unset, .unset, .unset, .unset, .unset, .unset, .unset, .unset, .unset, .unset, .unset] [(.int (1 : Int32))])) _
        refine XS.goto X0.here hx rfl (pc0 := 7) (pc' := 11) rfl (hb hby at_7) (by decide) (by decide) ?_
        show Steps p.tables e below (s₁.setTop (mkF m 11 #[.val (.int fg), .val (.int ps1), .val (.int ps2), .unset, .unset, .unset, .unset, .unset, .unset, .unset, .unset, .unset, .unset, .unset, .unset] [(.int (1 : Int32))])) _
        exact kt
      exact ⟨s₁, _, (1 : Int32), X0.more (by decide) (by decide), e0, N0, Or.inr rfl, fun _ kt => (R2 _ (R5 _ kt))⟩
  have R6 : ∀ tg, Steps p.tables e below (T1.setTop (mkF m 12 #[.val (.int fg), .val (.int ps1), .val (.int ps2), .val (.int bz1), .unset, .unset, .unset, .unset, .unset, .unset, .unset, .unset, .unset, .unset, .unset] [])) tg → Steps p.tables e below (T1.setTop (mkF m 11 #[.val (.int fg), .val (.int ps1), .val (.int ps2), .unset, .unset, .unset, .unset, .unset, .unset, .unset, .unset, .unset, .unset, .unset, .unset] [(.int bz1)])) tg := by
    intro tg kt
    refine XS.istoreN X1.here hx rfl (hb hby at_11) rfl (l' := #[.val (.int fg), .val (.int ps1), .val (.int ps2), .val (.int bz1), .unset, .unset, .unset, .unset, .unset, .unset, .unset, .unset, .unset, .unset, .unset]) rfl ?_
    show Steps p.tables e below (T1.setTop (mkF m 12 #[.val (.int fg), .val (.int ps1), .val (.int ps2), .val (.int bz1), .unset, .unset, .unset, .unset, .unset, .unset, .unset, .unset, .unset, .unset, .unset] [])) _
    exact kt
  obtain ⟨T7, L7, bz2, X7, e7, N7, pj7_0, R7⟩ : ∃ (T' : State) (L' : List Loc) (bz2 : Int32), Stand p l e room_1 s m #[(.int fg), (.int ps1), (.int ps2)] below meth c T' L' 0 0 ∧ T'.heap = h0 ∧ Fr n0 L' ∧ (bz2 = 0 ∨ bz2 = 1) ∧ ∀ tg, Steps p.tables e below (T'.setTop (mkF m 23 #[.val (.int fg), .val (.int ps1), .val (.int ps2), .val (.int bz1), .unset, .unset, .unset, .unset, .unset, .unset, .unset, .unset, .unset, .unset, .unset] [(.int bz2)])) tg → Steps p.tables e below (T1.setTop (mkF m 12 #[.val (.int fg), .val (.int ps1), .val (.int ps2), .val (.int bz1), .unset, .unset, .unset, .unset, .unset, .unset, .unset, .unset, .unset, .unset, .unset] [])) tg := by
    have R8 : ∀ tg, Steps p.tables e below (T1.setTop (mkF m 15 #[.val (.int fg), .val (.int ps1), .val (.int ps2), .val (.int bz1), .unset, .unset, .unset, .unset, .unset, .unset, .unset, .unset, .unset, .unset, .unset] [(.int (fg &&& (2 : Int32)))])) tg → Steps p.tables e below (T1.setTop (mkF m 12 #[.val (.int fg), .val (.int ps1), .val (.int ps2), .val (.int bz1), .unset, .unset, .unset, .unset, .unset, .unset, .unset, .unset, .unset, .unset, .unset] [])) tg := by
      intro tg kt
      refine XS.iloadN X1.here hx rfl (hb hby at_12) rfl ?_
      show Steps p.tables e below (T1.setTop (mkF m 13 #[.val (.int fg), .val (.int ps1), .val (.int ps2), .val (.int bz1), .unset, .unset, .unset, .unset, .unset, .unset, .unset, .unset, .unset, .unset, .unset] [(.int fg)])) _
      refine XS.iconst X1.here hx rfl (hb hby at_13) ?_
      show Steps p.tables e below (T1.setTop (mkF m 14 #[.val (.int fg), .val (.int ps1), .val (.int ps2), .val (.int bz1), .unset, .unset, .unset, .unset, .unset, .unset, .unset, .unset, .unset, .unset, .unset] [(.int (2 : Int32)), (.int fg)])) _
      refine XS.iand X1.here hx rfl (hb hby at_14) rfl ?_
      show Steps p.tables e below (T1.setTop (mkF m 15 #[.val (.int fg), .val (.int ps1), .val (.int ps2), .val (.int bz1), .unset, .unset, .unset, .unset, .unset, .unset, .unset, .unset, .unset, .unset, .unset] [(.int (fg &&& (2 : Int32)))])) _
      exact kt
    by_cases hc15_9 : (fg &&& (2 : Int32)) = (0 : Int32)
    · have R10 : ∀ tg, Steps p.tables e below (T1.setTop (mkF m 23 #[.val (.int fg), .val (.int ps1), .val (.int ps2), .val (.int bz1), .unset, .unset, .unset, .unset, .unset, .unset, .unset, .unset, .unset, .unset, .unset] [(.int (0 : Int32))])) tg → Steps p.tables e below (T1.setTop (mkF m 15 #[.val (.int fg), .val (.int ps1), .val (.int ps2), .val (.int bz1), .unset, .unset, .unset, .unset, .unset, .unset, .unset, .unset, .unset, .unset, .unset] [(.int (fg &&& (2 : Int32)))])) tg := by
        intro tg kt
        refine XS.ifYes X1.here hx rfl (pc0 := 15) (pc' := 22) rfl (hb hby at_15) rfl ((if0 _ _).trans (teq hc15_9).1) (by decide) (by decide) ?_
        show Steps p.tables e below (T1.setTop (mkF m 22 #[.val (.int fg), .val (.int ps1), .val (.int ps2), .val (.int bz1), .unset, .unset, .unset, .unset, .unset, .unset, .unset, .unset, .unset, .unset, .unset] [])) _
        refine XS.iconst X1.here hx rfl (hb hby at_22) ?_
        show Steps p.tables e below (T1.setTop (mkF m 23 #[.val (.int fg), .val (.int ps1), .val (.int ps2), .val (.int bz1), .unset, .unset, .unset, .unset, .unset, .unset, .unset, .unset, .unset, .unset, .unset] [(.int (0 : Int32))])) _
        exact kt
      exact ⟨T1, _, (0 : Int32), X1.more (by decide) (by decide), e1, N1, Or.inl rfl, fun _ kt => (R8 _ (R10 _ kt))⟩
    · have R11 : ∀ tg, Steps p.tables e below (T1.setTop (mkF m 23 #[.val (.int fg), .val (.int ps1), .val (.int ps2), .val (.int bz1), .unset, .unset, .unset, .unset, .unset, .unset, .unset, .unset, .unset, .unset, .unset] [(.int (1 : Int32))])) tg → Steps p.tables e below (T1.setTop (mkF m 15 #[.val (.int fg), .val (.int ps1), .val (.int ps2), .val (.int bz1), .unset, .unset, .unset, .unset, .unset, .unset, .unset, .unset, .unset, .unset, .unset] [(.int (fg &&& (2 : Int32)))])) tg := by
        intro tg kt
        refine XS.ifNo X1.here hx rfl (hb hby at_15) rfl ((if0 _ _).trans (feq hc15_9).1) ?_
        show Steps p.tables e below (T1.setTop (mkF m 18 #[.val (.int fg), .val (.int ps1), .val (.int ps2), .val (.int bz1), .unset, .unset, .unset, .unset, .unset, .unset, .unset, .unset, .unset, .unset, .unset] [])) _
        refine XS.iconst X1.here hx rfl (hb hby at_18) ?_
        show Steps p.tables e below (T1.setTop (mkF m 19 #[.val (.int fg), .val (.int ps1), .val (.int ps2), .val (.int bz1), .unset, .unset, .unset, .unset, .unset, .unset, .unset, .unset, .unset, .unset, .unset] [(.int (1 : Int32))])) _
        refine XS.goto X1.here hx rfl (pc0 := 19) (pc' := 23) rfl (hb hby at_19) (by decide) (by decide) ?_
        show Steps p.tables e below (T1.setTop (mkF m 23 #[.val (.int fg), .val (.int ps1), .val (.int ps2), .val (.int bz1), .unset, .unset, .unset, .unset, .unset, .unset, .unset, .unset, .unset, .unset, .unset] [(.int (1 : Int32))])) _
        exact kt
      exact ⟨T1, _, (1 : Int32), X1.more (by decide) (by decide), e1, N1, Or.inr rfl, fun _ kt => (R8 _ (R11 _ kt))⟩
  have R12 : ∀ tg, Steps p.tables e below (T7.setTop (mkF m 25 #[.val (.int fg), .val (.int ps1), .val (.int ps2), .val (.int bz1), .val (.int bz2), .unset, .unset, .unset, .unset, .unset, .unset, .unset, .unset, .unset, .unset] [])) tg → Steps p.tables e below (T7.setTop (mkF m 23 #[.val (.int fg), .val (.int ps1), .val (.int ps2), .val (.int bz1), .unset, .unset, .unset, .unset, .unset, .unset, .unset, .unset, .unset, .unset, .unset] [(.int bz2)])) tg := by
    intro tg kt
    refine XS.istore X7.here hx rfl (hb hby at_23) rfl (l' := #[.val (.int fg), .val (.int ps1), .val (.int ps2), .val (.int bz1), .val (.int bz2), .unset, .unset, .unset, .unset, .unset, .unset, .unset, .unset, .unset, .unset]) rfl ?_
    show Steps p.tables e below (T7.setTop (mkF m 25 #[.val (.int fg), .val (.int ps1), .val (.int ps2), .val (.int bz1), .val (.int bz2), .unset, .unset, .unset, .unset, .unset, .unset, .unset, .unset, .unset, .unset] [])) _
    exact kt
  obtain ⟨T13, L13, bz3, X13, e13, N13, pj13_0, pj13_1, R13⟩ : ∃ (T' : State) (L' : List Loc) (bz3 : Int32), Stand p l e room_1 s m #[(.int fg), (.int ps1), (.int ps2)] below meth c T' L' 0 0 ∧ T'.heap = h0 ∧ Fr n0 L' ∧ (bz3 = 0 ∨ bz3 = 1) ∧ (¬ bz1 = 0 ∨ ¬ bz2 = 0 ∨ ¬ bz3 = 0) ∧ ∀ tg, Steps p.tables e below (T'.setTop (mkF m 45 #[.val (.int fg), .val (.int ps1), .val (.int ps2), .val (.int bz1), .val (.int bz2), .unset, .unset, .unset, .unset, .unset, .unset, .unset, .unset, .unset, .unset] [(.int bz3)])) tg → Steps p.tables e below (T7.setTop (mkF m 25 #[.val (.int fg), .val (.int ps1), .val (.int ps2), .val (.int bz1), .val (.int bz2), .unset, .unset, .unset, .unset, .unset, .unset, .unset, .unset, .unset, .unset] [])) tg := by
    have R14 : ∀ tg, Steps p.tables e below (T7.setTop (mkF m 28 #[.val (.int fg), .val (.int ps1), .val (.int ps2), .val (.int bz1), .val (.int bz2), .unset, .unset, .unset, .unset, .unset, .unset, .unset, .unset, .unset, .unset] [(.int (fg &&& (4 : Int32)))])) tg → Steps p.tables e below (T7.setTop (mkF m 25 #[.val (.int fg), .val (.int ps1), .val (.int ps2), .val (.int bz1), .val (.int bz2), .unset, .unset, .unset, .unset, .unset, .unset, .unset, .unset, .unset, .unset] [])) tg := by
      intro tg kt
      refine XS.iloadN X7.here hx rfl (hb hby at_25) rfl ?_
      show Steps p.tables e below (T7.setTop (mkF m 26 #[.val (.int fg), .val (.int ps1), .val (.int ps2), .val (.int bz1), .val (.int bz2), .unset, .unset, .unset, .unset, .unset, .unset, .unset, .unset, .unset, .unset] [(.int fg)])) _
      refine XS.iconst X7.here hx rfl (hb hby at_26) ?_
      show Steps p.tables e below (T7.setTop (mkF m 27 #[.val (.int fg), .val (.int ps1), .val (.int ps2), .val (.int bz1), .val (.int bz2), .unset, .unset, .unset, .unset, .unset, .unset, .unset, .unset, .unset, .unset] [(.int (4 : Int32)), (.int fg)])) _
      refine XS.iand X7.here hx rfl (hb hby at_27) rfl ?_
      show Steps p.tables e below (T7.setTop (mkF m 28 #[.val (.int fg), .val (.int ps1), .val (.int ps2), .val (.int bz1), .val (.int bz2), .unset, .unset, .unset, .unset, .unset, .unset, .unset, .unset, .unset, .unset] [(.int (fg &&& (4 : Int32)))])) _
      exact kt
    by_cases hc28_15 : (fg &&& (4 : Int32)) = (0 : Int32)
    · have R16 : ∀ tg, Steps p.tables e below (T7.setTop (mkF m 32 #[.val (.int fg), .val (.int ps1), .val (.int ps2), .val (.int bz1), .val (.int bz2), .unset, .unset, .unset, .unset, .unset, .unset, .unset, .unset, .unset, .unset] [(.int bz1)])) tg → Steps p.tables e below (T7.setTop (mkF m 28 #[.val (.int fg), .val (.int ps1), .val (.int ps2), .val (.int bz1), .val (.int bz2), .unset, .unset, .unset, .unset, .unset, .unset, .unset, .unset, .unset, .unset] [(.int (fg &&& (4 : Int32)))])) tg := by
        intro tg kt
        refine XS.ifNo X7.here hx rfl (hb hby at_28) rfl ((if0 _ _).trans (teq hc28_15).2) ?_
        show Steps p.tables e below (T7.setTop (mkF m 31 #[.val (.int fg), .val (.int ps1), .val (.int ps2), .val (.int bz1), .val (.int bz2), .unset, .unset, .unset, .unset, .unset, .unset, .unset, .unset, .unset, .unset] [])) _
        refine XS.iloadN X7.here hx rfl (hb hby at_31) rfl ?_
        show Steps p.tables e below (T7.setTop (mkF m 32 #[.val (.int fg), .val (.int ps1), .val (.int ps2), .val (.int bz1), .val (.int bz2), .unset, .unset, .unset, .unset, .unset, .unset, .unset, .unset, .unset, .unset] [(.int bz1)])) _
        exact kt
      by_cases hc32_17 : bz1 = (0 : Int32)
      · have R18 : ∀ tg, Steps p.tables e below (T7.setTop (mkF m 37 #[.val (.int fg), .val (.int ps1), .val (.int ps2), .val (.int bz1), .val (.int bz2), .unset, .unset, .unset, .unset, .unset, .unset, .unset, .unset, .unset, .unset] [(.int bz2)])) tg → Steps p.tables e below (T7.setTop (mkF m 32 #[.val (.int fg), .val (.int ps1), .val (.int ps2), .val (.int bz1), .val (.int bz2), .unset, .unset, .unset, .unset, .unset, .unset, .unset, .unset, .unset, .unset] [(.int bz1)])) tg := by
          intro tg kt
          refine XS.ifNo X7.here hx rfl (hb hby at_32) rfl ((if0 _ _).trans (teq hc32_17).2) ?_
          show Steps p.tables e below (T7.setTop (mkF m 35 #[.val (.int fg), .val (.int ps1), .val (.int ps2), .val (.int bz1), .val (.int bz2), .unset, .unset, .unset, .unset, .unset, .unset, .unset, .unset, .unset, .unset] [])) _
          refine XS.iload X7.here hx rfl (hb hby at_35) rfl ?_
          show Steps p.tables e below (T7.setTop (mkF m 37 #[.val (.int fg), .val (.int ps1), .val (.int ps2), .val (.int bz1), .val (.int bz2), .unset, .unset, .unset, .unset, .unset, .unset, .unset, .unset, .unset, .unset] [(.int bz2)])) _
          exact kt
        by_cases hc37_19 : bz2 = (0 : Int32)
        · have R20 : ∀ tg, Steps p.tables e below (T7.setTop (mkF m 45 #[.val (.int fg), .val (.int ps1), .val (.int ps2), .val (.int bz1), .val (.int bz2), .unset, .unset, .unset, .unset, .unset, .unset, .unset, .unset, .unset, .unset] [(.int (1 : Int32))])) tg → Steps p.tables e below (T7.setTop (mkF m 37 #[.val (.int fg), .val (.int ps1), .val (.int ps2), .val (.int bz1), .val (.int bz2), .unset, .unset, .unset, .unset, .unset, .unset, .unset, .unset, .unset, .unset] [(.int bz2)])) tg := by
            intro tg kt
            refine XS.ifNo X7.here hx rfl (hb hby at_37) rfl ((if0 _ _).trans (teq hc37_19).2) ?_
            show Steps p.tables e below (T7.setTop (mkF m 40 #[.val (.int fg), .val (.int ps1), .val (.int ps2), .val (.int bz1), .val (.int bz2), .unset, .unset, .unset, .unset, .unset, .unset, .unset, .unset, .unset, .unset] [])) _
            refine XS.iconst X7.here hx rfl (hb hby at_40) ?_
            show Steps p.tables e below (T7.setTop (mkF m 41 #[.val (.int fg), .val (.int ps1), .val (.int ps2), .val (.int bz1), .val (.int bz2), .unset, .unset, .unset, .unset, .unset, .unset, .unset, .unset, .unset, .unset] [(.int (1 : Int32))])) _
            refine XS.goto X7.here hx rfl (pc0 := 41) (pc' := 45) rfl (hb hby at_41) (by decide) (by decide) ?_
            show Steps p.tables e below (T7.setTop (mkF m 45 #[.val (.int fg), .val (.int ps1), .val (.int ps2), .val (.int bz1), .val (.int bz2), .unset, .unset, .unset, .unset, .unset, .unset, .unset, .unset, .unset, .unset] [(.int (1 : Int32))])) _
            exact kt
          exact ⟨T7, _, (1 : Int32), X7.more (by decide) (by decide), e7, N7, Or.inr rfl, Or.inr (Or.inr (by decide)), fun _ kt => (R14 _ (R16 _ (R18 _ (R20 _ kt))))⟩
        · have R21 : ∀ tg, Steps p.tables e below (T7.setTop (mkF m 45 #[.val (.int fg), .val (.int ps1), .val (.int ps2), .val (.int bz1), .val (.int bz2), .unset, .unset, .unset, .unset, .unset, .unset, .unset, .unset, .unset, .unset] [(.int (0 : Int32))])) tg → Steps p.tables e below (T7.setTop (mkF m 37 #[.val (.int fg), .val (.int ps1), .val (.int ps2), .val (.int bz1), .val (.int bz2), .unset, .unset, .unset, .unset, .unset, .unset, .unset, .unset, .unset, .unset] [(.int bz2)])) tg := by
            intro tg kt
            refine XS.ifYes X7.here hx rfl (pc0 := 37) (pc' := 44) rfl (hb hby at_37) rfl ((if0 _ _).trans (feq hc37_19).2) (by decide) (by decide) ?_
            show Steps p.tables e below (T7.setTop (mkF m 44 #[.val (.int fg), .val (.int ps1), .val (.int ps2), .val (.int bz1), .val (.int bz2), .unset, .unset, .unset, .unset, .unset, .unset, .unset, .unset, .unset, .unset] [])) _
            refine XS.iconst X7.here hx rfl (hb hby at_44) ?_
            show Steps p.tables e below (T7.setTop (mkF m 45 #[.val (.int fg), .val (.int ps1), .val (.int ps2), .val (.int bz1), .val (.int bz2), .unset, .unset, .unset, .unset, .unset, .unset, .unset, .unset, .unset, .unset] [(.int (0 : Int32))])) _
            exact kt
          exact ⟨T7, _, (0 : Int32), X7.more (by decide) (by decide), e7, N7, Or.inl rfl, Or.inr (Or.inl hc37_19), fun _ kt => (R14 _ (R16 _ (R18 _ (R21 _ kt))))⟩
      · have R22 : ∀ tg, Steps p.tables e below (T7.setTop (mkF m 45 #[.val (.int fg), .val (.int ps1), .val (.int ps2), .val (.int bz1), .val (.int bz2), .unset, .unset, .unset, .unset, .unset, .unset, .unset, .unset, .unset, .unset] [(.int (0 : Int32))])) tg → Steps p.tables e below (T7.setTop (mkF m 32 #[.val (.int fg), .val (.int ps1), .val (.int ps2), .val (.int bz1), .val (.int bz2), .unset, .unset, .unset, .unset, .unset, .unset, .unset, .unset, .unset, .unset] [(.int bz1)])) tg := by
          intro tg kt
          refine XS.ifYes X7.here hx rfl (pc0 := 32) (pc' := 44) rfl (hb hby at_32) rfl ((if0 _ _).trans (feq hc32_17).2) (by decide) (by decide) ?_
          show Steps p.tables e below (T7.setTop (mkF m 44 #[.val (.int fg), .val (.int ps1), .val (.int ps2), .val (.int bz1), .val (.int bz2), .unset, .unset, .unset, .unset, .unset, .unset, .unset, .unset, .unset, .unset] [])) _
          refine XS.iconst X7.here hx rfl (hb hby at_44) ?_
          show Steps p.tables e below (T7.setTop (mkF m 45 #[.val (.int fg), .val (.int ps1), .val (.int ps2), .val (.int bz1), .val (.int bz2), .unset, .unset, .unset, .unset, .unset, .unset, .unset, .unset, .unset, .unset] [(.int (0 : Int32))])) _
          exact kt
        exact ⟨T7, _, (0 : Int32), X7.more (by decide) (by decide), e7, N7, Or.inl rfl, Or.inl hc32_17, fun _ kt => (R14 _ (R16 _ (R22 _ kt)))⟩
    · have R23 : ∀ tg, Steps p.tables e below (T7.setTop (mkF m 45 #[.val (.int fg), .val (.int ps1), .val (.int ps2), .val (.int bz1), .val (.int bz2), .unset, .unset, .unset, .unset, .unset, .unset, .unset, .unset, .unset, .unset] [(.int (1 : Int32))])) tg → Steps p.tables e below (T7.setTop (mkF m 28 #[.val (.int fg), .val (.int ps1), .val (.int ps2), .val (.int bz1), .val (.int bz2), .unset, .unset, .unset, .unset, .unset, .unset, .unset, .unset, .unset, .unset] [(.int (fg &&& (4 : Int32)))])) tg := by
        intro tg kt
        refine XS.ifYes X7.here hx rfl (pc0 := 28) (pc' := 40) rfl (hb hby at_28) rfl ((if0 _ _).trans (feq hc28_15).2) (by decide) (by decide) ?_
        show Steps p.tables e below (T7.setTop (mkF m 40 #[.val (.int fg), .val (.int ps1), .val (.int ps2), .val (.int bz1), .val (.int bz2), .unset, .unset, .unset, .unset, .unset, .unset, .unset, .unset, .unset, .unset] [])) _
        refine XS.iconst X7.here hx rfl (hb hby at_40) ?_
        show Steps p.tables e below (T7.setTop (mkF m 41 #[.val (.int fg), .val (.int ps1), .val (.int ps2), .val (.int bz1), .val (.int bz2), .unset, .unset, .unset, .unset, .unset, .unset, .unset, .unset, .unset, .unset] [(.int (1 : Int32))])) _
        refine XS.goto X7.here hx rfl (pc0 := 41) (pc' := 45) rfl (hb hby at_41) (by decide) (by decide) ?_
        show Steps p.tables e below (T7.setTop (mkF m 45 #[.val (.int fg), .val (.int ps1), .val (.int ps2), .val (.int bz1), .val (.int bz2), .unset, .unset, .unset, .unset, .unset, .unset, .unset, .unset, .unset, .unset] [(.int (1 : Int32))])) _
        exact kt
      exact ⟨T7, _, (1 : Int32), X7.more (by decide) (by decide), e7, N7, Or.inr rfl, Or.inr (Or.inr (by decide)), fun _ kt => (R14 _ (R23 _ kt))⟩
  have R24 : ∀ tg, Steps p.tables e below (T13.setTop (mkF m 47 #[.val (.int fg), .val (.int ps1), .val (.int ps2), .val (.int bz1), .val (.int bz2), .val (.int bz3), .unset, .unset, .unset, .unset, .unset, .unset, .unset, .unset, .unset] [])) tg → Steps p.tables e below (T13.setTop (mkF m 45 #[.val (.int fg), .val (.int ps1), .val (.int ps2), .val (.int bz1), .val (.int bz2), .unset, .unset, .unset, .unset, .unset, .unset, .unset, .unset, .unset, .unset] [(.int bz3)])) tg := by
    intro tg kt
    refine XS.istore X13.here hx rfl (hb hby at_45) rfl (l' := #[.val (.int fg), .val (.int ps1), .val (.int ps2), .val (.int bz1), .val (.int bz2), .val (.int bz3), .unset, .unset, .unset, .unset, .unset, .unset, .unset, .unset, .unset]) rfl ?_
    show Steps p.tables e below (T13.setTop (mkF m 47 #[.val (.int fg), .val (.int ps1), .val (.int ps2), .val (.int bz1), .val (.int bz2), .val (.int bz3), .unset, .unset, .unset, .unset, .unset, .unset, .unset, .unset, .unset] [])) _
    exact kt
  obtain ⟨T25, L25, bz4, X25, e25, N25, pj25_0, R25⟩ : ∃ (T' : State) (L' : List Loc) (bz4 : Int32), Stand p l e room_1 s m #[(.int fg), (.int ps1), (.int ps2)] below meth c T' L' 0 0 ∧ T'.heap = h0 ∧ Fr n0 L' ∧ (bz4 = 0 ∨ bz4 = 1) ∧ ∀ tg, Steps p.tables e below (T'.setTop (mkF m 59 #[.val (.int fg), .val (.int ps1), .val (.int ps2), .val (.int bz1), .val (.int bz2), .val (.int bz3), .unset, .unset, .unset, .unset, .unset, .unset, .unset, .unset, .unset] [(.int bz4)])) tg → Steps p.tables e below (T13.setTop (mkF m 47 #[.val (.int fg), .val (.int ps1), .val (.int ps2), .val (.int bz1), .val (.int bz2), .val (.int bz3), .unset, .unset, .unset, .unset, .unset, .unset, .unset, .unset, .unset] [])) tg := by
    have R26 : ∀ tg, Steps p.tables e below (T13.setTop (mkF m 51 #[.val (.int fg), .val (.int ps1), .val (.int ps2), .val (.int bz1), .val (.int bz2), .val (.int bz3), .unset, .unset, .unset, .unset, .unset, .unset, .unset, .unset, .unset] [(.int (fg &&& (8 : Int32)))])) tg → Steps p.tables e below (T13.setTop (mkF m 47 #[.val (.int fg), .val (.int ps1), .val (.int ps2), .val (.int bz1), .val (.int bz2), .val (.int bz3), .unset, .unset, .unset, .unset, .unset, .unset, .unset, .unset, .unset] [])) tg := by
      intro tg kt
      refine XS.iloadN X13.here hx rfl (hb hby at_47) rfl ?_
      show Steps p.tables e below (T13.setTop (mkF m 48 #[.val (.int fg), .val (.int ps1), .val (.int ps2), .val (.int bz1), .val (.int bz2), .val (.int bz3), .unset, .unset, .unset, .unset, .unset, .unset, .unset, .unset, .unset] [(.int fg)])) _
      refine XS.bipush X13.here hx rfl (hb hby at_48) ?_
      show Steps p.tables e below (T13.setTop (mkF m 50 #[.val (.int fg), .val (.int ps1), .val (.int ps2), .val (.int bz1), .val (.int bz2), .val (.int bz3), .unset, .unset, .unset, .unset, .unset, .unset, .unset, .unset, .unset] [(.int (8 : Int32)), (.int fg)])) _
      refine XS.iand X13.here hx rfl (hb hby at_50) rfl ?_
      show Steps p.tables e below (T13.setTop (mkF m 51 #[.val (.int fg), .val (.int ps1), .val (.int ps2), .val (.int bz1), .val (.int bz2), .val (.int bz3), .unset, .unset, .unset, .unset, .unset, .unset, .unset, .unset, .unset] [(.int (fg &&& (8 : Int32)))])) _
      exact kt
    by_cases hc51_27 : (fg &&& (8 : Int32)) = (0 : Int32)
    · have R28 : ∀ tg, Steps p.tables e below (T13.setTop (mkF m 59 #[.val (.int fg), .val (.int ps1), .val (.int ps2), .val (.int bz1), .val (.int bz2), .val (.int bz3), .unset, .unset, .unset, .unset, .unset, .unset, .unset, .unset, .unset] [(.int (0 : Int32))])) tg → Steps p.tables e below (T13.setTop (mkF m 51 #[.val (.int fg), .val (.int ps1), .val (.int ps2), .val (.int bz1), .val (.int bz2), .val (.int bz3), .unset, .unset, .unset, .unset, .unset, .unset, .unset, .unset, .unset] [(.int (fg &&& (8 : Int32)))])) tg := by
        intro tg kt
        refine XS.ifYes X13.here hx rfl (pc0 := 51) (pc' := 58) rfl (hb hby at_51) rfl ((if0 _ _).trans (teq hc51_27).1) (by decide) (by decide) ?_
        show Steps p.tables e below (T13.setTop (mkF m 58 #[.val (.int fg), .val (.int ps1), .val (.int ps2), .val (.int bz1), .val (.int bz2), .val (.int bz3), .unset, .unset, .unset, .unset, .unset, .unset, .unset, .unset, .unset] [])) _
        refine XS.iconst X13.here hx rfl (hb hby at_58) ?_
        show Steps p.tables e below (T13.setTop (mkF m 59 #[.val (.int fg), .val (.int ps1), .val (.int ps2), .val (.int bz1), .val (.int bz2), .val (.int bz3), .unset, .unset, .unset, .unset, .unset, .unset, .unset, .unset, .unset] [(.int (0 : Int32))])) _
        exact kt
      exact ⟨T13, _, (0 : Int32), X13.more (by decide) (by decide), e13, N13, Or.inl rfl, fun _ kt => (R26 _ (R28 _ kt))⟩
    · have R29 : ∀ tg, Steps p.tables e below (T13.setTop (mkF m 59 #[.val (.int fg), .val (.int ps1), .val (.int ps2), .val (.int bz1), .val (.int bz2), .val (.int bz3), .unset, .unset, .unset, .unset, .unset, .unset, .unset, .unset, .unset] [(.int (1 : Int32))])) tg → Steps p.tables e below (T13.setTop (mkF m 51 #[.val (.int fg), .val (.int ps1), .val (.int ps2), .val (.int bz1), .val (.int bz2), .val (.int bz3), .unset, .unset, .unset, .unset, .unset, .unset, .unset, .unset, .unset] [(.int (fg &&& (8 : Int32)))])) tg := by
        intro tg kt
        refine XS.ifNo X13.here hx rfl (hb hby at_51) rfl ((if0 _ _).trans (feq hc51_27).1) ?_
        show Steps p.tables e below (T13.setTop (mkF m 54 #[.val (.int fg), .val (.int ps1), .val (.int ps2), .val (.int bz1), .val (.int bz2), .val (.int bz3), .unset, .unset, .unset, .unset, .unset, .unset, .unset, .unset, .unset] [])) _
        refine XS.iconst X13.here hx rfl (hb hby at_54) ?_
        show Steps p.tables e below (T13.setTop (mkF m 55 #[.val (.int fg), .val (.int ps1), .val (.int ps2), .val (.int bz1), .val (.int bz2), .val (.int bz3), .unset, .unset, .unset, .unset, .unset, .unset, .unset, .unset, .unset] [(.int (1 : Int32))])) _
        refine XS.goto X13.here hx rfl (pc0 := 55) (pc' := 59) rfl (hb hby at_55) (by decide) (by decide) ?_
        show Steps p.tables e below (T13.setTop (mkF m 59 #[.val (.int fg), .val (.int ps1), .val (.int ps2), .val (.int bz1), .val (.int bz2), .val (.int bz3), .unset, .unset, .unset, .unset, .unset, .unset, .unset, .unset, .unset] [(.int (1 : Int32))])) _
        exact kt
      exact ⟨T13, _, (1 : Int32), X13.more (by decide) (by decide), e13, N13, Or.inr rfl, fun _ kt => (R26 _ (R29 _ kt))⟩
  have R30 : ∀ tg, Steps p.tables e below (T25.setTop (mkF m 61 #[.val (.int fg), .val (.int ps1), .val (.int ps2), .val (.int bz1), .val (.int bz2), .val (.int bz3), .val (.int bz4), .unset, .unset, .unset, .unset, .unset, .unset, .unset, .unset] [])) tg → Steps p.tables e below (T25.setTop (mkF m 59 #[.val (.int fg), .val (.int ps1), .val (.int ps2), .val (.int bz1), .val (.int bz2), .val (.int bz3), .unset, .unset, .unset, .unset, .unset, .unset, .unset, .unset, .unset] [(.int bz4)])) tg := by
    intro tg kt
    refine XS.istore X25.here hx rfl (hb hby at_59) rfl (l' := #[.val (.int fg), .val (.int ps1), .val (.int ps2), .val (.int bz1), .val (.int bz2), .val (.int bz3), .val (.int bz4), .unset, .unset, .unset, .unset, .unset, .unset, .unset, .unset]) rfl ?_
    show Steps p.tables e below (T25.setTop (mkF m 61 #[.val (.int fg), .val (.int ps1), .val (.int ps2), .val (.int bz1), .val (.int bz2), .val (.int bz3), .val (.int bz4), .unset, .unset, .unset, .unset, .unset, .unset, .unset, .unset] [])) _
    exact kt
  obtain ⟨T31, L31, bz5, X31, e31, N31, pj31_0, R31⟩ : ∃ (T' : State) (L' : List Loc) (bz5 : Int32), Stand p l e room_1 s m #[(.int fg), (.int ps1), (.int ps2)] below meth c T' L' 0 0 ∧ T'.heap = h0 ∧ Fr n0 L' ∧ (bz5 = 0 ∨ bz5 = 1) ∧ ∀ tg, Steps p.tables e below (T'.setTop (mkF m 73 #[.val (.int fg), .val (.int ps1), .val (.int ps2), .val (.int bz1), .val (.int bz2), .val (.int bz3), .val (.int bz4), .unset, .unset, .unset, .unset, .unset, .unset, .unset, .unset] [(.int bz5)])) tg → Steps p.tables e below (T25.setTop (mkF m 61 #[.val (.int fg), .val (.int ps1), .val (.int ps2), .val (.int bz1), .val (.int bz2), .val (.int bz3), .val (.int bz4), .unset, .unset, .unset, .unset, .unset, .unset, .unset, .unset] [])) tg := by
    have R32 : ∀ tg, Steps p.tables e below (T25.setTop (mkF m 65 #[.val (.int fg), .val (.int ps1), .val (.int ps2), .val (.int bz1), .val (.int bz2), .val (.int bz3), .val (.int bz4), .unset, .unset, .unset, .unset, .unset, .unset, .unset, .unset] [(.int (fg &&& (16 : Int32)))])) tg → Steps p.tables e below (T25.setTop (mkF m 61 #[.val (.int fg), .val (.int ps1), .val (.int ps2), .val (.int bz1), .val (.int bz2), .val (.int bz3), .val (.int bz4), .unset, .unset, .unset, .unset, .unset, .unset, .unset, .unset] [])) tg := by
      intro tg kt
      refine XS.iloadN X25.here hx rfl (hb hby at_61) rfl ?_
      show Steps p.tables e below (T25.setTop (mkF m 62 #[.val (.int fg), .val (.int ps1), .val (.int ps2), .val (.int bz1), .val (.int bz2), .val (.int bz3), .val (.int bz4), .unset, .unset, .unset, .unset, .unset, .unset, .unset, .unset] [(.int fg)])) _
      refine XS.bipush X25.here hx rfl (hb hby at_62) ?_
      show Steps p.tables e below (T25.setTop (mkF m 64 #[.val (.int fg), .val (.int ps1), .val (.int ps2), .val (.int bz1), .val (.int bz2), .val (.int bz3), .val (.int bz4), .unset, .unset, .unset, .unset, .unset, .unset, .unset, .unset] [(.int (16 : Int32)), (.int fg)])) _
      refine XS.iand X25.here hx rfl (hb hby at_64) rfl ?_
      show Steps p.tables e below (T25.setTop (mkF m 65 #[.val (.int fg), .val (.int ps1), .val (.int ps2), .val (.int bz1), .val (.int bz2), .val (.int bz3), .val (.int bz4), .unset, .unset, .unset, .unset, .unset, .unset, .unset, .unset] [(.int (fg &&& (16 : Int32)))])) _
      exact kt
    by_cases hc65_33 : (fg &&& (16 : Int32)) = (0 : Int32)
    · have R34 : ∀ tg, Steps p.tables e below (T25.setTop (mkF m 73 #[.val (.int fg), .val (.int ps1), .val (.int ps2), .val (.int bz1), .val (.int bz2), .val (.int bz3), .val (.int bz4), .unset, .unset, .unset, .unset, .unset, .unset, .unset, .unset] [(.int (0 : Int32))])) tg → Steps p.tables e below (T25.setTop (mkF m 65 #[.val (.int fg), .val (.int ps1), .val (.int ps2), .val (.int bz1), .val (.int bz2), .val (.int bz3), .val (.int bz4), .unset, .unset, .unset, .unset, .unset, .unset, .unset, .unset] [(.int (fg &&& (16 : Int32)))])) tg := by
        intro tg kt
        refine XS.ifYes X25.here hx rfl (pc0 := 65) (pc' := 72) rfl (hb hby at_65) rfl ((if0 _ _).trans (teq hc65_33).1) (by decide) (by decide) ?_
        show Steps p.tables e below (T25.setTop (mkF m 72 #[.val (.int fg), .val (.int ps1), .val (.int ps2), .val (.int bz1), .val (.int bz2), .val (.int bz3), .val (.int bz4), .unset, .unset, .unset, .unset, .unset, .unset, .unset, .unset] [])) _
        refine XS.iconst X25.here hx rfl (hb hby at_72) ?_
        show Steps p.tables e below (T25.setTop (mkF m 73 #[.val (.int fg), .val (.int ps1), .val (.int ps2), .val (.int bz1), .val (.int bz2), .val (.int bz3), .val (.int bz4), .unset, .unset, .unset, .unset, .unset, .unset, .unset, .unset] [(.int (0 : Int32))])) _
        exact kt
      exact ⟨T25, _, (0 : Int32), X25.more (by decide) (by decide), e25, N25, Or.inl rfl, fun _ kt => (R32 _ (R34 _ kt))⟩
    · have R35 : ∀ tg, Steps p.tables e below (T25.setTop (mkF m 73 #[.val (.int fg), .val (.int ps1), .val (.int ps2), .val (.int bz1), .val (.int bz2), .val (.int bz3), .val (.int bz4), .unset, .unset, .unset, .unset, .unset, .unset, .unset, .unset] [(.int (1 : Int32))])) tg → Steps p.tables e below (T25.setTop (mkF m 65 #[.val (.int fg), .val (.int ps1), .val (.int ps2), .val (.int bz1), .val (.int bz2), .val (.int bz3), .val (.int bz4), .unset, .unset, .unset, .unset, .unset, .unset, .unset, .unset] [(.int (fg &&& (16 : Int32)))])) tg := by
        intro tg kt
        refine XS.ifNo X25.here hx rfl (hb hby at_65) rfl ((if0 _ _).trans (feq hc65_33).1) ?_
        show Steps p.tables e below (T25.setTop (mkF m 68 #[.val (.int fg), .val (.int ps1), .val (.int ps2), .val (.int bz1), .val (.int bz2), .val (.int bz3), .val (.int bz4), .unset, .unset, .unset, .unset, .unset, .unset, .unset, .unset] [])) _
        refine XS.iconst X25.here hx rfl (hb hby at_68) ?_
        show Steps p.tables e below (T25.setTop (mkF m 69 #[.val (.int fg), .val (.int ps1), .val (.int ps2), .val (.int bz1), .val (.int bz2), .val (.int bz3), .val (.int bz4), .unset, .unset, .unset, .unset, .unset, .unset, .unset, .unset] [(.int (1 : Int32))])) _
        refine XS.goto X25.here hx rfl (pc0 := 69) (pc' := 73) rfl (hb hby at_69) (by decide) (by decide) ?_
        show Steps p.tables e below (T25.setTop (mkF m 73 #[.val (.int fg), .val (.int ps1), .val (.int ps2), .val (.int bz1), .val (.int bz2), .val (.int bz3), .val (.int bz4), .unset, .unset, .unset, .unset, .unset, .unset, .unset, .unset] [(.int (1 : Int32))])) _
        exact kt
      exact ⟨T25, _, (1 : Int32), X25.more (by decide) (by decide), e25, N25, Or.inr rfl, fun _ kt => (R32 _ (R35 _ kt))⟩
  have R36 : ∀ tg, Steps p.tables e below (T31.setTop (mkF m 75 #[.val (.int fg), .val (.int ps1), .val (.int ps2), .val (.int bz1), .val (.int bz2), .val (.int bz3), .val (.int bz4), .val (.int bz5), .unset, .unset, .unset, .unset, .unset, .unset, .unset] [])) tg → Steps p.tables e below (T31.setTop (mkF m 73 #[.val (.int fg), .val (.int ps1), .val (.int ps2), .val (.int bz1), .val (.int bz2), .val (.int bz3), .val (.int bz4), .unset, .unset, .unset, .unset, .unset, .unset, .unset, .unset] [(.int bz5)])) tg := by
    intro tg kt
    refine XS.istore X31.here hx rfl (hb hby at_73) rfl (l' := #[.val (.int fg), .val (.int ps1), .val (.int ps2), .val (.int bz1), .val (.int bz2), .val (.int bz3), .val (.int bz4), .val (.int bz5), .unset, .unset, .unset, .unset, .unset, .unset, .unset]) rfl ?_
    show Steps p.tables e below (T31.setTop (mkF m 75 #[.val (.int fg), .val (.int ps1), .val (.int ps2), .val (.int bz1), .val (.int bz2), .val (.int bz3), .val (.int bz4), .val (.int bz5), .unset, .unset, .unset, .unset, .unset, .unset, .unset] [])) _
    exact kt
  obtain ⟨T37, L37, bz6, X37, e37, N37, pj37_0, pj37_1, R37⟩ : ∃ (T' : State) (L' : List Loc) (bz6 : Int32), Stand p l e room_1 s m #[(.int fg), (.int ps1), (.int ps2)] below meth c T' L' 0 0 ∧ T'.heap = h0 ∧ Fr n0 L' ∧ (bz6 = 0 ∨ bz6 = 1) ∧ (bz4 = 0 ∨ bz6 = 0) ∧ ∀ tg, Steps p.tables e below (T'.setTop (mkF m 92 #[.val (.int fg), .val (.int ps1), .val (.int ps2), .val (.int bz1), .val (.int bz2), .val (.int bz3), .val (.int bz4), .val (.int bz5), .unset, .unset, .unset, .unset, .unset, .unset, .unset] [(.int bz6)])) tg → Steps p.tables e below (T31.setTop (mkF m 75 #[.val (.int fg), .val (.int ps1), .val (.int ps2), .val (.int bz1), .val (.int bz2), .val (.int bz3), .val (.int bz4), .val (.int bz5), .unset, .unset, .unset, .unset, .unset, .unset, .unset] [])) tg := by
    have R38 : ∀ tg, Steps p.tables e below (T31.setTop (mkF m 79 #[.val (.int fg), .val (.int ps1), .val (.int ps2), .val (.int bz1), .val (.int bz2), .val (.int bz3), .val (.int bz4), .val (.int bz5), .unset, .unset, .unset, .unset, .unset, .unset, .unset] [(.int (fg &&& (32 : Int32)))])) tg → Steps p.tables e below (T31.setTop (mkF m 75 #[.val (.int fg), .val (.int ps1), .val (.int ps2), .val (.int bz1), .val (.int bz2), .val (.int bz3), .val (.int bz4), .val (.int bz5), .unset, .unset, .unset, .unset, .unset, .unset, .unset] [])) tg := by
      intro tg kt
      refine XS.iloadN X31.here hx rfl (hb hby at_75) rfl ?_
      show Steps p.tables e below (T31.setTop (mkF m 76 #[.val (.int fg), .val (.int ps1), .val (.int ps2), .val (.int bz1), .val (.int bz2), .val (.int bz3), .val (.int bz4), .val (.int bz5), .unset, .unset, .unset, .unset, .unset, .unset, .unset] [(.int fg)])) _
      refine XS.bipush X31.here hx rfl (hb hby at_76) ?_
      show Steps p.tables e below (T31.setTop (mkF m 78 #[.val (.int fg), .val (.int ps1), .val (.int ps2), .val (.int bz1), .val (.int bz2), .val (.int bz3), .val (.int bz4), .val (.int bz5), .unset, .unset, .unset, .unset, .unset, .unset, .unset] [(.int (32 : Int32)), (.int fg)])) _
      refine XS.iand X31.here hx rfl (hb hby at_78) rfl ?_
      show Steps p.tables e below (T31.setTop (mkF m 79 #[.val (.int fg), .val (.int ps1), .val (.int ps2), .val (.int bz1), .val (.int bz2), .val (.int bz3), .val (.int bz4), .val (.int bz5), .unset, .unset, .unset, .unset, .unset, .unset, .unset] [(.int (fg &&& (32 : Int32)))])) _
      exact kt
    by_cases hc79_39 : (fg &&& (32 : Int32)) = (0 : Int32)
    · have R40 : ∀ tg, Steps p.tables e below (T31.setTop (mkF m 92 #[.val (.int fg), .val (.int ps1), .val (.int ps2), .val (.int bz1), .val (.int bz2), .val (.int bz3), .val (.int bz4), .val (.int bz5), .unset, .unset, .unset, .unset, .unset, .unset, .unset] [(.int (0 : Int32))])) tg → Steps p.tables e below (T31.setTop (mkF m 79 #[.val (.int fg), .val (.int ps1), .val (.int ps2), .val (.int bz1), .val (.int bz2), .val (.int bz3), .val (.int bz4), .val (.int bz5), .unset, .unset, .unset, .unset, .unset, .unset, .unset] [(.int (fg &&& (32 : Int32)))])) tg := by
        intro tg kt
        refine XS.ifYes X31.here hx rfl (pc0 := 79) (pc' := 91) rfl (hb hby at_79) rfl ((if0 _ _).trans (teq hc79_39).1) (by decide) (by decide) ?_
        show Steps p.tables e below (T31.setTop (mkF m 91 #[.val (.int fg), .val (.int ps1), .val (.int ps2), .val (.int bz1), .val (.int bz2), .val (.int bz3), .val (.int bz4), .val (.int bz5), .unset, .unset, .unset, .unset, .unset, .unset, .unset] [])) _
        refine XS.iconst X31.here hx rfl (hb hby at_91) ?_
        show Steps p.tables e below (T31.setTop (mkF m 92 #[.val (.int fg), .val (.int ps1), .val (.int ps2), .val (.int bz1), .val (.int bz2), .val (.int bz3), .val (.int bz4), .val (.int bz5), .unset, .unset, .unset, .unset, .unset, .unset, .unset] [(.int (0 : Int32))])) _
        exact kt
      exact ⟨T31, _, (0 : Int32), X31.more (by decide) (by decide), e31, N31, Or.inl rfl, Or.inr rfl, fun _ kt => (R38 _ (R40 _ kt))⟩
    · have R41 : ∀ tg, Steps p.tables e below (T31.setTop (mkF m 84 #[.val (.int fg), .val (.int ps1), .val (.int ps2), .val (.int bz1), .val (.int bz2), .val (.int bz3), .val (.int bz4), .val (.int bz5), .unset, .unset, .unset, .unset, .unset, .unset, .unset] [(.int bz4)])) tg → Steps p.tables e below (T31.setTop (mkF m 79 #[.val (.int fg), .val (.int ps1), .val (.int ps2), .val (.int bz1), .val (.int bz2), .val (.int bz3), .val (.int bz4), .val (.int bz5), .unset, .unset, .unset, .unset, .unset, .unset, .unset] [(.int (fg &&& (32 : Int32)))])) tg := by
        intro tg kt
        refine XS.ifNo X31.here hx rfl (hb hby at_79) rfl ((if0 _ _).trans (feq hc79_39).1) ?_
        show Steps p.tables e below (T31.setTop (mkF m 82 #[.val (.int fg), .val (.int ps1), .val (.int ps2), .val (.int bz1), .val (.int bz2), .val (.int bz3), .val (.int bz4), .val (.int bz5), .unset, .unset, .unset, .unset, .unset, .unset, .unset] [])) _
        refine XS.iload X31.here hx rfl (hb hby at_82) rfl ?_
        show Steps p.tables e below (T31.setTop (mkF m 84 #[.val (.int fg), .val (.int ps1), .val (.int ps2), .val (.int bz1), .val (.int bz2), .val (.int bz3), .val (.int bz4), .val (.int bz5), .unset, .unset, .unset, .unset, .unset, .unset, .unset] [(.int bz4)])) _
        exact kt
      by_cases hc84_42 : bz4 = (0 : Int32)
      · have R43 : ∀ tg, Steps p.tables e below (T31.setTop (mkF m 92 #[.val (.int fg), .val (.int ps1), .val (.int ps2), .val (.int bz1), .val (.int bz2), .val (.int bz3), .val (.int bz4), .val (.int bz5), .unset, .unset, .unset, .unset, .unset, .unset, .unset] [(.int (1 : Int32))])) tg → Steps p.tables e below (T31.setTop (mkF m 84 #[.val (.int fg), .val (.int ps1), .val (.int ps2), .val (.int bz1), .val (.int bz2), .val (.int bz3), .val (.int bz4), .val (.int bz5), .unset, .unset, .unset, .unset, .unset, .unset, .unset] [(.int bz4)])) tg := by
          intro tg kt
          refine XS.ifNo X31.here hx rfl (hb hby at_84) rfl ((if0 _ _).trans (teq hc84_42).2) ?_
          show Steps p.tables e below (T31.setTop (mkF m 87 #[.val (.int fg), .val (.int ps1), .val (.int ps2), .val (.int bz1), .val (.int bz2), .val (.int bz3), .val (.int bz4), .val (.int bz5), .unset, .unset, .unset, .unset, .unset, .unset, .unset] [])) _
          refine XS.iconst X31.here hx rfl (hb hby at_87) ?_
          show Steps p.tables e below (T31.setTop (mkF m 88 #[.val (.int fg), .val (.int ps1), .val (.int ps2), .val (.int bz1), .val (.int bz2), .val (.int bz3), .val (.int bz4), .val (.int bz5), .unset, .unset, .unset, .unset, .unset, .unset, .unset] [(.int (1 : Int32))])) _
          refine XS.goto X31.here hx rfl (pc0 := 88) (pc' := 92) rfl (hb hby at_88) (by decide) (by decide) ?_
          show Steps p.tables e below (T31.setTop (mkF m 92 #[.val (.int fg), .val (.int ps1), .val (.int ps2), .val (.int bz1), .val (.int bz2), .val (.int bz3), .val (.int bz4), .val (.int bz5), .unset, .unset, .unset, .unset, .unset, .unset, .unset] [(.int (1 : Int32))])) _
          exact kt
        exact ⟨T31, _, (1 : Int32), X31.more (by decide) (by decide), e31, N31, Or.inr rfl, Or.inl hc84_42, fun _ kt => (R38 _ (R41 _ (R43 _ kt)))⟩
      · have R44 : ∀ tg, Steps p.tables e below (T31.setTop (mkF m 92 #[.val (.int fg), .val (.int ps1), .val (.int ps2), .val (.int bz1), .val (.int bz2), .val (.int bz3), .val (.int bz4), .val (.int bz5), .unset, .unset, .unset, .unset, .unset, .unset, .unset] [(.int (0 : Int32))])) tg → Steps p.tables e below (T31.setTop (mkF m 84 #[.val (.int fg), .val (.int ps1), .val (.int ps2), .val (.int bz1), .val (.int bz2), .val (.int bz3), .val (.int bz4), .val (.int bz5), .unset, .unset, .unset, .unset, .unset, .unset, .unset] [(.int bz4)])) tg := by
          intro tg kt
          refine XS.ifYes X31.here hx rfl (pc0 := 84) (pc' := 91) rfl (hb hby at_84) rfl ((if0 _ _).trans (feq hc84_42).2) (by decide) (by decide) ?_
          show Steps p.tables e below (T31.setTop (mkF m 91 #[.val (.int fg), .val (.int ps1), .val (.int ps2), .val (.int bz1), .val (.int bz2), .val (.int bz3), .val (.int bz4), .val (.int bz5), .unset, .unset, .unset, .unset, .unset, .unset, .unset] [])) _
          refine XS.iconst X31.here hx rfl (hb hby at_91) ?_
          show Steps p.tables e below (T31.setTop (mkF m 92 #[.val (.int fg), .val (.int ps1), .val (.int ps2), .val (.int bz1), .val (.int bz2), .val (.int bz3), .val (.int bz4), .val (.int bz5), .unset, .unset, .unset, .unset, .unset, .unset, .unset] [(.int (0 : Int32))])) _
          exact kt
        exact ⟨T31, _, (0 : Int32), X31.more (by decide) (by decide), e31, N31, Or.inl rfl, Or.inr rfl, fun _ kt => (R38 _ (R41 _ (R44 _ kt)))⟩
  have R45 : ∀ tg, Steps p.tables e below (T37.setTop (mkF m 94 #[.val (.int fg), .val (.int ps1), .val (.int ps2), .val (.int bz1), .val (.int bz2), .val (.int bz3), .val (.int bz4), .val (.int bz5), .val (.int bz6), .unset, .unset, .unset, .unset, .unset, .unset] [])) tg → Steps p.tables e below (T37.setTop (mkF m 92 #[.val (.int fg), .val (.int ps1), .val (.int ps2), .val (.int bz1), .val (.int bz2), .val (.int bz3), .val (.int bz4), .val (.int bz5), .unset, .unset, .unset, .unset, .unset, .unset, .unset] [(.int bz6)])) tg := by
    intro tg kt
    refine XS.istore X37.here hx rfl (hb hby at_92) rfl (l' := #[.val (.int fg), .val (.int ps1), .val (.int ps2), .val (.int bz1), .val (.int bz2), .val (.int bz3), .val (.int bz4), .val (.int bz5), .val (.int bz6), .unset, .unset, .unset, .unset, .unset, .unset]) rfl ?_
    show Steps p.tables e below (T37.setTop (mkF m 94 #[.val (.int fg), .val (.int ps1), .val (.int ps2), .val (.int bz1), .val (.int bz2), .val (.int bz3), .val (.int bz4), .val (.int bz5), .val (.int bz6), .unset, .unset, .unset, .unset, .unset, .unset] [])) _
    exact kt
  obtain ⟨T46, h46, L46, rfa, X46, e46, N46, kp46, pj46_0, R46⟩ : ∃ (T' : State) (h' : Heap) (L' : List Loc) (rfa : Value), Stand p l e room_1 s m #[(.int fg), (.int ps1), (.int ps2)] below meth c T' L' 2 5 ∧ T'.heap = h' ∧ Fr n0 L' ∧ Keep h0 h' [] ∧ (rfa.isRef = true) ∧ ∀ tg, Steps p.tables e below (T'.setTop (mkF m 114 #[.val (.int fg), .val (.int ps1), .val (.int ps2), .val (.int bz1), .val (.int bz2), .val (.int bz3), .val (.int bz4), .val (.int bz5), .val (.int bz6), .unset, .unset, .unset, .unset, .unset, .unset] [rfa])) tg → Steps p.tables e below (T37.setTop (mkF m 94 #[.val (.int fg), .val (.int ps1), .val (.int ps2), .val (.int bz1), .val (.int bz2), .val (.int bz3), .val (.int bz4), .val (.int bz5), .val (.int bz6), .unset, .unset, .unset, .unset, .unset, .unset] [])) tg := by
    have R47 : ∀ tg, Steps p.tables e below (T37.setTop (mkF m 98 #[.val (.int fg), .val (.int ps1), .val (.int ps2), .val (.int bz1), .val (.int bz2), .val (.int bz3), .val (.int bz4), .val (.int bz5), .val (.int bz6), .unset, .unset, .unset, .unset, .unset, .unset] [(.int (fg &&& (64 : Int32)))])) tg → Steps p.tables e below (T37.setTop (mkF m 94 #[.val (.int fg), .val (.int ps1), .val (.int ps2), .val (.int bz1), .val (.int bz2), .val (.int bz3), .val (.int bz4), .val (.int bz5), .val (.int bz6), .unset, .unset, .unset, .unset, .unset, .unset] [])) tg := by
      intro tg kt
      refine XS.iloadN X37.here hx rfl (hb hby at_94) rfl ?_
      show Steps p.tables e below (T37.setTop (mkF m 95 #[.val (.int fg), .val (.int ps1), .val (.int ps2), .val (.int bz1), .val (.int bz2), .val (.int bz3), .val (.int bz4), .val (.int bz5), .val (.int bz6), .unset, .unset, .unset, .unset, .unset, .unset] [(.int fg)])) _
      refine XS.bipush X37.here hx rfl (hb hby at_95) ?_
      show Steps p.tables e below (T37.setTop (mkF m 97 #[.val (.int fg), .val (.int ps1), .val (.int ps2), .val (.int bz1), .val (.int bz2), .val (.int bz3), .val (.int bz4), .val (.int bz5), .val (.int bz6), .unset, .unset, .unset, .unset, .unset, .unset] [(.int (64 : Int32)), (.int fg)])) _
      refine XS.iand X37.here hx rfl (hb hby at_97) rfl ?_
      show Steps p.tables e below (T37.setTop (mkF m 98 #[.val (.int fg), .val (.int ps1), .val (.int ps2), .val (.int bz1), .val (.int bz2), .val (.int bz3), .val (.int bz4), .val (.int bz5), .val (.int bz6), .unset, .unset, .unset, .unset, .unset, .unset] [(.int (fg &&& (64 : Int32)))])) _
      exact kt
    by_cases hc98_48 : (fg &&& (64 : Int32)) = (0 : Int32)
    · obtain ⟨_, _, ⟨T49, L49, k49, n49⟩, -, X49, ⟨Lc49, hQ49, l49, y49, z49⟩, st49⟩ := Jvm.LawKit.callS X37 hx (y := (⟨"java/lang/String", "valueOf", "(C)Ljava/lang/String;"⟩ : MethodName)) hown (mvT hZ (hw _ (List.mem_of_getElem? (i := 0) rfl))) (mvT hZ (hw _ (List.mem_of_getElem? (i := 1) rfl))) (mvT hZ (hw _ (List.mem_of_getElem? (i := 2) rfl))) (mvT hZ (hw _ (List.mem_of_getElem? (i := 3) rfl))) (by decide) (backOf (W := 0) (rmSV l Z a0 hw [] ((ps1 &&& (255 : Int32)).toUInt32.toUInt16.toUInt32.toInt32) cs h0 n0 Z0 (hS1.ext hO1.2) hcs (own_ch _)) hZ (hw _ (List.mem_of_getElem? (i := 3) rfl)) (hw _ (List.mem_of_getElem? (i := 2) rfl)) (by decide) (by decide)) (g := (mkF m 111 #[.val (.int fg), .val (.int ps1), .val (.int ps2), .val (.int bz1), .val (.int bz2), .val (.int bz3), .val (.int bz4), .val (.int bz5), .val (.int bz6), .unset, .unset, .unset, .unset, .unset, .unset] [(.int ((ps1 &&& (255 : Int32)).toUInt32.toUInt16.toUInt32.toInt32))])) rfl (by rw [hml]; rfl) (argsL := [(.int ((ps1 &&& (255 : Int32)).toUInt32.toUInt16.toUInt32.toInt32))]) (rest := []) (lenOf pd_4 rfl) rfl (by show 2 * 0 + _ ≤ _; exact Nat.le_of_eq rfl) (hb hby at_111) (fun _ _ => ⟨rfl, e37, (by decide : 0 + 2 ≤ _), (by decide : 0 + 5 ≤ _)⟩)
      dsimp only [Pt.U, Pt.locs, Pt.cells, Pt.slots] at X49 l49 y49 z49 st49 hQ49
      subst l49 y49 z49
      obtain ⟨sb49, hv49, N49q, kp49⟩ := hQ49
      subst hv49
      have N49 := Fr.app N37 N49q
      have Z49 : n0 ≤ T49.heap.size := Nat.le_trans Z0 kp49.1
      have R50 : ∀ tg, Steps p.tables e below (T49.setTop (mkF m 114 #[.val (.int fg), .val (.int ps1), .val (.int ps2), .val (.int bz1), .val (.int bz2), .val (.int bz3), .val (.int bz4), .val (.int bz5), .val (.int bz6), .unset, .unset, .unset, .unset, .unset, .unset] [(.ref sb49)])) tg → Steps p.tables e below (T37.setTop (mkF m 98 #[.val (.int fg), .val (.int ps1), .val (.int ps2), .val (.int bz1), .val (.int bz2), .val (.int bz3), .val (.int bz4), .val (.int bz5), .val (.int bz6), .unset, .unset, .unset, .unset, .unset, .unset] [(.int (fg &&& (64 : Int32)))])) tg := by
        intro tg kt
        refine XS.ifYes X37.here hx rfl (pc0 := 98) (pc' := 105) rfl (hb hby at_98) rfl ((if0 _ _).trans (teq hc98_48).1) (by decide) (by decide) ?_
        show Steps p.tables e below (T37.setTop (mkF m 105 #[.val (.int fg), .val (.int ps1), .val (.int ps2), .val (.int bz1), .val (.int bz2), .val (.int bz3), .val (.int bz4), .val (.int bz5), .val (.int bz6), .unset, .unset, .unset, .unset, .unset, .unset] [])) _
        refine XS.iloadN X37.here hx rfl (hb hby at_105) rfl ?_
        show Steps p.tables e below (T37.setTop (mkF m 106 #[.val (.int fg), .val (.int ps1), .val (.int ps2), .val (.int bz1), .val (.int bz2), .val (.int bz3), .val (.int bz4), .val (.int bz5), .val (.int bz6), .unset, .unset, .unset, .unset, .unset, .unset] [(.int ps1)])) _
        refine XS.sipush X37.here hx rfl (hb hby at_106) ?_
        show Steps p.tables e below (T37.setTop (mkF m 109 #[.val (.int fg), .val (.int ps1), .val (.int ps2), .val (.int bz1), .val (.int bz2), .val (.int bz3), .val (.int bz4), .val (.int bz5), .val (.int bz6), .unset, .unset, .unset, .unset, .unset, .unset] [(.int (255 : Int32)), (.int ps1)])) _
        refine XS.iand X37.here hx rfl (hb hby at_109) rfl ?_
        show Steps p.tables e below (T37.setTop (mkF m 110 #[.val (.int fg), .val (.int ps1), .val (.int ps2), .val (.int bz1), .val (.int bz2), .val (.int bz3), .val (.int bz4), .val (.int bz5), .val (.int bz6), .unset, .unset, .unset, .unset, .unset, .unset] [(.int (ps1 &&& (255 : Int32)))])) _
        refine XS.i2c X37.here hx rfl (hb hby at_110) rfl ?_
        show Steps p.tables e below (T37.setTop (mkF m 111 #[.val (.int fg), .val (.int ps1), .val (.int ps2), .val (.int bz1), .val (.int bz2), .val (.int bz3), .val (.int bz4), .val (.int bz5), .val (.int bz6), .unset, .unset, .unset, .unset, .unset, .unset] [(.int ((ps1 &&& (255 : Int32)).toUInt32.toUInt16.toUInt32.toInt32))])) _
        refine st49 _ ?_
        show Steps p.tables e below (T49.setTop (mkF m 114 #[.val (.int fg), .val (.int ps1), .val (.int ps2), .val (.int bz1), .val (.int bz2), .val (.int bz3), .val (.int bz4), .val (.int bz5), .val (.int bz6), .unset, .unset, .unset, .unset, .unset, .unset] [(.ref sb49)])) _
        exact kt
      exact ⟨T49, T49.heap, _, (.ref sb49), X49.more (by decide) (by decide), rfl, N49, ((Keep.refl h0 _).trans kp49 all0), rfl, fun _ kt => (R47 _ (R50 _ kt))⟩
    · have R51 : ∀ tg, Steps p.tables e below (T37.setTop (mkF m 114 #[.val (.int fg), .val (.int ps1), .val (.int ps2), .val (.int bz1), .val (.int bz2), .val (.int bz3), .val (.int bz4), .val (.int bz5), .val (.int bz6), .unset, .unset, .unset, .unset, .unset, .unset] [.null])) tg → Steps p.tables e below (T37.setTop (mkF m 98 #[.val (.int fg), .val (.int ps1), .val (.int ps2), .val (.int bz1), .val (.int bz2), .val (.int bz3), .val (.int bz4), .val (.int bz5), .val (.int bz6), .unset, .unset, .unset, .unset, .unset, .unset] [(.int (fg &&& (64 : Int32)))])) tg := by
        intro tg kt
        refine XS.ifNo X37.here hx rfl (hb hby at_98) rfl ((if0 _ _).trans (feq hc98_48).1) ?_
        show Steps p.tables e below (T37.setTop (mkF m 101 #[.val (.int fg), .val (.int ps1), .val (.int ps2), .val (.int bz1), .val (.int bz2), .val (.int bz3), .val (.int bz4), .val (.int bz5), .val (.int bz6), .unset, .unset, .unset, .unset, .unset, .unset] [])) _
        refine XS.aconstNull X37.here hx rfl (hb hby at_101) ?_
        show Steps p.tables e below (T37.setTop (mkF m 102 #[.val (.int fg), .val (.int ps1), .val (.int ps2), .val (.int bz1), .val (.int bz2), .val (.int bz3), .val (.int bz4), .val (.int bz5), .val (.int bz6), .unset, .unset, .unset, .unset, .unset, .unset] [.null])) _
        refine XS.goto X37.here hx rfl (pc0 := 102) (pc' := 114) rfl (hb hby at_102) (by decide) (by decide) ?_
        show Steps p.tables e below (T37.setTop (mkF m 114 #[.val (.int fg), .val (.int ps1), .val (.int ps2), .val (.int bz1), .val (.int bz2), .val (.int bz3), .val (.int bz4), .val (.int bz5), .val (.int bz6), .unset, .unset, .unset, .unset, .unset, .unset] [.null])) _
        exact kt
      exact ⟨T37, h0, _, .null, X37.more (by decide) (by decide), e37, N37, (Keep.refl h0 _), rfl, fun _ kt => (R47 _ (R51 _ kt))⟩
  have Z46 : n0 ≤ h46.size := Nat.le_trans Z0 kp46.1
  have R52 : ∀ tg, Steps p.tables e below (T46.setTop (mkF m 116 #[.val (.int fg), .val (.int ps1), .val (.int ps2), .val (.int bz1), .val (.int bz2), .val (.int bz3), .val (.int bz4), .val (.int bz5), .val (.int bz6), .val rfa, .unset, .unset, .unset, .unset, .unset] [])) tg → Steps p.tables e below (T46.setTop (mkF m 114 #[.val (.int fg), .val (.int ps1), .val (.int ps2), .val (.int bz1), .val (.int bz2), .val (.int bz3), .val (.int bz4), .val (.int bz5), .val (.int bz6), .unset, .unset, .unset, .unset, .unset, .unset] [rfa])) tg := by
    intro tg kt
    refine XS.astore X46.here hx rfl (hb hby at_114) rfl pj46_0 (l' := #[.val (.int fg), .val (.int ps1), .val (.int ps2), .val (.int bz1), .val (.int bz2), .val (.int bz3), .val (.int bz4), .val (.int bz5), .val (.int bz6), .val rfa, .unset, .unset, .unset, .unset, .unset]) (XS.store1 rfl (Or.inl rfl) (Jvm.Free.XT.cat1 pj46_0)) ?_
    show Steps p.tables e below (T46.setTop (mkF m 116 #[.val (.int fg), .val (.int ps1), .val (.int ps2), .val (.int bz1), .val (.int bz2), .val (.int bz3), .val (.int bz4), .val (.int bz5), .val (.int bz6), .val rfa, .unset, .unset, .unset, .unset, .unset] [])) _
    exact kt
  obtain ⟨T53, h53, L53, rfb, X53, e53, N53, kp53, pj53_0, R53⟩ : ∃ (T' : State) (h' : Heap) (L' : List Loc) (rfb : Value), Stand p l e room_1 s m #[(.int fg), (.int ps1), (.int ps2)] below meth c T' L' 4 10 ∧ T'.heap = h' ∧ Fr n0 L' ∧ Keep h46 h' [] ∧ (rfb.isRef = true) ∧ ∀ tg, Steps p.tables e below (T'.setTop (mkF m 137 #[.val (.int fg), .val (.int ps1), .val (.int ps2), .val (.int bz1), .val (.int bz2), .val (.int bz3), .val (.int bz4), .val (.int bz5), .val (.int bz6), .val rfa, .unset, .unset, .unset, .unset, .unset] [rfb])) tg → Steps p.tables e below (T46.setTop (mkF m 116 #[.val (.int fg), .val (.int ps1), .val (.int ps2), .val (.int bz1), .val (.int bz2), .val (.int bz3), .val (.int bz4), .val (.int bz5), .val (.int bz6), .val rfa, .unset, .unset, .unset, .unset, .unset] [])) tg := by
    have R54 : ∀ tg, Steps p.tables e below (T46.setTop (mkF m 121 #[.val (.int fg), .val (.int ps1), .val (.int ps2), .val (.int bz1), .val (.int bz2), .val (.int bz3), .val (.int bz4), .val (.int bz5), .val (.int bz6), .val rfa, .unset, .unset, .unset, .unset, .unset] [(.int (fg &&& (128 : Int32)))])) tg → Steps p.tables e below (T46.setTop (mkF m 116 #[.val (.int fg), .val (.int ps1), .val (.int ps2), .val (.int bz1), .val (.int bz2), .val (.int bz3), .val (.int bz4), .val (.int bz5), .val (.int bz6), .val rfa, .unset, .unset, .unset, .unset, .unset] [])) tg := by
      intro tg kt
      refine XS.iloadN X46.here hx rfl (hb hby at_116) rfl ?_
      show Steps p.tables e below (T46.setTop (mkF m 117 #[.val (.int fg), .val (.int ps1), .val (.int ps2), .val (.int bz1), .val (.int bz2), .val (.int bz3), .val (.int bz4), .val (.int bz5), .val (.int bz6), .val rfa, .unset, .unset, .unset, .unset, .unset] [(.int fg)])) _
      refine XS.sipush X46.here hx rfl (hb hby at_117) ?_
      show Steps p.tables e below (T46.setTop (mkF m 120 #[.val (.int fg), .val (.int ps1), .val (.int ps2), .val (.int bz1), .val (.int bz2), .val (.int bz3), .val (.int bz4), .val (.int bz5), .val (.int bz6), .val rfa, .unset, .unset, .unset, .unset, .unset] [(.int (128 : Int32)), (.int fg)])) _
      refine XS.iand X46.here hx rfl (hb hby at_120) rfl ?_
      show Steps p.tables e below (T46.setTop (mkF m 121 #[.val (.int fg), .val (.int ps1), .val (.int ps2), .val (.int bz1), .val (.int bz2), .val (.int bz3), .val (.int bz4), .val (.int bz5), .val (.int bz6), .val rfa, .unset, .unset, .unset, .unset, .unset] [(.int (fg &&& (128 : Int32)))])) _
      exact kt
    by_cases hc121_55 : (fg &&& (128 : Int32)) = (0 : Int32)
    · have f56 := (hO1.keep kp46 all0)
      obtain ⟨_, _, ⟨T57, L57, k57, n57⟩, -, X57, ⟨Lc57, hQ57, l57, y57, z57⟩, st57⟩ := Jvm.LawKit.callS X46 hx (y := (⟨"java/lang/String", "valueOf", "(C)Ljava/lang/String;"⟩ : MethodName)) hown (mvT hZ (hw _ (List.mem_of_getElem? (i := 0) rfl))) (mvT hZ (hw _ (List.mem_of_getElem? (i := 1) rfl))) (mvT hZ (hw _ (List.mem_of_getElem? (i := 2) rfl))) (mvT hZ (hw _ (List.mem_of_getElem? (i := 3) rfl))) (by decide) (backOf (W := 0) (rmSV l Z a0 hw [] ((ps2 &&& (255 : Int32)).toUInt32.toUInt16.toUInt32.toInt32) cs h46 n0 Z46 (hS1.ext f56.2) hcs (own_ch _)) hZ (hw _ (List.mem_of_getElem? (i := 3) rfl)) (hw _ (List.mem_of_getElem? (i := 2) rfl)) (by decide) (by decide)) (g := (mkF m 134 #[.val (.int fg), .val (.int ps1), .val (.int ps2), .val (.int bz1), .val (.int bz2), .val (.int bz3), .val (.int bz4), .val (.int bz5), .val (.int bz6), .val rfa, .unset, .unset, .unset, .unset, .unset] [(.int ((ps2 &&& (255 : Int32)).toUInt32.toUInt16.toUInt32.toInt32))])) rfl (by rw [hml]; rfl) (argsL := [(.int ((ps2 &&& (255 : Int32)).toUInt32.toUInt16.toUInt32.toInt32))]) (rest := []) (lenOf pd_4 rfl) rfl (by show 2 * 0 + _ ≤ _; exact Nat.le_of_eq rfl) (hb hby at_134) (fun _ _ => ⟨rfl, e46, (by decide : 2 + 2 ≤ _), (by decide : 5 + 5 ≤ _)⟩)
      dsimp only [Pt.U, Pt.locs, Pt.cells, Pt.slots] at X57 l57 y57 z57 st57 hQ57
      subst l57 y57 z57
      obtain ⟨sb57, hv57, N57q, kp57⟩ := hQ57
      subst hv57
      have N57 := Fr.app N46 N57q
      have Z57 : n0 ≤ T57.heap.size := Nat.le_trans Z46 kp57.1
      have R58 : ∀ tg, Steps p.tables e below (T57.setTop (mkF m 137 #[.val (.int fg), .val (.int ps1), .val (.int ps2), .val (.int bz1), .val (.int bz2), .val (.int bz3), .val (.int bz4), .val (.int bz5), .val (.int bz6), .val rfa, .unset, .unset, .unset, .unset, .unset] [(.ref sb57)])) tg → Steps p.tables e below (T46.setTop (mkF m 121 #[.val (.int fg), .val (.int ps1), .val (.int ps2), .val (.int bz1), .val (.int bz2), .val (.int bz3), .val (.int bz4), .val (.int bz5), .val (.int bz6), .val rfa, .unset, .unset, .unset, .unset, .unset] [(.int (fg &&& (128 : Int32)))])) tg := by
        intro tg kt
        refine XS.ifYes X46.here hx rfl (pc0 := 121) (pc' := 128) rfl (hb hby at_121) rfl ((if0 _ _).trans (teq hc121_55).1) (by decide) (by decide) ?_
        show Steps p.tables e below (T46.setTop (mkF m 128 #[.val (.int fg), .val (.int ps1), .val (.int ps2), .val (.int bz1), .val (.int bz2), .val (.int bz3), .val (.int bz4), .val (.int bz5), .val (.int bz6), .val rfa, .unset, .unset, .unset, .unset, .unset] [])) _
        refine XS.iloadN X46.here hx rfl (hb hby at_128) rfl ?_
        show Steps p.tables e below (T46.setTop (mkF m 129 #[.val (.int fg), .val (.int ps1), .val (.int ps2), .val (.int bz1), .val (.int bz2), .val (.int bz3), .val (.int bz4), .val (.int bz5), .val (.int bz6), .val rfa, .unset, .unset, .unset, .unset, .unset] [(.int ps2)])) _
        refine XS.sipush X46.here hx rfl (hb hby at_129) ?_
        show Steps p.tables e below (T46.setTop (mkF m 132 #[.val (.int fg), .val (.int ps1), .val (.int ps2), .val (.int bz1), .val (.int bz2), .val (.int bz3), .val (.int bz4), .val (.int bz5), .val (.int bz6), .val rfa, .unset, .unset, .unset, .unset, .unset] [(.int (255 : Int32)), (.int ps2)])) _
        refine XS.iand X46.here hx rfl (hb hby at_132) rfl ?_
        show Steps p.tables e below (T46.setTop (mkF m 133 #[.val (.int fg), .val (.int ps1), .val (.int ps2), .val (.int bz1), .val (.int bz2), .val (.int bz3), .val (.int bz4), .val (.int bz5), .val (.int bz6), .val rfa, .unset, .unset, .unset, .unset, .unset] [(.int (ps2 &&& (255 : Int32)))])) _
        refine XS.i2c X46.here hx rfl (hb hby at_133) rfl ?_
        show Steps p.tables e below (T46.setTop (mkF m 134 #[.val (.int fg), .val (.int ps1), .val (.int ps2), .val (.int bz1), .val (.int bz2), .val (.int bz3), .val (.int bz4), .val (.int bz5), .val (.int bz6), .val rfa, .unset, .unset, .unset, .unset, .unset] [(.int ((ps2 &&& (255 : Int32)).toUInt32.toUInt16.toUInt32.toInt32))])) _
        refine st57 _ ?_
        show Steps p.tables e below (T57.setTop (mkF m 137 #[.val (.int fg), .val (.int ps1), .val (.int ps2), .val (.int bz1), .val (.int bz2), .val (.int bz3), .val (.int bz4), .val (.int bz5), .val (.int bz6), .val rfa, .unset, .unset, .unset, .unset, .unset] [(.ref sb57)])) _
        exact kt
      exact ⟨T57, T57.heap, _, (.ref sb57), X57.more (by decide) (by decide), rfl, N57, ((Keep.refl h46 _).trans kp57 all0), rfl, fun _ kt => (R54 _ (R58 _ kt))⟩
    · have R59 : ∀ tg, Steps p.tables e below (T46.setTop (mkF m 137 #[.val (.int fg), .val (.int ps1), .val (.int ps2), .val (.int bz1), .val (.int bz2), .val (.int bz3), .val (.int bz4), .val (.int bz5), .val (.int bz6), .val rfa, .unset, .unset, .unset, .unset, .unset] [.null])) tg → Steps p.tables e below (T46.setTop (mkF m 121 #[.val (.int fg), .val (.int ps1), .val (.int ps2), .val (.int bz1), .val (.int bz2), .val (.int bz3), .val (.int bz4), .val (.int bz5), .val (.int bz6), .val rfa, .unset, .unset, .unset, .unset, .unset] [(.int (fg &&& (128 : Int32)))])) tg := by
        intro tg kt
        refine XS.ifNo X46.here hx rfl (hb hby at_121) rfl ((if0 _ _).trans (feq hc121_55).1) ?_
        show Steps p.tables e below (T46.setTop (mkF m 124 #[.val (.int fg), .val (.int ps1), .val (.int ps2), .val (.int bz1), .val (.int bz2), .val (.int bz3), .val (.int bz4), .val (.int bz5), .val (.int bz6), .val rfa, .unset, .unset, .unset, .unset, .unset] [])) _
        refine XS.aconstNull X46.here hx rfl (hb hby at_124) ?_
        show Steps p.tables e below (T46.setTop (mkF m 125 #[.val (.int fg), .val (.int ps1), .val (.int ps2), .val (.int bz1), .val (.int bz2), .val (.int bz3), .val (.int bz4), .val (.int bz5), .val (.int bz6), .val rfa, .unset, .unset, .unset, .unset, .unset] [.null])) _
        refine XS.goto X46.here hx rfl (pc0 := 125) (pc' := 137) rfl (hb hby at_125) (by decide) (by decide) ?_
        show Steps p.tables e below (T46.setTop (mkF m 137 #[.val (.int fg), .val (.int ps1), .val (.int ps2), .val (.int bz1), .val (.int bz2), .val (.int bz3), .val (.int bz4), .val (.int bz5), .val (.int bz6), .val rfa, .unset, .unset, .unset, .unset, .unset] [.null])) _
        exact kt
      exact ⟨T46, h46, _, .null, X46.more (by decide) (by decide), e46, N46, (Keep.refl h46 _), rfl, fun _ kt => (R54 _ (R59 _ kt))⟩
  have Z53 : n0 ≤ h53.size := Nat.le_trans Z46 kp53.1
  obtain ⟨T60, h60, X60, e60, E60, A60, D60, -, st60⟩ := newO X53 hx hZ hown (hw _ (List.mem_of_getElem? (i := 26) rfl)) (hw _ (List.mem_of_getElem? (i := 27) rfl)) (hw _ (List.mem_of_getElem? (i := 28) rfl)) e53 (g := (mkF m 139 #[.val (.int fg), .val (.int ps1), .val (.int ps2), .val (.int bz1), .val (.int bz2), .val (.int bz3), .val (.int bz4), .val (.int bz5), .val (.int bz6), .val rfa, .val rfb, .unset, .unset, .unset, .unset] [])) rfl (hb hby at_139) (by decide) (by decide)
  obtain ⟨b60, g60⟩ : ∃ z, z = h53.size := ⟨_, rfl⟩
  rw [← g60] at A60 D60 st60
  have gb_b60 : n0 ≤ b60 := Nat.le_trans Z53 (Nat.le_of_eq g60.symm)
  have Z60 : n0 ≤ h60.size := Nat.le_trans Z53 E60.1
  have F60_instant : Fld Z h60 b60 "com/example/inplace/inplace/Behaviour" "instant" "Z" (.int (0 : Int32)) := D60 (Or.inr (hw _ (List.mem_of_getElem? (i := 39) rfl))) (ty := .boolean) (by decide)
  have F60_inPlace : Fld Z h60 b60 "com/example/inplace/inplace/Behaviour" "inPlace" "Z" (.int (0 : Int32)) := D60 (Or.inr (hw _ (List.mem_of_getElem? (i := 41) rfl))) (ty := .boolean) (by decide)
  have F60_copy : Fld Z h60 b60 "com/example/inplace/inplace/Behaviour" "copy" "Z" (.int (0 : Int32)) := D60 (Or.inr (hw _ (List.mem_of_getElem? (i := 43) rfl))) (ty := .boolean) (by decide)
  have F60_rebuildsTable : Fld Z h60 b60 "com/example/inplace/inplace/Behaviour" "rebuildsTable" "Z" (.int (0 : Int32)) := D60 (Or.inr (hw _ (List.mem_of_getElem? (i := 45) rfl))) (ty := .boolean) (by decide)
  have F60_concurrentDml : Fld Z h60 b60 "com/example/inplace/inplace/Behaviour" "concurrentDml" "Z" (.int (0 : Int32)) := D60 (Or.inr (hw _ (List.mem_of_getElem? (i := 47) rfl))) (ty := .boolean) (by decide)
  have F60_metadataOnly : Fld Z h60 b60 "com/example/inplace/inplace/Behaviour" "metadataOnly" "Z" (.int (0 : Int32)) := D60 (Or.inr (hw _ (List.mem_of_getElem? (i := 49) rfl))) (ty := .boolean) (by decide)
  have F60_refusal : Fld Z h60 b60 "com/example/inplace/inplace/Behaviour" "refusal" "Ljava/lang/String;" .null := D60 (Or.inr (hw _ (List.mem_of_getElem? (i := 51) rfl))) (ty := (.object "java/lang/String")) (by decide)
  have F60_instantRefusal : Fld Z h60 b60 "com/example/inplace/inplace/Behaviour" "instantRefusal" "Ljava/lang/String;" .null := D60 (Or.inr (hw _ (List.mem_of_getElem? (i := 53) rfl))) (ty := (.object "java/lang/String")) (by decide)
  obtain ⟨_, _, ⟨T61, L61, k61, n61⟩, -, X61, ⟨Lc61, hQ61, l61, y61, z61⟩, st61⟩ := X60.specialBack hx (y := (⟨"com/example/inplace/inplace/Behaviour", "<init>", "(ZZZZZZLjava/lang/String;Ljava/lang/String;)V"⟩ : MethodName)) rfl hown (mvT hZ (hw _ (List.mem_of_getElem? (i := 29) rfl))) (mvT hZ (hw _ (List.mem_of_getElem? (i := 30) rfl))) (mvT hZ (hw _ (List.mem_of_getElem? (i := 31) rfl))) (by decide) (backOf (W := 1) (rmBI l Z a0 hw [] b60 bz1 bz2 bz3 bz4 bz5 bz6 rfa rfb h60 n0 Z60 A60 F60_instant F60_inPlace F60_copy F60_rebuildsTable F60_concurrentDml F60_metadataOnly F60_refusal F60_instantRefusal gb_b60 pj1_0 pj7_0 pj13_0 pj25_0 pj31_0 pj37_0 pj46_0 pj53_0 pj13_1 pj37_1) hZ (hw _ (List.mem_of_getElem? (i := 31) rfl)) (hw _ (List.mem_of_getElem? (i := 28) rfl)) (by decide) (by decide)) (g := (mkF m 158 #[.val (.int fg), .val (.int ps1), .val (.int ps2), .val (.int bz1), .val (.int bz2), .val (.int bz3), .val (.int bz4), .val (.int bz5), .val (.int bz6), .val rfa, .val rfb, .unset, .unset, .unset, .unset] [rfb, rfa, (.int bz6), (.int bz5), (.int bz4), (.int bz3), (.int bz2), (.int bz1), (.ref b60), (.ref b60)])) rfl (by rw [hml]; rfl) (Steps.refl _) (a := b60) (argsL := [(.int bz1), (.int bz2), (.int bz3), (.int bz4), (.int bz5), (.int bz6), rfa, rfb]) (rest := [(.ref b60)]) (lenOf pd_5 rfl) rfl (by show 2 * 0 + _ ≤ _; exact Nat.le_of_eq rfl) (hb hby at_158) (fun _ _ => ⟨rfl, e60, (by decide : 5 + 0 ≤ _), (by decide : 18 + 0 ≤ _)⟩)
  dsimp only [Pt.U, Pt.locs, Pt.cells, Pt.slots] at X61 l61 y61 z61 st61 hQ61
  subst l61 y61 z61
  obtain ⟨hv61, N61q, kp61, fl61_0, fl61_1, fl61_2⟩ := hQ61
  subst hv61
  have N61 := Fr.app N53 N61q
  have Z61 : n0 ≤ T61.heap.size := Nat.le_trans Z60 kp61.1
  have f63 := (A60.keep kp61)
  obtain ⟨cq62, kq62, q62a, q62b, q62c⟩ := isOf hZ rfl f63
  obtain ⟨_, _, ⟨T62, L62, k62, n62⟩, -, X62, ⟨Lc62, hQ62, l62, y62, z62⟩, st62⟩ := X61.virtualBack hx (y := (⟨"com/example/inplace/inplace/Behaviour", "isCopyOnly", "()Z"⟩ : MethodName)) (z := (⟨"com/example/inplace/inplace/Behaviour", "isCopyOnly", "()Z"⟩ : MethodName)) hown (mvT hZ (hw _ (List.mem_of_getElem? (i := 54) rfl))) (mvT hZ (hw _ (List.mem_of_getElem? (i := 55) rfl))) (notFace_of_selects (args := #[]) (mvT hZ (hw _ (List.mem_of_getElem? (i := 57) rfl)))) (mvT hZ (hw _ (List.mem_of_getElem? (i := 57) rfl))) (mvT hZ (hw _ (List.mem_of_getElem? (i := 56) rfl))) (by decide) (backOf (W := 0) (rmIC l Z a0 hw [] b60 bz1 bz2 T61.heap n0 Z61 fl61_0 fl61_1) hZ (hw _ (List.mem_of_getElem? (i := 58) rfl)) (hw _ (List.mem_of_getElem? (i := 28) rfl)) (by decide) (by decide)) q62a q62c (g := (mkF m 165 #[.val (.int fg), .val (.int ps1), .val (.int ps2), .val (.int bz1), .val (.int bz2), .val (.int bz3), .val (.int bz4), .val (.int bz5), .val (.int bz6), .val rfa, .val rfb, .val (.ref b60), .unset, .unset, .unset] [(.ref b60)])) rfl (by rw [hml]; rfl) (Steps.refl _) (argsL := []) (rest := []) (lenOf pd_6 rfl) rfl (by show 2 * 0 + _ ≤ _; exact Nat.le_of_eq rfl) (hb hby at_165) (fun _ _ => ⟨rfl, rfl, (by decide : 5 + 0 ≤ _), (by decide : 18 + 0 ≤ _)⟩)
  dsimp only [Pt.U, Pt.locs, Pt.cells, Pt.slots] at X62 l62 y62 z62 st62 hQ62
  subst l62 y62 z62
  obtain ⟨hv62, N62q, r62⟩ := hQ62
  subst hv62
  have N62 := Fr.app N61 N62q
  have R64 : ∀ tg, Steps p.tables e below (T62.setTop (mkF m 170 #[.val (.int fg), .val (.int ps1), .val (.int ps2), .val (.int bz1), .val (.int bz2), .val (.int bz3), .val (.int bz4), .val (.int bz5), .val (.int bz6), .val rfa, .val rfb, .val (.ref b60), .val (.int (if bz1 = 0 ∧ bz2 = 0 then (1 : Int32) else 0)), .unset, .unset] [])) tg → Steps p.tables e below (T53.setTop (mkF m 137 #[.val (.int fg), .val (.int ps1), .val (.int ps2), .val (.int bz1), .val (.int bz2), .val (.int bz3), .val (.int bz4), .val (.int bz5), .val (.int bz6), .val rfa, .unset, .unset, .unset, .unset, .unset] [rfb])) tg := by
    intro tg kt
    refine XS.astore X53.here hx rfl (hb hby at_137) rfl pj53_0 (l' := #[.val (.int fg), .val (.int ps1), .val (.int ps2), .val (.int bz1), .val (.int bz2), .val (.int bz3), .val (.int bz4), .val (.int bz5), .val (.int bz6), .val rfa, .val rfb, .unset, .unset, .unset, .unset]) (XS.store1 rfl (Or.inl rfl) (Jvm.Free.XT.cat1 pj53_0)) ?_
    show Steps p.tables e below (T53.setTop (mkF m 139 #[.val (.int fg), .val (.int ps1), .val (.int ps2), .val (.int bz1), .val (.int bz2), .val (.int bz3), .val (.int bz4), .val (.int bz5), .val (.int bz6), .val rfa, .val rfb, .unset, .unset, .unset, .unset] [])) _
    refine st60 _ ?_
    show Steps p.tables e below (T60.setTop (mkF m 142 #[.val (.int fg), .val (.int ps1), .val (.int ps2), .val (.int bz1), .val (.int bz2), .val (.int bz3), .val (.int bz4), .val (.int bz5), .val (.int bz6), .val rfa, .val rfb, .unset, .unset, .unset, .unset] [(.ref b60)])) _
    refine XS.dup X60.here hx rfl (hb hby at_142) rfl rfl ?_
    show Steps p.tables e below (T60.setTop (mkF m 143 #[.val (.int fg), .val (.int ps1), .val (.int ps2), .val (.int bz1), .val (.int bz2), .val (.int bz3), .val (.int bz4), .val (.int bz5), .val (.int bz6), .val rfa, .val rfb, .unset, .unset, .unset, .unset] [(.ref b60), (.ref b60)])) _
    refine XS.iloadN X60.here hx rfl (hb hby at_143) rfl ?_
    show Steps p.tables e below (T60.setTop (mkF m 144 #[.val (.int fg), .val (.int ps1), .val (.int ps2), .val (.int bz1), .val (.int bz2), .val (.int bz3), .val (.int bz4), .val (.int bz5), .val (.int bz6), .val rfa, .val rfb, .unset, .unset, .unset, .unset] [(.int bz1), (.ref b60), (.ref b60)])) _
    refine XS.iload X60.here hx rfl (hb hby at_144) rfl ?_
    show Steps p.tables e below (T60.setTop (mkF m 146 #[.val (.int fg), .val (.int ps1), .val (.int ps2), .val (.int bz1), .val (.int bz2), .val (.int bz3), .val (.int bz4), .val (.int bz5), .val (.int bz6), .val rfa, .val rfb, .unset, .unset, .unset, .unset] [(.int bz2), (.int bz1), (.ref b60), (.ref b60)])) _
    refine XS.iload X60.here hx rfl (hb hby at_146) rfl ?_
    show Steps p.tables e below (T60.setTop (mkF m 148 #[.val (.int fg), .val (.int ps1), .val (.int ps2), .val (.int bz1), .val (.int bz2), .val (.int bz3), .val (.int bz4), .val (.int bz5), .val (.int bz6), .val rfa, .val rfb, .unset, .unset, .unset, .unset] [(.int bz3), (.int bz2), (.int bz1), (.ref b60), (.ref b60)])) _
    refine XS.iload X60.here hx rfl (hb hby at_148) rfl ?_
    show Steps p.tables e below (T60.setTop (mkF m 150 #[.val (.int fg), .val (.int ps1), .val (.int ps2), .val (.int bz1), .val (.int bz2), .val (.int bz3), .val (.int bz4), .val (.int bz5), .val (.int bz6), .val rfa, .val rfb, .unset, .unset, .unset, .unset] [(.int bz4), (.int bz3), (.int bz2), (.int bz1), (.ref b60), (.ref b60)])) _
    refine XS.iload X60.here hx rfl (hb hby at_150) rfl ?_
    show Steps p.tables e below (T60.setTop (mkF m 152 #[.val (.int fg), .val (.int ps1), .val (.int ps2), .val (.int bz1), .val (.int bz2), .val (.int bz3), .val (.int bz4), .val (.int bz5), .val (.int bz6), .val rfa, .val rfb, .unset, .unset, .unset, .unset] [(.int bz5), (.int bz4), (.int bz3), (.int bz2), (.int bz1), (.ref b60), (.ref b60)])) _
    refine XS.iload X60.here hx rfl (hb hby at_152) rfl ?_
    show Steps p.tables e below (T60.setTop (mkF m 154 #[.val (.int fg), .val (.int ps1), .val (.int ps2), .val (.int bz1), .val (.int bz2), .val (.int bz3), .val (.int bz4), .val (.int bz5), .val (.int bz6), .val rfa, .val rfb, .unset, .unset, .unset, .unset] [(.int bz6), (.int bz5), (.int bz4), (.int bz3), (.int bz2), (.int bz1), (.ref b60), (.ref b60)])) _
    refine XS.aload X60.here hx rfl (hb hby at_154) rfl pj46_0 ?_
    show Steps p.tables e below (T60.setTop (mkF m 156 #[.val (.int fg), .val (.int ps1), .val (.int ps2), .val (.int bz1), .val (.int bz2), .val (.int bz3), .val (.int bz4), .val (.int bz5), .val (.int bz6), .val rfa, .val rfb, .unset, .unset, .unset, .unset] [rfa, (.int bz6), (.int bz5), (.int bz4), (.int bz3), (.int bz2), (.int bz1), (.ref b60), (.ref b60)])) _
    refine XS.aload X60.here hx rfl (hb hby at_156) rfl pj53_0 ?_
    show Steps p.tables e below (T60.setTop (mkF m 158 #[.val (.int fg), .val (.int ps1), .val (.int ps2), .val (.int bz1), .val (.int bz2), .val (.int bz3), .val (.int bz4), .val (.int bz5), .val (.int bz6), .val rfa, .val rfb, .unset, .unset, .unset, .unset] [rfb, rfa, (.int bz6), (.int bz5), (.int bz4), (.int bz3), (.int bz2), (.int bz1), (.ref b60), (.ref b60)])) _
    refine st61.trans ?_
    show Steps p.tables e below (T61.setTop (mkF m 161 #[.val (.int fg), .val (.int ps1), .val (.int ps2), .val (.int bz1), .val (.int bz2), .val (.int bz3), .val (.int bz4), .val (.int bz5), .val (.int bz6), .val rfa, .val rfb, .unset, .unset, .unset, .unset] [(.ref b60)])) _
    refine XS.astore X61.here hx rfl (hb hby at_161) rfl rfl (l' := #[.val (.int fg), .val (.int ps1), .val (.int ps2), .val (.int bz1), .val (.int bz2), .val (.int bz3), .val (.int bz4), .val (.int bz5), .val (.int bz6), .val rfa, .val rfb, .val (.ref b60), .unset, .unset, .unset]) rfl ?_
    show Steps p.tables e below (T61.setTop (mkF m 163 #[.val (.int fg), .val (.int ps1), .val (.int ps2), .val (.int bz1), .val (.int bz2), .val (.int bz3), .val (.int bz4), .val (.int bz5), .val (.int bz6), .val rfa, .val rfb, .val (.ref b60), .unset, .unset, .unset] [])) _
    refine XS.aload X61.here hx rfl (hb hby at_163) rfl rfl ?_
    show Steps p.tables e below (T61.setTop (mkF m 165 #[.val (.int fg), .val (.int ps1), .val (.int ps2), .val (.int bz1), .val (.int bz2), .val (.int bz3), .val (.int bz4), .val (.int bz5), .val (.int bz6), .val rfa, .val rfb, .val (.ref b60), .unset, .unset, .unset] [(.ref b60)])) _
    refine st62.trans ?_
    show Steps p.tables e below (T62.setTop (mkF m 168 #[.val (.int fg), .val (.int ps1), .val (.int ps2), .val (.int bz1), .val (.int bz2), .val (.int bz3), .val (.int bz4), .val (.int bz5), .val (.int bz6), .val rfa, .val rfb, .val (.ref b60), .unset, .unset, .unset] [(.int (if bz1 = 0 ∧ bz2 = 0 then (1 : Int32) else 0))])) _
    refine XS.istore X62.here hx rfl (hb hby at_168) rfl (l' := #[.val (.int fg), .val (.int ps1), .val (.int ps2), .val (.int bz1), .val (.int bz2), .val (.int bz3), .val (.int bz4), .val (.int bz5), .val (.int bz6), .val rfa, .val rfb, .val (.ref b60), .val (.int (if bz1 = 0 ∧ bz2 = 0 then (1 : Int32) else 0)), .unset, .unset]) rfl ?_
    show Steps p.tables e below (T62.setTop (mkF m 170 #[.val (.int fg), .val (.int ps1), .val (.int ps2), .val (.int bz1), .val (.int bz2), .val (.int bz3), .val (.int bz4), .val (.int bz5), .val (.int bz6), .val rfa, .val rfb, .val (.ref b60), .val (.int (if bz1 = 0 ∧ bz2 = 0 then (1 : Int32) else 0)), .unset, .unset] [])) _
    exact kt
  obtain ⟨T65, L65, ex1, X65, e65, N65, pj65_0, R65⟩ : ∃ (T' : State) (L' : List Loc) (ex1 : Int32), Stand p l e room_1 s m #[(.int fg), (.int ps1), (.int ps2)] below meth c T' L' 5 18 ∧ T'.heap = T61.heap ∧ Fr n0 L' ∧ (ex1 = (if bz1 = 0 ∧ bz2 = 0 then (1 : Int32) else 0)) ∧ ∀ tg, Steps p.tables e below (T'.setTop (mkF m 184 #[.val (.int fg), .val (.int ps1), .val (.int ps2), .val (.int bz1), .val (.int bz2), .val (.int bz3), .val (.int bz4), .val (.int bz5), .val (.int bz6), .val rfa, .val rfb, .val (.ref b60), .val (.int (if bz1 = 0 ∧ bz2 = 0 then (1 : Int32) else 0)), .unset, .unset] [(.int ex1)])) tg → Steps p.tables e below (T62.setTop (mkF m 170 #[.val (.int fg), .val (.int ps1), .val (.int ps2), .val (.int bz1), .val (.int bz2), .val (.int bz3), .val (.int bz4), .val (.int bz5), .val (.int bz6), .val rfa, .val rfb, .val (.ref b60), .val (.int (if bz1 = 0 ∧ bz2 = 0 then (1 : Int32) else 0)), .unset, .unset] [])) tg := by
    have R66 : ∀ tg, Steps p.tables e below (T62.setTop (mkF m 171 #[.val (.int fg), .val (.int ps1), .val (.int ps2), .val (.int bz1), .val (.int bz2), .val (.int bz3), .val (.int bz4), .val (.int bz5), .val (.int bz6), .val rfa, .val rfb, .val (.ref b60), .val (.int (if bz1 = 0 ∧ bz2 = 0 then (1 : Int32) else 0)), .unset, .unset] [(.int bz1)])) tg → Steps p.tables e below (T62.setTop (mkF m 170 #[.val (.int fg), .val (.int ps1), .val (.int ps2), .val (.int bz1), .val (.int bz2), .val (.int bz3), .val (.int bz4), .val (.int bz5), .val (.int bz6), .val rfa, .val rfb, .val (.ref b60), .val (.int (if bz1 = 0 ∧ bz2 = 0 then (1 : Int32) else 0)), .unset, .unset] [])) tg := by
      intro tg kt
      refine XS.iloadN X62.here hx rfl (hb hby at_170) rfl ?_
      show Steps p.tables e below (T62.setTop (mkF m 171 #[.val (.int fg), .val (.int ps1), .val (.int ps2), .val (.int bz1), .val (.int bz2), .val (.int bz3), .val (.int bz4), .val (.int bz5), .val (.int bz6), .val rfa, .val rfb, .val (.ref b60), .val (.int (if bz1 = 0 ∧ bz2 = 0 then (1 : Int32) else 0)), .unset, .unset] [(.int bz1)])) _
      exact kt
    by_cases hc171_67 : bz1 = (0 : Int32)
    · have R68 : ∀ tg, Steps p.tables e below (T62.setTop (mkF m 176 #[.val (.int fg), .val (.int ps1), .val (.int ps2), .val (.int bz1), .val (.int bz2), .val (.int bz3), .val (.int bz4), .val (.int bz5), .val (.int bz6), .val rfa, .val rfb, .val (.ref b60), .val (.int (if bz1 = 0 ∧ bz2 = 0 then (1 : Int32) else 0)), .unset, .unset] [(.int bz2)])) tg → Steps p.tables e below (T62.setTop (mkF m 171 #[.val (.int fg), .val (.int ps1), .val (.int ps2), .val (.int bz1), .val (.int bz2), .val (.int bz3), .val (.int bz4), .val (.int bz5), .val (.int bz6), .val rfa, .val rfb, .val (.ref b60), .val (.int (if bz1 = 0 ∧ bz2 = 0 then (1 : Int32) else 0)), .unset, .unset] [(.int bz1)])) tg := by
        intro tg kt
        refine XS.ifNo X62.here hx rfl (hb hby at_171) rfl ((if0 _ _).trans (teq hc171_67).2) ?_
        show Steps p.tables e below (T62.setTop (mkF m 174 #[.val (.int fg), .val (.int ps1), .val (.int ps2), .val (.int bz1), .val (.int bz2), .val (.int bz3), .val (.int bz4), .val (.int bz5), .val (.int bz6), .val rfa, .val rfb, .val (.ref b60), .val (.int (if bz1 = 0 ∧ bz2 = 0 then (1 : Int32) else 0)), .unset, .unset] [])) _
        refine XS.iload X62.here hx rfl (hb hby at_174) rfl ?_
        show Steps p.tables e below (T62.setTop (mkF m 176 #[.val (.int fg), .val (.int ps1), .val (.int ps2), .val (.int bz1), .val (.int bz2), .val (.int bz3), .val (.int bz4), .val (.int bz5), .val (.int bz6), .val rfa, .val rfb, .val (.ref b60), .val (.int (if bz1 = 0 ∧ bz2 = 0 then (1 : Int32) else 0)), .unset, .unset] [(.int bz2)])) _
        exact kt
      by_cases hc176_69 : bz2 = (0 : Int32)
      · have R70 : ∀ tg, Steps p.tables e below (T62.setTop (mkF m 184 #[.val (.int fg), .val (.int ps1), .val (.int ps2), .val (.int bz1), .val (.int bz2), .val (.int bz3), .val (.int bz4), .val (.int bz5), .val (.int bz6), .val rfa, .val rfb, .val (.ref b60), .val (.int (if bz1 = 0 ∧ bz2 = 0 then (1 : Int32) else 0)), .unset, .unset] [(.int (1 : Int32))])) tg → Steps p.tables e below (T62.setTop (mkF m 176 #[.val (.int fg), .val (.int ps1), .val (.int ps2), .val (.int bz1), .val (.int bz2), .val (.int bz3), .val (.int bz4), .val (.int bz5), .val (.int bz6), .val rfa, .val rfb, .val (.ref b60), .val (.int (if bz1 = 0 ∧ bz2 = 0 then (1 : Int32) else 0)), .unset, .unset] [(.int bz2)])) tg := by
          intro tg kt
          refine XS.ifNo X62.here hx rfl (hb hby at_176) rfl ((if0 _ _).trans (teq hc176_69).2) ?_
          show Steps p.tables e below (T62.setTop (mkF m 179 #[.val (.int fg), .val (.int ps1), .val (.int ps2), .val (.int bz1), .val (.int bz2), .val (.int bz3), .val (.int bz4), .val (.int bz5), .val (.int bz6), .val rfa, .val rfb, .val (.ref b60), .val (.int (if bz1 = 0 ∧ bz2 = 0 then (1 : Int32) else 0)), .unset, .unset] [])) _
          refine XS.iconst X62.here hx rfl (hb hby at_179) ?_
          show Steps p.tables e below (T62.setTop (mkF m 180 #[.val (.int fg), .val (.int ps1), .val (.int ps2), .val (.int bz1), .val (.int bz2), .val (.int bz3), .val (.int bz4), .val (.int bz5), .val (.int bz6), .val rfa, .val rfb, .val (.ref b60), .val (.int (if bz1 = 0 ∧ bz2 = 0 then (1 : Int32) else 0)), .unset, .unset] [(.int (1 : Int32))])) _
          refine XS.goto X62.here hx rfl (pc0 := 180) (pc' := 184) rfl (hb hby at_180) (by decide) (by decide) ?_
          show Steps p.tables e below (T62.setTop (mkF m 184 #[.val (.int fg), .val (.int ps1), .val (.int ps2), .val (.int bz1), .val (.int bz2), .val (.int bz3), .val (.int bz4), .val (.int bz5), .val (.int bz6), .val rfa, .val rfb, .val (.ref b60), .val (.int (if bz1 = 0 ∧ bz2 = 0 then (1 : Int32) else 0)), .unset, .unset] [(.int (1 : Int32))])) _
          exact kt
        exact ⟨T62, _, (1 : Int32), X62.more (by decide) (by decide), r62, N62, (if_pos ⟨hc171_67, hc176_69⟩).symm, fun _ kt => (R66 _ (R68 _ (R70 _ kt)))⟩
      · have R71 : ∀ tg, Steps p.tables e below (T62.setTop (mkF m 184 #[.val (.int fg), .val (.int ps1), .val (.int ps2), .val (.int bz1), .val (.int bz2), .val (.int bz3), .val (.int bz4), .val (.int bz5), .val (.int bz6), .val rfa, .val rfb, .val (.ref b60), .val (.int (if bz1 = 0 ∧ bz2 = 0 then (1 : Int32) else 0)), .unset, .unset] [(.int (0 : Int32))])) tg → Steps p.tables e below (T62.setTop (mkF m 176 #[.val (.int fg), .val (.int ps1), .val (.int ps2), .val (.int bz1), .val (.int bz2), .val (.int bz3), .val (.int bz4), .val (.int bz5), .val (.int bz6), .val rfa, .val rfb, .val (.ref b60), .val (.int (if bz1 = 0 ∧ bz2 = 0 then (1 : Int32) else 0)), .unset, .unset] [(.int bz2)])) tg := by
          intro tg kt
          refine XS.ifYes X62.here hx rfl (pc0 := 176) (pc' := 183) rfl (hb hby at_176) rfl ((if0 _ _).trans (feq hc176_69).2) (by decide) (by decide) ?_
          show Steps p.tables e below (T62.setTop (mkF m 183 #[.val (.int fg), .val (.int ps1), .val (.int ps2), .val (.int bz1), .val (.int bz2), .val (.int bz3), .val (.int bz4), .val (.int bz5), .val (.int bz6), .val rfa, .val rfb, .val (.ref b60), .val (.int (if bz1 = 0 ∧ bz2 = 0 then (1 : Int32) else 0)), .unset, .unset] [])) _
          refine XS.iconst X62.here hx rfl (hb hby at_183) ?_
          show Steps p.tables e below (T62.setTop (mkF m 184 #[.val (.int fg), .val (.int ps1), .val (.int ps2), .val (.int bz1), .val (.int bz2), .val (.int bz3), .val (.int bz4), .val (.int bz5), .val (.int bz6), .val rfa, .val rfb, .val (.ref b60), .val (.int (if bz1 = 0 ∧ bz2 = 0 then (1 : Int32) else 0)), .unset, .unset] [(.int (0 : Int32))])) _
          exact kt
        exact ⟨T62, _, (0 : Int32), X62.more (by decide) (by decide), r62, N62, (if_neg (fun z => hc176_69 z.2)).symm, fun _ kt => (R66 _ (R68 _ (R71 _ kt)))⟩
    · have R72 : ∀ tg, Steps p.tables e below (T62.setTop (mkF m 184 #[.val (.int fg), .val (.int ps1), .val (.int ps2), .val (.int bz1), .val (.int bz2), .val (.int bz3), .val (.int bz4), .val (.int bz5), .val (.int bz6), .val rfa, .val rfb, .val (.ref b60), .val (.int (if bz1 = 0 ∧ bz2 = 0 then (1 : Int32) else 0)), .unset, .unset] [(.int (0 : Int32))])) tg → Steps p.tables e below (T62.setTop (mkF m 171 #[.val (.int fg), .val (.int ps1), .val (.int ps2), .val (.int bz1), .val (.int bz2), .val (.int bz3), .val (.int bz4), .val (.int bz5), .val (.int bz6), .val rfa, .val rfb, .val (.ref b60), .val (.int (if bz1 = 0 ∧ bz2 = 0 then (1 : Int32) else 0)), .unset, .unset] [(.int bz1)])) tg := by
        intro tg kt
        refine XS.ifYes X62.here hx rfl (pc0 := 171) (pc' := 183) rfl (hb hby at_171) rfl ((if0 _ _).trans (feq hc171_67).2) (by decide) (by decide) ?_
        show Steps p.tables e below (T62.setTop (mkF m 183 #[.val (.int fg), .val (.int ps1), .val (.int ps2), .val (.int bz1), .val (.int bz2), .val (.int bz3), .val (.int bz4), .val (.int bz5), .val (.int bz6), .val rfa, .val rfb, .val (.ref b60), .val (.int (if bz1 = 0 ∧ bz2 = 0 then (1 : Int32) else 0)), .unset, .unset] [])) _
        refine XS.iconst X62.here hx rfl (hb hby at_183) ?_
        show Steps p.tables e below (T62.setTop (mkF m 184 #[.val (.int fg), .val (.int ps1), .val (.int ps2), .val (.int bz1), .val (.int bz2), .val (.int bz3), .val (.int bz4), .val (.int bz5), .val (.int bz6), .val rfa, .val rfb, .val (.ref b60), .val (.int (if bz1 = 0 ∧ bz2 = 0 then (1 : Int32) else 0)), .unset, .unset] [(.int (0 : Int32))])) _
        exact kt
      exact ⟨T62, _, (0 : Int32), X62.more (by decide) (by decide), r62, N62, (if_neg (fun z => hc171_67 z.1)).symm, fun _ kt => (R66 _ (R72 _ kt))⟩
  have R73 : ∀ tg, Steps p.tables e below (T65.setTop (mkF m 184 #[.val (.int fg), .val (.int ps1), .val (.int ps2), .val (.int bz1), .val (.int bz2), .val (.int bz3), .val (.int bz4), .val (.int bz5), .val (.int bz6), .val rfa, .val rfb, .val (.ref b60), .val (.int (if bz1 = 0 ∧ bz2 = 0 then (1 : Int32) else 0)), .unset, .unset] [(.int (if bz1 = 0 ∧ bz2 = 0 then (1 : Int32) else 0))])) tg → Steps p.tables e below (T65.setTop (mkF m 184 #[.val (.int fg), .val (.int ps1), .val (.int ps2), .val (.int bz1), .val (.int bz2), .val (.int bz3), .val (.int bz4), .val (.int bz5), .val (.int bz6), .val rfa, .val rfb, .val (.ref b60), .val (.int (if bz1 = 0 ∧ bz2 = 0 then (1 : Int32) else 0)), .unset, .unset] [(.int ex1)])) tg := fun tg kt => by rw [pj65_0]; exact kt
  have R74 : ∀ tg, Steps p.tables e below (T65.setTop (mkF m 186 #[.val (.int fg), .val (.int ps1), .val (.int ps2), .val (.int bz1), .val (.int bz2), .val (.int bz3), .val (.int bz4), .val (.int bz5), .val (.int bz6), .val rfa, .val rfb, .val (.ref b60), .val (.int (if bz1 = 0 ∧ bz2 = 0 then (1 : Int32) else 0)), .val (.int (if bz1 = 0 ∧ bz2 = 0 then (1 : Int32) else 0)), .unset] [])) tg → Steps p.tables e below (T65.setTop (mkF m 184 #[.val (.int fg), .val (.int ps1), .val (.int ps2), .val (.int bz1), .val (.int bz2), .val (.int bz3), .val (.int bz4), .val (.int bz5), .val (.int bz6), .val rfa, .val rfb, .val (.ref b60), .val (.int (if bz1 = 0 ∧ bz2 = 0 then (1 : Int32) else 0)), .unset, .unset] [(.int (if bz1 = 0 ∧ bz2 = 0 then (1 : Int32) else 0))])) tg := by
    intro tg kt
    refine XS.istore X65.here hx rfl (hb hby at_184) rfl (l' := #[.val (.int fg), .val (.int ps1), .val (.int ps2), .val (.int bz1), .val (.int bz2), .val (.int bz3), .val (.int bz4), .val (.int bz5), .val (.int bz6), .val rfa, .val rfb, .val (.ref b60), .val (.int (if bz1 = 0 ∧ bz2 = 0 then (1 : Int32) else 0)), .val (.int (if bz1 = 0 ∧ bz2 = 0 then (1 : Int32) else 0)), .unset]) rfl ?_
    show Steps p.tables e below (T65.setTop (mkF m 186 #[.val (.int fg), .val (.int ps1), .val (.int ps2), .val (.int bz1), .val (.int bz2), .val (.int bz3), .val (.int bz4), .val (.int bz5), .val (.int bz6), .val rfa, .val rfb, .val (.ref b60), .val (.int (if bz1 = 0 ∧ bz2 = 0 then (1 : Int32) else 0)), .val (.int (if bz1 = 0 ∧ bz2 = 0 then (1 : Int32) else 0)), .unset] [])) _
    exact kt
  obtain ⟨T75, L75, ex2, X75, e75, N75, pj75_0, R75⟩ : ∃ (T' : State) (L' : List Loc) (ex2 : Int32), Stand p l e room_1 s m #[(.int fg), (.int ps1), (.int ps2)] below meth c T' L' 5 18 ∧ T'.heap = T61.heap ∧ Fr n0 L' ∧ (ex2 = (if bz1 = 0 ∧ bz2 = 0 then (1 : Int32) else 0)) ∧ ∀ tg, Steps p.tables e below (T'.setTop (mkF m 213 #[.val (.int fg), .val (.int ps1), .val (.int ps2), .val (.int bz1), .val (.int bz2), .val (.int bz3), .val (.int bz4), .val (.int bz5), .val (.int bz6), .val rfa, .val rfb, .val (.ref b60), .val (.int (if bz1 = 0 ∧ bz2 = 0 then (1 : Int32) else 0)), .val (.int (if bz1 = 0 ∧ bz2 = 0 then (1 : Int32) else 0)), .unset] [(.int ex2)])) tg → Steps p.tables e below (T65.setTop (mkF m 186 #[.val (.int fg), .val (.int ps1), .val (.int ps2), .val (.int bz1), .val (.int bz2), .val (.int bz3), .val (.int bz4), .val (.int bz5), .val (.int bz6), .val rfa, .val rfb, .val (.ref b60), .val (.int (if bz1 = 0 ∧ bz2 = 0 then (1 : Int32) else 0)), .val (.int (if bz1 = 0 ∧ bz2 = 0 then (1 : Int32) else 0)), .unset] [])) tg := by
    have f76 := ((((hO1.keep kp46 all0).keep kp53 all0).ext E60).keep kp61 (allS gb_b60 all0))
    obtain ⟨T77, X77, e77, st77⟩ := getS2 X65 hx hZ hown (host := "") (Or.inl (hw _ (List.mem_of_getElem? (i := 59) rfl))) Via.refl e65 (S_INSTANT.ext f76.2) (g := (mkF m 188 #[.val (.int fg), .val (.int ps1), .val (.int ps2), .val (.int bz1), .val (.int bz2), .val (.int bz3), .val (.int bz4), .val (.int bz5), .val (.int bz6), .val rfa, .val rfb, .val (.ref b60), .val (.int (if bz1 = 0 ∧ bz2 = 0 then (1 : Int32) else 0)), .val (.int (if bz1 = 0 ∧ bz2 = 0 then (1 : Int32) else 0)), .unset] [(.ref b60)])) rfl (hb hby at_188)
    obtain ⟨cq78, kq78, q78a, q78b, q78c⟩ := isOf hZ e77 f63
    obtain ⟨_, _, ⟨T78, L78, k78, n78⟩, -, X78, ⟨Lc78, hQ78, l78, y78, z78⟩, st78⟩ := X77.virtualBack hx (y := (⟨"com/example/inplace/inplace/Behaviour", "allows", "(Lcom/example/inplace/inplace/Verdict$Algorithm;)Z"⟩ : MethodName)) (z := (⟨"com/example/inplace/inplace/Behaviour", "allows", "(Lcom/example/inplace/inplace/Verdict$Algorithm;)Z"⟩ : MethodName)) hown (mvT hZ (hw _ (List.mem_of_getElem? (i := 62) rfl))) (mvT hZ (hw _ (List.mem_of_getElem? (i := 63) rfl))) (notFace_of_selects (args := #[]) (mvT hZ (hw _ (List.mem_of_getElem? (i := 65) rfl)))) (mvT hZ (hw _ (List.mem_of_getElem? (i := 65) rfl))) (mvT hZ (hw _ (List.mem_of_getElem? (i := 64) rfl))) (by decide) (backOf (W := 0) (rmA1 l Z a0 hw [] b60 bz1 a_INSTANT a_INPLACE T61.heap n0 Z61 (S_INSTANT.ext f76.2) (S_INPLACE.ext f76.2) fl61_0 (own_ne_fld F_INPLACE_ordinal F_INSTANT_ordinal (by decide))) hZ (hw _ (List.mem_of_getElem? (i := 66) rfl)) (hw _ (List.mem_of_getElem? (i := 28) rfl)) (by decide) (by decide)) q78a q78c (g := (mkF m 191 #[.val (.int fg), .val (.int ps1), .val (.int ps2), .val (.int bz1), .val (.int bz2), .val (.int bz3), .val (.int bz4), .val (.int bz5), .val (.int bz6), .val rfa, .val rfb, .val (.ref b60), .val (.int (if bz1 = 0 ∧ bz2 = 0 then (1 : Int32) else 0)), .val (.int (if bz1 = 0 ∧ bz2 = 0 then (1 : Int32) else 0)), .unset] [(.ref a_INSTANT), (.ref b60)])) rfl (by rw [hml]; rfl) (Steps.refl _) (argsL := [(.ref a_INSTANT)]) (rest := []) (lenOf pd_7 rfl) rfl (by show 2 * 0 + _ ≤ _; exact Nat.le_of_eq rfl) (hb hby at_191) (fun _ _ => ⟨rfl, e77, (by decide : 5 + 0 ≤ _), (by decide : 18 + 0 ≤ _)⟩)
    dsimp only [Pt.U, Pt.locs, Pt.cells, Pt.slots] at X78 l78 y78 z78 st78 hQ78
    subst l78 y78 z78
    obtain ⟨hv78, N78q, r78⟩ := hQ78
    rw [own_and1 pj1_0] at hv78
    subst hv78
    have N78 := Fr.app N65 N78q
    have R79 : ∀ tg, Steps p.tables e below (T78.setTop (mkF m 194 #[.val (.int fg), .val (.int ps1), .val (.int ps2), .val (.int bz1), .val (.int bz2), .val (.int bz3), .val (.int bz4), .val (.int bz5), .val (.int bz6), .val rfa, .val rfb, .val (.ref b60), .val (.int (if bz1 = 0 ∧ bz2 = 0 then (1 : Int32) else 0)), .val (.int (if bz1 = 0 ∧ bz2 = 0 then (1 : Int32) else 0)), .unset] [(.int bz1)])) tg → Steps p.tables e below (T65.setTop (mkF m 186 #[.val (.int fg), .val (.int ps1), .val (.int ps2), .val (.int bz1), .val (.int bz2), .val (.int bz3), .val (.int bz4), .val (.int bz5), .val (.int bz6), .val rfa, .val rfb, .val (.ref b60), .val (.int (if bz1 = 0 ∧ bz2 = 0 then (1 : Int32) else 0)), .val (.int (if bz1 = 0 ∧ bz2 = 0 then (1 : Int32) else 0)), .unset] [])) tg := by
      intro tg kt
      refine XS.aload X65.here hx rfl (hb hby at_186) rfl rfl ?_
      show Steps p.tables e below (T65.setTop (mkF m 188 #[.val (.int fg), .val (.int ps1), .val (.int ps2), .val (.int bz1), .val (.int bz2), .val (.int bz3), .val (.int bz4), .val (.int bz5), .val (.int bz6), .val rfa, .val rfb, .val (.ref b60), .val (.int (if bz1 = 0 ∧ bz2 = 0 then (1 : Int32) else 0)), .val (.int (if bz1 = 0 ∧ bz2 = 0 then (1 : Int32) else 0)), .unset] [(.ref b60)])) _
      refine st77 _ ?_
      show Steps p.tables e below (T77.setTop (mkF m 191 #[.val (.int fg), .val (.int ps1), .val (.int ps2), .val (.int bz1), .val (.int bz2), .val (.int bz3), .val (.int bz4), .val (.int bz5), .val (.int bz6), .val rfa, .val rfb, .val (.ref b60), .val (.int (if bz1 = 0 ∧ bz2 = 0 then (1 : Int32) else 0)), .val (.int (if bz1 = 0 ∧ bz2 = 0 then (1 : Int32) else 0)), .unset] [(.ref a_INSTANT), (.ref b60)])) _
      refine st78.trans ?_
      show Steps p.tables e below (T78.setTop (mkF m 194 #[.val (.int fg), .val (.int ps1), .val (.int ps2), .val (.int bz1), .val (.int bz2), .val (.int bz3), .val (.int bz4), .val (.int bz5), .val (.int bz6), .val rfa, .val rfb, .val (.ref b60), .val (.int (if bz1 = 0 ∧ bz2 = 0 then (1 : Int32) else 0)), .val (.int (if bz1 = 0 ∧ bz2 = 0 then (1 : Int32) else 0)), .unset] [(.int bz1)])) _
      exact kt
    by_cases hc194_80 : bz1 = (0 : Int32)
    · obtain ⟨T81, X81, e81, st81⟩ := getS2 X78 hx hZ hown (host := "") (Or.inl (hw _ (List.mem_of_getElem? (i := 68) rfl))) Via.refl r78 (S_INPLACE.ext f76.2) (g := (mkF m 199 #[.val (.int fg), .val (.int ps1), .val (.int ps2), .val (.int bz1), .val (.int bz2), .val (.int bz3), .val (.int bz4), .val (.int bz5), .val (.int bz6), .val rfa, .val rfb, .val (.ref b60), .val (.int (if bz1 = 0 ∧ bz2 = 0 then (1 : Int32) else 0)), .val (.int (if bz1 = 0 ∧ bz2 = 0 then (1 : Int32) else 0)), .unset] [(.ref b60)])) rfl (hb hby at_199)
      obtain ⟨cq82, kq82, q82a, q82b, q82c⟩ := isOf hZ e81 f63
      obtain ⟨_, _, ⟨T82, L82, k82, n82⟩, -, X82, ⟨Lc82, hQ82, l82, y82, z82⟩, st82⟩ := X81.virtualBack hx (y := (⟨"com/example/inplace/inplace/Behaviour", "allows", "(Lcom/example/inplace/inplace/Verdict$Algorithm;)Z"⟩ : MethodName)) (z := (⟨"com/example/inplace/inplace/Behaviour", "allows", "(Lcom/example/inplace/inplace/Verdict$Algorithm;)Z"⟩ : MethodName)) hown (mvT hZ (hw _ (List.mem_of_getElem? (i := 62) rfl))) (mvT hZ (hw _ (List.mem_of_getElem? (i := 63) rfl))) (notFace_of_selects (args := #[]) (mvT hZ (hw _ (List.mem_of_getElem? (i := 65) rfl)))) (mvT hZ (hw _ (List.mem_of_getElem? (i := 65) rfl))) (mvT hZ (hw _ (List.mem_of_getElem? (i := 64) rfl))) (by decide) (backOf (W := 0) (rmA2 l Z a0 hw [] b60 bz2 a_INSTANT a_INPLACE T61.heap n0 Z61 (S_INSTANT.ext f76.2) (S_INPLACE.ext f76.2) fl61_1 (own_ne_fld F_INPLACE_ordinal F_INSTANT_ordinal (by decide))) hZ (hw _ (List.mem_of_getElem? (i := 66) rfl)) (hw _ (List.mem_of_getElem? (i := 28) rfl)) (by decide) (by decide)) q82a q82c (g := (mkF m 202 #[.val (.int fg), .val (.int ps1), .val (.int ps2), .val (.int bz1), .val (.int bz2), .val (.int bz3), .val (.int bz4), .val (.int bz5), .val (.int bz6), .val rfa, .val rfb, .val (.ref b60), .val (.int (if bz1 = 0 ∧ bz2 = 0 then (1 : Int32) else 0)), .val (.int (if bz1 = 0 ∧ bz2 = 0 then (1 : Int32) else 0)), .unset] [(.ref a_INPLACE), (.ref b60)])) rfl (by rw [hml]; rfl) (Steps.refl _) (argsL := [(.ref a_INPLACE)]) (rest := []) (lenOf pd_7 rfl) rfl (by show 2 * 0 + _ ≤ _; exact Nat.le_of_eq rfl) (hb hby at_202) (fun _ _ => ⟨rfl, e81, (by decide : 5 + 0 ≤ _), (by decide : 18 + 0 ≤ _)⟩)
      dsimp only [Pt.U, Pt.locs, Pt.cells, Pt.slots] at X82 l82 y82 z82 st82 hQ82
      subst l82 y82 z82
      obtain ⟨hv82, N82q, r82⟩ := hQ82
      rw [own_and1 pj7_0] at hv82
      subst hv82
      have N82 := Fr.app N78 N82q
      have R83 : ∀ tg, Steps p.tables e below (T82.setTop (mkF m 205 #[.val (.int fg), .val (.int ps1), .val (.int ps2), .val (.int bz1), .val (.int bz2), .val (.int bz3), .val (.int bz4), .val (.int bz5), .val (.int bz6), .val rfa, .val rfb, .val (.ref b60), .val (.int (if bz1 = 0 ∧ bz2 = 0 then (1 : Int32) else 0)), .val (.int (if bz1 = 0 ∧ bz2 = 0 then (1 : Int32) else 0)), .unset] [(.int bz2)])) tg → Steps p.tables e below (T78.setTop (mkF m 194 #[.val (.int fg), .val (.int ps1), .val (.int ps2), .val (.int bz1), .val (.int bz2), .val (.int bz3), .val (.int bz4), .val (.int bz5), .val (.int bz6), .val rfa, .val rfb, .val (.ref b60), .val (.int (if bz1 = 0 ∧ bz2 = 0 then (1 : Int32) else 0)), .val (.int (if bz1 = 0 ∧ bz2 = 0 then (1 : Int32) else 0)), .unset] [(.int bz1)])) tg := by
        intro tg kt
        refine XS.ifNo X78.here hx rfl (hb hby at_194) rfl ((if0 _ _).trans (teq hc194_80).2) ?_
        show Steps p.tables e below (T78.setTop (mkF m 197 #[.val (.int fg), .val (.int ps1), .val (.int ps2), .val (.int bz1), .val (.int bz2), .val (.int bz3), .val (.int bz4), .val (.int bz5), .val (.int bz6), .val rfa, .val rfb, .val (.ref b60), .val (.int (if bz1 = 0 ∧ bz2 = 0 then (1 : Int32) else 0)), .val (.int (if bz1 = 0 ∧ bz2 = 0 then (1 : Int32) else 0)), .unset] [])) _
        refine XS.aload X78.here hx rfl (hb hby at_197) rfl rfl ?_
        show Steps p.tables e below (T78.setTop (mkF m 199 #[.val (.int fg), .val (.int ps1), .val (.int ps2), .val (.int bz1), .val (.int bz2), .val (.int bz3), .val (.int bz4), .val (.int bz5), .val (.int bz6), .val rfa, .val rfb, .val (.ref b60), .val (.int (if bz1 = 0 ∧ bz2 = 0 then (1 : Int32) else 0)), .val (.int (if bz1 = 0 ∧ bz2 = 0 then (1 : Int32) else 0)), .unset] [(.ref b60)])) _
        refine st81 _ ?_
        show Steps p.tables e below (T81.setTop (mkF m 202 #[.val (.int fg), .val (.int ps1), .val (.int ps2), .val (.int bz1), .val (.int bz2), .val (.int bz3), .val (.int bz4), .val (.int bz5), .val (.int bz6), .val rfa, .val rfb, .val (.ref b60), .val (.int (if bz1 = 0 ∧ bz2 = 0 then (1 : Int32) else 0)), .val (.int (if bz1 = 0 ∧ bz2 = 0 then (1 : Int32) else 0)), .unset] [(.ref a_INPLACE), (.ref b60)])) _
        refine st82.trans ?_
        show Steps p.tables e below (T82.setTop (mkF m 205 #[.val (.int fg), .val (.int ps1), .val (.int ps2), .val (.int bz1), .val (.int bz2), .val (.int bz3), .val (.int bz4), .val (.int bz5), .val (.int bz6), .val rfa, .val rfb, .val (.ref b60), .val (.int (if bz1 = 0 ∧ bz2 = 0 then (1 : Int32) else 0)), .val (.int (if bz1 = 0 ∧ bz2 = 0 then (1 : Int32) else 0)), .unset] [(.int bz2)])) _
        exact kt
      by_cases hc205_84 : bz2 = (0 : Int32)
      · have R85 : ∀ tg, Steps p.tables e below (T82.setTop (mkF m 213 #[.val (.int fg), .val (.int ps1), .val (.int ps2), .val (.int bz1), .val (.int bz2), .val (.int bz3), .val (.int bz4), .val (.int bz5), .val (.int bz6), .val rfa, .val rfb, .val (.ref b60), .val (.int (if bz1 = 0 ∧ bz2 = 0 then (1 : Int32) else 0)), .val (.int (if bz1 = 0 ∧ bz2 = 0 then (1 : Int32) else 0)), .unset] [(.int (1 : Int32))])) tg → Steps p.tables e below (T82.setTop (mkF m 205 #[.val (.int fg), .val (.int ps1), .val (.int ps2), .val (.int bz1), .val (.int bz2), .val (.int bz3), .val (.int bz4), .val (.int bz5), .val (.int bz6), .val rfa, .val rfb, .val (.ref b60), .val (.int (if bz1 = 0 ∧ bz2 = 0 then (1 : Int32) else 0)), .val (.int (if bz1 = 0 ∧ bz2 = 0 then (1 : Int32) else 0)), .unset] [(.int bz2)])) tg := by
          intro tg kt
          refine XS.ifNo X82.here hx rfl (hb hby at_205) rfl ((if0 _ _).trans (teq hc205_84).2) ?_
          show Steps p.tables e below (T82.setTop (mkF m 208 #[.val (.int fg), .val (.int ps1), .val (.int ps2), .val (.int bz1), .val (.int bz2), .val (.int bz3), .val (.int bz4), .val (.int bz5), .val (.int bz6), .val rfa, .val rfb, .val (.ref b60), .val (.int (if bz1 = 0 ∧ bz2 = 0 then (1 : Int32) else 0)), .val (.int (if bz1 = 0 ∧ bz2 = 0 then (1 : Int32) else 0)), .unset] [])) _
          refine XS.iconst X82.here hx rfl (hb hby at_208) ?_
          show Steps p.tables e below (T82.setTop (mkF m 209 #[.val (.int fg), .val (.int ps1), .val (.int ps2), .val (.int bz1), .val (.int bz2), .val (.int bz3), .val (.int bz4), .val (.int bz5), .val (.int bz6), .val rfa, .val rfb, .val (.ref b60), .val (.int (if bz1 = 0 ∧ bz2 = 0 then (1 : Int32) else 0)), .val (.int (if bz1 = 0 ∧ bz2 = 0 then (1 : Int32) else 0)), .unset] [(.int (1 : Int32))])) _
          refine XS.goto X82.here hx rfl (pc0 := 209) (pc' := 213) rfl (hb hby at_209) (by decide) (by decide) ?_
          show Steps p.tables e below (T82.setTop (mkF m 213 #[.val (.int fg), .val (.int ps1), .val (.int ps2), .val (.int bz1), .val (.int bz2), .val (.int bz3), .val (.int bz4), .val (.int bz5), .val (.int bz6), .val rfa, .val rfb, .val (.ref b60), .val (.int (if bz1 = 0 ∧ bz2 = 0 then (1 : Int32) else 0)), .val (.int (if bz1 = 0 ∧ bz2 = 0 then (1 : Int32) else 0)), .unset] [(.int (1 : Int32))])) _
          exact kt
        exact ⟨T82, _, (1 : Int32), X82.more (by decide) (by decide), r82, N82, (if_pos ⟨hc194_80, hc205_84⟩).symm, fun _ kt => (R79 _ (R83 _ (R85 _ kt)))⟩
      · have R86 : ∀ tg, Steps p.tables e below (T82.setTop (mkF m 213 #[.val (.int fg), .val (.int ps1), .val (.int ps2), .val (.int bz1), .val (.int bz2), .val (.int bz3), .val (.int bz4), .val (.int bz5), .val (.int bz6), .val rfa, .val rfb, .val (.ref b60), .val (.int (if bz1 = 0 ∧ bz2 = 0 then (1 : Int32) else 0)), .val (.int (if bz1 = 0 ∧ bz2 = 0 then (1 : Int32) else 0)), .unset] [(.int (0 : Int32))])) tg → Steps p.tables e below (T82.setTop (mkF m 205 #[.val (.int fg), .val (.int ps1), .val (.int ps2), .val (.int bz1), .val (.int bz2), .val (.int bz3), .val (.int bz4), .val (.int bz5), .val (.int bz6), .val rfa, .val rfb, .val (.ref b60), .val (.int (if bz1 = 0 ∧ bz2 = 0 then (1 : Int32) else 0)), .val (.int (if bz1 = 0 ∧ bz2 = 0 then (1 : Int32) else 0)), .unset] [(.int bz2)])) tg := by
          intro tg kt
          refine XS.ifYes X82.here hx rfl (pc0 := 205) (pc' := 212) rfl (hb hby at_205) rfl ((if0 _ _).trans (feq hc205_84).2) (by decide) (by decide) ?_
          show Steps p.tables e below (T82.setTop (mkF m 212 #[.val (.int fg), .val (.int ps1), .val (.int ps2), .val (.int bz1), .val (.int bz2), .val (.int bz3), .val (.int bz4), .val (.int bz5), .val (.int bz6), .val rfa, .val rfb, .val (.ref b60), .val (.int (if bz1 = 0 ∧ bz2 = 0 then (1 : Int32) else 0)), .val (.int (if bz1 = 0 ∧ bz2 = 0 then (1 : Int32) else 0)), .unset] [])) _
          refine XS.iconst X82.here hx rfl (hb hby at_212) ?_
          show Steps p.tables e below (T82.setTop (mkF m 213 #[.val (.int fg), .val (.int ps1), .val (.int ps2), .val (.int bz1), .val (.int bz2), .val (.int bz3), .val (.int bz4), .val (.int bz5), .val (.int bz6), .val rfa, .val rfb, .val (.ref b60), .val (.int (if bz1 = 0 ∧ bz2 = 0 then (1 : Int32) else 0)), .val (.int (if bz1 = 0 ∧ bz2 = 0 then (1 : Int32) else 0)), .unset] [(.int (0 : Int32))])) _
          exact kt
        exact ⟨T82, _, (0 : Int32), X82.more (by decide) (by decide), r82, N82, (if_neg (fun z => hc205_84 z.2)).symm, fun _ kt => (R79 _ (R83 _ (R86 _ kt)))⟩
    · have R87 : ∀ tg, Steps p.tables e below (T78.setTop (mkF m 213 #[.val (.int fg), .val (.int ps1), .val (.int ps2), .val (.int bz1), .val (.int bz2), .val (.int bz3), .val (.int bz4), .val (.int bz5), .val (.int bz6), .val rfa, .val rfb, .val (.ref b60), .val (.int (if bz1 = 0 ∧ bz2 = 0 then (1 : Int32) else 0)), .val (.int (if bz1 = 0 ∧ bz2 = 0 then (1 : Int32) else 0)), .unset] [(.int (0 : Int32))])) tg → Steps p.tables e below (T78.setTop (mkF m 194 #[.val (.int fg), .val (.int ps1), .val (.int ps2), .val (.int bz1), .val (.int bz2), .val (.int bz3), .val (.int bz4), .val (.int bz5), .val (.int bz6), .val rfa, .val rfb, .val (.ref b60), .val (.int (if bz1 = 0 ∧ bz2 = 0 then (1 : Int32) else 0)), .val (.int (if bz1 = 0 ∧ bz2 = 0 then (1 : Int32) else 0)), .unset] [(.int bz1)])) tg := by
        intro tg kt
        refine XS.ifYes X78.here hx rfl (pc0 := 194) (pc' := 212) rfl (hb hby at_194) rfl ((if0 _ _).trans (feq hc194_80).2) (by decide) (by decide) ?_
        show Steps p.tables e below (T78.setTop (mkF m 212 #[.val (.int fg), .val (.int ps1), .val (.int ps2), .val (.int bz1), .val (.int bz2), .val (.int bz3), .val (.int bz4), .val (.int bz5), .val (.int bz6), .val rfa, .val rfb, .val (.ref b60), .val (.int (if bz1 = 0 ∧ bz2 = 0 then (1 : Int32) else 0)), .val (.int (if bz1 = 0 ∧ bz2 = 0 then (1 : Int32) else 0)), .unset] [])) _
        refine XS.iconst X78.here hx rfl (hb hby at_212) ?_
        show Steps p.tables e below (T78.setTop (mkF m 213 #[.val (.int fg), .val (.int ps1), .val (.int ps2), .val (.int bz1), .val (.int bz2), .val (.int bz3), .val (.int bz4), .val (.int bz5), .val (.int bz6), .val rfa, .val rfb, .val (.ref b60), .val (.int (if bz1 = 0 ∧ bz2 = 0 then (1 : Int32) else 0)), .val (.int (if bz1 = 0 ∧ bz2 = 0 then (1 : Int32) else 0)), .unset] [(.int (0 : Int32))])) _
        exact kt
      exact ⟨T78, _, (0 : Int32), X78.more (by decide) (by decide), r78, N78, (if_neg (fun z => hc194_80 z.1)).symm, fun _ kt => (R79 _ (R87 _ kt))⟩
  have R88 : ∀ tg, Steps p.tables e below (T75.setTop (mkF m 213 #[.val (.int fg), .val (.int ps1), .val (.int ps2), .val (.int bz1), .val (.int bz2), .val (.int bz3), .val (.int bz4), .val (.int bz5), .val (.int bz6), .val rfa, .val rfb, .val (.ref b60), .val (.int (if bz1 = 0 ∧ bz2 = 0 then (1 : Int32) else 0)), .val (.int (if bz1 = 0 ∧ bz2 = 0 then (1 : Int32) else 0)), .unset] [(.int (if bz1 = 0 ∧ bz2 = 0 then (1 : Int32) else 0))])) tg → Steps p.tables e below (T75.setTop (mkF m 213 #[.val (.int fg), .val (.int ps1), .val (.int ps2), .val (.int bz1), .val (.int bz2), .val (.int bz3), .val (.int bz4), .val (.int bz5), .val (.int bz6), .val rfa, .val rfb, .val (.ref b60), .val (.int (if bz1 = 0 ∧ bz2 = 0 then (1 : Int32) else 0)), .val (.int (if bz1 = 0 ∧ bz2 = 0 then (1 : Int32) else 0)), .unset] [(.int ex2)])) tg := fun tg kt => by rw [pj75_0]; exact kt
  have R89 : ∀ tg, Steps p.tables e below (T75.setTop (mkF m 231 #[.val (.int fg), .val (.int ps1), .val (.int ps2), .val (.int bz1), .val (.int bz2), .val (.int bz3), .val (.int bz4), .val (.int bz5), .val (.int bz6), .val rfa, .val rfb, .val (.ref b60), .val (.int (if bz1 = 0 ∧ bz2 = 0 then (1 : Int32) else 0)), .val (.int (if bz1 = 0 ∧ bz2 = 0 then (1 : Int32) else 0)), .val (.int (if bz1 = 0 ∧ bz2 = 0 then (1 : Int32) else 0))] [(.int (if bz1 = 0 ∧ bz2 = 0 then (1 : Int32) else 0))])) tg → Steps p.tables e below (T75.setTop (mkF m 213 #[.val (.int fg), .val (.int ps1), .val (.int ps2), .val (.int bz1), .val (.int bz2), .val (.int bz3), .val (.int bz4), .val (.int bz5), .val (.int bz6), .val rfa, .val rfb, .val (.ref b60), .val (.int (if bz1 = 0 ∧ bz2 = 0 then (1 : Int32) else 0)), .val (.int (if bz1 = 0 ∧ bz2 = 0 then (1 : Int32) else 0)), .unset] [(.int (if bz1 = 0 ∧ bz2 = 0 then (1 : Int32) else 0))])) tg := by
    intro tg kt
    refine XS.istore X75.here hx rfl (hb hby at_213) rfl (l' := #[.val (.int fg), .val (.int ps1), .val (.int ps2), .val (.int bz1), .val (.int bz2), .val (.int bz3), .val (.int bz4), .val (.int bz5), .val (.int bz6), .val rfa, .val rfb, .val (.ref b60), .val (.int (if bz1 = 0 ∧ bz2 = 0 then (1 : Int32) else 0)), .val (.int (if bz1 = 0 ∧ bz2 = 0 then (1 : Int32) else 0)), .val (.int (if bz1 = 0 ∧ bz2 = 0 then (1 : Int32) else 0))]) rfl ?_
    show Steps p.tables e below (T75.setTop (mkF m 215 #[.val (.int fg), .val (.int ps1), .val (.int ps2), .val (.int bz1), .val (.int bz2), .val (.int bz3), .val (.int bz4), .val (.int bz5), .val (.int bz6), .val rfa, .val rfb, .val (.ref b60), .val (.int (if bz1 = 0 ∧ bz2 = 0 then (1 : Int32) else 0)), .val (.int (if bz1 = 0 ∧ bz2 = 0 then (1 : Int32) else 0)), .val (.int (if bz1 = 0 ∧ bz2 = 0 then (1 : Int32) else 0))] [])) _
    refine XS.iload X75.here hx rfl (hb hby at_215) rfl ?_
    show Steps p.tables e below (T75.setTop (mkF m 217 #[.val (.int fg), .val (.int ps1), .val (.int ps2), .val (.int bz1), .val (.int bz2), .val (.int bz3), .val (.int bz4), .val (.int bz5), .val (.int bz6), .val rfa, .val rfb, .val (.ref b60), .val (.int (if bz1 = 0 ∧ bz2 = 0 then (1 : Int32) else 0)), .val (.int (if bz1 = 0 ∧ bz2 = 0 then (1 : Int32) else 0)), .val (.int (if bz1 = 0 ∧ bz2 = 0 then (1 : Int32) else 0))] [(.int (if bz1 = 0 ∧ bz2 = 0 then (1 : Int32) else 0))])) _
    refine XS.iload X75.here hx rfl (hb hby at_217) rfl ?_
    show Steps p.tables e below (T75.setTop (mkF m 219 #[.val (.int fg), .val (.int ps1), .val (.int ps2), .val (.int bz1), .val (.int bz2), .val (.int bz3), .val (.int bz4), .val (.int bz5), .val (.int bz6), .val rfa, .val rfb, .val (.ref b60), .val (.int (if bz1 = 0 ∧ bz2 = 0 then (1 : Int32) else 0)), .val (.int (if bz1 = 0 ∧ bz2 = 0 then (1 : Int32) else 0)), .val (.int (if bz1 = 0 ∧ bz2 = 0 then (1 : Int32) else 0))] [(.int (if bz1 = 0 ∧ bz2 = 0 then (1 : Int32) else 0)), (.int (if bz1 = 0 ∧ bz2 = 0 then (1 : Int32) else 0))])) _
    refine XS.icmpNo X75.here hx rfl (hb hby at_219) rfl (teq rfl).2 ?_
    show Steps p.tables e below (T75.setTop (mkF m 222 #[.val (.int fg), .val (.int ps1), .val (.int ps2), .val (.int bz1), .val (.int bz2), .val (.int bz3), .val (.int bz4), .val (.int bz5), .val (.int bz6), .val rfa, .val rfb, .val (.ref b60), .val (.int (if bz1 = 0 ∧ bz2 = 0 then (1 : Int32) else 0)), .val (.int (if bz1 = 0 ∧ bz2 = 0 then (1 : Int32) else 0)), .val (.int (if bz1 = 0 ∧ bz2 = 0 then (1 : Int32) else 0))] [])) _
    refine XS.iload X75.here hx rfl (hb hby at_222) rfl ?_
    show Steps p.tables e below (T75.setTop (mkF m 224 #[.val (.int fg), .val (.int ps1), .val (.int ps2), .val (.int bz1), .val (.int bz2), .val (.int bz3), .val (.int bz4), .val (.int bz5), .val (.int bz6), .val rfa, .val rfb, .val (.ref b60), .val (.int (if bz1 = 0 ∧ bz2 = 0 then (1 : Int32) else 0)), .val (.int (if bz1 = 0 ∧ bz2 = 0 then (1 : Int32) else 0)), .val (.int (if bz1 = 0 ∧ bz2 = 0 then (1 : Int32) else 0))] [(.int (if bz1 = 0 ∧ bz2 = 0 then (1 : Int32) else 0))])) _
    refine XS.iload X75.here hx rfl (hb hby at_224) rfl ?_
    show Steps p.tables e below (T75.setTop (mkF m 226 #[.val (.int fg), .val (.int ps1), .val (.int ps2), .val (.int bz1), .val (.int bz2), .val (.int bz3), .val (.int bz4), .val (.int bz5), .val (.int bz6), .val rfa, .val rfb, .val (.ref b60), .val (.int (if bz1 = 0 ∧ bz2 = 0 then (1 : Int32) else 0)), .val (.int (if bz1 = 0 ∧ bz2 = 0 then (1 : Int32) else 0)), .val (.int (if bz1 = 0 ∧ bz2 = 0 then (1 : Int32) else 0))] [(.int (if bz1 = 0 ∧ bz2 = 0 then (1 : Int32) else 0)), (.int (if bz1 = 0 ∧ bz2 = 0 then (1 : Int32) else 0))])) _
    refine XS.icmpNo X75.here hx rfl (hb hby at_226) rfl (teq rfl).2 ?_
    show Steps p.tables e below (T75.setTop (mkF m 229 #[.val (.int fg), .val (.int ps1), .val (.int ps2), .val (.int bz1), .val (.int bz2), .val (.int bz3), .val (.int bz4), .val (.int bz5), .val (.int bz6), .val rfa, .val rfb, .val (.ref b60), .val (.int (if bz1 = 0 ∧ bz2 = 0 then (1 : Int32) else 0)), .val (.int (if bz1 = 0 ∧ bz2 = 0 then (1 : Int32) else 0)), .val (.int (if bz1 = 0 ∧ bz2 = 0 then (1 : Int32) else 0))] [])) _
    refine XS.iload X75.here hx rfl (hb hby at_229) rfl ?_
    show Steps p.tables e below (T75.setTop (mkF m 231 #[.val (.int fg), .val (.int ps1), .val (.int ps2), .val (.int bz1), .val (.int bz2), .val (.int bz3), .val (.int bz4), .val (.int bz5), .val (.int bz6), .val rfa, .val rfb, .val (.ref b60), .val (.int (if bz1 = 0 ∧ bz2 = 0 then (1 : Int32) else 0)), .val (.int (if bz1 = 0 ∧ bz2 = 0 then (1 : Int32) else 0)), .val (.int (if bz1 = 0 ∧ bz2 = 0 then (1 : Int32) else 0))] [(.int (if bz1 = 0 ∧ bz2 = 0 then (1 : Int32) else 0))])) _
    exact kt
  by_cases hc231_90 : (if bz1 = 0 ∧ bz2 = 0 then (1 : Int32) else 0) = (0 : Int32)
  · obtain ⟨fs, hr, hrun, hended, hW, hsame⟩ := X75.leave (v := some (.int (1 : Int32))) (fun h => by rw [Bd.returns] at h; cases h)
    refine ⟨_, _, pre0 _ (R1 _ (R6 _ (R7 _ (R12 _ (R13 _ (R24 _ (R25 _ (R30 _ (R31 _ (R36 _ (R37 _ (R45 _ (R46 _ (R52 _ (R53 _ (R64 _ (R65 _ (R73 _ (R74 _ (R75 _ (R88 _ (R89 _ ?_)))))))))))))))))))))), hrun, hended, _, _, rfl, ?_, ⟨_, rfl⟩, hW, hsame.mono (by decide) (by decide)⟩
    · show Steps p.tables e below (T75.setTop (mkF m 231 #[.val (.int fg), .val (.int ps1), .val (.int ps2), .val (.int bz1), .val (.int bz2), .val (.int bz3), .val (.int bz4), .val (.int bz5), .val (.int bz6), .val rfa, .val rfb, .val (.ref b60), .val (.int (if bz1 = 0 ∧ bz2 = 0 then (1 : Int32) else 0)), .val (.int (if bz1 = 0 ∧ bz2 = 0 then (1 : Int32) else 0)), .val (.int (if bz1 = 0 ∧ bz2 = 0 then (1 : Int32) else 0))] [(.int (if bz1 = 0 ∧ bz2 = 0 then (1 : Int32) else 0))])) _
      refine XS.ifYes X75.here hx rfl (pc0 := 231) (pc' := 242) rfl (hb hby at_231) rfl ((if0 _ _).trans (teq hc231_90).1) (by decide) (by decide) ?_
      show Steps p.tables e below (T75.setTop (mkF m 242 #[.val (.int fg), .val (.int ps1), .val (.int ps2), .val (.int bz1), .val (.int bz2), .val (.int bz3), .val (.int bz4), .val (.int bz5), .val (.int bz6), .val rfa, .val rfb, .val (.ref b60), .val (.int (if bz1 = 0 ∧ bz2 = 0 then (1 : Int32) else 0)), .val (.int (if bz1 = 0 ∧ bz2 = 0 then (1 : Int32) else 0)), .val (.int (if bz1 = 0 ∧ bz2 = 0 then (1 : Int32) else 0))] [])) _
      refine XS.iconst X75.here hx rfl (hb hby at_242) ?_
      show Steps p.tables e below (T75.setTop (mkF m 243 #[.val (.int fg), .val (.int ps1), .val (.int ps2), .val (.int bz1), .val (.int bz2), .val (.int bz3), .val (.int bz4), .val (.int bz5), .val (.int bz6), .val rfa, .val rfb, .val (.ref b60), .val (.int (if bz1 = 0 ∧ bz2 = 0 then (1 : Int32) else 0)), .val (.int (if bz1 = 0 ∧ bz2 = 0 then (1 : Int32) else 0)), .val (.int (if bz1 = 0 ∧ bz2 = 0 then (1 : Int32) else 0))] [(.int (1 : Int32))])) _
      refine XS.goto X75.here hx rfl (pc0 := 243) (pc' := 247) rfl (hb hby at_243) (by decide) (by decide) ?_
      show Steps p.tables e below (T75.setTop (mkF m 247 #[.val (.int fg), .val (.int ps1), .val (.int ps2), .val (.int bz1), .val (.int bz2), .val (.int bz3), .val (.int bz4), .val (.int bz5), .val (.int bz6), .val rfa, .val rfb, .val (.ref b60), .val (.int (if bz1 = 0 ∧ bz2 = 0 then (1 : Int32) else 0)), .val (.int (if bz1 = 0 ∧ bz2 = 0 then (1 : Int32) else 0)), .val (.int (if bz1 = 0 ∧ bz2 = 0 then (1 : Int32) else 0))] [(.int (1 : Int32))])) _
      exact retN X75 hx (t := .boolean) Bd.returns (by simp) (hb hby at_247) hr
    · show Q0 n0 _ T75.heap _
      rw [e75]
      exact ⟨rfl, N75⟩
  · obtain ⟨cq91, kq91, q91a, q91b, q91c⟩ := isOf hZ e75 f63
    obtain ⟨_, _, ⟨T91, L91, k91, n91⟩, -, X91, ⟨Lc91, hQ91, l91, y91, z91⟩, st91⟩ := X75.virtualBack hx (y := (⟨"com/example/inplace/inplace/Behaviour", "copy", "()Z"⟩ : MethodName)) (z := (⟨"com/example/inplace/inplace/Behaviour", "copy", "()Z"⟩ : MethodName)) hown (mvT hZ (hw _ (List.mem_of_getElem? (i := 71) rfl))) (mvT hZ (hw _ (List.mem_of_getElem? (i := 72) rfl))) (notFace_of_selects (args := #[]) (mvT hZ (hw _ (List.mem_of_getElem? (i := 74) rfl)))) (mvT hZ (hw _ (List.mem_of_getElem? (i := 74) rfl))) (mvT hZ (hw _ (List.mem_of_getElem? (i := 73) rfl))) (by decide) (backOf (W := 0) (rmCp l Z a0 hw [] b60 bz3 T61.heap n0 Z61 fl61_2) hZ (hw _ (List.mem_of_getElem? (i := 75) rfl)) (hw _ (List.mem_of_getElem? (i := 28) rfl)) (by decide) (by decide)) q91a q91c (g := (mkF m 236 #[.val (.int fg), .val (.int ps1), .val (.int ps2), .val (.int bz1), .val (.int bz2), .val (.int bz3), .val (.int bz4), .val (.int bz5), .val (.int bz6), .val rfa, .val rfb, .val (.ref b60), .val (.int (if bz1 = 0 ∧ bz2 = 0 then (1 : Int32) else 0)), .val (.int (if bz1 = 0 ∧ bz2 = 0 then (1 : Int32) else 0)), .val (.int (if bz1 = 0 ∧ bz2 = 0 then (1 : Int32) else 0))] [(.ref b60)])) rfl (by rw [hml]; rfl) (Steps.refl _) (argsL := []) (rest := []) (lenOf pd_6 rfl) rfl (by show 2 * 0 + _ ≤ _; exact Nat.le_of_eq rfl) (hb hby at_236) (fun _ _ => ⟨rfl, e75, (by decide : 5 + 0 ≤ _), (by decide : 18 + 0 ≤ _)⟩)
    dsimp only [Pt.U, Pt.locs, Pt.cells, Pt.slots] at X91 l91 y91 z91 st91 hQ91
    subst l91 y91 z91
    obtain ⟨hv91, N91q, r91⟩ := hQ91
    rw [own_and1 pj13_0] at hv91
    subst hv91
    have N91 := Fr.app N75 N91q
    have R92 : ∀ tg, Steps p.tables e below (T91.setTop (mkF m 239 #[.val (.int fg), .val (.int ps1), .val (.int ps2), .val (.int bz1), .val (.int bz2), .val (.int bz3), .val (.int bz4), .val (.int bz5), .val (.int bz6), .val rfa, .val rfb, .val (.ref b60), .val (.int (if bz1 = 0 ∧ bz2 = 0 then (1 : Int32) else 0)), .val (.int (if bz1 = 0 ∧ bz2 = 0 then (1 : Int32) else 0)), .val (.int (if bz1 = 0 ∧ bz2 = 0 then (1 : Int32) else 0))] [(.int bz3)])) tg → Steps p.tables e below (T75.setTop (mkF m 231 #[.val (.int fg), .val (.int ps1), .val (.int ps2), .val (.int bz1), .val (.int bz2), .val (.int bz3), .val (.int bz4), .val (.int bz5), .val (.int bz6), .val rfa, .val rfb, .val (.ref b60), .val (.int (if bz1 = 0 ∧ bz2 = 0 then (1 : Int32) else 0)), .val (.int (if bz1 = 0 ∧ bz2 = 0 then (1 : Int32) else 0)), .val (.int (if bz1 = 0 ∧ bz2 = 0 then (1 : Int32) else 0))] [(.int (if bz1 = 0 ∧ bz2 = 0 then (1 : Int32) else 0))])) tg := by
      intro tg kt
      refine XS.ifNo X75.here hx rfl (hb hby at_231) rfl ((if0 _ _).trans (feq hc231_90).1) ?_
      show Steps p.tables e below (T75.setTop (mkF m 234 #[.val (.int fg), .val (.int ps1), .val (.int ps2), .val (.int bz1), .val (.int bz2), .val (.int bz3), .val (.int bz4), .val (.int bz5), .val (.int bz6), .val rfa, .val rfb, .val (.ref b60), .val (.int (if bz1 = 0 ∧ bz2 = 0 then (1 : Int32) else 0)), .val (.int (if bz1 = 0 ∧ bz2 = 0 then (1 : Int32) else 0)), .val (.int (if bz1 = 0 ∧ bz2 = 0 then (1 : Int32) else 0))] [])) _
      refine XS.aload X75.here hx rfl (hb hby at_234) rfl rfl ?_
      show Steps p.tables e below (T75.setTop (mkF m 236 #[.val (.int fg), .val (.int ps1), .val (.int ps2), .val (.int bz1), .val (.int bz2), .val (.int bz3), .val (.int bz4), .val (.int bz5), .val (.int bz6), .val rfa, .val rfb, .val (.ref b60), .val (.int (if bz1 = 0 ∧ bz2 = 0 then (1 : Int32) else 0)), .val (.int (if bz1 = 0 ∧ bz2 = 0 then (1 : Int32) else 0)), .val (.int (if bz1 = 0 ∧ bz2 = 0 then (1 : Int32) else 0))] [(.ref b60)])) _
      refine st91.trans ?_
      show Steps p.tables e below (T91.setTop (mkF m 239 #[.val (.int fg), .val (.int ps1), .val (.int ps2), .val (.int bz1), .val (.int bz2), .val (.int bz3), .val (.int bz4), .val (.int bz5), .val (.int bz6), .val rfa, .val rfb, .val (.ref b60), .val (.int (if bz1 = 0 ∧ bz2 = 0 then (1 : Int32) else 0)), .val (.int (if bz1 = 0 ∧ bz2 = 0 then (1 : Int32) else 0)), .val (.int (if bz1 = 0 ∧ bz2 = 0 then (1 : Int32) else 0))] [(.int bz3)])) _
      exact kt
    by_cases hc239_93 : bz3 = (0 : Int32)
    · exact absurd hc239_93 (own_copy hc231_90 pj13_1)
    · obtain ⟨fs, hr, hrun, hended, hW, hsame⟩ := X91.leave (v := some (.int (1 : Int32))) (fun h => by rw [Bd.returns] at h; cases h)
      refine ⟨_, _, pre0 _ (R1 _ (R6 _ (R7 _ (R12 _ (R13 _ (R24 _ (R25 _ (R30 _ (R31 _ (R36 _ (R37 _ (R45 _ (R46 _ (R52 _ (R53 _ (R64 _ (R65 _ (R73 _ (R74 _ (R75 _ (R88 _ (R89 _ (R92 _ ?_))))))))))))))))))))))), hrun, hended, _, _, rfl, ?_, ⟨_, rfl⟩, hW, hsame.mono (by decide) (by decide)⟩
      · show Steps p.tables e below (T91.setTop (mkF m 239 #[.val (.int fg), .val (.int ps1), .val (.int ps2), .val (.int bz1), .val (.int bz2), .val (.int bz3), .val (.int bz4), .val (.int bz5), .val (.int bz6), .val rfa, .val rfb, .val (.ref b60), .val (.int (if bz1 = 0 ∧ bz2 = 0 then (1 : Int32) else 0)), .val (.int (if bz1 = 0 ∧ bz2 = 0 then (1 : Int32) else 0)), .val (.int (if bz1 = 0 ∧ bz2 = 0 then (1 : Int32) else 0))] [(.int bz3)])) _
        refine XS.ifNo X91.here hx rfl (hb hby at_239) rfl ((if0 _ _).trans (feq hc239_93).1) ?_
        show Steps p.tables e below (T91.setTop (mkF m 242 #[.val (.int fg), .val (.int ps1), .val (.int ps2), .val (.int bz1), .val (.int bz2), .val (.int bz3), .val (.int bz4), .val (.int bz5), .val (.int bz6), .val rfa, .val rfb, .val (.ref b60), .val (.int (if bz1 = 0 ∧ bz2 = 0 then (1 : Int32) else 0)), .val (.int (if bz1 = 0 ∧ bz2 = 0 then (1 : Int32) else 0)), .val (.int (if bz1 = 0 ∧ bz2 = 0 then (1 : Int32) else 0))] [])) _
        refine XS.iconst X91.here hx rfl (hb hby at_242) ?_
        show Steps p.tables e below (T91.setTop (mkF m 243 #[.val (.int fg), .val (.int ps1), .val (.int ps2), .val (.int bz1), .val (.int bz2), .val (.int bz3), .val (.int bz4), .val (.int bz5), .val (.int bz6), .val rfa, .val rfb, .val (.ref b60), .val (.int (if bz1 = 0 ∧ bz2 = 0 then (1 : Int32) else 0)), .val (.int (if bz1 = 0 ∧ bz2 = 0 then (1 : Int32) else 0)), .val (.int (if bz1 = 0 ∧ bz2 = 0 then (1 : Int32) else 0))] [(.int (1 : Int32))])) _
        refine XS.goto X91.here hx rfl (pc0 := 243) (pc' := 247) rfl (hb hby at_243) (by decide) (by decide) ?_
        show Steps p.tables e below (T91.setTop (mkF m 247 #[.val (.int fg), .val (.int ps1), .val (.int ps2), .val (.int bz1), .val (.int bz2), .val (.int bz3), .val (.int bz4), .val (.int bz5), .val (.int bz6), .val rfa, .val rfb, .val (.ref b60), .val (.int (if bz1 = 0 ∧ bz2 = 0 then (1 : Int32) else 0)), .val (.int (if bz1 = 0 ∧ bz2 = 0 then (1 : Int32) else 0)), .val (.int (if bz1 = 0 ∧ bz2 = 0 then (1 : Int32) else 0))] [(.int (1 : Int32))])) _
        exact retN X91 hx (t := .boolean) Bd.returns (by simp) (hb hby at_247) hr
      · show Q0 n0 _ T91.heap _
        rw [r91]
        exact ⟨rfl, N91⟩
set_option maxRecDepth 65536 in
set_option maxHeartbeats 40000000 in
theorem comes_1 {Post : Tables → Env → Array Value → State → Outcome → State → Prop} (hpost : ∀ tb e args s v u, (limb_1_1.after args s (.returned v) u = true ∧ limb_1_2.after args s (.returned v) u = true ∧ True) → FrameEnd s (.returned v) u (Jvm.fieldLocs frame_1_writes args s ++ Jvm.arrayLocs frame_1_arrays args s ++ Jvm.staticLocs frame_1_statics s) 24 128 → Post tb e args s (.returned v) u) :
    ArmFor flags0 classFile x code maxLocals ret World_1 tables_1 room_1 Calls_1 rest_1 Pre_1 Post := by
  intro l hfl _ _ p e ha hc hk s m args below hf hA hF happ hP
  obtain ⟨hcalls, hrest, hpre⟩ := hP
  obtain ⟨-, -, -, hnamed, -, -, -, hat⟩ := (Spec.applies_iff hf).mp happ
  obtain ⟨hg, hn⟩ := and_e (Cond.before_iff.mp (show (Jvm.Cond.and given_1 narrow_1).before args s = true from hpre))
  obtain ⟨g1a, g1b⟩ := and_e hg
  obtain ⟨g2a, g2b⟩ := and_e g1b
  obtain ⟨g3a, g3b⟩ := and_e g2b
  obtain ⟨w0, w1, w2, rfl⟩ : ∃ w0 w1 w2 : Value, args = #[w0, w1, w2] := by
    have hs : args.size = 3 := by simpa [Cond.value, given_1] using g1a
    obtain ⟨L⟩ := args
    match L, hs with
    | [w0, w1, w2], _ => exact ⟨w0, w1, w2, rfl⟩
  have hw := fun d (hd : d ∈ tables_1) => atoms_spec (ws := Jvm.Cond.code x code maxLocals ret :: tables_1) hat d (List.mem_cons_of_mem _ hd)
  have hfit : Fit s := fun {y c} hc i hi => by
    obtain ⟨ha, rfl⟩ := Array.getElem?_eq_some_iff.mp hc
    have q := List.all_eq_true.mp ((Array.all_eq_true_iff_forall_mem.mp hF) _ (Array.getElem_mem ha)) i (List.mem_range.mpr hi)
    simpa [Array.getElem?_eq_getElem hi] using q
  obtain ⟨hsets, hown0⟩ := atoms_of _ (rest_1_c_eq ▸ (show rest_1_c.before _ s = true from hrest))
  have hr0 := Cond.before_iff.mp hown0
  obtain ⟨i0, ei0⟩ := is_v g2a
  obtain rfl : w0 = (.int i0) := Option.some.inj ei0
  obtain ⟨i1, ei1⟩ := is_v g3a
  obtain rfl : w1 = (.int i1) := Option.some.inj ei1
  obtain ⟨i2, ei2⟩ := is_v g3b
  obtain rfl : w2 = (.int i2) := Option.some.inj ei2
  obtain ⟨cs, ecs⟩ := is_v (Cond.before_iff.mp (hsets _ (List.mem_of_getElem? (i := 1) rfl)))
  have hS1 := Sta.start ecs (Or.inl (hsets _ (List.mem_of_getElem? (i := 0) rfl)))
  have hcs : ¬ cs = (0 : Int32) := gotF (Cond.eq_ints ecs (Term.int_eval 0)) (not_v (Cond.before_iff.mp (hsets _ (List.mem_of_getElem? (i := 2) rfl))))
  obtain ⟨u1a, u1b⟩ := and_e hn
  obtain ⟨u2a, u2b⟩ := and_e u1b
  obtain ⟨u3a, u3b⟩ := and_e u2b
  obtain ⟨a_INSTANT, ev_INSTANT⟩ := exa_v u1a
  have S_INSTANT := Sta.start ev_INSTANT (Or.inr ⟨(hw _ (List.mem_of_getElem? (i := 60) rfl)), (hw _ (List.mem_of_getElem? (i := 61) rfl))⟩)
  have E_INSTANT := Exa.start ev_INSTANT u1a
  have F_INSTANT_ordinal := own_fld ev_INSTANT u3b
  obtain ⟨a_INPLACE, ev_INPLACE⟩ := exa_v u2a
  have S_INPLACE := Sta.start ev_INPLACE (Or.inr ⟨(hw _ (List.mem_of_getElem? (i := 60) rfl)), (hw _ (List.mem_of_getElem? (i := 69) rfl))⟩)
  have E_INPLACE := Exa.start ev_INPLACE u2a
  have F_INPLACE_ordinal := own_fld ev_INPLACE u3a
  obtain ⟨n, o, h1, h2, h3, _, L, rfl, ⟨rfl, N⟩, hq⟩ := rm0 l s _ hw tables_1 i0 i1 i2 cs a_INSTANT a_INPLACE s.heap s.heap.size (Nat.le_refl _) (Old.start s) hS1 hcs S_INSTANT E_INSTANT F_INSTANT_ordinal S_INPLACE E_INPLACE F_INPLACE_ordinal p e ha hc hk s m _ below hf ((Spec.applies_iff_loose hf).mp happ).1 ⟨rfl, State.Warmed39.refl s, rfl⟩ trivial
  refine ⟨n, _, h1, h2, h3, hpost _ _ _ _ _ _ ⟨Cond.after_iff.mpr rfl, Cond.after_iff.mpr (eq_i res_at (Term.int_eval (1)) rfl), trivial⟩ ⟨hq.1, hq.2.1, (hq.2.2.sift fun y hy => Or.inr (N y hy)).mono (by decide) (by decide)⟩⟩
theorem main_1_1 : Claimed_1_1 := comes_1 fun _ _ _ _ _ _ h hF => ⟨h.1, hF⟩
theorem main_1_2 : Claimed_1_2 := comes_1 fun _ _ _ _ _ _ h hF => ⟨h.2.1, hF⟩
end Jvm.Pilot.@@N@@
namespace Jvm.Pilot.@@N@@
open Jvm Jvm.ClassFile Sem Op Lib Jvm.Free Jvm.Stand Jvm.Pilot.@@N@@.Jvm.D
/-! MADE BY PROGRAM (witnessworld.py) out of the Statement's table words and the real class files: 20 classes; the members and pool entries that the words name. The judged class is class 1, her method 1. -/
namespace start1
open Jvm.ClassFile
def u (s : String) : CpInfo := .utf8 (stringToUtf16 s)
/-- a pool by its gaps: so many unusable entries, then the entry; so many at the end -/
def gap : Nat → List CpInfo → List CpInfo
  | 0, r => r
  | n + 1, r => .unusable :: gap n r
def poolList (es : List (Nat × CpInfo)) (last : Nat) : List CpInfo := es.foldr (fun e r => gap e.1 (e.2 :: r)) (gap last [])
def pool (es : List (Nat × CpInfo)) (last : Nat) : Array CpInfo := ⟨poolList es last⟩
def fileOf (pool : Array CpInfo) (this : Nat) (attrs : Array Attribute := #[]) (ms : Array MethodInfo := #[]) (fl : Nat := 33) (sup : Nat := 0) (ifs : Array Nat := #[]) (fds : Array FieldInfo := #[]) : ClassFile where
  minorVersion := 0
  majorVersion := 65
  constantPool := pool
  accessFlags := fl
  thisClass := this
  superClass := sup
  interfaces := ifs
  fields := fds
  methods := ms
  attributes := attrs
def plain (name : String) (sup : Option ClassId) : Class where
  name := name
  kind := .ordinary
  loader := none
  accessFlags := 33
  super := sup
  interfaces := #[]
  cf := none
  fields := #[]
  methods := #[]
  instanceTypes := #[]
  staticTypes := #[]
  resolved := #[]
  callSites := []
  init := .initialized
  statics := none
  mirror := none

def pool0 : Array CpInfo := pool [(5, u "<init>"), (0, u "()V"), (1, .class_ 10), (1, u "java/lang/Object")] 113

def k0c0 : Code := { maxStack := 0, maxLocals := 1, code := object_method_1_code, exceptionTable := #[], attributes := #[] }
def k0m0 : Method := { name := "<init>", desc := "()V", sig := { parameters := [], returnType := none }, accessFlags := 1, code := some k0c0 }
/-- java/lang/Object -/
def k0 : Class := { plain "java/lang/Object" none with
  accessFlags := 33
  interfaces := #[]
  cf := some (fileOf pool0 8 #[] #[{ accessFlags := 1, nameIndex := 5, descriptorIndex := 6, attributes := #[] }] 33 0 #[] #[])
  fields := #[]
  methods := #[k0m0]
  instanceTypes := #[]
  staticTypes := #[]
  resolved := Array.replicate 124 none
  statics := none }

def pool1 : Array CpInfo := pool [(2, .class_ 4), (1, u "java/lang/Object"), (0, u "<init>"), (0, u "()V"), (0, .methodref 8 9), (0, .class_ 10), (0, .nameAndType 11 12), (0, u "java/lang/String"), (0, u "valueOf"), (0, u "(C)Ljava/lang/String;"), (0, .class_ 14), (0, u "com/example/inplace/inplace/Behaviour"), (0, .methodref 13 16), (0, .nameAndType 5 17), (0, u "(ZZZZZZLjava/lang/String;Ljava/lang/String;)V"), (0, .methodref 13 19), (0, .nameAndType 20 21), (0, u "isCopyOnly"), (0, u "()Z"), (0, .fieldref 23 24), (0, .class_ 25), (0, .nameAndType 26 27), (0, u "com/example/inplace/inplace/Verdict$Algorithm"), (0, u "INSTANT"), (0, u "Lcom/example/inplace/inplace/Verdict$Algorithm;"), (0, .methodref 13 29), (0, .nameAndType 30 31), (0, u "allows"), (0, u "(Lcom/example/inplace/inplace/Verdict$Algorithm;)Z"), (0, .fieldref 23 33), (0, .nameAndType 34 27), (0, u "INPLACE"), (0, .methodref 13 36), (0, .nameAndType 37 21), (0, u "copy"), (0, .class_ 39), (0, u "com/example/inplace/inplace/BehaviourIsCopyOnlyPinLaw"), (2, u "law"), (0, u "(III)Z")] 7

def k1m0 : Method := { name := "<init>", desc := "()V", sig := { parameters := [], returnType := none }, accessFlags := 1, code := none }
def k1c1 : Code := { maxStack := 10, maxLocals := 15, code := code, exceptionTable := #[], attributes := #[] }
def k1m1 : Method := { name := "law", desc := "(III)Z", sig := { parameters := [.int, .int, .int], returnType := some .boolean }, accessFlags := 9, code := some k1c1 }
/-- com/example/inplace/inplace/BehaviourIsCopyOnlyPinLaw -/
def k1 : Class := { plain "com/example/inplace/inplace/BehaviourIsCopyOnlyPinLaw" (some 0) with
  accessFlags := 49
  interfaces := #[]
  cf := some (fileOf pool1 38 #[] #[{ accessFlags := 1, nameIndex := 5, descriptorIndex := 6, attributes := #[] }, { accessFlags := 9, nameIndex := 42, descriptorIndex := 43, attributes := #[] }] 49 2 #[] #[])
  fields := #[]
  methods := #[k1m0, k1m1]
  instanceTypes := #[]
  staticTypes := #[]
  resolved := Array.replicate 51 none
  statics := none }

def pool2 : Array CpInfo := pool [(1, .class_ 2), (0, u "java/io/Serializable"), (0, .class_ 4), (0, u "java/lang/Object")] 2

/-- java/io/Serializable -/
def k2 : Class := { plain "java/io/Serializable" (some 0) with
  accessFlags := 1537
  interfaces := #[]
  cf := some (fileOf pool2 1 #[] #[] 1537 3 #[] #[])
  fields := #[]
  methods := #[]
  instanceTypes := #[]
  staticTypes := #[]
  resolved := Array.replicate 7 none
  statics := none }

def pool3 : Array CpInfo := pool [(1, .class_ 2), (0, u "java/lang/Comparable"), (0, .class_ 4), (0, u "java/lang/Object")] 7

/-- java/lang/Comparable -/
def k3 : Class := { plain "java/lang/Comparable" (some 0) with
  accessFlags := 1537
  interfaces := #[]
  cf := some (fileOf pool3 1 #[] #[] 1537 3 #[] #[])
  fields := #[]
  methods := #[]
  instanceTypes := #[]
  staticTypes := #[]
  resolved := Array.replicate 12 none
  statics := none }

def pool4 : Array CpInfo := pool [(2, .class_ 4), (1, u "java/lang/CharSequence"), (42, .class_ 48), (0, u "java/lang/CharSequence$1CodePointIterator"), (10, .class_ 60), (0, u "java/lang/CharSequence$1CharIterator"), (5, .class_ 67), (0, u "java/lang/Object")] 63

/-- java/lang/CharSequence -/
def k4 : Class := { plain "java/lang/CharSequence" (some 0) with
  accessFlags := 1537
  interfaces := #[]
  cf := some (fileOf pool4 2 #[.nestMembers #[47, 59]] #[] 1537 66 #[] #[])
  fields := #[]
  methods := #[]
  instanceTypes := #[]
  staticTypes := #[]
  resolved := Array.replicate 131 none
  statics := none }

def pool5 : Array CpInfo := pool [(1, .class_ 2), (0, u "java/lang/constant/Constable"), (0, .class_ 4), (0, u "java/lang/Object")] 6

/-- java/lang/constant/Constable -/
def k5 : Class := { plain "java/lang/constant/Constable" (some 0) with
  accessFlags := 1537
  interfaces := #[]
  cf := some (fileOf pool5 1 #[] #[] 1537 3 #[] #[])
  fields := #[]
  methods := #[]
  instanceTypes := #[]
  staticTypes := #[]
  resolved := Array.replicate 11 none
  statics := none }

def pool6 : Array CpInfo := pool [(1, .class_ 2), (0, u "java/lang/constant/ConstantDesc"), (0, .class_ 4), (0, u "java/lang/Object")] 32

/-- java/lang/constant/ConstantDesc -/
def k6 : Class := { plain "java/lang/constant/ConstantDesc" (some 0) with
  accessFlags := 1537
  interfaces := #[]
  cf := some (fileOf pool6 1 #[] #[] 1537 3 #[] #[])
  fields := #[]
  methods := #[]
  instanceTypes := #[]
  staticTypes := #[]
  resolved := Array.replicate 37 none
  statics := none }

def pool7 : Array CpInfo := pool [(1, .methodref 2 3), (0, .class_ 4), (0, .nameAndType 5 6), (0, u "java/lang/Object"), (0, u "<init>"), (0, u "()V"), (2, .fieldref 10 11), (0, .class_ 12), (0, .nameAndType 13 14), (0, u "java/lang/String"), (0, u "value"), (0, u "[B"), (0, .fieldref 10 16), (0, .nameAndType 17 18), (0, u "coder"), (0, u "B"), (2, u "hash"), (0, u "I"), (2, u "hashIsZero"), (0, u "Z"), (11, .fieldref 10 39), (0, .nameAndType 40 26), (0, u "COMPACT_STRINGS"), (12, u "toBytes"), (53, .class_ 109), (1, u "java/lang/StringLatin1"), (99, .methodref 10 210), (0, .nameAndType 5 211), (0, u "([BB)V"), (157, u "(C)Z"), (205, .class_ 576), (0, u "java/lang/CharSequence"), (22, u "CASE_INSENSITIVE_ORDER"), (0, u "Ljava/util/Comparator;"), (181, u "valueOf"), (0, u "(C)Ljava/lang/String;"), (231, .methodref 107 1016), (0, .nameAndType 1017 369), (0, u "canEncode"), (0, .methodref 107 1019), (0, .nameAndType 53 1020), (0, u "(C)[B"), (80, u "serialPersistentFields"), (0, u "[Ljava/io/ObjectStreamField;"), (0, .class_ 1104), (0, u "java/lang/String$CaseInsensitiveComparator"), (1, .class_ 1107), (0, u "java/io/Serializable"), (0, .class_ 1109), (0, u "java/lang/Comparable"), (0, .class_ 1111), (0, u "java/lang/constant/Constable"), (0, .class_ 1113), (0, u "java/lang/constant/ConstantDesc"), (2, u "serialVersionUID"), (0, u "J"), (3, u "REPL"), (0, u "C"), (2, u "LATIN1"), (1, u "UTF16")] 323

def k7m0 : Method := { name := "<init>", desc := "()V", sig := { parameters := [], returnType := none }, accessFlags := 1, code := none }
def k7c1 : Code := { maxStack := 4, maxLocals := 1, code := jdk_42_method_139_code, exceptionTable := #[], attributes := #[] }
def k7m1 : Method := { name := "valueOf", desc := "(C)Ljava/lang/String;", sig := { parameters := [.char], returnType := some (.object "java/lang/String") }, accessFlags := 9, code := some k7c1 }
def k7c2 : Code := { maxStack := 2, maxLocals := 3, code := jdk_42_method_151_code, exceptionTable := #[], attributes := #[] }
def k7m2 : Method := { name := "<init>", desc := "([BB)V", sig := { parameters := [(.array .byte), .byte], returnType := none }, accessFlags := 0, code := some k7c2 }
/-- java/lang/String -/
def k7 : Class := { plain "java/lang/String" (some 0) with
  accessFlags := 49
  interfaces := #[2, 3, 4, 5, 6]
  cf := some (fileOf pool7 10 #[.nestMembers #[1103]] #[{ accessFlags := 1, nameIndex := 5, descriptorIndex := 6, attributes := #[] }, { accessFlags := 9, nameIndex := 782, descriptorIndex := 783, attributes := #[] }, { accessFlags := 0, nameIndex := 5, descriptorIndex := 211, attributes := #[] }] 49 2 #[1106, 1108, 575, 1110, 1112] #[{ accessFlags := 18, nameIndex := 13, descriptorIndex := 14, attributes := #[] }, { accessFlags := 18, nameIndex := 17, descriptorIndex := 18, attributes := #[] }, { accessFlags := 2, nameIndex := 21, descriptorIndex := 22, attributes := #[] }, { accessFlags := 2, nameIndex := 25, descriptorIndex := 26, attributes := #[] }, { accessFlags := 26, nameIndex := 1116, descriptorIndex := 1117, attributes := #[] }, { accessFlags := 24, nameIndex := 40, descriptorIndex := 26, attributes := #[] }, { accessFlags := 26, nameIndex := 1101, descriptorIndex := 1102, attributes := #[] }, { accessFlags := 26, nameIndex := 1121, descriptorIndex := 1122, attributes := #[] }, { accessFlags := 25, nameIndex := 599, descriptorIndex := 600, attributes := #[] }, { accessFlags := 24, nameIndex := 1125, descriptorIndex := 18, attributes := #[] }, { accessFlags := 24, nameIndex := 1127, descriptorIndex := 18, attributes := #[] }])
  fields := #[{ name := "value", type := (.array .byte), accessFlags := 18, slot := 0, constantValue := 0 }, { name := "coder", type := .byte, accessFlags := 18, slot := 1, constantValue := 0 }, { name := "hash", type := .int, accessFlags := 2, slot := 2, constantValue := 0 }, { name := "hashIsZero", type := .boolean, accessFlags := 2, slot := 3, constantValue := 0 }, { name := "serialVersionUID", type := .long, accessFlags := 26, slot := 0, constantValue := 0 }, { name := "COMPACT_STRINGS", type := .boolean, accessFlags := 24, slot := 1, constantValue := 0 }, { name := "serialPersistentFields", type := (.array (.object "java/io/ObjectStreamField")), accessFlags := 26, slot := 2, constantValue := 0 }, { name := "REPL", type := .char, accessFlags := 26, slot := 3, constantValue := 0 }, { name := "CASE_INSENSITIVE_ORDER", type := (.object "java/util/Comparator"), accessFlags := 25, slot := 4, constantValue := 0 }, { name := "LATIN1", type := .byte, accessFlags := 24, slot := 5, constantValue := 0 }, { name := "UTF16", type := .byte, accessFlags := 24, slot := 6, constantValue := 0 }]
  methods := #[k7m0, k7m1, k7m2]
  instanceTypes := #[(.array .byte), .byte, .int, .boolean]
  staticTypes := #[.long, .boolean, (.array (.object "java/io/ObjectStreamField")), .char, (.object "java/util/Comparator"), .byte, .byte]
  resolved := Array.replicate 1451 none
  statics := some 0 }

def pool8 : Array CpInfo := pool [(4, .class_ 6), (1, u "java/lang/Object"), (0, u "<init>"), (0, u "()V"), (5, .class_ 16), (1, u "java/lang/StringLatin1"), (73, u "canEncode"), (14, u "(C)Z"), (15, u "$assertionsDisabled"), (0, u "Z"), (98, .class_ 223), (1, u "java/lang/StringLatin1$LinesSpliterator"), (156, u "toBytes"), (1, u "(C)[B"), (7, .class_ 391), (0, u "java/lang/StringLatin1$CharsSpliterator")] 3

def k8m0 : Method := { name := "<init>", desc := "()V", sig := { parameters := [], returnType := none }, accessFlags := 0, code := none }
def k8c1 : Code := { maxStack := 2, maxLocals := 1, code := jdk_43_method_3_code, exceptionTable := #[], attributes := #[] }
def k8m1 : Method := { name := "canEncode", desc := "(C)Z", sig := { parameters := [.char], returnType := some .boolean }, accessFlags := 9, code := some k8c1 }
def k8c2 : Code := { maxStack := 4, maxLocals := 1, code := jdk_43_method_46_code, exceptionTable := #[], attributes := #[] }
def k8m2 : Method := { name := "toBytes", desc := "(C)[B", sig := { parameters := [.char], returnType := some (.array .byte) }, accessFlags := 9, code := some k8c2 }
/-- java/lang/StringLatin1 -/
def k8 : Class := { plain "java/lang/StringLatin1" (some 0) with
  accessFlags := 48
  interfaces := #[]
  cf := some (fileOf pool8 14 #[.nestMembers #[390, 221]] #[{ accessFlags := 0, nameIndex := 7, descriptorIndex := 8, attributes := #[] }, { accessFlags := 9, nameIndex := 90, descriptorIndex := 105, attributes := #[] }, { accessFlags := 9, nameIndex := 380, descriptorIndex := 382, attributes := #[] }] 48 4 #[] #[{ accessFlags := 4120, nameIndex := 121, descriptorIndex := 122, attributes := #[] }])
  fields := #[{ name := "$assertionsDisabled", type := .boolean, accessFlags := 4120, slot := 0, constantValue := 0 }]
  methods := #[k8m0, k8m1, k8m2]
  instanceTypes := #[]
  staticTypes := #[.boolean]
  resolved := Array.replicate 395 none
  statics := none }

def pool9 : Array CpInfo := pool [(1, .methodref 2 3), (0, .class_ 4), (0, .nameAndType 5 6), (0, u "java/lang/Object"), (0, u "<init>"), (0, u "()V"), (0, .class_ 8), (0, u "java/lang/Record")] 13

def k9c0 : Code := { maxStack := 1, maxLocals := 1, code := jdk_30_method_1_code, exceptionTable := #[], attributes := #[] }
def k9m0 : Method := { name := "<init>", desc := "()V", sig := { parameters := [], returnType := none }, accessFlags := 4, code := some k9c0 }
/-- java/lang/Record -/
def k9 : Class := { plain "java/lang/Record" (some 0) with
  accessFlags := 1057
  interfaces := #[]
  cf := some (fileOf pool9 7 #[] #[{ accessFlags := 4, nameIndex := 5, descriptorIndex := 6, attributes := #[] }] 1057 2 #[] #[])
  fields := #[]
  methods := #[k9m0]
  instanceTypes := #[]
  staticTypes := #[]
  resolved := Array.replicate 22 none
  statics := none }

def pool10 : Array CpInfo := pool [(1, .methodref 2 3), (0, .class_ 4), (0, .nameAndType 5 6), (0, u "java/lang/Record"), (0, u "<init>"), (0, u "()V"), (9, .fieldref 17 18), (0, .class_ 19), (0, .nameAndType 20 21), (0, u "com/example/inplace/inplace/Behaviour"), (0, u "instant"), (0, u "Z"), (0, .fieldref 17 23), (0, .nameAndType 24 21), (0, u "inPlace"), (0, .fieldref 17 26), (0, .nameAndType 27 21), (0, u "copy"), (0, .fieldref 17 29), (0, .nameAndType 30 21), (0, u "rebuildsTable"), (0, .fieldref 17 32), (0, .nameAndType 33 21), (0, u "concurrentDml"), (0, .fieldref 17 35), (0, .nameAndType 36 21), (0, u "metadataOnly"), (0, .fieldref 17 38), (0, .nameAndType 39 40), (0, u "refusal"), (0, u "Ljava/lang/String;"), (0, .fieldref 17 42), (0, .nameAndType 43 40), (0, u "instantRefusal"), (2, u "(ZZZZZZLjava/lang/String;Ljava/lang/String;)V"), (0, .fieldref 48 49), (0, .class_ 50), (0, .nameAndType 51 52), (0, u "com/example/inplace/inplace/Verdict$Algorithm"), (0, u "INSTANT"), (0, u "Lcom/example/inplace/inplace/Verdict$Algorithm;"), (0, .fieldref 48 54), (0, .nameAndType 55 52), (0, u "INPLACE"), (26, u "isCopyOnly"), (0, u "()Z"), (0, u "allows"), (0, u "(Lcom/example/inplace/inplace/Verdict$Algorithm;)Z")] 33

def k10c0 : Code := { maxStack := 3, maxLocals := 9, code := prog_4_method_1_code, exceptionTable := #[], attributes := #[] }
def k10m0 : Method := { name := "<init>", desc := "(ZZZZZZLjava/lang/String;Ljava/lang/String;)V", sig := { parameters := [.boolean, .boolean, .boolean, .boolean, .boolean, .boolean, (.object "java/lang/String"), (.object "java/lang/String")], returnType := none }, accessFlags := 0, code := some k10c0 }
def k10c1 : Code := { maxStack := 1, maxLocals := 1, code := prog_4_method_9_code, exceptionTable := #[], attributes := #[] }
def k10m1 : Method := { name := "isCopyOnly", desc := "()Z", sig := { parameters := [], returnType := some .boolean }, accessFlags := 0, code := some k10c1 }
def k10c2 : Code := { maxStack := 2, maxLocals := 3, code := prog_4_method_10_code, exceptionTable := #[], attributes := #[] }
def k10m2 : Method := { name := "allows", desc := "(Lcom/example/inplace/inplace/Verdict$Algorithm;)Z", sig := { parameters := [(.object "com/example/inplace/inplace/Verdict$Algorithm")], returnType := some .boolean }, accessFlags := 0, code := some k10c2 }
def k10c3 : Code := { maxStack := 1, maxLocals := 1, code := prog_4_method_16_code, exceptionTable := #[], attributes := #[] }
def k10m3 : Method := { name := "copy", desc := "()Z", sig := { parameters := [], returnType := some .boolean }, accessFlags := 1, code := some k10c3 }
/-- com/example/inplace/inplace/Behaviour -/
def k10 : Class := { plain "com/example/inplace/inplace/Behaviour" (some 9) with
  accessFlags := 48
  interfaces := #[]
  cf := some (fileOf pool10 17 #[] #[{ accessFlags := 0, nameIndex := 5, descriptorIndex := 46, attributes := #[] }, { accessFlags := 0, nameIndex := 82, descriptorIndex := 83, attributes := #[] }, { accessFlags := 0, nameIndex := 84, descriptorIndex := 85, attributes := #[] }, { accessFlags := 1, nameIndex := 27, descriptorIndex := 83, attributes := #[] }] 48 2 #[] #[{ accessFlags := 18, nameIndex := 20, descriptorIndex := 21, attributes := #[] }, { accessFlags := 18, nameIndex := 24, descriptorIndex := 21, attributes := #[] }, { accessFlags := 18, nameIndex := 27, descriptorIndex := 21, attributes := #[] }, { accessFlags := 18, nameIndex := 30, descriptorIndex := 21, attributes := #[] }, { accessFlags := 18, nameIndex := 33, descriptorIndex := 21, attributes := #[] }, { accessFlags := 18, nameIndex := 36, descriptorIndex := 21, attributes := #[] }, { accessFlags := 18, nameIndex := 39, descriptorIndex := 40, attributes := #[] }, { accessFlags := 18, nameIndex := 43, descriptorIndex := 40, attributes := #[] }])
  fields := #[{ name := "instant", type := .boolean, accessFlags := 18, slot := 0, constantValue := 0 }, { name := "inPlace", type := .boolean, accessFlags := 18, slot := 1, constantValue := 0 }, { name := "copy", type := .boolean, accessFlags := 18, slot := 2, constantValue := 0 }, { name := "rebuildsTable", type := .boolean, accessFlags := 18, slot := 3, constantValue := 0 }, { name := "concurrentDml", type := .boolean, accessFlags := 18, slot := 4, constantValue := 0 }, { name := "metadataOnly", type := .boolean, accessFlags := 18, slot := 5, constantValue := 0 }, { name := "refusal", type := (.object "java/lang/String"), accessFlags := 18, slot := 6, constantValue := 0 }, { name := "instantRefusal", type := (.object "java/lang/String"), accessFlags := 18, slot := 7, constantValue := 0 }]
  methods := #[k10m0, k10m1, k10m2, k10m3]
  instanceTypes := #[.boolean, .boolean, .boolean, .boolean, .boolean, .boolean, (.object "java/lang/String"), (.object "java/lang/String")]
  staticTypes := #[]
  resolved := Array.replicate 119 none
  statics := none }

def pool11 : Array CpInfo := pool [(2, .class_ 4), (1, u "java/lang/Enum"), (0, u "name"), (0, u "Ljava/lang/String;"), (2, u "ordinal"), (0, u "I"), (1, .class_ 14), (1, u "java/lang/Object"), (4, u "hash"), (86, .class_ 108), (1, u "java/lang/Enum$EnumDesc"), (2, .class_ 112), (0, u "java/lang/constant/Constable"), (0, .class_ 114), (0, u "java/lang/Comparable"), (0, .class_ 116), (0, u "java/io/Serializable")] 87

/-- java/lang/Enum -/
def k11 : Class := { plain "java/lang/Enum" (some 0) with
  accessFlags := 1057
  interfaces := #[5, 3, 2]
  cf := some (fileOf pool11 2 #[.nestMembers #[106]] #[] 1057 12 #[111, 113, 115] #[{ accessFlags := 18, nameIndex := 5, descriptorIndex := 6, attributes := #[] }, { accessFlags := 18, nameIndex := 9, descriptorIndex := 10, attributes := #[] }, { accessFlags := 2, nameIndex := 19, descriptorIndex := 10, attributes := #[] }])
  fields := #[{ name := "name", type := (.object "java/lang/String"), accessFlags := 18, slot := 0, constantValue := 0 }, { name := "ordinal", type := .int, accessFlags := 18, slot := 1, constantValue := 0 }, { name := "hash", type := .int, accessFlags := 2, slot := 2, constantValue := 0 }]
  methods := #[]
  instanceTypes := #[(.object "java/lang/String"), .int, .int]
  staticTypes := #[]
  resolved := Array.replicate 204 none
  statics := none }

def pool12 : Array CpInfo := pool [(1, .class_ 2), (0, u "com/example/inplace/inplace/Verdict$Algorithm"), (2, u "INSTANT"), (0, u "Lcom/example/inplace/inplace/Verdict$Algorithm;"), (2, u "INPLACE"), (2, u "COPY"), (2, u "REFUSED"), (2, u "UNKNOWN"), (2, u "$VALUES"), (0, u "[Lcom/example/inplace/inplace/Verdict$Algorithm;"), (6, .class_ 31), (1, u "java/lang/Enum"), (46, .class_ 79), (0, u "com/example/inplace/inplace/Verdict")] 2

/-- com/example/inplace/inplace/Verdict$Algorithm -/
def k12 : Class := { plain "com/example/inplace/inplace/Verdict$Algorithm" (some 11) with
  accessFlags := 16432
  interfaces := #[]
  cf := some (fileOf pool12 1 #[.nestHost 78] #[] 16432 29 #[] #[{ accessFlags := 16409, nameIndex := 5, descriptorIndex := 6, attributes := #[] }, { accessFlags := 16409, nameIndex := 9, descriptorIndex := 6, attributes := #[] }, { accessFlags := 16409, nameIndex := 12, descriptorIndex := 6, attributes := #[] }, { accessFlags := 16409, nameIndex := 15, descriptorIndex := 6, attributes := #[] }, { accessFlags := 16409, nameIndex := 18, descriptorIndex := 6, attributes := #[] }, { accessFlags := 4122, nameIndex := 21, descriptorIndex := 22, attributes := #[] }])
  fields := #[{ name := "INSTANT", type := (.object "com/example/inplace/inplace/Verdict$Algorithm"), accessFlags := 16409, slot := 0, constantValue := 0 }, { name := "INPLACE", type := (.object "com/example/inplace/inplace/Verdict$Algorithm"), accessFlags := 16409, slot := 1, constantValue := 0 }, { name := "COPY", type := (.object "com/example/inplace/inplace/Verdict$Algorithm"), accessFlags := 16409, slot := 2, constantValue := 0 }, { name := "REFUSED", type := (.object "com/example/inplace/inplace/Verdict$Algorithm"), accessFlags := 16409, slot := 3, constantValue := 0 }, { name := "UNKNOWN", type := (.object "com/example/inplace/inplace/Verdict$Algorithm"), accessFlags := 16409, slot := 4, constantValue := 0 }, { name := "$VALUES", type := (.array (.object "com/example/inplace/inplace/Verdict$Algorithm")), accessFlags := 4122, slot := 5, constantValue := 0 }]
  methods := #[]
  instanceTypes := #[(.object "java/lang/String"), .int, .int]
  staticTypes := #[(.object "com/example/inplace/inplace/Verdict$Algorithm"), (.object "com/example/inplace/inplace/Verdict$Algorithm"), (.object "com/example/inplace/inplace/Verdict$Algorithm"), (.object "com/example/inplace/inplace/Verdict$Algorithm"), (.object "com/example/inplace/inplace/Verdict$Algorithm"), (.array (.object "com/example/inplace/inplace/Verdict$Algorithm"))]
  resolved := Array.replicate 82 none
  statics := some 1 }

def pool13 : Array CpInfo := pool [(2, .class_ 4), (1, u "java/lang/Object"), (0, u "<init>"), (0, u "()V"), (17, .class_ 26), (1, u "jdk/internal/util/Preconditions"), (28, .class_ 56), (0, u "jdk/internal/util/Preconditions$4"), (57, .class_ 115), (0, u "jdk/internal/util/Preconditions$1"), (7, u "SIOOBE_FORMATTER"), (0, u "Ljava/util/function/BiFunction;"), (0, .class_ 126), (0, u "jdk/internal/util/Preconditions$2"), (3, u "AIOOBE_FORMATTER"), (0, .class_ 132), (0, u "jdk/internal/util/Preconditions$3"), (3, u "IOOBE_FORMATTER")] 57

def k13m0 : Method := { name := "<init>", desc := "()V", sig := { parameters := [], returnType := none }, accessFlags := 1, code := none }
/-- jdk/internal/util/Preconditions -/
def k13 : Class := { plain "jdk/internal/util/Preconditions" (some 0) with
  accessFlags := 33
  interfaces := #[]
  cf := some (fileOf pool13 24 #[.nestMembers #[55, 131, 125, 114]] #[{ accessFlags := 1, nameIndex := 5, descriptorIndex := 6, attributes := #[] }] 33 2 #[] #[{ accessFlags := 25, nameIndex := 123, descriptorIndex := 124, attributes := #[] }, { accessFlags := 25, nameIndex := 130, descriptorIndex := 124, attributes := #[] }, { accessFlags := 25, nameIndex := 136, descriptorIndex := 124, attributes := #[] }])
  fields := #[{ name := "SIOOBE_FORMATTER", type := (.object "java/util/function/BiFunction"), accessFlags := 25, slot := 0, constantValue := 0 }, { name := "AIOOBE_FORMATTER", type := (.object "java/util/function/BiFunction"), accessFlags := 25, slot := 1, constantValue := 0 }, { name := "IOOBE_FORMATTER", type := (.object "java/util/function/BiFunction"), accessFlags := 25, slot := 2, constantValue := 0 }]
  methods := #[k13m0]
  instanceTypes := #[]
  staticTypes := #[(.object "java/util/function/BiFunction"), (.object "java/util/function/BiFunction"), (.object "java/util/function/BiFunction")]
  resolved := Array.replicate 194 none
  statics := some 2 }

def pool14 : Array CpInfo := pool [(9, u "<init>"), (6, .class_ 18), (1, u "java/lang/Object"), (0, u "()V"), (1, .class_ 23), (1, u "jdk/internal/util/ArraysSupport"), (0, u "LOG2_ARRAY_LONG_INDEX_SCALE"), (0, u "I"), (2, u "U"), (0, u "Ljdk/internal/misc/Unsafe;"), (8, u "BIG_ENDIAN"), (0, u "Z"), (8, u "LOG2_BYTE_BIT_SIZE"), (4, u "LOG2_ARRAY_INT_INDEX_SCALE"), (54, u "JLA"), (0, u "Ljdk/internal/access/JavaLangAccess;"), (11, u "LOG2_ARRAY_BOOLEAN_INDEX_SCALE"), (9, u "LOG2_ARRAY_BYTE_INDEX_SCALE"), (5, u "LOG2_ARRAY_CHAR_INDEX_SCALE"), (5, u "LOG2_ARRAY_SHORT_INDEX_SCALE"), (18, u "LOG2_ARRAY_FLOAT_INDEX_SCALE"), (24, u "LOG2_ARRAY_DOUBLE_INDEX_SCALE"), (89, u "T_BOOLEAN"), (2, u "T_CHAR"), (1, u "T_FLOAT"), (1, u "T_DOUBLE"), (1, u "T_BYTE"), (1, u "T_SHORT"), (1, u "T_INT"), (1, u "T_LONG"), (1, u "SOFT_MAX_ARRAY_LENGTH")] 83

def k14m0 : Method := { name := "<init>", desc := "()V", sig := { parameters := [], returnType := none }, accessFlags := 2, code := none }
/-- jdk/internal/util/ArraysSupport -/
def k14 : Class := { plain "jdk/internal/util/ArraysSupport" (some 0) with
  accessFlags := 33
  interfaces := #[]
  cf := some (fileOf pool14 21 #[] #[{ accessFlags := 2, nameIndex := 9, descriptorIndex := 19, attributes := #[] }] 33 16 #[] #[{ accessFlags := 24, nameIndex := 28, descriptorIndex := 29, attributes := #[] }, { accessFlags := 26, nameIndex := 38, descriptorIndex := 39, attributes := #[] }, { accessFlags := 25, nameIndex := 121, descriptorIndex := 25, attributes := #[] }, { accessFlags := 25, nameIndex := 131, descriptorIndex := 25, attributes := #[] }, { accessFlags := 25, nameIndex := 137, descriptorIndex := 25, attributes := #[] }, { accessFlags := 25, nameIndex := 143, descriptorIndex := 25, attributes := #[] }, { accessFlags := 25, nameIndex := 53, descriptorIndex := 25, attributes := #[] }, { accessFlags := 25, nameIndex := 24, descriptorIndex := 25, attributes := #[] }, { accessFlags := 25, nameIndex := 162, descriptorIndex := 25, attributes := #[] }, { accessFlags := 25, nameIndex := 187, descriptorIndex := 25, attributes := #[] }, { accessFlags := 26, nameIndex := 48, descriptorIndex := 25, attributes := #[] }, { accessFlags := 25, nameIndex := 277, descriptorIndex := 25, attributes := #[] }, { accessFlags := 25, nameIndex := 280, descriptorIndex := 25, attributes := #[] }, { accessFlags := 25, nameIndex := 282, descriptorIndex := 25, attributes := #[] }, { accessFlags := 25, nameIndex := 284, descriptorIndex := 25, attributes := #[] }, { accessFlags := 25, nameIndex := 286, descriptorIndex := 25, attributes := #[] }, { accessFlags := 25, nameIndex := 288, descriptorIndex := 25, attributes := #[] }, { accessFlags := 25, nameIndex := 290, descriptorIndex := 25, attributes := #[] }, { accessFlags := 25, nameIndex := 292, descriptorIndex := 25, attributes := #[] }, { accessFlags := 26, nameIndex := 108, descriptorIndex := 109, attributes := #[] }, { accessFlags := 25, nameIndex := 294, descriptorIndex := 25, attributes := #[] }])
  fields := #[{ name := "U", type := (.object "jdk/internal/misc/Unsafe"), accessFlags := 24, slot := 0, constantValue := 0 }, { name := "BIG_ENDIAN", type := .boolean, accessFlags := 26, slot := 1, constantValue := 0 }, { name := "LOG2_ARRAY_BOOLEAN_INDEX_SCALE", type := .int, accessFlags := 25, slot := 2, constantValue := 0 }, { name := "LOG2_ARRAY_BYTE_INDEX_SCALE", type := .int, accessFlags := 25, slot := 3, constantValue := 0 }, { name := "LOG2_ARRAY_CHAR_INDEX_SCALE", type := .int, accessFlags := 25, slot := 4, constantValue := 0 }, { name := "LOG2_ARRAY_SHORT_INDEX_SCALE", type := .int, accessFlags := 25, slot := 5, constantValue := 0 }, { name := "LOG2_ARRAY_INT_INDEX_SCALE", type := .int, accessFlags := 25, slot := 6, constantValue := 0 }, { name := "LOG2_ARRAY_LONG_INDEX_SCALE", type := .int, accessFlags := 25, slot := 7, constantValue := 0 }, { name := "LOG2_ARRAY_FLOAT_INDEX_SCALE", type := .int, accessFlags := 25, slot := 8, constantValue := 0 }, { name := "LOG2_ARRAY_DOUBLE_INDEX_SCALE", type := .int, accessFlags := 25, slot := 9, constantValue := 0 }, { name := "LOG2_BYTE_BIT_SIZE", type := .int, accessFlags := 26, slot := 10, constantValue := 0 }, { name := "T_BOOLEAN", type := .int, accessFlags := 25, slot := 11, constantValue := 0 }, { name := "T_CHAR", type := .int, accessFlags := 25, slot := 12, constantValue := 0 }, { name := "T_FLOAT", type := .int, accessFlags := 25, slot := 13, constantValue := 0 }, { name := "T_DOUBLE", type := .int, accessFlags := 25, slot := 14, constantValue := 0 }, { name := "T_BYTE", type := .int, accessFlags := 25, slot := 15, constantValue := 0 }, { name := "T_SHORT", type := .int, accessFlags := 25, slot := 16, constantValue := 0 }, { name := "T_INT", type := .int, accessFlags := 25, slot := 17, constantValue := 0 }, { name := "T_LONG", type := .int, accessFlags := 25, slot := 18, constantValue := 0 }, { name := "JLA", type := (.object "jdk/internal/access/JavaLangAccess"), accessFlags := 26, slot := 19, constantValue := 0 }, { name := "SOFT_MAX_ARRAY_LENGTH", type := .int, accessFlags := 25, slot := 20, constantValue := 0 }]
  methods := #[k14m0]
  instanceTypes := #[]
  staticTypes := #[(.object "jdk/internal/misc/Unsafe"), .boolean, .int, .int, .int, .int, .int, .int, .int, .int, .int, .int, .int, .int, .int, .int, .int, .int, .int, (.object "jdk/internal/access/JavaLangAccess"), .int]
  resolved := Array.replicate 378 none
  statics := none }

def pool15 : Array CpInfo := pool [(1, u "java/lang/Cloneable"), (0, .class_ 1), (0, u "java/lang/Object"), (0, .class_ 3)] 3

/-- java/lang/Cloneable -/
def k15 : Class := { plain "java/lang/Cloneable" (some 0) with
  accessFlags := 1537
  interfaces := #[]
  cf := some (fileOf pool15 2 #[] #[] 1537 4 #[] #[])
  fields := #[]
  methods := #[]
  instanceTypes := #[]
  staticTypes := #[]
  resolved := Array.replicate 8 none
  statics := none }

/-- the primitive byte -/
def k16 : Class := { plain "byte" none with kind := .primitive 'B', accessFlags := 0x411 }
/-- [B -/
def k17 : Class := { plain "[B" (some 0) with kind := .array 16 .byte, interfaces := #[15, 2], accessFlags := 1041 }

/-- the primitive int -/
def k18 : Class := { plain "int" none with kind := .primitive 'I', accessFlags := 0x411 }
/-- [I -/
def k19 : Class := { plain "[I" (some 0) with kind := .array 18 .int, interfaces := #[15, 2], accessFlags := 1041 }

def heap : Heap := #[{ cls := 7, slots := #[.long 0, .int 1, .null, .int 0, .null, .int 0, .int 0], vm := .statics 7 },
  { cls := 12, slots := #[.ref 3, .ref 4, .null, .null, .null, .null], vm := .statics 12 },
  { cls := 13, slots := #[.null, .null, .null], vm := .statics 13 },
  { cls := 12, slots := #[.null, .int 0, .int 0], vm := .none },
  { cls := 12, slots := #[.null, .int 1, .int 0], vm := .none }]
def classes : Array Class := #[k0, k1, k2, k3, k4, k5, k6, k7, k8, k9, k10, k11, k12, k13, k14, k15, k16, k17, k18, k19]
def interned : List (Array UInt16 × Addr) := []
def slotsUsed : Nat := 22
def theMethod : MethodId := ⟨1, 1⟩
def args0 : Array Value := #[.int 5, .int 65, .int 66]
def aboutOver (below : List Frame) : State where
  vm := { classes := classes, interned := interned.toArray }
  heap := heap
  slotsUsed := slotsUsed
  threads := #[{ frames := .invoking theMethod args0 :: below }]
def below0 : List Frame := [.native { method := ⟨0, 0⟩, args := #[] }]
def about1 : State := aboutOver below0
def p0 : Program := .bare "" "" ""
def e0 : Env := launch0.env 0 0 0
theorem w_frames : about1.frames = Frame.invoking theMethod args0 :: below0 := rfl
set_option maxRecDepth 65536 in
theorem w_args : argsFit about1.vm theMethod args0 = true := by decide +kernel
set_option maxRecDepth 65536 in
theorem w_heap : heapFits about1 = true := by decide +kernel
set_option maxRecDepth 65536 in
theorem w_runnable : about1.curStatus? = some .runnable := by decide +kernel
set_option maxRecDepth 65536 in
theorem w_alone : about1.alone = true := by decide +kernel
set_option maxRecDepth 65536 in
theorem w_named : about1.methodNamed? x = some theMethod := by decide +kernel
set_option maxRecDepth 65536 in
theorem w_hears : about1.hears theMethod below0 = true := by decide +kernel
set_option maxRecDepth 65536 in
theorem w_ripe : about1.ripe theMethod args0 below0 = true := by decide +kernel
theorem w_running : about1.status = .running := rfl
set_option maxRecDepth 65536 in
theorem w_room : about1.hasRoom e0.platform room_1 = true :=
  launch0.hasRoom_least _ room_1 (by decide +kernel) (by decide +kernel) (by decide +kernel) (by decide +kernel) (by decide +kernel) (by decide +kernel)
theorem allAtoms_all (ts : List Jvm.Cond) (a : Array Jvm.Value) (st : Jvm.State) : (allAtoms ts).before a st = ts.all (fun c => c.before a st) := by
  induction ts with
  | nil => rfl
  | cons c t ih =>
    show (Jvm.Cond.and c (allAtoms t)).before a st = _
    rw [Jvm.Cond.before_and, ih, List.all_cons]
def words1 : List Jvm.Cond := Jvm.Cond.code x code maxLocals ret :: tables_1
/-- a 'code' word, met by the world's own term for the bytes: nothing is compared byte by byte -/
theorem code_word {y : MethodName} {bytes : ByteArray} {mx : Nat} {rt : Option FieldType} {a : Array Value} {s : State} {m : MethodId} {meth : Method} {c : Code} (h1 : s.methodNamed? y = some m) (h2 : s.vm.method? m = some meth) (h3 : meth.code = some c) (h4 : c.code = bytes)
    (h5 : (c.maxLocals == mx && c.exceptionTable.isEmpty && decide (c.maxStack ≤ mostOperands) && decide (meth.sig.returnType = rt) && !meth.locks && decide (parseMethodDescriptor y.desc = some meth.sig)) = true) : (Jvm.Cond.code y bytes mx rt).before a s = true := by
  simp only [Bool.and_eq_true, beq_iff_eq, Bool.not_eq_true', decide_eq_true_eq] at h5
  obtain ⟨⟨⟨⟨⟨g1, g2⟩, g3⟩, g4⟩, g5⟩, g6⟩ := h5
  simp [Cond.before, Cond.holds, Cond.value, h1, h2, h3, h4, g1, g2, g3, g4, g5, g6]
def isCode : Jvm.Cond → Bool
  | .code _ _ _ _ => true
  | _ => false
theorem all_split {L : List Jvm.Cond} {P : Jvm.Cond → Bool} (h1 : L.all (fun c => isCode c || P c) = true) (h2 : ∀ c ∈ L.filter isCode, P c = true) : L.all P = true := by
  refine List.all_eq_true.mpr fun c hc => ?_
  have h := List.all_eq_true.mp h1 c hc
  rcases Bool.eq_false_or_eq_true (isCode c) with hi | hi
  · exact h2 c (List.mem_filter.mpr ⟨hc, hi⟩)
  · simpa [hi] using h
set_option maxRecDepth 65536 in
theorem w_c0 : (Jvm.Cond.code x code maxLocals ret).before args0 about1 = true := code_word (m := ⟨1, 1⟩) (meth := k1m1) (c := k1c1) (by decide +kernel) rfl rfl rfl (by decide +kernel)
set_option maxRecDepth 65536 in
theorem w_c1 : (Jvm.Cond.code ({ cls := "java/lang/String", name := "valueOf", desc := "(C)Ljava/lang/String;" } : Jvm.MethodName) jdk_42_method_139_code (1 : Nat) (Option.some (Jvm.ClassFile.FieldType.object "java/lang/String"))).before args0 about1 = true := code_word (m := ⟨7, 1⟩) (meth := k7m1) (c := k7c1) (by decide +kernel) rfl rfl rfl (by decide +kernel)
set_option maxRecDepth 65536 in
theorem w_c2 : (Jvm.Cond.code ({ cls := "java/lang/StringLatin1", name := "canEncode", desc := "(C)Z" } : Jvm.MethodName) jdk_43_method_3_code (1 : Nat) (Option.some Jvm.ClassFile.FieldType.boolean)).before args0 about1 = true := code_word (m := ⟨8, 1⟩) (meth := k8m1) (c := k8c1) (by decide +kernel) rfl rfl rfl (by decide +kernel)
set_option maxRecDepth 65536 in
theorem w_c3 : (Jvm.Cond.code ({ cls := "java/lang/StringLatin1", name := "toBytes", desc := "(C)[B" } : Jvm.MethodName) jdk_43_method_46_code (1 : Nat) (Option.some (Jvm.ClassFile.FieldType.array Jvm.ClassFile.FieldType.byte))).before args0 about1 = true := code_word (m := ⟨8, 2⟩) (meth := k8m2) (c := k8c2) (by decide +kernel) rfl rfl rfl (by decide +kernel)
set_option maxRecDepth 65536 in
theorem w_c4 : (Jvm.Cond.code ({ cls := "java/lang/String", name := "<init>", desc := "([BB)V" } : Jvm.MethodName) jdk_42_method_151_code (3 : Nat) (Option.none : Option Jvm.ClassFile.FieldType)).before args0 about1 = true := code_word (m := ⟨7, 2⟩) (meth := k7m2) (c := k7c2) (by decide +kernel) rfl rfl rfl (by decide +kernel)
set_option maxRecDepth 65536 in
theorem w_c5 : (Jvm.Cond.code ({ cls := "java/lang/Object", name := "<init>", desc := "()V" } : Jvm.MethodName) object_method_1_code (1 : Nat) (Option.none : Option Jvm.ClassFile.FieldType)).before args0 about1 = true := code_word (m := ⟨0, 0⟩) (meth := k0m0) (c := k0c0) (by decide +kernel) rfl rfl rfl (by decide +kernel)
set_option maxRecDepth 65536 in
theorem w_c6 : (Jvm.Cond.code ({ cls := "com/example/inplace/inplace/Behaviour", name := "<init>", desc := "(ZZZZZZLjava/lang/String;Ljava/lang/String;)V" } : Jvm.MethodName) prog_4_method_1_code (9 : Nat) (Option.none : Option Jvm.ClassFile.FieldType)).before args0 about1 = true := code_word (m := ⟨10, 0⟩) (meth := k10m0) (c := k10c0) (by decide +kernel) rfl rfl rfl (by decide +kernel)
set_option maxRecDepth 65536 in
theorem w_c7 : (Jvm.Cond.code ({ cls := "java/lang/Record", name := "<init>", desc := "()V" } : Jvm.MethodName) jdk_30_method_1_code (1 : Nat) (Option.none : Option Jvm.ClassFile.FieldType)).before args0 about1 = true := code_word (m := ⟨9, 0⟩) (meth := k9m0) (c := k9c0) (by decide +kernel) rfl rfl rfl (by decide +kernel)
set_option maxRecDepth 65536 in
theorem w_c8 : (Jvm.Cond.code ({ cls := "com/example/inplace/inplace/Behaviour", name := "isCopyOnly", desc := "()Z" } : Jvm.MethodName) prog_4_method_9_code (1 : Nat) (Option.some Jvm.ClassFile.FieldType.boolean)).before args0 about1 = true := code_word (m := ⟨10, 1⟩) (meth := k10m1) (c := k10c1) (by decide +kernel) rfl rfl rfl (by decide +kernel)
set_option maxRecDepth 65536 in
theorem w_c9 : (Jvm.Cond.code ({ cls := "com/example/inplace/inplace/Behaviour", name := "allows", desc := "(Lcom/example/inplace/inplace/Verdict$Algorithm;)Z" } : Jvm.MethodName) prog_4_method_10_code (3 : Nat) (Option.some Jvm.ClassFile.FieldType.boolean)).before args0 about1 = true := code_word (m := ⟨10, 2⟩) (meth := k10m2) (c := k10c2) (by decide +kernel) rfl rfl rfl (by decide +kernel)
set_option maxRecDepth 65536 in
theorem w_c10 : (Jvm.Cond.code ({ cls := "com/example/inplace/inplace/Behaviour", name := "copy", desc := "()Z" } : Jvm.MethodName) prog_4_method_16_code (1 : Nat) (Option.some Jvm.ClassFile.FieldType.boolean)).before args0 about1 = true := code_word (m := ⟨10, 3⟩) (meth := k10m3) (c := k10c3) (by decide +kernel) rfl rfl rfl (by decide +kernel)
def codes1 : List Jvm.Cond := [Jvm.Cond.code x code maxLocals ret, Jvm.Cond.code ({ cls := "java/lang/String", name := "valueOf", desc := "(C)Ljava/lang/String;" } : Jvm.MethodName) jdk_42_method_139_code (1 : Nat) (Option.some (Jvm.ClassFile.FieldType.object "java/lang/String")), Jvm.Cond.code ({ cls := "java/lang/StringLatin1", name := "canEncode", desc := "(C)Z" } : Jvm.MethodName) jdk_43_method_3_code (1 : Nat) (Option.some Jvm.ClassFile.FieldType.boolean), Jvm.Cond.code ({ cls := "java/lang/StringLatin1", name := "toBytes", desc := "(C)[B" } : Jvm.MethodName) jdk_43_method_46_code (1 : Nat) (Option.some (Jvm.ClassFile.FieldType.array Jvm.ClassFile.FieldType.byte)), Jvm.Cond.code ({ cls := "java/lang/String", name := "<init>", desc := "([BB)V" } : Jvm.MethodName) jdk_42_method_151_code (3 : Nat) (Option.none : Option Jvm.ClassFile.FieldType), Jvm.Cond.code ({ cls := "java/lang/Object", name := "<init>", desc := "()V" } : Jvm.MethodName) object_method_1_code (1 : Nat) (Option.none : Option Jvm.ClassFile.FieldType), Jvm.Cond.code ({ cls := "com/example/inplace/inplace/Behaviour", name := "<init>", desc := "(ZZZZZZLjava/lang/String;Ljava/lang/String;)V" } : Jvm.MethodName) prog_4_method_1_code (9 : Nat) (Option.none : Option Jvm.ClassFile.FieldType), Jvm.Cond.code ({ cls := "java/lang/Record", name := "<init>", desc := "()V" } : Jvm.MethodName) jdk_30_method_1_code (1 : Nat) (Option.none : Option Jvm.ClassFile.FieldType), Jvm.Cond.code ({ cls := "com/example/inplace/inplace/Behaviour", name := "isCopyOnly", desc := "()Z" } : Jvm.MethodName) prog_4_method_9_code (1 : Nat) (Option.some Jvm.ClassFile.FieldType.boolean), Jvm.Cond.code ({ cls := "com/example/inplace/inplace/Behaviour", name := "allows", desc := "(Lcom/example/inplace/inplace/Verdict$Algorithm;)Z" } : Jvm.MethodName) prog_4_method_10_code (3 : Nat) (Option.some Jvm.ClassFile.FieldType.boolean), Jvm.Cond.code ({ cls := "com/example/inplace/inplace/Behaviour", name := "copy", desc := "()Z" } : Jvm.MethodName) prog_4_method_16_code (1 : Nat) (Option.some Jvm.ClassFile.FieldType.boolean)]
set_option maxRecDepth 65536 in
theorem codes_eq : words1.filter isCode = codes1 := rfl
theorem w_codes : ∀ c ∈ words1.filter isCode, c.before args0 about1 = true := by
  rw [codes_eq]
  intro c hc
  simp only [codes1, List.mem_cons, List.not_mem_nil, or_false] at hc
  rcases hc with rfl | rfl | rfl | rfl | rfl | rfl | rfl | rfl | rfl | rfl | rfl
  · exact w_c0
  · exact w_c1
  · exact w_c2
  · exact w_c3
  · exact w_c4
  · exact w_c5
  · exact w_c6
  · exact w_c7
  · exact w_c8
  · exact w_c9
  · exact w_c10
set_option maxRecDepth 65536 in
theorem w_t1 : (words1.take 24).all (fun c => isCode c || c.before args0 about1) = true := by decide +kernel
set_option maxRecDepth 65536 in
theorem w_t2 : ((words1.drop 24).take 24).all (fun c => isCode c || c.before args0 about1) = true := by decide +kernel
set_option maxRecDepth 65536 in
theorem w_t3 : (((words1.drop 24).drop 24).take 24).all (fun c => isCode c || c.before args0 about1) = true := by decide +kernel
set_option maxRecDepth 65536 in
theorem w_t4 : (((words1.drop 24).drop 24).drop 24).all (fun c => isCode c || c.before args0 about1) = true := by decide +kernel
theorem w_tables : (allAtoms (Jvm.Cond.code x code maxLocals ret :: tables_1)).before args0 about1 = true := by
  rw [allAtoms_all]
  show words1.all (fun c => c.before args0 about1) = true
  refine all_split ?_ w_codes
  rw [← List.take_append_drop 24 words1, List.all_append, w_t1, ← List.take_append_drop 24 (words1.drop 24), List.all_append, w_t2, ← List.take_append_drop 24 ((words1.drop 24).drop 24), List.all_append, w_t3, w_t4]
  rfl
set_option maxRecDepth 65536 in
theorem w_rest : rest_1_c.before args0 about1 = true := by decide +kernel
set_option maxRecDepth 65536 in
theorem w_case : (Jvm.Cond.and given_1 narrow_1).before args0 about1 = true := by decide +kernel
theorem w_applies : (headSpec (Jvm.Cond.code x code maxLocals ret :: tables_1) room_1).applies x e0.platform about1 = true :=
  (Spec.applies_iff w_frames).mpr ⟨w_running, w_runnable, w_alone, w_named, w_hears, w_ripe, w_room, w_tables⟩
theorem atStart : AtStart classFile x code maxLocals ret World_1 tables_1 room_1 Calls_1 rest_1 Pre_1 launch0 p0 e0 about1 theMethod args0 below0 :=
  ⟨lists_1, trivial, launch0.admits_env _ _ _, launch0.least_env, fairChoices_fair.cas, fairChoices_fair.clock, w_frames, w_args, w_heap, w_applies, trivial, w_rest, w_case⟩
end start1
theorem witness_1 : WitnessClaimed_1 := ⟨start1.p0, start1.e0, start1.about1, start1.theMethod, start1.args0, start1.below0, start1.atStart⟩
end Jvm.Pilot.@@N@@
