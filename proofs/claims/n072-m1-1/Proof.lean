import JvmDerived
import JvmDerived.Pilot.@@N@@Statement
import JvmDerived.Pilot.@@N@@Code
set_option linter.unusedVariables false
set_option linter.unusedSimpArgs false
namespace Jvm.RoadKit
open Sem ClassFile Op Lib Jvm.Stand Jvm.Free Jvm.LawKit
section New
variable {p : Program} {l : Launch} {e : Env} {R : Room} {s : State} {m : MethodId} {args : Array Value} {below : List Frame} {meth : Method} {c : Code} {T : State} {locs : List Loc} {cells slots : Nat}
theorem retI (X : Stand p l e R s m args below meth c T locs cells slots) (hx : p.tables.exec = Jvm.exec) {pc : Nat} {Ls : Array Slot} {z : Int32} {rest : List Value} (hret : meth.sig.returnType = some .int) (hd : decode c.code pc = .ok (.ireturn, 1)) {fs : List Frame}
    (hl : ∀ (f : JFrame) (acts : List Action), f.method = m → f.locked = none → f.entered = [] → (doReturn e (T.setTop f) acts (some (.int z))).1 = T.setFrames fs) : Steps p.tables e below (T.setTop (mkF m pc Ls (.int z :: rest))) (T.setFrames fs) := by
  have hm' : T.vm.method? m = some meth := X.method'
  have hn : narrow .int (.int z) = .int z := rfl
  show Steps p.tables e below (T.setTop { method := m, pc := pc, locals := Ls, stack := _ :: rest, locked := none }) _
  jvm_step X.here [X.here.top, hx, hd, hm', hret, hn]
  first | (intro acts; rw [hl _ acts rfl rfl rfl]) | rw [hl _ _ rfl rfl rfl]
  exact Steps.refl _
end New
end Jvm.RoadKit
namespace Jvm.Pilot.@@N@@
open Jvm Jvm.ClassFile Sem Op Lib Jvm.Free Jvm.Stand Jvm.LawKit Jvm.RoadKit Bundle Jvm.Pilot.@@N@@.Jvm.D
/-- what a body that writes nothing leaves: the value, and the heap as it was -/
def QV (r : Option Value) (h0 : Heap) (n0 : Nat) (v : Option Value) (h : Heap) (L : List Loc) : Prop := v = r ∧ Fr n0 L ∧ h = h0
theorem own_fld_one {Z : State} {h : Heap} {a : Addr} {C n d : String} {v w : Value} (F : Fld Z h a C n d v) (G : Fld Z h a C n d w) : v = w := by
  obtain ⟨c1, f1, k1, i1, g1, a1, a2, -, -, -, -, a7⟩ := F
  obtain ⟨c2, f2, k2, i2, g2, b1, b2, -, -, -, -, b7⟩ := G
  cases a1.symm.trans b1
  cases a2.symm.trans b2
  exact Option.some.inj (a7.symm.trans b7)
theorem own_ne_fld {Z : State} {h : Heap} {a b : Addr} {C n d : String} {x y : Int32} (F : Fld Z h a C n d (.int x)) (G : Fld Z h b C n d (.int y)) (hn : x ≠ y) : ¬ a = b := fun e => by
  subst e
  exact hn (Value.int.inj (own_fld_one F G))
theorem own_fld {args : Array Value} {s : State} {t : Term} {C n d : String} {k : Int32} {a : Addr} (ht : t.eval args s none [] s = some (.ref a)) (h : (Jvm.Cond.eq (Jvm.Term.field t C n d) (Jvm.Term.int k)).value args s none s [] = some true) : Fld s s.heap a C n d (.int k) := by
  refine Fld.start ((fld_at (idx := []) (first := s) (o := none) ht).symm.trans ?_)
  obtain ⟨x, y, e1, e2, k1, k2⟩ := cmp_v (Or.inl h)
  cases e2
  obtain ⟨z, rfl⟩ := k2
  have e3 : (Jvm.Term.int k).eval args s none [] s = some (.int k) := rfl
  have q : z = k := by simpa [Jvm.Cond.value, e1, e3] using h
  rw [e1, q]
def Q0 (n0 : Nat) (v : Option Value) (h : Heap) (L : List Loc) : Prop := v = some (.int (1 : Int32)) ∧ Fr n0 L
theorem own_k (x : Int32) : ((x &&& (2147483647 : Int32)) % (18 : Int32)) = (0 : Int32) ∨ ((x &&& (2147483647 : Int32)) % (18 : Int32)) = (1 : Int32) ∨ ((x &&& (2147483647 : Int32)) % (18 : Int32)) = (2 : Int32) ∨ ((x &&& (2147483647 : Int32)) % (18 : Int32)) = (3 : Int32) ∨ ((x &&& (2147483647 : Int32)) % (18 : Int32)) = (4 : Int32) ∨ ((x &&& (2147483647 : Int32)) % (18 : Int32)) = (5 : Int32) ∨ ((x &&& (2147483647 : Int32)) % (18 : Int32)) = (6 : Int32) ∨ ((x &&& (2147483647 : Int32)) % (18 : Int32)) = (7 : Int32) ∨ ((x &&& (2147483647 : Int32)) % (18 : Int32)) = (8 : Int32) ∨ ((x &&& (2147483647 : Int32)) % (18 : Int32)) = (9 : Int32) ∨ ((x &&& (2147483647 : Int32)) % (18 : Int32)) = (10 : Int32) ∨ ((x &&& (2147483647 : Int32)) % (18 : Int32)) = (11 : Int32) ∨ ((x &&& (2147483647 : Int32)) % (18 : Int32)) = (12 : Int32) ∨ ((x &&& (2147483647 : Int32)) % (18 : Int32)) = (13 : Int32) ∨ ((x &&& (2147483647 : Int32)) % (18 : Int32)) = (14 : Int32) ∨ ((x &&& (2147483647 : Int32)) % (18 : Int32)) = (15 : Int32) ∨ ((x &&& (2147483647 : Int32)) % (18 : Int32)) = (16 : Int32) ∨ ((x &&& (2147483647 : Int32)) % (18 : Int32)) = (17 : Int32) := by
  have h1 := c_and x 2147483647 (by decide)
  have h2 := (c_irem (x &&& (2147483647 : Int32)) 18 18 (by decide)).1 h1.1
  have h3 : ((x &&& (2147483647 : Int32)) % (18 : Int32)).toInt = 0 ∨ ((x &&& (2147483647 : Int32)) % (18 : Int32)).toInt = 1 ∨ ((x &&& (2147483647 : Int32)) % (18 : Int32)).toInt = 2 ∨ ((x &&& (2147483647 : Int32)) % (18 : Int32)).toInt = 3 ∨ ((x &&& (2147483647 : Int32)) % (18 : Int32)).toInt = 4 ∨ ((x &&& (2147483647 : Int32)) % (18 : Int32)).toInt = 5 ∨ ((x &&& (2147483647 : Int32)) % (18 : Int32)).toInt = 6 ∨ ((x &&& (2147483647 : Int32)) % (18 : Int32)).toInt = 7 ∨ ((x &&& (2147483647 : Int32)) % (18 : Int32)).toInt = 8 ∨ ((x &&& (2147483647 : Int32)) % (18 : Int32)).toInt = 9 ∨ ((x &&& (2147483647 : Int32)) % (18 : Int32)).toInt = 10 ∨ ((x &&& (2147483647 : Int32)) % (18 : Int32)).toInt = 11 ∨ ((x &&& (2147483647 : Int32)) % (18 : Int32)).toInt = 12 ∨ ((x &&& (2147483647 : Int32)) % (18 : Int32)).toInt = 13 ∨ ((x &&& (2147483647 : Int32)) % (18 : Int32)).toInt = 14 ∨ ((x &&& (2147483647 : Int32)) % (18 : Int32)).toInt = 15 ∨ ((x &&& (2147483647 : Int32)) % (18 : Int32)).toInt = 16 ∨ ((x &&& (2147483647 : Int32)) % (18 : Int32)).toInt = 17 := by omega
  rcases h3 with h | h | h | h | h | h | h | h | h | h | h | h | h | h | h | h | h | h
  · exact Or.inl (Int32.toInt_inj.mp (h.trans (by decide)))
  · exact Or.inr (Or.inl (Int32.toInt_inj.mp (h.trans (by decide))))
  · exact Or.inr (Or.inr (Or.inl (Int32.toInt_inj.mp (h.trans (by decide)))))
  · exact Or.inr (Or.inr (Or.inr (Or.inl (Int32.toInt_inj.mp (h.trans (by decide))))))
  · exact Or.inr (Or.inr (Or.inr (Or.inr (Or.inl (Int32.toInt_inj.mp (h.trans (by decide)))))))
  · exact Or.inr (Or.inr (Or.inr (Or.inr (Or.inr (Or.inl (Int32.toInt_inj.mp (h.trans (by decide))))))))
  · exact Or.inr (Or.inr (Or.inr (Or.inr (Or.inr (Or.inr (Or.inl (Int32.toInt_inj.mp (h.trans (by decide)))))))))
  · exact Or.inr (Or.inr (Or.inr (Or.inr (Or.inr (Or.inr (Or.inr (Or.inl (Int32.toInt_inj.mp (h.trans (by decide))))))))))
  · exact Or.inr (Or.inr (Or.inr (Or.inr (Or.inr (Or.inr (Or.inr (Or.inr (Or.inl (Int32.toInt_inj.mp (h.trans (by decide)))))))))))
  · exact Or.inr (Or.inr (Or.inr (Or.inr (Or.inr (Or.inr (Or.inr (Or.inr (Or.inr (Or.inl (Int32.toInt_inj.mp (h.trans (by decide))))))))))))
  · exact Or.inr (Or.inr (Or.inr (Or.inr (Or.inr (Or.inr (Or.inr (Or.inr (Or.inr (Or.inr (Or.inl (Int32.toInt_inj.mp (h.trans (by decide)))))))))))))
  · exact Or.inr (Or.inr (Or.inr (Or.inr (Or.inr (Or.inr (Or.inr (Or.inr (Or.inr (Or.inr (Or.inr (Or.inl (Int32.toInt_inj.mp (h.trans (by decide))))))))))))))
  · exact Or.inr (Or.inr (Or.inr (Or.inr (Or.inr (Or.inr (Or.inr (Or.inr (Or.inr (Or.inr (Or.inr (Or.inr (Or.inl (Int32.toInt_inj.mp (h.trans (by decide)))))))))))))))
  · exact Or.inr (Or.inr (Or.inr (Or.inr (Or.inr (Or.inr (Or.inr (Or.inr (Or.inr (Or.inr (Or.inr (Or.inr (Or.inr (Or.inl (Int32.toInt_inj.mp (h.trans (by decide))))))))))))))))
  · exact Or.inr (Or.inr (Or.inr (Or.inr (Or.inr (Or.inr (Or.inr (Or.inr (Or.inr (Or.inr (Or.inr (Or.inr (Or.inr (Or.inr (Or.inl (Int32.toInt_inj.mp (h.trans (by decide)))))))))))))))))
  · exact Or.inr (Or.inr (Or.inr (Or.inr (Or.inr (Or.inr (Or.inr (Or.inr (Or.inr (Or.inr (Or.inr (Or.inr (Or.inr (Or.inr (Or.inr (Or.inl (Int32.toInt_inj.mp (h.trans (by decide))))))))))))))))))
  · exact Or.inr (Or.inr (Or.inr (Or.inr (Or.inr (Or.inr (Or.inr (Or.inr (Or.inr (Or.inr (Or.inr (Or.inr (Or.inr (Or.inr (Or.inr (Or.inr (Or.inl (Int32.toInt_inj.mp (h.trans (by decide)))))))))))))))))))
  · exact Or.inr (Or.inr (Or.inr (Or.inr (Or.inr (Or.inr (Or.inr (Or.inr (Or.inr (Or.inr (Or.inr (Or.inr (Or.inr (Or.inr (Or.inr (Or.inr (Or.inr (Int32.toInt_inj.mp (h.trans (by decide)))))))))))))))))))
theorem d_prog_38_m_7_0 : decode prog_38_method_7_code 0 = .ok (.aload_n 0, 1) := by decide +kernel
theorem d_prog_38_m_7_1 : decode prog_38_method_7_code 1 = .ok (.getstatic 3, 3) := by decide +kernel
theorem d_prog_38_m_7_4 : decode prog_38_method_7_code 4 = .ok (.if_acmp .eq 31, 3) := by decide +kernel
theorem d_prog_38_m_7_7 : decode prog_38_method_7_code 7 = .ok (.aload_n 0, 1) := by decide +kernel
theorem d_prog_38_m_7_8 : decode prog_38_method_7_code 8 = .ok (.getstatic 7, 3) := by decide +kernel
theorem d_prog_38_m_7_11 : decode prog_38_method_7_code 11 = .ok (.if_acmp .eq 24, 3) := by decide +kernel
theorem d_prog_38_m_7_14 : decode prog_38_method_7_code 14 = .ok (.aload_n 0, 1) := by decide +kernel
theorem d_prog_38_m_7_15 : decode prog_38_method_7_code 15 = .ok (.getstatic 10, 3) := by decide +kernel
theorem d_prog_38_m_7_18 : decode prog_38_method_7_code 18 = .ok (.if_acmp .eq 17, 3) := by decide +kernel
theorem d_prog_38_m_7_21 : decode prog_38_method_7_code 21 = .ok (.aload_n 0, 1) := by decide +kernel
theorem d_prog_38_m_7_22 : decode prog_38_method_7_code 22 = .ok (.getstatic 13, 3) := by decide +kernel
theorem d_prog_38_m_7_25 : decode prog_38_method_7_code 25 = .ok (.if_acmp .eq 10, 3) := by decide +kernel
theorem d_prog_38_m_7_28 : decode prog_38_method_7_code 28 = .ok (.aload_n 0, 1) := by decide +kernel
theorem d_prog_38_m_7_29 : decode prog_38_method_7_code 29 = .ok (.getstatic 16, 3) := by decide +kernel
theorem d_prog_38_m_7_32 : decode prog_38_method_7_code 32 = .ok (.if_acmp .ne 7, 3) := by decide +kernel
theorem d_prog_38_m_7_35 : decode prog_38_method_7_code 35 = .ok (.iconst 1, 1) := by decide +kernel
theorem d_prog_38_m_7_36 : decode prog_38_method_7_code 36 = .ok (.goto 4, 3) := by decide +kernel
theorem d_prog_38_m_7_39 : decode prog_38_method_7_code 39 = .ok (.iconst 0, 1) := by decide +kernel
theorem d_prog_38_m_7_40 : decode prog_38_method_7_code 40 = .ok (.ireturn, 1) := by decide +kernel
theorem pd_0 : parseMethodDescriptor "()Z" = some ⟨[], some .boolean⟩ := by decide +kernel
theorem pn_0 : plainName "com/example/deadpaths_to_precision/deadpathstoprecision/frontend/BinaryOperator" = true := by first | (simp [plainName, overriddenIn]; done) | decide +kernel
theorem pn_1 : plainName "com/example/deadpaths_to_precision/deadpathstoprecision/frontend/BinaryOperatorIsUndefinedOnOverflowPinLaw" = true := by first | (simp [plainName, overriddenIn]; done) | decide +kernel
theorem ef_rm1 (m : MethodId) (x0 : Addr) : entryFrame m #[(.ref x0)] 1 = mkF m 0 #[.val (.ref x0)] [] := by first | (simp [entryFrame, mkF, argsToLocals, Value.category]; done) | rfl
set_option maxRecDepth 65536 in
set_option maxHeartbeats 40000000 in
theorem rm1 (l : Launch) (Z : State) (a0 : Array Value) (hw : ∀ d ∈ tables_1, d.before a0 Z = true) (ws : List Jvm.Cond) (a : Addr) (a_MULTIPLY : Addr) (a_DIVIDE : Addr) (a_REMAINDER : Addr) (a_ADD : Addr) (a_SUBTRACT : Addr) (h0 : Heap) (n0 : Nat) (Z0 : n0 ≤ h0.size) (S_MULTIPLY : Sta Z h0 "com/example/deadpaths_to_precision/deadpathstoprecision/frontend/BinaryOperator" "MULTIPLY" "Lcom/example/deadpaths_to_precision/deadpathstoprecision/frontend/BinaryOperator;" (.ref a_MULTIPLY)) (S_DIVIDE : Sta Z h0 "com/example/deadpaths_to_precision/deadpathstoprecision/frontend/BinaryOperator" "DIVIDE" "Lcom/example/deadpaths_to_precision/deadpathstoprecision/frontend/BinaryOperator;" (.ref a_DIVIDE)) (S_REMAINDER : Sta Z h0 "com/example/deadpaths_to_precision/deadpathstoprecision/frontend/BinaryOperator" "REMAINDER" "Lcom/example/deadpaths_to_precision/deadpathstoprecision/frontend/BinaryOperator;" (.ref a_REMAINDER)) (S_ADD : Sta Z h0 "com/example/deadpaths_to_precision/deadpathstoprecision/frontend/BinaryOperator" "ADD" "Lcom/example/deadpaths_to_precision/deadpathstoprecision/frontend/BinaryOperator;" (.ref a_ADD)) (S_SUBTRACT : Sta Z h0 "com/example/deadpaths_to_precision/deadpathstoprecision/frontend/BinaryOperator" "SUBTRACT" "Lcom/example/deadpaths_to_precision/deadpathstoprecision/frontend/BinaryOperator;" (.ref a_SUBTRACT)) :
    MetFree l (⟨"com/example/deadpaths_to_precision/deadpathstoprecision/frontend/BinaryOperator", "isUndefinedOnOverflow", "()Z"⟩ : MethodName) (head1 (Jvm.Cond.code (⟨"com/example/deadpaths_to_precision/deadpathstoprecision/frontend/BinaryOperator", "isUndefinedOnOverflow", "()Z"⟩ : MethodName) prog_38_method_7_code 1 (some .boolean) :: ws) ({ frames := 0, cells := 0, slots := 0, locals := 0 } : Room)) (fun aa_ UU_ => aa_ = #[(.ref a)] ∧ Z.Warmed39 UU_.vm ∧ UU_.heap = h0) (fun _ _ _ _ _ => True) (fun _ UU_ oo_ UE_ => ∃ vv_ LL_, oo_ = .returned vv_ ∧ QV (some (.int (if a = a_MULTIPLY ∨ a = a_DIVIDE ∨ a = a_REMAINDER ∨ a = a_ADD ∨ a = a_SUBTRACT then 1 else 0))) h0 n0 vv_ UE_.heap LL_ ∧ FrameEnd UU_ oo_ UE_ LL_ ({ frames := 0, cells := 0, slots := 0, locals := 0 } : Room).cells ({ frames := 0, cells := 0, slots := 0, locals := 0 } : Room).slots) := by
  refine MetFree.of_bodySF (plainFor_of_name pn_0) hisR ?_
  intro p e s m args below meth c s₁ Bd hml0 hP hK
  obtain ⟨rfl, hZ, hh⟩ := hP
  have hx := Bd.exec
  have hby := Bd.bytes
  have hml : c.maxLocals = 1 := hml0
  have hown : s.vm.findClass "com/example/deadpaths_to_precision/deadpathstoprecision/frontend/BinaryOperator" = some m.cls := findClass_of_methodNamed Bd.named
  have hnm := (name_of_methodNamed Bd.named Bd.method).1
  have X0 : Stand p l e ({ frames := 0, cells := 0, slots := 0, locals := 0 } : Room) s m #[(.ref a)] below meth c s₁ [] 0 0 := Stand.of_body Bd
  have e0 : s₁.heap = h0 := by rw [← hh, Bd.state]; rfl
  have N0 := Fr.nil n0
  have pre0 : ∀ tg, Steps p.tables e below (s₁.setTop (mkF m 0 #[.val (.ref a)] [])) tg → Steps p.tables e below (s₁.setTop (entryFrame m #[(.ref a)] 1)) tg := fun tg kq_ => castTop (ef_rm1 m a) kq_
  obtain ⟨T1, X1, e1, st1⟩ := getS2 X0 hx hZ hown (host := "") (Or.inl (hw _ (List.mem_of_getElem? (i := 46) rfl))) Via.refl e0 S_MULTIPLY (g := (mkF m 1 #[.val (.ref a)] [(.ref a)])) rfl (hb hby d_prog_38_m_7_1)
  have R2 : ∀ tg, Steps p.tables e below (T1.setTop (mkF m 4 #[.val (.ref a)] [(.ref a_MULTIPLY), (.ref a)])) tg → Steps p.tables e below (s₁.setTop (mkF m 0 #[.val (.ref a)] [])) tg := by
    intro tg kt
    refine XS.aloadN X0.here hx rfl (hb hby d_prog_38_m_7_0) rfl rfl ?_
    show Steps p.tables e below (s₁.setTop (mkF m 1 #[.val (.ref a)] [(.ref a)])) _
    refine st1 _ ?_
    show Steps p.tables e below (T1.setTop (mkF m 4 #[.val (.ref a)] [(.ref a_MULTIPLY), (.ref a)])) _
    exact kt
  by_cases hc4_3 : a = a_MULTIPLY
  · obtain ⟨fs, hr, hrun, hended, hW, hsame⟩ := X1.leave (v := some (.int (1 : Int32))) (fun h => by rw [Bd.returns] at h; cases h)
    refine ⟨_, _, pre0 _ (R2 _ ?_), hrun, hended, _, _, rfl, ?_, ⟨_, rfl⟩, hW, hsame.mono (by decide) (by decide)⟩
    · show Steps p.tables e below (T1.setTop (mkF m 4 #[.val (.ref a)] [(.ref a_MULTIPLY), (.ref a)])) _
      refine Jvm.RoadKit.acmp (g := (mkF m 4 #[.val (.ref a)] [(.ref a_MULTIPLY), (.ref a)])) X1 hx rfl rfl rfl (pc0 := 4) (pc' := 35) (same := true) rfl (hb hby d_prog_38_m_7_4) rfl (decide_eq_true (congrArg Value.ref hc4_3)) (by decide) (by decide) ?_
      show Steps p.tables e below (T1.setTop (mkF m 35 #[.val (.ref a)] [])) _
      refine XS.iconst X1.here hx rfl (hb hby d_prog_38_m_7_35) ?_
      show Steps p.tables e below (T1.setTop (mkF m 36 #[.val (.ref a)] [(.int (1 : Int32))])) _
      refine XS.goto X1.here hx rfl (pc0 := 36) (pc' := 40) rfl (hb hby d_prog_38_m_7_36) (by decide) (by decide) ?_
      show Steps p.tables e below (T1.setTop (mkF m 40 #[.val (.ref a)] [(.int (1 : Int32))])) _
      exact retN X1 hx (t := .boolean) Bd.returns (by simp) (hb hby d_prog_38_m_7_40) hr
    · show QV (some (.int (if a = a_MULTIPLY ∨ a = a_DIVIDE ∨ a = a_REMAINDER ∨ a = a_ADD ∨ a = a_SUBTRACT then 1 else 0))) h0 n0 _ T1.heap _
      rw [e1]
      exact ⟨by simp [hc4_3], N0, rfl⟩
  · obtain ⟨T4, X4, e4, st4⟩ := getS2 X1 hx hZ hown (host := "") (Or.inl (hw _ (List.mem_of_getElem? (i := 47) rfl))) Via.refl e1 S_DIVIDE (g := (mkF m 8 #[.val (.ref a)] [(.ref a)])) rfl (hb hby d_prog_38_m_7_8)
    have R5 : ∀ tg, Steps p.tables e below (T4.setTop (mkF m 11 #[.val (.ref a)] [(.ref a_DIVIDE), (.ref a)])) tg → Steps p.tables e below (T1.setTop (mkF m 4 #[.val (.ref a)] [(.ref a_MULTIPLY), (.ref a)])) tg := by
      intro tg kt
      refine Jvm.RoadKit.acmp (g := (mkF m 4 #[.val (.ref a)] [(.ref a_MULTIPLY), (.ref a)])) X1 hx rfl rfl rfl (pc0 := 4) (pc' := 7) (same := false) rfl (hb hby d_prog_38_m_7_4) rfl (decide_eq_false fun q => hc4_3 (Value.ref.inj q)) (by decide) (by decide) ?_
      show Steps p.tables e below (T1.setTop (mkF m 7 #[.val (.ref a)] [])) _
      refine XS.aloadN X1.here hx rfl (hb hby d_prog_38_m_7_7) rfl rfl ?_
      show Steps p.tables e below (T1.setTop (mkF m 8 #[.val (.ref a)] [(.ref a)])) _
      refine st4 _ ?_
      show Steps p.tables e below (T4.setTop (mkF m 11 #[.val (.ref a)] [(.ref a_DIVIDE), (.ref a)])) _
      exact kt
    by_cases hc11_6 : a = a_DIVIDE
    · obtain ⟨fs, hr, hrun, hended, hW, hsame⟩ := X4.leave (v := some (.int (1 : Int32))) (fun h => by rw [Bd.returns] at h; cases h)
      refine ⟨_, _, pre0 _ (R2 _ (R5 _ ?_)), hrun, hended, _, _, rfl, ?_, ⟨_, rfl⟩, hW, hsame.mono (by decide) (by decide)⟩
      · show Steps p.tables e below (T4.setTop (mkF m 11 #[.val (.ref a)] [(.ref a_DIVIDE), (.ref a)])) _
        refine Jvm.RoadKit.acmp (g := (mkF m 11 #[.val (.ref a)] [(.ref a_DIVIDE), (.ref a)])) X4 hx rfl rfl rfl (pc0 := 11) (pc' := 35) (same := true) rfl (hb hby d_prog_38_m_7_11) rfl (decide_eq_true (congrArg Value.ref hc11_6)) (by decide) (by decide) ?_
        show Steps p.tables e below (T4.setTop (mkF m 35 #[.val (.ref a)] [])) _
        refine XS.iconst X4.here hx rfl (hb hby d_prog_38_m_7_35) ?_
        show Steps p.tables e below (T4.setTop (mkF m 36 #[.val (.ref a)] [(.int (1 : Int32))])) _
        refine XS.goto X4.here hx rfl (pc0 := 36) (pc' := 40) rfl (hb hby d_prog_38_m_7_36) (by decide) (by decide) ?_
        show Steps p.tables e below (T4.setTop (mkF m 40 #[.val (.ref a)] [(.int (1 : Int32))])) _
        exact retN X4 hx (t := .boolean) Bd.returns (by simp) (hb hby d_prog_38_m_7_40) hr
      · show QV (some (.int (if a = a_MULTIPLY ∨ a = a_DIVIDE ∨ a = a_REMAINDER ∨ a = a_ADD ∨ a = a_SUBTRACT then 1 else 0))) h0 n0 _ T4.heap _
        rw [e4]
        exact ⟨by simp [hc4_3, hc11_6], N0, rfl⟩
    · obtain ⟨T7, X7, e7, st7⟩ := getS2 X4 hx hZ hown (host := "") (Or.inl (hw _ (List.mem_of_getElem? (i := 48) rfl))) Via.refl e4 S_REMAINDER (g := (mkF m 15 #[.val (.ref a)] [(.ref a)])) rfl (hb hby d_prog_38_m_7_15)
      have R8 : ∀ tg, Steps p.tables e below (T7.setTop (mkF m 18 #[.val (.ref a)] [(.ref a_REMAINDER), (.ref a)])) tg → Steps p.tables e below (T4.setTop (mkF m 11 #[.val (.ref a)] [(.ref a_DIVIDE), (.ref a)])) tg := by
        intro tg kt
        refine Jvm.RoadKit.acmp (g := (mkF m 11 #[.val (.ref a)] [(.ref a_DIVIDE), (.ref a)])) X4 hx rfl rfl rfl (pc0 := 11) (pc' := 14) (same := false) rfl (hb hby d_prog_38_m_7_11) rfl (decide_eq_false fun q => hc11_6 (Value.ref.inj q)) (by decide) (by decide) ?_
        show Steps p.tables e below (T4.setTop (mkF m 14 #[.val (.ref a)] [])) _
        refine XS.aloadN X4.here hx rfl (hb hby d_prog_38_m_7_14) rfl rfl ?_
        show Steps p.tables e below (T4.setTop (mkF m 15 #[.val (.ref a)] [(.ref a)])) _
        refine st7 _ ?_
        show Steps p.tables e below (T7.setTop (mkF m 18 #[.val (.ref a)] [(.ref a_REMAINDER), (.ref a)])) _
        exact kt
      by_cases hc18_9 : a = a_REMAINDER
      · obtain ⟨fs, hr, hrun, hended, hW, hsame⟩ := X7.leave (v := some (.int (1 : Int32))) (fun h => by rw [Bd.returns] at h; cases h)
        refine ⟨_, _, pre0 _ (R2 _ (R5 _ (R8 _ ?_))), hrun, hended, _, _, rfl, ?_, ⟨_, rfl⟩, hW, hsame.mono (by decide) (by decide)⟩
        · show Steps p.tables e below (T7.setTop (mkF m 18 #[.val (.ref a)] [(.ref a_REMAINDER), (.ref a)])) _
          refine Jvm.RoadKit.acmp (g := (mkF m 18 #[.val (.ref a)] [(.ref a_REMAINDER), (.ref a)])) X7 hx rfl rfl rfl (pc0 := 18) (pc' := 35) (same := true) rfl (hb hby d_prog_38_m_7_18) rfl (decide_eq_true (congrArg Value.ref hc18_9)) (by decide) (by decide) ?_
          show Steps p.tables e below (T7.setTop (mkF m 35 #[.val (.ref a)] [])) _
          refine XS.iconst X7.here hx rfl (hb hby d_prog_38_m_7_35) ?_
          show Steps p.tables e below (T7.setTop (mkF m 36 #[.val (.ref a)] [(.int (1 : Int32))])) _
          refine XS.goto X7.here hx rfl (pc0 := 36) (pc' := 40) rfl (hb hby d_prog_38_m_7_36) (by decide) (by decide) ?_
          show Steps p.tables e below (T7.setTop (mkF m 40 #[.val (.ref a)] [(.int (1 : Int32))])) _
          exact retN X7 hx (t := .boolean) Bd.returns (by simp) (hb hby d_prog_38_m_7_40) hr
        · show QV (some (.int (if a = a_MULTIPLY ∨ a = a_DIVIDE ∨ a = a_REMAINDER ∨ a = a_ADD ∨ a = a_SUBTRACT then 1 else 0))) h0 n0 _ T7.heap _
          rw [e7]
          exact ⟨by simp [hc4_3, hc11_6, hc18_9], N0, rfl⟩
      · obtain ⟨T10, X10, e10, st10⟩ := getS2 X7 hx hZ hown (host := "") (Or.inl (hw _ (List.mem_of_getElem? (i := 49) rfl))) Via.refl e7 S_ADD (g := (mkF m 22 #[.val (.ref a)] [(.ref a)])) rfl (hb hby d_prog_38_m_7_22)
        have R11 : ∀ tg, Steps p.tables e below (T10.setTop (mkF m 25 #[.val (.ref a)] [(.ref a_ADD), (.ref a)])) tg → Steps p.tables e below (T7.setTop (mkF m 18 #[.val (.ref a)] [(.ref a_REMAINDER), (.ref a)])) tg := by
          intro tg kt
          refine Jvm.RoadKit.acmp (g := (mkF m 18 #[.val (.ref a)] [(.ref a_REMAINDER), (.ref a)])) X7 hx rfl rfl rfl (pc0 := 18) (pc' := 21) (same := false) rfl (hb hby d_prog_38_m_7_18) rfl (decide_eq_false fun q => hc18_9 (Value.ref.inj q)) (by decide) (by decide) ?_
          show Steps p.tables e below (T7.setTop (mkF m 21 #[.val (.ref a)] [])) _
          refine XS.aloadN X7.here hx rfl (hb hby d_prog_38_m_7_21) rfl rfl ?_
          show Steps p.tables e below (T7.setTop (mkF m 22 #[.val (.ref a)] [(.ref a)])) _
          refine st10 _ ?_
          show Steps p.tables e below (T10.setTop (mkF m 25 #[.val (.ref a)] [(.ref a_ADD), (.ref a)])) _
          exact kt
        by_cases hc25_12 : a = a_ADD
        · obtain ⟨fs, hr, hrun, hended, hW, hsame⟩ := X10.leave (v := some (.int (1 : Int32))) (fun h => by rw [Bd.returns] at h; cases h)
          refine ⟨_, _, pre0 _ (R2 _ (R5 _ (R8 _ (R11 _ ?_)))), hrun, hended, _, _, rfl, ?_, ⟨_, rfl⟩, hW, hsame.mono (by decide) (by decide)⟩
          · show Steps p.tables e below (T10.setTop (mkF m 25 #[.val (.ref a)] [(.ref a_ADD), (.ref a)])) _
            refine Jvm.RoadKit.acmp (g := (mkF m 25 #[.val (.ref a)] [(.ref a_ADD), (.ref a)])) X10 hx rfl rfl rfl (pc0 := 25) (pc' := 35) (same := true) rfl (hb hby d_prog_38_m_7_25) rfl (decide_eq_true (congrArg Value.ref hc25_12)) (by decide) (by decide) ?_
            show Steps p.tables e below (T10.setTop (mkF m 35 #[.val (.ref a)] [])) _
            refine XS.iconst X10.here hx rfl (hb hby d_prog_38_m_7_35) ?_
            show Steps p.tables e below (T10.setTop (mkF m 36 #[.val (.ref a)] [(.int (1 : Int32))])) _
            refine XS.goto X10.here hx rfl (pc0 := 36) (pc' := 40) rfl (hb hby d_prog_38_m_7_36) (by decide) (by decide) ?_
            show Steps p.tables e below (T10.setTop (mkF m 40 #[.val (.ref a)] [(.int (1 : Int32))])) _
            exact retN X10 hx (t := .boolean) Bd.returns (by simp) (hb hby d_prog_38_m_7_40) hr
          · show QV (some (.int (if a = a_MULTIPLY ∨ a = a_DIVIDE ∨ a = a_REMAINDER ∨ a = a_ADD ∨ a = a_SUBTRACT then 1 else 0))) h0 n0 _ T10.heap _
            rw [e10]
            exact ⟨by simp [hc4_3, hc11_6, hc18_9, hc25_12], N0, rfl⟩
        · obtain ⟨T13, X13, e13, st13⟩ := getS2 X10 hx hZ hown (host := "") (Or.inl (hw _ (List.mem_of_getElem? (i := 50) rfl))) Via.refl e10 S_SUBTRACT (g := (mkF m 29 #[.val (.ref a)] [(.ref a)])) rfl (hb hby d_prog_38_m_7_29)
          have R14 : ∀ tg, Steps p.tables e below (T13.setTop (mkF m 32 #[.val (.ref a)] [(.ref a_SUBTRACT), (.ref a)])) tg → Steps p.tables e below (T10.setTop (mkF m 25 #[.val (.ref a)] [(.ref a_ADD), (.ref a)])) tg := by
            intro tg kt
            refine Jvm.RoadKit.acmp (g := (mkF m 25 #[.val (.ref a)] [(.ref a_ADD), (.ref a)])) X10 hx rfl rfl rfl (pc0 := 25) (pc' := 28) (same := false) rfl (hb hby d_prog_38_m_7_25) rfl (decide_eq_false fun q => hc25_12 (Value.ref.inj q)) (by decide) (by decide) ?_
            show Steps p.tables e below (T10.setTop (mkF m 28 #[.val (.ref a)] [])) _
            refine XS.aloadN X10.here hx rfl (hb hby d_prog_38_m_7_28) rfl rfl ?_
            show Steps p.tables e below (T10.setTop (mkF m 29 #[.val (.ref a)] [(.ref a)])) _
            refine st13 _ ?_
            show Steps p.tables e below (T13.setTop (mkF m 32 #[.val (.ref a)] [(.ref a_SUBTRACT), (.ref a)])) _
            exact kt
          by_cases hc32_15 : a = a_SUBTRACT
          · obtain ⟨fs, hr, hrun, hended, hW, hsame⟩ := X13.leave (v := some (.int (1 : Int32))) (fun h => by rw [Bd.returns] at h; cases h)
            refine ⟨_, _, pre0 _ (R2 _ (R5 _ (R8 _ (R11 _ (R14 _ ?_))))), hrun, hended, _, _, rfl, ?_, ⟨_, rfl⟩, hW, hsame.mono (by decide) (by decide)⟩
            · show Steps p.tables e below (T13.setTop (mkF m 32 #[.val (.ref a)] [(.ref a_SUBTRACT), (.ref a)])) _
              refine Jvm.RoadKit.acmp (g := (mkF m 32 #[.val (.ref a)] [(.ref a_SUBTRACT), (.ref a)])) X13 hx rfl rfl rfl (pc0 := 32) (pc' := 35) (same := true) rfl (hb hby d_prog_38_m_7_32) rfl (decide_eq_true (congrArg Value.ref hc32_15)) (by decide) (by decide) ?_
              show Steps p.tables e below (T13.setTop (mkF m 35 #[.val (.ref a)] [])) _
              refine XS.iconst X13.here hx rfl (hb hby d_prog_38_m_7_35) ?_
              show Steps p.tables e below (T13.setTop (mkF m 36 #[.val (.ref a)] [(.int (1 : Int32))])) _
              refine XS.goto X13.here hx rfl (pc0 := 36) (pc' := 40) rfl (hb hby d_prog_38_m_7_36) (by decide) (by decide) ?_
              show Steps p.tables e below (T13.setTop (mkF m 40 #[.val (.ref a)] [(.int (1 : Int32))])) _
              exact retN X13 hx (t := .boolean) Bd.returns (by simp) (hb hby d_prog_38_m_7_40) hr
            · show QV (some (.int (if a = a_MULTIPLY ∨ a = a_DIVIDE ∨ a = a_REMAINDER ∨ a = a_ADD ∨ a = a_SUBTRACT then 1 else 0))) h0 n0 _ T13.heap _
              rw [e13]
              exact ⟨by simp [hc4_3, hc11_6, hc18_9, hc25_12, hc32_15], N0, rfl⟩
          · obtain ⟨fs, hr, hrun, hended, hW, hsame⟩ := X13.leave (v := some (.int (0 : Int32))) (fun h => by rw [Bd.returns] at h; cases h)
            refine ⟨_, _, pre0 _ (R2 _ (R5 _ (R8 _ (R11 _ (R14 _ ?_))))), hrun, hended, _, _, rfl, ?_, ⟨_, rfl⟩, hW, hsame.mono (by decide) (by decide)⟩
            · show Steps p.tables e below (T13.setTop (mkF m 32 #[.val (.ref a)] [(.ref a_SUBTRACT), (.ref a)])) _
              refine Jvm.RoadKit.acmp (g := (mkF m 32 #[.val (.ref a)] [(.ref a_SUBTRACT), (.ref a)])) X13 hx rfl rfl rfl (pc0 := 32) (pc' := 39) (same := false) rfl (hb hby d_prog_38_m_7_32) rfl (decide_eq_false fun q => hc32_15 (Value.ref.inj q)) (by decide) (by decide) ?_
              show Steps p.tables e below (T13.setTop (mkF m 39 #[.val (.ref a)] [])) _
              refine XS.iconst X13.here hx rfl (hb hby d_prog_38_m_7_39) ?_
              show Steps p.tables e below (T13.setTop (mkF m 40 #[.val (.ref a)] [(.int (0 : Int32))])) _
              exact retN X13 hx (t := .boolean) Bd.returns (by simp) (hb hby d_prog_38_m_7_40) hr
            · show QV (some (.int (if a = a_MULTIPLY ∨ a = a_DIVIDE ∨ a = a_REMAINDER ∨ a = a_ADD ∨ a = a_SUBTRACT then 1 else 0))) h0 n0 _ T13.heap _
              rw [e13]
              exact ⟨by simp [hc4_3, hc11_6, hc18_9, hc25_12, hc32_15], N0, rfl⟩
theorem ef_rm0 (m : MethodId) (x0 : Int32) : entryFrame m #[(.int x0)] maxLocals = mkF m 0 #[.val (.int x0), .unset, .unset, .unset, .unset] [] := by first | (simp [entryFrame, mkF, argsToLocals, Value.category, maxLocals]; done) | rfl
set_option maxRecDepth 65536 in
set_option maxHeartbeats 40000000 in
theorem rm0 (l : Launch) (Z : State) (a0 : Array Value) (hw : ∀ d ∈ tables_1, d.before a0 Z = true) (ws : List Jvm.Cond) (p1 : Int32) (a_MULTIPLY : Addr) (a_DIVIDE : Addr) (a_REMAINDER : Addr) (a_ADD : Addr) (a_SUBTRACT : Addr) (a_SHIFT_LEFT : Addr) (a_SHIFT_RIGHT : Addr) (a_LESS : Addr) (a_GREATER : Addr) (a_LESS_EQUAL : Addr) (a_GREATER_EQUAL : Addr) (a_EQUAL : Addr) (a_NOT_EQUAL : Addr) (a_BITWISE_AND : Addr) (a_BITWISE_XOR : Addr) (a_BITWISE_OR : Addr) (a_LOGICAL_AND : Addr) (a_LOGICAL_OR : Addr) (h0 : Heap) (n0 : Nat) (Z0 : n0 ≤ h0.size) (S_MULTIPLY : Sta Z h0 "com/example/deadpaths_to_precision/deadpathstoprecision/frontend/BinaryOperator" "MULTIPLY" "Lcom/example/deadpaths_to_precision/deadpathstoprecision/frontend/BinaryOperator;" (.ref a_MULTIPLY)) (E_MULTIPLY : Exa Z h0 a_MULTIPLY "com/example/deadpaths_to_precision/deadpathstoprecision/frontend/BinaryOperator") (F_MULTIPLY_ordinal : Fld Z h0 a_MULTIPLY "java/lang/Enum" "ordinal" "I" (.int (0 : Int32))) (S_DIVIDE : Sta Z h0 "com/example/deadpaths_to_precision/deadpathstoprecision/frontend/BinaryOperator" "DIVIDE" "Lcom/example/deadpaths_to_precision/deadpathstoprecision/frontend/BinaryOperator;" (.ref a_DIVIDE)) (E_DIVIDE : Exa Z h0 a_DIVIDE "com/example/deadpaths_to_precision/deadpathstoprecision/frontend/BinaryOperator") (F_DIVIDE_ordinal : Fld Z h0 a_DIVIDE "java/lang/Enum" "ordinal" "I" (.int (1 : Int32))) (S_REMAINDER : Sta Z h0 "com/example/deadpaths_to_precision/deadpathstoprecision/frontend/BinaryOperator" "REMAINDER" "Lcom/example/deadpaths_to_precision/deadpathstoprecision/frontend/BinaryOperator;" (.ref a_REMAINDER)) (E_REMAINDER : Exa Z h0 a_REMAINDER "com/example/deadpaths_to_precision/deadpathstoprecision/frontend/BinaryOperator") (F_REMAINDER_ordinal : Fld Z h0 a_REMAINDER "java/lang/Enum" "ordinal" "I" (.int (2 : Int32))) (S_ADD : Sta Z h0 "com/example/deadpaths_to_precision/deadpathstoprecision/frontend/BinaryOperator" "ADD" "Lcom/example/deadpaths_to_precision/deadpathstoprecision/frontend/BinaryOperator;" (.ref a_ADD)) (E_ADD : Exa Z h0 a_ADD "com/example/deadpaths_to_precision/deadpathstoprecision/frontend/BinaryOperator") (F_ADD_ordinal : Fld Z h0 a_ADD "java/lang/Enum" "ordinal" "I" (.int (3 : Int32))) (S_SUBTRACT : Sta Z h0 "com/example/deadpaths_to_precision/deadpathstoprecision/frontend/BinaryOperator" "SUBTRACT" "Lcom/example/deadpaths_to_precision/deadpathstoprecision/frontend/BinaryOperator;" (.ref a_SUBTRACT)) (E_SUBTRACT : Exa Z h0 a_SUBTRACT "com/example/deadpaths_to_precision/deadpathstoprecision/frontend/BinaryOperator") (F_SUBTRACT_ordinal : Fld Z h0 a_SUBTRACT "java/lang/Enum" "ordinal" "I" (.int (4 : Int32))) (S_SHIFT_LEFT : Sta Z h0 "com/example/deadpaths_to_precision/deadpathstoprecision/frontend/BinaryOperator" "SHIFT_LEFT" "Lcom/example/deadpaths_to_precision/deadpathstoprecision/frontend/BinaryOperator;" (.ref a_SHIFT_LEFT)) (E_SHIFT_LEFT : Exa Z h0 a_SHIFT_LEFT "com/example/deadpaths_to_precision/deadpathstoprecision/frontend/BinaryOperator") (F_SHIFT_LEFT_ordinal : Fld Z h0 a_SHIFT_LEFT "java/lang/Enum" "ordinal" "I" (.int (5 : Int32))) (S_SHIFT_RIGHT : Sta Z h0 "com/example/deadpaths_to_precision/deadpathstoprecision/frontend/BinaryOperator" "SHIFT_RIGHT" "Lcom/example/deadpaths_to_precision/deadpathstoprecision/frontend/BinaryOperator;" (.ref a_SHIFT_RIGHT)) (E_SHIFT_RIGHT : Exa Z h0 a_SHIFT_RIGHT "com/example/deadpaths_to_precision/deadpathstoprecision/frontend/BinaryOperator") (F_SHIFT_RIGHT_ordinal : Fld Z h0 a_SHIFT_RIGHT "java/lang/Enum" "ordinal" "I" (.int (6 : Int32))) (S_LESS : Sta Z h0 "com/example/deadpaths_to_precision/deadpathstoprecision/frontend/BinaryOperator" "LESS" "Lcom/example/deadpaths_to_precision/deadpathstoprecision/frontend/BinaryOperator;" (.ref a_LESS)) (E_LESS : Exa Z h0 a_LESS "com/example/deadpaths_to_precision/deadpathstoprecision/frontend/BinaryOperator") (F_LESS_ordinal : Fld Z h0 a_LESS "java/lang/Enum" "ordinal" "I" (.int (7 : Int32))) (S_GREATER : Sta Z h0 "com/example/deadpaths_to_precision/deadpathstoprecision/frontend/BinaryOperator" "GREATER" "Lcom/example/deadpaths_to_precision/deadpathstoprecision/frontend/BinaryOperator;" (.ref a_GREATER)) (E_GREATER : Exa Z h0 a_GREATER "com/example/deadpaths_to_precision/deadpathstoprecision/frontend/BinaryOperator") (F_GREATER_ordinal : Fld Z h0 a_GREATER "java/lang/Enum" "ordinal" "I" (.int (8 : Int32))) (S_LESS_EQUAL : Sta Z h0 "com/example/deadpaths_to_precision/deadpathstoprecision/frontend/BinaryOperator" "LESS_EQUAL" "Lcom/example/deadpaths_to_precision/deadpathstoprecision/frontend/BinaryOperator;" (.ref a_LESS_EQUAL)) (E_LESS_EQUAL : Exa Z h0 a_LESS_EQUAL "com/example/deadpaths_to_precision/deadpathstoprecision/frontend/BinaryOperator") (F_LESS_EQUAL_ordinal : Fld Z h0 a_LESS_EQUAL "java/lang/Enum" "ordinal" "I" (.int (9 : Int32))) (S_GREATER_EQUAL : Sta Z h0 "com/example/deadpaths_to_precision/deadpathstoprecision/frontend/BinaryOperator" "GREATER_EQUAL" "Lcom/example/deadpaths_to_precision/deadpathstoprecision/frontend/BinaryOperator;" (.ref a_GREATER_EQUAL)) (E_GREATER_EQUAL : Exa Z h0 a_GREATER_EQUAL "com/example/deadpaths_to_precision/deadpathstoprecision/frontend/BinaryOperator") (F_GREATER_EQUAL_ordinal : Fld Z h0 a_GREATER_EQUAL "java/lang/Enum" "ordinal" "I" (.int (10 : Int32))) (S_EQUAL : Sta Z h0 "com/example/deadpaths_to_precision/deadpathstoprecision/frontend/BinaryOperator" "EQUAL" "Lcom/example/deadpaths_to_precision/deadpathstoprecision/frontend/BinaryOperator;" (.ref a_EQUAL)) (E_EQUAL : Exa Z h0 a_EQUAL "com/example/deadpaths_to_precision/deadpathstoprecision/frontend/BinaryOperator") (F_EQUAL_ordinal : Fld Z h0 a_EQUAL "java/lang/Enum" "ordinal" "I" (.int (11 : Int32))) (S_NOT_EQUAL : Sta Z h0 "com/example/deadpaths_to_precision/deadpathstoprecision/frontend/BinaryOperator" "NOT_EQUAL" "Lcom/example/deadpaths_to_precision/deadpathstoprecision/frontend/BinaryOperator;" (.ref a_NOT_EQUAL)) (E_NOT_EQUAL : Exa Z h0 a_NOT_EQUAL "com/example/deadpaths_to_precision/deadpathstoprecision/frontend/BinaryOperator") (F_NOT_EQUAL_ordinal : Fld Z h0 a_NOT_EQUAL "java/lang/Enum" "ordinal" "I" (.int (12 : Int32))) (S_BITWISE_AND : Sta Z h0 "com/example/deadpaths_to_precision/deadpathstoprecision/frontend/BinaryOperator" "BITWISE_AND" "Lcom/example/deadpaths_to_precision/deadpathstoprecision/frontend/BinaryOperator;" (.ref a_BITWISE_AND)) (E_BITWISE_AND : Exa Z h0 a_BITWISE_AND "com/example/deadpaths_to_precision/deadpathstoprecision/frontend/BinaryOperator") (F_BITWISE_AND_ordinal : Fld Z h0 a_BITWISE_AND "java/lang/Enum" "ordinal" "I" (.int (13 : Int32))) (S_BITWISE_XOR : Sta Z h0 "com/example/deadpaths_to_precision/deadpathstoprecision/frontend/BinaryOperator" "BITWISE_XOR" "Lcom/example/deadpaths_to_precision/deadpathstoprecision/frontend/BinaryOperator;" (.ref a_BITWISE_XOR)) (E_BITWISE_XOR : Exa Z h0 a_BITWISE_XOR "com/example/deadpaths_to_precision/deadpathstoprecision/frontend/BinaryOperator") (F_BITWISE_XOR_ordinal : Fld Z h0 a_BITWISE_XOR "java/lang/Enum" "ordinal" "I" (.int (14 : Int32))) (S_BITWISE_OR : Sta Z h0 "com/example/deadpaths_to_precision/deadpathstoprecision/frontend/BinaryOperator" "BITWISE_OR" "Lcom/example/deadpaths_to_precision/deadpathstoprecision/frontend/BinaryOperator;" (.ref a_BITWISE_OR)) (E_BITWISE_OR : Exa Z h0 a_BITWISE_OR "com/example/deadpaths_to_precision/deadpathstoprecision/frontend/BinaryOperator") (F_BITWISE_OR_ordinal : Fld Z h0 a_BITWISE_OR "java/lang/Enum" "ordinal" "I" (.int (15 : Int32))) (S_LOGICAL_AND : Sta Z h0 "com/example/deadpaths_to_precision/deadpathstoprecision/frontend/BinaryOperator" "LOGICAL_AND" "Lcom/example/deadpaths_to_precision/deadpathstoprecision/frontend/BinaryOperator;" (.ref a_LOGICAL_AND)) (E_LOGICAL_AND : Exa Z h0 a_LOGICAL_AND "com/example/deadpaths_to_precision/deadpathstoprecision/frontend/BinaryOperator") (F_LOGICAL_AND_ordinal : Fld Z h0 a_LOGICAL_AND "java/lang/Enum" "ordinal" "I" (.int (16 : Int32))) (S_LOGICAL_OR : Sta Z h0 "com/example/deadpaths_to_precision/deadpathstoprecision/frontend/BinaryOperator" "LOGICAL_OR" "Lcom/example/deadpaths_to_precision/deadpathstoprecision/frontend/BinaryOperator;" (.ref a_LOGICAL_OR)) (E_LOGICAL_OR : Exa Z h0 a_LOGICAL_OR "com/example/deadpaths_to_precision/deadpathstoprecision/frontend/BinaryOperator") (F_LOGICAL_OR_ordinal : Fld Z h0 a_LOGICAL_OR "java/lang/Enum" "ordinal" "I" (.int (17 : Int32))) :
    MetFree l x (head1 (Jvm.Cond.code x code maxLocals ret :: ws) room_1) (fun aa_ UU_ => aa_ = #[(.int p1)] ∧ Z.Warmed39 UU_.vm ∧ UU_.heap = h0) (fun _ _ _ _ _ => True) (fun _ UU_ oo_ UE_ => ∃ vv_ LL_, oo_ = .returned vv_ ∧ Q0 n0 vv_ UE_.heap LL_ ∧ FrameEnd UU_ oo_ UE_ LL_ room_1.cells room_1.slots) := by
  refine MetFree.of_bodySF (plainFor_of_name pn_1) hisR ?_
  intro p e s m args below meth c s₁ Bd hml0 hP hK
  obtain ⟨rfl, hZ, hh⟩ := hP
  have hx := Bd.exec
  have hby := Bd.bytes
  have hml : c.maxLocals = 5 := hml0
  have hown : s.vm.findClass "com/example/deadpaths_to_precision/deadpathstoprecision/frontend/BinaryOperatorIsUndefinedOnOverflowPinLaw" = some m.cls := findClass_of_methodNamed Bd.named
  have hnm := (name_of_methodNamed Bd.named Bd.method).1
  have X0 : Stand p l e room_1 s m #[(.int p1)] below meth c s₁ [] 0 0 := Stand.of_body Bd
  have e0 : s₁.heap = h0 := by rw [← hh, Bd.state]; rfl
  have N0 := Fr.nil n0
  have pre0 : ∀ tg, Steps p.tables e below (s₁.setTop (mkF m 0 #[.val (.int p1), .unset, .unset, .unset, .unset] [])) tg → Steps p.tables e below (s₁.setTop (entryFrame m #[(.int p1)] maxLocals)) tg := fun tg kq_ => castTop (ef_rm0 m p1) kq_
  obtain ⟨T1, h1, k1, X1, e1, E1, A1, EX1, O1, st1⟩ := newRE X0 hx hZ hown (hw _ (List.mem_of_getElem? (i := 0) rfl)) (hw _ (List.mem_of_getElem? (i := 1) rfl)) e0 (g := (mkF m 2 #[.val (.int p1), .unset, .unset, .unset, .unset] [(.int (18 : Int32))])) rfl (hb hby at_2) rfl (by decide) (cap := 18) (by decide) (by decide) (by decide) (by decide) (ad := "[Lcom/example/deadpaths_to_precision/deadpathstoprecision/frontend/BinaryOperator;") (by decide)
  obtain ⟨b1, g1⟩ : ∃ z, z = h0.size := ⟨_, rfl⟩
  rw [← g1] at A1 EX1 st1
  have gb_b1 : n0 ≤ b1 := Nat.le_trans Z0 (Nat.le_of_eq g1.symm)
  have Z1 : n0 ≤ h1.size := Nat.le_trans Z0 E1.1
  have V1 : Arv Z h1 b1 k1 (.object "com/example/deadpaths_to_precision/deadpathstoprecision/frontend/BinaryOperator") (18 : Int32) [.null, .null, .null, .null, .null, .null, .null, .null, .null, .null, .null, .null, .null, .null, .null, .null, .null, .null] .null := (Arv.new A1 (by decide)).pad (pad_rep [] .null 18)
  have f2 := (S_MULTIPLY.ext E1)
  obtain ⟨T3, X3, e3, st3⟩ := getS2 X1 hx hZ hown (host := "") (Or.inl (hw _ (List.mem_of_getElem? (i := 2) rfl))) Via.refl e1 f2 (g := (mkF m 7 #[.val (.int p1), .unset, .unset, .unset, .unset] [(.int (0 : Int32)), (.ref b1), (.ref b1)])) rfl (hb hby at_7)
  obtain ⟨cl4, Ar4, q4, Sz4, Nn4, Ha4, Ga4⟩ := V1
  have hin4 : ¬ ((0 : Int32) < 0 ∨ cl4.slots.size ≤ ((0 : Int32)).toNatClampNeg) := inb_of Sz4 ⟨by decide, by decide⟩
  have f5 := (E_MULTIPLY.ext E1)
  obtain ⟨T4, h4, X4, e4, W4, st4⟩ := stR X3 hx hZ e3 Ar4 (j := (0 : Int32)) hin4 rfl (Sto.ofV Ar4 q4 O1 (Ins.self f5)) (g := (mkF m 10 #[.val (.int p1), .unset, .unset, .unset, .unset] [(.ref a_MULTIPLY), (.int (0 : Int32)), (.ref b1), (.ref b1)])) rfl rfl (hb hby at_10)
  have V4 : Arv Z h4 b1 k1 (.object "com/example/deadpaths_to_precision/deadpathstoprecision/frontend/BinaryOperator") (18 : Int32) [(.ref a_MULTIPLY), .null, .null, .null, .null, .null, .null, .null, .null, .null, .null, .null, .null, .null, .null, .null, .null, .null] .null := Arv.set Ar4 q4 Sz4 Nn4 Ha4 Ga4 rfl W4 0 rfl (Nat.le_of_ble_eq_true rfl)
  have Z4 : n0 ≤ h4.size := Nat.le_trans Z1 (Nat.le_of_eq W4.size.symm)
  have N4 := Fr.snoc X4 N0 gb_b1
  have f6 := ((S_DIVIDE.ext E1).wr W4)
  obtain ⟨T7, X7, e7, st7⟩ := getS2 X4 hx hZ hown (host := "") (Or.inl (hw _ (List.mem_of_getElem? (i := 6) rfl))) Via.refl e4 f6 (g := (mkF m 13 #[.val (.int p1), .unset, .unset, .unset, .unset] [(.int (1 : Int32)), (.ref b1), (.ref b1)])) rfl (hb hby at_13)
  obtain ⟨cl8, Ar8, q8, Sz8, Nn8, Ha8, Ga8⟩ := V4
  have hin8 : ¬ ((1 : Int32) < 0 ∨ cl8.slots.size ≤ ((1 : Int32)).toNatClampNeg) := inb_of Sz8 ⟨by decide, by decide⟩
  have f9 := ((E_DIVIDE.ext E1).wr W4)
  obtain ⟨T8, h8, X8, e8, W8, st8⟩ := stR X7 hx hZ e7 Ar8 (j := (1 : Int32)) hin8 rfl (Sto.ofV Ar8 q8 O1 (Ins.self f9)) (g := (mkF m 16 #[.val (.int p1), .unset, .unset, .unset, .unset] [(.ref a_DIVIDE), (.int (1 : Int32)), (.ref b1), (.ref b1)])) rfl rfl (hb hby at_16)
  have V8 : Arv Z h8 b1 k1 (.object "com/example/deadpaths_to_precision/deadpathstoprecision/frontend/BinaryOperator") (18 : Int32) [(.ref a_MULTIPLY), (.ref a_DIVIDE), .null, .null, .null, .null, .null, .null, .null, .null, .null, .null, .null, .null, .null, .null, .null, .null] .null := Arv.set Ar8 q8 Sz8 Nn8 Ha8 Ga8 rfl W8 1 rfl (Nat.le_of_ble_eq_true rfl)
  have Z8 : n0 ≤ h8.size := Nat.le_trans Z4 (Nat.le_of_eq W8.size.symm)
  have N8 := Fr.snoc X8 N4 gb_b1
  have f10 := (((S_REMAINDER.ext E1).wr W4).wr W8)
  obtain ⟨T11, X11, e11, st11⟩ := getS2 X8 hx hZ hown (host := "") (Or.inl (hw _ (List.mem_of_getElem? (i := 8) rfl))) Via.refl e8 f10 (g := (mkF m 19 #[.val (.int p1), .unset, .unset, .unset, .unset] [(.int (2 : Int32)), (.ref b1), (.ref b1)])) rfl (hb hby at_19)
  obtain ⟨cl12, Ar12, q12, Sz12, Nn12, Ha12, Ga12⟩ := V8
  have hin12 : ¬ ((2 : Int32) < 0 ∨ cl12.slots.size ≤ ((2 : Int32)).toNatClampNeg) := inb_of Sz12 ⟨by decide, by decide⟩
  have f13 := (((E_REMAINDER.ext E1).wr W4).wr W8)
  obtain ⟨T12, h12, X12, e12, W12, st12⟩ := stR X11 hx hZ e11 Ar12 (j := (2 : Int32)) hin12 rfl (Sto.ofV Ar12 q12 O1 (Ins.self f13)) (g := (mkF m 22 #[.val (.int p1), .unset, .unset, .unset, .unset] [(.ref a_REMAINDER), (.int (2 : Int32)), (.ref b1), (.ref b1)])) rfl rfl (hb hby at_22)
  have V12 : Arv Z h12 b1 k1 (.object "com/example/deadpaths_to_precision/deadpathstoprecision/frontend/BinaryOperator") (18 : Int32) [(.ref a_MULTIPLY), (.ref a_DIVIDE), (.ref a_REMAINDER), .null, .null, .null, .null, .null, .null, .null, .null, .null, .null, .null, .null, .null, .null, .null] .null := Arv.set Ar12 q12 Sz12 Nn12 Ha12 Ga12 rfl W12 2 rfl (Nat.le_of_ble_eq_true rfl)
  have Z12 : n0 ≤ h12.size := Nat.le_trans Z8 (Nat.le_of_eq W12.size.symm)
  have N12 := Fr.snoc X12 N8 gb_b1
  have f14 := ((((S_ADD.ext E1).wr W4).wr W8).wr W12)
  obtain ⟨T15, X15, e15, st15⟩ := getS2 X12 hx hZ hown (host := "") (Or.inl (hw _ (List.mem_of_getElem? (i := 10) rfl))) Via.refl e12 f14 (g := (mkF m 25 #[.val (.int p1), .unset, .unset, .unset, .unset] [(.int (3 : Int32)), (.ref b1), (.ref b1)])) rfl (hb hby at_25)
  obtain ⟨cl16, Ar16, q16, Sz16, Nn16, Ha16, Ga16⟩ := V12
  have hin16 : ¬ ((3 : Int32) < 0 ∨ cl16.slots.size ≤ ((3 : Int32)).toNatClampNeg) := inb_of Sz16 ⟨by decide, by decide⟩
  have f17 := ((((E_ADD.ext E1).wr W4).wr W8).wr W12)
  obtain ⟨T16, h16, X16, e16, W16, st16⟩ := stR X15 hx hZ e15 Ar16 (j := (3 : Int32)) hin16 rfl (Sto.ofV Ar16 q16 O1 (Ins.self f17)) (g := (mkF m 28 #[.val (.int p1), .unset, .unset, .unset, .unset] [(.ref a_ADD), (.int (3 : Int32)), (.ref b1), (.ref b1)])) rfl rfl (hb hby at_28)
  have V16 : Arv Z h16 b1 k1 (.object "com/example/deadpaths_to_precision/deadpathstoprecision/frontend/BinaryOperator") (18 : Int32) [(.ref a_MULTIPLY), (.ref a_DIVIDE), (.ref a_REMAINDER), (.ref a_ADD), .null, .null, .null, .null, .null, .null, .null, .null, .null, .null, .null, .null, .null, .null] .null := Arv.set Ar16 q16 Sz16 Nn16 Ha16 Ga16 rfl W16 3 rfl (Nat.le_of_ble_eq_true rfl)
  have Z16 : n0 ≤ h16.size := Nat.le_trans Z12 (Nat.le_of_eq W16.size.symm)
  have N16 := Fr.snoc X16 N12 gb_b1
  have f18 := (((((S_SUBTRACT.ext E1).wr W4).wr W8).wr W12).wr W16)
  obtain ⟨T19, X19, e19, st19⟩ := getS2 X16 hx hZ hown (host := "") (Or.inl (hw _ (List.mem_of_getElem? (i := 12) rfl))) Via.refl e16 f18 (g := (mkF m 31 #[.val (.int p1), .unset, .unset, .unset, .unset] [(.int (4 : Int32)), (.ref b1), (.ref b1)])) rfl (hb hby at_31)
  obtain ⟨cl20, Ar20, q20, Sz20, Nn20, Ha20, Ga20⟩ := V16
  have hin20 : ¬ ((4 : Int32) < 0 ∨ cl20.slots.size ≤ ((4 : Int32)).toNatClampNeg) := inb_of Sz20 ⟨by decide, by decide⟩
  have f21 := (((((E_SUBTRACT.ext E1).wr W4).wr W8).wr W12).wr W16)
  obtain ⟨T20, h20, X20, e20, W20, st20⟩ := stR X19 hx hZ e19 Ar20 (j := (4 : Int32)) hin20 rfl (Sto.ofV Ar20 q20 O1 (Ins.self f21)) (g := (mkF m 34 #[.val (.int p1), .unset, .unset, .unset, .unset] [(.ref a_SUBTRACT), (.int (4 : Int32)), (.ref b1), (.ref b1)])) rfl rfl (hb hby at_34)
  have V20 : Arv Z h20 b1 k1 (.object "com/example/deadpaths_to_precision/deadpathstoprecision/frontend/BinaryOperator") (18 : Int32) [(.ref a_MULTIPLY), (.ref a_DIVIDE), (.ref a_REMAINDER), (.ref a_ADD), (.ref a_SUBTRACT), .null, .null, .null, .null, .null, .null, .null, .null, .null, .null, .null, .null, .null] .null := Arv.set Ar20 q20 Sz20 Nn20 Ha20 Ga20 rfl W20 4 rfl (Nat.le_of_ble_eq_true rfl)
  have Z20 : n0 ≤ h20.size := Nat.le_trans Z16 (Nat.le_of_eq W20.size.symm)
  have N20 := Fr.snoc X20 N16 gb_b1
  have f22 := ((((((S_SHIFT_LEFT.ext E1).wr W4).wr W8).wr W12).wr W16).wr W20)
  obtain ⟨T23, X23, e23, st23⟩ := getS2 X20 hx hZ hown (host := "") (Or.inl (hw _ (List.mem_of_getElem? (i := 14) rfl))) Via.refl e20 f22 (g := (mkF m 37 #[.val (.int p1), .unset, .unset, .unset, .unset] [(.int (5 : Int32)), (.ref b1), (.ref b1)])) rfl (hb hby at_37)
  obtain ⟨cl24, Ar24, q24, Sz24, Nn24, Ha24, Ga24⟩ := V20
  have hin24 : ¬ ((5 : Int32) < 0 ∨ cl24.slots.size ≤ ((5 : Int32)).toNatClampNeg) := inb_of Sz24 ⟨by decide, by decide⟩
  have f25 := ((((((E_SHIFT_LEFT.ext E1).wr W4).wr W8).wr W12).wr W16).wr W20)
  obtain ⟨T24, h24, X24, e24, W24, st24⟩ := stR X23 hx hZ e23 Ar24 (j := (5 : Int32)) hin24 rfl (Sto.ofV Ar24 q24 O1 (Ins.self f25)) (g := (mkF m 40 #[.val (.int p1), .unset, .unset, .unset, .unset] [(.ref a_SHIFT_LEFT), (.int (5 : Int32)), (.ref b1), (.ref b1)])) rfl rfl (hb hby at_40)
  have V24 : Arv Z h24 b1 k1 (.object "com/example/deadpaths_to_precision/deadpathstoprecision/frontend/BinaryOperator") (18 : Int32) [(.ref a_MULTIPLY), (.ref a_DIVIDE), (.ref a_REMAINDER), (.ref a_ADD), (.ref a_SUBTRACT), (.ref a_SHIFT_LEFT), .null, .null, .null, .null, .null, .null, .null, .null, .null, .null, .null, .null] .null := Arv.set Ar24 q24 Sz24 Nn24 Ha24 Ga24 rfl W24 5 rfl (Nat.le_of_ble_eq_true rfl)
  have Z24 : n0 ≤ h24.size := Nat.le_trans Z20 (Nat.le_of_eq W24.size.symm)
  have N24 := Fr.snoc X24 N20 gb_b1
  have f26 := (((((((S_SHIFT_RIGHT.ext E1).wr W4).wr W8).wr W12).wr W16).wr W20).wr W24)
  obtain ⟨T27, X27, e27, st27⟩ := getS2 X24 hx hZ hown (host := "") (Or.inl (hw _ (List.mem_of_getElem? (i := 16) rfl))) Via.refl e24 f26 (g := (mkF m 44 #[.val (.int p1), .unset, .unset, .unset, .unset] [(.int (6 : Int32)), (.ref b1), (.ref b1)])) rfl (hb hby at_44)
  obtain ⟨cl28, Ar28, q28, Sz28, Nn28, Ha28, Ga28⟩ := V24
  have hin28 : ¬ ((6 : Int32) < 0 ∨ cl28.slots.size ≤ ((6 : Int32)).toNatClampNeg) := inb_of Sz28 ⟨by decide, by decide⟩
  have f29 := (((((((E_SHIFT_RIGHT.ext E1).wr W4).wr W8).wr W12).wr W16).wr W20).wr W24)
  obtain ⟨T28, h28, X28, e28, W28, st28⟩ := stR X27 hx hZ e27 Ar28 (j := (6 : Int32)) hin28 rfl (Sto.ofV Ar28 q28 O1 (Ins.self f29)) (g := (mkF m 47 #[.val (.int p1), .unset, .unset, .unset, .unset] [(.ref a_SHIFT_RIGHT), (.int (6 : Int32)), (.ref b1), (.ref b1)])) rfl rfl (hb hby at_47)
  have V28 : Arv Z h28 b1 k1 (.object "com/example/deadpaths_to_precision/deadpathstoprecision/frontend/BinaryOperator") (18 : Int32) [(.ref a_MULTIPLY), (.ref a_DIVIDE), (.ref a_REMAINDER), (.ref a_ADD), (.ref a_SUBTRACT), (.ref a_SHIFT_LEFT), (.ref a_SHIFT_RIGHT), .null, .null, .null, .null, .null, .null, .null, .null, .null, .null, .null] .null := Arv.set Ar28 q28 Sz28 Nn28 Ha28 Ga28 rfl W28 6 rfl (Nat.le_of_ble_eq_true rfl)
  have Z28 : n0 ≤ h28.size := Nat.le_trans Z24 (Nat.le_of_eq W28.size.symm)
  have N28 := Fr.snoc X28 N24 gb_b1
  have f30 := ((((((((S_LESS.ext E1).wr W4).wr W8).wr W12).wr W16).wr W20).wr W24).wr W28)
  obtain ⟨T31, X31, e31, st31⟩ := getS2 X28 hx hZ hown (host := "") (Or.inl (hw _ (List.mem_of_getElem? (i := 18) rfl))) Via.refl e28 f30 (g := (mkF m 51 #[.val (.int p1), .unset, .unset, .unset, .unset] [(.int (7 : Int32)), (.ref b1), (.ref b1)])) rfl (hb hby at_51)
  obtain ⟨cl32, Ar32, q32, Sz32, Nn32, Ha32, Ga32⟩ := V28
  have hin32 : ¬ ((7 : Int32) < 0 ∨ cl32.slots.size ≤ ((7 : Int32)).toNatClampNeg) := inb_of Sz32 ⟨by decide, by decide⟩
  have f33 := ((((((((E_LESS.ext E1).wr W4).wr W8).wr W12).wr W16).wr W20).wr W24).wr W28)
  obtain ⟨T32, h32, X32, e32, W32, st32⟩ := stR X31 hx hZ e31 Ar32 (j := (7 : Int32)) hin32 rfl (Sto.ofV Ar32 q32 O1 (Ins.self f33)) (g := (mkF m 54 #[.val (.int p1), .unset, .unset, .unset, .unset] [(.ref a_LESS), (.int (7 : Int32)), (.ref b1), (.ref b1)])) rfl rfl (hb hby at_54)
  have V32 : Arv Z h32 b1 k1 (.object "com/example/deadpaths_to_precision/deadpathstoprecision/frontend/BinaryOperator") (18 : Int32) [(.ref a_MULTIPLY), (.ref a_DIVIDE), (.ref a_REMAINDER), (.ref a_ADD), (.ref a_SUBTRACT), (.ref a_SHIFT_LEFT), (.ref a_SHIFT_RIGHT), (.ref a_LESS), .null, .null, .null, .null, .null, .null, .null, .null, .null, .null] .null := Arv.set Ar32 q32 Sz32 Nn32 Ha32 Ga32 rfl W32 7 rfl (Nat.le_of_ble_eq_true rfl)
  have Z32 : n0 ≤ h32.size := Nat.le_trans Z28 (Nat.le_of_eq W32.size.symm)
  have N32 := Fr.snoc X32 N28 gb_b1
  have f34 := (((((((((S_GREATER.ext E1).wr W4).wr W8).wr W12).wr W16).wr W20).wr W24).wr W28).wr W32)
  obtain ⟨T35, X35, e35, st35⟩ := getS2 X32 hx hZ hown (host := "") (Or.inl (hw _ (List.mem_of_getElem? (i := 20) rfl))) Via.refl e32 f34 (g := (mkF m 58 #[.val (.int p1), .unset, .unset, .unset, .unset] [(.int (8 : Int32)), (.ref b1), (.ref b1)])) rfl (hb hby at_58)
  obtain ⟨cl36, Ar36, q36, Sz36, Nn36, Ha36, Ga36⟩ := V32
  have hin36 : ¬ ((8 : Int32) < 0 ∨ cl36.slots.size ≤ ((8 : Int32)).toNatClampNeg) := inb_of Sz36 ⟨by decide, by decide⟩
  have f37 := (((((((((E_GREATER.ext E1).wr W4).wr W8).wr W12).wr W16).wr W20).wr W24).wr W28).wr W32)
  obtain ⟨T36, h36, X36, e36, W36, st36⟩ := stR X35 hx hZ e35 Ar36 (j := (8 : Int32)) hin36 rfl (Sto.ofV Ar36 q36 O1 (Ins.self f37)) (g := (mkF m 61 #[.val (.int p1), .unset, .unset, .unset, .unset] [(.ref a_GREATER), (.int (8 : Int32)), (.ref b1), (.ref b1)])) rfl rfl (hb hby at_61)
  have V36 : Arv Z h36 b1 k1 (.object "com/example/deadpaths_to_precision/deadpathstoprecision/frontend/BinaryOperator") (18 : Int32) [(.ref a_MULTIPLY), (.ref a_DIVIDE), (.ref a_REMAINDER), (.ref a_ADD), (.ref a_SUBTRACT), (.ref a_SHIFT_LEFT), (.ref a_SHIFT_RIGHT), (.ref a_LESS), (.ref a_GREATER), .null, .null, .null, .null, .null, .null, .null, .null, .null] .null := Arv.set Ar36 q36 Sz36 Nn36 Ha36 Ga36 rfl W36 8 rfl (Nat.le_of_ble_eq_true rfl)
  have Z36 : n0 ≤ h36.size := Nat.le_trans Z32 (Nat.le_of_eq W36.size.symm)
  have N36 := Fr.snoc X36 N32 gb_b1
  have f38 := ((((((((((S_LESS_EQUAL.ext E1).wr W4).wr W8).wr W12).wr W16).wr W20).wr W24).wr W28).wr W32).wr W36)
  obtain ⟨T39, X39, e39, st39⟩ := getS2 X36 hx hZ hown (host := "") (Or.inl (hw _ (List.mem_of_getElem? (i := 22) rfl))) Via.refl e36 f38 (g := (mkF m 65 #[.val (.int p1), .unset, .unset, .unset, .unset] [(.int (9 : Int32)), (.ref b1), (.ref b1)])) rfl (hb hby at_65)
  obtain ⟨cl40, Ar40, q40, Sz40, Nn40, Ha40, Ga40⟩ := V36
  have hin40 : ¬ ((9 : Int32) < 0 ∨ cl40.slots.size ≤ ((9 : Int32)).toNatClampNeg) := inb_of Sz40 ⟨by decide, by decide⟩
  have f41 := ((((((((((E_LESS_EQUAL.ext E1).wr W4).wr W8).wr W12).wr W16).wr W20).wr W24).wr W28).wr W32).wr W36)
  obtain ⟨T40, h40, X40, e40, W40, st40⟩ := stR X39 hx hZ e39 Ar40 (j := (9 : Int32)) hin40 rfl (Sto.ofV Ar40 q40 O1 (Ins.self f41)) (g := (mkF m 68 #[.val (.int p1), .unset, .unset, .unset, .unset] [(.ref a_LESS_EQUAL), (.int (9 : Int32)), (.ref b1), (.ref b1)])) rfl rfl (hb hby at_68)
  have V40 : Arv Z h40 b1 k1 (.object "com/example/deadpaths_to_precision/deadpathstoprecision/frontend/BinaryOperator") (18 : Int32) [(.ref a_MULTIPLY), (.ref a_DIVIDE), (.ref a_REMAINDER), (.ref a_ADD), (.ref a_SUBTRACT), (.ref a_SHIFT_LEFT), (.ref a_SHIFT_RIGHT), (.ref a_LESS), (.ref a_GREATER), (.ref a_LESS_EQUAL), .null, .null, .null, .null, .null, .null, .null, .null] .null := Arv.set Ar40 q40 Sz40 Nn40 Ha40 Ga40 rfl W40 9 rfl (Nat.le_of_ble_eq_true rfl)
  have Z40 : n0 ≤ h40.size := Nat.le_trans Z36 (Nat.le_of_eq W40.size.symm)
  have N40 := Fr.snoc X40 N36 gb_b1
  have f42 := (((((((((((S_GREATER_EQUAL.ext E1).wr W4).wr W8).wr W12).wr W16).wr W20).wr W24).wr W28).wr W32).wr W36).wr W40)
  obtain ⟨T43, X43, e43, st43⟩ := getS2 X40 hx hZ hown (host := "") (Or.inl (hw _ (List.mem_of_getElem? (i := 24) rfl))) Via.refl e40 f42 (g := (mkF m 72 #[.val (.int p1), .unset, .unset, .unset, .unset] [(.int (10 : Int32)), (.ref b1), (.ref b1)])) rfl (hb hby at_72)
  obtain ⟨cl44, Ar44, q44, Sz44, Nn44, Ha44, Ga44⟩ := V40
  have hin44 : ¬ ((10 : Int32) < 0 ∨ cl44.slots.size ≤ ((10 : Int32)).toNatClampNeg) := inb_of Sz44 ⟨by decide, by decide⟩
  have f45 := (((((((((((E_GREATER_EQUAL.ext E1).wr W4).wr W8).wr W12).wr W16).wr W20).wr W24).wr W28).wr W32).wr W36).wr W40)
  obtain ⟨T44, h44, X44, e44, W44, st44⟩ := stR X43 hx hZ e43 Ar44 (j := (10 : Int32)) hin44 rfl (Sto.ofV Ar44 q44 O1 (Ins.self f45)) (g := (mkF m 75 #[.val (.int p1), .unset, .unset, .unset, .unset] [(.ref a_GREATER_EQUAL), (.int (10 : Int32)), (.ref b1), (.ref b1)])) rfl rfl (hb hby at_75)
  have V44 : Arv Z h44 b1 k1 (.object "com/example/deadpaths_to_precision/deadpathstoprecision/frontend/BinaryOperator") (18 : Int32) [(.ref a_MULTIPLY), (.ref a_DIVIDE), (.ref a_REMAINDER), (.ref a_ADD), (.ref a_SUBTRACT), (.ref a_SHIFT_LEFT), (.ref a_SHIFT_RIGHT), (.ref a_LESS), (.ref a_GREATER), (.ref a_LESS_EQUAL), (.ref a_GREATER_EQUAL), .null, .null, .null, .null, .null, .null, .null] .null := Arv.set Ar44 q44 Sz44 Nn44 Ha44 Ga44 rfl W44 10 rfl (Nat.le_of_ble_eq_true rfl)
  have Z44 : n0 ≤ h44.size := Nat.le_trans Z40 (Nat.le_of_eq W44.size.symm)
  have N44 := Fr.snoc X44 N40 gb_b1
  have f46 := ((((((((((((S_EQUAL.ext E1).wr W4).wr W8).wr W12).wr W16).wr W20).wr W24).wr W28).wr W32).wr W36).wr W40).wr W44)
  obtain ⟨T47, X47, e47, st47⟩ := getS2 X44 hx hZ hown (host := "") (Or.inl (hw _ (List.mem_of_getElem? (i := 26) rfl))) Via.refl e44 f46 (g := (mkF m 79 #[.val (.int p1), .unset, .unset, .unset, .unset] [(.int (11 : Int32)), (.ref b1), (.ref b1)])) rfl (hb hby at_79)
  obtain ⟨cl48, Ar48, q48, Sz48, Nn48, Ha48, Ga48⟩ := V44
  have hin48 : ¬ ((11 : Int32) < 0 ∨ cl48.slots.size ≤ ((11 : Int32)).toNatClampNeg) := inb_of Sz48 ⟨by decide, by decide⟩
  have f49 := ((((((((((((E_EQUAL.ext E1).wr W4).wr W8).wr W12).wr W16).wr W20).wr W24).wr W28).wr W32).wr W36).wr W40).wr W44)
  obtain ⟨T48, h48, X48, e48, W48, st48⟩ := stR X47 hx hZ e47 Ar48 (j := (11 : Int32)) hin48 rfl (Sto.ofV Ar48 q48 O1 (Ins.self f49)) (g := (mkF m 82 #[.val (.int p1), .unset, .unset, .unset, .unset] [(.ref a_EQUAL), (.int (11 : Int32)), (.ref b1), (.ref b1)])) rfl rfl (hb hby at_82)
  have V48 : Arv Z h48 b1 k1 (.object "com/example/deadpaths_to_precision/deadpathstoprecision/frontend/BinaryOperator") (18 : Int32) [(.ref a_MULTIPLY), (.ref a_DIVIDE), (.ref a_REMAINDER), (.ref a_ADD), (.ref a_SUBTRACT), (.ref a_SHIFT_LEFT), (.ref a_SHIFT_RIGHT), (.ref a_LESS), (.ref a_GREATER), (.ref a_LESS_EQUAL), (.ref a_GREATER_EQUAL), (.ref a_EQUAL), .null, .null, .null, .null, .null, .null] .null := Arv.set Ar48 q48 Sz48 Nn48 Ha48 Ga48 rfl W48 11 rfl (Nat.le_of_ble_eq_true rfl)
  have Z48 : n0 ≤ h48.size := Nat.le_trans Z44 (Nat.le_of_eq W48.size.symm)
  have N48 := Fr.snoc X48 N44 gb_b1
  have f50 := (((((((((((((S_NOT_EQUAL.ext E1).wr W4).wr W8).wr W12).wr W16).wr W20).wr W24).wr W28).wr W32).wr W36).wr W40).wr W44).wr W48)
  obtain ⟨T51, X51, e51, st51⟩ := getS2 X48 hx hZ hown (host := "") (Or.inl (hw _ (List.mem_of_getElem? (i := 28) rfl))) Via.refl e48 f50 (g := (mkF m 86 #[.val (.int p1), .unset, .unset, .unset, .unset] [(.int (12 : Int32)), (.ref b1), (.ref b1)])) rfl (hb hby at_86)
  obtain ⟨cl52, Ar52, q52, Sz52, Nn52, Ha52, Ga52⟩ := V48
  have hin52 : ¬ ((12 : Int32) < 0 ∨ cl52.slots.size ≤ ((12 : Int32)).toNatClampNeg) := inb_of Sz52 ⟨by decide, by decide⟩
  have f53 := (((((((((((((E_NOT_EQUAL.ext E1).wr W4).wr W8).wr W12).wr W16).wr W20).wr W24).wr W28).wr W32).wr W36).wr W40).wr W44).wr W48)
  obtain ⟨T52, h52, X52, e52, W52, st52⟩ := stR X51 hx hZ e51 Ar52 (j := (12 : Int32)) hin52 rfl (Sto.ofV Ar52 q52 O1 (Ins.self f53)) (g := (mkF m 89 #[.val (.int p1), .unset, .unset, .unset, .unset] [(.ref a_NOT_EQUAL), (.int (12 : Int32)), (.ref b1), (.ref b1)])) rfl rfl (hb hby at_89)
  have V52 : Arv Z h52 b1 k1 (.object "com/example/deadpaths_to_precision/deadpathstoprecision/frontend/BinaryOperator") (18 : Int32) [(.ref a_MULTIPLY), (.ref a_DIVIDE), (.ref a_REMAINDER), (.ref a_ADD), (.ref a_SUBTRACT), (.ref a_SHIFT_LEFT), (.ref a_SHIFT_RIGHT), (.ref a_LESS), (.ref a_GREATER), (.ref a_LESS_EQUAL), (.ref a_GREATER_EQUAL), (.ref a_EQUAL), (.ref a_NOT_EQUAL), .null, .null, .null, .null, .null] .null := Arv.set Ar52 q52 Sz52 Nn52 Ha52 Ga52 rfl W52 12 rfl (Nat.le_of_ble_eq_true rfl)
  have Z52 : n0 ≤ h52.size := Nat.le_trans Z48 (Nat.le_of_eq W52.size.symm)
  have N52 := Fr.snoc X52 N48 gb_b1
  have f54 := ((((((((((((((S_BITWISE_AND.ext E1).wr W4).wr W8).wr W12).wr W16).wr W20).wr W24).wr W28).wr W32).wr W36).wr W40).wr W44).wr W48).wr W52)
  obtain ⟨T55, X55, e55, st55⟩ := getS2 X52 hx hZ hown (host := "") (Or.inl (hw _ (List.mem_of_getElem? (i := 30) rfl))) Via.refl e52 f54 (g := (mkF m 93 #[.val (.int p1), .unset, .unset, .unset, .unset] [(.int (13 : Int32)), (.ref b1), (.ref b1)])) rfl (hb hby at_93)
  obtain ⟨cl56, Ar56, q56, Sz56, Nn56, Ha56, Ga56⟩ := V52
  have hin56 : ¬ ((13 : Int32) < 0 ∨ cl56.slots.size ≤ ((13 : Int32)).toNatClampNeg) := inb_of Sz56 ⟨by decide, by decide⟩
  have f57 := ((((((((((((((E_BITWISE_AND.ext E1).wr W4).wr W8).wr W12).wr W16).wr W20).wr W24).wr W28).wr W32).wr W36).wr W40).wr W44).wr W48).wr W52)
  obtain ⟨T56, h56, X56, e56, W56, st56⟩ := stR X55 hx hZ e55 Ar56 (j := (13 : Int32)) hin56 rfl (Sto.ofV Ar56 q56 O1 (Ins.self f57)) (g := (mkF m 96 #[.val (.int p1), .unset, .unset, .unset, .unset] [(.ref a_BITWISE_AND), (.int (13 : Int32)), (.ref b1), (.ref b1)])) rfl rfl (hb hby at_96)
  have V56 : Arv Z h56 b1 k1 (.object "com/example/deadpaths_to_precision/deadpathstoprecision/frontend/BinaryOperator") (18 : Int32) [(.ref a_MULTIPLY), (.ref a_DIVIDE), (.ref a_REMAINDER), (.ref a_ADD), (.ref a_SUBTRACT), (.ref a_SHIFT_LEFT), (.ref a_SHIFT_RIGHT), (.ref a_LESS), (.ref a_GREATER), (.ref a_LESS_EQUAL), (.ref a_GREATER_EQUAL), (.ref a_EQUAL), (.ref a_NOT_EQUAL), (.ref a_BITWISE_AND), .null, .null, .null, .null] .null := Arv.set Ar56 q56 Sz56 Nn56 Ha56 Ga56 rfl W56 13 rfl (Nat.le_of_ble_eq_true rfl)
  have Z56 : n0 ≤ h56.size := Nat.le_trans Z52 (Nat.le_of_eq W56.size.symm)
  have N56 := Fr.snoc X56 N52 gb_b1
  have f58 := (((((((((((((((S_BITWISE_XOR.ext E1).wr W4).wr W8).wr W12).wr W16).wr W20).wr W24).wr W28).wr W32).wr W36).wr W40).wr W44).wr W48).wr W52).wr W56)
  obtain ⟨T59, X59, e59, st59⟩ := getS2 X56 hx hZ hown (host := "") (Or.inl (hw _ (List.mem_of_getElem? (i := 32) rfl))) Via.refl e56 f58 (g := (mkF m 100 #[.val (.int p1), .unset, .unset, .unset, .unset] [(.int (14 : Int32)), (.ref b1), (.ref b1)])) rfl (hb hby at_100)
  obtain ⟨cl60, Ar60, q60, Sz60, Nn60, Ha60, Ga60⟩ := V56
  have hin60 : ¬ ((14 : Int32) < 0 ∨ cl60.slots.size ≤ ((14 : Int32)).toNatClampNeg) := inb_of Sz60 ⟨by decide, by decide⟩
  have f61 := (((((((((((((((E_BITWISE_XOR.ext E1).wr W4).wr W8).wr W12).wr W16).wr W20).wr W24).wr W28).wr W32).wr W36).wr W40).wr W44).wr W48).wr W52).wr W56)
  obtain ⟨T60, h60, X60, e60, W60, st60⟩ := stR X59 hx hZ e59 Ar60 (j := (14 : Int32)) hin60 rfl (Sto.ofV Ar60 q60 O1 (Ins.self f61)) (g := (mkF m 103 #[.val (.int p1), .unset, .unset, .unset, .unset] [(.ref a_BITWISE_XOR), (.int (14 : Int32)), (.ref b1), (.ref b1)])) rfl rfl (hb hby at_103)
  have V60 : Arv Z h60 b1 k1 (.object "com/example/deadpaths_to_precision/deadpathstoprecision/frontend/BinaryOperator") (18 : Int32) [(.ref a_MULTIPLY), (.ref a_DIVIDE), (.ref a_REMAINDER), (.ref a_ADD), (.ref a_SUBTRACT), (.ref a_SHIFT_LEFT), (.ref a_SHIFT_RIGHT), (.ref a_LESS), (.ref a_GREATER), (.ref a_LESS_EQUAL), (.ref a_GREATER_EQUAL), (.ref a_EQUAL), (.ref a_NOT_EQUAL), (.ref a_BITWISE_AND), (.ref a_BITWISE_XOR), .null, .null, .null] .null := Arv.set Ar60 q60 Sz60 Nn60 Ha60 Ga60 rfl W60 14 rfl (Nat.le_of_ble_eq_true rfl)
  have Z60 : n0 ≤ h60.size := Nat.le_trans Z56 (Nat.le_of_eq W60.size.symm)
  have N60 := Fr.snoc X60 N56 gb_b1
  have f62 := ((((((((((((((((S_BITWISE_OR.ext E1).wr W4).wr W8).wr W12).wr W16).wr W20).wr W24).wr W28).wr W32).wr W36).wr W40).wr W44).wr W48).wr W52).wr W56).wr W60)
  obtain ⟨T63, X63, e63, st63⟩ := getS2 X60 hx hZ hown (host := "") (Or.inl (hw _ (List.mem_of_getElem? (i := 34) rfl))) Via.refl e60 f62 (g := (mkF m 107 #[.val (.int p1), .unset, .unset, .unset, .unset] [(.int (15 : Int32)), (.ref b1), (.ref b1)])) rfl (hb hby at_107)
  obtain ⟨cl64, Ar64, q64, Sz64, Nn64, Ha64, Ga64⟩ := V60
  have hin64 : ¬ ((15 : Int32) < 0 ∨ cl64.slots.size ≤ ((15 : Int32)).toNatClampNeg) := inb_of Sz64 ⟨by decide, by decide⟩
  have f65 := ((((((((((((((((E_BITWISE_OR.ext E1).wr W4).wr W8).wr W12).wr W16).wr W20).wr W24).wr W28).wr W32).wr W36).wr W40).wr W44).wr W48).wr W52).wr W56).wr W60)
  obtain ⟨T64, h64, X64, e64, W64, st64⟩ := stR X63 hx hZ e63 Ar64 (j := (15 : Int32)) hin64 rfl (Sto.ofV Ar64 q64 O1 (Ins.self f65)) (g := (mkF m 110 #[.val (.int p1), .unset, .unset, .unset, .unset] [(.ref a_BITWISE_OR), (.int (15 : Int32)), (.ref b1), (.ref b1)])) rfl rfl (hb hby at_110)
  have V64 : Arv Z h64 b1 k1 (.object "com/example/deadpaths_to_precision/deadpathstoprecision/frontend/BinaryOperator") (18 : Int32) [(.ref a_MULTIPLY), (.ref a_DIVIDE), (.ref a_REMAINDER), (.ref a_ADD), (.ref a_SUBTRACT), (.ref a_SHIFT_LEFT), (.ref a_SHIFT_RIGHT), (.ref a_LESS), (.ref a_GREATER), (.ref a_LESS_EQUAL), (.ref a_GREATER_EQUAL), (.ref a_EQUAL), (.ref a_NOT_EQUAL), (.ref a_BITWISE_AND), (.ref a_BITWISE_XOR), (.ref a_BITWISE_OR), .null, .null] .null := Arv.set Ar64 q64 Sz64 Nn64 Ha64 Ga64 rfl W64 15 rfl (Nat.le_of_ble_eq_true rfl)
  have Z64 : n0 ≤ h64.size := Nat.le_trans Z60 (Nat.le_of_eq W64.size.symm)
  have N64 := Fr.snoc X64 N60 gb_b1
  have f66 := (((((((((((((((((S_LOGICAL_AND.ext E1).wr W4).wr W8).wr W12).wr W16).wr W20).wr W24).wr W28).wr W32).wr W36).wr W40).wr W44).wr W48).wr W52).wr W56).wr W60).wr W64)
  obtain ⟨T67, X67, e67, st67⟩ := getS2 X64 hx hZ hown (host := "") (Or.inl (hw _ (List.mem_of_getElem? (i := 36) rfl))) Via.refl e64 f66 (g := (mkF m 114 #[.val (.int p1), .unset, .unset, .unset, .unset] [(.int (16 : Int32)), (.ref b1), (.ref b1)])) rfl (hb hby at_114)
  obtain ⟨cl68, Ar68, q68, Sz68, Nn68, Ha68, Ga68⟩ := V64
  have hin68 : ¬ ((16 : Int32) < 0 ∨ cl68.slots.size ≤ ((16 : Int32)).toNatClampNeg) := inb_of Sz68 ⟨by decide, by decide⟩
  have f69 := (((((((((((((((((E_LOGICAL_AND.ext E1).wr W4).wr W8).wr W12).wr W16).wr W20).wr W24).wr W28).wr W32).wr W36).wr W40).wr W44).wr W48).wr W52).wr W56).wr W60).wr W64)
  obtain ⟨T68, h68, X68, e68, W68, st68⟩ := stR X67 hx hZ e67 Ar68 (j := (16 : Int32)) hin68 rfl (Sto.ofV Ar68 q68 O1 (Ins.self f69)) (g := (mkF m 117 #[.val (.int p1), .unset, .unset, .unset, .unset] [(.ref a_LOGICAL_AND), (.int (16 : Int32)), (.ref b1), (.ref b1)])) rfl rfl (hb hby at_117)
  have V68 : Arv Z h68 b1 k1 (.object "com/example/deadpaths_to_precision/deadpathstoprecision/frontend/BinaryOperator") (18 : Int32) [(.ref a_MULTIPLY), (.ref a_DIVIDE), (.ref a_REMAINDER), (.ref a_ADD), (.ref a_SUBTRACT), (.ref a_SHIFT_LEFT), (.ref a_SHIFT_RIGHT), (.ref a_LESS), (.ref a_GREATER), (.ref a_LESS_EQUAL), (.ref a_GREATER_EQUAL), (.ref a_EQUAL), (.ref a_NOT_EQUAL), (.ref a_BITWISE_AND), (.ref a_BITWISE_XOR), (.ref a_BITWISE_OR), (.ref a_LOGICAL_AND), .null] .null := Arv.set Ar68 q68 Sz68 Nn68 Ha68 Ga68 rfl W68 16 rfl (Nat.le_of_ble_eq_true rfl)
  have Z68 : n0 ≤ h68.size := Nat.le_trans Z64 (Nat.le_of_eq W68.size.symm)
  have N68 := Fr.snoc X68 N64 gb_b1
  have f70 := ((((((((((((((((((S_LOGICAL_OR.ext E1).wr W4).wr W8).wr W12).wr W16).wr W20).wr W24).wr W28).wr W32).wr W36).wr W40).wr W44).wr W48).wr W52).wr W56).wr W60).wr W64).wr W68)
  obtain ⟨T71, X71, e71, st71⟩ := getS2 X68 hx hZ hown (host := "") (Or.inl (hw _ (List.mem_of_getElem? (i := 38) rfl))) Via.refl e68 f70 (g := (mkF m 121 #[.val (.int p1), .unset, .unset, .unset, .unset] [(.int (17 : Int32)), (.ref b1), (.ref b1)])) rfl (hb hby at_121)
  obtain ⟨cl72, Ar72, q72, Sz72, Nn72, Ha72, Ga72⟩ := V68
  have hin72 : ¬ ((17 : Int32) < 0 ∨ cl72.slots.size ≤ ((17 : Int32)).toNatClampNeg) := inb_of Sz72 ⟨by decide, by decide⟩
  have f73 := ((((((((((((((((((E_LOGICAL_OR.ext E1).wr W4).wr W8).wr W12).wr W16).wr W20).wr W24).wr W28).wr W32).wr W36).wr W40).wr W44).wr W48).wr W52).wr W56).wr W60).wr W64).wr W68)
  obtain ⟨T72, h72, X72, e72, W72, st72⟩ := stR X71 hx hZ e71 Ar72 (j := (17 : Int32)) hin72 rfl (Sto.ofV Ar72 q72 O1 (Ins.self f73)) (g := (mkF m 124 #[.val (.int p1), .unset, .unset, .unset, .unset] [(.ref a_LOGICAL_OR), (.int (17 : Int32)), (.ref b1), (.ref b1)])) rfl rfl (hb hby at_124)
  have V72 : Arv Z h72 b1 k1 (.object "com/example/deadpaths_to_precision/deadpathstoprecision/frontend/BinaryOperator") (18 : Int32) [(.ref a_MULTIPLY), (.ref a_DIVIDE), (.ref a_REMAINDER), (.ref a_ADD), (.ref a_SUBTRACT), (.ref a_SHIFT_LEFT), (.ref a_SHIFT_RIGHT), (.ref a_LESS), (.ref a_GREATER), (.ref a_LESS_EQUAL), (.ref a_GREATER_EQUAL), (.ref a_EQUAL), (.ref a_NOT_EQUAL), (.ref a_BITWISE_AND), (.ref a_BITWISE_XOR), (.ref a_BITWISE_OR), (.ref a_LOGICAL_AND), (.ref a_LOGICAL_OR)] .null := Arv.set Ar72 q72 Sz72 Nn72 Ha72 Ga72 rfl W72 17 rfl (Nat.le_of_ble_eq_true rfl)
  have Z72 : n0 ≤ h72.size := Nat.le_trans Z68 (Nat.le_of_eq W72.size.symm)
  have N72 := Fr.snoc X72 N68 gb_b1
  have f74 := ((((((((((((((((((f5.wr W4).wr W8).wr W12).wr W16).wr W20).wr W24).wr W28).wr W32).wr W36).wr W40).wr W44).wr W48).wr W52).wr W56).wr W60).wr W64).wr W68).wr W72)
  have f75 := (((((((((((((((((f9.wr W8).wr W12).wr W16).wr W20).wr W24).wr W28).wr W32).wr W36).wr W40).wr W44).wr W48).wr W52).wr W56).wr W60).wr W64).wr W68).wr W72)
  have f76 := ((((((((((((((((f13.wr W12).wr W16).wr W20).wr W24).wr W28).wr W32).wr W36).wr W40).wr W44).wr W48).wr W52).wr W56).wr W60).wr W64).wr W68).wr W72)
  have f77 := (((((((((((((((f17.wr W16).wr W20).wr W24).wr W28).wr W32).wr W36).wr W40).wr W44).wr W48).wr W52).wr W56).wr W60).wr W64).wr W68).wr W72)
  have f78 := ((((((((((((((f21.wr W20).wr W24).wr W28).wr W32).wr W36).wr W40).wr W44).wr W48).wr W52).wr W56).wr W60).wr W64).wr W68).wr W72)
  have f79 := (((((((((((((f25.wr W24).wr W28).wr W32).wr W36).wr W40).wr W44).wr W48).wr W52).wr W56).wr W60).wr W64).wr W68).wr W72)
  have f80 := ((((((((((((f29.wr W28).wr W32).wr W36).wr W40).wr W44).wr W48).wr W52).wr W56).wr W60).wr W64).wr W68).wr W72)
  have f81 := (((((((((((f33.wr W32).wr W36).wr W40).wr W44).wr W48).wr W52).wr W56).wr W60).wr W64).wr W68).wr W72)
  have f82 := ((((((((((f37.wr W36).wr W40).wr W44).wr W48).wr W52).wr W56).wr W60).wr W64).wr W68).wr W72)
  have f83 := (((((((((f41.wr W40).wr W44).wr W48).wr W52).wr W56).wr W60).wr W64).wr W68).wr W72)
  have f84 := ((((((((f45.wr W44).wr W48).wr W52).wr W56).wr W60).wr W64).wr W68).wr W72)
  have f85 := (((((((f49.wr W48).wr W52).wr W56).wr W60).wr W64).wr W68).wr W72)
  have f86 := ((((((f53.wr W52).wr W56).wr W60).wr W64).wr W68).wr W72)
  have f87 := (((((f57.wr W56).wr W60).wr W64).wr W68).wr W72)
  have f88 := ((((f61.wr W60).wr W64).wr W68).wr W72)
  have f89 := (((f65.wr W64).wr W68).wr W72)
  have f90 := ((f69.wr W68).wr W72)
  have f91 := (f73.wr W72)
  have f92 := ((((((((((((((((((f2.wr W4).wr W8).wr W12).wr W16).wr W20).wr W24).wr W28).wr W32).wr W36).wr W40).wr W44).wr W48).wr W52).wr W56).wr W60).wr W64).wr W68).wr W72)
  have f93 := (((((((((((((((((f6.wr W8).wr W12).wr W16).wr W20).wr W24).wr W28).wr W32).wr W36).wr W40).wr W44).wr W48).wr W52).wr W56).wr W60).wr W64).wr W68).wr W72)
  have f94 := ((((((((((((((((f10.wr W12).wr W16).wr W20).wr W24).wr W28).wr W32).wr W36).wr W40).wr W44).wr W48).wr W52).wr W56).wr W60).wr W64).wr W68).wr W72)
  have f95 := (((((((((((((((f14.wr W16).wr W20).wr W24).wr W28).wr W32).wr W36).wr W40).wr W44).wr W48).wr W52).wr W56).wr W60).wr W64).wr W68).wr W72)
  have f96 := ((((((((((((((f18.wr W20).wr W24).wr W28).wr W32).wr W36).wr W40).wr W44).wr W48).wr W52).wr W56).wr W60).wr W64).wr W68).wr W72)
  have R97 : ∀ tg, Steps p.tables e below (T72.setTop (mkF m 134 #[.val (.int p1), .val (.ref b1), .val (.int ((p1 &&& (2147483647 : Int32)) % (18 : Int32))), .unset, .unset] [])) tg → Steps p.tables e below (s₁.setTop (mkF m 0 #[.val (.int p1), .unset, .unset, .unset, .unset] [])) tg := by
    intro tg kt
    refine XS.bipush X0.here hx rfl (hb hby at_0) ?_
    show Steps p.tables e below (s₁.setTop (mkF m 2 #[.val (.int p1), .unset, .unset, .unset, .unset] [(.int (18 : Int32))])) _
    refine st1 _ ?_
    show Steps p.tables e below (T1.setTop (mkF m 5 #[.val (.int p1), .unset, .unset, .unset, .unset] [(.ref b1)])) _
    refine XS.dup X1.here hx rfl (hb hby at_5) rfl rfl ?_
    show Steps p.tables e below (T1.setTop (mkF m 6 #[.val (.int p1), .unset, .unset, .unset, .unset] [(.ref b1), (.ref b1)])) _
    refine XS.iconst X1.here hx rfl (hb hby at_6) ?_
    show Steps p.tables e below (T1.setTop (mkF m 7 #[.val (.int p1), .unset, .unset, .unset, .unset] [(.int (0 : Int32)), (.ref b1), (.ref b1)])) _
    refine st3 _ ?_
    show Steps p.tables e below (T3.setTop (mkF m 10 #[.val (.int p1), .unset, .unset, .unset, .unset] [(.ref a_MULTIPLY), (.int (0 : Int32)), (.ref b1), (.ref b1)])) _
    refine st4 _ ?_
    show Steps p.tables e below (T4.setTop (mkF m 11 #[.val (.int p1), .unset, .unset, .unset, .unset] [(.ref b1)])) _
    refine XS.dup X4.here hx rfl (hb hby at_11) rfl rfl ?_
    show Steps p.tables e below (T4.setTop (mkF m 12 #[.val (.int p1), .unset, .unset, .unset, .unset] [(.ref b1), (.ref b1)])) _
    refine XS.iconst X4.here hx rfl (hb hby at_12) ?_
    show Steps p.tables e below (T4.setTop (mkF m 13 #[.val (.int p1), .unset, .unset, .unset, .unset] [(.int (1 : Int32)), (.ref b1), (.ref b1)])) _
    refine st7 _ ?_
    show Steps p.tables e below (T7.setTop (mkF m 16 #[.val (.int p1), .unset, .unset, .unset, .unset] [(.ref a_DIVIDE), (.int (1 : Int32)), (.ref b1), (.ref b1)])) _
    refine st8 _ ?_
    show Steps p.tables e below (T8.setTop (mkF m 17 #[.val (.int p1), .unset, .unset, .unset, .unset] [(.ref b1)])) _
    refine XS.dup X8.here hx rfl (hb hby at_17) rfl rfl ?_
    show Steps p.tables e below (T8.setTop (mkF m 18 #[.val (.int p1), .unset, .unset, .unset, .unset] [(.ref b1), (.ref b1)])) _
    refine XS.iconst X8.here hx rfl (hb hby at_18) ?_
    show Steps p.tables e below (T8.setTop (mkF m 19 #[.val (.int p1), .unset, .unset, .unset, .unset] [(.int (2 : Int32)), (.ref b1), (.ref b1)])) _
    refine st11 _ ?_
    show Steps p.tables e below (T11.setTop (mkF m 22 #[.val (.int p1), .unset, .unset, .unset, .unset] [(.ref a_REMAINDER), (.int (2 : Int32)), (.ref b1), (.ref b1)])) _
    refine st12 _ ?_
    show Steps p.tables e below (T12.setTop (mkF m 23 #[.val (.int p1), .unset, .unset, .unset, .unset] [(.ref b1)])) _
    refine XS.dup X12.here hx rfl (hb hby at_23) rfl rfl ?_
    show Steps p.tables e below (T12.setTop (mkF m 24 #[.val (.int p1), .unset, .unset, .unset, .unset] [(.ref b1), (.ref b1)])) _
    refine XS.iconst X12.here hx rfl (hb hby at_24) ?_
    show Steps p.tables e below (T12.setTop (mkF m 25 #[.val (.int p1), .unset, .unset, .unset, .unset] [(.int (3 : Int32)), (.ref b1), (.ref b1)])) _
    refine st15 _ ?_
    show Steps p.tables e below (T15.setTop (mkF m 28 #[.val (.int p1), .unset, .unset, .unset, .unset] [(.ref a_ADD), (.int (3 : Int32)), (.ref b1), (.ref b1)])) _
    refine st16 _ ?_
    show Steps p.tables e below (T16.setTop (mkF m 29 #[.val (.int p1), .unset, .unset, .unset, .unset] [(.ref b1)])) _
    refine XS.dup X16.here hx rfl (hb hby at_29) rfl rfl ?_
    show Steps p.tables e below (T16.setTop (mkF m 30 #[.val (.int p1), .unset, .unset, .unset, .unset] [(.ref b1), (.ref b1)])) _
    refine XS.iconst X16.here hx rfl (hb hby at_30) ?_
    show Steps p.tables e below (T16.setTop (mkF m 31 #[.val (.int p1), .unset, .unset, .unset, .unset] [(.int (4 : Int32)), (.ref b1), (.ref b1)])) _
    refine st19 _ ?_
    show Steps p.tables e below (T19.setTop (mkF m 34 #[.val (.int p1), .unset, .unset, .unset, .unset] [(.ref a_SUBTRACT), (.int (4 : Int32)), (.ref b1), (.ref b1)])) _
    refine st20 _ ?_
    show Steps p.tables e below (T20.setTop (mkF m 35 #[.val (.int p1), .unset, .unset, .unset, .unset] [(.ref b1)])) _
    refine XS.dup X20.here hx rfl (hb hby at_35) rfl rfl ?_
    show Steps p.tables e below (T20.setTop (mkF m 36 #[.val (.int p1), .unset, .unset, .unset, .unset] [(.ref b1), (.ref b1)])) _
    refine XS.iconst X20.here hx rfl (hb hby at_36) ?_
    show Steps p.tables e below (T20.setTop (mkF m 37 #[.val (.int p1), .unset, .unset, .unset, .unset] [(.int (5 : Int32)), (.ref b1), (.ref b1)])) _
    refine st23 _ ?_
    show Steps p.tables e below (T23.setTop (mkF m 40 #[.val (.int p1), .unset, .unset, .unset, .unset] [(.ref a_SHIFT_LEFT), (.int (5 : Int32)), (.ref b1), (.ref b1)])) _
    refine st24 _ ?_
    show Steps p.tables e below (T24.setTop (mkF m 41 #[.val (.int p1), .unset, .unset, .unset, .unset] [(.ref b1)])) _
    refine XS.dup X24.here hx rfl (hb hby at_41) rfl rfl ?_
    show Steps p.tables e below (T24.setTop (mkF m 42 #[.val (.int p1), .unset, .unset, .unset, .unset] [(.ref b1), (.ref b1)])) _
    refine XS.bipush X24.here hx rfl (hb hby at_42) ?_
    show Steps p.tables e below (T24.setTop (mkF m 44 #[.val (.int p1), .unset, .unset, .unset, .unset] [(.int (6 : Int32)), (.ref b1), (.ref b1)])) _
    refine st27 _ ?_
    show Steps p.tables e below (T27.setTop (mkF m 47 #[.val (.int p1), .unset, .unset, .unset, .unset] [(.ref a_SHIFT_RIGHT), (.int (6 : Int32)), (.ref b1), (.ref b1)])) _
    refine st28 _ ?_
    show Steps p.tables e below (T28.setTop (mkF m 48 #[.val (.int p1), .unset, .unset, .unset, .unset] [(.ref b1)])) _
    refine XS.dup X28.here hx rfl (hb hby at_48) rfl rfl ?_
    show Steps p.tables e below (T28.setTop (mkF m 49 #[.val (.int p1), .unset, .unset, .unset, .unset] [(.ref b1), (.ref b1)])) _
    refine XS.bipush X28.here hx rfl (hb hby at_49) ?_
    show Steps p.tables e below (T28.setTop (mkF m 51 #[.val (.int p1), .unset, .unset, .unset, .unset] [(.int (7 : Int32)), (.ref b1), (.ref b1)])) _
    refine st31 _ ?_
    show Steps p.tables e below (T31.setTop (mkF m 54 #[.val (.int p1), .unset, .unset, .unset, .unset] [(.ref a_LESS), (.int (7 : Int32)), (.ref b1), (.ref b1)])) _
    refine st32 _ ?_
    show Steps p.tables e below (T32.setTop (mkF m 55 #[.val (.int p1), .unset, .unset, .unset, .unset] [(.ref b1)])) _
    refine XS.dup X32.here hx rfl (hb hby at_55) rfl rfl ?_
    show Steps p.tables e below (T32.setTop (mkF m 56 #[.val (.int p1), .unset, .unset, .unset, .unset] [(.ref b1), (.ref b1)])) _
    refine XS.bipush X32.here hx rfl (hb hby at_56) ?_
    show Steps p.tables e below (T32.setTop (mkF m 58 #[.val (.int p1), .unset, .unset, .unset, .unset] [(.int (8 : Int32)), (.ref b1), (.ref b1)])) _
    refine st35 _ ?_
    show Steps p.tables e below (T35.setTop (mkF m 61 #[.val (.int p1), .unset, .unset, .unset, .unset] [(.ref a_GREATER), (.int (8 : Int32)), (.ref b1), (.ref b1)])) _
    refine st36 _ ?_
    show Steps p.tables e below (T36.setTop (mkF m 62 #[.val (.int p1), .unset, .unset, .unset, .unset] [(.ref b1)])) _
    refine XS.dup X36.here hx rfl (hb hby at_62) rfl rfl ?_
    show Steps p.tables e below (T36.setTop (mkF m 63 #[.val (.int p1), .unset, .unset, .unset, .unset] [(.ref b1), (.ref b1)])) _
    refine XS.bipush X36.here hx rfl (hb hby at_63) ?_
    show Steps p.tables e below (T36.setTop (mkF m 65 #[.val (.int p1), .unset, .unset, .unset, .unset] [(.int (9 : Int32)), (.ref b1), (.ref b1)])) _
    refine st39 _ ?_
    show Steps p.tables e below (T39.setTop (mkF m 68 #[.val (.int p1), .unset, .unset, .unset, .unset] [(.ref a_LESS_EQUAL), (.int (9 : Int32)), (.ref b1), (.ref b1)])) _
    refine st40 _ ?_
    show Steps p.tables e below (T40.setTop (mkF m 69 #[.val (.int p1), .unset, .unset, .unset, .unset] [(.ref b1)])) _
    refine XS.dup X40.here hx rfl (hb hby at_69) rfl rfl ?_
    show Steps p.tables e below (T40.setTop (mkF m 70 #[.val (.int p1), .unset, .unset, .unset, .unset] [(.ref b1), (.ref b1)])) _
    refine XS.bipush X40.here hx rfl (hb hby at_70) ?_
    show Steps p.tables e below (T40.setTop (mkF m 72 #[.val (.int p1), .unset, .unset, .unset, .unset] [(.int (10 : Int32)), (.ref b1), (.ref b1)])) _
    refine st43 _ ?_
    show Steps p.tables e below (T43.setTop (mkF m 75 #[.val (.int p1), .unset, .unset, .unset, .unset] [(.ref a_GREATER_EQUAL), (.int (10 : Int32)), (.ref b1), (.ref b1)])) _
    refine st44 _ ?_
    show Steps p.tables e below (T44.setTop (mkF m 76 #[.val (.int p1), .unset, .unset, .unset, .unset] [(.ref b1)])) _
    refine XS.dup X44.here hx rfl (hb hby at_76) rfl rfl ?_
    show Steps p.tables e below (T44.setTop (mkF m 77 #[.val (.int p1), .unset, .unset, .unset, .unset] [(.ref b1), (.ref b1)])) _
    refine XS.bipush X44.here hx rfl (hb hby at_77) ?_
    show Steps p.tables e below (T44.setTop (mkF m 79 #[.val (.int p1), .unset, .unset, .unset, .unset] [(.int (11 : Int32)), (.ref b1), (.ref b1)])) _
    refine st47 _ ?_
    show Steps p.tables e below (T47.setTop (mkF m 82 #[.val (.int p1), .unset, .unset, .unset, .unset] [(.ref a_EQUAL), (.int (11 : Int32)), (.ref b1), (.ref b1)])) _
    refine st48 _ ?_
    show Steps p.tables e below (T48.setTop (mkF m 83 #[.val (.int p1), .unset, .unset, .unset, .unset] [(.ref b1)])) _
    refine XS.dup X48.here hx rfl (hb hby at_83) rfl rfl ?_
    show Steps p.tables e below (T48.setTop (mkF m 84 #[.val (.int p1), .unset, .unset, .unset, .unset] [(.ref b1), (.ref b1)])) _
    refine XS.bipush X48.here hx rfl (hb hby at_84) ?_
    show Steps p.tables e below (T48.setTop (mkF m 86 #[.val (.int p1), .unset, .unset, .unset, .unset] [(.int (12 : Int32)), (.ref b1), (.ref b1)])) _
    refine st51 _ ?_
    show Steps p.tables e below (T51.setTop (mkF m 89 #[.val (.int p1), .unset, .unset, .unset, .unset] [(.ref a_NOT_EQUAL), (.int (12 : Int32)), (.ref b1), (.ref b1)])) _
    refine st52 _ ?_
    show Steps p.tables e below (T52.setTop (mkF m 90 #[.val (.int p1), .unset, .unset, .unset, .unset] [(.ref b1)])) _
    refine XS.dup X52.here hx rfl (hb hby at_90) rfl rfl ?_
    show Steps p.tables e below (T52.setTop (mkF m 91 #[.val (.int p1), .unset, .unset, .unset, .unset] [(.ref b1), (.ref b1)])) _
    refine XS.bipush X52.here hx rfl (hb hby at_91) ?_
    show Steps p.tables e below (T52.setTop (mkF m 93 #[.val (.int p1), .unset, .unset, .unset, .unset] [(.int (13 : Int32)), (.ref b1), (.ref b1)])) _
    refine st55 _ ?_
    show Steps p.tables e below (T55.setTop (mkF m 96 #[.val (.int p1), .unset, .unset, .unset, .unset] [(.ref a_BITWISE_AND), (.int (13 : Int32)), (.ref b1), (.ref b1)])) _
    refine st56 _ ?_
    show Steps p.tables e below (T56.setTop (mkF m 97 #[.val (.int p1), .unset, .unset, .unset, .unset] [(.ref b1)])) _
    refine XS.dup X56.here hx rfl (hb hby at_97) rfl rfl ?_
    show Steps p.tables e below (T56.setTop (mkF m 98 #[.val (.int p1), .unset, .unset, .unset, .unset] [(.ref b1), (.ref b1)])) _
    refine XS.bipush X56.here hx rfl (hb hby at_98) ?_
    show Steps p.tables e below (T56.setTop (mkF m 100 #[.val (.int p1), .unset, .unset, .unset, .unset] [(.int (14 : Int32)), (.ref b1), (.ref b1)])) _
    refine st59 _ ?_
    show Steps p.tables e below (T59.setTop (mkF m 103 #[.val (.int p1), .unset, .unset, .unset, .unset] [(.ref a_BITWISE_XOR), (.int (14 : Int32)), (.ref b1), (.ref b1)])) _
    refine st60 _ ?_
    show Steps p.tables e below (T60.setTop (mkF m 104 #[.val (.int p1), .unset, .unset, .unset, .unset] [(.ref b1)])) _
    refine XS.dup X60.here hx rfl (hb hby at_104) rfl rfl ?_
    show Steps p.tables e below (T60.setTop (mkF m 105 #[.val (.int p1), .unset, .unset, .unset, .unset] [(.ref b1), (.ref b1)])) _
    refine XS.bipush X60.here hx rfl (hb hby at_105) ?_
    show Steps p.tables e below (T60.setTop (mkF m 107 #[.val (.int p1), .unset, .unset, .unset, .unset] [(.int (15 : Int32)), (.ref b1), (.ref b1)])) _
    refine st63 _ ?_
    show Steps p.tables e below (T63.setTop (mkF m 110 #[.val (.int p1), .unset, .unset, .unset, .unset] [(.ref a_BITWISE_OR), (.int (15 : Int32)), (.ref b1), (.ref b1)])) _
    refine st64 _ ?_
    show Steps p.tables e below (T64.setTop (mkF m 111 #[.val (.int p1), .unset, .unset, .unset, .unset] [(.ref b1)])) _
    refine XS.dup X64.here hx rfl (hb hby at_111) rfl rfl ?_
    show Steps p.tables e below (T64.setTop (mkF m 112 #[.val (.int p1), .unset, .unset, .unset, .unset] [(.ref b1), (.ref b1)])) _
    refine XS.bipush X64.here hx rfl (hb hby at_112) ?_
    show Steps p.tables e below (T64.setTop (mkF m 114 #[.val (.int p1), .unset, .unset, .unset, .unset] [(.int (16 : Int32)), (.ref b1), (.ref b1)])) _
    refine st67 _ ?_
    show Steps p.tables e below (T67.setTop (mkF m 117 #[.val (.int p1), .unset, .unset, .unset, .unset] [(.ref a_LOGICAL_AND), (.int (16 : Int32)), (.ref b1), (.ref b1)])) _
    refine st68 _ ?_
    show Steps p.tables e below (T68.setTop (mkF m 118 #[.val (.int p1), .unset, .unset, .unset, .unset] [(.ref b1)])) _
    refine XS.dup X68.here hx rfl (hb hby at_118) rfl rfl ?_
    show Steps p.tables e below (T68.setTop (mkF m 119 #[.val (.int p1), .unset, .unset, .unset, .unset] [(.ref b1), (.ref b1)])) _
    refine XS.bipush X68.here hx rfl (hb hby at_119) ?_
    show Steps p.tables e below (T68.setTop (mkF m 121 #[.val (.int p1), .unset, .unset, .unset, .unset] [(.int (17 : Int32)), (.ref b1), (.ref b1)])) _
    refine st71 _ ?_
    show Steps p.tables e below (T71.setTop (mkF m 124 #[.val (.int p1), .unset, .unset, .unset, .unset] [(.ref a_LOGICAL_OR), (.int (17 : Int32)), (.ref b1), (.ref b1)])) _
    refine st72 _ ?_
    show Steps p.tables e below (T72.setTop (mkF m 125 #[.val (.int p1), .unset, .unset, .unset, .unset] [(.ref b1)])) _
    refine XS.astoreN X72.here hx rfl (hb hby at_125) rfl rfl (l' := #[.val (.int p1), .val (.ref b1), .unset, .unset, .unset]) rfl ?_
    show Steps p.tables e below (T72.setTop (mkF m 126 #[.val (.int p1), .val (.ref b1), .unset, .unset, .unset] [])) _
    refine XS.iloadN X72.here hx rfl (hb hby at_126) rfl ?_
    show Steps p.tables e below (T72.setTop (mkF m 127 #[.val (.int p1), .val (.ref b1), .unset, .unset, .unset] [(.int p1)])) _
    refine X72.ldcInt hx hown (mvT hZ (hw _ (List.mem_of_getElem? (i := 40) rfl))) (g := (mkF m 127 #[.val (.int p1), .val (.ref b1), .unset, .unset, .unset] [(.int p1)])) rfl (hb hby at_127) _ ?_
    show Steps p.tables e below (T72.setTop (mkF m 129 #[.val (.int p1), .val (.ref b1), .unset, .unset, .unset] [(.int (2147483647 : Int32)), (.int p1)])) _
    refine XS.iand X72.here hx rfl (hb hby at_129) rfl ?_
    show Steps p.tables e below (T72.setTop (mkF m 130 #[.val (.int p1), .val (.ref b1), .unset, .unset, .unset] [(.int (p1 &&& (2147483647 : Int32)))])) _
    refine XS.bipush X72.here hx rfl (hb hby at_130) ?_
    show Steps p.tables e below (T72.setTop (mkF m 132 #[.val (.int p1), .val (.ref b1), .unset, .unset, .unset] [(.int (18 : Int32)), (.int (p1 &&& (2147483647 : Int32)))])) _
    refine iremM (g := (mkF m 132 #[.val (.int p1), .val (.ref b1), .unset, .unset, .unset] [(.int (18 : Int32)), (.int (p1 &&& (2147483647 : Int32)))])) X72 hx rfl (hb hby at_132) rfl (by decide) ?_
    show Steps p.tables e below (T72.setTop (mkF m 133 #[.val (.int p1), .val (.ref b1), .unset, .unset, .unset] [(.int ((p1 &&& (2147483647 : Int32)) % (18 : Int32)))])) _
    refine XS.istoreN X72.here hx rfl (hb hby at_133) rfl (l' := #[.val (.int p1), .val (.ref b1), .val (.int ((p1 &&& (2147483647 : Int32)) % (18 : Int32))), .unset, .unset]) rfl ?_
    show Steps p.tables e below (T72.setTop (mkF m 134 #[.val (.int p1), .val (.ref b1), .val (.int ((p1 &&& (2147483647 : Int32)) % (18 : Int32))), .unset, .unset] [])) _
    exact kt
  rcases own_k p1 with hk98 | hk98 | hk98 | hk98 | hk98 | hk98 | hk98 | hk98 | hk98 | hk98 | hk98 | hk98 | hk98 | hk98 | hk98 | hk98 | hk98 | hk98
  · have R99 : ∀ tg, Steps p.tables e below (T72.setTop (mkF m 134 #[.val (.int p1), .val (.ref b1), .val (.int (0 : Int32)), .unset, .unset] [])) tg → Steps p.tables e below (T72.setTop (mkF m 134 #[.val (.int p1), .val (.ref b1), .val (.int ((p1 &&& (2147483647 : Int32)) % (18 : Int32))), .unset, .unset] [])) tg := fun tg kt => by rw [hk98]; exact kt
    obtain ⟨cl100, Ar100, q100, Sz100, Nn100, Ha100, Ga100⟩ := V72
    have hin100 : ¬ ((0 : Int32) < 0 ∨ cl100.slots.size ≤ ((0 : Int32)).toNatClampNeg) := inb_of Sz100 ⟨by decide, by decide⟩
    have hat100 : cl100.slots[((0 : Int32)).toNatClampNeg]? = some (.ref a_MULTIPLY) := Ha100.at hin100 rfl
    obtain ⟨cq101, kq101, q101a, q101b, q101c⟩ := isOf hZ e72 f74
    obtain ⟨_, _, ⟨T101, L101, k101, n101⟩, -, X101, ⟨Lc101, hQ101, l101, y101, z101⟩, st101⟩ := X72.virtualBack hx (y := (⟨"com/example/deadpaths_to_precision/deadpathstoprecision/frontend/BinaryOperator", "isUndefinedOnOverflow", "()Z"⟩ : MethodName)) (z := (⟨"com/example/deadpaths_to_precision/deadpathstoprecision/frontend/BinaryOperator", "isUndefinedOnOverflow", "()Z"⟩ : MethodName)) hown (mvT hZ (hw _ (List.mem_of_getElem? (i := 41) rfl))) (mvT hZ (hw _ (List.mem_of_getElem? (i := 42) rfl))) (notFace_of_selects (args := #[]) (mvT hZ (hw _ (List.mem_of_getElem? (i := 44) rfl)))) (mvT hZ (hw _ (List.mem_of_getElem? (i := 44) rfl))) (mvT hZ (hw _ (List.mem_of_getElem? (i := 43) rfl))) (by decide) (backOf (W := 0) (rm1 l Z a0 hw [] a_MULTIPLY a_MULTIPLY a_DIVIDE a_REMAINDER a_ADD a_SUBTRACT h72 n0 Z72 f92 f93 f94 f95 f96) hZ (hw _ (List.mem_of_getElem? (i := 45) rfl)) (hw _ (List.mem_of_getElem? (i := 3) rfl)) (by decide) (by decide)) q101a q101c (g := (mkF m 151 #[.val (.int p1), .val (.ref b1), .val (.int (0 : Int32)), .val (.ref a_MULTIPLY), .val (.int (1 : Int32))] [(.ref a_MULTIPLY)])) rfl (by rw [hml]; rfl) (Steps.refl _) (argsL := []) (rest := []) (lenOf pd_0 rfl) rfl (by show 2 * 0 + _ ≤ _; exact Nat.le_of_eq rfl) (hb hby at_151) (fun _ _ => ⟨rfl, e72, (by decide : 1 + 0 ≤ _), (by decide : 18 + 0 ≤ _)⟩)
    dsimp only [Pt.U, Pt.locs, Pt.cells, Pt.slots] at X101 l101 y101 z101 st101 hQ101
    subst l101 y101 z101
    obtain ⟨hv101, N101q, r101⟩ := hQ101
    rw [(if_pos (Or.inl rfl))] at hv101
    subst hv101
    have N101 := Fr.app N72 N101q
    obtain ⟨fs, hr, hrun, hended, hW, hsame⟩ := X101.leave (v := some (.int (1 : Int32))) (fun h => by rw [Bd.returns] at h; cases h)
    refine ⟨_, _, pre0 _ (R97 _ (R99 _ ?_)), hrun, hended, _, _, rfl, ?_, ⟨_, rfl⟩, hW, hsame.mono (by decide) (by decide)⟩
    · show Steps p.tables e below (T72.setTop (mkF m 134 #[.val (.int p1), .val (.ref b1), .val (.int (0 : Int32)), .unset, .unset] [])) _
      refine XS.aloadN X72.here hx rfl (hb hby at_134) rfl rfl ?_
      show Steps p.tables e below (T72.setTop (mkF m 135 #[.val (.int p1), .val (.ref b1), .val (.int (0 : Int32)), .unset, .unset] [(.ref b1)])) _
      refine XS.iloadN X72.here hx rfl (hb hby at_135) rfl ?_
      show Steps p.tables e below (T72.setTop (mkF m 136 #[.val (.int p1), .val (.ref b1), .val (.int (0 : Int32)), .unset, .unset] [(.int (0 : Int32)), (.ref b1)])) _
      refine X72.aaload hx (j := (0 : Int32)) (v := (.ref a_MULTIPLY)) (by rw [e72]; exact Ar100.1) (State.isArrayOf_alike hZ.alike Ar100.2.1) rfl Ar100.2.2 hin100 hat100 (g := (mkF m 136 #[.val (.int p1), .val (.ref b1), .val (.int (0 : Int32)), .unset, .unset] [(.int (0 : Int32)), (.ref b1)])) rfl rfl (hb hby at_136) _ ?_
      show Steps p.tables e below (T72.setTop (mkF m 137 #[.val (.int p1), .val (.ref b1), .val (.int (0 : Int32)), .unset, .unset] [(.ref a_MULTIPLY)])) _
      refine XS.astoreN X72.here hx rfl (hb hby at_137) rfl rfl (l' := #[.val (.int p1), .val (.ref b1), .val (.int (0 : Int32)), .val (.ref a_MULTIPLY), .unset]) rfl ?_
      show Steps p.tables e below (T72.setTop (mkF m 138 #[.val (.int p1), .val (.ref b1), .val (.int (0 : Int32)), .val (.ref a_MULTIPLY), .unset] [])) _
      refine XS.iloadN X72.here hx rfl (hb hby at_138) rfl ?_
      show Steps p.tables e below (T72.setTop (mkF m 139 #[.val (.int p1), .val (.ref b1), .val (.int (0 : Int32)), .val (.ref a_MULTIPLY), .unset] [(.int (0 : Int32))])) _
      refine XS.iconst X72.here hx rfl (hb hby at_139) ?_
      show Steps p.tables e below (T72.setTop (mkF m 140 #[.val (.int p1), .val (.ref b1), .val (.int (0 : Int32)), .val (.ref a_MULTIPLY), .unset] [(.int (5 : Int32)), (.int (0 : Int32))])) _
      refine XS.icmpNo X72.here hx rfl (hb hby at_140) rfl (tlt (by decide : (0 : Int32) < (5 : Int32))).2.1 ?_
      show Steps p.tables e below (T72.setTop (mkF m 143 #[.val (.int p1), .val (.ref b1), .val (.int (0 : Int32)), .val (.ref a_MULTIPLY), .unset] [])) _
      refine XS.iconst X72.here hx rfl (hb hby at_143) ?_
      show Steps p.tables e below (T72.setTop (mkF m 144 #[.val (.int p1), .val (.ref b1), .val (.int (0 : Int32)), .val (.ref a_MULTIPLY), .unset] [(.int (1 : Int32))])) _
      refine XS.goto X72.here hx rfl (pc0 := 144) (pc' := 148) rfl (hb hby at_144) (by decide) (by decide) ?_
      show Steps p.tables e below (T72.setTop (mkF m 148 #[.val (.int p1), .val (.ref b1), .val (.int (0 : Int32)), .val (.ref a_MULTIPLY), .unset] [(.int (1 : Int32))])) _
      refine XS.istore X72.here hx rfl (hb hby at_148) rfl (l' := #[.val (.int p1), .val (.ref b1), .val (.int (0 : Int32)), .val (.ref a_MULTIPLY), .val (.int (1 : Int32))]) rfl ?_
      show Steps p.tables e below (T72.setTop (mkF m 150 #[.val (.int p1), .val (.ref b1), .val (.int (0 : Int32)), .val (.ref a_MULTIPLY), .val (.int (1 : Int32))] [])) _
      refine XS.aloadN X72.here hx rfl (hb hby at_150) rfl rfl ?_
      show Steps p.tables e below (T72.setTop (mkF m 151 #[.val (.int p1), .val (.ref b1), .val (.int (0 : Int32)), .val (.ref a_MULTIPLY), .val (.int (1 : Int32))] [(.ref a_MULTIPLY)])) _
      refine st101.trans ?_
      show Steps p.tables e below (T101.setTop (mkF m 154 #[.val (.int p1), .val (.ref b1), .val (.int (0 : Int32)), .val (.ref a_MULTIPLY), .val (.int (1 : Int32))] [(.int (1 : Int32))])) _
      refine XS.iload X101.here hx rfl (hb hby at_154) rfl ?_
      show Steps p.tables e below (T101.setTop (mkF m 156 #[.val (.int p1), .val (.ref b1), .val (.int (0 : Int32)), .val (.ref a_MULTIPLY), .val (.int (1 : Int32))] [(.int (1 : Int32)), (.int (1 : Int32))])) _
      refine XS.icmpNo X101.here hx rfl (hb hby at_156) rfl (teq (by decide : (1 : Int32) = (1 : Int32))).2 ?_
      show Steps p.tables e below (T101.setTop (mkF m 159 #[.val (.int p1), .val (.ref b1), .val (.int (0 : Int32)), .val (.ref a_MULTIPLY), .val (.int (1 : Int32))] [])) _
      refine XS.iconst X101.here hx rfl (hb hby at_159) ?_
      show Steps p.tables e below (T101.setTop (mkF m 160 #[.val (.int p1), .val (.ref b1), .val (.int (0 : Int32)), .val (.ref a_MULTIPLY), .val (.int (1 : Int32))] [(.int (1 : Int32))])) _
      refine XS.goto X101.here hx rfl (pc0 := 160) (pc' := 164) rfl (hb hby at_160) (by decide) (by decide) ?_
      show Steps p.tables e below (T101.setTop (mkF m 164 #[.val (.int p1), .val (.ref b1), .val (.int (0 : Int32)), .val (.ref a_MULTIPLY), .val (.int (1 : Int32))] [(.int (1 : Int32))])) _
      exact retN X101 hx (t := .boolean) Bd.returns (by simp) (hb hby at_164) hr
    · show Q0 n0 _ T101.heap _
      rw [r101]
      exact ⟨rfl, N101⟩
  · have R102 : ∀ tg, Steps p.tables e below (T72.setTop (mkF m 134 #[.val (.int p1), .val (.ref b1), .val (.int (1 : Int32)), .unset, .unset] [])) tg → Steps p.tables e below (T72.setTop (mkF m 134 #[.val (.int p1), .val (.ref b1), .val (.int ((p1 &&& (2147483647 : Int32)) % (18 : Int32))), .unset, .unset] [])) tg := fun tg kt => by rw [hk98]; exact kt
    obtain ⟨cl103, Ar103, q103, Sz103, Nn103, Ha103, Ga103⟩ := V72
    have hin103 : ¬ ((1 : Int32) < 0 ∨ cl103.slots.size ≤ ((1 : Int32)).toNatClampNeg) := inb_of Sz103 ⟨by decide, by decide⟩
    have hat103 : cl103.slots[((1 : Int32)).toNatClampNeg]? = some (.ref a_DIVIDE) := Ha103.at hin103 rfl
    obtain ⟨cq104, kq104, q104a, q104b, q104c⟩ := isOf hZ e72 f75
    obtain ⟨_, _, ⟨T104, L104, k104, n104⟩, -, X104, ⟨Lc104, hQ104, l104, y104, z104⟩, st104⟩ := X72.virtualBack hx (y := (⟨"com/example/deadpaths_to_precision/deadpathstoprecision/frontend/BinaryOperator", "isUndefinedOnOverflow", "()Z"⟩ : MethodName)) (z := (⟨"com/example/deadpaths_to_precision/deadpathstoprecision/frontend/BinaryOperator", "isUndefinedOnOverflow", "()Z"⟩ : MethodName)) hown (mvT hZ (hw _ (List.mem_of_getElem? (i := 41) rfl))) (mvT hZ (hw _ (List.mem_of_getElem? (i := 42) rfl))) (notFace_of_selects (args := #[]) (mvT hZ (hw _ (List.mem_of_getElem? (i := 44) rfl)))) (mvT hZ (hw _ (List.mem_of_getElem? (i := 44) rfl))) (mvT hZ (hw _ (List.mem_of_getElem? (i := 43) rfl))) (by decide) (backOf (W := 0) (rm1 l Z a0 hw [] a_DIVIDE a_MULTIPLY a_DIVIDE a_REMAINDER a_ADD a_SUBTRACT h72 n0 Z72 f92 f93 f94 f95 f96) hZ (hw _ (List.mem_of_getElem? (i := 45) rfl)) (hw _ (List.mem_of_getElem? (i := 3) rfl)) (by decide) (by decide)) q104a q104c (g := (mkF m 151 #[.val (.int p1), .val (.ref b1), .val (.int (1 : Int32)), .val (.ref a_DIVIDE), .val (.int (1 : Int32))] [(.ref a_DIVIDE)])) rfl (by rw [hml]; rfl) (Steps.refl _) (argsL := []) (rest := []) (lenOf pd_0 rfl) rfl (by show 2 * 0 + _ ≤ _; exact Nat.le_of_eq rfl) (hb hby at_151) (fun _ _ => ⟨rfl, e72, (by decide : 1 + 0 ≤ _), (by decide : 18 + 0 ≤ _)⟩)
    dsimp only [Pt.U, Pt.locs, Pt.cells, Pt.slots] at X104 l104 y104 z104 st104 hQ104
    subst l104 y104 z104
    obtain ⟨hv104, N104q, r104⟩ := hQ104
    rw [(if_pos (Or.inr (Or.inl rfl)))] at hv104
    subst hv104
    have N104 := Fr.app N72 N104q
    obtain ⟨fs, hr, hrun, hended, hW, hsame⟩ := X104.leave (v := some (.int (1 : Int32))) (fun h => by rw [Bd.returns] at h; cases h)
    refine ⟨_, _, pre0 _ (R97 _ (R102 _ ?_)), hrun, hended, _, _, rfl, ?_, ⟨_, rfl⟩, hW, hsame.mono (by decide) (by decide)⟩
    · show Steps p.tables e below (T72.setTop (mkF m 134 #[.val (.int p1), .val (.ref b1), .val (.int (1 : Int32)), .unset, .unset] [])) _
      refine XS.aloadN X72.here hx rfl (hb hby at_134) rfl rfl ?_
      show Steps p.tables e below (T72.setTop (mkF m 135 #[.val (.int p1), .val (.ref b1), .val (.int (1 : Int32)), .unset, .unset] [(.ref b1)])) _
      refine XS.iloadN X72.here hx rfl (hb hby at_135) rfl ?_
      show Steps p.tables e below (T72.setTop (mkF m 136 #[.val (.int p1), .val (.ref b1), .val (.int (1 : Int32)), .unset, .unset] [(.int (1 : Int32)), (.ref b1)])) _
      refine X72.aaload hx (j := (1 : Int32)) (v := (.ref a_DIVIDE)) (by rw [e72]; exact Ar103.1) (State.isArrayOf_alike hZ.alike Ar103.2.1) rfl Ar103.2.2 hin103 hat103 (g := (mkF m 136 #[.val (.int p1), .val (.ref b1), .val (.int (1 : Int32)), .unset, .unset] [(.int (1 : Int32)), (.ref b1)])) rfl rfl (hb hby at_136) _ ?_
      show Steps p.tables e below (T72.setTop (mkF m 137 #[.val (.int p1), .val (.ref b1), .val (.int (1 : Int32)), .unset, .unset] [(.ref a_DIVIDE)])) _
      refine XS.astoreN X72.here hx rfl (hb hby at_137) rfl rfl (l' := #[.val (.int p1), .val (.ref b1), .val (.int (1 : Int32)), .val (.ref a_DIVIDE), .unset]) rfl ?_
      show Steps p.tables e below (T72.setTop (mkF m 138 #[.val (.int p1), .val (.ref b1), .val (.int (1 : Int32)), .val (.ref a_DIVIDE), .unset] [])) _
      refine XS.iloadN X72.here hx rfl (hb hby at_138) rfl ?_
      show Steps p.tables e below (T72.setTop (mkF m 139 #[.val (.int p1), .val (.ref b1), .val (.int (1 : Int32)), .val (.ref a_DIVIDE), .unset] [(.int (1 : Int32))])) _
      refine XS.iconst X72.here hx rfl (hb hby at_139) ?_
      show Steps p.tables e below (T72.setTop (mkF m 140 #[.val (.int p1), .val (.ref b1), .val (.int (1 : Int32)), .val (.ref a_DIVIDE), .unset] [(.int (5 : Int32)), (.int (1 : Int32))])) _
      refine XS.icmpNo X72.here hx rfl (hb hby at_140) rfl (tlt (by decide : (1 : Int32) < (5 : Int32))).2.1 ?_
      show Steps p.tables e below (T72.setTop (mkF m 143 #[.val (.int p1), .val (.ref b1), .val (.int (1 : Int32)), .val (.ref a_DIVIDE), .unset] [])) _
      refine XS.iconst X72.here hx rfl (hb hby at_143) ?_
      show Steps p.tables e below (T72.setTop (mkF m 144 #[.val (.int p1), .val (.ref b1), .val (.int (1 : Int32)), .val (.ref a_DIVIDE), .unset] [(.int (1 : Int32))])) _
      refine XS.goto X72.here hx rfl (pc0 := 144) (pc' := 148) rfl (hb hby at_144) (by decide) (by decide) ?_
      show Steps p.tables e below (T72.setTop (mkF m 148 #[.val (.int p1), .val (.ref b1), .val (.int (1 : Int32)), .val (.ref a_DIVIDE), .unset] [(.int (1 : Int32))])) _
      refine XS.istore X72.here hx rfl (hb hby at_148) rfl (l' := #[.val (.int p1), .val (.ref b1), .val (.int (1 : Int32)), .val (.ref a_DIVIDE), .val (.int (1 : Int32))]) rfl ?_
      show Steps p.tables e below (T72.setTop (mkF m 150 #[.val (.int p1), .val (.ref b1), .val (.int (1 : Int32)), .val (.ref a_DIVIDE), .val (.int (1 : Int32))] [])) _
      refine XS.aloadN X72.here hx rfl (hb hby at_150) rfl rfl ?_
      show Steps p.tables e below (T72.setTop (mkF m 151 #[.val (.int p1), .val (.ref b1), .val (.int (1 : Int32)), .val (.ref a_DIVIDE), .val (.int (1 : Int32))] [(.ref a_DIVIDE)])) _
      refine st104.trans ?_
      show Steps p.tables e below (T104.setTop (mkF m 154 #[.val (.int p1), .val (.ref b1), .val (.int (1 : Int32)), .val (.ref a_DIVIDE), .val (.int (1 : Int32))] [(.int (1 : Int32))])) _
      refine XS.iload X104.here hx rfl (hb hby at_154) rfl ?_
      show Steps p.tables e below (T104.setTop (mkF m 156 #[.val (.int p1), .val (.ref b1), .val (.int (1 : Int32)), .val (.ref a_DIVIDE), .val (.int (1 : Int32))] [(.int (1 : Int32)), (.int (1 : Int32))])) _
      refine XS.icmpNo X104.here hx rfl (hb hby at_156) rfl (teq (by decide : (1 : Int32) = (1 : Int32))).2 ?_
      show Steps p.tables e below (T104.setTop (mkF m 159 #[.val (.int p1), .val (.ref b1), .val (.int (1 : Int32)), .val (.ref a_DIVIDE), .val (.int (1 : Int32))] [])) _
      refine XS.iconst X104.here hx rfl (hb hby at_159) ?_
      show Steps p.tables e below (T104.setTop (mkF m 160 #[.val (.int p1), .val (.ref b1), .val (.int (1 : Int32)), .val (.ref a_DIVIDE), .val (.int (1 : Int32))] [(.int (1 : Int32))])) _
      refine XS.goto X104.here hx rfl (pc0 := 160) (pc' := 164) rfl (hb hby at_160) (by decide) (by decide) ?_
      show Steps p.tables e below (T104.setTop (mkF m 164 #[.val (.int p1), .val (.ref b1), .val (.int (1 : Int32)), .val (.ref a_DIVIDE), .val (.int (1 : Int32))] [(.int (1 : Int32))])) _
      exact retN X104 hx (t := .boolean) Bd.returns (by simp) (hb hby at_164) hr
    · show Q0 n0 _ T104.heap _
      rw [r104]
      exact ⟨rfl, N104⟩
  · have R105 : ∀ tg, Steps p.tables e below (T72.setTop (mkF m 134 #[.val (.int p1), .val (.ref b1), .val (.int (2 : Int32)), .unset, .unset] [])) tg → Steps p.tables e below (T72.setTop (mkF m 134 #[.val (.int p1), .val (.ref b1), .val (.int ((p1 &&& (2147483647 : Int32)) % (18 : Int32))), .unset, .unset] [])) tg := fun tg kt => by rw [hk98]; exact kt
    obtain ⟨cl106, Ar106, q106, Sz106, Nn106, Ha106, Ga106⟩ := V72
    have hin106 : ¬ ((2 : Int32) < 0 ∨ cl106.slots.size ≤ ((2 : Int32)).toNatClampNeg) := inb_of Sz106 ⟨by decide, by decide⟩
    have hat106 : cl106.slots[((2 : Int32)).toNatClampNeg]? = some (.ref a_REMAINDER) := Ha106.at hin106 rfl
    obtain ⟨cq107, kq107, q107a, q107b, q107c⟩ := isOf hZ e72 f76
    obtain ⟨_, _, ⟨T107, L107, k107, n107⟩, -, X107, ⟨Lc107, hQ107, l107, y107, z107⟩, st107⟩ := X72.virtualBack hx (y := (⟨"com/example/deadpaths_to_precision/deadpathstoprecision/frontend/BinaryOperator", "isUndefinedOnOverflow", "()Z"⟩ : MethodName)) (z := (⟨"com/example/deadpaths_to_precision/deadpathstoprecision/frontend/BinaryOperator", "isUndefinedOnOverflow", "()Z"⟩ : MethodName)) hown (mvT hZ (hw _ (List.mem_of_getElem? (i := 41) rfl))) (mvT hZ (hw _ (List.mem_of_getElem? (i := 42) rfl))) (notFace_of_selects (args := #[]) (mvT hZ (hw _ (List.mem_of_getElem? (i := 44) rfl)))) (mvT hZ (hw _ (List.mem_of_getElem? (i := 44) rfl))) (mvT hZ (hw _ (List.mem_of_getElem? (i := 43) rfl))) (by decide) (backOf (W := 0) (rm1 l Z a0 hw [] a_REMAINDER a_MULTIPLY a_DIVIDE a_REMAINDER a_ADD a_SUBTRACT h72 n0 Z72 f92 f93 f94 f95 f96) hZ (hw _ (List.mem_of_getElem? (i := 45) rfl)) (hw _ (List.mem_of_getElem? (i := 3) rfl)) (by decide) (by decide)) q107a q107c (g := (mkF m 151 #[.val (.int p1), .val (.ref b1), .val (.int (2 : Int32)), .val (.ref a_REMAINDER), .val (.int (1 : Int32))] [(.ref a_REMAINDER)])) rfl (by rw [hml]; rfl) (Steps.refl _) (argsL := []) (rest := []) (lenOf pd_0 rfl) rfl (by show 2 * 0 + _ ≤ _; exact Nat.le_of_eq rfl) (hb hby at_151) (fun _ _ => ⟨rfl, e72, (by decide : 1 + 0 ≤ _), (by decide : 18 + 0 ≤ _)⟩)
    dsimp only [Pt.U, Pt.locs, Pt.cells, Pt.slots] at X107 l107 y107 z107 st107 hQ107
    subst l107 y107 z107
    obtain ⟨hv107, N107q, r107⟩ := hQ107
    rw [(if_pos (Or.inr (Or.inr (Or.inl rfl))))] at hv107
    subst hv107
    have N107 := Fr.app N72 N107q
    obtain ⟨fs, hr, hrun, hended, hW, hsame⟩ := X107.leave (v := some (.int (1 : Int32))) (fun h => by rw [Bd.returns] at h; cases h)
    refine ⟨_, _, pre0 _ (R97 _ (R105 _ ?_)), hrun, hended, _, _, rfl, ?_, ⟨_, rfl⟩, hW, hsame.mono (by decide) (by decide)⟩
    · show Steps p.tables e below (T72.setTop (mkF m 134 #[.val (.int p1), .val (.ref b1), .val (.int (2 : Int32)), .unset, .unset] [])) _
      refine XS.aloadN X72.here hx rfl (hb hby at_134) rfl rfl ?_
      show Steps p.tables e below (T72.setTop (mkF m 135 #[.val (.int p1), .val (.ref b1), .val (.int (2 : Int32)), .unset, .unset] [(.ref b1)])) _
      refine XS.iloadN X72.here hx rfl (hb hby at_135) rfl ?_
      show Steps p.tables e below (T72.setTop (mkF m 136 #[.val (.int p1), .val (.ref b1), .val (.int (2 : Int32)), .unset, .unset] [(.int (2 : Int32)), (.ref b1)])) _
      refine X72.aaload hx (j := (2 : Int32)) (v := (.ref a_REMAINDER)) (by rw [e72]; exact Ar106.1) (State.isArrayOf_alike hZ.alike Ar106.2.1) rfl Ar106.2.2 hin106 hat106 (g := (mkF m 136 #[.val (.int p1), .val (.ref b1), .val (.int (2 : Int32)), .unset, .unset] [(.int (2 : Int32)), (.ref b1)])) rfl rfl (hb hby at_136) _ ?_
      show Steps p.tables e below (T72.setTop (mkF m 137 #[.val (.int p1), .val (.ref b1), .val (.int (2 : Int32)), .unset, .unset] [(.ref a_REMAINDER)])) _
      refine XS.astoreN X72.here hx rfl (hb hby at_137) rfl rfl (l' := #[.val (.int p1), .val (.ref b1), .val (.int (2 : Int32)), .val (.ref a_REMAINDER), .unset]) rfl ?_
      show Steps p.tables e below (T72.setTop (mkF m 138 #[.val (.int p1), .val (.ref b1), .val (.int (2 : Int32)), .val (.ref a_REMAINDER), .unset] [])) _
      refine XS.iloadN X72.here hx rfl (hb hby at_138) rfl ?_
      show Steps p.tables e below (T72.setTop (mkF m 139 #[.val (.int p1), .val (.ref b1), .val (.int (2 : Int32)), .val (.ref a_REMAINDER), .unset] [(.int (2 : Int32))])) _
      refine XS.iconst X72.here hx rfl (hb hby at_139) ?_
      show Steps p.tables e below (T72.setTop (mkF m 140 #[.val (.int p1), .val (.ref b1), .val (.int (2 : Int32)), .val (.ref a_REMAINDER), .unset] [(.int (5 : Int32)), (.int (2 : Int32))])) _
      refine XS.icmpNo X72.here hx rfl (hb hby at_140) rfl (tlt (by decide : (2 : Int32) < (5 : Int32))).2.1 ?_
      show Steps p.tables e below (T72.setTop (mkF m 143 #[.val (.int p1), .val (.ref b1), .val (.int (2 : Int32)), .val (.ref a_REMAINDER), .unset] [])) _
      refine XS.iconst X72.here hx rfl (hb hby at_143) ?_
      show Steps p.tables e below (T72.setTop (mkF m 144 #[.val (.int p1), .val (.ref b1), .val (.int (2 : Int32)), .val (.ref a_REMAINDER), .unset] [(.int (1 : Int32))])) _
      refine XS.goto X72.here hx rfl (pc0 := 144) (pc' := 148) rfl (hb hby at_144) (by decide) (by decide) ?_
      show Steps p.tables e below (T72.setTop (mkF m 148 #[.val (.int p1), .val (.ref b1), .val (.int (2 : Int32)), .val (.ref a_REMAINDER), .unset] [(.int (1 : Int32))])) _
      refine XS.istore X72.here hx rfl (hb hby at_148) rfl (l' := #[.val (.int p1), .val (.ref b1), .val (.int (2 : Int32)), .val (.ref a_REMAINDER), .val (.int (1 : Int32))]) rfl ?_
      show Steps p.tables e below (T72.setTop (mkF m 150 #[.val (.int p1), .val (.ref b1), .val (.int (2 : Int32)), .val (.ref a_REMAINDER), .val (.int (1 : Int32))] [])) _
      refine XS.aloadN X72.here hx rfl (hb hby at_150) rfl rfl ?_
      show Steps p.tables e below (T72.setTop (mkF m 151 #[.val (.int p1), .val (.ref b1), .val (.int (2 : Int32)), .val (.ref a_REMAINDER), .val (.int (1 : Int32))] [(.ref a_REMAINDER)])) _
      refine st107.trans ?_
      show Steps p.tables e below (T107.setTop (mkF m 154 #[.val (.int p1), .val (.ref b1), .val (.int (2 : Int32)), .val (.ref a_REMAINDER), .val (.int (1 : Int32))] [(.int (1 : Int32))])) _
      refine XS.iload X107.here hx rfl (hb hby at_154) rfl ?_
      show Steps p.tables e below (T107.setTop (mkF m 156 #[.val (.int p1), .val (.ref b1), .val (.int (2 : Int32)), .val (.ref a_REMAINDER), .val (.int (1 : Int32))] [(.int (1 : Int32)), (.int (1 : Int32))])) _
      refine XS.icmpNo X107.here hx rfl (hb hby at_156) rfl (teq (by decide : (1 : Int32) = (1 : Int32))).2 ?_
      show Steps p.tables e below (T107.setTop (mkF m 159 #[.val (.int p1), .val (.ref b1), .val (.int (2 : Int32)), .val (.ref a_REMAINDER), .val (.int (1 : Int32))] [])) _
      refine XS.iconst X107.here hx rfl (hb hby at_159) ?_
      show Steps p.tables e below (T107.setTop (mkF m 160 #[.val (.int p1), .val (.ref b1), .val (.int (2 : Int32)), .val (.ref a_REMAINDER), .val (.int (1 : Int32))] [(.int (1 : Int32))])) _
      refine XS.goto X107.here hx rfl (pc0 := 160) (pc' := 164) rfl (hb hby at_160) (by decide) (by decide) ?_
      show Steps p.tables e below (T107.setTop (mkF m 164 #[.val (.int p1), .val (.ref b1), .val (.int (2 : Int32)), .val (.ref a_REMAINDER), .val (.int (1 : Int32))] [(.int (1 : Int32))])) _
      exact retN X107 hx (t := .boolean) Bd.returns (by simp) (hb hby at_164) hr
    · show Q0 n0 _ T107.heap _
      rw [r107]
      exact ⟨rfl, N107⟩
  · have R108 : ∀ tg, Steps p.tables e below (T72.setTop (mkF m 134 #[.val (.int p1), .val (.ref b1), .val (.int (3 : Int32)), .unset, .unset] [])) tg → Steps p.tables e below (T72.setTop (mkF m 134 #[.val (.int p1), .val (.ref b1), .val (.int ((p1 &&& (2147483647 : Int32)) % (18 : Int32))), .unset, .unset] [])) tg := fun tg kt => by rw [hk98]; exact kt
    obtain ⟨cl109, Ar109, q109, Sz109, Nn109, Ha109, Ga109⟩ := V72
    have hin109 : ¬ ((3 : Int32) < 0 ∨ cl109.slots.size ≤ ((3 : Int32)).toNatClampNeg) := inb_of Sz109 ⟨by decide, by decide⟩
    have hat109 : cl109.slots[((3 : Int32)).toNatClampNeg]? = some (.ref a_ADD) := Ha109.at hin109 rfl
    obtain ⟨cq110, kq110, q110a, q110b, q110c⟩ := isOf hZ e72 f77
    obtain ⟨_, _, ⟨T110, L110, k110, n110⟩, -, X110, ⟨Lc110, hQ110, l110, y110, z110⟩, st110⟩ := X72.virtualBack hx (y := (⟨"com/example/deadpaths_to_precision/deadpathstoprecision/frontend/BinaryOperator", "isUndefinedOnOverflow", "()Z"⟩ : MethodName)) (z := (⟨"com/example/deadpaths_to_precision/deadpathstoprecision/frontend/BinaryOperator", "isUndefinedOnOverflow", "()Z"⟩ : MethodName)) hown (mvT hZ (hw _ (List.mem_of_getElem? (i := 41) rfl))) (mvT hZ (hw _ (List.mem_of_getElem? (i := 42) rfl))) (notFace_of_selects (args := #[]) (mvT hZ (hw _ (List.mem_of_getElem? (i := 44) rfl)))) (mvT hZ (hw _ (List.mem_of_getElem? (i := 44) rfl))) (mvT hZ (hw _ (List.mem_of_getElem? (i := 43) rfl))) (by decide) (backOf (W := 0) (rm1 l Z a0 hw [] a_ADD a_MULTIPLY a_DIVIDE a_REMAINDER a_ADD a_SUBTRACT h72 n0 Z72 f92 f93 f94 f95 f96) hZ (hw _ (List.mem_of_getElem? (i := 45) rfl)) (hw _ (List.mem_of_getElem? (i := 3) rfl)) (by decide) (by decide)) q110a q110c (g := (mkF m 151 #[.val (.int p1), .val (.ref b1), .val (.int (3 : Int32)), .val (.ref a_ADD), .val (.int (1 : Int32))] [(.ref a_ADD)])) rfl (by rw [hml]; rfl) (Steps.refl _) (argsL := []) (rest := []) (lenOf pd_0 rfl) rfl (by show 2 * 0 + _ ≤ _; exact Nat.le_of_eq rfl) (hb hby at_151) (fun _ _ => ⟨rfl, e72, (by decide : 1 + 0 ≤ _), (by decide : 18 + 0 ≤ _)⟩)
    dsimp only [Pt.U, Pt.locs, Pt.cells, Pt.slots] at X110 l110 y110 z110 st110 hQ110
    subst l110 y110 z110
    obtain ⟨hv110, N110q, r110⟩ := hQ110
    rw [(if_pos (Or.inr (Or.inr (Or.inr (Or.inl rfl)))))] at hv110
    subst hv110
    have N110 := Fr.app N72 N110q
    obtain ⟨fs, hr, hrun, hended, hW, hsame⟩ := X110.leave (v := some (.int (1 : Int32))) (fun h => by rw [Bd.returns] at h; cases h)
    refine ⟨_, _, pre0 _ (R97 _ (R108 _ ?_)), hrun, hended, _, _, rfl, ?_, ⟨_, rfl⟩, hW, hsame.mono (by decide) (by decide)⟩
    · show Steps p.tables e below (T72.setTop (mkF m 134 #[.val (.int p1), .val (.ref b1), .val (.int (3 : Int32)), .unset, .unset] [])) _
      refine XS.aloadN X72.here hx rfl (hb hby at_134) rfl rfl ?_
      show Steps p.tables e below (T72.setTop (mkF m 135 #[.val (.int p1), .val (.ref b1), .val (.int (3 : Int32)), .unset, .unset] [(.ref b1)])) _
      refine XS.iloadN X72.here hx rfl (hb hby at_135) rfl ?_
      show Steps p.tables e below (T72.setTop (mkF m 136 #[.val (.int p1), .val (.ref b1), .val (.int (3 : Int32)), .unset, .unset] [(.int (3 : Int32)), (.ref b1)])) _
      refine X72.aaload hx (j := (3 : Int32)) (v := (.ref a_ADD)) (by rw [e72]; exact Ar109.1) (State.isArrayOf_alike hZ.alike Ar109.2.1) rfl Ar109.2.2 hin109 hat109 (g := (mkF m 136 #[.val (.int p1), .val (.ref b1), .val (.int (3 : Int32)), .unset, .unset] [(.int (3 : Int32)), (.ref b1)])) rfl rfl (hb hby at_136) _ ?_
      show Steps p.tables e below (T72.setTop (mkF m 137 #[.val (.int p1), .val (.ref b1), .val (.int (3 : Int32)), .unset, .unset] [(.ref a_ADD)])) _
      refine XS.astoreN X72.here hx rfl (hb hby at_137) rfl rfl (l' := #[.val (.int p1), .val (.ref b1), .val (.int (3 : Int32)), .val (.ref a_ADD), .unset]) rfl ?_
      show Steps p.tables e below (T72.setTop (mkF m 138 #[.val (.int p1), .val (.ref b1), .val (.int (3 : Int32)), .val (.ref a_ADD), .unset] [])) _
      refine XS.iloadN X72.here hx rfl (hb hby at_138) rfl ?_
      show Steps p.tables e below (T72.setTop (mkF m 139 #[.val (.int p1), .val (.ref b1), .val (.int (3 : Int32)), .val (.ref a_ADD), .unset] [(.int (3 : Int32))])) _
      refine XS.iconst X72.here hx rfl (hb hby at_139) ?_
      show Steps p.tables e below (T72.setTop (mkF m 140 #[.val (.int p1), .val (.ref b1), .val (.int (3 : Int32)), .val (.ref a_ADD), .unset] [(.int (5 : Int32)), (.int (3 : Int32))])) _
      refine XS.icmpNo X72.here hx rfl (hb hby at_140) rfl (tlt (by decide : (3 : Int32) < (5 : Int32))).2.1 ?_
      show Steps p.tables e below (T72.setTop (mkF m 143 #[.val (.int p1), .val (.ref b1), .val (.int (3 : Int32)), .val (.ref a_ADD), .unset] [])) _
      refine XS.iconst X72.here hx rfl (hb hby at_143) ?_
      show Steps p.tables e below (T72.setTop (mkF m 144 #[.val (.int p1), .val (.ref b1), .val (.int (3 : Int32)), .val (.ref a_ADD), .unset] [(.int (1 : Int32))])) _
      refine XS.goto X72.here hx rfl (pc0 := 144) (pc' := 148) rfl (hb hby at_144) (by decide) (by decide) ?_
      show Steps p.tables e below (T72.setTop (mkF m 148 #[.val (.int p1), .val (.ref b1), .val (.int (3 : Int32)), .val (.ref a_ADD), .unset] [(.int (1 : Int32))])) _
      refine XS.istore X72.here hx rfl (hb hby at_148) rfl (l' := #[.val (.int p1), .val (.ref b1), .val (.int (3 : Int32)), .val (.ref a_ADD), .val (.int (1 : Int32))]) rfl ?_
      show Steps p.tables e below (T72.setTop (mkF m 150 #[.val (.int p1), .val (.ref b1), .val (.int (3 : Int32)), .val (.ref a_ADD), .val (.int (1 : Int32))] [])) _
      refine XS.aloadN X72.here hx rfl (hb hby at_150) rfl rfl ?_
      show Steps p.tables e below (T72.setTop (mkF m 151 #[.val (.int p1), .val (.ref b1), .val (.int (3 : Int32)), .val (.ref a_ADD), .val (.int (1 : Int32))] [(.ref a_ADD)])) _
      refine st110.trans ?_
      show Steps p.tables e below (T110.setTop (mkF m 154 #[.val (.int p1), .val (.ref b1), .val (.int (3 : Int32)), .val (.ref a_ADD), .val (.int (1 : Int32))] [(.int (1 : Int32))])) _
      refine XS.iload X110.here hx rfl (hb hby at_154) rfl ?_
      show Steps p.tables e below (T110.setTop (mkF m 156 #[.val (.int p1), .val (.ref b1), .val (.int (3 : Int32)), .val (.ref a_ADD), .val (.int (1 : Int32))] [(.int (1 : Int32)), (.int (1 : Int32))])) _
      refine XS.icmpNo X110.here hx rfl (hb hby at_156) rfl (teq (by decide : (1 : Int32) = (1 : Int32))).2 ?_
      show Steps p.tables e below (T110.setTop (mkF m 159 #[.val (.int p1), .val (.ref b1), .val (.int (3 : Int32)), .val (.ref a_ADD), .val (.int (1 : Int32))] [])) _
      refine XS.iconst X110.here hx rfl (hb hby at_159) ?_
      show Steps p.tables e below (T110.setTop (mkF m 160 #[.val (.int p1), .val (.ref b1), .val (.int (3 : Int32)), .val (.ref a_ADD), .val (.int (1 : Int32))] [(.int (1 : Int32))])) _
      refine XS.goto X110.here hx rfl (pc0 := 160) (pc' := 164) rfl (hb hby at_160) (by decide) (by decide) ?_
      show Steps p.tables e below (T110.setTop (mkF m 164 #[.val (.int p1), .val (.ref b1), .val (.int (3 : Int32)), .val (.ref a_ADD), .val (.int (1 : Int32))] [(.int (1 : Int32))])) _
      exact retN X110 hx (t := .boolean) Bd.returns (by simp) (hb hby at_164) hr
    · show Q0 n0 _ T110.heap _
      rw [r110]
      exact ⟨rfl, N110⟩
  · have R111 : ∀ tg, Steps p.tables e below (T72.setTop (mkF m 134 #[.val (.int p1), .val (.ref b1), .val (.int (4 : Int32)), .unset, .unset] [])) tg → Steps p.tables e below (T72.setTop (mkF m 134 #[.val (.int p1), .val (.ref b1), .val (.int ((p1 &&& (2147483647 : Int32)) % (18 : Int32))), .unset, .unset] [])) tg := fun tg kt => by rw [hk98]; exact kt
    obtain ⟨cl112, Ar112, q112, Sz112, Nn112, Ha112, Ga112⟩ := V72
    have hin112 : ¬ ((4 : Int32) < 0 ∨ cl112.slots.size ≤ ((4 : Int32)).toNatClampNeg) := inb_of Sz112 ⟨by decide, by decide⟩
    have hat112 : cl112.slots[((4 : Int32)).toNatClampNeg]? = some (.ref a_SUBTRACT) := Ha112.at hin112 rfl
    obtain ⟨cq113, kq113, q113a, q113b, q113c⟩ := isOf hZ e72 f78
    obtain ⟨_, _, ⟨T113, L113, k113, n113⟩, -, X113, ⟨Lc113, hQ113, l113, y113, z113⟩, st113⟩ := X72.virtualBack hx (y := (⟨"com/example/deadpaths_to_precision/deadpathstoprecision/frontend/BinaryOperator", "isUndefinedOnOverflow", "()Z"⟩ : MethodName)) (z := (⟨"com/example/deadpaths_to_precision/deadpathstoprecision/frontend/BinaryOperator", "isUndefinedOnOverflow", "()Z"⟩ : MethodName)) hown (mvT hZ (hw _ (List.mem_of_getElem? (i := 41) rfl))) (mvT hZ (hw _ (List.mem_of_getElem? (i := 42) rfl))) (notFace_of_selects (args := #[]) (mvT hZ (hw _ (List.mem_of_getElem? (i := 44) rfl)))) (mvT hZ (hw _ (List.mem_of_getElem? (i := 44) rfl))) (mvT hZ (hw _ (List.mem_of_getElem? (i := 43) rfl))) (by decide) (backOf (W := 0) (rm1 l Z a0 hw [] a_SUBTRACT a_MULTIPLY a_DIVIDE a_REMAINDER a_ADD a_SUBTRACT h72 n0 Z72 f92 f93 f94 f95 f96) hZ (hw _ (List.mem_of_getElem? (i := 45) rfl)) (hw _ (List.mem_of_getElem? (i := 3) rfl)) (by decide) (by decide)) q113a q113c (g := (mkF m 151 #[.val (.int p1), .val (.ref b1), .val (.int (4 : Int32)), .val (.ref a_SUBTRACT), .val (.int (1 : Int32))] [(.ref a_SUBTRACT)])) rfl (by rw [hml]; rfl) (Steps.refl _) (argsL := []) (rest := []) (lenOf pd_0 rfl) rfl (by show 2 * 0 + _ ≤ _; exact Nat.le_of_eq rfl) (hb hby at_151) (fun _ _ => ⟨rfl, e72, (by decide : 1 + 0 ≤ _), (by decide : 18 + 0 ≤ _)⟩)
    dsimp only [Pt.U, Pt.locs, Pt.cells, Pt.slots] at X113 l113 y113 z113 st113 hQ113
    subst l113 y113 z113
    obtain ⟨hv113, N113q, r113⟩ := hQ113
    rw [(if_pos (Or.inr (Or.inr (Or.inr (Or.inr (rfl))))))] at hv113
    subst hv113
    have N113 := Fr.app N72 N113q
    obtain ⟨fs, hr, hrun, hended, hW, hsame⟩ := X113.leave (v := some (.int (1 : Int32))) (fun h => by rw [Bd.returns] at h; cases h)
    refine ⟨_, _, pre0 _ (R97 _ (R111 _ ?_)), hrun, hended, _, _, rfl, ?_, ⟨_, rfl⟩, hW, hsame.mono (by decide) (by decide)⟩
    · show Steps p.tables e below (T72.setTop (mkF m 134 #[.val (.int p1), .val (.ref b1), .val (.int (4 : Int32)), .unset, .unset] [])) _
      refine XS.aloadN X72.here hx rfl (hb hby at_134) rfl rfl ?_
      show Steps p.tables e below (T72.setTop (mkF m 135 #[.val (.int p1), .val (.ref b1), .val (.int (4 : Int32)), .unset, .unset] [(.ref b1)])) _
      refine XS.iloadN X72.here hx rfl (hb hby at_135) rfl ?_
      show Steps p.tables e below (T72.setTop (mkF m 136 #[.val (.int p1), .val (.ref b1), .val (.int (4 : Int32)), .unset, .unset] [(.int (4 : Int32)), (.ref b1)])) _
      refine X72.aaload hx (j := (4 : Int32)) (v := (.ref a_SUBTRACT)) (by rw [e72]; exact Ar112.1) (State.isArrayOf_alike hZ.alike Ar112.2.1) rfl Ar112.2.2 hin112 hat112 (g := (mkF m 136 #[.val (.int p1), .val (.ref b1), .val (.int (4 : Int32)), .unset, .unset] [(.int (4 : Int32)), (.ref b1)])) rfl rfl (hb hby at_136) _ ?_
      show Steps p.tables e below (T72.setTop (mkF m 137 #[.val (.int p1), .val (.ref b1), .val (.int (4 : Int32)), .unset, .unset] [(.ref a_SUBTRACT)])) _
      refine XS.astoreN X72.here hx rfl (hb hby at_137) rfl rfl (l' := #[.val (.int p1), .val (.ref b1), .val (.int (4 : Int32)), .val (.ref a_SUBTRACT), .unset]) rfl ?_
      show Steps p.tables e below (T72.setTop (mkF m 138 #[.val (.int p1), .val (.ref b1), .val (.int (4 : Int32)), .val (.ref a_SUBTRACT), .unset] [])) _
      refine XS.iloadN X72.here hx rfl (hb hby at_138) rfl ?_
      show Steps p.tables e below (T72.setTop (mkF m 139 #[.val (.int p1), .val (.ref b1), .val (.int (4 : Int32)), .val (.ref a_SUBTRACT), .unset] [(.int (4 : Int32))])) _
      refine XS.iconst X72.here hx rfl (hb hby at_139) ?_
      show Steps p.tables e below (T72.setTop (mkF m 140 #[.val (.int p1), .val (.ref b1), .val (.int (4 : Int32)), .val (.ref a_SUBTRACT), .unset] [(.int (5 : Int32)), (.int (4 : Int32))])) _
      refine XS.icmpNo X72.here hx rfl (hb hby at_140) rfl (tlt (by decide : (4 : Int32) < (5 : Int32))).2.1 ?_
      show Steps p.tables e below (T72.setTop (mkF m 143 #[.val (.int p1), .val (.ref b1), .val (.int (4 : Int32)), .val (.ref a_SUBTRACT), .unset] [])) _
      refine XS.iconst X72.here hx rfl (hb hby at_143) ?_
      show Steps p.tables e below (T72.setTop (mkF m 144 #[.val (.int p1), .val (.ref b1), .val (.int (4 : Int32)), .val (.ref a_SUBTRACT), .unset] [(.int (1 : Int32))])) _
      refine XS.goto X72.here hx rfl (pc0 := 144) (pc' := 148) rfl (hb hby at_144) (by decide) (by decide) ?_
      show Steps p.tables e below (T72.setTop (mkF m 148 #[.val (.int p1), .val (.ref b1), .val (.int (4 : Int32)), .val (.ref a_SUBTRACT), .unset] [(.int (1 : Int32))])) _
      refine XS.istore X72.here hx rfl (hb hby at_148) rfl (l' := #[.val (.int p1), .val (.ref b1), .val (.int (4 : Int32)), .val (.ref a_SUBTRACT), .val (.int (1 : Int32))]) rfl ?_
      show Steps p.tables e below (T72.setTop (mkF m 150 #[.val (.int p1), .val (.ref b1), .val (.int (4 : Int32)), .val (.ref a_SUBTRACT), .val (.int (1 : Int32))] [])) _
      refine XS.aloadN X72.here hx rfl (hb hby at_150) rfl rfl ?_
      show Steps p.tables e below (T72.setTop (mkF m 151 #[.val (.int p1), .val (.ref b1), .val (.int (4 : Int32)), .val (.ref a_SUBTRACT), .val (.int (1 : Int32))] [(.ref a_SUBTRACT)])) _
      refine st113.trans ?_
      show Steps p.tables e below (T113.setTop (mkF m 154 #[.val (.int p1), .val (.ref b1), .val (.int (4 : Int32)), .val (.ref a_SUBTRACT), .val (.int (1 : Int32))] [(.int (1 : Int32))])) _
      refine XS.iload X113.here hx rfl (hb hby at_154) rfl ?_
      show Steps p.tables e below (T113.setTop (mkF m 156 #[.val (.int p1), .val (.ref b1), .val (.int (4 : Int32)), .val (.ref a_SUBTRACT), .val (.int (1 : Int32))] [(.int (1 : Int32)), (.int (1 : Int32))])) _
      refine XS.icmpNo X113.here hx rfl (hb hby at_156) rfl (teq (by decide : (1 : Int32) = (1 : Int32))).2 ?_
      show Steps p.tables e below (T113.setTop (mkF m 159 #[.val (.int p1), .val (.ref b1), .val (.int (4 : Int32)), .val (.ref a_SUBTRACT), .val (.int (1 : Int32))] [])) _
      refine XS.iconst X113.here hx rfl (hb hby at_159) ?_
      show Steps p.tables e below (T113.setTop (mkF m 160 #[.val (.int p1), .val (.ref b1), .val (.int (4 : Int32)), .val (.ref a_SUBTRACT), .val (.int (1 : Int32))] [(.int (1 : Int32))])) _
      refine XS.goto X113.here hx rfl (pc0 := 160) (pc' := 164) rfl (hb hby at_160) (by decide) (by decide) ?_
      show Steps p.tables e below (T113.setTop (mkF m 164 #[.val (.int p1), .val (.ref b1), .val (.int (4 : Int32)), .val (.ref a_SUBTRACT), .val (.int (1 : Int32))] [(.int (1 : Int32))])) _
      exact retN X113 hx (t := .boolean) Bd.returns (by simp) (hb hby at_164) hr
    · show Q0 n0 _ T113.heap _
      rw [r113]
      exact ⟨rfl, N113⟩
  · have R114 : ∀ tg, Steps p.tables e below (T72.setTop (mkF m 134 #[.val (.int p1), .val (.ref b1), .val (.int (5 : Int32)), .unset, .unset] [])) tg → Steps p.tables e below (T72.setTop (mkF m 134 #[.val (.int p1), .val (.ref b1), .val (.int ((p1 &&& (2147483647 : Int32)) % (18 : Int32))), .unset, .unset] [])) tg := fun tg kt => by rw [hk98]; exact kt
    obtain ⟨cl115, Ar115, q115, Sz115, Nn115, Ha115, Ga115⟩ := V72
    have hin115 : ¬ ((5 : Int32) < 0 ∨ cl115.slots.size ≤ ((5 : Int32)).toNatClampNeg) := inb_of Sz115 ⟨by decide, by decide⟩
    have hat115 : cl115.slots[((5 : Int32)).toNatClampNeg]? = some (.ref a_SHIFT_LEFT) := Ha115.at hin115 rfl
    obtain ⟨cq116, kq116, q116a, q116b, q116c⟩ := isOf hZ e72 f79
    obtain ⟨_, _, ⟨T116, L116, k116, n116⟩, -, X116, ⟨Lc116, hQ116, l116, y116, z116⟩, st116⟩ := X72.virtualBack hx (y := (⟨"com/example/deadpaths_to_precision/deadpathstoprecision/frontend/BinaryOperator", "isUndefinedOnOverflow", "()Z"⟩ : MethodName)) (z := (⟨"com/example/deadpaths_to_precision/deadpathstoprecision/frontend/BinaryOperator", "isUndefinedOnOverflow", "()Z"⟩ : MethodName)) hown (mvT hZ (hw _ (List.mem_of_getElem? (i := 41) rfl))) (mvT hZ (hw _ (List.mem_of_getElem? (i := 42) rfl))) (notFace_of_selects (args := #[]) (mvT hZ (hw _ (List.mem_of_getElem? (i := 44) rfl)))) (mvT hZ (hw _ (List.mem_of_getElem? (i := 44) rfl))) (mvT hZ (hw _ (List.mem_of_getElem? (i := 43) rfl))) (by decide) (backOf (W := 0) (rm1 l Z a0 hw [] a_SHIFT_LEFT a_MULTIPLY a_DIVIDE a_REMAINDER a_ADD a_SUBTRACT h72 n0 Z72 f92 f93 f94 f95 f96) hZ (hw _ (List.mem_of_getElem? (i := 45) rfl)) (hw _ (List.mem_of_getElem? (i := 3) rfl)) (by decide) (by decide)) q116a q116c (g := (mkF m 151 #[.val (.int p1), .val (.ref b1), .val (.int (5 : Int32)), .val (.ref a_SHIFT_LEFT), .val (.int (0 : Int32))] [(.ref a_SHIFT_LEFT)])) rfl (by rw [hml]; rfl) (Steps.refl _) (argsL := []) (rest := []) (lenOf pd_0 rfl) rfl (by show 2 * 0 + _ ≤ _; exact Nat.le_of_eq rfl) (hb hby at_151) (fun _ _ => ⟨rfl, e72, (by decide : 1 + 0 ≤ _), (by decide : 18 + 0 ≤ _)⟩)
    dsimp only [Pt.U, Pt.locs, Pt.cells, Pt.slots] at X116 l116 y116 z116 st116 hQ116
    subst l116 y116 z116
    obtain ⟨hv116, N116q, r116⟩ := hQ116
    rw [(if_neg (fun h => h.elim (own_ne_fld F_SHIFT_LEFT_ordinal F_MULTIPLY_ordinal (by decide)) (fun h => h.elim (own_ne_fld F_SHIFT_LEFT_ordinal F_DIVIDE_ordinal (by decide)) (fun h => h.elim (own_ne_fld F_SHIFT_LEFT_ordinal F_REMAINDER_ordinal (by decide)) (fun h => h.elim (own_ne_fld F_SHIFT_LEFT_ordinal F_ADD_ordinal (by decide)) (own_ne_fld F_SHIFT_LEFT_ordinal F_SUBTRACT_ordinal (by decide)))))))] at hv116
    subst hv116
    have N116 := Fr.app N72 N116q
    obtain ⟨fs, hr, hrun, hended, hW, hsame⟩ := X116.leave (v := some (.int (1 : Int32))) (fun h => by rw [Bd.returns] at h; cases h)
    refine ⟨_, _, pre0 _ (R97 _ (R114 _ ?_)), hrun, hended, _, _, rfl, ?_, ⟨_, rfl⟩, hW, hsame.mono (by decide) (by decide)⟩
    · show Steps p.tables e below (T72.setTop (mkF m 134 #[.val (.int p1), .val (.ref b1), .val (.int (5 : Int32)), .unset, .unset] [])) _
      refine XS.aloadN X72.here hx rfl (hb hby at_134) rfl rfl ?_
      show Steps p.tables e below (T72.setTop (mkF m 135 #[.val (.int p1), .val (.ref b1), .val (.int (5 : Int32)), .unset, .unset] [(.ref b1)])) _
      refine XS.iloadN X72.here hx rfl (hb hby at_135) rfl ?_
      show Steps p.tables e below (T72.setTop (mkF m 136 #[.val (.int p1), .val (.ref b1), .val (.int (5 : Int32)), .unset, .unset] [(.int (5 : Int32)), (.ref b1)])) _
      refine X72.aaload hx (j := (5 : Int32)) (v := (.ref a_SHIFT_LEFT)) (by rw [e72]; exact Ar115.1) (State.isArrayOf_alike hZ.alike Ar115.2.1) rfl Ar115.2.2 hin115 hat115 (g := (mkF m 136 #[.val (.int p1), .val (.ref b1), .val (.int (5 : Int32)), .unset, .unset] [(.int (5 : Int32)), (.ref b1)])) rfl rfl (hb hby at_136) _ ?_
      show Steps p.tables e below (T72.setTop (mkF m 137 #[.val (.int p1), .val (.ref b1), .val (.int (5 : Int32)), .unset, .unset] [(.ref a_SHIFT_LEFT)])) _
      refine XS.astoreN X72.here hx rfl (hb hby at_137) rfl rfl (l' := #[.val (.int p1), .val (.ref b1), .val (.int (5 : Int32)), .val (.ref a_SHIFT_LEFT), .unset]) rfl ?_
      show Steps p.tables e below (T72.setTop (mkF m 138 #[.val (.int p1), .val (.ref b1), .val (.int (5 : Int32)), .val (.ref a_SHIFT_LEFT), .unset] [])) _
      refine XS.iloadN X72.here hx rfl (hb hby at_138) rfl ?_
      show Steps p.tables e below (T72.setTop (mkF m 139 #[.val (.int p1), .val (.ref b1), .val (.int (5 : Int32)), .val (.ref a_SHIFT_LEFT), .unset] [(.int (5 : Int32))])) _
      refine XS.iconst X72.here hx rfl (hb hby at_139) ?_
      show Steps p.tables e below (T72.setTop (mkF m 140 #[.val (.int p1), .val (.ref b1), .val (.int (5 : Int32)), .val (.ref a_SHIFT_LEFT), .unset] [(.int (5 : Int32)), (.int (5 : Int32))])) _
      refine XS.icmpYes X72.here hx rfl (pc0 := 140) (pc' := 147) rfl (hb hby at_140) rfl (flt (by decide : ¬ ((5 : Int32) < (5 : Int32)))).2.1 (by decide) (by decide) ?_
      show Steps p.tables e below (T72.setTop (mkF m 147 #[.val (.int p1), .val (.ref b1), .val (.int (5 : Int32)), .val (.ref a_SHIFT_LEFT), .unset] [])) _
      refine XS.iconst X72.here hx rfl (hb hby at_147) ?_
      show Steps p.tables e below (T72.setTop (mkF m 148 #[.val (.int p1), .val (.ref b1), .val (.int (5 : Int32)), .val (.ref a_SHIFT_LEFT), .unset] [(.int (0 : Int32))])) _
      refine XS.istore X72.here hx rfl (hb hby at_148) rfl (l' := #[.val (.int p1), .val (.ref b1), .val (.int (5 : Int32)), .val (.ref a_SHIFT_LEFT), .val (.int (0 : Int32))]) rfl ?_
      show Steps p.tables e below (T72.setTop (mkF m 150 #[.val (.int p1), .val (.ref b1), .val (.int (5 : Int32)), .val (.ref a_SHIFT_LEFT), .val (.int (0 : Int32))] [])) _
      refine XS.aloadN X72.here hx rfl (hb hby at_150) rfl rfl ?_
      show Steps p.tables e below (T72.setTop (mkF m 151 #[.val (.int p1), .val (.ref b1), .val (.int (5 : Int32)), .val (.ref a_SHIFT_LEFT), .val (.int (0 : Int32))] [(.ref a_SHIFT_LEFT)])) _
      refine st116.trans ?_
      show Steps p.tables e below (T116.setTop (mkF m 154 #[.val (.int p1), .val (.ref b1), .val (.int (5 : Int32)), .val (.ref a_SHIFT_LEFT), .val (.int (0 : Int32))] [(.int (0 : Int32))])) _
      refine XS.iload X116.here hx rfl (hb hby at_154) rfl ?_
      show Steps p.tables e below (T116.setTop (mkF m 156 #[.val (.int p1), .val (.ref b1), .val (.int (5 : Int32)), .val (.ref a_SHIFT_LEFT), .val (.int (0 : Int32))] [(.int (0 : Int32)), (.int (0 : Int32))])) _
      refine XS.icmpNo X116.here hx rfl (hb hby at_156) rfl (teq (by decide : (0 : Int32) = (0 : Int32))).2 ?_
      show Steps p.tables e below (T116.setTop (mkF m 159 #[.val (.int p1), .val (.ref b1), .val (.int (5 : Int32)), .val (.ref a_SHIFT_LEFT), .val (.int (0 : Int32))] [])) _
      refine XS.iconst X116.here hx rfl (hb hby at_159) ?_
      show Steps p.tables e below (T116.setTop (mkF m 160 #[.val (.int p1), .val (.ref b1), .val (.int (5 : Int32)), .val (.ref a_SHIFT_LEFT), .val (.int (0 : Int32))] [(.int (1 : Int32))])) _
      refine XS.goto X116.here hx rfl (pc0 := 160) (pc' := 164) rfl (hb hby at_160) (by decide) (by decide) ?_
      show Steps p.tables e below (T116.setTop (mkF m 164 #[.val (.int p1), .val (.ref b1), .val (.int (5 : Int32)), .val (.ref a_SHIFT_LEFT), .val (.int (0 : Int32))] [(.int (1 : Int32))])) _
      exact retN X116 hx (t := .boolean) Bd.returns (by simp) (hb hby at_164) hr
    · show Q0 n0 _ T116.heap _
      rw [r116]
      exact ⟨rfl, N116⟩
  · have R117 : ∀ tg, Steps p.tables e below (T72.setTop (mkF m 134 #[.val (.int p1), .val (.ref b1), .val (.int (6 : Int32)), .unset, .unset] [])) tg → Steps p.tables e below (T72.setTop (mkF m 134 #[.val (.int p1), .val (.ref b1), .val (.int ((p1 &&& (2147483647 : Int32)) % (18 : Int32))), .unset, .unset] [])) tg := fun tg kt => by rw [hk98]; exact kt
    obtain ⟨cl118, Ar118, q118, Sz118, Nn118, Ha118, Ga118⟩ := V72
    have hin118 : ¬ ((6 : Int32) < 0 ∨ cl118.slots.size ≤ ((6 : Int32)).toNatClampNeg) := inb_of Sz118 ⟨by decide, by decide⟩
    have hat118 : cl118.slots[((6 : Int32)).toNatClampNeg]? = some (.ref a_SHIFT_RIGHT) := Ha118.at hin118 rfl
    obtain ⟨cq119, kq119, q119a, q119b, q119c⟩ := isOf hZ e72 f80
    obtain ⟨_, _, ⟨T119, L119, k119, n119⟩, -, X119, ⟨Lc119, hQ119, l119, y119, z119⟩, st119⟩ := X72.virtualBack hx (y := (⟨"com/example/deadpaths_to_precision/deadpathstoprecision/frontend/BinaryOperator", "isUndefinedOnOverflow", "()Z"⟩ : MethodName)) (z := (⟨"com/example/deadpaths_to_precision/deadpathstoprecision/frontend/BinaryOperator", "isUndefinedOnOverflow", "()Z"⟩ : MethodName)) hown (mvT hZ (hw _ (List.mem_of_getElem? (i := 41) rfl))) (mvT hZ (hw _ (List.mem_of_getElem? (i := 42) rfl))) (notFace_of_selects (args := #[]) (mvT hZ (hw _ (List.mem_of_getElem? (i := 44) rfl)))) (mvT hZ (hw _ (List.mem_of_getElem? (i := 44) rfl))) (mvT hZ (hw _ (List.mem_of_getElem? (i := 43) rfl))) (by decide) (backOf (W := 0) (rm1 l Z a0 hw [] a_SHIFT_RIGHT a_MULTIPLY a_DIVIDE a_REMAINDER a_ADD a_SUBTRACT h72 n0 Z72 f92 f93 f94 f95 f96) hZ (hw _ (List.mem_of_getElem? (i := 45) rfl)) (hw _ (List.mem_of_getElem? (i := 3) rfl)) (by decide) (by decide)) q119a q119c (g := (mkF m 151 #[.val (.int p1), .val (.ref b1), .val (.int (6 : Int32)), .val (.ref a_SHIFT_RIGHT), .val (.int (0 : Int32))] [(.ref a_SHIFT_RIGHT)])) rfl (by rw [hml]; rfl) (Steps.refl _) (argsL := []) (rest := []) (lenOf pd_0 rfl) rfl (by show 2 * 0 + _ ≤ _; exact Nat.le_of_eq rfl) (hb hby at_151) (fun _ _ => ⟨rfl, e72, (by decide : 1 + 0 ≤ _), (by decide : 18 + 0 ≤ _)⟩)
    dsimp only [Pt.U, Pt.locs, Pt.cells, Pt.slots] at X119 l119 y119 z119 st119 hQ119
    subst l119 y119 z119
    obtain ⟨hv119, N119q, r119⟩ := hQ119
    rw [(if_neg (fun h => h.elim (own_ne_fld F_SHIFT_RIGHT_ordinal F_MULTIPLY_ordinal (by decide)) (fun h => h.elim (own_ne_fld F_SHIFT_RIGHT_ordinal F_DIVIDE_ordinal (by decide)) (fun h => h.elim (own_ne_fld F_SHIFT_RIGHT_ordinal F_REMAINDER_ordinal (by decide)) (fun h => h.elim (own_ne_fld F_SHIFT_RIGHT_ordinal F_ADD_ordinal (by decide)) (own_ne_fld F_SHIFT_RIGHT_ordinal F_SUBTRACT_ordinal (by decide)))))))] at hv119
    subst hv119
    have N119 := Fr.app N72 N119q
    obtain ⟨fs, hr, hrun, hended, hW, hsame⟩ := X119.leave (v := some (.int (1 : Int32))) (fun h => by rw [Bd.returns] at h; cases h)
    refine ⟨_, _, pre0 _ (R97 _ (R117 _ ?_)), hrun, hended, _, _, rfl, ?_, ⟨_, rfl⟩, hW, hsame.mono (by decide) (by decide)⟩
    · show Steps p.tables e below (T72.setTop (mkF m 134 #[.val (.int p1), .val (.ref b1), .val (.int (6 : Int32)), .unset, .unset] [])) _
      refine XS.aloadN X72.here hx rfl (hb hby at_134) rfl rfl ?_
      show Steps p.tables e below (T72.setTop (mkF m 135 #[.val (.int p1), .val (.ref b1), .val (.int (6 : Int32)), .unset, .unset] [(.ref b1)])) _
      refine XS.iloadN X72.here hx rfl (hb hby at_135) rfl ?_
      show Steps p.tables e below (T72.setTop (mkF m 136 #[.val (.int p1), .val (.ref b1), .val (.int (6 : Int32)), .unset, .unset] [(.int (6 : Int32)), (.ref b1)])) _
      refine X72.aaload hx (j := (6 : Int32)) (v := (.ref a_SHIFT_RIGHT)) (by rw [e72]; exact Ar118.1) (State.isArrayOf_alike hZ.alike Ar118.2.1) rfl Ar118.2.2 hin118 hat118 (g := (mkF m 136 #[.val (.int p1), .val (.ref b1), .val (.int (6 : Int32)), .unset, .unset] [(.int (6 : Int32)), (.ref b1)])) rfl rfl (hb hby at_136) _ ?_
      show Steps p.tables e below (T72.setTop (mkF m 137 #[.val (.int p1), .val (.ref b1), .val (.int (6 : Int32)), .unset, .unset] [(.ref a_SHIFT_RIGHT)])) _
      refine XS.astoreN X72.here hx rfl (hb hby at_137) rfl rfl (l' := #[.val (.int p1), .val (.ref b1), .val (.int (6 : Int32)), .val (.ref a_SHIFT_RIGHT), .unset]) rfl ?_
      show Steps p.tables e below (T72.setTop (mkF m 138 #[.val (.int p1), .val (.ref b1), .val (.int (6 : Int32)), .val (.ref a_SHIFT_RIGHT), .unset] [])) _
      refine XS.iloadN X72.here hx rfl (hb hby at_138) rfl ?_
      show Steps p.tables e below (T72.setTop (mkF m 139 #[.val (.int p1), .val (.ref b1), .val (.int (6 : Int32)), .val (.ref a_SHIFT_RIGHT), .unset] [(.int (6 : Int32))])) _
      refine XS.iconst X72.here hx rfl (hb hby at_139) ?_
      show Steps p.tables e below (T72.setTop (mkF m 140 #[.val (.int p1), .val (.ref b1), .val (.int (6 : Int32)), .val (.ref a_SHIFT_RIGHT), .unset] [(.int (5 : Int32)), (.int (6 : Int32))])) _
      refine XS.icmpYes X72.here hx rfl (pc0 := 140) (pc' := 147) rfl (hb hby at_140) rfl (flt (by decide : ¬ ((6 : Int32) < (5 : Int32)))).2.1 (by decide) (by decide) ?_
      show Steps p.tables e below (T72.setTop (mkF m 147 #[.val (.int p1), .val (.ref b1), .val (.int (6 : Int32)), .val (.ref a_SHIFT_RIGHT), .unset] [])) _
      refine XS.iconst X72.here hx rfl (hb hby at_147) ?_
      show Steps p.tables e below (T72.setTop (mkF m 148 #[.val (.int p1), .val (.ref b1), .val (.int (6 : Int32)), .val (.ref a_SHIFT_RIGHT), .unset] [(.int (0 : Int32))])) _
      refine XS.istore X72.here hx rfl (hb hby at_148) rfl (l' := #[.val (.int p1), .val (.ref b1), .val (.int (6 : Int32)), .val (.ref a_SHIFT_RIGHT), .val (.int (0 : Int32))]) rfl ?_
      show Steps p.tables e below (T72.setTop (mkF m 150 #[.val (.int p1), .val (.ref b1), .val (.int (6 : Int32)), .val (.ref a_SHIFT_RIGHT), .val (.int (0 : Int32))] [])) _
      refine XS.aloadN X72.here hx rfl (hb hby at_150) rfl rfl ?_
      show Steps p.tables e below (T72.setTop (mkF m 151 #[.val (.int p1), .val (.ref b1), .val (.int (6 : Int32)), .val (.ref a_SHIFT_RIGHT), .val (.int (0 : Int32))] [(.ref a_SHIFT_RIGHT)])) _
      refine st119.trans ?_
      show Steps p.tables e below (T119.setTop (mkF m 154 #[.val (.int p1), .val (.ref b1), .val (.int (6 : Int32)), .val (.ref a_SHIFT_RIGHT), .val (.int (0 : Int32))] [(.int (0 : Int32))])) _
      refine XS.iload X119.here hx rfl (hb hby at_154) rfl ?_
      show Steps p.tables e below (T119.setTop (mkF m 156 #[.val (.int p1), .val (.ref b1), .val (.int (6 : Int32)), .val (.ref a_SHIFT_RIGHT), .val (.int (0 : Int32))] [(.int (0 : Int32)), (.int (0 : Int32))])) _
      refine XS.icmpNo X119.here hx rfl (hb hby at_156) rfl (teq (by decide : (0 : Int32) = (0 : Int32))).2 ?_
      show Steps p.tables e below (T119.setTop (mkF m 159 #[.val (.int p1), .val (.ref b1), .val (.int (6 : Int32)), .val (.ref a_SHIFT_RIGHT), .val (.int (0 : Int32))] [])) _
      refine XS.iconst X119.here hx rfl (hb hby at_159) ?_
      show Steps p.tables e below (T119.setTop (mkF m 160 #[.val (.int p1), .val (.ref b1), .val (.int (6 : Int32)), .val (.ref a_SHIFT_RIGHT), .val (.int (0 : Int32))] [(.int (1 : Int32))])) _
      refine XS.goto X119.here hx rfl (pc0 := 160) (pc' := 164) rfl (hb hby at_160) (by decide) (by decide) ?_
      show Steps p.tables e below (T119.setTop (mkF m 164 #[.val (.int p1), .val (.ref b1), .val (.int (6 : Int32)), .val (.ref a_SHIFT_RIGHT), .val (.int (0 : Int32))] [(.int (1 : Int32))])) _
      exact retN X119 hx (t := .boolean) Bd.returns (by simp) (hb hby at_164) hr
    · show Q0 n0 _ T119.heap _
      rw [r119]
      exact ⟨rfl, N119⟩
  · have R120 : ∀ tg, Steps p.tables e below (T72.setTop (mkF m 134 #[.val (.int p1), .val (.ref b1), .val (.int (7 : Int32)), .unset, .unset] [])) tg → Steps p.tables e below (T72.setTop (mkF m 134 #[.val (.int p1), .val (.ref b1), .val (.int ((p1 &&& (2147483647 : Int32)) % (18 : Int32))), .unset, .unset] [])) tg := fun tg kt => by rw [hk98]; exact kt
    obtain ⟨cl121, Ar121, q121, Sz121, Nn121, Ha121, Ga121⟩ := V72
    have hin121 : ¬ ((7 : Int32) < 0 ∨ cl121.slots.size ≤ ((7 : Int32)).toNatClampNeg) := inb_of Sz121 ⟨by decide, by decide⟩
    have hat121 : cl121.slots[((7 : Int32)).toNatClampNeg]? = some (.ref a_LESS) := Ha121.at hin121 rfl
    obtain ⟨cq122, kq122, q122a, q122b, q122c⟩ := isOf hZ e72 f81
    obtain ⟨_, _, ⟨T122, L122, k122, n122⟩, -, X122, ⟨Lc122, hQ122, l122, y122, z122⟩, st122⟩ := X72.virtualBack hx (y := (⟨"com/example/deadpaths_to_precision/deadpathstoprecision/frontend/BinaryOperator", "isUndefinedOnOverflow", "()Z"⟩ : MethodName)) (z := (⟨"com/example/deadpaths_to_precision/deadpathstoprecision/frontend/BinaryOperator", "isUndefinedOnOverflow", "()Z"⟩ : MethodName)) hown (mvT hZ (hw _ (List.mem_of_getElem? (i := 41) rfl))) (mvT hZ (hw _ (List.mem_of_getElem? (i := 42) rfl))) (notFace_of_selects (args := #[]) (mvT hZ (hw _ (List.mem_of_getElem? (i := 44) rfl)))) (mvT hZ (hw _ (List.mem_of_getElem? (i := 44) rfl))) (mvT hZ (hw _ (List.mem_of_getElem? (i := 43) rfl))) (by decide) (backOf (W := 0) (rm1 l Z a0 hw [] a_LESS a_MULTIPLY a_DIVIDE a_REMAINDER a_ADD a_SUBTRACT h72 n0 Z72 f92 f93 f94 f95 f96) hZ (hw _ (List.mem_of_getElem? (i := 45) rfl)) (hw _ (List.mem_of_getElem? (i := 3) rfl)) (by decide) (by decide)) q122a q122c (g := (mkF m 151 #[.val (.int p1), .val (.ref b1), .val (.int (7 : Int32)), .val (.ref a_LESS), .val (.int (0 : Int32))] [(.ref a_LESS)])) rfl (by rw [hml]; rfl) (Steps.refl _) (argsL := []) (rest := []) (lenOf pd_0 rfl) rfl (by show 2 * 0 + _ ≤ _; exact Nat.le_of_eq rfl) (hb hby at_151) (fun _ _ => ⟨rfl, e72, (by decide : 1 + 0 ≤ _), (by decide : 18 + 0 ≤ _)⟩)
    dsimp only [Pt.U, Pt.locs, Pt.cells, Pt.slots] at X122 l122 y122 z122 st122 hQ122
    subst l122 y122 z122
    obtain ⟨hv122, N122q, r122⟩ := hQ122
    rw [(if_neg (fun h => h.elim (own_ne_fld F_LESS_ordinal F_MULTIPLY_ordinal (by decide)) (fun h => h.elim (own_ne_fld F_LESS_ordinal F_DIVIDE_ordinal (by decide)) (fun h => h.elim (own_ne_fld F_LESS_ordinal F_REMAINDER_ordinal (by decide)) (fun h => h.elim (own_ne_fld F_LESS_ordinal F_ADD_ordinal (by decide)) (own_ne_fld F_LESS_ordinal F_SUBTRACT_ordinal (by decide)))))))] at hv122
    subst hv122
    have N122 := Fr.app N72 N122q
    obtain ⟨fs, hr, hrun, hended, hW, hsame⟩ := X122.leave (v := some (.int (1 : Int32))) (fun h => by rw [Bd.returns] at h; cases h)
    refine ⟨_, _, pre0 _ (R97 _ (R120 _ ?_)), hrun, hended, _, _, rfl, ?_, ⟨_, rfl⟩, hW, hsame.mono (by decide) (by decide)⟩
    · show Steps p.tables e below (T72.setTop (mkF m 134 #[.val (.int p1), .val (.ref b1), .val (.int (7 : Int32)), .unset, .unset] [])) _
      refine XS.aloadN X72.here hx rfl (hb hby at_134) rfl rfl ?_
      show Steps p.tables e below (T72.setTop (mkF m 135 #[.val (.int p1), .val (.ref b1), .val (.int (7 : Int32)), .unset, .unset] [(.ref b1)])) _
      refine XS.iloadN X72.here hx rfl (hb hby at_135) rfl ?_
      show Steps p.tables e below (T72.setTop (mkF m 136 #[.val (.int p1), .val (.ref b1), .val (.int (7 : Int32)), .unset, .unset] [(.int (7 : Int32)), (.ref b1)])) _
      refine X72.aaload hx (j := (7 : Int32)) (v := (.ref a_LESS)) (by rw [e72]; exact Ar121.1) (State.isArrayOf_alike hZ.alike Ar121.2.1) rfl Ar121.2.2 hin121 hat121 (g := (mkF m 136 #[.val (.int p1), .val (.ref b1), .val (.int (7 : Int32)), .unset, .unset] [(.int (7 : Int32)), (.ref b1)])) rfl rfl (hb hby at_136) _ ?_
      show Steps p.tables e below (T72.setTop (mkF m 137 #[.val (.int p1), .val (.ref b1), .val (.int (7 : Int32)), .unset, .unset] [(.ref a_LESS)])) _
      refine XS.astoreN X72.here hx rfl (hb hby at_137) rfl rfl (l' := #[.val (.int p1), .val (.ref b1), .val (.int (7 : Int32)), .val (.ref a_LESS), .unset]) rfl ?_
      show Steps p.tables e below (T72.setTop (mkF m 138 #[.val (.int p1), .val (.ref b1), .val (.int (7 : Int32)), .val (.ref a_LESS), .unset] [])) _
      refine XS.iloadN X72.here hx rfl (hb hby at_138) rfl ?_
      show Steps p.tables e below (T72.setTop (mkF m 139 #[.val (.int p1), .val (.ref b1), .val (.int (7 : Int32)), .val (.ref a_LESS), .unset] [(.int (7 : Int32))])) _
      refine XS.iconst X72.here hx rfl (hb hby at_139) ?_
      show Steps p.tables e below (T72.setTop (mkF m 140 #[.val (.int p1), .val (.ref b1), .val (.int (7 : Int32)), .val (.ref a_LESS), .unset] [(.int (5 : Int32)), (.int (7 : Int32))])) _
      refine XS.icmpYes X72.here hx rfl (pc0 := 140) (pc' := 147) rfl (hb hby at_140) rfl (flt (by decide : ¬ ((7 : Int32) < (5 : Int32)))).2.1 (by decide) (by decide) ?_
      show Steps p.tables e below (T72.setTop (mkF m 147 #[.val (.int p1), .val (.ref b1), .val (.int (7 : Int32)), .val (.ref a_LESS), .unset] [])) _
      refine XS.iconst X72.here hx rfl (hb hby at_147) ?_
      show Steps p.tables e below (T72.setTop (mkF m 148 #[.val (.int p1), .val (.ref b1), .val (.int (7 : Int32)), .val (.ref a_LESS), .unset] [(.int (0 : Int32))])) _
      refine XS.istore X72.here hx rfl (hb hby at_148) rfl (l' := #[.val (.int p1), .val (.ref b1), .val (.int (7 : Int32)), .val (.ref a_LESS), .val (.int (0 : Int32))]) rfl ?_
      show Steps p.tables e below (T72.setTop (mkF m 150 #[.val (.int p1), .val (.ref b1), .val (.int (7 : Int32)), .val (.ref a_LESS), .val (.int (0 : Int32))] [])) _
      refine XS.aloadN X72.here hx rfl (hb hby at_150) rfl rfl ?_
      show Steps p.tables e below (T72.setTop (mkF m 151 #[.val (.int p1), .val (.ref b1), .val (.int (7 : Int32)), .val (.ref a_LESS), .val (.int (0 : Int32))] [(.ref a_LESS)])) _
      refine st122.trans ?_
      show Steps p.tables e below (T122.setTop (mkF m 154 #[.val (.int p1), .val (.ref b1), .val (.int (7 : Int32)), .val (.ref a_LESS), .val (.int (0 : Int32))] [(.int (0 : Int32))])) _
      refine XS.iload X122.here hx rfl (hb hby at_154) rfl ?_
      show Steps p.tables e below (T122.setTop (mkF m 156 #[.val (.int p1), .val (.ref b1), .val (.int (7 : Int32)), .val (.ref a_LESS), .val (.int (0 : Int32))] [(.int (0 : Int32)), (.int (0 : Int32))])) _
      refine XS.icmpNo X122.here hx rfl (hb hby at_156) rfl (teq (by decide : (0 : Int32) = (0 : Int32))).2 ?_
      show Steps p.tables e below (T122.setTop (mkF m 159 #[.val (.int p1), .val (.ref b1), .val (.int (7 : Int32)), .val (.ref a_LESS), .val (.int (0 : Int32))] [])) _
      refine XS.iconst X122.here hx rfl (hb hby at_159) ?_
      show Steps p.tables e below (T122.setTop (mkF m 160 #[.val (.int p1), .val (.ref b1), .val (.int (7 : Int32)), .val (.ref a_LESS), .val (.int (0 : Int32))] [(.int (1 : Int32))])) _
      refine XS.goto X122.here hx rfl (pc0 := 160) (pc' := 164) rfl (hb hby at_160) (by decide) (by decide) ?_
      show Steps p.tables e below (T122.setTop (mkF m 164 #[.val (.int p1), .val (.ref b1), .val (.int (7 : Int32)), .val (.ref a_LESS), .val (.int (0 : Int32))] [(.int (1 : Int32))])) _
      exact retN X122 hx (t := .boolean) Bd.returns (by simp) (hb hby at_164) hr
    · show Q0 n0 _ T122.heap _
      rw [r122]
      exact ⟨rfl, N122⟩
  · have R123 : ∀ tg, Steps p.tables e below (T72.setTop (mkF m 134 #[.val (.int p1), .val (.ref b1), .val (.int (8 : Int32)), .unset, .unset] [])) tg → Steps p.tables e below (T72.setTop (mkF m 134 #[.val (.int p1), .val (.ref b1), .val (.int ((p1 &&& (2147483647 : Int32)) % (18 : Int32))), .unset, .unset] [])) tg := fun tg kt => by rw [hk98]; exact kt
    obtain ⟨cl124, Ar124, q124, Sz124, Nn124, Ha124, Ga124⟩ := V72
    have hin124 : ¬ ((8 : Int32) < 0 ∨ cl124.slots.size ≤ ((8 : Int32)).toNatClampNeg) := inb_of Sz124 ⟨by decide, by decide⟩
    have hat124 : cl124.slots[((8 : Int32)).toNatClampNeg]? = some (.ref a_GREATER) := Ha124.at hin124 rfl
    obtain ⟨cq125, kq125, q125a, q125b, q125c⟩ := isOf hZ e72 f82
    obtain ⟨_, _, ⟨T125, L125, k125, n125⟩, -, X125, ⟨Lc125, hQ125, l125, y125, z125⟩, st125⟩ := X72.virtualBack hx (y := (⟨"com/example/deadpaths_to_precision/deadpathstoprecision/frontend/BinaryOperator", "isUndefinedOnOverflow", "()Z"⟩ : MethodName)) (z := (⟨"com/example/deadpaths_to_precision/deadpathstoprecision/frontend/BinaryOperator", "isUndefinedOnOverflow", "()Z"⟩ : MethodName)) hown (mvT hZ (hw _ (List.mem_of_getElem? (i := 41) rfl))) (mvT hZ (hw _ (List.mem_of_getElem? (i := 42) rfl))) (notFace_of_selects (args := #[]) (mvT hZ (hw _ (List.mem_of_getElem? (i := 44) rfl)))) (mvT hZ (hw _ (List.mem_of_getElem? (i := 44) rfl))) (mvT hZ (hw _ (List.mem_of_getElem? (i := 43) rfl))) (by decide) (backOf (W := 0) (rm1 l Z a0 hw [] a_GREATER a_MULTIPLY a_DIVIDE a_REMAINDER a_ADD a_SUBTRACT h72 n0 Z72 f92 f93 f94 f95 f96) hZ (hw _ (List.mem_of_getElem? (i := 45) rfl)) (hw _ (List.mem_of_getElem? (i := 3) rfl)) (by decide) (by decide)) q125a q125c (g := (mkF m 151 #[.val (.int p1), .val (.ref b1), .val (.int (8 : Int32)), .val (.ref a_GREATER), .val (.int (0 : Int32))] [(.ref a_GREATER)])) rfl (by rw [hml]; rfl) (Steps.refl _) (argsL := []) (rest := []) (lenOf pd_0 rfl) rfl (by show 2 * 0 + _ ≤ _; exact Nat.le_of_eq rfl) (hb hby at_151) (fun _ _ => ⟨rfl, e72, (by decide : 1 + 0 ≤ _), (by decide : 18 + 0 ≤ _)⟩)
    dsimp only [Pt.U, Pt.locs, Pt.cells, Pt.slots] at X125 l125 y125 z125 st125 hQ125
    subst l125 y125 z125
    obtain ⟨hv125, N125q, r125⟩ := hQ125
    rw [(if_neg (fun h => h.elim (own_ne_fld F_GREATER_ordinal F_MULTIPLY_ordinal (by decide)) (fun h => h.elim (own_ne_fld F_GREATER_ordinal F_DIVIDE_ordinal (by decide)) (fun h => h.elim (own_ne_fld F_GREATER_ordinal F_REMAINDER_ordinal (by decide)) (fun h => h.elim (own_ne_fld F_GREATER_ordinal F_ADD_ordinal (by decide)) (own_ne_fld F_GREATER_ordinal F_SUBTRACT_ordinal (by decide)))))))] at hv125
    subst hv125
    have N125 := Fr.app N72 N125q
    obtain ⟨fs, hr, hrun, hended, hW, hsame⟩ := X125.leave (v := some (.int (1 : Int32))) (fun h => by rw [Bd.returns] at h; cases h)
    refine ⟨_, _, pre0 _ (R97 _ (R123 _ ?_)), hrun, hended, _, _, rfl, ?_, ⟨_, rfl⟩, hW, hsame.mono (by decide) (by decide)⟩
    · show Steps p.tables e below (T72.setTop (mkF m 134 #[.val (.int p1), .val (.ref b1), .val (.int (8 : Int32)), .unset, .unset] [])) _
      refine XS.aloadN X72.here hx rfl (hb hby at_134) rfl rfl ?_
      show Steps p.tables e below (T72.setTop (mkF m 135 #[.val (.int p1), .val (.ref b1), .val (.int (8 : Int32)), .unset, .unset] [(.ref b1)])) _
      refine XS.iloadN X72.here hx rfl (hb hby at_135) rfl ?_
      show Steps p.tables e below (T72.setTop (mkF m 136 #[.val (.int p1), .val (.ref b1), .val (.int (8 : Int32)), .unset, .unset] [(.int (8 : Int32)), (.ref b1)])) _
      refine X72.aaload hx (j := (8 : Int32)) (v := (.ref a_GREATER)) (by rw [e72]; exact Ar124.1) (State.isArrayOf_alike hZ.alike Ar124.2.1) rfl Ar124.2.2 hin124 hat124 (g := (mkF m 136 #[.val (.int p1), .val (.ref b1), .val (.int (8 : Int32)), .unset, .unset] [(.int (8 : Int32)), (.ref b1)])) rfl rfl (hb hby at_136) _ ?_
      show Steps p.tables e below (T72.setTop (mkF m 137 #[.val (.int p1), .val (.ref b1), .val (.int (8 : Int32)), .unset, .unset] [(.ref a_GREATER)])) _
      refine XS.astoreN X72.here hx rfl (hb hby at_137) rfl rfl (l' := #[.val (.int p1), .val (.ref b1), .val (.int (8 : Int32)), .val (.ref a_GREATER), .unset]) rfl ?_
      show Steps p.tables e below (T72.setTop (mkF m 138 #[.val (.int p1), .val (.ref b1), .val (.int (8 : Int32)), .val (.ref a_GREATER), .unset] [])) _
      refine XS.iloadN X72.here hx rfl (hb hby at_138) rfl ?_
      show Steps p.tables e below (T72.setTop (mkF m 139 #[.val (.int p1), .val (.ref b1), .val (.int (8 : Int32)), .val (.ref a_GREATER), .unset] [(.int (8 : Int32))])) _
      refine XS.iconst X72.here hx rfl (hb hby at_139) ?_
      show Steps p.tables e below (T72.setTop (mkF m 140 #[.val (.int p1), .val (.ref b1), .val (.int (8 : Int32)), .val (.ref a_GREATER), .unset] [(.int (5 : Int32)), (.int (8 : Int32))])) _
      refine XS.icmpYes X72.here hx rfl (pc0 := 140) (pc' := 147) rfl (hb hby at_140) rfl (flt (by decide : ¬ ((8 : Int32) < (5 : Int32)))).2.1 (by decide) (by decide) ?_
      show Steps p.tables e below (T72.setTop (mkF m 147 #[.val (.int p1), .val (.ref b1), .val (.int (8 : Int32)), .val (.ref a_GREATER), .unset] [])) _
      refine XS.iconst X72.here hx rfl (hb hby at_147) ?_
      show Steps p.tables e below (T72.setTop (mkF m 148 #[.val (.int p1), .val (.ref b1), .val (.int (8 : Int32)), .val (.ref a_GREATER), .unset] [(.int (0 : Int32))])) _
      refine XS.istore X72.here hx rfl (hb hby at_148) rfl (l' := #[.val (.int p1), .val (.ref b1), .val (.int (8 : Int32)), .val (.ref a_GREATER), .val (.int (0 : Int32))]) rfl ?_
      show Steps p.tables e below (T72.setTop (mkF m 150 #[.val (.int p1), .val (.ref b1), .val (.int (8 : Int32)), .val (.ref a_GREATER), .val (.int (0 : Int32))] [])) _
      refine XS.aloadN X72.here hx rfl (hb hby at_150) rfl rfl ?_
      show Steps p.tables e below (T72.setTop (mkF m 151 #[.val (.int p1), .val (.ref b1), .val (.int (8 : Int32)), .val (.ref a_GREATER), .val (.int (0 : Int32))] [(.ref a_GREATER)])) _
      refine st125.trans ?_
      show Steps p.tables e below (T125.setTop (mkF m 154 #[.val (.int p1), .val (.ref b1), .val (.int (8 : Int32)), .val (.ref a_GREATER), .val (.int (0 : Int32))] [(.int (0 : Int32))])) _
      refine XS.iload X125.here hx rfl (hb hby at_154) rfl ?_
      show Steps p.tables e below (T125.setTop (mkF m 156 #[.val (.int p1), .val (.ref b1), .val (.int (8 : Int32)), .val (.ref a_GREATER), .val (.int (0 : Int32))] [(.int (0 : Int32)), (.int (0 : Int32))])) _
      refine XS.icmpNo X125.here hx rfl (hb hby at_156) rfl (teq (by decide : (0 : Int32) = (0 : Int32))).2 ?_
      show Steps p.tables e below (T125.setTop (mkF m 159 #[.val (.int p1), .val (.ref b1), .val (.int (8 : Int32)), .val (.ref a_GREATER), .val (.int (0 : Int32))] [])) _
      refine XS.iconst X125.here hx rfl (hb hby at_159) ?_
      show Steps p.tables e below (T125.setTop (mkF m 160 #[.val (.int p1), .val (.ref b1), .val (.int (8 : Int32)), .val (.ref a_GREATER), .val (.int (0 : Int32))] [(.int (1 : Int32))])) _
      refine XS.goto X125.here hx rfl (pc0 := 160) (pc' := 164) rfl (hb hby at_160) (by decide) (by decide) ?_
      show Steps p.tables e below (T125.setTop (mkF m 164 #[.val (.int p1), .val (.ref b1), .val (.int (8 : Int32)), .val (.ref a_GREATER), .val (.int (0 : Int32))] [(.int (1 : Int32))])) _
      exact retN X125 hx (t := .boolean) Bd.returns (by simp) (hb hby at_164) hr
    · show Q0 n0 _ T125.heap _
      rw [r125]
      exact ⟨rfl, N125⟩
  · have R126 : ∀ tg, Steps p.tables e below (T72.setTop (mkF m 134 #[.val (.int p1), .val (.ref b1), .val (.int (9 : Int32)), .unset, .unset] [])) tg → Steps p.tables e below (T72.setTop (mkF m 134 #[.val (.int p1), .val (.ref b1), .val (.int ((p1 &&& (2147483647 : Int32)) % (18 : Int32))), .unset, .unset] [])) tg := fun tg kt => by rw [hk98]; exact kt
    obtain ⟨cl127, Ar127, q127, Sz127, Nn127, Ha127, Ga127⟩ := V72
    have hin127 : ¬ ((9 : Int32) < 0 ∨ cl127.slots.size ≤ ((9 : Int32)).toNatClampNeg) := inb_of Sz127 ⟨by decide, by decide⟩
    have hat127 : cl127.slots[((9 : Int32)).toNatClampNeg]? = some (.ref a_LESS_EQUAL) := Ha127.at hin127 rfl
    obtain ⟨cq128, kq128, q128a, q128b, q128c⟩ := isOf hZ e72 f83
    obtain ⟨_, _, ⟨T128, L128, k128, n128⟩, -, X128, ⟨Lc128, hQ128, l128, y128, z128⟩, st128⟩ := X72.virtualBack hx (y := (⟨"com/example/deadpaths_to_precision/deadpathstoprecision/frontend/BinaryOperator", "isUndefinedOnOverflow", "()Z"⟩ : MethodName)) (z := (⟨"com/example/deadpaths_to_precision/deadpathstoprecision/frontend/BinaryOperator", "isUndefinedOnOverflow", "()Z"⟩ : MethodName)) hown (mvT hZ (hw _ (List.mem_of_getElem? (i := 41) rfl))) (mvT hZ (hw _ (List.mem_of_getElem? (i := 42) rfl))) (notFace_of_selects (args := #[]) (mvT hZ (hw _ (List.mem_of_getElem? (i := 44) rfl)))) (mvT hZ (hw _ (List.mem_of_getElem? (i := 44) rfl))) (mvT hZ (hw _ (List.mem_of_getElem? (i := 43) rfl))) (by decide) (backOf (W := 0) (rm1 l Z a0 hw [] a_LESS_EQUAL a_MULTIPLY a_DIVIDE a_REMAINDER a_ADD a_SUBTRACT h72 n0 Z72 f92 f93 f94 f95 f96) hZ (hw _ (List.mem_of_getElem? (i := 45) rfl)) (hw _ (List.mem_of_getElem? (i := 3) rfl)) (by decide) (by decide)) q128a q128c (g := (mkF m 151 #[.val (.int p1), .val (.ref b1), .val (.int (9 : Int32)), .val (.ref a_LESS_EQUAL), .val (.int (0 : Int32))] [(.ref a_LESS_EQUAL)])) rfl (by rw [hml]; rfl) (Steps.refl _) (argsL := []) (rest := []) (lenOf pd_0 rfl) rfl (by show 2 * 0 + _ ≤ _; exact Nat.le_of_eq rfl) (hb hby at_151) (fun _ _ => ⟨rfl, e72, (by decide : 1 + 0 ≤ _), (by decide : 18 + 0 ≤ _)⟩)
    dsimp only [Pt.U, Pt.locs, Pt.cells, Pt.slots] at X128 l128 y128 z128 st128 hQ128
    subst l128 y128 z128
    obtain ⟨hv128, N128q, r128⟩ := hQ128
    rw [(if_neg (fun h => h.elim (own_ne_fld F_LESS_EQUAL_ordinal F_MULTIPLY_ordinal (by decide)) (fun h => h.elim (own_ne_fld F_LESS_EQUAL_ordinal F_DIVIDE_ordinal (by decide)) (fun h => h.elim (own_ne_fld F_LESS_EQUAL_ordinal F_REMAINDER_ordinal (by decide)) (fun h => h.elim (own_ne_fld F_LESS_EQUAL_ordinal F_ADD_ordinal (by decide)) (own_ne_fld F_LESS_EQUAL_ordinal F_SUBTRACT_ordinal (by decide)))))))] at hv128
    subst hv128
    have N128 := Fr.app N72 N128q
    obtain ⟨fs, hr, hrun, hended, hW, hsame⟩ := X128.leave (v := some (.int (1 : Int32))) (fun h => by rw [Bd.returns] at h; cases h)
    refine ⟨_, _, pre0 _ (R97 _ (R126 _ ?_)), hrun, hended, _, _, rfl, ?_, ⟨_, rfl⟩, hW, hsame.mono (by decide) (by decide)⟩
    · show Steps p.tables e below (T72.setTop (mkF m 134 #[.val (.int p1), .val (.ref b1), .val (.int (9 : Int32)), .unset, .unset] [])) _
      refine XS.aloadN X72.here hx rfl (hb hby at_134) rfl rfl ?_
      show Steps p.tables e below (T72.setTop (mkF m 135 #[.val (.int p1), .val (.ref b1), .val (.int (9 : Int32)), .unset, .unset] [(.ref b1)])) _
      refine XS.iloadN X72.here hx rfl (hb hby at_135) rfl ?_
      show Steps p.tables e below (T72.setTop (mkF m 136 #[.val (.int p1), .val (.ref b1), .val (.int (9 : Int32)), .unset, .unset] [(.int (9 : Int32)), (.ref b1)])) _
      refine X72.aaload hx (j := (9 : Int32)) (v := (.ref a_LESS_EQUAL)) (by rw [e72]; exact Ar127.1) (State.isArrayOf_alike hZ.alike Ar127.2.1) rfl Ar127.2.2 hin127 hat127 (g := (mkF m 136 #[.val (.int p1), .val (.ref b1), .val (.int (9 : Int32)), .unset, .unset] [(.int (9 : Int32)), (.ref b1)])) rfl rfl (hb hby at_136) _ ?_
      show Steps p.tables e below (T72.setTop (mkF m 137 #[.val (.int p1), .val (.ref b1), .val (.int (9 : Int32)), .unset, .unset] [(.ref a_LESS_EQUAL)])) _
      refine XS.astoreN X72.here hx rfl (hb hby at_137) rfl rfl (l' := #[.val (.int p1), .val (.ref b1), .val (.int (9 : Int32)), .val (.ref a_LESS_EQUAL), .unset]) rfl ?_
      show Steps p.tables e below (T72.setTop (mkF m 138 #[.val (.int p1), .val (.ref b1), .val (.int (9 : Int32)), .val (.ref a_LESS_EQUAL), .unset] [])) _
      refine XS.iloadN X72.here hx rfl (hb hby at_138) rfl ?_
      show Steps p.tables e below (T72.setTop (mkF m 139 #[.val (.int p1), .val (.ref b1), .val (.int (9 : Int32)), .val (.ref a_LESS_EQUAL), .unset] [(.int (9 : Int32))])) _
      refine XS.iconst X72.here hx rfl (hb hby at_139) ?_
      show Steps p.tables e below (T72.setTop (mkF m 140 #[.val (.int p1), .val (.ref b1), .val (.int (9 : Int32)), .val (.ref a_LESS_EQUAL), .unset] [(.int (5 : Int32)), (.int (9 : Int32))])) _
      refine XS.icmpYes X72.here hx rfl (pc0 := 140) (pc' := 147) rfl (hb hby at_140) rfl (flt (by decide : ¬ ((9 : Int32) < (5 : Int32)))).2.1 (by decide) (by decide) ?_
      show Steps p.tables e below (T72.setTop (mkF m 147 #[.val (.int p1), .val (.ref b1), .val (.int (9 : Int32)), .val (.ref a_LESS_EQUAL), .unset] [])) _
      refine XS.iconst X72.here hx rfl (hb hby at_147) ?_
      show Steps p.tables e below (T72.setTop (mkF m 148 #[.val (.int p1), .val (.ref b1), .val (.int (9 : Int32)), .val (.ref a_LESS_EQUAL), .unset] [(.int (0 : Int32))])) _
      refine XS.istore X72.here hx rfl (hb hby at_148) rfl (l' := #[.val (.int p1), .val (.ref b1), .val (.int (9 : Int32)), .val (.ref a_LESS_EQUAL), .val (.int (0 : Int32))]) rfl ?_
      show Steps p.tables e below (T72.setTop (mkF m 150 #[.val (.int p1), .val (.ref b1), .val (.int (9 : Int32)), .val (.ref a_LESS_EQUAL), .val (.int (0 : Int32))] [])) _
      refine XS.aloadN X72.here hx rfl (hb hby at_150) rfl rfl ?_
      show Steps p.tables e below (T72.setTop (mkF m 151 #[.val (.int p1), .val (.ref b1), .val (.int (9 : Int32)), .val (.ref a_LESS_EQUAL), .val (.int (0 : Int32))] [(.ref a_LESS_EQUAL)])) _
      refine st128.trans ?_
      show Steps p.tables e below (T128.setTop (mkF m 154 #[.val (.int p1), .val (.ref b1), .val (.int (9 : Int32)), .val (.ref a_LESS_EQUAL), .val (.int (0 : Int32))] [(.int (0 : Int32))])) _
      refine XS.iload X128.here hx rfl (hb hby at_154) rfl ?_
      show Steps p.tables e below (T128.setTop (mkF m 156 #[.val (.int p1), .val (.ref b1), .val (.int (9 : Int32)), .val (.ref a_LESS_EQUAL), .val (.int (0 : Int32))] [(.int (0 : Int32)), (.int (0 : Int32))])) _
      refine XS.icmpNo X128.here hx rfl (hb hby at_156) rfl (teq (by decide : (0 : Int32) = (0 : Int32))).2 ?_
      show Steps p.tables e below (T128.setTop (mkF m 159 #[.val (.int p1), .val (.ref b1), .val (.int (9 : Int32)), .val (.ref a_LESS_EQUAL), .val (.int (0 : Int32))] [])) _
      refine XS.iconst X128.here hx rfl (hb hby at_159) ?_
      show Steps p.tables e below (T128.setTop (mkF m 160 #[.val (.int p1), .val (.ref b1), .val (.int (9 : Int32)), .val (.ref a_LESS_EQUAL), .val (.int (0 : Int32))] [(.int (1 : Int32))])) _
      refine XS.goto X128.here hx rfl (pc0 := 160) (pc' := 164) rfl (hb hby at_160) (by decide) (by decide) ?_
      show Steps p.tables e below (T128.setTop (mkF m 164 #[.val (.int p1), .val (.ref b1), .val (.int (9 : Int32)), .val (.ref a_LESS_EQUAL), .val (.int (0 : Int32))] [(.int (1 : Int32))])) _
      exact retN X128 hx (t := .boolean) Bd.returns (by simp) (hb hby at_164) hr
    · show Q0 n0 _ T128.heap _
      rw [r128]
      exact ⟨rfl, N128⟩
  · have R129 : ∀ tg, Steps p.tables e below (T72.setTop (mkF m 134 #[.val (.int p1), .val (.ref b1), .val (.int (10 : Int32)), .unset, .unset] [])) tg → Steps p.tables e below (T72.setTop (mkF m 134 #[.val (.int p1), .val (.ref b1), .val (.int ((p1 &&& (2147483647 : Int32)) % (18 : Int32))), .unset, .unset] [])) tg := fun tg kt => by rw [hk98]; exact kt
    obtain ⟨cl130, Ar130, q130, Sz130, Nn130, Ha130, Ga130⟩ := V72
    have hin130 : ¬ ((10 : Int32) < 0 ∨ cl130.slots.size ≤ ((10 : Int32)).toNatClampNeg) := inb_of Sz130 ⟨by decide, by decide⟩
    have hat130 : cl130.slots[((10 : Int32)).toNatClampNeg]? = some (.ref a_GREATER_EQUAL) := Ha130.at hin130 rfl
    obtain ⟨cq131, kq131, q131a, q131b, q131c⟩ := isOf hZ e72 f84
    obtain ⟨_, _, ⟨T131, L131, k131, n131⟩, -, X131, ⟨Lc131, hQ131, l131, y131, z131⟩, st131⟩ := X72.virtualBack hx (y := (⟨"com/example/deadpaths_to_precision/deadpathstoprecision/frontend/BinaryOperator", "isUndefinedOnOverflow", "()Z"⟩ : MethodName)) (z := (⟨"com/example/deadpaths_to_precision/deadpathstoprecision/frontend/BinaryOperator", "isUndefinedOnOverflow", "()Z"⟩ : MethodName)) hown (mvT hZ (hw _ (List.mem_of_getElem? (i := 41) rfl))) (mvT hZ (hw _ (List.mem_of_getElem? (i := 42) rfl))) (notFace_of_selects (args := #[]) (mvT hZ (hw _ (List.mem_of_getElem? (i := 44) rfl)))) (mvT hZ (hw _ (List.mem_of_getElem? (i := 44) rfl))) (mvT hZ (hw _ (List.mem_of_getElem? (i := 43) rfl))) (by decide) (backOf (W := 0) (rm1 l Z a0 hw [] a_GREATER_EQUAL a_MULTIPLY a_DIVIDE a_REMAINDER a_ADD a_SUBTRACT h72 n0 Z72 f92 f93 f94 f95 f96) hZ (hw _ (List.mem_of_getElem? (i := 45) rfl)) (hw _ (List.mem_of_getElem? (i := 3) rfl)) (by decide) (by decide)) q131a q131c (g := (mkF m 151 #[.val (.int p1), .val (.ref b1), .val (.int (10 : Int32)), .val (.ref a_GREATER_EQUAL), .val (.int (0 : Int32))] [(.ref a_GREATER_EQUAL)])) rfl (by rw [hml]; rfl) (Steps.refl _) (argsL := []) (rest := []) (lenOf pd_0 rfl) rfl (by show 2 * 0 + _ ≤ _; exact Nat.le_of_eq rfl) (hb hby at_151) (fun _ _ => ⟨rfl, e72, (by decide : 1 + 0 ≤ _), (by decide : 18 + 0 ≤ _)⟩)
    dsimp only [Pt.U, Pt.locs, Pt.cells, Pt.slots] at X131 l131 y131 z131 st131 hQ131
    subst l131 y131 z131
    obtain ⟨hv131, N131q, r131⟩ := hQ131
    rw [(if_neg (fun h => h.elim (own_ne_fld F_GREATER_EQUAL_ordinal F_MULTIPLY_ordinal (by decide)) (fun h => h.elim (own_ne_fld F_GREATER_EQUAL_ordinal F_DIVIDE_ordinal (by decide)) (fun h => h.elim (own_ne_fld F_GREATER_EQUAL_ordinal F_REMAINDER_ordinal (by decide)) (fun h => h.elim (own_ne_fld F_GREATER_EQUAL_ordinal F_ADD_ordinal (by decide)) (own_ne_fld F_GREATER_EQUAL_ordinal F_SUBTRACT_ordinal (by decide)))))))] at hv131
    subst hv131
    have N131 := Fr.app N72 N131q
    obtain ⟨fs, hr, hrun, hended, hW, hsame⟩ := X131.leave (v := some (.int (1 : Int32))) (fun h => by rw [Bd.returns] at h; cases h)
    refine ⟨_, _, pre0 _ (R97 _ (R129 _ ?_)), hrun, hended, _, _, rfl, ?_, ⟨_, rfl⟩, hW, hsame.mono (by decide) (by decide)⟩
    · show Steps p.tables e below (T72.setTop (mkF m 134 #[.val (.int p1), .val (.ref b1), .val (.int (10 : Int32)), .unset, .unset] [])) _
      refine XS.aloadN X72.here hx rfl (hb hby at_134) rfl rfl ?_
      show Steps p.tables e below (T72.setTop (mkF m 135 #[.val (.int p1), .val (.ref b1), .val (.int (10 : Int32)), .unset, .unset] [(.ref b1)])) _
      refine XS.iloadN X72.here hx rfl (hb hby at_135) rfl ?_
      show Steps p.tables e below (T72.setTop (mkF m 136 #[.val (.int p1), .val (.ref b1), .val (.int (10 : Int32)), .unset, .unset] [(.int (10 : Int32)), (.ref b1)])) _
      refine X72.aaload hx (j := (10 : Int32)) (v := (.ref a_GREATER_EQUAL)) (by rw [e72]; exact Ar130.1) (State.isArrayOf_alike hZ.alike Ar130.2.1) rfl Ar130.2.2 hin130 hat130 (g := (mkF m 136 #[.val (.int p1), .val (.ref b1), .val (.int (10 : Int32)), .unset, .unset] [(.int (10 : Int32)), (.ref b1)])) rfl rfl (hb hby at_136) _ ?_
      show Steps p.tables e below (T72.setTop (mkF m 137 #[.val (.int p1), .val (.ref b1), .val (.int (10 : Int32)), .unset, .unset] [(.ref a_GREATER_EQUAL)])) _
      refine XS.astoreN X72.here hx rfl (hb hby at_137) rfl rfl (l' := #[.val (.int p1), .val (.ref b1), .val (.int (10 : Int32)), .val (.ref a_GREATER_EQUAL), .unset]) rfl ?_
      show Steps p.tables e below (T72.setTop (mkF m 138 #[.val (.int p1), .val (.ref b1), .val (.int (10 : Int32)), .val (.ref a_GREATER_EQUAL), .unset] [])) _
      refine XS.iloadN X72.here hx rfl (hb hby at_138) rfl ?_
      show Steps p.tables e below (T72.setTop (mkF m 139 #[.val (.int p1), .val (.ref b1), .val (.int (10 : Int32)), .val (.ref a_GREATER_EQUAL), .unset] [(.int (10 : Int32))])) _
      refine XS.iconst X72.here hx rfl (hb hby at_139) ?_
      show Steps p.tables e below (T72.setTop (mkF m 140 #[.val (.int p1), .val (.ref b1), .val (.int (10 : Int32)), .val (.ref a_GREATER_EQUAL), .unset] [(.int (5 : Int32)), (.int (10 : Int32))])) _
      refine XS.icmpYes X72.here hx rfl (pc0 := 140) (pc' := 147) rfl (hb hby at_140) rfl (flt (by decide : ¬ ((10 : Int32) < (5 : Int32)))).2.1 (by decide) (by decide) ?_
      show Steps p.tables e below (T72.setTop (mkF m 147 #[.val (.int p1), .val (.ref b1), .val (.int (10 : Int32)), .val (.ref a_GREATER_EQUAL), .unset] [])) _
      refine XS.iconst X72.here hx rfl (hb hby at_147) ?_
      show Steps p.tables e below (T72.setTop (mkF m 148 #[.val (.int p1), .val (.ref b1), .val (.int (10 : Int32)), .val (.ref a_GREATER_EQUAL), .unset] [(.int (0 : Int32))])) _
      refine XS.istore X72.here hx rfl (hb hby at_148) rfl (l' := #[.val (.int p1), .val (.ref b1), .val (.int (10 : Int32)), .val (.ref a_GREATER_EQUAL), .val (.int (0 : Int32))]) rfl ?_
      show Steps p.tables e below (T72.setTop (mkF m 150 #[.val (.int p1), .val (.ref b1), .val (.int (10 : Int32)), .val (.ref a_GREATER_EQUAL), .val (.int (0 : Int32))] [])) _
      refine XS.aloadN X72.here hx rfl (hb hby at_150) rfl rfl ?_
      show Steps p.tables e below (T72.setTop (mkF m 151 #[.val (.int p1), .val (.ref b1), .val (.int (10 : Int32)), .val (.ref a_GREATER_EQUAL), .val (.int (0 : Int32))] [(.ref a_GREATER_EQUAL)])) _
      refine st131.trans ?_
      show Steps p.tables e below (T131.setTop (mkF m 154 #[.val (.int p1), .val (.ref b1), .val (.int (10 : Int32)), .val (.ref a_GREATER_EQUAL), .val (.int (0 : Int32))] [(.int (0 : Int32))])) _
      refine XS.iload X131.here hx rfl (hb hby at_154) rfl ?_
      show Steps p.tables e below (T131.setTop (mkF m 156 #[.val (.int p1), .val (.ref b1), .val (.int (10 : Int32)), .val (.ref a_GREATER_EQUAL), .val (.int (0 : Int32))] [(.int (0 : Int32)), (.int (0 : Int32))])) _
      refine XS.icmpNo X131.here hx rfl (hb hby at_156) rfl (teq (by decide : (0 : Int32) = (0 : Int32))).2 ?_
      show Steps p.tables e below (T131.setTop (mkF m 159 #[.val (.int p1), .val (.ref b1), .val (.int (10 : Int32)), .val (.ref a_GREATER_EQUAL), .val (.int (0 : Int32))] [])) _
      refine XS.iconst X131.here hx rfl (hb hby at_159) ?_
      show Steps p.tables e below (T131.setTop (mkF m 160 #[.val (.int p1), .val (.ref b1), .val (.int (10 : Int32)), .val (.ref a_GREATER_EQUAL), .val (.int (0 : Int32))] [(.int (1 : Int32))])) _
      refine XS.goto X131.here hx rfl (pc0 := 160) (pc' := 164) rfl (hb hby at_160) (by decide) (by decide) ?_
      show Steps p.tables e below (T131.setTop (mkF m 164 #[.val (.int p1), .val (.ref b1), .val (.int (10 : Int32)), .val (.ref a_GREATER_EQUAL), .val (.int (0 : Int32))] [(.int (1 : Int32))])) _
      exact retN X131 hx (t := .boolean) Bd.returns (by simp) (hb hby at_164) hr
    · show Q0 n0 _ T131.heap _
      rw [r131]
      exact ⟨rfl, N131⟩
  · have R132 : ∀ tg, Steps p.tables e below (T72.setTop (mkF m 134 #[.val (.int p1), .val (.ref b1), .val (.int (11 : Int32)), .unset, .unset] [])) tg → Steps p.tables e below (T72.setTop (mkF m 134 #[.val (.int p1), .val (.ref b1), .val (.int ((p1 &&& (2147483647 : Int32)) % (18 : Int32))), .unset, .unset] [])) tg := fun tg kt => by rw [hk98]; exact kt
    obtain ⟨cl133, Ar133, q133, Sz133, Nn133, Ha133, Ga133⟩ := V72
    have hin133 : ¬ ((11 : Int32) < 0 ∨ cl133.slots.size ≤ ((11 : Int32)).toNatClampNeg) := inb_of Sz133 ⟨by decide, by decide⟩
    have hat133 : cl133.slots[((11 : Int32)).toNatClampNeg]? = some (.ref a_EQUAL) := Ha133.at hin133 rfl
    obtain ⟨cq134, kq134, q134a, q134b, q134c⟩ := isOf hZ e72 f85
    obtain ⟨_, _, ⟨T134, L134, k134, n134⟩, -, X134, ⟨Lc134, hQ134, l134, y134, z134⟩, st134⟩ := X72.virtualBack hx (y := (⟨"com/example/deadpaths_to_precision/deadpathstoprecision/frontend/BinaryOperator", "isUndefinedOnOverflow", "()Z"⟩ : MethodName)) (z := (⟨"com/example/deadpaths_to_precision/deadpathstoprecision/frontend/BinaryOperator", "isUndefinedOnOverflow", "()Z"⟩ : MethodName)) hown (mvT hZ (hw _ (List.mem_of_getElem? (i := 41) rfl))) (mvT hZ (hw _ (List.mem_of_getElem? (i := 42) rfl))) (notFace_of_selects (args := #[]) (mvT hZ (hw _ (List.mem_of_getElem? (i := 44) rfl)))) (mvT hZ (hw _ (List.mem_of_getElem? (i := 44) rfl))) (mvT hZ (hw _ (List.mem_of_getElem? (i := 43) rfl))) (by decide) (backOf (W := 0) (rm1 l Z a0 hw [] a_EQUAL a_MULTIPLY a_DIVIDE a_REMAINDER a_ADD a_SUBTRACT h72 n0 Z72 f92 f93 f94 f95 f96) hZ (hw _ (List.mem_of_getElem? (i := 45) rfl)) (hw _ (List.mem_of_getElem? (i := 3) rfl)) (by decide) (by decide)) q134a q134c (g := (mkF m 151 #[.val (.int p1), .val (.ref b1), .val (.int (11 : Int32)), .val (.ref a_EQUAL), .val (.int (0 : Int32))] [(.ref a_EQUAL)])) rfl (by rw [hml]; rfl) (Steps.refl _) (argsL := []) (rest := []) (lenOf pd_0 rfl) rfl (by show 2 * 0 + _ ≤ _; exact Nat.le_of_eq rfl) (hb hby at_151) (fun _ _ => ⟨rfl, e72, (by decide : 1 + 0 ≤ _), (by decide : 18 + 0 ≤ _)⟩)
    dsimp only [Pt.U, Pt.locs, Pt.cells, Pt.slots] at X134 l134 y134 z134 st134 hQ134
    subst l134 y134 z134
    obtain ⟨hv134, N134q, r134⟩ := hQ134
    rw [(if_neg (fun h => h.elim (own_ne_fld F_EQUAL_ordinal F_MULTIPLY_ordinal (by decide)) (fun h => h.elim (own_ne_fld F_EQUAL_ordinal F_DIVIDE_ordinal (by decide)) (fun h => h.elim (own_ne_fld F_EQUAL_ordinal F_REMAINDER_ordinal (by decide)) (fun h => h.elim (own_ne_fld F_EQUAL_ordinal F_ADD_ordinal (by decide)) (own_ne_fld F_EQUAL_ordinal F_SUBTRACT_ordinal (by decide)))))))] at hv134
    subst hv134
    have N134 := Fr.app N72 N134q
    obtain ⟨fs, hr, hrun, hended, hW, hsame⟩ := X134.leave (v := some (.int (1 : Int32))) (fun h => by rw [Bd.returns] at h; cases h)
    refine ⟨_, _, pre0 _ (R97 _ (R132 _ ?_)), hrun, hended, _, _, rfl, ?_, ⟨_, rfl⟩, hW, hsame.mono (by decide) (by decide)⟩
    · show Steps p.tables e below (T72.setTop (mkF m 134 #[.val (.int p1), .val (.ref b1), .val (.int (11 : Int32)), .unset, .unset] [])) _
      refine XS.aloadN X72.here hx rfl (hb hby at_134) rfl rfl ?_
      show Steps p.tables e below (T72.setTop (mkF m 135 #[.val (.int p1), .val (.ref b1), .val (.int (11 : Int32)), .unset, .unset] [(.ref b1)])) _
      refine XS.iloadN X72.here hx rfl (hb hby at_135) rfl ?_
      show Steps p.tables e below (T72.setTop (mkF m 136 #[.val (.int p1), .val (.ref b1), .val (.int (11 : Int32)), .unset, .unset] [(.int (11 : Int32)), (.ref b1)])) _
      refine X72.aaload hx (j := (11 : Int32)) (v := (.ref a_EQUAL)) (by rw [e72]; exact Ar133.1) (State.isArrayOf_alike hZ.alike Ar133.2.1) rfl Ar133.2.2 hin133 hat133 (g := (mkF m 136 #[.val (.int p1), .val (.ref b1), .val (.int (11 : Int32)), .unset, .unset] [(.int (11 : Int32)), (.ref b1)])) rfl rfl (hb hby at_136) _ ?_
      show Steps p.tables e below (T72.setTop (mkF m 137 #[.val (.int p1), .val (.ref b1), .val (.int (11 : Int32)), .unset, .unset] [(.ref a_EQUAL)])) _
      refine XS.astoreN X72.here hx rfl (hb hby at_137) rfl rfl (l' := #[.val (.int p1), .val (.ref b1), .val (.int (11 : Int32)), .val (.ref a_EQUAL), .unset]) rfl ?_
      show Steps p.tables e below (T72.setTop (mkF m 138 #[.val (.int p1), .val (.ref b1), .val (.int (11 : Int32)), .val (.ref a_EQUAL), .unset] [])) _
      refine XS.iloadN X72.here hx rfl (hb hby at_138) rfl ?_
      show Steps p.tables e below (T72.setTop (mkF m 139 #[.val (.int p1), .val (.ref b1), .val (.int (11 : Int32)), .val (.ref a_EQUAL), .unset] [(.int (11 : Int32))])) _
      refine XS.iconst X72.here hx rfl (hb hby at_139) ?_
      show Steps p.tables e below (T72.setTop (mkF m 140 #[.val (.int p1), .val (.ref b1), .val (.int (11 : Int32)), .val (.ref a_EQUAL), .unset] [(.int (5 : Int32)), (.int (11 : Int32))])) _
      refine XS.icmpYes X72.here hx rfl (pc0 := 140) (pc' := 147) rfl (hb hby at_140) rfl (flt (by decide : ¬ ((11 : Int32) < (5 : Int32)))).2.1 (by decide) (by decide) ?_
      show Steps p.tables e below (T72.setTop (mkF m 147 #[.val (.int p1), .val (.ref b1), .val (.int (11 : Int32)), .val (.ref a_EQUAL), .unset] [])) _
      refine XS.iconst X72.here hx rfl (hb hby at_147) ?_
      show Steps p.tables e below (T72.setTop (mkF m 148 #[.val (.int p1), .val (.ref b1), .val (.int (11 : Int32)), .val (.ref a_EQUAL), .unset] [(.int (0 : Int32))])) _
      refine XS.istore X72.here hx rfl (hb hby at_148) rfl (l' := #[.val (.int p1), .val (.ref b1), .val (.int (11 : Int32)), .val (.ref a_EQUAL), .val (.int (0 : Int32))]) rfl ?_
      show Steps p.tables e below (T72.setTop (mkF m 150 #[.val (.int p1), .val (.ref b1), .val (.int (11 : Int32)), .val (.ref a_EQUAL), .val (.int (0 : Int32))] [])) _
      refine XS.aloadN X72.here hx rfl (hb hby at_150) rfl rfl ?_
      show Steps p.tables e below (T72.setTop (mkF m 151 #[.val (.int p1), .val (.ref b1), .val (.int (11 : Int32)), .val (.ref a_EQUAL), .val (.int (0 : Int32))] [(.ref a_EQUAL)])) _
      refine st134.trans ?_
      show Steps p.tables e below (T134.setTop (mkF m 154 #[.val (.int p1), .val (.ref b1), .val (.int (11 : Int32)), .val (.ref a_EQUAL), .val (.int (0 : Int32))] [(.int (0 : Int32))])) _
      refine XS.iload X134.here hx rfl (hb hby at_154) rfl ?_
      show Steps p.tables e below (T134.setTop (mkF m 156 #[.val (.int p1), .val (.ref b1), .val (.int (11 : Int32)), .val (.ref a_EQUAL), .val (.int (0 : Int32))] [(.int (0 : Int32)), (.int (0 : Int32))])) _
      refine XS.icmpNo X134.here hx rfl (hb hby at_156) rfl (teq (by decide : (0 : Int32) = (0 : Int32))).2 ?_
      show Steps p.tables e below (T134.setTop (mkF m 159 #[.val (.int p1), .val (.ref b1), .val (.int (11 : Int32)), .val (.ref a_EQUAL), .val (.int (0 : Int32))] [])) _
      refine XS.iconst X134.here hx rfl (hb hby at_159) ?_
      show Steps p.tables e below (T134.setTop (mkF m 160 #[.val (.int p1), .val (.ref b1), .val (.int (11 : Int32)), .val (.ref a_EQUAL), .val (.int (0 : Int32))] [(.int (1 : Int32))])) _
      refine XS.goto X134.here hx rfl (pc0 := 160) (pc' := 164) rfl (hb hby at_160) (by decide) (by decide) ?_
      show Steps p.tables e below (T134.setTop (mkF m 164 #[.val (.int p1), .val (.ref b1), .val (.int (11 : Int32)), .val (.ref a_EQUAL), .val (.int (0 : Int32))] [(.int (1 : Int32))])) _
      exact retN X134 hx (t := .boolean) Bd.returns (by simp) (hb hby at_164) hr
    · show Q0 n0 _ T134.heap _
      rw [r134]
      exact ⟨rfl, N134⟩
  · have R135 : ∀ tg, Steps p.tables e below (T72.setTop (mkF m 134 #[.val (.int p1), .val (.ref b1), .val (.int (12 : Int32)), .unset, .unset] [])) tg → Steps p.tables e below (T72.setTop (mkF m 134 #[.val (.int p1), .val (.ref b1), .val (.int ((p1 &&& (2147483647 : Int32)) % (18 : Int32))), .unset, .unset] [])) tg := fun tg kt => by rw [hk98]; exact kt
    obtain ⟨cl136, Ar136, q136, Sz136, Nn136, Ha136, Ga136⟩ := V72
    have hin136 : ¬ ((12 : Int32) < 0 ∨ cl136.slots.size ≤ ((12 : Int32)).toNatClampNeg) := inb_of Sz136 ⟨by decide, by decide⟩
    have hat136 : cl136.slots[((12 : Int32)).toNatClampNeg]? = some (.ref a_NOT_EQUAL) := Ha136.at hin136 rfl
    obtain ⟨cq137, kq137, q137a, q137b, q137c⟩ := isOf hZ e72 f86
    obtain ⟨_, _, ⟨T137, L137, k137, n137⟩, -, X137, ⟨Lc137, hQ137, l137, y137, z137⟩, st137⟩ := X72.virtualBack hx (y := (⟨"com/example/deadpaths_to_precision/deadpathstoprecision/frontend/BinaryOperator", "isUndefinedOnOverflow", "()Z"⟩ : MethodName)) (z := (⟨"com/example/deadpaths_to_precision/deadpathstoprecision/frontend/BinaryOperator", "isUndefinedOnOverflow", "()Z"⟩ : MethodName)) hown (mvT hZ (hw _ (List.mem_of_getElem? (i := 41) rfl))) (mvT hZ (hw _ (List.mem_of_getElem? (i := 42) rfl))) (notFace_of_selects (args := #[]) (mvT hZ (hw _ (List.mem_of_getElem? (i := 44) rfl)))) (mvT hZ (hw _ (List.mem_of_getElem? (i := 44) rfl))) (mvT hZ (hw _ (List.mem_of_getElem? (i := 43) rfl))) (by decide) (backOf (W := 0) (rm1 l Z a0 hw [] a_NOT_EQUAL a_MULTIPLY a_DIVIDE a_REMAINDER a_ADD a_SUBTRACT h72 n0 Z72 f92 f93 f94 f95 f96) hZ (hw _ (List.mem_of_getElem? (i := 45) rfl)) (hw _ (List.mem_of_getElem? (i := 3) rfl)) (by decide) (by decide)) q137a q137c (g := (mkF m 151 #[.val (.int p1), .val (.ref b1), .val (.int (12 : Int32)), .val (.ref a_NOT_EQUAL), .val (.int (0 : Int32))] [(.ref a_NOT_EQUAL)])) rfl (by rw [hml]; rfl) (Steps.refl _) (argsL := []) (rest := []) (lenOf pd_0 rfl) rfl (by show 2 * 0 + _ ≤ _; exact Nat.le_of_eq rfl) (hb hby at_151) (fun _ _ => ⟨rfl, e72, (by decide : 1 + 0 ≤ _), (by decide : 18 + 0 ≤ _)⟩)
    dsimp only [Pt.U, Pt.locs, Pt.cells, Pt.slots] at X137 l137 y137 z137 st137 hQ137
    subst l137 y137 z137
    obtain ⟨hv137, N137q, r137⟩ := hQ137
    rw [(if_neg (fun h => h.elim (own_ne_fld F_NOT_EQUAL_ordinal F_MULTIPLY_ordinal (by decide)) (fun h => h.elim (own_ne_fld F_NOT_EQUAL_ordinal F_DIVIDE_ordinal (by decide)) (fun h => h.elim (own_ne_fld F_NOT_EQUAL_ordinal F_REMAINDER_ordinal (by decide)) (fun h => h.elim (own_ne_fld F_NOT_EQUAL_ordinal F_ADD_ordinal (by decide)) (own_ne_fld F_NOT_EQUAL_ordinal F_SUBTRACT_ordinal (by decide)))))))] at hv137
    subst hv137
    have N137 := Fr.app N72 N137q
    obtain ⟨fs, hr, hrun, hended, hW, hsame⟩ := X137.leave (v := some (.int (1 : Int32))) (fun h => by rw [Bd.returns] at h; cases h)
    refine ⟨_, _, pre0 _ (R97 _ (R135 _ ?_)), hrun, hended, _, _, rfl, ?_, ⟨_, rfl⟩, hW, hsame.mono (by decide) (by decide)⟩
    · show Steps p.tables e below (T72.setTop (mkF m 134 #[.val (.int p1), .val (.ref b1), .val (.int (12 : Int32)), .unset, .unset] [])) _
      refine XS.aloadN X72.here hx rfl (hb hby at_134) rfl rfl ?_
      show Steps p.tables e below (T72.setTop (mkF m 135 #[.val (.int p1), .val (.ref b1), .val (.int (12 : Int32)), .unset, .unset] [(.ref b1)])) _
      refine XS.iloadN X72.here hx rfl (hb hby at_135) rfl ?_
      show Steps p.tables e below (T72.setTop (mkF m 136 #[.val (.int p1), .val (.ref b1), .val (.int (12 : Int32)), .unset, .unset] [(.int (12 : Int32)), (.ref b1)])) _
      refine X72.aaload hx (j := (12 : Int32)) (v := (.ref a_NOT_EQUAL)) (by rw [e72]; exact Ar136.1) (State.isArrayOf_alike hZ.alike Ar136.2.1) rfl Ar136.2.2 hin136 hat136 (g := (mkF m 136 #[.val (.int p1), .val (.ref b1), .val (.int (12 : Int32)), .unset, .unset] [(.int (12 : Int32)), (.ref b1)])) rfl rfl (hb hby at_136) _ ?_
      show Steps p.tables e below (T72.setTop (mkF m 137 #[.val (.int p1), .val (.ref b1), .val (.int (12 : Int32)), .unset, .unset] [(.ref a_NOT_EQUAL)])) _
      refine XS.astoreN X72.here hx rfl (hb hby at_137) rfl rfl (l' := #[.val (.int p1), .val (.ref b1), .val (.int (12 : Int32)), .val (.ref a_NOT_EQUAL), .unset]) rfl ?_
      show Steps p.tables e below (T72.setTop (mkF m 138 #[.val (.int p1), .val (.ref b1), .val (.int (12 : Int32)), .val (.ref a_NOT_EQUAL), .unset] [])) _
      refine XS.iloadN X72.here hx rfl (hb hby at_138) rfl ?_
      show Steps p.tables e below (T72.setTop (mkF m 139 #[.val (.int p1), .val (.ref b1), .val (.int (12 : Int32)), .val (.ref a_NOT_EQUAL), .unset] [(.int (12 : Int32))])) _
      refine XS.iconst X72.here hx rfl (hb hby at_139) ?_
      show Steps p.tables e below (T72.setTop (mkF m 140 #[.val (.int p1), .val (.ref b1), .val (.int (12 : Int32)), .val (.ref a_NOT_EQUAL), .unset] [(.int (5 : Int32)), (.int (12 : Int32))])) _
      refine XS.icmpYes X72.here hx rfl (pc0 := 140) (pc' := 147) rfl (hb hby at_140) rfl (flt (by decide : ¬ ((12 : Int32) < (5 : Int32)))).2.1 (by decide) (by decide) ?_
      show Steps p.tables e below (T72.setTop (mkF m 147 #[.val (.int p1), .val (.ref b1), .val (.int (12 : Int32)), .val (.ref a_NOT_EQUAL), .unset] [])) _
      refine XS.iconst X72.here hx rfl (hb hby at_147) ?_
      show Steps p.tables e below (T72.setTop (mkF m 148 #[.val (.int p1), .val (.ref b1), .val (.int (12 : Int32)), .val (.ref a_NOT_EQUAL), .unset] [(.int (0 : Int32))])) _
      refine XS.istore X72.here hx rfl (hb hby at_148) rfl (l' := #[.val (.int p1), .val (.ref b1), .val (.int (12 : Int32)), .val (.ref a_NOT_EQUAL), .val (.int (0 : Int32))]) rfl ?_
      show Steps p.tables e below (T72.setTop (mkF m 150 #[.val (.int p1), .val (.ref b1), .val (.int (12 : Int32)), .val (.ref a_NOT_EQUAL), .val (.int (0 : Int32))] [])) _
      refine XS.aloadN X72.here hx rfl (hb hby at_150) rfl rfl ?_
      show Steps p.tables e below (T72.setTop (mkF m 151 #[.val (.int p1), .val (.ref b1), .val (.int (12 : Int32)), .val (.ref a_NOT_EQUAL), .val (.int (0 : Int32))] [(.ref a_NOT_EQUAL)])) _
      refine st137.trans ?_
      show Steps p.tables e below (T137.setTop (mkF m 154 #[.val (.int p1), .val (.ref b1), .val (.int (12 : Int32)), .val (.ref a_NOT_EQUAL), .val (.int (0 : Int32))] [(.int (0 : Int32))])) _
      refine XS.iload X137.here hx rfl (hb hby at_154) rfl ?_
      show Steps p.tables e below (T137.setTop (mkF m 156 #[.val (.int p1), .val (.ref b1), .val (.int (12 : Int32)), .val (.ref a_NOT_EQUAL), .val (.int (0 : Int32))] [(.int (0 : Int32)), (.int (0 : Int32))])) _
      refine XS.icmpNo X137.here hx rfl (hb hby at_156) rfl (teq (by decide : (0 : Int32) = (0 : Int32))).2 ?_
      show Steps p.tables e below (T137.setTop (mkF m 159 #[.val (.int p1), .val (.ref b1), .val (.int (12 : Int32)), .val (.ref a_NOT_EQUAL), .val (.int (0 : Int32))] [])) _
      refine XS.iconst X137.here hx rfl (hb hby at_159) ?_
      show Steps p.tables e below (T137.setTop (mkF m 160 #[.val (.int p1), .val (.ref b1), .val (.int (12 : Int32)), .val (.ref a_NOT_EQUAL), .val (.int (0 : Int32))] [(.int (1 : Int32))])) _
      refine XS.goto X137.here hx rfl (pc0 := 160) (pc' := 164) rfl (hb hby at_160) (by decide) (by decide) ?_
      show Steps p.tables e below (T137.setTop (mkF m 164 #[.val (.int p1), .val (.ref b1), .val (.int (12 : Int32)), .val (.ref a_NOT_EQUAL), .val (.int (0 : Int32))] [(.int (1 : Int32))])) _
      exact retN X137 hx (t := .boolean) Bd.returns (by simp) (hb hby at_164) hr
    · show Q0 n0 _ T137.heap _
      rw [r137]
      exact ⟨rfl, N137⟩
  · have R138 : ∀ tg, Steps p.tables e below (T72.setTop (mkF m 134 #[.val (.int p1), .val (.ref b1), .val (.int (13 : Int32)), .unset, .unset] [])) tg → Steps p.tables e below (T72.setTop (mkF m 134 #[.val (.int p1), .val (.ref b1), .val (.int ((p1 &&& (2147483647 : Int32)) % (18 : Int32))), .unset, .unset] [])) tg := fun tg kt => by rw [hk98]; exact kt
    obtain ⟨cl139, Ar139, q139, Sz139, Nn139, Ha139, Ga139⟩ := V72
    have hin139 : ¬ ((13 : Int32) < 0 ∨ cl139.slots.size ≤ ((13 : Int32)).toNatClampNeg) := inb_of Sz139 ⟨by decide, by decide⟩
    have hat139 : cl139.slots[((13 : Int32)).toNatClampNeg]? = some (.ref a_BITWISE_AND) := Ha139.at hin139 rfl
    obtain ⟨cq140, kq140, q140a, q140b, q140c⟩ := isOf hZ e72 f87
    obtain ⟨_, _, ⟨T140, L140, k140, n140⟩, -, X140, ⟨Lc140, hQ140, l140, y140, z140⟩, st140⟩ := X72.virtualBack hx (y := (⟨"com/example/deadpaths_to_precision/deadpathstoprecision/frontend/BinaryOperator", "isUndefinedOnOverflow", "()Z"⟩ : MethodName)) (z := (⟨"com/example/deadpaths_to_precision/deadpathstoprecision/frontend/BinaryOperator", "isUndefinedOnOverflow", "()Z"⟩ : MethodName)) hown (mvT hZ (hw _ (List.mem_of_getElem? (i := 41) rfl))) (mvT hZ (hw _ (List.mem_of_getElem? (i := 42) rfl))) (notFace_of_selects (args := #[]) (mvT hZ (hw _ (List.mem_of_getElem? (i := 44) rfl)))) (mvT hZ (hw _ (List.mem_of_getElem? (i := 44) rfl))) (mvT hZ (hw _ (List.mem_of_getElem? (i := 43) rfl))) (by decide) (backOf (W := 0) (rm1 l Z a0 hw [] a_BITWISE_AND a_MULTIPLY a_DIVIDE a_REMAINDER a_ADD a_SUBTRACT h72 n0 Z72 f92 f93 f94 f95 f96) hZ (hw _ (List.mem_of_getElem? (i := 45) rfl)) (hw _ (List.mem_of_getElem? (i := 3) rfl)) (by decide) (by decide)) q140a q140c (g := (mkF m 151 #[.val (.int p1), .val (.ref b1), .val (.int (13 : Int32)), .val (.ref a_BITWISE_AND), .val (.int (0 : Int32))] [(.ref a_BITWISE_AND)])) rfl (by rw [hml]; rfl) (Steps.refl _) (argsL := []) (rest := []) (lenOf pd_0 rfl) rfl (by show 2 * 0 + _ ≤ _; exact Nat.le_of_eq rfl) (hb hby at_151) (fun _ _ => ⟨rfl, e72, (by decide : 1 + 0 ≤ _), (by decide : 18 + 0 ≤ _)⟩)
    dsimp only [Pt.U, Pt.locs, Pt.cells, Pt.slots] at X140 l140 y140 z140 st140 hQ140
    subst l140 y140 z140
    obtain ⟨hv140, N140q, r140⟩ := hQ140
    rw [(if_neg (fun h => h.elim (own_ne_fld F_BITWISE_AND_ordinal F_MULTIPLY_ordinal (by decide)) (fun h => h.elim (own_ne_fld F_BITWISE_AND_ordinal F_DIVIDE_ordinal (by decide)) (fun h => h.elim (own_ne_fld F_BITWISE_AND_ordinal F_REMAINDER_ordinal (by decide)) (fun h => h.elim (own_ne_fld F_BITWISE_AND_ordinal F_ADD_ordinal (by decide)) (own_ne_fld F_BITWISE_AND_ordinal F_SUBTRACT_ordinal (by decide)))))))] at hv140
    subst hv140
    have N140 := Fr.app N72 N140q
    obtain ⟨fs, hr, hrun, hended, hW, hsame⟩ := X140.leave (v := some (.int (1 : Int32))) (fun h => by rw [Bd.returns] at h; cases h)
    refine ⟨_, _, pre0 _ (R97 _ (R138 _ ?_)), hrun, hended, _, _, rfl, ?_, ⟨_, rfl⟩, hW, hsame.mono (by decide) (by decide)⟩
    · show Steps p.tables e below (T72.setTop (mkF m 134 #[.val (.int p1), .val (.ref b1), .val (.int (13 : Int32)), .unset, .unset] [])) _
      refine XS.aloadN X72.here hx rfl (hb hby at_134) rfl rfl ?_
      show Steps p.tables e below (T72.setTop (mkF m 135 #[.val (.int p1), .val (.ref b1), .val (.int (13 : Int32)), .unset, .unset] [(.ref b1)])) _
      refine XS.iloadN X72.here hx rfl (hb hby at_135) rfl ?_
      show Steps p.tables e below (T72.setTop (mkF m 136 #[.val (.int p1), .val (.ref b1), .val (.int (13 : Int32)), .unset, .unset] [(.int (13 : Int32)), (.ref b1)])) _
      refine X72.aaload hx (j := (13 : Int32)) (v := (.ref a_BITWISE_AND)) (by rw [e72]; exact Ar139.1) (State.isArrayOf_alike hZ.alike Ar139.2.1) rfl Ar139.2.2 hin139 hat139 (g := (mkF m 136 #[.val (.int p1), .val (.ref b1), .val (.int (13 : Int32)), .unset, .unset] [(.int (13 : Int32)), (.ref b1)])) rfl rfl (hb hby at_136) _ ?_
      show Steps p.tables e below (T72.setTop (mkF m 137 #[.val (.int p1), .val (.ref b1), .val (.int (13 : Int32)), .unset, .unset] [(.ref a_BITWISE_AND)])) _
      refine XS.astoreN X72.here hx rfl (hb hby at_137) rfl rfl (l' := #[.val (.int p1), .val (.ref b1), .val (.int (13 : Int32)), .val (.ref a_BITWISE_AND), .unset]) rfl ?_
      show Steps p.tables e below (T72.setTop (mkF m 138 #[.val (.int p1), .val (.ref b1), .val (.int (13 : Int32)), .val (.ref a_BITWISE_AND), .unset] [])) _
      refine XS.iloadN X72.here hx rfl (hb hby at_138) rfl ?_
      show Steps p.tables e below (T72.setTop (mkF m 139 #[.val (.int p1), .val (.ref b1), .val (.int (13 : Int32)), .val (.ref a_BITWISE_AND), .unset] [(.int (13 : Int32))])) _
      refine XS.iconst X72.here hx rfl (hb hby at_139) ?_
      show Steps p.tables e below (T72.setTop (mkF m 140 #[.val (.int p1), .val (.ref b1), .val (.int (13 : Int32)), .val (.ref a_BITWISE_AND), .unset] [(.int (5 : Int32)), (.int (13 : Int32))])) _
      refine XS.icmpYes X72.here hx rfl (pc0 := 140) (pc' := 147) rfl (hb hby at_140) rfl (flt (by decide : ¬ ((13 : Int32) < (5 : Int32)))).2.1 (by decide) (by decide) ?_
      show Steps p.tables e below (T72.setTop (mkF m 147 #[.val (.int p1), .val (.ref b1), .val (.int (13 : Int32)), .val (.ref a_BITWISE_AND), .unset] [])) _
      refine XS.iconst X72.here hx rfl (hb hby at_147) ?_
      show Steps p.tables e below (T72.setTop (mkF m 148 #[.val (.int p1), .val (.ref b1), .val (.int (13 : Int32)), .val (.ref a_BITWISE_AND), .unset] [(.int (0 : Int32))])) _
      refine XS.istore X72.here hx rfl (hb hby at_148) rfl (l' := #[.val (.int p1), .val (.ref b1), .val (.int (13 : Int32)), .val (.ref a_BITWISE_AND), .val (.int (0 : Int32))]) rfl ?_
      show Steps p.tables e below (T72.setTop (mkF m 150 #[.val (.int p1), .val (.ref b1), .val (.int (13 : Int32)), .val (.ref a_BITWISE_AND), .val (.int (0 : Int32))] [])) _
      refine XS.aloadN X72.here hx rfl (hb hby at_150) rfl rfl ?_
      show Steps p.tables e below (T72.setTop (mkF m 151 #[.val (.int p1), .val (.ref b1), .val (.int (13 : Int32)), .val (.ref a_BITWISE_AND), .val (.int (0 : Int32))] [(.ref a_BITWISE_AND)])) _
      refine st140.trans ?_
      show Steps p.tables e below (T140.setTop (mkF m 154 #[.val (.int p1), .val (.ref b1), .val (.int (13 : Int32)), .val (.ref a_BITWISE_AND), .val (.int (0 : Int32))] [(.int (0 : Int32))])) _
      refine XS.iload X140.here hx rfl (hb hby at_154) rfl ?_
      show Steps p.tables e below (T140.setTop (mkF m 156 #[.val (.int p1), .val (.ref b1), .val (.int (13 : Int32)), .val (.ref a_BITWISE_AND), .val (.int (0 : Int32))] [(.int (0 : Int32)), (.int (0 : Int32))])) _
      refine XS.icmpNo X140.here hx rfl (hb hby at_156) rfl (teq (by decide : (0 : Int32) = (0 : Int32))).2 ?_
      show Steps p.tables e below (T140.setTop (mkF m 159 #[.val (.int p1), .val (.ref b1), .val (.int (13 : Int32)), .val (.ref a_BITWISE_AND), .val (.int (0 : Int32))] [])) _
      refine XS.iconst X140.here hx rfl (hb hby at_159) ?_
      show Steps p.tables e below (T140.setTop (mkF m 160 #[.val (.int p1), .val (.ref b1), .val (.int (13 : Int32)), .val (.ref a_BITWISE_AND), .val (.int (0 : Int32))] [(.int (1 : Int32))])) _
      refine XS.goto X140.here hx rfl (pc0 := 160) (pc' := 164) rfl (hb hby at_160) (by decide) (by decide) ?_
      show Steps p.tables e below (T140.setTop (mkF m 164 #[.val (.int p1), .val (.ref b1), .val (.int (13 : Int32)), .val (.ref a_BITWISE_AND), .val (.int (0 : Int32))] [(.int (1 : Int32))])) _
      exact retN X140 hx (t := .boolean) Bd.returns (by simp) (hb hby at_164) hr
    · show Q0 n0 _ T140.heap _
      rw [r140]
      exact ⟨rfl, N140⟩
  · have R141 : ∀ tg, Steps p.tables e below (T72.setTop (mkF m 134 #[.val (.int p1), .val (.ref b1), .val (.int (14 : Int32)), .unset, .unset] [])) tg → Steps p.tables e below (T72.setTop (mkF m 134 #[.val (.int p1), .val (.ref b1), .val (.int ((p1 &&& (2147483647 : Int32)) % (18 : Int32))), .unset, .unset] [])) tg := fun tg kt => by rw [hk98]; exact kt
    obtain ⟨cl142, Ar142, q142, Sz142, Nn142, Ha142, Ga142⟩ := V72
    have hin142 : ¬ ((14 : Int32) < 0 ∨ cl142.slots.size ≤ ((14 : Int32)).toNatClampNeg) := inb_of Sz142 ⟨by decide, by decide⟩
    have hat142 : cl142.slots[((14 : Int32)).toNatClampNeg]? = some (.ref a_BITWISE_XOR) := Ha142.at hin142 rfl
    obtain ⟨cq143, kq143, q143a, q143b, q143c⟩ := isOf hZ e72 f88
    obtain ⟨_, _, ⟨T143, L143, k143, n143⟩, -, X143, ⟨Lc143, hQ143, l143, y143, z143⟩, st143⟩ := X72.virtualBack hx (y := (⟨"com/example/deadpaths_to_precision/deadpathstoprecision/frontend/BinaryOperator", "isUndefinedOnOverflow", "()Z"⟩ : MethodName)) (z := (⟨"com/example/deadpaths_to_precision/deadpathstoprecision/frontend/BinaryOperator", "isUndefinedOnOverflow", "()Z"⟩ : MethodName)) hown (mvT hZ (hw _ (List.mem_of_getElem? (i := 41) rfl))) (mvT hZ (hw _ (List.mem_of_getElem? (i := 42) rfl))) (notFace_of_selects (args := #[]) (mvT hZ (hw _ (List.mem_of_getElem? (i := 44) rfl)))) (mvT hZ (hw _ (List.mem_of_getElem? (i := 44) rfl))) (mvT hZ (hw _ (List.mem_of_getElem? (i := 43) rfl))) (by decide) (backOf (W := 0) (rm1 l Z a0 hw [] a_BITWISE_XOR a_MULTIPLY a_DIVIDE a_REMAINDER a_ADD a_SUBTRACT h72 n0 Z72 f92 f93 f94 f95 f96) hZ (hw _ (List.mem_of_getElem? (i := 45) rfl)) (hw _ (List.mem_of_getElem? (i := 3) rfl)) (by decide) (by decide)) q143a q143c (g := (mkF m 151 #[.val (.int p1), .val (.ref b1), .val (.int (14 : Int32)), .val (.ref a_BITWISE_XOR), .val (.int (0 : Int32))] [(.ref a_BITWISE_XOR)])) rfl (by rw [hml]; rfl) (Steps.refl _) (argsL := []) (rest := []) (lenOf pd_0 rfl) rfl (by show 2 * 0 + _ ≤ _; exact Nat.le_of_eq rfl) (hb hby at_151) (fun _ _ => ⟨rfl, e72, (by decide : 1 + 0 ≤ _), (by decide : 18 + 0 ≤ _)⟩)
    dsimp only [Pt.U, Pt.locs, Pt.cells, Pt.slots] at X143 l143 y143 z143 st143 hQ143
    subst l143 y143 z143
    obtain ⟨hv143, N143q, r143⟩ := hQ143
    rw [(if_neg (fun h => h.elim (own_ne_fld F_BITWISE_XOR_ordinal F_MULTIPLY_ordinal (by decide)) (fun h => h.elim (own_ne_fld F_BITWISE_XOR_ordinal F_DIVIDE_ordinal (by decide)) (fun h => h.elim (own_ne_fld F_BITWISE_XOR_ordinal F_REMAINDER_ordinal (by decide)) (fun h => h.elim (own_ne_fld F_BITWISE_XOR_ordinal F_ADD_ordinal (by decide)) (own_ne_fld F_BITWISE_XOR_ordinal F_SUBTRACT_ordinal (by decide)))))))] at hv143
    subst hv143
    have N143 := Fr.app N72 N143q
    obtain ⟨fs, hr, hrun, hended, hW, hsame⟩ := X143.leave (v := some (.int (1 : Int32))) (fun h => by rw [Bd.returns] at h; cases h)
    refine ⟨_, _, pre0 _ (R97 _ (R141 _ ?_)), hrun, hended, _, _, rfl, ?_, ⟨_, rfl⟩, hW, hsame.mono (by decide) (by decide)⟩
    · show Steps p.tables e below (T72.setTop (mkF m 134 #[.val (.int p1), .val (.ref b1), .val (.int (14 : Int32)), .unset, .unset] [])) _
      refine XS.aloadN X72.here hx rfl (hb hby at_134) rfl rfl ?_
      show Steps p.tables e below (T72.setTop (mkF m 135 #[.val (.int p1), .val (.ref b1), .val (.int (14 : Int32)), .unset, .unset] [(.ref b1)])) _
      refine XS.iloadN X72.here hx rfl (hb hby at_135) rfl ?_
      show Steps p.tables e below (T72.setTop (mkF m 136 #[.val (.int p1), .val (.ref b1), .val (.int (14 : Int32)), .unset, .unset] [(.int (14 : Int32)), (.ref b1)])) _
      refine X72.aaload hx (j := (14 : Int32)) (v := (.ref a_BITWISE_XOR)) (by rw [e72]; exact Ar142.1) (State.isArrayOf_alike hZ.alike Ar142.2.1) rfl Ar142.2.2 hin142 hat142 (g := (mkF m 136 #[.val (.int p1), .val (.ref b1), .val (.int (14 : Int32)), .unset, .unset] [(.int (14 : Int32)), (.ref b1)])) rfl rfl (hb hby at_136) _ ?_
      show Steps p.tables e below (T72.setTop (mkF m 137 #[.val (.int p1), .val (.ref b1), .val (.int (14 : Int32)), .unset, .unset] [(.ref a_BITWISE_XOR)])) _
      refine XS.astoreN X72.here hx rfl (hb hby at_137) rfl rfl (l' := #[.val (.int p1), .val (.ref b1), .val (.int (14 : Int32)), .val (.ref a_BITWISE_XOR), .unset]) rfl ?_
      show Steps p.tables e below (T72.setTop (mkF m 138 #[.val (.int p1), .val (.ref b1), .val (.int (14 : Int32)), .val (.ref a_BITWISE_XOR), .unset] [])) _
      refine XS.iloadN X72.here hx rfl (hb hby at_138) rfl ?_
      show Steps p.tables e below (T72.setTop (mkF m 139 #[.val (.int p1), .val (.ref b1), .val (.int (14 : Int32)), .val (.ref a_BITWISE_XOR), .unset] [(.int (14 : Int32))])) _
      refine XS.iconst X72.here hx rfl (hb hby at_139) ?_
      show Steps p.tables e below (T72.setTop (mkF m 140 #[.val (.int p1), .val (.ref b1), .val (.int (14 : Int32)), .val (.ref a_BITWISE_XOR), .unset] [(.int (5 : Int32)), (.int (14 : Int32))])) _
      refine XS.icmpYes X72.here hx rfl (pc0 := 140) (pc' := 147) rfl (hb hby at_140) rfl (flt (by decide : ¬ ((14 : Int32) < (5 : Int32)))).2.1 (by decide) (by decide) ?_
      show Steps p.tables e below (T72.setTop (mkF m 147 #[.val (.int p1), .val (.ref b1), .val (.int (14 : Int32)), .val (.ref a_BITWISE_XOR), .unset] [])) _
      refine XS.iconst X72.here hx rfl (hb hby at_147) ?_
      show Steps p.tables e below (T72.setTop (mkF m 148 #[.val (.int p1), .val (.ref b1), .val (.int (14 : Int32)), .val (.ref a_BITWISE_XOR), .unset] [(.int (0 : Int32))])) _
      refine XS.istore X72.here hx rfl (hb hby at_148) rfl (l' := #[.val (.int p1), .val (.ref b1), .val (.int (14 : Int32)), .val (.ref a_BITWISE_XOR), .val (.int (0 : Int32))]) rfl ?_
      show Steps p.tables e below (T72.setTop (mkF m 150 #[.val (.int p1), .val (.ref b1), .val (.int (14 : Int32)), .val (.ref a_BITWISE_XOR), .val (.int (0 : Int32))] [])) _
      refine XS.aloadN X72.here hx rfl (hb hby at_150) rfl rfl ?_
      show Steps p.tables e below (T72.setTop (mkF m 151 #[.val (.int p1), .val (.ref b1), .val (.int (14 : Int32)), .val (.ref a_BITWISE_XOR), .val (.int (0 : Int32))] [(.ref a_BITWISE_XOR)])) _
      refine st143.trans ?_
      show Steps p.tables e below (T143.setTop (mkF m 154 #[.val (.int p1), .val (.ref b1), .val (.int (14 : Int32)), .val (.ref a_BITWISE_XOR), .val (.int (0 : Int32))] [(.int (0 : Int32))])) _
      refine XS.iload X143.here hx rfl (hb hby at_154) rfl ?_
      show Steps p.tables e below (T143.setTop (mkF m 156 #[.val (.int p1), .val (.ref b1), .val (.int (14 : Int32)), .val (.ref a_BITWISE_XOR), .val (.int (0 : Int32))] [(.int (0 : Int32)), (.int (0 : Int32))])) _
      refine XS.icmpNo X143.here hx rfl (hb hby at_156) rfl (teq (by decide : (0 : Int32) = (0 : Int32))).2 ?_
      show Steps p.tables e below (T143.setTop (mkF m 159 #[.val (.int p1), .val (.ref b1), .val (.int (14 : Int32)), .val (.ref a_BITWISE_XOR), .val (.int (0 : Int32))] [])) _
      refine XS.iconst X143.here hx rfl (hb hby at_159) ?_
      show Steps p.tables e below (T143.setTop (mkF m 160 #[.val (.int p1), .val (.ref b1), .val (.int (14 : Int32)), .val (.ref a_BITWISE_XOR), .val (.int (0 : Int32))] [(.int (1 : Int32))])) _
      refine XS.goto X143.here hx rfl (pc0 := 160) (pc' := 164) rfl (hb hby at_160) (by decide) (by decide) ?_
      show Steps p.tables e below (T143.setTop (mkF m 164 #[.val (.int p1), .val (.ref b1), .val (.int (14 : Int32)), .val (.ref a_BITWISE_XOR), .val (.int (0 : Int32))] [(.int (1 : Int32))])) _
      exact retN X143 hx (t := .boolean) Bd.returns (by simp) (hb hby at_164) hr
    · show Q0 n0 _ T143.heap _
      rw [r143]
      exact ⟨rfl, N143⟩
  · have R144 : ∀ tg, Steps p.tables e below (T72.setTop (mkF m 134 #[.val (.int p1), .val (.ref b1), .val (.int (15 : Int32)), .unset, .unset] [])) tg → Steps p.tables e below (T72.setTop (mkF m 134 #[.val (.int p1), .val (.ref b1), .val (.int ((p1 &&& (2147483647 : Int32)) % (18 : Int32))), .unset, .unset] [])) tg := fun tg kt => by rw [hk98]; exact kt
    obtain ⟨cl145, Ar145, q145, Sz145, Nn145, Ha145, Ga145⟩ := V72
    have hin145 : ¬ ((15 : Int32) < 0 ∨ cl145.slots.size ≤ ((15 : Int32)).toNatClampNeg) := inb_of Sz145 ⟨by decide, by decide⟩
    have hat145 : cl145.slots[((15 : Int32)).toNatClampNeg]? = some (.ref a_BITWISE_OR) := Ha145.at hin145 rfl
    obtain ⟨cq146, kq146, q146a, q146b, q146c⟩ := isOf hZ e72 f89
    obtain ⟨_, _, ⟨T146, L146, k146, n146⟩, -, X146, ⟨Lc146, hQ146, l146, y146, z146⟩, st146⟩ := X72.virtualBack hx (y := (⟨"com/example/deadpaths_to_precision/deadpathstoprecision/frontend/BinaryOperator", "isUndefinedOnOverflow", "()Z"⟩ : MethodName)) (z := (⟨"com/example/deadpaths_to_precision/deadpathstoprecision/frontend/BinaryOperator", "isUndefinedOnOverflow", "()Z"⟩ : MethodName)) hown (mvT hZ (hw _ (List.mem_of_getElem? (i := 41) rfl))) (mvT hZ (hw _ (List.mem_of_getElem? (i := 42) rfl))) (notFace_of_selects (args := #[]) (mvT hZ (hw _ (List.mem_of_getElem? (i := 44) rfl)))) (mvT hZ (hw _ (List.mem_of_getElem? (i := 44) rfl))) (mvT hZ (hw _ (List.mem_of_getElem? (i := 43) rfl))) (by decide) (backOf (W := 0) (rm1 l Z a0 hw [] a_BITWISE_OR a_MULTIPLY a_DIVIDE a_REMAINDER a_ADD a_SUBTRACT h72 n0 Z72 f92 f93 f94 f95 f96) hZ (hw _ (List.mem_of_getElem? (i := 45) rfl)) (hw _ (List.mem_of_getElem? (i := 3) rfl)) (by decide) (by decide)) q146a q146c (g := (mkF m 151 #[.val (.int p1), .val (.ref b1), .val (.int (15 : Int32)), .val (.ref a_BITWISE_OR), .val (.int (0 : Int32))] [(.ref a_BITWISE_OR)])) rfl (by rw [hml]; rfl) (Steps.refl _) (argsL := []) (rest := []) (lenOf pd_0 rfl) rfl (by show 2 * 0 + _ ≤ _; exact Nat.le_of_eq rfl) (hb hby at_151) (fun _ _ => ⟨rfl, e72, (by decide : 1 + 0 ≤ _), (by decide : 18 + 0 ≤ _)⟩)
    dsimp only [Pt.U, Pt.locs, Pt.cells, Pt.slots] at X146 l146 y146 z146 st146 hQ146
    subst l146 y146 z146
    obtain ⟨hv146, N146q, r146⟩ := hQ146
    rw [(if_neg (fun h => h.elim (own_ne_fld F_BITWISE_OR_ordinal F_MULTIPLY_ordinal (by decide)) (fun h => h.elim (own_ne_fld F_BITWISE_OR_ordinal F_DIVIDE_ordinal (by decide)) (fun h => h.elim (own_ne_fld F_BITWISE_OR_ordinal F_REMAINDER_ordinal (by decide)) (fun h => h.elim (own_ne_fld F_BITWISE_OR_ordinal F_ADD_ordinal (by decide)) (own_ne_fld F_BITWISE_OR_ordinal F_SUBTRACT_ordinal (by decide)))))))] at hv146
    subst hv146
    have N146 := Fr.app N72 N146q
    obtain ⟨fs, hr, hrun, hended, hW, hsame⟩ := X146.leave (v := some (.int (1 : Int32))) (fun h => by rw [Bd.returns] at h; cases h)
    refine ⟨_, _, pre0 _ (R97 _ (R144 _ ?_)), hrun, hended, _, _, rfl, ?_, ⟨_, rfl⟩, hW, hsame.mono (by decide) (by decide)⟩
    · show Steps p.tables e below (T72.setTop (mkF m 134 #[.val (.int p1), .val (.ref b1), .val (.int (15 : Int32)), .unset, .unset] [])) _
      refine XS.aloadN X72.here hx rfl (hb hby at_134) rfl rfl ?_
      show Steps p.tables e below (T72.setTop (mkF m 135 #[.val (.int p1), .val (.ref b1), .val (.int (15 : Int32)), .unset, .unset] [(.ref b1)])) _
      refine XS.iloadN X72.here hx rfl (hb hby at_135) rfl ?_
      show Steps p.tables e below (T72.setTop (mkF m 136 #[.val (.int p1), .val (.ref b1), .val (.int (15 : Int32)), .unset, .unset] [(.int (15 : Int32)), (.ref b1)])) _
      refine X72.aaload hx (j := (15 : Int32)) (v := (.ref a_BITWISE_OR)) (by rw [e72]; exact Ar145.1) (State.isArrayOf_alike hZ.alike Ar145.2.1) rfl Ar145.2.2 hin145 hat145 (g := (mkF m 136 #[.val (.int p1), .val (.ref b1), .val (.int (15 : Int32)), .unset, .unset] [(.int (15 : Int32)), (.ref b1)])) rfl rfl (hb hby at_136) _ ?_
      show Steps p.tables e below (T72.setTop (mkF m 137 #[.val (.int p1), .val (.ref b1), .val (.int (15 : Int32)), .unset, .unset] [(.ref a_BITWISE_OR)])) _
      refine XS.astoreN X72.here hx rfl (hb hby at_137) rfl rfl (l' := #[.val (.int p1), .val (.ref b1), .val (.int (15 : Int32)), .val (.ref a_BITWISE_OR), .unset]) rfl ?_
      show Steps p.tables e below (T72.setTop (mkF m 138 #[.val (.int p1), .val (.ref b1), .val (.int (15 : Int32)), .val (.ref a_BITWISE_OR), .unset] [])) _
      refine XS.iloadN X72.here hx rfl (hb hby at_138) rfl ?_
      show Steps p.tables e below (T72.setTop (mkF m 139 #[.val (.int p1), .val (.ref b1), .val (.int (15 : Int32)), .val (.ref a_BITWISE_OR), .unset] [(.int (15 : Int32))])) _
      refine XS.iconst X72.here hx rfl (hb hby at_139) ?_
      show Steps p.tables e below (T72.setTop (mkF m 140 #[.val (.int p1), .val (.ref b1), .val (.int (15 : Int32)), .val (.ref a_BITWISE_OR), .unset] [(.int (5 : Int32)), (.int (15 : Int32))])) _
      refine XS.icmpYes X72.here hx rfl (pc0 := 140) (pc' := 147) rfl (hb hby at_140) rfl (flt (by decide : ¬ ((15 : Int32) < (5 : Int32)))).2.1 (by decide) (by decide) ?_
      show Steps p.tables e below (T72.setTop (mkF m 147 #[.val (.int p1), .val (.ref b1), .val (.int (15 : Int32)), .val (.ref a_BITWISE_OR), .unset] [])) _
      refine XS.iconst X72.here hx rfl (hb hby at_147) ?_
      show Steps p.tables e below (T72.setTop (mkF m 148 #[.val (.int p1), .val (.ref b1), .val (.int (15 : Int32)), .val (.ref a_BITWISE_OR), .unset] [(.int (0 : Int32))])) _
      refine XS.istore X72.here hx rfl (hb hby at_148) rfl (l' := #[.val (.int p1), .val (.ref b1), .val (.int (15 : Int32)), .val (.ref a_BITWISE_OR), .val (.int (0 : Int32))]) rfl ?_
      show Steps p.tables e below (T72.setTop (mkF m 150 #[.val (.int p1), .val (.ref b1), .val (.int (15 : Int32)), .val (.ref a_BITWISE_OR), .val (.int (0 : Int32))] [])) _
      refine XS.aloadN X72.here hx rfl (hb hby at_150) rfl rfl ?_
      show Steps p.tables e below (T72.setTop (mkF m 151 #[.val (.int p1), .val (.ref b1), .val (.int (15 : Int32)), .val (.ref a_BITWISE_OR), .val (.int (0 : Int32))] [(.ref a_BITWISE_OR)])) _
      refine st146.trans ?_
      show Steps p.tables e below (T146.setTop (mkF m 154 #[.val (.int p1), .val (.ref b1), .val (.int (15 : Int32)), .val (.ref a_BITWISE_OR), .val (.int (0 : Int32))] [(.int (0 : Int32))])) _
      refine XS.iload X146.here hx rfl (hb hby at_154) rfl ?_
      show Steps p.tables e below (T146.setTop (mkF m 156 #[.val (.int p1), .val (.ref b1), .val (.int (15 : Int32)), .val (.ref a_BITWISE_OR), .val (.int (0 : Int32))] [(.int (0 : Int32)), (.int (0 : Int32))])) _
      refine XS.icmpNo X146.here hx rfl (hb hby at_156) rfl (teq (by decide : (0 : Int32) = (0 : Int32))).2 ?_
      show Steps p.tables e below (T146.setTop (mkF m 159 #[.val (.int p1), .val (.ref b1), .val (.int (15 : Int32)), .val (.ref a_BITWISE_OR), .val (.int (0 : Int32))] [])) _
      refine XS.iconst X146.here hx rfl (hb hby at_159) ?_
      show Steps p.tables e below (T146.setTop (mkF m 160 #[.val (.int p1), .val (.ref b1), .val (.int (15 : Int32)), .val (.ref a_BITWISE_OR), .val (.int (0 : Int32))] [(.int (1 : Int32))])) _
      refine XS.goto X146.here hx rfl (pc0 := 160) (pc' := 164) rfl (hb hby at_160) (by decide) (by decide) ?_
      show Steps p.tables e below (T146.setTop (mkF m 164 #[.val (.int p1), .val (.ref b1), .val (.int (15 : Int32)), .val (.ref a_BITWISE_OR), .val (.int (0 : Int32))] [(.int (1 : Int32))])) _
      exact retN X146 hx (t := .boolean) Bd.returns (by simp) (hb hby at_164) hr
    · show Q0 n0 _ T146.heap _
      rw [r146]
      exact ⟨rfl, N146⟩
  · have R147 : ∀ tg, Steps p.tables e below (T72.setTop (mkF m 134 #[.val (.int p1), .val (.ref b1), .val (.int (16 : Int32)), .unset, .unset] [])) tg → Steps p.tables e below (T72.setTop (mkF m 134 #[.val (.int p1), .val (.ref b1), .val (.int ((p1 &&& (2147483647 : Int32)) % (18 : Int32))), .unset, .unset] [])) tg := fun tg kt => by rw [hk98]; exact kt
    obtain ⟨cl148, Ar148, q148, Sz148, Nn148, Ha148, Ga148⟩ := V72
    have hin148 : ¬ ((16 : Int32) < 0 ∨ cl148.slots.size ≤ ((16 : Int32)).toNatClampNeg) := inb_of Sz148 ⟨by decide, by decide⟩
    have hat148 : cl148.slots[((16 : Int32)).toNatClampNeg]? = some (.ref a_LOGICAL_AND) := Ha148.at hin148 rfl
    obtain ⟨cq149, kq149, q149a, q149b, q149c⟩ := isOf hZ e72 f90
    obtain ⟨_, _, ⟨T149, L149, k149, n149⟩, -, X149, ⟨Lc149, hQ149, l149, y149, z149⟩, st149⟩ := X72.virtualBack hx (y := (⟨"com/example/deadpaths_to_precision/deadpathstoprecision/frontend/BinaryOperator", "isUndefinedOnOverflow", "()Z"⟩ : MethodName)) (z := (⟨"com/example/deadpaths_to_precision/deadpathstoprecision/frontend/BinaryOperator", "isUndefinedOnOverflow", "()Z"⟩ : MethodName)) hown (mvT hZ (hw _ (List.mem_of_getElem? (i := 41) rfl))) (mvT hZ (hw _ (List.mem_of_getElem? (i := 42) rfl))) (notFace_of_selects (args := #[]) (mvT hZ (hw _ (List.mem_of_getElem? (i := 44) rfl)))) (mvT hZ (hw _ (List.mem_of_getElem? (i := 44) rfl))) (mvT hZ (hw _ (List.mem_of_getElem? (i := 43) rfl))) (by decide) (backOf (W := 0) (rm1 l Z a0 hw [] a_LOGICAL_AND a_MULTIPLY a_DIVIDE a_REMAINDER a_ADD a_SUBTRACT h72 n0 Z72 f92 f93 f94 f95 f96) hZ (hw _ (List.mem_of_getElem? (i := 45) rfl)) (hw _ (List.mem_of_getElem? (i := 3) rfl)) (by decide) (by decide)) q149a q149c (g := (mkF m 151 #[.val (.int p1), .val (.ref b1), .val (.int (16 : Int32)), .val (.ref a_LOGICAL_AND), .val (.int (0 : Int32))] [(.ref a_LOGICAL_AND)])) rfl (by rw [hml]; rfl) (Steps.refl _) (argsL := []) (rest := []) (lenOf pd_0 rfl) rfl (by show 2 * 0 + _ ≤ _; exact Nat.le_of_eq rfl) (hb hby at_151) (fun _ _ => ⟨rfl, e72, (by decide : 1 + 0 ≤ _), (by decide : 18 + 0 ≤ _)⟩)
    dsimp only [Pt.U, Pt.locs, Pt.cells, Pt.slots] at X149 l149 y149 z149 st149 hQ149
    subst l149 y149 z149
    obtain ⟨hv149, N149q, r149⟩ := hQ149
    rw [(if_neg (fun h => h.elim (own_ne_fld F_LOGICAL_AND_ordinal F_MULTIPLY_ordinal (by decide)) (fun h => h.elim (own_ne_fld F_LOGICAL_AND_ordinal F_DIVIDE_ordinal (by decide)) (fun h => h.elim (own_ne_fld F_LOGICAL_AND_ordinal F_REMAINDER_ordinal (by decide)) (fun h => h.elim (own_ne_fld F_LOGICAL_AND_ordinal F_ADD_ordinal (by decide)) (own_ne_fld F_LOGICAL_AND_ordinal F_SUBTRACT_ordinal (by decide)))))))] at hv149
    subst hv149
    have N149 := Fr.app N72 N149q
    obtain ⟨fs, hr, hrun, hended, hW, hsame⟩ := X149.leave (v := some (.int (1 : Int32))) (fun h => by rw [Bd.returns] at h; cases h)
    refine ⟨_, _, pre0 _ (R97 _ (R147 _ ?_)), hrun, hended, _, _, rfl, ?_, ⟨_, rfl⟩, hW, hsame.mono (by decide) (by decide)⟩
    · show Steps p.tables e below (T72.setTop (mkF m 134 #[.val (.int p1), .val (.ref b1), .val (.int (16 : Int32)), .unset, .unset] [])) _
      refine XS.aloadN X72.here hx rfl (hb hby at_134) rfl rfl ?_
      show Steps p.tables e below (T72.setTop (mkF m 135 #[.val (.int p1), .val (.ref b1), .val (.int (16 : Int32)), .unset, .unset] [(.ref b1)])) _
      refine XS.iloadN X72.here hx rfl (hb hby at_135) rfl ?_
      show Steps p.tables e below (T72.setTop (mkF m 136 #[.val (.int p1), .val (.ref b1), .val (.int (16 : Int32)), .unset, .unset] [(.int (16 : Int32)), (.ref b1)])) _
      refine X72.aaload hx (j := (16 : Int32)) (v := (.ref a_LOGICAL_AND)) (by rw [e72]; exact Ar148.1) (State.isArrayOf_alike hZ.alike Ar148.2.1) rfl Ar148.2.2 hin148 hat148 (g := (mkF m 136 #[.val (.int p1), .val (.ref b1), .val (.int (16 : Int32)), .unset, .unset] [(.int (16 : Int32)), (.ref b1)])) rfl rfl (hb hby at_136) _ ?_
      show Steps p.tables e below (T72.setTop (mkF m 137 #[.val (.int p1), .val (.ref b1), .val (.int (16 : Int32)), .unset, .unset] [(.ref a_LOGICAL_AND)])) _
      refine XS.astoreN X72.here hx rfl (hb hby at_137) rfl rfl (l' := #[.val (.int p1), .val (.ref b1), .val (.int (16 : Int32)), .val (.ref a_LOGICAL_AND), .unset]) rfl ?_
      show Steps p.tables e below (T72.setTop (mkF m 138 #[.val (.int p1), .val (.ref b1), .val (.int (16 : Int32)), .val (.ref a_LOGICAL_AND), .unset] [])) _
      refine XS.iloadN X72.here hx rfl (hb hby at_138) rfl ?_
      show Steps p.tables e below (T72.setTop (mkF m 139 #[.val (.int p1), .val (.ref b1), .val (.int (16 : Int32)), .val (.ref a_LOGICAL_AND), .unset] [(.int (16 : Int32))])) _
      refine XS.iconst X72.here hx rfl (hb hby at_139) ?_
      show Steps p.tables e below (T72.setTop (mkF m 140 #[.val (.int p1), .val (.ref b1), .val (.int (16 : Int32)), .val (.ref a_LOGICAL_AND), .unset] [(.int (5 : Int32)), (.int (16 : Int32))])) _
      refine XS.icmpYes X72.here hx rfl (pc0 := 140) (pc' := 147) rfl (hb hby at_140) rfl (flt (by decide : ¬ ((16 : Int32) < (5 : Int32)))).2.1 (by decide) (by decide) ?_
      show Steps p.tables e below (T72.setTop (mkF m 147 #[.val (.int p1), .val (.ref b1), .val (.int (16 : Int32)), .val (.ref a_LOGICAL_AND), .unset] [])) _
      refine XS.iconst X72.here hx rfl (hb hby at_147) ?_
      show Steps p.tables e below (T72.setTop (mkF m 148 #[.val (.int p1), .val (.ref b1), .val (.int (16 : Int32)), .val (.ref a_LOGICAL_AND), .unset] [(.int (0 : Int32))])) _
      refine XS.istore X72.here hx rfl (hb hby at_148) rfl (l' := #[.val (.int p1), .val (.ref b1), .val (.int (16 : Int32)), .val (.ref a_LOGICAL_AND), .val (.int (0 : Int32))]) rfl ?_
      show Steps p.tables e below (T72.setTop (mkF m 150 #[.val (.int p1), .val (.ref b1), .val (.int (16 : Int32)), .val (.ref a_LOGICAL_AND), .val (.int (0 : Int32))] [])) _
      refine XS.aloadN X72.here hx rfl (hb hby at_150) rfl rfl ?_
      show Steps p.tables e below (T72.setTop (mkF m 151 #[.val (.int p1), .val (.ref b1), .val (.int (16 : Int32)), .val (.ref a_LOGICAL_AND), .val (.int (0 : Int32))] [(.ref a_LOGICAL_AND)])) _
      refine st149.trans ?_
      show Steps p.tables e below (T149.setTop (mkF m 154 #[.val (.int p1), .val (.ref b1), .val (.int (16 : Int32)), .val (.ref a_LOGICAL_AND), .val (.int (0 : Int32))] [(.int (0 : Int32))])) _
      refine XS.iload X149.here hx rfl (hb hby at_154) rfl ?_
      show Steps p.tables e below (T149.setTop (mkF m 156 #[.val (.int p1), .val (.ref b1), .val (.int (16 : Int32)), .val (.ref a_LOGICAL_AND), .val (.int (0 : Int32))] [(.int (0 : Int32)), (.int (0 : Int32))])) _
      refine XS.icmpNo X149.here hx rfl (hb hby at_156) rfl (teq (by decide : (0 : Int32) = (0 : Int32))).2 ?_
      show Steps p.tables e below (T149.setTop (mkF m 159 #[.val (.int p1), .val (.ref b1), .val (.int (16 : Int32)), .val (.ref a_LOGICAL_AND), .val (.int (0 : Int32))] [])) _
      refine XS.iconst X149.here hx rfl (hb hby at_159) ?_
      show Steps p.tables e below (T149.setTop (mkF m 160 #[.val (.int p1), .val (.ref b1), .val (.int (16 : Int32)), .val (.ref a_LOGICAL_AND), .val (.int (0 : Int32))] [(.int (1 : Int32))])) _
      refine XS.goto X149.here hx rfl (pc0 := 160) (pc' := 164) rfl (hb hby at_160) (by decide) (by decide) ?_
      show Steps p.tables e below (T149.setTop (mkF m 164 #[.val (.int p1), .val (.ref b1), .val (.int (16 : Int32)), .val (.ref a_LOGICAL_AND), .val (.int (0 : Int32))] [(.int (1 : Int32))])) _
      exact retN X149 hx (t := .boolean) Bd.returns (by simp) (hb hby at_164) hr
    · show Q0 n0 _ T149.heap _
      rw [r149]
      exact ⟨rfl, N149⟩
  · have R150 : ∀ tg, Steps p.tables e below (T72.setTop (mkF m 134 #[.val (.int p1), .val (.ref b1), .val (.int (17 : Int32)), .unset, .unset] [])) tg → Steps p.tables e below (T72.setTop (mkF m 134 #[.val (.int p1), .val (.ref b1), .val (.int ((p1 &&& (2147483647 : Int32)) % (18 : Int32))), .unset, .unset] [])) tg := fun tg kt => by rw [hk98]; exact kt
    obtain ⟨cl151, Ar151, q151, Sz151, Nn151, Ha151, Ga151⟩ := V72
    have hin151 : ¬ ((17 : Int32) < 0 ∨ cl151.slots.size ≤ ((17 : Int32)).toNatClampNeg) := inb_of Sz151 ⟨by decide, by decide⟩
    have hat151 : cl151.slots[((17 : Int32)).toNatClampNeg]? = some (.ref a_LOGICAL_OR) := Ha151.at hin151 rfl
    obtain ⟨cq152, kq152, q152a, q152b, q152c⟩ := isOf hZ e72 f91
    obtain ⟨_, _, ⟨T152, L152, k152, n152⟩, -, X152, ⟨Lc152, hQ152, l152, y152, z152⟩, st152⟩ := X72.virtualBack hx (y := (⟨"com/example/deadpaths_to_precision/deadpathstoprecision/frontend/BinaryOperator", "isUndefinedOnOverflow", "()Z"⟩ : MethodName)) (z := (⟨"com/example/deadpaths_to_precision/deadpathstoprecision/frontend/BinaryOperator", "isUndefinedOnOverflow", "()Z"⟩ : MethodName)) hown (mvT hZ (hw _ (List.mem_of_getElem? (i := 41) rfl))) (mvT hZ (hw _ (List.mem_of_getElem? (i := 42) rfl))) (notFace_of_selects (args := #[]) (mvT hZ (hw _ (List.mem_of_getElem? (i := 44) rfl)))) (mvT hZ (hw _ (List.mem_of_getElem? (i := 44) rfl))) (mvT hZ (hw _ (List.mem_of_getElem? (i := 43) rfl))) (by decide) (backOf (W := 0) (rm1 l Z a0 hw [] a_LOGICAL_OR a_MULTIPLY a_DIVIDE a_REMAINDER a_ADD a_SUBTRACT h72 n0 Z72 f92 f93 f94 f95 f96) hZ (hw _ (List.mem_of_getElem? (i := 45) rfl)) (hw _ (List.mem_of_getElem? (i := 3) rfl)) (by decide) (by decide)) q152a q152c (g := (mkF m 151 #[.val (.int p1), .val (.ref b1), .val (.int (17 : Int32)), .val (.ref a_LOGICAL_OR), .val (.int (0 : Int32))] [(.ref a_LOGICAL_OR)])) rfl (by rw [hml]; rfl) (Steps.refl _) (argsL := []) (rest := []) (lenOf pd_0 rfl) rfl (by show 2 * 0 + _ ≤ _; exact Nat.le_of_eq rfl) (hb hby at_151) (fun _ _ => ⟨rfl, e72, (by decide : 1 + 0 ≤ _), (by decide : 18 + 0 ≤ _)⟩)
    dsimp only [Pt.U, Pt.locs, Pt.cells, Pt.slots] at X152 l152 y152 z152 st152 hQ152
    subst l152 y152 z152
    obtain ⟨hv152, N152q, r152⟩ := hQ152
    rw [(if_neg (fun h => h.elim (own_ne_fld F_LOGICAL_OR_ordinal F_MULTIPLY_ordinal (by decide)) (fun h => h.elim (own_ne_fld F_LOGICAL_OR_ordinal F_DIVIDE_ordinal (by decide)) (fun h => h.elim (own_ne_fld F_LOGICAL_OR_ordinal F_REMAINDER_ordinal (by decide)) (fun h => h.elim (own_ne_fld F_LOGICAL_OR_ordinal F_ADD_ordinal (by decide)) (own_ne_fld F_LOGICAL_OR_ordinal F_SUBTRACT_ordinal (by decide)))))))] at hv152
    subst hv152
    have N152 := Fr.app N72 N152q
    obtain ⟨fs, hr, hrun, hended, hW, hsame⟩ := X152.leave (v := some (.int (1 : Int32))) (fun h => by rw [Bd.returns] at h; cases h)
    refine ⟨_, _, pre0 _ (R97 _ (R150 _ ?_)), hrun, hended, _, _, rfl, ?_, ⟨_, rfl⟩, hW, hsame.mono (by decide) (by decide)⟩
    · show Steps p.tables e below (T72.setTop (mkF m 134 #[.val (.int p1), .val (.ref b1), .val (.int (17 : Int32)), .unset, .unset] [])) _
      refine XS.aloadN X72.here hx rfl (hb hby at_134) rfl rfl ?_
      show Steps p.tables e below (T72.setTop (mkF m 135 #[.val (.int p1), .val (.ref b1), .val (.int (17 : Int32)), .unset, .unset] [(.ref b1)])) _
      refine XS.iloadN X72.here hx rfl (hb hby at_135) rfl ?_
      show Steps p.tables e below (T72.setTop (mkF m 136 #[.val (.int p1), .val (.ref b1), .val (.int (17 : Int32)), .unset, .unset] [(.int (17 : Int32)), (.ref b1)])) _
      refine X72.aaload hx (j := (17 : Int32)) (v := (.ref a_LOGICAL_OR)) (by rw [e72]; exact Ar151.1) (State.isArrayOf_alike hZ.alike Ar151.2.1) rfl Ar151.2.2 hin151 hat151 (g := (mkF m 136 #[.val (.int p1), .val (.ref b1), .val (.int (17 : Int32)), .unset, .unset] [(.int (17 : Int32)), (.ref b1)])) rfl rfl (hb hby at_136) _ ?_
      show Steps p.tables e below (T72.setTop (mkF m 137 #[.val (.int p1), .val (.ref b1), .val (.int (17 : Int32)), .unset, .unset] [(.ref a_LOGICAL_OR)])) _
      refine XS.astoreN X72.here hx rfl (hb hby at_137) rfl rfl (l' := #[.val (.int p1), .val (.ref b1), .val (.int (17 : Int32)), .val (.ref a_LOGICAL_OR), .unset]) rfl ?_
      show Steps p.tables e below (T72.setTop (mkF m 138 #[.val (.int p1), .val (.ref b1), .val (.int (17 : Int32)), .val (.ref a_LOGICAL_OR), .unset] [])) _
      refine XS.iloadN X72.here hx rfl (hb hby at_138) rfl ?_
      show Steps p.tables e below (T72.setTop (mkF m 139 #[.val (.int p1), .val (.ref b1), .val (.int (17 : Int32)), .val (.ref a_LOGICAL_OR), .unset] [(.int (17 : Int32))])) _
      refine XS.iconst X72.here hx rfl (hb hby at_139) ?_
      show Steps p.tables e below (T72.setTop (mkF m 140 #[.val (.int p1), .val (.ref b1), .val (.int (17 : Int32)), .val (.ref a_LOGICAL_OR), .unset] [(.int (5 : Int32)), (.int (17 : Int32))])) _
      refine XS.icmpYes X72.here hx rfl (pc0 := 140) (pc' := 147) rfl (hb hby at_140) rfl (flt (by decide : ¬ ((17 : Int32) < (5 : Int32)))).2.1 (by decide) (by decide) ?_
      show Steps p.tables e below (T72.setTop (mkF m 147 #[.val (.int p1), .val (.ref b1), .val (.int (17 : Int32)), .val (.ref a_LOGICAL_OR), .unset] [])) _
      refine XS.iconst X72.here hx rfl (hb hby at_147) ?_
      show Steps p.tables e below (T72.setTop (mkF m 148 #[.val (.int p1), .val (.ref b1), .val (.int (17 : Int32)), .val (.ref a_LOGICAL_OR), .unset] [(.int (0 : Int32))])) _
      refine XS.istore X72.here hx rfl (hb hby at_148) rfl (l' := #[.val (.int p1), .val (.ref b1), .val (.int (17 : Int32)), .val (.ref a_LOGICAL_OR), .val (.int (0 : Int32))]) rfl ?_
      show Steps p.tables e below (T72.setTop (mkF m 150 #[.val (.int p1), .val (.ref b1), .val (.int (17 : Int32)), .val (.ref a_LOGICAL_OR), .val (.int (0 : Int32))] [])) _
      refine XS.aloadN X72.here hx rfl (hb hby at_150) rfl rfl ?_
      show Steps p.tables e below (T72.setTop (mkF m 151 #[.val (.int p1), .val (.ref b1), .val (.int (17 : Int32)), .val (.ref a_LOGICAL_OR), .val (.int (0 : Int32))] [(.ref a_LOGICAL_OR)])) _
      refine st152.trans ?_
      show Steps p.tables e below (T152.setTop (mkF m 154 #[.val (.int p1), .val (.ref b1), .val (.int (17 : Int32)), .val (.ref a_LOGICAL_OR), .val (.int (0 : Int32))] [(.int (0 : Int32))])) _
      refine XS.iload X152.here hx rfl (hb hby at_154) rfl ?_
      show Steps p.tables e below (T152.setTop (mkF m 156 #[.val (.int p1), .val (.ref b1), .val (.int (17 : Int32)), .val (.ref a_LOGICAL_OR), .val (.int (0 : Int32))] [(.int (0 : Int32)), (.int (0 : Int32))])) _
      refine XS.icmpNo X152.here hx rfl (hb hby at_156) rfl (teq (by decide : (0 : Int32) = (0 : Int32))).2 ?_
      show Steps p.tables e below (T152.setTop (mkF m 159 #[.val (.int p1), .val (.ref b1), .val (.int (17 : Int32)), .val (.ref a_LOGICAL_OR), .val (.int (0 : Int32))] [])) _
      refine XS.iconst X152.here hx rfl (hb hby at_159) ?_
      show Steps p.tables e below (T152.setTop (mkF m 160 #[.val (.int p1), .val (.ref b1), .val (.int (17 : Int32)), .val (.ref a_LOGICAL_OR), .val (.int (0 : Int32))] [(.int (1 : Int32))])) _
      refine XS.goto X152.here hx rfl (pc0 := 160) (pc' := 164) rfl (hb hby at_160) (by decide) (by decide) ?_
      show Steps p.tables e below (T152.setTop (mkF m 164 #[.val (.int p1), .val (.ref b1), .val (.int (17 : Int32)), .val (.ref a_LOGICAL_OR), .val (.int (0 : Int32))] [(.int (1 : Int32))])) _
      exact retN X152 hx (t := .boolean) Bd.returns (by simp) (hb hby at_164) hr
    · show Q0 n0 _ T152.heap _
      rw [r152]
      exact ⟨rfl, N152⟩
set_option maxRecDepth 65536 in
set_option maxHeartbeats 40000000 in
theorem comes_1 {Post : Tables → Env → Array Value → State → Outcome → State → Prop} (hpost : ∀ tb e args s v u, (limb_1_1.after args s (.returned v) u = true ∧ limb_1_2.after args s (.returned v) u = true ∧ True) → FrameEnd s (.returned v) u (Jvm.fieldLocs frame_1_writes args s ++ Jvm.arrayLocs frame_1_arrays args s ++ Jvm.staticLocs frame_1_statics s) 16 128 → Post tb e args s (.returned v) u) :
    ArmFor flags0 classFile x code maxLocals ret World_1 tables_1 room_1 Calls_1 rest_1 Pre_1 Post := by
  intro l hfl _ _ p e ha hc hk s m args below hf hA hF happ hP
  obtain ⟨hcalls, hrest, hpre⟩ := hP
  obtain ⟨-, -, -, hnamed, -, -, -, hat⟩ := (Spec.applies_iff hf).mp happ
  obtain ⟨hg, hn⟩ := and_e (Cond.before_iff.mp (show (Jvm.Cond.and given_1 narrow_1).before args s = true from hpre))
  obtain ⟨g1a, g1b⟩ := and_e hg
  obtain ⟨w0, rfl⟩ : ∃ w0 : Value, args = #[w0] := by
    have hs : args.size = 1 := by simpa [Cond.value, given_1] using g1a
    obtain ⟨L⟩ := args
    match L, hs with
    | [w0], _ => exact ⟨w0, rfl⟩
  have hw := fun d (hd : d ∈ tables_1) => atoms_spec (ws := Jvm.Cond.code x code maxLocals ret :: tables_1) hat d (List.mem_cons_of_mem _ hd)
  have hfit : Fit s := fun {y c} hc i hi => by
    obtain ⟨ha, rfl⟩ := Array.getElem?_eq_some_iff.mp hc
    have q := List.all_eq_true.mp ((Array.all_eq_true_iff_forall_mem.mp hF) _ (Array.getElem_mem ha)) i (List.mem_range.mpr hi)
    simpa [Array.getElem?_eq_getElem hi] using q
  obtain ⟨i0, ei0⟩ := is_v g1b
  obtain rfl : w0 = (.int i0) := Option.some.inj ei0
  obtain ⟨u1a, u1b⟩ := and_e hn
  obtain ⟨u2a, u2b⟩ := and_e u1b
  obtain ⟨u3a, u3b⟩ := and_e u2b
  obtain ⟨u4a, u4b⟩ := and_e u3b
  obtain ⟨u5a, u5b⟩ := and_e u4b
  obtain ⟨u6a, u6b⟩ := and_e u5b
  obtain ⟨u7a, u7b⟩ := and_e u6b
  obtain ⟨u8a, u8b⟩ := and_e u7b
  obtain ⟨u9a, u9b⟩ := and_e u8b
  obtain ⟨u10a, u10b⟩ := and_e u9b
  obtain ⟨u11a, u11b⟩ := and_e u10b
  obtain ⟨u12a, u12b⟩ := and_e u11b
  obtain ⟨u13a, u13b⟩ := and_e u12b
  obtain ⟨u14a, u14b⟩ := and_e u13b
  obtain ⟨u15a, u15b⟩ := and_e u14b
  obtain ⟨u16a, u16b⟩ := and_e u15b
  obtain ⟨u17a, u17b⟩ := and_e u16b
  obtain ⟨u18a, u18b⟩ := and_e u17b
  obtain ⟨u19a, u19b⟩ := and_e u18b
  obtain ⟨u20a, u20b⟩ := and_e u19b
  obtain ⟨u21a, u21b⟩ := and_e u20b
  obtain ⟨u22a, u22b⟩ := and_e u21b
  obtain ⟨u23a, u23b⟩ := and_e u22b
  obtain ⟨u24a, u24b⟩ := and_e u23b
  obtain ⟨u25a, u25b⟩ := and_e u24b
  obtain ⟨u26a, u26b⟩ := and_e u25b
  obtain ⟨u27a, u27b⟩ := and_e u26b
  obtain ⟨u28a, u28b⟩ := and_e u27b
  obtain ⟨u29a, u29b⟩ := and_e u28b
  obtain ⟨u30a, u30b⟩ := and_e u29b
  obtain ⟨u31a, u31b⟩ := and_e u30b
  obtain ⟨u32a, u32b⟩ := and_e u31b
  obtain ⟨u33a, u33b⟩ := and_e u32b
  obtain ⟨u34a, u34b⟩ := and_e u33b
  obtain ⟨u35a, u35b⟩ := and_e u34b
  obtain ⟨a_MULTIPLY, ev_MULTIPLY⟩ := exa_v u1a
  have S_MULTIPLY := Sta.start ev_MULTIPLY (Or.inr ⟨(hw _ (List.mem_of_getElem? (i := 3) rfl)), (hw _ (List.mem_of_getElem? (i := 4) rfl))⟩)
  have E_MULTIPLY := Exa.start ev_MULTIPLY u1a
  have F_MULTIPLY_ordinal := own_fld ev_MULTIPLY u20a
  obtain ⟨a_DIVIDE, ev_DIVIDE⟩ := exa_v u2a
  have S_DIVIDE := Sta.start ev_DIVIDE (Or.inr ⟨(hw _ (List.mem_of_getElem? (i := 3) rfl)), (hw _ (List.mem_of_getElem? (i := 7) rfl))⟩)
  have E_DIVIDE := Exa.start ev_DIVIDE u2a
  have F_DIVIDE_ordinal := own_fld ev_DIVIDE u21a
  obtain ⟨a_REMAINDER, ev_REMAINDER⟩ := exa_v u3a
  have S_REMAINDER := Sta.start ev_REMAINDER (Or.inr ⟨(hw _ (List.mem_of_getElem? (i := 3) rfl)), (hw _ (List.mem_of_getElem? (i := 9) rfl))⟩)
  have E_REMAINDER := Exa.start ev_REMAINDER u3a
  have F_REMAINDER_ordinal := own_fld ev_REMAINDER u22a
  obtain ⟨a_ADD, ev_ADD⟩ := exa_v u4a
  have S_ADD := Sta.start ev_ADD (Or.inr ⟨(hw _ (List.mem_of_getElem? (i := 3) rfl)), (hw _ (List.mem_of_getElem? (i := 11) rfl))⟩)
  have E_ADD := Exa.start ev_ADD u4a
  have F_ADD_ordinal := own_fld ev_ADD u19a
  obtain ⟨a_SUBTRACT, ev_SUBTRACT⟩ := exa_v u5a
  have S_SUBTRACT := Sta.start ev_SUBTRACT (Or.inr ⟨(hw _ (List.mem_of_getElem? (i := 3) rfl)), (hw _ (List.mem_of_getElem? (i := 13) rfl))⟩)
  have E_SUBTRACT := Exa.start ev_SUBTRACT u5a
  have F_SUBTRACT_ordinal := own_fld ev_SUBTRACT u24a
  obtain ⟨a_SHIFT_LEFT, ev_SHIFT_LEFT⟩ := exa_v u6a
  have S_SHIFT_LEFT := Sta.start ev_SHIFT_LEFT (Or.inr ⟨(hw _ (List.mem_of_getElem? (i := 3) rfl)), (hw _ (List.mem_of_getElem? (i := 15) rfl))⟩)
  have E_SHIFT_LEFT := Exa.start ev_SHIFT_LEFT u6a
  have F_SHIFT_LEFT_ordinal := own_fld ev_SHIFT_LEFT u35a
  obtain ⟨a_SHIFT_RIGHT, ev_SHIFT_RIGHT⟩ := exa_v u7a
  have S_SHIFT_RIGHT := Sta.start ev_SHIFT_RIGHT (Or.inr ⟨(hw _ (List.mem_of_getElem? (i := 3) rfl)), (hw _ (List.mem_of_getElem? (i := 17) rfl))⟩)
  have E_SHIFT_RIGHT := Exa.start ev_SHIFT_RIGHT u7a
  have F_SHIFT_RIGHT_ordinal := own_fld ev_SHIFT_RIGHT u32a
  obtain ⟨a_LESS, ev_LESS⟩ := exa_v u8a
  have S_LESS := Sta.start ev_LESS (Or.inr ⟨(hw _ (List.mem_of_getElem? (i := 3) rfl)), (hw _ (List.mem_of_getElem? (i := 19) rfl))⟩)
  have E_LESS := Exa.start ev_LESS u8a
  have F_LESS_ordinal := own_fld ev_LESS u23a
  obtain ⟨a_GREATER, ev_GREATER⟩ := exa_v u9a
  have S_GREATER := Sta.start ev_GREATER (Or.inr ⟨(hw _ (List.mem_of_getElem? (i := 3) rfl)), (hw _ (List.mem_of_getElem? (i := 21) rfl))⟩)
  have E_GREATER := Exa.start ev_GREATER u9a
  have F_GREATER_ordinal := own_fld ev_GREATER u26a
  obtain ⟨a_LESS_EQUAL, ev_LESS_EQUAL⟩ := exa_v u10a
  have S_LESS_EQUAL := Sta.start ev_LESS_EQUAL (Or.inr ⟨(hw _ (List.mem_of_getElem? (i := 3) rfl)), (hw _ (List.mem_of_getElem? (i := 23) rfl))⟩)
  have E_LESS_EQUAL := Exa.start ev_LESS_EQUAL u10a
  have F_LESS_EQUAL_ordinal := own_fld ev_LESS_EQUAL u35b
  obtain ⟨a_GREATER_EQUAL, ev_GREATER_EQUAL⟩ := exa_v u11a
  have S_GREATER_EQUAL := Sta.start ev_GREATER_EQUAL (Or.inr ⟨(hw _ (List.mem_of_getElem? (i := 3) rfl)), (hw _ (List.mem_of_getElem? (i := 25) rfl))⟩)
  have E_GREATER_EQUAL := Exa.start ev_GREATER_EQUAL u11a
  have F_GREATER_EQUAL_ordinal := own_fld ev_GREATER_EQUAL u30a
  obtain ⟨a_EQUAL, ev_EQUAL⟩ := exa_v u12a
  have S_EQUAL := Sta.start ev_EQUAL (Or.inr ⟨(hw _ (List.mem_of_getElem? (i := 3) rfl)), (hw _ (List.mem_of_getElem? (i := 27) rfl))⟩)
  have E_EQUAL := Exa.start ev_EQUAL u12a
  have F_EQUAL_ordinal := own_fld ev_EQUAL u25a
  obtain ⟨a_NOT_EQUAL, ev_NOT_EQUAL⟩ := exa_v u13a
  have S_NOT_EQUAL := Sta.start ev_NOT_EQUAL (Or.inr ⟨(hw _ (List.mem_of_getElem? (i := 3) rfl)), (hw _ (List.mem_of_getElem? (i := 29) rfl))⟩)
  have E_NOT_EQUAL := Exa.start ev_NOT_EQUAL u13a
  have F_NOT_EQUAL_ordinal := own_fld ev_NOT_EQUAL u27a
  obtain ⟨a_BITWISE_AND, ev_BITWISE_AND⟩ := exa_v u14a
  have S_BITWISE_AND := Sta.start ev_BITWISE_AND (Or.inr ⟨(hw _ (List.mem_of_getElem? (i := 3) rfl)), (hw _ (List.mem_of_getElem? (i := 31) rfl))⟩)
  have E_BITWISE_AND := Exa.start ev_BITWISE_AND u14a
  have F_BITWISE_AND_ordinal := own_fld ev_BITWISE_AND u31a
  obtain ⟨a_BITWISE_XOR, ev_BITWISE_XOR⟩ := exa_v u15a
  have S_BITWISE_XOR := Sta.start ev_BITWISE_XOR (Or.inr ⟨(hw _ (List.mem_of_getElem? (i := 3) rfl)), (hw _ (List.mem_of_getElem? (i := 33) rfl))⟩)
  have E_BITWISE_XOR := Exa.start ev_BITWISE_XOR u15a
  have F_BITWISE_XOR_ordinal := own_fld ev_BITWISE_XOR u34a
  obtain ⟨a_BITWISE_OR, ev_BITWISE_OR⟩ := exa_v u16a
  have S_BITWISE_OR := Sta.start ev_BITWISE_OR (Or.inr ⟨(hw _ (List.mem_of_getElem? (i := 3) rfl)), (hw _ (List.mem_of_getElem? (i := 35) rfl))⟩)
  have E_BITWISE_OR := Exa.start ev_BITWISE_OR u16a
  have F_BITWISE_OR_ordinal := own_fld ev_BITWISE_OR u29a
  obtain ⟨a_LOGICAL_AND, ev_LOGICAL_AND⟩ := exa_v u17a
  have S_LOGICAL_AND := Sta.start ev_LOGICAL_AND (Or.inr ⟨(hw _ (List.mem_of_getElem? (i := 3) rfl)), (hw _ (List.mem_of_getElem? (i := 37) rfl))⟩)
  have E_LOGICAL_AND := Exa.start ev_LOGICAL_AND u17a
  have F_LOGICAL_AND_ordinal := own_fld ev_LOGICAL_AND u28a
  obtain ⟨a_LOGICAL_OR, ev_LOGICAL_OR⟩ := exa_v u18a
  have S_LOGICAL_OR := Sta.start ev_LOGICAL_OR (Or.inr ⟨(hw _ (List.mem_of_getElem? (i := 3) rfl)), (hw _ (List.mem_of_getElem? (i := 39) rfl))⟩)
  have E_LOGICAL_OR := Exa.start ev_LOGICAL_OR u18a
  have F_LOGICAL_OR_ordinal := own_fld ev_LOGICAL_OR u33a
  obtain ⟨n, o, h1, h2, h3, _, L, rfl, ⟨rfl, N⟩, hq⟩ := rm0 l s _ hw tables_1 i0 a_MULTIPLY a_DIVIDE a_REMAINDER a_ADD a_SUBTRACT a_SHIFT_LEFT a_SHIFT_RIGHT a_LESS a_GREATER a_LESS_EQUAL a_GREATER_EQUAL a_EQUAL a_NOT_EQUAL a_BITWISE_AND a_BITWISE_XOR a_BITWISE_OR a_LOGICAL_AND a_LOGICAL_OR s.heap s.heap.size (Nat.le_refl _) S_MULTIPLY E_MULTIPLY F_MULTIPLY_ordinal S_DIVIDE E_DIVIDE F_DIVIDE_ordinal S_REMAINDER E_REMAINDER F_REMAINDER_ordinal S_ADD E_ADD F_ADD_ordinal S_SUBTRACT E_SUBTRACT F_SUBTRACT_ordinal S_SHIFT_LEFT E_SHIFT_LEFT F_SHIFT_LEFT_ordinal S_SHIFT_RIGHT E_SHIFT_RIGHT F_SHIFT_RIGHT_ordinal S_LESS E_LESS F_LESS_ordinal S_GREATER E_GREATER F_GREATER_ordinal S_LESS_EQUAL E_LESS_EQUAL F_LESS_EQUAL_ordinal S_GREATER_EQUAL E_GREATER_EQUAL F_GREATER_EQUAL_ordinal S_EQUAL E_EQUAL F_EQUAL_ordinal S_NOT_EQUAL E_NOT_EQUAL F_NOT_EQUAL_ordinal S_BITWISE_AND E_BITWISE_AND F_BITWISE_AND_ordinal S_BITWISE_XOR E_BITWISE_XOR F_BITWISE_XOR_ordinal S_BITWISE_OR E_BITWISE_OR F_BITWISE_OR_ordinal S_LOGICAL_AND E_LOGICAL_AND F_LOGICAL_AND_ordinal S_LOGICAL_OR E_LOGICAL_OR F_LOGICAL_OR_ordinal p e ha hc hk s m _ below hf ((Spec.applies_iff_loose hf).mp happ).1 ⟨rfl, State.Warmed39.refl s, rfl⟩ trivial
  refine ⟨n, _, h1, h2, h3, hpost _ _ _ _ _ _ ⟨Cond.after_iff.mpr rfl, Cond.after_iff.mpr (eq_i res_at (Term.int_eval (1)) rfl), trivial⟩ ⟨hq.1, hq.2.1, (hq.2.2.sift fun y hy => Or.inr (N y hy)).mono (by decide) (by decide)⟩⟩
theorem main_1_1 : Claimed_1_1 := comes_1 fun _ _ _ _ _ _ h hF => ⟨h.1, hF⟩
theorem main_1_2 : Claimed_1_2 := comes_1 fun _ _ _ _ _ _ h hF => ⟨h.2.1, hF⟩
end Jvm.Pilot.@@N@@
namespace Jvm.Pilot.@@N@@
open Jvm Jvm.ClassFile Sem Op Lib Jvm.Free Jvm.Stand Jvm.Pilot.@@N@@.Jvm.D
/-! MADE BY PROGRAM (witnessworld.py) out of the Statement's table words and the real class files: 13 classes; the members and pool entries that the words name. The judged class is class 1, her method 1. -/
namespace start1
open Jvm.ClassFile
def u (s : String) : CpInfo := .utf8 (stringToUtf16 s)
/-- a pool by its gaps: so many unusable entries, then the entry; so many at the end -/
def gap : Nat → List CpInfo → List CpInfo
  | 0, r => r
  | n + 1, r => .unusable :: gap n r
def poolList (es : List (Nat × CpInfo)) (last : Nat) : List CpInfo := es.foldr (fun e r => gap e.1 (e.2 :: r)) (gap last [])
def pool (es : List (Nat × CpInfo)) (last : Nat) : Array CpInfo := ⟨poolList es last⟩
def fileOf (pool : Array CpInfo) (this : Nat) (attrs : Array Attribute := #[]) (ms : Array MethodInfo := #[]) (fl : Nat := 33) (sup : Nat := 0) (ifs : Array Nat := #[]) (fds : Array FieldInfo := #[]) : ClassFile where
  minorVersion := 0
  majorVersion := 65
  constantPool := pool
  accessFlags := fl
  thisClass := this
  superClass := sup
  interfaces := ifs
  fields := fds
  methods := ms
  attributes := attrs
def plain (name : String) (sup : Option ClassId) : Class where
  name := name
  kind := .ordinary
  loader := none
  accessFlags := 33
  super := sup
  interfaces := #[]
  cf := none
  fields := #[]
  methods := #[]
  instanceTypes := #[]
  staticTypes := #[]
  resolved := #[]
  callSites := []
  init := .initialized
  statics := none
  mirror := none

def pool0 : Array CpInfo := pool [(5, u "<init>"), (0, u "()V"), (1, .class_ 10), (1, u "java/lang/Object")] 113

def k0m0 : Method := { name := "<init>", desc := "()V", sig := { parameters := [], returnType := none }, accessFlags := 1, code := none }
/-- java/lang/Object -/
def k0 : Class := { plain "java/lang/Object" none with
  accessFlags := 33
  interfaces := #[]
  cf := some (fileOf pool0 8 #[] #[{ accessFlags := 1, nameIndex := 5, descriptorIndex := 6, attributes := #[] }] 33 0 #[] #[])
  fields := #[]
  methods := #[k0m0]
  instanceTypes := #[]
  staticTypes := #[]
  resolved := Array.replicate 124 none
  statics := none }

def pool1 : Array CpInfo := pool [(2, .class_ 4), (1, u "java/lang/Object"), (0, u "<init>"), (0, u "()V"), (0, .class_ 8), (0, u "com/example/deadpaths_to_precision/deadpathstoprecision/frontend/BinaryOperator"), (0, .fieldref 7 10), (0, .nameAndType 11 12), (0, u "MULTIPLY"), (0, u "Lcom/example/deadpaths_to_precision/deadpathstoprecision/frontend/BinaryOperator;"), (0, .fieldref 7 14), (0, .nameAndType 15 12), (0, u "DIVIDE"), (0, .fieldref 7 17), (0, .nameAndType 18 12), (0, u "REMAINDER"), (0, .fieldref 7 20), (0, .nameAndType 21 12), (0, u "ADD"), (0, .fieldref 7 23), (0, .nameAndType 24 12), (0, u "SUBTRACT"), (0, .fieldref 7 26), (0, .nameAndType 27 12), (0, u "SHIFT_LEFT"), (0, .fieldref 7 29), (0, .nameAndType 30 12), (0, u "SHIFT_RIGHT"), (0, .fieldref 7 32), (0, .nameAndType 33 12), (0, u "LESS"), (0, .fieldref 7 35), (0, .nameAndType 36 12), (0, u "GREATER"), (0, .fieldref 7 38), (0, .nameAndType 39 12), (0, u "LESS_EQUAL"), (0, .fieldref 7 41), (0, .nameAndType 42 12), (0, u "GREATER_EQUAL"), (0, .fieldref 7 44), (0, .nameAndType 45 12), (0, u "EQUAL"), (0, .fieldref 7 47), (0, .nameAndType 48 12), (0, u "NOT_EQUAL"), (0, .fieldref 7 50), (0, .nameAndType 51 12), (0, u "BITWISE_AND"), (0, .fieldref 7 53), (0, .nameAndType 54 12), (0, u "BITWISE_XOR"), (0, .fieldref 7 56), (0, .nameAndType 57 12), (0, u "BITWISE_OR"), (0, .fieldref 7 59), (0, .nameAndType 60 12), (0, u "LOGICAL_AND"), (0, .fieldref 7 62), (0, .nameAndType 63 12), (0, u "LOGICAL_OR"), (0, .integer 2147483647), (0, .methodref 7 66), (0, .nameAndType 67 68), (0, u "isUndefinedOnOverflow"), (0, u "()Z"), (0, .class_ 70), (0, u "com/example/deadpaths_to_precision/deadpathstoprecision/frontend/BinaryOperatorIsUndefinedOnOverflowPinLaw"), (2, u "law"), (0, u "(I)Z")] 5

def k1m0 : Method := { name := "<init>", desc := "()V", sig := { parameters := [], returnType := none }, accessFlags := 1, code := none }
def k1c1 : Code := { maxStack := 4, maxLocals := 5, code := code, exceptionTable := #[], attributes := #[] }
def k1m1 : Method := { name := "law", desc := "(I)Z", sig := { parameters := [.int], returnType := some .boolean }, accessFlags := 9, code := some k1c1 }
/-- com/example/deadpaths_to_precision/deadpathstoprecision/frontend/BinaryOperatorIsUndefinedOnOverflowPinLaw -/
def k1 : Class := { plain "com/example/deadpaths_to_precision/deadpathstoprecision/frontend/BinaryOperatorIsUndefinedOnOverflowPinLaw" (some 0) with
  accessFlags := 49
  interfaces := #[]
  cf := some (fileOf pool1 69 #[] #[{ accessFlags := 1, nameIndex := 5, descriptorIndex := 6, attributes := #[] }, { accessFlags := 9, nameIndex := 73, descriptorIndex := 74, attributes := #[] }] 49 2 #[] #[])
  fields := #[]
  methods := #[k1m0, k1m1]
  instanceTypes := #[]
  staticTypes := #[]
  resolved := Array.replicate 80 none
  statics := none }

def pool2 : Array CpInfo := pool [(1, .class_ 2), (0, u "java/lang/constant/Constable"), (0, .class_ 4), (0, u "java/lang/Object")] 6

/-- java/lang/constant/Constable -/
def k2 : Class := { plain "java/lang/constant/Constable" (some 0) with
  accessFlags := 1537
  interfaces := #[]
  cf := some (fileOf pool2 1 #[] #[] 1537 3 #[] #[])
  fields := #[]
  methods := #[]
  instanceTypes := #[]
  staticTypes := #[]
  resolved := Array.replicate 11 none
  statics := none }

def pool3 : Array CpInfo := pool [(1, .class_ 2), (0, u "java/lang/Comparable"), (0, .class_ 4), (0, u "java/lang/Object")] 7

/-- java/lang/Comparable -/
def k3 : Class := { plain "java/lang/Comparable" (some 0) with
  accessFlags := 1537
  interfaces := #[]
  cf := some (fileOf pool3 1 #[] #[] 1537 3 #[] #[])
  fields := #[]
  methods := #[]
  instanceTypes := #[]
  staticTypes := #[]
  resolved := Array.replicate 12 none
  statics := none }

def pool4 : Array CpInfo := pool [(1, .class_ 2), (0, u "java/io/Serializable"), (0, .class_ 4), (0, u "java/lang/Object")] 2

/-- java/io/Serializable -/
def k4 : Class := { plain "java/io/Serializable" (some 0) with
  accessFlags := 1537
  interfaces := #[]
  cf := some (fileOf pool4 1 #[] #[] 1537 3 #[] #[])
  fields := #[]
  methods := #[]
  instanceTypes := #[]
  staticTypes := #[]
  resolved := Array.replicate 7 none
  statics := none }

def pool5 : Array CpInfo := pool [(2, .class_ 4), (1, u "java/lang/Enum"), (0, u "name"), (0, u "Ljava/lang/String;"), (2, u "ordinal"), (0, u "I"), (1, .class_ 14), (1, u "java/lang/Object"), (4, u "hash"), (86, .class_ 108), (1, u "java/lang/Enum$EnumDesc"), (2, .class_ 112), (0, u "java/lang/constant/Constable"), (0, .class_ 114), (0, u "java/lang/Comparable"), (0, .class_ 116), (0, u "java/io/Serializable")] 87

/-- java/lang/Enum -/
def k5 : Class := { plain "java/lang/Enum" (some 0) with
  accessFlags := 1057
  interfaces := #[2, 3, 4]
  cf := some (fileOf pool5 2 #[.nestMembers #[106]] #[] 1057 12 #[111, 113, 115] #[{ accessFlags := 18, nameIndex := 5, descriptorIndex := 6, attributes := #[] }, { accessFlags := 18, nameIndex := 9, descriptorIndex := 10, attributes := #[] }, { accessFlags := 2, nameIndex := 19, descriptorIndex := 10, attributes := #[] }])
  fields := #[{ name := "name", type := (.object "java/lang/String"), accessFlags := 18, slot := 0, constantValue := 0 }, { name := "ordinal", type := .int, accessFlags := 18, slot := 1, constantValue := 0 }, { name := "hash", type := .int, accessFlags := 2, slot := 2, constantValue := 0 }]
  methods := #[]
  instanceTypes := #[(.object "java/lang/String"), .int, .int]
  staticTypes := #[]
  resolved := Array.replicate 204 none
  statics := none }

def pool6 : Array CpInfo := pool [(1, .class_ 2), (0, u "com/example/deadpaths_to_precision/deadpathstoprecision/frontend/BinaryOperator"), (0, .fieldref 1 4), (0, .nameAndType 5 6), (0, u "MULTIPLY"), (0, u "Lcom/example/deadpaths_to_precision/deadpathstoprecision/frontend/BinaryOperator;"), (0, .fieldref 1 8), (0, .nameAndType 9 6), (0, u "DIVIDE"), (0, .fieldref 1 11), (0, .nameAndType 12 6), (0, u "REMAINDER"), (0, .fieldref 1 14), (0, .nameAndType 15 6), (0, u "ADD"), (0, .fieldref 1 17), (0, .nameAndType 18 6), (0, u "SUBTRACT"), (2, u "SHIFT_LEFT"), (2, u "SHIFT_RIGHT"), (2, u "LESS"), (2, u "GREATER"), (2, u "LESS_EQUAL"), (2, u "GREATER_EQUAL"), (2, u "EQUAL"), (2, u "NOT_EQUAL"), (2, u "BITWISE_AND"), (2, u "BITWISE_XOR"), (2, u "BITWISE_OR"), (2, u "LOGICAL_AND"), (2, u "LOGICAL_OR"), (2, u "$VALUES"), (0, u "[Lcom/example/deadpaths_to_precision/deadpathstoprecision/frontend/BinaryOperator;"), (6, .class_ 70), (1, u "java/lang/Enum"), (8, u "symbol"), (0, u "Ljava/lang/String;"), (2, u "kind"), (0, u "Lcom/example/deadpaths_to_precision/deadpathstoprecision/frontend/BinaryOperator$Kind;"), (1, .class_ 88), (1, u "com/example/deadpaths_to_precision/deadpathstoprecision/frontend/BinaryOperator$Kind"), (26, u "()Z"), (2, u "isUndefinedOnOverflow")] 182

def k6c0 : Code := { maxStack := 2, maxLocals := 1, code := prog_38_method_7_code, exceptionTable := #[], attributes := #[] }
def k6m0 : Method := { name := "isUndefinedOnOverflow", desc := "()Z", sig := { parameters := [], returnType := some .boolean }, accessFlags := 1, code := some k6c0 }
/-- com/example/deadpaths_to_precision/deadpathstoprecision/frontend/BinaryOperator -/
def k6 : Class := { plain "com/example/deadpaths_to_precision/deadpathstoprecision/frontend/BinaryOperator" (some 5) with
  accessFlags := 16433
  interfaces := #[]
  cf := some (fileOf pool6 1 #[.nestMembers #[86]] #[{ accessFlags := 1, nameIndex := 118, descriptorIndex := 115, attributes := #[] }] 16433 68 #[] #[{ accessFlags := 16409, nameIndex := 5, descriptorIndex := 6, attributes := #[] }, { accessFlags := 16409, nameIndex := 9, descriptorIndex := 6, attributes := #[] }, { accessFlags := 16409, nameIndex := 12, descriptorIndex := 6, attributes := #[] }, { accessFlags := 16409, nameIndex := 15, descriptorIndex := 6, attributes := #[] }, { accessFlags := 16409, nameIndex := 18, descriptorIndex := 6, attributes := #[] }, { accessFlags := 16409, nameIndex := 21, descriptorIndex := 6, attributes := #[] }, { accessFlags := 16409, nameIndex := 24, descriptorIndex := 6, attributes := #[] }, { accessFlags := 16409, nameIndex := 27, descriptorIndex := 6, attributes := #[] }, { accessFlags := 16409, nameIndex := 30, descriptorIndex := 6, attributes := #[] }, { accessFlags := 16409, nameIndex := 33, descriptorIndex := 6, attributes := #[] }, { accessFlags := 16409, nameIndex := 36, descriptorIndex := 6, attributes := #[] }, { accessFlags := 16409, nameIndex := 39, descriptorIndex := 6, attributes := #[] }, { accessFlags := 16409, nameIndex := 42, descriptorIndex := 6, attributes := #[] }, { accessFlags := 16409, nameIndex := 45, descriptorIndex := 6, attributes := #[] }, { accessFlags := 16409, nameIndex := 48, descriptorIndex := 6, attributes := #[] }, { accessFlags := 16409, nameIndex := 51, descriptorIndex := 6, attributes := #[] }, { accessFlags := 16409, nameIndex := 54, descriptorIndex := 6, attributes := #[] }, { accessFlags := 16409, nameIndex := 57, descriptorIndex := 6, attributes := #[] }, { accessFlags := 18, nameIndex := 79, descriptorIndex := 80, attributes := #[] }, { accessFlags := 18, nameIndex := 83, descriptorIndex := 84, attributes := #[] }, { accessFlags := 4122, nameIndex := 60, descriptorIndex := 61, attributes := #[] }])
  fields := #[{ name := "MULTIPLY", type := (.object "com/example/deadpaths_to_precision/deadpathstoprecision/frontend/BinaryOperator"), accessFlags := 16409, slot := 0, constantValue := 0 }, { name := "DIVIDE", type := (.object "com/example/deadpaths_to_precision/deadpathstoprecision/frontend/BinaryOperator"), accessFlags := 16409, slot := 1, constantValue := 0 }, { name := "REMAINDER", type := (.object "com/example/deadpaths_to_precision/deadpathstoprecision/frontend/BinaryOperator"), accessFlags := 16409, slot := 2, constantValue := 0 }, { name := "ADD", type := (.object "com/example/deadpaths_to_precision/deadpathstoprecision/frontend/BinaryOperator"), accessFlags := 16409, slot := 3, constantValue := 0 }, { name := "SUBTRACT", type := (.object "com/example/deadpaths_to_precision/deadpathstoprecision/frontend/BinaryOperator"), accessFlags := 16409, slot := 4, constantValue := 0 }, { name := "SHIFT_LEFT", type := (.object "com/example/deadpaths_to_precision/deadpathstoprecision/frontend/BinaryOperator"), accessFlags := 16409, slot := 5, constantValue := 0 }, { name := "SHIFT_RIGHT", type := (.object "com/example/deadpaths_to_precision/deadpathstoprecision/frontend/BinaryOperator"), accessFlags := 16409, slot := 6, constantValue := 0 }, { name := "LESS", type := (.object "com/example/deadpaths_to_precision/deadpathstoprecision/frontend/BinaryOperator"), accessFlags := 16409, slot := 7, constantValue := 0 }, { name := "GREATER", type := (.object "com/example/deadpaths_to_precision/deadpathstoprecision/frontend/BinaryOperator"), accessFlags := 16409, slot := 8, constantValue := 0 }, { name := "LESS_EQUAL", type := (.object "com/example/deadpaths_to_precision/deadpathstoprecision/frontend/BinaryOperator"), accessFlags := 16409, slot := 9, constantValue := 0 }, { name := "GREATER_EQUAL", type := (.object "com/example/deadpaths_to_precision/deadpathstoprecision/frontend/BinaryOperator"), accessFlags := 16409, slot := 10, constantValue := 0 }, { name := "EQUAL", type := (.object "com/example/deadpaths_to_precision/deadpathstoprecision/frontend/BinaryOperator"), accessFlags := 16409, slot := 11, constantValue := 0 }, { name := "NOT_EQUAL", type := (.object "com/example/deadpaths_to_precision/deadpathstoprecision/frontend/BinaryOperator"), accessFlags := 16409, slot := 12, constantValue := 0 }, { name := "BITWISE_AND", type := (.object "com/example/deadpaths_to_precision/deadpathstoprecision/frontend/BinaryOperator"), accessFlags := 16409, slot := 13, constantValue := 0 }, { name := "BITWISE_XOR", type := (.object "com/example/deadpaths_to_precision/deadpathstoprecision/frontend/BinaryOperator"), accessFlags := 16409, slot := 14, constantValue := 0 }, { name := "BITWISE_OR", type := (.object "com/example/deadpaths_to_precision/deadpathstoprecision/frontend/BinaryOperator"), accessFlags := 16409, slot := 15, constantValue := 0 }, { name := "LOGICAL_AND", type := (.object "com/example/deadpaths_to_precision/deadpathstoprecision/frontend/BinaryOperator"), accessFlags := 16409, slot := 16, constantValue := 0 }, { name := "LOGICAL_OR", type := (.object "com/example/deadpaths_to_precision/deadpathstoprecision/frontend/BinaryOperator"), accessFlags := 16409, slot := 17, constantValue := 0 }, { name := "symbol", type := (.object "java/lang/String"), accessFlags := 18, slot := 3, constantValue := 0 }, { name := "kind", type := (.object "com/example/deadpaths_to_precision/deadpathstoprecision/frontend/BinaryOperator$Kind"), accessFlags := 18, slot := 4, constantValue := 0 }, { name := "$VALUES", type := (.array (.object "com/example/deadpaths_to_precision/deadpathstoprecision/frontend/BinaryOperator")), accessFlags := 4122, slot := 18, constantValue := 0 }]
  methods := #[k6m0]
  instanceTypes := #[(.object "java/lang/String"), .int, .int, (.object "java/lang/String"), (.object "com/example/deadpaths_to_precision/deadpathstoprecision/frontend/BinaryOperator$Kind")]
  staticTypes := #[(.object "com/example/deadpaths_to_precision/deadpathstoprecision/frontend/BinaryOperator"), (.object "com/example/deadpaths_to_precision/deadpathstoprecision/frontend/BinaryOperator"), (.object "com/example/deadpaths_to_precision/deadpathstoprecision/frontend/BinaryOperator"), (.object "com/example/deadpaths_to_precision/deadpathstoprecision/frontend/BinaryOperator"), (.object "com/example/deadpaths_to_precision/deadpathstoprecision/frontend/BinaryOperator"), (.object "com/example/deadpaths_to_precision/deadpathstoprecision/frontend/BinaryOperator"), (.object "com/example/deadpaths_to_precision/deadpathstoprecision/frontend/BinaryOperator"), (.object "com/example/deadpaths_to_precision/deadpathstoprecision/frontend/BinaryOperator"), (.object "com/example/deadpaths_to_precision/deadpathstoprecision/frontend/BinaryOperator"), (.object "com/example/deadpaths_to_precision/deadpathstoprecision/frontend/BinaryOperator"), (.object "com/example/deadpaths_to_precision/deadpathstoprecision/frontend/BinaryOperator"), (.object "com/example/deadpaths_to_precision/deadpathstoprecision/frontend/BinaryOperator"), (.object "com/example/deadpaths_to_precision/deadpathstoprecision/frontend/BinaryOperator"), (.object "com/example/deadpaths_to_precision/deadpathstoprecision/frontend/BinaryOperator"), (.object "com/example/deadpaths_to_precision/deadpathstoprecision/frontend/BinaryOperator"), (.object "com/example/deadpaths_to_precision/deadpathstoprecision/frontend/BinaryOperator"), (.object "com/example/deadpaths_to_precision/deadpathstoprecision/frontend/BinaryOperator"), (.object "com/example/deadpaths_to_precision/deadpathstoprecision/frontend/BinaryOperator"), (.array (.object "com/example/deadpaths_to_precision/deadpathstoprecision/frontend/BinaryOperator"))]
  resolved := Array.replicate 301 none
  statics := some 0 }

def pool7 : Array CpInfo := pool [(1, u "java/lang/Cloneable"), (0, .class_ 1), (0, u "java/lang/Object"), (0, .class_ 3)] 3

/-- java/lang/Cloneable -/
def k7 : Class := { plain "java/lang/Cloneable" (some 0) with
  accessFlags := 1537
  interfaces := #[]
  cf := some (fileOf pool7 2 #[] #[] 1537 4 #[] #[])
  fields := #[]
  methods := #[]
  instanceTypes := #[]
  staticTypes := #[]
  resolved := Array.replicate 8 none
  statics := none }

/-- the primitive byte -/
def k8 : Class := { plain "byte" none with kind := .primitive 'B', accessFlags := 0x411 }
/-- [B -/
def k9 : Class := { plain "[B" (some 0) with kind := .array 8 .byte, interfaces := #[7, 4], accessFlags := 1041 }

/-- the primitive int -/
def k10 : Class := { plain "int" none with kind := .primitive 'I', accessFlags := 0x411 }
/-- [I -/
def k11 : Class := { plain "[I" (some 0) with kind := .array 10 .int, interfaces := #[7, 4], accessFlags := 1041 }

/-- [Lcom/example/deadpaths_to_precision/deadpathstoprecision/frontend/BinaryOperator; -/
def k12 : Class := { plain "[Lcom/example/deadpaths_to_precision/deadpathstoprecision/frontend/BinaryOperator;" (some 0) with kind := .array 6 (.object "com/example/deadpaths_to_precision/deadpathstoprecision/frontend/BinaryOperator"), interfaces := #[7, 4], accessFlags := 1041 }

def heap : Heap := #[{ cls := 6, slots := #[.ref 1, .ref 2, .ref 3, .ref 4, .ref 5, .ref 6, .ref 7, .ref 8, .ref 9, .ref 10, .ref 11, .ref 12, .ref 13, .ref 14, .ref 15, .ref 16, .ref 17, .ref 18, .null], vm := .statics 6 },
  { cls := 6, slots := #[.null, .int 0, .int 0, .null, .null], vm := .none },
  { cls := 6, slots := #[.null, .int 1, .int 0, .null, .null], vm := .none },
  { cls := 6, slots := #[.null, .int 2, .int 0, .null, .null], vm := .none },
  { cls := 6, slots := #[.null, .int 3, .int 0, .null, .null], vm := .none },
  { cls := 6, slots := #[.null, .int 4, .int 0, .null, .null], vm := .none },
  { cls := 6, slots := #[.null, .int 5, .int 0, .null, .null], vm := .none },
  { cls := 6, slots := #[.null, .int 6, .int 0, .null, .null], vm := .none },
  { cls := 6, slots := #[.null, .int 7, .int 0, .null, .null], vm := .none },
  { cls := 6, slots := #[.null, .int 8, .int 0, .null, .null], vm := .none },
  { cls := 6, slots := #[.null, .int 9, .int 0, .null, .null], vm := .none },
  { cls := 6, slots := #[.null, .int 10, .int 0, .null, .null], vm := .none },
  { cls := 6, slots := #[.null, .int 11, .int 0, .null, .null], vm := .none },
  { cls := 6, slots := #[.null, .int 12, .int 0, .null, .null], vm := .none },
  { cls := 6, slots := #[.null, .int 13, .int 0, .null, .null], vm := .none },
  { cls := 6, slots := #[.null, .int 14, .int 0, .null, .null], vm := .none },
  { cls := 6, slots := #[.null, .int 15, .int 0, .null, .null], vm := .none },
  { cls := 6, slots := #[.null, .int 16, .int 0, .null, .null], vm := .none },
  { cls := 6, slots := #[.null, .int 17, .int 0, .null, .null], vm := .none }]
def classes : Array Class := #[k0, k1, k2, k3, k4, k5, k6, k7, k8, k9, k10, k11, k12]
def interned : List (Array UInt16 × Addr) := []
def slotsUsed : Nat := 109
def theMethod : MethodId := ⟨1, 1⟩
def args0 : Array Value := #[.int 5]
def aboutOver (below : List Frame) : State where
  vm := { classes := classes, interned := interned.toArray }
  heap := heap
  slotsUsed := slotsUsed
  threads := #[{ frames := .invoking theMethod args0 :: below }]
def below0 : List Frame := [.native { method := ⟨0, 0⟩, args := #[] }]
def about1 : State := aboutOver below0
def p0 : Program := .bare "" "" ""
def e0 : Env := launch0.env 0 0 0
theorem w_frames : about1.frames = Frame.invoking theMethod args0 :: below0 := rfl
set_option maxRecDepth 65536 in
theorem w_args : argsFit about1.vm theMethod args0 = true := by decide +kernel
set_option maxRecDepth 65536 in
theorem w_heap : heapFits about1 = true := by decide +kernel
set_option maxRecDepth 65536 in
theorem w_runnable : about1.curStatus? = some .runnable := by decide +kernel
set_option maxRecDepth 65536 in
theorem w_alone : about1.alone = true := by decide +kernel
set_option maxRecDepth 65536 in
theorem w_named : about1.methodNamed? x = some theMethod := by decide +kernel
set_option maxRecDepth 65536 in
theorem w_hears : about1.hears theMethod below0 = true := by decide +kernel
set_option maxRecDepth 65536 in
theorem w_ripe : about1.ripe theMethod args0 below0 = true := by decide +kernel
theorem w_running : about1.status = .running := rfl
set_option maxRecDepth 65536 in
theorem w_room : about1.hasRoom e0.platform room_1 = true :=
  launch0.hasRoom_least _ room_1 (by decide +kernel) (by decide +kernel) (by decide +kernel) (by decide +kernel) (by decide +kernel) (by decide +kernel)
theorem allAtoms_all (ts : List Jvm.Cond) (a : Array Jvm.Value) (st : Jvm.State) : (allAtoms ts).before a st = ts.all (fun c => c.before a st) := by
  induction ts with
  | nil => rfl
  | cons c t ih =>
    show (Jvm.Cond.and c (allAtoms t)).before a st = _
    rw [Jvm.Cond.before_and, ih, List.all_cons]
def words1 : List Jvm.Cond := Jvm.Cond.code x code maxLocals ret :: tables_1
/-- a 'code' word, met by the world's own term for the bytes: nothing is compared byte by byte -/
theorem code_word {y : MethodName} {bytes : ByteArray} {mx : Nat} {rt : Option FieldType} {a : Array Value} {s : State} {m : MethodId} {meth : Method} {c : Code} (h1 : s.methodNamed? y = some m) (h2 : s.vm.method? m = some meth) (h3 : meth.code = some c) (h4 : c.code = bytes)
    (h5 : (c.maxLocals == mx && c.exceptionTable.isEmpty && decide (c.maxStack ≤ mostOperands) && decide (meth.sig.returnType = rt) && !meth.locks && decide (parseMethodDescriptor y.desc = some meth.sig)) = true) : (Jvm.Cond.code y bytes mx rt).before a s = true := by
  simp only [Bool.and_eq_true, beq_iff_eq, Bool.not_eq_true', decide_eq_true_eq] at h5
  obtain ⟨⟨⟨⟨⟨g1, g2⟩, g3⟩, g4⟩, g5⟩, g6⟩ := h5
  simp [Cond.before, Cond.holds, Cond.value, h1, h2, h3, h4, g1, g2, g3, g4, g5, g6]
def isCode : Jvm.Cond → Bool
  | .code _ _ _ _ => true
  | _ => false
theorem all_split {L : List Jvm.Cond} {P : Jvm.Cond → Bool} (h1 : L.all (fun c => isCode c || P c) = true) (h2 : ∀ c ∈ L.filter isCode, P c = true) : L.all P = true := by
  refine List.all_eq_true.mpr fun c hc => ?_
  have h := List.all_eq_true.mp h1 c hc
  rcases Bool.eq_false_or_eq_true (isCode c) with hi | hi
  · exact h2 c (List.mem_filter.mpr ⟨hc, hi⟩)
  · simpa [hi] using h
set_option maxRecDepth 65536 in
theorem w_c0 : (Jvm.Cond.code x code maxLocals ret).before args0 about1 = true := code_word (m := ⟨1, 1⟩) (meth := k1m1) (c := k1c1) (by decide +kernel) rfl rfl rfl (by decide +kernel)
set_option maxRecDepth 65536 in
theorem w_c1 : (Jvm.Cond.code ({ cls := "com/example/deadpaths_to_precision/deadpathstoprecision/frontend/BinaryOperator", name := "isUndefinedOnOverflow", desc := "()Z" } : Jvm.MethodName) prog_38_method_7_code (1 : Nat) (Option.some Jvm.ClassFile.FieldType.boolean)).before args0 about1 = true := code_word (m := ⟨6, 0⟩) (meth := k6m0) (c := k6c0) (by decide +kernel) rfl rfl rfl (by decide +kernel)
def codes1 : List Jvm.Cond := [Jvm.Cond.code x code maxLocals ret, Jvm.Cond.code ({ cls := "com/example/deadpaths_to_precision/deadpathstoprecision/frontend/BinaryOperator", name := "isUndefinedOnOverflow", desc := "()Z" } : Jvm.MethodName) prog_38_method_7_code (1 : Nat) (Option.some Jvm.ClassFile.FieldType.boolean)]
set_option maxRecDepth 65536 in
theorem codes_eq : words1.filter isCode = codes1 := rfl
theorem w_codes : ∀ c ∈ words1.filter isCode, c.before args0 about1 = true := by
  rw [codes_eq]
  intro c hc
  simp only [codes1, List.mem_cons, List.not_mem_nil, or_false] at hc
  rcases hc with rfl | rfl
  · exact w_c0
  · exact w_c1
set_option maxRecDepth 65536 in
theorem w_t1 : (words1.take 24).all (fun c => isCode c || c.before args0 about1) = true := by decide +kernel
set_option maxRecDepth 65536 in
theorem w_t2 : ((words1.drop 24).take 24).all (fun c => isCode c || c.before args0 about1) = true := by decide +kernel
set_option maxRecDepth 65536 in
theorem w_t3 : ((words1.drop 24).drop 24).all (fun c => isCode c || c.before args0 about1) = true := by decide +kernel
theorem w_tables : (allAtoms (Jvm.Cond.code x code maxLocals ret :: tables_1)).before args0 about1 = true := by
  rw [allAtoms_all]
  show words1.all (fun c => c.before args0 about1) = true
  refine all_split ?_ w_codes
  rw [← List.take_append_drop 24 words1, List.all_append, w_t1, ← List.take_append_drop 24 (words1.drop 24), List.all_append, w_t2, w_t3]
  rfl
set_option maxRecDepth 65536 in
theorem w_case : (Jvm.Cond.and given_1 narrow_1).before args0 about1 = true := by decide +kernel
theorem w_applies : (headSpec (Jvm.Cond.code x code maxLocals ret :: tables_1) room_1).applies x e0.platform about1 = true :=
  (Spec.applies_iff w_frames).mpr ⟨w_running, w_runnable, w_alone, w_named, w_hears, w_ripe, w_room, w_tables⟩
theorem atStart : AtStart classFile x code maxLocals ret World_1 tables_1 room_1 Calls_1 rest_1 Pre_1 launch0 p0 e0 about1 theMethod args0 below0 :=
  ⟨lists_1, trivial, launch0.admits_env _ _ _, launch0.least_env, fairChoices_fair.cas, fairChoices_fair.clock, w_frames, w_args, w_heap, w_applies, trivial, trivial, w_case⟩
end start1
theorem witness_1 : WitnessClaimed_1 := ⟨start1.p0, start1.e0, start1.about1, start1.theMethod, start1.args0, start1.below0, start1.atStart⟩
end Jvm.Pilot.@@N@@
