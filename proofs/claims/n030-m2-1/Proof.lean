import JvmDerived
import JvmDerived.Pilot.@@N@@Statement
import JvmDerived.Pilot.@@N@@Code
set_option linter.unusedVariables false
set_option linter.unusedSimpArgs false
namespace Jvm.RoadKit
open Sem ClassFile Op Lib Jvm.Stand Jvm.Free Jvm.LawKit
section New
variable {p : Program} {l : Launch} {e : Env} {R : Room} {s : State} {m : MethodId} {args : Array Value} {below : List Frame} {meth : Method} {c : Code} {T : State} {locs : List Loc} {cells slots : Nat}
theorem retI (X : Stand p l e R s m args below meth c T locs cells slots) (hx : p.tables.exec = Jvm.exec) {pc : Nat} {Ls : Array Slot} {z : Int32} {rest : List Value} (hret : meth.sig.returnType = some .int) (hd : decode c.code pc = .ok (.ireturn, 1)) {fs : List Frame}
    (hl : ∀ (f : JFrame) (acts : List Action), f.method = m → f.locked = none → f.entered = [] → (doReturn e (T.setTop f) acts (some (.int z))).1 = T.setFrames fs) : Steps p.tables e below (T.setTop (mkF m pc Ls (.int z :: rest))) (T.setFrames fs) := by
  have hm' : T.vm.method? m = some meth := X.method'
  have hn : narrow .int (.int z) = .int z := rfl
  show Steps p.tables e below (T.setTop { method := m, pc := pc, locals := Ls, stack := _ :: rest, locked := none }) _
  jvm_step X.here [X.here.top, hx, hd, hm', hret, hn]
  first | (intro acts; rw [hl _ acts rfl rfl rfl]) | rw [hl _ _ rfl rfl rfl]
  exact Steps.refl _
end New
end Jvm.RoadKit
namespace Jvm.Pilot.@@N@@
open Jvm Jvm.ClassFile Sem Op Lib Jvm.Free Jvm.Stand Jvm.LawKit Jvm.RoadKit Bundle Jvm.Pilot.@@N@@.Jvm.D
/-- what a body that writes nothing leaves: the value, and the heap as it was -/
def QV (r : Option Value) (h0 : Heap) (n0 : Nat) (v : Option Value) (h : Heap) (L : List Loc) : Prop := v = r ∧ Fr n0 L ∧ h = h0
theorem own_fld_one {Z : State} {h : Heap} {a : Addr} {C n d : String} {v w : Value} (F : Fld Z h a C n d v) (G : Fld Z h a C n d w) : v = w := by
  obtain ⟨c1, f1, k1, i1, g1, a1, a2, -, -, -, -, a7⟩ := F
  obtain ⟨c2, f2, k2, i2, g2, b1, b2, -, -, -, -, b7⟩ := G
  cases a1.symm.trans b1
  cases a2.symm.trans b2
  exact Option.some.inj (a7.symm.trans b7)
theorem own_ne_fld {Z : State} {h : Heap} {a b : Addr} {C n d : String} {x y : Int32} (F : Fld Z h a C n d (.int x)) (G : Fld Z h b C n d (.int y)) (hn : x ≠ y) : ¬ a = b := fun e => by
  subst e
  exact hn (Value.int.inj (own_fld_one F G))
theorem own_fld {args : Array Value} {s : State} {t : Term} {C n d : String} {k : Int32} {a : Addr} (ht : t.eval args s none [] s = some (.ref a)) (h : (Jvm.Cond.eq (Jvm.Term.field t C n d) (Jvm.Term.int k)).value args s none s [] = some true) : Fld s s.heap a C n d (.int k) := by
  refine Fld.start ((fld_at (idx := []) (first := s) (o := none) ht).symm.trans ?_)
  obtain ⟨x, y, e1, e2, k1, k2⟩ := cmp_v (Or.inl h)
  cases e2
  obtain ⟨z, rfl⟩ := k2
  have e3 : (Jvm.Term.int k).eval args s none [] s = some (.int k) := rfl
  have q : z = k := by simpa [Jvm.Cond.value, e1, e3] using h
  rw [e1, q]
def Q0 (n0 : Nat) (v : Option Value) (h : Heap) (L : List Loc) : Prop := v = some (.int (1 : Int32)) ∧ Fr n0 L
theorem own_k (x : Int32) : (x &&& (7 : Int32)) = (0 : Int32) ∨ (x &&& (7 : Int32)) = (1 : Int32) ∨ (x &&& (7 : Int32)) = (2 : Int32) ∨ (x &&& (7 : Int32)) = (3 : Int32) ∨ (x &&& (7 : Int32)) = (4 : Int32) ∨ (x &&& (7 : Int32)) = (5 : Int32) ∨ (x &&& (7 : Int32)) = (6 : Int32) ∨ (x &&& (7 : Int32)) = (7 : Int32) := by
  have h2 := c_mask x 7 3 (by decide) (by decide)
  have h3 : (x &&& (7 : Int32)).toInt = 0 ∨ (x &&& (7 : Int32)).toInt = 1 ∨ (x &&& (7 : Int32)).toInt = 2 ∨ (x &&& (7 : Int32)).toInt = 3 ∨ (x &&& (7 : Int32)).toInt = 4 ∨ (x &&& (7 : Int32)).toInt = 5 ∨ (x &&& (7 : Int32)).toInt = 6 ∨ (x &&& (7 : Int32)).toInt = 7 := by omega
  rcases h3 with h | h | h | h | h | h | h | h
  · exact Or.inl (Int32.toInt_inj.mp (h.trans (by decide)))
  · exact Or.inr (Or.inl (Int32.toInt_inj.mp (h.trans (by decide))))
  · exact Or.inr (Or.inr (Or.inl (Int32.toInt_inj.mp (h.trans (by decide)))))
  · exact Or.inr (Or.inr (Or.inr (Or.inl (Int32.toInt_inj.mp (h.trans (by decide))))))
  · exact Or.inr (Or.inr (Or.inr (Or.inr (Or.inl (Int32.toInt_inj.mp (h.trans (by decide)))))))
  · exact Or.inr (Or.inr (Or.inr (Or.inr (Or.inr (Or.inl (Int32.toInt_inj.mp (h.trans (by decide))))))))
  · exact Or.inr (Or.inr (Or.inr (Or.inr (Or.inr (Or.inr (Or.inl (Int32.toInt_inj.mp (h.trans (by decide)))))))))
  · exact Or.inr (Or.inr (Or.inr (Or.inr (Or.inr (Or.inr (Or.inr (Int32.toInt_inj.mp (h.trans (by decide)))))))))
theorem d_prog_44_m_6_0 : decode prog_44_method_6_code 0 = .ok (.aload_n 0, 1) := by decide +kernel
theorem d_prog_44_m_6_1 : decode prog_44_method_6_code 1 = .ok (.getstatic 3, 3) := by decide +kernel
theorem d_prog_44_m_6_4 : decode prog_44_method_6_code 4 = .ok (.if_acmp .eq 21, 3) := by decide +kernel
theorem d_prog_44_m_6_7 : decode prog_44_method_6_code 7 = .ok (.aload_n 0, 1) := by decide +kernel
theorem d_prog_44_m_6_8 : decode prog_44_method_6_code 8 = .ok (.getstatic 22, 3) := by decide +kernel
theorem d_prog_44_m_6_11 : decode prog_44_method_6_code 11 = .ok (.if_acmp .eq 14, 3) := by decide +kernel
theorem d_prog_44_m_6_14 : decode prog_44_method_6_code 14 = .ok (.aload_n 0, 1) := by decide +kernel
theorem d_prog_44_m_6_15 : decode prog_44_method_6_code 15 = .ok (.getstatic 25, 3) := by decide +kernel
theorem d_prog_44_m_6_18 : decode prog_44_method_6_code 18 = .ok (.if_acmp .eq 7, 3) := by decide +kernel
theorem d_prog_44_m_6_21 : decode prog_44_method_6_code 21 = .ok (.iconst 1, 1) := by decide +kernel
theorem d_prog_44_m_6_22 : decode prog_44_method_6_code 22 = .ok (.goto 4, 3) := by decide +kernel
theorem d_prog_44_m_6_25 : decode prog_44_method_6_code 25 = .ok (.iconst 0, 1) := by decide +kernel
theorem d_prog_44_m_6_26 : decode prog_44_method_6_code 26 = .ok (.ireturn, 1) := by decide +kernel
theorem d_m_3_0 : decode method_3_code 0 = .ok (.iload_n 0, 1) := by decide +kernel
theorem d_m_3_1 : decode method_3_code 1 = .ok (.ifCond .ne 7, 3) := by decide +kernel
theorem d_m_3_4 : decode method_3_code 4 = .ok (.getstatic 35, 3) := by decide +kernel
theorem d_m_3_7 : decode method_3_code 7 = .ok (.areturn, 1) := by decide +kernel
theorem d_m_3_8 : decode method_3_code 8 = .ok (.iload_n 0, 1) := by decide +kernel
theorem d_m_3_9 : decode method_3_code 9 = .ok (.iconst 1, 1) := by decide +kernel
theorem d_m_3_10 : decode method_3_code 10 = .ok (.if_icmp .ne 7, 3) := by decide +kernel
theorem d_m_3_13 : decode method_3_code 13 = .ok (.getstatic 13, 3) := by decide +kernel
theorem d_m_3_16 : decode method_3_code 16 = .ok (.areturn, 1) := by decide +kernel
theorem d_m_3_17 : decode method_3_code 17 = .ok (.iload_n 0, 1) := by decide +kernel
theorem d_m_3_18 : decode method_3_code 18 = .ok (.iconst 2, 1) := by decide +kernel
theorem d_m_3_19 : decode method_3_code 19 = .ok (.if_icmp .ne 7, 3) := by decide +kernel
theorem d_m_3_22 : decode method_3_code 22 = .ok (.getstatic 19, 3) := by decide +kernel
theorem d_m_3_25 : decode method_3_code 25 = .ok (.areturn, 1) := by decide +kernel
theorem d_m_3_26 : decode method_3_code 26 = .ok (.iload_n 0, 1) := by decide +kernel
theorem d_m_3_27 : decode method_3_code 27 = .ok (.iconst 3, 1) := by decide +kernel
theorem d_m_3_28 : decode method_3_code 28 = .ok (.if_icmp .ne 7, 3) := by decide +kernel
theorem d_m_3_31 : decode method_3_code 31 = .ok (.getstatic 22, 3) := by decide +kernel
theorem d_m_3_34 : decode method_3_code 34 = .ok (.areturn, 1) := by decide +kernel
theorem d_m_3_35 : decode method_3_code 35 = .ok (.iload_n 0, 1) := by decide +kernel
theorem d_m_3_36 : decode method_3_code 36 = .ok (.iconst 4, 1) := by decide +kernel
theorem d_m_3_37 : decode method_3_code 37 = .ok (.if_icmp .ne 7, 3) := by decide +kernel
theorem d_m_3_40 : decode method_3_code 40 = .ok (.getstatic 25, 3) := by decide +kernel
theorem d_m_3_43 : decode method_3_code 43 = .ok (.areturn, 1) := by decide +kernel
theorem d_m_3_44 : decode method_3_code 44 = .ok (.iload_n 0, 1) := by decide +kernel
theorem d_m_3_45 : decode method_3_code 45 = .ok (.iconst 5, 1) := by decide +kernel
theorem d_m_3_46 : decode method_3_code 46 = .ok (.if_icmp .ne 7, 3) := by decide +kernel
theorem d_m_3_49 : decode method_3_code 49 = .ok (.getstatic 28, 3) := by decide +kernel
theorem d_m_3_52 : decode method_3_code 52 = .ok (.areturn, 1) := by decide +kernel
theorem d_m_3_53 : decode method_3_code 53 = .ok (.iload_n 0, 1) := by decide +kernel
theorem d_m_3_54 : decode method_3_code 54 = .ok (.bipush 6, 2) := by decide +kernel
theorem d_m_3_56 : decode method_3_code 56 = .ok (.if_icmp .ne 7, 3) := by decide +kernel
theorem d_m_3_59 : decode method_3_code 59 = .ok (.getstatic 38, 3) := by decide +kernel
theorem d_m_3_62 : decode method_3_code 62 = .ok (.areturn, 1) := by decide +kernel
theorem d_m_3_63 : decode method_3_code 63 = .ok (.getstatic 41, 3) := by decide +kernel
theorem d_m_3_66 : decode method_3_code 66 = .ok (.areturn, 1) := by decide +kernel
theorem pd_0 : parseMethodDescriptor "(I)Lcom/example/typebridge/typebridge/PrimitiveType;" = some ⟨[.int], some (.object "com/example/typebridge/typebridge/PrimitiveType")⟩ := by decide +kernel
theorem pd_1 : parseMethodDescriptor "()Z" = some ⟨[], some .boolean⟩ := by decide +kernel
theorem pn_0 : plainName "com/example/typebridge/typebridge/PrimitiveType" = true := by first | (simp [plainName, overriddenIn]; done) | decide +kernel
theorem pn_1 : plainName "com/example/typebridge/typebridge/PrimitiveTypeIsIntegralPinLaw" = true := by first | (simp [plainName, overriddenIn]; done) | decide +kernel
theorem ef_rm1 (m : MethodId) (x0 : Addr) : entryFrame m #[(.ref x0)] 1 = mkF m 0 #[.val (.ref x0)] [] := by first | (simp [entryFrame, mkF, argsToLocals, Value.category]; done) | rfl
set_option maxRecDepth 65536 in
set_option maxHeartbeats 40000000 in
theorem rm1 (l : Launch) (Z : State) (a0 : Array Value) (hw : ∀ d ∈ tables_1, d.before a0 Z = true) (ws : List Jvm.Cond) (a : Addr) (a_BOOLEAN : Addr) (a_FLOAT : Addr) (a_DOUBLE : Addr) (h0 : Heap) (n0 : Nat) (Z0 : n0 ≤ h0.size) (S_BOOLEAN : Sta Z h0 "com/example/typebridge/typebridge/PrimitiveType" "BOOLEAN" "Lcom/example/typebridge/typebridge/PrimitiveType;" (.ref a_BOOLEAN)) (S_FLOAT : Sta Z h0 "com/example/typebridge/typebridge/PrimitiveType" "FLOAT" "Lcom/example/typebridge/typebridge/PrimitiveType;" (.ref a_FLOAT)) (S_DOUBLE : Sta Z h0 "com/example/typebridge/typebridge/PrimitiveType" "DOUBLE" "Lcom/example/typebridge/typebridge/PrimitiveType;" (.ref a_DOUBLE)) :
    MetFree l (⟨"com/example/typebridge/typebridge/PrimitiveType", "isIntegral", "()Z"⟩ : MethodName) (head1 (Jvm.Cond.code (⟨"com/example/typebridge/typebridge/PrimitiveType", "isIntegral", "()Z"⟩ : MethodName) prog_44_method_6_code 1 (some .boolean) :: ws) ({ frames := 0, cells := 0, slots := 0, locals := 0 } : Room)) (fun aa_ UU_ => aa_ = #[(.ref a)] ∧ Z.Warmed39 UU_.vm ∧ UU_.heap = h0) (fun _ _ _ _ _ => True) (fun _ UU_ oo_ UE_ => ∃ vv_ LL_, oo_ = .returned vv_ ∧ QV (some (.int (if a = a_BOOLEAN ∨ a = a_FLOAT ∨ a = a_DOUBLE then 0 else 1))) h0 n0 vv_ UE_.heap LL_ ∧ FrameEnd UU_ oo_ UE_ LL_ ({ frames := 0, cells := 0, slots := 0, locals := 0 } : Room).cells ({ frames := 0, cells := 0, slots := 0, locals := 0 } : Room).slots) := by
  refine MetFree.of_bodySF (plainFor_of_name pn_0) hisR ?_
  intro p e s m args below meth c s₁ Bd hml0 hP hK
  obtain ⟨rfl, hZ, hh⟩ := hP
  have hx := Bd.exec
  have hby := Bd.bytes
  have hml : c.maxLocals = 1 := hml0
  have hown : s.vm.findClass "com/example/typebridge/typebridge/PrimitiveType" = some m.cls := findClass_of_methodNamed Bd.named
  have hnm := (name_of_methodNamed Bd.named Bd.method).1
  have X0 : Stand p l e ({ frames := 0, cells := 0, slots := 0, locals := 0 } : Room) s m #[(.ref a)] below meth c s₁ [] 0 0 := Stand.of_body Bd
  have e0 : s₁.heap = h0 := by rw [← hh, Bd.state]; rfl
  have N0 := Fr.nil n0
  have pre0 : ∀ tg, Steps p.tables e below (s₁.setTop (mkF m 0 #[.val (.ref a)] [])) tg → Steps p.tables e below (s₁.setTop (entryFrame m #[(.ref a)] 1)) tg := fun tg kq_ => castTop (ef_rm1 m a) kq_
  obtain ⟨T1, X1, e1, st1⟩ := getS2 X0 hx hZ hown (host := "") (Or.inl (hw _ (List.mem_of_getElem? (i := 22) rfl))) Via.refl e0 S_BOOLEAN (g := (mkF m 1 #[.val (.ref a)] [(.ref a)])) rfl (hb hby d_prog_44_m_6_1)
  have R2 : ∀ tg, Steps p.tables e below (T1.setTop (mkF m 4 #[.val (.ref a)] [(.ref a_BOOLEAN), (.ref a)])) tg → Steps p.tables e below (s₁.setTop (mkF m 0 #[.val (.ref a)] [])) tg := by
    intro tg kt
    refine XS.aloadN X0.here hx rfl (hb hby d_prog_44_m_6_0) rfl rfl ?_
    show Steps p.tables e below (s₁.setTop (mkF m 1 #[.val (.ref a)] [(.ref a)])) _
    refine st1 _ ?_
    show Steps p.tables e below (T1.setTop (mkF m 4 #[.val (.ref a)] [(.ref a_BOOLEAN), (.ref a)])) _
    exact kt
  by_cases hc4_3 : a = a_BOOLEAN
  · obtain ⟨fs, hr, hrun, hended, hW, hsame⟩ := X1.leave (v := some (.int (0 : Int32))) (fun h => by rw [Bd.returns] at h; cases h)
    refine ⟨_, _, pre0 _ (R2 _ ?_), hrun, hended, _, _, rfl, ?_, ⟨_, rfl⟩, hW, hsame.mono (by decide) (by decide)⟩
    · show Steps p.tables e below (T1.setTop (mkF m 4 #[.val (.ref a)] [(.ref a_BOOLEAN), (.ref a)])) _
      refine Jvm.RoadKit.acmp (g := (mkF m 4 #[.val (.ref a)] [(.ref a_BOOLEAN), (.ref a)])) X1 hx rfl rfl rfl (pc0 := 4) (pc' := 25) (same := true) rfl (hb hby d_prog_44_m_6_4) rfl (decide_eq_true (congrArg Value.ref hc4_3)) (by decide) (by decide) ?_
      show Steps p.tables e below (T1.setTop (mkF m 25 #[.val (.ref a)] [])) _
      refine XS.iconst X1.here hx rfl (hb hby d_prog_44_m_6_25) ?_
      show Steps p.tables e below (T1.setTop (mkF m 26 #[.val (.ref a)] [(.int (0 : Int32))])) _
      exact retN X1 hx (t := .boolean) Bd.returns (by simp) (hb hby d_prog_44_m_6_26) hr
    · show QV (some (.int (if a = a_BOOLEAN ∨ a = a_FLOAT ∨ a = a_DOUBLE then 0 else 1))) h0 n0 _ T1.heap _
      rw [e1]
      exact ⟨by simp [hc4_3], N0, rfl⟩
  · obtain ⟨T4, X4, e4, st4⟩ := getS2 X1 hx hZ hown (host := "") (Or.inl (hw _ (List.mem_of_getElem? (i := 23) rfl))) Via.refl e1 S_FLOAT (g := (mkF m 8 #[.val (.ref a)] [(.ref a)])) rfl (hb hby d_prog_44_m_6_8)
    have R5 : ∀ tg, Steps p.tables e below (T4.setTop (mkF m 11 #[.val (.ref a)] [(.ref a_FLOAT), (.ref a)])) tg → Steps p.tables e below (T1.setTop (mkF m 4 #[.val (.ref a)] [(.ref a_BOOLEAN), (.ref a)])) tg := by
      intro tg kt
      refine Jvm.RoadKit.acmp (g := (mkF m 4 #[.val (.ref a)] [(.ref a_BOOLEAN), (.ref a)])) X1 hx rfl rfl rfl (pc0 := 4) (pc' := 7) (same := false) rfl (hb hby d_prog_44_m_6_4) rfl (decide_eq_false fun q => hc4_3 (Value.ref.inj q)) (by decide) (by decide) ?_
      show Steps p.tables e below (T1.setTop (mkF m 7 #[.val (.ref a)] [])) _
      refine XS.aloadN X1.here hx rfl (hb hby d_prog_44_m_6_7) rfl rfl ?_
      show Steps p.tables e below (T1.setTop (mkF m 8 #[.val (.ref a)] [(.ref a)])) _
      refine st4 _ ?_
      show Steps p.tables e below (T4.setTop (mkF m 11 #[.val (.ref a)] [(.ref a_FLOAT), (.ref a)])) _
      exact kt
    by_cases hc11_6 : a = a_FLOAT
    · obtain ⟨fs, hr, hrun, hended, hW, hsame⟩ := X4.leave (v := some (.int (0 : Int32))) (fun h => by rw [Bd.returns] at h; cases h)
      refine ⟨_, _, pre0 _ (R2 _ (R5 _ ?_)), hrun, hended, _, _, rfl, ?_, ⟨_, rfl⟩, hW, hsame.mono (by decide) (by decide)⟩
      · show Steps p.tables e below (T4.setTop (mkF m 11 #[.val (.ref a)] [(.ref a_FLOAT), (.ref a)])) _
        refine Jvm.RoadKit.acmp (g := (mkF m 11 #[.val (.ref a)] [(.ref a_FLOAT), (.ref a)])) X4 hx rfl rfl rfl (pc0 := 11) (pc' := 25) (same := true) rfl (hb hby d_prog_44_m_6_11) rfl (decide_eq_true (congrArg Value.ref hc11_6)) (by decide) (by decide) ?_
        show Steps p.tables e below (T4.setTop (mkF m 25 #[.val (.ref a)] [])) _
        refine XS.iconst X4.here hx rfl (hb hby d_prog_44_m_6_25) ?_
        show Steps p.tables e below (T4.setTop (mkF m 26 #[.val (.ref a)] [(.int (0 : Int32))])) _
        exact retN X4 hx (t := .boolean) Bd.returns (by simp) (hb hby d_prog_44_m_6_26) hr
      · show QV (some (.int (if a = a_BOOLEAN ∨ a = a_FLOAT ∨ a = a_DOUBLE then 0 else 1))) h0 n0 _ T4.heap _
        rw [e4]
        exact ⟨by simp [hc4_3, hc11_6], N0, rfl⟩
    · obtain ⟨T7, X7, e7, st7⟩ := getS2 X4 hx hZ hown (host := "") (Or.inl (hw _ (List.mem_of_getElem? (i := 25) rfl))) Via.refl e4 S_DOUBLE (g := (mkF m 15 #[.val (.ref a)] [(.ref a)])) rfl (hb hby d_prog_44_m_6_15)
      have R8 : ∀ tg, Steps p.tables e below (T7.setTop (mkF m 18 #[.val (.ref a)] [(.ref a_DOUBLE), (.ref a)])) tg → Steps p.tables e below (T4.setTop (mkF m 11 #[.val (.ref a)] [(.ref a_FLOAT), (.ref a)])) tg := by
        intro tg kt
        refine Jvm.RoadKit.acmp (g := (mkF m 11 #[.val (.ref a)] [(.ref a_FLOAT), (.ref a)])) X4 hx rfl rfl rfl (pc0 := 11) (pc' := 14) (same := false) rfl (hb hby d_prog_44_m_6_11) rfl (decide_eq_false fun q => hc11_6 (Value.ref.inj q)) (by decide) (by decide) ?_
        show Steps p.tables e below (T4.setTop (mkF m 14 #[.val (.ref a)] [])) _
        refine XS.aloadN X4.here hx rfl (hb hby d_prog_44_m_6_14) rfl rfl ?_
        show Steps p.tables e below (T4.setTop (mkF m 15 #[.val (.ref a)] [(.ref a)])) _
        refine st7 _ ?_
        show Steps p.tables e below (T7.setTop (mkF m 18 #[.val (.ref a)] [(.ref a_DOUBLE), (.ref a)])) _
        exact kt
      by_cases hc18_9 : a = a_DOUBLE
      · obtain ⟨fs, hr, hrun, hended, hW, hsame⟩ := X7.leave (v := some (.int (0 : Int32))) (fun h => by rw [Bd.returns] at h; cases h)
        refine ⟨_, _, pre0 _ (R2 _ (R5 _ (R8 _ ?_))), hrun, hended, _, _, rfl, ?_, ⟨_, rfl⟩, hW, hsame.mono (by decide) (by decide)⟩
        · show Steps p.tables e below (T7.setTop (mkF m 18 #[.val (.ref a)] [(.ref a_DOUBLE), (.ref a)])) _
          refine Jvm.RoadKit.acmp (g := (mkF m 18 #[.val (.ref a)] [(.ref a_DOUBLE), (.ref a)])) X7 hx rfl rfl rfl (pc0 := 18) (pc' := 25) (same := true) rfl (hb hby d_prog_44_m_6_18) rfl (decide_eq_true (congrArg Value.ref hc18_9)) (by decide) (by decide) ?_
          show Steps p.tables e below (T7.setTop (mkF m 25 #[.val (.ref a)] [])) _
          refine XS.iconst X7.here hx rfl (hb hby d_prog_44_m_6_25) ?_
          show Steps p.tables e below (T7.setTop (mkF m 26 #[.val (.ref a)] [(.int (0 : Int32))])) _
          exact retN X7 hx (t := .boolean) Bd.returns (by simp) (hb hby d_prog_44_m_6_26) hr
        · show QV (some (.int (if a = a_BOOLEAN ∨ a = a_FLOAT ∨ a = a_DOUBLE then 0 else 1))) h0 n0 _ T7.heap _
          rw [e7]
          exact ⟨by simp [hc4_3, hc11_6, hc18_9], N0, rfl⟩
      · obtain ⟨fs, hr, hrun, hended, hW, hsame⟩ := X7.leave (v := some (.int (1 : Int32))) (fun h => by rw [Bd.returns] at h; cases h)
        refine ⟨_, _, pre0 _ (R2 _ (R5 _ (R8 _ ?_))), hrun, hended, _, _, rfl, ?_, ⟨_, rfl⟩, hW, hsame.mono (by decide) (by decide)⟩
        · show Steps p.tables e below (T7.setTop (mkF m 18 #[.val (.ref a)] [(.ref a_DOUBLE), (.ref a)])) _
          refine Jvm.RoadKit.acmp (g := (mkF m 18 #[.val (.ref a)] [(.ref a_DOUBLE), (.ref a)])) X7 hx rfl rfl rfl (pc0 := 18) (pc' := 21) (same := false) rfl (hb hby d_prog_44_m_6_18) rfl (decide_eq_false fun q => hc18_9 (Value.ref.inj q)) (by decide) (by decide) ?_
          show Steps p.tables e below (T7.setTop (mkF m 21 #[.val (.ref a)] [])) _
          refine XS.iconst X7.here hx rfl (hb hby d_prog_44_m_6_21) ?_
          show Steps p.tables e below (T7.setTop (mkF m 22 #[.val (.ref a)] [(.int (1 : Int32))])) _
          refine XS.goto X7.here hx rfl (pc0 := 22) (pc' := 26) rfl (hb hby d_prog_44_m_6_22) (by decide) (by decide) ?_
          show Steps p.tables e below (T7.setTop (mkF m 26 #[.val (.ref a)] [(.int (1 : Int32))])) _
          exact retN X7 hx (t := .boolean) Bd.returns (by simp) (hb hby d_prog_44_m_6_26) hr
        · show QV (some (.int (if a = a_BOOLEAN ∨ a = a_FLOAT ∨ a = a_DOUBLE then 0 else 1))) h0 n0 _ T7.heap _
          rw [e7]
          exact ⟨by simp [hc4_3, hc11_6, hc18_9], N0, rfl⟩
theorem ef_rmP (m : MethodId) (x0 : Int32) : entryFrame m #[(.int x0)] 1 = mkF m 0 #[.val (.int x0)] [] := by first | (simp [entryFrame, mkF, argsToLocals, Value.category]; done) | rfl
set_option maxRecDepth 65536 in
set_option maxHeartbeats 40000000 in
theorem rmP (l : Launch) (Z : State) (a0 : Array Value) (hw : ∀ d ∈ tables_1, d.before a0 Z = true) (ws : List Jvm.Cond) (k : Int32) (a_BOOLEAN : Addr) (a_BYTE : Addr) (a_SHORT : Addr) (a_CHAR : Addr) (a_INT : Addr) (a_LONG : Addr) (a_FLOAT : Addr) (a_DOUBLE : Addr) (h0 : Heap) (n0 : Nat) (Z0 : n0 ≤ h0.size) (S_BOOLEAN : Sta Z h0 "com/example/typebridge/typebridge/PrimitiveType" "BOOLEAN" "Lcom/example/typebridge/typebridge/PrimitiveType;" (.ref a_BOOLEAN)) (S_BYTE : Sta Z h0 "com/example/typebridge/typebridge/PrimitiveType" "BYTE" "Lcom/example/typebridge/typebridge/PrimitiveType;" (.ref a_BYTE)) (S_SHORT : Sta Z h0 "com/example/typebridge/typebridge/PrimitiveType" "SHORT" "Lcom/example/typebridge/typebridge/PrimitiveType;" (.ref a_SHORT)) (S_CHAR : Sta Z h0 "com/example/typebridge/typebridge/PrimitiveType" "CHAR" "Lcom/example/typebridge/typebridge/PrimitiveType;" (.ref a_CHAR)) (S_INT : Sta Z h0 "com/example/typebridge/typebridge/PrimitiveType" "INT" "Lcom/example/typebridge/typebridge/PrimitiveType;" (.ref a_INT)) (S_LONG : Sta Z h0 "com/example/typebridge/typebridge/PrimitiveType" "LONG" "Lcom/example/typebridge/typebridge/PrimitiveType;" (.ref a_LONG)) (S_FLOAT : Sta Z h0 "com/example/typebridge/typebridge/PrimitiveType" "FLOAT" "Lcom/example/typebridge/typebridge/PrimitiveType;" (.ref a_FLOAT)) (S_DOUBLE : Sta Z h0 "com/example/typebridge/typebridge/PrimitiveType" "DOUBLE" "Lcom/example/typebridge/typebridge/PrimitiveType;" (.ref a_DOUBLE)) :
    MetFree l (⟨"com/example/typebridge/typebridge/PrimitiveTypeIsIntegralPinLaw", "pick", "(I)Lcom/example/typebridge/typebridge/PrimitiveType;"⟩ : MethodName) (head1 (Jvm.Cond.code (⟨"com/example/typebridge/typebridge/PrimitiveTypeIsIntegralPinLaw", "pick", "(I)Lcom/example/typebridge/typebridge/PrimitiveType;"⟩ : MethodName) method_3_code 1 (some (.object "com/example/typebridge/typebridge/PrimitiveType")) :: ws) ({ frames := 0, cells := 0, slots := 0, locals := 0 } : Room)) (fun aa_ UU_ => aa_ = #[(.int k)] ∧ Z.Warmed39 UU_.vm ∧ UU_.heap = h0) (fun _ _ _ _ _ => True) (fun _ UU_ oo_ UE_ => ∃ vv_ LL_, oo_ = .returned vv_ ∧ QV (some (.ref (if k = 0 then a_BOOLEAN else if k = 1 then a_BYTE else if k = 2 then a_SHORT else if k = 3 then a_CHAR else if k = 4 then a_INT else if k = 5 then a_LONG else if k = 6 then a_FLOAT else a_DOUBLE))) h0 n0 vv_ UE_.heap LL_ ∧ FrameEnd UU_ oo_ UE_ LL_ ({ frames := 0, cells := 0, slots := 0, locals := 0 } : Room).cells ({ frames := 0, cells := 0, slots := 0, locals := 0 } : Room).slots) := by
  refine MetFree.of_bodySF (plainFor_of_name pn_1) hisR ?_
  intro p e s m args below meth c s₁ Bd hml0 hP hK
  obtain ⟨rfl, hZ, hh⟩ := hP
  have hx := Bd.exec
  have hby := Bd.bytes
  have hml : c.maxLocals = 1 := hml0
  have hown : s.vm.findClass "com/example/typebridge/typebridge/PrimitiveTypeIsIntegralPinLaw" = some m.cls := findClass_of_methodNamed Bd.named
  have hnm := (name_of_methodNamed Bd.named Bd.method).1
  have X0 : Stand p l e ({ frames := 0, cells := 0, slots := 0, locals := 0 } : Room) s m #[(.int k)] below meth c s₁ [] 0 0 := Stand.of_body Bd
  have e0 : s₁.heap = h0 := by rw [← hh, Bd.state]; rfl
  have N0 := Fr.nil n0
  have pre0 : ∀ tg, Steps p.tables e below (s₁.setTop (mkF m 0 #[.val (.int k)] [])) tg → Steps p.tables e below (s₁.setTop (entryFrame m #[(.int k)] 1)) tg := fun tg kq_ => castTop (ef_rmP m k) kq_
  have R1 : ∀ tg, Steps p.tables e below (s₁.setTop (mkF m 1 #[.val (.int k)] [(.int k)])) tg → Steps p.tables e below (s₁.setTop (mkF m 0 #[.val (.int k)] [])) tg := by
    intro tg kt
    refine XS.iloadN X0.here hx rfl (hb hby d_m_3_0) rfl ?_
    show Steps p.tables e below (s₁.setTop (mkF m 1 #[.val (.int k)] [(.int k)])) _
    exact kt
  by_cases hc1_2 : k = (0 : Int32)
  · obtain ⟨T3, X3, e3, st3⟩ := getS2 X0 hx hZ hown (host := "") (Or.inl (hw _ (List.mem_of_getElem? (i := 4) rfl))) Via.refl e0 S_BOOLEAN (g := (mkF m 4 #[.val (.int k)] [])) rfl (hb hby d_m_3_4)
    obtain ⟨fs, hr, hrun, hended, hW, hsame⟩ := X3.leave (v := some (.ref a_BOOLEAN)) (fun h => by rw [Bd.returns] at h; cases h)
    refine ⟨_, _, pre0 _ (R1 _ ?_), hrun, hended, _, _, rfl, ?_, ⟨_, rfl⟩, hW, hsame.mono (by decide) (by decide)⟩
    · show Steps p.tables e below (s₁.setTop (mkF m 1 #[.val (.int k)] [(.int k)])) _
      refine XS.ifNo X0.here hx rfl (hb hby d_m_3_1) rfl ((if0 _ _).trans (teq hc1_2).2) ?_
      show Steps p.tables e below (s₁.setTop (mkF m 4 #[.val (.int k)] [])) _
      refine st3 _ ?_
      show Steps p.tables e below (T3.setTop (mkF m 7 #[.val (.int k)] [(.ref a_BOOLEAN)])) _
      jvm_step X3.here [X3.here.top, hx, (hb hby d_m_3_7), X3.method', Bd.returns, Value.isRef, FieldType.isReference]
      first | (intro acts; rw [hr _ acts rfl rfl rfl]) | rw [hr _ _ rfl rfl rfl]
      exact Steps.refl _
    · show QV (some (.ref (if k = 0 then a_BOOLEAN else if k = 1 then a_BYTE else if k = 2 then a_SHORT else if k = 3 then a_CHAR else if k = 4 then a_INT else if k = 5 then a_LONG else if k = 6 then a_FLOAT else a_DOUBLE))) h0 n0 _ T3.heap _
      rw [e3]
      exact ⟨by simp [hc1_2], N0, rfl⟩
  · have R4 : ∀ tg, Steps p.tables e below (s₁.setTop (mkF m 10 #[.val (.int k)] [(.int (1 : Int32)), (.int k)])) tg → Steps p.tables e below (s₁.setTop (mkF m 1 #[.val (.int k)] [(.int k)])) tg := by
      intro tg kt
      refine XS.ifYes X0.here hx rfl (pc0 := 1) (pc' := 8) rfl (hb hby d_m_3_1) rfl ((if0 _ _).trans (feq hc1_2).2) (by decide) (by decide) ?_
      show Steps p.tables e below (s₁.setTop (mkF m 8 #[.val (.int k)] [])) _
      refine XS.iloadN X0.here hx rfl (hb hby d_m_3_8) rfl ?_
      show Steps p.tables e below (s₁.setTop (mkF m 9 #[.val (.int k)] [(.int k)])) _
      refine XS.iconst X0.here hx rfl (hb hby d_m_3_9) ?_
      show Steps p.tables e below (s₁.setTop (mkF m 10 #[.val (.int k)] [(.int (1 : Int32)), (.int k)])) _
      exact kt
    by_cases hc10_5 : k = (1 : Int32)
    · obtain ⟨T6, X6, e6, st6⟩ := getS2 X0 hx hZ hown (host := "") (Or.inl (hw _ (List.mem_of_getElem? (i := 7) rfl))) Via.refl e0 S_BYTE (g := (mkF m 13 #[.val (.int k)] [])) rfl (hb hby d_m_3_13)
      obtain ⟨fs, hr, hrun, hended, hW, hsame⟩ := X6.leave (v := some (.ref a_BYTE)) (fun h => by rw [Bd.returns] at h; cases h)
      refine ⟨_, _, pre0 _ (R1 _ (R4 _ ?_)), hrun, hended, _, _, rfl, ?_, ⟨_, rfl⟩, hW, hsame.mono (by decide) (by decide)⟩
      · show Steps p.tables e below (s₁.setTop (mkF m 10 #[.val (.int k)] [(.int (1 : Int32)), (.int k)])) _
        refine XS.icmpNo X0.here hx rfl (hb hby d_m_3_10) rfl (teq hc10_5).2 ?_
        show Steps p.tables e below (s₁.setTop (mkF m 13 #[.val (.int k)] [])) _
        refine st6 _ ?_
        show Steps p.tables e below (T6.setTop (mkF m 16 #[.val (.int k)] [(.ref a_BYTE)])) _
        jvm_step X6.here [X6.here.top, hx, (hb hby d_m_3_16), X6.method', Bd.returns, Value.isRef, FieldType.isReference]
        first | (intro acts; rw [hr _ acts rfl rfl rfl]) | rw [hr _ _ rfl rfl rfl]
        exact Steps.refl _
      · show QV (some (.ref (if k = 0 then a_BOOLEAN else if k = 1 then a_BYTE else if k = 2 then a_SHORT else if k = 3 then a_CHAR else if k = 4 then a_INT else if k = 5 then a_LONG else if k = 6 then a_FLOAT else a_DOUBLE))) h0 n0 _ T6.heap _
        rw [e6]
        exact ⟨by simp [hc1_2, hc10_5], N0, rfl⟩
    · have R7 : ∀ tg, Steps p.tables e below (s₁.setTop (mkF m 19 #[.val (.int k)] [(.int (2 : Int32)), (.int k)])) tg → Steps p.tables e below (s₁.setTop (mkF m 10 #[.val (.int k)] [(.int (1 : Int32)), (.int k)])) tg := by
        intro tg kt
        refine XS.icmpYes X0.here hx rfl (pc0 := 10) (pc' := 17) rfl (hb hby d_m_3_10) rfl (feq hc10_5).2 (by decide) (by decide) ?_
        show Steps p.tables e below (s₁.setTop (mkF m 17 #[.val (.int k)] [])) _
        refine XS.iloadN X0.here hx rfl (hb hby d_m_3_17) rfl ?_
        show Steps p.tables e below (s₁.setTop (mkF m 18 #[.val (.int k)] [(.int k)])) _
        refine XS.iconst X0.here hx rfl (hb hby d_m_3_18) ?_
        show Steps p.tables e below (s₁.setTop (mkF m 19 #[.val (.int k)] [(.int (2 : Int32)), (.int k)])) _
        exact kt
      by_cases hc19_8 : k = (2 : Int32)
      · obtain ⟨T9, X9, e9, st9⟩ := getS2 X0 hx hZ hown (host := "") (Or.inl (hw _ (List.mem_of_getElem? (i := 9) rfl))) Via.refl e0 S_SHORT (g := (mkF m 22 #[.val (.int k)] [])) rfl (hb hby d_m_3_22)
        obtain ⟨fs, hr, hrun, hended, hW, hsame⟩ := X9.leave (v := some (.ref a_SHORT)) (fun h => by rw [Bd.returns] at h; cases h)
        refine ⟨_, _, pre0 _ (R1 _ (R4 _ (R7 _ ?_))), hrun, hended, _, _, rfl, ?_, ⟨_, rfl⟩, hW, hsame.mono (by decide) (by decide)⟩
        · show Steps p.tables e below (s₁.setTop (mkF m 19 #[.val (.int k)] [(.int (2 : Int32)), (.int k)])) _
          refine XS.icmpNo X0.here hx rfl (hb hby d_m_3_19) rfl (teq hc19_8).2 ?_
          show Steps p.tables e below (s₁.setTop (mkF m 22 #[.val (.int k)] [])) _
          refine st9 _ ?_
          show Steps p.tables e below (T9.setTop (mkF m 25 #[.val (.int k)] [(.ref a_SHORT)])) _
          jvm_step X9.here [X9.here.top, hx, (hb hby d_m_3_25), X9.method', Bd.returns, Value.isRef, FieldType.isReference]
          first | (intro acts; rw [hr _ acts rfl rfl rfl]) | rw [hr _ _ rfl rfl rfl]
          exact Steps.refl _
        · show QV (some (.ref (if k = 0 then a_BOOLEAN else if k = 1 then a_BYTE else if k = 2 then a_SHORT else if k = 3 then a_CHAR else if k = 4 then a_INT else if k = 5 then a_LONG else if k = 6 then a_FLOAT else a_DOUBLE))) h0 n0 _ T9.heap _
          rw [e9]
          exact ⟨by simp [hc1_2, hc10_5, hc19_8], N0, rfl⟩
      · have R10 : ∀ tg, Steps p.tables e below (s₁.setTop (mkF m 28 #[.val (.int k)] [(.int (3 : Int32)), (.int k)])) tg → Steps p.tables e below (s₁.setTop (mkF m 19 #[.val (.int k)] [(.int (2 : Int32)), (.int k)])) tg := by
          intro tg kt
          refine XS.icmpYes X0.here hx rfl (pc0 := 19) (pc' := 26) rfl (hb hby d_m_3_19) rfl (feq hc19_8).2 (by decide) (by decide) ?_
          show Steps p.tables e below (s₁.setTop (mkF m 26 #[.val (.int k)] [])) _
          refine XS.iloadN X0.here hx rfl (hb hby d_m_3_26) rfl ?_
          show Steps p.tables e below (s₁.setTop (mkF m 27 #[.val (.int k)] [(.int k)])) _
          refine XS.iconst X0.here hx rfl (hb hby d_m_3_27) ?_
          show Steps p.tables e below (s₁.setTop (mkF m 28 #[.val (.int k)] [(.int (3 : Int32)), (.int k)])) _
          exact kt
        by_cases hc28_11 : k = (3 : Int32)
        · obtain ⟨T12, X12, e12, st12⟩ := getS2 X0 hx hZ hown (host := "") (Or.inl (hw _ (List.mem_of_getElem? (i := 11) rfl))) Via.refl e0 S_CHAR (g := (mkF m 31 #[.val (.int k)] [])) rfl (hb hby d_m_3_31)
          obtain ⟨fs, hr, hrun, hended, hW, hsame⟩ := X12.leave (v := some (.ref a_CHAR)) (fun h => by rw [Bd.returns] at h; cases h)
          refine ⟨_, _, pre0 _ (R1 _ (R4 _ (R7 _ (R10 _ ?_)))), hrun, hended, _, _, rfl, ?_, ⟨_, rfl⟩, hW, hsame.mono (by decide) (by decide)⟩
          · show Steps p.tables e below (s₁.setTop (mkF m 28 #[.val (.int k)] [(.int (3 : Int32)), (.int k)])) _
            refine XS.icmpNo X0.here hx rfl (hb hby d_m_3_28) rfl (teq hc28_11).2 ?_
            show Steps p.tables e below (s₁.setTop (mkF m 31 #[.val (.int k)] [])) _
            refine st12 _ ?_
            show Steps p.tables e below (T12.setTop (mkF m 34 #[.val (.int k)] [(.ref a_CHAR)])) _
            jvm_step X12.here [X12.here.top, hx, (hb hby d_m_3_34), X12.method', Bd.returns, Value.isRef, FieldType.isReference]
            first | (intro acts; rw [hr _ acts rfl rfl rfl]) | rw [hr _ _ rfl rfl rfl]
            exact Steps.refl _
          · show QV (some (.ref (if k = 0 then a_BOOLEAN else if k = 1 then a_BYTE else if k = 2 then a_SHORT else if k = 3 then a_CHAR else if k = 4 then a_INT else if k = 5 then a_LONG else if k = 6 then a_FLOAT else a_DOUBLE))) h0 n0 _ T12.heap _
            rw [e12]
            exact ⟨by simp [hc1_2, hc10_5, hc19_8, hc28_11], N0, rfl⟩
        · have R13 : ∀ tg, Steps p.tables e below (s₁.setTop (mkF m 37 #[.val (.int k)] [(.int (4 : Int32)), (.int k)])) tg → Steps p.tables e below (s₁.setTop (mkF m 28 #[.val (.int k)] [(.int (3 : Int32)), (.int k)])) tg := by
            intro tg kt
            refine XS.icmpYes X0.here hx rfl (pc0 := 28) (pc' := 35) rfl (hb hby d_m_3_28) rfl (feq hc28_11).2 (by decide) (by decide) ?_
            show Steps p.tables e below (s₁.setTop (mkF m 35 #[.val (.int k)] [])) _
            refine XS.iloadN X0.here hx rfl (hb hby d_m_3_35) rfl ?_
            show Steps p.tables e below (s₁.setTop (mkF m 36 #[.val (.int k)] [(.int k)])) _
            refine XS.iconst X0.here hx rfl (hb hby d_m_3_36) ?_
            show Steps p.tables e below (s₁.setTop (mkF m 37 #[.val (.int k)] [(.int (4 : Int32)), (.int k)])) _
            exact kt
          by_cases hc37_14 : k = (4 : Int32)
          · obtain ⟨T15, X15, e15, st15⟩ := getS2 X0 hx hZ hown (host := "") (Or.inl (hw _ (List.mem_of_getElem? (i := 13) rfl))) Via.refl e0 S_INT (g := (mkF m 40 #[.val (.int k)] [])) rfl (hb hby d_m_3_40)
            obtain ⟨fs, hr, hrun, hended, hW, hsame⟩ := X15.leave (v := some (.ref a_INT)) (fun h => by rw [Bd.returns] at h; cases h)
            refine ⟨_, _, pre0 _ (R1 _ (R4 _ (R7 _ (R10 _ (R13 _ ?_))))), hrun, hended, _, _, rfl, ?_, ⟨_, rfl⟩, hW, hsame.mono (by decide) (by decide)⟩
            · show Steps p.tables e below (s₁.setTop (mkF m 37 #[.val (.int k)] [(.int (4 : Int32)), (.int k)])) _
              refine XS.icmpNo X0.here hx rfl (hb hby d_m_3_37) rfl (teq hc37_14).2 ?_
              show Steps p.tables e below (s₁.setTop (mkF m 40 #[.val (.int k)] [])) _
              refine st15 _ ?_
              show Steps p.tables e below (T15.setTop (mkF m 43 #[.val (.int k)] [(.ref a_INT)])) _
              jvm_step X15.here [X15.here.top, hx, (hb hby d_m_3_43), X15.method', Bd.returns, Value.isRef, FieldType.isReference]
              first | (intro acts; rw [hr _ acts rfl rfl rfl]) | rw [hr _ _ rfl rfl rfl]
              exact Steps.refl _
            · show QV (some (.ref (if k = 0 then a_BOOLEAN else if k = 1 then a_BYTE else if k = 2 then a_SHORT else if k = 3 then a_CHAR else if k = 4 then a_INT else if k = 5 then a_LONG else if k = 6 then a_FLOAT else a_DOUBLE))) h0 n0 _ T15.heap _
              rw [e15]
              exact ⟨by simp [hc1_2, hc10_5, hc19_8, hc28_11, hc37_14], N0, rfl⟩
          · have R16 : ∀ tg, Steps p.tables e below (s₁.setTop (mkF m 46 #[.val (.int k)] [(.int (5 : Int32)), (.int k)])) tg → Steps p.tables e below (s₁.setTop (mkF m 37 #[.val (.int k)] [(.int (4 : Int32)), (.int k)])) tg := by
              intro tg kt
              refine XS.icmpYes X0.here hx rfl (pc0 := 37) (pc' := 44) rfl (hb hby d_m_3_37) rfl (feq hc37_14).2 (by decide) (by decide) ?_
              show Steps p.tables e below (s₁.setTop (mkF m 44 #[.val (.int k)] [])) _
              refine XS.iloadN X0.here hx rfl (hb hby d_m_3_44) rfl ?_
              show Steps p.tables e below (s₁.setTop (mkF m 45 #[.val (.int k)] [(.int k)])) _
              refine XS.iconst X0.here hx rfl (hb hby d_m_3_45) ?_
              show Steps p.tables e below (s₁.setTop (mkF m 46 #[.val (.int k)] [(.int (5 : Int32)), (.int k)])) _
              exact kt
            by_cases hc46_17 : k = (5 : Int32)
            · obtain ⟨T18, X18, e18, st18⟩ := getS2 X0 hx hZ hown (host := "") (Or.inl (hw _ (List.mem_of_getElem? (i := 15) rfl))) Via.refl e0 S_LONG (g := (mkF m 49 #[.val (.int k)] [])) rfl (hb hby d_m_3_49)
              obtain ⟨fs, hr, hrun, hended, hW, hsame⟩ := X18.leave (v := some (.ref a_LONG)) (fun h => by rw [Bd.returns] at h; cases h)
              refine ⟨_, _, pre0 _ (R1 _ (R4 _ (R7 _ (R10 _ (R13 _ (R16 _ ?_)))))), hrun, hended, _, _, rfl, ?_, ⟨_, rfl⟩, hW, hsame.mono (by decide) (by decide)⟩
              · show Steps p.tables e below (s₁.setTop (mkF m 46 #[.val (.int k)] [(.int (5 : Int32)), (.int k)])) _
                refine XS.icmpNo X0.here hx rfl (hb hby d_m_3_46) rfl (teq hc46_17).2 ?_
                show Steps p.tables e below (s₁.setTop (mkF m 49 #[.val (.int k)] [])) _
                refine st18 _ ?_
                show Steps p.tables e below (T18.setTop (mkF m 52 #[.val (.int k)] [(.ref a_LONG)])) _
                jvm_step X18.here [X18.here.top, hx, (hb hby d_m_3_52), X18.method', Bd.returns, Value.isRef, FieldType.isReference]
                first | (intro acts; rw [hr _ acts rfl rfl rfl]) | rw [hr _ _ rfl rfl rfl]
                exact Steps.refl _
              · show QV (some (.ref (if k = 0 then a_BOOLEAN else if k = 1 then a_BYTE else if k = 2 then a_SHORT else if k = 3 then a_CHAR else if k = 4 then a_INT else if k = 5 then a_LONG else if k = 6 then a_FLOAT else a_DOUBLE))) h0 n0 _ T18.heap _
                rw [e18]
                exact ⟨by simp [hc1_2, hc10_5, hc19_8, hc28_11, hc37_14, hc46_17], N0, rfl⟩
            · have R19 : ∀ tg, Steps p.tables e below (s₁.setTop (mkF m 56 #[.val (.int k)] [(.int (6 : Int32)), (.int k)])) tg → Steps p.tables e below (s₁.setTop (mkF m 46 #[.val (.int k)] [(.int (5 : Int32)), (.int k)])) tg := by
                intro tg kt
                refine XS.icmpYes X0.here hx rfl (pc0 := 46) (pc' := 53) rfl (hb hby d_m_3_46) rfl (feq hc46_17).2 (by decide) (by decide) ?_
                show Steps p.tables e below (s₁.setTop (mkF m 53 #[.val (.int k)] [])) _
                refine XS.iloadN X0.here hx rfl (hb hby d_m_3_53) rfl ?_
                show Steps p.tables e below (s₁.setTop (mkF m 54 #[.val (.int k)] [(.int k)])) _
                refine XS.bipush X0.here hx rfl (hb hby d_m_3_54) ?_
                show Steps p.tables e below (s₁.setTop (mkF m 56 #[.val (.int k)] [(.int (6 : Int32)), (.int k)])) _
                exact kt
              by_cases hc56_20 : k = (6 : Int32)
              · obtain ⟨T21, X21, e21, st21⟩ := getS2 X0 hx hZ hown (host := "") (Or.inl (hw _ (List.mem_of_getElem? (i := 27) rfl))) Via.refl e0 S_FLOAT (g := (mkF m 59 #[.val (.int k)] [])) rfl (hb hby d_m_3_59)
                obtain ⟨fs, hr, hrun, hended, hW, hsame⟩ := X21.leave (v := some (.ref a_FLOAT)) (fun h => by rw [Bd.returns] at h; cases h)
                refine ⟨_, _, pre0 _ (R1 _ (R4 _ (R7 _ (R10 _ (R13 _ (R16 _ (R19 _ ?_))))))), hrun, hended, _, _, rfl, ?_, ⟨_, rfl⟩, hW, hsame.mono (by decide) (by decide)⟩
                · show Steps p.tables e below (s₁.setTop (mkF m 56 #[.val (.int k)] [(.int (6 : Int32)), (.int k)])) _
                  refine XS.icmpNo X0.here hx rfl (hb hby d_m_3_56) rfl (teq hc56_20).2 ?_
                  show Steps p.tables e below (s₁.setTop (mkF m 59 #[.val (.int k)] [])) _
                  refine st21 _ ?_
                  show Steps p.tables e below (T21.setTop (mkF m 62 #[.val (.int k)] [(.ref a_FLOAT)])) _
                  jvm_step X21.here [X21.here.top, hx, (hb hby d_m_3_62), X21.method', Bd.returns, Value.isRef, FieldType.isReference]
                  first | (intro acts; rw [hr _ acts rfl rfl rfl]) | rw [hr _ _ rfl rfl rfl]
                  exact Steps.refl _
                · show QV (some (.ref (if k = 0 then a_BOOLEAN else if k = 1 then a_BYTE else if k = 2 then a_SHORT else if k = 3 then a_CHAR else if k = 4 then a_INT else if k = 5 then a_LONG else if k = 6 then a_FLOAT else a_DOUBLE))) h0 n0 _ T21.heap _
                  rw [e21]
                  exact ⟨by simp [hc1_2, hc10_5, hc19_8, hc28_11, hc37_14, hc46_17, hc56_20], N0, rfl⟩
              · obtain ⟨T22, X22, e22, st22⟩ := getS2 X0 hx hZ hown (host := "") (Or.inl (hw _ (List.mem_of_getElem? (i := 28) rfl))) Via.refl e0 S_DOUBLE (g := (mkF m 63 #[.val (.int k)] [])) rfl (hb hby d_m_3_63)
                obtain ⟨fs, hr, hrun, hended, hW, hsame⟩ := X22.leave (v := some (.ref a_DOUBLE)) (fun h => by rw [Bd.returns] at h; cases h)
                refine ⟨_, _, pre0 _ (R1 _ (R4 _ (R7 _ (R10 _ (R13 _ (R16 _ (R19 _ ?_))))))), hrun, hended, _, _, rfl, ?_, ⟨_, rfl⟩, hW, hsame.mono (by decide) (by decide)⟩
                · show Steps p.tables e below (s₁.setTop (mkF m 56 #[.val (.int k)] [(.int (6 : Int32)), (.int k)])) _
                  refine XS.icmpYes X0.here hx rfl (pc0 := 56) (pc' := 63) rfl (hb hby d_m_3_56) rfl (feq hc56_20).2 (by decide) (by decide) ?_
                  show Steps p.tables e below (s₁.setTop (mkF m 63 #[.val (.int k)] [])) _
                  refine st22 _ ?_
                  show Steps p.tables e below (T22.setTop (mkF m 66 #[.val (.int k)] [(.ref a_DOUBLE)])) _
                  jvm_step X22.here [X22.here.top, hx, (hb hby d_m_3_66), X22.method', Bd.returns, Value.isRef, FieldType.isReference]
                  first | (intro acts; rw [hr _ acts rfl rfl rfl]) | rw [hr _ _ rfl rfl rfl]
                  exact Steps.refl _
                · show QV (some (.ref (if k = 0 then a_BOOLEAN else if k = 1 then a_BYTE else if k = 2 then a_SHORT else if k = 3 then a_CHAR else if k = 4 then a_INT else if k = 5 then a_LONG else if k = 6 then a_FLOAT else a_DOUBLE))) h0 n0 _ T22.heap _
                  rw [e22]
                  exact ⟨by simp [hc1_2, hc10_5, hc19_8, hc28_11, hc37_14, hc46_17, hc56_20], N0, rfl⟩
theorem ef_rm0 (m : MethodId) (x0 : Int32) : entryFrame m #[(.int x0)] maxLocals = mkF m 0 #[.val (.int x0), .unset, .unset, .unset] [] := by first | (simp [entryFrame, mkF, argsToLocals, Value.category, maxLocals]; done) | rfl
set_option maxRecDepth 65536 in
set_option maxHeartbeats 40000000 in
theorem rm0 (l : Launch) (Z : State) (a0 : Array Value) (hw : ∀ d ∈ tables_1, d.before a0 Z = true) (ws : List Jvm.Cond) (p1 : Int32) (a_BOOLEAN : Addr) (a_BYTE : Addr) (a_SHORT : Addr) (a_CHAR : Addr) (a_INT : Addr) (a_LONG : Addr) (a_FLOAT : Addr) (a_DOUBLE : Addr) (h0 : Heap) (n0 : Nat) (Z0 : n0 ≤ h0.size) (S_BOOLEAN : Sta Z h0 "com/example/typebridge/typebridge/PrimitiveType" "BOOLEAN" "Lcom/example/typebridge/typebridge/PrimitiveType;" (.ref a_BOOLEAN)) (E_BOOLEAN : Exa Z h0 a_BOOLEAN "com/example/typebridge/typebridge/PrimitiveType") (F_BOOLEAN_ordinal : Fld Z h0 a_BOOLEAN "java/lang/Enum" "ordinal" "I" (.int (0 : Int32))) (S_BYTE : Sta Z h0 "com/example/typebridge/typebridge/PrimitiveType" "BYTE" "Lcom/example/typebridge/typebridge/PrimitiveType;" (.ref a_BYTE)) (E_BYTE : Exa Z h0 a_BYTE "com/example/typebridge/typebridge/PrimitiveType") (F_BYTE_ordinal : Fld Z h0 a_BYTE "java/lang/Enum" "ordinal" "I" (.int (1 : Int32))) (S_SHORT : Sta Z h0 "com/example/typebridge/typebridge/PrimitiveType" "SHORT" "Lcom/example/typebridge/typebridge/PrimitiveType;" (.ref a_SHORT)) (E_SHORT : Exa Z h0 a_SHORT "com/example/typebridge/typebridge/PrimitiveType") (F_SHORT_ordinal : Fld Z h0 a_SHORT "java/lang/Enum" "ordinal" "I" (.int (2 : Int32))) (S_CHAR : Sta Z h0 "com/example/typebridge/typebridge/PrimitiveType" "CHAR" "Lcom/example/typebridge/typebridge/PrimitiveType;" (.ref a_CHAR)) (E_CHAR : Exa Z h0 a_CHAR "com/example/typebridge/typebridge/PrimitiveType") (F_CHAR_ordinal : Fld Z h0 a_CHAR "java/lang/Enum" "ordinal" "I" (.int (3 : Int32))) (S_INT : Sta Z h0 "com/example/typebridge/typebridge/PrimitiveType" "INT" "Lcom/example/typebridge/typebridge/PrimitiveType;" (.ref a_INT)) (E_INT : Exa Z h0 a_INT "com/example/typebridge/typebridge/PrimitiveType") (F_INT_ordinal : Fld Z h0 a_INT "java/lang/Enum" "ordinal" "I" (.int (4 : Int32))) (S_LONG : Sta Z h0 "com/example/typebridge/typebridge/PrimitiveType" "LONG" "Lcom/example/typebridge/typebridge/PrimitiveType;" (.ref a_LONG)) (E_LONG : Exa Z h0 a_LONG "com/example/typebridge/typebridge/PrimitiveType") (F_LONG_ordinal : Fld Z h0 a_LONG "java/lang/Enum" "ordinal" "I" (.int (5 : Int32))) (S_FLOAT : Sta Z h0 "com/example/typebridge/typebridge/PrimitiveType" "FLOAT" "Lcom/example/typebridge/typebridge/PrimitiveType;" (.ref a_FLOAT)) (E_FLOAT : Exa Z h0 a_FLOAT "com/example/typebridge/typebridge/PrimitiveType") (F_FLOAT_ordinal : Fld Z h0 a_FLOAT "java/lang/Enum" "ordinal" "I" (.int (6 : Int32))) (S_DOUBLE : Sta Z h0 "com/example/typebridge/typebridge/PrimitiveType" "DOUBLE" "Lcom/example/typebridge/typebridge/PrimitiveType;" (.ref a_DOUBLE)) (E_DOUBLE : Exa Z h0 a_DOUBLE "com/example/typebridge/typebridge/PrimitiveType") (F_DOUBLE_ordinal : Fld Z h0 a_DOUBLE "java/lang/Enum" "ordinal" "I" (.int (7 : Int32))) :
    MetFree l x (head1 (Jvm.Cond.code x code maxLocals ret :: ws) room_1) (fun aa_ UU_ => aa_ = #[(.int p1)] ∧ Z.Warmed39 UU_.vm ∧ UU_.heap = h0) (fun _ _ _ _ _ => True) (fun _ UU_ oo_ UE_ => ∃ vv_ LL_, oo_ = .returned vv_ ∧ Q0 n0 vv_ UE_.heap LL_ ∧ FrameEnd UU_ oo_ UE_ LL_ room_1.cells room_1.slots) := by
  refine MetFree.of_bodySF (plainFor_of_name pn_1) hisR ?_
  intro p e s m args below meth c s₁ Bd hml0 hP hK
  obtain ⟨rfl, hZ, hh⟩ := hP
  have hx := Bd.exec
  have hby := Bd.bytes
  have hml : c.maxLocals = 4 := hml0
  have hown : s.vm.findClass "com/example/typebridge/typebridge/PrimitiveTypeIsIntegralPinLaw" = some m.cls := findClass_of_methodNamed Bd.named
  have hnm := (name_of_methodNamed Bd.named Bd.method).1
  have X0 : Stand p l e room_1 s m #[(.int p1)] below meth c s₁ [] 0 0 := Stand.of_body Bd
  have e0 : s₁.heap = h0 := by rw [← hh, Bd.state]; rfl
  have N0 := Fr.nil n0
  have pre0 : ∀ tg, Steps p.tables e below (s₁.setTop (mkF m 0 #[.val (.int p1), .unset, .unset, .unset] [])) tg → Steps p.tables e below (s₁.setTop (entryFrame m #[(.int p1)] maxLocals)) tg := fun tg kq_ => castTop (ef_rm0 m p1) kq_
  have R1 : ∀ tg, Steps p.tables e below (s₁.setTop (mkF m 5 #[.val (.int p1), .val (.int (p1 &&& (7 : Int32))), .unset, .unset] [])) tg → Steps p.tables e below (s₁.setTop (mkF m 0 #[.val (.int p1), .unset, .unset, .unset] [])) tg := by
    intro tg kt
    refine XS.iloadN X0.here hx rfl (hb hby at_0) rfl ?_
    show Steps p.tables e below (s₁.setTop (mkF m 1 #[.val (.int p1), .unset, .unset, .unset] [(.int p1)])) _
    refine XS.bipush X0.here hx rfl (hb hby at_1) ?_
    show Steps p.tables e below (s₁.setTop (mkF m 3 #[.val (.int p1), .unset, .unset, .unset] [(.int (7 : Int32)), (.int p1)])) _
    refine XS.iand X0.here hx rfl (hb hby at_3) rfl ?_
    show Steps p.tables e below (s₁.setTop (mkF m 4 #[.val (.int p1), .unset, .unset, .unset] [(.int (p1 &&& (7 : Int32)))])) _
    refine XS.istoreN X0.here hx rfl (hb hby at_4) rfl (l' := #[.val (.int p1), .val (.int (p1 &&& (7 : Int32))), .unset, .unset]) rfl ?_
    show Steps p.tables e below (s₁.setTop (mkF m 5 #[.val (.int p1), .val (.int (p1 &&& (7 : Int32))), .unset, .unset] [])) _
    exact kt
  rcases own_k p1 with hk2 | hk2 | hk2 | hk2 | hk2 | hk2 | hk2 | hk2
  · have R3 : ∀ tg, Steps p.tables e below (s₁.setTop (mkF m 5 #[.val (.int p1), .val (.int (0 : Int32)), .unset, .unset] [])) tg → Steps p.tables e below (s₁.setTop (mkF m 5 #[.val (.int p1), .val (.int (p1 &&& (7 : Int32))), .unset, .unset] [])) tg := fun tg kt => by rw [hk2]; exact kt
    obtain ⟨_, _, ⟨T4, L4, k4, n4⟩, -, X4, ⟨Lc4, hQ4, l4, y4, z4⟩, st4⟩ := Jvm.LawKit.callS X0 hx (y := (⟨"com/example/typebridge/typebridge/PrimitiveTypeIsIntegralPinLaw", "pick", "(I)Lcom/example/typebridge/typebridge/PrimitiveType;"⟩ : MethodName)) hown (mvT hZ (hw _ (List.mem_of_getElem? (i := 0) rfl))) (mvT hZ (hw _ (List.mem_of_getElem? (i := 1) rfl))) (mvT hZ (hw _ (List.mem_of_getElem? (i := 2) rfl))) (mvT hZ (hw _ (List.mem_of_getElem? (i := 3) rfl))) (by decide) (backOf (W := 0) (rmP l Z a0 hw [] (0 : Int32) a_BOOLEAN a_BYTE a_SHORT a_CHAR a_INT a_LONG a_FLOAT a_DOUBLE h0 n0 Z0 S_BOOLEAN S_BYTE S_SHORT S_CHAR S_INT S_LONG S_FLOAT S_DOUBLE) hZ (hw _ (List.mem_of_getElem? (i := 3) rfl)) (hw _ (List.mem_of_getElem? (i := 2) rfl)) (by decide) (by decide)) (g := (mkF m 6 #[.val (.int p1), .val (.int (0 : Int32)), .unset, .unset] [(.int (0 : Int32))])) rfl (by rw [hml]; rfl) (argsL := [(.int (0 : Int32))]) (rest := []) (lenOf pd_0 rfl) rfl (by show 2 * 0 + _ ≤ _; exact Nat.le_of_eq rfl) (hb hby at_6) (fun _ _ => ⟨rfl, e0, (by decide : 0 + 0 ≤ _), (by decide : 0 + 0 ≤ _)⟩)
    dsimp only [Pt.U, Pt.locs, Pt.cells, Pt.slots] at X4 l4 y4 z4 st4 hQ4
    subst l4 y4 z4
    obtain ⟨hv4, N4q, r4⟩ := hQ4
    rw [if_pos rfl] at hv4
    subst hv4
    have N4 := Fr.app N0 N4q
    obtain ⟨T5, X5, e5, st5⟩ := getS2 X4 hx hZ hown (host := "") (Or.inl (hw _ (List.mem_of_getElem? (i := 7) rfl))) Via.refl r4 S_BYTE (g := (mkF m 11 #[.val (.int p1), .val (.int (0 : Int32)), .val (.ref a_BOOLEAN), .unset] [(.ref a_BOOLEAN)])) rfl (hb hby at_11)
    obtain ⟨T6, X6, e6, st6⟩ := getS2 X5 hx hZ hown (host := "") (Or.inl (hw _ (List.mem_of_getElem? (i := 9) rfl))) Via.refl e5 S_SHORT (g := (mkF m 18 #[.val (.int p1), .val (.int (0 : Int32)), .val (.ref a_BOOLEAN), .unset] [(.ref a_BOOLEAN)])) rfl (hb hby at_18)
    obtain ⟨T7, X7, e7, st7⟩ := getS2 X6 hx hZ hown (host := "") (Or.inl (hw _ (List.mem_of_getElem? (i := 11) rfl))) Via.refl e6 S_CHAR (g := (mkF m 25 #[.val (.int p1), .val (.int (0 : Int32)), .val (.ref a_BOOLEAN), .unset] [(.ref a_BOOLEAN)])) rfl (hb hby at_25)
    obtain ⟨T8, X8, e8, st8⟩ := getS2 X7 hx hZ hown (host := "") (Or.inl (hw _ (List.mem_of_getElem? (i := 13) rfl))) Via.refl e7 S_INT (g := (mkF m 32 #[.val (.int p1), .val (.int (0 : Int32)), .val (.ref a_BOOLEAN), .unset] [(.ref a_BOOLEAN)])) rfl (hb hby at_32)
    obtain ⟨T9, X9, e9, st9⟩ := getS2 X8 hx hZ hown (host := "") (Or.inl (hw _ (List.mem_of_getElem? (i := 15) rfl))) Via.refl e8 S_LONG (g := (mkF m 39 #[.val (.int p1), .val (.int (0 : Int32)), .val (.ref a_BOOLEAN), .unset] [(.ref a_BOOLEAN)])) rfl (hb hby at_39)
    obtain ⟨cq10, kq10, q10a, q10b, q10c⟩ := isOf hZ e9 E_BOOLEAN
    obtain ⟨_, _, ⟨T10, L10, k10, n10⟩, -, X10, ⟨Lc10, hQ10, l10, y10, z10⟩, st10⟩ := X9.virtualBack hx (y := (⟨"com/example/typebridge/typebridge/PrimitiveType", "isIntegral", "()Z"⟩ : MethodName)) (z := (⟨"com/example/typebridge/typebridge/PrimitiveType", "isIntegral", "()Z"⟩ : MethodName)) hown (mvT hZ (hw _ (List.mem_of_getElem? (i := 17) rfl))) (mvT hZ (hw _ (List.mem_of_getElem? (i := 18) rfl))) (notFace_of_selects (args := #[]) (mvT hZ (hw _ (List.mem_of_getElem? (i := 20) rfl)))) (mvT hZ (hw _ (List.mem_of_getElem? (i := 20) rfl))) (mvT hZ (hw _ (List.mem_of_getElem? (i := 19) rfl))) (by decide) (backOf (W := 0) (rm1 l Z a0 hw [] a_BOOLEAN a_BOOLEAN a_FLOAT a_DOUBLE h0 n0 Z0 S_BOOLEAN S_FLOAT S_DOUBLE) hZ (hw _ (List.mem_of_getElem? (i := 21) rfl)) (hw _ (List.mem_of_getElem? (i := 5) rfl)) (by decide) (by decide)) q10a q10c (g := (mkF m 52 #[.val (.int p1), .val (.int (0 : Int32)), .val (.ref a_BOOLEAN), .val (.int (0 : Int32))] [(.ref a_BOOLEAN)])) rfl (by rw [hml]; rfl) (Steps.refl _) (argsL := []) (rest := []) (lenOf pd_1 rfl) rfl (by show 2 * 0 + _ ≤ _; exact Nat.le_of_eq rfl) (hb hby at_52) (fun _ _ => ⟨rfl, e9, (by decide : 0 + 0 ≤ _), (by decide : 0 + 0 ≤ _)⟩)
    dsimp only [Pt.U, Pt.locs, Pt.cells, Pt.slots] at X10 l10 y10 z10 st10 hQ10
    subst l10 y10 z10
    obtain ⟨hv10, N10q, r10⟩ := hQ10
    rw [(if_pos (Or.inl rfl))] at hv10
    subst hv10
    have N10 := Fr.app N4 N10q
    obtain ⟨fs, hr, hrun, hended, hW, hsame⟩ := X10.leave (v := some (.int (1 : Int32))) (fun h => by rw [Bd.returns] at h; cases h)
    refine ⟨_, _, pre0 _ (R1 _ (R3 _ ?_)), hrun, hended, _, _, rfl, ?_, ⟨_, rfl⟩, hW, hsame.mono (by decide) (by decide)⟩
    · show Steps p.tables e below (s₁.setTop (mkF m 5 #[.val (.int p1), .val (.int (0 : Int32)), .unset, .unset] [])) _
      refine XS.iloadN X0.here hx rfl (hb hby at_5) rfl ?_
      show Steps p.tables e below (s₁.setTop (mkF m 6 #[.val (.int p1), .val (.int (0 : Int32)), .unset, .unset] [(.int (0 : Int32))])) _
      refine st4 _ ?_
      show Steps p.tables e below (T4.setTop (mkF m 9 #[.val (.int p1), .val (.int (0 : Int32)), .unset, .unset] [(.ref a_BOOLEAN)])) _
      refine XS.astoreN X4.here hx rfl (hb hby at_9) rfl rfl (l' := #[.val (.int p1), .val (.int (0 : Int32)), .val (.ref a_BOOLEAN), .unset]) rfl ?_
      show Steps p.tables e below (T4.setTop (mkF m 10 #[.val (.int p1), .val (.int (0 : Int32)), .val (.ref a_BOOLEAN), .unset] [])) _
      refine XS.aloadN X4.here hx rfl (hb hby at_10) rfl rfl ?_
      show Steps p.tables e below (T4.setTop (mkF m 11 #[.val (.int p1), .val (.int (0 : Int32)), .val (.ref a_BOOLEAN), .unset] [(.ref a_BOOLEAN)])) _
      refine st5 _ ?_
      show Steps p.tables e below (T5.setTop (mkF m 14 #[.val (.int p1), .val (.int (0 : Int32)), .val (.ref a_BOOLEAN), .unset] [(.ref a_BYTE), (.ref a_BOOLEAN)])) _
      refine Jvm.RoadKit.acmp (g := (mkF m 14 #[.val (.int p1), .val (.int (0 : Int32)), .val (.ref a_BOOLEAN), .unset] [(.ref a_BYTE), (.ref a_BOOLEAN)])) X5 hx rfl rfl rfl (pc0 := 14) (pc' := 17) (same := false) rfl (hb hby at_14) rfl (decide_eq_false fun q => (own_ne_fld F_BOOLEAN_ordinal F_BYTE_ordinal (by decide)) (Value.ref.inj q)) (by decide) (by decide) ?_
      show Steps p.tables e below (T5.setTop (mkF m 17 #[.val (.int p1), .val (.int (0 : Int32)), .val (.ref a_BOOLEAN), .unset] [])) _
      refine XS.aloadN X5.here hx rfl (hb hby at_17) rfl rfl ?_
      show Steps p.tables e below (T5.setTop (mkF m 18 #[.val (.int p1), .val (.int (0 : Int32)), .val (.ref a_BOOLEAN), .unset] [(.ref a_BOOLEAN)])) _
      refine st6 _ ?_
      show Steps p.tables e below (T6.setTop (mkF m 21 #[.val (.int p1), .val (.int (0 : Int32)), .val (.ref a_BOOLEAN), .unset] [(.ref a_SHORT), (.ref a_BOOLEAN)])) _
      refine Jvm.RoadKit.acmp (g := (mkF m 21 #[.val (.int p1), .val (.int (0 : Int32)), .val (.ref a_BOOLEAN), .unset] [(.ref a_SHORT), (.ref a_BOOLEAN)])) X6 hx rfl rfl rfl (pc0 := 21) (pc' := 24) (same := false) rfl (hb hby at_21) rfl (decide_eq_false fun q => (own_ne_fld F_BOOLEAN_ordinal F_SHORT_ordinal (by decide)) (Value.ref.inj q)) (by decide) (by decide) ?_
      show Steps p.tables e below (T6.setTop (mkF m 24 #[.val (.int p1), .val (.int (0 : Int32)), .val (.ref a_BOOLEAN), .unset] [])) _
      refine XS.aloadN X6.here hx rfl (hb hby at_24) rfl rfl ?_
      show Steps p.tables e below (T6.setTop (mkF m 25 #[.val (.int p1), .val (.int (0 : Int32)), .val (.ref a_BOOLEAN), .unset] [(.ref a_BOOLEAN)])) _
      refine st7 _ ?_
      show Steps p.tables e below (T7.setTop (mkF m 28 #[.val (.int p1), .val (.int (0 : Int32)), .val (.ref a_BOOLEAN), .unset] [(.ref a_CHAR), (.ref a_BOOLEAN)])) _
      refine Jvm.RoadKit.acmp (g := (mkF m 28 #[.val (.int p1), .val (.int (0 : Int32)), .val (.ref a_BOOLEAN), .unset] [(.ref a_CHAR), (.ref a_BOOLEAN)])) X7 hx rfl rfl rfl (pc0 := 28) (pc' := 31) (same := false) rfl (hb hby at_28) rfl (decide_eq_false fun q => (own_ne_fld F_BOOLEAN_ordinal F_CHAR_ordinal (by decide)) (Value.ref.inj q)) (by decide) (by decide) ?_
      show Steps p.tables e below (T7.setTop (mkF m 31 #[.val (.int p1), .val (.int (0 : Int32)), .val (.ref a_BOOLEAN), .unset] [])) _
      refine XS.aloadN X7.here hx rfl (hb hby at_31) rfl rfl ?_
      show Steps p.tables e below (T7.setTop (mkF m 32 #[.val (.int p1), .val (.int (0 : Int32)), .val (.ref a_BOOLEAN), .unset] [(.ref a_BOOLEAN)])) _
      refine st8 _ ?_
      show Steps p.tables e below (T8.setTop (mkF m 35 #[.val (.int p1), .val (.int (0 : Int32)), .val (.ref a_BOOLEAN), .unset] [(.ref a_INT), (.ref a_BOOLEAN)])) _
      refine Jvm.RoadKit.acmp (g := (mkF m 35 #[.val (.int p1), .val (.int (0 : Int32)), .val (.ref a_BOOLEAN), .unset] [(.ref a_INT), (.ref a_BOOLEAN)])) X8 hx rfl rfl rfl (pc0 := 35) (pc' := 38) (same := false) rfl (hb hby at_35) rfl (decide_eq_false fun q => (own_ne_fld F_BOOLEAN_ordinal F_INT_ordinal (by decide)) (Value.ref.inj q)) (by decide) (by decide) ?_
      show Steps p.tables e below (T8.setTop (mkF m 38 #[.val (.int p1), .val (.int (0 : Int32)), .val (.ref a_BOOLEAN), .unset] [])) _
      refine XS.aloadN X8.here hx rfl (hb hby at_38) rfl rfl ?_
      show Steps p.tables e below (T8.setTop (mkF m 39 #[.val (.int p1), .val (.int (0 : Int32)), .val (.ref a_BOOLEAN), .unset] [(.ref a_BOOLEAN)])) _
      refine st9 _ ?_
      show Steps p.tables e below (T9.setTop (mkF m 42 #[.val (.int p1), .val (.int (0 : Int32)), .val (.ref a_BOOLEAN), .unset] [(.ref a_LONG), (.ref a_BOOLEAN)])) _
      refine Jvm.RoadKit.acmp (g := (mkF m 42 #[.val (.int p1), .val (.int (0 : Int32)), .val (.ref a_BOOLEAN), .unset] [(.ref a_LONG), (.ref a_BOOLEAN)])) X9 hx rfl rfl rfl (pc0 := 42) (pc' := 49) (same := false) rfl (hb hby at_42) rfl (decide_eq_false fun q => (own_ne_fld F_BOOLEAN_ordinal F_LONG_ordinal (by decide)) (Value.ref.inj q)) (by decide) (by decide) ?_
      show Steps p.tables e below (T9.setTop (mkF m 49 #[.val (.int p1), .val (.int (0 : Int32)), .val (.ref a_BOOLEAN), .unset] [])) _
      refine XS.iconst X9.here hx rfl (hb hby at_49) ?_
      show Steps p.tables e below (T9.setTop (mkF m 50 #[.val (.int p1), .val (.int (0 : Int32)), .val (.ref a_BOOLEAN), .unset] [(.int (0 : Int32))])) _
      refine XS.istoreN X9.here hx rfl (hb hby at_50) rfl (l' := #[.val (.int p1), .val (.int (0 : Int32)), .val (.ref a_BOOLEAN), .val (.int (0 : Int32))]) rfl ?_
      show Steps p.tables e below (T9.setTop (mkF m 51 #[.val (.int p1), .val (.int (0 : Int32)), .val (.ref a_BOOLEAN), .val (.int (0 : Int32))] [])) _
      refine XS.aloadN X9.here hx rfl (hb hby at_51) rfl rfl ?_
      show Steps p.tables e below (T9.setTop (mkF m 52 #[.val (.int p1), .val (.int (0 : Int32)), .val (.ref a_BOOLEAN), .val (.int (0 : Int32))] [(.ref a_BOOLEAN)])) _
      refine st10.trans ?_
      show Steps p.tables e below (T10.setTop (mkF m 55 #[.val (.int p1), .val (.int (0 : Int32)), .val (.ref a_BOOLEAN), .val (.int (0 : Int32))] [(.int (0 : Int32))])) _
      refine XS.iloadN X10.here hx rfl (hb hby at_55) rfl ?_
      show Steps p.tables e below (T10.setTop (mkF m 56 #[.val (.int p1), .val (.int (0 : Int32)), .val (.ref a_BOOLEAN), .val (.int (0 : Int32))] [(.int (0 : Int32)), (.int (0 : Int32))])) _
      refine XS.icmpNo X10.here hx rfl (hb hby at_56) rfl (teq (by decide : (0 : Int32) = (0 : Int32))).2 ?_
      show Steps p.tables e below (T10.setTop (mkF m 59 #[.val (.int p1), .val (.int (0 : Int32)), .val (.ref a_BOOLEAN), .val (.int (0 : Int32))] [])) _
      refine XS.iconst X10.here hx rfl (hb hby at_59) ?_
      show Steps p.tables e below (T10.setTop (mkF m 60 #[.val (.int p1), .val (.int (0 : Int32)), .val (.ref a_BOOLEAN), .val (.int (0 : Int32))] [(.int (1 : Int32))])) _
      refine XS.goto X10.here hx rfl (pc0 := 60) (pc' := 64) rfl (hb hby at_60) (by decide) (by decide) ?_
      show Steps p.tables e below (T10.setTop (mkF m 64 #[.val (.int p1), .val (.int (0 : Int32)), .val (.ref a_BOOLEAN), .val (.int (0 : Int32))] [(.int (1 : Int32))])) _
      exact retN X10 hx (t := .boolean) Bd.returns (by simp) (hb hby at_64) hr
    · show Q0 n0 _ T10.heap _
      rw [r10]
      exact ⟨rfl, N10⟩
  · have R11 : ∀ tg, Steps p.tables e below (s₁.setTop (mkF m 5 #[.val (.int p1), .val (.int (1 : Int32)), .unset, .unset] [])) tg → Steps p.tables e below (s₁.setTop (mkF m 5 #[.val (.int p1), .val (.int (p1 &&& (7 : Int32))), .unset, .unset] [])) tg := fun tg kt => by rw [hk2]; exact kt
    obtain ⟨_, _, ⟨T12, L12, k12, n12⟩, -, X12, ⟨Lc12, hQ12, l12, y12, z12⟩, st12⟩ := Jvm.LawKit.callS X0 hx (y := (⟨"com/example/typebridge/typebridge/PrimitiveTypeIsIntegralPinLaw", "pick", "(I)Lcom/example/typebridge/typebridge/PrimitiveType;"⟩ : MethodName)) hown (mvT hZ (hw _ (List.mem_of_getElem? (i := 0) rfl))) (mvT hZ (hw _ (List.mem_of_getElem? (i := 1) rfl))) (mvT hZ (hw _ (List.mem_of_getElem? (i := 2) rfl))) (mvT hZ (hw _ (List.mem_of_getElem? (i := 3) rfl))) (by decide) (backOf (W := 0) (rmP l Z a0 hw [] (1 : Int32) a_BOOLEAN a_BYTE a_SHORT a_CHAR a_INT a_LONG a_FLOAT a_DOUBLE h0 n0 Z0 S_BOOLEAN S_BYTE S_SHORT S_CHAR S_INT S_LONG S_FLOAT S_DOUBLE) hZ (hw _ (List.mem_of_getElem? (i := 3) rfl)) (hw _ (List.mem_of_getElem? (i := 2) rfl)) (by decide) (by decide)) (g := (mkF m 6 #[.val (.int p1), .val (.int (1 : Int32)), .unset, .unset] [(.int (1 : Int32))])) rfl (by rw [hml]; rfl) (argsL := [(.int (1 : Int32))]) (rest := []) (lenOf pd_0 rfl) rfl (by show 2 * 0 + _ ≤ _; exact Nat.le_of_eq rfl) (hb hby at_6) (fun _ _ => ⟨rfl, e0, (by decide : 0 + 0 ≤ _), (by decide : 0 + 0 ≤ _)⟩)
    dsimp only [Pt.U, Pt.locs, Pt.cells, Pt.slots] at X12 l12 y12 z12 st12 hQ12
    subst l12 y12 z12
    obtain ⟨hv12, N12q, r12⟩ := hQ12
    rw [if_neg (by decide), if_pos rfl] at hv12
    subst hv12
    have N12 := Fr.app N0 N12q
    obtain ⟨T13, X13, e13, st13⟩ := getS2 X12 hx hZ hown (host := "") (Or.inl (hw _ (List.mem_of_getElem? (i := 7) rfl))) Via.refl r12 S_BYTE (g := (mkF m 11 #[.val (.int p1), .val (.int (1 : Int32)), .val (.ref a_BYTE), .unset] [(.ref a_BYTE)])) rfl (hb hby at_11)
    obtain ⟨cq14, kq14, q14a, q14b, q14c⟩ := isOf hZ e13 E_BYTE
    obtain ⟨_, _, ⟨T14, L14, k14, n14⟩, -, X14, ⟨Lc14, hQ14, l14, y14, z14⟩, st14⟩ := X13.virtualBack hx (y := (⟨"com/example/typebridge/typebridge/PrimitiveType", "isIntegral", "()Z"⟩ : MethodName)) (z := (⟨"com/example/typebridge/typebridge/PrimitiveType", "isIntegral", "()Z"⟩ : MethodName)) hown (mvT hZ (hw _ (List.mem_of_getElem? (i := 17) rfl))) (mvT hZ (hw _ (List.mem_of_getElem? (i := 18) rfl))) (notFace_of_selects (args := #[]) (mvT hZ (hw _ (List.mem_of_getElem? (i := 20) rfl)))) (mvT hZ (hw _ (List.mem_of_getElem? (i := 20) rfl))) (mvT hZ (hw _ (List.mem_of_getElem? (i := 19) rfl))) (by decide) (backOf (W := 0) (rm1 l Z a0 hw [] a_BYTE a_BOOLEAN a_FLOAT a_DOUBLE h0 n0 Z0 S_BOOLEAN S_FLOAT S_DOUBLE) hZ (hw _ (List.mem_of_getElem? (i := 21) rfl)) (hw _ (List.mem_of_getElem? (i := 5) rfl)) (by decide) (by decide)) q14a q14c (g := (mkF m 52 #[.val (.int p1), .val (.int (1 : Int32)), .val (.ref a_BYTE), .val (.int (1 : Int32))] [(.ref a_BYTE)])) rfl (by rw [hml]; rfl) (Steps.refl _) (argsL := []) (rest := []) (lenOf pd_1 rfl) rfl (by show 2 * 0 + _ ≤ _; exact Nat.le_of_eq rfl) (hb hby at_52) (fun _ _ => ⟨rfl, e13, (by decide : 0 + 0 ≤ _), (by decide : 0 + 0 ≤ _)⟩)
    dsimp only [Pt.U, Pt.locs, Pt.cells, Pt.slots] at X14 l14 y14 z14 st14 hQ14
    subst l14 y14 z14
    obtain ⟨hv14, N14q, r14⟩ := hQ14
    rw [(if_neg (fun h => h.elim (own_ne_fld F_BYTE_ordinal F_BOOLEAN_ordinal (by decide)) (fun h => h.elim (own_ne_fld F_BYTE_ordinal F_FLOAT_ordinal (by decide)) (own_ne_fld F_BYTE_ordinal F_DOUBLE_ordinal (by decide)))))] at hv14
    subst hv14
    have N14 := Fr.app N12 N14q
    obtain ⟨fs, hr, hrun, hended, hW, hsame⟩ := X14.leave (v := some (.int (1 : Int32))) (fun h => by rw [Bd.returns] at h; cases h)
    refine ⟨_, _, pre0 _ (R1 _ (R11 _ ?_)), hrun, hended, _, _, rfl, ?_, ⟨_, rfl⟩, hW, hsame.mono (by decide) (by decide)⟩
    · show Steps p.tables e below (s₁.setTop (mkF m 5 #[.val (.int p1), .val (.int (1 : Int32)), .unset, .unset] [])) _
      refine XS.iloadN X0.here hx rfl (hb hby at_5) rfl ?_
      show Steps p.tables e below (s₁.setTop (mkF m 6 #[.val (.int p1), .val (.int (1 : Int32)), .unset, .unset] [(.int (1 : Int32))])) _
      refine st12 _ ?_
      show Steps p.tables e below (T12.setTop (mkF m 9 #[.val (.int p1), .val (.int (1 : Int32)), .unset, .unset] [(.ref a_BYTE)])) _
      refine XS.astoreN X12.here hx rfl (hb hby at_9) rfl rfl (l' := #[.val (.int p1), .val (.int (1 : Int32)), .val (.ref a_BYTE), .unset]) rfl ?_
      show Steps p.tables e below (T12.setTop (mkF m 10 #[.val (.int p1), .val (.int (1 : Int32)), .val (.ref a_BYTE), .unset] [])) _
      refine XS.aloadN X12.here hx rfl (hb hby at_10) rfl rfl ?_
      show Steps p.tables e below (T12.setTop (mkF m 11 #[.val (.int p1), .val (.int (1 : Int32)), .val (.ref a_BYTE), .unset] [(.ref a_BYTE)])) _
      refine st13 _ ?_
      show Steps p.tables e below (T13.setTop (mkF m 14 #[.val (.int p1), .val (.int (1 : Int32)), .val (.ref a_BYTE), .unset] [(.ref a_BYTE), (.ref a_BYTE)])) _
      refine Jvm.RoadKit.acmp (g := (mkF m 14 #[.val (.int p1), .val (.int (1 : Int32)), .val (.ref a_BYTE), .unset] [(.ref a_BYTE), (.ref a_BYTE)])) X13 hx rfl rfl rfl (pc0 := 14) (pc' := 45) (same := true) rfl (hb hby at_14) rfl (decide_eq_true rfl) (by decide) (by decide) ?_
      show Steps p.tables e below (T13.setTop (mkF m 45 #[.val (.int p1), .val (.int (1 : Int32)), .val (.ref a_BYTE), .unset] [])) _
      refine XS.iconst X13.here hx rfl (hb hby at_45) ?_
      show Steps p.tables e below (T13.setTop (mkF m 46 #[.val (.int p1), .val (.int (1 : Int32)), .val (.ref a_BYTE), .unset] [(.int (1 : Int32))])) _
      refine XS.goto X13.here hx rfl (pc0 := 46) (pc' := 50) rfl (hb hby at_46) (by decide) (by decide) ?_
      show Steps p.tables e below (T13.setTop (mkF m 50 #[.val (.int p1), .val (.int (1 : Int32)), .val (.ref a_BYTE), .unset] [(.int (1 : Int32))])) _
      refine XS.istoreN X13.here hx rfl (hb hby at_50) rfl (l' := #[.val (.int p1), .val (.int (1 : Int32)), .val (.ref a_BYTE), .val (.int (1 : Int32))]) rfl ?_
      show Steps p.tables e below (T13.setTop (mkF m 51 #[.val (.int p1), .val (.int (1 : Int32)), .val (.ref a_BYTE), .val (.int (1 : Int32))] [])) _
      refine XS.aloadN X13.here hx rfl (hb hby at_51) rfl rfl ?_
      show Steps p.tables e below (T13.setTop (mkF m 52 #[.val (.int p1), .val (.int (1 : Int32)), .val (.ref a_BYTE), .val (.int (1 : Int32))] [(.ref a_BYTE)])) _
      refine st14.trans ?_
      show Steps p.tables e below (T14.setTop (mkF m 55 #[.val (.int p1), .val (.int (1 : Int32)), .val (.ref a_BYTE), .val (.int (1 : Int32))] [(.int (1 : Int32))])) _
      refine XS.iloadN X14.here hx rfl (hb hby at_55) rfl ?_
      show Steps p.tables e below (T14.setTop (mkF m 56 #[.val (.int p1), .val (.int (1 : Int32)), .val (.ref a_BYTE), .val (.int (1 : Int32))] [(.int (1 : Int32)), (.int (1 : Int32))])) _
      refine XS.icmpNo X14.here hx rfl (hb hby at_56) rfl (teq (by decide : (1 : Int32) = (1 : Int32))).2 ?_
      show Steps p.tables e below (T14.setTop (mkF m 59 #[.val (.int p1), .val (.int (1 : Int32)), .val (.ref a_BYTE), .val (.int (1 : Int32))] [])) _
      refine XS.iconst X14.here hx rfl (hb hby at_59) ?_
      show Steps p.tables e below (T14.setTop (mkF m 60 #[.val (.int p1), .val (.int (1 : Int32)), .val (.ref a_BYTE), .val (.int (1 : Int32))] [(.int (1 : Int32))])) _
      refine XS.goto X14.here hx rfl (pc0 := 60) (pc' := 64) rfl (hb hby at_60) (by decide) (by decide) ?_
      show Steps p.tables e below (T14.setTop (mkF m 64 #[.val (.int p1), .val (.int (1 : Int32)), .val (.ref a_BYTE), .val (.int (1 : Int32))] [(.int (1 : Int32))])) _
      exact retN X14 hx (t := .boolean) Bd.returns (by simp) (hb hby at_64) hr
    · show Q0 n0 _ T14.heap _
      rw [r14]
      exact ⟨rfl, N14⟩
  · have R15 : ∀ tg, Steps p.tables e below (s₁.setTop (mkF m 5 #[.val (.int p1), .val (.int (2 : Int32)), .unset, .unset] [])) tg → Steps p.tables e below (s₁.setTop (mkF m 5 #[.val (.int p1), .val (.int (p1 &&& (7 : Int32))), .unset, .unset] [])) tg := fun tg kt => by rw [hk2]; exact kt
    obtain ⟨_, _, ⟨T16, L16, k16, n16⟩, -, X16, ⟨Lc16, hQ16, l16, y16, z16⟩, st16⟩ := Jvm.LawKit.callS X0 hx (y := (⟨"com/example/typebridge/typebridge/PrimitiveTypeIsIntegralPinLaw", "pick", "(I)Lcom/example/typebridge/typebridge/PrimitiveType;"⟩ : MethodName)) hown (mvT hZ (hw _ (List.mem_of_getElem? (i := 0) rfl))) (mvT hZ (hw _ (List.mem_of_getElem? (i := 1) rfl))) (mvT hZ (hw _ (List.mem_of_getElem? (i := 2) rfl))) (mvT hZ (hw _ (List.mem_of_getElem? (i := 3) rfl))) (by decide) (backOf (W := 0) (rmP l Z a0 hw [] (2 : Int32) a_BOOLEAN a_BYTE a_SHORT a_CHAR a_INT a_LONG a_FLOAT a_DOUBLE h0 n0 Z0 S_BOOLEAN S_BYTE S_SHORT S_CHAR S_INT S_LONG S_FLOAT S_DOUBLE) hZ (hw _ (List.mem_of_getElem? (i := 3) rfl)) (hw _ (List.mem_of_getElem? (i := 2) rfl)) (by decide) (by decide)) (g := (mkF m 6 #[.val (.int p1), .val (.int (2 : Int32)), .unset, .unset] [(.int (2 : Int32))])) rfl (by rw [hml]; rfl) (argsL := [(.int (2 : Int32))]) (rest := []) (lenOf pd_0 rfl) rfl (by show 2 * 0 + _ ≤ _; exact Nat.le_of_eq rfl) (hb hby at_6) (fun _ _ => ⟨rfl, e0, (by decide : 0 + 0 ≤ _), (by decide : 0 + 0 ≤ _)⟩)
    dsimp only [Pt.U, Pt.locs, Pt.cells, Pt.slots] at X16 l16 y16 z16 st16 hQ16
    subst l16 y16 z16
    obtain ⟨hv16, N16q, r16⟩ := hQ16
    rw [if_neg (by decide), if_neg (by decide), if_pos rfl] at hv16
    subst hv16
    have N16 := Fr.app N0 N16q
    obtain ⟨T17, X17, e17, st17⟩ := getS2 X16 hx hZ hown (host := "") (Or.inl (hw _ (List.mem_of_getElem? (i := 7) rfl))) Via.refl r16 S_BYTE (g := (mkF m 11 #[.val (.int p1), .val (.int (2 : Int32)), .val (.ref a_SHORT), .unset] [(.ref a_SHORT)])) rfl (hb hby at_11)
    obtain ⟨T18, X18, e18, st18⟩ := getS2 X17 hx hZ hown (host := "") (Or.inl (hw _ (List.mem_of_getElem? (i := 9) rfl))) Via.refl e17 S_SHORT (g := (mkF m 18 #[.val (.int p1), .val (.int (2 : Int32)), .val (.ref a_SHORT), .unset] [(.ref a_SHORT)])) rfl (hb hby at_18)
    obtain ⟨cq19, kq19, q19a, q19b, q19c⟩ := isOf hZ e18 E_SHORT
    obtain ⟨_, _, ⟨T19, L19, k19, n19⟩, -, X19, ⟨Lc19, hQ19, l19, y19, z19⟩, st19⟩ := X18.virtualBack hx (y := (⟨"com/example/typebridge/typebridge/PrimitiveType", "isIntegral", "()Z"⟩ : MethodName)) (z := (⟨"com/example/typebridge/typebridge/PrimitiveType", "isIntegral", "()Z"⟩ : MethodName)) hown (mvT hZ (hw _ (List.mem_of_getElem? (i := 17) rfl))) (mvT hZ (hw _ (List.mem_of_getElem? (i := 18) rfl))) (notFace_of_selects (args := #[]) (mvT hZ (hw _ (List.mem_of_getElem? (i := 20) rfl)))) (mvT hZ (hw _ (List.mem_of_getElem? (i := 20) rfl))) (mvT hZ (hw _ (List.mem_of_getElem? (i := 19) rfl))) (by decide) (backOf (W := 0) (rm1 l Z a0 hw [] a_SHORT a_BOOLEAN a_FLOAT a_DOUBLE h0 n0 Z0 S_BOOLEAN S_FLOAT S_DOUBLE) hZ (hw _ (List.mem_of_getElem? (i := 21) rfl)) (hw _ (List.mem_of_getElem? (i := 5) rfl)) (by decide) (by decide)) q19a q19c (g := (mkF m 52 #[.val (.int p1), .val (.int (2 : Int32)), .val (.ref a_SHORT), .val (.int (1 : Int32))] [(.ref a_SHORT)])) rfl (by rw [hml]; rfl) (Steps.refl _) (argsL := []) (rest := []) (lenOf pd_1 rfl) rfl (by show 2 * 0 + _ ≤ _; exact Nat.le_of_eq rfl) (hb hby at_52) (fun _ _ => ⟨rfl, e18, (by decide : 0 + 0 ≤ _), (by decide : 0 + 0 ≤ _)⟩)
    dsimp only [Pt.U, Pt.locs, Pt.cells, Pt.slots] at X19 l19 y19 z19 st19 hQ19
    subst l19 y19 z19
    obtain ⟨hv19, N19q, r19⟩ := hQ19
    rw [(if_neg (fun h => h.elim (own_ne_fld F_SHORT_ordinal F_BOOLEAN_ordinal (by decide)) (fun h => h.elim (own_ne_fld F_SHORT_ordinal F_FLOAT_ordinal (by decide)) (own_ne_fld F_SHORT_ordinal F_DOUBLE_ordinal (by decide)))))] at hv19
    subst hv19
    have N19 := Fr.app N16 N19q
    obtain ⟨fs, hr, hrun, hended, hW, hsame⟩ := X19.leave (v := some (.int (1 : Int32))) (fun h => by rw [Bd.returns] at h; cases h)
    refine ⟨_, _, pre0 _ (R1 _ (R15 _ ?_)), hrun, hended, _, _, rfl, ?_, ⟨_, rfl⟩, hW, hsame.mono (by decide) (by decide)⟩
    · show Steps p.tables e below (s₁.setTop (mkF m 5 #[.val (.int p1), .val (.int (2 : Int32)), .unset, .unset] [])) _
      refine XS.iloadN X0.here hx rfl (hb hby at_5) rfl ?_
      show Steps p.tables e below (s₁.setTop (mkF m 6 #[.val (.int p1), .val (.int (2 : Int32)), .unset, .unset] [(.int (2 : Int32))])) _
      refine st16 _ ?_
      show Steps p.tables e below (T16.setTop (mkF m 9 #[.val (.int p1), .val (.int (2 : Int32)), .unset, .unset] [(.ref a_SHORT)])) _
      refine XS.astoreN X16.here hx rfl (hb hby at_9) rfl rfl (l' := #[.val (.int p1), .val (.int (2 : Int32)), .val (.ref a_SHORT), .unset]) rfl ?_
      show Steps p.tables e below (T16.setTop (mkF m 10 #[.val (.int p1), .val (.int (2 : Int32)), .val (.ref a_SHORT), .unset] [])) _
      refine XS.aloadN X16.here hx rfl (hb hby at_10) rfl rfl ?_
      show Steps p.tables e below (T16.setTop (mkF m 11 #[.val (.int p1), .val (.int (2 : Int32)), .val (.ref a_SHORT), .unset] [(.ref a_SHORT)])) _
      refine st17 _ ?_
      show Steps p.tables e below (T17.setTop (mkF m 14 #[.val (.int p1), .val (.int (2 : Int32)), .val (.ref a_SHORT), .unset] [(.ref a_BYTE), (.ref a_SHORT)])) _
      refine Jvm.RoadKit.acmp (g := (mkF m 14 #[.val (.int p1), .val (.int (2 : Int32)), .val (.ref a_SHORT), .unset] [(.ref a_BYTE), (.ref a_SHORT)])) X17 hx rfl rfl rfl (pc0 := 14) (pc' := 17) (same := false) rfl (hb hby at_14) rfl (decide_eq_false fun q => (own_ne_fld F_SHORT_ordinal F_BYTE_ordinal (by decide)) (Value.ref.inj q)) (by decide) (by decide) ?_
      show Steps p.tables e below (T17.setTop (mkF m 17 #[.val (.int p1), .val (.int (2 : Int32)), .val (.ref a_SHORT), .unset] [])) _
      refine XS.aloadN X17.here hx rfl (hb hby at_17) rfl rfl ?_
      show Steps p.tables e below (T17.setTop (mkF m 18 #[.val (.int p1), .val (.int (2 : Int32)), .val (.ref a_SHORT), .unset] [(.ref a_SHORT)])) _
      refine st18 _ ?_
      show Steps p.tables e below (T18.setTop (mkF m 21 #[.val (.int p1), .val (.int (2 : Int32)), .val (.ref a_SHORT), .unset] [(.ref a_SHORT), (.ref a_SHORT)])) _
      refine Jvm.RoadKit.acmp (g := (mkF m 21 #[.val (.int p1), .val (.int (2 : Int32)), .val (.ref a_SHORT), .unset] [(.ref a_SHORT), (.ref a_SHORT)])) X18 hx rfl rfl rfl (pc0 := 21) (pc' := 45) (same := true) rfl (hb hby at_21) rfl (decide_eq_true rfl) (by decide) (by decide) ?_
      show Steps p.tables e below (T18.setTop (mkF m 45 #[.val (.int p1), .val (.int (2 : Int32)), .val (.ref a_SHORT), .unset] [])) _
      refine XS.iconst X18.here hx rfl (hb hby at_45) ?_
      show Steps p.tables e below (T18.setTop (mkF m 46 #[.val (.int p1), .val (.int (2 : Int32)), .val (.ref a_SHORT), .unset] [(.int (1 : Int32))])) _
      refine XS.goto X18.here hx rfl (pc0 := 46) (pc' := 50) rfl (hb hby at_46) (by decide) (by decide) ?_
      show Steps p.tables e below (T18.setTop (mkF m 50 #[.val (.int p1), .val (.int (2 : Int32)), .val (.ref a_SHORT), .unset] [(.int (1 : Int32))])) _
      refine XS.istoreN X18.here hx rfl (hb hby at_50) rfl (l' := #[.val (.int p1), .val (.int (2 : Int32)), .val (.ref a_SHORT), .val (.int (1 : Int32))]) rfl ?_
      show Steps p.tables e below (T18.setTop (mkF m 51 #[.val (.int p1), .val (.int (2 : Int32)), .val (.ref a_SHORT), .val (.int (1 : Int32))] [])) _
      refine XS.aloadN X18.here hx rfl (hb hby at_51) rfl rfl ?_
      show Steps p.tables e below (T18.setTop (mkF m 52 #[.val (.int p1), .val (.int (2 : Int32)), .val (.ref a_SHORT), .val (.int (1 : Int32))] [(.ref a_SHORT)])) _
      refine st19.trans ?_
      show Steps p.tables e below (T19.setTop (mkF m 55 #[.val (.int p1), .val (.int (2 : Int32)), .val (.ref a_SHORT), .val (.int (1 : Int32))] [(.int (1 : Int32))])) _
      refine XS.iloadN X19.here hx rfl (hb hby at_55) rfl ?_
      show Steps p.tables e below (T19.setTop (mkF m 56 #[.val (.int p1), .val (.int (2 : Int32)), .val (.ref a_SHORT), .val (.int (1 : Int32))] [(.int (1 : Int32)), (.int (1 : Int32))])) _
      refine XS.icmpNo X19.here hx rfl (hb hby at_56) rfl (teq (by decide : (1 : Int32) = (1 : Int32))).2 ?_
      show Steps p.tables e below (T19.setTop (mkF m 59 #[.val (.int p1), .val (.int (2 : Int32)), .val (.ref a_SHORT), .val (.int (1 : Int32))] [])) _
      refine XS.iconst X19.here hx rfl (hb hby at_59) ?_
      show Steps p.tables e below (T19.setTop (mkF m 60 #[.val (.int p1), .val (.int (2 : Int32)), .val (.ref a_SHORT), .val (.int (1 : Int32))] [(.int (1 : Int32))])) _
      refine XS.goto X19.here hx rfl (pc0 := 60) (pc' := 64) rfl (hb hby at_60) (by decide) (by decide) ?_
      show Steps p.tables e below (T19.setTop (mkF m 64 #[.val (.int p1), .val (.int (2 : Int32)), .val (.ref a_SHORT), .val (.int (1 : Int32))] [(.int (1 : Int32))])) _
      exact retN X19 hx (t := .boolean) Bd.returns (by simp) (hb hby at_64) hr
    · show Q0 n0 _ T19.heap _
      rw [r19]
      exact ⟨rfl, N19⟩
  · have R20 : ∀ tg, Steps p.tables e below (s₁.setTop (mkF m 5 #[.val (.int p1), .val (.int (3 : Int32)), .unset, .unset] [])) tg → Steps p.tables e below (s₁.setTop (mkF m 5 #[.val (.int p1), .val (.int (p1 &&& (7 : Int32))), .unset, .unset] [])) tg := fun tg kt => by rw [hk2]; exact kt
    obtain ⟨_, _, ⟨T21, L21, k21, n21⟩, -, X21, ⟨Lc21, hQ21, l21, y21, z21⟩, st21⟩ := Jvm.LawKit.callS X0 hx (y := (⟨"com/example/typebridge/typebridge/PrimitiveTypeIsIntegralPinLaw", "pick", "(I)Lcom/example/typebridge/typebridge/PrimitiveType;"⟩ : MethodName)) hown (mvT hZ (hw _ (List.mem_of_getElem? (i := 0) rfl))) (mvT hZ (hw _ (List.mem_of_getElem? (i := 1) rfl))) (mvT hZ (hw _ (List.mem_of_getElem? (i := 2) rfl))) (mvT hZ (hw _ (List.mem_of_getElem? (i := 3) rfl))) (by decide) (backOf (W := 0) (rmP l Z a0 hw [] (3 : Int32) a_BOOLEAN a_BYTE a_SHORT a_CHAR a_INT a_LONG a_FLOAT a_DOUBLE h0 n0 Z0 S_BOOLEAN S_BYTE S_SHORT S_CHAR S_INT S_LONG S_FLOAT S_DOUBLE) hZ (hw _ (List.mem_of_getElem? (i := 3) rfl)) (hw _ (List.mem_of_getElem? (i := 2) rfl)) (by decide) (by decide)) (g := (mkF m 6 #[.val (.int p1), .val (.int (3 : Int32)), .unset, .unset] [(.int (3 : Int32))])) rfl (by rw [hml]; rfl) (argsL := [(.int (3 : Int32))]) (rest := []) (lenOf pd_0 rfl) rfl (by show 2 * 0 + _ ≤ _; exact Nat.le_of_eq rfl) (hb hby at_6) (fun _ _ => ⟨rfl, e0, (by decide : 0 + 0 ≤ _), (by decide : 0 + 0 ≤ _)⟩)
    dsimp only [Pt.U, Pt.locs, Pt.cells, Pt.slots] at X21 l21 y21 z21 st21 hQ21
    subst l21 y21 z21
    obtain ⟨hv21, N21q, r21⟩ := hQ21
    rw [if_neg (by decide), if_neg (by decide), if_neg (by decide), if_pos rfl] at hv21
    subst hv21
    have N21 := Fr.app N0 N21q
    obtain ⟨T22, X22, e22, st22⟩ := getS2 X21 hx hZ hown (host := "") (Or.inl (hw _ (List.mem_of_getElem? (i := 7) rfl))) Via.refl r21 S_BYTE (g := (mkF m 11 #[.val (.int p1), .val (.int (3 : Int32)), .val (.ref a_CHAR), .unset] [(.ref a_CHAR)])) rfl (hb hby at_11)
    obtain ⟨T23, X23, e23, st23⟩ := getS2 X22 hx hZ hown (host := "") (Or.inl (hw _ (List.mem_of_getElem? (i := 9) rfl))) Via.refl e22 S_SHORT (g := (mkF m 18 #[.val (.int p1), .val (.int (3 : Int32)), .val (.ref a_CHAR), .unset] [(.ref a_CHAR)])) rfl (hb hby at_18)
    obtain ⟨T24, X24, e24, st24⟩ := getS2 X23 hx hZ hown (host := "") (Or.inl (hw _ (List.mem_of_getElem? (i := 11) rfl))) Via.refl e23 S_CHAR (g := (mkF m 25 #[.val (.int p1), .val (.int (3 : Int32)), .val (.ref a_CHAR), .unset] [(.ref a_CHAR)])) rfl (hb hby at_25)
    obtain ⟨cq25, kq25, q25a, q25b, q25c⟩ := isOf hZ e24 E_CHAR
    obtain ⟨_, _, ⟨T25, L25, k25, n25⟩, -, X25, ⟨Lc25, hQ25, l25, y25, z25⟩, st25⟩ := X24.virtualBack hx (y := (⟨"com/example/typebridge/typebridge/PrimitiveType", "isIntegral", "()Z"⟩ : MethodName)) (z := (⟨"com/example/typebridge/typebridge/PrimitiveType", "isIntegral", "()Z"⟩ : MethodName)) hown (mvT hZ (hw _ (List.mem_of_getElem? (i := 17) rfl))) (mvT hZ (hw _ (List.mem_of_getElem? (i := 18) rfl))) (notFace_of_selects (args := #[]) (mvT hZ (hw _ (List.mem_of_getElem? (i := 20) rfl)))) (mvT hZ (hw _ (List.mem_of_getElem? (i := 20) rfl))) (mvT hZ (hw _ (List.mem_of_getElem? (i := 19) rfl))) (by decide) (backOf (W := 0) (rm1 l Z a0 hw [] a_CHAR a_BOOLEAN a_FLOAT a_DOUBLE h0 n0 Z0 S_BOOLEAN S_FLOAT S_DOUBLE) hZ (hw _ (List.mem_of_getElem? (i := 21) rfl)) (hw _ (List.mem_of_getElem? (i := 5) rfl)) (by decide) (by decide)) q25a q25c (g := (mkF m 52 #[.val (.int p1), .val (.int (3 : Int32)), .val (.ref a_CHAR), .val (.int (1 : Int32))] [(.ref a_CHAR)])) rfl (by rw [hml]; rfl) (Steps.refl _) (argsL := []) (rest := []) (lenOf pd_1 rfl) rfl (by show 2 * 0 + _ ≤ _; exact Nat.le_of_eq rfl) (hb hby at_52) (fun _ _ => ⟨rfl, e24, (by decide : 0 + 0 ≤ _), (by decide : 0 + 0 ≤ _)⟩)
    dsimp only [Pt.U, Pt.locs, Pt.cells, Pt.slots] at X25 l25 y25 z25 st25 hQ25
    subst l25 y25 z25
    obtain ⟨hv25, N25q, r25⟩ := hQ25
    rw [(if_neg (fun h => h.elim (own_ne_fld F_CHAR_ordinal F_BOOLEAN_ordinal (by decide)) (fun h => h.elim (own_ne_fld F_CHAR_ordinal F_FLOAT_ordinal (by decide)) (own_ne_fld F_CHAR_ordinal F_DOUBLE_ordinal (by decide)))))] at hv25
    subst hv25
    have N25 := Fr.app N21 N25q
    obtain ⟨fs, hr, hrun, hended, hW, hsame⟩ := X25.leave (v := some (.int (1 : Int32))) (fun h => by rw [Bd.returns] at h; cases h)
    refine ⟨_, _, pre0 _ (R1 _ (R20 _ ?_)), hrun, hended, _, _, rfl, ?_, ⟨_, rfl⟩, hW, hsame.mono (by decide) (by decide)⟩
    · show Steps p.tables e below (s₁.setTop (mkF m 5 #[.val (.int p1), .val (.int (3 : Int32)), .unset, .unset] [])) _
      refine XS.iloadN X0.here hx rfl (hb hby at_5) rfl ?_
      show Steps p.tables e below (s₁.setTop (mkF m 6 #[.val (.int p1), .val (.int (3 : Int32)), .unset, .unset] [(.int (3 : Int32))])) _
      refine st21 _ ?_
      show Steps p.tables e below (T21.setTop (mkF m 9 #[.val (.int p1), .val (.int (3 : Int32)), .unset, .unset] [(.ref a_CHAR)])) _
      refine XS.astoreN X21.here hx rfl (hb hby at_9) rfl rfl (l' := #[.val (.int p1), .val (.int (3 : Int32)), .val (.ref a_CHAR), .unset]) rfl ?_
      show Steps p.tables e below (T21.setTop (mkF m 10 #[.val (.int p1), .val (.int (3 : Int32)), .val (.ref a_CHAR), .unset] [])) _
      refine XS.aloadN X21.here hx rfl (hb hby at_10) rfl rfl ?_
      show Steps p.tables e below (T21.setTop (mkF m 11 #[.val (.int p1), .val (.int (3 : Int32)), .val (.ref a_CHAR), .unset] [(.ref a_CHAR)])) _
      refine st22 _ ?_
      show Steps p.tables e below (T22.setTop (mkF m 14 #[.val (.int p1), .val (.int (3 : Int32)), .val (.ref a_CHAR), .unset] [(.ref a_BYTE), (.ref a_CHAR)])) _
      refine Jvm.RoadKit.acmp (g := (mkF m 14 #[.val (.int p1), .val (.int (3 : Int32)), .val (.ref a_CHAR), .unset] [(.ref a_BYTE), (.ref a_CHAR)])) X22 hx rfl rfl rfl (pc0 := 14) (pc' := 17) (same := false) rfl (hb hby at_14) rfl (decide_eq_false fun q => (own_ne_fld F_CHAR_ordinal F_BYTE_ordinal (by decide)) (Value.ref.inj q)) (by decide) (by decide) ?_
      show Steps p.tables e below (T22.setTop (mkF m 17 #[.val (.int p1), .val (.int (3 : Int32)), .val (.ref a_CHAR), .unset] [])) _
      refine XS.aloadN X22.here hx rfl (hb hby at_17) rfl rfl ?_
      show Steps p.tables e below (T22.setTop (mkF m 18 #[.val (.int p1), .val (.int (3 : Int32)), .val (.ref a_CHAR), .unset] [(.ref a_CHAR)])) _
      refine st23 _ ?_
      show Steps p.tables e below (T23.setTop (mkF m 21 #[.val (.int p1), .val (.int (3 : Int32)), .val (.ref a_CHAR), .unset] [(.ref a_SHORT), (.ref a_CHAR)])) _
      refine Jvm.RoadKit.acmp (g := (mkF m 21 #[.val (.int p1), .val (.int (3 : Int32)), .val (.ref a_CHAR), .unset] [(.ref a_SHORT), (.ref a_CHAR)])) X23 hx rfl rfl rfl (pc0 := 21) (pc' := 24) (same := false) rfl (hb hby at_21) rfl (decide_eq_false fun q => (own_ne_fld F_CHAR_ordinal F_SHORT_ordinal (by decide)) (Value.ref.inj q)) (by decide) (by decide) ?_
      show Steps p.tables e below (T23.setTop (mkF m 24 #[.val (.int p1), .val (.int (3 : Int32)), .val (.ref a_CHAR), .unset] [])) _
      refine XS.aloadN X23.here hx rfl (hb hby at_24) rfl rfl ?_
      show Steps p.tables e below (T23.setTop (mkF m 25 #[.val (.int p1), .val (.int (3 : Int32)), .val (.ref a_CHAR), .unset] [(.ref a_CHAR)])) _
      refine st24 _ ?_
      show Steps p.tables e below (T24.setTop (mkF m 28 #[.val (.int p1), .val (.int (3 : Int32)), .val (.ref a_CHAR), .unset] [(.ref a_CHAR), (.ref a_CHAR)])) _
      refine Jvm.RoadKit.acmp (g := (mkF m 28 #[.val (.int p1), .val (.int (3 : Int32)), .val (.ref a_CHAR), .unset] [(.ref a_CHAR), (.ref a_CHAR)])) X24 hx rfl rfl rfl (pc0 := 28) (pc' := 45) (same := true) rfl (hb hby at_28) rfl (decide_eq_true rfl) (by decide) (by decide) ?_
      show Steps p.tables e below (T24.setTop (mkF m 45 #[.val (.int p1), .val (.int (3 : Int32)), .val (.ref a_CHAR), .unset] [])) _
      refine XS.iconst X24.here hx rfl (hb hby at_45) ?_
      show Steps p.tables e below (T24.setTop (mkF m 46 #[.val (.int p1), .val (.int (3 : Int32)), .val (.ref a_CHAR), .unset] [(.int (1 : Int32))])) _
      refine XS.goto X24.here hx rfl (pc0 := 46) (pc' := 50) rfl (hb hby at_46) (by decide) (by decide) ?_
      show Steps p.tables e below (T24.setTop (mkF m 50 #[.val (.int p1), .val (.int (3 : Int32)), .val (.ref a_CHAR), .unset] [(.int (1 : Int32))])) _
      refine XS.istoreN X24.here hx rfl (hb hby at_50) rfl (l' := #[.val (.int p1), .val (.int (3 : Int32)), .val (.ref a_CHAR), .val (.int (1 : Int32))]) rfl ?_
      show Steps p.tables e below (T24.setTop (mkF m 51 #[.val (.int p1), .val (.int (3 : Int32)), .val (.ref a_CHAR), .val (.int (1 : Int32))] [])) _
      refine XS.aloadN X24.here hx rfl (hb hby at_51) rfl rfl ?_
      show Steps p.tables e below (T24.setTop (mkF m 52 #[.val (.int p1), .val (.int (3 : Int32)), .val (.ref a_CHAR), .val (.int (1 : Int32))] [(.ref a_CHAR)])) _
      refine st25.trans ?_
      show Steps p.tables e below (T25.setTop (mkF m 55 #[.val (.int p1), .val (.int (3 : Int32)), .val (.ref a_CHAR), .val (.int (1 : Int32))] [(.int (1 : Int32))])) _
      refine XS.iloadN X25.here hx rfl (hb hby at_55) rfl ?_
      show Steps p.tables e below (T25.setTop (mkF m 56 #[.val (.int p1), .val (.int (3 : Int32)), .val (.ref a_CHAR), .val (.int (1 : Int32))] [(.int (1 : Int32)), (.int (1 : Int32))])) _
      refine XS.icmpNo X25.here hx rfl (hb hby at_56) rfl (teq (by decide : (1 : Int32) = (1 : Int32))).2 ?_
      show Steps p.tables e below (T25.setTop (mkF m 59 #[.val (.int p1), .val (.int (3 : Int32)), .val (.ref a_CHAR), .val (.int (1 : Int32))] [])) _
      refine XS.iconst X25.here hx rfl (hb hby at_59) ?_
      show Steps p.tables e below (T25.setTop (mkF m 60 #[.val (.int p1), .val (.int (3 : Int32)), .val (.ref a_CHAR), .val (.int (1 : Int32))] [(.int (1 : Int32))])) _
      refine XS.goto X25.here hx rfl (pc0 := 60) (pc' := 64) rfl (hb hby at_60) (by decide) (by decide) ?_
      show Steps p.tables e below (T25.setTop (mkF m 64 #[.val (.int p1), .val (.int (3 : Int32)), .val (.ref a_CHAR), .val (.int (1 : Int32))] [(.int (1 : Int32))])) _
      exact retN X25 hx (t := .boolean) Bd.returns (by simp) (hb hby at_64) hr
    · show Q0 n0 _ T25.heap _
      rw [r25]
      exact ⟨rfl, N25⟩
  · have R26 : ∀ tg, Steps p.tables e below (s₁.setTop (mkF m 5 #[.val (.int p1), .val (.int (4 : Int32)), .unset, .unset] [])) tg → Steps p.tables e below (s₁.setTop (mkF m 5 #[.val (.int p1), .val (.int (p1 &&& (7 : Int32))), .unset, .unset] [])) tg := fun tg kt => by rw [hk2]; exact kt
    obtain ⟨_, _, ⟨T27, L27, k27, n27⟩, -, X27, ⟨Lc27, hQ27, l27, y27, z27⟩, st27⟩ := Jvm.LawKit.callS X0 hx (y := (⟨"com/example/typebridge/typebridge/PrimitiveTypeIsIntegralPinLaw", "pick", "(I)Lcom/example/typebridge/typebridge/PrimitiveType;"⟩ : MethodName)) hown (mvT hZ (hw _ (List.mem_of_getElem? (i := 0) rfl))) (mvT hZ (hw _ (List.mem_of_getElem? (i := 1) rfl))) (mvT hZ (hw _ (List.mem_of_getElem? (i := 2) rfl))) (mvT hZ (hw _ (List.mem_of_getElem? (i := 3) rfl))) (by decide) (backOf (W := 0) (rmP l Z a0 hw [] (4 : Int32) a_BOOLEAN a_BYTE a_SHORT a_CHAR a_INT a_LONG a_FLOAT a_DOUBLE h0 n0 Z0 S_BOOLEAN S_BYTE S_SHORT S_CHAR S_INT S_LONG S_FLOAT S_DOUBLE) hZ (hw _ (List.mem_of_getElem? (i := 3) rfl)) (hw _ (List.mem_of_getElem? (i := 2) rfl)) (by decide) (by decide)) (g := (mkF m 6 #[.val (.int p1), .val (.int (4 : Int32)), .unset, .unset] [(.int (4 : Int32))])) rfl (by rw [hml]; rfl) (argsL := [(.int (4 : Int32))]) (rest := []) (lenOf pd_0 rfl) rfl (by show 2 * 0 + _ ≤ _; exact Nat.le_of_eq rfl) (hb hby at_6) (fun _ _ => ⟨rfl, e0, (by decide : 0 + 0 ≤ _), (by decide : 0 + 0 ≤ _)⟩)
    dsimp only [Pt.U, Pt.locs, Pt.cells, Pt.slots] at X27 l27 y27 z27 st27 hQ27
    subst l27 y27 z27
    obtain ⟨hv27, N27q, r27⟩ := hQ27
    rw [if_neg (by decide), if_neg (by decide), if_neg (by decide), if_neg (by decide), if_pos rfl] at hv27
    subst hv27
    have N27 := Fr.app N0 N27q
    obtain ⟨T28, X28, e28, st28⟩ := getS2 X27 hx hZ hown (host := "") (Or.inl (hw _ (List.mem_of_getElem? (i := 7) rfl))) Via.refl r27 S_BYTE (g := (mkF m 11 #[.val (.int p1), .val (.int (4 : Int32)), .val (.ref a_INT), .unset] [(.ref a_INT)])) rfl (hb hby at_11)
    obtain ⟨T29, X29, e29, st29⟩ := getS2 X28 hx hZ hown (host := "") (Or.inl (hw _ (List.mem_of_getElem? (i := 9) rfl))) Via.refl e28 S_SHORT (g := (mkF m 18 #[.val (.int p1), .val (.int (4 : Int32)), .val (.ref a_INT), .unset] [(.ref a_INT)])) rfl (hb hby at_18)
    obtain ⟨T30, X30, e30, st30⟩ := getS2 X29 hx hZ hown (host := "") (Or.inl (hw _ (List.mem_of_getElem? (i := 11) rfl))) Via.refl e29 S_CHAR (g := (mkF m 25 #[.val (.int p1), .val (.int (4 : Int32)), .val (.ref a_INT), .unset] [(.ref a_INT)])) rfl (hb hby at_25)
    obtain ⟨T31, X31, e31, st31⟩ := getS2 X30 hx hZ hown (host := "") (Or.inl (hw _ (List.mem_of_getElem? (i := 13) rfl))) Via.refl e30 S_INT (g := (mkF m 32 #[.val (.int p1), .val (.int (4 : Int32)), .val (.ref a_INT), .unset] [(.ref a_INT)])) rfl (hb hby at_32)
    obtain ⟨cq32, kq32, q32a, q32b, q32c⟩ := isOf hZ e31 E_INT
    obtain ⟨_, _, ⟨T32, L32, k32, n32⟩, -, X32, ⟨Lc32, hQ32, l32, y32, z32⟩, st32⟩ := X31.virtualBack hx (y := (⟨"com/example/typebridge/typebridge/PrimitiveType", "isIntegral", "()Z"⟩ : MethodName)) (z := (⟨"com/example/typebridge/typebridge/PrimitiveType", "isIntegral", "()Z"⟩ : MethodName)) hown (mvT hZ (hw _ (List.mem_of_getElem? (i := 17) rfl))) (mvT hZ (hw _ (List.mem_of_getElem? (i := 18) rfl))) (notFace_of_selects (args := #[]) (mvT hZ (hw _ (List.mem_of_getElem? (i := 20) rfl)))) (mvT hZ (hw _ (List.mem_of_getElem? (i := 20) rfl))) (mvT hZ (hw _ (List.mem_of_getElem? (i := 19) rfl))) (by decide) (backOf (W := 0) (rm1 l Z a0 hw [] a_INT a_BOOLEAN a_FLOAT a_DOUBLE h0 n0 Z0 S_BOOLEAN S_FLOAT S_DOUBLE) hZ (hw _ (List.mem_of_getElem? (i := 21) rfl)) (hw _ (List.mem_of_getElem? (i := 5) rfl)) (by decide) (by decide)) q32a q32c (g := (mkF m 52 #[.val (.int p1), .val (.int (4 : Int32)), .val (.ref a_INT), .val (.int (1 : Int32))] [(.ref a_INT)])) rfl (by rw [hml]; rfl) (Steps.refl _) (argsL := []) (rest := []) (lenOf pd_1 rfl) rfl (by show 2 * 0 + _ ≤ _; exact Nat.le_of_eq rfl) (hb hby at_52) (fun _ _ => ⟨rfl, e31, (by decide : 0 + 0 ≤ _), (by decide : 0 + 0 ≤ _)⟩)
    dsimp only [Pt.U, Pt.locs, Pt.cells, Pt.slots] at X32 l32 y32 z32 st32 hQ32
    subst l32 y32 z32
    obtain ⟨hv32, N32q, r32⟩ := hQ32
    rw [(if_neg (fun h => h.elim (own_ne_fld F_INT_ordinal F_BOOLEAN_ordinal (by decide)) (fun h => h.elim (own_ne_fld F_INT_ordinal F_FLOAT_ordinal (by decide)) (own_ne_fld F_INT_ordinal F_DOUBLE_ordinal (by decide)))))] at hv32
    subst hv32
    have N32 := Fr.app N27 N32q
    obtain ⟨fs, hr, hrun, hended, hW, hsame⟩ := X32.leave (v := some (.int (1 : Int32))) (fun h => by rw [Bd.returns] at h; cases h)
    refine ⟨_, _, pre0 _ (R1 _ (R26 _ ?_)), hrun, hended, _, _, rfl, ?_, ⟨_, rfl⟩, hW, hsame.mono (by decide) (by decide)⟩
    · show Steps p.tables e below (s₁.setTop (mkF m 5 #[.val (.int p1), .val (.int (4 : Int32)), .unset, .unset] [])) _
      refine XS.iloadN X0.here hx rfl (hb hby at_5) rfl ?_
      show Steps p.tables e below (s₁.setTop (mkF m 6 #[.val (.int p1), .val (.int (4 : Int32)), .unset, .unset] [(.int (4 : Int32))])) _
      refine st27 _ ?_
      show Steps p.tables e below (T27.setTop (mkF m 9 #[.val (.int p1), .val (.int (4 : Int32)), .unset, .unset] [(.ref a_INT)])) _
      refine XS.astoreN X27.here hx rfl (hb hby at_9) rfl rfl (l' := #[.val (.int p1), .val (.int (4 : Int32)), .val (.ref a_INT), .unset]) rfl ?_
      show Steps p.tables e below (T27.setTop (mkF m 10 #[.val (.int p1), .val (.int (4 : Int32)), .val (.ref a_INT), .unset] [])) _
      refine XS.aloadN X27.here hx rfl (hb hby at_10) rfl rfl ?_
      show Steps p.tables e below (T27.setTop (mkF m 11 #[.val (.int p1), .val (.int (4 : Int32)), .val (.ref a_INT), .unset] [(.ref a_INT)])) _
      refine st28 _ ?_
      show Steps p.tables e below (T28.setTop (mkF m 14 #[.val (.int p1), .val (.int (4 : Int32)), .val (.ref a_INT), .unset] [(.ref a_BYTE), (.ref a_INT)])) _
      refine Jvm.RoadKit.acmp (g := (mkF m 14 #[.val (.int p1), .val (.int (4 : Int32)), .val (.ref a_INT), .unset] [(.ref a_BYTE), (.ref a_INT)])) X28 hx rfl rfl rfl (pc0 := 14) (pc' := 17) (same := false) rfl (hb hby at_14) rfl (decide_eq_false fun q => (own_ne_fld F_INT_ordinal F_BYTE_ordinal (by decide)) (Value.ref.inj q)) (by decide) (by decide) ?_
      show Steps p.tables e below (T28.setTop (mkF m 17 #[.val (.int p1), .val (.int (4 : Int32)), .val (.ref a_INT), .unset] [])) _
      refine XS.aloadN X28.here hx rfl (hb hby at_17) rfl rfl ?_
      show Steps p.tables e below (T28.setTop (mkF m 18 #[.val (.int p1), .val (.int (4 : Int32)), .val (.ref a_INT), .unset] [(.ref a_INT)])) _
      refine st29 _ ?_
      show Steps p.tables e below (T29.setTop (mkF m 21 #[.val (.int p1), .val (.int (4 : Int32)), .val (.ref a_INT), .unset] [(.ref a_SHORT), (.ref a_INT)])) _
      refine Jvm.RoadKit.acmp (g := (mkF m 21 #[.val (.int p1), .val (.int (4 : Int32)), .val (.ref a_INT), .unset] [(.ref a_SHORT), (.ref a_INT)])) X29 hx rfl rfl rfl (pc0 := 21) (pc' := 24) (same := false) rfl (hb hby at_21) rfl (decide_eq_false fun q => (own_ne_fld F_INT_ordinal F_SHORT_ordinal (by decide)) (Value.ref.inj q)) (by decide) (by decide) ?_
      show Steps p.tables e below (T29.setTop (mkF m 24 #[.val (.int p1), .val (.int (4 : Int32)), .val (.ref a_INT), .unset] [])) _
      refine XS.aloadN X29.here hx rfl (hb hby at_24) rfl rfl ?_
      show Steps p.tables e below (T29.setTop (mkF m 25 #[.val (.int p1), .val (.int (4 : Int32)), .val (.ref a_INT), .unset] [(.ref a_INT)])) _
      refine st30 _ ?_
      show Steps p.tables e below (T30.setTop (mkF m 28 #[.val (.int p1), .val (.int (4 : Int32)), .val (.ref a_INT), .unset] [(.ref a_CHAR), (.ref a_INT)])) _
      refine Jvm.RoadKit.acmp (g := (mkF m 28 #[.val (.int p1), .val (.int (4 : Int32)), .val (.ref a_INT), .unset] [(.ref a_CHAR), (.ref a_INT)])) X30 hx rfl rfl rfl (pc0 := 28) (pc' := 31) (same := false) rfl (hb hby at_28) rfl (decide_eq_false fun q => (own_ne_fld F_INT_ordinal F_CHAR_ordinal (by decide)) (Value.ref.inj q)) (by decide) (by decide) ?_
      show Steps p.tables e below (T30.setTop (mkF m 31 #[.val (.int p1), .val (.int (4 : Int32)), .val (.ref a_INT), .unset] [])) _
      refine XS.aloadN X30.here hx rfl (hb hby at_31) rfl rfl ?_
      show Steps p.tables e below (T30.setTop (mkF m 32 #[.val (.int p1), .val (.int (4 : Int32)), .val (.ref a_INT), .unset] [(.ref a_INT)])) _
      refine st31 _ ?_
      show Steps p.tables e below (T31.setTop (mkF m 35 #[.val (.int p1), .val (.int (4 : Int32)), .val (.ref a_INT), .unset] [(.ref a_INT), (.ref a_INT)])) _
      refine Jvm.RoadKit.acmp (g := (mkF m 35 #[.val (.int p1), .val (.int (4 : Int32)), .val (.ref a_INT), .unset] [(.ref a_INT), (.ref a_INT)])) X31 hx rfl rfl rfl (pc0 := 35) (pc' := 45) (same := true) rfl (hb hby at_35) rfl (decide_eq_true rfl) (by decide) (by decide) ?_
      show Steps p.tables e below (T31.setTop (mkF m 45 #[.val (.int p1), .val (.int (4 : Int32)), .val (.ref a_INT), .unset] [])) _
      refine XS.iconst X31.here hx rfl (hb hby at_45) ?_
      show Steps p.tables e below (T31.setTop (mkF m 46 #[.val (.int p1), .val (.int (4 : Int32)), .val (.ref a_INT), .unset] [(.int (1 : Int32))])) _
      refine XS.goto X31.here hx rfl (pc0 := 46) (pc' := 50) rfl (hb hby at_46) (by decide) (by decide) ?_
      show Steps p.tables e below (T31.setTop (mkF m 50 #[.val (.int p1), .val (.int (4 : Int32)), .val (.ref a_INT), .unset] [(.int (1 : Int32))])) _
      refine XS.istoreN X31.here hx rfl (hb hby at_50) rfl (l' := #[.val (.int p1), .val (.int (4 : Int32)), .val (.ref a_INT), .val (.int (1 : Int32))]) rfl ?_
      show Steps p.tables e below (T31.setTop (mkF m 51 #[.val (.int p1), .val (.int (4 : Int32)), .val (.ref a_INT), .val (.int (1 : Int32))] [])) _
      refine XS.aloadN X31.here hx rfl (hb hby at_51) rfl rfl ?_
      show Steps p.tables e below (T31.setTop (mkF m 52 #[.val (.int p1), .val (.int (4 : Int32)), .val (.ref a_INT), .val (.int (1 : Int32))] [(.ref a_INT)])) _
      refine st32.trans ?_
      show Steps p.tables e below (T32.setTop (mkF m 55 #[.val (.int p1), .val (.int (4 : Int32)), .val (.ref a_INT), .val (.int (1 : Int32))] [(.int (1 : Int32))])) _
      refine XS.iloadN X32.here hx rfl (hb hby at_55) rfl ?_
      show Steps p.tables e below (T32.setTop (mkF m 56 #[.val (.int p1), .val (.int (4 : Int32)), .val (.ref a_INT), .val (.int (1 : Int32))] [(.int (1 : Int32)), (.int (1 : Int32))])) _
      refine XS.icmpNo X32.here hx rfl (hb hby at_56) rfl (teq (by decide : (1 : Int32) = (1 : Int32))).2 ?_
      show Steps p.tables e below (T32.setTop (mkF m 59 #[.val (.int p1), .val (.int (4 : Int32)), .val (.ref a_INT), .val (.int (1 : Int32))] [])) _
      refine XS.iconst X32.here hx rfl (hb hby at_59) ?_
      show Steps p.tables e below (T32.setTop (mkF m 60 #[.val (.int p1), .val (.int (4 : Int32)), .val (.ref a_INT), .val (.int (1 : Int32))] [(.int (1 : Int32))])) _
      refine XS.goto X32.here hx rfl (pc0 := 60) (pc' := 64) rfl (hb hby at_60) (by decide) (by decide) ?_
      show Steps p.tables e below (T32.setTop (mkF m 64 #[.val (.int p1), .val (.int (4 : Int32)), .val (.ref a_INT), .val (.int (1 : Int32))] [(.int (1 : Int32))])) _
      exact retN X32 hx (t := .boolean) Bd.returns (by simp) (hb hby at_64) hr
    · show Q0 n0 _ T32.heap _
      rw [r32]
      exact ⟨rfl, N32⟩
  · have R33 : ∀ tg, Steps p.tables e below (s₁.setTop (mkF m 5 #[.val (.int p1), .val (.int (5 : Int32)), .unset, .unset] [])) tg → Steps p.tables e below (s₁.setTop (mkF m 5 #[.val (.int p1), .val (.int (p1 &&& (7 : Int32))), .unset, .unset] [])) tg := fun tg kt => by rw [hk2]; exact kt
    obtain ⟨_, _, ⟨T34, L34, k34, n34⟩, -, X34, ⟨Lc34, hQ34, l34, y34, z34⟩, st34⟩ := Jvm.LawKit.callS X0 hx (y := (⟨"com/example/typebridge/typebridge/PrimitiveTypeIsIntegralPinLaw", "pick", "(I)Lcom/example/typebridge/typebridge/PrimitiveType;"⟩ : MethodName)) hown (mvT hZ (hw _ (List.mem_of_getElem? (i := 0) rfl))) (mvT hZ (hw _ (List.mem_of_getElem? (i := 1) rfl))) (mvT hZ (hw _ (List.mem_of_getElem? (i := 2) rfl))) (mvT hZ (hw _ (List.mem_of_getElem? (i := 3) rfl))) (by decide) (backOf (W := 0) (rmP l Z a0 hw [] (5 : Int32) a_BOOLEAN a_BYTE a_SHORT a_CHAR a_INT a_LONG a_FLOAT a_DOUBLE h0 n0 Z0 S_BOOLEAN S_BYTE S_SHORT S_CHAR S_INT S_LONG S_FLOAT S_DOUBLE) hZ (hw _ (List.mem_of_getElem? (i := 3) rfl)) (hw _ (List.mem_of_getElem? (i := 2) rfl)) (by decide) (by decide)) (g := (mkF m 6 #[.val (.int p1), .val (.int (5 : Int32)), .unset, .unset] [(.int (5 : Int32))])) rfl (by rw [hml]; rfl) (argsL := [(.int (5 : Int32))]) (rest := []) (lenOf pd_0 rfl) rfl (by show 2 * 0 + _ ≤ _; exact Nat.le_of_eq rfl) (hb hby at_6) (fun _ _ => ⟨rfl, e0, (by decide : 0 + 0 ≤ _), (by decide : 0 + 0 ≤ _)⟩)
    dsimp only [Pt.U, Pt.locs, Pt.cells, Pt.slots] at X34 l34 y34 z34 st34 hQ34
    subst l34 y34 z34
    obtain ⟨hv34, N34q, r34⟩ := hQ34
    rw [if_neg (by decide), if_neg (by decide), if_neg (by decide), if_neg (by decide), if_neg (by decide), if_pos rfl] at hv34
    subst hv34
    have N34 := Fr.app N0 N34q
    obtain ⟨T35, X35, e35, st35⟩ := getS2 X34 hx hZ hown (host := "") (Or.inl (hw _ (List.mem_of_getElem? (i := 7) rfl))) Via.refl r34 S_BYTE (g := (mkF m 11 #[.val (.int p1), .val (.int (5 : Int32)), .val (.ref a_LONG), .unset] [(.ref a_LONG)])) rfl (hb hby at_11)
    obtain ⟨T36, X36, e36, st36⟩ := getS2 X35 hx hZ hown (host := "") (Or.inl (hw _ (List.mem_of_getElem? (i := 9) rfl))) Via.refl e35 S_SHORT (g := (mkF m 18 #[.val (.int p1), .val (.int (5 : Int32)), .val (.ref a_LONG), .unset] [(.ref a_LONG)])) rfl (hb hby at_18)
    obtain ⟨T37, X37, e37, st37⟩ := getS2 X36 hx hZ hown (host := "") (Or.inl (hw _ (List.mem_of_getElem? (i := 11) rfl))) Via.refl e36 S_CHAR (g := (mkF m 25 #[.val (.int p1), .val (.int (5 : Int32)), .val (.ref a_LONG), .unset] [(.ref a_LONG)])) rfl (hb hby at_25)
    obtain ⟨T38, X38, e38, st38⟩ := getS2 X37 hx hZ hown (host := "") (Or.inl (hw _ (List.mem_of_getElem? (i := 13) rfl))) Via.refl e37 S_INT (g := (mkF m 32 #[.val (.int p1), .val (.int (5 : Int32)), .val (.ref a_LONG), .unset] [(.ref a_LONG)])) rfl (hb hby at_32)
    obtain ⟨T39, X39, e39, st39⟩ := getS2 X38 hx hZ hown (host := "") (Or.inl (hw _ (List.mem_of_getElem? (i := 15) rfl))) Via.refl e38 S_LONG (g := (mkF m 39 #[.val (.int p1), .val (.int (5 : Int32)), .val (.ref a_LONG), .unset] [(.ref a_LONG)])) rfl (hb hby at_39)
    obtain ⟨cq40, kq40, q40a, q40b, q40c⟩ := isOf hZ e39 E_LONG
    obtain ⟨_, _, ⟨T40, L40, k40, n40⟩, -, X40, ⟨Lc40, hQ40, l40, y40, z40⟩, st40⟩ := X39.virtualBack hx (y := (⟨"com/example/typebridge/typebridge/PrimitiveType", "isIntegral", "()Z"⟩ : MethodName)) (z := (⟨"com/example/typebridge/typebridge/PrimitiveType", "isIntegral", "()Z"⟩ : MethodName)) hown (mvT hZ (hw _ (List.mem_of_getElem? (i := 17) rfl))) (mvT hZ (hw _ (List.mem_of_getElem? (i := 18) rfl))) (notFace_of_selects (args := #[]) (mvT hZ (hw _ (List.mem_of_getElem? (i := 20) rfl)))) (mvT hZ (hw _ (List.mem_of_getElem? (i := 20) rfl))) (mvT hZ (hw _ (List.mem_of_getElem? (i := 19) rfl))) (by decide) (backOf (W := 0) (rm1 l Z a0 hw [] a_LONG a_BOOLEAN a_FLOAT a_DOUBLE h0 n0 Z0 S_BOOLEAN S_FLOAT S_DOUBLE) hZ (hw _ (List.mem_of_getElem? (i := 21) rfl)) (hw _ (List.mem_of_getElem? (i := 5) rfl)) (by decide) (by decide)) q40a q40c (g := (mkF m 52 #[.val (.int p1), .val (.int (5 : Int32)), .val (.ref a_LONG), .val (.int (1 : Int32))] [(.ref a_LONG)])) rfl (by rw [hml]; rfl) (Steps.refl _) (argsL := []) (rest := []) (lenOf pd_1 rfl) rfl (by show 2 * 0 + _ ≤ _; exact Nat.le_of_eq rfl) (hb hby at_52) (fun _ _ => ⟨rfl, e39, (by decide : 0 + 0 ≤ _), (by decide : 0 + 0 ≤ _)⟩)
    dsimp only [Pt.U, Pt.locs, Pt.cells, Pt.slots] at X40 l40 y40 z40 st40 hQ40
    subst l40 y40 z40
    obtain ⟨hv40, N40q, r40⟩ := hQ40
    rw [(if_neg (fun h => h.elim (own_ne_fld F_LONG_ordinal F_BOOLEAN_ordinal (by decide)) (fun h => h.elim (own_ne_fld F_LONG_ordinal F_FLOAT_ordinal (by decide)) (own_ne_fld F_LONG_ordinal F_DOUBLE_ordinal (by decide)))))] at hv40
    subst hv40
    have N40 := Fr.app N34 N40q
    obtain ⟨fs, hr, hrun, hended, hW, hsame⟩ := X40.leave (v := some (.int (1 : Int32))) (fun h => by rw [Bd.returns] at h; cases h)
    refine ⟨_, _, pre0 _ (R1 _ (R33 _ ?_)), hrun, hended, _, _, rfl, ?_, ⟨_, rfl⟩, hW, hsame.mono (by decide) (by decide)⟩
    · show Steps p.tables e below (s₁.setTop (mkF m 5 #[.val (.int p1), .val (.int (5 : Int32)), .unset, .unset] [])) _
      refine XS.iloadN X0.here hx rfl (hb hby at_5) rfl ?_
      show Steps p.tables e below (s₁.setTop (mkF m 6 #[.val (.int p1), .val (.int (5 : Int32)), .unset, .unset] [(.int (5 : Int32))])) _
      refine st34 _ ?_
      show Steps p.tables e below (T34.setTop (mkF m 9 #[.val (.int p1), .val (.int (5 : Int32)), .unset, .unset] [(.ref a_LONG)])) _
      refine XS.astoreN X34.here hx rfl (hb hby at_9) rfl rfl (l' := #[.val (.int p1), .val (.int (5 : Int32)), .val (.ref a_LONG), .unset]) rfl ?_
      show Steps p.tables e below (T34.setTop (mkF m 10 #[.val (.int p1), .val (.int (5 : Int32)), .val (.ref a_LONG), .unset] [])) _
      refine XS.aloadN X34.here hx rfl (hb hby at_10) rfl rfl ?_
      show Steps p.tables e below (T34.setTop (mkF m 11 #[.val (.int p1), .val (.int (5 : Int32)), .val (.ref a_LONG), .unset] [(.ref a_LONG)])) _
      refine st35 _ ?_
      show Steps p.tables e below (T35.setTop (mkF m 14 #[.val (.int p1), .val (.int (5 : Int32)), .val (.ref a_LONG), .unset] [(.ref a_BYTE), (.ref a_LONG)])) _
      refine Jvm.RoadKit.acmp (g := (mkF m 14 #[.val (.int p1), .val (.int (5 : Int32)), .val (.ref a_LONG), .unset] [(.ref a_BYTE), (.ref a_LONG)])) X35 hx rfl rfl rfl (pc0 := 14) (pc' := 17) (same := false) rfl (hb hby at_14) rfl (decide_eq_false fun q => (own_ne_fld F_LONG_ordinal F_BYTE_ordinal (by decide)) (Value.ref.inj q)) (by decide) (by decide) ?_
      show Steps p.tables e below (T35.setTop (mkF m 17 #[.val (.int p1), .val (.int (5 : Int32)), .val (.ref a_LONG), .unset] [])) _
      refine XS.aloadN X35.here hx rfl (hb hby at_17) rfl rfl ?_
      show Steps p.tables e below (T35.setTop (mkF m 18 #[.val (.int p1), .val (.int (5 : Int32)), .val (.ref a_LONG), .unset] [(.ref a_LONG)])) _
      refine st36 _ ?_
      show Steps p.tables e below (T36.setTop (mkF m 21 #[.val (.int p1), .val (.int (5 : Int32)), .val (.ref a_LONG), .unset] [(.ref a_SHORT), (.ref a_LONG)])) _
      refine Jvm.RoadKit.acmp (g := (mkF m 21 #[.val (.int p1), .val (.int (5 : Int32)), .val (.ref a_LONG), .unset] [(.ref a_SHORT), (.ref a_LONG)])) X36 hx rfl rfl rfl (pc0 := 21) (pc' := 24) (same := false) rfl (hb hby at_21) rfl (decide_eq_false fun q => (own_ne_fld F_LONG_ordinal F_SHORT_ordinal (by decide)) (Value.ref.inj q)) (by decide) (by decide) ?_
      show Steps p.tables e below (T36.setTop (mkF m 24 #[.val (.int p1), .val (.int (5 : Int32)), .val (.ref a_LONG), .unset] [])) _
      refine XS.aloadN X36.here hx rfl (hb hby at_24) rfl rfl ?_
      show Steps p.tables e below (T36.setTop (mkF m 25 #[.val (.int p1), .val (.int (5 : Int32)), .val (.ref a_LONG), .unset] [(.ref a_LONG)])) _
      refine st37 _ ?_
      show Steps p.tables e below (T37.setTop (mkF m 28 #[.val (.int p1), .val (.int (5 : Int32)), .val (.ref a_LONG), .unset] [(.ref a_CHAR), (.ref a_LONG)])) _
      refine Jvm.RoadKit.acmp (g := (mkF m 28 #[.val (.int p1), .val (.int (5 : Int32)), .val (.ref a_LONG), .unset] [(.ref a_CHAR), (.ref a_LONG)])) X37 hx rfl rfl rfl (pc0 := 28) (pc' := 31) (same := false) rfl (hb hby at_28) rfl (decide_eq_false fun q => (own_ne_fld F_LONG_ordinal F_CHAR_ordinal (by decide)) (Value.ref.inj q)) (by decide) (by decide) ?_
      show Steps p.tables e below (T37.setTop (mkF m 31 #[.val (.int p1), .val (.int (5 : Int32)), .val (.ref a_LONG), .unset] [])) _
      refine XS.aloadN X37.here hx rfl (hb hby at_31) rfl rfl ?_
      show Steps p.tables e below (T37.setTop (mkF m 32 #[.val (.int p1), .val (.int (5 : Int32)), .val (.ref a_LONG), .unset] [(.ref a_LONG)])) _
      refine st38 _ ?_
      show Steps p.tables e below (T38.setTop (mkF m 35 #[.val (.int p1), .val (.int (5 : Int32)), .val (.ref a_LONG), .unset] [(.ref a_INT), (.ref a_LONG)])) _
      refine Jvm.RoadKit.acmp (g := (mkF m 35 #[.val (.int p1), .val (.int (5 : Int32)), .val (.ref a_LONG), .unset] [(.ref a_INT), (.ref a_LONG)])) X38 hx rfl rfl rfl (pc0 := 35) (pc' := 38) (same := false) rfl (hb hby at_35) rfl (decide_eq_false fun q => (own_ne_fld F_LONG_ordinal F_INT_ordinal (by decide)) (Value.ref.inj q)) (by decide) (by decide) ?_
      show Steps p.tables e below (T38.setTop (mkF m 38 #[.val (.int p1), .val (.int (5 : Int32)), .val (.ref a_LONG), .unset] [])) _
      refine XS.aloadN X38.here hx rfl (hb hby at_38) rfl rfl ?_
      show Steps p.tables e below (T38.setTop (mkF m 39 #[.val (.int p1), .val (.int (5 : Int32)), .val (.ref a_LONG), .unset] [(.ref a_LONG)])) _
      refine st39 _ ?_
      show Steps p.tables e below (T39.setTop (mkF m 42 #[.val (.int p1), .val (.int (5 : Int32)), .val (.ref a_LONG), .unset] [(.ref a_LONG), (.ref a_LONG)])) _
      refine Jvm.RoadKit.acmp (g := (mkF m 42 #[.val (.int p1), .val (.int (5 : Int32)), .val (.ref a_LONG), .unset] [(.ref a_LONG), (.ref a_LONG)])) X39 hx rfl rfl rfl (pc0 := 42) (pc' := 45) (same := true) rfl (hb hby at_42) rfl (decide_eq_true rfl) (by decide) (by decide) ?_
      show Steps p.tables e below (T39.setTop (mkF m 45 #[.val (.int p1), .val (.int (5 : Int32)), .val (.ref a_LONG), .unset] [])) _
      refine XS.iconst X39.here hx rfl (hb hby at_45) ?_
      show Steps p.tables e below (T39.setTop (mkF m 46 #[.val (.int p1), .val (.int (5 : Int32)), .val (.ref a_LONG), .unset] [(.int (1 : Int32))])) _
      refine XS.goto X39.here hx rfl (pc0 := 46) (pc' := 50) rfl (hb hby at_46) (by decide) (by decide) ?_
      show Steps p.tables e below (T39.setTop (mkF m 50 #[.val (.int p1), .val (.int (5 : Int32)), .val (.ref a_LONG), .unset] [(.int (1 : Int32))])) _
      refine XS.istoreN X39.here hx rfl (hb hby at_50) rfl (l' := #[.val (.int p1), .val (.int (5 : Int32)), .val (.ref a_LONG), .val (.int (1 : Int32))]) rfl ?_
      show Steps p.tables e below (T39.setTop (mkF m 51 #[.val (.int p1), .val (.int (5 : Int32)), .val (.ref a_LONG), .val (.int (1 : Int32))] [])) _
      refine XS.aloadN X39.here hx rfl (hb hby at_51) rfl rfl ?_
      show Steps p.tables e below (T39.setTop (mkF m 52 #[.val (.int p1), .val (.int (5 : Int32)), .val (.ref a_LONG), .val (.int (1 : Int32))] [(.ref a_LONG)])) _
      refine st40.trans ?_
      show Steps p.tables e below (T40.setTop (mkF m 55 #[.val (.int p1), .val (.int (5 : Int32)), .val (.ref a_LONG), .val (.int (1 : Int32))] [(.int (1 : Int32))])) _
      refine XS.iloadN X40.here hx rfl (hb hby at_55) rfl ?_
      show Steps p.tables e below (T40.setTop (mkF m 56 #[.val (.int p1), .val (.int (5 : Int32)), .val (.ref a_LONG), .val (.int (1 : Int32))] [(.int (1 : Int32)), (.int (1 : Int32))])) _
      refine XS.icmpNo X40.here hx rfl (hb hby at_56) rfl (teq (by decide : (1 : Int32) = (1 : Int32))).2 ?_
      show Steps p.tables e below (T40.setTop (mkF m 59 #[.val (.int p1), .val (.int (5 : Int32)), .val (.ref a_LONG), .val (.int (1 : Int32))] [])) _
      refine XS.iconst X40.here hx rfl (hb hby at_59) ?_
      show Steps p.tables e below (T40.setTop (mkF m 60 #[.val (.int p1), .val (.int (5 : Int32)), .val (.ref a_LONG), .val (.int (1 : Int32))] [(.int (1 : Int32))])) _
      refine XS.goto X40.here hx rfl (pc0 := 60) (pc' := 64) rfl (hb hby at_60) (by decide) (by decide) ?_
      show Steps p.tables e below (T40.setTop (mkF m 64 #[.val (.int p1), .val (.int (5 : Int32)), .val (.ref a_LONG), .val (.int (1 : Int32))] [(.int (1 : Int32))])) _
      exact retN X40 hx (t := .boolean) Bd.returns (by simp) (hb hby at_64) hr
    · show Q0 n0 _ T40.heap _
      rw [r40]
      exact ⟨rfl, N40⟩
  · have R41 : ∀ tg, Steps p.tables e below (s₁.setTop (mkF m 5 #[.val (.int p1), .val (.int (6 : Int32)), .unset, .unset] [])) tg → Steps p.tables e below (s₁.setTop (mkF m 5 #[.val (.int p1), .val (.int (p1 &&& (7 : Int32))), .unset, .unset] [])) tg := fun tg kt => by rw [hk2]; exact kt
    obtain ⟨_, _, ⟨T42, L42, k42, n42⟩, -, X42, ⟨Lc42, hQ42, l42, y42, z42⟩, st42⟩ := Jvm.LawKit.callS X0 hx (y := (⟨"com/example/typebridge/typebridge/PrimitiveTypeIsIntegralPinLaw", "pick", "(I)Lcom/example/typebridge/typebridge/PrimitiveType;"⟩ : MethodName)) hown (mvT hZ (hw _ (List.mem_of_getElem? (i := 0) rfl))) (mvT hZ (hw _ (List.mem_of_getElem? (i := 1) rfl))) (mvT hZ (hw _ (List.mem_of_getElem? (i := 2) rfl))) (mvT hZ (hw _ (List.mem_of_getElem? (i := 3) rfl))) (by decide) (backOf (W := 0) (rmP l Z a0 hw [] (6 : Int32) a_BOOLEAN a_BYTE a_SHORT a_CHAR a_INT a_LONG a_FLOAT a_DOUBLE h0 n0 Z0 S_BOOLEAN S_BYTE S_SHORT S_CHAR S_INT S_LONG S_FLOAT S_DOUBLE) hZ (hw _ (List.mem_of_getElem? (i := 3) rfl)) (hw _ (List.mem_of_getElem? (i := 2) rfl)) (by decide) (by decide)) (g := (mkF m 6 #[.val (.int p1), .val (.int (6 : Int32)), .unset, .unset] [(.int (6 : Int32))])) rfl (by rw [hml]; rfl) (argsL := [(.int (6 : Int32))]) (rest := []) (lenOf pd_0 rfl) rfl (by show 2 * 0 + _ ≤ _; exact Nat.le_of_eq rfl) (hb hby at_6) (fun _ _ => ⟨rfl, e0, (by decide : 0 + 0 ≤ _), (by decide : 0 + 0 ≤ _)⟩)
    dsimp only [Pt.U, Pt.locs, Pt.cells, Pt.slots] at X42 l42 y42 z42 st42 hQ42
    subst l42 y42 z42
    obtain ⟨hv42, N42q, r42⟩ := hQ42
    rw [if_neg (by decide), if_neg (by decide), if_neg (by decide), if_neg (by decide), if_neg (by decide), if_neg (by decide), if_pos rfl] at hv42
    subst hv42
    have N42 := Fr.app N0 N42q
    obtain ⟨T43, X43, e43, st43⟩ := getS2 X42 hx hZ hown (host := "") (Or.inl (hw _ (List.mem_of_getElem? (i := 7) rfl))) Via.refl r42 S_BYTE (g := (mkF m 11 #[.val (.int p1), .val (.int (6 : Int32)), .val (.ref a_FLOAT), .unset] [(.ref a_FLOAT)])) rfl (hb hby at_11)
    obtain ⟨T44, X44, e44, st44⟩ := getS2 X43 hx hZ hown (host := "") (Or.inl (hw _ (List.mem_of_getElem? (i := 9) rfl))) Via.refl e43 S_SHORT (g := (mkF m 18 #[.val (.int p1), .val (.int (6 : Int32)), .val (.ref a_FLOAT), .unset] [(.ref a_FLOAT)])) rfl (hb hby at_18)
    obtain ⟨T45, X45, e45, st45⟩ := getS2 X44 hx hZ hown (host := "") (Or.inl (hw _ (List.mem_of_getElem? (i := 11) rfl))) Via.refl e44 S_CHAR (g := (mkF m 25 #[.val (.int p1), .val (.int (6 : Int32)), .val (.ref a_FLOAT), .unset] [(.ref a_FLOAT)])) rfl (hb hby at_25)
    obtain ⟨T46, X46, e46, st46⟩ := getS2 X45 hx hZ hown (host := "") (Or.inl (hw _ (List.mem_of_getElem? (i := 13) rfl))) Via.refl e45 S_INT (g := (mkF m 32 #[.val (.int p1), .val (.int (6 : Int32)), .val (.ref a_FLOAT), .unset] [(.ref a_FLOAT)])) rfl (hb hby at_32)
    obtain ⟨T47, X47, e47, st47⟩ := getS2 X46 hx hZ hown (host := "") (Or.inl (hw _ (List.mem_of_getElem? (i := 15) rfl))) Via.refl e46 S_LONG (g := (mkF m 39 #[.val (.int p1), .val (.int (6 : Int32)), .val (.ref a_FLOAT), .unset] [(.ref a_FLOAT)])) rfl (hb hby at_39)
    obtain ⟨cq48, kq48, q48a, q48b, q48c⟩ := isOf hZ e47 E_FLOAT
    obtain ⟨_, _, ⟨T48, L48, k48, n48⟩, -, X48, ⟨Lc48, hQ48, l48, y48, z48⟩, st48⟩ := X47.virtualBack hx (y := (⟨"com/example/typebridge/typebridge/PrimitiveType", "isIntegral", "()Z"⟩ : MethodName)) (z := (⟨"com/example/typebridge/typebridge/PrimitiveType", "isIntegral", "()Z"⟩ : MethodName)) hown (mvT hZ (hw _ (List.mem_of_getElem? (i := 17) rfl))) (mvT hZ (hw _ (List.mem_of_getElem? (i := 18) rfl))) (notFace_of_selects (args := #[]) (mvT hZ (hw _ (List.mem_of_getElem? (i := 20) rfl)))) (mvT hZ (hw _ (List.mem_of_getElem? (i := 20) rfl))) (mvT hZ (hw _ (List.mem_of_getElem? (i := 19) rfl))) (by decide) (backOf (W := 0) (rm1 l Z a0 hw [] a_FLOAT a_BOOLEAN a_FLOAT a_DOUBLE h0 n0 Z0 S_BOOLEAN S_FLOAT S_DOUBLE) hZ (hw _ (List.mem_of_getElem? (i := 21) rfl)) (hw _ (List.mem_of_getElem? (i := 5) rfl)) (by decide) (by decide)) q48a q48c (g := (mkF m 52 #[.val (.int p1), .val (.int (6 : Int32)), .val (.ref a_FLOAT), .val (.int (0 : Int32))] [(.ref a_FLOAT)])) rfl (by rw [hml]; rfl) (Steps.refl _) (argsL := []) (rest := []) (lenOf pd_1 rfl) rfl (by show 2 * 0 + _ ≤ _; exact Nat.le_of_eq rfl) (hb hby at_52) (fun _ _ => ⟨rfl, e47, (by decide : 0 + 0 ≤ _), (by decide : 0 + 0 ≤ _)⟩)
    dsimp only [Pt.U, Pt.locs, Pt.cells, Pt.slots] at X48 l48 y48 z48 st48 hQ48
    subst l48 y48 z48
    obtain ⟨hv48, N48q, r48⟩ := hQ48
    rw [(if_pos (Or.inr (Or.inl rfl)))] at hv48
    subst hv48
    have N48 := Fr.app N42 N48q
    obtain ⟨fs, hr, hrun, hended, hW, hsame⟩ := X48.leave (v := some (.int (1 : Int32))) (fun h => by rw [Bd.returns] at h; cases h)
    refine ⟨_, _, pre0 _ (R1 _ (R41 _ ?_)), hrun, hended, _, _, rfl, ?_, ⟨_, rfl⟩, hW, hsame.mono (by decide) (by decide)⟩
    · show Steps p.tables e below (s₁.setTop (mkF m 5 #[.val (.int p1), .val (.int (6 : Int32)), .unset, .unset] [])) _
      refine XS.iloadN X0.here hx rfl (hb hby at_5) rfl ?_
      show Steps p.tables e below (s₁.setTop (mkF m 6 #[.val (.int p1), .val (.int (6 : Int32)), .unset, .unset] [(.int (6 : Int32))])) _
      refine st42 _ ?_
      show Steps p.tables e below (T42.setTop (mkF m 9 #[.val (.int p1), .val (.int (6 : Int32)), .unset, .unset] [(.ref a_FLOAT)])) _
      refine XS.astoreN X42.here hx rfl (hb hby at_9) rfl rfl (l' := #[.val (.int p1), .val (.int (6 : Int32)), .val (.ref a_FLOAT), .unset]) rfl ?_
      show Steps p.tables e below (T42.setTop (mkF m 10 #[.val (.int p1), .val (.int (6 : Int32)), .val (.ref a_FLOAT), .unset] [])) _
      refine XS.aloadN X42.here hx rfl (hb hby at_10) rfl rfl ?_
      show Steps p.tables e below (T42.setTop (mkF m 11 #[.val (.int p1), .val (.int (6 : Int32)), .val (.ref a_FLOAT), .unset] [(.ref a_FLOAT)])) _
      refine st43 _ ?_
      show Steps p.tables e below (T43.setTop (mkF m 14 #[.val (.int p1), .val (.int (6 : Int32)), .val (.ref a_FLOAT), .unset] [(.ref a_BYTE), (.ref a_FLOAT)])) _
      refine Jvm.RoadKit.acmp (g := (mkF m 14 #[.val (.int p1), .val (.int (6 : Int32)), .val (.ref a_FLOAT), .unset] [(.ref a_BYTE), (.ref a_FLOAT)])) X43 hx rfl rfl rfl (pc0 := 14) (pc' := 17) (same := false) rfl (hb hby at_14) rfl (decide_eq_false fun q => (own_ne_fld F_FLOAT_ordinal F_BYTE_ordinal (by decide)) (Value.ref.inj q)) (by decide) (by decide) ?_
      show Steps p.tables e below (T43.setTop (mkF m 17 #[.val (.int p1), .val (.int (6 : Int32)), .val (.ref a_FLOAT), .unset] [])) _
      refine XS.aloadN X43.here hx rfl (hb hby at_17) rfl rfl ?_
      show Steps p.tables e below (T43.setTop (mkF m 18 #[.val (.int p1), .val (.int (6 : Int32)), .val (.ref a_FLOAT), .unset] [(.ref a_FLOAT)])) _
      refine st44 _ ?_
      show Steps p.tables e below (T44.setTop (mkF m 21 #[.val (.int p1), .val (.int (6 : Int32)), .val (.ref a_FLOAT), .unset] [(.ref a_SHORT), (.ref a_FLOAT)])) _
      refine Jvm.RoadKit.acmp (g := (mkF m 21 #[.val (.int p1), .val (.int (6 : Int32)), .val (.ref a_FLOAT), .unset] [(.ref a_SHORT), (.ref a_FLOAT)])) X44 hx rfl rfl rfl (pc0 := 21) (pc' := 24) (same := false) rfl (hb hby at_21) rfl (decide_eq_false fun q => (own_ne_fld F_FLOAT_ordinal F_SHORT_ordinal (by decide)) (Value.ref.inj q)) (by decide) (by decide) ?_
      show Steps p.tables e below (T44.setTop (mkF m 24 #[.val (.int p1), .val (.int (6 : Int32)), .val (.ref a_FLOAT), .unset] [])) _
      refine XS.aloadN X44.here hx rfl (hb hby at_24) rfl rfl ?_
      show Steps p.tables e below (T44.setTop (mkF m 25 #[.val (.int p1), .val (.int (6 : Int32)), .val (.ref a_FLOAT), .unset] [(.ref a_FLOAT)])) _
      refine st45 _ ?_
      show Steps p.tables e below (T45.setTop (mkF m 28 #[.val (.int p1), .val (.int (6 : Int32)), .val (.ref a_FLOAT), .unset] [(.ref a_CHAR), (.ref a_FLOAT)])) _
      refine Jvm.RoadKit.acmp (g := (mkF m 28 #[.val (.int p1), .val (.int (6 : Int32)), .val (.ref a_FLOAT), .unset] [(.ref a_CHAR), (.ref a_FLOAT)])) X45 hx rfl rfl rfl (pc0 := 28) (pc' := 31) (same := false) rfl (hb hby at_28) rfl (decide_eq_false fun q => (own_ne_fld F_FLOAT_ordinal F_CHAR_ordinal (by decide)) (Value.ref.inj q)) (by decide) (by decide) ?_
      show Steps p.tables e below (T45.setTop (mkF m 31 #[.val (.int p1), .val (.int (6 : Int32)), .val (.ref a_FLOAT), .unset] [])) _
      refine XS.aloadN X45.here hx rfl (hb hby at_31) rfl rfl ?_
      show Steps p.tables e below (T45.setTop (mkF m 32 #[.val (.int p1), .val (.int (6 : Int32)), .val (.ref a_FLOAT), .unset] [(.ref a_FLOAT)])) _
      refine st46 _ ?_
      show Steps p.tables e below (T46.setTop (mkF m 35 #[.val (.int p1), .val (.int (6 : Int32)), .val (.ref a_FLOAT), .unset] [(.ref a_INT), (.ref a_FLOAT)])) _
      refine Jvm.RoadKit.acmp (g := (mkF m 35 #[.val (.int p1), .val (.int (6 : Int32)), .val (.ref a_FLOAT), .unset] [(.ref a_INT), (.ref a_FLOAT)])) X46 hx rfl rfl rfl (pc0 := 35) (pc' := 38) (same := false) rfl (hb hby at_35) rfl (decide_eq_false fun q => (own_ne_fld F_FLOAT_ordinal F_INT_ordinal (by decide)) (Value.ref.inj q)) (by decide) (by decide) ?_
      show Steps p.tables e below (T46.setTop (mkF m 38 #[.val (.int p1), .val (.int (6 : Int32)), .val (.ref a_FLOAT), .unset] [])) _
      refine XS.aloadN X46.here hx rfl (hb hby at_38) rfl rfl ?_
      show Steps p.tables e below (T46.setTop (mkF m 39 #[.val (.int p1), .val (.int (6 : Int32)), .val (.ref a_FLOAT), .unset] [(.ref a_FLOAT)])) _
      refine st47 _ ?_
      show Steps p.tables e below (T47.setTop (mkF m 42 #[.val (.int p1), .val (.int (6 : Int32)), .val (.ref a_FLOAT), .unset] [(.ref a_LONG), (.ref a_FLOAT)])) _
      refine Jvm.RoadKit.acmp (g := (mkF m 42 #[.val (.int p1), .val (.int (6 : Int32)), .val (.ref a_FLOAT), .unset] [(.ref a_LONG), (.ref a_FLOAT)])) X47 hx rfl rfl rfl (pc0 := 42) (pc' := 49) (same := false) rfl (hb hby at_42) rfl (decide_eq_false fun q => (own_ne_fld F_FLOAT_ordinal F_LONG_ordinal (by decide)) (Value.ref.inj q)) (by decide) (by decide) ?_
      show Steps p.tables e below (T47.setTop (mkF m 49 #[.val (.int p1), .val (.int (6 : Int32)), .val (.ref a_FLOAT), .unset] [])) _
      refine XS.iconst X47.here hx rfl (hb hby at_49) ?_
      show Steps p.tables e below (T47.setTop (mkF m 50 #[.val (.int p1), .val (.int (6 : Int32)), .val (.ref a_FLOAT), .unset] [(.int (0 : Int32))])) _
      refine XS.istoreN X47.here hx rfl (hb hby at_50) rfl (l' := #[.val (.int p1), .val (.int (6 : Int32)), .val (.ref a_FLOAT), .val (.int (0 : Int32))]) rfl ?_
      show Steps p.tables e below (T47.setTop (mkF m 51 #[.val (.int p1), .val (.int (6 : Int32)), .val (.ref a_FLOAT), .val (.int (0 : Int32))] [])) _
      refine XS.aloadN X47.here hx rfl (hb hby at_51) rfl rfl ?_
      show Steps p.tables e below (T47.setTop (mkF m 52 #[.val (.int p1), .val (.int (6 : Int32)), .val (.ref a_FLOAT), .val (.int (0 : Int32))] [(.ref a_FLOAT)])) _
      refine st48.trans ?_
      show Steps p.tables e below (T48.setTop (mkF m 55 #[.val (.int p1), .val (.int (6 : Int32)), .val (.ref a_FLOAT), .val (.int (0 : Int32))] [(.int (0 : Int32))])) _
      refine XS.iloadN X48.here hx rfl (hb hby at_55) rfl ?_
      show Steps p.tables e below (T48.setTop (mkF m 56 #[.val (.int p1), .val (.int (6 : Int32)), .val (.ref a_FLOAT), .val (.int (0 : Int32))] [(.int (0 : Int32)), (.int (0 : Int32))])) _
      refine XS.icmpNo X48.here hx rfl (hb hby at_56) rfl (teq (by decide : (0 : Int32) = (0 : Int32))).2 ?_
      show Steps p.tables e below (T48.setTop (mkF m 59 #[.val (.int p1), .val (.int (6 : Int32)), .val (.ref a_FLOAT), .val (.int (0 : Int32))] [])) _
      refine XS.iconst X48.here hx rfl (hb hby at_59) ?_
      show Steps p.tables e below (T48.setTop (mkF m 60 #[.val (.int p1), .val (.int (6 : Int32)), .val (.ref a_FLOAT), .val (.int (0 : Int32))] [(.int (1 : Int32))])) _
      refine XS.goto X48.here hx rfl (pc0 := 60) (pc' := 64) rfl (hb hby at_60) (by decide) (by decide) ?_
      show Steps p.tables e below (T48.setTop (mkF m 64 #[.val (.int p1), .val (.int (6 : Int32)), .val (.ref a_FLOAT), .val (.int (0 : Int32))] [(.int (1 : Int32))])) _
      exact retN X48 hx (t := .boolean) Bd.returns (by simp) (hb hby at_64) hr
    · show Q0 n0 _ T48.heap _
      rw [r48]
      exact ⟨rfl, N48⟩
  · have R49 : ∀ tg, Steps p.tables e below (s₁.setTop (mkF m 5 #[.val (.int p1), .val (.int (7 : Int32)), .unset, .unset] [])) tg → Steps p.tables e below (s₁.setTop (mkF m 5 #[.val (.int p1), .val (.int (p1 &&& (7 : Int32))), .unset, .unset] [])) tg := fun tg kt => by rw [hk2]; exact kt
    obtain ⟨_, _, ⟨T50, L50, k50, n50⟩, -, X50, ⟨Lc50, hQ50, l50, y50, z50⟩, st50⟩ := Jvm.LawKit.callS X0 hx (y := (⟨"com/example/typebridge/typebridge/PrimitiveTypeIsIntegralPinLaw", "pick", "(I)Lcom/example/typebridge/typebridge/PrimitiveType;"⟩ : MethodName)) hown (mvT hZ (hw _ (List.mem_of_getElem? (i := 0) rfl))) (mvT hZ (hw _ (List.mem_of_getElem? (i := 1) rfl))) (mvT hZ (hw _ (List.mem_of_getElem? (i := 2) rfl))) (mvT hZ (hw _ (List.mem_of_getElem? (i := 3) rfl))) (by decide) (backOf (W := 0) (rmP l Z a0 hw [] (7 : Int32) a_BOOLEAN a_BYTE a_SHORT a_CHAR a_INT a_LONG a_FLOAT a_DOUBLE h0 n0 Z0 S_BOOLEAN S_BYTE S_SHORT S_CHAR S_INT S_LONG S_FLOAT S_DOUBLE) hZ (hw _ (List.mem_of_getElem? (i := 3) rfl)) (hw _ (List.mem_of_getElem? (i := 2) rfl)) (by decide) (by decide)) (g := (mkF m 6 #[.val (.int p1), .val (.int (7 : Int32)), .unset, .unset] [(.int (7 : Int32))])) rfl (by rw [hml]; rfl) (argsL := [(.int (7 : Int32))]) (rest := []) (lenOf pd_0 rfl) rfl (by show 2 * 0 + _ ≤ _; exact Nat.le_of_eq rfl) (hb hby at_6) (fun _ _ => ⟨rfl, e0, (by decide : 0 + 0 ≤ _), (by decide : 0 + 0 ≤ _)⟩)
    dsimp only [Pt.U, Pt.locs, Pt.cells, Pt.slots] at X50 l50 y50 z50 st50 hQ50
    subst l50 y50 z50
    obtain ⟨hv50, N50q, r50⟩ := hQ50
    rw [if_neg (by decide), if_neg (by decide), if_neg (by decide), if_neg (by decide), if_neg (by decide), if_neg (by decide), if_neg (by decide)] at hv50
    subst hv50
    have N50 := Fr.app N0 N50q
    obtain ⟨T51, X51, e51, st51⟩ := getS2 X50 hx hZ hown (host := "") (Or.inl (hw _ (List.mem_of_getElem? (i := 7) rfl))) Via.refl r50 S_BYTE (g := (mkF m 11 #[.val (.int p1), .val (.int (7 : Int32)), .val (.ref a_DOUBLE), .unset] [(.ref a_DOUBLE)])) rfl (hb hby at_11)
    obtain ⟨T52, X52, e52, st52⟩ := getS2 X51 hx hZ hown (host := "") (Or.inl (hw _ (List.mem_of_getElem? (i := 9) rfl))) Via.refl e51 S_SHORT (g := (mkF m 18 #[.val (.int p1), .val (.int (7 : Int32)), .val (.ref a_DOUBLE), .unset] [(.ref a_DOUBLE)])) rfl (hb hby at_18)
    obtain ⟨T53, X53, e53, st53⟩ := getS2 X52 hx hZ hown (host := "") (Or.inl (hw _ (List.mem_of_getElem? (i := 11) rfl))) Via.refl e52 S_CHAR (g := (mkF m 25 #[.val (.int p1), .val (.int (7 : Int32)), .val (.ref a_DOUBLE), .unset] [(.ref a_DOUBLE)])) rfl (hb hby at_25)
    obtain ⟨T54, X54, e54, st54⟩ := getS2 X53 hx hZ hown (host := "") (Or.inl (hw _ (List.mem_of_getElem? (i := 13) rfl))) Via.refl e53 S_INT (g := (mkF m 32 #[.val (.int p1), .val (.int (7 : Int32)), .val (.ref a_DOUBLE), .unset] [(.ref a_DOUBLE)])) rfl (hb hby at_32)
    obtain ⟨T55, X55, e55, st55⟩ := getS2 X54 hx hZ hown (host := "") (Or.inl (hw _ (List.mem_of_getElem? (i := 15) rfl))) Via.refl e54 S_LONG (g := (mkF m 39 #[.val (.int p1), .val (.int (7 : Int32)), .val (.ref a_DOUBLE), .unset] [(.ref a_DOUBLE)])) rfl (hb hby at_39)
    obtain ⟨cq56, kq56, q56a, q56b, q56c⟩ := isOf hZ e55 E_DOUBLE
    obtain ⟨_, _, ⟨T56, L56, k56, n56⟩, -, X56, ⟨Lc56, hQ56, l56, y56, z56⟩, st56⟩ := X55.virtualBack hx (y := (⟨"com/example/typebridge/typebridge/PrimitiveType", "isIntegral", "()Z"⟩ : MethodName)) (z := (⟨"com/example/typebridge/typebridge/PrimitiveType", "isIntegral", "()Z"⟩ : MethodName)) hown (mvT hZ (hw _ (List.mem_of_getElem? (i := 17) rfl))) (mvT hZ (hw _ (List.mem_of_getElem? (i := 18) rfl))) (notFace_of_selects (args := #[]) (mvT hZ (hw _ (List.mem_of_getElem? (i := 20) rfl)))) (mvT hZ (hw _ (List.mem_of_getElem? (i := 20) rfl))) (mvT hZ (hw _ (List.mem_of_getElem? (i := 19) rfl))) (by decide) (backOf (W := 0) (rm1 l Z a0 hw [] a_DOUBLE a_BOOLEAN a_FLOAT a_DOUBLE h0 n0 Z0 S_BOOLEAN S_FLOAT S_DOUBLE) hZ (hw _ (List.mem_of_getElem? (i := 21) rfl)) (hw _ (List.mem_of_getElem? (i := 5) rfl)) (by decide) (by decide)) q56a q56c (g := (mkF m 52 #[.val (.int p1), .val (.int (7 : Int32)), .val (.ref a_DOUBLE), .val (.int (0 : Int32))] [(.ref a_DOUBLE)])) rfl (by rw [hml]; rfl) (Steps.refl _) (argsL := []) (rest := []) (lenOf pd_1 rfl) rfl (by show 2 * 0 + _ ≤ _; exact Nat.le_of_eq rfl) (hb hby at_52) (fun _ _ => ⟨rfl, e55, (by decide : 0 + 0 ≤ _), (by decide : 0 + 0 ≤ _)⟩)
    dsimp only [Pt.U, Pt.locs, Pt.cells, Pt.slots] at X56 l56 y56 z56 st56 hQ56
    subst l56 y56 z56
    obtain ⟨hv56, N56q, r56⟩ := hQ56
    rw [(if_pos (Or.inr (Or.inr rfl)))] at hv56
    subst hv56
    have N56 := Fr.app N50 N56q
    obtain ⟨fs, hr, hrun, hended, hW, hsame⟩ := X56.leave (v := some (.int (1 : Int32))) (fun h => by rw [Bd.returns] at h; cases h)
    refine ⟨_, _, pre0 _ (R1 _ (R49 _ ?_)), hrun, hended, _, _, rfl, ?_, ⟨_, rfl⟩, hW, hsame.mono (by decide) (by decide)⟩
    · show Steps p.tables e below (s₁.setTop (mkF m 5 #[.val (.int p1), .val (.int (7 : Int32)), .unset, .unset] [])) _
      refine XS.iloadN X0.here hx rfl (hb hby at_5) rfl ?_
      show Steps p.tables e below (s₁.setTop (mkF m 6 #[.val (.int p1), .val (.int (7 : Int32)), .unset, .unset] [(.int (7 : Int32))])) _
      refine st50 _ ?_
      show Steps p.tables e below (T50.setTop (mkF m 9 #[.val (.int p1), .val (.int (7 : Int32)), .unset, .unset] [(.ref a_DOUBLE)])) _
      refine XS.astoreN X50.here hx rfl (hb hby at_9) rfl rfl (l' := #[.val (.int p1), .val (.int (7 : Int32)), .val (.ref a_DOUBLE), .unset]) rfl ?_
      show Steps p.tables e below (T50.setTop (mkF m 10 #[.val (.int p1), .val (.int (7 : Int32)), .val (.ref a_DOUBLE), .unset] [])) _
      refine XS.aloadN X50.here hx rfl (hb hby at_10) rfl rfl ?_
      show Steps p.tables e below (T50.setTop (mkF m 11 #[.val (.int p1), .val (.int (7 : Int32)), .val (.ref a_DOUBLE), .unset] [(.ref a_DOUBLE)])) _
      refine st51 _ ?_
      show Steps p.tables e below (T51.setTop (mkF m 14 #[.val (.int p1), .val (.int (7 : Int32)), .val (.ref a_DOUBLE), .unset] [(.ref a_BYTE), (.ref a_DOUBLE)])) _
      refine Jvm.RoadKit.acmp (g := (mkF m 14 #[.val (.int p1), .val (.int (7 : Int32)), .val (.ref a_DOUBLE), .unset] [(.ref a_BYTE), (.ref a_DOUBLE)])) X51 hx rfl rfl rfl (pc0 := 14) (pc' := 17) (same := false) rfl (hb hby at_14) rfl (decide_eq_false fun q => (own_ne_fld F_DOUBLE_ordinal F_BYTE_ordinal (by decide)) (Value.ref.inj q)) (by decide) (by decide) ?_
      show Steps p.tables e below (T51.setTop (mkF m 17 #[.val (.int p1), .val (.int (7 : Int32)), .val (.ref a_DOUBLE), .unset] [])) _
      refine XS.aloadN X51.here hx rfl (hb hby at_17) rfl rfl ?_
      show Steps p.tables e below (T51.setTop (mkF m 18 #[.val (.int p1), .val (.int (7 : Int32)), .val (.ref a_DOUBLE), .unset] [(.ref a_DOUBLE)])) _
      refine st52 _ ?_
      show Steps p.tables e below (T52.setTop (mkF m 21 #[.val (.int p1), .val (.int (7 : Int32)), .val (.ref a_DOUBLE), .unset] [(.ref a_SHORT), (.ref a_DOUBLE)])) _
      refine Jvm.RoadKit.acmp (g := (mkF m 21 #[.val (.int p1), .val (.int (7 : Int32)), .val (.ref a_DOUBLE), .unset] [(.ref a_SHORT), (.ref a_DOUBLE)])) X52 hx rfl rfl rfl (pc0 := 21) (pc' := 24) (same := false) rfl (hb hby at_21) rfl (decide_eq_false fun q => (own_ne_fld F_DOUBLE_ordinal F_SHORT_ordinal (by decide)) (Value.ref.inj q)) (by decide) (by decide) ?_
      show Steps p.tables e below (T52.setTop (mkF m 24 #[.val (.int p1), .val (.int (7 : Int32)), .val (.ref a_DOUBLE), .unset] [])) _
      refine XS.aloadN X52.here hx rfl (hb hby at_24) rfl rfl ?_
      show Steps p.tables e below (T52.setTop (mkF m 25 #[.val (.int p1), .val (.int (7 : Int32)), .val (.ref a_DOUBLE), .unset] [(.ref a_DOUBLE)])) _
      refine st53 _ ?_
      show Steps p.tables e below (T53.setTop (mkF m 28 #[.val (.int p1), .val (.int (7 : Int32)), .val (.ref a_DOUBLE), .unset] [(.ref a_CHAR), (.ref a_DOUBLE)])) _
      refine Jvm.RoadKit.acmp (g := (mkF m 28 #[.val (.int p1), .val (.int (7 : Int32)), .val (.ref a_DOUBLE), .unset] [(.ref a_CHAR), (.ref a_DOUBLE)])) X53 hx rfl rfl rfl (pc0 := 28) (pc' := 31) (same := false) rfl (hb hby at_28) rfl (decide_eq_false fun q => (own_ne_fld F_DOUBLE_ordinal F_CHAR_ordinal (by decide)) (Value.ref.inj q)) (by decide) (by decide) ?_
      show Steps p.tables e below (T53.setTop (mkF m 31 #[.val (.int p1), .val (.int (7 : Int32)), .val (.ref a_DOUBLE), .unset] [])) _
      refine XS.aloadN X53.here hx rfl (hb hby at_31) rfl rfl ?_
      show Steps p.tables e below (T53.setTop (mkF m 32 #[.val (.int p1), .val (.int (7 : Int32)), .val (.ref a_DOUBLE), .unset] [(.ref a_DOUBLE)])) _
      refine st54 _ ?_
      show Steps p.tables e below (T54.setTop (mkF m 35 #[.val (.int p1), .val (.int (7 : Int32)), .val (.ref a_DOUBLE), .unset] [(.ref a_INT), (.ref a_DOUBLE)])) _
      refine Jvm.RoadKit.acmp (g := (mkF m 35 #[.val (.int p1), .val (.int (7 : Int32)), .val (.ref a_DOUBLE), .unset] [(.ref a_INT), (.ref a_DOUBLE)])) X54 hx rfl rfl rfl (pc0 := 35) (pc' := 38) (same := false) rfl (hb hby at_35) rfl (decide_eq_false fun q => (own_ne_fld F_DOUBLE_ordinal F_INT_ordinal (by decide)) (Value.ref.inj q)) (by decide) (by decide) ?_
      show Steps p.tables e below (T54.setTop (mkF m 38 #[.val (.int p1), .val (.int (7 : Int32)), .val (.ref a_DOUBLE), .unset] [])) _
      refine XS.aloadN X54.here hx rfl (hb hby at_38) rfl rfl ?_
      show Steps p.tables e below (T54.setTop (mkF m 39 #[.val (.int p1), .val (.int (7 : Int32)), .val (.ref a_DOUBLE), .unset] [(.ref a_DOUBLE)])) _
      refine st55 _ ?_
      show Steps p.tables e below (T55.setTop (mkF m 42 #[.val (.int p1), .val (.int (7 : Int32)), .val (.ref a_DOUBLE), .unset] [(.ref a_LONG), (.ref a_DOUBLE)])) _
      refine Jvm.RoadKit.acmp (g := (mkF m 42 #[.val (.int p1), .val (.int (7 : Int32)), .val (.ref a_DOUBLE), .unset] [(.ref a_LONG), (.ref a_DOUBLE)])) X55 hx rfl rfl rfl (pc0 := 42) (pc' := 49) (same := false) rfl (hb hby at_42) rfl (decide_eq_false fun q => (own_ne_fld F_DOUBLE_ordinal F_LONG_ordinal (by decide)) (Value.ref.inj q)) (by decide) (by decide) ?_
      show Steps p.tables e below (T55.setTop (mkF m 49 #[.val (.int p1), .val (.int (7 : Int32)), .val (.ref a_DOUBLE), .unset] [])) _
      refine XS.iconst X55.here hx rfl (hb hby at_49) ?_
      show Steps p.tables e below (T55.setTop (mkF m 50 #[.val (.int p1), .val (.int (7 : Int32)), .val (.ref a_DOUBLE), .unset] [(.int (0 : Int32))])) _
      refine XS.istoreN X55.here hx rfl (hb hby at_50) rfl (l' := #[.val (.int p1), .val (.int (7 : Int32)), .val (.ref a_DOUBLE), .val (.int (0 : Int32))]) rfl ?_
      show Steps p.tables e below (T55.setTop (mkF m 51 #[.val (.int p1), .val (.int (7 : Int32)), .val (.ref a_DOUBLE), .val (.int (0 : Int32))] [])) _
      refine XS.aloadN X55.here hx rfl (hb hby at_51) rfl rfl ?_
      show Steps p.tables e below (T55.setTop (mkF m 52 #[.val (.int p1), .val (.int (7 : Int32)), .val (.ref a_DOUBLE), .val (.int (0 : Int32))] [(.ref a_DOUBLE)])) _
      refine st56.trans ?_
      show Steps p.tables e below (T56.setTop (mkF m 55 #[.val (.int p1), .val (.int (7 : Int32)), .val (.ref a_DOUBLE), .val (.int (0 : Int32))] [(.int (0 : Int32))])) _
      refine XS.iloadN X56.here hx rfl (hb hby at_55) rfl ?_
      show Steps p.tables e below (T56.setTop (mkF m 56 #[.val (.int p1), .val (.int (7 : Int32)), .val (.ref a_DOUBLE), .val (.int (0 : Int32))] [(.int (0 : Int32)), (.int (0 : Int32))])) _
      refine XS.icmpNo X56.here hx rfl (hb hby at_56) rfl (teq (by decide : (0 : Int32) = (0 : Int32))).2 ?_
      show Steps p.tables e below (T56.setTop (mkF m 59 #[.val (.int p1), .val (.int (7 : Int32)), .val (.ref a_DOUBLE), .val (.int (0 : Int32))] [])) _
      refine XS.iconst X56.here hx rfl (hb hby at_59) ?_
      show Steps p.tables e below (T56.setTop (mkF m 60 #[.val (.int p1), .val (.int (7 : Int32)), .val (.ref a_DOUBLE), .val (.int (0 : Int32))] [(.int (1 : Int32))])) _
      refine XS.goto X56.here hx rfl (pc0 := 60) (pc' := 64) rfl (hb hby at_60) (by decide) (by decide) ?_
      show Steps p.tables e below (T56.setTop (mkF m 64 #[.val (.int p1), .val (.int (7 : Int32)), .val (.ref a_DOUBLE), .val (.int (0 : Int32))] [(.int (1 : Int32))])) _
      exact retN X56 hx (t := .boolean) Bd.returns (by simp) (hb hby at_64) hr
    · show Q0 n0 _ T56.heap _
      rw [r56]
      exact ⟨rfl, N56⟩
set_option maxRecDepth 65536 in
set_option maxHeartbeats 40000000 in
theorem comes_1 {Post : Tables → Env → Array Value → State → Outcome → State → Prop} (hpost : ∀ tb e args s v u, (limb_1_1.after args s (.returned v) u = true ∧ limb_1_2.after args s (.returned v) u = true ∧ True) → FrameEnd s (.returned v) u (Jvm.fieldLocs frame_1_writes args s ++ Jvm.arrayLocs frame_1_arrays args s ++ Jvm.staticLocs frame_1_statics s) 0 0 → Post tb e args s (.returned v) u) :
    ArmFor flags0 classFile x code maxLocals ret World_1 tables_1 room_1 Calls_1 rest_1 Pre_1 Post := by
  intro l hfl _ _ p e ha hc hk s m args below hf hA hF happ hP
  obtain ⟨hcalls, hrest, hpre⟩ := hP
  obtain ⟨-, -, -, hnamed, -, -, -, hat⟩ := (Spec.applies_iff hf).mp happ
  obtain ⟨hg, hn⟩ := and_e (Cond.before_iff.mp (show (Jvm.Cond.and given_1 narrow_1).before args s = true from hpre))
  obtain ⟨g1a, g1b⟩ := and_e hg
  obtain ⟨w0, rfl⟩ : ∃ w0 : Value, args = #[w0] := by
    have hs : args.size = 1 := by simpa [Cond.value, given_1] using g1a
    obtain ⟨L⟩ := args
    match L, hs with
    | [w0], _ => exact ⟨w0, rfl⟩
  have hw := fun d (hd : d ∈ tables_1) => atoms_spec (ws := Jvm.Cond.code x code maxLocals ret :: tables_1) hat d (List.mem_cons_of_mem _ hd)
  have hfit : Fit s := fun {y c} hc i hi => by
    obtain ⟨ha, rfl⟩ := Array.getElem?_eq_some_iff.mp hc
    have q := List.all_eq_true.mp ((Array.all_eq_true_iff_forall_mem.mp hF) _ (Array.getElem_mem ha)) i (List.mem_range.mpr hi)
    simpa [Array.getElem?_eq_getElem hi] using q
  obtain ⟨i0, ei0⟩ := is_v g1b
  obtain rfl : w0 = (.int i0) := Option.some.inj ei0
  obtain ⟨u1a, u1b⟩ := and_e hn
  obtain ⟨u2a, u2b⟩ := and_e u1b
  obtain ⟨u3a, u3b⟩ := and_e u2b
  obtain ⟨u4a, u4b⟩ := and_e u3b
  obtain ⟨u5a, u5b⟩ := and_e u4b
  obtain ⟨u6a, u6b⟩ := and_e u5b
  obtain ⟨u7a, u7b⟩ := and_e u6b
  obtain ⟨u8a, u8b⟩ := and_e u7b
  obtain ⟨u9a, u9b⟩ := and_e u8b
  obtain ⟨u10a, u10b⟩ := and_e u9b
  obtain ⟨u11a, u11b⟩ := and_e u10b
  obtain ⟨u12a, u12b⟩ := and_e u11b
  obtain ⟨u13a, u13b⟩ := and_e u12b
  obtain ⟨u14a, u14b⟩ := and_e u13b
  obtain ⟨u15a, u15b⟩ := and_e u14b
  obtain ⟨a_BOOLEAN, ev_BOOLEAN⟩ := exa_v u1a
  have S_BOOLEAN := Sta.start ev_BOOLEAN (Or.inr ⟨(hw _ (List.mem_of_getElem? (i := 5) rfl)), (hw _ (List.mem_of_getElem? (i := 6) rfl))⟩)
  have E_BOOLEAN := Exa.start ev_BOOLEAN u1a
  have F_BOOLEAN_ordinal := own_fld ev_BOOLEAN u3a
  obtain ⟨a_BYTE, ev_BYTE⟩ := exa_v u2a
  have S_BYTE := Sta.start ev_BYTE (Or.inr ⟨(hw _ (List.mem_of_getElem? (i := 5) rfl)), (hw _ (List.mem_of_getElem? (i := 8) rfl))⟩)
  have E_BYTE := Exa.start ev_BYTE u2a
  have F_BYTE_ordinal := own_fld ev_BYTE u4a
  obtain ⟨a_SHORT, ev_SHORT⟩ := exa_v u5a
  have S_SHORT := Sta.start ev_SHORT (Or.inr ⟨(hw _ (List.mem_of_getElem? (i := 5) rfl)), (hw _ (List.mem_of_getElem? (i := 10) rfl))⟩)
  have E_SHORT := Exa.start ev_SHORT u5a
  have F_SHORT_ordinal := own_fld ev_SHORT u6a
  obtain ⟨a_CHAR, ev_CHAR⟩ := exa_v u7a
  have S_CHAR := Sta.start ev_CHAR (Or.inr ⟨(hw _ (List.mem_of_getElem? (i := 5) rfl)), (hw _ (List.mem_of_getElem? (i := 12) rfl))⟩)
  have E_CHAR := Exa.start ev_CHAR u7a
  have F_CHAR_ordinal := own_fld ev_CHAR u8a
  obtain ⟨a_INT, ev_INT⟩ := exa_v u9a
  have S_INT := Sta.start ev_INT (Or.inr ⟨(hw _ (List.mem_of_getElem? (i := 5) rfl)), (hw _ (List.mem_of_getElem? (i := 14) rfl))⟩)
  have E_INT := Exa.start ev_INT u9a
  have F_INT_ordinal := own_fld ev_INT u10a
  obtain ⟨a_LONG, ev_LONG⟩ := exa_v u11a
  have S_LONG := Sta.start ev_LONG (Or.inr ⟨(hw _ (List.mem_of_getElem? (i := 5) rfl)), (hw _ (List.mem_of_getElem? (i := 16) rfl))⟩)
  have E_LONG := Exa.start ev_LONG u11a
  have F_LONG_ordinal := own_fld ev_LONG u12a
  obtain ⟨a_FLOAT, ev_FLOAT⟩ := exa_v u13a
  have S_FLOAT := Sta.start ev_FLOAT (Or.inr ⟨(hw _ (List.mem_of_getElem? (i := 5) rfl)), (hw _ (List.mem_of_getElem? (i := 24) rfl))⟩)
  have E_FLOAT := Exa.start ev_FLOAT u13a
  have F_FLOAT_ordinal := own_fld ev_FLOAT u14a
  obtain ⟨a_DOUBLE, ev_DOUBLE⟩ := exa_v u15a
  have S_DOUBLE := Sta.start ev_DOUBLE (Or.inr ⟨(hw _ (List.mem_of_getElem? (i := 5) rfl)), (hw _ (List.mem_of_getElem? (i := 26) rfl))⟩)
  have E_DOUBLE := Exa.start ev_DOUBLE u15a
  have F_DOUBLE_ordinal := own_fld ev_DOUBLE u15b
  obtain ⟨n, o, h1, h2, h3, _, L, rfl, ⟨rfl, N⟩, hq⟩ := rm0 l s _ hw tables_1 i0 a_BOOLEAN a_BYTE a_SHORT a_CHAR a_INT a_LONG a_FLOAT a_DOUBLE s.heap s.heap.size (Nat.le_refl _) S_BOOLEAN E_BOOLEAN F_BOOLEAN_ordinal S_BYTE E_BYTE F_BYTE_ordinal S_SHORT E_SHORT F_SHORT_ordinal S_CHAR E_CHAR F_CHAR_ordinal S_INT E_INT F_INT_ordinal S_LONG E_LONG F_LONG_ordinal S_FLOAT E_FLOAT F_FLOAT_ordinal S_DOUBLE E_DOUBLE F_DOUBLE_ordinal p e ha hc hk s m _ below hf ((Spec.applies_iff_loose hf).mp happ).1 ⟨rfl, State.Warmed39.refl s, rfl⟩ trivial
  refine ⟨n, _, h1, h2, h3, hpost _ _ _ _ _ _ ⟨Cond.after_iff.mpr rfl, Cond.after_iff.mpr (eq_i res_at (Term.int_eval (1)) rfl), trivial⟩ ⟨hq.1, hq.2.1, (hq.2.2.sift fun y hy => Or.inr (N y hy)).mono (by decide) (by decide)⟩⟩
theorem main_1_1 : Claimed_1_1 := comes_1 fun _ _ _ _ _ _ h hF => ⟨h.1, hF⟩
theorem main_1_2 : Claimed_1_2 := comes_1 fun _ _ _ _ _ _ h hF => ⟨h.2.1, hF⟩
end Jvm.Pilot.@@N@@
namespace Jvm.Pilot.@@N@@
open Jvm Jvm.ClassFile Sem Op Lib Jvm.Free Jvm.Stand Jvm.Pilot.@@N@@.Jvm.D
/-! MADE BY PROGRAM (witnessworld.py) out of the Statement's table words and the real class files: 13 classes; the members and pool entries that the words name. The judged class is class 1, her method 1. -/
namespace start1
open Jvm.ClassFile
def u (s : String) : CpInfo := .utf8 (stringToUtf16 s)
/-- a pool by its gaps: so many unusable entries, then the entry; so many at the end -/
def gap : Nat → List CpInfo → List CpInfo
  | 0, r => r
  | n + 1, r => .unusable :: gap n r
def poolList (es : List (Nat × CpInfo)) (last : Nat) : List CpInfo := es.foldr (fun e r => gap e.1 (e.2 :: r)) (gap last [])
def pool (es : List (Nat × CpInfo)) (last : Nat) : Array CpInfo := ⟨poolList es last⟩
def fileOf (pool : Array CpInfo) (this : Nat) (attrs : Array Attribute := #[]) (ms : Array MethodInfo := #[]) (fl : Nat := 33) (sup : Nat := 0) (ifs : Array Nat := #[]) (fds : Array FieldInfo := #[]) : ClassFile where
  minorVersion := 0
  majorVersion := 65
  constantPool := pool
  accessFlags := fl
  thisClass := this
  superClass := sup
  interfaces := ifs
  fields := fds
  methods := ms
  attributes := attrs
def plain (name : String) (sup : Option ClassId) : Class where
  name := name
  kind := .ordinary
  loader := none
  accessFlags := 33
  super := sup
  interfaces := #[]
  cf := none
  fields := #[]
  methods := #[]
  instanceTypes := #[]
  staticTypes := #[]
  resolved := #[]
  callSites := []
  init := .initialized
  statics := none
  mirror := none

def pool0 : Array CpInfo := pool [(5, u "<init>"), (0, u "()V"), (1, .class_ 10), (1, u "java/lang/Object")] 113

def k0m0 : Method := { name := "<init>", desc := "()V", sig := { parameters := [], returnType := none }, accessFlags := 1, code := none }
/-- java/lang/Object -/
def k0 : Class := { plain "java/lang/Object" none with
  accessFlags := 33
  interfaces := #[]
  cf := some (fileOf pool0 8 #[] #[{ accessFlags := 1, nameIndex := 5, descriptorIndex := 6, attributes := #[] }] 33 0 #[] #[])
  fields := #[]
  methods := #[k0m0]
  instanceTypes := #[]
  staticTypes := #[]
  resolved := Array.replicate 124 none
  statics := none }

def pool1 : Array CpInfo := pool [(2, .class_ 4), (1, u "java/lang/Object"), (0, u "<init>"), (0, u "()V"), (0, .methodref 8 9), (0, .class_ 10), (0, .nameAndType 11 12), (0, u "com/example/typebridge/typebridge/PrimitiveTypeIsIntegralPinLaw"), (0, u "pick"), (0, u "(I)Lcom/example/typebridge/typebridge/PrimitiveType;"), (0, .fieldref 14 15), (0, .class_ 16), (0, .nameAndType 17 18), (0, u "com/example/typebridge/typebridge/PrimitiveType"), (0, u "BYTE"), (0, u "Lcom/example/typebridge/typebridge/PrimitiveType;"), (0, .fieldref 14 20), (0, .nameAndType 21 18), (0, u "SHORT"), (0, .fieldref 14 23), (0, .nameAndType 24 18), (0, u "CHAR"), (0, .fieldref 14 26), (0, .nameAndType 27 18), (0, u "INT"), (0, .fieldref 14 29), (0, .nameAndType 30 18), (0, u "LONG"), (0, .methodref 14 32), (0, .nameAndType 33 34), (0, u "isIntegral"), (0, u "()Z"), (0, .fieldref 14 36), (0, .nameAndType 37 18), (0, u "BOOLEAN"), (0, .fieldref 14 39), (0, .nameAndType 40 18), (0, u "FLOAT"), (0, .fieldref 14 42), (0, .nameAndType 43 18), (0, u "DOUBLE"), (2, u "law"), (0, u "(I)Z")] 3

def k1m0 : Method := { name := "<init>", desc := "()V", sig := { parameters := [], returnType := none }, accessFlags := 2, code := none }
def k1c1 : Code := { maxStack := 2, maxLocals := 4, code := code, exceptionTable := #[], attributes := #[] }
def k1m1 : Method := { name := "law", desc := "(I)Z", sig := { parameters := [.int], returnType := some .boolean }, accessFlags := 9, code := some k1c1 }
def k1c2 : Code := { maxStack := 2, maxLocals := 1, code := method_3_code, exceptionTable := #[], attributes := #[] }
def k1m2 : Method := { name := "pick", desc := "(I)Lcom/example/typebridge/typebridge/PrimitiveType;", sig := { parameters := [.int], returnType := some (.object "com/example/typebridge/typebridge/PrimitiveType") }, accessFlags := 10, code := some k1c2 }
/-- com/example/typebridge/typebridge/PrimitiveTypeIsIntegralPinLaw -/
def k1 : Class := { plain "com/example/typebridge/typebridge/PrimitiveTypeIsIntegralPinLaw" (some 0) with
  accessFlags := 49
  interfaces := #[]
  cf := some (fileOf pool1 8 #[] #[{ accessFlags := 2, nameIndex := 5, descriptorIndex := 6, attributes := #[] }, { accessFlags := 9, nameIndex := 46, descriptorIndex := 47, attributes := #[] }, { accessFlags := 10, nameIndex := 11, descriptorIndex := 12, attributes := #[] }] 49 2 #[] #[])
  fields := #[]
  methods := #[k1m0, k1m1, k1m2]
  instanceTypes := #[]
  staticTypes := #[]
  resolved := Array.replicate 51 none
  statics := none }

def pool2 : Array CpInfo := pool [(1, .class_ 2), (0, u "java/lang/constant/Constable"), (0, .class_ 4), (0, u "java/lang/Object")] 6

/-- java/lang/constant/Constable -/
def k2 : Class := { plain "java/lang/constant/Constable" (some 0) with
  accessFlags := 1537
  interfaces := #[]
  cf := some (fileOf pool2 1 #[] #[] 1537 3 #[] #[])
  fields := #[]
  methods := #[]
  instanceTypes := #[]
  staticTypes := #[]
  resolved := Array.replicate 11 none
  statics := none }

def pool3 : Array CpInfo := pool [(1, .class_ 2), (0, u "java/lang/Comparable"), (0, .class_ 4), (0, u "java/lang/Object")] 7

/-- java/lang/Comparable -/
def k3 : Class := { plain "java/lang/Comparable" (some 0) with
  accessFlags := 1537
  interfaces := #[]
  cf := some (fileOf pool3 1 #[] #[] 1537 3 #[] #[])
  fields := #[]
  methods := #[]
  instanceTypes := #[]
  staticTypes := #[]
  resolved := Array.replicate 12 none
  statics := none }

def pool4 : Array CpInfo := pool [(1, .class_ 2), (0, u "java/io/Serializable"), (0, .class_ 4), (0, u "java/lang/Object")] 2

/-- java/io/Serializable -/
def k4 : Class := { plain "java/io/Serializable" (some 0) with
  accessFlags := 1537
  interfaces := #[]
  cf := some (fileOf pool4 1 #[] #[] 1537 3 #[] #[])
  fields := #[]
  methods := #[]
  instanceTypes := #[]
  staticTypes := #[]
  resolved := Array.replicate 7 none
  statics := none }

def pool5 : Array CpInfo := pool [(2, .class_ 4), (1, u "java/lang/Enum"), (0, u "name"), (0, u "Ljava/lang/String;"), (2, u "ordinal"), (0, u "I"), (1, .class_ 14), (1, u "java/lang/Object"), (4, u "hash"), (86, .class_ 108), (1, u "java/lang/Enum$EnumDesc"), (2, .class_ 112), (0, u "java/lang/constant/Constable"), (0, .class_ 114), (0, u "java/lang/Comparable"), (0, .class_ 116), (0, u "java/io/Serializable")] 87

/-- java/lang/Enum -/
def k5 : Class := { plain "java/lang/Enum" (some 0) with
  accessFlags := 1057
  interfaces := #[2, 3, 4]
  cf := some (fileOf pool5 2 #[.nestMembers #[106]] #[] 1057 12 #[111, 113, 115] #[{ accessFlags := 18, nameIndex := 5, descriptorIndex := 6, attributes := #[] }, { accessFlags := 18, nameIndex := 9, descriptorIndex := 10, attributes := #[] }, { accessFlags := 2, nameIndex := 19, descriptorIndex := 10, attributes := #[] }])
  fields := #[{ name := "name", type := (.object "java/lang/String"), accessFlags := 18, slot := 0, constantValue := 0 }, { name := "ordinal", type := .int, accessFlags := 18, slot := 1, constantValue := 0 }, { name := "hash", type := .int, accessFlags := 2, slot := 2, constantValue := 0 }]
  methods := #[]
  instanceTypes := #[(.object "java/lang/String"), .int, .int]
  staticTypes := #[]
  resolved := Array.replicate 204 none
  statics := none }

def pool6 : Array CpInfo := pool [(1, .class_ 2), (0, u "com/example/typebridge/typebridge/Type"), (0, .class_ 4), (0, u "java/lang/Object")] 7

/-- com/example/typebridge/typebridge/Type -/
def k6 : Class := { plain "com/example/typebridge/typebridge/Type" (some 0) with
  accessFlags := 1537
  interfaces := #[]
  cf := some (fileOf pool6 1 #[] #[] 1537 3 #[] #[])
  fields := #[]
  methods := #[]
  instanceTypes := #[]
  staticTypes := #[]
  resolved := Array.replicate 12 none
  statics := none }

def pool7 : Array CpInfo := pool [(1, .class_ 2), (0, u "com/example/typebridge/typebridge/PrimitiveType"), (0, .fieldref 1 4), (0, .nameAndType 5 6), (0, u "BOOLEAN"), (0, u "Lcom/example/typebridge/typebridge/PrimitiveType;"), (2, u "BYTE"), (2, u "SHORT"), (2, u "CHAR"), (2, u "INT"), (2, u "LONG"), (0, .fieldref 1 23), (0, .nameAndType 24 6), (0, u "FLOAT"), (0, .fieldref 1 26), (0, .nameAndType 27 6), (0, u "DOUBLE"), (2, u "$VALUES"), (0, u "[Lcom/example/typebridge/typebridge/PrimitiveType;"), (6, .class_ 40), (1, u "java/lang/Enum"), (24, u "keyword"), (0, u "Ljava/lang/String;"), (30, .class_ 98), (0, u "com/example/typebridge/typebridge/Type"), (7, u "isIntegral"), (0, u "()Z")] 8

def k7c0 : Code := { maxStack := 2, maxLocals := 1, code := prog_44_method_6_code, exceptionTable := #[], attributes := #[] }
def k7m0 : Method := { name := "isIntegral", desc := "()Z", sig := { parameters := [], returnType := some .boolean }, accessFlags := 1, code := some k7c0 }
/-- com/example/typebridge/typebridge/PrimitiveType -/
def k7 : Class := { plain "com/example/typebridge/typebridge/PrimitiveType" (some 5) with
  accessFlags := 16433
  interfaces := #[6]
  cf := some (fileOf pool7 1 #[] #[{ accessFlags := 1, nameIndex := 106, descriptorIndex := 107, attributes := #[] }] 16433 38 #[97] #[{ accessFlags := 16409, nameIndex := 5, descriptorIndex := 6, attributes := #[] }, { accessFlags := 16409, nameIndex := 9, descriptorIndex := 6, attributes := #[] }, { accessFlags := 16409, nameIndex := 12, descriptorIndex := 6, attributes := #[] }, { accessFlags := 16409, nameIndex := 15, descriptorIndex := 6, attributes := #[] }, { accessFlags := 16409, nameIndex := 18, descriptorIndex := 6, attributes := #[] }, { accessFlags := 16409, nameIndex := 21, descriptorIndex := 6, attributes := #[] }, { accessFlags := 16409, nameIndex := 24, descriptorIndex := 6, attributes := #[] }, { accessFlags := 16409, nameIndex := 27, descriptorIndex := 6, attributes := #[] }, { accessFlags := 18, nameIndex := 65, descriptorIndex := 66, attributes := #[] }, { accessFlags := 4122, nameIndex := 30, descriptorIndex := 31, attributes := #[] }])
  fields := #[{ name := "BOOLEAN", type := (.object "com/example/typebridge/typebridge/PrimitiveType"), accessFlags := 16409, slot := 0, constantValue := 0 }, { name := "BYTE", type := (.object "com/example/typebridge/typebridge/PrimitiveType"), accessFlags := 16409, slot := 1, constantValue := 0 }, { name := "SHORT", type := (.object "com/example/typebridge/typebridge/PrimitiveType"), accessFlags := 16409, slot := 2, constantValue := 0 }, { name := "CHAR", type := (.object "com/example/typebridge/typebridge/PrimitiveType"), accessFlags := 16409, slot := 3, constantValue := 0 }, { name := "INT", type := (.object "com/example/typebridge/typebridge/PrimitiveType"), accessFlags := 16409, slot := 4, constantValue := 0 }, { name := "LONG", type := (.object "com/example/typebridge/typebridge/PrimitiveType"), accessFlags := 16409, slot := 5, constantValue := 0 }, { name := "FLOAT", type := (.object "com/example/typebridge/typebridge/PrimitiveType"), accessFlags := 16409, slot := 6, constantValue := 0 }, { name := "DOUBLE", type := (.object "com/example/typebridge/typebridge/PrimitiveType"), accessFlags := 16409, slot := 7, constantValue := 0 }, { name := "keyword", type := (.object "java/lang/String"), accessFlags := 18, slot := 3, constantValue := 0 }, { name := "$VALUES", type := (.array (.object "com/example/typebridge/typebridge/PrimitiveType")), accessFlags := 4122, slot := 8, constantValue := 0 }]
  methods := #[k7m0]
  instanceTypes := #[(.object "java/lang/String"), .int, .int, (.object "java/lang/String")]
  staticTypes := #[(.object "com/example/typebridge/typebridge/PrimitiveType"), (.object "com/example/typebridge/typebridge/PrimitiveType"), (.object "com/example/typebridge/typebridge/PrimitiveType"), (.object "com/example/typebridge/typebridge/PrimitiveType"), (.object "com/example/typebridge/typebridge/PrimitiveType"), (.object "com/example/typebridge/typebridge/PrimitiveType"), (.object "com/example/typebridge/typebridge/PrimitiveType"), (.object "com/example/typebridge/typebridge/PrimitiveType"), (.array (.object "com/example/typebridge/typebridge/PrimitiveType"))]
  resolved := Array.replicate 116 none
  statics := some 0 }

def pool8 : Array CpInfo := pool [(1, u "java/lang/Cloneable"), (0, .class_ 1), (0, u "java/lang/Object"), (0, .class_ 3)] 3

/-- java/lang/Cloneable -/
def k8 : Class := { plain "java/lang/Cloneable" (some 0) with
  accessFlags := 1537
  interfaces := #[]
  cf := some (fileOf pool8 2 #[] #[] 1537 4 #[] #[])
  fields := #[]
  methods := #[]
  instanceTypes := #[]
  staticTypes := #[]
  resolved := Array.replicate 8 none
  statics := none }

/-- the primitive byte -/
def k9 : Class := { plain "byte" none with kind := .primitive 'B', accessFlags := 0x411 }
/-- [B -/
def k10 : Class := { plain "[B" (some 0) with kind := .array 9 .byte, interfaces := #[8, 4], accessFlags := 1041 }

/-- the primitive int -/
def k11 : Class := { plain "int" none with kind := .primitive 'I', accessFlags := 0x411 }
/-- [I -/
def k12 : Class := { plain "[I" (some 0) with kind := .array 11 .int, interfaces := #[8, 4], accessFlags := 1041 }

def heap : Heap := #[{ cls := 7, slots := #[.ref 1, .ref 2, .ref 3, .ref 4, .ref 5, .ref 6, .ref 7, .ref 8, .null], vm := .statics 7 },
  { cls := 7, slots := #[.null, .int 0, .int 0, .null], vm := .none },
  { cls := 7, slots := #[.null, .int 1, .int 0, .null], vm := .none },
  { cls := 7, slots := #[.null, .int 2, .int 0, .null], vm := .none },
  { cls := 7, slots := #[.null, .int 3, .int 0, .null], vm := .none },
  { cls := 7, slots := #[.null, .int 4, .int 0, .null], vm := .none },
  { cls := 7, slots := #[.null, .int 5, .int 0, .null], vm := .none },
  { cls := 7, slots := #[.null, .int 6, .int 0, .null], vm := .none },
  { cls := 7, slots := #[.null, .int 7, .int 0, .null], vm := .none }]
def classes : Array Class := #[k0, k1, k2, k3, k4, k5, k6, k7, k8, k9, k10, k11, k12]
def interned : List (Array UInt16 × Addr) := []
def slotsUsed : Nat := 41
def theMethod : MethodId := ⟨1, 1⟩
def args0 : Array Value := #[.int 5]
def aboutOver (below : List Frame) : State where
  vm := { classes := classes, interned := interned.toArray }
  heap := heap
  slotsUsed := slotsUsed
  threads := #[{ frames := .invoking theMethod args0 :: below }]
def below0 : List Frame := [.native { method := ⟨0, 0⟩, args := #[] }]
def about1 : State := aboutOver below0
def p0 : Program := .bare "" "" ""
def e0 : Env := launch0.env 0 0 0
theorem w_frames : about1.frames = Frame.invoking theMethod args0 :: below0 := rfl
set_option maxRecDepth 65536 in
theorem w_args : argsFit about1.vm theMethod args0 = true := by decide +kernel
set_option maxRecDepth 65536 in
theorem w_heap : heapFits about1 = true := by decide +kernel
set_option maxRecDepth 65536 in
theorem w_runnable : about1.curStatus? = some .runnable := by decide +kernel
set_option maxRecDepth 65536 in
theorem w_alone : about1.alone = true := by decide +kernel
set_option maxRecDepth 65536 in
theorem w_named : about1.methodNamed? x = some theMethod := by decide +kernel
set_option maxRecDepth 65536 in
theorem w_hears : about1.hears theMethod below0 = true := by decide +kernel
set_option maxRecDepth 65536 in
theorem w_ripe : about1.ripe theMethod args0 below0 = true := by decide +kernel
theorem w_running : about1.status = .running := rfl
set_option maxRecDepth 65536 in
theorem w_room : about1.hasRoom e0.platform room_1 = true :=
  launch0.hasRoom_least _ room_1 (by decide +kernel) (by decide +kernel) (by decide +kernel) (by decide +kernel) (by decide +kernel) (by decide +kernel)
theorem allAtoms_all (ts : List Jvm.Cond) (a : Array Jvm.Value) (st : Jvm.State) : (allAtoms ts).before a st = ts.all (fun c => c.before a st) := by
  induction ts with
  | nil => rfl
  | cons c t ih =>
    show (Jvm.Cond.and c (allAtoms t)).before a st = _
    rw [Jvm.Cond.before_and, ih, List.all_cons]
def words1 : List Jvm.Cond := Jvm.Cond.code x code maxLocals ret :: tables_1
/-- a 'code' word, met by the world's own term for the bytes: nothing is compared byte by byte -/
theorem code_word {y : MethodName} {bytes : ByteArray} {mx : Nat} {rt : Option FieldType} {a : Array Value} {s : State} {m : MethodId} {meth : Method} {c : Code} (h1 : s.methodNamed? y = some m) (h2 : s.vm.method? m = some meth) (h3 : meth.code = some c) (h4 : c.code = bytes)
    (h5 : (c.maxLocals == mx && c.exceptionTable.isEmpty && decide (c.maxStack ≤ mostOperands) && decide (meth.sig.returnType = rt) && !meth.locks && decide (parseMethodDescriptor y.desc = some meth.sig)) = true) : (Jvm.Cond.code y bytes mx rt).before a s = true := by
  simp only [Bool.and_eq_true, beq_iff_eq, Bool.not_eq_true', decide_eq_true_eq] at h5
  obtain ⟨⟨⟨⟨⟨g1, g2⟩, g3⟩, g4⟩, g5⟩, g6⟩ := h5
  simp [Cond.before, Cond.holds, Cond.value, h1, h2, h3, h4, g1, g2, g3, g4, g5, g6]
def isCode : Jvm.Cond → Bool
  | .code _ _ _ _ => true
  | _ => false
theorem all_split {L : List Jvm.Cond} {P : Jvm.Cond → Bool} (h1 : L.all (fun c => isCode c || P c) = true) (h2 : ∀ c ∈ L.filter isCode, P c = true) : L.all P = true := by
  refine List.all_eq_true.mpr fun c hc => ?_
  have h := List.all_eq_true.mp h1 c hc
  rcases Bool.eq_false_or_eq_true (isCode c) with hi | hi
  · exact h2 c (List.mem_filter.mpr ⟨hc, hi⟩)
  · simpa [hi] using h
set_option maxRecDepth 65536 in
theorem w_c0 : (Jvm.Cond.code x code maxLocals ret).before args0 about1 = true := code_word (m := ⟨1, 1⟩) (meth := k1m1) (c := k1c1) (by decide +kernel) rfl rfl rfl (by decide +kernel)
set_option maxRecDepth 65536 in
theorem w_c1 : (Jvm.Cond.code ({ cls := "com/example/typebridge/typebridge/PrimitiveTypeIsIntegralPinLaw", name := "pick", desc := "(I)Lcom/example/typebridge/typebridge/PrimitiveType;" } : Jvm.MethodName) method_3_code (1 : Nat) (Option.some (Jvm.ClassFile.FieldType.object "com/example/typebridge/typebridge/PrimitiveType"))).before args0 about1 = true := code_word (m := ⟨1, 2⟩) (meth := k1m2) (c := k1c2) (by decide +kernel) rfl rfl rfl (by decide +kernel)
set_option maxRecDepth 65536 in
theorem w_c2 : (Jvm.Cond.code ({ cls := "com/example/typebridge/typebridge/PrimitiveType", name := "isIntegral", desc := "()Z" } : Jvm.MethodName) prog_44_method_6_code (1 : Nat) (Option.some Jvm.ClassFile.FieldType.boolean)).before args0 about1 = true := code_word (m := ⟨7, 0⟩) (meth := k7m0) (c := k7c0) (by decide +kernel) rfl rfl rfl (by decide +kernel)
def codes1 : List Jvm.Cond := [Jvm.Cond.code x code maxLocals ret, Jvm.Cond.code ({ cls := "com/example/typebridge/typebridge/PrimitiveTypeIsIntegralPinLaw", name := "pick", desc := "(I)Lcom/example/typebridge/typebridge/PrimitiveType;" } : Jvm.MethodName) method_3_code (1 : Nat) (Option.some (Jvm.ClassFile.FieldType.object "com/example/typebridge/typebridge/PrimitiveType")), Jvm.Cond.code ({ cls := "com/example/typebridge/typebridge/PrimitiveType", name := "isIntegral", desc := "()Z" } : Jvm.MethodName) prog_44_method_6_code (1 : Nat) (Option.some Jvm.ClassFile.FieldType.boolean)]
set_option maxRecDepth 65536 in
theorem codes_eq : words1.filter isCode = codes1 := rfl
theorem w_codes : ∀ c ∈ words1.filter isCode, c.before args0 about1 = true := by
  rw [codes_eq]
  intro c hc
  simp only [codes1, List.mem_cons, List.not_mem_nil, or_false] at hc
  rcases hc with rfl | rfl | rfl
  · exact w_c0
  · exact w_c1
  · exact w_c2
set_option maxRecDepth 65536 in
theorem w_t1 : (words1.take 24).all (fun c => isCode c || c.before args0 about1) = true := by decide +kernel
set_option maxRecDepth 65536 in
theorem w_t2 : (words1.drop 24).all (fun c => isCode c || c.before args0 about1) = true := by decide +kernel
theorem w_tables : (allAtoms (Jvm.Cond.code x code maxLocals ret :: tables_1)).before args0 about1 = true := by
  rw [allAtoms_all]
  show words1.all (fun c => c.before args0 about1) = true
  refine all_split ?_ w_codes
  rw [← List.take_append_drop 24 words1, List.all_append, w_t1, w_t2]
  rfl
set_option maxRecDepth 65536 in
theorem w_case : (Jvm.Cond.and given_1 narrow_1).before args0 about1 = true := by decide +kernel
theorem w_applies : (headSpec (Jvm.Cond.code x code maxLocals ret :: tables_1) room_1).applies x e0.platform about1 = true :=
  (Spec.applies_iff w_frames).mpr ⟨w_running, w_runnable, w_alone, w_named, w_hears, w_ripe, w_room, w_tables⟩
theorem atStart : AtStart classFile x code maxLocals ret World_1 tables_1 room_1 Calls_1 rest_1 Pre_1 launch0 p0 e0 about1 theMethod args0 below0 :=
  ⟨lists_1, trivial, launch0.admits_env _ _ _, launch0.least_env, fairChoices_fair.cas, fairChoices_fair.clock, w_frames, w_args, w_heap, w_applies, trivial, trivial, w_case⟩
end start1
theorem witness_1 : WitnessClaimed_1 := ⟨start1.p0, start1.e0, start1.about1, start1.theMethod, start1.args0, start1.below0, start1.atStart⟩
end Jvm.Pilot.@@N@@
