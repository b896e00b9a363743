import JvmDerived
import JvmDerived.Pilot.@@N@@Statement
import JvmDerived.Pilot.@@N@@Code
set_option linter.unusedVariables false
set_option linter.unusedSimpArgs false
namespace Jvm.RoadKit
open Sem ClassFile Op Lib Jvm.Stand Jvm.Free Jvm.LawKit
section New
variable {p : Program} {l : Launch} {e : Env} {R : Room} {s : State} {m : MethodId} {args : Array Value} {below : List Frame} {meth : Method} {c : Code} {T : State} {locs : List Loc} {cells slots : Nat}
theorem retI (X : Stand p l e R s m args below meth c T locs cells slots) (hx : p.tables.exec = Jvm.exec) {pc : Nat} {Ls : Array Slot} {z : Int32} {rest : List Value} (hret : meth.sig.returnType = some .int) (hd : decode c.code pc = .ok (.ireturn, 1)) {fs : List Frame}
    (hl : ∀ (f : JFrame) (acts : List Action), f.method = m → f.locked = none → f.entered = [] → (doReturn e (T.setTop f) acts (some (.int z))).1 = T.setFrames fs) : Steps p.tables e below (T.setTop (mkF m pc Ls (.int z :: rest))) (T.setFrames fs) := by
  have hm' : T.vm.method? m = some meth := X.method'
  have hn : narrow .int (.int z) = .int z := rfl
  show Steps p.tables e below (T.setTop { method := m, pc := pc, locals := Ls, stack := _ :: rest, locked := none }) _
  jvm_step X.here [X.here.top, hx, hd, hm', hret, hn]
  first | (intro acts; rw [hl _ acts rfl rfl rfl]) | rw [hl _ _ rfl rfl rfl]
  exact Steps.refl _
end New
end Jvm.RoadKit
namespace Jvm.Pilot.@@N@@
open Jvm Jvm.ClassFile Sem Op Lib Jvm.Free Jvm.Stand Jvm.LawKit Jvm.RoadKit Bundle Jvm.Pilot.@@N@@.Jvm.D
/-- what a body that writes nothing leaves: the value, and the heap as it was -/
def QV (r : Option Value) (h0 : Heap) (n0 : Nat) (v : Option Value) (h : Heap) (L : List Loc) : Prop := v = r ∧ Fr n0 L ∧ h = h0
theorem own_fld_one {Z : State} {h : Heap} {a : Addr} {C n d : String} {v w : Value} (F : Fld Z h a C n d v) (G : Fld Z h a C n d w) : v = w := by
  obtain ⟨c1, f1, k1, i1, g1, a1, a2, -, -, -, -, a7⟩ := F
  obtain ⟨c2, f2, k2, i2, g2, b1, b2, -, -, -, -, b7⟩ := G
  cases a1.symm.trans b1
  cases a2.symm.trans b2
  exact Option.some.inj (a7.symm.trans b7)
theorem own_ne_fld {Z : State} {h : Heap} {a b : Addr} {C n d : String} {x y : Int32} (F : Fld Z h a C n d (.int x)) (G : Fld Z h b C n d (.int y)) (hn : x ≠ y) : ¬ a = b := fun e => by
  subst e
  exact hn (Value.int.inj (own_fld_one F G))
theorem own_fld {args : Array Value} {s : State} {t : Term} {C n d : String} {k : Int32} {a : Addr} (ht : t.eval args s none [] s = some (.ref a)) (h : (Jvm.Cond.eq (Jvm.Term.field t C n d) (Jvm.Term.int k)).value args s none s [] = some true) : Fld s s.heap a C n d (.int k) := by
  refine Fld.start ((fld_at (idx := []) (first := s) (o := none) ht).symm.trans ?_)
  obtain ⟨x, y, e1, e2, k1, k2⟩ := cmp_v (Or.inl h)
  cases e2
  obtain ⟨z, rfl⟩ := k2
  have e3 : (Jvm.Term.int k).eval args s none [] s = some (.int k) := rfl
  have q : z = k := by simpa [Jvm.Cond.value, e1, e3] using h
  rw [e1, q]
def Q0 (n0 : Nat) (v : Option Value) (h : Heap) (L : List Loc) : Prop := v = some (.int (1 : Int32)) ∧ Fr n0 L
theorem d_prog_33_m_10_0 : decode prog_33_method_10_code 0 = .ok (.aload_n 0, 1) := by decide +kernel
theorem d_prog_33_m_10_1 : decode prog_33_method_10_code 1 = .ok (.getstatic 16, 3) := by decide +kernel
theorem d_prog_33_m_10_4 : decode prog_33_method_10_code 4 = .ok (.if_acmp .eq 17, 3) := by decide +kernel
theorem d_prog_33_m_10_7 : decode prog_33_method_10_code 7 = .ok (.aload_n 0, 1) := by decide +kernel
theorem d_prog_33_m_10_8 : decode prog_33_method_10_code 8 = .ok (.getstatic 19, 3) := by decide +kernel
theorem d_prog_33_m_10_11 : decode prog_33_method_10_code 11 = .ok (.if_acmp .eq 10, 3) := by decide +kernel
theorem d_prog_33_m_10_14 : decode prog_33_method_10_code 14 = .ok (.aload_n 0, 1) := by decide +kernel
theorem d_prog_33_m_10_15 : decode prog_33_method_10_code 15 = .ok (.getstatic 22, 3) := by decide +kernel
theorem d_prog_33_m_10_18 : decode prog_33_method_10_code 18 = .ok (.if_acmp .ne 7, 3) := by decide +kernel
theorem d_prog_33_m_10_21 : decode prog_33_method_10_code 21 = .ok (.iconst 1, 1) := by decide +kernel
theorem d_prog_33_m_10_22 : decode prog_33_method_10_code 22 = .ok (.goto 4, 3) := by decide +kernel
theorem d_prog_33_m_10_25 : decode prog_33_method_10_code 25 = .ok (.iconst 0, 1) := by decide +kernel
theorem d_prog_33_m_10_26 : decode prog_33_method_10_code 26 = .ok (.ireturn, 1) := by decide +kernel
theorem pd_0 : parseMethodDescriptor "()Z" = some ⟨[], some .boolean⟩ := by decide +kernel
theorem pn_0 : plainName "com/example/clausemap/clausemap/outline/Part$Kind" = true := by first | (simp [plainName, overriddenIn]; done) | decide +kernel
theorem pn_1 : plainName "com/example/clausemap/clausemap/outline/KindIsAttachmentPinLaw" = true := by first | (simp [plainName, overriddenIn]; done) | decide +kernel
theorem ef_rm1 (m : MethodId) (x0 : Addr) : entryFrame m #[(.ref x0)] 1 = mkF m 0 #[.val (.ref x0)] [] := by first | (simp [entryFrame, mkF, argsToLocals, Value.category]; done) | rfl
set_option maxRecDepth 65536 in
set_option maxHeartbeats 40000000 in
theorem rm1 (l : Launch) (Z : State) (a0 : Array Value) (hw : ∀ d ∈ tables_1, d.before a0 Z = true) (ws : List Jvm.Cond) (a : Addr) (a_EXHIBIT : Addr) (a_SCHEDULE : Addr) (a_ANNEX : Addr) (h0 : Heap) (n0 : Nat) (Z0 : n0 ≤ h0.size) (S_EXHIBIT : Sta Z h0 "com/example/clausemap/clausemap/outline/Part$Kind" "EXHIBIT" "Lcom/example/clausemap/clausemap/outline/Part$Kind;" (.ref a_EXHIBIT)) (S_SCHEDULE : Sta Z h0 "com/example/clausemap/clausemap/outline/Part$Kind" "SCHEDULE" "Lcom/example/clausemap/clausemap/outline/Part$Kind;" (.ref a_SCHEDULE)) (S_ANNEX : Sta Z h0 "com/example/clausemap/clausemap/outline/Part$Kind" "ANNEX" "Lcom/example/clausemap/clausemap/outline/Part$Kind;" (.ref a_ANNEX)) :
    MetFree l (⟨"com/example/clausemap/clausemap/outline/Part$Kind", "isAttachment", "()Z"⟩ : MethodName) (head1 (Jvm.Cond.code (⟨"com/example/clausemap/clausemap/outline/Part$Kind", "isAttachment", "()Z"⟩ : MethodName) prog_33_method_10_code 1 (some .boolean) :: ws) ({ frames := 0, cells := 0, slots := 0, locals := 0 } : Room)) (fun aa_ UU_ => aa_ = #[(.ref a)] ∧ Z.Warmed39 UU_.vm ∧ UU_.heap = h0) (fun _ _ _ _ _ => True) (fun _ UU_ oo_ UE_ => ∃ vv_ LL_, oo_ = .returned vv_ ∧ QV (some (.int (if a = a_EXHIBIT ∨ a = a_SCHEDULE ∨ a = a_ANNEX then 1 else 0))) h0 n0 vv_ UE_.heap LL_ ∧ FrameEnd UU_ oo_ UE_ LL_ ({ frames := 0, cells := 0, slots := 0, locals := 0 } : Room).cells ({ frames := 0, cells := 0, slots := 0, locals := 0 } : Room).slots) := by
  refine MetFree.of_bodySF (plainFor_of_name pn_0) hisR ?_
  intro p e s m args below meth c s₁ Bd hml0 hP hK
  obtain ⟨rfl, hZ, hh⟩ := hP
  have hx := Bd.exec
  have hby := Bd.bytes
  have hml : c.maxLocals = 1 := hml0
  have hown : s.vm.findClass "com/example/clausemap/clausemap/outline/Part$Kind" = some m.cls := findClass_of_methodNamed Bd.named
  have hnm := (name_of_methodNamed Bd.named Bd.method).1
  have X0 : Stand p l e ({ frames := 0, cells := 0, slots := 0, locals := 0 } : Room) s m #[(.ref a)] below meth c s₁ [] 0 0 := Stand.of_body Bd
  have e0 : s₁.heap = h0 := by rw [← hh, Bd.state]; rfl
  have N0 := Fr.nil n0
  have pre0 : ∀ tg, Steps p.tables e below (s₁.setTop (mkF m 0 #[.val (.ref a)] [])) tg → Steps p.tables e below (s₁.setTop (entryFrame m #[(.ref a)] 1)) tg := fun tg k => castTop (ef_rm1 m a) k
  obtain ⟨T1, X1, e1, st1⟩ := getS2 X0 hx hZ hown (host := "") (Or.inl (hw _ (List.mem_of_getElem? (i := 9) rfl))) Via.refl e0 S_EXHIBIT (g := (mkF m 1 #[.val (.ref a)] [(.ref a)])) rfl (hb hby d_prog_33_m_10_1)
  have R2 : ∀ tg, Steps p.tables e below (T1.setTop (mkF m 4 #[.val (.ref a)] [(.ref a_EXHIBIT), (.ref a)])) tg → Steps p.tables e below (s₁.setTop (mkF m 0 #[.val (.ref a)] [])) tg := by
    intro tg kt
    refine XS.aloadN X0.here hx rfl (hb hby d_prog_33_m_10_0) rfl rfl ?_
    show Steps p.tables e below (s₁.setTop (mkF m 1 #[.val (.ref a)] [(.ref a)])) _
    refine st1 _ ?_
    show Steps p.tables e below (T1.setTop (mkF m 4 #[.val (.ref a)] [(.ref a_EXHIBIT), (.ref a)])) _
    exact kt
  by_cases hc4_3 : a = a_EXHIBIT
  · obtain ⟨fs, hr, hrun, hended, hW, hsame⟩ := X1.leave (v := some (.int (1 : Int32))) (fun h => by rw [Bd.returns] at h; cases h)
    refine ⟨_, _, pre0 _ (R2 _ ?_), hrun, hended, _, _, rfl, ?_, ⟨_, rfl⟩, hW, hsame.mono (by decide) (by decide)⟩
    · show Steps p.tables e below (T1.setTop (mkF m 4 #[.val (.ref a)] [(.ref a_EXHIBIT), (.ref a)])) _
      refine Jvm.RoadKit.acmp (g := (mkF m 4 #[.val (.ref a)] [(.ref a_EXHIBIT), (.ref a)])) X1 hx rfl rfl rfl (pc0 := 4) (pc' := 21) (same := true) rfl (hb hby d_prog_33_m_10_4) rfl (decide_eq_true (congrArg Value.ref hc4_3)) (by decide) (by decide) ?_
      show Steps p.tables e below (T1.setTop (mkF m 21 #[.val (.ref a)] [])) _
      refine XS.iconst X1.here hx rfl (hb hby d_prog_33_m_10_21) ?_
      show Steps p.tables e below (T1.setTop (mkF m 22 #[.val (.ref a)] [(.int (1 : Int32))])) _
      refine XS.goto X1.here hx rfl (pc0 := 22) (pc' := 26) rfl (hb hby d_prog_33_m_10_22) (by decide) (by decide) ?_
      show Steps p.tables e below (T1.setTop (mkF m 26 #[.val (.ref a)] [(.int (1 : Int32))])) _
      exact retN X1 hx (t := .boolean) Bd.returns (by simp) (hb hby d_prog_33_m_10_26) hr
    · show QV (some (.int (if a = a_EXHIBIT ∨ a = a_SCHEDULE ∨ a = a_ANNEX then 1 else 0))) h0 n0 _ T1.heap _
      rw [e1]
      exact ⟨by simp [hc4_3], N0, rfl⟩
  · obtain ⟨T4, X4, e4, st4⟩ := getS2 X1 hx hZ hown (host := "") (Or.inl (hw _ (List.mem_of_getElem? (i := 11) rfl))) Via.refl e1 S_SCHEDULE (g := (mkF m 8 #[.val (.ref a)] [(.ref a)])) rfl (hb hby d_prog_33_m_10_8)
    have R5 : ∀ tg, Steps p.tables e below (T4.setTop (mkF m 11 #[.val (.ref a)] [(.ref a_SCHEDULE), (.ref a)])) tg → Steps p.tables e below (T1.setTop (mkF m 4 #[.val (.ref a)] [(.ref a_EXHIBIT), (.ref a)])) tg := by
      intro tg kt
      refine Jvm.RoadKit.acmp (g := (mkF m 4 #[.val (.ref a)] [(.ref a_EXHIBIT), (.ref a)])) X1 hx rfl rfl rfl (pc0 := 4) (pc' := 7) (same := false) rfl (hb hby d_prog_33_m_10_4) rfl (decide_eq_false fun q => hc4_3 (Value.ref.inj q)) (by decide) (by decide) ?_
      show Steps p.tables e below (T1.setTop (mkF m 7 #[.val (.ref a)] [])) _
      refine XS.aloadN X1.here hx rfl (hb hby d_prog_33_m_10_7) rfl rfl ?_
      show Steps p.tables e below (T1.setTop (mkF m 8 #[.val (.ref a)] [(.ref a)])) _
      refine st4 _ ?_
      show Steps p.tables e below (T4.setTop (mkF m 11 #[.val (.ref a)] [(.ref a_SCHEDULE), (.ref a)])) _
      exact kt
    by_cases hc11_6 : a = a_SCHEDULE
    · obtain ⟨fs, hr, hrun, hended, hW, hsame⟩ := X4.leave (v := some (.int (1 : Int32))) (fun h => by rw [Bd.returns] at h; cases h)
      refine ⟨_, _, pre0 _ (R2 _ (R5 _ ?_)), hrun, hended, _, _, rfl, ?_, ⟨_, rfl⟩, hW, hsame.mono (by decide) (by decide)⟩
      · show Steps p.tables e below (T4.setTop (mkF m 11 #[.val (.ref a)] [(.ref a_SCHEDULE), (.ref a)])) _
        refine Jvm.RoadKit.acmp (g := (mkF m 11 #[.val (.ref a)] [(.ref a_SCHEDULE), (.ref a)])) X4 hx rfl rfl rfl (pc0 := 11) (pc' := 21) (same := true) rfl (hb hby d_prog_33_m_10_11) rfl (decide_eq_true (congrArg Value.ref hc11_6)) (by decide) (by decide) ?_
        show Steps p.tables e below (T4.setTop (mkF m 21 #[.val (.ref a)] [])) _
        refine XS.iconst X4.here hx rfl (hb hby d_prog_33_m_10_21) ?_
        show Steps p.tables e below (T4.setTop (mkF m 22 #[.val (.ref a)] [(.int (1 : Int32))])) _
        refine XS.goto X4.here hx rfl (pc0 := 22) (pc' := 26) rfl (hb hby d_prog_33_m_10_22) (by decide) (by decide) ?_
        show Steps p.tables e below (T4.setTop (mkF m 26 #[.val (.ref a)] [(.int (1 : Int32))])) _
        exact retN X4 hx (t := .boolean) Bd.returns (by simp) (hb hby d_prog_33_m_10_26) hr
      · show QV (some (.int (if a = a_EXHIBIT ∨ a = a_SCHEDULE ∨ a = a_ANNEX then 1 else 0))) h0 n0 _ T4.heap _
        rw [e4]
        exact ⟨by simp [hc4_3, hc11_6], N0, rfl⟩
    · obtain ⟨T7, X7, e7, st7⟩ := getS2 X4 hx hZ hown (host := "") (Or.inl (hw _ (List.mem_of_getElem? (i := 13) rfl))) Via.refl e4 S_ANNEX (g := (mkF m 15 #[.val (.ref a)] [(.ref a)])) rfl (hb hby d_prog_33_m_10_15)
      have R8 : ∀ tg, Steps p.tables e below (T7.setTop (mkF m 18 #[.val (.ref a)] [(.ref a_ANNEX), (.ref a)])) tg → Steps p.tables e below (T4.setTop (mkF m 11 #[.val (.ref a)] [(.ref a_SCHEDULE), (.ref a)])) tg := by
        intro tg kt
        refine Jvm.RoadKit.acmp (g := (mkF m 11 #[.val (.ref a)] [(.ref a_SCHEDULE), (.ref a)])) X4 hx rfl rfl rfl (pc0 := 11) (pc' := 14) (same := false) rfl (hb hby d_prog_33_m_10_11) rfl (decide_eq_false fun q => hc11_6 (Value.ref.inj q)) (by decide) (by decide) ?_
        show Steps p.tables e below (T4.setTop (mkF m 14 #[.val (.ref a)] [])) _
        refine XS.aloadN X4.here hx rfl (hb hby d_prog_33_m_10_14) rfl rfl ?_
        show Steps p.tables e below (T4.setTop (mkF m 15 #[.val (.ref a)] [(.ref a)])) _
        refine st7 _ ?_
        show Steps p.tables e below (T7.setTop (mkF m 18 #[.val (.ref a)] [(.ref a_ANNEX), (.ref a)])) _
        exact kt
      by_cases hc18_9 : a = a_ANNEX
      · obtain ⟨fs, hr, hrun, hended, hW, hsame⟩ := X7.leave (v := some (.int (1 : Int32))) (fun h => by rw [Bd.returns] at h; cases h)
        refine ⟨_, _, pre0 _ (R2 _ (R5 _ (R8 _ ?_))), hrun, hended, _, _, rfl, ?_, ⟨_, rfl⟩, hW, hsame.mono (by decide) (by decide)⟩
        · show Steps p.tables e below (T7.setTop (mkF m 18 #[.val (.ref a)] [(.ref a_ANNEX), (.ref a)])) _
          refine Jvm.RoadKit.acmp (g := (mkF m 18 #[.val (.ref a)] [(.ref a_ANNEX), (.ref a)])) X7 hx rfl rfl rfl (pc0 := 18) (pc' := 21) (same := true) rfl (hb hby d_prog_33_m_10_18) rfl (decide_eq_true (congrArg Value.ref hc18_9)) (by decide) (by decide) ?_
          show Steps p.tables e below (T7.setTop (mkF m 21 #[.val (.ref a)] [])) _
          refine XS.iconst X7.here hx rfl (hb hby d_prog_33_m_10_21) ?_
          show Steps p.tables e below (T7.setTop (mkF m 22 #[.val (.ref a)] [(.int (1 : Int32))])) _
          refine XS.goto X7.here hx rfl (pc0 := 22) (pc' := 26) rfl (hb hby d_prog_33_m_10_22) (by decide) (by decide) ?_
          show Steps p.tables e below (T7.setTop (mkF m 26 #[.val (.ref a)] [(.int (1 : Int32))])) _
          exact retN X7 hx (t := .boolean) Bd.returns (by simp) (hb hby d_prog_33_m_10_26) hr
        · show QV (some (.int (if a = a_EXHIBIT ∨ a = a_SCHEDULE ∨ a = a_ANNEX then 1 else 0))) h0 n0 _ T7.heap _
          rw [e7]
          exact ⟨by simp [hc4_3, hc11_6, hc18_9], N0, rfl⟩
      · obtain ⟨fs, hr, hrun, hended, hW, hsame⟩ := X7.leave (v := some (.int (0 : Int32))) (fun h => by rw [Bd.returns] at h; cases h)
        refine ⟨_, _, pre0 _ (R2 _ (R5 _ (R8 _ ?_))), hrun, hended, _, _, rfl, ?_, ⟨_, rfl⟩, hW, hsame.mono (by decide) (by decide)⟩
        · show Steps p.tables e below (T7.setTop (mkF m 18 #[.val (.ref a)] [(.ref a_ANNEX), (.ref a)])) _
          refine Jvm.RoadKit.acmp (g := (mkF m 18 #[.val (.ref a)] [(.ref a_ANNEX), (.ref a)])) X7 hx rfl rfl rfl (pc0 := 18) (pc' := 25) (same := false) rfl (hb hby d_prog_33_m_10_18) rfl (decide_eq_false fun q => hc18_9 (Value.ref.inj q)) (by decide) (by decide) ?_
          show Steps p.tables e below (T7.setTop (mkF m 25 #[.val (.ref a)] [])) _
          refine XS.iconst X7.here hx rfl (hb hby d_prog_33_m_10_25) ?_
          show Steps p.tables e below (T7.setTop (mkF m 26 #[.val (.ref a)] [(.int (0 : Int32))])) _
          exact retN X7 hx (t := .boolean) Bd.returns (by simp) (hb hby d_prog_33_m_10_26) hr
        · show QV (some (.int (if a = a_EXHIBIT ∨ a = a_SCHEDULE ∨ a = a_ANNEX then 1 else 0))) h0 n0 _ T7.heap _
          rw [e7]
          exact ⟨by simp [hc4_3, hc11_6, hc18_9], N0, rfl⟩
theorem ef_rm0 (m : MethodId) (x0 : Int32) : entryFrame m #[(.int x0)] maxLocals = mkF m 0 #[.val (.int x0), .unset, .unset, .unset] [] := by first | (simp [entryFrame, mkF, argsToLocals, Value.category, maxLocals]; done) | rfl
set_option maxRecDepth 65536 in
set_option maxHeartbeats 40000000 in
theorem rm0 (l : Launch) (Z : State) (a0 : Array Value) (hw : ∀ d ∈ tables_1, d.before a0 Z = true) (ws : List Jvm.Cond) (p1 : Int32) (a_ARTICLE : Addr) (a_EXHIBIT : Addr) (a_SCHEDULE : Addr) (a_ANNEX : Addr) (a_APPENDIX : Addr) (a_PARAGRAPH : Addr) (a_SECTION : Addr) (h0 : Heap) (n0 : Nat) (Z0 : n0 ≤ h0.size) (S_ARTICLE : Sta Z h0 "com/example/clausemap/clausemap/outline/Part$Kind" "ARTICLE" "Lcom/example/clausemap/clausemap/outline/Part$Kind;" (.ref a_ARTICLE)) (E_ARTICLE : Exa Z h0 a_ARTICLE "com/example/clausemap/clausemap/outline/Part$Kind") (F_ARTICLE_ordinal : Fld Z h0 a_ARTICLE "java/lang/Enum" "ordinal" "I" (.int (0 : Int32))) (S_EXHIBIT : Sta Z h0 "com/example/clausemap/clausemap/outline/Part$Kind" "EXHIBIT" "Lcom/example/clausemap/clausemap/outline/Part$Kind;" (.ref a_EXHIBIT)) (E_EXHIBIT : Exa Z h0 a_EXHIBIT "com/example/clausemap/clausemap/outline/Part$Kind") (F_EXHIBIT_ordinal : Fld Z h0 a_EXHIBIT "java/lang/Enum" "ordinal" "I" (.int (4 : Int32))) (S_SCHEDULE : Sta Z h0 "com/example/clausemap/clausemap/outline/Part$Kind" "SCHEDULE" "Lcom/example/clausemap/clausemap/outline/Part$Kind;" (.ref a_SCHEDULE)) (E_SCHEDULE : Exa Z h0 a_SCHEDULE "com/example/clausemap/clausemap/outline/Part$Kind") (F_SCHEDULE_ordinal : Fld Z h0 a_SCHEDULE "java/lang/Enum" "ordinal" "I" (.int (5 : Int32))) (S_ANNEX : Sta Z h0 "com/example/clausemap/clausemap/outline/Part$Kind" "ANNEX" "Lcom/example/clausemap/clausemap/outline/Part$Kind;" (.ref a_ANNEX)) (E_ANNEX : Exa Z h0 a_ANNEX "com/example/clausemap/clausemap/outline/Part$Kind") (F_ANNEX_ordinal : Fld Z h0 a_ANNEX "java/lang/Enum" "ordinal" "I" (.int (6 : Int32))) (S_APPENDIX : Sta Z h0 "com/example/clausemap/clausemap/outline/Part$Kind" "APPENDIX" "Lcom/example/clausemap/clausemap/outline/Part$Kind;" (.ref a_APPENDIX)) (E_APPENDIX : Exa Z h0 a_APPENDIX "com/example/clausemap/clausemap/outline/Part$Kind") (F_APPENDIX_ordinal : Fld Z h0 a_APPENDIX "java/lang/Enum" "ordinal" "I" (.int (3 : Int32))) (S_PARAGRAPH : Sta Z h0 "com/example/clausemap/clausemap/outline/Part$Kind" "PARAGRAPH" "Lcom/example/clausemap/clausemap/outline/Part$Kind;" (.ref a_PARAGRAPH)) (E_PARAGRAPH : Exa Z h0 a_PARAGRAPH "com/example/clausemap/clausemap/outline/Part$Kind") (F_PARAGRAPH_ordinal : Fld Z h0 a_PARAGRAPH "java/lang/Enum" "ordinal" "I" (.int (2 : Int32))) (S_SECTION : Sta Z h0 "com/example/clausemap/clausemap/outline/Part$Kind" "SECTION" "Lcom/example/clausemap/clausemap/outline/Part$Kind;" (.ref a_SECTION)) (E_SECTION : Exa Z h0 a_SECTION "com/example/clausemap/clausemap/outline/Part$Kind") (F_SECTION_ordinal : Fld Z h0 a_SECTION "java/lang/Enum" "ordinal" "I" (.int (1 : Int32))) :
    MetFree l x (head1 (Jvm.Cond.code x code maxLocals ret :: ws) room_1) (fun aa_ UU_ => aa_ = #[(.int p1)] ∧ Z.Warmed39 UU_.vm ∧ UU_.heap = h0) (fun _ _ _ _ _ => True) (fun _ UU_ oo_ UE_ => ∃ vv_ LL_, oo_ = .returned vv_ ∧ Q0 n0 vv_ UE_.heap LL_ ∧ FrameEnd UU_ oo_ UE_ LL_ room_1.cells room_1.slots) := by
  refine MetFree.of_bodySF (plainFor_of_name pn_1) hisR ?_
  intro p e s m args below meth c s₁ Bd hml0 hP hK
  obtain ⟨rfl, hZ, hh⟩ := hP
  have hx := Bd.exec
  have hby := Bd.bytes
  have hml : c.maxLocals = 4 := hml0
  have hown : s.vm.findClass "com/example/clausemap/clausemap/outline/KindIsAttachmentPinLaw" = some m.cls := findClass_of_methodNamed Bd.named
  have hnm := (name_of_methodNamed Bd.named Bd.method).1
  have X0 : Stand p l e room_1 s m #[(.int p1)] below meth c s₁ [] 0 0 := Stand.of_body Bd
  have e0 : s₁.heap = h0 := by rw [← hh, Bd.state]; rfl
  have N0 := Fr.nil n0
  have pre0 : ∀ tg, Steps p.tables e below (s₁.setTop (mkF m 0 #[.val (.int p1), .unset, .unset, .unset] [])) tg → Steps p.tables e below (s₁.setTop (entryFrame m #[(.int p1)] maxLocals)) tg := fun tg k => castTop (ef_rm0 m p1) k
  have R1 : ∀ tg, Steps p.tables e below (s₁.setTop (mkF m 9 #[.val (.int p1), .val (.int ((p1 &&& (2147483647 : Int32)) % (7 : Int32))), .unset, .unset] [(.int ((p1 &&& (2147483647 : Int32)) % (7 : Int32)))])) tg → Steps p.tables e below (s₁.setTop (mkF m 0 #[.val (.int p1), .unset, .unset, .unset] [])) tg := by
    intro tg kt
    refine XS.iloadN X0.here hx rfl (hb hby at_0) rfl ?_
    show Steps p.tables e below (s₁.setTop (mkF m 1 #[.val (.int p1), .unset, .unset, .unset] [(.int p1)])) _
    refine X0.ldcInt hx hown (mvT hZ (hw _ (List.mem_of_getElem? (i := 0) rfl))) (g := (mkF m 1 #[.val (.int p1), .unset, .unset, .unset] [(.int p1)])) rfl (hb hby at_1) _ ?_
    show Steps p.tables e below (s₁.setTop (mkF m 3 #[.val (.int p1), .unset, .unset, .unset] [(.int (2147483647 : Int32)), (.int p1)])) _
    refine XS.iand X0.here hx rfl (hb hby at_3) rfl ?_
    show Steps p.tables e below (s₁.setTop (mkF m 4 #[.val (.int p1), .unset, .unset, .unset] [(.int (p1 &&& (2147483647 : Int32)))])) _
    refine XS.bipush X0.here hx rfl (hb hby at_4) ?_
    show Steps p.tables e below (s₁.setTop (mkF m 6 #[.val (.int p1), .unset, .unset, .unset] [(.int (7 : Int32)), (.int (p1 &&& (2147483647 : Int32)))])) _
    refine iremM (g := (mkF m 6 #[.val (.int p1), .unset, .unset, .unset] [(.int (7 : Int32)), (.int (p1 &&& (2147483647 : Int32)))])) X0 hx rfl (hb hby at_6) rfl (by decide) ?_
    show Steps p.tables e below (s₁.setTop (mkF m 7 #[.val (.int p1), .unset, .unset, .unset] [(.int ((p1 &&& (2147483647 : Int32)) % (7 : Int32)))])) _
    refine XS.istoreN X0.here hx rfl (hb hby at_7) rfl (l' := #[.val (.int p1), .val (.int ((p1 &&& (2147483647 : Int32)) % (7 : Int32))), .unset, .unset]) rfl ?_
    show Steps p.tables e below (s₁.setTop (mkF m 8 #[.val (.int p1), .val (.int ((p1 &&& (2147483647 : Int32)) % (7 : Int32))), .unset, .unset] [])) _
    refine XS.iloadN X0.here hx rfl (hb hby at_8) rfl ?_
    show Steps p.tables e below (s₁.setTop (mkF m 9 #[.val (.int p1), .val (.int ((p1 &&& (2147483647 : Int32)) % (7 : Int32))), .unset, .unset] [(.int ((p1 &&& (2147483647 : Int32)) % (7 : Int32)))])) _
    exact kt
  by_cases hc9_2 : ((p1 &&& (2147483647 : Int32)) % (7 : Int32)) = (0 : Int32)
  · obtain ⟨T3, X3, e3, st3⟩ := getS2 X0 hx hZ hown (host := "") (Or.inl (hw _ (List.mem_of_getElem? (i := 1) rfl))) Via.refl e0 S_ARTICLE (g := (mkF m 12 #[.val (.int p1), .val (.int ((p1 &&& (2147483647 : Int32)) % (7 : Int32))), .unset, .unset] [])) rfl (hb hby at_12)
    obtain ⟨cq4, kq4, q4a, q4b, q4c⟩ := isOf hZ e3 E_ARTICLE
    obtain ⟨_, _, ⟨T4, L4, k4, n4⟩, -, X4, ⟨Lc4, hQ4, l4, y4, z4⟩, st4⟩ := X3.virtualBack hx (y := (⟨"com/example/clausemap/clausemap/outline/Part$Kind", "isAttachment", "()Z"⟩ : MethodName)) (z := (⟨"com/example/clausemap/clausemap/outline/Part$Kind", "isAttachment", "()Z"⟩ : MethodName)) hown (mvT hZ (hw _ (List.mem_of_getElem? (i := 4) rfl))) (mvT hZ (hw _ (List.mem_of_getElem? (i := 5) rfl))) (notFace_of_selects (args := #[]) (mvT hZ (hw _ (List.mem_of_getElem? (i := 7) rfl)))) (mvT hZ (hw _ (List.mem_of_getElem? (i := 7) rfl))) (mvT hZ (hw _ (List.mem_of_getElem? (i := 6) rfl))) (by decide) (backOf (W := 0) (rm1 l Z a0 hw [] a_ARTICLE a_EXHIBIT a_SCHEDULE a_ANNEX h0 n0 Z0 S_EXHIBIT S_SCHEDULE S_ANNEX) hZ (hw _ (List.mem_of_getElem? (i := 8) rfl)) (hw _ (List.mem_of_getElem? (i := 2) rfl)) (by decide) (by decide)) q4a q4c (g := (mkF m 98 #[.val (.int p1), .val (.int ((p1 &&& (2147483647 : Int32)) % (7 : Int32))), .val (.ref a_ARTICLE), .val (.int (0 : Int32))] [(.ref a_ARTICLE)])) rfl (by rw [hml]; rfl) (Steps.refl _) (argsL := []) (rest := []) (lenOf pd_0 rfl) rfl (by show 2 * 0 + _ ≤ _; exact Nat.le_of_eq rfl) (hb hby at_98) (fun _ _ => ⟨rfl, e3, (by decide : 0 + 0 ≤ _), (by decide : 0 + 0 ≤ _)⟩)
    dsimp only [Pt.U, Pt.locs, Pt.cells, Pt.slots] at X4 l4 y4 z4 st4 hQ4
    subst l4 y4 z4
    obtain ⟨hv4, N4q, r4⟩ := hQ4
    rw [(if_neg (fun h => h.elim (own_ne_fld F_ARTICLE_ordinal F_EXHIBIT_ordinal (by decide)) (fun h => h.elim (own_ne_fld F_ARTICLE_ordinal F_SCHEDULE_ordinal (by decide)) (own_ne_fld F_ARTICLE_ordinal F_ANNEX_ordinal (by decide)))))] at hv4
    subst hv4
    have N4 := Fr.app N0 N4q
    obtain ⟨fs, hr, hrun, hended, hW, hsame⟩ := X4.leave (v := some (.int (1 : Int32))) (fun h => by rw [Bd.returns] at h; cases h)
    refine ⟨_, _, pre0 _ (R1 _ ?_), hrun, hended, _, _, rfl, ?_, ⟨_, rfl⟩, hW, hsame.mono (by decide) (by decide)⟩
    · show Steps p.tables e below (s₁.setTop (mkF m 9 #[.val (.int p1), .val (.int ((p1 &&& (2147483647 : Int32)) % (7 : Int32))), .unset, .unset] [(.int ((p1 &&& (2147483647 : Int32)) % (7 : Int32)))])) _
      refine XS.ifNo X0.here hx rfl (hb hby at_9) rfl ((if0 _ _).trans (teq hc9_2).2) ?_
      show Steps p.tables e below (s₁.setTop (mkF m 12 #[.val (.int p1), .val (.int ((p1 &&& (2147483647 : Int32)) % (7 : Int32))), .unset, .unset] [])) _
      refine st3 _ ?_
      show Steps p.tables e below (T3.setTop (mkF m 15 #[.val (.int p1), .val (.int ((p1 &&& (2147483647 : Int32)) % (7 : Int32))), .unset, .unset] [(.ref a_ARTICLE)])) _
      refine XS.astoreN X3.here hx rfl (hb hby at_15) rfl rfl (l' := #[.val (.int p1), .val (.int ((p1 &&& (2147483647 : Int32)) % (7 : Int32))), .val (.ref a_ARTICLE), .unset]) rfl ?_
      show Steps p.tables e below (T3.setTop (mkF m 16 #[.val (.int p1), .val (.int ((p1 &&& (2147483647 : Int32)) % (7 : Int32))), .val (.ref a_ARTICLE), .unset] [])) _
      refine XS.iconst X3.here hx rfl (hb hby at_16) ?_
      show Steps p.tables e below (T3.setTop (mkF m 17 #[.val (.int p1), .val (.int ((p1 &&& (2147483647 : Int32)) % (7 : Int32))), .val (.ref a_ARTICLE), .unset] [(.int (0 : Int32))])) _
      refine XS.istoreN X3.here hx rfl (hb hby at_17) rfl (l' := #[.val (.int p1), .val (.int ((p1 &&& (2147483647 : Int32)) % (7 : Int32))), .val (.ref a_ARTICLE), .val (.int (0 : Int32))]) rfl ?_
      show Steps p.tables e below (T3.setTop (mkF m 18 #[.val (.int p1), .val (.int ((p1 &&& (2147483647 : Int32)) % (7 : Int32))), .val (.ref a_ARTICLE), .val (.int (0 : Int32))] [])) _
      refine XS.goto X3.here hx rfl (pc0 := 18) (pc' := 97) rfl (hb hby at_18) (by decide) (by decide) ?_
      show Steps p.tables e below (T3.setTop (mkF m 97 #[.val (.int p1), .val (.int ((p1 &&& (2147483647 : Int32)) % (7 : Int32))), .val (.ref a_ARTICLE), .val (.int (0 : Int32))] [])) _
      refine XS.aloadN X3.here hx rfl (hb hby at_97) rfl rfl ?_
      show Steps p.tables e below (T3.setTop (mkF m 98 #[.val (.int p1), .val (.int ((p1 &&& (2147483647 : Int32)) % (7 : Int32))), .val (.ref a_ARTICLE), .val (.int (0 : Int32))] [(.ref a_ARTICLE)])) _
      refine st4.trans ?_
      show Steps p.tables e below (T4.setTop (mkF m 101 #[.val (.int p1), .val (.int ((p1 &&& (2147483647 : Int32)) % (7 : Int32))), .val (.ref a_ARTICLE), .val (.int (0 : Int32))] [(.int (0 : Int32))])) _
      refine XS.iloadN X4.here hx rfl (hb hby at_101) rfl ?_
      show Steps p.tables e below (T4.setTop (mkF m 102 #[.val (.int p1), .val (.int ((p1 &&& (2147483647 : Int32)) % (7 : Int32))), .val (.ref a_ARTICLE), .val (.int (0 : Int32))] [(.int (0 : Int32)), (.int (0 : Int32))])) _
      refine XS.icmpNo X4.here hx rfl (hb hby at_102) rfl (teq (by decide : (0 : Int32) = (0 : Int32))).2 ?_
      show Steps p.tables e below (T4.setTop (mkF m 105 #[.val (.int p1), .val (.int ((p1 &&& (2147483647 : Int32)) % (7 : Int32))), .val (.ref a_ARTICLE), .val (.int (0 : Int32))] [])) _
      refine XS.iconst X4.here hx rfl (hb hby at_105) ?_
      show Steps p.tables e below (T4.setTop (mkF m 106 #[.val (.int p1), .val (.int ((p1 &&& (2147483647 : Int32)) % (7 : Int32))), .val (.ref a_ARTICLE), .val (.int (0 : Int32))] [(.int (1 : Int32))])) _
      refine XS.goto X4.here hx rfl (pc0 := 106) (pc' := 110) rfl (hb hby at_106) (by decide) (by decide) ?_
      show Steps p.tables e below (T4.setTop (mkF m 110 #[.val (.int p1), .val (.int ((p1 &&& (2147483647 : Int32)) % (7 : Int32))), .val (.ref a_ARTICLE), .val (.int (0 : Int32))] [(.int (1 : Int32))])) _
      exact retN X4 hx (t := .boolean) Bd.returns (by simp) (hb hby at_110) hr
    · show Q0 n0 _ T4.heap _
      rw [r4]
      exact ⟨rfl, N4⟩
  · have R5 : ∀ tg, Steps p.tables e below (s₁.setTop (mkF m 23 #[.val (.int p1), .val (.int ((p1 &&& (2147483647 : Int32)) % (7 : Int32))), .unset, .unset] [(.int (1 : Int32)), (.int ((p1 &&& (2147483647 : Int32)) % (7 : Int32)))])) tg → Steps p.tables e below (s₁.setTop (mkF m 9 #[.val (.int p1), .val (.int ((p1 &&& (2147483647 : Int32)) % (7 : Int32))), .unset, .unset] [(.int ((p1 &&& (2147483647 : Int32)) % (7 : Int32)))])) tg := by
      intro tg kt
      refine XS.ifYes X0.here hx rfl (pc0 := 9) (pc' := 21) rfl (hb hby at_9) rfl ((if0 _ _).trans (feq hc9_2).2) (by decide) (by decide) ?_
      show Steps p.tables e below (s₁.setTop (mkF m 21 #[.val (.int p1), .val (.int ((p1 &&& (2147483647 : Int32)) % (7 : Int32))), .unset, .unset] [])) _
      refine XS.iloadN X0.here hx rfl (hb hby at_21) rfl ?_
      show Steps p.tables e below (s₁.setTop (mkF m 22 #[.val (.int p1), .val (.int ((p1 &&& (2147483647 : Int32)) % (7 : Int32))), .unset, .unset] [(.int ((p1 &&& (2147483647 : Int32)) % (7 : Int32)))])) _
      refine XS.iconst X0.here hx rfl (hb hby at_22) ?_
      show Steps p.tables e below (s₁.setTop (mkF m 23 #[.val (.int p1), .val (.int ((p1 &&& (2147483647 : Int32)) % (7 : Int32))), .unset, .unset] [(.int (1 : Int32)), (.int ((p1 &&& (2147483647 : Int32)) % (7 : Int32)))])) _
      exact kt
    by_cases hc23_6 : ((p1 &&& (2147483647 : Int32)) % (7 : Int32)) = (1 : Int32)
    · obtain ⟨T7, X7, e7, st7⟩ := getS2 X0 hx hZ hown (host := "") (Or.inl (hw _ (List.mem_of_getElem? (i := 22) rfl))) Via.refl e0 S_SECTION (g := (mkF m 26 #[.val (.int p1), .val (.int ((p1 &&& (2147483647 : Int32)) % (7 : Int32))), .unset, .unset] [])) rfl (hb hby at_26)
      obtain ⟨cq8, kq8, q8a, q8b, q8c⟩ := isOf hZ e7 E_SECTION
      obtain ⟨_, _, ⟨T8, L8, k8, n8⟩, -, X8, ⟨Lc8, hQ8, l8, y8, z8⟩, st8⟩ := X7.virtualBack hx (y := (⟨"com/example/clausemap/clausemap/outline/Part$Kind", "isAttachment", "()Z"⟩ : MethodName)) (z := (⟨"com/example/clausemap/clausemap/outline/Part$Kind", "isAttachment", "()Z"⟩ : MethodName)) hown (mvT hZ (hw _ (List.mem_of_getElem? (i := 4) rfl))) (mvT hZ (hw _ (List.mem_of_getElem? (i := 5) rfl))) (notFace_of_selects (args := #[]) (mvT hZ (hw _ (List.mem_of_getElem? (i := 7) rfl)))) (mvT hZ (hw _ (List.mem_of_getElem? (i := 7) rfl))) (mvT hZ (hw _ (List.mem_of_getElem? (i := 6) rfl))) (by decide) (backOf (W := 0) (rm1 l Z a0 hw [] a_SECTION a_EXHIBIT a_SCHEDULE a_ANNEX h0 n0 Z0 S_EXHIBIT S_SCHEDULE S_ANNEX) hZ (hw _ (List.mem_of_getElem? (i := 8) rfl)) (hw _ (List.mem_of_getElem? (i := 2) rfl)) (by decide) (by decide)) q8a q8c (g := (mkF m 98 #[.val (.int p1), .val (.int ((p1 &&& (2147483647 : Int32)) % (7 : Int32))), .val (.ref a_SECTION), .val (.int (0 : Int32))] [(.ref a_SECTION)])) rfl (by rw [hml]; rfl) (Steps.refl _) (argsL := []) (rest := []) (lenOf pd_0 rfl) rfl (by show 2 * 0 + _ ≤ _; exact Nat.le_of_eq rfl) (hb hby at_98) (fun _ _ => ⟨rfl, e7, (by decide : 0 + 0 ≤ _), (by decide : 0 + 0 ≤ _)⟩)
      dsimp only [Pt.U, Pt.locs, Pt.cells, Pt.slots] at X8 l8 y8 z8 st8 hQ8
      subst l8 y8 z8
      obtain ⟨hv8, N8q, r8⟩ := hQ8
      rw [(if_neg (fun h => h.elim (own_ne_fld F_SECTION_ordinal F_EXHIBIT_ordinal (by decide)) (fun h => h.elim (own_ne_fld F_SECTION_ordinal F_SCHEDULE_ordinal (by decide)) (own_ne_fld F_SECTION_ordinal F_ANNEX_ordinal (by decide)))))] at hv8
      subst hv8
      have N8 := Fr.app N0 N8q
      obtain ⟨fs, hr, hrun, hended, hW, hsame⟩ := X8.leave (v := some (.int (1 : Int32))) (fun h => by rw [Bd.returns] at h; cases h)
      refine ⟨_, _, pre0 _ (R1 _ (R5 _ ?_)), hrun, hended, _, _, rfl, ?_, ⟨_, rfl⟩, hW, hsame.mono (by decide) (by decide)⟩
      · show Steps p.tables e below (s₁.setTop (mkF m 23 #[.val (.int p1), .val (.int ((p1 &&& (2147483647 : Int32)) % (7 : Int32))), .unset, .unset] [(.int (1 : Int32)), (.int ((p1 &&& (2147483647 : Int32)) % (7 : Int32)))])) _
        refine XS.icmpNo X0.here hx rfl (hb hby at_23) rfl (teq hc23_6).2 ?_
        show Steps p.tables e below (s₁.setTop (mkF m 26 #[.val (.int p1), .val (.int ((p1 &&& (2147483647 : Int32)) % (7 : Int32))), .unset, .unset] [])) _
        refine st7 _ ?_
        show Steps p.tables e below (T7.setTop (mkF m 29 #[.val (.int p1), .val (.int ((p1 &&& (2147483647 : Int32)) % (7 : Int32))), .unset, .unset] [(.ref a_SECTION)])) _
        refine XS.astoreN X7.here hx rfl (hb hby at_29) rfl rfl (l' := #[.val (.int p1), .val (.int ((p1 &&& (2147483647 : Int32)) % (7 : Int32))), .val (.ref a_SECTION), .unset]) rfl ?_
        show Steps p.tables e below (T7.setTop (mkF m 30 #[.val (.int p1), .val (.int ((p1 &&& (2147483647 : Int32)) % (7 : Int32))), .val (.ref a_SECTION), .unset] [])) _
        refine XS.iconst X7.here hx rfl (hb hby at_30) ?_
        show Steps p.tables e below (T7.setTop (mkF m 31 #[.val (.int p1), .val (.int ((p1 &&& (2147483647 : Int32)) % (7 : Int32))), .val (.ref a_SECTION), .unset] [(.int (0 : Int32))])) _
        refine XS.istoreN X7.here hx rfl (hb hby at_31) rfl (l' := #[.val (.int p1), .val (.int ((p1 &&& (2147483647 : Int32)) % (7 : Int32))), .val (.ref a_SECTION), .val (.int (0 : Int32))]) rfl ?_
        show Steps p.tables e below (T7.setTop (mkF m 32 #[.val (.int p1), .val (.int ((p1 &&& (2147483647 : Int32)) % (7 : Int32))), .val (.ref a_SECTION), .val (.int (0 : Int32))] [])) _
        refine XS.goto X7.here hx rfl (pc0 := 32) (pc' := 97) rfl (hb hby at_32) (by decide) (by decide) ?_
        show Steps p.tables e below (T7.setTop (mkF m 97 #[.val (.int p1), .val (.int ((p1 &&& (2147483647 : Int32)) % (7 : Int32))), .val (.ref a_SECTION), .val (.int (0 : Int32))] [])) _
        refine XS.aloadN X7.here hx rfl (hb hby at_97) rfl rfl ?_
        show Steps p.tables e below (T7.setTop (mkF m 98 #[.val (.int p1), .val (.int ((p1 &&& (2147483647 : Int32)) % (7 : Int32))), .val (.ref a_SECTION), .val (.int (0 : Int32))] [(.ref a_SECTION)])) _
        refine st8.trans ?_
        show Steps p.tables e below (T8.setTop (mkF m 101 #[.val (.int p1), .val (.int ((p1 &&& (2147483647 : Int32)) % (7 : Int32))), .val (.ref a_SECTION), .val (.int (0 : Int32))] [(.int (0 : Int32))])) _
        refine XS.iloadN X8.here hx rfl (hb hby at_101) rfl ?_
        show Steps p.tables e below (T8.setTop (mkF m 102 #[.val (.int p1), .val (.int ((p1 &&& (2147483647 : Int32)) % (7 : Int32))), .val (.ref a_SECTION), .val (.int (0 : Int32))] [(.int (0 : Int32)), (.int (0 : Int32))])) _
        refine XS.icmpNo X8.here hx rfl (hb hby at_102) rfl (teq (by decide : (0 : Int32) = (0 : Int32))).2 ?_
        show Steps p.tables e below (T8.setTop (mkF m 105 #[.val (.int p1), .val (.int ((p1 &&& (2147483647 : Int32)) % (7 : Int32))), .val (.ref a_SECTION), .val (.int (0 : Int32))] [])) _
        refine XS.iconst X8.here hx rfl (hb hby at_105) ?_
        show Steps p.tables e below (T8.setTop (mkF m 106 #[.val (.int p1), .val (.int ((p1 &&& (2147483647 : Int32)) % (7 : Int32))), .val (.ref a_SECTION), .val (.int (0 : Int32))] [(.int (1 : Int32))])) _
        refine XS.goto X8.here hx rfl (pc0 := 106) (pc' := 110) rfl (hb hby at_106) (by decide) (by decide) ?_
        show Steps p.tables e below (T8.setTop (mkF m 110 #[.val (.int p1), .val (.int ((p1 &&& (2147483647 : Int32)) % (7 : Int32))), .val (.ref a_SECTION), .val (.int (0 : Int32))] [(.int (1 : Int32))])) _
        exact retN X8 hx (t := .boolean) Bd.returns (by simp) (hb hby at_110) hr
      · show Q0 n0 _ T8.heap _
        rw [r8]
        exact ⟨rfl, N8⟩
    · have R9 : ∀ tg, Steps p.tables e below (s₁.setTop (mkF m 37 #[.val (.int p1), .val (.int ((p1 &&& (2147483647 : Int32)) % (7 : Int32))), .unset, .unset] [(.int (2 : Int32)), (.int ((p1 &&& (2147483647 : Int32)) % (7 : Int32)))])) tg → Steps p.tables e below (s₁.setTop (mkF m 23 #[.val (.int p1), .val (.int ((p1 &&& (2147483647 : Int32)) % (7 : Int32))), .unset, .unset] [(.int (1 : Int32)), (.int ((p1 &&& (2147483647 : Int32)) % (7 : Int32)))])) tg := by
        intro tg kt
        refine XS.icmpYes X0.here hx rfl (pc0 := 23) (pc' := 35) rfl (hb hby at_23) rfl (feq hc23_6).2 (by decide) (by decide) ?_
        show Steps p.tables e below (s₁.setTop (mkF m 35 #[.val (.int p1), .val (.int ((p1 &&& (2147483647 : Int32)) % (7 : Int32))), .unset, .unset] [])) _
        refine XS.iloadN X0.here hx rfl (hb hby at_35) rfl ?_
        show Steps p.tables e below (s₁.setTop (mkF m 36 #[.val (.int p1), .val (.int ((p1 &&& (2147483647 : Int32)) % (7 : Int32))), .unset, .unset] [(.int ((p1 &&& (2147483647 : Int32)) % (7 : Int32)))])) _
        refine XS.iconst X0.here hx rfl (hb hby at_36) ?_
        show Steps p.tables e below (s₁.setTop (mkF m 37 #[.val (.int p1), .val (.int ((p1 &&& (2147483647 : Int32)) % (7 : Int32))), .unset, .unset] [(.int (2 : Int32)), (.int ((p1 &&& (2147483647 : Int32)) % (7 : Int32)))])) _
        exact kt
      by_cases hc37_10 : ((p1 &&& (2147483647 : Int32)) % (7 : Int32)) = (2 : Int32)
      · obtain ⟨T11, X11, e11, st11⟩ := getS2 X0 hx hZ hown (host := "") (Or.inl (hw _ (List.mem_of_getElem? (i := 20) rfl))) Via.refl e0 S_PARAGRAPH (g := (mkF m 40 #[.val (.int p1), .val (.int ((p1 &&& (2147483647 : Int32)) % (7 : Int32))), .unset, .unset] [])) rfl (hb hby at_40)
        obtain ⟨cq12, kq12, q12a, q12b, q12c⟩ := isOf hZ e11 E_PARAGRAPH
        obtain ⟨_, _, ⟨T12, L12, k12, n12⟩, -, X12, ⟨Lc12, hQ12, l12, y12, z12⟩, st12⟩ := X11.virtualBack hx (y := (⟨"com/example/clausemap/clausemap/outline/Part$Kind", "isAttachment", "()Z"⟩ : MethodName)) (z := (⟨"com/example/clausemap/clausemap/outline/Part$Kind", "isAttachment", "()Z"⟩ : MethodName)) hown (mvT hZ (hw _ (List.mem_of_getElem? (i := 4) rfl))) (mvT hZ (hw _ (List.mem_of_getElem? (i := 5) rfl))) (notFace_of_selects (args := #[]) (mvT hZ (hw _ (List.mem_of_getElem? (i := 7) rfl)))) (mvT hZ (hw _ (List.mem_of_getElem? (i := 7) rfl))) (mvT hZ (hw _ (List.mem_of_getElem? (i := 6) rfl))) (by decide) (backOf (W := 0) (rm1 l Z a0 hw [] a_PARAGRAPH a_EXHIBIT a_SCHEDULE a_ANNEX h0 n0 Z0 S_EXHIBIT S_SCHEDULE S_ANNEX) hZ (hw _ (List.mem_of_getElem? (i := 8) rfl)) (hw _ (List.mem_of_getElem? (i := 2) rfl)) (by decide) (by decide)) q12a q12c (g := (mkF m 98 #[.val (.int p1), .val (.int ((p1 &&& (2147483647 : Int32)) % (7 : Int32))), .val (.ref a_PARAGRAPH), .val (.int (0 : Int32))] [(.ref a_PARAGRAPH)])) rfl (by rw [hml]; rfl) (Steps.refl _) (argsL := []) (rest := []) (lenOf pd_0 rfl) rfl (by show 2 * 0 + _ ≤ _; exact Nat.le_of_eq rfl) (hb hby at_98) (fun _ _ => ⟨rfl, e11, (by decide : 0 + 0 ≤ _), (by decide : 0 + 0 ≤ _)⟩)
        dsimp only [Pt.U, Pt.locs, Pt.cells, Pt.slots] at X12 l12 y12 z12 st12 hQ12
        subst l12 y12 z12
        obtain ⟨hv12, N12q, r12⟩ := hQ12
        rw [(if_neg (fun h => h.elim (own_ne_fld F_PARAGRAPH_ordinal F_EXHIBIT_ordinal (by decide)) (fun h => h.elim (own_ne_fld F_PARAGRAPH_ordinal F_SCHEDULE_ordinal (by decide)) (own_ne_fld F_PARAGRAPH_ordinal F_ANNEX_ordinal (by decide)))))] at hv12
        subst hv12
        have N12 := Fr.app N0 N12q
        obtain ⟨fs, hr, hrun, hended, hW, hsame⟩ := X12.leave (v := some (.int (1 : Int32))) (fun h => by rw [Bd.returns] at h; cases h)
        refine ⟨_, _, pre0 _ (R1 _ (R5 _ (R9 _ ?_))), hrun, hended, _, _, rfl, ?_, ⟨_, rfl⟩, hW, hsame.mono (by decide) (by decide)⟩
        · show Steps p.tables e below (s₁.setTop (mkF m 37 #[.val (.int p1), .val (.int ((p1 &&& (2147483647 : Int32)) % (7 : Int32))), .unset, .unset] [(.int (2 : Int32)), (.int ((p1 &&& (2147483647 : Int32)) % (7 : Int32)))])) _
          refine XS.icmpNo X0.here hx rfl (hb hby at_37) rfl (teq hc37_10).2 ?_
          show Steps p.tables e below (s₁.setTop (mkF m 40 #[.val (.int p1), .val (.int ((p1 &&& (2147483647 : Int32)) % (7 : Int32))), .unset, .unset] [])) _
          refine st11 _ ?_
          show Steps p.tables e below (T11.setTop (mkF m 43 #[.val (.int p1), .val (.int ((p1 &&& (2147483647 : Int32)) % (7 : Int32))), .unset, .unset] [(.ref a_PARAGRAPH)])) _
          refine XS.astoreN X11.here hx rfl (hb hby at_43) rfl rfl (l' := #[.val (.int p1), .val (.int ((p1 &&& (2147483647 : Int32)) % (7 : Int32))), .val (.ref a_PARAGRAPH), .unset]) rfl ?_
          show Steps p.tables e below (T11.setTop (mkF m 44 #[.val (.int p1), .val (.int ((p1 &&& (2147483647 : Int32)) % (7 : Int32))), .val (.ref a_PARAGRAPH), .unset] [])) _
          refine XS.iconst X11.here hx rfl (hb hby at_44) ?_
          show Steps p.tables e below (T11.setTop (mkF m 45 #[.val (.int p1), .val (.int ((p1 &&& (2147483647 : Int32)) % (7 : Int32))), .val (.ref a_PARAGRAPH), .unset] [(.int (0 : Int32))])) _
          refine XS.istoreN X11.here hx rfl (hb hby at_45) rfl (l' := #[.val (.int p1), .val (.int ((p1 &&& (2147483647 : Int32)) % (7 : Int32))), .val (.ref a_PARAGRAPH), .val (.int (0 : Int32))]) rfl ?_
          show Steps p.tables e below (T11.setTop (mkF m 46 #[.val (.int p1), .val (.int ((p1 &&& (2147483647 : Int32)) % (7 : Int32))), .val (.ref a_PARAGRAPH), .val (.int (0 : Int32))] [])) _
          refine XS.goto X11.here hx rfl (pc0 := 46) (pc' := 97) rfl (hb hby at_46) (by decide) (by decide) ?_
          show Steps p.tables e below (T11.setTop (mkF m 97 #[.val (.int p1), .val (.int ((p1 &&& (2147483647 : Int32)) % (7 : Int32))), .val (.ref a_PARAGRAPH), .val (.int (0 : Int32))] [])) _
          refine XS.aloadN X11.here hx rfl (hb hby at_97) rfl rfl ?_
          show Steps p.tables e below (T11.setTop (mkF m 98 #[.val (.int p1), .val (.int ((p1 &&& (2147483647 : Int32)) % (7 : Int32))), .val (.ref a_PARAGRAPH), .val (.int (0 : Int32))] [(.ref a_PARAGRAPH)])) _
          refine st12.trans ?_
          show Steps p.tables e below (T12.setTop (mkF m 101 #[.val (.int p1), .val (.int ((p1 &&& (2147483647 : Int32)) % (7 : Int32))), .val (.ref a_PARAGRAPH), .val (.int (0 : Int32))] [(.int (0 : Int32))])) _
          refine XS.iloadN X12.here hx rfl (hb hby at_101) rfl ?_
          show Steps p.tables e below (T12.setTop (mkF m 102 #[.val (.int p1), .val (.int ((p1 &&& (2147483647 : Int32)) % (7 : Int32))), .val (.ref a_PARAGRAPH), .val (.int (0 : Int32))] [(.int (0 : Int32)), (.int (0 : Int32))])) _
          refine XS.icmpNo X12.here hx rfl (hb hby at_102) rfl (teq (by decide : (0 : Int32) = (0 : Int32))).2 ?_
          show Steps p.tables e below (T12.setTop (mkF m 105 #[.val (.int p1), .val (.int ((p1 &&& (2147483647 : Int32)) % (7 : Int32))), .val (.ref a_PARAGRAPH), .val (.int (0 : Int32))] [])) _
          refine XS.iconst X12.here hx rfl (hb hby at_105) ?_
          show Steps p.tables e below (T12.setTop (mkF m 106 #[.val (.int p1), .val (.int ((p1 &&& (2147483647 : Int32)) % (7 : Int32))), .val (.ref a_PARAGRAPH), .val (.int (0 : Int32))] [(.int (1 : Int32))])) _
          refine XS.goto X12.here hx rfl (pc0 := 106) (pc' := 110) rfl (hb hby at_106) (by decide) (by decide) ?_
          show Steps p.tables e below (T12.setTop (mkF m 110 #[.val (.int p1), .val (.int ((p1 &&& (2147483647 : Int32)) % (7 : Int32))), .val (.ref a_PARAGRAPH), .val (.int (0 : Int32))] [(.int (1 : Int32))])) _
          exact retN X12 hx (t := .boolean) Bd.returns (by simp) (hb hby at_110) hr
        · show Q0 n0 _ T12.heap _
          rw [r12]
          exact ⟨rfl, N12⟩
      · have R13 : ∀ tg, Steps p.tables e below (s₁.setTop (mkF m 51 #[.val (.int p1), .val (.int ((p1 &&& (2147483647 : Int32)) % (7 : Int32))), .unset, .unset] [(.int (3 : Int32)), (.int ((p1 &&& (2147483647 : Int32)) % (7 : Int32)))])) tg → Steps p.tables e below (s₁.setTop (mkF m 37 #[.val (.int p1), .val (.int ((p1 &&& (2147483647 : Int32)) % (7 : Int32))), .unset, .unset] [(.int (2 : Int32)), (.int ((p1 &&& (2147483647 : Int32)) % (7 : Int32)))])) tg := by
          intro tg kt
          refine XS.icmpYes X0.here hx rfl (pc0 := 37) (pc' := 49) rfl (hb hby at_37) rfl (feq hc37_10).2 (by decide) (by decide) ?_
          show Steps p.tables e below (s₁.setTop (mkF m 49 #[.val (.int p1), .val (.int ((p1 &&& (2147483647 : Int32)) % (7 : Int32))), .unset, .unset] [])) _
          refine XS.iloadN X0.here hx rfl (hb hby at_49) rfl ?_
          show Steps p.tables e below (s₁.setTop (mkF m 50 #[.val (.int p1), .val (.int ((p1 &&& (2147483647 : Int32)) % (7 : Int32))), .unset, .unset] [(.int ((p1 &&& (2147483647 : Int32)) % (7 : Int32)))])) _
          refine XS.iconst X0.here hx rfl (hb hby at_50) ?_
          show Steps p.tables e below (s₁.setTop (mkF m 51 #[.val (.int p1), .val (.int ((p1 &&& (2147483647 : Int32)) % (7 : Int32))), .unset, .unset] [(.int (3 : Int32)), (.int ((p1 &&& (2147483647 : Int32)) % (7 : Int32)))])) _
          exact kt
        by_cases hc51_14 : ((p1 &&& (2147483647 : Int32)) % (7 : Int32)) = (3 : Int32)
        · obtain ⟨T15, X15, e15, st15⟩ := getS2 X0 hx hZ hown (host := "") (Or.inl (hw _ (List.mem_of_getElem? (i := 15) rfl))) Via.refl e0 S_APPENDIX (g := (mkF m 54 #[.val (.int p1), .val (.int ((p1 &&& (2147483647 : Int32)) % (7 : Int32))), .unset, .unset] [])) rfl (hb hby at_54)
          obtain ⟨cq16, kq16, q16a, q16b, q16c⟩ := isOf hZ e15 E_APPENDIX
          obtain ⟨_, _, ⟨T16, L16, k16, n16⟩, -, X16, ⟨Lc16, hQ16, l16, y16, z16⟩, st16⟩ := X15.virtualBack hx (y := (⟨"com/example/clausemap/clausemap/outline/Part$Kind", "isAttachment", "()Z"⟩ : MethodName)) (z := (⟨"com/example/clausemap/clausemap/outline/Part$Kind", "isAttachment", "()Z"⟩ : MethodName)) hown (mvT hZ (hw _ (List.mem_of_getElem? (i := 4) rfl))) (mvT hZ (hw _ (List.mem_of_getElem? (i := 5) rfl))) (notFace_of_selects (args := #[]) (mvT hZ (hw _ (List.mem_of_getElem? (i := 7) rfl)))) (mvT hZ (hw _ (List.mem_of_getElem? (i := 7) rfl))) (mvT hZ (hw _ (List.mem_of_getElem? (i := 6) rfl))) (by decide) (backOf (W := 0) (rm1 l Z a0 hw [] a_APPENDIX a_EXHIBIT a_SCHEDULE a_ANNEX h0 n0 Z0 S_EXHIBIT S_SCHEDULE S_ANNEX) hZ (hw _ (List.mem_of_getElem? (i := 8) rfl)) (hw _ (List.mem_of_getElem? (i := 2) rfl)) (by decide) (by decide)) q16a q16c (g := (mkF m 98 #[.val (.int p1), .val (.int ((p1 &&& (2147483647 : Int32)) % (7 : Int32))), .val (.ref a_APPENDIX), .val (.int (0 : Int32))] [(.ref a_APPENDIX)])) rfl (by rw [hml]; rfl) (Steps.refl _) (argsL := []) (rest := []) (lenOf pd_0 rfl) rfl (by show 2 * 0 + _ ≤ _; exact Nat.le_of_eq rfl) (hb hby at_98) (fun _ _ => ⟨rfl, e15, (by decide : 0 + 0 ≤ _), (by decide : 0 + 0 ≤ _)⟩)
          dsimp only [Pt.U, Pt.locs, Pt.cells, Pt.slots] at X16 l16 y16 z16 st16 hQ16
          subst l16 y16 z16
          obtain ⟨hv16, N16q, r16⟩ := hQ16
          rw [(if_neg (fun h => h.elim (own_ne_fld F_APPENDIX_ordinal F_EXHIBIT_ordinal (by decide)) (fun h => h.elim (own_ne_fld F_APPENDIX_ordinal F_SCHEDULE_ordinal (by decide)) (own_ne_fld F_APPENDIX_ordinal F_ANNEX_ordinal (by decide)))))] at hv16
          subst hv16
          have N16 := Fr.app N0 N16q
          obtain ⟨fs, hr, hrun, hended, hW, hsame⟩ := X16.leave (v := some (.int (1 : Int32))) (fun h => by rw [Bd.returns] at h; cases h)
          refine ⟨_, _, pre0 _ (R1 _ (R5 _ (R9 _ (R13 _ ?_)))), hrun, hended, _, _, rfl, ?_, ⟨_, rfl⟩, hW, hsame.mono (by decide) (by decide)⟩
          · show Steps p.tables e below (s₁.setTop (mkF m 51 #[.val (.int p1), .val (.int ((p1 &&& (2147483647 : Int32)) % (7 : Int32))), .unset, .unset] [(.int (3 : Int32)), (.int ((p1 &&& (2147483647 : Int32)) % (7 : Int32)))])) _
            refine XS.icmpNo X0.here hx rfl (hb hby at_51) rfl (teq hc51_14).2 ?_
            show Steps p.tables e below (s₁.setTop (mkF m 54 #[.val (.int p1), .val (.int ((p1 &&& (2147483647 : Int32)) % (7 : Int32))), .unset, .unset] [])) _
            refine st15 _ ?_
            show Steps p.tables e below (T15.setTop (mkF m 57 #[.val (.int p1), .val (.int ((p1 &&& (2147483647 : Int32)) % (7 : Int32))), .unset, .unset] [(.ref a_APPENDIX)])) _
            refine XS.astoreN X15.here hx rfl (hb hby at_57) rfl rfl (l' := #[.val (.int p1), .val (.int ((p1 &&& (2147483647 : Int32)) % (7 : Int32))), .val (.ref a_APPENDIX), .unset]) rfl ?_
            show Steps p.tables e below (T15.setTop (mkF m 58 #[.val (.int p1), .val (.int ((p1 &&& (2147483647 : Int32)) % (7 : Int32))), .val (.ref a_APPENDIX), .unset] [])) _
            refine XS.iconst X15.here hx rfl (hb hby at_58) ?_
            show Steps p.tables e below (T15.setTop (mkF m 59 #[.val (.int p1), .val (.int ((p1 &&& (2147483647 : Int32)) % (7 : Int32))), .val (.ref a_APPENDIX), .unset] [(.int (0 : Int32))])) _
            refine XS.istoreN X15.here hx rfl (hb hby at_59) rfl (l' := #[.val (.int p1), .val (.int ((p1 &&& (2147483647 : Int32)) % (7 : Int32))), .val (.ref a_APPENDIX), .val (.int (0 : Int32))]) rfl ?_
            show Steps p.tables e below (T15.setTop (mkF m 60 #[.val (.int p1), .val (.int ((p1 &&& (2147483647 : Int32)) % (7 : Int32))), .val (.ref a_APPENDIX), .val (.int (0 : Int32))] [])) _
            refine XS.goto X15.here hx rfl (pc0 := 60) (pc' := 97) rfl (hb hby at_60) (by decide) (by decide) ?_
            show Steps p.tables e below (T15.setTop (mkF m 97 #[.val (.int p1), .val (.int ((p1 &&& (2147483647 : Int32)) % (7 : Int32))), .val (.ref a_APPENDIX), .val (.int (0 : Int32))] [])) _
            refine XS.aloadN X15.here hx rfl (hb hby at_97) rfl rfl ?_
            show Steps p.tables e below (T15.setTop (mkF m 98 #[.val (.int p1), .val (.int ((p1 &&& (2147483647 : Int32)) % (7 : Int32))), .val (.ref a_APPENDIX), .val (.int (0 : Int32))] [(.ref a_APPENDIX)])) _
            refine st16.trans ?_
            show Steps p.tables e below (T16.setTop (mkF m 101 #[.val (.int p1), .val (.int ((p1 &&& (2147483647 : Int32)) % (7 : Int32))), .val (.ref a_APPENDIX), .val (.int (0 : Int32))] [(.int (0 : Int32))])) _
            refine XS.iloadN X16.here hx rfl (hb hby at_101) rfl ?_
            show Steps p.tables e below (T16.setTop (mkF m 102 #[.val (.int p1), .val (.int ((p1 &&& (2147483647 : Int32)) % (7 : Int32))), .val (.ref a_APPENDIX), .val (.int (0 : Int32))] [(.int (0 : Int32)), (.int (0 : Int32))])) _
            refine XS.icmpNo X16.here hx rfl (hb hby at_102) rfl (teq (by decide : (0 : Int32) = (0 : Int32))).2 ?_
            show Steps p.tables e below (T16.setTop (mkF m 105 #[.val (.int p1), .val (.int ((p1 &&& (2147483647 : Int32)) % (7 : Int32))), .val (.ref a_APPENDIX), .val (.int (0 : Int32))] [])) _
            refine XS.iconst X16.here hx rfl (hb hby at_105) ?_
            show Steps p.tables e below (T16.setTop (mkF m 106 #[.val (.int p1), .val (.int ((p1 &&& (2147483647 : Int32)) % (7 : Int32))), .val (.ref a_APPENDIX), .val (.int (0 : Int32))] [(.int (1 : Int32))])) _
            refine XS.goto X16.here hx rfl (pc0 := 106) (pc' := 110) rfl (hb hby at_106) (by decide) (by decide) ?_
            show Steps p.tables e below (T16.setTop (mkF m 110 #[.val (.int p1), .val (.int ((p1 &&& (2147483647 : Int32)) % (7 : Int32))), .val (.ref a_APPENDIX), .val (.int (0 : Int32))] [(.int (1 : Int32))])) _
            exact retN X16 hx (t := .boolean) Bd.returns (by simp) (hb hby at_110) hr
          · show Q0 n0 _ T16.heap _
            rw [r16]
            exact ⟨rfl, N16⟩
        · have R17 : ∀ tg, Steps p.tables e below (s₁.setTop (mkF m 65 #[.val (.int p1), .val (.int ((p1 &&& (2147483647 : Int32)) % (7 : Int32))), .unset, .unset] [(.int (4 : Int32)), (.int ((p1 &&& (2147483647 : Int32)) % (7 : Int32)))])) tg → Steps p.tables e below (s₁.setTop (mkF m 51 #[.val (.int p1), .val (.int ((p1 &&& (2147483647 : Int32)) % (7 : Int32))), .unset, .unset] [(.int (3 : Int32)), (.int ((p1 &&& (2147483647 : Int32)) % (7 : Int32)))])) tg := by
            intro tg kt
            refine XS.icmpYes X0.here hx rfl (pc0 := 51) (pc' := 63) rfl (hb hby at_51) rfl (feq hc51_14).2 (by decide) (by decide) ?_
            show Steps p.tables e below (s₁.setTop (mkF m 63 #[.val (.int p1), .val (.int ((p1 &&& (2147483647 : Int32)) % (7 : Int32))), .unset, .unset] [])) _
            refine XS.iloadN X0.here hx rfl (hb hby at_63) rfl ?_
            show Steps p.tables e below (s₁.setTop (mkF m 64 #[.val (.int p1), .val (.int ((p1 &&& (2147483647 : Int32)) % (7 : Int32))), .unset, .unset] [(.int ((p1 &&& (2147483647 : Int32)) % (7 : Int32)))])) _
            refine XS.iconst X0.here hx rfl (hb hby at_64) ?_
            show Steps p.tables e below (s₁.setTop (mkF m 65 #[.val (.int p1), .val (.int ((p1 &&& (2147483647 : Int32)) % (7 : Int32))), .unset, .unset] [(.int (4 : Int32)), (.int ((p1 &&& (2147483647 : Int32)) % (7 : Int32)))])) _
            exact kt
          by_cases hc65_18 : ((p1 &&& (2147483647 : Int32)) % (7 : Int32)) = (4 : Int32)
          · obtain ⟨T19, X19, e19, st19⟩ := getS2 X0 hx hZ hown (host := "") (Or.inl (hw _ (List.mem_of_getElem? (i := 19) rfl))) Via.refl e0 S_EXHIBIT (g := (mkF m 68 #[.val (.int p1), .val (.int ((p1 &&& (2147483647 : Int32)) % (7 : Int32))), .unset, .unset] [])) rfl (hb hby at_68)
            obtain ⟨cq20, kq20, q20a, q20b, q20c⟩ := isOf hZ e19 E_EXHIBIT
            obtain ⟨_, _, ⟨T20, L20, k20, n20⟩, -, X20, ⟨Lc20, hQ20, l20, y20, z20⟩, st20⟩ := X19.virtualBack hx (y := (⟨"com/example/clausemap/clausemap/outline/Part$Kind", "isAttachment", "()Z"⟩ : MethodName)) (z := (⟨"com/example/clausemap/clausemap/outline/Part$Kind", "isAttachment", "()Z"⟩ : MethodName)) hown (mvT hZ (hw _ (List.mem_of_getElem? (i := 4) rfl))) (mvT hZ (hw _ (List.mem_of_getElem? (i := 5) rfl))) (notFace_of_selects (args := #[]) (mvT hZ (hw _ (List.mem_of_getElem? (i := 7) rfl)))) (mvT hZ (hw _ (List.mem_of_getElem? (i := 7) rfl))) (mvT hZ (hw _ (List.mem_of_getElem? (i := 6) rfl))) (by decide) (backOf (W := 0) (rm1 l Z a0 hw [] a_EXHIBIT a_EXHIBIT a_SCHEDULE a_ANNEX h0 n0 Z0 S_EXHIBIT S_SCHEDULE S_ANNEX) hZ (hw _ (List.mem_of_getElem? (i := 8) rfl)) (hw _ (List.mem_of_getElem? (i := 2) rfl)) (by decide) (by decide)) q20a q20c (g := (mkF m 98 #[.val (.int p1), .val (.int ((p1 &&& (2147483647 : Int32)) % (7 : Int32))), .val (.ref a_EXHIBIT), .val (.int (1 : Int32))] [(.ref a_EXHIBIT)])) rfl (by rw [hml]; rfl) (Steps.refl _) (argsL := []) (rest := []) (lenOf pd_0 rfl) rfl (by show 2 * 0 + _ ≤ _; exact Nat.le_of_eq rfl) (hb hby at_98) (fun _ _ => ⟨rfl, e19, (by decide : 0 + 0 ≤ _), (by decide : 0 + 0 ≤ _)⟩)
            dsimp only [Pt.U, Pt.locs, Pt.cells, Pt.slots] at X20 l20 y20 z20 st20 hQ20
            subst l20 y20 z20
            obtain ⟨hv20, N20q, r20⟩ := hQ20
            rw [(if_pos (Or.inl rfl))] at hv20
            subst hv20
            have N20 := Fr.app N0 N20q
            obtain ⟨fs, hr, hrun, hended, hW, hsame⟩ := X20.leave (v := some (.int (1 : Int32))) (fun h => by rw [Bd.returns] at h; cases h)
            refine ⟨_, _, pre0 _ (R1 _ (R5 _ (R9 _ (R13 _ (R17 _ ?_))))), hrun, hended, _, _, rfl, ?_, ⟨_, rfl⟩, hW, hsame.mono (by decide) (by decide)⟩
            · show Steps p.tables e below (s₁.setTop (mkF m 65 #[.val (.int p1), .val (.int ((p1 &&& (2147483647 : Int32)) % (7 : Int32))), .unset, .unset] [(.int (4 : Int32)), (.int ((p1 &&& (2147483647 : Int32)) % (7 : Int32)))])) _
              refine XS.icmpNo X0.here hx rfl (hb hby at_65) rfl (teq hc65_18).2 ?_
              show Steps p.tables e below (s₁.setTop (mkF m 68 #[.val (.int p1), .val (.int ((p1 &&& (2147483647 : Int32)) % (7 : Int32))), .unset, .unset] [])) _
              refine st19 _ ?_
              show Steps p.tables e below (T19.setTop (mkF m 71 #[.val (.int p1), .val (.int ((p1 &&& (2147483647 : Int32)) % (7 : Int32))), .unset, .unset] [(.ref a_EXHIBIT)])) _
              refine XS.astoreN X19.here hx rfl (hb hby at_71) rfl rfl (l' := #[.val (.int p1), .val (.int ((p1 &&& (2147483647 : Int32)) % (7 : Int32))), .val (.ref a_EXHIBIT), .unset]) rfl ?_
              show Steps p.tables e below (T19.setTop (mkF m 72 #[.val (.int p1), .val (.int ((p1 &&& (2147483647 : Int32)) % (7 : Int32))), .val (.ref a_EXHIBIT), .unset] [])) _
              refine XS.iconst X19.here hx rfl (hb hby at_72) ?_
              show Steps p.tables e below (T19.setTop (mkF m 73 #[.val (.int p1), .val (.int ((p1 &&& (2147483647 : Int32)) % (7 : Int32))), .val (.ref a_EXHIBIT), .unset] [(.int (1 : Int32))])) _
              refine XS.istoreN X19.here hx rfl (hb hby at_73) rfl (l' := #[.val (.int p1), .val (.int ((p1 &&& (2147483647 : Int32)) % (7 : Int32))), .val (.ref a_EXHIBIT), .val (.int (1 : Int32))]) rfl ?_
              show Steps p.tables e below (T19.setTop (mkF m 74 #[.val (.int p1), .val (.int ((p1 &&& (2147483647 : Int32)) % (7 : Int32))), .val (.ref a_EXHIBIT), .val (.int (1 : Int32))] [])) _
              refine XS.goto X19.here hx rfl (pc0 := 74) (pc' := 97) rfl (hb hby at_74) (by decide) (by decide) ?_
              show Steps p.tables e below (T19.setTop (mkF m 97 #[.val (.int p1), .val (.int ((p1 &&& (2147483647 : Int32)) % (7 : Int32))), .val (.ref a_EXHIBIT), .val (.int (1 : Int32))] [])) _
              refine XS.aloadN X19.here hx rfl (hb hby at_97) rfl rfl ?_
              show Steps p.tables e below (T19.setTop (mkF m 98 #[.val (.int p1), .val (.int ((p1 &&& (2147483647 : Int32)) % (7 : Int32))), .val (.ref a_EXHIBIT), .val (.int (1 : Int32))] [(.ref a_EXHIBIT)])) _
              refine st20.trans ?_
              show Steps p.tables e below (T20.setTop (mkF m 101 #[.val (.int p1), .val (.int ((p1 &&& (2147483647 : Int32)) % (7 : Int32))), .val (.ref a_EXHIBIT), .val (.int (1 : Int32))] [(.int (1 : Int32))])) _
              refine XS.iloadN X20.here hx rfl (hb hby at_101) rfl ?_
              show Steps p.tables e below (T20.setTop (mkF m 102 #[.val (.int p1), .val (.int ((p1 &&& (2147483647 : Int32)) % (7 : Int32))), .val (.ref a_EXHIBIT), .val (.int (1 : Int32))] [(.int (1 : Int32)), (.int (1 : Int32))])) _
              refine XS.icmpNo X20.here hx rfl (hb hby at_102) rfl (teq (by decide : (1 : Int32) = (1 : Int32))).2 ?_
              show Steps p.tables e below (T20.setTop (mkF m 105 #[.val (.int p1), .val (.int ((p1 &&& (2147483647 : Int32)) % (7 : Int32))), .val (.ref a_EXHIBIT), .val (.int (1 : Int32))] [])) _
              refine XS.iconst X20.here hx rfl (hb hby at_105) ?_
              show Steps p.tables e below (T20.setTop (mkF m 106 #[.val (.int p1), .val (.int ((p1 &&& (2147483647 : Int32)) % (7 : Int32))), .val (.ref a_EXHIBIT), .val (.int (1 : Int32))] [(.int (1 : Int32))])) _
              refine XS.goto X20.here hx rfl (pc0 := 106) (pc' := 110) rfl (hb hby at_106) (by decide) (by decide) ?_
              show Steps p.tables e below (T20.setTop (mkF m 110 #[.val (.int p1), .val (.int ((p1 &&& (2147483647 : Int32)) % (7 : Int32))), .val (.ref a_EXHIBIT), .val (.int (1 : Int32))] [(.int (1 : Int32))])) _
              exact retN X20 hx (t := .boolean) Bd.returns (by simp) (hb hby at_110) hr
            · show Q0 n0 _ T20.heap _
              rw [r20]
              exact ⟨rfl, N20⟩
          · have R21 : ∀ tg, Steps p.tables e below (s₁.setTop (mkF m 79 #[.val (.int p1), .val (.int ((p1 &&& (2147483647 : Int32)) % (7 : Int32))), .unset, .unset] [(.int (5 : Int32)), (.int ((p1 &&& (2147483647 : Int32)) % (7 : Int32)))])) tg → Steps p.tables e below (s₁.setTop (mkF m 65 #[.val (.int p1), .val (.int ((p1 &&& (2147483647 : Int32)) % (7 : Int32))), .unset, .unset] [(.int (4 : Int32)), (.int ((p1 &&& (2147483647 : Int32)) % (7 : Int32)))])) tg := by
              intro tg kt
              refine XS.icmpYes X0.here hx rfl (pc0 := 65) (pc' := 77) rfl (hb hby at_65) rfl (feq hc65_18).2 (by decide) (by decide) ?_
              show Steps p.tables e below (s₁.setTop (mkF m 77 #[.val (.int p1), .val (.int ((p1 &&& (2147483647 : Int32)) % (7 : Int32))), .unset, .unset] [])) _
              refine XS.iloadN X0.here hx rfl (hb hby at_77) rfl ?_
              show Steps p.tables e below (s₁.setTop (mkF m 78 #[.val (.int p1), .val (.int ((p1 &&& (2147483647 : Int32)) % (7 : Int32))), .unset, .unset] [(.int ((p1 &&& (2147483647 : Int32)) % (7 : Int32)))])) _
              refine XS.iconst X0.here hx rfl (hb hby at_78) ?_
              show Steps p.tables e below (s₁.setTop (mkF m 79 #[.val (.int p1), .val (.int ((p1 &&& (2147483647 : Int32)) % (7 : Int32))), .unset, .unset] [(.int (5 : Int32)), (.int ((p1 &&& (2147483647 : Int32)) % (7 : Int32)))])) _
              exact kt
            by_cases hc79_22 : ((p1 &&& (2147483647 : Int32)) % (7 : Int32)) = (5 : Int32)
            · obtain ⟨T23, X23, e23, st23⟩ := getS2 X0 hx hZ hown (host := "") (Or.inl (hw _ (List.mem_of_getElem? (i := 17) rfl))) Via.refl e0 S_SCHEDULE (g := (mkF m 82 #[.val (.int p1), .val (.int ((p1 &&& (2147483647 : Int32)) % (7 : Int32))), .unset, .unset] [])) rfl (hb hby at_82)
              obtain ⟨cq24, kq24, q24a, q24b, q24c⟩ := isOf hZ e23 E_SCHEDULE
              obtain ⟨_, _, ⟨T24, L24, k24, n24⟩, -, X24, ⟨Lc24, hQ24, l24, y24, z24⟩, st24⟩ := X23.virtualBack hx (y := (⟨"com/example/clausemap/clausemap/outline/Part$Kind", "isAttachment", "()Z"⟩ : MethodName)) (z := (⟨"com/example/clausemap/clausemap/outline/Part$Kind", "isAttachment", "()Z"⟩ : MethodName)) hown (mvT hZ (hw _ (List.mem_of_getElem? (i := 4) rfl))) (mvT hZ (hw _ (List.mem_of_getElem? (i := 5) rfl))) (notFace_of_selects (args := #[]) (mvT hZ (hw _ (List.mem_of_getElem? (i := 7) rfl)))) (mvT hZ (hw _ (List.mem_of_getElem? (i := 7) rfl))) (mvT hZ (hw _ (List.mem_of_getElem? (i := 6) rfl))) (by decide) (backOf (W := 0) (rm1 l Z a0 hw [] a_SCHEDULE a_EXHIBIT a_SCHEDULE a_ANNEX h0 n0 Z0 S_EXHIBIT S_SCHEDULE S_ANNEX) hZ (hw _ (List.mem_of_getElem? (i := 8) rfl)) (hw _ (List.mem_of_getElem? (i := 2) rfl)) (by decide) (by decide)) q24a q24c (g := (mkF m 98 #[.val (.int p1), .val (.int ((p1 &&& (2147483647 : Int32)) % (7 : Int32))), .val (.ref a_SCHEDULE), .val (.int (1 : Int32))] [(.ref a_SCHEDULE)])) rfl (by rw [hml]; rfl) (Steps.refl _) (argsL := []) (rest := []) (lenOf pd_0 rfl) rfl (by show 2 * 0 + _ ≤ _; exact Nat.le_of_eq rfl) (hb hby at_98) (fun _ _ => ⟨rfl, e23, (by decide : 0 + 0 ≤ _), (by decide : 0 + 0 ≤ _)⟩)
              dsimp only [Pt.U, Pt.locs, Pt.cells, Pt.slots] at X24 l24 y24 z24 st24 hQ24
              subst l24 y24 z24
              obtain ⟨hv24, N24q, r24⟩ := hQ24
              rw [(if_pos (Or.inr (Or.inl rfl)))] at hv24
              subst hv24
              have N24 := Fr.app N0 N24q
              obtain ⟨fs, hr, hrun, hended, hW, hsame⟩ := X24.leave (v := some (.int (1 : Int32))) (fun h => by rw [Bd.returns] at h; cases h)
              refine ⟨_, _, pre0 _ (R1 _ (R5 _ (R9 _ (R13 _ (R17 _ (R21 _ ?_)))))), hrun, hended, _, _, rfl, ?_, ⟨_, rfl⟩, hW, hsame.mono (by decide) (by decide)⟩
              · show Steps p.tables e below (s₁.setTop (mkF m 79 #[.val (.int p1), .val (.int ((p1 &&& (2147483647 : Int32)) % (7 : Int32))), .unset, .unset] [(.int (5 : Int32)), (.int ((p1 &&& (2147483647 : Int32)) % (7 : Int32)))])) _
                refine XS.icmpNo X0.here hx rfl (hb hby at_79) rfl (teq hc79_22).2 ?_
                show Steps p.tables e below (s₁.setTop (mkF m 82 #[.val (.int p1), .val (.int ((p1 &&& (2147483647 : Int32)) % (7 : Int32))), .unset, .unset] [])) _
                refine st23 _ ?_
                show Steps p.tables e below (T23.setTop (mkF m 85 #[.val (.int p1), .val (.int ((p1 &&& (2147483647 : Int32)) % (7 : Int32))), .unset, .unset] [(.ref a_SCHEDULE)])) _
                refine XS.astoreN X23.here hx rfl (hb hby at_85) rfl rfl (l' := #[.val (.int p1), .val (.int ((p1 &&& (2147483647 : Int32)) % (7 : Int32))), .val (.ref a_SCHEDULE), .unset]) rfl ?_
                show Steps p.tables e below (T23.setTop (mkF m 86 #[.val (.int p1), .val (.int ((p1 &&& (2147483647 : Int32)) % (7 : Int32))), .val (.ref a_SCHEDULE), .unset] [])) _
                refine XS.iconst X23.here hx rfl (hb hby at_86) ?_
                show Steps p.tables e below (T23.setTop (mkF m 87 #[.val (.int p1), .val (.int ((p1 &&& (2147483647 : Int32)) % (7 : Int32))), .val (.ref a_SCHEDULE), .unset] [(.int (1 : Int32))])) _
                refine XS.istoreN X23.here hx rfl (hb hby at_87) rfl (l' := #[.val (.int p1), .val (.int ((p1 &&& (2147483647 : Int32)) % (7 : Int32))), .val (.ref a_SCHEDULE), .val (.int (1 : Int32))]) rfl ?_
                show Steps p.tables e below (T23.setTop (mkF m 88 #[.val (.int p1), .val (.int ((p1 &&& (2147483647 : Int32)) % (7 : Int32))), .val (.ref a_SCHEDULE), .val (.int (1 : Int32))] [])) _
                refine XS.goto X23.here hx rfl (pc0 := 88) (pc' := 97) rfl (hb hby at_88) (by decide) (by decide) ?_
                show Steps p.tables e below (T23.setTop (mkF m 97 #[.val (.int p1), .val (.int ((p1 &&& (2147483647 : Int32)) % (7 : Int32))), .val (.ref a_SCHEDULE), .val (.int (1 : Int32))] [])) _
                refine XS.aloadN X23.here hx rfl (hb hby at_97) rfl rfl ?_
                show Steps p.tables e below (T23.setTop (mkF m 98 #[.val (.int p1), .val (.int ((p1 &&& (2147483647 : Int32)) % (7 : Int32))), .val (.ref a_SCHEDULE), .val (.int (1 : Int32))] [(.ref a_SCHEDULE)])) _
                refine st24.trans ?_
                show Steps p.tables e below (T24.setTop (mkF m 101 #[.val (.int p1), .val (.int ((p1 &&& (2147483647 : Int32)) % (7 : Int32))), .val (.ref a_SCHEDULE), .val (.int (1 : Int32))] [(.int (1 : Int32))])) _
                refine XS.iloadN X24.here hx rfl (hb hby at_101) rfl ?_
                show Steps p.tables e below (T24.setTop (mkF m 102 #[.val (.int p1), .val (.int ((p1 &&& (2147483647 : Int32)) % (7 : Int32))), .val (.ref a_SCHEDULE), .val (.int (1 : Int32))] [(.int (1 : Int32)), (.int (1 : Int32))])) _
                refine XS.icmpNo X24.here hx rfl (hb hby at_102) rfl (teq (by decide : (1 : Int32) = (1 : Int32))).2 ?_
                show Steps p.tables e below (T24.setTop (mkF m 105 #[.val (.int p1), .val (.int ((p1 &&& (2147483647 : Int32)) % (7 : Int32))), .val (.ref a_SCHEDULE), .val (.int (1 : Int32))] [])) _
                refine XS.iconst X24.here hx rfl (hb hby at_105) ?_
                show Steps p.tables e below (T24.setTop (mkF m 106 #[.val (.int p1), .val (.int ((p1 &&& (2147483647 : Int32)) % (7 : Int32))), .val (.ref a_SCHEDULE), .val (.int (1 : Int32))] [(.int (1 : Int32))])) _
                refine XS.goto X24.here hx rfl (pc0 := 106) (pc' := 110) rfl (hb hby at_106) (by decide) (by decide) ?_
                show Steps p.tables e below (T24.setTop (mkF m 110 #[.val (.int p1), .val (.int ((p1 &&& (2147483647 : Int32)) % (7 : Int32))), .val (.ref a_SCHEDULE), .val (.int (1 : Int32))] [(.int (1 : Int32))])) _
                exact retN X24 hx (t := .boolean) Bd.returns (by simp) (hb hby at_110) hr
              · show Q0 n0 _ T24.heap _
                rw [r24]
                exact ⟨rfl, N24⟩
            · obtain ⟨T25, X25, e25, st25⟩ := getS2 X0 hx hZ hown (host := "") (Or.inl (hw _ (List.mem_of_getElem? (i := 18) rfl))) Via.refl e0 S_ANNEX (g := (mkF m 91 #[.val (.int p1), .val (.int ((p1 &&& (2147483647 : Int32)) % (7 : Int32))), .unset, .unset] [])) rfl (hb hby at_91)
              obtain ⟨cq26, kq26, q26a, q26b, q26c⟩ := isOf hZ e25 E_ANNEX
              obtain ⟨_, _, ⟨T26, L26, k26, n26⟩, -, X26, ⟨Lc26, hQ26, l26, y26, z26⟩, st26⟩ := X25.virtualBack hx (y := (⟨"com/example/clausemap/clausemap/outline/Part$Kind", "isAttachment", "()Z"⟩ : MethodName)) (z := (⟨"com/example/clausemap/clausemap/outline/Part$Kind", "isAttachment", "()Z"⟩ : MethodName)) hown (mvT hZ (hw _ (List.mem_of_getElem? (i := 4) rfl))) (mvT hZ (hw _ (List.mem_of_getElem? (i := 5) rfl))) (notFace_of_selects (args := #[]) (mvT hZ (hw _ (List.mem_of_getElem? (i := 7) rfl)))) (mvT hZ (hw _ (List.mem_of_getElem? (i := 7) rfl))) (mvT hZ (hw _ (List.mem_of_getElem? (i := 6) rfl))) (by decide) (backOf (W := 0) (rm1 l Z a0 hw [] a_ANNEX a_EXHIBIT a_SCHEDULE a_ANNEX h0 n0 Z0 S_EXHIBIT S_SCHEDULE S_ANNEX) hZ (hw _ (List.mem_of_getElem? (i := 8) rfl)) (hw _ (List.mem_of_getElem? (i := 2) rfl)) (by decide) (by decide)) q26a q26c (g := (mkF m 98 #[.val (.int p1), .val (.int ((p1 &&& (2147483647 : Int32)) % (7 : Int32))), .val (.ref a_ANNEX), .val (.int (1 : Int32))] [(.ref a_ANNEX)])) rfl (by rw [hml]; rfl) (Steps.refl _) (argsL := []) (rest := []) (lenOf pd_0 rfl) rfl (by show 2 * 0 + _ ≤ _; exact Nat.le_of_eq rfl) (hb hby at_98) (fun _ _ => ⟨rfl, e25, (by decide : 0 + 0 ≤ _), (by decide : 0 + 0 ≤ _)⟩)
              dsimp only [Pt.U, Pt.locs, Pt.cells, Pt.slots] at X26 l26 y26 z26 st26 hQ26
              subst l26 y26 z26
              obtain ⟨hv26, N26q, r26⟩ := hQ26
              rw [(if_pos (Or.inr (Or.inr rfl)))] at hv26
              subst hv26
              have N26 := Fr.app N0 N26q
              obtain ⟨fs, hr, hrun, hended, hW, hsame⟩ := X26.leave (v := some (.int (1 : Int32))) (fun h => by rw [Bd.returns] at h; cases h)
              refine ⟨_, _, pre0 _ (R1 _ (R5 _ (R9 _ (R13 _ (R17 _ (R21 _ ?_)))))), hrun, hended, _, _, rfl, ?_, ⟨_, rfl⟩, hW, hsame.mono (by decide) (by decide)⟩
              · show Steps p.tables e below (s₁.setTop (mkF m 79 #[.val (.int p1), .val (.int ((p1 &&& (2147483647 : Int32)) % (7 : Int32))), .unset, .unset] [(.int (5 : Int32)), (.int ((p1 &&& (2147483647 : Int32)) % (7 : Int32)))])) _
                refine XS.icmpYes X0.here hx rfl (pc0 := 79) (pc' := 91) rfl (hb hby at_79) rfl (feq hc79_22).2 (by decide) (by decide) ?_
                show Steps p.tables e below (s₁.setTop (mkF m 91 #[.val (.int p1), .val (.int ((p1 &&& (2147483647 : Int32)) % (7 : Int32))), .unset, .unset] [])) _
                refine st25 _ ?_
                show Steps p.tables e below (T25.setTop (mkF m 94 #[.val (.int p1), .val (.int ((p1 &&& (2147483647 : Int32)) % (7 : Int32))), .unset, .unset] [(.ref a_ANNEX)])) _
                refine XS.astoreN X25.here hx rfl (hb hby at_94) rfl rfl (l' := #[.val (.int p1), .val (.int ((p1 &&& (2147483647 : Int32)) % (7 : Int32))), .val (.ref a_ANNEX), .unset]) rfl ?_
                show Steps p.tables e below (T25.setTop (mkF m 95 #[.val (.int p1), .val (.int ((p1 &&& (2147483647 : Int32)) % (7 : Int32))), .val (.ref a_ANNEX), .unset] [])) _
                refine XS.iconst X25.here hx rfl (hb hby at_95) ?_
                show Steps p.tables e below (T25.setTop (mkF m 96 #[.val (.int p1), .val (.int ((p1 &&& (2147483647 : Int32)) % (7 : Int32))), .val (.ref a_ANNEX), .unset] [(.int (1 : Int32))])) _
                refine XS.istoreN X25.here hx rfl (hb hby at_96) rfl (l' := #[.val (.int p1), .val (.int ((p1 &&& (2147483647 : Int32)) % (7 : Int32))), .val (.ref a_ANNEX), .val (.int (1 : Int32))]) rfl ?_
                show Steps p.tables e below (T25.setTop (mkF m 97 #[.val (.int p1), .val (.int ((p1 &&& (2147483647 : Int32)) % (7 : Int32))), .val (.ref a_ANNEX), .val (.int (1 : Int32))] [])) _
                refine XS.aloadN X25.here hx rfl (hb hby at_97) rfl rfl ?_
                show Steps p.tables e below (T25.setTop (mkF m 98 #[.val (.int p1), .val (.int ((p1 &&& (2147483647 : Int32)) % (7 : Int32))), .val (.ref a_ANNEX), .val (.int (1 : Int32))] [(.ref a_ANNEX)])) _
                refine st26.trans ?_
                show Steps p.tables e below (T26.setTop (mkF m 101 #[.val (.int p1), .val (.int ((p1 &&& (2147483647 : Int32)) % (7 : Int32))), .val (.ref a_ANNEX), .val (.int (1 : Int32))] [(.int (1 : Int32))])) _
                refine XS.iloadN X26.here hx rfl (hb hby at_101) rfl ?_
                show Steps p.tables e below (T26.setTop (mkF m 102 #[.val (.int p1), .val (.int ((p1 &&& (2147483647 : Int32)) % (7 : Int32))), .val (.ref a_ANNEX), .val (.int (1 : Int32))] [(.int (1 : Int32)), (.int (1 : Int32))])) _
                refine XS.icmpNo X26.here hx rfl (hb hby at_102) rfl (teq (by decide : (1 : Int32) = (1 : Int32))).2 ?_
                show Steps p.tables e below (T26.setTop (mkF m 105 #[.val (.int p1), .val (.int ((p1 &&& (2147483647 : Int32)) % (7 : Int32))), .val (.ref a_ANNEX), .val (.int (1 : Int32))] [])) _
                refine XS.iconst X26.here hx rfl (hb hby at_105) ?_
                show Steps p.tables e below (T26.setTop (mkF m 106 #[.val (.int p1), .val (.int ((p1 &&& (2147483647 : Int32)) % (7 : Int32))), .val (.ref a_ANNEX), .val (.int (1 : Int32))] [(.int (1 : Int32))])) _
                refine XS.goto X26.here hx rfl (pc0 := 106) (pc' := 110) rfl (hb hby at_106) (by decide) (by decide) ?_
                show Steps p.tables e below (T26.setTop (mkF m 110 #[.val (.int p1), .val (.int ((p1 &&& (2147483647 : Int32)) % (7 : Int32))), .val (.ref a_ANNEX), .val (.int (1 : Int32))] [(.int (1 : Int32))])) _
                exact retN X26 hx (t := .boolean) Bd.returns (by simp) (hb hby at_110) hr
              · show Q0 n0 _ T26.heap _
                rw [r26]
                exact ⟨rfl, N26⟩
set_option maxRecDepth 65536 in
set_option maxHeartbeats 40000000 in
theorem comes_1 {Post : Tables → Env → Array Value → State → Outcome → State → Prop} (hpost : ∀ tb e args s v u, (limb_1_1.after args s (.returned v) u = true ∧ limb_1_2.after args s (.returned v) u = true ∧ True) → FrameEnd s (.returned v) u (Jvm.fieldLocs frame_1_writes args s ++ Jvm.arrayLocs frame_1_arrays args s ++ Jvm.staticLocs frame_1_statics s) 0 0 → Post tb e args s (.returned v) u) :
    ArmFor flags0 classFile x code maxLocals ret World_1 tables_1 room_1 Calls_1 rest_1 Pre_1 Post := by
  intro l hfl _ _ p e ha hc hk s m args below hf hA hF happ hP
  obtain ⟨hcalls, hrest, hpre⟩ := hP
  obtain ⟨-, -, -, hnamed, -, -, -, hat⟩ := (Spec.applies_iff hf).mp happ
  obtain ⟨hg, hn⟩ := and_e (Cond.before_iff.mp (show (Jvm.Cond.and given_1 narrow_1).before args s = true from hpre))
  obtain ⟨g1a, g1b⟩ := and_e hg
  obtain ⟨w0, rfl⟩ : ∃ w0 : Value, args = #[w0] := by
    have hs : args.size = 1 := by simpa [Cond.value, given_1] using g1a
    obtain ⟨L⟩ := args
    match L, hs with
    | [w0], _ => exact ⟨w0, rfl⟩
  have hw := fun d (hd : d ∈ tables_1) => atoms_spec (ws := Jvm.Cond.code x code maxLocals ret :: tables_1) hat d (List.mem_cons_of_mem _ hd)
  have hfit : Fit s := fun {y c} hc i hi => by
    obtain ⟨ha, rfl⟩ := Array.getElem?_eq_some_iff.mp hc
    have q := List.all_eq_true.mp ((Array.all_eq_true_iff_forall_mem.mp hF) _ (Array.getElem_mem ha)) i (List.mem_range.mpr hi)
    simpa [Array.getElem?_eq_getElem hi] using q
  obtain ⟨i0, ei0⟩ := is_v g1b
  obtain rfl : w0 = (.int i0) := Option.some.inj ei0
  obtain ⟨u1a, u1b⟩ := and_e hn
  obtain ⟨u2a, u2b⟩ := and_e u1b
  obtain ⟨u3a, u3b⟩ := and_e u2b
  obtain ⟨u4a, u4b⟩ := and_e u3b
  obtain ⟨u5a, u5b⟩ := and_e u4b
  obtain ⟨u6a, u6b⟩ := and_e u5b
  obtain ⟨u7a, u7b⟩ := and_e u6b
  obtain ⟨u8a, u8b⟩ := and_e u7b
  obtain ⟨u9a, u9b⟩ := and_e u8b
  obtain ⟨u10a, u10b⟩ := and_e u9b
  obtain ⟨u11a, u11b⟩ := and_e u10b
  obtain ⟨u12a, u12b⟩ := and_e u11b
  obtain ⟨u13a, u13b⟩ := and_e u12b
  obtain ⟨a_ARTICLE, ev_ARTICLE⟩ := exa_v u1a
  have S_ARTICLE := Sta.start ev_ARTICLE (Or.inr ⟨(hw _ (List.mem_of_getElem? (i := 2) rfl)), (hw _ (List.mem_of_getElem? (i := 3) rfl))⟩)
  have E_ARTICLE := Exa.start ev_ARTICLE u1a
  have F_ARTICLE_ordinal := own_fld ev_ARTICLE u3a
  obtain ⟨a_EXHIBIT, ev_EXHIBIT⟩ := exa_v u2a
  have S_EXHIBIT := Sta.start ev_EXHIBIT (Or.inr ⟨(hw _ (List.mem_of_getElem? (i := 2) rfl)), (hw _ (List.mem_of_getElem? (i := 10) rfl))⟩)
  have E_EXHIBIT := Exa.start ev_EXHIBIT u2a
  have F_EXHIBIT_ordinal := own_fld ev_EXHIBIT u4a
  obtain ⟨a_SCHEDULE, ev_SCHEDULE⟩ := exa_v u5a
  have S_SCHEDULE := Sta.start ev_SCHEDULE (Or.inr ⟨(hw _ (List.mem_of_getElem? (i := 2) rfl)), (hw _ (List.mem_of_getElem? (i := 12) rfl))⟩)
  have E_SCHEDULE := Exa.start ev_SCHEDULE u5a
  have F_SCHEDULE_ordinal := own_fld ev_SCHEDULE u6a
  obtain ⟨a_ANNEX, ev_ANNEX⟩ := exa_v u7a
  have S_ANNEX := Sta.start ev_ANNEX (Or.inr ⟨(hw _ (List.mem_of_getElem? (i := 2) rfl)), (hw _ (List.mem_of_getElem? (i := 14) rfl))⟩)
  have E_ANNEX := Exa.start ev_ANNEX u7a
  have F_ANNEX_ordinal := own_fld ev_ANNEX u8a
  obtain ⟨a_APPENDIX, ev_APPENDIX⟩ := exa_v u9a
  have S_APPENDIX := Sta.start ev_APPENDIX (Or.inr ⟨(hw _ (List.mem_of_getElem? (i := 2) rfl)), (hw _ (List.mem_of_getElem? (i := 16) rfl))⟩)
  have E_APPENDIX := Exa.start ev_APPENDIX u9a
  have F_APPENDIX_ordinal := own_fld ev_APPENDIX u10a
  obtain ⟨a_PARAGRAPH, ev_PARAGRAPH⟩ := exa_v u11a
  have S_PARAGRAPH := Sta.start ev_PARAGRAPH (Or.inr ⟨(hw _ (List.mem_of_getElem? (i := 2) rfl)), (hw _ (List.mem_of_getElem? (i := 21) rfl))⟩)
  have E_PARAGRAPH := Exa.start ev_PARAGRAPH u11a
  have F_PARAGRAPH_ordinal := own_fld ev_PARAGRAPH u12a
  obtain ⟨a_SECTION, ev_SECTION⟩ := exa_v u13a
  have S_SECTION := Sta.start ev_SECTION (Or.inr ⟨(hw _ (List.mem_of_getElem? (i := 2) rfl)), (hw _ (List.mem_of_getElem? (i := 23) rfl))⟩)
  have E_SECTION := Exa.start ev_SECTION u13a
  have F_SECTION_ordinal := own_fld ev_SECTION u13b
  obtain ⟨n, o, h1, h2, h3, _, L, rfl, ⟨rfl, N⟩, hq⟩ := rm0 l s _ hw tables_1 i0 a_ARTICLE a_EXHIBIT a_SCHEDULE a_ANNEX a_APPENDIX a_PARAGRAPH a_SECTION s.heap s.heap.size (Nat.le_refl _) S_ARTICLE E_ARTICLE F_ARTICLE_ordinal S_EXHIBIT E_EXHIBIT F_EXHIBIT_ordinal S_SCHEDULE E_SCHEDULE F_SCHEDULE_ordinal S_ANNEX E_ANNEX F_ANNEX_ordinal S_APPENDIX E_APPENDIX F_APPENDIX_ordinal S_PARAGRAPH E_PARAGRAPH F_PARAGRAPH_ordinal S_SECTION E_SECTION F_SECTION_ordinal p e ha hc hk s m _ below hf ((Spec.applies_iff_loose hf).mp happ).1 ⟨rfl, State.Warmed39.refl s, rfl⟩ trivial
  refine ⟨n, _, h1, h2, h3, hpost _ _ _ _ _ _ ⟨Cond.after_iff.mpr rfl, Cond.after_iff.mpr (eq_i res_at (Term.int_eval (1)) rfl), trivial⟩ ⟨hq.1, hq.2.1, (hq.2.2.sift fun y hy => Or.inr (N y hy)).mono (by decide) (by decide)⟩⟩
theorem main_1_1 : Claimed_1_1 := comes_1 fun _ _ _ _ _ _ h hF => ⟨h.1, hF⟩
theorem main_1_2 : Claimed_1_2 := comes_1 fun _ _ _ _ _ _ h hF => ⟨h.2.1, hF⟩
end Jvm.Pilot.@@N@@
namespace Jvm.Pilot.@@N@@
open Jvm Jvm.ClassFile Sem Op Lib Jvm.Free Jvm.Stand Jvm.Pilot.@@N@@.Jvm.D
/-! MADE BY PROGRAM (witnessworld.py) out of the Statement's table words and the real class files: 12 classes; the members and pool entries that the words name. The judged class is class 1, her method 1. -/
namespace start1
open Jvm.ClassFile
def u (s : String) : CpInfo := .utf8 (stringToUtf16 s)
/-- a pool by its gaps: so many unusable entries, then the entry; so many at the end -/
def gap : Nat → List CpInfo → List CpInfo
  | 0, r => r
  | n + 1, r => .unusable :: gap n r
def poolList (es : List (Nat × CpInfo)) (last : Nat) : List CpInfo := es.foldr (fun e r => gap e.1 (e.2 :: r)) (gap last [])
def pool (es : List (Nat × CpInfo)) (last : Nat) : Array CpInfo := ⟨poolList es last⟩
def fileOf (pool : Array CpInfo) (this : Nat) (attrs : Array Attribute := #[]) (ms : Array MethodInfo := #[]) (fl : Nat := 33) (sup : Nat := 0) (ifs : Array Nat := #[]) (fds : Array FieldInfo := #[]) : ClassFile where
  minorVersion := 0
  majorVersion := 65
  constantPool := pool
  accessFlags := fl
  thisClass := this
  superClass := sup
  interfaces := ifs
  fields := fds
  methods := ms
  attributes := attrs
def plain (name : String) (sup : Option ClassId) : Class where
  name := name
  kind := .ordinary
  loader := none
  accessFlags := 33
  super := sup
  interfaces := #[]
  cf := none
  fields := #[]
  methods := #[]
  instanceTypes := #[]
  staticTypes := #[]
  resolved := #[]
  callSites := []
  init := .initialized
  statics := none
  mirror := none

def pool0 : Array CpInfo := pool [(5, u "<init>"), (0, u "()V"), (1, .class_ 10), (1, u "java/lang/Object")] 113

def k0m0 : Method := { name := "<init>", desc := "()V", sig := { parameters := [], returnType := none }, accessFlags := 1, code := none }
/-- java/lang/Object -/
def k0 : Class := { plain "java/lang/Object" none with
  accessFlags := 33
  interfaces := #[]
  cf := some (fileOf pool0 8 #[] #[{ accessFlags := 1, nameIndex := 5, descriptorIndex := 6, attributes := #[] }] 33 0 #[] #[])
  fields := #[]
  methods := #[k0m0]
  instanceTypes := #[]
  staticTypes := #[]
  resolved := Array.replicate 124 none
  statics := none }

def pool1 : Array CpInfo := pool [(2, .class_ 4), (1, u "java/lang/Object"), (0, u "<init>"), (0, u "()V"), (0, .integer 2147483647), (0, .fieldref 9 10), (0, .class_ 11), (0, .nameAndType 12 13), (0, u "com/example/clausemap/clausemap/outline/Part$Kind"), (0, u "ARTICLE"), (0, u "Lcom/example/clausemap/clausemap/outline/Part$Kind;"), (0, .fieldref 9 15), (0, .nameAndType 16 13), (0, u "SECTION"), (0, .fieldref 9 18), (0, .nameAndType 19 13), (0, u "PARAGRAPH"), (0, .fieldref 9 21), (0, .nameAndType 22 13), (0, u "APPENDIX"), (0, .fieldref 9 24), (0, .nameAndType 25 13), (0, u "EXHIBIT"), (0, .fieldref 9 27), (0, .nameAndType 28 13), (0, u "SCHEDULE"), (0, .fieldref 9 30), (0, .nameAndType 31 13), (0, u "ANNEX"), (0, .methodref 9 33), (0, .nameAndType 34 35), (0, u "isAttachment"), (0, u "()Z"), (0, .class_ 37), (0, u "com/example/clausemap/clausemap/outline/KindIsAttachmentPinLaw"), (2, u "law"), (0, u "(I)Z")] 7

def k1m0 : Method := { name := "<init>", desc := "()V", sig := { parameters := [], returnType := none }, accessFlags := 1, code := none }
def k1c1 : Code := { maxStack := 2, maxLocals := 4, code := code, exceptionTable := #[], attributes := #[] }
def k1m1 : Method := { name := "law", desc := "(I)Z", sig := { parameters := [.int], returnType := some .boolean }, accessFlags := 9, code := some k1c1 }
/-- com/example/clausemap/clausemap/outline/KindIsAttachmentPinLaw -/
def k1 : Class := { plain "com/example/clausemap/clausemap/outline/KindIsAttachmentPinLaw" (some 0) with
  accessFlags := 49
  interfaces := #[]
  cf := some (fileOf pool1 36 #[] #[{ accessFlags := 1, nameIndex := 5, descriptorIndex := 6, attributes := #[] }, { accessFlags := 9, nameIndex := 40, descriptorIndex := 41, attributes := #[] }] 49 2 #[] #[])
  fields := #[]
  methods := #[k1m0, k1m1]
  instanceTypes := #[]
  staticTypes := #[]
  resolved := Array.replicate 49 none
  statics := none }

def pool2 : Array CpInfo := pool [(1, .class_ 2), (0, u "java/lang/constant/Constable"), (0, .class_ 4), (0, u "java/lang/Object")] 6

/-- java/lang/constant/Constable -/
def k2 : Class := { plain "java/lang/constant/Constable" (some 0) with
  accessFlags := 1537
  interfaces := #[]
  cf := some (fileOf pool2 1 #[] #[] 1537 3 #[] #[])
  fields := #[]
  methods := #[]
  instanceTypes := #[]
  staticTypes := #[]
  resolved := Array.replicate 11 none
  statics := none }

def pool3 : Array CpInfo := pool [(1, .class_ 2), (0, u "java/lang/Comparable"), (0, .class_ 4), (0, u "java/lang/Object")] 7

/-- java/lang/Comparable -/
def k3 : Class := { plain "java/lang/Comparable" (some 0) with
  accessFlags := 1537
  interfaces := #[]
  cf := some (fileOf pool3 1 #[] #[] 1537 3 #[] #[])
  fields := #[]
  methods := #[]
  instanceTypes := #[]
  staticTypes := #[]
  resolved := Array.replicate 12 none
  statics := none }

def pool4 : Array CpInfo := pool [(1, .class_ 2), (0, u "java/io/Serializable"), (0, .class_ 4), (0, u "java/lang/Object")] 2

/-- java/io/Serializable -/
def k4 : Class := { plain "java/io/Serializable" (some 0) with
  accessFlags := 1537
  interfaces := #[]
  cf := some (fileOf pool4 1 #[] #[] 1537 3 #[] #[])
  fields := #[]
  methods := #[]
  instanceTypes := #[]
  staticTypes := #[]
  resolved := Array.replicate 7 none
  statics := none }

def pool5 : Array CpInfo := pool [(2, .class_ 4), (1, u "java/lang/Enum"), (0, u "name"), (0, u "Ljava/lang/String;"), (2, u "ordinal"), (0, u "I"), (1, .class_ 14), (1, u "java/lang/Object"), (4, u "hash"), (86, .class_ 108), (1, u "java/lang/Enum$EnumDesc"), (2, .class_ 112), (0, u "java/lang/constant/Constable"), (0, .class_ 114), (0, u "java/lang/Comparable"), (0, .class_ 116), (0, u "java/io/Serializable")] 87

/-- java/lang/Enum -/
def k5 : Class := { plain "java/lang/Enum" (some 0) with
  accessFlags := 1057
  interfaces := #[2, 3, 4]
  cf := some (fileOf pool5 2 #[.nestMembers #[106]] #[] 1057 12 #[111, 113, 115] #[{ accessFlags := 18, nameIndex := 5, descriptorIndex := 6, attributes := #[] }, { accessFlags := 18, nameIndex := 9, descriptorIndex := 10, attributes := #[] }, { accessFlags := 2, nameIndex := 19, descriptorIndex := 10, attributes := #[] }])
  fields := #[{ name := "name", type := (.object "java/lang/String"), accessFlags := 18, slot := 0, constantValue := 0 }, { name := "ordinal", type := .int, accessFlags := 18, slot := 1, constantValue := 0 }, { name := "hash", type := .int, accessFlags := 2, slot := 2, constantValue := 0 }]
  methods := #[]
  instanceTypes := #[(.object "java/lang/String"), .int, .int]
  staticTypes := #[]
  resolved := Array.replicate 204 none
  statics := none }

def pool6 : Array CpInfo := pool [(1, .class_ 2), (0, u "com/example/clausemap/clausemap/outline/Part$Kind"), (2, u "ARTICLE"), (0, u "Lcom/example/clausemap/clausemap/outline/Part$Kind;"), (2, u "SECTION"), (2, u "PARAGRAPH"), (2, u "APPENDIX"), (0, .fieldref 1 17), (0, .nameAndType 18 6), (0, u "EXHIBIT"), (0, .fieldref 1 20), (0, .nameAndType 21 6), (0, u "SCHEDULE"), (0, .fieldref 1 23), (0, .nameAndType 24 6), (0, u "ANNEX"), (2, u "$VALUES"), (0, u "[Lcom/example/clausemap/clausemap/outline/Part$Kind;"), (6, .class_ 37), (1, u "java/lang/Enum"), (14, u "referenceWords"), (0, u "Ljava/util/List;"), (2, u "referencedAs"), (5, u "BY_REFERENCE_WORD"), (0, u "Ljava/util/Map;"), (56, u "()Z"), (122, u "isAttachment"), (7, .class_ 252), (0, u "com/example/clausemap/clausemap/outline/Part")] 33

def k6c0 : Code := { maxStack := 2, maxLocals := 1, code := prog_33_method_10_code, exceptionTable := #[], attributes := #[] }
def k6m0 : Method := { name := "isAttachment", desc := "()Z", sig := { parameters := [], returnType := some .boolean }, accessFlags := 1, code := some k6c0 }
/-- com/example/clausemap/clausemap/outline/Part$Kind -/
def k6 : Class := { plain "com/example/clausemap/clausemap/outline/Part$Kind" (some 5) with
  accessFlags := 16433
  interfaces := #[]
  cf := some (fileOf pool6 1 #[.nestHost 251] #[{ accessFlags := 1, nameIndex := 243, descriptorIndex := 120, attributes := #[] }] 16433 35 #[] #[{ accessFlags := 16409, nameIndex := 5, descriptorIndex := 6, attributes := #[] }, { accessFlags := 16409, nameIndex := 9, descriptorIndex := 6, attributes := #[] }, { accessFlags := 16409, nameIndex := 12, descriptorIndex := 6, attributes := #[] }, { accessFlags := 16409, nameIndex := 15, descriptorIndex := 6, attributes := #[] }, { accessFlags := 16409, nameIndex := 18, descriptorIndex := 6, attributes := #[] }, { accessFlags := 16409, nameIndex := 21, descriptorIndex := 6, attributes := #[] }, { accessFlags := 16409, nameIndex := 24, descriptorIndex := 6, attributes := #[] }, { accessFlags := 26, nameIndex := 62, descriptorIndex := 63, attributes := #[] }, { accessFlags := 18, nameIndex := 52, descriptorIndex := 53, attributes := #[] }, { accessFlags := 18, nameIndex := 56, descriptorIndex := 6, attributes := #[] }, { accessFlags := 4122, nameIndex := 27, descriptorIndex := 28, attributes := #[] }])
  fields := #[{ name := "ARTICLE", type := (.object "com/example/clausemap/clausemap/outline/Part$Kind"), accessFlags := 16409, slot := 0, constantValue := 0 }, { name := "SECTION", type := (.object "com/example/clausemap/clausemap/outline/Part$Kind"), accessFlags := 16409, slot := 1, constantValue := 0 }, { name := "PARAGRAPH", type := (.object "com/example/clausemap/clausemap/outline/Part$Kind"), accessFlags := 16409, slot := 2, constantValue := 0 }, { name := "APPENDIX", type := (.object "com/example/clausemap/clausemap/outline/Part$Kind"), accessFlags := 16409, slot := 3, constantValue := 0 }, { name := "EXHIBIT", type := (.object "com/example/clausemap/clausemap/outline/Part$Kind"), accessFlags := 16409, slot := 4, constantValue := 0 }, { name := "SCHEDULE", type := (.object "com/example/clausemap/clausemap/outline/Part$Kind"), accessFlags := 16409, slot := 5, constantValue := 0 }, { name := "ANNEX", type := (.object "com/example/clausemap/clausemap/outline/Part$Kind"), accessFlags := 16409, slot := 6, constantValue := 0 }, { name := "BY_REFERENCE_WORD", type := (.object "java/util/Map"), accessFlags := 26, slot := 7, constantValue := 0 }, { name := "referenceWords", type := (.object "java/util/List"), accessFlags := 18, slot := 3, constantValue := 0 }, { name := "referencedAs", type := (.object "com/example/clausemap/clausemap/outline/Part$Kind"), accessFlags := 18, slot := 4, constantValue := 0 }, { name := "$VALUES", type := (.array (.object "com/example/clausemap/clausemap/outline/Part$Kind")), accessFlags := 4122, slot := 8, constantValue := 0 }]
  methods := #[k6m0]
  instanceTypes := #[(.object "java/lang/String"), .int, .int, (.object "java/util/List"), (.object "com/example/clausemap/clausemap/outline/Part$Kind")]
  staticTypes := #[(.object "com/example/clausemap/clausemap/outline/Part$Kind"), (.object "com/example/clausemap/clausemap/outline/Part$Kind"), (.object "com/example/clausemap/clausemap/outline/Part$Kind"), (.object "com/example/clausemap/clausemap/outline/Part$Kind"), (.object "com/example/clausemap/clausemap/outline/Part$Kind"), (.object "com/example/clausemap/clausemap/outline/Part$Kind"), (.object "com/example/clausemap/clausemap/outline/Part$Kind"), (.object "java/util/Map"), (.array (.object "com/example/clausemap/clausemap/outline/Part$Kind"))]
  resolved := Array.replicate 286 none
  statics := some 0 }

def pool7 : Array CpInfo := pool [(1, u "java/lang/Cloneable"), (0, .class_ 1), (0, u "java/lang/Object"), (0, .class_ 3)] 3

/-- java/lang/Cloneable -/
def k7 : Class := { plain "java/lang/Cloneable" (some 0) with
  accessFlags := 1537
  interfaces := #[]
  cf := some (fileOf pool7 2 #[] #[] 1537 4 #[] #[])
  fields := #[]
  methods := #[]
  instanceTypes := #[]
  staticTypes := #[]
  resolved := Array.replicate 8 none
  statics := none }

/-- the primitive byte -/
def k8 : Class := { plain "byte" none with kind := .primitive 'B', accessFlags := 0x411 }
/-- [B -/
def k9 : Class := { plain "[B" (some 0) with kind := .array 8 .byte, interfaces := #[7, 4], accessFlags := 1041 }

/-- the primitive int -/
def k10 : Class := { plain "int" none with kind := .primitive 'I', accessFlags := 0x411 }
/-- [I -/
def k11 : Class := { plain "[I" (some 0) with kind := .array 10 .int, interfaces := #[7, 4], accessFlags := 1041 }

def heap : Heap := #[{ cls := 6, slots := #[.ref 1, .ref 7, .ref 6, .ref 5, .ref 2, .ref 3, .ref 4, .null, .null], vm := .statics 6 },
  { cls := 6, slots := #[.null, .int 0, .int 0, .null, .null], vm := .none },
  { cls := 6, slots := #[.null, .int 4, .int 0, .null, .null], vm := .none },
  { cls := 6, slots := #[.null, .int 5, .int 0, .null, .null], vm := .none },
  { cls := 6, slots := #[.null, .int 6, .int 0, .null, .null], vm := .none },
  { cls := 6, slots := #[.null, .int 3, .int 0, .null, .null], vm := .none },
  { cls := 6, slots := #[.null, .int 2, .int 0, .null, .null], vm := .none },
  { cls := 6, slots := #[.null, .int 1, .int 0, .null, .null], vm := .none }]
def classes : Array Class := #[k0, k1, k2, k3, k4, k5, k6, k7, k8, k9, k10, k11]
def interned : List (Array UInt16 × Addr) := []
def slotsUsed : Nat := 44
def theMethod : MethodId := ⟨1, 1⟩
def args0 : Array Value := #[.int 5]
def aboutOver (below : List Frame) : State where
  vm := { classes := classes, interned := interned.toArray }
  heap := heap
  slotsUsed := slotsUsed
  threads := #[{ frames := .invoking theMethod args0 :: below }]
def below0 : List Frame := [.native { method := ⟨0, 0⟩, args := #[] }]
def about1 : State := aboutOver below0
def p0 : Program := .bare "" "" ""
def e0 : Env := launch0.env 0 0 0
theorem w_frames : about1.frames = Frame.invoking theMethod args0 :: below0 := rfl
set_option maxRecDepth 65536 in
theorem w_args : argsFit about1.vm theMethod args0 = true := by decide +kernel
set_option maxRecDepth 65536 in
theorem w_heap : heapFits about1 = true := by decide +kernel
set_option maxRecDepth 65536 in
theorem w_runnable : about1.curStatus? = some .runnable := by decide +kernel
set_option maxRecDepth 65536 in
theorem w_alone : about1.alone = true := by decide +kernel
set_option maxRecDepth 65536 in
theorem w_named : about1.methodNamed? x = some theMethod := by decide +kernel
set_option maxRecDepth 65536 in
theorem w_hears : about1.hears theMethod below0 = true := by decide +kernel
set_option maxRecDepth 65536 in
theorem w_ripe : about1.ripe theMethod args0 below0 = true := by decide +kernel
theorem w_running : about1.status = .running := rfl
set_option maxRecDepth 65536 in
theorem w_room : about1.hasRoom e0.platform room_1 = true :=
  launch0.hasRoom_least _ room_1 (by decide +kernel) (by decide +kernel) (by decide +kernel) (by decide +kernel) (by decide +kernel) (by decide +kernel)
theorem allAtoms_all (ts : List Jvm.Cond) (a : Array Jvm.Value) (st : Jvm.State) : (allAtoms ts).before a st = ts.all (fun c => c.before a st) := by
  induction ts with
  | nil => rfl
  | cons c t ih =>
    show (Jvm.Cond.and c (allAtoms t)).before a st = _
    rw [Jvm.Cond.before_and, ih, List.all_cons]
def words1 : List Jvm.Cond := Jvm.Cond.code x code maxLocals ret :: tables_1
/-- a 'code' word, met by the world's own term for the bytes: nothing is compared byte by byte -/
theorem code_word {y : MethodName} {bytes : ByteArray} {mx : Nat} {rt : Option FieldType} {a : Array Value} {s : State} {m : MethodId} {meth : Method} {c : Code} (h1 : s.methodNamed? y = some m) (h2 : s.vm.method? m = some meth) (h3 : meth.code = some c) (h4 : c.code = bytes)
    (h5 : (c.maxLocals == mx && c.exceptionTable.isEmpty && decide (c.maxStack ≤ mostOperands) && decide (meth.sig.returnType = rt) && !meth.locks && decide (parseMethodDescriptor y.desc = some meth.sig)) = true) : (Jvm.Cond.code y bytes mx rt).before a s = true := by
  simp only [Bool.and_eq_true, beq_iff_eq, Bool.not_eq_true', decide_eq_true_eq] at h5
  obtain ⟨⟨⟨⟨⟨g1, g2⟩, g3⟩, g4⟩, g5⟩, g6⟩ := h5
  simp [Cond.before, Cond.holds, Cond.value, h1, h2, h3, h4, g1, g2, g3, g4, g5, g6]
def isCode : Jvm.Cond → Bool
  | .code _ _ _ _ => true
  | _ => false
theorem all_split {L : List Jvm.Cond} {P : Jvm.Cond → Bool} (h1 : L.all (fun c => isCode c || P c) = true) (h2 : ∀ c ∈ L.filter isCode, P c = true) : L.all P = true := by
  refine List.all_eq_true.mpr fun c hc => ?_
  have h := List.all_eq_true.mp h1 c hc
  rcases Bool.eq_false_or_eq_true (isCode c) with hi | hi
  · exact h2 c (List.mem_filter.mpr ⟨hc, hi⟩)
  · simpa [hi] using h
set_option maxRecDepth 65536 in
theorem w_c0 : (Jvm.Cond.code x code maxLocals ret).before args0 about1 = true := code_word (m := ⟨1, 1⟩) (meth := k1m1) (c := k1c1) (by decide +kernel) rfl rfl rfl (by decide +kernel)
set_option maxRecDepth 65536 in
theorem w_c1 : (Jvm.Cond.code ({ cls := "com/example/clausemap/clausemap/outline/Part$Kind", name := "isAttachment", desc := "()Z" } : Jvm.MethodName) prog_33_method_10_code (1 : Nat) (Option.some Jvm.ClassFile.FieldType.boolean)).before args0 about1 = true := code_word (m := ⟨6, 0⟩) (meth := k6m0) (c := k6c0) (by decide +kernel) rfl rfl rfl (by decide +kernel)
def codes1 : List Jvm.Cond := [Jvm.Cond.code x code maxLocals ret, Jvm.Cond.code ({ cls := "com/example/clausemap/clausemap/outline/Part$Kind", name := "isAttachment", desc := "()Z" } : Jvm.MethodName) prog_33_method_10_code (1 : Nat) (Option.some Jvm.ClassFile.FieldType.boolean)]
set_option maxRecDepth 65536 in
theorem codes_eq : words1.filter isCode = codes1 := rfl
theorem w_codes : ∀ c ∈ words1.filter isCode, c.before args0 about1 = true := by
  rw [codes_eq]
  intro c hc
  simp only [codes1, List.mem_cons, List.not_mem_nil, or_false] at hc
  rcases hc with rfl | rfl
  · exact w_c0
  · exact w_c1
set_option maxRecDepth 65536 in
theorem w_t1 : (words1.take 24).all (fun c => isCode c || c.before args0 about1) = true := by decide +kernel
set_option maxRecDepth 65536 in
theorem w_t2 : (words1.drop 24).all (fun c => isCode c || c.before args0 about1) = true := by decide +kernel
theorem w_tables : (allAtoms (Jvm.Cond.code x code maxLocals ret :: tables_1)).before args0 about1 = true := by
  rw [allAtoms_all]
  show words1.all (fun c => c.before args0 about1) = true
  refine all_split ?_ w_codes
  rw [← List.take_append_drop 24 words1, List.all_append, w_t1, w_t2]
  rfl
set_option maxRecDepth 65536 in
theorem w_case : (Jvm.Cond.and given_1 narrow_1).before args0 about1 = true := by decide +kernel
theorem w_applies : (headSpec (Jvm.Cond.code x code maxLocals ret :: tables_1) room_1).applies x e0.platform about1 = true :=
  (Spec.applies_iff w_frames).mpr ⟨w_running, w_runnable, w_alone, w_named, w_hears, w_ripe, w_room, w_tables⟩
theorem atStart : AtStart classFile x code maxLocals ret World_1 tables_1 room_1 Calls_1 rest_1 Pre_1 launch0 p0 e0 about1 theMethod args0 below0 :=
  ⟨lists_1, trivial, launch0.admits_env _ _ _, launch0.least_env, fairChoices_fair.cas, fairChoices_fair.clock, w_frames, w_args, w_heap, w_applies, trivial, trivial, w_case⟩
end start1
theorem witness_1 : WitnessClaimed_1 := ⟨start1.p0, start1.e0, start1.about1, start1.theMethod, start1.args0, start1.below0, start1.atStart⟩
end Jvm.Pilot.@@N@@
