import JvmDerived
import JvmDerived.Pilot.@@N@@Statement
import JvmDerived.Pilot.@@N@@Code
set_option linter.unusedVariables false
set_option linter.unusedSimpArgs false
namespace Jvm.RoadKit
open Sem ClassFile Op Lib Jvm.Stand Jvm.Free Jvm.LawKit
section New
variable {p : Program} {l : Launch} {e : Env} {R : Room} {s : State} {m : MethodId} {args : Array Value} {below : List Frame} {meth : Method} {c : Code} {T : State} {locs : List Loc} {cells slots : Nat}
theorem retI (X : Stand p l e R s m args below meth c T locs cells slots) (hx : p.tables.exec = Jvm.exec) {pc : Nat} {Ls : Array Slot} {z : Int32} {rest : List Value} (hret : meth.sig.returnType = some .int) (hd : decode c.code pc = .ok (.ireturn, 1)) {fs : List Frame}
    (hl : ∀ (f : JFrame) (acts : List Action), f.method = m → f.locked = none → f.entered = [] → (doReturn e (T.setTop f) acts (some (.int z))).1 = T.setFrames fs) : Steps p.tables e below (T.setTop (mkF m pc Ls (.int z :: rest))) (T.setFrames fs) := by
  have hm' : T.vm.method? m = some meth := X.method'
  have hn : narrow .int (.int z) = .int z := rfl
  show Steps p.tables e below (T.setTop { method := m, pc := pc, locals := Ls, stack := _ :: rest, locked := none }) _
  jvm_step X.here [X.here.top, hx, hd, hm', hret, hn]
  first | (intro acts; rw [hl _ acts rfl rfl rfl]) | rw [hl _ _ rfl rfl rfl]
  exact Steps.refl _
end New
end Jvm.RoadKit
namespace Jvm.Pilot.@@N@@
open Jvm Jvm.ClassFile Sem Op Lib Jvm.Free Jvm.Stand Jvm.LawKit Jvm.RoadKit Bundle Jvm.Pilot.@@N@@.Jvm.D
/-- what a body that writes nothing leaves: the value, and the heap as it was -/
def QV (r : Option Value) (h0 : Heap) (n0 : Nat) (v : Option Value) (h : Heap) (L : List Loc) : Prop := v = r ∧ Fr n0 L ∧ h = h0
theorem own_fld_one {Z : State} {h : Heap} {a : Addr} {C n d : String} {v w : Value} (F : Fld Z h a C n d v) (G : Fld Z h a C n d w) : v = w := by
  obtain ⟨c1, f1, k1, i1, g1, a1, a2, -, -, -, -, a7⟩ := F
  obtain ⟨c2, f2, k2, i2, g2, b1, b2, -, -, -, -, b7⟩ := G
  cases a1.symm.trans b1
  cases a2.symm.trans b2
  exact Option.some.inj (a7.symm.trans b7)
theorem own_ne_fld {Z : State} {h : Heap} {a b : Addr} {C n d : String} {x y : Int32} (F : Fld Z h a C n d (.int x)) (G : Fld Z h b C n d (.int y)) (hn : x ≠ y) : ¬ a = b := fun e => by
  subst e
  exact hn (Value.int.inj (own_fld_one F G))
theorem own_fld {args : Array Value} {s : State} {t : Term} {C n d : String} {k : Int32} {a : Addr} (ht : t.eval args s none [] s = some (.ref a)) (h : (Jvm.Cond.eq (Jvm.Term.field t C n d) (Jvm.Term.int k)).value args s none s [] = some true) : Fld s s.heap a C n d (.int k) := by
  refine Fld.start ((fld_at (idx := []) (first := s) (o := none) ht).symm.trans ?_)
  obtain ⟨x, y, e1, e2, k1, k2⟩ := cmp_v (Or.inl h)
  cases e2
  obtain ⟨z, rfl⟩ := k2
  have e3 : (Jvm.Term.int k).eval args s none [] s = some (.int k) := rfl
  have q : z = k := by simpa [Jvm.Cond.value, e1, e3] using h
  rw [e1, q]
def Q0 (n0 : Nat) (v : Option Value) (h : Heap) (L : List Loc) : Prop := v = some (.int (1 : Int32)) ∧ Fr n0 L
theorem own_k (x : Int32) : (x &&& (3 : Int32)) = (0 : Int32) ∨ (x &&& (3 : Int32)) = (1 : Int32) ∨ (x &&& (3 : Int32)) = (2 : Int32) ∨ (x &&& (3 : Int32)) = (3 : Int32) := by
  have h2 := c_mask x 3 2 (by decide) (by decide)
  have h3 : (x &&& (3 : Int32)).toInt = 0 ∨ (x &&& (3 : Int32)).toInt = 1 ∨ (x &&& (3 : Int32)).toInt = 2 ∨ (x &&& (3 : Int32)).toInt = 3 := by omega
  rcases h3 with h | h | h | h
  · exact Or.inl (Int32.toInt_inj.mp (h.trans (by decide)))
  · exact Or.inr (Or.inl (Int32.toInt_inj.mp (h.trans (by decide))))
  · exact Or.inr (Or.inr (Or.inl (Int32.toInt_inj.mp (h.trans (by decide)))))
  · exact Or.inr (Or.inr (Or.inr (Int32.toInt_inj.mp (h.trans (by decide)))))
theorem own_t0 (n : Int32) : (if n = 1 ∨ ¬ (0 : Int32) = 0 ∧ 1 < n then (1 : Int32) else 0) = (if n = 1 then 1 else 0) := by simp
theorem own_t1 (n : Int32) : (if n = 2 ∨ ¬ (0 : Int32) = 0 ∧ 2 < n then (1 : Int32) else 0) = (if n = 2 then 1 else 0) := by simp
theorem own_t2 (n : Int32) : (if n = 2 ∨ ¬ (0 : Int32) = 0 ∧ 2 < n then (1 : Int32) else 0) = (if n = 2 then 1 else 0) := by simp
theorem own_t3 (n : Int32) : (if n = 2 ∨ ¬ (1 : Int32) = 0 ∧ 2 < n then (1 : Int32) else 0) = (if n < 2 then 0 else 1) := by
  have e2 : (2 : Int32).toInt = 2 := by decide
  by_cases h : n < 2
  · rw [if_pos h, if_neg]
    rintro (rfl | ⟨-, q⟩)
    · exact absurd h (by decide)
    · rw [Int32.lt_iff_toInt_lt] at h q; omega
  · rw [if_neg h, if_pos]
    rw [Int32.lt_iff_toInt_lt] at h
    by_cases q : n = 2
    · exact Or.inl q
    · refine Or.inr ⟨by decide, ?_⟩
      have q' : ¬ n.toInt = (2 : Int32).toInt := fun z => q (Int32.toInt_inj.mp z)
      rw [Int32.lt_iff_toInt_lt]; omega
theorem d_prog_40_m_6_0 : decode prog_40_method_6_code 0 = .ok (.iload_n 1, 1) := by decide +kernel
theorem d_prog_40_m_6_1 : decode prog_40_method_6_code 1 = .ok (.aload_n 0, 1) := by decide +kernel
theorem d_prog_40_m_6_2 : decode prog_40_method_6_code 2 = .ok (.getfield 39, 3) := by decide +kernel
theorem d_prog_40_m_6_5 : decode prog_40_method_6_code 5 = .ok (.if_icmp .eq 18, 3) := by decide +kernel
theorem d_prog_40_m_6_8 : decode prog_40_method_6_code 8 = .ok (.aload_n 0, 1) := by decide +kernel
theorem d_prog_40_m_6_9 : decode prog_40_method_6_code 9 = .ok (.getfield 43, 3) := by decide +kernel
theorem d_prog_40_m_6_12 : decode prog_40_method_6_code 12 = .ok (.ifCond .eq 15, 3) := by decide +kernel
theorem d_prog_40_m_6_15 : decode prog_40_method_6_code 15 = .ok (.iload_n 1, 1) := by decide +kernel
theorem d_prog_40_m_6_16 : decode prog_40_method_6_code 16 = .ok (.aload_n 0, 1) := by decide +kernel
theorem d_prog_40_m_6_17 : decode prog_40_method_6_code 17 = .ok (.getfield 39, 3) := by decide +kernel
theorem d_prog_40_m_6_20 : decode prog_40_method_6_code 20 = .ok (.if_icmp .le 7, 3) := by decide +kernel
theorem d_prog_40_m_6_23 : decode prog_40_method_6_code 23 = .ok (.iconst 1, 1) := by decide +kernel
theorem d_prog_40_m_6_24 : decode prog_40_method_6_code 24 = .ok (.goto 4, 3) := by decide +kernel
theorem d_prog_40_m_6_27 : decode prog_40_method_6_code 27 = .ok (.iconst 0, 1) := by decide +kernel
theorem d_prog_40_m_6_28 : decode prog_40_method_6_code 28 = .ok (.ireturn, 1) := by decide +kernel
theorem d_m_3_0 : decode method_3_code 0 = .ok (.iload_n 0, 1) := by decide +kernel
theorem d_m_3_1 : decode method_3_code 1 = .ok (.ifCond .ne 14, 3) := by decide +kernel
theorem d_m_3_4 : decode method_3_code 4 = .ok (.iload_n 1, 1) := by decide +kernel
theorem d_m_3_5 : decode method_3_code 5 = .ok (.iconst 1, 1) := by decide +kernel
theorem d_m_3_6 : decode method_3_code 6 = .ok (.if_icmp .ne 7, 3) := by decide +kernel
theorem d_m_3_9 : decode method_3_code 9 = .ok (.iconst 1, 1) := by decide +kernel
theorem d_m_3_10 : decode method_3_code 10 = .ok (.goto 4, 3) := by decide +kernel
theorem d_m_3_13 : decode method_3_code 13 = .ok (.iconst 0, 1) := by decide +kernel
theorem d_m_3_14 : decode method_3_code 14 = .ok (.ireturn, 1) := by decide +kernel
theorem d_m_3_15 : decode method_3_code 15 = .ok (.iload_n 0, 1) := by decide +kernel
theorem d_m_3_16 : decode method_3_code 16 = .ok (.iconst 3, 1) := by decide +kernel
theorem d_m_3_17 : decode method_3_code 17 = .ok (.if_icmp .ne 14, 3) := by decide +kernel
theorem d_m_3_20 : decode method_3_code 20 = .ok (.iload_n 1, 1) := by decide +kernel
theorem d_m_3_21 : decode method_3_code 21 = .ok (.iconst 2, 1) := by decide +kernel
theorem d_m_3_22 : decode method_3_code 22 = .ok (.if_icmp .lt 7, 3) := by decide +kernel
theorem d_m_3_25 : decode method_3_code 25 = .ok (.iconst 1, 1) := by decide +kernel
theorem d_m_3_26 : decode method_3_code 26 = .ok (.goto 4, 3) := by decide +kernel
theorem d_m_3_29 : decode method_3_code 29 = .ok (.iconst 0, 1) := by decide +kernel
theorem d_m_3_30 : decode method_3_code 30 = .ok (.ireturn, 1) := by decide +kernel
theorem d_m_3_31 : decode method_3_code 31 = .ok (.iload_n 1, 1) := by decide +kernel
theorem d_m_3_32 : decode method_3_code 32 = .ok (.iconst 2, 1) := by decide +kernel
theorem d_m_3_33 : decode method_3_code 33 = .ok (.if_icmp .ne 7, 3) := by decide +kernel
theorem d_m_3_36 : decode method_3_code 36 = .ok (.iconst 1, 1) := by decide +kernel
theorem d_m_3_37 : decode method_3_code 37 = .ok (.goto 4, 3) := by decide +kernel
theorem d_m_3_40 : decode method_3_code 40 = .ok (.iconst 0, 1) := by decide +kernel
theorem d_m_3_41 : decode method_3_code 41 = .ok (.ireturn, 1) := by decide +kernel
theorem pd_0 : parseMethodDescriptor "(I)Z" = some ⟨[.int], some .boolean⟩ := by decide +kernel
theorem pd_1 : parseMethodDescriptor "(II)Z" = some ⟨[.int, .int], some .boolean⟩ := by decide +kernel
theorem pn_0 : plainName "com/example/typebridge/typebridge/NumericContext" = true := by first | (simp [plainName, overriddenIn]; done) | decide +kernel
theorem pn_1 : plainName "com/example/typebridge/typebridge/NumericContextTakesPinLaw" = true := by first | (simp [plainName, overriddenIn]; done) | decide +kernel
theorem ef_rm1 (m : MethodId) (x0 : Addr) (x1 : Int32) : entryFrame m #[(.ref x0), (.int x1)] 2 = mkF m 0 #[.val (.ref x0), .val (.int x1)] [] := by first | (simp [entryFrame, mkF, argsToLocals, Value.category]; done) | rfl
set_option maxRecDepth 65536 in
set_option maxHeartbeats 40000000 in
theorem rm1 (l : Launch) (Z : State) (a0 : Array Value) (hw : ∀ d ∈ tables_1, d.before a0 Z = true) (ws : List Jvm.Cond) (a : Addr) (n r z : Int32) (h0 : Heap) (n0 : Nat) (Z0 : n0 ≤ h0.size) (hF1 : Fld Z h0 a "com/example/typebridge/typebridge/NumericContext" "operands" "I" (.int r)) (hF2 : Fld Z h0 a "com/example/typebridge/typebridge/NumericContext" "orMore" "Z" (.int z)) :
    MetFree l (⟨"com/example/typebridge/typebridge/NumericContext", "takes", "(I)Z"⟩ : MethodName) (head1 (Jvm.Cond.code (⟨"com/example/typebridge/typebridge/NumericContext", "takes", "(I)Z"⟩ : MethodName) prog_40_method_6_code 2 (some .boolean) :: ws) ({ frames := 0, cells := 0, slots := 0, locals := 0 } : Room)) (fun aa_ UU_ => aa_ = #[(.ref a), (.int n)] ∧ Z.Warmed39 UU_.vm ∧ UU_.heap = h0) (fun _ _ _ _ _ => True) (fun _ UU_ oo_ UE_ => ∃ vv_ LL_, oo_ = .returned vv_ ∧ QV (some (.int (if n = r ∨ ¬ z = 0 ∧ r < n then 1 else 0))) h0 n0 vv_ UE_.heap LL_ ∧ FrameEnd UU_ oo_ UE_ LL_ ({ frames := 0, cells := 0, slots := 0, locals := 0 } : Room).cells ({ frames := 0, cells := 0, slots := 0, locals := 0 } : Room).slots) := by
  refine MetFree.of_bodySF (plainFor_of_name pn_0) hisR ?_
  intro p e s m args below meth c s₁ Bd hml0 hP hK
  obtain ⟨rfl, hZ, hh⟩ := hP
  have hx := Bd.exec
  have hby := Bd.bytes
  have hml : c.maxLocals = 2 := hml0
  have hown : s.vm.findClass "com/example/typebridge/typebridge/NumericContext" = some m.cls := findClass_of_methodNamed Bd.named
  have hnm := (name_of_methodNamed Bd.named Bd.method).1
  have X0 : Stand p l e ({ frames := 0, cells := 0, slots := 0, locals := 0 } : Room) s m #[(.ref a), (.int n)] below meth c s₁ [] 0 0 := Stand.of_body Bd
  have e0 : s₁.heap = h0 := by rw [← hh, Bd.state]; rfl
  have N0 := Fr.nil n0
  have pre0 : ∀ tg, Steps p.tables e below (s₁.setTop (mkF m 0 #[.val (.ref a), .val (.int n)] [])) tg → Steps p.tables e below (s₁.setTop (entryFrame m #[(.ref a), (.int n)] 2)) tg := fun tg kq_ => castTop (ef_rm1 m a n) kq_
  obtain ⟨T1, X1, e1, st1⟩ := getF X0 hx hZ hown (host := "") (Or.inl (hw _ (List.mem_of_getElem? (i := 8) rfl))) Via.refl e0 hF1 (g := (mkF m 2 #[.val (.ref a), .val (.int n)] [(.ref a), (.int n)])) rfl rfl (hb hby d_prog_40_m_6_2)
  have R2 : ∀ tg, Steps p.tables e below (T1.setTop (mkF m 5 #[.val (.ref a), .val (.int n)] [(.int r), (.int n)])) tg → Steps p.tables e below (s₁.setTop (mkF m 0 #[.val (.ref a), .val (.int n)] [])) tg := by
    intro tg kt
    refine XS.iloadN X0.here hx rfl (hb hby d_prog_40_m_6_0) rfl ?_
    show Steps p.tables e below (s₁.setTop (mkF m 1 #[.val (.ref a), .val (.int n)] [(.int n)])) _
    refine XS.aloadN X0.here hx rfl (hb hby d_prog_40_m_6_1) rfl rfl ?_
    show Steps p.tables e below (s₁.setTop (mkF m 2 #[.val (.ref a), .val (.int n)] [(.ref a), (.int n)])) _
    refine st1 _ ?_
    show Steps p.tables e below (T1.setTop (mkF m 5 #[.val (.ref a), .val (.int n)] [(.int r), (.int n)])) _
    exact kt
  by_cases hc5_3 : n = r
  · obtain ⟨fs, hr, hrun, hended, hW, hsame⟩ := X1.leave (v := some (.int (1 : Int32))) (fun h => by rw [Bd.returns] at h; cases h)
    refine ⟨_, _, pre0 _ (R2 _ ?_), hrun, hended, _, _, rfl, ?_, ⟨_, rfl⟩, hW, hsame.mono (by decide) (by decide)⟩
    · show Steps p.tables e below (T1.setTop (mkF m 5 #[.val (.ref a), .val (.int n)] [(.int r), (.int n)])) _
      refine XS.icmpYes X1.here hx rfl (pc0 := 5) (pc' := 23) rfl (hb hby d_prog_40_m_6_5) rfl (teq hc5_3).1 (by decide) (by decide) ?_
      show Steps p.tables e below (T1.setTop (mkF m 23 #[.val (.ref a), .val (.int n)] [])) _
      refine XS.iconst X1.here hx rfl (hb hby d_prog_40_m_6_23) ?_
      show Steps p.tables e below (T1.setTop (mkF m 24 #[.val (.ref a), .val (.int n)] [(.int (1 : Int32))])) _
      refine XS.goto X1.here hx rfl (pc0 := 24) (pc' := 28) rfl (hb hby d_prog_40_m_6_24) (by decide) (by decide) ?_
      show Steps p.tables e below (T1.setTop (mkF m 28 #[.val (.ref a), .val (.int n)] [(.int (1 : Int32))])) _
      exact retN X1 hx (t := .boolean) Bd.returns (by simp) (hb hby d_prog_40_m_6_28) hr
    · show QV (some (.int (if n = r ∨ ¬ z = 0 ∧ r < n then 1 else 0))) h0 n0 _ T1.heap _
      rw [e1]
      exact ⟨by simp [hc5_3], N0, rfl⟩
  · obtain ⟨T4, X4, e4, st4⟩ := getF X1 hx hZ hown (host := "") (Or.inl (hw _ (List.mem_of_getElem? (i := 10) rfl))) Via.refl e1 hF2 (g := (mkF m 9 #[.val (.ref a), .val (.int n)] [(.ref a)])) rfl rfl (hb hby d_prog_40_m_6_9)
    have R5 : ∀ tg, Steps p.tables e below (T4.setTop (mkF m 12 #[.val (.ref a), .val (.int n)] [(.int z)])) tg → Steps p.tables e below (T1.setTop (mkF m 5 #[.val (.ref a), .val (.int n)] [(.int r), (.int n)])) tg := by
      intro tg kt
      refine XS.icmpNo X1.here hx rfl (hb hby d_prog_40_m_6_5) rfl (feq hc5_3).1 ?_
      show Steps p.tables e below (T1.setTop (mkF m 8 #[.val (.ref a), .val (.int n)] [])) _
      refine XS.aloadN X1.here hx rfl (hb hby d_prog_40_m_6_8) rfl rfl ?_
      show Steps p.tables e below (T1.setTop (mkF m 9 #[.val (.ref a), .val (.int n)] [(.ref a)])) _
      refine st4 _ ?_
      show Steps p.tables e below (T4.setTop (mkF m 12 #[.val (.ref a), .val (.int n)] [(.int z)])) _
      exact kt
    by_cases hc12_6 : z = (0 : Int32)
    · obtain ⟨fs, hr, hrun, hended, hW, hsame⟩ := X4.leave (v := some (.int (0 : Int32))) (fun h => by rw [Bd.returns] at h; cases h)
      refine ⟨_, _, pre0 _ (R2 _ (R5 _ ?_)), hrun, hended, _, _, rfl, ?_, ⟨_, rfl⟩, hW, hsame.mono (by decide) (by decide)⟩
      · show Steps p.tables e below (T4.setTop (mkF m 12 #[.val (.ref a), .val (.int n)] [(.int z)])) _
        refine XS.ifYes X4.here hx rfl (pc0 := 12) (pc' := 27) rfl (hb hby d_prog_40_m_6_12) rfl ((if0 _ _).trans (teq hc12_6).1) (by decide) (by decide) ?_
        show Steps p.tables e below (T4.setTop (mkF m 27 #[.val (.ref a), .val (.int n)] [])) _
        refine XS.iconst X4.here hx rfl (hb hby d_prog_40_m_6_27) ?_
        show Steps p.tables e below (T4.setTop (mkF m 28 #[.val (.ref a), .val (.int n)] [(.int (0 : Int32))])) _
        exact retN X4 hx (t := .boolean) Bd.returns (by simp) (hb hby d_prog_40_m_6_28) hr
      · show QV (some (.int (if n = r ∨ ¬ z = 0 ∧ r < n then 1 else 0))) h0 n0 _ T4.heap _
        rw [e4]
        exact ⟨by simp [hc5_3, hc12_6], N0, rfl⟩
    · obtain ⟨T7, X7, e7, st7⟩ := getF X4 hx hZ hown (host := "") (Or.inl (hw _ (List.mem_of_getElem? (i := 8) rfl))) Via.refl e4 hF1 (g := (mkF m 17 #[.val (.ref a), .val (.int n)] [(.ref a), (.int n)])) rfl rfl (hb hby d_prog_40_m_6_17)
      have R8 : ∀ tg, Steps p.tables e below (T7.setTop (mkF m 20 #[.val (.ref a), .val (.int n)] [(.int r), (.int n)])) tg → Steps p.tables e below (T4.setTop (mkF m 12 #[.val (.ref a), .val (.int n)] [(.int z)])) tg := by
        intro tg kt
        refine XS.ifNo X4.here hx rfl (hb hby d_prog_40_m_6_12) rfl ((if0 _ _).trans (feq hc12_6).1) ?_
        show Steps p.tables e below (T4.setTop (mkF m 15 #[.val (.ref a), .val (.int n)] [])) _
        refine XS.iloadN X4.here hx rfl (hb hby d_prog_40_m_6_15) rfl ?_
        show Steps p.tables e below (T4.setTop (mkF m 16 #[.val (.ref a), .val (.int n)] [(.int n)])) _
        refine XS.aloadN X4.here hx rfl (hb hby d_prog_40_m_6_16) rfl rfl ?_
        show Steps p.tables e below (T4.setTop (mkF m 17 #[.val (.ref a), .val (.int n)] [(.ref a), (.int n)])) _
        refine st7 _ ?_
        show Steps p.tables e below (T7.setTop (mkF m 20 #[.val (.ref a), .val (.int n)] [(.int r), (.int n)])) _
        exact kt
      by_cases hc20_9 : r < n
      · obtain ⟨fs, hr, hrun, hended, hW, hsame⟩ := X7.leave (v := some (.int (1 : Int32))) (fun h => by rw [Bd.returns] at h; cases h)
        refine ⟨_, _, pre0 _ (R2 _ (R5 _ (R8 _ ?_))), hrun, hended, _, _, rfl, ?_, ⟨_, rfl⟩, hW, hsame.mono (by decide) (by decide)⟩
        · show Steps p.tables e below (T7.setTop (mkF m 20 #[.val (.ref a), .val (.int n)] [(.int r), (.int n)])) _
          refine XS.icmpNo X7.here hx rfl (hb hby d_prog_40_m_6_20) rfl (tlt hc20_9).2.2.2 ?_
          show Steps p.tables e below (T7.setTop (mkF m 23 #[.val (.ref a), .val (.int n)] [])) _
          refine XS.iconst X7.here hx rfl (hb hby d_prog_40_m_6_23) ?_
          show Steps p.tables e below (T7.setTop (mkF m 24 #[.val (.ref a), .val (.int n)] [(.int (1 : Int32))])) _
          refine XS.goto X7.here hx rfl (pc0 := 24) (pc' := 28) rfl (hb hby d_prog_40_m_6_24) (by decide) (by decide) ?_
          show Steps p.tables e below (T7.setTop (mkF m 28 #[.val (.ref a), .val (.int n)] [(.int (1 : Int32))])) _
          exact retN X7 hx (t := .boolean) Bd.returns (by simp) (hb hby d_prog_40_m_6_28) hr
        · show QV (some (.int (if n = r ∨ ¬ z = 0 ∧ r < n then 1 else 0))) h0 n0 _ T7.heap _
          rw [e7]
          exact ⟨by simp [hc5_3, hc12_6, hc20_9], N0, rfl⟩
      · obtain ⟨fs, hr, hrun, hended, hW, hsame⟩ := X7.leave (v := some (.int (0 : Int32))) (fun h => by rw [Bd.returns] at h; cases h)
        refine ⟨_, _, pre0 _ (R2 _ (R5 _ (R8 _ ?_))), hrun, hended, _, _, rfl, ?_, ⟨_, rfl⟩, hW, hsame.mono (by decide) (by decide)⟩
        · show Steps p.tables e below (T7.setTop (mkF m 20 #[.val (.ref a), .val (.int n)] [(.int r), (.int n)])) _
          refine XS.icmpYes X7.here hx rfl (pc0 := 20) (pc' := 27) rfl (hb hby d_prog_40_m_6_20) rfl (flt hc20_9).2.2.2 (by decide) (by decide) ?_
          show Steps p.tables e below (T7.setTop (mkF m 27 #[.val (.ref a), .val (.int n)] [])) _
          refine XS.iconst X7.here hx rfl (hb hby d_prog_40_m_6_27) ?_
          show Steps p.tables e below (T7.setTop (mkF m 28 #[.val (.ref a), .val (.int n)] [(.int (0 : Int32))])) _
          exact retN X7 hx (t := .boolean) Bd.returns (by simp) (hb hby d_prog_40_m_6_28) hr
        · show QV (some (.int (if n = r ∨ ¬ z = 0 ∧ r < n then 1 else 0))) h0 n0 _ T7.heap _
          rw [e7]
          exact ⟨by simp [hc5_3, hc12_6, hc20_9], N0, rfl⟩
theorem ef_rmE (m : MethodId) (x0 : Int32) (x1 : Int32) : entryFrame m #[(.int x0), (.int x1)] 2 = mkF m 0 #[.val (.int x0), .val (.int x1)] [] := by first | (simp [entryFrame, mkF, argsToLocals, Value.category]; done) | rfl
set_option maxRecDepth 65536 in
set_option maxHeartbeats 40000000 in
theorem rmE (l : Launch) (Z : State) (a0 : Array Value) (hw : ∀ d ∈ tables_1, d.before a0 Z = true) (ws : List Jvm.Cond) (k n : Int32) (h0 : Heap) (n0 : Nat) (Z0 : n0 ≤ h0.size)  :
    MetFree l (⟨"com/example/typebridge/typebridge/NumericContextTakesPinLaw", "expected", "(II)Z"⟩ : MethodName) (head1 (Jvm.Cond.code (⟨"com/example/typebridge/typebridge/NumericContextTakesPinLaw", "expected", "(II)Z"⟩ : MethodName) method_3_code 2 (some .boolean) :: ws) ({ frames := 0, cells := 0, slots := 0, locals := 0 } : Room)) (fun aa_ UU_ => aa_ = #[(.int k), (.int n)] ∧ Z.Warmed39 UU_.vm ∧ UU_.heap = h0) (fun _ _ _ _ _ => True) (fun _ UU_ oo_ UE_ => ∃ vv_ LL_, oo_ = .returned vv_ ∧ QV (some (.int (if k = 0 then (if n = 1 then 1 else 0) else if k = 3 then (if n < 2 then 0 else 1) else (if n = 2 then 1 else 0)))) h0 n0 vv_ UE_.heap LL_ ∧ FrameEnd UU_ oo_ UE_ LL_ ({ frames := 0, cells := 0, slots := 0, locals := 0 } : Room).cells ({ frames := 0, cells := 0, slots := 0, locals := 0 } : Room).slots) := by
  refine MetFree.of_bodySF (plainFor_of_name pn_1) hisR ?_
  intro p e s m args below meth c s₁ Bd hml0 hP hK
  obtain ⟨rfl, hZ, hh⟩ := hP
  have hx := Bd.exec
  have hby := Bd.bytes
  have hml : c.maxLocals = 2 := hml0
  have hown : s.vm.findClass "com/example/typebridge/typebridge/NumericContextTakesPinLaw" = some m.cls := findClass_of_methodNamed Bd.named
  have hnm := (name_of_methodNamed Bd.named Bd.method).1
  have X0 : Stand p l e ({ frames := 0, cells := 0, slots := 0, locals := 0 } : Room) s m #[(.int k), (.int n)] below meth c s₁ [] 0 0 := Stand.of_body Bd
  have e0 : s₁.heap = h0 := by rw [← hh, Bd.state]; rfl
  have N0 := Fr.nil n0
  have pre0 : ∀ tg, Steps p.tables e below (s₁.setTop (mkF m 0 #[.val (.int k), .val (.int n)] [])) tg → Steps p.tables e below (s₁.setTop (entryFrame m #[(.int k), (.int n)] 2)) tg := fun tg kq_ => castTop (ef_rmE m k n) kq_
  have R1 : ∀ tg, Steps p.tables e below (s₁.setTop (mkF m 1 #[.val (.int k), .val (.int n)] [(.int k)])) tg → Steps p.tables e below (s₁.setTop (mkF m 0 #[.val (.int k), .val (.int n)] [])) tg := by
    intro tg kt
    refine XS.iloadN X0.here hx rfl (hb hby d_m_3_0) rfl ?_
    show Steps p.tables e below (s₁.setTop (mkF m 1 #[.val (.int k), .val (.int n)] [(.int k)])) _
    exact kt
  by_cases hc1_2 : k = (0 : Int32)
  · have R3 : ∀ tg, Steps p.tables e below (s₁.setTop (mkF m 6 #[.val (.int k), .val (.int n)] [(.int (1 : Int32)), (.int n)])) tg → Steps p.tables e below (s₁.setTop (mkF m 1 #[.val (.int k), .val (.int n)] [(.int k)])) tg := by
      intro tg kt
      refine XS.ifNo X0.here hx rfl (hb hby d_m_3_1) rfl ((if0 _ _).trans (teq hc1_2).2) ?_
      show Steps p.tables e below (s₁.setTop (mkF m 4 #[.val (.int k), .val (.int n)] [])) _
      refine XS.iloadN X0.here hx rfl (hb hby d_m_3_4) rfl ?_
      show Steps p.tables e below (s₁.setTop (mkF m 5 #[.val (.int k), .val (.int n)] [(.int n)])) _
      refine XS.iconst X0.here hx rfl (hb hby d_m_3_5) ?_
      show Steps p.tables e below (s₁.setTop (mkF m 6 #[.val (.int k), .val (.int n)] [(.int (1 : Int32)), (.int n)])) _
      exact kt
    by_cases hc6_4 : n = (1 : Int32)
    · obtain ⟨fs, hr, hrun, hended, hW, hsame⟩ := X0.leave (v := some (.int (1 : Int32))) (fun h => by rw [Bd.returns] at h; cases h)
      refine ⟨_, _, pre0 _ (R1 _ (R3 _ ?_)), hrun, hended, _, _, rfl, ?_, ⟨_, rfl⟩, hW, hsame.mono (by decide) (by decide)⟩
      · show Steps p.tables e below (s₁.setTop (mkF m 6 #[.val (.int k), .val (.int n)] [(.int (1 : Int32)), (.int n)])) _
        refine XS.icmpNo X0.here hx rfl (hb hby d_m_3_6) rfl (teq hc6_4).2 ?_
        show Steps p.tables e below (s₁.setTop (mkF m 9 #[.val (.int k), .val (.int n)] [])) _
        refine XS.iconst X0.here hx rfl (hb hby d_m_3_9) ?_
        show Steps p.tables e below (s₁.setTop (mkF m 10 #[.val (.int k), .val (.int n)] [(.int (1 : Int32))])) _
        refine XS.goto X0.here hx rfl (pc0 := 10) (pc' := 14) rfl (hb hby d_m_3_10) (by decide) (by decide) ?_
        show Steps p.tables e below (s₁.setTop (mkF m 14 #[.val (.int k), .val (.int n)] [(.int (1 : Int32))])) _
        exact retN X0 hx (t := .boolean) Bd.returns (by simp) (hb hby d_m_3_14) hr
      · show QV (some (.int (if k = 0 then (if n = 1 then 1 else 0) else if k = 3 then (if n < 2 then 0 else 1) else (if n = 2 then 1 else 0)))) h0 n0 _ s₁.heap _
        rw [e0]
        exact ⟨by simp [hc1_2, hc6_4], N0, rfl⟩
    · obtain ⟨fs, hr, hrun, hended, hW, hsame⟩ := X0.leave (v := some (.int (0 : Int32))) (fun h => by rw [Bd.returns] at h; cases h)
      refine ⟨_, _, pre0 _ (R1 _ (R3 _ ?_)), hrun, hended, _, _, rfl, ?_, ⟨_, rfl⟩, hW, hsame.mono (by decide) (by decide)⟩
      · show Steps p.tables e below (s₁.setTop (mkF m 6 #[.val (.int k), .val (.int n)] [(.int (1 : Int32)), (.int n)])) _
        refine XS.icmpYes X0.here hx rfl (pc0 := 6) (pc' := 13) rfl (hb hby d_m_3_6) rfl (feq hc6_4).2 (by decide) (by decide) ?_
        show Steps p.tables e below (s₁.setTop (mkF m 13 #[.val (.int k), .val (.int n)] [])) _
        refine XS.iconst X0.here hx rfl (hb hby d_m_3_13) ?_
        show Steps p.tables e below (s₁.setTop (mkF m 14 #[.val (.int k), .val (.int n)] [(.int (0 : Int32))])) _
        exact retN X0 hx (t := .boolean) Bd.returns (by simp) (hb hby d_m_3_14) hr
      · show QV (some (.int (if k = 0 then (if n = 1 then 1 else 0) else if k = 3 then (if n < 2 then 0 else 1) else (if n = 2 then 1 else 0)))) h0 n0 _ s₁.heap _
        rw [e0]
        exact ⟨by simp [hc1_2, hc6_4], N0, rfl⟩
  · have R5 : ∀ tg, Steps p.tables e below (s₁.setTop (mkF m 17 #[.val (.int k), .val (.int n)] [(.int (3 : Int32)), (.int k)])) tg → Steps p.tables e below (s₁.setTop (mkF m 1 #[.val (.int k), .val (.int n)] [(.int k)])) tg := by
      intro tg kt
      refine XS.ifYes X0.here hx rfl (pc0 := 1) (pc' := 15) rfl (hb hby d_m_3_1) rfl ((if0 _ _).trans (feq hc1_2).2) (by decide) (by decide) ?_
      show Steps p.tables e below (s₁.setTop (mkF m 15 #[.val (.int k), .val (.int n)] [])) _
      refine XS.iloadN X0.here hx rfl (hb hby d_m_3_15) rfl ?_
      show Steps p.tables e below (s₁.setTop (mkF m 16 #[.val (.int k), .val (.int n)] [(.int k)])) _
      refine XS.iconst X0.here hx rfl (hb hby d_m_3_16) ?_
      show Steps p.tables e below (s₁.setTop (mkF m 17 #[.val (.int k), .val (.int n)] [(.int (3 : Int32)), (.int k)])) _
      exact kt
    by_cases hc17_6 : k = (3 : Int32)
    · have R7 : ∀ tg, Steps p.tables e below (s₁.setTop (mkF m 22 #[.val (.int k), .val (.int n)] [(.int (2 : Int32)), (.int n)])) tg → Steps p.tables e below (s₁.setTop (mkF m 17 #[.val (.int k), .val (.int n)] [(.int (3 : Int32)), (.int k)])) tg := by
        intro tg kt
        refine XS.icmpNo X0.here hx rfl (hb hby d_m_3_17) rfl (teq hc17_6).2 ?_
        show Steps p.tables e below (s₁.setTop (mkF m 20 #[.val (.int k), .val (.int n)] [])) _
        refine XS.iloadN X0.here hx rfl (hb hby d_m_3_20) rfl ?_
        show Steps p.tables e below (s₁.setTop (mkF m 21 #[.val (.int k), .val (.int n)] [(.int n)])) _
        refine XS.iconst X0.here hx rfl (hb hby d_m_3_21) ?_
        show Steps p.tables e below (s₁.setTop (mkF m 22 #[.val (.int k), .val (.int n)] [(.int (2 : Int32)), (.int n)])) _
        exact kt
      by_cases hc22_8 : n < (2 : Int32)
      · obtain ⟨fs, hr, hrun, hended, hW, hsame⟩ := X0.leave (v := some (.int (0 : Int32))) (fun h => by rw [Bd.returns] at h; cases h)
        refine ⟨_, _, pre0 _ (R1 _ (R5 _ (R7 _ ?_))), hrun, hended, _, _, rfl, ?_, ⟨_, rfl⟩, hW, hsame.mono (by decide) (by decide)⟩
        · show Steps p.tables e below (s₁.setTop (mkF m 22 #[.val (.int k), .val (.int n)] [(.int (2 : Int32)), (.int n)])) _
          refine XS.icmpYes X0.here hx rfl (pc0 := 22) (pc' := 29) rfl (hb hby d_m_3_22) rfl (tlt hc22_8).1 (by decide) (by decide) ?_
          show Steps p.tables e below (s₁.setTop (mkF m 29 #[.val (.int k), .val (.int n)] [])) _
          refine XS.iconst X0.here hx rfl (hb hby d_m_3_29) ?_
          show Steps p.tables e below (s₁.setTop (mkF m 30 #[.val (.int k), .val (.int n)] [(.int (0 : Int32))])) _
          exact retN X0 hx (t := .boolean) Bd.returns (by simp) (hb hby d_m_3_30) hr
        · show QV (some (.int (if k = 0 then (if n = 1 then 1 else 0) else if k = 3 then (if n < 2 then 0 else 1) else (if n = 2 then 1 else 0)))) h0 n0 _ s₁.heap _
          rw [e0]
          exact ⟨by simp [hc1_2, hc17_6, hc22_8], N0, rfl⟩
      · obtain ⟨fs, hr, hrun, hended, hW, hsame⟩ := X0.leave (v := some (.int (1 : Int32))) (fun h => by rw [Bd.returns] at h; cases h)
        refine ⟨_, _, pre0 _ (R1 _ (R5 _ (R7 _ ?_))), hrun, hended, _, _, rfl, ?_, ⟨_, rfl⟩, hW, hsame.mono (by decide) (by decide)⟩
        · show Steps p.tables e below (s₁.setTop (mkF m 22 #[.val (.int k), .val (.int n)] [(.int (2 : Int32)), (.int n)])) _
          refine XS.icmpNo X0.here hx rfl (hb hby d_m_3_22) rfl (flt hc22_8).1 ?_
          show Steps p.tables e below (s₁.setTop (mkF m 25 #[.val (.int k), .val (.int n)] [])) _
          refine XS.iconst X0.here hx rfl (hb hby d_m_3_25) ?_
          show Steps p.tables e below (s₁.setTop (mkF m 26 #[.val (.int k), .val (.int n)] [(.int (1 : Int32))])) _
          refine XS.goto X0.here hx rfl (pc0 := 26) (pc' := 30) rfl (hb hby d_m_3_26) (by decide) (by decide) ?_
          show Steps p.tables e below (s₁.setTop (mkF m 30 #[.val (.int k), .val (.int n)] [(.int (1 : Int32))])) _
          exact retN X0 hx (t := .boolean) Bd.returns (by simp) (hb hby d_m_3_30) hr
        · show QV (some (.int (if k = 0 then (if n = 1 then 1 else 0) else if k = 3 then (if n < 2 then 0 else 1) else (if n = 2 then 1 else 0)))) h0 n0 _ s₁.heap _
          rw [e0]
          exact ⟨by simp [hc1_2, hc17_6, hc22_8], N0, rfl⟩
    · have R9 : ∀ tg, Steps p.tables e below (s₁.setTop (mkF m 33 #[.val (.int k), .val (.int n)] [(.int (2 : Int32)), (.int n)])) tg → Steps p.tables e below (s₁.setTop (mkF m 17 #[.val (.int k), .val (.int n)] [(.int (3 : Int32)), (.int k)])) tg := by
        intro tg kt
        refine XS.icmpYes X0.here hx rfl (pc0 := 17) (pc' := 31) rfl (hb hby d_m_3_17) rfl (feq hc17_6).2 (by decide) (by decide) ?_
        show Steps p.tables e below (s₁.setTop (mkF m 31 #[.val (.int k), .val (.int n)] [])) _
        refine XS.iloadN X0.here hx rfl (hb hby d_m_3_31) rfl ?_
        show Steps p.tables e below (s₁.setTop (mkF m 32 #[.val (.int k), .val (.int n)] [(.int n)])) _
        refine XS.iconst X0.here hx rfl (hb hby d_m_3_32) ?_
        show Steps p.tables e below (s₁.setTop (mkF m 33 #[.val (.int k), .val (.int n)] [(.int (2 : Int32)), (.int n)])) _
        exact kt
      by_cases hc33_10 : n = (2 : Int32)
      · obtain ⟨fs, hr, hrun, hended, hW, hsame⟩ := X0.leave (v := some (.int (1 : Int32))) (fun h => by rw [Bd.returns] at h; cases h)
        refine ⟨_, _, pre0 _ (R1 _ (R5 _ (R9 _ ?_))), hrun, hended, _, _, rfl, ?_, ⟨_, rfl⟩, hW, hsame.mono (by decide) (by decide)⟩
        · show Steps p.tables e below (s₁.setTop (mkF m 33 #[.val (.int k), .val (.int n)] [(.int (2 : Int32)), (.int n)])) _
          refine XS.icmpNo X0.here hx rfl (hb hby d_m_3_33) rfl (teq hc33_10).2 ?_
          show Steps p.tables e below (s₁.setTop (mkF m 36 #[.val (.int k), .val (.int n)] [])) _
          refine XS.iconst X0.here hx rfl (hb hby d_m_3_36) ?_
          show Steps p.tables e below (s₁.setTop (mkF m 37 #[.val (.int k), .val (.int n)] [(.int (1 : Int32))])) _
          refine XS.goto X0.here hx rfl (pc0 := 37) (pc' := 41) rfl (hb hby d_m_3_37) (by decide) (by decide) ?_
          show Steps p.tables e below (s₁.setTop (mkF m 41 #[.val (.int k), .val (.int n)] [(.int (1 : Int32))])) _
          exact retN X0 hx (t := .boolean) Bd.returns (by simp) (hb hby d_m_3_41) hr
        · show QV (some (.int (if k = 0 then (if n = 1 then 1 else 0) else if k = 3 then (if n < 2 then 0 else 1) else (if n = 2 then 1 else 0)))) h0 n0 _ s₁.heap _
          rw [e0]
          exact ⟨by simp [hc1_2, hc17_6, hc33_10], N0, rfl⟩
      · obtain ⟨fs, hr, hrun, hended, hW, hsame⟩ := X0.leave (v := some (.int (0 : Int32))) (fun h => by rw [Bd.returns] at h; cases h)
        refine ⟨_, _, pre0 _ (R1 _ (R5 _ (R9 _ ?_))), hrun, hended, _, _, rfl, ?_, ⟨_, rfl⟩, hW, hsame.mono (by decide) (by decide)⟩
        · show Steps p.tables e below (s₁.setTop (mkF m 33 #[.val (.int k), .val (.int n)] [(.int (2 : Int32)), (.int n)])) _
          refine XS.icmpYes X0.here hx rfl (pc0 := 33) (pc' := 40) rfl (hb hby d_m_3_33) rfl (feq hc33_10).2 (by decide) (by decide) ?_
          show Steps p.tables e below (s₁.setTop (mkF m 40 #[.val (.int k), .val (.int n)] [])) _
          refine XS.iconst X0.here hx rfl (hb hby d_m_3_40) ?_
          show Steps p.tables e below (s₁.setTop (mkF m 41 #[.val (.int k), .val (.int n)] [(.int (0 : Int32))])) _
          exact retN X0 hx (t := .boolean) Bd.returns (by simp) (hb hby d_m_3_41) hr
        · show QV (some (.int (if k = 0 then (if n = 1 then 1 else 0) else if k = 3 then (if n < 2 then 0 else 1) else (if n = 2 then 1 else 0)))) h0 n0 _ s₁.heap _
          rw [e0]
          exact ⟨by simp [hc1_2, hc17_6, hc33_10], N0, rfl⟩
theorem ef_rm0 (m : MethodId) (x0 : Int32) (x1 : Int32) (x2 : Int32) : entryFrame m #[(.int x0), (.int x1), (.int x2)] maxLocals = mkF m 0 #[.val (.int x0), .val (.int x1), .val (.int x2), .unset, .unset, .unset, .unset, .unset] [] := by first | (simp [entryFrame, mkF, argsToLocals, Value.category, maxLocals]; done) | rfl
set_option maxRecDepth 65536 in
set_option maxHeartbeats 40000000 in
theorem rm0 (l : Launch) (Z : State) (a0 : Array Value) (hw : ∀ d ∈ tables_1, d.before a0 Z = true) (ws : List Jvm.Cond) (p1 p2 p3 : Int32) (a_UNARY : Addr) (a_BINARY : Addr) (a_CHOICE : Addr) (a_SHIFT : Addr) (h0 : Heap) (n0 : Nat) (Z0 : n0 ≤ h0.size) (S_UNARY : Sta Z h0 "com/example/typebridge/typebridge/NumericContext" "UNARY" "Lcom/example/typebridge/typebridge/NumericContext;" (.ref a_UNARY)) (E_UNARY : Exa Z h0 a_UNARY "com/example/typebridge/typebridge/NumericContext") (F_UNARY_operands : Fld Z h0 a_UNARY "com/example/typebridge/typebridge/NumericContext" "operands" "I" (.int (1 : Int32))) (F_UNARY_orMore : Fld Z h0 a_UNARY "com/example/typebridge/typebridge/NumericContext" "orMore" "Z" (.int (0 : Int32))) (S_BINARY : Sta Z h0 "com/example/typebridge/typebridge/NumericContext" "BINARY" "Lcom/example/typebridge/typebridge/NumericContext;" (.ref a_BINARY)) (E_BINARY : Exa Z h0 a_BINARY "com/example/typebridge/typebridge/NumericContext") (F_BINARY_operands : Fld Z h0 a_BINARY "com/example/typebridge/typebridge/NumericContext" "operands" "I" (.int (2 : Int32))) (F_BINARY_orMore : Fld Z h0 a_BINARY "com/example/typebridge/typebridge/NumericContext" "orMore" "Z" (.int (0 : Int32))) (S_CHOICE : Sta Z h0 "com/example/typebridge/typebridge/NumericContext" "CHOICE" "Lcom/example/typebridge/typebridge/NumericContext;" (.ref a_CHOICE)) (E_CHOICE : Exa Z h0 a_CHOICE "com/example/typebridge/typebridge/NumericContext") (F_CHOICE_operands : Fld Z h0 a_CHOICE "com/example/typebridge/typebridge/NumericContext" "operands" "I" (.int (2 : Int32))) (F_CHOICE_orMore : Fld Z h0 a_CHOICE "com/example/typebridge/typebridge/NumericContext" "orMore" "Z" (.int (1 : Int32))) (S_SHIFT : Sta Z h0 "com/example/typebridge/typebridge/NumericContext" "SHIFT" "Lcom/example/typebridge/typebridge/NumericContext;" (.ref a_SHIFT)) (E_SHIFT : Exa Z h0 a_SHIFT "com/example/typebridge/typebridge/NumericContext") (F_SHIFT_operands : Fld Z h0 a_SHIFT "com/example/typebridge/typebridge/NumericContext" "operands" "I" (.int (2 : Int32))) (F_SHIFT_orMore : Fld Z h0 a_SHIFT "com/example/typebridge/typebridge/NumericContext" "orMore" "Z" (.int (0 : Int32))) :
    MetFree l x (head1 (Jvm.Cond.code x code maxLocals ret :: ws) room_1) (fun aa_ UU_ => aa_ = #[(.int p1), (.int p2), (.int p3)] ∧ Z.Warmed39 UU_.vm ∧ UU_.heap = h0) (fun _ _ _ _ _ => True) (fun _ UU_ oo_ UE_ => ∃ vv_ LL_, oo_ = .returned vv_ ∧ Q0 n0 vv_ UE_.heap LL_ ∧ FrameEnd UU_ oo_ UE_ LL_ room_1.cells room_1.slots) := by
  refine MetFree.of_bodySF (plainFor_of_name pn_1) hisR ?_
  intro p e s m args below meth c s₁ Bd hml0 hP hK
  obtain ⟨rfl, hZ, hh⟩ := hP
  have hx := Bd.exec
  have hby := Bd.bytes
  have hml : c.maxLocals = 8 := hml0
  have hown : s.vm.findClass "com/example/typebridge/typebridge/NumericContextTakesPinLaw" = some m.cls := findClass_of_methodNamed Bd.named
  have hnm := (name_of_methodNamed Bd.named Bd.method).1
  have X0 : Stand p l e room_1 s m #[(.int p1), (.int p2), (.int p3)] below meth c s₁ [] 0 0 := Stand.of_body Bd
  have e0 : s₁.heap = h0 := by rw [← hh, Bd.state]; rfl
  have N0 := Fr.nil n0
  have pre0 : ∀ tg, Steps p.tables e below (s₁.setTop (mkF m 0 #[.val (.int p1), .val (.int p2), .val (.int p3), .unset, .unset, .unset, .unset, .unset] [])) tg → Steps p.tables e below (s₁.setTop (entryFrame m #[(.int p1), (.int p2), (.int p3)] maxLocals)) tg := fun tg kq_ => castTop (ef_rm0 m p1 p2 p3) kq_
  have R1 : ∀ tg, Steps p.tables e below (s₁.setTop (mkF m 4 #[.val (.int p1), .val (.int p2), .val (.int p3), .val (.int (p1 &&& (3 : Int32))), .unset, .unset, .unset, .unset] [])) tg → Steps p.tables e below (s₁.setTop (mkF m 0 #[.val (.int p1), .val (.int p2), .val (.int p3), .unset, .unset, .unset, .unset, .unset] [])) tg := by
    intro tg kt
    refine XS.iloadN X0.here hx rfl (hb hby at_0) rfl ?_
    show Steps p.tables e below (s₁.setTop (mkF m 1 #[.val (.int p1), .val (.int p2), .val (.int p3), .unset, .unset, .unset, .unset, .unset] [(.int p1)])) _
    refine XS.iconst X0.here hx rfl (hb hby at_1) ?_
    show Steps p.tables e below (s₁.setTop (mkF m 2 #[.val (.int p1), .val (.int p2), .val (.int p3), .unset, .unset, .unset, .unset, .unset] [(.int (3 : Int32)), (.int p1)])) _
    refine XS.iand X0.here hx rfl (hb hby at_2) rfl ?_
    show Steps p.tables e below (s₁.setTop (mkF m 3 #[.val (.int p1), .val (.int p2), .val (.int p3), .unset, .unset, .unset, .unset, .unset] [(.int (p1 &&& (3 : Int32)))])) _
    refine XS.istoreN X0.here hx rfl (hb hby at_3) rfl (l' := #[.val (.int p1), .val (.int p2), .val (.int p3), .val (.int (p1 &&& (3 : Int32))), .unset, .unset, .unset, .unset]) rfl ?_
    show Steps p.tables e below (s₁.setTop (mkF m 4 #[.val (.int p1), .val (.int p2), .val (.int p3), .val (.int (p1 &&& (3 : Int32))), .unset, .unset, .unset, .unset] [])) _
    exact kt
  rcases own_k p1 with hk2 | hk2 | hk2 | hk2
  · have R3 : ∀ tg, Steps p.tables e below (s₁.setTop (mkF m 4 #[.val (.int p1), .val (.int p2), .val (.int p3), .val (.int (0 : Int32)), .unset, .unset, .unset, .unset] [])) tg → Steps p.tables e below (s₁.setTop (mkF m 4 #[.val (.int p1), .val (.int p2), .val (.int p3), .val (.int (p1 &&& (3 : Int32))), .unset, .unset, .unset, .unset] [])) tg := fun tg kt => by rw [hk2]; exact kt
    obtain ⟨T4, X4, e4, st4⟩ := getS2 X0 hx hZ hown (host := "") (Or.inl (hw _ (List.mem_of_getElem? (i := 0) rfl))) Via.refl e0 S_UNARY (g := (mkF m 8 #[.val (.int p1), .val (.int p2), .val (.int p3), .val (.int (0 : Int32)), .unset, .unset, .unset, .unset] [])) rfl (hb hby at_8)
    obtain ⟨cq5, kq5, q5a, q5b, q5c⟩ := isOf hZ e4 E_UNARY
    obtain ⟨_, _, ⟨T5, L5, k5, n5⟩, -, X5, ⟨Lc5, hQ5, l5, y5, z5⟩, st5⟩ := X4.virtualBack hx (y := (⟨"com/example/typebridge/typebridge/NumericContext", "takes", "(I)Z"⟩ : MethodName)) (z := (⟨"com/example/typebridge/typebridge/NumericContext", "takes", "(I)Z"⟩ : MethodName)) hown (mvT hZ (hw _ (List.mem_of_getElem? (i := 3) rfl))) (mvT hZ (hw _ (List.mem_of_getElem? (i := 4) rfl))) (notFace_of_selects (args := #[]) (mvT hZ (hw _ (List.mem_of_getElem? (i := 6) rfl)))) (mvT hZ (hw _ (List.mem_of_getElem? (i := 6) rfl))) (mvT hZ (hw _ (List.mem_of_getElem? (i := 5) rfl))) (by decide) (backOf (W := 0) (rm1 l Z a0 hw [] a_UNARY p2 (1 : Int32) (0 : Int32) h0 n0 Z0 F_UNARY_operands F_UNARY_orMore) hZ (hw _ (List.mem_of_getElem? (i := 7) rfl)) (hw _ (List.mem_of_getElem? (i := 1) rfl)) (by decide) (by decide)) q5a q5c (g := (mkF m 58 #[.val (.int p1), .val (.int p2), .val (.int p3), .val (.int (0 : Int32)), .val (.ref a_UNARY), .val (.int ((p3 &&& (7 : Int32)) - (2 : Int32))), .unset, .unset] [(.int p2), (.ref a_UNARY)])) rfl (by rw [hml]; rfl) (Steps.refl _) (argsL := [(.int p2)]) (rest := []) (lenOf pd_0 rfl) rfl (by show 2 * 0 + _ ≤ _; exact Nat.le_of_eq rfl) (hb hby at_58) (fun _ _ => ⟨rfl, e4, (by decide : 0 + 0 ≤ _), (by decide : 0 + 0 ≤ _)⟩)
    dsimp only [Pt.U, Pt.locs, Pt.cells, Pt.slots] at X5 l5 y5 z5 st5 hQ5
    subst l5 y5 z5
    obtain ⟨hv5, N5q, r5⟩ := hQ5
    rw [own_t0] at hv5
    subst hv5
    have N5 := Fr.app N0 N5q
    obtain ⟨_, _, ⟨T6, L6, k6, n6⟩, -, X6, ⟨Lc6, hQ6, l6, y6, z6⟩, st6⟩ := Jvm.LawKit.callS X5 hx (y := (⟨"com/example/typebridge/typebridge/NumericContextTakesPinLaw", "expected", "(II)Z"⟩ : MethodName)) hown (mvT hZ (hw _ (List.mem_of_getElem? (i := 12) rfl))) (mvT hZ (hw _ (List.mem_of_getElem? (i := 13) rfl))) (mvT hZ (hw _ (List.mem_of_getElem? (i := 14) rfl))) (mvT hZ (hw _ (List.mem_of_getElem? (i := 15) rfl))) (by decide) (backOf (W := 1) (rmE l Z a0 hw [] (0 : Int32) p2 h0 n0 Z0) hZ (hw _ (List.mem_of_getElem? (i := 15) rfl)) (hw _ (List.mem_of_getElem? (i := 14) rfl)) (by decide) (by decide)) (g := (mkF m 63 #[.val (.int p1), .val (.int p2), .val (.int p3), .val (.int (0 : Int32)), .val (.ref a_UNARY), .val (.int ((p3 &&& (7 : Int32)) - (2 : Int32))), .unset, .unset] [(.int p2), (.int (0 : Int32)), (.int (if p2 = 1 then 1 else 0))])) rfl (by rw [hml]; rfl) (argsL := [(.int (0 : Int32)), (.int p2)]) (rest := [(.int (if p2 = 1 then 1 else 0))]) (lenOf pd_1 rfl) rfl (by show 2 * 0 + _ ≤ _; exact Nat.le_of_eq rfl) (hb hby at_63) (fun _ _ => ⟨rfl, r5, (by decide : 0 + 0 ≤ _), (by decide : 0 + 0 ≤ _)⟩)
    dsimp only [Pt.U, Pt.locs, Pt.cells, Pt.slots] at X6 l6 y6 z6 st6 hQ6
    subst l6 y6 z6
    obtain ⟨hv6, N6q, r6⟩ := hQ6
    rw [if_pos rfl] at hv6
    subst hv6
    have N6 := Fr.app N5 N6q
    obtain ⟨cq7, kq7, q7a, q7b, q7c⟩ := isOf hZ r6 E_UNARY
    obtain ⟨_, _, ⟨T7, L7, k7, n7⟩, -, X7, ⟨Lc7, hQ7, l7, y7, z7⟩, st7⟩ := X6.virtualBack hx (y := (⟨"com/example/typebridge/typebridge/NumericContext", "takes", "(I)Z"⟩ : MethodName)) (z := (⟨"com/example/typebridge/typebridge/NumericContext", "takes", "(I)Z"⟩ : MethodName)) hown (mvT hZ (hw _ (List.mem_of_getElem? (i := 3) rfl))) (mvT hZ (hw _ (List.mem_of_getElem? (i := 4) rfl))) (notFace_of_selects (args := #[]) (mvT hZ (hw _ (List.mem_of_getElem? (i := 6) rfl)))) (mvT hZ (hw _ (List.mem_of_getElem? (i := 6) rfl))) (mvT hZ (hw _ (List.mem_of_getElem? (i := 5) rfl))) (by decide) (backOf (W := 0) (rm1 l Z a0 hw [] a_UNARY ((p3 &&& (7 : Int32)) - (2 : Int32)) (1 : Int32) (0 : Int32) h0 n0 Z0 F_UNARY_operands F_UNARY_orMore) hZ (hw _ (List.mem_of_getElem? (i := 7) rfl)) (hw _ (List.mem_of_getElem? (i := 1) rfl)) (by decide) (by decide)) q7a q7c (g := (mkF m 80 #[.val (.int p1), .val (.int p2), .val (.int p3), .val (.int (0 : Int32)), .val (.ref a_UNARY), .val (.int ((p3 &&& (7 : Int32)) - (2 : Int32))), .val (.int (1 : Int32)), .unset] [(.int ((p3 &&& (7 : Int32)) - (2 : Int32))), (.ref a_UNARY)])) rfl (by rw [hml]; rfl) (Steps.refl _) (argsL := [(.int ((p3 &&& (7 : Int32)) - (2 : Int32)))]) (rest := []) (lenOf pd_0 rfl) rfl (by show 2 * 0 + _ ≤ _; exact Nat.le_of_eq rfl) (hb hby at_80) (fun _ _ => ⟨rfl, r6, (by decide : 0 + 0 ≤ _), (by decide : 0 + 0 ≤ _)⟩)
    dsimp only [Pt.U, Pt.locs, Pt.cells, Pt.slots] at X7 l7 y7 z7 st7 hQ7
    subst l7 y7 z7
    obtain ⟨hv7, N7q, r7⟩ := hQ7
    rw [own_t0] at hv7
    subst hv7
    have N7 := Fr.app N6 N7q
    obtain ⟨_, _, ⟨T8, L8, k8, n8⟩, -, X8, ⟨Lc8, hQ8, l8, y8, z8⟩, st8⟩ := Jvm.LawKit.callS X7 hx (y := (⟨"com/example/typebridge/typebridge/NumericContextTakesPinLaw", "expected", "(II)Z"⟩ : MethodName)) hown (mvT hZ (hw _ (List.mem_of_getElem? (i := 12) rfl))) (mvT hZ (hw _ (List.mem_of_getElem? (i := 13) rfl))) (mvT hZ (hw _ (List.mem_of_getElem? (i := 14) rfl))) (mvT hZ (hw _ (List.mem_of_getElem? (i := 15) rfl))) (by decide) (backOf (W := 1) (rmE l Z a0 hw [] (0 : Int32) ((p3 &&& (7 : Int32)) - (2 : Int32)) h0 n0 Z0) hZ (hw _ (List.mem_of_getElem? (i := 15) rfl)) (hw _ (List.mem_of_getElem? (i := 14) rfl)) (by decide) (by decide)) (g := (mkF m 86 #[.val (.int p1), .val (.int p2), .val (.int p3), .val (.int (0 : Int32)), .val (.ref a_UNARY), .val (.int ((p3 &&& (7 : Int32)) - (2 : Int32))), .val (.int (1 : Int32)), .unset] [(.int ((p3 &&& (7 : Int32)) - (2 : Int32))), (.int (0 : Int32)), (.int (if ((p3 &&& (7 : Int32)) - (2 : Int32)) = 1 then 1 else 0))])) rfl (by rw [hml]; rfl) (argsL := [(.int (0 : Int32)), (.int ((p3 &&& (7 : Int32)) - (2 : Int32)))]) (rest := [(.int (if ((p3 &&& (7 : Int32)) - (2 : Int32)) = 1 then 1 else 0))]) (lenOf pd_1 rfl) rfl (by show 2 * 0 + _ ≤ _; exact Nat.le_of_eq rfl) (hb hby at_86) (fun _ _ => ⟨rfl, r7, (by decide : 0 + 0 ≤ _), (by decide : 0 + 0 ≤ _)⟩)
    dsimp only [Pt.U, Pt.locs, Pt.cells, Pt.slots] at X8 l8 y8 z8 st8 hQ8
    subst l8 y8 z8
    obtain ⟨hv8, N8q, r8⟩ := hQ8
    rw [if_pos rfl] at hv8
    subst hv8
    have N8 := Fr.app N7 N8q
    obtain ⟨fs, hr, hrun, hended, hW, hsame⟩ := X8.leave (v := some (.int (1 : Int32))) (fun h => by rw [Bd.returns] at h; cases h)
    refine ⟨_, _, pre0 _ (R1 _ (R3 _ ?_)), hrun, hended, _, _, rfl, ?_, ⟨_, rfl⟩, hW, hsame.mono (by decide) (by decide)⟩
    · show Steps p.tables e below (s₁.setTop (mkF m 4 #[.val (.int p1), .val (.int p2), .val (.int p3), .val (.int (0 : Int32)), .unset, .unset, .unset, .unset] [])) _
      refine XS.iloadN X0.here hx rfl (hb hby at_4) rfl ?_
      show Steps p.tables e below (s₁.setTop (mkF m 5 #[.val (.int p1), .val (.int p2), .val (.int p3), .val (.int (0 : Int32)), .unset, .unset, .unset, .unset] [(.int (0 : Int32))])) _
      refine XS.ifNo X0.here hx rfl (hb hby at_5) rfl ((if0 _ _).trans (teq (by decide : (0 : Int32) = (0 : Int32))).2) ?_
      show Steps p.tables e below (s₁.setTop (mkF m 8 #[.val (.int p1), .val (.int p2), .val (.int p3), .val (.int (0 : Int32)), .unset, .unset, .unset, .unset] [])) _
      refine st4 _ ?_
      show Steps p.tables e below (T4.setTop (mkF m 11 #[.val (.int p1), .val (.int p2), .val (.int p3), .val (.int (0 : Int32)), .unset, .unset, .unset, .unset] [(.ref a_UNARY)])) _
      refine XS.astore X4.here hx rfl (hb hby at_11) rfl rfl (l' := #[.val (.int p1), .val (.int p2), .val (.int p3), .val (.int (0 : Int32)), .val (.ref a_UNARY), .unset, .unset, .unset]) rfl ?_
      show Steps p.tables e below (T4.setTop (mkF m 13 #[.val (.int p1), .val (.int p2), .val (.int p3), .val (.int (0 : Int32)), .val (.ref a_UNARY), .unset, .unset, .unset] [])) _
      refine XS.goto X4.here hx rfl (pc0 := 13) (pc' := 47) rfl (hb hby at_13) (by decide) (by decide) ?_
      show Steps p.tables e below (T4.setTop (mkF m 47 #[.val (.int p1), .val (.int p2), .val (.int p3), .val (.int (0 : Int32)), .val (.ref a_UNARY), .unset, .unset, .unset] [])) _
      refine XS.iloadN X4.here hx rfl (hb hby at_47) rfl ?_
      show Steps p.tables e below (T4.setTop (mkF m 48 #[.val (.int p1), .val (.int p2), .val (.int p3), .val (.int (0 : Int32)), .val (.ref a_UNARY), .unset, .unset, .unset] [(.int p3)])) _
      refine XS.bipush X4.here hx rfl (hb hby at_48) ?_
      show Steps p.tables e below (T4.setTop (mkF m 50 #[.val (.int p1), .val (.int p2), .val (.int p3), .val (.int (0 : Int32)), .val (.ref a_UNARY), .unset, .unset, .unset] [(.int (7 : Int32)), (.int p3)])) _
      refine XS.iand X4.here hx rfl (hb hby at_50) rfl ?_
      show Steps p.tables e below (T4.setTop (mkF m 51 #[.val (.int p1), .val (.int p2), .val (.int p3), .val (.int (0 : Int32)), .val (.ref a_UNARY), .unset, .unset, .unset] [(.int (p3 &&& (7 : Int32)))])) _
      refine XS.iconst X4.here hx rfl (hb hby at_51) ?_
      show Steps p.tables e below (T4.setTop (mkF m 52 #[.val (.int p1), .val (.int p2), .val (.int p3), .val (.int (0 : Int32)), .val (.ref a_UNARY), .unset, .unset, .unset] [(.int (2 : Int32)), (.int (p3 &&& (7 : Int32)))])) _
      refine XS.isub X4.here hx rfl (hb hby at_52) rfl ?_
      show Steps p.tables e below (T4.setTop (mkF m 53 #[.val (.int p1), .val (.int p2), .val (.int p3), .val (.int (0 : Int32)), .val (.ref a_UNARY), .unset, .unset, .unset] [(.int ((p3 &&& (7 : Int32)) - (2 : Int32)))])) _
      refine XS.istore X4.here hx rfl (hb hby at_53) rfl (l' := #[.val (.int p1), .val (.int p2), .val (.int p3), .val (.int (0 : Int32)), .val (.ref a_UNARY), .val (.int ((p3 &&& (7 : Int32)) - (2 : Int32))), .unset, .unset]) rfl ?_
      show Steps p.tables e below (T4.setTop (mkF m 55 #[.val (.int p1), .val (.int p2), .val (.int p3), .val (.int (0 : Int32)), .val (.ref a_UNARY), .val (.int ((p3 &&& (7 : Int32)) - (2 : Int32))), .unset, .unset] [])) _
      refine XS.aload X4.here hx rfl (hb hby at_55) rfl rfl ?_
      show Steps p.tables e below (T4.setTop (mkF m 57 #[.val (.int p1), .val (.int p2), .val (.int p3), .val (.int (0 : Int32)), .val (.ref a_UNARY), .val (.int ((p3 &&& (7 : Int32)) - (2 : Int32))), .unset, .unset] [(.ref a_UNARY)])) _
      refine XS.iloadN X4.here hx rfl (hb hby at_57) rfl ?_
      show Steps p.tables e below (T4.setTop (mkF m 58 #[.val (.int p1), .val (.int p2), .val (.int p3), .val (.int (0 : Int32)), .val (.ref a_UNARY), .val (.int ((p3 &&& (7 : Int32)) - (2 : Int32))), .unset, .unset] [(.int p2), (.ref a_UNARY)])) _
      refine st5.trans ?_
      show Steps p.tables e below (T5.setTop (mkF m 61 #[.val (.int p1), .val (.int p2), .val (.int p3), .val (.int (0 : Int32)), .val (.ref a_UNARY), .val (.int ((p3 &&& (7 : Int32)) - (2 : Int32))), .unset, .unset] [(.int (if p2 = 1 then 1 else 0))])) _
      refine XS.iloadN X5.here hx rfl (hb hby at_61) rfl ?_
      show Steps p.tables e below (T5.setTop (mkF m 62 #[.val (.int p1), .val (.int p2), .val (.int p3), .val (.int (0 : Int32)), .val (.ref a_UNARY), .val (.int ((p3 &&& (7 : Int32)) - (2 : Int32))), .unset, .unset] [(.int (0 : Int32)), (.int (if p2 = 1 then 1 else 0))])) _
      refine XS.iloadN X5.here hx rfl (hb hby at_62) rfl ?_
      show Steps p.tables e below (T5.setTop (mkF m 63 #[.val (.int p1), .val (.int p2), .val (.int p3), .val (.int (0 : Int32)), .val (.ref a_UNARY), .val (.int ((p3 &&& (7 : Int32)) - (2 : Int32))), .unset, .unset] [(.int p2), (.int (0 : Int32)), (.int (if p2 = 1 then 1 else 0))])) _
      refine st6 _ ?_
      show Steps p.tables e below (T6.setTop (mkF m 66 #[.val (.int p1), .val (.int p2), .val (.int p3), .val (.int (0 : Int32)), .val (.ref a_UNARY), .val (.int ((p3 &&& (7 : Int32)) - (2 : Int32))), .unset, .unset] [(.int (if p2 = 1 then 1 else 0)), (.int (if p2 = 1 then 1 else 0))])) _
      refine XS.icmpNo X6.here hx rfl (hb hby at_66) rfl (teq rfl).2 ?_
      show Steps p.tables e below (T6.setTop (mkF m 69 #[.val (.int p1), .val (.int p2), .val (.int p3), .val (.int (0 : Int32)), .val (.ref a_UNARY), .val (.int ((p3 &&& (7 : Int32)) - (2 : Int32))), .unset, .unset] [])) _
      refine XS.iconst X6.here hx rfl (hb hby at_69) ?_
      show Steps p.tables e below (T6.setTop (mkF m 70 #[.val (.int p1), .val (.int p2), .val (.int p3), .val (.int (0 : Int32)), .val (.ref a_UNARY), .val (.int ((p3 &&& (7 : Int32)) - (2 : Int32))), .unset, .unset] [(.int (1 : Int32))])) _
      refine XS.goto X6.here hx rfl (pc0 := 70) (pc' := 74) rfl (hb hby at_70) (by decide) (by decide) ?_
      show Steps p.tables e below (T6.setTop (mkF m 74 #[.val (.int p1), .val (.int p2), .val (.int p3), .val (.int (0 : Int32)), .val (.ref a_UNARY), .val (.int ((p3 &&& (7 : Int32)) - (2 : Int32))), .unset, .unset] [(.int (1 : Int32))])) _
      refine XS.istore X6.here hx rfl (hb hby at_74) rfl (l' := #[.val (.int p1), .val (.int p2), .val (.int p3), .val (.int (0 : Int32)), .val (.ref a_UNARY), .val (.int ((p3 &&& (7 : Int32)) - (2 : Int32))), .val (.int (1 : Int32)), .unset]) rfl ?_
      show Steps p.tables e below (T6.setTop (mkF m 76 #[.val (.int p1), .val (.int p2), .val (.int p3), .val (.int (0 : Int32)), .val (.ref a_UNARY), .val (.int ((p3 &&& (7 : Int32)) - (2 : Int32))), .val (.int (1 : Int32)), .unset] [])) _
      refine XS.aload X6.here hx rfl (hb hby at_76) rfl rfl ?_
      show Steps p.tables e below (T6.setTop (mkF m 78 #[.val (.int p1), .val (.int p2), .val (.int p3), .val (.int (0 : Int32)), .val (.ref a_UNARY), .val (.int ((p3 &&& (7 : Int32)) - (2 : Int32))), .val (.int (1 : Int32)), .unset] [(.ref a_UNARY)])) _
      refine XS.iload X6.here hx rfl (hb hby at_78) rfl ?_
      show Steps p.tables e below (T6.setTop (mkF m 80 #[.val (.int p1), .val (.int p2), .val (.int p3), .val (.int (0 : Int32)), .val (.ref a_UNARY), .val (.int ((p3 &&& (7 : Int32)) - (2 : Int32))), .val (.int (1 : Int32)), .unset] [(.int ((p3 &&& (7 : Int32)) - (2 : Int32))), (.ref a_UNARY)])) _
      refine st7.trans ?_
      show Steps p.tables e below (T7.setTop (mkF m 83 #[.val (.int p1), .val (.int p2), .val (.int p3), .val (.int (0 : Int32)), .val (.ref a_UNARY), .val (.int ((p3 &&& (7 : Int32)) - (2 : Int32))), .val (.int (1 : Int32)), .unset] [(.int (if ((p3 &&& (7 : Int32)) - (2 : Int32)) = 1 then 1 else 0))])) _
      refine XS.iloadN X7.here hx rfl (hb hby at_83) rfl ?_
      show Steps p.tables e below (T7.setTop (mkF m 84 #[.val (.int p1), .val (.int p2), .val (.int p3), .val (.int (0 : Int32)), .val (.ref a_UNARY), .val (.int ((p3 &&& (7 : Int32)) - (2 : Int32))), .val (.int (1 : Int32)), .unset] [(.int (0 : Int32)), (.int (if ((p3 &&& (7 : Int32)) - (2 : Int32)) = 1 then 1 else 0))])) _
      refine XS.iload X7.here hx rfl (hb hby at_84) rfl ?_
      show Steps p.tables e below (T7.setTop (mkF m 86 #[.val (.int p1), .val (.int p2), .val (.int p3), .val (.int (0 : Int32)), .val (.ref a_UNARY), .val (.int ((p3 &&& (7 : Int32)) - (2 : Int32))), .val (.int (1 : Int32)), .unset] [(.int ((p3 &&& (7 : Int32)) - (2 : Int32))), (.int (0 : Int32)), (.int (if ((p3 &&& (7 : Int32)) - (2 : Int32)) = 1 then 1 else 0))])) _
      refine st8 _ ?_
      show Steps p.tables e below (T8.setTop (mkF m 89 #[.val (.int p1), .val (.int p2), .val (.int p3), .val (.int (0 : Int32)), .val (.ref a_UNARY), .val (.int ((p3 &&& (7 : Int32)) - (2 : Int32))), .val (.int (1 : Int32)), .unset] [(.int (if ((p3 &&& (7 : Int32)) - (2 : Int32)) = 1 then 1 else 0)), (.int (if ((p3 &&& (7 : Int32)) - (2 : Int32)) = 1 then 1 else 0))])) _
      refine XS.icmpNo X8.here hx rfl (hb hby at_89) rfl (teq rfl).2 ?_
      show Steps p.tables e below (T8.setTop (mkF m 92 #[.val (.int p1), .val (.int p2), .val (.int p3), .val (.int (0 : Int32)), .val (.ref a_UNARY), .val (.int ((p3 &&& (7 : Int32)) - (2 : Int32))), .val (.int (1 : Int32)), .unset] [])) _
      refine XS.iconst X8.here hx rfl (hb hby at_92) ?_
      show Steps p.tables e below (T8.setTop (mkF m 93 #[.val (.int p1), .val (.int p2), .val (.int p3), .val (.int (0 : Int32)), .val (.ref a_UNARY), .val (.int ((p3 &&& (7 : Int32)) - (2 : Int32))), .val (.int (1 : Int32)), .unset] [(.int (1 : Int32))])) _
      refine XS.goto X8.here hx rfl (pc0 := 93) (pc' := 97) rfl (hb hby at_93) (by decide) (by decide) ?_
      show Steps p.tables e below (T8.setTop (mkF m 97 #[.val (.int p1), .val (.int p2), .val (.int p3), .val (.int (0 : Int32)), .val (.ref a_UNARY), .val (.int ((p3 &&& (7 : Int32)) - (2 : Int32))), .val (.int (1 : Int32)), .unset] [(.int (1 : Int32))])) _
      refine XS.istore X8.here hx rfl (hb hby at_97) rfl (l' := #[.val (.int p1), .val (.int p2), .val (.int p3), .val (.int (0 : Int32)), .val (.ref a_UNARY), .val (.int ((p3 &&& (7 : Int32)) - (2 : Int32))), .val (.int (1 : Int32)), .val (.int (1 : Int32))]) rfl ?_
      show Steps p.tables e below (T8.setTop (mkF m 99 #[.val (.int p1), .val (.int p2), .val (.int p3), .val (.int (0 : Int32)), .val (.ref a_UNARY), .val (.int ((p3 &&& (7 : Int32)) - (2 : Int32))), .val (.int (1 : Int32)), .val (.int (1 : Int32))] [])) _
      refine XS.iload X8.here hx rfl (hb hby at_99) rfl ?_
      show Steps p.tables e below (T8.setTop (mkF m 101 #[.val (.int p1), .val (.int p2), .val (.int p3), .val (.int (0 : Int32)), .val (.ref a_UNARY), .val (.int ((p3 &&& (7 : Int32)) - (2 : Int32))), .val (.int (1 : Int32)), .val (.int (1 : Int32))] [(.int (1 : Int32))])) _
      refine XS.ifNo X8.here hx rfl (hb hby at_101) rfl ((if0 _ _).trans (feq (by decide : ¬ ((1 : Int32) = (0 : Int32)))).1) ?_
      show Steps p.tables e below (T8.setTop (mkF m 104 #[.val (.int p1), .val (.int p2), .val (.int p3), .val (.int (0 : Int32)), .val (.ref a_UNARY), .val (.int ((p3 &&& (7 : Int32)) - (2 : Int32))), .val (.int (1 : Int32)), .val (.int (1 : Int32))] [])) _
      refine XS.iload X8.here hx rfl (hb hby at_104) rfl ?_
      show Steps p.tables e below (T8.setTop (mkF m 106 #[.val (.int p1), .val (.int p2), .val (.int p3), .val (.int (0 : Int32)), .val (.ref a_UNARY), .val (.int ((p3 &&& (7 : Int32)) - (2 : Int32))), .val (.int (1 : Int32)), .val (.int (1 : Int32))] [(.int (1 : Int32))])) _
      refine XS.ifNo X8.here hx rfl (hb hby at_106) rfl ((if0 _ _).trans (feq (by decide : ¬ ((1 : Int32) = (0 : Int32)))).1) ?_
      show Steps p.tables e below (T8.setTop (mkF m 109 #[.val (.int p1), .val (.int p2), .val (.int p3), .val (.int (0 : Int32)), .val (.ref a_UNARY), .val (.int ((p3 &&& (7 : Int32)) - (2 : Int32))), .val (.int (1 : Int32)), .val (.int (1 : Int32))] [])) _
      refine XS.iconst X8.here hx rfl (hb hby at_109) ?_
      show Steps p.tables e below (T8.setTop (mkF m 110 #[.val (.int p1), .val (.int p2), .val (.int p3), .val (.int (0 : Int32)), .val (.ref a_UNARY), .val (.int ((p3 &&& (7 : Int32)) - (2 : Int32))), .val (.int (1 : Int32)), .val (.int (1 : Int32))] [(.int (1 : Int32))])) _
      refine XS.goto X8.here hx rfl (pc0 := 110) (pc' := 114) rfl (hb hby at_110) (by decide) (by decide) ?_
      show Steps p.tables e below (T8.setTop (mkF m 114 #[.val (.int p1), .val (.int p2), .val (.int p3), .val (.int (0 : Int32)), .val (.ref a_UNARY), .val (.int ((p3 &&& (7 : Int32)) - (2 : Int32))), .val (.int (1 : Int32)), .val (.int (1 : Int32))] [(.int (1 : Int32))])) _
      exact retN X8 hx (t := .boolean) Bd.returns (by simp) (hb hby at_114) hr
    · show Q0 n0 _ T8.heap _
      rw [r8]
      exact ⟨rfl, N8⟩
  · have R9 : ∀ tg, Steps p.tables e below (s₁.setTop (mkF m 4 #[.val (.int p1), .val (.int p2), .val (.int p3), .val (.int (1 : Int32)), .unset, .unset, .unset, .unset] [])) tg → Steps p.tables e below (s₁.setTop (mkF m 4 #[.val (.int p1), .val (.int p2), .val (.int p3), .val (.int (p1 &&& (3 : Int32))), .unset, .unset, .unset, .unset] [])) tg := fun tg kt => by rw [hk2]; exact kt
    obtain ⟨T10, X10, e10, st10⟩ := getS2 X0 hx hZ hown (host := "") (Or.inl (hw _ (List.mem_of_getElem? (i := 16) rfl))) Via.refl e0 S_BINARY (g := (mkF m 21 #[.val (.int p1), .val (.int p2), .val (.int p3), .val (.int (1 : Int32)), .unset, .unset, .unset, .unset] [])) rfl (hb hby at_21)
    obtain ⟨cq11, kq11, q11a, q11b, q11c⟩ := isOf hZ e10 E_BINARY
    obtain ⟨_, _, ⟨T11, L11, k11, n11⟩, -, X11, ⟨Lc11, hQ11, l11, y11, z11⟩, st11⟩ := X10.virtualBack hx (y := (⟨"com/example/typebridge/typebridge/NumericContext", "takes", "(I)Z"⟩ : MethodName)) (z := (⟨"com/example/typebridge/typebridge/NumericContext", "takes", "(I)Z"⟩ : MethodName)) hown (mvT hZ (hw _ (List.mem_of_getElem? (i := 3) rfl))) (mvT hZ (hw _ (List.mem_of_getElem? (i := 4) rfl))) (notFace_of_selects (args := #[]) (mvT hZ (hw _ (List.mem_of_getElem? (i := 6) rfl)))) (mvT hZ (hw _ (List.mem_of_getElem? (i := 6) rfl))) (mvT hZ (hw _ (List.mem_of_getElem? (i := 5) rfl))) (by decide) (backOf (W := 0) (rm1 l Z a0 hw [] a_BINARY p2 (2 : Int32) (0 : Int32) h0 n0 Z0 F_BINARY_operands F_BINARY_orMore) hZ (hw _ (List.mem_of_getElem? (i := 7) rfl)) (hw _ (List.mem_of_getElem? (i := 1) rfl)) (by decide) (by decide)) q11a q11c (g := (mkF m 58 #[.val (.int p1), .val (.int p2), .val (.int p3), .val (.int (1 : Int32)), .val (.ref a_BINARY), .val (.int ((p3 &&& (7 : Int32)) - (2 : Int32))), .unset, .unset] [(.int p2), (.ref a_BINARY)])) rfl (by rw [hml]; rfl) (Steps.refl _) (argsL := [(.int p2)]) (rest := []) (lenOf pd_0 rfl) rfl (by show 2 * 0 + _ ≤ _; exact Nat.le_of_eq rfl) (hb hby at_58) (fun _ _ => ⟨rfl, e10, (by decide : 0 + 0 ≤ _), (by decide : 0 + 0 ≤ _)⟩)
    dsimp only [Pt.U, Pt.locs, Pt.cells, Pt.slots] at X11 l11 y11 z11 st11 hQ11
    subst l11 y11 z11
    obtain ⟨hv11, N11q, r11⟩ := hQ11
    rw [own_t1] at hv11
    subst hv11
    have N11 := Fr.app N0 N11q
    obtain ⟨_, _, ⟨T12, L12, k12, n12⟩, -, X12, ⟨Lc12, hQ12, l12, y12, z12⟩, st12⟩ := Jvm.LawKit.callS X11 hx (y := (⟨"com/example/typebridge/typebridge/NumericContextTakesPinLaw", "expected", "(II)Z"⟩ : MethodName)) hown (mvT hZ (hw _ (List.mem_of_getElem? (i := 12) rfl))) (mvT hZ (hw _ (List.mem_of_getElem? (i := 13) rfl))) (mvT hZ (hw _ (List.mem_of_getElem? (i := 14) rfl))) (mvT hZ (hw _ (List.mem_of_getElem? (i := 15) rfl))) (by decide) (backOf (W := 1) (rmE l Z a0 hw [] (1 : Int32) p2 h0 n0 Z0) hZ (hw _ (List.mem_of_getElem? (i := 15) rfl)) (hw _ (List.mem_of_getElem? (i := 14) rfl)) (by decide) (by decide)) (g := (mkF m 63 #[.val (.int p1), .val (.int p2), .val (.int p3), .val (.int (1 : Int32)), .val (.ref a_BINARY), .val (.int ((p3 &&& (7 : Int32)) - (2 : Int32))), .unset, .unset] [(.int p2), (.int (1 : Int32)), (.int (if p2 = 2 then 1 else 0))])) rfl (by rw [hml]; rfl) (argsL := [(.int (1 : Int32)), (.int p2)]) (rest := [(.int (if p2 = 2 then 1 else 0))]) (lenOf pd_1 rfl) rfl (by show 2 * 0 + _ ≤ _; exact Nat.le_of_eq rfl) (hb hby at_63) (fun _ _ => ⟨rfl, r11, (by decide : 0 + 0 ≤ _), (by decide : 0 + 0 ≤ _)⟩)
    dsimp only [Pt.U, Pt.locs, Pt.cells, Pt.slots] at X12 l12 y12 z12 st12 hQ12
    subst l12 y12 z12
    obtain ⟨hv12, N12q, r12⟩ := hQ12
    rw [if_neg (by decide), if_neg (by decide)] at hv12
    subst hv12
    have N12 := Fr.app N11 N12q
    obtain ⟨cq13, kq13, q13a, q13b, q13c⟩ := isOf hZ r12 E_BINARY
    obtain ⟨_, _, ⟨T13, L13, k13, n13⟩, -, X13, ⟨Lc13, hQ13, l13, y13, z13⟩, st13⟩ := X12.virtualBack hx (y := (⟨"com/example/typebridge/typebridge/NumericContext", "takes", "(I)Z"⟩ : MethodName)) (z := (⟨"com/example/typebridge/typebridge/NumericContext", "takes", "(I)Z"⟩ : MethodName)) hown (mvT hZ (hw _ (List.mem_of_getElem? (i := 3) rfl))) (mvT hZ (hw _ (List.mem_of_getElem? (i := 4) rfl))) (notFace_of_selects (args := #[]) (mvT hZ (hw _ (List.mem_of_getElem? (i := 6) rfl)))) (mvT hZ (hw _ (List.mem_of_getElem? (i := 6) rfl))) (mvT hZ (hw _ (List.mem_of_getElem? (i := 5) rfl))) (by decide) (backOf (W := 0) (rm1 l Z a0 hw [] a_BINARY ((p3 &&& (7 : Int32)) - (2 : Int32)) (2 : Int32) (0 : Int32) h0 n0 Z0 F_BINARY_operands F_BINARY_orMore) hZ (hw _ (List.mem_of_getElem? (i := 7) rfl)) (hw _ (List.mem_of_getElem? (i := 1) rfl)) (by decide) (by decide)) q13a q13c (g := (mkF m 80 #[.val (.int p1), .val (.int p2), .val (.int p3), .val (.int (1 : Int32)), .val (.ref a_BINARY), .val (.int ((p3 &&& (7 : Int32)) - (2 : Int32))), .val (.int (1 : Int32)), .unset] [(.int ((p3 &&& (7 : Int32)) - (2 : Int32))), (.ref a_BINARY)])) rfl (by rw [hml]; rfl) (Steps.refl _) (argsL := [(.int ((p3 &&& (7 : Int32)) - (2 : Int32)))]) (rest := []) (lenOf pd_0 rfl) rfl (by show 2 * 0 + _ ≤ _; exact Nat.le_of_eq rfl) (hb hby at_80) (fun _ _ => ⟨rfl, r12, (by decide : 0 + 0 ≤ _), (by decide : 0 + 0 ≤ _)⟩)
    dsimp only [Pt.U, Pt.locs, Pt.cells, Pt.slots] at X13 l13 y13 z13 st13 hQ13
    subst l13 y13 z13
    obtain ⟨hv13, N13q, r13⟩ := hQ13
    rw [own_t1] at hv13
    subst hv13
    have N13 := Fr.app N12 N13q
    obtain ⟨_, _, ⟨T14, L14, k14, n14⟩, -, X14, ⟨Lc14, hQ14, l14, y14, z14⟩, st14⟩ := Jvm.LawKit.callS X13 hx (y := (⟨"com/example/typebridge/typebridge/NumericContextTakesPinLaw", "expected", "(II)Z"⟩ : MethodName)) hown (mvT hZ (hw _ (List.mem_of_getElem? (i := 12) rfl))) (mvT hZ (hw _ (List.mem_of_getElem? (i := 13) rfl))) (mvT hZ (hw _ (List.mem_of_getElem? (i := 14) rfl))) (mvT hZ (hw _ (List.mem_of_getElem? (i := 15) rfl))) (by decide) (backOf (W := 1) (rmE l Z a0 hw [] (1 : Int32) ((p3 &&& (7 : Int32)) - (2 : Int32)) h0 n0 Z0) hZ (hw _ (List.mem_of_getElem? (i := 15) rfl)) (hw _ (List.mem_of_getElem? (i := 14) rfl)) (by decide) (by decide)) (g := (mkF m 86 #[.val (.int p1), .val (.int p2), .val (.int p3), .val (.int (1 : Int32)), .val (.ref a_BINARY), .val (.int ((p3 &&& (7 : Int32)) - (2 : Int32))), .val (.int (1 : Int32)), .unset] [(.int ((p3 &&& (7 : Int32)) - (2 : Int32))), (.int (1 : Int32)), (.int (if ((p3 &&& (7 : Int32)) - (2 : Int32)) = 2 then 1 else 0))])) rfl (by rw [hml]; rfl) (argsL := [(.int (1 : Int32)), (.int ((p3 &&& (7 : Int32)) - (2 : Int32)))]) (rest := [(.int (if ((p3 &&& (7 : Int32)) - (2 : Int32)) = 2 then 1 else 0))]) (lenOf pd_1 rfl) rfl (by show 2 * 0 + _ ≤ _; exact Nat.le_of_eq rfl) (hb hby at_86) (fun _ _ => ⟨rfl, r13, (by decide : 0 + 0 ≤ _), (by decide : 0 + 0 ≤ _)⟩)
    dsimp only [Pt.U, Pt.locs, Pt.cells, Pt.slots] at X14 l14 y14 z14 st14 hQ14
    subst l14 y14 z14
    obtain ⟨hv14, N14q, r14⟩ := hQ14
    rw [if_neg (by decide), if_neg (by decide)] at hv14
    subst hv14
    have N14 := Fr.app N13 N14q
    obtain ⟨fs, hr, hrun, hended, hW, hsame⟩ := X14.leave (v := some (.int (1 : Int32))) (fun h => by rw [Bd.returns] at h; cases h)
    refine ⟨_, _, pre0 _ (R1 _ (R9 _ ?_)), hrun, hended, _, _, rfl, ?_, ⟨_, rfl⟩, hW, hsame.mono (by decide) (by decide)⟩
    · show Steps p.tables e below (s₁.setTop (mkF m 4 #[.val (.int p1), .val (.int p2), .val (.int p3), .val (.int (1 : Int32)), .unset, .unset, .unset, .unset] [])) _
      refine XS.iloadN X0.here hx rfl (hb hby at_4) rfl ?_
      show Steps p.tables e below (s₁.setTop (mkF m 5 #[.val (.int p1), .val (.int p2), .val (.int p3), .val (.int (1 : Int32)), .unset, .unset, .unset, .unset] [(.int (1 : Int32))])) _
      refine XS.ifYes X0.here hx rfl (pc0 := 5) (pc' := 16) rfl (hb hby at_5) rfl ((if0 _ _).trans (feq (by decide : ¬ ((1 : Int32) = (0 : Int32)))).2) (by decide) (by decide) ?_
      show Steps p.tables e below (s₁.setTop (mkF m 16 #[.val (.int p1), .val (.int p2), .val (.int p3), .val (.int (1 : Int32)), .unset, .unset, .unset, .unset] [])) _
      refine XS.iloadN X0.here hx rfl (hb hby at_16) rfl ?_
      show Steps p.tables e below (s₁.setTop (mkF m 17 #[.val (.int p1), .val (.int p2), .val (.int p3), .val (.int (1 : Int32)), .unset, .unset, .unset, .unset] [(.int (1 : Int32))])) _
      refine XS.iconst X0.here hx rfl (hb hby at_17) ?_
      show Steps p.tables e below (s₁.setTop (mkF m 18 #[.val (.int p1), .val (.int p2), .val (.int p3), .val (.int (1 : Int32)), .unset, .unset, .unset, .unset] [(.int (1 : Int32)), (.int (1 : Int32))])) _
      refine XS.icmpNo X0.here hx rfl (hb hby at_18) rfl (teq (by decide : (1 : Int32) = (1 : Int32))).2 ?_
      show Steps p.tables e below (s₁.setTop (mkF m 21 #[.val (.int p1), .val (.int p2), .val (.int p3), .val (.int (1 : Int32)), .unset, .unset, .unset, .unset] [])) _
      refine st10 _ ?_
      show Steps p.tables e below (T10.setTop (mkF m 24 #[.val (.int p1), .val (.int p2), .val (.int p3), .val (.int (1 : Int32)), .unset, .unset, .unset, .unset] [(.ref a_BINARY)])) _
      refine XS.astore X10.here hx rfl (hb hby at_24) rfl rfl (l' := #[.val (.int p1), .val (.int p2), .val (.int p3), .val (.int (1 : Int32)), .val (.ref a_BINARY), .unset, .unset, .unset]) rfl ?_
      show Steps p.tables e below (T10.setTop (mkF m 26 #[.val (.int p1), .val (.int p2), .val (.int p3), .val (.int (1 : Int32)), .val (.ref a_BINARY), .unset, .unset, .unset] [])) _
      refine XS.goto X10.here hx rfl (pc0 := 26) (pc' := 47) rfl (hb hby at_26) (by decide) (by decide) ?_
      show Steps p.tables e below (T10.setTop (mkF m 47 #[.val (.int p1), .val (.int p2), .val (.int p3), .val (.int (1 : Int32)), .val (.ref a_BINARY), .unset, .unset, .unset] [])) _
      refine XS.iloadN X10.here hx rfl (hb hby at_47) rfl ?_
      show Steps p.tables e below (T10.setTop (mkF m 48 #[.val (.int p1), .val (.int p2), .val (.int p3), .val (.int (1 : Int32)), .val (.ref a_BINARY), .unset, .unset, .unset] [(.int p3)])) _
      refine XS.bipush X10.here hx rfl (hb hby at_48) ?_
      show Steps p.tables e below (T10.setTop (mkF m 50 #[.val (.int p1), .val (.int p2), .val (.int p3), .val (.int (1 : Int32)), .val (.ref a_BINARY), .unset, .unset, .unset] [(.int (7 : Int32)), (.int p3)])) _
      refine XS.iand X10.here hx rfl (hb hby at_50) rfl ?_
      show Steps p.tables e below (T10.setTop (mkF m 51 #[.val (.int p1), .val (.int p2), .val (.int p3), .val (.int (1 : Int32)), .val (.ref a_BINARY), .unset, .unset, .unset] [(.int (p3 &&& (7 : Int32)))])) _
      refine XS.iconst X10.here hx rfl (hb hby at_51) ?_
      show Steps p.tables e below (T10.setTop (mkF m 52 #[.val (.int p1), .val (.int p2), .val (.int p3), .val (.int (1 : Int32)), .val (.ref a_BINARY), .unset, .unset, .unset] [(.int (2 : Int32)), (.int (p3 &&& (7 : Int32)))])) _
      refine XS.isub X10.here hx rfl (hb hby at_52) rfl ?_
      show Steps p.tables e below (T10.setTop (mkF m 53 #[.val (.int p1), .val (.int p2), .val (.int p3), .val (.int (1 : Int32)), .val (.ref a_BINARY), .unset, .unset, .unset] [(.int ((p3 &&& (7 : Int32)) - (2 : Int32)))])) _
      refine XS.istore X10.here hx rfl (hb hby at_53) rfl (l' := #[.val (.int p1), .val (.int p2), .val (.int p3), .val (.int (1 : Int32)), .val (.ref a_BINARY), .val (.int ((p3 &&& (7 : Int32)) - (2 : Int32))), .unset, .unset]) rfl ?_
      show Steps p.tables e below (T10.setTop (mkF m 55 #[.val (.int p1), .val (.int p2), .val (.int p3), .val (.int (1 : Int32)), .val (.ref a_BINARY), .val (.int ((p3 &&& (7 : Int32)) - (2 : Int32))), .unset, .unset] [])) _
      refine XS.aload X10.here hx rfl (hb hby at_55) rfl rfl ?_
      show Steps p.tables e below (T10.setTop (mkF m 57 #[.val (.int p1), .val (.int p2), .val (.int p3), .val (.int (1 : Int32)), .val (.ref a_BINARY), .val (.int ((p3 &&& (7 : Int32)) - (2 : Int32))), .unset, .unset] [(.ref a_BINARY)])) _
      refine XS.iloadN X10.here hx rfl (hb hby at_57) rfl ?_
      show Steps p.tables e below (T10.setTop (mkF m 58 #[.val (.int p1), .val (.int p2), .val (.int p3), .val (.int (1 : Int32)), .val (.ref a_BINARY), .val (.int ((p3 &&& (7 : Int32)) - (2 : Int32))), .unset, .unset] [(.int p2), (.ref a_BINARY)])) _
      refine st11.trans ?_
      show Steps p.tables e below (T11.setTop (mkF m 61 #[.val (.int p1), .val (.int p2), .val (.int p3), .val (.int (1 : Int32)), .val (.ref a_BINARY), .val (.int ((p3 &&& (7 : Int32)) - (2 : Int32))), .unset, .unset] [(.int (if p2 = 2 then 1 else 0))])) _
      refine XS.iloadN X11.here hx rfl (hb hby at_61) rfl ?_
      show Steps p.tables e below (T11.setTop (mkF m 62 #[.val (.int p1), .val (.int p2), .val (.int p3), .val (.int (1 : Int32)), .val (.ref a_BINARY), .val (.int ((p3 &&& (7 : Int32)) - (2 : Int32))), .unset, .unset] [(.int (1 : Int32)), (.int (if p2 = 2 then 1 else 0))])) _
      refine XS.iloadN X11.here hx rfl (hb hby at_62) rfl ?_
      show Steps p.tables e below (T11.setTop (mkF m 63 #[.val (.int p1), .val (.int p2), .val (.int p3), .val (.int (1 : Int32)), .val (.ref a_BINARY), .val (.int ((p3 &&& (7 : Int32)) - (2 : Int32))), .unset, .unset] [(.int p2), (.int (1 : Int32)), (.int (if p2 = 2 then 1 else 0))])) _
      refine st12 _ ?_
      show Steps p.tables e below (T12.setTop (mkF m 66 #[.val (.int p1), .val (.int p2), .val (.int p3), .val (.int (1 : Int32)), .val (.ref a_BINARY), .val (.int ((p3 &&& (7 : Int32)) - (2 : Int32))), .unset, .unset] [(.int (if p2 = 2 then 1 else 0)), (.int (if p2 = 2 then 1 else 0))])) _
      refine XS.icmpNo X12.here hx rfl (hb hby at_66) rfl (teq rfl).2 ?_
      show Steps p.tables e below (T12.setTop (mkF m 69 #[.val (.int p1), .val (.int p2), .val (.int p3), .val (.int (1 : Int32)), .val (.ref a_BINARY), .val (.int ((p3 &&& (7 : Int32)) - (2 : Int32))), .unset, .unset] [])) _
      refine XS.iconst X12.here hx rfl (hb hby at_69) ?_
      show Steps p.tables e below (T12.setTop (mkF m 70 #[.val (.int p1), .val (.int p2), .val (.int p3), .val (.int (1 : Int32)), .val (.ref a_BINARY), .val (.int ((p3 &&& (7 : Int32)) - (2 : Int32))), .unset, .unset] [(.int (1 : Int32))])) _
      refine XS.goto X12.here hx rfl (pc0 := 70) (pc' := 74) rfl (hb hby at_70) (by decide) (by decide) ?_
      show Steps p.tables e below (T12.setTop (mkF m 74 #[.val (.int p1), .val (.int p2), .val (.int p3), .val (.int (1 : Int32)), .val (.ref a_BINARY), .val (.int ((p3 &&& (7 : Int32)) - (2 : Int32))), .unset, .unset] [(.int (1 : Int32))])) _
      refine XS.istore X12.here hx rfl (hb hby at_74) rfl (l' := #[.val (.int p1), .val (.int p2), .val (.int p3), .val (.int (1 : Int32)), .val (.ref a_BINARY), .val (.int ((p3 &&& (7 : Int32)) - (2 : Int32))), .val (.int (1 : Int32)), .unset]) rfl ?_
      show Steps p.tables e below (T12.setTop (mkF m 76 #[.val (.int p1), .val (.int p2), .val (.int p3), .val (.int (1 : Int32)), .val (.ref a_BINARY), .val (.int ((p3 &&& (7 : Int32)) - (2 : Int32))), .val (.int (1 : Int32)), .unset] [])) _
      refine XS.aload X12.here hx rfl (hb hby at_76) rfl rfl ?_
      show Steps p.tables e below (T12.setTop (mkF m 78 #[.val (.int p1), .val (.int p2), .val (.int p3), .val (.int (1 : Int32)), .val (.ref a_BINARY), .val (.int ((p3 &&& (7 : Int32)) - (2 : Int32))), .val (.int (1 : Int32)), .unset] [(.ref a_BINARY)])) _
      refine XS.iload X12.here hx rfl (hb hby at_78) rfl ?_
      show Steps p.tables e below (T12.setTop (mkF m 80 #[.val (.int p1), .val (.int p2), .val (.int p3), .val (.int (1 : Int32)), .val (.ref a_BINARY), .val (.int ((p3 &&& (7 : Int32)) - (2 : Int32))), .val (.int (1 : Int32)), .unset] [(.int ((p3 &&& (7 : Int32)) - (2 : Int32))), (.ref a_BINARY)])) _
      refine st13.trans ?_
      show Steps p.tables e below (T13.setTop (mkF m 83 #[.val (.int p1), .val (.int p2), .val (.int p3), .val (.int (1 : Int32)), .val (.ref a_BINARY), .val (.int ((p3 &&& (7 : Int32)) - (2 : Int32))), .val (.int (1 : Int32)), .unset] [(.int (if ((p3 &&& (7 : Int32)) - (2 : Int32)) = 2 then 1 else 0))])) _
      refine XS.iloadN X13.here hx rfl (hb hby at_83) rfl ?_
      show Steps p.tables e below (T13.setTop (mkF m 84 #[.val (.int p1), .val (.int p2), .val (.int p3), .val (.int (1 : Int32)), .val (.ref a_BINARY), .val (.int ((p3 &&& (7 : Int32)) - (2 : Int32))), .val (.int (1 : Int32)), .unset] [(.int (1 : Int32)), (.int (if ((p3 &&& (7 : Int32)) - (2 : Int32)) = 2 then 1 else 0))])) _
      refine XS.iload X13.here hx rfl (hb hby at_84) rfl ?_
      show Steps p.tables e below (T13.setTop (mkF m 86 #[.val (.int p1), .val (.int p2), .val (.int p3), .val (.int (1 : Int32)), .val (.ref a_BINARY), .val (.int ((p3 &&& (7 : Int32)) - (2 : Int32))), .val (.int (1 : Int32)), .unset] [(.int ((p3 &&& (7 : Int32)) - (2 : Int32))), (.int (1 : Int32)), (.int (if ((p3 &&& (7 : Int32)) - (2 : Int32)) = 2 then 1 else 0))])) _
      refine st14 _ ?_
      show Steps p.tables e below (T14.setTop (mkF m 89 #[.val (.int p1), .val (.int p2), .val (.int p3), .val (.int (1 : Int32)), .val (.ref a_BINARY), .val (.int ((p3 &&& (7 : Int32)) - (2 : Int32))), .val (.int (1 : Int32)), .unset] [(.int (if ((p3 &&& (7 : Int32)) - (2 : Int32)) = 2 then 1 else 0)), (.int (if ((p3 &&& (7 : Int32)) - (2 : Int32)) = 2 then 1 else 0))])) _
      refine XS.icmpNo X14.here hx rfl (hb hby at_89) rfl (teq rfl).2 ?_
      show Steps p.tables e below (T14.setTop (mkF m 92 #[.val (.int p1), .val (.int p2), .val (.int p3), .val (.int (1 : Int32)), .val (.ref a_BINARY), .val (.int ((p3 &&& (7 : Int32)) - (2 : Int32))), .val (.int (1 : Int32)), .unset] [])) _
      refine XS.iconst X14.here hx rfl (hb hby at_92) ?_
      show Steps p.tables e below (T14.setTop (mkF m 93 #[.val (.int p1), .val (.int p2), .val (.int p3), .val (.int (1 : Int32)), .val (.ref a_BINARY), .val (.int ((p3 &&& (7 : Int32)) - (2 : Int32))), .val (.int (1 : Int32)), .unset] [(.int (1 : Int32))])) _
      refine XS.goto X14.here hx rfl (pc0 := 93) (pc' := 97) rfl (hb hby at_93) (by decide) (by decide) ?_
      show Steps p.tables e below (T14.setTop (mkF m 97 #[.val (.int p1), .val (.int p2), .val (.int p3), .val (.int (1 : Int32)), .val (.ref a_BINARY), .val (.int ((p3 &&& (7 : Int32)) - (2 : Int32))), .val (.int (1 : Int32)), .unset] [(.int (1 : Int32))])) _
      refine XS.istore X14.here hx rfl (hb hby at_97) rfl (l' := #[.val (.int p1), .val (.int p2), .val (.int p3), .val (.int (1 : Int32)), .val (.ref a_BINARY), .val (.int ((p3 &&& (7 : Int32)) - (2 : Int32))), .val (.int (1 : Int32)), .val (.int (1 : Int32))]) rfl ?_
      show Steps p.tables e below (T14.setTop (mkF m 99 #[.val (.int p1), .val (.int p2), .val (.int p3), .val (.int (1 : Int32)), .val (.ref a_BINARY), .val (.int ((p3 &&& (7 : Int32)) - (2 : Int32))), .val (.int (1 : Int32)), .val (.int (1 : Int32))] [])) _
      refine XS.iload X14.here hx rfl (hb hby at_99) rfl ?_
      show Steps p.tables e below (T14.setTop (mkF m 101 #[.val (.int p1), .val (.int p2), .val (.int p3), .val (.int (1 : Int32)), .val (.ref a_BINARY), .val (.int ((p3 &&& (7 : Int32)) - (2 : Int32))), .val (.int (1 : Int32)), .val (.int (1 : Int32))] [(.int (1 : Int32))])) _
      refine XS.ifNo X14.here hx rfl (hb hby at_101) rfl ((if0 _ _).trans (feq (by decide : ¬ ((1 : Int32) = (0 : Int32)))).1) ?_
      show Steps p.tables e below (T14.setTop (mkF m 104 #[.val (.int p1), .val (.int p2), .val (.int p3), .val (.int (1 : Int32)), .val (.ref a_BINARY), .val (.int ((p3 &&& (7 : Int32)) - (2 : Int32))), .val (.int (1 : Int32)), .val (.int (1 : Int32))] [])) _
      refine XS.iload X14.here hx rfl (hb hby at_104) rfl ?_
      show Steps p.tables e below (T14.setTop (mkF m 106 #[.val (.int p1), .val (.int p2), .val (.int p3), .val (.int (1 : Int32)), .val (.ref a_BINARY), .val (.int ((p3 &&& (7 : Int32)) - (2 : Int32))), .val (.int (1 : Int32)), .val (.int (1 : Int32))] [(.int (1 : Int32))])) _
      refine XS.ifNo X14.here hx rfl (hb hby at_106) rfl ((if0 _ _).trans (feq (by decide : ¬ ((1 : Int32) = (0 : Int32)))).1) ?_
      show Steps p.tables e below (T14.setTop (mkF m 109 #[.val (.int p1), .val (.int p2), .val (.int p3), .val (.int (1 : Int32)), .val (.ref a_BINARY), .val (.int ((p3 &&& (7 : Int32)) - (2 : Int32))), .val (.int (1 : Int32)), .val (.int (1 : Int32))] [])) _
      refine XS.iconst X14.here hx rfl (hb hby at_109) ?_
      show Steps p.tables e below (T14.setTop (mkF m 110 #[.val (.int p1), .val (.int p2), .val (.int p3), .val (.int (1 : Int32)), .val (.ref a_BINARY), .val (.int ((p3 &&& (7 : Int32)) - (2 : Int32))), .val (.int (1 : Int32)), .val (.int (1 : Int32))] [(.int (1 : Int32))])) _
      refine XS.goto X14.here hx rfl (pc0 := 110) (pc' := 114) rfl (hb hby at_110) (by decide) (by decide) ?_
      show Steps p.tables e below (T14.setTop (mkF m 114 #[.val (.int p1), .val (.int p2), .val (.int p3), .val (.int (1 : Int32)), .val (.ref a_BINARY), .val (.int ((p3 &&& (7 : Int32)) - (2 : Int32))), .val (.int (1 : Int32)), .val (.int (1 : Int32))] [(.int (1 : Int32))])) _
      exact retN X14 hx (t := .boolean) Bd.returns (by simp) (hb hby at_114) hr
    · show Q0 n0 _ T14.heap _
      rw [r14]
      exact ⟨rfl, N14⟩
  · have R15 : ∀ tg, Steps p.tables e below (s₁.setTop (mkF m 4 #[.val (.int p1), .val (.int p2), .val (.int p3), .val (.int (2 : Int32)), .unset, .unset, .unset, .unset] [])) tg → Steps p.tables e below (s₁.setTop (mkF m 4 #[.val (.int p1), .val (.int p2), .val (.int p3), .val (.int (p1 &&& (3 : Int32))), .unset, .unset, .unset, .unset] [])) tg := fun tg kt => by rw [hk2]; exact kt
    obtain ⟨T16, X16, e16, st16⟩ := getS2 X0 hx hZ hown (host := "") (Or.inl (hw _ (List.mem_of_getElem? (i := 20) rfl))) Via.refl e0 S_SHIFT (g := (mkF m 34 #[.val (.int p1), .val (.int p2), .val (.int p3), .val (.int (2 : Int32)), .unset, .unset, .unset, .unset] [])) rfl (hb hby at_34)
    obtain ⟨cq17, kq17, q17a, q17b, q17c⟩ := isOf hZ e16 E_SHIFT
    obtain ⟨_, _, ⟨T17, L17, k17, n17⟩, -, X17, ⟨Lc17, hQ17, l17, y17, z17⟩, st17⟩ := X16.virtualBack hx (y := (⟨"com/example/typebridge/typebridge/NumericContext", "takes", "(I)Z"⟩ : MethodName)) (z := (⟨"com/example/typebridge/typebridge/NumericContext", "takes", "(I)Z"⟩ : MethodName)) hown (mvT hZ (hw _ (List.mem_of_getElem? (i := 3) rfl))) (mvT hZ (hw _ (List.mem_of_getElem? (i := 4) rfl))) (notFace_of_selects (args := #[]) (mvT hZ (hw _ (List.mem_of_getElem? (i := 6) rfl)))) (mvT hZ (hw _ (List.mem_of_getElem? (i := 6) rfl))) (mvT hZ (hw _ (List.mem_of_getElem? (i := 5) rfl))) (by decide) (backOf (W := 0) (rm1 l Z a0 hw [] a_SHIFT p2 (2 : Int32) (0 : Int32) h0 n0 Z0 F_SHIFT_operands F_SHIFT_orMore) hZ (hw _ (List.mem_of_getElem? (i := 7) rfl)) (hw _ (List.mem_of_getElem? (i := 1) rfl)) (by decide) (by decide)) q17a q17c (g := (mkF m 58 #[.val (.int p1), .val (.int p2), .val (.int p3), .val (.int (2 : Int32)), .val (.ref a_SHIFT), .val (.int ((p3 &&& (7 : Int32)) - (2 : Int32))), .unset, .unset] [(.int p2), (.ref a_SHIFT)])) rfl (by rw [hml]; rfl) (Steps.refl _) (argsL := [(.int p2)]) (rest := []) (lenOf pd_0 rfl) rfl (by show 2 * 0 + _ ≤ _; exact Nat.le_of_eq rfl) (hb hby at_58) (fun _ _ => ⟨rfl, e16, (by decide : 0 + 0 ≤ _), (by decide : 0 + 0 ≤ _)⟩)
    dsimp only [Pt.U, Pt.locs, Pt.cells, Pt.slots] at X17 l17 y17 z17 st17 hQ17
    subst l17 y17 z17
    obtain ⟨hv17, N17q, r17⟩ := hQ17
    rw [own_t2] at hv17
    subst hv17
    have N17 := Fr.app N0 N17q
    obtain ⟨_, _, ⟨T18, L18, k18, n18⟩, -, X18, ⟨Lc18, hQ18, l18, y18, z18⟩, st18⟩ := Jvm.LawKit.callS X17 hx (y := (⟨"com/example/typebridge/typebridge/NumericContextTakesPinLaw", "expected", "(II)Z"⟩ : MethodName)) hown (mvT hZ (hw _ (List.mem_of_getElem? (i := 12) rfl))) (mvT hZ (hw _ (List.mem_of_getElem? (i := 13) rfl))) (mvT hZ (hw _ (List.mem_of_getElem? (i := 14) rfl))) (mvT hZ (hw _ (List.mem_of_getElem? (i := 15) rfl))) (by decide) (backOf (W := 1) (rmE l Z a0 hw [] (2 : Int32) p2 h0 n0 Z0) hZ (hw _ (List.mem_of_getElem? (i := 15) rfl)) (hw _ (List.mem_of_getElem? (i := 14) rfl)) (by decide) (by decide)) (g := (mkF m 63 #[.val (.int p1), .val (.int p2), .val (.int p3), .val (.int (2 : Int32)), .val (.ref a_SHIFT), .val (.int ((p3 &&& (7 : Int32)) - (2 : Int32))), .unset, .unset] [(.int p2), (.int (2 : Int32)), (.int (if p2 = 2 then 1 else 0))])) rfl (by rw [hml]; rfl) (argsL := [(.int (2 : Int32)), (.int p2)]) (rest := [(.int (if p2 = 2 then 1 else 0))]) (lenOf pd_1 rfl) rfl (by show 2 * 0 + _ ≤ _; exact Nat.le_of_eq rfl) (hb hby at_63) (fun _ _ => ⟨rfl, r17, (by decide : 0 + 0 ≤ _), (by decide : 0 + 0 ≤ _)⟩)
    dsimp only [Pt.U, Pt.locs, Pt.cells, Pt.slots] at X18 l18 y18 z18 st18 hQ18
    subst l18 y18 z18
    obtain ⟨hv18, N18q, r18⟩ := hQ18
    rw [if_neg (by decide), if_neg (by decide)] at hv18
    subst hv18
    have N18 := Fr.app N17 N18q
    obtain ⟨cq19, kq19, q19a, q19b, q19c⟩ := isOf hZ r18 E_SHIFT
    obtain ⟨_, _, ⟨T19, L19, k19, n19⟩, -, X19, ⟨Lc19, hQ19, l19, y19, z19⟩, st19⟩ := X18.virtualBack hx (y := (⟨"com/example/typebridge/typebridge/NumericContext", "takes", "(I)Z"⟩ : MethodName)) (z := (⟨"com/example/typebridge/typebridge/NumericContext", "takes", "(I)Z"⟩ : MethodName)) hown (mvT hZ (hw _ (List.mem_of_getElem? (i := 3) rfl))) (mvT hZ (hw _ (List.mem_of_getElem? (i := 4) rfl))) (notFace_of_selects (args := #[]) (mvT hZ (hw _ (List.mem_of_getElem? (i := 6) rfl)))) (mvT hZ (hw _ (List.mem_of_getElem? (i := 6) rfl))) (mvT hZ (hw _ (List.mem_of_getElem? (i := 5) rfl))) (by decide) (backOf (W := 0) (rm1 l Z a0 hw [] a_SHIFT ((p3 &&& (7 : Int32)) - (2 : Int32)) (2 : Int32) (0 : Int32) h0 n0 Z0 F_SHIFT_operands F_SHIFT_orMore) hZ (hw _ (List.mem_of_getElem? (i := 7) rfl)) (hw _ (List.mem_of_getElem? (i := 1) rfl)) (by decide) (by decide)) q19a q19c (g := (mkF m 80 #[.val (.int p1), .val (.int p2), .val (.int p3), .val (.int (2 : Int32)), .val (.ref a_SHIFT), .val (.int ((p3 &&& (7 : Int32)) - (2 : Int32))), .val (.int (1 : Int32)), .unset] [(.int ((p3 &&& (7 : Int32)) - (2 : Int32))), (.ref a_SHIFT)])) rfl (by rw [hml]; rfl) (Steps.refl _) (argsL := [(.int ((p3 &&& (7 : Int32)) - (2 : Int32)))]) (rest := []) (lenOf pd_0 rfl) rfl (by show 2 * 0 + _ ≤ _; exact Nat.le_of_eq rfl) (hb hby at_80) (fun _ _ => ⟨rfl, r18, (by decide : 0 + 0 ≤ _), (by decide : 0 + 0 ≤ _)⟩)
    dsimp only [Pt.U, Pt.locs, Pt.cells, Pt.slots] at X19 l19 y19 z19 st19 hQ19
    subst l19 y19 z19
    obtain ⟨hv19, N19q, r19⟩ := hQ19
    rw [own_t2] at hv19
    subst hv19
    have N19 := Fr.app N18 N19q
    obtain ⟨_, _, ⟨T20, L20, k20, n20⟩, -, X20, ⟨Lc20, hQ20, l20, y20, z20⟩, st20⟩ := Jvm.LawKit.callS X19 hx (y := (⟨"com/example/typebridge/typebridge/NumericContextTakesPinLaw", "expected", "(II)Z"⟩ : MethodName)) hown (mvT hZ (hw _ (List.mem_of_getElem? (i := 12) rfl))) (mvT hZ (hw _ (List.mem_of_getElem? (i := 13) rfl))) (mvT hZ (hw _ (List.mem_of_getElem? (i := 14) rfl))) (mvT hZ (hw _ (List.mem_of_getElem? (i := 15) rfl))) (by decide) (backOf (W := 1) (rmE l Z a0 hw [] (2 : Int32) ((p3 &&& (7 : Int32)) - (2 : Int32)) h0 n0 Z0) hZ (hw _ (List.mem_of_getElem? (i := 15) rfl)) (hw _ (List.mem_of_getElem? (i := 14) rfl)) (by decide) (by decide)) (g := (mkF m 86 #[.val (.int p1), .val (.int p2), .val (.int p3), .val (.int (2 : Int32)), .val (.ref a_SHIFT), .val (.int ((p3 &&& (7 : Int32)) - (2 : Int32))), .val (.int (1 : Int32)), .unset] [(.int ((p3 &&& (7 : Int32)) - (2 : Int32))), (.int (2 : Int32)), (.int (if ((p3 &&& (7 : Int32)) - (2 : Int32)) = 2 then 1 else 0))])) rfl (by rw [hml]; rfl) (argsL := [(.int (2 : Int32)), (.int ((p3 &&& (7 : Int32)) - (2 : Int32)))]) (rest := [(.int (if ((p3 &&& (7 : Int32)) - (2 : Int32)) = 2 then 1 else 0))]) (lenOf pd_1 rfl) rfl (by show 2 * 0 + _ ≤ _; exact Nat.le_of_eq rfl) (hb hby at_86) (fun _ _ => ⟨rfl, r19, (by decide : 0 + 0 ≤ _), (by decide : 0 + 0 ≤ _)⟩)
    dsimp only [Pt.U, Pt.locs, Pt.cells, Pt.slots] at X20 l20 y20 z20 st20 hQ20
    subst l20 y20 z20
    obtain ⟨hv20, N20q, r20⟩ := hQ20
    rw [if_neg (by decide), if_neg (by decide)] at hv20
    subst hv20
    have N20 := Fr.app N19 N20q
    obtain ⟨fs, hr, hrun, hended, hW, hsame⟩ := X20.leave (v := some (.int (1 : Int32))) (fun h => by rw [Bd.returns] at h; cases h)
    refine ⟨_, _, pre0 _ (R1 _ (R15 _ ?_)), hrun, hended, _, _, rfl, ?_, ⟨_, rfl⟩, hW, hsame.mono (by decide) (by decide)⟩
    · show Steps p.tables e below (s₁.setTop (mkF m 4 #[.val (.int p1), .val (.int p2), .val (.int p3), .val (.int (2 : Int32)), .unset, .unset, .unset, .unset] [])) _
      refine XS.iloadN X0.here hx rfl (hb hby at_4) rfl ?_
      show Steps p.tables e below (s₁.setTop (mkF m 5 #[.val (.int p1), .val (.int p2), .val (.int p3), .val (.int (2 : Int32)), .unset, .unset, .unset, .unset] [(.int (2 : Int32))])) _
      refine XS.ifYes X0.here hx rfl (pc0 := 5) (pc' := 16) rfl (hb hby at_5) rfl ((if0 _ _).trans (feq (by decide : ¬ ((2 : Int32) = (0 : Int32)))).2) (by decide) (by decide) ?_
      show Steps p.tables e below (s₁.setTop (mkF m 16 #[.val (.int p1), .val (.int p2), .val (.int p3), .val (.int (2 : Int32)), .unset, .unset, .unset, .unset] [])) _
      refine XS.iloadN X0.here hx rfl (hb hby at_16) rfl ?_
      show Steps p.tables e below (s₁.setTop (mkF m 17 #[.val (.int p1), .val (.int p2), .val (.int p3), .val (.int (2 : Int32)), .unset, .unset, .unset, .unset] [(.int (2 : Int32))])) _
      refine XS.iconst X0.here hx rfl (hb hby at_17) ?_
      show Steps p.tables e below (s₁.setTop (mkF m 18 #[.val (.int p1), .val (.int p2), .val (.int p3), .val (.int (2 : Int32)), .unset, .unset, .unset, .unset] [(.int (1 : Int32)), (.int (2 : Int32))])) _
      refine XS.icmpYes X0.here hx rfl (pc0 := 18) (pc' := 29) rfl (hb hby at_18) rfl (feq (by decide : ¬ ((2 : Int32) = (1 : Int32)))).2 (by decide) (by decide) ?_
      show Steps p.tables e below (s₁.setTop (mkF m 29 #[.val (.int p1), .val (.int p2), .val (.int p3), .val (.int (2 : Int32)), .unset, .unset, .unset, .unset] [])) _
      refine XS.iloadN X0.here hx rfl (hb hby at_29) rfl ?_
      show Steps p.tables e below (s₁.setTop (mkF m 30 #[.val (.int p1), .val (.int p2), .val (.int p3), .val (.int (2 : Int32)), .unset, .unset, .unset, .unset] [(.int (2 : Int32))])) _
      refine XS.iconst X0.here hx rfl (hb hby at_30) ?_
      show Steps p.tables e below (s₁.setTop (mkF m 31 #[.val (.int p1), .val (.int p2), .val (.int p3), .val (.int (2 : Int32)), .unset, .unset, .unset, .unset] [(.int (2 : Int32)), (.int (2 : Int32))])) _
      refine XS.icmpNo X0.here hx rfl (hb hby at_31) rfl (teq (by decide : (2 : Int32) = (2 : Int32))).2 ?_
      show Steps p.tables e below (s₁.setTop (mkF m 34 #[.val (.int p1), .val (.int p2), .val (.int p3), .val (.int (2 : Int32)), .unset, .unset, .unset, .unset] [])) _
      refine st16 _ ?_
      show Steps p.tables e below (T16.setTop (mkF m 37 #[.val (.int p1), .val (.int p2), .val (.int p3), .val (.int (2 : Int32)), .unset, .unset, .unset, .unset] [(.ref a_SHIFT)])) _
      refine XS.astore X16.here hx rfl (hb hby at_37) rfl rfl (l' := #[.val (.int p1), .val (.int p2), .val (.int p3), .val (.int (2 : Int32)), .val (.ref a_SHIFT), .unset, .unset, .unset]) rfl ?_
      show Steps p.tables e below (T16.setTop (mkF m 39 #[.val (.int p1), .val (.int p2), .val (.int p3), .val (.int (2 : Int32)), .val (.ref a_SHIFT), .unset, .unset, .unset] [])) _
      refine XS.goto X16.here hx rfl (pc0 := 39) (pc' := 47) rfl (hb hby at_39) (by decide) (by decide) ?_
      show Steps p.tables e below (T16.setTop (mkF m 47 #[.val (.int p1), .val (.int p2), .val (.int p3), .val (.int (2 : Int32)), .val (.ref a_SHIFT), .unset, .unset, .unset] [])) _
      refine XS.iloadN X16.here hx rfl (hb hby at_47) rfl ?_
      show Steps p.tables e below (T16.setTop (mkF m 48 #[.val (.int p1), .val (.int p2), .val (.int p3), .val (.int (2 : Int32)), .val (.ref a_SHIFT), .unset, .unset, .unset] [(.int p3)])) _
      refine XS.bipush X16.here hx rfl (hb hby at_48) ?_
      show Steps p.tables e below (T16.setTop (mkF m 50 #[.val (.int p1), .val (.int p2), .val (.int p3), .val (.int (2 : Int32)), .val (.ref a_SHIFT), .unset, .unset, .unset] [(.int (7 : Int32)), (.int p3)])) _
      refine XS.iand X16.here hx rfl (hb hby at_50) rfl ?_
      show Steps p.tables e below (T16.setTop (mkF m 51 #[.val (.int p1), .val (.int p2), .val (.int p3), .val (.int (2 : Int32)), .val (.ref a_SHIFT), .unset, .unset, .unset] [(.int (p3 &&& (7 : Int32)))])) _
      refine XS.iconst X16.here hx rfl (hb hby at_51) ?_
      show Steps p.tables e below (T16.setTop (mkF m 52 #[.val (.int p1), .val (.int p2), .val (.int p3), .val (.int (2 : Int32)), .val (.ref a_SHIFT), .unset, .unset, .unset] [(.int (2 : Int32)), (.int (p3 &&& (7 : Int32)))])) _
      refine XS.isub X16.here hx rfl (hb hby at_52) rfl ?_
      show Steps p.tables e below (T16.setTop (mkF m 53 #[.val (.int p1), .val (.int p2), .val (.int p3), .val (.int (2 : Int32)), .val (.ref a_SHIFT), .unset, .unset, .unset] [(.int ((p3 &&& (7 : Int32)) - (2 : Int32)))])) _
      refine XS.istore X16.here hx rfl (hb hby at_53) rfl (l' := #[.val (.int p1), .val (.int p2), .val (.int p3), .val (.int (2 : Int32)), .val (.ref a_SHIFT), .val (.int ((p3 &&& (7 : Int32)) - (2 : Int32))), .unset, .unset]) rfl ?_
      show Steps p.tables e below (T16.setTop (mkF m 55 #[.val (.int p1), .val (.int p2), .val (.int p3), .val (.int (2 : Int32)), .val (.ref a_SHIFT), .val (.int ((p3 &&& (7 : Int32)) - (2 : Int32))), .unset, .unset] [])) _
      refine XS.aload X16.here hx rfl (hb hby at_55) rfl rfl ?_
      show Steps p.tables e below (T16.setTop (mkF m 57 #[.val (.int p1), .val (.int p2), .val (.int p3), .val (.int (2 : Int32)), .val (.ref a_SHIFT), .val (.int ((p3 &&& (7 : Int32)) - (2 : Int32))), .unset, .unset] [(.ref a_SHIFT)])) _
      refine XS.iloadN X16.here hx rfl (hb hby at_57) rfl ?_
      show Steps p.tables e below (T16.setTop (mkF m 58 #[.val (.int p1), .val (.int p2), .val (.int p3), .val (.int (2 : Int32)), .val (.ref a_SHIFT), .val (.int ((p3 &&& (7 : Int32)) - (2 : Int32))), .unset, .unset] [(.int p2), (.ref a_SHIFT)])) _
      refine st17.trans ?_
      show Steps p.tables e below (T17.setTop (mkF m 61 #[.val (.int p1), .val (.int p2), .val (.int p3), .val (.int (2 : Int32)), .val (.ref a_SHIFT), .val (.int ((p3 &&& (7 : Int32)) - (2 : Int32))), .unset, .unset] [(.int (if p2 = 2 then 1 else 0))])) _
      refine XS.iloadN X17.here hx rfl (hb hby at_61) rfl ?_
      show Steps p.tables e below (T17.setTop (mkF m 62 #[.val (.int p1), .val (.int p2), .val (.int p3), .val (.int (2 : Int32)), .val (.ref a_SHIFT), .val (.int ((p3 &&& (7 : Int32)) - (2 : Int32))), .unset, .unset] [(.int (2 : Int32)), (.int (if p2 = 2 then 1 else 0))])) _
      refine XS.iloadN X17.here hx rfl (hb hby at_62) rfl ?_
      show Steps p.tables e below (T17.setTop (mkF m 63 #[.val (.int p1), .val (.int p2), .val (.int p3), .val (.int (2 : Int32)), .val (.ref a_SHIFT), .val (.int ((p3 &&& (7 : Int32)) - (2 : Int32))), .unset, .unset] [(.int p2), (.int (2 : Int32)), (.int (if p2 = 2 then 1 else 0))])) _
      refine st18 _ ?_
      show Steps p.tables e below (T18.setTop (mkF m 66 #[.val (.int p1), .val (.int p2), .val (.int p3), .val (.int (2 : Int32)), .val (.ref a_SHIFT), .val (.int ((p3 &&& (7 : Int32)) - (2 : Int32))), .unset, .unset] [(.int (if p2 = 2 then 1 else 0)), (.int (if p2 = 2 then 1 else 0))])) _
      refine XS.icmpNo X18.here hx rfl (hb hby at_66) rfl (teq rfl).2 ?_
      show Steps p.tables e below (T18.setTop (mkF m 69 #[.val (.int p1), .val (.int p2), .val (.int p3), .val (.int (2 : Int32)), .val (.ref a_SHIFT), .val (.int ((p3 &&& (7 : Int32)) - (2 : Int32))), .unset, .unset] [])) _
      refine XS.iconst X18.here hx rfl (hb hby at_69) ?_
      show Steps p.tables e below (T18.setTop (mkF m 70 #[.val (.int p1), .val (.int p2), .val (.int p3), .val (.int (2 : Int32)), .val (.ref a_SHIFT), .val (.int ((p3 &&& (7 : Int32)) - (2 : Int32))), .unset, .unset] [(.int (1 : Int32))])) _
      refine XS.goto X18.here hx rfl (pc0 := 70) (pc' := 74) rfl (hb hby at_70) (by decide) (by decide) ?_
      show Steps p.tables e below (T18.setTop (mkF m 74 #[.val (.int p1), .val (.int p2), .val (.int p3), .val (.int (2 : Int32)), .val (.ref a_SHIFT), .val (.int ((p3 &&& (7 : Int32)) - (2 : Int32))), .unset, .unset] [(.int (1 : Int32))])) _
      refine XS.istore X18.here hx rfl (hb hby at_74) rfl (l' := #[.val (.int p1), .val (.int p2), .val (.int p3), .val (.int (2 : Int32)), .val (.ref a_SHIFT), .val (.int ((p3 &&& (7 : Int32)) - (2 : Int32))), .val (.int (1 : Int32)), .unset]) rfl ?_
      show Steps p.tables e below (T18.setTop (mkF m 76 #[.val (.int p1), .val (.int p2), .val (.int p3), .val (.int (2 : Int32)), .val (.ref a_SHIFT), .val (.int ((p3 &&& (7 : Int32)) - (2 : Int32))), .val (.int (1 : Int32)), .unset] [])) _
      refine XS.aload X18.here hx rfl (hb hby at_76) rfl rfl ?_
      show Steps p.tables e below (T18.setTop (mkF m 78 #[.val (.int p1), .val (.int p2), .val (.int p3), .val (.int (2 : Int32)), .val (.ref a_SHIFT), .val (.int ((p3 &&& (7 : Int32)) - (2 : Int32))), .val (.int (1 : Int32)), .unset] [(.ref a_SHIFT)])) _
      refine XS.iload X18.here hx rfl (hb hby at_78) rfl ?_
      show Steps p.tables e below (T18.setTop (mkF m 80 #[.val (.int p1), .val (.int p2), .val (.int p3), .val (.int (2 : Int32)), .val (.ref a_SHIFT), .val (.int ((p3 &&& (7 : Int32)) - (2 : Int32))), .val (.int (1 : Int32)), .unset] [(.int ((p3 &&& (7 : Int32)) - (2 : Int32))), (.ref a_SHIFT)])) _
      refine st19.trans ?_
      show Steps p.tables e below (T19.setTop (mkF m 83 #[.val (.int p1), .val (.int p2), .val (.int p3), .val (.int (2 : Int32)), .val (.ref a_SHIFT), .val (.int ((p3 &&& (7 : Int32)) - (2 : Int32))), .val (.int (1 : Int32)), .unset] [(.int (if ((p3 &&& (7 : Int32)) - (2 : Int32)) = 2 then 1 else 0))])) _
      refine XS.iloadN X19.here hx rfl (hb hby at_83) rfl ?_
      show Steps p.tables e below (T19.setTop (mkF m 84 #[.val (.int p1), .val (.int p2), .val (.int p3), .val (.int (2 : Int32)), .val (.ref a_SHIFT), .val (.int ((p3 &&& (7 : Int32)) - (2 : Int32))), .val (.int (1 : Int32)), .unset] [(.int (2 : Int32)), (.int (if ((p3 &&& (7 : Int32)) - (2 : Int32)) = 2 then 1 else 0))])) _
      refine XS.iload X19.here hx rfl (hb hby at_84) rfl ?_
      show Steps p.tables e below (T19.setTop (mkF m 86 #[.val (.int p1), .val (.int p2), .val (.int p3), .val (.int (2 : Int32)), .val (.ref a_SHIFT), .val (.int ((p3 &&& (7 : Int32)) - (2 : Int32))), .val (.int (1 : Int32)), .unset] [(.int ((p3 &&& (7 : Int32)) - (2 : Int32))), (.int (2 : Int32)), (.int (if ((p3 &&& (7 : Int32)) - (2 : Int32)) = 2 then 1 else 0))])) _
      refine st20 _ ?_
      show Steps p.tables e below (T20.setTop (mkF m 89 #[.val (.int p1), .val (.int p2), .val (.int p3), .val (.int (2 : Int32)), .val (.ref a_SHIFT), .val (.int ((p3 &&& (7 : Int32)) - (2 : Int32))), .val (.int (1 : Int32)), .unset] [(.int (if ((p3 &&& (7 : Int32)) - (2 : Int32)) = 2 then 1 else 0)), (.int (if ((p3 &&& (7 : Int32)) - (2 : Int32)) = 2 then 1 else 0))])) _
      refine XS.icmpNo X20.here hx rfl (hb hby at_89) rfl (teq rfl).2 ?_
      show Steps p.tables e below (T20.setTop (mkF m 92 #[.val (.int p1), .val (.int p2), .val (.int p3), .val (.int (2 : Int32)), .val (.ref a_SHIFT), .val (.int ((p3 &&& (7 : Int32)) - (2 : Int32))), .val (.int (1 : Int32)), .unset] [])) _
      refine XS.iconst X20.here hx rfl (hb hby at_92) ?_
      show Steps p.tables e below (T20.setTop (mkF m 93 #[.val (.int p1), .val (.int p2), .val (.int p3), .val (.int (2 : Int32)), .val (.ref a_SHIFT), .val (.int ((p3 &&& (7 : Int32)) - (2 : Int32))), .val (.int (1 : Int32)), .unset] [(.int (1 : Int32))])) _
      refine XS.goto X20.here hx rfl (pc0 := 93) (pc' := 97) rfl (hb hby at_93) (by decide) (by decide) ?_
      show Steps p.tables e below (T20.setTop (mkF m 97 #[.val (.int p1), .val (.int p2), .val (.int p3), .val (.int (2 : Int32)), .val (.ref a_SHIFT), .val (.int ((p3 &&& (7 : Int32)) - (2 : Int32))), .val (.int (1 : Int32)), .unset] [(.int (1 : Int32))])) _
      refine XS.istore X20.here hx rfl (hb hby at_97) rfl (l' := #[.val (.int p1), .val (.int p2), .val (.int p3), .val (.int (2 : Int32)), .val (.ref a_SHIFT), .val (.int ((p3 &&& (7 : Int32)) - (2 : Int32))), .val (.int (1 : Int32)), .val (.int (1 : Int32))]) rfl ?_
      show Steps p.tables e below (T20.setTop (mkF m 99 #[.val (.int p1), .val (.int p2), .val (.int p3), .val (.int (2 : Int32)), .val (.ref a_SHIFT), .val (.int ((p3 &&& (7 : Int32)) - (2 : Int32))), .val (.int (1 : Int32)), .val (.int (1 : Int32))] [])) _
      refine XS.iload X20.here hx rfl (hb hby at_99) rfl ?_
      show Steps p.tables e below (T20.setTop (mkF m 101 #[.val (.int p1), .val (.int p2), .val (.int p3), .val (.int (2 : Int32)), .val (.ref a_SHIFT), .val (.int ((p3 &&& (7 : Int32)) - (2 : Int32))), .val (.int (1 : Int32)), .val (.int (1 : Int32))] [(.int (1 : Int32))])) _
      refine XS.ifNo X20.here hx rfl (hb hby at_101) rfl ((if0 _ _).trans (feq (by decide : ¬ ((1 : Int32) = (0 : Int32)))).1) ?_
      show Steps p.tables e below (T20.setTop (mkF m 104 #[.val (.int p1), .val (.int p2), .val (.int p3), .val (.int (2 : Int32)), .val (.ref a_SHIFT), .val (.int ((p3 &&& (7 : Int32)) - (2 : Int32))), .val (.int (1 : Int32)), .val (.int (1 : Int32))] [])) _
      refine XS.iload X20.here hx rfl (hb hby at_104) rfl ?_
      show Steps p.tables e below (T20.setTop (mkF m 106 #[.val (.int p1), .val (.int p2), .val (.int p3), .val (.int (2 : Int32)), .val (.ref a_SHIFT), .val (.int ((p3 &&& (7 : Int32)) - (2 : Int32))), .val (.int (1 : Int32)), .val (.int (1 : Int32))] [(.int (1 : Int32))])) _
      refine XS.ifNo X20.here hx rfl (hb hby at_106) rfl ((if0 _ _).trans (feq (by decide : ¬ ((1 : Int32) = (0 : Int32)))).1) ?_
      show Steps p.tables e below (T20.setTop (mkF m 109 #[.val (.int p1), .val (.int p2), .val (.int p3), .val (.int (2 : Int32)), .val (.ref a_SHIFT), .val (.int ((p3 &&& (7 : Int32)) - (2 : Int32))), .val (.int (1 : Int32)), .val (.int (1 : Int32))] [])) _
      refine XS.iconst X20.here hx rfl (hb hby at_109) ?_
      show Steps p.tables e below (T20.setTop (mkF m 110 #[.val (.int p1), .val (.int p2), .val (.int p3), .val (.int (2 : Int32)), .val (.ref a_SHIFT), .val (.int ((p3 &&& (7 : Int32)) - (2 : Int32))), .val (.int (1 : Int32)), .val (.int (1 : Int32))] [(.int (1 : Int32))])) _
      refine XS.goto X20.here hx rfl (pc0 := 110) (pc' := 114) rfl (hb hby at_110) (by decide) (by decide) ?_
      show Steps p.tables e below (T20.setTop (mkF m 114 #[.val (.int p1), .val (.int p2), .val (.int p3), .val (.int (2 : Int32)), .val (.ref a_SHIFT), .val (.int ((p3 &&& (7 : Int32)) - (2 : Int32))), .val (.int (1 : Int32)), .val (.int (1 : Int32))] [(.int (1 : Int32))])) _
      exact retN X20 hx (t := .boolean) Bd.returns (by simp) (hb hby at_114) hr
    · show Q0 n0 _ T20.heap _
      rw [r20]
      exact ⟨rfl, N20⟩
  · have R21 : ∀ tg, Steps p.tables e below (s₁.setTop (mkF m 4 #[.val (.int p1), .val (.int p2), .val (.int p3), .val (.int (3 : Int32)), .unset, .unset, .unset, .unset] [])) tg → Steps p.tables e below (s₁.setTop (mkF m 4 #[.val (.int p1), .val (.int p2), .val (.int p3), .val (.int (p1 &&& (3 : Int32))), .unset, .unset, .unset, .unset] [])) tg := fun tg kt => by rw [hk2]; exact kt
    obtain ⟨T22, X22, e22, st22⟩ := getS2 X0 hx hZ hown (host := "") (Or.inl (hw _ (List.mem_of_getElem? (i := 18) rfl))) Via.refl e0 S_CHOICE (g := (mkF m 42 #[.val (.int p1), .val (.int p2), .val (.int p3), .val (.int (3 : Int32)), .unset, .unset, .unset, .unset] [])) rfl (hb hby at_42)
    obtain ⟨cq23, kq23, q23a, q23b, q23c⟩ := isOf hZ e22 E_CHOICE
    obtain ⟨_, _, ⟨T23, L23, k23, n23⟩, -, X23, ⟨Lc23, hQ23, l23, y23, z23⟩, st23⟩ := X22.virtualBack hx (y := (⟨"com/example/typebridge/typebridge/NumericContext", "takes", "(I)Z"⟩ : MethodName)) (z := (⟨"com/example/typebridge/typebridge/NumericContext", "takes", "(I)Z"⟩ : MethodName)) hown (mvT hZ (hw _ (List.mem_of_getElem? (i := 3) rfl))) (mvT hZ (hw _ (List.mem_of_getElem? (i := 4) rfl))) (notFace_of_selects (args := #[]) (mvT hZ (hw _ (List.mem_of_getElem? (i := 6) rfl)))) (mvT hZ (hw _ (List.mem_of_getElem? (i := 6) rfl))) (mvT hZ (hw _ (List.mem_of_getElem? (i := 5) rfl))) (by decide) (backOf (W := 0) (rm1 l Z a0 hw [] a_CHOICE p2 (2 : Int32) (1 : Int32) h0 n0 Z0 F_CHOICE_operands F_CHOICE_orMore) hZ (hw _ (List.mem_of_getElem? (i := 7) rfl)) (hw _ (List.mem_of_getElem? (i := 1) rfl)) (by decide) (by decide)) q23a q23c (g := (mkF m 58 #[.val (.int p1), .val (.int p2), .val (.int p3), .val (.int (3 : Int32)), .val (.ref a_CHOICE), .val (.int ((p3 &&& (7 : Int32)) - (2 : Int32))), .unset, .unset] [(.int p2), (.ref a_CHOICE)])) rfl (by rw [hml]; rfl) (Steps.refl _) (argsL := [(.int p2)]) (rest := []) (lenOf pd_0 rfl) rfl (by show 2 * 0 + _ ≤ _; exact Nat.le_of_eq rfl) (hb hby at_58) (fun _ _ => ⟨rfl, e22, (by decide : 0 + 0 ≤ _), (by decide : 0 + 0 ≤ _)⟩)
    dsimp only [Pt.U, Pt.locs, Pt.cells, Pt.slots] at X23 l23 y23 z23 st23 hQ23
    subst l23 y23 z23
    obtain ⟨hv23, N23q, r23⟩ := hQ23
    rw [own_t3] at hv23
    subst hv23
    have N23 := Fr.app N0 N23q
    obtain ⟨_, _, ⟨T24, L24, k24, n24⟩, -, X24, ⟨Lc24, hQ24, l24, y24, z24⟩, st24⟩ := Jvm.LawKit.callS X23 hx (y := (⟨"com/example/typebridge/typebridge/NumericContextTakesPinLaw", "expected", "(II)Z"⟩ : MethodName)) hown (mvT hZ (hw _ (List.mem_of_getElem? (i := 12) rfl))) (mvT hZ (hw _ (List.mem_of_getElem? (i := 13) rfl))) (mvT hZ (hw _ (List.mem_of_getElem? (i := 14) rfl))) (mvT hZ (hw _ (List.mem_of_getElem? (i := 15) rfl))) (by decide) (backOf (W := 1) (rmE l Z a0 hw [] (3 : Int32) p2 h0 n0 Z0) hZ (hw _ (List.mem_of_getElem? (i := 15) rfl)) (hw _ (List.mem_of_getElem? (i := 14) rfl)) (by decide) (by decide)) (g := (mkF m 63 #[.val (.int p1), .val (.int p2), .val (.int p3), .val (.int (3 : Int32)), .val (.ref a_CHOICE), .val (.int ((p3 &&& (7 : Int32)) - (2 : Int32))), .unset, .unset] [(.int p2), (.int (3 : Int32)), (.int (if p2 < 2 then 0 else 1))])) rfl (by rw [hml]; rfl) (argsL := [(.int (3 : Int32)), (.int p2)]) (rest := [(.int (if p2 < 2 then 0 else 1))]) (lenOf pd_1 rfl) rfl (by show 2 * 0 + _ ≤ _; exact Nat.le_of_eq rfl) (hb hby at_63) (fun _ _ => ⟨rfl, r23, (by decide : 0 + 0 ≤ _), (by decide : 0 + 0 ≤ _)⟩)
    dsimp only [Pt.U, Pt.locs, Pt.cells, Pt.slots] at X24 l24 y24 z24 st24 hQ24
    subst l24 y24 z24
    obtain ⟨hv24, N24q, r24⟩ := hQ24
    rw [if_neg (by decide), if_pos rfl] at hv24
    subst hv24
    have N24 := Fr.app N23 N24q
    obtain ⟨cq25, kq25, q25a, q25b, q25c⟩ := isOf hZ r24 E_CHOICE
    obtain ⟨_, _, ⟨T25, L25, k25, n25⟩, -, X25, ⟨Lc25, hQ25, l25, y25, z25⟩, st25⟩ := X24.virtualBack hx (y := (⟨"com/example/typebridge/typebridge/NumericContext", "takes", "(I)Z"⟩ : MethodName)) (z := (⟨"com/example/typebridge/typebridge/NumericContext", "takes", "(I)Z"⟩ : MethodName)) hown (mvT hZ (hw _ (List.mem_of_getElem? (i := 3) rfl))) (mvT hZ (hw _ (List.mem_of_getElem? (i := 4) rfl))) (notFace_of_selects (args := #[]) (mvT hZ (hw _ (List.mem_of_getElem? (i := 6) rfl)))) (mvT hZ (hw _ (List.mem_of_getElem? (i := 6) rfl))) (mvT hZ (hw _ (List.mem_of_getElem? (i := 5) rfl))) (by decide) (backOf (W := 0) (rm1 l Z a0 hw [] a_CHOICE ((p3 &&& (7 : Int32)) - (2 : Int32)) (2 : Int32) (1 : Int32) h0 n0 Z0 F_CHOICE_operands F_CHOICE_orMore) hZ (hw _ (List.mem_of_getElem? (i := 7) rfl)) (hw _ (List.mem_of_getElem? (i := 1) rfl)) (by decide) (by decide)) q25a q25c (g := (mkF m 80 #[.val (.int p1), .val (.int p2), .val (.int p3), .val (.int (3 : Int32)), .val (.ref a_CHOICE), .val (.int ((p3 &&& (7 : Int32)) - (2 : Int32))), .val (.int (1 : Int32)), .unset] [(.int ((p3 &&& (7 : Int32)) - (2 : Int32))), (.ref a_CHOICE)])) rfl (by rw [hml]; rfl) (Steps.refl _) (argsL := [(.int ((p3 &&& (7 : Int32)) - (2 : Int32)))]) (rest := []) (lenOf pd_0 rfl) rfl (by show 2 * 0 + _ ≤ _; exact Nat.le_of_eq rfl) (hb hby at_80) (fun _ _ => ⟨rfl, r24, (by decide : 0 + 0 ≤ _), (by decide : 0 + 0 ≤ _)⟩)
    dsimp only [Pt.U, Pt.locs, Pt.cells, Pt.slots] at X25 l25 y25 z25 st25 hQ25
    subst l25 y25 z25
    obtain ⟨hv25, N25q, r25⟩ := hQ25
    rw [own_t3] at hv25
    subst hv25
    have N25 := Fr.app N24 N25q
    obtain ⟨_, _, ⟨T26, L26, k26, n26⟩, -, X26, ⟨Lc26, hQ26, l26, y26, z26⟩, st26⟩ := Jvm.LawKit.callS X25 hx (y := (⟨"com/example/typebridge/typebridge/NumericContextTakesPinLaw", "expected", "(II)Z"⟩ : MethodName)) hown (mvT hZ (hw _ (List.mem_of_getElem? (i := 12) rfl))) (mvT hZ (hw _ (List.mem_of_getElem? (i := 13) rfl))) (mvT hZ (hw _ (List.mem_of_getElem? (i := 14) rfl))) (mvT hZ (hw _ (List.mem_of_getElem? (i := 15) rfl))) (by decide) (backOf (W := 1) (rmE l Z a0 hw [] (3 : Int32) ((p3 &&& (7 : Int32)) - (2 : Int32)) h0 n0 Z0) hZ (hw _ (List.mem_of_getElem? (i := 15) rfl)) (hw _ (List.mem_of_getElem? (i := 14) rfl)) (by decide) (by decide)) (g := (mkF m 86 #[.val (.int p1), .val (.int p2), .val (.int p3), .val (.int (3 : Int32)), .val (.ref a_CHOICE), .val (.int ((p3 &&& (7 : Int32)) - (2 : Int32))), .val (.int (1 : Int32)), .unset] [(.int ((p3 &&& (7 : Int32)) - (2 : Int32))), (.int (3 : Int32)), (.int (if ((p3 &&& (7 : Int32)) - (2 : Int32)) < 2 then 0 else 1))])) rfl (by rw [hml]; rfl) (argsL := [(.int (3 : Int32)), (.int ((p3 &&& (7 : Int32)) - (2 : Int32)))]) (rest := [(.int (if ((p3 &&& (7 : Int32)) - (2 : Int32)) < 2 then 0 else 1))]) (lenOf pd_1 rfl) rfl (by show 2 * 0 + _ ≤ _; exact Nat.le_of_eq rfl) (hb hby at_86) (fun _ _ => ⟨rfl, r25, (by decide : 0 + 0 ≤ _), (by decide : 0 + 0 ≤ _)⟩)
    dsimp only [Pt.U, Pt.locs, Pt.cells, Pt.slots] at X26 l26 y26 z26 st26 hQ26
    subst l26 y26 z26
    obtain ⟨hv26, N26q, r26⟩ := hQ26
    rw [if_neg (by decide), if_pos rfl] at hv26
    subst hv26
    have N26 := Fr.app N25 N26q
    obtain ⟨fs, hr, hrun, hended, hW, hsame⟩ := X26.leave (v := some (.int (1 : Int32))) (fun h => by rw [Bd.returns] at h; cases h)
    refine ⟨_, _, pre0 _ (R1 _ (R21 _ ?_)), hrun, hended, _, _, rfl, ?_, ⟨_, rfl⟩, hW, hsame.mono (by decide) (by decide)⟩
    · show Steps p.tables e below (s₁.setTop (mkF m 4 #[.val (.int p1), .val (.int p2), .val (.int p3), .val (.int (3 : Int32)), .unset, .unset, .unset, .unset] [])) _
      refine XS.iloadN X0.here hx rfl (hb hby at_4) rfl ?_
      show Steps p.tables e below (s₁.setTop (mkF m 5 #[.val (.int p1), .val (.int p2), .val (.int p3), .val (.int (3 : Int32)), .unset, .unset, .unset, .unset] [(.int (3 : Int32))])) _
      refine XS.ifYes X0.here hx rfl (pc0 := 5) (pc' := 16) rfl (hb hby at_5) rfl ((if0 _ _).trans (feq (by decide : ¬ ((3 : Int32) = (0 : Int32)))).2) (by decide) (by decide) ?_
      show Steps p.tables e below (s₁.setTop (mkF m 16 #[.val (.int p1), .val (.int p2), .val (.int p3), .val (.int (3 : Int32)), .unset, .unset, .unset, .unset] [])) _
      refine XS.iloadN X0.here hx rfl (hb hby at_16) rfl ?_
      show Steps p.tables e below (s₁.setTop (mkF m 17 #[.val (.int p1), .val (.int p2), .val (.int p3), .val (.int (3 : Int32)), .unset, .unset, .unset, .unset] [(.int (3 : Int32))])) _
      refine XS.iconst X0.here hx rfl (hb hby at_17) ?_
      show Steps p.tables e below (s₁.setTop (mkF m 18 #[.val (.int p1), .val (.int p2), .val (.int p3), .val (.int (3 : Int32)), .unset, .unset, .unset, .unset] [(.int (1 : Int32)), (.int (3 : Int32))])) _
      refine XS.icmpYes X0.here hx rfl (pc0 := 18) (pc' := 29) rfl (hb hby at_18) rfl (feq (by decide : ¬ ((3 : Int32) = (1 : Int32)))).2 (by decide) (by decide) ?_
      show Steps p.tables e below (s₁.setTop (mkF m 29 #[.val (.int p1), .val (.int p2), .val (.int p3), .val (.int (3 : Int32)), .unset, .unset, .unset, .unset] [])) _
      refine XS.iloadN X0.here hx rfl (hb hby at_29) rfl ?_
      show Steps p.tables e below (s₁.setTop (mkF m 30 #[.val (.int p1), .val (.int p2), .val (.int p3), .val (.int (3 : Int32)), .unset, .unset, .unset, .unset] [(.int (3 : Int32))])) _
      refine XS.iconst X0.here hx rfl (hb hby at_30) ?_
      show Steps p.tables e below (s₁.setTop (mkF m 31 #[.val (.int p1), .val (.int p2), .val (.int p3), .val (.int (3 : Int32)), .unset, .unset, .unset, .unset] [(.int (2 : Int32)), (.int (3 : Int32))])) _
      refine XS.icmpYes X0.here hx rfl (pc0 := 31) (pc' := 42) rfl (hb hby at_31) rfl (feq (by decide : ¬ ((3 : Int32) = (2 : Int32)))).2 (by decide) (by decide) ?_
      show Steps p.tables e below (s₁.setTop (mkF m 42 #[.val (.int p1), .val (.int p2), .val (.int p3), .val (.int (3 : Int32)), .unset, .unset, .unset, .unset] [])) _
      refine st22 _ ?_
      show Steps p.tables e below (T22.setTop (mkF m 45 #[.val (.int p1), .val (.int p2), .val (.int p3), .val (.int (3 : Int32)), .unset, .unset, .unset, .unset] [(.ref a_CHOICE)])) _
      refine XS.astore X22.here hx rfl (hb hby at_45) rfl rfl (l' := #[.val (.int p1), .val (.int p2), .val (.int p3), .val (.int (3 : Int32)), .val (.ref a_CHOICE), .unset, .unset, .unset]) rfl ?_
      show Steps p.tables e below (T22.setTop (mkF m 47 #[.val (.int p1), .val (.int p2), .val (.int p3), .val (.int (3 : Int32)), .val (.ref a_CHOICE), .unset, .unset, .unset] [])) _
      refine XS.iloadN X22.here hx rfl (hb hby at_47) rfl ?_
      show Steps p.tables e below (T22.setTop (mkF m 48 #[.val (.int p1), .val (.int p2), .val (.int p3), .val (.int (3 : Int32)), .val (.ref a_CHOICE), .unset, .unset, .unset] [(.int p3)])) _
      refine XS.bipush X22.here hx rfl (hb hby at_48) ?_
      show Steps p.tables e below (T22.setTop (mkF m 50 #[.val (.int p1), .val (.int p2), .val (.int p3), .val (.int (3 : Int32)), .val (.ref a_CHOICE), .unset, .unset, .unset] [(.int (7 : Int32)), (.int p3)])) _
      refine XS.iand X22.here hx rfl (hb hby at_50) rfl ?_
      show Steps p.tables e below (T22.setTop (mkF m 51 #[.val (.int p1), .val (.int p2), .val (.int p3), .val (.int (3 : Int32)), .val (.ref a_CHOICE), .unset, .unset, .unset] [(.int (p3 &&& (7 : Int32)))])) _
      refine XS.iconst X22.here hx rfl (hb hby at_51) ?_
      show Steps p.tables e below (T22.setTop (mkF m 52 #[.val (.int p1), .val (.int p2), .val (.int p3), .val (.int (3 : Int32)), .val (.ref a_CHOICE), .unset, .unset, .unset] [(.int (2 : Int32)), (.int (p3 &&& (7 : Int32)))])) _
      refine XS.isub X22.here hx rfl (hb hby at_52) rfl ?_
      show Steps p.tables e below (T22.setTop (mkF m 53 #[.val (.int p1), .val (.int p2), .val (.int p3), .val (.int (3 : Int32)), .val (.ref a_CHOICE), .unset, .unset, .unset] [(.int ((p3 &&& (7 : Int32)) - (2 : Int32)))])) _
      refine XS.istore X22.here hx rfl (hb hby at_53) rfl (l' := #[.val (.int p1), .val (.int p2), .val (.int p3), .val (.int (3 : Int32)), .val (.ref a_CHOICE), .val (.int ((p3 &&& (7 : Int32)) - (2 : Int32))), .unset, .unset]) rfl ?_
      show Steps p.tables e below (T22.setTop (mkF m 55 #[.val (.int p1), .val (.int p2), .val (.int p3), .val (.int (3 : Int32)), .val (.ref a_CHOICE), .val (.int ((p3 &&& (7 : Int32)) - (2 : Int32))), .unset, .unset] [])) _
      refine XS.aload X22.here hx rfl (hb hby at_55) rfl rfl ?_
      show Steps p.tables e below (T22.setTop (mkF m 57 #[.val (.int p1), .val (.int p2), .val (.int p3), .val (.int (3 : Int32)), .val (.ref a_CHOICE), .val (.int ((p3 &&& (7 : Int32)) - (2 : Int32))), .unset, .unset] [(.ref a_CHOICE)])) _
      refine XS.iloadN X22.here hx rfl (hb hby at_57) rfl ?_
      show Steps p.tables e below (T22.setTop (mkF m 58 #[.val (.int p1), .val (.int p2), .val (.int p3), .val (.int (3 : Int32)), .val (.ref a_CHOICE), .val (.int ((p3 &&& (7 : Int32)) - (2 : Int32))), .unset, .unset] [(.int p2), (.ref a_CHOICE)])) _
      refine st23.trans ?_
      show Steps p.tables e below (T23.setTop (mkF m 61 #[.val (.int p1), .val (.int p2), .val (.int p3), .val (.int (3 : Int32)), .val (.ref a_CHOICE), .val (.int ((p3 &&& (7 : Int32)) - (2 : Int32))), .unset, .unset] [(.int (if p2 < 2 then 0 else 1))])) _
      refine XS.iloadN X23.here hx rfl (hb hby at_61) rfl ?_
      show Steps p.tables e below (T23.setTop (mkF m 62 #[.val (.int p1), .val (.int p2), .val (.int p3), .val (.int (3 : Int32)), .val (.ref a_CHOICE), .val (.int ((p3 &&& (7 : Int32)) - (2 : Int32))), .unset, .unset] [(.int (3 : Int32)), (.int (if p2 < 2 then 0 else 1))])) _
      refine XS.iloadN X23.here hx rfl (hb hby at_62) rfl ?_
      show Steps p.tables e below (T23.setTop (mkF m 63 #[.val (.int p1), .val (.int p2), .val (.int p3), .val (.int (3 : Int32)), .val (.ref a_CHOICE), .val (.int ((p3 &&& (7 : Int32)) - (2 : Int32))), .unset, .unset] [(.int p2), (.int (3 : Int32)), (.int (if p2 < 2 then 0 else 1))])) _
      refine st24 _ ?_
      show Steps p.tables e below (T24.setTop (mkF m 66 #[.val (.int p1), .val (.int p2), .val (.int p3), .val (.int (3 : Int32)), .val (.ref a_CHOICE), .val (.int ((p3 &&& (7 : Int32)) - (2 : Int32))), .unset, .unset] [(.int (if p2 < 2 then 0 else 1)), (.int (if p2 < 2 then 0 else 1))])) _
      refine XS.icmpNo X24.here hx rfl (hb hby at_66) rfl (teq rfl).2 ?_
      show Steps p.tables e below (T24.setTop (mkF m 69 #[.val (.int p1), .val (.int p2), .val (.int p3), .val (.int (3 : Int32)), .val (.ref a_CHOICE), .val (.int ((p3 &&& (7 : Int32)) - (2 : Int32))), .unset, .unset] [])) _
      refine XS.iconst X24.here hx rfl (hb hby at_69) ?_
      show Steps p.tables e below (T24.setTop (mkF m 70 #[.val (.int p1), .val (.int p2), .val (.int p3), .val (.int (3 : Int32)), .val (.ref a_CHOICE), .val (.int ((p3 &&& (7 : Int32)) - (2 : Int32))), .unset, .unset] [(.int (1 : Int32))])) _
      refine XS.goto X24.here hx rfl (pc0 := 70) (pc' := 74) rfl (hb hby at_70) (by decide) (by decide) ?_
      show Steps p.tables e below (T24.setTop (mkF m 74 #[.val (.int p1), .val (.int p2), .val (.int p3), .val (.int (3 : Int32)), .val (.ref a_CHOICE), .val (.int ((p3 &&& (7 : Int32)) - (2 : Int32))), .unset, .unset] [(.int (1 : Int32))])) _
      refine XS.istore X24.here hx rfl (hb hby at_74) rfl (l' := #[.val (.int p1), .val (.int p2), .val (.int p3), .val (.int (3 : Int32)), .val (.ref a_CHOICE), .val (.int ((p3 &&& (7 : Int32)) - (2 : Int32))), .val (.int (1 : Int32)), .unset]) rfl ?_
      show Steps p.tables e below (T24.setTop (mkF m 76 #[.val (.int p1), .val (.int p2), .val (.int p3), .val (.int (3 : Int32)), .val (.ref a_CHOICE), .val (.int ((p3 &&& (7 : Int32)) - (2 : Int32))), .val (.int (1 : Int32)), .unset] [])) _
      refine XS.aload X24.here hx rfl (hb hby at_76) rfl rfl ?_
      show Steps p.tables e below (T24.setTop (mkF m 78 #[.val (.int p1), .val (.int p2), .val (.int p3), .val (.int (3 : Int32)), .val (.ref a_CHOICE), .val (.int ((p3 &&& (7 : Int32)) - (2 : Int32))), .val (.int (1 : Int32)), .unset] [(.ref a_CHOICE)])) _
      refine XS.iload X24.here hx rfl (hb hby at_78) rfl ?_
      show Steps p.tables e below (T24.setTop (mkF m 80 #[.val (.int p1), .val (.int p2), .val (.int p3), .val (.int (3 : Int32)), .val (.ref a_CHOICE), .val (.int ((p3 &&& (7 : Int32)) - (2 : Int32))), .val (.int (1 : Int32)), .unset] [(.int ((p3 &&& (7 : Int32)) - (2 : Int32))), (.ref a_CHOICE)])) _
      refine st25.trans ?_
      show Steps p.tables e below (T25.setTop (mkF m 83 #[.val (.int p1), .val (.int p2), .val (.int p3), .val (.int (3 : Int32)), .val (.ref a_CHOICE), .val (.int ((p3 &&& (7 : Int32)) - (2 : Int32))), .val (.int (1 : Int32)), .unset] [(.int (if ((p3 &&& (7 : Int32)) - (2 : Int32)) < 2 then 0 else 1))])) _
      refine XS.iloadN X25.here hx rfl (hb hby at_83) rfl ?_
      show Steps p.tables e below (T25.setTop (mkF m 84 #[.val (.int p1), .val (.int p2), .val (.int p3), .val (.int (3 : Int32)), .val (.ref a_CHOICE), .val (.int ((p3 &&& (7 : Int32)) - (2 : Int32))), .val (.int (1 : Int32)), .unset] [(.int (3 : Int32)), (.int (if ((p3 &&& (7 : Int32)) - (2 : Int32)) < 2 then 0 else 1))])) _
      refine XS.iload X25.here hx rfl (hb hby at_84) rfl ?_
      show Steps p.tables e below (T25.setTop (mkF m 86 #[.val (.int p1), .val (.int p2), .val (.int p3), .val (.int (3 : Int32)), .val (.ref a_CHOICE), .val (.int ((p3 &&& (7 : Int32)) - (2 : Int32))), .val (.int (1 : Int32)), .unset] [(.int ((p3 &&& (7 : Int32)) - (2 : Int32))), (.int (3 : Int32)), (.int (if ((p3 &&& (7 : Int32)) - (2 : Int32)) < 2 then 0 else 1))])) _
      refine st26 _ ?_
      show Steps p.tables e below (T26.setTop (mkF m 89 #[.val (.int p1), .val (.int p2), .val (.int p3), .val (.int (3 : Int32)), .val (.ref a_CHOICE), .val (.int ((p3 &&& (7 : Int32)) - (2 : Int32))), .val (.int (1 : Int32)), .unset] [(.int (if ((p3 &&& (7 : Int32)) - (2 : Int32)) < 2 then 0 else 1)), (.int (if ((p3 &&& (7 : Int32)) - (2 : Int32)) < 2 then 0 else 1))])) _
      refine XS.icmpNo X26.here hx rfl (hb hby at_89) rfl (teq rfl).2 ?_
      show Steps p.tables e below (T26.setTop (mkF m 92 #[.val (.int p1), .val (.int p2), .val (.int p3), .val (.int (3 : Int32)), .val (.ref a_CHOICE), .val (.int ((p3 &&& (7 : Int32)) - (2 : Int32))), .val (.int (1 : Int32)), .unset] [])) _
      refine XS.iconst X26.here hx rfl (hb hby at_92) ?_
      show Steps p.tables e below (T26.setTop (mkF m 93 #[.val (.int p1), .val (.int p2), .val (.int p3), .val (.int (3 : Int32)), .val (.ref a_CHOICE), .val (.int ((p3 &&& (7 : Int32)) - (2 : Int32))), .val (.int (1 : Int32)), .unset] [(.int (1 : Int32))])) _
      refine XS.goto X26.here hx rfl (pc0 := 93) (pc' := 97) rfl (hb hby at_93) (by decide) (by decide) ?_
      show Steps p.tables e below (T26.setTop (mkF m 97 #[.val (.int p1), .val (.int p2), .val (.int p3), .val (.int (3 : Int32)), .val (.ref a_CHOICE), .val (.int ((p3 &&& (7 : Int32)) - (2 : Int32))), .val (.int (1 : Int32)), .unset] [(.int (1 : Int32))])) _
      refine XS.istore X26.here hx rfl (hb hby at_97) rfl (l' := #[.val (.int p1), .val (.int p2), .val (.int p3), .val (.int (3 : Int32)), .val (.ref a_CHOICE), .val (.int ((p3 &&& (7 : Int32)) - (2 : Int32))), .val (.int (1 : Int32)), .val (.int (1 : Int32))]) rfl ?_
      show Steps p.tables e below (T26.setTop (mkF m 99 #[.val (.int p1), .val (.int p2), .val (.int p3), .val (.int (3 : Int32)), .val (.ref a_CHOICE), .val (.int ((p3 &&& (7 : Int32)) - (2 : Int32))), .val (.int (1 : Int32)), .val (.int (1 : Int32))] [])) _
      refine XS.iload X26.here hx rfl (hb hby at_99) rfl ?_
      show Steps p.tables e below (T26.setTop (mkF m 101 #[.val (.int p1), .val (.int p2), .val (.int p3), .val (.int (3 : Int32)), .val (.ref a_CHOICE), .val (.int ((p3 &&& (7 : Int32)) - (2 : Int32))), .val (.int (1 : Int32)), .val (.int (1 : Int32))] [(.int (1 : Int32))])) _
      refine XS.ifNo X26.here hx rfl (hb hby at_101) rfl ((if0 _ _).trans (feq (by decide : ¬ ((1 : Int32) = (0 : Int32)))).1) ?_
      show Steps p.tables e below (T26.setTop (mkF m 104 #[.val (.int p1), .val (.int p2), .val (.int p3), .val (.int (3 : Int32)), .val (.ref a_CHOICE), .val (.int ((p3 &&& (7 : Int32)) - (2 : Int32))), .val (.int (1 : Int32)), .val (.int (1 : Int32))] [])) _
      refine XS.iload X26.here hx rfl (hb hby at_104) rfl ?_
      show Steps p.tables e below (T26.setTop (mkF m 106 #[.val (.int p1), .val (.int p2), .val (.int p3), .val (.int (3 : Int32)), .val (.ref a_CHOICE), .val (.int ((p3 &&& (7 : Int32)) - (2 : Int32))), .val (.int (1 : Int32)), .val (.int (1 : Int32))] [(.int (1 : Int32))])) _
      refine XS.ifNo X26.here hx rfl (hb hby at_106) rfl ((if0 _ _).trans (feq (by decide : ¬ ((1 : Int32) = (0 : Int32)))).1) ?_
      show Steps p.tables e below (T26.setTop (mkF m 109 #[.val (.int p1), .val (.int p2), .val (.int p3), .val (.int (3 : Int32)), .val (.ref a_CHOICE), .val (.int ((p3 &&& (7 : Int32)) - (2 : Int32))), .val (.int (1 : Int32)), .val (.int (1 : Int32))] [])) _
      refine XS.iconst X26.here hx rfl (hb hby at_109) ?_
      show Steps p.tables e below (T26.setTop (mkF m 110 #[.val (.int p1), .val (.int p2), .val (.int p3), .val (.int (3 : Int32)), .val (.ref a_CHOICE), .val (.int ((p3 &&& (7 : Int32)) - (2 : Int32))), .val (.int (1 : Int32)), .val (.int (1 : Int32))] [(.int (1 : Int32))])) _
      refine XS.goto X26.here hx rfl (pc0 := 110) (pc' := 114) rfl (hb hby at_110) (by decide) (by decide) ?_
      show Steps p.tables e below (T26.setTop (mkF m 114 #[.val (.int p1), .val (.int p2), .val (.int p3), .val (.int (3 : Int32)), .val (.ref a_CHOICE), .val (.int ((p3 &&& (7 : Int32)) - (2 : Int32))), .val (.int (1 : Int32)), .val (.int (1 : Int32))] [(.int (1 : Int32))])) _
      exact retN X26 hx (t := .boolean) Bd.returns (by simp) (hb hby at_114) hr
    · show Q0 n0 _ T26.heap _
      rw [r26]
      exact ⟨rfl, N26⟩
set_option maxRecDepth 65536 in
set_option maxHeartbeats 40000000 in
theorem comes_1 {Post : Tables → Env → Array Value → State → Outcome → State → Prop} (hpost : ∀ tb e args s v u, (limb_1_1.after args s (.returned v) u = true ∧ limb_1_2.after args s (.returned v) u = true ∧ True) → FrameEnd s (.returned v) u (Jvm.fieldLocs frame_1_writes args s ++ Jvm.arrayLocs frame_1_arrays args s ++ Jvm.staticLocs frame_1_statics s) 0 0 → Post tb e args s (.returned v) u) :
    ArmFor flags0 classFile x code maxLocals ret World_1 tables_1 room_1 Calls_1 rest_1 Pre_1 Post := by
  intro l hfl _ _ p e ha hc hk s m args below hf hA hF happ hP
  obtain ⟨hcalls, hrest, hpre⟩ := hP
  obtain ⟨-, -, -, hnamed, -, -, -, hat⟩ := (Spec.applies_iff hf).mp happ
  obtain ⟨hg, hn⟩ := and_e (Cond.before_iff.mp (show (Jvm.Cond.and given_1 narrow_1).before args s = true from hpre))
  obtain ⟨g1a, g1b⟩ := and_e hg
  obtain ⟨g2a, g2b⟩ := and_e g1b
  obtain ⟨g3a, g3b⟩ := and_e g2b
  obtain ⟨w0, w1, w2, rfl⟩ : ∃ w0 w1 w2 : Value, args = #[w0, w1, w2] := by
    have hs : args.size = 3 := by simpa [Cond.value, given_1] using g1a
    obtain ⟨L⟩ := args
    match L, hs with
    | [w0, w1, w2], _ => exact ⟨w0, w1, w2, rfl⟩
  have hw := fun d (hd : d ∈ tables_1) => atoms_spec (ws := Jvm.Cond.code x code maxLocals ret :: tables_1) hat d (List.mem_cons_of_mem _ hd)
  have hfit : Fit s := fun {y c} hc i hi => by
    obtain ⟨ha, rfl⟩ := Array.getElem?_eq_some_iff.mp hc
    have q := List.all_eq_true.mp ((Array.all_eq_true_iff_forall_mem.mp hF) _ (Array.getElem_mem ha)) i (List.mem_range.mpr hi)
    simpa [Array.getElem?_eq_getElem hi] using q
  obtain ⟨i0, ei0⟩ := is_v g2a
  obtain rfl : w0 = (.int i0) := Option.some.inj ei0
  obtain ⟨i1, ei1⟩ := is_v g3a
  obtain rfl : w1 = (.int i1) := Option.some.inj ei1
  obtain ⟨i2, ei2⟩ := is_v g3b
  obtain rfl : w2 = (.int i2) := Option.some.inj ei2
  obtain ⟨u1a, u1b⟩ := and_e hn
  obtain ⟨u2a, u2b⟩ := and_e u1b
  obtain ⟨u3a, u3b⟩ := and_e u2b
  obtain ⟨u4a, u4b⟩ := and_e u3b
  obtain ⟨u5a, u5b⟩ := and_e u4b
  obtain ⟨u6a, u6b⟩ := and_e u5b
  obtain ⟨u7a, u7b⟩ := and_e u6b
  obtain ⟨u8a, u8b⟩ := and_e u7b
  obtain ⟨u9a, u9b⟩ := and_e u8b
  obtain ⟨u10a, u10b⟩ := and_e u9b
  obtain ⟨u11a, u11b⟩ := and_e u10b
  obtain ⟨a_UNARY, ev_UNARY⟩ := exa_v u1a
  have S_UNARY := Sta.start ev_UNARY (Or.inr ⟨(hw _ (List.mem_of_getElem? (i := 1) rfl)), (hw _ (List.mem_of_getElem? (i := 2) rfl))⟩)
  have E_UNARY := Exa.start ev_UNARY u1a
  have F_UNARY_operands := own_fld ev_UNARY u2a
  have F_UNARY_orMore := own_fld ev_UNARY u3a
  obtain ⟨a_BINARY, ev_BINARY⟩ := exa_v u4a
  have S_BINARY := Sta.start ev_BINARY (Or.inr ⟨(hw _ (List.mem_of_getElem? (i := 1) rfl)), (hw _ (List.mem_of_getElem? (i := 17) rfl))⟩)
  have E_BINARY := Exa.start ev_BINARY u4a
  have F_BINARY_operands := own_fld ev_BINARY u5a
  have F_BINARY_orMore := own_fld ev_BINARY u6a
  obtain ⟨a_CHOICE, ev_CHOICE⟩ := exa_v u7a
  have S_CHOICE := Sta.start ev_CHOICE (Or.inr ⟨(hw _ (List.mem_of_getElem? (i := 1) rfl)), (hw _ (List.mem_of_getElem? (i := 19) rfl))⟩)
  have E_CHOICE := Exa.start ev_CHOICE u7a
  have F_CHOICE_operands := own_fld ev_CHOICE u8a
  have F_CHOICE_orMore := own_fld ev_CHOICE u9a
  obtain ⟨a_SHIFT, ev_SHIFT⟩ := exa_v u10a
  have S_SHIFT := Sta.start ev_SHIFT (Or.inr ⟨(hw _ (List.mem_of_getElem? (i := 1) rfl)), (hw _ (List.mem_of_getElem? (i := 21) rfl))⟩)
  have E_SHIFT := Exa.start ev_SHIFT u10a
  have F_SHIFT_operands := own_fld ev_SHIFT u11a
  have F_SHIFT_orMore := own_fld ev_SHIFT u11b
  obtain ⟨n, o, h1, h2, h3, _, L, rfl, ⟨rfl, N⟩, hq⟩ := rm0 l s _ hw tables_1 i0 i1 i2 a_UNARY a_BINARY a_CHOICE a_SHIFT s.heap s.heap.size (Nat.le_refl _) S_UNARY E_UNARY F_UNARY_operands F_UNARY_orMore S_BINARY E_BINARY F_BINARY_operands F_BINARY_orMore S_CHOICE E_CHOICE F_CHOICE_operands F_CHOICE_orMore S_SHIFT E_SHIFT F_SHIFT_operands F_SHIFT_orMore p e ha hc hk s m _ below hf ((Spec.applies_iff_loose hf).mp happ).1 ⟨rfl, State.Warmed39.refl s, rfl⟩ trivial
  refine ⟨n, _, h1, h2, h3, hpost _ _ _ _ _ _ ⟨Cond.after_iff.mpr rfl, Cond.after_iff.mpr (eq_i res_at (Term.int_eval (1)) rfl), trivial⟩ ⟨hq.1, hq.2.1, (hq.2.2.sift fun y hy => Or.inr (N y hy)).mono (by decide) (by decide)⟩⟩
theorem main_1_1 : Claimed_1_1 := comes_1 fun _ _ _ _ _ _ h hF => ⟨h.1, hF⟩
theorem main_1_2 : Claimed_1_2 := comes_1 fun _ _ _ _ _ _ h hF => ⟨h.2.1, hF⟩
end Jvm.Pilot.@@N@@
namespace Jvm.Pilot.@@N@@
open Jvm Jvm.ClassFile Sem Op Lib Jvm.Free Jvm.Stand Jvm.Pilot.@@N@@.Jvm.D
/-! MADE BY PROGRAM (witnessworld.py) out of the Statement's table words and the real class files: 12 classes; the members and pool entries that the words name. The judged class is class 1, her method 1. -/
namespace start1
open Jvm.ClassFile
def u (s : String) : CpInfo := .utf8 (stringToUtf16 s)
/-- a pool by its gaps: so many unusable entries, then the entry; so many at the end -/
def gap : Nat → List CpInfo → List CpInfo
  | 0, r => r
  | n + 1, r => .unusable :: gap n r
def poolList (es : List (Nat × CpInfo)) (last : Nat) : List CpInfo := es.foldr (fun e r => gap e.1 (e.2 :: r)) (gap last [])
def pool (es : List (Nat × CpInfo)) (last : Nat) : Array CpInfo := ⟨poolList es last⟩
def fileOf (pool : Array CpInfo) (this : Nat) (attrs : Array Attribute := #[]) (ms : Array MethodInfo := #[]) (fl : Nat := 33) (sup : Nat := 0) (ifs : Array Nat := #[]) (fds : Array FieldInfo := #[]) : ClassFile where
  minorVersion := 0
  majorVersion := 65
  constantPool := pool
  accessFlags := fl
  thisClass := this
  superClass := sup
  interfaces := ifs
  fields := fds
  methods := ms
  attributes := attrs
def plain (name : String) (sup : Option ClassId) : Class where
  name := name
  kind := .ordinary
  loader := none
  accessFlags := 33
  super := sup
  interfaces := #[]
  cf := none
  fields := #[]
  methods := #[]
  instanceTypes := #[]
  staticTypes := #[]
  resolved := #[]
  callSites := []
  init := .initialized
  statics := none
  mirror := none

def pool0 : Array CpInfo := pool [(5, u "<init>"), (0, u "()V"), (1, .class_ 10), (1, u "java/lang/Object")] 113

def k0m0 : Method := { name := "<init>", desc := "()V", sig := { parameters := [], returnType := none }, accessFlags := 1, code := none }
/-- java/lang/Object -/
def k0 : Class := { plain "java/lang/Object" none with
  accessFlags := 33
  interfaces := #[]
  cf := some (fileOf pool0 8 #[] #[{ accessFlags := 1, nameIndex := 5, descriptorIndex := 6, attributes := #[] }] 33 0 #[] #[])
  fields := #[]
  methods := #[k0m0]
  instanceTypes := #[]
  staticTypes := #[]
  resolved := Array.replicate 124 none
  statics := none }

def pool1 : Array CpInfo := pool [(2, .class_ 4), (1, u "java/lang/Object"), (0, u "<init>"), (0, u "()V"), (0, .fieldref 8 9), (0, .class_ 10), (0, .nameAndType 11 12), (0, u "com/example/typebridge/typebridge/NumericContext"), (0, u "UNARY"), (0, u "Lcom/example/typebridge/typebridge/NumericContext;"), (0, .fieldref 8 14), (0, .nameAndType 15 12), (0, u "BINARY"), (0, .fieldref 8 17), (0, .nameAndType 18 12), (0, u "SHIFT"), (0, .fieldref 8 20), (0, .nameAndType 21 12), (0, u "CHOICE"), (0, .methodref 8 23), (0, .nameAndType 24 25), (0, u "takes"), (0, u "(I)Z"), (0, .methodref 27 28), (0, .class_ 29), (0, .nameAndType 30 31), (0, u "com/example/typebridge/typebridge/NumericContextTakesPinLaw"), (0, u "expected"), (0, u "(II)Z"), (2, u "law"), (0, u "(III)Z")] 3

def k1m0 : Method := { name := "<init>", desc := "()V", sig := { parameters := [], returnType := none }, accessFlags := 1, code := none }
def k1c1 : Code := { maxStack := 3, maxLocals := 8, code := code, exceptionTable := #[], attributes := #[] }
def k1m1 : Method := { name := "law", desc := "(III)Z", sig := { parameters := [.int, .int, .int], returnType := some .boolean }, accessFlags := 9, code := some k1c1 }
def k1c2 : Code := { maxStack := 2, maxLocals := 2, code := method_3_code, exceptionTable := #[], attributes := #[] }
def k1m2 : Method := { name := "expected", desc := "(II)Z", sig := { parameters := [.int, .int], returnType := some .boolean }, accessFlags := 10, code := some k1c2 }
/-- com/example/typebridge/typebridge/NumericContextTakesPinLaw -/
def k1 : Class := { plain "com/example/typebridge/typebridge/NumericContextTakesPinLaw" (some 0) with
  accessFlags := 49
  interfaces := #[]
  cf := some (fileOf pool1 27 #[] #[{ accessFlags := 1, nameIndex := 5, descriptorIndex := 6, attributes := #[] }, { accessFlags := 9, nameIndex := 34, descriptorIndex := 35, attributes := #[] }, { accessFlags := 10, nameIndex := 30, descriptorIndex := 31, attributes := #[] }] 49 2 #[] #[])
  fields := #[]
  methods := #[k1m0, k1m1, k1m2]
  instanceTypes := #[]
  staticTypes := #[]
  resolved := Array.replicate 39 none
  statics := none }

def pool2 : Array CpInfo := pool [(1, .class_ 2), (0, u "java/lang/constant/Constable"), (0, .class_ 4), (0, u "java/lang/Object")] 6

/-- java/lang/constant/Constable -/
def k2 : Class := { plain "java/lang/constant/Constable" (some 0) with
  accessFlags := 1537
  interfaces := #[]
  cf := some (fileOf pool2 1 #[] #[] 1537 3 #[] #[])
  fields := #[]
  methods := #[]
  instanceTypes := #[]
  staticTypes := #[]
  resolved := Array.replicate 11 none
  statics := none }

def pool3 : Array CpInfo := pool [(1, .class_ 2), (0, u "java/lang/Comparable"), (0, .class_ 4), (0, u "java/lang/Object")] 7

/-- java/lang/Comparable -/
def k3 : Class := { plain "java/lang/Comparable" (some 0) with
  accessFlags := 1537
  interfaces := #[]
  cf := some (fileOf pool3 1 #[] #[] 1537 3 #[] #[])
  fields := #[]
  methods := #[]
  instanceTypes := #[]
  staticTypes := #[]
  resolved := Array.replicate 12 none
  statics := none }

def pool4 : Array CpInfo := pool [(1, .class_ 2), (0, u "java/io/Serializable"), (0, .class_ 4), (0, u "java/lang/Object")] 2

/-- java/io/Serializable -/
def k4 : Class := { plain "java/io/Serializable" (some 0) with
  accessFlags := 1537
  interfaces := #[]
  cf := some (fileOf pool4 1 #[] #[] 1537 3 #[] #[])
  fields := #[]
  methods := #[]
  instanceTypes := #[]
  staticTypes := #[]
  resolved := Array.replicate 7 none
  statics := none }

def pool5 : Array CpInfo := pool [(2, .class_ 4), (1, u "java/lang/Enum"), (0, u "name"), (0, u "Ljava/lang/String;"), (2, u "ordinal"), (0, u "I"), (1, .class_ 14), (1, u "java/lang/Object"), (4, u "hash"), (86, .class_ 108), (1, u "java/lang/Enum$EnumDesc"), (2, .class_ 112), (0, u "java/lang/constant/Constable"), (0, .class_ 114), (0, u "java/lang/Comparable"), (0, .class_ 116), (0, u "java/io/Serializable")] 87

/-- java/lang/Enum -/
def k5 : Class := { plain "java/lang/Enum" (some 0) with
  accessFlags := 1057
  interfaces := #[2, 3, 4]
  cf := some (fileOf pool5 2 #[.nestMembers #[106]] #[] 1057 12 #[111, 113, 115] #[{ accessFlags := 18, nameIndex := 5, descriptorIndex := 6, attributes := #[] }, { accessFlags := 18, nameIndex := 9, descriptorIndex := 10, attributes := #[] }, { accessFlags := 2, nameIndex := 19, descriptorIndex := 10, attributes := #[] }])
  fields := #[{ name := "name", type := (.object "java/lang/String"), accessFlags := 18, slot := 0, constantValue := 0 }, { name := "ordinal", type := .int, accessFlags := 18, slot := 1, constantValue := 0 }, { name := "hash", type := .int, accessFlags := 2, slot := 2, constantValue := 0 }]
  methods := #[]
  instanceTypes := #[(.object "java/lang/String"), .int, .int]
  staticTypes := #[]
  resolved := Array.replicate 204 none
  statics := none }

def pool6 : Array CpInfo := pool [(1, .class_ 2), (0, u "com/example/typebridge/typebridge/NumericContext"), (2, u "UNARY"), (0, u "Lcom/example/typebridge/typebridge/NumericContext;"), (2, u "BINARY"), (2, u "SHIFT"), (2, u "CHOICE"), (2, u "$VALUES"), (0, u "[Lcom/example/typebridge/typebridge/NumericContext;"), (6, .class_ 28), (1, u "java/lang/Enum"), (8, u "token"), (0, u "Ljava/lang/String;"), (0, .fieldref 1 40), (0, .nameAndType 41 42), (0, u "operands"), (0, u "I"), (0, .fieldref 1 44), (0, .nameAndType 45 46), (0, u "orMore"), (0, u "Z"), (61, u "takes"), (0, u "(I)Z")] 21

def k6c0 : Code := { maxStack := 2, maxLocals := 2, code := prog_40_method_6_code, exceptionTable := #[], attributes := #[] }
def k6m0 : Method := { name := "takes", desc := "(I)Z", sig := { parameters := [.int], returnType := some .boolean }, accessFlags := 1, code := some k6c0 }
/-- com/example/typebridge/typebridge/NumericContext -/
def k6 : Class := { plain "com/example/typebridge/typebridge/NumericContext" (some 5) with
  accessFlags := 16433
  interfaces := #[]
  cf := some (fileOf pool6 1 #[] #[{ accessFlags := 1, nameIndex := 108, descriptorIndex := 109, attributes := #[] }] 16433 26 #[] #[{ accessFlags := 16409, nameIndex := 5, descriptorIndex := 6, attributes := #[] }, { accessFlags := 16409, nameIndex := 9, descriptorIndex := 6, attributes := #[] }, { accessFlags := 16409, nameIndex := 12, descriptorIndex := 6, attributes := #[] }, { accessFlags := 16409, nameIndex := 15, descriptorIndex := 6, attributes := #[] }, { accessFlags := 18, nameIndex := 37, descriptorIndex := 38, attributes := #[] }, { accessFlags := 18, nameIndex := 41, descriptorIndex := 42, attributes := #[] }, { accessFlags := 18, nameIndex := 45, descriptorIndex := 46, attributes := #[] }, { accessFlags := 4122, nameIndex := 18, descriptorIndex := 19, attributes := #[] }])
  fields := #[{ name := "UNARY", type := (.object "com/example/typebridge/typebridge/NumericContext"), accessFlags := 16409, slot := 0, constantValue := 0 }, { name := "BINARY", type := (.object "com/example/typebridge/typebridge/NumericContext"), accessFlags := 16409, slot := 1, constantValue := 0 }, { name := "SHIFT", type := (.object "com/example/typebridge/typebridge/NumericContext"), accessFlags := 16409, slot := 2, constantValue := 0 }, { name := "CHOICE", type := (.object "com/example/typebridge/typebridge/NumericContext"), accessFlags := 16409, slot := 3, constantValue := 0 }, { name := "token", type := (.object "java/lang/String"), accessFlags := 18, slot := 3, constantValue := 0 }, { name := "operands", type := .int, accessFlags := 18, slot := 4, constantValue := 0 }, { name := "orMore", type := .boolean, accessFlags := 18, slot := 5, constantValue := 0 }, { name := "$VALUES", type := (.array (.object "com/example/typebridge/typebridge/NumericContext")), accessFlags := 4122, slot := 4, constantValue := 0 }]
  methods := #[k6m0]
  instanceTypes := #[(.object "java/lang/String"), .int, .int, (.object "java/lang/String"), .int, .boolean]
  staticTypes := #[(.object "com/example/typebridge/typebridge/NumericContext"), (.object "com/example/typebridge/typebridge/NumericContext"), (.object "com/example/typebridge/typebridge/NumericContext"), (.object "com/example/typebridge/typebridge/NumericContext"), (.array (.object "com/example/typebridge/typebridge/NumericContext"))]
  resolved := Array.replicate 131 none
  statics := some 0 }

def pool7 : Array CpInfo := pool [(1, u "java/lang/Cloneable"), (0, .class_ 1), (0, u "java/lang/Object"), (0, .class_ 3)] 3

/-- java/lang/Cloneable -/
def k7 : Class := { plain "java/lang/Cloneable" (some 0) with
  accessFlags := 1537
  interfaces := #[]
  cf := some (fileOf pool7 2 #[] #[] 1537 4 #[] #[])
  fields := #[]
  methods := #[]
  instanceTypes := #[]
  staticTypes := #[]
  resolved := Array.replicate 8 none
  statics := none }

/-- the primitive byte -/
def k8 : Class := { plain "byte" none with kind := .primitive 'B', accessFlags := 0x411 }
/-- [B -/
def k9 : Class := { plain "[B" (some 0) with kind := .array 8 .byte, interfaces := #[7, 4], accessFlags := 1041 }

/-- the primitive int -/
def k10 : Class := { plain "int" none with kind := .primitive 'I', accessFlags := 0x411 }
/-- [I -/
def k11 : Class := { plain "[I" (some 0) with kind := .array 10 .int, interfaces := #[7, 4], accessFlags := 1041 }

def heap : Heap := #[{ cls := 6, slots := #[.ref 1, .ref 2, .ref 4, .ref 3, .null], vm := .statics 6 },
  { cls := 6, slots := #[.null, .int 0, .int 0, .null, .int 1, .int 0], vm := .none },
  { cls := 6, slots := #[.null, .int 0, .int 0, .null, .int 2, .int 0], vm := .none },
  { cls := 6, slots := #[.null, .int 0, .int 0, .null, .int 2, .int 1], vm := .none },
  { cls := 6, slots := #[.null, .int 0, .int 0, .null, .int 2, .int 0], vm := .none }]
def classes : Array Class := #[k0, k1, k2, k3, k4, k5, k6, k7, k8, k9, k10, k11]
def interned : List (Array UInt16 × Addr) := []
def slotsUsed : Nat := 29
def theMethod : MethodId := ⟨1, 1⟩
def args0 : Array Value := #[.int 5, .int 7, .int 3]
def aboutOver (below : List Frame) : State where
  vm := { classes := classes, interned := interned.toArray }
  heap := heap
  slotsUsed := slotsUsed
  threads := #[{ frames := .invoking theMethod args0 :: below }]
def below0 : List Frame := [.native { method := ⟨0, 0⟩, args := #[] }]
def about1 : State := aboutOver below0
def p0 : Program := .bare "" "" ""
def e0 : Env := launch0.env 0 0 0
theorem w_frames : about1.frames = Frame.invoking theMethod args0 :: below0 := rfl
set_option maxRecDepth 65536 in
theorem w_args : argsFit about1.vm theMethod args0 = true := by decide +kernel
set_option maxRecDepth 65536 in
theorem w_heap : heapFits about1 = true := by decide +kernel
set_option maxRecDepth 65536 in
theorem w_runnable : about1.curStatus? = some .runnable := by decide +kernel
set_option maxRecDepth 65536 in
theorem w_alone : about1.alone = true := by decide +kernel
set_option maxRecDepth 65536 in
theorem w_named : about1.methodNamed? x = some theMethod := by decide +kernel
set_option maxRecDepth 65536 in
theorem w_hears : about1.hears theMethod below0 = true := by decide +kernel
set_option maxRecDepth 65536 in
theorem w_ripe : about1.ripe theMethod args0 below0 = true := by decide +kernel
theorem w_running : about1.status = .running := rfl
set_option maxRecDepth 65536 in
theorem w_room : about1.hasRoom e0.platform room_1 = true :=
  launch0.hasRoom_least _ room_1 (by decide +kernel) (by decide +kernel) (by decide +kernel) (by decide +kernel) (by decide +kernel) (by decide +kernel)
theorem allAtoms_all (ts : List Jvm.Cond) (a : Array Jvm.Value) (st : Jvm.State) : (allAtoms ts).before a st = ts.all (fun c => c.before a st) := by
  induction ts with
  | nil => rfl
  | cons c t ih =>
    show (Jvm.Cond.and c (allAtoms t)).before a st = _
    rw [Jvm.Cond.before_and, ih, List.all_cons]
def words1 : List Jvm.Cond := Jvm.Cond.code x code maxLocals ret :: tables_1
/-- a 'code' word, met by the world's own term for the bytes: nothing is compared byte by byte -/
theorem code_word {y : MethodName} {bytes : ByteArray} {mx : Nat} {rt : Option FieldType} {a : Array Value} {s : State} {m : MethodId} {meth : Method} {c : Code} (h1 : s.methodNamed? y = some m) (h2 : s.vm.method? m = some meth) (h3 : meth.code = some c) (h4 : c.code = bytes)
    (h5 : (c.maxLocals == mx && c.exceptionTable.isEmpty && decide (c.maxStack ≤ mostOperands) && decide (meth.sig.returnType = rt) && !meth.locks && decide (parseMethodDescriptor y.desc = some meth.sig)) = true) : (Jvm.Cond.code y bytes mx rt).before a s = true := by
  simp only [Bool.and_eq_true, beq_iff_eq, Bool.not_eq_true', decide_eq_true_eq] at h5
  obtain ⟨⟨⟨⟨⟨g1, g2⟩, g3⟩, g4⟩, g5⟩, g6⟩ := h5
  simp [Cond.before, Cond.holds, Cond.value, h1, h2, h3, h4, g1, g2, g3, g4, g5, g6]
def isCode : Jvm.Cond → Bool
  | .code _ _ _ _ => true
  | _ => false
theorem all_split {L : List Jvm.Cond} {P : Jvm.Cond → Bool} (h1 : L.all (fun c => isCode c || P c) = true) (h2 : ∀ c ∈ L.filter isCode, P c = true) : L.all P = true := by
  refine List.all_eq_true.mpr fun c hc => ?_
  have h := List.all_eq_true.mp h1 c hc
  rcases Bool.eq_false_or_eq_true (isCode c) with hi | hi
  · exact h2 c (List.mem_filter.mpr ⟨hc, hi⟩)
  · simpa [hi] using h
set_option maxRecDepth 65536 in
theorem w_c0 : (Jvm.Cond.code x code maxLocals ret).before args0 about1 = true := code_word (m := ⟨1, 1⟩) (meth := k1m1) (c := k1c1) (by decide +kernel) rfl rfl rfl (by decide +kernel)
set_option maxRecDepth 65536 in
theorem w_c1 : (Jvm.Cond.code ({ cls := "com/example/typebridge/typebridge/NumericContext", name := "takes", desc := "(I)Z" } : Jvm.MethodName) prog_40_method_6_code (2 : Nat) (Option.some Jvm.ClassFile.FieldType.boolean)).before args0 about1 = true := code_word (m := ⟨6, 0⟩) (meth := k6m0) (c := k6c0) (by decide +kernel) rfl rfl rfl (by decide +kernel)
set_option maxRecDepth 65536 in
theorem w_c2 : (Jvm.Cond.code ({ cls := "com/example/typebridge/typebridge/NumericContextTakesPinLaw", name := "expected", desc := "(II)Z" } : Jvm.MethodName) method_3_code (2 : Nat) (Option.some Jvm.ClassFile.FieldType.boolean)).before args0 about1 = true := code_word (m := ⟨1, 2⟩) (meth := k1m2) (c := k1c2) (by decide +kernel) rfl rfl rfl (by decide +kernel)
def codes1 : List Jvm.Cond := [Jvm.Cond.code x code maxLocals ret, Jvm.Cond.code ({ cls := "com/example/typebridge/typebridge/NumericContext", name := "takes", desc := "(I)Z" } : Jvm.MethodName) prog_40_method_6_code (2 : Nat) (Option.some Jvm.ClassFile.FieldType.boolean), Jvm.Cond.code ({ cls := "com/example/typebridge/typebridge/NumericContextTakesPinLaw", name := "expected", desc := "(II)Z" } : Jvm.MethodName) method_3_code (2 : Nat) (Option.some Jvm.ClassFile.FieldType.boolean)]
set_option maxRecDepth 65536 in
theorem codes_eq : words1.filter isCode = codes1 := rfl
theorem w_codes : ∀ c ∈ words1.filter isCode, c.before args0 about1 = true := by
  rw [codes_eq]
  intro c hc
  simp only [codes1, List.mem_cons, List.not_mem_nil, or_false] at hc
  rcases hc with rfl | rfl | rfl
  · exact w_c0
  · exact w_c1
  · exact w_c2
set_option maxRecDepth 65536 in
theorem w_t1 : words1.all (fun c => isCode c || c.before args0 about1) = true := by decide +kernel
theorem w_tables : (allAtoms (Jvm.Cond.code x code maxLocals ret :: tables_1)).before args0 about1 = true := by
  rw [allAtoms_all]
  show words1.all (fun c => c.before args0 about1) = true
  refine all_split ?_ w_codes
  rw [w_t1]
set_option maxRecDepth 65536 in
theorem w_case : (Jvm.Cond.and given_1 narrow_1).before args0 about1 = true := by decide +kernel
theorem w_applies : (headSpec (Jvm.Cond.code x code maxLocals ret :: tables_1) room_1).applies x e0.platform about1 = true :=
  (Spec.applies_iff w_frames).mpr ⟨w_running, w_runnable, w_alone, w_named, w_hears, w_ripe, w_room, w_tables⟩
theorem atStart : AtStart classFile x code maxLocals ret World_1 tables_1 room_1 Calls_1 rest_1 Pre_1 launch0 p0 e0 about1 theMethod args0 below0 :=
  ⟨lists_1, trivial, launch0.admits_env _ _ _, launch0.least_env, fairChoices_fair.cas, fairChoices_fair.clock, w_frames, w_args, w_heap, w_applies, trivial, trivial, w_case⟩
end start1
theorem witness_1 : WitnessClaimed_1 := ⟨start1.p0, start1.e0, start1.about1, start1.theMethod, start1.args0, start1.below0, start1.atStart⟩
end Jvm.Pilot.@@N@@
