import JvmDerived
import JvmDerived.Pilot.@@N@@Statement
import JvmDerived.Pilot.@@N@@Code
set_option linter.unusedVariables false
set_option linter.unusedSimpArgs false
namespace Jvm.RoadKit
open Sem ClassFile Op Lib Jvm.Stand Jvm.Free Jvm.LawKit
section New
variable {p : Program} {l : Launch} {e : Env} {R : Room} {s : State} {m : MethodId} {args : Array Value} {below : List Frame} {meth : Method} {c : Code} {T : State} {locs : List Loc} {cells slots : Nat}
theorem retI (X : Stand p l e R s m args below meth c T locs cells slots) (hx : p.tables.exec = Jvm.exec) {pc : Nat} {Ls : Array Slot} {z : Int32} {rest : List Value} (hret : meth.sig.returnType = some .int) (hd : decode c.code pc = .ok (.ireturn, 1)) {fs : List Frame}
    (hl : ∀ (f : JFrame) (acts : List Action), f.method = m → f.locked = none → f.entered = [] → (doReturn e (T.setTop f) acts (some (.int z))).1 = T.setFrames fs) : Steps p.tables e below (T.setTop (mkF m pc Ls (.int z :: rest))) (T.setFrames fs) := by
  have hm' : T.vm.method? m = some meth := X.method'
  have hn : narrow .int (.int z) = .int z := rfl
  show Steps p.tables e below (T.setTop { method := m, pc := pc, locals := Ls, stack := _ :: rest, locked := none }) _
  jvm_step X.here [X.here.top, hx, hd, hm', hret, hn]
  first | (intro acts; rw [hl _ acts rfl rfl rfl]) | rw [hl _ _ rfl rfl rfl]
  exact Steps.refl _
end New
end Jvm.RoadKit
namespace Jvm.Pilot.@@N@@
open Jvm Jvm.ClassFile Sem Op Lib Jvm.Free Jvm.Stand Jvm.LawKit Jvm.RoadKit Bundle Jvm.Pilot.@@N@@.Jvm.D
/-- what a body that writes nothing leaves: the value, and the heap as it was -/
def QV (r : Option Value) (h0 : Heap) (n0 : Nat) (v : Option Value) (h : Heap) (L : List Loc) : Prop := v = r ∧ Fr n0 L ∧ h = h0
theorem own_fld_one {Z : State} {h : Heap} {a : Addr} {C n d : String} {v w : Value} (F : Fld Z h a C n d v) (G : Fld Z h a C n d w) : v = w := by
  obtain ⟨c1, f1, k1, i1, g1, a1, a2, -, -, -, -, a7⟩ := F
  obtain ⟨c2, f2, k2, i2, g2, b1, b2, -, -, -, -, b7⟩ := G
  cases a1.symm.trans b1
  cases a2.symm.trans b2
  exact Option.some.inj (a7.symm.trans b7)
theorem own_ne_fld {Z : State} {h : Heap} {a b : Addr} {C n d : String} {x y : Int32} (F : Fld Z h a C n d (.int x)) (G : Fld Z h b C n d (.int y)) (hn : x ≠ y) : ¬ a = b := fun e => by
  subst e
  exact hn (Value.int.inj (own_fld_one F G))
theorem own_fld {args : Array Value} {s : State} {t : Term} {C n d : String} {k : Int32} {a : Addr} (ht : t.eval args s none [] s = some (.ref a)) (h : (Jvm.Cond.eq (Jvm.Term.field t C n d) (Jvm.Term.int k)).value args s none s [] = some true) : Fld s s.heap a C n d (.int k) := by
  refine Fld.start ((fld_at (idx := []) (first := s) (o := none) ht).symm.trans ?_)
  obtain ⟨x, y, e1, e2, k1, k2⟩ := cmp_v (Or.inl h)
  cases e2
  obtain ⟨z, rfl⟩ := k2
  have e3 : (Jvm.Term.int k).eval args s none [] s = some (.int k) := rfl
  have q : z = k := by simpa [Jvm.Cond.value, e1, e3] using h
  rw [e1, q]
def Q0 (n0 : Nat) (v : Option Value) (h : Heap) (L : List Loc) : Prop := v = some (.int (1 : Int32)) ∧ Fr n0 L
theorem own_k (x : Int32) : ((x &&& (2147483647 : Int32)) % (12 : Int32)) = (0 : Int32) ∨ ((x &&& (2147483647 : Int32)) % (12 : Int32)) = (1 : Int32) ∨ ((x &&& (2147483647 : Int32)) % (12 : Int32)) = (2 : Int32) ∨ ((x &&& (2147483647 : Int32)) % (12 : Int32)) = (3 : Int32) ∨ ((x &&& (2147483647 : Int32)) % (12 : Int32)) = (4 : Int32) ∨ ((x &&& (2147483647 : Int32)) % (12 : Int32)) = (5 : Int32) ∨ ((x &&& (2147483647 : Int32)) % (12 : Int32)) = (6 : Int32) ∨ ((x &&& (2147483647 : Int32)) % (12 : Int32)) = (7 : Int32) ∨ ((x &&& (2147483647 : Int32)) % (12 : Int32)) = (8 : Int32) ∨ ((x &&& (2147483647 : Int32)) % (12 : Int32)) = (9 : Int32) ∨ ((x &&& (2147483647 : Int32)) % (12 : Int32)) = (10 : Int32) ∨ ((x &&& (2147483647 : Int32)) % (12 : Int32)) = (11 : Int32) := by
  have h1 := c_and x 2147483647 (by decide)
  have h2 := (c_irem (x &&& (2147483647 : Int32)) 12 12 (by decide)).1 h1.1
  have h3 : ((x &&& (2147483647 : Int32)) % (12 : Int32)).toInt = 0 ∨ ((x &&& (2147483647 : Int32)) % (12 : Int32)).toInt = 1 ∨ ((x &&& (2147483647 : Int32)) % (12 : Int32)).toInt = 2 ∨ ((x &&& (2147483647 : Int32)) % (12 : Int32)).toInt = 3 ∨ ((x &&& (2147483647 : Int32)) % (12 : Int32)).toInt = 4 ∨ ((x &&& (2147483647 : Int32)) % (12 : Int32)).toInt = 5 ∨ ((x &&& (2147483647 : Int32)) % (12 : Int32)).toInt = 6 ∨ ((x &&& (2147483647 : Int32)) % (12 : Int32)).toInt = 7 ∨ ((x &&& (2147483647 : Int32)) % (12 : Int32)).toInt = 8 ∨ ((x &&& (2147483647 : Int32)) % (12 : Int32)).toInt = 9 ∨ ((x &&& (2147483647 : Int32)) % (12 : Int32)).toInt = 10 ∨ ((x &&& (2147483647 : Int32)) % (12 : Int32)).toInt = 11 := by omega
  rcases h3 with h | h | h | h | h | h | h | h | h | h | h | h
  · exact Or.inl (Int32.toInt_inj.mp (h.trans (by decide)))
  · exact Or.inr (Or.inl (Int32.toInt_inj.mp (h.trans (by decide))))
  · exact Or.inr (Or.inr (Or.inl (Int32.toInt_inj.mp (h.trans (by decide)))))
  · exact Or.inr (Or.inr (Or.inr (Or.inl (Int32.toInt_inj.mp (h.trans (by decide))))))
  · exact Or.inr (Or.inr (Or.inr (Or.inr (Or.inl (Int32.toInt_inj.mp (h.trans (by decide)))))))
  · exact Or.inr (Or.inr (Or.inr (Or.inr (Or.inr (Or.inl (Int32.toInt_inj.mp (h.trans (by decide))))))))
  · exact Or.inr (Or.inr (Or.inr (Or.inr (Or.inr (Or.inr (Or.inl (Int32.toInt_inj.mp (h.trans (by decide)))))))))
  · exact Or.inr (Or.inr (Or.inr (Or.inr (Or.inr (Or.inr (Or.inr (Or.inl (Int32.toInt_inj.mp (h.trans (by decide))))))))))
  · exact Or.inr (Or.inr (Or.inr (Or.inr (Or.inr (Or.inr (Or.inr (Or.inr (Or.inl (Int32.toInt_inj.mp (h.trans (by decide)))))))))))
  · exact Or.inr (Or.inr (Or.inr (Or.inr (Or.inr (Or.inr (Or.inr (Or.inr (Or.inr (Or.inl (Int32.toInt_inj.mp (h.trans (by decide))))))))))))
  · exact Or.inr (Or.inr (Or.inr (Or.inr (Or.inr (Or.inr (Or.inr (Or.inr (Or.inr (Or.inr (Or.inl (Int32.toInt_inj.mp (h.trans (by decide)))))))))))))
  · exact Or.inr (Or.inr (Or.inr (Or.inr (Or.inr (Or.inr (Or.inr (Or.inr (Or.inr (Or.inr (Or.inr (Int32.toInt_inj.mp (h.trans (by decide)))))))))))))
theorem d_prog_87_m_12_0 : decode prog_87_method_12_code 0 = .ok (.aload_n 0, 1) := by decide +kernel
theorem d_prog_87_m_12_1 : decode prog_87_method_12_code 1 = .ok (.getfield 67, 3) := by decide +kernel
theorem d_prog_87_m_12_4 : decode prog_87_method_12_code 4 = .ok (.getstatic 22, 3) := by decide +kernel
theorem d_prog_87_m_12_7 : decode prog_87_method_12_code 7 = .ok (.getfield 67, 3) := by decide +kernel
theorem d_prog_87_m_12_10 : decode prog_87_method_12_code 10 = .ok (.if_icmp .ge 9, 3) := by decide +kernel
theorem d_prog_87_m_12_13 : decode prog_87_method_12_code 13 = .ok (.getstatic 22, 3) := by decide +kernel
theorem d_prog_87_m_12_16 : decode prog_87_method_12_code 16 = .ok (.goto 4, 3) := by decide +kernel
theorem d_prog_87_m_12_19 : decode prog_87_method_12_code 19 = .ok (.aload_n 0, 1) := by decide +kernel
theorem d_prog_87_m_12_20 : decode prog_87_method_12_code 20 = .ok (.areturn, 1) := by decide +kernel
theorem d_m_2_0 : decode method_2_code 0 = .ok (.iload_n 0, 1) := by decide +kernel
theorem d_m_2_1 : decode method_2_code 1 = .ok (.ifCond .ne 7, 3) := by decide +kernel
theorem d_m_2_4 : decode method_2_code 4 = .ok (.getstatic 7, 3) := by decide +kernel
theorem d_m_2_7 : decode method_2_code 7 = .ok (.areturn, 1) := by decide +kernel
theorem d_m_2_8 : decode method_2_code 8 = .ok (.iload_n 0, 1) := by decide +kernel
theorem d_m_2_9 : decode method_2_code 9 = .ok (.iconst 1, 1) := by decide +kernel
theorem d_m_2_10 : decode method_2_code 10 = .ok (.if_icmp .ne 7, 3) := by decide +kernel
theorem d_m_2_13 : decode method_2_code 13 = .ok (.getstatic 13, 3) := by decide +kernel
theorem d_m_2_16 : decode method_2_code 16 = .ok (.areturn, 1) := by decide +kernel
theorem d_m_2_17 : decode method_2_code 17 = .ok (.iload_n 0, 1) := by decide +kernel
theorem d_m_2_18 : decode method_2_code 18 = .ok (.iconst 2, 1) := by decide +kernel
theorem d_m_2_19 : decode method_2_code 19 = .ok (.if_icmp .ne 7, 3) := by decide +kernel
theorem d_m_2_22 : decode method_2_code 22 = .ok (.getstatic 16, 3) := by decide +kernel
theorem d_m_2_25 : decode method_2_code 25 = .ok (.areturn, 1) := by decide +kernel
theorem d_m_2_26 : decode method_2_code 26 = .ok (.iload_n 0, 1) := by decide +kernel
theorem d_m_2_27 : decode method_2_code 27 = .ok (.iconst 3, 1) := by decide +kernel
theorem d_m_2_28 : decode method_2_code 28 = .ok (.if_icmp .ne 7, 3) := by decide +kernel
theorem d_m_2_31 : decode method_2_code 31 = .ok (.getstatic 19, 3) := by decide +kernel
theorem d_m_2_34 : decode method_2_code 34 = .ok (.areturn, 1) := by decide +kernel
theorem d_m_2_35 : decode method_2_code 35 = .ok (.iload_n 0, 1) := by decide +kernel
theorem d_m_2_36 : decode method_2_code 36 = .ok (.iconst 4, 1) := by decide +kernel
theorem d_m_2_37 : decode method_2_code 37 = .ok (.if_icmp .ne 7, 3) := by decide +kernel
theorem d_m_2_40 : decode method_2_code 40 = .ok (.getstatic 22, 3) := by decide +kernel
theorem d_m_2_43 : decode method_2_code 43 = .ok (.areturn, 1) := by decide +kernel
theorem d_m_2_44 : decode method_2_code 44 = .ok (.iload_n 0, 1) := by decide +kernel
theorem d_m_2_45 : decode method_2_code 45 = .ok (.iconst 5, 1) := by decide +kernel
theorem d_m_2_46 : decode method_2_code 46 = .ok (.if_icmp .ne 7, 3) := by decide +kernel
theorem d_m_2_49 : decode method_2_code 49 = .ok (.getstatic 25, 3) := by decide +kernel
theorem d_m_2_52 : decode method_2_code 52 = .ok (.areturn, 1) := by decide +kernel
theorem d_m_2_53 : decode method_2_code 53 = .ok (.iload_n 0, 1) := by decide +kernel
theorem d_m_2_54 : decode method_2_code 54 = .ok (.bipush 6, 2) := by decide +kernel
theorem d_m_2_56 : decode method_2_code 56 = .ok (.if_icmp .ne 7, 3) := by decide +kernel
theorem d_m_2_59 : decode method_2_code 59 = .ok (.getstatic 28, 3) := by decide +kernel
theorem d_m_2_62 : decode method_2_code 62 = .ok (.areturn, 1) := by decide +kernel
theorem d_m_2_63 : decode method_2_code 63 = .ok (.iload_n 0, 1) := by decide +kernel
theorem d_m_2_64 : decode method_2_code 64 = .ok (.bipush 7, 2) := by decide +kernel
theorem d_m_2_66 : decode method_2_code 66 = .ok (.if_icmp .ne 7, 3) := by decide +kernel
theorem d_m_2_69 : decode method_2_code 69 = .ok (.getstatic 31, 3) := by decide +kernel
theorem d_m_2_72 : decode method_2_code 72 = .ok (.areturn, 1) := by decide +kernel
theorem d_m_2_73 : decode method_2_code 73 = .ok (.iload_n 0, 1) := by decide +kernel
theorem d_m_2_74 : decode method_2_code 74 = .ok (.bipush 8, 2) := by decide +kernel
theorem d_m_2_76 : decode method_2_code 76 = .ok (.if_icmp .ne 7, 3) := by decide +kernel
theorem d_m_2_79 : decode method_2_code 79 = .ok (.getstatic 34, 3) := by decide +kernel
theorem d_m_2_82 : decode method_2_code 82 = .ok (.areturn, 1) := by decide +kernel
theorem d_m_2_83 : decode method_2_code 83 = .ok (.iload_n 0, 1) := by decide +kernel
theorem d_m_2_84 : decode method_2_code 84 = .ok (.bipush 9, 2) := by decide +kernel
theorem d_m_2_86 : decode method_2_code 86 = .ok (.if_icmp .ne 7, 3) := by decide +kernel
theorem d_m_2_89 : decode method_2_code 89 = .ok (.getstatic 37, 3) := by decide +kernel
theorem d_m_2_92 : decode method_2_code 92 = .ok (.areturn, 1) := by decide +kernel
theorem d_m_2_93 : decode method_2_code 93 = .ok (.iload_n 0, 1) := by decide +kernel
theorem d_m_2_94 : decode method_2_code 94 = .ok (.bipush 10, 2) := by decide +kernel
theorem d_m_2_96 : decode method_2_code 96 = .ok (.if_icmp .ne 7, 3) := by decide +kernel
theorem d_m_2_99 : decode method_2_code 99 = .ok (.getstatic 40, 3) := by decide +kernel
theorem d_m_2_102 : decode method_2_code 102 = .ok (.areturn, 1) := by decide +kernel
theorem d_m_2_103 : decode method_2_code 103 = .ok (.getstatic 43, 3) := by decide +kernel
theorem d_m_2_106 : decode method_2_code 106 = .ok (.areturn, 1) := by decide +kernel
theorem pd_0 : parseMethodDescriptor "(I)Lcom/example/deadpaths_to_precision/deadpathstoprecision/frontend/IntegerType;" = some ⟨[.int], some (.object "com/example/deadpaths_to_precision/deadpathstoprecision/frontend/IntegerType")⟩ := by decide +kernel
theorem pd_1 : parseMethodDescriptor "()Lcom/example/deadpaths_to_precision/deadpathstoprecision/frontend/IntegerType;" = some ⟨[], some (.object "com/example/deadpaths_to_precision/deadpathstoprecision/frontend/IntegerType")⟩ := by decide +kernel
theorem pn_0 : plainName "com/example/deadpaths_to_precision/deadpathstoprecision/frontend/IntegerType" = true := by first | (simp [plainName, overriddenIn]; done) | decide +kernel
theorem pn_1 : plainName "com/example/deadpaths_to_precision/deadpathstoprecision/frontend/IntegerTypePromotePinLaw" = true := by first | (simp [plainName, overriddenIn]; done) | decide +kernel
theorem ef_rm1 (m : MethodId) (x0 : Addr) : entryFrame m #[(.ref x0)] 1 = mkF m 0 #[.val (.ref x0)] [] := by first | (simp [entryFrame, mkF, argsToLocals, Value.category]; done) | rfl
set_option maxRecDepth 65536 in
set_option maxHeartbeats 40000000 in
theorem rm1 (l : Launch) (Z : State) (a0 : Array Value) (hw : ∀ d ∈ tables_1, d.before a0 Z = true) (ws : List Jvm.Cond) (a : Addr) (r q : Int32) (a_INT : Addr) (h0 : Heap) (n0 : Nat) (Z0 : n0 ≤ h0.size) (S_INT : Sta Z h0 "com/example/deadpaths_to_precision/deadpathstoprecision/frontend/IntegerType" "INT" "Lcom/example/deadpaths_to_precision/deadpathstoprecision/frontend/IntegerType;" (.ref a_INT)) (hF1 : Fld Z h0 a "com/example/deadpaths_to_precision/deadpathstoprecision/frontend/IntegerType" "rank" "I" (.int r)) (hF2 : Fld Z h0 a_INT "com/example/deadpaths_to_precision/deadpathstoprecision/frontend/IntegerType" "rank" "I" (.int q)) :
    MetFree l (⟨"com/example/deadpaths_to_precision/deadpathstoprecision/frontend/IntegerType", "promote", "()Lcom/example/deadpaths_to_precision/deadpathstoprecision/frontend/IntegerType;"⟩ : MethodName) (head1 (Jvm.Cond.code (⟨"com/example/deadpaths_to_precision/deadpathstoprecision/frontend/IntegerType", "promote", "()Lcom/example/deadpaths_to_precision/deadpathstoprecision/frontend/IntegerType;"⟩ : MethodName) prog_87_method_12_code 1 (some (.object "com/example/deadpaths_to_precision/deadpathstoprecision/frontend/IntegerType")) :: ws) ({ frames := 0, cells := 0, slots := 0, locals := 0 } : Room)) (fun aa_ UU_ => aa_ = #[(.ref a)] ∧ Z.Warmed39 UU_.vm ∧ UU_.heap = h0) (fun _ _ _ _ _ => True) (fun _ UU_ oo_ UE_ => ∃ vv_ LL_, oo_ = .returned vv_ ∧ QV (some (.ref (if r < q then a_INT else a))) h0 n0 vv_ UE_.heap LL_ ∧ FrameEnd UU_ oo_ UE_ LL_ ({ frames := 0, cells := 0, slots := 0, locals := 0 } : Room).cells ({ frames := 0, cells := 0, slots := 0, locals := 0 } : Room).slots) := by
  refine MetFree.of_bodySF (plainFor_of_name pn_0) hisR ?_
  intro p e s m args below meth c s₁ Bd hml0 hP hK
  obtain ⟨rfl, hZ, hh⟩ := hP
  have hx := Bd.exec
  have hby := Bd.bytes
  have hml : c.maxLocals = 1 := hml0
  have hown : s.vm.findClass "com/example/deadpaths_to_precision/deadpathstoprecision/frontend/IntegerType" = some m.cls := findClass_of_methodNamed Bd.named
  have hnm := (name_of_methodNamed Bd.named Bd.method).1
  have X0 : Stand p l e ({ frames := 0, cells := 0, slots := 0, locals := 0 } : Room) s m #[(.ref a)] below meth c s₁ [] 0 0 := Stand.of_body Bd
  have e0 : s₁.heap = h0 := by rw [← hh, Bd.state]; rfl
  have N0 := Fr.nil n0
  have pre0 : ∀ tg, Steps p.tables e below (s₁.setTop (mkF m 0 #[.val (.ref a)] [])) tg → Steps p.tables e below (s₁.setTop (entryFrame m #[(.ref a)] 1)) tg := fun tg kq_ => castTop (ef_rm1 m a) kq_
  obtain ⟨T1, X1, e1, st1⟩ := getF X0 hx hZ hown (host := "") (Or.inl (hw _ (List.mem_of_getElem? (i := 15) rfl))) Via.refl e0 hF1 (g := (mkF m 1 #[.val (.ref a)] [(.ref a)])) rfl rfl (hb hby d_prog_87_m_12_1)
  obtain ⟨T2, X2, e2, st2⟩ := getS2 X1 hx hZ hown (host := "") (Or.inl (hw _ (List.mem_of_getElem? (i := 17) rfl))) Via.refl e1 S_INT (g := (mkF m 4 #[.val (.ref a)] [(.int r)])) rfl (hb hby d_prog_87_m_12_4)
  obtain ⟨T3, X3, e3, st3⟩ := getF X2 hx hZ hown (host := "") (Or.inl (hw _ (List.mem_of_getElem? (i := 15) rfl))) Via.refl e2 hF2 (g := (mkF m 7 #[.val (.ref a)] [(.ref a_INT), (.int r)])) rfl rfl (hb hby d_prog_87_m_12_7)
  have R4 : ∀ tg, Steps p.tables e below (T3.setTop (mkF m 10 #[.val (.ref a)] [(.int q), (.int r)])) tg → Steps p.tables e below (s₁.setTop (mkF m 0 #[.val (.ref a)] [])) tg := by
    intro tg kt
    refine XS.aloadN X0.here hx rfl (hb hby d_prog_87_m_12_0) rfl rfl ?_
    show Steps p.tables e below (s₁.setTop (mkF m 1 #[.val (.ref a)] [(.ref a)])) _
    refine st1 _ ?_
    show Steps p.tables e below (T1.setTop (mkF m 4 #[.val (.ref a)] [(.int r)])) _
    refine st2 _ ?_
    show Steps p.tables e below (T2.setTop (mkF m 7 #[.val (.ref a)] [(.ref a_INT), (.int r)])) _
    refine st3 _ ?_
    show Steps p.tables e below (T3.setTop (mkF m 10 #[.val (.ref a)] [(.int q), (.int r)])) _
    exact kt
  by_cases hc10_5 : r < q
  · obtain ⟨T6, X6, e6, st6⟩ := getS2 X3 hx hZ hown (host := "") (Or.inl (hw _ (List.mem_of_getElem? (i := 17) rfl))) Via.refl e3 S_INT (g := (mkF m 13 #[.val (.ref a)] [])) rfl (hb hby d_prog_87_m_12_13)
    obtain ⟨fs, hr, hrun, hended, hW, hsame⟩ := X6.leave (v := some (.ref a_INT)) (fun h => by rw [Bd.returns] at h; cases h)
    refine ⟨_, _, pre0 _ (R4 _ ?_), hrun, hended, _, _, rfl, ?_, ⟨_, rfl⟩, hW, hsame.mono (by decide) (by decide)⟩
    · show Steps p.tables e below (T3.setTop (mkF m 10 #[.val (.ref a)] [(.int q), (.int r)])) _
      refine XS.icmpNo X3.here hx rfl (hb hby d_prog_87_m_12_10) rfl (tlt hc10_5).2.1 ?_
      show Steps p.tables e below (T3.setTop (mkF m 13 #[.val (.ref a)] [])) _
      refine st6 _ ?_
      show Steps p.tables e below (T6.setTop (mkF m 16 #[.val (.ref a)] [(.ref a_INT)])) _
      refine XS.goto X6.here hx rfl (pc0 := 16) (pc' := 20) rfl (hb hby d_prog_87_m_12_16) (by decide) (by decide) ?_
      show Steps p.tables e below (T6.setTop (mkF m 20 #[.val (.ref a)] [(.ref a_INT)])) _
      jvm_step X6.here [X6.here.top, hx, (hb hby d_prog_87_m_12_20), X6.method', Bd.returns, Value.isRef, FieldType.isReference]
      first | (intro acts; rw [hr _ acts rfl rfl rfl]) | rw [hr _ _ rfl rfl rfl]
      exact Steps.refl _
    · show QV (some (.ref (if r < q then a_INT else a))) h0 n0 _ T6.heap _
      rw [e6]
      exact ⟨by simp [hc10_5], N0, rfl⟩
  · obtain ⟨fs, hr, hrun, hended, hW, hsame⟩ := X3.leave (v := some (.ref a)) (fun h => by rw [Bd.returns] at h; cases h)
    refine ⟨_, _, pre0 _ (R4 _ ?_), hrun, hended, _, _, rfl, ?_, ⟨_, rfl⟩, hW, hsame.mono (by decide) (by decide)⟩
    · show Steps p.tables e below (T3.setTop (mkF m 10 #[.val (.ref a)] [(.int q), (.int r)])) _
      refine XS.icmpYes X3.here hx rfl (pc0 := 10) (pc' := 19) rfl (hb hby d_prog_87_m_12_10) rfl (flt hc10_5).2.1 (by decide) (by decide) ?_
      show Steps p.tables e below (T3.setTop (mkF m 19 #[.val (.ref a)] [])) _
      refine XS.aloadN X3.here hx rfl (hb hby d_prog_87_m_12_19) rfl rfl ?_
      show Steps p.tables e below (T3.setTop (mkF m 20 #[.val (.ref a)] [(.ref a)])) _
      jvm_step X3.here [X3.here.top, hx, (hb hby d_prog_87_m_12_20), X3.method', Bd.returns, Value.isRef, FieldType.isReference]
      first | (intro acts; rw [hr _ acts rfl rfl rfl]) | rw [hr _ _ rfl rfl rfl]
      exact Steps.refl _
    · show QV (some (.ref (if r < q then a_INT else a))) h0 n0 _ T3.heap _
      rw [e3]
      exact ⟨by simp [hc10_5], N0, rfl⟩
theorem ef_rmP (m : MethodId) (x0 : Int32) : entryFrame m #[(.int x0)] 1 = mkF m 0 #[.val (.int x0)] [] := by first | (simp [entryFrame, mkF, argsToLocals, Value.category]; done) | rfl
set_option maxRecDepth 65536 in
set_option maxHeartbeats 40000000 in
theorem rmP (l : Launch) (Z : State) (a0 : Array Value) (hw : ∀ d ∈ tables_1, d.before a0 Z = true) (ws : List Jvm.Cond) (k : Int32) (a_BOOL : Addr) (a_CHAR : Addr) (a_SIGNED_CHAR : Addr) (a_UNSIGNED_CHAR : Addr) (a_SHORT : Addr) (a_UNSIGNED_SHORT : Addr) (a_INT : Addr) (a_UNSIGNED_INT : Addr) (a_LONG : Addr) (a_UNSIGNED_LONG : Addr) (a_LONG_LONG : Addr) (a_UNSIGNED_LONG_LONG : Addr) (h0 : Heap) (n0 : Nat) (Z0 : n0 ≤ h0.size) (S_BOOL : Sta Z h0 "com/example/deadpaths_to_precision/deadpathstoprecision/frontend/IntegerType" "BOOL" "Lcom/example/deadpaths_to_precision/deadpathstoprecision/frontend/IntegerType;" (.ref a_BOOL)) (S_CHAR : Sta Z h0 "com/example/deadpaths_to_precision/deadpathstoprecision/frontend/IntegerType" "CHAR" "Lcom/example/deadpaths_to_precision/deadpathstoprecision/frontend/IntegerType;" (.ref a_CHAR)) (S_SIGNED_CHAR : Sta Z h0 "com/example/deadpaths_to_precision/deadpathstoprecision/frontend/IntegerType" "SIGNED_CHAR" "Lcom/example/deadpaths_to_precision/deadpathstoprecision/frontend/IntegerType;" (.ref a_SIGNED_CHAR)) (S_UNSIGNED_CHAR : Sta Z h0 "com/example/deadpaths_to_precision/deadpathstoprecision/frontend/IntegerType" "UNSIGNED_CHAR" "Lcom/example/deadpaths_to_precision/deadpathstoprecision/frontend/IntegerType;" (.ref a_UNSIGNED_CHAR)) (S_SHORT : Sta Z h0 "com/example/deadpaths_to_precision/deadpathstoprecision/frontend/IntegerType" "SHORT" "Lcom/example/deadpaths_to_precision/deadpathstoprecision/frontend/IntegerType;" (.ref a_SHORT)) (S_UNSIGNED_SHORT : Sta Z h0 "com/example/deadpaths_to_precision/deadpathstoprecision/frontend/IntegerType" "UNSIGNED_SHORT" "Lcom/example/deadpaths_to_precision/deadpathstoprecision/frontend/IntegerType;" (.ref a_UNSIGNED_SHORT)) (S_INT : Sta Z h0 "com/example/deadpaths_to_precision/deadpathstoprecision/frontend/IntegerType" "INT" "Lcom/example/deadpaths_to_precision/deadpathstoprecision/frontend/IntegerType;" (.ref a_INT)) (S_UNSIGNED_INT : Sta Z h0 "com/example/deadpaths_to_precision/deadpathstoprecision/frontend/IntegerType" "UNSIGNED_INT" "Lcom/example/deadpaths_to_precision/deadpathstoprecision/frontend/IntegerType;" (.ref a_UNSIGNED_INT)) (S_LONG : Sta Z h0 "com/example/deadpaths_to_precision/deadpathstoprecision/frontend/IntegerType" "LONG" "Lcom/example/deadpaths_to_precision/deadpathstoprecision/frontend/IntegerType;" (.ref a_LONG)) (S_UNSIGNED_LONG : Sta Z h0 "com/example/deadpaths_to_precision/deadpathstoprecision/frontend/IntegerType" "UNSIGNED_LONG" "Lcom/example/deadpaths_to_precision/deadpathstoprecision/frontend/IntegerType;" (.ref a_UNSIGNED_LONG)) (S_LONG_LONG : Sta Z h0 "com/example/deadpaths_to_precision/deadpathstoprecision/frontend/IntegerType" "LONG_LONG" "Lcom/example/deadpaths_to_precision/deadpathstoprecision/frontend/IntegerType;" (.ref a_LONG_LONG)) (S_UNSIGNED_LONG_LONG : Sta Z h0 "com/example/deadpaths_to_precision/deadpathstoprecision/frontend/IntegerType" "UNSIGNED_LONG_LONG" "Lcom/example/deadpaths_to_precision/deadpathstoprecision/frontend/IntegerType;" (.ref a_UNSIGNED_LONG_LONG)) :
    MetFree l (⟨"com/example/deadpaths_to_precision/deadpathstoprecision/frontend/IntegerTypePromotePinLaw", "pick", "(I)Lcom/example/deadpaths_to_precision/deadpathstoprecision/frontend/IntegerType;"⟩ : MethodName) (head1 (Jvm.Cond.code (⟨"com/example/deadpaths_to_precision/deadpathstoprecision/frontend/IntegerTypePromotePinLaw", "pick", "(I)Lcom/example/deadpaths_to_precision/deadpathstoprecision/frontend/IntegerType;"⟩ : MethodName) method_2_code 1 (some (.object "com/example/deadpaths_to_precision/deadpathstoprecision/frontend/IntegerType")) :: ws) ({ frames := 0, cells := 0, slots := 0, locals := 0 } : Room)) (fun aa_ UU_ => aa_ = #[(.int k)] ∧ Z.Warmed39 UU_.vm ∧ UU_.heap = h0) (fun _ _ _ _ _ => True) (fun _ UU_ oo_ UE_ => ∃ vv_ LL_, oo_ = .returned vv_ ∧ QV (some (.ref (if k = 0 then a_BOOL else if k = 1 then a_CHAR else if k = 2 then a_SIGNED_CHAR else if k = 3 then a_UNSIGNED_CHAR else if k = 4 then a_SHORT else if k = 5 then a_UNSIGNED_SHORT else if k = 6 then a_INT else if k = 7 then a_UNSIGNED_INT else if k = 8 then a_LONG else if k = 9 then a_UNSIGNED_LONG else if k = 10 then a_LONG_LONG else a_UNSIGNED_LONG_LONG))) h0 n0 vv_ UE_.heap LL_ ∧ FrameEnd UU_ oo_ UE_ LL_ ({ frames := 0, cells := 0, slots := 0, locals := 0 } : Room).cells ({ frames := 0, cells := 0, slots := 0, locals := 0 } : Room).slots) := by
  refine MetFree.of_bodySF (plainFor_of_name pn_1) hisR ?_
  intro p e s m args below meth c s₁ Bd hml0 hP hK
  obtain ⟨rfl, hZ, hh⟩ := hP
  have hx := Bd.exec
  have hby := Bd.bytes
  have hml : c.maxLocals = 1 := hml0
  have hown : s.vm.findClass "com/example/deadpaths_to_precision/deadpathstoprecision/frontend/IntegerTypePromotePinLaw" = some m.cls := findClass_of_methodNamed Bd.named
  have hnm := (name_of_methodNamed Bd.named Bd.method).1
  have X0 : Stand p l e ({ frames := 0, cells := 0, slots := 0, locals := 0 } : Room) s m #[(.int k)] below meth c s₁ [] 0 0 := Stand.of_body Bd
  have e0 : s₁.heap = h0 := by rw [← hh, Bd.state]; rfl
  have N0 := Fr.nil n0
  have pre0 : ∀ tg, Steps p.tables e below (s₁.setTop (mkF m 0 #[.val (.int k)] [])) tg → Steps p.tables e below (s₁.setTop (entryFrame m #[(.int k)] 1)) tg := fun tg kq_ => castTop (ef_rmP m k) kq_
  have R1 : ∀ tg, Steps p.tables e below (s₁.setTop (mkF m 1 #[.val (.int k)] [(.int k)])) tg → Steps p.tables e below (s₁.setTop (mkF m 0 #[.val (.int k)] [])) tg := by
    intro tg kt
    refine XS.iloadN X0.here hx rfl (hb hby d_m_2_0) rfl ?_
    show Steps p.tables e below (s₁.setTop (mkF m 1 #[.val (.int k)] [(.int k)])) _
    exact kt
  by_cases hc1_2 : k = (0 : Int32)
  · obtain ⟨T3, X3, e3, st3⟩ := getS2 X0 hx hZ hown (host := "") (Or.inl (hw _ (List.mem_of_getElem? (i := 5) rfl))) Via.refl e0 S_BOOL (g := (mkF m 4 #[.val (.int k)] [])) rfl (hb hby d_m_2_4)
    obtain ⟨fs, hr, hrun, hended, hW, hsame⟩ := X3.leave (v := some (.ref a_BOOL)) (fun h => by rw [Bd.returns] at h; cases h)
    refine ⟨_, _, pre0 _ (R1 _ ?_), hrun, hended, _, _, rfl, ?_, ⟨_, rfl⟩, hW, hsame.mono (by decide) (by decide)⟩
    · show Steps p.tables e below (s₁.setTop (mkF m 1 #[.val (.int k)] [(.int k)])) _
      refine XS.ifNo X0.here hx rfl (hb hby d_m_2_1) rfl ((if0 _ _).trans (teq hc1_2).2) ?_
      show Steps p.tables e below (s₁.setTop (mkF m 4 #[.val (.int k)] [])) _
      refine st3 _ ?_
      show Steps p.tables e below (T3.setTop (mkF m 7 #[.val (.int k)] [(.ref a_BOOL)])) _
      jvm_step X3.here [X3.here.top, hx, (hb hby d_m_2_7), X3.method', Bd.returns, Value.isRef, FieldType.isReference]
      first | (intro acts; rw [hr _ acts rfl rfl rfl]) | rw [hr _ _ rfl rfl rfl]
      exact Steps.refl _
    · show QV (some (.ref (if k = 0 then a_BOOL else if k = 1 then a_CHAR else if k = 2 then a_SIGNED_CHAR else if k = 3 then a_UNSIGNED_CHAR else if k = 4 then a_SHORT else if k = 5 then a_UNSIGNED_SHORT else if k = 6 then a_INT else if k = 7 then a_UNSIGNED_INT else if k = 8 then a_LONG else if k = 9 then a_UNSIGNED_LONG else if k = 10 then a_LONG_LONG else a_UNSIGNED_LONG_LONG))) h0 n0 _ T3.heap _
      rw [e3]
      exact ⟨by simp [hc1_2], N0, rfl⟩
  · have R4 : ∀ tg, Steps p.tables e below (s₁.setTop (mkF m 10 #[.val (.int k)] [(.int (1 : Int32)), (.int k)])) tg → Steps p.tables e below (s₁.setTop (mkF m 1 #[.val (.int k)] [(.int k)])) tg := by
      intro tg kt
      refine XS.ifYes X0.here hx rfl (pc0 := 1) (pc' := 8) rfl (hb hby d_m_2_1) rfl ((if0 _ _).trans (feq hc1_2).2) (by decide) (by decide) ?_
      show Steps p.tables e below (s₁.setTop (mkF m 8 #[.val (.int k)] [])) _
      refine XS.iloadN X0.here hx rfl (hb hby d_m_2_8) rfl ?_
      show Steps p.tables e below (s₁.setTop (mkF m 9 #[.val (.int k)] [(.int k)])) _
      refine XS.iconst X0.here hx rfl (hb hby d_m_2_9) ?_
      show Steps p.tables e below (s₁.setTop (mkF m 10 #[.val (.int k)] [(.int (1 : Int32)), (.int k)])) _
      exact kt
    by_cases hc10_5 : k = (1 : Int32)
    · obtain ⟨T6, X6, e6, st6⟩ := getS2 X0 hx hZ hown (host := "") (Or.inl (hw _ (List.mem_of_getElem? (i := 30) rfl))) Via.refl e0 S_CHAR (g := (mkF m 13 #[.val (.int k)] [])) rfl (hb hby d_m_2_13)
      obtain ⟨fs, hr, hrun, hended, hW, hsame⟩ := X6.leave (v := some (.ref a_CHAR)) (fun h => by rw [Bd.returns] at h; cases h)
      refine ⟨_, _, pre0 _ (R1 _ (R4 _ ?_)), hrun, hended, _, _, rfl, ?_, ⟨_, rfl⟩, hW, hsame.mono (by decide) (by decide)⟩
      · show Steps p.tables e below (s₁.setTop (mkF m 10 #[.val (.int k)] [(.int (1 : Int32)), (.int k)])) _
        refine XS.icmpNo X0.here hx rfl (hb hby d_m_2_10) rfl (teq hc10_5).2 ?_
        show Steps p.tables e below (s₁.setTop (mkF m 13 #[.val (.int k)] [])) _
        refine st6 _ ?_
        show Steps p.tables e below (T6.setTop (mkF m 16 #[.val (.int k)] [(.ref a_CHAR)])) _
        jvm_step X6.here [X6.here.top, hx, (hb hby d_m_2_16), X6.method', Bd.returns, Value.isRef, FieldType.isReference]
        first | (intro acts; rw [hr _ acts rfl rfl rfl]) | rw [hr _ _ rfl rfl rfl]
        exact Steps.refl _
      · show QV (some (.ref (if k = 0 then a_BOOL else if k = 1 then a_CHAR else if k = 2 then a_SIGNED_CHAR else if k = 3 then a_UNSIGNED_CHAR else if k = 4 then a_SHORT else if k = 5 then a_UNSIGNED_SHORT else if k = 6 then a_INT else if k = 7 then a_UNSIGNED_INT else if k = 8 then a_LONG else if k = 9 then a_UNSIGNED_LONG else if k = 10 then a_LONG_LONG else a_UNSIGNED_LONG_LONG))) h0 n0 _ T6.heap _
        rw [e6]
        exact ⟨by simp [hc1_2, hc10_5], N0, rfl⟩
    · have R7 : ∀ tg, Steps p.tables e below (s₁.setTop (mkF m 19 #[.val (.int k)] [(.int (2 : Int32)), (.int k)])) tg → Steps p.tables e below (s₁.setTop (mkF m 10 #[.val (.int k)] [(.int (1 : Int32)), (.int k)])) tg := by
        intro tg kt
        refine XS.icmpYes X0.here hx rfl (pc0 := 10) (pc' := 17) rfl (hb hby d_m_2_10) rfl (feq hc10_5).2 (by decide) (by decide) ?_
        show Steps p.tables e below (s₁.setTop (mkF m 17 #[.val (.int k)] [])) _
        refine XS.iloadN X0.here hx rfl (hb hby d_m_2_17) rfl ?_
        show Steps p.tables e below (s₁.setTop (mkF m 18 #[.val (.int k)] [(.int k)])) _
        refine XS.iconst X0.here hx rfl (hb hby d_m_2_18) ?_
        show Steps p.tables e below (s₁.setTop (mkF m 19 #[.val (.int k)] [(.int (2 : Int32)), (.int k)])) _
        exact kt
      by_cases hc19_8 : k = (2 : Int32)
      · obtain ⟨T9, X9, e9, st9⟩ := getS2 X0 hx hZ hown (host := "") (Or.inl (hw _ (List.mem_of_getElem? (i := 20) rfl))) Via.refl e0 S_SIGNED_CHAR (g := (mkF m 22 #[.val (.int k)] [])) rfl (hb hby d_m_2_22)
        obtain ⟨fs, hr, hrun, hended, hW, hsame⟩ := X9.leave (v := some (.ref a_SIGNED_CHAR)) (fun h => by rw [Bd.returns] at h; cases h)
        refine ⟨_, _, pre0 _ (R1 _ (R4 _ (R7 _ ?_))), hrun, hended, _, _, rfl, ?_, ⟨_, rfl⟩, hW, hsame.mono (by decide) (by decide)⟩
        · show Steps p.tables e below (s₁.setTop (mkF m 19 #[.val (.int k)] [(.int (2 : Int32)), (.int k)])) _
          refine XS.icmpNo X0.here hx rfl (hb hby d_m_2_19) rfl (teq hc19_8).2 ?_
          show Steps p.tables e below (s₁.setTop (mkF m 22 #[.val (.int k)] [])) _
          refine st9 _ ?_
          show Steps p.tables e below (T9.setTop (mkF m 25 #[.val (.int k)] [(.ref a_SIGNED_CHAR)])) _
          jvm_step X9.here [X9.here.top, hx, (hb hby d_m_2_25), X9.method', Bd.returns, Value.isRef, FieldType.isReference]
          first | (intro acts; rw [hr _ acts rfl rfl rfl]) | rw [hr _ _ rfl rfl rfl]
          exact Steps.refl _
        · show QV (some (.ref (if k = 0 then a_BOOL else if k = 1 then a_CHAR else if k = 2 then a_SIGNED_CHAR else if k = 3 then a_UNSIGNED_CHAR else if k = 4 then a_SHORT else if k = 5 then a_UNSIGNED_SHORT else if k = 6 then a_INT else if k = 7 then a_UNSIGNED_INT else if k = 8 then a_LONG else if k = 9 then a_UNSIGNED_LONG else if k = 10 then a_LONG_LONG else a_UNSIGNED_LONG_LONG))) h0 n0 _ T9.heap _
          rw [e9]
          exact ⟨by simp [hc1_2, hc10_5, hc19_8], N0, rfl⟩
      · have R10 : ∀ tg, Steps p.tables e below (s₁.setTop (mkF m 28 #[.val (.int k)] [(.int (3 : Int32)), (.int k)])) tg → Steps p.tables e below (s₁.setTop (mkF m 19 #[.val (.int k)] [(.int (2 : Int32)), (.int k)])) tg := by
          intro tg kt
          refine XS.icmpYes X0.here hx rfl (pc0 := 19) (pc' := 26) rfl (hb hby d_m_2_19) rfl (feq hc19_8).2 (by decide) (by decide) ?_
          show Steps p.tables e below (s₁.setTop (mkF m 26 #[.val (.int k)] [])) _
          refine XS.iloadN X0.here hx rfl (hb hby d_m_2_26) rfl ?_
          show Steps p.tables e below (s₁.setTop (mkF m 27 #[.val (.int k)] [(.int k)])) _
          refine XS.iconst X0.here hx rfl (hb hby d_m_2_27) ?_
          show Steps p.tables e below (s₁.setTop (mkF m 28 #[.val (.int k)] [(.int (3 : Int32)), (.int k)])) _
          exact kt
        by_cases hc28_11 : k = (3 : Int32)
        · obtain ⟨T12, X12, e12, st12⟩ := getS2 X0 hx hZ hown (host := "") (Or.inl (hw _ (List.mem_of_getElem? (i := 18) rfl))) Via.refl e0 S_UNSIGNED_CHAR (g := (mkF m 31 #[.val (.int k)] [])) rfl (hb hby d_m_2_31)
          obtain ⟨fs, hr, hrun, hended, hW, hsame⟩ := X12.leave (v := some (.ref a_UNSIGNED_CHAR)) (fun h => by rw [Bd.returns] at h; cases h)
          refine ⟨_, _, pre0 _ (R1 _ (R4 _ (R7 _ (R10 _ ?_)))), hrun, hended, _, _, rfl, ?_, ⟨_, rfl⟩, hW, hsame.mono (by decide) (by decide)⟩
          · show Steps p.tables e below (s₁.setTop (mkF m 28 #[.val (.int k)] [(.int (3 : Int32)), (.int k)])) _
            refine XS.icmpNo X0.here hx rfl (hb hby d_m_2_28) rfl (teq hc28_11).2 ?_
            show Steps p.tables e below (s₁.setTop (mkF m 31 #[.val (.int k)] [])) _
            refine st12 _ ?_
            show Steps p.tables e below (T12.setTop (mkF m 34 #[.val (.int k)] [(.ref a_UNSIGNED_CHAR)])) _
            jvm_step X12.here [X12.here.top, hx, (hb hby d_m_2_34), X12.method', Bd.returns, Value.isRef, FieldType.isReference]
            first | (intro acts; rw [hr _ acts rfl rfl rfl]) | rw [hr _ _ rfl rfl rfl]
            exact Steps.refl _
          · show QV (some (.ref (if k = 0 then a_BOOL else if k = 1 then a_CHAR else if k = 2 then a_SIGNED_CHAR else if k = 3 then a_UNSIGNED_CHAR else if k = 4 then a_SHORT else if k = 5 then a_UNSIGNED_SHORT else if k = 6 then a_INT else if k = 7 then a_UNSIGNED_INT else if k = 8 then a_LONG else if k = 9 then a_UNSIGNED_LONG else if k = 10 then a_LONG_LONG else a_UNSIGNED_LONG_LONG))) h0 n0 _ T12.heap _
            rw [e12]
            exact ⟨by simp [hc1_2, hc10_5, hc19_8, hc28_11], N0, rfl⟩
        · have R13 : ∀ tg, Steps p.tables e below (s₁.setTop (mkF m 37 #[.val (.int k)] [(.int (4 : Int32)), (.int k)])) tg → Steps p.tables e below (s₁.setTop (mkF m 28 #[.val (.int k)] [(.int (3 : Int32)), (.int k)])) tg := by
            intro tg kt
            refine XS.icmpYes X0.here hx rfl (pc0 := 28) (pc' := 35) rfl (hb hby d_m_2_28) rfl (feq hc28_11).2 (by decide) (by decide) ?_
            show Steps p.tables e below (s₁.setTop (mkF m 35 #[.val (.int k)] [])) _
            refine XS.iloadN X0.here hx rfl (hb hby d_m_2_35) rfl ?_
            show Steps p.tables e below (s₁.setTop (mkF m 36 #[.val (.int k)] [(.int k)])) _
            refine XS.iconst X0.here hx rfl (hb hby d_m_2_36) ?_
            show Steps p.tables e below (s₁.setTop (mkF m 37 #[.val (.int k)] [(.int (4 : Int32)), (.int k)])) _
            exact kt
          by_cases hc37_14 : k = (4 : Int32)
          · obtain ⟨T15, X15, e15, st15⟩ := getS2 X0 hx hZ hown (host := "") (Or.inl (hw _ (List.mem_of_getElem? (i := 26) rfl))) Via.refl e0 S_SHORT (g := (mkF m 40 #[.val (.int k)] [])) rfl (hb hby d_m_2_40)
            obtain ⟨fs, hr, hrun, hended, hW, hsame⟩ := X15.leave (v := some (.ref a_SHORT)) (fun h => by rw [Bd.returns] at h; cases h)
            refine ⟨_, _, pre0 _ (R1 _ (R4 _ (R7 _ (R10 _ (R13 _ ?_))))), hrun, hended, _, _, rfl, ?_, ⟨_, rfl⟩, hW, hsame.mono (by decide) (by decide)⟩
            · show Steps p.tables e below (s₁.setTop (mkF m 37 #[.val (.int k)] [(.int (4 : Int32)), (.int k)])) _
              refine XS.icmpNo X0.here hx rfl (hb hby d_m_2_37) rfl (teq hc37_14).2 ?_
              show Steps p.tables e below (s₁.setTop (mkF m 40 #[.val (.int k)] [])) _
              refine st15 _ ?_
              show Steps p.tables e below (T15.setTop (mkF m 43 #[.val (.int k)] [(.ref a_SHORT)])) _
              jvm_step X15.here [X15.here.top, hx, (hb hby d_m_2_43), X15.method', Bd.returns, Value.isRef, FieldType.isReference]
              first | (intro acts; rw [hr _ acts rfl rfl rfl]) | rw [hr _ _ rfl rfl rfl]
              exact Steps.refl _
            · show QV (some (.ref (if k = 0 then a_BOOL else if k = 1 then a_CHAR else if k = 2 then a_SIGNED_CHAR else if k = 3 then a_UNSIGNED_CHAR else if k = 4 then a_SHORT else if k = 5 then a_UNSIGNED_SHORT else if k = 6 then a_INT else if k = 7 then a_UNSIGNED_INT else if k = 8 then a_LONG else if k = 9 then a_UNSIGNED_LONG else if k = 10 then a_LONG_LONG else a_UNSIGNED_LONG_LONG))) h0 n0 _ T15.heap _
              rw [e15]
              exact ⟨by simp [hc1_2, hc10_5, hc19_8, hc28_11, hc37_14], N0, rfl⟩
          · have R16 : ∀ tg, Steps p.tables e below (s₁.setTop (mkF m 46 #[.val (.int k)] [(.int (5 : Int32)), (.int k)])) tg → Steps p.tables e below (s₁.setTop (mkF m 37 #[.val (.int k)] [(.int (4 : Int32)), (.int k)])) tg := by
              intro tg kt
              refine XS.icmpYes X0.here hx rfl (pc0 := 37) (pc' := 44) rfl (hb hby d_m_2_37) rfl (feq hc37_14).2 (by decide) (by decide) ?_
              show Steps p.tables e below (s₁.setTop (mkF m 44 #[.val (.int k)] [])) _
              refine XS.iloadN X0.here hx rfl (hb hby d_m_2_44) rfl ?_
              show Steps p.tables e below (s₁.setTop (mkF m 45 #[.val (.int k)] [(.int k)])) _
              refine XS.iconst X0.here hx rfl (hb hby d_m_2_45) ?_
              show Steps p.tables e below (s₁.setTop (mkF m 46 #[.val (.int k)] [(.int (5 : Int32)), (.int k)])) _
              exact kt
            by_cases hc46_17 : k = (5 : Int32)
            · obtain ⟨T18, X18, e18, st18⟩ := getS2 X0 hx hZ hown (host := "") (Or.inl (hw _ (List.mem_of_getElem? (i := 36) rfl))) Via.refl e0 S_UNSIGNED_SHORT (g := (mkF m 49 #[.val (.int k)] [])) rfl (hb hby d_m_2_49)
              obtain ⟨fs, hr, hrun, hended, hW, hsame⟩ := X18.leave (v := some (.ref a_UNSIGNED_SHORT)) (fun h => by rw [Bd.returns] at h; cases h)
              refine ⟨_, _, pre0 _ (R1 _ (R4 _ (R7 _ (R10 _ (R13 _ (R16 _ ?_)))))), hrun, hended, _, _, rfl, ?_, ⟨_, rfl⟩, hW, hsame.mono (by decide) (by decide)⟩
              · show Steps p.tables e below (s₁.setTop (mkF m 46 #[.val (.int k)] [(.int (5 : Int32)), (.int k)])) _
                refine XS.icmpNo X0.here hx rfl (hb hby d_m_2_46) rfl (teq hc46_17).2 ?_
                show Steps p.tables e below (s₁.setTop (mkF m 49 #[.val (.int k)] [])) _
                refine st18 _ ?_
                show Steps p.tables e below (T18.setTop (mkF m 52 #[.val (.int k)] [(.ref a_UNSIGNED_SHORT)])) _
                jvm_step X18.here [X18.here.top, hx, (hb hby d_m_2_52), X18.method', Bd.returns, Value.isRef, FieldType.isReference]
                first | (intro acts; rw [hr _ acts rfl rfl rfl]) | rw [hr _ _ rfl rfl rfl]
                exact Steps.refl _
              · show QV (some (.ref (if k = 0 then a_BOOL else if k = 1 then a_CHAR else if k = 2 then a_SIGNED_CHAR else if k = 3 then a_UNSIGNED_CHAR else if k = 4 then a_SHORT else if k = 5 then a_UNSIGNED_SHORT else if k = 6 then a_INT else if k = 7 then a_UNSIGNED_INT else if k = 8 then a_LONG else if k = 9 then a_UNSIGNED_LONG else if k = 10 then a_LONG_LONG else a_UNSIGNED_LONG_LONG))) h0 n0 _ T18.heap _
                rw [e18]
                exact ⟨by simp [hc1_2, hc10_5, hc19_8, hc28_11, hc37_14, hc46_17], N0, rfl⟩
            · have R19 : ∀ tg, Steps p.tables e below (s₁.setTop (mkF m 56 #[.val (.int k)] [(.int (6 : Int32)), (.int k)])) tg → Steps p.tables e below (s₁.setTop (mkF m 46 #[.val (.int k)] [(.int (5 : Int32)), (.int k)])) tg := by
                intro tg kt
                refine XS.icmpYes X0.here hx rfl (pc0 := 46) (pc' := 53) rfl (hb hby d_m_2_46) rfl (feq hc46_17).2 (by decide) (by decide) ?_
                show Steps p.tables e below (s₁.setTop (mkF m 53 #[.val (.int k)] [])) _
                refine XS.iloadN X0.here hx rfl (hb hby d_m_2_53) rfl ?_
                show Steps p.tables e below (s₁.setTop (mkF m 54 #[.val (.int k)] [(.int k)])) _
                refine XS.bipush X0.here hx rfl (hb hby d_m_2_54) ?_
                show Steps p.tables e below (s₁.setTop (mkF m 56 #[.val (.int k)] [(.int (6 : Int32)), (.int k)])) _
                exact kt
              by_cases hc56_20 : k = (6 : Int32)
              · obtain ⟨T21, X21, e21, st21⟩ := getS2 X0 hx hZ hown (host := "") (Or.inl (hw _ (List.mem_of_getElem? (i := 8) rfl))) Via.refl e0 S_INT (g := (mkF m 59 #[.val (.int k)] [])) rfl (hb hby d_m_2_59)
                obtain ⟨fs, hr, hrun, hended, hW, hsame⟩ := X21.leave (v := some (.ref a_INT)) (fun h => by rw [Bd.returns] at h; cases h)
                refine ⟨_, _, pre0 _ (R1 _ (R4 _ (R7 _ (R10 _ (R13 _ (R16 _ (R19 _ ?_))))))), hrun, hended, _, _, rfl, ?_, ⟨_, rfl⟩, hW, hsame.mono (by decide) (by decide)⟩
                · show Steps p.tables e below (s₁.setTop (mkF m 56 #[.val (.int k)] [(.int (6 : Int32)), (.int k)])) _
                  refine XS.icmpNo X0.here hx rfl (hb hby d_m_2_56) rfl (teq hc56_20).2 ?_
                  show Steps p.tables e below (s₁.setTop (mkF m 59 #[.val (.int k)] [])) _
                  refine st21 _ ?_
                  show Steps p.tables e below (T21.setTop (mkF m 62 #[.val (.int k)] [(.ref a_INT)])) _
                  jvm_step X21.here [X21.here.top, hx, (hb hby d_m_2_62), X21.method', Bd.returns, Value.isRef, FieldType.isReference]
                  first | (intro acts; rw [hr _ acts rfl rfl rfl]) | rw [hr _ _ rfl rfl rfl]
                  exact Steps.refl _
                · show QV (some (.ref (if k = 0 then a_BOOL else if k = 1 then a_CHAR else if k = 2 then a_SIGNED_CHAR else if k = 3 then a_UNSIGNED_CHAR else if k = 4 then a_SHORT else if k = 5 then a_UNSIGNED_SHORT else if k = 6 then a_INT else if k = 7 then a_UNSIGNED_INT else if k = 8 then a_LONG else if k = 9 then a_UNSIGNED_LONG else if k = 10 then a_LONG_LONG else a_UNSIGNED_LONG_LONG))) h0 n0 _ T21.heap _
                  rw [e21]
                  exact ⟨by simp [hc1_2, hc10_5, hc19_8, hc28_11, hc37_14, hc46_17, hc56_20], N0, rfl⟩
              · have R22 : ∀ tg, Steps p.tables e below (s₁.setTop (mkF m 66 #[.val (.int k)] [(.int (7 : Int32)), (.int k)])) tg → Steps p.tables e below (s₁.setTop (mkF m 56 #[.val (.int k)] [(.int (6 : Int32)), (.int k)])) tg := by
                  intro tg kt
                  refine XS.icmpYes X0.here hx rfl (pc0 := 56) (pc' := 63) rfl (hb hby d_m_2_56) rfl (feq hc56_20).2 (by decide) (by decide) ?_
                  show Steps p.tables e below (s₁.setTop (mkF m 63 #[.val (.int k)] [])) _
                  refine XS.iloadN X0.here hx rfl (hb hby d_m_2_63) rfl ?_
                  show Steps p.tables e below (s₁.setTop (mkF m 64 #[.val (.int k)] [(.int k)])) _
                  refine XS.bipush X0.here hx rfl (hb hby d_m_2_64) ?_
                  show Steps p.tables e below (s₁.setTop (mkF m 66 #[.val (.int k)] [(.int (7 : Int32)), (.int k)])) _
                  exact kt
                by_cases hc66_23 : k = (7 : Int32)
                · obtain ⟨T24, X24, e24, st24⟩ := getS2 X0 hx hZ hown (host := "") (Or.inl (hw _ (List.mem_of_getElem? (i := 22) rfl))) Via.refl e0 S_UNSIGNED_INT (g := (mkF m 69 #[.val (.int k)] [])) rfl (hb hby d_m_2_69)
                  obtain ⟨fs, hr, hrun, hended, hW, hsame⟩ := X24.leave (v := some (.ref a_UNSIGNED_INT)) (fun h => by rw [Bd.returns] at h; cases h)
                  refine ⟨_, _, pre0 _ (R1 _ (R4 _ (R7 _ (R10 _ (R13 _ (R16 _ (R19 _ (R22 _ ?_)))))))), hrun, hended, _, _, rfl, ?_, ⟨_, rfl⟩, hW, hsame.mono (by decide) (by decide)⟩
                  · show Steps p.tables e below (s₁.setTop (mkF m 66 #[.val (.int k)] [(.int (7 : Int32)), (.int k)])) _
                    refine XS.icmpNo X0.here hx rfl (hb hby d_m_2_66) rfl (teq hc66_23).2 ?_
                    show Steps p.tables e below (s₁.setTop (mkF m 69 #[.val (.int k)] [])) _
                    refine st24 _ ?_
                    show Steps p.tables e below (T24.setTop (mkF m 72 #[.val (.int k)] [(.ref a_UNSIGNED_INT)])) _
                    jvm_step X24.here [X24.here.top, hx, (hb hby d_m_2_72), X24.method', Bd.returns, Value.isRef, FieldType.isReference]
                    first | (intro acts; rw [hr _ acts rfl rfl rfl]) | rw [hr _ _ rfl rfl rfl]
                    exact Steps.refl _
                  · show QV (some (.ref (if k = 0 then a_BOOL else if k = 1 then a_CHAR else if k = 2 then a_SIGNED_CHAR else if k = 3 then a_UNSIGNED_CHAR else if k = 4 then a_SHORT else if k = 5 then a_UNSIGNED_SHORT else if k = 6 then a_INT else if k = 7 then a_UNSIGNED_INT else if k = 8 then a_LONG else if k = 9 then a_UNSIGNED_LONG else if k = 10 then a_LONG_LONG else a_UNSIGNED_LONG_LONG))) h0 n0 _ T24.heap _
                    rw [e24]
                    exact ⟨by simp [hc1_2, hc10_5, hc19_8, hc28_11, hc37_14, hc46_17, hc56_20, hc66_23], N0, rfl⟩
                · have R25 : ∀ tg, Steps p.tables e below (s₁.setTop (mkF m 76 #[.val (.int k)] [(.int (8 : Int32)), (.int k)])) tg → Steps p.tables e below (s₁.setTop (mkF m 66 #[.val (.int k)] [(.int (7 : Int32)), (.int k)])) tg := by
                    intro tg kt
                    refine XS.icmpYes X0.here hx rfl (pc0 := 66) (pc' := 73) rfl (hb hby d_m_2_66) rfl (feq hc66_23).2 (by decide) (by decide) ?_
                    show Steps p.tables e below (s₁.setTop (mkF m 73 #[.val (.int k)] [])) _
                    refine XS.iloadN X0.here hx rfl (hb hby d_m_2_73) rfl ?_
                    show Steps p.tables e below (s₁.setTop (mkF m 74 #[.val (.int k)] [(.int k)])) _
                    refine XS.bipush X0.here hx rfl (hb hby d_m_2_74) ?_
                    show Steps p.tables e below (s₁.setTop (mkF m 76 #[.val (.int k)] [(.int (8 : Int32)), (.int k)])) _
                    exact kt
                  by_cases hc76_26 : k = (8 : Int32)
                  · obtain ⟨T27, X27, e27, st27⟩ := getS2 X0 hx hZ hown (host := "") (Or.inl (hw _ (List.mem_of_getElem? (i := 28) rfl))) Via.refl e0 S_LONG (g := (mkF m 79 #[.val (.int k)] [])) rfl (hb hby d_m_2_79)
                    obtain ⟨fs, hr, hrun, hended, hW, hsame⟩ := X27.leave (v := some (.ref a_LONG)) (fun h => by rw [Bd.returns] at h; cases h)
                    refine ⟨_, _, pre0 _ (R1 _ (R4 _ (R7 _ (R10 _ (R13 _ (R16 _ (R19 _ (R22 _ (R25 _ ?_))))))))), hrun, hended, _, _, rfl, ?_, ⟨_, rfl⟩, hW, hsame.mono (by decide) (by decide)⟩
                    · show Steps p.tables e below (s₁.setTop (mkF m 76 #[.val (.int k)] [(.int (8 : Int32)), (.int k)])) _
                      refine XS.icmpNo X0.here hx rfl (hb hby d_m_2_76) rfl (teq hc76_26).2 ?_
                      show Steps p.tables e below (s₁.setTop (mkF m 79 #[.val (.int k)] [])) _
                      refine st27 _ ?_
                      show Steps p.tables e below (T27.setTop (mkF m 82 #[.val (.int k)] [(.ref a_LONG)])) _
                      jvm_step X27.here [X27.here.top, hx, (hb hby d_m_2_82), X27.method', Bd.returns, Value.isRef, FieldType.isReference]
                      first | (intro acts; rw [hr _ acts rfl rfl rfl]) | rw [hr _ _ rfl rfl rfl]
                      exact Steps.refl _
                    · show QV (some (.ref (if k = 0 then a_BOOL else if k = 1 then a_CHAR else if k = 2 then a_SIGNED_CHAR else if k = 3 then a_UNSIGNED_CHAR else if k = 4 then a_SHORT else if k = 5 then a_UNSIGNED_SHORT else if k = 6 then a_INT else if k = 7 then a_UNSIGNED_INT else if k = 8 then a_LONG else if k = 9 then a_UNSIGNED_LONG else if k = 10 then a_LONG_LONG else a_UNSIGNED_LONG_LONG))) h0 n0 _ T27.heap _
                      rw [e27]
                      exact ⟨by simp [hc1_2, hc10_5, hc19_8, hc28_11, hc37_14, hc46_17, hc56_20, hc66_23, hc76_26], N0, rfl⟩
                  · have R28 : ∀ tg, Steps p.tables e below (s₁.setTop (mkF m 86 #[.val (.int k)] [(.int (9 : Int32)), (.int k)])) tg → Steps p.tables e below (s₁.setTop (mkF m 76 #[.val (.int k)] [(.int (8 : Int32)), (.int k)])) tg := by
                      intro tg kt
                      refine XS.icmpYes X0.here hx rfl (pc0 := 76) (pc' := 83) rfl (hb hby d_m_2_76) rfl (feq hc76_26).2 (by decide) (by decide) ?_
                      show Steps p.tables e below (s₁.setTop (mkF m 83 #[.val (.int k)] [])) _
                      refine XS.iloadN X0.here hx rfl (hb hby d_m_2_83) rfl ?_
                      show Steps p.tables e below (s₁.setTop (mkF m 84 #[.val (.int k)] [(.int k)])) _
                      refine XS.bipush X0.here hx rfl (hb hby d_m_2_84) ?_
                      show Steps p.tables e below (s₁.setTop (mkF m 86 #[.val (.int k)] [(.int (9 : Int32)), (.int k)])) _
                      exact kt
                    by_cases hc86_29 : k = (9 : Int32)
                    · obtain ⟨T30, X30, e30, st30⟩ := getS2 X0 hx hZ hown (host := "") (Or.inl (hw _ (List.mem_of_getElem? (i := 34) rfl))) Via.refl e0 S_UNSIGNED_LONG (g := (mkF m 89 #[.val (.int k)] [])) rfl (hb hby d_m_2_89)
                      obtain ⟨fs, hr, hrun, hended, hW, hsame⟩ := X30.leave (v := some (.ref a_UNSIGNED_LONG)) (fun h => by rw [Bd.returns] at h; cases h)
                      refine ⟨_, _, pre0 _ (R1 _ (R4 _ (R7 _ (R10 _ (R13 _ (R16 _ (R19 _ (R22 _ (R25 _ (R28 _ ?_)))))))))), hrun, hended, _, _, rfl, ?_, ⟨_, rfl⟩, hW, hsame.mono (by decide) (by decide)⟩
                      · show Steps p.tables e below (s₁.setTop (mkF m 86 #[.val (.int k)] [(.int (9 : Int32)), (.int k)])) _
                        refine XS.icmpNo X0.here hx rfl (hb hby d_m_2_86) rfl (teq hc86_29).2 ?_
                        show Steps p.tables e below (s₁.setTop (mkF m 89 #[.val (.int k)] [])) _
                        refine st30 _ ?_
                        show Steps p.tables e below (T30.setTop (mkF m 92 #[.val (.int k)] [(.ref a_UNSIGNED_LONG)])) _
                        jvm_step X30.here [X30.here.top, hx, (hb hby d_m_2_92), X30.method', Bd.returns, Value.isRef, FieldType.isReference]
                        first | (intro acts; rw [hr _ acts rfl rfl rfl]) | rw [hr _ _ rfl rfl rfl]
                        exact Steps.refl _
                      · show QV (some (.ref (if k = 0 then a_BOOL else if k = 1 then a_CHAR else if k = 2 then a_SIGNED_CHAR else if k = 3 then a_UNSIGNED_CHAR else if k = 4 then a_SHORT else if k = 5 then a_UNSIGNED_SHORT else if k = 6 then a_INT else if k = 7 then a_UNSIGNED_INT else if k = 8 then a_LONG else if k = 9 then a_UNSIGNED_LONG else if k = 10 then a_LONG_LONG else a_UNSIGNED_LONG_LONG))) h0 n0 _ T30.heap _
                        rw [e30]
                        exact ⟨by simp [hc1_2, hc10_5, hc19_8, hc28_11, hc37_14, hc46_17, hc56_20, hc66_23, hc76_26, hc86_29], N0, rfl⟩
                    · have R31 : ∀ tg, Steps p.tables e below (s₁.setTop (mkF m 96 #[.val (.int k)] [(.int (10 : Int32)), (.int k)])) tg → Steps p.tables e below (s₁.setTop (mkF m 86 #[.val (.int k)] [(.int (9 : Int32)), (.int k)])) tg := by
                        intro tg kt
                        refine XS.icmpYes X0.here hx rfl (pc0 := 86) (pc' := 93) rfl (hb hby d_m_2_86) rfl (feq hc86_29).2 (by decide) (by decide) ?_
                        show Steps p.tables e below (s₁.setTop (mkF m 93 #[.val (.int k)] [])) _
                        refine XS.iloadN X0.here hx rfl (hb hby d_m_2_93) rfl ?_
                        show Steps p.tables e below (s₁.setTop (mkF m 94 #[.val (.int k)] [(.int k)])) _
                        refine XS.bipush X0.here hx rfl (hb hby d_m_2_94) ?_
                        show Steps p.tables e below (s₁.setTop (mkF m 96 #[.val (.int k)] [(.int (10 : Int32)), (.int k)])) _
                        exact kt
                      by_cases hc96_32 : k = (10 : Int32)
                      · obtain ⟨T33, X33, e33, st33⟩ := getS2 X0 hx hZ hown (host := "") (Or.inl (hw _ (List.mem_of_getElem? (i := 32) rfl))) Via.refl e0 S_LONG_LONG (g := (mkF m 99 #[.val (.int k)] [])) rfl (hb hby d_m_2_99)
                        obtain ⟨fs, hr, hrun, hended, hW, hsame⟩ := X33.leave (v := some (.ref a_LONG_LONG)) (fun h => by rw [Bd.returns] at h; cases h)
                        refine ⟨_, _, pre0 _ (R1 _ (R4 _ (R7 _ (R10 _ (R13 _ (R16 _ (R19 _ (R22 _ (R25 _ (R28 _ (R31 _ ?_))))))))))), hrun, hended, _, _, rfl, ?_, ⟨_, rfl⟩, hW, hsame.mono (by decide) (by decide)⟩
                        · show Steps p.tables e below (s₁.setTop (mkF m 96 #[.val (.int k)] [(.int (10 : Int32)), (.int k)])) _
                          refine XS.icmpNo X0.here hx rfl (hb hby d_m_2_96) rfl (teq hc96_32).2 ?_
                          show Steps p.tables e below (s₁.setTop (mkF m 99 #[.val (.int k)] [])) _
                          refine st33 _ ?_
                          show Steps p.tables e below (T33.setTop (mkF m 102 #[.val (.int k)] [(.ref a_LONG_LONG)])) _
                          jvm_step X33.here [X33.here.top, hx, (hb hby d_m_2_102), X33.method', Bd.returns, Value.isRef, FieldType.isReference]
                          first | (intro acts; rw [hr _ acts rfl rfl rfl]) | rw [hr _ _ rfl rfl rfl]
                          exact Steps.refl _
                        · show QV (some (.ref (if k = 0 then a_BOOL else if k = 1 then a_CHAR else if k = 2 then a_SIGNED_CHAR else if k = 3 then a_UNSIGNED_CHAR else if k = 4 then a_SHORT else if k = 5 then a_UNSIGNED_SHORT else if k = 6 then a_INT else if k = 7 then a_UNSIGNED_INT else if k = 8 then a_LONG else if k = 9 then a_UNSIGNED_LONG else if k = 10 then a_LONG_LONG else a_UNSIGNED_LONG_LONG))) h0 n0 _ T33.heap _
                          rw [e33]
                          exact ⟨by simp [hc1_2, hc10_5, hc19_8, hc28_11, hc37_14, hc46_17, hc56_20, hc66_23, hc76_26, hc86_29, hc96_32], N0, rfl⟩
                      · obtain ⟨T34, X34, e34, st34⟩ := getS2 X0 hx hZ hown (host := "") (Or.inl (hw _ (List.mem_of_getElem? (i := 24) rfl))) Via.refl e0 S_UNSIGNED_LONG_LONG (g := (mkF m 103 #[.val (.int k)] [])) rfl (hb hby d_m_2_103)
                        obtain ⟨fs, hr, hrun, hended, hW, hsame⟩ := X34.leave (v := some (.ref a_UNSIGNED_LONG_LONG)) (fun h => by rw [Bd.returns] at h; cases h)
                        refine ⟨_, _, pre0 _ (R1 _ (R4 _ (R7 _ (R10 _ (R13 _ (R16 _ (R19 _ (R22 _ (R25 _ (R28 _ (R31 _ ?_))))))))))), hrun, hended, _, _, rfl, ?_, ⟨_, rfl⟩, hW, hsame.mono (by decide) (by decide)⟩
                        · show Steps p.tables e below (s₁.setTop (mkF m 96 #[.val (.int k)] [(.int (10 : Int32)), (.int k)])) _
                          refine XS.icmpYes X0.here hx rfl (pc0 := 96) (pc' := 103) rfl (hb hby d_m_2_96) rfl (feq hc96_32).2 (by decide) (by decide) ?_
                          show Steps p.tables e below (s₁.setTop (mkF m 103 #[.val (.int k)] [])) _
                          refine st34 _ ?_
                          show Steps p.tables e below (T34.setTop (mkF m 106 #[.val (.int k)] [(.ref a_UNSIGNED_LONG_LONG)])) _
                          jvm_step X34.here [X34.here.top, hx, (hb hby d_m_2_106), X34.method', Bd.returns, Value.isRef, FieldType.isReference]
                          first | (intro acts; rw [hr _ acts rfl rfl rfl]) | rw [hr _ _ rfl rfl rfl]
                          exact Steps.refl _
                        · show QV (some (.ref (if k = 0 then a_BOOL else if k = 1 then a_CHAR else if k = 2 then a_SIGNED_CHAR else if k = 3 then a_UNSIGNED_CHAR else if k = 4 then a_SHORT else if k = 5 then a_UNSIGNED_SHORT else if k = 6 then a_INT else if k = 7 then a_UNSIGNED_INT else if k = 8 then a_LONG else if k = 9 then a_UNSIGNED_LONG else if k = 10 then a_LONG_LONG else a_UNSIGNED_LONG_LONG))) h0 n0 _ T34.heap _
                          rw [e34]
                          exact ⟨by simp [hc1_2, hc10_5, hc19_8, hc28_11, hc37_14, hc46_17, hc56_20, hc66_23, hc76_26, hc86_29, hc96_32], N0, rfl⟩
theorem ef_rm0 (m : MethodId) (x0 : Int32) : entryFrame m #[(.int x0)] maxLocals = mkF m 0 #[.val (.int x0), .unset, .unset, .unset] [] := by first | (simp [entryFrame, mkF, argsToLocals, Value.category, maxLocals]; done) | rfl
set_option maxRecDepth 65536 in
set_option maxHeartbeats 40000000 in
theorem rm0 (l : Launch) (Z : State) (a0 : Array Value) (hw : ∀ d ∈ tables_1, d.before a0 Z = true) (ws : List Jvm.Cond) (p1 : Int32) (a_BOOL : Addr) (a_INT : Addr) (a_UNSIGNED_CHAR : Addr) (a_SIGNED_CHAR : Addr) (a_UNSIGNED_INT : Addr) (a_UNSIGNED_LONG_LONG : Addr) (a_SHORT : Addr) (a_LONG : Addr) (a_CHAR : Addr) (a_LONG_LONG : Addr) (a_UNSIGNED_LONG : Addr) (a_UNSIGNED_SHORT : Addr) (h0 : Heap) (n0 : Nat) (Z0 : n0 ≤ h0.size) (S_BOOL : Sta Z h0 "com/example/deadpaths_to_precision/deadpathstoprecision/frontend/IntegerType" "BOOL" "Lcom/example/deadpaths_to_precision/deadpathstoprecision/frontend/IntegerType;" (.ref a_BOOL)) (E_BOOL : Exa Z h0 a_BOOL "com/example/deadpaths_to_precision/deadpathstoprecision/frontend/IntegerType") (F_BOOL_rank : Fld Z h0 a_BOOL "com/example/deadpaths_to_precision/deadpathstoprecision/frontend/IntegerType" "rank" "I" (.int (0 : Int32))) (S_INT : Sta Z h0 "com/example/deadpaths_to_precision/deadpathstoprecision/frontend/IntegerType" "INT" "Lcom/example/deadpaths_to_precision/deadpathstoprecision/frontend/IntegerType;" (.ref a_INT)) (E_INT : Exa Z h0 a_INT "com/example/deadpaths_to_precision/deadpathstoprecision/frontend/IntegerType") (F_INT_rank : Fld Z h0 a_INT "com/example/deadpaths_to_precision/deadpathstoprecision/frontend/IntegerType" "rank" "I" (.int (3 : Int32))) (S_UNSIGNED_CHAR : Sta Z h0 "com/example/deadpaths_to_precision/deadpathstoprecision/frontend/IntegerType" "UNSIGNED_CHAR" "Lcom/example/deadpaths_to_precision/deadpathstoprecision/frontend/IntegerType;" (.ref a_UNSIGNED_CHAR)) (E_UNSIGNED_CHAR : Exa Z h0 a_UNSIGNED_CHAR "com/example/deadpaths_to_precision/deadpathstoprecision/frontend/IntegerType") (F_UNSIGNED_CHAR_rank : Fld Z h0 a_UNSIGNED_CHAR "com/example/deadpaths_to_precision/deadpathstoprecision/frontend/IntegerType" "rank" "I" (.int (1 : Int32))) (S_SIGNED_CHAR : Sta Z h0 "com/example/deadpaths_to_precision/deadpathstoprecision/frontend/IntegerType" "SIGNED_CHAR" "Lcom/example/deadpaths_to_precision/deadpathstoprecision/frontend/IntegerType;" (.ref a_SIGNED_CHAR)) (E_SIGNED_CHAR : Exa Z h0 a_SIGNED_CHAR "com/example/deadpaths_to_precision/deadpathstoprecision/frontend/IntegerType") (F_SIGNED_CHAR_rank : Fld Z h0 a_SIGNED_CHAR "com/example/deadpaths_to_precision/deadpathstoprecision/frontend/IntegerType" "rank" "I" (.int (1 : Int32))) (S_UNSIGNED_INT : Sta Z h0 "com/example/deadpaths_to_precision/deadpathstoprecision/frontend/IntegerType" "UNSIGNED_INT" "Lcom/example/deadpaths_to_precision/deadpathstoprecision/frontend/IntegerType;" (.ref a_UNSIGNED_INT)) (E_UNSIGNED_INT : Exa Z h0 a_UNSIGNED_INT "com/example/deadpaths_to_precision/deadpathstoprecision/frontend/IntegerType") (F_UNSIGNED_INT_rank : Fld Z h0 a_UNSIGNED_INT "com/example/deadpaths_to_precision/deadpathstoprecision/frontend/IntegerType" "rank" "I" (.int (3 : Int32))) (S_UNSIGNED_LONG_LONG : Sta Z h0 "com/example/deadpaths_to_precision/deadpathstoprecision/frontend/IntegerType" "UNSIGNED_LONG_LONG" "Lcom/example/deadpaths_to_precision/deadpathstoprecision/frontend/IntegerType;" (.ref a_UNSIGNED_LONG_LONG)) (E_UNSIGNED_LONG_LONG : Exa Z h0 a_UNSIGNED_LONG_LONG "com/example/deadpaths_to_precision/deadpathstoprecision/frontend/IntegerType") (F_UNSIGNED_LONG_LONG_rank : Fld Z h0 a_UNSIGNED_LONG_LONG "com/example/deadpaths_to_precision/deadpathstoprecision/frontend/IntegerType" "rank" "I" (.int (5 : Int32))) (S_SHORT : Sta Z h0 "com/example/deadpaths_to_precision/deadpathstoprecision/frontend/IntegerType" "SHORT" "Lcom/example/deadpaths_to_precision/deadpathstoprecision/frontend/IntegerType;" (.ref a_SHORT)) (E_SHORT : Exa Z h0 a_SHORT "com/example/deadpaths_to_precision/deadpathstoprecision/frontend/IntegerType") (F_SHORT_rank : Fld Z h0 a_SHORT "com/example/deadpaths_to_precision/deadpathstoprecision/frontend/IntegerType" "rank" "I" (.int (2 : Int32))) (S_LONG : Sta Z h0 "com/example/deadpaths_to_precision/deadpathstoprecision/frontend/IntegerType" "LONG" "Lcom/example/deadpaths_to_precision/deadpathstoprecision/frontend/IntegerType;" (.ref a_LONG)) (E_LONG : Exa Z h0 a_LONG "com/example/deadpaths_to_precision/deadpathstoprecision/frontend/IntegerType") (F_LONG_rank : Fld Z h0 a_LONG "com/example/deadpaths_to_precision/deadpathstoprecision/frontend/IntegerType" "rank" "I" (.int (4 : Int32))) (S_CHAR : Sta Z h0 "com/example/deadpaths_to_precision/deadpathstoprecision/frontend/IntegerType" "CHAR" "Lcom/example/deadpaths_to_precision/deadpathstoprecision/frontend/IntegerType;" (.ref a_CHAR)) (E_CHAR : Exa Z h0 a_CHAR "com/example/deadpaths_to_precision/deadpathstoprecision/frontend/IntegerType") (F_CHAR_rank : Fld Z h0 a_CHAR "com/example/deadpaths_to_precision/deadpathstoprecision/frontend/IntegerType" "rank" "I" (.int (1 : Int32))) (S_LONG_LONG : Sta Z h0 "com/example/deadpaths_to_precision/deadpathstoprecision/frontend/IntegerType" "LONG_LONG" "Lcom/example/deadpaths_to_precision/deadpathstoprecision/frontend/IntegerType;" (.ref a_LONG_LONG)) (E_LONG_LONG : Exa Z h0 a_LONG_LONG "com/example/deadpaths_to_precision/deadpathstoprecision/frontend/IntegerType") (F_LONG_LONG_rank : Fld Z h0 a_LONG_LONG "com/example/deadpaths_to_precision/deadpathstoprecision/frontend/IntegerType" "rank" "I" (.int (5 : Int32))) (S_UNSIGNED_LONG : Sta Z h0 "com/example/deadpaths_to_precision/deadpathstoprecision/frontend/IntegerType" "UNSIGNED_LONG" "Lcom/example/deadpaths_to_precision/deadpathstoprecision/frontend/IntegerType;" (.ref a_UNSIGNED_LONG)) (E_UNSIGNED_LONG : Exa Z h0 a_UNSIGNED_LONG "com/example/deadpaths_to_precision/deadpathstoprecision/frontend/IntegerType") (F_UNSIGNED_LONG_rank : Fld Z h0 a_UNSIGNED_LONG "com/example/deadpaths_to_precision/deadpathstoprecision/frontend/IntegerType" "rank" "I" (.int (4 : Int32))) (S_UNSIGNED_SHORT : Sta Z h0 "com/example/deadpaths_to_precision/deadpathstoprecision/frontend/IntegerType" "UNSIGNED_SHORT" "Lcom/example/deadpaths_to_precision/deadpathstoprecision/frontend/IntegerType;" (.ref a_UNSIGNED_SHORT)) (E_UNSIGNED_SHORT : Exa Z h0 a_UNSIGNED_SHORT "com/example/deadpaths_to_precision/deadpathstoprecision/frontend/IntegerType") (F_UNSIGNED_SHORT_rank : Fld Z h0 a_UNSIGNED_SHORT "com/example/deadpaths_to_precision/deadpathstoprecision/frontend/IntegerType" "rank" "I" (.int (2 : Int32))) :
    MetFree l x (head1 (Jvm.Cond.code x code maxLocals ret :: ws) room_1) (fun aa_ UU_ => aa_ = #[(.int p1)] ∧ Z.Warmed39 UU_.vm ∧ UU_.heap = h0) (fun _ _ _ _ _ => True) (fun _ UU_ oo_ UE_ => ∃ vv_ LL_, oo_ = .returned vv_ ∧ Q0 n0 vv_ UE_.heap LL_ ∧ FrameEnd UU_ oo_ UE_ LL_ room_1.cells room_1.slots) := by
  refine MetFree.of_bodySF (plainFor_of_name pn_1) hisR ?_
  intro p e s m args below meth c s₁ Bd hml0 hP hK
  obtain ⟨rfl, hZ, hh⟩ := hP
  have hx := Bd.exec
  have hby := Bd.bytes
  have hml : c.maxLocals = 4 := hml0
  have hown : s.vm.findClass "com/example/deadpaths_to_precision/deadpathstoprecision/frontend/IntegerTypePromotePinLaw" = some m.cls := findClass_of_methodNamed Bd.named
  have hnm := (name_of_methodNamed Bd.named Bd.method).1
  have X0 : Stand p l e room_1 s m #[(.int p1)] below meth c s₁ [] 0 0 := Stand.of_body Bd
  have e0 : s₁.heap = h0 := by rw [← hh, Bd.state]; rfl
  have N0 := Fr.nil n0
  have pre0 : ∀ tg, Steps p.tables e below (s₁.setTop (mkF m 0 #[.val (.int p1), .unset, .unset, .unset] [])) tg → Steps p.tables e below (s₁.setTop (entryFrame m #[(.int p1)] maxLocals)) tg := fun tg kq_ => castTop (ef_rm0 m p1) kq_
  have R1 : ∀ tg, Steps p.tables e below (s₁.setTop (mkF m 8 #[.val (.int p1), .val (.int ((p1 &&& (2147483647 : Int32)) % (12 : Int32))), .unset, .unset] [])) tg → Steps p.tables e below (s₁.setTop (mkF m 0 #[.val (.int p1), .unset, .unset, .unset] [])) tg := by
    intro tg kt
    refine XS.iloadN X0.here hx rfl (hb hby at_0) rfl ?_
    show Steps p.tables e below (s₁.setTop (mkF m 1 #[.val (.int p1), .unset, .unset, .unset] [(.int p1)])) _
    refine X0.ldcInt hx hown (mvT hZ (hw _ (List.mem_of_getElem? (i := 0) rfl))) (g := (mkF m 1 #[.val (.int p1), .unset, .unset, .unset] [(.int p1)])) rfl (hb hby at_1) _ ?_
    show Steps p.tables e below (s₁.setTop (mkF m 3 #[.val (.int p1), .unset, .unset, .unset] [(.int (2147483647 : Int32)), (.int p1)])) _
    refine XS.iand X0.here hx rfl (hb hby at_3) rfl ?_
    show Steps p.tables e below (s₁.setTop (mkF m 4 #[.val (.int p1), .unset, .unset, .unset] [(.int (p1 &&& (2147483647 : Int32)))])) _
    refine XS.bipush X0.here hx rfl (hb hby at_4) ?_
    show Steps p.tables e below (s₁.setTop (mkF m 6 #[.val (.int p1), .unset, .unset, .unset] [(.int (12 : Int32)), (.int (p1 &&& (2147483647 : Int32)))])) _
    refine iremM (g := (mkF m 6 #[.val (.int p1), .unset, .unset, .unset] [(.int (12 : Int32)), (.int (p1 &&& (2147483647 : Int32)))])) X0 hx rfl (hb hby at_6) rfl (by decide) ?_
    show Steps p.tables e below (s₁.setTop (mkF m 7 #[.val (.int p1), .unset, .unset, .unset] [(.int ((p1 &&& (2147483647 : Int32)) % (12 : Int32)))])) _
    refine XS.istoreN X0.here hx rfl (hb hby at_7) rfl (l' := #[.val (.int p1), .val (.int ((p1 &&& (2147483647 : Int32)) % (12 : Int32))), .unset, .unset]) rfl ?_
    show Steps p.tables e below (s₁.setTop (mkF m 8 #[.val (.int p1), .val (.int ((p1 &&& (2147483647 : Int32)) % (12 : Int32))), .unset, .unset] [])) _
    exact kt
  rcases own_k p1 with hk2 | hk2 | hk2 | hk2 | hk2 | hk2 | hk2 | hk2 | hk2 | hk2 | hk2 | hk2
  · have R3 : ∀ tg, Steps p.tables e below (s₁.setTop (mkF m 8 #[.val (.int p1), .val (.int (0 : Int32)), .unset, .unset] [])) tg → Steps p.tables e below (s₁.setTop (mkF m 8 #[.val (.int p1), .val (.int ((p1 &&& (2147483647 : Int32)) % (12 : Int32))), .unset, .unset] [])) tg := fun tg kt => by rw [hk2]; exact kt
    obtain ⟨_, _, ⟨T4, L4, k4, n4⟩, -, X4, ⟨Lc4, hQ4, l4, y4, z4⟩, st4⟩ := Jvm.LawKit.callS X0 hx (y := (⟨"com/example/deadpaths_to_precision/deadpathstoprecision/frontend/IntegerTypePromotePinLaw", "pick", "(I)Lcom/example/deadpaths_to_precision/deadpathstoprecision/frontend/IntegerType;"⟩ : MethodName)) hown (mvT hZ (hw _ (List.mem_of_getElem? (i := 1) rfl))) (mvT hZ (hw _ (List.mem_of_getElem? (i := 2) rfl))) (mvT hZ (hw _ (List.mem_of_getElem? (i := 3) rfl))) (mvT hZ (hw _ (List.mem_of_getElem? (i := 4) rfl))) (by decide) (backOf (W := 0) (rmP l Z a0 hw [] (0 : Int32) a_BOOL a_CHAR a_SIGNED_CHAR a_UNSIGNED_CHAR a_SHORT a_UNSIGNED_SHORT a_INT a_UNSIGNED_INT a_LONG a_UNSIGNED_LONG a_LONG_LONG a_UNSIGNED_LONG_LONG h0 n0 Z0 S_BOOL S_CHAR S_SIGNED_CHAR S_UNSIGNED_CHAR S_SHORT S_UNSIGNED_SHORT S_INT S_UNSIGNED_INT S_LONG S_UNSIGNED_LONG S_LONG_LONG S_UNSIGNED_LONG_LONG) hZ (hw _ (List.mem_of_getElem? (i := 4) rfl)) (hw _ (List.mem_of_getElem? (i := 3) rfl)) (by decide) (by decide)) (g := (mkF m 9 #[.val (.int p1), .val (.int (0 : Int32)), .unset, .unset] [(.int (0 : Int32))])) rfl (by rw [hml]; rfl) (argsL := [(.int (0 : Int32))]) (rest := []) (lenOf pd_0 rfl) rfl (by show 2 * 0 + _ ≤ _; exact Nat.le_of_eq rfl) (hb hby at_9) (fun _ _ => ⟨rfl, e0, (by decide : 0 + 0 ≤ _), (by decide : 0 + 0 ≤ _)⟩)
    dsimp only [Pt.U, Pt.locs, Pt.cells, Pt.slots] at X4 l4 y4 z4 st4 hQ4
    subst l4 y4 z4
    obtain ⟨hv4, N4q, r4⟩ := hQ4
    rw [if_pos rfl] at hv4
    subst hv4
    have N4 := Fr.app N0 N4q
    obtain ⟨T5, X5, e5, st5⟩ := getS2 X4 hx hZ hown (host := "") (Or.inl (hw _ (List.mem_of_getElem? (i := 8) rfl))) Via.refl r4 S_INT (g := (mkF m 19 #[.val (.int p1), .val (.int (0 : Int32)), .val (.ref a_BOOL), .unset] [])) rfl (hb hby at_19)
    obtain ⟨cq6, kq6, q6a, q6b, q6c⟩ := isOf hZ e5 E_BOOL
    obtain ⟨_, _, ⟨T6, L6, k6, n6⟩, -, X6, ⟨Lc6, hQ6, l6, y6, z6⟩, st6⟩ := X5.virtualBack hx (y := (⟨"com/example/deadpaths_to_precision/deadpathstoprecision/frontend/IntegerType", "promote", "()Lcom/example/deadpaths_to_precision/deadpathstoprecision/frontend/IntegerType;"⟩ : MethodName)) (z := (⟨"com/example/deadpaths_to_precision/deadpathstoprecision/frontend/IntegerType", "promote", "()Lcom/example/deadpaths_to_precision/deadpathstoprecision/frontend/IntegerType;"⟩ : MethodName)) hown (mvT hZ (hw _ (List.mem_of_getElem? (i := 10) rfl))) (mvT hZ (hw _ (List.mem_of_getElem? (i := 11) rfl))) (notFace_of_selects (args := #[]) (mvT hZ (hw _ (List.mem_of_getElem? (i := 13) rfl)))) (mvT hZ (hw _ (List.mem_of_getElem? (i := 13) rfl))) (mvT hZ (hw _ (List.mem_of_getElem? (i := 12) rfl))) (by decide) (backOf (W := 0) (rm1 l Z a0 hw [] a_BOOL (0 : Int32) (3 : Int32) a_INT h0 n0 Z0 S_INT F_BOOL_rank F_INT_rank) hZ (hw _ (List.mem_of_getElem? (i := 14) rfl)) (hw _ (List.mem_of_getElem? (i := 6) rfl)) (by decide) (by decide)) q6a q6c (g := (mkF m 28 #[.val (.int p1), .val (.int (0 : Int32)), .val (.ref a_BOOL), .val (.ref a_INT)] [(.ref a_BOOL)])) rfl (by rw [hml]; rfl) (Steps.refl _) (argsL := []) (rest := []) (lenOf pd_1 rfl) rfl (by show 2 * 0 + _ ≤ _; exact Nat.le_of_eq rfl) (hb hby at_28) (fun _ _ => ⟨rfl, e5, (by decide : 0 + 0 ≤ _), (by decide : 0 + 0 ≤ _)⟩)
    dsimp only [Pt.U, Pt.locs, Pt.cells, Pt.slots] at X6 l6 y6 z6 st6 hQ6
    subst l6 y6 z6
    obtain ⟨hv6, N6q, r6⟩ := hQ6
    rw [if_pos (by decide)] at hv6
    subst hv6
    have N6 := Fr.app N4 N6q
    obtain ⟨fs, hr, hrun, hended, hW, hsame⟩ := X6.leave (v := some (.int (1 : Int32))) (fun h => by rw [Bd.returns] at h; cases h)
    refine ⟨_, _, pre0 _ (R1 _ (R3 _ ?_)), hrun, hended, _, _, rfl, ?_, ⟨_, rfl⟩, hW, hsame.mono (by decide) (by decide)⟩
    · show Steps p.tables e below (s₁.setTop (mkF m 8 #[.val (.int p1), .val (.int (0 : Int32)), .unset, .unset] [])) _
      refine XS.iloadN X0.here hx rfl (hb hby at_8) rfl ?_
      show Steps p.tables e below (s₁.setTop (mkF m 9 #[.val (.int p1), .val (.int (0 : Int32)), .unset, .unset] [(.int (0 : Int32))])) _
      refine st4 _ ?_
      show Steps p.tables e below (T4.setTop (mkF m 12 #[.val (.int p1), .val (.int (0 : Int32)), .unset, .unset] [(.ref a_BOOL)])) _
      refine XS.astoreN X4.here hx rfl (hb hby at_12) rfl rfl (l' := #[.val (.int p1), .val (.int (0 : Int32)), .val (.ref a_BOOL), .unset]) rfl ?_
      show Steps p.tables e below (T4.setTop (mkF m 13 #[.val (.int p1), .val (.int (0 : Int32)), .val (.ref a_BOOL), .unset] [])) _
      refine XS.iloadN X4.here hx rfl (hb hby at_13) rfl ?_
      show Steps p.tables e below (T4.setTop (mkF m 14 #[.val (.int p1), .val (.int (0 : Int32)), .val (.ref a_BOOL), .unset] [(.int (0 : Int32))])) _
      refine XS.bipush X4.here hx rfl (hb hby at_14) ?_
      show Steps p.tables e below (T4.setTop (mkF m 16 #[.val (.int p1), .val (.int (0 : Int32)), .val (.ref a_BOOL), .unset] [(.int (6 : Int32)), (.int (0 : Int32))])) _
      refine XS.icmpNo X4.here hx rfl (hb hby at_16) rfl (tlt (by decide : (0 : Int32) < (6 : Int32))).2.1 ?_
      show Steps p.tables e below (T4.setTop (mkF m 19 #[.val (.int p1), .val (.int (0 : Int32)), .val (.ref a_BOOL), .unset] [])) _
      refine st5 _ ?_
      show Steps p.tables e below (T5.setTop (mkF m 22 #[.val (.int p1), .val (.int (0 : Int32)), .val (.ref a_BOOL), .unset] [(.ref a_INT)])) _
      refine XS.goto X5.here hx rfl (pc0 := 22) (pc' := 26) rfl (hb hby at_22) (by decide) (by decide) ?_
      show Steps p.tables e below (T5.setTop (mkF m 26 #[.val (.int p1), .val (.int (0 : Int32)), .val (.ref a_BOOL), .unset] [(.ref a_INT)])) _
      refine XS.astoreN X5.here hx rfl (hb hby at_26) rfl rfl (l' := #[.val (.int p1), .val (.int (0 : Int32)), .val (.ref a_BOOL), .val (.ref a_INT)]) rfl ?_
      show Steps p.tables e below (T5.setTop (mkF m 27 #[.val (.int p1), .val (.int (0 : Int32)), .val (.ref a_BOOL), .val (.ref a_INT)] [])) _
      refine XS.aloadN X5.here hx rfl (hb hby at_27) rfl rfl ?_
      show Steps p.tables e below (T5.setTop (mkF m 28 #[.val (.int p1), .val (.int (0 : Int32)), .val (.ref a_BOOL), .val (.ref a_INT)] [(.ref a_BOOL)])) _
      refine st6.trans ?_
      show Steps p.tables e below (T6.setTop (mkF m 31 #[.val (.int p1), .val (.int (0 : Int32)), .val (.ref a_BOOL), .val (.ref a_INT)] [(.ref a_INT)])) _
      refine XS.aloadN X6.here hx rfl (hb hby at_31) rfl rfl ?_
      show Steps p.tables e below (T6.setTop (mkF m 32 #[.val (.int p1), .val (.int (0 : Int32)), .val (.ref a_BOOL), .val (.ref a_INT)] [(.ref a_INT), (.ref a_INT)])) _
      refine Jvm.RoadKit.acmp (g := (mkF m 32 #[.val (.int p1), .val (.int (0 : Int32)), .val (.ref a_BOOL), .val (.ref a_INT)] [(.ref a_INT), (.ref a_INT)])) X6 hx rfl rfl rfl (pc0 := 32) (pc' := 35) (same := true) rfl (hb hby at_32) rfl (decide_eq_true rfl) (by decide) (by decide) ?_
      show Steps p.tables e below (T6.setTop (mkF m 35 #[.val (.int p1), .val (.int (0 : Int32)), .val (.ref a_BOOL), .val (.ref a_INT)] [])) _
      refine XS.iconst X6.here hx rfl (hb hby at_35) ?_
      show Steps p.tables e below (T6.setTop (mkF m 36 #[.val (.int p1), .val (.int (0 : Int32)), .val (.ref a_BOOL), .val (.ref a_INT)] [(.int (1 : Int32))])) _
      refine XS.goto X6.here hx rfl (pc0 := 36) (pc' := 40) rfl (hb hby at_36) (by decide) (by decide) ?_
      show Steps p.tables e below (T6.setTop (mkF m 40 #[.val (.int p1), .val (.int (0 : Int32)), .val (.ref a_BOOL), .val (.ref a_INT)] [(.int (1 : Int32))])) _
      exact retN X6 hx (t := .boolean) Bd.returns (by simp) (hb hby at_40) hr
    · show Q0 n0 _ T6.heap _
      rw [r6]
      exact ⟨rfl, N6⟩
  · have R7 : ∀ tg, Steps p.tables e below (s₁.setTop (mkF m 8 #[.val (.int p1), .val (.int (1 : Int32)), .unset, .unset] [])) tg → Steps p.tables e below (s₁.setTop (mkF m 8 #[.val (.int p1), .val (.int ((p1 &&& (2147483647 : Int32)) % (12 : Int32))), .unset, .unset] [])) tg := fun tg kt => by rw [hk2]; exact kt
    obtain ⟨_, _, ⟨T8, L8, k8, n8⟩, -, X8, ⟨Lc8, hQ8, l8, y8, z8⟩, st8⟩ := Jvm.LawKit.callS X0 hx (y := (⟨"com/example/deadpaths_to_precision/deadpathstoprecision/frontend/IntegerTypePromotePinLaw", "pick", "(I)Lcom/example/deadpaths_to_precision/deadpathstoprecision/frontend/IntegerType;"⟩ : MethodName)) hown (mvT hZ (hw _ (List.mem_of_getElem? (i := 1) rfl))) (mvT hZ (hw _ (List.mem_of_getElem? (i := 2) rfl))) (mvT hZ (hw _ (List.mem_of_getElem? (i := 3) rfl))) (mvT hZ (hw _ (List.mem_of_getElem? (i := 4) rfl))) (by decide) (backOf (W := 0) (rmP l Z a0 hw [] (1 : Int32) a_BOOL a_CHAR a_SIGNED_CHAR a_UNSIGNED_CHAR a_SHORT a_UNSIGNED_SHORT a_INT a_UNSIGNED_INT a_LONG a_UNSIGNED_LONG a_LONG_LONG a_UNSIGNED_LONG_LONG h0 n0 Z0 S_BOOL S_CHAR S_SIGNED_CHAR S_UNSIGNED_CHAR S_SHORT S_UNSIGNED_SHORT S_INT S_UNSIGNED_INT S_LONG S_UNSIGNED_LONG S_LONG_LONG S_UNSIGNED_LONG_LONG) hZ (hw _ (List.mem_of_getElem? (i := 4) rfl)) (hw _ (List.mem_of_getElem? (i := 3) rfl)) (by decide) (by decide)) (g := (mkF m 9 #[.val (.int p1), .val (.int (1 : Int32)), .unset, .unset] [(.int (1 : Int32))])) rfl (by rw [hml]; rfl) (argsL := [(.int (1 : Int32))]) (rest := []) (lenOf pd_0 rfl) rfl (by show 2 * 0 + _ ≤ _; exact Nat.le_of_eq rfl) (hb hby at_9) (fun _ _ => ⟨rfl, e0, (by decide : 0 + 0 ≤ _), (by decide : 0 + 0 ≤ _)⟩)
    dsimp only [Pt.U, Pt.locs, Pt.cells, Pt.slots] at X8 l8 y8 z8 st8 hQ8
    subst l8 y8 z8
    obtain ⟨hv8, N8q, r8⟩ := hQ8
    rw [if_neg (by decide), if_pos rfl] at hv8
    subst hv8
    have N8 := Fr.app N0 N8q
    obtain ⟨T9, X9, e9, st9⟩ := getS2 X8 hx hZ hown (host := "") (Or.inl (hw _ (List.mem_of_getElem? (i := 8) rfl))) Via.refl r8 S_INT (g := (mkF m 19 #[.val (.int p1), .val (.int (1 : Int32)), .val (.ref a_CHAR), .unset] [])) rfl (hb hby at_19)
    obtain ⟨cq10, kq10, q10a, q10b, q10c⟩ := isOf hZ e9 E_CHAR
    obtain ⟨_, _, ⟨T10, L10, k10, n10⟩, -, X10, ⟨Lc10, hQ10, l10, y10, z10⟩, st10⟩ := X9.virtualBack hx (y := (⟨"com/example/deadpaths_to_precision/deadpathstoprecision/frontend/IntegerType", "promote", "()Lcom/example/deadpaths_to_precision/deadpathstoprecision/frontend/IntegerType;"⟩ : MethodName)) (z := (⟨"com/example/deadpaths_to_precision/deadpathstoprecision/frontend/IntegerType", "promote", "()Lcom/example/deadpaths_to_precision/deadpathstoprecision/frontend/IntegerType;"⟩ : MethodName)) hown (mvT hZ (hw _ (List.mem_of_getElem? (i := 10) rfl))) (mvT hZ (hw _ (List.mem_of_getElem? (i := 11) rfl))) (notFace_of_selects (args := #[]) (mvT hZ (hw _ (List.mem_of_getElem? (i := 13) rfl)))) (mvT hZ (hw _ (List.mem_of_getElem? (i := 13) rfl))) (mvT hZ (hw _ (List.mem_of_getElem? (i := 12) rfl))) (by decide) (backOf (W := 0) (rm1 l Z a0 hw [] a_CHAR (1 : Int32) (3 : Int32) a_INT h0 n0 Z0 S_INT F_CHAR_rank F_INT_rank) hZ (hw _ (List.mem_of_getElem? (i := 14) rfl)) (hw _ (List.mem_of_getElem? (i := 6) rfl)) (by decide) (by decide)) q10a q10c (g := (mkF m 28 #[.val (.int p1), .val (.int (1 : Int32)), .val (.ref a_CHAR), .val (.ref a_INT)] [(.ref a_CHAR)])) rfl (by rw [hml]; rfl) (Steps.refl _) (argsL := []) (rest := []) (lenOf pd_1 rfl) rfl (by show 2 * 0 + _ ≤ _; exact Nat.le_of_eq rfl) (hb hby at_28) (fun _ _ => ⟨rfl, e9, (by decide : 0 + 0 ≤ _), (by decide : 0 + 0 ≤ _)⟩)
    dsimp only [Pt.U, Pt.locs, Pt.cells, Pt.slots] at X10 l10 y10 z10 st10 hQ10
    subst l10 y10 z10
    obtain ⟨hv10, N10q, r10⟩ := hQ10
    rw [if_pos (by decide)] at hv10
    subst hv10
    have N10 := Fr.app N8 N10q
    obtain ⟨fs, hr, hrun, hended, hW, hsame⟩ := X10.leave (v := some (.int (1 : Int32))) (fun h => by rw [Bd.returns] at h; cases h)
    refine ⟨_, _, pre0 _ (R1 _ (R7 _ ?_)), hrun, hended, _, _, rfl, ?_, ⟨_, rfl⟩, hW, hsame.mono (by decide) (by decide)⟩
    · show Steps p.tables e below (s₁.setTop (mkF m 8 #[.val (.int p1), .val (.int (1 : Int32)), .unset, .unset] [])) _
      refine XS.iloadN X0.here hx rfl (hb hby at_8) rfl ?_
      show Steps p.tables e below (s₁.setTop (mkF m 9 #[.val (.int p1), .val (.int (1 : Int32)), .unset, .unset] [(.int (1 : Int32))])) _
      refine st8 _ ?_
      show Steps p.tables e below (T8.setTop (mkF m 12 #[.val (.int p1), .val (.int (1 : Int32)), .unset, .unset] [(.ref a_CHAR)])) _
      refine XS.astoreN X8.here hx rfl (hb hby at_12) rfl rfl (l' := #[.val (.int p1), .val (.int (1 : Int32)), .val (.ref a_CHAR), .unset]) rfl ?_
      show Steps p.tables e below (T8.setTop (mkF m 13 #[.val (.int p1), .val (.int (1 : Int32)), .val (.ref a_CHAR), .unset] [])) _
      refine XS.iloadN X8.here hx rfl (hb hby at_13) rfl ?_
      show Steps p.tables e below (T8.setTop (mkF m 14 #[.val (.int p1), .val (.int (1 : Int32)), .val (.ref a_CHAR), .unset] [(.int (1 : Int32))])) _
      refine XS.bipush X8.here hx rfl (hb hby at_14) ?_
      show Steps p.tables e below (T8.setTop (mkF m 16 #[.val (.int p1), .val (.int (1 : Int32)), .val (.ref a_CHAR), .unset] [(.int (6 : Int32)), (.int (1 : Int32))])) _
      refine XS.icmpNo X8.here hx rfl (hb hby at_16) rfl (tlt (by decide : (1 : Int32) < (6 : Int32))).2.1 ?_
      show Steps p.tables e below (T8.setTop (mkF m 19 #[.val (.int p1), .val (.int (1 : Int32)), .val (.ref a_CHAR), .unset] [])) _
      refine st9 _ ?_
      show Steps p.tables e below (T9.setTop (mkF m 22 #[.val (.int p1), .val (.int (1 : Int32)), .val (.ref a_CHAR), .unset] [(.ref a_INT)])) _
      refine XS.goto X9.here hx rfl (pc0 := 22) (pc' := 26) rfl (hb hby at_22) (by decide) (by decide) ?_
      show Steps p.tables e below (T9.setTop (mkF m 26 #[.val (.int p1), .val (.int (1 : Int32)), .val (.ref a_CHAR), .unset] [(.ref a_INT)])) _
      refine XS.astoreN X9.here hx rfl (hb hby at_26) rfl rfl (l' := #[.val (.int p1), .val (.int (1 : Int32)), .val (.ref a_CHAR), .val (.ref a_INT)]) rfl ?_
      show Steps p.tables e below (T9.setTop (mkF m 27 #[.val (.int p1), .val (.int (1 : Int32)), .val (.ref a_CHAR), .val (.ref a_INT)] [])) _
      refine XS.aloadN X9.here hx rfl (hb hby at_27) rfl rfl ?_
      show Steps p.tables e below (T9.setTop (mkF m 28 #[.val (.int p1), .val (.int (1 : Int32)), .val (.ref a_CHAR), .val (.ref a_INT)] [(.ref a_CHAR)])) _
      refine st10.trans ?_
      show Steps p.tables e below (T10.setTop (mkF m 31 #[.val (.int p1), .val (.int (1 : Int32)), .val (.ref a_CHAR), .val (.ref a_INT)] [(.ref a_INT)])) _
      refine XS.aloadN X10.here hx rfl (hb hby at_31) rfl rfl ?_
      show Steps p.tables e below (T10.setTop (mkF m 32 #[.val (.int p1), .val (.int (1 : Int32)), .val (.ref a_CHAR), .val (.ref a_INT)] [(.ref a_INT), (.ref a_INT)])) _
      refine Jvm.RoadKit.acmp (g := (mkF m 32 #[.val (.int p1), .val (.int (1 : Int32)), .val (.ref a_CHAR), .val (.ref a_INT)] [(.ref a_INT), (.ref a_INT)])) X10 hx rfl rfl rfl (pc0 := 32) (pc' := 35) (same := true) rfl (hb hby at_32) rfl (decide_eq_true rfl) (by decide) (by decide) ?_
      show Steps p.tables e below (T10.setTop (mkF m 35 #[.val (.int p1), .val (.int (1 : Int32)), .val (.ref a_CHAR), .val (.ref a_INT)] [])) _
      refine XS.iconst X10.here hx rfl (hb hby at_35) ?_
      show Steps p.tables e below (T10.setTop (mkF m 36 #[.val (.int p1), .val (.int (1 : Int32)), .val (.ref a_CHAR), .val (.ref a_INT)] [(.int (1 : Int32))])) _
      refine XS.goto X10.here hx rfl (pc0 := 36) (pc' := 40) rfl (hb hby at_36) (by decide) (by decide) ?_
      show Steps p.tables e below (T10.setTop (mkF m 40 #[.val (.int p1), .val (.int (1 : Int32)), .val (.ref a_CHAR), .val (.ref a_INT)] [(.int (1 : Int32))])) _
      exact retN X10 hx (t := .boolean) Bd.returns (by simp) (hb hby at_40) hr
    · show Q0 n0 _ T10.heap _
      rw [r10]
      exact ⟨rfl, N10⟩
  · have R11 : ∀ tg, Steps p.tables e below (s₁.setTop (mkF m 8 #[.val (.int p1), .val (.int (2 : Int32)), .unset, .unset] [])) tg → Steps p.tables e below (s₁.setTop (mkF m 8 #[.val (.int p1), .val (.int ((p1 &&& (2147483647 : Int32)) % (12 : Int32))), .unset, .unset] [])) tg := fun tg kt => by rw [hk2]; exact kt
    obtain ⟨_, _, ⟨T12, L12, k12, n12⟩, -, X12, ⟨Lc12, hQ12, l12, y12, z12⟩, st12⟩ := Jvm.LawKit.callS X0 hx (y := (⟨"com/example/deadpaths_to_precision/deadpathstoprecision/frontend/IntegerTypePromotePinLaw", "pick", "(I)Lcom/example/deadpaths_to_precision/deadpathstoprecision/frontend/IntegerType;"⟩ : MethodName)) hown (mvT hZ (hw _ (List.mem_of_getElem? (i := 1) rfl))) (mvT hZ (hw _ (List.mem_of_getElem? (i := 2) rfl))) (mvT hZ (hw _ (List.mem_of_getElem? (i := 3) rfl))) (mvT hZ (hw _ (List.mem_of_getElem? (i := 4) rfl))) (by decide) (backOf (W := 0) (rmP l Z a0 hw [] (2 : Int32) a_BOOL a_CHAR a_SIGNED_CHAR a_UNSIGNED_CHAR a_SHORT a_UNSIGNED_SHORT a_INT a_UNSIGNED_INT a_LONG a_UNSIGNED_LONG a_LONG_LONG a_UNSIGNED_LONG_LONG h0 n0 Z0 S_BOOL S_CHAR S_SIGNED_CHAR S_UNSIGNED_CHAR S_SHORT S_UNSIGNED_SHORT S_INT S_UNSIGNED_INT S_LONG S_UNSIGNED_LONG S_LONG_LONG S_UNSIGNED_LONG_LONG) hZ (hw _ (List.mem_of_getElem? (i := 4) rfl)) (hw _ (List.mem_of_getElem? (i := 3) rfl)) (by decide) (by decide)) (g := (mkF m 9 #[.val (.int p1), .val (.int (2 : Int32)), .unset, .unset] [(.int (2 : Int32))])) rfl (by rw [hml]; rfl) (argsL := [(.int (2 : Int32))]) (rest := []) (lenOf pd_0 rfl) rfl (by show 2 * 0 + _ ≤ _; exact Nat.le_of_eq rfl) (hb hby at_9) (fun _ _ => ⟨rfl, e0, (by decide : 0 + 0 ≤ _), (by decide : 0 + 0 ≤ _)⟩)
    dsimp only [Pt.U, Pt.locs, Pt.cells, Pt.slots] at X12 l12 y12 z12 st12 hQ12
    subst l12 y12 z12
    obtain ⟨hv12, N12q, r12⟩ := hQ12
    rw [if_neg (by decide), if_neg (by decide), if_pos rfl] at hv12
    subst hv12
    have N12 := Fr.app N0 N12q
    obtain ⟨T13, X13, e13, st13⟩ := getS2 X12 hx hZ hown (host := "") (Or.inl (hw _ (List.mem_of_getElem? (i := 8) rfl))) Via.refl r12 S_INT (g := (mkF m 19 #[.val (.int p1), .val (.int (2 : Int32)), .val (.ref a_SIGNED_CHAR), .unset] [])) rfl (hb hby at_19)
    obtain ⟨cq14, kq14, q14a, q14b, q14c⟩ := isOf hZ e13 E_SIGNED_CHAR
    obtain ⟨_, _, ⟨T14, L14, k14, n14⟩, -, X14, ⟨Lc14, hQ14, l14, y14, z14⟩, st14⟩ := X13.virtualBack hx (y := (⟨"com/example/deadpaths_to_precision/deadpathstoprecision/frontend/IntegerType", "promote", "()Lcom/example/deadpaths_to_precision/deadpathstoprecision/frontend/IntegerType;"⟩ : MethodName)) (z := (⟨"com/example/deadpaths_to_precision/deadpathstoprecision/frontend/IntegerType", "promote", "()Lcom/example/deadpaths_to_precision/deadpathstoprecision/frontend/IntegerType;"⟩ : MethodName)) hown (mvT hZ (hw _ (List.mem_of_getElem? (i := 10) rfl))) (mvT hZ (hw _ (List.mem_of_getElem? (i := 11) rfl))) (notFace_of_selects (args := #[]) (mvT hZ (hw _ (List.mem_of_getElem? (i := 13) rfl)))) (mvT hZ (hw _ (List.mem_of_getElem? (i := 13) rfl))) (mvT hZ (hw _ (List.mem_of_getElem? (i := 12) rfl))) (by decide) (backOf (W := 0) (rm1 l Z a0 hw [] a_SIGNED_CHAR (1 : Int32) (3 : Int32) a_INT h0 n0 Z0 S_INT F_SIGNED_CHAR_rank F_INT_rank) hZ (hw _ (List.mem_of_getElem? (i := 14) rfl)) (hw _ (List.mem_of_getElem? (i := 6) rfl)) (by decide) (by decide)) q14a q14c (g := (mkF m 28 #[.val (.int p1), .val (.int (2 : Int32)), .val (.ref a_SIGNED_CHAR), .val (.ref a_INT)] [(.ref a_SIGNED_CHAR)])) rfl (by rw [hml]; rfl) (Steps.refl _) (argsL := []) (rest := []) (lenOf pd_1 rfl) rfl (by show 2 * 0 + _ ≤ _; exact Nat.le_of_eq rfl) (hb hby at_28) (fun _ _ => ⟨rfl, e13, (by decide : 0 + 0 ≤ _), (by decide : 0 + 0 ≤ _)⟩)
    dsimp only [Pt.U, Pt.locs, Pt.cells, Pt.slots] at X14 l14 y14 z14 st14 hQ14
    subst l14 y14 z14
    obtain ⟨hv14, N14q, r14⟩ := hQ14
    rw [if_pos (by decide)] at hv14
    subst hv14
    have N14 := Fr.app N12 N14q
    obtain ⟨fs, hr, hrun, hended, hW, hsame⟩ := X14.leave (v := some (.int (1 : Int32))) (fun h => by rw [Bd.returns] at h; cases h)
    refine ⟨_, _, pre0 _ (R1 _ (R11 _ ?_)), hrun, hended, _, _, rfl, ?_, ⟨_, rfl⟩, hW, hsame.mono (by decide) (by decide)⟩
    · show Steps p.tables e below (s₁.setTop (mkF m 8 #[.val (.int p1), .val (.int (2 : Int32)), .unset, .unset] [])) _
      refine XS.iloadN X0.here hx rfl (hb hby at_8) rfl ?_
      show Steps p.tables e below (s₁.setTop (mkF m 9 #[.val (.int p1), .val (.int (2 : Int32)), .unset, .unset] [(.int (2 : Int32))])) _
      refine st12 _ ?_
      show Steps p.tables e below (T12.setTop (mkF m 12 #[.val (.int p1), .val (.int (2 : Int32)), .unset, .unset] [(.ref a_SIGNED_CHAR)])) _
      refine XS.astoreN X12.here hx rfl (hb hby at_12) rfl rfl (l' := #[.val (.int p1), .val (.int (2 : Int32)), .val (.ref a_SIGNED_CHAR), .unset]) rfl ?_
      show Steps p.tables e below (T12.setTop (mkF m 13 #[.val (.int p1), .val (.int (2 : Int32)), .val (.ref a_SIGNED_CHAR), .unset] [])) _
      refine XS.iloadN X12.here hx rfl (hb hby at_13) rfl ?_
      show Steps p.tables e below (T12.setTop (mkF m 14 #[.val (.int p1), .val (.int (2 : Int32)), .val (.ref a_SIGNED_CHAR), .unset] [(.int (2 : Int32))])) _
      refine XS.bipush X12.here hx rfl (hb hby at_14) ?_
      show Steps p.tables e below (T12.setTop (mkF m 16 #[.val (.int p1), .val (.int (2 : Int32)), .val (.ref a_SIGNED_CHAR), .unset] [(.int (6 : Int32)), (.int (2 : Int32))])) _
      refine XS.icmpNo X12.here hx rfl (hb hby at_16) rfl (tlt (by decide : (2 : Int32) < (6 : Int32))).2.1 ?_
      show Steps p.tables e below (T12.setTop (mkF m 19 #[.val (.int p1), .val (.int (2 : Int32)), .val (.ref a_SIGNED_CHAR), .unset] [])) _
      refine st13 _ ?_
      show Steps p.tables e below (T13.setTop (mkF m 22 #[.val (.int p1), .val (.int (2 : Int32)), .val (.ref a_SIGNED_CHAR), .unset] [(.ref a_INT)])) _
      refine XS.goto X13.here hx rfl (pc0 := 22) (pc' := 26) rfl (hb hby at_22) (by decide) (by decide) ?_
      show Steps p.tables e below (T13.setTop (mkF m 26 #[.val (.int p1), .val (.int (2 : Int32)), .val (.ref a_SIGNED_CHAR), .unset] [(.ref a_INT)])) _
      refine XS.astoreN X13.here hx rfl (hb hby at_26) rfl rfl (l' := #[.val (.int p1), .val (.int (2 : Int32)), .val (.ref a_SIGNED_CHAR), .val (.ref a_INT)]) rfl ?_
      show Steps p.tables e below (T13.setTop (mkF m 27 #[.val (.int p1), .val (.int (2 : Int32)), .val (.ref a_SIGNED_CHAR), .val (.ref a_INT)] [])) _
      refine XS.aloadN X13.here hx rfl (hb hby at_27) rfl rfl ?_
      show Steps p.tables e below (T13.setTop (mkF m 28 #[.val (.int p1), .val (.int (2 : Int32)), .val (.ref a_SIGNED_CHAR), .val (.ref a_INT)] [(.ref a_SIGNED_CHAR)])) _
      refine st14.trans ?_
      show Steps p.tables e below (T14.setTop (mkF m 31 #[.val (.int p1), .val (.int (2 : Int32)), .val (.ref a_SIGNED_CHAR), .val (.ref a_INT)] [(.ref a_INT)])) _
      refine XS.aloadN X14.here hx rfl (hb hby at_31) rfl rfl ?_
      show Steps p.tables e below (T14.setTop (mkF m 32 #[.val (.int p1), .val (.int (2 : Int32)), .val (.ref a_SIGNED_CHAR), .val (.ref a_INT)] [(.ref a_INT), (.ref a_INT)])) _
      refine Jvm.RoadKit.acmp (g := (mkF m 32 #[.val (.int p1), .val (.int (2 : Int32)), .val (.ref a_SIGNED_CHAR), .val (.ref a_INT)] [(.ref a_INT), (.ref a_INT)])) X14 hx rfl rfl rfl (pc0 := 32) (pc' := 35) (same := true) rfl (hb hby at_32) rfl (decide_eq_true rfl) (by decide) (by decide) ?_
      show Steps p.tables e below (T14.setTop (mkF m 35 #[.val (.int p1), .val (.int (2 : Int32)), .val (.ref a_SIGNED_CHAR), .val (.ref a_INT)] [])) _
      refine XS.iconst X14.here hx rfl (hb hby at_35) ?_
      show Steps p.tables e below (T14.setTop (mkF m 36 #[.val (.int p1), .val (.int (2 : Int32)), .val (.ref a_SIGNED_CHAR), .val (.ref a_INT)] [(.int (1 : Int32))])) _
      refine XS.goto X14.here hx rfl (pc0 := 36) (pc' := 40) rfl (hb hby at_36) (by decide) (by decide) ?_
      show Steps p.tables e below (T14.setTop (mkF m 40 #[.val (.int p1), .val (.int (2 : Int32)), .val (.ref a_SIGNED_CHAR), .val (.ref a_INT)] [(.int (1 : Int32))])) _
      exact retN X14 hx (t := .boolean) Bd.returns (by simp) (hb hby at_40) hr
    · show Q0 n0 _ T14.heap _
      rw [r14]
      exact ⟨rfl, N14⟩
  · have R15 : ∀ tg, Steps p.tables e below (s₁.setTop (mkF m 8 #[.val (.int p1), .val (.int (3 : Int32)), .unset, .unset] [])) tg → Steps p.tables e below (s₁.setTop (mkF m 8 #[.val (.int p1), .val (.int ((p1 &&& (2147483647 : Int32)) % (12 : Int32))), .unset, .unset] [])) tg := fun tg kt => by rw [hk2]; exact kt
    obtain ⟨_, _, ⟨T16, L16, k16, n16⟩, -, X16, ⟨Lc16, hQ16, l16, y16, z16⟩, st16⟩ := Jvm.LawKit.callS X0 hx (y := (⟨"com/example/deadpaths_to_precision/deadpathstoprecision/frontend/IntegerTypePromotePinLaw", "pick", "(I)Lcom/example/deadpaths_to_precision/deadpathstoprecision/frontend/IntegerType;"⟩ : MethodName)) hown (mvT hZ (hw _ (List.mem_of_getElem? (i := 1) rfl))) (mvT hZ (hw _ (List.mem_of_getElem? (i := 2) rfl))) (mvT hZ (hw _ (List.mem_of_getElem? (i := 3) rfl))) (mvT hZ (hw _ (List.mem_of_getElem? (i := 4) rfl))) (by decide) (backOf (W := 0) (rmP l Z a0 hw [] (3 : Int32) a_BOOL a_CHAR a_SIGNED_CHAR a_UNSIGNED_CHAR a_SHORT a_UNSIGNED_SHORT a_INT a_UNSIGNED_INT a_LONG a_UNSIGNED_LONG a_LONG_LONG a_UNSIGNED_LONG_LONG h0 n0 Z0 S_BOOL S_CHAR S_SIGNED_CHAR S_UNSIGNED_CHAR S_SHORT S_UNSIGNED_SHORT S_INT S_UNSIGNED_INT S_LONG S_UNSIGNED_LONG S_LONG_LONG S_UNSIGNED_LONG_LONG) hZ (hw _ (List.mem_of_getElem? (i := 4) rfl)) (hw _ (List.mem_of_getElem? (i := 3) rfl)) (by decide) (by decide)) (g := (mkF m 9 #[.val (.int p1), .val (.int (3 : Int32)), .unset, .unset] [(.int (3 : Int32))])) rfl (by rw [hml]; rfl) (argsL := [(.int (3 : Int32))]) (rest := []) (lenOf pd_0 rfl) rfl (by show 2 * 0 + _ ≤ _; exact Nat.le_of_eq rfl) (hb hby at_9) (fun _ _ => ⟨rfl, e0, (by decide : 0 + 0 ≤ _), (by decide : 0 + 0 ≤ _)⟩)
    dsimp only [Pt.U, Pt.locs, Pt.cells, Pt.slots] at X16 l16 y16 z16 st16 hQ16
    subst l16 y16 z16
    obtain ⟨hv16, N16q, r16⟩ := hQ16
    rw [if_neg (by decide), if_neg (by decide), if_neg (by decide), if_pos rfl] at hv16
    subst hv16
    have N16 := Fr.app N0 N16q
    obtain ⟨T17, X17, e17, st17⟩ := getS2 X16 hx hZ hown (host := "") (Or.inl (hw _ (List.mem_of_getElem? (i := 8) rfl))) Via.refl r16 S_INT (g := (mkF m 19 #[.val (.int p1), .val (.int (3 : Int32)), .val (.ref a_UNSIGNED_CHAR), .unset] [])) rfl (hb hby at_19)
    obtain ⟨cq18, kq18, q18a, q18b, q18c⟩ := isOf hZ e17 E_UNSIGNED_CHAR
    obtain ⟨_, _, ⟨T18, L18, k18, n18⟩, -, X18, ⟨Lc18, hQ18, l18, y18, z18⟩, st18⟩ := X17.virtualBack hx (y := (⟨"com/example/deadpaths_to_precision/deadpathstoprecision/frontend/IntegerType", "promote", "()Lcom/example/deadpaths_to_precision/deadpathstoprecision/frontend/IntegerType;"⟩ : MethodName)) (z := (⟨"com/example/deadpaths_to_precision/deadpathstoprecision/frontend/IntegerType", "promote", "()Lcom/example/deadpaths_to_precision/deadpathstoprecision/frontend/IntegerType;"⟩ : MethodName)) hown (mvT hZ (hw _ (List.mem_of_getElem? (i := 10) rfl))) (mvT hZ (hw _ (List.mem_of_getElem? (i := 11) rfl))) (notFace_of_selects (args := #[]) (mvT hZ (hw _ (List.mem_of_getElem? (i := 13) rfl)))) (mvT hZ (hw _ (List.mem_of_getElem? (i := 13) rfl))) (mvT hZ (hw _ (List.mem_of_getElem? (i := 12) rfl))) (by decide) (backOf (W := 0) (rm1 l Z a0 hw [] a_UNSIGNED_CHAR (1 : Int32) (3 : Int32) a_INT h0 n0 Z0 S_INT F_UNSIGNED_CHAR_rank F_INT_rank) hZ (hw _ (List.mem_of_getElem? (i := 14) rfl)) (hw _ (List.mem_of_getElem? (i := 6) rfl)) (by decide) (by decide)) q18a q18c (g := (mkF m 28 #[.val (.int p1), .val (.int (3 : Int32)), .val (.ref a_UNSIGNED_CHAR), .val (.ref a_INT)] [(.ref a_UNSIGNED_CHAR)])) rfl (by rw [hml]; rfl) (Steps.refl _) (argsL := []) (rest := []) (lenOf pd_1 rfl) rfl (by show 2 * 0 + _ ≤ _; exact Nat.le_of_eq rfl) (hb hby at_28) (fun _ _ => ⟨rfl, e17, (by decide : 0 + 0 ≤ _), (by decide : 0 + 0 ≤ _)⟩)
    dsimp only [Pt.U, Pt.locs, Pt.cells, Pt.slots] at X18 l18 y18 z18 st18 hQ18
    subst l18 y18 z18
    obtain ⟨hv18, N18q, r18⟩ := hQ18
    rw [if_pos (by decide)] at hv18
    subst hv18
    have N18 := Fr.app N16 N18q
    obtain ⟨fs, hr, hrun, hended, hW, hsame⟩ := X18.leave (v := some (.int (1 : Int32))) (fun h => by rw [Bd.returns] at h; cases h)
    refine ⟨_, _, pre0 _ (R1 _ (R15 _ ?_)), hrun, hended, _, _, rfl, ?_, ⟨_, rfl⟩, hW, hsame.mono (by decide) (by decide)⟩
    · show Steps p.tables e below (s₁.setTop (mkF m 8 #[.val (.int p1), .val (.int (3 : Int32)), .unset, .unset] [])) _
      refine XS.iloadN X0.here hx rfl (hb hby at_8) rfl ?_
      show Steps p.tables e below (s₁.setTop (mkF m 9 #[.val (.int p1), .val (.int (3 : Int32)), .unset, .unset] [(.int (3 : Int32))])) _
      refine st16 _ ?_
      show Steps p.tables e below (T16.setTop (mkF m 12 #[.val (.int p1), .val (.int (3 : Int32)), .unset, .unset] [(.ref a_UNSIGNED_CHAR)])) _
      refine XS.astoreN X16.here hx rfl (hb hby at_12) rfl rfl (l' := #[.val (.int p1), .val (.int (3 : Int32)), .val (.ref a_UNSIGNED_CHAR), .unset]) rfl ?_
      show Steps p.tables e below (T16.setTop (mkF m 13 #[.val (.int p1), .val (.int (3 : Int32)), .val (.ref a_UNSIGNED_CHAR), .unset] [])) _
      refine XS.iloadN X16.here hx rfl (hb hby at_13) rfl ?_
      show Steps p.tables e below (T16.setTop (mkF m 14 #[.val (.int p1), .val (.int (3 : Int32)), .val (.ref a_UNSIGNED_CHAR), .unset] [(.int (3 : Int32))])) _
      refine XS.bipush X16.here hx rfl (hb hby at_14) ?_
      show Steps p.tables e below (T16.setTop (mkF m 16 #[.val (.int p1), .val (.int (3 : Int32)), .val (.ref a_UNSIGNED_CHAR), .unset] [(.int (6 : Int32)), (.int (3 : Int32))])) _
      refine XS.icmpNo X16.here hx rfl (hb hby at_16) rfl (tlt (by decide : (3 : Int32) < (6 : Int32))).2.1 ?_
      show Steps p.tables e below (T16.setTop (mkF m 19 #[.val (.int p1), .val (.int (3 : Int32)), .val (.ref a_UNSIGNED_CHAR), .unset] [])) _
      refine st17 _ ?_
      show Steps p.tables e below (T17.setTop (mkF m 22 #[.val (.int p1), .val (.int (3 : Int32)), .val (.ref a_UNSIGNED_CHAR), .unset] [(.ref a_INT)])) _
      refine XS.goto X17.here hx rfl (pc0 := 22) (pc' := 26) rfl (hb hby at_22) (by decide) (by decide) ?_
      show Steps p.tables e below (T17.setTop (mkF m 26 #[.val (.int p1), .val (.int (3 : Int32)), .val (.ref a_UNSIGNED_CHAR), .unset] [(.ref a_INT)])) _
      refine XS.astoreN X17.here hx rfl (hb hby at_26) rfl rfl (l' := #[.val (.int p1), .val (.int (3 : Int32)), .val (.ref a_UNSIGNED_CHAR), .val (.ref a_INT)]) rfl ?_
      show Steps p.tables e below (T17.setTop (mkF m 27 #[.val (.int p1), .val (.int (3 : Int32)), .val (.ref a_UNSIGNED_CHAR), .val (.ref a_INT)] [])) _
      refine XS.aloadN X17.here hx rfl (hb hby at_27) rfl rfl ?_
      show Steps p.tables e below (T17.setTop (mkF m 28 #[.val (.int p1), .val (.int (3 : Int32)), .val (.ref a_UNSIGNED_CHAR), .val (.ref a_INT)] [(.ref a_UNSIGNED_CHAR)])) _
      refine st18.trans ?_
      show Steps p.tables e below (T18.setTop (mkF m 31 #[.val (.int p1), .val (.int (3 : Int32)), .val (.ref a_UNSIGNED_CHAR), .val (.ref a_INT)] [(.ref a_INT)])) _
      refine XS.aloadN X18.here hx rfl (hb hby at_31) rfl rfl ?_
      show Steps p.tables e below (T18.setTop (mkF m 32 #[.val (.int p1), .val (.int (3 : Int32)), .val (.ref a_UNSIGNED_CHAR), .val (.ref a_INT)] [(.ref a_INT), (.ref a_INT)])) _
      refine Jvm.RoadKit.acmp (g := (mkF m 32 #[.val (.int p1), .val (.int (3 : Int32)), .val (.ref a_UNSIGNED_CHAR), .val (.ref a_INT)] [(.ref a_INT), (.ref a_INT)])) X18 hx rfl rfl rfl (pc0 := 32) (pc' := 35) (same := true) rfl (hb hby at_32) rfl (decide_eq_true rfl) (by decide) (by decide) ?_
      show Steps p.tables e below (T18.setTop (mkF m 35 #[.val (.int p1), .val (.int (3 : Int32)), .val (.ref a_UNSIGNED_CHAR), .val (.ref a_INT)] [])) _
      refine XS.iconst X18.here hx rfl (hb hby at_35) ?_
      show Steps p.tables e below (T18.setTop (mkF m 36 #[.val (.int p1), .val (.int (3 : Int32)), .val (.ref a_UNSIGNED_CHAR), .val (.ref a_INT)] [(.int (1 : Int32))])) _
      refine XS.goto X18.here hx rfl (pc0 := 36) (pc' := 40) rfl (hb hby at_36) (by decide) (by decide) ?_
      show Steps p.tables e below (T18.setTop (mkF m 40 #[.val (.int p1), .val (.int (3 : Int32)), .val (.ref a_UNSIGNED_CHAR), .val (.ref a_INT)] [(.int (1 : Int32))])) _
      exact retN X18 hx (t := .boolean) Bd.returns (by simp) (hb hby at_40) hr
    · show Q0 n0 _ T18.heap _
      rw [r18]
      exact ⟨rfl, N18⟩
  · have R19 : ∀ tg, Steps p.tables e below (s₁.setTop (mkF m 8 #[.val (.int p1), .val (.int (4 : Int32)), .unset, .unset] [])) tg → Steps p.tables e below (s₁.setTop (mkF m 8 #[.val (.int p1), .val (.int ((p1 &&& (2147483647 : Int32)) % (12 : Int32))), .unset, .unset] [])) tg := fun tg kt => by rw [hk2]; exact kt
    obtain ⟨_, _, ⟨T20, L20, k20, n20⟩, -, X20, ⟨Lc20, hQ20, l20, y20, z20⟩, st20⟩ := Jvm.LawKit.callS X0 hx (y := (⟨"com/example/deadpaths_to_precision/deadpathstoprecision/frontend/IntegerTypePromotePinLaw", "pick", "(I)Lcom/example/deadpaths_to_precision/deadpathstoprecision/frontend/IntegerType;"⟩ : MethodName)) hown (mvT hZ (hw _ (List.mem_of_getElem? (i := 1) rfl))) (mvT hZ (hw _ (List.mem_of_getElem? (i := 2) rfl))) (mvT hZ (hw _ (List.mem_of_getElem? (i := 3) rfl))) (mvT hZ (hw _ (List.mem_of_getElem? (i := 4) rfl))) (by decide) (backOf (W := 0) (rmP l Z a0 hw [] (4 : Int32) a_BOOL a_CHAR a_SIGNED_CHAR a_UNSIGNED_CHAR a_SHORT a_UNSIGNED_SHORT a_INT a_UNSIGNED_INT a_LONG a_UNSIGNED_LONG a_LONG_LONG a_UNSIGNED_LONG_LONG h0 n0 Z0 S_BOOL S_CHAR S_SIGNED_CHAR S_UNSIGNED_CHAR S_SHORT S_UNSIGNED_SHORT S_INT S_UNSIGNED_INT S_LONG S_UNSIGNED_LONG S_LONG_LONG S_UNSIGNED_LONG_LONG) hZ (hw _ (List.mem_of_getElem? (i := 4) rfl)) (hw _ (List.mem_of_getElem? (i := 3) rfl)) (by decide) (by decide)) (g := (mkF m 9 #[.val (.int p1), .val (.int (4 : Int32)), .unset, .unset] [(.int (4 : Int32))])) rfl (by rw [hml]; rfl) (argsL := [(.int (4 : Int32))]) (rest := []) (lenOf pd_0 rfl) rfl (by show 2 * 0 + _ ≤ _; exact Nat.le_of_eq rfl) (hb hby at_9) (fun _ _ => ⟨rfl, e0, (by decide : 0 + 0 ≤ _), (by decide : 0 + 0 ≤ _)⟩)
    dsimp only [Pt.U, Pt.locs, Pt.cells, Pt.slots] at X20 l20 y20 z20 st20 hQ20
    subst l20 y20 z20
    obtain ⟨hv20, N20q, r20⟩ := hQ20
    rw [if_neg (by decide), if_neg (by decide), if_neg (by decide), if_neg (by decide), if_pos rfl] at hv20
    subst hv20
    have N20 := Fr.app N0 N20q
    obtain ⟨T21, X21, e21, st21⟩ := getS2 X20 hx hZ hown (host := "") (Or.inl (hw _ (List.mem_of_getElem? (i := 8) rfl))) Via.refl r20 S_INT (g := (mkF m 19 #[.val (.int p1), .val (.int (4 : Int32)), .val (.ref a_SHORT), .unset] [])) rfl (hb hby at_19)
    obtain ⟨cq22, kq22, q22a, q22b, q22c⟩ := isOf hZ e21 E_SHORT
    obtain ⟨_, _, ⟨T22, L22, k22, n22⟩, -, X22, ⟨Lc22, hQ22, l22, y22, z22⟩, st22⟩ := X21.virtualBack hx (y := (⟨"com/example/deadpaths_to_precision/deadpathstoprecision/frontend/IntegerType", "promote", "()Lcom/example/deadpaths_to_precision/deadpathstoprecision/frontend/IntegerType;"⟩ : MethodName)) (z := (⟨"com/example/deadpaths_to_precision/deadpathstoprecision/frontend/IntegerType", "promote", "()Lcom/example/deadpaths_to_precision/deadpathstoprecision/frontend/IntegerType;"⟩ : MethodName)) hown (mvT hZ (hw _ (List.mem_of_getElem? (i := 10) rfl))) (mvT hZ (hw _ (List.mem_of_getElem? (i := 11) rfl))) (notFace_of_selects (args := #[]) (mvT hZ (hw _ (List.mem_of_getElem? (i := 13) rfl)))) (mvT hZ (hw _ (List.mem_of_getElem? (i := 13) rfl))) (mvT hZ (hw _ (List.mem_of_getElem? (i := 12) rfl))) (by decide) (backOf (W := 0) (rm1 l Z a0 hw [] a_SHORT (2 : Int32) (3 : Int32) a_INT h0 n0 Z0 S_INT F_SHORT_rank F_INT_rank) hZ (hw _ (List.mem_of_getElem? (i := 14) rfl)) (hw _ (List.mem_of_getElem? (i := 6) rfl)) (by decide) (by decide)) q22a q22c (g := (mkF m 28 #[.val (.int p1), .val (.int (4 : Int32)), .val (.ref a_SHORT), .val (.ref a_INT)] [(.ref a_SHORT)])) rfl (by rw [hml]; rfl) (Steps.refl _) (argsL := []) (rest := []) (lenOf pd_1 rfl) rfl (by show 2 * 0 + _ ≤ _; exact Nat.le_of_eq rfl) (hb hby at_28) (fun _ _ => ⟨rfl, e21, (by decide : 0 + 0 ≤ _), (by decide : 0 + 0 ≤ _)⟩)
    dsimp only [Pt.U, Pt.locs, Pt.cells, Pt.slots] at X22 l22 y22 z22 st22 hQ22
    subst l22 y22 z22
    obtain ⟨hv22, N22q, r22⟩ := hQ22
    rw [if_pos (by decide)] at hv22
    subst hv22
    have N22 := Fr.app N20 N22q
    obtain ⟨fs, hr, hrun, hended, hW, hsame⟩ := X22.leave (v := some (.int (1 : Int32))) (fun h => by rw [Bd.returns] at h; cases h)
    refine ⟨_, _, pre0 _ (R1 _ (R19 _ ?_)), hrun, hended, _, _, rfl, ?_, ⟨_, rfl⟩, hW, hsame.mono (by decide) (by decide)⟩
    · show Steps p.tables e below (s₁.setTop (mkF m 8 #[.val (.int p1), .val (.int (4 : Int32)), .unset, .unset] [])) _
      refine XS.iloadN X0.here hx rfl (hb hby at_8) rfl ?_
      show Steps p.tables e below (s₁.setTop (mkF m 9 #[.val (.int p1), .val (.int (4 : Int32)), .unset, .unset] [(.int (4 : Int32))])) _
      refine st20 _ ?_
      show Steps p.tables e below (T20.setTop (mkF m 12 #[.val (.int p1), .val (.int (4 : Int32)), .unset, .unset] [(.ref a_SHORT)])) _
      refine XS.astoreN X20.here hx rfl (hb hby at_12) rfl rfl (l' := #[.val (.int p1), .val (.int (4 : Int32)), .val (.ref a_SHORT), .unset]) rfl ?_
      show Steps p.tables e below (T20.setTop (mkF m 13 #[.val (.int p1), .val (.int (4 : Int32)), .val (.ref a_SHORT), .unset] [])) _
      refine XS.iloadN X20.here hx rfl (hb hby at_13) rfl ?_
      show Steps p.tables e below (T20.setTop (mkF m 14 #[.val (.int p1), .val (.int (4 : Int32)), .val (.ref a_SHORT), .unset] [(.int (4 : Int32))])) _
      refine XS.bipush X20.here hx rfl (hb hby at_14) ?_
      show Steps p.tables e below (T20.setTop (mkF m 16 #[.val (.int p1), .val (.int (4 : Int32)), .val (.ref a_SHORT), .unset] [(.int (6 : Int32)), (.int (4 : Int32))])) _
      refine XS.icmpNo X20.here hx rfl (hb hby at_16) rfl (tlt (by decide : (4 : Int32) < (6 : Int32))).2.1 ?_
      show Steps p.tables e below (T20.setTop (mkF m 19 #[.val (.int p1), .val (.int (4 : Int32)), .val (.ref a_SHORT), .unset] [])) _
      refine st21 _ ?_
      show Steps p.tables e below (T21.setTop (mkF m 22 #[.val (.int p1), .val (.int (4 : Int32)), .val (.ref a_SHORT), .unset] [(.ref a_INT)])) _
      refine XS.goto X21.here hx rfl (pc0 := 22) (pc' := 26) rfl (hb hby at_22) (by decide) (by decide) ?_
      show Steps p.tables e below (T21.setTop (mkF m 26 #[.val (.int p1), .val (.int (4 : Int32)), .val (.ref a_SHORT), .unset] [(.ref a_INT)])) _
      refine XS.astoreN X21.here hx rfl (hb hby at_26) rfl rfl (l' := #[.val (.int p1), .val (.int (4 : Int32)), .val (.ref a_SHORT), .val (.ref a_INT)]) rfl ?_
      show Steps p.tables e below (T21.setTop (mkF m 27 #[.val (.int p1), .val (.int (4 : Int32)), .val (.ref a_SHORT), .val (.ref a_INT)] [])) _
      refine XS.aloadN X21.here hx rfl (hb hby at_27) rfl rfl ?_
      show Steps p.tables e below (T21.setTop (mkF m 28 #[.val (.int p1), .val (.int (4 : Int32)), .val (.ref a_SHORT), .val (.ref a_INT)] [(.ref a_SHORT)])) _
      refine st22.trans ?_
      show Steps p.tables e below (T22.setTop (mkF m 31 #[.val (.int p1), .val (.int (4 : Int32)), .val (.ref a_SHORT), .val (.ref a_INT)] [(.ref a_INT)])) _
      refine XS.aloadN X22.here hx rfl (hb hby at_31) rfl rfl ?_
      show Steps p.tables e below (T22.setTop (mkF m 32 #[.val (.int p1), .val (.int (4 : Int32)), .val (.ref a_SHORT), .val (.ref a_INT)] [(.ref a_INT), (.ref a_INT)])) _
      refine Jvm.RoadKit.acmp (g := (mkF m 32 #[.val (.int p1), .val (.int (4 : Int32)), .val (.ref a_SHORT), .val (.ref a_INT)] [(.ref a_INT), (.ref a_INT)])) X22 hx rfl rfl rfl (pc0 := 32) (pc' := 35) (same := true) rfl (hb hby at_32) rfl (decide_eq_true rfl) (by decide) (by decide) ?_
      show Steps p.tables e below (T22.setTop (mkF m 35 #[.val (.int p1), .val (.int (4 : Int32)), .val (.ref a_SHORT), .val (.ref a_INT)] [])) _
      refine XS.iconst X22.here hx rfl (hb hby at_35) ?_
      show Steps p.tables e below (T22.setTop (mkF m 36 #[.val (.int p1), .val (.int (4 : Int32)), .val (.ref a_SHORT), .val (.ref a_INT)] [(.int (1 : Int32))])) _
      refine XS.goto X22.here hx rfl (pc0 := 36) (pc' := 40) rfl (hb hby at_36) (by decide) (by decide) ?_
      show Steps p.tables e below (T22.setTop (mkF m 40 #[.val (.int p1), .val (.int (4 : Int32)), .val (.ref a_SHORT), .val (.ref a_INT)] [(.int (1 : Int32))])) _
      exact retN X22 hx (t := .boolean) Bd.returns (by simp) (hb hby at_40) hr
    · show Q0 n0 _ T22.heap _
      rw [r22]
      exact ⟨rfl, N22⟩
  · have R23 : ∀ tg, Steps p.tables e below (s₁.setTop (mkF m 8 #[.val (.int p1), .val (.int (5 : Int32)), .unset, .unset] [])) tg → Steps p.tables e below (s₁.setTop (mkF m 8 #[.val (.int p1), .val (.int ((p1 &&& (2147483647 : Int32)) % (12 : Int32))), .unset, .unset] [])) tg := fun tg kt => by rw [hk2]; exact kt
    obtain ⟨_, _, ⟨T24, L24, k24, n24⟩, -, X24, ⟨Lc24, hQ24, l24, y24, z24⟩, st24⟩ := Jvm.LawKit.callS X0 hx (y := (⟨"com/example/deadpaths_to_precision/deadpathstoprecision/frontend/IntegerTypePromotePinLaw", "pick", "(I)Lcom/example/deadpaths_to_precision/deadpathstoprecision/frontend/IntegerType;"⟩ : MethodName)) hown (mvT hZ (hw _ (List.mem_of_getElem? (i := 1) rfl))) (mvT hZ (hw _ (List.mem_of_getElem? (i := 2) rfl))) (mvT hZ (hw _ (List.mem_of_getElem? (i := 3) rfl))) (mvT hZ (hw _ (List.mem_of_getElem? (i := 4) rfl))) (by decide) (backOf (W := 0) (rmP l Z a0 hw [] (5 : Int32) a_BOOL a_CHAR a_SIGNED_CHAR a_UNSIGNED_CHAR a_SHORT a_UNSIGNED_SHORT a_INT a_UNSIGNED_INT a_LONG a_UNSIGNED_LONG a_LONG_LONG a_UNSIGNED_LONG_LONG h0 n0 Z0 S_BOOL S_CHAR S_SIGNED_CHAR S_UNSIGNED_CHAR S_SHORT S_UNSIGNED_SHORT S_INT S_UNSIGNED_INT S_LONG S_UNSIGNED_LONG S_LONG_LONG S_UNSIGNED_LONG_LONG) hZ (hw _ (List.mem_of_getElem? (i := 4) rfl)) (hw _ (List.mem_of_getElem? (i := 3) rfl)) (by decide) (by decide)) (g := (mkF m 9 #[.val (.int p1), .val (.int (5 : Int32)), .unset, .unset] [(.int (5 : Int32))])) rfl (by rw [hml]; rfl) (argsL := [(.int (5 : Int32))]) (rest := []) (lenOf pd_0 rfl) rfl (by show 2 * 0 + _ ≤ _; exact Nat.le_of_eq rfl) (hb hby at_9) (fun _ _ => ⟨rfl, e0, (by decide : 0 + 0 ≤ _), (by decide : 0 + 0 ≤ _)⟩)
    dsimp only [Pt.U, Pt.locs, Pt.cells, Pt.slots] at X24 l24 y24 z24 st24 hQ24
    subst l24 y24 z24
    obtain ⟨hv24, N24q, r24⟩ := hQ24
    rw [if_neg (by decide), if_neg (by decide), if_neg (by decide), if_neg (by decide), if_neg (by decide), if_pos rfl] at hv24
    subst hv24
    have N24 := Fr.app N0 N24q
    obtain ⟨T25, X25, e25, st25⟩ := getS2 X24 hx hZ hown (host := "") (Or.inl (hw _ (List.mem_of_getElem? (i := 8) rfl))) Via.refl r24 S_INT (g := (mkF m 19 #[.val (.int p1), .val (.int (5 : Int32)), .val (.ref a_UNSIGNED_SHORT), .unset] [])) rfl (hb hby at_19)
    obtain ⟨cq26, kq26, q26a, q26b, q26c⟩ := isOf hZ e25 E_UNSIGNED_SHORT
    obtain ⟨_, _, ⟨T26, L26, k26, n26⟩, -, X26, ⟨Lc26, hQ26, l26, y26, z26⟩, st26⟩ := X25.virtualBack hx (y := (⟨"com/example/deadpaths_to_precision/deadpathstoprecision/frontend/IntegerType", "promote", "()Lcom/example/deadpaths_to_precision/deadpathstoprecision/frontend/IntegerType;"⟩ : MethodName)) (z := (⟨"com/example/deadpaths_to_precision/deadpathstoprecision/frontend/IntegerType", "promote", "()Lcom/example/deadpaths_to_precision/deadpathstoprecision/frontend/IntegerType;"⟩ : MethodName)) hown (mvT hZ (hw _ (List.mem_of_getElem? (i := 10) rfl))) (mvT hZ (hw _ (List.mem_of_getElem? (i := 11) rfl))) (notFace_of_selects (args := #[]) (mvT hZ (hw _ (List.mem_of_getElem? (i := 13) rfl)))) (mvT hZ (hw _ (List.mem_of_getElem? (i := 13) rfl))) (mvT hZ (hw _ (List.mem_of_getElem? (i := 12) rfl))) (by decide) (backOf (W := 0) (rm1 l Z a0 hw [] a_UNSIGNED_SHORT (2 : Int32) (3 : Int32) a_INT h0 n0 Z0 S_INT F_UNSIGNED_SHORT_rank F_INT_rank) hZ (hw _ (List.mem_of_getElem? (i := 14) rfl)) (hw _ (List.mem_of_getElem? (i := 6) rfl)) (by decide) (by decide)) q26a q26c (g := (mkF m 28 #[.val (.int p1), .val (.int (5 : Int32)), .val (.ref a_UNSIGNED_SHORT), .val (.ref a_INT)] [(.ref a_UNSIGNED_SHORT)])) rfl (by rw [hml]; rfl) (Steps.refl _) (argsL := []) (rest := []) (lenOf pd_1 rfl) rfl (by show 2 * 0 + _ ≤ _; exact Nat.le_of_eq rfl) (hb hby at_28) (fun _ _ => ⟨rfl, e25, (by decide : 0 + 0 ≤ _), (by decide : 0 + 0 ≤ _)⟩)
    dsimp only [Pt.U, Pt.locs, Pt.cells, Pt.slots] at X26 l26 y26 z26 st26 hQ26
    subst l26 y26 z26
    obtain ⟨hv26, N26q, r26⟩ := hQ26
    rw [if_pos (by decide)] at hv26
    subst hv26
    have N26 := Fr.app N24 N26q
    obtain ⟨fs, hr, hrun, hended, hW, hsame⟩ := X26.leave (v := some (.int (1 : Int32))) (fun h => by rw [Bd.returns] at h; cases h)
    refine ⟨_, _, pre0 _ (R1 _ (R23 _ ?_)), hrun, hended, _, _, rfl, ?_, ⟨_, rfl⟩, hW, hsame.mono (by decide) (by decide)⟩
    · show Steps p.tables e below (s₁.setTop (mkF m 8 #[.val (.int p1), .val (.int (5 : Int32)), .unset, .unset] [])) _
      refine XS.iloadN X0.here hx rfl (hb hby at_8) rfl ?_
      show Steps p.tables e below (s₁.setTop (mkF m 9 #[.val (.int p1), .val (.int (5 : Int32)), .unset, .unset] [(.int (5 : Int32))])) _
      refine st24 _ ?_
      show Steps p.tables e below (T24.setTop (mkF m 12 #[.val (.int p1), .val (.int (5 : Int32)), .unset, .unset] [(.ref a_UNSIGNED_SHORT)])) _
      refine XS.astoreN X24.here hx rfl (hb hby at_12) rfl rfl (l' := #[.val (.int p1), .val (.int (5 : Int32)), .val (.ref a_UNSIGNED_SHORT), .unset]) rfl ?_
      show Steps p.tables e below (T24.setTop (mkF m 13 #[.val (.int p1), .val (.int (5 : Int32)), .val (.ref a_UNSIGNED_SHORT), .unset] [])) _
      refine XS.iloadN X24.here hx rfl (hb hby at_13) rfl ?_
      show Steps p.tables e below (T24.setTop (mkF m 14 #[.val (.int p1), .val (.int (5 : Int32)), .val (.ref a_UNSIGNED_SHORT), .unset] [(.int (5 : Int32))])) _
      refine XS.bipush X24.here hx rfl (hb hby at_14) ?_
      show Steps p.tables e below (T24.setTop (mkF m 16 #[.val (.int p1), .val (.int (5 : Int32)), .val (.ref a_UNSIGNED_SHORT), .unset] [(.int (6 : Int32)), (.int (5 : Int32))])) _
      refine XS.icmpNo X24.here hx rfl (hb hby at_16) rfl (tlt (by decide : (5 : Int32) < (6 : Int32))).2.1 ?_
      show Steps p.tables e below (T24.setTop (mkF m 19 #[.val (.int p1), .val (.int (5 : Int32)), .val (.ref a_UNSIGNED_SHORT), .unset] [])) _
      refine st25 _ ?_
      show Steps p.tables e below (T25.setTop (mkF m 22 #[.val (.int p1), .val (.int (5 : Int32)), .val (.ref a_UNSIGNED_SHORT), .unset] [(.ref a_INT)])) _
      refine XS.goto X25.here hx rfl (pc0 := 22) (pc' := 26) rfl (hb hby at_22) (by decide) (by decide) ?_
      show Steps p.tables e below (T25.setTop (mkF m 26 #[.val (.int p1), .val (.int (5 : Int32)), .val (.ref a_UNSIGNED_SHORT), .unset] [(.ref a_INT)])) _
      refine XS.astoreN X25.here hx rfl (hb hby at_26) rfl rfl (l' := #[.val (.int p1), .val (.int (5 : Int32)), .val (.ref a_UNSIGNED_SHORT), .val (.ref a_INT)]) rfl ?_
      show Steps p.tables e below (T25.setTop (mkF m 27 #[.val (.int p1), .val (.int (5 : Int32)), .val (.ref a_UNSIGNED_SHORT), .val (.ref a_INT)] [])) _
      refine XS.aloadN X25.here hx rfl (hb hby at_27) rfl rfl ?_
      show Steps p.tables e below (T25.setTop (mkF m 28 #[.val (.int p1), .val (.int (5 : Int32)), .val (.ref a_UNSIGNED_SHORT), .val (.ref a_INT)] [(.ref a_UNSIGNED_SHORT)])) _
      refine st26.trans ?_
      show Steps p.tables e below (T26.setTop (mkF m 31 #[.val (.int p1), .val (.int (5 : Int32)), .val (.ref a_UNSIGNED_SHORT), .val (.ref a_INT)] [(.ref a_INT)])) _
      refine XS.aloadN X26.here hx rfl (hb hby at_31) rfl rfl ?_
      show Steps p.tables e below (T26.setTop (mkF m 32 #[.val (.int p1), .val (.int (5 : Int32)), .val (.ref a_UNSIGNED_SHORT), .val (.ref a_INT)] [(.ref a_INT), (.ref a_INT)])) _
      refine Jvm.RoadKit.acmp (g := (mkF m 32 #[.val (.int p1), .val (.int (5 : Int32)), .val (.ref a_UNSIGNED_SHORT), .val (.ref a_INT)] [(.ref a_INT), (.ref a_INT)])) X26 hx rfl rfl rfl (pc0 := 32) (pc' := 35) (same := true) rfl (hb hby at_32) rfl (decide_eq_true rfl) (by decide) (by decide) ?_
      show Steps p.tables e below (T26.setTop (mkF m 35 #[.val (.int p1), .val (.int (5 : Int32)), .val (.ref a_UNSIGNED_SHORT), .val (.ref a_INT)] [])) _
      refine XS.iconst X26.here hx rfl (hb hby at_35) ?_
      show Steps p.tables e below (T26.setTop (mkF m 36 #[.val (.int p1), .val (.int (5 : Int32)), .val (.ref a_UNSIGNED_SHORT), .val (.ref a_INT)] [(.int (1 : Int32))])) _
      refine XS.goto X26.here hx rfl (pc0 := 36) (pc' := 40) rfl (hb hby at_36) (by decide) (by decide) ?_
      show Steps p.tables e below (T26.setTop (mkF m 40 #[.val (.int p1), .val (.int (5 : Int32)), .val (.ref a_UNSIGNED_SHORT), .val (.ref a_INT)] [(.int (1 : Int32))])) _
      exact retN X26 hx (t := .boolean) Bd.returns (by simp) (hb hby at_40) hr
    · show Q0 n0 _ T26.heap _
      rw [r26]
      exact ⟨rfl, N26⟩
  · have R27 : ∀ tg, Steps p.tables e below (s₁.setTop (mkF m 8 #[.val (.int p1), .val (.int (6 : Int32)), .unset, .unset] [])) tg → Steps p.tables e below (s₁.setTop (mkF m 8 #[.val (.int p1), .val (.int ((p1 &&& (2147483647 : Int32)) % (12 : Int32))), .unset, .unset] [])) tg := fun tg kt => by rw [hk2]; exact kt
    obtain ⟨_, _, ⟨T28, L28, k28, n28⟩, -, X28, ⟨Lc28, hQ28, l28, y28, z28⟩, st28⟩ := Jvm.LawKit.callS X0 hx (y := (⟨"com/example/deadpaths_to_precision/deadpathstoprecision/frontend/IntegerTypePromotePinLaw", "pick", "(I)Lcom/example/deadpaths_to_precision/deadpathstoprecision/frontend/IntegerType;"⟩ : MethodName)) hown (mvT hZ (hw _ (List.mem_of_getElem? (i := 1) rfl))) (mvT hZ (hw _ (List.mem_of_getElem? (i := 2) rfl))) (mvT hZ (hw _ (List.mem_of_getElem? (i := 3) rfl))) (mvT hZ (hw _ (List.mem_of_getElem? (i := 4) rfl))) (by decide) (backOf (W := 0) (rmP l Z a0 hw [] (6 : Int32) a_BOOL a_CHAR a_SIGNED_CHAR a_UNSIGNED_CHAR a_SHORT a_UNSIGNED_SHORT a_INT a_UNSIGNED_INT a_LONG a_UNSIGNED_LONG a_LONG_LONG a_UNSIGNED_LONG_LONG h0 n0 Z0 S_BOOL S_CHAR S_SIGNED_CHAR S_UNSIGNED_CHAR S_SHORT S_UNSIGNED_SHORT S_INT S_UNSIGNED_INT S_LONG S_UNSIGNED_LONG S_LONG_LONG S_UNSIGNED_LONG_LONG) hZ (hw _ (List.mem_of_getElem? (i := 4) rfl)) (hw _ (List.mem_of_getElem? (i := 3) rfl)) (by decide) (by decide)) (g := (mkF m 9 #[.val (.int p1), .val (.int (6 : Int32)), .unset, .unset] [(.int (6 : Int32))])) rfl (by rw [hml]; rfl) (argsL := [(.int (6 : Int32))]) (rest := []) (lenOf pd_0 rfl) rfl (by show 2 * 0 + _ ≤ _; exact Nat.le_of_eq rfl) (hb hby at_9) (fun _ _ => ⟨rfl, e0, (by decide : 0 + 0 ≤ _), (by decide : 0 + 0 ≤ _)⟩)
    dsimp only [Pt.U, Pt.locs, Pt.cells, Pt.slots] at X28 l28 y28 z28 st28 hQ28
    subst l28 y28 z28
    obtain ⟨hv28, N28q, r28⟩ := hQ28
    rw [if_neg (by decide), if_neg (by decide), if_neg (by decide), if_neg (by decide), if_neg (by decide), if_neg (by decide), if_pos rfl] at hv28
    subst hv28
    have N28 := Fr.app N0 N28q
    obtain ⟨cq29, kq29, q29a, q29b, q29c⟩ := isOf hZ r28 E_INT
    obtain ⟨_, _, ⟨T29, L29, k29, n29⟩, -, X29, ⟨Lc29, hQ29, l29, y29, z29⟩, st29⟩ := X28.virtualBack hx (y := (⟨"com/example/deadpaths_to_precision/deadpathstoprecision/frontend/IntegerType", "promote", "()Lcom/example/deadpaths_to_precision/deadpathstoprecision/frontend/IntegerType;"⟩ : MethodName)) (z := (⟨"com/example/deadpaths_to_precision/deadpathstoprecision/frontend/IntegerType", "promote", "()Lcom/example/deadpaths_to_precision/deadpathstoprecision/frontend/IntegerType;"⟩ : MethodName)) hown (mvT hZ (hw _ (List.mem_of_getElem? (i := 10) rfl))) (mvT hZ (hw _ (List.mem_of_getElem? (i := 11) rfl))) (notFace_of_selects (args := #[]) (mvT hZ (hw _ (List.mem_of_getElem? (i := 13) rfl)))) (mvT hZ (hw _ (List.mem_of_getElem? (i := 13) rfl))) (mvT hZ (hw _ (List.mem_of_getElem? (i := 12) rfl))) (by decide) (backOf (W := 0) (rm1 l Z a0 hw [] a_INT (3 : Int32) (3 : Int32) a_INT h0 n0 Z0 S_INT F_INT_rank F_INT_rank) hZ (hw _ (List.mem_of_getElem? (i := 14) rfl)) (hw _ (List.mem_of_getElem? (i := 6) rfl)) (by decide) (by decide)) q29a q29c (g := (mkF m 28 #[.val (.int p1), .val (.int (6 : Int32)), .val (.ref a_INT), .val (.ref a_INT)] [(.ref a_INT)])) rfl (by rw [hml]; rfl) (Steps.refl _) (argsL := []) (rest := []) (lenOf pd_1 rfl) rfl (by show 2 * 0 + _ ≤ _; exact Nat.le_of_eq rfl) (hb hby at_28) (fun _ _ => ⟨rfl, r28, (by decide : 0 + 0 ≤ _), (by decide : 0 + 0 ≤ _)⟩)
    dsimp only [Pt.U, Pt.locs, Pt.cells, Pt.slots] at X29 l29 y29 z29 st29 hQ29
    subst l29 y29 z29
    obtain ⟨hv29, N29q, r29⟩ := hQ29
    rw [if_neg (by decide)] at hv29
    subst hv29
    have N29 := Fr.app N28 N29q
    obtain ⟨fs, hr, hrun, hended, hW, hsame⟩ := X29.leave (v := some (.int (1 : Int32))) (fun h => by rw [Bd.returns] at h; cases h)
    refine ⟨_, _, pre0 _ (R1 _ (R27 _ ?_)), hrun, hended, _, _, rfl, ?_, ⟨_, rfl⟩, hW, hsame.mono (by decide) (by decide)⟩
    · show Steps p.tables e below (s₁.setTop (mkF m 8 #[.val (.int p1), .val (.int (6 : Int32)), .unset, .unset] [])) _
      refine XS.iloadN X0.here hx rfl (hb hby at_8) rfl ?_
      show Steps p.tables e below (s₁.setTop (mkF m 9 #[.val (.int p1), .val (.int (6 : Int32)), .unset, .unset] [(.int (6 : Int32))])) _
      refine st28 _ ?_
      show Steps p.tables e below (T28.setTop (mkF m 12 #[.val (.int p1), .val (.int (6 : Int32)), .unset, .unset] [(.ref a_INT)])) _
      refine XS.astoreN X28.here hx rfl (hb hby at_12) rfl rfl (l' := #[.val (.int p1), .val (.int (6 : Int32)), .val (.ref a_INT), .unset]) rfl ?_
      show Steps p.tables e below (T28.setTop (mkF m 13 #[.val (.int p1), .val (.int (6 : Int32)), .val (.ref a_INT), .unset] [])) _
      refine XS.iloadN X28.here hx rfl (hb hby at_13) rfl ?_
      show Steps p.tables e below (T28.setTop (mkF m 14 #[.val (.int p1), .val (.int (6 : Int32)), .val (.ref a_INT), .unset] [(.int (6 : Int32))])) _
      refine XS.bipush X28.here hx rfl (hb hby at_14) ?_
      show Steps p.tables e below (T28.setTop (mkF m 16 #[.val (.int p1), .val (.int (6 : Int32)), .val (.ref a_INT), .unset] [(.int (6 : Int32)), (.int (6 : Int32))])) _
      refine XS.icmpYes X28.here hx rfl (pc0 := 16) (pc' := 25) rfl (hb hby at_16) rfl (flt (by decide : ¬ ((6 : Int32) < (6 : Int32)))).2.1 (by decide) (by decide) ?_
      show Steps p.tables e below (T28.setTop (mkF m 25 #[.val (.int p1), .val (.int (6 : Int32)), .val (.ref a_INT), .unset] [])) _
      refine XS.aloadN X28.here hx rfl (hb hby at_25) rfl rfl ?_
      show Steps p.tables e below (T28.setTop (mkF m 26 #[.val (.int p1), .val (.int (6 : Int32)), .val (.ref a_INT), .unset] [(.ref a_INT)])) _
      refine XS.astoreN X28.here hx rfl (hb hby at_26) rfl rfl (l' := #[.val (.int p1), .val (.int (6 : Int32)), .val (.ref a_INT), .val (.ref a_INT)]) rfl ?_
      show Steps p.tables e below (T28.setTop (mkF m 27 #[.val (.int p1), .val (.int (6 : Int32)), .val (.ref a_INT), .val (.ref a_INT)] [])) _
      refine XS.aloadN X28.here hx rfl (hb hby at_27) rfl rfl ?_
      show Steps p.tables e below (T28.setTop (mkF m 28 #[.val (.int p1), .val (.int (6 : Int32)), .val (.ref a_INT), .val (.ref a_INT)] [(.ref a_INT)])) _
      refine st29.trans ?_
      show Steps p.tables e below (T29.setTop (mkF m 31 #[.val (.int p1), .val (.int (6 : Int32)), .val (.ref a_INT), .val (.ref a_INT)] [(.ref a_INT)])) _
      refine XS.aloadN X29.here hx rfl (hb hby at_31) rfl rfl ?_
      show Steps p.tables e below (T29.setTop (mkF m 32 #[.val (.int p1), .val (.int (6 : Int32)), .val (.ref a_INT), .val (.ref a_INT)] [(.ref a_INT), (.ref a_INT)])) _
      refine Jvm.RoadKit.acmp (g := (mkF m 32 #[.val (.int p1), .val (.int (6 : Int32)), .val (.ref a_INT), .val (.ref a_INT)] [(.ref a_INT), (.ref a_INT)])) X29 hx rfl rfl rfl (pc0 := 32) (pc' := 35) (same := true) rfl (hb hby at_32) rfl (decide_eq_true rfl) (by decide) (by decide) ?_
      show Steps p.tables e below (T29.setTop (mkF m 35 #[.val (.int p1), .val (.int (6 : Int32)), .val (.ref a_INT), .val (.ref a_INT)] [])) _
      refine XS.iconst X29.here hx rfl (hb hby at_35) ?_
      show Steps p.tables e below (T29.setTop (mkF m 36 #[.val (.int p1), .val (.int (6 : Int32)), .val (.ref a_INT), .val (.ref a_INT)] [(.int (1 : Int32))])) _
      refine XS.goto X29.here hx rfl (pc0 := 36) (pc' := 40) rfl (hb hby at_36) (by decide) (by decide) ?_
      show Steps p.tables e below (T29.setTop (mkF m 40 #[.val (.int p1), .val (.int (6 : Int32)), .val (.ref a_INT), .val (.ref a_INT)] [(.int (1 : Int32))])) _
      exact retN X29 hx (t := .boolean) Bd.returns (by simp) (hb hby at_40) hr
    · show Q0 n0 _ T29.heap _
      rw [r29]
      exact ⟨rfl, N29⟩
  · have R30 : ∀ tg, Steps p.tables e below (s₁.setTop (mkF m 8 #[.val (.int p1), .val (.int (7 : Int32)), .unset, .unset] [])) tg → Steps p.tables e below (s₁.setTop (mkF m 8 #[.val (.int p1), .val (.int ((p1 &&& (2147483647 : Int32)) % (12 : Int32))), .unset, .unset] [])) tg := fun tg kt => by rw [hk2]; exact kt
    obtain ⟨_, _, ⟨T31, L31, k31, n31⟩, -, X31, ⟨Lc31, hQ31, l31, y31, z31⟩, st31⟩ := Jvm.LawKit.callS X0 hx (y := (⟨"com/example/deadpaths_to_precision/deadpathstoprecision/frontend/IntegerTypePromotePinLaw", "pick", "(I)Lcom/example/deadpaths_to_precision/deadpathstoprecision/frontend/IntegerType;"⟩ : MethodName)) hown (mvT hZ (hw _ (List.mem_of_getElem? (i := 1) rfl))) (mvT hZ (hw _ (List.mem_of_getElem? (i := 2) rfl))) (mvT hZ (hw _ (List.mem_of_getElem? (i := 3) rfl))) (mvT hZ (hw _ (List.mem_of_getElem? (i := 4) rfl))) (by decide) (backOf (W := 0) (rmP l Z a0 hw [] (7 : Int32) a_BOOL a_CHAR a_SIGNED_CHAR a_UNSIGNED_CHAR a_SHORT a_UNSIGNED_SHORT a_INT a_UNSIGNED_INT a_LONG a_UNSIGNED_LONG a_LONG_LONG a_UNSIGNED_LONG_LONG h0 n0 Z0 S_BOOL S_CHAR S_SIGNED_CHAR S_UNSIGNED_CHAR S_SHORT S_UNSIGNED_SHORT S_INT S_UNSIGNED_INT S_LONG S_UNSIGNED_LONG S_LONG_LONG S_UNSIGNED_LONG_LONG) hZ (hw _ (List.mem_of_getElem? (i := 4) rfl)) (hw _ (List.mem_of_getElem? (i := 3) rfl)) (by decide) (by decide)) (g := (mkF m 9 #[.val (.int p1), .val (.int (7 : Int32)), .unset, .unset] [(.int (7 : Int32))])) rfl (by rw [hml]; rfl) (argsL := [(.int (7 : Int32))]) (rest := []) (lenOf pd_0 rfl) rfl (by show 2 * 0 + _ ≤ _; exact Nat.le_of_eq rfl) (hb hby at_9) (fun _ _ => ⟨rfl, e0, (by decide : 0 + 0 ≤ _), (by decide : 0 + 0 ≤ _)⟩)
    dsimp only [Pt.U, Pt.locs, Pt.cells, Pt.slots] at X31 l31 y31 z31 st31 hQ31
    subst l31 y31 z31
    obtain ⟨hv31, N31q, r31⟩ := hQ31
    rw [if_neg (by decide), if_neg (by decide), if_neg (by decide), if_neg (by decide), if_neg (by decide), if_neg (by decide), if_neg (by decide), if_pos rfl] at hv31
    subst hv31
    have N31 := Fr.app N0 N31q
    obtain ⟨cq32, kq32, q32a, q32b, q32c⟩ := isOf hZ r31 E_UNSIGNED_INT
    obtain ⟨_, _, ⟨T32, L32, k32, n32⟩, -, X32, ⟨Lc32, hQ32, l32, y32, z32⟩, st32⟩ := X31.virtualBack hx (y := (⟨"com/example/deadpaths_to_precision/deadpathstoprecision/frontend/IntegerType", "promote", "()Lcom/example/deadpaths_to_precision/deadpathstoprecision/frontend/IntegerType;"⟩ : MethodName)) (z := (⟨"com/example/deadpaths_to_precision/deadpathstoprecision/frontend/IntegerType", "promote", "()Lcom/example/deadpaths_to_precision/deadpathstoprecision/frontend/IntegerType;"⟩ : MethodName)) hown (mvT hZ (hw _ (List.mem_of_getElem? (i := 10) rfl))) (mvT hZ (hw _ (List.mem_of_getElem? (i := 11) rfl))) (notFace_of_selects (args := #[]) (mvT hZ (hw _ (List.mem_of_getElem? (i := 13) rfl)))) (mvT hZ (hw _ (List.mem_of_getElem? (i := 13) rfl))) (mvT hZ (hw _ (List.mem_of_getElem? (i := 12) rfl))) (by decide) (backOf (W := 0) (rm1 l Z a0 hw [] a_UNSIGNED_INT (3 : Int32) (3 : Int32) a_INT h0 n0 Z0 S_INT F_UNSIGNED_INT_rank F_INT_rank) hZ (hw _ (List.mem_of_getElem? (i := 14) rfl)) (hw _ (List.mem_of_getElem? (i := 6) rfl)) (by decide) (by decide)) q32a q32c (g := (mkF m 28 #[.val (.int p1), .val (.int (7 : Int32)), .val (.ref a_UNSIGNED_INT), .val (.ref a_UNSIGNED_INT)] [(.ref a_UNSIGNED_INT)])) rfl (by rw [hml]; rfl) (Steps.refl _) (argsL := []) (rest := []) (lenOf pd_1 rfl) rfl (by show 2 * 0 + _ ≤ _; exact Nat.le_of_eq rfl) (hb hby at_28) (fun _ _ => ⟨rfl, r31, (by decide : 0 + 0 ≤ _), (by decide : 0 + 0 ≤ _)⟩)
    dsimp only [Pt.U, Pt.locs, Pt.cells, Pt.slots] at X32 l32 y32 z32 st32 hQ32
    subst l32 y32 z32
    obtain ⟨hv32, N32q, r32⟩ := hQ32
    rw [if_neg (by decide)] at hv32
    subst hv32
    have N32 := Fr.app N31 N32q
    obtain ⟨fs, hr, hrun, hended, hW, hsame⟩ := X32.leave (v := some (.int (1 : Int32))) (fun h => by rw [Bd.returns] at h; cases h)
    refine ⟨_, _, pre0 _ (R1 _ (R30 _ ?_)), hrun, hended, _, _, rfl, ?_, ⟨_, rfl⟩, hW, hsame.mono (by decide) (by decide)⟩
    · show Steps p.tables e below (s₁.setTop (mkF m 8 #[.val (.int p1), .val (.int (7 : Int32)), .unset, .unset] [])) _
      refine XS.iloadN X0.here hx rfl (hb hby at_8) rfl ?_
      show Steps p.tables e below (s₁.setTop (mkF m 9 #[.val (.int p1), .val (.int (7 : Int32)), .unset, .unset] [(.int (7 : Int32))])) _
      refine st31 _ ?_
      show Steps p.tables e below (T31.setTop (mkF m 12 #[.val (.int p1), .val (.int (7 : Int32)), .unset, .unset] [(.ref a_UNSIGNED_INT)])) _
      refine XS.astoreN X31.here hx rfl (hb hby at_12) rfl rfl (l' := #[.val (.int p1), .val (.int (7 : Int32)), .val (.ref a_UNSIGNED_INT), .unset]) rfl ?_
      show Steps p.tables e below (T31.setTop (mkF m 13 #[.val (.int p1), .val (.int (7 : Int32)), .val (.ref a_UNSIGNED_INT), .unset] [])) _
      refine XS.iloadN X31.here hx rfl (hb hby at_13) rfl ?_
      show Steps p.tables e below (T31.setTop (mkF m 14 #[.val (.int p1), .val (.int (7 : Int32)), .val (.ref a_UNSIGNED_INT), .unset] [(.int (7 : Int32))])) _
      refine XS.bipush X31.here hx rfl (hb hby at_14) ?_
      show Steps p.tables e below (T31.setTop (mkF m 16 #[.val (.int p1), .val (.int (7 : Int32)), .val (.ref a_UNSIGNED_INT), .unset] [(.int (6 : Int32)), (.int (7 : Int32))])) _
      refine XS.icmpYes X31.here hx rfl (pc0 := 16) (pc' := 25) rfl (hb hby at_16) rfl (flt (by decide : ¬ ((7 : Int32) < (6 : Int32)))).2.1 (by decide) (by decide) ?_
      show Steps p.tables e below (T31.setTop (mkF m 25 #[.val (.int p1), .val (.int (7 : Int32)), .val (.ref a_UNSIGNED_INT), .unset] [])) _
      refine XS.aloadN X31.here hx rfl (hb hby at_25) rfl rfl ?_
      show Steps p.tables e below (T31.setTop (mkF m 26 #[.val (.int p1), .val (.int (7 : Int32)), .val (.ref a_UNSIGNED_INT), .unset] [(.ref a_UNSIGNED_INT)])) _
      refine XS.astoreN X31.here hx rfl (hb hby at_26) rfl rfl (l' := #[.val (.int p1), .val (.int (7 : Int32)), .val (.ref a_UNSIGNED_INT), .val (.ref a_UNSIGNED_INT)]) rfl ?_
      show Steps p.tables e below (T31.setTop (mkF m 27 #[.val (.int p1), .val (.int (7 : Int32)), .val (.ref a_UNSIGNED_INT), .val (.ref a_UNSIGNED_INT)] [])) _
      refine XS.aloadN X31.here hx rfl (hb hby at_27) rfl rfl ?_
      show Steps p.tables e below (T31.setTop (mkF m 28 #[.val (.int p1), .val (.int (7 : Int32)), .val (.ref a_UNSIGNED_INT), .val (.ref a_UNSIGNED_INT)] [(.ref a_UNSIGNED_INT)])) _
      refine st32.trans ?_
      show Steps p.tables e below (T32.setTop (mkF m 31 #[.val (.int p1), .val (.int (7 : Int32)), .val (.ref a_UNSIGNED_INT), .val (.ref a_UNSIGNED_INT)] [(.ref a_UNSIGNED_INT)])) _
      refine XS.aloadN X32.here hx rfl (hb hby at_31) rfl rfl ?_
      show Steps p.tables e below (T32.setTop (mkF m 32 #[.val (.int p1), .val (.int (7 : Int32)), .val (.ref a_UNSIGNED_INT), .val (.ref a_UNSIGNED_INT)] [(.ref a_UNSIGNED_INT), (.ref a_UNSIGNED_INT)])) _
      refine Jvm.RoadKit.acmp (g := (mkF m 32 #[.val (.int p1), .val (.int (7 : Int32)), .val (.ref a_UNSIGNED_INT), .val (.ref a_UNSIGNED_INT)] [(.ref a_UNSIGNED_INT), (.ref a_UNSIGNED_INT)])) X32 hx rfl rfl rfl (pc0 := 32) (pc' := 35) (same := true) rfl (hb hby at_32) rfl (decide_eq_true rfl) (by decide) (by decide) ?_
      show Steps p.tables e below (T32.setTop (mkF m 35 #[.val (.int p1), .val (.int (7 : Int32)), .val (.ref a_UNSIGNED_INT), .val (.ref a_UNSIGNED_INT)] [])) _
      refine XS.iconst X32.here hx rfl (hb hby at_35) ?_
      show Steps p.tables e below (T32.setTop (mkF m 36 #[.val (.int p1), .val (.int (7 : Int32)), .val (.ref a_UNSIGNED_INT), .val (.ref a_UNSIGNED_INT)] [(.int (1 : Int32))])) _
      refine XS.goto X32.here hx rfl (pc0 := 36) (pc' := 40) rfl (hb hby at_36) (by decide) (by decide) ?_
      show Steps p.tables e below (T32.setTop (mkF m 40 #[.val (.int p1), .val (.int (7 : Int32)), .val (.ref a_UNSIGNED_INT), .val (.ref a_UNSIGNED_INT)] [(.int (1 : Int32))])) _
      exact retN X32 hx (t := .boolean) Bd.returns (by simp) (hb hby at_40) hr
    · show Q0 n0 _ T32.heap _
      rw [r32]
      exact ⟨rfl, N32⟩
  · have R33 : ∀ tg, Steps p.tables e below (s₁.setTop (mkF m 8 #[.val (.int p1), .val (.int (8 : Int32)), .unset, .unset] [])) tg → Steps p.tables e below (s₁.setTop (mkF m 8 #[.val (.int p1), .val (.int ((p1 &&& (2147483647 : Int32)) % (12 : Int32))), .unset, .unset] [])) tg := fun tg kt => by rw [hk2]; exact kt
    obtain ⟨_, _, ⟨T34, L34, k34, n34⟩, -, X34, ⟨Lc34, hQ34, l34, y34, z34⟩, st34⟩ := Jvm.LawKit.callS X0 hx (y := (⟨"com/example/deadpaths_to_precision/deadpathstoprecision/frontend/IntegerTypePromotePinLaw", "pick", "(I)Lcom/example/deadpaths_to_precision/deadpathstoprecision/frontend/IntegerType;"⟩ : MethodName)) hown (mvT hZ (hw _ (List.mem_of_getElem? (i := 1) rfl))) (mvT hZ (hw _ (List.mem_of_getElem? (i := 2) rfl))) (mvT hZ (hw _ (List.mem_of_getElem? (i := 3) rfl))) (mvT hZ (hw _ (List.mem_of_getElem? (i := 4) rfl))) (by decide) (backOf (W := 0) (rmP l Z a0 hw [] (8 : Int32) a_BOOL a_CHAR a_SIGNED_CHAR a_UNSIGNED_CHAR a_SHORT a_UNSIGNED_SHORT a_INT a_UNSIGNED_INT a_LONG a_UNSIGNED_LONG a_LONG_LONG a_UNSIGNED_LONG_LONG h0 n0 Z0 S_BOOL S_CHAR S_SIGNED_CHAR S_UNSIGNED_CHAR S_SHORT S_UNSIGNED_SHORT S_INT S_UNSIGNED_INT S_LONG S_UNSIGNED_LONG S_LONG_LONG S_UNSIGNED_LONG_LONG) hZ (hw _ (List.mem_of_getElem? (i := 4) rfl)) (hw _ (List.mem_of_getElem? (i := 3) rfl)) (by decide) (by decide)) (g := (mkF m 9 #[.val (.int p1), .val (.int (8 : Int32)), .unset, .unset] [(.int (8 : Int32))])) rfl (by rw [hml]; rfl) (argsL := [(.int (8 : Int32))]) (rest := []) (lenOf pd_0 rfl) rfl (by show 2 * 0 + _ ≤ _; exact Nat.le_of_eq rfl) (hb hby at_9) (fun _ _ => ⟨rfl, e0, (by decide : 0 + 0 ≤ _), (by decide : 0 + 0 ≤ _)⟩)
    dsimp only [Pt.U, Pt.locs, Pt.cells, Pt.slots] at X34 l34 y34 z34 st34 hQ34
    subst l34 y34 z34
    obtain ⟨hv34, N34q, r34⟩ := hQ34
    rw [if_neg (by decide), if_neg (by decide), if_neg (by decide), if_neg (by decide), if_neg (by decide), if_neg (by decide), if_neg (by decide), if_neg (by decide), if_pos rfl] at hv34
    subst hv34
    have N34 := Fr.app N0 N34q
    obtain ⟨cq35, kq35, q35a, q35b, q35c⟩ := isOf hZ r34 E_LONG
    obtain ⟨_, _, ⟨T35, L35, k35, n35⟩, -, X35, ⟨Lc35, hQ35, l35, y35, z35⟩, st35⟩ := X34.virtualBack hx (y := (⟨"com/example/deadpaths_to_precision/deadpathstoprecision/frontend/IntegerType", "promote", "()Lcom/example/deadpaths_to_precision/deadpathstoprecision/frontend/IntegerType;"⟩ : MethodName)) (z := (⟨"com/example/deadpaths_to_precision/deadpathstoprecision/frontend/IntegerType", "promote", "()Lcom/example/deadpaths_to_precision/deadpathstoprecision/frontend/IntegerType;"⟩ : MethodName)) hown (mvT hZ (hw _ (List.mem_of_getElem? (i := 10) rfl))) (mvT hZ (hw _ (List.mem_of_getElem? (i := 11) rfl))) (notFace_of_selects (args := #[]) (mvT hZ (hw _ (List.mem_of_getElem? (i := 13) rfl)))) (mvT hZ (hw _ (List.mem_of_getElem? (i := 13) rfl))) (mvT hZ (hw _ (List.mem_of_getElem? (i := 12) rfl))) (by decide) (backOf (W := 0) (rm1 l Z a0 hw [] a_LONG (4 : Int32) (3 : Int32) a_INT h0 n0 Z0 S_INT F_LONG_rank F_INT_rank) hZ (hw _ (List.mem_of_getElem? (i := 14) rfl)) (hw _ (List.mem_of_getElem? (i := 6) rfl)) (by decide) (by decide)) q35a q35c (g := (mkF m 28 #[.val (.int p1), .val (.int (8 : Int32)), .val (.ref a_LONG), .val (.ref a_LONG)] [(.ref a_LONG)])) rfl (by rw [hml]; rfl) (Steps.refl _) (argsL := []) (rest := []) (lenOf pd_1 rfl) rfl (by show 2 * 0 + _ ≤ _; exact Nat.le_of_eq rfl) (hb hby at_28) (fun _ _ => ⟨rfl, r34, (by decide : 0 + 0 ≤ _), (by decide : 0 + 0 ≤ _)⟩)
    dsimp only [Pt.U, Pt.locs, Pt.cells, Pt.slots] at X35 l35 y35 z35 st35 hQ35
    subst l35 y35 z35
    obtain ⟨hv35, N35q, r35⟩ := hQ35
    rw [if_neg (by decide)] at hv35
    subst hv35
    have N35 := Fr.app N34 N35q
    obtain ⟨fs, hr, hrun, hended, hW, hsame⟩ := X35.leave (v := some (.int (1 : Int32))) (fun h => by rw [Bd.returns] at h; cases h)
    refine ⟨_, _, pre0 _ (R1 _ (R33 _ ?_)), hrun, hended, _, _, rfl, ?_, ⟨_, rfl⟩, hW, hsame.mono (by decide) (by decide)⟩
    · show Steps p.tables e below (s₁.setTop (mkF m 8 #[.val (.int p1), .val (.int (8 : Int32)), .unset, .unset] [])) _
      refine XS.iloadN X0.here hx rfl (hb hby at_8) rfl ?_
      show Steps p.tables e below (s₁.setTop (mkF m 9 #[.val (.int p1), .val (.int (8 : Int32)), .unset, .unset] [(.int (8 : Int32))])) _
      refine st34 _ ?_
      show Steps p.tables e below (T34.setTop (mkF m 12 #[.val (.int p1), .val (.int (8 : Int32)), .unset, .unset] [(.ref a_LONG)])) _
      refine XS.astoreN X34.here hx rfl (hb hby at_12) rfl rfl (l' := #[.val (.int p1), .val (.int (8 : Int32)), .val (.ref a_LONG), .unset]) rfl ?_
      show Steps p.tables e below (T34.setTop (mkF m 13 #[.val (.int p1), .val (.int (8 : Int32)), .val (.ref a_LONG), .unset] [])) _
      refine XS.iloadN X34.here hx rfl (hb hby at_13) rfl ?_
      show Steps p.tables e below (T34.setTop (mkF m 14 #[.val (.int p1), .val (.int (8 : Int32)), .val (.ref a_LONG), .unset] [(.int (8 : Int32))])) _
      refine XS.bipush X34.here hx rfl (hb hby at_14) ?_
      show Steps p.tables e below (T34.setTop (mkF m 16 #[.val (.int p1), .val (.int (8 : Int32)), .val (.ref a_LONG), .unset] [(.int (6 : Int32)), (.int (8 : Int32))])) _
      refine XS.icmpYes X34.here hx rfl (pc0 := 16) (pc' := 25) rfl (hb hby at_16) rfl (flt (by decide : ¬ ((8 : Int32) < (6 : Int32)))).2.1 (by decide) (by decide) ?_
      show Steps p.tables e below (T34.setTop (mkF m 25 #[.val (.int p1), .val (.int (8 : Int32)), .val (.ref a_LONG), .unset] [])) _
      refine XS.aloadN X34.here hx rfl (hb hby at_25) rfl rfl ?_
      show Steps p.tables e below (T34.setTop (mkF m 26 #[.val (.int p1), .val (.int (8 : Int32)), .val (.ref a_LONG), .unset] [(.ref a_LONG)])) _
      refine XS.astoreN X34.here hx rfl (hb hby at_26) rfl rfl (l' := #[.val (.int p1), .val (.int (8 : Int32)), .val (.ref a_LONG), .val (.ref a_LONG)]) rfl ?_
      show Steps p.tables e below (T34.setTop (mkF m 27 #[.val (.int p1), .val (.int (8 : Int32)), .val (.ref a_LONG), .val (.ref a_LONG)] [])) _
      refine XS.aloadN X34.here hx rfl (hb hby at_27) rfl rfl ?_
      show Steps p.tables e below (T34.setTop (mkF m 28 #[.val (.int p1), .val (.int (8 : Int32)), .val (.ref a_LONG), .val (.ref a_LONG)] [(.ref a_LONG)])) _
      refine st35.trans ?_
      show Steps p.tables e below (T35.setTop (mkF m 31 #[.val (.int p1), .val (.int (8 : Int32)), .val (.ref a_LONG), .val (.ref a_LONG)] [(.ref a_LONG)])) _
      refine XS.aloadN X35.here hx rfl (hb hby at_31) rfl rfl ?_
      show Steps p.tables e below (T35.setTop (mkF m 32 #[.val (.int p1), .val (.int (8 : Int32)), .val (.ref a_LONG), .val (.ref a_LONG)] [(.ref a_LONG), (.ref a_LONG)])) _
      refine Jvm.RoadKit.acmp (g := (mkF m 32 #[.val (.int p1), .val (.int (8 : Int32)), .val (.ref a_LONG), .val (.ref a_LONG)] [(.ref a_LONG), (.ref a_LONG)])) X35 hx rfl rfl rfl (pc0 := 32) (pc' := 35) (same := true) rfl (hb hby at_32) rfl (decide_eq_true rfl) (by decide) (by decide) ?_
      show Steps p.tables e below (T35.setTop (mkF m 35 #[.val (.int p1), .val (.int (8 : Int32)), .val (.ref a_LONG), .val (.ref a_LONG)] [])) _
      refine XS.iconst X35.here hx rfl (hb hby at_35) ?_
      show Steps p.tables e below (T35.setTop (mkF m 36 #[.val (.int p1), .val (.int (8 : Int32)), .val (.ref a_LONG), .val (.ref a_LONG)] [(.int (1 : Int32))])) _
      refine XS.goto X35.here hx rfl (pc0 := 36) (pc' := 40) rfl (hb hby at_36) (by decide) (by decide) ?_
      show Steps p.tables e below (T35.setTop (mkF m 40 #[.val (.int p1), .val (.int (8 : Int32)), .val (.ref a_LONG), .val (.ref a_LONG)] [(.int (1 : Int32))])) _
      exact retN X35 hx (t := .boolean) Bd.returns (by simp) (hb hby at_40) hr
    · show Q0 n0 _ T35.heap _
      rw [r35]
      exact ⟨rfl, N35⟩
  · have R36 : ∀ tg, Steps p.tables e below (s₁.setTop (mkF m 8 #[.val (.int p1), .val (.int (9 : Int32)), .unset, .unset] [])) tg → Steps p.tables e below (s₁.setTop (mkF m 8 #[.val (.int p1), .val (.int ((p1 &&& (2147483647 : Int32)) % (12 : Int32))), .unset, .unset] [])) tg := fun tg kt => by rw [hk2]; exact kt
    obtain ⟨_, _, ⟨T37, L37, k37, n37⟩, -, X37, ⟨Lc37, hQ37, l37, y37, z37⟩, st37⟩ := Jvm.LawKit.callS X0 hx (y := (⟨"com/example/deadpaths_to_precision/deadpathstoprecision/frontend/IntegerTypePromotePinLaw", "pick", "(I)Lcom/example/deadpaths_to_precision/deadpathstoprecision/frontend/IntegerType;"⟩ : MethodName)) hown (mvT hZ (hw _ (List.mem_of_getElem? (i := 1) rfl))) (mvT hZ (hw _ (List.mem_of_getElem? (i := 2) rfl))) (mvT hZ (hw _ (List.mem_of_getElem? (i := 3) rfl))) (mvT hZ (hw _ (List.mem_of_getElem? (i := 4) rfl))) (by decide) (backOf (W := 0) (rmP l Z a0 hw [] (9 : Int32) a_BOOL a_CHAR a_SIGNED_CHAR a_UNSIGNED_CHAR a_SHORT a_UNSIGNED_SHORT a_INT a_UNSIGNED_INT a_LONG a_UNSIGNED_LONG a_LONG_LONG a_UNSIGNED_LONG_LONG h0 n0 Z0 S_BOOL S_CHAR S_SIGNED_CHAR S_UNSIGNED_CHAR S_SHORT S_UNSIGNED_SHORT S_INT S_UNSIGNED_INT S_LONG S_UNSIGNED_LONG S_LONG_LONG S_UNSIGNED_LONG_LONG) hZ (hw _ (List.mem_of_getElem? (i := 4) rfl)) (hw _ (List.mem_of_getElem? (i := 3) rfl)) (by decide) (by decide)) (g := (mkF m 9 #[.val (.int p1), .val (.int (9 : Int32)), .unset, .unset] [(.int (9 : Int32))])) rfl (by rw [hml]; rfl) (argsL := [(.int (9 : Int32))]) (rest := []) (lenOf pd_0 rfl) rfl (by show 2 * 0 + _ ≤ _; exact Nat.le_of_eq rfl) (hb hby at_9) (fun _ _ => ⟨rfl, e0, (by decide : 0 + 0 ≤ _), (by decide : 0 + 0 ≤ _)⟩)
    dsimp only [Pt.U, Pt.locs, Pt.cells, Pt.slots] at X37 l37 y37 z37 st37 hQ37
    subst l37 y37 z37
    obtain ⟨hv37, N37q, r37⟩ := hQ37
    rw [if_neg (by decide), if_neg (by decide), if_neg (by decide), if_neg (by decide), if_neg (by decide), if_neg (by decide), if_neg (by decide), if_neg (by decide), if_neg (by decide), if_pos rfl] at hv37
    subst hv37
    have N37 := Fr.app N0 N37q
    obtain ⟨cq38, kq38, q38a, q38b, q38c⟩ := isOf hZ r37 E_UNSIGNED_LONG
    obtain ⟨_, _, ⟨T38, L38, k38, n38⟩, -, X38, ⟨Lc38, hQ38, l38, y38, z38⟩, st38⟩ := X37.virtualBack hx (y := (⟨"com/example/deadpaths_to_precision/deadpathstoprecision/frontend/IntegerType", "promote", "()Lcom/example/deadpaths_to_precision/deadpathstoprecision/frontend/IntegerType;"⟩ : MethodName)) (z := (⟨"com/example/deadpaths_to_precision/deadpathstoprecision/frontend/IntegerType", "promote", "()Lcom/example/deadpaths_to_precision/deadpathstoprecision/frontend/IntegerType;"⟩ : MethodName)) hown (mvT hZ (hw _ (List.mem_of_getElem? (i := 10) rfl))) (mvT hZ (hw _ (List.mem_of_getElem? (i := 11) rfl))) (notFace_of_selects (args := #[]) (mvT hZ (hw _ (List.mem_of_getElem? (i := 13) rfl)))) (mvT hZ (hw _ (List.mem_of_getElem? (i := 13) rfl))) (mvT hZ (hw _ (List.mem_of_getElem? (i := 12) rfl))) (by decide) (backOf (W := 0) (rm1 l Z a0 hw [] a_UNSIGNED_LONG (4 : Int32) (3 : Int32) a_INT h0 n0 Z0 S_INT F_UNSIGNED_LONG_rank F_INT_rank) hZ (hw _ (List.mem_of_getElem? (i := 14) rfl)) (hw _ (List.mem_of_getElem? (i := 6) rfl)) (by decide) (by decide)) q38a q38c (g := (mkF m 28 #[.val (.int p1), .val (.int (9 : Int32)), .val (.ref a_UNSIGNED_LONG), .val (.ref a_UNSIGNED_LONG)] [(.ref a_UNSIGNED_LONG)])) rfl (by rw [hml]; rfl) (Steps.refl _) (argsL := []) (rest := []) (lenOf pd_1 rfl) rfl (by show 2 * 0 + _ ≤ _; exact Nat.le_of_eq rfl) (hb hby at_28) (fun _ _ => ⟨rfl, r37, (by decide : 0 + 0 ≤ _), (by decide : 0 + 0 ≤ _)⟩)
    dsimp only [Pt.U, Pt.locs, Pt.cells, Pt.slots] at X38 l38 y38 z38 st38 hQ38
    subst l38 y38 z38
    obtain ⟨hv38, N38q, r38⟩ := hQ38
    rw [if_neg (by decide)] at hv38
    subst hv38
    have N38 := Fr.app N37 N38q
    obtain ⟨fs, hr, hrun, hended, hW, hsame⟩ := X38.leave (v := some (.int (1 : Int32))) (fun h => by rw [Bd.returns] at h; cases h)
    refine ⟨_, _, pre0 _ (R1 _ (R36 _ ?_)), hrun, hended, _, _, rfl, ?_, ⟨_, rfl⟩, hW, hsame.mono (by decide) (by decide)⟩
    · show Steps p.tables e below (s₁.setTop (mkF m 8 #[.val (.int p1), .val (.int (9 : Int32)), .unset, .unset] [])) _
      refine XS.iloadN X0.here hx rfl (hb hby at_8) rfl ?_
      show Steps p.tables e below (s₁.setTop (mkF m 9 #[.val (.int p1), .val (.int (9 : Int32)), .unset, .unset] [(.int (9 : Int32))])) _
      refine st37 _ ?_
      show Steps p.tables e below (T37.setTop (mkF m 12 #[.val (.int p1), .val (.int (9 : Int32)), .unset, .unset] [(.ref a_UNSIGNED_LONG)])) _
      refine XS.astoreN X37.here hx rfl (hb hby at_12) rfl rfl (l' := #[.val (.int p1), .val (.int (9 : Int32)), .val (.ref a_UNSIGNED_LONG), .unset]) rfl ?_
      show Steps p.tables e below (T37.setTop (mkF m 13 #[.val (.int p1), .val (.int (9 : Int32)), .val (.ref a_UNSIGNED_LONG), .unset] [])) _
      refine XS.iloadN X37.here hx rfl (hb hby at_13) rfl ?_
      show Steps p.tables e below (T37.setTop (mkF m 14 #[.val (.int p1), .val (.int (9 : Int32)), .val (.ref a_UNSIGNED_LONG), .unset] [(.int (9 : Int32))])) _
      refine XS.bipush X37.here hx rfl (hb hby at_14) ?_
      show Steps p.tables e below (T37.setTop (mkF m 16 #[.val (.int p1), .val (.int (9 : Int32)), .val (.ref a_UNSIGNED_LONG), .unset] [(.int (6 : Int32)), (.int (9 : Int32))])) _
      refine XS.icmpYes X37.here hx rfl (pc0 := 16) (pc' := 25) rfl (hb hby at_16) rfl (flt (by decide : ¬ ((9 : Int32) < (6 : Int32)))).2.1 (by decide) (by decide) ?_
      show Steps p.tables e below (T37.setTop (mkF m 25 #[.val (.int p1), .val (.int (9 : Int32)), .val (.ref a_UNSIGNED_LONG), .unset] [])) _
      refine XS.aloadN X37.here hx rfl (hb hby at_25) rfl rfl ?_
      show Steps p.tables e below (T37.setTop (mkF m 26 #[.val (.int p1), .val (.int (9 : Int32)), .val (.ref a_UNSIGNED_LONG), .unset] [(.ref a_UNSIGNED_LONG)])) _
      refine XS.astoreN X37.here hx rfl (hb hby at_26) rfl rfl (l' := #[.val (.int p1), .val (.int (9 : Int32)), .val (.ref a_UNSIGNED_LONG), .val (.ref a_UNSIGNED_LONG)]) rfl ?_
      show Steps p.tables e below (T37.setTop (mkF m 27 #[.val (.int p1), .val (.int (9 : Int32)), .val (.ref a_UNSIGNED_LONG), .val (.ref a_UNSIGNED_LONG)] [])) _
      refine XS.aloadN X37.here hx rfl (hb hby at_27) rfl rfl ?_
      show Steps p.tables e below (T37.setTop (mkF m 28 #[.val (.int p1), .val (.int (9 : Int32)), .val (.ref a_UNSIGNED_LONG), .val (.ref a_UNSIGNED_LONG)] [(.ref a_UNSIGNED_LONG)])) _
      refine st38.trans ?_
      show Steps p.tables e below (T38.setTop (mkF m 31 #[.val (.int p1), .val (.int (9 : Int32)), .val (.ref a_UNSIGNED_LONG), .val (.ref a_UNSIGNED_LONG)] [(.ref a_UNSIGNED_LONG)])) _
      refine XS.aloadN X38.here hx rfl (hb hby at_31) rfl rfl ?_
      show Steps p.tables e below (T38.setTop (mkF m 32 #[.val (.int p1), .val (.int (9 : Int32)), .val (.ref a_UNSIGNED_LONG), .val (.ref a_UNSIGNED_LONG)] [(.ref a_UNSIGNED_LONG), (.ref a_UNSIGNED_LONG)])) _
      refine Jvm.RoadKit.acmp (g := (mkF m 32 #[.val (.int p1), .val (.int (9 : Int32)), .val (.ref a_UNSIGNED_LONG), .val (.ref a_UNSIGNED_LONG)] [(.ref a_UNSIGNED_LONG), (.ref a_UNSIGNED_LONG)])) X38 hx rfl rfl rfl (pc0 := 32) (pc' := 35) (same := true) rfl (hb hby at_32) rfl (decide_eq_true rfl) (by decide) (by decide) ?_
      show Steps p.tables e below (T38.setTop (mkF m 35 #[.val (.int p1), .val (.int (9 : Int32)), .val (.ref a_UNSIGNED_LONG), .val (.ref a_UNSIGNED_LONG)] [])) _
      refine XS.iconst X38.here hx rfl (hb hby at_35) ?_
      show Steps p.tables e below (T38.setTop (mkF m 36 #[.val (.int p1), .val (.int (9 : Int32)), .val (.ref a_UNSIGNED_LONG), .val (.ref a_UNSIGNED_LONG)] [(.int (1 : Int32))])) _
      refine XS.goto X38.here hx rfl (pc0 := 36) (pc' := 40) rfl (hb hby at_36) (by decide) (by decide) ?_
      show Steps p.tables e below (T38.setTop (mkF m 40 #[.val (.int p1), .val (.int (9 : Int32)), .val (.ref a_UNSIGNED_LONG), .val (.ref a_UNSIGNED_LONG)] [(.int (1 : Int32))])) _
      exact retN X38 hx (t := .boolean) Bd.returns (by simp) (hb hby at_40) hr
    · show Q0 n0 _ T38.heap _
      rw [r38]
      exact ⟨rfl, N38⟩
  · have R39 : ∀ tg, Steps p.tables e below (s₁.setTop (mkF m 8 #[.val (.int p1), .val (.int (10 : Int32)), .unset, .unset] [])) tg → Steps p.tables e below (s₁.setTop (mkF m 8 #[.val (.int p1), .val (.int ((p1 &&& (2147483647 : Int32)) % (12 : Int32))), .unset, .unset] [])) tg := fun tg kt => by rw [hk2]; exact kt
    obtain ⟨_, _, ⟨T40, L40, k40, n40⟩, -, X40, ⟨Lc40, hQ40, l40, y40, z40⟩, st40⟩ := Jvm.LawKit.callS X0 hx (y := (⟨"com/example/deadpaths_to_precision/deadpathstoprecision/frontend/IntegerTypePromotePinLaw", "pick", "(I)Lcom/example/deadpaths_to_precision/deadpathstoprecision/frontend/IntegerType;"⟩ : MethodName)) hown (mvT hZ (hw _ (List.mem_of_getElem? (i := 1) rfl))) (mvT hZ (hw _ (List.mem_of_getElem? (i := 2) rfl))) (mvT hZ (hw _ (List.mem_of_getElem? (i := 3) rfl))) (mvT hZ (hw _ (List.mem_of_getElem? (i := 4) rfl))) (by decide) (backOf (W := 0) (rmP l Z a0 hw [] (10 : Int32) a_BOOL a_CHAR a_SIGNED_CHAR a_UNSIGNED_CHAR a_SHORT a_UNSIGNED_SHORT a_INT a_UNSIGNED_INT a_LONG a_UNSIGNED_LONG a_LONG_LONG a_UNSIGNED_LONG_LONG h0 n0 Z0 S_BOOL S_CHAR S_SIGNED_CHAR S_UNSIGNED_CHAR S_SHORT S_UNSIGNED_SHORT S_INT S_UNSIGNED_INT S_LONG S_UNSIGNED_LONG S_LONG_LONG S_UNSIGNED_LONG_LONG) hZ (hw _ (List.mem_of_getElem? (i := 4) rfl)) (hw _ (List.mem_of_getElem? (i := 3) rfl)) (by decide) (by decide)) (g := (mkF m 9 #[.val (.int p1), .val (.int (10 : Int32)), .unset, .unset] [(.int (10 : Int32))])) rfl (by rw [hml]; rfl) (argsL := [(.int (10 : Int32))]) (rest := []) (lenOf pd_0 rfl) rfl (by show 2 * 0 + _ ≤ _; exact Nat.le_of_eq rfl) (hb hby at_9) (fun _ _ => ⟨rfl, e0, (by decide : 0 + 0 ≤ _), (by decide : 0 + 0 ≤ _)⟩)
    dsimp only [Pt.U, Pt.locs, Pt.cells, Pt.slots] at X40 l40 y40 z40 st40 hQ40
    subst l40 y40 z40
    obtain ⟨hv40, N40q, r40⟩ := hQ40
    rw [if_neg (by decide), if_neg (by decide), if_neg (by decide), if_neg (by decide), if_neg (by decide), if_neg (by decide), if_neg (by decide), if_neg (by decide), if_neg (by decide), if_neg (by decide), if_pos rfl] at hv40
    subst hv40
    have N40 := Fr.app N0 N40q
    obtain ⟨cq41, kq41, q41a, q41b, q41c⟩ := isOf hZ r40 E_LONG_LONG
    obtain ⟨_, _, ⟨T41, L41, k41, n41⟩, -, X41, ⟨Lc41, hQ41, l41, y41, z41⟩, st41⟩ := X40.virtualBack hx (y := (⟨"com/example/deadpaths_to_precision/deadpathstoprecision/frontend/IntegerType", "promote", "()Lcom/example/deadpaths_to_precision/deadpathstoprecision/frontend/IntegerType;"⟩ : MethodName)) (z := (⟨"com/example/deadpaths_to_precision/deadpathstoprecision/frontend/IntegerType", "promote", "()Lcom/example/deadpaths_to_precision/deadpathstoprecision/frontend/IntegerType;"⟩ : MethodName)) hown (mvT hZ (hw _ (List.mem_of_getElem? (i := 10) rfl))) (mvT hZ (hw _ (List.mem_of_getElem? (i := 11) rfl))) (notFace_of_selects (args := #[]) (mvT hZ (hw _ (List.mem_of_getElem? (i := 13) rfl)))) (mvT hZ (hw _ (List.mem_of_getElem? (i := 13) rfl))) (mvT hZ (hw _ (List.mem_of_getElem? (i := 12) rfl))) (by decide) (backOf (W := 0) (rm1 l Z a0 hw [] a_LONG_LONG (5 : Int32) (3 : Int32) a_INT h0 n0 Z0 S_INT F_LONG_LONG_rank F_INT_rank) hZ (hw _ (List.mem_of_getElem? (i := 14) rfl)) (hw _ (List.mem_of_getElem? (i := 6) rfl)) (by decide) (by decide)) q41a q41c (g := (mkF m 28 #[.val (.int p1), .val (.int (10 : Int32)), .val (.ref a_LONG_LONG), .val (.ref a_LONG_LONG)] [(.ref a_LONG_LONG)])) rfl (by rw [hml]; rfl) (Steps.refl _) (argsL := []) (rest := []) (lenOf pd_1 rfl) rfl (by show 2 * 0 + _ ≤ _; exact Nat.le_of_eq rfl) (hb hby at_28) (fun _ _ => ⟨rfl, r40, (by decide : 0 + 0 ≤ _), (by decide : 0 + 0 ≤ _)⟩)
    dsimp only [Pt.U, Pt.locs, Pt.cells, Pt.slots] at X41 l41 y41 z41 st41 hQ41
    subst l41 y41 z41
    obtain ⟨hv41, N41q, r41⟩ := hQ41
    rw [if_neg (by decide)] at hv41
    subst hv41
    have N41 := Fr.app N40 N41q
    obtain ⟨fs, hr, hrun, hended, hW, hsame⟩ := X41.leave (v := some (.int (1 : Int32))) (fun h => by rw [Bd.returns] at h; cases h)
    refine ⟨_, _, pre0 _ (R1 _ (R39 _ ?_)), hrun, hended, _, _, rfl, ?_, ⟨_, rfl⟩, hW, hsame.mono (by decide) (by decide)⟩
    · show Steps p.tables e below (s₁.setTop (mkF m 8 #[.val (.int p1), .val (.int (10 : Int32)), .unset, .unset] [])) _
      refine XS.iloadN X0.here hx rfl (hb hby at_8) rfl ?_
      show Steps p.tables e below (s₁.setTop (mkF m 9 #[.val (.int p1), .val (.int (10 : Int32)), .unset, .unset] [(.int (10 : Int32))])) _
      refine st40 _ ?_
      show Steps p.tables e below (T40.setTop (mkF m 12 #[.val (.int p1), .val (.int (10 : Int32)), .unset, .unset] [(.ref a_LONG_LONG)])) _
      refine XS.astoreN X40.here hx rfl (hb hby at_12) rfl rfl (l' := #[.val (.int p1), .val (.int (10 : Int32)), .val (.ref a_LONG_LONG), .unset]) rfl ?_
      show Steps p.tables e below (T40.setTop (mkF m 13 #[.val (.int p1), .val (.int (10 : Int32)), .val (.ref a_LONG_LONG), .unset] [])) _
      refine XS.iloadN X40.here hx rfl (hb hby at_13) rfl ?_
      show Steps p.tables e below (T40.setTop (mkF m 14 #[.val (.int p1), .val (.int (10 : Int32)), .val (.ref a_LONG_LONG), .unset] [(.int (10 : Int32))])) _
      refine XS.bipush X40.here hx rfl (hb hby at_14) ?_
      show Steps p.tables e below (T40.setTop (mkF m 16 #[.val (.int p1), .val (.int (10 : Int32)), .val (.ref a_LONG_LONG), .unset] [(.int (6 : Int32)), (.int (10 : Int32))])) _
      refine XS.icmpYes X40.here hx rfl (pc0 := 16) (pc' := 25) rfl (hb hby at_16) rfl (flt (by decide : ¬ ((10 : Int32) < (6 : Int32)))).2.1 (by decide) (by decide) ?_
      show Steps p.tables e below (T40.setTop (mkF m 25 #[.val (.int p1), .val (.int (10 : Int32)), .val (.ref a_LONG_LONG), .unset] [])) _
      refine XS.aloadN X40.here hx rfl (hb hby at_25) rfl rfl ?_
      show Steps p.tables e below (T40.setTop (mkF m 26 #[.val (.int p1), .val (.int (10 : Int32)), .val (.ref a_LONG_LONG), .unset] [(.ref a_LONG_LONG)])) _
      refine XS.astoreN X40.here hx rfl (hb hby at_26) rfl rfl (l' := #[.val (.int p1), .val (.int (10 : Int32)), .val (.ref a_LONG_LONG), .val (.ref a_LONG_LONG)]) rfl ?_
      show Steps p.tables e below (T40.setTop (mkF m 27 #[.val (.int p1), .val (.int (10 : Int32)), .val (.ref a_LONG_LONG), .val (.ref a_LONG_LONG)] [])) _
      refine XS.aloadN X40.here hx rfl (hb hby at_27) rfl rfl ?_
      show Steps p.tables e below (T40.setTop (mkF m 28 #[.val (.int p1), .val (.int (10 : Int32)), .val (.ref a_LONG_LONG), .val (.ref a_LONG_LONG)] [(.ref a_LONG_LONG)])) _
      refine st41.trans ?_
      show Steps p.tables e below (T41.setTop (mkF m 31 #[.val (.int p1), .val (.int (10 : Int32)), .val (.ref a_LONG_LONG), .val (.ref a_LONG_LONG)] [(.ref a_LONG_LONG)])) _
      refine XS.aloadN X41.here hx rfl (hb hby at_31) rfl rfl ?_
      show Steps p.tables e below (T41.setTop (mkF m 32 #[.val (.int p1), .val (.int (10 : Int32)), .val (.ref a_LONG_LONG), .val (.ref a_LONG_LONG)] [(.ref a_LONG_LONG), (.ref a_LONG_LONG)])) _
      refine Jvm.RoadKit.acmp (g := (mkF m 32 #[.val (.int p1), .val (.int (10 : Int32)), .val (.ref a_LONG_LONG), .val (.ref a_LONG_LONG)] [(.ref a_LONG_LONG), (.ref a_LONG_LONG)])) X41 hx rfl rfl rfl (pc0 := 32) (pc' := 35) (same := true) rfl (hb hby at_32) rfl (decide_eq_true rfl) (by decide) (by decide) ?_
      show Steps p.tables e below (T41.setTop (mkF m 35 #[.val (.int p1), .val (.int (10 : Int32)), .val (.ref a_LONG_LONG), .val (.ref a_LONG_LONG)] [])) _
      refine XS.iconst X41.here hx rfl (hb hby at_35) ?_
      show Steps p.tables e below (T41.setTop (mkF m 36 #[.val (.int p1), .val (.int (10 : Int32)), .val (.ref a_LONG_LONG), .val (.ref a_LONG_LONG)] [(.int (1 : Int32))])) _
      refine XS.goto X41.here hx rfl (pc0 := 36) (pc' := 40) rfl (hb hby at_36) (by decide) (by decide) ?_
      show Steps p.tables e below (T41.setTop (mkF m 40 #[.val (.int p1), .val (.int (10 : Int32)), .val (.ref a_LONG_LONG), .val (.ref a_LONG_LONG)] [(.int (1 : Int32))])) _
      exact retN X41 hx (t := .boolean) Bd.returns (by simp) (hb hby at_40) hr
    · show Q0 n0 _ T41.heap _
      rw [r41]
      exact ⟨rfl, N41⟩
  · have R42 : ∀ tg, Steps p.tables e below (s₁.setTop (mkF m 8 #[.val (.int p1), .val (.int (11 : Int32)), .unset, .unset] [])) tg → Steps p.tables e below (s₁.setTop (mkF m 8 #[.val (.int p1), .val (.int ((p1 &&& (2147483647 : Int32)) % (12 : Int32))), .unset, .unset] [])) tg := fun tg kt => by rw [hk2]; exact kt
    obtain ⟨_, _, ⟨T43, L43, k43, n43⟩, -, X43, ⟨Lc43, hQ43, l43, y43, z43⟩, st43⟩ := Jvm.LawKit.callS X0 hx (y := (⟨"com/example/deadpaths_to_precision/deadpathstoprecision/frontend/IntegerTypePromotePinLaw", "pick", "(I)Lcom/example/deadpaths_to_precision/deadpathstoprecision/frontend/IntegerType;"⟩ : MethodName)) hown (mvT hZ (hw _ (List.mem_of_getElem? (i := 1) rfl))) (mvT hZ (hw _ (List.mem_of_getElem? (i := 2) rfl))) (mvT hZ (hw _ (List.mem_of_getElem? (i := 3) rfl))) (mvT hZ (hw _ (List.mem_of_getElem? (i := 4) rfl))) (by decide) (backOf (W := 0) (rmP l Z a0 hw [] (11 : Int32) a_BOOL a_CHAR a_SIGNED_CHAR a_UNSIGNED_CHAR a_SHORT a_UNSIGNED_SHORT a_INT a_UNSIGNED_INT a_LONG a_UNSIGNED_LONG a_LONG_LONG a_UNSIGNED_LONG_LONG h0 n0 Z0 S_BOOL S_CHAR S_SIGNED_CHAR S_UNSIGNED_CHAR S_SHORT S_UNSIGNED_SHORT S_INT S_UNSIGNED_INT S_LONG S_UNSIGNED_LONG S_LONG_LONG S_UNSIGNED_LONG_LONG) hZ (hw _ (List.mem_of_getElem? (i := 4) rfl)) (hw _ (List.mem_of_getElem? (i := 3) rfl)) (by decide) (by decide)) (g := (mkF m 9 #[.val (.int p1), .val (.int (11 : Int32)), .unset, .unset] [(.int (11 : Int32))])) rfl (by rw [hml]; rfl) (argsL := [(.int (11 : Int32))]) (rest := []) (lenOf pd_0 rfl) rfl (by show 2 * 0 + _ ≤ _; exact Nat.le_of_eq rfl) (hb hby at_9) (fun _ _ => ⟨rfl, e0, (by decide : 0 + 0 ≤ _), (by decide : 0 + 0 ≤ _)⟩)
    dsimp only [Pt.U, Pt.locs, Pt.cells, Pt.slots] at X43 l43 y43 z43 st43 hQ43
    subst l43 y43 z43
    obtain ⟨hv43, N43q, r43⟩ := hQ43
    rw [if_neg (by decide), if_neg (by decide), if_neg (by decide), if_neg (by decide), if_neg (by decide), if_neg (by decide), if_neg (by decide), if_neg (by decide), if_neg (by decide), if_neg (by decide), if_neg (by decide)] at hv43
    subst hv43
    have N43 := Fr.app N0 N43q
    obtain ⟨cq44, kq44, q44a, q44b, q44c⟩ := isOf hZ r43 E_UNSIGNED_LONG_LONG
    obtain ⟨_, _, ⟨T44, L44, k44, n44⟩, -, X44, ⟨Lc44, hQ44, l44, y44, z44⟩, st44⟩ := X43.virtualBack hx (y := (⟨"com/example/deadpaths_to_precision/deadpathstoprecision/frontend/IntegerType", "promote", "()Lcom/example/deadpaths_to_precision/deadpathstoprecision/frontend/IntegerType;"⟩ : MethodName)) (z := (⟨"com/example/deadpaths_to_precision/deadpathstoprecision/frontend/IntegerType", "promote", "()Lcom/example/deadpaths_to_precision/deadpathstoprecision/frontend/IntegerType;"⟩ : MethodName)) hown (mvT hZ (hw _ (List.mem_of_getElem? (i := 10) rfl))) (mvT hZ (hw _ (List.mem_of_getElem? (i := 11) rfl))) (notFace_of_selects (args := #[]) (mvT hZ (hw _ (List.mem_of_getElem? (i := 13) rfl)))) (mvT hZ (hw _ (List.mem_of_getElem? (i := 13) rfl))) (mvT hZ (hw _ (List.mem_of_getElem? (i := 12) rfl))) (by decide) (backOf (W := 0) (rm1 l Z a0 hw [] a_UNSIGNED_LONG_LONG (5 : Int32) (3 : Int32) a_INT h0 n0 Z0 S_INT F_UNSIGNED_LONG_LONG_rank F_INT_rank) hZ (hw _ (List.mem_of_getElem? (i := 14) rfl)) (hw _ (List.mem_of_getElem? (i := 6) rfl)) (by decide) (by decide)) q44a q44c (g := (mkF m 28 #[.val (.int p1), .val (.int (11 : Int32)), .val (.ref a_UNSIGNED_LONG_LONG), .val (.ref a_UNSIGNED_LONG_LONG)] [(.ref a_UNSIGNED_LONG_LONG)])) rfl (by rw [hml]; rfl) (Steps.refl _) (argsL := []) (rest := []) (lenOf pd_1 rfl) rfl (by show 2 * 0 + _ ≤ _; exact Nat.le_of_eq rfl) (hb hby at_28) (fun _ _ => ⟨rfl, r43, (by decide : 0 + 0 ≤ _), (by decide : 0 + 0 ≤ _)⟩)
    dsimp only [Pt.U, Pt.locs, Pt.cells, Pt.slots] at X44 l44 y44 z44 st44 hQ44
    subst l44 y44 z44
    obtain ⟨hv44, N44q, r44⟩ := hQ44
    rw [if_neg (by decide)] at hv44
    subst hv44
    have N44 := Fr.app N43 N44q
    obtain ⟨fs, hr, hrun, hended, hW, hsame⟩ := X44.leave (v := some (.int (1 : Int32))) (fun h => by rw [Bd.returns] at h; cases h)
    refine ⟨_, _, pre0 _ (R1 _ (R42 _ ?_)), hrun, hended, _, _, rfl, ?_, ⟨_, rfl⟩, hW, hsame.mono (by decide) (by decide)⟩
    · show Steps p.tables e below (s₁.setTop (mkF m 8 #[.val (.int p1), .val (.int (11 : Int32)), .unset, .unset] [])) _
      refine XS.iloadN X0.here hx rfl (hb hby at_8) rfl ?_
      show Steps p.tables e below (s₁.setTop (mkF m 9 #[.val (.int p1), .val (.int (11 : Int32)), .unset, .unset] [(.int (11 : Int32))])) _
      refine st43 _ ?_
      show Steps p.tables e below (T43.setTop (mkF m 12 #[.val (.int p1), .val (.int (11 : Int32)), .unset, .unset] [(.ref a_UNSIGNED_LONG_LONG)])) _
      refine XS.astoreN X43.here hx rfl (hb hby at_12) rfl rfl (l' := #[.val (.int p1), .val (.int (11 : Int32)), .val (.ref a_UNSIGNED_LONG_LONG), .unset]) rfl ?_
      show Steps p.tables e below (T43.setTop (mkF m 13 #[.val (.int p1), .val (.int (11 : Int32)), .val (.ref a_UNSIGNED_LONG_LONG), .unset] [])) _
      refine XS.iloadN X43.here hx rfl (hb hby at_13) rfl ?_
      show Steps p.tables e below (T43.setTop (mkF m 14 #[.val (.int p1), .val (.int (11 : Int32)), .val (.ref a_UNSIGNED_LONG_LONG), .unset] [(.int (11 : Int32))])) _
      refine XS.bipush X43.here hx rfl (hb hby at_14) ?_
      show Steps p.tables e below (T43.setTop (mkF m 16 #[.val (.int p1), .val (.int (11 : Int32)), .val (.ref a_UNSIGNED_LONG_LONG), .unset] [(.int (6 : Int32)), (.int (11 : Int32))])) _
      refine XS.icmpYes X43.here hx rfl (pc0 := 16) (pc' := 25) rfl (hb hby at_16) rfl (flt (by decide : ¬ ((11 : Int32) < (6 : Int32)))).2.1 (by decide) (by decide) ?_
      show Steps p.tables e below (T43.setTop (mkF m 25 #[.val (.int p1), .val (.int (11 : Int32)), .val (.ref a_UNSIGNED_LONG_LONG), .unset] [])) _
      refine XS.aloadN X43.here hx rfl (hb hby at_25) rfl rfl ?_
      show Steps p.tables e below (T43.setTop (mkF m 26 #[.val (.int p1), .val (.int (11 : Int32)), .val (.ref a_UNSIGNED_LONG_LONG), .unset] [(.ref a_UNSIGNED_LONG_LONG)])) _
      refine XS.astoreN X43.here hx rfl (hb hby at_26) rfl rfl (l' := #[.val (.int p1), .val (.int (11 : Int32)), .val (.ref a_UNSIGNED_LONG_LONG), .val (.ref a_UNSIGNED_LONG_LONG)]) rfl ?_
      show Steps p.tables e below (T43.setTop (mkF m 27 #[.val (.int p1), .val (.int (11 : Int32)), .val (.ref a_UNSIGNED_LONG_LONG), .val (.ref a_UNSIGNED_LONG_LONG)] [])) _
      refine XS.aloadN X43.here hx rfl (hb hby at_27) rfl rfl ?_
      show Steps p.tables e below (T43.setTop (mkF m 28 #[.val (.int p1), .val (.int (11 : Int32)), .val (.ref a_UNSIGNED_LONG_LONG), .val (.ref a_UNSIGNED_LONG_LONG)] [(.ref a_UNSIGNED_LONG_LONG)])) _
      refine st44.trans ?_
      show Steps p.tables e below (T44.setTop (mkF m 31 #[.val (.int p1), .val (.int (11 : Int32)), .val (.ref a_UNSIGNED_LONG_LONG), .val (.ref a_UNSIGNED_LONG_LONG)] [(.ref a_UNSIGNED_LONG_LONG)])) _
      refine XS.aloadN X44.here hx rfl (hb hby at_31) rfl rfl ?_
      show Steps p.tables e below (T44.setTop (mkF m 32 #[.val (.int p1), .val (.int (11 : Int32)), .val (.ref a_UNSIGNED_LONG_LONG), .val (.ref a_UNSIGNED_LONG_LONG)] [(.ref a_UNSIGNED_LONG_LONG), (.ref a_UNSIGNED_LONG_LONG)])) _
      refine Jvm.RoadKit.acmp (g := (mkF m 32 #[.val (.int p1), .val (.int (11 : Int32)), .val (.ref a_UNSIGNED_LONG_LONG), .val (.ref a_UNSIGNED_LONG_LONG)] [(.ref a_UNSIGNED_LONG_LONG), (.ref a_UNSIGNED_LONG_LONG)])) X44 hx rfl rfl rfl (pc0 := 32) (pc' := 35) (same := true) rfl (hb hby at_32) rfl (decide_eq_true rfl) (by decide) (by decide) ?_
      show Steps p.tables e below (T44.setTop (mkF m 35 #[.val (.int p1), .val (.int (11 : Int32)), .val (.ref a_UNSIGNED_LONG_LONG), .val (.ref a_UNSIGNED_LONG_LONG)] [])) _
      refine XS.iconst X44.here hx rfl (hb hby at_35) ?_
      show Steps p.tables e below (T44.setTop (mkF m 36 #[.val (.int p1), .val (.int (11 : Int32)), .val (.ref a_UNSIGNED_LONG_LONG), .val (.ref a_UNSIGNED_LONG_LONG)] [(.int (1 : Int32))])) _
      refine XS.goto X44.here hx rfl (pc0 := 36) (pc' := 40) rfl (hb hby at_36) (by decide) (by decide) ?_
      show Steps p.tables e below (T44.setTop (mkF m 40 #[.val (.int p1), .val (.int (11 : Int32)), .val (.ref a_UNSIGNED_LONG_LONG), .val (.ref a_UNSIGNED_LONG_LONG)] [(.int (1 : Int32))])) _
      exact retN X44 hx (t := .boolean) Bd.returns (by simp) (hb hby at_40) hr
    · show Q0 n0 _ T44.heap _
      rw [r44]
      exact ⟨rfl, N44⟩
set_option maxRecDepth 65536 in
set_option maxHeartbeats 40000000 in
theorem comes_1 {Post : Tables → Env → Array Value → State → Outcome → State → Prop} (hpost : ∀ tb e args s v u, (limb_1_1.after args s (.returned v) u = true ∧ limb_1_2.after args s (.returned v) u = true ∧ True) → FrameEnd s (.returned v) u (Jvm.fieldLocs frame_1_writes args s ++ Jvm.arrayLocs frame_1_arrays args s ++ Jvm.staticLocs frame_1_statics s) 0 0 → Post tb e args s (.returned v) u) :
    ArmFor flags0 classFile x code maxLocals ret World_1 tables_1 room_1 Calls_1 rest_1 Pre_1 Post := by
  intro l hfl _ _ p e ha hc hk s m args below hf hA hF happ hP
  obtain ⟨hcalls, hrest, hpre⟩ := hP
  obtain ⟨-, -, -, hnamed, -, -, -, hat⟩ := (Spec.applies_iff hf).mp happ
  obtain ⟨hg, hn⟩ := and_e (Cond.before_iff.mp (show (Jvm.Cond.and given_1 narrow_1).before args s = true from hpre))
  obtain ⟨g1a, g1b⟩ := and_e hg
  obtain ⟨w0, rfl⟩ : ∃ w0 : Value, args = #[w0] := by
    have hs : args.size = 1 := by simpa [Cond.value, given_1] using g1a
    obtain ⟨L⟩ := args
    match L, hs with
    | [w0], _ => exact ⟨w0, rfl⟩
  have hw := fun d (hd : d ∈ tables_1) => atoms_spec (ws := Jvm.Cond.code x code maxLocals ret :: tables_1) hat d (List.mem_cons_of_mem _ hd)
  have hfit : Fit s := fun {y c} hc i hi => by
    obtain ⟨ha, rfl⟩ := Array.getElem?_eq_some_iff.mp hc
    have q := List.all_eq_true.mp ((Array.all_eq_true_iff_forall_mem.mp hF) _ (Array.getElem_mem ha)) i (List.mem_range.mpr hi)
    simpa [Array.getElem?_eq_getElem hi] using q
  obtain ⟨i0, ei0⟩ := is_v g1b
  obtain rfl : w0 = (.int i0) := Option.some.inj ei0
  obtain ⟨u1a, u1b⟩ := and_e hn
  obtain ⟨u2a, u2b⟩ := and_e u1b
  obtain ⟨u3a, u3b⟩ := and_e u2b
  obtain ⟨u4a, u4b⟩ := and_e u3b
  obtain ⟨u5a, u5b⟩ := and_e u4b
  obtain ⟨u6a, u6b⟩ := and_e u5b
  obtain ⟨u7a, u7b⟩ := and_e u6b
  obtain ⟨u8a, u8b⟩ := and_e u7b
  obtain ⟨u9a, u9b⟩ := and_e u8b
  obtain ⟨u10a, u10b⟩ := and_e u9b
  obtain ⟨u11a, u11b⟩ := and_e u10b
  obtain ⟨u12a, u12b⟩ := and_e u11b
  obtain ⟨u13a, u13b⟩ := and_e u12b
  obtain ⟨u14a, u14b⟩ := and_e u13b
  obtain ⟨u15a, u15b⟩ := and_e u14b
  obtain ⟨u16a, u16b⟩ := and_e u15b
  obtain ⟨u17a, u17b⟩ := and_e u16b
  obtain ⟨u18a, u18b⟩ := and_e u17b
  obtain ⟨u19a, u19b⟩ := and_e u18b
  obtain ⟨u20a, u20b⟩ := and_e u19b
  obtain ⟨u21a, u21b⟩ := and_e u20b
  obtain ⟨u22a, u22b⟩ := and_e u21b
  obtain ⟨u23a, u23b⟩ := and_e u22b
  obtain ⟨a_BOOL, ev_BOOL⟩ := exa_v u1a
  have S_BOOL := Sta.start ev_BOOL (Or.inr ⟨(hw _ (List.mem_of_getElem? (i := 6) rfl)), (hw _ (List.mem_of_getElem? (i := 7) rfl))⟩)
  have E_BOOL := Exa.start ev_BOOL u1a
  have F_BOOL_rank := own_fld ev_BOOL u3a
  obtain ⟨a_INT, ev_INT⟩ := exa_v u2a
  have S_INT := Sta.start ev_INT (Or.inr ⟨(hw _ (List.mem_of_getElem? (i := 6) rfl)), (hw _ (List.mem_of_getElem? (i := 9) rfl))⟩)
  have E_INT := Exa.start ev_INT u2a
  have F_INT_rank := own_fld ev_INT u4a
  obtain ⟨a_UNSIGNED_CHAR, ev_UNSIGNED_CHAR⟩ := exa_v u5a
  have S_UNSIGNED_CHAR := Sta.start ev_UNSIGNED_CHAR (Or.inr ⟨(hw _ (List.mem_of_getElem? (i := 6) rfl)), (hw _ (List.mem_of_getElem? (i := 19) rfl))⟩)
  have E_UNSIGNED_CHAR := Exa.start ev_UNSIGNED_CHAR u5a
  have F_UNSIGNED_CHAR_rank := own_fld ev_UNSIGNED_CHAR u6a
  obtain ⟨a_SIGNED_CHAR, ev_SIGNED_CHAR⟩ := exa_v u7a
  have S_SIGNED_CHAR := Sta.start ev_SIGNED_CHAR (Or.inr ⟨(hw _ (List.mem_of_getElem? (i := 6) rfl)), (hw _ (List.mem_of_getElem? (i := 21) rfl))⟩)
  have E_SIGNED_CHAR := Exa.start ev_SIGNED_CHAR u7a
  have F_SIGNED_CHAR_rank := own_fld ev_SIGNED_CHAR u8a
  obtain ⟨a_UNSIGNED_INT, ev_UNSIGNED_INT⟩ := exa_v u9a
  have S_UNSIGNED_INT := Sta.start ev_UNSIGNED_INT (Or.inr ⟨(hw _ (List.mem_of_getElem? (i := 6) rfl)), (hw _ (List.mem_of_getElem? (i := 23) rfl))⟩)
  have E_UNSIGNED_INT := Exa.start ev_UNSIGNED_INT u9a
  have F_UNSIGNED_INT_rank := own_fld ev_UNSIGNED_INT u10a
  obtain ⟨a_UNSIGNED_LONG_LONG, ev_UNSIGNED_LONG_LONG⟩ := exa_v u11a
  have S_UNSIGNED_LONG_LONG := Sta.start ev_UNSIGNED_LONG_LONG (Or.inr ⟨(hw _ (List.mem_of_getElem? (i := 6) rfl)), (hw _ (List.mem_of_getElem? (i := 25) rfl))⟩)
  have E_UNSIGNED_LONG_LONG := Exa.start ev_UNSIGNED_LONG_LONG u11a
  have F_UNSIGNED_LONG_LONG_rank := own_fld ev_UNSIGNED_LONG_LONG u12a
  obtain ⟨a_SHORT, ev_SHORT⟩ := exa_v u13a
  have S_SHORT := Sta.start ev_SHORT (Or.inr ⟨(hw _ (List.mem_of_getElem? (i := 6) rfl)), (hw _ (List.mem_of_getElem? (i := 27) rfl))⟩)
  have E_SHORT := Exa.start ev_SHORT u13a
  have F_SHORT_rank := own_fld ev_SHORT u14a
  obtain ⟨a_LONG, ev_LONG⟩ := exa_v u15a
  have S_LONG := Sta.start ev_LONG (Or.inr ⟨(hw _ (List.mem_of_getElem? (i := 6) rfl)), (hw _ (List.mem_of_getElem? (i := 29) rfl))⟩)
  have E_LONG := Exa.start ev_LONG u15a
  have F_LONG_rank := own_fld ev_LONG u16a
  obtain ⟨a_CHAR, ev_CHAR⟩ := exa_v u17a
  have S_CHAR := Sta.start ev_CHAR (Or.inr ⟨(hw _ (List.mem_of_getElem? (i := 6) rfl)), (hw _ (List.mem_of_getElem? (i := 31) rfl))⟩)
  have E_CHAR := Exa.start ev_CHAR u17a
  have F_CHAR_rank := own_fld ev_CHAR u18a
  obtain ⟨a_LONG_LONG, ev_LONG_LONG⟩ := exa_v u19a
  have S_LONG_LONG := Sta.start ev_LONG_LONG (Or.inr ⟨(hw _ (List.mem_of_getElem? (i := 6) rfl)), (hw _ (List.mem_of_getElem? (i := 33) rfl))⟩)
  have E_LONG_LONG := Exa.start ev_LONG_LONG u19a
  have F_LONG_LONG_rank := own_fld ev_LONG_LONG u20a
  obtain ⟨a_UNSIGNED_LONG, ev_UNSIGNED_LONG⟩ := exa_v u21a
  have S_UNSIGNED_LONG := Sta.start ev_UNSIGNED_LONG (Or.inr ⟨(hw _ (List.mem_of_getElem? (i := 6) rfl)), (hw _ (List.mem_of_getElem? (i := 35) rfl))⟩)
  have E_UNSIGNED_LONG := Exa.start ev_UNSIGNED_LONG u21a
  have F_UNSIGNED_LONG_rank := own_fld ev_UNSIGNED_LONG u22a
  obtain ⟨a_UNSIGNED_SHORT, ev_UNSIGNED_SHORT⟩ := exa_v u23a
  have S_UNSIGNED_SHORT := Sta.start ev_UNSIGNED_SHORT (Or.inr ⟨(hw _ (List.mem_of_getElem? (i := 6) rfl)), (hw _ (List.mem_of_getElem? (i := 37) rfl))⟩)
  have E_UNSIGNED_SHORT := Exa.start ev_UNSIGNED_SHORT u23a
  have F_UNSIGNED_SHORT_rank := own_fld ev_UNSIGNED_SHORT u23b
  obtain ⟨n, o, h1, h2, h3, _, L, rfl, ⟨rfl, N⟩, hq⟩ := rm0 l s _ hw tables_1 i0 a_BOOL a_INT a_UNSIGNED_CHAR a_SIGNED_CHAR a_UNSIGNED_INT a_UNSIGNED_LONG_LONG a_SHORT a_LONG a_CHAR a_LONG_LONG a_UNSIGNED_LONG a_UNSIGNED_SHORT s.heap s.heap.size (Nat.le_refl _) S_BOOL E_BOOL F_BOOL_rank S_INT E_INT F_INT_rank S_UNSIGNED_CHAR E_UNSIGNED_CHAR F_UNSIGNED_CHAR_rank S_SIGNED_CHAR E_SIGNED_CHAR F_SIGNED_CHAR_rank S_UNSIGNED_INT E_UNSIGNED_INT F_UNSIGNED_INT_rank S_UNSIGNED_LONG_LONG E_UNSIGNED_LONG_LONG F_UNSIGNED_LONG_LONG_rank S_SHORT E_SHORT F_SHORT_rank S_LONG E_LONG F_LONG_rank S_CHAR E_CHAR F_CHAR_rank S_LONG_LONG E_LONG_LONG F_LONG_LONG_rank S_UNSIGNED_LONG E_UNSIGNED_LONG F_UNSIGNED_LONG_rank S_UNSIGNED_SHORT E_UNSIGNED_SHORT F_UNSIGNED_SHORT_rank p e ha hc hk s m _ below hf ((Spec.applies_iff_loose hf).mp happ).1 ⟨rfl, State.Warmed39.refl s, rfl⟩ trivial
  refine ⟨n, _, h1, h2, h3, hpost _ _ _ _ _ _ ⟨Cond.after_iff.mpr rfl, Cond.after_iff.mpr (eq_i res_at (Term.int_eval (1)) rfl), trivial⟩ ⟨hq.1, hq.2.1, (hq.2.2.sift fun y hy => Or.inr (N y hy)).mono (by decide) (by decide)⟩⟩
theorem main_1_1 : Claimed_1_1 := comes_1 fun _ _ _ _ _ _ h hF => ⟨h.1, hF⟩
theorem main_1_2 : Claimed_1_2 := comes_1 fun _ _ _ _ _ _ h hF => ⟨h.2.1, hF⟩
end Jvm.Pilot.@@N@@
namespace Jvm.Pilot.@@N@@
open Jvm Jvm.ClassFile Sem Op Lib Jvm.Free Jvm.Stand Jvm.Pilot.@@N@@.Jvm.D
/-! MADE BY PROGRAM (witnessworld.py) out of the Statement's table words and the real class files: 13 classes; the members and pool entries that the words name. The judged class is class 1, her method 2. -/
namespace start1
open Jvm.ClassFile
def u (s : String) : CpInfo := .utf8 (stringToUtf16 s)
/-- a pool by its gaps: so many unusable entries, then the entry; so many at the end -/
def gap : Nat → List CpInfo → List CpInfo
  | 0, r => r
  | n + 1, r => .unusable :: gap n r
def poolList (es : List (Nat × CpInfo)) (last : Nat) : List CpInfo := es.foldr (fun e r => gap e.1 (e.2 :: r)) (gap last [])
def pool (es : List (Nat × CpInfo)) (last : Nat) : Array CpInfo := ⟨poolList es last⟩
def fileOf (pool : Array CpInfo) (this : Nat) (attrs : Array Attribute := #[]) (ms : Array MethodInfo := #[]) (fl : Nat := 33) (sup : Nat := 0) (ifs : Array Nat := #[]) (fds : Array FieldInfo := #[]) : ClassFile where
  minorVersion := 0
  majorVersion := 65
  constantPool := pool
  accessFlags := fl
  thisClass := this
  superClass := sup
  interfaces := ifs
  fields := fds
  methods := ms
  attributes := attrs
def plain (name : String) (sup : Option ClassId) : Class where
  name := name
  kind := .ordinary
  loader := none
  accessFlags := 33
  super := sup
  interfaces := #[]
  cf := none
  fields := #[]
  methods := #[]
  instanceTypes := #[]
  staticTypes := #[]
  resolved := #[]
  callSites := []
  init := .initialized
  statics := none
  mirror := none

def pool0 : Array CpInfo := pool [(5, u "<init>"), (0, u "()V"), (1, .class_ 10), (1, u "java/lang/Object")] 113

def k0m0 : Method := { name := "<init>", desc := "()V", sig := { parameters := [], returnType := none }, accessFlags := 1, code := none }
/-- java/lang/Object -/
def k0 : Class := { plain "java/lang/Object" none with
  accessFlags := 33
  interfaces := #[]
  cf := some (fileOf pool0 8 #[] #[{ accessFlags := 1, nameIndex := 5, descriptorIndex := 6, attributes := #[] }] 33 0 #[] #[])
  fields := #[]
  methods := #[k0m0]
  instanceTypes := #[]
  staticTypes := #[]
  resolved := Array.replicate 124 none
  statics := none }

def pool1 : Array CpInfo := pool [(2, .class_ 4), (1, u "java/lang/Object"), (0, u "<init>"), (0, u "()V"), (0, .fieldref 8 9), (0, .class_ 10), (0, .nameAndType 11 12), (0, u "com/example/deadpaths_to_precision/deadpathstoprecision/frontend/IntegerType"), (0, u "BOOL"), (0, u "Lcom/example/deadpaths_to_precision/deadpathstoprecision/frontend/IntegerType;"), (0, .fieldref 8 14), (0, .nameAndType 15 12), (0, u "CHAR"), (0, .fieldref 8 17), (0, .nameAndType 18 12), (0, u "SIGNED_CHAR"), (0, .fieldref 8 20), (0, .nameAndType 21 12), (0, u "UNSIGNED_CHAR"), (0, .fieldref 8 23), (0, .nameAndType 24 12), (0, u "SHORT"), (0, .fieldref 8 26), (0, .nameAndType 27 12), (0, u "UNSIGNED_SHORT"), (0, .fieldref 8 29), (0, .nameAndType 30 12), (0, u "INT"), (0, .fieldref 8 32), (0, .nameAndType 33 12), (0, u "UNSIGNED_INT"), (0, .fieldref 8 35), (0, .nameAndType 36 12), (0, u "LONG"), (0, .fieldref 8 38), (0, .nameAndType 39 12), (0, u "UNSIGNED_LONG"), (0, .fieldref 8 41), (0, .nameAndType 42 12), (0, u "LONG_LONG"), (0, .fieldref 8 44), (0, .nameAndType 45 12), (0, u "UNSIGNED_LONG_LONG"), (0, .integer 2147483647), (0, .methodref 48 49), (0, .class_ 50), (0, .nameAndType 51 52), (0, u "com/example/deadpaths_to_precision/deadpathstoprecision/frontend/IntegerTypePromotePinLaw"), (0, u "pick"), (0, u "(I)Lcom/example/deadpaths_to_precision/deadpathstoprecision/frontend/IntegerType;"), (0, .methodref 8 54), (0, .nameAndType 55 56), (0, u "promote"), (0, u "()Lcom/example/deadpaths_to_precision/deadpathstoprecision/frontend/IntegerType;"), (3, u "law"), (0, u "(I)Z")] 2

def k1m0 : Method := { name := "<init>", desc := "()V", sig := { parameters := [], returnType := none }, accessFlags := 1, code := none }
def k1c1 : Code := { maxStack := 2, maxLocals := 1, code := method_2_code, exceptionTable := #[], attributes := #[] }
def k1m1 : Method := { name := "pick", desc := "(I)Lcom/example/deadpaths_to_precision/deadpathstoprecision/frontend/IntegerType;", sig := { parameters := [.int], returnType := some (.object "com/example/deadpaths_to_precision/deadpathstoprecision/frontend/IntegerType") }, accessFlags := 10, code := some k1c1 }
def k1c2 : Code := { maxStack := 2, maxLocals := 4, code := code, exceptionTable := #[], attributes := #[] }
def k1m2 : Method := { name := "law", desc := "(I)Z", sig := { parameters := [.int], returnType := some .boolean }, accessFlags := 9, code := some k1c2 }
/-- com/example/deadpaths_to_precision/deadpathstoprecision/frontend/IntegerTypePromotePinLaw -/
def k1 : Class := { plain "com/example/deadpaths_to_precision/deadpathstoprecision/frontend/IntegerTypePromotePinLaw" (some 0) with
  accessFlags := 49
  interfaces := #[]
  cf := some (fileOf pool1 48 #[] #[{ accessFlags := 1, nameIndex := 5, descriptorIndex := 6, attributes := #[] }, { accessFlags := 10, nameIndex := 51, descriptorIndex := 52, attributes := #[] }, { accessFlags := 9, nameIndex := 60, descriptorIndex := 61, attributes := #[] }] 49 2 #[] #[])
  fields := #[]
  methods := #[k1m0, k1m1, k1m2]
  instanceTypes := #[]
  staticTypes := #[]
  resolved := Array.replicate 64 none
  statics := none }

def pool2 : Array CpInfo := pool [(1, .class_ 2), (0, u "java/lang/constant/Constable"), (0, .class_ 4), (0, u "java/lang/Object")] 6

/-- java/lang/constant/Constable -/
def k2 : Class := { plain "java/lang/constant/Constable" (some 0) with
  accessFlags := 1537
  interfaces := #[]
  cf := some (fileOf pool2 1 #[] #[] 1537 3 #[] #[])
  fields := #[]
  methods := #[]
  instanceTypes := #[]
  staticTypes := #[]
  resolved := Array.replicate 11 none
  statics := none }

def pool3 : Array CpInfo := pool [(1, .class_ 2), (0, u "java/lang/Comparable"), (0, .class_ 4), (0, u "java/lang/Object")] 7

/-- java/lang/Comparable -/
def k3 : Class := { plain "java/lang/Comparable" (some 0) with
  accessFlags := 1537
  interfaces := #[]
  cf := some (fileOf pool3 1 #[] #[] 1537 3 #[] #[])
  fields := #[]
  methods := #[]
  instanceTypes := #[]
  staticTypes := #[]
  resolved := Array.replicate 12 none
  statics := none }

def pool4 : Array CpInfo := pool [(1, .class_ 2), (0, u "java/io/Serializable"), (0, .class_ 4), (0, u "java/lang/Object")] 2

/-- java/io/Serializable -/
def k4 : Class := { plain "java/io/Serializable" (some 0) with
  accessFlags := 1537
  interfaces := #[]
  cf := some (fileOf pool4 1 #[] #[] 1537 3 #[] #[])
  fields := #[]
  methods := #[]
  instanceTypes := #[]
  staticTypes := #[]
  resolved := Array.replicate 7 none
  statics := none }

def pool5 : Array CpInfo := pool [(2, .class_ 4), (1, u "java/lang/Enum"), (0, u "name"), (0, u "Ljava/lang/String;"), (2, u "ordinal"), (0, u "I"), (1, .class_ 14), (1, u "java/lang/Object"), (4, u "hash"), (86, .class_ 108), (1, u "java/lang/Enum$EnumDesc"), (2, .class_ 112), (0, u "java/lang/constant/Constable"), (0, .class_ 114), (0, u "java/lang/Comparable"), (0, .class_ 116), (0, u "java/io/Serializable")] 87

/-- java/lang/Enum -/
def k5 : Class := { plain "java/lang/Enum" (some 0) with
  accessFlags := 1057
  interfaces := #[2, 3, 4]
  cf := some (fileOf pool5 2 #[.nestMembers #[106]] #[] 1057 12 #[111, 113, 115] #[{ accessFlags := 18, nameIndex := 5, descriptorIndex := 6, attributes := #[] }, { accessFlags := 18, nameIndex := 9, descriptorIndex := 10, attributes := #[] }, { accessFlags := 2, nameIndex := 19, descriptorIndex := 10, attributes := #[] }])
  fields := #[{ name := "name", type := (.object "java/lang/String"), accessFlags := 18, slot := 0, constantValue := 0 }, { name := "ordinal", type := .int, accessFlags := 18, slot := 1, constantValue := 0 }, { name := "hash", type := .int, accessFlags := 2, slot := 2, constantValue := 0 }]
  methods := #[]
  instanceTypes := #[(.object "java/lang/String"), .int, .int]
  staticTypes := #[]
  resolved := Array.replicate 204 none
  statics := none }

def pool6 : Array CpInfo := pool [(1, .class_ 2), (0, u "com/example/deadpaths_to_precision/deadpathstoprecision/frontend/CType"), (0, .class_ 4), (0, u "java/lang/Object")] 17

/-- com/example/deadpaths_to_precision/deadpathstoprecision/frontend/CType -/
def k6 : Class := { plain "com/example/deadpaths_to_precision/deadpathstoprecision/frontend/CType" (some 0) with
  accessFlags := 1537
  interfaces := #[]
  cf := some (fileOf pool6 1 #[] #[] 1537 3 #[] #[])
  fields := #[]
  methods := #[]
  instanceTypes := #[]
  staticTypes := #[]
  resolved := Array.replicate 22 none
  statics := none }

def pool7 : Array CpInfo := pool [(1, .class_ 2), (0, u "com/example/deadpaths_to_precision/deadpathstoprecision/frontend/IntegerType"), (2, u "BOOL"), (0, u "Lcom/example/deadpaths_to_precision/deadpathstoprecision/frontend/IntegerType;"), (2, u "CHAR"), (2, u "SIGNED_CHAR"), (2, u "UNSIGNED_CHAR"), (2, u "SHORT"), (2, u "UNSIGNED_SHORT"), (0, .fieldref 1 23), (0, .nameAndType 24 6), (0, u "INT"), (2, u "UNSIGNED_INT"), (2, u "LONG"), (2, u "UNSIGNED_LONG"), (2, u "LONG_LONG"), (2, u "UNSIGNED_LONG_LONG"), (2, u "$VALUES"), (0, u "[Lcom/example/deadpaths_to_precision/deadpathstoprecision/frontend/IntegerType;"), (6, .class_ 52), (1, u "java/lang/Enum"), (8, u "width"), (0, u "I"), (2, u "signed"), (0, u "Z"), (0, .fieldref 1 68), (0, .nameAndType 69 62), (0, u "rank"), (2, u "spelling"), (0, u "Ljava/lang/String;"), (5, u "Ljava/math/BigInteger;"), (6, u "modulus"), (6, u "minValue"), (12, u "maxValue"), (26, u "promote"), (0, u "()Lcom/example/deadpaths_to_precision/deadpathstoprecision/frontend/IntegerType;"), (50, .class_ 186), (0, u "com/example/deadpaths_to_precision/deadpathstoprecision/frontend/CType")] 23

def k7c0 : Code := { maxStack := 2, maxLocals := 1, code := prog_87_method_12_code, exceptionTable := #[], attributes := #[] }
def k7m0 : Method := { name := "promote", desc := "()Lcom/example/deadpaths_to_precision/deadpathstoprecision/frontend/IntegerType;", sig := { parameters := [], returnType := some (.object "com/example/deadpaths_to_precision/deadpathstoprecision/frontend/IntegerType") }, accessFlags := 1, code := some k7c0 }
/-- com/example/deadpaths_to_precision/deadpathstoprecision/frontend/IntegerType -/
def k7 : Class := { plain "com/example/deadpaths_to_precision/deadpathstoprecision/frontend/IntegerType" (some 5) with
  accessFlags := 16433
  interfaces := #[6]
  cf := some (fileOf pool7 1 #[] #[{ accessFlags := 1, nameIndex := 133, descriptorIndex := 134, attributes := #[] }] 16433 50 #[185] #[{ accessFlags := 16409, nameIndex := 5, descriptorIndex := 6, attributes := #[] }, { accessFlags := 16409, nameIndex := 9, descriptorIndex := 6, attributes := #[] }, { accessFlags := 16409, nameIndex := 12, descriptorIndex := 6, attributes := #[] }, { accessFlags := 16409, nameIndex := 15, descriptorIndex := 6, attributes := #[] }, { accessFlags := 16409, nameIndex := 18, descriptorIndex := 6, attributes := #[] }, { accessFlags := 16409, nameIndex := 21, descriptorIndex := 6, attributes := #[] }, { accessFlags := 16409, nameIndex := 24, descriptorIndex := 6, attributes := #[] }, { accessFlags := 16409, nameIndex := 27, descriptorIndex := 6, attributes := #[] }, { accessFlags := 16409, nameIndex := 30, descriptorIndex := 6, attributes := #[] }, { accessFlags := 16409, nameIndex := 33, descriptorIndex := 6, attributes := #[] }, { accessFlags := 16409, nameIndex := 36, descriptorIndex := 6, attributes := #[] }, { accessFlags := 16409, nameIndex := 39, descriptorIndex := 6, attributes := #[] }, { accessFlags := 18, nameIndex := 61, descriptorIndex := 62, attributes := #[] }, { accessFlags := 18, nameIndex := 65, descriptorIndex := 66, attributes := #[] }, { accessFlags := 18, nameIndex := 69, descriptorIndex := 62, attributes := #[] }, { accessFlags := 18, nameIndex := 72, descriptorIndex := 73, attributes := #[] }, { accessFlags := 18, nameIndex := 93, descriptorIndex := 79, attributes := #[] }, { accessFlags := 18, nameIndex := 106, descriptorIndex := 79, attributes := #[] }, { accessFlags := 18, nameIndex := 86, descriptorIndex := 79, attributes := #[] }, { accessFlags := 4122, nameIndex := 42, descriptorIndex := 43, attributes := #[] }])
  fields := #[{ name := "BOOL", type := (.object "com/example/deadpaths_to_precision/deadpathstoprecision/frontend/IntegerType"), accessFlags := 16409, slot := 0, constantValue := 0 }, { name := "CHAR", type := (.object "com/example/deadpaths_to_precision/deadpathstoprecision/frontend/IntegerType"), accessFlags := 16409, slot := 1, constantValue := 0 }, { name := "SIGNED_CHAR", type := (.object "com/example/deadpaths_to_precision/deadpathstoprecision/frontend/IntegerType"), accessFlags := 16409, slot := 2, constantValue := 0 }, { name := "UNSIGNED_CHAR", type := (.object "com/example/deadpaths_to_precision/deadpathstoprecision/frontend/IntegerType"), accessFlags := 16409, slot := 3, constantValue := 0 }, { name := "SHORT", type := (.object "com/example/deadpaths_to_precision/deadpathstoprecision/frontend/IntegerType"), accessFlags := 16409, slot := 4, constantValue := 0 }, { name := "UNSIGNED_SHORT", type := (.object "com/example/deadpaths_to_precision/deadpathstoprecision/frontend/IntegerType"), accessFlags := 16409, slot := 5, constantValue := 0 }, { name := "INT", type := (.object "com/example/deadpaths_to_precision/deadpathstoprecision/frontend/IntegerType"), accessFlags := 16409, slot := 6, constantValue := 0 }, { name := "UNSIGNED_INT", type := (.object "com/example/deadpaths_to_precision/deadpathstoprecision/frontend/IntegerType"), accessFlags := 16409, slot := 7, constantValue := 0 }, { name := "LONG", type := (.object "com/example/deadpaths_to_precision/deadpathstoprecision/frontend/IntegerType"), accessFlags := 16409, slot := 8, constantValue := 0 }, { name := "UNSIGNED_LONG", type := (.object "com/example/deadpaths_to_precision/deadpathstoprecision/frontend/IntegerType"), accessFlags := 16409, slot := 9, constantValue := 0 }, { name := "LONG_LONG", type := (.object "com/example/deadpaths_to_precision/deadpathstoprecision/frontend/IntegerType"), accessFlags := 16409, slot := 10, constantValue := 0 }, { name := "UNSIGNED_LONG_LONG", type := (.object "com/example/deadpaths_to_precision/deadpathstoprecision/frontend/IntegerType"), accessFlags := 16409, slot := 11, constantValue := 0 }, { name := "width", type := .int, accessFlags := 18, slot := 3, constantValue := 0 }, { name := "signed", type := .boolean, accessFlags := 18, slot := 4, constantValue := 0 }, { name := "rank", type := .int, accessFlags := 18, slot := 5, constantValue := 0 }, { name := "spelling", type := (.object "java/lang/String"), accessFlags := 18, slot := 6, constantValue := 0 }, { name := "minValue", type := (.object "java/math/BigInteger"), accessFlags := 18, slot := 7, constantValue := 0 }, { name := "maxValue", type := (.object "java/math/BigInteger"), accessFlags := 18, slot := 8, constantValue := 0 }, { name := "modulus", type := (.object "java/math/BigInteger"), accessFlags := 18, slot := 9, constantValue := 0 }, { name := "$VALUES", type := (.array (.object "com/example/deadpaths_to_precision/deadpathstoprecision/frontend/IntegerType")), accessFlags := 4122, slot := 12, constantValue := 0 }]
  methods := #[k7m0]
  instanceTypes := #[(.object "java/lang/String"), .int, .int, .int, .boolean, .int, (.object "java/lang/String"), (.object "java/math/BigInteger"), (.object "java/math/BigInteger"), (.object "java/math/BigInteger")]
  staticTypes := #[(.object "com/example/deadpaths_to_precision/deadpathstoprecision/frontend/IntegerType"), (.object "com/example/deadpaths_to_precision/deadpathstoprecision/frontend/IntegerType"), (.object "com/example/deadpaths_to_precision/deadpathstoprecision/frontend/IntegerType"), (.object "com/example/deadpaths_to_precision/deadpathstoprecision/frontend/IntegerType"), (.object "com/example/deadpaths_to_precision/deadpathstoprecision/frontend/IntegerType"), (.object "com/example/deadpaths_to_precision/deadpathstoprecision/frontend/IntegerType"), (.object "com/example/deadpaths_to_precision/deadpathstoprecision/frontend/IntegerType"), (.object "com/example/deadpaths_to_precision/deadpathstoprecision/frontend/IntegerType"), (.object "com/example/deadpaths_to_precision/deadpathstoprecision/frontend/IntegerType"), (.object "com/example/deadpaths_to_precision/deadpathstoprecision/frontend/IntegerType"), (.object "com/example/deadpaths_to_precision/deadpathstoprecision/frontend/IntegerType"), (.object "com/example/deadpaths_to_precision/deadpathstoprecision/frontend/IntegerType"), (.array (.object "com/example/deadpaths_to_precision/deadpathstoprecision/frontend/IntegerType"))]
  resolved := Array.replicate 210 none
  statics := some 0 }

def pool8 : Array CpInfo := pool [(1, u "java/lang/Cloneable"), (0, .class_ 1), (0, u "java/lang/Object"), (0, .class_ 3)] 3

/-- java/lang/Cloneable -/
def k8 : Class := { plain "java/lang/Cloneable" (some 0) with
  accessFlags := 1537
  interfaces := #[]
  cf := some (fileOf pool8 2 #[] #[] 1537 4 #[] #[])
  fields := #[]
  methods := #[]
  instanceTypes := #[]
  staticTypes := #[]
  resolved := Array.replicate 8 none
  statics := none }

/-- the primitive byte -/
def k9 : Class := { plain "byte" none with kind := .primitive 'B', accessFlags := 0x411 }
/-- [B -/
def k10 : Class := { plain "[B" (some 0) with kind := .array 9 .byte, interfaces := #[8, 4], accessFlags := 1041 }

/-- the primitive int -/
def k11 : Class := { plain "int" none with kind := .primitive 'I', accessFlags := 0x411 }
/-- [I -/
def k12 : Class := { plain "[I" (some 0) with kind := .array 11 .int, interfaces := #[8, 4], accessFlags := 1041 }

def heap : Heap := #[{ cls := 7, slots := #[.ref 1, .ref 9, .ref 4, .ref 3, .ref 7, .ref 12, .ref 2, .ref 5, .ref 8, .ref 11, .ref 10, .ref 6, .null], vm := .statics 7 },
  { cls := 7, slots := #[.null, .int 0, .int 0, .int 0, .int 0, .int 0, .null, .null, .null, .null], vm := .none },
  { cls := 7, slots := #[.null, .int 0, .int 0, .int 0, .int 0, .int 3, .null, .null, .null, .null], vm := .none },
  { cls := 7, slots := #[.null, .int 0, .int 0, .int 0, .int 0, .int 1, .null, .null, .null, .null], vm := .none },
  { cls := 7, slots := #[.null, .int 0, .int 0, .int 0, .int 0, .int 1, .null, .null, .null, .null], vm := .none },
  { cls := 7, slots := #[.null, .int 0, .int 0, .int 0, .int 0, .int 3, .null, .null, .null, .null], vm := .none },
  { cls := 7, slots := #[.null, .int 0, .int 0, .int 0, .int 0, .int 5, .null, .null, .null, .null], vm := .none },
  { cls := 7, slots := #[.null, .int 0, .int 0, .int 0, .int 0, .int 2, .null, .null, .null, .null], vm := .none },
  { cls := 7, slots := #[.null, .int 0, .int 0, .int 0, .int 0, .int 4, .null, .null, .null, .null], vm := .none },
  { cls := 7, slots := #[.null, .int 0, .int 0, .int 0, .int 0, .int 1, .null, .null, .null, .null], vm := .none },
  { cls := 7, slots := #[.null, .int 0, .int 0, .int 0, .int 0, .int 5, .null, .null, .null, .null], vm := .none },
  { cls := 7, slots := #[.null, .int 0, .int 0, .int 0, .int 0, .int 4, .null, .null, .null, .null], vm := .none },
  { cls := 7, slots := #[.null, .int 0, .int 0, .int 0, .int 0, .int 2, .null, .null, .null, .null], vm := .none }]
def classes : Array Class := #[k0, k1, k2, k3, k4, k5, k6, k7, k8, k9, k10, k11, k12]
def interned : List (Array UInt16 × Addr) := []
def slotsUsed : Nat := 133
def theMethod : MethodId := ⟨1, 2⟩
def args0 : Array Value := #[.int 5]
def aboutOver (below : List Frame) : State where
  vm := { classes := classes, interned := interned.toArray }
  heap := heap
  slotsUsed := slotsUsed
  threads := #[{ frames := .invoking theMethod args0 :: below }]
def below0 : List Frame := [.native { method := ⟨0, 0⟩, args := #[] }]
def about1 : State := aboutOver below0
def p0 : Program := .bare "" "" ""
def e0 : Env := launch0.env 0 0 0
theorem w_frames : about1.frames = Frame.invoking theMethod args0 :: below0 := rfl
set_option maxRecDepth 65536 in
theorem w_args : argsFit about1.vm theMethod args0 = true := by decide +kernel
set_option maxRecDepth 65536 in
theorem w_heap : heapFits about1 = true := by decide +kernel
set_option maxRecDepth 65536 in
theorem w_runnable : about1.curStatus? = some .runnable := by decide +kernel
set_option maxRecDepth 65536 in
theorem w_alone : about1.alone = true := by decide +kernel
set_option maxRecDepth 65536 in
theorem w_named : about1.methodNamed? x = some theMethod := by decide +kernel
set_option maxRecDepth 65536 in
theorem w_hears : about1.hears theMethod below0 = true := by decide +kernel
set_option maxRecDepth 65536 in
theorem w_ripe : about1.ripe theMethod args0 below0 = true := by decide +kernel
theorem w_running : about1.status = .running := rfl
set_option maxRecDepth 65536 in
theorem w_room : about1.hasRoom e0.platform room_1 = true :=
  launch0.hasRoom_least _ room_1 (by decide +kernel) (by decide +kernel) (by decide +kernel) (by decide +kernel) (by decide +kernel) (by decide +kernel)
theorem allAtoms_all (ts : List Jvm.Cond) (a : Array Jvm.Value) (st : Jvm.State) : (allAtoms ts).before a st = ts.all (fun c => c.before a st) := by
  induction ts with
  | nil => rfl
  | cons c t ih =>
    show (Jvm.Cond.and c (allAtoms t)).before a st = _
    rw [Jvm.Cond.before_and, ih, List.all_cons]
def words1 : List Jvm.Cond := Jvm.Cond.code x code maxLocals ret :: tables_1
/-- a 'code' word, met by the world's own term for the bytes: nothing is compared byte by byte -/
theorem code_word {y : MethodName} {bytes : ByteArray} {mx : Nat} {rt : Option FieldType} {a : Array Value} {s : State} {m : MethodId} {meth : Method} {c : Code} (h1 : s.methodNamed? y = some m) (h2 : s.vm.method? m = some meth) (h3 : meth.code = some c) (h4 : c.code = bytes)
    (h5 : (c.maxLocals == mx && c.exceptionTable.isEmpty && decide (c.maxStack ≤ mostOperands) && decide (meth.sig.returnType = rt) && !meth.locks && decide (parseMethodDescriptor y.desc = some meth.sig)) = true) : (Jvm.Cond.code y bytes mx rt).before a s = true := by
  simp only [Bool.and_eq_true, beq_iff_eq, Bool.not_eq_true', decide_eq_true_eq] at h5
  obtain ⟨⟨⟨⟨⟨g1, g2⟩, g3⟩, g4⟩, g5⟩, g6⟩ := h5
  simp [Cond.before, Cond.holds, Cond.value, h1, h2, h3, h4, g1, g2, g3, g4, g5, g6]
def isCode : Jvm.Cond → Bool
  | .code _ _ _ _ => true
  | _ => false
theorem all_split {L : List Jvm.Cond} {P : Jvm.Cond → Bool} (h1 : L.all (fun c => isCode c || P c) = true) (h2 : ∀ c ∈ L.filter isCode, P c = true) : L.all P = true := by
  refine List.all_eq_true.mpr fun c hc => ?_
  have h := List.all_eq_true.mp h1 c hc
  rcases Bool.eq_false_or_eq_true (isCode c) with hi | hi
  · exact h2 c (List.mem_filter.mpr ⟨hc, hi⟩)
  · simpa [hi] using h
set_option maxRecDepth 65536 in
theorem w_c0 : (Jvm.Cond.code x code maxLocals ret).before args0 about1 = true := code_word (m := ⟨1, 2⟩) (meth := k1m2) (c := k1c2) (by decide +kernel) rfl rfl rfl (by decide +kernel)
set_option maxRecDepth 65536 in
theorem w_c1 : (Jvm.Cond.code ({ cls := "com/example/deadpaths_to_precision/deadpathstoprecision/frontend/IntegerTypePromotePinLaw", name := "pick", desc := "(I)Lcom/example/deadpaths_to_precision/deadpathstoprecision/frontend/IntegerType;" } : Jvm.MethodName) method_2_code (1 : Nat) (Option.some (Jvm.ClassFile.FieldType.object "com/example/deadpaths_to_precision/deadpathstoprecision/frontend/IntegerType"))).before args0 about1 = true := code_word (m := ⟨1, 1⟩) (meth := k1m1) (c := k1c1) (by decide +kernel) rfl rfl rfl (by decide +kernel)
set_option maxRecDepth 65536 in
theorem w_c2 : (Jvm.Cond.code ({ cls := "com/example/deadpaths_to_precision/deadpathstoprecision/frontend/IntegerType", name := "promote", desc := "()Lcom/example/deadpaths_to_precision/deadpathstoprecision/frontend/IntegerType;" } : Jvm.MethodName) prog_87_method_12_code (1 : Nat) (Option.some (Jvm.ClassFile.FieldType.object "com/example/deadpaths_to_precision/deadpathstoprecision/frontend/IntegerType"))).before args0 about1 = true := code_word (m := ⟨7, 0⟩) (meth := k7m0) (c := k7c0) (by decide +kernel) rfl rfl rfl (by decide +kernel)
def codes1 : List Jvm.Cond := [Jvm.Cond.code x code maxLocals ret, Jvm.Cond.code ({ cls := "com/example/deadpaths_to_precision/deadpathstoprecision/frontend/IntegerTypePromotePinLaw", name := "pick", desc := "(I)Lcom/example/deadpaths_to_precision/deadpathstoprecision/frontend/IntegerType;" } : Jvm.MethodName) method_2_code (1 : Nat) (Option.some (Jvm.ClassFile.FieldType.object "com/example/deadpaths_to_precision/deadpathstoprecision/frontend/IntegerType")), Jvm.Cond.code ({ cls := "com/example/deadpaths_to_precision/deadpathstoprecision/frontend/IntegerType", name := "promote", desc := "()Lcom/example/deadpaths_to_precision/deadpathstoprecision/frontend/IntegerType;" } : Jvm.MethodName) prog_87_method_12_code (1 : Nat) (Option.some (Jvm.ClassFile.FieldType.object "com/example/deadpaths_to_precision/deadpathstoprecision/frontend/IntegerType"))]
set_option maxRecDepth 65536 in
theorem codes_eq : words1.filter isCode = codes1 := rfl
theorem w_codes : ∀ c ∈ words1.filter isCode, c.before args0 about1 = true := by
  rw [codes_eq]
  intro c hc
  simp only [codes1, List.mem_cons, List.not_mem_nil, or_false] at hc
  rcases hc with rfl | rfl | rfl
  · exact w_c0
  · exact w_c1
  · exact w_c2
set_option maxRecDepth 65536 in
theorem w_t1 : (words1.take 24).all (fun c => isCode c || c.before args0 about1) = true := by decide +kernel
set_option maxRecDepth 65536 in
theorem w_t2 : (words1.drop 24).all (fun c => isCode c || c.before args0 about1) = true := by decide +kernel
theorem w_tables : (allAtoms (Jvm.Cond.code x code maxLocals ret :: tables_1)).before args0 about1 = true := by
  rw [allAtoms_all]
  show words1.all (fun c => c.before args0 about1) = true
  refine all_split ?_ w_codes
  rw [← List.take_append_drop 24 words1, List.all_append, w_t1, w_t2]
  rfl
set_option maxRecDepth 65536 in
theorem w_case : (Jvm.Cond.and given_1 narrow_1).before args0 about1 = true := by decide +kernel
theorem w_applies : (headSpec (Jvm.Cond.code x code maxLocals ret :: tables_1) room_1).applies x e0.platform about1 = true :=
  (Spec.applies_iff w_frames).mpr ⟨w_running, w_runnable, w_alone, w_named, w_hears, w_ripe, w_room, w_tables⟩
theorem atStart : AtStart classFile x code maxLocals ret World_1 tables_1 room_1 Calls_1 rest_1 Pre_1 launch0 p0 e0 about1 theMethod args0 below0 :=
  ⟨lists_1, trivial, launch0.admits_env _ _ _, launch0.least_env, fairChoices_fair.cas, fairChoices_fair.clock, w_frames, w_args, w_heap, w_applies, trivial, trivial, w_case⟩
end start1
theorem witness_1 : WitnessClaimed_1 := ⟨start1.p0, start1.e0, start1.about1, start1.theMethod, start1.args0, start1.below0, start1.atStart⟩
end Jvm.Pilot.@@N@@
