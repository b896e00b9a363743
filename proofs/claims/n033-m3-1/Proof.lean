import JvmDerived
import JvmDerived.Pilot.@@N@@Statement
import JvmDerived.Pilot.@@N@@Code
set_option linter.unusedVariables false
set_option linter.unusedSimpArgs false
namespace Jvm.RoadKit
open Sem ClassFile Op Lib Jvm.Stand Jvm.Free Jvm.LawKit
section New
variable {p : Program} {l : Launch} {e : Env} {R : Room} {s : State} {m : MethodId} {args : Array Value} {below : List Frame} {meth : Method} {c : Code} {T : State} {locs : List Loc} {cells slots : Nat}
theorem retI (X : Stand p l e R s m args below meth c T locs cells slots) (hx : p.tables.exec = Jvm.exec) {pc : Nat} {Ls : Array Slot} {z : Int32} {rest : List Value} (hret : meth.sig.returnType = some .int) (hd : decode c.code pc = .ok (.ireturn, 1)) {fs : List Frame}
    (hl : ∀ (f : JFrame) (acts : List Action), f.method = m → f.locked = none → f.entered = [] → (doReturn e (T.setTop f) acts (some (.int z))).1 = T.setFrames fs) : Steps p.tables e below (T.setTop (mkF m pc Ls (.int z :: rest))) (T.setFrames fs) := by
  have hm' : T.vm.method? m = some meth := X.method'
  have hn : narrow .int (.int z) = .int z := rfl
  show Steps p.tables e below (T.setTop { method := m, pc := pc, locals := Ls, stack := _ :: rest, locked := none }) _
  jvm_step X.here [X.here.top, hx, hd, hm', hret, hn]
  first | (intro acts; rw [hl _ acts rfl rfl rfl]) | rw [hl _ _ rfl rfl rfl]
  exact Steps.refl _
end New
end Jvm.RoadKit
namespace Jvm.Pilot.@@N@@
open Jvm Jvm.ClassFile Sem Op Lib Jvm.Free Jvm.Stand Jvm.LawKit Jvm.RoadKit Bundle Jvm.Pilot.@@N@@.Jvm.D
/-- what a body that writes nothing leaves: the value, and the heap as it was -/
def QV (r : Option Value) (h0 : Heap) (n0 : Nat) (v : Option Value) (h : Heap) (L : List Loc) : Prop := v = r ∧ Fr n0 L ∧ h = h0
theorem own_fld_one {Z : State} {h : Heap} {a : Addr} {C n d : String} {v w : Value} (F : Fld Z h a C n d v) (G : Fld Z h a C n d w) : v = w := by
  obtain ⟨c1, f1, k1, i1, g1, a1, a2, -, -, -, -, a7⟩ := F
  obtain ⟨c2, f2, k2, i2, g2, b1, b2, -, -, -, -, b7⟩ := G
  cases a1.symm.trans b1
  cases a2.symm.trans b2
  exact Option.some.inj (a7.symm.trans b7)
theorem own_ne_fld {Z : State} {h : Heap} {a b : Addr} {C n d : String} {x y : Int32} (F : Fld Z h a C n d (.int x)) (G : Fld Z h b C n d (.int y)) (hn : x ≠ y) : ¬ a = b := fun e => by
  subst e
  exact hn (Value.int.inj (own_fld_one F G))
theorem own_fld {args : Array Value} {s : State} {t : Term} {C n d : String} {k : Int32} {a : Addr} (ht : t.eval args s none [] s = some (.ref a)) (h : (Jvm.Cond.eq (Jvm.Term.field t C n d) (Jvm.Term.int k)).value args s none s [] = some true) : Fld s s.heap a C n d (.int k) := by
  refine Fld.start ((fld_at (idx := []) (first := s) (o := none) ht).symm.trans ?_)
  obtain ⟨x, y, e1, e2, k1, k2⟩ := cmp_v (Or.inl h)
  cases e2
  obtain ⟨z, rfl⟩ := k2
  have e3 : (Jvm.Term.int k).eval args s none [] s = some (.int k) := rfl
  have q : z = k := by simpa [Jvm.Cond.value, e1, e3] using h
  rw [e1, q]
def Q0 (n0 : Nat) (v : Option Value) (h : Heap) (L : List Loc) : Prop := v = some (.int (1 : Int32)) ∧ Fr n0 L
theorem own_k (x : Int32) : ((x &&& (2147483647 : Int32)) % (22 : Int32)) = (0 : Int32) ∨ ((x &&& (2147483647 : Int32)) % (22 : Int32)) = (1 : Int32) ∨ ((x &&& (2147483647 : Int32)) % (22 : Int32)) = (2 : Int32) ∨ ((x &&& (2147483647 : Int32)) % (22 : Int32)) = (3 : Int32) ∨ ((x &&& (2147483647 : Int32)) % (22 : Int32)) = (4 : Int32) ∨ ((x &&& (2147483647 : Int32)) % (22 : Int32)) = (5 : Int32) ∨ ((x &&& (2147483647 : Int32)) % (22 : Int32)) = (6 : Int32) ∨ ((x &&& (2147483647 : Int32)) % (22 : Int32)) = (7 : Int32) ∨ ((x &&& (2147483647 : Int32)) % (22 : Int32)) = (8 : Int32) ∨ ((x &&& (2147483647 : Int32)) % (22 : Int32)) = (9 : Int32) ∨ ((x &&& (2147483647 : Int32)) % (22 : Int32)) = (10 : Int32) ∨ ((x &&& (2147483647 : Int32)) % (22 : Int32)) = (11 : Int32) ∨ ((x &&& (2147483647 : Int32)) % (22 : Int32)) = (12 : Int32) ∨ ((x &&& (2147483647 : Int32)) % (22 : Int32)) = (13 : Int32) ∨ ((x &&& (2147483647 : Int32)) % (22 : Int32)) = (14 : Int32) ∨ ((x &&& (2147483647 : Int32)) % (22 : Int32)) = (15 : Int32) ∨ ((x &&& (2147483647 : Int32)) % (22 : Int32)) = (16 : Int32) ∨ ((x &&& (2147483647 : Int32)) % (22 : Int32)) = (17 : Int32) ∨ ((x &&& (2147483647 : Int32)) % (22 : Int32)) = (18 : Int32) ∨ ((x &&& (2147483647 : Int32)) % (22 : Int32)) = (19 : Int32) ∨ ((x &&& (2147483647 : Int32)) % (22 : Int32)) = (20 : Int32) ∨ ((x &&& (2147483647 : Int32)) % (22 : Int32)) = (21 : Int32) := by
  have h1 := c_and x 2147483647 (by decide)
  have h2 := (c_irem (x &&& (2147483647 : Int32)) 22 22 (by decide)).1 h1.1
  have h3 : ((x &&& (2147483647 : Int32)) % (22 : Int32)).toInt = 0 ∨ ((x &&& (2147483647 : Int32)) % (22 : Int32)).toInt = 1 ∨ ((x &&& (2147483647 : Int32)) % (22 : Int32)).toInt = 2 ∨ ((x &&& (2147483647 : Int32)) % (22 : Int32)).toInt = 3 ∨ ((x &&& (2147483647 : Int32)) % (22 : Int32)).toInt = 4 ∨ ((x &&& (2147483647 : Int32)) % (22 : Int32)).toInt = 5 ∨ ((x &&& (2147483647 : Int32)) % (22 : Int32)).toInt = 6 ∨ ((x &&& (2147483647 : Int32)) % (22 : Int32)).toInt = 7 ∨ ((x &&& (2147483647 : Int32)) % (22 : Int32)).toInt = 8 ∨ ((x &&& (2147483647 : Int32)) % (22 : Int32)).toInt = 9 ∨ ((x &&& (2147483647 : Int32)) % (22 : Int32)).toInt = 10 ∨ ((x &&& (2147483647 : Int32)) % (22 : Int32)).toInt = 11 ∨ ((x &&& (2147483647 : Int32)) % (22 : Int32)).toInt = 12 ∨ ((x &&& (2147483647 : Int32)) % (22 : Int32)).toInt = 13 ∨ ((x &&& (2147483647 : Int32)) % (22 : Int32)).toInt = 14 ∨ ((x &&& (2147483647 : Int32)) % (22 : Int32)).toInt = 15 ∨ ((x &&& (2147483647 : Int32)) % (22 : Int32)).toInt = 16 ∨ ((x &&& (2147483647 : Int32)) % (22 : Int32)).toInt = 17 ∨ ((x &&& (2147483647 : Int32)) % (22 : Int32)).toInt = 18 ∨ ((x &&& (2147483647 : Int32)) % (22 : Int32)).toInt = 19 ∨ ((x &&& (2147483647 : Int32)) % (22 : Int32)).toInt = 20 ∨ ((x &&& (2147483647 : Int32)) % (22 : Int32)).toInt = 21 := by omega
  rcases h3 with h | h | h | h | h | h | h | h | h | h | h | h | h | h | h | h | h | h | h | h | h | h
  · exact Or.inl (Int32.toInt_inj.mp (h.trans (by decide)))
  · exact Or.inr (Or.inl (Int32.toInt_inj.mp (h.trans (by decide))))
  · exact Or.inr (Or.inr (Or.inl (Int32.toInt_inj.mp (h.trans (by decide)))))
  · exact Or.inr (Or.inr (Or.inr (Or.inl (Int32.toInt_inj.mp (h.trans (by decide))))))
  · exact Or.inr (Or.inr (Or.inr (Or.inr (Or.inl (Int32.toInt_inj.mp (h.trans (by decide)))))))
  · exact Or.inr (Or.inr (Or.inr (Or.inr (Or.inr (Or.inl (Int32.toInt_inj.mp (h.trans (by decide))))))))
  · exact Or.inr (Or.inr (Or.inr (Or.inr (Or.inr (Or.inr (Or.inl (Int32.toInt_inj.mp (h.trans (by decide)))))))))
  · exact Or.inr (Or.inr (Or.inr (Or.inr (Or.inr (Or.inr (Or.inr (Or.inl (Int32.toInt_inj.mp (h.trans (by decide))))))))))
  · exact Or.inr (Or.inr (Or.inr (Or.inr (Or.inr (Or.inr (Or.inr (Or.inr (Or.inl (Int32.toInt_inj.mp (h.trans (by decide)))))))))))
  · exact Or.inr (Or.inr (Or.inr (Or.inr (Or.inr (Or.inr (Or.inr (Or.inr (Or.inr (Or.inl (Int32.toInt_inj.mp (h.trans (by decide))))))))))))
  · exact Or.inr (Or.inr (Or.inr (Or.inr (Or.inr (Or.inr (Or.inr (Or.inr (Or.inr (Or.inr (Or.inl (Int32.toInt_inj.mp (h.trans (by decide)))))))))))))
  · exact Or.inr (Or.inr (Or.inr (Or.inr (Or.inr (Or.inr (Or.inr (Or.inr (Or.inr (Or.inr (Or.inr (Or.inl (Int32.toInt_inj.mp (h.trans (by decide))))))))))))))
  · exact Or.inr (Or.inr (Or.inr (Or.inr (Or.inr (Or.inr (Or.inr (Or.inr (Or.inr (Or.inr (Or.inr (Or.inr (Or.inl (Int32.toInt_inj.mp (h.trans (by decide)))))))))))))))
  · exact Or.inr (Or.inr (Or.inr (Or.inr (Or.inr (Or.inr (Or.inr (Or.inr (Or.inr (Or.inr (Or.inr (Or.inr (Or.inr (Or.inl (Int32.toInt_inj.mp (h.trans (by decide))))))))))))))))
  · exact Or.inr (Or.inr (Or.inr (Or.inr (Or.inr (Or.inr (Or.inr (Or.inr (Or.inr (Or.inr (Or.inr (Or.inr (Or.inr (Or.inr (Or.inl (Int32.toInt_inj.mp (h.trans (by decide)))))))))))))))))
  · exact Or.inr (Or.inr (Or.inr (Or.inr (Or.inr (Or.inr (Or.inr (Or.inr (Or.inr (Or.inr (Or.inr (Or.inr (Or.inr (Or.inr (Or.inr (Or.inl (Int32.toInt_inj.mp (h.trans (by decide))))))))))))))))))
  · exact Or.inr (Or.inr (Or.inr (Or.inr (Or.inr (Or.inr (Or.inr (Or.inr (Or.inr (Or.inr (Or.inr (Or.inr (Or.inr (Or.inr (Or.inr (Or.inr (Or.inl (Int32.toInt_inj.mp (h.trans (by decide)))))))))))))))))))
  · exact Or.inr (Or.inr (Or.inr (Or.inr (Or.inr (Or.inr (Or.inr (Or.inr (Or.inr (Or.inr (Or.inr (Or.inr (Or.inr (Or.inr (Or.inr (Or.inr (Or.inr (Or.inl (Int32.toInt_inj.mp (h.trans (by decide))))))))))))))))))))
  · exact Or.inr (Or.inr (Or.inr (Or.inr (Or.inr (Or.inr (Or.inr (Or.inr (Or.inr (Or.inr (Or.inr (Or.inr (Or.inr (Or.inr (Or.inr (Or.inr (Or.inr (Or.inr (Or.inl (Int32.toInt_inj.mp (h.trans (by decide)))))))))))))))))))))
  · exact Or.inr (Or.inr (Or.inr (Or.inr (Or.inr (Or.inr (Or.inr (Or.inr (Or.inr (Or.inr (Or.inr (Or.inr (Or.inr (Or.inr (Or.inr (Or.inr (Or.inr (Or.inr (Or.inr (Or.inl (Int32.toInt_inj.mp (h.trans (by decide))))))))))))))))))))))
  · exact Or.inr (Or.inr (Or.inr (Or.inr (Or.inr (Or.inr (Or.inr (Or.inr (Or.inr (Or.inr (Or.inr (Or.inr (Or.inr (Or.inr (Or.inr (Or.inr (Or.inr (Or.inr (Or.inr (Or.inr (Or.inl (Int32.toInt_inj.mp (h.trans (by decide)))))))))))))))))))))))
  · exact Or.inr (Or.inr (Or.inr (Or.inr (Or.inr (Or.inr (Or.inr (Or.inr (Or.inr (Or.inr (Or.inr (Or.inr (Or.inr (Or.inr (Or.inr (Or.inr (Or.inr (Or.inr (Or.inr (Or.inr (Or.inr (Int32.toInt_inj.mp (h.trans (by decide)))))))))))))))))))))))
theorem d_prog_146_m_7_0 : decode prog_146_method_7_code 0 = .ok (.aload_n 0, 1) := by decide +kernel
theorem d_prog_146_m_7_1 : decode prog_146_method_7_code 1 = .ok (.getstatic 3, 3) := by decide +kernel
theorem d_prog_146_m_7_4 : decode prog_146_method_7_code 4 = .ok (.if_acmp .eq 14, 3) := by decide +kernel
theorem d_prog_146_m_7_7 : decode prog_146_method_7_code 7 = .ok (.aload_n 0, 1) := by decide +kernel
theorem d_prog_146_m_7_8 : decode prog_146_method_7_code 8 = .ok (.getstatic 19, 3) := by decide +kernel
theorem d_prog_146_m_7_11 : decode prog_146_method_7_code 11 = .ok (.if_acmp .eq 7, 3) := by decide +kernel
theorem d_prog_146_m_7_14 : decode prog_146_method_7_code 14 = .ok (.iconst 1, 1) := by decide +kernel
theorem d_prog_146_m_7_15 : decode prog_146_method_7_code 15 = .ok (.goto 4, 3) := by decide +kernel
theorem d_prog_146_m_7_18 : decode prog_146_method_7_code 18 = .ok (.iconst 0, 1) := by decide +kernel
theorem d_prog_146_m_7_19 : decode prog_146_method_7_code 19 = .ok (.ireturn, 1) := by decide +kernel
theorem d_m_3_0 : decode method_3_code 0 = .ok (.iload_n 0, 1) := by decide +kernel
theorem d_m_3_1 : decode method_3_code 1 = .ok (.ifCond .ne 7, 3) := by decide +kernel
theorem d_m_3_4 : decode method_3_code 4 = .ok (.getstatic 20, 3) := by decide +kernel
theorem d_m_3_7 : decode method_3_code 7 = .ok (.areturn, 1) := by decide +kernel
theorem d_m_3_8 : decode method_3_code 8 = .ok (.iload_n 0, 1) := by decide +kernel
theorem d_m_3_9 : decode method_3_code 9 = .ok (.iconst 1, 1) := by decide +kernel
theorem d_m_3_10 : decode method_3_code 10 = .ok (.if_icmp .ne 7, 3) := by decide +kernel
theorem d_m_3_13 : decode method_3_code 13 = .ok (.getstatic 24, 3) := by decide +kernel
theorem d_m_3_16 : decode method_3_code 16 = .ok (.areturn, 1) := by decide +kernel
theorem d_m_3_17 : decode method_3_code 17 = .ok (.iload_n 0, 1) := by decide +kernel
theorem d_m_3_18 : decode method_3_code 18 = .ok (.iconst 2, 1) := by decide +kernel
theorem d_m_3_19 : decode method_3_code 19 = .ok (.if_icmp .ne 7, 3) := by decide +kernel
theorem d_m_3_22 : decode method_3_code 22 = .ok (.getstatic 27, 3) := by decide +kernel
theorem d_m_3_25 : decode method_3_code 25 = .ok (.areturn, 1) := by decide +kernel
theorem d_m_3_26 : decode method_3_code 26 = .ok (.iload_n 0, 1) := by decide +kernel
theorem d_m_3_27 : decode method_3_code 27 = .ok (.iconst 3, 1) := by decide +kernel
theorem d_m_3_28 : decode method_3_code 28 = .ok (.if_icmp .ne 7, 3) := by decide +kernel
theorem d_m_3_31 : decode method_3_code 31 = .ok (.getstatic 30, 3) := by decide +kernel
theorem d_m_3_34 : decode method_3_code 34 = .ok (.areturn, 1) := by decide +kernel
theorem d_m_3_35 : decode method_3_code 35 = .ok (.iload_n 0, 1) := by decide +kernel
theorem d_m_3_36 : decode method_3_code 36 = .ok (.iconst 4, 1) := by decide +kernel
theorem d_m_3_37 : decode method_3_code 37 = .ok (.if_icmp .ne 7, 3) := by decide +kernel
theorem d_m_3_40 : decode method_3_code 40 = .ok (.getstatic 33, 3) := by decide +kernel
theorem d_m_3_43 : decode method_3_code 43 = .ok (.areturn, 1) := by decide +kernel
theorem d_m_3_44 : decode method_3_code 44 = .ok (.iload_n 0, 1) := by decide +kernel
theorem d_m_3_45 : decode method_3_code 45 = .ok (.iconst 5, 1) := by decide +kernel
theorem d_m_3_46 : decode method_3_code 46 = .ok (.if_icmp .ne 7, 3) := by decide +kernel
theorem d_m_3_49 : decode method_3_code 49 = .ok (.getstatic 36, 3) := by decide +kernel
theorem d_m_3_52 : decode method_3_code 52 = .ok (.areturn, 1) := by decide +kernel
theorem d_m_3_53 : decode method_3_code 53 = .ok (.iload_n 0, 1) := by decide +kernel
theorem d_m_3_54 : decode method_3_code 54 = .ok (.bipush 6, 2) := by decide +kernel
theorem d_m_3_56 : decode method_3_code 56 = .ok (.if_icmp .ne 7, 3) := by decide +kernel
theorem d_m_3_59 : decode method_3_code 59 = .ok (.getstatic 39, 3) := by decide +kernel
theorem d_m_3_62 : decode method_3_code 62 = .ok (.areturn, 1) := by decide +kernel
theorem d_m_3_63 : decode method_3_code 63 = .ok (.iload_n 0, 1) := by decide +kernel
theorem d_m_3_64 : decode method_3_code 64 = .ok (.bipush 7, 2) := by decide +kernel
theorem d_m_3_66 : decode method_3_code 66 = .ok (.if_icmp .ne 7, 3) := by decide +kernel
theorem d_m_3_69 : decode method_3_code 69 = .ok (.getstatic 42, 3) := by decide +kernel
theorem d_m_3_72 : decode method_3_code 72 = .ok (.areturn, 1) := by decide +kernel
theorem d_m_3_73 : decode method_3_code 73 = .ok (.iload_n 0, 1) := by decide +kernel
theorem d_m_3_74 : decode method_3_code 74 = .ok (.bipush 8, 2) := by decide +kernel
theorem d_m_3_76 : decode method_3_code 76 = .ok (.if_icmp .ne 7, 3) := by decide +kernel
theorem d_m_3_79 : decode method_3_code 79 = .ok (.getstatic 45, 3) := by decide +kernel
theorem d_m_3_82 : decode method_3_code 82 = .ok (.areturn, 1) := by decide +kernel
theorem d_m_3_83 : decode method_3_code 83 = .ok (.iload_n 0, 1) := by decide +kernel
theorem d_m_3_84 : decode method_3_code 84 = .ok (.bipush 9, 2) := by decide +kernel
theorem d_m_3_86 : decode method_3_code 86 = .ok (.if_icmp .ne 7, 3) := by decide +kernel
theorem d_m_3_89 : decode method_3_code 89 = .ok (.getstatic 48, 3) := by decide +kernel
theorem d_m_3_92 : decode method_3_code 92 = .ok (.areturn, 1) := by decide +kernel
theorem d_m_3_93 : decode method_3_code 93 = .ok (.iload_n 0, 1) := by decide +kernel
theorem d_m_3_94 : decode method_3_code 94 = .ok (.bipush 10, 2) := by decide +kernel
theorem d_m_3_96 : decode method_3_code 96 = .ok (.if_icmp .ne 7, 3) := by decide +kernel
theorem d_m_3_99 : decode method_3_code 99 = .ok (.getstatic 51, 3) := by decide +kernel
theorem d_m_3_102 : decode method_3_code 102 = .ok (.areturn, 1) := by decide +kernel
theorem d_m_3_103 : decode method_3_code 103 = .ok (.iload_n 0, 1) := by decide +kernel
theorem d_m_3_104 : decode method_3_code 104 = .ok (.bipush 11, 2) := by decide +kernel
theorem d_m_3_106 : decode method_3_code 106 = .ok (.if_icmp .ne 7, 3) := by decide +kernel
theorem d_m_3_109 : decode method_3_code 109 = .ok (.getstatic 54, 3) := by decide +kernel
theorem d_m_3_112 : decode method_3_code 112 = .ok (.areturn, 1) := by decide +kernel
theorem d_m_3_113 : decode method_3_code 113 = .ok (.iload_n 0, 1) := by decide +kernel
theorem d_m_3_114 : decode method_3_code 114 = .ok (.bipush 12, 2) := by decide +kernel
theorem d_m_3_116 : decode method_3_code 116 = .ok (.if_icmp .ne 7, 3) := by decide +kernel
theorem d_m_3_119 : decode method_3_code 119 = .ok (.getstatic 57, 3) := by decide +kernel
theorem d_m_3_122 : decode method_3_code 122 = .ok (.areturn, 1) := by decide +kernel
theorem d_m_3_123 : decode method_3_code 123 = .ok (.iload_n 0, 1) := by decide +kernel
theorem d_m_3_124 : decode method_3_code 124 = .ok (.bipush 13, 2) := by decide +kernel
theorem d_m_3_126 : decode method_3_code 126 = .ok (.if_icmp .ne 7, 3) := by decide +kernel
theorem d_m_3_129 : decode method_3_code 129 = .ok (.getstatic 60, 3) := by decide +kernel
theorem d_m_3_132 : decode method_3_code 132 = .ok (.areturn, 1) := by decide +kernel
theorem d_m_3_133 : decode method_3_code 133 = .ok (.iload_n 0, 1) := by decide +kernel
theorem d_m_3_134 : decode method_3_code 134 = .ok (.bipush 14, 2) := by decide +kernel
theorem d_m_3_136 : decode method_3_code 136 = .ok (.if_icmp .ne 7, 3) := by decide +kernel
theorem d_m_3_139 : decode method_3_code 139 = .ok (.getstatic 63, 3) := by decide +kernel
theorem d_m_3_142 : decode method_3_code 142 = .ok (.areturn, 1) := by decide +kernel
theorem d_m_3_143 : decode method_3_code 143 = .ok (.iload_n 0, 1) := by decide +kernel
theorem d_m_3_144 : decode method_3_code 144 = .ok (.bipush 15, 2) := by decide +kernel
theorem d_m_3_146 : decode method_3_code 146 = .ok (.if_icmp .ne 7, 3) := by decide +kernel
theorem d_m_3_149 : decode method_3_code 149 = .ok (.getstatic 66, 3) := by decide +kernel
theorem d_m_3_152 : decode method_3_code 152 = .ok (.areturn, 1) := by decide +kernel
theorem d_m_3_153 : decode method_3_code 153 = .ok (.iload_n 0, 1) := by decide +kernel
theorem d_m_3_154 : decode method_3_code 154 = .ok (.bipush 16, 2) := by decide +kernel
theorem d_m_3_156 : decode method_3_code 156 = .ok (.if_icmp .ne 7, 3) := by decide +kernel
theorem d_m_3_159 : decode method_3_code 159 = .ok (.getstatic 69, 3) := by decide +kernel
theorem d_m_3_162 : decode method_3_code 162 = .ok (.areturn, 1) := by decide +kernel
theorem d_m_3_163 : decode method_3_code 163 = .ok (.iload_n 0, 1) := by decide +kernel
theorem d_m_3_164 : decode method_3_code 164 = .ok (.bipush 17, 2) := by decide +kernel
theorem d_m_3_166 : decode method_3_code 166 = .ok (.if_icmp .ne 7, 3) := by decide +kernel
theorem d_m_3_169 : decode method_3_code 169 = .ok (.getstatic 72, 3) := by decide +kernel
theorem d_m_3_172 : decode method_3_code 172 = .ok (.areturn, 1) := by decide +kernel
theorem d_m_3_173 : decode method_3_code 173 = .ok (.iload_n 0, 1) := by decide +kernel
theorem d_m_3_174 : decode method_3_code 174 = .ok (.bipush 18, 2) := by decide +kernel
theorem d_m_3_176 : decode method_3_code 176 = .ok (.if_icmp .ne 7, 3) := by decide +kernel
theorem d_m_3_179 : decode method_3_code 179 = .ok (.getstatic 75, 3) := by decide +kernel
theorem d_m_3_182 : decode method_3_code 182 = .ok (.areturn, 1) := by decide +kernel
theorem d_m_3_183 : decode method_3_code 183 = .ok (.iload_n 0, 1) := by decide +kernel
theorem d_m_3_184 : decode method_3_code 184 = .ok (.bipush 19, 2) := by decide +kernel
theorem d_m_3_186 : decode method_3_code 186 = .ok (.if_icmp .ne 7, 3) := by decide +kernel
theorem d_m_3_189 : decode method_3_code 189 = .ok (.getstatic 78, 3) := by decide +kernel
theorem d_m_3_192 : decode method_3_code 192 = .ok (.areturn, 1) := by decide +kernel
theorem d_m_3_193 : decode method_3_code 193 = .ok (.iload_n 0, 1) := by decide +kernel
theorem d_m_3_194 : decode method_3_code 194 = .ok (.bipush 20, 2) := by decide +kernel
theorem d_m_3_196 : decode method_3_code 196 = .ok (.if_icmp .ne 7, 3) := by decide +kernel
theorem d_m_3_199 : decode method_3_code 199 = .ok (.getstatic 81, 3) := by decide +kernel
theorem d_m_3_202 : decode method_3_code 202 = .ok (.areturn, 1) := by decide +kernel
theorem d_m_3_203 : decode method_3_code 203 = .ok (.getstatic 84, 3) := by decide +kernel
theorem d_m_3_206 : decode method_3_code 206 = .ok (.areturn, 1) := by decide +kernel
theorem pd_0 : parseMethodDescriptor "(I)Lcom/example/abaco/abaco/core/AtomicType;" = some ⟨[.int], some (.object "com/example/abaco/abaco/core/AtomicType")⟩ := by decide +kernel
theorem pd_1 : parseMethodDescriptor "()Z" = some ⟨[], some .boolean⟩ := by decide +kernel
theorem pn_0 : plainName "com/example/abaco/abaco/core/AtomicType" = true := by first | (simp [plainName, overriddenIn]; done) | decide +kernel
theorem pn_1 : plainName "com/example/abaco/abaco/core/AtomicTypeIsCastTargetPinLaw" = true := by first | (simp [plainName, overriddenIn]; done) | decide +kernel
theorem ef_rm1 (m : MethodId) (x0 : Addr) : entryFrame m #[(.ref x0)] 1 = mkF m 0 #[.val (.ref x0)] [] := by first | (simp [entryFrame, mkF, argsToLocals, Value.category]; done) | rfl
set_option maxRecDepth 65536 in
set_option maxHeartbeats 40000000 in
theorem rm1 (l : Launch) (Z : State) (a0 : Array Value) (hw : ∀ d ∈ tables_1, d.before a0 Z = true) (ws : List Jvm.Cond) (a : Addr) (a_ANY_ATOMIC_TYPE : Addr) (a_NOTATION : Addr) (h0 : Heap) (n0 : Nat) (Z0 : n0 ≤ h0.size) (S_ANY_ATOMIC_TYPE : Sta Z h0 "com/example/abaco/abaco/core/AtomicType" "ANY_ATOMIC_TYPE" "Lcom/example/abaco/abaco/core/AtomicType;" (.ref a_ANY_ATOMIC_TYPE)) (S_NOTATION : Sta Z h0 "com/example/abaco/abaco/core/AtomicType" "NOTATION" "Lcom/example/abaco/abaco/core/AtomicType;" (.ref a_NOTATION)) :
    MetFree l (⟨"com/example/abaco/abaco/core/AtomicType", "isCastTarget", "()Z"⟩ : MethodName) (head1 (Jvm.Cond.code (⟨"com/example/abaco/abaco/core/AtomicType", "isCastTarget", "()Z"⟩ : MethodName) prog_146_method_7_code 1 (some .boolean) :: ws) ({ frames := 0, cells := 0, slots := 0, locals := 0 } : Room)) (fun aa_ UU_ => aa_ = #[(.ref a)] ∧ Z.Warmed39 UU_.vm ∧ UU_.heap = h0) (fun _ _ _ _ _ => True) (fun _ UU_ oo_ UE_ => ∃ vv_ LL_, oo_ = .returned vv_ ∧ QV (some (.int (if a = a_ANY_ATOMIC_TYPE ∨ a = a_NOTATION then 0 else 1))) h0 n0 vv_ UE_.heap LL_ ∧ FrameEnd UU_ oo_ UE_ LL_ ({ frames := 0, cells := 0, slots := 0, locals := 0 } : Room).cells ({ frames := 0, cells := 0, slots := 0, locals := 0 } : Room).slots) := by
  refine MetFree.of_bodySF (plainFor_of_name pn_0) hisR ?_
  intro p e s m args below meth c s₁ Bd hml0 hP hK
  obtain ⟨rfl, hZ, hh⟩ := hP
  have hx := Bd.exec
  have hby := Bd.bytes
  have hml : c.maxLocals = 1 := hml0
  have hown : s.vm.findClass "com/example/abaco/abaco/core/AtomicType" = some m.cls := findClass_of_methodNamed Bd.named
  have hnm := (name_of_methodNamed Bd.named Bd.method).1
  have X0 : Stand p l e ({ frames := 0, cells := 0, slots := 0, locals := 0 } : Room) s m #[(.ref a)] below meth c s₁ [] 0 0 := Stand.of_body Bd
  have e0 : s₁.heap = h0 := by rw [← hh, Bd.state]; rfl
  have N0 := Fr.nil n0
  have pre0 : ∀ tg, Steps p.tables e below (s₁.setTop (mkF m 0 #[.val (.ref a)] [])) tg → Steps p.tables e below (s₁.setTop (entryFrame m #[(.ref a)] 1)) tg := fun tg kq_ => castTop (ef_rm1 m a) kq_
  obtain ⟨T1, X1, e1, st1⟩ := getS2 X0 hx hZ hown (host := "") (Or.inl (hw _ (List.mem_of_getElem? (i := 13) rfl))) Via.refl e0 S_ANY_ATOMIC_TYPE (g := (mkF m 1 #[.val (.ref a)] [(.ref a)])) rfl (hb hby d_prog_146_m_7_1)
  have R2 : ∀ tg, Steps p.tables e below (T1.setTop (mkF m 4 #[.val (.ref a)] [(.ref a_ANY_ATOMIC_TYPE), (.ref a)])) tg → Steps p.tables e below (s₁.setTop (mkF m 0 #[.val (.ref a)] [])) tg := by
    intro tg kt
    refine XS.aloadN X0.here hx rfl (hb hby d_prog_146_m_7_0) rfl rfl ?_
    show Steps p.tables e below (s₁.setTop (mkF m 1 #[.val (.ref a)] [(.ref a)])) _
    refine st1 _ ?_
    show Steps p.tables e below (T1.setTop (mkF m 4 #[.val (.ref a)] [(.ref a_ANY_ATOMIC_TYPE), (.ref a)])) _
    exact kt
  by_cases hc4_3 : a = a_ANY_ATOMIC_TYPE
  · obtain ⟨fs, hr, hrun, hended, hW, hsame⟩ := X1.leave (v := some (.int (0 : Int32))) (fun h => by rw [Bd.returns] at h; cases h)
    refine ⟨_, _, pre0 _ (R2 _ ?_), hrun, hended, _, _, rfl, ?_, ⟨_, rfl⟩, hW, hsame.mono (by decide) (by decide)⟩
    · show Steps p.tables e below (T1.setTop (mkF m 4 #[.val (.ref a)] [(.ref a_ANY_ATOMIC_TYPE), (.ref a)])) _
      refine Jvm.RoadKit.acmp (g := (mkF m 4 #[.val (.ref a)] [(.ref a_ANY_ATOMIC_TYPE), (.ref a)])) X1 hx rfl rfl rfl (pc0 := 4) (pc' := 18) (same := true) rfl (hb hby d_prog_146_m_7_4) rfl (decide_eq_true (congrArg Value.ref hc4_3)) (by decide) (by decide) ?_
      show Steps p.tables e below (T1.setTop (mkF m 18 #[.val (.ref a)] [])) _
      refine XS.iconst X1.here hx rfl (hb hby d_prog_146_m_7_18) ?_
      show Steps p.tables e below (T1.setTop (mkF m 19 #[.val (.ref a)] [(.int (0 : Int32))])) _
      exact retN X1 hx (t := .boolean) Bd.returns (by simp) (hb hby d_prog_146_m_7_19) hr
    · show QV (some (.int (if a = a_ANY_ATOMIC_TYPE ∨ a = a_NOTATION then 0 else 1))) h0 n0 _ T1.heap _
      rw [e1]
      exact ⟨by simp [hc4_3], N0, rfl⟩
  · obtain ⟨T4, X4, e4, st4⟩ := getS2 X1 hx hZ hown (host := "") (Or.inl (hw _ (List.mem_of_getElem? (i := 16) rfl))) Via.refl e1 S_NOTATION (g := (mkF m 8 #[.val (.ref a)] [(.ref a)])) rfl (hb hby d_prog_146_m_7_8)
    have R5 : ∀ tg, Steps p.tables e below (T4.setTop (mkF m 11 #[.val (.ref a)] [(.ref a_NOTATION), (.ref a)])) tg → Steps p.tables e below (T1.setTop (mkF m 4 #[.val (.ref a)] [(.ref a_ANY_ATOMIC_TYPE), (.ref a)])) tg := by
      intro tg kt
      refine Jvm.RoadKit.acmp (g := (mkF m 4 #[.val (.ref a)] [(.ref a_ANY_ATOMIC_TYPE), (.ref a)])) X1 hx rfl rfl rfl (pc0 := 4) (pc' := 7) (same := false) rfl (hb hby d_prog_146_m_7_4) rfl (decide_eq_false fun q => hc4_3 (Value.ref.inj q)) (by decide) (by decide) ?_
      show Steps p.tables e below (T1.setTop (mkF m 7 #[.val (.ref a)] [])) _
      refine XS.aloadN X1.here hx rfl (hb hby d_prog_146_m_7_7) rfl rfl ?_
      show Steps p.tables e below (T1.setTop (mkF m 8 #[.val (.ref a)] [(.ref a)])) _
      refine st4 _ ?_
      show Steps p.tables e below (T4.setTop (mkF m 11 #[.val (.ref a)] [(.ref a_NOTATION), (.ref a)])) _
      exact kt
    by_cases hc11_6 : a = a_NOTATION
    · obtain ⟨fs, hr, hrun, hended, hW, hsame⟩ := X4.leave (v := some (.int (0 : Int32))) (fun h => by rw [Bd.returns] at h; cases h)
      refine ⟨_, _, pre0 _ (R2 _ (R5 _ ?_)), hrun, hended, _, _, rfl, ?_, ⟨_, rfl⟩, hW, hsame.mono (by decide) (by decide)⟩
      · show Steps p.tables e below (T4.setTop (mkF m 11 #[.val (.ref a)] [(.ref a_NOTATION), (.ref a)])) _
        refine Jvm.RoadKit.acmp (g := (mkF m 11 #[.val (.ref a)] [(.ref a_NOTATION), (.ref a)])) X4 hx rfl rfl rfl (pc0 := 11) (pc' := 18) (same := true) rfl (hb hby d_prog_146_m_7_11) rfl (decide_eq_true (congrArg Value.ref hc11_6)) (by decide) (by decide) ?_
        show Steps p.tables e below (T4.setTop (mkF m 18 #[.val (.ref a)] [])) _
        refine XS.iconst X4.here hx rfl (hb hby d_prog_146_m_7_18) ?_
        show Steps p.tables e below (T4.setTop (mkF m 19 #[.val (.ref a)] [(.int (0 : Int32))])) _
        exact retN X4 hx (t := .boolean) Bd.returns (by simp) (hb hby d_prog_146_m_7_19) hr
      · show QV (some (.int (if a = a_ANY_ATOMIC_TYPE ∨ a = a_NOTATION then 0 else 1))) h0 n0 _ T4.heap _
        rw [e4]
        exact ⟨by simp [hc4_3, hc11_6], N0, rfl⟩
    · obtain ⟨fs, hr, hrun, hended, hW, hsame⟩ := X4.leave (v := some (.int (1 : Int32))) (fun h => by rw [Bd.returns] at h; cases h)
      refine ⟨_, _, pre0 _ (R2 _ (R5 _ ?_)), hrun, hended, _, _, rfl, ?_, ⟨_, rfl⟩, hW, hsame.mono (by decide) (by decide)⟩
      · show Steps p.tables e below (T4.setTop (mkF m 11 #[.val (.ref a)] [(.ref a_NOTATION), (.ref a)])) _
        refine Jvm.RoadKit.acmp (g := (mkF m 11 #[.val (.ref a)] [(.ref a_NOTATION), (.ref a)])) X4 hx rfl rfl rfl (pc0 := 11) (pc' := 14) (same := false) rfl (hb hby d_prog_146_m_7_11) rfl (decide_eq_false fun q => hc11_6 (Value.ref.inj q)) (by decide) (by decide) ?_
        show Steps p.tables e below (T4.setTop (mkF m 14 #[.val (.ref a)] [])) _
        refine XS.iconst X4.here hx rfl (hb hby d_prog_146_m_7_14) ?_
        show Steps p.tables e below (T4.setTop (mkF m 15 #[.val (.ref a)] [(.int (1 : Int32))])) _
        refine XS.goto X4.here hx rfl (pc0 := 15) (pc' := 19) rfl (hb hby d_prog_146_m_7_15) (by decide) (by decide) ?_
        show Steps p.tables e below (T4.setTop (mkF m 19 #[.val (.ref a)] [(.int (1 : Int32))])) _
        exact retN X4 hx (t := .boolean) Bd.returns (by simp) (hb hby d_prog_146_m_7_19) hr
      · show QV (some (.int (if a = a_ANY_ATOMIC_TYPE ∨ a = a_NOTATION then 0 else 1))) h0 n0 _ T4.heap _
        rw [e4]
        exact ⟨by simp [hc4_3, hc11_6], N0, rfl⟩
theorem ef_rmP (m : MethodId) (x0 : Int32) : entryFrame m #[(.int x0)] 1 = mkF m 0 #[.val (.int x0)] [] := by first | (simp [entryFrame, mkF, argsToLocals, Value.category]; done) | rfl
set_option maxRecDepth 65536 in
set_option maxHeartbeats 40000000 in
theorem rmP (l : Launch) (Z : State) (a0 : Array Value) (hw : ∀ d ∈ tables_1, d.before a0 Z = true) (ws : List Jvm.Cond) (k : Int32) (a_ANY_ATOMIC_TYPE : Addr) (a_NUMERIC : Addr) (a_STRING : Addr) (a_UNTYPED_ATOMIC : Addr) (a_BOOLEAN : Addr) (a_NOTATION : Addr) (a_DECIMAL : Addr) (a_FLOAT : Addr) (a_DOUBLE : Addr) (a_INTEGER : Addr) (a_NON_POSITIVE_INTEGER : Addr) (a_NEGATIVE_INTEGER : Addr) (a_LONG : Addr) (a_INT : Addr) (a_SHORT : Addr) (a_BYTE : Addr) (a_NON_NEGATIVE_INTEGER : Addr) (a_UNSIGNED_LONG : Addr) (a_UNSIGNED_INT : Addr) (a_UNSIGNED_SHORT : Addr) (a_UNSIGNED_BYTE : Addr) (a_POSITIVE_INTEGER : Addr) (h0 : Heap) (n0 : Nat) (Z0 : n0 ≤ h0.size) (S_ANY_ATOMIC_TYPE : Sta Z h0 "com/example/abaco/abaco/core/AtomicType" "ANY_ATOMIC_TYPE" "Lcom/example/abaco/abaco/core/AtomicType;" (.ref a_ANY_ATOMIC_TYPE)) (S_NUMERIC : Sta Z h0 "com/example/abaco/abaco/core/AtomicType" "NUMERIC" "Lcom/example/abaco/abaco/core/AtomicType;" (.ref a_NUMERIC)) (S_STRING : Sta Z h0 "com/example/abaco/abaco/core/AtomicType" "STRING" "Lcom/example/abaco/abaco/core/AtomicType;" (.ref a_STRING)) (S_UNTYPED_ATOMIC : Sta Z h0 "com/example/abaco/abaco/core/AtomicType" "UNTYPED_ATOMIC" "Lcom/example/abaco/abaco/core/AtomicType;" (.ref a_UNTYPED_ATOMIC)) (S_BOOLEAN : Sta Z h0 "com/example/abaco/abaco/core/AtomicType" "BOOLEAN" "Lcom/example/abaco/abaco/core/AtomicType;" (.ref a_BOOLEAN)) (S_NOTATION : Sta Z h0 "com/example/abaco/abaco/core/AtomicType" "NOTATION" "Lcom/example/abaco/abaco/core/AtomicType;" (.ref a_NOTATION)) (S_DECIMAL : Sta Z h0 "com/example/abaco/abaco/core/AtomicType" "DECIMAL" "Lcom/example/abaco/abaco/core/AtomicType;" (.ref a_DECIMAL)) (S_FLOAT : Sta Z h0 "com/example/abaco/abaco/core/AtomicType" "FLOAT" "Lcom/example/abaco/abaco/core/AtomicType;" (.ref a_FLOAT)) (S_DOUBLE : Sta Z h0 "com/example/abaco/abaco/core/AtomicType" "DOUBLE" "Lcom/example/abaco/abaco/core/AtomicType;" (.ref a_DOUBLE)) (S_INTEGER : Sta Z h0 "com/example/abaco/abaco/core/AtomicType" "INTEGER" "Lcom/example/abaco/abaco/core/AtomicType;" (.ref a_INTEGER)) (S_NON_POSITIVE_INTEGER : Sta Z h0 "com/example/abaco/abaco/core/AtomicType" "NON_POSITIVE_INTEGER" "Lcom/example/abaco/abaco/core/AtomicType;" (.ref a_NON_POSITIVE_INTEGER)) (S_NEGATIVE_INTEGER : Sta Z h0 "com/example/abaco/abaco/core/AtomicType" "NEGATIVE_INTEGER" "Lcom/example/abaco/abaco/core/AtomicType;" (.ref a_NEGATIVE_INTEGER)) (S_LONG : Sta Z h0 "com/example/abaco/abaco/core/AtomicType" "LONG" "Lcom/example/abaco/abaco/core/AtomicType;" (.ref a_LONG)) (S_INT : Sta Z h0 "com/example/abaco/abaco/core/AtomicType" "INT" "Lcom/example/abaco/abaco/core/AtomicType;" (.ref a_INT)) (S_SHORT : Sta Z h0 "com/example/abaco/abaco/core/AtomicType" "SHORT" "Lcom/example/abaco/abaco/core/AtomicType;" (.ref a_SHORT)) (S_BYTE : Sta Z h0 "com/example/abaco/abaco/core/AtomicType" "BYTE" "Lcom/example/abaco/abaco/core/AtomicType;" (.ref a_BYTE)) (S_NON_NEGATIVE_INTEGER : Sta Z h0 "com/example/abaco/abaco/core/AtomicType" "NON_NEGATIVE_INTEGER" "Lcom/example/abaco/abaco/core/AtomicType;" (.ref a_NON_NEGATIVE_INTEGER)) (S_UNSIGNED_LONG : Sta Z h0 "com/example/abaco/abaco/core/AtomicType" "UNSIGNED_LONG" "Lcom/example/abaco/abaco/core/AtomicType;" (.ref a_UNSIGNED_LONG)) (S_UNSIGNED_INT : Sta Z h0 "com/example/abaco/abaco/core/AtomicType" "UNSIGNED_INT" "Lcom/example/abaco/abaco/core/AtomicType;" (.ref a_UNSIGNED_INT)) (S_UNSIGNED_SHORT : Sta Z h0 "com/example/abaco/abaco/core/AtomicType" "UNSIGNED_SHORT" "Lcom/example/abaco/abaco/core/AtomicType;" (.ref a_UNSIGNED_SHORT)) (S_UNSIGNED_BYTE : Sta Z h0 "com/example/abaco/abaco/core/AtomicType" "UNSIGNED_BYTE" "Lcom/example/abaco/abaco/core/AtomicType;" (.ref a_UNSIGNED_BYTE)) (S_POSITIVE_INTEGER : Sta Z h0 "com/example/abaco/abaco/core/AtomicType" "POSITIVE_INTEGER" "Lcom/example/abaco/abaco/core/AtomicType;" (.ref a_POSITIVE_INTEGER)) :
    MetFree l (⟨"com/example/abaco/abaco/core/AtomicTypeIsCastTargetPinLaw", "pick", "(I)Lcom/example/abaco/abaco/core/AtomicType;"⟩ : MethodName) (head1 (Jvm.Cond.code (⟨"com/example/abaco/abaco/core/AtomicTypeIsCastTargetPinLaw", "pick", "(I)Lcom/example/abaco/abaco/core/AtomicType;"⟩ : MethodName) method_3_code 1 (some (.object "com/example/abaco/abaco/core/AtomicType")) :: ws) ({ frames := 0, cells := 0, slots := 0, locals := 0 } : Room)) (fun aa_ UU_ => aa_ = #[(.int k)] ∧ Z.Warmed39 UU_.vm ∧ UU_.heap = h0) (fun _ _ _ _ _ => True) (fun _ UU_ oo_ UE_ => ∃ vv_ LL_, oo_ = .returned vv_ ∧ QV (some (.ref (if k = 0 then a_ANY_ATOMIC_TYPE else if k = 1 then a_NUMERIC else if k = 2 then a_STRING else if k = 3 then a_UNTYPED_ATOMIC else if k = 4 then a_BOOLEAN else if k = 5 then a_NOTATION else if k = 6 then a_DECIMAL else if k = 7 then a_FLOAT else if k = 8 then a_DOUBLE else if k = 9 then a_INTEGER else if k = 10 then a_NON_POSITIVE_INTEGER else if k = 11 then a_NEGATIVE_INTEGER else if k = 12 then a_LONG else if k = 13 then a_INT else if k = 14 then a_SHORT else if k = 15 then a_BYTE else if k = 16 then a_NON_NEGATIVE_INTEGER else if k = 17 then a_UNSIGNED_LONG else if k = 18 then a_UNSIGNED_INT else if k = 19 then a_UNSIGNED_SHORT else if k = 20 then a_UNSIGNED_BYTE else a_POSITIVE_INTEGER))) h0 n0 vv_ UE_.heap LL_ ∧ FrameEnd UU_ oo_ UE_ LL_ ({ frames := 0, cells := 0, slots := 0, locals := 0 } : Room).cells ({ frames := 0, cells := 0, slots := 0, locals := 0 } : Room).slots) := by
  refine MetFree.of_bodySF (plainFor_of_name pn_1) hisR ?_
  intro p e s m args below meth c s₁ Bd hml0 hP hK
  obtain ⟨rfl, hZ, hh⟩ := hP
  have hx := Bd.exec
  have hby := Bd.bytes
  have hml : c.maxLocals = 1 := hml0
  have hown : s.vm.findClass "com/example/abaco/abaco/core/AtomicTypeIsCastTargetPinLaw" = some m.cls := findClass_of_methodNamed Bd.named
  have hnm := (name_of_methodNamed Bd.named Bd.method).1
  have X0 : Stand p l e ({ frames := 0, cells := 0, slots := 0, locals := 0 } : Room) s m #[(.int k)] below meth c s₁ [] 0 0 := Stand.of_body Bd
  have e0 : s₁.heap = h0 := by rw [← hh, Bd.state]; rfl
  have N0 := Fr.nil n0
  have pre0 : ∀ tg, Steps p.tables e below (s₁.setTop (mkF m 0 #[.val (.int k)] [])) tg → Steps p.tables e below (s₁.setTop (entryFrame m #[(.int k)] 1)) tg := fun tg kq_ => castTop (ef_rmP m k) kq_
  have R1 : ∀ tg, Steps p.tables e below (s₁.setTop (mkF m 1 #[.val (.int k)] [(.int k)])) tg → Steps p.tables e below (s₁.setTop (mkF m 0 #[.val (.int k)] [])) tg := by
    intro tg kt
    refine XS.iloadN X0.here hx rfl (hb hby d_m_3_0) rfl ?_
    show Steps p.tables e below (s₁.setTop (mkF m 1 #[.val (.int k)] [(.int k)])) _
    exact kt
  by_cases hc1_2 : k = (0 : Int32)
  · obtain ⟨T3, X3, e3, st3⟩ := getS2 X0 hx hZ hown (host := "") (Or.inl (hw _ (List.mem_of_getElem? (i := 5) rfl))) Via.refl e0 S_ANY_ATOMIC_TYPE (g := (mkF m 4 #[.val (.int k)] [])) rfl (hb hby d_m_3_4)
    obtain ⟨fs, hr, hrun, hended, hW, hsame⟩ := X3.leave (v := some (.ref a_ANY_ATOMIC_TYPE)) (fun h => by rw [Bd.returns] at h; cases h)
    refine ⟨_, _, pre0 _ (R1 _ ?_), hrun, hended, _, _, rfl, ?_, ⟨_, rfl⟩, hW, hsame.mono (by decide) (by decide)⟩
    · show Steps p.tables e below (s₁.setTop (mkF m 1 #[.val (.int k)] [(.int k)])) _
      refine XS.ifNo X0.here hx rfl (hb hby d_m_3_1) rfl ((if0 _ _).trans (teq hc1_2).2) ?_
      show Steps p.tables e below (s₁.setTop (mkF m 4 #[.val (.int k)] [])) _
      refine st3 _ ?_
      show Steps p.tables e below (T3.setTop (mkF m 7 #[.val (.int k)] [(.ref a_ANY_ATOMIC_TYPE)])) _
      jvm_step X3.here [X3.here.top, hx, (hb hby d_m_3_7), X3.method', Bd.returns, Value.isRef, FieldType.isReference]
      first | (intro acts; rw [hr _ acts rfl rfl rfl]) | rw [hr _ _ rfl rfl rfl]
      exact Steps.refl _
    · show QV (some (.ref (if k = 0 then a_ANY_ATOMIC_TYPE else if k = 1 then a_NUMERIC else if k = 2 then a_STRING else if k = 3 then a_UNTYPED_ATOMIC else if k = 4 then a_BOOLEAN else if k = 5 then a_NOTATION else if k = 6 then a_DECIMAL else if k = 7 then a_FLOAT else if k = 8 then a_DOUBLE else if k = 9 then a_INTEGER else if k = 10 then a_NON_POSITIVE_INTEGER else if k = 11 then a_NEGATIVE_INTEGER else if k = 12 then a_LONG else if k = 13 then a_INT else if k = 14 then a_SHORT else if k = 15 then a_BYTE else if k = 16 then a_NON_NEGATIVE_INTEGER else if k = 17 then a_UNSIGNED_LONG else if k = 18 then a_UNSIGNED_INT else if k = 19 then a_UNSIGNED_SHORT else if k = 20 then a_UNSIGNED_BYTE else a_POSITIVE_INTEGER))) h0 n0 _ T3.heap _
      rw [e3]
      exact ⟨by simp [hc1_2], N0, rfl⟩
  · have R4 : ∀ tg, Steps p.tables e below (s₁.setTop (mkF m 10 #[.val (.int k)] [(.int (1 : Int32)), (.int k)])) tg → Steps p.tables e below (s₁.setTop (mkF m 1 #[.val (.int k)] [(.int k)])) tg := by
      intro tg kt
      refine XS.ifYes X0.here hx rfl (pc0 := 1) (pc' := 8) rfl (hb hby d_m_3_1) rfl ((if0 _ _).trans (feq hc1_2).2) (by decide) (by decide) ?_
      show Steps p.tables e below (s₁.setTop (mkF m 8 #[.val (.int k)] [])) _
      refine XS.iloadN X0.here hx rfl (hb hby d_m_3_8) rfl ?_
      show Steps p.tables e below (s₁.setTop (mkF m 9 #[.val (.int k)] [(.int k)])) _
      refine XS.iconst X0.here hx rfl (hb hby d_m_3_9) ?_
      show Steps p.tables e below (s₁.setTop (mkF m 10 #[.val (.int k)] [(.int (1 : Int32)), (.int k)])) _
      exact kt
    by_cases hc10_5 : k = (1 : Int32)
    · obtain ⟨T6, X6, e6, st6⟩ := getS2 X0 hx hZ hown (host := "") (Or.inl (hw _ (List.mem_of_getElem? (i := 28) rfl))) Via.refl e0 S_NUMERIC (g := (mkF m 13 #[.val (.int k)] [])) rfl (hb hby d_m_3_13)
      obtain ⟨fs, hr, hrun, hended, hW, hsame⟩ := X6.leave (v := some (.ref a_NUMERIC)) (fun h => by rw [Bd.returns] at h; cases h)
      refine ⟨_, _, pre0 _ (R1 _ (R4 _ ?_)), hrun, hended, _, _, rfl, ?_, ⟨_, rfl⟩, hW, hsame.mono (by decide) (by decide)⟩
      · show Steps p.tables e below (s₁.setTop (mkF m 10 #[.val (.int k)] [(.int (1 : Int32)), (.int k)])) _
        refine XS.icmpNo X0.here hx rfl (hb hby d_m_3_10) rfl (teq hc10_5).2 ?_
        show Steps p.tables e below (s₁.setTop (mkF m 13 #[.val (.int k)] [])) _
        refine st6 _ ?_
        show Steps p.tables e below (T6.setTop (mkF m 16 #[.val (.int k)] [(.ref a_NUMERIC)])) _
        jvm_step X6.here [X6.here.top, hx, (hb hby d_m_3_16), X6.method', Bd.returns, Value.isRef, FieldType.isReference]
        first | (intro acts; rw [hr _ acts rfl rfl rfl]) | rw [hr _ _ rfl rfl rfl]
        exact Steps.refl _
      · show QV (some (.ref (if k = 0 then a_ANY_ATOMIC_TYPE else if k = 1 then a_NUMERIC else if k = 2 then a_STRING else if k = 3 then a_UNTYPED_ATOMIC else if k = 4 then a_BOOLEAN else if k = 5 then a_NOTATION else if k = 6 then a_DECIMAL else if k = 7 then a_FLOAT else if k = 8 then a_DOUBLE else if k = 9 then a_INTEGER else if k = 10 then a_NON_POSITIVE_INTEGER else if k = 11 then a_NEGATIVE_INTEGER else if k = 12 then a_LONG else if k = 13 then a_INT else if k = 14 then a_SHORT else if k = 15 then a_BYTE else if k = 16 then a_NON_NEGATIVE_INTEGER else if k = 17 then a_UNSIGNED_LONG else if k = 18 then a_UNSIGNED_INT else if k = 19 then a_UNSIGNED_SHORT else if k = 20 then a_UNSIGNED_BYTE else a_POSITIVE_INTEGER))) h0 n0 _ T6.heap _
        rw [e6]
        exact ⟨by simp [hc1_2, hc10_5], N0, rfl⟩
    · have R7 : ∀ tg, Steps p.tables e below (s₁.setTop (mkF m 19 #[.val (.int k)] [(.int (2 : Int32)), (.int k)])) tg → Steps p.tables e below (s₁.setTop (mkF m 10 #[.val (.int k)] [(.int (1 : Int32)), (.int k)])) tg := by
        intro tg kt
        refine XS.icmpYes X0.here hx rfl (pc0 := 10) (pc' := 17) rfl (hb hby d_m_3_10) rfl (feq hc10_5).2 (by decide) (by decide) ?_
        show Steps p.tables e below (s₁.setTop (mkF m 17 #[.val (.int k)] [])) _
        refine XS.iloadN X0.here hx rfl (hb hby d_m_3_17) rfl ?_
        show Steps p.tables e below (s₁.setTop (mkF m 18 #[.val (.int k)] [(.int k)])) _
        refine XS.iconst X0.here hx rfl (hb hby d_m_3_18) ?_
        show Steps p.tables e below (s₁.setTop (mkF m 19 #[.val (.int k)] [(.int (2 : Int32)), (.int k)])) _
        exact kt
      by_cases hc19_8 : k = (2 : Int32)
      · obtain ⟨T9, X9, e9, st9⟩ := getS2 X0 hx hZ hown (host := "") (Or.inl (hw _ (List.mem_of_getElem? (i := 22) rfl))) Via.refl e0 S_STRING (g := (mkF m 22 #[.val (.int k)] [])) rfl (hb hby d_m_3_22)
        obtain ⟨fs, hr, hrun, hended, hW, hsame⟩ := X9.leave (v := some (.ref a_STRING)) (fun h => by rw [Bd.returns] at h; cases h)
        refine ⟨_, _, pre0 _ (R1 _ (R4 _ (R7 _ ?_))), hrun, hended, _, _, rfl, ?_, ⟨_, rfl⟩, hW, hsame.mono (by decide) (by decide)⟩
        · show Steps p.tables e below (s₁.setTop (mkF m 19 #[.val (.int k)] [(.int (2 : Int32)), (.int k)])) _
          refine XS.icmpNo X0.here hx rfl (hb hby d_m_3_19) rfl (teq hc19_8).2 ?_
          show Steps p.tables e below (s₁.setTop (mkF m 22 #[.val (.int k)] [])) _
          refine st9 _ ?_
          show Steps p.tables e below (T9.setTop (mkF m 25 #[.val (.int k)] [(.ref a_STRING)])) _
          jvm_step X9.here [X9.here.top, hx, (hb hby d_m_3_25), X9.method', Bd.returns, Value.isRef, FieldType.isReference]
          first | (intro acts; rw [hr _ acts rfl rfl rfl]) | rw [hr _ _ rfl rfl rfl]
          exact Steps.refl _
        · show QV (some (.ref (if k = 0 then a_ANY_ATOMIC_TYPE else if k = 1 then a_NUMERIC else if k = 2 then a_STRING else if k = 3 then a_UNTYPED_ATOMIC else if k = 4 then a_BOOLEAN else if k = 5 then a_NOTATION else if k = 6 then a_DECIMAL else if k = 7 then a_FLOAT else if k = 8 then a_DOUBLE else if k = 9 then a_INTEGER else if k = 10 then a_NON_POSITIVE_INTEGER else if k = 11 then a_NEGATIVE_INTEGER else if k = 12 then a_LONG else if k = 13 then a_INT else if k = 14 then a_SHORT else if k = 15 then a_BYTE else if k = 16 then a_NON_NEGATIVE_INTEGER else if k = 17 then a_UNSIGNED_LONG else if k = 18 then a_UNSIGNED_INT else if k = 19 then a_UNSIGNED_SHORT else if k = 20 then a_UNSIGNED_BYTE else a_POSITIVE_INTEGER))) h0 n0 _ T9.heap _
          rw [e9]
          exact ⟨by simp [hc1_2, hc10_5, hc19_8], N0, rfl⟩
      · have R10 : ∀ tg, Steps p.tables e below (s₁.setTop (mkF m 28 #[.val (.int k)] [(.int (3 : Int32)), (.int k)])) tg → Steps p.tables e below (s₁.setTop (mkF m 19 #[.val (.int k)] [(.int (2 : Int32)), (.int k)])) tg := by
          intro tg kt
          refine XS.icmpYes X0.here hx rfl (pc0 := 19) (pc' := 26) rfl (hb hby d_m_3_19) rfl (feq hc19_8).2 (by decide) (by decide) ?_
          show Steps p.tables e below (s₁.setTop (mkF m 26 #[.val (.int k)] [])) _
          refine XS.iloadN X0.here hx rfl (hb hby d_m_3_26) rfl ?_
          show Steps p.tables e below (s₁.setTop (mkF m 27 #[.val (.int k)] [(.int k)])) _
          refine XS.iconst X0.here hx rfl (hb hby d_m_3_27) ?_
          show Steps p.tables e below (s₁.setTop (mkF m 28 #[.val (.int k)] [(.int (3 : Int32)), (.int k)])) _
          exact kt
        by_cases hc28_11 : k = (3 : Int32)
        · obtain ⟨T12, X12, e12, st12⟩ := getS2 X0 hx hZ hown (host := "") (Or.inl (hw _ (List.mem_of_getElem? (i := 14) rfl))) Via.refl e0 S_UNTYPED_ATOMIC (g := (mkF m 31 #[.val (.int k)] [])) rfl (hb hby d_m_3_31)
          obtain ⟨fs, hr, hrun, hended, hW, hsame⟩ := X12.leave (v := some (.ref a_UNTYPED_ATOMIC)) (fun h => by rw [Bd.returns] at h; cases h)
          refine ⟨_, _, pre0 _ (R1 _ (R4 _ (R7 _ (R10 _ ?_)))), hrun, hended, _, _, rfl, ?_, ⟨_, rfl⟩, hW, hsame.mono (by decide) (by decide)⟩
          · show Steps p.tables e below (s₁.setTop (mkF m 28 #[.val (.int k)] [(.int (3 : Int32)), (.int k)])) _
            refine XS.icmpNo X0.here hx rfl (hb hby d_m_3_28) rfl (teq hc28_11).2 ?_
            show Steps p.tables e below (s₁.setTop (mkF m 31 #[.val (.int k)] [])) _
            refine st12 _ ?_
            show Steps p.tables e below (T12.setTop (mkF m 34 #[.val (.int k)] [(.ref a_UNTYPED_ATOMIC)])) _
            jvm_step X12.here [X12.here.top, hx, (hb hby d_m_3_34), X12.method', Bd.returns, Value.isRef, FieldType.isReference]
            first | (intro acts; rw [hr _ acts rfl rfl rfl]) | rw [hr _ _ rfl rfl rfl]
            exact Steps.refl _
          · show QV (some (.ref (if k = 0 then a_ANY_ATOMIC_TYPE else if k = 1 then a_NUMERIC else if k = 2 then a_STRING else if k = 3 then a_UNTYPED_ATOMIC else if k = 4 then a_BOOLEAN else if k = 5 then a_NOTATION else if k = 6 then a_DECIMAL else if k = 7 then a_FLOAT else if k = 8 then a_DOUBLE else if k = 9 then a_INTEGER else if k = 10 then a_NON_POSITIVE_INTEGER else if k = 11 then a_NEGATIVE_INTEGER else if k = 12 then a_LONG else if k = 13 then a_INT else if k = 14 then a_SHORT else if k = 15 then a_BYTE else if k = 16 then a_NON_NEGATIVE_INTEGER else if k = 17 then a_UNSIGNED_LONG else if k = 18 then a_UNSIGNED_INT else if k = 19 then a_UNSIGNED_SHORT else if k = 20 then a_UNSIGNED_BYTE else a_POSITIVE_INTEGER))) h0 n0 _ T12.heap _
            rw [e12]
            exact ⟨by simp [hc1_2, hc10_5, hc19_8, hc28_11], N0, rfl⟩
        · have R13 : ∀ tg, Steps p.tables e below (s₁.setTop (mkF m 37 #[.val (.int k)] [(.int (4 : Int32)), (.int k)])) tg → Steps p.tables e below (s₁.setTop (mkF m 28 #[.val (.int k)] [(.int (3 : Int32)), (.int k)])) tg := by
            intro tg kt
            refine XS.icmpYes X0.here hx rfl (pc0 := 28) (pc' := 35) rfl (hb hby d_m_3_28) rfl (feq hc28_11).2 (by decide) (by decide) ?_
            show Steps p.tables e below (s₁.setTop (mkF m 35 #[.val (.int k)] [])) _
            refine XS.iloadN X0.here hx rfl (hb hby d_m_3_35) rfl ?_
            show Steps p.tables e below (s₁.setTop (mkF m 36 #[.val (.int k)] [(.int k)])) _
            refine XS.iconst X0.here hx rfl (hb hby d_m_3_36) ?_
            show Steps p.tables e below (s₁.setTop (mkF m 37 #[.val (.int k)] [(.int (4 : Int32)), (.int k)])) _
            exact kt
          by_cases hc37_14 : k = (4 : Int32)
          · obtain ⟨T15, X15, e15, st15⟩ := getS2 X0 hx hZ hown (host := "") (Or.inl (hw _ (List.mem_of_getElem? (i := 43) rfl))) Via.refl e0 S_BOOLEAN (g := (mkF m 40 #[.val (.int k)] [])) rfl (hb hby d_m_3_40)
            obtain ⟨fs, hr, hrun, hended, hW, hsame⟩ := X15.leave (v := some (.ref a_BOOLEAN)) (fun h => by rw [Bd.returns] at h; cases h)
            refine ⟨_, _, pre0 _ (R1 _ (R4 _ (R7 _ (R10 _ (R13 _ ?_))))), hrun, hended, _, _, rfl, ?_, ⟨_, rfl⟩, hW, hsame.mono (by decide) (by decide)⟩
            · show Steps p.tables e below (s₁.setTop (mkF m 37 #[.val (.int k)] [(.int (4 : Int32)), (.int k)])) _
              refine XS.icmpNo X0.here hx rfl (hb hby d_m_3_37) rfl (teq hc37_14).2 ?_
              show Steps p.tables e below (s₁.setTop (mkF m 40 #[.val (.int k)] [])) _
              refine st15 _ ?_
              show Steps p.tables e below (T15.setTop (mkF m 43 #[.val (.int k)] [(.ref a_BOOLEAN)])) _
              jvm_step X15.here [X15.here.top, hx, (hb hby d_m_3_43), X15.method', Bd.returns, Value.isRef, FieldType.isReference]
              first | (intro acts; rw [hr _ acts rfl rfl rfl]) | rw [hr _ _ rfl rfl rfl]
              exact Steps.refl _
            · show QV (some (.ref (if k = 0 then a_ANY_ATOMIC_TYPE else if k = 1 then a_NUMERIC else if k = 2 then a_STRING else if k = 3 then a_UNTYPED_ATOMIC else if k = 4 then a_BOOLEAN else if k = 5 then a_NOTATION else if k = 6 then a_DECIMAL else if k = 7 then a_FLOAT else if k = 8 then a_DOUBLE else if k = 9 then a_INTEGER else if k = 10 then a_NON_POSITIVE_INTEGER else if k = 11 then a_NEGATIVE_INTEGER else if k = 12 then a_LONG else if k = 13 then a_INT else if k = 14 then a_SHORT else if k = 15 then a_BYTE else if k = 16 then a_NON_NEGATIVE_INTEGER else if k = 17 then a_UNSIGNED_LONG else if k = 18 then a_UNSIGNED_INT else if k = 19 then a_UNSIGNED_SHORT else if k = 20 then a_UNSIGNED_BYTE else a_POSITIVE_INTEGER))) h0 n0 _ T15.heap _
              rw [e15]
              exact ⟨by simp [hc1_2, hc10_5, hc19_8, hc28_11, hc37_14], N0, rfl⟩
          · have R16 : ∀ tg, Steps p.tables e below (s₁.setTop (mkF m 46 #[.val (.int k)] [(.int (5 : Int32)), (.int k)])) tg → Steps p.tables e below (s₁.setTop (mkF m 37 #[.val (.int k)] [(.int (4 : Int32)), (.int k)])) tg := by
              intro tg kt
              refine XS.icmpYes X0.here hx rfl (pc0 := 37) (pc' := 44) rfl (hb hby d_m_3_37) rfl (feq hc37_14).2 (by decide) (by decide) ?_
              show Steps p.tables e below (s₁.setTop (mkF m 44 #[.val (.int k)] [])) _
              refine XS.iloadN X0.here hx rfl (hb hby d_m_3_44) rfl ?_
              show Steps p.tables e below (s₁.setTop (mkF m 45 #[.val (.int k)] [(.int k)])) _
              refine XS.iconst X0.here hx rfl (hb hby d_m_3_45) ?_
              show Steps p.tables e below (s₁.setTop (mkF m 46 #[.val (.int k)] [(.int (5 : Int32)), (.int k)])) _
              exact kt
            by_cases hc46_17 : k = (5 : Int32)
            · obtain ⟨T18, X18, e18, st18⟩ := getS2 X0 hx hZ hown (host := "") (Or.inl (hw _ (List.mem_of_getElem? (i := 32) rfl))) Via.refl e0 S_NOTATION (g := (mkF m 49 #[.val (.int k)] [])) rfl (hb hby d_m_3_49)
              obtain ⟨fs, hr, hrun, hended, hW, hsame⟩ := X18.leave (v := some (.ref a_NOTATION)) (fun h => by rw [Bd.returns] at h; cases h)
              refine ⟨_, _, pre0 _ (R1 _ (R4 _ (R7 _ (R10 _ (R13 _ (R16 _ ?_)))))), hrun, hended, _, _, rfl, ?_, ⟨_, rfl⟩, hW, hsame.mono (by decide) (by decide)⟩
              · show Steps p.tables e below (s₁.setTop (mkF m 46 #[.val (.int k)] [(.int (5 : Int32)), (.int k)])) _
                refine XS.icmpNo X0.here hx rfl (hb hby d_m_3_46) rfl (teq hc46_17).2 ?_
                show Steps p.tables e below (s₁.setTop (mkF m 49 #[.val (.int k)] [])) _
                refine st18 _ ?_
                show Steps p.tables e below (T18.setTop (mkF m 52 #[.val (.int k)] [(.ref a_NOTATION)])) _
                jvm_step X18.here [X18.here.top, hx, (hb hby d_m_3_52), X18.method', Bd.returns, Value.isRef, FieldType.isReference]
                first | (intro acts; rw [hr _ acts rfl rfl rfl]) | rw [hr _ _ rfl rfl rfl]
                exact Steps.refl _
              · show QV (some (.ref (if k = 0 then a_ANY_ATOMIC_TYPE else if k = 1 then a_NUMERIC else if k = 2 then a_STRING else if k = 3 then a_UNTYPED_ATOMIC else if k = 4 then a_BOOLEAN else if k = 5 then a_NOTATION else if k = 6 then a_DECIMAL else if k = 7 then a_FLOAT else if k = 8 then a_DOUBLE else if k = 9 then a_INTEGER else if k = 10 then a_NON_POSITIVE_INTEGER else if k = 11 then a_NEGATIVE_INTEGER else if k = 12 then a_LONG else if k = 13 then a_INT else if k = 14 then a_SHORT else if k = 15 then a_BYTE else if k = 16 then a_NON_NEGATIVE_INTEGER else if k = 17 then a_UNSIGNED_LONG else if k = 18 then a_UNSIGNED_INT else if k = 19 then a_UNSIGNED_SHORT else if k = 20 then a_UNSIGNED_BYTE else a_POSITIVE_INTEGER))) h0 n0 _ T18.heap _
                rw [e18]
                exact ⟨by simp [hc1_2, hc10_5, hc19_8, hc28_11, hc37_14, hc46_17], N0, rfl⟩
            · have R19 : ∀ tg, Steps p.tables e below (s₁.setTop (mkF m 56 #[.val (.int k)] [(.int (6 : Int32)), (.int k)])) tg → Steps p.tables e below (s₁.setTop (mkF m 46 #[.val (.int k)] [(.int (5 : Int32)), (.int k)])) tg := by
                intro tg kt
                refine XS.icmpYes X0.here hx rfl (pc0 := 46) (pc' := 53) rfl (hb hby d_m_3_46) rfl (feq hc46_17).2 (by decide) (by decide) ?_
                show Steps p.tables e below (s₁.setTop (mkF m 53 #[.val (.int k)] [])) _
                refine XS.iloadN X0.here hx rfl (hb hby d_m_3_53) rfl ?_
                show Steps p.tables e below (s₁.setTop (mkF m 54 #[.val (.int k)] [(.int k)])) _
                refine XS.bipush X0.here hx rfl (hb hby d_m_3_54) ?_
                show Steps p.tables e below (s₁.setTop (mkF m 56 #[.val (.int k)] [(.int (6 : Int32)), (.int k)])) _
                exact kt
              by_cases hc56_20 : k = (6 : Int32)
              · obtain ⟨T21, X21, e21, st21⟩ := getS2 X0 hx hZ hown (host := "") (Or.inl (hw _ (List.mem_of_getElem? (i := 35) rfl))) Via.refl e0 S_DECIMAL (g := (mkF m 59 #[.val (.int k)] [])) rfl (hb hby d_m_3_59)
                obtain ⟨fs, hr, hrun, hended, hW, hsame⟩ := X21.leave (v := some (.ref a_DECIMAL)) (fun h => by rw [Bd.returns] at h; cases h)
                refine ⟨_, _, pre0 _ (R1 _ (R4 _ (R7 _ (R10 _ (R13 _ (R16 _ (R19 _ ?_))))))), hrun, hended, _, _, rfl, ?_, ⟨_, rfl⟩, hW, hsame.mono (by decide) (by decide)⟩
                · show Steps p.tables e below (s₁.setTop (mkF m 56 #[.val (.int k)] [(.int (6 : Int32)), (.int k)])) _
                  refine XS.icmpNo X0.here hx rfl (hb hby d_m_3_56) rfl (teq hc56_20).2 ?_
                  show Steps p.tables e below (s₁.setTop (mkF m 59 #[.val (.int k)] [])) _
                  refine st21 _ ?_
                  show Steps p.tables e below (T21.setTop (mkF m 62 #[.val (.int k)] [(.ref a_DECIMAL)])) _
                  jvm_step X21.here [X21.here.top, hx, (hb hby d_m_3_62), X21.method', Bd.returns, Value.isRef, FieldType.isReference]
                  first | (intro acts; rw [hr _ acts rfl rfl rfl]) | rw [hr _ _ rfl rfl rfl]
                  exact Steps.refl _
                · show QV (some (.ref (if k = 0 then a_ANY_ATOMIC_TYPE else if k = 1 then a_NUMERIC else if k = 2 then a_STRING else if k = 3 then a_UNTYPED_ATOMIC else if k = 4 then a_BOOLEAN else if k = 5 then a_NOTATION else if k = 6 then a_DECIMAL else if k = 7 then a_FLOAT else if k = 8 then a_DOUBLE else if k = 9 then a_INTEGER else if k = 10 then a_NON_POSITIVE_INTEGER else if k = 11 then a_NEGATIVE_INTEGER else if k = 12 then a_LONG else if k = 13 then a_INT else if k = 14 then a_SHORT else if k = 15 then a_BYTE else if k = 16 then a_NON_NEGATIVE_INTEGER else if k = 17 then a_UNSIGNED_LONG else if k = 18 then a_UNSIGNED_INT else if k = 19 then a_UNSIGNED_SHORT else if k = 20 then a_UNSIGNED_BYTE else a_POSITIVE_INTEGER))) h0 n0 _ T21.heap _
                  rw [e21]
                  exact ⟨by simp [hc1_2, hc10_5, hc19_8, hc28_11, hc37_14, hc46_17, hc56_20], N0, rfl⟩
              · have R22 : ∀ tg, Steps p.tables e below (s₁.setTop (mkF m 66 #[.val (.int k)] [(.int (7 : Int32)), (.int k)])) tg → Steps p.tables e below (s₁.setTop (mkF m 56 #[.val (.int k)] [(.int (6 : Int32)), (.int k)])) tg := by
                  intro tg kt
                  refine XS.icmpYes X0.here hx rfl (pc0 := 56) (pc' := 63) rfl (hb hby d_m_3_56) rfl (feq hc56_20).2 (by decide) (by decide) ?_
                  show Steps p.tables e below (s₁.setTop (mkF m 63 #[.val (.int k)] [])) _
                  refine XS.iloadN X0.here hx rfl (hb hby d_m_3_63) rfl ?_
                  show Steps p.tables e below (s₁.setTop (mkF m 64 #[.val (.int k)] [(.int k)])) _
                  refine XS.bipush X0.here hx rfl (hb hby d_m_3_64) ?_
                  show Steps p.tables e below (s₁.setTop (mkF m 66 #[.val (.int k)] [(.int (7 : Int32)), (.int k)])) _
                  exact kt
                by_cases hc66_23 : k = (7 : Int32)
                · obtain ⟨T24, X24, e24, st24⟩ := getS2 X0 hx hZ hown (host := "") (Or.inl (hw _ (List.mem_of_getElem? (i := 18) rfl))) Via.refl e0 S_FLOAT (g := (mkF m 69 #[.val (.int k)] [])) rfl (hb hby d_m_3_69)
                  obtain ⟨fs, hr, hrun, hended, hW, hsame⟩ := X24.leave (v := some (.ref a_FLOAT)) (fun h => by rw [Bd.returns] at h; cases h)
                  refine ⟨_, _, pre0 _ (R1 _ (R4 _ (R7 _ (R10 _ (R13 _ (R16 _ (R19 _ (R22 _ ?_)))))))), hrun, hended, _, _, rfl, ?_, ⟨_, rfl⟩, hW, hsame.mono (by decide) (by decide)⟩
                  · show Steps p.tables e below (s₁.setTop (mkF m 66 #[.val (.int k)] [(.int (7 : Int32)), (.int k)])) _
                    refine XS.icmpNo X0.here hx rfl (hb hby d_m_3_66) rfl (teq hc66_23).2 ?_
                    show Steps p.tables e below (s₁.setTop (mkF m 69 #[.val (.int k)] [])) _
                    refine st24 _ ?_
                    show Steps p.tables e below (T24.setTop (mkF m 72 #[.val (.int k)] [(.ref a_FLOAT)])) _
                    jvm_step X24.here [X24.here.top, hx, (hb hby d_m_3_72), X24.method', Bd.returns, Value.isRef, FieldType.isReference]
                    first | (intro acts; rw [hr _ acts rfl rfl rfl]) | rw [hr _ _ rfl rfl rfl]
                    exact Steps.refl _
                  · show QV (some (.ref (if k = 0 then a_ANY_ATOMIC_TYPE else if k = 1 then a_NUMERIC else if k = 2 then a_STRING else if k = 3 then a_UNTYPED_ATOMIC else if k = 4 then a_BOOLEAN else if k = 5 then a_NOTATION else if k = 6 then a_DECIMAL else if k = 7 then a_FLOAT else if k = 8 then a_DOUBLE else if k = 9 then a_INTEGER else if k = 10 then a_NON_POSITIVE_INTEGER else if k = 11 then a_NEGATIVE_INTEGER else if k = 12 then a_LONG else if k = 13 then a_INT else if k = 14 then a_SHORT else if k = 15 then a_BYTE else if k = 16 then a_NON_NEGATIVE_INTEGER else if k = 17 then a_UNSIGNED_LONG else if k = 18 then a_UNSIGNED_INT else if k = 19 then a_UNSIGNED_SHORT else if k = 20 then a_UNSIGNED_BYTE else a_POSITIVE_INTEGER))) h0 n0 _ T24.heap _
                    rw [e24]
                    exact ⟨by simp [hc1_2, hc10_5, hc19_8, hc28_11, hc37_14, hc46_17, hc56_20, hc66_23], N0, rfl⟩
                · have R25 : ∀ tg, Steps p.tables e below (s₁.setTop (mkF m 76 #[.val (.int k)] [(.int (8 : Int32)), (.int k)])) tg → Steps p.tables e below (s₁.setTop (mkF m 66 #[.val (.int k)] [(.int (7 : Int32)), (.int k)])) tg := by
                    intro tg kt
                    refine XS.icmpYes X0.here hx rfl (pc0 := 66) (pc' := 73) rfl (hb hby d_m_3_66) rfl (feq hc66_23).2 (by decide) (by decide) ?_
                    show Steps p.tables e below (s₁.setTop (mkF m 73 #[.val (.int k)] [])) _
                    refine XS.iloadN X0.here hx rfl (hb hby d_m_3_73) rfl ?_
                    show Steps p.tables e below (s₁.setTop (mkF m 74 #[.val (.int k)] [(.int k)])) _
                    refine XS.bipush X0.here hx rfl (hb hby d_m_3_74) ?_
                    show Steps p.tables e below (s₁.setTop (mkF m 76 #[.val (.int k)] [(.int (8 : Int32)), (.int k)])) _
                    exact kt
                  by_cases hc76_26 : k = (8 : Int32)
                  · obtain ⟨T27, X27, e27, st27⟩ := getS2 X0 hx hZ hown (host := "") (Or.inl (hw _ (List.mem_of_getElem? (i := 20) rfl))) Via.refl e0 S_DOUBLE (g := (mkF m 79 #[.val (.int k)] [])) rfl (hb hby d_m_3_79)
                    obtain ⟨fs, hr, hrun, hended, hW, hsame⟩ := X27.leave (v := some (.ref a_DOUBLE)) (fun h => by rw [Bd.returns] at h; cases h)
                    refine ⟨_, _, pre0 _ (R1 _ (R4 _ (R7 _ (R10 _ (R13 _ (R16 _ (R19 _ (R22 _ (R25 _ ?_))))))))), hrun, hended, _, _, rfl, ?_, ⟨_, rfl⟩, hW, hsame.mono (by decide) (by decide)⟩
                    · show Steps p.tables e below (s₁.setTop (mkF m 76 #[.val (.int k)] [(.int (8 : Int32)), (.int k)])) _
                      refine XS.icmpNo X0.here hx rfl (hb hby d_m_3_76) rfl (teq hc76_26).2 ?_
                      show Steps p.tables e below (s₁.setTop (mkF m 79 #[.val (.int k)] [])) _
                      refine st27 _ ?_
                      show Steps p.tables e below (T27.setTop (mkF m 82 #[.val (.int k)] [(.ref a_DOUBLE)])) _
                      jvm_step X27.here [X27.here.top, hx, (hb hby d_m_3_82), X27.method', Bd.returns, Value.isRef, FieldType.isReference]
                      first | (intro acts; rw [hr _ acts rfl rfl rfl]) | rw [hr _ _ rfl rfl rfl]
                      exact Steps.refl _
                    · show QV (some (.ref (if k = 0 then a_ANY_ATOMIC_TYPE else if k = 1 then a_NUMERIC else if k = 2 then a_STRING else if k = 3 then a_UNTYPED_ATOMIC else if k = 4 then a_BOOLEAN else if k = 5 then a_NOTATION else if k = 6 then a_DECIMAL else if k = 7 then a_FLOAT else if k = 8 then a_DOUBLE else if k = 9 then a_INTEGER else if k = 10 then a_NON_POSITIVE_INTEGER else if k = 11 then a_NEGATIVE_INTEGER else if k = 12 then a_LONG else if k = 13 then a_INT else if k = 14 then a_SHORT else if k = 15 then a_BYTE else if k = 16 then a_NON_NEGATIVE_INTEGER else if k = 17 then a_UNSIGNED_LONG else if k = 18 then a_UNSIGNED_INT else if k = 19 then a_UNSIGNED_SHORT else if k = 20 then a_UNSIGNED_BYTE else a_POSITIVE_INTEGER))) h0 n0 _ T27.heap _
                      rw [e27]
                      exact ⟨by simp [hc1_2, hc10_5, hc19_8, hc28_11, hc37_14, hc46_17, hc56_20, hc66_23, hc76_26], N0, rfl⟩
                  · have R28 : ∀ tg, Steps p.tables e below (s₁.setTop (mkF m 86 #[.val (.int k)] [(.int (9 : Int32)), (.int k)])) tg → Steps p.tables e below (s₁.setTop (mkF m 76 #[.val (.int k)] [(.int (8 : Int32)), (.int k)])) tg := by
                      intro tg kt
                      refine XS.icmpYes X0.here hx rfl (pc0 := 76) (pc' := 83) rfl (hb hby d_m_3_76) rfl (feq hc76_26).2 (by decide) (by decide) ?_
                      show Steps p.tables e below (s₁.setTop (mkF m 83 #[.val (.int k)] [])) _
                      refine XS.iloadN X0.here hx rfl (hb hby d_m_3_83) rfl ?_
                      show Steps p.tables e below (s₁.setTop (mkF m 84 #[.val (.int k)] [(.int k)])) _
                      refine XS.bipush X0.here hx rfl (hb hby d_m_3_84) ?_
                      show Steps p.tables e below (s₁.setTop (mkF m 86 #[.val (.int k)] [(.int (9 : Int32)), (.int k)])) _
                      exact kt
                    by_cases hc86_29 : k = (9 : Int32)
                    · obtain ⟨T30, X30, e30, st30⟩ := getS2 X0 hx hZ hown (host := "") (Or.inl (hw _ (List.mem_of_getElem? (i := 30) rfl))) Via.refl e0 S_INTEGER (g := (mkF m 89 #[.val (.int k)] [])) rfl (hb hby d_m_3_89)
                      obtain ⟨fs, hr, hrun, hended, hW, hsame⟩ := X30.leave (v := some (.ref a_INTEGER)) (fun h => by rw [Bd.returns] at h; cases h)
                      refine ⟨_, _, pre0 _ (R1 _ (R4 _ (R7 _ (R10 _ (R13 _ (R16 _ (R19 _ (R22 _ (R25 _ (R28 _ ?_)))))))))), hrun, hended, _, _, rfl, ?_, ⟨_, rfl⟩, hW, hsame.mono (by decide) (by decide)⟩
                      · show Steps p.tables e below (s₁.setTop (mkF m 86 #[.val (.int k)] [(.int (9 : Int32)), (.int k)])) _
                        refine XS.icmpNo X0.here hx rfl (hb hby d_m_3_86) rfl (teq hc86_29).2 ?_
                        show Steps p.tables e below (s₁.setTop (mkF m 89 #[.val (.int k)] [])) _
                        refine st30 _ ?_
                        show Steps p.tables e below (T30.setTop (mkF m 92 #[.val (.int k)] [(.ref a_INTEGER)])) _
                        jvm_step X30.here [X30.here.top, hx, (hb hby d_m_3_92), X30.method', Bd.returns, Value.isRef, FieldType.isReference]
                        first | (intro acts; rw [hr _ acts rfl rfl rfl]) | rw [hr _ _ rfl rfl rfl]
                        exact Steps.refl _
                      · show QV (some (.ref (if k = 0 then a_ANY_ATOMIC_TYPE else if k = 1 then a_NUMERIC else if k = 2 then a_STRING else if k = 3 then a_UNTYPED_ATOMIC else if k = 4 then a_BOOLEAN else if k = 5 then a_NOTATION else if k = 6 then a_DECIMAL else if k = 7 then a_FLOAT else if k = 8 then a_DOUBLE else if k = 9 then a_INTEGER else if k = 10 then a_NON_POSITIVE_INTEGER else if k = 11 then a_NEGATIVE_INTEGER else if k = 12 then a_LONG else if k = 13 then a_INT else if k = 14 then a_SHORT else if k = 15 then a_BYTE else if k = 16 then a_NON_NEGATIVE_INTEGER else if k = 17 then a_UNSIGNED_LONG else if k = 18 then a_UNSIGNED_INT else if k = 19 then a_UNSIGNED_SHORT else if k = 20 then a_UNSIGNED_BYTE else a_POSITIVE_INTEGER))) h0 n0 _ T30.heap _
                        rw [e30]
                        exact ⟨by simp [hc1_2, hc10_5, hc19_8, hc28_11, hc37_14, hc46_17, hc56_20, hc66_23, hc76_26, hc86_29], N0, rfl⟩
                    · have R31 : ∀ tg, Steps p.tables e below (s₁.setTop (mkF m 96 #[.val (.int k)] [(.int (10 : Int32)), (.int k)])) tg → Steps p.tables e below (s₁.setTop (mkF m 86 #[.val (.int k)] [(.int (9 : Int32)), (.int k)])) tg := by
                        intro tg kt
                        refine XS.icmpYes X0.here hx rfl (pc0 := 86) (pc' := 93) rfl (hb hby d_m_3_86) rfl (feq hc86_29).2 (by decide) (by decide) ?_
                        show Steps p.tables e below (s₁.setTop (mkF m 93 #[.val (.int k)] [])) _
                        refine XS.iloadN X0.here hx rfl (hb hby d_m_3_93) rfl ?_
                        show Steps p.tables e below (s₁.setTop (mkF m 94 #[.val (.int k)] [(.int k)])) _
                        refine XS.bipush X0.here hx rfl (hb hby d_m_3_94) ?_
                        show Steps p.tables e below (s₁.setTop (mkF m 96 #[.val (.int k)] [(.int (10 : Int32)), (.int k)])) _
                        exact kt
                      by_cases hc96_32 : k = (10 : Int32)
                      · obtain ⟨T33, X33, e33, st33⟩ := getS2 X0 hx hZ hown (host := "") (Or.inl (hw _ (List.mem_of_getElem? (i := 26) rfl))) Via.refl e0 S_NON_POSITIVE_INTEGER (g := (mkF m 99 #[.val (.int k)] [])) rfl (hb hby d_m_3_99)
                        obtain ⟨fs, hr, hrun, hended, hW, hsame⟩ := X33.leave (v := some (.ref a_NON_POSITIVE_INTEGER)) (fun h => by rw [Bd.returns] at h; cases h)
                        refine ⟨_, _, pre0 _ (R1 _ (R4 _ (R7 _ (R10 _ (R13 _ (R16 _ (R19 _ (R22 _ (R25 _ (R28 _ (R31 _ ?_))))))))))), hrun, hended, _, _, rfl, ?_, ⟨_, rfl⟩, hW, hsame.mono (by decide) (by decide)⟩
                        · show Steps p.tables e below (s₁.setTop (mkF m 96 #[.val (.int k)] [(.int (10 : Int32)), (.int k)])) _
                          refine XS.icmpNo X0.here hx rfl (hb hby d_m_3_96) rfl (teq hc96_32).2 ?_
                          show Steps p.tables e below (s₁.setTop (mkF m 99 #[.val (.int k)] [])) _
                          refine st33 _ ?_
                          show Steps p.tables e below (T33.setTop (mkF m 102 #[.val (.int k)] [(.ref a_NON_POSITIVE_INTEGER)])) _
                          jvm_step X33.here [X33.here.top, hx, (hb hby d_m_3_102), X33.method', Bd.returns, Value.isRef, FieldType.isReference]
                          first | (intro acts; rw [hr _ acts rfl rfl rfl]) | rw [hr _ _ rfl rfl rfl]
                          exact Steps.refl _
                        · show QV (some (.ref (if k = 0 then a_ANY_ATOMIC_TYPE else if k = 1 then a_NUMERIC else if k = 2 then a_STRING else if k = 3 then a_UNTYPED_ATOMIC else if k = 4 then a_BOOLEAN else if k = 5 then a_NOTATION else if k = 6 then a_DECIMAL else if k = 7 then a_FLOAT else if k = 8 then a_DOUBLE else if k = 9 then a_INTEGER else if k = 10 then a_NON_POSITIVE_INTEGER else if k = 11 then a_NEGATIVE_INTEGER else if k = 12 then a_LONG else if k = 13 then a_INT else if k = 14 then a_SHORT else if k = 15 then a_BYTE else if k = 16 then a_NON_NEGATIVE_INTEGER else if k = 17 then a_UNSIGNED_LONG else if k = 18 then a_UNSIGNED_INT else if k = 19 then a_UNSIGNED_SHORT else if k = 20 then a_UNSIGNED_BYTE else a_POSITIVE_INTEGER))) h0 n0 _ T33.heap _
                          rw [e33]
                          exact ⟨by simp [hc1_2, hc10_5, hc19_8, hc28_11, hc37_14, hc46_17, hc56_20, hc66_23, hc76_26, hc86_29, hc96_32], N0, rfl⟩
                      · have R34 : ∀ tg, Steps p.tables e below (s₁.setTop (mkF m 106 #[.val (.int k)] [(.int (11 : Int32)), (.int k)])) tg → Steps p.tables e below (s₁.setTop (mkF m 96 #[.val (.int k)] [(.int (10 : Int32)), (.int k)])) tg := by
                          intro tg kt
                          refine XS.icmpYes X0.here hx rfl (pc0 := 96) (pc' := 103) rfl (hb hby d_m_3_96) rfl (feq hc96_32).2 (by decide) (by decide) ?_
                          show Steps p.tables e below (s₁.setTop (mkF m 103 #[.val (.int k)] [])) _
                          refine XS.iloadN X0.here hx rfl (hb hby d_m_3_103) rfl ?_
                          show Steps p.tables e below (s₁.setTop (mkF m 104 #[.val (.int k)] [(.int k)])) _
                          refine XS.bipush X0.here hx rfl (hb hby d_m_3_104) ?_
                          show Steps p.tables e below (s₁.setTop (mkF m 106 #[.val (.int k)] [(.int (11 : Int32)), (.int k)])) _
                          exact kt
                        by_cases hc106_35 : k = (11 : Int32)
                        · obtain ⟨T36, X36, e36, st36⟩ := getS2 X0 hx hZ hown (host := "") (Or.inl (hw _ (List.mem_of_getElem? (i := 24) rfl))) Via.refl e0 S_NEGATIVE_INTEGER (g := (mkF m 109 #[.val (.int k)] [])) rfl (hb hby d_m_3_109)
                          obtain ⟨fs, hr, hrun, hended, hW, hsame⟩ := X36.leave (v := some (.ref a_NEGATIVE_INTEGER)) (fun h => by rw [Bd.returns] at h; cases h)
                          refine ⟨_, _, pre0 _ (R1 _ (R4 _ (R7 _ (R10 _ (R13 _ (R16 _ (R19 _ (R22 _ (R25 _ (R28 _ (R31 _ (R34 _ ?_)))))))))))), hrun, hended, _, _, rfl, ?_, ⟨_, rfl⟩, hW, hsame.mono (by decide) (by decide)⟩
                          · show Steps p.tables e below (s₁.setTop (mkF m 106 #[.val (.int k)] [(.int (11 : Int32)), (.int k)])) _
                            refine XS.icmpNo X0.here hx rfl (hb hby d_m_3_106) rfl (teq hc106_35).2 ?_
                            show Steps p.tables e below (s₁.setTop (mkF m 109 #[.val (.int k)] [])) _
                            refine st36 _ ?_
                            show Steps p.tables e below (T36.setTop (mkF m 112 #[.val (.int k)] [(.ref a_NEGATIVE_INTEGER)])) _
                            jvm_step X36.here [X36.here.top, hx, (hb hby d_m_3_112), X36.method', Bd.returns, Value.isRef, FieldType.isReference]
                            first | (intro acts; rw [hr _ acts rfl rfl rfl]) | rw [hr _ _ rfl rfl rfl]
                            exact Steps.refl _
                          · show QV (some (.ref (if k = 0 then a_ANY_ATOMIC_TYPE else if k = 1 then a_NUMERIC else if k = 2 then a_STRING else if k = 3 then a_UNTYPED_ATOMIC else if k = 4 then a_BOOLEAN else if k = 5 then a_NOTATION else if k = 6 then a_DECIMAL else if k = 7 then a_FLOAT else if k = 8 then a_DOUBLE else if k = 9 then a_INTEGER else if k = 10 then a_NON_POSITIVE_INTEGER else if k = 11 then a_NEGATIVE_INTEGER else if k = 12 then a_LONG else if k = 13 then a_INT else if k = 14 then a_SHORT else if k = 15 then a_BYTE else if k = 16 then a_NON_NEGATIVE_INTEGER else if k = 17 then a_UNSIGNED_LONG else if k = 18 then a_UNSIGNED_INT else if k = 19 then a_UNSIGNED_SHORT else if k = 20 then a_UNSIGNED_BYTE else a_POSITIVE_INTEGER))) h0 n0 _ T36.heap _
                            rw [e36]
                            exact ⟨by simp [hc1_2, hc10_5, hc19_8, hc28_11, hc37_14, hc46_17, hc56_20, hc66_23, hc76_26, hc86_29, hc96_32, hc106_35], N0, rfl⟩
                        · have R37 : ∀ tg, Steps p.tables e below (s₁.setTop (mkF m 116 #[.val (.int k)] [(.int (12 : Int32)), (.int k)])) tg → Steps p.tables e below (s₁.setTop (mkF m 106 #[.val (.int k)] [(.int (11 : Int32)), (.int k)])) tg := by
                            intro tg kt
                            refine XS.icmpYes X0.here hx rfl (pc0 := 106) (pc' := 113) rfl (hb hby d_m_3_106) rfl (feq hc106_35).2 (by decide) (by decide) ?_
                            show Steps p.tables e below (s₁.setTop (mkF m 113 #[.val (.int k)] [])) _
                            refine XS.iloadN X0.here hx rfl (hb hby d_m_3_113) rfl ?_
                            show Steps p.tables e below (s₁.setTop (mkF m 114 #[.val (.int k)] [(.int k)])) _
                            refine XS.bipush X0.here hx rfl (hb hby d_m_3_114) ?_
                            show Steps p.tables e below (s₁.setTop (mkF m 116 #[.val (.int k)] [(.int (12 : Int32)), (.int k)])) _
                            exact kt
                          by_cases hc116_38 : k = (12 : Int32)
                          · obtain ⟨T39, X39, e39, st39⟩ := getS2 X0 hx hZ hown (host := "") (Or.inl (hw _ (List.mem_of_getElem? (i := 49) rfl))) Via.refl e0 S_LONG (g := (mkF m 119 #[.val (.int k)] [])) rfl (hb hby d_m_3_119)
                            obtain ⟨fs, hr, hrun, hended, hW, hsame⟩ := X39.leave (v := some (.ref a_LONG)) (fun h => by rw [Bd.returns] at h; cases h)
                            refine ⟨_, _, pre0 _ (R1 _ (R4 _ (R7 _ (R10 _ (R13 _ (R16 _ (R19 _ (R22 _ (R25 _ (R28 _ (R31 _ (R34 _ (R37 _ ?_))))))))))))), hrun, hended, _, _, rfl, ?_, ⟨_, rfl⟩, hW, hsame.mono (by decide) (by decide)⟩
                            · show Steps p.tables e below (s₁.setTop (mkF m 116 #[.val (.int k)] [(.int (12 : Int32)), (.int k)])) _
                              refine XS.icmpNo X0.here hx rfl (hb hby d_m_3_116) rfl (teq hc116_38).2 ?_
                              show Steps p.tables e below (s₁.setTop (mkF m 119 #[.val (.int k)] [])) _
                              refine st39 _ ?_
                              show Steps p.tables e below (T39.setTop (mkF m 122 #[.val (.int k)] [(.ref a_LONG)])) _
                              jvm_step X39.here [X39.here.top, hx, (hb hby d_m_3_122), X39.method', Bd.returns, Value.isRef, FieldType.isReference]
                              first | (intro acts; rw [hr _ acts rfl rfl rfl]) | rw [hr _ _ rfl rfl rfl]
                              exact Steps.refl _
                            · show QV (some (.ref (if k = 0 then a_ANY_ATOMIC_TYPE else if k = 1 then a_NUMERIC else if k = 2 then a_STRING else if k = 3 then a_UNTYPED_ATOMIC else if k = 4 then a_BOOLEAN else if k = 5 then a_NOTATION else if k = 6 then a_DECIMAL else if k = 7 then a_FLOAT else if k = 8 then a_DOUBLE else if k = 9 then a_INTEGER else if k = 10 then a_NON_POSITIVE_INTEGER else if k = 11 then a_NEGATIVE_INTEGER else if k = 12 then a_LONG else if k = 13 then a_INT else if k = 14 then a_SHORT else if k = 15 then a_BYTE else if k = 16 then a_NON_NEGATIVE_INTEGER else if k = 17 then a_UNSIGNED_LONG else if k = 18 then a_UNSIGNED_INT else if k = 19 then a_UNSIGNED_SHORT else if k = 20 then a_UNSIGNED_BYTE else a_POSITIVE_INTEGER))) h0 n0 _ T39.heap _
                              rw [e39]
                              exact ⟨by simp [hc1_2, hc10_5, hc19_8, hc28_11, hc37_14, hc46_17, hc56_20, hc66_23, hc76_26, hc86_29, hc96_32, hc106_35, hc116_38], N0, rfl⟩
                          · have R40 : ∀ tg, Steps p.tables e below (s₁.setTop (mkF m 126 #[.val (.int k)] [(.int (13 : Int32)), (.int k)])) tg → Steps p.tables e below (s₁.setTop (mkF m 116 #[.val (.int k)] [(.int (12 : Int32)), (.int k)])) tg := by
                              intro tg kt
                              refine XS.icmpYes X0.here hx rfl (pc0 := 116) (pc' := 123) rfl (hb hby d_m_3_116) rfl (feq hc116_38).2 (by decide) (by decide) ?_
                              show Steps p.tables e below (s₁.setTop (mkF m 123 #[.val (.int k)] [])) _
                              refine XS.iloadN X0.here hx rfl (hb hby d_m_3_123) rfl ?_
                              show Steps p.tables e below (s₁.setTop (mkF m 124 #[.val (.int k)] [(.int k)])) _
                              refine XS.bipush X0.here hx rfl (hb hby d_m_3_124) ?_
                              show Steps p.tables e below (s₁.setTop (mkF m 126 #[.val (.int k)] [(.int (13 : Int32)), (.int k)])) _
                              exact kt
                            by_cases hc126_41 : k = (13 : Int32)
                            · obtain ⟨T42, X42, e42, st42⟩ := getS2 X0 hx hZ hown (host := "") (Or.inl (hw _ (List.mem_of_getElem? (i := 51) rfl))) Via.refl e0 S_INT (g := (mkF m 129 #[.val (.int k)] [])) rfl (hb hby d_m_3_129)
                              obtain ⟨fs, hr, hrun, hended, hW, hsame⟩ := X42.leave (v := some (.ref a_INT)) (fun h => by rw [Bd.returns] at h; cases h)
                              refine ⟨_, _, pre0 _ (R1 _ (R4 _ (R7 _ (R10 _ (R13 _ (R16 _ (R19 _ (R22 _ (R25 _ (R28 _ (R31 _ (R34 _ (R37 _ (R40 _ ?_)))))))))))))), hrun, hended, _, _, rfl, ?_, ⟨_, rfl⟩, hW, hsame.mono (by decide) (by decide)⟩
                              · show Steps p.tables e below (s₁.setTop (mkF m 126 #[.val (.int k)] [(.int (13 : Int32)), (.int k)])) _
                                refine XS.icmpNo X0.here hx rfl (hb hby d_m_3_126) rfl (teq hc126_41).2 ?_
                                show Steps p.tables e below (s₁.setTop (mkF m 129 #[.val (.int k)] [])) _
                                refine st42 _ ?_
                                show Steps p.tables e below (T42.setTop (mkF m 132 #[.val (.int k)] [(.ref a_INT)])) _
                                jvm_step X42.here [X42.here.top, hx, (hb hby d_m_3_132), X42.method', Bd.returns, Value.isRef, FieldType.isReference]
                                first | (intro acts; rw [hr _ acts rfl rfl rfl]) | rw [hr _ _ rfl rfl rfl]
                                exact Steps.refl _
                              · show QV (some (.ref (if k = 0 then a_ANY_ATOMIC_TYPE else if k = 1 then a_NUMERIC else if k = 2 then a_STRING else if k = 3 then a_UNTYPED_ATOMIC else if k = 4 then a_BOOLEAN else if k = 5 then a_NOTATION else if k = 6 then a_DECIMAL else if k = 7 then a_FLOAT else if k = 8 then a_DOUBLE else if k = 9 then a_INTEGER else if k = 10 then a_NON_POSITIVE_INTEGER else if k = 11 then a_NEGATIVE_INTEGER else if k = 12 then a_LONG else if k = 13 then a_INT else if k = 14 then a_SHORT else if k = 15 then a_BYTE else if k = 16 then a_NON_NEGATIVE_INTEGER else if k = 17 then a_UNSIGNED_LONG else if k = 18 then a_UNSIGNED_INT else if k = 19 then a_UNSIGNED_SHORT else if k = 20 then a_UNSIGNED_BYTE else a_POSITIVE_INTEGER))) h0 n0 _ T42.heap _
                                rw [e42]
                                exact ⟨by simp [hc1_2, hc10_5, hc19_8, hc28_11, hc37_14, hc46_17, hc56_20, hc66_23, hc76_26, hc86_29, hc96_32, hc106_35, hc116_38, hc126_41], N0, rfl⟩
                            · have R43 : ∀ tg, Steps p.tables e below (s₁.setTop (mkF m 136 #[.val (.int k)] [(.int (14 : Int32)), (.int k)])) tg → Steps p.tables e below (s₁.setTop (mkF m 126 #[.val (.int k)] [(.int (13 : Int32)), (.int k)])) tg := by
                                intro tg kt
                                refine XS.icmpYes X0.here hx rfl (pc0 := 126) (pc' := 133) rfl (hb hby d_m_3_126) rfl (feq hc126_41).2 (by decide) (by decide) ?_
                                show Steps p.tables e below (s₁.setTop (mkF m 133 #[.val (.int k)] [])) _
                                refine XS.iloadN X0.here hx rfl (hb hby d_m_3_133) rfl ?_
                                show Steps p.tables e below (s₁.setTop (mkF m 134 #[.val (.int k)] [(.int k)])) _
                                refine XS.bipush X0.here hx rfl (hb hby d_m_3_134) ?_
                                show Steps p.tables e below (s₁.setTop (mkF m 136 #[.val (.int k)] [(.int (14 : Int32)), (.int k)])) _
                                exact kt
                              by_cases hc136_44 : k = (14 : Int32)
                              · obtain ⟨T45, X45, e45, st45⟩ := getS2 X0 hx hZ hown (host := "") (Or.inl (hw _ (List.mem_of_getElem? (i := 47) rfl))) Via.refl e0 S_SHORT (g := (mkF m 139 #[.val (.int k)] [])) rfl (hb hby d_m_3_139)
                                obtain ⟨fs, hr, hrun, hended, hW, hsame⟩ := X45.leave (v := some (.ref a_SHORT)) (fun h => by rw [Bd.returns] at h; cases h)
                                refine ⟨_, _, pre0 _ (R1 _ (R4 _ (R7 _ (R10 _ (R13 _ (R16 _ (R19 _ (R22 _ (R25 _ (R28 _ (R31 _ (R34 _ (R37 _ (R40 _ (R43 _ ?_))))))))))))))), hrun, hended, _, _, rfl, ?_, ⟨_, rfl⟩, hW, hsame.mono (by decide) (by decide)⟩
                                · show Steps p.tables e below (s₁.setTop (mkF m 136 #[.val (.int k)] [(.int (14 : Int32)), (.int k)])) _
                                  refine XS.icmpNo X0.here hx rfl (hb hby d_m_3_136) rfl (teq hc136_44).2 ?_
                                  show Steps p.tables e below (s₁.setTop (mkF m 139 #[.val (.int k)] [])) _
                                  refine st45 _ ?_
                                  show Steps p.tables e below (T45.setTop (mkF m 142 #[.val (.int k)] [(.ref a_SHORT)])) _
                                  jvm_step X45.here [X45.here.top, hx, (hb hby d_m_3_142), X45.method', Bd.returns, Value.isRef, FieldType.isReference]
                                  first | (intro acts; rw [hr _ acts rfl rfl rfl]) | rw [hr _ _ rfl rfl rfl]
                                  exact Steps.refl _
                                · show QV (some (.ref (if k = 0 then a_ANY_ATOMIC_TYPE else if k = 1 then a_NUMERIC else if k = 2 then a_STRING else if k = 3 then a_UNTYPED_ATOMIC else if k = 4 then a_BOOLEAN else if k = 5 then a_NOTATION else if k = 6 then a_DECIMAL else if k = 7 then a_FLOAT else if k = 8 then a_DOUBLE else if k = 9 then a_INTEGER else if k = 10 then a_NON_POSITIVE_INTEGER else if k = 11 then a_NEGATIVE_INTEGER else if k = 12 then a_LONG else if k = 13 then a_INT else if k = 14 then a_SHORT else if k = 15 then a_BYTE else if k = 16 then a_NON_NEGATIVE_INTEGER else if k = 17 then a_UNSIGNED_LONG else if k = 18 then a_UNSIGNED_INT else if k = 19 then a_UNSIGNED_SHORT else if k = 20 then a_UNSIGNED_BYTE else a_POSITIVE_INTEGER))) h0 n0 _ T45.heap _
                                  rw [e45]
                                  exact ⟨by simp [hc1_2, hc10_5, hc19_8, hc28_11, hc37_14, hc46_17, hc56_20, hc66_23, hc76_26, hc86_29, hc96_32, hc106_35, hc116_38, hc126_41, hc136_44], N0, rfl⟩
                              · have R46 : ∀ tg, Steps p.tables e below (s₁.setTop (mkF m 146 #[.val (.int k)] [(.int (15 : Int32)), (.int k)])) tg → Steps p.tables e below (s₁.setTop (mkF m 136 #[.val (.int k)] [(.int (14 : Int32)), (.int k)])) tg := by
                                  intro tg kt
                                  refine XS.icmpYes X0.here hx rfl (pc0 := 136) (pc' := 143) rfl (hb hby d_m_3_136) rfl (feq hc136_44).2 (by decide) (by decide) ?_
                                  show Steps p.tables e below (s₁.setTop (mkF m 143 #[.val (.int k)] [])) _
                                  refine XS.iloadN X0.here hx rfl (hb hby d_m_3_143) rfl ?_
                                  show Steps p.tables e below (s₁.setTop (mkF m 144 #[.val (.int k)] [(.int k)])) _
                                  refine XS.bipush X0.here hx rfl (hb hby d_m_3_144) ?_
                                  show Steps p.tables e below (s₁.setTop (mkF m 146 #[.val (.int k)] [(.int (15 : Int32)), (.int k)])) _
                                  exact kt
                                by_cases hc146_47 : k = (15 : Int32)
                                · obtain ⟨T48, X48, e48, st48⟩ := getS2 X0 hx hZ hown (host := "") (Or.inl (hw _ (List.mem_of_getElem? (i := 41) rfl))) Via.refl e0 S_BYTE (g := (mkF m 149 #[.val (.int k)] [])) rfl (hb hby d_m_3_149)
                                  obtain ⟨fs, hr, hrun, hended, hW, hsame⟩ := X48.leave (v := some (.ref a_BYTE)) (fun h => by rw [Bd.returns] at h; cases h)
                                  refine ⟨_, _, pre0 _ (R1 _ (R4 _ (R7 _ (R10 _ (R13 _ (R16 _ (R19 _ (R22 _ (R25 _ (R28 _ (R31 _ (R34 _ (R37 _ (R40 _ (R43 _ (R46 _ ?_)))))))))))))))), hrun, hended, _, _, rfl, ?_, ⟨_, rfl⟩, hW, hsame.mono (by decide) (by decide)⟩
                                  · show Steps p.tables e below (s₁.setTop (mkF m 146 #[.val (.int k)] [(.int (15 : Int32)), (.int k)])) _
                                    refine XS.icmpNo X0.here hx rfl (hb hby d_m_3_146) rfl (teq hc146_47).2 ?_
                                    show Steps p.tables e below (s₁.setTop (mkF m 149 #[.val (.int k)] [])) _
                                    refine st48 _ ?_
                                    show Steps p.tables e below (T48.setTop (mkF m 152 #[.val (.int k)] [(.ref a_BYTE)])) _
                                    jvm_step X48.here [X48.here.top, hx, (hb hby d_m_3_152), X48.method', Bd.returns, Value.isRef, FieldType.isReference]
                                    first | (intro acts; rw [hr _ acts rfl rfl rfl]) | rw [hr _ _ rfl rfl rfl]
                                    exact Steps.refl _
                                  · show QV (some (.ref (if k = 0 then a_ANY_ATOMIC_TYPE else if k = 1 then a_NUMERIC else if k = 2 then a_STRING else if k = 3 then a_UNTYPED_ATOMIC else if k = 4 then a_BOOLEAN else if k = 5 then a_NOTATION else if k = 6 then a_DECIMAL else if k = 7 then a_FLOAT else if k = 8 then a_DOUBLE else if k = 9 then a_INTEGER else if k = 10 then a_NON_POSITIVE_INTEGER else if k = 11 then a_NEGATIVE_INTEGER else if k = 12 then a_LONG else if k = 13 then a_INT else if k = 14 then a_SHORT else if k = 15 then a_BYTE else if k = 16 then a_NON_NEGATIVE_INTEGER else if k = 17 then a_UNSIGNED_LONG else if k = 18 then a_UNSIGNED_INT else if k = 19 then a_UNSIGNED_SHORT else if k = 20 then a_UNSIGNED_BYTE else a_POSITIVE_INTEGER))) h0 n0 _ T48.heap _
                                    rw [e48]
                                    exact ⟨by simp [hc1_2, hc10_5, hc19_8, hc28_11, hc37_14, hc46_17, hc56_20, hc66_23, hc76_26, hc86_29, hc96_32, hc106_35, hc116_38, hc126_41, hc136_44, hc146_47], N0, rfl⟩
                                · have R49 : ∀ tg, Steps p.tables e below (s₁.setTop (mkF m 156 #[.val (.int k)] [(.int (16 : Int32)), (.int k)])) tg → Steps p.tables e below (s₁.setTop (mkF m 146 #[.val (.int k)] [(.int (15 : Int32)), (.int k)])) tg := by
                                    intro tg kt
                                    refine XS.icmpYes X0.here hx rfl (pc0 := 146) (pc' := 153) rfl (hb hby d_m_3_146) rfl (feq hc146_47).2 (by decide) (by decide) ?_
                                    show Steps p.tables e below (s₁.setTop (mkF m 153 #[.val (.int k)] [])) _
                                    refine XS.iloadN X0.here hx rfl (hb hby d_m_3_153) rfl ?_
                                    show Steps p.tables e below (s₁.setTop (mkF m 154 #[.val (.int k)] [(.int k)])) _
                                    refine XS.bipush X0.here hx rfl (hb hby d_m_3_154) ?_
                                    show Steps p.tables e below (s₁.setTop (mkF m 156 #[.val (.int k)] [(.int (16 : Int32)), (.int k)])) _
                                    exact kt
                                  by_cases hc156_50 : k = (16 : Int32)
                                  · obtain ⟨T51, X51, e51, st51⟩ := getS2 X0 hx hZ hown (host := "") (Or.inl (hw _ (List.mem_of_getElem? (i := 33) rfl))) Via.refl e0 S_NON_NEGATIVE_INTEGER (g := (mkF m 159 #[.val (.int k)] [])) rfl (hb hby d_m_3_159)
                                    obtain ⟨fs, hr, hrun, hended, hW, hsame⟩ := X51.leave (v := some (.ref a_NON_NEGATIVE_INTEGER)) (fun h => by rw [Bd.returns] at h; cases h)
                                    refine ⟨_, _, pre0 _ (R1 _ (R4 _ (R7 _ (R10 _ (R13 _ (R16 _ (R19 _ (R22 _ (R25 _ (R28 _ (R31 _ (R34 _ (R37 _ (R40 _ (R43 _ (R46 _ (R49 _ ?_))))))))))))))))), hrun, hended, _, _, rfl, ?_, ⟨_, rfl⟩, hW, hsame.mono (by decide) (by decide)⟩
                                    · show Steps p.tables e below (s₁.setTop (mkF m 156 #[.val (.int k)] [(.int (16 : Int32)), (.int k)])) _
                                      refine XS.icmpNo X0.here hx rfl (hb hby d_m_3_156) rfl (teq hc156_50).2 ?_
                                      show Steps p.tables e below (s₁.setTop (mkF m 159 #[.val (.int k)] [])) _
                                      refine st51 _ ?_
                                      show Steps p.tables e below (T51.setTop (mkF m 162 #[.val (.int k)] [(.ref a_NON_NEGATIVE_INTEGER)])) _
                                      jvm_step X51.here [X51.here.top, hx, (hb hby d_m_3_162), X51.method', Bd.returns, Value.isRef, FieldType.isReference]
                                      first | (intro acts; rw [hr _ acts rfl rfl rfl]) | rw [hr _ _ rfl rfl rfl]
                                      exact Steps.refl _
                                    · show QV (some (.ref (if k = 0 then a_ANY_ATOMIC_TYPE else if k = 1 then a_NUMERIC else if k = 2 then a_STRING else if k = 3 then a_UNTYPED_ATOMIC else if k = 4 then a_BOOLEAN else if k = 5 then a_NOTATION else if k = 6 then a_DECIMAL else if k = 7 then a_FLOAT else if k = 8 then a_DOUBLE else if k = 9 then a_INTEGER else if k = 10 then a_NON_POSITIVE_INTEGER else if k = 11 then a_NEGATIVE_INTEGER else if k = 12 then a_LONG else if k = 13 then a_INT else if k = 14 then a_SHORT else if k = 15 then a_BYTE else if k = 16 then a_NON_NEGATIVE_INTEGER else if k = 17 then a_UNSIGNED_LONG else if k = 18 then a_UNSIGNED_INT else if k = 19 then a_UNSIGNED_SHORT else if k = 20 then a_UNSIGNED_BYTE else a_POSITIVE_INTEGER))) h0 n0 _ T51.heap _
                                      rw [e51]
                                      exact ⟨by simp [hc1_2, hc10_5, hc19_8, hc28_11, hc37_14, hc46_17, hc56_20, hc66_23, hc76_26, hc86_29, hc96_32, hc106_35, hc116_38, hc126_41, hc136_44, hc146_47, hc156_50], N0, rfl⟩
                                  · have R52 : ∀ tg, Steps p.tables e below (s₁.setTop (mkF m 166 #[.val (.int k)] [(.int (17 : Int32)), (.int k)])) tg → Steps p.tables e below (s₁.setTop (mkF m 156 #[.val (.int k)] [(.int (16 : Int32)), (.int k)])) tg := by
                                      intro tg kt
                                      refine XS.icmpYes X0.here hx rfl (pc0 := 156) (pc' := 163) rfl (hb hby d_m_3_156) rfl (feq hc156_50).2 (by decide) (by decide) ?_
                                      show Steps p.tables e below (s₁.setTop (mkF m 163 #[.val (.int k)] [])) _
                                      refine XS.iloadN X0.here hx rfl (hb hby d_m_3_163) rfl ?_
                                      show Steps p.tables e below (s₁.setTop (mkF m 164 #[.val (.int k)] [(.int k)])) _
                                      refine XS.bipush X0.here hx rfl (hb hby d_m_3_164) ?_
                                      show Steps p.tables e below (s₁.setTop (mkF m 166 #[.val (.int k)] [(.int (17 : Int32)), (.int k)])) _
                                      exact kt
                                    by_cases hc166_53 : k = (17 : Int32)
                                    · obtain ⟨T54, X54, e54, st54⟩ := getS2 X0 hx hZ hown (host := "") (Or.inl (hw _ (List.mem_of_getElem? (i := 53) rfl))) Via.refl e0 S_UNSIGNED_LONG (g := (mkF m 169 #[.val (.int k)] [])) rfl (hb hby d_m_3_169)
                                      obtain ⟨fs, hr, hrun, hended, hW, hsame⟩ := X54.leave (v := some (.ref a_UNSIGNED_LONG)) (fun h => by rw [Bd.returns] at h; cases h)
                                      refine ⟨_, _, pre0 _ (R1 _ (R4 _ (R7 _ (R10 _ (R13 _ (R16 _ (R19 _ (R22 _ (R25 _ (R28 _ (R31 _ (R34 _ (R37 _ (R40 _ (R43 _ (R46 _ (R49 _ (R52 _ ?_)))))))))))))))))), hrun, hended, _, _, rfl, ?_, ⟨_, rfl⟩, hW, hsame.mono (by decide) (by decide)⟩
                                      · show Steps p.tables e below (s₁.setTop (mkF m 166 #[.val (.int k)] [(.int (17 : Int32)), (.int k)])) _
                                        refine XS.icmpNo X0.here hx rfl (hb hby d_m_3_166) rfl (teq hc166_53).2 ?_
                                        show Steps p.tables e below (s₁.setTop (mkF m 169 #[.val (.int k)] [])) _
                                        refine st54 _ ?_
                                        show Steps p.tables e below (T54.setTop (mkF m 172 #[.val (.int k)] [(.ref a_UNSIGNED_LONG)])) _
                                        jvm_step X54.here [X54.here.top, hx, (hb hby d_m_3_172), X54.method', Bd.returns, Value.isRef, FieldType.isReference]
                                        first | (intro acts; rw [hr _ acts rfl rfl rfl]) | rw [hr _ _ rfl rfl rfl]
                                        exact Steps.refl _
                                      · show QV (some (.ref (if k = 0 then a_ANY_ATOMIC_TYPE else if k = 1 then a_NUMERIC else if k = 2 then a_STRING else if k = 3 then a_UNTYPED_ATOMIC else if k = 4 then a_BOOLEAN else if k = 5 then a_NOTATION else if k = 6 then a_DECIMAL else if k = 7 then a_FLOAT else if k = 8 then a_DOUBLE else if k = 9 then a_INTEGER else if k = 10 then a_NON_POSITIVE_INTEGER else if k = 11 then a_NEGATIVE_INTEGER else if k = 12 then a_LONG else if k = 13 then a_INT else if k = 14 then a_SHORT else if k = 15 then a_BYTE else if k = 16 then a_NON_NEGATIVE_INTEGER else if k = 17 then a_UNSIGNED_LONG else if k = 18 then a_UNSIGNED_INT else if k = 19 then a_UNSIGNED_SHORT else if k = 20 then a_UNSIGNED_BYTE else a_POSITIVE_INTEGER))) h0 n0 _ T54.heap _
                                        rw [e54]
                                        exact ⟨by simp [hc1_2, hc10_5, hc19_8, hc28_11, hc37_14, hc46_17, hc56_20, hc66_23, hc76_26, hc86_29, hc96_32, hc106_35, hc116_38, hc126_41, hc136_44, hc146_47, hc156_50, hc166_53], N0, rfl⟩
                                    · have R55 : ∀ tg, Steps p.tables e below (s₁.setTop (mkF m 176 #[.val (.int k)] [(.int (18 : Int32)), (.int k)])) tg → Steps p.tables e below (s₁.setTop (mkF m 166 #[.val (.int k)] [(.int (17 : Int32)), (.int k)])) tg := by
                                        intro tg kt
                                        refine XS.icmpYes X0.here hx rfl (pc0 := 166) (pc' := 173) rfl (hb hby d_m_3_166) rfl (feq hc166_53).2 (by decide) (by decide) ?_
                                        show Steps p.tables e below (s₁.setTop (mkF m 173 #[.val (.int k)] [])) _
                                        refine XS.iloadN X0.here hx rfl (hb hby d_m_3_173) rfl ?_
                                        show Steps p.tables e below (s₁.setTop (mkF m 174 #[.val (.int k)] [(.int k)])) _
                                        refine XS.bipush X0.here hx rfl (hb hby d_m_3_174) ?_
                                        show Steps p.tables e below (s₁.setTop (mkF m 176 #[.val (.int k)] [(.int (18 : Int32)), (.int k)])) _
                                        exact kt
                                      by_cases hc176_56 : k = (18 : Int32)
                                      · obtain ⟨T57, X57, e57, st57⟩ := getS2 X0 hx hZ hown (host := "") (Or.inl (hw _ (List.mem_of_getElem? (i := 39) rfl))) Via.refl e0 S_UNSIGNED_INT (g := (mkF m 179 #[.val (.int k)] [])) rfl (hb hby d_m_3_179)
                                        obtain ⟨fs, hr, hrun, hended, hW, hsame⟩ := X57.leave (v := some (.ref a_UNSIGNED_INT)) (fun h => by rw [Bd.returns] at h; cases h)
                                        refine ⟨_, _, pre0 _ (R1 _ (R4 _ (R7 _ (R10 _ (R13 _ (R16 _ (R19 _ (R22 _ (R25 _ (R28 _ (R31 _ (R34 _ (R37 _ (R40 _ (R43 _ (R46 _ (R49 _ (R52 _ (R55 _ ?_))))))))))))))))))), hrun, hended, _, _, rfl, ?_, ⟨_, rfl⟩, hW, hsame.mono (by decide) (by decide)⟩
                                        · show Steps p.tables e below (s₁.setTop (mkF m 176 #[.val (.int k)] [(.int (18 : Int32)), (.int k)])) _
                                          refine XS.icmpNo X0.here hx rfl (hb hby d_m_3_176) rfl (teq hc176_56).2 ?_
                                          show Steps p.tables e below (s₁.setTop (mkF m 179 #[.val (.int k)] [])) _
                                          refine st57 _ ?_
                                          show Steps p.tables e below (T57.setTop (mkF m 182 #[.val (.int k)] [(.ref a_UNSIGNED_INT)])) _
                                          jvm_step X57.here [X57.here.top, hx, (hb hby d_m_3_182), X57.method', Bd.returns, Value.isRef, FieldType.isReference]
                                          first | (intro acts; rw [hr _ acts rfl rfl rfl]) | rw [hr _ _ rfl rfl rfl]
                                          exact Steps.refl _
                                        · show QV (some (.ref (if k = 0 then a_ANY_ATOMIC_TYPE else if k = 1 then a_NUMERIC else if k = 2 then a_STRING else if k = 3 then a_UNTYPED_ATOMIC else if k = 4 then a_BOOLEAN else if k = 5 then a_NOTATION else if k = 6 then a_DECIMAL else if k = 7 then a_FLOAT else if k = 8 then a_DOUBLE else if k = 9 then a_INTEGER else if k = 10 then a_NON_POSITIVE_INTEGER else if k = 11 then a_NEGATIVE_INTEGER else if k = 12 then a_LONG else if k = 13 then a_INT else if k = 14 then a_SHORT else if k = 15 then a_BYTE else if k = 16 then a_NON_NEGATIVE_INTEGER else if k = 17 then a_UNSIGNED_LONG else if k = 18 then a_UNSIGNED_INT else if k = 19 then a_UNSIGNED_SHORT else if k = 20 then a_UNSIGNED_BYTE else a_POSITIVE_INTEGER))) h0 n0 _ T57.heap _
                                          rw [e57]
                                          exact ⟨by simp [hc1_2, hc10_5, hc19_8, hc28_11, hc37_14, hc46_17, hc56_20, hc66_23, hc76_26, hc86_29, hc96_32, hc106_35, hc116_38, hc126_41, hc136_44, hc146_47, hc156_50, hc166_53, hc176_56], N0, rfl⟩
                                      · have R58 : ∀ tg, Steps p.tables e below (s₁.setTop (mkF m 186 #[.val (.int k)] [(.int (19 : Int32)), (.int k)])) tg → Steps p.tables e below (s₁.setTop (mkF m 176 #[.val (.int k)] [(.int (18 : Int32)), (.int k)])) tg := by
                                          intro tg kt
                                          refine XS.icmpYes X0.here hx rfl (pc0 := 176) (pc' := 183) rfl (hb hby d_m_3_176) rfl (feq hc176_56).2 (by decide) (by decide) ?_
                                          show Steps p.tables e below (s₁.setTop (mkF m 183 #[.val (.int k)] [])) _
                                          refine XS.iloadN X0.here hx rfl (hb hby d_m_3_183) rfl ?_
                                          show Steps p.tables e below (s₁.setTop (mkF m 184 #[.val (.int k)] [(.int k)])) _
                                          refine XS.bipush X0.here hx rfl (hb hby d_m_3_184) ?_
                                          show Steps p.tables e below (s₁.setTop (mkF m 186 #[.val (.int k)] [(.int (19 : Int32)), (.int k)])) _
                                          exact kt
                                        by_cases hc186_59 : k = (19 : Int32)
                                        · obtain ⟨T60, X60, e60, st60⟩ := getS2 X0 hx hZ hown (host := "") (Or.inl (hw _ (List.mem_of_getElem? (i := 37) rfl))) Via.refl e0 S_UNSIGNED_SHORT (g := (mkF m 189 #[.val (.int k)] [])) rfl (hb hby d_m_3_189)
                                          obtain ⟨fs, hr, hrun, hended, hW, hsame⟩ := X60.leave (v := some (.ref a_UNSIGNED_SHORT)) (fun h => by rw [Bd.returns] at h; cases h)
                                          refine ⟨_, _, pre0 _ (R1 _ (R4 _ (R7 _ (R10 _ (R13 _ (R16 _ (R19 _ (R22 _ (R25 _ (R28 _ (R31 _ (R34 _ (R37 _ (R40 _ (R43 _ (R46 _ (R49 _ (R52 _ (R55 _ (R58 _ ?_)))))))))))))))))))), hrun, hended, _, _, rfl, ?_, ⟨_, rfl⟩, hW, hsame.mono (by decide) (by decide)⟩
                                          · show Steps p.tables e below (s₁.setTop (mkF m 186 #[.val (.int k)] [(.int (19 : Int32)), (.int k)])) _
                                            refine XS.icmpNo X0.here hx rfl (hb hby d_m_3_186) rfl (teq hc186_59).2 ?_
                                            show Steps p.tables e below (s₁.setTop (mkF m 189 #[.val (.int k)] [])) _
                                            refine st60 _ ?_
                                            show Steps p.tables e below (T60.setTop (mkF m 192 #[.val (.int k)] [(.ref a_UNSIGNED_SHORT)])) _
                                            jvm_step X60.here [X60.here.top, hx, (hb hby d_m_3_192), X60.method', Bd.returns, Value.isRef, FieldType.isReference]
                                            first | (intro acts; rw [hr _ acts rfl rfl rfl]) | rw [hr _ _ rfl rfl rfl]
                                            exact Steps.refl _
                                          · show QV (some (.ref (if k = 0 then a_ANY_ATOMIC_TYPE else if k = 1 then a_NUMERIC else if k = 2 then a_STRING else if k = 3 then a_UNTYPED_ATOMIC else if k = 4 then a_BOOLEAN else if k = 5 then a_NOTATION else if k = 6 then a_DECIMAL else if k = 7 then a_FLOAT else if k = 8 then a_DOUBLE else if k = 9 then a_INTEGER else if k = 10 then a_NON_POSITIVE_INTEGER else if k = 11 then a_NEGATIVE_INTEGER else if k = 12 then a_LONG else if k = 13 then a_INT else if k = 14 then a_SHORT else if k = 15 then a_BYTE else if k = 16 then a_NON_NEGATIVE_INTEGER else if k = 17 then a_UNSIGNED_LONG else if k = 18 then a_UNSIGNED_INT else if k = 19 then a_UNSIGNED_SHORT else if k = 20 then a_UNSIGNED_BYTE else a_POSITIVE_INTEGER))) h0 n0 _ T60.heap _
                                            rw [e60]
                                            exact ⟨by simp [hc1_2, hc10_5, hc19_8, hc28_11, hc37_14, hc46_17, hc56_20, hc66_23, hc76_26, hc86_29, hc96_32, hc106_35, hc116_38, hc126_41, hc136_44, hc146_47, hc156_50, hc166_53, hc176_56, hc186_59], N0, rfl⟩
                                        · have R61 : ∀ tg, Steps p.tables e below (s₁.setTop (mkF m 196 #[.val (.int k)] [(.int (20 : Int32)), (.int k)])) tg → Steps p.tables e below (s₁.setTop (mkF m 186 #[.val (.int k)] [(.int (19 : Int32)), (.int k)])) tg := by
                                            intro tg kt
                                            refine XS.icmpYes X0.here hx rfl (pc0 := 186) (pc' := 193) rfl (hb hby d_m_3_186) rfl (feq hc186_59).2 (by decide) (by decide) ?_
                                            show Steps p.tables e below (s₁.setTop (mkF m 193 #[.val (.int k)] [])) _
                                            refine XS.iloadN X0.here hx rfl (hb hby d_m_3_193) rfl ?_
                                            show Steps p.tables e below (s₁.setTop (mkF m 194 #[.val (.int k)] [(.int k)])) _
                                            refine XS.bipush X0.here hx rfl (hb hby d_m_3_194) ?_
                                            show Steps p.tables e below (s₁.setTop (mkF m 196 #[.val (.int k)] [(.int (20 : Int32)), (.int k)])) _
                                            exact kt
                                          by_cases hc196_62 : k = (20 : Int32)
                                          · obtain ⟨T63, X63, e63, st63⟩ := getS2 X0 hx hZ hown (host := "") (Or.inl (hw _ (List.mem_of_getElem? (i := 55) rfl))) Via.refl e0 S_UNSIGNED_BYTE (g := (mkF m 199 #[.val (.int k)] [])) rfl (hb hby d_m_3_199)
                                            obtain ⟨fs, hr, hrun, hended, hW, hsame⟩ := X63.leave (v := some (.ref a_UNSIGNED_BYTE)) (fun h => by rw [Bd.returns] at h; cases h)
                                            refine ⟨_, _, pre0 _ (R1 _ (R4 _ (R7 _ (R10 _ (R13 _ (R16 _ (R19 _ (R22 _ (R25 _ (R28 _ (R31 _ (R34 _ (R37 _ (R40 _ (R43 _ (R46 _ (R49 _ (R52 _ (R55 _ (R58 _ (R61 _ ?_))))))))))))))))))))), hrun, hended, _, _, rfl, ?_, ⟨_, rfl⟩, hW, hsame.mono (by decide) (by decide)⟩
                                            · show Steps p.tables e below (s₁.setTop (mkF m 196 #[.val (.int k)] [(.int (20 : Int32)), (.int k)])) _
                                              refine XS.icmpNo X0.here hx rfl (hb hby d_m_3_196) rfl (teq hc196_62).2 ?_
                                              show Steps p.tables e below (s₁.setTop (mkF m 199 #[.val (.int k)] [])) _
                                              refine st63 _ ?_
                                              show Steps p.tables e below (T63.setTop (mkF m 202 #[.val (.int k)] [(.ref a_UNSIGNED_BYTE)])) _
                                              jvm_step X63.here [X63.here.top, hx, (hb hby d_m_3_202), X63.method', Bd.returns, Value.isRef, FieldType.isReference]
                                              first | (intro acts; rw [hr _ acts rfl rfl rfl]) | rw [hr _ _ rfl rfl rfl]
                                              exact Steps.refl _
                                            · show QV (some (.ref (if k = 0 then a_ANY_ATOMIC_TYPE else if k = 1 then a_NUMERIC else if k = 2 then a_STRING else if k = 3 then a_UNTYPED_ATOMIC else if k = 4 then a_BOOLEAN else if k = 5 then a_NOTATION else if k = 6 then a_DECIMAL else if k = 7 then a_FLOAT else if k = 8 then a_DOUBLE else if k = 9 then a_INTEGER else if k = 10 then a_NON_POSITIVE_INTEGER else if k = 11 then a_NEGATIVE_INTEGER else if k = 12 then a_LONG else if k = 13 then a_INT else if k = 14 then a_SHORT else if k = 15 then a_BYTE else if k = 16 then a_NON_NEGATIVE_INTEGER else if k = 17 then a_UNSIGNED_LONG else if k = 18 then a_UNSIGNED_INT else if k = 19 then a_UNSIGNED_SHORT else if k = 20 then a_UNSIGNED_BYTE else a_POSITIVE_INTEGER))) h0 n0 _ T63.heap _
                                              rw [e63]
                                              exact ⟨by simp [hc1_2, hc10_5, hc19_8, hc28_11, hc37_14, hc46_17, hc56_20, hc66_23, hc76_26, hc86_29, hc96_32, hc106_35, hc116_38, hc126_41, hc136_44, hc146_47, hc156_50, hc166_53, hc176_56, hc186_59, hc196_62], N0, rfl⟩
                                          · obtain ⟨T64, X64, e64, st64⟩ := getS2 X0 hx hZ hown (host := "") (Or.inl (hw _ (List.mem_of_getElem? (i := 45) rfl))) Via.refl e0 S_POSITIVE_INTEGER (g := (mkF m 203 #[.val (.int k)] [])) rfl (hb hby d_m_3_203)
                                            obtain ⟨fs, hr, hrun, hended, hW, hsame⟩ := X64.leave (v := some (.ref a_POSITIVE_INTEGER)) (fun h => by rw [Bd.returns] at h; cases h)
                                            refine ⟨_, _, pre0 _ (R1 _ (R4 _ (R7 _ (R10 _ (R13 _ (R16 _ (R19 _ (R22 _ (R25 _ (R28 _ (R31 _ (R34 _ (R37 _ (R40 _ (R43 _ (R46 _ (R49 _ (R52 _ (R55 _ (R58 _ (R61 _ ?_))))))))))))))))))))), hrun, hended, _, _, rfl, ?_, ⟨_, rfl⟩, hW, hsame.mono (by decide) (by decide)⟩
                                            · show Steps p.tables e below (s₁.setTop (mkF m 196 #[.val (.int k)] [(.int (20 : Int32)), (.int k)])) _
                                              refine XS.icmpYes X0.here hx rfl (pc0 := 196) (pc' := 203) rfl (hb hby d_m_3_196) rfl (feq hc196_62).2 (by decide) (by decide) ?_
                                              show Steps p.tables e below (s₁.setTop (mkF m 203 #[.val (.int k)] [])) _
                                              refine st64 _ ?_
                                              show Steps p.tables e below (T64.setTop (mkF m 206 #[.val (.int k)] [(.ref a_POSITIVE_INTEGER)])) _
                                              jvm_step X64.here [X64.here.top, hx, (hb hby d_m_3_206), X64.method', Bd.returns, Value.isRef, FieldType.isReference]
                                              first | (intro acts; rw [hr _ acts rfl rfl rfl]) | rw [hr _ _ rfl rfl rfl]
                                              exact Steps.refl _
                                            · show QV (some (.ref (if k = 0 then a_ANY_ATOMIC_TYPE else if k = 1 then a_NUMERIC else if k = 2 then a_STRING else if k = 3 then a_UNTYPED_ATOMIC else if k = 4 then a_BOOLEAN else if k = 5 then a_NOTATION else if k = 6 then a_DECIMAL else if k = 7 then a_FLOAT else if k = 8 then a_DOUBLE else if k = 9 then a_INTEGER else if k = 10 then a_NON_POSITIVE_INTEGER else if k = 11 then a_NEGATIVE_INTEGER else if k = 12 then a_LONG else if k = 13 then a_INT else if k = 14 then a_SHORT else if k = 15 then a_BYTE else if k = 16 then a_NON_NEGATIVE_INTEGER else if k = 17 then a_UNSIGNED_LONG else if k = 18 then a_UNSIGNED_INT else if k = 19 then a_UNSIGNED_SHORT else if k = 20 then a_UNSIGNED_BYTE else a_POSITIVE_INTEGER))) h0 n0 _ T64.heap _
                                              rw [e64]
                                              exact ⟨by simp [hc1_2, hc10_5, hc19_8, hc28_11, hc37_14, hc46_17, hc56_20, hc66_23, hc76_26, hc86_29, hc96_32, hc106_35, hc116_38, hc126_41, hc136_44, hc146_47, hc156_50, hc166_53, hc176_56, hc186_59, hc196_62], N0, rfl⟩
theorem ef_rm0 (m : MethodId) (x0 : Int32) : entryFrame m #[(.int x0)] maxLocals = mkF m 0 #[.val (.int x0), .unset, .unset, .unset] [] := by first | (simp [entryFrame, mkF, argsToLocals, Value.category, maxLocals]; done) | rfl
set_option maxRecDepth 65536 in
set_option maxHeartbeats 40000000 in
theorem rm0 (l : Launch) (Z : State) (a0 : Array Value) (hw : ∀ d ∈ tables_1, d.before a0 Z = true) (ws : List Jvm.Cond) (p1 : Int32) (a_ANY_ATOMIC_TYPE : Addr) (a_UNTYPED_ATOMIC : Addr) (a_NOTATION : Addr) (a_FLOAT : Addr) (a_DOUBLE : Addr) (a_STRING : Addr) (a_NEGATIVE_INTEGER : Addr) (a_NON_POSITIVE_INTEGER : Addr) (a_NUMERIC : Addr) (a_INTEGER : Addr) (a_NON_NEGATIVE_INTEGER : Addr) (a_DECIMAL : Addr) (a_UNSIGNED_SHORT : Addr) (a_UNSIGNED_INT : Addr) (a_BYTE : Addr) (a_BOOLEAN : Addr) (a_POSITIVE_INTEGER : Addr) (a_SHORT : Addr) (a_LONG : Addr) (a_INT : Addr) (a_UNSIGNED_LONG : Addr) (a_UNSIGNED_BYTE : Addr) (h0 : Heap) (n0 : Nat) (Z0 : n0 ≤ h0.size) (S_ANY_ATOMIC_TYPE : Sta Z h0 "com/example/abaco/abaco/core/AtomicType" "ANY_ATOMIC_TYPE" "Lcom/example/abaco/abaco/core/AtomicType;" (.ref a_ANY_ATOMIC_TYPE)) (E_ANY_ATOMIC_TYPE : Exa Z h0 a_ANY_ATOMIC_TYPE "com/example/abaco/abaco/core/AtomicType") (F_ANY_ATOMIC_TYPE_ordinal : Fld Z h0 a_ANY_ATOMIC_TYPE "java/lang/Enum" "ordinal" "I" (.int (0 : Int32))) (S_UNTYPED_ATOMIC : Sta Z h0 "com/example/abaco/abaco/core/AtomicType" "UNTYPED_ATOMIC" "Lcom/example/abaco/abaco/core/AtomicType;" (.ref a_UNTYPED_ATOMIC)) (E_UNTYPED_ATOMIC : Exa Z h0 a_UNTYPED_ATOMIC "com/example/abaco/abaco/core/AtomicType") (F_UNTYPED_ATOMIC_ordinal : Fld Z h0 a_UNTYPED_ATOMIC "java/lang/Enum" "ordinal" "I" (.int (3 : Int32))) (S_NOTATION : Sta Z h0 "com/example/abaco/abaco/core/AtomicType" "NOTATION" "Lcom/example/abaco/abaco/core/AtomicType;" (.ref a_NOTATION)) (E_NOTATION : Exa Z h0 a_NOTATION "com/example/abaco/abaco/core/AtomicType") (F_NOTATION_ordinal : Fld Z h0 a_NOTATION "java/lang/Enum" "ordinal" "I" (.int (5 : Int32))) (S_FLOAT : Sta Z h0 "com/example/abaco/abaco/core/AtomicType" "FLOAT" "Lcom/example/abaco/abaco/core/AtomicType;" (.ref a_FLOAT)) (E_FLOAT : Exa Z h0 a_FLOAT "com/example/abaco/abaco/core/AtomicType") (F_FLOAT_ordinal : Fld Z h0 a_FLOAT "java/lang/Enum" "ordinal" "I" (.int (7 : Int32))) (S_DOUBLE : Sta Z h0 "com/example/abaco/abaco/core/AtomicType" "DOUBLE" "Lcom/example/abaco/abaco/core/AtomicType;" (.ref a_DOUBLE)) (E_DOUBLE : Exa Z h0 a_DOUBLE "com/example/abaco/abaco/core/AtomicType") (F_DOUBLE_ordinal : Fld Z h0 a_DOUBLE "java/lang/Enum" "ordinal" "I" (.int (8 : Int32))) (S_STRING : Sta Z h0 "com/example/abaco/abaco/core/AtomicType" "STRING" "Lcom/example/abaco/abaco/core/AtomicType;" (.ref a_STRING)) (E_STRING : Exa Z h0 a_STRING "com/example/abaco/abaco/core/AtomicType") (F_STRING_ordinal : Fld Z h0 a_STRING "java/lang/Enum" "ordinal" "I" (.int (2 : Int32))) (S_NEGATIVE_INTEGER : Sta Z h0 "com/example/abaco/abaco/core/AtomicType" "NEGATIVE_INTEGER" "Lcom/example/abaco/abaco/core/AtomicType;" (.ref a_NEGATIVE_INTEGER)) (E_NEGATIVE_INTEGER : Exa Z h0 a_NEGATIVE_INTEGER "com/example/abaco/abaco/core/AtomicType") (F_NEGATIVE_INTEGER_ordinal : Fld Z h0 a_NEGATIVE_INTEGER "java/lang/Enum" "ordinal" "I" (.int (11 : Int32))) (S_NON_POSITIVE_INTEGER : Sta Z h0 "com/example/abaco/abaco/core/AtomicType" "NON_POSITIVE_INTEGER" "Lcom/example/abaco/abaco/core/AtomicType;" (.ref a_NON_POSITIVE_INTEGER)) (E_NON_POSITIVE_INTEGER : Exa Z h0 a_NON_POSITIVE_INTEGER "com/example/abaco/abaco/core/AtomicType") (F_NON_POSITIVE_INTEGER_ordinal : Fld Z h0 a_NON_POSITIVE_INTEGER "java/lang/Enum" "ordinal" "I" (.int (10 : Int32))) (S_NUMERIC : Sta Z h0 "com/example/abaco/abaco/core/AtomicType" "NUMERIC" "Lcom/example/abaco/abaco/core/AtomicType;" (.ref a_NUMERIC)) (E_NUMERIC : Exa Z h0 a_NUMERIC "com/example/abaco/abaco/core/AtomicType") (F_NUMERIC_ordinal : Fld Z h0 a_NUMERIC "java/lang/Enum" "ordinal" "I" (.int (1 : Int32))) (S_INTEGER : Sta Z h0 "com/example/abaco/abaco/core/AtomicType" "INTEGER" "Lcom/example/abaco/abaco/core/AtomicType;" (.ref a_INTEGER)) (E_INTEGER : Exa Z h0 a_INTEGER "com/example/abaco/abaco/core/AtomicType") (F_INTEGER_ordinal : Fld Z h0 a_INTEGER "java/lang/Enum" "ordinal" "I" (.int (9 : Int32))) (S_NON_NEGATIVE_INTEGER : Sta Z h0 "com/example/abaco/abaco/core/AtomicType" "NON_NEGATIVE_INTEGER" "Lcom/example/abaco/abaco/core/AtomicType;" (.ref a_NON_NEGATIVE_INTEGER)) (E_NON_NEGATIVE_INTEGER : Exa Z h0 a_NON_NEGATIVE_INTEGER "com/example/abaco/abaco/core/AtomicType") (F_NON_NEGATIVE_INTEGER_ordinal : Fld Z h0 a_NON_NEGATIVE_INTEGER "java/lang/Enum" "ordinal" "I" (.int (16 : Int32))) (S_DECIMAL : Sta Z h0 "com/example/abaco/abaco/core/AtomicType" "DECIMAL" "Lcom/example/abaco/abaco/core/AtomicType;" (.ref a_DECIMAL)) (E_DECIMAL : Exa Z h0 a_DECIMAL "com/example/abaco/abaco/core/AtomicType") (F_DECIMAL_ordinal : Fld Z h0 a_DECIMAL "java/lang/Enum" "ordinal" "I" (.int (6 : Int32))) (S_UNSIGNED_SHORT : Sta Z h0 "com/example/abaco/abaco/core/AtomicType" "UNSIGNED_SHORT" "Lcom/example/abaco/abaco/core/AtomicType;" (.ref a_UNSIGNED_SHORT)) (E_UNSIGNED_SHORT : Exa Z h0 a_UNSIGNED_SHORT "com/example/abaco/abaco/core/AtomicType") (F_UNSIGNED_SHORT_ordinal : Fld Z h0 a_UNSIGNED_SHORT "java/lang/Enum" "ordinal" "I" (.int (19 : Int32))) (S_UNSIGNED_INT : Sta Z h0 "com/example/abaco/abaco/core/AtomicType" "UNSIGNED_INT" "Lcom/example/abaco/abaco/core/AtomicType;" (.ref a_UNSIGNED_INT)) (E_UNSIGNED_INT : Exa Z h0 a_UNSIGNED_INT "com/example/abaco/abaco/core/AtomicType") (F_UNSIGNED_INT_ordinal : Fld Z h0 a_UNSIGNED_INT "java/lang/Enum" "ordinal" "I" (.int (18 : Int32))) (S_BYTE : Sta Z h0 "com/example/abaco/abaco/core/AtomicType" "BYTE" "Lcom/example/abaco/abaco/core/AtomicType;" (.ref a_BYTE)) (E_BYTE : Exa Z h0 a_BYTE "com/example/abaco/abaco/core/AtomicType") (F_BYTE_ordinal : Fld Z h0 a_BYTE "java/lang/Enum" "ordinal" "I" (.int (15 : Int32))) (S_BOOLEAN : Sta Z h0 "com/example/abaco/abaco/core/AtomicType" "BOOLEAN" "Lcom/example/abaco/abaco/core/AtomicType;" (.ref a_BOOLEAN)) (E_BOOLEAN : Exa Z h0 a_BOOLEAN "com/example/abaco/abaco/core/AtomicType") (F_BOOLEAN_ordinal : Fld Z h0 a_BOOLEAN "java/lang/Enum" "ordinal" "I" (.int (4 : Int32))) (S_POSITIVE_INTEGER : Sta Z h0 "com/example/abaco/abaco/core/AtomicType" "POSITIVE_INTEGER" "Lcom/example/abaco/abaco/core/AtomicType;" (.ref a_POSITIVE_INTEGER)) (E_POSITIVE_INTEGER : Exa Z h0 a_POSITIVE_INTEGER "com/example/abaco/abaco/core/AtomicType") (F_POSITIVE_INTEGER_ordinal : Fld Z h0 a_POSITIVE_INTEGER "java/lang/Enum" "ordinal" "I" (.int (21 : Int32))) (S_SHORT : Sta Z h0 "com/example/abaco/abaco/core/AtomicType" "SHORT" "Lcom/example/abaco/abaco/core/AtomicType;" (.ref a_SHORT)) (E_SHORT : Exa Z h0 a_SHORT "com/example/abaco/abaco/core/AtomicType") (F_SHORT_ordinal : Fld Z h0 a_SHORT "java/lang/Enum" "ordinal" "I" (.int (14 : Int32))) (S_LONG : Sta Z h0 "com/example/abaco/abaco/core/AtomicType" "LONG" "Lcom/example/abaco/abaco/core/AtomicType;" (.ref a_LONG)) (E_LONG : Exa Z h0 a_LONG "com/example/abaco/abaco/core/AtomicType") (F_LONG_ordinal : Fld Z h0 a_LONG "java/lang/Enum" "ordinal" "I" (.int (12 : Int32))) (S_INT : Sta Z h0 "com/example/abaco/abaco/core/AtomicType" "INT" "Lcom/example/abaco/abaco/core/AtomicType;" (.ref a_INT)) (E_INT : Exa Z h0 a_INT "com/example/abaco/abaco/core/AtomicType") (F_INT_ordinal : Fld Z h0 a_INT "java/lang/Enum" "ordinal" "I" (.int (13 : Int32))) (S_UNSIGNED_LONG : Sta Z h0 "com/example/abaco/abaco/core/AtomicType" "UNSIGNED_LONG" "Lcom/example/abaco/abaco/core/AtomicType;" (.ref a_UNSIGNED_LONG)) (E_UNSIGNED_LONG : Exa Z h0 a_UNSIGNED_LONG "com/example/abaco/abaco/core/AtomicType") (F_UNSIGNED_LONG_ordinal : Fld Z h0 a_UNSIGNED_LONG "java/lang/Enum" "ordinal" "I" (.int (17 : Int32))) (S_UNSIGNED_BYTE : Sta Z h0 "com/example/abaco/abaco/core/AtomicType" "UNSIGNED_BYTE" "Lcom/example/abaco/abaco/core/AtomicType;" (.ref a_UNSIGNED_BYTE)) (E_UNSIGNED_BYTE : Exa Z h0 a_UNSIGNED_BYTE "com/example/abaco/abaco/core/AtomicType") (F_UNSIGNED_BYTE_ordinal : Fld Z h0 a_UNSIGNED_BYTE "java/lang/Enum" "ordinal" "I" (.int (20 : Int32))) :
    MetFree l x (head1 (Jvm.Cond.code x code maxLocals ret :: ws) room_1) (fun aa_ UU_ => aa_ = #[(.int p1)] ∧ Z.Warmed39 UU_.vm ∧ UU_.heap = h0) (fun _ _ _ _ _ => True) (fun _ UU_ oo_ UE_ => ∃ vv_ LL_, oo_ = .returned vv_ ∧ Q0 n0 vv_ UE_.heap LL_ ∧ FrameEnd UU_ oo_ UE_ LL_ room_1.cells room_1.slots) := by
  refine MetFree.of_bodySF (plainFor_of_name pn_1) hisR ?_
  intro p e s m args below meth c s₁ Bd hml0 hP hK
  obtain ⟨rfl, hZ, hh⟩ := hP
  have hx := Bd.exec
  have hby := Bd.bytes
  have hml : c.maxLocals = 4 := hml0
  have hown : s.vm.findClass "com/example/abaco/abaco/core/AtomicTypeIsCastTargetPinLaw" = some m.cls := findClass_of_methodNamed Bd.named
  have hnm := (name_of_methodNamed Bd.named Bd.method).1
  have X0 : Stand p l e room_1 s m #[(.int p1)] below meth c s₁ [] 0 0 := Stand.of_body Bd
  have e0 : s₁.heap = h0 := by rw [← hh, Bd.state]; rfl
  have N0 := Fr.nil n0
  have pre0 : ∀ tg, Steps p.tables e below (s₁.setTop (mkF m 0 #[.val (.int p1), .unset, .unset, .unset] [])) tg → Steps p.tables e below (s₁.setTop (entryFrame m #[(.int p1)] maxLocals)) tg := fun tg kq_ => castTop (ef_rm0 m p1) kq_
  have R1 : ∀ tg, Steps p.tables e below (s₁.setTop (mkF m 8 #[.val (.int p1), .val (.int ((p1 &&& (2147483647 : Int32)) % (22 : Int32))), .unset, .unset] [])) tg → Steps p.tables e below (s₁.setTop (mkF m 0 #[.val (.int p1), .unset, .unset, .unset] [])) tg := by
    intro tg kt
    refine XS.iloadN X0.here hx rfl (hb hby at_0) rfl ?_
    show Steps p.tables e below (s₁.setTop (mkF m 1 #[.val (.int p1), .unset, .unset, .unset] [(.int p1)])) _
    refine X0.ldcInt hx hown (mvT hZ (hw _ (List.mem_of_getElem? (i := 0) rfl))) (g := (mkF m 1 #[.val (.int p1), .unset, .unset, .unset] [(.int p1)])) rfl (hb hby at_1) _ ?_
    show Steps p.tables e below (s₁.setTop (mkF m 3 #[.val (.int p1), .unset, .unset, .unset] [(.int (2147483647 : Int32)), (.int p1)])) _
    refine XS.iand X0.here hx rfl (hb hby at_3) rfl ?_
    show Steps p.tables e below (s₁.setTop (mkF m 4 #[.val (.int p1), .unset, .unset, .unset] [(.int (p1 &&& (2147483647 : Int32)))])) _
    refine XS.bipush X0.here hx rfl (hb hby at_4) ?_
    show Steps p.tables e below (s₁.setTop (mkF m 6 #[.val (.int p1), .unset, .unset, .unset] [(.int (22 : Int32)), (.int (p1 &&& (2147483647 : Int32)))])) _
    refine iremM (g := (mkF m 6 #[.val (.int p1), .unset, .unset, .unset] [(.int (22 : Int32)), (.int (p1 &&& (2147483647 : Int32)))])) X0 hx rfl (hb hby at_6) rfl (by decide) ?_
    show Steps p.tables e below (s₁.setTop (mkF m 7 #[.val (.int p1), .unset, .unset, .unset] [(.int ((p1 &&& (2147483647 : Int32)) % (22 : Int32)))])) _
    refine XS.istoreN X0.here hx rfl (hb hby at_7) rfl (l' := #[.val (.int p1), .val (.int ((p1 &&& (2147483647 : Int32)) % (22 : Int32))), .unset, .unset]) rfl ?_
    show Steps p.tables e below (s₁.setTop (mkF m 8 #[.val (.int p1), .val (.int ((p1 &&& (2147483647 : Int32)) % (22 : Int32))), .unset, .unset] [])) _
    exact kt
  rcases own_k p1 with hk2 | hk2 | hk2 | hk2 | hk2 | hk2 | hk2 | hk2 | hk2 | hk2 | hk2 | hk2 | hk2 | hk2 | hk2 | hk2 | hk2 | hk2 | hk2 | hk2 | hk2 | hk2
  · have R3 : ∀ tg, Steps p.tables e below (s₁.setTop (mkF m 8 #[.val (.int p1), .val (.int (0 : Int32)), .unset, .unset] [])) tg → Steps p.tables e below (s₁.setTop (mkF m 8 #[.val (.int p1), .val (.int ((p1 &&& (2147483647 : Int32)) % (22 : Int32))), .unset, .unset] [])) tg := fun tg kt => by rw [hk2]; exact kt
    obtain ⟨_, _, ⟨T4, L4, k4, n4⟩, -, X4, ⟨Lc4, hQ4, l4, y4, z4⟩, st4⟩ := Jvm.LawKit.callS X0 hx (y := (⟨"com/example/abaco/abaco/core/AtomicTypeIsCastTargetPinLaw", "pick", "(I)Lcom/example/abaco/abaco/core/AtomicType;"⟩ : MethodName)) hown (mvT hZ (hw _ (List.mem_of_getElem? (i := 1) rfl))) (mvT hZ (hw _ (List.mem_of_getElem? (i := 2) rfl))) (mvT hZ (hw _ (List.mem_of_getElem? (i := 3) rfl))) (mvT hZ (hw _ (List.mem_of_getElem? (i := 4) rfl))) (by decide) (backOf (W := 0) (rmP l Z a0 hw [] (0 : Int32) a_ANY_ATOMIC_TYPE a_NUMERIC a_STRING a_UNTYPED_ATOMIC a_BOOLEAN a_NOTATION a_DECIMAL a_FLOAT a_DOUBLE a_INTEGER a_NON_POSITIVE_INTEGER a_NEGATIVE_INTEGER a_LONG a_INT a_SHORT a_BYTE a_NON_NEGATIVE_INTEGER a_UNSIGNED_LONG a_UNSIGNED_INT a_UNSIGNED_SHORT a_UNSIGNED_BYTE a_POSITIVE_INTEGER h0 n0 Z0 S_ANY_ATOMIC_TYPE S_NUMERIC S_STRING S_UNTYPED_ATOMIC S_BOOLEAN S_NOTATION S_DECIMAL S_FLOAT S_DOUBLE S_INTEGER S_NON_POSITIVE_INTEGER S_NEGATIVE_INTEGER S_LONG S_INT S_SHORT S_BYTE S_NON_NEGATIVE_INTEGER S_UNSIGNED_LONG S_UNSIGNED_INT S_UNSIGNED_SHORT S_UNSIGNED_BYTE S_POSITIVE_INTEGER) hZ (hw _ (List.mem_of_getElem? (i := 4) rfl)) (hw _ (List.mem_of_getElem? (i := 3) rfl)) (by decide) (by decide)) (g := (mkF m 9 #[.val (.int p1), .val (.int (0 : Int32)), .unset, .unset] [(.int (0 : Int32))])) rfl (by rw [hml]; rfl) (argsL := [(.int (0 : Int32))]) (rest := []) (lenOf pd_0 rfl) rfl (by show 2 * 0 + _ ≤ _; exact Nat.le_of_eq rfl) (hb hby at_9) (fun _ _ => ⟨rfl, e0, (by decide : 0 + 0 ≤ _), (by decide : 0 + 0 ≤ _)⟩)
    dsimp only [Pt.U, Pt.locs, Pt.cells, Pt.slots] at X4 l4 y4 z4 st4 hQ4
    subst l4 y4 z4
    obtain ⟨hv4, N4q, r4⟩ := hQ4
    rw [if_pos rfl] at hv4
    subst hv4
    have N4 := Fr.app N0 N4q
    obtain ⟨cq5, kq5, q5a, q5b, q5c⟩ := isOf hZ r4 E_ANY_ATOMIC_TYPE
    obtain ⟨_, _, ⟨T5, L5, k5, n5⟩, -, X5, ⟨Lc5, hQ5, l5, y5, z5⟩, st5⟩ := X4.virtualBack hx (y := (⟨"com/example/abaco/abaco/core/AtomicType", "isCastTarget", "()Z"⟩ : MethodName)) (z := (⟨"com/example/abaco/abaco/core/AtomicType", "isCastTarget", "()Z"⟩ : MethodName)) hown (mvT hZ (hw _ (List.mem_of_getElem? (i := 8) rfl))) (mvT hZ (hw _ (List.mem_of_getElem? (i := 9) rfl))) (notFace_of_selects (args := #[]) (mvT hZ (hw _ (List.mem_of_getElem? (i := 11) rfl)))) (mvT hZ (hw _ (List.mem_of_getElem? (i := 11) rfl))) (mvT hZ (hw _ (List.mem_of_getElem? (i := 10) rfl))) (by decide) (backOf (W := 0) (rm1 l Z a0 hw [] a_ANY_ATOMIC_TYPE a_ANY_ATOMIC_TYPE a_NOTATION h0 n0 Z0 S_ANY_ATOMIC_TYPE S_NOTATION) hZ (hw _ (List.mem_of_getElem? (i := 12) rfl)) (hw _ (List.mem_of_getElem? (i := 6) rfl)) (by decide) (by decide)) q5a q5c (g := (mkF m 29 #[.val (.int p1), .val (.int (0 : Int32)), .val (.ref a_ANY_ATOMIC_TYPE), .val (.int (0 : Int32))] [(.ref a_ANY_ATOMIC_TYPE)])) rfl (by rw [hml]; rfl) (Steps.refl _) (argsL := []) (rest := []) (lenOf pd_1 rfl) rfl (by show 2 * 0 + _ ≤ _; exact Nat.le_of_eq rfl) (hb hby at_29) (fun _ _ => ⟨rfl, r4, (by decide : 0 + 0 ≤ _), (by decide : 0 + 0 ≤ _)⟩)
    dsimp only [Pt.U, Pt.locs, Pt.cells, Pt.slots] at X5 l5 y5 z5 st5 hQ5
    subst l5 y5 z5
    obtain ⟨hv5, N5q, r5⟩ := hQ5
    rw [(if_pos (Or.inl rfl))] at hv5
    subst hv5
    have N5 := Fr.app N4 N5q
    obtain ⟨fs, hr, hrun, hended, hW, hsame⟩ := X5.leave (v := some (.int (1 : Int32))) (fun h => by rw [Bd.returns] at h; cases h)
    refine ⟨_, _, pre0 _ (R1 _ (R3 _ ?_)), hrun, hended, _, _, rfl, ?_, ⟨_, rfl⟩, hW, hsame.mono (by decide) (by decide)⟩
    · show Steps p.tables e below (s₁.setTop (mkF m 8 #[.val (.int p1), .val (.int (0 : Int32)), .unset, .unset] [])) _
      refine XS.iloadN X0.here hx rfl (hb hby at_8) rfl ?_
      show Steps p.tables e below (s₁.setTop (mkF m 9 #[.val (.int p1), .val (.int (0 : Int32)), .unset, .unset] [(.int (0 : Int32))])) _
      refine st4 _ ?_
      show Steps p.tables e below (T4.setTop (mkF m 12 #[.val (.int p1), .val (.int (0 : Int32)), .unset, .unset] [(.ref a_ANY_ATOMIC_TYPE)])) _
      refine XS.astoreN X4.here hx rfl (hb hby at_12) rfl rfl (l' := #[.val (.int p1), .val (.int (0 : Int32)), .val (.ref a_ANY_ATOMIC_TYPE), .unset]) rfl ?_
      show Steps p.tables e below (T4.setTop (mkF m 13 #[.val (.int p1), .val (.int (0 : Int32)), .val (.ref a_ANY_ATOMIC_TYPE), .unset] [])) _
      refine XS.iloadN X4.here hx rfl (hb hby at_13) rfl ?_
      show Steps p.tables e below (T4.setTop (mkF m 14 #[.val (.int p1), .val (.int (0 : Int32)), .val (.ref a_ANY_ATOMIC_TYPE), .unset] [(.int (0 : Int32))])) _
      refine XS.ifYes X4.here hx rfl (pc0 := 14) (pc' := 26) rfl (hb hby at_14) rfl ((if0 _ _).trans (teq (by decide : (0 : Int32) = (0 : Int32))).1) (by decide) (by decide) ?_
      show Steps p.tables e below (T4.setTop (mkF m 26 #[.val (.int p1), .val (.int (0 : Int32)), .val (.ref a_ANY_ATOMIC_TYPE), .unset] [])) _
      refine XS.iconst X4.here hx rfl (hb hby at_26) ?_
      show Steps p.tables e below (T4.setTop (mkF m 27 #[.val (.int p1), .val (.int (0 : Int32)), .val (.ref a_ANY_ATOMIC_TYPE), .unset] [(.int (0 : Int32))])) _
      refine XS.istoreN X4.here hx rfl (hb hby at_27) rfl (l' := #[.val (.int p1), .val (.int (0 : Int32)), .val (.ref a_ANY_ATOMIC_TYPE), .val (.int (0 : Int32))]) rfl ?_
      show Steps p.tables e below (T4.setTop (mkF m 28 #[.val (.int p1), .val (.int (0 : Int32)), .val (.ref a_ANY_ATOMIC_TYPE), .val (.int (0 : Int32))] [])) _
      refine XS.aloadN X4.here hx rfl (hb hby at_28) rfl rfl ?_
      show Steps p.tables e below (T4.setTop (mkF m 29 #[.val (.int p1), .val (.int (0 : Int32)), .val (.ref a_ANY_ATOMIC_TYPE), .val (.int (0 : Int32))] [(.ref a_ANY_ATOMIC_TYPE)])) _
      refine st5.trans ?_
      show Steps p.tables e below (T5.setTop (mkF m 32 #[.val (.int p1), .val (.int (0 : Int32)), .val (.ref a_ANY_ATOMIC_TYPE), .val (.int (0 : Int32))] [(.int (0 : Int32))])) _
      refine XS.iloadN X5.here hx rfl (hb hby at_32) rfl ?_
      show Steps p.tables e below (T5.setTop (mkF m 33 #[.val (.int p1), .val (.int (0 : Int32)), .val (.ref a_ANY_ATOMIC_TYPE), .val (.int (0 : Int32))] [(.int (0 : Int32)), (.int (0 : Int32))])) _
      refine XS.icmpNo X5.here hx rfl (hb hby at_33) rfl (teq (by decide : (0 : Int32) = (0 : Int32))).2 ?_
      show Steps p.tables e below (T5.setTop (mkF m 36 #[.val (.int p1), .val (.int (0 : Int32)), .val (.ref a_ANY_ATOMIC_TYPE), .val (.int (0 : Int32))] [])) _
      refine XS.iconst X5.here hx rfl (hb hby at_36) ?_
      show Steps p.tables e below (T5.setTop (mkF m 37 #[.val (.int p1), .val (.int (0 : Int32)), .val (.ref a_ANY_ATOMIC_TYPE), .val (.int (0 : Int32))] [(.int (1 : Int32))])) _
      refine XS.goto X5.here hx rfl (pc0 := 37) (pc' := 41) rfl (hb hby at_37) (by decide) (by decide) ?_
      show Steps p.tables e below (T5.setTop (mkF m 41 #[.val (.int p1), .val (.int (0 : Int32)), .val (.ref a_ANY_ATOMIC_TYPE), .val (.int (0 : Int32))] [(.int (1 : Int32))])) _
      exact retN X5 hx (t := .boolean) Bd.returns (by simp) (hb hby at_41) hr
    · show Q0 n0 _ T5.heap _
      rw [r5]
      exact ⟨rfl, N5⟩
  · have R6 : ∀ tg, Steps p.tables e below (s₁.setTop (mkF m 8 #[.val (.int p1), .val (.int (1 : Int32)), .unset, .unset] [])) tg → Steps p.tables e below (s₁.setTop (mkF m 8 #[.val (.int p1), .val (.int ((p1 &&& (2147483647 : Int32)) % (22 : Int32))), .unset, .unset] [])) tg := fun tg kt => by rw [hk2]; exact kt
    obtain ⟨_, _, ⟨T7, L7, k7, n7⟩, -, X7, ⟨Lc7, hQ7, l7, y7, z7⟩, st7⟩ := Jvm.LawKit.callS X0 hx (y := (⟨"com/example/abaco/abaco/core/AtomicTypeIsCastTargetPinLaw", "pick", "(I)Lcom/example/abaco/abaco/core/AtomicType;"⟩ : MethodName)) hown (mvT hZ (hw _ (List.mem_of_getElem? (i := 1) rfl))) (mvT hZ (hw _ (List.mem_of_getElem? (i := 2) rfl))) (mvT hZ (hw _ (List.mem_of_getElem? (i := 3) rfl))) (mvT hZ (hw _ (List.mem_of_getElem? (i := 4) rfl))) (by decide) (backOf (W := 0) (rmP l Z a0 hw [] (1 : Int32) a_ANY_ATOMIC_TYPE a_NUMERIC a_STRING a_UNTYPED_ATOMIC a_BOOLEAN a_NOTATION a_DECIMAL a_FLOAT a_DOUBLE a_INTEGER a_NON_POSITIVE_INTEGER a_NEGATIVE_INTEGER a_LONG a_INT a_SHORT a_BYTE a_NON_NEGATIVE_INTEGER a_UNSIGNED_LONG a_UNSIGNED_INT a_UNSIGNED_SHORT a_UNSIGNED_BYTE a_POSITIVE_INTEGER h0 n0 Z0 S_ANY_ATOMIC_TYPE S_NUMERIC S_STRING S_UNTYPED_ATOMIC S_BOOLEAN S_NOTATION S_DECIMAL S_FLOAT S_DOUBLE S_INTEGER S_NON_POSITIVE_INTEGER S_NEGATIVE_INTEGER S_LONG S_INT S_SHORT S_BYTE S_NON_NEGATIVE_INTEGER S_UNSIGNED_LONG S_UNSIGNED_INT S_UNSIGNED_SHORT S_UNSIGNED_BYTE S_POSITIVE_INTEGER) hZ (hw _ (List.mem_of_getElem? (i := 4) rfl)) (hw _ (List.mem_of_getElem? (i := 3) rfl)) (by decide) (by decide)) (g := (mkF m 9 #[.val (.int p1), .val (.int (1 : Int32)), .unset, .unset] [(.int (1 : Int32))])) rfl (by rw [hml]; rfl) (argsL := [(.int (1 : Int32))]) (rest := []) (lenOf pd_0 rfl) rfl (by show 2 * 0 + _ ≤ _; exact Nat.le_of_eq rfl) (hb hby at_9) (fun _ _ => ⟨rfl, e0, (by decide : 0 + 0 ≤ _), (by decide : 0 + 0 ≤ _)⟩)
    dsimp only [Pt.U, Pt.locs, Pt.cells, Pt.slots] at X7 l7 y7 z7 st7 hQ7
    subst l7 y7 z7
    obtain ⟨hv7, N7q, r7⟩ := hQ7
    rw [if_neg (by decide), if_pos rfl] at hv7
    subst hv7
    have N7 := Fr.app N0 N7q
    obtain ⟨cq8, kq8, q8a, q8b, q8c⟩ := isOf hZ r7 E_NUMERIC
    obtain ⟨_, _, ⟨T8, L8, k8, n8⟩, -, X8, ⟨Lc8, hQ8, l8, y8, z8⟩, st8⟩ := X7.virtualBack hx (y := (⟨"com/example/abaco/abaco/core/AtomicType", "isCastTarget", "()Z"⟩ : MethodName)) (z := (⟨"com/example/abaco/abaco/core/AtomicType", "isCastTarget", "()Z"⟩ : MethodName)) hown (mvT hZ (hw _ (List.mem_of_getElem? (i := 8) rfl))) (mvT hZ (hw _ (List.mem_of_getElem? (i := 9) rfl))) (notFace_of_selects (args := #[]) (mvT hZ (hw _ (List.mem_of_getElem? (i := 11) rfl)))) (mvT hZ (hw _ (List.mem_of_getElem? (i := 11) rfl))) (mvT hZ (hw _ (List.mem_of_getElem? (i := 10) rfl))) (by decide) (backOf (W := 0) (rm1 l Z a0 hw [] a_NUMERIC a_ANY_ATOMIC_TYPE a_NOTATION h0 n0 Z0 S_ANY_ATOMIC_TYPE S_NOTATION) hZ (hw _ (List.mem_of_getElem? (i := 12) rfl)) (hw _ (List.mem_of_getElem? (i := 6) rfl)) (by decide) (by decide)) q8a q8c (g := (mkF m 29 #[.val (.int p1), .val (.int (1 : Int32)), .val (.ref a_NUMERIC), .val (.int (1 : Int32))] [(.ref a_NUMERIC)])) rfl (by rw [hml]; rfl) (Steps.refl _) (argsL := []) (rest := []) (lenOf pd_1 rfl) rfl (by show 2 * 0 + _ ≤ _; exact Nat.le_of_eq rfl) (hb hby at_29) (fun _ _ => ⟨rfl, r7, (by decide : 0 + 0 ≤ _), (by decide : 0 + 0 ≤ _)⟩)
    dsimp only [Pt.U, Pt.locs, Pt.cells, Pt.slots] at X8 l8 y8 z8 st8 hQ8
    subst l8 y8 z8
    obtain ⟨hv8, N8q, r8⟩ := hQ8
    rw [(if_neg (fun h => h.elim (own_ne_fld F_NUMERIC_ordinal F_ANY_ATOMIC_TYPE_ordinal (by decide)) (own_ne_fld F_NUMERIC_ordinal F_NOTATION_ordinal (by decide))))] at hv8
    subst hv8
    have N8 := Fr.app N7 N8q
    obtain ⟨fs, hr, hrun, hended, hW, hsame⟩ := X8.leave (v := some (.int (1 : Int32))) (fun h => by rw [Bd.returns] at h; cases h)
    refine ⟨_, _, pre0 _ (R1 _ (R6 _ ?_)), hrun, hended, _, _, rfl, ?_, ⟨_, rfl⟩, hW, hsame.mono (by decide) (by decide)⟩
    · show Steps p.tables e below (s₁.setTop (mkF m 8 #[.val (.int p1), .val (.int (1 : Int32)), .unset, .unset] [])) _
      refine XS.iloadN X0.here hx rfl (hb hby at_8) rfl ?_
      show Steps p.tables e below (s₁.setTop (mkF m 9 #[.val (.int p1), .val (.int (1 : Int32)), .unset, .unset] [(.int (1 : Int32))])) _
      refine st7 _ ?_
      show Steps p.tables e below (T7.setTop (mkF m 12 #[.val (.int p1), .val (.int (1 : Int32)), .unset, .unset] [(.ref a_NUMERIC)])) _
      refine XS.astoreN X7.here hx rfl (hb hby at_12) rfl rfl (l' := #[.val (.int p1), .val (.int (1 : Int32)), .val (.ref a_NUMERIC), .unset]) rfl ?_
      show Steps p.tables e below (T7.setTop (mkF m 13 #[.val (.int p1), .val (.int (1 : Int32)), .val (.ref a_NUMERIC), .unset] [])) _
      refine XS.iloadN X7.here hx rfl (hb hby at_13) rfl ?_
      show Steps p.tables e below (T7.setTop (mkF m 14 #[.val (.int p1), .val (.int (1 : Int32)), .val (.ref a_NUMERIC), .unset] [(.int (1 : Int32))])) _
      refine XS.ifNo X7.here hx rfl (hb hby at_14) rfl ((if0 _ _).trans (feq (by decide : ¬ ((1 : Int32) = (0 : Int32)))).1) ?_
      show Steps p.tables e below (T7.setTop (mkF m 17 #[.val (.int p1), .val (.int (1 : Int32)), .val (.ref a_NUMERIC), .unset] [])) _
      refine XS.iloadN X7.here hx rfl (hb hby at_17) rfl ?_
      show Steps p.tables e below (T7.setTop (mkF m 18 #[.val (.int p1), .val (.int (1 : Int32)), .val (.ref a_NUMERIC), .unset] [(.int (1 : Int32))])) _
      refine XS.iconst X7.here hx rfl (hb hby at_18) ?_
      show Steps p.tables e below (T7.setTop (mkF m 19 #[.val (.int p1), .val (.int (1 : Int32)), .val (.ref a_NUMERIC), .unset] [(.int (5 : Int32)), (.int (1 : Int32))])) _
      refine XS.icmpNo X7.here hx rfl (hb hby at_19) rfl (feq (by decide : ¬ ((1 : Int32) = (5 : Int32)))).1 ?_
      show Steps p.tables e below (T7.setTop (mkF m 22 #[.val (.int p1), .val (.int (1 : Int32)), .val (.ref a_NUMERIC), .unset] [])) _
      refine XS.iconst X7.here hx rfl (hb hby at_22) ?_
      show Steps p.tables e below (T7.setTop (mkF m 23 #[.val (.int p1), .val (.int (1 : Int32)), .val (.ref a_NUMERIC), .unset] [(.int (1 : Int32))])) _
      refine XS.goto X7.here hx rfl (pc0 := 23) (pc' := 27) rfl (hb hby at_23) (by decide) (by decide) ?_
      show Steps p.tables e below (T7.setTop (mkF m 27 #[.val (.int p1), .val (.int (1 : Int32)), .val (.ref a_NUMERIC), .unset] [(.int (1 : Int32))])) _
      refine XS.istoreN X7.here hx rfl (hb hby at_27) rfl (l' := #[.val (.int p1), .val (.int (1 : Int32)), .val (.ref a_NUMERIC), .val (.int (1 : Int32))]) rfl ?_
      show Steps p.tables e below (T7.setTop (mkF m 28 #[.val (.int p1), .val (.int (1 : Int32)), .val (.ref a_NUMERIC), .val (.int (1 : Int32))] [])) _
      refine XS.aloadN X7.here hx rfl (hb hby at_28) rfl rfl ?_
      show Steps p.tables e below (T7.setTop (mkF m 29 #[.val (.int p1), .val (.int (1 : Int32)), .val (.ref a_NUMERIC), .val (.int (1 : Int32))] [(.ref a_NUMERIC)])) _
      refine st8.trans ?_
      show Steps p.tables e below (T8.setTop (mkF m 32 #[.val (.int p1), .val (.int (1 : Int32)), .val (.ref a_NUMERIC), .val (.int (1 : Int32))] [(.int (1 : Int32))])) _
      refine XS.iloadN X8.here hx rfl (hb hby at_32) rfl ?_
      show Steps p.tables e below (T8.setTop (mkF m 33 #[.val (.int p1), .val (.int (1 : Int32)), .val (.ref a_NUMERIC), .val (.int (1 : Int32))] [(.int (1 : Int32)), (.int (1 : Int32))])) _
      refine XS.icmpNo X8.here hx rfl (hb hby at_33) rfl (teq (by decide : (1 : Int32) = (1 : Int32))).2 ?_
      show Steps p.tables e below (T8.setTop (mkF m 36 #[.val (.int p1), .val (.int (1 : Int32)), .val (.ref a_NUMERIC), .val (.int (1 : Int32))] [])) _
      refine XS.iconst X8.here hx rfl (hb hby at_36) ?_
      show Steps p.tables e below (T8.setTop (mkF m 37 #[.val (.int p1), .val (.int (1 : Int32)), .val (.ref a_NUMERIC), .val (.int (1 : Int32))] [(.int (1 : Int32))])) _
      refine XS.goto X8.here hx rfl (pc0 := 37) (pc' := 41) rfl (hb hby at_37) (by decide) (by decide) ?_
      show Steps p.tables e below (T8.setTop (mkF m 41 #[.val (.int p1), .val (.int (1 : Int32)), .val (.ref a_NUMERIC), .val (.int (1 : Int32))] [(.int (1 : Int32))])) _
      exact retN X8 hx (t := .boolean) Bd.returns (by simp) (hb hby at_41) hr
    · show Q0 n0 _ T8.heap _
      rw [r8]
      exact ⟨rfl, N8⟩
  · have R9 : ∀ tg, Steps p.tables e below (s₁.setTop (mkF m 8 #[.val (.int p1), .val (.int (2 : Int32)), .unset, .unset] [])) tg → Steps p.tables e below (s₁.setTop (mkF m 8 #[.val (.int p1), .val (.int ((p1 &&& (2147483647 : Int32)) % (22 : Int32))), .unset, .unset] [])) tg := fun tg kt => by rw [hk2]; exact kt
    obtain ⟨_, _, ⟨T10, L10, k10, n10⟩, -, X10, ⟨Lc10, hQ10, l10, y10, z10⟩, st10⟩ := Jvm.LawKit.callS X0 hx (y := (⟨"com/example/abaco/abaco/core/AtomicTypeIsCastTargetPinLaw", "pick", "(I)Lcom/example/abaco/abaco/core/AtomicType;"⟩ : MethodName)) hown (mvT hZ (hw _ (List.mem_of_getElem? (i := 1) rfl))) (mvT hZ (hw _ (List.mem_of_getElem? (i := 2) rfl))) (mvT hZ (hw _ (List.mem_of_getElem? (i := 3) rfl))) (mvT hZ (hw _ (List.mem_of_getElem? (i := 4) rfl))) (by decide) (backOf (W := 0) (rmP l Z a0 hw [] (2 : Int32) a_ANY_ATOMIC_TYPE a_NUMERIC a_STRING a_UNTYPED_ATOMIC a_BOOLEAN a_NOTATION a_DECIMAL a_FLOAT a_DOUBLE a_INTEGER a_NON_POSITIVE_INTEGER a_NEGATIVE_INTEGER a_LONG a_INT a_SHORT a_BYTE a_NON_NEGATIVE_INTEGER a_UNSIGNED_LONG a_UNSIGNED_INT a_UNSIGNED_SHORT a_UNSIGNED_BYTE a_POSITIVE_INTEGER h0 n0 Z0 S_ANY_ATOMIC_TYPE S_NUMERIC S_STRING S_UNTYPED_ATOMIC S_BOOLEAN S_NOTATION S_DECIMAL S_FLOAT S_DOUBLE S_INTEGER S_NON_POSITIVE_INTEGER S_NEGATIVE_INTEGER S_LONG S_INT S_SHORT S_BYTE S_NON_NEGATIVE_INTEGER S_UNSIGNED_LONG S_UNSIGNED_INT S_UNSIGNED_SHORT S_UNSIGNED_BYTE S_POSITIVE_INTEGER) hZ (hw _ (List.mem_of_getElem? (i := 4) rfl)) (hw _ (List.mem_of_getElem? (i := 3) rfl)) (by decide) (by decide)) (g := (mkF m 9 #[.val (.int p1), .val (.int (2 : Int32)), .unset, .unset] [(.int (2 : Int32))])) rfl (by rw [hml]; rfl) (argsL := [(.int (2 : Int32))]) (rest := []) (lenOf pd_0 rfl) rfl (by show 2 * 0 + _ ≤ _; exact Nat.le_of_eq rfl) (hb hby at_9) (fun _ _ => ⟨rfl, e0, (by decide : 0 + 0 ≤ _), (by decide : 0 + 0 ≤ _)⟩)
    dsimp only [Pt.U, Pt.locs, Pt.cells, Pt.slots] at X10 l10 y10 z10 st10 hQ10
    subst l10 y10 z10
    obtain ⟨hv10, N10q, r10⟩ := hQ10
    rw [if_neg (by decide), if_neg (by decide), if_pos rfl] at hv10
    subst hv10
    have N10 := Fr.app N0 N10q
    obtain ⟨cq11, kq11, q11a, q11b, q11c⟩ := isOf hZ r10 E_STRING
    obtain ⟨_, _, ⟨T11, L11, k11, n11⟩, -, X11, ⟨Lc11, hQ11, l11, y11, z11⟩, st11⟩ := X10.virtualBack hx (y := (⟨"com/example/abaco/abaco/core/AtomicType", "isCastTarget", "()Z"⟩ : MethodName)) (z := (⟨"com/example/abaco/abaco/core/AtomicType", "isCastTarget", "()Z"⟩ : MethodName)) hown (mvT hZ (hw _ (List.mem_of_getElem? (i := 8) rfl))) (mvT hZ (hw _ (List.mem_of_getElem? (i := 9) rfl))) (notFace_of_selects (args := #[]) (mvT hZ (hw _ (List.mem_of_getElem? (i := 11) rfl)))) (mvT hZ (hw _ (List.mem_of_getElem? (i := 11) rfl))) (mvT hZ (hw _ (List.mem_of_getElem? (i := 10) rfl))) (by decide) (backOf (W := 0) (rm1 l Z a0 hw [] a_STRING a_ANY_ATOMIC_TYPE a_NOTATION h0 n0 Z0 S_ANY_ATOMIC_TYPE S_NOTATION) hZ (hw _ (List.mem_of_getElem? (i := 12) rfl)) (hw _ (List.mem_of_getElem? (i := 6) rfl)) (by decide) (by decide)) q11a q11c (g := (mkF m 29 #[.val (.int p1), .val (.int (2 : Int32)), .val (.ref a_STRING), .val (.int (1 : Int32))] [(.ref a_STRING)])) rfl (by rw [hml]; rfl) (Steps.refl _) (argsL := []) (rest := []) (lenOf pd_1 rfl) rfl (by show 2 * 0 + _ ≤ _; exact Nat.le_of_eq rfl) (hb hby at_29) (fun _ _ => ⟨rfl, r10, (by decide : 0 + 0 ≤ _), (by decide : 0 + 0 ≤ _)⟩)
    dsimp only [Pt.U, Pt.locs, Pt.cells, Pt.slots] at X11 l11 y11 z11 st11 hQ11
    subst l11 y11 z11
    obtain ⟨hv11, N11q, r11⟩ := hQ11
    rw [(if_neg (fun h => h.elim (own_ne_fld F_STRING_ordinal F_ANY_ATOMIC_TYPE_ordinal (by decide)) (own_ne_fld F_STRING_ordinal F_NOTATION_ordinal (by decide))))] at hv11
    subst hv11
    have N11 := Fr.app N10 N11q
    obtain ⟨fs, hr, hrun, hended, hW, hsame⟩ := X11.leave (v := some (.int (1 : Int32))) (fun h => by rw [Bd.returns] at h; cases h)
    refine ⟨_, _, pre0 _ (R1 _ (R9 _ ?_)), hrun, hended, _, _, rfl, ?_, ⟨_, rfl⟩, hW, hsame.mono (by decide) (by decide)⟩
    · show Steps p.tables e below (s₁.setTop (mkF m 8 #[.val (.int p1), .val (.int (2 : Int32)), .unset, .unset] [])) _
      refine XS.iloadN X0.here hx rfl (hb hby at_8) rfl ?_
      show Steps p.tables e below (s₁.setTop (mkF m 9 #[.val (.int p1), .val (.int (2 : Int32)), .unset, .unset] [(.int (2 : Int32))])) _
      refine st10 _ ?_
      show Steps p.tables e below (T10.setTop (mkF m 12 #[.val (.int p1), .val (.int (2 : Int32)), .unset, .unset] [(.ref a_STRING)])) _
      refine XS.astoreN X10.here hx rfl (hb hby at_12) rfl rfl (l' := #[.val (.int p1), .val (.int (2 : Int32)), .val (.ref a_STRING), .unset]) rfl ?_
      show Steps p.tables e below (T10.setTop (mkF m 13 #[.val (.int p1), .val (.int (2 : Int32)), .val (.ref a_STRING), .unset] [])) _
      refine XS.iloadN X10.here hx rfl (hb hby at_13) rfl ?_
      show Steps p.tables e below (T10.setTop (mkF m 14 #[.val (.int p1), .val (.int (2 : Int32)), .val (.ref a_STRING), .unset] [(.int (2 : Int32))])) _
      refine XS.ifNo X10.here hx rfl (hb hby at_14) rfl ((if0 _ _).trans (feq (by decide : ¬ ((2 : Int32) = (0 : Int32)))).1) ?_
      show Steps p.tables e below (T10.setTop (mkF m 17 #[.val (.int p1), .val (.int (2 : Int32)), .val (.ref a_STRING), .unset] [])) _
      refine XS.iloadN X10.here hx rfl (hb hby at_17) rfl ?_
      show Steps p.tables e below (T10.setTop (mkF m 18 #[.val (.int p1), .val (.int (2 : Int32)), .val (.ref a_STRING), .unset] [(.int (2 : Int32))])) _
      refine XS.iconst X10.here hx rfl (hb hby at_18) ?_
      show Steps p.tables e below (T10.setTop (mkF m 19 #[.val (.int p1), .val (.int (2 : Int32)), .val (.ref a_STRING), .unset] [(.int (5 : Int32)), (.int (2 : Int32))])) _
      refine XS.icmpNo X10.here hx rfl (hb hby at_19) rfl (feq (by decide : ¬ ((2 : Int32) = (5 : Int32)))).1 ?_
      show Steps p.tables e below (T10.setTop (mkF m 22 #[.val (.int p1), .val (.int (2 : Int32)), .val (.ref a_STRING), .unset] [])) _
      refine XS.iconst X10.here hx rfl (hb hby at_22) ?_
      show Steps p.tables e below (T10.setTop (mkF m 23 #[.val (.int p1), .val (.int (2 : Int32)), .val (.ref a_STRING), .unset] [(.int (1 : Int32))])) _
      refine XS.goto X10.here hx rfl (pc0 := 23) (pc' := 27) rfl (hb hby at_23) (by decide) (by decide) ?_
      show Steps p.tables e below (T10.setTop (mkF m 27 #[.val (.int p1), .val (.int (2 : Int32)), .val (.ref a_STRING), .unset] [(.int (1 : Int32))])) _
      refine XS.istoreN X10.here hx rfl (hb hby at_27) rfl (l' := #[.val (.int p1), .val (.int (2 : Int32)), .val (.ref a_STRING), .val (.int (1 : Int32))]) rfl ?_
      show Steps p.tables e below (T10.setTop (mkF m 28 #[.val (.int p1), .val (.int (2 : Int32)), .val (.ref a_STRING), .val (.int (1 : Int32))] [])) _
      refine XS.aloadN X10.here hx rfl (hb hby at_28) rfl rfl ?_
      show Steps p.tables e below (T10.setTop (mkF m 29 #[.val (.int p1), .val (.int (2 : Int32)), .val (.ref a_STRING), .val (.int (1 : Int32))] [(.ref a_STRING)])) _
      refine st11.trans ?_
      show Steps p.tables e below (T11.setTop (mkF m 32 #[.val (.int p1), .val (.int (2 : Int32)), .val (.ref a_STRING), .val (.int (1 : Int32))] [(.int (1 : Int32))])) _
      refine XS.iloadN X11.here hx rfl (hb hby at_32) rfl ?_
      show Steps p.tables e below (T11.setTop (mkF m 33 #[.val (.int p1), .val (.int (2 : Int32)), .val (.ref a_STRING), .val (.int (1 : Int32))] [(.int (1 : Int32)), (.int (1 : Int32))])) _
      refine XS.icmpNo X11.here hx rfl (hb hby at_33) rfl (teq (by decide : (1 : Int32) = (1 : Int32))).2 ?_
      show Steps p.tables e below (T11.setTop (mkF m 36 #[.val (.int p1), .val (.int (2 : Int32)), .val (.ref a_STRING), .val (.int (1 : Int32))] [])) _
      refine XS.iconst X11.here hx rfl (hb hby at_36) ?_
      show Steps p.tables e below (T11.setTop (mkF m 37 #[.val (.int p1), .val (.int (2 : Int32)), .val (.ref a_STRING), .val (.int (1 : Int32))] [(.int (1 : Int32))])) _
      refine XS.goto X11.here hx rfl (pc0 := 37) (pc' := 41) rfl (hb hby at_37) (by decide) (by decide) ?_
      show Steps p.tables e below (T11.setTop (mkF m 41 #[.val (.int p1), .val (.int (2 : Int32)), .val (.ref a_STRING), .val (.int (1 : Int32))] [(.int (1 : Int32))])) _
      exact retN X11 hx (t := .boolean) Bd.returns (by simp) (hb hby at_41) hr
    · show Q0 n0 _ T11.heap _
      rw [r11]
      exact ⟨rfl, N11⟩
  · have R12 : ∀ tg, Steps p.tables e below (s₁.setTop (mkF m 8 #[.val (.int p1), .val (.int (3 : Int32)), .unset, .unset] [])) tg → Steps p.tables e below (s₁.setTop (mkF m 8 #[.val (.int p1), .val (.int ((p1 &&& (2147483647 : Int32)) % (22 : Int32))), .unset, .unset] [])) tg := fun tg kt => by rw [hk2]; exact kt
    obtain ⟨_, _, ⟨T13, L13, k13, n13⟩, -, X13, ⟨Lc13, hQ13, l13, y13, z13⟩, st13⟩ := Jvm.LawKit.callS X0 hx (y := (⟨"com/example/abaco/abaco/core/AtomicTypeIsCastTargetPinLaw", "pick", "(I)Lcom/example/abaco/abaco/core/AtomicType;"⟩ : MethodName)) hown (mvT hZ (hw _ (List.mem_of_getElem? (i := 1) rfl))) (mvT hZ (hw _ (List.mem_of_getElem? (i := 2) rfl))) (mvT hZ (hw _ (List.mem_of_getElem? (i := 3) rfl))) (mvT hZ (hw _ (List.mem_of_getElem? (i := 4) rfl))) (by decide) (backOf (W := 0) (rmP l Z a0 hw [] (3 : Int32) a_ANY_ATOMIC_TYPE a_NUMERIC a_STRING a_UNTYPED_ATOMIC a_BOOLEAN a_NOTATION a_DECIMAL a_FLOAT a_DOUBLE a_INTEGER a_NON_POSITIVE_INTEGER a_NEGATIVE_INTEGER a_LONG a_INT a_SHORT a_BYTE a_NON_NEGATIVE_INTEGER a_UNSIGNED_LONG a_UNSIGNED_INT a_UNSIGNED_SHORT a_UNSIGNED_BYTE a_POSITIVE_INTEGER h0 n0 Z0 S_ANY_ATOMIC_TYPE S_NUMERIC S_STRING S_UNTYPED_ATOMIC S_BOOLEAN S_NOTATION S_DECIMAL S_FLOAT S_DOUBLE S_INTEGER S_NON_POSITIVE_INTEGER S_NEGATIVE_INTEGER S_LONG S_INT S_SHORT S_BYTE S_NON_NEGATIVE_INTEGER S_UNSIGNED_LONG S_UNSIGNED_INT S_UNSIGNED_SHORT S_UNSIGNED_BYTE S_POSITIVE_INTEGER) hZ (hw _ (List.mem_of_getElem? (i := 4) rfl)) (hw _ (List.mem_of_getElem? (i := 3) rfl)) (by decide) (by decide)) (g := (mkF m 9 #[.val (.int p1), .val (.int (3 : Int32)), .unset, .unset] [(.int (3 : Int32))])) rfl (by rw [hml]; rfl) (argsL := [(.int (3 : Int32))]) (rest := []) (lenOf pd_0 rfl) rfl (by show 2 * 0 + _ ≤ _; exact Nat.le_of_eq rfl) (hb hby at_9) (fun _ _ => ⟨rfl, e0, (by decide : 0 + 0 ≤ _), (by decide : 0 + 0 ≤ _)⟩)
    dsimp only [Pt.U, Pt.locs, Pt.cells, Pt.slots] at X13 l13 y13 z13 st13 hQ13
    subst l13 y13 z13
    obtain ⟨hv13, N13q, r13⟩ := hQ13
    rw [if_neg (by decide), if_neg (by decide), if_neg (by decide), if_pos rfl] at hv13
    subst hv13
    have N13 := Fr.app N0 N13q
    obtain ⟨cq14, kq14, q14a, q14b, q14c⟩ := isOf hZ r13 E_UNTYPED_ATOMIC
    obtain ⟨_, _, ⟨T14, L14, k14, n14⟩, -, X14, ⟨Lc14, hQ14, l14, y14, z14⟩, st14⟩ := X13.virtualBack hx (y := (⟨"com/example/abaco/abaco/core/AtomicType", "isCastTarget", "()Z"⟩ : MethodName)) (z := (⟨"com/example/abaco/abaco/core/AtomicType", "isCastTarget", "()Z"⟩ : MethodName)) hown (mvT hZ (hw _ (List.mem_of_getElem? (i := 8) rfl))) (mvT hZ (hw _ (List.mem_of_getElem? (i := 9) rfl))) (notFace_of_selects (args := #[]) (mvT hZ (hw _ (List.mem_of_getElem? (i := 11) rfl)))) (mvT hZ (hw _ (List.mem_of_getElem? (i := 11) rfl))) (mvT hZ (hw _ (List.mem_of_getElem? (i := 10) rfl))) (by decide) (backOf (W := 0) (rm1 l Z a0 hw [] a_UNTYPED_ATOMIC a_ANY_ATOMIC_TYPE a_NOTATION h0 n0 Z0 S_ANY_ATOMIC_TYPE S_NOTATION) hZ (hw _ (List.mem_of_getElem? (i := 12) rfl)) (hw _ (List.mem_of_getElem? (i := 6) rfl)) (by decide) (by decide)) q14a q14c (g := (mkF m 29 #[.val (.int p1), .val (.int (3 : Int32)), .val (.ref a_UNTYPED_ATOMIC), .val (.int (1 : Int32))] [(.ref a_UNTYPED_ATOMIC)])) rfl (by rw [hml]; rfl) (Steps.refl _) (argsL := []) (rest := []) (lenOf pd_1 rfl) rfl (by show 2 * 0 + _ ≤ _; exact Nat.le_of_eq rfl) (hb hby at_29) (fun _ _ => ⟨rfl, r13, (by decide : 0 + 0 ≤ _), (by decide : 0 + 0 ≤ _)⟩)
    dsimp only [Pt.U, Pt.locs, Pt.cells, Pt.slots] at X14 l14 y14 z14 st14 hQ14
    subst l14 y14 z14
    obtain ⟨hv14, N14q, r14⟩ := hQ14
    rw [(if_neg (fun h => h.elim (own_ne_fld F_UNTYPED_ATOMIC_ordinal F_ANY_ATOMIC_TYPE_ordinal (by decide)) (own_ne_fld F_UNTYPED_ATOMIC_ordinal F_NOTATION_ordinal (by decide))))] at hv14
    subst hv14
    have N14 := Fr.app N13 N14q
    obtain ⟨fs, hr, hrun, hended, hW, hsame⟩ := X14.leave (v := some (.int (1 : Int32))) (fun h => by rw [Bd.returns] at h; cases h)
    refine ⟨_, _, pre0 _ (R1 _ (R12 _ ?_)), hrun, hended, _, _, rfl, ?_, ⟨_, rfl⟩, hW, hsame.mono (by decide) (by decide)⟩
    · show Steps p.tables e below (s₁.setTop (mkF m 8 #[.val (.int p1), .val (.int (3 : Int32)), .unset, .unset] [])) _
      refine XS.iloadN X0.here hx rfl (hb hby at_8) rfl ?_
      show Steps p.tables e below (s₁.setTop (mkF m 9 #[.val (.int p1), .val (.int (3 : Int32)), .unset, .unset] [(.int (3 : Int32))])) _
      refine st13 _ ?_
      show Steps p.tables e below (T13.setTop (mkF m 12 #[.val (.int p1), .val (.int (3 : Int32)), .unset, .unset] [(.ref a_UNTYPED_ATOMIC)])) _
      refine XS.astoreN X13.here hx rfl (hb hby at_12) rfl rfl (l' := #[.val (.int p1), .val (.int (3 : Int32)), .val (.ref a_UNTYPED_ATOMIC), .unset]) rfl ?_
      show Steps p.tables e below (T13.setTop (mkF m 13 #[.val (.int p1), .val (.int (3 : Int32)), .val (.ref a_UNTYPED_ATOMIC), .unset] [])) _
      refine XS.iloadN X13.here hx rfl (hb hby at_13) rfl ?_
      show Steps p.tables e below (T13.setTop (mkF m 14 #[.val (.int p1), .val (.int (3 : Int32)), .val (.ref a_UNTYPED_ATOMIC), .unset] [(.int (3 : Int32))])) _
      refine XS.ifNo X13.here hx rfl (hb hby at_14) rfl ((if0 _ _).trans (feq (by decide : ¬ ((3 : Int32) = (0 : Int32)))).1) ?_
      show Steps p.tables e below (T13.setTop (mkF m 17 #[.val (.int p1), .val (.int (3 : Int32)), .val (.ref a_UNTYPED_ATOMIC), .unset] [])) _
      refine XS.iloadN X13.here hx rfl (hb hby at_17) rfl ?_
      show Steps p.tables e below (T13.setTop (mkF m 18 #[.val (.int p1), .val (.int (3 : Int32)), .val (.ref a_UNTYPED_ATOMIC), .unset] [(.int (3 : Int32))])) _
      refine XS.iconst X13.here hx rfl (hb hby at_18) ?_
      show Steps p.tables e below (T13.setTop (mkF m 19 #[.val (.int p1), .val (.int (3 : Int32)), .val (.ref a_UNTYPED_ATOMIC), .unset] [(.int (5 : Int32)), (.int (3 : Int32))])) _
      refine XS.icmpNo X13.here hx rfl (hb hby at_19) rfl (feq (by decide : ¬ ((3 : Int32) = (5 : Int32)))).1 ?_
      show Steps p.tables e below (T13.setTop (mkF m 22 #[.val (.int p1), .val (.int (3 : Int32)), .val (.ref a_UNTYPED_ATOMIC), .unset] [])) _
      refine XS.iconst X13.here hx rfl (hb hby at_22) ?_
      show Steps p.tables e below (T13.setTop (mkF m 23 #[.val (.int p1), .val (.int (3 : Int32)), .val (.ref a_UNTYPED_ATOMIC), .unset] [(.int (1 : Int32))])) _
      refine XS.goto X13.here hx rfl (pc0 := 23) (pc' := 27) rfl (hb hby at_23) (by decide) (by decide) ?_
      show Steps p.tables e below (T13.setTop (mkF m 27 #[.val (.int p1), .val (.int (3 : Int32)), .val (.ref a_UNTYPED_ATOMIC), .unset] [(.int (1 : Int32))])) _
      refine XS.istoreN X13.here hx rfl (hb hby at_27) rfl (l' := #[.val (.int p1), .val (.int (3 : Int32)), .val (.ref a_UNTYPED_ATOMIC), .val (.int (1 : Int32))]) rfl ?_
      show Steps p.tables e below (T13.setTop (mkF m 28 #[.val (.int p1), .val (.int (3 : Int32)), .val (.ref a_UNTYPED_ATOMIC), .val (.int (1 : Int32))] [])) _
      refine XS.aloadN X13.here hx rfl (hb hby at_28) rfl rfl ?_
      show Steps p.tables e below (T13.setTop (mkF m 29 #[.val (.int p1), .val (.int (3 : Int32)), .val (.ref a_UNTYPED_ATOMIC), .val (.int (1 : Int32))] [(.ref a_UNTYPED_ATOMIC)])) _
      refine st14.trans ?_
      show Steps p.tables e below (T14.setTop (mkF m 32 #[.val (.int p1), .val (.int (3 : Int32)), .val (.ref a_UNTYPED_ATOMIC), .val (.int (1 : Int32))] [(.int (1 : Int32))])) _
      refine XS.iloadN X14.here hx rfl (hb hby at_32) rfl ?_
      show Steps p.tables e below (T14.setTop (mkF m 33 #[.val (.int p1), .val (.int (3 : Int32)), .val (.ref a_UNTYPED_ATOMIC), .val (.int (1 : Int32))] [(.int (1 : Int32)), (.int (1 : Int32))])) _
      refine XS.icmpNo X14.here hx rfl (hb hby at_33) rfl (teq (by decide : (1 : Int32) = (1 : Int32))).2 ?_
      show Steps p.tables e below (T14.setTop (mkF m 36 #[.val (.int p1), .val (.int (3 : Int32)), .val (.ref a_UNTYPED_ATOMIC), .val (.int (1 : Int32))] [])) _
      refine XS.iconst X14.here hx rfl (hb hby at_36) ?_
      show Steps p.tables e below (T14.setTop (mkF m 37 #[.val (.int p1), .val (.int (3 : Int32)), .val (.ref a_UNTYPED_ATOMIC), .val (.int (1 : Int32))] [(.int (1 : Int32))])) _
      refine XS.goto X14.here hx rfl (pc0 := 37) (pc' := 41) rfl (hb hby at_37) (by decide) (by decide) ?_
      show Steps p.tables e below (T14.setTop (mkF m 41 #[.val (.int p1), .val (.int (3 : Int32)), .val (.ref a_UNTYPED_ATOMIC), .val (.int (1 : Int32))] [(.int (1 : Int32))])) _
      exact retN X14 hx (t := .boolean) Bd.returns (by simp) (hb hby at_41) hr
    · show Q0 n0 _ T14.heap _
      rw [r14]
      exact ⟨rfl, N14⟩
  · have R15 : ∀ tg, Steps p.tables e below (s₁.setTop (mkF m 8 #[.val (.int p1), .val (.int (4 : Int32)), .unset, .unset] [])) tg → Steps p.tables e below (s₁.setTop (mkF m 8 #[.val (.int p1), .val (.int ((p1 &&& (2147483647 : Int32)) % (22 : Int32))), .unset, .unset] [])) tg := fun tg kt => by rw [hk2]; exact kt
    obtain ⟨_, _, ⟨T16, L16, k16, n16⟩, -, X16, ⟨Lc16, hQ16, l16, y16, z16⟩, st16⟩ := Jvm.LawKit.callS X0 hx (y := (⟨"com/example/abaco/abaco/core/AtomicTypeIsCastTargetPinLaw", "pick", "(I)Lcom/example/abaco/abaco/core/AtomicType;"⟩ : MethodName)) hown (mvT hZ (hw _ (List.mem_of_getElem? (i := 1) rfl))) (mvT hZ (hw _ (List.mem_of_getElem? (i := 2) rfl))) (mvT hZ (hw _ (List.mem_of_getElem? (i := 3) rfl))) (mvT hZ (hw _ (List.mem_of_getElem? (i := 4) rfl))) (by decide) (backOf (W := 0) (rmP l Z a0 hw [] (4 : Int32) a_ANY_ATOMIC_TYPE a_NUMERIC a_STRING a_UNTYPED_ATOMIC a_BOOLEAN a_NOTATION a_DECIMAL a_FLOAT a_DOUBLE a_INTEGER a_NON_POSITIVE_INTEGER a_NEGATIVE_INTEGER a_LONG a_INT a_SHORT a_BYTE a_NON_NEGATIVE_INTEGER a_UNSIGNED_LONG a_UNSIGNED_INT a_UNSIGNED_SHORT a_UNSIGNED_BYTE a_POSITIVE_INTEGER h0 n0 Z0 S_ANY_ATOMIC_TYPE S_NUMERIC S_STRING S_UNTYPED_ATOMIC S_BOOLEAN S_NOTATION S_DECIMAL S_FLOAT S_DOUBLE S_INTEGER S_NON_POSITIVE_INTEGER S_NEGATIVE_INTEGER S_LONG S_INT S_SHORT S_BYTE S_NON_NEGATIVE_INTEGER S_UNSIGNED_LONG S_UNSIGNED_INT S_UNSIGNED_SHORT S_UNSIGNED_BYTE S_POSITIVE_INTEGER) hZ (hw _ (List.mem_of_getElem? (i := 4) rfl)) (hw _ (List.mem_of_getElem? (i := 3) rfl)) (by decide) (by decide)) (g := (mkF m 9 #[.val (.int p1), .val (.int (4 : Int32)), .unset, .unset] [(.int (4 : Int32))])) rfl (by rw [hml]; rfl) (argsL := [(.int (4 : Int32))]) (rest := []) (lenOf pd_0 rfl) rfl (by show 2 * 0 + _ ≤ _; exact Nat.le_of_eq rfl) (hb hby at_9) (fun _ _ => ⟨rfl, e0, (by decide : 0 + 0 ≤ _), (by decide : 0 + 0 ≤ _)⟩)
    dsimp only [Pt.U, Pt.locs, Pt.cells, Pt.slots] at X16 l16 y16 z16 st16 hQ16
    subst l16 y16 z16
    obtain ⟨hv16, N16q, r16⟩ := hQ16
    rw [if_neg (by decide), if_neg (by decide), if_neg (by decide), if_neg (by decide), if_pos rfl] at hv16
    subst hv16
    have N16 := Fr.app N0 N16q
    obtain ⟨cq17, kq17, q17a, q17b, q17c⟩ := isOf hZ r16 E_BOOLEAN
    obtain ⟨_, _, ⟨T17, L17, k17, n17⟩, -, X17, ⟨Lc17, hQ17, l17, y17, z17⟩, st17⟩ := X16.virtualBack hx (y := (⟨"com/example/abaco/abaco/core/AtomicType", "isCastTarget", "()Z"⟩ : MethodName)) (z := (⟨"com/example/abaco/abaco/core/AtomicType", "isCastTarget", "()Z"⟩ : MethodName)) hown (mvT hZ (hw _ (List.mem_of_getElem? (i := 8) rfl))) (mvT hZ (hw _ (List.mem_of_getElem? (i := 9) rfl))) (notFace_of_selects (args := #[]) (mvT hZ (hw _ (List.mem_of_getElem? (i := 11) rfl)))) (mvT hZ (hw _ (List.mem_of_getElem? (i := 11) rfl))) (mvT hZ (hw _ (List.mem_of_getElem? (i := 10) rfl))) (by decide) (backOf (W := 0) (rm1 l Z a0 hw [] a_BOOLEAN a_ANY_ATOMIC_TYPE a_NOTATION h0 n0 Z0 S_ANY_ATOMIC_TYPE S_NOTATION) hZ (hw _ (List.mem_of_getElem? (i := 12) rfl)) (hw _ (List.mem_of_getElem? (i := 6) rfl)) (by decide) (by decide)) q17a q17c (g := (mkF m 29 #[.val (.int p1), .val (.int (4 : Int32)), .val (.ref a_BOOLEAN), .val (.int (1 : Int32))] [(.ref a_BOOLEAN)])) rfl (by rw [hml]; rfl) (Steps.refl _) (argsL := []) (rest := []) (lenOf pd_1 rfl) rfl (by show 2 * 0 + _ ≤ _; exact Nat.le_of_eq rfl) (hb hby at_29) (fun _ _ => ⟨rfl, r16, (by decide : 0 + 0 ≤ _), (by decide : 0 + 0 ≤ _)⟩)
    dsimp only [Pt.U, Pt.locs, Pt.cells, Pt.slots] at X17 l17 y17 z17 st17 hQ17
    subst l17 y17 z17
    obtain ⟨hv17, N17q, r17⟩ := hQ17
    rw [(if_neg (fun h => h.elim (own_ne_fld F_BOOLEAN_ordinal F_ANY_ATOMIC_TYPE_ordinal (by decide)) (own_ne_fld F_BOOLEAN_ordinal F_NOTATION_ordinal (by decide))))] at hv17
    subst hv17
    have N17 := Fr.app N16 N17q
    obtain ⟨fs, hr, hrun, hended, hW, hsame⟩ := X17.leave (v := some (.int (1 : Int32))) (fun h => by rw [Bd.returns] at h; cases h)
    refine ⟨_, _, pre0 _ (R1 _ (R15 _ ?_)), hrun, hended, _, _, rfl, ?_, ⟨_, rfl⟩, hW, hsame.mono (by decide) (by decide)⟩
    · show Steps p.tables e below (s₁.setTop (mkF m 8 #[.val (.int p1), .val (.int (4 : Int32)), .unset, .unset] [])) _
      refine XS.iloadN X0.here hx rfl (hb hby at_8) rfl ?_
      show Steps p.tables e below (s₁.setTop (mkF m 9 #[.val (.int p1), .val (.int (4 : Int32)), .unset, .unset] [(.int (4 : Int32))])) _
      refine st16 _ ?_
      show Steps p.tables e below (T16.setTop (mkF m 12 #[.val (.int p1), .val (.int (4 : Int32)), .unset, .unset] [(.ref a_BOOLEAN)])) _
      refine XS.astoreN X16.here hx rfl (hb hby at_12) rfl rfl (l' := #[.val (.int p1), .val (.int (4 : Int32)), .val (.ref a_BOOLEAN), .unset]) rfl ?_
      show Steps p.tables e below (T16.setTop (mkF m 13 #[.val (.int p1), .val (.int (4 : Int32)), .val (.ref a_BOOLEAN), .unset] [])) _
      refine XS.iloadN X16.here hx rfl (hb hby at_13) rfl ?_
      show Steps p.tables e below (T16.setTop (mkF m 14 #[.val (.int p1), .val (.int (4 : Int32)), .val (.ref a_BOOLEAN), .unset] [(.int (4 : Int32))])) _
      refine XS.ifNo X16.here hx rfl (hb hby at_14) rfl ((if0 _ _).trans (feq (by decide : ¬ ((4 : Int32) = (0 : Int32)))).1) ?_
      show Steps p.tables e below (T16.setTop (mkF m 17 #[.val (.int p1), .val (.int (4 : Int32)), .val (.ref a_BOOLEAN), .unset] [])) _
      refine XS.iloadN X16.here hx rfl (hb hby at_17) rfl ?_
      show Steps p.tables e below (T16.setTop (mkF m 18 #[.val (.int p1), .val (.int (4 : Int32)), .val (.ref a_BOOLEAN), .unset] [(.int (4 : Int32))])) _
      refine XS.iconst X16.here hx rfl (hb hby at_18) ?_
      show Steps p.tables e below (T16.setTop (mkF m 19 #[.val (.int p1), .val (.int (4 : Int32)), .val (.ref a_BOOLEAN), .unset] [(.int (5 : Int32)), (.int (4 : Int32))])) _
      refine XS.icmpNo X16.here hx rfl (hb hby at_19) rfl (feq (by decide : ¬ ((4 : Int32) = (5 : Int32)))).1 ?_
      show Steps p.tables e below (T16.setTop (mkF m 22 #[.val (.int p1), .val (.int (4 : Int32)), .val (.ref a_BOOLEAN), .unset] [])) _
      refine XS.iconst X16.here hx rfl (hb hby at_22) ?_
      show Steps p.tables e below (T16.setTop (mkF m 23 #[.val (.int p1), .val (.int (4 : Int32)), .val (.ref a_BOOLEAN), .unset] [(.int (1 : Int32))])) _
      refine XS.goto X16.here hx rfl (pc0 := 23) (pc' := 27) rfl (hb hby at_23) (by decide) (by decide) ?_
      show Steps p.tables e below (T16.setTop (mkF m 27 #[.val (.int p1), .val (.int (4 : Int32)), .val (.ref a_BOOLEAN), .unset] [(.int (1 : Int32))])) _
      refine XS.istoreN X16.here hx rfl (hb hby at_27) rfl (l' := #[.val (.int p1), .val (.int (4 : Int32)), .val (.ref a_BOOLEAN), .val (.int (1 : Int32))]) rfl ?_
      show Steps p.tables e below (T16.setTop (mkF m 28 #[.val (.int p1), .val (.int (4 : Int32)), .val (.ref a_BOOLEAN), .val (.int (1 : Int32))] [])) _
      refine XS.aloadN X16.here hx rfl (hb hby at_28) rfl rfl ?_
      show Steps p.tables e below (T16.setTop (mkF m 29 #[.val (.int p1), .val (.int (4 : Int32)), .val (.ref a_BOOLEAN), .val (.int (1 : Int32))] [(.ref a_BOOLEAN)])) _
      refine st17.trans ?_
      show Steps p.tables e below (T17.setTop (mkF m 32 #[.val (.int p1), .val (.int (4 : Int32)), .val (.ref a_BOOLEAN), .val (.int (1 : Int32))] [(.int (1 : Int32))])) _
      refine XS.iloadN X17.here hx rfl (hb hby at_32) rfl ?_
      show Steps p.tables e below (T17.setTop (mkF m 33 #[.val (.int p1), .val (.int (4 : Int32)), .val (.ref a_BOOLEAN), .val (.int (1 : Int32))] [(.int (1 : Int32)), (.int (1 : Int32))])) _
      refine XS.icmpNo X17.here hx rfl (hb hby at_33) rfl (teq (by decide : (1 : Int32) = (1 : Int32))).2 ?_
      show Steps p.tables e below (T17.setTop (mkF m 36 #[.val (.int p1), .val (.int (4 : Int32)), .val (.ref a_BOOLEAN), .val (.int (1 : Int32))] [])) _
      refine XS.iconst X17.here hx rfl (hb hby at_36) ?_
      show Steps p.tables e below (T17.setTop (mkF m 37 #[.val (.int p1), .val (.int (4 : Int32)), .val (.ref a_BOOLEAN), .val (.int (1 : Int32))] [(.int (1 : Int32))])) _
      refine XS.goto X17.here hx rfl (pc0 := 37) (pc' := 41) rfl (hb hby at_37) (by decide) (by decide) ?_
      show Steps p.tables e below (T17.setTop (mkF m 41 #[.val (.int p1), .val (.int (4 : Int32)), .val (.ref a_BOOLEAN), .val (.int (1 : Int32))] [(.int (1 : Int32))])) _
      exact retN X17 hx (t := .boolean) Bd.returns (by simp) (hb hby at_41) hr
    · show Q0 n0 _ T17.heap _
      rw [r17]
      exact ⟨rfl, N17⟩
  · have R18 : ∀ tg, Steps p.tables e below (s₁.setTop (mkF m 8 #[.val (.int p1), .val (.int (5 : Int32)), .unset, .unset] [])) tg → Steps p.tables e below (s₁.setTop (mkF m 8 #[.val (.int p1), .val (.int ((p1 &&& (2147483647 : Int32)) % (22 : Int32))), .unset, .unset] [])) tg := fun tg kt => by rw [hk2]; exact kt
    obtain ⟨_, _, ⟨T19, L19, k19, n19⟩, -, X19, ⟨Lc19, hQ19, l19, y19, z19⟩, st19⟩ := Jvm.LawKit.callS X0 hx (y := (⟨"com/example/abaco/abaco/core/AtomicTypeIsCastTargetPinLaw", "pick", "(I)Lcom/example/abaco/abaco/core/AtomicType;"⟩ : MethodName)) hown (mvT hZ (hw _ (List.mem_of_getElem? (i := 1) rfl))) (mvT hZ (hw _ (List.mem_of_getElem? (i := 2) rfl))) (mvT hZ (hw _ (List.mem_of_getElem? (i := 3) rfl))) (mvT hZ (hw _ (List.mem_of_getElem? (i := 4) rfl))) (by decide) (backOf (W := 0) (rmP l Z a0 hw [] (5 : Int32) a_ANY_ATOMIC_TYPE a_NUMERIC a_STRING a_UNTYPED_ATOMIC a_BOOLEAN a_NOTATION a_DECIMAL a_FLOAT a_DOUBLE a_INTEGER a_NON_POSITIVE_INTEGER a_NEGATIVE_INTEGER a_LONG a_INT a_SHORT a_BYTE a_NON_NEGATIVE_INTEGER a_UNSIGNED_LONG a_UNSIGNED_INT a_UNSIGNED_SHORT a_UNSIGNED_BYTE a_POSITIVE_INTEGER h0 n0 Z0 S_ANY_ATOMIC_TYPE S_NUMERIC S_STRING S_UNTYPED_ATOMIC S_BOOLEAN S_NOTATION S_DECIMAL S_FLOAT S_DOUBLE S_INTEGER S_NON_POSITIVE_INTEGER S_NEGATIVE_INTEGER S_LONG S_INT S_SHORT S_BYTE S_NON_NEGATIVE_INTEGER S_UNSIGNED_LONG S_UNSIGNED_INT S_UNSIGNED_SHORT S_UNSIGNED_BYTE S_POSITIVE_INTEGER) hZ (hw _ (List.mem_of_getElem? (i := 4) rfl)) (hw _ (List.mem_of_getElem? (i := 3) rfl)) (by decide) (by decide)) (g := (mkF m 9 #[.val (.int p1), .val (.int (5 : Int32)), .unset, .unset] [(.int (5 : Int32))])) rfl (by rw [hml]; rfl) (argsL := [(.int (5 : Int32))]) (rest := []) (lenOf pd_0 rfl) rfl (by show 2 * 0 + _ ≤ _; exact Nat.le_of_eq rfl) (hb hby at_9) (fun _ _ => ⟨rfl, e0, (by decide : 0 + 0 ≤ _), (by decide : 0 + 0 ≤ _)⟩)
    dsimp only [Pt.U, Pt.locs, Pt.cells, Pt.slots] at X19 l19 y19 z19 st19 hQ19
    subst l19 y19 z19
    obtain ⟨hv19, N19q, r19⟩ := hQ19
    rw [if_neg (by decide), if_neg (by decide), if_neg (by decide), if_neg (by decide), if_neg (by decide), if_pos rfl] at hv19
    subst hv19
    have N19 := Fr.app N0 N19q
    obtain ⟨cq20, kq20, q20a, q20b, q20c⟩ := isOf hZ r19 E_NOTATION
    obtain ⟨_, _, ⟨T20, L20, k20, n20⟩, -, X20, ⟨Lc20, hQ20, l20, y20, z20⟩, st20⟩ := X19.virtualBack hx (y := (⟨"com/example/abaco/abaco/core/AtomicType", "isCastTarget", "()Z"⟩ : MethodName)) (z := (⟨"com/example/abaco/abaco/core/AtomicType", "isCastTarget", "()Z"⟩ : MethodName)) hown (mvT hZ (hw _ (List.mem_of_getElem? (i := 8) rfl))) (mvT hZ (hw _ (List.mem_of_getElem? (i := 9) rfl))) (notFace_of_selects (args := #[]) (mvT hZ (hw _ (List.mem_of_getElem? (i := 11) rfl)))) (mvT hZ (hw _ (List.mem_of_getElem? (i := 11) rfl))) (mvT hZ (hw _ (List.mem_of_getElem? (i := 10) rfl))) (by decide) (backOf (W := 0) (rm1 l Z a0 hw [] a_NOTATION a_ANY_ATOMIC_TYPE a_NOTATION h0 n0 Z0 S_ANY_ATOMIC_TYPE S_NOTATION) hZ (hw _ (List.mem_of_getElem? (i := 12) rfl)) (hw _ (List.mem_of_getElem? (i := 6) rfl)) (by decide) (by decide)) q20a q20c (g := (mkF m 29 #[.val (.int p1), .val (.int (5 : Int32)), .val (.ref a_NOTATION), .val (.int (0 : Int32))] [(.ref a_NOTATION)])) rfl (by rw [hml]; rfl) (Steps.refl _) (argsL := []) (rest := []) (lenOf pd_1 rfl) rfl (by show 2 * 0 + _ ≤ _; exact Nat.le_of_eq rfl) (hb hby at_29) (fun _ _ => ⟨rfl, r19, (by decide : 0 + 0 ≤ _), (by decide : 0 + 0 ≤ _)⟩)
    dsimp only [Pt.U, Pt.locs, Pt.cells, Pt.slots] at X20 l20 y20 z20 st20 hQ20
    subst l20 y20 z20
    obtain ⟨hv20, N20q, r20⟩ := hQ20
    rw [(if_pos (Or.inr rfl))] at hv20
    subst hv20
    have N20 := Fr.app N19 N20q
    obtain ⟨fs, hr, hrun, hended, hW, hsame⟩ := X20.leave (v := some (.int (1 : Int32))) (fun h => by rw [Bd.returns] at h; cases h)
    refine ⟨_, _, pre0 _ (R1 _ (R18 _ ?_)), hrun, hended, _, _, rfl, ?_, ⟨_, rfl⟩, hW, hsame.mono (by decide) (by decide)⟩
    · show Steps p.tables e below (s₁.setTop (mkF m 8 #[.val (.int p1), .val (.int (5 : Int32)), .unset, .unset] [])) _
      refine XS.iloadN X0.here hx rfl (hb hby at_8) rfl ?_
      show Steps p.tables e below (s₁.setTop (mkF m 9 #[.val (.int p1), .val (.int (5 : Int32)), .unset, .unset] [(.int (5 : Int32))])) _
      refine st19 _ ?_
      show Steps p.tables e below (T19.setTop (mkF m 12 #[.val (.int p1), .val (.int (5 : Int32)), .unset, .unset] [(.ref a_NOTATION)])) _
      refine XS.astoreN X19.here hx rfl (hb hby at_12) rfl rfl (l' := #[.val (.int p1), .val (.int (5 : Int32)), .val (.ref a_NOTATION), .unset]) rfl ?_
      show Steps p.tables e below (T19.setTop (mkF m 13 #[.val (.int p1), .val (.int (5 : Int32)), .val (.ref a_NOTATION), .unset] [])) _
      refine XS.iloadN X19.here hx rfl (hb hby at_13) rfl ?_
      show Steps p.tables e below (T19.setTop (mkF m 14 #[.val (.int p1), .val (.int (5 : Int32)), .val (.ref a_NOTATION), .unset] [(.int (5 : Int32))])) _
      refine XS.ifNo X19.here hx rfl (hb hby at_14) rfl ((if0 _ _).trans (feq (by decide : ¬ ((5 : Int32) = (0 : Int32)))).1) ?_
      show Steps p.tables e below (T19.setTop (mkF m 17 #[.val (.int p1), .val (.int (5 : Int32)), .val (.ref a_NOTATION), .unset] [])) _
      refine XS.iloadN X19.here hx rfl (hb hby at_17) rfl ?_
      show Steps p.tables e below (T19.setTop (mkF m 18 #[.val (.int p1), .val (.int (5 : Int32)), .val (.ref a_NOTATION), .unset] [(.int (5 : Int32))])) _
      refine XS.iconst X19.here hx rfl (hb hby at_18) ?_
      show Steps p.tables e below (T19.setTop (mkF m 19 #[.val (.int p1), .val (.int (5 : Int32)), .val (.ref a_NOTATION), .unset] [(.int (5 : Int32)), (.int (5 : Int32))])) _
      refine XS.icmpYes X19.here hx rfl (pc0 := 19) (pc' := 26) rfl (hb hby at_19) rfl (teq (by decide : (5 : Int32) = (5 : Int32))).1 (by decide) (by decide) ?_
      show Steps p.tables e below (T19.setTop (mkF m 26 #[.val (.int p1), .val (.int (5 : Int32)), .val (.ref a_NOTATION), .unset] [])) _
      refine XS.iconst X19.here hx rfl (hb hby at_26) ?_
      show Steps p.tables e below (T19.setTop (mkF m 27 #[.val (.int p1), .val (.int (5 : Int32)), .val (.ref a_NOTATION), .unset] [(.int (0 : Int32))])) _
      refine XS.istoreN X19.here hx rfl (hb hby at_27) rfl (l' := #[.val (.int p1), .val (.int (5 : Int32)), .val (.ref a_NOTATION), .val (.int (0 : Int32))]) rfl ?_
      show Steps p.tables e below (T19.setTop (mkF m 28 #[.val (.int p1), .val (.int (5 : Int32)), .val (.ref a_NOTATION), .val (.int (0 : Int32))] [])) _
      refine XS.aloadN X19.here hx rfl (hb hby at_28) rfl rfl ?_
      show Steps p.tables e below (T19.setTop (mkF m 29 #[.val (.int p1), .val (.int (5 : Int32)), .val (.ref a_NOTATION), .val (.int (0 : Int32))] [(.ref a_NOTATION)])) _
      refine st20.trans ?_
      show Steps p.tables e below (T20.setTop (mkF m 32 #[.val (.int p1), .val (.int (5 : Int32)), .val (.ref a_NOTATION), .val (.int (0 : Int32))] [(.int (0 : Int32))])) _
      refine XS.iloadN X20.here hx rfl (hb hby at_32) rfl ?_
      show Steps p.tables e below (T20.setTop (mkF m 33 #[.val (.int p1), .val (.int (5 : Int32)), .val (.ref a_NOTATION), .val (.int (0 : Int32))] [(.int (0 : Int32)), (.int (0 : Int32))])) _
      refine XS.icmpNo X20.here hx rfl (hb hby at_33) rfl (teq (by decide : (0 : Int32) = (0 : Int32))).2 ?_
      show Steps p.tables e below (T20.setTop (mkF m 36 #[.val (.int p1), .val (.int (5 : Int32)), .val (.ref a_NOTATION), .val (.int (0 : Int32))] [])) _
      refine XS.iconst X20.here hx rfl (hb hby at_36) ?_
      show Steps p.tables e below (T20.setTop (mkF m 37 #[.val (.int p1), .val (.int (5 : Int32)), .val (.ref a_NOTATION), .val (.int (0 : Int32))] [(.int (1 : Int32))])) _
      refine XS.goto X20.here hx rfl (pc0 := 37) (pc' := 41) rfl (hb hby at_37) (by decide) (by decide) ?_
      show Steps p.tables e below (T20.setTop (mkF m 41 #[.val (.int p1), .val (.int (5 : Int32)), .val (.ref a_NOTATION), .val (.int (0 : Int32))] [(.int (1 : Int32))])) _
      exact retN X20 hx (t := .boolean) Bd.returns (by simp) (hb hby at_41) hr
    · show Q0 n0 _ T20.heap _
      rw [r20]
      exact ⟨rfl, N20⟩
  · have R21 : ∀ tg, Steps p.tables e below (s₁.setTop (mkF m 8 #[.val (.int p1), .val (.int (6 : Int32)), .unset, .unset] [])) tg → Steps p.tables e below (s₁.setTop (mkF m 8 #[.val (.int p1), .val (.int ((p1 &&& (2147483647 : Int32)) % (22 : Int32))), .unset, .unset] [])) tg := fun tg kt => by rw [hk2]; exact kt
    obtain ⟨_, _, ⟨T22, L22, k22, n22⟩, -, X22, ⟨Lc22, hQ22, l22, y22, z22⟩, st22⟩ := Jvm.LawKit.callS X0 hx (y := (⟨"com/example/abaco/abaco/core/AtomicTypeIsCastTargetPinLaw", "pick", "(I)Lcom/example/abaco/abaco/core/AtomicType;"⟩ : MethodName)) hown (mvT hZ (hw _ (List.mem_of_getElem? (i := 1) rfl))) (mvT hZ (hw _ (List.mem_of_getElem? (i := 2) rfl))) (mvT hZ (hw _ (List.mem_of_getElem? (i := 3) rfl))) (mvT hZ (hw _ (List.mem_of_getElem? (i := 4) rfl))) (by decide) (backOf (W := 0) (rmP l Z a0 hw [] (6 : Int32) a_ANY_ATOMIC_TYPE a_NUMERIC a_STRING a_UNTYPED_ATOMIC a_BOOLEAN a_NOTATION a_DECIMAL a_FLOAT a_DOUBLE a_INTEGER a_NON_POSITIVE_INTEGER a_NEGATIVE_INTEGER a_LONG a_INT a_SHORT a_BYTE a_NON_NEGATIVE_INTEGER a_UNSIGNED_LONG a_UNSIGNED_INT a_UNSIGNED_SHORT a_UNSIGNED_BYTE a_POSITIVE_INTEGER h0 n0 Z0 S_ANY_ATOMIC_TYPE S_NUMERIC S_STRING S_UNTYPED_ATOMIC S_BOOLEAN S_NOTATION S_DECIMAL S_FLOAT S_DOUBLE S_INTEGER S_NON_POSITIVE_INTEGER S_NEGATIVE_INTEGER S_LONG S_INT S_SHORT S_BYTE S_NON_NEGATIVE_INTEGER S_UNSIGNED_LONG S_UNSIGNED_INT S_UNSIGNED_SHORT S_UNSIGNED_BYTE S_POSITIVE_INTEGER) hZ (hw _ (List.mem_of_getElem? (i := 4) rfl)) (hw _ (List.mem_of_getElem? (i := 3) rfl)) (by decide) (by decide)) (g := (mkF m 9 #[.val (.int p1), .val (.int (6 : Int32)), .unset, .unset] [(.int (6 : Int32))])) rfl (by rw [hml]; rfl) (argsL := [(.int (6 : Int32))]) (rest := []) (lenOf pd_0 rfl) rfl (by show 2 * 0 + _ ≤ _; exact Nat.le_of_eq rfl) (hb hby at_9) (fun _ _ => ⟨rfl, e0, (by decide : 0 + 0 ≤ _), (by decide : 0 + 0 ≤ _)⟩)
    dsimp only [Pt.U, Pt.locs, Pt.cells, Pt.slots] at X22 l22 y22 z22 st22 hQ22
    subst l22 y22 z22
    obtain ⟨hv22, N22q, r22⟩ := hQ22
    rw [if_neg (by decide), if_neg (by decide), if_neg (by decide), if_neg (by decide), if_neg (by decide), if_neg (by decide), if_pos rfl] at hv22
    subst hv22
    have N22 := Fr.app N0 N22q
    obtain ⟨cq23, kq23, q23a, q23b, q23c⟩ := isOf hZ r22 E_DECIMAL
    obtain ⟨_, _, ⟨T23, L23, k23, n23⟩, -, X23, ⟨Lc23, hQ23, l23, y23, z23⟩, st23⟩ := X22.virtualBack hx (y := (⟨"com/example/abaco/abaco/core/AtomicType", "isCastTarget", "()Z"⟩ : MethodName)) (z := (⟨"com/example/abaco/abaco/core/AtomicType", "isCastTarget", "()Z"⟩ : MethodName)) hown (mvT hZ (hw _ (List.mem_of_getElem? (i := 8) rfl))) (mvT hZ (hw _ (List.mem_of_getElem? (i := 9) rfl))) (notFace_of_selects (args := #[]) (mvT hZ (hw _ (List.mem_of_getElem? (i := 11) rfl)))) (mvT hZ (hw _ (List.mem_of_getElem? (i := 11) rfl))) (mvT hZ (hw _ (List.mem_of_getElem? (i := 10) rfl))) (by decide) (backOf (W := 0) (rm1 l Z a0 hw [] a_DECIMAL a_ANY_ATOMIC_TYPE a_NOTATION h0 n0 Z0 S_ANY_ATOMIC_TYPE S_NOTATION) hZ (hw _ (List.mem_of_getElem? (i := 12) rfl)) (hw _ (List.mem_of_getElem? (i := 6) rfl)) (by decide) (by decide)) q23a q23c (g := (mkF m 29 #[.val (.int p1), .val (.int (6 : Int32)), .val (.ref a_DECIMAL), .val (.int (1 : Int32))] [(.ref a_DECIMAL)])) rfl (by rw [hml]; rfl) (Steps.refl _) (argsL := []) (rest := []) (lenOf pd_1 rfl) rfl (by show 2 * 0 + _ ≤ _; exact Nat.le_of_eq rfl) (hb hby at_29) (fun _ _ => ⟨rfl, r22, (by decide : 0 + 0 ≤ _), (by decide : 0 + 0 ≤ _)⟩)
    dsimp only [Pt.U, Pt.locs, Pt.cells, Pt.slots] at X23 l23 y23 z23 st23 hQ23
    subst l23 y23 z23
    obtain ⟨hv23, N23q, r23⟩ := hQ23
    rw [(if_neg (fun h => h.elim (own_ne_fld F_DECIMAL_ordinal F_ANY_ATOMIC_TYPE_ordinal (by decide)) (own_ne_fld F_DECIMAL_ordinal F_NOTATION_ordinal (by decide))))] at hv23
    subst hv23
    have N23 := Fr.app N22 N23q
    obtain ⟨fs, hr, hrun, hended, hW, hsame⟩ := X23.leave (v := some (.int (1 : Int32))) (fun h => by rw [Bd.returns] at h; cases h)
    refine ⟨_, _, pre0 _ (R1 _ (R21 _ ?_)), hrun, hended, _, _, rfl, ?_, ⟨_, rfl⟩, hW, hsame.mono (by decide) (by decide)⟩
    · show Steps p.tables e below (s₁.setTop (mkF m 8 #[.val (.int p1), .val (.int (6 : Int32)), .unset, .unset] [])) _
      refine XS.iloadN X0.here hx rfl (hb hby at_8) rfl ?_
      show Steps p.tables e below (s₁.setTop (mkF m 9 #[.val (.int p1), .val (.int (6 : Int32)), .unset, .unset] [(.int (6 : Int32))])) _
      refine st22 _ ?_
      show Steps p.tables e below (T22.setTop (mkF m 12 #[.val (.int p1), .val (.int (6 : Int32)), .unset, .unset] [(.ref a_DECIMAL)])) _
      refine XS.astoreN X22.here hx rfl (hb hby at_12) rfl rfl (l' := #[.val (.int p1), .val (.int (6 : Int32)), .val (.ref a_DECIMAL), .unset]) rfl ?_
      show Steps p.tables e below (T22.setTop (mkF m 13 #[.val (.int p1), .val (.int (6 : Int32)), .val (.ref a_DECIMAL), .unset] [])) _
      refine XS.iloadN X22.here hx rfl (hb hby at_13) rfl ?_
      show Steps p.tables e below (T22.setTop (mkF m 14 #[.val (.int p1), .val (.int (6 : Int32)), .val (.ref a_DECIMAL), .unset] [(.int (6 : Int32))])) _
      refine XS.ifNo X22.here hx rfl (hb hby at_14) rfl ((if0 _ _).trans (feq (by decide : ¬ ((6 : Int32) = (0 : Int32)))).1) ?_
      show Steps p.tables e below (T22.setTop (mkF m 17 #[.val (.int p1), .val (.int (6 : Int32)), .val (.ref a_DECIMAL), .unset] [])) _
      refine XS.iloadN X22.here hx rfl (hb hby at_17) rfl ?_
      show Steps p.tables e below (T22.setTop (mkF m 18 #[.val (.int p1), .val (.int (6 : Int32)), .val (.ref a_DECIMAL), .unset] [(.int (6 : Int32))])) _
      refine XS.iconst X22.here hx rfl (hb hby at_18) ?_
      show Steps p.tables e below (T22.setTop (mkF m 19 #[.val (.int p1), .val (.int (6 : Int32)), .val (.ref a_DECIMAL), .unset] [(.int (5 : Int32)), (.int (6 : Int32))])) _
      refine XS.icmpNo X22.here hx rfl (hb hby at_19) rfl (feq (by decide : ¬ ((6 : Int32) = (5 : Int32)))).1 ?_
      show Steps p.tables e below (T22.setTop (mkF m 22 #[.val (.int p1), .val (.int (6 : Int32)), .val (.ref a_DECIMAL), .unset] [])) _
      refine XS.iconst X22.here hx rfl (hb hby at_22) ?_
      show Steps p.tables e below (T22.setTop (mkF m 23 #[.val (.int p1), .val (.int (6 : Int32)), .val (.ref a_DECIMAL), .unset] [(.int (1 : Int32))])) _
      refine XS.goto X22.here hx rfl (pc0 := 23) (pc' := 27) rfl (hb hby at_23) (by decide) (by decide) ?_
      show Steps p.tables e below (T22.setTop (mkF m 27 #[.val (.int p1), .val (.int (6 : Int32)), .val (.ref a_DECIMAL), .unset] [(.int (1 : Int32))])) _
      refine XS.istoreN X22.here hx rfl (hb hby at_27) rfl (l' := #[.val (.int p1), .val (.int (6 : Int32)), .val (.ref a_DECIMAL), .val (.int (1 : Int32))]) rfl ?_
      show Steps p.tables e below (T22.setTop (mkF m 28 #[.val (.int p1), .val (.int (6 : Int32)), .val (.ref a_DECIMAL), .val (.int (1 : Int32))] [])) _
      refine XS.aloadN X22.here hx rfl (hb hby at_28) rfl rfl ?_
      show Steps p.tables e below (T22.setTop (mkF m 29 #[.val (.int p1), .val (.int (6 : Int32)), .val (.ref a_DECIMAL), .val (.int (1 : Int32))] [(.ref a_DECIMAL)])) _
      refine st23.trans ?_
      show Steps p.tables e below (T23.setTop (mkF m 32 #[.val (.int p1), .val (.int (6 : Int32)), .val (.ref a_DECIMAL), .val (.int (1 : Int32))] [(.int (1 : Int32))])) _
      refine XS.iloadN X23.here hx rfl (hb hby at_32) rfl ?_
      show Steps p.tables e below (T23.setTop (mkF m 33 #[.val (.int p1), .val (.int (6 : Int32)), .val (.ref a_DECIMAL), .val (.int (1 : Int32))] [(.int (1 : Int32)), (.int (1 : Int32))])) _
      refine XS.icmpNo X23.here hx rfl (hb hby at_33) rfl (teq (by decide : (1 : Int32) = (1 : Int32))).2 ?_
      show Steps p.tables e below (T23.setTop (mkF m 36 #[.val (.int p1), .val (.int (6 : Int32)), .val (.ref a_DECIMAL), .val (.int (1 : Int32))] [])) _
      refine XS.iconst X23.here hx rfl (hb hby at_36) ?_
      show Steps p.tables e below (T23.setTop (mkF m 37 #[.val (.int p1), .val (.int (6 : Int32)), .val (.ref a_DECIMAL), .val (.int (1 : Int32))] [(.int (1 : Int32))])) _
      refine XS.goto X23.here hx rfl (pc0 := 37) (pc' := 41) rfl (hb hby at_37) (by decide) (by decide) ?_
      show Steps p.tables e below (T23.setTop (mkF m 41 #[.val (.int p1), .val (.int (6 : Int32)), .val (.ref a_DECIMAL), .val (.int (1 : Int32))] [(.int (1 : Int32))])) _
      exact retN X23 hx (t := .boolean) Bd.returns (by simp) (hb hby at_41) hr
    · show Q0 n0 _ T23.heap _
      rw [r23]
      exact ⟨rfl, N23⟩
  · have R24 : ∀ tg, Steps p.tables e below (s₁.setTop (mkF m 8 #[.val (.int p1), .val (.int (7 : Int32)), .unset, .unset] [])) tg → Steps p.tables e below (s₁.setTop (mkF m 8 #[.val (.int p1), .val (.int ((p1 &&& (2147483647 : Int32)) % (22 : Int32))), .unset, .unset] [])) tg := fun tg kt => by rw [hk2]; exact kt
    obtain ⟨_, _, ⟨T25, L25, k25, n25⟩, -, X25, ⟨Lc25, hQ25, l25, y25, z25⟩, st25⟩ := Jvm.LawKit.callS X0 hx (y := (⟨"com/example/abaco/abaco/core/AtomicTypeIsCastTargetPinLaw", "pick", "(I)Lcom/example/abaco/abaco/core/AtomicType;"⟩ : MethodName)) hown (mvT hZ (hw _ (List.mem_of_getElem? (i := 1) rfl))) (mvT hZ (hw _ (List.mem_of_getElem? (i := 2) rfl))) (mvT hZ (hw _ (List.mem_of_getElem? (i := 3) rfl))) (mvT hZ (hw _ (List.mem_of_getElem? (i := 4) rfl))) (by decide) (backOf (W := 0) (rmP l Z a0 hw [] (7 : Int32) a_ANY_ATOMIC_TYPE a_NUMERIC a_STRING a_UNTYPED_ATOMIC a_BOOLEAN a_NOTATION a_DECIMAL a_FLOAT a_DOUBLE a_INTEGER a_NON_POSITIVE_INTEGER a_NEGATIVE_INTEGER a_LONG a_INT a_SHORT a_BYTE a_NON_NEGATIVE_INTEGER a_UNSIGNED_LONG a_UNSIGNED_INT a_UNSIGNED_SHORT a_UNSIGNED_BYTE a_POSITIVE_INTEGER h0 n0 Z0 S_ANY_ATOMIC_TYPE S_NUMERIC S_STRING S_UNTYPED_ATOMIC S_BOOLEAN S_NOTATION S_DECIMAL S_FLOAT S_DOUBLE S_INTEGER S_NON_POSITIVE_INTEGER S_NEGATIVE_INTEGER S_LONG S_INT S_SHORT S_BYTE S_NON_NEGATIVE_INTEGER S_UNSIGNED_LONG S_UNSIGNED_INT S_UNSIGNED_SHORT S_UNSIGNED_BYTE S_POSITIVE_INTEGER) hZ (hw _ (List.mem_of_getElem? (i := 4) rfl)) (hw _ (List.mem_of_getElem? (i := 3) rfl)) (by decide) (by decide)) (g := (mkF m 9 #[.val (.int p1), .val (.int (7 : Int32)), .unset, .unset] [(.int (7 : Int32))])) rfl (by rw [hml]; rfl) (argsL := [(.int (7 : Int32))]) (rest := []) (lenOf pd_0 rfl) rfl (by show 2 * 0 + _ ≤ _; exact Nat.le_of_eq rfl) (hb hby at_9) (fun _ _ => ⟨rfl, e0, (by decide : 0 + 0 ≤ _), (by decide : 0 + 0 ≤ _)⟩)
    dsimp only [Pt.U, Pt.locs, Pt.cells, Pt.slots] at X25 l25 y25 z25 st25 hQ25
    subst l25 y25 z25
    obtain ⟨hv25, N25q, r25⟩ := hQ25
    rw [if_neg (by decide), if_neg (by decide), if_neg (by decide), if_neg (by decide), if_neg (by decide), if_neg (by decide), if_neg (by decide), if_pos rfl] at hv25
    subst hv25
    have N25 := Fr.app N0 N25q
    obtain ⟨cq26, kq26, q26a, q26b, q26c⟩ := isOf hZ r25 E_FLOAT
    obtain ⟨_, _, ⟨T26, L26, k26, n26⟩, -, X26, ⟨Lc26, hQ26, l26, y26, z26⟩, st26⟩ := X25.virtualBack hx (y := (⟨"com/example/abaco/abaco/core/AtomicType", "isCastTarget", "()Z"⟩ : MethodName)) (z := (⟨"com/example/abaco/abaco/core/AtomicType", "isCastTarget", "()Z"⟩ : MethodName)) hown (mvT hZ (hw _ (List.mem_of_getElem? (i := 8) rfl))) (mvT hZ (hw _ (List.mem_of_getElem? (i := 9) rfl))) (notFace_of_selects (args := #[]) (mvT hZ (hw _ (List.mem_of_getElem? (i := 11) rfl)))) (mvT hZ (hw _ (List.mem_of_getElem? (i := 11) rfl))) (mvT hZ (hw _ (List.mem_of_getElem? (i := 10) rfl))) (by decide) (backOf (W := 0) (rm1 l Z a0 hw [] a_FLOAT a_ANY_ATOMIC_TYPE a_NOTATION h0 n0 Z0 S_ANY_ATOMIC_TYPE S_NOTATION) hZ (hw _ (List.mem_of_getElem? (i := 12) rfl)) (hw _ (List.mem_of_getElem? (i := 6) rfl)) (by decide) (by decide)) q26a q26c (g := (mkF m 29 #[.val (.int p1), .val (.int (7 : Int32)), .val (.ref a_FLOAT), .val (.int (1 : Int32))] [(.ref a_FLOAT)])) rfl (by rw [hml]; rfl) (Steps.refl _) (argsL := []) (rest := []) (lenOf pd_1 rfl) rfl (by show 2 * 0 + _ ≤ _; exact Nat.le_of_eq rfl) (hb hby at_29) (fun _ _ => ⟨rfl, r25, (by decide : 0 + 0 ≤ _), (by decide : 0 + 0 ≤ _)⟩)
    dsimp only [Pt.U, Pt.locs, Pt.cells, Pt.slots] at X26 l26 y26 z26 st26 hQ26
    subst l26 y26 z26
    obtain ⟨hv26, N26q, r26⟩ := hQ26
    rw [(if_neg (fun h => h.elim (own_ne_fld F_FLOAT_ordinal F_ANY_ATOMIC_TYPE_ordinal (by decide)) (own_ne_fld F_FLOAT_ordinal F_NOTATION_ordinal (by decide))))] at hv26
    subst hv26
    have N26 := Fr.app N25 N26q
    obtain ⟨fs, hr, hrun, hended, hW, hsame⟩ := X26.leave (v := some (.int (1 : Int32))) (fun h => by rw [Bd.returns] at h; cases h)
    refine ⟨_, _, pre0 _ (R1 _ (R24 _ ?_)), hrun, hended, _, _, rfl, ?_, ⟨_, rfl⟩, hW, hsame.mono (by decide) (by decide)⟩
    · show Steps p.tables e below (s₁.setTop (mkF m 8 #[.val (.int p1), .val (.int (7 : Int32)), .unset, .unset] [])) _
      refine XS.iloadN X0.here hx rfl (hb hby at_8) rfl ?_
      show Steps p.tables e below (s₁.setTop (mkF m 9 #[.val (.int p1), .val (.int (7 : Int32)), .unset, .unset] [(.int (7 : Int32))])) _
      refine st25 _ ?_
      show Steps p.tables e below (T25.setTop (mkF m 12 #[.val (.int p1), .val (.int (7 : Int32)), .unset, .unset] [(.ref a_FLOAT)])) _
      refine XS.astoreN X25.here hx rfl (hb hby at_12) rfl rfl (l' := #[.val (.int p1), .val (.int (7 : Int32)), .val (.ref a_FLOAT), .unset]) rfl ?_
      show Steps p.tables e below (T25.setTop (mkF m 13 #[.val (.int p1), .val (.int (7 : Int32)), .val (.ref a_FLOAT), .unset] [])) _
      refine XS.iloadN X25.here hx rfl (hb hby at_13) rfl ?_
      show Steps p.tables e below (T25.setTop (mkF m 14 #[.val (.int p1), .val (.int (7 : Int32)), .val (.ref a_FLOAT), .unset] [(.int (7 : Int32))])) _
      refine XS.ifNo X25.here hx rfl (hb hby at_14) rfl ((if0 _ _).trans (feq (by decide : ¬ ((7 : Int32) = (0 : Int32)))).1) ?_
      show Steps p.tables e below (T25.setTop (mkF m 17 #[.val (.int p1), .val (.int (7 : Int32)), .val (.ref a_FLOAT), .unset] [])) _
      refine XS.iloadN X25.here hx rfl (hb hby at_17) rfl ?_
      show Steps p.tables e below (T25.setTop (mkF m 18 #[.val (.int p1), .val (.int (7 : Int32)), .val (.ref a_FLOAT), .unset] [(.int (7 : Int32))])) _
      refine XS.iconst X25.here hx rfl (hb hby at_18) ?_
      show Steps p.tables e below (T25.setTop (mkF m 19 #[.val (.int p1), .val (.int (7 : Int32)), .val (.ref a_FLOAT), .unset] [(.int (5 : Int32)), (.int (7 : Int32))])) _
      refine XS.icmpNo X25.here hx rfl (hb hby at_19) rfl (feq (by decide : ¬ ((7 : Int32) = (5 : Int32)))).1 ?_
      show Steps p.tables e below (T25.setTop (mkF m 22 #[.val (.int p1), .val (.int (7 : Int32)), .val (.ref a_FLOAT), .unset] [])) _
      refine XS.iconst X25.here hx rfl (hb hby at_22) ?_
      show Steps p.tables e below (T25.setTop (mkF m 23 #[.val (.int p1), .val (.int (7 : Int32)), .val (.ref a_FLOAT), .unset] [(.int (1 : Int32))])) _
      refine XS.goto X25.here hx rfl (pc0 := 23) (pc' := 27) rfl (hb hby at_23) (by decide) (by decide) ?_
      show Steps p.tables e below (T25.setTop (mkF m 27 #[.val (.int p1), .val (.int (7 : Int32)), .val (.ref a_FLOAT), .unset] [(.int (1 : Int32))])) _
      refine XS.istoreN X25.here hx rfl (hb hby at_27) rfl (l' := #[.val (.int p1), .val (.int (7 : Int32)), .val (.ref a_FLOAT), .val (.int (1 : Int32))]) rfl ?_
      show Steps p.tables e below (T25.setTop (mkF m 28 #[.val (.int p1), .val (.int (7 : Int32)), .val (.ref a_FLOAT), .val (.int (1 : Int32))] [])) _
      refine XS.aloadN X25.here hx rfl (hb hby at_28) rfl rfl ?_
      show Steps p.tables e below (T25.setTop (mkF m 29 #[.val (.int p1), .val (.int (7 : Int32)), .val (.ref a_FLOAT), .val (.int (1 : Int32))] [(.ref a_FLOAT)])) _
      refine st26.trans ?_
      show Steps p.tables e below (T26.setTop (mkF m 32 #[.val (.int p1), .val (.int (7 : Int32)), .val (.ref a_FLOAT), .val (.int (1 : Int32))] [(.int (1 : Int32))])) _
      refine XS.iloadN X26.here hx rfl (hb hby at_32) rfl ?_
      show Steps p.tables e below (T26.setTop (mkF m 33 #[.val (.int p1), .val (.int (7 : Int32)), .val (.ref a_FLOAT), .val (.int (1 : Int32))] [(.int (1 : Int32)), (.int (1 : Int32))])) _
      refine XS.icmpNo X26.here hx rfl (hb hby at_33) rfl (teq (by decide : (1 : Int32) = (1 : Int32))).2 ?_
      show Steps p.tables e below (T26.setTop (mkF m 36 #[.val (.int p1), .val (.int (7 : Int32)), .val (.ref a_FLOAT), .val (.int (1 : Int32))] [])) _
      refine XS.iconst X26.here hx rfl (hb hby at_36) ?_
      show Steps p.tables e below (T26.setTop (mkF m 37 #[.val (.int p1), .val (.int (7 : Int32)), .val (.ref a_FLOAT), .val (.int (1 : Int32))] [(.int (1 : Int32))])) _
      refine XS.goto X26.here hx rfl (pc0 := 37) (pc' := 41) rfl (hb hby at_37) (by decide) (by decide) ?_
      show Steps p.tables e below (T26.setTop (mkF m 41 #[.val (.int p1), .val (.int (7 : Int32)), .val (.ref a_FLOAT), .val (.int (1 : Int32))] [(.int (1 : Int32))])) _
      exact retN X26 hx (t := .boolean) Bd.returns (by simp) (hb hby at_41) hr
    · show Q0 n0 _ T26.heap _
      rw [r26]
      exact ⟨rfl, N26⟩
  · have R27 : ∀ tg, Steps p.tables e below (s₁.setTop (mkF m 8 #[.val (.int p1), .val (.int (8 : Int32)), .unset, .unset] [])) tg → Steps p.tables e below (s₁.setTop (mkF m 8 #[.val (.int p1), .val (.int ((p1 &&& (2147483647 : Int32)) % (22 : Int32))), .unset, .unset] [])) tg := fun tg kt => by rw [hk2]; exact kt
    obtain ⟨_, _, ⟨T28, L28, k28, n28⟩, -, X28, ⟨Lc28, hQ28, l28, y28, z28⟩, st28⟩ := Jvm.LawKit.callS X0 hx (y := (⟨"com/example/abaco/abaco/core/AtomicTypeIsCastTargetPinLaw", "pick", "(I)Lcom/example/abaco/abaco/core/AtomicType;"⟩ : MethodName)) hown (mvT hZ (hw _ (List.mem_of_getElem? (i := 1) rfl))) (mvT hZ (hw _ (List.mem_of_getElem? (i := 2) rfl))) (mvT hZ (hw _ (List.mem_of_getElem? (i := 3) rfl))) (mvT hZ (hw _ (List.mem_of_getElem? (i := 4) rfl))) (by decide) (backOf (W := 0) (rmP l Z a0 hw [] (8 : Int32) a_ANY_ATOMIC_TYPE a_NUMERIC a_STRING a_UNTYPED_ATOMIC a_BOOLEAN a_NOTATION a_DECIMAL a_FLOAT a_DOUBLE a_INTEGER a_NON_POSITIVE_INTEGER a_NEGATIVE_INTEGER a_LONG a_INT a_SHORT a_BYTE a_NON_NEGATIVE_INTEGER a_UNSIGNED_LONG a_UNSIGNED_INT a_UNSIGNED_SHORT a_UNSIGNED_BYTE a_POSITIVE_INTEGER h0 n0 Z0 S_ANY_ATOMIC_TYPE S_NUMERIC S_STRING S_UNTYPED_ATOMIC S_BOOLEAN S_NOTATION S_DECIMAL S_FLOAT S_DOUBLE S_INTEGER S_NON_POSITIVE_INTEGER S_NEGATIVE_INTEGER S_LONG S_INT S_SHORT S_BYTE S_NON_NEGATIVE_INTEGER S_UNSIGNED_LONG S_UNSIGNED_INT S_UNSIGNED_SHORT S_UNSIGNED_BYTE S_POSITIVE_INTEGER) hZ (hw _ (List.mem_of_getElem? (i := 4) rfl)) (hw _ (List.mem_of_getElem? (i := 3) rfl)) (by decide) (by decide)) (g := (mkF m 9 #[.val (.int p1), .val (.int (8 : Int32)), .unset, .unset] [(.int (8 : Int32))])) rfl (by rw [hml]; rfl) (argsL := [(.int (8 : Int32))]) (rest := []) (lenOf pd_0 rfl) rfl (by show 2 * 0 + _ ≤ _; exact Nat.le_of_eq rfl) (hb hby at_9) (fun _ _ => ⟨rfl, e0, (by decide : 0 + 0 ≤ _), (by decide : 0 + 0 ≤ _)⟩)
    dsimp only [Pt.U, Pt.locs, Pt.cells, Pt.slots] at X28 l28 y28 z28 st28 hQ28
    subst l28 y28 z28
    obtain ⟨hv28, N28q, r28⟩ := hQ28
    rw [if_neg (by decide), if_neg (by decide), if_neg (by decide), if_neg (by decide), if_neg (by decide), if_neg (by decide), if_neg (by decide), if_neg (by decide), if_pos rfl] at hv28
    subst hv28
    have N28 := Fr.app N0 N28q
    obtain ⟨cq29, kq29, q29a, q29b, q29c⟩ := isOf hZ r28 E_DOUBLE
    obtain ⟨_, _, ⟨T29, L29, k29, n29⟩, -, X29, ⟨Lc29, hQ29, l29, y29, z29⟩, st29⟩ := X28.virtualBack hx (y := (⟨"com/example/abaco/abaco/core/AtomicType", "isCastTarget", "()Z"⟩ : MethodName)) (z := (⟨"com/example/abaco/abaco/core/AtomicType", "isCastTarget", "()Z"⟩ : MethodName)) hown (mvT hZ (hw _ (List.mem_of_getElem? (i := 8) rfl))) (mvT hZ (hw _ (List.mem_of_getElem? (i := 9) rfl))) (notFace_of_selects (args := #[]) (mvT hZ (hw _ (List.mem_of_getElem? (i := 11) rfl)))) (mvT hZ (hw _ (List.mem_of_getElem? (i := 11) rfl))) (mvT hZ (hw _ (List.mem_of_getElem? (i := 10) rfl))) (by decide) (backOf (W := 0) (rm1 l Z a0 hw [] a_DOUBLE a_ANY_ATOMIC_TYPE a_NOTATION h0 n0 Z0 S_ANY_ATOMIC_TYPE S_NOTATION) hZ (hw _ (List.mem_of_getElem? (i := 12) rfl)) (hw _ (List.mem_of_getElem? (i := 6) rfl)) (by decide) (by decide)) q29a q29c (g := (mkF m 29 #[.val (.int p1), .val (.int (8 : Int32)), .val (.ref a_DOUBLE), .val (.int (1 : Int32))] [(.ref a_DOUBLE)])) rfl (by rw [hml]; rfl) (Steps.refl _) (argsL := []) (rest := []) (lenOf pd_1 rfl) rfl (by show 2 * 0 + _ ≤ _; exact Nat.le_of_eq rfl) (hb hby at_29) (fun _ _ => ⟨rfl, r28, (by decide : 0 + 0 ≤ _), (by decide : 0 + 0 ≤ _)⟩)
    dsimp only [Pt.U, Pt.locs, Pt.cells, Pt.slots] at X29 l29 y29 z29 st29 hQ29
    subst l29 y29 z29
    obtain ⟨hv29, N29q, r29⟩ := hQ29
    rw [(if_neg (fun h => h.elim (own_ne_fld F_DOUBLE_ordinal F_ANY_ATOMIC_TYPE_ordinal (by decide)) (own_ne_fld F_DOUBLE_ordinal F_NOTATION_ordinal (by decide))))] at hv29
    subst hv29
    have N29 := Fr.app N28 N29q
    obtain ⟨fs, hr, hrun, hended, hW, hsame⟩ := X29.leave (v := some (.int (1 : Int32))) (fun h => by rw [Bd.returns] at h; cases h)
    refine ⟨_, _, pre0 _ (R1 _ (R27 _ ?_)), hrun, hended, _, _, rfl, ?_, ⟨_, rfl⟩, hW, hsame.mono (by decide) (by decide)⟩
    · show Steps p.tables e below (s₁.setTop (mkF m 8 #[.val (.int p1), .val (.int (8 : Int32)), .unset, .unset] [])) _
      refine XS.iloadN X0.here hx rfl (hb hby at_8) rfl ?_
      show Steps p.tables e below (s₁.setTop (mkF m 9 #[.val (.int p1), .val (.int (8 : Int32)), .unset, .unset] [(.int (8 : Int32))])) _
      refine st28 _ ?_
      show Steps p.tables e below (T28.setTop (mkF m 12 #[.val (.int p1), .val (.int (8 : Int32)), .unset, .unset] [(.ref a_DOUBLE)])) _
      refine XS.astoreN X28.here hx rfl (hb hby at_12) rfl rfl (l' := #[.val (.int p1), .val (.int (8 : Int32)), .val (.ref a_DOUBLE), .unset]) rfl ?_
      show Steps p.tables e below (T28.setTop (mkF m 13 #[.val (.int p1), .val (.int (8 : Int32)), .val (.ref a_DOUBLE), .unset] [])) _
      refine XS.iloadN X28.here hx rfl (hb hby at_13) rfl ?_
      show Steps p.tables e below (T28.setTop (mkF m 14 #[.val (.int p1), .val (.int (8 : Int32)), .val (.ref a_DOUBLE), .unset] [(.int (8 : Int32))])) _
      refine XS.ifNo X28.here hx rfl (hb hby at_14) rfl ((if0 _ _).trans (feq (by decide : ¬ ((8 : Int32) = (0 : Int32)))).1) ?_
      show Steps p.tables e below (T28.setTop (mkF m 17 #[.val (.int p1), .val (.int (8 : Int32)), .val (.ref a_DOUBLE), .unset] [])) _
      refine XS.iloadN X28.here hx rfl (hb hby at_17) rfl ?_
      show Steps p.tables e below (T28.setTop (mkF m 18 #[.val (.int p1), .val (.int (8 : Int32)), .val (.ref a_DOUBLE), .unset] [(.int (8 : Int32))])) _
      refine XS.iconst X28.here hx rfl (hb hby at_18) ?_
      show Steps p.tables e below (T28.setTop (mkF m 19 #[.val (.int p1), .val (.int (8 : Int32)), .val (.ref a_DOUBLE), .unset] [(.int (5 : Int32)), (.int (8 : Int32))])) _
      refine XS.icmpNo X28.here hx rfl (hb hby at_19) rfl (feq (by decide : ¬ ((8 : Int32) = (5 : Int32)))).1 ?_
      show Steps p.tables e below (T28.setTop (mkF m 22 #[.val (.int p1), .val (.int (8 : Int32)), .val (.ref a_DOUBLE), .unset] [])) _
      refine XS.iconst X28.here hx rfl (hb hby at_22) ?_
      show Steps p.tables e below (T28.setTop (mkF m 23 #[.val (.int p1), .val (.int (8 : Int32)), .val (.ref a_DOUBLE), .unset] [(.int (1 : Int32))])) _
      refine XS.goto X28.here hx rfl (pc0 := 23) (pc' := 27) rfl (hb hby at_23) (by decide) (by decide) ?_
      show Steps p.tables e below (T28.setTop (mkF m 27 #[.val (.int p1), .val (.int (8 : Int32)), .val (.ref a_DOUBLE), .unset] [(.int (1 : Int32))])) _
      refine XS.istoreN X28.here hx rfl (hb hby at_27) rfl (l' := #[.val (.int p1), .val (.int (8 : Int32)), .val (.ref a_DOUBLE), .val (.int (1 : Int32))]) rfl ?_
      show Steps p.tables e below (T28.setTop (mkF m 28 #[.val (.int p1), .val (.int (8 : Int32)), .val (.ref a_DOUBLE), .val (.int (1 : Int32))] [])) _
      refine XS.aloadN X28.here hx rfl (hb hby at_28) rfl rfl ?_
      show Steps p.tables e below (T28.setTop (mkF m 29 #[.val (.int p1), .val (.int (8 : Int32)), .val (.ref a_DOUBLE), .val (.int (1 : Int32))] [(.ref a_DOUBLE)])) _
      refine st29.trans ?_
      show Steps p.tables e below (T29.setTop (mkF m 32 #[.val (.int p1), .val (.int (8 : Int32)), .val (.ref a_DOUBLE), .val (.int (1 : Int32))] [(.int (1 : Int32))])) _
      refine XS.iloadN X29.here hx rfl (hb hby at_32) rfl ?_
      show Steps p.tables e below (T29.setTop (mkF m 33 #[.val (.int p1), .val (.int (8 : Int32)), .val (.ref a_DOUBLE), .val (.int (1 : Int32))] [(.int (1 : Int32)), (.int (1 : Int32))])) _
      refine XS.icmpNo X29.here hx rfl (hb hby at_33) rfl (teq (by decide : (1 : Int32) = (1 : Int32))).2 ?_
      show Steps p.tables e below (T29.setTop (mkF m 36 #[.val (.int p1), .val (.int (8 : Int32)), .val (.ref a_DOUBLE), .val (.int (1 : Int32))] [])) _
      refine XS.iconst X29.here hx rfl (hb hby at_36) ?_
      show Steps p.tables e below (T29.setTop (mkF m 37 #[.val (.int p1), .val (.int (8 : Int32)), .val (.ref a_DOUBLE), .val (.int (1 : Int32))] [(.int (1 : Int32))])) _
      refine XS.goto X29.here hx rfl (pc0 := 37) (pc' := 41) rfl (hb hby at_37) (by decide) (by decide) ?_
      show Steps p.tables e below (T29.setTop (mkF m 41 #[.val (.int p1), .val (.int (8 : Int32)), .val (.ref a_DOUBLE), .val (.int (1 : Int32))] [(.int (1 : Int32))])) _
      exact retN X29 hx (t := .boolean) Bd.returns (by simp) (hb hby at_41) hr
    · show Q0 n0 _ T29.heap _
      rw [r29]
      exact ⟨rfl, N29⟩
  · have R30 : ∀ tg, Steps p.tables e below (s₁.setTop (mkF m 8 #[.val (.int p1), .val (.int (9 : Int32)), .unset, .unset] [])) tg → Steps p.tables e below (s₁.setTop (mkF m 8 #[.val (.int p1), .val (.int ((p1 &&& (2147483647 : Int32)) % (22 : Int32))), .unset, .unset] [])) tg := fun tg kt => by rw [hk2]; exact kt
    obtain ⟨_, _, ⟨T31, L31, k31, n31⟩, -, X31, ⟨Lc31, hQ31, l31, y31, z31⟩, st31⟩ := Jvm.LawKit.callS X0 hx (y := (⟨"com/example/abaco/abaco/core/AtomicTypeIsCastTargetPinLaw", "pick", "(I)Lcom/example/abaco/abaco/core/AtomicType;"⟩ : MethodName)) hown (mvT hZ (hw _ (List.mem_of_getElem? (i := 1) rfl))) (mvT hZ (hw _ (List.mem_of_getElem? (i := 2) rfl))) (mvT hZ (hw _ (List.mem_of_getElem? (i := 3) rfl))) (mvT hZ (hw _ (List.mem_of_getElem? (i := 4) rfl))) (by decide) (backOf (W := 0) (rmP l Z a0 hw [] (9 : Int32) a_ANY_ATOMIC_TYPE a_NUMERIC a_STRING a_UNTYPED_ATOMIC a_BOOLEAN a_NOTATION a_DECIMAL a_FLOAT a_DOUBLE a_INTEGER a_NON_POSITIVE_INTEGER a_NEGATIVE_INTEGER a_LONG a_INT a_SHORT a_BYTE a_NON_NEGATIVE_INTEGER a_UNSIGNED_LONG a_UNSIGNED_INT a_UNSIGNED_SHORT a_UNSIGNED_BYTE a_POSITIVE_INTEGER h0 n0 Z0 S_ANY_ATOMIC_TYPE S_NUMERIC S_STRING S_UNTYPED_ATOMIC S_BOOLEAN S_NOTATION S_DECIMAL S_FLOAT S_DOUBLE S_INTEGER S_NON_POSITIVE_INTEGER S_NEGATIVE_INTEGER S_LONG S_INT S_SHORT S_BYTE S_NON_NEGATIVE_INTEGER S_UNSIGNED_LONG S_UNSIGNED_INT S_UNSIGNED_SHORT S_UNSIGNED_BYTE S_POSITIVE_INTEGER) hZ (hw _ (List.mem_of_getElem? (i := 4) rfl)) (hw _ (List.mem_of_getElem? (i := 3) rfl)) (by decide) (by decide)) (g := (mkF m 9 #[.val (.int p1), .val (.int (9 : Int32)), .unset, .unset] [(.int (9 : Int32))])) rfl (by rw [hml]; rfl) (argsL := [(.int (9 : Int32))]) (rest := []) (lenOf pd_0 rfl) rfl (by show 2 * 0 + _ ≤ _; exact Nat.le_of_eq rfl) (hb hby at_9) (fun _ _ => ⟨rfl, e0, (by decide : 0 + 0 ≤ _), (by decide : 0 + 0 ≤ _)⟩)
    dsimp only [Pt.U, Pt.locs, Pt.cells, Pt.slots] at X31 l31 y31 z31 st31 hQ31
    subst l31 y31 z31
    obtain ⟨hv31, N31q, r31⟩ := hQ31
    rw [if_neg (by decide), if_neg (by decide), if_neg (by decide), if_neg (by decide), if_neg (by decide), if_neg (by decide), if_neg (by decide), if_neg (by decide), if_neg (by decide), if_pos rfl] at hv31
    subst hv31
    have N31 := Fr.app N0 N31q
    obtain ⟨cq32, kq32, q32a, q32b, q32c⟩ := isOf hZ r31 E_INTEGER
    obtain ⟨_, _, ⟨T32, L32, k32, n32⟩, -, X32, ⟨Lc32, hQ32, l32, y32, z32⟩, st32⟩ := X31.virtualBack hx (y := (⟨"com/example/abaco/abaco/core/AtomicType", "isCastTarget", "()Z"⟩ : MethodName)) (z := (⟨"com/example/abaco/abaco/core/AtomicType", "isCastTarget", "()Z"⟩ : MethodName)) hown (mvT hZ (hw _ (List.mem_of_getElem? (i := 8) rfl))) (mvT hZ (hw _ (List.mem_of_getElem? (i := 9) rfl))) (notFace_of_selects (args := #[]) (mvT hZ (hw _ (List.mem_of_getElem? (i := 11) rfl)))) (mvT hZ (hw _ (List.mem_of_getElem? (i := 11) rfl))) (mvT hZ (hw _ (List.mem_of_getElem? (i := 10) rfl))) (by decide) (backOf (W := 0) (rm1 l Z a0 hw [] a_INTEGER a_ANY_ATOMIC_TYPE a_NOTATION h0 n0 Z0 S_ANY_ATOMIC_TYPE S_NOTATION) hZ (hw _ (List.mem_of_getElem? (i := 12) rfl)) (hw _ (List.mem_of_getElem? (i := 6) rfl)) (by decide) (by decide)) q32a q32c (g := (mkF m 29 #[.val (.int p1), .val (.int (9 : Int32)), .val (.ref a_INTEGER), .val (.int (1 : Int32))] [(.ref a_INTEGER)])) rfl (by rw [hml]; rfl) (Steps.refl _) (argsL := []) (rest := []) (lenOf pd_1 rfl) rfl (by show 2 * 0 + _ ≤ _; exact Nat.le_of_eq rfl) (hb hby at_29) (fun _ _ => ⟨rfl, r31, (by decide : 0 + 0 ≤ _), (by decide : 0 + 0 ≤ _)⟩)
    dsimp only [Pt.U, Pt.locs, Pt.cells, Pt.slots] at X32 l32 y32 z32 st32 hQ32
    subst l32 y32 z32
    obtain ⟨hv32, N32q, r32⟩ := hQ32
    rw [(if_neg (fun h => h.elim (own_ne_fld F_INTEGER_ordinal F_ANY_ATOMIC_TYPE_ordinal (by decide)) (own_ne_fld F_INTEGER_ordinal F_NOTATION_ordinal (by decide))))] at hv32
    subst hv32
    have N32 := Fr.app N31 N32q
    obtain ⟨fs, hr, hrun, hended, hW, hsame⟩ := X32.leave (v := some (.int (1 : Int32))) (fun h => by rw [Bd.returns] at h; cases h)
    refine ⟨_, _, pre0 _ (R1 _ (R30 _ ?_)), hrun, hended, _, _, rfl, ?_, ⟨_, rfl⟩, hW, hsame.mono (by decide) (by decide)⟩
    · show Steps p.tables e below (s₁.setTop (mkF m 8 #[.val (.int p1), .val (.int (9 : Int32)), .unset, .unset] [])) _
      refine XS.iloadN X0.here hx rfl (hb hby at_8) rfl ?_
      show Steps p.tables e below (s₁.setTop (mkF m 9 #[.val (.int p1), .val (.int (9 : Int32)), .unset, .unset] [(.int (9 : Int32))])) _
      refine st31 _ ?_
      show Steps p.tables e below (T31.setTop (mkF m 12 #[.val (.int p1), .val (.int (9 : Int32)), .unset, .unset] [(.ref a_INTEGER)])) _
      refine XS.astoreN X31.here hx rfl (hb hby at_12) rfl rfl (l' := #[.val (.int p1), .val (.int (9 : Int32)), .val (.ref a_INTEGER), .unset]) rfl ?_
      show Steps p.tables e below (T31.setTop (mkF m 13 #[.val (.int p1), .val (.int (9 : Int32)), .val (.ref a_INTEGER), .unset] [])) _
      refine XS.iloadN X31.here hx rfl (hb hby at_13) rfl ?_
      show Steps p.tables e below (T31.setTop (mkF m 14 #[.val (.int p1), .val (.int (9 : Int32)), .val (.ref a_INTEGER), .unset] [(.int (9 : Int32))])) _
      refine XS.ifNo X31.here hx rfl (hb hby at_14) rfl ((if0 _ _).trans (feq (by decide : ¬ ((9 : Int32) = (0 : Int32)))).1) ?_
      show Steps p.tables e below (T31.setTop (mkF m 17 #[.val (.int p1), .val (.int (9 : Int32)), .val (.ref a_INTEGER), .unset] [])) _
      refine XS.iloadN X31.here hx rfl (hb hby at_17) rfl ?_
      show Steps p.tables e below (T31.setTop (mkF m 18 #[.val (.int p1), .val (.int (9 : Int32)), .val (.ref a_INTEGER), .unset] [(.int (9 : Int32))])) _
      refine XS.iconst X31.here hx rfl (hb hby at_18) ?_
      show Steps p.tables e below (T31.setTop (mkF m 19 #[.val (.int p1), .val (.int (9 : Int32)), .val (.ref a_INTEGER), .unset] [(.int (5 : Int32)), (.int (9 : Int32))])) _
      refine XS.icmpNo X31.here hx rfl (hb hby at_19) rfl (feq (by decide : ¬ ((9 : Int32) = (5 : Int32)))).1 ?_
      show Steps p.tables e below (T31.setTop (mkF m 22 #[.val (.int p1), .val (.int (9 : Int32)), .val (.ref a_INTEGER), .unset] [])) _
      refine XS.iconst X31.here hx rfl (hb hby at_22) ?_
      show Steps p.tables e below (T31.setTop (mkF m 23 #[.val (.int p1), .val (.int (9 : Int32)), .val (.ref a_INTEGER), .unset] [(.int (1 : Int32))])) _
      refine XS.goto X31.here hx rfl (pc0 := 23) (pc' := 27) rfl (hb hby at_23) (by decide) (by decide) ?_
      show Steps p.tables e below (T31.setTop (mkF m 27 #[.val (.int p1), .val (.int (9 : Int32)), .val (.ref a_INTEGER), .unset] [(.int (1 : Int32))])) _
      refine XS.istoreN X31.here hx rfl (hb hby at_27) rfl (l' := #[.val (.int p1), .val (.int (9 : Int32)), .val (.ref a_INTEGER), .val (.int (1 : Int32))]) rfl ?_
      show Steps p.tables e below (T31.setTop (mkF m 28 #[.val (.int p1), .val (.int (9 : Int32)), .val (.ref a_INTEGER), .val (.int (1 : Int32))] [])) _
      refine XS.aloadN X31.here hx rfl (hb hby at_28) rfl rfl ?_
      show Steps p.tables e below (T31.setTop (mkF m 29 #[.val (.int p1), .val (.int (9 : Int32)), .val (.ref a_INTEGER), .val (.int (1 : Int32))] [(.ref a_INTEGER)])) _
      refine st32.trans ?_
      show Steps p.tables e below (T32.setTop (mkF m 32 #[.val (.int p1), .val (.int (9 : Int32)), .val (.ref a_INTEGER), .val (.int (1 : Int32))] [(.int (1 : Int32))])) _
      refine XS.iloadN X32.here hx rfl (hb hby at_32) rfl ?_
      show Steps p.tables e below (T32.setTop (mkF m 33 #[.val (.int p1), .val (.int (9 : Int32)), .val (.ref a_INTEGER), .val (.int (1 : Int32))] [(.int (1 : Int32)), (.int (1 : Int32))])) _
      refine XS.icmpNo X32.here hx rfl (hb hby at_33) rfl (teq (by decide : (1 : Int32) = (1 : Int32))).2 ?_
      show Steps p.tables e below (T32.setTop (mkF m 36 #[.val (.int p1), .val (.int (9 : Int32)), .val (.ref a_INTEGER), .val (.int (1 : Int32))] [])) _
      refine XS.iconst X32.here hx rfl (hb hby at_36) ?_
      show Steps p.tables e below (T32.setTop (mkF m 37 #[.val (.int p1), .val (.int (9 : Int32)), .val (.ref a_INTEGER), .val (.int (1 : Int32))] [(.int (1 : Int32))])) _
      refine XS.goto X32.here hx rfl (pc0 := 37) (pc' := 41) rfl (hb hby at_37) (by decide) (by decide) ?_
      show Steps p.tables e below (T32.setTop (mkF m 41 #[.val (.int p1), .val (.int (9 : Int32)), .val (.ref a_INTEGER), .val (.int (1 : Int32))] [(.int (1 : Int32))])) _
      exact retN X32 hx (t := .boolean) Bd.returns (by simp) (hb hby at_41) hr
    · show Q0 n0 _ T32.heap _
      rw [r32]
      exact ⟨rfl, N32⟩
  · have R33 : ∀ tg, Steps p.tables e below (s₁.setTop (mkF m 8 #[.val (.int p1), .val (.int (10 : Int32)), .unset, .unset] [])) tg → Steps p.tables e below (s₁.setTop (mkF m 8 #[.val (.int p1), .val (.int ((p1 &&& (2147483647 : Int32)) % (22 : Int32))), .unset, .unset] [])) tg := fun tg kt => by rw [hk2]; exact kt
    obtain ⟨_, _, ⟨T34, L34, k34, n34⟩, -, X34, ⟨Lc34, hQ34, l34, y34, z34⟩, st34⟩ := Jvm.LawKit.callS X0 hx (y := (⟨"com/example/abaco/abaco/core/AtomicTypeIsCastTargetPinLaw", "pick", "(I)Lcom/example/abaco/abaco/core/AtomicType;"⟩ : MethodName)) hown (mvT hZ (hw _ (List.mem_of_getElem? (i := 1) rfl))) (mvT hZ (hw _ (List.mem_of_getElem? (i := 2) rfl))) (mvT hZ (hw _ (List.mem_of_getElem? (i := 3) rfl))) (mvT hZ (hw _ (List.mem_of_getElem? (i := 4) rfl))) (by decide) (backOf (W := 0) (rmP l Z a0 hw [] (10 : Int32) a_ANY_ATOMIC_TYPE a_NUMERIC a_STRING a_UNTYPED_ATOMIC a_BOOLEAN a_NOTATION a_DECIMAL a_FLOAT a_DOUBLE a_INTEGER a_NON_POSITIVE_INTEGER a_NEGATIVE_INTEGER a_LONG a_INT a_SHORT a_BYTE a_NON_NEGATIVE_INTEGER a_UNSIGNED_LONG a_UNSIGNED_INT a_UNSIGNED_SHORT a_UNSIGNED_BYTE a_POSITIVE_INTEGER h0 n0 Z0 S_ANY_ATOMIC_TYPE S_NUMERIC S_STRING S_UNTYPED_ATOMIC S_BOOLEAN S_NOTATION S_DECIMAL S_FLOAT S_DOUBLE S_INTEGER S_NON_POSITIVE_INTEGER S_NEGATIVE_INTEGER S_LONG S_INT S_SHORT S_BYTE S_NON_NEGATIVE_INTEGER S_UNSIGNED_LONG S_UNSIGNED_INT S_UNSIGNED_SHORT S_UNSIGNED_BYTE S_POSITIVE_INTEGER) hZ (hw _ (List.mem_of_getElem? (i := 4) rfl)) (hw _ (List.mem_of_getElem? (i := 3) rfl)) (by decide) (by decide)) (g := (mkF m 9 #[.val (.int p1), .val (.int (10 : Int32)), .unset, .unset] [(.int (10 : Int32))])) rfl (by rw [hml]; rfl) (argsL := [(.int (10 : Int32))]) (rest := []) (lenOf pd_0 rfl) rfl (by show 2 * 0 + _ ≤ _; exact Nat.le_of_eq rfl) (hb hby at_9) (fun _ _ => ⟨rfl, e0, (by decide : 0 + 0 ≤ _), (by decide : 0 + 0 ≤ _)⟩)
    dsimp only [Pt.U, Pt.locs, Pt.cells, Pt.slots] at X34 l34 y34 z34 st34 hQ34
    subst l34 y34 z34
    obtain ⟨hv34, N34q, r34⟩ := hQ34
    rw [if_neg (by decide), if_neg (by decide), if_neg (by decide), if_neg (by decide), if_neg (by decide), if_neg (by decide), if_neg (by decide), if_neg (by decide), if_neg (by decide), if_neg (by decide), if_pos rfl] at hv34
    subst hv34
    have N34 := Fr.app N0 N34q
    obtain ⟨cq35, kq35, q35a, q35b, q35c⟩ := isOf hZ r34 E_NON_POSITIVE_INTEGER
    obtain ⟨_, _, ⟨T35, L35, k35, n35⟩, -, X35, ⟨Lc35, hQ35, l35, y35, z35⟩, st35⟩ := X34.virtualBack hx (y := (⟨"com/example/abaco/abaco/core/AtomicType", "isCastTarget", "()Z"⟩ : MethodName)) (z := (⟨"com/example/abaco/abaco/core/AtomicType", "isCastTarget", "()Z"⟩ : MethodName)) hown (mvT hZ (hw _ (List.mem_of_getElem? (i := 8) rfl))) (mvT hZ (hw _ (List.mem_of_getElem? (i := 9) rfl))) (notFace_of_selects (args := #[]) (mvT hZ (hw _ (List.mem_of_getElem? (i := 11) rfl)))) (mvT hZ (hw _ (List.mem_of_getElem? (i := 11) rfl))) (mvT hZ (hw _ (List.mem_of_getElem? (i := 10) rfl))) (by decide) (backOf (W := 0) (rm1 l Z a0 hw [] a_NON_POSITIVE_INTEGER a_ANY_ATOMIC_TYPE a_NOTATION h0 n0 Z0 S_ANY_ATOMIC_TYPE S_NOTATION) hZ (hw _ (List.mem_of_getElem? (i := 12) rfl)) (hw _ (List.mem_of_getElem? (i := 6) rfl)) (by decide) (by decide)) q35a q35c (g := (mkF m 29 #[.val (.int p1), .val (.int (10 : Int32)), .val (.ref a_NON_POSITIVE_INTEGER), .val (.int (1 : Int32))] [(.ref a_NON_POSITIVE_INTEGER)])) rfl (by rw [hml]; rfl) (Steps.refl _) (argsL := []) (rest := []) (lenOf pd_1 rfl) rfl (by show 2 * 0 + _ ≤ _; exact Nat.le_of_eq rfl) (hb hby at_29) (fun _ _ => ⟨rfl, r34, (by decide : 0 + 0 ≤ _), (by decide : 0 + 0 ≤ _)⟩)
    dsimp only [Pt.U, Pt.locs, Pt.cells, Pt.slots] at X35 l35 y35 z35 st35 hQ35
    subst l35 y35 z35
    obtain ⟨hv35, N35q, r35⟩ := hQ35
    rw [(if_neg (fun h => h.elim (own_ne_fld F_NON_POSITIVE_INTEGER_ordinal F_ANY_ATOMIC_TYPE_ordinal (by decide)) (own_ne_fld F_NON_POSITIVE_INTEGER_ordinal F_NOTATION_ordinal (by decide))))] at hv35
    subst hv35
    have N35 := Fr.app N34 N35q
    obtain ⟨fs, hr, hrun, hended, hW, hsame⟩ := X35.leave (v := some (.int (1 : Int32))) (fun h => by rw [Bd.returns] at h; cases h)
    refine ⟨_, _, pre0 _ (R1 _ (R33 _ ?_)), hrun, hended, _, _, rfl, ?_, ⟨_, rfl⟩, hW, hsame.mono (by decide) (by decide)⟩
    · show Steps p.tables e below (s₁.setTop (mkF m 8 #[.val (.int p1), .val (.int (10 : Int32)), .unset, .unset] [])) _
      refine XS.iloadN X0.here hx rfl (hb hby at_8) rfl ?_
      show Steps p.tables e below (s₁.setTop (mkF m 9 #[.val (.int p1), .val (.int (10 : Int32)), .unset, .unset] [(.int (10 : Int32))])) _
      refine st34 _ ?_
      show Steps p.tables e below (T34.setTop (mkF m 12 #[.val (.int p1), .val (.int (10 : Int32)), .unset, .unset] [(.ref a_NON_POSITIVE_INTEGER)])) _
      refine XS.astoreN X34.here hx rfl (hb hby at_12) rfl rfl (l' := #[.val (.int p1), .val (.int (10 : Int32)), .val (.ref a_NON_POSITIVE_INTEGER), .unset]) rfl ?_
      show Steps p.tables e below (T34.setTop (mkF m 13 #[.val (.int p1), .val (.int (10 : Int32)), .val (.ref a_NON_POSITIVE_INTEGER), .unset] [])) _
      refine XS.iloadN X34.here hx rfl (hb hby at_13) rfl ?_
      show Steps p.tables e below (T34.setTop (mkF m 14 #[.val (.int p1), .val (.int (10 : Int32)), .val (.ref a_NON_POSITIVE_INTEGER), .unset] [(.int (10 : Int32))])) _
      refine XS.ifNo X34.here hx rfl (hb hby at_14) rfl ((if0 _ _).trans (feq (by decide : ¬ ((10 : Int32) = (0 : Int32)))).1) ?_
      show Steps p.tables e below (T34.setTop (mkF m 17 #[.val (.int p1), .val (.int (10 : Int32)), .val (.ref a_NON_POSITIVE_INTEGER), .unset] [])) _
      refine XS.iloadN X34.here hx rfl (hb hby at_17) rfl ?_
      show Steps p.tables e below (T34.setTop (mkF m 18 #[.val (.int p1), .val (.int (10 : Int32)), .val (.ref a_NON_POSITIVE_INTEGER), .unset] [(.int (10 : Int32))])) _
      refine XS.iconst X34.here hx rfl (hb hby at_18) ?_
      show Steps p.tables e below (T34.setTop (mkF m 19 #[.val (.int p1), .val (.int (10 : Int32)), .val (.ref a_NON_POSITIVE_INTEGER), .unset] [(.int (5 : Int32)), (.int (10 : Int32))])) _
      refine XS.icmpNo X34.here hx rfl (hb hby at_19) rfl (feq (by decide : ¬ ((10 : Int32) = (5 : Int32)))).1 ?_
      show Steps p.tables e below (T34.setTop (mkF m 22 #[.val (.int p1), .val (.int (10 : Int32)), .val (.ref a_NON_POSITIVE_INTEGER), .unset] [])) _
      refine XS.iconst X34.here hx rfl (hb hby at_22) ?_
      show Steps p.tables e below (T34.setTop (mkF m 23 #[.val (.int p1), .val (.int (10 : Int32)), .val (.ref a_NON_POSITIVE_INTEGER), .unset] [(.int (1 : Int32))])) _
      refine XS.goto X34.here hx rfl (pc0 := 23) (pc' := 27) rfl (hb hby at_23) (by decide) (by decide) ?_
      show Steps p.tables e below (T34.setTop (mkF m 27 #[.val (.int p1), .val (.int (10 : Int32)), .val (.ref a_NON_POSITIVE_INTEGER), .unset] [(.int (1 : Int32))])) _
      refine XS.istoreN X34.here hx rfl (hb hby at_27) rfl (l' := #[.val (.int p1), .val (.int (10 : Int32)), .val (.ref a_NON_POSITIVE_INTEGER), .val (.int (1 : Int32))]) rfl ?_
      show Steps p.tables e below (T34.setTop (mkF m 28 #[.val (.int p1), .val (.int (10 : Int32)), .val (.ref a_NON_POSITIVE_INTEGER), .val (.int (1 : Int32))] [])) _
      refine XS.aloadN X34.here hx rfl (hb hby at_28) rfl rfl ?_
      show Steps p.tables e below (T34.setTop (mkF m 29 #[.val (.int p1), .val (.int (10 : Int32)), .val (.ref a_NON_POSITIVE_INTEGER), .val (.int (1 : Int32))] [(.ref a_NON_POSITIVE_INTEGER)])) _
      refine st35.trans ?_
      show Steps p.tables e below (T35.setTop (mkF m 32 #[.val (.int p1), .val (.int (10 : Int32)), .val (.ref a_NON_POSITIVE_INTEGER), .val (.int (1 : Int32))] [(.int (1 : Int32))])) _
      refine XS.iloadN X35.here hx rfl (hb hby at_32) rfl ?_
      show Steps p.tables e below (T35.setTop (mkF m 33 #[.val (.int p1), .val (.int (10 : Int32)), .val (.ref a_NON_POSITIVE_INTEGER), .val (.int (1 : Int32))] [(.int (1 : Int32)), (.int (1 : Int32))])) _
      refine XS.icmpNo X35.here hx rfl (hb hby at_33) rfl (teq (by decide : (1 : Int32) = (1 : Int32))).2 ?_
      show Steps p.tables e below (T35.setTop (mkF m 36 #[.val (.int p1), .val (.int (10 : Int32)), .val (.ref a_NON_POSITIVE_INTEGER), .val (.int (1 : Int32))] [])) _
      refine XS.iconst X35.here hx rfl (hb hby at_36) ?_
      show Steps p.tables e below (T35.setTop (mkF m 37 #[.val (.int p1), .val (.int (10 : Int32)), .val (.ref a_NON_POSITIVE_INTEGER), .val (.int (1 : Int32))] [(.int (1 : Int32))])) _
      refine XS.goto X35.here hx rfl (pc0 := 37) (pc' := 41) rfl (hb hby at_37) (by decide) (by decide) ?_
      show Steps p.tables e below (T35.setTop (mkF m 41 #[.val (.int p1), .val (.int (10 : Int32)), .val (.ref a_NON_POSITIVE_INTEGER), .val (.int (1 : Int32))] [(.int (1 : Int32))])) _
      exact retN X35 hx (t := .boolean) Bd.returns (by simp) (hb hby at_41) hr
    · show Q0 n0 _ T35.heap _
      rw [r35]
      exact ⟨rfl, N35⟩
  · have R36 : ∀ tg, Steps p.tables e below (s₁.setTop (mkF m 8 #[.val (.int p1), .val (.int (11 : Int32)), .unset, .unset] [])) tg → Steps p.tables e below (s₁.setTop (mkF m 8 #[.val (.int p1), .val (.int ((p1 &&& (2147483647 : Int32)) % (22 : Int32))), .unset, .unset] [])) tg := fun tg kt => by rw [hk2]; exact kt
    obtain ⟨_, _, ⟨T37, L37, k37, n37⟩, -, X37, ⟨Lc37, hQ37, l37, y37, z37⟩, st37⟩ := Jvm.LawKit.callS X0 hx (y := (⟨"com/example/abaco/abaco/core/AtomicTypeIsCastTargetPinLaw", "pick", "(I)Lcom/example/abaco/abaco/core/AtomicType;"⟩ : MethodName)) hown (mvT hZ (hw _ (List.mem_of_getElem? (i := 1) rfl))) (mvT hZ (hw _ (List.mem_of_getElem? (i := 2) rfl))) (mvT hZ (hw _ (List.mem_of_getElem? (i := 3) rfl))) (mvT hZ (hw _ (List.mem_of_getElem? (i := 4) rfl))) (by decide) (backOf (W := 0) (rmP l Z a0 hw [] (11 : Int32) a_ANY_ATOMIC_TYPE a_NUMERIC a_STRING a_UNTYPED_ATOMIC a_BOOLEAN a_NOTATION a_DECIMAL a_FLOAT a_DOUBLE a_INTEGER a_NON_POSITIVE_INTEGER a_NEGATIVE_INTEGER a_LONG a_INT a_SHORT a_BYTE a_NON_NEGATIVE_INTEGER a_UNSIGNED_LONG a_UNSIGNED_INT a_UNSIGNED_SHORT a_UNSIGNED_BYTE a_POSITIVE_INTEGER h0 n0 Z0 S_ANY_ATOMIC_TYPE S_NUMERIC S_STRING S_UNTYPED_ATOMIC S_BOOLEAN S_NOTATION S_DECIMAL S_FLOAT S_DOUBLE S_INTEGER S_NON_POSITIVE_INTEGER S_NEGATIVE_INTEGER S_LONG S_INT S_SHORT S_BYTE S_NON_NEGATIVE_INTEGER S_UNSIGNED_LONG S_UNSIGNED_INT S_UNSIGNED_SHORT S_UNSIGNED_BYTE S_POSITIVE_INTEGER) hZ (hw _ (List.mem_of_getElem? (i := 4) rfl)) (hw _ (List.mem_of_getElem? (i := 3) rfl)) (by decide) (by decide)) (g := (mkF m 9 #[.val (.int p1), .val (.int (11 : Int32)), .unset, .unset] [(.int (11 : Int32))])) rfl (by rw [hml]; rfl) (argsL := [(.int (11 : Int32))]) (rest := []) (lenOf pd_0 rfl) rfl (by show 2 * 0 + _ ≤ _; exact Nat.le_of_eq rfl) (hb hby at_9) (fun _ _ => ⟨rfl, e0, (by decide : 0 + 0 ≤ _), (by decide : 0 + 0 ≤ _)⟩)
    dsimp only [Pt.U, Pt.locs, Pt.cells, Pt.slots] at X37 l37 y37 z37 st37 hQ37
    subst l37 y37 z37
    obtain ⟨hv37, N37q, r37⟩ := hQ37
    rw [if_neg (by decide), if_neg (by decide), if_neg (by decide), if_neg (by decide), if_neg (by decide), if_neg (by decide), if_neg (by decide), if_neg (by decide), if_neg (by decide), if_neg (by decide), if_neg (by decide), if_pos rfl] at hv37
    subst hv37
    have N37 := Fr.app N0 N37q
    obtain ⟨cq38, kq38, q38a, q38b, q38c⟩ := isOf hZ r37 E_NEGATIVE_INTEGER
    obtain ⟨_, _, ⟨T38, L38, k38, n38⟩, -, X38, ⟨Lc38, hQ38, l38, y38, z38⟩, st38⟩ := X37.virtualBack hx (y := (⟨"com/example/abaco/abaco/core/AtomicType", "isCastTarget", "()Z"⟩ : MethodName)) (z := (⟨"com/example/abaco/abaco/core/AtomicType", "isCastTarget", "()Z"⟩ : MethodName)) hown (mvT hZ (hw _ (List.mem_of_getElem? (i := 8) rfl))) (mvT hZ (hw _ (List.mem_of_getElem? (i := 9) rfl))) (notFace_of_selects (args := #[]) (mvT hZ (hw _ (List.mem_of_getElem? (i := 11) rfl)))) (mvT hZ (hw _ (List.mem_of_getElem? (i := 11) rfl))) (mvT hZ (hw _ (List.mem_of_getElem? (i := 10) rfl))) (by decide) (backOf (W := 0) (rm1 l Z a0 hw [] a_NEGATIVE_INTEGER a_ANY_ATOMIC_TYPE a_NOTATION h0 n0 Z0 S_ANY_ATOMIC_TYPE S_NOTATION) hZ (hw _ (List.mem_of_getElem? (i := 12) rfl)) (hw _ (List.mem_of_getElem? (i := 6) rfl)) (by decide) (by decide)) q38a q38c (g := (mkF m 29 #[.val (.int p1), .val (.int (11 : Int32)), .val (.ref a_NEGATIVE_INTEGER), .val (.int (1 : Int32))] [(.ref a_NEGATIVE_INTEGER)])) rfl (by rw [hml]; rfl) (Steps.refl _) (argsL := []) (rest := []) (lenOf pd_1 rfl) rfl (by show 2 * 0 + _ ≤ _; exact Nat.le_of_eq rfl) (hb hby at_29) (fun _ _ => ⟨rfl, r37, (by decide : 0 + 0 ≤ _), (by decide : 0 + 0 ≤ _)⟩)
    dsimp only [Pt.U, Pt.locs, Pt.cells, Pt.slots] at X38 l38 y38 z38 st38 hQ38
    subst l38 y38 z38
    obtain ⟨hv38, N38q, r38⟩ := hQ38
    rw [(if_neg (fun h => h.elim (own_ne_fld F_NEGATIVE_INTEGER_ordinal F_ANY_ATOMIC_TYPE_ordinal (by decide)) (own_ne_fld F_NEGATIVE_INTEGER_ordinal F_NOTATION_ordinal (by decide))))] at hv38
    subst hv38
    have N38 := Fr.app N37 N38q
    obtain ⟨fs, hr, hrun, hended, hW, hsame⟩ := X38.leave (v := some (.int (1 : Int32))) (fun h => by rw [Bd.returns] at h; cases h)
    refine ⟨_, _, pre0 _ (R1 _ (R36 _ ?_)), hrun, hended, _, _, rfl, ?_, ⟨_, rfl⟩, hW, hsame.mono (by decide) (by decide)⟩
    · show Steps p.tables e below (s₁.setTop (mkF m 8 #[.val (.int p1), .val (.int (11 : Int32)), .unset, .unset] [])) _
      refine XS.iloadN X0.here hx rfl (hb hby at_8) rfl ?_
      show Steps p.tables e below (s₁.setTop (mkF m 9 #[.val (.int p1), .val (.int (11 : Int32)), .unset, .unset] [(.int (11 : Int32))])) _
      refine st37 _ ?_
      show Steps p.tables e below (T37.setTop (mkF m 12 #[.val (.int p1), .val (.int (11 : Int32)), .unset, .unset] [(.ref a_NEGATIVE_INTEGER)])) _
      refine XS.astoreN X37.here hx rfl (hb hby at_12) rfl rfl (l' := #[.val (.int p1), .val (.int (11 : Int32)), .val (.ref a_NEGATIVE_INTEGER), .unset]) rfl ?_
      show Steps p.tables e below (T37.setTop (mkF m 13 #[.val (.int p1), .val (.int (11 : Int32)), .val (.ref a_NEGATIVE_INTEGER), .unset] [])) _
      refine XS.iloadN X37.here hx rfl (hb hby at_13) rfl ?_
      show Steps p.tables e below (T37.setTop (mkF m 14 #[.val (.int p1), .val (.int (11 : Int32)), .val (.ref a_NEGATIVE_INTEGER), .unset] [(.int (11 : Int32))])) _
      refine XS.ifNo X37.here hx rfl (hb hby at_14) rfl ((if0 _ _).trans (feq (by decide : ¬ ((11 : Int32) = (0 : Int32)))).1) ?_
      show Steps p.tables e below (T37.setTop (mkF m 17 #[.val (.int p1), .val (.int (11 : Int32)), .val (.ref a_NEGATIVE_INTEGER), .unset] [])) _
      refine XS.iloadN X37.here hx rfl (hb hby at_17) rfl ?_
      show Steps p.tables e below (T37.setTop (mkF m 18 #[.val (.int p1), .val (.int (11 : Int32)), .val (.ref a_NEGATIVE_INTEGER), .unset] [(.int (11 : Int32))])) _
      refine XS.iconst X37.here hx rfl (hb hby at_18) ?_
      show Steps p.tables e below (T37.setTop (mkF m 19 #[.val (.int p1), .val (.int (11 : Int32)), .val (.ref a_NEGATIVE_INTEGER), .unset] [(.int (5 : Int32)), (.int (11 : Int32))])) _
      refine XS.icmpNo X37.here hx rfl (hb hby at_19) rfl (feq (by decide : ¬ ((11 : Int32) = (5 : Int32)))).1 ?_
      show Steps p.tables e below (T37.setTop (mkF m 22 #[.val (.int p1), .val (.int (11 : Int32)), .val (.ref a_NEGATIVE_INTEGER), .unset] [])) _
      refine XS.iconst X37.here hx rfl (hb hby at_22) ?_
      show Steps p.tables e below (T37.setTop (mkF m 23 #[.val (.int p1), .val (.int (11 : Int32)), .val (.ref a_NEGATIVE_INTEGER), .unset] [(.int (1 : Int32))])) _
      refine XS.goto X37.here hx rfl (pc0 := 23) (pc' := 27) rfl (hb hby at_23) (by decide) (by decide) ?_
      show Steps p.tables e below (T37.setTop (mkF m 27 #[.val (.int p1), .val (.int (11 : Int32)), .val (.ref a_NEGATIVE_INTEGER), .unset] [(.int (1 : Int32))])) _
      refine XS.istoreN X37.here hx rfl (hb hby at_27) rfl (l' := #[.val (.int p1), .val (.int (11 : Int32)), .val (.ref a_NEGATIVE_INTEGER), .val (.int (1 : Int32))]) rfl ?_
      show Steps p.tables e below (T37.setTop (mkF m 28 #[.val (.int p1), .val (.int (11 : Int32)), .val (.ref a_NEGATIVE_INTEGER), .val (.int (1 : Int32))] [])) _
      refine XS.aloadN X37.here hx rfl (hb hby at_28) rfl rfl ?_
      show Steps p.tables e below (T37.setTop (mkF m 29 #[.val (.int p1), .val (.int (11 : Int32)), .val (.ref a_NEGATIVE_INTEGER), .val (.int (1 : Int32))] [(.ref a_NEGATIVE_INTEGER)])) _
      refine st38.trans ?_
      show Steps p.tables e below (T38.setTop (mkF m 32 #[.val (.int p1), .val (.int (11 : Int32)), .val (.ref a_NEGATIVE_INTEGER), .val (.int (1 : Int32))] [(.int (1 : Int32))])) _
      refine XS.iloadN X38.here hx rfl (hb hby at_32) rfl ?_
      show Steps p.tables e below (T38.setTop (mkF m 33 #[.val (.int p1), .val (.int (11 : Int32)), .val (.ref a_NEGATIVE_INTEGER), .val (.int (1 : Int32))] [(.int (1 : Int32)), (.int (1 : Int32))])) _
      refine XS.icmpNo X38.here hx rfl (hb hby at_33) rfl (teq (by decide : (1 : Int32) = (1 : Int32))).2 ?_
      show Steps p.tables e below (T38.setTop (mkF m 36 #[.val (.int p1), .val (.int (11 : Int32)), .val (.ref a_NEGATIVE_INTEGER), .val (.int (1 : Int32))] [])) _
      refine XS.iconst X38.here hx rfl (hb hby at_36) ?_
      show Steps p.tables e below (T38.setTop (mkF m 37 #[.val (.int p1), .val (.int (11 : Int32)), .val (.ref a_NEGATIVE_INTEGER), .val (.int (1 : Int32))] [(.int (1 : Int32))])) _
      refine XS.goto X38.here hx rfl (pc0 := 37) (pc' := 41) rfl (hb hby at_37) (by decide) (by decide) ?_
      show Steps p.tables e below (T38.setTop (mkF m 41 #[.val (.int p1), .val (.int (11 : Int32)), .val (.ref a_NEGATIVE_INTEGER), .val (.int (1 : Int32))] [(.int (1 : Int32))])) _
      exact retN X38 hx (t := .boolean) Bd.returns (by simp) (hb hby at_41) hr
    · show Q0 n0 _ T38.heap _
      rw [r38]
      exact ⟨rfl, N38⟩
  · have R39 : ∀ tg, Steps p.tables e below (s₁.setTop (mkF m 8 #[.val (.int p1), .val (.int (12 : Int32)), .unset, .unset] [])) tg → Steps p.tables e below (s₁.setTop (mkF m 8 #[.val (.int p1), .val (.int ((p1 &&& (2147483647 : Int32)) % (22 : Int32))), .unset, .unset] [])) tg := fun tg kt => by rw [hk2]; exact kt
    obtain ⟨_, _, ⟨T40, L40, k40, n40⟩, -, X40, ⟨Lc40, hQ40, l40, y40, z40⟩, st40⟩ := Jvm.LawKit.callS X0 hx (y := (⟨"com/example/abaco/abaco/core/AtomicTypeIsCastTargetPinLaw", "pick", "(I)Lcom/example/abaco/abaco/core/AtomicType;"⟩ : MethodName)) hown (mvT hZ (hw _ (List.mem_of_getElem? (i := 1) rfl))) (mvT hZ (hw _ (List.mem_of_getElem? (i := 2) rfl))) (mvT hZ (hw _ (List.mem_of_getElem? (i := 3) rfl))) (mvT hZ (hw _ (List.mem_of_getElem? (i := 4) rfl))) (by decide) (backOf (W := 0) (rmP l Z a0 hw [] (12 : Int32) a_ANY_ATOMIC_TYPE a_NUMERIC a_STRING a_UNTYPED_ATOMIC a_BOOLEAN a_NOTATION a_DECIMAL a_FLOAT a_DOUBLE a_INTEGER a_NON_POSITIVE_INTEGER a_NEGATIVE_INTEGER a_LONG a_INT a_SHORT a_BYTE a_NON_NEGATIVE_INTEGER a_UNSIGNED_LONG a_UNSIGNED_INT a_UNSIGNED_SHORT a_UNSIGNED_BYTE a_POSITIVE_INTEGER h0 n0 Z0 S_ANY_ATOMIC_TYPE S_NUMERIC S_STRING S_UNTYPED_ATOMIC S_BOOLEAN S_NOTATION S_DECIMAL S_FLOAT S_DOUBLE S_INTEGER S_NON_POSITIVE_INTEGER S_NEGATIVE_INTEGER S_LONG S_INT S_SHORT S_BYTE S_NON_NEGATIVE_INTEGER S_UNSIGNED_LONG S_UNSIGNED_INT S_UNSIGNED_SHORT S_UNSIGNED_BYTE S_POSITIVE_INTEGER) hZ (hw _ (List.mem_of_getElem? (i := 4) rfl)) (hw _ (List.mem_of_getElem? (i := 3) rfl)) (by decide) (by decide)) (g := (mkF m 9 #[.val (.int p1), .val (.int (12 : Int32)), .unset, .unset] [(.int (12 : Int32))])) rfl (by rw [hml]; rfl) (argsL := [(.int (12 : Int32))]) (rest := []) (lenOf pd_0 rfl) rfl (by show 2 * 0 + _ ≤ _; exact Nat.le_of_eq rfl) (hb hby at_9) (fun _ _ => ⟨rfl, e0, (by decide : 0 + 0 ≤ _), (by decide : 0 + 0 ≤ _)⟩)
    dsimp only [Pt.U, Pt.locs, Pt.cells, Pt.slots] at X40 l40 y40 z40 st40 hQ40
    subst l40 y40 z40
    obtain ⟨hv40, N40q, r40⟩ := hQ40
    rw [if_neg (by decide), if_neg (by decide), if_neg (by decide), if_neg (by decide), if_neg (by decide), if_neg (by decide), if_neg (by decide), if_neg (by decide), if_neg (by decide), if_neg (by decide), if_neg (by decide), if_neg (by decide), if_pos rfl] at hv40
    subst hv40
    have N40 := Fr.app N0 N40q
    obtain ⟨cq41, kq41, q41a, q41b, q41c⟩ := isOf hZ r40 E_LONG
    obtain ⟨_, _, ⟨T41, L41, k41, n41⟩, -, X41, ⟨Lc41, hQ41, l41, y41, z41⟩, st41⟩ := X40.virtualBack hx (y := (⟨"com/example/abaco/abaco/core/AtomicType", "isCastTarget", "()Z"⟩ : MethodName)) (z := (⟨"com/example/abaco/abaco/core/AtomicType", "isCastTarget", "()Z"⟩ : MethodName)) hown (mvT hZ (hw _ (List.mem_of_getElem? (i := 8) rfl))) (mvT hZ (hw _ (List.mem_of_getElem? (i := 9) rfl))) (notFace_of_selects (args := #[]) (mvT hZ (hw _ (List.mem_of_getElem? (i := 11) rfl)))) (mvT hZ (hw _ (List.mem_of_getElem? (i := 11) rfl))) (mvT hZ (hw _ (List.mem_of_getElem? (i := 10) rfl))) (by decide) (backOf (W := 0) (rm1 l Z a0 hw [] a_LONG a_ANY_ATOMIC_TYPE a_NOTATION h0 n0 Z0 S_ANY_ATOMIC_TYPE S_NOTATION) hZ (hw _ (List.mem_of_getElem? (i := 12) rfl)) (hw _ (List.mem_of_getElem? (i := 6) rfl)) (by decide) (by decide)) q41a q41c (g := (mkF m 29 #[.val (.int p1), .val (.int (12 : Int32)), .val (.ref a_LONG), .val (.int (1 : Int32))] [(.ref a_LONG)])) rfl (by rw [hml]; rfl) (Steps.refl _) (argsL := []) (rest := []) (lenOf pd_1 rfl) rfl (by show 2 * 0 + _ ≤ _; exact Nat.le_of_eq rfl) (hb hby at_29) (fun _ _ => ⟨rfl, r40, (by decide : 0 + 0 ≤ _), (by decide : 0 + 0 ≤ _)⟩)
    dsimp only [Pt.U, Pt.locs, Pt.cells, Pt.slots] at X41 l41 y41 z41 st41 hQ41
    subst l41 y41 z41
    obtain ⟨hv41, N41q, r41⟩ := hQ41
    rw [(if_neg (fun h => h.elim (own_ne_fld F_LONG_ordinal F_ANY_ATOMIC_TYPE_ordinal (by decide)) (own_ne_fld F_LONG_ordinal F_NOTATION_ordinal (by decide))))] at hv41
    subst hv41
    have N41 := Fr.app N40 N41q
    obtain ⟨fs, hr, hrun, hended, hW, hsame⟩ := X41.leave (v := some (.int (1 : Int32))) (fun h => by rw [Bd.returns] at h; cases h)
    refine ⟨_, _, pre0 _ (R1 _ (R39 _ ?_)), hrun, hended, _, _, rfl, ?_, ⟨_, rfl⟩, hW, hsame.mono (by decide) (by decide)⟩
    · show Steps p.tables e below (s₁.setTop (mkF m 8 #[.val (.int p1), .val (.int (12 : Int32)), .unset, .unset] [])) _
      refine XS.iloadN X0.here hx rfl (hb hby at_8) rfl ?_
      show Steps p.tables e below (s₁.setTop (mkF m 9 #[.val (.int p1), .val (.int (12 : Int32)), .unset, .unset] [(.int (12 : Int32))])) _
      refine st40 _ ?_
      show Steps p.tables e below (T40.setTop (mkF m 12 #[.val (.int p1), .val (.int (12 : Int32)), .unset, .unset] [(.ref a_LONG)])) _
      refine XS.astoreN X40.here hx rfl (hb hby at_12) rfl rfl (l' := #[.val (.int p1), .val (.int (12 : Int32)), .val (.ref a_LONG), .unset]) rfl ?_
      show Steps p.tables e below (T40.setTop (mkF m 13 #[.val (.int p1), .val (.int (12 : Int32)), .val (.ref a_LONG), .unset] [])) _
      refine XS.iloadN X40.here hx rfl (hb hby at_13) rfl ?_
      show Steps p.tables e below (T40.setTop (mkF m 14 #[.val (.int p1), .val (.int (12 : Int32)), .val (.ref a_LONG), .unset] [(.int (12 : Int32))])) _
      refine XS.ifNo X40.here hx rfl (hb hby at_14) rfl ((if0 _ _).trans (feq (by decide : ¬ ((12 : Int32) = (0 : Int32)))).1) ?_
      show Steps p.tables e below (T40.setTop (mkF m 17 #[.val (.int p1), .val (.int (12 : Int32)), .val (.ref a_LONG), .unset] [])) _
      refine XS.iloadN X40.here hx rfl (hb hby at_17) rfl ?_
      show Steps p.tables e below (T40.setTop (mkF m 18 #[.val (.int p1), .val (.int (12 : Int32)), .val (.ref a_LONG), .unset] [(.int (12 : Int32))])) _
      refine XS.iconst X40.here hx rfl (hb hby at_18) ?_
      show Steps p.tables e below (T40.setTop (mkF m 19 #[.val (.int p1), .val (.int (12 : Int32)), .val (.ref a_LONG), .unset] [(.int (5 : Int32)), (.int (12 : Int32))])) _
      refine XS.icmpNo X40.here hx rfl (hb hby at_19) rfl (feq (by decide : ¬ ((12 : Int32) = (5 : Int32)))).1 ?_
      show Steps p.tables e below (T40.setTop (mkF m 22 #[.val (.int p1), .val (.int (12 : Int32)), .val (.ref a_LONG), .unset] [])) _
      refine XS.iconst X40.here hx rfl (hb hby at_22) ?_
      show Steps p.tables e below (T40.setTop (mkF m 23 #[.val (.int p1), .val (.int (12 : Int32)), .val (.ref a_LONG), .unset] [(.int (1 : Int32))])) _
      refine XS.goto X40.here hx rfl (pc0 := 23) (pc' := 27) rfl (hb hby at_23) (by decide) (by decide) ?_
      show Steps p.tables e below (T40.setTop (mkF m 27 #[.val (.int p1), .val (.int (12 : Int32)), .val (.ref a_LONG), .unset] [(.int (1 : Int32))])) _
      refine XS.istoreN X40.here hx rfl (hb hby at_27) rfl (l' := #[.val (.int p1), .val (.int (12 : Int32)), .val (.ref a_LONG), .val (.int (1 : Int32))]) rfl ?_
      show Steps p.tables e below (T40.setTop (mkF m 28 #[.val (.int p1), .val (.int (12 : Int32)), .val (.ref a_LONG), .val (.int (1 : Int32))] [])) _
      refine XS.aloadN X40.here hx rfl (hb hby at_28) rfl rfl ?_
      show Steps p.tables e below (T40.setTop (mkF m 29 #[.val (.int p1), .val (.int (12 : Int32)), .val (.ref a_LONG), .val (.int (1 : Int32))] [(.ref a_LONG)])) _
      refine st41.trans ?_
      show Steps p.tables e below (T41.setTop (mkF m 32 #[.val (.int p1), .val (.int (12 : Int32)), .val (.ref a_LONG), .val (.int (1 : Int32))] [(.int (1 : Int32))])) _
      refine XS.iloadN X41.here hx rfl (hb hby at_32) rfl ?_
      show Steps p.tables e below (T41.setTop (mkF m 33 #[.val (.int p1), .val (.int (12 : Int32)), .val (.ref a_LONG), .val (.int (1 : Int32))] [(.int (1 : Int32)), (.int (1 : Int32))])) _
      refine XS.icmpNo X41.here hx rfl (hb hby at_33) rfl (teq (by decide : (1 : Int32) = (1 : Int32))).2 ?_
      show Steps p.tables e below (T41.setTop (mkF m 36 #[.val (.int p1), .val (.int (12 : Int32)), .val (.ref a_LONG), .val (.int (1 : Int32))] [])) _
      refine XS.iconst X41.here hx rfl (hb hby at_36) ?_
      show Steps p.tables e below (T41.setTop (mkF m 37 #[.val (.int p1), .val (.int (12 : Int32)), .val (.ref a_LONG), .val (.int (1 : Int32))] [(.int (1 : Int32))])) _
      refine XS.goto X41.here hx rfl (pc0 := 37) (pc' := 41) rfl (hb hby at_37) (by decide) (by decide) ?_
      show Steps p.tables e below (T41.setTop (mkF m 41 #[.val (.int p1), .val (.int (12 : Int32)), .val (.ref a_LONG), .val (.int (1 : Int32))] [(.int (1 : Int32))])) _
      exact retN X41 hx (t := .boolean) Bd.returns (by simp) (hb hby at_41) hr
    · show Q0 n0 _ T41.heap _
      rw [r41]
      exact ⟨rfl, N41⟩
  · have R42 : ∀ tg, Steps p.tables e below (s₁.setTop (mkF m 8 #[.val (.int p1), .val (.int (13 : Int32)), .unset, .unset] [])) tg → Steps p.tables e below (s₁.setTop (mkF m 8 #[.val (.int p1), .val (.int ((p1 &&& (2147483647 : Int32)) % (22 : Int32))), .unset, .unset] [])) tg := fun tg kt => by rw [hk2]; exact kt
    obtain ⟨_, _, ⟨T43, L43, k43, n43⟩, -, X43, ⟨Lc43, hQ43, l43, y43, z43⟩, st43⟩ := Jvm.LawKit.callS X0 hx (y := (⟨"com/example/abaco/abaco/core/AtomicTypeIsCastTargetPinLaw", "pick", "(I)Lcom/example/abaco/abaco/core/AtomicType;"⟩ : MethodName)) hown (mvT hZ (hw _ (List.mem_of_getElem? (i := 1) rfl))) (mvT hZ (hw _ (List.mem_of_getElem? (i := 2) rfl))) (mvT hZ (hw _ (List.mem_of_getElem? (i := 3) rfl))) (mvT hZ (hw _ (List.mem_of_getElem? (i := 4) rfl))) (by decide) (backOf (W := 0) (rmP l Z a0 hw [] (13 : Int32) a_ANY_ATOMIC_TYPE a_NUMERIC a_STRING a_UNTYPED_ATOMIC a_BOOLEAN a_NOTATION a_DECIMAL a_FLOAT a_DOUBLE a_INTEGER a_NON_POSITIVE_INTEGER a_NEGATIVE_INTEGER a_LONG a_INT a_SHORT a_BYTE a_NON_NEGATIVE_INTEGER a_UNSIGNED_LONG a_UNSIGNED_INT a_UNSIGNED_SHORT a_UNSIGNED_BYTE a_POSITIVE_INTEGER h0 n0 Z0 S_ANY_ATOMIC_TYPE S_NUMERIC S_STRING S_UNTYPED_ATOMIC S_BOOLEAN S_NOTATION S_DECIMAL S_FLOAT S_DOUBLE S_INTEGER S_NON_POSITIVE_INTEGER S_NEGATIVE_INTEGER S_LONG S_INT S_SHORT S_BYTE S_NON_NEGATIVE_INTEGER S_UNSIGNED_LONG S_UNSIGNED_INT S_UNSIGNED_SHORT S_UNSIGNED_BYTE S_POSITIVE_INTEGER) hZ (hw _ (List.mem_of_getElem? (i := 4) rfl)) (hw _ (List.mem_of_getElem? (i := 3) rfl)) (by decide) (by decide)) (g := (mkF m 9 #[.val (.int p1), .val (.int (13 : Int32)), .unset, .unset] [(.int (13 : Int32))])) rfl (by rw [hml]; rfl) (argsL := [(.int (13 : Int32))]) (rest := []) (lenOf pd_0 rfl) rfl (by show 2 * 0 + _ ≤ _; exact Nat.le_of_eq rfl) (hb hby at_9) (fun _ _ => ⟨rfl, e0, (by decide : 0 + 0 ≤ _), (by decide : 0 + 0 ≤ _)⟩)
    dsimp only [Pt.U, Pt.locs, Pt.cells, Pt.slots] at X43 l43 y43 z43 st43 hQ43
    subst l43 y43 z43
    obtain ⟨hv43, N43q, r43⟩ := hQ43
    rw [if_neg (by decide), if_neg (by decide), if_neg (by decide), if_neg (by decide), if_neg (by decide), if_neg (by decide), if_neg (by decide), if_neg (by decide), if_neg (by decide), if_neg (by decide), if_neg (by decide), if_neg (by decide), if_neg (by decide), if_pos rfl] at hv43
    subst hv43
    have N43 := Fr.app N0 N43q
    obtain ⟨cq44, kq44, q44a, q44b, q44c⟩ := isOf hZ r43 E_INT
    obtain ⟨_, _, ⟨T44, L44, k44, n44⟩, -, X44, ⟨Lc44, hQ44, l44, y44, z44⟩, st44⟩ := X43.virtualBack hx (y := (⟨"com/example/abaco/abaco/core/AtomicType", "isCastTarget", "()Z"⟩ : MethodName)) (z := (⟨"com/example/abaco/abaco/core/AtomicType", "isCastTarget", "()Z"⟩ : MethodName)) hown (mvT hZ (hw _ (List.mem_of_getElem? (i := 8) rfl))) (mvT hZ (hw _ (List.mem_of_getElem? (i := 9) rfl))) (notFace_of_selects (args := #[]) (mvT hZ (hw _ (List.mem_of_getElem? (i := 11) rfl)))) (mvT hZ (hw _ (List.mem_of_getElem? (i := 11) rfl))) (mvT hZ (hw _ (List.mem_of_getElem? (i := 10) rfl))) (by decide) (backOf (W := 0) (rm1 l Z a0 hw [] a_INT a_ANY_ATOMIC_TYPE a_NOTATION h0 n0 Z0 S_ANY_ATOMIC_TYPE S_NOTATION) hZ (hw _ (List.mem_of_getElem? (i := 12) rfl)) (hw _ (List.mem_of_getElem? (i := 6) rfl)) (by decide) (by decide)) q44a q44c (g := (mkF m 29 #[.val (.int p1), .val (.int (13 : Int32)), .val (.ref a_INT), .val (.int (1 : Int32))] [(.ref a_INT)])) rfl (by rw [hml]; rfl) (Steps.refl _) (argsL := []) (rest := []) (lenOf pd_1 rfl) rfl (by show 2 * 0 + _ ≤ _; exact Nat.le_of_eq rfl) (hb hby at_29) (fun _ _ => ⟨rfl, r43, (by decide : 0 + 0 ≤ _), (by decide : 0 + 0 ≤ _)⟩)
    dsimp only [Pt.U, Pt.locs, Pt.cells, Pt.slots] at X44 l44 y44 z44 st44 hQ44
    subst l44 y44 z44
    obtain ⟨hv44, N44q, r44⟩ := hQ44
    rw [(if_neg (fun h => h.elim (own_ne_fld F_INT_ordinal F_ANY_ATOMIC_TYPE_ordinal (by decide)) (own_ne_fld F_INT_ordinal F_NOTATION_ordinal (by decide))))] at hv44
    subst hv44
    have N44 := Fr.app N43 N44q
    obtain ⟨fs, hr, hrun, hended, hW, hsame⟩ := X44.leave (v := some (.int (1 : Int32))) (fun h => by rw [Bd.returns] at h; cases h)
    refine ⟨_, _, pre0 _ (R1 _ (R42 _ ?_)), hrun, hended, _, _, rfl, ?_, ⟨_, rfl⟩, hW, hsame.mono (by decide) (by decide)⟩
    · show Steps p.tables e below (s₁.setTop (mkF m 8 #[.val (.int p1), .val (.int (13 : Int32)), .unset, .unset] [])) _
      refine XS.iloadN X0.here hx rfl (hb hby at_8) rfl ?_
      show Steps p.tables e below (s₁.setTop (mkF m 9 #[.val (.int p1), .val (.int (13 : Int32)), .unset, .unset] [(.int (13 : Int32))])) _
      refine st43 _ ?_
      show Steps p.tables e below (T43.setTop (mkF m 12 #[.val (.int p1), .val (.int (13 : Int32)), .unset, .unset] [(.ref a_INT)])) _
      refine XS.astoreN X43.here hx rfl (hb hby at_12) rfl rfl (l' := #[.val (.int p1), .val (.int (13 : Int32)), .val (.ref a_INT), .unset]) rfl ?_
      show Steps p.tables e below (T43.setTop (mkF m 13 #[.val (.int p1), .val (.int (13 : Int32)), .val (.ref a_INT), .unset] [])) _
      refine XS.iloadN X43.here hx rfl (hb hby at_13) rfl ?_
      show Steps p.tables e below (T43.setTop (mkF m 14 #[.val (.int p1), .val (.int (13 : Int32)), .val (.ref a_INT), .unset] [(.int (13 : Int32))])) _
      refine XS.ifNo X43.here hx rfl (hb hby at_14) rfl ((if0 _ _).trans (feq (by decide : ¬ ((13 : Int32) = (0 : Int32)))).1) ?_
      show Steps p.tables e below (T43.setTop (mkF m 17 #[.val (.int p1), .val (.int (13 : Int32)), .val (.ref a_INT), .unset] [])) _
      refine XS.iloadN X43.here hx rfl (hb hby at_17) rfl ?_
      show Steps p.tables e below (T43.setTop (mkF m 18 #[.val (.int p1), .val (.int (13 : Int32)), .val (.ref a_INT), .unset] [(.int (13 : Int32))])) _
      refine XS.iconst X43.here hx rfl (hb hby at_18) ?_
      show Steps p.tables e below (T43.setTop (mkF m 19 #[.val (.int p1), .val (.int (13 : Int32)), .val (.ref a_INT), .unset] [(.int (5 : Int32)), (.int (13 : Int32))])) _
      refine XS.icmpNo X43.here hx rfl (hb hby at_19) rfl (feq (by decide : ¬ ((13 : Int32) = (5 : Int32)))).1 ?_
      show Steps p.tables e below (T43.setTop (mkF m 22 #[.val (.int p1), .val (.int (13 : Int32)), .val (.ref a_INT), .unset] [])) _
      refine XS.iconst X43.here hx rfl (hb hby at_22) ?_
      show Steps p.tables e below (T43.setTop (mkF m 23 #[.val (.int p1), .val (.int (13 : Int32)), .val (.ref a_INT), .unset] [(.int (1 : Int32))])) _
      refine XS.goto X43.here hx rfl (pc0 := 23) (pc' := 27) rfl (hb hby at_23) (by decide) (by decide) ?_
      show Steps p.tables e below (T43.setTop (mkF m 27 #[.val (.int p1), .val (.int (13 : Int32)), .val (.ref a_INT), .unset] [(.int (1 : Int32))])) _
      refine XS.istoreN X43.here hx rfl (hb hby at_27) rfl (l' := #[.val (.int p1), .val (.int (13 : Int32)), .val (.ref a_INT), .val (.int (1 : Int32))]) rfl ?_
      show Steps p.tables e below (T43.setTop (mkF m 28 #[.val (.int p1), .val (.int (13 : Int32)), .val (.ref a_INT), .val (.int (1 : Int32))] [])) _
      refine XS.aloadN X43.here hx rfl (hb hby at_28) rfl rfl ?_
      show Steps p.tables e below (T43.setTop (mkF m 29 #[.val (.int p1), .val (.int (13 : Int32)), .val (.ref a_INT), .val (.int (1 : Int32))] [(.ref a_INT)])) _
      refine st44.trans ?_
      show Steps p.tables e below (T44.setTop (mkF m 32 #[.val (.int p1), .val (.int (13 : Int32)), .val (.ref a_INT), .val (.int (1 : Int32))] [(.int (1 : Int32))])) _
      refine XS.iloadN X44.here hx rfl (hb hby at_32) rfl ?_
      show Steps p.tables e below (T44.setTop (mkF m 33 #[.val (.int p1), .val (.int (13 : Int32)), .val (.ref a_INT), .val (.int (1 : Int32))] [(.int (1 : Int32)), (.int (1 : Int32))])) _
      refine XS.icmpNo X44.here hx rfl (hb hby at_33) rfl (teq (by decide : (1 : Int32) = (1 : Int32))).2 ?_
      show Steps p.tables e below (T44.setTop (mkF m 36 #[.val (.int p1), .val (.int (13 : Int32)), .val (.ref a_INT), .val (.int (1 : Int32))] [])) _
      refine XS.iconst X44.here hx rfl (hb hby at_36) ?_
      show Steps p.tables e below (T44.setTop (mkF m 37 #[.val (.int p1), .val (.int (13 : Int32)), .val (.ref a_INT), .val (.int (1 : Int32))] [(.int (1 : Int32))])) _
      refine XS.goto X44.here hx rfl (pc0 := 37) (pc' := 41) rfl (hb hby at_37) (by decide) (by decide) ?_
      show Steps p.tables e below (T44.setTop (mkF m 41 #[.val (.int p1), .val (.int (13 : Int32)), .val (.ref a_INT), .val (.int (1 : Int32))] [(.int (1 : Int32))])) _
      exact retN X44 hx (t := .boolean) Bd.returns (by simp) (hb hby at_41) hr
    · show Q0 n0 _ T44.heap _
      rw [r44]
      exact ⟨rfl, N44⟩
  · have R45 : ∀ tg, Steps p.tables e below (s₁.setTop (mkF m 8 #[.val (.int p1), .val (.int (14 : Int32)), .unset, .unset] [])) tg → Steps p.tables e below (s₁.setTop (mkF m 8 #[.val (.int p1), .val (.int ((p1 &&& (2147483647 : Int32)) % (22 : Int32))), .unset, .unset] [])) tg := fun tg kt => by rw [hk2]; exact kt
    obtain ⟨_, _, ⟨T46, L46, k46, n46⟩, -, X46, ⟨Lc46, hQ46, l46, y46, z46⟩, st46⟩ := Jvm.LawKit.callS X0 hx (y := (⟨"com/example/abaco/abaco/core/AtomicTypeIsCastTargetPinLaw", "pick", "(I)Lcom/example/abaco/abaco/core/AtomicType;"⟩ : MethodName)) hown (mvT hZ (hw _ (List.mem_of_getElem? (i := 1) rfl))) (mvT hZ (hw _ (List.mem_of_getElem? (i := 2) rfl))) (mvT hZ (hw _ (List.mem_of_getElem? (i := 3) rfl))) (mvT hZ (hw _ (List.mem_of_getElem? (i := 4) rfl))) (by decide) (backOf (W := 0) (rmP l Z a0 hw [] (14 : Int32) a_ANY_ATOMIC_TYPE a_NUMERIC a_STRING a_UNTYPED_ATOMIC a_BOOLEAN a_NOTATION a_DECIMAL a_FLOAT a_DOUBLE a_INTEGER a_NON_POSITIVE_INTEGER a_NEGATIVE_INTEGER a_LONG a_INT a_SHORT a_BYTE a_NON_NEGATIVE_INTEGER a_UNSIGNED_LONG a_UNSIGNED_INT a_UNSIGNED_SHORT a_UNSIGNED_BYTE a_POSITIVE_INTEGER h0 n0 Z0 S_ANY_ATOMIC_TYPE S_NUMERIC S_STRING S_UNTYPED_ATOMIC S_BOOLEAN S_NOTATION S_DECIMAL S_FLOAT S_DOUBLE S_INTEGER S_NON_POSITIVE_INTEGER S_NEGATIVE_INTEGER S_LONG S_INT S_SHORT S_BYTE S_NON_NEGATIVE_INTEGER S_UNSIGNED_LONG S_UNSIGNED_INT S_UNSIGNED_SHORT S_UNSIGNED_BYTE S_POSITIVE_INTEGER) hZ (hw _ (List.mem_of_getElem? (i := 4) rfl)) (hw _ (List.mem_of_getElem? (i := 3) rfl)) (by decide) (by decide)) (g := (mkF m 9 #[.val (.int p1), .val (.int (14 : Int32)), .unset, .unset] [(.int (14 : Int32))])) rfl (by rw [hml]; rfl) (argsL := [(.int (14 : Int32))]) (rest := []) (lenOf pd_0 rfl) rfl (by show 2 * 0 + _ ≤ _; exact Nat.le_of_eq rfl) (hb hby at_9) (fun _ _ => ⟨rfl, e0, (by decide : 0 + 0 ≤ _), (by decide : 0 + 0 ≤ _)⟩)
    dsimp only [Pt.U, Pt.locs, Pt.cells, Pt.slots] at X46 l46 y46 z46 st46 hQ46
    subst l46 y46 z46
    obtain ⟨hv46, N46q, r46⟩ := hQ46
    rw [if_neg (by decide), if_neg (by decide), if_neg (by decide), if_neg (by decide), if_neg (by decide), if_neg (by decide), if_neg (by decide), if_neg (by decide), if_neg (by decide), if_neg (by decide), if_neg (by decide), if_neg (by decide), if_neg (by decide), if_neg (by decide), if_pos rfl] at hv46
    subst hv46
    have N46 := Fr.app N0 N46q
    obtain ⟨cq47, kq47, q47a, q47b, q47c⟩ := isOf hZ r46 E_SHORT
    obtain ⟨_, _, ⟨T47, L47, k47, n47⟩, -, X47, ⟨Lc47, hQ47, l47, y47, z47⟩, st47⟩ := X46.virtualBack hx (y := (⟨"com/example/abaco/abaco/core/AtomicType", "isCastTarget", "()Z"⟩ : MethodName)) (z := (⟨"com/example/abaco/abaco/core/AtomicType", "isCastTarget", "()Z"⟩ : MethodName)) hown (mvT hZ (hw _ (List.mem_of_getElem? (i := 8) rfl))) (mvT hZ (hw _ (List.mem_of_getElem? (i := 9) rfl))) (notFace_of_selects (args := #[]) (mvT hZ (hw _ (List.mem_of_getElem? (i := 11) rfl)))) (mvT hZ (hw _ (List.mem_of_getElem? (i := 11) rfl))) (mvT hZ (hw _ (List.mem_of_getElem? (i := 10) rfl))) (by decide) (backOf (W := 0) (rm1 l Z a0 hw [] a_SHORT a_ANY_ATOMIC_TYPE a_NOTATION h0 n0 Z0 S_ANY_ATOMIC_TYPE S_NOTATION) hZ (hw _ (List.mem_of_getElem? (i := 12) rfl)) (hw _ (List.mem_of_getElem? (i := 6) rfl)) (by decide) (by decide)) q47a q47c (g := (mkF m 29 #[.val (.int p1), .val (.int (14 : Int32)), .val (.ref a_SHORT), .val (.int (1 : Int32))] [(.ref a_SHORT)])) rfl (by rw [hml]; rfl) (Steps.refl _) (argsL := []) (rest := []) (lenOf pd_1 rfl) rfl (by show 2 * 0 + _ ≤ _; exact Nat.le_of_eq rfl) (hb hby at_29) (fun _ _ => ⟨rfl, r46, (by decide : 0 + 0 ≤ _), (by decide : 0 + 0 ≤ _)⟩)
    dsimp only [Pt.U, Pt.locs, Pt.cells, Pt.slots] at X47 l47 y47 z47 st47 hQ47
    subst l47 y47 z47
    obtain ⟨hv47, N47q, r47⟩ := hQ47
    rw [(if_neg (fun h => h.elim (own_ne_fld F_SHORT_ordinal F_ANY_ATOMIC_TYPE_ordinal (by decide)) (own_ne_fld F_SHORT_ordinal F_NOTATION_ordinal (by decide))))] at hv47
    subst hv47
    have N47 := Fr.app N46 N47q
    obtain ⟨fs, hr, hrun, hended, hW, hsame⟩ := X47.leave (v := some (.int (1 : Int32))) (fun h => by rw [Bd.returns] at h; cases h)
    refine ⟨_, _, pre0 _ (R1 _ (R45 _ ?_)), hrun, hended, _, _, rfl, ?_, ⟨_, rfl⟩, hW, hsame.mono (by decide) (by decide)⟩
    · show Steps p.tables e below (s₁.setTop (mkF m 8 #[.val (.int p1), .val (.int (14 : Int32)), .unset, .unset] [])) _
      refine XS.iloadN X0.here hx rfl (hb hby at_8) rfl ?_
      show Steps p.tables e below (s₁.setTop (mkF m 9 #[.val (.int p1), .val (.int (14 : Int32)), .unset, .unset] [(.int (14 : Int32))])) _
      refine st46 _ ?_
      show Steps p.tables e below (T46.setTop (mkF m 12 #[.val (.int p1), .val (.int (14 : Int32)), .unset, .unset] [(.ref a_SHORT)])) _
      refine XS.astoreN X46.here hx rfl (hb hby at_12) rfl rfl (l' := #[.val (.int p1), .val (.int (14 : Int32)), .val (.ref a_SHORT), .unset]) rfl ?_
      show Steps p.tables e below (T46.setTop (mkF m 13 #[.val (.int p1), .val (.int (14 : Int32)), .val (.ref a_SHORT), .unset] [])) _
      refine XS.iloadN X46.here hx rfl (hb hby at_13) rfl ?_
      show Steps p.tables e below (T46.setTop (mkF m 14 #[.val (.int p1), .val (.int (14 : Int32)), .val (.ref a_SHORT), .unset] [(.int (14 : Int32))])) _
      refine XS.ifNo X46.here hx rfl (hb hby at_14) rfl ((if0 _ _).trans (feq (by decide : ¬ ((14 : Int32) = (0 : Int32)))).1) ?_
      show Steps p.tables e below (T46.setTop (mkF m 17 #[.val (.int p1), .val (.int (14 : Int32)), .val (.ref a_SHORT), .unset] [])) _
      refine XS.iloadN X46.here hx rfl (hb hby at_17) rfl ?_
      show Steps p.tables e below (T46.setTop (mkF m 18 #[.val (.int p1), .val (.int (14 : Int32)), .val (.ref a_SHORT), .unset] [(.int (14 : Int32))])) _
      refine XS.iconst X46.here hx rfl (hb hby at_18) ?_
      show Steps p.tables e below (T46.setTop (mkF m 19 #[.val (.int p1), .val (.int (14 : Int32)), .val (.ref a_SHORT), .unset] [(.int (5 : Int32)), (.int (14 : Int32))])) _
      refine XS.icmpNo X46.here hx rfl (hb hby at_19) rfl (feq (by decide : ¬ ((14 : Int32) = (5 : Int32)))).1 ?_
      show Steps p.tables e below (T46.setTop (mkF m 22 #[.val (.int p1), .val (.int (14 : Int32)), .val (.ref a_SHORT), .unset] [])) _
      refine XS.iconst X46.here hx rfl (hb hby at_22) ?_
      show Steps p.tables e below (T46.setTop (mkF m 23 #[.val (.int p1), .val (.int (14 : Int32)), .val (.ref a_SHORT), .unset] [(.int (1 : Int32))])) _
      refine XS.goto X46.here hx rfl (pc0 := 23) (pc' := 27) rfl (hb hby at_23) (by decide) (by decide) ?_
      show Steps p.tables e below (T46.setTop (mkF m 27 #[.val (.int p1), .val (.int (14 : Int32)), .val (.ref a_SHORT), .unset] [(.int (1 : Int32))])) _
      refine XS.istoreN X46.here hx rfl (hb hby at_27) rfl (l' := #[.val (.int p1), .val (.int (14 : Int32)), .val (.ref a_SHORT), .val (.int (1 : Int32))]) rfl ?_
      show Steps p.tables e below (T46.setTop (mkF m 28 #[.val (.int p1), .val (.int (14 : Int32)), .val (.ref a_SHORT), .val (.int (1 : Int32))] [])) _
      refine XS.aloadN X46.here hx rfl (hb hby at_28) rfl rfl ?_
      show Steps p.tables e below (T46.setTop (mkF m 29 #[.val (.int p1), .val (.int (14 : Int32)), .val (.ref a_SHORT), .val (.int (1 : Int32))] [(.ref a_SHORT)])) _
      refine st47.trans ?_
      show Steps p.tables e below (T47.setTop (mkF m 32 #[.val (.int p1), .val (.int (14 : Int32)), .val (.ref a_SHORT), .val (.int (1 : Int32))] [(.int (1 : Int32))])) _
      refine XS.iloadN X47.here hx rfl (hb hby at_32) rfl ?_
      show Steps p.tables e below (T47.setTop (mkF m 33 #[.val (.int p1), .val (.int (14 : Int32)), .val (.ref a_SHORT), .val (.int (1 : Int32))] [(.int (1 : Int32)), (.int (1 : Int32))])) _
      refine XS.icmpNo X47.here hx rfl (hb hby at_33) rfl (teq (by decide : (1 : Int32) = (1 : Int32))).2 ?_
      show Steps p.tables e below (T47.setTop (mkF m 36 #[.val (.int p1), .val (.int (14 : Int32)), .val (.ref a_SHORT), .val (.int (1 : Int32))] [])) _
      refine XS.iconst X47.here hx rfl (hb hby at_36) ?_
      show Steps p.tables e below (T47.setTop (mkF m 37 #[.val (.int p1), .val (.int (14 : Int32)), .val (.ref a_SHORT), .val (.int (1 : Int32))] [(.int (1 : Int32))])) _
      refine XS.goto X47.here hx rfl (pc0 := 37) (pc' := 41) rfl (hb hby at_37) (by decide) (by decide) ?_
      show Steps p.tables e below (T47.setTop (mkF m 41 #[.val (.int p1), .val (.int (14 : Int32)), .val (.ref a_SHORT), .val (.int (1 : Int32))] [(.int (1 : Int32))])) _
      exact retN X47 hx (t := .boolean) Bd.returns (by simp) (hb hby at_41) hr
    · show Q0 n0 _ T47.heap _
      rw [r47]
      exact ⟨rfl, N47⟩
  · have R48 : ∀ tg, Steps p.tables e below (s₁.setTop (mkF m 8 #[.val (.int p1), .val (.int (15 : Int32)), .unset, .unset] [])) tg → Steps p.tables e below (s₁.setTop (mkF m 8 #[.val (.int p1), .val (.int ((p1 &&& (2147483647 : Int32)) % (22 : Int32))), .unset, .unset] [])) tg := fun tg kt => by rw [hk2]; exact kt
    obtain ⟨_, _, ⟨T49, L49, k49, n49⟩, -, X49, ⟨Lc49, hQ49, l49, y49, z49⟩, st49⟩ := Jvm.LawKit.callS X0 hx (y := (⟨"com/example/abaco/abaco/core/AtomicTypeIsCastTargetPinLaw", "pick", "(I)Lcom/example/abaco/abaco/core/AtomicType;"⟩ : MethodName)) hown (mvT hZ (hw _ (List.mem_of_getElem? (i := 1) rfl))) (mvT hZ (hw _ (List.mem_of_getElem? (i := 2) rfl))) (mvT hZ (hw _ (List.mem_of_getElem? (i := 3) rfl))) (mvT hZ (hw _ (List.mem_of_getElem? (i := 4) rfl))) (by decide) (backOf (W := 0) (rmP l Z a0 hw [] (15 : Int32) a_ANY_ATOMIC_TYPE a_NUMERIC a_STRING a_UNTYPED_ATOMIC a_BOOLEAN a_NOTATION a_DECIMAL a_FLOAT a_DOUBLE a_INTEGER a_NON_POSITIVE_INTEGER a_NEGATIVE_INTEGER a_LONG a_INT a_SHORT a_BYTE a_NON_NEGATIVE_INTEGER a_UNSIGNED_LONG a_UNSIGNED_INT a_UNSIGNED_SHORT a_UNSIGNED_BYTE a_POSITIVE_INTEGER h0 n0 Z0 S_ANY_ATOMIC_TYPE S_NUMERIC S_STRING S_UNTYPED_ATOMIC S_BOOLEAN S_NOTATION S_DECIMAL S_FLOAT S_DOUBLE S_INTEGER S_NON_POSITIVE_INTEGER S_NEGATIVE_INTEGER S_LONG S_INT S_SHORT S_BYTE S_NON_NEGATIVE_INTEGER S_UNSIGNED_LONG S_UNSIGNED_INT S_UNSIGNED_SHORT S_UNSIGNED_BYTE S_POSITIVE_INTEGER) hZ (hw _ (List.mem_of_getElem? (i := 4) rfl)) (hw _ (List.mem_of_getElem? (i := 3) rfl)) (by decide) (by decide)) (g := (mkF m 9 #[.val (.int p1), .val (.int (15 : Int32)), .unset, .unset] [(.int (15 : Int32))])) rfl (by rw [hml]; rfl) (argsL := [(.int (15 : Int32))]) (rest := []) (lenOf pd_0 rfl) rfl (by show 2 * 0 + _ ≤ _; exact Nat.le_of_eq rfl) (hb hby at_9) (fun _ _ => ⟨rfl, e0, (by decide : 0 + 0 ≤ _), (by decide : 0 + 0 ≤ _)⟩)
    dsimp only [Pt.U, Pt.locs, Pt.cells, Pt.slots] at X49 l49 y49 z49 st49 hQ49
    subst l49 y49 z49
    obtain ⟨hv49, N49q, r49⟩ := hQ49
    rw [if_neg (by decide), if_neg (by decide), if_neg (by decide), if_neg (by decide), if_neg (by decide), if_neg (by decide), if_neg (by decide), if_neg (by decide), if_neg (by decide), if_neg (by decide), if_neg (by decide), if_neg (by decide), if_neg (by decide), if_neg (by decide), if_neg (by decide), if_pos rfl] at hv49
    subst hv49
    have N49 := Fr.app N0 N49q
    obtain ⟨cq50, kq50, q50a, q50b, q50c⟩ := isOf hZ r49 E_BYTE
    obtain ⟨_, _, ⟨T50, L50, k50, n50⟩, -, X50, ⟨Lc50, hQ50, l50, y50, z50⟩, st50⟩ := X49.virtualBack hx (y := (⟨"com/example/abaco/abaco/core/AtomicType", "isCastTarget", "()Z"⟩ : MethodName)) (z := (⟨"com/example/abaco/abaco/core/AtomicType", "isCastTarget", "()Z"⟩ : MethodName)) hown (mvT hZ (hw _ (List.mem_of_getElem? (i := 8) rfl))) (mvT hZ (hw _ (List.mem_of_getElem? (i := 9) rfl))) (notFace_of_selects (args := #[]) (mvT hZ (hw _ (List.mem_of_getElem? (i := 11) rfl)))) (mvT hZ (hw _ (List.mem_of_getElem? (i := 11) rfl))) (mvT hZ (hw _ (List.mem_of_getElem? (i := 10) rfl))) (by decide) (backOf (W := 0) (rm1 l Z a0 hw [] a_BYTE a_ANY_ATOMIC_TYPE a_NOTATION h0 n0 Z0 S_ANY_ATOMIC_TYPE S_NOTATION) hZ (hw _ (List.mem_of_getElem? (i := 12) rfl)) (hw _ (List.mem_of_getElem? (i := 6) rfl)) (by decide) (by decide)) q50a q50c (g := (mkF m 29 #[.val (.int p1), .val (.int (15 : Int32)), .val (.ref a_BYTE), .val (.int (1 : Int32))] [(.ref a_BYTE)])) rfl (by rw [hml]; rfl) (Steps.refl _) (argsL := []) (rest := []) (lenOf pd_1 rfl) rfl (by show 2 * 0 + _ ≤ _; exact Nat.le_of_eq rfl) (hb hby at_29) (fun _ _ => ⟨rfl, r49, (by decide : 0 + 0 ≤ _), (by decide : 0 + 0 ≤ _)⟩)
    dsimp only [Pt.U, Pt.locs, Pt.cells, Pt.slots] at X50 l50 y50 z50 st50 hQ50
    subst l50 y50 z50
    obtain ⟨hv50, N50q, r50⟩ := hQ50
    rw [(if_neg (fun h => h.elim (own_ne_fld F_BYTE_ordinal F_ANY_ATOMIC_TYPE_ordinal (by decide)) (own_ne_fld F_BYTE_ordinal F_NOTATION_ordinal (by decide))))] at hv50
    subst hv50
    have N50 := Fr.app N49 N50q
    obtain ⟨fs, hr, hrun, hended, hW, hsame⟩ := X50.leave (v := some (.int (1 : Int32))) (fun h => by rw [Bd.returns] at h; cases h)
    refine ⟨_, _, pre0 _ (R1 _ (R48 _ ?_)), hrun, hended, _, _, rfl, ?_, ⟨_, rfl⟩, hW, hsame.mono (by decide) (by decide)⟩
    · show Steps p.tables e below (s₁.setTop (mkF m 8 #[.val (.int p1), .val (.int (15 : Int32)), .unset, .unset] [])) _
      refine XS.iloadN X0.here hx rfl (hb hby at_8) rfl ?_
      show Steps p.tables e below (s₁.setTop (mkF m 9 #[.val (.int p1), .val (.int (15 : Int32)), .unset, .unset] [(.int (15 : Int32))])) _
      refine st49 _ ?_
      show Steps p.tables e below (T49.setTop (mkF m 12 #[.val (.int p1), .val (.int (15 : Int32)), .unset, .unset] [(.ref a_BYTE)])) _
      refine XS.astoreN X49.here hx rfl (hb hby at_12) rfl rfl (l' := #[.val (.int p1), .val (.int (15 : Int32)), .val (.ref a_BYTE), .unset]) rfl ?_
      show Steps p.tables e below (T49.setTop (mkF m 13 #[.val (.int p1), .val (.int (15 : Int32)), .val (.ref a_BYTE), .unset] [])) _
      refine XS.iloadN X49.here hx rfl (hb hby at_13) rfl ?_
      show Steps p.tables e below (T49.setTop (mkF m 14 #[.val (.int p1), .val (.int (15 : Int32)), .val (.ref a_BYTE), .unset] [(.int (15 : Int32))])) _
      refine XS.ifNo X49.here hx rfl (hb hby at_14) rfl ((if0 _ _).trans (feq (by decide : ¬ ((15 : Int32) = (0 : Int32)))).1) ?_
      show Steps p.tables e below (T49.setTop (mkF m 17 #[.val (.int p1), .val (.int (15 : Int32)), .val (.ref a_BYTE), .unset] [])) _
      refine XS.iloadN X49.here hx rfl (hb hby at_17) rfl ?_
      show Steps p.tables e below (T49.setTop (mkF m 18 #[.val (.int p1), .val (.int (15 : Int32)), .val (.ref a_BYTE), .unset] [(.int (15 : Int32))])) _
      refine XS.iconst X49.here hx rfl (hb hby at_18) ?_
      show Steps p.tables e below (T49.setTop (mkF m 19 #[.val (.int p1), .val (.int (15 : Int32)), .val (.ref a_BYTE), .unset] [(.int (5 : Int32)), (.int (15 : Int32))])) _
      refine XS.icmpNo X49.here hx rfl (hb hby at_19) rfl (feq (by decide : ¬ ((15 : Int32) = (5 : Int32)))).1 ?_
      show Steps p.tables e below (T49.setTop (mkF m 22 #[.val (.int p1), .val (.int (15 : Int32)), .val (.ref a_BYTE), .unset] [])) _
      refine XS.iconst X49.here hx rfl (hb hby at_22) ?_
      show Steps p.tables e below (T49.setTop (mkF m 23 #[.val (.int p1), .val (.int (15 : Int32)), .val (.ref a_BYTE), .unset] [(.int (1 : Int32))])) _
      refine XS.goto X49.here hx rfl (pc0 := 23) (pc' := 27) rfl (hb hby at_23) (by decide) (by decide) ?_
      show Steps p.tables e below (T49.setTop (mkF m 27 #[.val (.int p1), .val (.int (15 : Int32)), .val (.ref a_BYTE), .unset] [(.int (1 : Int32))])) _
      refine XS.istoreN X49.here hx rfl (hb hby at_27) rfl (l' := #[.val (.int p1), .val (.int (15 : Int32)), .val (.ref a_BYTE), .val (.int (1 : Int32))]) rfl ?_
      show Steps p.tables e below (T49.setTop (mkF m 28 #[.val (.int p1), .val (.int (15 : Int32)), .val (.ref a_BYTE), .val (.int (1 : Int32))] [])) _
      refine XS.aloadN X49.here hx rfl (hb hby at_28) rfl rfl ?_
      show Steps p.tables e below (T49.setTop (mkF m 29 #[.val (.int p1), .val (.int (15 : Int32)), .val (.ref a_BYTE), .val (.int (1 : Int32))] [(.ref a_BYTE)])) _
      refine st50.trans ?_
      show Steps p.tables e below (T50.setTop (mkF m 32 #[.val (.int p1), .val (.int (15 : Int32)), .val (.ref a_BYTE), .val (.int (1 : Int32))] [(.int (1 : Int32))])) _
      refine XS.iloadN X50.here hx rfl (hb hby at_32) rfl ?_
      show Steps p.tables e below (T50.setTop (mkF m 33 #[.val (.int p1), .val (.int (15 : Int32)), .val (.ref a_BYTE), .val (.int (1 : Int32))] [(.int (1 : Int32)), (.int (1 : Int32))])) _
      refine XS.icmpNo X50.here hx rfl (hb hby at_33) rfl (teq (by decide : (1 : Int32) = (1 : Int32))).2 ?_
      show Steps p.tables e below (T50.setTop (mkF m 36 #[.val (.int p1), .val (.int (15 : Int32)), .val (.ref a_BYTE), .val (.int (1 : Int32))] [])) _
      refine XS.iconst X50.here hx rfl (hb hby at_36) ?_
      show Steps p.tables e below (T50.setTop (mkF m 37 #[.val (.int p1), .val (.int (15 : Int32)), .val (.ref a_BYTE), .val (.int (1 : Int32))] [(.int (1 : Int32))])) _
      refine XS.goto X50.here hx rfl (pc0 := 37) (pc' := 41) rfl (hb hby at_37) (by decide) (by decide) ?_
      show Steps p.tables e below (T50.setTop (mkF m 41 #[.val (.int p1), .val (.int (15 : Int32)), .val (.ref a_BYTE), .val (.int (1 : Int32))] [(.int (1 : Int32))])) _
      exact retN X50 hx (t := .boolean) Bd.returns (by simp) (hb hby at_41) hr
    · show Q0 n0 _ T50.heap _
      rw [r50]
      exact ⟨rfl, N50⟩
  · have R51 : ∀ tg, Steps p.tables e below (s₁.setTop (mkF m 8 #[.val (.int p1), .val (.int (16 : Int32)), .unset, .unset] [])) tg → Steps p.tables e below (s₁.setTop (mkF m 8 #[.val (.int p1), .val (.int ((p1 &&& (2147483647 : Int32)) % (22 : Int32))), .unset, .unset] [])) tg := fun tg kt => by rw [hk2]; exact kt
    obtain ⟨_, _, ⟨T52, L52, k52, n52⟩, -, X52, ⟨Lc52, hQ52, l52, y52, z52⟩, st52⟩ := Jvm.LawKit.callS X0 hx (y := (⟨"com/example/abaco/abaco/core/AtomicTypeIsCastTargetPinLaw", "pick", "(I)Lcom/example/abaco/abaco/core/AtomicType;"⟩ : MethodName)) hown (mvT hZ (hw _ (List.mem_of_getElem? (i := 1) rfl))) (mvT hZ (hw _ (List.mem_of_getElem? (i := 2) rfl))) (mvT hZ (hw _ (List.mem_of_getElem? (i := 3) rfl))) (mvT hZ (hw _ (List.mem_of_getElem? (i := 4) rfl))) (by decide) (backOf (W := 0) (rmP l Z a0 hw [] (16 : Int32) a_ANY_ATOMIC_TYPE a_NUMERIC a_STRING a_UNTYPED_ATOMIC a_BOOLEAN a_NOTATION a_DECIMAL a_FLOAT a_DOUBLE a_INTEGER a_NON_POSITIVE_INTEGER a_NEGATIVE_INTEGER a_LONG a_INT a_SHORT a_BYTE a_NON_NEGATIVE_INTEGER a_UNSIGNED_LONG a_UNSIGNED_INT a_UNSIGNED_SHORT a_UNSIGNED_BYTE a_POSITIVE_INTEGER h0 n0 Z0 S_ANY_ATOMIC_TYPE S_NUMERIC S_STRING S_UNTYPED_ATOMIC S_BOOLEAN S_NOTATION S_DECIMAL S_FLOAT S_DOUBLE S_INTEGER S_NON_POSITIVE_INTEGER S_NEGATIVE_INTEGER S_LONG S_INT S_SHORT S_BYTE S_NON_NEGATIVE_INTEGER S_UNSIGNED_LONG S_UNSIGNED_INT S_UNSIGNED_SHORT S_UNSIGNED_BYTE S_POSITIVE_INTEGER) hZ (hw _ (List.mem_of_getElem? (i := 4) rfl)) (hw _ (List.mem_of_getElem? (i := 3) rfl)) (by decide) (by decide)) (g := (mkF m 9 #[.val (.int p1), .val (.int (16 : Int32)), .unset, .unset] [(.int (16 : Int32))])) rfl (by rw [hml]; rfl) (argsL := [(.int (16 : Int32))]) (rest := []) (lenOf pd_0 rfl) rfl (by show 2 * 0 + _ ≤ _; exact Nat.le_of_eq rfl) (hb hby at_9) (fun _ _ => ⟨rfl, e0, (by decide : 0 + 0 ≤ _), (by decide : 0 + 0 ≤ _)⟩)
    dsimp only [Pt.U, Pt.locs, Pt.cells, Pt.slots] at X52 l52 y52 z52 st52 hQ52
    subst l52 y52 z52
    obtain ⟨hv52, N52q, r52⟩ := hQ52
    rw [if_neg (by decide), if_neg (by decide), if_neg (by decide), if_neg (by decide), if_neg (by decide), if_neg (by decide), if_neg (by decide), if_neg (by decide), if_neg (by decide), if_neg (by decide), if_neg (by decide), if_neg (by decide), if_neg (by decide), if_neg (by decide), if_neg (by decide), if_neg (by decide), if_pos rfl] at hv52
    subst hv52
    have N52 := Fr.app N0 N52q
    obtain ⟨cq53, kq53, q53a, q53b, q53c⟩ := isOf hZ r52 E_NON_NEGATIVE_INTEGER
    obtain ⟨_, _, ⟨T53, L53, k53, n53⟩, -, X53, ⟨Lc53, hQ53, l53, y53, z53⟩, st53⟩ := X52.virtualBack hx (y := (⟨"com/example/abaco/abaco/core/AtomicType", "isCastTarget", "()Z"⟩ : MethodName)) (z := (⟨"com/example/abaco/abaco/core/AtomicType", "isCastTarget", "()Z"⟩ : MethodName)) hown (mvT hZ (hw _ (List.mem_of_getElem? (i := 8) rfl))) (mvT hZ (hw _ (List.mem_of_getElem? (i := 9) rfl))) (notFace_of_selects (args := #[]) (mvT hZ (hw _ (List.mem_of_getElem? (i := 11) rfl)))) (mvT hZ (hw _ (List.mem_of_getElem? (i := 11) rfl))) (mvT hZ (hw _ (List.mem_of_getElem? (i := 10) rfl))) (by decide) (backOf (W := 0) (rm1 l Z a0 hw [] a_NON_NEGATIVE_INTEGER a_ANY_ATOMIC_TYPE a_NOTATION h0 n0 Z0 S_ANY_ATOMIC_TYPE S_NOTATION) hZ (hw _ (List.mem_of_getElem? (i := 12) rfl)) (hw _ (List.mem_of_getElem? (i := 6) rfl)) (by decide) (by decide)) q53a q53c (g := (mkF m 29 #[.val (.int p1), .val (.int (16 : Int32)), .val (.ref a_NON_NEGATIVE_INTEGER), .val (.int (1 : Int32))] [(.ref a_NON_NEGATIVE_INTEGER)])) rfl (by rw [hml]; rfl) (Steps.refl _) (argsL := []) (rest := []) (lenOf pd_1 rfl) rfl (by show 2 * 0 + _ ≤ _; exact Nat.le_of_eq rfl) (hb hby at_29) (fun _ _ => ⟨rfl, r52, (by decide : 0 + 0 ≤ _), (by decide : 0 + 0 ≤ _)⟩)
    dsimp only [Pt.U, Pt.locs, Pt.cells, Pt.slots] at X53 l53 y53 z53 st53 hQ53
    subst l53 y53 z53
    obtain ⟨hv53, N53q, r53⟩ := hQ53
    rw [(if_neg (fun h => h.elim (own_ne_fld F_NON_NEGATIVE_INTEGER_ordinal F_ANY_ATOMIC_TYPE_ordinal (by decide)) (own_ne_fld F_NON_NEGATIVE_INTEGER_ordinal F_NOTATION_ordinal (by decide))))] at hv53
    subst hv53
    have N53 := Fr.app N52 N53q
    obtain ⟨fs, hr, hrun, hended, hW, hsame⟩ := X53.leave (v := some (.int (1 : Int32))) (fun h => by rw [Bd.returns] at h; cases h)
    refine ⟨_, _, pre0 _ (R1 _ (R51 _ ?_)), hrun, hended, _, _, rfl, ?_, ⟨_, rfl⟩, hW, hsame.mono (by decide) (by decide)⟩
    · show Steps p.tables e below (s₁.setTop (mkF m 8 #[.val (.int p1), .val (.int (16 : Int32)), .unset, .unset] [])) _
      refine XS.iloadN X0.here hx rfl (hb hby at_8) rfl ?_
      show Steps p.tables e below (s₁.setTop (mkF m 9 #[.val (.int p1), .val (.int (16 : Int32)), .unset, .unset] [(.int (16 : Int32))])) _
      refine st52 _ ?_
      show Steps p.tables e below (T52.setTop (mkF m 12 #[.val (.int p1), .val (.int (16 : Int32)), .unset, .unset] [(.ref a_NON_NEGATIVE_INTEGER)])) _
      refine XS.astoreN X52.here hx rfl (hb hby at_12) rfl rfl (l' := #[.val (.int p1), .val (.int (16 : Int32)), .val (.ref a_NON_NEGATIVE_INTEGER), .unset]) rfl ?_
      show Steps p.tables e below (T52.setTop (mkF m 13 #[.val (.int p1), .val (.int (16 : Int32)), .val (.ref a_NON_NEGATIVE_INTEGER), .unset] [])) _
      refine XS.iloadN X52.here hx rfl (hb hby at_13) rfl ?_
      show Steps p.tables e below (T52.setTop (mkF m 14 #[.val (.int p1), .val (.int (16 : Int32)), .val (.ref a_NON_NEGATIVE_INTEGER), .unset] [(.int (16 : Int32))])) _
      refine XS.ifNo X52.here hx rfl (hb hby at_14) rfl ((if0 _ _).trans (feq (by decide : ¬ ((16 : Int32) = (0 : Int32)))).1) ?_
      show Steps p.tables e below (T52.setTop (mkF m 17 #[.val (.int p1), .val (.int (16 : Int32)), .val (.ref a_NON_NEGATIVE_INTEGER), .unset] [])) _
      refine XS.iloadN X52.here hx rfl (hb hby at_17) rfl ?_
      show Steps p.tables e below (T52.setTop (mkF m 18 #[.val (.int p1), .val (.int (16 : Int32)), .val (.ref a_NON_NEGATIVE_INTEGER), .unset] [(.int (16 : Int32))])) _
      refine XS.iconst X52.here hx rfl (hb hby at_18) ?_
      show Steps p.tables e below (T52.setTop (mkF m 19 #[.val (.int p1), .val (.int (16 : Int32)), .val (.ref a_NON_NEGATIVE_INTEGER), .unset] [(.int (5 : Int32)), (.int (16 : Int32))])) _
      refine XS.icmpNo X52.here hx rfl (hb hby at_19) rfl (feq (by decide : ¬ ((16 : Int32) = (5 : Int32)))).1 ?_
      show Steps p.tables e below (T52.setTop (mkF m 22 #[.val (.int p1), .val (.int (16 : Int32)), .val (.ref a_NON_NEGATIVE_INTEGER), .unset] [])) _
      refine XS.iconst X52.here hx rfl (hb hby at_22) ?_
      show Steps p.tables e below (T52.setTop (mkF m 23 #[.val (.int p1), .val (.int (16 : Int32)), .val (.ref a_NON_NEGATIVE_INTEGER), .unset] [(.int (1 : Int32))])) _
      refine XS.goto X52.here hx rfl (pc0 := 23) (pc' := 27) rfl (hb hby at_23) (by decide) (by decide) ?_
      show Steps p.tables e below (T52.setTop (mkF m 27 #[.val (.int p1), .val (.int (16 : Int32)), .val (.ref a_NON_NEGATIVE_INTEGER), .unset] [(.int (1 : Int32))])) _
      refine XS.istoreN X52.here hx rfl (hb hby at_27) rfl (l' := #[.val (.int p1), .val (.int (16 : Int32)), .val (.ref a_NON_NEGATIVE_INTEGER), .val (.int (1 : Int32))]) rfl ?_
      show Steps p.tables e below (T52.setTop (mkF m 28 #[.val (.int p1), .val (.int (16 : Int32)), .val (.ref a_NON_NEGATIVE_INTEGER), .val (.int (1 : Int32))] [])) _
      refine XS.aloadN X52.here hx rfl (hb hby at_28) rfl rfl ?_
      show Steps p.tables e below (T52.setTop (mkF m 29 #[.val (.int p1), .val (.int (16 : Int32)), .val (.ref a_NON_NEGATIVE_INTEGER), .val (.int (1 : Int32))] [(.ref a_NON_NEGATIVE_INTEGER)])) _
      refine st53.trans ?_
      show Steps p.tables e below (T53.setTop (mkF m 32 #[.val (.int p1), .val (.int (16 : Int32)), .val (.ref a_NON_NEGATIVE_INTEGER), .val (.int (1 : Int32))] [(.int (1 : Int32))])) _
      refine XS.iloadN X53.here hx rfl (hb hby at_32) rfl ?_
      show Steps p.tables e below (T53.setTop (mkF m 33 #[.val (.int p1), .val (.int (16 : Int32)), .val (.ref a_NON_NEGATIVE_INTEGER), .val (.int (1 : Int32))] [(.int (1 : Int32)), (.int (1 : Int32))])) _
      refine XS.icmpNo X53.here hx rfl (hb hby at_33) rfl (teq (by decide : (1 : Int32) = (1 : Int32))).2 ?_
      show Steps p.tables e below (T53.setTop (mkF m 36 #[.val (.int p1), .val (.int (16 : Int32)), .val (.ref a_NON_NEGATIVE_INTEGER), .val (.int (1 : Int32))] [])) _
      refine XS.iconst X53.here hx rfl (hb hby at_36) ?_
      show Steps p.tables e below (T53.setTop (mkF m 37 #[.val (.int p1), .val (.int (16 : Int32)), .val (.ref a_NON_NEGATIVE_INTEGER), .val (.int (1 : Int32))] [(.int (1 : Int32))])) _
      refine XS.goto X53.here hx rfl (pc0 := 37) (pc' := 41) rfl (hb hby at_37) (by decide) (by decide) ?_
      show Steps p.tables e below (T53.setTop (mkF m 41 #[.val (.int p1), .val (.int (16 : Int32)), .val (.ref a_NON_NEGATIVE_INTEGER), .val (.int (1 : Int32))] [(.int (1 : Int32))])) _
      exact retN X53 hx (t := .boolean) Bd.returns (by simp) (hb hby at_41) hr
    · show Q0 n0 _ T53.heap _
      rw [r53]
      exact ⟨rfl, N53⟩
  · have R54 : ∀ tg, Steps p.tables e below (s₁.setTop (mkF m 8 #[.val (.int p1), .val (.int (17 : Int32)), .unset, .unset] [])) tg → Steps p.tables e below (s₁.setTop (mkF m 8 #[.val (.int p1), .val (.int ((p1 &&& (2147483647 : Int32)) % (22 : Int32))), .unset, .unset] [])) tg := fun tg kt => by rw [hk2]; exact kt
    obtain ⟨_, _, ⟨T55, L55, k55, n55⟩, -, X55, ⟨Lc55, hQ55, l55, y55, z55⟩, st55⟩ := Jvm.LawKit.callS X0 hx (y := (⟨"com/example/abaco/abaco/core/AtomicTypeIsCastTargetPinLaw", "pick", "(I)Lcom/example/abaco/abaco/core/AtomicType;"⟩ : MethodName)) hown (mvT hZ (hw _ (List.mem_of_getElem? (i := 1) rfl))) (mvT hZ (hw _ (List.mem_of_getElem? (i := 2) rfl))) (mvT hZ (hw _ (List.mem_of_getElem? (i := 3) rfl))) (mvT hZ (hw _ (List.mem_of_getElem? (i := 4) rfl))) (by decide) (backOf (W := 0) (rmP l Z a0 hw [] (17 : Int32) a_ANY_ATOMIC_TYPE a_NUMERIC a_STRING a_UNTYPED_ATOMIC a_BOOLEAN a_NOTATION a_DECIMAL a_FLOAT a_DOUBLE a_INTEGER a_NON_POSITIVE_INTEGER a_NEGATIVE_INTEGER a_LONG a_INT a_SHORT a_BYTE a_NON_NEGATIVE_INTEGER a_UNSIGNED_LONG a_UNSIGNED_INT a_UNSIGNED_SHORT a_UNSIGNED_BYTE a_POSITIVE_INTEGER h0 n0 Z0 S_ANY_ATOMIC_TYPE S_NUMERIC S_STRING S_UNTYPED_ATOMIC S_BOOLEAN S_NOTATION S_DECIMAL S_FLOAT S_DOUBLE S_INTEGER S_NON_POSITIVE_INTEGER S_NEGATIVE_INTEGER S_LONG S_INT S_SHORT S_BYTE S_NON_NEGATIVE_INTEGER S_UNSIGNED_LONG S_UNSIGNED_INT S_UNSIGNED_SHORT S_UNSIGNED_BYTE S_POSITIVE_INTEGER) hZ (hw _ (List.mem_of_getElem? (i := 4) rfl)) (hw _ (List.mem_of_getElem? (i := 3) rfl)) (by decide) (by decide)) (g := (mkF m 9 #[.val (.int p1), .val (.int (17 : Int32)), .unset, .unset] [(.int (17 : Int32))])) rfl (by rw [hml]; rfl) (argsL := [(.int (17 : Int32))]) (rest := []) (lenOf pd_0 rfl) rfl (by show 2 * 0 + _ ≤ _; exact Nat.le_of_eq rfl) (hb hby at_9) (fun _ _ => ⟨rfl, e0, (by decide : 0 + 0 ≤ _), (by decide : 0 + 0 ≤ _)⟩)
    dsimp only [Pt.U, Pt.locs, Pt.cells, Pt.slots] at X55 l55 y55 z55 st55 hQ55
    subst l55 y55 z55
    obtain ⟨hv55, N55q, r55⟩ := hQ55
    rw [if_neg (by decide), if_neg (by decide), if_neg (by decide), if_neg (by decide), if_neg (by decide), if_neg (by decide), if_neg (by decide), if_neg (by decide), if_neg (by decide), if_neg (by decide), if_neg (by decide), if_neg (by decide), if_neg (by decide), if_neg (by decide), if_neg (by decide), if_neg (by decide), if_neg (by decide), if_pos rfl] at hv55
    subst hv55
    have N55 := Fr.app N0 N55q
    obtain ⟨cq56, kq56, q56a, q56b, q56c⟩ := isOf hZ r55 E_UNSIGNED_LONG
    obtain ⟨_, _, ⟨T56, L56, k56, n56⟩, -, X56, ⟨Lc56, hQ56, l56, y56, z56⟩, st56⟩ := X55.virtualBack hx (y := (⟨"com/example/abaco/abaco/core/AtomicType", "isCastTarget", "()Z"⟩ : MethodName)) (z := (⟨"com/example/abaco/abaco/core/AtomicType", "isCastTarget", "()Z"⟩ : MethodName)) hown (mvT hZ (hw _ (List.mem_of_getElem? (i := 8) rfl))) (mvT hZ (hw _ (List.mem_of_getElem? (i := 9) rfl))) (notFace_of_selects (args := #[]) (mvT hZ (hw _ (List.mem_of_getElem? (i := 11) rfl)))) (mvT hZ (hw _ (List.mem_of_getElem? (i := 11) rfl))) (mvT hZ (hw _ (List.mem_of_getElem? (i := 10) rfl))) (by decide) (backOf (W := 0) (rm1 l Z a0 hw [] a_UNSIGNED_LONG a_ANY_ATOMIC_TYPE a_NOTATION h0 n0 Z0 S_ANY_ATOMIC_TYPE S_NOTATION) hZ (hw _ (List.mem_of_getElem? (i := 12) rfl)) (hw _ (List.mem_of_getElem? (i := 6) rfl)) (by decide) (by decide)) q56a q56c (g := (mkF m 29 #[.val (.int p1), .val (.int (17 : Int32)), .val (.ref a_UNSIGNED_LONG), .val (.int (1 : Int32))] [(.ref a_UNSIGNED_LONG)])) rfl (by rw [hml]; rfl) (Steps.refl _) (argsL := []) (rest := []) (lenOf pd_1 rfl) rfl (by show 2 * 0 + _ ≤ _; exact Nat.le_of_eq rfl) (hb hby at_29) (fun _ _ => ⟨rfl, r55, (by decide : 0 + 0 ≤ _), (by decide : 0 + 0 ≤ _)⟩)
    dsimp only [Pt.U, Pt.locs, Pt.cells, Pt.slots] at X56 l56 y56 z56 st56 hQ56
    subst l56 y56 z56
    obtain ⟨hv56, N56q, r56⟩ := hQ56
    rw [(if_neg (fun h => h.elim (own_ne_fld F_UNSIGNED_LONG_ordinal F_ANY_ATOMIC_TYPE_ordinal (by decide)) (own_ne_fld F_UNSIGNED_LONG_ordinal F_NOTATION_ordinal (by decide))))] at hv56
    subst hv56
    have N56 := Fr.app N55 N56q
    obtain ⟨fs, hr, hrun, hended, hW, hsame⟩ := X56.leave (v := some (.int (1 : Int32))) (fun h => by rw [Bd.returns] at h; cases h)
    refine ⟨_, _, pre0 _ (R1 _ (R54 _ ?_)), hrun, hended, _, _, rfl, ?_, ⟨_, rfl⟩, hW, hsame.mono (by decide) (by decide)⟩
    · show Steps p.tables e below (s₁.setTop (mkF m 8 #[.val (.int p1), .val (.int (17 : Int32)), .unset, .unset] [])) _
      refine XS.iloadN X0.here hx rfl (hb hby at_8) rfl ?_
      show Steps p.tables e below (s₁.setTop (mkF m 9 #[.val (.int p1), .val (.int (17 : Int32)), .unset, .unset] [(.int (17 : Int32))])) _
      refine st55 _ ?_
      show Steps p.tables e below (T55.setTop (mkF m 12 #[.val (.int p1), .val (.int (17 : Int32)), .unset, .unset] [(.ref a_UNSIGNED_LONG)])) _
      refine XS.astoreN X55.here hx rfl (hb hby at_12) rfl rfl (l' := #[.val (.int p1), .val (.int (17 : Int32)), .val (.ref a_UNSIGNED_LONG), .unset]) rfl ?_
      show Steps p.tables e below (T55.setTop (mkF m 13 #[.val (.int p1), .val (.int (17 : Int32)), .val (.ref a_UNSIGNED_LONG), .unset] [])) _
      refine XS.iloadN X55.here hx rfl (hb hby at_13) rfl ?_
      show Steps p.tables e below (T55.setTop (mkF m 14 #[.val (.int p1), .val (.int (17 : Int32)), .val (.ref a_UNSIGNED_LONG), .unset] [(.int (17 : Int32))])) _
      refine XS.ifNo X55.here hx rfl (hb hby at_14) rfl ((if0 _ _).trans (feq (by decide : ¬ ((17 : Int32) = (0 : Int32)))).1) ?_
      show Steps p.tables e below (T55.setTop (mkF m 17 #[.val (.int p1), .val (.int (17 : Int32)), .val (.ref a_UNSIGNED_LONG), .unset] [])) _
      refine XS.iloadN X55.here hx rfl (hb hby at_17) rfl ?_
      show Steps p.tables e below (T55.setTop (mkF m 18 #[.val (.int p1), .val (.int (17 : Int32)), .val (.ref a_UNSIGNED_LONG), .unset] [(.int (17 : Int32))])) _
      refine XS.iconst X55.here hx rfl (hb hby at_18) ?_
      show Steps p.tables e below (T55.setTop (mkF m 19 #[.val (.int p1), .val (.int (17 : Int32)), .val (.ref a_UNSIGNED_LONG), .unset] [(.int (5 : Int32)), (.int (17 : Int32))])) _
      refine XS.icmpNo X55.here hx rfl (hb hby at_19) rfl (feq (by decide : ¬ ((17 : Int32) = (5 : Int32)))).1 ?_
      show Steps p.tables e below (T55.setTop (mkF m 22 #[.val (.int p1), .val (.int (17 : Int32)), .val (.ref a_UNSIGNED_LONG), .unset] [])) _
      refine XS.iconst X55.here hx rfl (hb hby at_22) ?_
      show Steps p.tables e below (T55.setTop (mkF m 23 #[.val (.int p1), .val (.int (17 : Int32)), .val (.ref a_UNSIGNED_LONG), .unset] [(.int (1 : Int32))])) _
      refine XS.goto X55.here hx rfl (pc0 := 23) (pc' := 27) rfl (hb hby at_23) (by decide) (by decide) ?_
      show Steps p.tables e below (T55.setTop (mkF m 27 #[.val (.int p1), .val (.int (17 : Int32)), .val (.ref a_UNSIGNED_LONG), .unset] [(.int (1 : Int32))])) _
      refine XS.istoreN X55.here hx rfl (hb hby at_27) rfl (l' := #[.val (.int p1), .val (.int (17 : Int32)), .val (.ref a_UNSIGNED_LONG), .val (.int (1 : Int32))]) rfl ?_
      show Steps p.tables e below (T55.setTop (mkF m 28 #[.val (.int p1), .val (.int (17 : Int32)), .val (.ref a_UNSIGNED_LONG), .val (.int (1 : Int32))] [])) _
      refine XS.aloadN X55.here hx rfl (hb hby at_28) rfl rfl ?_
      show Steps p.tables e below (T55.setTop (mkF m 29 #[.val (.int p1), .val (.int (17 : Int32)), .val (.ref a_UNSIGNED_LONG), .val (.int (1 : Int32))] [(.ref a_UNSIGNED_LONG)])) _
      refine st56.trans ?_
      show Steps p.tables e below (T56.setTop (mkF m 32 #[.val (.int p1), .val (.int (17 : Int32)), .val (.ref a_UNSIGNED_LONG), .val (.int (1 : Int32))] [(.int (1 : Int32))])) _
      refine XS.iloadN X56.here hx rfl (hb hby at_32) rfl ?_
      show Steps p.tables e below (T56.setTop (mkF m 33 #[.val (.int p1), .val (.int (17 : Int32)), .val (.ref a_UNSIGNED_LONG), .val (.int (1 : Int32))] [(.int (1 : Int32)), (.int (1 : Int32))])) _
      refine XS.icmpNo X56.here hx rfl (hb hby at_33) rfl (teq (by decide : (1 : Int32) = (1 : Int32))).2 ?_
      show Steps p.tables e below (T56.setTop (mkF m 36 #[.val (.int p1), .val (.int (17 : Int32)), .val (.ref a_UNSIGNED_LONG), .val (.int (1 : Int32))] [])) _
      refine XS.iconst X56.here hx rfl (hb hby at_36) ?_
      show Steps p.tables e below (T56.setTop (mkF m 37 #[.val (.int p1), .val (.int (17 : Int32)), .val (.ref a_UNSIGNED_LONG), .val (.int (1 : Int32))] [(.int (1 : Int32))])) _
      refine XS.goto X56.here hx rfl (pc0 := 37) (pc' := 41) rfl (hb hby at_37) (by decide) (by decide) ?_
      show Steps p.tables e below (T56.setTop (mkF m 41 #[.val (.int p1), .val (.int (17 : Int32)), .val (.ref a_UNSIGNED_LONG), .val (.int (1 : Int32))] [(.int (1 : Int32))])) _
      exact retN X56 hx (t := .boolean) Bd.returns (by simp) (hb hby at_41) hr
    · show Q0 n0 _ T56.heap _
      rw [r56]
      exact ⟨rfl, N56⟩
  · have R57 : ∀ tg, Steps p.tables e below (s₁.setTop (mkF m 8 #[.val (.int p1), .val (.int (18 : Int32)), .unset, .unset] [])) tg → Steps p.tables e below (s₁.setTop (mkF m 8 #[.val (.int p1), .val (.int ((p1 &&& (2147483647 : Int32)) % (22 : Int32))), .unset, .unset] [])) tg := fun tg kt => by rw [hk2]; exact kt
    obtain ⟨_, _, ⟨T58, L58, k58, n58⟩, -, X58, ⟨Lc58, hQ58, l58, y58, z58⟩, st58⟩ := Jvm.LawKit.callS X0 hx (y := (⟨"com/example/abaco/abaco/core/AtomicTypeIsCastTargetPinLaw", "pick", "(I)Lcom/example/abaco/abaco/core/AtomicType;"⟩ : MethodName)) hown (mvT hZ (hw _ (List.mem_of_getElem? (i := 1) rfl))) (mvT hZ (hw _ (List.mem_of_getElem? (i := 2) rfl))) (mvT hZ (hw _ (List.mem_of_getElem? (i := 3) rfl))) (mvT hZ (hw _ (List.mem_of_getElem? (i := 4) rfl))) (by decide) (backOf (W := 0) (rmP l Z a0 hw [] (18 : Int32) a_ANY_ATOMIC_TYPE a_NUMERIC a_STRING a_UNTYPED_ATOMIC a_BOOLEAN a_NOTATION a_DECIMAL a_FLOAT a_DOUBLE a_INTEGER a_NON_POSITIVE_INTEGER a_NEGATIVE_INTEGER a_LONG a_INT a_SHORT a_BYTE a_NON_NEGATIVE_INTEGER a_UNSIGNED_LONG a_UNSIGNED_INT a_UNSIGNED_SHORT a_UNSIGNED_BYTE a_POSITIVE_INTEGER h0 n0 Z0 S_ANY_ATOMIC_TYPE S_NUMERIC S_STRING S_UNTYPED_ATOMIC S_BOOLEAN S_NOTATION S_DECIMAL S_FLOAT S_DOUBLE S_INTEGER S_NON_POSITIVE_INTEGER S_NEGATIVE_INTEGER S_LONG S_INT S_SHORT S_BYTE S_NON_NEGATIVE_INTEGER S_UNSIGNED_LONG S_UNSIGNED_INT S_UNSIGNED_SHORT S_UNSIGNED_BYTE S_POSITIVE_INTEGER) hZ (hw _ (List.mem_of_getElem? (i := 4) rfl)) (hw _ (List.mem_of_getElem? (i := 3) rfl)) (by decide) (by decide)) (g := (mkF m 9 #[.val (.int p1), .val (.int (18 : Int32)), .unset, .unset] [(.int (18 : Int32))])) rfl (by rw [hml]; rfl) (argsL := [(.int (18 : Int32))]) (rest := []) (lenOf pd_0 rfl) rfl (by show 2 * 0 + _ ≤ _; exact Nat.le_of_eq rfl) (hb hby at_9) (fun _ _ => ⟨rfl, e0, (by decide : 0 + 0 ≤ _), (by decide : 0 + 0 ≤ _)⟩)
    dsimp only [Pt.U, Pt.locs, Pt.cells, Pt.slots] at X58 l58 y58 z58 st58 hQ58
    subst l58 y58 z58
    obtain ⟨hv58, N58q, r58⟩ := hQ58
    rw [if_neg (by decide), if_neg (by decide), if_neg (by decide), if_neg (by decide), if_neg (by decide), if_neg (by decide), if_neg (by decide), if_neg (by decide), if_neg (by decide), if_neg (by decide), if_neg (by decide), if_neg (by decide), if_neg (by decide), if_neg (by decide), if_neg (by decide), if_neg (by decide), if_neg (by decide), if_neg (by decide), if_pos rfl] at hv58
    subst hv58
    have N58 := Fr.app N0 N58q
    obtain ⟨cq59, kq59, q59a, q59b, q59c⟩ := isOf hZ r58 E_UNSIGNED_INT
    obtain ⟨_, _, ⟨T59, L59, k59, n59⟩, -, X59, ⟨Lc59, hQ59, l59, y59, z59⟩, st59⟩ := X58.virtualBack hx (y := (⟨"com/example/abaco/abaco/core/AtomicType", "isCastTarget", "()Z"⟩ : MethodName)) (z := (⟨"com/example/abaco/abaco/core/AtomicType", "isCastTarget", "()Z"⟩ : MethodName)) hown (mvT hZ (hw _ (List.mem_of_getElem? (i := 8) rfl))) (mvT hZ (hw _ (List.mem_of_getElem? (i := 9) rfl))) (notFace_of_selects (args := #[]) (mvT hZ (hw _ (List.mem_of_getElem? (i := 11) rfl)))) (mvT hZ (hw _ (List.mem_of_getElem? (i := 11) rfl))) (mvT hZ (hw _ (List.mem_of_getElem? (i := 10) rfl))) (by decide) (backOf (W := 0) (rm1 l Z a0 hw [] a_UNSIGNED_INT a_ANY_ATOMIC_TYPE a_NOTATION h0 n0 Z0 S_ANY_ATOMIC_TYPE S_NOTATION) hZ (hw _ (List.mem_of_getElem? (i := 12) rfl)) (hw _ (List.mem_of_getElem? (i := 6) rfl)) (by decide) (by decide)) q59a q59c (g := (mkF m 29 #[.val (.int p1), .val (.int (18 : Int32)), .val (.ref a_UNSIGNED_INT), .val (.int (1 : Int32))] [(.ref a_UNSIGNED_INT)])) rfl (by rw [hml]; rfl) (Steps.refl _) (argsL := []) (rest := []) (lenOf pd_1 rfl) rfl (by show 2 * 0 + _ ≤ _; exact Nat.le_of_eq rfl) (hb hby at_29) (fun _ _ => ⟨rfl, r58, (by decide : 0 + 0 ≤ _), (by decide : 0 + 0 ≤ _)⟩)
    dsimp only [Pt.U, Pt.locs, Pt.cells, Pt.slots] at X59 l59 y59 z59 st59 hQ59
    subst l59 y59 z59
    obtain ⟨hv59, N59q, r59⟩ := hQ59
    rw [(if_neg (fun h => h.elim (own_ne_fld F_UNSIGNED_INT_ordinal F_ANY_ATOMIC_TYPE_ordinal (by decide)) (own_ne_fld F_UNSIGNED_INT_ordinal F_NOTATION_ordinal (by decide))))] at hv59
    subst hv59
    have N59 := Fr.app N58 N59q
    obtain ⟨fs, hr, hrun, hended, hW, hsame⟩ := X59.leave (v := some (.int (1 : Int32))) (fun h => by rw [Bd.returns] at h; cases h)
    refine ⟨_, _, pre0 _ (R1 _ (R57 _ ?_)), hrun, hended, _, _, rfl, ?_, ⟨_, rfl⟩, hW, hsame.mono (by decide) (by decide)⟩
    · show Steps p.tables e below (s₁.setTop (mkF m 8 #[.val (.int p1), .val (.int (18 : Int32)), .unset, .unset] [])) _
      refine XS.iloadN X0.here hx rfl (hb hby at_8) rfl ?_
      show Steps p.tables e below (s₁.setTop (mkF m 9 #[.val (.int p1), .val (.int (18 : Int32)), .unset, .unset] [(.int (18 : Int32))])) _
      refine st58 _ ?_
      show Steps p.tables e below (T58.setTop (mkF m 12 #[.val (.int p1), .val (.int (18 : Int32)), .unset, .unset] [(.ref a_UNSIGNED_INT)])) _
      refine XS.astoreN X58.here hx rfl (hb hby at_12) rfl rfl (l' := #[.val (.int p1), .val (.int (18 : Int32)), .val (.ref a_UNSIGNED_INT), .unset]) rfl ?_
      show Steps p.tables e below (T58.setTop (mkF m 13 #[.val (.int p1), .val (.int (18 : Int32)), .val (.ref a_UNSIGNED_INT), .unset] [])) _
      refine XS.iloadN X58.here hx rfl (hb hby at_13) rfl ?_
      show Steps p.tables e below (T58.setTop (mkF m 14 #[.val (.int p1), .val (.int (18 : Int32)), .val (.ref a_UNSIGNED_INT), .unset] [(.int (18 : Int32))])) _
      refine XS.ifNo X58.here hx rfl (hb hby at_14) rfl ((if0 _ _).trans (feq (by decide : ¬ ((18 : Int32) = (0 : Int32)))).1) ?_
      show Steps p.tables e below (T58.setTop (mkF m 17 #[.val (.int p1), .val (.int (18 : Int32)), .val (.ref a_UNSIGNED_INT), .unset] [])) _
      refine XS.iloadN X58.here hx rfl (hb hby at_17) rfl ?_
      show Steps p.tables e below (T58.setTop (mkF m 18 #[.val (.int p1), .val (.int (18 : Int32)), .val (.ref a_UNSIGNED_INT), .unset] [(.int (18 : Int32))])) _
      refine XS.iconst X58.here hx rfl (hb hby at_18) ?_
      show Steps p.tables e below (T58.setTop (mkF m 19 #[.val (.int p1), .val (.int (18 : Int32)), .val (.ref a_UNSIGNED_INT), .unset] [(.int (5 : Int32)), (.int (18 : Int32))])) _
      refine XS.icmpNo X58.here hx rfl (hb hby at_19) rfl (feq (by decide : ¬ ((18 : Int32) = (5 : Int32)))).1 ?_
      show Steps p.tables e below (T58.setTop (mkF m 22 #[.val (.int p1), .val (.int (18 : Int32)), .val (.ref a_UNSIGNED_INT), .unset] [])) _
      refine XS.iconst X58.here hx rfl (hb hby at_22) ?_
      show Steps p.tables e below (T58.setTop (mkF m 23 #[.val (.int p1), .val (.int (18 : Int32)), .val (.ref a_UNSIGNED_INT), .unset] [(.int (1 : Int32))])) _
      refine XS.goto X58.here hx rfl (pc0 := 23) (pc' := 27) rfl (hb hby at_23) (by decide) (by decide) ?_
      show Steps p.tables e below (T58.setTop (mkF m 27 #[.val (.int p1), .val (.int (18 : Int32)), .val (.ref a_UNSIGNED_INT), .unset] [(.int (1 : Int32))])) _
      refine XS.istoreN X58.here hx rfl (hb hby at_27) rfl (l' := #[.val (.int p1), .val (.int (18 : Int32)), .val (.ref a_UNSIGNED_INT), .val (.int (1 : Int32))]) rfl ?_
      show Steps p.tables e below (T58.setTop (mkF m 28 #[.val (.int p1), .val (.int (18 : Int32)), .val (.ref a_UNSIGNED_INT), .val (.int (1 : Int32))] [])) _
      refine XS.aloadN X58.here hx rfl (hb hby at_28) rfl rfl ?_
      show Steps p.tables e below (T58.setTop (mkF m 29 #[.val (.int p1), .val (.int (18 : Int32)), .val (.ref a_UNSIGNED_INT), .val (.int (1 : Int32))] [(.ref a_UNSIGNED_INT)])) _
      refine st59.trans ?_
      show Steps p.tables e below (T59.setTop (mkF m 32 #[.val (.int p1), .val (.int (18 : Int32)), .val (.ref a_UNSIGNED_INT), .val (.int (1 : Int32))] [(.int (1 : Int32))])) _
      refine XS.iloadN X59.here hx rfl (hb hby at_32) rfl ?_
      show Steps p.tables e below (T59.setTop (mkF m 33 #[.val (.int p1), .val (.int (18 : Int32)), .val (.ref a_UNSIGNED_INT), .val (.int (1 : Int32))] [(.int (1 : Int32)), (.int (1 : Int32))])) _
      refine XS.icmpNo X59.here hx rfl (hb hby at_33) rfl (teq (by decide : (1 : Int32) = (1 : Int32))).2 ?_
      show Steps p.tables e below (T59.setTop (mkF m 36 #[.val (.int p1), .val (.int (18 : Int32)), .val (.ref a_UNSIGNED_INT), .val (.int (1 : Int32))] [])) _
      refine XS.iconst X59.here hx rfl (hb hby at_36) ?_
      show Steps p.tables e below (T59.setTop (mkF m 37 #[.val (.int p1), .val (.int (18 : Int32)), .val (.ref a_UNSIGNED_INT), .val (.int (1 : Int32))] [(.int (1 : Int32))])) _
      refine XS.goto X59.here hx rfl (pc0 := 37) (pc' := 41) rfl (hb hby at_37) (by decide) (by decide) ?_
      show Steps p.tables e below (T59.setTop (mkF m 41 #[.val (.int p1), .val (.int (18 : Int32)), .val (.ref a_UNSIGNED_INT), .val (.int (1 : Int32))] [(.int (1 : Int32))])) _
      exact retN X59 hx (t := .boolean) Bd.returns (by simp) (hb hby at_41) hr
    · show Q0 n0 _ T59.heap _
      rw [r59]
      exact ⟨rfl, N59⟩
  · have R60 : ∀ tg, Steps p.tables e below (s₁.setTop (mkF m 8 #[.val (.int p1), .val (.int (19 : Int32)), .unset, .unset] [])) tg → Steps p.tables e below (s₁.setTop (mkF m 8 #[.val (.int p1), .val (.int ((p1 &&& (2147483647 : Int32)) % (22 : Int32))), .unset, .unset] [])) tg := fun tg kt => by rw [hk2]; exact kt
    obtain ⟨_, _, ⟨T61, L61, k61, n61⟩, -, X61, ⟨Lc61, hQ61, l61, y61, z61⟩, st61⟩ := Jvm.LawKit.callS X0 hx (y := (⟨"com/example/abaco/abaco/core/AtomicTypeIsCastTargetPinLaw", "pick", "(I)Lcom/example/abaco/abaco/core/AtomicType;"⟩ : MethodName)) hown (mvT hZ (hw _ (List.mem_of_getElem? (i := 1) rfl))) (mvT hZ (hw _ (List.mem_of_getElem? (i := 2) rfl))) (mvT hZ (hw _ (List.mem_of_getElem? (i := 3) rfl))) (mvT hZ (hw _ (List.mem_of_getElem? (i := 4) rfl))) (by decide) (backOf (W := 0) (rmP l Z a0 hw [] (19 : Int32) a_ANY_ATOMIC_TYPE a_NUMERIC a_STRING a_UNTYPED_ATOMIC a_BOOLEAN a_NOTATION a_DECIMAL a_FLOAT a_DOUBLE a_INTEGER a_NON_POSITIVE_INTEGER a_NEGATIVE_INTEGER a_LONG a_INT a_SHORT a_BYTE a_NON_NEGATIVE_INTEGER a_UNSIGNED_LONG a_UNSIGNED_INT a_UNSIGNED_SHORT a_UNSIGNED_BYTE a_POSITIVE_INTEGER h0 n0 Z0 S_ANY_ATOMIC_TYPE S_NUMERIC S_STRING S_UNTYPED_ATOMIC S_BOOLEAN S_NOTATION S_DECIMAL S_FLOAT S_DOUBLE S_INTEGER S_NON_POSITIVE_INTEGER S_NEGATIVE_INTEGER S_LONG S_INT S_SHORT S_BYTE S_NON_NEGATIVE_INTEGER S_UNSIGNED_LONG S_UNSIGNED_INT S_UNSIGNED_SHORT S_UNSIGNED_BYTE S_POSITIVE_INTEGER) hZ (hw _ (List.mem_of_getElem? (i := 4) rfl)) (hw _ (List.mem_of_getElem? (i := 3) rfl)) (by decide) (by decide)) (g := (mkF m 9 #[.val (.int p1), .val (.int (19 : Int32)), .unset, .unset] [(.int (19 : Int32))])) rfl (by rw [hml]; rfl) (argsL := [(.int (19 : Int32))]) (rest := []) (lenOf pd_0 rfl) rfl (by show 2 * 0 + _ ≤ _; exact Nat.le_of_eq rfl) (hb hby at_9) (fun _ _ => ⟨rfl, e0, (by decide : 0 + 0 ≤ _), (by decide : 0 + 0 ≤ _)⟩)
    dsimp only [Pt.U, Pt.locs, Pt.cells, Pt.slots] at X61 l61 y61 z61 st61 hQ61
    subst l61 y61 z61
    obtain ⟨hv61, N61q, r61⟩ := hQ61
    rw [if_neg (by decide), if_neg (by decide), if_neg (by decide), if_neg (by decide), if_neg (by decide), if_neg (by decide), if_neg (by decide), if_neg (by decide), if_neg (by decide), if_neg (by decide), if_neg (by decide), if_neg (by decide), if_neg (by decide), if_neg (by decide), if_neg (by decide), if_neg (by decide), if_neg (by decide), if_neg (by decide), if_neg (by decide), if_pos rfl] at hv61
    subst hv61
    have N61 := Fr.app N0 N61q
    obtain ⟨cq62, kq62, q62a, q62b, q62c⟩ := isOf hZ r61 E_UNSIGNED_SHORT
    obtain ⟨_, _, ⟨T62, L62, k62, n62⟩, -, X62, ⟨Lc62, hQ62, l62, y62, z62⟩, st62⟩ := X61.virtualBack hx (y := (⟨"com/example/abaco/abaco/core/AtomicType", "isCastTarget", "()Z"⟩ : MethodName)) (z := (⟨"com/example/abaco/abaco/core/AtomicType", "isCastTarget", "()Z"⟩ : MethodName)) hown (mvT hZ (hw _ (List.mem_of_getElem? (i := 8) rfl))) (mvT hZ (hw _ (List.mem_of_getElem? (i := 9) rfl))) (notFace_of_selects (args := #[]) (mvT hZ (hw _ (List.mem_of_getElem? (i := 11) rfl)))) (mvT hZ (hw _ (List.mem_of_getElem? (i := 11) rfl))) (mvT hZ (hw _ (List.mem_of_getElem? (i := 10) rfl))) (by decide) (backOf (W := 0) (rm1 l Z a0 hw [] a_UNSIGNED_SHORT a_ANY_ATOMIC_TYPE a_NOTATION h0 n0 Z0 S_ANY_ATOMIC_TYPE S_NOTATION) hZ (hw _ (List.mem_of_getElem? (i := 12) rfl)) (hw _ (List.mem_of_getElem? (i := 6) rfl)) (by decide) (by decide)) q62a q62c (g := (mkF m 29 #[.val (.int p1), .val (.int (19 : Int32)), .val (.ref a_UNSIGNED_SHORT), .val (.int (1 : Int32))] [(.ref a_UNSIGNED_SHORT)])) rfl (by rw [hml]; rfl) (Steps.refl _) (argsL := []) (rest := []) (lenOf pd_1 rfl) rfl (by show 2 * 0 + _ ≤ _; exact Nat.le_of_eq rfl) (hb hby at_29) (fun _ _ => ⟨rfl, r61, (by decide : 0 + 0 ≤ _), (by decide : 0 + 0 ≤ _)⟩)
    dsimp only [Pt.U, Pt.locs, Pt.cells, Pt.slots] at X62 l62 y62 z62 st62 hQ62
    subst l62 y62 z62
    obtain ⟨hv62, N62q, r62⟩ := hQ62
    rw [(if_neg (fun h => h.elim (own_ne_fld F_UNSIGNED_SHORT_ordinal F_ANY_ATOMIC_TYPE_ordinal (by decide)) (own_ne_fld F_UNSIGNED_SHORT_ordinal F_NOTATION_ordinal (by decide))))] at hv62
    subst hv62
    have N62 := Fr.app N61 N62q
    obtain ⟨fs, hr, hrun, hended, hW, hsame⟩ := X62.leave (v := some (.int (1 : Int32))) (fun h => by rw [Bd.returns] at h; cases h)
    refine ⟨_, _, pre0 _ (R1 _ (R60 _ ?_)), hrun, hended, _, _, rfl, ?_, ⟨_, rfl⟩, hW, hsame.mono (by decide) (by decide)⟩
    · show Steps p.tables e below (s₁.setTop (mkF m 8 #[.val (.int p1), .val (.int (19 : Int32)), .unset, .unset] [])) _
      refine XS.iloadN X0.here hx rfl (hb hby at_8) rfl ?_
      show Steps p.tables e below (s₁.setTop (mkF m 9 #[.val (.int p1), .val (.int (19 : Int32)), .unset, .unset] [(.int (19 : Int32))])) _
      refine st61 _ ?_
      show Steps p.tables e below (T61.setTop (mkF m 12 #[.val (.int p1), .val (.int (19 : Int32)), .unset, .unset] [(.ref a_UNSIGNED_SHORT)])) _
      refine XS.astoreN X61.here hx rfl (hb hby at_12) rfl rfl (l' := #[.val (.int p1), .val (.int (19 : Int32)), .val (.ref a_UNSIGNED_SHORT), .unset]) rfl ?_
      show Steps p.tables e below (T61.setTop (mkF m 13 #[.val (.int p1), .val (.int (19 : Int32)), .val (.ref a_UNSIGNED_SHORT), .unset] [])) _
      refine XS.iloadN X61.here hx rfl (hb hby at_13) rfl ?_
      show Steps p.tables e below (T61.setTop (mkF m 14 #[.val (.int p1), .val (.int (19 : Int32)), .val (.ref a_UNSIGNED_SHORT), .unset] [(.int (19 : Int32))])) _
      refine XS.ifNo X61.here hx rfl (hb hby at_14) rfl ((if0 _ _).trans (feq (by decide : ¬ ((19 : Int32) = (0 : Int32)))).1) ?_
      show Steps p.tables e below (T61.setTop (mkF m 17 #[.val (.int p1), .val (.int (19 : Int32)), .val (.ref a_UNSIGNED_SHORT), .unset] [])) _
      refine XS.iloadN X61.here hx rfl (hb hby at_17) rfl ?_
      show Steps p.tables e below (T61.setTop (mkF m 18 #[.val (.int p1), .val (.int (19 : Int32)), .val (.ref a_UNSIGNED_SHORT), .unset] [(.int (19 : Int32))])) _
      refine XS.iconst X61.here hx rfl (hb hby at_18) ?_
      show Steps p.tables e below (T61.setTop (mkF m 19 #[.val (.int p1), .val (.int (19 : Int32)), .val (.ref a_UNSIGNED_SHORT), .unset] [(.int (5 : Int32)), (.int (19 : Int32))])) _
      refine XS.icmpNo X61.here hx rfl (hb hby at_19) rfl (feq (by decide : ¬ ((19 : Int32) = (5 : Int32)))).1 ?_
      show Steps p.tables e below (T61.setTop (mkF m 22 #[.val (.int p1), .val (.int (19 : Int32)), .val (.ref a_UNSIGNED_SHORT), .unset] [])) _
      refine XS.iconst X61.here hx rfl (hb hby at_22) ?_
      show Steps p.tables e below (T61.setTop (mkF m 23 #[.val (.int p1), .val (.int (19 : Int32)), .val (.ref a_UNSIGNED_SHORT), .unset] [(.int (1 : Int32))])) _
      refine XS.goto X61.here hx rfl (pc0 := 23) (pc' := 27) rfl (hb hby at_23) (by decide) (by decide) ?_
      show Steps p.tables e below (T61.setTop (mkF m 27 #[.val (.int p1), .val (.int (19 : Int32)), .val (.ref a_UNSIGNED_SHORT), .unset] [(.int (1 : Int32))])) _
      refine XS.istoreN X61.here hx rfl (hb hby at_27) rfl (l' := #[.val (.int p1), .val (.int (19 : Int32)), .val (.ref a_UNSIGNED_SHORT), .val (.int (1 : Int32))]) rfl ?_
      show Steps p.tables e below (T61.setTop (mkF m 28 #[.val (.int p1), .val (.int (19 : Int32)), .val (.ref a_UNSIGNED_SHORT), .val (.int (1 : Int32))] [])) _
      refine XS.aloadN X61.here hx rfl (hb hby at_28) rfl rfl ?_
      show Steps p.tables e below (T61.setTop (mkF m 29 #[.val (.int p1), .val (.int (19 : Int32)), .val (.ref a_UNSIGNED_SHORT), .val (.int (1 : Int32))] [(.ref a_UNSIGNED_SHORT)])) _
      refine st62.trans ?_
      show Steps p.tables e below (T62.setTop (mkF m 32 #[.val (.int p1), .val (.int (19 : Int32)), .val (.ref a_UNSIGNED_SHORT), .val (.int (1 : Int32))] [(.int (1 : Int32))])) _
      refine XS.iloadN X62.here hx rfl (hb hby at_32) rfl ?_
      show Steps p.tables e below (T62.setTop (mkF m 33 #[.val (.int p1), .val (.int (19 : Int32)), .val (.ref a_UNSIGNED_SHORT), .val (.int (1 : Int32))] [(.int (1 : Int32)), (.int (1 : Int32))])) _
      refine XS.icmpNo X62.here hx rfl (hb hby at_33) rfl (teq (by decide : (1 : Int32) = (1 : Int32))).2 ?_
      show Steps p.tables e below (T62.setTop (mkF m 36 #[.val (.int p1), .val (.int (19 : Int32)), .val (.ref a_UNSIGNED_SHORT), .val (.int (1 : Int32))] [])) _
      refine XS.iconst X62.here hx rfl (hb hby at_36) ?_
      show Steps p.tables e below (T62.setTop (mkF m 37 #[.val (.int p1), .val (.int (19 : Int32)), .val (.ref a_UNSIGNED_SHORT), .val (.int (1 : Int32))] [(.int (1 : Int32))])) _
      refine XS.goto X62.here hx rfl (pc0 := 37) (pc' := 41) rfl (hb hby at_37) (by decide) (by decide) ?_
      show Steps p.tables e below (T62.setTop (mkF m 41 #[.val (.int p1), .val (.int (19 : Int32)), .val (.ref a_UNSIGNED_SHORT), .val (.int (1 : Int32))] [(.int (1 : Int32))])) _
      exact retN X62 hx (t := .boolean) Bd.returns (by simp) (hb hby at_41) hr
    · show Q0 n0 _ T62.heap _
      rw [r62]
      exact ⟨rfl, N62⟩
  · have R63 : ∀ tg, Steps p.tables e below (s₁.setTop (mkF m 8 #[.val (.int p1), .val (.int (20 : Int32)), .unset, .unset] [])) tg → Steps p.tables e below (s₁.setTop (mkF m 8 #[.val (.int p1), .val (.int ((p1 &&& (2147483647 : Int32)) % (22 : Int32))), .unset, .unset] [])) tg := fun tg kt => by rw [hk2]; exact kt
    obtain ⟨_, _, ⟨T64, L64, k64, n64⟩, -, X64, ⟨Lc64, hQ64, l64, y64, z64⟩, st64⟩ := Jvm.LawKit.callS X0 hx (y := (⟨"com/example/abaco/abaco/core/AtomicTypeIsCastTargetPinLaw", "pick", "(I)Lcom/example/abaco/abaco/core/AtomicType;"⟩ : MethodName)) hown (mvT hZ (hw _ (List.mem_of_getElem? (i := 1) rfl))) (mvT hZ (hw _ (List.mem_of_getElem? (i := 2) rfl))) (mvT hZ (hw _ (List.mem_of_getElem? (i := 3) rfl))) (mvT hZ (hw _ (List.mem_of_getElem? (i := 4) rfl))) (by decide) (backOf (W := 0) (rmP l Z a0 hw [] (20 : Int32) a_ANY_ATOMIC_TYPE a_NUMERIC a_STRING a_UNTYPED_ATOMIC a_BOOLEAN a_NOTATION a_DECIMAL a_FLOAT a_DOUBLE a_INTEGER a_NON_POSITIVE_INTEGER a_NEGATIVE_INTEGER a_LONG a_INT a_SHORT a_BYTE a_NON_NEGATIVE_INTEGER a_UNSIGNED_LONG a_UNSIGNED_INT a_UNSIGNED_SHORT a_UNSIGNED_BYTE a_POSITIVE_INTEGER h0 n0 Z0 S_ANY_ATOMIC_TYPE S_NUMERIC S_STRING S_UNTYPED_ATOMIC S_BOOLEAN S_NOTATION S_DECIMAL S_FLOAT S_DOUBLE S_INTEGER S_NON_POSITIVE_INTEGER S_NEGATIVE_INTEGER S_LONG S_INT S_SHORT S_BYTE S_NON_NEGATIVE_INTEGER S_UNSIGNED_LONG S_UNSIGNED_INT S_UNSIGNED_SHORT S_UNSIGNED_BYTE S_POSITIVE_INTEGER) hZ (hw _ (List.mem_of_getElem? (i := 4) rfl)) (hw _ (List.mem_of_getElem? (i := 3) rfl)) (by decide) (by decide)) (g := (mkF m 9 #[.val (.int p1), .val (.int (20 : Int32)), .unset, .unset] [(.int (20 : Int32))])) rfl (by rw [hml]; rfl) (argsL := [(.int (20 : Int32))]) (rest := []) (lenOf pd_0 rfl) rfl (by show 2 * 0 + _ ≤ _; exact Nat.le_of_eq rfl) (hb hby at_9) (fun _ _ => ⟨rfl, e0, (by decide : 0 + 0 ≤ _), (by decide : 0 + 0 ≤ _)⟩)
    dsimp only [Pt.U, Pt.locs, Pt.cells, Pt.slots] at X64 l64 y64 z64 st64 hQ64
    subst l64 y64 z64
    obtain ⟨hv64, N64q, r64⟩ := hQ64
    rw [if_neg (by decide), if_neg (by decide), if_neg (by decide), if_neg (by decide), if_neg (by decide), if_neg (by decide), if_neg (by decide), if_neg (by decide), if_neg (by decide), if_neg (by decide), if_neg (by decide), if_neg (by decide), if_neg (by decide), if_neg (by decide), if_neg (by decide), if_neg (by decide), if_neg (by decide), if_neg (by decide), if_neg (by decide), if_neg (by decide), if_pos rfl] at hv64
    subst hv64
    have N64 := Fr.app N0 N64q
    obtain ⟨cq65, kq65, q65a, q65b, q65c⟩ := isOf hZ r64 E_UNSIGNED_BYTE
    obtain ⟨_, _, ⟨T65, L65, k65, n65⟩, -, X65, ⟨Lc65, hQ65, l65, y65, z65⟩, st65⟩ := X64.virtualBack hx (y := (⟨"com/example/abaco/abaco/core/AtomicType", "isCastTarget", "()Z"⟩ : MethodName)) (z := (⟨"com/example/abaco/abaco/core/AtomicType", "isCastTarget", "()Z"⟩ : MethodName)) hown (mvT hZ (hw _ (List.mem_of_getElem? (i := 8) rfl))) (mvT hZ (hw _ (List.mem_of_getElem? (i := 9) rfl))) (notFace_of_selects (args := #[]) (mvT hZ (hw _ (List.mem_of_getElem? (i := 11) rfl)))) (mvT hZ (hw _ (List.mem_of_getElem? (i := 11) rfl))) (mvT hZ (hw _ (List.mem_of_getElem? (i := 10) rfl))) (by decide) (backOf (W := 0) (rm1 l Z a0 hw [] a_UNSIGNED_BYTE a_ANY_ATOMIC_TYPE a_NOTATION h0 n0 Z0 S_ANY_ATOMIC_TYPE S_NOTATION) hZ (hw _ (List.mem_of_getElem? (i := 12) rfl)) (hw _ (List.mem_of_getElem? (i := 6) rfl)) (by decide) (by decide)) q65a q65c (g := (mkF m 29 #[.val (.int p1), .val (.int (20 : Int32)), .val (.ref a_UNSIGNED_BYTE), .val (.int (1 : Int32))] [(.ref a_UNSIGNED_BYTE)])) rfl (by rw [hml]; rfl) (Steps.refl _) (argsL := []) (rest := []) (lenOf pd_1 rfl) rfl (by show 2 * 0 + _ ≤ _; exact Nat.le_of_eq rfl) (hb hby at_29) (fun _ _ => ⟨rfl, r64, (by decide : 0 + 0 ≤ _), (by decide : 0 + 0 ≤ _)⟩)
    dsimp only [Pt.U, Pt.locs, Pt.cells, Pt.slots] at X65 l65 y65 z65 st65 hQ65
    subst l65 y65 z65
    obtain ⟨hv65, N65q, r65⟩ := hQ65
    rw [(if_neg (fun h => h.elim (own_ne_fld F_UNSIGNED_BYTE_ordinal F_ANY_ATOMIC_TYPE_ordinal (by decide)) (own_ne_fld F_UNSIGNED_BYTE_ordinal F_NOTATION_ordinal (by decide))))] at hv65
    subst hv65
    have N65 := Fr.app N64 N65q
    obtain ⟨fs, hr, hrun, hended, hW, hsame⟩ := X65.leave (v := some (.int (1 : Int32))) (fun h => by rw [Bd.returns] at h; cases h)
    refine ⟨_, _, pre0 _ (R1 _ (R63 _ ?_)), hrun, hended, _, _, rfl, ?_, ⟨_, rfl⟩, hW, hsame.mono (by decide) (by decide)⟩
    · show Steps p.tables e below (s₁.setTop (mkF m 8 #[.val (.int p1), .val (.int (20 : Int32)), .unset, .unset] [])) _
      refine XS.iloadN X0.here hx rfl (hb hby at_8) rfl ?_
      show Steps p.tables e below (s₁.setTop (mkF m 9 #[.val (.int p1), .val (.int (20 : Int32)), .unset, .unset] [(.int (20 : Int32))])) _
      refine st64 _ ?_
      show Steps p.tables e below (T64.setTop (mkF m 12 #[.val (.int p1), .val (.int (20 : Int32)), .unset, .unset] [(.ref a_UNSIGNED_BYTE)])) _
      refine XS.astoreN X64.here hx rfl (hb hby at_12) rfl rfl (l' := #[.val (.int p1), .val (.int (20 : Int32)), .val (.ref a_UNSIGNED_BYTE), .unset]) rfl ?_
      show Steps p.tables e below (T64.setTop (mkF m 13 #[.val (.int p1), .val (.int (20 : Int32)), .val (.ref a_UNSIGNED_BYTE), .unset] [])) _
      refine XS.iloadN X64.here hx rfl (hb hby at_13) rfl ?_
      show Steps p.tables e below (T64.setTop (mkF m 14 #[.val (.int p1), .val (.int (20 : Int32)), .val (.ref a_UNSIGNED_BYTE), .unset] [(.int (20 : Int32))])) _
      refine XS.ifNo X64.here hx rfl (hb hby at_14) rfl ((if0 _ _).trans (feq (by decide : ¬ ((20 : Int32) = (0 : Int32)))).1) ?_
      show Steps p.tables e below (T64.setTop (mkF m 17 #[.val (.int p1), .val (.int (20 : Int32)), .val (.ref a_UNSIGNED_BYTE), .unset] [])) _
      refine XS.iloadN X64.here hx rfl (hb hby at_17) rfl ?_
      show Steps p.tables e below (T64.setTop (mkF m 18 #[.val (.int p1), .val (.int (20 : Int32)), .val (.ref a_UNSIGNED_BYTE), .unset] [(.int (20 : Int32))])) _
      refine XS.iconst X64.here hx rfl (hb hby at_18) ?_
      show Steps p.tables e below (T64.setTop (mkF m 19 #[.val (.int p1), .val (.int (20 : Int32)), .val (.ref a_UNSIGNED_BYTE), .unset] [(.int (5 : Int32)), (.int (20 : Int32))])) _
      refine XS.icmpNo X64.here hx rfl (hb hby at_19) rfl (feq (by decide : ¬ ((20 : Int32) = (5 : Int32)))).1 ?_
      show Steps p.tables e below (T64.setTop (mkF m 22 #[.val (.int p1), .val (.int (20 : Int32)), .val (.ref a_UNSIGNED_BYTE), .unset] [])) _
      refine XS.iconst X64.here hx rfl (hb hby at_22) ?_
      show Steps p.tables e below (T64.setTop (mkF m 23 #[.val (.int p1), .val (.int (20 : Int32)), .val (.ref a_UNSIGNED_BYTE), .unset] [(.int (1 : Int32))])) _
      refine XS.goto X64.here hx rfl (pc0 := 23) (pc' := 27) rfl (hb hby at_23) (by decide) (by decide) ?_
      show Steps p.tables e below (T64.setTop (mkF m 27 #[.val (.int p1), .val (.int (20 : Int32)), .val (.ref a_UNSIGNED_BYTE), .unset] [(.int (1 : Int32))])) _
      refine XS.istoreN X64.here hx rfl (hb hby at_27) rfl (l' := #[.val (.int p1), .val (.int (20 : Int32)), .val (.ref a_UNSIGNED_BYTE), .val (.int (1 : Int32))]) rfl ?_
      show Steps p.tables e below (T64.setTop (mkF m 28 #[.val (.int p1), .val (.int (20 : Int32)), .val (.ref a_UNSIGNED_BYTE), .val (.int (1 : Int32))] [])) _
      refine XS.aloadN X64.here hx rfl (hb hby at_28) rfl rfl ?_
      show Steps p.tables e below (T64.setTop (mkF m 29 #[.val (.int p1), .val (.int (20 : Int32)), .val (.ref a_UNSIGNED_BYTE), .val (.int (1 : Int32))] [(.ref a_UNSIGNED_BYTE)])) _
      refine st65.trans ?_
      show Steps p.tables e below (T65.setTop (mkF m 32 #[.val (.int p1), .val (.int (20 : Int32)), .val (.ref a_UNSIGNED_BYTE), .val (.int (1 : Int32))] [(.int (1 : Int32))])) _
      refine XS.iloadN X65.here hx rfl (hb hby at_32) rfl ?_
      show Steps p.tables e below (T65.setTop (mkF m 33 #[.val (.int p1), .val (.int (20 : Int32)), .val (.ref a_UNSIGNED_BYTE), .val (.int (1 : Int32))] [(.int (1 : Int32)), (.int (1 : Int32))])) _
      refine XS.icmpNo X65.here hx rfl (hb hby at_33) rfl (teq (by decide : (1 : Int32) = (1 : Int32))).2 ?_
      show Steps p.tables e below (T65.setTop (mkF m 36 #[.val (.int p1), .val (.int (20 : Int32)), .val (.ref a_UNSIGNED_BYTE), .val (.int (1 : Int32))] [])) _
      refine XS.iconst X65.here hx rfl (hb hby at_36) ?_
      show Steps p.tables e below (T65.setTop (mkF m 37 #[.val (.int p1), .val (.int (20 : Int32)), .val (.ref a_UNSIGNED_BYTE), .val (.int (1 : Int32))] [(.int (1 : Int32))])) _
      refine XS.goto X65.here hx rfl (pc0 := 37) (pc' := 41) rfl (hb hby at_37) (by decide) (by decide) ?_
      show Steps p.tables e below (T65.setTop (mkF m 41 #[.val (.int p1), .val (.int (20 : Int32)), .val (.ref a_UNSIGNED_BYTE), .val (.int (1 : Int32))] [(.int (1 : Int32))])) _
      exact retN X65 hx (t := .boolean) Bd.returns (by simp) (hb hby at_41) hr
    · show Q0 n0 _ T65.heap _
      rw [r65]
      exact ⟨rfl, N65⟩
  · have R66 : ∀ tg, Steps p.tables e below (s₁.setTop (mkF m 8 #[.val (.int p1), .val (.int (21 : Int32)), .unset, .unset] [])) tg → Steps p.tables e below (s₁.setTop (mkF m 8 #[.val (.int p1), .val (.int ((p1 &&& (2147483647 : Int32)) % (22 : Int32))), .unset, .unset] [])) tg := fun tg kt => by rw [hk2]; exact kt
    obtain ⟨_, _, ⟨T67, L67, k67, n67⟩, -, X67, ⟨Lc67, hQ67, l67, y67, z67⟩, st67⟩ := Jvm.LawKit.callS X0 hx (y := (⟨"com/example/abaco/abaco/core/AtomicTypeIsCastTargetPinLaw", "pick", "(I)Lcom/example/abaco/abaco/core/AtomicType;"⟩ : MethodName)) hown (mvT hZ (hw _ (List.mem_of_getElem? (i := 1) rfl))) (mvT hZ (hw _ (List.mem_of_getElem? (i := 2) rfl))) (mvT hZ (hw _ (List.mem_of_getElem? (i := 3) rfl))) (mvT hZ (hw _ (List.mem_of_getElem? (i := 4) rfl))) (by decide) (backOf (W := 0) (rmP l Z a0 hw [] (21 : Int32) a_ANY_ATOMIC_TYPE a_NUMERIC a_STRING a_UNTYPED_ATOMIC a_BOOLEAN a_NOTATION a_DECIMAL a_FLOAT a_DOUBLE a_INTEGER a_NON_POSITIVE_INTEGER a_NEGATIVE_INTEGER a_LONG a_INT a_SHORT a_BYTE a_NON_NEGATIVE_INTEGER a_UNSIGNED_LONG a_UNSIGNED_INT a_UNSIGNED_SHORT a_UNSIGNED_BYTE a_POSITIVE_INTEGER h0 n0 Z0 S_ANY_ATOMIC_TYPE S_NUMERIC S_STRING S_UNTYPED_ATOMIC S_BOOLEAN S_NOTATION S_DECIMAL S_FLOAT S_DOUBLE S_INTEGER S_NON_POSITIVE_INTEGER S_NEGATIVE_INTEGER S_LONG S_INT S_SHORT S_BYTE S_NON_NEGATIVE_INTEGER S_UNSIGNED_LONG S_UNSIGNED_INT S_UNSIGNED_SHORT S_UNSIGNED_BYTE S_POSITIVE_INTEGER) hZ (hw _ (List.mem_of_getElem? (i := 4) rfl)) (hw _ (List.mem_of_getElem? (i := 3) rfl)) (by decide) (by decide)) (g := (mkF m 9 #[.val (.int p1), .val (.int (21 : Int32)), .unset, .unset] [(.int (21 : Int32))])) rfl (by rw [hml]; rfl) (argsL := [(.int (21 : Int32))]) (rest := []) (lenOf pd_0 rfl) rfl (by show 2 * 0 + _ ≤ _; exact Nat.le_of_eq rfl) (hb hby at_9) (fun _ _ => ⟨rfl, e0, (by decide : 0 + 0 ≤ _), (by decide : 0 + 0 ≤ _)⟩)
    dsimp only [Pt.U, Pt.locs, Pt.cells, Pt.slots] at X67 l67 y67 z67 st67 hQ67
    subst l67 y67 z67
    obtain ⟨hv67, N67q, r67⟩ := hQ67
    rw [if_neg (by decide), if_neg (by decide), if_neg (by decide), if_neg (by decide), if_neg (by decide), if_neg (by decide), if_neg (by decide), if_neg (by decide), if_neg (by decide), if_neg (by decide), if_neg (by decide), if_neg (by decide), if_neg (by decide), if_neg (by decide), if_neg (by decide), if_neg (by decide), if_neg (by decide), if_neg (by decide), if_neg (by decide), if_neg (by decide), if_neg (by decide)] at hv67
    subst hv67
    have N67 := Fr.app N0 N67q
    obtain ⟨cq68, kq68, q68a, q68b, q68c⟩ := isOf hZ r67 E_POSITIVE_INTEGER
    obtain ⟨_, _, ⟨T68, L68, k68, n68⟩, -, X68, ⟨Lc68, hQ68, l68, y68, z68⟩, st68⟩ := X67.virtualBack hx (y := (⟨"com/example/abaco/abaco/core/AtomicType", "isCastTarget", "()Z"⟩ : MethodName)) (z := (⟨"com/example/abaco/abaco/core/AtomicType", "isCastTarget", "()Z"⟩ : MethodName)) hown (mvT hZ (hw _ (List.mem_of_getElem? (i := 8) rfl))) (mvT hZ (hw _ (List.mem_of_getElem? (i := 9) rfl))) (notFace_of_selects (args := #[]) (mvT hZ (hw _ (List.mem_of_getElem? (i := 11) rfl)))) (mvT hZ (hw _ (List.mem_of_getElem? (i := 11) rfl))) (mvT hZ (hw _ (List.mem_of_getElem? (i := 10) rfl))) (by decide) (backOf (W := 0) (rm1 l Z a0 hw [] a_POSITIVE_INTEGER a_ANY_ATOMIC_TYPE a_NOTATION h0 n0 Z0 S_ANY_ATOMIC_TYPE S_NOTATION) hZ (hw _ (List.mem_of_getElem? (i := 12) rfl)) (hw _ (List.mem_of_getElem? (i := 6) rfl)) (by decide) (by decide)) q68a q68c (g := (mkF m 29 #[.val (.int p1), .val (.int (21 : Int32)), .val (.ref a_POSITIVE_INTEGER), .val (.int (1 : Int32))] [(.ref a_POSITIVE_INTEGER)])) rfl (by rw [hml]; rfl) (Steps.refl _) (argsL := []) (rest := []) (lenOf pd_1 rfl) rfl (by show 2 * 0 + _ ≤ _; exact Nat.le_of_eq rfl) (hb hby at_29) (fun _ _ => ⟨rfl, r67, (by decide : 0 + 0 ≤ _), (by decide : 0 + 0 ≤ _)⟩)
    dsimp only [Pt.U, Pt.locs, Pt.cells, Pt.slots] at X68 l68 y68 z68 st68 hQ68
    subst l68 y68 z68
    obtain ⟨hv68, N68q, r68⟩ := hQ68
    rw [(if_neg (fun h => h.elim (own_ne_fld F_POSITIVE_INTEGER_ordinal F_ANY_ATOMIC_TYPE_ordinal (by decide)) (own_ne_fld F_POSITIVE_INTEGER_ordinal F_NOTATION_ordinal (by decide))))] at hv68
    subst hv68
    have N68 := Fr.app N67 N68q
    obtain ⟨fs, hr, hrun, hended, hW, hsame⟩ := X68.leave (v := some (.int (1 : Int32))) (fun h => by rw [Bd.returns] at h; cases h)
    refine ⟨_, _, pre0 _ (R1 _ (R66 _ ?_)), hrun, hended, _, _, rfl, ?_, ⟨_, rfl⟩, hW, hsame.mono (by decide) (by decide)⟩
    · show Steps p.tables e below (s₁.setTop (mkF m 8 #[.val (.int p1), .val (.int (21 : Int32)), .unset, .unset] [])) _
      refine XS.iloadN X0.here hx rfl (hb hby at_8) rfl ?_
      show Steps p.tables e below (s₁.setTop (mkF m 9 #[.val (.int p1), .val (.int (21 : Int32)), .unset, .unset] [(.int (21 : Int32))])) _
      refine st67 _ ?_
      show Steps p.tables e below (T67.setTop (mkF m 12 #[.val (.int p1), .val (.int (21 : Int32)), .unset, .unset] [(.ref a_POSITIVE_INTEGER)])) _
      refine XS.astoreN X67.here hx rfl (hb hby at_12) rfl rfl (l' := #[.val (.int p1), .val (.int (21 : Int32)), .val (.ref a_POSITIVE_INTEGER), .unset]) rfl ?_
      show Steps p.tables e below (T67.setTop (mkF m 13 #[.val (.int p1), .val (.int (21 : Int32)), .val (.ref a_POSITIVE_INTEGER), .unset] [])) _
      refine XS.iloadN X67.here hx rfl (hb hby at_13) rfl ?_
      show Steps p.tables e below (T67.setTop (mkF m 14 #[.val (.int p1), .val (.int (21 : Int32)), .val (.ref a_POSITIVE_INTEGER), .unset] [(.int (21 : Int32))])) _
      refine XS.ifNo X67.here hx rfl (hb hby at_14) rfl ((if0 _ _).trans (feq (by decide : ¬ ((21 : Int32) = (0 : Int32)))).1) ?_
      show Steps p.tables e below (T67.setTop (mkF m 17 #[.val (.int p1), .val (.int (21 : Int32)), .val (.ref a_POSITIVE_INTEGER), .unset] [])) _
      refine XS.iloadN X67.here hx rfl (hb hby at_17) rfl ?_
      show Steps p.tables e below (T67.setTop (mkF m 18 #[.val (.int p1), .val (.int (21 : Int32)), .val (.ref a_POSITIVE_INTEGER), .unset] [(.int (21 : Int32))])) _
      refine XS.iconst X67.here hx rfl (hb hby at_18) ?_
      show Steps p.tables e below (T67.setTop (mkF m 19 #[.val (.int p1), .val (.int (21 : Int32)), .val (.ref a_POSITIVE_INTEGER), .unset] [(.int (5 : Int32)), (.int (21 : Int32))])) _
      refine XS.icmpNo X67.here hx rfl (hb hby at_19) rfl (feq (by decide : ¬ ((21 : Int32) = (5 : Int32)))).1 ?_
      show Steps p.tables e below (T67.setTop (mkF m 22 #[.val (.int p1), .val (.int (21 : Int32)), .val (.ref a_POSITIVE_INTEGER), .unset] [])) _
      refine XS.iconst X67.here hx rfl (hb hby at_22) ?_
      show Steps p.tables e below (T67.setTop (mkF m 23 #[.val (.int p1), .val (.int (21 : Int32)), .val (.ref a_POSITIVE_INTEGER), .unset] [(.int (1 : Int32))])) _
      refine XS.goto X67.here hx rfl (pc0 := 23) (pc' := 27) rfl (hb hby at_23) (by decide) (by decide) ?_
      show Steps p.tables e below (T67.setTop (mkF m 27 #[.val (.int p1), .val (.int (21 : Int32)), .val (.ref a_POSITIVE_INTEGER), .unset] [(.int (1 : Int32))])) _
      refine XS.istoreN X67.here hx rfl (hb hby at_27) rfl (l' := #[.val (.int p1), .val (.int (21 : Int32)), .val (.ref a_POSITIVE_INTEGER), .val (.int (1 : Int32))]) rfl ?_
      show Steps p.tables e below (T67.setTop (mkF m 28 #[.val (.int p1), .val (.int (21 : Int32)), .val (.ref a_POSITIVE_INTEGER), .val (.int (1 : Int32))] [])) _
      refine XS.aloadN X67.here hx rfl (hb hby at_28) rfl rfl ?_
      show Steps p.tables e below (T67.setTop (mkF m 29 #[.val (.int p1), .val (.int (21 : Int32)), .val (.ref a_POSITIVE_INTEGER), .val (.int (1 : Int32))] [(.ref a_POSITIVE_INTEGER)])) _
      refine st68.trans ?_
      show Steps p.tables e below (T68.setTop (mkF m 32 #[.val (.int p1), .val (.int (21 : Int32)), .val (.ref a_POSITIVE_INTEGER), .val (.int (1 : Int32))] [(.int (1 : Int32))])) _
      refine XS.iloadN X68.here hx rfl (hb hby at_32) rfl ?_
      show Steps p.tables e below (T68.setTop (mkF m 33 #[.val (.int p1), .val (.int (21 : Int32)), .val (.ref a_POSITIVE_INTEGER), .val (.int (1 : Int32))] [(.int (1 : Int32)), (.int (1 : Int32))])) _
      refine XS.icmpNo X68.here hx rfl (hb hby at_33) rfl (teq (by decide : (1 : Int32) = (1 : Int32))).2 ?_
      show Steps p.tables e below (T68.setTop (mkF m 36 #[.val (.int p1), .val (.int (21 : Int32)), .val (.ref a_POSITIVE_INTEGER), .val (.int (1 : Int32))] [])) _
      refine XS.iconst X68.here hx rfl (hb hby at_36) ?_
      show Steps p.tables e below (T68.setTop (mkF m 37 #[.val (.int p1), .val (.int (21 : Int32)), .val (.ref a_POSITIVE_INTEGER), .val (.int (1 : Int32))] [(.int (1 : Int32))])) _
      refine XS.goto X68.here hx rfl (pc0 := 37) (pc' := 41) rfl (hb hby at_37) (by decide) (by decide) ?_
      show Steps p.tables e below (T68.setTop (mkF m 41 #[.val (.int p1), .val (.int (21 : Int32)), .val (.ref a_POSITIVE_INTEGER), .val (.int (1 : Int32))] [(.int (1 : Int32))])) _
      exact retN X68 hx (t := .boolean) Bd.returns (by simp) (hb hby at_41) hr
    · show Q0 n0 _ T68.heap _
      rw [r68]
      exact ⟨rfl, N68⟩
set_option maxRecDepth 65536 in
set_option maxHeartbeats 40000000 in
theorem comes_1 {Post : Tables → Env → Array Value → State → Outcome → State → Prop} (hpost : ∀ tb e args s v u, (limb_1_1.after args s (.returned v) u = true ∧ limb_1_2.after args s (.returned v) u = true ∧ True) → FrameEnd s (.returned v) u (Jvm.fieldLocs frame_1_writes args s ++ Jvm.arrayLocs frame_1_arrays args s ++ Jvm.staticLocs frame_1_statics s) 0 0 → Post tb e args s (.returned v) u) :
    ArmFor flags0 classFile x code maxLocals ret World_1 tables_1 room_1 Calls_1 rest_1 Pre_1 Post := by
  intro l hfl _ _ p e ha hc hk s m args below hf hA hF happ hP
  obtain ⟨hcalls, hrest, hpre⟩ := hP
  obtain ⟨-, -, -, hnamed, -, -, -, hat⟩ := (Spec.applies_iff hf).mp happ
  obtain ⟨hg, hn⟩ := and_e (Cond.before_iff.mp (show (Jvm.Cond.and given_1 narrow_1).before args s = true from hpre))
  obtain ⟨g1a, g1b⟩ := and_e hg
  obtain ⟨w0, rfl⟩ : ∃ w0 : Value, args = #[w0] := by
    have hs : args.size = 1 := by simpa [Cond.value, given_1] using g1a
    obtain ⟨L⟩ := args
    match L, hs with
    | [w0], _ => exact ⟨w0, rfl⟩
  have hw := fun d (hd : d ∈ tables_1) => atoms_spec (ws := Jvm.Cond.code x code maxLocals ret :: tables_1) hat d (List.mem_cons_of_mem _ hd)
  have hfit : Fit s := fun {y c} hc i hi => by
    obtain ⟨ha, rfl⟩ := Array.getElem?_eq_some_iff.mp hc
    have q := List.all_eq_true.mp ((Array.all_eq_true_iff_forall_mem.mp hF) _ (Array.getElem_mem ha)) i (List.mem_range.mpr hi)
    simpa [Array.getElem?_eq_getElem hi] using q
  obtain ⟨i0, ei0⟩ := is_v g1b
  obtain rfl : w0 = (.int i0) := Option.some.inj ei0
  obtain ⟨u1a, u1b⟩ := and_e hn
  obtain ⟨u2a, u2b⟩ := and_e u1b
  obtain ⟨u3a, u3b⟩ := and_e u2b
  obtain ⟨u4a, u4b⟩ := and_e u3b
  obtain ⟨u5a, u5b⟩ := and_e u4b
  obtain ⟨u6a, u6b⟩ := and_e u5b
  obtain ⟨u7a, u7b⟩ := and_e u6b
  obtain ⟨u8a, u8b⟩ := and_e u7b
  obtain ⟨u9a, u9b⟩ := and_e u8b
  obtain ⟨u10a, u10b⟩ := and_e u9b
  obtain ⟨u11a, u11b⟩ := and_e u10b
  obtain ⟨u12a, u12b⟩ := and_e u11b
  obtain ⟨u13a, u13b⟩ := and_e u12b
  obtain ⟨u14a, u14b⟩ := and_e u13b
  obtain ⟨u15a, u15b⟩ := and_e u14b
  obtain ⟨u16a, u16b⟩ := and_e u15b
  obtain ⟨u17a, u17b⟩ := and_e u16b
  obtain ⟨u18a, u18b⟩ := and_e u17b
  obtain ⟨u19a, u19b⟩ := and_e u18b
  obtain ⟨u20a, u20b⟩ := and_e u19b
  obtain ⟨u21a, u21b⟩ := and_e u20b
  obtain ⟨u22a, u22b⟩ := and_e u21b
  obtain ⟨u23a, u23b⟩ := and_e u22b
  obtain ⟨u24a, u24b⟩ := and_e u23b
  obtain ⟨u25a, u25b⟩ := and_e u24b
  obtain ⟨u26a, u26b⟩ := and_e u25b
  obtain ⟨u27a, u27b⟩ := and_e u26b
  obtain ⟨u28a, u28b⟩ := and_e u27b
  obtain ⟨u29a, u29b⟩ := and_e u28b
  obtain ⟨u30a, u30b⟩ := and_e u29b
  obtain ⟨u31a, u31b⟩ := and_e u30b
  obtain ⟨u32a, u32b⟩ := and_e u31b
  obtain ⟨u33a, u33b⟩ := and_e u32b
  obtain ⟨u34a, u34b⟩ := and_e u33b
  obtain ⟨u35a, u35b⟩ := and_e u34b
  obtain ⟨u36a, u36b⟩ := and_e u35b
  obtain ⟨u37a, u37b⟩ := and_e u36b
  obtain ⟨u38a, u38b⟩ := and_e u37b
  obtain ⟨u39a, u39b⟩ := and_e u38b
  obtain ⟨u40a, u40b⟩ := and_e u39b
  obtain ⟨u41a, u41b⟩ := and_e u40b
  obtain ⟨u42a, u42b⟩ := and_e u41b
  obtain ⟨u43a, u43b⟩ := and_e u42b
  obtain ⟨a_ANY_ATOMIC_TYPE, ev_ANY_ATOMIC_TYPE⟩ := exa_v u1a
  have S_ANY_ATOMIC_TYPE := Sta.start ev_ANY_ATOMIC_TYPE (Or.inr ⟨(hw _ (List.mem_of_getElem? (i := 6) rfl)), (hw _ (List.mem_of_getElem? (i := 7) rfl))⟩)
  have E_ANY_ATOMIC_TYPE := Exa.start ev_ANY_ATOMIC_TYPE u1a
  have F_ANY_ATOMIC_TYPE_ordinal := own_fld ev_ANY_ATOMIC_TYPE u4a
  obtain ⟨a_UNTYPED_ATOMIC, ev_UNTYPED_ATOMIC⟩ := exa_v u2a
  have S_UNTYPED_ATOMIC := Sta.start ev_UNTYPED_ATOMIC (Or.inr ⟨(hw _ (List.mem_of_getElem? (i := 6) rfl)), (hw _ (List.mem_of_getElem? (i := 15) rfl))⟩)
  have E_UNTYPED_ATOMIC := Exa.start ev_UNTYPED_ATOMIC u2a
  have F_UNTYPED_ATOMIC_ordinal := own_fld ev_UNTYPED_ATOMIC u3a
  obtain ⟨a_NOTATION, ev_NOTATION⟩ := exa_v u5a
  have S_NOTATION := Sta.start ev_NOTATION (Or.inr ⟨(hw _ (List.mem_of_getElem? (i := 6) rfl)), (hw _ (List.mem_of_getElem? (i := 17) rfl))⟩)
  have E_NOTATION := Exa.start ev_NOTATION u5a
  have F_NOTATION_ordinal := own_fld ev_NOTATION u6a
  obtain ⟨a_FLOAT, ev_FLOAT⟩ := exa_v u7a
  have S_FLOAT := Sta.start ev_FLOAT (Or.inr ⟨(hw _ (List.mem_of_getElem? (i := 6) rfl)), (hw _ (List.mem_of_getElem? (i := 19) rfl))⟩)
  have E_FLOAT := Exa.start ev_FLOAT u7a
  have F_FLOAT_ordinal := own_fld ev_FLOAT u8a
  obtain ⟨a_DOUBLE, ev_DOUBLE⟩ := exa_v u9a
  have S_DOUBLE := Sta.start ev_DOUBLE (Or.inr ⟨(hw _ (List.mem_of_getElem? (i := 6) rfl)), (hw _ (List.mem_of_getElem? (i := 21) rfl))⟩)
  have E_DOUBLE := Exa.start ev_DOUBLE u9a
  have F_DOUBLE_ordinal := own_fld ev_DOUBLE u10a
  obtain ⟨a_STRING, ev_STRING⟩ := exa_v u11a
  have S_STRING := Sta.start ev_STRING (Or.inr ⟨(hw _ (List.mem_of_getElem? (i := 6) rfl)), (hw _ (List.mem_of_getElem? (i := 23) rfl))⟩)
  have E_STRING := Exa.start ev_STRING u11a
  have F_STRING_ordinal := own_fld ev_STRING u12a
  obtain ⟨a_NEGATIVE_INTEGER, ev_NEGATIVE_INTEGER⟩ := exa_v u13a
  have S_NEGATIVE_INTEGER := Sta.start ev_NEGATIVE_INTEGER (Or.inr ⟨(hw _ (List.mem_of_getElem? (i := 6) rfl)), (hw _ (List.mem_of_getElem? (i := 25) rfl))⟩)
  have E_NEGATIVE_INTEGER := Exa.start ev_NEGATIVE_INTEGER u13a
  have F_NEGATIVE_INTEGER_ordinal := own_fld ev_NEGATIVE_INTEGER u14a
  obtain ⟨a_NON_POSITIVE_INTEGER, ev_NON_POSITIVE_INTEGER⟩ := exa_v u15a
  have S_NON_POSITIVE_INTEGER := Sta.start ev_NON_POSITIVE_INTEGER (Or.inr ⟨(hw _ (List.mem_of_getElem? (i := 6) rfl)), (hw _ (List.mem_of_getElem? (i := 27) rfl))⟩)
  have E_NON_POSITIVE_INTEGER := Exa.start ev_NON_POSITIVE_INTEGER u15a
  have F_NON_POSITIVE_INTEGER_ordinal := own_fld ev_NON_POSITIVE_INTEGER u16a
  obtain ⟨a_NUMERIC, ev_NUMERIC⟩ := exa_v u17a
  have S_NUMERIC := Sta.start ev_NUMERIC (Or.inr ⟨(hw _ (List.mem_of_getElem? (i := 6) rfl)), (hw _ (List.mem_of_getElem? (i := 29) rfl))⟩)
  have E_NUMERIC := Exa.start ev_NUMERIC u17a
  have F_NUMERIC_ordinal := own_fld ev_NUMERIC u18a
  obtain ⟨a_INTEGER, ev_INTEGER⟩ := exa_v u19a
  have S_INTEGER := Sta.start ev_INTEGER (Or.inr ⟨(hw _ (List.mem_of_getElem? (i := 6) rfl)), (hw _ (List.mem_of_getElem? (i := 31) rfl))⟩)
  have E_INTEGER := Exa.start ev_INTEGER u19a
  have F_INTEGER_ordinal := own_fld ev_INTEGER u20a
  obtain ⟨a_NON_NEGATIVE_INTEGER, ev_NON_NEGATIVE_INTEGER⟩ := exa_v u21a
  have S_NON_NEGATIVE_INTEGER := Sta.start ev_NON_NEGATIVE_INTEGER (Or.inr ⟨(hw _ (List.mem_of_getElem? (i := 6) rfl)), (hw _ (List.mem_of_getElem? (i := 34) rfl))⟩)
  have E_NON_NEGATIVE_INTEGER := Exa.start ev_NON_NEGATIVE_INTEGER u21a
  have F_NON_NEGATIVE_INTEGER_ordinal := own_fld ev_NON_NEGATIVE_INTEGER u22a
  obtain ⟨a_DECIMAL, ev_DECIMAL⟩ := exa_v u23a
  have S_DECIMAL := Sta.start ev_DECIMAL (Or.inr ⟨(hw _ (List.mem_of_getElem? (i := 6) rfl)), (hw _ (List.mem_of_getElem? (i := 36) rfl))⟩)
  have E_DECIMAL := Exa.start ev_DECIMAL u23a
  have F_DECIMAL_ordinal := own_fld ev_DECIMAL u24a
  obtain ⟨a_UNSIGNED_SHORT, ev_UNSIGNED_SHORT⟩ := exa_v u25a
  have S_UNSIGNED_SHORT := Sta.start ev_UNSIGNED_SHORT (Or.inr ⟨(hw _ (List.mem_of_getElem? (i := 6) rfl)), (hw _ (List.mem_of_getElem? (i := 38) rfl))⟩)
  have E_UNSIGNED_SHORT := Exa.start ev_UNSIGNED_SHORT u25a
  have F_UNSIGNED_SHORT_ordinal := own_fld ev_UNSIGNED_SHORT u26a
  obtain ⟨a_UNSIGNED_INT, ev_UNSIGNED_INT⟩ := exa_v u27a
  have S_UNSIGNED_INT := Sta.start ev_UNSIGNED_INT (Or.inr ⟨(hw _ (List.mem_of_getElem? (i := 6) rfl)), (hw _ (List.mem_of_getElem? (i := 40) rfl))⟩)
  have E_UNSIGNED_INT := Exa.start ev_UNSIGNED_INT u27a
  have F_UNSIGNED_INT_ordinal := own_fld ev_UNSIGNED_INT u28a
  obtain ⟨a_BYTE, ev_BYTE⟩ := exa_v u29a
  have S_BYTE := Sta.start ev_BYTE (Or.inr ⟨(hw _ (List.mem_of_getElem? (i := 6) rfl)), (hw _ (List.mem_of_getElem? (i := 42) rfl))⟩)
  have E_BYTE := Exa.start ev_BYTE u29a
  have F_BYTE_ordinal := own_fld ev_BYTE u30a
  obtain ⟨a_BOOLEAN, ev_BOOLEAN⟩ := exa_v u31a
  have S_BOOLEAN := Sta.start ev_BOOLEAN (Or.inr ⟨(hw _ (List.mem_of_getElem? (i := 6) rfl)), (hw _ (List.mem_of_getElem? (i := 44) rfl))⟩)
  have E_BOOLEAN := Exa.start ev_BOOLEAN u31a
  have F_BOOLEAN_ordinal := own_fld ev_BOOLEAN u32a
  obtain ⟨a_POSITIVE_INTEGER, ev_POSITIVE_INTEGER⟩ := exa_v u33a
  have S_POSITIVE_INTEGER := Sta.start ev_POSITIVE_INTEGER (Or.inr ⟨(hw _ (List.mem_of_getElem? (i := 6) rfl)), (hw _ (List.mem_of_getElem? (i := 46) rfl))⟩)
  have E_POSITIVE_INTEGER := Exa.start ev_POSITIVE_INTEGER u33a
  have F_POSITIVE_INTEGER_ordinal := own_fld ev_POSITIVE_INTEGER u34a
  obtain ⟨a_SHORT, ev_SHORT⟩ := exa_v u35a
  have S_SHORT := Sta.start ev_SHORT (Or.inr ⟨(hw _ (List.mem_of_getElem? (i := 6) rfl)), (hw _ (List.mem_of_getElem? (i := 48) rfl))⟩)
  have E_SHORT := Exa.start ev_SHORT u35a
  have F_SHORT_ordinal := own_fld ev_SHORT u36a
  obtain ⟨a_LONG, ev_LONG⟩ := exa_v u37a
  have S_LONG := Sta.start ev_LONG (Or.inr ⟨(hw _ (List.mem_of_getElem? (i := 6) rfl)), (hw _ (List.mem_of_getElem? (i := 50) rfl))⟩)
  have E_LONG := Exa.start ev_LONG u37a
  have F_LONG_ordinal := own_fld ev_LONG u38a
  obtain ⟨a_INT, ev_INT⟩ := exa_v u39a
  have S_INT := Sta.start ev_INT (Or.inr ⟨(hw _ (List.mem_of_getElem? (i := 6) rfl)), (hw _ (List.mem_of_getElem? (i := 52) rfl))⟩)
  have E_INT := Exa.start ev_INT u39a
  have F_INT_ordinal := own_fld ev_INT u40a
  obtain ⟨a_UNSIGNED_LONG, ev_UNSIGNED_LONG⟩ := exa_v u41a
  have S_UNSIGNED_LONG := Sta.start ev_UNSIGNED_LONG (Or.inr ⟨(hw _ (List.mem_of_getElem? (i := 6) rfl)), (hw _ (List.mem_of_getElem? (i := 54) rfl))⟩)
  have E_UNSIGNED_LONG := Exa.start ev_UNSIGNED_LONG u41a
  have F_UNSIGNED_LONG_ordinal := own_fld ev_UNSIGNED_LONG u42a
  obtain ⟨a_UNSIGNED_BYTE, ev_UNSIGNED_BYTE⟩ := exa_v u43a
  have S_UNSIGNED_BYTE := Sta.start ev_UNSIGNED_BYTE (Or.inr ⟨(hw _ (List.mem_of_getElem? (i := 6) rfl)), (hw _ (List.mem_of_getElem? (i := 56) rfl))⟩)
  have E_UNSIGNED_BYTE := Exa.start ev_UNSIGNED_BYTE u43a
  have F_UNSIGNED_BYTE_ordinal := own_fld ev_UNSIGNED_BYTE u43b
  obtain ⟨n, o, h1, h2, h3, _, L, rfl, ⟨rfl, N⟩, hq⟩ := rm0 l s _ hw tables_1 i0 a_ANY_ATOMIC_TYPE a_UNTYPED_ATOMIC a_NOTATION a_FLOAT a_DOUBLE a_STRING a_NEGATIVE_INTEGER a_NON_POSITIVE_INTEGER a_NUMERIC a_INTEGER a_NON_NEGATIVE_INTEGER a_DECIMAL a_UNSIGNED_SHORT a_UNSIGNED_INT a_BYTE a_BOOLEAN a_POSITIVE_INTEGER a_SHORT a_LONG a_INT a_UNSIGNED_LONG a_UNSIGNED_BYTE s.heap s.heap.size (Nat.le_refl _) S_ANY_ATOMIC_TYPE E_ANY_ATOMIC_TYPE F_ANY_ATOMIC_TYPE_ordinal S_UNTYPED_ATOMIC E_UNTYPED_ATOMIC F_UNTYPED_ATOMIC_ordinal S_NOTATION E_NOTATION F_NOTATION_ordinal S_FLOAT E_FLOAT F_FLOAT_ordinal S_DOUBLE E_DOUBLE F_DOUBLE_ordinal S_STRING E_STRING F_STRING_ordinal S_NEGATIVE_INTEGER E_NEGATIVE_INTEGER F_NEGATIVE_INTEGER_ordinal S_NON_POSITIVE_INTEGER E_NON_POSITIVE_INTEGER F_NON_POSITIVE_INTEGER_ordinal S_NUMERIC E_NUMERIC F_NUMERIC_ordinal S_INTEGER E_INTEGER F_INTEGER_ordinal S_NON_NEGATIVE_INTEGER E_NON_NEGATIVE_INTEGER F_NON_NEGATIVE_INTEGER_ordinal S_DECIMAL E_DECIMAL F_DECIMAL_ordinal S_UNSIGNED_SHORT E_UNSIGNED_SHORT F_UNSIGNED_SHORT_ordinal S_UNSIGNED_INT E_UNSIGNED_INT F_UNSIGNED_INT_ordinal S_BYTE E_BYTE F_BYTE_ordinal S_BOOLEAN E_BOOLEAN F_BOOLEAN_ordinal S_POSITIVE_INTEGER E_POSITIVE_INTEGER F_POSITIVE_INTEGER_ordinal S_SHORT E_SHORT F_SHORT_ordinal S_LONG E_LONG F_LONG_ordinal S_INT E_INT F_INT_ordinal S_UNSIGNED_LONG E_UNSIGNED_LONG F_UNSIGNED_LONG_ordinal S_UNSIGNED_BYTE E_UNSIGNED_BYTE F_UNSIGNED_BYTE_ordinal p e ha hc hk s m _ below hf ((Spec.applies_iff_loose hf).mp happ).1 ⟨rfl, State.Warmed39.refl s, rfl⟩ trivial
  refine ⟨n, _, h1, h2, h3, hpost _ _ _ _ _ _ ⟨Cond.after_iff.mpr rfl, Cond.after_iff.mpr (eq_i res_at (Term.int_eval (1)) rfl), trivial⟩ ⟨hq.1, hq.2.1, (hq.2.2.sift fun y hy => Or.inr (N y hy)).mono (by decide) (by decide)⟩⟩
theorem main_1_1 : Claimed_1_1 := comes_1 fun _ _ _ _ _ _ h hF => ⟨h.1, hF⟩
theorem main_1_2 : Claimed_1_2 := comes_1 fun _ _ _ _ _ _ h hF => ⟨h.2.1, hF⟩
end Jvm.Pilot.@@N@@
namespace Jvm.Pilot.@@N@@
open Jvm Jvm.ClassFile Sem Op Lib Jvm.Free Jvm.Stand Jvm.Pilot.@@N@@.Jvm.D
/-! MADE BY PROGRAM (witnessworld.py) out of the Statement's table words and the real class files: 12 classes; the members and pool entries that the words name. The judged class is class 1, her method 1. -/
namespace start1
open Jvm.ClassFile
def u (s : String) : CpInfo := .utf8 (stringToUtf16 s)
/-- a pool by its gaps: so many unusable entries, then the entry; so many at the end -/
def gap : Nat → List CpInfo → List CpInfo
  | 0, r => r
  | n + 1, r => .unusable :: gap n r
def poolList (es : List (Nat × CpInfo)) (last : Nat) : List CpInfo := es.foldr (fun e r => gap e.1 (e.2 :: r)) (gap last [])
def pool (es : List (Nat × CpInfo)) (last : Nat) : Array CpInfo := ⟨poolList es last⟩
def fileOf (pool : Array CpInfo) (this : Nat) (attrs : Array Attribute := #[]) (ms : Array MethodInfo := #[]) (fl : Nat := 33) (sup : Nat := 0) (ifs : Array Nat := #[]) (fds : Array FieldInfo := #[]) : ClassFile where
  minorVersion := 0
  majorVersion := 65
  constantPool := pool
  accessFlags := fl
  thisClass := this
  superClass := sup
  interfaces := ifs
  fields := fds
  methods := ms
  attributes := attrs
def plain (name : String) (sup : Option ClassId) : Class where
  name := name
  kind := .ordinary
  loader := none
  accessFlags := 33
  super := sup
  interfaces := #[]
  cf := none
  fields := #[]
  methods := #[]
  instanceTypes := #[]
  staticTypes := #[]
  resolved := #[]
  callSites := []
  init := .initialized
  statics := none
  mirror := none

def pool0 : Array CpInfo := pool [(5, u "<init>"), (0, u "()V"), (1, .class_ 10), (1, u "java/lang/Object")] 113

def k0m0 : Method := { name := "<init>", desc := "()V", sig := { parameters := [], returnType := none }, accessFlags := 1, code := none }
/-- java/lang/Object -/
def k0 : Class := { plain "java/lang/Object" none with
  accessFlags := 33
  interfaces := #[]
  cf := some (fileOf pool0 8 #[] #[{ accessFlags := 1, nameIndex := 5, descriptorIndex := 6, attributes := #[] }] 33 0 #[] #[])
  fields := #[]
  methods := #[k0m0]
  instanceTypes := #[]
  staticTypes := #[]
  resolved := Array.replicate 124 none
  statics := none }

def pool1 : Array CpInfo := pool [(2, .class_ 4), (1, u "java/lang/Object"), (0, u "<init>"), (0, u "()V"), (0, .integer 2147483647), (0, .methodref 9 10), (0, .class_ 11), (0, .nameAndType 12 13), (0, u "com/example/abaco/abaco/core/AtomicTypeIsCastTargetPinLaw"), (0, u "pick"), (0, u "(I)Lcom/example/abaco/abaco/core/AtomicType;"), (0, .methodref 15 16), (0, .class_ 17), (0, .nameAndType 18 19), (0, u "com/example/abaco/abaco/core/AtomicType"), (0, u "isCastTarget"), (0, u "()Z"), (0, .fieldref 15 21), (0, .nameAndType 22 23), (0, u "ANY_ATOMIC_TYPE"), (0, u "Lcom/example/abaco/abaco/core/AtomicType;"), (0, .fieldref 15 25), (0, .nameAndType 26 23), (0, u "NUMERIC"), (0, .fieldref 15 28), (0, .nameAndType 29 23), (0, u "STRING"), (0, .fieldref 15 31), (0, .nameAndType 32 23), (0, u "UNTYPED_ATOMIC"), (0, .fieldref 15 34), (0, .nameAndType 35 23), (0, u "BOOLEAN"), (0, .fieldref 15 37), (0, .nameAndType 38 23), (0, u "NOTATION"), (0, .fieldref 15 40), (0, .nameAndType 41 23), (0, u "DECIMAL"), (0, .fieldref 15 43), (0, .nameAndType 44 23), (0, u "FLOAT"), (0, .fieldref 15 46), (0, .nameAndType 47 23), (0, u "DOUBLE"), (0, .fieldref 15 49), (0, .nameAndType 50 23), (0, u "INTEGER"), (0, .fieldref 15 52), (0, .nameAndType 53 23), (0, u "NON_POSITIVE_INTEGER"), (0, .fieldref 15 55), (0, .nameAndType 56 23), (0, u "NEGATIVE_INTEGER"), (0, .fieldref 15 58), (0, .nameAndType 59 23), (0, u "LONG"), (0, .fieldref 15 61), (0, .nameAndType 62 23), (0, u "INT"), (0, .fieldref 15 64), (0, .nameAndType 65 23), (0, u "SHORT"), (0, .fieldref 15 67), (0, .nameAndType 68 23), (0, u "BYTE"), (0, .fieldref 15 70), (0, .nameAndType 71 23), (0, u "NON_NEGATIVE_INTEGER"), (0, .fieldref 15 73), (0, .nameAndType 74 23), (0, u "UNSIGNED_LONG"), (0, .fieldref 15 76), (0, .nameAndType 77 23), (0, u "UNSIGNED_INT"), (0, .fieldref 15 79), (0, .nameAndType 80 23), (0, u "UNSIGNED_SHORT"), (0, .fieldref 15 82), (0, .nameAndType 83 23), (0, u "UNSIGNED_BYTE"), (0, .fieldref 15 85), (0, .nameAndType 86 23), (0, u "POSITIVE_INTEGER"), (2, u "law"), (0, u "(I)Z")] 3

def k1m0 : Method := { name := "<init>", desc := "()V", sig := { parameters := [], returnType := none }, accessFlags := 1, code := none }
def k1c1 : Code := { maxStack := 2, maxLocals := 4, code := code, exceptionTable := #[], attributes := #[] }
def k1m1 : Method := { name := "law", desc := "(I)Z", sig := { parameters := [.int], returnType := some .boolean }, accessFlags := 9, code := some k1c1 }
def k1c2 : Code := { maxStack := 2, maxLocals := 1, code := method_3_code, exceptionTable := #[], attributes := #[] }
def k1m2 : Method := { name := "pick", desc := "(I)Lcom/example/abaco/abaco/core/AtomicType;", sig := { parameters := [.int], returnType := some (.object "com/example/abaco/abaco/core/AtomicType") }, accessFlags := 10, code := some k1c2 }
/-- com/example/abaco/abaco/core/AtomicTypeIsCastTargetPinLaw -/
def k1 : Class := { plain "com/example/abaco/abaco/core/AtomicTypeIsCastTargetPinLaw" (some 0) with
  accessFlags := 49
  interfaces := #[]
  cf := some (fileOf pool1 9 #[] #[{ accessFlags := 1, nameIndex := 5, descriptorIndex := 6, attributes := #[] }, { accessFlags := 9, nameIndex := 89, descriptorIndex := 90, attributes := #[] }, { accessFlags := 10, nameIndex := 12, descriptorIndex := 13, attributes := #[] }] 49 2 #[] #[])
  fields := #[]
  methods := #[k1m0, k1m1, k1m2]
  instanceTypes := #[]
  staticTypes := #[]
  resolved := Array.replicate 94 none
  statics := none }

def pool2 : Array CpInfo := pool [(1, .class_ 2), (0, u "java/lang/constant/Constable"), (0, .class_ 4), (0, u "java/lang/Object")] 6

/-- java/lang/constant/Constable -/
def k2 : Class := { plain "java/lang/constant/Constable" (some 0) with
  accessFlags := 1537
  interfaces := #[]
  cf := some (fileOf pool2 1 #[] #[] 1537 3 #[] #[])
  fields := #[]
  methods := #[]
  instanceTypes := #[]
  staticTypes := #[]
  resolved := Array.replicate 11 none
  statics := none }

def pool3 : Array CpInfo := pool [(1, .class_ 2), (0, u "java/lang/Comparable"), (0, .class_ 4), (0, u "java/lang/Object")] 7

/-- java/lang/Comparable -/
def k3 : Class := { plain "java/lang/Comparable" (some 0) with
  accessFlags := 1537
  interfaces := #[]
  cf := some (fileOf pool3 1 #[] #[] 1537 3 #[] #[])
  fields := #[]
  methods := #[]
  instanceTypes := #[]
  staticTypes := #[]
  resolved := Array.replicate 12 none
  statics := none }

def pool4 : Array CpInfo := pool [(1, .class_ 2), (0, u "java/io/Serializable"), (0, .class_ 4), (0, u "java/lang/Object")] 2

/-- java/io/Serializable -/
def k4 : Class := { plain "java/io/Serializable" (some 0) with
  accessFlags := 1537
  interfaces := #[]
  cf := some (fileOf pool4 1 #[] #[] 1537 3 #[] #[])
  fields := #[]
  methods := #[]
  instanceTypes := #[]
  staticTypes := #[]
  resolved := Array.replicate 7 none
  statics := none }

def pool5 : Array CpInfo := pool [(2, .class_ 4), (1, u "java/lang/Enum"), (0, u "name"), (0, u "Ljava/lang/String;"), (2, u "ordinal"), (0, u "I"), (1, .class_ 14), (1, u "java/lang/Object"), (4, u "hash"), (86, .class_ 108), (1, u "java/lang/Enum$EnumDesc"), (2, .class_ 112), (0, u "java/lang/constant/Constable"), (0, .class_ 114), (0, u "java/lang/Comparable"), (0, .class_ 116), (0, u "java/io/Serializable")] 87

/-- java/lang/Enum -/
def k5 : Class := { plain "java/lang/Enum" (some 0) with
  accessFlags := 1057
  interfaces := #[2, 3, 4]
  cf := some (fileOf pool5 2 #[.nestMembers #[106]] #[] 1057 12 #[111, 113, 115] #[{ accessFlags := 18, nameIndex := 5, descriptorIndex := 6, attributes := #[] }, { accessFlags := 18, nameIndex := 9, descriptorIndex := 10, attributes := #[] }, { accessFlags := 2, nameIndex := 19, descriptorIndex := 10, attributes := #[] }])
  fields := #[{ name := "name", type := (.object "java/lang/String"), accessFlags := 18, slot := 0, constantValue := 0 }, { name := "ordinal", type := .int, accessFlags := 18, slot := 1, constantValue := 0 }, { name := "hash", type := .int, accessFlags := 2, slot := 2, constantValue := 0 }]
  methods := #[]
  instanceTypes := #[(.object "java/lang/String"), .int, .int]
  staticTypes := #[]
  resolved := Array.replicate 204 none
  statics := none }

def pool6 : Array CpInfo := pool [(1, .class_ 2), (0, u "com/example/abaco/abaco/core/AtomicType"), (0, .fieldref 1 4), (0, .nameAndType 5 6), (0, u "ANY_ATOMIC_TYPE"), (0, u "Lcom/example/abaco/abaco/core/AtomicType;"), (2, u "NUMERIC"), (2, u "STRING"), (2, u "UNTYPED_ATOMIC"), (2, u "BOOLEAN"), (0, .fieldref 1 20), (0, .nameAndType 21 6), (0, u "NOTATION"), (2, u "DECIMAL"), (2, u "FLOAT"), (2, u "DOUBLE"), (2, u "INTEGER"), (2, u "NON_POSITIVE_INTEGER"), (2, u "NEGATIVE_INTEGER"), (2, u "LONG"), (2, u "INT"), (2, u "SHORT"), (2, u "BYTE"), (2, u "NON_NEGATIVE_INTEGER"), (2, u "UNSIGNED_LONG"), (2, u "UNSIGNED_INT"), (2, u "UNSIGNED_SHORT"), (2, u "UNSIGNED_BYTE"), (2, u "POSITIVE_INTEGER"), (2, u "$VALUES"), (0, u "[Lcom/example/abaco/abaco/core/AtomicType;"), (6, .class_ 82), (1, u "java/lang/Enum"), (12, u "typeName"), (0, u "Ljava/lang/String;"), (2, u "base"), (7, u "minimum"), (0, u "Ljava/math/BigInteger;"), (2, u "maximum"), (2, u "BY_NAME"), (0, u "Ljava/util/Map;"), (21, u "supertypes"), (0, u "J"), (174, u "isCastTarget"), (0, u "()Z")] 27

def k6c0 : Code := { maxStack := 2, maxLocals := 1, code := prog_146_method_7_code, exceptionTable := #[], attributes := #[] }
def k6m0 : Method := { name := "isCastTarget", desc := "()Z", sig := { parameters := [], returnType := some .boolean }, accessFlags := 1, code := some k6c0 }
/-- com/example/abaco/abaco/core/AtomicType -/
def k6 : Class := { plain "com/example/abaco/abaco/core/AtomicType" (some 5) with
  accessFlags := 16433
  interfaces := #[]
  cf := some (fileOf pool6 1 #[] #[{ accessFlags := 1, nameIndex := 313, descriptorIndex := 314, attributes := #[] }] 16433 80 #[] #[{ accessFlags := 16409, nameIndex := 5, descriptorIndex := 6, attributes := #[] }, { accessFlags := 16409, nameIndex := 9, descriptorIndex := 6, attributes := #[] }, { accessFlags := 16409, nameIndex := 12, descriptorIndex := 6, attributes := #[] }, { accessFlags := 16409, nameIndex := 15, descriptorIndex := 6, attributes := #[] }, { accessFlags := 16409, nameIndex := 18, descriptorIndex := 6, attributes := #[] }, { accessFlags := 16409, nameIndex := 21, descriptorIndex := 6, attributes := #[] }, { accessFlags := 16409, nameIndex := 24, descriptorIndex := 6, attributes := #[] }, { accessFlags := 16409, nameIndex := 27, descriptorIndex := 6, attributes := #[] }, { accessFlags := 16409, nameIndex := 30, descriptorIndex := 6, attributes := #[] }, { accessFlags := 16409, nameIndex := 33, descriptorIndex := 6, attributes := #[] }, { accessFlags := 16409, nameIndex := 36, descriptorIndex := 6, attributes := #[] }, { accessFlags := 16409, nameIndex := 39, descriptorIndex := 6, attributes := #[] }, { accessFlags := 16409, nameIndex := 42, descriptorIndex := 6, attributes := #[] }, { accessFlags := 16409, nameIndex := 45, descriptorIndex := 6, attributes := #[] }, { accessFlags := 16409, nameIndex := 48, descriptorIndex := 6, attributes := #[] }, { accessFlags := 16409, nameIndex := 51, descriptorIndex := 6, attributes := #[] }, { accessFlags := 16409, nameIndex := 54, descriptorIndex := 6, attributes := #[] }, { accessFlags := 16409, nameIndex := 57, descriptorIndex := 6, attributes := #[] }, { accessFlags := 16409, nameIndex := 60, descriptorIndex := 6, attributes := #[] }, { accessFlags := 16409, nameIndex := 63, descriptorIndex := 6, attributes := #[] }, { accessFlags := 16409, nameIndex := 66, descriptorIndex := 6, attributes := #[] }, { accessFlags := 16409, nameIndex := 69, descriptorIndex := 6, attributes := #[] }, { accessFlags := 26, nameIndex := 114, descriptorIndex := 115, attributes := #[] }, { accessFlags := 18, nameIndex := 95, descriptorIndex := 96, attributes := #[] }, { accessFlags := 18, nameIndex := 99, descriptorIndex := 6, attributes := #[] }, { accessFlags := 18, nameIndex := 107, descriptorIndex := 108, attributes := #[] }, { accessFlags := 18, nameIndex := 111, descriptorIndex := 108, attributes := #[] }, { accessFlags := 2, nameIndex := 137, descriptorIndex := 138, attributes := #[] }, { accessFlags := 4122, nameIndex := 72, descriptorIndex := 73, attributes := #[] }])
  fields := #[{ name := "ANY_ATOMIC_TYPE", type := (.object "com/example/abaco/abaco/core/AtomicType"), accessFlags := 16409, slot := 0, constantValue := 0 }, { name := "NUMERIC", type := (.object "com/example/abaco/abaco/core/AtomicType"), accessFlags := 16409, slot := 1, constantValue := 0 }, { name := "STRING", type := (.object "com/example/abaco/abaco/core/AtomicType"), accessFlags := 16409, slot := 2, constantValue := 0 }, { name := "UNTYPED_ATOMIC", type := (.object "com/example/abaco/abaco/core/AtomicType"), accessFlags := 16409, slot := 3, constantValue := 0 }, { name := "BOOLEAN", type := (.object "com/example/abaco/abaco/core/AtomicType"), accessFlags := 16409, slot := 4, constantValue := 0 }, { name := "NOTATION", type := (.object "com/example/abaco/abaco/core/AtomicType"), accessFlags := 16409, slot := 5, constantValue := 0 }, { name := "DECIMAL", type := (.object "com/example/abaco/abaco/core/AtomicType"), accessFlags := 16409, slot := 6, constantValue := 0 }, { name := "FLOAT", type := (.object "com/example/abaco/abaco/core/AtomicType"), accessFlags := 16409, slot := 7, constantValue := 0 }, { name := "DOUBLE", type := (.object "com/example/abaco/abaco/core/AtomicType"), accessFlags := 16409, slot := 8, constantValue := 0 }, { name := "INTEGER", type := (.object "com/example/abaco/abaco/core/AtomicType"), accessFlags := 16409, slot := 9, constantValue := 0 }, { name := "NON_POSITIVE_INTEGER", type := (.object "com/example/abaco/abaco/core/AtomicType"), accessFlags := 16409, slot := 10, constantValue := 0 }, { name := "NEGATIVE_INTEGER", type := (.object "com/example/abaco/abaco/core/AtomicType"), accessFlags := 16409, slot := 11, constantValue := 0 }, { name := "LONG", type := (.object "com/example/abaco/abaco/core/AtomicType"), accessFlags := 16409, slot := 12, constantValue := 0 }, { name := "INT", type := (.object "com/example/abaco/abaco/core/AtomicType"), accessFlags := 16409, slot := 13, constantValue := 0 }, { name := "SHORT", type := (.object "com/example/abaco/abaco/core/AtomicType"), accessFlags := 16409, slot := 14, constantValue := 0 }, { name := "BYTE", type := (.object "com/example/abaco/abaco/core/AtomicType"), accessFlags := 16409, slot := 15, constantValue := 0 }, { name := "NON_NEGATIVE_INTEGER", type := (.object "com/example/abaco/abaco/core/AtomicType"), accessFlags := 16409, slot := 16, constantValue := 0 }, { name := "UNSIGNED_LONG", type := (.object "com/example/abaco/abaco/core/AtomicType"), accessFlags := 16409, slot := 17, constantValue := 0 }, { name := "UNSIGNED_INT", type := (.object "com/example/abaco/abaco/core/AtomicType"), accessFlags := 16409, slot := 18, constantValue := 0 }, { name := "UNSIGNED_SHORT", type := (.object "com/example/abaco/abaco/core/AtomicType"), accessFlags := 16409, slot := 19, constantValue := 0 }, { name := "UNSIGNED_BYTE", type := (.object "com/example/abaco/abaco/core/AtomicType"), accessFlags := 16409, slot := 20, constantValue := 0 }, { name := "POSITIVE_INTEGER", type := (.object "com/example/abaco/abaco/core/AtomicType"), accessFlags := 16409, slot := 21, constantValue := 0 }, { name := "BY_NAME", type := (.object "java/util/Map"), accessFlags := 26, slot := 22, constantValue := 0 }, { name := "typeName", type := (.object "java/lang/String"), accessFlags := 18, slot := 3, constantValue := 0 }, { name := "base", type := (.object "com/example/abaco/abaco/core/AtomicType"), accessFlags := 18, slot := 4, constantValue := 0 }, { name := "minimum", type := (.object "java/math/BigInteger"), accessFlags := 18, slot := 5, constantValue := 0 }, { name := "maximum", type := (.object "java/math/BigInteger"), accessFlags := 18, slot := 6, constantValue := 0 }, { name := "supertypes", type := .long, accessFlags := 2, slot := 7, constantValue := 0 }, { name := "$VALUES", type := (.array (.object "com/example/abaco/abaco/core/AtomicType")), accessFlags := 4122, slot := 23, constantValue := 0 }]
  methods := #[k6m0]
  instanceTypes := #[(.object "java/lang/String"), .int, .int, (.object "java/lang/String"), (.object "com/example/abaco/abaco/core/AtomicType"), (.object "java/math/BigInteger"), (.object "java/math/BigInteger"), .long]
  staticTypes := #[(.object "com/example/abaco/abaco/core/AtomicType"), (.object "com/example/abaco/abaco/core/AtomicType"), (.object "com/example/abaco/abaco/core/AtomicType"), (.object "com/example/abaco/abaco/core/AtomicType"), (.object "com/example/abaco/abaco/core/AtomicType"), (.object "com/example/abaco/abaco/core/AtomicType"), (.object "com/example/abaco/abaco/core/AtomicType"), (.object "com/example/abaco/abaco/core/AtomicType"), (.object "com/example/abaco/abaco/core/AtomicType"), (.object "com/example/abaco/abaco/core/AtomicType"), (.object "com/example/abaco/abaco/core/AtomicType"), (.object "com/example/abaco/abaco/core/AtomicType"), (.object "com/example/abaco/abaco/core/AtomicType"), (.object "com/example/abaco/abaco/core/AtomicType"), (.object "com/example/abaco/abaco/core/AtomicType"), (.object "com/example/abaco/abaco/core/AtomicType"), (.object "com/example/abaco/abaco/core/AtomicType"), (.object "com/example/abaco/abaco/core/AtomicType"), (.object "com/example/abaco/abaco/core/AtomicType"), (.object "com/example/abaco/abaco/core/AtomicType"), (.object "com/example/abaco/abaco/core/AtomicType"), (.object "com/example/abaco/abaco/core/AtomicType"), (.object "java/util/Map"), (.array (.object "com/example/abaco/abaco/core/AtomicType"))]
  resolved := Array.replicate 342 none
  statics := some 0 }

def pool7 : Array CpInfo := pool [(1, u "java/lang/Cloneable"), (0, .class_ 1), (0, u "java/lang/Object"), (0, .class_ 3)] 3

/-- java/lang/Cloneable -/
def k7 : Class := { plain "java/lang/Cloneable" (some 0) with
  accessFlags := 1537
  interfaces := #[]
  cf := some (fileOf pool7 2 #[] #[] 1537 4 #[] #[])
  fields := #[]
  methods := #[]
  instanceTypes := #[]
  staticTypes := #[]
  resolved := Array.replicate 8 none
  statics := none }

/-- the primitive byte -/
def k8 : Class := { plain "byte" none with kind := .primitive 'B', accessFlags := 0x411 }
/-- [B -/
def k9 : Class := { plain "[B" (some 0) with kind := .array 8 .byte, interfaces := #[7, 4], accessFlags := 1041 }

/-- the primitive int -/
def k10 : Class := { plain "int" none with kind := .primitive 'I', accessFlags := 0x411 }
/-- [I -/
def k11 : Class := { plain "[I" (some 0) with kind := .array 10 .int, interfaces := #[7, 4], accessFlags := 1041 }

def heap : Heap := #[{ cls := 6, slots := #[.ref 1, .ref 9, .ref 6, .ref 2, .ref 16, .ref 3, .ref 12, .ref 4, .ref 5, .ref 10, .ref 8, .ref 7, .ref 19, .ref 20, .ref 18, .ref 15, .ref 11, .ref 21, .ref 14, .ref 13, .ref 22, .ref 17, .null, .null], vm := .statics 6 },
  { cls := 6, slots := #[.null, .int 0, .int 0, .null, .null, .null, .null, .long 0], vm := .none },
  { cls := 6, slots := #[.null, .int 3, .int 0, .null, .null, .null, .null, .long 0], vm := .none },
  { cls := 6, slots := #[.null, .int 5, .int 0, .null, .null, .null, .null, .long 0], vm := .none },
  { cls := 6, slots := #[.null, .int 7, .int 0, .null, .null, .null, .null, .long 0], vm := .none },
  { cls := 6, slots := #[.null, .int 8, .int 0, .null, .null, .null, .null, .long 0], vm := .none },
  { cls := 6, slots := #[.null, .int 2, .int 0, .null, .null, .null, .null, .long 0], vm := .none },
  { cls := 6, slots := #[.null, .int 11, .int 0, .null, .null, .null, .null, .long 0], vm := .none },
  { cls := 6, slots := #[.null, .int 10, .int 0, .null, .null, .null, .null, .long 0], vm := .none },
  { cls := 6, slots := #[.null, .int 1, .int 0, .null, .null, .null, .null, .long 0], vm := .none },
  { cls := 6, slots := #[.null, .int 9, .int 0, .null, .null, .null, .null, .long 0], vm := .none },
  { cls := 6, slots := #[.null, .int 16, .int 0, .null, .null, .null, .null, .long 0], vm := .none },
  { cls := 6, slots := #[.null, .int 6, .int 0, .null, .null, .null, .null, .long 0], vm := .none },
  { cls := 6, slots := #[.null, .int 19, .int 0, .null, .null, .null, .null, .long 0], vm := .none },
  { cls := 6, slots := #[.null, .int 18, .int 0, .null, .null, .null, .null, .long 0], vm := .none },
  { cls := 6, slots := #[.null, .int 15, .int 0, .null, .null, .null, .null, .long 0], vm := .none },
  { cls := 6, slots := #[.null, .int 4, .int 0, .null, .null, .null, .null, .long 0], vm := .none },
  { cls := 6, slots := #[.null, .int 21, .int 0, .null, .null, .null, .null, .long 0], vm := .none },
  { cls := 6, slots := #[.null, .int 14, .int 0, .null, .null, .null, .null, .long 0], vm := .none },
  { cls := 6, slots := #[.null, .int 12, .int 0, .null, .null, .null, .null, .long 0], vm := .none },
  { cls := 6, slots := #[.null, .int 13, .int 0, .null, .null, .null, .null, .long 0], vm := .none },
  { cls := 6, slots := #[.null, .int 17, .int 0, .null, .null, .null, .null, .long 0], vm := .none },
  { cls := 6, slots := #[.null, .int 20, .int 0, .null, .null, .null, .null, .long 0], vm := .none }]
def classes : Array Class := #[k0, k1, k2, k3, k4, k5, k6, k7, k8, k9, k10, k11]
def interned : List (Array UInt16 × Addr) := []
def slotsUsed : Nat := 200
def theMethod : MethodId := ⟨1, 1⟩
def args0 : Array Value := #[.int 5]
def aboutOver (below : List Frame) : State where
  vm := { classes := classes, interned := interned.toArray }
  heap := heap
  slotsUsed := slotsUsed
  threads := #[{ frames := .invoking theMethod args0 :: below }]
def below0 : List Frame := [.native { method := ⟨0, 0⟩, args := #[] }]
def about1 : State := aboutOver below0
def p0 : Program := .bare "" "" ""
def e0 : Env := launch0.env 0 0 0
theorem w_frames : about1.frames = Frame.invoking theMethod args0 :: below0 := rfl
set_option maxRecDepth 65536 in
theorem w_args : argsFit about1.vm theMethod args0 = true := by decide +kernel
set_option maxRecDepth 65536 in
theorem w_heap : heapFits about1 = true := by decide +kernel
set_option maxRecDepth 65536 in
theorem w_runnable : about1.curStatus? = some .runnable := by decide +kernel
set_option maxRecDepth 65536 in
theorem w_alone : about1.alone = true := by decide +kernel
set_option maxRecDepth 65536 in
theorem w_named : about1.methodNamed? x = some theMethod := by decide +kernel
set_option maxRecDepth 65536 in
theorem w_hears : about1.hears theMethod below0 = true := by decide +kernel
set_option maxRecDepth 65536 in
theorem w_ripe : about1.ripe theMethod args0 below0 = true := by decide +kernel
theorem w_running : about1.status = .running := rfl
set_option maxRecDepth 65536 in
theorem w_room : about1.hasRoom e0.platform room_1 = true :=
  launch0.hasRoom_least _ room_1 (by decide +kernel) (by decide +kernel) (by decide +kernel) (by decide +kernel) (by decide +kernel) (by decide +kernel)
theorem allAtoms_all (ts : List Jvm.Cond) (a : Array Jvm.Value) (st : Jvm.State) : (allAtoms ts).before a st = ts.all (fun c => c.before a st) := by
  induction ts with
  | nil => rfl
  | cons c t ih =>
    show (Jvm.Cond.and c (allAtoms t)).before a st = _
    rw [Jvm.Cond.before_and, ih, List.all_cons]
def words1 : List Jvm.Cond := Jvm.Cond.code x code maxLocals ret :: tables_1
/-- a 'code' word, met by the world's own term for the bytes: nothing is compared byte by byte -/
theorem code_word {y : MethodName} {bytes : ByteArray} {mx : Nat} {rt : Option FieldType} {a : Array Value} {s : State} {m : MethodId} {meth : Method} {c : Code} (h1 : s.methodNamed? y = some m) (h2 : s.vm.method? m = some meth) (h3 : meth.code = some c) (h4 : c.code = bytes)
    (h5 : (c.maxLocals == mx && c.exceptionTable.isEmpty && decide (c.maxStack ≤ mostOperands) && decide (meth.sig.returnType = rt) && !meth.locks && decide (parseMethodDescriptor y.desc = some meth.sig)) = true) : (Jvm.Cond.code y bytes mx rt).before a s = true := by
  simp only [Bool.and_eq_true, beq_iff_eq, Bool.not_eq_true', decide_eq_true_eq] at h5
  obtain ⟨⟨⟨⟨⟨g1, g2⟩, g3⟩, g4⟩, g5⟩, g6⟩ := h5
  simp [Cond.before, Cond.holds, Cond.value, h1, h2, h3, h4, g1, g2, g3, g4, g5, g6]
def isCode : Jvm.Cond → Bool
  | .code _ _ _ _ => true
  | _ => false
theorem all_split {L : List Jvm.Cond} {P : Jvm.Cond → Bool} (h1 : L.all (fun c => isCode c || P c) = true) (h2 : ∀ c ∈ L.filter isCode, P c = true) : L.all P = true := by
  refine List.all_eq_true.mpr fun c hc => ?_
  have h := List.all_eq_true.mp h1 c hc
  rcases Bool.eq_false_or_eq_true (isCode c) with hi | hi
  · exact h2 c (List.mem_filter.mpr ⟨hc, hi⟩)
  · simpa [hi] using h
set_option maxRecDepth 65536 in
theorem w_c0 : (Jvm.Cond.code x code maxLocals ret).before args0 about1 = true := code_word (m := ⟨1, 1⟩) (meth := k1m1) (c := k1c1) (by decide +kernel) rfl rfl rfl (by decide +kernel)
set_option maxRecDepth 65536 in
theorem w_c1 : (Jvm.Cond.code ({ cls := "com/example/abaco/abaco/core/AtomicTypeIsCastTargetPinLaw", name := "pick", desc := "(I)Lcom/example/abaco/abaco/core/AtomicType;" } : Jvm.MethodName) method_3_code (1 : Nat) (Option.some (Jvm.ClassFile.FieldType.object "com/example/abaco/abaco/core/AtomicType"))).before args0 about1 = true := code_word (m := ⟨1, 2⟩) (meth := k1m2) (c := k1c2) (by decide +kernel) rfl rfl rfl (by decide +kernel)
set_option maxRecDepth 65536 in
theorem w_c2 : (Jvm.Cond.code ({ cls := "com/example/abaco/abaco/core/AtomicType", name := "isCastTarget", desc := "()Z" } : Jvm.MethodName) prog_146_method_7_code (1 : Nat) (Option.some Jvm.ClassFile.FieldType.boolean)).before args0 about1 = true := code_word (m := ⟨6, 0⟩) (meth := k6m0) (c := k6c0) (by decide +kernel) rfl rfl rfl (by decide +kernel)
def codes1 : List Jvm.Cond := [Jvm.Cond.code x code maxLocals ret, Jvm.Cond.code ({ cls := "com/example/abaco/abaco/core/AtomicTypeIsCastTargetPinLaw", name := "pick", desc := "(I)Lcom/example/abaco/abaco/core/AtomicType;" } : Jvm.MethodName) method_3_code (1 : Nat) (Option.some (Jvm.ClassFile.FieldType.object "com/example/abaco/abaco/core/AtomicType")), Jvm.Cond.code ({ cls := "com/example/abaco/abaco/core/AtomicType", name := "isCastTarget", desc := "()Z" } : Jvm.MethodName) prog_146_method_7_code (1 : Nat) (Option.some Jvm.ClassFile.FieldType.boolean)]
set_option maxRecDepth 65536 in
theorem codes_eq : words1.filter isCode = codes1 := rfl
theorem w_codes : ∀ c ∈ words1.filter isCode, c.before args0 about1 = true := by
  rw [codes_eq]
  intro c hc
  simp only [codes1, List.mem_cons, List.not_mem_nil, or_false] at hc
  rcases hc with rfl | rfl | rfl
  · exact w_c0
  · exact w_c1
  · exact w_c2
set_option maxRecDepth 65536 in
theorem w_t1 : (words1.take 24).all (fun c => isCode c || c.before args0 about1) = true := by decide +kernel
set_option maxRecDepth 65536 in
theorem w_t2 : ((words1.drop 24).take 24).all (fun c => isCode c || c.before args0 about1) = true := by decide +kernel
set_option maxRecDepth 65536 in
theorem w_t3 : ((words1.drop 24).drop 24).all (fun c => isCode c || c.before args0 about1) = true := by decide +kernel
theorem w_tables : (allAtoms (Jvm.Cond.code x code maxLocals ret :: tables_1)).before args0 about1 = true := by
  rw [allAtoms_all]
  show words1.all (fun c => c.before args0 about1) = true
  refine all_split ?_ w_codes
  rw [← List.take_append_drop 24 words1, List.all_append, w_t1, ← List.take_append_drop 24 (words1.drop 24), List.all_append, w_t2, w_t3]
  rfl
set_option maxRecDepth 65536 in
theorem w_case : (Jvm.Cond.and given_1 narrow_1).before args0 about1 = true := by decide +kernel
theorem w_applies : (headSpec (Jvm.Cond.code x code maxLocals ret :: tables_1) room_1).applies x e0.platform about1 = true :=
  (Spec.applies_iff w_frames).mpr ⟨w_running, w_runnable, w_alone, w_named, w_hears, w_ripe, w_room, w_tables⟩
theorem atStart : AtStart classFile x code maxLocals ret World_1 tables_1 room_1 Calls_1 rest_1 Pre_1 launch0 p0 e0 about1 theMethod args0 below0 :=
  ⟨lists_1, trivial, launch0.admits_env _ _ _, launch0.least_env, fairChoices_fair.cas, fairChoices_fair.clock, w_frames, w_args, w_heap, w_applies, trivial, trivial, w_case⟩
end start1
theorem witness_1 : WitnessClaimed_1 := ⟨start1.p0, start1.e0, start1.about1, start1.theMethod, start1.args0, start1.below0, start1.atStart⟩
end Jvm.Pilot.@@N@@
