import JvmDerived
import JvmDerived.Pilot.@@N@@Statement
import JvmDerived.Pilot.@@N@@Code
set_option linter.unusedVariables false
set_option linter.unusedSimpArgs false
namespace Jvm.Pilot.@@N@@
open Jvm Jvm.ClassFile Sem Op Lib Jvm.Free Jvm.Stand Jvm.LawKit Jvm.RoadKit Bundle Jvm.Pilot.@@N@@.Jvm.D
theorem own_eqi {s : State} {args : Array Value} {t : Term} {k : Int32} (h : (Jvm.Cond.eq t (Term.int k)).value args s none s [] = some true) : t.eval args s none [] s = some (.int k) := by
  obtain ⟨u, v, hu, hv, k1, k2⟩ := cmp_v (Or.inl h)
  obtain rfl : v = .int k := Option.some.inj (hv.symm.trans (Term.int_eval k))
  obtain ⟨z, rfl⟩ := k2
  rw [hu]
  simp [Cond.value, hu, hv] at h
  rw [h]
theorem own_fld {s : State} {args : Array Value} {t : Term} {C n d : String} {k : Int32} {x : Addr} (ev : t.eval args s none [] s = some (.ref x)) (h : (Jvm.Cond.eq (Term.field t C n d) (Term.int k)).value args s none s [] = some true) : Fld s s.heap x C n d (.int k) := by
  have hu := own_eqi h
  rw [fld_at ev] at hu
  exact Fld.start hu
theorem own_nn (k : Int32) : 0 ≤ (k &&& (2147483647 : Int32)).toInt := (c_and k 2147483647 (by decide)).1
theorem own_rem (x y : Int32) (d : Int) (h0 : 0 ≤ x.toInt) (hy : y.toInt = d) : (x % y).toInt = x.toInt % d := (c_irem x y d hy).1 h0
theorem own_mod25 (k : Int32) : ((k &&& (2147483647 : Int32)) % (25 : Int32)) = (0 : Int32) ∨ ((k &&& (2147483647 : Int32)) % (25 : Int32)) = (1 : Int32) ∨ ((k &&& (2147483647 : Int32)) % (25 : Int32)) = (2 : Int32) ∨ ((k &&& (2147483647 : Int32)) % (25 : Int32)) = (3 : Int32) ∨ ((k &&& (2147483647 : Int32)) % (25 : Int32)) = (4 : Int32) ∨ ((k &&& (2147483647 : Int32)) % (25 : Int32)) = (5 : Int32) ∨ ((k &&& (2147483647 : Int32)) % (25 : Int32)) = (6 : Int32) ∨ ((k &&& (2147483647 : Int32)) % (25 : Int32)) = (7 : Int32) ∨ ((k &&& (2147483647 : Int32)) % (25 : Int32)) = (8 : Int32) ∨ ((k &&& (2147483647 : Int32)) % (25 : Int32)) = (9 : Int32) ∨ ((k &&& (2147483647 : Int32)) % (25 : Int32)) = (10 : Int32) ∨ ((k &&& (2147483647 : Int32)) % (25 : Int32)) = (11 : Int32) ∨ ((k &&& (2147483647 : Int32)) % (25 : Int32)) = (12 : Int32) ∨ ((k &&& (2147483647 : Int32)) % (25 : Int32)) = (13 : Int32) ∨ ((k &&& (2147483647 : Int32)) % (25 : Int32)) = (14 : Int32) ∨ ((k &&& (2147483647 : Int32)) % (25 : Int32)) = (15 : Int32) ∨ ((k &&& (2147483647 : Int32)) % (25 : Int32)) = (16 : Int32) ∨ ((k &&& (2147483647 : Int32)) % (25 : Int32)) = (17 : Int32) ∨ ((k &&& (2147483647 : Int32)) % (25 : Int32)) = (18 : Int32) ∨ ((k &&& (2147483647 : Int32)) % (25 : Int32)) = (19 : Int32) ∨ ((k &&& (2147483647 : Int32)) % (25 : Int32)) = (20 : Int32) ∨ ((k &&& (2147483647 : Int32)) % (25 : Int32)) = (21 : Int32) ∨ ((k &&& (2147483647 : Int32)) % (25 : Int32)) = (22 : Int32) ∨ ((k &&& (2147483647 : Int32)) % (25 : Int32)) = (23 : Int32) ∨ ((k &&& (2147483647 : Int32)) % (25 : Int32)) = (24 : Int32) := by
  have h := own_rem (k &&& (2147483647 : Int32)) (25 : Int32) 25 (own_nn k) rfl
  have q : ((k &&& (2147483647 : Int32)) % (25 : Int32)).toInt = 0 ∨ ((k &&& (2147483647 : Int32)) % (25 : Int32)).toInt = 1 ∨ ((k &&& (2147483647 : Int32)) % (25 : Int32)).toInt = 2 ∨ ((k &&& (2147483647 : Int32)) % (25 : Int32)).toInt = 3 ∨ ((k &&& (2147483647 : Int32)) % (25 : Int32)).toInt = 4 ∨ ((k &&& (2147483647 : Int32)) % (25 : Int32)).toInt = 5 ∨ ((k &&& (2147483647 : Int32)) % (25 : Int32)).toInt = 6 ∨ ((k &&& (2147483647 : Int32)) % (25 : Int32)).toInt = 7 ∨ ((k &&& (2147483647 : Int32)) % (25 : Int32)).toInt = 8 ∨ ((k &&& (2147483647 : Int32)) % (25 : Int32)).toInt = 9 ∨ ((k &&& (2147483647 : Int32)) % (25 : Int32)).toInt = 10 ∨ ((k &&& (2147483647 : Int32)) % (25 : Int32)).toInt = 11 ∨ ((k &&& (2147483647 : Int32)) % (25 : Int32)).toInt = 12 ∨ ((k &&& (2147483647 : Int32)) % (25 : Int32)).toInt = 13 ∨ ((k &&& (2147483647 : Int32)) % (25 : Int32)).toInt = 14 ∨ ((k &&& (2147483647 : Int32)) % (25 : Int32)).toInt = 15 ∨ ((k &&& (2147483647 : Int32)) % (25 : Int32)).toInt = 16 ∨ ((k &&& (2147483647 : Int32)) % (25 : Int32)).toInt = 17 ∨ ((k &&& (2147483647 : Int32)) % (25 : Int32)).toInt = 18 ∨ ((k &&& (2147483647 : Int32)) % (25 : Int32)).toInt = 19 ∨ ((k &&& (2147483647 : Int32)) % (25 : Int32)).toInt = 20 ∨ ((k &&& (2147483647 : Int32)) % (25 : Int32)).toInt = 21 ∨ ((k &&& (2147483647 : Int32)) % (25 : Int32)).toInt = 22 ∨ ((k &&& (2147483647 : Int32)) % (25 : Int32)).toInt = 23 ∨ ((k &&& (2147483647 : Int32)) % (25 : Int32)).toInt = 24 := by omega
  rcases q with q | q | q | q | q | q | q | q | q | q | q | q | q | q | q | q | q | q | q | q | q | q | q | q | q
  · exact Or.inl (Int32.toInt_inj.mp (q.trans rfl))
  · exact Or.inr (Or.inl (Int32.toInt_inj.mp (q.trans rfl)))
  · exact Or.inr (Or.inr (Or.inl (Int32.toInt_inj.mp (q.trans rfl))))
  · exact Or.inr (Or.inr (Or.inr (Or.inl (Int32.toInt_inj.mp (q.trans rfl)))))
  · exact Or.inr (Or.inr (Or.inr (Or.inr (Or.inl (Int32.toInt_inj.mp (q.trans rfl))))))
  · exact Or.inr (Or.inr (Or.inr (Or.inr (Or.inr (Or.inl (Int32.toInt_inj.mp (q.trans rfl)))))))
  · exact Or.inr (Or.inr (Or.inr (Or.inr (Or.inr (Or.inr (Or.inl (Int32.toInt_inj.mp (q.trans rfl))))))))
  · exact Or.inr (Or.inr (Or.inr (Or.inr (Or.inr (Or.inr (Or.inr (Or.inl (Int32.toInt_inj.mp (q.trans rfl)))))))))
  · exact Or.inr (Or.inr (Or.inr (Or.inr (Or.inr (Or.inr (Or.inr (Or.inr (Or.inl (Int32.toInt_inj.mp (q.trans rfl))))))))))
  · exact Or.inr (Or.inr (Or.inr (Or.inr (Or.inr (Or.inr (Or.inr (Or.inr (Or.inr (Or.inl (Int32.toInt_inj.mp (q.trans rfl)))))))))))
  · exact Or.inr (Or.inr (Or.inr (Or.inr (Or.inr (Or.inr (Or.inr (Or.inr (Or.inr (Or.inr (Or.inl (Int32.toInt_inj.mp (q.trans rfl))))))))))))
  · exact Or.inr (Or.inr (Or.inr (Or.inr (Or.inr (Or.inr (Or.inr (Or.inr (Or.inr (Or.inr (Or.inr (Or.inl (Int32.toInt_inj.mp (q.trans rfl)))))))))))))
  · exact Or.inr (Or.inr (Or.inr (Or.inr (Or.inr (Or.inr (Or.inr (Or.inr (Or.inr (Or.inr (Or.inr (Or.inr (Or.inl (Int32.toInt_inj.mp (q.trans rfl))))))))))))))
  · exact Or.inr (Or.inr (Or.inr (Or.inr (Or.inr (Or.inr (Or.inr (Or.inr (Or.inr (Or.inr (Or.inr (Or.inr (Or.inr (Or.inl (Int32.toInt_inj.mp (q.trans rfl)))))))))))))))
  · exact Or.inr (Or.inr (Or.inr (Or.inr (Or.inr (Or.inr (Or.inr (Or.inr (Or.inr (Or.inr (Or.inr (Or.inr (Or.inr (Or.inr (Or.inl (Int32.toInt_inj.mp (q.trans rfl))))))))))))))))
  · exact Or.inr (Or.inr (Or.inr (Or.inr (Or.inr (Or.inr (Or.inr (Or.inr (Or.inr (Or.inr (Or.inr (Or.inr (Or.inr (Or.inr (Or.inr (Or.inl (Int32.toInt_inj.mp (q.trans rfl)))))))))))))))))
  · exact Or.inr (Or.inr (Or.inr (Or.inr (Or.inr (Or.inr (Or.inr (Or.inr (Or.inr (Or.inr (Or.inr (Or.inr (Or.inr (Or.inr (Or.inr (Or.inr (Or.inl (Int32.toInt_inj.mp (q.trans rfl))))))))))))))))))
  · exact Or.inr (Or.inr (Or.inr (Or.inr (Or.inr (Or.inr (Or.inr (Or.inr (Or.inr (Or.inr (Or.inr (Or.inr (Or.inr (Or.inr (Or.inr (Or.inr (Or.inr (Or.inl (Int32.toInt_inj.mp (q.trans rfl)))))))))))))))))))
  · exact Or.inr (Or.inr (Or.inr (Or.inr (Or.inr (Or.inr (Or.inr (Or.inr (Or.inr (Or.inr (Or.inr (Or.inr (Or.inr (Or.inr (Or.inr (Or.inr (Or.inr (Or.inr (Or.inl (Int32.toInt_inj.mp (q.trans rfl))))))))))))))))))))
  · exact Or.inr (Or.inr (Or.inr (Or.inr (Or.inr (Or.inr (Or.inr (Or.inr (Or.inr (Or.inr (Or.inr (Or.inr (Or.inr (Or.inr (Or.inr (Or.inr (Or.inr (Or.inr (Or.inr (Or.inl (Int32.toInt_inj.mp (q.trans rfl)))))))))))))))))))))
  · exact Or.inr (Or.inr (Or.inr (Or.inr (Or.inr (Or.inr (Or.inr (Or.inr (Or.inr (Or.inr (Or.inr (Or.inr (Or.inr (Or.inr (Or.inr (Or.inr (Or.inr (Or.inr (Or.inr (Or.inr (Or.inl (Int32.toInt_inj.mp (q.trans rfl))))))))))))))))))))))
  · exact Or.inr (Or.inr (Or.inr (Or.inr (Or.inr (Or.inr (Or.inr (Or.inr (Or.inr (Or.inr (Or.inr (Or.inr (Or.inr (Or.inr (Or.inr (Or.inr (Or.inr (Or.inr (Or.inr (Or.inr (Or.inr (Or.inl (Int32.toInt_inj.mp (q.trans rfl)))))))))))))))))))))))
  · exact Or.inr (Or.inr (Or.inr (Or.inr (Or.inr (Or.inr (Or.inr (Or.inr (Or.inr (Or.inr (Or.inr (Or.inr (Or.inr (Or.inr (Or.inr (Or.inr (Or.inr (Or.inr (Or.inr (Or.inr (Or.inr (Or.inr (Or.inl (Int32.toInt_inj.mp (q.trans rfl))))))))))))))))))))))))
  · exact Or.inr (Or.inr (Or.inr (Or.inr (Or.inr (Or.inr (Or.inr (Or.inr (Or.inr (Or.inr (Or.inr (Or.inr (Or.inr (Or.inr (Or.inr (Or.inr (Or.inr (Or.inr (Or.inr (Or.inr (Or.inr (Or.inr (Or.inr (Or.inl (Int32.toInt_inj.mp (q.trans rfl)))))))))))))))))))))))))
  · exact Or.inr (Or.inr (Or.inr (Or.inr (Or.inr (Or.inr (Or.inr (Or.inr (Or.inr (Or.inr (Or.inr (Or.inr (Or.inr (Or.inr (Or.inr (Or.inr (Or.inr (Or.inr (Or.inr (Or.inr (Or.inr (Or.inr (Or.inr (Or.inr (Int32.toInt_inj.mp (q.trans rfl)))))))))))))))))))))))))
def own_A (x0 x1 x2 x3 x4 x5 x6 x7 x8 x9 x10 x11 x12 x13 x14 x15 x16 x17 x18 x19 x20 x21 x22 x23 x24 : Addr) (c : Int32) : Addr := [x0, x1, x2, x3, x4, x5, x6, x7, x8, x9, x10, x11, x12, x13, x14, x15, x16, x17, x18, x19, x20, x21, x22, x23, x24].getD c.toNatClampNeg 0
def own_f (p : Int32) : Int32 := if p = (2 : Int32) then 1 else if p = (3 : Int32) then 1 else if p = (4 : Int32) then 1 else if p = (5 : Int32) then 1 else if p = (6 : Int32) then 1 else if p = (7 : Int32) then 1 else if p = (8 : Int32) then 1 else if p = (9 : Int32) then 1 else if p = (10 : Int32) then 1 else if p = (11 : Int32) then 1 else (0 : Int32)
theorem d1_0 : decode method_4_code 0 = .ok (.iload_n 0, 1) := by decide +kernel
theorem d1_1 : decode method_4_code 1 = .ok (.ifCond .ne 7, 3) := by decide +kernel
theorem d1_4 : decode method_4_code 4 = .ok (.getstatic 24, 3) := by decide +kernel
theorem d1_7 : decode method_4_code 7 = .ok (.areturn, 1) := by decide +kernel
theorem d1_8 : decode method_4_code 8 = .ok (.iload_n 0, 1) := by decide +kernel
theorem d1_9 : decode method_4_code 9 = .ok (.iconst 1, 1) := by decide +kernel
theorem d1_10 : decode method_4_code 10 = .ok (.if_icmp .ne 7, 3) := by decide +kernel
theorem d1_13 : decode method_4_code 13 = .ok (.getstatic 28, 3) := by decide +kernel
theorem d1_16 : decode method_4_code 16 = .ok (.areturn, 1) := by decide +kernel
theorem d1_17 : decode method_4_code 17 = .ok (.iload_n 0, 1) := by decide +kernel
theorem d1_18 : decode method_4_code 18 = .ok (.iconst 2, 1) := by decide +kernel
theorem d1_19 : decode method_4_code 19 = .ok (.if_icmp .ne 7, 3) := by decide +kernel
theorem d1_22 : decode method_4_code 22 = .ok (.getstatic 31, 3) := by decide +kernel
theorem d1_25 : decode method_4_code 25 = .ok (.areturn, 1) := by decide +kernel
theorem d1_26 : decode method_4_code 26 = .ok (.iload_n 0, 1) := by decide +kernel
theorem d1_27 : decode method_4_code 27 = .ok (.iconst 3, 1) := by decide +kernel
theorem d1_28 : decode method_4_code 28 = .ok (.if_icmp .ne 7, 3) := by decide +kernel
theorem d1_31 : decode method_4_code 31 = .ok (.getstatic 34, 3) := by decide +kernel
theorem d1_34 : decode method_4_code 34 = .ok (.areturn, 1) := by decide +kernel
theorem d1_35 : decode method_4_code 35 = .ok (.iload_n 0, 1) := by decide +kernel
theorem d1_36 : decode method_4_code 36 = .ok (.iconst 4, 1) := by decide +kernel
theorem d1_37 : decode method_4_code 37 = .ok (.if_icmp .ne 7, 3) := by decide +kernel
theorem d1_40 : decode method_4_code 40 = .ok (.getstatic 37, 3) := by decide +kernel
theorem d1_43 : decode method_4_code 43 = .ok (.areturn, 1) := by decide +kernel
theorem d1_44 : decode method_4_code 44 = .ok (.iload_n 0, 1) := by decide +kernel
theorem d1_45 : decode method_4_code 45 = .ok (.iconst 5, 1) := by decide +kernel
theorem d1_46 : decode method_4_code 46 = .ok (.if_icmp .ne 7, 3) := by decide +kernel
theorem d1_49 : decode method_4_code 49 = .ok (.getstatic 40, 3) := by decide +kernel
theorem d1_52 : decode method_4_code 52 = .ok (.areturn, 1) := by decide +kernel
theorem d1_53 : decode method_4_code 53 = .ok (.iload_n 0, 1) := by decide +kernel
theorem d1_54 : decode method_4_code 54 = .ok (.bipush 6, 2) := by decide +kernel
theorem d1_56 : decode method_4_code 56 = .ok (.if_icmp .ne 7, 3) := by decide +kernel
theorem d1_59 : decode method_4_code 59 = .ok (.getstatic 43, 3) := by decide +kernel
theorem d1_62 : decode method_4_code 62 = .ok (.areturn, 1) := by decide +kernel
theorem d1_63 : decode method_4_code 63 = .ok (.iload_n 0, 1) := by decide +kernel
theorem d1_64 : decode method_4_code 64 = .ok (.bipush 7, 2) := by decide +kernel
theorem d1_66 : decode method_4_code 66 = .ok (.if_icmp .ne 7, 3) := by decide +kernel
theorem d1_69 : decode method_4_code 69 = .ok (.getstatic 46, 3) := by decide +kernel
theorem d1_72 : decode method_4_code 72 = .ok (.areturn, 1) := by decide +kernel
theorem d1_73 : decode method_4_code 73 = .ok (.iload_n 0, 1) := by decide +kernel
theorem d1_74 : decode method_4_code 74 = .ok (.bipush 8, 2) := by decide +kernel
theorem d1_76 : decode method_4_code 76 = .ok (.if_icmp .ne 7, 3) := by decide +kernel
theorem d1_79 : decode method_4_code 79 = .ok (.getstatic 49, 3) := by decide +kernel
theorem d1_82 : decode method_4_code 82 = .ok (.areturn, 1) := by decide +kernel
theorem d1_83 : decode method_4_code 83 = .ok (.iload_n 0, 1) := by decide +kernel
theorem d1_84 : decode method_4_code 84 = .ok (.bipush 9, 2) := by decide +kernel
theorem d1_86 : decode method_4_code 86 = .ok (.if_icmp .ne 7, 3) := by decide +kernel
theorem d1_89 : decode method_4_code 89 = .ok (.getstatic 52, 3) := by decide +kernel
theorem d1_92 : decode method_4_code 92 = .ok (.areturn, 1) := by decide +kernel
theorem d1_93 : decode method_4_code 93 = .ok (.iload_n 0, 1) := by decide +kernel
theorem d1_94 : decode method_4_code 94 = .ok (.bipush 10, 2) := by decide +kernel
theorem d1_96 : decode method_4_code 96 = .ok (.if_icmp .ne 7, 3) := by decide +kernel
theorem d1_99 : decode method_4_code 99 = .ok (.getstatic 55, 3) := by decide +kernel
theorem d1_102 : decode method_4_code 102 = .ok (.areturn, 1) := by decide +kernel
theorem d1_103 : decode method_4_code 103 = .ok (.iload_n 0, 1) := by decide +kernel
theorem d1_104 : decode method_4_code 104 = .ok (.bipush 11, 2) := by decide +kernel
theorem d1_106 : decode method_4_code 106 = .ok (.if_icmp .ne 7, 3) := by decide +kernel
theorem d1_109 : decode method_4_code 109 = .ok (.getstatic 58, 3) := by decide +kernel
theorem d1_112 : decode method_4_code 112 = .ok (.areturn, 1) := by decide +kernel
theorem d1_113 : decode method_4_code 113 = .ok (.iload_n 0, 1) := by decide +kernel
theorem d1_114 : decode method_4_code 114 = .ok (.bipush 12, 2) := by decide +kernel
theorem d1_116 : decode method_4_code 116 = .ok (.if_icmp .ne 7, 3) := by decide +kernel
theorem d1_119 : decode method_4_code 119 = .ok (.getstatic 61, 3) := by decide +kernel
theorem d1_122 : decode method_4_code 122 = .ok (.areturn, 1) := by decide +kernel
theorem d1_123 : decode method_4_code 123 = .ok (.iload_n 0, 1) := by decide +kernel
theorem d1_124 : decode method_4_code 124 = .ok (.bipush 13, 2) := by decide +kernel
theorem d1_126 : decode method_4_code 126 = .ok (.if_icmp .ne 7, 3) := by decide +kernel
theorem d1_129 : decode method_4_code 129 = .ok (.getstatic 64, 3) := by decide +kernel
theorem d1_132 : decode method_4_code 132 = .ok (.areturn, 1) := by decide +kernel
theorem d1_133 : decode method_4_code 133 = .ok (.iload_n 0, 1) := by decide +kernel
theorem d1_134 : decode method_4_code 134 = .ok (.bipush 14, 2) := by decide +kernel
theorem d1_136 : decode method_4_code 136 = .ok (.if_icmp .ne 7, 3) := by decide +kernel
theorem d1_139 : decode method_4_code 139 = .ok (.getstatic 67, 3) := by decide +kernel
theorem d1_142 : decode method_4_code 142 = .ok (.areturn, 1) := by decide +kernel
theorem d1_143 : decode method_4_code 143 = .ok (.iload_n 0, 1) := by decide +kernel
theorem d1_144 : decode method_4_code 144 = .ok (.bipush 15, 2) := by decide +kernel
theorem d1_146 : decode method_4_code 146 = .ok (.if_icmp .ne 7, 3) := by decide +kernel
theorem d1_149 : decode method_4_code 149 = .ok (.getstatic 70, 3) := by decide +kernel
theorem d1_152 : decode method_4_code 152 = .ok (.areturn, 1) := by decide +kernel
theorem d1_153 : decode method_4_code 153 = .ok (.iload_n 0, 1) := by decide +kernel
theorem d1_154 : decode method_4_code 154 = .ok (.bipush 16, 2) := by decide +kernel
theorem d1_156 : decode method_4_code 156 = .ok (.if_icmp .ne 7, 3) := by decide +kernel
theorem d1_159 : decode method_4_code 159 = .ok (.getstatic 73, 3) := by decide +kernel
theorem d1_162 : decode method_4_code 162 = .ok (.areturn, 1) := by decide +kernel
theorem d1_163 : decode method_4_code 163 = .ok (.iload_n 0, 1) := by decide +kernel
theorem d1_164 : decode method_4_code 164 = .ok (.bipush 17, 2) := by decide +kernel
theorem d1_166 : decode method_4_code 166 = .ok (.if_icmp .ne 7, 3) := by decide +kernel
theorem d1_169 : decode method_4_code 169 = .ok (.getstatic 76, 3) := by decide +kernel
theorem d1_172 : decode method_4_code 172 = .ok (.areturn, 1) := by decide +kernel
theorem d1_173 : decode method_4_code 173 = .ok (.iload_n 0, 1) := by decide +kernel
theorem d1_174 : decode method_4_code 174 = .ok (.bipush 18, 2) := by decide +kernel
theorem d1_176 : decode method_4_code 176 = .ok (.if_icmp .ne 7, 3) := by decide +kernel
theorem d1_179 : decode method_4_code 179 = .ok (.getstatic 79, 3) := by decide +kernel
theorem d1_182 : decode method_4_code 182 = .ok (.areturn, 1) := by decide +kernel
theorem d1_183 : decode method_4_code 183 = .ok (.iload_n 0, 1) := by decide +kernel
theorem d1_184 : decode method_4_code 184 = .ok (.bipush 19, 2) := by decide +kernel
theorem d1_186 : decode method_4_code 186 = .ok (.if_icmp .ne 7, 3) := by decide +kernel
theorem d1_189 : decode method_4_code 189 = .ok (.getstatic 82, 3) := by decide +kernel
theorem d1_192 : decode method_4_code 192 = .ok (.areturn, 1) := by decide +kernel
theorem d1_193 : decode method_4_code 193 = .ok (.iload_n 0, 1) := by decide +kernel
theorem d1_194 : decode method_4_code 194 = .ok (.bipush 20, 2) := by decide +kernel
theorem d1_196 : decode method_4_code 196 = .ok (.if_icmp .ne 7, 3) := by decide +kernel
theorem d1_199 : decode method_4_code 199 = .ok (.getstatic 85, 3) := by decide +kernel
theorem d1_202 : decode method_4_code 202 = .ok (.areturn, 1) := by decide +kernel
theorem d1_203 : decode method_4_code 203 = .ok (.iload_n 0, 1) := by decide +kernel
theorem d1_204 : decode method_4_code 204 = .ok (.bipush 21, 2) := by decide +kernel
theorem d1_206 : decode method_4_code 206 = .ok (.if_icmp .ne 7, 3) := by decide +kernel
theorem d1_209 : decode method_4_code 209 = .ok (.getstatic 88, 3) := by decide +kernel
theorem d1_212 : decode method_4_code 212 = .ok (.areturn, 1) := by decide +kernel
theorem d1_213 : decode method_4_code 213 = .ok (.iload_n 0, 1) := by decide +kernel
theorem d1_214 : decode method_4_code 214 = .ok (.bipush 22, 2) := by decide +kernel
theorem d1_216 : decode method_4_code 216 = .ok (.if_icmp .ne 7, 3) := by decide +kernel
theorem d1_219 : decode method_4_code 219 = .ok (.getstatic 91, 3) := by decide +kernel
theorem d1_222 : decode method_4_code 222 = .ok (.areturn, 1) := by decide +kernel
theorem d1_223 : decode method_4_code 223 = .ok (.iload_n 0, 1) := by decide +kernel
theorem d1_224 : decode method_4_code 224 = .ok (.bipush 23, 2) := by decide +kernel
theorem d1_226 : decode method_4_code 226 = .ok (.if_icmp .ne 7, 3) := by decide +kernel
theorem d1_229 : decode method_4_code 229 = .ok (.getstatic 94, 3) := by decide +kernel
theorem d1_232 : decode method_4_code 232 = .ok (.areturn, 1) := by decide +kernel
theorem d1_233 : decode method_4_code 233 = .ok (.getstatic 97, 3) := by decide +kernel
theorem d1_236 : decode method_4_code 236 = .ok (.areturn, 1) := by decide +kernel
theorem pn_121 : plainName "com/example/safe_node_calls/safenodecalls/ic/candid/KindIsIntegerPinLaw" = true := by first | (simp [plainName, overriddenIn]; done) | decide +kernel
theorem ef_1_122 (m : MethodId) (x0 : Int32) : entryFrame m #[(.int x0)] 1 = mkF m 0 #[.val (.int x0)] [] := by first | (simp [entryFrame, mkF, argsToLocals, Value.category]; done) | rfl
def QrmKa (Z : State) (p : Int32) (A : Int32 → Addr) (h0 : Heap) (n0 : Nat) (v : Option Value) (h : Heap) (L : List Loc) : Prop := v = some (.ref (A p)) ∧ Fr n0 L ∧ h = h0
set_option maxRecDepth 65536 in
set_option maxHeartbeats 40000000 in
theorem rmKa (l : Launch) (Z : State) (a0 : Array Value) (hw : ∀ d ∈ tables_1, d.before a0 Z = true) (ws : List Jvm.Cond) (p : Int32) (A : Int32 → Addr) (h0 : Heap) (n0 : Nat) (O0 : Old Z n0 h0) (S_NULL : Sta Z Z.heap "com/example/safe_node_calls/safenodecalls/ic/candid/CandidType$Kind" "NULL" "Lcom/example/safe_node_calls/safenodecalls/ic/candid/CandidType$Kind;" (.ref (A (0 : Int32)))) (S_BOOL : Sta Z Z.heap "com/example/safe_node_calls/safenodecalls/ic/candid/CandidType$Kind" "BOOL" "Lcom/example/safe_node_calls/safenodecalls/ic/candid/CandidType$Kind;" (.ref (A (1 : Int32)))) (S_NAT : Sta Z Z.heap "com/example/safe_node_calls/safenodecalls/ic/candid/CandidType$Kind" "NAT" "Lcom/example/safe_node_calls/safenodecalls/ic/candid/CandidType$Kind;" (.ref (A (2 : Int32)))) (S_INT : Sta Z Z.heap "com/example/safe_node_calls/safenodecalls/ic/candid/CandidType$Kind" "INT" "Lcom/example/safe_node_calls/safenodecalls/ic/candid/CandidType$Kind;" (.ref (A (3 : Int32)))) (S_NAT8 : Sta Z Z.heap "com/example/safe_node_calls/safenodecalls/ic/candid/CandidType$Kind" "NAT8" "Lcom/example/safe_node_calls/safenodecalls/ic/candid/CandidType$Kind;" (.ref (A (4 : Int32)))) (S_NAT16 : Sta Z Z.heap "com/example/safe_node_calls/safenodecalls/ic/candid/CandidType$Kind" "NAT16" "Lcom/example/safe_node_calls/safenodecalls/ic/candid/CandidType$Kind;" (.ref (A (5 : Int32)))) (S_NAT32 : Sta Z Z.heap "com/example/safe_node_calls/safenodecalls/ic/candid/CandidType$Kind" "NAT32" "Lcom/example/safe_node_calls/safenodecalls/ic/candid/CandidType$Kind;" (.ref (A (6 : Int32)))) (S_NAT64 : Sta Z Z.heap "com/example/safe_node_calls/safenodecalls/ic/candid/CandidType$Kind" "NAT64" "Lcom/example/safe_node_calls/safenodecalls/ic/candid/CandidType$Kind;" (.ref (A (7 : Int32)))) (S_INT8 : Sta Z Z.heap "com/example/safe_node_calls/safenodecalls/ic/candid/CandidType$Kind" "INT8" "Lcom/example/safe_node_calls/safenodecalls/ic/candid/CandidType$Kind;" (.ref (A (8 : Int32)))) (S_INT16 : Sta Z Z.heap "com/example/safe_node_calls/safenodecalls/ic/candid/CandidType$Kind" "INT16" "Lcom/example/safe_node_calls/safenodecalls/ic/candid/CandidType$Kind;" (.ref (A (9 : Int32)))) (S_INT32 : Sta Z Z.heap "com/example/safe_node_calls/safenodecalls/ic/candid/CandidType$Kind" "INT32" "Lcom/example/safe_node_calls/safenodecalls/ic/candid/CandidType$Kind;" (.ref (A (10 : Int32)))) (S_INT64 : Sta Z Z.heap "com/example/safe_node_calls/safenodecalls/ic/candid/CandidType$Kind" "INT64" "Lcom/example/safe_node_calls/safenodecalls/ic/candid/CandidType$Kind;" (.ref (A (11 : Int32)))) (S_FLOAT32 : Sta Z Z.heap "com/example/safe_node_calls/safenodecalls/ic/candid/CandidType$Kind" "FLOAT32" "Lcom/example/safe_node_calls/safenodecalls/ic/candid/CandidType$Kind;" (.ref (A (12 : Int32)))) (S_FLOAT64 : Sta Z Z.heap "com/example/safe_node_calls/safenodecalls/ic/candid/CandidType$Kind" "FLOAT64" "Lcom/example/safe_node_calls/safenodecalls/ic/candid/CandidType$Kind;" (.ref (A (13 : Int32)))) (S_TEXT : Sta Z Z.heap "com/example/safe_node_calls/safenodecalls/ic/candid/CandidType$Kind" "TEXT" "Lcom/example/safe_node_calls/safenodecalls/ic/candid/CandidType$Kind;" (.ref (A (14 : Int32)))) (S_RESERVED : Sta Z Z.heap "com/example/safe_node_calls/safenodecalls/ic/candid/CandidType$Kind" "RESERVED" "Lcom/example/safe_node_calls/safenodecalls/ic/candid/CandidType$Kind;" (.ref (A (15 : Int32)))) (S_EMPTY : Sta Z Z.heap "com/example/safe_node_calls/safenodecalls/ic/candid/CandidType$Kind" "EMPTY" "Lcom/example/safe_node_calls/safenodecalls/ic/candid/CandidType$Kind;" (.ref (A (16 : Int32)))) (S_OPT : Sta Z Z.heap "com/example/safe_node_calls/safenodecalls/ic/candid/CandidType$Kind" "OPT" "Lcom/example/safe_node_calls/safenodecalls/ic/candid/CandidType$Kind;" (.ref (A (17 : Int32)))) (S_VEC : Sta Z Z.heap "com/example/safe_node_calls/safenodecalls/ic/candid/CandidType$Kind" "VEC" "Lcom/example/safe_node_calls/safenodecalls/ic/candid/CandidType$Kind;" (.ref (A (18 : Int32)))) (S_RECORD : Sta Z Z.heap "com/example/safe_node_calls/safenodecalls/ic/candid/CandidType$Kind" "RECORD" "Lcom/example/safe_node_calls/safenodecalls/ic/candid/CandidType$Kind;" (.ref (A (19 : Int32)))) (S_VARIANT : Sta Z Z.heap "com/example/safe_node_calls/safenodecalls/ic/candid/CandidType$Kind" "VARIANT" "Lcom/example/safe_node_calls/safenodecalls/ic/candid/CandidType$Kind;" (.ref (A (20 : Int32)))) (S_FUNC : Sta Z Z.heap "com/example/safe_node_calls/safenodecalls/ic/candid/CandidType$Kind" "FUNC" "Lcom/example/safe_node_calls/safenodecalls/ic/candid/CandidType$Kind;" (.ref (A (21 : Int32)))) (S_SERVICE : Sta Z Z.heap "com/example/safe_node_calls/safenodecalls/ic/candid/CandidType$Kind" "SERVICE" "Lcom/example/safe_node_calls/safenodecalls/ic/candid/CandidType$Kind;" (.ref (A (22 : Int32)))) (S_PRINCIPAL : Sta Z Z.heap "com/example/safe_node_calls/safenodecalls/ic/candid/CandidType$Kind" "PRINCIPAL" "Lcom/example/safe_node_calls/safenodecalls/ic/candid/CandidType$Kind;" (.ref (A (23 : Int32)))) (S_FUTURE : Sta Z Z.heap "com/example/safe_node_calls/safenodecalls/ic/candid/CandidType$Kind" "FUTURE" "Lcom/example/safe_node_calls/safenodecalls/ic/candid/CandidType$Kind;" (.ref (A (24 : Int32)))) (hp : p = (0 : Int32) ∨ p = (1 : Int32) ∨ p = (2 : Int32) ∨ p = (3 : Int32) ∨ p = (4 : Int32) ∨ p = (5 : Int32) ∨ p = (6 : Int32) ∨ p = (7 : Int32) ∨ p = (8 : Int32) ∨ p = (9 : Int32) ∨ p = (10 : Int32) ∨ p = (11 : Int32) ∨ p = (12 : Int32) ∨ p = (13 : Int32) ∨ p = (14 : Int32) ∨ p = (15 : Int32) ∨ p = (16 : Int32) ∨ p = (17 : Int32) ∨ p = (18 : Int32) ∨ p = (19 : Int32) ∨ p = (20 : Int32) ∨ p = (21 : Int32) ∨ p = (22 : Int32) ∨ p = (23 : Int32) ∨ p = (24 : Int32)) :
    MetFree l (⟨"com/example/safe_node_calls/safenodecalls/ic/candid/KindIsIntegerPinLaw", "kindAt", "(I)Lcom/example/safe_node_calls/safenodecalls/ic/candid/CandidType$Kind;"⟩ : MethodName) (head1 (Jvm.Cond.code (⟨"com/example/safe_node_calls/safenodecalls/ic/candid/KindIsIntegerPinLaw", "kindAt", "(I)Lcom/example/safe_node_calls/safenodecalls/ic/candid/CandidType$Kind;"⟩ : MethodName) method_4_code 1 (some (.object "com/example/safe_node_calls/safenodecalls/ic/candid/CandidType$Kind")) :: ws) ({ frames := 0, cells := 0, slots := 0, locals := 0 } : Room)) (fun a_ U_ => a_ = #[(.int p)] ∧ Z.Warmed39 U_.vm ∧ U_.heap = h0) (fun _ _ _ _ _ => True) (fun _ U_ o_ U'_ => ∃ v_ L_, o_ = .returned v_ ∧ QrmKa Z p A h0 n0 v_ U'_.heap L_ ∧ FrameEnd U_ o_ U'_ L_ ({ frames := 0, cells := 0, slots := 0, locals := 0 } : Room).cells ({ frames := 0, cells := 0, slots := 0, locals := 0 } : Room).slots) := by
  refine MetFree.of_bodySF (plainFor_of_name pn_121) hisR ?_
  intro pg ee s mm args below meth cc s₁ Bd hml0 hP hK
  obtain ⟨rfl, hZ, hh⟩ := hP
  have hx := Bd.exec
  have hby := Bd.bytes
  have hml : cc.maxLocals = 1 := hml0
  have hown : s.vm.findClass "com/example/safe_node_calls/safenodecalls/ic/candid/KindIsIntegerPinLaw" = some mm.cls := findClass_of_methodNamed Bd.named
  have hnm := (name_of_methodNamed Bd.named Bd.method).1
  have X0 : Stand pg l ee ({ frames := 0, cells := 0, slots := 0, locals := 0 } : Room) s mm #[(.int p)] below meth cc s₁ [] 0 0 := Stand.of_body Bd
  have e0 : s₁.heap = h0 := by rw [← hh, Bd.state]; rfl
  have N0 := Fr.nil n0
  have K0 : Keep h0 h0 ([] : List Addr) := Keep.refl _ _
  have pre0 : ∀ t, Steps pg.tables ee below (s₁.setTop (mkF mm 0 #[.val (.int p)] [])) t → Steps pg.tables ee below (s₁.setTop (entryFrame mm #[(.int p)] 1)) t := fun t k => castTop (ef_1_122 mm p) k
  have pre1 : ∀ t, Steps pg.tables ee below (s₁.setTop (mkF mm 1 #[.val (.int p)] [(.int p)])) t → Steps pg.tables ee below (s₁.setTop (entryFrame mm #[(.int p)] 1)) t := fun t k => pre0 t (by
      show Steps pg.tables ee below (s₁.setTop (mkF mm 0 #[.val (.int p)] [])) _
      refine XS.iloadN X0.here hx rfl (hb hby d1_0) rfl ?_
      exact k)
  by_cases hc2 : p = (0 : Int32)
  · obtain ⟨T3, X3, e3, st3⟩ := getS2 X0 hx hZ hown (host := "") (Or.inl (hw _ (List.mem_of_getElem? (i := 5) rfl))) Via.refl e0 (S_NULL.ext O0.2) (g := (mkF mm 4 #[.val (.int p)] [])) rfl (hb hby d1_4)
    obtain ⟨fs, hr, hrun, hended, hW, hsame⟩ := X3.leave (v := some (.ref (A (0 : Int32)))) (fun h => by rw [Bd.returns] at h; cases h)
    refine ⟨_, _, pre1 _ ?_, hrun, hended, _, _, rfl, ?_, ⟨_, rfl⟩, hW, hsame.mono (by decide) (by decide)⟩
    · show Steps pg.tables ee below (s₁.setTop (mkF mm 1 #[.val (.int p)] [(.int p)])) _
      refine XS.ifNo X0.here hx rfl (hb hby d1_1) rfl ((if0 _ _).trans (teq hc2).2) ?_
      show Steps pg.tables ee below (s₁.setTop (mkF mm 4 #[.val (.int p)] [])) _
      refine st3 _ ?_
      show Steps pg.tables ee below (T3.setTop (mkF mm 7 #[.val (.int p)] [(.ref (A (0 : Int32)))])) _
      exact retOut X3 hx Bd.returns rfl (Or.inr (Or.inr (Or.inr (Or.inr ⟨rfl, rfl, rfl⟩)))) (hb hby d1_7) hr
    · show QrmKa Z p A h0 n0 _ T3.heap _
      rw [e3]
      exact ⟨by rw [hc2], N0, rfl⟩
  · have pre4 : ∀ t, Steps pg.tables ee below (s₁.setTop (mkF mm 10 #[.val (.int p)] [(.int (1 : Int32)), (.int p)])) t → Steps pg.tables ee below (s₁.setTop (entryFrame mm #[(.int p)] 1)) t := fun t k => pre1 t (by
        show Steps pg.tables ee below (s₁.setTop (mkF mm 1 #[.val (.int p)] [(.int p)])) _
        refine XS.ifYes X0.here hx rfl (pc0 := 1) (pc' := 8) rfl (hb hby d1_1) rfl ((if0 _ _).trans (feq hc2).2) (by decide) (by decide) ?_
        show Steps pg.tables ee below (s₁.setTop (mkF mm 8 #[.val (.int p)] [])) _
        refine XS.iloadN X0.here hx rfl (hb hby d1_8) rfl ?_
        show Steps pg.tables ee below (s₁.setTop (mkF mm 9 #[.val (.int p)] [(.int p)])) _
        refine XS.iconst X0.here hx rfl (hb hby d1_9) ?_
        exact k)
    by_cases hc5 : p = (1 : Int32)
    · obtain ⟨T6, X6, e6, st6⟩ := getS2 X0 hx hZ hown (host := "") (Or.inl (hw _ (List.mem_of_getElem? (i := 38) rfl))) Via.refl e0 (S_BOOL.ext O0.2) (g := (mkF mm 13 #[.val (.int p)] [])) rfl (hb hby d1_13)
      obtain ⟨fs, hr, hrun, hended, hW, hsame⟩ := X6.leave (v := some (.ref (A (1 : Int32)))) (fun h => by rw [Bd.returns] at h; cases h)
      refine ⟨_, _, pre4 _ ?_, hrun, hended, _, _, rfl, ?_, ⟨_, rfl⟩, hW, hsame.mono (by decide) (by decide)⟩
      · show Steps pg.tables ee below (s₁.setTop (mkF mm 10 #[.val (.int p)] [(.int (1 : Int32)), (.int p)])) _
        refine XS.icmpNo X0.here hx rfl (hb hby d1_10) rfl (teq hc5).2 ?_
        show Steps pg.tables ee below (s₁.setTop (mkF mm 13 #[.val (.int p)] [])) _
        refine st6 _ ?_
        show Steps pg.tables ee below (T6.setTop (mkF mm 16 #[.val (.int p)] [(.ref (A (1 : Int32)))])) _
        exact retOut X6 hx Bd.returns rfl (Or.inr (Or.inr (Or.inr (Or.inr ⟨rfl, rfl, rfl⟩)))) (hb hby d1_16) hr
      · show QrmKa Z p A h0 n0 _ T6.heap _
        rw [e6]
        exact ⟨by rw [hc5], N0, rfl⟩
    · have pre7 : ∀ t, Steps pg.tables ee below (s₁.setTop (mkF mm 19 #[.val (.int p)] [(.int (2 : Int32)), (.int p)])) t → Steps pg.tables ee below (s₁.setTop (entryFrame mm #[(.int p)] 1)) t := fun t k => pre4 t (by
          show Steps pg.tables ee below (s₁.setTop (mkF mm 10 #[.val (.int p)] [(.int (1 : Int32)), (.int p)])) _
          refine XS.icmpYes X0.here hx rfl (pc0 := 10) (pc' := 17) rfl (hb hby d1_10) rfl (feq hc5).2 (by decide) (by decide) ?_
          show Steps pg.tables ee below (s₁.setTop (mkF mm 17 #[.val (.int p)] [])) _
          refine XS.iloadN X0.here hx rfl (hb hby d1_17) rfl ?_
          show Steps pg.tables ee below (s₁.setTop (mkF mm 18 #[.val (.int p)] [(.int p)])) _
          refine XS.iconst X0.here hx rfl (hb hby d1_18) ?_
          exact k)
      by_cases hc8 : p = (2 : Int32)
      · obtain ⟨T9, X9, e9, st9⟩ := getS2 X0 hx hZ hown (host := "") (Or.inl (hw _ (List.mem_of_getElem? (i := 31) rfl))) Via.refl e0 (S_NAT.ext O0.2) (g := (mkF mm 22 #[.val (.int p)] [])) rfl (hb hby d1_22)
        obtain ⟨fs, hr, hrun, hended, hW, hsame⟩ := X9.leave (v := some (.ref (A (2 : Int32)))) (fun h => by rw [Bd.returns] at h; cases h)
        refine ⟨_, _, pre7 _ ?_, hrun, hended, _, _, rfl, ?_, ⟨_, rfl⟩, hW, hsame.mono (by decide) (by decide)⟩
        · show Steps pg.tables ee below (s₁.setTop (mkF mm 19 #[.val (.int p)] [(.int (2 : Int32)), (.int p)])) _
          refine XS.icmpNo X0.here hx rfl (hb hby d1_19) rfl (teq hc8).2 ?_
          show Steps pg.tables ee below (s₁.setTop (mkF mm 22 #[.val (.int p)] [])) _
          refine st9 _ ?_
          show Steps pg.tables ee below (T9.setTop (mkF mm 25 #[.val (.int p)] [(.ref (A (2 : Int32)))])) _
          exact retOut X9 hx Bd.returns rfl (Or.inr (Or.inr (Or.inr (Or.inr ⟨rfl, rfl, rfl⟩)))) (hb hby d1_25) hr
        · show QrmKa Z p A h0 n0 _ T9.heap _
          rw [e9]
          exact ⟨by rw [hc8], N0, rfl⟩
      · have pre10 : ∀ t, Steps pg.tables ee below (s₁.setTop (mkF mm 28 #[.val (.int p)] [(.int (3 : Int32)), (.int p)])) t → Steps pg.tables ee below (s₁.setTop (entryFrame mm #[(.int p)] 1)) t := fun t k => pre7 t (by
            show Steps pg.tables ee below (s₁.setTop (mkF mm 19 #[.val (.int p)] [(.int (2 : Int32)), (.int p)])) _
            refine XS.icmpYes X0.here hx rfl (pc0 := 19) (pc' := 26) rfl (hb hby d1_19) rfl (feq hc8).2 (by decide) (by decide) ?_
            show Steps pg.tables ee below (s₁.setTop (mkF mm 26 #[.val (.int p)] [])) _
            refine XS.iloadN X0.here hx rfl (hb hby d1_26) rfl ?_
            show Steps pg.tables ee below (s₁.setTop (mkF mm 27 #[.val (.int p)] [(.int p)])) _
            refine XS.iconst X0.here hx rfl (hb hby d1_27) ?_
            exact k)
        by_cases hc11 : p = (3 : Int32)
        · obtain ⟨T12, X12, e12, st12⟩ := getS2 X0 hx hZ hown (host := "") (Or.inl (hw _ (List.mem_of_getElem? (i := 22) rfl))) Via.refl e0 (S_INT.ext O0.2) (g := (mkF mm 31 #[.val (.int p)] [])) rfl (hb hby d1_31)
          obtain ⟨fs, hr, hrun, hended, hW, hsame⟩ := X12.leave (v := some (.ref (A (3 : Int32)))) (fun h => by rw [Bd.returns] at h; cases h)
          refine ⟨_, _, pre10 _ ?_, hrun, hended, _, _, rfl, ?_, ⟨_, rfl⟩, hW, hsame.mono (by decide) (by decide)⟩
          · show Steps pg.tables ee below (s₁.setTop (mkF mm 28 #[.val (.int p)] [(.int (3 : Int32)), (.int p)])) _
            refine XS.icmpNo X0.here hx rfl (hb hby d1_28) rfl (teq hc11).2 ?_
            show Steps pg.tables ee below (s₁.setTop (mkF mm 31 #[.val (.int p)] [])) _
            refine st12 _ ?_
            show Steps pg.tables ee below (T12.setTop (mkF mm 34 #[.val (.int p)] [(.ref (A (3 : Int32)))])) _
            exact retOut X12 hx Bd.returns rfl (Or.inr (Or.inr (Or.inr (Or.inr ⟨rfl, rfl, rfl⟩)))) (hb hby d1_34) hr
          · show QrmKa Z p A h0 n0 _ T12.heap _
            rw [e12]
            exact ⟨by rw [hc11], N0, rfl⟩
        · have pre13 : ∀ t, Steps pg.tables ee below (s₁.setTop (mkF mm 37 #[.val (.int p)] [(.int (4 : Int32)), (.int p)])) t → Steps pg.tables ee below (s₁.setTop (entryFrame mm #[(.int p)] 1)) t := fun t k => pre10 t (by
              show Steps pg.tables ee below (s₁.setTop (mkF mm 28 #[.val (.int p)] [(.int (3 : Int32)), (.int p)])) _
              refine XS.icmpYes X0.here hx rfl (pc0 := 28) (pc' := 35) rfl (hb hby d1_28) rfl (feq hc11).2 (by decide) (by decide) ?_
              show Steps pg.tables ee below (s₁.setTop (mkF mm 35 #[.val (.int p)] [])) _
              refine XS.iloadN X0.here hx rfl (hb hby d1_35) rfl ?_
              show Steps pg.tables ee below (s₁.setTop (mkF mm 36 #[.val (.int p)] [(.int p)])) _
              refine XS.iconst X0.here hx rfl (hb hby d1_36) ?_
              exact k)
          by_cases hc14 : p = (4 : Int32)
          · obtain ⟨T15, X15, e15, st15⟩ := getS2 X0 hx hZ hown (host := "") (Or.inl (hw _ (List.mem_of_getElem? (i := 60) rfl))) Via.refl e0 (S_NAT8.ext O0.2) (g := (mkF mm 40 #[.val (.int p)] [])) rfl (hb hby d1_40)
            obtain ⟨fs, hr, hrun, hended, hW, hsame⟩ := X15.leave (v := some (.ref (A (4 : Int32)))) (fun h => by rw [Bd.returns] at h; cases h)
            refine ⟨_, _, pre13 _ ?_, hrun, hended, _, _, rfl, ?_, ⟨_, rfl⟩, hW, hsame.mono (by decide) (by decide)⟩
            · show Steps pg.tables ee below (s₁.setTop (mkF mm 37 #[.val (.int p)] [(.int (4 : Int32)), (.int p)])) _
              refine XS.icmpNo X0.here hx rfl (hb hby d1_37) rfl (teq hc14).2 ?_
              show Steps pg.tables ee below (s₁.setTop (mkF mm 40 #[.val (.int p)] [])) _
              refine st15 _ ?_
              show Steps pg.tables ee below (T15.setTop (mkF mm 43 #[.val (.int p)] [(.ref (A (4 : Int32)))])) _
              exact retOut X15 hx Bd.returns rfl (Or.inr (Or.inr (Or.inr (Or.inr ⟨rfl, rfl, rfl⟩)))) (hb hby d1_43) hr
            · show QrmKa Z p A h0 n0 _ T15.heap _
              rw [e15]
              exact ⟨by rw [hc14], N0, rfl⟩
          · have pre16 : ∀ t, Steps pg.tables ee below (s₁.setTop (mkF mm 46 #[.val (.int p)] [(.int (5 : Int32)), (.int p)])) t → Steps pg.tables ee below (s₁.setTop (entryFrame mm #[(.int p)] 1)) t := fun t k => pre13 t (by
                show Steps pg.tables ee below (s₁.setTop (mkF mm 37 #[.val (.int p)] [(.int (4 : Int32)), (.int p)])) _
                refine XS.icmpYes X0.here hx rfl (pc0 := 37) (pc' := 44) rfl (hb hby d1_37) rfl (feq hc14).2 (by decide) (by decide) ?_
                show Steps pg.tables ee below (s₁.setTop (mkF mm 44 #[.val (.int p)] [])) _
                refine XS.iloadN X0.here hx rfl (hb hby d1_44) rfl ?_
                show Steps pg.tables ee below (s₁.setTop (mkF mm 45 #[.val (.int p)] [(.int p)])) _
                refine XS.iconst X0.here hx rfl (hb hby d1_45) ?_
                exact k)
            by_cases hc17 : p = (5 : Int32)
            · obtain ⟨T18, X18, e18, st18⟩ := getS2 X0 hx hZ hown (host := "") (Or.inl (hw _ (List.mem_of_getElem? (i := 52) rfl))) Via.refl e0 (S_NAT16.ext O0.2) (g := (mkF mm 49 #[.val (.int p)] [])) rfl (hb hby d1_49)
              obtain ⟨fs, hr, hrun, hended, hW, hsame⟩ := X18.leave (v := some (.ref (A (5 : Int32)))) (fun h => by rw [Bd.returns] at h; cases h)
              refine ⟨_, _, pre16 _ ?_, hrun, hended, _, _, rfl, ?_, ⟨_, rfl⟩, hW, hsame.mono (by decide) (by decide)⟩
              · show Steps pg.tables ee below (s₁.setTop (mkF mm 46 #[.val (.int p)] [(.int (5 : Int32)), (.int p)])) _
                refine XS.icmpNo X0.here hx rfl (hb hby d1_46) rfl (teq hc17).2 ?_
                show Steps pg.tables ee below (s₁.setTop (mkF mm 49 #[.val (.int p)] [])) _
                refine st18 _ ?_
                show Steps pg.tables ee below (T18.setTop (mkF mm 52 #[.val (.int p)] [(.ref (A (5 : Int32)))])) _
                exact retOut X18 hx Bd.returns rfl (Or.inr (Or.inr (Or.inr (Or.inr ⟨rfl, rfl, rfl⟩)))) (hb hby d1_52) hr
              · show QrmKa Z p A h0 n0 _ T18.heap _
                rw [e18]
                exact ⟨by rw [hc17], N0, rfl⟩
            · have pre19 : ∀ t, Steps pg.tables ee below (s₁.setTop (mkF mm 56 #[.val (.int p)] [(.int (6 : Int32)), (.int p)])) t → Steps pg.tables ee below (s₁.setTop (entryFrame mm #[(.int p)] 1)) t := fun t k => pre16 t (by
                  show Steps pg.tables ee below (s₁.setTop (mkF mm 46 #[.val (.int p)] [(.int (5 : Int32)), (.int p)])) _
                  refine XS.icmpYes X0.here hx rfl (pc0 := 46) (pc' := 53) rfl (hb hby d1_46) rfl (feq hc17).2 (by decide) (by decide) ?_
                  show Steps pg.tables ee below (s₁.setTop (mkF mm 53 #[.val (.int p)] [])) _
                  refine XS.iloadN X0.here hx rfl (hb hby d1_53) rfl ?_
                  show Steps pg.tables ee below (s₁.setTop (mkF mm 54 #[.val (.int p)] [(.int p)])) _
                  refine XS.bipush X0.here hx rfl (hb hby d1_54) ?_
                  exact k)
              by_cases hc20 : p = (6 : Int32)
              · obtain ⟨T21, X21, e21, st21⟩ := getS2 X0 hx hZ hown (host := "") (Or.inl (hw _ (List.mem_of_getElem? (i := 25) rfl))) Via.refl e0 (S_NAT32.ext O0.2) (g := (mkF mm 59 #[.val (.int p)] [])) rfl (hb hby d1_59)
                obtain ⟨fs, hr, hrun, hended, hW, hsame⟩ := X21.leave (v := some (.ref (A (6 : Int32)))) (fun h => by rw [Bd.returns] at h; cases h)
                refine ⟨_, _, pre19 _ ?_, hrun, hended, _, _, rfl, ?_, ⟨_, rfl⟩, hW, hsame.mono (by decide) (by decide)⟩
                · show Steps pg.tables ee below (s₁.setTop (mkF mm 56 #[.val (.int p)] [(.int (6 : Int32)), (.int p)])) _
                  refine XS.icmpNo X0.here hx rfl (hb hby d1_56) rfl (teq hc20).2 ?_
                  show Steps pg.tables ee below (s₁.setTop (mkF mm 59 #[.val (.int p)] [])) _
                  refine st21 _ ?_
                  show Steps pg.tables ee below (T21.setTop (mkF mm 62 #[.val (.int p)] [(.ref (A (6 : Int32)))])) _
                  exact retOut X21 hx Bd.returns rfl (Or.inr (Or.inr (Or.inr (Or.inr ⟨rfl, rfl, rfl⟩)))) (hb hby d1_62) hr
                · show QrmKa Z p A h0 n0 _ T21.heap _
                  rw [e21]
                  exact ⟨by rw [hc20], N0, rfl⟩
              · have pre22 : ∀ t, Steps pg.tables ee below (s₁.setTop (mkF mm 66 #[.val (.int p)] [(.int (7 : Int32)), (.int p)])) t → Steps pg.tables ee below (s₁.setTop (entryFrame mm #[(.int p)] 1)) t := fun t k => pre19 t (by
                    show Steps pg.tables ee below (s₁.setTop (mkF mm 56 #[.val (.int p)] [(.int (6 : Int32)), (.int p)])) _
                    refine XS.icmpYes X0.here hx rfl (pc0 := 56) (pc' := 63) rfl (hb hby d1_56) rfl (feq hc20).2 (by decide) (by decide) ?_
                    show Steps pg.tables ee below (s₁.setTop (mkF mm 63 #[.val (.int p)] [])) _
                    refine XS.iloadN X0.here hx rfl (hb hby d1_63) rfl ?_
                    show Steps pg.tables ee below (s₁.setTop (mkF mm 64 #[.val (.int p)] [(.int p)])) _
                    refine XS.bipush X0.here hx rfl (hb hby d1_64) ?_
                    exact k)
                by_cases hc23 : p = (7 : Int32)
                · obtain ⟨T24, X24, e24, st24⟩ := getS2 X0 hx hZ hown (host := "") (Or.inl (hw _ (List.mem_of_getElem? (i := 29) rfl))) Via.refl e0 (S_NAT64.ext O0.2) (g := (mkF mm 69 #[.val (.int p)] [])) rfl (hb hby d1_69)
                  obtain ⟨fs, hr, hrun, hended, hW, hsame⟩ := X24.leave (v := some (.ref (A (7 : Int32)))) (fun h => by rw [Bd.returns] at h; cases h)
                  refine ⟨_, _, pre22 _ ?_, hrun, hended, _, _, rfl, ?_, ⟨_, rfl⟩, hW, hsame.mono (by decide) (by decide)⟩
                  · show Steps pg.tables ee below (s₁.setTop (mkF mm 66 #[.val (.int p)] [(.int (7 : Int32)), (.int p)])) _
                    refine XS.icmpNo X0.here hx rfl (hb hby d1_66) rfl (teq hc23).2 ?_
                    show Steps pg.tables ee below (s₁.setTop (mkF mm 69 #[.val (.int p)] [])) _
                    refine st24 _ ?_
                    show Steps pg.tables ee below (T24.setTop (mkF mm 72 #[.val (.int p)] [(.ref (A (7 : Int32)))])) _
                    exact retOut X24 hx Bd.returns rfl (Or.inr (Or.inr (Or.inr (Or.inr ⟨rfl, rfl, rfl⟩)))) (hb hby d1_72) hr
                  · show QrmKa Z p A h0 n0 _ T24.heap _
                    rw [e24]
                    exact ⟨by rw [hc23], N0, rfl⟩
                · have pre25 : ∀ t, Steps pg.tables ee below (s₁.setTop (mkF mm 76 #[.val (.int p)] [(.int (8 : Int32)), (.int p)])) t → Steps pg.tables ee below (s₁.setTop (entryFrame mm #[(.int p)] 1)) t := fun t k => pre22 t (by
                      show Steps pg.tables ee below (s₁.setTop (mkF mm 66 #[.val (.int p)] [(.int (7 : Int32)), (.int p)])) _
                      refine XS.icmpYes X0.here hx rfl (pc0 := 66) (pc' := 73) rfl (hb hby d1_66) rfl (feq hc23).2 (by decide) (by decide) ?_
                      show Steps pg.tables ee below (s₁.setTop (mkF mm 73 #[.val (.int p)] [])) _
                      refine XS.iloadN X0.here hx rfl (hb hby d1_73) rfl ?_
                      show Steps pg.tables ee below (s₁.setTop (mkF mm 74 #[.val (.int p)] [(.int p)])) _
                      refine XS.bipush X0.here hx rfl (hb hby d1_74) ?_
                      exact k)
                  by_cases hc26 : p = (8 : Int32)
                  · obtain ⟨T27, X27, e27, st27⟩ := getS2 X0 hx hZ hown (host := "") (Or.inl (hw _ (List.mem_of_getElem? (i := 36) rfl))) Via.refl e0 (S_INT8.ext O0.2) (g := (mkF mm 79 #[.val (.int p)] [])) rfl (hb hby d1_79)
                    obtain ⟨fs, hr, hrun, hended, hW, hsame⟩ := X27.leave (v := some (.ref (A (8 : Int32)))) (fun h => by rw [Bd.returns] at h; cases h)
                    refine ⟨_, _, pre25 _ ?_, hrun, hended, _, _, rfl, ?_, ⟨_, rfl⟩, hW, hsame.mono (by decide) (by decide)⟩
                    · show Steps pg.tables ee below (s₁.setTop (mkF mm 76 #[.val (.int p)] [(.int (8 : Int32)), (.int p)])) _
                      refine XS.icmpNo X0.here hx rfl (hb hby d1_76) rfl (teq hc26).2 ?_
                      show Steps pg.tables ee below (s₁.setTop (mkF mm 79 #[.val (.int p)] [])) _
                      refine st27 _ ?_
                      show Steps pg.tables ee below (T27.setTop (mkF mm 82 #[.val (.int p)] [(.ref (A (8 : Int32)))])) _
                      exact retOut X27 hx Bd.returns rfl (Or.inr (Or.inr (Or.inr (Or.inr ⟨rfl, rfl, rfl⟩)))) (hb hby d1_82) hr
                    · show QrmKa Z p A h0 n0 _ T27.heap _
                      rw [e27]
                      exact ⟨by rw [hc26], N0, rfl⟩
                  · have pre28 : ∀ t, Steps pg.tables ee below (s₁.setTop (mkF mm 86 #[.val (.int p)] [(.int (9 : Int32)), (.int p)])) t → Steps pg.tables ee below (s₁.setTop (entryFrame mm #[(.int p)] 1)) t := fun t k => pre25 t (by
                        show Steps pg.tables ee below (s₁.setTop (mkF mm 76 #[.val (.int p)] [(.int (8 : Int32)), (.int p)])) _
                        refine XS.icmpYes X0.here hx rfl (pc0 := 76) (pc' := 83) rfl (hb hby d1_76) rfl (feq hc26).2 (by decide) (by decide) ?_
                        show Steps pg.tables ee below (s₁.setTop (mkF mm 83 #[.val (.int p)] [])) _
                        refine XS.iloadN X0.here hx rfl (hb hby d1_83) rfl ?_
                        show Steps pg.tables ee below (s₁.setTop (mkF mm 84 #[.val (.int p)] [(.int p)])) _
                        refine XS.bipush X0.here hx rfl (hb hby d1_84) ?_
                        exact k)
                    by_cases hc29 : p = (9 : Int32)
                    · obtain ⟨T30, X30, e30, st30⟩ := getS2 X0 hx hZ hown (host := "") (Or.inl (hw _ (List.mem_of_getElem? (i := 56) rfl))) Via.refl e0 (S_INT16.ext O0.2) (g := (mkF mm 89 #[.val (.int p)] [])) rfl (hb hby d1_89)
                      obtain ⟨fs, hr, hrun, hended, hW, hsame⟩ := X30.leave (v := some (.ref (A (9 : Int32)))) (fun h => by rw [Bd.returns] at h; cases h)
                      refine ⟨_, _, pre28 _ ?_, hrun, hended, _, _, rfl, ?_, ⟨_, rfl⟩, hW, hsame.mono (by decide) (by decide)⟩
                      · show Steps pg.tables ee below (s₁.setTop (mkF mm 86 #[.val (.int p)] [(.int (9 : Int32)), (.int p)])) _
                        refine XS.icmpNo X0.here hx rfl (hb hby d1_86) rfl (teq hc29).2 ?_
                        show Steps pg.tables ee below (s₁.setTop (mkF mm 89 #[.val (.int p)] [])) _
                        refine st30 _ ?_
                        show Steps pg.tables ee below (T30.setTop (mkF mm 92 #[.val (.int p)] [(.ref (A (9 : Int32)))])) _
                        exact retOut X30 hx Bd.returns rfl (Or.inr (Or.inr (Or.inr (Or.inr ⟨rfl, rfl, rfl⟩)))) (hb hby d1_92) hr
                      · show QrmKa Z p A h0 n0 _ T30.heap _
                        rw [e30]
                        exact ⟨by rw [hc29], N0, rfl⟩
                    · have pre31 : ∀ t, Steps pg.tables ee below (s₁.setTop (mkF mm 96 #[.val (.int p)] [(.int (10 : Int32)), (.int p)])) t → Steps pg.tables ee below (s₁.setTop (entryFrame mm #[(.int p)] 1)) t := fun t k => pre28 t (by
                          show Steps pg.tables ee below (s₁.setTop (mkF mm 86 #[.val (.int p)] [(.int (9 : Int32)), (.int p)])) _
                          refine XS.icmpYes X0.here hx rfl (pc0 := 86) (pc' := 93) rfl (hb hby d1_86) rfl (feq hc29).2 (by decide) (by decide) ?_
                          show Steps pg.tables ee below (s₁.setTop (mkF mm 93 #[.val (.int p)] [])) _
                          refine XS.iloadN X0.here hx rfl (hb hby d1_93) rfl ?_
                          show Steps pg.tables ee below (s₁.setTop (mkF mm 94 #[.val (.int p)] [(.int p)])) _
                          refine XS.bipush X0.here hx rfl (hb hby d1_94) ?_
                          exact k)
                      by_cases hc32 : p = (10 : Int32)
                      · obtain ⟨T33, X33, e33, st33⟩ := getS2 X0 hx hZ hown (host := "") (Or.inl (hw _ (List.mem_of_getElem? (i := 23) rfl))) Via.refl e0 (S_INT32.ext O0.2) (g := (mkF mm 99 #[.val (.int p)] [])) rfl (hb hby d1_99)
                        obtain ⟨fs, hr, hrun, hended, hW, hsame⟩ := X33.leave (v := some (.ref (A (10 : Int32)))) (fun h => by rw [Bd.returns] at h; cases h)
                        refine ⟨_, _, pre31 _ ?_, hrun, hended, _, _, rfl, ?_, ⟨_, rfl⟩, hW, hsame.mono (by decide) (by decide)⟩
                        · show Steps pg.tables ee below (s₁.setTop (mkF mm 96 #[.val (.int p)] [(.int (10 : Int32)), (.int p)])) _
                          refine XS.icmpNo X0.here hx rfl (hb hby d1_96) rfl (teq hc32).2 ?_
                          show Steps pg.tables ee below (s₁.setTop (mkF mm 99 #[.val (.int p)] [])) _
                          refine st33 _ ?_
                          show Steps pg.tables ee below (T33.setTop (mkF mm 102 #[.val (.int p)] [(.ref (A (10 : Int32)))])) _
                          exact retOut X33 hx Bd.returns rfl (Or.inr (Or.inr (Or.inr (Or.inr ⟨rfl, rfl, rfl⟩)))) (hb hby d1_102) hr
                        · show QrmKa Z p A h0 n0 _ T33.heap _
                          rw [e33]
                          exact ⟨by rw [hc32], N0, rfl⟩
                      · have pre34 : ∀ t, Steps pg.tables ee below (s₁.setTop (mkF mm 106 #[.val (.int p)] [(.int (11 : Int32)), (.int p)])) t → Steps pg.tables ee below (s₁.setTop (entryFrame mm #[(.int p)] 1)) t := fun t k => pre31 t (by
                            show Steps pg.tables ee below (s₁.setTop (mkF mm 96 #[.val (.int p)] [(.int (10 : Int32)), (.int p)])) _
                            refine XS.icmpYes X0.here hx rfl (pc0 := 96) (pc' := 103) rfl (hb hby d1_96) rfl (feq hc32).2 (by decide) (by decide) ?_
                            show Steps pg.tables ee below (s₁.setTop (mkF mm 103 #[.val (.int p)] [])) _
                            refine XS.iloadN X0.here hx rfl (hb hby d1_103) rfl ?_
                            show Steps pg.tables ee below (s₁.setTop (mkF mm 104 #[.val (.int p)] [(.int p)])) _
                            refine XS.bipush X0.here hx rfl (hb hby d1_104) ?_
                            exact k)
                        by_cases hc35 : p = (11 : Int32)
                        · obtain ⟨T36, X36, e36, st36⟩ := getS2 X0 hx hZ hown (host := "") (Or.inl (hw _ (List.mem_of_getElem? (i := 32) rfl))) Via.refl e0 (S_INT64.ext O0.2) (g := (mkF mm 109 #[.val (.int p)] [])) rfl (hb hby d1_109)
                          obtain ⟨fs, hr, hrun, hended, hW, hsame⟩ := X36.leave (v := some (.ref (A (11 : Int32)))) (fun h => by rw [Bd.returns] at h; cases h)
                          refine ⟨_, _, pre34 _ ?_, hrun, hended, _, _, rfl, ?_, ⟨_, rfl⟩, hW, hsame.mono (by decide) (by decide)⟩
                          · show Steps pg.tables ee below (s₁.setTop (mkF mm 106 #[.val (.int p)] [(.int (11 : Int32)), (.int p)])) _
                            refine XS.icmpNo X0.here hx rfl (hb hby d1_106) rfl (teq hc35).2 ?_
                            show Steps pg.tables ee below (s₁.setTop (mkF mm 109 #[.val (.int p)] [])) _
                            refine st36 _ ?_
                            show Steps pg.tables ee below (T36.setTop (mkF mm 112 #[.val (.int p)] [(.ref (A (11 : Int32)))])) _
                            exact retOut X36 hx Bd.returns rfl (Or.inr (Or.inr (Or.inr (Or.inr ⟨rfl, rfl, rfl⟩)))) (hb hby d1_112) hr
                          · show QrmKa Z p A h0 n0 _ T36.heap _
                            rw [e36]
                            exact ⟨by rw [hc35], N0, rfl⟩
                        · have pre37 : ∀ t, Steps pg.tables ee below (s₁.setTop (mkF mm 116 #[.val (.int p)] [(.int (12 : Int32)), (.int p)])) t → Steps pg.tables ee below (s₁.setTop (entryFrame mm #[(.int p)] 1)) t := fun t k => pre34 t (by
                              show Steps pg.tables ee below (s₁.setTop (mkF mm 106 #[.val (.int p)] [(.int (11 : Int32)), (.int p)])) _
                              refine XS.icmpYes X0.here hx rfl (pc0 := 106) (pc' := 113) rfl (hb hby d1_106) rfl (feq hc35).2 (by decide) (by decide) ?_
                              show Steps pg.tables ee below (s₁.setTop (mkF mm 113 #[.val (.int p)] [])) _
                              refine XS.iloadN X0.here hx rfl (hb hby d1_113) rfl ?_
                              show Steps pg.tables ee below (s₁.setTop (mkF mm 114 #[.val (.int p)] [(.int p)])) _
                              refine XS.bipush X0.here hx rfl (hb hby d1_114) ?_
                              exact k)
                          by_cases hc38 : p = (12 : Int32)
                          · obtain ⟨T39, X39, e39, st39⟩ := getS2 X0 hx hZ hown (host := "") (Or.inl (hw _ (List.mem_of_getElem? (i := 46) rfl))) Via.refl e0 (S_FLOAT32.ext O0.2) (g := (mkF mm 119 #[.val (.int p)] [])) rfl (hb hby d1_119)
                            obtain ⟨fs, hr, hrun, hended, hW, hsame⟩ := X39.leave (v := some (.ref (A (12 : Int32)))) (fun h => by rw [Bd.returns] at h; cases h)
                            refine ⟨_, _, pre37 _ ?_, hrun, hended, _, _, rfl, ?_, ⟨_, rfl⟩, hW, hsame.mono (by decide) (by decide)⟩
                            · show Steps pg.tables ee below (s₁.setTop (mkF mm 116 #[.val (.int p)] [(.int (12 : Int32)), (.int p)])) _
                              refine XS.icmpNo X0.here hx rfl (hb hby d1_116) rfl (teq hc38).2 ?_
                              show Steps pg.tables ee below (s₁.setTop (mkF mm 119 #[.val (.int p)] [])) _
                              refine st39 _ ?_
                              show Steps pg.tables ee below (T39.setTop (mkF mm 122 #[.val (.int p)] [(.ref (A (12 : Int32)))])) _
                              exact retOut X39 hx Bd.returns rfl (Or.inr (Or.inr (Or.inr (Or.inr ⟨rfl, rfl, rfl⟩)))) (hb hby d1_122) hr
                            · show QrmKa Z p A h0 n0 _ T39.heap _
                              rw [e39]
                              exact ⟨by rw [hc38], N0, rfl⟩
                          · have pre40 : ∀ t, Steps pg.tables ee below (s₁.setTop (mkF mm 126 #[.val (.int p)] [(.int (13 : Int32)), (.int p)])) t → Steps pg.tables ee below (s₁.setTop (entryFrame mm #[(.int p)] 1)) t := fun t k => pre37 t (by
                                show Steps pg.tables ee below (s₁.setTop (mkF mm 116 #[.val (.int p)] [(.int (12 : Int32)), (.int p)])) _
                                refine XS.icmpYes X0.here hx rfl (pc0 := 116) (pc' := 123) rfl (hb hby d1_116) rfl (feq hc38).2 (by decide) (by decide) ?_
                                show Steps pg.tables ee below (s₁.setTop (mkF mm 123 #[.val (.int p)] [])) _
                                refine XS.iloadN X0.here hx rfl (hb hby d1_123) rfl ?_
                                show Steps pg.tables ee below (s₁.setTop (mkF mm 124 #[.val (.int p)] [(.int p)])) _
                                refine XS.bipush X0.here hx rfl (hb hby d1_124) ?_
                                exact k)
                            by_cases hc41 : p = (13 : Int32)
                            · obtain ⟨T42, X42, e42, st42⟩ := getS2 X0 hx hZ hown (host := "") (Or.inl (hw _ (List.mem_of_getElem? (i := 62) rfl))) Via.refl e0 (S_FLOAT64.ext O0.2) (g := (mkF mm 129 #[.val (.int p)] [])) rfl (hb hby d1_129)
                              obtain ⟨fs, hr, hrun, hended, hW, hsame⟩ := X42.leave (v := some (.ref (A (13 : Int32)))) (fun h => by rw [Bd.returns] at h; cases h)
                              refine ⟨_, _, pre40 _ ?_, hrun, hended, _, _, rfl, ?_, ⟨_, rfl⟩, hW, hsame.mono (by decide) (by decide)⟩
                              · show Steps pg.tables ee below (s₁.setTop (mkF mm 126 #[.val (.int p)] [(.int (13 : Int32)), (.int p)])) _
                                refine XS.icmpNo X0.here hx rfl (hb hby d1_126) rfl (teq hc41).2 ?_
                                show Steps pg.tables ee below (s₁.setTop (mkF mm 129 #[.val (.int p)] [])) _
                                refine st42 _ ?_
                                show Steps pg.tables ee below (T42.setTop (mkF mm 132 #[.val (.int p)] [(.ref (A (13 : Int32)))])) _
                                exact retOut X42 hx Bd.returns rfl (Or.inr (Or.inr (Or.inr (Or.inr ⟨rfl, rfl, rfl⟩)))) (hb hby d1_132) hr
                              · show QrmKa Z p A h0 n0 _ T42.heap _
                                rw [e42]
                                exact ⟨by rw [hc41], N0, rfl⟩
                            · have pre43 : ∀ t, Steps pg.tables ee below (s₁.setTop (mkF mm 136 #[.val (.int p)] [(.int (14 : Int32)), (.int p)])) t → Steps pg.tables ee below (s₁.setTop (entryFrame mm #[(.int p)] 1)) t := fun t k => pre40 t (by
                                  show Steps pg.tables ee below (s₁.setTop (mkF mm 126 #[.val (.int p)] [(.int (13 : Int32)), (.int p)])) _
                                  refine XS.icmpYes X0.here hx rfl (pc0 := 126) (pc' := 133) rfl (hb hby d1_126) rfl (feq hc41).2 (by decide) (by decide) ?_
                                  show Steps pg.tables ee below (s₁.setTop (mkF mm 133 #[.val (.int p)] [])) _
                                  refine XS.iloadN X0.here hx rfl (hb hby d1_133) rfl ?_
                                  show Steps pg.tables ee below (s₁.setTop (mkF mm 134 #[.val (.int p)] [(.int p)])) _
                                  refine XS.bipush X0.here hx rfl (hb hby d1_134) ?_
                                  exact k)
                              by_cases hc44 : p = (14 : Int32)
                              · obtain ⟨T45, X45, e45, st45⟩ := getS2 X0 hx hZ hown (host := "") (Or.inl (hw _ (List.mem_of_getElem? (i := 58) rfl))) Via.refl e0 (S_TEXT.ext O0.2) (g := (mkF mm 139 #[.val (.int p)] [])) rfl (hb hby d1_139)
                                obtain ⟨fs, hr, hrun, hended, hW, hsame⟩ := X45.leave (v := some (.ref (A (14 : Int32)))) (fun h => by rw [Bd.returns] at h; cases h)
                                refine ⟨_, _, pre43 _ ?_, hrun, hended, _, _, rfl, ?_, ⟨_, rfl⟩, hW, hsame.mono (by decide) (by decide)⟩
                                · show Steps pg.tables ee below (s₁.setTop (mkF mm 136 #[.val (.int p)] [(.int (14 : Int32)), (.int p)])) _
                                  refine XS.icmpNo X0.here hx rfl (hb hby d1_136) rfl (teq hc44).2 ?_
                                  show Steps pg.tables ee below (s₁.setTop (mkF mm 139 #[.val (.int p)] [])) _
                                  refine st45 _ ?_
                                  show Steps pg.tables ee below (T45.setTop (mkF mm 142 #[.val (.int p)] [(.ref (A (14 : Int32)))])) _
                                  exact retOut X45 hx Bd.returns rfl (Or.inr (Or.inr (Or.inr (Or.inr ⟨rfl, rfl, rfl⟩)))) (hb hby d1_142) hr
                                · show QrmKa Z p A h0 n0 _ T45.heap _
                                  rw [e45]
                                  exact ⟨by rw [hc44], N0, rfl⟩
                              · have pre46 : ∀ t, Steps pg.tables ee below (s₁.setTop (mkF mm 146 #[.val (.int p)] [(.int (15 : Int32)), (.int p)])) t → Steps pg.tables ee below (s₁.setTop (entryFrame mm #[(.int p)] 1)) t := fun t k => pre43 t (by
                                    show Steps pg.tables ee below (s₁.setTop (mkF mm 136 #[.val (.int p)] [(.int (14 : Int32)), (.int p)])) _
                                    refine XS.icmpYes X0.here hx rfl (pc0 := 136) (pc' := 143) rfl (hb hby d1_136) rfl (feq hc44).2 (by decide) (by decide) ?_
                                    show Steps pg.tables ee below (s₁.setTop (mkF mm 143 #[.val (.int p)] [])) _
                                    refine XS.iloadN X0.here hx rfl (hb hby d1_143) rfl ?_
                                    show Steps pg.tables ee below (s₁.setTop (mkF mm 144 #[.val (.int p)] [(.int p)])) _
                                    refine XS.bipush X0.here hx rfl (hb hby d1_144) ?_
                                    exact k)
                                by_cases hc47 : p = (15 : Int32)
                                · obtain ⟨T48, X48, e48, st48⟩ := getS2 X0 hx hZ hown (host := "") (Or.inl (hw _ (List.mem_of_getElem? (i := 42) rfl))) Via.refl e0 (S_RESERVED.ext O0.2) (g := (mkF mm 149 #[.val (.int p)] [])) rfl (hb hby d1_149)
                                  obtain ⟨fs, hr, hrun, hended, hW, hsame⟩ := X48.leave (v := some (.ref (A (15 : Int32)))) (fun h => by rw [Bd.returns] at h; cases h)
                                  refine ⟨_, _, pre46 _ ?_, hrun, hended, _, _, rfl, ?_, ⟨_, rfl⟩, hW, hsame.mono (by decide) (by decide)⟩
                                  · show Steps pg.tables ee below (s₁.setTop (mkF mm 146 #[.val (.int p)] [(.int (15 : Int32)), (.int p)])) _
                                    refine XS.icmpNo X0.here hx rfl (hb hby d1_146) rfl (teq hc47).2 ?_
                                    show Steps pg.tables ee below (s₁.setTop (mkF mm 149 #[.val (.int p)] [])) _
                                    refine st48 _ ?_
                                    show Steps pg.tables ee below (T48.setTop (mkF mm 152 #[.val (.int p)] [(.ref (A (15 : Int32)))])) _
                                    exact retOut X48 hx Bd.returns rfl (Or.inr (Or.inr (Or.inr (Or.inr ⟨rfl, rfl, rfl⟩)))) (hb hby d1_152) hr
                                  · show QrmKa Z p A h0 n0 _ T48.heap _
                                    rw [e48]
                                    exact ⟨by rw [hc47], N0, rfl⟩
                                · have pre49 : ∀ t, Steps pg.tables ee below (s₁.setTop (mkF mm 156 #[.val (.int p)] [(.int (16 : Int32)), (.int p)])) t → Steps pg.tables ee below (s₁.setTop (entryFrame mm #[(.int p)] 1)) t := fun t k => pre46 t (by
                                      show Steps pg.tables ee below (s₁.setTop (mkF mm 146 #[.val (.int p)] [(.int (15 : Int32)), (.int p)])) _
                                      refine XS.icmpYes X0.here hx rfl (pc0 := 146) (pc' := 153) rfl (hb hby d1_146) rfl (feq hc47).2 (by decide) (by decide) ?_
                                      show Steps pg.tables ee below (s₁.setTop (mkF mm 153 #[.val (.int p)] [])) _
                                      refine XS.iloadN X0.here hx rfl (hb hby d1_153) rfl ?_
                                      show Steps pg.tables ee below (s₁.setTop (mkF mm 154 #[.val (.int p)] [(.int p)])) _
                                      refine XS.bipush X0.here hx rfl (hb hby d1_154) ?_
                                      exact k)
                                  by_cases hc50 : p = (16 : Int32)
                                  · obtain ⟨T51, X51, e51, st51⟩ := getS2 X0 hx hZ hown (host := "") (Or.inl (hw _ (List.mem_of_getElem? (i := 44) rfl))) Via.refl e0 (S_EMPTY.ext O0.2) (g := (mkF mm 159 #[.val (.int p)] [])) rfl (hb hby d1_159)
                                    obtain ⟨fs, hr, hrun, hended, hW, hsame⟩ := X51.leave (v := some (.ref (A (16 : Int32)))) (fun h => by rw [Bd.returns] at h; cases h)
                                    refine ⟨_, _, pre49 _ ?_, hrun, hended, _, _, rfl, ?_, ⟨_, rfl⟩, hW, hsame.mono (by decide) (by decide)⟩
                                    · show Steps pg.tables ee below (s₁.setTop (mkF mm 156 #[.val (.int p)] [(.int (16 : Int32)), (.int p)])) _
                                      refine XS.icmpNo X0.here hx rfl (hb hby d1_156) rfl (teq hc50).2 ?_
                                      show Steps pg.tables ee below (s₁.setTop (mkF mm 159 #[.val (.int p)] [])) _
                                      refine st51 _ ?_
                                      show Steps pg.tables ee below (T51.setTop (mkF mm 162 #[.val (.int p)] [(.ref (A (16 : Int32)))])) _
                                      exact retOut X51 hx Bd.returns rfl (Or.inr (Or.inr (Or.inr (Or.inr ⟨rfl, rfl, rfl⟩)))) (hb hby d1_162) hr
                                    · show QrmKa Z p A h0 n0 _ T51.heap _
                                      rw [e51]
                                      exact ⟨by rw [hc50], N0, rfl⟩
                                  · have pre52 : ∀ t, Steps pg.tables ee below (s₁.setTop (mkF mm 166 #[.val (.int p)] [(.int (17 : Int32)), (.int p)])) t → Steps pg.tables ee below (s₁.setTop (entryFrame mm #[(.int p)] 1)) t := fun t k => pre49 t (by
                                        show Steps pg.tables ee below (s₁.setTop (mkF mm 156 #[.val (.int p)] [(.int (16 : Int32)), (.int p)])) _
                                        refine XS.icmpYes X0.here hx rfl (pc0 := 156) (pc' := 163) rfl (hb hby d1_156) rfl (feq hc50).2 (by decide) (by decide) ?_
                                        show Steps pg.tables ee below (s₁.setTop (mkF mm 163 #[.val (.int p)] [])) _
                                        refine XS.iloadN X0.here hx rfl (hb hby d1_163) rfl ?_
                                        show Steps pg.tables ee below (s₁.setTop (mkF mm 164 #[.val (.int p)] [(.int p)])) _
                                        refine XS.bipush X0.here hx rfl (hb hby d1_164) ?_
                                        exact k)
                                    by_cases hc53 : p = (17 : Int32)
                                    · obtain ⟨T54, X54, e54, st54⟩ := getS2 X0 hx hZ hown (host := "") (Or.inl (hw _ (List.mem_of_getElem? (i := 50) rfl))) Via.refl e0 (S_OPT.ext O0.2) (g := (mkF mm 169 #[.val (.int p)] [])) rfl (hb hby d1_169)
                                      obtain ⟨fs, hr, hrun, hended, hW, hsame⟩ := X54.leave (v := some (.ref (A (17 : Int32)))) (fun h => by rw [Bd.returns] at h; cases h)
                                      refine ⟨_, _, pre52 _ ?_, hrun, hended, _, _, rfl, ?_, ⟨_, rfl⟩, hW, hsame.mono (by decide) (by decide)⟩
                                      · show Steps pg.tables ee below (s₁.setTop (mkF mm 166 #[.val (.int p)] [(.int (17 : Int32)), (.int p)])) _
                                        refine XS.icmpNo X0.here hx rfl (hb hby d1_166) rfl (teq hc53).2 ?_
                                        show Steps pg.tables ee below (s₁.setTop (mkF mm 169 #[.val (.int p)] [])) _
                                        refine st54 _ ?_
                                        show Steps pg.tables ee below (T54.setTop (mkF mm 172 #[.val (.int p)] [(.ref (A (17 : Int32)))])) _
                                        exact retOut X54 hx Bd.returns rfl (Or.inr (Or.inr (Or.inr (Or.inr ⟨rfl, rfl, rfl⟩)))) (hb hby d1_172) hr
                                      · show QrmKa Z p A h0 n0 _ T54.heap _
                                        rw [e54]
                                        exact ⟨by rw [hc53], N0, rfl⟩
                                    · have pre55 : ∀ t, Steps pg.tables ee below (s₁.setTop (mkF mm 176 #[.val (.int p)] [(.int (18 : Int32)), (.int p)])) t → Steps pg.tables ee below (s₁.setTop (entryFrame mm #[(.int p)] 1)) t := fun t k => pre52 t (by
                                          show Steps pg.tables ee below (s₁.setTop (mkF mm 166 #[.val (.int p)] [(.int (17 : Int32)), (.int p)])) _
                                          refine XS.icmpYes X0.here hx rfl (pc0 := 166) (pc' := 173) rfl (hb hby d1_166) rfl (feq hc53).2 (by decide) (by decide) ?_
                                          show Steps pg.tables ee below (s₁.setTop (mkF mm 173 #[.val (.int p)] [])) _
                                          refine XS.iloadN X0.here hx rfl (hb hby d1_173) rfl ?_
                                          show Steps pg.tables ee below (s₁.setTop (mkF mm 174 #[.val (.int p)] [(.int p)])) _
                                          refine XS.bipush X0.here hx rfl (hb hby d1_174) ?_
                                          exact k)
                                      by_cases hc56 : p = (18 : Int32)
                                      · obtain ⟨T57, X57, e57, st57⟩ := getS2 X0 hx hZ hown (host := "") (Or.inl (hw _ (List.mem_of_getElem? (i := 64) rfl))) Via.refl e0 (S_VEC.ext O0.2) (g := (mkF mm 179 #[.val (.int p)] [])) rfl (hb hby d1_179)
                                        obtain ⟨fs, hr, hrun, hended, hW, hsame⟩ := X57.leave (v := some (.ref (A (18 : Int32)))) (fun h => by rw [Bd.returns] at h; cases h)
                                        refine ⟨_, _, pre55 _ ?_, hrun, hended, _, _, rfl, ?_, ⟨_, rfl⟩, hW, hsame.mono (by decide) (by decide)⟩
                                        · show Steps pg.tables ee below (s₁.setTop (mkF mm 176 #[.val (.int p)] [(.int (18 : Int32)), (.int p)])) _
                                          refine XS.icmpNo X0.here hx rfl (hb hby d1_176) rfl (teq hc56).2 ?_
                                          show Steps pg.tables ee below (s₁.setTop (mkF mm 179 #[.val (.int p)] [])) _
                                          refine st57 _ ?_
                                          show Steps pg.tables ee below (T57.setTop (mkF mm 182 #[.val (.int p)] [(.ref (A (18 : Int32)))])) _
                                          exact retOut X57 hx Bd.returns rfl (Or.inr (Or.inr (Or.inr (Or.inr ⟨rfl, rfl, rfl⟩)))) (hb hby d1_182) hr
                                        · show QrmKa Z p A h0 n0 _ T57.heap _
                                          rw [e57]
                                          exact ⟨by rw [hc56], N0, rfl⟩
                                      · have pre58 : ∀ t, Steps pg.tables ee below (s₁.setTop (mkF mm 186 #[.val (.int p)] [(.int (19 : Int32)), (.int p)])) t → Steps pg.tables ee below (s₁.setTop (entryFrame mm #[(.int p)] 1)) t := fun t k => pre55 t (by
                                            show Steps pg.tables ee below (s₁.setTop (mkF mm 176 #[.val (.int p)] [(.int (18 : Int32)), (.int p)])) _
                                            refine XS.icmpYes X0.here hx rfl (pc0 := 176) (pc' := 183) rfl (hb hby d1_176) rfl (feq hc56).2 (by decide) (by decide) ?_
                                            show Steps pg.tables ee below (s₁.setTop (mkF mm 183 #[.val (.int p)] [])) _
                                            refine XS.iloadN X0.here hx rfl (hb hby d1_183) rfl ?_
                                            show Steps pg.tables ee below (s₁.setTop (mkF mm 184 #[.val (.int p)] [(.int p)])) _
                                            refine XS.bipush X0.here hx rfl (hb hby d1_184) ?_
                                            exact k)
                                        by_cases hc59 : p = (19 : Int32)
                                        · obtain ⟨T60, X60, e60, st60⟩ := getS2 X0 hx hZ hown (host := "") (Or.inl (hw _ (List.mem_of_getElem? (i := 40) rfl))) Via.refl e0 (S_RECORD.ext O0.2) (g := (mkF mm 189 #[.val (.int p)] [])) rfl (hb hby d1_189)
                                          obtain ⟨fs, hr, hrun, hended, hW, hsame⟩ := X60.leave (v := some (.ref (A (19 : Int32)))) (fun h => by rw [Bd.returns] at h; cases h)
                                          refine ⟨_, _, pre58 _ ?_, hrun, hended, _, _, rfl, ?_, ⟨_, rfl⟩, hW, hsame.mono (by decide) (by decide)⟩
                                          · show Steps pg.tables ee below (s₁.setTop (mkF mm 186 #[.val (.int p)] [(.int (19 : Int32)), (.int p)])) _
                                            refine XS.icmpNo X0.here hx rfl (hb hby d1_186) rfl (teq hc59).2 ?_
                                            show Steps pg.tables ee below (s₁.setTop (mkF mm 189 #[.val (.int p)] [])) _
                                            refine st60 _ ?_
                                            show Steps pg.tables ee below (T60.setTop (mkF mm 192 #[.val (.int p)] [(.ref (A (19 : Int32)))])) _
                                            exact retOut X60 hx Bd.returns rfl (Or.inr (Or.inr (Or.inr (Or.inr ⟨rfl, rfl, rfl⟩)))) (hb hby d1_192) hr
                                          · show QrmKa Z p A h0 n0 _ T60.heap _
                                            rw [e60]
                                            exact ⟨by rw [hc59], N0, rfl⟩
                                        · have pre61 : ∀ t, Steps pg.tables ee below (s₁.setTop (mkF mm 196 #[.val (.int p)] [(.int (20 : Int32)), (.int p)])) t → Steps pg.tables ee below (s₁.setTop (entryFrame mm #[(.int p)] 1)) t := fun t k => pre58 t (by
                                              show Steps pg.tables ee below (s₁.setTop (mkF mm 186 #[.val (.int p)] [(.int (19 : Int32)), (.int p)])) _
                                              refine XS.icmpYes X0.here hx rfl (pc0 := 186) (pc' := 193) rfl (hb hby d1_186) rfl (feq hc59).2 (by decide) (by decide) ?_
                                              show Steps pg.tables ee below (s₁.setTop (mkF mm 193 #[.val (.int p)] [])) _
                                              refine XS.iloadN X0.here hx rfl (hb hby d1_193) rfl ?_
                                              show Steps pg.tables ee below (s₁.setTop (mkF mm 194 #[.val (.int p)] [(.int p)])) _
                                              refine XS.bipush X0.here hx rfl (hb hby d1_194) ?_
                                              exact k)
                                          by_cases hc62 : p = (20 : Int32)
                                          · obtain ⟨T63, X63, e63, st63⟩ := getS2 X0 hx hZ hown (host := "") (Or.inl (hw _ (List.mem_of_getElem? (i := 34) rfl))) Via.refl e0 (S_VARIANT.ext O0.2) (g := (mkF mm 199 #[.val (.int p)] [])) rfl (hb hby d1_199)
                                            obtain ⟨fs, hr, hrun, hended, hW, hsame⟩ := X63.leave (v := some (.ref (A (20 : Int32)))) (fun h => by rw [Bd.returns] at h; cases h)
                                            refine ⟨_, _, pre61 _ ?_, hrun, hended, _, _, rfl, ?_, ⟨_, rfl⟩, hW, hsame.mono (by decide) (by decide)⟩
                                            · show Steps pg.tables ee below (s₁.setTop (mkF mm 196 #[.val (.int p)] [(.int (20 : Int32)), (.int p)])) _
                                              refine XS.icmpNo X0.here hx rfl (hb hby d1_196) rfl (teq hc62).2 ?_
                                              show Steps pg.tables ee below (s₁.setTop (mkF mm 199 #[.val (.int p)] [])) _
                                              refine st63 _ ?_
                                              show Steps pg.tables ee below (T63.setTop (mkF mm 202 #[.val (.int p)] [(.ref (A (20 : Int32)))])) _
                                              exact retOut X63 hx Bd.returns rfl (Or.inr (Or.inr (Or.inr (Or.inr ⟨rfl, rfl, rfl⟩)))) (hb hby d1_202) hr
                                            · show QrmKa Z p A h0 n0 _ T63.heap _
                                              rw [e63]
                                              exact ⟨by rw [hc62], N0, rfl⟩
                                          · have pre64 : ∀ t, Steps pg.tables ee below (s₁.setTop (mkF mm 206 #[.val (.int p)] [(.int (21 : Int32)), (.int p)])) t → Steps pg.tables ee below (s₁.setTop (entryFrame mm #[(.int p)] 1)) t := fun t k => pre61 t (by
                                                show Steps pg.tables ee below (s₁.setTop (mkF mm 196 #[.val (.int p)] [(.int (20 : Int32)), (.int p)])) _
                                                refine XS.icmpYes X0.here hx rfl (pc0 := 196) (pc' := 203) rfl (hb hby d1_196) rfl (feq hc62).2 (by decide) (by decide) ?_
                                                show Steps pg.tables ee below (s₁.setTop (mkF mm 203 #[.val (.int p)] [])) _
                                                refine XS.iloadN X0.here hx rfl (hb hby d1_203) rfl ?_
                                                show Steps pg.tables ee below (s₁.setTop (mkF mm 204 #[.val (.int p)] [(.int p)])) _
                                                refine XS.bipush X0.here hx rfl (hb hby d1_204) ?_
                                                exact k)
                                            by_cases hc65 : p = (21 : Int32)
                                            · obtain ⟨T66, X66, e66, st66⟩ := getS2 X0 hx hZ hown (host := "") (Or.inl (hw _ (List.mem_of_getElem? (i := 66) rfl))) Via.refl e0 (S_FUNC.ext O0.2) (g := (mkF mm 209 #[.val (.int p)] [])) rfl (hb hby d1_209)
                                              obtain ⟨fs, hr, hrun, hended, hW, hsame⟩ := X66.leave (v := some (.ref (A (21 : Int32)))) (fun h => by rw [Bd.returns] at h; cases h)
                                              refine ⟨_, _, pre64 _ ?_, hrun, hended, _, _, rfl, ?_, ⟨_, rfl⟩, hW, hsame.mono (by decide) (by decide)⟩
                                              · show Steps pg.tables ee below (s₁.setTop (mkF mm 206 #[.val (.int p)] [(.int (21 : Int32)), (.int p)])) _
                                                refine XS.icmpNo X0.here hx rfl (hb hby d1_206) rfl (teq hc65).2 ?_
                                                show Steps pg.tables ee below (s₁.setTop (mkF mm 209 #[.val (.int p)] [])) _
                                                refine st66 _ ?_
                                                show Steps pg.tables ee below (T66.setTop (mkF mm 212 #[.val (.int p)] [(.ref (A (21 : Int32)))])) _
                                                exact retOut X66 hx Bd.returns rfl (Or.inr (Or.inr (Or.inr (Or.inr ⟨rfl, rfl, rfl⟩)))) (hb hby d1_212) hr
                                              · show QrmKa Z p A h0 n0 _ T66.heap _
                                                rw [e66]
                                                exact ⟨by rw [hc65], N0, rfl⟩
                                            · have pre67 : ∀ t, Steps pg.tables ee below (s₁.setTop (mkF mm 216 #[.val (.int p)] [(.int (22 : Int32)), (.int p)])) t → Steps pg.tables ee below (s₁.setTop (entryFrame mm #[(.int p)] 1)) t := fun t k => pre64 t (by
                                                  show Steps pg.tables ee below (s₁.setTop (mkF mm 206 #[.val (.int p)] [(.int (21 : Int32)), (.int p)])) _
                                                  refine XS.icmpYes X0.here hx rfl (pc0 := 206) (pc' := 213) rfl (hb hby d1_206) rfl (feq hc65).2 (by decide) (by decide) ?_
                                                  show Steps pg.tables ee below (s₁.setTop (mkF mm 213 #[.val (.int p)] [])) _
                                                  refine XS.iloadN X0.here hx rfl (hb hby d1_213) rfl ?_
                                                  show Steps pg.tables ee below (s₁.setTop (mkF mm 214 #[.val (.int p)] [(.int p)])) _
                                                  refine XS.bipush X0.here hx rfl (hb hby d1_214) ?_
                                                  exact k)
                                              by_cases hc68 : p = (22 : Int32)
                                              · obtain ⟨T69, X69, e69, st69⟩ := getS2 X0 hx hZ hown (host := "") (Or.inl (hw _ (List.mem_of_getElem? (i := 48) rfl))) Via.refl e0 (S_SERVICE.ext O0.2) (g := (mkF mm 219 #[.val (.int p)] [])) rfl (hb hby d1_219)
                                                obtain ⟨fs, hr, hrun, hended, hW, hsame⟩ := X69.leave (v := some (.ref (A (22 : Int32)))) (fun h => by rw [Bd.returns] at h; cases h)
                                                refine ⟨_, _, pre67 _ ?_, hrun, hended, _, _, rfl, ?_, ⟨_, rfl⟩, hW, hsame.mono (by decide) (by decide)⟩
                                                · show Steps pg.tables ee below (s₁.setTop (mkF mm 216 #[.val (.int p)] [(.int (22 : Int32)), (.int p)])) _
                                                  refine XS.icmpNo X0.here hx rfl (hb hby d1_216) rfl (teq hc68).2 ?_
                                                  show Steps pg.tables ee below (s₁.setTop (mkF mm 219 #[.val (.int p)] [])) _
                                                  refine st69 _ ?_
                                                  show Steps pg.tables ee below (T69.setTop (mkF mm 222 #[.val (.int p)] [(.ref (A (22 : Int32)))])) _
                                                  exact retOut X69 hx Bd.returns rfl (Or.inr (Or.inr (Or.inr (Or.inr ⟨rfl, rfl, rfl⟩)))) (hb hby d1_222) hr
                                                · show QrmKa Z p A h0 n0 _ T69.heap _
                                                  rw [e69]
                                                  exact ⟨by rw [hc68], N0, rfl⟩
                                              · have pre70 : ∀ t, Steps pg.tables ee below (s₁.setTop (mkF mm 226 #[.val (.int p)] [(.int (23 : Int32)), (.int p)])) t → Steps pg.tables ee below (s₁.setTop (entryFrame mm #[(.int p)] 1)) t := fun t k => pre67 t (by
                                                    show Steps pg.tables ee below (s₁.setTop (mkF mm 216 #[.val (.int p)] [(.int (22 : Int32)), (.int p)])) _
                                                    refine XS.icmpYes X0.here hx rfl (pc0 := 216) (pc' := 223) rfl (hb hby d1_216) rfl (feq hc68).2 (by decide) (by decide) ?_
                                                    show Steps pg.tables ee below (s₁.setTop (mkF mm 223 #[.val (.int p)] [])) _
                                                    refine XS.iloadN X0.here hx rfl (hb hby d1_223) rfl ?_
                                                    show Steps pg.tables ee below (s₁.setTop (mkF mm 224 #[.val (.int p)] [(.int p)])) _
                                                    refine XS.bipush X0.here hx rfl (hb hby d1_224) ?_
                                                    exact k)
                                                by_cases hc71 : p = (23 : Int32)
                                                · obtain ⟨T72, X72, e72, st72⟩ := getS2 X0 hx hZ hown (host := "") (Or.inl (hw _ (List.mem_of_getElem? (i := 54) rfl))) Via.refl e0 (S_PRINCIPAL.ext O0.2) (g := (mkF mm 229 #[.val (.int p)] [])) rfl (hb hby d1_229)
                                                  obtain ⟨fs, hr, hrun, hended, hW, hsame⟩ := X72.leave (v := some (.ref (A (23 : Int32)))) (fun h => by rw [Bd.returns] at h; cases h)
                                                  refine ⟨_, _, pre70 _ ?_, hrun, hended, _, _, rfl, ?_, ⟨_, rfl⟩, hW, hsame.mono (by decide) (by decide)⟩
                                                  · show Steps pg.tables ee below (s₁.setTop (mkF mm 226 #[.val (.int p)] [(.int (23 : Int32)), (.int p)])) _
                                                    refine XS.icmpNo X0.here hx rfl (hb hby d1_226) rfl (teq hc71).2 ?_
                                                    show Steps pg.tables ee below (s₁.setTop (mkF mm 229 #[.val (.int p)] [])) _
                                                    refine st72 _ ?_
                                                    show Steps pg.tables ee below (T72.setTop (mkF mm 232 #[.val (.int p)] [(.ref (A (23 : Int32)))])) _
                                                    exact retOut X72 hx Bd.returns rfl (Or.inr (Or.inr (Or.inr (Or.inr ⟨rfl, rfl, rfl⟩)))) (hb hby d1_232) hr
                                                  · show QrmKa Z p A h0 n0 _ T72.heap _
                                                    rw [e72]
                                                    exact ⟨by rw [hc71], N0, rfl⟩
                                                · obtain ⟨T73, X73, e73, st73⟩ := getS2 X0 hx hZ hown (host := "") (Or.inl (hw _ (List.mem_of_getElem? (i := 27) rfl))) Via.refl e0 (S_FUTURE.ext O0.2) (g := (mkF mm 233 #[.val (.int p)] [])) rfl (hb hby d1_233)
                                                  obtain ⟨fs, hr, hrun, hended, hW, hsame⟩ := X73.leave (v := some (.ref (A (24 : Int32)))) (fun h => by rw [Bd.returns] at h; cases h)
                                                  refine ⟨_, _, pre70 _ ?_, hrun, hended, _, _, rfl, ?_, ⟨_, rfl⟩, hW, hsame.mono (by decide) (by decide)⟩
                                                  · show Steps pg.tables ee below (s₁.setTop (mkF mm 226 #[.val (.int p)] [(.int (23 : Int32)), (.int p)])) _
                                                    refine XS.icmpYes X0.here hx rfl (pc0 := 226) (pc' := 233) rfl (hb hby d1_226) rfl (feq hc71).2 (by decide) (by decide) ?_
                                                    show Steps pg.tables ee below (s₁.setTop (mkF mm 233 #[.val (.int p)] [])) _
                                                    refine st73 _ ?_
                                                    show Steps pg.tables ee below (T73.setTop (mkF mm 236 #[.val (.int p)] [(.ref (A (24 : Int32)))])) _
                                                    exact retOut X73 hx Bd.returns rfl (Or.inr (Or.inr (Or.inr (Or.inr ⟨rfl, rfl, rfl⟩)))) (hb hby d1_236) hr
                                                  · show QrmKa Z p A h0 n0 _ T73.heap _
                                                    rw [e73]
                                                    exact ⟨by rw [((((((((((((((((((((((((hp.resolve_left hc2).resolve_left hc5).resolve_left hc8).resolve_left hc11).resolve_left hc14).resolve_left hc17).resolve_left hc20).resolve_left hc23).resolve_left hc26).resolve_left hc29).resolve_left hc32).resolve_left hc35).resolve_left hc38).resolve_left hc41).resolve_left hc44).resolve_left hc47).resolve_left hc50).resolve_left hc53).resolve_left hc56).resolve_left hc59).resolve_left hc62).resolve_left hc65).resolve_left hc68).resolve_left hc71)], N0, rfl⟩
theorem d2_0 : decode method_3_code 0 = .ok (.iload_n 0, 1) := by decide +kernel
theorem d2_1 : decode method_3_code 1 = .ok (.iconst 2, 1) := by decide +kernel
theorem d2_2 : decode method_3_code 2 = .ok (.if_icmp .ne 5, 3) := by decide +kernel
theorem d2_5 : decode method_3_code 5 = .ok (.iconst 1, 1) := by decide +kernel
theorem d2_6 : decode method_3_code 6 = .ok (.ireturn, 1) := by decide +kernel
theorem d2_7 : decode method_3_code 7 = .ok (.iload_n 0, 1) := by decide +kernel
theorem d2_8 : decode method_3_code 8 = .ok (.iconst 3, 1) := by decide +kernel
theorem d2_9 : decode method_3_code 9 = .ok (.if_icmp .ne 5, 3) := by decide +kernel
theorem d2_12 : decode method_3_code 12 = .ok (.iconst 1, 1) := by decide +kernel
theorem d2_13 : decode method_3_code 13 = .ok (.ireturn, 1) := by decide +kernel
theorem d2_14 : decode method_3_code 14 = .ok (.iload_n 0, 1) := by decide +kernel
theorem d2_15 : decode method_3_code 15 = .ok (.iconst 4, 1) := by decide +kernel
theorem d2_16 : decode method_3_code 16 = .ok (.if_icmp .ne 5, 3) := by decide +kernel
theorem d2_19 : decode method_3_code 19 = .ok (.iconst 1, 1) := by decide +kernel
theorem d2_20 : decode method_3_code 20 = .ok (.ireturn, 1) := by decide +kernel
theorem d2_21 : decode method_3_code 21 = .ok (.iload_n 0, 1) := by decide +kernel
theorem d2_22 : decode method_3_code 22 = .ok (.iconst 5, 1) := by decide +kernel
theorem d2_23 : decode method_3_code 23 = .ok (.if_icmp .ne 5, 3) := by decide +kernel
theorem d2_26 : decode method_3_code 26 = .ok (.iconst 1, 1) := by decide +kernel
theorem d2_27 : decode method_3_code 27 = .ok (.ireturn, 1) := by decide +kernel
theorem d2_28 : decode method_3_code 28 = .ok (.iload_n 0, 1) := by decide +kernel
theorem d2_29 : decode method_3_code 29 = .ok (.bipush 6, 2) := by decide +kernel
theorem d2_31 : decode method_3_code 31 = .ok (.if_icmp .ne 5, 3) := by decide +kernel
theorem d2_34 : decode method_3_code 34 = .ok (.iconst 1, 1) := by decide +kernel
theorem d2_35 : decode method_3_code 35 = .ok (.ireturn, 1) := by decide +kernel
theorem d2_36 : decode method_3_code 36 = .ok (.iload_n 0, 1) := by decide +kernel
theorem d2_37 : decode method_3_code 37 = .ok (.bipush 7, 2) := by decide +kernel
theorem d2_39 : decode method_3_code 39 = .ok (.if_icmp .ne 5, 3) := by decide +kernel
theorem d2_42 : decode method_3_code 42 = .ok (.iconst 1, 1) := by decide +kernel
theorem d2_43 : decode method_3_code 43 = .ok (.ireturn, 1) := by decide +kernel
theorem d2_44 : decode method_3_code 44 = .ok (.iload_n 0, 1) := by decide +kernel
theorem d2_45 : decode method_3_code 45 = .ok (.bipush 8, 2) := by decide +kernel
theorem d2_47 : decode method_3_code 47 = .ok (.if_icmp .ne 5, 3) := by decide +kernel
theorem d2_50 : decode method_3_code 50 = .ok (.iconst 1, 1) := by decide +kernel
theorem d2_51 : decode method_3_code 51 = .ok (.ireturn, 1) := by decide +kernel
theorem d2_52 : decode method_3_code 52 = .ok (.iload_n 0, 1) := by decide +kernel
theorem d2_53 : decode method_3_code 53 = .ok (.bipush 9, 2) := by decide +kernel
theorem d2_55 : decode method_3_code 55 = .ok (.if_icmp .ne 5, 3) := by decide +kernel
theorem d2_58 : decode method_3_code 58 = .ok (.iconst 1, 1) := by decide +kernel
theorem d2_59 : decode method_3_code 59 = .ok (.ireturn, 1) := by decide +kernel
theorem d2_60 : decode method_3_code 60 = .ok (.iload_n 0, 1) := by decide +kernel
theorem d2_61 : decode method_3_code 61 = .ok (.bipush 10, 2) := by decide +kernel
theorem d2_63 : decode method_3_code 63 = .ok (.if_icmp .ne 5, 3) := by decide +kernel
theorem d2_66 : decode method_3_code 66 = .ok (.iconst 1, 1) := by decide +kernel
theorem d2_67 : decode method_3_code 67 = .ok (.ireturn, 1) := by decide +kernel
theorem d2_68 : decode method_3_code 68 = .ok (.iload_n 0, 1) := by decide +kernel
theorem d2_69 : decode method_3_code 69 = .ok (.bipush 11, 2) := by decide +kernel
theorem d2_71 : decode method_3_code 71 = .ok (.if_icmp .ne 5, 3) := by decide +kernel
theorem d2_74 : decode method_3_code 74 = .ok (.iconst 1, 1) := by decide +kernel
theorem d2_75 : decode method_3_code 75 = .ok (.ireturn, 1) := by decide +kernel
theorem d2_76 : decode method_3_code 76 = .ok (.iconst 0, 1) := by decide +kernel
theorem d2_77 : decode method_3_code 77 = .ok (.ireturn, 1) := by decide +kernel
theorem ef_2_175 (m : MethodId) (x0 : Int32) : entryFrame m #[(.int x0)] 1 = mkF m 0 #[.val (.int x0)] [] := by first | (simp [entryFrame, mkF, argsToLocals, Value.category]; done) | rfl
def QrmIx (Z : State) (p : Int32) (h0 : Heap) (n0 : Nat) (v : Option Value) (h : Heap) (L : List Loc) : Prop := v = some (.int (own_f p)) ∧ Fr n0 L ∧ h = h0
set_option maxRecDepth 65536 in
set_option maxHeartbeats 40000000 in
theorem rmIx (l : Launch) (Z : State) (a0 : Array Value) (hw : ∀ d ∈ tables_1, d.before a0 Z = true) (ws : List Jvm.Cond) (p : Int32) (h0 : Heap) (n0 : Nat) (O0 : Old Z n0 h0)  :
    MetFree l (⟨"com/example/safe_node_calls/safenodecalls/ic/candid/KindIsIntegerPinLaw", "isIntegerIndex", "(I)Z"⟩ : MethodName) (head1 (Jvm.Cond.code (⟨"com/example/safe_node_calls/safenodecalls/ic/candid/KindIsIntegerPinLaw", "isIntegerIndex", "(I)Z"⟩ : MethodName) method_3_code 1 (some .boolean) :: ws) ({ frames := 0, cells := 0, slots := 0, locals := 0 } : Room)) (fun a_ U_ => a_ = #[(.int p)] ∧ Z.Warmed39 U_.vm ∧ U_.heap = h0) (fun _ _ _ _ _ => True) (fun _ U_ o_ U'_ => ∃ v_ L_, o_ = .returned v_ ∧ QrmIx Z p h0 n0 v_ U'_.heap L_ ∧ FrameEnd U_ o_ U'_ L_ ({ frames := 0, cells := 0, slots := 0, locals := 0 } : Room).cells ({ frames := 0, cells := 0, slots := 0, locals := 0 } : Room).slots) := by
  refine MetFree.of_bodySF (plainFor_of_name pn_121) hisR ?_
  intro pg ee s mm args below meth cc s₁ Bd hml0 hP hK
  obtain ⟨rfl, hZ, hh⟩ := hP
  have hx := Bd.exec
  have hby := Bd.bytes
  have hml : cc.maxLocals = 1 := hml0
  have hown : s.vm.findClass "com/example/safe_node_calls/safenodecalls/ic/candid/KindIsIntegerPinLaw" = some mm.cls := findClass_of_methodNamed Bd.named
  have hnm := (name_of_methodNamed Bd.named Bd.method).1
  have X0 : Stand pg l ee ({ frames := 0, cells := 0, slots := 0, locals := 0 } : Room) s mm #[(.int p)] below meth cc s₁ [] 0 0 := Stand.of_body Bd
  have e0 : s₁.heap = h0 := by rw [← hh, Bd.state]; rfl
  have N0 := Fr.nil n0
  have K0 : Keep h0 h0 ([] : List Addr) := Keep.refl _ _
  have pre0 : ∀ t, Steps pg.tables ee below (s₁.setTop (mkF mm 0 #[.val (.int p)] [])) t → Steps pg.tables ee below (s₁.setTop (entryFrame mm #[(.int p)] 1)) t := fun t k => castTop (ef_2_175 mm p) k
  have pre1 : ∀ t, Steps pg.tables ee below (s₁.setTop (mkF mm 2 #[.val (.int p)] [(.int (2 : Int32)), (.int p)])) t → Steps pg.tables ee below (s₁.setTop (entryFrame mm #[(.int p)] 1)) t := fun t k => pre0 t (by
      show Steps pg.tables ee below (s₁.setTop (mkF mm 0 #[.val (.int p)] [])) _
      refine XS.iloadN X0.here hx rfl (hb hby d2_0) rfl ?_
      show Steps pg.tables ee below (s₁.setTop (mkF mm 1 #[.val (.int p)] [(.int p)])) _
      refine XS.iconst X0.here hx rfl (hb hby d2_1) ?_
      exact k)
  by_cases hc2 : p = (2 : Int32)
  · obtain ⟨fs, hr, hrun, hended, hW, hsame⟩ := X0.leave (v := some (.int (1 : Int32))) (fun h => by rw [Bd.returns] at h; cases h)
    refine ⟨_, _, pre1 _ ?_, hrun, hended, _, _, rfl, ?_, ⟨_, rfl⟩, hW, hsame.mono (by decide) (by decide)⟩
    · show Steps pg.tables ee below (s₁.setTop (mkF mm 2 #[.val (.int p)] [(.int (2 : Int32)), (.int p)])) _
      refine XS.icmpNo X0.here hx rfl (hb hby d2_2) rfl (teq hc2).2 ?_
      show Steps pg.tables ee below (s₁.setTop (mkF mm 5 #[.val (.int p)] [])) _
      refine XS.iconst X0.here hx rfl (hb hby d2_5) ?_
      show Steps pg.tables ee below (s₁.setTop (mkF mm 6 #[.val (.int p)] [(.int (1 : Int32))])) _
      exact retN X0 hx (t := .boolean) Bd.returns (by simp) (hb hby d2_6) hr
    · show QrmIx Z p h0 n0 _ s₁.heap _
      rw [e0]
      exact ⟨by rw [hc2]; rfl, N0, rfl⟩
  · have pre3 : ∀ t, Steps pg.tables ee below (s₁.setTop (mkF mm 9 #[.val (.int p)] [(.int (3 : Int32)), (.int p)])) t → Steps pg.tables ee below (s₁.setTop (entryFrame mm #[(.int p)] 1)) t := fun t k => pre1 t (by
        show Steps pg.tables ee below (s₁.setTop (mkF mm 2 #[.val (.int p)] [(.int (2 : Int32)), (.int p)])) _
        refine XS.icmpYes X0.here hx rfl (pc0 := 2) (pc' := 7) rfl (hb hby d2_2) rfl (feq hc2).2 (by decide) (by decide) ?_
        show Steps pg.tables ee below (s₁.setTop (mkF mm 7 #[.val (.int p)] [])) _
        refine XS.iloadN X0.here hx rfl (hb hby d2_7) rfl ?_
        show Steps pg.tables ee below (s₁.setTop (mkF mm 8 #[.val (.int p)] [(.int p)])) _
        refine XS.iconst X0.here hx rfl (hb hby d2_8) ?_
        exact k)
    by_cases hc4 : p = (3 : Int32)
    · obtain ⟨fs, hr, hrun, hended, hW, hsame⟩ := X0.leave (v := some (.int (1 : Int32))) (fun h => by rw [Bd.returns] at h; cases h)
      refine ⟨_, _, pre3 _ ?_, hrun, hended, _, _, rfl, ?_, ⟨_, rfl⟩, hW, hsame.mono (by decide) (by decide)⟩
      · show Steps pg.tables ee below (s₁.setTop (mkF mm 9 #[.val (.int p)] [(.int (3 : Int32)), (.int p)])) _
        refine XS.icmpNo X0.here hx rfl (hb hby d2_9) rfl (teq hc4).2 ?_
        show Steps pg.tables ee below (s₁.setTop (mkF mm 12 #[.val (.int p)] [])) _
        refine XS.iconst X0.here hx rfl (hb hby d2_12) ?_
        show Steps pg.tables ee below (s₁.setTop (mkF mm 13 #[.val (.int p)] [(.int (1 : Int32))])) _
        exact retN X0 hx (t := .boolean) Bd.returns (by simp) (hb hby d2_13) hr
      · show QrmIx Z p h0 n0 _ s₁.heap _
        rw [e0]
        exact ⟨by rw [hc4]; rfl, N0, rfl⟩
    · have pre5 : ∀ t, Steps pg.tables ee below (s₁.setTop (mkF mm 16 #[.val (.int p)] [(.int (4 : Int32)), (.int p)])) t → Steps pg.tables ee below (s₁.setTop (entryFrame mm #[(.int p)] 1)) t := fun t k => pre3 t (by
          show Steps pg.tables ee below (s₁.setTop (mkF mm 9 #[.val (.int p)] [(.int (3 : Int32)), (.int p)])) _
          refine XS.icmpYes X0.here hx rfl (pc0 := 9) (pc' := 14) rfl (hb hby d2_9) rfl (feq hc4).2 (by decide) (by decide) ?_
          show Steps pg.tables ee below (s₁.setTop (mkF mm 14 #[.val (.int p)] [])) _
          refine XS.iloadN X0.here hx rfl (hb hby d2_14) rfl ?_
          show Steps pg.tables ee below (s₁.setTop (mkF mm 15 #[.val (.int p)] [(.int p)])) _
          refine XS.iconst X0.here hx rfl (hb hby d2_15) ?_
          exact k)
      by_cases hc6 : p = (4 : Int32)
      · obtain ⟨fs, hr, hrun, hended, hW, hsame⟩ := X0.leave (v := some (.int (1 : Int32))) (fun h => by rw [Bd.returns] at h; cases h)
        refine ⟨_, _, pre5 _ ?_, hrun, hended, _, _, rfl, ?_, ⟨_, rfl⟩, hW, hsame.mono (by decide) (by decide)⟩
        · show Steps pg.tables ee below (s₁.setTop (mkF mm 16 #[.val (.int p)] [(.int (4 : Int32)), (.int p)])) _
          refine XS.icmpNo X0.here hx rfl (hb hby d2_16) rfl (teq hc6).2 ?_
          show Steps pg.tables ee below (s₁.setTop (mkF mm 19 #[.val (.int p)] [])) _
          refine XS.iconst X0.here hx rfl (hb hby d2_19) ?_
          show Steps pg.tables ee below (s₁.setTop (mkF mm 20 #[.val (.int p)] [(.int (1 : Int32))])) _
          exact retN X0 hx (t := .boolean) Bd.returns (by simp) (hb hby d2_20) hr
        · show QrmIx Z p h0 n0 _ s₁.heap _
          rw [e0]
          exact ⟨by rw [hc6]; rfl, N0, rfl⟩
      · have pre7 : ∀ t, Steps pg.tables ee below (s₁.setTop (mkF mm 23 #[.val (.int p)] [(.int (5 : Int32)), (.int p)])) t → Steps pg.tables ee below (s₁.setTop (entryFrame mm #[(.int p)] 1)) t := fun t k => pre5 t (by
            show Steps pg.tables ee below (s₁.setTop (mkF mm 16 #[.val (.int p)] [(.int (4 : Int32)), (.int p)])) _
            refine XS.icmpYes X0.here hx rfl (pc0 := 16) (pc' := 21) rfl (hb hby d2_16) rfl (feq hc6).2 (by decide) (by decide) ?_
            show Steps pg.tables ee below (s₁.setTop (mkF mm 21 #[.val (.int p)] [])) _
            refine XS.iloadN X0.here hx rfl (hb hby d2_21) rfl ?_
            show Steps pg.tables ee below (s₁.setTop (mkF mm 22 #[.val (.int p)] [(.int p)])) _
            refine XS.iconst X0.here hx rfl (hb hby d2_22) ?_
            exact k)
        by_cases hc8 : p = (5 : Int32)
        · obtain ⟨fs, hr, hrun, hended, hW, hsame⟩ := X0.leave (v := some (.int (1 : Int32))) (fun h => by rw [Bd.returns] at h; cases h)
          refine ⟨_, _, pre7 _ ?_, hrun, hended, _, _, rfl, ?_, ⟨_, rfl⟩, hW, hsame.mono (by decide) (by decide)⟩
          · show Steps pg.tables ee below (s₁.setTop (mkF mm 23 #[.val (.int p)] [(.int (5 : Int32)), (.int p)])) _
            refine XS.icmpNo X0.here hx rfl (hb hby d2_23) rfl (teq hc8).2 ?_
            show Steps pg.tables ee below (s₁.setTop (mkF mm 26 #[.val (.int p)] [])) _
            refine XS.iconst X0.here hx rfl (hb hby d2_26) ?_
            show Steps pg.tables ee below (s₁.setTop (mkF mm 27 #[.val (.int p)] [(.int (1 : Int32))])) _
            exact retN X0 hx (t := .boolean) Bd.returns (by simp) (hb hby d2_27) hr
          · show QrmIx Z p h0 n0 _ s₁.heap _
            rw [e0]
            exact ⟨by rw [hc8]; rfl, N0, rfl⟩
        · have pre9 : ∀ t, Steps pg.tables ee below (s₁.setTop (mkF mm 31 #[.val (.int p)] [(.int (6 : Int32)), (.int p)])) t → Steps pg.tables ee below (s₁.setTop (entryFrame mm #[(.int p)] 1)) t := fun t k => pre7 t (by
              show Steps pg.tables ee below (s₁.setTop (mkF mm 23 #[.val (.int p)] [(.int (5 : Int32)), (.int p)])) _
              refine XS.icmpYes X0.here hx rfl (pc0 := 23) (pc' := 28) rfl (hb hby d2_23) rfl (feq hc8).2 (by decide) (by decide) ?_
              show Steps pg.tables ee below (s₁.setTop (mkF mm 28 #[.val (.int p)] [])) _
              refine XS.iloadN X0.here hx rfl (hb hby d2_28) rfl ?_
              show Steps pg.tables ee below (s₁.setTop (mkF mm 29 #[.val (.int p)] [(.int p)])) _
              refine XS.bipush X0.here hx rfl (hb hby d2_29) ?_
              exact k)
          by_cases hc10 : p = (6 : Int32)
          · obtain ⟨fs, hr, hrun, hended, hW, hsame⟩ := X0.leave (v := some (.int (1 : Int32))) (fun h => by rw [Bd.returns] at h; cases h)
            refine ⟨_, _, pre9 _ ?_, hrun, hended, _, _, rfl, ?_, ⟨_, rfl⟩, hW, hsame.mono (by decide) (by decide)⟩
            · show Steps pg.tables ee below (s₁.setTop (mkF mm 31 #[.val (.int p)] [(.int (6 : Int32)), (.int p)])) _
              refine XS.icmpNo X0.here hx rfl (hb hby d2_31) rfl (teq hc10).2 ?_
              show Steps pg.tables ee below (s₁.setTop (mkF mm 34 #[.val (.int p)] [])) _
              refine XS.iconst X0.here hx rfl (hb hby d2_34) ?_
              show Steps pg.tables ee below (s₁.setTop (mkF mm 35 #[.val (.int p)] [(.int (1 : Int32))])) _
              exact retN X0 hx (t := .boolean) Bd.returns (by simp) (hb hby d2_35) hr
            · show QrmIx Z p h0 n0 _ s₁.heap _
              rw [e0]
              exact ⟨by rw [hc10]; rfl, N0, rfl⟩
          · have pre11 : ∀ t, Steps pg.tables ee below (s₁.setTop (mkF mm 39 #[.val (.int p)] [(.int (7 : Int32)), (.int p)])) t → Steps pg.tables ee below (s₁.setTop (entryFrame mm #[(.int p)] 1)) t := fun t k => pre9 t (by
                show Steps pg.tables ee below (s₁.setTop (mkF mm 31 #[.val (.int p)] [(.int (6 : Int32)), (.int p)])) _
                refine XS.icmpYes X0.here hx rfl (pc0 := 31) (pc' := 36) rfl (hb hby d2_31) rfl (feq hc10).2 (by decide) (by decide) ?_
                show Steps pg.tables ee below (s₁.setTop (mkF mm 36 #[.val (.int p)] [])) _
                refine XS.iloadN X0.here hx rfl (hb hby d2_36) rfl ?_
                show Steps pg.tables ee below (s₁.setTop (mkF mm 37 #[.val (.int p)] [(.int p)])) _
                refine XS.bipush X0.here hx rfl (hb hby d2_37) ?_
                exact k)
            by_cases hc12 : p = (7 : Int32)
            · obtain ⟨fs, hr, hrun, hended, hW, hsame⟩ := X0.leave (v := some (.int (1 : Int32))) (fun h => by rw [Bd.returns] at h; cases h)
              refine ⟨_, _, pre11 _ ?_, hrun, hended, _, _, rfl, ?_, ⟨_, rfl⟩, hW, hsame.mono (by decide) (by decide)⟩
              · show Steps pg.tables ee below (s₁.setTop (mkF mm 39 #[.val (.int p)] [(.int (7 : Int32)), (.int p)])) _
                refine XS.icmpNo X0.here hx rfl (hb hby d2_39) rfl (teq hc12).2 ?_
                show Steps pg.tables ee below (s₁.setTop (mkF mm 42 #[.val (.int p)] [])) _
                refine XS.iconst X0.here hx rfl (hb hby d2_42) ?_
                show Steps pg.tables ee below (s₁.setTop (mkF mm 43 #[.val (.int p)] [(.int (1 : Int32))])) _
                exact retN X0 hx (t := .boolean) Bd.returns (by simp) (hb hby d2_43) hr
              · show QrmIx Z p h0 n0 _ s₁.heap _
                rw [e0]
                exact ⟨by rw [hc12]; rfl, N0, rfl⟩
            · have pre13 : ∀ t, Steps pg.tables ee below (s₁.setTop (mkF mm 47 #[.val (.int p)] [(.int (8 : Int32)), (.int p)])) t → Steps pg.tables ee below (s₁.setTop (entryFrame mm #[(.int p)] 1)) t := fun t k => pre11 t (by
                  show Steps pg.tables ee below (s₁.setTop (mkF mm 39 #[.val (.int p)] [(.int (7 : Int32)), (.int p)])) _
                  refine XS.icmpYes X0.here hx rfl (pc0 := 39) (pc' := 44) rfl (hb hby d2_39) rfl (feq hc12).2 (by decide) (by decide) ?_
                  show Steps pg.tables ee below (s₁.setTop (mkF mm 44 #[.val (.int p)] [])) _
                  refine XS.iloadN X0.here hx rfl (hb hby d2_44) rfl ?_
                  show Steps pg.tables ee below (s₁.setTop (mkF mm 45 #[.val (.int p)] [(.int p)])) _
                  refine XS.bipush X0.here hx rfl (hb hby d2_45) ?_
                  exact k)
              by_cases hc14 : p = (8 : Int32)
              · obtain ⟨fs, hr, hrun, hended, hW, hsame⟩ := X0.leave (v := some (.int (1 : Int32))) (fun h => by rw [Bd.returns] at h; cases h)
                refine ⟨_, _, pre13 _ ?_, hrun, hended, _, _, rfl, ?_, ⟨_, rfl⟩, hW, hsame.mono (by decide) (by decide)⟩
                · show Steps pg.tables ee below (s₁.setTop (mkF mm 47 #[.val (.int p)] [(.int (8 : Int32)), (.int p)])) _
                  refine XS.icmpNo X0.here hx rfl (hb hby d2_47) rfl (teq hc14).2 ?_
                  show Steps pg.tables ee below (s₁.setTop (mkF mm 50 #[.val (.int p)] [])) _
                  refine XS.iconst X0.here hx rfl (hb hby d2_50) ?_
                  show Steps pg.tables ee below (s₁.setTop (mkF mm 51 #[.val (.int p)] [(.int (1 : Int32))])) _
                  exact retN X0 hx (t := .boolean) Bd.returns (by simp) (hb hby d2_51) hr
                · show QrmIx Z p h0 n0 _ s₁.heap _
                  rw [e0]
                  exact ⟨by rw [hc14]; rfl, N0, rfl⟩
              · have pre15 : ∀ t, Steps pg.tables ee below (s₁.setTop (mkF mm 55 #[.val (.int p)] [(.int (9 : Int32)), (.int p)])) t → Steps pg.tables ee below (s₁.setTop (entryFrame mm #[(.int p)] 1)) t := fun t k => pre13 t (by
                    show Steps pg.tables ee below (s₁.setTop (mkF mm 47 #[.val (.int p)] [(.int (8 : Int32)), (.int p)])) _
                    refine XS.icmpYes X0.here hx rfl (pc0 := 47) (pc' := 52) rfl (hb hby d2_47) rfl (feq hc14).2 (by decide) (by decide) ?_
                    show Steps pg.tables ee below (s₁.setTop (mkF mm 52 #[.val (.int p)] [])) _
                    refine XS.iloadN X0.here hx rfl (hb hby d2_52) rfl ?_
                    show Steps pg.tables ee below (s₁.setTop (mkF mm 53 #[.val (.int p)] [(.int p)])) _
                    refine XS.bipush X0.here hx rfl (hb hby d2_53) ?_
                    exact k)
                by_cases hc16 : p = (9 : Int32)
                · obtain ⟨fs, hr, hrun, hended, hW, hsame⟩ := X0.leave (v := some (.int (1 : Int32))) (fun h => by rw [Bd.returns] at h; cases h)
                  refine ⟨_, _, pre15 _ ?_, hrun, hended, _, _, rfl, ?_, ⟨_, rfl⟩, hW, hsame.mono (by decide) (by decide)⟩
                  · show Steps pg.tables ee below (s₁.setTop (mkF mm 55 #[.val (.int p)] [(.int (9 : Int32)), (.int p)])) _
                    refine XS.icmpNo X0.here hx rfl (hb hby d2_55) rfl (teq hc16).2 ?_
                    show Steps pg.tables ee below (s₁.setTop (mkF mm 58 #[.val (.int p)] [])) _
                    refine XS.iconst X0.here hx rfl (hb hby d2_58) ?_
                    show Steps pg.tables ee below (s₁.setTop (mkF mm 59 #[.val (.int p)] [(.int (1 : Int32))])) _
                    exact retN X0 hx (t := .boolean) Bd.returns (by simp) (hb hby d2_59) hr
                  · show QrmIx Z p h0 n0 _ s₁.heap _
                    rw [e0]
                    exact ⟨by rw [hc16]; rfl, N0, rfl⟩
                · have pre17 : ∀ t, Steps pg.tables ee below (s₁.setTop (mkF mm 63 #[.val (.int p)] [(.int (10 : Int32)), (.int p)])) t → Steps pg.tables ee below (s₁.setTop (entryFrame mm #[(.int p)] 1)) t := fun t k => pre15 t (by
                      show Steps pg.tables ee below (s₁.setTop (mkF mm 55 #[.val (.int p)] [(.int (9 : Int32)), (.int p)])) _
                      refine XS.icmpYes X0.here hx rfl (pc0 := 55) (pc' := 60) rfl (hb hby d2_55) rfl (feq hc16).2 (by decide) (by decide) ?_
                      show Steps pg.tables ee below (s₁.setTop (mkF mm 60 #[.val (.int p)] [])) _
                      refine XS.iloadN X0.here hx rfl (hb hby d2_60) rfl ?_
                      show Steps pg.tables ee below (s₁.setTop (mkF mm 61 #[.val (.int p)] [(.int p)])) _
                      refine XS.bipush X0.here hx rfl (hb hby d2_61) ?_
                      exact k)
                  by_cases hc18 : p = (10 : Int32)
                  · obtain ⟨fs, hr, hrun, hended, hW, hsame⟩ := X0.leave (v := some (.int (1 : Int32))) (fun h => by rw [Bd.returns] at h; cases h)
                    refine ⟨_, _, pre17 _ ?_, hrun, hended, _, _, rfl, ?_, ⟨_, rfl⟩, hW, hsame.mono (by decide) (by decide)⟩
                    · show Steps pg.tables ee below (s₁.setTop (mkF mm 63 #[.val (.int p)] [(.int (10 : Int32)), (.int p)])) _
                      refine XS.icmpNo X0.here hx rfl (hb hby d2_63) rfl (teq hc18).2 ?_
                      show Steps pg.tables ee below (s₁.setTop (mkF mm 66 #[.val (.int p)] [])) _
                      refine XS.iconst X0.here hx rfl (hb hby d2_66) ?_
                      show Steps pg.tables ee below (s₁.setTop (mkF mm 67 #[.val (.int p)] [(.int (1 : Int32))])) _
                      exact retN X0 hx (t := .boolean) Bd.returns (by simp) (hb hby d2_67) hr
                    · show QrmIx Z p h0 n0 _ s₁.heap _
                      rw [e0]
                      exact ⟨by rw [hc18]; rfl, N0, rfl⟩
                  · have pre19 : ∀ t, Steps pg.tables ee below (s₁.setTop (mkF mm 71 #[.val (.int p)] [(.int (11 : Int32)), (.int p)])) t → Steps pg.tables ee below (s₁.setTop (entryFrame mm #[(.int p)] 1)) t := fun t k => pre17 t (by
                        show Steps pg.tables ee below (s₁.setTop (mkF mm 63 #[.val (.int p)] [(.int (10 : Int32)), (.int p)])) _
                        refine XS.icmpYes X0.here hx rfl (pc0 := 63) (pc' := 68) rfl (hb hby d2_63) rfl (feq hc18).2 (by decide) (by decide) ?_
                        show Steps pg.tables ee below (s₁.setTop (mkF mm 68 #[.val (.int p)] [])) _
                        refine XS.iloadN X0.here hx rfl (hb hby d2_68) rfl ?_
                        show Steps pg.tables ee below (s₁.setTop (mkF mm 69 #[.val (.int p)] [(.int p)])) _
                        refine XS.bipush X0.here hx rfl (hb hby d2_69) ?_
                        exact k)
                    by_cases hc20 : p = (11 : Int32)
                    · obtain ⟨fs, hr, hrun, hended, hW, hsame⟩ := X0.leave (v := some (.int (1 : Int32))) (fun h => by rw [Bd.returns] at h; cases h)
                      refine ⟨_, _, pre19 _ ?_, hrun, hended, _, _, rfl, ?_, ⟨_, rfl⟩, hW, hsame.mono (by decide) (by decide)⟩
                      · show Steps pg.tables ee below (s₁.setTop (mkF mm 71 #[.val (.int p)] [(.int (11 : Int32)), (.int p)])) _
                        refine XS.icmpNo X0.here hx rfl (hb hby d2_71) rfl (teq hc20).2 ?_
                        show Steps pg.tables ee below (s₁.setTop (mkF mm 74 #[.val (.int p)] [])) _
                        refine XS.iconst X0.here hx rfl (hb hby d2_74) ?_
                        show Steps pg.tables ee below (s₁.setTop (mkF mm 75 #[.val (.int p)] [(.int (1 : Int32))])) _
                        exact retN X0 hx (t := .boolean) Bd.returns (by simp) (hb hby d2_75) hr
                      · show QrmIx Z p h0 n0 _ s₁.heap _
                        rw [e0]
                        exact ⟨by rw [hc20]; rfl, N0, rfl⟩
                    · obtain ⟨fs, hr, hrun, hended, hW, hsame⟩ := X0.leave (v := some (.int (0 : Int32))) (fun h => by rw [Bd.returns] at h; cases h)
                      refine ⟨_, _, pre19 _ ?_, hrun, hended, _, _, rfl, ?_, ⟨_, rfl⟩, hW, hsame.mono (by decide) (by decide)⟩
                      · show Steps pg.tables ee below (s₁.setTop (mkF mm 71 #[.val (.int p)] [(.int (11 : Int32)), (.int p)])) _
                        refine XS.icmpYes X0.here hx rfl (pc0 := 71) (pc' := 76) rfl (hb hby d2_71) rfl (feq hc20).2 (by decide) (by decide) ?_
                        show Steps pg.tables ee below (s₁.setTop (mkF mm 76 #[.val (.int p)] [])) _
                        refine XS.iconst X0.here hx rfl (hb hby d2_76) ?_
                        show Steps pg.tables ee below (s₁.setTop (mkF mm 77 #[.val (.int p)] [(.int (0 : Int32))])) _
                        exact retN X0 hx (t := .boolean) Bd.returns (by simp) (hb hby d2_77) hr
                      · show QrmIx Z p h0 n0 _ s₁.heap _
                        rw [e0]
                        exact ⟨congrArg (fun z => some (Value.int z)) (by simp only [own_f, hc2, hc4, hc6, hc8, hc10, hc12, hc14, hc16, hc18, hc20, if_false] : (0 : Int32) = own_f p), N0, rfl⟩
def QK (Z : State) (x : Addr) (r : Int32) (h0 : Heap) (n0 : Nat) (v : Option Value) (h : Heap) (L : List Loc) : Prop := v = some (.int r) ∧ Fr n0 L ∧ h = h0
theorem d3_0 : decode prog_59_method_12_code 0 = .ok (.aload_n 0, 1) := by decide +kernel
theorem d3_1 : decode prog_59_method_12_code 1 = .ok (.getstatic 10, 3) := by decide +kernel
theorem d3_4 : decode prog_59_method_12_code 4 = .ok (.if_acmp .eq 17, 3) := by decide +kernel
theorem d3_21 : decode prog_59_method_12_code 21 = .ok (.iconst 1, 1) := by decide +kernel
theorem d3_22 : decode prog_59_method_12_code 22 = .ok (.goto 4, 3) := by decide +kernel
theorem d3_26 : decode prog_59_method_12_code 26 = .ok (.ireturn, 1) := by decide +kernel
theorem pn_182 : plainName "com/example/safe_node_calls/safenodecalls/ic/candid/CandidType$Kind" = true := by first | (simp [plainName, overriddenIn]; done) | decide +kernel
theorem ef_3_183 (m : MethodId) (x0 : Addr) : entryFrame m #[(.ref x0)] 1 = mkF m 0 #[.val (.ref x0)] [] := by first | (simp [entryFrame, mkF, argsToLocals, Value.category]; done) | rfl
set_option maxRecDepth 65536 in
set_option maxHeartbeats 40000000 in
theorem rmK2 (l : Launch) (Z : State) (a0 : Array Value) (hw : ∀ d ∈ tables_1, d.before a0 Z = true) (ws : List Jvm.Cond) (aN : Addr) (aI : Addr) (h0 : Heap) (n0 : Nat) (O0 : Old Z n0 h0) (S_NAT : Sta Z Z.heap "com/example/safe_node_calls/safenodecalls/ic/candid/CandidType$Kind" "NAT" "Lcom/example/safe_node_calls/safenodecalls/ic/candid/CandidType$Kind;" (.ref aN)) (S_INT : Sta Z Z.heap "com/example/safe_node_calls/safenodecalls/ic/candid/CandidType$Kind" "INT" "Lcom/example/safe_node_calls/safenodecalls/ic/candid/CandidType$Kind;" (.ref aI)) :
    MetFree l (⟨"com/example/safe_node_calls/safenodecalls/ic/candid/CandidType$Kind", "isInteger", "()Z"⟩ : MethodName) (head1 (Jvm.Cond.code (⟨"com/example/safe_node_calls/safenodecalls/ic/candid/CandidType$Kind", "isInteger", "()Z"⟩ : MethodName) prog_59_method_12_code 1 (some .boolean) :: ws) ({ frames := 0, cells := 0, slots := 0, locals := 0 } : Room)) (fun a_ U_ => a_ = #[(.ref aN)] ∧ Z.Warmed39 U_.vm ∧ U_.heap = h0) (fun _ _ _ _ _ => True) (fun _ U_ o_ U'_ => ∃ v_ L_, o_ = .returned v_ ∧ QK Z aN (1 : Int32) h0 n0 v_ U'_.heap L_ ∧ FrameEnd U_ o_ U'_ L_ ({ frames := 0, cells := 0, slots := 0, locals := 0 } : Room).cells ({ frames := 0, cells := 0, slots := 0, locals := 0 } : Room).slots) := by
  refine MetFree.of_bodySF (plainFor_of_name pn_182) hisR ?_
  intro pg ee s mm args below meth cc s₁ Bd hml0 hP hK
  obtain ⟨rfl, hZ, hh⟩ := hP
  have hx := Bd.exec
  have hby := Bd.bytes
  have hml : cc.maxLocals = 1 := hml0
  have hown : s.vm.findClass "com/example/safe_node_calls/safenodecalls/ic/candid/CandidType$Kind" = some mm.cls := findClass_of_methodNamed Bd.named
  have hnm := (name_of_methodNamed Bd.named Bd.method).1
  have X0 : Stand pg l ee ({ frames := 0, cells := 0, slots := 0, locals := 0 } : Room) s mm #[(.ref aN)] below meth cc s₁ [] 0 0 := Stand.of_body Bd
  have e0 : s₁.heap = h0 := by rw [← hh, Bd.state]; rfl
  have N0 := Fr.nil n0
  have K0 : Keep h0 h0 ([] : List Addr) := Keep.refl _ _
  have pre0 : ∀ t, Steps pg.tables ee below (s₁.setTop (mkF mm 0 #[.val (.ref aN)] [])) t → Steps pg.tables ee below (s₁.setTop (entryFrame mm #[(.ref aN)] 1)) t := fun t k => castTop (ef_3_183 mm aN) k
  obtain ⟨T1, X1, e1, st1⟩ := getS2 X0 hx hZ hown (host := "") (Or.inl (hw _ (List.mem_of_getElem? (i := 16) rfl))) Via.refl e0 (S_NAT.ext O0.2) (g := (mkF mm 1 #[.val (.ref aN)] [(.ref aN)])) rfl (hb hby d3_1)
  obtain ⟨fs, hr, hrun, hended, hW, hsame⟩ := X1.leave (v := some (.int (1 : Int32))) (fun h => by rw [Bd.returns] at h; cases h)
  refine ⟨_, _, pre0 _ ?_, hrun, hended, _, _, rfl, ?_, ⟨_, rfl⟩, hW, hsame.mono (by decide) (by decide)⟩
  · show Steps pg.tables ee below (s₁.setTop (mkF mm 0 #[.val (.ref aN)] [])) _
    refine XS.aloadN X0.here hx rfl (hb hby d3_0) rfl rfl ?_
    show Steps pg.tables ee below (s₁.setTop (mkF mm 1 #[.val (.ref aN)] [(.ref aN)])) _
    refine st1 _ ?_
    show Steps pg.tables ee below (T1.setTop (mkF mm 4 #[.val (.ref aN)] [(.ref aN), (.ref aN)])) _
    refine Jvm.RoadKit.acmp (g := (mkF mm 4 #[.val (.ref aN)] [(.ref aN), (.ref aN)])) X1 hx rfl rfl rfl (pc0 := 4) (pc' := 21) (same := true) rfl (hb hby d3_4) rfl (decide_eq_true rfl) (by decide) (by decide) ?_
    show Steps pg.tables ee below (T1.setTop (mkF mm 21 #[.val (.ref aN)] [])) _
    refine XS.iconst X1.here hx rfl (hb hby d3_21) ?_
    show Steps pg.tables ee below (T1.setTop (mkF mm 22 #[.val (.ref aN)] [(.int (1 : Int32))])) _
    refine XS.goto X1.here hx rfl (pc0 := 22) (pc' := 26) rfl (hb hby d3_22) (by decide) (by decide) ?_
    show Steps pg.tables ee below (T1.setTop (mkF mm 26 #[.val (.ref aN)] [(.int (1 : Int32))])) _
    exact retN X1 hx (t := .boolean) Bd.returns (by simp) (hb hby d3_26) hr
  · show QK Z aN (1 : Int32) h0 n0 _ T1.heap _
    rw [e1]
    exact ⟨rfl, N0, rfl⟩
theorem d3_7 : decode prog_59_method_12_code 7 = .ok (.aload_n 0, 1) := by decide +kernel
theorem d3_8 : decode prog_59_method_12_code 8 = .ok (.getstatic 13, 3) := by decide +kernel
theorem d3_11 : decode prog_59_method_12_code 11 = .ok (.if_acmp .eq 10, 3) := by decide +kernel
set_option maxRecDepth 65536 in
set_option maxHeartbeats 40000000 in
theorem rmK3 (l : Launch) (Z : State) (a0 : Array Value) (hw : ∀ d ∈ tables_1, d.before a0 Z = true) (ws : List Jvm.Cond) (aN : Addr) (aI : Addr) (h0 : Heap) (n0 : Nat) (O0 : Old Z n0 h0) (S_NAT : Sta Z Z.heap "com/example/safe_node_calls/safenodecalls/ic/candid/CandidType$Kind" "NAT" "Lcom/example/safe_node_calls/safenodecalls/ic/candid/CandidType$Kind;" (.ref aN)) (S_INT : Sta Z Z.heap "com/example/safe_node_calls/safenodecalls/ic/candid/CandidType$Kind" "INT" "Lcom/example/safe_node_calls/safenodecalls/ic/candid/CandidType$Kind;" (.ref aI)) (hIN : ¬ (aI = aN)) :
    MetFree l (⟨"com/example/safe_node_calls/safenodecalls/ic/candid/CandidType$Kind", "isInteger", "()Z"⟩ : MethodName) (head1 (Jvm.Cond.code (⟨"com/example/safe_node_calls/safenodecalls/ic/candid/CandidType$Kind", "isInteger", "()Z"⟩ : MethodName) prog_59_method_12_code 1 (some .boolean) :: ws) ({ frames := 0, cells := 0, slots := 0, locals := 0 } : Room)) (fun a_ U_ => a_ = #[(.ref aI)] ∧ Z.Warmed39 U_.vm ∧ U_.heap = h0) (fun _ _ _ _ _ => True) (fun _ U_ o_ U'_ => ∃ v_ L_, o_ = .returned v_ ∧ QK Z aI (1 : Int32) h0 n0 v_ U'_.heap L_ ∧ FrameEnd U_ o_ U'_ L_ ({ frames := 0, cells := 0, slots := 0, locals := 0 } : Room).cells ({ frames := 0, cells := 0, slots := 0, locals := 0 } : Room).slots) := by
  refine MetFree.of_bodySF (plainFor_of_name pn_182) hisR ?_
  intro pg ee s mm args below meth cc s₁ Bd hml0 hP hK
  obtain ⟨rfl, hZ, hh⟩ := hP
  have hx := Bd.exec
  have hby := Bd.bytes
  have hml : cc.maxLocals = 1 := hml0
  have hown : s.vm.findClass "com/example/safe_node_calls/safenodecalls/ic/candid/CandidType$Kind" = some mm.cls := findClass_of_methodNamed Bd.named
  have hnm := (name_of_methodNamed Bd.named Bd.method).1
  have X0 : Stand pg l ee ({ frames := 0, cells := 0, slots := 0, locals := 0 } : Room) s mm #[(.ref aI)] below meth cc s₁ [] 0 0 := Stand.of_body Bd
  have e0 : s₁.heap = h0 := by rw [← hh, Bd.state]; rfl
  have N0 := Fr.nil n0
  have K0 : Keep h0 h0 ([] : List Addr) := Keep.refl _ _
  have pre0 : ∀ t, Steps pg.tables ee below (s₁.setTop (mkF mm 0 #[.val (.ref aI)] [])) t → Steps pg.tables ee below (s₁.setTop (entryFrame mm #[(.ref aI)] 1)) t := fun t k => castTop (ef_3_183 mm aI) k
  obtain ⟨T1, X1, e1, st1⟩ := getS2 X0 hx hZ hown (host := "") (Or.inl (hw _ (List.mem_of_getElem? (i := 16) rfl))) Via.refl e0 (S_NAT.ext O0.2) (g := (mkF mm 1 #[.val (.ref aI)] [(.ref aI)])) rfl (hb hby d3_1)
  obtain ⟨T2, X2, e2, st2⟩ := getS2 X1 hx hZ hown (host := "") (Or.inl (hw _ (List.mem_of_getElem? (i := 18) rfl))) Via.refl e1 (S_INT.ext O0.2) (g := (mkF mm 8 #[.val (.ref aI)] [(.ref aI)])) rfl (hb hby d3_8)
  obtain ⟨fs, hr, hrun, hended, hW, hsame⟩ := X2.leave (v := some (.int (1 : Int32))) (fun h => by rw [Bd.returns] at h; cases h)
  refine ⟨_, _, pre0 _ ?_, hrun, hended, _, _, rfl, ?_, ⟨_, rfl⟩, hW, hsame.mono (by decide) (by decide)⟩
  · show Steps pg.tables ee below (s₁.setTop (mkF mm 0 #[.val (.ref aI)] [])) _
    refine XS.aloadN X0.here hx rfl (hb hby d3_0) rfl rfl ?_
    show Steps pg.tables ee below (s₁.setTop (mkF mm 1 #[.val (.ref aI)] [(.ref aI)])) _
    refine st1 _ ?_
    show Steps pg.tables ee below (T1.setTop (mkF mm 4 #[.val (.ref aI)] [(.ref aN), (.ref aI)])) _
    refine Jvm.RoadKit.acmp (g := (mkF mm 4 #[.val (.ref aI)] [(.ref aN), (.ref aI)])) X1 hx rfl rfl rfl (pc0 := 4) (pc' := 7) (same := false) rfl (hb hby d3_4) rfl (decide_eq_false fun q => hIN (Value.ref.inj q)) (by decide) (by decide) ?_
    show Steps pg.tables ee below (T1.setTop (mkF mm 7 #[.val (.ref aI)] [])) _
    refine XS.aloadN X1.here hx rfl (hb hby d3_7) rfl rfl ?_
    show Steps pg.tables ee below (T1.setTop (mkF mm 8 #[.val (.ref aI)] [(.ref aI)])) _
    refine st2 _ ?_
    show Steps pg.tables ee below (T2.setTop (mkF mm 11 #[.val (.ref aI)] [(.ref aI), (.ref aI)])) _
    refine Jvm.RoadKit.acmp (g := (mkF mm 11 #[.val (.ref aI)] [(.ref aI), (.ref aI)])) X2 hx rfl rfl rfl (pc0 := 11) (pc' := 21) (same := true) rfl (hb hby d3_11) rfl (decide_eq_true rfl) (by decide) (by decide) ?_
    show Steps pg.tables ee below (T2.setTop (mkF mm 21 #[.val (.ref aI)] [])) _
    refine XS.iconst X2.here hx rfl (hb hby d3_21) ?_
    show Steps pg.tables ee below (T2.setTop (mkF mm 22 #[.val (.ref aI)] [(.int (1 : Int32))])) _
    refine XS.goto X2.here hx rfl (pc0 := 22) (pc' := 26) rfl (hb hby d3_22) (by decide) (by decide) ?_
    show Steps pg.tables ee below (T2.setTop (mkF mm 26 #[.val (.ref aI)] [(.int (1 : Int32))])) _
    exact retN X2 hx (t := .boolean) Bd.returns (by simp) (hb hby d3_26) hr
  · show QK Z aI (1 : Int32) h0 n0 _ T2.heap _
    rw [e2]
    exact ⟨rfl, N0, rfl⟩
theorem d3_14 : decode prog_59_method_12_code 14 = .ok (.aload_n 0, 1) := by decide +kernel
theorem d3_15 : decode prog_59_method_12_code 15 = .ok (.getfield 109, 3) := by decide +kernel
theorem d3_18 : decode prog_59_method_12_code 18 = .ok (.ifCond .le 7, 3) := by decide +kernel
set_option maxRecDepth 65536 in
set_option maxHeartbeats 40000000 in
theorem rmKy (l : Launch) (Z : State) (a0 : Array Value) (hw : ∀ d ∈ tables_1, d.before a0 Z = true) (ws : List Jvm.Cond) (x : Addr) (b : Int32) (aN : Addr) (aI : Addr) (h0 : Heap) (n0 : Nat) (O0 : Old Z n0 h0) (S_NAT : Sta Z Z.heap "com/example/safe_node_calls/safenodecalls/ic/candid/CandidType$Kind" "NAT" "Lcom/example/safe_node_calls/safenodecalls/ic/candid/CandidType$Kind;" (.ref aN)) (S_INT : Sta Z Z.heap "com/example/safe_node_calls/safenodecalls/ic/candid/CandidType$Kind" "INT" "Lcom/example/safe_node_calls/safenodecalls/ic/candid/CandidType$Kind;" (.ref aI)) (h1 : ¬ (x = aN)) (h2 : ¬ (x = aI)) (F : Fld Z h0 x "com/example/safe_node_calls/safenodecalls/ic/candid/CandidType$Kind" "bits" "I" (.int b)) (hbt : (0 : Int32) < b) :
    MetFree l (⟨"com/example/safe_node_calls/safenodecalls/ic/candid/CandidType$Kind", "isInteger", "()Z"⟩ : MethodName) (head1 (Jvm.Cond.code (⟨"com/example/safe_node_calls/safenodecalls/ic/candid/CandidType$Kind", "isInteger", "()Z"⟩ : MethodName) prog_59_method_12_code 1 (some .boolean) :: ws) ({ frames := 0, cells := 0, slots := 0, locals := 0 } : Room)) (fun a_ U_ => a_ = #[(.ref x)] ∧ Z.Warmed39 U_.vm ∧ U_.heap = h0) (fun _ _ _ _ _ => True) (fun _ U_ o_ U'_ => ∃ v_ L_, o_ = .returned v_ ∧ QK Z x (1 : Int32) h0 n0 v_ U'_.heap L_ ∧ FrameEnd U_ o_ U'_ L_ ({ frames := 0, cells := 0, slots := 0, locals := 0 } : Room).cells ({ frames := 0, cells := 0, slots := 0, locals := 0 } : Room).slots) := by
  refine MetFree.of_bodySF (plainFor_of_name pn_182) hisR ?_
  intro pg ee s mm args below meth cc s₁ Bd hml0 hP hK
  obtain ⟨rfl, hZ, hh⟩ := hP
  have hx := Bd.exec
  have hby := Bd.bytes
  have hml : cc.maxLocals = 1 := hml0
  have hown : s.vm.findClass "com/example/safe_node_calls/safenodecalls/ic/candid/CandidType$Kind" = some mm.cls := findClass_of_methodNamed Bd.named
  have hnm := (name_of_methodNamed Bd.named Bd.method).1
  have X0 : Stand pg l ee ({ frames := 0, cells := 0, slots := 0, locals := 0 } : Room) s mm #[(.ref x)] below meth cc s₁ [] 0 0 := Stand.of_body Bd
  have e0 : s₁.heap = h0 := by rw [← hh, Bd.state]; rfl
  have N0 := Fr.nil n0
  have K0 : Keep h0 h0 ([] : List Addr) := Keep.refl _ _
  have pre0 : ∀ t, Steps pg.tables ee below (s₁.setTop (mkF mm 0 #[.val (.ref x)] [])) t → Steps pg.tables ee below (s₁.setTop (entryFrame mm #[(.ref x)] 1)) t := fun t k => castTop (ef_3_183 mm x) k
  obtain ⟨T1, X1, e1, st1⟩ := getS2 X0 hx hZ hown (host := "") (Or.inl (hw _ (List.mem_of_getElem? (i := 16) rfl))) Via.refl e0 (S_NAT.ext O0.2) (g := (mkF mm 1 #[.val (.ref x)] [(.ref x)])) rfl (hb hby d3_1)
  obtain ⟨T2, X2, e2, st2⟩ := getS2 X1 hx hZ hown (host := "") (Or.inl (hw _ (List.mem_of_getElem? (i := 18) rfl))) Via.refl e1 (S_INT.ext O0.2) (g := (mkF mm 8 #[.val (.ref x)] [(.ref x)])) rfl (hb hby d3_8)
  obtain ⟨T3, X3, e3, st3⟩ := getF X2 hx hZ hown (host := "") (Or.inl (hw _ (List.mem_of_getElem? (i := 20) rfl))) Via.refl e2 F (g := (mkF mm 15 #[.val (.ref x)] [(.ref x)])) rfl rfl (hb hby d3_15)
  obtain ⟨fs, hr, hrun, hended, hW, hsame⟩ := X3.leave (v := some (.int (1 : Int32))) (fun h => by rw [Bd.returns] at h; cases h)
  refine ⟨_, _, pre0 _ ?_, hrun, hended, _, _, rfl, ?_, ⟨_, rfl⟩, hW, hsame.mono (by decide) (by decide)⟩
  · show Steps pg.tables ee below (s₁.setTop (mkF mm 0 #[.val (.ref x)] [])) _
    refine XS.aloadN X0.here hx rfl (hb hby d3_0) rfl rfl ?_
    show Steps pg.tables ee below (s₁.setTop (mkF mm 1 #[.val (.ref x)] [(.ref x)])) _
    refine st1 _ ?_
    show Steps pg.tables ee below (T1.setTop (mkF mm 4 #[.val (.ref x)] [(.ref aN), (.ref x)])) _
    refine Jvm.RoadKit.acmp (g := (mkF mm 4 #[.val (.ref x)] [(.ref aN), (.ref x)])) X1 hx rfl rfl rfl (pc0 := 4) (pc' := 7) (same := false) rfl (hb hby d3_4) rfl (decide_eq_false fun q => h1 (Value.ref.inj q)) (by decide) (by decide) ?_
    show Steps pg.tables ee below (T1.setTop (mkF mm 7 #[.val (.ref x)] [])) _
    refine XS.aloadN X1.here hx rfl (hb hby d3_7) rfl rfl ?_
    show Steps pg.tables ee below (T1.setTop (mkF mm 8 #[.val (.ref x)] [(.ref x)])) _
    refine st2 _ ?_
    show Steps pg.tables ee below (T2.setTop (mkF mm 11 #[.val (.ref x)] [(.ref aI), (.ref x)])) _
    refine Jvm.RoadKit.acmp (g := (mkF mm 11 #[.val (.ref x)] [(.ref aI), (.ref x)])) X2 hx rfl rfl rfl (pc0 := 11) (pc' := 14) (same := false) rfl (hb hby d3_11) rfl (decide_eq_false fun q => h2 (Value.ref.inj q)) (by decide) (by decide) ?_
    show Steps pg.tables ee below (T2.setTop (mkF mm 14 #[.val (.ref x)] [])) _
    refine XS.aloadN X2.here hx rfl (hb hby d3_14) rfl rfl ?_
    show Steps pg.tables ee below (T2.setTop (mkF mm 15 #[.val (.ref x)] [(.ref x)])) _
    refine st3 _ ?_
    show Steps pg.tables ee below (T3.setTop (mkF mm 18 #[.val (.ref x)] [(.int b)])) _
    refine XS.ifNo X3.here hx rfl (hb hby d3_18) rfl ((if0 _ _).trans (tlt hbt).2.2.2) ?_
    show Steps pg.tables ee below (T3.setTop (mkF mm 21 #[.val (.ref x)] [])) _
    refine XS.iconst X3.here hx rfl (hb hby d3_21) ?_
    show Steps pg.tables ee below (T3.setTop (mkF mm 22 #[.val (.ref x)] [(.int (1 : Int32))])) _
    refine XS.goto X3.here hx rfl (pc0 := 22) (pc' := 26) rfl (hb hby d3_22) (by decide) (by decide) ?_
    show Steps pg.tables ee below (T3.setTop (mkF mm 26 #[.val (.ref x)] [(.int (1 : Int32))])) _
    exact retN X3 hx (t := .boolean) Bd.returns (by simp) (hb hby d3_26) hr
  · show QK Z x (1 : Int32) h0 n0 _ T3.heap _
    rw [e3]
    exact ⟨rfl, N0, rfl⟩
theorem d3_25 : decode prog_59_method_12_code 25 = .ok (.iconst 0, 1) := by decide +kernel
set_option maxRecDepth 65536 in
set_option maxHeartbeats 40000000 in
theorem rmKn (l : Launch) (Z : State) (a0 : Array Value) (hw : ∀ d ∈ tables_1, d.before a0 Z = true) (ws : List Jvm.Cond) (x : Addr) (b : Int32) (aN : Addr) (aI : Addr) (h0 : Heap) (n0 : Nat) (O0 : Old Z n0 h0) (S_NAT : Sta Z Z.heap "com/example/safe_node_calls/safenodecalls/ic/candid/CandidType$Kind" "NAT" "Lcom/example/safe_node_calls/safenodecalls/ic/candid/CandidType$Kind;" (.ref aN)) (S_INT : Sta Z Z.heap "com/example/safe_node_calls/safenodecalls/ic/candid/CandidType$Kind" "INT" "Lcom/example/safe_node_calls/safenodecalls/ic/candid/CandidType$Kind;" (.ref aI)) (h1 : ¬ (x = aN)) (h2 : ¬ (x = aI)) (F : Fld Z h0 x "com/example/safe_node_calls/safenodecalls/ic/candid/CandidType$Kind" "bits" "I" (.int b)) (hbt : ¬ ((0 : Int32) < b)) :
    MetFree l (⟨"com/example/safe_node_calls/safenodecalls/ic/candid/CandidType$Kind", "isInteger", "()Z"⟩ : MethodName) (head1 (Jvm.Cond.code (⟨"com/example/safe_node_calls/safenodecalls/ic/candid/CandidType$Kind", "isInteger", "()Z"⟩ : MethodName) prog_59_method_12_code 1 (some .boolean) :: ws) ({ frames := 0, cells := 0, slots := 0, locals := 0 } : Room)) (fun a_ U_ => a_ = #[(.ref x)] ∧ Z.Warmed39 U_.vm ∧ U_.heap = h0) (fun _ _ _ _ _ => True) (fun _ U_ o_ U'_ => ∃ v_ L_, o_ = .returned v_ ∧ QK Z x (0 : Int32) h0 n0 v_ U'_.heap L_ ∧ FrameEnd U_ o_ U'_ L_ ({ frames := 0, cells := 0, slots := 0, locals := 0 } : Room).cells ({ frames := 0, cells := 0, slots := 0, locals := 0 } : Room).slots) := by
  refine MetFree.of_bodySF (plainFor_of_name pn_182) hisR ?_
  intro pg ee s mm args below meth cc s₁ Bd hml0 hP hK
  obtain ⟨rfl, hZ, hh⟩ := hP
  have hx := Bd.exec
  have hby := Bd.bytes
  have hml : cc.maxLocals = 1 := hml0
  have hown : s.vm.findClass "com/example/safe_node_calls/safenodecalls/ic/candid/CandidType$Kind" = some mm.cls := findClass_of_methodNamed Bd.named
  have hnm := (name_of_methodNamed Bd.named Bd.method).1
  have X0 : Stand pg l ee ({ frames := 0, cells := 0, slots := 0, locals := 0 } : Room) s mm #[(.ref x)] below meth cc s₁ [] 0 0 := Stand.of_body Bd
  have e0 : s₁.heap = h0 := by rw [← hh, Bd.state]; rfl
  have N0 := Fr.nil n0
  have K0 : Keep h0 h0 ([] : List Addr) := Keep.refl _ _
  have pre0 : ∀ t, Steps pg.tables ee below (s₁.setTop (mkF mm 0 #[.val (.ref x)] [])) t → Steps pg.tables ee below (s₁.setTop (entryFrame mm #[(.ref x)] 1)) t := fun t k => castTop (ef_3_183 mm x) k
  obtain ⟨T1, X1, e1, st1⟩ := getS2 X0 hx hZ hown (host := "") (Or.inl (hw _ (List.mem_of_getElem? (i := 16) rfl))) Via.refl e0 (S_NAT.ext O0.2) (g := (mkF mm 1 #[.val (.ref x)] [(.ref x)])) rfl (hb hby d3_1)
  obtain ⟨T2, X2, e2, st2⟩ := getS2 X1 hx hZ hown (host := "") (Or.inl (hw _ (List.mem_of_getElem? (i := 18) rfl))) Via.refl e1 (S_INT.ext O0.2) (g := (mkF mm 8 #[.val (.ref x)] [(.ref x)])) rfl (hb hby d3_8)
  obtain ⟨T3, X3, e3, st3⟩ := getF X2 hx hZ hown (host := "") (Or.inl (hw _ (List.mem_of_getElem? (i := 20) rfl))) Via.refl e2 F (g := (mkF mm 15 #[.val (.ref x)] [(.ref x)])) rfl rfl (hb hby d3_15)
  obtain ⟨fs, hr, hrun, hended, hW, hsame⟩ := X3.leave (v := some (.int (0 : Int32))) (fun h => by rw [Bd.returns] at h; cases h)
  refine ⟨_, _, pre0 _ ?_, hrun, hended, _, _, rfl, ?_, ⟨_, rfl⟩, hW, hsame.mono (by decide) (by decide)⟩
  · show Steps pg.tables ee below (s₁.setTop (mkF mm 0 #[.val (.ref x)] [])) _
    refine XS.aloadN X0.here hx rfl (hb hby d3_0) rfl rfl ?_
    show Steps pg.tables ee below (s₁.setTop (mkF mm 1 #[.val (.ref x)] [(.ref x)])) _
    refine st1 _ ?_
    show Steps pg.tables ee below (T1.setTop (mkF mm 4 #[.val (.ref x)] [(.ref aN), (.ref x)])) _
    refine Jvm.RoadKit.acmp (g := (mkF mm 4 #[.val (.ref x)] [(.ref aN), (.ref x)])) X1 hx rfl rfl rfl (pc0 := 4) (pc' := 7) (same := false) rfl (hb hby d3_4) rfl (decide_eq_false fun q => h1 (Value.ref.inj q)) (by decide) (by decide) ?_
    show Steps pg.tables ee below (T1.setTop (mkF mm 7 #[.val (.ref x)] [])) _
    refine XS.aloadN X1.here hx rfl (hb hby d3_7) rfl rfl ?_
    show Steps pg.tables ee below (T1.setTop (mkF mm 8 #[.val (.ref x)] [(.ref x)])) _
    refine st2 _ ?_
    show Steps pg.tables ee below (T2.setTop (mkF mm 11 #[.val (.ref x)] [(.ref aI), (.ref x)])) _
    refine Jvm.RoadKit.acmp (g := (mkF mm 11 #[.val (.ref x)] [(.ref aI), (.ref x)])) X2 hx rfl rfl rfl (pc0 := 11) (pc' := 14) (same := false) rfl (hb hby d3_11) rfl (decide_eq_false fun q => h2 (Value.ref.inj q)) (by decide) (by decide) ?_
    show Steps pg.tables ee below (T2.setTop (mkF mm 14 #[.val (.ref x)] [])) _
    refine XS.aloadN X2.here hx rfl (hb hby d3_14) rfl rfl ?_
    show Steps pg.tables ee below (T2.setTop (mkF mm 15 #[.val (.ref x)] [(.ref x)])) _
    refine st3 _ ?_
    show Steps pg.tables ee below (T3.setTop (mkF mm 18 #[.val (.ref x)] [(.int b)])) _
    refine XS.ifYes X3.here hx rfl (pc0 := 18) (pc' := 25) rfl (hb hby d3_18) rfl ((if0 _ _).trans (flt hbt).2.2.2) (by decide) (by decide) ?_
    show Steps pg.tables ee below (T3.setTop (mkF mm 25 #[.val (.ref x)] [])) _
    refine XS.iconst X3.here hx rfl (hb hby d3_25) ?_
    show Steps pg.tables ee below (T3.setTop (mkF mm 26 #[.val (.ref x)] [(.int (0 : Int32))])) _
    exact retN X3 hx (t := .boolean) Bd.returns (by simp) (hb hby d3_26) hr
  · show QK Z x (0 : Int32) h0 n0 _ T3.heap _
    rw [e3]
    exact ⟨rfl, N0, rfl⟩
set_option maxRecDepth 65536 in
theorem rmK (l : Launch) (Z : State) (a0 : Array Value) (hw : ∀ d ∈ tables_1, d.before a0 Z = true) (ws : List Jvm.Cond) (p : Int32) (A : Int32 → Addr) (h0 : Heap) (n0 : Nat) (O0 : Old Z n0 h0) (hp : p = (0 : Int32) ∨ p = (1 : Int32) ∨ p = (2 : Int32) ∨ p = (3 : Int32) ∨ p = (4 : Int32) ∨ p = (5 : Int32) ∨ p = (6 : Int32) ∨ p = (7 : Int32) ∨ p = (8 : Int32) ∨ p = (9 : Int32) ∨ p = (10 : Int32) ∨ p = (11 : Int32) ∨ p = (12 : Int32) ∨ p = (13 : Int32) ∨ p = (14 : Int32) ∨ p = (15 : Int32) ∨ p = (16 : Int32) ∨ p = (17 : Int32) ∨ p = (18 : Int32) ∨ p = (19 : Int32) ∨ p = (20 : Int32) ∨ p = (21 : Int32) ∨ p = (22 : Int32) ∨ p = (23 : Int32) ∨ p = (24 : Int32)) (S_NAT : Sta Z Z.heap "com/example/safe_node_calls/safenodecalls/ic/candid/CandidType$Kind" "NAT" "Lcom/example/safe_node_calls/safenodecalls/ic/candid/CandidType$Kind;" (.ref (A (2 : Int32)))) (S_INT : Sta Z Z.heap "com/example/safe_node_calls/safenodecalls/ic/candid/CandidType$Kind" "INT" "Lcom/example/safe_node_calls/safenodecalls/ic/candid/CandidType$Kind;" (.ref (A (3 : Int32)))) (B_NULL : Fld Z Z.heap (A (0 : Int32)) "com/example/safe_node_calls/safenodecalls/ic/candid/CandidType$Kind" "bits" "I" (.int (0 : Int32))) (B_BOOL : Fld Z Z.heap (A (1 : Int32)) "com/example/safe_node_calls/safenodecalls/ic/candid/CandidType$Kind" "bits" "I" (.int (0 : Int32))) (B_NAT8 : Fld Z Z.heap (A (4 : Int32)) "com/example/safe_node_calls/safenodecalls/ic/candid/CandidType$Kind" "bits" "I" (.int (8 : Int32))) (B_NAT16 : Fld Z Z.heap (A (5 : Int32)) "com/example/safe_node_calls/safenodecalls/ic/candid/CandidType$Kind" "bits" "I" (.int (16 : Int32))) (B_NAT32 : Fld Z Z.heap (A (6 : Int32)) "com/example/safe_node_calls/safenodecalls/ic/candid/CandidType$Kind" "bits" "I" (.int (32 : Int32))) (B_NAT64 : Fld Z Z.heap (A (7 : Int32)) "com/example/safe_node_calls/safenodecalls/ic/candid/CandidType$Kind" "bits" "I" (.int (64 : Int32))) (B_INT8 : Fld Z Z.heap (A (8 : Int32)) "com/example/safe_node_calls/safenodecalls/ic/candid/CandidType$Kind" "bits" "I" (.int (8 : Int32))) (B_INT16 : Fld Z Z.heap (A (9 : Int32)) "com/example/safe_node_calls/safenodecalls/ic/candid/CandidType$Kind" "bits" "I" (.int (16 : Int32))) (B_INT32 : Fld Z Z.heap (A (10 : Int32)) "com/example/safe_node_calls/safenodecalls/ic/candid/CandidType$Kind" "bits" "I" (.int (32 : Int32))) (B_INT64 : Fld Z Z.heap (A (11 : Int32)) "com/example/safe_node_calls/safenodecalls/ic/candid/CandidType$Kind" "bits" "I" (.int (64 : Int32))) (B_FLOAT32 : Fld Z Z.heap (A (12 : Int32)) "com/example/safe_node_calls/safenodecalls/ic/candid/CandidType$Kind" "bits" "I" (.int (0 : Int32))) (B_FLOAT64 : Fld Z Z.heap (A (13 : Int32)) "com/example/safe_node_calls/safenodecalls/ic/candid/CandidType$Kind" "bits" "I" (.int (0 : Int32))) (B_TEXT : Fld Z Z.heap (A (14 : Int32)) "com/example/safe_node_calls/safenodecalls/ic/candid/CandidType$Kind" "bits" "I" (.int (0 : Int32))) (B_RESERVED : Fld Z Z.heap (A (15 : Int32)) "com/example/safe_node_calls/safenodecalls/ic/candid/CandidType$Kind" "bits" "I" (.int (0 : Int32))) (B_EMPTY : Fld Z Z.heap (A (16 : Int32)) "com/example/safe_node_calls/safenodecalls/ic/candid/CandidType$Kind" "bits" "I" (.int (0 : Int32))) (B_OPT : Fld Z Z.heap (A (17 : Int32)) "com/example/safe_node_calls/safenodecalls/ic/candid/CandidType$Kind" "bits" "I" (.int (0 : Int32))) (B_VEC : Fld Z Z.heap (A (18 : Int32)) "com/example/safe_node_calls/safenodecalls/ic/candid/CandidType$Kind" "bits" "I" (.int (0 : Int32))) (B_RECORD : Fld Z Z.heap (A (19 : Int32)) "com/example/safe_node_calls/safenodecalls/ic/candid/CandidType$Kind" "bits" "I" (.int (0 : Int32))) (B_VARIANT : Fld Z Z.heap (A (20 : Int32)) "com/example/safe_node_calls/safenodecalls/ic/candid/CandidType$Kind" "bits" "I" (.int (0 : Int32))) (B_FUNC : Fld Z Z.heap (A (21 : Int32)) "com/example/safe_node_calls/safenodecalls/ic/candid/CandidType$Kind" "bits" "I" (.int (0 : Int32))) (B_SERVICE : Fld Z Z.heap (A (22 : Int32)) "com/example/safe_node_calls/safenodecalls/ic/candid/CandidType$Kind" "bits" "I" (.int (0 : Int32))) (B_PRINCIPAL : Fld Z Z.heap (A (23 : Int32)) "com/example/safe_node_calls/safenodecalls/ic/candid/CandidType$Kind" "bits" "I" (.int (0 : Int32))) (B_FUTURE : Fld Z Z.heap (A (24 : Int32)) "com/example/safe_node_calls/safenodecalls/ic/candid/CandidType$Kind" "bits" "I" (.int (0 : Int32))) (hIN : ¬ ((A (3 : Int32)) = (A (2 : Int32)))) (n1_NULL : ¬ ((A (0 : Int32)) = (A (2 : Int32)))) (n2_NULL : ¬ ((A (0 : Int32)) = (A (3 : Int32)))) (n1_BOOL : ¬ ((A (1 : Int32)) = (A (2 : Int32)))) (n2_BOOL : ¬ ((A (1 : Int32)) = (A (3 : Int32)))) (n1_NAT8 : ¬ ((A (4 : Int32)) = (A (2 : Int32)))) (n2_NAT8 : ¬ ((A (4 : Int32)) = (A (3 : Int32)))) (n1_NAT16 : ¬ ((A (5 : Int32)) = (A (2 : Int32)))) (n2_NAT16 : ¬ ((A (5 : Int32)) = (A (3 : Int32)))) (n1_NAT32 : ¬ ((A (6 : Int32)) = (A (2 : Int32)))) (n2_NAT32 : ¬ ((A (6 : Int32)) = (A (3 : Int32)))) (n1_NAT64 : ¬ ((A (7 : Int32)) = (A (2 : Int32)))) (n2_NAT64 : ¬ ((A (7 : Int32)) = (A (3 : Int32)))) (n1_INT8 : ¬ ((A (8 : Int32)) = (A (2 : Int32)))) (n2_INT8 : ¬ ((A (8 : Int32)) = (A (3 : Int32)))) (n1_INT16 : ¬ ((A (9 : Int32)) = (A (2 : Int32)))) (n2_INT16 : ¬ ((A (9 : Int32)) = (A (3 : Int32)))) (n1_INT32 : ¬ ((A (10 : Int32)) = (A (2 : Int32)))) (n2_INT32 : ¬ ((A (10 : Int32)) = (A (3 : Int32)))) (n1_INT64 : ¬ ((A (11 : Int32)) = (A (2 : Int32)))) (n2_INT64 : ¬ ((A (11 : Int32)) = (A (3 : Int32)))) (n1_FLOAT32 : ¬ ((A (12 : Int32)) = (A (2 : Int32)))) (n2_FLOAT32 : ¬ ((A (12 : Int32)) = (A (3 : Int32)))) (n1_FLOAT64 : ¬ ((A (13 : Int32)) = (A (2 : Int32)))) (n2_FLOAT64 : ¬ ((A (13 : Int32)) = (A (3 : Int32)))) (n1_TEXT : ¬ ((A (14 : Int32)) = (A (2 : Int32)))) (n2_TEXT : ¬ ((A (14 : Int32)) = (A (3 : Int32)))) (n1_RESERVED : ¬ ((A (15 : Int32)) = (A (2 : Int32)))) (n2_RESERVED : ¬ ((A (15 : Int32)) = (A (3 : Int32)))) (n1_EMPTY : ¬ ((A (16 : Int32)) = (A (2 : Int32)))) (n2_EMPTY : ¬ ((A (16 : Int32)) = (A (3 : Int32)))) (n1_OPT : ¬ ((A (17 : Int32)) = (A (2 : Int32)))) (n2_OPT : ¬ ((A (17 : Int32)) = (A (3 : Int32)))) (n1_VEC : ¬ ((A (18 : Int32)) = (A (2 : Int32)))) (n2_VEC : ¬ ((A (18 : Int32)) = (A (3 : Int32)))) (n1_RECORD : ¬ ((A (19 : Int32)) = (A (2 : Int32)))) (n2_RECORD : ¬ ((A (19 : Int32)) = (A (3 : Int32)))) (n1_VARIANT : ¬ ((A (20 : Int32)) = (A (2 : Int32)))) (n2_VARIANT : ¬ ((A (20 : Int32)) = (A (3 : Int32)))) (n1_FUNC : ¬ ((A (21 : Int32)) = (A (2 : Int32)))) (n2_FUNC : ¬ ((A (21 : Int32)) = (A (3 : Int32)))) (n1_SERVICE : ¬ ((A (22 : Int32)) = (A (2 : Int32)))) (n2_SERVICE : ¬ ((A (22 : Int32)) = (A (3 : Int32)))) (n1_PRINCIPAL : ¬ ((A (23 : Int32)) = (A (2 : Int32)))) (n2_PRINCIPAL : ¬ ((A (23 : Int32)) = (A (3 : Int32)))) (n1_FUTURE : ¬ ((A (24 : Int32)) = (A (2 : Int32)))) (n2_FUTURE : ¬ ((A (24 : Int32)) = (A (3 : Int32)))) :
    MetFree l (⟨"com/example/safe_node_calls/safenodecalls/ic/candid/CandidType$Kind", "isInteger", "()Z"⟩ : MethodName) (head1 (Jvm.Cond.code (⟨"com/example/safe_node_calls/safenodecalls/ic/candid/CandidType$Kind", "isInteger", "()Z"⟩ : MethodName) prog_59_method_12_code 1 (some .boolean) :: ws) ({ frames := 0, cells := 0, slots := 0, locals := 0 } : Room)) (fun a_ U_ => a_ = #[(.ref (A p))] ∧ Z.Warmed39 U_.vm ∧ U_.heap = h0) (fun _ _ _ _ _ => True) (fun _ U o U' => ∃ v L, o = .returned v ∧ QK Z (A p) (own_f p) h0 n0 v U'.heap L ∧ FrameEnd U o U' L ({ frames := 0, cells := 0, slots := 0, locals := 0 } : Room).cells ({ frames := 0, cells := 0, slots := 0, locals := 0 } : Room).slots) := by
  rcases hp with rfl | rfl | rfl | rfl | rfl | rfl | rfl | rfl | rfl | rfl | rfl | rfl | rfl | rfl | rfl | rfl | rfl | rfl | rfl | rfl | rfl | rfl | rfl | rfl | rfl
  · exact rmKn l Z a0 hw ws _ _ _ _ h0 n0 O0 S_NAT S_INT n1_NULL n2_NULL (B_NULL.ext O0.2) (by decide)
  · exact rmKn l Z a0 hw ws _ _ _ _ h0 n0 O0 S_NAT S_INT n1_BOOL n2_BOOL (B_BOOL.ext O0.2) (by decide)
  · exact rmK2 l Z a0 hw ws _ _ h0 n0 O0 S_NAT S_INT
  · exact rmK3 l Z a0 hw ws _ _ h0 n0 O0 S_NAT S_INT hIN
  · exact rmKy l Z a0 hw ws _ _ _ _ h0 n0 O0 S_NAT S_INT n1_NAT8 n2_NAT8 (B_NAT8.ext O0.2) (by decide)
  · exact rmKy l Z a0 hw ws _ _ _ _ h0 n0 O0 S_NAT S_INT n1_NAT16 n2_NAT16 (B_NAT16.ext O0.2) (by decide)
  · exact rmKy l Z a0 hw ws _ _ _ _ h0 n0 O0 S_NAT S_INT n1_NAT32 n2_NAT32 (B_NAT32.ext O0.2) (by decide)
  · exact rmKy l Z a0 hw ws _ _ _ _ h0 n0 O0 S_NAT S_INT n1_NAT64 n2_NAT64 (B_NAT64.ext O0.2) (by decide)
  · exact rmKy l Z a0 hw ws _ _ _ _ h0 n0 O0 S_NAT S_INT n1_INT8 n2_INT8 (B_INT8.ext O0.2) (by decide)
  · exact rmKy l Z a0 hw ws _ _ _ _ h0 n0 O0 S_NAT S_INT n1_INT16 n2_INT16 (B_INT16.ext O0.2) (by decide)
  · exact rmKy l Z a0 hw ws _ _ _ _ h0 n0 O0 S_NAT S_INT n1_INT32 n2_INT32 (B_INT32.ext O0.2) (by decide)
  · exact rmKy l Z a0 hw ws _ _ _ _ h0 n0 O0 S_NAT S_INT n1_INT64 n2_INT64 (B_INT64.ext O0.2) (by decide)
  · exact rmKn l Z a0 hw ws _ _ _ _ h0 n0 O0 S_NAT S_INT n1_FLOAT32 n2_FLOAT32 (B_FLOAT32.ext O0.2) (by decide)
  · exact rmKn l Z a0 hw ws _ _ _ _ h0 n0 O0 S_NAT S_INT n1_FLOAT64 n2_FLOAT64 (B_FLOAT64.ext O0.2) (by decide)
  · exact rmKn l Z a0 hw ws _ _ _ _ h0 n0 O0 S_NAT S_INT n1_TEXT n2_TEXT (B_TEXT.ext O0.2) (by decide)
  · exact rmKn l Z a0 hw ws _ _ _ _ h0 n0 O0 S_NAT S_INT n1_RESERVED n2_RESERVED (B_RESERVED.ext O0.2) (by decide)
  · exact rmKn l Z a0 hw ws _ _ _ _ h0 n0 O0 S_NAT S_INT n1_EMPTY n2_EMPTY (B_EMPTY.ext O0.2) (by decide)
  · exact rmKn l Z a0 hw ws _ _ _ _ h0 n0 O0 S_NAT S_INT n1_OPT n2_OPT (B_OPT.ext O0.2) (by decide)
  · exact rmKn l Z a0 hw ws _ _ _ _ h0 n0 O0 S_NAT S_INT n1_VEC n2_VEC (B_VEC.ext O0.2) (by decide)
  · exact rmKn l Z a0 hw ws _ _ _ _ h0 n0 O0 S_NAT S_INT n1_RECORD n2_RECORD (B_RECORD.ext O0.2) (by decide)
  · exact rmKn l Z a0 hw ws _ _ _ _ h0 n0 O0 S_NAT S_INT n1_VARIANT n2_VARIANT (B_VARIANT.ext O0.2) (by decide)
  · exact rmKn l Z a0 hw ws _ _ _ _ h0 n0 O0 S_NAT S_INT n1_FUNC n2_FUNC (B_FUNC.ext O0.2) (by decide)
  · exact rmKn l Z a0 hw ws _ _ _ _ h0 n0 O0 S_NAT S_INT n1_SERVICE n2_SERVICE (B_SERVICE.ext O0.2) (by decide)
  · exact rmKn l Z a0 hw ws _ _ _ _ h0 n0 O0 S_NAT S_INT n1_PRINCIPAL n2_PRINCIPAL (B_PRINCIPAL.ext O0.2) (by decide)
  · exact rmKn l Z a0 hw ws _ _ _ _ h0 n0 O0 S_NAT S_INT n1_FUTURE n2_FUTURE (B_FUTURE.ext O0.2) (by decide)
theorem pd_191 : parseMethodDescriptor "(I)Lcom/example/safe_node_calls/safenodecalls/ic/candid/CandidType$Kind;" = some ⟨[.int], some (.object "com/example/safe_node_calls/safenodecalls/ic/candid/CandidType$Kind")⟩ := by decide +kernel
theorem pd_192 : parseMethodDescriptor "(I)Z" = some ⟨[.int], some .boolean⟩ := by decide +kernel
theorem pd_193 : parseMethodDescriptor "()Z" = some ⟨[], some .boolean⟩ := by decide +kernel
theorem ef_0_194 (m : MethodId) (x0 : Int32) : entryFrame m #[(.int x0)] maxLocals = mkF m 0 #[.val (.int x0), .unset, .unset, .unset] [] := by first | (simp [entryFrame, mkF, argsToLocals, Value.category, maxLocals]; done) | rfl
def Qrm0 (Z : State) (p0 : Int32) (A : Int32 → Addr) (h0 : Heap) (n0 : Nat) (v : Option Value) (h : Heap) (L : List Loc) : Prop := v = some (.int (1 : Int32)) ∧ Fr n0 L
set_option maxRecDepth 65536 in
set_option maxHeartbeats 40000000 in
theorem rm0 (l : Launch) (Z : State) (a0 : Array Value) (hw : ∀ d ∈ tables_1, d.before a0 Z = true) (ws : List Jvm.Cond) (p0 : Int32) (A : Int32 → Addr) (h0 : Heap) (n0 : Nat) (O0 : Old Z n0 h0) (S_NULL : Sta Z Z.heap "com/example/safe_node_calls/safenodecalls/ic/candid/CandidType$Kind" "NULL" "Lcom/example/safe_node_calls/safenodecalls/ic/candid/CandidType$Kind;" (.ref (A (0 : Int32)))) (S_BOOL : Sta Z Z.heap "com/example/safe_node_calls/safenodecalls/ic/candid/CandidType$Kind" "BOOL" "Lcom/example/safe_node_calls/safenodecalls/ic/candid/CandidType$Kind;" (.ref (A (1 : Int32)))) (S_NAT : Sta Z Z.heap "com/example/safe_node_calls/safenodecalls/ic/candid/CandidType$Kind" "NAT" "Lcom/example/safe_node_calls/safenodecalls/ic/candid/CandidType$Kind;" (.ref (A (2 : Int32)))) (S_INT : Sta Z Z.heap "com/example/safe_node_calls/safenodecalls/ic/candid/CandidType$Kind" "INT" "Lcom/example/safe_node_calls/safenodecalls/ic/candid/CandidType$Kind;" (.ref (A (3 : Int32)))) (S_NAT8 : Sta Z Z.heap "com/example/safe_node_calls/safenodecalls/ic/candid/CandidType$Kind" "NAT8" "Lcom/example/safe_node_calls/safenodecalls/ic/candid/CandidType$Kind;" (.ref (A (4 : Int32)))) (S_NAT16 : Sta Z Z.heap "com/example/safe_node_calls/safenodecalls/ic/candid/CandidType$Kind" "NAT16" "Lcom/example/safe_node_calls/safenodecalls/ic/candid/CandidType$Kind;" (.ref (A (5 : Int32)))) (S_NAT32 : Sta Z Z.heap "com/example/safe_node_calls/safenodecalls/ic/candid/CandidType$Kind" "NAT32" "Lcom/example/safe_node_calls/safenodecalls/ic/candid/CandidType$Kind;" (.ref (A (6 : Int32)))) (S_NAT64 : Sta Z Z.heap "com/example/safe_node_calls/safenodecalls/ic/candid/CandidType$Kind" "NAT64" "Lcom/example/safe_node_calls/safenodecalls/ic/candid/CandidType$Kind;" (.ref (A (7 : Int32)))) (S_INT8 : Sta Z Z.heap "com/example/safe_node_calls/safenodecalls/ic/candid/CandidType$Kind" "INT8" "Lcom/example/safe_node_calls/safenodecalls/ic/candid/CandidType$Kind;" (.ref (A (8 : Int32)))) (S_INT16 : Sta Z Z.heap "com/example/safe_node_calls/safenodecalls/ic/candid/CandidType$Kind" "INT16" "Lcom/example/safe_node_calls/safenodecalls/ic/candid/CandidType$Kind;" (.ref (A (9 : Int32)))) (S_INT32 : Sta Z Z.heap "com/example/safe_node_calls/safenodecalls/ic/candid/CandidType$Kind" "INT32" "Lcom/example/safe_node_calls/safenodecalls/ic/candid/CandidType$Kind;" (.ref (A (10 : Int32)))) (S_INT64 : Sta Z Z.heap "com/example/safe_node_calls/safenodecalls/ic/candid/CandidType$Kind" "INT64" "Lcom/example/safe_node_calls/safenodecalls/ic/candid/CandidType$Kind;" (.ref (A (11 : Int32)))) (S_FLOAT32 : Sta Z Z.heap "com/example/safe_node_calls/safenodecalls/ic/candid/CandidType$Kind" "FLOAT32" "Lcom/example/safe_node_calls/safenodecalls/ic/candid/CandidType$Kind;" (.ref (A (12 : Int32)))) (S_FLOAT64 : Sta Z Z.heap "com/example/safe_node_calls/safenodecalls/ic/candid/CandidType$Kind" "FLOAT64" "Lcom/example/safe_node_calls/safenodecalls/ic/candid/CandidType$Kind;" (.ref (A (13 : Int32)))) (S_TEXT : Sta Z Z.heap "com/example/safe_node_calls/safenodecalls/ic/candid/CandidType$Kind" "TEXT" "Lcom/example/safe_node_calls/safenodecalls/ic/candid/CandidType$Kind;" (.ref (A (14 : Int32)))) (S_RESERVED : Sta Z Z.heap "com/example/safe_node_calls/safenodecalls/ic/candid/CandidType$Kind" "RESERVED" "Lcom/example/safe_node_calls/safenodecalls/ic/candid/CandidType$Kind;" (.ref (A (15 : Int32)))) (S_EMPTY : Sta Z Z.heap "com/example/safe_node_calls/safenodecalls/ic/candid/CandidType$Kind" "EMPTY" "Lcom/example/safe_node_calls/safenodecalls/ic/candid/CandidType$Kind;" (.ref (A (16 : Int32)))) (S_OPT : Sta Z Z.heap "com/example/safe_node_calls/safenodecalls/ic/candid/CandidType$Kind" "OPT" "Lcom/example/safe_node_calls/safenodecalls/ic/candid/CandidType$Kind;" (.ref (A (17 : Int32)))) (S_VEC : Sta Z Z.heap "com/example/safe_node_calls/safenodecalls/ic/candid/CandidType$Kind" "VEC" "Lcom/example/safe_node_calls/safenodecalls/ic/candid/CandidType$Kind;" (.ref (A (18 : Int32)))) (S_RECORD : Sta Z Z.heap "com/example/safe_node_calls/safenodecalls/ic/candid/CandidType$Kind" "RECORD" "Lcom/example/safe_node_calls/safenodecalls/ic/candid/CandidType$Kind;" (.ref (A (19 : Int32)))) (S_VARIANT : Sta Z Z.heap "com/example/safe_node_calls/safenodecalls/ic/candid/CandidType$Kind" "VARIANT" "Lcom/example/safe_node_calls/safenodecalls/ic/candid/CandidType$Kind;" (.ref (A (20 : Int32)))) (S_FUNC : Sta Z Z.heap "com/example/safe_node_calls/safenodecalls/ic/candid/CandidType$Kind" "FUNC" "Lcom/example/safe_node_calls/safenodecalls/ic/candid/CandidType$Kind;" (.ref (A (21 : Int32)))) (S_SERVICE : Sta Z Z.heap "com/example/safe_node_calls/safenodecalls/ic/candid/CandidType$Kind" "SERVICE" "Lcom/example/safe_node_calls/safenodecalls/ic/candid/CandidType$Kind;" (.ref (A (22 : Int32)))) (S_PRINCIPAL : Sta Z Z.heap "com/example/safe_node_calls/safenodecalls/ic/candid/CandidType$Kind" "PRINCIPAL" "Lcom/example/safe_node_calls/safenodecalls/ic/candid/CandidType$Kind;" (.ref (A (23 : Int32)))) (S_FUTURE : Sta Z Z.heap "com/example/safe_node_calls/safenodecalls/ic/candid/CandidType$Kind" "FUTURE" "Lcom/example/safe_node_calls/safenodecalls/ic/candid/CandidType$Kind;" (.ref (A (24 : Int32)))) (hE : ∀ i : Int32, (i = (0 : Int32) ∨ i = (1 : Int32) ∨ i = (2 : Int32) ∨ i = (3 : Int32) ∨ i = (4 : Int32) ∨ i = (5 : Int32) ∨ i = (6 : Int32) ∨ i = (7 : Int32) ∨ i = (8 : Int32) ∨ i = (9 : Int32) ∨ i = (10 : Int32) ∨ i = (11 : Int32) ∨ i = (12 : Int32) ∨ i = (13 : Int32) ∨ i = (14 : Int32) ∨ i = (15 : Int32) ∨ i = (16 : Int32) ∨ i = (17 : Int32) ∨ i = (18 : Int32) ∨ i = (19 : Int32) ∨ i = (20 : Int32) ∨ i = (21 : Int32) ∨ i = (22 : Int32) ∨ i = (23 : Int32) ∨ i = (24 : Int32)) → Exa Z Z.heap (A i) "com/example/safe_node_calls/safenodecalls/ic/candid/CandidType$Kind") (B_NULL : Fld Z Z.heap (A (0 : Int32)) "com/example/safe_node_calls/safenodecalls/ic/candid/CandidType$Kind" "bits" "I" (.int (0 : Int32))) (B_BOOL : Fld Z Z.heap (A (1 : Int32)) "com/example/safe_node_calls/safenodecalls/ic/candid/CandidType$Kind" "bits" "I" (.int (0 : Int32))) (B_NAT8 : Fld Z Z.heap (A (4 : Int32)) "com/example/safe_node_calls/safenodecalls/ic/candid/CandidType$Kind" "bits" "I" (.int (8 : Int32))) (B_NAT16 : Fld Z Z.heap (A (5 : Int32)) "com/example/safe_node_calls/safenodecalls/ic/candid/CandidType$Kind" "bits" "I" (.int (16 : Int32))) (B_NAT32 : Fld Z Z.heap (A (6 : Int32)) "com/example/safe_node_calls/safenodecalls/ic/candid/CandidType$Kind" "bits" "I" (.int (32 : Int32))) (B_NAT64 : Fld Z Z.heap (A (7 : Int32)) "com/example/safe_node_calls/safenodecalls/ic/candid/CandidType$Kind" "bits" "I" (.int (64 : Int32))) (B_INT8 : Fld Z Z.heap (A (8 : Int32)) "com/example/safe_node_calls/safenodecalls/ic/candid/CandidType$Kind" "bits" "I" (.int (8 : Int32))) (B_INT16 : Fld Z Z.heap (A (9 : Int32)) "com/example/safe_node_calls/safenodecalls/ic/candid/CandidType$Kind" "bits" "I" (.int (16 : Int32))) (B_INT32 : Fld Z Z.heap (A (10 : Int32)) "com/example/safe_node_calls/safenodecalls/ic/candid/CandidType$Kind" "bits" "I" (.int (32 : Int32))) (B_INT64 : Fld Z Z.heap (A (11 : Int32)) "com/example/safe_node_calls/safenodecalls/ic/candid/CandidType$Kind" "bits" "I" (.int (64 : Int32))) (B_FLOAT32 : Fld Z Z.heap (A (12 : Int32)) "com/example/safe_node_calls/safenodecalls/ic/candid/CandidType$Kind" "bits" "I" (.int (0 : Int32))) (B_FLOAT64 : Fld Z Z.heap (A (13 : Int32)) "com/example/safe_node_calls/safenodecalls/ic/candid/CandidType$Kind" "bits" "I" (.int (0 : Int32))) (B_TEXT : Fld Z Z.heap (A (14 : Int32)) "com/example/safe_node_calls/safenodecalls/ic/candid/CandidType$Kind" "bits" "I" (.int (0 : Int32))) (B_RESERVED : Fld Z Z.heap (A (15 : Int32)) "com/example/safe_node_calls/safenodecalls/ic/candid/CandidType$Kind" "bits" "I" (.int (0 : Int32))) (B_EMPTY : Fld Z Z.heap (A (16 : Int32)) "com/example/safe_node_calls/safenodecalls/ic/candid/CandidType$Kind" "bits" "I" (.int (0 : Int32))) (B_OPT : Fld Z Z.heap (A (17 : Int32)) "com/example/safe_node_calls/safenodecalls/ic/candid/CandidType$Kind" "bits" "I" (.int (0 : Int32))) (B_VEC : Fld Z Z.heap (A (18 : Int32)) "com/example/safe_node_calls/safenodecalls/ic/candid/CandidType$Kind" "bits" "I" (.int (0 : Int32))) (B_RECORD : Fld Z Z.heap (A (19 : Int32)) "com/example/safe_node_calls/safenodecalls/ic/candid/CandidType$Kind" "bits" "I" (.int (0 : Int32))) (B_VARIANT : Fld Z Z.heap (A (20 : Int32)) "com/example/safe_node_calls/safenodecalls/ic/candid/CandidType$Kind" "bits" "I" (.int (0 : Int32))) (B_FUNC : Fld Z Z.heap (A (21 : Int32)) "com/example/safe_node_calls/safenodecalls/ic/candid/CandidType$Kind" "bits" "I" (.int (0 : Int32))) (B_SERVICE : Fld Z Z.heap (A (22 : Int32)) "com/example/safe_node_calls/safenodecalls/ic/candid/CandidType$Kind" "bits" "I" (.int (0 : Int32))) (B_PRINCIPAL : Fld Z Z.heap (A (23 : Int32)) "com/example/safe_node_calls/safenodecalls/ic/candid/CandidType$Kind" "bits" "I" (.int (0 : Int32))) (B_FUTURE : Fld Z Z.heap (A (24 : Int32)) "com/example/safe_node_calls/safenodecalls/ic/candid/CandidType$Kind" "bits" "I" (.int (0 : Int32))) (hIN : ¬ ((A (3 : Int32)) = (A (2 : Int32)))) (n1_NULL : ¬ ((A (0 : Int32)) = (A (2 : Int32)))) (n2_NULL : ¬ ((A (0 : Int32)) = (A (3 : Int32)))) (n1_BOOL : ¬ ((A (1 : Int32)) = (A (2 : Int32)))) (n2_BOOL : ¬ ((A (1 : Int32)) = (A (3 : Int32)))) (n1_NAT8 : ¬ ((A (4 : Int32)) = (A (2 : Int32)))) (n2_NAT8 : ¬ ((A (4 : Int32)) = (A (3 : Int32)))) (n1_NAT16 : ¬ ((A (5 : Int32)) = (A (2 : Int32)))) (n2_NAT16 : ¬ ((A (5 : Int32)) = (A (3 : Int32)))) (n1_NAT32 : ¬ ((A (6 : Int32)) = (A (2 : Int32)))) (n2_NAT32 : ¬ ((A (6 : Int32)) = (A (3 : Int32)))) (n1_NAT64 : ¬ ((A (7 : Int32)) = (A (2 : Int32)))) (n2_NAT64 : ¬ ((A (7 : Int32)) = (A (3 : Int32)))) (n1_INT8 : ¬ ((A (8 : Int32)) = (A (2 : Int32)))) (n2_INT8 : ¬ ((A (8 : Int32)) = (A (3 : Int32)))) (n1_INT16 : ¬ ((A (9 : Int32)) = (A (2 : Int32)))) (n2_INT16 : ¬ ((A (9 : Int32)) = (A (3 : Int32)))) (n1_INT32 : ¬ ((A (10 : Int32)) = (A (2 : Int32)))) (n2_INT32 : ¬ ((A (10 : Int32)) = (A (3 : Int32)))) (n1_INT64 : ¬ ((A (11 : Int32)) = (A (2 : Int32)))) (n2_INT64 : ¬ ((A (11 : Int32)) = (A (3 : Int32)))) (n1_FLOAT32 : ¬ ((A (12 : Int32)) = (A (2 : Int32)))) (n2_FLOAT32 : ¬ ((A (12 : Int32)) = (A (3 : Int32)))) (n1_FLOAT64 : ¬ ((A (13 : Int32)) = (A (2 : Int32)))) (n2_FLOAT64 : ¬ ((A (13 : Int32)) = (A (3 : Int32)))) (n1_TEXT : ¬ ((A (14 : Int32)) = (A (2 : Int32)))) (n2_TEXT : ¬ ((A (14 : Int32)) = (A (3 : Int32)))) (n1_RESERVED : ¬ ((A (15 : Int32)) = (A (2 : Int32)))) (n2_RESERVED : ¬ ((A (15 : Int32)) = (A (3 : Int32)))) (n1_EMPTY : ¬ ((A (16 : Int32)) = (A (2 : Int32)))) (n2_EMPTY : ¬ ((A (16 : Int32)) = (A (3 : Int32)))) (n1_OPT : ¬ ((A (17 : Int32)) = (A (2 : Int32)))) (n2_OPT : ¬ ((A (17 : Int32)) = (A (3 : Int32)))) (n1_VEC : ¬ ((A (18 : Int32)) = (A (2 : Int32)))) (n2_VEC : ¬ ((A (18 : Int32)) = (A (3 : Int32)))) (n1_RECORD : ¬ ((A (19 : Int32)) = (A (2 : Int32)))) (n2_RECORD : ¬ ((A (19 : Int32)) = (A (3 : Int32)))) (n1_VARIANT : ¬ ((A (20 : Int32)) = (A (2 : Int32)))) (n2_VARIANT : ¬ ((A (20 : Int32)) = (A (3 : Int32)))) (n1_FUNC : ¬ ((A (21 : Int32)) = (A (2 : Int32)))) (n2_FUNC : ¬ ((A (21 : Int32)) = (A (3 : Int32)))) (n1_SERVICE : ¬ ((A (22 : Int32)) = (A (2 : Int32)))) (n2_SERVICE : ¬ ((A (22 : Int32)) = (A (3 : Int32)))) (n1_PRINCIPAL : ¬ ((A (23 : Int32)) = (A (2 : Int32)))) (n2_PRINCIPAL : ¬ ((A (23 : Int32)) = (A (3 : Int32)))) (n1_FUTURE : ¬ ((A (24 : Int32)) = (A (2 : Int32)))) (n2_FUTURE : ¬ ((A (24 : Int32)) = (A (3 : Int32)))) :
    MetFree l x (head1 (Jvm.Cond.code x code maxLocals ret :: ws) room_1) (fun a_ U_ => a_ = #[(.int p0)] ∧ Z.Warmed39 U_.vm ∧ U_.heap = h0) (fun _ _ _ _ _ => True) (fun _ U_ o_ U'_ => ∃ v_ L_, o_ = .returned v_ ∧ Qrm0 Z p0 A h0 n0 v_ U'_.heap L_ ∧ FrameEnd U_ o_ U'_ L_ 0 0) := by
  refine MetFree.of_bodySF (plainFor_of_name pn_121) hisR ?_
  intro pg ee s mm args below meth cc s₁ Bd hml0 hP hK
  obtain ⟨rfl, hZ, hh⟩ := hP
  have hx := Bd.exec
  have hby := Bd.bytes
  have hml : cc.maxLocals = 4 := hml0
  have hown : s.vm.findClass "com/example/safe_node_calls/safenodecalls/ic/candid/KindIsIntegerPinLaw" = some mm.cls := findClass_of_methodNamed Bd.named
  have hnm := (name_of_methodNamed Bd.named Bd.method).1
  have X0 : Stand pg l ee room_1 s mm #[(.int p0)] below meth cc s₁ [] 0 0 := Stand.of_body Bd
  have e0 : s₁.heap = h0 := by rw [← hh, Bd.state]; rfl
  have N0 := Fr.nil n0
  have K0 : Keep h0 h0 ([] : List Addr) := Keep.refl _ _
  have pre0 : ∀ t, Steps pg.tables ee below (s₁.setTop (mkF mm 0 #[.val (.int p0), .unset, .unset, .unset] [])) t → Steps pg.tables ee below (s₁.setTop (entryFrame mm #[(.int p0)] maxLocals)) t := fun t k => castTop (ef_0_194 mm p0) k
  obtain ⟨_, _, ⟨T1, L1, k1, n1⟩, -, X1, ⟨Lc1, hQ1, l1, y1, z1⟩, st1⟩ := Jvm.LawKit.callS X0 hx (y := (⟨"com/example/safe_node_calls/safenodecalls/ic/candid/KindIsIntegerPinLaw", "kindAt", "(I)Lcom/example/safe_node_calls/safenodecalls/ic/candid/CandidType$Kind;"⟩ : MethodName)) hown (mvT hZ (hw _ (List.mem_of_getElem? (i := 1) rfl))) (mvT hZ (hw _ (List.mem_of_getElem? (i := 2) rfl))) (mvT hZ (hw _ (List.mem_of_getElem? (i := 3) rfl))) (mvT hZ (hw _ (List.mem_of_getElem? (i := 4) rfl))) (by decide) (backOf (W := 0) (rmKa l Z a0 hw [] ((p0 &&& (2147483647 : Int32)) % (25 : Int32)) A h0 n0 O0 S_NULL S_BOOL S_NAT S_INT S_NAT8 S_NAT16 S_NAT32 S_NAT64 S_INT8 S_INT16 S_INT32 S_INT64 S_FLOAT32 S_FLOAT64 S_TEXT S_RESERVED S_EMPTY S_OPT S_VEC S_RECORD S_VARIANT S_FUNC S_SERVICE S_PRINCIPAL S_FUTURE (own_mod25 p0)) hZ (hw _ (List.mem_of_getElem? (i := 4) rfl)) (hw _ (List.mem_of_getElem? (i := 3) rfl)) (by decide) (by decide)) (g := (mkF mm 9 #[.val (.int p0), .val (.int ((p0 &&& (2147483647 : Int32)) % (25 : Int32))), .unset, .unset] [(.int ((p0 &&& (2147483647 : Int32)) % (25 : Int32)))])) rfl (by rw [hml]; rfl) (argsL := [(.int ((p0 &&& (2147483647 : Int32)) % (25 : Int32)))]) (rest := []) (lenOf pd_191 rfl) rfl (by show 2 * 0 + _ ≤ _; exact Nat.le_of_eq rfl) (hb hby at_9) (fun _ _ => ⟨rfl, e0, (by decide : 0 + 0 ≤ _), (by decide : 0 + 0 ≤ _)⟩)
  dsimp only [Pt.U, Pt.locs, Pt.cells, Pt.slots] at X1 l1 y1 z1 st1 hQ1
  subst l1 y1 z1
  obtain ⟨rfl, N1q, e1⟩ := hQ1
  have N1 := Fr.app N0 N1q
  obtain ⟨_, _, ⟨T2, L2, k2, n2⟩, -, X2, ⟨Lc2, hQ2, l2, y2, z2⟩, st2⟩ := Jvm.LawKit.callS X1 hx (y := (⟨"com/example/safe_node_calls/safenodecalls/ic/candid/KindIsIntegerPinLaw", "isIntegerIndex", "(I)Z"⟩ : MethodName)) hown (mvT hZ (hw _ (List.mem_of_getElem? (i := 8) rfl))) (mvT hZ (hw _ (List.mem_of_getElem? (i := 9) rfl))) (mvT hZ (hw _ (List.mem_of_getElem? (i := 3) rfl))) (mvT hZ (hw _ (List.mem_of_getElem? (i := 10) rfl))) (by decide) (backOf (W := 0) (rmIx l Z a0 hw [] ((p0 &&& (2147483647 : Int32)) % (25 : Int32)) h0 n0 O0) hZ (hw _ (List.mem_of_getElem? (i := 10) rfl)) (hw _ (List.mem_of_getElem? (i := 3) rfl)) (by decide) (by decide)) (g := (mkF mm 14 #[.val (.int p0), .val (.int ((p0 &&& (2147483647 : Int32)) % (25 : Int32))), .val (.ref (A ((p0 &&& (2147483647 : Int32)) % (25 : Int32)))), .unset] [(.int ((p0 &&& (2147483647 : Int32)) % (25 : Int32)))])) rfl (by rw [hml]; rfl) (argsL := [(.int ((p0 &&& (2147483647 : Int32)) % (25 : Int32)))]) (rest := []) (lenOf pd_192 rfl) rfl (by show 2 * 0 + _ ≤ _; exact Nat.le_of_eq rfl) (hb hby at_14) (fun _ _ => ⟨rfl, e1, (by decide : 0 + 0 ≤ _), (by decide : 0 + 0 ≤ _)⟩)
  dsimp only [Pt.U, Pt.locs, Pt.cells, Pt.slots] at X2 l2 y2 z2 st2 hQ2
  subst l2 y2 z2
  obtain ⟨rfl, N2q, e2⟩ := hQ2
  have N2 := Fr.app N1 N2q
  obtain ⟨cq3, kq3, q3a, q3b, q3c⟩ := isOf hZ e2 ((hE _ (own_mod25 p0)).ext O0.2)
  obtain ⟨_, _, ⟨T3, L3, k3, n3⟩, -, X3, ⟨Lc3, hQ3, l3, y3, z3⟩, st3⟩ := X2.virtualBack hx (y := (⟨"com/example/safe_node_calls/safenodecalls/ic/candid/CandidType$Kind", "isInteger", "()Z"⟩ : MethodName)) (z := (⟨"com/example/safe_node_calls/safenodecalls/ic/candid/CandidType$Kind", "isInteger", "()Z"⟩ : MethodName)) hown (mvT hZ (hw _ (List.mem_of_getElem? (i := 11) rfl))) (mvT hZ (hw _ (List.mem_of_getElem? (i := 12) rfl))) (notFace_of_selects (args := #[]) (mvT hZ (hw _ (List.mem_of_getElem? (i := 14) rfl)))) (mvT hZ (hw _ (List.mem_of_getElem? (i := 14) rfl))) (mvT hZ (hw _ (List.mem_of_getElem? (i := 13) rfl))) (by decide) (backOf (W := 0) (rmK l Z a0 hw [] ((p0 &&& (2147483647 : Int32)) % (25 : Int32)) A h0 n0 O0 (own_mod25 p0) S_NAT S_INT B_NULL B_BOOL B_NAT8 B_NAT16 B_NAT32 B_NAT64 B_INT8 B_INT16 B_INT32 B_INT64 B_FLOAT32 B_FLOAT64 B_TEXT B_RESERVED B_EMPTY B_OPT B_VEC B_RECORD B_VARIANT B_FUNC B_SERVICE B_PRINCIPAL B_FUTURE hIN n1_NULL n2_NULL n1_BOOL n2_BOOL n1_NAT8 n2_NAT8 n1_NAT16 n2_NAT16 n1_NAT32 n2_NAT32 n1_NAT64 n2_NAT64 n1_INT8 n2_INT8 n1_INT16 n2_INT16 n1_INT32 n2_INT32 n1_INT64 n2_INT64 n1_FLOAT32 n2_FLOAT32 n1_FLOAT64 n2_FLOAT64 n1_TEXT n2_TEXT n1_RESERVED n2_RESERVED n1_EMPTY n2_EMPTY n1_OPT n2_OPT n1_VEC n2_VEC n1_RECORD n2_RECORD n1_VARIANT n2_VARIANT n1_FUNC n2_FUNC n1_SERVICE n2_SERVICE n1_PRINCIPAL n2_PRINCIPAL n1_FUTURE n2_FUTURE) hZ (hw _ (List.mem_of_getElem? (i := 15) rfl)) (hw _ (List.mem_of_getElem? (i := 6) rfl)) (by decide) (by decide)) q3a q3c (g := (mkF mm 19 #[.val (.int p0), .val (.int ((p0 &&& (2147483647 : Int32)) % (25 : Int32))), .val (.ref (A ((p0 &&& (2147483647 : Int32)) % (25 : Int32)))), .val (.int (own_f ((p0 &&& (2147483647 : Int32)) % (25 : Int32))))] [(.ref (A ((p0 &&& (2147483647 : Int32)) % (25 : Int32))))])) rfl (by rw [hml]; rfl) (Steps.refl _) (argsL := []) (rest := []) (lenOf pd_193 rfl) rfl (by show 2 * 0 + _ ≤ _; exact Nat.le_of_eq rfl) (hb hby at_19) (fun _ _ => ⟨rfl, e2, (by decide : 0 + 0 ≤ _), (by decide : 0 + 0 ≤ _)⟩)
  dsimp only [Pt.U, Pt.locs, Pt.cells, Pt.slots] at X3 l3 y3 z3 st3 hQ3
  subst l3 y3 z3
  obtain ⟨rfl, N3q, e3⟩ := hQ3
  have N3 := Fr.app N2 N3q
  obtain ⟨fs, hr, hrun, hended, hW, hsame⟩ := X3.leave (v := some (.int (1 : Int32))) (fun h => by rw [Bd.returns] at h; cases h)
  refine ⟨_, _, pre0 _ ?_, hrun, hended, _, _, rfl, ?_, ⟨_, rfl⟩, hW, hsame.mono (by decide) (by decide)⟩
  · show Steps pg.tables ee below (s₁.setTop (mkF mm 0 #[.val (.int p0), .unset, .unset, .unset] [])) _
    refine XS.iloadN X0.here hx rfl (hb hby at_0) rfl ?_
    show Steps pg.tables ee below (s₁.setTop (mkF mm 1 #[.val (.int p0), .unset, .unset, .unset] [(.int p0)])) _
    refine X0.ldcInt hx hown (mvT hZ (hw _ (List.mem_of_getElem? (i := 0) rfl))) (g := (mkF mm 1 #[.val (.int p0), .unset, .unset, .unset] [(.int p0)])) rfl (hb hby at_1) _ ?_
    show Steps pg.tables ee below (s₁.setTop (mkF mm 3 #[.val (.int p0), .unset, .unset, .unset] [(.int (2147483647 : Int32)), (.int p0)])) _
    refine XS.iand X0.here hx rfl (hb hby at_3) rfl ?_
    show Steps pg.tables ee below (s₁.setTop (mkF mm 4 #[.val (.int p0), .unset, .unset, .unset] [(.int (p0 &&& (2147483647 : Int32)))])) _
    refine XS.bipush X0.here hx rfl (hb hby at_4) ?_
    show Steps pg.tables ee below (s₁.setTop (mkF mm 6 #[.val (.int p0), .unset, .unset, .unset] [(.int (25 : Int32)), (.int (p0 &&& (2147483647 : Int32)))])) _
    refine iremM X0 hx rfl (hb hby at_6) rfl (by decide) ?_
    show Steps pg.tables ee below (s₁.setTop (mkF mm 7 #[.val (.int p0), .unset, .unset, .unset] [(.int ((p0 &&& (2147483647 : Int32)) % (25 : Int32)))])) _
    refine XS.istoreN X0.here hx rfl (hb hby at_7) rfl (l' := #[.val (.int p0), .val (.int ((p0 &&& (2147483647 : Int32)) % (25 : Int32))), .unset, .unset]) rfl ?_
    show Steps pg.tables ee below (s₁.setTop (mkF mm 8 #[.val (.int p0), .val (.int ((p0 &&& (2147483647 : Int32)) % (25 : Int32))), .unset, .unset] [])) _
    refine XS.iloadN X0.here hx rfl (hb hby at_8) rfl ?_
    show Steps pg.tables ee below (s₁.setTop (mkF mm 9 #[.val (.int p0), .val (.int ((p0 &&& (2147483647 : Int32)) % (25 : Int32))), .unset, .unset] [(.int ((p0 &&& (2147483647 : Int32)) % (25 : Int32)))])) _
    refine st1 _ ?_
    show Steps pg.tables ee below (T1.setTop (mkF mm 12 #[.val (.int p0), .val (.int ((p0 &&& (2147483647 : Int32)) % (25 : Int32))), .unset, .unset] [(.ref (A ((p0 &&& (2147483647 : Int32)) % (25 : Int32))))])) _
    refine XS.astoreN X1.here hx rfl (hb hby at_12) rfl rfl (l' := #[.val (.int p0), .val (.int ((p0 &&& (2147483647 : Int32)) % (25 : Int32))), .val (.ref (A ((p0 &&& (2147483647 : Int32)) % (25 : Int32)))), .unset]) rfl ?_
    show Steps pg.tables ee below (T1.setTop (mkF mm 13 #[.val (.int p0), .val (.int ((p0 &&& (2147483647 : Int32)) % (25 : Int32))), .val (.ref (A ((p0 &&& (2147483647 : Int32)) % (25 : Int32)))), .unset] [])) _
    refine XS.iloadN X1.here hx rfl (hb hby at_13) rfl ?_
    show Steps pg.tables ee below (T1.setTop (mkF mm 14 #[.val (.int p0), .val (.int ((p0 &&& (2147483647 : Int32)) % (25 : Int32))), .val (.ref (A ((p0 &&& (2147483647 : Int32)) % (25 : Int32)))), .unset] [(.int ((p0 &&& (2147483647 : Int32)) % (25 : Int32)))])) _
    refine st2 _ ?_
    show Steps pg.tables ee below (T2.setTop (mkF mm 17 #[.val (.int p0), .val (.int ((p0 &&& (2147483647 : Int32)) % (25 : Int32))), .val (.ref (A ((p0 &&& (2147483647 : Int32)) % (25 : Int32)))), .unset] [(.int (own_f ((p0 &&& (2147483647 : Int32)) % (25 : Int32))))])) _
    refine XS.istoreN X2.here hx rfl (hb hby at_17) rfl (l' := #[.val (.int p0), .val (.int ((p0 &&& (2147483647 : Int32)) % (25 : Int32))), .val (.ref (A ((p0 &&& (2147483647 : Int32)) % (25 : Int32)))), .val (.int (own_f ((p0 &&& (2147483647 : Int32)) % (25 : Int32))))]) rfl ?_
    show Steps pg.tables ee below (T2.setTop (mkF mm 18 #[.val (.int p0), .val (.int ((p0 &&& (2147483647 : Int32)) % (25 : Int32))), .val (.ref (A ((p0 &&& (2147483647 : Int32)) % (25 : Int32)))), .val (.int (own_f ((p0 &&& (2147483647 : Int32)) % (25 : Int32))))] [])) _
    refine XS.aloadN X2.here hx rfl (hb hby at_18) rfl rfl ?_
    show Steps pg.tables ee below (T2.setTop (mkF mm 19 #[.val (.int p0), .val (.int ((p0 &&& (2147483647 : Int32)) % (25 : Int32))), .val (.ref (A ((p0 &&& (2147483647 : Int32)) % (25 : Int32)))), .val (.int (own_f ((p0 &&& (2147483647 : Int32)) % (25 : Int32))))] [(.ref (A ((p0 &&& (2147483647 : Int32)) % (25 : Int32))))])) _
    refine st3.trans ?_
    show Steps pg.tables ee below (T3.setTop (mkF mm 22 #[.val (.int p0), .val (.int ((p0 &&& (2147483647 : Int32)) % (25 : Int32))), .val (.ref (A ((p0 &&& (2147483647 : Int32)) % (25 : Int32)))), .val (.int (own_f ((p0 &&& (2147483647 : Int32)) % (25 : Int32))))] [(.int (own_f ((p0 &&& (2147483647 : Int32)) % (25 : Int32))))])) _
    refine XS.iloadN X3.here hx rfl (hb hby at_22) rfl ?_
    show Steps pg.tables ee below (T3.setTop (mkF mm 23 #[.val (.int p0), .val (.int ((p0 &&& (2147483647 : Int32)) % (25 : Int32))), .val (.ref (A ((p0 &&& (2147483647 : Int32)) % (25 : Int32)))), .val (.int (own_f ((p0 &&& (2147483647 : Int32)) % (25 : Int32))))] [(.int (own_f ((p0 &&& (2147483647 : Int32)) % (25 : Int32)))), (.int (own_f ((p0 &&& (2147483647 : Int32)) % (25 : Int32))))])) _
    refine XS.icmpNo X3.here hx rfl (hb hby at_23) rfl (teq (rfl : (own_f ((p0 &&& (2147483647 : Int32)) % (25 : Int32))) = (own_f ((p0 &&& (2147483647 : Int32)) % (25 : Int32))))).2 ?_
    show Steps pg.tables ee below (T3.setTop (mkF mm 26 #[.val (.int p0), .val (.int ((p0 &&& (2147483647 : Int32)) % (25 : Int32))), .val (.ref (A ((p0 &&& (2147483647 : Int32)) % (25 : Int32)))), .val (.int (own_f ((p0 &&& (2147483647 : Int32)) % (25 : Int32))))] [])) _
    refine XS.iconst X3.here hx rfl (hb hby at_26) ?_
    show Steps pg.tables ee below (T3.setTop (mkF mm 27 #[.val (.int p0), .val (.int ((p0 &&& (2147483647 : Int32)) % (25 : Int32))), .val (.ref (A ((p0 &&& (2147483647 : Int32)) % (25 : Int32)))), .val (.int (own_f ((p0 &&& (2147483647 : Int32)) % (25 : Int32))))] [(.int (1 : Int32))])) _
    refine XS.goto X3.here hx rfl (pc0 := 27) (pc' := 31) rfl (hb hby at_27) (by decide) (by decide) ?_
    show Steps pg.tables ee below (T3.setTop (mkF mm 31 #[.val (.int p0), .val (.int ((p0 &&& (2147483647 : Int32)) % (25 : Int32))), .val (.ref (A ((p0 &&& (2147483647 : Int32)) % (25 : Int32)))), .val (.int (own_f ((p0 &&& (2147483647 : Int32)) % (25 : Int32))))] [(.int (1 : Int32))])) _
    exact retN X3 hx (t := .boolean) Bd.returns (by simp) (hb hby at_31) hr
  · show Qrm0 Z p0 A h0 n0 _ T3.heap _
    rw [e3]
    exact ⟨rfl, N3⟩
set_option maxRecDepth 65536 in
set_option maxHeartbeats 40000000 in
theorem comes_1 {Post : Tables → Env → Array Value → State → Outcome → State → Prop} (hpost : ∀ tb e args s v u, (limb_1_1.after args s (.returned v) u = true ∧ limb_1_2.after args s (.returned v) u = true ∧ True) → FrameEnd s (.returned v) u (Jvm.fieldLocs frame_1_writes args s ++ Jvm.arrayLocs frame_1_arrays args s ++ Jvm.staticLocs frame_1_statics s) 0 0 → Post tb e args s (.returned v) u) :
    ArmFor flags0 classFile x code maxLocals ret World_1 tables_1 room_1 Calls_1 rest_1 Pre_1 Post := by
  intro l hfl _ _ p e ha hc hk s m args below hf hA hF happ hP
  obtain ⟨hcalls, hrest, hpre⟩ := hP
  obtain ⟨-, -, -, hnamed, -, -, -, hat⟩ := (Spec.applies_iff hf).mp happ
  obtain ⟨hg, hn⟩ := and_e (Cond.before_iff.mp (show (Jvm.Cond.and given_1 narrow_1).before args s = true from hpre))
  obtain ⟨gg1, gg2⟩ := and_e hg
  obtain ⟨w0, rfl⟩ : ∃ w0 : Value, args = #[w0] := by
    have hs : args.size = 1 := by simpa [Cond.value, given_1] using gg1
    obtain ⟨L⟩ := args
    match L, hs with
    | [w0], _ => exact ⟨w0, rfl⟩
  have hw := fun d (hd : d ∈ tables_1) => atoms_spec (ws := Jvm.Cond.code x code maxLocals ret :: tables_1) hat d (List.mem_cons_of_mem _ hd)
  have hfit : Fit s := fun {y c} hc i hi => by
    obtain ⟨ha, rfl⟩ := Array.getElem?_eq_some_iff.mp hc
    have q := List.all_eq_true.mp ((Array.all_eq_true_iff_forall_mem.mp hF) _ (Array.getElem_mem ha)) i (List.mem_range.mpr hi)
    simpa [Array.getElem?_eq_getElem hi] using q
  obtain ⟨i0, ei0⟩ := is_v gg2
  obtain rfl : w0 = (.int i0) := Option.some.inj ei0
  obtain ⟨gg3, gg4⟩ := and_e hn
  obtain ⟨gg5, gg6⟩ := and_e gg4
  obtain ⟨gg7, gg8⟩ := and_e gg6
  obtain ⟨gg9, gg10⟩ := and_e gg8
  obtain ⟨gg11, gg12⟩ := and_e gg10
  obtain ⟨gg13, gg14⟩ := and_e gg12
  obtain ⟨gg15, gg16⟩ := and_e gg14
  obtain ⟨gg17, gg18⟩ := and_e gg16
  obtain ⟨gg19, gg20⟩ := and_e gg18
  obtain ⟨gg21, gg22⟩ := and_e gg20
  obtain ⟨gg23, gg24⟩ := and_e gg22
  obtain ⟨gg25, gg26⟩ := and_e gg24
  obtain ⟨gg27, gg28⟩ := and_e gg26
  obtain ⟨gg29, gg30⟩ := and_e gg28
  obtain ⟨gg31, gg32⟩ := and_e gg30
  obtain ⟨gg33, gg34⟩ := and_e gg32
  obtain ⟨gg35, gg36⟩ := and_e gg34
  obtain ⟨gg37, gg38⟩ := and_e gg36
  obtain ⟨gg39, gg40⟩ := and_e gg38
  obtain ⟨gg41, gg42⟩ := and_e gg40
  obtain ⟨gg43, gg44⟩ := and_e gg42
  obtain ⟨gg45, gg46⟩ := and_e gg44
  obtain ⟨gg47, gg48⟩ := and_e gg46
  obtain ⟨gg49, gg50⟩ := and_e gg48
  obtain ⟨gg51, gg52⟩ := and_e gg50
  obtain ⟨gg53, gg54⟩ := and_e gg52
  obtain ⟨gg55, gg56⟩ := and_e gg54
  obtain ⟨gg57, gg58⟩ := and_e gg56
  obtain ⟨gg59, gg60⟩ := and_e gg58
  obtain ⟨gg61, gg62⟩ := and_e gg60
  obtain ⟨gg63, gg64⟩ := and_e gg62
  obtain ⟨gg65, gg66⟩ := and_e gg64
  obtain ⟨gg67, gg68⟩ := and_e gg66
  obtain ⟨gg69, gg70⟩ := and_e gg68
  obtain ⟨gg71, gg72⟩ := and_e gg70
  obtain ⟨gg73, gg74⟩ := and_e gg72
  obtain ⟨gg75, gg76⟩ := and_e gg74
  obtain ⟨gg77, gg78⟩ := and_e gg76
  obtain ⟨gg79, gg80⟩ := and_e gg78
  obtain ⟨gg81, gg82⟩ := and_e gg80
  obtain ⟨gg83, gg84⟩ := and_e gg82
  obtain ⟨gg85, gg86⟩ := and_e gg84
  obtain ⟨gg87, gg88⟩ := and_e gg86
  obtain ⟨gg89, gg90⟩ := and_e gg88
  obtain ⟨gg91, gg92⟩ := and_e gg90
  obtain ⟨gg93, gg94⟩ := and_e gg92
  obtain ⟨gg95, gg96⟩ := and_e gg94
  obtain ⟨gg97, gg98⟩ := and_e gg96
  obtain ⟨gg99, gg100⟩ := and_e gg98
  obtain ⟨gg101, gg102⟩ := and_e gg100
  obtain ⟨gg103, gg104⟩ := and_e gg102
  obtain ⟨gg105, gg106⟩ := and_e gg104
  obtain ⟨gg107, gg108⟩ := and_e gg106
  obtain ⟨gg109, gg110⟩ := and_e gg108
  obtain ⟨gg111, gg112⟩ := and_e gg110
  obtain ⟨gg113, gg114⟩ := and_e gg112
  obtain ⟨gg115, gg116⟩ := and_e gg114
  obtain ⟨gg117, gg118⟩ := and_e gg116
  obtain ⟨gg119, gg120⟩ := and_e gg118
  obtain ⟨gg121, gg122⟩ := and_e gg120
  obtain ⟨gg123, gg124⟩ := and_e gg122
  obtain ⟨gg125, gg126⟩ := and_e gg124
  obtain ⟨gg127, gg128⟩ := and_e gg126
  obtain ⟨gg129, gg130⟩ := and_e gg128
  obtain ⟨gg131, gg132⟩ := and_e gg130
  obtain ⟨gg133, gg134⟩ := and_e gg132
  obtain ⟨gg135, gg136⟩ := and_e gg134
  obtain ⟨gg137, gg138⟩ := and_e gg136
  obtain ⟨gg139, gg140⟩ := and_e gg138
  obtain ⟨gg141, gg142⟩ := and_e gg140
  obtain ⟨gg143, gg144⟩ := and_e gg142
  obtain ⟨gg145, gg146⟩ := and_e gg144
  obtain ⟨gg147, gg148⟩ := and_e gg146
  obtain ⟨gg149, gg150⟩ := and_e gg148
  obtain ⟨a_NULL, ev_NULL⟩ := exa_v gg3
  have E_NULL := Exa.start ev_NULL gg3
  have S_NULL := Sta.start ev_NULL (Or.inr ⟨(hw _ (List.mem_of_getElem? (i := 6) rfl)), (hw _ (List.mem_of_getElem? (i := 7) rfl))⟩)
  obtain ⟨a_NAT, ev_NAT⟩ := exa_v gg5
  have E_NAT := Exa.start ev_NAT gg5
  have S_NAT := Sta.start ev_NAT (Or.inr ⟨(hw _ (List.mem_of_getElem? (i := 6) rfl)), (hw _ (List.mem_of_getElem? (i := 17) rfl))⟩)
  obtain ⟨a_INT, ev_INT⟩ := exa_v gg11
  have E_INT := Exa.start ev_INT gg11
  have S_INT := Sta.start ev_INT (Or.inr ⟨(hw _ (List.mem_of_getElem? (i := 6) rfl)), (hw _ (List.mem_of_getElem? (i := 19) rfl))⟩)
  obtain ⟨a_INT32, ev_INT32⟩ := exa_v gg17
  have E_INT32 := Exa.start ev_INT32 gg17
  have S_INT32 := Sta.start ev_INT32 (Or.inr ⟨(hw _ (List.mem_of_getElem? (i := 6) rfl)), (hw _ (List.mem_of_getElem? (i := 24) rfl))⟩)
  obtain ⟨a_NAT32, ev_NAT32⟩ := exa_v gg23
  have E_NAT32 := Exa.start ev_NAT32 gg23
  have S_NAT32 := Sta.start ev_NAT32 (Or.inr ⟨(hw _ (List.mem_of_getElem? (i := 6) rfl)), (hw _ (List.mem_of_getElem? (i := 26) rfl))⟩)
  obtain ⟨a_FUTURE, ev_FUTURE⟩ := exa_v gg29
  have E_FUTURE := Exa.start ev_FUTURE gg29
  have S_FUTURE := Sta.start ev_FUTURE (Or.inr ⟨(hw _ (List.mem_of_getElem? (i := 6) rfl)), (hw _ (List.mem_of_getElem? (i := 28) rfl))⟩)
  obtain ⟨a_NAT64, ev_NAT64⟩ := exa_v gg35
  have E_NAT64 := Exa.start ev_NAT64 gg35
  have S_NAT64 := Sta.start ev_NAT64 (Or.inr ⟨(hw _ (List.mem_of_getElem? (i := 6) rfl)), (hw _ (List.mem_of_getElem? (i := 30) rfl))⟩)
  obtain ⟨a_INT64, ev_INT64⟩ := exa_v gg41
  have E_INT64 := Exa.start ev_INT64 gg41
  have S_INT64 := Sta.start ev_INT64 (Or.inr ⟨(hw _ (List.mem_of_getElem? (i := 6) rfl)), (hw _ (List.mem_of_getElem? (i := 33) rfl))⟩)
  obtain ⟨a_VARIANT, ev_VARIANT⟩ := exa_v gg47
  have E_VARIANT := Exa.start ev_VARIANT gg47
  have S_VARIANT := Sta.start ev_VARIANT (Or.inr ⟨(hw _ (List.mem_of_getElem? (i := 6) rfl)), (hw _ (List.mem_of_getElem? (i := 35) rfl))⟩)
  obtain ⟨a_INT8, ev_INT8⟩ := exa_v gg53
  have E_INT8 := Exa.start ev_INT8 gg53
  have S_INT8 := Sta.start ev_INT8 (Or.inr ⟨(hw _ (List.mem_of_getElem? (i := 6) rfl)), (hw _ (List.mem_of_getElem? (i := 37) rfl))⟩)
  obtain ⟨a_BOOL, ev_BOOL⟩ := exa_v gg59
  have E_BOOL := Exa.start ev_BOOL gg59
  have S_BOOL := Sta.start ev_BOOL (Or.inr ⟨(hw _ (List.mem_of_getElem? (i := 6) rfl)), (hw _ (List.mem_of_getElem? (i := 39) rfl))⟩)
  obtain ⟨a_RECORD, ev_RECORD⟩ := exa_v gg65
  have E_RECORD := Exa.start ev_RECORD gg65
  have S_RECORD := Sta.start ev_RECORD (Or.inr ⟨(hw _ (List.mem_of_getElem? (i := 6) rfl)), (hw _ (List.mem_of_getElem? (i := 41) rfl))⟩)
  obtain ⟨a_RESERVED, ev_RESERVED⟩ := exa_v gg71
  have E_RESERVED := Exa.start ev_RESERVED gg71
  have S_RESERVED := Sta.start ev_RESERVED (Or.inr ⟨(hw _ (List.mem_of_getElem? (i := 6) rfl)), (hw _ (List.mem_of_getElem? (i := 43) rfl))⟩)
  obtain ⟨a_EMPTY, ev_EMPTY⟩ := exa_v gg77
  have E_EMPTY := Exa.start ev_EMPTY gg77
  have S_EMPTY := Sta.start ev_EMPTY (Or.inr ⟨(hw _ (List.mem_of_getElem? (i := 6) rfl)), (hw _ (List.mem_of_getElem? (i := 45) rfl))⟩)
  obtain ⟨a_FLOAT32, ev_FLOAT32⟩ := exa_v gg83
  have E_FLOAT32 := Exa.start ev_FLOAT32 gg83
  have S_FLOAT32 := Sta.start ev_FLOAT32 (Or.inr ⟨(hw _ (List.mem_of_getElem? (i := 6) rfl)), (hw _ (List.mem_of_getElem? (i := 47) rfl))⟩)
  obtain ⟨a_SERVICE, ev_SERVICE⟩ := exa_v gg89
  have E_SERVICE := Exa.start ev_SERVICE gg89
  have S_SERVICE := Sta.start ev_SERVICE (Or.inr ⟨(hw _ (List.mem_of_getElem? (i := 6) rfl)), (hw _ (List.mem_of_getElem? (i := 49) rfl))⟩)
  obtain ⟨a_OPT, ev_OPT⟩ := exa_v gg95
  have E_OPT := Exa.start ev_OPT gg95
  have S_OPT := Sta.start ev_OPT (Or.inr ⟨(hw _ (List.mem_of_getElem? (i := 6) rfl)), (hw _ (List.mem_of_getElem? (i := 51) rfl))⟩)
  obtain ⟨a_NAT16, ev_NAT16⟩ := exa_v gg101
  have E_NAT16 := Exa.start ev_NAT16 gg101
  have S_NAT16 := Sta.start ev_NAT16 (Or.inr ⟨(hw _ (List.mem_of_getElem? (i := 6) rfl)), (hw _ (List.mem_of_getElem? (i := 53) rfl))⟩)
  obtain ⟨a_PRINCIPAL, ev_PRINCIPAL⟩ := exa_v gg107
  have E_PRINCIPAL := Exa.start ev_PRINCIPAL gg107
  have S_PRINCIPAL := Sta.start ev_PRINCIPAL (Or.inr ⟨(hw _ (List.mem_of_getElem? (i := 6) rfl)), (hw _ (List.mem_of_getElem? (i := 55) rfl))⟩)
  obtain ⟨a_INT16, ev_INT16⟩ := exa_v gg113
  have E_INT16 := Exa.start ev_INT16 gg113
  have S_INT16 := Sta.start ev_INT16 (Or.inr ⟨(hw _ (List.mem_of_getElem? (i := 6) rfl)), (hw _ (List.mem_of_getElem? (i := 57) rfl))⟩)
  obtain ⟨a_TEXT, ev_TEXT⟩ := exa_v gg119
  have E_TEXT := Exa.start ev_TEXT gg119
  have S_TEXT := Sta.start ev_TEXT (Or.inr ⟨(hw _ (List.mem_of_getElem? (i := 6) rfl)), (hw _ (List.mem_of_getElem? (i := 59) rfl))⟩)
  obtain ⟨a_NAT8, ev_NAT8⟩ := exa_v gg125
  have E_NAT8 := Exa.start ev_NAT8 gg125
  have S_NAT8 := Sta.start ev_NAT8 (Or.inr ⟨(hw _ (List.mem_of_getElem? (i := 6) rfl)), (hw _ (List.mem_of_getElem? (i := 61) rfl))⟩)
  obtain ⟨a_FLOAT64, ev_FLOAT64⟩ := exa_v gg131
  have E_FLOAT64 := Exa.start ev_FLOAT64 gg131
  have S_FLOAT64 := Sta.start ev_FLOAT64 (Or.inr ⟨(hw _ (List.mem_of_getElem? (i := 6) rfl)), (hw _ (List.mem_of_getElem? (i := 63) rfl))⟩)
  obtain ⟨a_VEC, ev_VEC⟩ := exa_v gg137
  have E_VEC := Exa.start ev_VEC gg137
  have S_VEC := Sta.start ev_VEC (Or.inr ⟨(hw _ (List.mem_of_getElem? (i := 6) rfl)), (hw _ (List.mem_of_getElem? (i := 65) rfl))⟩)
  obtain ⟨a_FUNC, ev_FUNC⟩ := exa_v gg143
  have E_FUNC := Exa.start ev_FUNC gg143
  have S_FUNC := Sta.start ev_FUNC (Or.inr ⟨(hw _ (List.mem_of_getElem? (i := 6) rfl)), (hw _ (List.mem_of_getElem? (i := 67) rfl))⟩)
  have F_NULL_ordinal := own_fld ev_NULL gg7
  have F_NAT_ordinal := own_fld ev_NAT gg9
  have F_INT_ordinal := own_fld ev_INT gg13
  have F_NULL_bits := own_fld ev_NULL gg15
  have F_INT32_ordinal := own_fld ev_INT32 gg19
  have F_INT32_bits := own_fld ev_INT32 gg21
  have F_NAT32_ordinal := own_fld ev_NAT32 gg25
  have F_NAT32_bits := own_fld ev_NAT32 gg27
  have F_FUTURE_ordinal := own_fld ev_FUTURE gg31
  have F_FUTURE_bits := own_fld ev_FUTURE gg33
  have F_NAT64_ordinal := own_fld ev_NAT64 gg37
  have F_NAT64_bits := own_fld ev_NAT64 gg39
  have F_INT64_ordinal := own_fld ev_INT64 gg43
  have F_INT64_bits := own_fld ev_INT64 gg45
  have F_VARIANT_ordinal := own_fld ev_VARIANT gg49
  have F_VARIANT_bits := own_fld ev_VARIANT gg51
  have F_INT8_ordinal := own_fld ev_INT8 gg55
  have F_INT8_bits := own_fld ev_INT8 gg57
  have F_BOOL_ordinal := own_fld ev_BOOL gg61
  have F_BOOL_bits := own_fld ev_BOOL gg63
  have F_RECORD_ordinal := own_fld ev_RECORD gg67
  have F_RECORD_bits := own_fld ev_RECORD gg69
  have F_RESERVED_ordinal := own_fld ev_RESERVED gg73
  have F_RESERVED_bits := own_fld ev_RESERVED gg75
  have F_EMPTY_ordinal := own_fld ev_EMPTY gg79
  have F_EMPTY_bits := own_fld ev_EMPTY gg81
  have F_FLOAT32_ordinal := own_fld ev_FLOAT32 gg85
  have F_FLOAT32_bits := own_fld ev_FLOAT32 gg87
  have F_SERVICE_ordinal := own_fld ev_SERVICE gg91
  have F_SERVICE_bits := own_fld ev_SERVICE gg93
  have F_OPT_ordinal := own_fld ev_OPT gg97
  have F_OPT_bits := own_fld ev_OPT gg99
  have F_NAT16_ordinal := own_fld ev_NAT16 gg103
  have F_NAT16_bits := own_fld ev_NAT16 gg105
  have F_PRINCIPAL_ordinal := own_fld ev_PRINCIPAL gg109
  have F_PRINCIPAL_bits := own_fld ev_PRINCIPAL gg111
  have F_INT16_ordinal := own_fld ev_INT16 gg115
  have F_INT16_bits := own_fld ev_INT16 gg117
  have F_TEXT_ordinal := own_fld ev_TEXT gg121
  have F_TEXT_bits := own_fld ev_TEXT gg123
  have F_NAT8_ordinal := own_fld ev_NAT8 gg127
  have F_NAT8_bits := own_fld ev_NAT8 gg129
  have F_FLOAT64_ordinal := own_fld ev_FLOAT64 gg133
  have F_FLOAT64_bits := own_fld ev_FLOAT64 gg135
  have F_VEC_ordinal := own_fld ev_VEC gg139
  have F_VEC_bits := own_fld ev_VEC gg141
  have F_FUNC_ordinal := own_fld ev_FUNC gg145
  have F_FUNC_bits := own_fld ev_FUNC gg147
  have F_NAT_bits := own_fld ev_NAT gg149
  have F_INT_bits := own_fld ev_INT gg150
  have hE : ∀ i : Int32, (i = (0 : Int32) ∨ i = (1 : Int32) ∨ i = (2 : Int32) ∨ i = (3 : Int32) ∨ i = (4 : Int32) ∨ i = (5 : Int32) ∨ i = (6 : Int32) ∨ i = (7 : Int32) ∨ i = (8 : Int32) ∨ i = (9 : Int32) ∨ i = (10 : Int32) ∨ i = (11 : Int32) ∨ i = (12 : Int32) ∨ i = (13 : Int32) ∨ i = (14 : Int32) ∨ i = (15 : Int32) ∨ i = (16 : Int32) ∨ i = (17 : Int32) ∨ i = (18 : Int32) ∨ i = (19 : Int32) ∨ i = (20 : Int32) ∨ i = (21 : Int32) ∨ i = (22 : Int32) ∨ i = (23 : Int32) ∨ i = (24 : Int32)) → Exa s s.heap (own_A a_NULL a_BOOL a_NAT a_INT a_NAT8 a_NAT16 a_NAT32 a_NAT64 a_INT8 a_INT16 a_INT32 a_INT64 a_FLOAT32 a_FLOAT64 a_TEXT a_RESERVED a_EMPTY a_OPT a_VEC a_RECORD a_VARIANT a_FUNC a_SERVICE a_PRINCIPAL a_FUTURE i) "com/example/safe_node_calls/safenodecalls/ic/candid/CandidType$Kind" := by
    intro i hi
    rcases hi with rfl | rfl | rfl | rfl | rfl | rfl | rfl | rfl | rfl | rfl | rfl | rfl | rfl | rfl | rfl | rfl | rfl | rfl | rfl | rfl | rfl | rfl | rfl | rfl | rfl
    · exact E_NULL
    · exact E_BOOL
    · exact E_NAT
    · exact E_INT
    · exact E_NAT8
    · exact E_NAT16
    · exact E_NAT32
    · exact E_NAT64
    · exact E_INT8
    · exact E_INT16
    · exact E_INT32
    · exact E_INT64
    · exact E_FLOAT32
    · exact E_FLOAT64
    · exact E_TEXT
    · exact E_RESERVED
    · exact E_EMPTY
    · exact E_OPT
    · exact E_VEC
    · exact E_RECORD
    · exact E_VARIANT
    · exact E_FUNC
    · exact E_SERVICE
    · exact E_PRINCIPAL
    · exact E_FUTURE
  obtain ⟨n, o, h1, h2, h3, _, L, rfl, ⟨rfl, N⟩, hq⟩ := rm0 l s _ hw tables_1 i0 (own_A a_NULL a_BOOL a_NAT a_INT a_NAT8 a_NAT16 a_NAT32 a_NAT64 a_INT8 a_INT16 a_INT32 a_INT64 a_FLOAT32 a_FLOAT64 a_TEXT a_RESERVED a_EMPTY a_OPT a_VEC a_RECORD a_VARIANT a_FUNC a_SERVICE a_PRINCIPAL a_FUTURE) s.heap s.heap.size (Old.start s) S_NULL S_BOOL S_NAT S_INT S_NAT8 S_NAT16 S_NAT32 S_NAT64 S_INT8 S_INT16 S_INT32 S_INT64 S_FLOAT32 S_FLOAT64 S_TEXT S_RESERVED S_EMPTY S_OPT S_VEC S_RECORD S_VARIANT S_FUNC S_SERVICE S_PRINCIPAL S_FUTURE hE F_NULL_bits F_BOOL_bits F_NAT8_bits F_NAT16_bits F_NAT32_bits F_NAT64_bits F_INT8_bits F_INT16_bits F_INT32_bits F_INT64_bits F_FLOAT32_bits F_FLOAT64_bits F_TEXT_bits F_RESERVED_bits F_EMPTY_bits F_OPT_bits F_VEC_bits F_RECORD_bits F_VARIANT_bits F_FUNC_bits F_SERVICE_bits F_PRINCIPAL_bits F_FUTURE_bits (F_INT_ordinal.ne F_NAT_ordinal (by decide)) (F_NULL_ordinal.ne F_NAT_ordinal (by decide)) (F_NULL_ordinal.ne F_INT_ordinal (by decide)) (F_BOOL_ordinal.ne F_NAT_ordinal (by decide)) (F_BOOL_ordinal.ne F_INT_ordinal (by decide)) (F_NAT8_ordinal.ne F_NAT_ordinal (by decide)) (F_NAT8_ordinal.ne F_INT_ordinal (by decide)) (F_NAT16_ordinal.ne F_NAT_ordinal (by decide)) (F_NAT16_ordinal.ne F_INT_ordinal (by decide)) (F_NAT32_ordinal.ne F_NAT_ordinal (by decide)) (F_NAT32_ordinal.ne F_INT_ordinal (by decide)) (F_NAT64_ordinal.ne F_NAT_ordinal (by decide)) (F_NAT64_ordinal.ne F_INT_ordinal (by decide)) (F_INT8_ordinal.ne F_NAT_ordinal (by decide)) (F_INT8_ordinal.ne F_INT_ordinal (by decide)) (F_INT16_ordinal.ne F_NAT_ordinal (by decide)) (F_INT16_ordinal.ne F_INT_ordinal (by decide)) (F_INT32_ordinal.ne F_NAT_ordinal (by decide)) (F_INT32_ordinal.ne F_INT_ordinal (by decide)) (F_INT64_ordinal.ne F_NAT_ordinal (by decide)) (F_INT64_ordinal.ne F_INT_ordinal (by decide)) (F_FLOAT32_ordinal.ne F_NAT_ordinal (by decide)) (F_FLOAT32_ordinal.ne F_INT_ordinal (by decide)) (F_FLOAT64_ordinal.ne F_NAT_ordinal (by decide)) (F_FLOAT64_ordinal.ne F_INT_ordinal (by decide)) (F_TEXT_ordinal.ne F_NAT_ordinal (by decide)) (F_TEXT_ordinal.ne F_INT_ordinal (by decide)) (F_RESERVED_ordinal.ne F_NAT_ordinal (by decide)) (F_RESERVED_ordinal.ne F_INT_ordinal (by decide)) (F_EMPTY_ordinal.ne F_NAT_ordinal (by decide)) (F_EMPTY_ordinal.ne F_INT_ordinal (by decide)) (F_OPT_ordinal.ne F_NAT_ordinal (by decide)) (F_OPT_ordinal.ne F_INT_ordinal (by decide)) (F_VEC_ordinal.ne F_NAT_ordinal (by decide)) (F_VEC_ordinal.ne F_INT_ordinal (by decide)) (F_RECORD_ordinal.ne F_NAT_ordinal (by decide)) (F_RECORD_ordinal.ne F_INT_ordinal (by decide)) (F_VARIANT_ordinal.ne F_NAT_ordinal (by decide)) (F_VARIANT_ordinal.ne F_INT_ordinal (by decide)) (F_FUNC_ordinal.ne F_NAT_ordinal (by decide)) (F_FUNC_ordinal.ne F_INT_ordinal (by decide)) (F_SERVICE_ordinal.ne F_NAT_ordinal (by decide)) (F_SERVICE_ordinal.ne F_INT_ordinal (by decide)) (F_PRINCIPAL_ordinal.ne F_NAT_ordinal (by decide)) (F_PRINCIPAL_ordinal.ne F_INT_ordinal (by decide)) (F_FUTURE_ordinal.ne F_NAT_ordinal (by decide)) (F_FUTURE_ordinal.ne F_INT_ordinal (by decide)) p e ha hc hk s m _ below hf ((Spec.applies_iff_loose hf).mp happ).1 ⟨rfl, State.Warmed39.refl s, rfl⟩ trivial
  refine ⟨n, _, h1, h2, h3, hpost _ _ _ _ _ _ ⟨Cond.after_iff.mpr rfl, Cond.after_iff.mpr (eq_i res_at (Term.int_eval (1)) rfl), trivial⟩ ⟨hq.1, hq.2.1, (hq.2.2.sift fun y hy => Or.inr (N y hy)).mono (by decide) (by decide)⟩⟩
theorem main_1_1 : Claimed_1_1 := comes_1 fun _ _ _ _ _ _ h hF => ⟨h.1, hF⟩
theorem main_1_2 : Claimed_1_2 := comes_1 fun _ _ _ _ _ _ h hF => ⟨h.2.1, hF⟩
end Jvm.Pilot.@@N@@
namespace Jvm.Pilot.@@N@@
open Jvm Jvm.ClassFile Sem Op Lib Jvm.Free Jvm.Stand Jvm.Pilot.@@N@@.Jvm.D
/-! MADE BY PROGRAM (witnessworld.py) out of the Statement's table words and the real class files: 12 classes; the members and pool entries that the words name. The judged class is class 1, her method 1. -/
namespace start1
open Jvm.ClassFile
def u (s : String) : CpInfo := .utf8 (stringToUtf16 s)
/-- a pool by its gaps: so many unusable entries, then the entry; so many at the end -/
def gap : Nat → List CpInfo → List CpInfo
  | 0, r => r
  | n + 1, r => .unusable :: gap n r
def poolList (es : List (Nat × CpInfo)) (last : Nat) : List CpInfo := es.foldr (fun e r => gap e.1 (e.2 :: r)) (gap last [])
def pool (es : List (Nat × CpInfo)) (last : Nat) : Array CpInfo := ⟨poolList es last⟩
def fileOf (pool : Array CpInfo) (this : Nat) (attrs : Array Attribute := #[]) (ms : Array MethodInfo := #[]) (fl : Nat := 33) (sup : Nat := 0) (ifs : Array Nat := #[]) (fds : Array FieldInfo := #[]) : ClassFile where
  minorVersion := 0
  majorVersion := 65
  constantPool := pool
  accessFlags := fl
  thisClass := this
  superClass := sup
  interfaces := ifs
  fields := fds
  methods := ms
  attributes := attrs
def plain (name : String) (sup : Option ClassId) : Class where
  name := name
  kind := .ordinary
  loader := none
  accessFlags := 33
  super := sup
  interfaces := #[]
  cf := none
  fields := #[]
  methods := #[]
  instanceTypes := #[]
  staticTypes := #[]
  resolved := #[]
  callSites := []
  init := .initialized
  statics := none
  mirror := none

def pool0 : Array CpInfo := pool [(5, u "<init>"), (0, u "()V"), (1, .class_ 10), (1, u "java/lang/Object")] 113

def k0m0 : Method := { name := "<init>", desc := "()V", sig := { parameters := [], returnType := none }, accessFlags := 1, code := none }
/-- java/lang/Object -/
def k0 : Class := { plain "java/lang/Object" none with
  accessFlags := 33
  interfaces := #[]
  cf := some (fileOf pool0 8 #[] #[{ accessFlags := 1, nameIndex := 5, descriptorIndex := 6, attributes := #[] }] 33 0 #[] #[])
  fields := #[]
  methods := #[k0m0]
  instanceTypes := #[]
  staticTypes := #[]
  resolved := Array.replicate 124 none
  statics := none }

def pool1 : Array CpInfo := pool [(2, .class_ 4), (1, u "java/lang/Object"), (0, u "<init>"), (0, u "()V"), (0, .integer 2147483647), (0, .methodref 9 10), (0, .class_ 11), (0, .nameAndType 12 13), (0, u "com/example/safe_node_calls/safenodecalls/ic/candid/KindIsIntegerPinLaw"), (0, u "kindAt"), (0, u "(I)Lcom/example/safe_node_calls/safenodecalls/ic/candid/CandidType$Kind;"), (0, .methodref 9 15), (0, .nameAndType 16 17), (0, u "isIntegerIndex"), (0, u "(I)Z"), (0, .methodref 19 20), (0, .class_ 21), (0, .nameAndType 22 23), (0, u "com/example/safe_node_calls/safenodecalls/ic/candid/CandidType$Kind"), (0, u "isInteger"), (0, u "()Z"), (0, .fieldref 19 25), (0, .nameAndType 26 27), (0, u "NULL"), (0, u "Lcom/example/safe_node_calls/safenodecalls/ic/candid/CandidType$Kind;"), (0, .fieldref 19 29), (0, .nameAndType 30 27), (0, u "BOOL"), (0, .fieldref 19 32), (0, .nameAndType 33 27), (0, u "NAT"), (0, .fieldref 19 35), (0, .nameAndType 36 27), (0, u "INT"), (0, .fieldref 19 38), (0, .nameAndType 39 27), (0, u "NAT8"), (0, .fieldref 19 41), (0, .nameAndType 42 27), (0, u "NAT16"), (0, .fieldref 19 44), (0, .nameAndType 45 27), (0, u "NAT32"), (0, .fieldref 19 47), (0, .nameAndType 48 27), (0, u "NAT64"), (0, .fieldref 19 50), (0, .nameAndType 51 27), (0, u "INT8"), (0, .fieldref 19 53), (0, .nameAndType 54 27), (0, u "INT16"), (0, .fieldref 19 56), (0, .nameAndType 57 27), (0, u "INT32"), (0, .fieldref 19 59), (0, .nameAndType 60 27), (0, u "INT64"), (0, .fieldref 19 62), (0, .nameAndType 63 27), (0, u "FLOAT32"), (0, .fieldref 19 65), (0, .nameAndType 66 27), (0, u "FLOAT64"), (0, .fieldref 19 68), (0, .nameAndType 69 27), (0, u "TEXT"), (0, .fieldref 19 71), (0, .nameAndType 72 27), (0, u "RESERVED"), (0, .fieldref 19 74), (0, .nameAndType 75 27), (0, u "EMPTY"), (0, .fieldref 19 77), (0, .nameAndType 78 27), (0, u "OPT"), (0, .fieldref 19 80), (0, .nameAndType 81 27), (0, u "VEC"), (0, .fieldref 19 83), (0, .nameAndType 84 27), (0, u "RECORD"), (0, .fieldref 19 86), (0, .nameAndType 87 27), (0, u "VARIANT"), (0, .fieldref 19 89), (0, .nameAndType 90 27), (0, u "FUNC"), (0, .fieldref 19 92), (0, .nameAndType 93 27), (0, u "SERVICE"), (0, .fieldref 19 95), (0, .nameAndType 96 27), (0, u "PRINCIPAL"), (0, .fieldref 19 98), (0, .nameAndType 99 27), (0, u "FUTURE"), (2, u "law")] 7

def k1m0 : Method := { name := "<init>", desc := "()V", sig := { parameters := [], returnType := none }, accessFlags := 2, code := none }
def k1c1 : Code := { maxStack := 2, maxLocals := 4, code := code, exceptionTable := #[], attributes := #[] }
def k1m1 : Method := { name := "law", desc := "(I)Z", sig := { parameters := [.int], returnType := some .boolean }, accessFlags := 9, code := some k1c1 }
def k1c2 : Code := { maxStack := 2, maxLocals := 1, code := method_3_code, exceptionTable := #[], attributes := #[] }
def k1m2 : Method := { name := "isIntegerIndex", desc := "(I)Z", sig := { parameters := [.int], returnType := some .boolean }, accessFlags := 10, code := some k1c2 }
def k1c3 : Code := { maxStack := 2, maxLocals := 1, code := method_4_code, exceptionTable := #[], attributes := #[] }
def k1m3 : Method := { name := "kindAt", desc := "(I)Lcom/example/safe_node_calls/safenodecalls/ic/candid/CandidType$Kind;", sig := { parameters := [.int], returnType := some (.object "com/example/safe_node_calls/safenodecalls/ic/candid/CandidType$Kind") }, accessFlags := 10, code := some k1c3 }
/-- com/example/safe_node_calls/safenodecalls/ic/candid/KindIsIntegerPinLaw -/
def k1 : Class := { plain "com/example/safe_node_calls/safenodecalls/ic/candid/KindIsIntegerPinLaw" (some 0) with
  accessFlags := 49
  interfaces := #[]
  cf := some (fileOf pool1 9 #[] #[{ accessFlags := 2, nameIndex := 5, descriptorIndex := 6, attributes := #[] }, { accessFlags := 9, nameIndex := 102, descriptorIndex := 17, attributes := #[] }, { accessFlags := 10, nameIndex := 16, descriptorIndex := 17, attributes := #[] }, { accessFlags := 10, nameIndex := 12, descriptorIndex := 13, attributes := #[] }] 49 2 #[] #[])
  fields := #[]
  methods := #[k1m0, k1m1, k1m2, k1m3]
  instanceTypes := #[]
  staticTypes := #[]
  resolved := Array.replicate 110 none
  statics := none }

def pool2 : Array CpInfo := pool [(1, .class_ 2), (0, u "java/lang/constant/Constable"), (0, .class_ 4), (0, u "java/lang/Object")] 6

/-- java/lang/constant/Constable -/
def k2 : Class := { plain "java/lang/constant/Constable" (some 0) with
  accessFlags := 1537
  interfaces := #[]
  cf := some (fileOf pool2 1 #[] #[] 1537 3 #[] #[])
  fields := #[]
  methods := #[]
  instanceTypes := #[]
  staticTypes := #[]
  resolved := Array.replicate 11 none
  statics := none }

def pool3 : Array CpInfo := pool [(1, .class_ 2), (0, u "java/lang/Comparable"), (0, .class_ 4), (0, u "java/lang/Object")] 7

/-- java/lang/Comparable -/
def k3 : Class := { plain "java/lang/Comparable" (some 0) with
  accessFlags := 1537
  interfaces := #[]
  cf := some (fileOf pool3 1 #[] #[] 1537 3 #[] #[])
  fields := #[]
  methods := #[]
  instanceTypes := #[]
  staticTypes := #[]
  resolved := Array.replicate 12 none
  statics := none }

def pool4 : Array CpInfo := pool [(1, .class_ 2), (0, u "java/io/Serializable"), (0, .class_ 4), (0, u "java/lang/Object")] 2

/-- java/io/Serializable -/
def k4 : Class := { plain "java/io/Serializable" (some 0) with
  accessFlags := 1537
  interfaces := #[]
  cf := some (fileOf pool4 1 #[] #[] 1537 3 #[] #[])
  fields := #[]
  methods := #[]
  instanceTypes := #[]
  staticTypes := #[]
  resolved := Array.replicate 7 none
  statics := none }

def pool5 : Array CpInfo := pool [(2, .class_ 4), (1, u "java/lang/Enum"), (0, u "name"), (0, u "Ljava/lang/String;"), (2, u "ordinal"), (0, u "I"), (1, .class_ 14), (1, u "java/lang/Object"), (4, u "hash"), (86, .class_ 108), (1, u "java/lang/Enum$EnumDesc"), (2, .class_ 112), (0, u "java/lang/constant/Constable"), (0, .class_ 114), (0, u "java/lang/Comparable"), (0, .class_ 116), (0, u "java/io/Serializable")] 87

/-- java/lang/Enum -/
def k5 : Class := { plain "java/lang/Enum" (some 0) with
  accessFlags := 1057
  interfaces := #[2, 3, 4]
  cf := some (fileOf pool5 2 #[.nestMembers #[106]] #[] 1057 12 #[111, 113, 115] #[{ accessFlags := 18, nameIndex := 5, descriptorIndex := 6, attributes := #[] }, { accessFlags := 18, nameIndex := 9, descriptorIndex := 10, attributes := #[] }, { accessFlags := 2, nameIndex := 19, descriptorIndex := 10, attributes := #[] }])
  fields := #[{ name := "name", type := (.object "java/lang/String"), accessFlags := 18, slot := 0, constantValue := 0 }, { name := "ordinal", type := .int, accessFlags := 18, slot := 1, constantValue := 0 }, { name := "hash", type := .int, accessFlags := 2, slot := 2, constantValue := 0 }]
  methods := #[]
  instanceTypes := #[(.object "java/lang/String"), .int, .int]
  staticTypes := #[]
  resolved := Array.replicate 204 none
  statics := none }

def pool6 : Array CpInfo := pool [(1, .class_ 2), (0, u "com/example/safe_node_calls/safenodecalls/ic/candid/CandidType$Kind"), (2, u "NULL"), (0, u "Lcom/example/safe_node_calls/safenodecalls/ic/candid/CandidType$Kind;"), (2, u "BOOL"), (0, .fieldref 1 11), (0, .nameAndType 12 6), (0, u "NAT"), (0, .fieldref 1 14), (0, .nameAndType 15 6), (0, u "INT"), (2, u "NAT8"), (2, u "NAT16"), (2, u "NAT32"), (2, u "NAT64"), (2, u "INT8"), (2, u "INT16"), (2, u "INT32"), (2, u "INT64"), (2, u "FLOAT32"), (2, u "FLOAT64"), (2, u "TEXT"), (2, u "RESERVED"), (2, u "EMPTY"), (2, u "OPT"), (2, u "VEC"), (2, u "RECORD"), (2, u "VARIANT"), (2, u "FUNC"), (2, u "SERVICE"), (2, u "PRINCIPAL"), (2, u "FUTURE"), (2, u "$VALUES"), (0, u "[Lcom/example/safe_node_calls/safenodecalls/ic/candid/CandidType$Kind;"), (6, .class_ 91), (1, u "java/lang/Enum"), (11, u "opcode"), (0, u "I"), (2, u "keyword"), (0, u "Ljava/lang/String;"), (0, .fieldref 1 110), (0, .nameAndType 111 104), (0, u "bits"), (2, u "signed"), (0, u "Z"), (17, u "BY_OPCODE"), (6, u "BY_KEYWORD"), (0, u "Ljava/util/Map;"), (119, u "()Z"), (4, u "isInteger"), (15, .class_ 283), (0, u "com/example/safe_node_calls/safenodecalls/ic/candid/CandidType")] 2

def k6c0 : Code := { maxStack := 2, maxLocals := 1, code := prog_59_method_12_code, exceptionTable := #[], attributes := #[] }
def k6m0 : Method := { name := "isInteger", desc := "()Z", sig := { parameters := [], returnType := some .boolean }, accessFlags := 0, code := some k6c0 }
/-- com/example/safe_node_calls/safenodecalls/ic/candid/CandidType$Kind -/
def k6 : Class := { plain "com/example/safe_node_calls/safenodecalls/ic/candid/CandidType$Kind" (some 5) with
  accessFlags := 16433
  interfaces := #[]
  cf := some (fileOf pool6 1 #[.nestHost 282] #[{ accessFlags := 0, nameIndex := 266, descriptorIndex := 261, attributes := #[] }] 16433 89 #[] #[{ accessFlags := 16409, nameIndex := 5, descriptorIndex := 6, attributes := #[] }, { accessFlags := 16409, nameIndex := 9, descriptorIndex := 6, attributes := #[] }, { accessFlags := 16409, nameIndex := 12, descriptorIndex := 6, attributes := #[] }, { accessFlags := 16409, nameIndex := 15, descriptorIndex := 6, attributes := #[] }, { accessFlags := 16409, nameIndex := 18, descriptorIndex := 6, attributes := #[] }, { accessFlags := 16409, nameIndex := 21, descriptorIndex := 6, attributes := #[] }, { accessFlags := 16409, nameIndex := 24, descriptorIndex := 6, attributes := #[] }, { accessFlags := 16409, nameIndex := 27, descriptorIndex := 6, attributes := #[] }, { accessFlags := 16409, nameIndex := 30, descriptorIndex := 6, attributes := #[] }, { accessFlags := 16409, nameIndex := 33, descriptorIndex := 6, attributes := #[] }, { accessFlags := 16409, nameIndex := 36, descriptorIndex := 6, attributes := #[] }, { accessFlags := 16409, nameIndex := 39, descriptorIndex := 6, attributes := #[] }, { accessFlags := 16409, nameIndex := 42, descriptorIndex := 6, attributes := #[] }, { accessFlags := 16409, nameIndex := 45, descriptorIndex := 6, attributes := #[] }, { accessFlags := 16409, nameIndex := 48, descriptorIndex := 6, attributes := #[] }, { accessFlags := 16409, nameIndex := 51, descriptorIndex := 6, attributes := #[] }, { accessFlags := 16409, nameIndex := 54, descriptorIndex := 6, attributes := #[] }, { accessFlags := 16409, nameIndex := 57, descriptorIndex := 6, attributes := #[] }, { accessFlags := 16409, nameIndex := 60, descriptorIndex := 6, attributes := #[] }, { accessFlags := 16409, nameIndex := 63, descriptorIndex := 6, attributes := #[] }, { accessFlags := 16409, nameIndex := 66, descriptorIndex := 6, attributes := #[] }, { accessFlags := 16409, nameIndex := 69, descriptorIndex := 6, attributes := #[] }, { accessFlags := 16409, nameIndex := 72, descriptorIndex := 6, attributes := #[] }, { accessFlags := 16409, nameIndex := 75, descriptorIndex := 6, attributes := #[] }, { accessFlags := 16409, nameIndex := 78, descriptorIndex := 6, attributes := #[] }, { accessFlags := 26, nameIndex := 133, descriptorIndex := 82, attributes := #[] }, { accessFlags := 26, nameIndex := 140, descriptorIndex := 141, attributes := #[] }, { accessFlags := 18, nameIndex := 103, descriptorIndex := 104, attributes := #[] }, { accessFlags := 18, nameIndex := 107, descriptorIndex := 108, attributes := #[] }, { accessFlags := 18, nameIndex := 111, descriptorIndex := 104, attributes := #[] }, { accessFlags := 18, nameIndex := 114, descriptorIndex := 115, attributes := #[] }, { accessFlags := 4122, nameIndex := 81, descriptorIndex := 82, attributes := #[] }])
  fields := #[{ name := "NULL", type := (.object "com/example/safe_node_calls/safenodecalls/ic/candid/CandidType$Kind"), accessFlags := 16409, slot := 0, constantValue := 0 }, { name := "BOOL", type := (.object "com/example/safe_node_calls/safenodecalls/ic/candid/CandidType$Kind"), accessFlags := 16409, slot := 1, constantValue := 0 }, { name := "NAT", type := (.object "com/example/safe_node_calls/safenodecalls/ic/candid/CandidType$Kind"), accessFlags := 16409, slot := 2, constantValue := 0 }, { name := "INT", type := (.object "com/example/safe_node_calls/safenodecalls/ic/candid/CandidType$Kind"), accessFlags := 16409, slot := 3, constantValue := 0 }, { name := "NAT8", type := (.object "com/example/safe_node_calls/safenodecalls/ic/candid/CandidType$Kind"), accessFlags := 16409, slot := 4, constantValue := 0 }, { name := "NAT16", type := (.object "com/example/safe_node_calls/safenodecalls/ic/candid/CandidType$Kind"), accessFlags := 16409, slot := 5, constantValue := 0 }, { name := "NAT32", type := (.object "com/example/safe_node_calls/safenodecalls/ic/candid/CandidType$Kind"), accessFlags := 16409, slot := 6, constantValue := 0 }, { name := "NAT64", type := (.object "com/example/safe_node_calls/safenodecalls/ic/candid/CandidType$Kind"), accessFlags := 16409, slot := 7, constantValue := 0 }, { name := "INT8", type := (.object "com/example/safe_node_calls/safenodecalls/ic/candid/CandidType$Kind"), accessFlags := 16409, slot := 8, constantValue := 0 }, { name := "INT16", type := (.object "com/example/safe_node_calls/safenodecalls/ic/candid/CandidType$Kind"), accessFlags := 16409, slot := 9, constantValue := 0 }, { name := "INT32", type := (.object "com/example/safe_node_calls/safenodecalls/ic/candid/CandidType$Kind"), accessFlags := 16409, slot := 10, constantValue := 0 }, { name := "INT64", type := (.object "com/example/safe_node_calls/safenodecalls/ic/candid/CandidType$Kind"), accessFlags := 16409, slot := 11, constantValue := 0 }, { name := "FLOAT32", type := (.object "com/example/safe_node_calls/safenodecalls/ic/candid/CandidType$Kind"), accessFlags := 16409, slot := 12, constantValue := 0 }, { name := "FLOAT64", type := (.object "com/example/safe_node_calls/safenodecalls/ic/candid/CandidType$Kind"), accessFlags := 16409, slot := 13, constantValue := 0 }, { name := "TEXT", type := (.object "com/example/safe_node_calls/safenodecalls/ic/candid/CandidType$Kind"), accessFlags := 16409, slot := 14, constantValue := 0 }, { name := "RESERVED", type := (.object "com/example/safe_node_calls/safenodecalls/ic/candid/CandidType$Kind"), accessFlags := 16409, slot := 15, constantValue := 0 }, { name := "EMPTY", type := (.object "com/example/safe_node_calls/safenodecalls/ic/candid/CandidType$Kind"), accessFlags := 16409, slot := 16, constantValue := 0 }, { name := "OPT", type := (.object "com/example/safe_node_calls/safenodecalls/ic/candid/CandidType$Kind"), accessFlags := 16409, slot := 17, constantValue := 0 }, { name := "VEC", type := (.object "com/example/safe_node_calls/safenodecalls/ic/candid/CandidType$Kind"), accessFlags := 16409, slot := 18, constantValue := 0 }, { name := "RECORD", type := (.object "com/example/safe_node_calls/safenodecalls/ic/candid/CandidType$Kind"), accessFlags := 16409, slot := 19, constantValue := 0 }, { name := "VARIANT", type := (.object "com/example/safe_node_calls/safenodecalls/ic/candid/CandidType$Kind"), accessFlags := 16409, slot := 20, constantValue := 0 }, { name := "FUNC", type := (.object "com/example/safe_node_calls/safenodecalls/ic/candid/CandidType$Kind"), accessFlags := 16409, slot := 21, constantValue := 0 }, { name := "SERVICE", type := (.object "com/example/safe_node_calls/safenodecalls/ic/candid/CandidType$Kind"), accessFlags := 16409, slot := 22, constantValue := 0 }, { name := "PRINCIPAL", type := (.object "com/example/safe_node_calls/safenodecalls/ic/candid/CandidType$Kind"), accessFlags := 16409, slot := 23, constantValue := 0 }, { name := "FUTURE", type := (.object "com/example/safe_node_calls/safenodecalls/ic/candid/CandidType$Kind"), accessFlags := 16409, slot := 24, constantValue := 0 }, { name := "BY_OPCODE", type := (.array (.object "com/example/safe_node_calls/safenodecalls/ic/candid/CandidType$Kind")), accessFlags := 26, slot := 25, constantValue := 0 }, { name := "BY_KEYWORD", type := (.object "java/util/Map"), accessFlags := 26, slot := 26, constantValue := 0 }, { name := "opcode", type := .int, accessFlags := 18, slot := 3, constantValue := 0 }, { name := "keyword", type := (.object "java/lang/String"), accessFlags := 18, slot := 4, constantValue := 0 }, { name := "bits", type := .int, accessFlags := 18, slot := 5, constantValue := 0 }, { name := "signed", type := .boolean, accessFlags := 18, slot := 6, constantValue := 0 }, { name := "$VALUES", type := (.array (.object "com/example/safe_node_calls/safenodecalls/ic/candid/CandidType$Kind")), accessFlags := 4122, slot := 27, constantValue := 0 }]
  methods := #[k6m0]
  instanceTypes := #[(.object "java/lang/String"), .int, .int, .int, (.object "java/lang/String"), .int, .boolean]
  staticTypes := #[(.object "com/example/safe_node_calls/safenodecalls/ic/candid/CandidType$Kind"), (.object "com/example/safe_node_calls/safenodecalls/ic/candid/CandidType$Kind"), (.object "com/example/safe_node_calls/safenodecalls/ic/candid/CandidType$Kind"), (.object "com/example/safe_node_calls/safenodecalls/ic/candid/CandidType$Kind"), (.object "com/example/safe_node_calls/safenodecalls/ic/candid/CandidType$Kind"), (.object "com/example/safe_node_calls/safenodecalls/ic/candid/CandidType$Kind"), (.object "com/example/safe_node_calls/safenodecalls/ic/candid/CandidType$Kind"), (.object "com/example/safe_node_calls/safenodecalls/ic/candid/CandidType$Kind"), (.object "com/example/safe_node_calls/safenodecalls/ic/candid/CandidType$Kind"), (.object "com/example/safe_node_calls/safenodecalls/ic/candid/CandidType$Kind"), (.object "com/example/safe_node_calls/safenodecalls/ic/candid/CandidType$Kind"), (.object "com/example/safe_node_calls/safenodecalls/ic/candid/CandidType$Kind"), (.object "com/example/safe_node_calls/safenodecalls/ic/candid/CandidType$Kind"), (.object "com/example/safe_node_calls/safenodecalls/ic/candid/CandidType$Kind"), (.object "com/example/safe_node_calls/safenodecalls/ic/candid/CandidType$Kind"), (.object "com/example/safe_node_calls/safenodecalls/ic/candid/CandidType$Kind"), (.object "com/example/safe_node_calls/safenodecalls/ic/candid/CandidType$Kind"), (.object "com/example/safe_node_calls/safenodecalls/ic/candid/CandidType$Kind"), (.object "com/example/safe_node_calls/safenodecalls/ic/candid/CandidType$Kind"), (.object "com/example/safe_node_calls/safenodecalls/ic/candid/CandidType$Kind"), (.object "com/example/safe_node_calls/safenodecalls/ic/candid/CandidType$Kind"), (.object "com/example/safe_node_calls/safenodecalls/ic/candid/CandidType$Kind"), (.object "com/example/safe_node_calls/safenodecalls/ic/candid/CandidType$Kind"), (.object "com/example/safe_node_calls/safenodecalls/ic/candid/CandidType$Kind"), (.object "com/example/safe_node_calls/safenodecalls/ic/candid/CandidType$Kind"), (.array (.object "com/example/safe_node_calls/safenodecalls/ic/candid/CandidType$Kind")), (.object "java/util/Map"), (.array (.object "com/example/safe_node_calls/safenodecalls/ic/candid/CandidType$Kind"))]
  resolved := Array.replicate 286 none
  statics := some 0 }

def pool7 : Array CpInfo := pool [(1, u "java/lang/Cloneable"), (0, .class_ 1), (0, u "java/lang/Object"), (0, .class_ 3)] 3

/-- java/lang/Cloneable -/
def k7 : Class := { plain "java/lang/Cloneable" (some 0) with
  accessFlags := 1537
  interfaces := #[]
  cf := some (fileOf pool7 2 #[] #[] 1537 4 #[] #[])
  fields := #[]
  methods := #[]
  instanceTypes := #[]
  staticTypes := #[]
  resolved := Array.replicate 8 none
  statics := none }

/-- the primitive byte -/
def k8 : Class := { plain "byte" none with kind := .primitive 'B', accessFlags := 0x411 }
/-- [B -/
def k9 : Class := { plain "[B" (some 0) with kind := .array 8 .byte, interfaces := #[7, 4], accessFlags := 1041 }

/-- the primitive int -/
def k10 : Class := { plain "int" none with kind := .primitive 'I', accessFlags := 0x411 }
/-- [I -/
def k11 : Class := { plain "[I" (some 0) with kind := .array 10 .int, interfaces := #[7, 4], accessFlags := 1041 }

def heap : Heap := #[{ cls := 6, slots := #[.ref 1, .ref 11, .ref 2, .ref 3, .ref 22, .ref 18, .ref 5, .ref 7, .ref 10, .ref 20, .ref 4, .ref 8, .ref 15, .ref 23, .ref 21, .ref 13, .ref 14, .ref 17, .ref 24, .ref 12, .ref 9, .ref 25, .ref 16, .ref 19, .ref 6, .null, .null, .null], vm := .statics 6 },
  { cls := 6, slots := #[.null, .int 0, .int 0, .int 0, .null, .int 0, .int 0], vm := .none },
  { cls := 6, slots := #[.null, .int 2, .int 0, .int 0, .null, .int 0, .int 0], vm := .none },
  { cls := 6, slots := #[.null, .int 3, .int 0, .int 0, .null, .int 0, .int 0], vm := .none },
  { cls := 6, slots := #[.null, .int 10, .int 0, .int 0, .null, .int 32, .int 0], vm := .none },
  { cls := 6, slots := #[.null, .int 6, .int 0, .int 0, .null, .int 32, .int 0], vm := .none },
  { cls := 6, slots := #[.null, .int 24, .int 0, .int 0, .null, .int 0, .int 0], vm := .none },
  { cls := 6, slots := #[.null, .int 7, .int 0, .int 0, .null, .int 64, .int 0], vm := .none },
  { cls := 6, slots := #[.null, .int 11, .int 0, .int 0, .null, .int 64, .int 0], vm := .none },
  { cls := 6, slots := #[.null, .int 20, .int 0, .int 0, .null, .int 0, .int 0], vm := .none },
  { cls := 6, slots := #[.null, .int 8, .int 0, .int 0, .null, .int 8, .int 0], vm := .none },
  { cls := 6, slots := #[.null, .int 1, .int 0, .int 0, .null, .int 0, .int 0], vm := .none },
  { cls := 6, slots := #[.null, .int 19, .int 0, .int 0, .null, .int 0, .int 0], vm := .none },
  { cls := 6, slots := #[.null, .int 15, .int 0, .int 0, .null, .int 0, .int 0], vm := .none },
  { cls := 6, slots := #[.null, .int 16, .int 0, .int 0, .null, .int 0, .int 0], vm := .none },
  { cls := 6, slots := #[.null, .int 12, .int 0, .int 0, .null, .int 0, .int 0], vm := .none },
  { cls := 6, slots := #[.null, .int 22, .int 0, .int 0, .null, .int 0, .int 0], vm := .none },
  { cls := 6, slots := #[.null, .int 17, .int 0, .int 0, .null, .int 0, .int 0], vm := .none },
  { cls := 6, slots := #[.null, .int 5, .int 0, .int 0, .null, .int 16, .int 0], vm := .none },
  { cls := 6, slots := #[.null, .int 23, .int 0, .int 0, .null, .int 0, .int 0], vm := .none },
  { cls := 6, slots := #[.null, .int 9, .int 0, .int 0, .null, .int 16, .int 0], vm := .none },
  { cls := 6, slots := #[.null, .int 14, .int 0, .int 0, .null, .int 0, .int 0], vm := .none },
  { cls := 6, slots := #[.null, .int 4, .int 0, .int 0, .null, .int 8, .int 0], vm := .none },
  { cls := 6, slots := #[.null, .int 13, .int 0, .int 0, .null, .int 0, .int 0], vm := .none },
  { cls := 6, slots := #[.null, .int 18, .int 0, .int 0, .null, .int 0, .int 0], vm := .none },
  { cls := 6, slots := #[.null, .int 21, .int 0, .int 0, .null, .int 0, .int 0], vm := .none }]
def classes : Array Class := #[k0, k1, k2, k3, k4, k5, k6, k7, k8, k9, k10, k11]
def interned : List (Array UInt16 × Addr) := []
def slotsUsed : Nat := 203
def theMethod : MethodId := ⟨1, 1⟩
def args0 : Array Value := #[.int 5]
def aboutOver (below : List Frame) : State where
  vm := { classes := classes, interned := interned.toArray }
  heap := heap
  slotsUsed := slotsUsed
  threads := #[{ frames := .invoking theMethod args0 :: below }]
def below0 : List Frame := [.native { method := ⟨0, 0⟩, args := #[] }]
def about1 : State := aboutOver below0
def p0 : Program := .bare "" "" ""
def e0 : Env := launch0.env 0 0 0
theorem w_frames : about1.frames = Frame.invoking theMethod args0 :: below0 := rfl
set_option maxRecDepth 65536 in
theorem w_args : argsFit about1.vm theMethod args0 = true := by decide +kernel
set_option maxRecDepth 65536 in
theorem w_heap : heapFits about1 = true := by decide +kernel
set_option maxRecDepth 65536 in
theorem w_runnable : about1.curStatus? = some .runnable := by decide +kernel
set_option maxRecDepth 65536 in
theorem w_alone : about1.alone = true := by decide +kernel
set_option maxRecDepth 65536 in
theorem w_named : about1.methodNamed? x = some theMethod := by decide +kernel
set_option maxRecDepth 65536 in
theorem w_hears : about1.hears theMethod below0 = true := by decide +kernel
set_option maxRecDepth 65536 in
theorem w_ripe : about1.ripe theMethod args0 below0 = true := by decide +kernel
theorem w_running : about1.status = .running := rfl
set_option maxRecDepth 65536 in
theorem w_room : about1.hasRoom e0.platform room_1 = true :=
  launch0.hasRoom_least _ room_1 (by decide +kernel) (by decide +kernel) (by decide +kernel) (by decide +kernel) (by decide +kernel) (by decide +kernel)
theorem allAtoms_all (ts : List Jvm.Cond) (a : Array Jvm.Value) (st : Jvm.State) : (allAtoms ts).before a st = ts.all (fun c => c.before a st) := by
  induction ts with
  | nil => rfl
  | cons c t ih =>
    show (Jvm.Cond.and c (allAtoms t)).before a st = _
    rw [Jvm.Cond.before_and, ih, List.all_cons]
def words1 : List Jvm.Cond := Jvm.Cond.code x code maxLocals ret :: tables_1
/-- a 'code' word, met by the world's own term for the bytes: nothing is compared byte by byte -/
theorem code_word {y : MethodName} {bytes : ByteArray} {mx : Nat} {rt : Option FieldType} {a : Array Value} {s : State} {m : MethodId} {meth : Method} {c : Code} (h1 : s.methodNamed? y = some m) (h2 : s.vm.method? m = some meth) (h3 : meth.code = some c) (h4 : c.code = bytes)
    (h5 : (c.maxLocals == mx && c.exceptionTable.isEmpty && decide (c.maxStack ≤ mostOperands) && decide (meth.sig.returnType = rt) && !meth.locks && decide (parseMethodDescriptor y.desc = some meth.sig)) = true) : (Jvm.Cond.code y bytes mx rt).before a s = true := by
  simp only [Bool.and_eq_true, beq_iff_eq, Bool.not_eq_true', decide_eq_true_eq] at h5
  obtain ⟨⟨⟨⟨⟨g1, g2⟩, g3⟩, g4⟩, g5⟩, g6⟩ := h5
  simp [Cond.before, Cond.holds, Cond.value, h1, h2, h3, h4, g1, g2, g3, g4, g5, g6]
def isCode : Jvm.Cond → Bool
  | .code _ _ _ _ => true
  | _ => false
theorem all_split {L : List Jvm.Cond} {P : Jvm.Cond → Bool} (h1 : L.all (fun c => isCode c || P c) = true) (h2 : ∀ c ∈ L.filter isCode, P c = true) : L.all P = true := by
  refine List.all_eq_true.mpr fun c hc => ?_
  have h := List.all_eq_true.mp h1 c hc
  rcases Bool.eq_false_or_eq_true (isCode c) with hi | hi
  · exact h2 c (List.mem_filter.mpr ⟨hc, hi⟩)
  · simpa [hi] using h
set_option maxRecDepth 65536 in
theorem w_c0 : (Jvm.Cond.code x code maxLocals ret).before args0 about1 = true := code_word (m := ⟨1, 1⟩) (meth := k1m1) (c := k1c1) (by decide +kernel) rfl rfl rfl (by decide +kernel)
set_option maxRecDepth 65536 in
theorem w_c1 : (Jvm.Cond.code ({ cls := "com/example/safe_node_calls/safenodecalls/ic/candid/KindIsIntegerPinLaw", name := "kindAt", desc := "(I)Lcom/example/safe_node_calls/safenodecalls/ic/candid/CandidType$Kind;" } : Jvm.MethodName) method_4_code (1 : Nat) (Option.some (Jvm.ClassFile.FieldType.object "com/example/safe_node_calls/safenodecalls/ic/candid/CandidType$Kind"))).before args0 about1 = true := code_word (m := ⟨1, 3⟩) (meth := k1m3) (c := k1c3) (by decide +kernel) rfl rfl rfl (by decide +kernel)
set_option maxRecDepth 65536 in
theorem w_c2 : (Jvm.Cond.code ({ cls := "com/example/safe_node_calls/safenodecalls/ic/candid/KindIsIntegerPinLaw", name := "isIntegerIndex", desc := "(I)Z" } : Jvm.MethodName) method_3_code (1 : Nat) (Option.some Jvm.ClassFile.FieldType.boolean)).before args0 about1 = true := code_word (m := ⟨1, 2⟩) (meth := k1m2) (c := k1c2) (by decide +kernel) rfl rfl rfl (by decide +kernel)
set_option maxRecDepth 65536 in
theorem w_c3 : (Jvm.Cond.code ({ cls := "com/example/safe_node_calls/safenodecalls/ic/candid/CandidType$Kind", name := "isInteger", desc := "()Z" } : Jvm.MethodName) prog_59_method_12_code (1 : Nat) (Option.some Jvm.ClassFile.FieldType.boolean)).before args0 about1 = true := code_word (m := ⟨6, 0⟩) (meth := k6m0) (c := k6c0) (by decide +kernel) rfl rfl rfl (by decide +kernel)
def codes1 : List Jvm.Cond := [Jvm.Cond.code x code maxLocals ret, Jvm.Cond.code ({ cls := "com/example/safe_node_calls/safenodecalls/ic/candid/KindIsIntegerPinLaw", name := "kindAt", desc := "(I)Lcom/example/safe_node_calls/safenodecalls/ic/candid/CandidType$Kind;" } : Jvm.MethodName) method_4_code (1 : Nat) (Option.some (Jvm.ClassFile.FieldType.object "com/example/safe_node_calls/safenodecalls/ic/candid/CandidType$Kind")), Jvm.Cond.code ({ cls := "com/example/safe_node_calls/safenodecalls/ic/candid/KindIsIntegerPinLaw", name := "isIntegerIndex", desc := "(I)Z" } : Jvm.MethodName) method_3_code (1 : Nat) (Option.some Jvm.ClassFile.FieldType.boolean), Jvm.Cond.code ({ cls := "com/example/safe_node_calls/safenodecalls/ic/candid/CandidType$Kind", name := "isInteger", desc := "()Z" } : Jvm.MethodName) prog_59_method_12_code (1 : Nat) (Option.some Jvm.ClassFile.FieldType.boolean)]
set_option maxRecDepth 65536 in
theorem codes_eq : words1.filter isCode = codes1 := rfl
theorem w_codes : ∀ c ∈ words1.filter isCode, c.before args0 about1 = true := by
  rw [codes_eq]
  intro c hc
  simp only [codes1, List.mem_cons, List.not_mem_nil, or_false] at hc
  rcases hc with rfl | rfl | rfl | rfl
  · exact w_c0
  · exact w_c1
  · exact w_c2
  · exact w_c3
set_option maxRecDepth 65536 in
theorem w_t1 : (words1.take 24).all (fun c => isCode c || c.before args0 about1) = true := by decide +kernel
set_option maxRecDepth 65536 in
theorem w_t2 : ((words1.drop 24).take 24).all (fun c => isCode c || c.before args0 about1) = true := by decide +kernel
set_option maxRecDepth 65536 in
theorem w_t3 : ((words1.drop 24).drop 24).all (fun c => isCode c || c.before args0 about1) = true := by decide +kernel
theorem w_tables : (allAtoms (Jvm.Cond.code x code maxLocals ret :: tables_1)).before args0 about1 = true := by
  rw [allAtoms_all]
  show words1.all (fun c => c.before args0 about1) = true
  refine all_split ?_ w_codes
  rw [← List.take_append_drop 24 words1, List.all_append, w_t1, ← List.take_append_drop 24 (words1.drop 24), List.all_append, w_t2, w_t3]
  rfl
set_option maxRecDepth 65536 in
theorem w_case : (Jvm.Cond.and given_1 narrow_1).before args0 about1 = true := by decide +kernel
theorem w_applies : (headSpec (Jvm.Cond.code x code maxLocals ret :: tables_1) room_1).applies x e0.platform about1 = true :=
  (Spec.applies_iff w_frames).mpr ⟨w_running, w_runnable, w_alone, w_named, w_hears, w_ripe, w_room, w_tables⟩
theorem atStart : AtStart classFile x code maxLocals ret World_1 tables_1 room_1 Calls_1 rest_1 Pre_1 launch0 p0 e0 about1 theMethod args0 below0 :=
  ⟨lists_1, trivial, launch0.admits_env _ _ _, launch0.least_env, fairChoices_fair.cas, fairChoices_fair.clock, w_frames, w_args, w_heap, w_applies, trivial, trivial, w_case⟩
end start1
theorem witness_1 : WitnessClaimed_1 := ⟨start1.p0, start1.e0, start1.about1, start1.theMethod, start1.args0, start1.below0, start1.atStart⟩
end Jvm.Pilot.@@N@@
