import JvmDerived
import JvmDerived.Pilot.@@N@@Statement
import JvmDerived.Pilot.@@N@@Code
set_option linter.unusedVariables false
set_option linter.unusedSimpArgs false
namespace Jvm.Pilot.@@N@@
open Jvm Jvm.ClassFile Sem Op Lib Jvm.Free Jvm.Stand Jvm.LawKit Jvm.RoadKit Bundle Jvm.Pilot.@@N@@.Jvm.D
theorem own_eqi {s : State} {args : Array Value} {t : Term} {k : Int32} (h : (Jvm.Cond.eq t (Term.int k)).value args s none s [] = some true) : t.eval args s none [] s = some (.int k) := by
  obtain ⟨u, v, hu, hv, k1, k2⟩ := cmp_v (Or.inl h)
  obtain rfl : v = .int k := Option.some.inj (hv.symm.trans (Term.int_eval k))
  obtain ⟨z, rfl⟩ := k2
  rw [hu]
  simp [Cond.value, hu, hv] at h
  rw [h]
theorem own_fld {s : State} {args : Array Value} {t : Term} {C n d : String} {k : Int32} {x : Addr} (ev : t.eval args s none [] s = some (.ref x)) (h : (Jvm.Cond.eq (Term.field t C n d) (Term.int k)).value args s none s [] = some true) : Fld s s.heap x C n d (.int k) := by
  have hu := own_eqi h
  rw [fld_at ev] at hu
  exact Fld.start hu
theorem own_nn (k : Int32) : 0 ≤ (k &&& (2147483647 : Int32)).toInt := (c_and k 2147483647 (by decide)).1
theorem own_rem (x y : Int32) (d : Int) (h0 : 0 ≤ x.toInt) (hy : y.toInt = d) : (x % y).toInt = x.toInt % d := (c_irem x y d hy).1 h0
theorem own_mod25 (k : Int32) : ((k &&& (2147483647 : Int32)) % (25 : Int32)) = (0 : Int32) ∨ ((k &&& (2147483647 : Int32)) % (25 : Int32)) = (1 : Int32) ∨ ((k &&& (2147483647 : Int32)) % (25 : Int32)) = (2 : Int32) ∨ ((k &&& (2147483647 : Int32)) % (25 : Int32)) = (3 : Int32) ∨ ((k &&& (2147483647 : Int32)) % (25 : Int32)) = (4 : Int32) ∨ ((k &&& (2147483647 : Int32)) % (25 : Int32)) = (5 : Int32) ∨ ((k &&& (2147483647 : Int32)) % (25 : Int32)) = (6 : Int32) ∨ ((k &&& (2147483647 : Int32)) % (25 : Int32)) = (7 : Int32) ∨ ((k &&& (2147483647 : Int32)) % (25 : Int32)) = (8 : Int32) ∨ ((k &&& (2147483647 : Int32)) % (25 : Int32)) = (9 : Int32) ∨ ((k &&& (2147483647 : Int32)) % (25 : Int32)) = (10 : Int32) ∨ ((k &&& (2147483647 : Int32)) % (25 : Int32)) = (11 : Int32) ∨ ((k &&& (2147483647 : Int32)) % (25 : Int32)) = (12 : Int32) ∨ ((k &&& (2147483647 : Int32)) % (25 : Int32)) = (13 : Int32) ∨ ((k &&& (2147483647 : Int32)) % (25 : Int32)) = (14 : Int32) ∨ ((k &&& (2147483647 : Int32)) % (25 : Int32)) = (15 : Int32) ∨ ((k &&& (2147483647 : Int32)) % (25 : Int32)) = (16 : Int32) ∨ ((k &&& (2147483647 : Int32)) % (25 : Int32)) = (17 : Int32) ∨ ((k &&& (2147483647 : Int32)) % (25 : Int32)) = (18 : Int32) ∨ ((k &&& (2147483647 : Int32)) % (25 : Int32)) = (19 : Int32) ∨ ((k &&& (2147483647 : Int32)) % (25 : Int32)) = (20 : Int32) ∨ ((k &&& (2147483647 : Int32)) % (25 : Int32)) = (21 : Int32) ∨ ((k &&& (2147483647 : Int32)) % (25 : Int32)) = (22 : Int32) ∨ ((k &&& (2147483647 : Int32)) % (25 : Int32)) = (23 : Int32) ∨ ((k &&& (2147483647 : Int32)) % (25 : Int32)) = (24 : Int32) := by
  have h := own_rem (k &&& (2147483647 : Int32)) (25 : Int32) 25 (own_nn k) rfl
  have q : ((k &&& (2147483647 : Int32)) % (25 : Int32)).toInt = 0 ∨ ((k &&& (2147483647 : Int32)) % (25 : Int32)).toInt = 1 ∨ ((k &&& (2147483647 : Int32)) % (25 : Int32)).toInt = 2 ∨ ((k &&& (2147483647 : Int32)) % (25 : Int32)).toInt = 3 ∨ ((k &&& (2147483647 : Int32)) % (25 : Int32)).toInt = 4 ∨ ((k &&& (2147483647 : Int32)) % (25 : Int32)).toInt = 5 ∨ ((k &&& (2147483647 : Int32)) % (25 : Int32)).toInt = 6 ∨ ((k &&& (2147483647 : Int32)) % (25 : Int32)).toInt = 7 ∨ ((k &&& (2147483647 : Int32)) % (25 : Int32)).toInt = 8 ∨ ((k &&& (2147483647 : Int32)) % (25 : Int32)).toInt = 9 ∨ ((k &&& (2147483647 : Int32)) % (25 : Int32)).toInt = 10 ∨ ((k &&& (2147483647 : Int32)) % (25 : Int32)).toInt = 11 ∨ ((k &&& (2147483647 : Int32)) % (25 : Int32)).toInt = 12 ∨ ((k &&& (2147483647 : Int32)) % (25 : Int32)).toInt = 13 ∨ ((k &&& (2147483647 : Int32)) % (25 : Int32)).toInt = 14 ∨ ((k &&& (2147483647 : Int32)) % (25 : Int32)).toInt = 15 ∨ ((k &&& (2147483647 : Int32)) % (25 : Int32)).toInt = 16 ∨ ((k &&& (2147483647 : Int32)) % (25 : Int32)).toInt = 17 ∨ ((k &&& (2147483647 : Int32)) % (25 : Int32)).toInt = 18 ∨ ((k &&& (2147483647 : Int32)) % (25 : Int32)).toInt = 19 ∨ ((k &&& (2147483647 : Int32)) % (25 : Int32)).toInt = 20 ∨ ((k &&& (2147483647 : Int32)) % (25 : Int32)).toInt = 21 ∨ ((k &&& (2147483647 : Int32)) % (25 : Int32)).toInt = 22 ∨ ((k &&& (2147483647 : Int32)) % (25 : Int32)).toInt = 23 ∨ ((k &&& (2147483647 : Int32)) % (25 : Int32)).toInt = 24 := by omega
  rcases q with q | q | q | q | q | q | q | q | q | q | q | q | q | q | q | q | q | q | q | q | q | q | q | q | q
  · exact Or.inl (Int32.toInt_inj.mp (q.trans rfl))
  · exact Or.inr (Or.inl (Int32.toInt_inj.mp (q.trans rfl)))
  · exact Or.inr (Or.inr (Or.inl (Int32.toInt_inj.mp (q.trans rfl))))
  · exact Or.inr (Or.inr (Or.inr (Or.inl (Int32.toInt_inj.mp (q.trans rfl)))))
  · exact Or.inr (Or.inr (Or.inr (Or.inr (Or.inl (Int32.toInt_inj.mp (q.trans rfl))))))
  · exact Or.inr (Or.inr (Or.inr (Or.inr (Or.inr (Or.inl (Int32.toInt_inj.mp (q.trans rfl)))))))
  · exact Or.inr (Or.inr (Or.inr (Or.inr (Or.inr (Or.inr (Or.inl (Int32.toInt_inj.mp (q.trans rfl))))))))
  · exact Or.inr (Or.inr (Or.inr (Or.inr (Or.inr (Or.inr (Or.inr (Or.inl (Int32.toInt_inj.mp (q.trans rfl)))))))))
  · exact Or.inr (Or.inr (Or.inr (Or.inr (Or.inr (Or.inr (Or.inr (Or.inr (Or.inl (Int32.toInt_inj.mp (q.trans rfl))))))))))
  · exact Or.inr (Or.inr (Or.inr (Or.inr (Or.inr (Or.inr (Or.inr (Or.inr (Or.inr (Or.inl (Int32.toInt_inj.mp (q.trans rfl)))))))))))
  · exact Or.inr (Or.inr (Or.inr (Or.inr (Or.inr (Or.inr (Or.inr (Or.inr (Or.inr (Or.inr (Or.inl (Int32.toInt_inj.mp (q.trans rfl))))))))))))
  · exact Or.inr (Or.inr (Or.inr (Or.inr (Or.inr (Or.inr (Or.inr (Or.inr (Or.inr (Or.inr (Or.inr (Or.inl (Int32.toInt_inj.mp (q.trans rfl)))))))))))))
  · exact Or.inr (Or.inr (Or.inr (Or.inr (Or.inr (Or.inr (Or.inr (Or.inr (Or.inr (Or.inr (Or.inr (Or.inr (Or.inl (Int32.toInt_inj.mp (q.trans rfl))))))))))))))
  · exact Or.inr (Or.inr (Or.inr (Or.inr (Or.inr (Or.inr (Or.inr (Or.inr (Or.inr (Or.inr (Or.inr (Or.inr (Or.inr (Or.inl (Int32.toInt_inj.mp (q.trans rfl)))))))))))))))
  · exact Or.inr (Or.inr (Or.inr (Or.inr (Or.inr (Or.inr (Or.inr (Or.inr (Or.inr (Or.inr (Or.inr (Or.inr (Or.inr (Or.inr (Or.inl (Int32.toInt_inj.mp (q.trans rfl))))))))))))))))
  · exact Or.inr (Or.inr (Or.inr (Or.inr (Or.inr (Or.inr (Or.inr (Or.inr (Or.inr (Or.inr (Or.inr (Or.inr (Or.inr (Or.inr (Or.inr (Or.inl (Int32.toInt_inj.mp (q.trans rfl)))))))))))))))))
  · exact Or.inr (Or.inr (Or.inr (Or.inr (Or.inr (Or.inr (Or.inr (Or.inr (Or.inr (Or.inr (Or.inr (Or.inr (Or.inr (Or.inr (Or.inr (Or.inr (Or.inl (Int32.toInt_inj.mp (q.trans rfl))))))))))))))))))
  · exact Or.inr (Or.inr (Or.inr (Or.inr (Or.inr (Or.inr (Or.inr (Or.inr (Or.inr (Or.inr (Or.inr (Or.inr (Or.inr (Or.inr (Or.inr (Or.inr (Or.inr (Or.inl (Int32.toInt_inj.mp (q.trans rfl)))))))))))))))))))
  · exact Or.inr (Or.inr (Or.inr (Or.inr (Or.inr (Or.inr (Or.inr (Or.inr (Or.inr (Or.inr (Or.inr (Or.inr (Or.inr (Or.inr (Or.inr (Or.inr (Or.inr (Or.inr (Or.inl (Int32.toInt_inj.mp (q.trans rfl))))))))))))))))))))
  · exact Or.inr (Or.inr (Or.inr (Or.inr (Or.inr (Or.inr (Or.inr (Or.inr (Or.inr (Or.inr (Or.inr (Or.inr (Or.inr (Or.inr (Or.inr (Or.inr (Or.inr (Or.inr (Or.inr (Or.inl (Int32.toInt_inj.mp (q.trans rfl)))))))))))))))))))))
  · exact Or.inr (Or.inr (Or.inr (Or.inr (Or.inr (Or.inr (Or.inr (Or.inr (Or.inr (Or.inr (Or.inr (Or.inr (Or.inr (Or.inr (Or.inr (Or.inr (Or.inr (Or.inr (Or.inr (Or.inr (Or.inl (Int32.toInt_inj.mp (q.trans rfl))))))))))))))))))))))
  · exact Or.inr (Or.inr (Or.inr (Or.inr (Or.inr (Or.inr (Or.inr (Or.inr (Or.inr (Or.inr (Or.inr (Or.inr (Or.inr (Or.inr (Or.inr (Or.inr (Or.inr (Or.inr (Or.inr (Or.inr (Or.inr (Or.inl (Int32.toInt_inj.mp (q.trans rfl)))))))))))))))))))))))
  · exact Or.inr (Or.inr (Or.inr (Or.inr (Or.inr (Or.inr (Or.inr (Or.inr (Or.inr (Or.inr (Or.inr (Or.inr (Or.inr (Or.inr (Or.inr (Or.inr (Or.inr (Or.inr (Or.inr (Or.inr (Or.inr (Or.inr (Or.inl (Int32.toInt_inj.mp (q.trans rfl))))))))))))))))))))))))
  · exact Or.inr (Or.inr (Or.inr (Or.inr (Or.inr (Or.inr (Or.inr (Or.inr (Or.inr (Or.inr (Or.inr (Or.inr (Or.inr (Or.inr (Or.inr (Or.inr (Or.inr (Or.inr (Or.inr (Or.inr (Or.inr (Or.inr (Or.inr (Or.inl (Int32.toInt_inj.mp (q.trans rfl)))))))))))))))))))))))))
  · exact Or.inr (Or.inr (Or.inr (Or.inr (Or.inr (Or.inr (Or.inr (Or.inr (Or.inr (Or.inr (Or.inr (Or.inr (Or.inr (Or.inr (Or.inr (Or.inr (Or.inr (Or.inr (Or.inr (Or.inr (Or.inr (Or.inr (Or.inr (Or.inr (Int32.toInt_inj.mp (q.trans rfl)))))))))))))))))))))))))
def own_A (x0 x1 x2 x3 x4 x5 x6 x7 x8 x9 x10 x11 x12 x13 x14 x15 x16 x17 x18 x19 x20 x21 x22 x23 x24 : Addr) (c : Int32) : Addr := [x0, x1, x2, x3, x4, x5, x6, x7, x8, x9, x10, x11, x12, x13, x14, x15, x16, x17, x18, x19, x20, x21, x22, x23, x24].getD c.toNatClampNeg 0
def own_f (p : Int32) : Int32 := if p < (17 : Int32) then 0 else if (22 : Int32) < p then 0 else 1
theorem own_fa {p : Int32} (h : p < (17 : Int32)) : own_f p = 0 := if_pos h
theorem own_fb {p : Int32} (h : ¬ (p < (17 : Int32))) (h2 : (22 : Int32) < p) : own_f p = 0 := (if_neg h).trans (if_pos h2)
theorem own_fc {p : Int32} (h : ¬ (p < (17 : Int32))) (h2 : ¬ ((22 : Int32) < p)) : own_f p = 1 := (if_neg h).trans (if_neg h2)
theorem own_in (k : Int32) : ¬ (((k &&& (2147483647 : Int32)) % (25 : Int32)) < 0) ∧ ((k &&& (2147483647 : Int32)) % (25 : Int32)) < (25 : Int32) := by
  rcases own_mod25 k with h | h | h | h | h | h | h | h | h | h | h | h | h | h | h | h | h | h | h | h | h | h | h | h | h <;> rw [h] <;> decide
theorem own_get (A : Int32 → Addr) (p : Int32) (hp : p = (0 : Int32) ∨ p = (1 : Int32) ∨ p = (2 : Int32) ∨ p = (3 : Int32) ∨ p = (4 : Int32) ∨ p = (5 : Int32) ∨ p = (6 : Int32) ∨ p = (7 : Int32) ∨ p = (8 : Int32) ∨ p = (9 : Int32) ∨ p = (10 : Int32) ∨ p = (11 : Int32) ∨ p = (12 : Int32) ∨ p = (13 : Int32) ∨ p = (14 : Int32) ∨ p = (15 : Int32) ∨ p = (16 : Int32) ∨ p = (17 : Int32) ∨ p = (18 : Int32) ∨ p = (19 : Int32) ∨ p = (20 : Int32) ∨ p = (21 : Int32) ∨ p = (22 : Int32) ∨ p = (23 : Int32) ∨ p = (24 : Int32)) : ([.ref (A (0 : Int32)), .ref (A (1 : Int32)), .ref (A (2 : Int32)), .ref (A (3 : Int32)), .ref (A (4 : Int32)), .ref (A (5 : Int32)), .ref (A (6 : Int32)), .ref (A (7 : Int32)), .ref (A (8 : Int32)), .ref (A (9 : Int32)), .ref (A (10 : Int32)), .ref (A (11 : Int32)), .ref (A (12 : Int32)), .ref (A (13 : Int32)), .ref (A (14 : Int32)), .ref (A (15 : Int32)), .ref (A (16 : Int32)), .ref (A (17 : Int32)), .ref (A (18 : Int32)), .ref (A (19 : Int32)), .ref (A (20 : Int32)), .ref (A (21 : Int32)), .ref (A (22 : Int32)), .ref (A (23 : Int32)), .ref (A (24 : Int32))] : List Value).getD p.toNatClampNeg .null = .ref (A p) := by
  rcases hp with rfl | rfl | rfl | rfl | rfl | rfl | rfl | rfl | rfl | rfl | rfl | rfl | rfl | rfl | rfl | rfl | rfl | rfl | rfl | rfl | rfl | rfl | rfl | rfl | rfl <;> rfl
def QK (Z : State) (x : Addr) (r : Int32) (h0 : Heap) (n0 : Nat) (v : Option Value) (h : Heap) (L : List Loc) : Prop := v = some (.int r) ∧ Fr n0 L ∧ h = h0
theorem d1_0 : decode prog_59_method_8_code 0 = .ok (.aload_n 0, 1) := by decide +kernel
theorem d1_1 : decode prog_59_method_8_code 1 = .ok (.getstatic 55, 3) := by decide +kernel
theorem d1_4 : decode prog_59_method_8_code 4 = .ok (.if_acmp .eq 38, 3) := by decide +kernel
theorem d1_42 : decode prog_59_method_8_code 42 = .ok (.iconst 1, 1) := by decide +kernel
theorem d1_43 : decode prog_59_method_8_code 43 = .ok (.goto 4, 3) := by decide +kernel
theorem d1_47 : decode prog_59_method_8_code 47 = .ok (.ireturn, 1) := by decide +kernel
theorem pn_6 : plainName "com/example/safe_node_calls/safenodecalls/ic/candid/CandidType$Kind" = true := by first | (simp [plainName, overriddenIn]; done) | decide +kernel
theorem ef_1_7 (m : MethodId) (x0 : Addr) : entryFrame m #[(.ref x0)] 1 = mkF m 0 #[.val (.ref x0)] [] := by first | (simp [entryFrame, mkF, argsToLocals, Value.category]; done) | rfl
set_option maxRecDepth 65536 in
set_option maxHeartbeats 40000000 in
theorem rmK_OPT (l : Launch) (Z : State) (a0 : Array Value) (hw : ∀ d ∈ tables_1, d.before a0 Z = true) (ws : List Jvm.Cond) (aOPT : Addr) (aVEC : Addr) (aRECORD : Addr) (aVARIANT : Addr) (aFUNC : Addr) (aSERVICE : Addr) (h0 : Heap) (n0 : Nat) (O0 : Old Z n0 h0) (S_OPT : Sta Z Z.heap "com/example/safe_node_calls/safenodecalls/ic/candid/CandidType$Kind" "OPT" "Lcom/example/safe_node_calls/safenodecalls/ic/candid/CandidType$Kind;" (.ref aOPT)) (S_VEC : Sta Z Z.heap "com/example/safe_node_calls/safenodecalls/ic/candid/CandidType$Kind" "VEC" "Lcom/example/safe_node_calls/safenodecalls/ic/candid/CandidType$Kind;" (.ref aVEC)) (S_RECORD : Sta Z Z.heap "com/example/safe_node_calls/safenodecalls/ic/candid/CandidType$Kind" "RECORD" "Lcom/example/safe_node_calls/safenodecalls/ic/candid/CandidType$Kind;" (.ref aRECORD)) (S_VARIANT : Sta Z Z.heap "com/example/safe_node_calls/safenodecalls/ic/candid/CandidType$Kind" "VARIANT" "Lcom/example/safe_node_calls/safenodecalls/ic/candid/CandidType$Kind;" (.ref aVARIANT)) (S_FUNC : Sta Z Z.heap "com/example/safe_node_calls/safenodecalls/ic/candid/CandidType$Kind" "FUNC" "Lcom/example/safe_node_calls/safenodecalls/ic/candid/CandidType$Kind;" (.ref aFUNC)) (S_SERVICE : Sta Z Z.heap "com/example/safe_node_calls/safenodecalls/ic/candid/CandidType$Kind" "SERVICE" "Lcom/example/safe_node_calls/safenodecalls/ic/candid/CandidType$Kind;" (.ref aSERVICE)) :
    MetFree l (⟨"com/example/safe_node_calls/safenodecalls/ic/candid/CandidType$Kind", "isStructured", "()Z"⟩ : MethodName) (head1 (Jvm.Cond.code (⟨"com/example/safe_node_calls/safenodecalls/ic/candid/CandidType$Kind", "isStructured", "()Z"⟩ : MethodName) prog_59_method_8_code 1 (some .boolean) :: ws) ({ frames := 0, cells := 0, slots := 0, locals := 0 } : Room)) (fun a_ U_ => a_ = #[(.ref aOPT)] ∧ Z.Warmed39 U_.vm ∧ U_.heap = h0) (fun _ _ _ _ _ => True) (fun _ U_ o_ U'_ => ∃ v_ L_, o_ = .returned v_ ∧ QK Z aOPT (1 : Int32) h0 n0 v_ U'_.heap L_ ∧ FrameEnd U_ o_ U'_ L_ ({ frames := 0, cells := 0, slots := 0, locals := 0 } : Room).cells ({ frames := 0, cells := 0, slots := 0, locals := 0 } : Room).slots) := by
  refine MetFree.of_bodySF (plainFor_of_name pn_6) hisR ?_
  intro pg ee s mm args below meth cc s₁ Bd hml0 hP hK
  obtain ⟨rfl, hZ, hh⟩ := hP
  have hx := Bd.exec
  have hby := Bd.bytes
  have hml : cc.maxLocals = 1 := hml0
  have hown : s.vm.findClass "com/example/safe_node_calls/safenodecalls/ic/candid/CandidType$Kind" = some mm.cls := findClass_of_methodNamed Bd.named
  have hnm := (name_of_methodNamed Bd.named Bd.method).1
  have X0 : Stand pg l ee ({ frames := 0, cells := 0, slots := 0, locals := 0 } : Room) s mm #[(.ref aOPT)] below meth cc s₁ [] 0 0 := Stand.of_body Bd
  have e0 : s₁.heap = h0 := by rw [← hh, Bd.state]; rfl
  have N0 := Fr.nil n0
  have K0 : Keep h0 h0 ([] : List Addr) := Keep.refl _ _
  have pre0 : ∀ t, Steps pg.tables ee below (s₁.setTop (mkF mm 0 #[.val (.ref aOPT)] [])) t → Steps pg.tables ee below (s₁.setTop (entryFrame mm #[(.ref aOPT)] 1)) t := fun t k => castTop (ef_1_7 mm aOPT) k
  obtain ⟨T1, X1, e1, st1⟩ := getS2 X0 hx hZ hown (host := "") (Or.inl (hw _ (List.mem_of_getElem? (i := 60) rfl))) Via.refl e0 (S_OPT.ext O0.2) (g := (mkF mm 1 #[.val (.ref aOPT)] [(.ref aOPT)])) rfl (hb hby d1_1)
  obtain ⟨fs, hr, hrun, hended, hW, hsame⟩ := X1.leave (v := some (.int (1 : Int32))) (fun h => by rw [Bd.returns] at h; cases h)
  refine ⟨_, _, pre0 _ ?_, hrun, hended, _, _, rfl, ?_, ⟨_, rfl⟩, hW, hsame.mono (by decide) (by decide)⟩
  · show Steps pg.tables ee below (s₁.setTop (mkF mm 0 #[.val (.ref aOPT)] [])) _
    refine XS.aloadN X0.here hx rfl (hb hby d1_0) rfl rfl ?_
    show Steps pg.tables ee below (s₁.setTop (mkF mm 1 #[.val (.ref aOPT)] [(.ref aOPT)])) _
    refine st1 _ ?_
    show Steps pg.tables ee below (T1.setTop (mkF mm 4 #[.val (.ref aOPT)] [(.ref aOPT), (.ref aOPT)])) _
    refine Jvm.RoadKit.acmp (g := (mkF mm 4 #[.val (.ref aOPT)] [(.ref aOPT), (.ref aOPT)])) X1 hx rfl rfl rfl (pc0 := 4) (pc' := 42) (same := true) rfl (hb hby d1_4) rfl (decide_eq_true rfl) (by decide) (by decide) ?_
    show Steps pg.tables ee below (T1.setTop (mkF mm 42 #[.val (.ref aOPT)] [])) _
    refine XS.iconst X1.here hx rfl (hb hby d1_42) ?_
    show Steps pg.tables ee below (T1.setTop (mkF mm 43 #[.val (.ref aOPT)] [(.int (1 : Int32))])) _
    refine XS.goto X1.here hx rfl (pc0 := 43) (pc' := 47) rfl (hb hby d1_43) (by decide) (by decide) ?_
    show Steps pg.tables ee below (T1.setTop (mkF mm 47 #[.val (.ref aOPT)] [(.int (1 : Int32))])) _
    exact retN X1 hx (t := .boolean) Bd.returns (by simp) (hb hby d1_47) hr
  · show QK Z aOPT (1 : Int32) h0 n0 _ T1.heap _
    rw [e1]
    exact ⟨rfl, N0, rfl⟩
theorem d1_7 : decode prog_59_method_8_code 7 = .ok (.aload_n 0, 1) := by decide +kernel
theorem d1_8 : decode prog_59_method_8_code 8 = .ok (.getstatic 58, 3) := by decide +kernel
theorem d1_11 : decode prog_59_method_8_code 11 = .ok (.if_acmp .eq 31, 3) := by decide +kernel
set_option maxRecDepth 65536 in
set_option maxHeartbeats 40000000 in
theorem rmK_VEC (l : Launch) (Z : State) (a0 : Array Value) (hw : ∀ d ∈ tables_1, d.before a0 Z = true) (ws : List Jvm.Cond) (aOPT : Addr) (aVEC : Addr) (aRECORD : Addr) (aVARIANT : Addr) (aFUNC : Addr) (aSERVICE : Addr) (h0 : Heap) (n0 : Nat) (O0 : Old Z n0 h0) (S_OPT : Sta Z Z.heap "com/example/safe_node_calls/safenodecalls/ic/candid/CandidType$Kind" "OPT" "Lcom/example/safe_node_calls/safenodecalls/ic/candid/CandidType$Kind;" (.ref aOPT)) (S_VEC : Sta Z Z.heap "com/example/safe_node_calls/safenodecalls/ic/candid/CandidType$Kind" "VEC" "Lcom/example/safe_node_calls/safenodecalls/ic/candid/CandidType$Kind;" (.ref aVEC)) (S_RECORD : Sta Z Z.heap "com/example/safe_node_calls/safenodecalls/ic/candid/CandidType$Kind" "RECORD" "Lcom/example/safe_node_calls/safenodecalls/ic/candid/CandidType$Kind;" (.ref aRECORD)) (S_VARIANT : Sta Z Z.heap "com/example/safe_node_calls/safenodecalls/ic/candid/CandidType$Kind" "VARIANT" "Lcom/example/safe_node_calls/safenodecalls/ic/candid/CandidType$Kind;" (.ref aVARIANT)) (S_FUNC : Sta Z Z.heap "com/example/safe_node_calls/safenodecalls/ic/candid/CandidType$Kind" "FUNC" "Lcom/example/safe_node_calls/safenodecalls/ic/candid/CandidType$Kind;" (.ref aFUNC)) (S_SERVICE : Sta Z Z.heap "com/example/safe_node_calls/safenodecalls/ic/candid/CandidType$Kind" "SERVICE" "Lcom/example/safe_node_calls/safenodecalls/ic/candid/CandidType$Kind;" (.ref aSERVICE)) (h_OPT : ¬ (aVEC = aOPT)) :
    MetFree l (⟨"com/example/safe_node_calls/safenodecalls/ic/candid/CandidType$Kind", "isStructured", "()Z"⟩ : MethodName) (head1 (Jvm.Cond.code (⟨"com/example/safe_node_calls/safenodecalls/ic/candid/CandidType$Kind", "isStructured", "()Z"⟩ : MethodName) prog_59_method_8_code 1 (some .boolean) :: ws) ({ frames := 0, cells := 0, slots := 0, locals := 0 } : Room)) (fun a_ U_ => a_ = #[(.ref aVEC)] ∧ Z.Warmed39 U_.vm ∧ U_.heap = h0) (fun _ _ _ _ _ => True) (fun _ U_ o_ U'_ => ∃ v_ L_, o_ = .returned v_ ∧ QK Z aVEC (1 : Int32) h0 n0 v_ U'_.heap L_ ∧ FrameEnd U_ o_ U'_ L_ ({ frames := 0, cells := 0, slots := 0, locals := 0 } : Room).cells ({ frames := 0, cells := 0, slots := 0, locals := 0 } : Room).slots) := by
  refine MetFree.of_bodySF (plainFor_of_name pn_6) hisR ?_
  intro pg ee s mm args below meth cc s₁ Bd hml0 hP hK
  obtain ⟨rfl, hZ, hh⟩ := hP
  have hx := Bd.exec
  have hby := Bd.bytes
  have hml : cc.maxLocals = 1 := hml0
  have hown : s.vm.findClass "com/example/safe_node_calls/safenodecalls/ic/candid/CandidType$Kind" = some mm.cls := findClass_of_methodNamed Bd.named
  have hnm := (name_of_methodNamed Bd.named Bd.method).1
  have X0 : Stand pg l ee ({ frames := 0, cells := 0, slots := 0, locals := 0 } : Room) s mm #[(.ref aVEC)] below meth cc s₁ [] 0 0 := Stand.of_body Bd
  have e0 : s₁.heap = h0 := by rw [← hh, Bd.state]; rfl
  have N0 := Fr.nil n0
  have K0 : Keep h0 h0 ([] : List Addr) := Keep.refl _ _
  have pre0 : ∀ t, Steps pg.tables ee below (s₁.setTop (mkF mm 0 #[.val (.ref aVEC)] [])) t → Steps pg.tables ee below (s₁.setTop (entryFrame mm #[(.ref aVEC)] 1)) t := fun t k => castTop (ef_1_7 mm aVEC) k
  obtain ⟨T1, X1, e1, st1⟩ := getS2 X0 hx hZ hown (host := "") (Or.inl (hw _ (List.mem_of_getElem? (i := 60) rfl))) Via.refl e0 (S_OPT.ext O0.2) (g := (mkF mm 1 #[.val (.ref aVEC)] [(.ref aVEC)])) rfl (hb hby d1_1)
  obtain ⟨T2, X2, e2, st2⟩ := getS2 X1 hx hZ hown (host := "") (Or.inl (hw _ (List.mem_of_getElem? (i := 61) rfl))) Via.refl e1 (S_VEC.ext O0.2) (g := (mkF mm 8 #[.val (.ref aVEC)] [(.ref aVEC)])) rfl (hb hby d1_8)
  obtain ⟨fs, hr, hrun, hended, hW, hsame⟩ := X2.leave (v := some (.int (1 : Int32))) (fun h => by rw [Bd.returns] at h; cases h)
  refine ⟨_, _, pre0 _ ?_, hrun, hended, _, _, rfl, ?_, ⟨_, rfl⟩, hW, hsame.mono (by decide) (by decide)⟩
  · show Steps pg.tables ee below (s₁.setTop (mkF mm 0 #[.val (.ref aVEC)] [])) _
    refine XS.aloadN X0.here hx rfl (hb hby d1_0) rfl rfl ?_
    show Steps pg.tables ee below (s₁.setTop (mkF mm 1 #[.val (.ref aVEC)] [(.ref aVEC)])) _
    refine st1 _ ?_
    show Steps pg.tables ee below (T1.setTop (mkF mm 4 #[.val (.ref aVEC)] [(.ref aOPT), (.ref aVEC)])) _
    refine Jvm.RoadKit.acmp (g := (mkF mm 4 #[.val (.ref aVEC)] [(.ref aOPT), (.ref aVEC)])) X1 hx rfl rfl rfl (pc0 := 4) (pc' := 7) (same := false) rfl (hb hby d1_4) rfl (decide_eq_false fun q => h_OPT (Value.ref.inj q)) (by decide) (by decide) ?_
    show Steps pg.tables ee below (T1.setTop (mkF mm 7 #[.val (.ref aVEC)] [])) _
    refine XS.aloadN X1.here hx rfl (hb hby d1_7) rfl rfl ?_
    show Steps pg.tables ee below (T1.setTop (mkF mm 8 #[.val (.ref aVEC)] [(.ref aVEC)])) _
    refine st2 _ ?_
    show Steps pg.tables ee below (T2.setTop (mkF mm 11 #[.val (.ref aVEC)] [(.ref aVEC), (.ref aVEC)])) _
    refine Jvm.RoadKit.acmp (g := (mkF mm 11 #[.val (.ref aVEC)] [(.ref aVEC), (.ref aVEC)])) X2 hx rfl rfl rfl (pc0 := 11) (pc' := 42) (same := true) rfl (hb hby d1_11) rfl (decide_eq_true rfl) (by decide) (by decide) ?_
    show Steps pg.tables ee below (T2.setTop (mkF mm 42 #[.val (.ref aVEC)] [])) _
    refine XS.iconst X2.here hx rfl (hb hby d1_42) ?_
    show Steps pg.tables ee below (T2.setTop (mkF mm 43 #[.val (.ref aVEC)] [(.int (1 : Int32))])) _
    refine XS.goto X2.here hx rfl (pc0 := 43) (pc' := 47) rfl (hb hby d1_43) (by decide) (by decide) ?_
    show Steps pg.tables ee below (T2.setTop (mkF mm 47 #[.val (.ref aVEC)] [(.int (1 : Int32))])) _
    exact retN X2 hx (t := .boolean) Bd.returns (by simp) (hb hby d1_47) hr
  · show QK Z aVEC (1 : Int32) h0 n0 _ T2.heap _
    rw [e2]
    exact ⟨rfl, N0, rfl⟩
theorem d1_14 : decode prog_59_method_8_code 14 = .ok (.aload_n 0, 1) := by decide +kernel
theorem d1_15 : decode prog_59_method_8_code 15 = .ok (.getstatic 61, 3) := by decide +kernel
theorem d1_18 : decode prog_59_method_8_code 18 = .ok (.if_acmp .eq 24, 3) := by decide +kernel
set_option maxRecDepth 65536 in
set_option maxHeartbeats 40000000 in
theorem rmK_RECORD (l : Launch) (Z : State) (a0 : Array Value) (hw : ∀ d ∈ tables_1, d.before a0 Z = true) (ws : List Jvm.Cond) (aOPT : Addr) (aVEC : Addr) (aRECORD : Addr) (aVARIANT : Addr) (aFUNC : Addr) (aSERVICE : Addr) (h0 : Heap) (n0 : Nat) (O0 : Old Z n0 h0) (S_OPT : Sta Z Z.heap "com/example/safe_node_calls/safenodecalls/ic/candid/CandidType$Kind" "OPT" "Lcom/example/safe_node_calls/safenodecalls/ic/candid/CandidType$Kind;" (.ref aOPT)) (S_VEC : Sta Z Z.heap "com/example/safe_node_calls/safenodecalls/ic/candid/CandidType$Kind" "VEC" "Lcom/example/safe_node_calls/safenodecalls/ic/candid/CandidType$Kind;" (.ref aVEC)) (S_RECORD : Sta Z Z.heap "com/example/safe_node_calls/safenodecalls/ic/candid/CandidType$Kind" "RECORD" "Lcom/example/safe_node_calls/safenodecalls/ic/candid/CandidType$Kind;" (.ref aRECORD)) (S_VARIANT : Sta Z Z.heap "com/example/safe_node_calls/safenodecalls/ic/candid/CandidType$Kind" "VARIANT" "Lcom/example/safe_node_calls/safenodecalls/ic/candid/CandidType$Kind;" (.ref aVARIANT)) (S_FUNC : Sta Z Z.heap "com/example/safe_node_calls/safenodecalls/ic/candid/CandidType$Kind" "FUNC" "Lcom/example/safe_node_calls/safenodecalls/ic/candid/CandidType$Kind;" (.ref aFUNC)) (S_SERVICE : Sta Z Z.heap "com/example/safe_node_calls/safenodecalls/ic/candid/CandidType$Kind" "SERVICE" "Lcom/example/safe_node_calls/safenodecalls/ic/candid/CandidType$Kind;" (.ref aSERVICE)) (h_OPT : ¬ (aRECORD = aOPT)) (h_VEC : ¬ (aRECORD = aVEC)) :
    MetFree l (⟨"com/example/safe_node_calls/safenodecalls/ic/candid/CandidType$Kind", "isStructured", "()Z"⟩ : MethodName) (head1 (Jvm.Cond.code (⟨"com/example/safe_node_calls/safenodecalls/ic/candid/CandidType$Kind", "isStructured", "()Z"⟩ : MethodName) prog_59_method_8_code 1 (some .boolean) :: ws) ({ frames := 0, cells := 0, slots := 0, locals := 0 } : Room)) (fun a_ U_ => a_ = #[(.ref aRECORD)] ∧ Z.Warmed39 U_.vm ∧ U_.heap = h0) (fun _ _ _ _ _ => True) (fun _ U_ o_ U'_ => ∃ v_ L_, o_ = .returned v_ ∧ QK Z aRECORD (1 : Int32) h0 n0 v_ U'_.heap L_ ∧ FrameEnd U_ o_ U'_ L_ ({ frames := 0, cells := 0, slots := 0, locals := 0 } : Room).cells ({ frames := 0, cells := 0, slots := 0, locals := 0 } : Room).slots) := by
  refine MetFree.of_bodySF (plainFor_of_name pn_6) hisR ?_
  intro pg ee s mm args below meth cc s₁ Bd hml0 hP hK
  obtain ⟨rfl, hZ, hh⟩ := hP
  have hx := Bd.exec
  have hby := Bd.bytes
  have hml : cc.maxLocals = 1 := hml0
  have hown : s.vm.findClass "com/example/safe_node_calls/safenodecalls/ic/candid/CandidType$Kind" = some mm.cls := findClass_of_methodNamed Bd.named
  have hnm := (name_of_methodNamed Bd.named Bd.method).1
  have X0 : Stand pg l ee ({ frames := 0, cells := 0, slots := 0, locals := 0 } : Room) s mm #[(.ref aRECORD)] below meth cc s₁ [] 0 0 := Stand.of_body Bd
  have e0 : s₁.heap = h0 := by rw [← hh, Bd.state]; rfl
  have N0 := Fr.nil n0
  have K0 : Keep h0 h0 ([] : List Addr) := Keep.refl _ _
  have pre0 : ∀ t, Steps pg.tables ee below (s₁.setTop (mkF mm 0 #[.val (.ref aRECORD)] [])) t → Steps pg.tables ee below (s₁.setTop (entryFrame mm #[(.ref aRECORD)] 1)) t := fun t k => castTop (ef_1_7 mm aRECORD) k
  obtain ⟨T1, X1, e1, st1⟩ := getS2 X0 hx hZ hown (host := "") (Or.inl (hw _ (List.mem_of_getElem? (i := 60) rfl))) Via.refl e0 (S_OPT.ext O0.2) (g := (mkF mm 1 #[.val (.ref aRECORD)] [(.ref aRECORD)])) rfl (hb hby d1_1)
  obtain ⟨T2, X2, e2, st2⟩ := getS2 X1 hx hZ hown (host := "") (Or.inl (hw _ (List.mem_of_getElem? (i := 61) rfl))) Via.refl e1 (S_VEC.ext O0.2) (g := (mkF mm 8 #[.val (.ref aRECORD)] [(.ref aRECORD)])) rfl (hb hby d1_8)
  obtain ⟨T3, X3, e3, st3⟩ := getS2 X2 hx hZ hown (host := "") (Or.inl (hw _ (List.mem_of_getElem? (i := 62) rfl))) Via.refl e2 (S_RECORD.ext O0.2) (g := (mkF mm 15 #[.val (.ref aRECORD)] [(.ref aRECORD)])) rfl (hb hby d1_15)
  obtain ⟨fs, hr, hrun, hended, hW, hsame⟩ := X3.leave (v := some (.int (1 : Int32))) (fun h => by rw [Bd.returns] at h; cases h)
  refine ⟨_, _, pre0 _ ?_, hrun, hended, _, _, rfl, ?_, ⟨_, rfl⟩, hW, hsame.mono (by decide) (by decide)⟩
  · show Steps pg.tables ee below (s₁.setTop (mkF mm 0 #[.val (.ref aRECORD)] [])) _
    refine XS.aloadN X0.here hx rfl (hb hby d1_0) rfl rfl ?_
    show Steps pg.tables ee below (s₁.setTop (mkF mm 1 #[.val (.ref aRECORD)] [(.ref aRECORD)])) _
    refine st1 _ ?_
    show Steps pg.tables ee below (T1.setTop (mkF mm 4 #[.val (.ref aRECORD)] [(.ref aOPT), (.ref aRECORD)])) _
    refine Jvm.RoadKit.acmp (g := (mkF mm 4 #[.val (.ref aRECORD)] [(.ref aOPT), (.ref aRECORD)])) X1 hx rfl rfl rfl (pc0 := 4) (pc' := 7) (same := false) rfl (hb hby d1_4) rfl (decide_eq_false fun q => h_OPT (Value.ref.inj q)) (by decide) (by decide) ?_
    show Steps pg.tables ee below (T1.setTop (mkF mm 7 #[.val (.ref aRECORD)] [])) _
    refine XS.aloadN X1.here hx rfl (hb hby d1_7) rfl rfl ?_
    show Steps pg.tables ee below (T1.setTop (mkF mm 8 #[.val (.ref aRECORD)] [(.ref aRECORD)])) _
    refine st2 _ ?_
    show Steps pg.tables ee below (T2.setTop (mkF mm 11 #[.val (.ref aRECORD)] [(.ref aVEC), (.ref aRECORD)])) _
    refine Jvm.RoadKit.acmp (g := (mkF mm 11 #[.val (.ref aRECORD)] [(.ref aVEC), (.ref aRECORD)])) X2 hx rfl rfl rfl (pc0 := 11) (pc' := 14) (same := false) rfl (hb hby d1_11) rfl (decide_eq_false fun q => h_VEC (Value.ref.inj q)) (by decide) (by decide) ?_
    show Steps pg.tables ee below (T2.setTop (mkF mm 14 #[.val (.ref aRECORD)] [])) _
    refine XS.aloadN X2.here hx rfl (hb hby d1_14) rfl rfl ?_
    show Steps pg.tables ee below (T2.setTop (mkF mm 15 #[.val (.ref aRECORD)] [(.ref aRECORD)])) _
    refine st3 _ ?_
    show Steps pg.tables ee below (T3.setTop (mkF mm 18 #[.val (.ref aRECORD)] [(.ref aRECORD), (.ref aRECORD)])) _
    refine Jvm.RoadKit.acmp (g := (mkF mm 18 #[.val (.ref aRECORD)] [(.ref aRECORD), (.ref aRECORD)])) X3 hx rfl rfl rfl (pc0 := 18) (pc' := 42) (same := true) rfl (hb hby d1_18) rfl (decide_eq_true rfl) (by decide) (by decide) ?_
    show Steps pg.tables ee below (T3.setTop (mkF mm 42 #[.val (.ref aRECORD)] [])) _
    refine XS.iconst X3.here hx rfl (hb hby d1_42) ?_
    show Steps pg.tables ee below (T3.setTop (mkF mm 43 #[.val (.ref aRECORD)] [(.int (1 : Int32))])) _
    refine XS.goto X3.here hx rfl (pc0 := 43) (pc' := 47) rfl (hb hby d1_43) (by decide) (by decide) ?_
    show Steps pg.tables ee below (T3.setTop (mkF mm 47 #[.val (.ref aRECORD)] [(.int (1 : Int32))])) _
    exact retN X3 hx (t := .boolean) Bd.returns (by simp) (hb hby d1_47) hr
  · show QK Z aRECORD (1 : Int32) h0 n0 _ T3.heap _
    rw [e3]
    exact ⟨rfl, N0, rfl⟩
theorem d1_21 : decode prog_59_method_8_code 21 = .ok (.aload_n 0, 1) := by decide +kernel
theorem d1_22 : decode prog_59_method_8_code 22 = .ok (.getstatic 64, 3) := by decide +kernel
theorem d1_25 : decode prog_59_method_8_code 25 = .ok (.if_acmp .eq 17, 3) := by decide +kernel
set_option maxRecDepth 65536 in
set_option maxHeartbeats 40000000 in
theorem rmK_VARIANT (l : Launch) (Z : State) (a0 : Array Value) (hw : ∀ d ∈ tables_1, d.before a0 Z = true) (ws : List Jvm.Cond) (aOPT : Addr) (aVEC : Addr) (aRECORD : Addr) (aVARIANT : Addr) (aFUNC : Addr) (aSERVICE : Addr) (h0 : Heap) (n0 : Nat) (O0 : Old Z n0 h0) (S_OPT : Sta Z Z.heap "com/example/safe_node_calls/safenodecalls/ic/candid/CandidType$Kind" "OPT" "Lcom/example/safe_node_calls/safenodecalls/ic/candid/CandidType$Kind;" (.ref aOPT)) (S_VEC : Sta Z Z.heap "com/example/safe_node_calls/safenodecalls/ic/candid/CandidType$Kind" "VEC" "Lcom/example/safe_node_calls/safenodecalls/ic/candid/CandidType$Kind;" (.ref aVEC)) (S_RECORD : Sta Z Z.heap "com/example/safe_node_calls/safenodecalls/ic/candid/CandidType$Kind" "RECORD" "Lcom/example/safe_node_calls/safenodecalls/ic/candid/CandidType$Kind;" (.ref aRECORD)) (S_VARIANT : Sta Z Z.heap "com/example/safe_node_calls/safenodecalls/ic/candid/CandidType$Kind" "VARIANT" "Lcom/example/safe_node_calls/safenodecalls/ic/candid/CandidType$Kind;" (.ref aVARIANT)) (S_FUNC : Sta Z Z.heap "com/example/safe_node_calls/safenodecalls/ic/candid/CandidType$Kind" "FUNC" "Lcom/example/safe_node_calls/safenodecalls/ic/candid/CandidType$Kind;" (.ref aFUNC)) (S_SERVICE : Sta Z Z.heap "com/example/safe_node_calls/safenodecalls/ic/candid/CandidType$Kind" "SERVICE" "Lcom/example/safe_node_calls/safenodecalls/ic/candid/CandidType$Kind;" (.ref aSERVICE)) (h_OPT : ¬ (aVARIANT = aOPT)) (h_VEC : ¬ (aVARIANT = aVEC)) (h_RECORD : ¬ (aVARIANT = aRECORD)) :
    MetFree l (⟨"com/example/safe_node_calls/safenodecalls/ic/candid/CandidType$Kind", "isStructured", "()Z"⟩ : MethodName) (head1 (Jvm.Cond.code (⟨"com/example/safe_node_calls/safenodecalls/ic/candid/CandidType$Kind", "isStructured", "()Z"⟩ : MethodName) prog_59_method_8_code 1 (some .boolean) :: ws) ({ frames := 0, cells := 0, slots := 0, locals := 0 } : Room)) (fun a_ U_ => a_ = #[(.ref aVARIANT)] ∧ Z.Warmed39 U_.vm ∧ U_.heap = h0) (fun _ _ _ _ _ => True) (fun _ U_ o_ U'_ => ∃ v_ L_, o_ = .returned v_ ∧ QK Z aVARIANT (1 : Int32) h0 n0 v_ U'_.heap L_ ∧ FrameEnd U_ o_ U'_ L_ ({ frames := 0, cells := 0, slots := 0, locals := 0 } : Room).cells ({ frames := 0, cells := 0, slots := 0, locals := 0 } : Room).slots) := by
  refine MetFree.of_bodySF (plainFor_of_name pn_6) hisR ?_
  intro pg ee s mm args below meth cc s₁ Bd hml0 hP hK
  obtain ⟨rfl, hZ, hh⟩ := hP
  have hx := Bd.exec
  have hby := Bd.bytes
  have hml : cc.maxLocals = 1 := hml0
  have hown : s.vm.findClass "com/example/safe_node_calls/safenodecalls/ic/candid/CandidType$Kind" = some mm.cls := findClass_of_methodNamed Bd.named
  have hnm := (name_of_methodNamed Bd.named Bd.method).1
  have X0 : Stand pg l ee ({ frames := 0, cells := 0, slots := 0, locals := 0 } : Room) s mm #[(.ref aVARIANT)] below meth cc s₁ [] 0 0 := Stand.of_body Bd
  have e0 : s₁.heap = h0 := by rw [← hh, Bd.state]; rfl
  have N0 := Fr.nil n0
  have K0 : Keep h0 h0 ([] : List Addr) := Keep.refl _ _
  have pre0 : ∀ t, Steps pg.tables ee below (s₁.setTop (mkF mm 0 #[.val (.ref aVARIANT)] [])) t → Steps pg.tables ee below (s₁.setTop (entryFrame mm #[(.ref aVARIANT)] 1)) t := fun t k => castTop (ef_1_7 mm aVARIANT) k
  obtain ⟨T1, X1, e1, st1⟩ := getS2 X0 hx hZ hown (host := "") (Or.inl (hw _ (List.mem_of_getElem? (i := 60) rfl))) Via.refl e0 (S_OPT.ext O0.2) (g := (mkF mm 1 #[.val (.ref aVARIANT)] [(.ref aVARIANT)])) rfl (hb hby d1_1)
  obtain ⟨T2, X2, e2, st2⟩ := getS2 X1 hx hZ hown (host := "") (Or.inl (hw _ (List.mem_of_getElem? (i := 61) rfl))) Via.refl e1 (S_VEC.ext O0.2) (g := (mkF mm 8 #[.val (.ref aVARIANT)] [(.ref aVARIANT)])) rfl (hb hby d1_8)
  obtain ⟨T3, X3, e3, st3⟩ := getS2 X2 hx hZ hown (host := "") (Or.inl (hw _ (List.mem_of_getElem? (i := 62) rfl))) Via.refl e2 (S_RECORD.ext O0.2) (g := (mkF mm 15 #[.val (.ref aVARIANT)] [(.ref aVARIANT)])) rfl (hb hby d1_15)
  obtain ⟨T4, X4, e4, st4⟩ := getS2 X3 hx hZ hown (host := "") (Or.inl (hw _ (List.mem_of_getElem? (i := 63) rfl))) Via.refl e3 (S_VARIANT.ext O0.2) (g := (mkF mm 22 #[.val (.ref aVARIANT)] [(.ref aVARIANT)])) rfl (hb hby d1_22)
  obtain ⟨fs, hr, hrun, hended, hW, hsame⟩ := X4.leave (v := some (.int (1 : Int32))) (fun h => by rw [Bd.returns] at h; cases h)
  refine ⟨_, _, pre0 _ ?_, hrun, hended, _, _, rfl, ?_, ⟨_, rfl⟩, hW, hsame.mono (by decide) (by decide)⟩
  · show Steps pg.tables ee below (s₁.setTop (mkF mm 0 #[.val (.ref aVARIANT)] [])) _
    refine XS.aloadN X0.here hx rfl (hb hby d1_0) rfl rfl ?_
    show Steps pg.tables ee below (s₁.setTop (mkF mm 1 #[.val (.ref aVARIANT)] [(.ref aVARIANT)])) _
    refine st1 _ ?_
    show Steps pg.tables ee below (T1.setTop (mkF mm 4 #[.val (.ref aVARIANT)] [(.ref aOPT), (.ref aVARIANT)])) _
    refine Jvm.RoadKit.acmp (g := (mkF mm 4 #[.val (.ref aVARIANT)] [(.ref aOPT), (.ref aVARIANT)])) X1 hx rfl rfl rfl (pc0 := 4) (pc' := 7) (same := false) rfl (hb hby d1_4) rfl (decide_eq_false fun q => h_OPT (Value.ref.inj q)) (by decide) (by decide) ?_
    show Steps pg.tables ee below (T1.setTop (mkF mm 7 #[.val (.ref aVARIANT)] [])) _
    refine XS.aloadN X1.here hx rfl (hb hby d1_7) rfl rfl ?_
    show Steps pg.tables ee below (T1.setTop (mkF mm 8 #[.val (.ref aVARIANT)] [(.ref aVARIANT)])) _
    refine st2 _ ?_
    show Steps pg.tables ee below (T2.setTop (mkF mm 11 #[.val (.ref aVARIANT)] [(.ref aVEC), (.ref aVARIANT)])) _
    refine Jvm.RoadKit.acmp (g := (mkF mm 11 #[.val (.ref aVARIANT)] [(.ref aVEC), (.ref aVARIANT)])) X2 hx rfl rfl rfl (pc0 := 11) (pc' := 14) (same := false) rfl (hb hby d1_11) rfl (decide_eq_false fun q => h_VEC (Value.ref.inj q)) (by decide) (by decide) ?_
    show Steps pg.tables ee below (T2.setTop (mkF mm 14 #[.val (.ref aVARIANT)] [])) _
    refine XS.aloadN X2.here hx rfl (hb hby d1_14) rfl rfl ?_
    show Steps pg.tables ee below (T2.setTop (mkF mm 15 #[.val (.ref aVARIANT)] [(.ref aVARIANT)])) _
    refine st3 _ ?_
    show Steps pg.tables ee below (T3.setTop (mkF mm 18 #[.val (.ref aVARIANT)] [(.ref aRECORD), (.ref aVARIANT)])) _
    refine Jvm.RoadKit.acmp (g := (mkF mm 18 #[.val (.ref aVARIANT)] [(.ref aRECORD), (.ref aVARIANT)])) X3 hx rfl rfl rfl (pc0 := 18) (pc' := 21) (same := false) rfl (hb hby d1_18) rfl (decide_eq_false fun q => h_RECORD (Value.ref.inj q)) (by decide) (by decide) ?_
    show Steps pg.tables ee below (T3.setTop (mkF mm 21 #[.val (.ref aVARIANT)] [])) _
    refine XS.aloadN X3.here hx rfl (hb hby d1_21) rfl rfl ?_
    show Steps pg.tables ee below (T3.setTop (mkF mm 22 #[.val (.ref aVARIANT)] [(.ref aVARIANT)])) _
    refine st4 _ ?_
    show Steps pg.tables ee below (T4.setTop (mkF mm 25 #[.val (.ref aVARIANT)] [(.ref aVARIANT), (.ref aVARIANT)])) _
    refine Jvm.RoadKit.acmp (g := (mkF mm 25 #[.val (.ref aVARIANT)] [(.ref aVARIANT), (.ref aVARIANT)])) X4 hx rfl rfl rfl (pc0 := 25) (pc' := 42) (same := true) rfl (hb hby d1_25) rfl (decide_eq_true rfl) (by decide) (by decide) ?_
    show Steps pg.tables ee below (T4.setTop (mkF mm 42 #[.val (.ref aVARIANT)] [])) _
    refine XS.iconst X4.here hx rfl (hb hby d1_42) ?_
    show Steps pg.tables ee below (T4.setTop (mkF mm 43 #[.val (.ref aVARIANT)] [(.int (1 : Int32))])) _
    refine XS.goto X4.here hx rfl (pc0 := 43) (pc' := 47) rfl (hb hby d1_43) (by decide) (by decide) ?_
    show Steps pg.tables ee below (T4.setTop (mkF mm 47 #[.val (.ref aVARIANT)] [(.int (1 : Int32))])) _
    exact retN X4 hx (t := .boolean) Bd.returns (by simp) (hb hby d1_47) hr
  · show QK Z aVARIANT (1 : Int32) h0 n0 _ T4.heap _
    rw [e4]
    exact ⟨rfl, N0, rfl⟩
theorem d1_28 : decode prog_59_method_8_code 28 = .ok (.aload_n 0, 1) := by decide +kernel
theorem d1_29 : decode prog_59_method_8_code 29 = .ok (.getstatic 67, 3) := by decide +kernel
theorem d1_32 : decode prog_59_method_8_code 32 = .ok (.if_acmp .eq 10, 3) := by decide +kernel
set_option maxRecDepth 65536 in
set_option maxHeartbeats 40000000 in
theorem rmK_FUNC (l : Launch) (Z : State) (a0 : Array Value) (hw : ∀ d ∈ tables_1, d.before a0 Z = true) (ws : List Jvm.Cond) (aOPT : Addr) (aVEC : Addr) (aRECORD : Addr) (aVARIANT : Addr) (aFUNC : Addr) (aSERVICE : Addr) (h0 : Heap) (n0 : Nat) (O0 : Old Z n0 h0) (S_OPT : Sta Z Z.heap "com/example/safe_node_calls/safenodecalls/ic/candid/CandidType$Kind" "OPT" "Lcom/example/safe_node_calls/safenodecalls/ic/candid/CandidType$Kind;" (.ref aOPT)) (S_VEC : Sta Z Z.heap "com/example/safe_node_calls/safenodecalls/ic/candid/CandidType$Kind" "VEC" "Lcom/example/safe_node_calls/safenodecalls/ic/candid/CandidType$Kind;" (.ref aVEC)) (S_RECORD : Sta Z Z.heap "com/example/safe_node_calls/safenodecalls/ic/candid/CandidType$Kind" "RECORD" "Lcom/example/safe_node_calls/safenodecalls/ic/candid/CandidType$Kind;" (.ref aRECORD)) (S_VARIANT : Sta Z Z.heap "com/example/safe_node_calls/safenodecalls/ic/candid/CandidType$Kind" "VARIANT" "Lcom/example/safe_node_calls/safenodecalls/ic/candid/CandidType$Kind;" (.ref aVARIANT)) (S_FUNC : Sta Z Z.heap "com/example/safe_node_calls/safenodecalls/ic/candid/CandidType$Kind" "FUNC" "Lcom/example/safe_node_calls/safenodecalls/ic/candid/CandidType$Kind;" (.ref aFUNC)) (S_SERVICE : Sta Z Z.heap "com/example/safe_node_calls/safenodecalls/ic/candid/CandidType$Kind" "SERVICE" "Lcom/example/safe_node_calls/safenodecalls/ic/candid/CandidType$Kind;" (.ref aSERVICE)) (h_OPT : ¬ (aFUNC = aOPT)) (h_VEC : ¬ (aFUNC = aVEC)) (h_RECORD : ¬ (aFUNC = aRECORD)) (h_VARIANT : ¬ (aFUNC = aVARIANT)) :
    MetFree l (⟨"com/example/safe_node_calls/safenodecalls/ic/candid/CandidType$Kind", "isStructured", "()Z"⟩ : MethodName) (head1 (Jvm.Cond.code (⟨"com/example/safe_node_calls/safenodecalls/ic/candid/CandidType$Kind", "isStructured", "()Z"⟩ : MethodName) prog_59_method_8_code 1 (some .boolean) :: ws) ({ frames := 0, cells := 0, slots := 0, locals := 0 } : Room)) (fun a_ U_ => a_ = #[(.ref aFUNC)] ∧ Z.Warmed39 U_.vm ∧ U_.heap = h0) (fun _ _ _ _ _ => True) (fun _ U_ o_ U'_ => ∃ v_ L_, o_ = .returned v_ ∧ QK Z aFUNC (1 : Int32) h0 n0 v_ U'_.heap L_ ∧ FrameEnd U_ o_ U'_ L_ ({ frames := 0, cells := 0, slots := 0, locals := 0 } : Room).cells ({ frames := 0, cells := 0, slots := 0, locals := 0 } : Room).slots) := by
  refine MetFree.of_bodySF (plainFor_of_name pn_6) hisR ?_
  intro pg ee s mm args below meth cc s₁ Bd hml0 hP hK
  obtain ⟨rfl, hZ, hh⟩ := hP
  have hx := Bd.exec
  have hby := Bd.bytes
  have hml : cc.maxLocals = 1 := hml0
  have hown : s.vm.findClass "com/example/safe_node_calls/safenodecalls/ic/candid/CandidType$Kind" = some mm.cls := findClass_of_methodNamed Bd.named
  have hnm := (name_of_methodNamed Bd.named Bd.method).1
  have X0 : Stand pg l ee ({ frames := 0, cells := 0, slots := 0, locals := 0 } : Room) s mm #[(.ref aFUNC)] below meth cc s₁ [] 0 0 := Stand.of_body Bd
  have e0 : s₁.heap = h0 := by rw [← hh, Bd.state]; rfl
  have N0 := Fr.nil n0
  have K0 : Keep h0 h0 ([] : List Addr) := Keep.refl _ _
  have pre0 : ∀ t, Steps pg.tables ee below (s₁.setTop (mkF mm 0 #[.val (.ref aFUNC)] [])) t → Steps pg.tables ee below (s₁.setTop (entryFrame mm #[(.ref aFUNC)] 1)) t := fun t k => castTop (ef_1_7 mm aFUNC) k
  obtain ⟨T1, X1, e1, st1⟩ := getS2 X0 hx hZ hown (host := "") (Or.inl (hw _ (List.mem_of_getElem? (i := 60) rfl))) Via.refl e0 (S_OPT.ext O0.2) (g := (mkF mm 1 #[.val (.ref aFUNC)] [(.ref aFUNC)])) rfl (hb hby d1_1)
  obtain ⟨T2, X2, e2, st2⟩ := getS2 X1 hx hZ hown (host := "") (Or.inl (hw _ (List.mem_of_getElem? (i := 61) rfl))) Via.refl e1 (S_VEC.ext O0.2) (g := (mkF mm 8 #[.val (.ref aFUNC)] [(.ref aFUNC)])) rfl (hb hby d1_8)
  obtain ⟨T3, X3, e3, st3⟩ := getS2 X2 hx hZ hown (host := "") (Or.inl (hw _ (List.mem_of_getElem? (i := 62) rfl))) Via.refl e2 (S_RECORD.ext O0.2) (g := (mkF mm 15 #[.val (.ref aFUNC)] [(.ref aFUNC)])) rfl (hb hby d1_15)
  obtain ⟨T4, X4, e4, st4⟩ := getS2 X3 hx hZ hown (host := "") (Or.inl (hw _ (List.mem_of_getElem? (i := 63) rfl))) Via.refl e3 (S_VARIANT.ext O0.2) (g := (mkF mm 22 #[.val (.ref aFUNC)] [(.ref aFUNC)])) rfl (hb hby d1_22)
  obtain ⟨T5, X5, e5, st5⟩ := getS2 X4 hx hZ hown (host := "") (Or.inl (hw _ (List.mem_of_getElem? (i := 64) rfl))) Via.refl e4 (S_FUNC.ext O0.2) (g := (mkF mm 29 #[.val (.ref aFUNC)] [(.ref aFUNC)])) rfl (hb hby d1_29)
  obtain ⟨fs, hr, hrun, hended, hW, hsame⟩ := X5.leave (v := some (.int (1 : Int32))) (fun h => by rw [Bd.returns] at h; cases h)
  refine ⟨_, _, pre0 _ ?_, hrun, hended, _, _, rfl, ?_, ⟨_, rfl⟩, hW, hsame.mono (by decide) (by decide)⟩
  · show Steps pg.tables ee below (s₁.setTop (mkF mm 0 #[.val (.ref aFUNC)] [])) _
    refine XS.aloadN X0.here hx rfl (hb hby d1_0) rfl rfl ?_
    show Steps pg.tables ee below (s₁.setTop (mkF mm 1 #[.val (.ref aFUNC)] [(.ref aFUNC)])) _
    refine st1 _ ?_
    show Steps pg.tables ee below (T1.setTop (mkF mm 4 #[.val (.ref aFUNC)] [(.ref aOPT), (.ref aFUNC)])) _
    refine Jvm.RoadKit.acmp (g := (mkF mm 4 #[.val (.ref aFUNC)] [(.ref aOPT), (.ref aFUNC)])) X1 hx rfl rfl rfl (pc0 := 4) (pc' := 7) (same := false) rfl (hb hby d1_4) rfl (decide_eq_false fun q => h_OPT (Value.ref.inj q)) (by decide) (by decide) ?_
    show Steps pg.tables ee below (T1.setTop (mkF mm 7 #[.val (.ref aFUNC)] [])) _
    refine XS.aloadN X1.here hx rfl (hb hby d1_7) rfl rfl ?_
    show Steps pg.tables ee below (T1.setTop (mkF mm 8 #[.val (.ref aFUNC)] [(.ref aFUNC)])) _
    refine st2 _ ?_
    show Steps pg.tables ee below (T2.setTop (mkF mm 11 #[.val (.ref aFUNC)] [(.ref aVEC), (.ref aFUNC)])) _
    refine Jvm.RoadKit.acmp (g := (mkF mm 11 #[.val (.ref aFUNC)] [(.ref aVEC), (.ref aFUNC)])) X2 hx rfl rfl rfl (pc0 := 11) (pc' := 14) (same := false) rfl (hb hby d1_11) rfl (decide_eq_false fun q => h_VEC (Value.ref.inj q)) (by decide) (by decide) ?_
    show Steps pg.tables ee below (T2.setTop (mkF mm 14 #[.val (.ref aFUNC)] [])) _
    refine XS.aloadN X2.here hx rfl (hb hby d1_14) rfl rfl ?_
    show Steps pg.tables ee below (T2.setTop (mkF mm 15 #[.val (.ref aFUNC)] [(.ref aFUNC)])) _
    refine st3 _ ?_
    show Steps pg.tables ee below (T3.setTop (mkF mm 18 #[.val (.ref aFUNC)] [(.ref aRECORD), (.ref aFUNC)])) _
    refine Jvm.RoadKit.acmp (g := (mkF mm 18 #[.val (.ref aFUNC)] [(.ref aRECORD), (.ref aFUNC)])) X3 hx rfl rfl rfl (pc0 := 18) (pc' := 21) (same := false) rfl (hb hby d1_18) rfl (decide_eq_false fun q => h_RECORD (Value.ref.inj q)) (by decide) (by decide) ?_
    show Steps pg.tables ee below (T3.setTop (mkF mm 21 #[.val (.ref aFUNC)] [])) _
    refine XS.aloadN X3.here hx rfl (hb hby d1_21) rfl rfl ?_
    show Steps pg.tables ee below (T3.setTop (mkF mm 22 #[.val (.ref aFUNC)] [(.ref aFUNC)])) _
    refine st4 _ ?_
    show Steps pg.tables ee below (T4.setTop (mkF mm 25 #[.val (.ref aFUNC)] [(.ref aVARIANT), (.ref aFUNC)])) _
    refine Jvm.RoadKit.acmp (g := (mkF mm 25 #[.val (.ref aFUNC)] [(.ref aVARIANT), (.ref aFUNC)])) X4 hx rfl rfl rfl (pc0 := 25) (pc' := 28) (same := false) rfl (hb hby d1_25) rfl (decide_eq_false fun q => h_VARIANT (Value.ref.inj q)) (by decide) (by decide) ?_
    show Steps pg.tables ee below (T4.setTop (mkF mm 28 #[.val (.ref aFUNC)] [])) _
    refine XS.aloadN X4.here hx rfl (hb hby d1_28) rfl rfl ?_
    show Steps pg.tables ee below (T4.setTop (mkF mm 29 #[.val (.ref aFUNC)] [(.ref aFUNC)])) _
    refine st5 _ ?_
    show Steps pg.tables ee below (T5.setTop (mkF mm 32 #[.val (.ref aFUNC)] [(.ref aFUNC), (.ref aFUNC)])) _
    refine Jvm.RoadKit.acmp (g := (mkF mm 32 #[.val (.ref aFUNC)] [(.ref aFUNC), (.ref aFUNC)])) X5 hx rfl rfl rfl (pc0 := 32) (pc' := 42) (same := true) rfl (hb hby d1_32) rfl (decide_eq_true rfl) (by decide) (by decide) ?_
    show Steps pg.tables ee below (T5.setTop (mkF mm 42 #[.val (.ref aFUNC)] [])) _
    refine XS.iconst X5.here hx rfl (hb hby d1_42) ?_
    show Steps pg.tables ee below (T5.setTop (mkF mm 43 #[.val (.ref aFUNC)] [(.int (1 : Int32))])) _
    refine XS.goto X5.here hx rfl (pc0 := 43) (pc' := 47) rfl (hb hby d1_43) (by decide) (by decide) ?_
    show Steps pg.tables ee below (T5.setTop (mkF mm 47 #[.val (.ref aFUNC)] [(.int (1 : Int32))])) _
    exact retN X5 hx (t := .boolean) Bd.returns (by simp) (hb hby d1_47) hr
  · show QK Z aFUNC (1 : Int32) h0 n0 _ T5.heap _
    rw [e5]
    exact ⟨rfl, N0, rfl⟩
theorem d1_35 : decode prog_59_method_8_code 35 = .ok (.aload_n 0, 1) := by decide +kernel
theorem d1_36 : decode prog_59_method_8_code 36 = .ok (.getstatic 70, 3) := by decide +kernel
theorem d1_39 : decode prog_59_method_8_code 39 = .ok (.if_acmp .ne 7, 3) := by decide +kernel
set_option maxRecDepth 65536 in
set_option maxHeartbeats 40000000 in
theorem rmK_SERVICE (l : Launch) (Z : State) (a0 : Array Value) (hw : ∀ d ∈ tables_1, d.before a0 Z = true) (ws : List Jvm.Cond) (aOPT : Addr) (aVEC : Addr) (aRECORD : Addr) (aVARIANT : Addr) (aFUNC : Addr) (aSERVICE : Addr) (h0 : Heap) (n0 : Nat) (O0 : Old Z n0 h0) (S_OPT : Sta Z Z.heap "com/example/safe_node_calls/safenodecalls/ic/candid/CandidType$Kind" "OPT" "Lcom/example/safe_node_calls/safenodecalls/ic/candid/CandidType$Kind;" (.ref aOPT)) (S_VEC : Sta Z Z.heap "com/example/safe_node_calls/safenodecalls/ic/candid/CandidType$Kind" "VEC" "Lcom/example/safe_node_calls/safenodecalls/ic/candid/CandidType$Kind;" (.ref aVEC)) (S_RECORD : Sta Z Z.heap "com/example/safe_node_calls/safenodecalls/ic/candid/CandidType$Kind" "RECORD" "Lcom/example/safe_node_calls/safenodecalls/ic/candid/CandidType$Kind;" (.ref aRECORD)) (S_VARIANT : Sta Z Z.heap "com/example/safe_node_calls/safenodecalls/ic/candid/CandidType$Kind" "VARIANT" "Lcom/example/safe_node_calls/safenodecalls/ic/candid/CandidType$Kind;" (.ref aVARIANT)) (S_FUNC : Sta Z Z.heap "com/example/safe_node_calls/safenodecalls/ic/candid/CandidType$Kind" "FUNC" "Lcom/example/safe_node_calls/safenodecalls/ic/candid/CandidType$Kind;" (.ref aFUNC)) (S_SERVICE : Sta Z Z.heap "com/example/safe_node_calls/safenodecalls/ic/candid/CandidType$Kind" "SERVICE" "Lcom/example/safe_node_calls/safenodecalls/ic/candid/CandidType$Kind;" (.ref aSERVICE)) (h_OPT : ¬ (aSERVICE = aOPT)) (h_VEC : ¬ (aSERVICE = aVEC)) (h_RECORD : ¬ (aSERVICE = aRECORD)) (h_VARIANT : ¬ (aSERVICE = aVARIANT)) (h_FUNC : ¬ (aSERVICE = aFUNC)) :
    MetFree l (⟨"com/example/safe_node_calls/safenodecalls/ic/candid/CandidType$Kind", "isStructured", "()Z"⟩ : MethodName) (head1 (Jvm.Cond.code (⟨"com/example/safe_node_calls/safenodecalls/ic/candid/CandidType$Kind", "isStructured", "()Z"⟩ : MethodName) prog_59_method_8_code 1 (some .boolean) :: ws) ({ frames := 0, cells := 0, slots := 0, locals := 0 } : Room)) (fun a_ U_ => a_ = #[(.ref aSERVICE)] ∧ Z.Warmed39 U_.vm ∧ U_.heap = h0) (fun _ _ _ _ _ => True) (fun _ U_ o_ U'_ => ∃ v_ L_, o_ = .returned v_ ∧ QK Z aSERVICE (1 : Int32) h0 n0 v_ U'_.heap L_ ∧ FrameEnd U_ o_ U'_ L_ ({ frames := 0, cells := 0, slots := 0, locals := 0 } : Room).cells ({ frames := 0, cells := 0, slots := 0, locals := 0 } : Room).slots) := by
  refine MetFree.of_bodySF (plainFor_of_name pn_6) hisR ?_
  intro pg ee s mm args below meth cc s₁ Bd hml0 hP hK
  obtain ⟨rfl, hZ, hh⟩ := hP
  have hx := Bd.exec
  have hby := Bd.bytes
  have hml : cc.maxLocals = 1 := hml0
  have hown : s.vm.findClass "com/example/safe_node_calls/safenodecalls/ic/candid/CandidType$Kind" = some mm.cls := findClass_of_methodNamed Bd.named
  have hnm := (name_of_methodNamed Bd.named Bd.method).1
  have X0 : Stand pg l ee ({ frames := 0, cells := 0, slots := 0, locals := 0 } : Room) s mm #[(.ref aSERVICE)] below meth cc s₁ [] 0 0 := Stand.of_body Bd
  have e0 : s₁.heap = h0 := by rw [← hh, Bd.state]; rfl
  have N0 := Fr.nil n0
  have K0 : Keep h0 h0 ([] : List Addr) := Keep.refl _ _
  have pre0 : ∀ t, Steps pg.tables ee below (s₁.setTop (mkF mm 0 #[.val (.ref aSERVICE)] [])) t → Steps pg.tables ee below (s₁.setTop (entryFrame mm #[(.ref aSERVICE)] 1)) t := fun t k => castTop (ef_1_7 mm aSERVICE) k
  obtain ⟨T1, X1, e1, st1⟩ := getS2 X0 hx hZ hown (host := "") (Or.inl (hw _ (List.mem_of_getElem? (i := 60) rfl))) Via.refl e0 (S_OPT.ext O0.2) (g := (mkF mm 1 #[.val (.ref aSERVICE)] [(.ref aSERVICE)])) rfl (hb hby d1_1)
  obtain ⟨T2, X2, e2, st2⟩ := getS2 X1 hx hZ hown (host := "") (Or.inl (hw _ (List.mem_of_getElem? (i := 61) rfl))) Via.refl e1 (S_VEC.ext O0.2) (g := (mkF mm 8 #[.val (.ref aSERVICE)] [(.ref aSERVICE)])) rfl (hb hby d1_8)
  obtain ⟨T3, X3, e3, st3⟩ := getS2 X2 hx hZ hown (host := "") (Or.inl (hw _ (List.mem_of_getElem? (i := 62) rfl))) Via.refl e2 (S_RECORD.ext O0.2) (g := (mkF mm 15 #[.val (.ref aSERVICE)] [(.ref aSERVICE)])) rfl (hb hby d1_15)
  obtain ⟨T4, X4, e4, st4⟩ := getS2 X3 hx hZ hown (host := "") (Or.inl (hw _ (List.mem_of_getElem? (i := 63) rfl))) Via.refl e3 (S_VARIANT.ext O0.2) (g := (mkF mm 22 #[.val (.ref aSERVICE)] [(.ref aSERVICE)])) rfl (hb hby d1_22)
  obtain ⟨T5, X5, e5, st5⟩ := getS2 X4 hx hZ hown (host := "") (Or.inl (hw _ (List.mem_of_getElem? (i := 64) rfl))) Via.refl e4 (S_FUNC.ext O0.2) (g := (mkF mm 29 #[.val (.ref aSERVICE)] [(.ref aSERVICE)])) rfl (hb hby d1_29)
  obtain ⟨T6, X6, e6, st6⟩ := getS2 X5 hx hZ hown (host := "") (Or.inl (hw _ (List.mem_of_getElem? (i := 65) rfl))) Via.refl e5 (S_SERVICE.ext O0.2) (g := (mkF mm 36 #[.val (.ref aSERVICE)] [(.ref aSERVICE)])) rfl (hb hby d1_36)
  obtain ⟨fs, hr, hrun, hended, hW, hsame⟩ := X6.leave (v := some (.int (1 : Int32))) (fun h => by rw [Bd.returns] at h; cases h)
  refine ⟨_, _, pre0 _ ?_, hrun, hended, _, _, rfl, ?_, ⟨_, rfl⟩, hW, hsame.mono (by decide) (by decide)⟩
  · show Steps pg.tables ee below (s₁.setTop (mkF mm 0 #[.val (.ref aSERVICE)] [])) _
    refine XS.aloadN X0.here hx rfl (hb hby d1_0) rfl rfl ?_
    show Steps pg.tables ee below (s₁.setTop (mkF mm 1 #[.val (.ref aSERVICE)] [(.ref aSERVICE)])) _
    refine st1 _ ?_
    show Steps pg.tables ee below (T1.setTop (mkF mm 4 #[.val (.ref aSERVICE)] [(.ref aOPT), (.ref aSERVICE)])) _
    refine Jvm.RoadKit.acmp (g := (mkF mm 4 #[.val (.ref aSERVICE)] [(.ref aOPT), (.ref aSERVICE)])) X1 hx rfl rfl rfl (pc0 := 4) (pc' := 7) (same := false) rfl (hb hby d1_4) rfl (decide_eq_false fun q => h_OPT (Value.ref.inj q)) (by decide) (by decide) ?_
    show Steps pg.tables ee below (T1.setTop (mkF mm 7 #[.val (.ref aSERVICE)] [])) _
    refine XS.aloadN X1.here hx rfl (hb hby d1_7) rfl rfl ?_
    show Steps pg.tables ee below (T1.setTop (mkF mm 8 #[.val (.ref aSERVICE)] [(.ref aSERVICE)])) _
    refine st2 _ ?_
    show Steps pg.tables ee below (T2.setTop (mkF mm 11 #[.val (.ref aSERVICE)] [(.ref aVEC), (.ref aSERVICE)])) _
    refine Jvm.RoadKit.acmp (g := (mkF mm 11 #[.val (.ref aSERVICE)] [(.ref aVEC), (.ref aSERVICE)])) X2 hx rfl rfl rfl (pc0 := 11) (pc' := 14) (same := false) rfl (hb hby d1_11) rfl (decide_eq_false fun q => h_VEC (Value.ref.inj q)) (by decide) (by decide) ?_
    show Steps pg.tables ee below (T2.setTop (mkF mm 14 #[.val (.ref aSERVICE)] [])) _
    refine XS.aloadN X2.here hx rfl (hb hby d1_14) rfl rfl ?_
    show Steps pg.tables ee below (T2.setTop (mkF mm 15 #[.val (.ref aSERVICE)] [(.ref aSERVICE)])) _
    refine st3 _ ?_
    show Steps pg.tables ee below (T3.setTop (mkF mm 18 #[.val (.ref aSERVICE)] [(.ref aRECORD), (.ref aSERVICE)])) _
    refine Jvm.RoadKit.acmp (g := (mkF mm 18 #[.val (.ref aSERVICE)] [(.ref aRECORD), (.ref aSERVICE)])) X3 hx rfl rfl rfl (pc0 := 18) (pc' := 21) (same := false) rfl (hb hby d1_18) rfl (decide_eq_false fun q => h_RECORD (Value.ref.inj q)) (by decide) (by decide) ?_
    show Steps pg.tables ee below (T3.setTop (mkF mm 21 #[.val (.ref aSERVICE)] [])) _
    refine XS.aloadN X3.here hx rfl (hb hby d1_21) rfl rfl ?_
    show Steps pg.tables ee below (T3.setTop (mkF mm 22 #[.val (.ref aSERVICE)] [(.ref aSERVICE)])) _
    refine st4 _ ?_
    show Steps pg.tables ee below (T4.setTop (mkF mm 25 #[.val (.ref aSERVICE)] [(.ref aVARIANT), (.ref aSERVICE)])) _
    refine Jvm.RoadKit.acmp (g := (mkF mm 25 #[.val (.ref aSERVICE)] [(.ref aVARIANT), (.ref aSERVICE)])) X4 hx rfl rfl rfl (pc0 := 25) (pc' := 28) (same := false) rfl (hb hby d1_25) rfl (decide_eq_false fun q => h_VARIANT (Value.ref.inj q)) (by decide) (by decide) ?_
    show Steps pg.tables ee below (T4.setTop (mkF mm 28 #[.val (.ref aSERVICE)] [])) _
    refine XS.aloadN X4.here hx rfl (hb hby d1_28) rfl rfl ?_
    show Steps pg.tables ee below (T4.setTop (mkF mm 29 #[.val (.ref aSERVICE)] [(.ref aSERVICE)])) _
    refine st5 _ ?_
    show Steps pg.tables ee below (T5.setTop (mkF mm 32 #[.val (.ref aSERVICE)] [(.ref aFUNC), (.ref aSERVICE)])) _
    refine Jvm.RoadKit.acmp (g := (mkF mm 32 #[.val (.ref aSERVICE)] [(.ref aFUNC), (.ref aSERVICE)])) X5 hx rfl rfl rfl (pc0 := 32) (pc' := 35) (same := false) rfl (hb hby d1_32) rfl (decide_eq_false fun q => h_FUNC (Value.ref.inj q)) (by decide) (by decide) ?_
    show Steps pg.tables ee below (T5.setTop (mkF mm 35 #[.val (.ref aSERVICE)] [])) _
    refine XS.aloadN X5.here hx rfl (hb hby d1_35) rfl rfl ?_
    show Steps pg.tables ee below (T5.setTop (mkF mm 36 #[.val (.ref aSERVICE)] [(.ref aSERVICE)])) _
    refine st6 _ ?_
    show Steps pg.tables ee below (T6.setTop (mkF mm 39 #[.val (.ref aSERVICE)] [(.ref aSERVICE), (.ref aSERVICE)])) _
    refine Jvm.RoadKit.acmp (g := (mkF mm 39 #[.val (.ref aSERVICE)] [(.ref aSERVICE), (.ref aSERVICE)])) X6 hx rfl rfl rfl (pc0 := 39) (pc' := 42) (same := true) rfl (hb hby d1_39) rfl (decide_eq_true rfl) (by decide) (by decide) ?_
    show Steps pg.tables ee below (T6.setTop (mkF mm 42 #[.val (.ref aSERVICE)] [])) _
    refine XS.iconst X6.here hx rfl (hb hby d1_42) ?_
    show Steps pg.tables ee below (T6.setTop (mkF mm 43 #[.val (.ref aSERVICE)] [(.int (1 : Int32))])) _
    refine XS.goto X6.here hx rfl (pc0 := 43) (pc' := 47) rfl (hb hby d1_43) (by decide) (by decide) ?_
    show Steps pg.tables ee below (T6.setTop (mkF mm 47 #[.val (.ref aSERVICE)] [(.int (1 : Int32))])) _
    exact retN X6 hx (t := .boolean) Bd.returns (by simp) (hb hby d1_47) hr
  · show QK Z aSERVICE (1 : Int32) h0 n0 _ T6.heap _
    rw [e6]
    exact ⟨rfl, N0, rfl⟩
theorem d1_46 : decode prog_59_method_8_code 46 = .ok (.iconst 0, 1) := by decide +kernel
set_option maxRecDepth 65536 in
set_option maxHeartbeats 40000000 in
theorem rmK_n (l : Launch) (Z : State) (a0 : Array Value) (hw : ∀ d ∈ tables_1, d.before a0 Z = true) (ws : List Jvm.Cond) (x : Addr) (aOPT : Addr) (aVEC : Addr) (aRECORD : Addr) (aVARIANT : Addr) (aFUNC : Addr) (aSERVICE : Addr) (h0 : Heap) (n0 : Nat) (O0 : Old Z n0 h0) (S_OPT : Sta Z Z.heap "com/example/safe_node_calls/safenodecalls/ic/candid/CandidType$Kind" "OPT" "Lcom/example/safe_node_calls/safenodecalls/ic/candid/CandidType$Kind;" (.ref aOPT)) (S_VEC : Sta Z Z.heap "com/example/safe_node_calls/safenodecalls/ic/candid/CandidType$Kind" "VEC" "Lcom/example/safe_node_calls/safenodecalls/ic/candid/CandidType$Kind;" (.ref aVEC)) (S_RECORD : Sta Z Z.heap "com/example/safe_node_calls/safenodecalls/ic/candid/CandidType$Kind" "RECORD" "Lcom/example/safe_node_calls/safenodecalls/ic/candid/CandidType$Kind;" (.ref aRECORD)) (S_VARIANT : Sta Z Z.heap "com/example/safe_node_calls/safenodecalls/ic/candid/CandidType$Kind" "VARIANT" "Lcom/example/safe_node_calls/safenodecalls/ic/candid/CandidType$Kind;" (.ref aVARIANT)) (S_FUNC : Sta Z Z.heap "com/example/safe_node_calls/safenodecalls/ic/candid/CandidType$Kind" "FUNC" "Lcom/example/safe_node_calls/safenodecalls/ic/candid/CandidType$Kind;" (.ref aFUNC)) (S_SERVICE : Sta Z Z.heap "com/example/safe_node_calls/safenodecalls/ic/candid/CandidType$Kind" "SERVICE" "Lcom/example/safe_node_calls/safenodecalls/ic/candid/CandidType$Kind;" (.ref aSERVICE)) (h_OPT : ¬ (x = aOPT)) (h_VEC : ¬ (x = aVEC)) (h_RECORD : ¬ (x = aRECORD)) (h_VARIANT : ¬ (x = aVARIANT)) (h_FUNC : ¬ (x = aFUNC)) (h_SERVICE : ¬ (x = aSERVICE)) :
    MetFree l (⟨"com/example/safe_node_calls/safenodecalls/ic/candid/CandidType$Kind", "isStructured", "()Z"⟩ : MethodName) (head1 (Jvm.Cond.code (⟨"com/example/safe_node_calls/safenodecalls/ic/candid/CandidType$Kind", "isStructured", "()Z"⟩ : MethodName) prog_59_method_8_code 1 (some .boolean) :: ws) ({ frames := 0, cells := 0, slots := 0, locals := 0 } : Room)) (fun a_ U_ => a_ = #[(.ref x)] ∧ Z.Warmed39 U_.vm ∧ U_.heap = h0) (fun _ _ _ _ _ => True) (fun _ U_ o_ U'_ => ∃ v_ L_, o_ = .returned v_ ∧ QK Z x (0 : Int32) h0 n0 v_ U'_.heap L_ ∧ FrameEnd U_ o_ U'_ L_ ({ frames := 0, cells := 0, slots := 0, locals := 0 } : Room).cells ({ frames := 0, cells := 0, slots := 0, locals := 0 } : Room).slots) := by
  refine MetFree.of_bodySF (plainFor_of_name pn_6) hisR ?_
  intro pg ee s mm args below meth cc s₁ Bd hml0 hP hK
  obtain ⟨rfl, hZ, hh⟩ := hP
  have hx := Bd.exec
  have hby := Bd.bytes
  have hml : cc.maxLocals = 1 := hml0
  have hown : s.vm.findClass "com/example/safe_node_calls/safenodecalls/ic/candid/CandidType$Kind" = some mm.cls := findClass_of_methodNamed Bd.named
  have hnm := (name_of_methodNamed Bd.named Bd.method).1
  have X0 : Stand pg l ee ({ frames := 0, cells := 0, slots := 0, locals := 0 } : Room) s mm #[(.ref x)] below meth cc s₁ [] 0 0 := Stand.of_body Bd
  have e0 : s₁.heap = h0 := by rw [← hh, Bd.state]; rfl
  have N0 := Fr.nil n0
  have K0 : Keep h0 h0 ([] : List Addr) := Keep.refl _ _
  have pre0 : ∀ t, Steps pg.tables ee below (s₁.setTop (mkF mm 0 #[.val (.ref x)] [])) t → Steps pg.tables ee below (s₁.setTop (entryFrame mm #[(.ref x)] 1)) t := fun t k => castTop (ef_1_7 mm x) k
  obtain ⟨T1, X1, e1, st1⟩ := getS2 X0 hx hZ hown (host := "") (Or.inl (hw _ (List.mem_of_getElem? (i := 60) rfl))) Via.refl e0 (S_OPT.ext O0.2) (g := (mkF mm 1 #[.val (.ref x)] [(.ref x)])) rfl (hb hby d1_1)
  obtain ⟨T2, X2, e2, st2⟩ := getS2 X1 hx hZ hown (host := "") (Or.inl (hw _ (List.mem_of_getElem? (i := 61) rfl))) Via.refl e1 (S_VEC.ext O0.2) (g := (mkF mm 8 #[.val (.ref x)] [(.ref x)])) rfl (hb hby d1_8)
  obtain ⟨T3, X3, e3, st3⟩ := getS2 X2 hx hZ hown (host := "") (Or.inl (hw _ (List.mem_of_getElem? (i := 62) rfl))) Via.refl e2 (S_RECORD.ext O0.2) (g := (mkF mm 15 #[.val (.ref x)] [(.ref x)])) rfl (hb hby d1_15)
  obtain ⟨T4, X4, e4, st4⟩ := getS2 X3 hx hZ hown (host := "") (Or.inl (hw _ (List.mem_of_getElem? (i := 63) rfl))) Via.refl e3 (S_VARIANT.ext O0.2) (g := (mkF mm 22 #[.val (.ref x)] [(.ref x)])) rfl (hb hby d1_22)
  obtain ⟨T5, X5, e5, st5⟩ := getS2 X4 hx hZ hown (host := "") (Or.inl (hw _ (List.mem_of_getElem? (i := 64) rfl))) Via.refl e4 (S_FUNC.ext O0.2) (g := (mkF mm 29 #[.val (.ref x)] [(.ref x)])) rfl (hb hby d1_29)
  obtain ⟨T6, X6, e6, st6⟩ := getS2 X5 hx hZ hown (host := "") (Or.inl (hw _ (List.mem_of_getElem? (i := 65) rfl))) Via.refl e5 (S_SERVICE.ext O0.2) (g := (mkF mm 36 #[.val (.ref x)] [(.ref x)])) rfl (hb hby d1_36)
  obtain ⟨fs, hr, hrun, hended, hW, hsame⟩ := X6.leave (v := some (.int (0 : Int32))) (fun h => by rw [Bd.returns] at h; cases h)
  refine ⟨_, _, pre0 _ ?_, hrun, hended, _, _, rfl, ?_, ⟨_, rfl⟩, hW, hsame.mono (by decide) (by decide)⟩
  · show Steps pg.tables ee below (s₁.setTop (mkF mm 0 #[.val (.ref x)] [])) _
    refine XS.aloadN X0.here hx rfl (hb hby d1_0) rfl rfl ?_
    show Steps pg.tables ee below (s₁.setTop (mkF mm 1 #[.val (.ref x)] [(.ref x)])) _
    refine st1 _ ?_
    show Steps pg.tables ee below (T1.setTop (mkF mm 4 #[.val (.ref x)] [(.ref aOPT), (.ref x)])) _
    refine Jvm.RoadKit.acmp (g := (mkF mm 4 #[.val (.ref x)] [(.ref aOPT), (.ref x)])) X1 hx rfl rfl rfl (pc0 := 4) (pc' := 7) (same := false) rfl (hb hby d1_4) rfl (decide_eq_false fun q => h_OPT (Value.ref.inj q)) (by decide) (by decide) ?_
    show Steps pg.tables ee below (T1.setTop (mkF mm 7 #[.val (.ref x)] [])) _
    refine XS.aloadN X1.here hx rfl (hb hby d1_7) rfl rfl ?_
    show Steps pg.tables ee below (T1.setTop (mkF mm 8 #[.val (.ref x)] [(.ref x)])) _
    refine st2 _ ?_
    show Steps pg.tables ee below (T2.setTop (mkF mm 11 #[.val (.ref x)] [(.ref aVEC), (.ref x)])) _
    refine Jvm.RoadKit.acmp (g := (mkF mm 11 #[.val (.ref x)] [(.ref aVEC), (.ref x)])) X2 hx rfl rfl rfl (pc0 := 11) (pc' := 14) (same := false) rfl (hb hby d1_11) rfl (decide_eq_false fun q => h_VEC (Value.ref.inj q)) (by decide) (by decide) ?_
    show Steps pg.tables ee below (T2.setTop (mkF mm 14 #[.val (.ref x)] [])) _
    refine XS.aloadN X2.here hx rfl (hb hby d1_14) rfl rfl ?_
    show Steps pg.tables ee below (T2.setTop (mkF mm 15 #[.val (.ref x)] [(.ref x)])) _
    refine st3 _ ?_
    show Steps pg.tables ee below (T3.setTop (mkF mm 18 #[.val (.ref x)] [(.ref aRECORD), (.ref x)])) _
    refine Jvm.RoadKit.acmp (g := (mkF mm 18 #[.val (.ref x)] [(.ref aRECORD), (.ref x)])) X3 hx rfl rfl rfl (pc0 := 18) (pc' := 21) (same := false) rfl (hb hby d1_18) rfl (decide_eq_false fun q => h_RECORD (Value.ref.inj q)) (by decide) (by decide) ?_
    show Steps pg.tables ee below (T3.setTop (mkF mm 21 #[.val (.ref x)] [])) _
    refine XS.aloadN X3.here hx rfl (hb hby d1_21) rfl rfl ?_
    show Steps pg.tables ee below (T3.setTop (mkF mm 22 #[.val (.ref x)] [(.ref x)])) _
    refine st4 _ ?_
    show Steps pg.tables ee below (T4.setTop (mkF mm 25 #[.val (.ref x)] [(.ref aVARIANT), (.ref x)])) _
    refine Jvm.RoadKit.acmp (g := (mkF mm 25 #[.val (.ref x)] [(.ref aVARIANT), (.ref x)])) X4 hx rfl rfl rfl (pc0 := 25) (pc' := 28) (same := false) rfl (hb hby d1_25) rfl (decide_eq_false fun q => h_VARIANT (Value.ref.inj q)) (by decide) (by decide) ?_
    show Steps pg.tables ee below (T4.setTop (mkF mm 28 #[.val (.ref x)] [])) _
    refine XS.aloadN X4.here hx rfl (hb hby d1_28) rfl rfl ?_
    show Steps pg.tables ee below (T4.setTop (mkF mm 29 #[.val (.ref x)] [(.ref x)])) _
    refine st5 _ ?_
    show Steps pg.tables ee below (T5.setTop (mkF mm 32 #[.val (.ref x)] [(.ref aFUNC), (.ref x)])) _
    refine Jvm.RoadKit.acmp (g := (mkF mm 32 #[.val (.ref x)] [(.ref aFUNC), (.ref x)])) X5 hx rfl rfl rfl (pc0 := 32) (pc' := 35) (same := false) rfl (hb hby d1_32) rfl (decide_eq_false fun q => h_FUNC (Value.ref.inj q)) (by decide) (by decide) ?_
    show Steps pg.tables ee below (T5.setTop (mkF mm 35 #[.val (.ref x)] [])) _
    refine XS.aloadN X5.here hx rfl (hb hby d1_35) rfl rfl ?_
    show Steps pg.tables ee below (T5.setTop (mkF mm 36 #[.val (.ref x)] [(.ref x)])) _
    refine st6 _ ?_
    show Steps pg.tables ee below (T6.setTop (mkF mm 39 #[.val (.ref x)] [(.ref aSERVICE), (.ref x)])) _
    refine Jvm.RoadKit.acmp (g := (mkF mm 39 #[.val (.ref x)] [(.ref aSERVICE), (.ref x)])) X6 hx rfl rfl rfl (pc0 := 39) (pc' := 46) (same := false) rfl (hb hby d1_39) rfl (decide_eq_false fun q => h_SERVICE (Value.ref.inj q)) (by decide) (by decide) ?_
    show Steps pg.tables ee below (T6.setTop (mkF mm 46 #[.val (.ref x)] [])) _
    refine XS.iconst X6.here hx rfl (hb hby d1_46) ?_
    show Steps pg.tables ee below (T6.setTop (mkF mm 47 #[.val (.ref x)] [(.int (0 : Int32))])) _
    exact retN X6 hx (t := .boolean) Bd.returns (by simp) (hb hby d1_47) hr
  · show QK Z x (0 : Int32) h0 n0 _ T6.heap _
    rw [e6]
    exact ⟨rfl, N0, rfl⟩
set_option maxRecDepth 65536 in
theorem rmK (l : Launch) (Z : State) (a0 : Array Value) (hw : ∀ d ∈ tables_1, d.before a0 Z = true) (ws : List Jvm.Cond) (p : Int32) (A : Int32 → Addr) (h0 : Heap) (n0 : Nat) (O0 : Old Z n0 h0) (hp : p = (0 : Int32) ∨ p = (1 : Int32) ∨ p = (2 : Int32) ∨ p = (3 : Int32) ∨ p = (4 : Int32) ∨ p = (5 : Int32) ∨ p = (6 : Int32) ∨ p = (7 : Int32) ∨ p = (8 : Int32) ∨ p = (9 : Int32) ∨ p = (10 : Int32) ∨ p = (11 : Int32) ∨ p = (12 : Int32) ∨ p = (13 : Int32) ∨ p = (14 : Int32) ∨ p = (15 : Int32) ∨ p = (16 : Int32) ∨ p = (17 : Int32) ∨ p = (18 : Int32) ∨ p = (19 : Int32) ∨ p = (20 : Int32) ∨ p = (21 : Int32) ∨ p = (22 : Int32) ∨ p = (23 : Int32) ∨ p = (24 : Int32)) (S_OPT : Sta Z Z.heap "com/example/safe_node_calls/safenodecalls/ic/candid/CandidType$Kind" "OPT" "Lcom/example/safe_node_calls/safenodecalls/ic/candid/CandidType$Kind;" (.ref (A (17 : Int32)))) (S_VEC : Sta Z Z.heap "com/example/safe_node_calls/safenodecalls/ic/candid/CandidType$Kind" "VEC" "Lcom/example/safe_node_calls/safenodecalls/ic/candid/CandidType$Kind;" (.ref (A (18 : Int32)))) (S_RECORD : Sta Z Z.heap "com/example/safe_node_calls/safenodecalls/ic/candid/CandidType$Kind" "RECORD" "Lcom/example/safe_node_calls/safenodecalls/ic/candid/CandidType$Kind;" (.ref (A (19 : Int32)))) (S_VARIANT : Sta Z Z.heap "com/example/safe_node_calls/safenodecalls/ic/candid/CandidType$Kind" "VARIANT" "Lcom/example/safe_node_calls/safenodecalls/ic/candid/CandidType$Kind;" (.ref (A (20 : Int32)))) (S_FUNC : Sta Z Z.heap "com/example/safe_node_calls/safenodecalls/ic/candid/CandidType$Kind" "FUNC" "Lcom/example/safe_node_calls/safenodecalls/ic/candid/CandidType$Kind;" (.ref (A (21 : Int32)))) (S_SERVICE : Sta Z Z.heap "com/example/safe_node_calls/safenodecalls/ic/candid/CandidType$Kind" "SERVICE" "Lcom/example/safe_node_calls/safenodecalls/ic/candid/CandidType$Kind;" (.ref (A (22 : Int32)))) (n_NULL_OPT : ¬ ((A (0 : Int32)) = (A (17 : Int32)))) (n_NULL_VEC : ¬ ((A (0 : Int32)) = (A (18 : Int32)))) (n_NULL_RECORD : ¬ ((A (0 : Int32)) = (A (19 : Int32)))) (n_NULL_VARIANT : ¬ ((A (0 : Int32)) = (A (20 : Int32)))) (n_NULL_FUNC : ¬ ((A (0 : Int32)) = (A (21 : Int32)))) (n_NULL_SERVICE : ¬ ((A (0 : Int32)) = (A (22 : Int32)))) (n_BOOL_OPT : ¬ ((A (1 : Int32)) = (A (17 : Int32)))) (n_BOOL_VEC : ¬ ((A (1 : Int32)) = (A (18 : Int32)))) (n_BOOL_RECORD : ¬ ((A (1 : Int32)) = (A (19 : Int32)))) (n_BOOL_VARIANT : ¬ ((A (1 : Int32)) = (A (20 : Int32)))) (n_BOOL_FUNC : ¬ ((A (1 : Int32)) = (A (21 : Int32)))) (n_BOOL_SERVICE : ¬ ((A (1 : Int32)) = (A (22 : Int32)))) (n_NAT_OPT : ¬ ((A (2 : Int32)) = (A (17 : Int32)))) (n_NAT_VEC : ¬ ((A (2 : Int32)) = (A (18 : Int32)))) (n_NAT_RECORD : ¬ ((A (2 : Int32)) = (A (19 : Int32)))) (n_NAT_VARIANT : ¬ ((A (2 : Int32)) = (A (20 : Int32)))) (n_NAT_FUNC : ¬ ((A (2 : Int32)) = (A (21 : Int32)))) (n_NAT_SERVICE : ¬ ((A (2 : Int32)) = (A (22 : Int32)))) (n_INT_OPT : ¬ ((A (3 : Int32)) = (A (17 : Int32)))) (n_INT_VEC : ¬ ((A (3 : Int32)) = (A (18 : Int32)))) (n_INT_RECORD : ¬ ((A (3 : Int32)) = (A (19 : Int32)))) (n_INT_VARIANT : ¬ ((A (3 : Int32)) = (A (20 : Int32)))) (n_INT_FUNC : ¬ ((A (3 : Int32)) = (A (21 : Int32)))) (n_INT_SERVICE : ¬ ((A (3 : Int32)) = (A (22 : Int32)))) (n_NAT8_OPT : ¬ ((A (4 : Int32)) = (A (17 : Int32)))) (n_NAT8_VEC : ¬ ((A (4 : Int32)) = (A (18 : Int32)))) (n_NAT8_RECORD : ¬ ((A (4 : Int32)) = (A (19 : Int32)))) (n_NAT8_VARIANT : ¬ ((A (4 : Int32)) = (A (20 : Int32)))) (n_NAT8_FUNC : ¬ ((A (4 : Int32)) = (A (21 : Int32)))) (n_NAT8_SERVICE : ¬ ((A (4 : Int32)) = (A (22 : Int32)))) (n_NAT16_OPT : ¬ ((A (5 : Int32)) = (A (17 : Int32)))) (n_NAT16_VEC : ¬ ((A (5 : Int32)) = (A (18 : Int32)))) (n_NAT16_RECORD : ¬ ((A (5 : Int32)) = (A (19 : Int32)))) (n_NAT16_VARIANT : ¬ ((A (5 : Int32)) = (A (20 : Int32)))) (n_NAT16_FUNC : ¬ ((A (5 : Int32)) = (A (21 : Int32)))) (n_NAT16_SERVICE : ¬ ((A (5 : Int32)) = (A (22 : Int32)))) (n_NAT32_OPT : ¬ ((A (6 : Int32)) = (A (17 : Int32)))) (n_NAT32_VEC : ¬ ((A (6 : Int32)) = (A (18 : Int32)))) (n_NAT32_RECORD : ¬ ((A (6 : Int32)) = (A (19 : Int32)))) (n_NAT32_VARIANT : ¬ ((A (6 : Int32)) = (A (20 : Int32)))) (n_NAT32_FUNC : ¬ ((A (6 : Int32)) = (A (21 : Int32)))) (n_NAT32_SERVICE : ¬ ((A (6 : Int32)) = (A (22 : Int32)))) (n_NAT64_OPT : ¬ ((A (7 : Int32)) = (A (17 : Int32)))) (n_NAT64_VEC : ¬ ((A (7 : Int32)) = (A (18 : Int32)))) (n_NAT64_RECORD : ¬ ((A (7 : Int32)) = (A (19 : Int32)))) (n_NAT64_VARIANT : ¬ ((A (7 : Int32)) = (A (20 : Int32)))) (n_NAT64_FUNC : ¬ ((A (7 : Int32)) = (A (21 : Int32)))) (n_NAT64_SERVICE : ¬ ((A (7 : Int32)) = (A (22 : Int32)))) (n_INT8_OPT : ¬ ((A (8 : Int32)) = (A (17 : Int32)))) (n_INT8_VEC : ¬ ((A (8 : Int32)) = (A (18 : Int32)))) (n_INT8_RECORD : ¬ ((A (8 : Int32)) = (A (19 : Int32)))) (n_INT8_VARIANT : ¬ ((A (8 : Int32)) = (A (20 : Int32)))) (n_INT8_FUNC : ¬ ((A (8 : Int32)) = (A (21 : Int32)))) (n_INT8_SERVICE : ¬ ((A (8 : Int32)) = (A (22 : Int32)))) (n_INT16_OPT : ¬ ((A (9 : Int32)) = (A (17 : Int32)))) (n_INT16_VEC : ¬ ((A (9 : Int32)) = (A (18 : Int32)))) (n_INT16_RECORD : ¬ ((A (9 : Int32)) = (A (19 : Int32)))) (n_INT16_VARIANT : ¬ ((A (9 : Int32)) = (A (20 : Int32)))) (n_INT16_FUNC : ¬ ((A (9 : Int32)) = (A (21 : Int32)))) (n_INT16_SERVICE : ¬ ((A (9 : Int32)) = (A (22 : Int32)))) (n_INT32_OPT : ¬ ((A (10 : Int32)) = (A (17 : Int32)))) (n_INT32_VEC : ¬ ((A (10 : Int32)) = (A (18 : Int32)))) (n_INT32_RECORD : ¬ ((A (10 : Int32)) = (A (19 : Int32)))) (n_INT32_VARIANT : ¬ ((A (10 : Int32)) = (A (20 : Int32)))) (n_INT32_FUNC : ¬ ((A (10 : Int32)) = (A (21 : Int32)))) (n_INT32_SERVICE : ¬ ((A (10 : Int32)) = (A (22 : Int32)))) (n_INT64_OPT : ¬ ((A (11 : Int32)) = (A (17 : Int32)))) (n_INT64_VEC : ¬ ((A (11 : Int32)) = (A (18 : Int32)))) (n_INT64_RECORD : ¬ ((A (11 : Int32)) = (A (19 : Int32)))) (n_INT64_VARIANT : ¬ ((A (11 : Int32)) = (A (20 : Int32)))) (n_INT64_FUNC : ¬ ((A (11 : Int32)) = (A (21 : Int32)))) (n_INT64_SERVICE : ¬ ((A (11 : Int32)) = (A (22 : Int32)))) (n_FLOAT32_OPT : ¬ ((A (12 : Int32)) = (A (17 : Int32)))) (n_FLOAT32_VEC : ¬ ((A (12 : Int32)) = (A (18 : Int32)))) (n_FLOAT32_RECORD : ¬ ((A (12 : Int32)) = (A (19 : Int32)))) (n_FLOAT32_VARIANT : ¬ ((A (12 : Int32)) = (A (20 : Int32)))) (n_FLOAT32_FUNC : ¬ ((A (12 : Int32)) = (A (21 : Int32)))) (n_FLOAT32_SERVICE : ¬ ((A (12 : Int32)) = (A (22 : Int32)))) (n_FLOAT64_OPT : ¬ ((A (13 : Int32)) = (A (17 : Int32)))) (n_FLOAT64_VEC : ¬ ((A (13 : Int32)) = (A (18 : Int32)))) (n_FLOAT64_RECORD : ¬ ((A (13 : Int32)) = (A (19 : Int32)))) (n_FLOAT64_VARIANT : ¬ ((A (13 : Int32)) = (A (20 : Int32)))) (n_FLOAT64_FUNC : ¬ ((A (13 : Int32)) = (A (21 : Int32)))) (n_FLOAT64_SERVICE : ¬ ((A (13 : Int32)) = (A (22 : Int32)))) (n_TEXT_OPT : ¬ ((A (14 : Int32)) = (A (17 : Int32)))) (n_TEXT_VEC : ¬ ((A (14 : Int32)) = (A (18 : Int32)))) (n_TEXT_RECORD : ¬ ((A (14 : Int32)) = (A (19 : Int32)))) (n_TEXT_VARIANT : ¬ ((A (14 : Int32)) = (A (20 : Int32)))) (n_TEXT_FUNC : ¬ ((A (14 : Int32)) = (A (21 : Int32)))) (n_TEXT_SERVICE : ¬ ((A (14 : Int32)) = (A (22 : Int32)))) (n_RESERVED_OPT : ¬ ((A (15 : Int32)) = (A (17 : Int32)))) (n_RESERVED_VEC : ¬ ((A (15 : Int32)) = (A (18 : Int32)))) (n_RESERVED_RECORD : ¬ ((A (15 : Int32)) = (A (19 : Int32)))) (n_RESERVED_VARIANT : ¬ ((A (15 : Int32)) = (A (20 : Int32)))) (n_RESERVED_FUNC : ¬ ((A (15 : Int32)) = (A (21 : Int32)))) (n_RESERVED_SERVICE : ¬ ((A (15 : Int32)) = (A (22 : Int32)))) (n_EMPTY_OPT : ¬ ((A (16 : Int32)) = (A (17 : Int32)))) (n_EMPTY_VEC : ¬ ((A (16 : Int32)) = (A (18 : Int32)))) (n_EMPTY_RECORD : ¬ ((A (16 : Int32)) = (A (19 : Int32)))) (n_EMPTY_VARIANT : ¬ ((A (16 : Int32)) = (A (20 : Int32)))) (n_EMPTY_FUNC : ¬ ((A (16 : Int32)) = (A (21 : Int32)))) (n_EMPTY_SERVICE : ¬ ((A (16 : Int32)) = (A (22 : Int32)))) (n_VEC_OPT : ¬ ((A (18 : Int32)) = (A (17 : Int32)))) (n_RECORD_OPT : ¬ ((A (19 : Int32)) = (A (17 : Int32)))) (n_RECORD_VEC : ¬ ((A (19 : Int32)) = (A (18 : Int32)))) (n_VARIANT_OPT : ¬ ((A (20 : Int32)) = (A (17 : Int32)))) (n_VARIANT_VEC : ¬ ((A (20 : Int32)) = (A (18 : Int32)))) (n_VARIANT_RECORD : ¬ ((A (20 : Int32)) = (A (19 : Int32)))) (n_FUNC_OPT : ¬ ((A (21 : Int32)) = (A (17 : Int32)))) (n_FUNC_VEC : ¬ ((A (21 : Int32)) = (A (18 : Int32)))) (n_FUNC_RECORD : ¬ ((A (21 : Int32)) = (A (19 : Int32)))) (n_FUNC_VARIANT : ¬ ((A (21 : Int32)) = (A (20 : Int32)))) (n_SERVICE_OPT : ¬ ((A (22 : Int32)) = (A (17 : Int32)))) (n_SERVICE_VEC : ¬ ((A (22 : Int32)) = (A (18 : Int32)))) (n_SERVICE_RECORD : ¬ ((A (22 : Int32)) = (A (19 : Int32)))) (n_SERVICE_VARIANT : ¬ ((A (22 : Int32)) = (A (20 : Int32)))) (n_SERVICE_FUNC : ¬ ((A (22 : Int32)) = (A (21 : Int32)))) (n_PRINCIPAL_OPT : ¬ ((A (23 : Int32)) = (A (17 : Int32)))) (n_PRINCIPAL_VEC : ¬ ((A (23 : Int32)) = (A (18 : Int32)))) (n_PRINCIPAL_RECORD : ¬ ((A (23 : Int32)) = (A (19 : Int32)))) (n_PRINCIPAL_VARIANT : ¬ ((A (23 : Int32)) = (A (20 : Int32)))) (n_PRINCIPAL_FUNC : ¬ ((A (23 : Int32)) = (A (21 : Int32)))) (n_PRINCIPAL_SERVICE : ¬ ((A (23 : Int32)) = (A (22 : Int32)))) (n_FUTURE_OPT : ¬ ((A (24 : Int32)) = (A (17 : Int32)))) (n_FUTURE_VEC : ¬ ((A (24 : Int32)) = (A (18 : Int32)))) (n_FUTURE_RECORD : ¬ ((A (24 : Int32)) = (A (19 : Int32)))) (n_FUTURE_VARIANT : ¬ ((A (24 : Int32)) = (A (20 : Int32)))) (n_FUTURE_FUNC : ¬ ((A (24 : Int32)) = (A (21 : Int32)))) (n_FUTURE_SERVICE : ¬ ((A (24 : Int32)) = (A (22 : Int32)))) :
    MetFree l (⟨"com/example/safe_node_calls/safenodecalls/ic/candid/CandidType$Kind", "isStructured", "()Z"⟩ : MethodName) (head1 (Jvm.Cond.code (⟨"com/example/safe_node_calls/safenodecalls/ic/candid/CandidType$Kind", "isStructured", "()Z"⟩ : MethodName) prog_59_method_8_code 1 (some .boolean) :: ws) ({ frames := 0, cells := 0, slots := 0, locals := 0 } : Room)) (fun a_ U_ => a_ = #[(.ref (A p))] ∧ Z.Warmed39 U_.vm ∧ U_.heap = h0) (fun _ _ _ _ _ => True) (fun _ U o U' => ∃ v L, o = .returned v ∧ QK Z (A p) (own_f p) h0 n0 v U'.heap L ∧ FrameEnd U o U' L ({ frames := 0, cells := 0, slots := 0, locals := 0 } : Room).cells ({ frames := 0, cells := 0, slots := 0, locals := 0 } : Room).slots) := by
  rcases hp with rfl | rfl | rfl | rfl | rfl | rfl | rfl | rfl | rfl | rfl | rfl | rfl | rfl | rfl | rfl | rfl | rfl | rfl | rfl | rfl | rfl | rfl | rfl | rfl | rfl
  · exact rmK_n l Z a0 hw ws _ _ _ _ _ _ _ h0 n0 O0 S_OPT S_VEC S_RECORD S_VARIANT S_FUNC S_SERVICE n_NULL_OPT n_NULL_VEC n_NULL_RECORD n_NULL_VARIANT n_NULL_FUNC n_NULL_SERVICE
  · exact rmK_n l Z a0 hw ws _ _ _ _ _ _ _ h0 n0 O0 S_OPT S_VEC S_RECORD S_VARIANT S_FUNC S_SERVICE n_BOOL_OPT n_BOOL_VEC n_BOOL_RECORD n_BOOL_VARIANT n_BOOL_FUNC n_BOOL_SERVICE
  · exact rmK_n l Z a0 hw ws _ _ _ _ _ _ _ h0 n0 O0 S_OPT S_VEC S_RECORD S_VARIANT S_FUNC S_SERVICE n_NAT_OPT n_NAT_VEC n_NAT_RECORD n_NAT_VARIANT n_NAT_FUNC n_NAT_SERVICE
  · exact rmK_n l Z a0 hw ws _ _ _ _ _ _ _ h0 n0 O0 S_OPT S_VEC S_RECORD S_VARIANT S_FUNC S_SERVICE n_INT_OPT n_INT_VEC n_INT_RECORD n_INT_VARIANT n_INT_FUNC n_INT_SERVICE
  · exact rmK_n l Z a0 hw ws _ _ _ _ _ _ _ h0 n0 O0 S_OPT S_VEC S_RECORD S_VARIANT S_FUNC S_SERVICE n_NAT8_OPT n_NAT8_VEC n_NAT8_RECORD n_NAT8_VARIANT n_NAT8_FUNC n_NAT8_SERVICE
  · exact rmK_n l Z a0 hw ws _ _ _ _ _ _ _ h0 n0 O0 S_OPT S_VEC S_RECORD S_VARIANT S_FUNC S_SERVICE n_NAT16_OPT n_NAT16_VEC n_NAT16_RECORD n_NAT16_VARIANT n_NAT16_FUNC n_NAT16_SERVICE
  · exact rmK_n l Z a0 hw ws _ _ _ _ _ _ _ h0 n0 O0 S_OPT S_VEC S_RECORD S_VARIANT S_FUNC S_SERVICE n_NAT32_OPT n_NAT32_VEC n_NAT32_RECORD n_NAT32_VARIANT n_NAT32_FUNC n_NAT32_SERVICE
  · exact rmK_n l Z a0 hw ws _ _ _ _ _ _ _ h0 n0 O0 S_OPT S_VEC S_RECORD S_VARIANT S_FUNC S_SERVICE n_NAT64_OPT n_NAT64_VEC n_NAT64_RECORD n_NAT64_VARIANT n_NAT64_FUNC n_NAT64_SERVICE
  · exact rmK_n l Z a0 hw ws _ _ _ _ _ _ _ h0 n0 O0 S_OPT S_VEC S_RECORD S_VARIANT S_FUNC S_SERVICE n_INT8_OPT n_INT8_VEC n_INT8_RECORD n_INT8_VARIANT n_INT8_FUNC n_INT8_SERVICE
  · exact rmK_n l Z a0 hw ws _ _ _ _ _ _ _ h0 n0 O0 S_OPT S_VEC S_RECORD S_VARIANT S_FUNC S_SERVICE n_INT16_OPT n_INT16_VEC n_INT16_RECORD n_INT16_VARIANT n_INT16_FUNC n_INT16_SERVICE
  · exact rmK_n l Z a0 hw ws _ _ _ _ _ _ _ h0 n0 O0 S_OPT S_VEC S_RECORD S_VARIANT S_FUNC S_SERVICE n_INT32_OPT n_INT32_VEC n_INT32_RECORD n_INT32_VARIANT n_INT32_FUNC n_INT32_SERVICE
  · exact rmK_n l Z a0 hw ws _ _ _ _ _ _ _ h0 n0 O0 S_OPT S_VEC S_RECORD S_VARIANT S_FUNC S_SERVICE n_INT64_OPT n_INT64_VEC n_INT64_RECORD n_INT64_VARIANT n_INT64_FUNC n_INT64_SERVICE
  · exact rmK_n l Z a0 hw ws _ _ _ _ _ _ _ h0 n0 O0 S_OPT S_VEC S_RECORD S_VARIANT S_FUNC S_SERVICE n_FLOAT32_OPT n_FLOAT32_VEC n_FLOAT32_RECORD n_FLOAT32_VARIANT n_FLOAT32_FUNC n_FLOAT32_SERVICE
  · exact rmK_n l Z a0 hw ws _ _ _ _ _ _ _ h0 n0 O0 S_OPT S_VEC S_RECORD S_VARIANT S_FUNC S_SERVICE n_FLOAT64_OPT n_FLOAT64_VEC n_FLOAT64_RECORD n_FLOAT64_VARIANT n_FLOAT64_FUNC n_FLOAT64_SERVICE
  · exact rmK_n l Z a0 hw ws _ _ _ _ _ _ _ h0 n0 O0 S_OPT S_VEC S_RECORD S_VARIANT S_FUNC S_SERVICE n_TEXT_OPT n_TEXT_VEC n_TEXT_RECORD n_TEXT_VARIANT n_TEXT_FUNC n_TEXT_SERVICE
  · exact rmK_n l Z a0 hw ws _ _ _ _ _ _ _ h0 n0 O0 S_OPT S_VEC S_RECORD S_VARIANT S_FUNC S_SERVICE n_RESERVED_OPT n_RESERVED_VEC n_RESERVED_RECORD n_RESERVED_VARIANT n_RESERVED_FUNC n_RESERVED_SERVICE
  · exact rmK_n l Z a0 hw ws _ _ _ _ _ _ _ h0 n0 O0 S_OPT S_VEC S_RECORD S_VARIANT S_FUNC S_SERVICE n_EMPTY_OPT n_EMPTY_VEC n_EMPTY_RECORD n_EMPTY_VARIANT n_EMPTY_FUNC n_EMPTY_SERVICE
  · exact rmK_OPT l Z a0 hw ws _ _ _ _ _ _ h0 n0 O0 S_OPT S_VEC S_RECORD S_VARIANT S_FUNC S_SERVICE 
  · exact rmK_VEC l Z a0 hw ws _ _ _ _ _ _ h0 n0 O0 S_OPT S_VEC S_RECORD S_VARIANT S_FUNC S_SERVICE n_VEC_OPT
  · exact rmK_RECORD l Z a0 hw ws _ _ _ _ _ _ h0 n0 O0 S_OPT S_VEC S_RECORD S_VARIANT S_FUNC S_SERVICE n_RECORD_OPT n_RECORD_VEC
  · exact rmK_VARIANT l Z a0 hw ws _ _ _ _ _ _ h0 n0 O0 S_OPT S_VEC S_RECORD S_VARIANT S_FUNC S_SERVICE n_VARIANT_OPT n_VARIANT_VEC n_VARIANT_RECORD
  · exact rmK_FUNC l Z a0 hw ws _ _ _ _ _ _ h0 n0 O0 S_OPT S_VEC S_RECORD S_VARIANT S_FUNC S_SERVICE n_FUNC_OPT n_FUNC_VEC n_FUNC_RECORD n_FUNC_VARIANT
  · exact rmK_SERVICE l Z a0 hw ws _ _ _ _ _ _ h0 n0 O0 S_OPT S_VEC S_RECORD S_VARIANT S_FUNC S_SERVICE n_SERVICE_OPT n_SERVICE_VEC n_SERVICE_RECORD n_SERVICE_VARIANT n_SERVICE_FUNC
  · exact rmK_n l Z a0 hw ws _ _ _ _ _ _ _ h0 n0 O0 S_OPT S_VEC S_RECORD S_VARIANT S_FUNC S_SERVICE n_PRINCIPAL_OPT n_PRINCIPAL_VEC n_PRINCIPAL_RECORD n_PRINCIPAL_VARIANT n_PRINCIPAL_FUNC n_PRINCIPAL_SERVICE
  · exact rmK_n l Z a0 hw ws _ _ _ _ _ _ _ h0 n0 O0 S_OPT S_VEC S_RECORD S_VARIANT S_FUNC S_SERVICE n_FUTURE_OPT n_FUTURE_VEC n_FUTURE_RECORD n_FUTURE_VARIANT n_FUTURE_FUNC n_FUTURE_SERVICE
theorem own_loose {p : Program} {l : Launch} {e : Env} {R : Room} {s : State} {m : MethodId} {args : Array Value} {below : List Frame} {meth : Method} {c : Code} {T : State} {locs : List Loc} {cells slots n0 : Nat} (X : Stand p l e R s m args below meth c T locs cells slots) (N : Fr n0 locs) : ∃ LL, Stand p l e R s m args below meth c T LL cells slots ∧ Fr n0 LL := ⟨_, X, N⟩
theorem pd_25 : parseMethodDescriptor "()Z" = some ⟨[], some .boolean⟩ := by decide +kernel
theorem pn_26 : plainName "com/example/safe_node_calls/safenodecalls/ic/candid/KindIsStructuredPinLaw" = true := by first | (simp [plainName, overriddenIn]; done) | decide +kernel
theorem ef_0_27 (m : MethodId) (x0 : Int32) : entryFrame m #[(.int x0)] maxLocals = mkF m 0 #[.val (.int x0), .unset, .unset, .unset] [] := by first | (simp [entryFrame, mkF, argsToLocals, Value.category, maxLocals]; done) | rfl
def Qrm0 (Z : State) (p0 : Int32) (A : Int32 → Addr) (h0 : Heap) (n0 : Nat) (v : Option Value) (h : Heap) (L : List Loc) : Prop := v = some (.int (1 : Int32)) ∧ Fr n0 L
set_option maxRecDepth 65536 in
set_option maxHeartbeats 40000000 in
theorem rm0 (l : Launch) (Z : State) (a0 : Array Value) (hw : ∀ d ∈ tables_1, d.before a0 Z = true) (ws : List Jvm.Cond) (p0 : Int32) (A : Int32 → Addr) (h0 : Heap) (n0 : Nat) (O0 : Old Z n0 h0) (S_NULL : Sta Z Z.heap "com/example/safe_node_calls/safenodecalls/ic/candid/CandidType$Kind" "NULL" "Lcom/example/safe_node_calls/safenodecalls/ic/candid/CandidType$Kind;" (.ref (A (0 : Int32)))) (S_BOOL : Sta Z Z.heap "com/example/safe_node_calls/safenodecalls/ic/candid/CandidType$Kind" "BOOL" "Lcom/example/safe_node_calls/safenodecalls/ic/candid/CandidType$Kind;" (.ref (A (1 : Int32)))) (S_NAT : Sta Z Z.heap "com/example/safe_node_calls/safenodecalls/ic/candid/CandidType$Kind" "NAT" "Lcom/example/safe_node_calls/safenodecalls/ic/candid/CandidType$Kind;" (.ref (A (2 : Int32)))) (S_INT : Sta Z Z.heap "com/example/safe_node_calls/safenodecalls/ic/candid/CandidType$Kind" "INT" "Lcom/example/safe_node_calls/safenodecalls/ic/candid/CandidType$Kind;" (.ref (A (3 : Int32)))) (S_NAT8 : Sta Z Z.heap "com/example/safe_node_calls/safenodecalls/ic/candid/CandidType$Kind" "NAT8" "Lcom/example/safe_node_calls/safenodecalls/ic/candid/CandidType$Kind;" (.ref (A (4 : Int32)))) (S_NAT16 : Sta Z Z.heap "com/example/safe_node_calls/safenodecalls/ic/candid/CandidType$Kind" "NAT16" "Lcom/example/safe_node_calls/safenodecalls/ic/candid/CandidType$Kind;" (.ref (A (5 : Int32)))) (S_NAT32 : Sta Z Z.heap "com/example/safe_node_calls/safenodecalls/ic/candid/CandidType$Kind" "NAT32" "Lcom/example/safe_node_calls/safenodecalls/ic/candid/CandidType$Kind;" (.ref (A (6 : Int32)))) (S_NAT64 : Sta Z Z.heap "com/example/safe_node_calls/safenodecalls/ic/candid/CandidType$Kind" "NAT64" "Lcom/example/safe_node_calls/safenodecalls/ic/candid/CandidType$Kind;" (.ref (A (7 : Int32)))) (S_INT8 : Sta Z Z.heap "com/example/safe_node_calls/safenodecalls/ic/candid/CandidType$Kind" "INT8" "Lcom/example/safe_node_calls/safenodecalls/ic/candid/CandidType$Kind;" (.ref (A (8 : Int32)))) (S_INT16 : Sta Z Z.heap "com/example/safe_node_calls/safenodecalls/ic/candid/CandidType$Kind" "INT16" "Lcom/example/safe_node_calls/safenodecalls/ic/candid/CandidType$Kind;" (.ref (A (9 : Int32)))) (S_INT32 : Sta Z Z.heap "com/example/safe_node_calls/safenodecalls/ic/candid/CandidType$Kind" "INT32" "Lcom/example/safe_node_calls/safenodecalls/ic/candid/CandidType$Kind;" (.ref (A (10 : Int32)))) (S_INT64 : Sta Z Z.heap "com/example/safe_node_calls/safenodecalls/ic/candid/CandidType$Kind" "INT64" "Lcom/example/safe_node_calls/safenodecalls/ic/candid/CandidType$Kind;" (.ref (A (11 : Int32)))) (S_FLOAT32 : Sta Z Z.heap "com/example/safe_node_calls/safenodecalls/ic/candid/CandidType$Kind" "FLOAT32" "Lcom/example/safe_node_calls/safenodecalls/ic/candid/CandidType$Kind;" (.ref (A (12 : Int32)))) (S_FLOAT64 : Sta Z Z.heap "com/example/safe_node_calls/safenodecalls/ic/candid/CandidType$Kind" "FLOAT64" "Lcom/example/safe_node_calls/safenodecalls/ic/candid/CandidType$Kind;" (.ref (A (13 : Int32)))) (S_TEXT : Sta Z Z.heap "com/example/safe_node_calls/safenodecalls/ic/candid/CandidType$Kind" "TEXT" "Lcom/example/safe_node_calls/safenodecalls/ic/candid/CandidType$Kind;" (.ref (A (14 : Int32)))) (S_RESERVED : Sta Z Z.heap "com/example/safe_node_calls/safenodecalls/ic/candid/CandidType$Kind" "RESERVED" "Lcom/example/safe_node_calls/safenodecalls/ic/candid/CandidType$Kind;" (.ref (A (15 : Int32)))) (S_EMPTY : Sta Z Z.heap "com/example/safe_node_calls/safenodecalls/ic/candid/CandidType$Kind" "EMPTY" "Lcom/example/safe_node_calls/safenodecalls/ic/candid/CandidType$Kind;" (.ref (A (16 : Int32)))) (S_OPT : Sta Z Z.heap "com/example/safe_node_calls/safenodecalls/ic/candid/CandidType$Kind" "OPT" "Lcom/example/safe_node_calls/safenodecalls/ic/candid/CandidType$Kind;" (.ref (A (17 : Int32)))) (S_VEC : Sta Z Z.heap "com/example/safe_node_calls/safenodecalls/ic/candid/CandidType$Kind" "VEC" "Lcom/example/safe_node_calls/safenodecalls/ic/candid/CandidType$Kind;" (.ref (A (18 : Int32)))) (S_RECORD : Sta Z Z.heap "com/example/safe_node_calls/safenodecalls/ic/candid/CandidType$Kind" "RECORD" "Lcom/example/safe_node_calls/safenodecalls/ic/candid/CandidType$Kind;" (.ref (A (19 : Int32)))) (S_VARIANT : Sta Z Z.heap "com/example/safe_node_calls/safenodecalls/ic/candid/CandidType$Kind" "VARIANT" "Lcom/example/safe_node_calls/safenodecalls/ic/candid/CandidType$Kind;" (.ref (A (20 : Int32)))) (S_FUNC : Sta Z Z.heap "com/example/safe_node_calls/safenodecalls/ic/candid/CandidType$Kind" "FUNC" "Lcom/example/safe_node_calls/safenodecalls/ic/candid/CandidType$Kind;" (.ref (A (21 : Int32)))) (S_SERVICE : Sta Z Z.heap "com/example/safe_node_calls/safenodecalls/ic/candid/CandidType$Kind" "SERVICE" "Lcom/example/safe_node_calls/safenodecalls/ic/candid/CandidType$Kind;" (.ref (A (22 : Int32)))) (S_PRINCIPAL : Sta Z Z.heap "com/example/safe_node_calls/safenodecalls/ic/candid/CandidType$Kind" "PRINCIPAL" "Lcom/example/safe_node_calls/safenodecalls/ic/candid/CandidType$Kind;" (.ref (A (23 : Int32)))) (S_FUTURE : Sta Z Z.heap "com/example/safe_node_calls/safenodecalls/ic/candid/CandidType$Kind" "FUTURE" "Lcom/example/safe_node_calls/safenodecalls/ic/candid/CandidType$Kind;" (.ref (A (24 : Int32)))) (hE : ∀ i : Int32, (i = (0 : Int32) ∨ i = (1 : Int32) ∨ i = (2 : Int32) ∨ i = (3 : Int32) ∨ i = (4 : Int32) ∨ i = (5 : Int32) ∨ i = (6 : Int32) ∨ i = (7 : Int32) ∨ i = (8 : Int32) ∨ i = (9 : Int32) ∨ i = (10 : Int32) ∨ i = (11 : Int32) ∨ i = (12 : Int32) ∨ i = (13 : Int32) ∨ i = (14 : Int32) ∨ i = (15 : Int32) ∨ i = (16 : Int32) ∨ i = (17 : Int32) ∨ i = (18 : Int32) ∨ i = (19 : Int32) ∨ i = (20 : Int32) ∨ i = (21 : Int32) ∨ i = (22 : Int32) ∨ i = (23 : Int32) ∨ i = (24 : Int32)) → Exa Z Z.heap (A i) "com/example/safe_node_calls/safenodecalls/ic/candid/CandidType$Kind") (n_NULL_OPT : ¬ ((A (0 : Int32)) = (A (17 : Int32)))) (n_NULL_VEC : ¬ ((A (0 : Int32)) = (A (18 : Int32)))) (n_NULL_RECORD : ¬ ((A (0 : Int32)) = (A (19 : Int32)))) (n_NULL_VARIANT : ¬ ((A (0 : Int32)) = (A (20 : Int32)))) (n_NULL_FUNC : ¬ ((A (0 : Int32)) = (A (21 : Int32)))) (n_NULL_SERVICE : ¬ ((A (0 : Int32)) = (A (22 : Int32)))) (n_BOOL_OPT : ¬ ((A (1 : Int32)) = (A (17 : Int32)))) (n_BOOL_VEC : ¬ ((A (1 : Int32)) = (A (18 : Int32)))) (n_BOOL_RECORD : ¬ ((A (1 : Int32)) = (A (19 : Int32)))) (n_BOOL_VARIANT : ¬ ((A (1 : Int32)) = (A (20 : Int32)))) (n_BOOL_FUNC : ¬ ((A (1 : Int32)) = (A (21 : Int32)))) (n_BOOL_SERVICE : ¬ ((A (1 : Int32)) = (A (22 : Int32)))) (n_NAT_OPT : ¬ ((A (2 : Int32)) = (A (17 : Int32)))) (n_NAT_VEC : ¬ ((A (2 : Int32)) = (A (18 : Int32)))) (n_NAT_RECORD : ¬ ((A (2 : Int32)) = (A (19 : Int32)))) (n_NAT_VARIANT : ¬ ((A (2 : Int32)) = (A (20 : Int32)))) (n_NAT_FUNC : ¬ ((A (2 : Int32)) = (A (21 : Int32)))) (n_NAT_SERVICE : ¬ ((A (2 : Int32)) = (A (22 : Int32)))) (n_INT_OPT : ¬ ((A (3 : Int32)) = (A (17 : Int32)))) (n_INT_VEC : ¬ ((A (3 : Int32)) = (A (18 : Int32)))) (n_INT_RECORD : ¬ ((A (3 : Int32)) = (A (19 : Int32)))) (n_INT_VARIANT : ¬ ((A (3 : Int32)) = (A (20 : Int32)))) (n_INT_FUNC : ¬ ((A (3 : Int32)) = (A (21 : Int32)))) (n_INT_SERVICE : ¬ ((A (3 : Int32)) = (A (22 : Int32)))) (n_NAT8_OPT : ¬ ((A (4 : Int32)) = (A (17 : Int32)))) (n_NAT8_VEC : ¬ ((A (4 : Int32)) = (A (18 : Int32)))) (n_NAT8_RECORD : ¬ ((A (4 : Int32)) = (A (19 : Int32)))) (n_NAT8_VARIANT : ¬ ((A (4 : Int32)) = (A (20 : Int32)))) (n_NAT8_FUNC : ¬ ((A (4 : Int32)) = (A (21 : Int32)))) (n_NAT8_SERVICE : ¬ ((A (4 : Int32)) = (A (22 : Int32)))) (n_NAT16_OPT : ¬ ((A (5 : Int32)) = (A (17 : Int32)))) (n_NAT16_VEC : ¬ ((A (5 : Int32)) = (A (18 : Int32)))) (n_NAT16_RECORD : ¬ ((A (5 : Int32)) = (A (19 : Int32)))) (n_NAT16_VARIANT : ¬ ((A (5 : Int32)) = (A (20 : Int32)))) (n_NAT16_FUNC : ¬ ((A (5 : Int32)) = (A (21 : Int32)))) (n_NAT16_SERVICE : ¬ ((A (5 : Int32)) = (A (22 : Int32)))) (n_NAT32_OPT : ¬ ((A (6 : Int32)) = (A (17 : Int32)))) (n_NAT32_VEC : ¬ ((A (6 : Int32)) = (A (18 : Int32)))) (n_NAT32_RECORD : ¬ ((A (6 : Int32)) = (A (19 : Int32)))) (n_NAT32_VARIANT : ¬ ((A (6 : Int32)) = (A (20 : Int32)))) (n_NAT32_FUNC : ¬ ((A (6 : Int32)) = (A (21 : Int32)))) (n_NAT32_SERVICE : ¬ ((A (6 : Int32)) = (A (22 : Int32)))) (n_NAT64_OPT : ¬ ((A (7 : Int32)) = (A (17 : Int32)))) (n_NAT64_VEC : ¬ ((A (7 : Int32)) = (A (18 : Int32)))) (n_NAT64_RECORD : ¬ ((A (7 : Int32)) = (A (19 : Int32)))) (n_NAT64_VARIANT : ¬ ((A (7 : Int32)) = (A (20 : Int32)))) (n_NAT64_FUNC : ¬ ((A (7 : Int32)) = (A (21 : Int32)))) (n_NAT64_SERVICE : ¬ ((A (7 : Int32)) = (A (22 : Int32)))) (n_INT8_OPT : ¬ ((A (8 : Int32)) = (A (17 : Int32)))) (n_INT8_VEC : ¬ ((A (8 : Int32)) = (A (18 : Int32)))) (n_INT8_RECORD : ¬ ((A (8 : Int32)) = (A (19 : Int32)))) (n_INT8_VARIANT : ¬ ((A (8 : Int32)) = (A (20 : Int32)))) (n_INT8_FUNC : ¬ ((A (8 : Int32)) = (A (21 : Int32)))) (n_INT8_SERVICE : ¬ ((A (8 : Int32)) = (A (22 : Int32)))) (n_INT16_OPT : ¬ ((A (9 : Int32)) = (A (17 : Int32)))) (n_INT16_VEC : ¬ ((A (9 : Int32)) = (A (18 : Int32)))) (n_INT16_RECORD : ¬ ((A (9 : Int32)) = (A (19 : Int32)))) (n_INT16_VARIANT : ¬ ((A (9 : Int32)) = (A (20 : Int32)))) (n_INT16_FUNC : ¬ ((A (9 : Int32)) = (A (21 : Int32)))) (n_INT16_SERVICE : ¬ ((A (9 : Int32)) = (A (22 : Int32)))) (n_INT32_OPT : ¬ ((A (10 : Int32)) = (A (17 : Int32)))) (n_INT32_VEC : ¬ ((A (10 : Int32)) = (A (18 : Int32)))) (n_INT32_RECORD : ¬ ((A (10 : Int32)) = (A (19 : Int32)))) (n_INT32_VARIANT : ¬ ((A (10 : Int32)) = (A (20 : Int32)))) (n_INT32_FUNC : ¬ ((A (10 : Int32)) = (A (21 : Int32)))) (n_INT32_SERVICE : ¬ ((A (10 : Int32)) = (A (22 : Int32)))) (n_INT64_OPT : ¬ ((A (11 : Int32)) = (A (17 : Int32)))) (n_INT64_VEC : ¬ ((A (11 : Int32)) = (A (18 : Int32)))) (n_INT64_RECORD : ¬ ((A (11 : Int32)) = (A (19 : Int32)))) (n_INT64_VARIANT : ¬ ((A (11 : Int32)) = (A (20 : Int32)))) (n_INT64_FUNC : ¬ ((A (11 : Int32)) = (A (21 : Int32)))) (n_INT64_SERVICE : ¬ ((A (11 : Int32)) = (A (22 : Int32)))) (n_FLOAT32_OPT : ¬ ((A (12 : Int32)) = (A (17 : Int32)))) (n_FLOAT32_VEC : ¬ ((A (12 : Int32)) = (A (18 : Int32)))) (n_FLOAT32_RECORD : ¬ ((A (12 : Int32)) = (A (19 : Int32)))) (n_FLOAT32_VARIANT : ¬ ((A (12 : Int32)) = (A (20 : Int32)))) (n_FLOAT32_FUNC : ¬ ((A (12 : Int32)) = (A (21 : Int32)))) (n_FLOAT32_SERVICE : ¬ ((A (12 : Int32)) = (A (22 : Int32)))) (n_FLOAT64_OPT : ¬ ((A (13 : Int32)) = (A (17 : Int32)))) (n_FLOAT64_VEC : ¬ ((A (13 : Int32)) = (A (18 : Int32)))) (n_FLOAT64_RECORD : ¬ ((A (13 : Int32)) = (A (19 : Int32)))) (n_FLOAT64_VARIANT : ¬ ((A (13 : Int32)) = (A (20 : Int32)))) (n_FLOAT64_FUNC : ¬ ((A (13 : Int32)) = (A (21 : Int32)))) (n_FLOAT64_SERVICE : ¬ ((A (13 : Int32)) = (A (22 : Int32)))) (n_TEXT_OPT : ¬ ((A (14 : Int32)) = (A (17 : Int32)))) (n_TEXT_VEC : ¬ ((A (14 : Int32)) = (A (18 : Int32)))) (n_TEXT_RECORD : ¬ ((A (14 : Int32)) = (A (19 : Int32)))) (n_TEXT_VARIANT : ¬ ((A (14 : Int32)) = (A (20 : Int32)))) (n_TEXT_FUNC : ¬ ((A (14 : Int32)) = (A (21 : Int32)))) (n_TEXT_SERVICE : ¬ ((A (14 : Int32)) = (A (22 : Int32)))) (n_RESERVED_OPT : ¬ ((A (15 : Int32)) = (A (17 : Int32)))) (n_RESERVED_VEC : ¬ ((A (15 : Int32)) = (A (18 : Int32)))) (n_RESERVED_RECORD : ¬ ((A (15 : Int32)) = (A (19 : Int32)))) (n_RESERVED_VARIANT : ¬ ((A (15 : Int32)) = (A (20 : Int32)))) (n_RESERVED_FUNC : ¬ ((A (15 : Int32)) = (A (21 : Int32)))) (n_RESERVED_SERVICE : ¬ ((A (15 : Int32)) = (A (22 : Int32)))) (n_EMPTY_OPT : ¬ ((A (16 : Int32)) = (A (17 : Int32)))) (n_EMPTY_VEC : ¬ ((A (16 : Int32)) = (A (18 : Int32)))) (n_EMPTY_RECORD : ¬ ((A (16 : Int32)) = (A (19 : Int32)))) (n_EMPTY_VARIANT : ¬ ((A (16 : Int32)) = (A (20 : Int32)))) (n_EMPTY_FUNC : ¬ ((A (16 : Int32)) = (A (21 : Int32)))) (n_EMPTY_SERVICE : ¬ ((A (16 : Int32)) = (A (22 : Int32)))) (n_VEC_OPT : ¬ ((A (18 : Int32)) = (A (17 : Int32)))) (n_RECORD_OPT : ¬ ((A (19 : Int32)) = (A (17 : Int32)))) (n_RECORD_VEC : ¬ ((A (19 : Int32)) = (A (18 : Int32)))) (n_VARIANT_OPT : ¬ ((A (20 : Int32)) = (A (17 : Int32)))) (n_VARIANT_VEC : ¬ ((A (20 : Int32)) = (A (18 : Int32)))) (n_VARIANT_RECORD : ¬ ((A (20 : Int32)) = (A (19 : Int32)))) (n_FUNC_OPT : ¬ ((A (21 : Int32)) = (A (17 : Int32)))) (n_FUNC_VEC : ¬ ((A (21 : Int32)) = (A (18 : Int32)))) (n_FUNC_RECORD : ¬ ((A (21 : Int32)) = (A (19 : Int32)))) (n_FUNC_VARIANT : ¬ ((A (21 : Int32)) = (A (20 : Int32)))) (n_SERVICE_OPT : ¬ ((A (22 : Int32)) = (A (17 : Int32)))) (n_SERVICE_VEC : ¬ ((A (22 : Int32)) = (A (18 : Int32)))) (n_SERVICE_RECORD : ¬ ((A (22 : Int32)) = (A (19 : Int32)))) (n_SERVICE_VARIANT : ¬ ((A (22 : Int32)) = (A (20 : Int32)))) (n_SERVICE_FUNC : ¬ ((A (22 : Int32)) = (A (21 : Int32)))) (n_PRINCIPAL_OPT : ¬ ((A (23 : Int32)) = (A (17 : Int32)))) (n_PRINCIPAL_VEC : ¬ ((A (23 : Int32)) = (A (18 : Int32)))) (n_PRINCIPAL_RECORD : ¬ ((A (23 : Int32)) = (A (19 : Int32)))) (n_PRINCIPAL_VARIANT : ¬ ((A (23 : Int32)) = (A (20 : Int32)))) (n_PRINCIPAL_FUNC : ¬ ((A (23 : Int32)) = (A (21 : Int32)))) (n_PRINCIPAL_SERVICE : ¬ ((A (23 : Int32)) = (A (22 : Int32)))) (n_FUTURE_OPT : ¬ ((A (24 : Int32)) = (A (17 : Int32)))) (n_FUTURE_VEC : ¬ ((A (24 : Int32)) = (A (18 : Int32)))) (n_FUTURE_RECORD : ¬ ((A (24 : Int32)) = (A (19 : Int32)))) (n_FUTURE_VARIANT : ¬ ((A (24 : Int32)) = (A (20 : Int32)))) (n_FUTURE_FUNC : ¬ ((A (24 : Int32)) = (A (21 : Int32)))) (n_FUTURE_SERVICE : ¬ ((A (24 : Int32)) = (A (22 : Int32)))) :
    MetFree l x (head1 (Jvm.Cond.code x code maxLocals ret :: ws) room_1) (fun a_ U_ => a_ = #[(.int p0)] ∧ Z.Warmed39 U_.vm ∧ U_.heap = h0) (fun _ _ _ _ _ => True) (fun _ U_ o_ U'_ => ∃ v_ L_, o_ = .returned v_ ∧ Qrm0 Z p0 A h0 n0 v_ U'_.heap L_ ∧ FrameEnd U_ o_ U'_ L_ 1 25) := by
  refine MetFree.of_bodySF (plainFor_of_name pn_26) hisR ?_
  intro pg ee s mm args below meth cc s₁ Bd hml0 hP hK
  obtain ⟨rfl, hZ, hh⟩ := hP
  have hx := Bd.exec
  have hby := Bd.bytes
  have hml : cc.maxLocals = 4 := hml0
  have hown : s.vm.findClass "com/example/safe_node_calls/safenodecalls/ic/candid/KindIsStructuredPinLaw" = some mm.cls := findClass_of_methodNamed Bd.named
  have hnm := (name_of_methodNamed Bd.named Bd.method).1
  have X0 : Stand pg l ee room_1 s mm #[(.int p0)] below meth cc s₁ [] 0 0 := Stand.of_body Bd
  have e0 : s₁.heap = h0 := by rw [← hh, Bd.state]; rfl
  have N0 := Fr.nil n0
  have K0 : Keep h0 h0 ([] : List Addr) := Keep.refl _ _
  have pre0 : ∀ t, Steps pg.tables ee below (s₁.setTop (mkF mm 0 #[.val (.int p0), .unset, .unset, .unset] [])) t → Steps pg.tables ee below (s₁.setTop (entryFrame mm #[(.int p0)] maxLocals)) t := fun t k => castTop (ef_0_27 mm p0) k
  obtain ⟨T1, h1, k1, X1, e1, E1, A1, Ov1, st1⟩ := newR X0 hx hZ hown (hw _ (List.mem_of_getElem? (i := 0) rfl)) (hw _ (List.mem_of_getElem? (i := 1) rfl)) e0 (g := (mkF mm 2 #[.val (.int p0), .unset, .unset, .unset] [(.int (25 : Int32))])) rfl (hb hby at_2) rfl (by decide) (cap := 25) (by decide) (by decide) (by decide) (by decide)
  obtain ⟨b1, g1⟩ : ∃ z, z = h0.size := ⟨_, rfl⟩
  rw [← g1] at A1 st1
  have g_b1 : n0 ≤ b1 := Nat.le_trans (O0.1 ▸ O0.2.1) (Nat.le_of_eq g1.symm)
  have sz_b1 : h0.size ≤ b1 := Nat.le_trans K0.1 (Nat.le_of_eq g1.symm)
  have O1 := O0.ext E1
  have KK1 := K0.ext E1
  have V1 : Arv Z h1 b1 k1 (.object "com/example/safe_node_calls/safenodecalls/ic/candid/CandidType$Kind") (25 : Int32) [.null, .null, .null, .null, .null, .null, .null, .null, .null, .null, .null, .null, .null, .null, .null, .null, .null, .null, .null, .null, .null, .null, .null, .null, .null] .null := (Arv.new A1 (by decide)).pad (pad_rep [] .null 25)
  obtain ⟨T2, X2, e2, st2⟩ := getS2 X1 hx hZ hown (host := "") (Or.inl (hw _ (List.mem_of_getElem? (i := 2) rfl))) Via.refl e1 (S_NULL.ext O1.2) (g := (mkF mm 7 #[.val (.int p0), .unset, .unset, .unset] [(.int (0 : Int32)), (.ref b1), (.ref b1)])) rfl (hb hby at_7)
  obtain ⟨cl3, Ar3, qk3, Sz3, Nn3, Hh3, Gg3⟩ := id V1
  have hin3 : ¬ ((0 : Int32) < 0 ∨ cl3.slots.size ≤ ((0 : Int32)).toNatClampNeg) := inb_of Sz3 ⟨by decide, by decide⟩
  obtain ⟨T4, h4, X4, e4, W4, st4⟩ := stR X2 hx hZ e2 Ar3 (j := (0 : Int32)) hin3 rfl (Sto.ofV Ar3 qk3 Ov1 (Ins.self ((hE (0 : Int32) (Or.inl rfl)).ext O1.2))) (g := (mkF mm 10 #[.val (.int p0), .unset, .unset, .unset] [(.ref (A (0 : Int32))), (.int (0 : Int32)), (.ref b1), (.ref b1)])) rfl rfl (hb hby at_10)
  have V4 : Arv Z h4 b1 k1 (.object "com/example/safe_node_calls/safenodecalls/ic/candid/CandidType$Kind") (25 : Int32) [(.ref (A (0 : Int32))), .null, .null, .null, .null, .null, .null, .null, .null, .null, .null, .null, .null, .null, .null, .null, .null, .null, .null, .null, .null, .null, .null, .null, .null] .null := Arv.set Ar3 qk3 Sz3 Nn3 Hh3 Gg3 rfl W4 0 rfl (Nat.le_of_ble_eq_true rfl)
  have N4 := Fr.snoc X4 N0 g_b1
  have O4 := O1.wr W4 g_b1
  have KK4 := KK1.wr W4 (Or.inr sz_b1)
  obtain ⟨T5, X5, e5, st5⟩ := getS2 X4 hx hZ hown (host := "") (Or.inl (hw _ (List.mem_of_getElem? (i := 6) rfl))) Via.refl e4 (S_BOOL.ext O4.2) (g := (mkF mm 13 #[.val (.int p0), .unset, .unset, .unset] [(.int (1 : Int32)), (.ref b1), (.ref b1)])) rfl (hb hby at_13)
  obtain ⟨cl6, Ar6, qk6, Sz6, Nn6, Hh6, Gg6⟩ := id V4
  have hin6 : ¬ ((1 : Int32) < 0 ∨ cl6.slots.size ≤ ((1 : Int32)).toNatClampNeg) := inb_of Sz6 ⟨by decide, by decide⟩
  obtain ⟨T7, h7, X7, e7, W7, st7⟩ := stR X5 hx hZ e5 Ar6 (j := (1 : Int32)) hin6 rfl (Sto.ofV Ar6 qk6 Ov1 (Ins.self ((hE (1 : Int32) (Or.inr (Or.inl rfl))).ext O4.2))) (g := (mkF mm 16 #[.val (.int p0), .unset, .unset, .unset] [(.ref (A (1 : Int32))), (.int (1 : Int32)), (.ref b1), (.ref b1)])) rfl rfl (hb hby at_16)
  have V7 : Arv Z h7 b1 k1 (.object "com/example/safe_node_calls/safenodecalls/ic/candid/CandidType$Kind") (25 : Int32) [(.ref (A (0 : Int32))), (.ref (A (1 : Int32))), .null, .null, .null, .null, .null, .null, .null, .null, .null, .null, .null, .null, .null, .null, .null, .null, .null, .null, .null, .null, .null, .null, .null] .null := Arv.set Ar6 qk6 Sz6 Nn6 Hh6 Gg6 rfl W7 1 rfl (Nat.le_of_ble_eq_true rfl)
  have N7 := Fr.snoc X7 N4 g_b1
  have O7 := O4.wr W7 g_b1
  have KK7 := KK4.wr W7 (Or.inr sz_b1)
  obtain ⟨T8, X8, e8, st8⟩ := getS2 X7 hx hZ hown (host := "") (Or.inl (hw _ (List.mem_of_getElem? (i := 8) rfl))) Via.refl e7 (S_NAT.ext O7.2) (g := (mkF mm 19 #[.val (.int p0), .unset, .unset, .unset] [(.int (2 : Int32)), (.ref b1), (.ref b1)])) rfl (hb hby at_19)
  obtain ⟨cl9, Ar9, qk9, Sz9, Nn9, Hh9, Gg9⟩ := id V7
  have hin9 : ¬ ((2 : Int32) < 0 ∨ cl9.slots.size ≤ ((2 : Int32)).toNatClampNeg) := inb_of Sz9 ⟨by decide, by decide⟩
  obtain ⟨T10, h10, X10, e10, W10, st10⟩ := stR X8 hx hZ e8 Ar9 (j := (2 : Int32)) hin9 rfl (Sto.ofV Ar9 qk9 Ov1 (Ins.self ((hE (2 : Int32) (Or.inr (Or.inr (Or.inl rfl)))).ext O7.2))) (g := (mkF mm 22 #[.val (.int p0), .unset, .unset, .unset] [(.ref (A (2 : Int32))), (.int (2 : Int32)), (.ref b1), (.ref b1)])) rfl rfl (hb hby at_22)
  have V10 : Arv Z h10 b1 k1 (.object "com/example/safe_node_calls/safenodecalls/ic/candid/CandidType$Kind") (25 : Int32) [(.ref (A (0 : Int32))), (.ref (A (1 : Int32))), (.ref (A (2 : Int32))), .null, .null, .null, .null, .null, .null, .null, .null, .null, .null, .null, .null, .null, .null, .null, .null, .null, .null, .null, .null, .null, .null] .null := Arv.set Ar9 qk9 Sz9 Nn9 Hh9 Gg9 rfl W10 2 rfl (Nat.le_of_ble_eq_true rfl)
  have N10 := Fr.snoc X10 N7 g_b1
  have O10 := O7.wr W10 g_b1
  have KK10 := KK7.wr W10 (Or.inr sz_b1)
  obtain ⟨T11, X11, e11, st11⟩ := getS2 X10 hx hZ hown (host := "") (Or.inl (hw _ (List.mem_of_getElem? (i := 10) rfl))) Via.refl e10 (S_INT.ext O10.2) (g := (mkF mm 25 #[.val (.int p0), .unset, .unset, .unset] [(.int (3 : Int32)), (.ref b1), (.ref b1)])) rfl (hb hby at_25)
  obtain ⟨cl12, Ar12, qk12, Sz12, Nn12, Hh12, Gg12⟩ := id V10
  have hin12 : ¬ ((3 : Int32) < 0 ∨ cl12.slots.size ≤ ((3 : Int32)).toNatClampNeg) := inb_of Sz12 ⟨by decide, by decide⟩
  obtain ⟨T13, h13, X13, e13, W13, st13⟩ := stR X11 hx hZ e11 Ar12 (j := (3 : Int32)) hin12 rfl (Sto.ofV Ar12 qk12 Ov1 (Ins.self ((hE (3 : Int32) (Or.inr (Or.inr (Or.inr (Or.inl rfl))))).ext O10.2))) (g := (mkF mm 28 #[.val (.int p0), .unset, .unset, .unset] [(.ref (A (3 : Int32))), (.int (3 : Int32)), (.ref b1), (.ref b1)])) rfl rfl (hb hby at_28)
  have V13 : Arv Z h13 b1 k1 (.object "com/example/safe_node_calls/safenodecalls/ic/candid/CandidType$Kind") (25 : Int32) [(.ref (A (0 : Int32))), (.ref (A (1 : Int32))), (.ref (A (2 : Int32))), (.ref (A (3 : Int32))), .null, .null, .null, .null, .null, .null, .null, .null, .null, .null, .null, .null, .null, .null, .null, .null, .null, .null, .null, .null, .null] .null := Arv.set Ar12 qk12 Sz12 Nn12 Hh12 Gg12 rfl W13 3 rfl (Nat.le_of_ble_eq_true rfl)
  have N13 := Fr.snoc X13 N10 g_b1
  have O13 := O10.wr W13 g_b1
  have KK13 := KK10.wr W13 (Or.inr sz_b1)
  obtain ⟨T14, X14, e14, st14⟩ := getS2 X13 hx hZ hown (host := "") (Or.inl (hw _ (List.mem_of_getElem? (i := 12) rfl))) Via.refl e13 (S_NAT8.ext O13.2) (g := (mkF mm 31 #[.val (.int p0), .unset, .unset, .unset] [(.int (4 : Int32)), (.ref b1), (.ref b1)])) rfl (hb hby at_31)
  obtain ⟨cl15, Ar15, qk15, Sz15, Nn15, Hh15, Gg15⟩ := id V13
  have hin15 : ¬ ((4 : Int32) < 0 ∨ cl15.slots.size ≤ ((4 : Int32)).toNatClampNeg) := inb_of Sz15 ⟨by decide, by decide⟩
  obtain ⟨T16, h16, X16, e16, W16, st16⟩ := stR X14 hx hZ e14 Ar15 (j := (4 : Int32)) hin15 rfl (Sto.ofV Ar15 qk15 Ov1 (Ins.self ((hE (4 : Int32) (Or.inr (Or.inr (Or.inr (Or.inr (Or.inl rfl)))))).ext O13.2))) (g := (mkF mm 34 #[.val (.int p0), .unset, .unset, .unset] [(.ref (A (4 : Int32))), (.int (4 : Int32)), (.ref b1), (.ref b1)])) rfl rfl (hb hby at_34)
  have V16 : Arv Z h16 b1 k1 (.object "com/example/safe_node_calls/safenodecalls/ic/candid/CandidType$Kind") (25 : Int32) [(.ref (A (0 : Int32))), (.ref (A (1 : Int32))), (.ref (A (2 : Int32))), (.ref (A (3 : Int32))), (.ref (A (4 : Int32))), .null, .null, .null, .null, .null, .null, .null, .null, .null, .null, .null, .null, .null, .null, .null, .null, .null, .null, .null, .null] .null := Arv.set Ar15 qk15 Sz15 Nn15 Hh15 Gg15 rfl W16 4 rfl (Nat.le_of_ble_eq_true rfl)
  have N16 := Fr.snoc X16 N13 g_b1
  have O16 := O13.wr W16 g_b1
  have KK16 := KK13.wr W16 (Or.inr sz_b1)
  obtain ⟨T17, X17, e17, st17⟩ := getS2 X16 hx hZ hown (host := "") (Or.inl (hw _ (List.mem_of_getElem? (i := 14) rfl))) Via.refl e16 (S_NAT16.ext O16.2) (g := (mkF mm 37 #[.val (.int p0), .unset, .unset, .unset] [(.int (5 : Int32)), (.ref b1), (.ref b1)])) rfl (hb hby at_37)
  obtain ⟨cl18, Ar18, qk18, Sz18, Nn18, Hh18, Gg18⟩ := id V16
  have hin18 : ¬ ((5 : Int32) < 0 ∨ cl18.slots.size ≤ ((5 : Int32)).toNatClampNeg) := inb_of Sz18 ⟨by decide, by decide⟩
  obtain ⟨T19, h19, X19, e19, W19, st19⟩ := stR X17 hx hZ e17 Ar18 (j := (5 : Int32)) hin18 rfl (Sto.ofV Ar18 qk18 Ov1 (Ins.self ((hE (5 : Int32) (Or.inr (Or.inr (Or.inr (Or.inr (Or.inr (Or.inl rfl))))))).ext O16.2))) (g := (mkF mm 40 #[.val (.int p0), .unset, .unset, .unset] [(.ref (A (5 : Int32))), (.int (5 : Int32)), (.ref b1), (.ref b1)])) rfl rfl (hb hby at_40)
  have V19 : Arv Z h19 b1 k1 (.object "com/example/safe_node_calls/safenodecalls/ic/candid/CandidType$Kind") (25 : Int32) [(.ref (A (0 : Int32))), (.ref (A (1 : Int32))), (.ref (A (2 : Int32))), (.ref (A (3 : Int32))), (.ref (A (4 : Int32))), (.ref (A (5 : Int32))), .null, .null, .null, .null, .null, .null, .null, .null, .null, .null, .null, .null, .null, .null, .null, .null, .null, .null, .null] .null := Arv.set Ar18 qk18 Sz18 Nn18 Hh18 Gg18 rfl W19 5 rfl (Nat.le_of_ble_eq_true rfl)
  have N19 := Fr.snoc X19 N16 g_b1
  have O19 := O16.wr W19 g_b1
  have KK19 := KK16.wr W19 (Or.inr sz_b1)
  obtain ⟨T20, X20, e20, st20⟩ := getS2 X19 hx hZ hown (host := "") (Or.inl (hw _ (List.mem_of_getElem? (i := 16) rfl))) Via.refl e19 (S_NAT32.ext O19.2) (g := (mkF mm 44 #[.val (.int p0), .unset, .unset, .unset] [(.int (6 : Int32)), (.ref b1), (.ref b1)])) rfl (hb hby at_44)
  obtain ⟨cl21, Ar21, qk21, Sz21, Nn21, Hh21, Gg21⟩ := id V19
  have hin21 : ¬ ((6 : Int32) < 0 ∨ cl21.slots.size ≤ ((6 : Int32)).toNatClampNeg) := inb_of Sz21 ⟨by decide, by decide⟩
  obtain ⟨T22, h22, X22, e22, W22, st22⟩ := stR X20 hx hZ e20 Ar21 (j := (6 : Int32)) hin21 rfl (Sto.ofV Ar21 qk21 Ov1 (Ins.self ((hE (6 : Int32) (Or.inr (Or.inr (Or.inr (Or.inr (Or.inr (Or.inr (Or.inl rfl)))))))).ext O19.2))) (g := (mkF mm 47 #[.val (.int p0), .unset, .unset, .unset] [(.ref (A (6 : Int32))), (.int (6 : Int32)), (.ref b1), (.ref b1)])) rfl rfl (hb hby at_47)
  have V22 : Arv Z h22 b1 k1 (.object "com/example/safe_node_calls/safenodecalls/ic/candid/CandidType$Kind") (25 : Int32) [(.ref (A (0 : Int32))), (.ref (A (1 : Int32))), (.ref (A (2 : Int32))), (.ref (A (3 : Int32))), (.ref (A (4 : Int32))), (.ref (A (5 : Int32))), (.ref (A (6 : Int32))), .null, .null, .null, .null, .null, .null, .null, .null, .null, .null, .null, .null, .null, .null, .null, .null, .null, .null] .null := Arv.set Ar21 qk21 Sz21 Nn21 Hh21 Gg21 rfl W22 6 rfl (Nat.le_of_ble_eq_true rfl)
  have N22 := Fr.snoc X22 N19 g_b1
  have O22 := O19.wr W22 g_b1
  have KK22 := KK19.wr W22 (Or.inr sz_b1)
  obtain ⟨T23, X23, e23, st23⟩ := getS2 X22 hx hZ hown (host := "") (Or.inl (hw _ (List.mem_of_getElem? (i := 18) rfl))) Via.refl e22 (S_NAT64.ext O22.2) (g := (mkF mm 51 #[.val (.int p0), .unset, .unset, .unset] [(.int (7 : Int32)), (.ref b1), (.ref b1)])) rfl (hb hby at_51)
  obtain ⟨cl24, Ar24, qk24, Sz24, Nn24, Hh24, Gg24⟩ := id V22
  have hin24 : ¬ ((7 : Int32) < 0 ∨ cl24.slots.size ≤ ((7 : Int32)).toNatClampNeg) := inb_of Sz24 ⟨by decide, by decide⟩
  obtain ⟨T25, h25, X25, e25, W25, st25⟩ := stR X23 hx hZ e23 Ar24 (j := (7 : Int32)) hin24 rfl (Sto.ofV Ar24 qk24 Ov1 (Ins.self ((hE (7 : Int32) (Or.inr (Or.inr (Or.inr (Or.inr (Or.inr (Or.inr (Or.inr (Or.inl rfl))))))))).ext O22.2))) (g := (mkF mm 54 #[.val (.int p0), .unset, .unset, .unset] [(.ref (A (7 : Int32))), (.int (7 : Int32)), (.ref b1), (.ref b1)])) rfl rfl (hb hby at_54)
  have V25 : Arv Z h25 b1 k1 (.object "com/example/safe_node_calls/safenodecalls/ic/candid/CandidType$Kind") (25 : Int32) [(.ref (A (0 : Int32))), (.ref (A (1 : Int32))), (.ref (A (2 : Int32))), (.ref (A (3 : Int32))), (.ref (A (4 : Int32))), (.ref (A (5 : Int32))), (.ref (A (6 : Int32))), (.ref (A (7 : Int32))), .null, .null, .null, .null, .null, .null, .null, .null, .null, .null, .null, .null, .null, .null, .null, .null, .null] .null := Arv.set Ar24 qk24 Sz24 Nn24 Hh24 Gg24 rfl W25 7 rfl (Nat.le_of_ble_eq_true rfl)
  have N25 := Fr.snoc X25 N22 g_b1
  have O25 := O22.wr W25 g_b1
  have KK25 := KK22.wr W25 (Or.inr sz_b1)
  obtain ⟨T26, X26, e26, st26⟩ := getS2 X25 hx hZ hown (host := "") (Or.inl (hw _ (List.mem_of_getElem? (i := 20) rfl))) Via.refl e25 (S_INT8.ext O25.2) (g := (mkF mm 58 #[.val (.int p0), .unset, .unset, .unset] [(.int (8 : Int32)), (.ref b1), (.ref b1)])) rfl (hb hby at_58)
  obtain ⟨cl27, Ar27, qk27, Sz27, Nn27, Hh27, Gg27⟩ := id V25
  have hin27 : ¬ ((8 : Int32) < 0 ∨ cl27.slots.size ≤ ((8 : Int32)).toNatClampNeg) := inb_of Sz27 ⟨by decide, by decide⟩
  obtain ⟨T28, h28, X28, e28, W28, st28⟩ := stR X26 hx hZ e26 Ar27 (j := (8 : Int32)) hin27 rfl (Sto.ofV Ar27 qk27 Ov1 (Ins.self ((hE (8 : Int32) (Or.inr (Or.inr (Or.inr (Or.inr (Or.inr (Or.inr (Or.inr (Or.inr (Or.inl rfl)))))))))).ext O25.2))) (g := (mkF mm 61 #[.val (.int p0), .unset, .unset, .unset] [(.ref (A (8 : Int32))), (.int (8 : Int32)), (.ref b1), (.ref b1)])) rfl rfl (hb hby at_61)
  have V28 : Arv Z h28 b1 k1 (.object "com/example/safe_node_calls/safenodecalls/ic/candid/CandidType$Kind") (25 : Int32) [(.ref (A (0 : Int32))), (.ref (A (1 : Int32))), (.ref (A (2 : Int32))), (.ref (A (3 : Int32))), (.ref (A (4 : Int32))), (.ref (A (5 : Int32))), (.ref (A (6 : Int32))), (.ref (A (7 : Int32))), (.ref (A (8 : Int32))), .null, .null, .null, .null, .null, .null, .null, .null, .null, .null, .null, .null, .null, .null, .null, .null] .null := Arv.set Ar27 qk27 Sz27 Nn27 Hh27 Gg27 rfl W28 8 rfl (Nat.le_of_ble_eq_true rfl)
  have N28 := Fr.snoc X28 N25 g_b1
  have O28 := O25.wr W28 g_b1
  have KK28 := KK25.wr W28 (Or.inr sz_b1)
  obtain ⟨T29, X29, e29, st29⟩ := getS2 X28 hx hZ hown (host := "") (Or.inl (hw _ (List.mem_of_getElem? (i := 22) rfl))) Via.refl e28 (S_INT16.ext O28.2) (g := (mkF mm 65 #[.val (.int p0), .unset, .unset, .unset] [(.int (9 : Int32)), (.ref b1), (.ref b1)])) rfl (hb hby at_65)
  obtain ⟨cl30, Ar30, qk30, Sz30, Nn30, Hh30, Gg30⟩ := id V28
  have hin30 : ¬ ((9 : Int32) < 0 ∨ cl30.slots.size ≤ ((9 : Int32)).toNatClampNeg) := inb_of Sz30 ⟨by decide, by decide⟩
  obtain ⟨T31, h31, X31, e31, W31, st31⟩ := stR X29 hx hZ e29 Ar30 (j := (9 : Int32)) hin30 rfl (Sto.ofV Ar30 qk30 Ov1 (Ins.self ((hE (9 : Int32) (Or.inr (Or.inr (Or.inr (Or.inr (Or.inr (Or.inr (Or.inr (Or.inr (Or.inr (Or.inl rfl))))))))))).ext O28.2))) (g := (mkF mm 68 #[.val (.int p0), .unset, .unset, .unset] [(.ref (A (9 : Int32))), (.int (9 : Int32)), (.ref b1), (.ref b1)])) rfl rfl (hb hby at_68)
  have V31 : Arv Z h31 b1 k1 (.object "com/example/safe_node_calls/safenodecalls/ic/candid/CandidType$Kind") (25 : Int32) [(.ref (A (0 : Int32))), (.ref (A (1 : Int32))), (.ref (A (2 : Int32))), (.ref (A (3 : Int32))), (.ref (A (4 : Int32))), (.ref (A (5 : Int32))), (.ref (A (6 : Int32))), (.ref (A (7 : Int32))), (.ref (A (8 : Int32))), (.ref (A (9 : Int32))), .null, .null, .null, .null, .null, .null, .null, .null, .null, .null, .null, .null, .null, .null, .null] .null := Arv.set Ar30 qk30 Sz30 Nn30 Hh30 Gg30 rfl W31 9 rfl (Nat.le_of_ble_eq_true rfl)
  have N31 := Fr.snoc X31 N28 g_b1
  have O31 := O28.wr W31 g_b1
  have KK31 := KK28.wr W31 (Or.inr sz_b1)
  obtain ⟨T32, X32, e32, st32⟩ := getS2 X31 hx hZ hown (host := "") (Or.inl (hw _ (List.mem_of_getElem? (i := 24) rfl))) Via.refl e31 (S_INT32.ext O31.2) (g := (mkF mm 72 #[.val (.int p0), .unset, .unset, .unset] [(.int (10 : Int32)), (.ref b1), (.ref b1)])) rfl (hb hby at_72)
  obtain ⟨cl33, Ar33, qk33, Sz33, Nn33, Hh33, Gg33⟩ := id V31
  have hin33 : ¬ ((10 : Int32) < 0 ∨ cl33.slots.size ≤ ((10 : Int32)).toNatClampNeg) := inb_of Sz33 ⟨by decide, by decide⟩
  obtain ⟨T34, h34, X34, e34, W34, st34⟩ := stR X32 hx hZ e32 Ar33 (j := (10 : Int32)) hin33 rfl (Sto.ofV Ar33 qk33 Ov1 (Ins.self ((hE (10 : Int32) (Or.inr (Or.inr (Or.inr (Or.inr (Or.inr (Or.inr (Or.inr (Or.inr (Or.inr (Or.inr (Or.inl rfl)))))))))))).ext O31.2))) (g := (mkF mm 75 #[.val (.int p0), .unset, .unset, .unset] [(.ref (A (10 : Int32))), (.int (10 : Int32)), (.ref b1), (.ref b1)])) rfl rfl (hb hby at_75)
  have V34 : Arv Z h34 b1 k1 (.object "com/example/safe_node_calls/safenodecalls/ic/candid/CandidType$Kind") (25 : Int32) [(.ref (A (0 : Int32))), (.ref (A (1 : Int32))), (.ref (A (2 : Int32))), (.ref (A (3 : Int32))), (.ref (A (4 : Int32))), (.ref (A (5 : Int32))), (.ref (A (6 : Int32))), (.ref (A (7 : Int32))), (.ref (A (8 : Int32))), (.ref (A (9 : Int32))), (.ref (A (10 : Int32))), .null, .null, .null, .null, .null, .null, .null, .null, .null, .null, .null, .null, .null, .null] .null := Arv.set Ar33 qk33 Sz33 Nn33 Hh33 Gg33 rfl W34 10 rfl (Nat.le_of_ble_eq_true rfl)
  have N34 := Fr.snoc X34 N31 g_b1
  have O34 := O31.wr W34 g_b1
  have KK34 := KK31.wr W34 (Or.inr sz_b1)
  obtain ⟨T35, X35, e35, st35⟩ := getS2 X34 hx hZ hown (host := "") (Or.inl (hw _ (List.mem_of_getElem? (i := 26) rfl))) Via.refl e34 (S_INT64.ext O34.2) (g := (mkF mm 79 #[.val (.int p0), .unset, .unset, .unset] [(.int (11 : Int32)), (.ref b1), (.ref b1)])) rfl (hb hby at_79)
  obtain ⟨cl36, Ar36, qk36, Sz36, Nn36, Hh36, Gg36⟩ := id V34
  have hin36 : ¬ ((11 : Int32) < 0 ∨ cl36.slots.size ≤ ((11 : Int32)).toNatClampNeg) := inb_of Sz36 ⟨by decide, by decide⟩
  obtain ⟨T37, h37, X37, e37, W37, st37⟩ := stR X35 hx hZ e35 Ar36 (j := (11 : Int32)) hin36 rfl (Sto.ofV Ar36 qk36 Ov1 (Ins.self ((hE (11 : Int32) (Or.inr (Or.inr (Or.inr (Or.inr (Or.inr (Or.inr (Or.inr (Or.inr (Or.inr (Or.inr (Or.inr (Or.inl rfl))))))))))))).ext O34.2))) (g := (mkF mm 82 #[.val (.int p0), .unset, .unset, .unset] [(.ref (A (11 : Int32))), (.int (11 : Int32)), (.ref b1), (.ref b1)])) rfl rfl (hb hby at_82)
  have V37 : Arv Z h37 b1 k1 (.object "com/example/safe_node_calls/safenodecalls/ic/candid/CandidType$Kind") (25 : Int32) [(.ref (A (0 : Int32))), (.ref (A (1 : Int32))), (.ref (A (2 : Int32))), (.ref (A (3 : Int32))), (.ref (A (4 : Int32))), (.ref (A (5 : Int32))), (.ref (A (6 : Int32))), (.ref (A (7 : Int32))), (.ref (A (8 : Int32))), (.ref (A (9 : Int32))), (.ref (A (10 : Int32))), (.ref (A (11 : Int32))), .null, .null, .null, .null, .null, .null, .null, .null, .null, .null, .null, .null, .null] .null := Arv.set Ar36 qk36 Sz36 Nn36 Hh36 Gg36 rfl W37 11 rfl (Nat.le_of_ble_eq_true rfl)
  have N37 := Fr.snoc X37 N34 g_b1
  have O37 := O34.wr W37 g_b1
  have KK37 := KK34.wr W37 (Or.inr sz_b1)
  obtain ⟨T38, X38, e38, st38⟩ := getS2 X37 hx hZ hown (host := "") (Or.inl (hw _ (List.mem_of_getElem? (i := 28) rfl))) Via.refl e37 (S_FLOAT32.ext O37.2) (g := (mkF mm 86 #[.val (.int p0), .unset, .unset, .unset] [(.int (12 : Int32)), (.ref b1), (.ref b1)])) rfl (hb hby at_86)
  obtain ⟨cl39, Ar39, qk39, Sz39, Nn39, Hh39, Gg39⟩ := id V37
  have hin39 : ¬ ((12 : Int32) < 0 ∨ cl39.slots.size ≤ ((12 : Int32)).toNatClampNeg) := inb_of Sz39 ⟨by decide, by decide⟩
  obtain ⟨T40, h40, X40, e40, W40, st40⟩ := stR X38 hx hZ e38 Ar39 (j := (12 : Int32)) hin39 rfl (Sto.ofV Ar39 qk39 Ov1 (Ins.self ((hE (12 : Int32) (Or.inr (Or.inr (Or.inr (Or.inr (Or.inr (Or.inr (Or.inr (Or.inr (Or.inr (Or.inr (Or.inr (Or.inr (Or.inl rfl)))))))))))))).ext O37.2))) (g := (mkF mm 89 #[.val (.int p0), .unset, .unset, .unset] [(.ref (A (12 : Int32))), (.int (12 : Int32)), (.ref b1), (.ref b1)])) rfl rfl (hb hby at_89)
  have V40 : Arv Z h40 b1 k1 (.object "com/example/safe_node_calls/safenodecalls/ic/candid/CandidType$Kind") (25 : Int32) [(.ref (A (0 : Int32))), (.ref (A (1 : Int32))), (.ref (A (2 : Int32))), (.ref (A (3 : Int32))), (.ref (A (4 : Int32))), (.ref (A (5 : Int32))), (.ref (A (6 : Int32))), (.ref (A (7 : Int32))), (.ref (A (8 : Int32))), (.ref (A (9 : Int32))), (.ref (A (10 : Int32))), (.ref (A (11 : Int32))), (.ref (A (12 : Int32))), .null, .null, .null, .null, .null, .null, .null, .null, .null, .null, .null, .null] .null := Arv.set Ar39 qk39 Sz39 Nn39 Hh39 Gg39 rfl W40 12 rfl (Nat.le_of_ble_eq_true rfl)
  have N40 := Fr.snoc X40 N37 g_b1
  have O40 := O37.wr W40 g_b1
  have KK40 := KK37.wr W40 (Or.inr sz_b1)
  obtain ⟨T41, X41, e41, st41⟩ := getS2 X40 hx hZ hown (host := "") (Or.inl (hw _ (List.mem_of_getElem? (i := 30) rfl))) Via.refl e40 (S_FLOAT64.ext O40.2) (g := (mkF mm 93 #[.val (.int p0), .unset, .unset, .unset] [(.int (13 : Int32)), (.ref b1), (.ref b1)])) rfl (hb hby at_93)
  obtain ⟨cl42, Ar42, qk42, Sz42, Nn42, Hh42, Gg42⟩ := id V40
  have hin42 : ¬ ((13 : Int32) < 0 ∨ cl42.slots.size ≤ ((13 : Int32)).toNatClampNeg) := inb_of Sz42 ⟨by decide, by decide⟩
  obtain ⟨T43, h43, X43, e43, W43, st43⟩ := stR X41 hx hZ e41 Ar42 (j := (13 : Int32)) hin42 rfl (Sto.ofV Ar42 qk42 Ov1 (Ins.self ((hE (13 : Int32) (Or.inr (Or.inr (Or.inr (Or.inr (Or.inr (Or.inr (Or.inr (Or.inr (Or.inr (Or.inr (Or.inr (Or.inr (Or.inr (Or.inl rfl))))))))))))))).ext O40.2))) (g := (mkF mm 96 #[.val (.int p0), .unset, .unset, .unset] [(.ref (A (13 : Int32))), (.int (13 : Int32)), (.ref b1), (.ref b1)])) rfl rfl (hb hby at_96)
  have V43 : Arv Z h43 b1 k1 (.object "com/example/safe_node_calls/safenodecalls/ic/candid/CandidType$Kind") (25 : Int32) [(.ref (A (0 : Int32))), (.ref (A (1 : Int32))), (.ref (A (2 : Int32))), (.ref (A (3 : Int32))), (.ref (A (4 : Int32))), (.ref (A (5 : Int32))), (.ref (A (6 : Int32))), (.ref (A (7 : Int32))), (.ref (A (8 : Int32))), (.ref (A (9 : Int32))), (.ref (A (10 : Int32))), (.ref (A (11 : Int32))), (.ref (A (12 : Int32))), (.ref (A (13 : Int32))), .null, .null, .null, .null, .null, .null, .null, .null, .null, .null, .null] .null := Arv.set Ar42 qk42 Sz42 Nn42 Hh42 Gg42 rfl W43 13 rfl (Nat.le_of_ble_eq_true rfl)
  have N43 := Fr.snoc X43 N40 g_b1
  have O43 := O40.wr W43 g_b1
  have KK43 := KK40.wr W43 (Or.inr sz_b1)
  obtain ⟨T44, X44, e44, st44⟩ := getS2 X43 hx hZ hown (host := "") (Or.inl (hw _ (List.mem_of_getElem? (i := 32) rfl))) Via.refl e43 (S_TEXT.ext O43.2) (g := (mkF mm 100 #[.val (.int p0), .unset, .unset, .unset] [(.int (14 : Int32)), (.ref b1), (.ref b1)])) rfl (hb hby at_100)
  obtain ⟨cl45, Ar45, qk45, Sz45, Nn45, Hh45, Gg45⟩ := id V43
  have hin45 : ¬ ((14 : Int32) < 0 ∨ cl45.slots.size ≤ ((14 : Int32)).toNatClampNeg) := inb_of Sz45 ⟨by decide, by decide⟩
  obtain ⟨T46, h46, X46, e46, W46, st46⟩ := stR X44 hx hZ e44 Ar45 (j := (14 : Int32)) hin45 rfl (Sto.ofV Ar45 qk45 Ov1 (Ins.self ((hE (14 : Int32) (Or.inr (Or.inr (Or.inr (Or.inr (Or.inr (Or.inr (Or.inr (Or.inr (Or.inr (Or.inr (Or.inr (Or.inr (Or.inr (Or.inr (Or.inl rfl)))))))))))))))).ext O43.2))) (g := (mkF mm 103 #[.val (.int p0), .unset, .unset, .unset] [(.ref (A (14 : Int32))), (.int (14 : Int32)), (.ref b1), (.ref b1)])) rfl rfl (hb hby at_103)
  have V46 : Arv Z h46 b1 k1 (.object "com/example/safe_node_calls/safenodecalls/ic/candid/CandidType$Kind") (25 : Int32) [(.ref (A (0 : Int32))), (.ref (A (1 : Int32))), (.ref (A (2 : Int32))), (.ref (A (3 : Int32))), (.ref (A (4 : Int32))), (.ref (A (5 : Int32))), (.ref (A (6 : Int32))), (.ref (A (7 : Int32))), (.ref (A (8 : Int32))), (.ref (A (9 : Int32))), (.ref (A (10 : Int32))), (.ref (A (11 : Int32))), (.ref (A (12 : Int32))), (.ref (A (13 : Int32))), (.ref (A (14 : Int32))), .null, .null, .null, .null, .null, .null, .null, .null, .null, .null] .null := Arv.set Ar45 qk45 Sz45 Nn45 Hh45 Gg45 rfl W46 14 rfl (Nat.le_of_ble_eq_true rfl)
  have N46 := Fr.snoc X46 N43 g_b1
  have O46 := O43.wr W46 g_b1
  have KK46 := KK43.wr W46 (Or.inr sz_b1)
  obtain ⟨T47, X47, e47, st47⟩ := getS2 X46 hx hZ hown (host := "") (Or.inl (hw _ (List.mem_of_getElem? (i := 34) rfl))) Via.refl e46 (S_RESERVED.ext O46.2) (g := (mkF mm 107 #[.val (.int p0), .unset, .unset, .unset] [(.int (15 : Int32)), (.ref b1), (.ref b1)])) rfl (hb hby at_107)
  obtain ⟨cl48, Ar48, qk48, Sz48, Nn48, Hh48, Gg48⟩ := id V46
  have hin48 : ¬ ((15 : Int32) < 0 ∨ cl48.slots.size ≤ ((15 : Int32)).toNatClampNeg) := inb_of Sz48 ⟨by decide, by decide⟩
  obtain ⟨T49, h49, X49, e49, W49, st49⟩ := stR X47 hx hZ e47 Ar48 (j := (15 : Int32)) hin48 rfl (Sto.ofV Ar48 qk48 Ov1 (Ins.self ((hE (15 : Int32) (Or.inr (Or.inr (Or.inr (Or.inr (Or.inr (Or.inr (Or.inr (Or.inr (Or.inr (Or.inr (Or.inr (Or.inr (Or.inr (Or.inr (Or.inr (Or.inl rfl))))))))))))))))).ext O46.2))) (g := (mkF mm 110 #[.val (.int p0), .unset, .unset, .unset] [(.ref (A (15 : Int32))), (.int (15 : Int32)), (.ref b1), (.ref b1)])) rfl rfl (hb hby at_110)
  have V49 : Arv Z h49 b1 k1 (.object "com/example/safe_node_calls/safenodecalls/ic/candid/CandidType$Kind") (25 : Int32) [(.ref (A (0 : Int32))), (.ref (A (1 : Int32))), (.ref (A (2 : Int32))), (.ref (A (3 : Int32))), (.ref (A (4 : Int32))), (.ref (A (5 : Int32))), (.ref (A (6 : Int32))), (.ref (A (7 : Int32))), (.ref (A (8 : Int32))), (.ref (A (9 : Int32))), (.ref (A (10 : Int32))), (.ref (A (11 : Int32))), (.ref (A (12 : Int32))), (.ref (A (13 : Int32))), (.ref (A (14 : Int32))), (.ref (A (15 : Int32))), .null, .null, .null, .null, .null, .null, .null, .null, .null] .null := Arv.set Ar48 qk48 Sz48 Nn48 Hh48 Gg48 rfl W49 15 rfl (Nat.le_of_ble_eq_true rfl)
  have N49 := Fr.snoc X49 N46 g_b1
  have O49 := O46.wr W49 g_b1
  have KK49 := KK46.wr W49 (Or.inr sz_b1)
  obtain ⟨T50, X50, e50, st50⟩ := getS2 X49 hx hZ hown (host := "") (Or.inl (hw _ (List.mem_of_getElem? (i := 36) rfl))) Via.refl e49 (S_EMPTY.ext O49.2) (g := (mkF mm 114 #[.val (.int p0), .unset, .unset, .unset] [(.int (16 : Int32)), (.ref b1), (.ref b1)])) rfl (hb hby at_114)
  obtain ⟨cl51, Ar51, qk51, Sz51, Nn51, Hh51, Gg51⟩ := id V49
  have hin51 : ¬ ((16 : Int32) < 0 ∨ cl51.slots.size ≤ ((16 : Int32)).toNatClampNeg) := inb_of Sz51 ⟨by decide, by decide⟩
  obtain ⟨T52, h52, X52, e52, W52, st52⟩ := stR X50 hx hZ e50 Ar51 (j := (16 : Int32)) hin51 rfl (Sto.ofV Ar51 qk51 Ov1 (Ins.self ((hE (16 : Int32) (Or.inr (Or.inr (Or.inr (Or.inr (Or.inr (Or.inr (Or.inr (Or.inr (Or.inr (Or.inr (Or.inr (Or.inr (Or.inr (Or.inr (Or.inr (Or.inr (Or.inl rfl)))))))))))))))))).ext O49.2))) (g := (mkF mm 117 #[.val (.int p0), .unset, .unset, .unset] [(.ref (A (16 : Int32))), (.int (16 : Int32)), (.ref b1), (.ref b1)])) rfl rfl (hb hby at_117)
  have V52 : Arv Z h52 b1 k1 (.object "com/example/safe_node_calls/safenodecalls/ic/candid/CandidType$Kind") (25 : Int32) [(.ref (A (0 : Int32))), (.ref (A (1 : Int32))), (.ref (A (2 : Int32))), (.ref (A (3 : Int32))), (.ref (A (4 : Int32))), (.ref (A (5 : Int32))), (.ref (A (6 : Int32))), (.ref (A (7 : Int32))), (.ref (A (8 : Int32))), (.ref (A (9 : Int32))), (.ref (A (10 : Int32))), (.ref (A (11 : Int32))), (.ref (A (12 : Int32))), (.ref (A (13 : Int32))), (.ref (A (14 : Int32))), (.ref (A (15 : Int32))), (.ref (A (16 : Int32))), .null, .null, .null, .null, .null, .null, .null, .null] .null := Arv.set Ar51 qk51 Sz51 Nn51 Hh51 Gg51 rfl W52 16 rfl (Nat.le_of_ble_eq_true rfl)
  have N52 := Fr.snoc X52 N49 g_b1
  have O52 := O49.wr W52 g_b1
  have KK52 := KK49.wr W52 (Or.inr sz_b1)
  obtain ⟨T53, X53, e53, st53⟩ := getS2 X52 hx hZ hown (host := "") (Or.inl (hw _ (List.mem_of_getElem? (i := 38) rfl))) Via.refl e52 (S_OPT.ext O52.2) (g := (mkF mm 121 #[.val (.int p0), .unset, .unset, .unset] [(.int (17 : Int32)), (.ref b1), (.ref b1)])) rfl (hb hby at_121)
  obtain ⟨cl54, Ar54, qk54, Sz54, Nn54, Hh54, Gg54⟩ := id V52
  have hin54 : ¬ ((17 : Int32) < 0 ∨ cl54.slots.size ≤ ((17 : Int32)).toNatClampNeg) := inb_of Sz54 ⟨by decide, by decide⟩
  obtain ⟨T55, h55, X55, e55, W55, st55⟩ := stR X53 hx hZ e53 Ar54 (j := (17 : Int32)) hin54 rfl (Sto.ofV Ar54 qk54 Ov1 (Ins.self ((hE (17 : Int32) (Or.inr (Or.inr (Or.inr (Or.inr (Or.inr (Or.inr (Or.inr (Or.inr (Or.inr (Or.inr (Or.inr (Or.inr (Or.inr (Or.inr (Or.inr (Or.inr (Or.inr (Or.inl rfl))))))))))))))))))).ext O52.2))) (g := (mkF mm 124 #[.val (.int p0), .unset, .unset, .unset] [(.ref (A (17 : Int32))), (.int (17 : Int32)), (.ref b1), (.ref b1)])) rfl rfl (hb hby at_124)
  have V55 : Arv Z h55 b1 k1 (.object "com/example/safe_node_calls/safenodecalls/ic/candid/CandidType$Kind") (25 : Int32) [(.ref (A (0 : Int32))), (.ref (A (1 : Int32))), (.ref (A (2 : Int32))), (.ref (A (3 : Int32))), (.ref (A (4 : Int32))), (.ref (A (5 : Int32))), (.ref (A (6 : Int32))), (.ref (A (7 : Int32))), (.ref (A (8 : Int32))), (.ref (A (9 : Int32))), (.ref (A (10 : Int32))), (.ref (A (11 : Int32))), (.ref (A (12 : Int32))), (.ref (A (13 : Int32))), (.ref (A (14 : Int32))), (.ref (A (15 : Int32))), (.ref (A (16 : Int32))), (.ref (A (17 : Int32))), .null, .null, .null, .null, .null, .null, .null] .null := Arv.set Ar54 qk54 Sz54 Nn54 Hh54 Gg54 rfl W55 17 rfl (Nat.le_of_ble_eq_true rfl)
  have N55 := Fr.snoc X55 N52 g_b1
  have O55 := O52.wr W55 g_b1
  have KK55 := KK52.wr W55 (Or.inr sz_b1)
  obtain ⟨T56, X56, e56, st56⟩ := getS2 X55 hx hZ hown (host := "") (Or.inl (hw _ (List.mem_of_getElem? (i := 40) rfl))) Via.refl e55 (S_VEC.ext O55.2) (g := (mkF mm 128 #[.val (.int p0), .unset, .unset, .unset] [(.int (18 : Int32)), (.ref b1), (.ref b1)])) rfl (hb hby at_128)
  obtain ⟨cl57, Ar57, qk57, Sz57, Nn57, Hh57, Gg57⟩ := id V55
  have hin57 : ¬ ((18 : Int32) < 0 ∨ cl57.slots.size ≤ ((18 : Int32)).toNatClampNeg) := inb_of Sz57 ⟨by decide, by decide⟩
  obtain ⟨T58, h58, X58, e58, W58, st58⟩ := stR X56 hx hZ e56 Ar57 (j := (18 : Int32)) hin57 rfl (Sto.ofV Ar57 qk57 Ov1 (Ins.self ((hE (18 : Int32) (Or.inr (Or.inr (Or.inr (Or.inr (Or.inr (Or.inr (Or.inr (Or.inr (Or.inr (Or.inr (Or.inr (Or.inr (Or.inr (Or.inr (Or.inr (Or.inr (Or.inr (Or.inr (Or.inl rfl)))))))))))))))))))).ext O55.2))) (g := (mkF mm 131 #[.val (.int p0), .unset, .unset, .unset] [(.ref (A (18 : Int32))), (.int (18 : Int32)), (.ref b1), (.ref b1)])) rfl rfl (hb hby at_131)
  have V58 : Arv Z h58 b1 k1 (.object "com/example/safe_node_calls/safenodecalls/ic/candid/CandidType$Kind") (25 : Int32) [(.ref (A (0 : Int32))), (.ref (A (1 : Int32))), (.ref (A (2 : Int32))), (.ref (A (3 : Int32))), (.ref (A (4 : Int32))), (.ref (A (5 : Int32))), (.ref (A (6 : Int32))), (.ref (A (7 : Int32))), (.ref (A (8 : Int32))), (.ref (A (9 : Int32))), (.ref (A (10 : Int32))), (.ref (A (11 : Int32))), (.ref (A (12 : Int32))), (.ref (A (13 : Int32))), (.ref (A (14 : Int32))), (.ref (A (15 : Int32))), (.ref (A (16 : Int32))), (.ref (A (17 : Int32))), (.ref (A (18 : Int32))), .null, .null, .null, .null, .null, .null] .null := Arv.set Ar57 qk57 Sz57 Nn57 Hh57 Gg57 rfl W58 18 rfl (Nat.le_of_ble_eq_true rfl)
  have N58 := Fr.snoc X58 N55 g_b1
  have O58 := O55.wr W58 g_b1
  have KK58 := KK55.wr W58 (Or.inr sz_b1)
  obtain ⟨T59, X59, e59, st59⟩ := getS2 X58 hx hZ hown (host := "") (Or.inl (hw _ (List.mem_of_getElem? (i := 42) rfl))) Via.refl e58 (S_RECORD.ext O58.2) (g := (mkF mm 135 #[.val (.int p0), .unset, .unset, .unset] [(.int (19 : Int32)), (.ref b1), (.ref b1)])) rfl (hb hby at_135)
  obtain ⟨cl60, Ar60, qk60, Sz60, Nn60, Hh60, Gg60⟩ := id V58
  have hin60 : ¬ ((19 : Int32) < 0 ∨ cl60.slots.size ≤ ((19 : Int32)).toNatClampNeg) := inb_of Sz60 ⟨by decide, by decide⟩
  obtain ⟨T61, h61, X61, e61, W61, st61⟩ := stR X59 hx hZ e59 Ar60 (j := (19 : Int32)) hin60 rfl (Sto.ofV Ar60 qk60 Ov1 (Ins.self ((hE (19 : Int32) (Or.inr (Or.inr (Or.inr (Or.inr (Or.inr (Or.inr (Or.inr (Or.inr (Or.inr (Or.inr (Or.inr (Or.inr (Or.inr (Or.inr (Or.inr (Or.inr (Or.inr (Or.inr (Or.inr (Or.inl rfl))))))))))))))))))))).ext O58.2))) (g := (mkF mm 138 #[.val (.int p0), .unset, .unset, .unset] [(.ref (A (19 : Int32))), (.int (19 : Int32)), (.ref b1), (.ref b1)])) rfl rfl (hb hby at_138)
  have V61 : Arv Z h61 b1 k1 (.object "com/example/safe_node_calls/safenodecalls/ic/candid/CandidType$Kind") (25 : Int32) [(.ref (A (0 : Int32))), (.ref (A (1 : Int32))), (.ref (A (2 : Int32))), (.ref (A (3 : Int32))), (.ref (A (4 : Int32))), (.ref (A (5 : Int32))), (.ref (A (6 : Int32))), (.ref (A (7 : Int32))), (.ref (A (8 : Int32))), (.ref (A (9 : Int32))), (.ref (A (10 : Int32))), (.ref (A (11 : Int32))), (.ref (A (12 : Int32))), (.ref (A (13 : Int32))), (.ref (A (14 : Int32))), (.ref (A (15 : Int32))), (.ref (A (16 : Int32))), (.ref (A (17 : Int32))), (.ref (A (18 : Int32))), (.ref (A (19 : Int32))), .null, .null, .null, .null, .null] .null := Arv.set Ar60 qk60 Sz60 Nn60 Hh60 Gg60 rfl W61 19 rfl (Nat.le_of_ble_eq_true rfl)
  have N61 := Fr.snoc X61 N58 g_b1
  have O61 := O58.wr W61 g_b1
  have KK61 := KK58.wr W61 (Or.inr sz_b1)
  obtain ⟨T62, X62, e62, st62⟩ := getS2 X61 hx hZ hown (host := "") (Or.inl (hw _ (List.mem_of_getElem? (i := 44) rfl))) Via.refl e61 (S_VARIANT.ext O61.2) (g := (mkF mm 142 #[.val (.int p0), .unset, .unset, .unset] [(.int (20 : Int32)), (.ref b1), (.ref b1)])) rfl (hb hby at_142)
  obtain ⟨cl63, Ar63, qk63, Sz63, Nn63, Hh63, Gg63⟩ := id V61
  have hin63 : ¬ ((20 : Int32) < 0 ∨ cl63.slots.size ≤ ((20 : Int32)).toNatClampNeg) := inb_of Sz63 ⟨by decide, by decide⟩
  obtain ⟨T64, h64, X64, e64, W64, st64⟩ := stR X62 hx hZ e62 Ar63 (j := (20 : Int32)) hin63 rfl (Sto.ofV Ar63 qk63 Ov1 (Ins.self ((hE (20 : Int32) (Or.inr (Or.inr (Or.inr (Or.inr (Or.inr (Or.inr (Or.inr (Or.inr (Or.inr (Or.inr (Or.inr (Or.inr (Or.inr (Or.inr (Or.inr (Or.inr (Or.inr (Or.inr (Or.inr (Or.inr (Or.inl rfl)))))))))))))))))))))).ext O61.2))) (g := (mkF mm 145 #[.val (.int p0), .unset, .unset, .unset] [(.ref (A (20 : Int32))), (.int (20 : Int32)), (.ref b1), (.ref b1)])) rfl rfl (hb hby at_145)
  have V64 : Arv Z h64 b1 k1 (.object "com/example/safe_node_calls/safenodecalls/ic/candid/CandidType$Kind") (25 : Int32) [(.ref (A (0 : Int32))), (.ref (A (1 : Int32))), (.ref (A (2 : Int32))), (.ref (A (3 : Int32))), (.ref (A (4 : Int32))), (.ref (A (5 : Int32))), (.ref (A (6 : Int32))), (.ref (A (7 : Int32))), (.ref (A (8 : Int32))), (.ref (A (9 : Int32))), (.ref (A (10 : Int32))), (.ref (A (11 : Int32))), (.ref (A (12 : Int32))), (.ref (A (13 : Int32))), (.ref (A (14 : Int32))), (.ref (A (15 : Int32))), (.ref (A (16 : Int32))), (.ref (A (17 : Int32))), (.ref (A (18 : Int32))), (.ref (A (19 : Int32))), (.ref (A (20 : Int32))), .null, .null, .null, .null] .null := Arv.set Ar63 qk63 Sz63 Nn63 Hh63 Gg63 rfl W64 20 rfl (Nat.le_of_ble_eq_true rfl)
  have N64 := Fr.snoc X64 N61 g_b1
  have O64 := O61.wr W64 g_b1
  have KK64 := KK61.wr W64 (Or.inr sz_b1)
  obtain ⟨T65, X65, e65, st65⟩ := getS2 X64 hx hZ hown (host := "") (Or.inl (hw _ (List.mem_of_getElem? (i := 46) rfl))) Via.refl e64 (S_FUNC.ext O64.2) (g := (mkF mm 149 #[.val (.int p0), .unset, .unset, .unset] [(.int (21 : Int32)), (.ref b1), (.ref b1)])) rfl (hb hby at_149)
  obtain ⟨cl66, Ar66, qk66, Sz66, Nn66, Hh66, Gg66⟩ := id V64
  have hin66 : ¬ ((21 : Int32) < 0 ∨ cl66.slots.size ≤ ((21 : Int32)).toNatClampNeg) := inb_of Sz66 ⟨by decide, by decide⟩
  obtain ⟨T67, h67, X67, e67, W67, st67⟩ := stR X65 hx hZ e65 Ar66 (j := (21 : Int32)) hin66 rfl (Sto.ofV Ar66 qk66 Ov1 (Ins.self ((hE (21 : Int32) (Or.inr (Or.inr (Or.inr (Or.inr (Or.inr (Or.inr (Or.inr (Or.inr (Or.inr (Or.inr (Or.inr (Or.inr (Or.inr (Or.inr (Or.inr (Or.inr (Or.inr (Or.inr (Or.inr (Or.inr (Or.inr (Or.inl rfl))))))))))))))))))))))).ext O64.2))) (g := (mkF mm 152 #[.val (.int p0), .unset, .unset, .unset] [(.ref (A (21 : Int32))), (.int (21 : Int32)), (.ref b1), (.ref b1)])) rfl rfl (hb hby at_152)
  have V67 : Arv Z h67 b1 k1 (.object "com/example/safe_node_calls/safenodecalls/ic/candid/CandidType$Kind") (25 : Int32) [(.ref (A (0 : Int32))), (.ref (A (1 : Int32))), (.ref (A (2 : Int32))), (.ref (A (3 : Int32))), (.ref (A (4 : Int32))), (.ref (A (5 : Int32))), (.ref (A (6 : Int32))), (.ref (A (7 : Int32))), (.ref (A (8 : Int32))), (.ref (A (9 : Int32))), (.ref (A (10 : Int32))), (.ref (A (11 : Int32))), (.ref (A (12 : Int32))), (.ref (A (13 : Int32))), (.ref (A (14 : Int32))), (.ref (A (15 : Int32))), (.ref (A (16 : Int32))), (.ref (A (17 : Int32))), (.ref (A (18 : Int32))), (.ref (A (19 : Int32))), (.ref (A (20 : Int32))), (.ref (A (21 : Int32))), .null, .null, .null] .null := Arv.set Ar66 qk66 Sz66 Nn66 Hh66 Gg66 rfl W67 21 rfl (Nat.le_of_ble_eq_true rfl)
  have N67 := Fr.snoc X67 N64 g_b1
  have O67 := O64.wr W67 g_b1
  have KK67 := KK64.wr W67 (Or.inr sz_b1)
  obtain ⟨T68, X68, e68, st68⟩ := getS2 X67 hx hZ hown (host := "") (Or.inl (hw _ (List.mem_of_getElem? (i := 48) rfl))) Via.refl e67 (S_SERVICE.ext O67.2) (g := (mkF mm 156 #[.val (.int p0), .unset, .unset, .unset] [(.int (22 : Int32)), (.ref b1), (.ref b1)])) rfl (hb hby at_156)
  obtain ⟨cl69, Ar69, qk69, Sz69, Nn69, Hh69, Gg69⟩ := id V67
  have hin69 : ¬ ((22 : Int32) < 0 ∨ cl69.slots.size ≤ ((22 : Int32)).toNatClampNeg) := inb_of Sz69 ⟨by decide, by decide⟩
  obtain ⟨T70, h70, X70, e70, W70, st70⟩ := stR X68 hx hZ e68 Ar69 (j := (22 : Int32)) hin69 rfl (Sto.ofV Ar69 qk69 Ov1 (Ins.self ((hE (22 : Int32) (Or.inr (Or.inr (Or.inr (Or.inr (Or.inr (Or.inr (Or.inr (Or.inr (Or.inr (Or.inr (Or.inr (Or.inr (Or.inr (Or.inr (Or.inr (Or.inr (Or.inr (Or.inr (Or.inr (Or.inr (Or.inr (Or.inr (Or.inl rfl)))))))))))))))))))))))).ext O67.2))) (g := (mkF mm 159 #[.val (.int p0), .unset, .unset, .unset] [(.ref (A (22 : Int32))), (.int (22 : Int32)), (.ref b1), (.ref b1)])) rfl rfl (hb hby at_159)
  have V70 : Arv Z h70 b1 k1 (.object "com/example/safe_node_calls/safenodecalls/ic/candid/CandidType$Kind") (25 : Int32) [(.ref (A (0 : Int32))), (.ref (A (1 : Int32))), (.ref (A (2 : Int32))), (.ref (A (3 : Int32))), (.ref (A (4 : Int32))), (.ref (A (5 : Int32))), (.ref (A (6 : Int32))), (.ref (A (7 : Int32))), (.ref (A (8 : Int32))), (.ref (A (9 : Int32))), (.ref (A (10 : Int32))), (.ref (A (11 : Int32))), (.ref (A (12 : Int32))), (.ref (A (13 : Int32))), (.ref (A (14 : Int32))), (.ref (A (15 : Int32))), (.ref (A (16 : Int32))), (.ref (A (17 : Int32))), (.ref (A (18 : Int32))), (.ref (A (19 : Int32))), (.ref (A (20 : Int32))), (.ref (A (21 : Int32))), (.ref (A (22 : Int32))), .null, .null] .null := Arv.set Ar69 qk69 Sz69 Nn69 Hh69 Gg69 rfl W70 22 rfl (Nat.le_of_ble_eq_true rfl)
  have N70 := Fr.snoc X70 N67 g_b1
  have O70 := O67.wr W70 g_b1
  have KK70 := KK67.wr W70 (Or.inr sz_b1)
  obtain ⟨T71, X71, e71, st71⟩ := getS2 X70 hx hZ hown (host := "") (Or.inl (hw _ (List.mem_of_getElem? (i := 50) rfl))) Via.refl e70 (S_PRINCIPAL.ext O70.2) (g := (mkF mm 163 #[.val (.int p0), .unset, .unset, .unset] [(.int (23 : Int32)), (.ref b1), (.ref b1)])) rfl (hb hby at_163)
  obtain ⟨cl72, Ar72, qk72, Sz72, Nn72, Hh72, Gg72⟩ := id V70
  have hin72 : ¬ ((23 : Int32) < 0 ∨ cl72.slots.size ≤ ((23 : Int32)).toNatClampNeg) := inb_of Sz72 ⟨by decide, by decide⟩
  obtain ⟨T73, h73, X73, e73, W73, st73⟩ := stR X71 hx hZ e71 Ar72 (j := (23 : Int32)) hin72 rfl (Sto.ofV Ar72 qk72 Ov1 (Ins.self ((hE (23 : Int32) (Or.inr (Or.inr (Or.inr (Or.inr (Or.inr (Or.inr (Or.inr (Or.inr (Or.inr (Or.inr (Or.inr (Or.inr (Or.inr (Or.inr (Or.inr (Or.inr (Or.inr (Or.inr (Or.inr (Or.inr (Or.inr (Or.inr (Or.inr (Or.inl rfl))))))))))))))))))))))))).ext O70.2))) (g := (mkF mm 166 #[.val (.int p0), .unset, .unset, .unset] [(.ref (A (23 : Int32))), (.int (23 : Int32)), (.ref b1), (.ref b1)])) rfl rfl (hb hby at_166)
  have V73 : Arv Z h73 b1 k1 (.object "com/example/safe_node_calls/safenodecalls/ic/candid/CandidType$Kind") (25 : Int32) [(.ref (A (0 : Int32))), (.ref (A (1 : Int32))), (.ref (A (2 : Int32))), (.ref (A (3 : Int32))), (.ref (A (4 : Int32))), (.ref (A (5 : Int32))), (.ref (A (6 : Int32))), (.ref (A (7 : Int32))), (.ref (A (8 : Int32))), (.ref (A (9 : Int32))), (.ref (A (10 : Int32))), (.ref (A (11 : Int32))), (.ref (A (12 : Int32))), (.ref (A (13 : Int32))), (.ref (A (14 : Int32))), (.ref (A (15 : Int32))), (.ref (A (16 : Int32))), (.ref (A (17 : Int32))), (.ref (A (18 : Int32))), (.ref (A (19 : Int32))), (.ref (A (20 : Int32))), (.ref (A (21 : Int32))), (.ref (A (22 : Int32))), (.ref (A (23 : Int32))), .null] .null := Arv.set Ar72 qk72 Sz72 Nn72 Hh72 Gg72 rfl W73 23 rfl (Nat.le_of_ble_eq_true rfl)
  have N73 := Fr.snoc X73 N70 g_b1
  have O73 := O70.wr W73 g_b1
  have KK73 := KK70.wr W73 (Or.inr sz_b1)
  obtain ⟨T74, X74, e74, st74⟩ := getS2 X73 hx hZ hown (host := "") (Or.inl (hw _ (List.mem_of_getElem? (i := 52) rfl))) Via.refl e73 (S_FUTURE.ext O73.2) (g := (mkF mm 170 #[.val (.int p0), .unset, .unset, .unset] [(.int (24 : Int32)), (.ref b1), (.ref b1)])) rfl (hb hby at_170)
  obtain ⟨cl75, Ar75, qk75, Sz75, Nn75, Hh75, Gg75⟩ := id V73
  have hin75 : ¬ ((24 : Int32) < 0 ∨ cl75.slots.size ≤ ((24 : Int32)).toNatClampNeg) := inb_of Sz75 ⟨by decide, by decide⟩
  obtain ⟨T76, h76, X76, e76, W76, st76⟩ := stR X74 hx hZ e74 Ar75 (j := (24 : Int32)) hin75 rfl (Sto.ofV Ar75 qk75 Ov1 (Ins.self ((hE (24 : Int32) (Or.inr (Or.inr (Or.inr (Or.inr (Or.inr (Or.inr (Or.inr (Or.inr (Or.inr (Or.inr (Or.inr (Or.inr (Or.inr (Or.inr (Or.inr (Or.inr (Or.inr (Or.inr (Or.inr (Or.inr (Or.inr (Or.inr (Or.inr (Or.inr (rfl)))))))))))))))))))))))))).ext O73.2))) (g := (mkF mm 173 #[.val (.int p0), .unset, .unset, .unset] [(.ref (A (24 : Int32))), (.int (24 : Int32)), (.ref b1), (.ref b1)])) rfl rfl (hb hby at_173)
  have V76 : Arv Z h76 b1 k1 (.object "com/example/safe_node_calls/safenodecalls/ic/candid/CandidType$Kind") (25 : Int32) [(.ref (A (0 : Int32))), (.ref (A (1 : Int32))), (.ref (A (2 : Int32))), (.ref (A (3 : Int32))), (.ref (A (4 : Int32))), (.ref (A (5 : Int32))), (.ref (A (6 : Int32))), (.ref (A (7 : Int32))), (.ref (A (8 : Int32))), (.ref (A (9 : Int32))), (.ref (A (10 : Int32))), (.ref (A (11 : Int32))), (.ref (A (12 : Int32))), (.ref (A (13 : Int32))), (.ref (A (14 : Int32))), (.ref (A (15 : Int32))), (.ref (A (16 : Int32))), (.ref (A (17 : Int32))), (.ref (A (18 : Int32))), (.ref (A (19 : Int32))), (.ref (A (20 : Int32))), (.ref (A (21 : Int32))), (.ref (A (22 : Int32))), (.ref (A (23 : Int32))), (.ref (A (24 : Int32)))] .null := Arv.set Ar75 qk75 Sz75 Nn75 Hh75 Gg75 rfl W76 24 rfl (Nat.le_of_ble_eq_true rfl)
  have N76 := Fr.snoc X76 N73 g_b1
  have O76 := O73.wr W76 g_b1
  have KK76 := KK73.wr W76 (Or.inr sz_b1)
  have pre77 : ∀ t, Steps pg.tables ee below (T76.setTop (mkF mm 186 #[.val (.int p0), .val (.ref b1), .val (.int ((p0 &&& (2147483647 : Int32)) % (25 : Int32))), .unset] [(.int (17 : Int32)), (.int ((p0 &&& (2147483647 : Int32)) % (25 : Int32)))])) t → Steps pg.tables ee below (s₁.setTop (entryFrame mm #[(.int p0)] maxLocals)) t := fun t k => pre0 t (by
      show Steps pg.tables ee below (s₁.setTop (mkF mm 0 #[.val (.int p0), .unset, .unset, .unset] [])) _
      refine XS.bipush X0.here hx rfl (hb hby at_0) ?_
      show Steps pg.tables ee below (s₁.setTop (mkF mm 2 #[.val (.int p0), .unset, .unset, .unset] [(.int (25 : Int32))])) _
      refine st1 _ ?_
      show Steps pg.tables ee below (T1.setTop (mkF mm 5 #[.val (.int p0), .unset, .unset, .unset] [(.ref b1)])) _
      refine XS.dup X1.here hx rfl (hb hby at_5) rfl rfl ?_
      show Steps pg.tables ee below (T1.setTop (mkF mm 6 #[.val (.int p0), .unset, .unset, .unset] [(.ref b1), (.ref b1)])) _
      refine XS.iconst X1.here hx rfl (hb hby at_6) ?_
      show Steps pg.tables ee below (T1.setTop (mkF mm 7 #[.val (.int p0), .unset, .unset, .unset] [(.int (0 : Int32)), (.ref b1), (.ref b1)])) _
      refine st2 _ ?_
      show Steps pg.tables ee below (T2.setTop (mkF mm 10 #[.val (.int p0), .unset, .unset, .unset] [(.ref (A (0 : Int32))), (.int (0 : Int32)), (.ref b1), (.ref b1)])) _
      refine st4 _ ?_
      show Steps pg.tables ee below (T4.setTop (mkF mm 11 #[.val (.int p0), .unset, .unset, .unset] [(.ref b1)])) _
      refine XS.dup X4.here hx rfl (hb hby at_11) rfl rfl ?_
      show Steps pg.tables ee below (T4.setTop (mkF mm 12 #[.val (.int p0), .unset, .unset, .unset] [(.ref b1), (.ref b1)])) _
      refine XS.iconst X4.here hx rfl (hb hby at_12) ?_
      show Steps pg.tables ee below (T4.setTop (mkF mm 13 #[.val (.int p0), .unset, .unset, .unset] [(.int (1 : Int32)), (.ref b1), (.ref b1)])) _
      refine st5 _ ?_
      show Steps pg.tables ee below (T5.setTop (mkF mm 16 #[.val (.int p0), .unset, .unset, .unset] [(.ref (A (1 : Int32))), (.int (1 : Int32)), (.ref b1), (.ref b1)])) _
      refine st7 _ ?_
      show Steps pg.tables ee below (T7.setTop (mkF mm 17 #[.val (.int p0), .unset, .unset, .unset] [(.ref b1)])) _
      refine XS.dup X7.here hx rfl (hb hby at_17) rfl rfl ?_
      show Steps pg.tables ee below (T7.setTop (mkF mm 18 #[.val (.int p0), .unset, .unset, .unset] [(.ref b1), (.ref b1)])) _
      refine XS.iconst X7.here hx rfl (hb hby at_18) ?_
      show Steps pg.tables ee below (T7.setTop (mkF mm 19 #[.val (.int p0), .unset, .unset, .unset] [(.int (2 : Int32)), (.ref b1), (.ref b1)])) _
      refine st8 _ ?_
      show Steps pg.tables ee below (T8.setTop (mkF mm 22 #[.val (.int p0), .unset, .unset, .unset] [(.ref (A (2 : Int32))), (.int (2 : Int32)), (.ref b1), (.ref b1)])) _
      refine st10 _ ?_
      show Steps pg.tables ee below (T10.setTop (mkF mm 23 #[.val (.int p0), .unset, .unset, .unset] [(.ref b1)])) _
      refine XS.dup X10.here hx rfl (hb hby at_23) rfl rfl ?_
      show Steps pg.tables ee below (T10.setTop (mkF mm 24 #[.val (.int p0), .unset, .unset, .unset] [(.ref b1), (.ref b1)])) _
      refine XS.iconst X10.here hx rfl (hb hby at_24) ?_
      show Steps pg.tables ee below (T10.setTop (mkF mm 25 #[.val (.int p0), .unset, .unset, .unset] [(.int (3 : Int32)), (.ref b1), (.ref b1)])) _
      refine st11 _ ?_
      show Steps pg.tables ee below (T11.setTop (mkF mm 28 #[.val (.int p0), .unset, .unset, .unset] [(.ref (A (3 : Int32))), (.int (3 : Int32)), (.ref b1), (.ref b1)])) _
      refine st13 _ ?_
      show Steps pg.tables ee below (T13.setTop (mkF mm 29 #[.val (.int p0), .unset, .unset, .unset] [(.ref b1)])) _
      refine XS.dup X13.here hx rfl (hb hby at_29) rfl rfl ?_
      show Steps pg.tables ee below (T13.setTop (mkF mm 30 #[.val (.int p0), .unset, .unset, .unset] [(.ref b1), (.ref b1)])) _
      refine XS.iconst X13.here hx rfl (hb hby at_30) ?_
      show Steps pg.tables ee below (T13.setTop (mkF mm 31 #[.val (.int p0), .unset, .unset, .unset] [(.int (4 : Int32)), (.ref b1), (.ref b1)])) _
      refine st14 _ ?_
      show Steps pg.tables ee below (T14.setTop (mkF mm 34 #[.val (.int p0), .unset, .unset, .unset] [(.ref (A (4 : Int32))), (.int (4 : Int32)), (.ref b1), (.ref b1)])) _
      refine st16 _ ?_
      show Steps pg.tables ee below (T16.setTop (mkF mm 35 #[.val (.int p0), .unset, .unset, .unset] [(.ref b1)])) _
      refine XS.dup X16.here hx rfl (hb hby at_35) rfl rfl ?_
      show Steps pg.tables ee below (T16.setTop (mkF mm 36 #[.val (.int p0), .unset, .unset, .unset] [(.ref b1), (.ref b1)])) _
      refine XS.iconst X16.here hx rfl (hb hby at_36) ?_
      show Steps pg.tables ee below (T16.setTop (mkF mm 37 #[.val (.int p0), .unset, .unset, .unset] [(.int (5 : Int32)), (.ref b1), (.ref b1)])) _
      refine st17 _ ?_
      show Steps pg.tables ee below (T17.setTop (mkF mm 40 #[.val (.int p0), .unset, .unset, .unset] [(.ref (A (5 : Int32))), (.int (5 : Int32)), (.ref b1), (.ref b1)])) _
      refine st19 _ ?_
      show Steps pg.tables ee below (T19.setTop (mkF mm 41 #[.val (.int p0), .unset, .unset, .unset] [(.ref b1)])) _
      refine XS.dup X19.here hx rfl (hb hby at_41) rfl rfl ?_
      show Steps pg.tables ee below (T19.setTop (mkF mm 42 #[.val (.int p0), .unset, .unset, .unset] [(.ref b1), (.ref b1)])) _
      refine XS.bipush X19.here hx rfl (hb hby at_42) ?_
      show Steps pg.tables ee below (T19.setTop (mkF mm 44 #[.val (.int p0), .unset, .unset, .unset] [(.int (6 : Int32)), (.ref b1), (.ref b1)])) _
      refine st20 _ ?_
      show Steps pg.tables ee below (T20.setTop (mkF mm 47 #[.val (.int p0), .unset, .unset, .unset] [(.ref (A (6 : Int32))), (.int (6 : Int32)), (.ref b1), (.ref b1)])) _
      refine st22 _ ?_
      show Steps pg.tables ee below (T22.setTop (mkF mm 48 #[.val (.int p0), .unset, .unset, .unset] [(.ref b1)])) _
      refine XS.dup X22.here hx rfl (hb hby at_48) rfl rfl ?_
      show Steps pg.tables ee below (T22.setTop (mkF mm 49 #[.val (.int p0), .unset, .unset, .unset] [(.ref b1), (.ref b1)])) _
      refine XS.bipush X22.here hx rfl (hb hby at_49) ?_
      show Steps pg.tables ee below (T22.setTop (mkF mm 51 #[.val (.int p0), .unset, .unset, .unset] [(.int (7 : Int32)), (.ref b1), (.ref b1)])) _
      refine st23 _ ?_
      show Steps pg.tables ee below (T23.setTop (mkF mm 54 #[.val (.int p0), .unset, .unset, .unset] [(.ref (A (7 : Int32))), (.int (7 : Int32)), (.ref b1), (.ref b1)])) _
      refine st25 _ ?_
      show Steps pg.tables ee below (T25.setTop (mkF mm 55 #[.val (.int p0), .unset, .unset, .unset] [(.ref b1)])) _
      refine XS.dup X25.here hx rfl (hb hby at_55) rfl rfl ?_
      show Steps pg.tables ee below (T25.setTop (mkF mm 56 #[.val (.int p0), .unset, .unset, .unset] [(.ref b1), (.ref b1)])) _
      refine XS.bipush X25.here hx rfl (hb hby at_56) ?_
      show Steps pg.tables ee below (T25.setTop (mkF mm 58 #[.val (.int p0), .unset, .unset, .unset] [(.int (8 : Int32)), (.ref b1), (.ref b1)])) _
      refine st26 _ ?_
      show Steps pg.tables ee below (T26.setTop (mkF mm 61 #[.val (.int p0), .unset, .unset, .unset] [(.ref (A (8 : Int32))), (.int (8 : Int32)), (.ref b1), (.ref b1)])) _
      refine st28 _ ?_
      show Steps pg.tables ee below (T28.setTop (mkF mm 62 #[.val (.int p0), .unset, .unset, .unset] [(.ref b1)])) _
      refine XS.dup X28.here hx rfl (hb hby at_62) rfl rfl ?_
      show Steps pg.tables ee below (T28.setTop (mkF mm 63 #[.val (.int p0), .unset, .unset, .unset] [(.ref b1), (.ref b1)])) _
      refine XS.bipush X28.here hx rfl (hb hby at_63) ?_
      show Steps pg.tables ee below (T28.setTop (mkF mm 65 #[.val (.int p0), .unset, .unset, .unset] [(.int (9 : Int32)), (.ref b1), (.ref b1)])) _
      refine st29 _ ?_
      show Steps pg.tables ee below (T29.setTop (mkF mm 68 #[.val (.int p0), .unset, .unset, .unset] [(.ref (A (9 : Int32))), (.int (9 : Int32)), (.ref b1), (.ref b1)])) _
      refine st31 _ ?_
      show Steps pg.tables ee below (T31.setTop (mkF mm 69 #[.val (.int p0), .unset, .unset, .unset] [(.ref b1)])) _
      refine XS.dup X31.here hx rfl (hb hby at_69) rfl rfl ?_
      show Steps pg.tables ee below (T31.setTop (mkF mm 70 #[.val (.int p0), .unset, .unset, .unset] [(.ref b1), (.ref b1)])) _
      refine XS.bipush X31.here hx rfl (hb hby at_70) ?_
      show Steps pg.tables ee below (T31.setTop (mkF mm 72 #[.val (.int p0), .unset, .unset, .unset] [(.int (10 : Int32)), (.ref b1), (.ref b1)])) _
      refine st32 _ ?_
      show Steps pg.tables ee below (T32.setTop (mkF mm 75 #[.val (.int p0), .unset, .unset, .unset] [(.ref (A (10 : Int32))), (.int (10 : Int32)), (.ref b1), (.ref b1)])) _
      refine st34 _ ?_
      show Steps pg.tables ee below (T34.setTop (mkF mm 76 #[.val (.int p0), .unset, .unset, .unset] [(.ref b1)])) _
      refine XS.dup X34.here hx rfl (hb hby at_76) rfl rfl ?_
      show Steps pg.tables ee below (T34.setTop (mkF mm 77 #[.val (.int p0), .unset, .unset, .unset] [(.ref b1), (.ref b1)])) _
      refine XS.bipush X34.here hx rfl (hb hby at_77) ?_
      show Steps pg.tables ee below (T34.setTop (mkF mm 79 #[.val (.int p0), .unset, .unset, .unset] [(.int (11 : Int32)), (.ref b1), (.ref b1)])) _
      refine st35 _ ?_
      show Steps pg.tables ee below (T35.setTop (mkF mm 82 #[.val (.int p0), .unset, .unset, .unset] [(.ref (A (11 : Int32))), (.int (11 : Int32)), (.ref b1), (.ref b1)])) _
      refine st37 _ ?_
      show Steps pg.tables ee below (T37.setTop (mkF mm 83 #[.val (.int p0), .unset, .unset, .unset] [(.ref b1)])) _
      refine XS.dup X37.here hx rfl (hb hby at_83) rfl rfl ?_
      show Steps pg.tables ee below (T37.setTop (mkF mm 84 #[.val (.int p0), .unset, .unset, .unset] [(.ref b1), (.ref b1)])) _
      refine XS.bipush X37.here hx rfl (hb hby at_84) ?_
      show Steps pg.tables ee below (T37.setTop (mkF mm 86 #[.val (.int p0), .unset, .unset, .unset] [(.int (12 : Int32)), (.ref b1), (.ref b1)])) _
      refine st38 _ ?_
      show Steps pg.tables ee below (T38.setTop (mkF mm 89 #[.val (.int p0), .unset, .unset, .unset] [(.ref (A (12 : Int32))), (.int (12 : Int32)), (.ref b1), (.ref b1)])) _
      refine st40 _ ?_
      show Steps pg.tables ee below (T40.setTop (mkF mm 90 #[.val (.int p0), .unset, .unset, .unset] [(.ref b1)])) _
      refine XS.dup X40.here hx rfl (hb hby at_90) rfl rfl ?_
      show Steps pg.tables ee below (T40.setTop (mkF mm 91 #[.val (.int p0), .unset, .unset, .unset] [(.ref b1), (.ref b1)])) _
      refine XS.bipush X40.here hx rfl (hb hby at_91) ?_
      show Steps pg.tables ee below (T40.setTop (mkF mm 93 #[.val (.int p0), .unset, .unset, .unset] [(.int (13 : Int32)), (.ref b1), (.ref b1)])) _
      refine st41 _ ?_
      show Steps pg.tables ee below (T41.setTop (mkF mm 96 #[.val (.int p0), .unset, .unset, .unset] [(.ref (A (13 : Int32))), (.int (13 : Int32)), (.ref b1), (.ref b1)])) _
      refine st43 _ ?_
      show Steps pg.tables ee below (T43.setTop (mkF mm 97 #[.val (.int p0), .unset, .unset, .unset] [(.ref b1)])) _
      refine XS.dup X43.here hx rfl (hb hby at_97) rfl rfl ?_
      show Steps pg.tables ee below (T43.setTop (mkF mm 98 #[.val (.int p0), .unset, .unset, .unset] [(.ref b1), (.ref b1)])) _
      refine XS.bipush X43.here hx rfl (hb hby at_98) ?_
      show Steps pg.tables ee below (T43.setTop (mkF mm 100 #[.val (.int p0), .unset, .unset, .unset] [(.int (14 : Int32)), (.ref b1), (.ref b1)])) _
      refine st44 _ ?_
      show Steps pg.tables ee below (T44.setTop (mkF mm 103 #[.val (.int p0), .unset, .unset, .unset] [(.ref (A (14 : Int32))), (.int (14 : Int32)), (.ref b1), (.ref b1)])) _
      refine st46 _ ?_
      show Steps pg.tables ee below (T46.setTop (mkF mm 104 #[.val (.int p0), .unset, .unset, .unset] [(.ref b1)])) _
      refine XS.dup X46.here hx rfl (hb hby at_104) rfl rfl ?_
      show Steps pg.tables ee below (T46.setTop (mkF mm 105 #[.val (.int p0), .unset, .unset, .unset] [(.ref b1), (.ref b1)])) _
      refine XS.bipush X46.here hx rfl (hb hby at_105) ?_
      show Steps pg.tables ee below (T46.setTop (mkF mm 107 #[.val (.int p0), .unset, .unset, .unset] [(.int (15 : Int32)), (.ref b1), (.ref b1)])) _
      refine st47 _ ?_
      show Steps pg.tables ee below (T47.setTop (mkF mm 110 #[.val (.int p0), .unset, .unset, .unset] [(.ref (A (15 : Int32))), (.int (15 : Int32)), (.ref b1), (.ref b1)])) _
      refine st49 _ ?_
      show Steps pg.tables ee below (T49.setTop (mkF mm 111 #[.val (.int p0), .unset, .unset, .unset] [(.ref b1)])) _
      refine XS.dup X49.here hx rfl (hb hby at_111) rfl rfl ?_
      show Steps pg.tables ee below (T49.setTop (mkF mm 112 #[.val (.int p0), .unset, .unset, .unset] [(.ref b1), (.ref b1)])) _
      refine XS.bipush X49.here hx rfl (hb hby at_112) ?_
      show Steps pg.tables ee below (T49.setTop (mkF mm 114 #[.val (.int p0), .unset, .unset, .unset] [(.int (16 : Int32)), (.ref b1), (.ref b1)])) _
      refine st50 _ ?_
      show Steps pg.tables ee below (T50.setTop (mkF mm 117 #[.val (.int p0), .unset, .unset, .unset] [(.ref (A (16 : Int32))), (.int (16 : Int32)), (.ref b1), (.ref b1)])) _
      refine st52 _ ?_
      show Steps pg.tables ee below (T52.setTop (mkF mm 118 #[.val (.int p0), .unset, .unset, .unset] [(.ref b1)])) _
      refine XS.dup X52.here hx rfl (hb hby at_118) rfl rfl ?_
      show Steps pg.tables ee below (T52.setTop (mkF mm 119 #[.val (.int p0), .unset, .unset, .unset] [(.ref b1), (.ref b1)])) _
      refine XS.bipush X52.here hx rfl (hb hby at_119) ?_
      show Steps pg.tables ee below (T52.setTop (mkF mm 121 #[.val (.int p0), .unset, .unset, .unset] [(.int (17 : Int32)), (.ref b1), (.ref b1)])) _
      refine st53 _ ?_
      show Steps pg.tables ee below (T53.setTop (mkF mm 124 #[.val (.int p0), .unset, .unset, .unset] [(.ref (A (17 : Int32))), (.int (17 : Int32)), (.ref b1), (.ref b1)])) _
      refine st55 _ ?_
      show Steps pg.tables ee below (T55.setTop (mkF mm 125 #[.val (.int p0), .unset, .unset, .unset] [(.ref b1)])) _
      refine XS.dup X55.here hx rfl (hb hby at_125) rfl rfl ?_
      show Steps pg.tables ee below (T55.setTop (mkF mm 126 #[.val (.int p0), .unset, .unset, .unset] [(.ref b1), (.ref b1)])) _
      refine XS.bipush X55.here hx rfl (hb hby at_126) ?_
      show Steps pg.tables ee below (T55.setTop (mkF mm 128 #[.val (.int p0), .unset, .unset, .unset] [(.int (18 : Int32)), (.ref b1), (.ref b1)])) _
      refine st56 _ ?_
      show Steps pg.tables ee below (T56.setTop (mkF mm 131 #[.val (.int p0), .unset, .unset, .unset] [(.ref (A (18 : Int32))), (.int (18 : Int32)), (.ref b1), (.ref b1)])) _
      refine st58 _ ?_
      show Steps pg.tables ee below (T58.setTop (mkF mm 132 #[.val (.int p0), .unset, .unset, .unset] [(.ref b1)])) _
      refine XS.dup X58.here hx rfl (hb hby at_132) rfl rfl ?_
      show Steps pg.tables ee below (T58.setTop (mkF mm 133 #[.val (.int p0), .unset, .unset, .unset] [(.ref b1), (.ref b1)])) _
      refine XS.bipush X58.here hx rfl (hb hby at_133) ?_
      show Steps pg.tables ee below (T58.setTop (mkF mm 135 #[.val (.int p0), .unset, .unset, .unset] [(.int (19 : Int32)), (.ref b1), (.ref b1)])) _
      refine st59 _ ?_
      show Steps pg.tables ee below (T59.setTop (mkF mm 138 #[.val (.int p0), .unset, .unset, .unset] [(.ref (A (19 : Int32))), (.int (19 : Int32)), (.ref b1), (.ref b1)])) _
      refine st61 _ ?_
      show Steps pg.tables ee below (T61.setTop (mkF mm 139 #[.val (.int p0), .unset, .unset, .unset] [(.ref b1)])) _
      refine XS.dup X61.here hx rfl (hb hby at_139) rfl rfl ?_
      show Steps pg.tables ee below (T61.setTop (mkF mm 140 #[.val (.int p0), .unset, .unset, .unset] [(.ref b1), (.ref b1)])) _
      refine XS.bipush X61.here hx rfl (hb hby at_140) ?_
      show Steps pg.tables ee below (T61.setTop (mkF mm 142 #[.val (.int p0), .unset, .unset, .unset] [(.int (20 : Int32)), (.ref b1), (.ref b1)])) _
      refine st62 _ ?_
      show Steps pg.tables ee below (T62.setTop (mkF mm 145 #[.val (.int p0), .unset, .unset, .unset] [(.ref (A (20 : Int32))), (.int (20 : Int32)), (.ref b1), (.ref b1)])) _
      refine st64 _ ?_
      show Steps pg.tables ee below (T64.setTop (mkF mm 146 #[.val (.int p0), .unset, .unset, .unset] [(.ref b1)])) _
      refine XS.dup X64.here hx rfl (hb hby at_146) rfl rfl ?_
      show Steps pg.tables ee below (T64.setTop (mkF mm 147 #[.val (.int p0), .unset, .unset, .unset] [(.ref b1), (.ref b1)])) _
      refine XS.bipush X64.here hx rfl (hb hby at_147) ?_
      show Steps pg.tables ee below (T64.setTop (mkF mm 149 #[.val (.int p0), .unset, .unset, .unset] [(.int (21 : Int32)), (.ref b1), (.ref b1)])) _
      refine st65 _ ?_
      show Steps pg.tables ee below (T65.setTop (mkF mm 152 #[.val (.int p0), .unset, .unset, .unset] [(.ref (A (21 : Int32))), (.int (21 : Int32)), (.ref b1), (.ref b1)])) _
      refine st67 _ ?_
      show Steps pg.tables ee below (T67.setTop (mkF mm 153 #[.val (.int p0), .unset, .unset, .unset] [(.ref b1)])) _
      refine XS.dup X67.here hx rfl (hb hby at_153) rfl rfl ?_
      show Steps pg.tables ee below (T67.setTop (mkF mm 154 #[.val (.int p0), .unset, .unset, .unset] [(.ref b1), (.ref b1)])) _
      refine XS.bipush X67.here hx rfl (hb hby at_154) ?_
      show Steps pg.tables ee below (T67.setTop (mkF mm 156 #[.val (.int p0), .unset, .unset, .unset] [(.int (22 : Int32)), (.ref b1), (.ref b1)])) _
      refine st68 _ ?_
      show Steps pg.tables ee below (T68.setTop (mkF mm 159 #[.val (.int p0), .unset, .unset, .unset] [(.ref (A (22 : Int32))), (.int (22 : Int32)), (.ref b1), (.ref b1)])) _
      refine st70 _ ?_
      show Steps pg.tables ee below (T70.setTop (mkF mm 160 #[.val (.int p0), .unset, .unset, .unset] [(.ref b1)])) _
      refine XS.dup X70.here hx rfl (hb hby at_160) rfl rfl ?_
      show Steps pg.tables ee below (T70.setTop (mkF mm 161 #[.val (.int p0), .unset, .unset, .unset] [(.ref b1), (.ref b1)])) _
      refine XS.bipush X70.here hx rfl (hb hby at_161) ?_
      show Steps pg.tables ee below (T70.setTop (mkF mm 163 #[.val (.int p0), .unset, .unset, .unset] [(.int (23 : Int32)), (.ref b1), (.ref b1)])) _
      refine st71 _ ?_
      show Steps pg.tables ee below (T71.setTop (mkF mm 166 #[.val (.int p0), .unset, .unset, .unset] [(.ref (A (23 : Int32))), (.int (23 : Int32)), (.ref b1), (.ref b1)])) _
      refine st73 _ ?_
      show Steps pg.tables ee below (T73.setTop (mkF mm 167 #[.val (.int p0), .unset, .unset, .unset] [(.ref b1)])) _
      refine XS.dup X73.here hx rfl (hb hby at_167) rfl rfl ?_
      show Steps pg.tables ee below (T73.setTop (mkF mm 168 #[.val (.int p0), .unset, .unset, .unset] [(.ref b1), (.ref b1)])) _
      refine XS.bipush X73.here hx rfl (hb hby at_168) ?_
      show Steps pg.tables ee below (T73.setTop (mkF mm 170 #[.val (.int p0), .unset, .unset, .unset] [(.int (24 : Int32)), (.ref b1), (.ref b1)])) _
      refine st74 _ ?_
      show Steps pg.tables ee below (T74.setTop (mkF mm 173 #[.val (.int p0), .unset, .unset, .unset] [(.ref (A (24 : Int32))), (.int (24 : Int32)), (.ref b1), (.ref b1)])) _
      refine st76 _ ?_
      show Steps pg.tables ee below (T76.setTop (mkF mm 174 #[.val (.int p0), .unset, .unset, .unset] [(.ref b1)])) _
      refine XS.astoreN X76.here hx rfl (hb hby at_174) rfl rfl (l' := #[.val (.int p0), .val (.ref b1), .unset, .unset]) rfl ?_
      show Steps pg.tables ee below (T76.setTop (mkF mm 175 #[.val (.int p0), .val (.ref b1), .unset, .unset] [])) _
      refine XS.iloadN X76.here hx rfl (hb hby at_175) rfl ?_
      show Steps pg.tables ee below (T76.setTop (mkF mm 176 #[.val (.int p0), .val (.ref b1), .unset, .unset] [(.int p0)])) _
      refine X76.ldcInt hx hown (mvT hZ (hw _ (List.mem_of_getElem? (i := 54) rfl))) (g := (mkF mm 176 #[.val (.int p0), .val (.ref b1), .unset, .unset] [(.int p0)])) rfl (hb hby at_176) _ ?_
      show Steps pg.tables ee below (T76.setTop (mkF mm 178 #[.val (.int p0), .val (.ref b1), .unset, .unset] [(.int (2147483647 : Int32)), (.int p0)])) _
      refine XS.iand X76.here hx rfl (hb hby at_178) rfl ?_
      show Steps pg.tables ee below (T76.setTop (mkF mm 179 #[.val (.int p0), .val (.ref b1), .unset, .unset] [(.int (p0 &&& (2147483647 : Int32)))])) _
      refine XS.bipush X76.here hx rfl (hb hby at_179) ?_
      show Steps pg.tables ee below (T76.setTop (mkF mm 181 #[.val (.int p0), .val (.ref b1), .unset, .unset] [(.int (25 : Int32)), (.int (p0 &&& (2147483647 : Int32)))])) _
      refine iremM X76 hx rfl (hb hby at_181) rfl (by decide) ?_
      show Steps pg.tables ee below (T76.setTop (mkF mm 182 #[.val (.int p0), .val (.ref b1), .unset, .unset] [(.int ((p0 &&& (2147483647 : Int32)) % (25 : Int32)))])) _
      refine XS.istoreN X76.here hx rfl (hb hby at_182) rfl (l' := #[.val (.int p0), .val (.ref b1), .val (.int ((p0 &&& (2147483647 : Int32)) % (25 : Int32))), .unset]) rfl ?_
      show Steps pg.tables ee below (T76.setTop (mkF mm 183 #[.val (.int p0), .val (.ref b1), .val (.int ((p0 &&& (2147483647 : Int32)) % (25 : Int32))), .unset] [])) _
      refine XS.iloadN X76.here hx rfl (hb hby at_183) rfl ?_
      show Steps pg.tables ee below (T76.setTop (mkF mm 184 #[.val (.int p0), .val (.ref b1), .val (.int ((p0 &&& (2147483647 : Int32)) % (25 : Int32))), .unset] [(.int ((p0 &&& (2147483647 : Int32)) % (25 : Int32)))])) _
      refine XS.bipush X76.here hx rfl (hb hby at_184) ?_
      exact k)
  by_cases hc78 : ((p0 &&& (2147483647 : Int32)) % (25 : Int32)) < (17 : Int32)
  · obtain ⟨cl79, Ar79, qk79, Sz79, Nn79, Hh79, Gg79⟩ := id V76
    have hin79 : ¬ (((p0 &&& (2147483647 : Int32)) % (25 : Int32)) < 0 ∨ cl79.slots.size ≤ (((p0 &&& (2147483647 : Int32)) % (25 : Int32))).toNatClampNeg) := inb_of Sz79 (own_in p0)
    obtain ⟨LL80, XL80, NL80⟩ := own_loose X76 N76
    obtain ⟨cq81, kq81, q81a, q81b, q81c⟩ := isOf hZ e76 ((hE _ (own_mod25 p0)).ext O76.2)
    obtain ⟨_, _, ⟨T81, L81, k81, n81⟩, -, X81, ⟨Lc81, hQ81, l81, y81, z81⟩, st81⟩ := XL80.virtualBack hx (y := (⟨"com/example/safe_node_calls/safenodecalls/ic/candid/CandidType$Kind", "isStructured", "()Z"⟩ : MethodName)) (z := (⟨"com/example/safe_node_calls/safenodecalls/ic/candid/CandidType$Kind", "isStructured", "()Z"⟩ : MethodName)) hown (mvT hZ (hw _ (List.mem_of_getElem? (i := 55) rfl))) (mvT hZ (hw _ (List.mem_of_getElem? (i := 56) rfl))) (notFace_of_selects (args := #[]) (mvT hZ (hw _ (List.mem_of_getElem? (i := 58) rfl)))) (mvT hZ (hw _ (List.mem_of_getElem? (i := 58) rfl))) (mvT hZ (hw _ (List.mem_of_getElem? (i := 57) rfl))) (by decide) (backOf (W := 0) (rmK l Z a0 hw [] ((p0 &&& (2147483647 : Int32)) % (25 : Int32)) A h76 n0 O76 (own_mod25 p0) S_OPT S_VEC S_RECORD S_VARIANT S_FUNC S_SERVICE n_NULL_OPT n_NULL_VEC n_NULL_RECORD n_NULL_VARIANT n_NULL_FUNC n_NULL_SERVICE n_BOOL_OPT n_BOOL_VEC n_BOOL_RECORD n_BOOL_VARIANT n_BOOL_FUNC n_BOOL_SERVICE n_NAT_OPT n_NAT_VEC n_NAT_RECORD n_NAT_VARIANT n_NAT_FUNC n_NAT_SERVICE n_INT_OPT n_INT_VEC n_INT_RECORD n_INT_VARIANT n_INT_FUNC n_INT_SERVICE n_NAT8_OPT n_NAT8_VEC n_NAT8_RECORD n_NAT8_VARIANT n_NAT8_FUNC n_NAT8_SERVICE n_NAT16_OPT n_NAT16_VEC n_NAT16_RECORD n_NAT16_VARIANT n_NAT16_FUNC n_NAT16_SERVICE n_NAT32_OPT n_NAT32_VEC n_NAT32_RECORD n_NAT32_VARIANT n_NAT32_FUNC n_NAT32_SERVICE n_NAT64_OPT n_NAT64_VEC n_NAT64_RECORD n_NAT64_VARIANT n_NAT64_FUNC n_NAT64_SERVICE n_INT8_OPT n_INT8_VEC n_INT8_RECORD n_INT8_VARIANT n_INT8_FUNC n_INT8_SERVICE n_INT16_OPT n_INT16_VEC n_INT16_RECORD n_INT16_VARIANT n_INT16_FUNC n_INT16_SERVICE n_INT32_OPT n_INT32_VEC n_INT32_RECORD n_INT32_VARIANT n_INT32_FUNC n_INT32_SERVICE n_INT64_OPT n_INT64_VEC n_INT64_RECORD n_INT64_VARIANT n_INT64_FUNC n_INT64_SERVICE n_FLOAT32_OPT n_FLOAT32_VEC n_FLOAT32_RECORD n_FLOAT32_VARIANT n_FLOAT32_FUNC n_FLOAT32_SERVICE n_FLOAT64_OPT n_FLOAT64_VEC n_FLOAT64_RECORD n_FLOAT64_VARIANT n_FLOAT64_FUNC n_FLOAT64_SERVICE n_TEXT_OPT n_TEXT_VEC n_TEXT_RECORD n_TEXT_VARIANT n_TEXT_FUNC n_TEXT_SERVICE n_RESERVED_OPT n_RESERVED_VEC n_RESERVED_RECORD n_RESERVED_VARIANT n_RESERVED_FUNC n_RESERVED_SERVICE n_EMPTY_OPT n_EMPTY_VEC n_EMPTY_RECORD n_EMPTY_VARIANT n_EMPTY_FUNC n_EMPTY_SERVICE n_VEC_OPT n_RECORD_OPT n_RECORD_VEC n_VARIANT_OPT n_VARIANT_VEC n_VARIANT_RECORD n_FUNC_OPT n_FUNC_VEC n_FUNC_RECORD n_FUNC_VARIANT n_SERVICE_OPT n_SERVICE_VEC n_SERVICE_RECORD n_SERVICE_VARIANT n_SERVICE_FUNC n_PRINCIPAL_OPT n_PRINCIPAL_VEC n_PRINCIPAL_RECORD n_PRINCIPAL_VARIANT n_PRINCIPAL_FUNC n_PRINCIPAL_SERVICE n_FUTURE_OPT n_FUTURE_VEC n_FUTURE_RECORD n_FUTURE_VARIANT n_FUTURE_FUNC n_FUTURE_SERVICE) hZ (hw _ (List.mem_of_getElem? (i := 59) rfl)) (hw _ (List.mem_of_getElem? (i := 3) rfl)) (by decide) (by decide)) q81a q81c (g := (mkF mm 204 #[.val (.int p0), .val (.ref b1), .val (.int ((p0 &&& (2147483647 : Int32)) % (25 : Int32))), .val (.int (0 : Int32))] [(.ref (A ((p0 &&& (2147483647 : Int32)) % (25 : Int32))))])) rfl (by rw [hml]; rfl) (Steps.refl _) (argsL := []) (rest := []) (lenOf pd_25 rfl) rfl (by show 2 * 0 + _ ≤ _; exact Nat.le_of_eq rfl) (hb hby at_204) (fun _ _ => ⟨rfl, e76, (by decide : 1 + 0 ≤ _), (by decide : 25 + 0 ≤ _)⟩)
    dsimp only [Pt.U, Pt.locs, Pt.cells, Pt.slots] at X81 l81 y81 z81 st81 hQ81
    subst l81 y81 z81
    obtain ⟨rfl, N81q, e81⟩ := hQ81
    have N81 := Fr.app NL80 N81q
    obtain ⟨fs, hr, hrun, hended, hW, hsame⟩ := X81.leave (v := some (.int (1 : Int32))) (fun h => by rw [Bd.returns] at h; cases h)
    refine ⟨_, _, pre77 _ ?_, hrun, hended, _, _, rfl, ?_, ⟨_, rfl⟩, hW, hsame.mono (by decide) (by decide)⟩
    · show Steps pg.tables ee below (T76.setTop (mkF mm 186 #[.val (.int p0), .val (.ref b1), .val (.int ((p0 &&& (2147483647 : Int32)) % (25 : Int32))), .unset] [(.int (17 : Int32)), (.int ((p0 &&& (2147483647 : Int32)) % (25 : Int32)))])) _
      refine XS.icmpYes X76.here hx rfl (pc0 := 186) (pc' := 199) rfl (hb hby at_186) rfl (tlt hc78).1 (by decide) (by decide) ?_
      show Steps pg.tables ee below (T76.setTop (mkF mm 199 #[.val (.int p0), .val (.ref b1), .val (.int ((p0 &&& (2147483647 : Int32)) % (25 : Int32))), .unset] [])) _
      refine XS.iconst X76.here hx rfl (hb hby at_199) ?_
      show Steps pg.tables ee below (T76.setTop (mkF mm 200 #[.val (.int p0), .val (.ref b1), .val (.int ((p0 &&& (2147483647 : Int32)) % (25 : Int32))), .unset] [(.int (0 : Int32))])) _
      refine XS.istoreN X76.here hx rfl (hb hby at_200) rfl (l' := #[.val (.int p0), .val (.ref b1), .val (.int ((p0 &&& (2147483647 : Int32)) % (25 : Int32))), .val (.int (0 : Int32))]) rfl ?_
      show Steps pg.tables ee below (T76.setTop (mkF mm 201 #[.val (.int p0), .val (.ref b1), .val (.int ((p0 &&& (2147483647 : Int32)) % (25 : Int32))), .val (.int (0 : Int32))] [])) _
      refine XS.aloadN X76.here hx rfl (hb hby at_201) rfl rfl ?_
      show Steps pg.tables ee below (T76.setTop (mkF mm 202 #[.val (.int p0), .val (.ref b1), .val (.int ((p0 &&& (2147483647 : Int32)) % (25 : Int32))), .val (.int (0 : Int32))] [(.ref b1)])) _
      refine XS.iloadN X76.here hx rfl (hb hby at_202) rfl ?_
      show Steps pg.tables ee below (T76.setTop (mkF mm 203 #[.val (.int p0), .val (.ref b1), .val (.int ((p0 &&& (2147483647 : Int32)) % (25 : Int32))), .val (.int (0 : Int32))] [(.int ((p0 &&& (2147483647 : Int32)) % (25 : Int32))), (.ref b1)])) _
      refine X76.aaload hx (j := ((p0 &&& (2147483647 : Int32)) % (25 : Int32))) (v := (.ref (A ((p0 &&& (2147483647 : Int32)) % (25 : Int32))))) (by rw [e76]; exact Ar79.1) (State.isArrayOf_alike hZ.alike Ar79.2.1) rfl Ar79.2.2 hin79 (Has.at Hh79 hin79 (own_get A _ (own_mod25 p0))) (g := (mkF mm 203 #[.val (.int p0), .val (.ref b1), .val (.int ((p0 &&& (2147483647 : Int32)) % (25 : Int32))), .val (.int (0 : Int32))] [(.int ((p0 &&& (2147483647 : Int32)) % (25 : Int32))), (.ref b1)])) rfl rfl (hb hby at_203) _ ?_
      show Steps pg.tables ee below (T76.setTop (mkF mm 204 #[.val (.int p0), .val (.ref b1), .val (.int ((p0 &&& (2147483647 : Int32)) % (25 : Int32))), .val (.int (0 : Int32))] [(.ref (A ((p0 &&& (2147483647 : Int32)) % (25 : Int32))))])) _
      refine st81.trans ?_
      show Steps pg.tables ee below (T81.setTop (mkF mm 207 #[.val (.int p0), .val (.ref b1), .val (.int ((p0 &&& (2147483647 : Int32)) % (25 : Int32))), .val (.int (0 : Int32))] [(.int (own_f ((p0 &&& (2147483647 : Int32)) % (25 : Int32))))])) _
      refine XS.iloadN X81.here hx rfl (hb hby at_207) rfl ?_
      show Steps pg.tables ee below (T81.setTop (mkF mm 208 #[.val (.int p0), .val (.ref b1), .val (.int ((p0 &&& (2147483647 : Int32)) % (25 : Int32))), .val (.int (0 : Int32))] [(.int (0 : Int32)), (.int (own_f ((p0 &&& (2147483647 : Int32)) % (25 : Int32))))])) _
      refine XS.icmpNo X81.here hx rfl (hb hby at_208) rfl (teq (own_fa hc78)).2 ?_
      show Steps pg.tables ee below (T81.setTop (mkF mm 211 #[.val (.int p0), .val (.ref b1), .val (.int ((p0 &&& (2147483647 : Int32)) % (25 : Int32))), .val (.int (0 : Int32))] [])) _
      refine XS.iconst X81.here hx rfl (hb hby at_211) ?_
      show Steps pg.tables ee below (T81.setTop (mkF mm 212 #[.val (.int p0), .val (.ref b1), .val (.int ((p0 &&& (2147483647 : Int32)) % (25 : Int32))), .val (.int (0 : Int32))] [(.int (1 : Int32))])) _
      refine XS.goto X81.here hx rfl (pc0 := 212) (pc' := 216) rfl (hb hby at_212) (by decide) (by decide) ?_
      show Steps pg.tables ee below (T81.setTop (mkF mm 216 #[.val (.int p0), .val (.ref b1), .val (.int ((p0 &&& (2147483647 : Int32)) % (25 : Int32))), .val (.int (0 : Int32))] [(.int (1 : Int32))])) _
      exact retN X81 hx (t := .boolean) Bd.returns (by simp) (hb hby at_216) hr
    · show Qrm0 Z p0 A h0 n0 _ T81.heap _
      rw [e81]
      exact ⟨rfl, N81⟩
  · have pre82 : ∀ t, Steps pg.tables ee below (T76.setTop (mkF mm 192 #[.val (.int p0), .val (.ref b1), .val (.int ((p0 &&& (2147483647 : Int32)) % (25 : Int32))), .unset] [(.int (22 : Int32)), (.int ((p0 &&& (2147483647 : Int32)) % (25 : Int32)))])) t → Steps pg.tables ee below (s₁.setTop (entryFrame mm #[(.int p0)] maxLocals)) t := fun t k => pre77 t (by
        show Steps pg.tables ee below (T76.setTop (mkF mm 186 #[.val (.int p0), .val (.ref b1), .val (.int ((p0 &&& (2147483647 : Int32)) % (25 : Int32))), .unset] [(.int (17 : Int32)), (.int ((p0 &&& (2147483647 : Int32)) % (25 : Int32)))])) _
        refine XS.icmpNo X76.here hx rfl (hb hby at_186) rfl (flt hc78).1 ?_
        show Steps pg.tables ee below (T76.setTop (mkF mm 189 #[.val (.int p0), .val (.ref b1), .val (.int ((p0 &&& (2147483647 : Int32)) % (25 : Int32))), .unset] [])) _
        refine XS.iloadN X76.here hx rfl (hb hby at_189) rfl ?_
        show Steps pg.tables ee below (T76.setTop (mkF mm 190 #[.val (.int p0), .val (.ref b1), .val (.int ((p0 &&& (2147483647 : Int32)) % (25 : Int32))), .unset] [(.int ((p0 &&& (2147483647 : Int32)) % (25 : Int32)))])) _
        refine XS.bipush X76.here hx rfl (hb hby at_190) ?_
        exact k)
    by_cases hc83 : (22 : Int32) < ((p0 &&& (2147483647 : Int32)) % (25 : Int32))
    · obtain ⟨cl84, Ar84, qk84, Sz84, Nn84, Hh84, Gg84⟩ := id V76
      have hin84 : ¬ (((p0 &&& (2147483647 : Int32)) % (25 : Int32)) < 0 ∨ cl84.slots.size ≤ (((p0 &&& (2147483647 : Int32)) % (25 : Int32))).toNatClampNeg) := inb_of Sz84 (own_in p0)
      obtain ⟨LL85, XL85, NL85⟩ := own_loose X76 N76
      obtain ⟨cq86, kq86, q86a, q86b, q86c⟩ := isOf hZ e76 ((hE _ (own_mod25 p0)).ext O76.2)
      obtain ⟨_, _, ⟨T86, L86, k86, n86⟩, -, X86, ⟨Lc86, hQ86, l86, y86, z86⟩, st86⟩ := XL85.virtualBack hx (y := (⟨"com/example/safe_node_calls/safenodecalls/ic/candid/CandidType$Kind", "isStructured", "()Z"⟩ : MethodName)) (z := (⟨"com/example/safe_node_calls/safenodecalls/ic/candid/CandidType$Kind", "isStructured", "()Z"⟩ : MethodName)) hown (mvT hZ (hw _ (List.mem_of_getElem? (i := 55) rfl))) (mvT hZ (hw _ (List.mem_of_getElem? (i := 56) rfl))) (notFace_of_selects (args := #[]) (mvT hZ (hw _ (List.mem_of_getElem? (i := 58) rfl)))) (mvT hZ (hw _ (List.mem_of_getElem? (i := 58) rfl))) (mvT hZ (hw _ (List.mem_of_getElem? (i := 57) rfl))) (by decide) (backOf (W := 0) (rmK l Z a0 hw [] ((p0 &&& (2147483647 : Int32)) % (25 : Int32)) A h76 n0 O76 (own_mod25 p0) S_OPT S_VEC S_RECORD S_VARIANT S_FUNC S_SERVICE n_NULL_OPT n_NULL_VEC n_NULL_RECORD n_NULL_VARIANT n_NULL_FUNC n_NULL_SERVICE n_BOOL_OPT n_BOOL_VEC n_BOOL_RECORD n_BOOL_VARIANT n_BOOL_FUNC n_BOOL_SERVICE n_NAT_OPT n_NAT_VEC n_NAT_RECORD n_NAT_VARIANT n_NAT_FUNC n_NAT_SERVICE n_INT_OPT n_INT_VEC n_INT_RECORD n_INT_VARIANT n_INT_FUNC n_INT_SERVICE n_NAT8_OPT n_NAT8_VEC n_NAT8_RECORD n_NAT8_VARIANT n_NAT8_FUNC n_NAT8_SERVICE n_NAT16_OPT n_NAT16_VEC n_NAT16_RECORD n_NAT16_VARIANT n_NAT16_FUNC n_NAT16_SERVICE n_NAT32_OPT n_NAT32_VEC n_NAT32_RECORD n_NAT32_VARIANT n_NAT32_FUNC n_NAT32_SERVICE n_NAT64_OPT n_NAT64_VEC n_NAT64_RECORD n_NAT64_VARIANT n_NAT64_FUNC n_NAT64_SERVICE n_INT8_OPT n_INT8_VEC n_INT8_RECORD n_INT8_VARIANT n_INT8_FUNC n_INT8_SERVICE n_INT16_OPT n_INT16_VEC n_INT16_RECORD n_INT16_VARIANT n_INT16_FUNC n_INT16_SERVICE n_INT32_OPT n_INT32_VEC n_INT32_RECORD n_INT32_VARIANT n_INT32_FUNC n_INT32_SERVICE n_INT64_OPT n_INT64_VEC n_INT64_RECORD n_INT64_VARIANT n_INT64_FUNC n_INT64_SERVICE n_FLOAT32_OPT n_FLOAT32_VEC n_FLOAT32_RECORD n_FLOAT32_VARIANT n_FLOAT32_FUNC n_FLOAT32_SERVICE n_FLOAT64_OPT n_FLOAT64_VEC n_FLOAT64_RECORD n_FLOAT64_VARIANT n_FLOAT64_FUNC n_FLOAT64_SERVICE n_TEXT_OPT n_TEXT_VEC n_TEXT_RECORD n_TEXT_VARIANT n_TEXT_FUNC n_TEXT_SERVICE n_RESERVED_OPT n_RESERVED_VEC n_RESERVED_RECORD n_RESERVED_VARIANT n_RESERVED_FUNC n_RESERVED_SERVICE n_EMPTY_OPT n_EMPTY_VEC n_EMPTY_RECORD n_EMPTY_VARIANT n_EMPTY_FUNC n_EMPTY_SERVICE n_VEC_OPT n_RECORD_OPT n_RECORD_VEC n_VARIANT_OPT n_VARIANT_VEC n_VARIANT_RECORD n_FUNC_OPT n_FUNC_VEC n_FUNC_RECORD n_FUNC_VARIANT n_SERVICE_OPT n_SERVICE_VEC n_SERVICE_RECORD n_SERVICE_VARIANT n_SERVICE_FUNC n_PRINCIPAL_OPT n_PRINCIPAL_VEC n_PRINCIPAL_RECORD n_PRINCIPAL_VARIANT n_PRINCIPAL_FUNC n_PRINCIPAL_SERVICE n_FUTURE_OPT n_FUTURE_VEC n_FUTURE_RECORD n_FUTURE_VARIANT n_FUTURE_FUNC n_FUTURE_SERVICE) hZ (hw _ (List.mem_of_getElem? (i := 59) rfl)) (hw _ (List.mem_of_getElem? (i := 3) rfl)) (by decide) (by decide)) q86a q86c (g := (mkF mm 204 #[.val (.int p0), .val (.ref b1), .val (.int ((p0 &&& (2147483647 : Int32)) % (25 : Int32))), .val (.int (0 : Int32))] [(.ref (A ((p0 &&& (2147483647 : Int32)) % (25 : Int32))))])) rfl (by rw [hml]; rfl) (Steps.refl _) (argsL := []) (rest := []) (lenOf pd_25 rfl) rfl (by show 2 * 0 + _ ≤ _; exact Nat.le_of_eq rfl) (hb hby at_204) (fun _ _ => ⟨rfl, e76, (by decide : 1 + 0 ≤ _), (by decide : 25 + 0 ≤ _)⟩)
      dsimp only [Pt.U, Pt.locs, Pt.cells, Pt.slots] at X86 l86 y86 z86 st86 hQ86
      subst l86 y86 z86
      obtain ⟨rfl, N86q, e86⟩ := hQ86
      have N86 := Fr.app NL85 N86q
      obtain ⟨fs, hr, hrun, hended, hW, hsame⟩ := X86.leave (v := some (.int (1 : Int32))) (fun h => by rw [Bd.returns] at h; cases h)
      refine ⟨_, _, pre82 _ ?_, hrun, hended, _, _, rfl, ?_, ⟨_, rfl⟩, hW, hsame.mono (by decide) (by decide)⟩
      · show Steps pg.tables ee below (T76.setTop (mkF mm 192 #[.val (.int p0), .val (.ref b1), .val (.int ((p0 &&& (2147483647 : Int32)) % (25 : Int32))), .unset] [(.int (22 : Int32)), (.int ((p0 &&& (2147483647 : Int32)) % (25 : Int32)))])) _
        refine XS.icmpYes X76.here hx rfl (pc0 := 192) (pc' := 199) rfl (hb hby at_192) rfl (tlt hc83).2.2.1 (by decide) (by decide) ?_
        show Steps pg.tables ee below (T76.setTop (mkF mm 199 #[.val (.int p0), .val (.ref b1), .val (.int ((p0 &&& (2147483647 : Int32)) % (25 : Int32))), .unset] [])) _
        refine XS.iconst X76.here hx rfl (hb hby at_199) ?_
        show Steps pg.tables ee below (T76.setTop (mkF mm 200 #[.val (.int p0), .val (.ref b1), .val (.int ((p0 &&& (2147483647 : Int32)) % (25 : Int32))), .unset] [(.int (0 : Int32))])) _
        refine XS.istoreN X76.here hx rfl (hb hby at_200) rfl (l' := #[.val (.int p0), .val (.ref b1), .val (.int ((p0 &&& (2147483647 : Int32)) % (25 : Int32))), .val (.int (0 : Int32))]) rfl ?_
        show Steps pg.tables ee below (T76.setTop (mkF mm 201 #[.val (.int p0), .val (.ref b1), .val (.int ((p0 &&& (2147483647 : Int32)) % (25 : Int32))), .val (.int (0 : Int32))] [])) _
        refine XS.aloadN X76.here hx rfl (hb hby at_201) rfl rfl ?_
        show Steps pg.tables ee below (T76.setTop (mkF mm 202 #[.val (.int p0), .val (.ref b1), .val (.int ((p0 &&& (2147483647 : Int32)) % (25 : Int32))), .val (.int (0 : Int32))] [(.ref b1)])) _
        refine XS.iloadN X76.here hx rfl (hb hby at_202) rfl ?_
        show Steps pg.tables ee below (T76.setTop (mkF mm 203 #[.val (.int p0), .val (.ref b1), .val (.int ((p0 &&& (2147483647 : Int32)) % (25 : Int32))), .val (.int (0 : Int32))] [(.int ((p0 &&& (2147483647 : Int32)) % (25 : Int32))), (.ref b1)])) _
        refine X76.aaload hx (j := ((p0 &&& (2147483647 : Int32)) % (25 : Int32))) (v := (.ref (A ((p0 &&& (2147483647 : Int32)) % (25 : Int32))))) (by rw [e76]; exact Ar84.1) (State.isArrayOf_alike hZ.alike Ar84.2.1) rfl Ar84.2.2 hin84 (Has.at Hh84 hin84 (own_get A _ (own_mod25 p0))) (g := (mkF mm 203 #[.val (.int p0), .val (.ref b1), .val (.int ((p0 &&& (2147483647 : Int32)) % (25 : Int32))), .val (.int (0 : Int32))] [(.int ((p0 &&& (2147483647 : Int32)) % (25 : Int32))), (.ref b1)])) rfl rfl (hb hby at_203) _ ?_
        show Steps pg.tables ee below (T76.setTop (mkF mm 204 #[.val (.int p0), .val (.ref b1), .val (.int ((p0 &&& (2147483647 : Int32)) % (25 : Int32))), .val (.int (0 : Int32))] [(.ref (A ((p0 &&& (2147483647 : Int32)) % (25 : Int32))))])) _
        refine st86.trans ?_
        show Steps pg.tables ee below (T86.setTop (mkF mm 207 #[.val (.int p0), .val (.ref b1), .val (.int ((p0 &&& (2147483647 : Int32)) % (25 : Int32))), .val (.int (0 : Int32))] [(.int (own_f ((p0 &&& (2147483647 : Int32)) % (25 : Int32))))])) _
        refine XS.iloadN X86.here hx rfl (hb hby at_207) rfl ?_
        show Steps pg.tables ee below (T86.setTop (mkF mm 208 #[.val (.int p0), .val (.ref b1), .val (.int ((p0 &&& (2147483647 : Int32)) % (25 : Int32))), .val (.int (0 : Int32))] [(.int (0 : Int32)), (.int (own_f ((p0 &&& (2147483647 : Int32)) % (25 : Int32))))])) _
        refine XS.icmpNo X86.here hx rfl (hb hby at_208) rfl (teq (own_fb hc78 hc83)).2 ?_
        show Steps pg.tables ee below (T86.setTop (mkF mm 211 #[.val (.int p0), .val (.ref b1), .val (.int ((p0 &&& (2147483647 : Int32)) % (25 : Int32))), .val (.int (0 : Int32))] [])) _
        refine XS.iconst X86.here hx rfl (hb hby at_211) ?_
        show Steps pg.tables ee below (T86.setTop (mkF mm 212 #[.val (.int p0), .val (.ref b1), .val (.int ((p0 &&& (2147483647 : Int32)) % (25 : Int32))), .val (.int (0 : Int32))] [(.int (1 : Int32))])) _
        refine XS.goto X86.here hx rfl (pc0 := 212) (pc' := 216) rfl (hb hby at_212) (by decide) (by decide) ?_
        show Steps pg.tables ee below (T86.setTop (mkF mm 216 #[.val (.int p0), .val (.ref b1), .val (.int ((p0 &&& (2147483647 : Int32)) % (25 : Int32))), .val (.int (0 : Int32))] [(.int (1 : Int32))])) _
        exact retN X86 hx (t := .boolean) Bd.returns (by simp) (hb hby at_216) hr
      · show Qrm0 Z p0 A h0 n0 _ T86.heap _
        rw [e86]
        exact ⟨rfl, N86⟩
    · obtain ⟨cl87, Ar87, qk87, Sz87, Nn87, Hh87, Gg87⟩ := id V76
      have hin87 : ¬ (((p0 &&& (2147483647 : Int32)) % (25 : Int32)) < 0 ∨ cl87.slots.size ≤ (((p0 &&& (2147483647 : Int32)) % (25 : Int32))).toNatClampNeg) := inb_of Sz87 (own_in p0)
      obtain ⟨LL88, XL88, NL88⟩ := own_loose X76 N76
      obtain ⟨cq89, kq89, q89a, q89b, q89c⟩ := isOf hZ e76 ((hE _ (own_mod25 p0)).ext O76.2)
      obtain ⟨_, _, ⟨T89, L89, k89, n89⟩, -, X89, ⟨Lc89, hQ89, l89, y89, z89⟩, st89⟩ := XL88.virtualBack hx (y := (⟨"com/example/safe_node_calls/safenodecalls/ic/candid/CandidType$Kind", "isStructured", "()Z"⟩ : MethodName)) (z := (⟨"com/example/safe_node_calls/safenodecalls/ic/candid/CandidType$Kind", "isStructured", "()Z"⟩ : MethodName)) hown (mvT hZ (hw _ (List.mem_of_getElem? (i := 55) rfl))) (mvT hZ (hw _ (List.mem_of_getElem? (i := 56) rfl))) (notFace_of_selects (args := #[]) (mvT hZ (hw _ (List.mem_of_getElem? (i := 58) rfl)))) (mvT hZ (hw _ (List.mem_of_getElem? (i := 58) rfl))) (mvT hZ (hw _ (List.mem_of_getElem? (i := 57) rfl))) (by decide) (backOf (W := 0) (rmK l Z a0 hw [] ((p0 &&& (2147483647 : Int32)) % (25 : Int32)) A h76 n0 O76 (own_mod25 p0) S_OPT S_VEC S_RECORD S_VARIANT S_FUNC S_SERVICE n_NULL_OPT n_NULL_VEC n_NULL_RECORD n_NULL_VARIANT n_NULL_FUNC n_NULL_SERVICE n_BOOL_OPT n_BOOL_VEC n_BOOL_RECORD n_BOOL_VARIANT n_BOOL_FUNC n_BOOL_SERVICE n_NAT_OPT n_NAT_VEC n_NAT_RECORD n_NAT_VARIANT n_NAT_FUNC n_NAT_SERVICE n_INT_OPT n_INT_VEC n_INT_RECORD n_INT_VARIANT n_INT_FUNC n_INT_SERVICE n_NAT8_OPT n_NAT8_VEC n_NAT8_RECORD n_NAT8_VARIANT n_NAT8_FUNC n_NAT8_SERVICE n_NAT16_OPT n_NAT16_VEC n_NAT16_RECORD n_NAT16_VARIANT n_NAT16_FUNC n_NAT16_SERVICE n_NAT32_OPT n_NAT32_VEC n_NAT32_RECORD n_NAT32_VARIANT n_NAT32_FUNC n_NAT32_SERVICE n_NAT64_OPT n_NAT64_VEC n_NAT64_RECORD n_NAT64_VARIANT n_NAT64_FUNC n_NAT64_SERVICE n_INT8_OPT n_INT8_VEC n_INT8_RECORD n_INT8_VARIANT n_INT8_FUNC n_INT8_SERVICE n_INT16_OPT n_INT16_VEC n_INT16_RECORD n_INT16_VARIANT n_INT16_FUNC n_INT16_SERVICE n_INT32_OPT n_INT32_VEC n_INT32_RECORD n_INT32_VARIANT n_INT32_FUNC n_INT32_SERVICE n_INT64_OPT n_INT64_VEC n_INT64_RECORD n_INT64_VARIANT n_INT64_FUNC n_INT64_SERVICE n_FLOAT32_OPT n_FLOAT32_VEC n_FLOAT32_RECORD n_FLOAT32_VARIANT n_FLOAT32_FUNC n_FLOAT32_SERVICE n_FLOAT64_OPT n_FLOAT64_VEC n_FLOAT64_RECORD n_FLOAT64_VARIANT n_FLOAT64_FUNC n_FLOAT64_SERVICE n_TEXT_OPT n_TEXT_VEC n_TEXT_RECORD n_TEXT_VARIANT n_TEXT_FUNC n_TEXT_SERVICE n_RESERVED_OPT n_RESERVED_VEC n_RESERVED_RECORD n_RESERVED_VARIANT n_RESERVED_FUNC n_RESERVED_SERVICE n_EMPTY_OPT n_EMPTY_VEC n_EMPTY_RECORD n_EMPTY_VARIANT n_EMPTY_FUNC n_EMPTY_SERVICE n_VEC_OPT n_RECORD_OPT n_RECORD_VEC n_VARIANT_OPT n_VARIANT_VEC n_VARIANT_RECORD n_FUNC_OPT n_FUNC_VEC n_FUNC_RECORD n_FUNC_VARIANT n_SERVICE_OPT n_SERVICE_VEC n_SERVICE_RECORD n_SERVICE_VARIANT n_SERVICE_FUNC n_PRINCIPAL_OPT n_PRINCIPAL_VEC n_PRINCIPAL_RECORD n_PRINCIPAL_VARIANT n_PRINCIPAL_FUNC n_PRINCIPAL_SERVICE n_FUTURE_OPT n_FUTURE_VEC n_FUTURE_RECORD n_FUTURE_VARIANT n_FUTURE_FUNC n_FUTURE_SERVICE) hZ (hw _ (List.mem_of_getElem? (i := 59) rfl)) (hw _ (List.mem_of_getElem? (i := 3) rfl)) (by decide) (by decide)) q89a q89c (g := (mkF mm 204 #[.val (.int p0), .val (.ref b1), .val (.int ((p0 &&& (2147483647 : Int32)) % (25 : Int32))), .val (.int (1 : Int32))] [(.ref (A ((p0 &&& (2147483647 : Int32)) % (25 : Int32))))])) rfl (by rw [hml]; rfl) (Steps.refl _) (argsL := []) (rest := []) (lenOf pd_25 rfl) rfl (by show 2 * 0 + _ ≤ _; exact Nat.le_of_eq rfl) (hb hby at_204) (fun _ _ => ⟨rfl, e76, (by decide : 1 + 0 ≤ _), (by decide : 25 + 0 ≤ _)⟩)
      dsimp only [Pt.U, Pt.locs, Pt.cells, Pt.slots] at X89 l89 y89 z89 st89 hQ89
      subst l89 y89 z89
      obtain ⟨rfl, N89q, e89⟩ := hQ89
      have N89 := Fr.app NL88 N89q
      obtain ⟨fs, hr, hrun, hended, hW, hsame⟩ := X89.leave (v := some (.int (1 : Int32))) (fun h => by rw [Bd.returns] at h; cases h)
      refine ⟨_, _, pre82 _ ?_, hrun, hended, _, _, rfl, ?_, ⟨_, rfl⟩, hW, hsame.mono (by decide) (by decide)⟩
      · show Steps pg.tables ee below (T76.setTop (mkF mm 192 #[.val (.int p0), .val (.ref b1), .val (.int ((p0 &&& (2147483647 : Int32)) % (25 : Int32))), .unset] [(.int (22 : Int32)), (.int ((p0 &&& (2147483647 : Int32)) % (25 : Int32)))])) _
        refine XS.icmpNo X76.here hx rfl (hb hby at_192) rfl (flt hc83).2.2.1 ?_
        show Steps pg.tables ee below (T76.setTop (mkF mm 195 #[.val (.int p0), .val (.ref b1), .val (.int ((p0 &&& (2147483647 : Int32)) % (25 : Int32))), .unset] [])) _
        refine XS.iconst X76.here hx rfl (hb hby at_195) ?_
        show Steps pg.tables ee below (T76.setTop (mkF mm 196 #[.val (.int p0), .val (.ref b1), .val (.int ((p0 &&& (2147483647 : Int32)) % (25 : Int32))), .unset] [(.int (1 : Int32))])) _
        refine XS.goto X76.here hx rfl (pc0 := 196) (pc' := 200) rfl (hb hby at_196) (by decide) (by decide) ?_
        show Steps pg.tables ee below (T76.setTop (mkF mm 200 #[.val (.int p0), .val (.ref b1), .val (.int ((p0 &&& (2147483647 : Int32)) % (25 : Int32))), .unset] [(.int (1 : Int32))])) _
        refine XS.istoreN X76.here hx rfl (hb hby at_200) rfl (l' := #[.val (.int p0), .val (.ref b1), .val (.int ((p0 &&& (2147483647 : Int32)) % (25 : Int32))), .val (.int (1 : Int32))]) rfl ?_
        show Steps pg.tables ee below (T76.setTop (mkF mm 201 #[.val (.int p0), .val (.ref b1), .val (.int ((p0 &&& (2147483647 : Int32)) % (25 : Int32))), .val (.int (1 : Int32))] [])) _
        refine XS.aloadN X76.here hx rfl (hb hby at_201) rfl rfl ?_
        show Steps pg.tables ee below (T76.setTop (mkF mm 202 #[.val (.int p0), .val (.ref b1), .val (.int ((p0 &&& (2147483647 : Int32)) % (25 : Int32))), .val (.int (1 : Int32))] [(.ref b1)])) _
        refine XS.iloadN X76.here hx rfl (hb hby at_202) rfl ?_
        show Steps pg.tables ee below (T76.setTop (mkF mm 203 #[.val (.int p0), .val (.ref b1), .val (.int ((p0 &&& (2147483647 : Int32)) % (25 : Int32))), .val (.int (1 : Int32))] [(.int ((p0 &&& (2147483647 : Int32)) % (25 : Int32))), (.ref b1)])) _
        refine X76.aaload hx (j := ((p0 &&& (2147483647 : Int32)) % (25 : Int32))) (v := (.ref (A ((p0 &&& (2147483647 : Int32)) % (25 : Int32))))) (by rw [e76]; exact Ar87.1) (State.isArrayOf_alike hZ.alike Ar87.2.1) rfl Ar87.2.2 hin87 (Has.at Hh87 hin87 (own_get A _ (own_mod25 p0))) (g := (mkF mm 203 #[.val (.int p0), .val (.ref b1), .val (.int ((p0 &&& (2147483647 : Int32)) % (25 : Int32))), .val (.int (1 : Int32))] [(.int ((p0 &&& (2147483647 : Int32)) % (25 : Int32))), (.ref b1)])) rfl rfl (hb hby at_203) _ ?_
        show Steps pg.tables ee below (T76.setTop (mkF mm 204 #[.val (.int p0), .val (.ref b1), .val (.int ((p0 &&& (2147483647 : Int32)) % (25 : Int32))), .val (.int (1 : Int32))] [(.ref (A ((p0 &&& (2147483647 : Int32)) % (25 : Int32))))])) _
        refine st89.trans ?_
        show Steps pg.tables ee below (T89.setTop (mkF mm 207 #[.val (.int p0), .val (.ref b1), .val (.int ((p0 &&& (2147483647 : Int32)) % (25 : Int32))), .val (.int (1 : Int32))] [(.int (own_f ((p0 &&& (2147483647 : Int32)) % (25 : Int32))))])) _
        refine XS.iloadN X89.here hx rfl (hb hby at_207) rfl ?_
        show Steps pg.tables ee below (T89.setTop (mkF mm 208 #[.val (.int p0), .val (.ref b1), .val (.int ((p0 &&& (2147483647 : Int32)) % (25 : Int32))), .val (.int (1 : Int32))] [(.int (1 : Int32)), (.int (own_f ((p0 &&& (2147483647 : Int32)) % (25 : Int32))))])) _
        refine XS.icmpNo X89.here hx rfl (hb hby at_208) rfl (teq (own_fc hc78 hc83)).2 ?_
        show Steps pg.tables ee below (T89.setTop (mkF mm 211 #[.val (.int p0), .val (.ref b1), .val (.int ((p0 &&& (2147483647 : Int32)) % (25 : Int32))), .val (.int (1 : Int32))] [])) _
        refine XS.iconst X89.here hx rfl (hb hby at_211) ?_
        show Steps pg.tables ee below (T89.setTop (mkF mm 212 #[.val (.int p0), .val (.ref b1), .val (.int ((p0 &&& (2147483647 : Int32)) % (25 : Int32))), .val (.int (1 : Int32))] [(.int (1 : Int32))])) _
        refine XS.goto X89.here hx rfl (pc0 := 212) (pc' := 216) rfl (hb hby at_212) (by decide) (by decide) ?_
        show Steps pg.tables ee below (T89.setTop (mkF mm 216 #[.val (.int p0), .val (.ref b1), .val (.int ((p0 &&& (2147483647 : Int32)) % (25 : Int32))), .val (.int (1 : Int32))] [(.int (1 : Int32))])) _
        exact retN X89 hx (t := .boolean) Bd.returns (by simp) (hb hby at_216) hr
      · show Qrm0 Z p0 A h0 n0 _ T89.heap _
        rw [e89]
        exact ⟨rfl, N89⟩
set_option maxRecDepth 65536 in
set_option maxHeartbeats 40000000 in
theorem comes_1 {Post : Tables → Env → Array Value → State → Outcome → State → Prop} (hpost : ∀ tb e args s v u, (limb_1_1.after args s (.returned v) u = true ∧ limb_1_2.after args s (.returned v) u = true ∧ True) → FrameEnd s (.returned v) u (Jvm.fieldLocs frame_1_writes args s ++ Jvm.arrayLocs frame_1_arrays args s ++ Jvm.staticLocs frame_1_statics s) 16 128 → Post tb e args s (.returned v) u) :
    ArmFor flags0 classFile x code maxLocals ret World_1 tables_1 room_1 Calls_1 rest_1 Pre_1 Post := by
  intro l hfl _ _ p e ha hc hk s m args below hf hA hF happ hP
  obtain ⟨hcalls, hrest, hpre⟩ := hP
  obtain ⟨-, -, -, hnamed, -, -, -, hat⟩ := (Spec.applies_iff hf).mp happ
  obtain ⟨hg, hn⟩ := and_e (Cond.before_iff.mp (show (Jvm.Cond.and given_1 narrow_1).before args s = true from hpre))
  obtain ⟨gg1, gg2⟩ := and_e hg
  obtain ⟨w0, rfl⟩ : ∃ w0 : Value, args = #[w0] := by
    have hs : args.size = 1 := by simpa [Cond.value, given_1] using gg1
    obtain ⟨L⟩ := args
    match L, hs with
    | [w0], _ => exact ⟨w0, rfl⟩
  have hw := fun d (hd : d ∈ tables_1) => atoms_spec (ws := Jvm.Cond.code x code maxLocals ret :: tables_1) hat d (List.mem_cons_of_mem _ hd)
  have hfit : Fit s := fun {y c} hc i hi => by
    obtain ⟨ha, rfl⟩ := Array.getElem?_eq_some_iff.mp hc
    have q := List.all_eq_true.mp ((Array.all_eq_true_iff_forall_mem.mp hF) _ (Array.getElem_mem ha)) i (List.mem_range.mpr hi)
    simpa [Array.getElem?_eq_getElem hi] using q
  obtain ⟨i0, ei0⟩ := is_v gg2
  obtain rfl : w0 = (.int i0) := Option.some.inj ei0
  obtain ⟨gg3, gg4⟩ := and_e hn
  obtain ⟨gg5, gg6⟩ := and_e gg4
  obtain ⟨gg7, gg8⟩ := and_e gg6
  obtain ⟨gg9, gg10⟩ := and_e gg8
  obtain ⟨gg11, gg12⟩ := and_e gg10
  obtain ⟨gg13, gg14⟩ := and_e gg12
  obtain ⟨gg15, gg16⟩ := and_e gg14
  obtain ⟨gg17, gg18⟩ := and_e gg16
  obtain ⟨gg19, gg20⟩ := and_e gg18
  obtain ⟨gg21, gg22⟩ := and_e gg20
  obtain ⟨gg23, gg24⟩ := and_e gg22
  obtain ⟨gg25, gg26⟩ := and_e gg24
  obtain ⟨gg27, gg28⟩ := and_e gg26
  obtain ⟨gg29, gg30⟩ := and_e gg28
  obtain ⟨gg31, gg32⟩ := and_e gg30
  obtain ⟨gg33, gg34⟩ := and_e gg32
  obtain ⟨gg35, gg36⟩ := and_e gg34
  obtain ⟨gg37, gg38⟩ := and_e gg36
  obtain ⟨gg39, gg40⟩ := and_e gg38
  obtain ⟨gg41, gg42⟩ := and_e gg40
  obtain ⟨gg43, gg44⟩ := and_e gg42
  obtain ⟨gg45, gg46⟩ := and_e gg44
  obtain ⟨gg47, gg48⟩ := and_e gg46
  obtain ⟨gg49, gg50⟩ := and_e gg48
  obtain ⟨gg51, gg52⟩ := and_e gg50
  obtain ⟨gg53, gg54⟩ := and_e gg52
  obtain ⟨gg55, gg56⟩ := and_e gg54
  obtain ⟨gg57, gg58⟩ := and_e gg56
  obtain ⟨gg59, gg60⟩ := and_e gg58
  obtain ⟨gg61, gg62⟩ := and_e gg60
  obtain ⟨gg63, gg64⟩ := and_e gg62
  obtain ⟨gg65, gg66⟩ := and_e gg64
  obtain ⟨gg67, gg68⟩ := and_e gg66
  obtain ⟨gg69, gg70⟩ := and_e gg68
  obtain ⟨gg71, gg72⟩ := and_e gg70
  obtain ⟨gg73, gg74⟩ := and_e gg72
  obtain ⟨gg75, gg76⟩ := and_e gg74
  obtain ⟨gg77, gg78⟩ := and_e gg76
  obtain ⟨gg79, gg80⟩ := and_e gg78
  obtain ⟨gg81, gg82⟩ := and_e gg80
  obtain ⟨gg83, gg84⟩ := and_e gg82
  obtain ⟨gg85, gg86⟩ := and_e gg84
  obtain ⟨gg87, gg88⟩ := and_e gg86
  obtain ⟨gg89, gg90⟩ := and_e gg88
  obtain ⟨gg91, gg92⟩ := and_e gg90
  obtain ⟨gg93, gg94⟩ := and_e gg92
  obtain ⟨gg95, gg96⟩ := and_e gg94
  obtain ⟨gg97, gg98⟩ := and_e gg96
  obtain ⟨gg99, gg100⟩ := and_e gg98
  obtain ⟨a_NULL, ev_NULL⟩ := exa_v gg3
  have E_NULL := Exa.start ev_NULL gg3
  have S_NULL := Sta.start ev_NULL (Or.inr ⟨(hw _ (List.mem_of_getElem? (i := 3) rfl)), (hw _ (List.mem_of_getElem? (i := 4) rfl))⟩)
  obtain ⟨a_BOOL, ev_BOOL⟩ := exa_v gg5
  have E_BOOL := Exa.start ev_BOOL gg5
  have S_BOOL := Sta.start ev_BOOL (Or.inr ⟨(hw _ (List.mem_of_getElem? (i := 3) rfl)), (hw _ (List.mem_of_getElem? (i := 7) rfl))⟩)
  obtain ⟨a_NAT, ev_NAT⟩ := exa_v gg7
  have E_NAT := Exa.start ev_NAT gg7
  have S_NAT := Sta.start ev_NAT (Or.inr ⟨(hw _ (List.mem_of_getElem? (i := 3) rfl)), (hw _ (List.mem_of_getElem? (i := 9) rfl))⟩)
  obtain ⟨a_INT, ev_INT⟩ := exa_v gg9
  have E_INT := Exa.start ev_INT gg9
  have S_INT := Sta.start ev_INT (Or.inr ⟨(hw _ (List.mem_of_getElem? (i := 3) rfl)), (hw _ (List.mem_of_getElem? (i := 11) rfl))⟩)
  obtain ⟨a_NAT8, ev_NAT8⟩ := exa_v gg11
  have E_NAT8 := Exa.start ev_NAT8 gg11
  have S_NAT8 := Sta.start ev_NAT8 (Or.inr ⟨(hw _ (List.mem_of_getElem? (i := 3) rfl)), (hw _ (List.mem_of_getElem? (i := 13) rfl))⟩)
  obtain ⟨a_NAT16, ev_NAT16⟩ := exa_v gg13
  have E_NAT16 := Exa.start ev_NAT16 gg13
  have S_NAT16 := Sta.start ev_NAT16 (Or.inr ⟨(hw _ (List.mem_of_getElem? (i := 3) rfl)), (hw _ (List.mem_of_getElem? (i := 15) rfl))⟩)
  obtain ⟨a_NAT32, ev_NAT32⟩ := exa_v gg15
  have E_NAT32 := Exa.start ev_NAT32 gg15
  have S_NAT32 := Sta.start ev_NAT32 (Or.inr ⟨(hw _ (List.mem_of_getElem? (i := 3) rfl)), (hw _ (List.mem_of_getElem? (i := 17) rfl))⟩)
  obtain ⟨a_NAT64, ev_NAT64⟩ := exa_v gg17
  have E_NAT64 := Exa.start ev_NAT64 gg17
  have S_NAT64 := Sta.start ev_NAT64 (Or.inr ⟨(hw _ (List.mem_of_getElem? (i := 3) rfl)), (hw _ (List.mem_of_getElem? (i := 19) rfl))⟩)
  obtain ⟨a_INT8, ev_INT8⟩ := exa_v gg19
  have E_INT8 := Exa.start ev_INT8 gg19
  have S_INT8 := Sta.start ev_INT8 (Or.inr ⟨(hw _ (List.mem_of_getElem? (i := 3) rfl)), (hw _ (List.mem_of_getElem? (i := 21) rfl))⟩)
  obtain ⟨a_INT16, ev_INT16⟩ := exa_v gg21
  have E_INT16 := Exa.start ev_INT16 gg21
  have S_INT16 := Sta.start ev_INT16 (Or.inr ⟨(hw _ (List.mem_of_getElem? (i := 3) rfl)), (hw _ (List.mem_of_getElem? (i := 23) rfl))⟩)
  obtain ⟨a_INT32, ev_INT32⟩ := exa_v gg23
  have E_INT32 := Exa.start ev_INT32 gg23
  have S_INT32 := Sta.start ev_INT32 (Or.inr ⟨(hw _ (List.mem_of_getElem? (i := 3) rfl)), (hw _ (List.mem_of_getElem? (i := 25) rfl))⟩)
  obtain ⟨a_INT64, ev_INT64⟩ := exa_v gg25
  have E_INT64 := Exa.start ev_INT64 gg25
  have S_INT64 := Sta.start ev_INT64 (Or.inr ⟨(hw _ (List.mem_of_getElem? (i := 3) rfl)), (hw _ (List.mem_of_getElem? (i := 27) rfl))⟩)
  obtain ⟨a_FLOAT32, ev_FLOAT32⟩ := exa_v gg27
  have E_FLOAT32 := Exa.start ev_FLOAT32 gg27
  have S_FLOAT32 := Sta.start ev_FLOAT32 (Or.inr ⟨(hw _ (List.mem_of_getElem? (i := 3) rfl)), (hw _ (List.mem_of_getElem? (i := 29) rfl))⟩)
  obtain ⟨a_FLOAT64, ev_FLOAT64⟩ := exa_v gg29
  have E_FLOAT64 := Exa.start ev_FLOAT64 gg29
  have S_FLOAT64 := Sta.start ev_FLOAT64 (Or.inr ⟨(hw _ (List.mem_of_getElem? (i := 3) rfl)), (hw _ (List.mem_of_getElem? (i := 31) rfl))⟩)
  obtain ⟨a_TEXT, ev_TEXT⟩ := exa_v gg31
  have E_TEXT := Exa.start ev_TEXT gg31
  have S_TEXT := Sta.start ev_TEXT (Or.inr ⟨(hw _ (List.mem_of_getElem? (i := 3) rfl)), (hw _ (List.mem_of_getElem? (i := 33) rfl))⟩)
  obtain ⟨a_RESERVED, ev_RESERVED⟩ := exa_v gg33
  have E_RESERVED := Exa.start ev_RESERVED gg33
  have S_RESERVED := Sta.start ev_RESERVED (Or.inr ⟨(hw _ (List.mem_of_getElem? (i := 3) rfl)), (hw _ (List.mem_of_getElem? (i := 35) rfl))⟩)
  obtain ⟨a_EMPTY, ev_EMPTY⟩ := exa_v gg35
  have E_EMPTY := Exa.start ev_EMPTY gg35
  have S_EMPTY := Sta.start ev_EMPTY (Or.inr ⟨(hw _ (List.mem_of_getElem? (i := 3) rfl)), (hw _ (List.mem_of_getElem? (i := 37) rfl))⟩)
  obtain ⟨a_OPT, ev_OPT⟩ := exa_v gg37
  have E_OPT := Exa.start ev_OPT gg37
  have S_OPT := Sta.start ev_OPT (Or.inr ⟨(hw _ (List.mem_of_getElem? (i := 3) rfl)), (hw _ (List.mem_of_getElem? (i := 39) rfl))⟩)
  obtain ⟨a_VEC, ev_VEC⟩ := exa_v gg39
  have E_VEC := Exa.start ev_VEC gg39
  have S_VEC := Sta.start ev_VEC (Or.inr ⟨(hw _ (List.mem_of_getElem? (i := 3) rfl)), (hw _ (List.mem_of_getElem? (i := 41) rfl))⟩)
  obtain ⟨a_RECORD, ev_RECORD⟩ := exa_v gg41
  have E_RECORD := Exa.start ev_RECORD gg41
  have S_RECORD := Sta.start ev_RECORD (Or.inr ⟨(hw _ (List.mem_of_getElem? (i := 3) rfl)), (hw _ (List.mem_of_getElem? (i := 43) rfl))⟩)
  obtain ⟨a_VARIANT, ev_VARIANT⟩ := exa_v gg43
  have E_VARIANT := Exa.start ev_VARIANT gg43
  have S_VARIANT := Sta.start ev_VARIANT (Or.inr ⟨(hw _ (List.mem_of_getElem? (i := 3) rfl)), (hw _ (List.mem_of_getElem? (i := 45) rfl))⟩)
  obtain ⟨a_FUNC, ev_FUNC⟩ := exa_v gg45
  have E_FUNC := Exa.start ev_FUNC gg45
  have S_FUNC := Sta.start ev_FUNC (Or.inr ⟨(hw _ (List.mem_of_getElem? (i := 3) rfl)), (hw _ (List.mem_of_getElem? (i := 47) rfl))⟩)
  obtain ⟨a_SERVICE, ev_SERVICE⟩ := exa_v gg47
  have E_SERVICE := Exa.start ev_SERVICE gg47
  have S_SERVICE := Sta.start ev_SERVICE (Or.inr ⟨(hw _ (List.mem_of_getElem? (i := 3) rfl)), (hw _ (List.mem_of_getElem? (i := 49) rfl))⟩)
  obtain ⟨a_PRINCIPAL, ev_PRINCIPAL⟩ := exa_v gg49
  have E_PRINCIPAL := Exa.start ev_PRINCIPAL gg49
  have S_PRINCIPAL := Sta.start ev_PRINCIPAL (Or.inr ⟨(hw _ (List.mem_of_getElem? (i := 3) rfl)), (hw _ (List.mem_of_getElem? (i := 51) rfl))⟩)
  obtain ⟨a_FUTURE, ev_FUTURE⟩ := exa_v gg51
  have E_FUTURE := Exa.start ev_FUTURE gg51
  have S_FUTURE := Sta.start ev_FUTURE (Or.inr ⟨(hw _ (List.mem_of_getElem? (i := 3) rfl)), (hw _ (List.mem_of_getElem? (i := 53) rfl))⟩)
  have F_NULL_ordinal := own_fld ev_NULL gg53
  have F_OPT_ordinal := own_fld ev_OPT gg55
  have F_VEC_ordinal := own_fld ev_VEC gg57
  have F_RECORD_ordinal := own_fld ev_RECORD gg59
  have F_VARIANT_ordinal := own_fld ev_VARIANT gg61
  have F_FUNC_ordinal := own_fld ev_FUNC gg63
  have F_SERVICE_ordinal := own_fld ev_SERVICE gg65
  have F_INT_ordinal := own_fld ev_INT gg67
  have F_INT32_ordinal := own_fld ev_INT32 gg69
  have F_NAT32_ordinal := own_fld ev_NAT32 gg71
  have F_FUTURE_ordinal := own_fld ev_FUTURE gg73
  have F_NAT64_ordinal := own_fld ev_NAT64 gg75
  have F_NAT_ordinal := own_fld ev_NAT gg77
  have F_INT64_ordinal := own_fld ev_INT64 gg79
  have F_INT8_ordinal := own_fld ev_INT8 gg81
  have F_BOOL_ordinal := own_fld ev_BOOL gg83
  have F_RESERVED_ordinal := own_fld ev_RESERVED gg85
  have F_EMPTY_ordinal := own_fld ev_EMPTY gg87
  have F_FLOAT32_ordinal := own_fld ev_FLOAT32 gg89
  have F_NAT16_ordinal := own_fld ev_NAT16 gg91
  have F_PRINCIPAL_ordinal := own_fld ev_PRINCIPAL gg93
  have F_INT16_ordinal := own_fld ev_INT16 gg95
  have F_TEXT_ordinal := own_fld ev_TEXT gg97
  have F_NAT8_ordinal := own_fld ev_NAT8 gg99
  have F_FLOAT64_ordinal := own_fld ev_FLOAT64 gg100
  have hE : ∀ i : Int32, (i = (0 : Int32) ∨ i = (1 : Int32) ∨ i = (2 : Int32) ∨ i = (3 : Int32) ∨ i = (4 : Int32) ∨ i = (5 : Int32) ∨ i = (6 : Int32) ∨ i = (7 : Int32) ∨ i = (8 : Int32) ∨ i = (9 : Int32) ∨ i = (10 : Int32) ∨ i = (11 : Int32) ∨ i = (12 : Int32) ∨ i = (13 : Int32) ∨ i = (14 : Int32) ∨ i = (15 : Int32) ∨ i = (16 : Int32) ∨ i = (17 : Int32) ∨ i = (18 : Int32) ∨ i = (19 : Int32) ∨ i = (20 : Int32) ∨ i = (21 : Int32) ∨ i = (22 : Int32) ∨ i = (23 : Int32) ∨ i = (24 : Int32)) → Exa s s.heap (own_A a_NULL a_BOOL a_NAT a_INT a_NAT8 a_NAT16 a_NAT32 a_NAT64 a_INT8 a_INT16 a_INT32 a_INT64 a_FLOAT32 a_FLOAT64 a_TEXT a_RESERVED a_EMPTY a_OPT a_VEC a_RECORD a_VARIANT a_FUNC a_SERVICE a_PRINCIPAL a_FUTURE i) "com/example/safe_node_calls/safenodecalls/ic/candid/CandidType$Kind" := by
    intro i hi
    rcases hi with rfl | rfl | rfl | rfl | rfl | rfl | rfl | rfl | rfl | rfl | rfl | rfl | rfl | rfl | rfl | rfl | rfl | rfl | rfl | rfl | rfl | rfl | rfl | rfl | rfl
    · exact E_NULL
    · exact E_BOOL
    · exact E_NAT
    · exact E_INT
    · exact E_NAT8
    · exact E_NAT16
    · exact E_NAT32
    · exact E_NAT64
    · exact E_INT8
    · exact E_INT16
    · exact E_INT32
    · exact E_INT64
    · exact E_FLOAT32
    · exact E_FLOAT64
    · exact E_TEXT
    · exact E_RESERVED
    · exact E_EMPTY
    · exact E_OPT
    · exact E_VEC
    · exact E_RECORD
    · exact E_VARIANT
    · exact E_FUNC
    · exact E_SERVICE
    · exact E_PRINCIPAL
    · exact E_FUTURE
  obtain ⟨n, o, h1, h2, h3, _, L, rfl, ⟨rfl, N⟩, hq⟩ := rm0 l s _ hw tables_1 i0 (own_A a_NULL a_BOOL a_NAT a_INT a_NAT8 a_NAT16 a_NAT32 a_NAT64 a_INT8 a_INT16 a_INT32 a_INT64 a_FLOAT32 a_FLOAT64 a_TEXT a_RESERVED a_EMPTY a_OPT a_VEC a_RECORD a_VARIANT a_FUNC a_SERVICE a_PRINCIPAL a_FUTURE) s.heap s.heap.size (Old.start s) S_NULL S_BOOL S_NAT S_INT S_NAT8 S_NAT16 S_NAT32 S_NAT64 S_INT8 S_INT16 S_INT32 S_INT64 S_FLOAT32 S_FLOAT64 S_TEXT S_RESERVED S_EMPTY S_OPT S_VEC S_RECORD S_VARIANT S_FUNC S_SERVICE S_PRINCIPAL S_FUTURE hE (F_NULL_ordinal.ne F_OPT_ordinal (by decide)) (F_NULL_ordinal.ne F_VEC_ordinal (by decide)) (F_NULL_ordinal.ne F_RECORD_ordinal (by decide)) (F_NULL_ordinal.ne F_VARIANT_ordinal (by decide)) (F_NULL_ordinal.ne F_FUNC_ordinal (by decide)) (F_NULL_ordinal.ne F_SERVICE_ordinal (by decide)) (F_BOOL_ordinal.ne F_OPT_ordinal (by decide)) (F_BOOL_ordinal.ne F_VEC_ordinal (by decide)) (F_BOOL_ordinal.ne F_RECORD_ordinal (by decide)) (F_BOOL_ordinal.ne F_VARIANT_ordinal (by decide)) (F_BOOL_ordinal.ne F_FUNC_ordinal (by decide)) (F_BOOL_ordinal.ne F_SERVICE_ordinal (by decide)) (F_NAT_ordinal.ne F_OPT_ordinal (by decide)) (F_NAT_ordinal.ne F_VEC_ordinal (by decide)) (F_NAT_ordinal.ne F_RECORD_ordinal (by decide)) (F_NAT_ordinal.ne F_VARIANT_ordinal (by decide)) (F_NAT_ordinal.ne F_FUNC_ordinal (by decide)) (F_NAT_ordinal.ne F_SERVICE_ordinal (by decide)) (F_INT_ordinal.ne F_OPT_ordinal (by decide)) (F_INT_ordinal.ne F_VEC_ordinal (by decide)) (F_INT_ordinal.ne F_RECORD_ordinal (by decide)) (F_INT_ordinal.ne F_VARIANT_ordinal (by decide)) (F_INT_ordinal.ne F_FUNC_ordinal (by decide)) (F_INT_ordinal.ne F_SERVICE_ordinal (by decide)) (F_NAT8_ordinal.ne F_OPT_ordinal (by decide)) (F_NAT8_ordinal.ne F_VEC_ordinal (by decide)) (F_NAT8_ordinal.ne F_RECORD_ordinal (by decide)) (F_NAT8_ordinal.ne F_VARIANT_ordinal (by decide)) (F_NAT8_ordinal.ne F_FUNC_ordinal (by decide)) (F_NAT8_ordinal.ne F_SERVICE_ordinal (by decide)) (F_NAT16_ordinal.ne F_OPT_ordinal (by decide)) (F_NAT16_ordinal.ne F_VEC_ordinal (by decide)) (F_NAT16_ordinal.ne F_RECORD_ordinal (by decide)) (F_NAT16_ordinal.ne F_VARIANT_ordinal (by decide)) (F_NAT16_ordinal.ne F_FUNC_ordinal (by decide)) (F_NAT16_ordinal.ne F_SERVICE_ordinal (by decide)) (F_NAT32_ordinal.ne F_OPT_ordinal (by decide)) (F_NAT32_ordinal.ne F_VEC_ordinal (by decide)) (F_NAT32_ordinal.ne F_RECORD_ordinal (by decide)) (F_NAT32_ordinal.ne F_VARIANT_ordinal (by decide)) (F_NAT32_ordinal.ne F_FUNC_ordinal (by decide)) (F_NAT32_ordinal.ne F_SERVICE_ordinal (by decide)) (F_NAT64_ordinal.ne F_OPT_ordinal (by decide)) (F_NAT64_ordinal.ne F_VEC_ordinal (by decide)) (F_NAT64_ordinal.ne F_RECORD_ordinal (by decide)) (F_NAT64_ordinal.ne F_VARIANT_ordinal (by decide)) (F_NAT64_ordinal.ne F_FUNC_ordinal (by decide)) (F_NAT64_ordinal.ne F_SERVICE_ordinal (by decide)) (F_INT8_ordinal.ne F_OPT_ordinal (by decide)) (F_INT8_ordinal.ne F_VEC_ordinal (by decide)) (F_INT8_ordinal.ne F_RECORD_ordinal (by decide)) (F_INT8_ordinal.ne F_VARIANT_ordinal (by decide)) (F_INT8_ordinal.ne F_FUNC_ordinal (by decide)) (F_INT8_ordinal.ne F_SERVICE_ordinal (by decide)) (F_INT16_ordinal.ne F_OPT_ordinal (by decide)) (F_INT16_ordinal.ne F_VEC_ordinal (by decide)) (F_INT16_ordinal.ne F_RECORD_ordinal (by decide)) (F_INT16_ordinal.ne F_VARIANT_ordinal (by decide)) (F_INT16_ordinal.ne F_FUNC_ordinal (by decide)) (F_INT16_ordinal.ne F_SERVICE_ordinal (by decide)) (F_INT32_ordinal.ne F_OPT_ordinal (by decide)) (F_INT32_ordinal.ne F_VEC_ordinal (by decide)) (F_INT32_ordinal.ne F_RECORD_ordinal (by decide)) (F_INT32_ordinal.ne F_VARIANT_ordinal (by decide)) (F_INT32_ordinal.ne F_FUNC_ordinal (by decide)) (F_INT32_ordinal.ne F_SERVICE_ordinal (by decide)) (F_INT64_ordinal.ne F_OPT_ordinal (by decide)) (F_INT64_ordinal.ne F_VEC_ordinal (by decide)) (F_INT64_ordinal.ne F_RECORD_ordinal (by decide)) (F_INT64_ordinal.ne F_VARIANT_ordinal (by decide)) (F_INT64_ordinal.ne F_FUNC_ordinal (by decide)) (F_INT64_ordinal.ne F_SERVICE_ordinal (by decide)) (F_FLOAT32_ordinal.ne F_OPT_ordinal (by decide)) (F_FLOAT32_ordinal.ne F_VEC_ordinal (by decide)) (F_FLOAT32_ordinal.ne F_RECORD_ordinal (by decide)) (F_FLOAT32_ordinal.ne F_VARIANT_ordinal (by decide)) (F_FLOAT32_ordinal.ne F_FUNC_ordinal (by decide)) (F_FLOAT32_ordinal.ne F_SERVICE_ordinal (by decide)) (F_FLOAT64_ordinal.ne F_OPT_ordinal (by decide)) (F_FLOAT64_ordinal.ne F_VEC_ordinal (by decide)) (F_FLOAT64_ordinal.ne F_RECORD_ordinal (by decide)) (F_FLOAT64_ordinal.ne F_VARIANT_ordinal (by decide)) (F_FLOAT64_ordinal.ne F_FUNC_ordinal (by decide)) (F_FLOAT64_ordinal.ne F_SERVICE_ordinal (by decide)) (F_TEXT_ordinal.ne F_OPT_ordinal (by decide)) (F_TEXT_ordinal.ne F_VEC_ordinal (by decide)) (F_TEXT_ordinal.ne F_RECORD_ordinal (by decide)) (F_TEXT_ordinal.ne F_VARIANT_ordinal (by decide)) (F_TEXT_ordinal.ne F_FUNC_ordinal (by decide)) (F_TEXT_ordinal.ne F_SERVICE_ordinal (by decide)) (F_RESERVED_ordinal.ne F_OPT_ordinal (by decide)) (F_RESERVED_ordinal.ne F_VEC_ordinal (by decide)) (F_RESERVED_ordinal.ne F_RECORD_ordinal (by decide)) (F_RESERVED_ordinal.ne F_VARIANT_ordinal (by decide)) (F_RESERVED_ordinal.ne F_FUNC_ordinal (by decide)) (F_RESERVED_ordinal.ne F_SERVICE_ordinal (by decide)) (F_EMPTY_ordinal.ne F_OPT_ordinal (by decide)) (F_EMPTY_ordinal.ne F_VEC_ordinal (by decide)) (F_EMPTY_ordinal.ne F_RECORD_ordinal (by decide)) (F_EMPTY_ordinal.ne F_VARIANT_ordinal (by decide)) (F_EMPTY_ordinal.ne F_FUNC_ordinal (by decide)) (F_EMPTY_ordinal.ne F_SERVICE_ordinal (by decide)) (F_VEC_ordinal.ne F_OPT_ordinal (by decide)) (F_RECORD_ordinal.ne F_OPT_ordinal (by decide)) (F_RECORD_ordinal.ne F_VEC_ordinal (by decide)) (F_VARIANT_ordinal.ne F_OPT_ordinal (by decide)) (F_VARIANT_ordinal.ne F_VEC_ordinal (by decide)) (F_VARIANT_ordinal.ne F_RECORD_ordinal (by decide)) (F_FUNC_ordinal.ne F_OPT_ordinal (by decide)) (F_FUNC_ordinal.ne F_VEC_ordinal (by decide)) (F_FUNC_ordinal.ne F_RECORD_ordinal (by decide)) (F_FUNC_ordinal.ne F_VARIANT_ordinal (by decide)) (F_SERVICE_ordinal.ne F_OPT_ordinal (by decide)) (F_SERVICE_ordinal.ne F_VEC_ordinal (by decide)) (F_SERVICE_ordinal.ne F_RECORD_ordinal (by decide)) (F_SERVICE_ordinal.ne F_VARIANT_ordinal (by decide)) (F_SERVICE_ordinal.ne F_FUNC_ordinal (by decide)) (F_PRINCIPAL_ordinal.ne F_OPT_ordinal (by decide)) (F_PRINCIPAL_ordinal.ne F_VEC_ordinal (by decide)) (F_PRINCIPAL_ordinal.ne F_RECORD_ordinal (by decide)) (F_PRINCIPAL_ordinal.ne F_VARIANT_ordinal (by decide)) (F_PRINCIPAL_ordinal.ne F_FUNC_ordinal (by decide)) (F_PRINCIPAL_ordinal.ne F_SERVICE_ordinal (by decide)) (F_FUTURE_ordinal.ne F_OPT_ordinal (by decide)) (F_FUTURE_ordinal.ne F_VEC_ordinal (by decide)) (F_FUTURE_ordinal.ne F_RECORD_ordinal (by decide)) (F_FUTURE_ordinal.ne F_VARIANT_ordinal (by decide)) (F_FUTURE_ordinal.ne F_FUNC_ordinal (by decide)) (F_FUTURE_ordinal.ne F_SERVICE_ordinal (by decide)) p e ha hc hk s m _ below hf ((Spec.applies_iff_loose hf).mp happ).1 ⟨rfl, State.Warmed39.refl s, rfl⟩ trivial
  refine ⟨n, _, h1, h2, h3, hpost _ _ _ _ _ _ ⟨Cond.after_iff.mpr rfl, Cond.after_iff.mpr (eq_i res_at (Term.int_eval (1)) rfl), trivial⟩ ⟨hq.1, hq.2.1, (hq.2.2.sift fun y hy => Or.inr (N y hy)).mono (by decide) (by decide)⟩⟩
theorem main_1_1 : Claimed_1_1 := comes_1 fun _ _ _ _ _ _ h hF => ⟨h.1, hF⟩
theorem main_1_2 : Claimed_1_2 := comes_1 fun _ _ _ _ _ _ h hF => ⟨h.2.1, hF⟩
end Jvm.Pilot.@@N@@
namespace Jvm.Pilot.@@N@@
open Jvm Jvm.ClassFile Sem Op Lib Jvm.Free Jvm.Stand Jvm.Pilot.@@N@@.Jvm.D
/-! MADE BY PROGRAM (witnessworld.py) out of the Statement's table words and the real class files: 13 classes; the members and pool entries that the words name. The judged class is class 1, her method 1. -/
namespace start1
open Jvm.ClassFile
def u (s : String) : CpInfo := .utf8 (stringToUtf16 s)
/-- a pool by its gaps: so many unusable entries, then the entry; so many at the end -/
def gap : Nat → List CpInfo → List CpInfo
  | 0, r => r
  | n + 1, r => .unusable :: gap n r
def poolList (es : List (Nat × CpInfo)) (last : Nat) : List CpInfo := es.foldr (fun e r => gap e.1 (e.2 :: r)) (gap last [])
def pool (es : List (Nat × CpInfo)) (last : Nat) : Array CpInfo := ⟨poolList es last⟩
def fileOf (pool : Array CpInfo) (this : Nat) (attrs : Array Attribute := #[]) (ms : Array MethodInfo := #[]) (fl : Nat := 33) (sup : Nat := 0) (ifs : Array Nat := #[]) (fds : Array FieldInfo := #[]) : ClassFile where
  minorVersion := 0
  majorVersion := 65
  constantPool := pool
  accessFlags := fl
  thisClass := this
  superClass := sup
  interfaces := ifs
  fields := fds
  methods := ms
  attributes := attrs
def plain (name : String) (sup : Option ClassId) : Class where
  name := name
  kind := .ordinary
  loader := none
  accessFlags := 33
  super := sup
  interfaces := #[]
  cf := none
  fields := #[]
  methods := #[]
  instanceTypes := #[]
  staticTypes := #[]
  resolved := #[]
  callSites := []
  init := .initialized
  statics := none
  mirror := none

def pool0 : Array CpInfo := pool [(5, u "<init>"), (0, u "()V"), (1, .class_ 10), (1, u "java/lang/Object")] 113

def k0m0 : Method := { name := "<init>", desc := "()V", sig := { parameters := [], returnType := none }, accessFlags := 1, code := none }
/-- java/lang/Object -/
def k0 : Class := { plain "java/lang/Object" none with
  accessFlags := 33
  interfaces := #[]
  cf := some (fileOf pool0 8 #[] #[{ accessFlags := 1, nameIndex := 5, descriptorIndex := 6, attributes := #[] }] 33 0 #[] #[])
  fields := #[]
  methods := #[k0m0]
  instanceTypes := #[]
  staticTypes := #[]
  resolved := Array.replicate 124 none
  statics := none }

def pool1 : Array CpInfo := pool [(2, .class_ 4), (1, u "java/lang/Object"), (0, u "<init>"), (0, u "()V"), (0, .class_ 8), (0, u "com/example/safe_node_calls/safenodecalls/ic/candid/CandidType$Kind"), (0, .fieldref 7 10), (0, .nameAndType 11 12), (0, u "NULL"), (0, u "Lcom/example/safe_node_calls/safenodecalls/ic/candid/CandidType$Kind;"), (0, .fieldref 7 14), (0, .nameAndType 15 12), (0, u "BOOL"), (0, .fieldref 7 17), (0, .nameAndType 18 12), (0, u "NAT"), (0, .fieldref 7 20), (0, .nameAndType 21 12), (0, u "INT"), (0, .fieldref 7 23), (0, .nameAndType 24 12), (0, u "NAT8"), (0, .fieldref 7 26), (0, .nameAndType 27 12), (0, u "NAT16"), (0, .fieldref 7 29), (0, .nameAndType 30 12), (0, u "NAT32"), (0, .fieldref 7 32), (0, .nameAndType 33 12), (0, u "NAT64"), (0, .fieldref 7 35), (0, .nameAndType 36 12), (0, u "INT8"), (0, .fieldref 7 38), (0, .nameAndType 39 12), (0, u "INT16"), (0, .fieldref 7 41), (0, .nameAndType 42 12), (0, u "INT32"), (0, .fieldref 7 44), (0, .nameAndType 45 12), (0, u "INT64"), (0, .fieldref 7 47), (0, .nameAndType 48 12), (0, u "FLOAT32"), (0, .fieldref 7 50), (0, .nameAndType 51 12), (0, u "FLOAT64"), (0, .fieldref 7 53), (0, .nameAndType 54 12), (0, u "TEXT"), (0, .fieldref 7 56), (0, .nameAndType 57 12), (0, u "RESERVED"), (0, .fieldref 7 59), (0, .nameAndType 60 12), (0, u "EMPTY"), (0, .fieldref 7 62), (0, .nameAndType 63 12), (0, u "OPT"), (0, .fieldref 7 65), (0, .nameAndType 66 12), (0, u "VEC"), (0, .fieldref 7 68), (0, .nameAndType 69 12), (0, u "RECORD"), (0, .fieldref 7 71), (0, .nameAndType 72 12), (0, u "VARIANT"), (0, .fieldref 7 74), (0, .nameAndType 75 12), (0, u "FUNC"), (0, .fieldref 7 77), (0, .nameAndType 78 12), (0, u "SERVICE"), (0, .fieldref 7 80), (0, .nameAndType 81 12), (0, u "PRINCIPAL"), (0, .fieldref 7 83), (0, .nameAndType 84 12), (0, u "FUTURE"), (0, .integer 2147483647), (0, .methodref 7 87), (0, .nameAndType 88 89), (0, u "isStructured"), (0, u "()Z"), (0, .class_ 91), (0, u "com/example/safe_node_calls/safenodecalls/ic/candid/KindIsStructuredPinLaw"), (2, u "law"), (0, u "(I)Z")] 9

def k1m0 : Method := { name := "<init>", desc := "()V", sig := { parameters := [], returnType := none }, accessFlags := 1, code := none }
def k1c1 : Code := { maxStack := 4, maxLocals := 4, code := code, exceptionTable := #[], attributes := #[] }
def k1m1 : Method := { name := "law", desc := "(I)Z", sig := { parameters := [.int], returnType := some .boolean }, accessFlags := 9, code := some k1c1 }
/-- com/example/safe_node_calls/safenodecalls/ic/candid/KindIsStructuredPinLaw -/
def k1 : Class := { plain "com/example/safe_node_calls/safenodecalls/ic/candid/KindIsStructuredPinLaw" (some 0) with
  accessFlags := 49
  interfaces := #[]
  cf := some (fileOf pool1 90 #[] #[{ accessFlags := 1, nameIndex := 5, descriptorIndex := 6, attributes := #[] }, { accessFlags := 9, nameIndex := 94, descriptorIndex := 95, attributes := #[] }] 49 2 #[] #[])
  fields := #[]
  methods := #[k1m0, k1m1]
  instanceTypes := #[]
  staticTypes := #[]
  resolved := Array.replicate 105 none
  statics := none }

def pool2 : Array CpInfo := pool [(1, .class_ 2), (0, u "java/lang/constant/Constable"), (0, .class_ 4), (0, u "java/lang/Object")] 6

/-- java/lang/constant/Constable -/
def k2 : Class := { plain "java/lang/constant/Constable" (some 0) with
  accessFlags := 1537
  interfaces := #[]
  cf := some (fileOf pool2 1 #[] #[] 1537 3 #[] #[])
  fields := #[]
  methods := #[]
  instanceTypes := #[]
  staticTypes := #[]
  resolved := Array.replicate 11 none
  statics := none }

def pool3 : Array CpInfo := pool [(1, .class_ 2), (0, u "java/lang/Comparable"), (0, .class_ 4), (0, u "java/lang/Object")] 7

/-- java/lang/Comparable -/
def k3 : Class := { plain "java/lang/Comparable" (some 0) with
  accessFlags := 1537
  interfaces := #[]
  cf := some (fileOf pool3 1 #[] #[] 1537 3 #[] #[])
  fields := #[]
  methods := #[]
  instanceTypes := #[]
  staticTypes := #[]
  resolved := Array.replicate 12 none
  statics := none }

def pool4 : Array CpInfo := pool [(1, .class_ 2), (0, u "java/io/Serializable"), (0, .class_ 4), (0, u "java/lang/Object")] 2

/-- java/io/Serializable -/
def k4 : Class := { plain "java/io/Serializable" (some 0) with
  accessFlags := 1537
  interfaces := #[]
  cf := some (fileOf pool4 1 #[] #[] 1537 3 #[] #[])
  fields := #[]
  methods := #[]
  instanceTypes := #[]
  staticTypes := #[]
  resolved := Array.replicate 7 none
  statics := none }

def pool5 : Array CpInfo := pool [(2, .class_ 4), (1, u "java/lang/Enum"), (0, u "name"), (0, u "Ljava/lang/String;"), (2, u "ordinal"), (0, u "I"), (1, .class_ 14), (1, u "java/lang/Object"), (4, u "hash"), (86, .class_ 108), (1, u "java/lang/Enum$EnumDesc"), (2, .class_ 112), (0, u "java/lang/constant/Constable"), (0, .class_ 114), (0, u "java/lang/Comparable"), (0, .class_ 116), (0, u "java/io/Serializable")] 87

/-- java/lang/Enum -/
def k5 : Class := { plain "java/lang/Enum" (some 0) with
  accessFlags := 1057
  interfaces := #[2, 3, 4]
  cf := some (fileOf pool5 2 #[.nestMembers #[106]] #[] 1057 12 #[111, 113, 115] #[{ accessFlags := 18, nameIndex := 5, descriptorIndex := 6, attributes := #[] }, { accessFlags := 18, nameIndex := 9, descriptorIndex := 10, attributes := #[] }, { accessFlags := 2, nameIndex := 19, descriptorIndex := 10, attributes := #[] }])
  fields := #[{ name := "name", type := (.object "java/lang/String"), accessFlags := 18, slot := 0, constantValue := 0 }, { name := "ordinal", type := .int, accessFlags := 18, slot := 1, constantValue := 0 }, { name := "hash", type := .int, accessFlags := 2, slot := 2, constantValue := 0 }]
  methods := #[]
  instanceTypes := #[(.object "java/lang/String"), .int, .int]
  staticTypes := #[]
  resolved := Array.replicate 204 none
  statics := none }

def pool6 : Array CpInfo := pool [(1, .class_ 2), (0, u "com/example/safe_node_calls/safenodecalls/ic/candid/CandidType$Kind"), (2, u "NULL"), (0, u "Lcom/example/safe_node_calls/safenodecalls/ic/candid/CandidType$Kind;"), (2, u "BOOL"), (2, u "NAT"), (2, u "INT"), (2, u "NAT8"), (2, u "NAT16"), (2, u "NAT32"), (2, u "NAT64"), (2, u "INT8"), (2, u "INT16"), (2, u "INT32"), (2, u "INT64"), (2, u "FLOAT32"), (2, u "FLOAT64"), (2, u "TEXT"), (2, u "RESERVED"), (2, u "EMPTY"), (0, .fieldref 1 56), (0, .nameAndType 57 6), (0, u "OPT"), (0, .fieldref 1 59), (0, .nameAndType 60 6), (0, u "VEC"), (0, .fieldref 1 62), (0, .nameAndType 63 6), (0, u "RECORD"), (0, .fieldref 1 65), (0, .nameAndType 66 6), (0, u "VARIANT"), (0, .fieldref 1 68), (0, .nameAndType 69 6), (0, u "FUNC"), (0, .fieldref 1 71), (0, .nameAndType 72 6), (0, u "SERVICE"), (2, u "PRINCIPAL"), (2, u "FUTURE"), (2, u "$VALUES"), (0, u "[Lcom/example/safe_node_calls/safenodecalls/ic/candid/CandidType$Kind;"), (6, .class_ 91), (1, u "java/lang/Enum"), (11, u "opcode"), (0, u "I"), (2, u "keyword"), (0, u "Ljava/lang/String;"), (2, u "bits"), (2, u "signed"), (0, u "Z"), (17, u "BY_OPCODE"), (6, u "BY_KEYWORD"), (0, u "Ljava/util/Map;"), (119, u "()Z"), (1, u "isStructured"), (18, .class_ 283), (0, u "com/example/safe_node_calls/safenodecalls/ic/candid/CandidType")] 2

def k6c0 : Code := { maxStack := 2, maxLocals := 1, code := prog_59_method_8_code, exceptionTable := #[], attributes := #[] }
def k6m0 : Method := { name := "isStructured", desc := "()Z", sig := { parameters := [], returnType := some .boolean }, accessFlags := 0, code := some k6c0 }
/-- com/example/safe_node_calls/safenodecalls/ic/candid/CandidType$Kind -/
def k6 : Class := { plain "com/example/safe_node_calls/safenodecalls/ic/candid/CandidType$Kind" (some 5) with
  accessFlags := 16433
  interfaces := #[]
  cf := some (fileOf pool6 1 #[.nestHost 282] #[{ accessFlags := 0, nameIndex := 263, descriptorIndex := 261, attributes := #[] }] 16433 89 #[] #[{ accessFlags := 16409, nameIndex := 5, descriptorIndex := 6, attributes := #[] }, { accessFlags := 16409, nameIndex := 9, descriptorIndex := 6, attributes := #[] }, { accessFlags := 16409, nameIndex := 12, descriptorIndex := 6, attributes := #[] }, { accessFlags := 16409, nameIndex := 15, descriptorIndex := 6, attributes := #[] }, { accessFlags := 16409, nameIndex := 18, descriptorIndex := 6, attributes := #[] }, { accessFlags := 16409, nameIndex := 21, descriptorIndex := 6, attributes := #[] }, { accessFlags := 16409, nameIndex := 24, descriptorIndex := 6, attributes := #[] }, { accessFlags := 16409, nameIndex := 27, descriptorIndex := 6, attributes := #[] }, { accessFlags := 16409, nameIndex := 30, descriptorIndex := 6, attributes := #[] }, { accessFlags := 16409, nameIndex := 33, descriptorIndex := 6, attributes := #[] }, { accessFlags := 16409, nameIndex := 36, descriptorIndex := 6, attributes := #[] }, { accessFlags := 16409, nameIndex := 39, descriptorIndex := 6, attributes := #[] }, { accessFlags := 16409, nameIndex := 42, descriptorIndex := 6, attributes := #[] }, { accessFlags := 16409, nameIndex := 45, descriptorIndex := 6, attributes := #[] }, { accessFlags := 16409, nameIndex := 48, descriptorIndex := 6, attributes := #[] }, { accessFlags := 16409, nameIndex := 51, descriptorIndex := 6, attributes := #[] }, { accessFlags := 16409, nameIndex := 54, descriptorIndex := 6, attributes := #[] }, { accessFlags := 16409, nameIndex := 57, descriptorIndex := 6, attributes := #[] }, { accessFlags := 16409, nameIndex := 60, descriptorIndex := 6, attributes := #[] }, { accessFlags := 16409, nameIndex := 63, descriptorIndex := 6, attributes := #[] }, { accessFlags := 16409, nameIndex := 66, descriptorIndex := 6, attributes := #[] }, { accessFlags := 16409, nameIndex := 69, descriptorIndex := 6, attributes := #[] }, { accessFlags := 16409, nameIndex := 72, descriptorIndex := 6, attributes := #[] }, { accessFlags := 16409, nameIndex := 75, descriptorIndex := 6, attributes := #[] }, { accessFlags := 16409, nameIndex := 78, descriptorIndex := 6, attributes := #[] }, { accessFlags := 26, nameIndex := 133, descriptorIndex := 82, attributes := #[] }, { accessFlags := 26, nameIndex := 140, descriptorIndex := 141, attributes := #[] }, { accessFlags := 18, nameIndex := 103, descriptorIndex := 104, attributes := #[] }, { accessFlags := 18, nameIndex := 107, descriptorIndex := 108, attributes := #[] }, { accessFlags := 18, nameIndex := 111, descriptorIndex := 104, attributes := #[] }, { accessFlags := 18, nameIndex := 114, descriptorIndex := 115, attributes := #[] }, { accessFlags := 4122, nameIndex := 81, descriptorIndex := 82, attributes := #[] }])
  fields := #[{ name := "NULL", type := (.object "com/example/safe_node_calls/safenodecalls/ic/candid/CandidType$Kind"), accessFlags := 16409, slot := 0, constantValue := 0 }, { name := "BOOL", type := (.object "com/example/safe_node_calls/safenodecalls/ic/candid/CandidType$Kind"), accessFlags := 16409, slot := 1, constantValue := 0 }, { name := "NAT", type := (.object "com/example/safe_node_calls/safenodecalls/ic/candid/CandidType$Kind"), accessFlags := 16409, slot := 2, constantValue := 0 }, { name := "INT", type := (.object "com/example/safe_node_calls/safenodecalls/ic/candid/CandidType$Kind"), accessFlags := 16409, slot := 3, constantValue := 0 }, { name := "NAT8", type := (.object "com/example/safe_node_calls/safenodecalls/ic/candid/CandidType$Kind"), accessFlags := 16409, slot := 4, constantValue := 0 }, { name := "NAT16", type := (.object "com/example/safe_node_calls/safenodecalls/ic/candid/CandidType$Kind"), accessFlags := 16409, slot := 5, constantValue := 0 }, { name := "NAT32", type := (.object "com/example/safe_node_calls/safenodecalls/ic/candid/CandidType$Kind"), accessFlags := 16409, slot := 6, constantValue := 0 }, { name := "NAT64", type := (.object "com/example/safe_node_calls/safenodecalls/ic/candid/CandidType$Kind"), accessFlags := 16409, slot := 7, constantValue := 0 }, { name := "INT8", type := (.object "com/example/safe_node_calls/safenodecalls/ic/candid/CandidType$Kind"), accessFlags := 16409, slot := 8, constantValue := 0 }, { name := "INT16", type := (.object "com/example/safe_node_calls/safenodecalls/ic/candid/CandidType$Kind"), accessFlags := 16409, slot := 9, constantValue := 0 }, { name := "INT32", type := (.object "com/example/safe_node_calls/safenodecalls/ic/candid/CandidType$Kind"), accessFlags := 16409, slot := 10, constantValue := 0 }, { name := "INT64", type := (.object "com/example/safe_node_calls/safenodecalls/ic/candid/CandidType$Kind"), accessFlags := 16409, slot := 11, constantValue := 0 }, { name := "FLOAT32", type := (.object "com/example/safe_node_calls/safenodecalls/ic/candid/CandidType$Kind"), accessFlags := 16409, slot := 12, constantValue := 0 }, { name := "FLOAT64", type := (.object "com/example/safe_node_calls/safenodecalls/ic/candid/CandidType$Kind"), accessFlags := 16409, slot := 13, constantValue := 0 }, { name := "TEXT", type := (.object "com/example/safe_node_calls/safenodecalls/ic/candid/CandidType$Kind"), accessFlags := 16409, slot := 14, constantValue := 0 }, { name := "RESERVED", type := (.object "com/example/safe_node_calls/safenodecalls/ic/candid/CandidType$Kind"), accessFlags := 16409, slot := 15, constantValue := 0 }, { name := "EMPTY", type := (.object "com/example/safe_node_calls/safenodecalls/ic/candid/CandidType$Kind"), accessFlags := 16409, slot := 16, constantValue := 0 }, { name := "OPT", type := (.object "com/example/safe_node_calls/safenodecalls/ic/candid/CandidType$Kind"), accessFlags := 16409, slot := 17, constantValue := 0 }, { name := "VEC", type := (.object "com/example/safe_node_calls/safenodecalls/ic/candid/CandidType$Kind"), accessFlags := 16409, slot := 18, constantValue := 0 }, { name := "RECORD", type := (.object "com/example/safe_node_calls/safenodecalls/ic/candid/CandidType$Kind"), accessFlags := 16409, slot := 19, constantValue := 0 }, { name := "VARIANT", type := (.object "com/example/safe_node_calls/safenodecalls/ic/candid/CandidType$Kind"), accessFlags := 16409, slot := 20, constantValue := 0 }, { name := "FUNC", type := (.object "com/example/safe_node_calls/safenodecalls/ic/candid/CandidType$Kind"), accessFlags := 16409, slot := 21, constantValue := 0 }, { name := "SERVICE", type := (.object "com/example/safe_node_calls/safenodecalls/ic/candid/CandidType$Kind"), accessFlags := 16409, slot := 22, constantValue := 0 }, { name := "PRINCIPAL", type := (.object "com/example/safe_node_calls/safenodecalls/ic/candid/CandidType$Kind"), accessFlags := 16409, slot := 23, constantValue := 0 }, { name := "FUTURE", type := (.object "com/example/safe_node_calls/safenodecalls/ic/candid/CandidType$Kind"), accessFlags := 16409, slot := 24, constantValue := 0 }, { name := "BY_OPCODE", type := (.array (.object "com/example/safe_node_calls/safenodecalls/ic/candid/CandidType$Kind")), accessFlags := 26, slot := 25, constantValue := 0 }, { name := "BY_KEYWORD", type := (.object "java/util/Map"), accessFlags := 26, slot := 26, constantValue := 0 }, { name := "opcode", type := .int, accessFlags := 18, slot := 3, constantValue := 0 }, { name := "keyword", type := (.object "java/lang/String"), accessFlags := 18, slot := 4, constantValue := 0 }, { name := "bits", type := .int, accessFlags := 18, slot := 5, constantValue := 0 }, { name := "signed", type := .boolean, accessFlags := 18, slot := 6, constantValue := 0 }, { name := "$VALUES", type := (.array (.object "com/example/safe_node_calls/safenodecalls/ic/candid/CandidType$Kind")), accessFlags := 4122, slot := 27, constantValue := 0 }]
  methods := #[k6m0]
  instanceTypes := #[(.object "java/lang/String"), .int, .int, .int, (.object "java/lang/String"), .int, .boolean]
  staticTypes := #[(.object "com/example/safe_node_calls/safenodecalls/ic/candid/CandidType$Kind"), (.object "com/example/safe_node_calls/safenodecalls/ic/candid/CandidType$Kind"), (.object "com/example/safe_node_calls/safenodecalls/ic/candid/CandidType$Kind"), (.object "com/example/safe_node_calls/safenodecalls/ic/candid/CandidType$Kind"), (.object "com/example/safe_node_calls/safenodecalls/ic/candid/CandidType$Kind"), (.object "com/example/safe_node_calls/safenodecalls/ic/candid/CandidType$Kind"), (.object "com/example/safe_node_calls/safenodecalls/ic/candid/CandidType$Kind"), (.object "com/example/safe_node_calls/safenodecalls/ic/candid/CandidType$Kind"), (.object "com/example/safe_node_calls/safenodecalls/ic/candid/CandidType$Kind"), (.object "com/example/safe_node_calls/safenodecalls/ic/candid/CandidType$Kind"), (.object "com/example/safe_node_calls/safenodecalls/ic/candid/CandidType$Kind"), (.object "com/example/safe_node_calls/safenodecalls/ic/candid/CandidType$Kind"), (.object "com/example/safe_node_calls/safenodecalls/ic/candid/CandidType$Kind"), (.object "com/example/safe_node_calls/safenodecalls/ic/candid/CandidType$Kind"), (.object "com/example/safe_node_calls/safenodecalls/ic/candid/CandidType$Kind"), (.object "com/example/safe_node_calls/safenodecalls/ic/candid/CandidType$Kind"), (.object "com/example/safe_node_calls/safenodecalls/ic/candid/CandidType$Kind"), (.object "com/example/safe_node_calls/safenodecalls/ic/candid/CandidType$Kind"), (.object "com/example/safe_node_calls/safenodecalls/ic/candid/CandidType$Kind"), (.object "com/example/safe_node_calls/safenodecalls/ic/candid/CandidType$Kind"), (.object "com/example/safe_node_calls/safenodecalls/ic/candid/CandidType$Kind"), (.object "com/example/safe_node_calls/safenodecalls/ic/candid/CandidType$Kind"), (.object "com/example/safe_node_calls/safenodecalls/ic/candid/CandidType$Kind"), (.object "com/example/safe_node_calls/safenodecalls/ic/candid/CandidType$Kind"), (.object "com/example/safe_node_calls/safenodecalls/ic/candid/CandidType$Kind"), (.array (.object "com/example/safe_node_calls/safenodecalls/ic/candid/CandidType$Kind")), (.object "java/util/Map"), (.array (.object "com/example/safe_node_calls/safenodecalls/ic/candid/CandidType$Kind"))]
  resolved := Array.replicate 286 none
  statics := some 0 }

def pool7 : Array CpInfo := pool [(1, u "java/lang/Cloneable"), (0, .class_ 1), (0, u "java/lang/Object"), (0, .class_ 3)] 3

/-- java/lang/Cloneable -/
def k7 : Class := { plain "java/lang/Cloneable" (some 0) with
  accessFlags := 1537
  interfaces := #[]
  cf := some (fileOf pool7 2 #[] #[] 1537 4 #[] #[])
  fields := #[]
  methods := #[]
  instanceTypes := #[]
  staticTypes := #[]
  resolved := Array.replicate 8 none
  statics := none }

/-- the primitive byte -/
def k8 : Class := { plain "byte" none with kind := .primitive 'B', accessFlags := 0x411 }
/-- [B -/
def k9 : Class := { plain "[B" (some 0) with kind := .array 8 .byte, interfaces := #[7, 4], accessFlags := 1041 }

/-- the primitive int -/
def k10 : Class := { plain "int" none with kind := .primitive 'I', accessFlags := 0x411 }
/-- [I -/
def k11 : Class := { plain "[I" (some 0) with kind := .array 10 .int, interfaces := #[7, 4], accessFlags := 1041 }

/-- [Lcom/example/safe_node_calls/safenodecalls/ic/candid/CandidType$Kind; -/
def k12 : Class := { plain "[Lcom/example/safe_node_calls/safenodecalls/ic/candid/CandidType$Kind;" (some 0) with kind := .array 6 (.object "com/example/safe_node_calls/safenodecalls/ic/candid/CandidType$Kind"), interfaces := #[7, 4], accessFlags := 1041 }

def heap : Heap := #[{ cls := 6, slots := #[.ref 1, .ref 2, .ref 3, .ref 4, .ref 5, .ref 6, .ref 7, .ref 8, .ref 9, .ref 10, .ref 11, .ref 12, .ref 13, .ref 14, .ref 15, .ref 16, .ref 17, .ref 18, .ref 19, .ref 20, .ref 21, .ref 22, .ref 23, .ref 24, .ref 25, .null, .null, .null], vm := .statics 6 },
  { cls := 6, slots := #[.null, .int 0, .int 0, .int 0, .null, .int 0, .int 0], vm := .none },
  { cls := 6, slots := #[.null, .int 1, .int 0, .int 0, .null, .int 0, .int 0], vm := .none },
  { cls := 6, slots := #[.null, .int 2, .int 0, .int 0, .null, .int 0, .int 0], vm := .none },
  { cls := 6, slots := #[.null, .int 3, .int 0, .int 0, .null, .int 0, .int 0], vm := .none },
  { cls := 6, slots := #[.null, .int 4, .int 0, .int 0, .null, .int 0, .int 0], vm := .none },
  { cls := 6, slots := #[.null, .int 5, .int 0, .int 0, .null, .int 0, .int 0], vm := .none },
  { cls := 6, slots := #[.null, .int 6, .int 0, .int 0, .null, .int 0, .int 0], vm := .none },
  { cls := 6, slots := #[.null, .int 7, .int 0, .int 0, .null, .int 0, .int 0], vm := .none },
  { cls := 6, slots := #[.null, .int 8, .int 0, .int 0, .null, .int 0, .int 0], vm := .none },
  { cls := 6, slots := #[.null, .int 9, .int 0, .int 0, .null, .int 0, .int 0], vm := .none },
  { cls := 6, slots := #[.null, .int 10, .int 0, .int 0, .null, .int 0, .int 0], vm := .none },
  { cls := 6, slots := #[.null, .int 11, .int 0, .int 0, .null, .int 0, .int 0], vm := .none },
  { cls := 6, slots := #[.null, .int 12, .int 0, .int 0, .null, .int 0, .int 0], vm := .none },
  { cls := 6, slots := #[.null, .int 13, .int 0, .int 0, .null, .int 0, .int 0], vm := .none },
  { cls := 6, slots := #[.null, .int 14, .int 0, .int 0, .null, .int 0, .int 0], vm := .none },
  { cls := 6, slots := #[.null, .int 15, .int 0, .int 0, .null, .int 0, .int 0], vm := .none },
  { cls := 6, slots := #[.null, .int 16, .int 0, .int 0, .null, .int 0, .int 0], vm := .none },
  { cls := 6, slots := #[.null, .int 17, .int 0, .int 0, .null, .int 0, .int 0], vm := .none },
  { cls := 6, slots := #[.null, .int 18, .int 0, .int 0, .null, .int 0, .int 0], vm := .none },
  { cls := 6, slots := #[.null, .int 19, .int 0, .int 0, .null, .int 0, .int 0], vm := .none },
  { cls := 6, slots := #[.null, .int 20, .int 0, .int 0, .null, .int 0, .int 0], vm := .none },
  { cls := 6, slots := #[.null, .int 21, .int 0, .int 0, .null, .int 0, .int 0], vm := .none },
  { cls := 6, slots := #[.null, .int 22, .int 0, .int 0, .null, .int 0, .int 0], vm := .none },
  { cls := 6, slots := #[.null, .int 23, .int 0, .int 0, .null, .int 0, .int 0], vm := .none },
  { cls := 6, slots := #[.null, .int 24, .int 0, .int 0, .null, .int 0, .int 0], vm := .none }]
def classes : Array Class := #[k0, k1, k2, k3, k4, k5, k6, k7, k8, k9, k10, k11, k12]
def interned : List (Array UInt16 × Addr) := []
def slotsUsed : Nat := 203
def theMethod : MethodId := ⟨1, 1⟩
def args0 : Array Value := #[.int 5]
def aboutOver (below : List Frame) : State where
  vm := { classes := classes, interned := interned.toArray }
  heap := heap
  slotsUsed := slotsUsed
  threads := #[{ frames := .invoking theMethod args0 :: below }]
def below0 : List Frame := [.native { method := ⟨0, 0⟩, args := #[] }]
def about1 : State := aboutOver below0
def p0 : Program := .bare "" "" ""
def e0 : Env := launch0.env 0 0 0
theorem w_frames : about1.frames = Frame.invoking theMethod args0 :: below0 := rfl
set_option maxRecDepth 65536 in
theorem w_args : argsFit about1.vm theMethod args0 = true := by decide +kernel
set_option maxRecDepth 65536 in
theorem w_heap : heapFits about1 = true := by decide +kernel
set_option maxRecDepth 65536 in
theorem w_runnable : about1.curStatus? = some .runnable := by decide +kernel
set_option maxRecDepth 65536 in
theorem w_alone : about1.alone = true := by decide +kernel
set_option maxRecDepth 65536 in
theorem w_named : about1.methodNamed? x = some theMethod := by decide +kernel
set_option maxRecDepth 65536 in
theorem w_hears : about1.hears theMethod below0 = true := by decide +kernel
set_option maxRecDepth 65536 in
theorem w_ripe : about1.ripe theMethod args0 below0 = true := by decide +kernel
theorem w_running : about1.status = .running := rfl
set_option maxRecDepth 65536 in
theorem w_room : about1.hasRoom e0.platform room_1 = true :=
  launch0.hasRoom_least _ room_1 (by decide +kernel) (by decide +kernel) (by decide +kernel) (by decide +kernel) (by decide +kernel) (by decide +kernel)
theorem allAtoms_all (ts : List Jvm.Cond) (a : Array Jvm.Value) (st : Jvm.State) : (allAtoms ts).before a st = ts.all (fun c => c.before a st) := by
  induction ts with
  | nil => rfl
  | cons c t ih =>
    show (Jvm.Cond.and c (allAtoms t)).before a st = _
    rw [Jvm.Cond.before_and, ih, List.all_cons]
def words1 : List Jvm.Cond := Jvm.Cond.code x code maxLocals ret :: tables_1
/-- a 'code' word, met by the world's own term for the bytes: nothing is compared byte by byte -/
theorem code_word {y : MethodName} {bytes : ByteArray} {mx : Nat} {rt : Option FieldType} {a : Array Value} {s : State} {m : MethodId} {meth : Method} {c : Code} (h1 : s.methodNamed? y = some m) (h2 : s.vm.method? m = some meth) (h3 : meth.code = some c) (h4 : c.code = bytes)
    (h5 : (c.maxLocals == mx && c.exceptionTable.isEmpty && decide (c.maxStack ≤ mostOperands) && decide (meth.sig.returnType = rt) && !meth.locks && decide (parseMethodDescriptor y.desc = some meth.sig)) = true) : (Jvm.Cond.code y bytes mx rt).before a s = true := by
  simp only [Bool.and_eq_true, beq_iff_eq, Bool.not_eq_true', decide_eq_true_eq] at h5
  obtain ⟨⟨⟨⟨⟨g1, g2⟩, g3⟩, g4⟩, g5⟩, g6⟩ := h5
  simp [Cond.before, Cond.holds, Cond.value, h1, h2, h3, h4, g1, g2, g3, g4, g5, g6]
def isCode : Jvm.Cond → Bool
  | .code _ _ _ _ => true
  | _ => false
theorem all_split {L : List Jvm.Cond} {P : Jvm.Cond → Bool} (h1 : L.all (fun c => isCode c || P c) = true) (h2 : ∀ c ∈ L.filter isCode, P c = true) : L.all P = true := by
  refine List.all_eq_true.mpr fun c hc => ?_
  have h := List.all_eq_true.mp h1 c hc
  rcases Bool.eq_false_or_eq_true (isCode c) with hi | hi
  · exact h2 c (List.mem_filter.mpr ⟨hc, hi⟩)
  · simpa [hi] using h
set_option maxRecDepth 65536 in
theorem w_c0 : (Jvm.Cond.code x code maxLocals ret).before args0 about1 = true := code_word (m := ⟨1, 1⟩) (meth := k1m1) (c := k1c1) (by decide +kernel) rfl rfl rfl (by decide +kernel)
set_option maxRecDepth 65536 in
theorem w_c1 : (Jvm.Cond.code ({ cls := "com/example/safe_node_calls/safenodecalls/ic/candid/CandidType$Kind", name := "isStructured", desc := "()Z" } : Jvm.MethodName) prog_59_method_8_code (1 : Nat) (Option.some Jvm.ClassFile.FieldType.boolean)).before args0 about1 = true := code_word (m := ⟨6, 0⟩) (meth := k6m0) (c := k6c0) (by decide +kernel) rfl rfl rfl (by decide +kernel)
def codes1 : List Jvm.Cond := [Jvm.Cond.code x code maxLocals ret, Jvm.Cond.code ({ cls := "com/example/safe_node_calls/safenodecalls/ic/candid/CandidType$Kind", name := "isStructured", desc := "()Z" } : Jvm.MethodName) prog_59_method_8_code (1 : Nat) (Option.some Jvm.ClassFile.FieldType.boolean)]
set_option maxRecDepth 65536 in
theorem codes_eq : words1.filter isCode = codes1 := rfl
theorem w_codes : ∀ c ∈ words1.filter isCode, c.before args0 about1 = true := by
  rw [codes_eq]
  intro c hc
  simp only [codes1, List.mem_cons, List.not_mem_nil, or_false] at hc
  rcases hc with rfl | rfl
  · exact w_c0
  · exact w_c1
set_option maxRecDepth 65536 in
theorem w_t1 : (words1.take 24).all (fun c => isCode c || c.before args0 about1) = true := by decide +kernel
set_option maxRecDepth 65536 in
theorem w_t2 : ((words1.drop 24).take 24).all (fun c => isCode c || c.before args0 about1) = true := by decide +kernel
set_option maxRecDepth 65536 in
theorem w_t3 : ((words1.drop 24).drop 24).all (fun c => isCode c || c.before args0 about1) = true := by decide +kernel
theorem w_tables : (allAtoms (Jvm.Cond.code x code maxLocals ret :: tables_1)).before args0 about1 = true := by
  rw [allAtoms_all]
  show words1.all (fun c => c.before args0 about1) = true
  refine all_split ?_ w_codes
  rw [← List.take_append_drop 24 words1, List.all_append, w_t1, ← List.take_append_drop 24 (words1.drop 24), List.all_append, w_t2, w_t3]
  rfl
set_option maxRecDepth 65536 in
theorem w_case : (Jvm.Cond.and given_1 narrow_1).before args0 about1 = true := by decide +kernel
theorem w_applies : (headSpec (Jvm.Cond.code x code maxLocals ret :: tables_1) room_1).applies x e0.platform about1 = true :=
  (Spec.applies_iff w_frames).mpr ⟨w_running, w_runnable, w_alone, w_named, w_hears, w_ripe, w_room, w_tables⟩
theorem atStart : AtStart classFile x code maxLocals ret World_1 tables_1 room_1 Calls_1 rest_1 Pre_1 launch0 p0 e0 about1 theMethod args0 below0 :=
  ⟨lists_1, trivial, launch0.admits_env _ _ _, launch0.least_env, fairChoices_fair.cas, fairChoices_fair.clock, w_frames, w_args, w_heap, w_applies, trivial, trivial, w_case⟩
end start1
theorem witness_1 : WitnessClaimed_1 := ⟨start1.p0, start1.e0, start1.about1, start1.theMethod, start1.args0, start1.below0, start1.atStart⟩
end Jvm.Pilot.@@N@@
