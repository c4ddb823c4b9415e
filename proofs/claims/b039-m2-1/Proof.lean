import JvmDerived
import JvmDerived.Pilot.@@N@@Statement
import JvmDerived.Pilot.@@N@@Code
set_option linter.unusedVariables false
set_option linter.unusedSimpArgs false
namespace Jvm.Pilot.@@N@@
open Jvm Jvm.ClassFile Sem Op Lib Jvm.Free Jvm.Stand Jvm.LawKit Jvm.RoadKit Bundle Jvm.Pilot.@@N@@.Jvm.D
theorem own_eqi {s : State} {args : Array Value} {t : Term} {k : Int32} (h : (Jvm.Cond.eq t (Term.int k)).value args s none s [] = some true) : t.eval args s none [] s = some (.int k) := by
  obtain ⟨u, v, hu, hv, k1, k2⟩ := cmp_v (Or.inl h)
  obtain rfl : v = .int k := Option.some.inj (hv.symm.trans (Term.int_eval k))
  obtain ⟨z, rfl⟩ := k2
  rw [hu]
  simp [Cond.value, hu, hv] at h
  rw [h]
theorem own_fld {s : State} {args : Array Value} {t : Term} {C n d : String} {k : Int32} {x : Addr} (ev : t.eval args s none [] s = some (.ref x)) (h : (Jvm.Cond.eq (Term.field t C n d) (Term.int k)).value args s none s [] = some true) : Fld s s.heap x C n d (.int k) := by
  have hu := own_eqi h
  rw [fld_at ev] at hu
  exact Fld.start hu
theorem own_len {s : State} {args : Array Value} {t : Term} {a : Addr} {cl : Cell} {ty : FieldType} {k : Int32} (ev : t.eval args s none [] s = some (.ref a)) (A : Arr s s.heap a cl ty) (h : (Term.length t).eval args s none [] s = some (.int k)) : cl.slots.size < 2 ^ 31 ∧ cl.slots.size.toInt32 = k := by
  have ha := A.fin (Vm.Alike.refl _)
  by_cases hl : cl.slots.size < 2 ^ 31
  · rw [len_f ev ha hl] at h
    exact ⟨hl, Value.int.inj (Option.some.inj h)⟩
  · simp [Term.eval, ev, ha, hl] at h
theorem own_elem {s : State} {args : Array Value} {t u : Term} {a y : Addr} {cl : Cell} {ty : FieldType} {j : Int32} (ev : t.eval args s none [] s = some (.ref a)) (A : Arr s s.heap a cl ty) (ey : u.eval args s none [] s = some (.ref y)) (h : (Jvm.Cond.eq (Term.elem t (Term.int j)) u).value args s none s [] = some true) : cl.slots[j.toNatClampNeg]? = some (.ref y) := by
  obtain ⟨w, v, hw, hv, k1, k2⟩ := cmp_v (Or.inl h)
  obtain rfl : v = .ref y := Option.some.inj (hv.symm.trans ey)
  have e := gotT (eq_R hw hv k2.2 rfl) h
  rw [e] at hw
  exact (elem_in hw ev (Term.int_eval j) A.1).2
def own_t (p : Int32) (a b c d e : Addr) : Addr := if (9 : Int32) < p then (if (29 : Int32) < p then (if (59 : Int32) < p then (if (79 : Int32) < p then e else d) else c) else b) else a
def own_g (p : Int32) : Int32 := ([9, 29, 59, 79, 100, 0, -2147483648, 2147483647] : List Int32).getD p.toNatClampNeg 0
theorem own_8 (k : Int32) : (k &&& (7 : Int32)) = (0 : Int32) ∨ (k &&& (7 : Int32)) = (1 : Int32) ∨ (k &&& (7 : Int32)) = (2 : Int32) ∨ (k &&& (7 : Int32)) = (3 : Int32) ∨ (k &&& (7 : Int32)) = (4 : Int32) ∨ (k &&& (7 : Int32)) = (5 : Int32) ∨ (k &&& (7 : Int32)) = (6 : Int32) ∨ (k &&& (7 : Int32)) = (7 : Int32) := by
  have h := c_mask k (7 : Int32) 3 (by decide) (by decide)
  have q : (k &&& (7 : Int32)).toInt = 0 ∨ (k &&& (7 : Int32)).toInt = 1 ∨ (k &&& (7 : Int32)).toInt = 2 ∨ (k &&& (7 : Int32)).toInt = 3 ∨ (k &&& (7 : Int32)).toInt = 4 ∨ (k &&& (7 : Int32)).toInt = 5 ∨ (k &&& (7 : Int32)).toInt = 6 ∨ (k &&& (7 : Int32)).toInt = 7 := by omega
  rcases q with q | q | q | q | q | q | q | q
  · exact Or.inl (Int32.toInt_inj.mp (q.trans rfl))
  · exact Or.inr (Or.inl (Int32.toInt_inj.mp (q.trans rfl)))
  · exact Or.inr (Or.inr (Or.inl (Int32.toInt_inj.mp (q.trans rfl))))
  · exact Or.inr (Or.inr (Or.inr (Or.inl (Int32.toInt_inj.mp (q.trans rfl)))))
  · exact Or.inr (Or.inr (Or.inr (Or.inr (Or.inl (Int32.toInt_inj.mp (q.trans rfl))))))
  · exact Or.inr (Or.inr (Or.inr (Or.inr (Or.inr (Or.inl (Int32.toInt_inj.mp (q.trans rfl)))))))
  · exact Or.inr (Or.inr (Or.inr (Or.inr (Or.inr (Or.inr (Or.inl (Int32.toInt_inj.mp (q.trans rfl))))))))
  · exact Or.inr (Or.inr (Or.inr (Or.inr (Or.inr (Or.inr (Or.inr (Int32.toInt_inj.mp (q.trans rfl))))))))
theorem own_in8 (k : Int32) : ¬ ((k &&& (7 : Int32)) < 0) ∧ (k &&& (7 : Int32)) < (8 : Int32) := by
  rcases own_8 k with h | h | h | h | h | h | h | h <;> rw [h] <;> decide
theorem own_g8 (p : Int32) (hp : p = (0 : Int32) ∨ p = (1 : Int32) ∨ p = (2 : Int32) ∨ p = (3 : Int32) ∨ p = (4 : Int32) ∨ p = (5 : Int32) ∨ p = (6 : Int32) ∨ p = (7 : Int32)) : ([(.int (9 : Int32)), (.int (29 : Int32)), (.int (59 : Int32)), (.int (79 : Int32)), (.int (100 : Int32)), (.int (0 : Int32)), (.int (-2147483648 : Int32)), (.int (2147483647 : Int32))] : List Value).getD p.toNatClampNeg (.int (0 : Int32)) = .int (own_g p) := by
  rcases hp with rfl | rfl | rfl | rfl | rfl | rfl | rfl | rfl <;> rfl
theorem d2_0 : decode prog_38_method_1_code 0 = .ok (.getstatic 19, 3) := by decide +kernel
theorem d2_3 : decode prog_38_method_1_code 3 = .ok (.invokevirtual 23, 3) := by decide +kernel
theorem d2_6 : decode prog_38_method_1_code 6 = .ok (.checkcast 24, 3) := by decide +kernel
theorem d2_9 : decode prog_38_method_1_code 9 = .ok (.areturn, 1) := by decide +kernel
theorem pn_4 : plainName "com/example/orders_into_outcomes/ordersintooutcomes/model/PriorityTier" = true := by first | (simp [plainName, overriddenIn]; done) | decide +kernel
theorem ef_2_5 (m : MethodId)  : entryFrame m #[] 0 = mkF m 0 #[] [] := by first | (simp [entryFrame, mkF, argsToLocals, Value.category]; done) | rfl
def QrmV (Z : State) (aV : Addr) (kV : ClassId) (aCRITICAL : Addr) (aHIGH : Addr) (aNORMAL : Addr) (aLOW : Addr) (aBACKGROUND : Addr) (h0 : Heap) (n0 : Nat) (v : Option Value) (h : Heap) (L : List Loc) : Prop := ∃ (b : Addr) (k : ClassId), v = some (.ref b) ∧ Fr n0 L ∧ Keep h0 h [] ∧ Arv Z h b k (.object "com/example/orders_into_outcomes/ordersintooutcomes/model/PriorityTier") (5 : Int32) [(.ref aCRITICAL), (.ref aHIGH), (.ref aNORMAL), (.ref aLOW), (.ref aBACKGROUND)] .null
set_option maxRecDepth 65536 in
set_option maxHeartbeats 40000000 in
theorem rmV (l : Launch) (Z : State) (a0 : Array Value) (hw : ∀ d ∈ tables_1, d.before a0 Z = true) (ws : List Jvm.Cond) (aV : Addr) (kV : ClassId) (aCRITICAL : Addr) (aHIGH : Addr) (aNORMAL : Addr) (aLOW : Addr) (aBACKGROUND : Addr) (h0 : Heap) (n0 : Nat) (O0 : Old Z n0 h0) (S_V : Sta Z Z.heap "com/example/orders_into_outcomes/ordersintooutcomes/model/PriorityTier" "$VALUES" "[Lcom/example/orders_into_outcomes/ordersintooutcomes/model/PriorityTier;" (.ref aV)) (E_V : Exa Z Z.heap aV "[Lcom/example/orders_into_outcomes/ordersintooutcomes/model/PriorityTier;") (V_V : Arv Z Z.heap aV kV (.object "com/example/orders_into_outcomes/ordersintooutcomes/model/PriorityTier") (5 : Int32) [(.ref aCRITICAL), (.ref aHIGH), (.ref aNORMAL), (.ref aLOW), (.ref aBACKGROUND)] .null) :
    MetFree l (⟨"com/example/orders_into_outcomes/ordersintooutcomes/model/PriorityTier", "values", "()[Lcom/example/orders_into_outcomes/ordersintooutcomes/model/PriorityTier;"⟩ : MethodName) (head1 (Jvm.Cond.code (⟨"com/example/orders_into_outcomes/ordersintooutcomes/model/PriorityTier", "values", "()[Lcom/example/orders_into_outcomes/ordersintooutcomes/model/PriorityTier;"⟩ : MethodName) prog_38_method_1_code 0 (some (.array (.object "com/example/orders_into_outcomes/ordersintooutcomes/model/PriorityTier"))) :: ws) ({ frames := 1, cells := 1, slots := 5, locals := 14 } : Room)) (fun a_ U_ => a_ = #[] ∧ Z.Warmed39 U_.vm ∧ U_.heap = h0) (fun _ _ _ _ _ => True) (fun _ U_ o_ U'_ => ∃ v_ L_, o_ = .returned v_ ∧ QrmV Z aV kV aCRITICAL aHIGH aNORMAL aLOW aBACKGROUND h0 n0 v_ U'_.heap L_ ∧ FrameEnd U_ o_ U'_ L_ ({ frames := 1, cells := 1, slots := 5, locals := 14 } : Room).cells ({ frames := 1, cells := 1, slots := 5, locals := 14 } : Room).slots) := by
  refine MetFree.of_bodySF (plainFor_of_name pn_4) hisR ?_
  intro pg ee s mm args below meth cc s₁ Bd hml0 hP hK
  obtain ⟨rfl, hZ, hh⟩ := hP
  have hx := Bd.exec
  have hby := Bd.bytes
  have hml : cc.maxLocals = 0 := hml0
  have hown : s.vm.findClass "com/example/orders_into_outcomes/ordersintooutcomes/model/PriorityTier" = some mm.cls := findClass_of_methodNamed Bd.named
  have hnm := (name_of_methodNamed Bd.named Bd.method).1
  have X0 : Stand pg l ee ({ frames := 1, cells := 1, slots := 5, locals := 14 } : Room) s mm #[] below meth cc s₁ [] 0 0 := Stand.of_body Bd
  have e0 : s₁.heap = h0 := by rw [← hh, Bd.state]; rfl
  have N0 := Fr.nil n0
  have K0 : Keep h0 h0 ([] : List Addr) := Keep.refl _ _
  have pre0 : ∀ t, Steps pg.tables ee below (s₁.setTop (mkF mm 0 #[] [])) t → Steps pg.tables ee below (s₁.setTop (entryFrame mm #[] 0)) t := fun t k => castTop (ef_2_5 mm ) k
  obtain ⟨T1, X1, e1, st1⟩ := getS2 X0 hx hZ hown (host := "") (Or.inl (hw _ (List.mem_of_getElem? (i := 10) rfl))) Via.refl e0 (S_V.ext O0.2) (g := (mkF mm 0 #[] [])) rfl (hb hby d2_0)
  obtain ⟨T2, h2, X2, e2, E2, A2, Ex2, st2⟩ := cloneH X1 hx hZ hown (hw _ (List.mem_of_getElem? (i := 12) rfl)) (hw _ (List.mem_of_getElem? (i := 13) rfl)) (hw _ (List.mem_of_getElem? (i := 17) rfl)) (hw _ (List.mem_of_getElem? (i := 15) rfl)) (hw _ (List.mem_of_getElem? (i := 16) rfl)) (hw _ (List.mem_of_getElem? (i := 18) rfl)) e1 (Arv.arh (V_V.ext O0.2)) (E_V.ext O0.2) (g := (mkF mm 3 #[] [(.ref aV)])) rfl (by rw [hml]; rfl) rfl (hb hby d2_3) (by decide) (W := 0) (cap := 5) (by show 2 * 0 + _ ≤ _; exact Nat.le_of_eq rfl) (by decide) (by decide) (by decide) (by decide)
  obtain ⟨b2, g2⟩ : ∃ z, z = h0.size := ⟨_, rfl⟩
  rw [← g2] at A2 Ex2 st2
  have g_b2 : n0 ≤ b2 := Nat.le_trans (O0.1 ▸ O0.2.1) (Nat.le_of_eq g2.symm)
  have sz_b2 : h0.size ≤ b2 := Nat.le_trans K0.1 (Nat.le_of_eq g2.symm)
  have O2 := O0.ext E2
  have KK2 := K0.ext E2
  have V2 : Arv Z h2 b2 kV (.object "com/example/orders_into_outcomes/ordersintooutcomes/model/PriorityTier") (5 : Int32) [(.ref aCRITICAL), (.ref aHIGH), (.ref aNORMAL), (.ref aLOW), (.ref aBACKGROUND)] .null := A2
  obtain ⟨T3, X3, e3, st3⟩ := castY X2 hx hZ hown (hw _ (List.mem_of_getElem? (i := 25) rfl)) e2 (Ins.self Ex2) (g := (mkF mm 6 #[] [(.ref b2)])) rfl rfl (hb hby d2_6)
  obtain ⟨fs, hr, hrun, hended, hW, hsame⟩ := X3.leave (v := some (.ref b2)) (fun h => by rw [Bd.returns] at h; cases h)
  refine ⟨_, _, pre0 _ ?_, hrun, hended, _, _, rfl, ?_, ⟨_, rfl⟩, hW, hsame.mono (by decide) (by decide)⟩
  · show Steps pg.tables ee below (s₁.setTop (mkF mm 0 #[] [])) _
    refine st1 _ ?_
    show Steps pg.tables ee below (T1.setTop (mkF mm 3 #[] [(.ref aV)])) _
    refine st2 _ ?_
    show Steps pg.tables ee below (T2.setTop (mkF mm 6 #[] [(.ref b2)])) _
    refine st3 _ ?_
    show Steps pg.tables ee below (T3.setTop (mkF mm 9 #[] [(.ref b2)])) _
    exact retOut X3 hx Bd.returns rfl (Or.inr (Or.inr (Or.inr (Or.inr ⟨rfl, rfl, rfl⟩)))) (hb hby d2_9) hr
  · show QrmV Z aV kV aCRITICAL aHIGH aNORMAL aLOW aBACKGROUND h0 n0 _ T3.heap _
    rw [e3]
    exact ⟨_, _, rfl, N0, KK2, V2⟩
theorem d1_0 : decode prog_38_method_5_code 0 = .ok (.invokestatic 52, 3) := by decide +kernel
theorem pd_7 : parseMethodDescriptor "()[Lcom/example/orders_into_outcomes/ordersintooutcomes/model/PriorityTier;" = some ⟨[], some (.array (.object "com/example/orders_into_outcomes/ordersintooutcomes/model/PriorityTier"))⟩ := by decide +kernel
theorem d1_3 : decode prog_38_method_5_code 3 = .ok (.astore_n 1, 1) := by decide +kernel
theorem d1_4 : decode prog_38_method_5_code 4 = .ok (.aload_n 1, 1) := by decide +kernel
theorem d1_5 : decode prog_38_method_5_code 5 = .ok (.astore_n 2, 1) := by decide +kernel
theorem d1_6 : decode prog_38_method_5_code 6 = .ok (.aload_n 2, 1) := by decide +kernel
theorem d1_7 : decode prog_38_method_5_code 7 = .ok (.arraylength, 1) := by decide +kernel
theorem d1_8 : decode prog_38_method_5_code 8 = .ok (.istore_n 3, 1) := by decide +kernel
theorem d1_9 : decode prog_38_method_5_code 9 = .ok (.iconst 0, 1) := by decide +kernel
theorem d1_10 : decode prog_38_method_5_code 10 = .ok (.istore 4, 2) := by decide +kernel
theorem d1_12 : decode prog_38_method_5_code 12 = .ok (.iload 4, 2) := by decide +kernel
theorem d1_14 : decode prog_38_method_5_code 14 = .ok (.iload_n 3, 1) := by decide +kernel
theorem d1_15 : decode prog_38_method_5_code 15 = .ok (.if_icmp .ge 27, 3) := by decide +kernel
theorem d1_18 : decode prog_38_method_5_code 18 = .ok (.aload_n 2, 1) := by decide +kernel
theorem d1_19 : decode prog_38_method_5_code 19 = .ok (.iload 4, 2) := by decide +kernel
theorem d1_21 : decode prog_38_method_5_code 21 = .ok (.aaload, 1) := by decide +kernel
theorem d1_22 : decode prog_38_method_5_code 22 = .ok (.astore 5, 2) := by decide +kernel
theorem d1_24 : decode prog_38_method_5_code 24 = .ok (.iload_n 0, 1) := by decide +kernel
theorem d1_25 : decode prog_38_method_5_code 25 = .ok (.aload 5, 2) := by decide +kernel
theorem d1_27 : decode prog_38_method_5_code 27 = .ok (.getfield 48, 3) := by decide +kernel
theorem d1_30 : decode prog_38_method_5_code 30 = .ok (.if_icmp .gt 6, 3) := by decide +kernel
theorem d1_36 : decode prog_38_method_5_code 36 = .ok (.iinc 4 1, 3) := by decide +kernel
theorem d1_39 : decode prog_38_method_5_code 39 = .ok (.goto (-27), 3) := by decide +kernel
theorem d1_42 : decode prog_38_method_5_code 42 = .ok (.aload_n 1, 1) := by decide +kernel
theorem d1_43 : decode prog_38_method_5_code 43 = .ok (.aload_n 1, 1) := by decide +kernel
theorem d1_44 : decode prog_38_method_5_code 44 = .ok (.arraylength, 1) := by decide +kernel
theorem d1_45 : decode prog_38_method_5_code 45 = .ok (.iconst 1, 1) := by decide +kernel
theorem d1_46 : decode prog_38_method_5_code 46 = .ok (.isub, 1) := by decide +kernel
theorem d1_47 : decode prog_38_method_5_code 47 = .ok (.aaload, 1) := by decide +kernel
theorem d1_48 : decode prog_38_method_5_code 48 = .ok (.areturn, 1) := by decide +kernel
theorem d1_33 : decode prog_38_method_5_code 33 = .ok (.aload 5, 2) := by decide +kernel
theorem d1_35 : decode prog_38_method_5_code 35 = .ok (.areturn, 1) := by decide +kernel
theorem ef_1_38 (m : MethodId) (x0 : Int32) : entryFrame m #[(.int x0)] 6 = mkF m 0 #[.val (.int x0), .unset, .unset, .unset, .unset, .unset] [] := by first | (simp [entryFrame, mkF, argsToLocals, Value.category]; done) | rfl
def QrmO (Z : State) (p : Int32) (aV : Addr) (kV : ClassId) (aCRITICAL : Addr) (aHIGH : Addr) (aNORMAL : Addr) (aLOW : Addr) (aBACKGROUND : Addr) (h0 : Heap) (n0 : Nat) (v : Option Value) (h : Heap) (L : List Loc) : Prop := v = some (.ref (own_t p aCRITICAL aHIGH aNORMAL aLOW aBACKGROUND)) ∧ Fr n0 L ∧ Keep h0 h []
set_option maxRecDepth 65536 in
set_option maxHeartbeats 40000000 in
theorem rmO (l : Launch) (Z : State) (a0 : Array Value) (hw : ∀ d ∈ tables_1, d.before a0 Z = true) (ws : List Jvm.Cond) (p : Int32) (aV : Addr) (kV : ClassId) (aCRITICAL : Addr) (aHIGH : Addr) (aNORMAL : Addr) (aLOW : Addr) (aBACKGROUND : Addr) (h0 : Heap) (n0 : Nat) (O0 : Old Z n0 h0) (S_V : Sta Z Z.heap "com/example/orders_into_outcomes/ordersintooutcomes/model/PriorityTier" "$VALUES" "[Lcom/example/orders_into_outcomes/ordersintooutcomes/model/PriorityTier;" (.ref aV)) (E_V : Exa Z Z.heap aV "[Lcom/example/orders_into_outcomes/ordersintooutcomes/model/PriorityTier;") (V_V : Arv Z Z.heap aV kV (.object "com/example/orders_into_outcomes/ordersintooutcomes/model/PriorityTier") (5 : Int32) [(.ref aCRITICAL), (.ref aHIGH), (.ref aNORMAL), (.ref aLOW), (.ref aBACKGROUND)] .null) (F_CRITICAL : Fld Z Z.heap aCRITICAL "com/example/orders_into_outcomes/ordersintooutcomes/model/PriorityTier" "highestPriority" "I" (.int (9 : Int32))) (F_HIGH : Fld Z Z.heap aHIGH "com/example/orders_into_outcomes/ordersintooutcomes/model/PriorityTier" "highestPriority" "I" (.int (29 : Int32))) (F_NORMAL : Fld Z Z.heap aNORMAL "com/example/orders_into_outcomes/ordersintooutcomes/model/PriorityTier" "highestPriority" "I" (.int (59 : Int32))) (F_LOW : Fld Z Z.heap aLOW "com/example/orders_into_outcomes/ordersintooutcomes/model/PriorityTier" "highestPriority" "I" (.int (79 : Int32))) (F_BACKGROUND : Fld Z Z.heap aBACKGROUND "com/example/orders_into_outcomes/ordersintooutcomes/model/PriorityTier" "highestPriority" "I" (.int (100 : Int32))) :
    MetFree l (⟨"com/example/orders_into_outcomes/ordersintooutcomes/model/PriorityTier", "of", "(I)Lcom/example/orders_into_outcomes/ordersintooutcomes/model/PriorityTier;"⟩ : MethodName) (head1 (Jvm.Cond.code (⟨"com/example/orders_into_outcomes/ordersintooutcomes/model/PriorityTier", "of", "(I)Lcom/example/orders_into_outcomes/ordersintooutcomes/model/PriorityTier;"⟩ : MethodName) prog_38_method_5_code 6 (some (.object "com/example/orders_into_outcomes/ordersintooutcomes/model/PriorityTier")) :: ws) ({ frames := 2, cells := 1, slots := 5, locals := 25 } : Room)) (fun a_ U_ => a_ = #[(.int p)] ∧ Z.Warmed39 U_.vm ∧ U_.heap = h0) (fun _ _ _ _ _ => True) (fun _ U_ o_ U'_ => ∃ v_ L_, o_ = .returned v_ ∧ QrmO Z p aV kV aCRITICAL aHIGH aNORMAL aLOW aBACKGROUND h0 n0 v_ U'_.heap L_ ∧ FrameEnd U_ o_ U'_ L_ ({ frames := 2, cells := 1, slots := 5, locals := 25 } : Room).cells ({ frames := 2, cells := 1, slots := 5, locals := 25 } : Room).slots) := by
  refine MetFree.of_bodySF (plainFor_of_name pn_4) hisR ?_
  intro pg ee s mm args below meth cc s₁ Bd hml0 hP hK
  obtain ⟨rfl, hZ, hh⟩ := hP
  have hx := Bd.exec
  have hby := Bd.bytes
  have hml : cc.maxLocals = 6 := hml0
  have hown : s.vm.findClass "com/example/orders_into_outcomes/ordersintooutcomes/model/PriorityTier" = some mm.cls := findClass_of_methodNamed Bd.named
  have hnm := (name_of_methodNamed Bd.named Bd.method).1
  have X0 : Stand pg l ee ({ frames := 2, cells := 1, slots := 5, locals := 25 } : Room) s mm #[(.int p)] below meth cc s₁ [] 0 0 := Stand.of_body Bd
  have e0 : s₁.heap = h0 := by rw [← hh, Bd.state]; rfl
  have N0 := Fr.nil n0
  have K0 : Keep h0 h0 ([] : List Addr) := Keep.refl _ _
  have pre0 : ∀ t, Steps pg.tables ee below (s₁.setTop (mkF mm 0 #[.val (.int p), .unset, .unset, .unset, .unset, .unset] [])) t → Steps pg.tables ee below (s₁.setTop (entryFrame mm #[(.int p)] 6)) t := fun t k => castTop (ef_1_38 mm p) k
  obtain ⟨_, _, ⟨T1, L1, k1, n1⟩, -, X1, ⟨Lc1, hQ1, l1, y1, z1⟩, st1⟩ := Jvm.LawKit.callS X0 hx (y := (⟨"com/example/orders_into_outcomes/ordersintooutcomes/model/PriorityTier", "values", "()[Lcom/example/orders_into_outcomes/ordersintooutcomes/model/PriorityTier;"⟩ : MethodName)) hown (mvT hZ (hw _ (List.mem_of_getElem? (i := 7) rfl))) (mvT hZ (hw _ (List.mem_of_getElem? (i := 8) rfl))) (mvT hZ (hw _ (List.mem_of_getElem? (i := 5) rfl))) (mvT hZ (hw _ (List.mem_of_getElem? (i := 9) rfl))) (by decide) (backOf (W := 0) (rmV l Z a0 hw [] aV kV aCRITICAL aHIGH aNORMAL aLOW aBACKGROUND h0 n0 O0 S_V E_V V_V) hZ (hw _ (List.mem_of_getElem? (i := 9) rfl)) (hw _ (List.mem_of_getElem? (i := 5) rfl)) (by decide) (by decide)) (g := (mkF mm 0 #[.val (.int p), .unset, .unset, .unset, .unset, .unset] [])) rfl (by rw [hml]; rfl) (argsL := []) (rest := []) (lenOf pd_7 rfl) rfl (by show 2 * 0 + _ ≤ _; exact Nat.le_of_eq rfl) (hb hby d1_0) (fun _ _ => ⟨rfl, e0, (by decide : 0 + 1 ≤ _), (by decide : 0 + 5 ≤ _)⟩)
  dsimp only [Pt.U, Pt.locs, Pt.cells, Pt.slots] at X1 l1 y1 z1 st1 hQ1
  subst l1 y1 z1
  obtain ⟨bv1, kv1, rfl, N1q, K1, Vv1⟩ := hQ1
  have O1 := O0.keep K1 all0
  have KK1 := K0.trans K1 all0
  have N1 := Fr.app N0 N1q
  obtain ⟨cl2, Ar2, qk2, Sz2, Nn2, Hh2, Gg2⟩ := id Vv1
  obtain ⟨cl3, Ar3, qk3, Sz3, Nn3, Hh3, Gg3⟩ := id Vv1
  have hin3 : ¬ ((0 : Int32) < 0 ∨ cl3.slots.size ≤ ((0 : Int32)).toNatClampNeg) := inb_of Sz3 ⟨by decide, by decide⟩
  obtain ⟨T4, X4, e4, st4⟩ := getF X1 hx hZ hown (host := "") (Or.inl (hw _ (List.mem_of_getElem? (i := 27) rfl))) Via.refl rfl (F_CRITICAL.ext O1.2) (g := (mkF mm 27 #[.val (.int p), .val (.ref bv1), .val (.ref bv1), .val (.int (5 : Int32)), .val (.int (0 : Int32)), .val (.ref aCRITICAL)] [(.ref aCRITICAL), (.int p)])) rfl rfl (hb hby d1_27)
  have pre5 : ∀ t, Steps pg.tables ee below (T4.setTop (mkF mm 30 #[.val (.int p), .val (.ref bv1), .val (.ref bv1), .val (.int (5 : Int32)), .val (.int (0 : Int32)), .val (.ref aCRITICAL)] [(.int (9 : Int32)), (.int p)])) t → Steps pg.tables ee below (s₁.setTop (entryFrame mm #[(.int p)] 6)) t := fun t k => pre0 t (by
      show Steps pg.tables ee below (s₁.setTop (mkF mm 0 #[.val (.int p), .unset, .unset, .unset, .unset, .unset] [])) _
      refine st1 _ ?_
      show Steps pg.tables ee below (T1.setTop (mkF mm 3 #[.val (.int p), .unset, .unset, .unset, .unset, .unset] [(.ref bv1)])) _
      refine XS.astoreN X1.here hx rfl (hb hby d1_3) rfl rfl (l' := #[.val (.int p), .val (.ref bv1), .unset, .unset, .unset, .unset]) rfl ?_
      show Steps pg.tables ee below (T1.setTop (mkF mm 4 #[.val (.int p), .val (.ref bv1), .unset, .unset, .unset, .unset] [])) _
      refine XS.aloadN X1.here hx rfl (hb hby d1_4) rfl rfl ?_
      show Steps pg.tables ee below (T1.setTop (mkF mm 5 #[.val (.int p), .val (.ref bv1), .unset, .unset, .unset, .unset] [(.ref bv1)])) _
      refine XS.astoreN X1.here hx rfl (hb hby d1_5) rfl rfl (l' := #[.val (.int p), .val (.ref bv1), .val (.ref bv1), .unset, .unset, .unset]) rfl ?_
      show Steps pg.tables ee below (T1.setTop (mkF mm 6 #[.val (.int p), .val (.ref bv1), .val (.ref bv1), .unset, .unset, .unset] [])) _
      refine XS.aloadN X1.here hx rfl (hb hby d1_6) rfl rfl ?_
      show Steps pg.tables ee below (T1.setTop (mkF mm 7 #[.val (.int p), .val (.ref bv1), .val (.ref bv1), .unset, .unset, .unset] [(.ref bv1)])) _
      refine X1.arraylength hx Ar2.1 (State.isArrayOf_alike hZ.alike Ar2.2.1) (g := (mkF mm 7 #[.val (.int p), .val (.ref bv1), .val (.ref bv1), .unset, .unset, .unset] [(.ref bv1)])) rfl rfl (hb hby d1_7) _ ?_
      rw [len_of Sz2 Nn2]
      show Steps pg.tables ee below (T1.setTop (mkF mm 8 #[.val (.int p), .val (.ref bv1), .val (.ref bv1), .unset, .unset, .unset] [(.int (5 : Int32))])) _
      refine XS.istoreN X1.here hx rfl (hb hby d1_8) rfl (l' := #[.val (.int p), .val (.ref bv1), .val (.ref bv1), .val (.int (5 : Int32)), .unset, .unset]) rfl ?_
      show Steps pg.tables ee below (T1.setTop (mkF mm 9 #[.val (.int p), .val (.ref bv1), .val (.ref bv1), .val (.int (5 : Int32)), .unset, .unset] [])) _
      refine XS.iconst X1.here hx rfl (hb hby d1_9) ?_
      show Steps pg.tables ee below (T1.setTop (mkF mm 10 #[.val (.int p), .val (.ref bv1), .val (.ref bv1), .val (.int (5 : Int32)), .unset, .unset] [(.int (0 : Int32))])) _
      refine XS.istore X1.here hx rfl (hb hby d1_10) rfl (l' := #[.val (.int p), .val (.ref bv1), .val (.ref bv1), .val (.int (5 : Int32)), .val (.int (0 : Int32)), .unset]) rfl ?_
      show Steps pg.tables ee below (T1.setTop (mkF mm 12 #[.val (.int p), .val (.ref bv1), .val (.ref bv1), .val (.int (5 : Int32)), .val (.int (0 : Int32)), .unset] [])) _
      refine XS.iload X1.here hx rfl (hb hby d1_12) rfl ?_
      show Steps pg.tables ee below (T1.setTop (mkF mm 14 #[.val (.int p), .val (.ref bv1), .val (.ref bv1), .val (.int (5 : Int32)), .val (.int (0 : Int32)), .unset] [(.int (0 : Int32))])) _
      refine XS.iloadN X1.here hx rfl (hb hby d1_14) rfl ?_
      show Steps pg.tables ee below (T1.setTop (mkF mm 15 #[.val (.int p), .val (.ref bv1), .val (.ref bv1), .val (.int (5 : Int32)), .val (.int (0 : Int32)), .unset] [(.int (5 : Int32)), (.int (0 : Int32))])) _
      refine XS.icmpNo X1.here hx rfl (hb hby d1_15) rfl (tlt (by decide : (0 : Int32) < (5 : Int32))).2.1 ?_
      show Steps pg.tables ee below (T1.setTop (mkF mm 18 #[.val (.int p), .val (.ref bv1), .val (.ref bv1), .val (.int (5 : Int32)), .val (.int (0 : Int32)), .unset] [])) _
      refine XS.aloadN X1.here hx rfl (hb hby d1_18) rfl rfl ?_
      show Steps pg.tables ee below (T1.setTop (mkF mm 19 #[.val (.int p), .val (.ref bv1), .val (.ref bv1), .val (.int (5 : Int32)), .val (.int (0 : Int32)), .unset] [(.ref bv1)])) _
      refine XS.iload X1.here hx rfl (hb hby d1_19) rfl ?_
      show Steps pg.tables ee below (T1.setTop (mkF mm 21 #[.val (.int p), .val (.ref bv1), .val (.ref bv1), .val (.int (5 : Int32)), .val (.int (0 : Int32)), .unset] [(.int (0 : Int32)), (.ref bv1)])) _
      refine X1.aaload hx (j := (0 : Int32)) (v := (.ref aCRITICAL)) Ar3.1 (State.isArrayOf_alike hZ.alike Ar3.2.1) rfl Ar3.2.2 hin3 (Has.at Hh3 hin3 rfl) (g := (mkF mm 21 #[.val (.int p), .val (.ref bv1), .val (.ref bv1), .val (.int (5 : Int32)), .val (.int (0 : Int32)), .unset] [(.int (0 : Int32)), (.ref bv1)])) rfl rfl (hb hby d1_21) _ ?_
      show Steps pg.tables ee below (T1.setTop (mkF mm 22 #[.val (.int p), .val (.ref bv1), .val (.ref bv1), .val (.int (5 : Int32)), .val (.int (0 : Int32)), .unset] [(.ref aCRITICAL)])) _
      refine XS.astore X1.here hx rfl (hb hby d1_22) rfl rfl (l' := #[.val (.int p), .val (.ref bv1), .val (.ref bv1), .val (.int (5 : Int32)), .val (.int (0 : Int32)), .val (.ref aCRITICAL)]) rfl ?_
      show Steps pg.tables ee below (T1.setTop (mkF mm 24 #[.val (.int p), .val (.ref bv1), .val (.ref bv1), .val (.int (5 : Int32)), .val (.int (0 : Int32)), .val (.ref aCRITICAL)] [])) _
      refine XS.iloadN X1.here hx rfl (hb hby d1_24) rfl ?_
      show Steps pg.tables ee below (T1.setTop (mkF mm 25 #[.val (.int p), .val (.ref bv1), .val (.ref bv1), .val (.int (5 : Int32)), .val (.int (0 : Int32)), .val (.ref aCRITICAL)] [(.int p)])) _
      refine XS.aload X1.here hx rfl (hb hby d1_25) rfl rfl ?_
      show Steps pg.tables ee below (T1.setTop (mkF mm 27 #[.val (.int p), .val (.ref bv1), .val (.ref bv1), .val (.int (5 : Int32)), .val (.int (0 : Int32)), .val (.ref aCRITICAL)] [(.ref aCRITICAL), (.int p)])) _
      refine st4 _ ?_
      exact k)
  by_cases hc6 : (9 : Int32) < p
  · obtain ⟨cl7, Ar7, qk7, Sz7, Nn7, Hh7, Gg7⟩ := id Vv1
    have hin7 : ¬ ((1 : Int32) < 0 ∨ cl7.slots.size ≤ ((1 : Int32)).toNatClampNeg) := inb_of Sz7 ⟨by decide, by decide⟩
    obtain ⟨T8, X8, e8, st8⟩ := getF X4 hx hZ hown (host := "") (Or.inl (hw _ (List.mem_of_getElem? (i := 27) rfl))) Via.refl e4 (F_HIGH.ext O1.2) (g := (mkF mm 27 #[.val (.int p), .val (.ref bv1), .val (.ref bv1), .val (.int (5 : Int32)), .val (.int (1 : Int32)), .val (.ref aHIGH)] [(.ref aHIGH), (.int p)])) rfl rfl (hb hby d1_27)
    have pre9 : ∀ t, Steps pg.tables ee below (T8.setTop (mkF mm 30 #[.val (.int p), .val (.ref bv1), .val (.ref bv1), .val (.int (5 : Int32)), .val (.int (1 : Int32)), .val (.ref aHIGH)] [(.int (29 : Int32)), (.int p)])) t → Steps pg.tables ee below (s₁.setTop (entryFrame mm #[(.int p)] 6)) t := fun t k => pre5 t (by
        show Steps pg.tables ee below (T4.setTop (mkF mm 30 #[.val (.int p), .val (.ref bv1), .val (.ref bv1), .val (.int (5 : Int32)), .val (.int (0 : Int32)), .val (.ref aCRITICAL)] [(.int (9 : Int32)), (.int p)])) _
        refine XS.icmpYes X4.here hx rfl (pc0 := 30) (pc' := 36) rfl (hb hby d1_30) rfl (tlt hc6).2.2.1 (by decide) (by decide) ?_
        show Steps pg.tables ee below (T4.setTop (mkF mm 36 #[.val (.int p), .val (.ref bv1), .val (.ref bv1), .val (.int (5 : Int32)), .val (.int (0 : Int32)), .val (.ref aCRITICAL)] [])) _
        refine XS.iinc X4.here hx rfl (hb hby d1_36) rfl (l' := #[.val (.int p), .val (.ref bv1), .val (.ref bv1), .val (.int (5 : Int32)), .val (.int (1 : Int32)), .val (.ref aCRITICAL)]) rfl ?_
        show Steps pg.tables ee below (T4.setTop (mkF mm 39 #[.val (.int p), .val (.ref bv1), .val (.ref bv1), .val (.int (5 : Int32)), .val (.int (1 : Int32)), .val (.ref aCRITICAL)] [])) _
        refine XS.goto X4.here hx rfl (pc0 := 39) (pc' := 12) rfl (hb hby d1_39) (by decide) (by decide) ?_
        show Steps pg.tables ee below (T4.setTop (mkF mm 12 #[.val (.int p), .val (.ref bv1), .val (.ref bv1), .val (.int (5 : Int32)), .val (.int (1 : Int32)), .val (.ref aCRITICAL)] [])) _
        refine XS.iload X4.here hx rfl (hb hby d1_12) rfl ?_
        show Steps pg.tables ee below (T4.setTop (mkF mm 14 #[.val (.int p), .val (.ref bv1), .val (.ref bv1), .val (.int (5 : Int32)), .val (.int (1 : Int32)), .val (.ref aCRITICAL)] [(.int (1 : Int32))])) _
        refine XS.iloadN X4.here hx rfl (hb hby d1_14) rfl ?_
        show Steps pg.tables ee below (T4.setTop (mkF mm 15 #[.val (.int p), .val (.ref bv1), .val (.ref bv1), .val (.int (5 : Int32)), .val (.int (1 : Int32)), .val (.ref aCRITICAL)] [(.int (5 : Int32)), (.int (1 : Int32))])) _
        refine XS.icmpNo X4.here hx rfl (hb hby d1_15) rfl (tlt (by decide : (1 : Int32) < (5 : Int32))).2.1 ?_
        show Steps pg.tables ee below (T4.setTop (mkF mm 18 #[.val (.int p), .val (.ref bv1), .val (.ref bv1), .val (.int (5 : Int32)), .val (.int (1 : Int32)), .val (.ref aCRITICAL)] [])) _
        refine XS.aloadN X4.here hx rfl (hb hby d1_18) rfl rfl ?_
        show Steps pg.tables ee below (T4.setTop (mkF mm 19 #[.val (.int p), .val (.ref bv1), .val (.ref bv1), .val (.int (5 : Int32)), .val (.int (1 : Int32)), .val (.ref aCRITICAL)] [(.ref bv1)])) _
        refine XS.iload X4.here hx rfl (hb hby d1_19) rfl ?_
        show Steps pg.tables ee below (T4.setTop (mkF mm 21 #[.val (.int p), .val (.ref bv1), .val (.ref bv1), .val (.int (5 : Int32)), .val (.int (1 : Int32)), .val (.ref aCRITICAL)] [(.int (1 : Int32)), (.ref bv1)])) _
        refine X4.aaload hx (j := (1 : Int32)) (v := (.ref aHIGH)) (by rw [e4]; exact Ar7.1) (State.isArrayOf_alike hZ.alike Ar7.2.1) rfl Ar7.2.2 hin7 (Has.at Hh7 hin7 rfl) (g := (mkF mm 21 #[.val (.int p), .val (.ref bv1), .val (.ref bv1), .val (.int (5 : Int32)), .val (.int (1 : Int32)), .val (.ref aCRITICAL)] [(.int (1 : Int32)), (.ref bv1)])) rfl rfl (hb hby d1_21) _ ?_
        show Steps pg.tables ee below (T4.setTop (mkF mm 22 #[.val (.int p), .val (.ref bv1), .val (.ref bv1), .val (.int (5 : Int32)), .val (.int (1 : Int32)), .val (.ref aCRITICAL)] [(.ref aHIGH)])) _
        refine XS.astore X4.here hx rfl (hb hby d1_22) rfl rfl (l' := #[.val (.int p), .val (.ref bv1), .val (.ref bv1), .val (.int (5 : Int32)), .val (.int (1 : Int32)), .val (.ref aHIGH)]) rfl ?_
        show Steps pg.tables ee below (T4.setTop (mkF mm 24 #[.val (.int p), .val (.ref bv1), .val (.ref bv1), .val (.int (5 : Int32)), .val (.int (1 : Int32)), .val (.ref aHIGH)] [])) _
        refine XS.iloadN X4.here hx rfl (hb hby d1_24) rfl ?_
        show Steps pg.tables ee below (T4.setTop (mkF mm 25 #[.val (.int p), .val (.ref bv1), .val (.ref bv1), .val (.int (5 : Int32)), .val (.int (1 : Int32)), .val (.ref aHIGH)] [(.int p)])) _
        refine XS.aload X4.here hx rfl (hb hby d1_25) rfl rfl ?_
        show Steps pg.tables ee below (T4.setTop (mkF mm 27 #[.val (.int p), .val (.ref bv1), .val (.ref bv1), .val (.int (5 : Int32)), .val (.int (1 : Int32)), .val (.ref aHIGH)] [(.ref aHIGH), (.int p)])) _
        refine st8 _ ?_
        exact k)
    by_cases hc10 : (29 : Int32) < p
    · obtain ⟨cl11, Ar11, qk11, Sz11, Nn11, Hh11, Gg11⟩ := id Vv1
      have hin11 : ¬ ((2 : Int32) < 0 ∨ cl11.slots.size ≤ ((2 : Int32)).toNatClampNeg) := inb_of Sz11 ⟨by decide, by decide⟩
      obtain ⟨T12, X12, e12, st12⟩ := getF X8 hx hZ hown (host := "") (Or.inl (hw _ (List.mem_of_getElem? (i := 27) rfl))) Via.refl e8 (F_NORMAL.ext O1.2) (g := (mkF mm 27 #[.val (.int p), .val (.ref bv1), .val (.ref bv1), .val (.int (5 : Int32)), .val (.int (2 : Int32)), .val (.ref aNORMAL)] [(.ref aNORMAL), (.int p)])) rfl rfl (hb hby d1_27)
      have pre13 : ∀ t, Steps pg.tables ee below (T12.setTop (mkF mm 30 #[.val (.int p), .val (.ref bv1), .val (.ref bv1), .val (.int (5 : Int32)), .val (.int (2 : Int32)), .val (.ref aNORMAL)] [(.int (59 : Int32)), (.int p)])) t → Steps pg.tables ee below (s₁.setTop (entryFrame mm #[(.int p)] 6)) t := fun t k => pre9 t (by
          show Steps pg.tables ee below (T8.setTop (mkF mm 30 #[.val (.int p), .val (.ref bv1), .val (.ref bv1), .val (.int (5 : Int32)), .val (.int (1 : Int32)), .val (.ref aHIGH)] [(.int (29 : Int32)), (.int p)])) _
          refine XS.icmpYes X8.here hx rfl (pc0 := 30) (pc' := 36) rfl (hb hby d1_30) rfl (tlt hc10).2.2.1 (by decide) (by decide) ?_
          show Steps pg.tables ee below (T8.setTop (mkF mm 36 #[.val (.int p), .val (.ref bv1), .val (.ref bv1), .val (.int (5 : Int32)), .val (.int (1 : Int32)), .val (.ref aHIGH)] [])) _
          refine XS.iinc X8.here hx rfl (hb hby d1_36) rfl (l' := #[.val (.int p), .val (.ref bv1), .val (.ref bv1), .val (.int (5 : Int32)), .val (.int (2 : Int32)), .val (.ref aHIGH)]) rfl ?_
          show Steps pg.tables ee below (T8.setTop (mkF mm 39 #[.val (.int p), .val (.ref bv1), .val (.ref bv1), .val (.int (5 : Int32)), .val (.int (2 : Int32)), .val (.ref aHIGH)] [])) _
          refine XS.goto X8.here hx rfl (pc0 := 39) (pc' := 12) rfl (hb hby d1_39) (by decide) (by decide) ?_
          show Steps pg.tables ee below (T8.setTop (mkF mm 12 #[.val (.int p), .val (.ref bv1), .val (.ref bv1), .val (.int (5 : Int32)), .val (.int (2 : Int32)), .val (.ref aHIGH)] [])) _
          refine XS.iload X8.here hx rfl (hb hby d1_12) rfl ?_
          show Steps pg.tables ee below (T8.setTop (mkF mm 14 #[.val (.int p), .val (.ref bv1), .val (.ref bv1), .val (.int (5 : Int32)), .val (.int (2 : Int32)), .val (.ref aHIGH)] [(.int (2 : Int32))])) _
          refine XS.iloadN X8.here hx rfl (hb hby d1_14) rfl ?_
          show Steps pg.tables ee below (T8.setTop (mkF mm 15 #[.val (.int p), .val (.ref bv1), .val (.ref bv1), .val (.int (5 : Int32)), .val (.int (2 : Int32)), .val (.ref aHIGH)] [(.int (5 : Int32)), (.int (2 : Int32))])) _
          refine XS.icmpNo X8.here hx rfl (hb hby d1_15) rfl (tlt (by decide : (2 : Int32) < (5 : Int32))).2.1 ?_
          show Steps pg.tables ee below (T8.setTop (mkF mm 18 #[.val (.int p), .val (.ref bv1), .val (.ref bv1), .val (.int (5 : Int32)), .val (.int (2 : Int32)), .val (.ref aHIGH)] [])) _
          refine XS.aloadN X8.here hx rfl (hb hby d1_18) rfl rfl ?_
          show Steps pg.tables ee below (T8.setTop (mkF mm 19 #[.val (.int p), .val (.ref bv1), .val (.ref bv1), .val (.int (5 : Int32)), .val (.int (2 : Int32)), .val (.ref aHIGH)] [(.ref bv1)])) _
          refine XS.iload X8.here hx rfl (hb hby d1_19) rfl ?_
          show Steps pg.tables ee below (T8.setTop (mkF mm 21 #[.val (.int p), .val (.ref bv1), .val (.ref bv1), .val (.int (5 : Int32)), .val (.int (2 : Int32)), .val (.ref aHIGH)] [(.int (2 : Int32)), (.ref bv1)])) _
          refine X8.aaload hx (j := (2 : Int32)) (v := (.ref aNORMAL)) (by rw [e8]; exact Ar11.1) (State.isArrayOf_alike hZ.alike Ar11.2.1) rfl Ar11.2.2 hin11 (Has.at Hh11 hin11 rfl) (g := (mkF mm 21 #[.val (.int p), .val (.ref bv1), .val (.ref bv1), .val (.int (5 : Int32)), .val (.int (2 : Int32)), .val (.ref aHIGH)] [(.int (2 : Int32)), (.ref bv1)])) rfl rfl (hb hby d1_21) _ ?_
          show Steps pg.tables ee below (T8.setTop (mkF mm 22 #[.val (.int p), .val (.ref bv1), .val (.ref bv1), .val (.int (5 : Int32)), .val (.int (2 : Int32)), .val (.ref aHIGH)] [(.ref aNORMAL)])) _
          refine XS.astore X8.here hx rfl (hb hby d1_22) rfl rfl (l' := #[.val (.int p), .val (.ref bv1), .val (.ref bv1), .val (.int (5 : Int32)), .val (.int (2 : Int32)), .val (.ref aNORMAL)]) rfl ?_
          show Steps pg.tables ee below (T8.setTop (mkF mm 24 #[.val (.int p), .val (.ref bv1), .val (.ref bv1), .val (.int (5 : Int32)), .val (.int (2 : Int32)), .val (.ref aNORMAL)] [])) _
          refine XS.iloadN X8.here hx rfl (hb hby d1_24) rfl ?_
          show Steps pg.tables ee below (T8.setTop (mkF mm 25 #[.val (.int p), .val (.ref bv1), .val (.ref bv1), .val (.int (5 : Int32)), .val (.int (2 : Int32)), .val (.ref aNORMAL)] [(.int p)])) _
          refine XS.aload X8.here hx rfl (hb hby d1_25) rfl rfl ?_
          show Steps pg.tables ee below (T8.setTop (mkF mm 27 #[.val (.int p), .val (.ref bv1), .val (.ref bv1), .val (.int (5 : Int32)), .val (.int (2 : Int32)), .val (.ref aNORMAL)] [(.ref aNORMAL), (.int p)])) _
          refine st12 _ ?_
          exact k)
      by_cases hc14 : (59 : Int32) < p
      · obtain ⟨cl15, Ar15, qk15, Sz15, Nn15, Hh15, Gg15⟩ := id Vv1
        have hin15 : ¬ ((3 : Int32) < 0 ∨ cl15.slots.size ≤ ((3 : Int32)).toNatClampNeg) := inb_of Sz15 ⟨by decide, by decide⟩
        obtain ⟨T16, X16, e16, st16⟩ := getF X12 hx hZ hown (host := "") (Or.inl (hw _ (List.mem_of_getElem? (i := 27) rfl))) Via.refl e12 (F_LOW.ext O1.2) (g := (mkF mm 27 #[.val (.int p), .val (.ref bv1), .val (.ref bv1), .val (.int (5 : Int32)), .val (.int (3 : Int32)), .val (.ref aLOW)] [(.ref aLOW), (.int p)])) rfl rfl (hb hby d1_27)
        have pre17 : ∀ t, Steps pg.tables ee below (T16.setTop (mkF mm 30 #[.val (.int p), .val (.ref bv1), .val (.ref bv1), .val (.int (5 : Int32)), .val (.int (3 : Int32)), .val (.ref aLOW)] [(.int (79 : Int32)), (.int p)])) t → Steps pg.tables ee below (s₁.setTop (entryFrame mm #[(.int p)] 6)) t := fun t k => pre13 t (by
            show Steps pg.tables ee below (T12.setTop (mkF mm 30 #[.val (.int p), .val (.ref bv1), .val (.ref bv1), .val (.int (5 : Int32)), .val (.int (2 : Int32)), .val (.ref aNORMAL)] [(.int (59 : Int32)), (.int p)])) _
            refine XS.icmpYes X12.here hx rfl (pc0 := 30) (pc' := 36) rfl (hb hby d1_30) rfl (tlt hc14).2.2.1 (by decide) (by decide) ?_
            show Steps pg.tables ee below (T12.setTop (mkF mm 36 #[.val (.int p), .val (.ref bv1), .val (.ref bv1), .val (.int (5 : Int32)), .val (.int (2 : Int32)), .val (.ref aNORMAL)] [])) _
            refine XS.iinc X12.here hx rfl (hb hby d1_36) rfl (l' := #[.val (.int p), .val (.ref bv1), .val (.ref bv1), .val (.int (5 : Int32)), .val (.int (3 : Int32)), .val (.ref aNORMAL)]) rfl ?_
            show Steps pg.tables ee below (T12.setTop (mkF mm 39 #[.val (.int p), .val (.ref bv1), .val (.ref bv1), .val (.int (5 : Int32)), .val (.int (3 : Int32)), .val (.ref aNORMAL)] [])) _
            refine XS.goto X12.here hx rfl (pc0 := 39) (pc' := 12) rfl (hb hby d1_39) (by decide) (by decide) ?_
            show Steps pg.tables ee below (T12.setTop (mkF mm 12 #[.val (.int p), .val (.ref bv1), .val (.ref bv1), .val (.int (5 : Int32)), .val (.int (3 : Int32)), .val (.ref aNORMAL)] [])) _
            refine XS.iload X12.here hx rfl (hb hby d1_12) rfl ?_
            show Steps pg.tables ee below (T12.setTop (mkF mm 14 #[.val (.int p), .val (.ref bv1), .val (.ref bv1), .val (.int (5 : Int32)), .val (.int (3 : Int32)), .val (.ref aNORMAL)] [(.int (3 : Int32))])) _
            refine XS.iloadN X12.here hx rfl (hb hby d1_14) rfl ?_
            show Steps pg.tables ee below (T12.setTop (mkF mm 15 #[.val (.int p), .val (.ref bv1), .val (.ref bv1), .val (.int (5 : Int32)), .val (.int (3 : Int32)), .val (.ref aNORMAL)] [(.int (5 : Int32)), (.int (3 : Int32))])) _
            refine XS.icmpNo X12.here hx rfl (hb hby d1_15) rfl (tlt (by decide : (3 : Int32) < (5 : Int32))).2.1 ?_
            show Steps pg.tables ee below (T12.setTop (mkF mm 18 #[.val (.int p), .val (.ref bv1), .val (.ref bv1), .val (.int (5 : Int32)), .val (.int (3 : Int32)), .val (.ref aNORMAL)] [])) _
            refine XS.aloadN X12.here hx rfl (hb hby d1_18) rfl rfl ?_
            show Steps pg.tables ee below (T12.setTop (mkF mm 19 #[.val (.int p), .val (.ref bv1), .val (.ref bv1), .val (.int (5 : Int32)), .val (.int (3 : Int32)), .val (.ref aNORMAL)] [(.ref bv1)])) _
            refine XS.iload X12.here hx rfl (hb hby d1_19) rfl ?_
            show Steps pg.tables ee below (T12.setTop (mkF mm 21 #[.val (.int p), .val (.ref bv1), .val (.ref bv1), .val (.int (5 : Int32)), .val (.int (3 : Int32)), .val (.ref aNORMAL)] [(.int (3 : Int32)), (.ref bv1)])) _
            refine X12.aaload hx (j := (3 : Int32)) (v := (.ref aLOW)) (by rw [e12]; exact Ar15.1) (State.isArrayOf_alike hZ.alike Ar15.2.1) rfl Ar15.2.2 hin15 (Has.at Hh15 hin15 rfl) (g := (mkF mm 21 #[.val (.int p), .val (.ref bv1), .val (.ref bv1), .val (.int (5 : Int32)), .val (.int (3 : Int32)), .val (.ref aNORMAL)] [(.int (3 : Int32)), (.ref bv1)])) rfl rfl (hb hby d1_21) _ ?_
            show Steps pg.tables ee below (T12.setTop (mkF mm 22 #[.val (.int p), .val (.ref bv1), .val (.ref bv1), .val (.int (5 : Int32)), .val (.int (3 : Int32)), .val (.ref aNORMAL)] [(.ref aLOW)])) _
            refine XS.astore X12.here hx rfl (hb hby d1_22) rfl rfl (l' := #[.val (.int p), .val (.ref bv1), .val (.ref bv1), .val (.int (5 : Int32)), .val (.int (3 : Int32)), .val (.ref aLOW)]) rfl ?_
            show Steps pg.tables ee below (T12.setTop (mkF mm 24 #[.val (.int p), .val (.ref bv1), .val (.ref bv1), .val (.int (5 : Int32)), .val (.int (3 : Int32)), .val (.ref aLOW)] [])) _
            refine XS.iloadN X12.here hx rfl (hb hby d1_24) rfl ?_
            show Steps pg.tables ee below (T12.setTop (mkF mm 25 #[.val (.int p), .val (.ref bv1), .val (.ref bv1), .val (.int (5 : Int32)), .val (.int (3 : Int32)), .val (.ref aLOW)] [(.int p)])) _
            refine XS.aload X12.here hx rfl (hb hby d1_25) rfl rfl ?_
            show Steps pg.tables ee below (T12.setTop (mkF mm 27 #[.val (.int p), .val (.ref bv1), .val (.ref bv1), .val (.int (5 : Int32)), .val (.int (3 : Int32)), .val (.ref aLOW)] [(.ref aLOW), (.int p)])) _
            refine st16 _ ?_
            exact k)
        by_cases hc18 : (79 : Int32) < p
        · obtain ⟨cl19, Ar19, qk19, Sz19, Nn19, Hh19, Gg19⟩ := id Vv1
          have hin19 : ¬ ((4 : Int32) < 0 ∨ cl19.slots.size ≤ ((4 : Int32)).toNatClampNeg) := inb_of Sz19 ⟨by decide, by decide⟩
          obtain ⟨T20, X20, e20, st20⟩ := getF X16 hx hZ hown (host := "") (Or.inl (hw _ (List.mem_of_getElem? (i := 27) rfl))) Via.refl e16 (F_BACKGROUND.ext O1.2) (g := (mkF mm 27 #[.val (.int p), .val (.ref bv1), .val (.ref bv1), .val (.int (5 : Int32)), .val (.int (4 : Int32)), .val (.ref aBACKGROUND)] [(.ref aBACKGROUND), (.int p)])) rfl rfl (hb hby d1_27)
          have pre21 : ∀ t, Steps pg.tables ee below (T20.setTop (mkF mm 30 #[.val (.int p), .val (.ref bv1), .val (.ref bv1), .val (.int (5 : Int32)), .val (.int (4 : Int32)), .val (.ref aBACKGROUND)] [(.int (100 : Int32)), (.int p)])) t → Steps pg.tables ee below (s₁.setTop (entryFrame mm #[(.int p)] 6)) t := fun t k => pre17 t (by
              show Steps pg.tables ee below (T16.setTop (mkF mm 30 #[.val (.int p), .val (.ref bv1), .val (.ref bv1), .val (.int (5 : Int32)), .val (.int (3 : Int32)), .val (.ref aLOW)] [(.int (79 : Int32)), (.int p)])) _
              refine XS.icmpYes X16.here hx rfl (pc0 := 30) (pc' := 36) rfl (hb hby d1_30) rfl (tlt hc18).2.2.1 (by decide) (by decide) ?_
              show Steps pg.tables ee below (T16.setTop (mkF mm 36 #[.val (.int p), .val (.ref bv1), .val (.ref bv1), .val (.int (5 : Int32)), .val (.int (3 : Int32)), .val (.ref aLOW)] [])) _
              refine XS.iinc X16.here hx rfl (hb hby d1_36) rfl (l' := #[.val (.int p), .val (.ref bv1), .val (.ref bv1), .val (.int (5 : Int32)), .val (.int (4 : Int32)), .val (.ref aLOW)]) rfl ?_
              show Steps pg.tables ee below (T16.setTop (mkF mm 39 #[.val (.int p), .val (.ref bv1), .val (.ref bv1), .val (.int (5 : Int32)), .val (.int (4 : Int32)), .val (.ref aLOW)] [])) _
              refine XS.goto X16.here hx rfl (pc0 := 39) (pc' := 12) rfl (hb hby d1_39) (by decide) (by decide) ?_
              show Steps pg.tables ee below (T16.setTop (mkF mm 12 #[.val (.int p), .val (.ref bv1), .val (.ref bv1), .val (.int (5 : Int32)), .val (.int (4 : Int32)), .val (.ref aLOW)] [])) _
              refine XS.iload X16.here hx rfl (hb hby d1_12) rfl ?_
              show Steps pg.tables ee below (T16.setTop (mkF mm 14 #[.val (.int p), .val (.ref bv1), .val (.ref bv1), .val (.int (5 : Int32)), .val (.int (4 : Int32)), .val (.ref aLOW)] [(.int (4 : Int32))])) _
              refine XS.iloadN X16.here hx rfl (hb hby d1_14) rfl ?_
              show Steps pg.tables ee below (T16.setTop (mkF mm 15 #[.val (.int p), .val (.ref bv1), .val (.ref bv1), .val (.int (5 : Int32)), .val (.int (4 : Int32)), .val (.ref aLOW)] [(.int (5 : Int32)), (.int (4 : Int32))])) _
              refine XS.icmpNo X16.here hx rfl (hb hby d1_15) rfl (tlt (by decide : (4 : Int32) < (5 : Int32))).2.1 ?_
              show Steps pg.tables ee below (T16.setTop (mkF mm 18 #[.val (.int p), .val (.ref bv1), .val (.ref bv1), .val (.int (5 : Int32)), .val (.int (4 : Int32)), .val (.ref aLOW)] [])) _
              refine XS.aloadN X16.here hx rfl (hb hby d1_18) rfl rfl ?_
              show Steps pg.tables ee below (T16.setTop (mkF mm 19 #[.val (.int p), .val (.ref bv1), .val (.ref bv1), .val (.int (5 : Int32)), .val (.int (4 : Int32)), .val (.ref aLOW)] [(.ref bv1)])) _
              refine XS.iload X16.here hx rfl (hb hby d1_19) rfl ?_
              show Steps pg.tables ee below (T16.setTop (mkF mm 21 #[.val (.int p), .val (.ref bv1), .val (.ref bv1), .val (.int (5 : Int32)), .val (.int (4 : Int32)), .val (.ref aLOW)] [(.int (4 : Int32)), (.ref bv1)])) _
              refine X16.aaload hx (j := (4 : Int32)) (v := (.ref aBACKGROUND)) (by rw [e16]; exact Ar19.1) (State.isArrayOf_alike hZ.alike Ar19.2.1) rfl Ar19.2.2 hin19 (Has.at Hh19 hin19 rfl) (g := (mkF mm 21 #[.val (.int p), .val (.ref bv1), .val (.ref bv1), .val (.int (5 : Int32)), .val (.int (4 : Int32)), .val (.ref aLOW)] [(.int (4 : Int32)), (.ref bv1)])) rfl rfl (hb hby d1_21) _ ?_
              show Steps pg.tables ee below (T16.setTop (mkF mm 22 #[.val (.int p), .val (.ref bv1), .val (.ref bv1), .val (.int (5 : Int32)), .val (.int (4 : Int32)), .val (.ref aLOW)] [(.ref aBACKGROUND)])) _
              refine XS.astore X16.here hx rfl (hb hby d1_22) rfl rfl (l' := #[.val (.int p), .val (.ref bv1), .val (.ref bv1), .val (.int (5 : Int32)), .val (.int (4 : Int32)), .val (.ref aBACKGROUND)]) rfl ?_
              show Steps pg.tables ee below (T16.setTop (mkF mm 24 #[.val (.int p), .val (.ref bv1), .val (.ref bv1), .val (.int (5 : Int32)), .val (.int (4 : Int32)), .val (.ref aBACKGROUND)] [])) _
              refine XS.iloadN X16.here hx rfl (hb hby d1_24) rfl ?_
              show Steps pg.tables ee below (T16.setTop (mkF mm 25 #[.val (.int p), .val (.ref bv1), .val (.ref bv1), .val (.int (5 : Int32)), .val (.int (4 : Int32)), .val (.ref aBACKGROUND)] [(.int p)])) _
              refine XS.aload X16.here hx rfl (hb hby d1_25) rfl rfl ?_
              show Steps pg.tables ee below (T16.setTop (mkF mm 27 #[.val (.int p), .val (.ref bv1), .val (.ref bv1), .val (.int (5 : Int32)), .val (.int (4 : Int32)), .val (.ref aBACKGROUND)] [(.ref aBACKGROUND), (.int p)])) _
              refine st20 _ ?_
              exact k)
          by_cases hc22 : (100 : Int32) < p
          · obtain ⟨cl23, Ar23, qk23, Sz23, Nn23, Hh23, Gg23⟩ := id Vv1
            obtain ⟨cl24, Ar24, qk24, Sz24, Nn24, Hh24, Gg24⟩ := id Vv1
            have hin24 : ¬ ((4 : Int32) < 0 ∨ cl24.slots.size ≤ ((4 : Int32)).toNatClampNeg) := inb_of Sz24 ⟨by decide, by decide⟩
            obtain ⟨fs, hr, hrun, hended, hW, hsame⟩ := X20.leave (v := some (.ref aBACKGROUND)) (fun h => by rw [Bd.returns] at h; cases h)
            refine ⟨_, _, pre21 _ ?_, hrun, hended, _, _, rfl, ?_, ⟨_, rfl⟩, hW, hsame.mono (by decide) (by decide)⟩
            · show Steps pg.tables ee below (T20.setTop (mkF mm 30 #[.val (.int p), .val (.ref bv1), .val (.ref bv1), .val (.int (5 : Int32)), .val (.int (4 : Int32)), .val (.ref aBACKGROUND)] [(.int (100 : Int32)), (.int p)])) _
              refine XS.icmpYes X20.here hx rfl (pc0 := 30) (pc' := 36) rfl (hb hby d1_30) rfl (tlt hc22).2.2.1 (by decide) (by decide) ?_
              show Steps pg.tables ee below (T20.setTop (mkF mm 36 #[.val (.int p), .val (.ref bv1), .val (.ref bv1), .val (.int (5 : Int32)), .val (.int (4 : Int32)), .val (.ref aBACKGROUND)] [])) _
              refine XS.iinc X20.here hx rfl (hb hby d1_36) rfl (l' := #[.val (.int p), .val (.ref bv1), .val (.ref bv1), .val (.int (5 : Int32)), .val (.int (5 : Int32)), .val (.ref aBACKGROUND)]) rfl ?_
              show Steps pg.tables ee below (T20.setTop (mkF mm 39 #[.val (.int p), .val (.ref bv1), .val (.ref bv1), .val (.int (5 : Int32)), .val (.int (5 : Int32)), .val (.ref aBACKGROUND)] [])) _
              refine XS.goto X20.here hx rfl (pc0 := 39) (pc' := 12) rfl (hb hby d1_39) (by decide) (by decide) ?_
              show Steps pg.tables ee below (T20.setTop (mkF mm 12 #[.val (.int p), .val (.ref bv1), .val (.ref bv1), .val (.int (5 : Int32)), .val (.int (5 : Int32)), .val (.ref aBACKGROUND)] [])) _
              refine XS.iload X20.here hx rfl (hb hby d1_12) rfl ?_
              show Steps pg.tables ee below (T20.setTop (mkF mm 14 #[.val (.int p), .val (.ref bv1), .val (.ref bv1), .val (.int (5 : Int32)), .val (.int (5 : Int32)), .val (.ref aBACKGROUND)] [(.int (5 : Int32))])) _
              refine XS.iloadN X20.here hx rfl (hb hby d1_14) rfl ?_
              show Steps pg.tables ee below (T20.setTop (mkF mm 15 #[.val (.int p), .val (.ref bv1), .val (.ref bv1), .val (.int (5 : Int32)), .val (.int (5 : Int32)), .val (.ref aBACKGROUND)] [(.int (5 : Int32)), (.int (5 : Int32))])) _
              refine XS.icmpYes X20.here hx rfl (pc0 := 15) (pc' := 42) rfl (hb hby d1_15) rfl (flt (by decide : ¬ ((5 : Int32) < (5 : Int32)))).2.1 (by decide) (by decide) ?_
              show Steps pg.tables ee below (T20.setTop (mkF mm 42 #[.val (.int p), .val (.ref bv1), .val (.ref bv1), .val (.int (5 : Int32)), .val (.int (5 : Int32)), .val (.ref aBACKGROUND)] [])) _
              refine XS.aloadN X20.here hx rfl (hb hby d1_42) rfl rfl ?_
              show Steps pg.tables ee below (T20.setTop (mkF mm 43 #[.val (.int p), .val (.ref bv1), .val (.ref bv1), .val (.int (5 : Int32)), .val (.int (5 : Int32)), .val (.ref aBACKGROUND)] [(.ref bv1)])) _
              refine XS.aloadN X20.here hx rfl (hb hby d1_43) rfl rfl ?_
              show Steps pg.tables ee below (T20.setTop (mkF mm 44 #[.val (.int p), .val (.ref bv1), .val (.ref bv1), .val (.int (5 : Int32)), .val (.int (5 : Int32)), .val (.ref aBACKGROUND)] [(.ref bv1), (.ref bv1)])) _
              refine X20.arraylength hx (by rw [e20]; exact Ar23.1) (State.isArrayOf_alike hZ.alike Ar23.2.1) (g := (mkF mm 44 #[.val (.int p), .val (.ref bv1), .val (.ref bv1), .val (.int (5 : Int32)), .val (.int (5 : Int32)), .val (.ref aBACKGROUND)] [(.ref bv1), (.ref bv1)])) rfl rfl (hb hby d1_44) _ ?_
              rw [len_of Sz23 Nn23]
              show Steps pg.tables ee below (T20.setTop (mkF mm 45 #[.val (.int p), .val (.ref bv1), .val (.ref bv1), .val (.int (5 : Int32)), .val (.int (5 : Int32)), .val (.ref aBACKGROUND)] [(.int (5 : Int32)), (.ref bv1)])) _
              refine XS.iconst X20.here hx rfl (hb hby d1_45) ?_
              show Steps pg.tables ee below (T20.setTop (mkF mm 46 #[.val (.int p), .val (.ref bv1), .val (.ref bv1), .val (.int (5 : Int32)), .val (.int (5 : Int32)), .val (.ref aBACKGROUND)] [(.int (1 : Int32)), (.int (5 : Int32)), (.ref bv1)])) _
              refine XS.isub X20.here hx rfl (hb hby d1_46) rfl ?_
              show Steps pg.tables ee below (T20.setTop (mkF mm 47 #[.val (.int p), .val (.ref bv1), .val (.ref bv1), .val (.int (5 : Int32)), .val (.int (5 : Int32)), .val (.ref aBACKGROUND)] [(.int (4 : Int32)), (.ref bv1)])) _
              refine X20.aaload hx (j := (4 : Int32)) (v := (.ref aBACKGROUND)) (by rw [e20]; exact Ar24.1) (State.isArrayOf_alike hZ.alike Ar24.2.1) rfl Ar24.2.2 hin24 (Has.at Hh24 hin24 rfl) (g := (mkF mm 47 #[.val (.int p), .val (.ref bv1), .val (.ref bv1), .val (.int (5 : Int32)), .val (.int (5 : Int32)), .val (.ref aBACKGROUND)] [(.int (4 : Int32)), (.ref bv1)])) rfl rfl (hb hby d1_47) _ ?_
              show Steps pg.tables ee below (T20.setTop (mkF mm 48 #[.val (.int p), .val (.ref bv1), .val (.ref bv1), .val (.int (5 : Int32)), .val (.int (5 : Int32)), .val (.ref aBACKGROUND)] [(.ref aBACKGROUND)])) _
              exact retOut X20 hx Bd.returns rfl (Or.inr (Or.inr (Or.inr (Or.inr ⟨rfl, rfl, rfl⟩)))) (hb hby d1_48) hr
            · show QrmO Z p aV kV aCRITICAL aHIGH aNORMAL aLOW aBACKGROUND h0 n0 _ T20.heap _
              rw [e20]
              exact ⟨by unfold own_t; rw [if_pos hc6, if_pos hc10, if_pos hc14, if_pos hc18], N1, KK1⟩
          · obtain ⟨fs, hr, hrun, hended, hW, hsame⟩ := X20.leave (v := some (.ref aBACKGROUND)) (fun h => by rw [Bd.returns] at h; cases h)
            refine ⟨_, _, pre21 _ ?_, hrun, hended, _, _, rfl, ?_, ⟨_, rfl⟩, hW, hsame.mono (by decide) (by decide)⟩
            · show Steps pg.tables ee below (T20.setTop (mkF mm 30 #[.val (.int p), .val (.ref bv1), .val (.ref bv1), .val (.int (5 : Int32)), .val (.int (4 : Int32)), .val (.ref aBACKGROUND)] [(.int (100 : Int32)), (.int p)])) _
              refine XS.icmpNo X20.here hx rfl (hb hby d1_30) rfl (flt hc22).2.2.1 ?_
              show Steps pg.tables ee below (T20.setTop (mkF mm 33 #[.val (.int p), .val (.ref bv1), .val (.ref bv1), .val (.int (5 : Int32)), .val (.int (4 : Int32)), .val (.ref aBACKGROUND)] [])) _
              refine XS.aload X20.here hx rfl (hb hby d1_33) rfl rfl ?_
              show Steps pg.tables ee below (T20.setTop (mkF mm 35 #[.val (.int p), .val (.ref bv1), .val (.ref bv1), .val (.int (5 : Int32)), .val (.int (4 : Int32)), .val (.ref aBACKGROUND)] [(.ref aBACKGROUND)])) _
              exact retOut X20 hx Bd.returns rfl (Or.inr (Or.inr (Or.inr (Or.inr ⟨rfl, rfl, rfl⟩)))) (hb hby d1_35) hr
            · show QrmO Z p aV kV aCRITICAL aHIGH aNORMAL aLOW aBACKGROUND h0 n0 _ T20.heap _
              rw [e20]
              exact ⟨by unfold own_t; rw [if_pos hc6, if_pos hc10, if_pos hc14, if_pos hc18], N1, KK1⟩
        · obtain ⟨fs, hr, hrun, hended, hW, hsame⟩ := X16.leave (v := some (.ref aLOW)) (fun h => by rw [Bd.returns] at h; cases h)
          refine ⟨_, _, pre17 _ ?_, hrun, hended, _, _, rfl, ?_, ⟨_, rfl⟩, hW, hsame.mono (by decide) (by decide)⟩
          · show Steps pg.tables ee below (T16.setTop (mkF mm 30 #[.val (.int p), .val (.ref bv1), .val (.ref bv1), .val (.int (5 : Int32)), .val (.int (3 : Int32)), .val (.ref aLOW)] [(.int (79 : Int32)), (.int p)])) _
            refine XS.icmpNo X16.here hx rfl (hb hby d1_30) rfl (flt hc18).2.2.1 ?_
            show Steps pg.tables ee below (T16.setTop (mkF mm 33 #[.val (.int p), .val (.ref bv1), .val (.ref bv1), .val (.int (5 : Int32)), .val (.int (3 : Int32)), .val (.ref aLOW)] [])) _
            refine XS.aload X16.here hx rfl (hb hby d1_33) rfl rfl ?_
            show Steps pg.tables ee below (T16.setTop (mkF mm 35 #[.val (.int p), .val (.ref bv1), .val (.ref bv1), .val (.int (5 : Int32)), .val (.int (3 : Int32)), .val (.ref aLOW)] [(.ref aLOW)])) _
            exact retOut X16 hx Bd.returns rfl (Or.inr (Or.inr (Or.inr (Or.inr ⟨rfl, rfl, rfl⟩)))) (hb hby d1_35) hr
          · show QrmO Z p aV kV aCRITICAL aHIGH aNORMAL aLOW aBACKGROUND h0 n0 _ T16.heap _
            rw [e16]
            exact ⟨by unfold own_t; rw [if_pos hc6, if_pos hc10, if_pos hc14, if_neg hc18], N1, KK1⟩
      · obtain ⟨fs, hr, hrun, hended, hW, hsame⟩ := X12.leave (v := some (.ref aNORMAL)) (fun h => by rw [Bd.returns] at h; cases h)
        refine ⟨_, _, pre13 _ ?_, hrun, hended, _, _, rfl, ?_, ⟨_, rfl⟩, hW, hsame.mono (by decide) (by decide)⟩
        · show Steps pg.tables ee below (T12.setTop (mkF mm 30 #[.val (.int p), .val (.ref bv1), .val (.ref bv1), .val (.int (5 : Int32)), .val (.int (2 : Int32)), .val (.ref aNORMAL)] [(.int (59 : Int32)), (.int p)])) _
          refine XS.icmpNo X12.here hx rfl (hb hby d1_30) rfl (flt hc14).2.2.1 ?_
          show Steps pg.tables ee below (T12.setTop (mkF mm 33 #[.val (.int p), .val (.ref bv1), .val (.ref bv1), .val (.int (5 : Int32)), .val (.int (2 : Int32)), .val (.ref aNORMAL)] [])) _
          refine XS.aload X12.here hx rfl (hb hby d1_33) rfl rfl ?_
          show Steps pg.tables ee below (T12.setTop (mkF mm 35 #[.val (.int p), .val (.ref bv1), .val (.ref bv1), .val (.int (5 : Int32)), .val (.int (2 : Int32)), .val (.ref aNORMAL)] [(.ref aNORMAL)])) _
          exact retOut X12 hx Bd.returns rfl (Or.inr (Or.inr (Or.inr (Or.inr ⟨rfl, rfl, rfl⟩)))) (hb hby d1_35) hr
        · show QrmO Z p aV kV aCRITICAL aHIGH aNORMAL aLOW aBACKGROUND h0 n0 _ T12.heap _
          rw [e12]
          exact ⟨by unfold own_t; rw [if_pos hc6, if_pos hc10, if_neg hc14], N1, KK1⟩
    · obtain ⟨fs, hr, hrun, hended, hW, hsame⟩ := X8.leave (v := some (.ref aHIGH)) (fun h => by rw [Bd.returns] at h; cases h)
      refine ⟨_, _, pre9 _ ?_, hrun, hended, _, _, rfl, ?_, ⟨_, rfl⟩, hW, hsame.mono (by decide) (by decide)⟩
      · show Steps pg.tables ee below (T8.setTop (mkF mm 30 #[.val (.int p), .val (.ref bv1), .val (.ref bv1), .val (.int (5 : Int32)), .val (.int (1 : Int32)), .val (.ref aHIGH)] [(.int (29 : Int32)), (.int p)])) _
        refine XS.icmpNo X8.here hx rfl (hb hby d1_30) rfl (flt hc10).2.2.1 ?_
        show Steps pg.tables ee below (T8.setTop (mkF mm 33 #[.val (.int p), .val (.ref bv1), .val (.ref bv1), .val (.int (5 : Int32)), .val (.int (1 : Int32)), .val (.ref aHIGH)] [])) _
        refine XS.aload X8.here hx rfl (hb hby d1_33) rfl rfl ?_
        show Steps pg.tables ee below (T8.setTop (mkF mm 35 #[.val (.int p), .val (.ref bv1), .val (.ref bv1), .val (.int (5 : Int32)), .val (.int (1 : Int32)), .val (.ref aHIGH)] [(.ref aHIGH)])) _
        exact retOut X8 hx Bd.returns rfl (Or.inr (Or.inr (Or.inr (Or.inr ⟨rfl, rfl, rfl⟩)))) (hb hby d1_35) hr
      · show QrmO Z p aV kV aCRITICAL aHIGH aNORMAL aLOW aBACKGROUND h0 n0 _ T8.heap _
        rw [e8]
        exact ⟨by unfold own_t; rw [if_pos hc6, if_neg hc10], N1, KK1⟩
  · obtain ⟨fs, hr, hrun, hended, hW, hsame⟩ := X4.leave (v := some (.ref aCRITICAL)) (fun h => by rw [Bd.returns] at h; cases h)
    refine ⟨_, _, pre5 _ ?_, hrun, hended, _, _, rfl, ?_, ⟨_, rfl⟩, hW, hsame.mono (by decide) (by decide)⟩
    · show Steps pg.tables ee below (T4.setTop (mkF mm 30 #[.val (.int p), .val (.ref bv1), .val (.ref bv1), .val (.int (5 : Int32)), .val (.int (0 : Int32)), .val (.ref aCRITICAL)] [(.int (9 : Int32)), (.int p)])) _
      refine XS.icmpNo X4.here hx rfl (hb hby d1_30) rfl (flt hc6).2.2.1 ?_
      show Steps pg.tables ee below (T4.setTop (mkF mm 33 #[.val (.int p), .val (.ref bv1), .val (.ref bv1), .val (.int (5 : Int32)), .val (.int (0 : Int32)), .val (.ref aCRITICAL)] [])) _
      refine XS.aload X4.here hx rfl (hb hby d1_33) rfl rfl ?_
      show Steps pg.tables ee below (T4.setTop (mkF mm 35 #[.val (.int p), .val (.ref bv1), .val (.ref bv1), .val (.int (5 : Int32)), .val (.int (0 : Int32)), .val (.ref aCRITICAL)] [(.ref aCRITICAL)])) _
      exact retOut X4 hx Bd.returns rfl (Or.inr (Or.inr (Or.inr (Or.inr ⟨rfl, rfl, rfl⟩)))) (hb hby d1_35) hr
    · show QrmO Z p aV kV aCRITICAL aHIGH aNORMAL aLOW aBACKGROUND h0 n0 _ T4.heap _
      rw [e4]
      exact ⟨by unfold own_t; rw [if_neg hc6], N1, KK1⟩
theorem d3_0 : decode method_2_code 0 = .ok (.iload_n 0, 1) := by decide +kernel
theorem d3_1 : decode method_2_code 1 = .ok (.bipush 9, 2) := by decide +kernel
theorem d3_3 : decode method_2_code 3 = .ok (.if_icmp .gt 7, 3) := by decide +kernel
theorem d3_10 : decode method_2_code 10 = .ok (.iload_n 0, 1) := by decide +kernel
theorem d3_11 : decode method_2_code 11 = .ok (.bipush 29, 2) := by decide +kernel
theorem d3_13 : decode method_2_code 13 = .ok (.if_icmp .gt 7, 3) := by decide +kernel
theorem d3_20 : decode method_2_code 20 = .ok (.iload_n 0, 1) := by decide +kernel
theorem d3_21 : decode method_2_code 21 = .ok (.bipush 59, 2) := by decide +kernel
theorem d3_23 : decode method_2_code 23 = .ok (.if_icmp .gt 7, 3) := by decide +kernel
theorem d3_30 : decode method_2_code 30 = .ok (.iload_n 0, 1) := by decide +kernel
theorem d3_31 : decode method_2_code 31 = .ok (.bipush 79, 2) := by decide +kernel
theorem d3_33 : decode method_2_code 33 = .ok (.if_icmp .gt 7, 3) := by decide +kernel
theorem d3_40 : decode method_2_code 40 = .ok (.getstatic 22, 3) := by decide +kernel
theorem d3_43 : decode method_2_code 43 = .ok (.areturn, 1) := by decide +kernel
theorem d3_36 : decode method_2_code 36 = .ok (.getstatic 19, 3) := by decide +kernel
theorem d3_39 : decode method_2_code 39 = .ok (.areturn, 1) := by decide +kernel
theorem d3_26 : decode method_2_code 26 = .ok (.getstatic 16, 3) := by decide +kernel
theorem d3_29 : decode method_2_code 29 = .ok (.areturn, 1) := by decide +kernel
theorem d3_16 : decode method_2_code 16 = .ok (.getstatic 13, 3) := by decide +kernel
theorem d3_19 : decode method_2_code 19 = .ok (.areturn, 1) := by decide +kernel
theorem d3_6 : decode method_2_code 6 = .ok (.getstatic 7, 3) := by decide +kernel
theorem d3_9 : decode method_2_code 9 = .ok (.areturn, 1) := by decide +kernel
theorem pn_61 : plainName "com/example/orders_into_outcomes/ordersintooutcomes/model/PriorityTierOfPinLaw" = true := by first | (simp [plainName, overriddenIn]; done) | decide +kernel
theorem ef_3_62 (m : MethodId) (x0 : Int32) : entryFrame m #[(.int x0)] 1 = mkF m 0 #[.val (.int x0)] [] := by first | (simp [entryFrame, mkF, argsToLocals, Value.category]; done) | rfl
def QrmX (Z : State) (p : Int32) (aV : Addr) (kV : ClassId) (aCRITICAL : Addr) (aHIGH : Addr) (aNORMAL : Addr) (aLOW : Addr) (aBACKGROUND : Addr) (h0 : Heap) (n0 : Nat) (v : Option Value) (h : Heap) (L : List Loc) : Prop := v = some (.ref (own_t p aCRITICAL aHIGH aNORMAL aLOW aBACKGROUND)) ∧ Fr n0 L ∧ h = h0
set_option maxRecDepth 65536 in
set_option maxHeartbeats 40000000 in
theorem rmX (l : Launch) (Z : State) (a0 : Array Value) (hw : ∀ d ∈ tables_1, d.before a0 Z = true) (ws : List Jvm.Cond) (p : Int32) (aV : Addr) (kV : ClassId) (aCRITICAL : Addr) (aHIGH : Addr) (aNORMAL : Addr) (aLOW : Addr) (aBACKGROUND : Addr) (h0 : Heap) (n0 : Nat) (O0 : Old Z n0 h0) (S_CRITICAL : Sta Z Z.heap "com/example/orders_into_outcomes/ordersintooutcomes/model/PriorityTier" "CRITICAL" "Lcom/example/orders_into_outcomes/ordersintooutcomes/model/PriorityTier;" (.ref aCRITICAL)) (S_HIGH : Sta Z Z.heap "com/example/orders_into_outcomes/ordersintooutcomes/model/PriorityTier" "HIGH" "Lcom/example/orders_into_outcomes/ordersintooutcomes/model/PriorityTier;" (.ref aHIGH)) (S_NORMAL : Sta Z Z.heap "com/example/orders_into_outcomes/ordersintooutcomes/model/PriorityTier" "NORMAL" "Lcom/example/orders_into_outcomes/ordersintooutcomes/model/PriorityTier;" (.ref aNORMAL)) (S_LOW : Sta Z Z.heap "com/example/orders_into_outcomes/ordersintooutcomes/model/PriorityTier" "LOW" "Lcom/example/orders_into_outcomes/ordersintooutcomes/model/PriorityTier;" (.ref aLOW)) (S_BACKGROUND : Sta Z Z.heap "com/example/orders_into_outcomes/ordersintooutcomes/model/PriorityTier" "BACKGROUND" "Lcom/example/orders_into_outcomes/ordersintooutcomes/model/PriorityTier;" (.ref aBACKGROUND)) :
    MetFree l (⟨"com/example/orders_into_outcomes/ordersintooutcomes/model/PriorityTierOfPinLaw", "expected", "(I)Lcom/example/orders_into_outcomes/ordersintooutcomes/model/PriorityTier;"⟩ : MethodName) (head1 (Jvm.Cond.code (⟨"com/example/orders_into_outcomes/ordersintooutcomes/model/PriorityTierOfPinLaw", "expected", "(I)Lcom/example/orders_into_outcomes/ordersintooutcomes/model/PriorityTier;"⟩ : MethodName) method_2_code 1 (some (.object "com/example/orders_into_outcomes/ordersintooutcomes/model/PriorityTier")) :: ws) ({ frames := 0, cells := 0, slots := 0, locals := 0 } : Room)) (fun a_ U_ => a_ = #[(.int p)] ∧ Z.Warmed39 U_.vm ∧ U_.heap = h0) (fun _ _ _ _ _ => True) (fun _ U_ o_ U'_ => ∃ v_ L_, o_ = .returned v_ ∧ QrmX Z p aV kV aCRITICAL aHIGH aNORMAL aLOW aBACKGROUND h0 n0 v_ U'_.heap L_ ∧ FrameEnd U_ o_ U'_ L_ ({ frames := 0, cells := 0, slots := 0, locals := 0 } : Room).cells ({ frames := 0, cells := 0, slots := 0, locals := 0 } : Room).slots) := by
  refine MetFree.of_bodySF (plainFor_of_name pn_61) hisR ?_
  intro pg ee s mm args below meth cc s₁ Bd hml0 hP hK
  obtain ⟨rfl, hZ, hh⟩ := hP
  have hx := Bd.exec
  have hby := Bd.bytes
  have hml : cc.maxLocals = 1 := hml0
  have hown : s.vm.findClass "com/example/orders_into_outcomes/ordersintooutcomes/model/PriorityTierOfPinLaw" = some mm.cls := findClass_of_methodNamed Bd.named
  have hnm := (name_of_methodNamed Bd.named Bd.method).1
  have X0 : Stand pg l ee ({ frames := 0, cells := 0, slots := 0, locals := 0 } : Room) s mm #[(.int p)] below meth cc s₁ [] 0 0 := Stand.of_body Bd
  have e0 : s₁.heap = h0 := by rw [← hh, Bd.state]; rfl
  have N0 := Fr.nil n0
  have K0 : Keep h0 h0 ([] : List Addr) := Keep.refl _ _
  have pre0 : ∀ t, Steps pg.tables ee below (s₁.setTop (mkF mm 0 #[.val (.int p)] [])) t → Steps pg.tables ee below (s₁.setTop (entryFrame mm #[(.int p)] 1)) t := fun t k => castTop (ef_3_62 mm p) k
  have pre1 : ∀ t, Steps pg.tables ee below (s₁.setTop (mkF mm 3 #[.val (.int p)] [(.int (9 : Int32)), (.int p)])) t → Steps pg.tables ee below (s₁.setTop (entryFrame mm #[(.int p)] 1)) t := fun t k => pre0 t (by
      show Steps pg.tables ee below (s₁.setTop (mkF mm 0 #[.val (.int p)] [])) _
      refine XS.iloadN X0.here hx rfl (hb hby d3_0) rfl ?_
      show Steps pg.tables ee below (s₁.setTop (mkF mm 1 #[.val (.int p)] [(.int p)])) _
      refine XS.bipush X0.here hx rfl (hb hby d3_1) ?_
      exact k)
  by_cases hc2 : (9 : Int32) < p
  · have pre3 : ∀ t, Steps pg.tables ee below (s₁.setTop (mkF mm 13 #[.val (.int p)] [(.int (29 : Int32)), (.int p)])) t → Steps pg.tables ee below (s₁.setTop (entryFrame mm #[(.int p)] 1)) t := fun t k => pre1 t (by
        show Steps pg.tables ee below (s₁.setTop (mkF mm 3 #[.val (.int p)] [(.int (9 : Int32)), (.int p)])) _
        refine XS.icmpYes X0.here hx rfl (pc0 := 3) (pc' := 10) rfl (hb hby d3_3) rfl (tlt hc2).2.2.1 (by decide) (by decide) ?_
        show Steps pg.tables ee below (s₁.setTop (mkF mm 10 #[.val (.int p)] [])) _
        refine XS.iloadN X0.here hx rfl (hb hby d3_10) rfl ?_
        show Steps pg.tables ee below (s₁.setTop (mkF mm 11 #[.val (.int p)] [(.int p)])) _
        refine XS.bipush X0.here hx rfl (hb hby d3_11) ?_
        exact k)
    by_cases hc4 : (29 : Int32) < p
    · have pre5 : ∀ t, Steps pg.tables ee below (s₁.setTop (mkF mm 23 #[.val (.int p)] [(.int (59 : Int32)), (.int p)])) t → Steps pg.tables ee below (s₁.setTop (entryFrame mm #[(.int p)] 1)) t := fun t k => pre3 t (by
          show Steps pg.tables ee below (s₁.setTop (mkF mm 13 #[.val (.int p)] [(.int (29 : Int32)), (.int p)])) _
          refine XS.icmpYes X0.here hx rfl (pc0 := 13) (pc' := 20) rfl (hb hby d3_13) rfl (tlt hc4).2.2.1 (by decide) (by decide) ?_
          show Steps pg.tables ee below (s₁.setTop (mkF mm 20 #[.val (.int p)] [])) _
          refine XS.iloadN X0.here hx rfl (hb hby d3_20) rfl ?_
          show Steps pg.tables ee below (s₁.setTop (mkF mm 21 #[.val (.int p)] [(.int p)])) _
          refine XS.bipush X0.here hx rfl (hb hby d3_21) ?_
          exact k)
      by_cases hc6 : (59 : Int32) < p
      · have pre7 : ∀ t, Steps pg.tables ee below (s₁.setTop (mkF mm 33 #[.val (.int p)] [(.int (79 : Int32)), (.int p)])) t → Steps pg.tables ee below (s₁.setTop (entryFrame mm #[(.int p)] 1)) t := fun t k => pre5 t (by
            show Steps pg.tables ee below (s₁.setTop (mkF mm 23 #[.val (.int p)] [(.int (59 : Int32)), (.int p)])) _
            refine XS.icmpYes X0.here hx rfl (pc0 := 23) (pc' := 30) rfl (hb hby d3_23) rfl (tlt hc6).2.2.1 (by decide) (by decide) ?_
            show Steps pg.tables ee below (s₁.setTop (mkF mm 30 #[.val (.int p)] [])) _
            refine XS.iloadN X0.here hx rfl (hb hby d3_30) rfl ?_
            show Steps pg.tables ee below (s₁.setTop (mkF mm 31 #[.val (.int p)] [(.int p)])) _
            refine XS.bipush X0.here hx rfl (hb hby d3_31) ?_
            exact k)
        by_cases hc8 : (79 : Int32) < p
        · obtain ⟨T9, X9, e9, st9⟩ := getS2 X0 hx hZ hown (host := "") (Or.inl (hw _ (List.mem_of_getElem? (i := 36) rfl))) Via.refl e0 (S_BACKGROUND.ext O0.2) (g := (mkF mm 40 #[.val (.int p)] [])) rfl (hb hby d3_40)
          obtain ⟨fs, hr, hrun, hended, hW, hsame⟩ := X9.leave (v := some (.ref aBACKGROUND)) (fun h => by rw [Bd.returns] at h; cases h)
          refine ⟨_, _, pre7 _ ?_, hrun, hended, _, _, rfl, ?_, ⟨_, rfl⟩, hW, hsame.mono (by decide) (by decide)⟩
          · show Steps pg.tables ee below (s₁.setTop (mkF mm 33 #[.val (.int p)] [(.int (79 : Int32)), (.int p)])) _
            refine XS.icmpYes X0.here hx rfl (pc0 := 33) (pc' := 40) rfl (hb hby d3_33) rfl (tlt hc8).2.2.1 (by decide) (by decide) ?_
            show Steps pg.tables ee below (s₁.setTop (mkF mm 40 #[.val (.int p)] [])) _
            refine st9 _ ?_
            show Steps pg.tables ee below (T9.setTop (mkF mm 43 #[.val (.int p)] [(.ref aBACKGROUND)])) _
            exact retOut X9 hx Bd.returns rfl (Or.inr (Or.inr (Or.inr (Or.inr ⟨rfl, rfl, rfl⟩)))) (hb hby d3_43) hr
          · show QrmX Z p aV kV aCRITICAL aHIGH aNORMAL aLOW aBACKGROUND h0 n0 _ T9.heap _
            rw [e9]
            exact ⟨by unfold own_t; rw [if_pos hc2, if_pos hc4, if_pos hc6, if_pos hc8], N0, rfl⟩
        · obtain ⟨T10, X10, e10, st10⟩ := getS2 X0 hx hZ hown (host := "") (Or.inl (hw _ (List.mem_of_getElem? (i := 34) rfl))) Via.refl e0 (S_LOW.ext O0.2) (g := (mkF mm 36 #[.val (.int p)] [])) rfl (hb hby d3_36)
          obtain ⟨fs, hr, hrun, hended, hW, hsame⟩ := X10.leave (v := some (.ref aLOW)) (fun h => by rw [Bd.returns] at h; cases h)
          refine ⟨_, _, pre7 _ ?_, hrun, hended, _, _, rfl, ?_, ⟨_, rfl⟩, hW, hsame.mono (by decide) (by decide)⟩
          · show Steps pg.tables ee below (s₁.setTop (mkF mm 33 #[.val (.int p)] [(.int (79 : Int32)), (.int p)])) _
            refine XS.icmpNo X0.here hx rfl (hb hby d3_33) rfl (flt hc8).2.2.1 ?_
            show Steps pg.tables ee below (s₁.setTop (mkF mm 36 #[.val (.int p)] [])) _
            refine st10 _ ?_
            show Steps pg.tables ee below (T10.setTop (mkF mm 39 #[.val (.int p)] [(.ref aLOW)])) _
            exact retOut X10 hx Bd.returns rfl (Or.inr (Or.inr (Or.inr (Or.inr ⟨rfl, rfl, rfl⟩)))) (hb hby d3_39) hr
          · show QrmX Z p aV kV aCRITICAL aHIGH aNORMAL aLOW aBACKGROUND h0 n0 _ T10.heap _
            rw [e10]
            exact ⟨by unfold own_t; rw [if_pos hc2, if_pos hc4, if_pos hc6, if_neg hc8], N0, rfl⟩
      · obtain ⟨T11, X11, e11, st11⟩ := getS2 X0 hx hZ hown (host := "") (Or.inl (hw _ (List.mem_of_getElem? (i := 37) rfl))) Via.refl e0 (S_NORMAL.ext O0.2) (g := (mkF mm 26 #[.val (.int p)] [])) rfl (hb hby d3_26)
        obtain ⟨fs, hr, hrun, hended, hW, hsame⟩ := X11.leave (v := some (.ref aNORMAL)) (fun h => by rw [Bd.returns] at h; cases h)
        refine ⟨_, _, pre5 _ ?_, hrun, hended, _, _, rfl, ?_, ⟨_, rfl⟩, hW, hsame.mono (by decide) (by decide)⟩
        · show Steps pg.tables ee below (s₁.setTop (mkF mm 23 #[.val (.int p)] [(.int (59 : Int32)), (.int p)])) _
          refine XS.icmpNo X0.here hx rfl (hb hby d3_23) rfl (flt hc6).2.2.1 ?_
          show Steps pg.tables ee below (s₁.setTop (mkF mm 26 #[.val (.int p)] [])) _
          refine st11 _ ?_
          show Steps pg.tables ee below (T11.setTop (mkF mm 29 #[.val (.int p)] [(.ref aNORMAL)])) _
          exact retOut X11 hx Bd.returns rfl (Or.inr (Or.inr (Or.inr (Or.inr ⟨rfl, rfl, rfl⟩)))) (hb hby d3_29) hr
        · show QrmX Z p aV kV aCRITICAL aHIGH aNORMAL aLOW aBACKGROUND h0 n0 _ T11.heap _
          rw [e11]
          exact ⟨by unfold own_t; rw [if_pos hc2, if_pos hc4, if_neg hc6], N0, rfl⟩
    · obtain ⟨T12, X12, e12, st12⟩ := getS2 X0 hx hZ hown (host := "") (Or.inl (hw _ (List.mem_of_getElem? (i := 35) rfl))) Via.refl e0 (S_HIGH.ext O0.2) (g := (mkF mm 16 #[.val (.int p)] [])) rfl (hb hby d3_16)
      obtain ⟨fs, hr, hrun, hended, hW, hsame⟩ := X12.leave (v := some (.ref aHIGH)) (fun h => by rw [Bd.returns] at h; cases h)
      refine ⟨_, _, pre3 _ ?_, hrun, hended, _, _, rfl, ?_, ⟨_, rfl⟩, hW, hsame.mono (by decide) (by decide)⟩
      · show Steps pg.tables ee below (s₁.setTop (mkF mm 13 #[.val (.int p)] [(.int (29 : Int32)), (.int p)])) _
        refine XS.icmpNo X0.here hx rfl (hb hby d3_13) rfl (flt hc4).2.2.1 ?_
        show Steps pg.tables ee below (s₁.setTop (mkF mm 16 #[.val (.int p)] [])) _
        refine st12 _ ?_
        show Steps pg.tables ee below (T12.setTop (mkF mm 19 #[.val (.int p)] [(.ref aHIGH)])) _
        exact retOut X12 hx Bd.returns rfl (Or.inr (Or.inr (Or.inr (Or.inr ⟨rfl, rfl, rfl⟩)))) (hb hby d3_19) hr
      · show QrmX Z p aV kV aCRITICAL aHIGH aNORMAL aLOW aBACKGROUND h0 n0 _ T12.heap _
        rw [e12]
        exact ⟨by unfold own_t; rw [if_pos hc2, if_neg hc4], N0, rfl⟩
  · obtain ⟨T13, X13, e13, st13⟩ := getS2 X0 hx hZ hown (host := "") (Or.inl (hw _ (List.mem_of_getElem? (i := 33) rfl))) Via.refl e0 (S_CRITICAL.ext O0.2) (g := (mkF mm 6 #[.val (.int p)] [])) rfl (hb hby d3_6)
    obtain ⟨fs, hr, hrun, hended, hW, hsame⟩ := X13.leave (v := some (.ref aCRITICAL)) (fun h => by rw [Bd.returns] at h; cases h)
    refine ⟨_, _, pre1 _ ?_, hrun, hended, _, _, rfl, ?_, ⟨_, rfl⟩, hW, hsame.mono (by decide) (by decide)⟩
    · show Steps pg.tables ee below (s₁.setTop (mkF mm 3 #[.val (.int p)] [(.int (9 : Int32)), (.int p)])) _
      refine XS.icmpNo X0.here hx rfl (hb hby d3_3) rfl (flt hc2).2.2.1 ?_
      show Steps pg.tables ee below (s₁.setTop (mkF mm 6 #[.val (.int p)] [])) _
      refine st13 _ ?_
      show Steps pg.tables ee below (T13.setTop (mkF mm 9 #[.val (.int p)] [(.ref aCRITICAL)])) _
      exact retOut X13 hx Bd.returns rfl (Or.inr (Or.inr (Or.inr (Or.inr ⟨rfl, rfl, rfl⟩)))) (hb hby d3_9) hr
    · show QrmX Z p aV kV aCRITICAL aHIGH aNORMAL aLOW aBACKGROUND h0 n0 _ T13.heap _
      rw [e13]
      exact ⟨by unfold own_t; rw [if_neg hc2], N0, rfl⟩
theorem pd_63 : parseMethodDescriptor "(I)Lcom/example/orders_into_outcomes/ordersintooutcomes/model/PriorityTier;" = some ⟨[.int], some (.object "com/example/orders_into_outcomes/ordersintooutcomes/model/PriorityTier")⟩ := by decide +kernel
theorem ef_0_64 (m : MethodId) (x0 : Int32) (x1 : Int32) : entryFrame m #[(.int x0), (.int x1)] maxLocals = mkF m 0 #[.val (.int x0), .val (.int x1), .unset, .unset] [] := by first | (simp [entryFrame, mkF, argsToLocals, Value.category, maxLocals]; done) | rfl
def Qrm0 (Z : State) (p0 : Int32) (p1 : Int32) (aV : Addr) (kV : ClassId) (aCRITICAL : Addr) (aHIGH : Addr) (aNORMAL : Addr) (aLOW : Addr) (aBACKGROUND : Addr) (h0 : Heap) (n0 : Nat) (v : Option Value) (h : Heap) (L : List Loc) : Prop := v = some (.int (1 : Int32)) ∧ Fr n0 L
set_option maxRecDepth 65536 in
set_option maxHeartbeats 40000000 in
theorem rm0 (l : Launch) (Z : State) (a0 : Array Value) (hw : ∀ d ∈ tables_1, d.before a0 Z = true) (ws : List Jvm.Cond) (p0 : Int32) (p1 : Int32) (aV : Addr) (kV : ClassId) (aCRITICAL : Addr) (aHIGH : Addr) (aNORMAL : Addr) (aLOW : Addr) (aBACKGROUND : Addr) (h0 : Heap) (n0 : Nat) (O0 : Old Z n0 h0) (S_V : Sta Z Z.heap "com/example/orders_into_outcomes/ordersintooutcomes/model/PriorityTier" "$VALUES" "[Lcom/example/orders_into_outcomes/ordersintooutcomes/model/PriorityTier;" (.ref aV)) (E_V : Exa Z Z.heap aV "[Lcom/example/orders_into_outcomes/ordersintooutcomes/model/PriorityTier;") (V_V : Arv Z Z.heap aV kV (.object "com/example/orders_into_outcomes/ordersintooutcomes/model/PriorityTier") (5 : Int32) [(.ref aCRITICAL), (.ref aHIGH), (.ref aNORMAL), (.ref aLOW), (.ref aBACKGROUND)] .null) (S_CRITICAL : Sta Z Z.heap "com/example/orders_into_outcomes/ordersintooutcomes/model/PriorityTier" "CRITICAL" "Lcom/example/orders_into_outcomes/ordersintooutcomes/model/PriorityTier;" (.ref aCRITICAL)) (S_HIGH : Sta Z Z.heap "com/example/orders_into_outcomes/ordersintooutcomes/model/PriorityTier" "HIGH" "Lcom/example/orders_into_outcomes/ordersintooutcomes/model/PriorityTier;" (.ref aHIGH)) (S_NORMAL : Sta Z Z.heap "com/example/orders_into_outcomes/ordersintooutcomes/model/PriorityTier" "NORMAL" "Lcom/example/orders_into_outcomes/ordersintooutcomes/model/PriorityTier;" (.ref aNORMAL)) (S_LOW : Sta Z Z.heap "com/example/orders_into_outcomes/ordersintooutcomes/model/PriorityTier" "LOW" "Lcom/example/orders_into_outcomes/ordersintooutcomes/model/PriorityTier;" (.ref aLOW)) (S_BACKGROUND : Sta Z Z.heap "com/example/orders_into_outcomes/ordersintooutcomes/model/PriorityTier" "BACKGROUND" "Lcom/example/orders_into_outcomes/ordersintooutcomes/model/PriorityTier;" (.ref aBACKGROUND)) (F_CRITICAL : Fld Z Z.heap aCRITICAL "com/example/orders_into_outcomes/ordersintooutcomes/model/PriorityTier" "highestPriority" "I" (.int (9 : Int32))) (F_HIGH : Fld Z Z.heap aHIGH "com/example/orders_into_outcomes/ordersintooutcomes/model/PriorityTier" "highestPriority" "I" (.int (29 : Int32))) (F_NORMAL : Fld Z Z.heap aNORMAL "com/example/orders_into_outcomes/ordersintooutcomes/model/PriorityTier" "highestPriority" "I" (.int (59 : Int32))) (F_LOW : Fld Z Z.heap aLOW "com/example/orders_into_outcomes/ordersintooutcomes/model/PriorityTier" "highestPriority" "I" (.int (79 : Int32))) (F_BACKGROUND : Fld Z Z.heap aBACKGROUND "com/example/orders_into_outcomes/ordersintooutcomes/model/PriorityTier" "highestPriority" "I" (.int (100 : Int32))) :
    MetFree l x (head1 (Jvm.Cond.code x code maxLocals ret :: ws) room_1) (fun a_ U_ => a_ = #[(.int p0), (.int p1)] ∧ Z.Warmed39 U_.vm ∧ U_.heap = h0) (fun _ _ _ _ _ => True) (fun _ U_ o_ U'_ => ∃ v_ L_, o_ = .returned v_ ∧ Qrm0 Z p0 p1 aV kV aCRITICAL aHIGH aNORMAL aLOW aBACKGROUND h0 n0 v_ U'_.heap L_ ∧ FrameEnd U_ o_ U'_ L_ 3 18) := by
  refine MetFree.of_bodySF (plainFor_of_name pn_61) hisR ?_
  intro pg ee s mm args below meth cc s₁ Bd hml0 hP hK
  obtain ⟨rfl, hZ, hh⟩ := hP
  have hx := Bd.exec
  have hby := Bd.bytes
  have hml : cc.maxLocals = 4 := hml0
  have hown : s.vm.findClass "com/example/orders_into_outcomes/ordersintooutcomes/model/PriorityTierOfPinLaw" = some mm.cls := findClass_of_methodNamed Bd.named
  have hnm := (name_of_methodNamed Bd.named Bd.method).1
  have X0 : Stand pg l ee room_1 s mm #[(.int p0), (.int p1)] below meth cc s₁ [] 0 0 := Stand.of_body Bd
  have e0 : s₁.heap = h0 := by rw [← hh, Bd.state]; rfl
  have N0 := Fr.nil n0
  have K0 : Keep h0 h0 ([] : List Addr) := Keep.refl _ _
  have pre0 : ∀ t, Steps pg.tables ee below (s₁.setTop (mkF mm 0 #[.val (.int p0), .val (.int p1), .unset, .unset] [])) t → Steps pg.tables ee below (s₁.setTop (entryFrame mm #[(.int p0), (.int p1)] maxLocals)) t := fun t k => castTop (ef_0_64 mm p0 p1) k
  obtain ⟨T1, h1, k1, X1, e1, E1, A1, st1⟩ := newP X0 hx hZ (hw _ (List.mem_of_getElem? (i := 0) rfl)) e0 (g := (mkF mm 2 #[.val (.int p0), .val (.int p1), .unset, .unset] [(.int (8 : Int32))])) rfl (hb hby at_2) rfl (by decide) (cap := 8) (by decide) (by decide) (by decide) (by decide)
  obtain ⟨b1, g1⟩ : ∃ z, z = h0.size := ⟨_, rfl⟩
  rw [← g1] at A1 st1
  have g_b1 : n0 ≤ b1 := Nat.le_trans (O0.1 ▸ O0.2.1) (Nat.le_of_eq g1.symm)
  have sz_b1 : h0.size ≤ b1 := Nat.le_trans K0.1 (Nat.le_of_eq g1.symm)
  have O1 := O0.ext E1
  have KK1 := K0.ext E1
  have V1 : Arv Z h1 b1 k1 .int (8 : Int32) [(.int (0 : Int32)), (.int (0 : Int32)), (.int (0 : Int32)), (.int (0 : Int32)), (.int (0 : Int32)), (.int (0 : Int32)), (.int (0 : Int32)), (.int (0 : Int32))] (.int (0 : Int32)) := (Arv.new A1 (by decide)).pad (pad_rep [] (.int (0 : Int32)) 8)
  obtain ⟨cl2, Ar2, qk2, Sz2, Nn2, Hh2, Gg2⟩ := id V1
  have hin2 : ¬ ((0 : Int32) < 0 ∨ cl2.slots.size ≤ ((0 : Int32)).toNatClampNeg) := inb_of Sz2 ⟨by decide, by decide⟩
  obtain ⟨T3, h3, X3, e3, W3, st3⟩ := stI X1 hx hZ e1 Ar2 (j := (0 : Int32)) hin2 (g := (mkF mm 8 #[.val (.int p0), .val (.int p1), .unset, .unset] [(.int (9 : Int32)), (.int (0 : Int32)), (.ref b1), (.ref b1)])) rfl rfl (hb hby at_8)
  have V3 : Arv Z h3 b1 k1 .int (8 : Int32) [(.int (9 : Int32)), (.int (0 : Int32)), (.int (0 : Int32)), (.int (0 : Int32)), (.int (0 : Int32)), (.int (0 : Int32)), (.int (0 : Int32)), (.int (0 : Int32))] (.int (0 : Int32)) := Arv.set Ar2 qk2 Sz2 Nn2 Hh2 Gg2 rfl W3 0 rfl (Nat.le_of_ble_eq_true rfl)
  have N3 := Fr.snoc X3 N0 g_b1
  have O3 := O1.wr W3 g_b1
  have KK3 := KK1.wr W3 (Or.inr sz_b1)
  obtain ⟨cl4, Ar4, qk4, Sz4, Nn4, Hh4, Gg4⟩ := id V3
  have hin4 : ¬ ((1 : Int32) < 0 ∨ cl4.slots.size ≤ ((1 : Int32)).toNatClampNeg) := inb_of Sz4 ⟨by decide, by decide⟩
  obtain ⟨T5, h5, X5, e5, W5, st5⟩ := stI X3 hx hZ e3 Ar4 (j := (1 : Int32)) hin4 (g := (mkF mm 13 #[.val (.int p0), .val (.int p1), .unset, .unset] [(.int (29 : Int32)), (.int (1 : Int32)), (.ref b1), (.ref b1)])) rfl rfl (hb hby at_13)
  have V5 : Arv Z h5 b1 k1 .int (8 : Int32) [(.int (9 : Int32)), (.int (29 : Int32)), (.int (0 : Int32)), (.int (0 : Int32)), (.int (0 : Int32)), (.int (0 : Int32)), (.int (0 : Int32)), (.int (0 : Int32))] (.int (0 : Int32)) := Arv.set Ar4 qk4 Sz4 Nn4 Hh4 Gg4 rfl W5 1 rfl (Nat.le_of_ble_eq_true rfl)
  have N5 := Fr.snoc X5 N3 g_b1
  have O5 := O3.wr W5 g_b1
  have KK5 := KK3.wr W5 (Or.inr sz_b1)
  obtain ⟨cl6, Ar6, qk6, Sz6, Nn6, Hh6, Gg6⟩ := id V5
  have hin6 : ¬ ((2 : Int32) < 0 ∨ cl6.slots.size ≤ ((2 : Int32)).toNatClampNeg) := inb_of Sz6 ⟨by decide, by decide⟩
  obtain ⟨T7, h7, X7, e7, W7, st7⟩ := stI X5 hx hZ e5 Ar6 (j := (2 : Int32)) hin6 (g := (mkF mm 18 #[.val (.int p0), .val (.int p1), .unset, .unset] [(.int (59 : Int32)), (.int (2 : Int32)), (.ref b1), (.ref b1)])) rfl rfl (hb hby at_18)
  have V7 : Arv Z h7 b1 k1 .int (8 : Int32) [(.int (9 : Int32)), (.int (29 : Int32)), (.int (59 : Int32)), (.int (0 : Int32)), (.int (0 : Int32)), (.int (0 : Int32)), (.int (0 : Int32)), (.int (0 : Int32))] (.int (0 : Int32)) := Arv.set Ar6 qk6 Sz6 Nn6 Hh6 Gg6 rfl W7 2 rfl (Nat.le_of_ble_eq_true rfl)
  have N7 := Fr.snoc X7 N5 g_b1
  have O7 := O5.wr W7 g_b1
  have KK7 := KK5.wr W7 (Or.inr sz_b1)
  obtain ⟨cl8, Ar8, qk8, Sz8, Nn8, Hh8, Gg8⟩ := id V7
  have hin8 : ¬ ((3 : Int32) < 0 ∨ cl8.slots.size ≤ ((3 : Int32)).toNatClampNeg) := inb_of Sz8 ⟨by decide, by decide⟩
  obtain ⟨T9, h9, X9, e9, W9, st9⟩ := stI X7 hx hZ e7 Ar8 (j := (3 : Int32)) hin8 (g := (mkF mm 23 #[.val (.int p0), .val (.int p1), .unset, .unset] [(.int (79 : Int32)), (.int (3 : Int32)), (.ref b1), (.ref b1)])) rfl rfl (hb hby at_23)
  have V9 : Arv Z h9 b1 k1 .int (8 : Int32) [(.int (9 : Int32)), (.int (29 : Int32)), (.int (59 : Int32)), (.int (79 : Int32)), (.int (0 : Int32)), (.int (0 : Int32)), (.int (0 : Int32)), (.int (0 : Int32))] (.int (0 : Int32)) := Arv.set Ar8 qk8 Sz8 Nn8 Hh8 Gg8 rfl W9 3 rfl (Nat.le_of_ble_eq_true rfl)
  have N9 := Fr.snoc X9 N7 g_b1
  have O9 := O7.wr W9 g_b1
  have KK9 := KK7.wr W9 (Or.inr sz_b1)
  obtain ⟨cl10, Ar10, qk10, Sz10, Nn10, Hh10, Gg10⟩ := id V9
  have hin10 : ¬ ((4 : Int32) < 0 ∨ cl10.slots.size ≤ ((4 : Int32)).toNatClampNeg) := inb_of Sz10 ⟨by decide, by decide⟩
  obtain ⟨T11, h11, X11, e11, W11, st11⟩ := stI X9 hx hZ e9 Ar10 (j := (4 : Int32)) hin10 (g := (mkF mm 28 #[.val (.int p0), .val (.int p1), .unset, .unset] [(.int (100 : Int32)), (.int (4 : Int32)), (.ref b1), (.ref b1)])) rfl rfl (hb hby at_28)
  have V11 : Arv Z h11 b1 k1 .int (8 : Int32) [(.int (9 : Int32)), (.int (29 : Int32)), (.int (59 : Int32)), (.int (79 : Int32)), (.int (100 : Int32)), (.int (0 : Int32)), (.int (0 : Int32)), (.int (0 : Int32))] (.int (0 : Int32)) := Arv.set Ar10 qk10 Sz10 Nn10 Hh10 Gg10 rfl W11 4 rfl (Nat.le_of_ble_eq_true rfl)
  have N11 := Fr.snoc X11 N9 g_b1
  have O11 := O9.wr W11 g_b1
  have KK11 := KK9.wr W11 (Or.inr sz_b1)
  obtain ⟨cl12, Ar12, qk12, Sz12, Nn12, Hh12, Gg12⟩ := id V11
  have hin12 : ¬ ((5 : Int32) < 0 ∨ cl12.slots.size ≤ ((5 : Int32)).toNatClampNeg) := inb_of Sz12 ⟨by decide, by decide⟩
  obtain ⟨T13, h13, X13, e13, W13, st13⟩ := stI X11 hx hZ e11 Ar12 (j := (5 : Int32)) hin12 (g := (mkF mm 32 #[.val (.int p0), .val (.int p1), .unset, .unset] [(.int (0 : Int32)), (.int (5 : Int32)), (.ref b1), (.ref b1)])) rfl rfl (hb hby at_32)
  have V13 : Arv Z h13 b1 k1 .int (8 : Int32) [(.int (9 : Int32)), (.int (29 : Int32)), (.int (59 : Int32)), (.int (79 : Int32)), (.int (100 : Int32)), (.int (0 : Int32)), (.int (0 : Int32)), (.int (0 : Int32))] (.int (0 : Int32)) := Arv.set Ar12 qk12 Sz12 Nn12 Hh12 Gg12 rfl W13 5 rfl (Nat.le_of_ble_eq_true rfl)
  have N13 := Fr.snoc X13 N11 g_b1
  have O13 := O11.wr W13 g_b1
  have KK13 := KK11.wr W13 (Or.inr sz_b1)
  obtain ⟨cl14, Ar14, qk14, Sz14, Nn14, Hh14, Gg14⟩ := id V13
  have hin14 : ¬ ((6 : Int32) < 0 ∨ cl14.slots.size ≤ ((6 : Int32)).toNatClampNeg) := inb_of Sz14 ⟨by decide, by decide⟩
  obtain ⟨T15, h15, X15, e15, W15, st15⟩ := stI X13 hx hZ e13 Ar14 (j := (6 : Int32)) hin14 (g := (mkF mm 38 #[.val (.int p0), .val (.int p1), .unset, .unset] [(.int (-2147483648 : Int32)), (.int (6 : Int32)), (.ref b1), (.ref b1)])) rfl rfl (hb hby at_38)
  have V15 : Arv Z h15 b1 k1 .int (8 : Int32) [(.int (9 : Int32)), (.int (29 : Int32)), (.int (59 : Int32)), (.int (79 : Int32)), (.int (100 : Int32)), (.int (0 : Int32)), (.int (-2147483648 : Int32)), (.int (0 : Int32))] (.int (0 : Int32)) := Arv.set Ar14 qk14 Sz14 Nn14 Hh14 Gg14 rfl W15 6 rfl (Nat.le_of_ble_eq_true rfl)
  have N15 := Fr.snoc X15 N13 g_b1
  have O15 := O13.wr W15 g_b1
  have KK15 := KK13.wr W15 (Or.inr sz_b1)
  obtain ⟨cl16, Ar16, qk16, Sz16, Nn16, Hh16, Gg16⟩ := id V15
  have hin16 : ¬ ((7 : Int32) < 0 ∨ cl16.slots.size ≤ ((7 : Int32)).toNatClampNeg) := inb_of Sz16 ⟨by decide, by decide⟩
  obtain ⟨T17, h17, X17, e17, W17, st17⟩ := stI X15 hx hZ e15 Ar16 (j := (7 : Int32)) hin16 (g := (mkF mm 44 #[.val (.int p0), .val (.int p1), .unset, .unset] [(.int (2147483647 : Int32)), (.int (7 : Int32)), (.ref b1), (.ref b1)])) rfl rfl (hb hby at_44)
  have V17 : Arv Z h17 b1 k1 .int (8 : Int32) [(.int (9 : Int32)), (.int (29 : Int32)), (.int (59 : Int32)), (.int (79 : Int32)), (.int (100 : Int32)), (.int (0 : Int32)), (.int (-2147483648 : Int32)), (.int (2147483647 : Int32))] (.int (0 : Int32)) := Arv.set Ar16 qk16 Sz16 Nn16 Hh16 Gg16 rfl W17 7 rfl (Nat.le_of_ble_eq_true rfl)
  have N17 := Fr.snoc X17 N15 g_b1
  have O17 := O15.wr W17 g_b1
  have KK17 := KK15.wr W17 (Or.inr sz_b1)
  obtain ⟨cl18, Ar18, qk18, Sz18, Nn18, Hh18, Gg18⟩ := id V17
  have hin18 : ¬ ((p1 &&& (7 : Int32)) < 0 ∨ cl18.slots.size ≤ ((p1 &&& (7 : Int32))).toNatClampNeg) := inb_of Sz18 (own_in8 p1)
  obtain ⟨_, _, ⟨T19, L19, k19, n19⟩, -, X19, ⟨Lc19, hQ19, l19, y19, z19⟩, st19⟩ := Jvm.LawKit.callS X17 hx (y := (⟨"com/example/orders_into_outcomes/ordersintooutcomes/model/PriorityTier", "of", "(I)Lcom/example/orders_into_outcomes/ordersintooutcomes/model/PriorityTier;"⟩ : MethodName)) hown (mvT hZ (hw _ (List.mem_of_getElem? (i := 3) rfl))) (mvT hZ (hw _ (List.mem_of_getElem? (i := 4) rfl))) (mvT hZ (hw _ (List.mem_of_getElem? (i := 5) rfl))) (mvT hZ (hw _ (List.mem_of_getElem? (i := 6) rfl))) (by decide) (backOf (W := 0) (rmO l Z a0 hw [] p0 aV kV aCRITICAL aHIGH aNORMAL aLOW aBACKGROUND h17 n0 O17 S_V E_V V_V F_CRITICAL F_HIGH F_NORMAL F_LOW F_BACKGROUND) hZ (hw _ (List.mem_of_getElem? (i := 6) rfl)) (hw _ (List.mem_of_getElem? (i := 5) rfl)) (by decide) (by decide)) (g := (mkF mm 62 #[.val (.int p0), .val (.int p1), .val (.ref b1), .val (.int ((own_g (p1 &&& (7 : Int32))) + ((((p1.toUInt32 >>> ((3 : Int32) &&& 31).toUInt32).toInt32) &&& (3 : Int32)) - (1 : Int32))))] [(.int p0)])) rfl (by rw [hml]; rfl) (argsL := [(.int p0)]) (rest := []) (lenOf pd_63 rfl) rfl (by show 2 * 0 + _ ≤ _; exact Nat.le_of_eq rfl) (hb hby at_62) (fun _ _ => ⟨rfl, e17, (by decide : 1 + 1 ≤ _), (by decide : 8 + 5 ≤ _)⟩)
  dsimp only [Pt.U, Pt.locs, Pt.cells, Pt.slots] at X19 l19 y19 z19 st19 hQ19
  subst l19 y19 z19
  obtain ⟨rfl, N19q, K19⟩ := hQ19
  have O19 := O17.keep K19 all0
  have KK19 := KK17.trans K19 all0
  have N19 := Fr.app N17 N19q
  obtain ⟨_, _, ⟨T20, L20, k20, n20⟩, -, X20, ⟨Lc20, hQ20, l20, y20, z20⟩, st20⟩ := Jvm.LawKit.callS X19 hx (y := (⟨"com/example/orders_into_outcomes/ordersintooutcomes/model/PriorityTierOfPinLaw", "expected", "(I)Lcom/example/orders_into_outcomes/ordersintooutcomes/model/PriorityTier;"⟩ : MethodName)) hown (mvT hZ (hw _ (List.mem_of_getElem? (i := 29) rfl))) (mvT hZ (hw _ (List.mem_of_getElem? (i := 30) rfl))) (mvT hZ (hw _ (List.mem_of_getElem? (i := 31) rfl))) (mvT hZ (hw _ (List.mem_of_getElem? (i := 32) rfl))) (by decide) (backOf (W := 1) (rmX l Z a0 hw [] p0 aV kV aCRITICAL aHIGH aNORMAL aLOW aBACKGROUND T19.heap n0 O19 S_CRITICAL S_HIGH S_NORMAL S_LOW S_BACKGROUND) hZ (hw _ (List.mem_of_getElem? (i := 32) rfl)) (hw _ (List.mem_of_getElem? (i := 31) rfl)) (by decide) (by decide)) (g := (mkF mm 66 #[.val (.int p0), .val (.int p1), .val (.ref b1), .val (.int ((own_g (p1 &&& (7 : Int32))) + ((((p1.toUInt32 >>> ((3 : Int32) &&& 31).toUInt32).toInt32) &&& (3 : Int32)) - (1 : Int32))))] [(.int p0), (.ref (own_t p0 aCRITICAL aHIGH aNORMAL aLOW aBACKGROUND))])) rfl (by rw [hml]; rfl) (argsL := [(.int p0)]) (rest := [(.ref (own_t p0 aCRITICAL aHIGH aNORMAL aLOW aBACKGROUND))]) (lenOf pd_63 rfl) rfl (by show 2 * 0 + _ ≤ _; exact Nat.le_of_eq rfl) (hb hby at_66) (fun _ _ => ⟨rfl, rfl, (by decide : 2 + 0 ≤ _), (by decide : 13 + 0 ≤ _)⟩)
  dsimp only [Pt.U, Pt.locs, Pt.cells, Pt.slots] at X20 l20 y20 z20 st20 hQ20
  subst l20 y20 z20
  obtain ⟨rfl, N20q, e20⟩ := hQ20
  have N20 := Fr.app N19 N20q
  obtain ⟨_, _, ⟨T21, L21, k21, n21⟩, -, X21, ⟨Lc21, hQ21, l21, y21, z21⟩, st21⟩ := Jvm.LawKit.callS X20 hx (y := (⟨"com/example/orders_into_outcomes/ordersintooutcomes/model/PriorityTier", "of", "(I)Lcom/example/orders_into_outcomes/ordersintooutcomes/model/PriorityTier;"⟩ : MethodName)) hown (mvT hZ (hw _ (List.mem_of_getElem? (i := 3) rfl))) (mvT hZ (hw _ (List.mem_of_getElem? (i := 4) rfl))) (mvT hZ (hw _ (List.mem_of_getElem? (i := 5) rfl))) (mvT hZ (hw _ (List.mem_of_getElem? (i := 6) rfl))) (by decide) (backOf (W := 0) (rmO l Z a0 hw [] ((own_g (p1 &&& (7 : Int32))) + ((((p1.toUInt32 >>> ((3 : Int32) &&& 31).toUInt32).toInt32) &&& (3 : Int32)) - (1 : Int32))) aV kV aCRITICAL aHIGH aNORMAL aLOW aBACKGROUND T19.heap n0 O19 S_V E_V V_V F_CRITICAL F_HIGH F_NORMAL F_LOW F_BACKGROUND) hZ (hw _ (List.mem_of_getElem? (i := 6) rfl)) (hw _ (List.mem_of_getElem? (i := 5) rfl)) (by decide) (by decide)) (g := (mkF mm 73 #[.val (.int p0), .val (.int p1), .val (.ref b1), .val (.int ((own_g (p1 &&& (7 : Int32))) + ((((p1.toUInt32 >>> ((3 : Int32) &&& 31).toUInt32).toInt32) &&& (3 : Int32)) - (1 : Int32))))] [(.int ((own_g (p1 &&& (7 : Int32))) + ((((p1.toUInt32 >>> ((3 : Int32) &&& 31).toUInt32).toInt32) &&& (3 : Int32)) - (1 : Int32))))])) rfl (by rw [hml]; rfl) (argsL := [(.int ((own_g (p1 &&& (7 : Int32))) + ((((p1.toUInt32 >>> ((3 : Int32) &&& 31).toUInt32).toInt32) &&& (3 : Int32)) - (1 : Int32))))]) (rest := []) (lenOf pd_63 rfl) rfl (by show 2 * 0 + _ ≤ _; exact Nat.le_of_eq rfl) (hb hby at_73) (fun _ _ => ⟨rfl, e20, (by decide : 2 + 1 ≤ _), (by decide : 13 + 5 ≤ _)⟩)
  dsimp only [Pt.U, Pt.locs, Pt.cells, Pt.slots] at X21 l21 y21 z21 st21 hQ21
  subst l21 y21 z21
  obtain ⟨rfl, N21q, K21⟩ := hQ21
  have O21 := O19.keep K21 all0
  have KK21 := KK19.trans K21 all0
  have N21 := Fr.app N20 N21q
  obtain ⟨_, _, ⟨T22, L22, k22, n22⟩, -, X22, ⟨Lc22, hQ22, l22, y22, z22⟩, st22⟩ := Jvm.LawKit.callS X21 hx (y := (⟨"com/example/orders_into_outcomes/ordersintooutcomes/model/PriorityTierOfPinLaw", "expected", "(I)Lcom/example/orders_into_outcomes/ordersintooutcomes/model/PriorityTier;"⟩ : MethodName)) hown (mvT hZ (hw _ (List.mem_of_getElem? (i := 29) rfl))) (mvT hZ (hw _ (List.mem_of_getElem? (i := 30) rfl))) (mvT hZ (hw _ (List.mem_of_getElem? (i := 31) rfl))) (mvT hZ (hw _ (List.mem_of_getElem? (i := 32) rfl))) (by decide) (backOf (W := 1) (rmX l Z a0 hw [] ((own_g (p1 &&& (7 : Int32))) + ((((p1.toUInt32 >>> ((3 : Int32) &&& 31).toUInt32).toInt32) &&& (3 : Int32)) - (1 : Int32))) aV kV aCRITICAL aHIGH aNORMAL aLOW aBACKGROUND T21.heap n0 O21 S_CRITICAL S_HIGH S_NORMAL S_LOW S_BACKGROUND) hZ (hw _ (List.mem_of_getElem? (i := 32) rfl)) (hw _ (List.mem_of_getElem? (i := 31) rfl)) (by decide) (by decide)) (g := (mkF mm 77 #[.val (.int p0), .val (.int p1), .val (.ref b1), .val (.int ((own_g (p1 &&& (7 : Int32))) + ((((p1.toUInt32 >>> ((3 : Int32) &&& 31).toUInt32).toInt32) &&& (3 : Int32)) - (1 : Int32))))] [(.int ((own_g (p1 &&& (7 : Int32))) + ((((p1.toUInt32 >>> ((3 : Int32) &&& 31).toUInt32).toInt32) &&& (3 : Int32)) - (1 : Int32)))), (.ref (own_t ((own_g (p1 &&& (7 : Int32))) + ((((p1.toUInt32 >>> ((3 : Int32) &&& 31).toUInt32).toInt32) &&& (3 : Int32)) - (1 : Int32))) aCRITICAL aHIGH aNORMAL aLOW aBACKGROUND))])) rfl (by rw [hml]; rfl) (argsL := [(.int ((own_g (p1 &&& (7 : Int32))) + ((((p1.toUInt32 >>> ((3 : Int32) &&& 31).toUInt32).toInt32) &&& (3 : Int32)) - (1 : Int32))))]) (rest := [(.ref (own_t ((own_g (p1 &&& (7 : Int32))) + ((((p1.toUInt32 >>> ((3 : Int32) &&& 31).toUInt32).toInt32) &&& (3 : Int32)) - (1 : Int32))) aCRITICAL aHIGH aNORMAL aLOW aBACKGROUND))]) (lenOf pd_63 rfl) rfl (by show 2 * 0 + _ ≤ _; exact Nat.le_of_eq rfl) (hb hby at_77) (fun _ _ => ⟨rfl, rfl, (by decide : 3 + 0 ≤ _), (by decide : 18 + 0 ≤ _)⟩)
  dsimp only [Pt.U, Pt.locs, Pt.cells, Pt.slots] at X22 l22 y22 z22 st22 hQ22
  subst l22 y22 z22
  obtain ⟨rfl, N22q, e22⟩ := hQ22
  have N22 := Fr.app N21 N22q
  obtain ⟨fs, hr, hrun, hended, hW, hsame⟩ := X22.leave (v := some (.int (1 : Int32))) (fun h => by rw [Bd.returns] at h; cases h)
  refine ⟨_, _, pre0 _ ?_, hrun, hended, _, _, rfl, ?_, ⟨_, rfl⟩, hW, hsame.mono (by decide) (by decide)⟩
  · show Steps pg.tables ee below (s₁.setTop (mkF mm 0 #[.val (.int p0), .val (.int p1), .unset, .unset] [])) _
    refine XS.bipush X0.here hx rfl (hb hby at_0) ?_
    show Steps pg.tables ee below (s₁.setTop (mkF mm 2 #[.val (.int p0), .val (.int p1), .unset, .unset] [(.int (8 : Int32))])) _
    refine st1 _ ?_
    show Steps pg.tables ee below (T1.setTop (mkF mm 4 #[.val (.int p0), .val (.int p1), .unset, .unset] [(.ref b1)])) _
    refine XS.dup X1.here hx rfl (hb hby at_4) rfl rfl ?_
    show Steps pg.tables ee below (T1.setTop (mkF mm 5 #[.val (.int p0), .val (.int p1), .unset, .unset] [(.ref b1), (.ref b1)])) _
    refine XS.iconst X1.here hx rfl (hb hby at_5) ?_
    show Steps pg.tables ee below (T1.setTop (mkF mm 6 #[.val (.int p0), .val (.int p1), .unset, .unset] [(.int (0 : Int32)), (.ref b1), (.ref b1)])) _
    refine XS.bipush X1.here hx rfl (hb hby at_6) ?_
    show Steps pg.tables ee below (T1.setTop (mkF mm 8 #[.val (.int p0), .val (.int p1), .unset, .unset] [(.int (9 : Int32)), (.int (0 : Int32)), (.ref b1), (.ref b1)])) _
    refine st3 _ ?_
    show Steps pg.tables ee below (T3.setTop (mkF mm 9 #[.val (.int p0), .val (.int p1), .unset, .unset] [(.ref b1)])) _
    refine XS.dup X3.here hx rfl (hb hby at_9) rfl rfl ?_
    show Steps pg.tables ee below (T3.setTop (mkF mm 10 #[.val (.int p0), .val (.int p1), .unset, .unset] [(.ref b1), (.ref b1)])) _
    refine XS.iconst X3.here hx rfl (hb hby at_10) ?_
    show Steps pg.tables ee below (T3.setTop (mkF mm 11 #[.val (.int p0), .val (.int p1), .unset, .unset] [(.int (1 : Int32)), (.ref b1), (.ref b1)])) _
    refine XS.bipush X3.here hx rfl (hb hby at_11) ?_
    show Steps pg.tables ee below (T3.setTop (mkF mm 13 #[.val (.int p0), .val (.int p1), .unset, .unset] [(.int (29 : Int32)), (.int (1 : Int32)), (.ref b1), (.ref b1)])) _
    refine st5 _ ?_
    show Steps pg.tables ee below (T5.setTop (mkF mm 14 #[.val (.int p0), .val (.int p1), .unset, .unset] [(.ref b1)])) _
    refine XS.dup X5.here hx rfl (hb hby at_14) rfl rfl ?_
    show Steps pg.tables ee below (T5.setTop (mkF mm 15 #[.val (.int p0), .val (.int p1), .unset, .unset] [(.ref b1), (.ref b1)])) _
    refine XS.iconst X5.here hx rfl (hb hby at_15) ?_
    show Steps pg.tables ee below (T5.setTop (mkF mm 16 #[.val (.int p0), .val (.int p1), .unset, .unset] [(.int (2 : Int32)), (.ref b1), (.ref b1)])) _
    refine XS.bipush X5.here hx rfl (hb hby at_16) ?_
    show Steps pg.tables ee below (T5.setTop (mkF mm 18 #[.val (.int p0), .val (.int p1), .unset, .unset] [(.int (59 : Int32)), (.int (2 : Int32)), (.ref b1), (.ref b1)])) _
    refine st7 _ ?_
    show Steps pg.tables ee below (T7.setTop (mkF mm 19 #[.val (.int p0), .val (.int p1), .unset, .unset] [(.ref b1)])) _
    refine XS.dup X7.here hx rfl (hb hby at_19) rfl rfl ?_
    show Steps pg.tables ee below (T7.setTop (mkF mm 20 #[.val (.int p0), .val (.int p1), .unset, .unset] [(.ref b1), (.ref b1)])) _
    refine XS.iconst X7.here hx rfl (hb hby at_20) ?_
    show Steps pg.tables ee below (T7.setTop (mkF mm 21 #[.val (.int p0), .val (.int p1), .unset, .unset] [(.int (3 : Int32)), (.ref b1), (.ref b1)])) _
    refine XS.bipush X7.here hx rfl (hb hby at_21) ?_
    show Steps pg.tables ee below (T7.setTop (mkF mm 23 #[.val (.int p0), .val (.int p1), .unset, .unset] [(.int (79 : Int32)), (.int (3 : Int32)), (.ref b1), (.ref b1)])) _
    refine st9 _ ?_
    show Steps pg.tables ee below (T9.setTop (mkF mm 24 #[.val (.int p0), .val (.int p1), .unset, .unset] [(.ref b1)])) _
    refine XS.dup X9.here hx rfl (hb hby at_24) rfl rfl ?_
    show Steps pg.tables ee below (T9.setTop (mkF mm 25 #[.val (.int p0), .val (.int p1), .unset, .unset] [(.ref b1), (.ref b1)])) _
    refine XS.iconst X9.here hx rfl (hb hby at_25) ?_
    show Steps pg.tables ee below (T9.setTop (mkF mm 26 #[.val (.int p0), .val (.int p1), .unset, .unset] [(.int (4 : Int32)), (.ref b1), (.ref b1)])) _
    refine XS.bipush X9.here hx rfl (hb hby at_26) ?_
    show Steps pg.tables ee below (T9.setTop (mkF mm 28 #[.val (.int p0), .val (.int p1), .unset, .unset] [(.int (100 : Int32)), (.int (4 : Int32)), (.ref b1), (.ref b1)])) _
    refine st11 _ ?_
    show Steps pg.tables ee below (T11.setTop (mkF mm 29 #[.val (.int p0), .val (.int p1), .unset, .unset] [(.ref b1)])) _
    refine XS.dup X11.here hx rfl (hb hby at_29) rfl rfl ?_
    show Steps pg.tables ee below (T11.setTop (mkF mm 30 #[.val (.int p0), .val (.int p1), .unset, .unset] [(.ref b1), (.ref b1)])) _
    refine XS.iconst X11.here hx rfl (hb hby at_30) ?_
    show Steps pg.tables ee below (T11.setTop (mkF mm 31 #[.val (.int p0), .val (.int p1), .unset, .unset] [(.int (5 : Int32)), (.ref b1), (.ref b1)])) _
    refine XS.iconst X11.here hx rfl (hb hby at_31) ?_
    show Steps pg.tables ee below (T11.setTop (mkF mm 32 #[.val (.int p0), .val (.int p1), .unset, .unset] [(.int (0 : Int32)), (.int (5 : Int32)), (.ref b1), (.ref b1)])) _
    refine st13 _ ?_
    show Steps pg.tables ee below (T13.setTop (mkF mm 33 #[.val (.int p0), .val (.int p1), .unset, .unset] [(.ref b1)])) _
    refine XS.dup X13.here hx rfl (hb hby at_33) rfl rfl ?_
    show Steps pg.tables ee below (T13.setTop (mkF mm 34 #[.val (.int p0), .val (.int p1), .unset, .unset] [(.ref b1), (.ref b1)])) _
    refine XS.bipush X13.here hx rfl (hb hby at_34) ?_
    show Steps pg.tables ee below (T13.setTop (mkF mm 36 #[.val (.int p0), .val (.int p1), .unset, .unset] [(.int (6 : Int32)), (.ref b1), (.ref b1)])) _
    refine X13.ldcInt hx hown (mvT hZ (hw _ (List.mem_of_getElem? (i := 1) rfl))) (g := (mkF mm 36 #[.val (.int p0), .val (.int p1), .unset, .unset] [(.int (6 : Int32)), (.ref b1), (.ref b1)])) rfl (hb hby at_36) _ ?_
    show Steps pg.tables ee below (T13.setTop (mkF mm 38 #[.val (.int p0), .val (.int p1), .unset, .unset] [(.int (-2147483648 : Int32)), (.int (6 : Int32)), (.ref b1), (.ref b1)])) _
    refine st15 _ ?_
    show Steps pg.tables ee below (T15.setTop (mkF mm 39 #[.val (.int p0), .val (.int p1), .unset, .unset] [(.ref b1)])) _
    refine XS.dup X15.here hx rfl (hb hby at_39) rfl rfl ?_
    show Steps pg.tables ee below (T15.setTop (mkF mm 40 #[.val (.int p0), .val (.int p1), .unset, .unset] [(.ref b1), (.ref b1)])) _
    refine XS.bipush X15.here hx rfl (hb hby at_40) ?_
    show Steps pg.tables ee below (T15.setTop (mkF mm 42 #[.val (.int p0), .val (.int p1), .unset, .unset] [(.int (7 : Int32)), (.ref b1), (.ref b1)])) _
    refine X15.ldcInt hx hown (mvT hZ (hw _ (List.mem_of_getElem? (i := 2) rfl))) (g := (mkF mm 42 #[.val (.int p0), .val (.int p1), .unset, .unset] [(.int (7 : Int32)), (.ref b1), (.ref b1)])) rfl (hb hby at_42) _ ?_
    show Steps pg.tables ee below (T15.setTop (mkF mm 44 #[.val (.int p0), .val (.int p1), .unset, .unset] [(.int (2147483647 : Int32)), (.int (7 : Int32)), (.ref b1), (.ref b1)])) _
    refine st17 _ ?_
    show Steps pg.tables ee below (T17.setTop (mkF mm 45 #[.val (.int p0), .val (.int p1), .unset, .unset] [(.ref b1)])) _
    refine XS.astoreN X17.here hx rfl (hb hby at_45) rfl rfl (l' := #[.val (.int p0), .val (.int p1), .val (.ref b1), .unset]) rfl ?_
    show Steps pg.tables ee below (T17.setTop (mkF mm 46 #[.val (.int p0), .val (.int p1), .val (.ref b1), .unset] [])) _
    refine XS.aloadN X17.here hx rfl (hb hby at_46) rfl rfl ?_
    show Steps pg.tables ee below (T17.setTop (mkF mm 47 #[.val (.int p0), .val (.int p1), .val (.ref b1), .unset] [(.ref b1)])) _
    refine XS.iloadN X17.here hx rfl (hb hby at_47) rfl ?_
    show Steps pg.tables ee below (T17.setTop (mkF mm 48 #[.val (.int p0), .val (.int p1), .val (.ref b1), .unset] [(.int p1), (.ref b1)])) _
    refine XS.bipush X17.here hx rfl (hb hby at_48) ?_
    show Steps pg.tables ee below (T17.setTop (mkF mm 50 #[.val (.int p0), .val (.int p1), .val (.ref b1), .unset] [(.int (7 : Int32)), (.int p1), (.ref b1)])) _
    refine XS.iand X17.here hx rfl (hb hby at_50) rfl ?_
    show Steps pg.tables ee below (T17.setTop (mkF mm 51 #[.val (.int p0), .val (.int p1), .val (.ref b1), .unset] [(.int (p1 &&& (7 : Int32))), (.ref b1)])) _
    refine X17.iaload hx (j := (p1 &&& (7 : Int32))) (v := (.int (own_g (p1 &&& (7 : Int32))))) (by rw [e17]; exact Ar18.1) (State.isArrayOf_alike hZ.alike Ar18.2.1) Ar18.2.2 hin18 (Has.at Hh18 hin18 (own_g8 _ (own_8 p1))) (g := (mkF mm 51 #[.val (.int p0), .val (.int p1), .val (.ref b1), .unset] [(.int (p1 &&& (7 : Int32))), (.ref b1)])) rfl rfl (hb hby at_51) _ ?_
    show Steps pg.tables ee below (T17.setTop (mkF mm 52 #[.val (.int p0), .val (.int p1), .val (.ref b1), .unset] [(.int (own_g (p1 &&& (7 : Int32))))])) _
    refine XS.iloadN X17.here hx rfl (hb hby at_52) rfl ?_
    show Steps pg.tables ee below (T17.setTop (mkF mm 53 #[.val (.int p0), .val (.int p1), .val (.ref b1), .unset] [(.int p1), (.int (own_g (p1 &&& (7 : Int32))))])) _
    refine XS.iconst X17.here hx rfl (hb hby at_53) ?_
    show Steps pg.tables ee below (T17.setTop (mkF mm 54 #[.val (.int p0), .val (.int p1), .val (.ref b1), .unset] [(.int (3 : Int32)), (.int p1), (.int (own_g (p1 &&& (7 : Int32))))])) _
    refine XS.iushr X17.here hx rfl (hb hby at_54) rfl ?_
    show Steps pg.tables ee below (T17.setTop (mkF mm 55 #[.val (.int p0), .val (.int p1), .val (.ref b1), .unset] [(.int ((p1.toUInt32 >>> ((3 : Int32) &&& 31).toUInt32).toInt32)), (.int (own_g (p1 &&& (7 : Int32))))])) _
    refine XS.iconst X17.here hx rfl (hb hby at_55) ?_
    show Steps pg.tables ee below (T17.setTop (mkF mm 56 #[.val (.int p0), .val (.int p1), .val (.ref b1), .unset] [(.int (3 : Int32)), (.int ((p1.toUInt32 >>> ((3 : Int32) &&& 31).toUInt32).toInt32)), (.int (own_g (p1 &&& (7 : Int32))))])) _
    refine XS.iand X17.here hx rfl (hb hby at_56) rfl ?_
    show Steps pg.tables ee below (T17.setTop (mkF mm 57 #[.val (.int p0), .val (.int p1), .val (.ref b1), .unset] [(.int (((p1.toUInt32 >>> ((3 : Int32) &&& 31).toUInt32).toInt32) &&& (3 : Int32))), (.int (own_g (p1 &&& (7 : Int32))))])) _
    refine XS.iconst X17.here hx rfl (hb hby at_57) ?_
    show Steps pg.tables ee below (T17.setTop (mkF mm 58 #[.val (.int p0), .val (.int p1), .val (.ref b1), .unset] [(.int (1 : Int32)), (.int (((p1.toUInt32 >>> ((3 : Int32) &&& 31).toUInt32).toInt32) &&& (3 : Int32))), (.int (own_g (p1 &&& (7 : Int32))))])) _
    refine XS.isub X17.here hx rfl (hb hby at_58) rfl ?_
    show Steps pg.tables ee below (T17.setTop (mkF mm 59 #[.val (.int p0), .val (.int p1), .val (.ref b1), .unset] [(.int ((((p1.toUInt32 >>> ((3 : Int32) &&& 31).toUInt32).toInt32) &&& (3 : Int32)) - (1 : Int32))), (.int (own_g (p1 &&& (7 : Int32))))])) _
    refine XS.iadd X17.here hx rfl (hb hby at_59) rfl ?_
    show Steps pg.tables ee below (T17.setTop (mkF mm 60 #[.val (.int p0), .val (.int p1), .val (.ref b1), .unset] [(.int ((own_g (p1 &&& (7 : Int32))) + ((((p1.toUInt32 >>> ((3 : Int32) &&& 31).toUInt32).toInt32) &&& (3 : Int32)) - (1 : Int32))))])) _
    refine XS.istoreN X17.here hx rfl (hb hby at_60) rfl (l' := #[.val (.int p0), .val (.int p1), .val (.ref b1), .val (.int ((own_g (p1 &&& (7 : Int32))) + ((((p1.toUInt32 >>> ((3 : Int32) &&& 31).toUInt32).toInt32) &&& (3 : Int32)) - (1 : Int32))))]) rfl ?_
    show Steps pg.tables ee below (T17.setTop (mkF mm 61 #[.val (.int p0), .val (.int p1), .val (.ref b1), .val (.int ((own_g (p1 &&& (7 : Int32))) + ((((p1.toUInt32 >>> ((3 : Int32) &&& 31).toUInt32).toInt32) &&& (3 : Int32)) - (1 : Int32))))] [])) _
    refine XS.iloadN X17.here hx rfl (hb hby at_61) rfl ?_
    show Steps pg.tables ee below (T17.setTop (mkF mm 62 #[.val (.int p0), .val (.int p1), .val (.ref b1), .val (.int ((own_g (p1 &&& (7 : Int32))) + ((((p1.toUInt32 >>> ((3 : Int32) &&& 31).toUInt32).toInt32) &&& (3 : Int32)) - (1 : Int32))))] [(.int p0)])) _
    refine st19 _ ?_
    show Steps pg.tables ee below (T19.setTop (mkF mm 65 #[.val (.int p0), .val (.int p1), .val (.ref b1), .val (.int ((own_g (p1 &&& (7 : Int32))) + ((((p1.toUInt32 >>> ((3 : Int32) &&& 31).toUInt32).toInt32) &&& (3 : Int32)) - (1 : Int32))))] [(.ref (own_t p0 aCRITICAL aHIGH aNORMAL aLOW aBACKGROUND))])) _
    refine XS.iloadN X19.here hx rfl (hb hby at_65) rfl ?_
    show Steps pg.tables ee below (T19.setTop (mkF mm 66 #[.val (.int p0), .val (.int p1), .val (.ref b1), .val (.int ((own_g (p1 &&& (7 : Int32))) + ((((p1.toUInt32 >>> ((3 : Int32) &&& 31).toUInt32).toInt32) &&& (3 : Int32)) - (1 : Int32))))] [(.int p0), (.ref (own_t p0 aCRITICAL aHIGH aNORMAL aLOW aBACKGROUND))])) _
    refine st20 _ ?_
    show Steps pg.tables ee below (T20.setTop (mkF mm 69 #[.val (.int p0), .val (.int p1), .val (.ref b1), .val (.int ((own_g (p1 &&& (7 : Int32))) + ((((p1.toUInt32 >>> ((3 : Int32) &&& 31).toUInt32).toInt32) &&& (3 : Int32)) - (1 : Int32))))] [(.ref (own_t p0 aCRITICAL aHIGH aNORMAL aLOW aBACKGROUND)), (.ref (own_t p0 aCRITICAL aHIGH aNORMAL aLOW aBACKGROUND))])) _
    refine Jvm.RoadKit.acmp (g := (mkF mm 69 #[.val (.int p0), .val (.int p1), .val (.ref b1), .val (.int ((own_g (p1 &&& (7 : Int32))) + ((((p1.toUInt32 >>> ((3 : Int32) &&& 31).toUInt32).toInt32) &&& (3 : Int32)) - (1 : Int32))))] [(.ref (own_t p0 aCRITICAL aHIGH aNORMAL aLOW aBACKGROUND)), (.ref (own_t p0 aCRITICAL aHIGH aNORMAL aLOW aBACKGROUND))])) X20 hx rfl rfl rfl (pc0 := 69) (pc' := 72) (same := true) rfl (hb hby at_69) rfl (decide_eq_true rfl) (by decide) (by decide) ?_
    show Steps pg.tables ee below (T20.setTop (mkF mm 72 #[.val (.int p0), .val (.int p1), .val (.ref b1), .val (.int ((own_g (p1 &&& (7 : Int32))) + ((((p1.toUInt32 >>> ((3 : Int32) &&& 31).toUInt32).toInt32) &&& (3 : Int32)) - (1 : Int32))))] [])) _
    refine XS.iloadN X20.here hx rfl (hb hby at_72) rfl ?_
    show Steps pg.tables ee below (T20.setTop (mkF mm 73 #[.val (.int p0), .val (.int p1), .val (.ref b1), .val (.int ((own_g (p1 &&& (7 : Int32))) + ((((p1.toUInt32 >>> ((3 : Int32) &&& 31).toUInt32).toInt32) &&& (3 : Int32)) - (1 : Int32))))] [(.int ((own_g (p1 &&& (7 : Int32))) + ((((p1.toUInt32 >>> ((3 : Int32) &&& 31).toUInt32).toInt32) &&& (3 : Int32)) - (1 : Int32))))])) _
    refine st21 _ ?_
    show Steps pg.tables ee below (T21.setTop (mkF mm 76 #[.val (.int p0), .val (.int p1), .val (.ref b1), .val (.int ((own_g (p1 &&& (7 : Int32))) + ((((p1.toUInt32 >>> ((3 : Int32) &&& 31).toUInt32).toInt32) &&& (3 : Int32)) - (1 : Int32))))] [(.ref (own_t ((own_g (p1 &&& (7 : Int32))) + ((((p1.toUInt32 >>> ((3 : Int32) &&& 31).toUInt32).toInt32) &&& (3 : Int32)) - (1 : Int32))) aCRITICAL aHIGH aNORMAL aLOW aBACKGROUND))])) _
    refine XS.iloadN X21.here hx rfl (hb hby at_76) rfl ?_
    show Steps pg.tables ee below (T21.setTop (mkF mm 77 #[.val (.int p0), .val (.int p1), .val (.ref b1), .val (.int ((own_g (p1 &&& (7 : Int32))) + ((((p1.toUInt32 >>> ((3 : Int32) &&& 31).toUInt32).toInt32) &&& (3 : Int32)) - (1 : Int32))))] [(.int ((own_g (p1 &&& (7 : Int32))) + ((((p1.toUInt32 >>> ((3 : Int32) &&& 31).toUInt32).toInt32) &&& (3 : Int32)) - (1 : Int32)))), (.ref (own_t ((own_g (p1 &&& (7 : Int32))) + ((((p1.toUInt32 >>> ((3 : Int32) &&& 31).toUInt32).toInt32) &&& (3 : Int32)) - (1 : Int32))) aCRITICAL aHIGH aNORMAL aLOW aBACKGROUND))])) _
    refine st22 _ ?_
    show Steps pg.tables ee below (T22.setTop (mkF mm 80 #[.val (.int p0), .val (.int p1), .val (.ref b1), .val (.int ((own_g (p1 &&& (7 : Int32))) + ((((p1.toUInt32 >>> ((3 : Int32) &&& 31).toUInt32).toInt32) &&& (3 : Int32)) - (1 : Int32))))] [(.ref (own_t ((own_g (p1 &&& (7 : Int32))) + ((((p1.toUInt32 >>> ((3 : Int32) &&& 31).toUInt32).toInt32) &&& (3 : Int32)) - (1 : Int32))) aCRITICAL aHIGH aNORMAL aLOW aBACKGROUND)), (.ref (own_t ((own_g (p1 &&& (7 : Int32))) + ((((p1.toUInt32 >>> ((3 : Int32) &&& 31).toUInt32).toInt32) &&& (3 : Int32)) - (1 : Int32))) aCRITICAL aHIGH aNORMAL aLOW aBACKGROUND))])) _
    refine Jvm.RoadKit.acmp (g := (mkF mm 80 #[.val (.int p0), .val (.int p1), .val (.ref b1), .val (.int ((own_g (p1 &&& (7 : Int32))) + ((((p1.toUInt32 >>> ((3 : Int32) &&& 31).toUInt32).toInt32) &&& (3 : Int32)) - (1 : Int32))))] [(.ref (own_t ((own_g (p1 &&& (7 : Int32))) + ((((p1.toUInt32 >>> ((3 : Int32) &&& 31).toUInt32).toInt32) &&& (3 : Int32)) - (1 : Int32))) aCRITICAL aHIGH aNORMAL aLOW aBACKGROUND)), (.ref (own_t ((own_g (p1 &&& (7 : Int32))) + ((((p1.toUInt32 >>> ((3 : Int32) &&& 31).toUInt32).toInt32) &&& (3 : Int32)) - (1 : Int32))) aCRITICAL aHIGH aNORMAL aLOW aBACKGROUND))])) X22 hx rfl rfl rfl (pc0 := 80) (pc' := 83) (same := true) rfl (hb hby at_80) rfl (decide_eq_true rfl) (by decide) (by decide) ?_
    show Steps pg.tables ee below (T22.setTop (mkF mm 83 #[.val (.int p0), .val (.int p1), .val (.ref b1), .val (.int ((own_g (p1 &&& (7 : Int32))) + ((((p1.toUInt32 >>> ((3 : Int32) &&& 31).toUInt32).toInt32) &&& (3 : Int32)) - (1 : Int32))))] [])) _
    refine XS.iconst X22.here hx rfl (hb hby at_83) ?_
    show Steps pg.tables ee below (T22.setTop (mkF mm 84 #[.val (.int p0), .val (.int p1), .val (.ref b1), .val (.int ((own_g (p1 &&& (7 : Int32))) + ((((p1.toUInt32 >>> ((3 : Int32) &&& 31).toUInt32).toInt32) &&& (3 : Int32)) - (1 : Int32))))] [(.int (1 : Int32))])) _
    refine XS.goto X22.here hx rfl (pc0 := 84) (pc' := 88) rfl (hb hby at_84) (by decide) (by decide) ?_
    show Steps pg.tables ee below (T22.setTop (mkF mm 88 #[.val (.int p0), .val (.int p1), .val (.ref b1), .val (.int ((own_g (p1 &&& (7 : Int32))) + ((((p1.toUInt32 >>> ((3 : Int32) &&& 31).toUInt32).toInt32) &&& (3 : Int32)) - (1 : Int32))))] [(.int (1 : Int32))])) _
    exact retN X22 hx (t := .boolean) Bd.returns (by simp) (hb hby at_88) hr
  · show Qrm0 Z p0 p1 aV kV aCRITICAL aHIGH aNORMAL aLOW aBACKGROUND h0 n0 _ T22.heap _
    rw [e22]
    exact ⟨rfl, N22⟩
set_option maxRecDepth 65536 in
set_option maxHeartbeats 40000000 in
theorem comes_1 {Post : Tables → Env → Array Value → State → Outcome → State → Prop} (hpost : ∀ tb e args s v u, (limb_1_1.after args s (.returned v) u = true ∧ limb_1_2.after args s (.returned v) u = true ∧ True) → FrameEnd s (.returned v) u (Jvm.fieldLocs frame_1_writes args s ++ Jvm.arrayLocs frame_1_arrays args s ++ Jvm.staticLocs frame_1_statics s) 16 128 → Post tb e args s (.returned v) u) :
    ArmFor flags0 classFile x code maxLocals ret World_1 tables_1 room_1 Calls_1 rest_1 Pre_1 Post := by
  intro l hfl _ _ p e ha hc hk s m args below hf hA hF happ hP
  obtain ⟨hcalls, hrest, hpre⟩ := hP
  obtain ⟨-, -, -, hnamed, -, -, -, hat⟩ := (Spec.applies_iff hf).mp happ
  obtain ⟨hg, hn⟩ := and_e (Cond.before_iff.mp (show (Jvm.Cond.and given_1 narrow_1).before args s = true from hpre))
  obtain ⟨gg1, gg2⟩ := and_e hg
  obtain ⟨gg3, gg4⟩ := and_e gg2
  obtain ⟨w0, w1, rfl⟩ : ∃ w0 w1 : Value, args = #[w0, w1] := by
    have hs : args.size = 2 := by simpa [Cond.value, given_1] using gg1
    obtain ⟨L⟩ := args
    match L, hs with
    | [w0, w1], _ => exact ⟨w0, w1, rfl⟩
  have hw := fun d (hd : d ∈ tables_1) => atoms_spec (ws := Jvm.Cond.code x code maxLocals ret :: tables_1) hat d (List.mem_cons_of_mem _ hd)
  have hfit : Fit s := fun {y c} hc i hi => by
    obtain ⟨ha, rfl⟩ := Array.getElem?_eq_some_iff.mp hc
    have q := List.all_eq_true.mp ((Array.all_eq_true_iff_forall_mem.mp hF) _ (Array.getElem_mem ha)) i (List.mem_range.mpr hi)
    simpa [Array.getElem?_eq_getElem hi] using q
  obtain ⟨i0, ei0⟩ := is_v gg3
  obtain rfl : w0 = (.int i0) := Option.some.inj ei0
  obtain ⟨i1, ei1⟩ := is_v gg4
  obtain rfl : w1 = (.int i1) := Option.some.inj ei1
  obtain ⟨gg5, gg6⟩ := and_e hn
  obtain ⟨gg7, gg8⟩ := and_e gg6
  obtain ⟨gg9, gg10⟩ := and_e gg8
  obtain ⟨gg11, gg12⟩ := and_e gg10
  obtain ⟨gg13, gg14⟩ := and_e gg12
  obtain ⟨gg15, gg16⟩ := and_e gg14
  obtain ⟨gg17, gg18⟩ := and_e gg16
  obtain ⟨gg19, gg20⟩ := and_e gg18
  obtain ⟨gg21, gg22⟩ := and_e gg20
  obtain ⟨gg23, gg24⟩ := and_e gg22
  obtain ⟨gg25, gg26⟩ := and_e gg24
  obtain ⟨gg27, gg28⟩ := and_e gg26
  obtain ⟨gg29, gg30⟩ := and_e gg28
  obtain ⟨gg31, gg32⟩ := and_e gg30
  obtain ⟨gg33, gg34⟩ := and_e gg32
  obtain ⟨gg35, gg36⟩ := and_e gg34
  obtain ⟨gg37, gg38⟩ := and_e gg36
  obtain ⟨a__VALUES, ev__VALUES⟩ := exa_v gg7
  have E__VALUES := Exa.start ev__VALUES gg7
  have S__VALUES := Sta.start ev__VALUES (Or.inr ⟨(hw _ (List.mem_of_getElem? (i := 5) rfl)), (hw _ (List.mem_of_getElem? (i := 11) rfl))⟩)
  obtain ⟨a_CRITICAL, ev_CRITICAL⟩ := exa_v gg11
  have E_CRITICAL := Exa.start ev_CRITICAL gg11
  have S_CRITICAL := Sta.start ev_CRITICAL (Or.inr ⟨(hw _ (List.mem_of_getElem? (i := 5) rfl)), (hw _ (List.mem_of_getElem? (i := 19) rfl))⟩)
  obtain ⟨a_HIGH, ev_HIGH⟩ := exa_v gg15
  have E_HIGH := Exa.start ev_HIGH gg15
  have S_HIGH := Sta.start ev_HIGH (Or.inr ⟨(hw _ (List.mem_of_getElem? (i := 5) rfl)), (hw _ (List.mem_of_getElem? (i := 20) rfl))⟩)
  obtain ⟨a_NORMAL, ev_NORMAL⟩ := exa_v gg19
  have E_NORMAL := Exa.start ev_NORMAL gg19
  have S_NORMAL := Sta.start ev_NORMAL (Or.inr ⟨(hw _ (List.mem_of_getElem? (i := 5) rfl)), (hw _ (List.mem_of_getElem? (i := 21) rfl))⟩)
  obtain ⟨a_LOW, ev_LOW⟩ := exa_v gg23
  have E_LOW := Exa.start ev_LOW gg23
  have S_LOW := Sta.start ev_LOW (Or.inr ⟨(hw _ (List.mem_of_getElem? (i := 5) rfl)), (hw _ (List.mem_of_getElem? (i := 22) rfl))⟩)
  obtain ⟨a_BACKGROUND, ev_BACKGROUND⟩ := exa_v gg27
  have E_BACKGROUND := Exa.start ev_BACKGROUND gg27
  have S_BACKGROUND := Sta.start ev_BACKGROUND (Or.inr ⟨(hw _ (List.mem_of_getElem? (i := 5) rfl)), (hw _ (List.mem_of_getElem? (i := 23) rfl))⟩)
  obtain ⟨cl, Ac⟩ := Arr.start ev__VALUES gg5
  obtain ⟨q1, q2⟩ := own_len ev__VALUES Ac (own_eqi gg9)
  have L_0 := own_elem ev__VALUES Ac ev_CRITICAL gg13
  have L_1 := own_elem ev__VALUES Ac ev_HIGH gg17
  have L_2 := own_elem ev__VALUES Ac ev_NORMAL gg21
  have L_3 := own_elem ev__VALUES Ac ev_LOW gg25
  have L_4 := own_elem ev__VALUES Ac ev_BACKGROUND gg29
  have F_CRITICAL_highestPriority := own_fld ev_CRITICAL gg31
  have F_HIGH_highestPriority := own_fld ev_HIGH gg33
  have F_NORMAL_highestPriority := own_fld ev_NORMAL gg35
  have F_LOW_highestPriority := own_fld ev_LOW gg37
  have F_BACKGROUND_highestPriority := own_fld ev_BACKGROUND gg38
  have VV : Arv s s.heap a__VALUES cl.cls (.object "com/example/orders_into_outcomes/ordersintooutcomes/model/PriorityTier") (5 : Int32) [.ref a_CRITICAL, .ref a_HIGH, .ref a_NORMAL, .ref a_LOW, .ref a_BACKGROUND] .null := Arv.start hfit Ac q1 q2 (by decide) rfl ⟨L_0, L_1, L_2, L_3, L_4, trivial⟩
  obtain ⟨n, o, h1, h2, h3, _, L, rfl, ⟨rfl, N⟩, hq⟩ := rm0 l s _ hw tables_1 i0 i1 a__VALUES cl.cls a_CRITICAL a_HIGH a_NORMAL a_LOW a_BACKGROUND s.heap s.heap.size (Old.start s) S__VALUES E__VALUES VV S_CRITICAL S_HIGH S_NORMAL S_LOW S_BACKGROUND F_CRITICAL_highestPriority F_HIGH_highestPriority F_NORMAL_highestPriority F_LOW_highestPriority F_BACKGROUND_highestPriority p e ha hc hk s m _ below hf ((Spec.applies_iff_loose hf).mp happ).1 ⟨rfl, State.Warmed39.refl s, rfl⟩ trivial
  refine ⟨n, _, h1, h2, h3, hpost _ _ _ _ _ _ ⟨Cond.after_iff.mpr rfl, Cond.after_iff.mpr (eq_i res_at (Term.int_eval (1)) rfl), trivial⟩ ⟨hq.1, hq.2.1, (hq.2.2.sift fun y hy => Or.inr (N y hy)).mono (by decide) (by decide)⟩⟩
theorem main_1_1 : Claimed_1_1 := comes_1 fun _ _ _ _ _ _ h hF => ⟨h.1, hF⟩
theorem main_1_2 : Claimed_1_2 := comes_1 fun _ _ _ _ _ _ h hF => ⟨h.2.1, hF⟩
end Jvm.Pilot.@@N@@
namespace Jvm.Pilot.@@N@@
open Jvm Jvm.ClassFile Sem Op Lib Jvm.Free Jvm.Stand Jvm.Pilot.@@N@@.Jvm.D
/-! MADE BY PROGRAM (witnessworld.py) out of the Statement's table words and the real class files: 13 classes; the members and pool entries that the words name. The judged class is class 1, her method 2. -/
namespace start1
open Jvm.ClassFile
def u (s : String) : CpInfo := .utf8 (stringToUtf16 s)
/-- a pool by its gaps: so many unusable entries, then the entry; so many at the end -/
def gap : Nat → List CpInfo → List CpInfo
  | 0, r => r
  | n + 1, r => .unusable :: gap n r
def poolList (es : List (Nat × CpInfo)) (last : Nat) : List CpInfo := es.foldr (fun e r => gap e.1 (e.2 :: r)) (gap last [])
def pool (es : List (Nat × CpInfo)) (last : Nat) : Array CpInfo := ⟨poolList es last⟩
def fileOf (pool : Array CpInfo) (this : Nat) (attrs : Array Attribute := #[]) (ms : Array MethodInfo := #[]) (fl : Nat := 33) (sup : Nat := 0) (ifs : Array Nat := #[]) (fds : Array FieldInfo := #[]) : ClassFile where
  minorVersion := 0
  majorVersion := 65
  constantPool := pool
  accessFlags := fl
  thisClass := this
  superClass := sup
  interfaces := ifs
  fields := fds
  methods := ms
  attributes := attrs
def plain (name : String) (sup : Option ClassId) : Class where
  name := name
  kind := .ordinary
  loader := none
  accessFlags := 33
  super := sup
  interfaces := #[]
  cf := none
  fields := #[]
  methods := #[]
  instanceTypes := #[]
  staticTypes := #[]
  resolved := #[]
  callSites := []
  init := .initialized
  statics := none
  mirror := none

def pool0 : Array CpInfo := pool [(5, u "<init>"), (0, u "()V"), (1, .class_ 10), (1, u "java/lang/Object"), (85, u "clone"), (0, u "()Ljava/lang/Object;")] 26

def k0m0 : Method := { name := "<init>", desc := "()V", sig := { parameters := [], returnType := none }, accessFlags := 1, code := none }
def k0m1 : Method := { name := "clone", desc := "()Ljava/lang/Object;", sig := { parameters := [], returnType := some (.object "java/lang/Object") }, accessFlags := 260, code := none }
/-- java/lang/Object -/
def k0 : Class := { plain "java/lang/Object" none with
  accessFlags := 33
  interfaces := #[]
  cf := some (fileOf pool0 8 #[] #[{ accessFlags := 1, nameIndex := 5, descriptorIndex := 6, attributes := #[] }, { accessFlags := 260, nameIndex := 96, descriptorIndex := 97, attributes := #[] }] 33 0 #[] #[])
  fields := #[]
  methods := #[k0m0, k0m1]
  instanceTypes := #[]
  staticTypes := #[]
  resolved := Array.replicate 124 none
  statics := none }

def pool1 : Array CpInfo := pool [(2, .class_ 4), (1, u "java/lang/Object"), (0, u "<init>"), (0, u "()V"), (0, .fieldref 8 9), (0, .class_ 10), (0, .nameAndType 11 12), (0, u "com/example/orders_into_outcomes/ordersintooutcomes/model/PriorityTier"), (0, u "CRITICAL"), (0, u "Lcom/example/orders_into_outcomes/ordersintooutcomes/model/PriorityTier;"), (0, .fieldref 8 14), (0, .nameAndType 15 12), (0, u "HIGH"), (0, .fieldref 8 17), (0, .nameAndType 18 12), (0, u "NORMAL"), (0, .fieldref 8 20), (0, .nameAndType 21 12), (0, u "LOW"), (0, .fieldref 8 23), (0, .nameAndType 24 12), (0, u "BACKGROUND"), (2, .integer 2147483648), (0, .integer 2147483647), (0, .methodref 8 30), (0, .nameAndType 31 32), (0, u "of"), (0, u "(I)Lcom/example/orders_into_outcomes/ordersintooutcomes/model/PriorityTier;"), (0, .methodref 34 35), (0, .class_ 36), (0, .nameAndType 37 32), (0, u "com/example/orders_into_outcomes/ordersintooutcomes/model/PriorityTierOfPinLaw"), (0, u "expected"), (3, u "law"), (0, u "(II)Z")] 4

def k1m0 : Method := { name := "<init>", desc := "()V", sig := { parameters := [], returnType := none }, accessFlags := 2, code := none }
def k1c1 : Code := { maxStack := 2, maxLocals := 1, code := method_2_code, exceptionTable := #[], attributes := #[] }
def k1m1 : Method := { name := "expected", desc := "(I)Lcom/example/orders_into_outcomes/ordersintooutcomes/model/PriorityTier;", sig := { parameters := [.int], returnType := some (.object "com/example/orders_into_outcomes/ordersintooutcomes/model/PriorityTier") }, accessFlags := 10, code := some k1c1 }
def k1c2 : Code := { maxStack := 4, maxLocals := 4, code := code, exceptionTable := #[], attributes := #[] }
def k1m2 : Method := { name := "law", desc := "(II)Z", sig := { parameters := [.int, .int], returnType := some .boolean }, accessFlags := 9, code := some k1c2 }
/-- com/example/orders_into_outcomes/ordersintooutcomes/model/PriorityTierOfPinLaw -/
def k1 : Class := { plain "com/example/orders_into_outcomes/ordersintooutcomes/model/PriorityTierOfPinLaw" (some 0) with
  accessFlags := 49
  interfaces := #[]
  cf := some (fileOf pool1 34 #[] #[{ accessFlags := 2, nameIndex := 5, descriptorIndex := 6, attributes := #[] }, { accessFlags := 10, nameIndex := 37, descriptorIndex := 32, attributes := #[] }, { accessFlags := 9, nameIndex := 41, descriptorIndex := 42, attributes := #[] }] 49 2 #[] #[])
  fields := #[]
  methods := #[k1m0, k1m1, k1m2]
  instanceTypes := #[]
  staticTypes := #[]
  resolved := Array.replicate 47 none
  statics := none }

def pool2 : Array CpInfo := pool [(1, .class_ 2), (0, u "java/lang/constant/Constable"), (0, .class_ 4), (0, u "java/lang/Object")] 6

/-- java/lang/constant/Constable -/
def k2 : Class := { plain "java/lang/constant/Constable" (some 0) with
  accessFlags := 1537
  interfaces := #[]
  cf := some (fileOf pool2 1 #[] #[] 1537 3 #[] #[])
  fields := #[]
  methods := #[]
  instanceTypes := #[]
  staticTypes := #[]
  resolved := Array.replicate 11 none
  statics := none }

def pool3 : Array CpInfo := pool [(1, .class_ 2), (0, u "java/lang/Comparable"), (0, .class_ 4), (0, u "java/lang/Object")] 7

/-- java/lang/Comparable -/
def k3 : Class := { plain "java/lang/Comparable" (some 0) with
  accessFlags := 1537
  interfaces := #[]
  cf := some (fileOf pool3 1 #[] #[] 1537 3 #[] #[])
  fields := #[]
  methods := #[]
  instanceTypes := #[]
  staticTypes := #[]
  resolved := Array.replicate 12 none
  statics := none }

def pool4 : Array CpInfo := pool [(1, .class_ 2), (0, u "java/io/Serializable"), (0, .class_ 4), (0, u "java/lang/Object")] 2

/-- java/io/Serializable -/
def k4 : Class := { plain "java/io/Serializable" (some 0) with
  accessFlags := 1537
  interfaces := #[]
  cf := some (fileOf pool4 1 #[] #[] 1537 3 #[] #[])
  fields := #[]
  methods := #[]
  instanceTypes := #[]
  staticTypes := #[]
  resolved := Array.replicate 7 none
  statics := none }

def pool5 : Array CpInfo := pool [(2, .class_ 4), (1, u "java/lang/Enum"), (0, u "name"), (0, u "Ljava/lang/String;"), (2, u "ordinal"), (0, u "I"), (1, .class_ 14), (1, u "java/lang/Object"), (4, u "hash"), (86, .class_ 108), (1, u "java/lang/Enum$EnumDesc"), (2, .class_ 112), (0, u "java/lang/constant/Constable"), (0, .class_ 114), (0, u "java/lang/Comparable"), (0, .class_ 116), (0, u "java/io/Serializable")] 87

/-- java/lang/Enum -/
def k5 : Class := { plain "java/lang/Enum" (some 0) with
  accessFlags := 1057
  interfaces := #[2, 3, 4]
  cf := some (fileOf pool5 2 #[.nestMembers #[106]] #[] 1057 12 #[111, 113, 115] #[{ accessFlags := 18, nameIndex := 5, descriptorIndex := 6, attributes := #[] }, { accessFlags := 18, nameIndex := 9, descriptorIndex := 10, attributes := #[] }, { accessFlags := 2, nameIndex := 19, descriptorIndex := 10, attributes := #[] }])
  fields := #[{ name := "name", type := (.object "java/lang/String"), accessFlags := 18, slot := 0, constantValue := 0 }, { name := "ordinal", type := .int, accessFlags := 18, slot := 1, constantValue := 0 }, { name := "hash", type := .int, accessFlags := 2, slot := 2, constantValue := 0 }]
  methods := #[]
  instanceTypes := #[(.object "java/lang/String"), .int, .int]
  staticTypes := #[]
  resolved := Array.replicate 204 none
  statics := none }

def pool6 : Array CpInfo := pool [(1, .class_ 2), (0, u "com/example/orders_into_outcomes/ordersintooutcomes/model/PriorityTier"), (2, u "CRITICAL"), (0, u "Lcom/example/orders_into_outcomes/ordersintooutcomes/model/PriorityTier;"), (2, u "HIGH"), (2, u "NORMAL"), (2, u "LOW"), (2, u "BACKGROUND"), (0, .fieldref 1 20), (0, .nameAndType 21 22), (0, u "$VALUES"), (0, u "[Lcom/example/orders_into_outcomes/ordersintooutcomes/model/PriorityTier;"), (0, .methodref 24 25), (0, .class_ 22), (0, .nameAndType 26 27), (0, u "clone"), (0, u "()Ljava/lang/Object;"), (1, .class_ 31), (1, u "java/lang/Enum"), (10, u "of"), (3, u "wireName"), (0, u "Ljava/lang/String;"), (0, .fieldref 1 49), (0, .nameAndType 50 51), (0, u "highestPriority"), (0, u "I"), (0, .methodref 1 53), (0, .nameAndType 54 55), (0, u "values"), (0, u "()[Lcom/example/orders_into_outcomes/ordersintooutcomes/model/PriorityTier;"), (20, u "(I)Lcom/example/orders_into_outcomes/ordersintooutcomes/model/PriorityTier;")] 6

def k6c0 : Code := { maxStack := 1, maxLocals := 0, code := prog_38_method_1_code, exceptionTable := #[], attributes := #[] }
def k6m0 : Method := { name := "values", desc := "()[Lcom/example/orders_into_outcomes/ordersintooutcomes/model/PriorityTier;", sig := { parameters := [], returnType := some (.array (.object "com/example/orders_into_outcomes/ordersintooutcomes/model/PriorityTier")) }, accessFlags := 9, code := some k6c0 }
def k6c1 : Code := { maxStack := 3, maxLocals := 6, code := prog_38_method_5_code, exceptionTable := #[], attributes := #[] }
def k6m1 : Method := { name := "of", desc := "(I)Lcom/example/orders_into_outcomes/ordersintooutcomes/model/PriorityTier;", sig := { parameters := [.int], returnType := some (.object "com/example/orders_into_outcomes/ordersintooutcomes/model/PriorityTier") }, accessFlags := 9, code := some k6c1 }
/-- com/example/orders_into_outcomes/ordersintooutcomes/model/PriorityTier -/
def k6 : Class := { plain "com/example/orders_into_outcomes/ordersintooutcomes/model/PriorityTier" (some 5) with
  accessFlags := 16433
  interfaces := #[]
  cf := some (fileOf pool6 1 #[] #[{ accessFlags := 9, nameIndex := 54, descriptorIndex := 55, attributes := #[] }, { accessFlags := 9, nameIndex := 42, descriptorIndex := 76, attributes := #[] }] 16433 29 #[] #[{ accessFlags := 16409, nameIndex := 5, descriptorIndex := 6, attributes := #[] }, { accessFlags := 16409, nameIndex := 9, descriptorIndex := 6, attributes := #[] }, { accessFlags := 16409, nameIndex := 12, descriptorIndex := 6, attributes := #[] }, { accessFlags := 16409, nameIndex := 15, descriptorIndex := 6, attributes := #[] }, { accessFlags := 16409, nameIndex := 18, descriptorIndex := 6, attributes := #[] }, { accessFlags := 18, nameIndex := 50, descriptorIndex := 51, attributes := #[] }, { accessFlags := 18, nameIndex := 46, descriptorIndex := 47, attributes := #[] }, { accessFlags := 4122, nameIndex := 21, descriptorIndex := 22, attributes := #[] }])
  fields := #[{ name := "CRITICAL", type := (.object "com/example/orders_into_outcomes/ordersintooutcomes/model/PriorityTier"), accessFlags := 16409, slot := 0, constantValue := 0 }, { name := "HIGH", type := (.object "com/example/orders_into_outcomes/ordersintooutcomes/model/PriorityTier"), accessFlags := 16409, slot := 1, constantValue := 0 }, { name := "NORMAL", type := (.object "com/example/orders_into_outcomes/ordersintooutcomes/model/PriorityTier"), accessFlags := 16409, slot := 2, constantValue := 0 }, { name := "LOW", type := (.object "com/example/orders_into_outcomes/ordersintooutcomes/model/PriorityTier"), accessFlags := 16409, slot := 3, constantValue := 0 }, { name := "BACKGROUND", type := (.object "com/example/orders_into_outcomes/ordersintooutcomes/model/PriorityTier"), accessFlags := 16409, slot := 4, constantValue := 0 }, { name := "highestPriority", type := .int, accessFlags := 18, slot := 3, constantValue := 0 }, { name := "wireName", type := (.object "java/lang/String"), accessFlags := 18, slot := 4, constantValue := 0 }, { name := "$VALUES", type := (.array (.object "com/example/orders_into_outcomes/ordersintooutcomes/model/PriorityTier")), accessFlags := 4122, slot := 5, constantValue := 0 }]
  methods := #[k6m0, k6m1]
  instanceTypes := #[(.object "java/lang/String"), .int, .int, .int, (.object "java/lang/String")]
  staticTypes := #[(.object "com/example/orders_into_outcomes/ordersintooutcomes/model/PriorityTier"), (.object "com/example/orders_into_outcomes/ordersintooutcomes/model/PriorityTier"), (.object "com/example/orders_into_outcomes/ordersintooutcomes/model/PriorityTier"), (.object "com/example/orders_into_outcomes/ordersintooutcomes/model/PriorityTier"), (.object "com/example/orders_into_outcomes/ordersintooutcomes/model/PriorityTier"), (.array (.object "com/example/orders_into_outcomes/ordersintooutcomes/model/PriorityTier"))]
  resolved := Array.replicate 83 none
  statics := some 0 }

def pool7 : Array CpInfo := pool [(1, .class_ 2), (0, u "java/lang/Cloneable"), (0, .class_ 4), (0, u "java/lang/Object")] 2

/-- java/lang/Cloneable -/
def k7 : Class := { plain "java/lang/Cloneable" (some 0) with
  accessFlags := 1537
  interfaces := #[]
  cf := some (fileOf pool7 1 #[] #[] 1537 3 #[] #[])
  fields := #[]
  methods := #[]
  instanceTypes := #[]
  staticTypes := #[]
  resolved := Array.replicate 7 none
  statics := none }

/-- the primitive byte -/
def k8 : Class := { plain "byte" none with kind := .primitive 'B', accessFlags := 0x411 }
/-- [B -/
def k9 : Class := { plain "[B" (some 0) with kind := .array 8 .byte, interfaces := #[7, 4], accessFlags := 1041 }

/-- the primitive int -/
def k10 : Class := { plain "int" none with kind := .primitive 'I', accessFlags := 0x411 }
/-- [I -/
def k11 : Class := { plain "[I" (some 0) with kind := .array 10 .int, interfaces := #[7, 4], accessFlags := 1041 }

/-- [Lcom/example/orders_into_outcomes/ordersintooutcomes/model/PriorityTier; -/
def k12 : Class := { plain "[Lcom/example/orders_into_outcomes/ordersintooutcomes/model/PriorityTier;" (some 0) with kind := .array 6 (.object "com/example/orders_into_outcomes/ordersintooutcomes/model/PriorityTier"), interfaces := #[7, 4], accessFlags := 1041 }

def heap : Heap := #[{ cls := 6, slots := #[.ref 2, .ref 3, .ref 4, .ref 5, .ref 6, .ref 1], vm := .statics 6 },
  { cls := 12, slots := #[.ref 2, .ref 3, .ref 4, .ref 5, .ref 6], vm := .none },
  { cls := 6, slots := #[.null, .int 0, .int 0, .int 9, .null], vm := .none },
  { cls := 6, slots := #[.null, .int 1, .int 0, .int 29, .null], vm := .none },
  { cls := 6, slots := #[.null, .int 2, .int 0, .int 59, .null], vm := .none },
  { cls := 6, slots := #[.null, .int 3, .int 0, .int 79, .null], vm := .none },
  { cls := 6, slots := #[.null, .int 4, .int 0, .int 100, .null], vm := .none }]
def classes : Array Class := #[k0, k1, k2, k3, k4, k5, k6, k7, k8, k9, k10, k11, k12]
def interned : List (Array UInt16 × Addr) := []
def slotsUsed : Nat := 36
def theMethod : MethodId := ⟨1, 2⟩
def args0 : Array Value := #[.int 1, .int 2]
def aboutOver (below : List Frame) : State where
  vm := { classes := classes, interned := interned.toArray }
  heap := heap
  slotsUsed := slotsUsed
  threads := #[{ frames := .invoking theMethod args0 :: below }]
def below0 : List Frame := [.native { method := ⟨0, 0⟩, args := #[] }]
def about1 : State := aboutOver below0
def p0 : Program := .bare "" "" ""
def e0 : Env := launch0.env 0 0 0
theorem w_frames : about1.frames = Frame.invoking theMethod args0 :: below0 := rfl
set_option maxRecDepth 65536 in
theorem w_args : argsFit about1.vm theMethod args0 = true := by decide +kernel
set_option maxRecDepth 65536 in
theorem w_heap : heapFits about1 = true := by decide +kernel
set_option maxRecDepth 65536 in
theorem w_runnable : about1.curStatus? = some .runnable := by decide +kernel
set_option maxRecDepth 65536 in
theorem w_alone : about1.alone = true := by decide +kernel
set_option maxRecDepth 65536 in
theorem w_named : about1.methodNamed? x = some theMethod := by decide +kernel
set_option maxRecDepth 65536 in
theorem w_hears : about1.hears theMethod below0 = true := by decide +kernel
set_option maxRecDepth 65536 in
theorem w_ripe : about1.ripe theMethod args0 below0 = true := by decide +kernel
theorem w_running : about1.status = .running := rfl
set_option maxRecDepth 65536 in
theorem w_room : about1.hasRoom e0.platform room_1 = true :=
  launch0.hasRoom_least _ room_1 (by decide +kernel) (by decide +kernel) (by decide +kernel) (by decide +kernel) (by decide +kernel) (by decide +kernel)
theorem allAtoms_all (ts : List Jvm.Cond) (a : Array Jvm.Value) (st : Jvm.State) : (allAtoms ts).before a st = ts.all (fun c => c.before a st) := by
  induction ts with
  | nil => rfl
  | cons c t ih =>
    show (Jvm.Cond.and c (allAtoms t)).before a st = _
    rw [Jvm.Cond.before_and, ih, List.all_cons]
def words1 : List Jvm.Cond := Jvm.Cond.code x code maxLocals ret :: tables_1
/-- a 'code' word, met by the world's own term for the bytes: nothing is compared byte by byte -/
theorem code_word {y : MethodName} {bytes : ByteArray} {mx : Nat} {rt : Option FieldType} {a : Array Value} {s : State} {m : MethodId} {meth : Method} {c : Code} (h1 : s.methodNamed? y = some m) (h2 : s.vm.method? m = some meth) (h3 : meth.code = some c) (h4 : c.code = bytes)
    (h5 : (c.maxLocals == mx && c.exceptionTable.isEmpty && decide (c.maxStack ≤ mostOperands) && decide (meth.sig.returnType = rt) && !meth.locks && decide (parseMethodDescriptor y.desc = some meth.sig)) = true) : (Jvm.Cond.code y bytes mx rt).before a s = true := by
  simp only [Bool.and_eq_true, beq_iff_eq, Bool.not_eq_true', decide_eq_true_eq] at h5
  obtain ⟨⟨⟨⟨⟨g1, g2⟩, g3⟩, g4⟩, g5⟩, g6⟩ := h5
  simp [Cond.before, Cond.holds, Cond.value, h1, h2, h3, h4, g1, g2, g3, g4, g5, g6]
def isCode : Jvm.Cond → Bool
  | .code _ _ _ _ => true
  | _ => false
theorem all_split {L : List Jvm.Cond} {P : Jvm.Cond → Bool} (h1 : L.all (fun c => isCode c || P c) = true) (h2 : ∀ c ∈ L.filter isCode, P c = true) : L.all P = true := by
  refine List.all_eq_true.mpr fun c hc => ?_
  have h := List.all_eq_true.mp h1 c hc
  rcases Bool.eq_false_or_eq_true (isCode c) with hi | hi
  · exact h2 c (List.mem_filter.mpr ⟨hc, hi⟩)
  · simpa [hi] using h
set_option maxRecDepth 65536 in
theorem w_c0 : (Jvm.Cond.code x code maxLocals ret).before args0 about1 = true := code_word (m := ⟨1, 2⟩) (meth := k1m2) (c := k1c2) (by decide +kernel) rfl rfl rfl (by decide +kernel)
set_option maxRecDepth 65536 in
theorem w_c1 : (Jvm.Cond.code ({ cls := "com/example/orders_into_outcomes/ordersintooutcomes/model/PriorityTier", name := "of", desc := "(I)Lcom/example/orders_into_outcomes/ordersintooutcomes/model/PriorityTier;" } : Jvm.MethodName) prog_38_method_5_code (6 : Nat) (Option.some (Jvm.ClassFile.FieldType.object "com/example/orders_into_outcomes/ordersintooutcomes/model/PriorityTier"))).before args0 about1 = true := code_word (m := ⟨6, 1⟩) (meth := k6m1) (c := k6c1) (by decide +kernel) rfl rfl rfl (by decide +kernel)
set_option maxRecDepth 65536 in
theorem w_c2 : (Jvm.Cond.code ({ cls := "com/example/orders_into_outcomes/ordersintooutcomes/model/PriorityTier", name := "values", desc := "()[Lcom/example/orders_into_outcomes/ordersintooutcomes/model/PriorityTier;" } : Jvm.MethodName) prog_38_method_1_code (0 : Nat) (Option.some (Jvm.ClassFile.FieldType.array (Jvm.ClassFile.FieldType.object "com/example/orders_into_outcomes/ordersintooutcomes/model/PriorityTier")))).before args0 about1 = true := code_word (m := ⟨6, 0⟩) (meth := k6m0) (c := k6c0) (by decide +kernel) rfl rfl rfl (by decide +kernel)
set_option maxRecDepth 65536 in
theorem w_c3 : (Jvm.Cond.code ({ cls := "com/example/orders_into_outcomes/ordersintooutcomes/model/PriorityTierOfPinLaw", name := "expected", desc := "(I)Lcom/example/orders_into_outcomes/ordersintooutcomes/model/PriorityTier;" } : Jvm.MethodName) method_2_code (1 : Nat) (Option.some (Jvm.ClassFile.FieldType.object "com/example/orders_into_outcomes/ordersintooutcomes/model/PriorityTier"))).before args0 about1 = true := code_word (m := ⟨1, 1⟩) (meth := k1m1) (c := k1c1) (by decide +kernel) rfl rfl rfl (by decide +kernel)
def codes1 : List Jvm.Cond := [Jvm.Cond.code x code maxLocals ret, Jvm.Cond.code ({ cls := "com/example/orders_into_outcomes/ordersintooutcomes/model/PriorityTier", name := "of", desc := "(I)Lcom/example/orders_into_outcomes/ordersintooutcomes/model/PriorityTier;" } : Jvm.MethodName) prog_38_method_5_code (6 : Nat) (Option.some (Jvm.ClassFile.FieldType.object "com/example/orders_into_outcomes/ordersintooutcomes/model/PriorityTier")), Jvm.Cond.code ({ cls := "com/example/orders_into_outcomes/ordersintooutcomes/model/PriorityTier", name := "values", desc := "()[Lcom/example/orders_into_outcomes/ordersintooutcomes/model/PriorityTier;" } : Jvm.MethodName) prog_38_method_1_code (0 : Nat) (Option.some (Jvm.ClassFile.FieldType.array (Jvm.ClassFile.FieldType.object "com/example/orders_into_outcomes/ordersintooutcomes/model/PriorityTier"))), Jvm.Cond.code ({ cls := "com/example/orders_into_outcomes/ordersintooutcomes/model/PriorityTierOfPinLaw", name := "expected", desc := "(I)Lcom/example/orders_into_outcomes/ordersintooutcomes/model/PriorityTier;" } : Jvm.MethodName) method_2_code (1 : Nat) (Option.some (Jvm.ClassFile.FieldType.object "com/example/orders_into_outcomes/ordersintooutcomes/model/PriorityTier"))]
set_option maxRecDepth 65536 in
theorem codes_eq : words1.filter isCode = codes1 := rfl
theorem w_codes : ∀ c ∈ words1.filter isCode, c.before args0 about1 = true := by
  rw [codes_eq]
  intro c hc
  simp only [codes1, List.mem_cons, List.not_mem_nil, or_false] at hc
  rcases hc with rfl | rfl | rfl | rfl
  · exact w_c0
  · exact w_c1
  · exact w_c2
  · exact w_c3
set_option maxRecDepth 65536 in
theorem w_t1 : (words1.take 24).all (fun c => isCode c || c.before args0 about1) = true := by decide +kernel
set_option maxRecDepth 65536 in
theorem w_t2 : (words1.drop 24).all (fun c => isCode c || c.before args0 about1) = true := by decide +kernel
theorem w_tables : (allAtoms (Jvm.Cond.code x code maxLocals ret :: tables_1)).before args0 about1 = true := by
  rw [allAtoms_all]
  show words1.all (fun c => c.before args0 about1) = true
  refine all_split ?_ w_codes
  rw [← List.take_append_drop 24 words1, List.all_append, w_t1, w_t2]
  rfl
set_option maxRecDepth 65536 in
theorem w_case : (Jvm.Cond.and given_1 narrow_1).before args0 about1 = true := by decide +kernel
theorem w_applies : (headSpec (Jvm.Cond.code x code maxLocals ret :: tables_1) room_1).applies x e0.platform about1 = true :=
  (Spec.applies_iff w_frames).mpr ⟨w_running, w_runnable, w_alone, w_named, w_hears, w_ripe, w_room, w_tables⟩
theorem atStart : AtStart classFile x code maxLocals ret World_1 tables_1 room_1 Calls_1 rest_1 Pre_1 launch0 p0 e0 about1 theMethod args0 below0 :=
  ⟨lists_1, trivial, launch0.admits_env _ _ _, launch0.least_env, fairChoices_fair.cas, fairChoices_fair.clock, w_frames, w_args, w_heap, w_applies, trivial, trivial, w_case⟩
end start1
theorem witness_1 : WitnessClaimed_1 := ⟨start1.p0, start1.e0, start1.about1, start1.theMethod, start1.args0, start1.below0, start1.atStart⟩
end Jvm.Pilot.@@N@@
