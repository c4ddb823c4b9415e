import JvmDerived
import JvmDerived.Pilot.@@N@@Statement
import JvmDerived.Pilot.@@N@@Code
set_option linter.unusedVariables false
set_option linter.unusedSimpArgs false
namespace Jvm.Pilot.@@N@@
open Jvm Jvm.ClassFile Sem Op Lib Jvm.Free Jvm.Stand Jvm.LawKit Jvm.RoadKit Bundle Jvm.Pilot.@@N@@.Jvm.D
theorem own_eqi {s : State} {args : Array Value} {t : Term} {k : Int32} (h : (Jvm.Cond.eq t (Term.int k)).value args s none s [] = some true) : t.eval args s none [] s = some (.int k) := by
  obtain ⟨u, v, hu, hv, k1, k2⟩ := cmp_v (Or.inl h)
  obtain rfl : v = .int k := Option.some.inj (hv.symm.trans (Term.int_eval k))
  obtain ⟨z, rfl⟩ := k2
  rw [hu]
  simp [Cond.value, hu, hv] at h
  rw [h]
theorem own_fld {s : State} {args : Array Value} {t : Term} {C n d : String} {k : Int32} {x : Addr} (ev : t.eval args s none [] s = some (.ref x)) (h : (Jvm.Cond.eq (Term.field t C n d) (Term.int k)).value args s none s [] = some true) : Fld s s.heap x C n d (.int k) := by
  have hu := own_eqi h
  rw [fld_at ev] at hu
  exact Fld.start hu
theorem own_r (k : Int32) : (k &&& (3 : Int32)) = (0 : Int32) ∨ (k &&& (3 : Int32)) = (1 : Int32) ∨ (k &&& (3 : Int32)) = (2 : Int32) ∨ (k &&& (3 : Int32)) = (3 : Int32) := by
  have h := c_mask k (3 : Int32) 2 (by decide) (by decide)
  have q : (k &&& (3 : Int32)).toInt = 0 ∨ (k &&& (3 : Int32)).toInt = 1 ∨ (k &&& (3 : Int32)).toInt = 2 ∨ (k &&& (3 : Int32)).toInt = 3 := by omega
  rcases q with q | q | q | q
  · exact Or.inl (Int32.toInt_inj.mp (q.trans rfl))
  · exact Or.inr (Or.inl (Int32.toInt_inj.mp (q.trans rfl)))
  · exact Or.inr (Or.inr (Or.inl (Int32.toInt_inj.mp (q.trans rfl))))
  · exact Or.inr (Or.inr (Or.inr (Int32.toInt_inj.mp (q.trans rfl))))
theorem own_lo (k : Int32) : ¬ (((k &&& (3 : Int32)) + (1 : Int32)) < (1 : Int32)) := by
  rcases own_r k with h | h | h | h <;> rw [h] <;> decide
theorem own_hi (k : Int32) : ¬ ((4 : Int32) < ((k &&& (3 : Int32)) + (1 : Int32))) := by
  rcases own_r k with h | h | h | h <;> rw [h] <;> decide
def own_A (x y z w : Addr) (c : Int32) : Addr := [x, y, z, w].getD c.toNatClampNeg 0
theorem d3_0 : decode jdk_30_method_1_code 0 = .ok (.aload_n 0, 1) := by decide +kernel
theorem d3_1 : decode jdk_30_method_1_code 1 = .ok (.invokespecial 1, 3) := by decide +kernel
theorem d3_4 : decode jdk_30_method_1_code 4 = .ok (.return_, 1) := by decide +kernel
theorem pn_3 : plainName "java/lang/Record" = true := by first | (simp [plainName, overriddenIn]; done) | decide +kernel
theorem ef_3_4 (m : MethodId) (x0 : Addr) : entryFrame m #[(.ref x0)] 1 = mkF m 0 #[.val (.ref x0)] [] := by first | (simp [entryFrame, mkF, argsToLocals, Value.category]; done) | rfl
def QrmRec (Z : State) (a : Addr) (h0 : Heap) (n0 : Nat) (v : Option Value) (h : Heap) (L : List Loc) : Prop := v = none ∧ Fr n0 L ∧ h = h0
set_option maxRecDepth 65536 in
set_option maxHeartbeats 40000000 in
theorem rmRec (l : Launch) (Z : State) (a0 : Array Value) (hw : ∀ d ∈ tables_1, d.before a0 Z = true) (ws : List Jvm.Cond) (a : Addr) (h0 : Heap) (n0 : Nat) (O0 : Old Z n0 h0)  :
    MetFree l (⟨"java/lang/Record", "<init>", "()V"⟩ : MethodName) (head1 (Jvm.Cond.code (⟨"java/lang/Record", "<init>", "()V"⟩ : MethodName) jdk_30_method_1_code 1 none :: ws) ({ frames := 1, cells := 0, slots := 0, locals := 12 } : Room)) (fun a_ U_ => a_ = #[(.ref a)] ∧ Z.Warmed39 U_.vm ∧ U_.heap = h0) (fun _ _ _ _ _ => True) (fun _ U_ o_ U'_ => ∃ v_ L_, o_ = .returned v_ ∧ QrmRec Z a h0 n0 v_ U'_.heap L_ ∧ FrameEnd U_ o_ U'_ L_ ({ frames := 1, cells := 0, slots := 0, locals := 12 } : Room).cells ({ frames := 1, cells := 0, slots := 0, locals := 12 } : Room).slots) := by
  refine MetFree.of_bodySF (plainFor_of_name pn_3) hisR ?_
  intro pg ee s mm args below meth cc s₁ Bd hml0 hP hK
  obtain ⟨rfl, hZ, hh⟩ := hP
  have hx := Bd.exec
  have hby := Bd.bytes
  have hml : cc.maxLocals = 1 := hml0
  have hown : s.vm.findClass "java/lang/Record" = some mm.cls := findClass_of_methodNamed Bd.named
  have hnm := (name_of_methodNamed Bd.named Bd.method).1
  have X0 : Stand pg l ee ({ frames := 1, cells := 0, slots := 0, locals := 12 } : Room) s mm #[(.ref a)] below meth cc s₁ [] 0 0 := Stand.of_body Bd
  have e0 : s₁.heap = h0 := by rw [← hh, Bd.state]; rfl
  have N0 := Fr.nil n0
  have K0 : Keep h0 h0 ([] : List Addr) := Keep.refl _ _
  have pre0 : ∀ t, Steps pg.tables ee below (s₁.setTop (mkF mm 0 #[.val (.ref a)] [])) t → Steps pg.tables ee below (s₁.setTop (entryFrame mm #[(.ref a)] 1)) t := fun t k => castTop (ef_3_4 mm a) k
  obtain ⟨T1, X1, e1, st1⟩ := initO X0 hx hZ hown (hw _ (List.mem_of_getElem? (i := 18) rfl)) (hw _ (List.mem_of_getElem? (i := 19) rfl)) (hw _ (List.mem_of_getElem? (i := 20) rfl)) e0 (g := (mkF mm 1 #[.val (.ref a)] [(.ref a)])) rfl (by rw [hml]; rfl) rfl (hb hby d3_1) (by decide) (W := 0) (by show 2 * 0 + _ ≤ _; exact Nat.le_of_eq rfl) (by decide)
  obtain ⟨fs, hr, hrun, hended, hW, hsame⟩ := X1.leave (v := none) (fun _ => rfl)
  refine ⟨_, _, pre0 _ ?_, hrun, hended, _, _, rfl, ?_, ⟨_, rfl⟩, hW, hsame.mono (by decide) (by decide)⟩
  · show Steps pg.tables ee below (s₁.setTop (mkF mm 0 #[.val (.ref a)] [])) _
    refine XS.aloadN X0.here hx rfl (hb hby d3_0) rfl rfl ?_
    show Steps pg.tables ee below (s₁.setTop (mkF mm 1 #[.val (.ref a)] [(.ref a)])) _
    refine st1 _ ?_
    show Steps pg.tables ee below (T1.setTop (mkF mm 4 #[.val (.ref a)] [])) _
    exact X1.returnOut hx Bd.returns (hb hby d3_4) hr
  · show QrmRec Z a h0 n0 _ T1.heap _
    rw [e1]
    exact ⟨rfl, N0, rfl⟩
theorem d2_0 : decode prog_33_method_1_code 0 = .ok (.aload_n 0, 1) := by decide +kernel
theorem d2_1 : decode prog_33_method_1_code 1 = .ok (.invokespecial 1, 3) := by decide +kernel
theorem pd_7 : parseMethodDescriptor "()V" = some ⟨[], none⟩ := by decide +kernel
theorem d2_4 : decode prog_33_method_1_code 4 = .ok (.iload_n 1, 1) := by decide +kernel
theorem d2_5 : decode prog_33_method_1_code 5 = .ok (.iconst 1, 1) := by decide +kernel
theorem d2_6 : decode prog_33_method_1_code 6 = .ok (.if_icmp .lt 14, 3) := by decide +kernel
theorem d2_9 : decode prog_33_method_1_code 9 = .ok (.iload_n 1, 1) := by decide +kernel
theorem d2_10 : decode prog_33_method_1_code 10 = .ok (.getstatic 7, 3) := by decide +kernel
theorem d2_13 : decode prog_33_method_1_code 13 = .ok (.if_icmp .gt 7, 3) := by decide +kernel
theorem d2_16 : decode prog_33_method_1_code 16 = .ok (.aload_n 2, 1) := by decide +kernel
theorem d2_17 : decode prog_33_method_1_code 17 = .ok (.ifnonnull 21, 3) := by decide +kernel
theorem d2_38 : decode prog_33_method_1_code 38 = .ok (.aload_n 0, 1) := by decide +kernel
theorem d2_39 : decode prog_33_method_1_code 39 = .ok (.iload_n 1, 1) := by decide +kernel
theorem d2_40 : decode prog_33_method_1_code 40 = .ok (.putfield 28, 3) := by decide +kernel
theorem d2_43 : decode prog_33_method_1_code 43 = .ok (.aload_n 0, 1) := by decide +kernel
theorem d2_44 : decode prog_33_method_1_code 44 = .ok (.aload_n 2, 1) := by decide +kernel
theorem d2_45 : decode prog_33_method_1_code 45 = .ok (.putfield 31, 3) := by decide +kernel
theorem d2_48 : decode prog_33_method_1_code 48 = .ok (.return_, 1) := by decide +kernel
theorem pn_23 : plainName "com/example/chapiteau/chapiteau/circustrain/Wagon" = true := by first | (simp [plainName, overriddenIn]; done) | decide +kernel
theorem ef_2_24 (m : MethodId) (x0 : Addr) (x1 : Int32) (x2 : Addr) : entryFrame m #[(.ref x0), (.int x1), (.ref x2)] 3 = mkF m 0 #[.val (.ref x0), .val (.int x1), .val (.ref x2)] [] := by first | (simp [entryFrame, mkF, argsToLocals, Value.category]; done) | rfl
def QrmI (Z : State) (a : Addr) (p : Int32) (x : Addr) (h0 : Heap) (n0 : Nat) (v : Option Value) (h : Heap) (L : List Loc) : Prop := v = none ∧ Fr n0 L ∧ Keep h0 h [a] ∧ Exa Z h a "com/example/chapiteau/chapiteau/circustrain/Wagon" ∧ Fld Z h a "com/example/chapiteau/chapiteau/circustrain/Wagon" "value" "I" (.int p) ∧ Fld Z h a "com/example/chapiteau/chapiteau/circustrain/Wagon" "animal" "Lcom/example/chapiteau/chapiteau/circustrain/Animal;" (.ref x)
set_option maxRecDepth 65536 in
set_option maxHeartbeats 40000000 in
theorem rmI (l : Launch) (Z : State) (a0 : Array Value) (hw : ∀ d ∈ tables_1, d.before a0 Z = true) (ws : List Jvm.Cond) (a : Addr) (p : Int32) (x : Addr) (h0 : Heap) (n0 : Nat) (O0 : Old Z n0 h0) (E_a : Exa Z h0 a "com/example/chapiteau/chapiteau/circustrain/Wagon") (F_value_a : Fld Z h0 a "com/example/chapiteau/chapiteau/circustrain/Wagon" "value" "I" (.int (0 : Int32))) (F_animal_a : Fld Z h0 a "com/example/chapiteau/chapiteau/circustrain/Wagon" "animal" "Lcom/example/chapiteau/chapiteau/circustrain/Animal;" .null) (g_a : n0 ≤ a) (hlo : ¬ (p < (1 : Int32))) (hhi : ¬ ((4 : Int32) < p)) (S_TOP : Sta Z Z.heap "com/example/chapiteau/chapiteau/circustrain/Wagon" "TOP_VALUE" "I" (.int (4 : Int32))) :
    MetFree l (⟨"com/example/chapiteau/chapiteau/circustrain/Wagon", "<init>", "(ILcom/example/chapiteau/chapiteau/circustrain/Animal;)V"⟩ : MethodName) (head1 (Jvm.Cond.code (⟨"com/example/chapiteau/chapiteau/circustrain/Wagon", "<init>", "(ILcom/example/chapiteau/chapiteau/circustrain/Animal;)V"⟩ : MethodName) prog_33_method_1_code 3 none :: ws) ({ frames := 2, cells := 0, slots := 0, locals := 24 } : Room)) (fun a_ U_ => a_ = #[(.ref a), (.int p), (.ref x)] ∧ Z.Warmed39 U_.vm ∧ U_.heap = h0) (fun _ _ _ _ _ => True) (fun _ U_ o_ U'_ => ∃ v_ L_, o_ = .returned v_ ∧ QrmI Z a p x h0 n0 v_ U'_.heap L_ ∧ FrameEnd U_ o_ U'_ L_ ({ frames := 2, cells := 0, slots := 0, locals := 24 } : Room).cells ({ frames := 2, cells := 0, slots := 0, locals := 24 } : Room).slots) := by
  refine MetFree.of_bodySF (plainFor_of_name pn_23) hisR ?_
  intro pg ee s mm args below meth cc s₁ Bd hml0 hP hK
  obtain ⟨rfl, hZ, hh⟩ := hP
  have hx := Bd.exec
  have hby := Bd.bytes
  have hml : cc.maxLocals = 3 := hml0
  have hown : s.vm.findClass "com/example/chapiteau/chapiteau/circustrain/Wagon" = some mm.cls := findClass_of_methodNamed Bd.named
  have hnm := (name_of_methodNamed Bd.named Bd.method).1
  have X0 : Stand pg l ee ({ frames := 2, cells := 0, slots := 0, locals := 24 } : Room) s mm #[(.ref a), (.int p), (.ref x)] below meth cc s₁ [] 0 0 := Stand.of_body Bd
  have e0 : s₁.heap = h0 := by rw [← hh, Bd.state]; rfl
  have N0 := Fr.nil n0
  have K0 : Keep h0 h0 ([a] : List Addr) := Keep.refl _ _
  have pre0 : ∀ t, Steps pg.tables ee below (s₁.setTop (mkF mm 0 #[.val (.ref a), .val (.int p), .val (.ref x)] [])) t → Steps pg.tables ee below (s₁.setTop (entryFrame mm #[(.ref a), (.int p), (.ref x)] 3)) t := fun t k => castTop (ef_2_24 mm a p x) k
  obtain ⟨_, _, ⟨T1, L1, k1, n1⟩, -, X1, ⟨Lc1, hQ1, l1, y1, z1⟩, st1⟩ := X0.specialBack hx (y := (⟨"java/lang/Record", "<init>", "()V"⟩ : MethodName)) rfl hown (mvT hZ (hw _ (List.mem_of_getElem? (i := 13) rfl))) (mvT hZ (hw _ (List.mem_of_getElem? (i := 14) rfl))) (mvT hZ (hw _ (List.mem_of_getElem? (i := 17) rfl))) (by decide) (backOf (W := 0) (rmRec l Z a0 hw [] a h0 n0 O0) hZ (hw _ (List.mem_of_getElem? (i := 17) rfl)) (hw _ (List.mem_of_getElem? (i := 16) rfl)) (by decide) (by decide)) (g := (mkF mm 1 #[.val (.ref a), .val (.int p), .val (.ref x)] [(.ref a)])) rfl (by rw [hml]; rfl) (Steps.refl _) (a := a) (argsL := []) (rest := []) (lenOf pd_7 rfl) rfl (by show 2 * 0 + _ ≤ _; exact Nat.le_of_eq rfl) (hb hby d2_1) (fun _ _ => ⟨rfl, e0, (by decide : 0 + 0 ≤ _), (by decide : 0 + 0 ≤ _)⟩)
  dsimp only [Pt.U, Pt.locs, Pt.cells, Pt.slots] at X1 l1 y1 z1 st1 hQ1
  subst l1 y1 z1
  obtain ⟨rfl, N1q, e1⟩ := hQ1
  have N1 := Fr.app N0 N1q
  obtain ⟨T2, X2, e2, st2⟩ := getS2 X1 hx hZ hown (host := "") (Or.inl (hw _ (List.mem_of_getElem? (i := 21) rfl))) Via.refl e1 (S_TOP.ext O0.2) (g := (mkF mm 10 #[.val (.ref a), .val (.int p), .val (.ref x)] [(.int p)])) rfl (hb hby d2_10)
  obtain ⟨T3, h3, X3, e3, W3, st3⟩ := putF X2 hx hZ hown (host := "") (Or.inl (hw _ (List.mem_of_getElem? (i := 23) rfl))) Via.refl e2 F_value_a E_a (Or.inr ⟨(hw _ (List.mem_of_getElem? (i := 24) rfl)), rfl, hnm⟩) (hw _ (List.mem_of_getElem? (i := 1) rfl)) (ty := .int) (by decide) rfl rfl (g := (mkF mm 40 #[.val (.ref a), .val (.int p), .val (.ref x)] [(.int p), (.ref a)])) rfl rfl (hb hby d2_40)
  have Fw3 : Fld Z h3 a "com/example/chapiteau/chapiteau/circustrain/Wagon" "value" "I" (.int p) := F_value_a.same W3
  have N3 := Fr.snoc X3 N1 g_a
  have O3 := O0.wr W3 g_a
  have KK3 := K0.wr W3 (Or.inl (by simp))
  obtain ⟨T4, h4, X4, e4, W4, st4⟩ := putF X3 hx hZ hown (host := "") (Or.inl (hw _ (List.mem_of_getElem? (i := 25) rfl))) Via.refl e3 (F_animal_a.other W3 (Or.inr (slot_ne (Or.inr (hw _ (List.mem_of_getElem? (i := 26) rfl))) (Or.inr (hw _ (List.mem_of_getElem? (i := 24) rfl))) (by decide) (t := (.object "com/example/chapiteau/chapiteau/circustrain/Animal")) (t' := .int) (by decide) (by decide)))) (E_a.wr W3) (Or.inr ⟨(hw _ (List.mem_of_getElem? (i := 26) rfl)), rfl, hnm⟩) (hw _ (List.mem_of_getElem? (i := 1) rfl)) (ty := (.object "com/example/chapiteau/chapiteau/circustrain/Animal")) (by decide) rfl rfl (g := (mkF mm 45 #[.val (.ref a), .val (.int p), .val (.ref x)] [(.ref x), (.ref a)])) rfl rfl (hb hby d2_45)
  have Fw4 : Fld Z h4 a "com/example/chapiteau/chapiteau/circustrain/Wagon" "animal" "Lcom/example/chapiteau/chapiteau/circustrain/Animal;" (.ref x) := (F_animal_a.other W3 (Or.inr (slot_ne (Or.inr (hw _ (List.mem_of_getElem? (i := 26) rfl))) (Or.inr (hw _ (List.mem_of_getElem? (i := 24) rfl))) (by decide) (t := (.object "com/example/chapiteau/chapiteau/circustrain/Animal")) (t' := .int) (by decide) (by decide)))).same W4
  have N4 := Fr.snoc X4 N3 g_a
  have O4 := O3.wr W4 g_a
  have KK4 := KK3.wr W4 (Or.inl (by simp))
  obtain ⟨fs, hr, hrun, hended, hW, hsame⟩ := X4.leave (v := none) (fun _ => rfl)
  refine ⟨_, _, pre0 _ ?_, hrun, hended, _, _, rfl, ?_, ⟨_, rfl⟩, hW, hsame.mono (by decide) (by decide)⟩
  · show Steps pg.tables ee below (s₁.setTop (mkF mm 0 #[.val (.ref a), .val (.int p), .val (.ref x)] [])) _
    refine XS.aloadN X0.here hx rfl (hb hby d2_0) rfl rfl ?_
    show Steps pg.tables ee below (s₁.setTop (mkF mm 1 #[.val (.ref a), .val (.int p), .val (.ref x)] [(.ref a)])) _
    refine st1.trans ?_
    show Steps pg.tables ee below (T1.setTop (mkF mm 4 #[.val (.ref a), .val (.int p), .val (.ref x)] [])) _
    refine XS.iloadN X1.here hx rfl (hb hby d2_4) rfl ?_
    show Steps pg.tables ee below (T1.setTop (mkF mm 5 #[.val (.ref a), .val (.int p), .val (.ref x)] [(.int p)])) _
    refine XS.iconst X1.here hx rfl (hb hby d2_5) ?_
    show Steps pg.tables ee below (T1.setTop (mkF mm 6 #[.val (.ref a), .val (.int p), .val (.ref x)] [(.int (1 : Int32)), (.int p)])) _
    refine XS.icmpNo X1.here hx rfl (hb hby d2_6) rfl (flt hlo).1 ?_
    show Steps pg.tables ee below (T1.setTop (mkF mm 9 #[.val (.ref a), .val (.int p), .val (.ref x)] [])) _
    refine XS.iloadN X1.here hx rfl (hb hby d2_9) rfl ?_
    show Steps pg.tables ee below (T1.setTop (mkF mm 10 #[.val (.ref a), .val (.int p), .val (.ref x)] [(.int p)])) _
    refine st2 _ ?_
    show Steps pg.tables ee below (T2.setTop (mkF mm 13 #[.val (.ref a), .val (.int p), .val (.ref x)] [(.int (4 : Int32)), (.int p)])) _
    refine XS.icmpNo X2.here hx rfl (hb hby d2_13) rfl (flt hhi).2.2.1 ?_
    show Steps pg.tables ee below (T2.setTop (mkF mm 16 #[.val (.ref a), .val (.int p), .val (.ref x)] [])) _
    refine XS.aloadN X2.here hx rfl (hb hby d2_16) rfl rfl ?_
    show Steps pg.tables ee below (T2.setTop (mkF mm 17 #[.val (.ref a), .val (.int p), .val (.ref x)] [(.ref x)])) _
    refine XS.ifnonnullYes X2.here hx rfl (pc0 := 17) (pc' := 38) rfl (hb hby d2_17) rfl (by decide) (by decide) ?_
    show Steps pg.tables ee below (T2.setTop (mkF mm 38 #[.val (.ref a), .val (.int p), .val (.ref x)] [])) _
    refine XS.aloadN X2.here hx rfl (hb hby d2_38) rfl rfl ?_
    show Steps pg.tables ee below (T2.setTop (mkF mm 39 #[.val (.ref a), .val (.int p), .val (.ref x)] [(.ref a)])) _
    refine XS.iloadN X2.here hx rfl (hb hby d2_39) rfl ?_
    show Steps pg.tables ee below (T2.setTop (mkF mm 40 #[.val (.ref a), .val (.int p), .val (.ref x)] [(.int p), (.ref a)])) _
    refine st3 _ ?_
    show Steps pg.tables ee below (T3.setTop (mkF mm 43 #[.val (.ref a), .val (.int p), .val (.ref x)] [])) _
    refine XS.aloadN X3.here hx rfl (hb hby d2_43) rfl rfl ?_
    show Steps pg.tables ee below (T3.setTop (mkF mm 44 #[.val (.ref a), .val (.int p), .val (.ref x)] [(.ref a)])) _
    refine XS.aloadN X3.here hx rfl (hb hby d2_44) rfl rfl ?_
    show Steps pg.tables ee below (T3.setTop (mkF mm 45 #[.val (.ref a), .val (.int p), .val (.ref x)] [(.ref x), (.ref a)])) _
    refine st4 _ ?_
    show Steps pg.tables ee below (T4.setTop (mkF mm 48 #[.val (.ref a), .val (.int p), .val (.ref x)] [])) _
    exact X4.returnOut hx Bd.returns (hb hby d2_48) hr
  · show QrmI Z a p x h0 n0 _ T4.heap _
    rw [e4]
    exact ⟨rfl, N4, KK4, ((E_a.wr W3).wr W4), (Fw3.other W4 (Or.inr (slot_ne (Or.inr (hw _ (List.mem_of_getElem? (i := 24) rfl))) (Or.inr (hw _ (List.mem_of_getElem? (i := 26) rfl))) (by decide) (t := .int) (t' := (.object "com/example/chapiteau/chapiteau/circustrain/Animal")) (by decide) (by decide)))), Fw4⟩
theorem d1_0 : decode method_2_code 0 = .ok (.iload_n 0, 1) := by decide +kernel
theorem d1_1 : decode method_2_code 1 = .ok (.ifCond .ne 7, 3) := by decide +kernel
theorem d1_4 : decode method_2_code 4 = .ok (.getstatic 7, 3) := by decide +kernel
theorem d1_7 : decode method_2_code 7 = .ok (.areturn, 1) := by decide +kernel
theorem d1_8 : decode method_2_code 8 = .ok (.iload_n 0, 1) := by decide +kernel
theorem d1_9 : decode method_2_code 9 = .ok (.iconst 1, 1) := by decide +kernel
theorem d1_10 : decode method_2_code 10 = .ok (.if_icmp .ne 7, 3) := by decide +kernel
theorem d1_13 : decode method_2_code 13 = .ok (.getstatic 13, 3) := by decide +kernel
theorem d1_16 : decode method_2_code 16 = .ok (.areturn, 1) := by decide +kernel
theorem d1_17 : decode method_2_code 17 = .ok (.iload_n 0, 1) := by decide +kernel
theorem d1_18 : decode method_2_code 18 = .ok (.iconst 2, 1) := by decide +kernel
theorem d1_19 : decode method_2_code 19 = .ok (.if_icmp .ne 7, 3) := by decide +kernel
theorem d1_22 : decode method_2_code 22 = .ok (.getstatic 16, 3) := by decide +kernel
theorem d1_25 : decode method_2_code 25 = .ok (.areturn, 1) := by decide +kernel
theorem d1_26 : decode method_2_code 26 = .ok (.getstatic 19, 3) := by decide +kernel
theorem d1_29 : decode method_2_code 29 = .ok (.areturn, 1) := by decide +kernel
theorem pn_41 : plainName "com/example/chapiteau/chapiteau/circustrain/WagonMatchesPinLaw" = true := by first | (simp [plainName, overriddenIn]; done) | decide +kernel
theorem ef_1_42 (m : MethodId) (x0 : Int32) : entryFrame m #[(.int x0)] 1 = mkF m 0 #[.val (.int x0)] [] := by first | (simp [entryFrame, mkF, argsToLocals, Value.category]; done) | rfl
def QrmA (Z : State) (p : Int32) (A : Int32 → Addr) (h0 : Heap) (n0 : Nat) (v : Option Value) (h : Heap) (L : List Loc) : Prop := v = some (.ref (A p)) ∧ Fr n0 L ∧ h = h0
set_option maxRecDepth 65536 in
set_option maxHeartbeats 40000000 in
theorem rmA (l : Launch) (Z : State) (a0 : Array Value) (hw : ∀ d ∈ tables_1, d.before a0 Z = true) (ws : List Jvm.Cond) (p : Int32) (A : Int32 → Addr) (h0 : Heap) (n0 : Nat) (O0 : Old Z n0 h0) (S_GIRAFFE : Sta Z Z.heap "com/example/chapiteau/chapiteau/circustrain/Animal" "GIRAFFE" "Lcom/example/chapiteau/chapiteau/circustrain/Animal;" (.ref (A (0 : Int32)))) (S_BEAR : Sta Z Z.heap "com/example/chapiteau/chapiteau/circustrain/Animal" "BEAR" "Lcom/example/chapiteau/chapiteau/circustrain/Animal;" (.ref (A (1 : Int32)))) (S_FISH : Sta Z Z.heap "com/example/chapiteau/chapiteau/circustrain/Animal" "FISH" "Lcom/example/chapiteau/chapiteau/circustrain/Animal;" (.ref (A (2 : Int32)))) (S_TIGER : Sta Z Z.heap "com/example/chapiteau/chapiteau/circustrain/Animal" "TIGER" "Lcom/example/chapiteau/chapiteau/circustrain/Animal;" (.ref (A (3 : Int32)))) (hp : p = (0 : Int32) ∨ p = (1 : Int32) ∨ p = (2 : Int32) ∨ p = (3 : Int32)) :
    MetFree l (⟨"com/example/chapiteau/chapiteau/circustrain/WagonMatchesPinLaw", "animal", "(I)Lcom/example/chapiteau/chapiteau/circustrain/Animal;"⟩ : MethodName) (head1 (Jvm.Cond.code (⟨"com/example/chapiteau/chapiteau/circustrain/WagonMatchesPinLaw", "animal", "(I)Lcom/example/chapiteau/chapiteau/circustrain/Animal;"⟩ : MethodName) method_2_code 1 (some (.object "com/example/chapiteau/chapiteau/circustrain/Animal")) :: ws) ({ frames := 0, cells := 0, slots := 0, locals := 0 } : Room)) (fun a_ U_ => a_ = #[(.int p)] ∧ Z.Warmed39 U_.vm ∧ U_.heap = h0) (fun _ _ _ _ _ => True) (fun _ U_ o_ U'_ => ∃ v_ L_, o_ = .returned v_ ∧ QrmA Z p A h0 n0 v_ U'_.heap L_ ∧ FrameEnd U_ o_ U'_ L_ ({ frames := 0, cells := 0, slots := 0, locals := 0 } : Room).cells ({ frames := 0, cells := 0, slots := 0, locals := 0 } : Room).slots) := by
  refine MetFree.of_bodySF (plainFor_of_name pn_41) hisR ?_
  intro pg ee s mm args below meth cc s₁ Bd hml0 hP hK
  obtain ⟨rfl, hZ, hh⟩ := hP
  have hx := Bd.exec
  have hby := Bd.bytes
  have hml : cc.maxLocals = 1 := hml0
  have hown : s.vm.findClass "com/example/chapiteau/chapiteau/circustrain/WagonMatchesPinLaw" = some mm.cls := findClass_of_methodNamed Bd.named
  have hnm := (name_of_methodNamed Bd.named Bd.method).1
  have X0 : Stand pg l ee ({ frames := 0, cells := 0, slots := 0, locals := 0 } : Room) s mm #[(.int p)] below meth cc s₁ [] 0 0 := Stand.of_body Bd
  have e0 : s₁.heap = h0 := by rw [← hh, Bd.state]; rfl
  have N0 := Fr.nil n0
  have K0 : Keep h0 h0 ([] : List Addr) := Keep.refl _ _
  have pre0 : ∀ t, Steps pg.tables ee below (s₁.setTop (mkF mm 0 #[.val (.int p)] [])) t → Steps pg.tables ee below (s₁.setTop (entryFrame mm #[(.int p)] 1)) t := fun t k => castTop (ef_1_42 mm p) k
  have pre1 : ∀ t, Steps pg.tables ee below (s₁.setTop (mkF mm 1 #[.val (.int p)] [(.int p)])) t → Steps pg.tables ee below (s₁.setTop (entryFrame mm #[(.int p)] 1)) t := fun t k => pre0 t (by
      show Steps pg.tables ee below (s₁.setTop (mkF mm 0 #[.val (.int p)] [])) _
      refine XS.iloadN X0.here hx rfl (hb hby d1_0) rfl ?_
      exact k)
  by_cases hc2 : p = (0 : Int32)
  · obtain ⟨T3, X3, e3, st3⟩ := getS2 X0 hx hZ hown (host := "") (Or.inl (hw _ (List.mem_of_getElem? (i := 36) rfl))) Via.refl e0 (S_GIRAFFE.ext O0.2) (g := (mkF mm 4 #[.val (.int p)] [])) rfl (hb hby d1_4)
    obtain ⟨fs, hr, hrun, hended, hW, hsame⟩ := X3.leave (v := some (.ref (A (0 : Int32)))) (fun h => by rw [Bd.returns] at h; cases h)
    refine ⟨_, _, pre1 _ ?_, hrun, hended, _, _, rfl, ?_, ⟨_, rfl⟩, hW, hsame.mono (by decide) (by decide)⟩
    · show Steps pg.tables ee below (s₁.setTop (mkF mm 1 #[.val (.int p)] [(.int p)])) _
      refine XS.ifNo X0.here hx rfl (hb hby d1_1) rfl ((if0 _ _).trans (teq hc2).2) ?_
      show Steps pg.tables ee below (s₁.setTop (mkF mm 4 #[.val (.int p)] [])) _
      refine st3 _ ?_
      show Steps pg.tables ee below (T3.setTop (mkF mm 7 #[.val (.int p)] [(.ref (A (0 : Int32)))])) _
      exact retOut X3 hx Bd.returns rfl (Or.inr (Or.inr (Or.inr (Or.inr ⟨rfl, rfl, rfl⟩)))) (hb hby d1_7) hr
    · show QrmA Z p A h0 n0 _ T3.heap _
      rw [e3]
      exact ⟨by rw [hc2], N0, rfl⟩
  · have pre4 : ∀ t, Steps pg.tables ee below (s₁.setTop (mkF mm 10 #[.val (.int p)] [(.int (1 : Int32)), (.int p)])) t → Steps pg.tables ee below (s₁.setTop (entryFrame mm #[(.int p)] 1)) t := fun t k => pre1 t (by
        show Steps pg.tables ee below (s₁.setTop (mkF mm 1 #[.val (.int p)] [(.int p)])) _
        refine XS.ifYes X0.here hx rfl (pc0 := 1) (pc' := 8) rfl (hb hby d1_1) rfl ((if0 _ _).trans (feq hc2).2) (by decide) (by decide) ?_
        show Steps pg.tables ee below (s₁.setTop (mkF mm 8 #[.val (.int p)] [])) _
        refine XS.iloadN X0.here hx rfl (hb hby d1_8) rfl ?_
        show Steps pg.tables ee below (s₁.setTop (mkF mm 9 #[.val (.int p)] [(.int p)])) _
        refine XS.iconst X0.here hx rfl (hb hby d1_9) ?_
        exact k)
    by_cases hc5 : p = (1 : Int32)
    · obtain ⟨T6, X6, e6, st6⟩ := getS2 X0 hx hZ hown (host := "") (Or.inl (hw _ (List.mem_of_getElem? (i := 27) rfl))) Via.refl e0 (S_BEAR.ext O0.2) (g := (mkF mm 13 #[.val (.int p)] [])) rfl (hb hby d1_13)
      obtain ⟨fs, hr, hrun, hended, hW, hsame⟩ := X6.leave (v := some (.ref (A (1 : Int32)))) (fun h => by rw [Bd.returns] at h; cases h)
      refine ⟨_, _, pre4 _ ?_, hrun, hended, _, _, rfl, ?_, ⟨_, rfl⟩, hW, hsame.mono (by decide) (by decide)⟩
      · show Steps pg.tables ee below (s₁.setTop (mkF mm 10 #[.val (.int p)] [(.int (1 : Int32)), (.int p)])) _
        refine XS.icmpNo X0.here hx rfl (hb hby d1_10) rfl (teq hc5).2 ?_
        show Steps pg.tables ee below (s₁.setTop (mkF mm 13 #[.val (.int p)] [])) _
        refine st6 _ ?_
        show Steps pg.tables ee below (T6.setTop (mkF mm 16 #[.val (.int p)] [(.ref (A (1 : Int32)))])) _
        exact retOut X6 hx Bd.returns rfl (Or.inr (Or.inr (Or.inr (Or.inr ⟨rfl, rfl, rfl⟩)))) (hb hby d1_16) hr
      · show QrmA Z p A h0 n0 _ T6.heap _
        rw [e6]
        exact ⟨by rw [hc5], N0, rfl⟩
    · have pre7 : ∀ t, Steps pg.tables ee below (s₁.setTop (mkF mm 19 #[.val (.int p)] [(.int (2 : Int32)), (.int p)])) t → Steps pg.tables ee below (s₁.setTop (entryFrame mm #[(.int p)] 1)) t := fun t k => pre4 t (by
          show Steps pg.tables ee below (s₁.setTop (mkF mm 10 #[.val (.int p)] [(.int (1 : Int32)), (.int p)])) _
          refine XS.icmpYes X0.here hx rfl (pc0 := 10) (pc' := 17) rfl (hb hby d1_10) rfl (feq hc5).2 (by decide) (by decide) ?_
          show Steps pg.tables ee below (s₁.setTop (mkF mm 17 #[.val (.int p)] [])) _
          refine XS.iloadN X0.here hx rfl (hb hby d1_17) rfl ?_
          show Steps pg.tables ee below (s₁.setTop (mkF mm 18 #[.val (.int p)] [(.int p)])) _
          refine XS.iconst X0.here hx rfl (hb hby d1_18) ?_
          exact k)
      by_cases hc8 : p = (2 : Int32)
      · obtain ⟨T9, X9, e9, st9⟩ := getS2 X0 hx hZ hown (host := "") (Or.inl (hw _ (List.mem_of_getElem? (i := 34) rfl))) Via.refl e0 (S_FISH.ext O0.2) (g := (mkF mm 22 #[.val (.int p)] [])) rfl (hb hby d1_22)
        obtain ⟨fs, hr, hrun, hended, hW, hsame⟩ := X9.leave (v := some (.ref (A (2 : Int32)))) (fun h => by rw [Bd.returns] at h; cases h)
        refine ⟨_, _, pre7 _ ?_, hrun, hended, _, _, rfl, ?_, ⟨_, rfl⟩, hW, hsame.mono (by decide) (by decide)⟩
        · show Steps pg.tables ee below (s₁.setTop (mkF mm 19 #[.val (.int p)] [(.int (2 : Int32)), (.int p)])) _
          refine XS.icmpNo X0.here hx rfl (hb hby d1_19) rfl (teq hc8).2 ?_
          show Steps pg.tables ee below (s₁.setTop (mkF mm 22 #[.val (.int p)] [])) _
          refine st9 _ ?_
          show Steps pg.tables ee below (T9.setTop (mkF mm 25 #[.val (.int p)] [(.ref (A (2 : Int32)))])) _
          exact retOut X9 hx Bd.returns rfl (Or.inr (Or.inr (Or.inr (Or.inr ⟨rfl, rfl, rfl⟩)))) (hb hby d1_25) hr
        · show QrmA Z p A h0 n0 _ T9.heap _
          rw [e9]
          exact ⟨by rw [hc8], N0, rfl⟩
      · obtain ⟨T10, X10, e10, st10⟩ := getS2 X0 hx hZ hown (host := "") (Or.inl (hw _ (List.mem_of_getElem? (i := 7) rfl))) Via.refl e0 (S_TIGER.ext O0.2) (g := (mkF mm 26 #[.val (.int p)] [])) rfl (hb hby d1_26)
        obtain ⟨fs, hr, hrun, hended, hW, hsame⟩ := X10.leave (v := some (.ref (A (3 : Int32)))) (fun h => by rw [Bd.returns] at h; cases h)
        refine ⟨_, _, pre7 _ ?_, hrun, hended, _, _, rfl, ?_, ⟨_, rfl⟩, hW, hsame.mono (by decide) (by decide)⟩
        · show Steps pg.tables ee below (s₁.setTop (mkF mm 19 #[.val (.int p)] [(.int (2 : Int32)), (.int p)])) _
          refine XS.icmpYes X0.here hx rfl (pc0 := 19) (pc' := 26) rfl (hb hby d1_19) rfl (feq hc8).2 (by decide) (by decide) ?_
          show Steps pg.tables ee below (s₁.setTop (mkF mm 26 #[.val (.int p)] [])) _
          refine st10 _ ?_
          show Steps pg.tables ee below (T10.setTop (mkF mm 29 #[.val (.int p)] [(.ref (A (3 : Int32)))])) _
          exact retOut X10 hx Bd.returns rfl (Or.inr (Or.inr (Or.inr (Or.inr ⟨rfl, rfl, rfl⟩)))) (hb hby d1_29) hr
        · show QrmA Z p A h0 n0 _ T10.heap _
          rw [e10]
          exact ⟨by rw [((hp.resolve_left hc2).resolve_left hc5).resolve_left hc8], N0, rfl⟩
theorem d5_0 : decode prog_33_method_5_code 0 = .ok (.aload_n 0, 1) := by decide +kernel
theorem d5_1 : decode prog_33_method_5_code 1 = .ok (.getfield 31, 3) := by decide +kernel
theorem d5_4 : decode prog_33_method_5_code 4 = .ok (.aload_n 1, 1) := by decide +kernel
theorem d5_5 : decode prog_33_method_5_code 5 = .ok (.getfield 31, 3) := by decide +kernel
theorem d5_8 : decode prog_33_method_5_code 8 = .ok (.if_acmp .eq 14, 3) := by decide +kernel
theorem d5_22 : decode prog_33_method_5_code 22 = .ok (.iconst 1, 1) := by decide +kernel
theorem d5_23 : decode prog_33_method_5_code 23 = .ok (.goto 4, 3) := by decide +kernel
theorem d5_27 : decode prog_33_method_5_code 27 = .ok (.ireturn, 1) := by decide +kernel
theorem ef_5_51 (m : MethodId) (x0 : Addr) (x1 : Addr) : entryFrame m #[(.ref x0), (.ref x1)] 2 = mkF m 0 #[.val (.ref x0), .val (.ref x1)] [] := by first | (simp [entryFrame, mkF, argsToLocals, Value.category]; done) | rfl
def QrmMA (Z : State) (a : Addr) (b : Addr) (p : Int32) (x : Addr) (q : Int32) (y : Addr) (h0 : Heap) (n0 : Nat) (v : Option Value) (h : Heap) (L : List Loc) : Prop := v = some (.int (1 : Int32)) ∧ Fr n0 L ∧ h = h0
set_option maxRecDepth 65536 in
set_option maxHeartbeats 40000000 in
theorem rmMA (l : Launch) (Z : State) (a0 : Array Value) (hw : ∀ d ∈ tables_1, d.before a0 Z = true) (ws : List Jvm.Cond) (a : Addr) (b : Addr) (p : Int32) (x : Addr) (q : Int32) (y : Addr) (h0 : Heap) (n0 : Nat) (O0 : Old Z n0 h0) (Fp : Fld Z h0 a "com/example/chapiteau/chapiteau/circustrain/Wagon" "value" "I" (.int p)) (Fx : Fld Z h0 a "com/example/chapiteau/chapiteau/circustrain/Wagon" "animal" "Lcom/example/chapiteau/chapiteau/circustrain/Animal;" (.ref x)) (Fq : Fld Z h0 b "com/example/chapiteau/chapiteau/circustrain/Wagon" "value" "I" (.int q)) (Fy : Fld Z h0 b "com/example/chapiteau/chapiteau/circustrain/Wagon" "animal" "Lcom/example/chapiteau/chapiteau/circustrain/Animal;" (.ref y)) (hxx : x = y) :
    MetFree l (⟨"com/example/chapiteau/chapiteau/circustrain/Wagon", "matches", "(Lcom/example/chapiteau/chapiteau/circustrain/Wagon;)Z"⟩ : MethodName) (head1 (Jvm.Cond.code (⟨"com/example/chapiteau/chapiteau/circustrain/Wagon", "matches", "(Lcom/example/chapiteau/chapiteau/circustrain/Wagon;)Z"⟩ : MethodName) prog_33_method_5_code 2 (some .boolean) :: ws) ({ frames := 0, cells := 0, slots := 0, locals := 0 } : Room)) (fun a_ U_ => a_ = #[(.ref a), (.ref b)] ∧ Z.Warmed39 U_.vm ∧ U_.heap = h0) (fun _ _ _ _ _ => True) (fun _ U_ o_ U'_ => ∃ v_ L_, o_ = .returned v_ ∧ QrmMA Z a b p x q y h0 n0 v_ U'_.heap L_ ∧ FrameEnd U_ o_ U'_ L_ ({ frames := 0, cells := 0, slots := 0, locals := 0 } : Room).cells ({ frames := 0, cells := 0, slots := 0, locals := 0 } : Room).slots) := by
  refine MetFree.of_bodySF (plainFor_of_name pn_23) hisR ?_
  intro pg ee s mm args below meth cc s₁ Bd hml0 hP hK
  obtain ⟨rfl, hZ, hh⟩ := hP
  have hx := Bd.exec
  have hby := Bd.bytes
  have hml : cc.maxLocals = 2 := hml0
  have hown : s.vm.findClass "com/example/chapiteau/chapiteau/circustrain/Wagon" = some mm.cls := findClass_of_methodNamed Bd.named
  have hnm := (name_of_methodNamed Bd.named Bd.method).1
  have X0 : Stand pg l ee ({ frames := 0, cells := 0, slots := 0, locals := 0 } : Room) s mm #[(.ref a), (.ref b)] below meth cc s₁ [] 0 0 := Stand.of_body Bd
  have e0 : s₁.heap = h0 := by rw [← hh, Bd.state]; rfl
  have N0 := Fr.nil n0
  have K0 : Keep h0 h0 ([] : List Addr) := Keep.refl _ _
  have pre0 : ∀ t, Steps pg.tables ee below (s₁.setTop (mkF mm 0 #[.val (.ref a), .val (.ref b)] [])) t → Steps pg.tables ee below (s₁.setTop (entryFrame mm #[(.ref a), (.ref b)] 2)) t := fun t k => castTop (ef_5_51 mm a b) k
  obtain ⟨T1, X1, e1, st1⟩ := getF X0 hx hZ hown (host := "") (Or.inl (hw _ (List.mem_of_getElem? (i := 25) rfl))) Via.refl e0 Fx (g := (mkF mm 1 #[.val (.ref a), .val (.ref b)] [(.ref a)])) rfl rfl (hb hby d5_1)
  obtain ⟨T2, X2, e2, st2⟩ := getF X1 hx hZ hown (host := "") (Or.inl (hw _ (List.mem_of_getElem? (i := 25) rfl))) Via.refl e1 Fy (g := (mkF mm 5 #[.val (.ref a), .val (.ref b)] [(.ref b), (.ref x)])) rfl rfl (hb hby d5_5)
  obtain ⟨fs, hr, hrun, hended, hW, hsame⟩ := X2.leave (v := some (.int (1 : Int32))) (fun h => by rw [Bd.returns] at h; cases h)
  refine ⟨_, _, pre0 _ ?_, hrun, hended, _, _, rfl, ?_, ⟨_, rfl⟩, hW, hsame.mono (by decide) (by decide)⟩
  · show Steps pg.tables ee below (s₁.setTop (mkF mm 0 #[.val (.ref a), .val (.ref b)] [])) _
    refine XS.aloadN X0.here hx rfl (hb hby d5_0) rfl rfl ?_
    show Steps pg.tables ee below (s₁.setTop (mkF mm 1 #[.val (.ref a), .val (.ref b)] [(.ref a)])) _
    refine st1 _ ?_
    show Steps pg.tables ee below (T1.setTop (mkF mm 4 #[.val (.ref a), .val (.ref b)] [(.ref x)])) _
    refine XS.aloadN X1.here hx rfl (hb hby d5_4) rfl rfl ?_
    show Steps pg.tables ee below (T1.setTop (mkF mm 5 #[.val (.ref a), .val (.ref b)] [(.ref b), (.ref x)])) _
    refine st2 _ ?_
    show Steps pg.tables ee below (T2.setTop (mkF mm 8 #[.val (.ref a), .val (.ref b)] [(.ref y), (.ref x)])) _
    refine Jvm.RoadKit.acmp (g := (mkF mm 8 #[.val (.ref a), .val (.ref b)] [(.ref y), (.ref x)])) X2 hx rfl rfl rfl (pc0 := 8) (pc' := 22) (same := true) rfl (hb hby d5_8) rfl (decide_eq_true (congrArg Value.ref hxx)) (by decide) (by decide) ?_
    show Steps pg.tables ee below (T2.setTop (mkF mm 22 #[.val (.ref a), .val (.ref b)] [])) _
    refine XS.iconst X2.here hx rfl (hb hby d5_22) ?_
    show Steps pg.tables ee below (T2.setTop (mkF mm 23 #[.val (.ref a), .val (.ref b)] [(.int (1 : Int32))])) _
    refine XS.goto X2.here hx rfl (pc0 := 23) (pc' := 27) rfl (hb hby d5_23) (by decide) (by decide) ?_
    show Steps pg.tables ee below (T2.setTop (mkF mm 27 #[.val (.ref a), .val (.ref b)] [(.int (1 : Int32))])) _
    exact retN X2 hx (t := .boolean) Bd.returns (by simp) (hb hby d5_27) hr
  · show QrmMA Z a b p x q y h0 n0 _ T2.heap _
    rw [e2]
    exact ⟨rfl, N0, rfl⟩
theorem d5_11 : decode prog_33_method_5_code 11 = .ok (.aload_n 0, 1) := by decide +kernel
theorem d5_12 : decode prog_33_method_5_code 12 = .ok (.getfield 28, 3) := by decide +kernel
theorem d5_15 : decode prog_33_method_5_code 15 = .ok (.aload_n 1, 1) := by decide +kernel
theorem d5_16 : decode prog_33_method_5_code 16 = .ok (.getfield 28, 3) := by decide +kernel
theorem d5_19 : decode prog_33_method_5_code 19 = .ok (.if_icmp .ne 7, 3) := by decide +kernel
def QrmMV (Z : State) (a : Addr) (b : Addr) (p : Int32) (x : Addr) (q : Int32) (y : Addr) (h0 : Heap) (n0 : Nat) (v : Option Value) (h : Heap) (L : List Loc) : Prop := v = some (.int (1 : Int32)) ∧ Fr n0 L ∧ h = h0
set_option maxRecDepth 65536 in
set_option maxHeartbeats 40000000 in
theorem rmMV (l : Launch) (Z : State) (a0 : Array Value) (hw : ∀ d ∈ tables_1, d.before a0 Z = true) (ws : List Jvm.Cond) (a : Addr) (b : Addr) (p : Int32) (x : Addr) (q : Int32) (y : Addr) (h0 : Heap) (n0 : Nat) (O0 : Old Z n0 h0) (Fp : Fld Z h0 a "com/example/chapiteau/chapiteau/circustrain/Wagon" "value" "I" (.int p)) (Fx : Fld Z h0 a "com/example/chapiteau/chapiteau/circustrain/Wagon" "animal" "Lcom/example/chapiteau/chapiteau/circustrain/Animal;" (.ref x)) (Fq : Fld Z h0 b "com/example/chapiteau/chapiteau/circustrain/Wagon" "value" "I" (.int q)) (Fy : Fld Z h0 b "com/example/chapiteau/chapiteau/circustrain/Wagon" "animal" "Lcom/example/chapiteau/chapiteau/circustrain/Animal;" (.ref y)) (hxx : ¬ (x = y)) (hp : p = q) :
    MetFree l (⟨"com/example/chapiteau/chapiteau/circustrain/Wagon", "matches", "(Lcom/example/chapiteau/chapiteau/circustrain/Wagon;)Z"⟩ : MethodName) (head1 (Jvm.Cond.code (⟨"com/example/chapiteau/chapiteau/circustrain/Wagon", "matches", "(Lcom/example/chapiteau/chapiteau/circustrain/Wagon;)Z"⟩ : MethodName) prog_33_method_5_code 2 (some .boolean) :: ws) ({ frames := 0, cells := 0, slots := 0, locals := 0 } : Room)) (fun a_ U_ => a_ = #[(.ref a), (.ref b)] ∧ Z.Warmed39 U_.vm ∧ U_.heap = h0) (fun _ _ _ _ _ => True) (fun _ U_ o_ U'_ => ∃ v_ L_, o_ = .returned v_ ∧ QrmMV Z a b p x q y h0 n0 v_ U'_.heap L_ ∧ FrameEnd U_ o_ U'_ L_ ({ frames := 0, cells := 0, slots := 0, locals := 0 } : Room).cells ({ frames := 0, cells := 0, slots := 0, locals := 0 } : Room).slots) := by
  refine MetFree.of_bodySF (plainFor_of_name pn_23) hisR ?_
  intro pg ee s mm args below meth cc s₁ Bd hml0 hP hK
  obtain ⟨rfl, hZ, hh⟩ := hP
  have hx := Bd.exec
  have hby := Bd.bytes
  have hml : cc.maxLocals = 2 := hml0
  have hown : s.vm.findClass "com/example/chapiteau/chapiteau/circustrain/Wagon" = some mm.cls := findClass_of_methodNamed Bd.named
  have hnm := (name_of_methodNamed Bd.named Bd.method).1
  have X0 : Stand pg l ee ({ frames := 0, cells := 0, slots := 0, locals := 0 } : Room) s mm #[(.ref a), (.ref b)] below meth cc s₁ [] 0 0 := Stand.of_body Bd
  have e0 : s₁.heap = h0 := by rw [← hh, Bd.state]; rfl
  have N0 := Fr.nil n0
  have K0 : Keep h0 h0 ([] : List Addr) := Keep.refl _ _
  have pre0 : ∀ t, Steps pg.tables ee below (s₁.setTop (mkF mm 0 #[.val (.ref a), .val (.ref b)] [])) t → Steps pg.tables ee below (s₁.setTop (entryFrame mm #[(.ref a), (.ref b)] 2)) t := fun t k => castTop (ef_5_51 mm a b) k
  obtain ⟨T1, X1, e1, st1⟩ := getF X0 hx hZ hown (host := "") (Or.inl (hw _ (List.mem_of_getElem? (i := 25) rfl))) Via.refl e0 Fx (g := (mkF mm 1 #[.val (.ref a), .val (.ref b)] [(.ref a)])) rfl rfl (hb hby d5_1)
  obtain ⟨T2, X2, e2, st2⟩ := getF X1 hx hZ hown (host := "") (Or.inl (hw _ (List.mem_of_getElem? (i := 25) rfl))) Via.refl e1 Fy (g := (mkF mm 5 #[.val (.ref a), .val (.ref b)] [(.ref b), (.ref x)])) rfl rfl (hb hby d5_5)
  obtain ⟨T3, X3, e3, st3⟩ := getF X2 hx hZ hown (host := "") (Or.inl (hw _ (List.mem_of_getElem? (i := 23) rfl))) Via.refl e2 Fp (g := (mkF mm 12 #[.val (.ref a), .val (.ref b)] [(.ref a)])) rfl rfl (hb hby d5_12)
  obtain ⟨T4, X4, e4, st4⟩ := getF X3 hx hZ hown (host := "") (Or.inl (hw _ (List.mem_of_getElem? (i := 23) rfl))) Via.refl e3 Fq (g := (mkF mm 16 #[.val (.ref a), .val (.ref b)] [(.ref b), (.int p)])) rfl rfl (hb hby d5_16)
  obtain ⟨fs, hr, hrun, hended, hW, hsame⟩ := X4.leave (v := some (.int (1 : Int32))) (fun h => by rw [Bd.returns] at h; cases h)
  refine ⟨_, _, pre0 _ ?_, hrun, hended, _, _, rfl, ?_, ⟨_, rfl⟩, hW, hsame.mono (by decide) (by decide)⟩
  · show Steps pg.tables ee below (s₁.setTop (mkF mm 0 #[.val (.ref a), .val (.ref b)] [])) _
    refine XS.aloadN X0.here hx rfl (hb hby d5_0) rfl rfl ?_
    show Steps pg.tables ee below (s₁.setTop (mkF mm 1 #[.val (.ref a), .val (.ref b)] [(.ref a)])) _
    refine st1 _ ?_
    show Steps pg.tables ee below (T1.setTop (mkF mm 4 #[.val (.ref a), .val (.ref b)] [(.ref x)])) _
    refine XS.aloadN X1.here hx rfl (hb hby d5_4) rfl rfl ?_
    show Steps pg.tables ee below (T1.setTop (mkF mm 5 #[.val (.ref a), .val (.ref b)] [(.ref b), (.ref x)])) _
    refine st2 _ ?_
    show Steps pg.tables ee below (T2.setTop (mkF mm 8 #[.val (.ref a), .val (.ref b)] [(.ref y), (.ref x)])) _
    refine Jvm.RoadKit.acmp (g := (mkF mm 8 #[.val (.ref a), .val (.ref b)] [(.ref y), (.ref x)])) X2 hx rfl rfl rfl (pc0 := 8) (pc' := 11) (same := false) rfl (hb hby d5_8) rfl (decide_eq_false fun q => hxx (Value.ref.inj q)) (by decide) (by decide) ?_
    show Steps pg.tables ee below (T2.setTop (mkF mm 11 #[.val (.ref a), .val (.ref b)] [])) _
    refine XS.aloadN X2.here hx rfl (hb hby d5_11) rfl rfl ?_
    show Steps pg.tables ee below (T2.setTop (mkF mm 12 #[.val (.ref a), .val (.ref b)] [(.ref a)])) _
    refine st3 _ ?_
    show Steps pg.tables ee below (T3.setTop (mkF mm 15 #[.val (.ref a), .val (.ref b)] [(.int p)])) _
    refine XS.aloadN X3.here hx rfl (hb hby d5_15) rfl rfl ?_
    show Steps pg.tables ee below (T3.setTop (mkF mm 16 #[.val (.ref a), .val (.ref b)] [(.ref b), (.int p)])) _
    refine st4 _ ?_
    show Steps pg.tables ee below (T4.setTop (mkF mm 19 #[.val (.ref a), .val (.ref b)] [(.int q), (.int p)])) _
    refine XS.icmpNo X4.here hx rfl (hb hby d5_19) rfl (teq hp).2 ?_
    show Steps pg.tables ee below (T4.setTop (mkF mm 22 #[.val (.ref a), .val (.ref b)] [])) _
    refine XS.iconst X4.here hx rfl (hb hby d5_22) ?_
    show Steps pg.tables ee below (T4.setTop (mkF mm 23 #[.val (.ref a), .val (.ref b)] [(.int (1 : Int32))])) _
    refine XS.goto X4.here hx rfl (pc0 := 23) (pc' := 27) rfl (hb hby d5_23) (by decide) (by decide) ?_
    show Steps pg.tables ee below (T4.setTop (mkF mm 27 #[.val (.ref a), .val (.ref b)] [(.int (1 : Int32))])) _
    exact retN X4 hx (t := .boolean) Bd.returns (by simp) (hb hby d5_27) hr
  · show QrmMV Z a b p x q y h0 n0 _ T4.heap _
    rw [e4]
    exact ⟨rfl, N0, rfl⟩
theorem d5_26 : decode prog_33_method_5_code 26 = .ok (.iconst 0, 1) := by decide +kernel
def QrmMN (Z : State) (a : Addr) (b : Addr) (p : Int32) (x : Addr) (q : Int32) (y : Addr) (h0 : Heap) (n0 : Nat) (v : Option Value) (h : Heap) (L : List Loc) : Prop := v = some (.int (0 : Int32)) ∧ Fr n0 L ∧ h = h0
set_option maxRecDepth 65536 in
set_option maxHeartbeats 40000000 in
theorem rmMN (l : Launch) (Z : State) (a0 : Array Value) (hw : ∀ d ∈ tables_1, d.before a0 Z = true) (ws : List Jvm.Cond) (a : Addr) (b : Addr) (p : Int32) (x : Addr) (q : Int32) (y : Addr) (h0 : Heap) (n0 : Nat) (O0 : Old Z n0 h0) (Fp : Fld Z h0 a "com/example/chapiteau/chapiteau/circustrain/Wagon" "value" "I" (.int p)) (Fx : Fld Z h0 a "com/example/chapiteau/chapiteau/circustrain/Wagon" "animal" "Lcom/example/chapiteau/chapiteau/circustrain/Animal;" (.ref x)) (Fq : Fld Z h0 b "com/example/chapiteau/chapiteau/circustrain/Wagon" "value" "I" (.int q)) (Fy : Fld Z h0 b "com/example/chapiteau/chapiteau/circustrain/Wagon" "animal" "Lcom/example/chapiteau/chapiteau/circustrain/Animal;" (.ref y)) (hxx : ¬ (x = y)) (hp : ¬ (p = q)) :
    MetFree l (⟨"com/example/chapiteau/chapiteau/circustrain/Wagon", "matches", "(Lcom/example/chapiteau/chapiteau/circustrain/Wagon;)Z"⟩ : MethodName) (head1 (Jvm.Cond.code (⟨"com/example/chapiteau/chapiteau/circustrain/Wagon", "matches", "(Lcom/example/chapiteau/chapiteau/circustrain/Wagon;)Z"⟩ : MethodName) prog_33_method_5_code 2 (some .boolean) :: ws) ({ frames := 0, cells := 0, slots := 0, locals := 0 } : Room)) (fun a_ U_ => a_ = #[(.ref a), (.ref b)] ∧ Z.Warmed39 U_.vm ∧ U_.heap = h0) (fun _ _ _ _ _ => True) (fun _ U_ o_ U'_ => ∃ v_ L_, o_ = .returned v_ ∧ QrmMN Z a b p x q y h0 n0 v_ U'_.heap L_ ∧ FrameEnd U_ o_ U'_ L_ ({ frames := 0, cells := 0, slots := 0, locals := 0 } : Room).cells ({ frames := 0, cells := 0, slots := 0, locals := 0 } : Room).slots) := by
  refine MetFree.of_bodySF (plainFor_of_name pn_23) hisR ?_
  intro pg ee s mm args below meth cc s₁ Bd hml0 hP hK
  obtain ⟨rfl, hZ, hh⟩ := hP
  have hx := Bd.exec
  have hby := Bd.bytes
  have hml : cc.maxLocals = 2 := hml0
  have hown : s.vm.findClass "com/example/chapiteau/chapiteau/circustrain/Wagon" = some mm.cls := findClass_of_methodNamed Bd.named
  have hnm := (name_of_methodNamed Bd.named Bd.method).1
  have X0 : Stand pg l ee ({ frames := 0, cells := 0, slots := 0, locals := 0 } : Room) s mm #[(.ref a), (.ref b)] below meth cc s₁ [] 0 0 := Stand.of_body Bd
  have e0 : s₁.heap = h0 := by rw [← hh, Bd.state]; rfl
  have N0 := Fr.nil n0
  have K0 : Keep h0 h0 ([] : List Addr) := Keep.refl _ _
  have pre0 : ∀ t, Steps pg.tables ee below (s₁.setTop (mkF mm 0 #[.val (.ref a), .val (.ref b)] [])) t → Steps pg.tables ee below (s₁.setTop (entryFrame mm #[(.ref a), (.ref b)] 2)) t := fun t k => castTop (ef_5_51 mm a b) k
  obtain ⟨T1, X1, e1, st1⟩ := getF X0 hx hZ hown (host := "") (Or.inl (hw _ (List.mem_of_getElem? (i := 25) rfl))) Via.refl e0 Fx (g := (mkF mm 1 #[.val (.ref a), .val (.ref b)] [(.ref a)])) rfl rfl (hb hby d5_1)
  obtain ⟨T2, X2, e2, st2⟩ := getF X1 hx hZ hown (host := "") (Or.inl (hw _ (List.mem_of_getElem? (i := 25) rfl))) Via.refl e1 Fy (g := (mkF mm 5 #[.val (.ref a), .val (.ref b)] [(.ref b), (.ref x)])) rfl rfl (hb hby d5_5)
  obtain ⟨T3, X3, e3, st3⟩ := getF X2 hx hZ hown (host := "") (Or.inl (hw _ (List.mem_of_getElem? (i := 23) rfl))) Via.refl e2 Fp (g := (mkF mm 12 #[.val (.ref a), .val (.ref b)] [(.ref a)])) rfl rfl (hb hby d5_12)
  obtain ⟨T4, X4, e4, st4⟩ := getF X3 hx hZ hown (host := "") (Or.inl (hw _ (List.mem_of_getElem? (i := 23) rfl))) Via.refl e3 Fq (g := (mkF mm 16 #[.val (.ref a), .val (.ref b)] [(.ref b), (.int p)])) rfl rfl (hb hby d5_16)
  obtain ⟨fs, hr, hrun, hended, hW, hsame⟩ := X4.leave (v := some (.int (0 : Int32))) (fun h => by rw [Bd.returns] at h; cases h)
  refine ⟨_, _, pre0 _ ?_, hrun, hended, _, _, rfl, ?_, ⟨_, rfl⟩, hW, hsame.mono (by decide) (by decide)⟩
  · show Steps pg.tables ee below (s₁.setTop (mkF mm 0 #[.val (.ref a), .val (.ref b)] [])) _
    refine XS.aloadN X0.here hx rfl (hb hby d5_0) rfl rfl ?_
    show Steps pg.tables ee below (s₁.setTop (mkF mm 1 #[.val (.ref a), .val (.ref b)] [(.ref a)])) _
    refine st1 _ ?_
    show Steps pg.tables ee below (T1.setTop (mkF mm 4 #[.val (.ref a), .val (.ref b)] [(.ref x)])) _
    refine XS.aloadN X1.here hx rfl (hb hby d5_4) rfl rfl ?_
    show Steps pg.tables ee below (T1.setTop (mkF mm 5 #[.val (.ref a), .val (.ref b)] [(.ref b), (.ref x)])) _
    refine st2 _ ?_
    show Steps pg.tables ee below (T2.setTop (mkF mm 8 #[.val (.ref a), .val (.ref b)] [(.ref y), (.ref x)])) _
    refine Jvm.RoadKit.acmp (g := (mkF mm 8 #[.val (.ref a), .val (.ref b)] [(.ref y), (.ref x)])) X2 hx rfl rfl rfl (pc0 := 8) (pc' := 11) (same := false) rfl (hb hby d5_8) rfl (decide_eq_false fun q => hxx (Value.ref.inj q)) (by decide) (by decide) ?_
    show Steps pg.tables ee below (T2.setTop (mkF mm 11 #[.val (.ref a), .val (.ref b)] [])) _
    refine XS.aloadN X2.here hx rfl (hb hby d5_11) rfl rfl ?_
    show Steps pg.tables ee below (T2.setTop (mkF mm 12 #[.val (.ref a), .val (.ref b)] [(.ref a)])) _
    refine st3 _ ?_
    show Steps pg.tables ee below (T3.setTop (mkF mm 15 #[.val (.ref a), .val (.ref b)] [(.int p)])) _
    refine XS.aloadN X3.here hx rfl (hb hby d5_15) rfl rfl ?_
    show Steps pg.tables ee below (T3.setTop (mkF mm 16 #[.val (.ref a), .val (.ref b)] [(.ref b), (.int p)])) _
    refine st4 _ ?_
    show Steps pg.tables ee below (T4.setTop (mkF mm 19 #[.val (.ref a), .val (.ref b)] [(.int q), (.int p)])) _
    refine XS.icmpYes X4.here hx rfl (pc0 := 19) (pc' := 26) rfl (hb hby d5_19) rfl (feq hp).2 (by decide) (by decide) ?_
    show Steps pg.tables ee below (T4.setTop (mkF mm 26 #[.val (.ref a), .val (.ref b)] [])) _
    refine XS.iconst X4.here hx rfl (hb hby d5_26) ?_
    show Steps pg.tables ee below (T4.setTop (mkF mm 27 #[.val (.ref a), .val (.ref b)] [(.int (0 : Int32))])) _
    exact retN X4 hx (t := .boolean) Bd.returns (by simp) (hb hby d5_27) hr
  · show QrmMN Z a b p x q y h0 n0 _ T4.heap _
    rw [e4]
    exact ⟨rfl, N0, rfl⟩
theorem pd_58 : parseMethodDescriptor "(I)Lcom/example/chapiteau/chapiteau/circustrain/Animal;" = some ⟨[.int], some (.object "com/example/chapiteau/chapiteau/circustrain/Animal")⟩ := by decide +kernel
theorem pd_59 : parseMethodDescriptor "(ILcom/example/chapiteau/chapiteau/circustrain/Animal;)V" = some ⟨[.int, (.object "com/example/chapiteau/chapiteau/circustrain/Animal")], none⟩ := by decide +kernel
theorem pd_60 : parseMethodDescriptor "(Lcom/example/chapiteau/chapiteau/circustrain/Wagon;)Z" = some ⟨[(.object "com/example/chapiteau/chapiteau/circustrain/Wagon")], some .boolean⟩ := by decide +kernel
theorem ef_0_61 (m : MethodId) (x0 : Int32) (x1 : Int32) (x2 : Int32) (x3 : Int32) : entryFrame m #[(.int x0), (.int x1), (.int x2), (.int x3)] maxLocals = mkF m 0 #[.val (.int x0), .val (.int x1), .val (.int x2), .val (.int x3), .unset, .unset, .unset, .unset, .unset, .unset, .unset, .unset, .unset] [] := by first | (simp [entryFrame, mkF, argsToLocals, Value.category, maxLocals]; done) | rfl
def Qrm0 (Z : State) (p0 : Int32) (p1 : Int32) (p2 : Int32) (p3 : Int32) (A : Int32 → Addr) (h0 : Heap) (n0 : Nat) (v : Option Value) (h : Heap) (L : List Loc) : Prop := v = some (.int (1 : Int32)) ∧ Fr n0 L
set_option maxRecDepth 65536 in
set_option maxHeartbeats 40000000 in
theorem rm0 (l : Launch) (Z : State) (a0 : Array Value) (hw : ∀ d ∈ tables_1, d.before a0 Z = true) (ws : List Jvm.Cond) (p0 : Int32) (p1 : Int32) (p2 : Int32) (p3 : Int32) (A : Int32 → Addr) (h0 : Heap) (n0 : Nat) (O0 : Old Z n0 h0) (S_GIRAFFE : Sta Z Z.heap "com/example/chapiteau/chapiteau/circustrain/Animal" "GIRAFFE" "Lcom/example/chapiteau/chapiteau/circustrain/Animal;" (.ref (A (0 : Int32)))) (S_BEAR : Sta Z Z.heap "com/example/chapiteau/chapiteau/circustrain/Animal" "BEAR" "Lcom/example/chapiteau/chapiteau/circustrain/Animal;" (.ref (A (1 : Int32)))) (S_FISH : Sta Z Z.heap "com/example/chapiteau/chapiteau/circustrain/Animal" "FISH" "Lcom/example/chapiteau/chapiteau/circustrain/Animal;" (.ref (A (2 : Int32)))) (S_TIGER : Sta Z Z.heap "com/example/chapiteau/chapiteau/circustrain/Animal" "TIGER" "Lcom/example/chapiteau/chapiteau/circustrain/Animal;" (.ref (A (3 : Int32)))) (S_TOP : Sta Z Z.heap "com/example/chapiteau/chapiteau/circustrain/Wagon" "TOP_VALUE" "I" (.int (4 : Int32))) (hinj : ∀ i j : Int32, (i = (0 : Int32) ∨ i = (1 : Int32) ∨ i = (2 : Int32) ∨ i = (3 : Int32)) → (j = (0 : Int32) ∨ j = (1 : Int32) ∨ j = (2 : Int32) ∨ j = (3 : Int32)) → A i = A j → i = j) :
    MetFree l x (head1 (Jvm.Cond.code x code maxLocals ret :: ws) room_1) (fun a_ U_ => a_ = #[(.int p0), (.int p1), (.int p2), (.int p3)] ∧ Z.Warmed39 U_.vm ∧ U_.heap = h0) (fun _ _ _ _ _ => True) (fun _ U_ o_ U'_ => ∃ v_ L_, o_ = .returned v_ ∧ Qrm0 Z p0 p1 p2 p3 A h0 n0 v_ U'_.heap L_ ∧ FrameEnd U_ o_ U'_ L_ 2 4) := by
  refine MetFree.of_bodySF (plainFor_of_name pn_41) hisR ?_
  intro pg ee s mm args below meth cc s₁ Bd hml0 hP hK
  obtain ⟨rfl, hZ, hh⟩ := hP
  have hx := Bd.exec
  have hby := Bd.bytes
  have hml : cc.maxLocals = 13 := hml0
  have hown : s.vm.findClass "com/example/chapiteau/chapiteau/circustrain/WagonMatchesPinLaw" = some mm.cls := findClass_of_methodNamed Bd.named
  have hnm := (name_of_methodNamed Bd.named Bd.method).1
  have X0 : Stand pg l ee room_1 s mm #[(.int p0), (.int p1), (.int p2), (.int p3)] below meth cc s₁ [] 0 0 := Stand.of_body Bd
  have e0 : s₁.heap = h0 := by rw [← hh, Bd.state]; rfl
  have N0 := Fr.nil n0
  have K0 : Keep h0 h0 ([] : List Addr) := Keep.refl _ _
  have pre0 : ∀ t, Steps pg.tables ee below (s₁.setTop (mkF mm 0 #[.val (.int p0), .val (.int p1), .val (.int p2), .val (.int p3), .unset, .unset, .unset, .unset, .unset, .unset, .unset, .unset, .unset] [])) t → Steps pg.tables ee below (s₁.setTop (entryFrame mm #[(.int p0), (.int p1), (.int p2), (.int p3)] maxLocals)) t := fun t k => castTop (ef_0_61 mm p0 p1 p2 p3) k
  obtain ⟨T1, h1, X1, e1, E1, A1, D1, -, st1⟩ := newO X0 hx hZ hown (hw _ (List.mem_of_getElem? (i := 0) rfl)) (hw _ (List.mem_of_getElem? (i := 1) rfl)) (hw _ (List.mem_of_getElem? (i := 2) rfl)) e0 (g := (mkF mm 24 #[.val (.int p0), .val (.int p1), .val (.int p2), .val (.int p3), .val (.int ((p0 &&& (3 : Int32)) + (1 : Int32))), .val (.int (p1 &&& (3 : Int32))), .val (.int ((p2 &&& (3 : Int32)) + (1 : Int32))), .val (.int (p3 &&& (3 : Int32))), .unset, .unset, .unset, .unset, .unset] [])) rfl (hb hby at_24) (by decide) (by decide)
  obtain ⟨b1, g1⟩ : ∃ z, z = h0.size := ⟨_, rfl⟩
  rw [← g1] at A1 D1 st1
  have g_b1 : n0 ≤ b1 := Nat.le_trans (O0.1 ▸ O0.2.1) (Nat.le_of_eq g1.symm)
  have sz_b1 : h0.size ≤ b1 := Nat.le_trans K0.1 (Nat.le_of_eq g1.symm)
  have O1 := O0.ext E1
  have KK1 := K0.ext E1
  have F_value_b1 : Fld Z h1 b1 "com/example/chapiteau/chapiteau/circustrain/Wagon" "value" "I" (.int (0 : Int32)) := D1 (Or.inr (hw _ (List.mem_of_getElem? (i := 24) rfl))) (ty := .int) (by decide)
  have F_animal_b1 : Fld Z h1 b1 "com/example/chapiteau/chapiteau/circustrain/Wagon" "animal" "Lcom/example/chapiteau/chapiteau/circustrain/Animal;" .null := D1 (Or.inr (hw _ (List.mem_of_getElem? (i := 26) rfl))) (ty := (.object "com/example/chapiteau/chapiteau/circustrain/Animal")) (by decide)
  obtain ⟨_, _, ⟨T2, L2, k2, n2⟩, -, X2, ⟨Lc2, hQ2, l2, y2, z2⟩, st2⟩ := Jvm.LawKit.callS X1 hx (y := (⟨"com/example/chapiteau/chapiteau/circustrain/WagonMatchesPinLaw", "animal", "(I)Lcom/example/chapiteau/chapiteau/circustrain/Animal;"⟩ : MethodName)) hown (mvT hZ (hw _ (List.mem_of_getElem? (i := 3) rfl))) (mvT hZ (hw _ (List.mem_of_getElem? (i := 4) rfl))) (mvT hZ (hw _ (List.mem_of_getElem? (i := 5) rfl))) (mvT hZ (hw _ (List.mem_of_getElem? (i := 6) rfl))) (by decide) (backOf (W := 3) (rmA l Z a0 hw [] (p1 &&& (3 : Int32)) A h1 n0 O1 S_GIRAFFE S_BEAR S_FISH S_TIGER (own_r p1)) hZ (hw _ (List.mem_of_getElem? (i := 6) rfl)) (hw _ (List.mem_of_getElem? (i := 5) rfl)) (by decide) (by decide)) (g := (mkF mm 32 #[.val (.int p0), .val (.int p1), .val (.int p2), .val (.int p3), .val (.int ((p0 &&& (3 : Int32)) + (1 : Int32))), .val (.int (p1 &&& (3 : Int32))), .val (.int ((p2 &&& (3 : Int32)) + (1 : Int32))), .val (.int (p3 &&& (3 : Int32))), .unset, .unset, .unset, .unset, .unset] [(.int (p1 &&& (3 : Int32))), (.int ((p0 &&& (3 : Int32)) + (1 : Int32))), (.ref b1), (.ref b1)])) rfl (by rw [hml]; rfl) (argsL := [(.int (p1 &&& (3 : Int32)))]) (rest := [(.int ((p0 &&& (3 : Int32)) + (1 : Int32))), (.ref b1), (.ref b1)]) (lenOf pd_58 rfl) rfl (by show 2 * 0 + _ ≤ _; exact Nat.le_of_eq rfl) (hb hby at_32) (fun _ _ => ⟨rfl, e1, (by decide : 1 + 0 ≤ _), (by decide : 2 + 0 ≤ _)⟩)
  dsimp only [Pt.U, Pt.locs, Pt.cells, Pt.slots] at X2 l2 y2 z2 st2 hQ2
  subst l2 y2 z2
  obtain ⟨rfl, N2q, e2⟩ := hQ2
  have N2 := Fr.app N0 N2q
  obtain ⟨_, _, ⟨T3, L3, k3, n3⟩, -, X3, ⟨Lc3, hQ3, l3, y3, z3⟩, st3⟩ := X2.specialBack hx (y := (⟨"com/example/chapiteau/chapiteau/circustrain/Wagon", "<init>", "(ILcom/example/chapiteau/chapiteau/circustrain/Animal;)V"⟩ : MethodName)) rfl hown (mvT hZ (hw _ (List.mem_of_getElem? (i := 10) rfl))) (mvT hZ (hw _ (List.mem_of_getElem? (i := 11) rfl))) (mvT hZ (hw _ (List.mem_of_getElem? (i := 12) rfl))) (by decide) (backOf (W := 1) (rmI l Z a0 hw [] b1 ((p0 &&& (3 : Int32)) + (1 : Int32)) (A (p1 &&& (3 : Int32))) h1 n0 O1 A1 F_value_b1 F_animal_b1 g_b1 (own_lo p0) (own_hi p0) S_TOP) hZ (hw _ (List.mem_of_getElem? (i := 12) rfl)) (hw _ (List.mem_of_getElem? (i := 2) rfl)) (by decide) (by decide)) (g := (mkF mm 35 #[.val (.int p0), .val (.int p1), .val (.int p2), .val (.int p3), .val (.int ((p0 &&& (3 : Int32)) + (1 : Int32))), .val (.int (p1 &&& (3 : Int32))), .val (.int ((p2 &&& (3 : Int32)) + (1 : Int32))), .val (.int (p3 &&& (3 : Int32))), .unset, .unset, .unset, .unset, .unset] [(.ref (A (p1 &&& (3 : Int32)))), (.int ((p0 &&& (3 : Int32)) + (1 : Int32))), (.ref b1), (.ref b1)])) rfl (by rw [hml]; rfl) (Steps.refl _) (a := b1) (argsL := [(.int ((p0 &&& (3 : Int32)) + (1 : Int32))), (.ref (A (p1 &&& (3 : Int32))))]) (rest := [(.ref b1)]) (lenOf pd_59 rfl) rfl (by show 2 * 0 + _ ≤ _; exact Nat.le_of_eq rfl) (hb hby at_35) (fun _ _ => ⟨rfl, e2, (by decide : 1 + 0 ≤ _), (by decide : 2 + 0 ≤ _)⟩)
  dsimp only [Pt.U, Pt.locs, Pt.cells, Pt.slots] at X3 l3 y3 z3 st3 hQ3
  subst l3 y3 z3
  obtain ⟨rfl, N3q, K3, Ex3, Fv0_3, Fv1_3⟩ := hQ3
  have O3 := O1.keep K3 (allS g_b1 all0)
  have KK3 := KK1.trans K3 (allS (Or.inr sz_b1) all0)
  have N3 := Fr.app N2 N3q
  obtain ⟨T4, h4, X4, e4, E4, A4, D4, -, st4⟩ := newO X3 hx hZ hown (hw _ (List.mem_of_getElem? (i := 0) rfl)) (hw _ (List.mem_of_getElem? (i := 1) rfl)) (hw _ (List.mem_of_getElem? (i := 2) rfl)) rfl (g := (mkF mm 40 #[.val (.int p0), .val (.int p1), .val (.int p2), .val (.int p3), .val (.int ((p0 &&& (3 : Int32)) + (1 : Int32))), .val (.int (p1 &&& (3 : Int32))), .val (.int ((p2 &&& (3 : Int32)) + (1 : Int32))), .val (.int (p3 &&& (3 : Int32))), .val (.ref b1), .unset, .unset, .unset, .unset] [])) rfl (hb hby at_40) (by decide) (by decide)
  obtain ⟨b4, g4⟩ : ∃ z, z = T3.heap.size := ⟨_, rfl⟩
  rw [← g4] at A4 D4 st4
  have g_b4 : n0 ≤ b4 := Nat.le_trans (O3.1 ▸ O3.2.1) (Nat.le_of_eq g4.symm)
  have sz_b4 : h0.size ≤ b4 := Nat.le_trans KK3.1 (Nat.le_of_eq g4.symm)
  have O4 := O3.ext E4
  have KK4 := KK3.ext E4
  have F_value_b4 : Fld Z h4 b4 "com/example/chapiteau/chapiteau/circustrain/Wagon" "value" "I" (.int (0 : Int32)) := D4 (Or.inr (hw _ (List.mem_of_getElem? (i := 24) rfl))) (ty := .int) (by decide)
  have F_animal_b4 : Fld Z h4 b4 "com/example/chapiteau/chapiteau/circustrain/Wagon" "animal" "Lcom/example/chapiteau/chapiteau/circustrain/Animal;" .null := D4 (Or.inr (hw _ (List.mem_of_getElem? (i := 26) rfl))) (ty := (.object "com/example/chapiteau/chapiteau/circustrain/Animal")) (by decide)
  obtain ⟨_, _, ⟨T5, L5, k5, n5⟩, -, X5, ⟨Lc5, hQ5, l5, y5, z5⟩, st5⟩ := Jvm.LawKit.callS X4 hx (y := (⟨"com/example/chapiteau/chapiteau/circustrain/WagonMatchesPinLaw", "animal", "(I)Lcom/example/chapiteau/chapiteau/circustrain/Animal;"⟩ : MethodName)) hown (mvT hZ (hw _ (List.mem_of_getElem? (i := 3) rfl))) (mvT hZ (hw _ (List.mem_of_getElem? (i := 4) rfl))) (mvT hZ (hw _ (List.mem_of_getElem? (i := 5) rfl))) (mvT hZ (hw _ (List.mem_of_getElem? (i := 6) rfl))) (by decide) (backOf (W := 3) (rmA l Z a0 hw [] (p3 &&& (3 : Int32)) A h4 n0 O4 S_GIRAFFE S_BEAR S_FISH S_TIGER (own_r p3)) hZ (hw _ (List.mem_of_getElem? (i := 6) rfl)) (hw _ (List.mem_of_getElem? (i := 5) rfl)) (by decide) (by decide)) (g := (mkF mm 48 #[.val (.int p0), .val (.int p1), .val (.int p2), .val (.int p3), .val (.int ((p0 &&& (3 : Int32)) + (1 : Int32))), .val (.int (p1 &&& (3 : Int32))), .val (.int ((p2 &&& (3 : Int32)) + (1 : Int32))), .val (.int (p3 &&& (3 : Int32))), .val (.ref b1), .unset, .unset, .unset, .unset] [(.int (p3 &&& (3 : Int32))), (.int ((p2 &&& (3 : Int32)) + (1 : Int32))), (.ref b4), (.ref b4)])) rfl (by rw [hml]; rfl) (argsL := [(.int (p3 &&& (3 : Int32)))]) (rest := [(.int ((p2 &&& (3 : Int32)) + (1 : Int32))), (.ref b4), (.ref b4)]) (lenOf pd_58 rfl) rfl (by show 2 * 0 + _ ≤ _; exact Nat.le_of_eq rfl) (hb hby at_48) (fun _ _ => ⟨rfl, e4, (by decide : 2 + 0 ≤ _), (by decide : 4 + 0 ≤ _)⟩)
  dsimp only [Pt.U, Pt.locs, Pt.cells, Pt.slots] at X5 l5 y5 z5 st5 hQ5
  subst l5 y5 z5
  obtain ⟨rfl, N5q, e5⟩ := hQ5
  have N5 := Fr.app N3 N5q
  obtain ⟨_, _, ⟨T6, L6, k6, n6⟩, -, X6, ⟨Lc6, hQ6, l6, y6, z6⟩, st6⟩ := X5.specialBack hx (y := (⟨"com/example/chapiteau/chapiteau/circustrain/Wagon", "<init>", "(ILcom/example/chapiteau/chapiteau/circustrain/Animal;)V"⟩ : MethodName)) rfl hown (mvT hZ (hw _ (List.mem_of_getElem? (i := 10) rfl))) (mvT hZ (hw _ (List.mem_of_getElem? (i := 11) rfl))) (mvT hZ (hw _ (List.mem_of_getElem? (i := 12) rfl))) (by decide) (backOf (W := 1) (rmI l Z a0 hw [] b4 ((p2 &&& (3 : Int32)) + (1 : Int32)) (A (p3 &&& (3 : Int32))) h4 n0 O4 A4 F_value_b4 F_animal_b4 g_b4 (own_lo p2) (own_hi p2) S_TOP) hZ (hw _ (List.mem_of_getElem? (i := 12) rfl)) (hw _ (List.mem_of_getElem? (i := 2) rfl)) (by decide) (by decide)) (g := (mkF mm 51 #[.val (.int p0), .val (.int p1), .val (.int p2), .val (.int p3), .val (.int ((p0 &&& (3 : Int32)) + (1 : Int32))), .val (.int (p1 &&& (3 : Int32))), .val (.int ((p2 &&& (3 : Int32)) + (1 : Int32))), .val (.int (p3 &&& (3 : Int32))), .val (.ref b1), .unset, .unset, .unset, .unset] [(.ref (A (p3 &&& (3 : Int32)))), (.int ((p2 &&& (3 : Int32)) + (1 : Int32))), (.ref b4), (.ref b4)])) rfl (by rw [hml]; rfl) (Steps.refl _) (a := b4) (argsL := [(.int ((p2 &&& (3 : Int32)) + (1 : Int32))), (.ref (A (p3 &&& (3 : Int32))))]) (rest := [(.ref b4)]) (lenOf pd_59 rfl) rfl (by show 2 * 0 + _ ≤ _; exact Nat.le_of_eq rfl) (hb hby at_51) (fun _ _ => ⟨rfl, e5, (by decide : 2 + 0 ≤ _), (by decide : 4 + 0 ≤ _)⟩)
  dsimp only [Pt.U, Pt.locs, Pt.cells, Pt.slots] at X6 l6 y6 z6 st6 hQ6
  subst l6 y6 z6
  obtain ⟨rfl, N6q, K6, Ex6, Fv0_6, Fv1_6⟩ := hQ6
  have O6 := O4.keep K6 (allS g_b4 all0)
  have KK6 := KK4.trans K6 (allS (Or.inr sz_b4) all0)
  have N6 := Fr.app N5 N6q
  have pre7 : ∀ t, Steps pg.tables ee below (T6.setTop (mkF mm 60 #[.val (.int p0), .val (.int p1), .val (.int p2), .val (.int p3), .val (.int ((p0 &&& (3 : Int32)) + (1 : Int32))), .val (.int (p1 &&& (3 : Int32))), .val (.int ((p2 &&& (3 : Int32)) + (1 : Int32))), .val (.int (p3 &&& (3 : Int32))), .val (.ref b1), .val (.ref b4), .unset, .unset, .unset] [(.int (p3 &&& (3 : Int32))), (.int (p1 &&& (3 : Int32)))])) t → Steps pg.tables ee below (s₁.setTop (entryFrame mm #[(.int p0), (.int p1), (.int p2), (.int p3)] maxLocals)) t := fun t k => pre0 t (by
      show Steps pg.tables ee below (s₁.setTop (mkF mm 0 #[.val (.int p0), .val (.int p1), .val (.int p2), .val (.int p3), .unset, .unset, .unset, .unset, .unset, .unset, .unset, .unset, .unset] [])) _
      refine XS.iloadN X0.here hx rfl (hb hby at_0) rfl ?_
      show Steps pg.tables ee below (s₁.setTop (mkF mm 1 #[.val (.int p0), .val (.int p1), .val (.int p2), .val (.int p3), .unset, .unset, .unset, .unset, .unset, .unset, .unset, .unset, .unset] [(.int p0)])) _
      refine XS.iconst X0.here hx rfl (hb hby at_1) ?_
      show Steps pg.tables ee below (s₁.setTop (mkF mm 2 #[.val (.int p0), .val (.int p1), .val (.int p2), .val (.int p3), .unset, .unset, .unset, .unset, .unset, .unset, .unset, .unset, .unset] [(.int (3 : Int32)), (.int p0)])) _
      refine XS.iand X0.here hx rfl (hb hby at_2) rfl ?_
      show Steps pg.tables ee below (s₁.setTop (mkF mm 3 #[.val (.int p0), .val (.int p1), .val (.int p2), .val (.int p3), .unset, .unset, .unset, .unset, .unset, .unset, .unset, .unset, .unset] [(.int (p0 &&& (3 : Int32)))])) _
      refine XS.iconst X0.here hx rfl (hb hby at_3) ?_
      show Steps pg.tables ee below (s₁.setTop (mkF mm 4 #[.val (.int p0), .val (.int p1), .val (.int p2), .val (.int p3), .unset, .unset, .unset, .unset, .unset, .unset, .unset, .unset, .unset] [(.int (1 : Int32)), (.int (p0 &&& (3 : Int32)))])) _
      refine XS.iadd X0.here hx rfl (hb hby at_4) rfl ?_
      show Steps pg.tables ee below (s₁.setTop (mkF mm 5 #[.val (.int p0), .val (.int p1), .val (.int p2), .val (.int p3), .unset, .unset, .unset, .unset, .unset, .unset, .unset, .unset, .unset] [(.int ((p0 &&& (3 : Int32)) + (1 : Int32)))])) _
      refine XS.istore X0.here hx rfl (hb hby at_5) rfl (l' := #[.val (.int p0), .val (.int p1), .val (.int p2), .val (.int p3), .val (.int ((p0 &&& (3 : Int32)) + (1 : Int32))), .unset, .unset, .unset, .unset, .unset, .unset, .unset, .unset]) rfl ?_
      show Steps pg.tables ee below (s₁.setTop (mkF mm 7 #[.val (.int p0), .val (.int p1), .val (.int p2), .val (.int p3), .val (.int ((p0 &&& (3 : Int32)) + (1 : Int32))), .unset, .unset, .unset, .unset, .unset, .unset, .unset, .unset] [])) _
      refine XS.iloadN X0.here hx rfl (hb hby at_7) rfl ?_
      show Steps pg.tables ee below (s₁.setTop (mkF mm 8 #[.val (.int p0), .val (.int p1), .val (.int p2), .val (.int p3), .val (.int ((p0 &&& (3 : Int32)) + (1 : Int32))), .unset, .unset, .unset, .unset, .unset, .unset, .unset, .unset] [(.int p1)])) _
      refine XS.iconst X0.here hx rfl (hb hby at_8) ?_
      show Steps pg.tables ee below (s₁.setTop (mkF mm 9 #[.val (.int p0), .val (.int p1), .val (.int p2), .val (.int p3), .val (.int ((p0 &&& (3 : Int32)) + (1 : Int32))), .unset, .unset, .unset, .unset, .unset, .unset, .unset, .unset] [(.int (3 : Int32)), (.int p1)])) _
      refine XS.iand X0.here hx rfl (hb hby at_9) rfl ?_
      show Steps pg.tables ee below (s₁.setTop (mkF mm 10 #[.val (.int p0), .val (.int p1), .val (.int p2), .val (.int p3), .val (.int ((p0 &&& (3 : Int32)) + (1 : Int32))), .unset, .unset, .unset, .unset, .unset, .unset, .unset, .unset] [(.int (p1 &&& (3 : Int32)))])) _
      refine XS.istore X0.here hx rfl (hb hby at_10) rfl (l' := #[.val (.int p0), .val (.int p1), .val (.int p2), .val (.int p3), .val (.int ((p0 &&& (3 : Int32)) + (1 : Int32))), .val (.int (p1 &&& (3 : Int32))), .unset, .unset, .unset, .unset, .unset, .unset, .unset]) rfl ?_
      show Steps pg.tables ee below (s₁.setTop (mkF mm 12 #[.val (.int p0), .val (.int p1), .val (.int p2), .val (.int p3), .val (.int ((p0 &&& (3 : Int32)) + (1 : Int32))), .val (.int (p1 &&& (3 : Int32))), .unset, .unset, .unset, .unset, .unset, .unset, .unset] [])) _
      refine XS.iloadN X0.here hx rfl (hb hby at_12) rfl ?_
      show Steps pg.tables ee below (s₁.setTop (mkF mm 13 #[.val (.int p0), .val (.int p1), .val (.int p2), .val (.int p3), .val (.int ((p0 &&& (3 : Int32)) + (1 : Int32))), .val (.int (p1 &&& (3 : Int32))), .unset, .unset, .unset, .unset, .unset, .unset, .unset] [(.int p2)])) _
      refine XS.iconst X0.here hx rfl (hb hby at_13) ?_
      show Steps pg.tables ee below (s₁.setTop (mkF mm 14 #[.val (.int p0), .val (.int p1), .val (.int p2), .val (.int p3), .val (.int ((p0 &&& (3 : Int32)) + (1 : Int32))), .val (.int (p1 &&& (3 : Int32))), .unset, .unset, .unset, .unset, .unset, .unset, .unset] [(.int (3 : Int32)), (.int p2)])) _
      refine XS.iand X0.here hx rfl (hb hby at_14) rfl ?_
      show Steps pg.tables ee below (s₁.setTop (mkF mm 15 #[.val (.int p0), .val (.int p1), .val (.int p2), .val (.int p3), .val (.int ((p0 &&& (3 : Int32)) + (1 : Int32))), .val (.int (p1 &&& (3 : Int32))), .unset, .unset, .unset, .unset, .unset, .unset, .unset] [(.int (p2 &&& (3 : Int32)))])) _
      refine XS.iconst X0.here hx rfl (hb hby at_15) ?_
      show Steps pg.tables ee below (s₁.setTop (mkF mm 16 #[.val (.int p0), .val (.int p1), .val (.int p2), .val (.int p3), .val (.int ((p0 &&& (3 : Int32)) + (1 : Int32))), .val (.int (p1 &&& (3 : Int32))), .unset, .unset, .unset, .unset, .unset, .unset, .unset] [(.int (1 : Int32)), (.int (p2 &&& (3 : Int32)))])) _
      refine XS.iadd X0.here hx rfl (hb hby at_16) rfl ?_
      show Steps pg.tables ee below (s₁.setTop (mkF mm 17 #[.val (.int p0), .val (.int p1), .val (.int p2), .val (.int p3), .val (.int ((p0 &&& (3 : Int32)) + (1 : Int32))), .val (.int (p1 &&& (3 : Int32))), .unset, .unset, .unset, .unset, .unset, .unset, .unset] [(.int ((p2 &&& (3 : Int32)) + (1 : Int32)))])) _
      refine XS.istore X0.here hx rfl (hb hby at_17) rfl (l' := #[.val (.int p0), .val (.int p1), .val (.int p2), .val (.int p3), .val (.int ((p0 &&& (3 : Int32)) + (1 : Int32))), .val (.int (p1 &&& (3 : Int32))), .val (.int ((p2 &&& (3 : Int32)) + (1 : Int32))), .unset, .unset, .unset, .unset, .unset, .unset]) rfl ?_
      show Steps pg.tables ee below (s₁.setTop (mkF mm 19 #[.val (.int p0), .val (.int p1), .val (.int p2), .val (.int p3), .val (.int ((p0 &&& (3 : Int32)) + (1 : Int32))), .val (.int (p1 &&& (3 : Int32))), .val (.int ((p2 &&& (3 : Int32)) + (1 : Int32))), .unset, .unset, .unset, .unset, .unset, .unset] [])) _
      refine XS.iloadN X0.here hx rfl (hb hby at_19) rfl ?_
      show Steps pg.tables ee below (s₁.setTop (mkF mm 20 #[.val (.int p0), .val (.int p1), .val (.int p2), .val (.int p3), .val (.int ((p0 &&& (3 : Int32)) + (1 : Int32))), .val (.int (p1 &&& (3 : Int32))), .val (.int ((p2 &&& (3 : Int32)) + (1 : Int32))), .unset, .unset, .unset, .unset, .unset, .unset] [(.int p3)])) _
      refine XS.iconst X0.here hx rfl (hb hby at_20) ?_
      show Steps pg.tables ee below (s₁.setTop (mkF mm 21 #[.val (.int p0), .val (.int p1), .val (.int p2), .val (.int p3), .val (.int ((p0 &&& (3 : Int32)) + (1 : Int32))), .val (.int (p1 &&& (3 : Int32))), .val (.int ((p2 &&& (3 : Int32)) + (1 : Int32))), .unset, .unset, .unset, .unset, .unset, .unset] [(.int (3 : Int32)), (.int p3)])) _
      refine XS.iand X0.here hx rfl (hb hby at_21) rfl ?_
      show Steps pg.tables ee below (s₁.setTop (mkF mm 22 #[.val (.int p0), .val (.int p1), .val (.int p2), .val (.int p3), .val (.int ((p0 &&& (3 : Int32)) + (1 : Int32))), .val (.int (p1 &&& (3 : Int32))), .val (.int ((p2 &&& (3 : Int32)) + (1 : Int32))), .unset, .unset, .unset, .unset, .unset, .unset] [(.int (p3 &&& (3 : Int32)))])) _
      refine XS.istore X0.here hx rfl (hb hby at_22) rfl (l' := #[.val (.int p0), .val (.int p1), .val (.int p2), .val (.int p3), .val (.int ((p0 &&& (3 : Int32)) + (1 : Int32))), .val (.int (p1 &&& (3 : Int32))), .val (.int ((p2 &&& (3 : Int32)) + (1 : Int32))), .val (.int (p3 &&& (3 : Int32))), .unset, .unset, .unset, .unset, .unset]) rfl ?_
      show Steps pg.tables ee below (s₁.setTop (mkF mm 24 #[.val (.int p0), .val (.int p1), .val (.int p2), .val (.int p3), .val (.int ((p0 &&& (3 : Int32)) + (1 : Int32))), .val (.int (p1 &&& (3 : Int32))), .val (.int ((p2 &&& (3 : Int32)) + (1 : Int32))), .val (.int (p3 &&& (3 : Int32))), .unset, .unset, .unset, .unset, .unset] [])) _
      refine st1 _ ?_
      show Steps pg.tables ee below (T1.setTop (mkF mm 27 #[.val (.int p0), .val (.int p1), .val (.int p2), .val (.int p3), .val (.int ((p0 &&& (3 : Int32)) + (1 : Int32))), .val (.int (p1 &&& (3 : Int32))), .val (.int ((p2 &&& (3 : Int32)) + (1 : Int32))), .val (.int (p3 &&& (3 : Int32))), .unset, .unset, .unset, .unset, .unset] [(.ref b1)])) _
      refine XS.dup X1.here hx rfl (hb hby at_27) rfl rfl ?_
      show Steps pg.tables ee below (T1.setTop (mkF mm 28 #[.val (.int p0), .val (.int p1), .val (.int p2), .val (.int p3), .val (.int ((p0 &&& (3 : Int32)) + (1 : Int32))), .val (.int (p1 &&& (3 : Int32))), .val (.int ((p2 &&& (3 : Int32)) + (1 : Int32))), .val (.int (p3 &&& (3 : Int32))), .unset, .unset, .unset, .unset, .unset] [(.ref b1), (.ref b1)])) _
      refine XS.iload X1.here hx rfl (hb hby at_28) rfl ?_
      show Steps pg.tables ee below (T1.setTop (mkF mm 30 #[.val (.int p0), .val (.int p1), .val (.int p2), .val (.int p3), .val (.int ((p0 &&& (3 : Int32)) + (1 : Int32))), .val (.int (p1 &&& (3 : Int32))), .val (.int ((p2 &&& (3 : Int32)) + (1 : Int32))), .val (.int (p3 &&& (3 : Int32))), .unset, .unset, .unset, .unset, .unset] [(.int ((p0 &&& (3 : Int32)) + (1 : Int32))), (.ref b1), (.ref b1)])) _
      refine XS.iload X1.here hx rfl (hb hby at_30) rfl ?_
      show Steps pg.tables ee below (T1.setTop (mkF mm 32 #[.val (.int p0), .val (.int p1), .val (.int p2), .val (.int p3), .val (.int ((p0 &&& (3 : Int32)) + (1 : Int32))), .val (.int (p1 &&& (3 : Int32))), .val (.int ((p2 &&& (3 : Int32)) + (1 : Int32))), .val (.int (p3 &&& (3 : Int32))), .unset, .unset, .unset, .unset, .unset] [(.int (p1 &&& (3 : Int32))), (.int ((p0 &&& (3 : Int32)) + (1 : Int32))), (.ref b1), (.ref b1)])) _
      refine st2 _ ?_
      show Steps pg.tables ee below (T2.setTop (mkF mm 35 #[.val (.int p0), .val (.int p1), .val (.int p2), .val (.int p3), .val (.int ((p0 &&& (3 : Int32)) + (1 : Int32))), .val (.int (p1 &&& (3 : Int32))), .val (.int ((p2 &&& (3 : Int32)) + (1 : Int32))), .val (.int (p3 &&& (3 : Int32))), .unset, .unset, .unset, .unset, .unset] [(.ref (A (p1 &&& (3 : Int32)))), (.int ((p0 &&& (3 : Int32)) + (1 : Int32))), (.ref b1), (.ref b1)])) _
      refine st3.trans ?_
      show Steps pg.tables ee below (T3.setTop (mkF mm 38 #[.val (.int p0), .val (.int p1), .val (.int p2), .val (.int p3), .val (.int ((p0 &&& (3 : Int32)) + (1 : Int32))), .val (.int (p1 &&& (3 : Int32))), .val (.int ((p2 &&& (3 : Int32)) + (1 : Int32))), .val (.int (p3 &&& (3 : Int32))), .unset, .unset, .unset, .unset, .unset] [(.ref b1)])) _
      refine XS.astore X3.here hx rfl (hb hby at_38) rfl rfl (l' := #[.val (.int p0), .val (.int p1), .val (.int p2), .val (.int p3), .val (.int ((p0 &&& (3 : Int32)) + (1 : Int32))), .val (.int (p1 &&& (3 : Int32))), .val (.int ((p2 &&& (3 : Int32)) + (1 : Int32))), .val (.int (p3 &&& (3 : Int32))), .val (.ref b1), .unset, .unset, .unset, .unset]) rfl ?_
      show Steps pg.tables ee below (T3.setTop (mkF mm 40 #[.val (.int p0), .val (.int p1), .val (.int p2), .val (.int p3), .val (.int ((p0 &&& (3 : Int32)) + (1 : Int32))), .val (.int (p1 &&& (3 : Int32))), .val (.int ((p2 &&& (3 : Int32)) + (1 : Int32))), .val (.int (p3 &&& (3 : Int32))), .val (.ref b1), .unset, .unset, .unset, .unset] [])) _
      refine st4 _ ?_
      show Steps pg.tables ee below (T4.setTop (mkF mm 43 #[.val (.int p0), .val (.int p1), .val (.int p2), .val (.int p3), .val (.int ((p0 &&& (3 : Int32)) + (1 : Int32))), .val (.int (p1 &&& (3 : Int32))), .val (.int ((p2 &&& (3 : Int32)) + (1 : Int32))), .val (.int (p3 &&& (3 : Int32))), .val (.ref b1), .unset, .unset, .unset, .unset] [(.ref b4)])) _
      refine XS.dup X4.here hx rfl (hb hby at_43) rfl rfl ?_
      show Steps pg.tables ee below (T4.setTop (mkF mm 44 #[.val (.int p0), .val (.int p1), .val (.int p2), .val (.int p3), .val (.int ((p0 &&& (3 : Int32)) + (1 : Int32))), .val (.int (p1 &&& (3 : Int32))), .val (.int ((p2 &&& (3 : Int32)) + (1 : Int32))), .val (.int (p3 &&& (3 : Int32))), .val (.ref b1), .unset, .unset, .unset, .unset] [(.ref b4), (.ref b4)])) _
      refine XS.iload X4.here hx rfl (hb hby at_44) rfl ?_
      show Steps pg.tables ee below (T4.setTop (mkF mm 46 #[.val (.int p0), .val (.int p1), .val (.int p2), .val (.int p3), .val (.int ((p0 &&& (3 : Int32)) + (1 : Int32))), .val (.int (p1 &&& (3 : Int32))), .val (.int ((p2 &&& (3 : Int32)) + (1 : Int32))), .val (.int (p3 &&& (3 : Int32))), .val (.ref b1), .unset, .unset, .unset, .unset] [(.int ((p2 &&& (3 : Int32)) + (1 : Int32))), (.ref b4), (.ref b4)])) _
      refine XS.iload X4.here hx rfl (hb hby at_46) rfl ?_
      show Steps pg.tables ee below (T4.setTop (mkF mm 48 #[.val (.int p0), .val (.int p1), .val (.int p2), .val (.int p3), .val (.int ((p0 &&& (3 : Int32)) + (1 : Int32))), .val (.int (p1 &&& (3 : Int32))), .val (.int ((p2 &&& (3 : Int32)) + (1 : Int32))), .val (.int (p3 &&& (3 : Int32))), .val (.ref b1), .unset, .unset, .unset, .unset] [(.int (p3 &&& (3 : Int32))), (.int ((p2 &&& (3 : Int32)) + (1 : Int32))), (.ref b4), (.ref b4)])) _
      refine st5 _ ?_
      show Steps pg.tables ee below (T5.setTop (mkF mm 51 #[.val (.int p0), .val (.int p1), .val (.int p2), .val (.int p3), .val (.int ((p0 &&& (3 : Int32)) + (1 : Int32))), .val (.int (p1 &&& (3 : Int32))), .val (.int ((p2 &&& (3 : Int32)) + (1 : Int32))), .val (.int (p3 &&& (3 : Int32))), .val (.ref b1), .unset, .unset, .unset, .unset] [(.ref (A (p3 &&& (3 : Int32)))), (.int ((p2 &&& (3 : Int32)) + (1 : Int32))), (.ref b4), (.ref b4)])) _
      refine st6.trans ?_
      show Steps pg.tables ee below (T6.setTop (mkF mm 54 #[.val (.int p0), .val (.int p1), .val (.int p2), .val (.int p3), .val (.int ((p0 &&& (3 : Int32)) + (1 : Int32))), .val (.int (p1 &&& (3 : Int32))), .val (.int ((p2 &&& (3 : Int32)) + (1 : Int32))), .val (.int (p3 &&& (3 : Int32))), .val (.ref b1), .unset, .unset, .unset, .unset] [(.ref b4)])) _
      refine XS.astore X6.here hx rfl (hb hby at_54) rfl rfl (l' := #[.val (.int p0), .val (.int p1), .val (.int p2), .val (.int p3), .val (.int ((p0 &&& (3 : Int32)) + (1 : Int32))), .val (.int (p1 &&& (3 : Int32))), .val (.int ((p2 &&& (3 : Int32)) + (1 : Int32))), .val (.int (p3 &&& (3 : Int32))), .val (.ref b1), .val (.ref b4), .unset, .unset, .unset]) rfl ?_
      show Steps pg.tables ee below (T6.setTop (mkF mm 56 #[.val (.int p0), .val (.int p1), .val (.int p2), .val (.int p3), .val (.int ((p0 &&& (3 : Int32)) + (1 : Int32))), .val (.int (p1 &&& (3 : Int32))), .val (.int ((p2 &&& (3 : Int32)) + (1 : Int32))), .val (.int (p3 &&& (3 : Int32))), .val (.ref b1), .val (.ref b4), .unset, .unset, .unset] [])) _
      refine XS.iload X6.here hx rfl (hb hby at_56) rfl ?_
      show Steps pg.tables ee below (T6.setTop (mkF mm 58 #[.val (.int p0), .val (.int p1), .val (.int p2), .val (.int p3), .val (.int ((p0 &&& (3 : Int32)) + (1 : Int32))), .val (.int (p1 &&& (3 : Int32))), .val (.int ((p2 &&& (3 : Int32)) + (1 : Int32))), .val (.int (p3 &&& (3 : Int32))), .val (.ref b1), .val (.ref b4), .unset, .unset, .unset] [(.int (p1 &&& (3 : Int32)))])) _
      refine XS.iload X6.here hx rfl (hb hby at_58) rfl ?_
      exact k)
  by_cases hc8 : (p1 &&& (3 : Int32)) = (p3 &&& (3 : Int32))
  · obtain ⟨cq9, kq9, q9a, q9b, q9c⟩ := isOf hZ rfl ((Ex3.ext E4).keep K6)
    obtain ⟨_, _, ⟨T9, L9, k9, n9⟩, -, X9, ⟨Lc9, hQ9, l9, y9, z9⟩, st9⟩ := X6.virtualBack hx (y := (⟨"com/example/chapiteau/chapiteau/circustrain/Wagon", "matches", "(Lcom/example/chapiteau/chapiteau/circustrain/Wagon;)Z"⟩ : MethodName)) (z := (⟨"com/example/chapiteau/chapiteau/circustrain/Wagon", "matches", "(Lcom/example/chapiteau/chapiteau/circustrain/Wagon;)Z"⟩ : MethodName)) hown (mvT hZ (hw _ (List.mem_of_getElem? (i := 29) rfl))) (mvT hZ (hw _ (List.mem_of_getElem? (i := 30) rfl))) (notFace_of_selects (args := #[]) (mvT hZ (hw _ (List.mem_of_getElem? (i := 32) rfl)))) (mvT hZ (hw _ (List.mem_of_getElem? (i := 32) rfl))) (mvT hZ (hw _ (List.mem_of_getElem? (i := 31) rfl))) (by decide) (backOf (W := 0) (rmMA l Z a0 hw [] b1 b4 ((p0 &&& (3 : Int32)) + (1 : Int32)) (A (p1 &&& (3 : Int32))) ((p2 &&& (3 : Int32)) + (1 : Int32)) (A (p3 &&& (3 : Int32))) T6.heap n0 O6 ((Fv0_3.ext E4).keep K6 (ninS (Nat.ne_of_lt (Nat.lt_of_lt_of_le Ex3.lt (Nat.le_of_eq g4.symm))) nin0)) ((Fv1_3.ext E4).keep K6 (ninS (Nat.ne_of_lt (Nat.lt_of_lt_of_le Ex3.lt (Nat.le_of_eq g4.symm))) nin0)) Fv0_6 Fv1_6 (congrArg A hc8)) hZ (hw _ (List.mem_of_getElem? (i := 33) rfl)) (hw _ (List.mem_of_getElem? (i := 2) rfl)) (by decide) (by decide)) q9a q9c (g := (mkF mm 81 #[.val (.int p0), .val (.int p1), .val (.int p2), .val (.int p3), .val (.int ((p0 &&& (3 : Int32)) + (1 : Int32))), .val (.int (p1 &&& (3 : Int32))), .val (.int ((p2 &&& (3 : Int32)) + (1 : Int32))), .val (.int (p3 &&& (3 : Int32))), .val (.ref b1), .val (.ref b4), .val (.int (1 : Int32)), .unset, .unset] [(.ref b4), (.ref b1)])) rfl (by rw [hml]; rfl) (Steps.refl _) (argsL := [(.ref b4)]) (rest := []) (lenOf pd_60 rfl) rfl (by show 2 * 0 + _ ≤ _; exact Nat.le_of_eq rfl) (hb hby at_81) (fun _ _ => ⟨rfl, rfl, (by decide : 2 + 0 ≤ _), (by decide : 4 + 0 ≤ _)⟩)
    dsimp only [Pt.U, Pt.locs, Pt.cells, Pt.slots] at X9 l9 y9 z9 st9 hQ9
    subst l9 y9 z9
    obtain ⟨rfl, N9q, e9⟩ := hQ9
    have N9 := Fr.app N6 N9q
    obtain ⟨cq10, kq10, q10a, q10b, q10c⟩ := isOf hZ e9 Ex6
    obtain ⟨_, _, ⟨T10, L10, k10, n10⟩, -, X10, ⟨Lc10, hQ10, l10, y10, z10⟩, st10⟩ := X9.virtualBack hx (y := (⟨"com/example/chapiteau/chapiteau/circustrain/Wagon", "matches", "(Lcom/example/chapiteau/chapiteau/circustrain/Wagon;)Z"⟩ : MethodName)) (z := (⟨"com/example/chapiteau/chapiteau/circustrain/Wagon", "matches", "(Lcom/example/chapiteau/chapiteau/circustrain/Wagon;)Z"⟩ : MethodName)) hown (mvT hZ (hw _ (List.mem_of_getElem? (i := 29) rfl))) (mvT hZ (hw _ (List.mem_of_getElem? (i := 30) rfl))) (notFace_of_selects (args := #[]) (mvT hZ (hw _ (List.mem_of_getElem? (i := 32) rfl)))) (mvT hZ (hw _ (List.mem_of_getElem? (i := 32) rfl))) (mvT hZ (hw _ (List.mem_of_getElem? (i := 31) rfl))) (by decide) (backOf (W := 0) (rmMA l Z a0 hw [] b4 b1 ((p2 &&& (3 : Int32)) + (1 : Int32)) (A (p3 &&& (3 : Int32))) ((p0 &&& (3 : Int32)) + (1 : Int32)) (A (p1 &&& (3 : Int32))) T6.heap n0 O6 Fv0_6 Fv1_6 ((Fv0_3.ext E4).keep K6 (ninS (Nat.ne_of_lt (Nat.lt_of_lt_of_le Ex3.lt (Nat.le_of_eq g4.symm))) nin0)) ((Fv1_3.ext E4).keep K6 (ninS (Nat.ne_of_lt (Nat.lt_of_lt_of_le Ex3.lt (Nat.le_of_eq g4.symm))) nin0)) (congrArg A (Eq.symm hc8))) hZ (hw _ (List.mem_of_getElem? (i := 33) rfl)) (hw _ (List.mem_of_getElem? (i := 2) rfl)) (by decide) (by decide)) q10a q10c (g := (mkF mm 90 #[.val (.int p0), .val (.int p1), .val (.int p2), .val (.int p3), .val (.int ((p0 &&& (3 : Int32)) + (1 : Int32))), .val (.int (p1 &&& (3 : Int32))), .val (.int ((p2 &&& (3 : Int32)) + (1 : Int32))), .val (.int (p3 &&& (3 : Int32))), .val (.ref b1), .val (.ref b4), .val (.int (1 : Int32)), .val (.int (1 : Int32)), .unset] [(.ref b1), (.ref b4)])) rfl (by rw [hml]; rfl) (Steps.refl _) (argsL := [(.ref b1)]) (rest := []) (lenOf pd_60 rfl) rfl (by show 2 * 0 + _ ≤ _; exact Nat.le_of_eq rfl) (hb hby at_90) (fun _ _ => ⟨rfl, e9, (by decide : 2 + 0 ≤ _), (by decide : 4 + 0 ≤ _)⟩)
    dsimp only [Pt.U, Pt.locs, Pt.cells, Pt.slots] at X10 l10 y10 z10 st10 hQ10
    subst l10 y10 z10
    obtain ⟨rfl, N10q, e10⟩ := hQ10
    have N10 := Fr.app N9 N10q
    obtain ⟨fs, hr, hrun, hended, hW, hsame⟩ := X10.leave (v := some (.int (1 : Int32))) (fun h => by rw [Bd.returns] at h; cases h)
    refine ⟨_, _, pre7 _ ?_, hrun, hended, _, _, rfl, ?_, ⟨_, rfl⟩, hW, hsame.mono (by decide) (by decide)⟩
    · show Steps pg.tables ee below (T6.setTop (mkF mm 60 #[.val (.int p0), .val (.int p1), .val (.int p2), .val (.int p3), .val (.int ((p0 &&& (3 : Int32)) + (1 : Int32))), .val (.int (p1 &&& (3 : Int32))), .val (.int ((p2 &&& (3 : Int32)) + (1 : Int32))), .val (.int (p3 &&& (3 : Int32))), .val (.ref b1), .val (.ref b4), .unset, .unset, .unset] [(.int (p3 &&& (3 : Int32))), (.int (p1 &&& (3 : Int32)))])) _
      refine XS.icmpYes X6.here hx rfl (pc0 := 60) (pc' := 70) rfl (hb hby at_60) rfl (teq hc8).1 (by decide) (by decide) ?_
      show Steps pg.tables ee below (T6.setTop (mkF mm 70 #[.val (.int p0), .val (.int p1), .val (.int p2), .val (.int p3), .val (.int ((p0 &&& (3 : Int32)) + (1 : Int32))), .val (.int (p1 &&& (3 : Int32))), .val (.int ((p2 &&& (3 : Int32)) + (1 : Int32))), .val (.int (p3 &&& (3 : Int32))), .val (.ref b1), .val (.ref b4), .unset, .unset, .unset] [])) _
      refine XS.iconst X6.here hx rfl (hb hby at_70) ?_
      show Steps pg.tables ee below (T6.setTop (mkF mm 71 #[.val (.int p0), .val (.int p1), .val (.int p2), .val (.int p3), .val (.int ((p0 &&& (3 : Int32)) + (1 : Int32))), .val (.int (p1 &&& (3 : Int32))), .val (.int ((p2 &&& (3 : Int32)) + (1 : Int32))), .val (.int (p3 &&& (3 : Int32))), .val (.ref b1), .val (.ref b4), .unset, .unset, .unset] [(.int (1 : Int32))])) _
      refine XS.goto X6.here hx rfl (pc0 := 71) (pc' := 75) rfl (hb hby at_71) (by decide) (by decide) ?_
      show Steps pg.tables ee below (T6.setTop (mkF mm 75 #[.val (.int p0), .val (.int p1), .val (.int p2), .val (.int p3), .val (.int ((p0 &&& (3 : Int32)) + (1 : Int32))), .val (.int (p1 &&& (3 : Int32))), .val (.int ((p2 &&& (3 : Int32)) + (1 : Int32))), .val (.int (p3 &&& (3 : Int32))), .val (.ref b1), .val (.ref b4), .unset, .unset, .unset] [(.int (1 : Int32))])) _
      refine XS.istore X6.here hx rfl (hb hby at_75) rfl (l' := #[.val (.int p0), .val (.int p1), .val (.int p2), .val (.int p3), .val (.int ((p0 &&& (3 : Int32)) + (1 : Int32))), .val (.int (p1 &&& (3 : Int32))), .val (.int ((p2 &&& (3 : Int32)) + (1 : Int32))), .val (.int (p3 &&& (3 : Int32))), .val (.ref b1), .val (.ref b4), .val (.int (1 : Int32)), .unset, .unset]) rfl ?_
      show Steps pg.tables ee below (T6.setTop (mkF mm 77 #[.val (.int p0), .val (.int p1), .val (.int p2), .val (.int p3), .val (.int ((p0 &&& (3 : Int32)) + (1 : Int32))), .val (.int (p1 &&& (3 : Int32))), .val (.int ((p2 &&& (3 : Int32)) + (1 : Int32))), .val (.int (p3 &&& (3 : Int32))), .val (.ref b1), .val (.ref b4), .val (.int (1 : Int32)), .unset, .unset] [])) _
      refine XS.aload X6.here hx rfl (hb hby at_77) rfl rfl ?_
      show Steps pg.tables ee below (T6.setTop (mkF mm 79 #[.val (.int p0), .val (.int p1), .val (.int p2), .val (.int p3), .val (.int ((p0 &&& (3 : Int32)) + (1 : Int32))), .val (.int (p1 &&& (3 : Int32))), .val (.int ((p2 &&& (3 : Int32)) + (1 : Int32))), .val (.int (p3 &&& (3 : Int32))), .val (.ref b1), .val (.ref b4), .val (.int (1 : Int32)), .unset, .unset] [(.ref b1)])) _
      refine XS.aload X6.here hx rfl (hb hby at_79) rfl rfl ?_
      show Steps pg.tables ee below (T6.setTop (mkF mm 81 #[.val (.int p0), .val (.int p1), .val (.int p2), .val (.int p3), .val (.int ((p0 &&& (3 : Int32)) + (1 : Int32))), .val (.int (p1 &&& (3 : Int32))), .val (.int ((p2 &&& (3 : Int32)) + (1 : Int32))), .val (.int (p3 &&& (3 : Int32))), .val (.ref b1), .val (.ref b4), .val (.int (1 : Int32)), .unset, .unset] [(.ref b4), (.ref b1)])) _
      refine st9.trans ?_
      show Steps pg.tables ee below (T9.setTop (mkF mm 84 #[.val (.int p0), .val (.int p1), .val (.int p2), .val (.int p3), .val (.int ((p0 &&& (3 : Int32)) + (1 : Int32))), .val (.int (p1 &&& (3 : Int32))), .val (.int ((p2 &&& (3 : Int32)) + (1 : Int32))), .val (.int (p3 &&& (3 : Int32))), .val (.ref b1), .val (.ref b4), .val (.int (1 : Int32)), .unset, .unset] [(.int (1 : Int32))])) _
      refine XS.istore X9.here hx rfl (hb hby at_84) rfl (l' := #[.val (.int p0), .val (.int p1), .val (.int p2), .val (.int p3), .val (.int ((p0 &&& (3 : Int32)) + (1 : Int32))), .val (.int (p1 &&& (3 : Int32))), .val (.int ((p2 &&& (3 : Int32)) + (1 : Int32))), .val (.int (p3 &&& (3 : Int32))), .val (.ref b1), .val (.ref b4), .val (.int (1 : Int32)), .val (.int (1 : Int32)), .unset]) rfl ?_
      show Steps pg.tables ee below (T9.setTop (mkF mm 86 #[.val (.int p0), .val (.int p1), .val (.int p2), .val (.int p3), .val (.int ((p0 &&& (3 : Int32)) + (1 : Int32))), .val (.int (p1 &&& (3 : Int32))), .val (.int ((p2 &&& (3 : Int32)) + (1 : Int32))), .val (.int (p3 &&& (3 : Int32))), .val (.ref b1), .val (.ref b4), .val (.int (1 : Int32)), .val (.int (1 : Int32)), .unset] [])) _
      refine XS.aload X9.here hx rfl (hb hby at_86) rfl rfl ?_
      show Steps pg.tables ee below (T9.setTop (mkF mm 88 #[.val (.int p0), .val (.int p1), .val (.int p2), .val (.int p3), .val (.int ((p0 &&& (3 : Int32)) + (1 : Int32))), .val (.int (p1 &&& (3 : Int32))), .val (.int ((p2 &&& (3 : Int32)) + (1 : Int32))), .val (.int (p3 &&& (3 : Int32))), .val (.ref b1), .val (.ref b4), .val (.int (1 : Int32)), .val (.int (1 : Int32)), .unset] [(.ref b4)])) _
      refine XS.aload X9.here hx rfl (hb hby at_88) rfl rfl ?_
      show Steps pg.tables ee below (T9.setTop (mkF mm 90 #[.val (.int p0), .val (.int p1), .val (.int p2), .val (.int p3), .val (.int ((p0 &&& (3 : Int32)) + (1 : Int32))), .val (.int (p1 &&& (3 : Int32))), .val (.int ((p2 &&& (3 : Int32)) + (1 : Int32))), .val (.int (p3 &&& (3 : Int32))), .val (.ref b1), .val (.ref b4), .val (.int (1 : Int32)), .val (.int (1 : Int32)), .unset] [(.ref b1), (.ref b4)])) _
      refine st10.trans ?_
      show Steps pg.tables ee below (T10.setTop (mkF mm 93 #[.val (.int p0), .val (.int p1), .val (.int p2), .val (.int p3), .val (.int ((p0 &&& (3 : Int32)) + (1 : Int32))), .val (.int (p1 &&& (3 : Int32))), .val (.int ((p2 &&& (3 : Int32)) + (1 : Int32))), .val (.int (p3 &&& (3 : Int32))), .val (.ref b1), .val (.ref b4), .val (.int (1 : Int32)), .val (.int (1 : Int32)), .unset] [(.int (1 : Int32))])) _
      refine XS.istore X10.here hx rfl (hb hby at_93) rfl (l' := #[.val (.int p0), .val (.int p1), .val (.int p2), .val (.int p3), .val (.int ((p0 &&& (3 : Int32)) + (1 : Int32))), .val (.int (p1 &&& (3 : Int32))), .val (.int ((p2 &&& (3 : Int32)) + (1 : Int32))), .val (.int (p3 &&& (3 : Int32))), .val (.ref b1), .val (.ref b4), .val (.int (1 : Int32)), .val (.int (1 : Int32)), .val (.int (1 : Int32))]) rfl ?_
      show Steps pg.tables ee below (T10.setTop (mkF mm 95 #[.val (.int p0), .val (.int p1), .val (.int p2), .val (.int p3), .val (.int ((p0 &&& (3 : Int32)) + (1 : Int32))), .val (.int (p1 &&& (3 : Int32))), .val (.int ((p2 &&& (3 : Int32)) + (1 : Int32))), .val (.int (p3 &&& (3 : Int32))), .val (.ref b1), .val (.ref b4), .val (.int (1 : Int32)), .val (.int (1 : Int32)), .val (.int (1 : Int32))] [])) _
      refine XS.iload X10.here hx rfl (hb hby at_95) rfl ?_
      show Steps pg.tables ee below (T10.setTop (mkF mm 97 #[.val (.int p0), .val (.int p1), .val (.int p2), .val (.int p3), .val (.int ((p0 &&& (3 : Int32)) + (1 : Int32))), .val (.int (p1 &&& (3 : Int32))), .val (.int ((p2 &&& (3 : Int32)) + (1 : Int32))), .val (.int (p3 &&& (3 : Int32))), .val (.ref b1), .val (.ref b4), .val (.int (1 : Int32)), .val (.int (1 : Int32)), .val (.int (1 : Int32))] [(.int (1 : Int32))])) _
      refine XS.iload X10.here hx rfl (hb hby at_97) rfl ?_
      show Steps pg.tables ee below (T10.setTop (mkF mm 99 #[.val (.int p0), .val (.int p1), .val (.int p2), .val (.int p3), .val (.int ((p0 &&& (3 : Int32)) + (1 : Int32))), .val (.int (p1 &&& (3 : Int32))), .val (.int ((p2 &&& (3 : Int32)) + (1 : Int32))), .val (.int (p3 &&& (3 : Int32))), .val (.ref b1), .val (.ref b4), .val (.int (1 : Int32)), .val (.int (1 : Int32)), .val (.int (1 : Int32))] [(.int (1 : Int32)), (.int (1 : Int32))])) _
      refine XS.icmpNo X10.here hx rfl (hb hby at_99) rfl (teq (by decide : (1 : Int32) = (1 : Int32))).2 ?_
      show Steps pg.tables ee below (T10.setTop (mkF mm 102 #[.val (.int p0), .val (.int p1), .val (.int p2), .val (.int p3), .val (.int ((p0 &&& (3 : Int32)) + (1 : Int32))), .val (.int (p1 &&& (3 : Int32))), .val (.int ((p2 &&& (3 : Int32)) + (1 : Int32))), .val (.int (p3 &&& (3 : Int32))), .val (.ref b1), .val (.ref b4), .val (.int (1 : Int32)), .val (.int (1 : Int32)), .val (.int (1 : Int32))] [])) _
      refine XS.iload X10.here hx rfl (hb hby at_102) rfl ?_
      show Steps pg.tables ee below (T10.setTop (mkF mm 104 #[.val (.int p0), .val (.int p1), .val (.int p2), .val (.int p3), .val (.int ((p0 &&& (3 : Int32)) + (1 : Int32))), .val (.int (p1 &&& (3 : Int32))), .val (.int ((p2 &&& (3 : Int32)) + (1 : Int32))), .val (.int (p3 &&& (3 : Int32))), .val (.ref b1), .val (.ref b4), .val (.int (1 : Int32)), .val (.int (1 : Int32)), .val (.int (1 : Int32))] [(.int (1 : Int32))])) _
      refine XS.iload X10.here hx rfl (hb hby at_104) rfl ?_
      show Steps pg.tables ee below (T10.setTop (mkF mm 106 #[.val (.int p0), .val (.int p1), .val (.int p2), .val (.int p3), .val (.int ((p0 &&& (3 : Int32)) + (1 : Int32))), .val (.int (p1 &&& (3 : Int32))), .val (.int ((p2 &&& (3 : Int32)) + (1 : Int32))), .val (.int (p3 &&& (3 : Int32))), .val (.ref b1), .val (.ref b4), .val (.int (1 : Int32)), .val (.int (1 : Int32)), .val (.int (1 : Int32))] [(.int (1 : Int32)), (.int (1 : Int32))])) _
      refine XS.icmpNo X10.here hx rfl (hb hby at_106) rfl (teq (by decide : (1 : Int32) = (1 : Int32))).2 ?_
      show Steps pg.tables ee below (T10.setTop (mkF mm 109 #[.val (.int p0), .val (.int p1), .val (.int p2), .val (.int p3), .val (.int ((p0 &&& (3 : Int32)) + (1 : Int32))), .val (.int (p1 &&& (3 : Int32))), .val (.int ((p2 &&& (3 : Int32)) + (1 : Int32))), .val (.int (p3 &&& (3 : Int32))), .val (.ref b1), .val (.ref b4), .val (.int (1 : Int32)), .val (.int (1 : Int32)), .val (.int (1 : Int32))] [])) _
      refine XS.iconst X10.here hx rfl (hb hby at_109) ?_
      show Steps pg.tables ee below (T10.setTop (mkF mm 110 #[.val (.int p0), .val (.int p1), .val (.int p2), .val (.int p3), .val (.int ((p0 &&& (3 : Int32)) + (1 : Int32))), .val (.int (p1 &&& (3 : Int32))), .val (.int ((p2 &&& (3 : Int32)) + (1 : Int32))), .val (.int (p3 &&& (3 : Int32))), .val (.ref b1), .val (.ref b4), .val (.int (1 : Int32)), .val (.int (1 : Int32)), .val (.int (1 : Int32))] [(.int (1 : Int32))])) _
      refine XS.goto X10.here hx rfl (pc0 := 110) (pc' := 114) rfl (hb hby at_110) (by decide) (by decide) ?_
      show Steps pg.tables ee below (T10.setTop (mkF mm 114 #[.val (.int p0), .val (.int p1), .val (.int p2), .val (.int p3), .val (.int ((p0 &&& (3 : Int32)) + (1 : Int32))), .val (.int (p1 &&& (3 : Int32))), .val (.int ((p2 &&& (3 : Int32)) + (1 : Int32))), .val (.int (p3 &&& (3 : Int32))), .val (.ref b1), .val (.ref b4), .val (.int (1 : Int32)), .val (.int (1 : Int32)), .val (.int (1 : Int32))] [(.int (1 : Int32))])) _
      exact retN X10 hx (t := .boolean) Bd.returns (by simp) (hb hby at_114) hr
    · show Qrm0 Z p0 p1 p2 p3 A h0 n0 _ T10.heap _
      rw [e10]
      exact ⟨rfl, N10⟩
  · have pre11 : ∀ t, Steps pg.tables ee below (T6.setTop (mkF mm 67 #[.val (.int p0), .val (.int p1), .val (.int p2), .val (.int p3), .val (.int ((p0 &&& (3 : Int32)) + (1 : Int32))), .val (.int (p1 &&& (3 : Int32))), .val (.int ((p2 &&& (3 : Int32)) + (1 : Int32))), .val (.int (p3 &&& (3 : Int32))), .val (.ref b1), .val (.ref b4), .unset, .unset, .unset] [(.int ((p2 &&& (3 : Int32)) + (1 : Int32))), (.int ((p0 &&& (3 : Int32)) + (1 : Int32)))])) t → Steps pg.tables ee below (s₁.setTop (entryFrame mm #[(.int p0), (.int p1), (.int p2), (.int p3)] maxLocals)) t := fun t k => pre7 t (by
        show Steps pg.tables ee below (T6.setTop (mkF mm 60 #[.val (.int p0), .val (.int p1), .val (.int p2), .val (.int p3), .val (.int ((p0 &&& (3 : Int32)) + (1 : Int32))), .val (.int (p1 &&& (3 : Int32))), .val (.int ((p2 &&& (3 : Int32)) + (1 : Int32))), .val (.int (p3 &&& (3 : Int32))), .val (.ref b1), .val (.ref b4), .unset, .unset, .unset] [(.int (p3 &&& (3 : Int32))), (.int (p1 &&& (3 : Int32)))])) _
        refine XS.icmpNo X6.here hx rfl (hb hby at_60) rfl (feq hc8).1 ?_
        show Steps pg.tables ee below (T6.setTop (mkF mm 63 #[.val (.int p0), .val (.int p1), .val (.int p2), .val (.int p3), .val (.int ((p0 &&& (3 : Int32)) + (1 : Int32))), .val (.int (p1 &&& (3 : Int32))), .val (.int ((p2 &&& (3 : Int32)) + (1 : Int32))), .val (.int (p3 &&& (3 : Int32))), .val (.ref b1), .val (.ref b4), .unset, .unset, .unset] [])) _
        refine XS.iload X6.here hx rfl (hb hby at_63) rfl ?_
        show Steps pg.tables ee below (T6.setTop (mkF mm 65 #[.val (.int p0), .val (.int p1), .val (.int p2), .val (.int p3), .val (.int ((p0 &&& (3 : Int32)) + (1 : Int32))), .val (.int (p1 &&& (3 : Int32))), .val (.int ((p2 &&& (3 : Int32)) + (1 : Int32))), .val (.int (p3 &&& (3 : Int32))), .val (.ref b1), .val (.ref b4), .unset, .unset, .unset] [(.int ((p0 &&& (3 : Int32)) + (1 : Int32)))])) _
        refine XS.iload X6.here hx rfl (hb hby at_65) rfl ?_
        exact k)
    by_cases hc12 : ((p0 &&& (3 : Int32)) + (1 : Int32)) = ((p2 &&& (3 : Int32)) + (1 : Int32))
    · obtain ⟨cq13, kq13, q13a, q13b, q13c⟩ := isOf hZ rfl ((Ex3.ext E4).keep K6)
      obtain ⟨_, _, ⟨T13, L13, k13, n13⟩, -, X13, ⟨Lc13, hQ13, l13, y13, z13⟩, st13⟩ := X6.virtualBack hx (y := (⟨"com/example/chapiteau/chapiteau/circustrain/Wagon", "matches", "(Lcom/example/chapiteau/chapiteau/circustrain/Wagon;)Z"⟩ : MethodName)) (z := (⟨"com/example/chapiteau/chapiteau/circustrain/Wagon", "matches", "(Lcom/example/chapiteau/chapiteau/circustrain/Wagon;)Z"⟩ : MethodName)) hown (mvT hZ (hw _ (List.mem_of_getElem? (i := 29) rfl))) (mvT hZ (hw _ (List.mem_of_getElem? (i := 30) rfl))) (notFace_of_selects (args := #[]) (mvT hZ (hw _ (List.mem_of_getElem? (i := 32) rfl)))) (mvT hZ (hw _ (List.mem_of_getElem? (i := 32) rfl))) (mvT hZ (hw _ (List.mem_of_getElem? (i := 31) rfl))) (by decide) (backOf (W := 0) (rmMV l Z a0 hw [] b1 b4 ((p0 &&& (3 : Int32)) + (1 : Int32)) (A (p1 &&& (3 : Int32))) ((p2 &&& (3 : Int32)) + (1 : Int32)) (A (p3 &&& (3 : Int32))) T6.heap n0 O6 ((Fv0_3.ext E4).keep K6 (ninS (Nat.ne_of_lt (Nat.lt_of_lt_of_le Ex3.lt (Nat.le_of_eq g4.symm))) nin0)) ((Fv1_3.ext E4).keep K6 (ninS (Nat.ne_of_lt (Nat.lt_of_lt_of_le Ex3.lt (Nat.le_of_eq g4.symm))) nin0)) Fv0_6 Fv1_6 (fun q => hc8 (hinj _ _ (own_r _) (own_r _) q)) hc12) hZ (hw _ (List.mem_of_getElem? (i := 33) rfl)) (hw _ (List.mem_of_getElem? (i := 2) rfl)) (by decide) (by decide)) q13a q13c (g := (mkF mm 81 #[.val (.int p0), .val (.int p1), .val (.int p2), .val (.int p3), .val (.int ((p0 &&& (3 : Int32)) + (1 : Int32))), .val (.int (p1 &&& (3 : Int32))), .val (.int ((p2 &&& (3 : Int32)) + (1 : Int32))), .val (.int (p3 &&& (3 : Int32))), .val (.ref b1), .val (.ref b4), .val (.int (1 : Int32)), .unset, .unset] [(.ref b4), (.ref b1)])) rfl (by rw [hml]; rfl) (Steps.refl _) (argsL := [(.ref b4)]) (rest := []) (lenOf pd_60 rfl) rfl (by show 2 * 0 + _ ≤ _; exact Nat.le_of_eq rfl) (hb hby at_81) (fun _ _ => ⟨rfl, rfl, (by decide : 2 + 0 ≤ _), (by decide : 4 + 0 ≤ _)⟩)
      dsimp only [Pt.U, Pt.locs, Pt.cells, Pt.slots] at X13 l13 y13 z13 st13 hQ13
      subst l13 y13 z13
      obtain ⟨rfl, N13q, e13⟩ := hQ13
      have N13 := Fr.app N6 N13q
      obtain ⟨cq14, kq14, q14a, q14b, q14c⟩ := isOf hZ e13 Ex6
      obtain ⟨_, _, ⟨T14, L14, k14, n14⟩, -, X14, ⟨Lc14, hQ14, l14, y14, z14⟩, st14⟩ := X13.virtualBack hx (y := (⟨"com/example/chapiteau/chapiteau/circustrain/Wagon", "matches", "(Lcom/example/chapiteau/chapiteau/circustrain/Wagon;)Z"⟩ : MethodName)) (z := (⟨"com/example/chapiteau/chapiteau/circustrain/Wagon", "matches", "(Lcom/example/chapiteau/chapiteau/circustrain/Wagon;)Z"⟩ : MethodName)) hown (mvT hZ (hw _ (List.mem_of_getElem? (i := 29) rfl))) (mvT hZ (hw _ (List.mem_of_getElem? (i := 30) rfl))) (notFace_of_selects (args := #[]) (mvT hZ (hw _ (List.mem_of_getElem? (i := 32) rfl)))) (mvT hZ (hw _ (List.mem_of_getElem? (i := 32) rfl))) (mvT hZ (hw _ (List.mem_of_getElem? (i := 31) rfl))) (by decide) (backOf (W := 0) (rmMV l Z a0 hw [] b4 b1 ((p2 &&& (3 : Int32)) + (1 : Int32)) (A (p3 &&& (3 : Int32))) ((p0 &&& (3 : Int32)) + (1 : Int32)) (A (p1 &&& (3 : Int32))) T6.heap n0 O6 Fv0_6 Fv1_6 ((Fv0_3.ext E4).keep K6 (ninS (Nat.ne_of_lt (Nat.lt_of_lt_of_le Ex3.lt (Nat.le_of_eq g4.symm))) nin0)) ((Fv1_3.ext E4).keep K6 (ninS (Nat.ne_of_lt (Nat.lt_of_lt_of_le Ex3.lt (Nat.le_of_eq g4.symm))) nin0)) (fun q => hc8 (hinj _ _ (own_r _) (own_r _) q.symm)) (Eq.symm hc12)) hZ (hw _ (List.mem_of_getElem? (i := 33) rfl)) (hw _ (List.mem_of_getElem? (i := 2) rfl)) (by decide) (by decide)) q14a q14c (g := (mkF mm 90 #[.val (.int p0), .val (.int p1), .val (.int p2), .val (.int p3), .val (.int ((p0 &&& (3 : Int32)) + (1 : Int32))), .val (.int (p1 &&& (3 : Int32))), .val (.int ((p2 &&& (3 : Int32)) + (1 : Int32))), .val (.int (p3 &&& (3 : Int32))), .val (.ref b1), .val (.ref b4), .val (.int (1 : Int32)), .val (.int (1 : Int32)), .unset] [(.ref b1), (.ref b4)])) rfl (by rw [hml]; rfl) (Steps.refl _) (argsL := [(.ref b1)]) (rest := []) (lenOf pd_60 rfl) rfl (by show 2 * 0 + _ ≤ _; exact Nat.le_of_eq rfl) (hb hby at_90) (fun _ _ => ⟨rfl, e13, (by decide : 2 + 0 ≤ _), (by decide : 4 + 0 ≤ _)⟩)
      dsimp only [Pt.U, Pt.locs, Pt.cells, Pt.slots] at X14 l14 y14 z14 st14 hQ14
      subst l14 y14 z14
      obtain ⟨rfl, N14q, e14⟩ := hQ14
      have N14 := Fr.app N13 N14q
      obtain ⟨fs, hr, hrun, hended, hW, hsame⟩ := X14.leave (v := some (.int (1 : Int32))) (fun h => by rw [Bd.returns] at h; cases h)
      refine ⟨_, _, pre11 _ ?_, hrun, hended, _, _, rfl, ?_, ⟨_, rfl⟩, hW, hsame.mono (by decide) (by decide)⟩
      · show Steps pg.tables ee below (T6.setTop (mkF mm 67 #[.val (.int p0), .val (.int p1), .val (.int p2), .val (.int p3), .val (.int ((p0 &&& (3 : Int32)) + (1 : Int32))), .val (.int (p1 &&& (3 : Int32))), .val (.int ((p2 &&& (3 : Int32)) + (1 : Int32))), .val (.int (p3 &&& (3 : Int32))), .val (.ref b1), .val (.ref b4), .unset, .unset, .unset] [(.int ((p2 &&& (3 : Int32)) + (1 : Int32))), (.int ((p0 &&& (3 : Int32)) + (1 : Int32)))])) _
        refine XS.icmpNo X6.here hx rfl (hb hby at_67) rfl (teq hc12).2 ?_
        show Steps pg.tables ee below (T6.setTop (mkF mm 70 #[.val (.int p0), .val (.int p1), .val (.int p2), .val (.int p3), .val (.int ((p0 &&& (3 : Int32)) + (1 : Int32))), .val (.int (p1 &&& (3 : Int32))), .val (.int ((p2 &&& (3 : Int32)) + (1 : Int32))), .val (.int (p3 &&& (3 : Int32))), .val (.ref b1), .val (.ref b4), .unset, .unset, .unset] [])) _
        refine XS.iconst X6.here hx rfl (hb hby at_70) ?_
        show Steps pg.tables ee below (T6.setTop (mkF mm 71 #[.val (.int p0), .val (.int p1), .val (.int p2), .val (.int p3), .val (.int ((p0 &&& (3 : Int32)) + (1 : Int32))), .val (.int (p1 &&& (3 : Int32))), .val (.int ((p2 &&& (3 : Int32)) + (1 : Int32))), .val (.int (p3 &&& (3 : Int32))), .val (.ref b1), .val (.ref b4), .unset, .unset, .unset] [(.int (1 : Int32))])) _
        refine XS.goto X6.here hx rfl (pc0 := 71) (pc' := 75) rfl (hb hby at_71) (by decide) (by decide) ?_
        show Steps pg.tables ee below (T6.setTop (mkF mm 75 #[.val (.int p0), .val (.int p1), .val (.int p2), .val (.int p3), .val (.int ((p0 &&& (3 : Int32)) + (1 : Int32))), .val (.int (p1 &&& (3 : Int32))), .val (.int ((p2 &&& (3 : Int32)) + (1 : Int32))), .val (.int (p3 &&& (3 : Int32))), .val (.ref b1), .val (.ref b4), .unset, .unset, .unset] [(.int (1 : Int32))])) _
        refine XS.istore X6.here hx rfl (hb hby at_75) rfl (l' := #[.val (.int p0), .val (.int p1), .val (.int p2), .val (.int p3), .val (.int ((p0 &&& (3 : Int32)) + (1 : Int32))), .val (.int (p1 &&& (3 : Int32))), .val (.int ((p2 &&& (3 : Int32)) + (1 : Int32))), .val (.int (p3 &&& (3 : Int32))), .val (.ref b1), .val (.ref b4), .val (.int (1 : Int32)), .unset, .unset]) rfl ?_
        show Steps pg.tables ee below (T6.setTop (mkF mm 77 #[.val (.int p0), .val (.int p1), .val (.int p2), .val (.int p3), .val (.int ((p0 &&& (3 : Int32)) + (1 : Int32))), .val (.int (p1 &&& (3 : Int32))), .val (.int ((p2 &&& (3 : Int32)) + (1 : Int32))), .val (.int (p3 &&& (3 : Int32))), .val (.ref b1), .val (.ref b4), .val (.int (1 : Int32)), .unset, .unset] [])) _
        refine XS.aload X6.here hx rfl (hb hby at_77) rfl rfl ?_
        show Steps pg.tables ee below (T6.setTop (mkF mm 79 #[.val (.int p0), .val (.int p1), .val (.int p2), .val (.int p3), .val (.int ((p0 &&& (3 : Int32)) + (1 : Int32))), .val (.int (p1 &&& (3 : Int32))), .val (.int ((p2 &&& (3 : Int32)) + (1 : Int32))), .val (.int (p3 &&& (3 : Int32))), .val (.ref b1), .val (.ref b4), .val (.int (1 : Int32)), .unset, .unset] [(.ref b1)])) _
        refine XS.aload X6.here hx rfl (hb hby at_79) rfl rfl ?_
        show Steps pg.tables ee below (T6.setTop (mkF mm 81 #[.val (.int p0), .val (.int p1), .val (.int p2), .val (.int p3), .val (.int ((p0 &&& (3 : Int32)) + (1 : Int32))), .val (.int (p1 &&& (3 : Int32))), .val (.int ((p2 &&& (3 : Int32)) + (1 : Int32))), .val (.int (p3 &&& (3 : Int32))), .val (.ref b1), .val (.ref b4), .val (.int (1 : Int32)), .unset, .unset] [(.ref b4), (.ref b1)])) _
        refine st13.trans ?_
        show Steps pg.tables ee below (T13.setTop (mkF mm 84 #[.val (.int p0), .val (.int p1), .val (.int p2), .val (.int p3), .val (.int ((p0 &&& (3 : Int32)) + (1 : Int32))), .val (.int (p1 &&& (3 : Int32))), .val (.int ((p2 &&& (3 : Int32)) + (1 : Int32))), .val (.int (p3 &&& (3 : Int32))), .val (.ref b1), .val (.ref b4), .val (.int (1 : Int32)), .unset, .unset] [(.int (1 : Int32))])) _
        refine XS.istore X13.here hx rfl (hb hby at_84) rfl (l' := #[.val (.int p0), .val (.int p1), .val (.int p2), .val (.int p3), .val (.int ((p0 &&& (3 : Int32)) + (1 : Int32))), .val (.int (p1 &&& (3 : Int32))), .val (.int ((p2 &&& (3 : Int32)) + (1 : Int32))), .val (.int (p3 &&& (3 : Int32))), .val (.ref b1), .val (.ref b4), .val (.int (1 : Int32)), .val (.int (1 : Int32)), .unset]) rfl ?_
        show Steps pg.tables ee below (T13.setTop (mkF mm 86 #[.val (.int p0), .val (.int p1), .val (.int p2), .val (.int p3), .val (.int ((p0 &&& (3 : Int32)) + (1 : Int32))), .val (.int (p1 &&& (3 : Int32))), .val (.int ((p2 &&& (3 : Int32)) + (1 : Int32))), .val (.int (p3 &&& (3 : Int32))), .val (.ref b1), .val (.ref b4), .val (.int (1 : Int32)), .val (.int (1 : Int32)), .unset] [])) _
        refine XS.aload X13.here hx rfl (hb hby at_86) rfl rfl ?_
        show Steps pg.tables ee below (T13.setTop (mkF mm 88 #[.val (.int p0), .val (.int p1), .val (.int p2), .val (.int p3), .val (.int ((p0 &&& (3 : Int32)) + (1 : Int32))), .val (.int (p1 &&& (3 : Int32))), .val (.int ((p2 &&& (3 : Int32)) + (1 : Int32))), .val (.int (p3 &&& (3 : Int32))), .val (.ref b1), .val (.ref b4), .val (.int (1 : Int32)), .val (.int (1 : Int32)), .unset] [(.ref b4)])) _
        refine XS.aload X13.here hx rfl (hb hby at_88) rfl rfl ?_
        show Steps pg.tables ee below (T13.setTop (mkF mm 90 #[.val (.int p0), .val (.int p1), .val (.int p2), .val (.int p3), .val (.int ((p0 &&& (3 : Int32)) + (1 : Int32))), .val (.int (p1 &&& (3 : Int32))), .val (.int ((p2 &&& (3 : Int32)) + (1 : Int32))), .val (.int (p3 &&& (3 : Int32))), .val (.ref b1), .val (.ref b4), .val (.int (1 : Int32)), .val (.int (1 : Int32)), .unset] [(.ref b1), (.ref b4)])) _
        refine st14.trans ?_
        show Steps pg.tables ee below (T14.setTop (mkF mm 93 #[.val (.int p0), .val (.int p1), .val (.int p2), .val (.int p3), .val (.int ((p0 &&& (3 : Int32)) + (1 : Int32))), .val (.int (p1 &&& (3 : Int32))), .val (.int ((p2 &&& (3 : Int32)) + (1 : Int32))), .val (.int (p3 &&& (3 : Int32))), .val (.ref b1), .val (.ref b4), .val (.int (1 : Int32)), .val (.int (1 : Int32)), .unset] [(.int (1 : Int32))])) _
        refine XS.istore X14.here hx rfl (hb hby at_93) rfl (l' := #[.val (.int p0), .val (.int p1), .val (.int p2), .val (.int p3), .val (.int ((p0 &&& (3 : Int32)) + (1 : Int32))), .val (.int (p1 &&& (3 : Int32))), .val (.int ((p2 &&& (3 : Int32)) + (1 : Int32))), .val (.int (p3 &&& (3 : Int32))), .val (.ref b1), .val (.ref b4), .val (.int (1 : Int32)), .val (.int (1 : Int32)), .val (.int (1 : Int32))]) rfl ?_
        show Steps pg.tables ee below (T14.setTop (mkF mm 95 #[.val (.int p0), .val (.int p1), .val (.int p2), .val (.int p3), .val (.int ((p0 &&& (3 : Int32)) + (1 : Int32))), .val (.int (p1 &&& (3 : Int32))), .val (.int ((p2 &&& (3 : Int32)) + (1 : Int32))), .val (.int (p3 &&& (3 : Int32))), .val (.ref b1), .val (.ref b4), .val (.int (1 : Int32)), .val (.int (1 : Int32)), .val (.int (1 : Int32))] [])) _
        refine XS.iload X14.here hx rfl (hb hby at_95) rfl ?_
        show Steps pg.tables ee below (T14.setTop (mkF mm 97 #[.val (.int p0), .val (.int p1), .val (.int p2), .val (.int p3), .val (.int ((p0 &&& (3 : Int32)) + (1 : Int32))), .val (.int (p1 &&& (3 : Int32))), .val (.int ((p2 &&& (3 : Int32)) + (1 : Int32))), .val (.int (p3 &&& (3 : Int32))), .val (.ref b1), .val (.ref b4), .val (.int (1 : Int32)), .val (.int (1 : Int32)), .val (.int (1 : Int32))] [(.int (1 : Int32))])) _
        refine XS.iload X14.here hx rfl (hb hby at_97) rfl ?_
        show Steps pg.tables ee below (T14.setTop (mkF mm 99 #[.val (.int p0), .val (.int p1), .val (.int p2), .val (.int p3), .val (.int ((p0 &&& (3 : Int32)) + (1 : Int32))), .val (.int (p1 &&& (3 : Int32))), .val (.int ((p2 &&& (3 : Int32)) + (1 : Int32))), .val (.int (p3 &&& (3 : Int32))), .val (.ref b1), .val (.ref b4), .val (.int (1 : Int32)), .val (.int (1 : Int32)), .val (.int (1 : Int32))] [(.int (1 : Int32)), (.int (1 : Int32))])) _
        refine XS.icmpNo X14.here hx rfl (hb hby at_99) rfl (teq (by decide : (1 : Int32) = (1 : Int32))).2 ?_
        show Steps pg.tables ee below (T14.setTop (mkF mm 102 #[.val (.int p0), .val (.int p1), .val (.int p2), .val (.int p3), .val (.int ((p0 &&& (3 : Int32)) + (1 : Int32))), .val (.int (p1 &&& (3 : Int32))), .val (.int ((p2 &&& (3 : Int32)) + (1 : Int32))), .val (.int (p3 &&& (3 : Int32))), .val (.ref b1), .val (.ref b4), .val (.int (1 : Int32)), .val (.int (1 : Int32)), .val (.int (1 : Int32))] [])) _
        refine XS.iload X14.here hx rfl (hb hby at_102) rfl ?_
        show Steps pg.tables ee below (T14.setTop (mkF mm 104 #[.val (.int p0), .val (.int p1), .val (.int p2), .val (.int p3), .val (.int ((p0 &&& (3 : Int32)) + (1 : Int32))), .val (.int (p1 &&& (3 : Int32))), .val (.int ((p2 &&& (3 : Int32)) + (1 : Int32))), .val (.int (p3 &&& (3 : Int32))), .val (.ref b1), .val (.ref b4), .val (.int (1 : Int32)), .val (.int (1 : Int32)), .val (.int (1 : Int32))] [(.int (1 : Int32))])) _
        refine XS.iload X14.here hx rfl (hb hby at_104) rfl ?_
        show Steps pg.tables ee below (T14.setTop (mkF mm 106 #[.val (.int p0), .val (.int p1), .val (.int p2), .val (.int p3), .val (.int ((p0 &&& (3 : Int32)) + (1 : Int32))), .val (.int (p1 &&& (3 : Int32))), .val (.int ((p2 &&& (3 : Int32)) + (1 : Int32))), .val (.int (p3 &&& (3 : Int32))), .val (.ref b1), .val (.ref b4), .val (.int (1 : Int32)), .val (.int (1 : Int32)), .val (.int (1 : Int32))] [(.int (1 : Int32)), (.int (1 : Int32))])) _
        refine XS.icmpNo X14.here hx rfl (hb hby at_106) rfl (teq (by decide : (1 : Int32) = (1 : Int32))).2 ?_
        show Steps pg.tables ee below (T14.setTop (mkF mm 109 #[.val (.int p0), .val (.int p1), .val (.int p2), .val (.int p3), .val (.int ((p0 &&& (3 : Int32)) + (1 : Int32))), .val (.int (p1 &&& (3 : Int32))), .val (.int ((p2 &&& (3 : Int32)) + (1 : Int32))), .val (.int (p3 &&& (3 : Int32))), .val (.ref b1), .val (.ref b4), .val (.int (1 : Int32)), .val (.int (1 : Int32)), .val (.int (1 : Int32))] [])) _
        refine XS.iconst X14.here hx rfl (hb hby at_109) ?_
        show Steps pg.tables ee below (T14.setTop (mkF mm 110 #[.val (.int p0), .val (.int p1), .val (.int p2), .val (.int p3), .val (.int ((p0 &&& (3 : Int32)) + (1 : Int32))), .val (.int (p1 &&& (3 : Int32))), .val (.int ((p2 &&& (3 : Int32)) + (1 : Int32))), .val (.int (p3 &&& (3 : Int32))), .val (.ref b1), .val (.ref b4), .val (.int (1 : Int32)), .val (.int (1 : Int32)), .val (.int (1 : Int32))] [(.int (1 : Int32))])) _
        refine XS.goto X14.here hx rfl (pc0 := 110) (pc' := 114) rfl (hb hby at_110) (by decide) (by decide) ?_
        show Steps pg.tables ee below (T14.setTop (mkF mm 114 #[.val (.int p0), .val (.int p1), .val (.int p2), .val (.int p3), .val (.int ((p0 &&& (3 : Int32)) + (1 : Int32))), .val (.int (p1 &&& (3 : Int32))), .val (.int ((p2 &&& (3 : Int32)) + (1 : Int32))), .val (.int (p3 &&& (3 : Int32))), .val (.ref b1), .val (.ref b4), .val (.int (1 : Int32)), .val (.int (1 : Int32)), .val (.int (1 : Int32))] [(.int (1 : Int32))])) _
        exact retN X14 hx (t := .boolean) Bd.returns (by simp) (hb hby at_114) hr
      · show Qrm0 Z p0 p1 p2 p3 A h0 n0 _ T14.heap _
        rw [e14]
        exact ⟨rfl, N14⟩
    · obtain ⟨cq15, kq15, q15a, q15b, q15c⟩ := isOf hZ rfl ((Ex3.ext E4).keep K6)
      obtain ⟨_, _, ⟨T15, L15, k15, n15⟩, -, X15, ⟨Lc15, hQ15, l15, y15, z15⟩, st15⟩ := X6.virtualBack hx (y := (⟨"com/example/chapiteau/chapiteau/circustrain/Wagon", "matches", "(Lcom/example/chapiteau/chapiteau/circustrain/Wagon;)Z"⟩ : MethodName)) (z := (⟨"com/example/chapiteau/chapiteau/circustrain/Wagon", "matches", "(Lcom/example/chapiteau/chapiteau/circustrain/Wagon;)Z"⟩ : MethodName)) hown (mvT hZ (hw _ (List.mem_of_getElem? (i := 29) rfl))) (mvT hZ (hw _ (List.mem_of_getElem? (i := 30) rfl))) (notFace_of_selects (args := #[]) (mvT hZ (hw _ (List.mem_of_getElem? (i := 32) rfl)))) (mvT hZ (hw _ (List.mem_of_getElem? (i := 32) rfl))) (mvT hZ (hw _ (List.mem_of_getElem? (i := 31) rfl))) (by decide) (backOf (W := 0) (rmMN l Z a0 hw [] b1 b4 ((p0 &&& (3 : Int32)) + (1 : Int32)) (A (p1 &&& (3 : Int32))) ((p2 &&& (3 : Int32)) + (1 : Int32)) (A (p3 &&& (3 : Int32))) T6.heap n0 O6 ((Fv0_3.ext E4).keep K6 (ninS (Nat.ne_of_lt (Nat.lt_of_lt_of_le Ex3.lt (Nat.le_of_eq g4.symm))) nin0)) ((Fv1_3.ext E4).keep K6 (ninS (Nat.ne_of_lt (Nat.lt_of_lt_of_le Ex3.lt (Nat.le_of_eq g4.symm))) nin0)) Fv0_6 Fv1_6 (fun q => hc8 (hinj _ _ (own_r _) (own_r _) q)) hc12) hZ (hw _ (List.mem_of_getElem? (i := 33) rfl)) (hw _ (List.mem_of_getElem? (i := 2) rfl)) (by decide) (by decide)) q15a q15c (g := (mkF mm 81 #[.val (.int p0), .val (.int p1), .val (.int p2), .val (.int p3), .val (.int ((p0 &&& (3 : Int32)) + (1 : Int32))), .val (.int (p1 &&& (3 : Int32))), .val (.int ((p2 &&& (3 : Int32)) + (1 : Int32))), .val (.int (p3 &&& (3 : Int32))), .val (.ref b1), .val (.ref b4), .val (.int (0 : Int32)), .unset, .unset] [(.ref b4), (.ref b1)])) rfl (by rw [hml]; rfl) (Steps.refl _) (argsL := [(.ref b4)]) (rest := []) (lenOf pd_60 rfl) rfl (by show 2 * 0 + _ ≤ _; exact Nat.le_of_eq rfl) (hb hby at_81) (fun _ _ => ⟨rfl, rfl, (by decide : 2 + 0 ≤ _), (by decide : 4 + 0 ≤ _)⟩)
      dsimp only [Pt.U, Pt.locs, Pt.cells, Pt.slots] at X15 l15 y15 z15 st15 hQ15
      subst l15 y15 z15
      obtain ⟨rfl, N15q, e15⟩ := hQ15
      have N15 := Fr.app N6 N15q
      obtain ⟨cq16, kq16, q16a, q16b, q16c⟩ := isOf hZ e15 Ex6
      obtain ⟨_, _, ⟨T16, L16, k16, n16⟩, -, X16, ⟨Lc16, hQ16, l16, y16, z16⟩, st16⟩ := X15.virtualBack hx (y := (⟨"com/example/chapiteau/chapiteau/circustrain/Wagon", "matches", "(Lcom/example/chapiteau/chapiteau/circustrain/Wagon;)Z"⟩ : MethodName)) (z := (⟨"com/example/chapiteau/chapiteau/circustrain/Wagon", "matches", "(Lcom/example/chapiteau/chapiteau/circustrain/Wagon;)Z"⟩ : MethodName)) hown (mvT hZ (hw _ (List.mem_of_getElem? (i := 29) rfl))) (mvT hZ (hw _ (List.mem_of_getElem? (i := 30) rfl))) (notFace_of_selects (args := #[]) (mvT hZ (hw _ (List.mem_of_getElem? (i := 32) rfl)))) (mvT hZ (hw _ (List.mem_of_getElem? (i := 32) rfl))) (mvT hZ (hw _ (List.mem_of_getElem? (i := 31) rfl))) (by decide) (backOf (W := 0) (rmMN l Z a0 hw [] b4 b1 ((p2 &&& (3 : Int32)) + (1 : Int32)) (A (p3 &&& (3 : Int32))) ((p0 &&& (3 : Int32)) + (1 : Int32)) (A (p1 &&& (3 : Int32))) T6.heap n0 O6 Fv0_6 Fv1_6 ((Fv0_3.ext E4).keep K6 (ninS (Nat.ne_of_lt (Nat.lt_of_lt_of_le Ex3.lt (Nat.le_of_eq g4.symm))) nin0)) ((Fv1_3.ext E4).keep K6 (ninS (Nat.ne_of_lt (Nat.lt_of_lt_of_le Ex3.lt (Nat.le_of_eq g4.symm))) nin0)) (fun q => hc8 (hinj _ _ (own_r _) (own_r _) q.symm)) (fun q => hc12 q.symm)) hZ (hw _ (List.mem_of_getElem? (i := 33) rfl)) (hw _ (List.mem_of_getElem? (i := 2) rfl)) (by decide) (by decide)) q16a q16c (g := (mkF mm 90 #[.val (.int p0), .val (.int p1), .val (.int p2), .val (.int p3), .val (.int ((p0 &&& (3 : Int32)) + (1 : Int32))), .val (.int (p1 &&& (3 : Int32))), .val (.int ((p2 &&& (3 : Int32)) + (1 : Int32))), .val (.int (p3 &&& (3 : Int32))), .val (.ref b1), .val (.ref b4), .val (.int (0 : Int32)), .val (.int (0 : Int32)), .unset] [(.ref b1), (.ref b4)])) rfl (by rw [hml]; rfl) (Steps.refl _) (argsL := [(.ref b1)]) (rest := []) (lenOf pd_60 rfl) rfl (by show 2 * 0 + _ ≤ _; exact Nat.le_of_eq rfl) (hb hby at_90) (fun _ _ => ⟨rfl, e15, (by decide : 2 + 0 ≤ _), (by decide : 4 + 0 ≤ _)⟩)
      dsimp only [Pt.U, Pt.locs, Pt.cells, Pt.slots] at X16 l16 y16 z16 st16 hQ16
      subst l16 y16 z16
      obtain ⟨rfl, N16q, e16⟩ := hQ16
      have N16 := Fr.app N15 N16q
      obtain ⟨fs, hr, hrun, hended, hW, hsame⟩ := X16.leave (v := some (.int (1 : Int32))) (fun h => by rw [Bd.returns] at h; cases h)
      refine ⟨_, _, pre11 _ ?_, hrun, hended, _, _, rfl, ?_, ⟨_, rfl⟩, hW, hsame.mono (by decide) (by decide)⟩
      · show Steps pg.tables ee below (T6.setTop (mkF mm 67 #[.val (.int p0), .val (.int p1), .val (.int p2), .val (.int p3), .val (.int ((p0 &&& (3 : Int32)) + (1 : Int32))), .val (.int (p1 &&& (3 : Int32))), .val (.int ((p2 &&& (3 : Int32)) + (1 : Int32))), .val (.int (p3 &&& (3 : Int32))), .val (.ref b1), .val (.ref b4), .unset, .unset, .unset] [(.int ((p2 &&& (3 : Int32)) + (1 : Int32))), (.int ((p0 &&& (3 : Int32)) + (1 : Int32)))])) _
        refine XS.icmpYes X6.here hx rfl (pc0 := 67) (pc' := 74) rfl (hb hby at_67) rfl (feq hc12).2 (by decide) (by decide) ?_
        show Steps pg.tables ee below (T6.setTop (mkF mm 74 #[.val (.int p0), .val (.int p1), .val (.int p2), .val (.int p3), .val (.int ((p0 &&& (3 : Int32)) + (1 : Int32))), .val (.int (p1 &&& (3 : Int32))), .val (.int ((p2 &&& (3 : Int32)) + (1 : Int32))), .val (.int (p3 &&& (3 : Int32))), .val (.ref b1), .val (.ref b4), .unset, .unset, .unset] [])) _
        refine XS.iconst X6.here hx rfl (hb hby at_74) ?_
        show Steps pg.tables ee below (T6.setTop (mkF mm 75 #[.val (.int p0), .val (.int p1), .val (.int p2), .val (.int p3), .val (.int ((p0 &&& (3 : Int32)) + (1 : Int32))), .val (.int (p1 &&& (3 : Int32))), .val (.int ((p2 &&& (3 : Int32)) + (1 : Int32))), .val (.int (p3 &&& (3 : Int32))), .val (.ref b1), .val (.ref b4), .unset, .unset, .unset] [(.int (0 : Int32))])) _
        refine XS.istore X6.here hx rfl (hb hby at_75) rfl (l' := #[.val (.int p0), .val (.int p1), .val (.int p2), .val (.int p3), .val (.int ((p0 &&& (3 : Int32)) + (1 : Int32))), .val (.int (p1 &&& (3 : Int32))), .val (.int ((p2 &&& (3 : Int32)) + (1 : Int32))), .val (.int (p3 &&& (3 : Int32))), .val (.ref b1), .val (.ref b4), .val (.int (0 : Int32)), .unset, .unset]) rfl ?_
        show Steps pg.tables ee below (T6.setTop (mkF mm 77 #[.val (.int p0), .val (.int p1), .val (.int p2), .val (.int p3), .val (.int ((p0 &&& (3 : Int32)) + (1 : Int32))), .val (.int (p1 &&& (3 : Int32))), .val (.int ((p2 &&& (3 : Int32)) + (1 : Int32))), .val (.int (p3 &&& (3 : Int32))), .val (.ref b1), .val (.ref b4), .val (.int (0 : Int32)), .unset, .unset] [])) _
        refine XS.aload X6.here hx rfl (hb hby at_77) rfl rfl ?_
        show Steps pg.tables ee below (T6.setTop (mkF mm 79 #[.val (.int p0), .val (.int p1), .val (.int p2), .val (.int p3), .val (.int ((p0 &&& (3 : Int32)) + (1 : Int32))), .val (.int (p1 &&& (3 : Int32))), .val (.int ((p2 &&& (3 : Int32)) + (1 : Int32))), .val (.int (p3 &&& (3 : Int32))), .val (.ref b1), .val (.ref b4), .val (.int (0 : Int32)), .unset, .unset] [(.ref b1)])) _
        refine XS.aload X6.here hx rfl (hb hby at_79) rfl rfl ?_
        show Steps pg.tables ee below (T6.setTop (mkF mm 81 #[.val (.int p0), .val (.int p1), .val (.int p2), .val (.int p3), .val (.int ((p0 &&& (3 : Int32)) + (1 : Int32))), .val (.int (p1 &&& (3 : Int32))), .val (.int ((p2 &&& (3 : Int32)) + (1 : Int32))), .val (.int (p3 &&& (3 : Int32))), .val (.ref b1), .val (.ref b4), .val (.int (0 : Int32)), .unset, .unset] [(.ref b4), (.ref b1)])) _
        refine st15.trans ?_
        show Steps pg.tables ee below (T15.setTop (mkF mm 84 #[.val (.int p0), .val (.int p1), .val (.int p2), .val (.int p3), .val (.int ((p0 &&& (3 : Int32)) + (1 : Int32))), .val (.int (p1 &&& (3 : Int32))), .val (.int ((p2 &&& (3 : Int32)) + (1 : Int32))), .val (.int (p3 &&& (3 : Int32))), .val (.ref b1), .val (.ref b4), .val (.int (0 : Int32)), .unset, .unset] [(.int (0 : Int32))])) _
        refine XS.istore X15.here hx rfl (hb hby at_84) rfl (l' := #[.val (.int p0), .val (.int p1), .val (.int p2), .val (.int p3), .val (.int ((p0 &&& (3 : Int32)) + (1 : Int32))), .val (.int (p1 &&& (3 : Int32))), .val (.int ((p2 &&& (3 : Int32)) + (1 : Int32))), .val (.int (p3 &&& (3 : Int32))), .val (.ref b1), .val (.ref b4), .val (.int (0 : Int32)), .val (.int (0 : Int32)), .unset]) rfl ?_
        show Steps pg.tables ee below (T15.setTop (mkF mm 86 #[.val (.int p0), .val (.int p1), .val (.int p2), .val (.int p3), .val (.int ((p0 &&& (3 : Int32)) + (1 : Int32))), .val (.int (p1 &&& (3 : Int32))), .val (.int ((p2 &&& (3 : Int32)) + (1 : Int32))), .val (.int (p3 &&& (3 : Int32))), .val (.ref b1), .val (.ref b4), .val (.int (0 : Int32)), .val (.int (0 : Int32)), .unset] [])) _
        refine XS.aload X15.here hx rfl (hb hby at_86) rfl rfl ?_
        show Steps pg.tables ee below (T15.setTop (mkF mm 88 #[.val (.int p0), .val (.int p1), .val (.int p2), .val (.int p3), .val (.int ((p0 &&& (3 : Int32)) + (1 : Int32))), .val (.int (p1 &&& (3 : Int32))), .val (.int ((p2 &&& (3 : Int32)) + (1 : Int32))), .val (.int (p3 &&& (3 : Int32))), .val (.ref b1), .val (.ref b4), .val (.int (0 : Int32)), .val (.int (0 : Int32)), .unset] [(.ref b4)])) _
        refine XS.aload X15.here hx rfl (hb hby at_88) rfl rfl ?_
        show Steps pg.tables ee below (T15.setTop (mkF mm 90 #[.val (.int p0), .val (.int p1), .val (.int p2), .val (.int p3), .val (.int ((p0 &&& (3 : Int32)) + (1 : Int32))), .val (.int (p1 &&& (3 : Int32))), .val (.int ((p2 &&& (3 : Int32)) + (1 : Int32))), .val (.int (p3 &&& (3 : Int32))), .val (.ref b1), .val (.ref b4), .val (.int (0 : Int32)), .val (.int (0 : Int32)), .unset] [(.ref b1), (.ref b4)])) _
        refine st16.trans ?_
        show Steps pg.tables ee below (T16.setTop (mkF mm 93 #[.val (.int p0), .val (.int p1), .val (.int p2), .val (.int p3), .val (.int ((p0 &&& (3 : Int32)) + (1 : Int32))), .val (.int (p1 &&& (3 : Int32))), .val (.int ((p2 &&& (3 : Int32)) + (1 : Int32))), .val (.int (p3 &&& (3 : Int32))), .val (.ref b1), .val (.ref b4), .val (.int (0 : Int32)), .val (.int (0 : Int32)), .unset] [(.int (0 : Int32))])) _
        refine XS.istore X16.here hx rfl (hb hby at_93) rfl (l' := #[.val (.int p0), .val (.int p1), .val (.int p2), .val (.int p3), .val (.int ((p0 &&& (3 : Int32)) + (1 : Int32))), .val (.int (p1 &&& (3 : Int32))), .val (.int ((p2 &&& (3 : Int32)) + (1 : Int32))), .val (.int (p3 &&& (3 : Int32))), .val (.ref b1), .val (.ref b4), .val (.int (0 : Int32)), .val (.int (0 : Int32)), .val (.int (0 : Int32))]) rfl ?_
        show Steps pg.tables ee below (T16.setTop (mkF mm 95 #[.val (.int p0), .val (.int p1), .val (.int p2), .val (.int p3), .val (.int ((p0 &&& (3 : Int32)) + (1 : Int32))), .val (.int (p1 &&& (3 : Int32))), .val (.int ((p2 &&& (3 : Int32)) + (1 : Int32))), .val (.int (p3 &&& (3 : Int32))), .val (.ref b1), .val (.ref b4), .val (.int (0 : Int32)), .val (.int (0 : Int32)), .val (.int (0 : Int32))] [])) _
        refine XS.iload X16.here hx rfl (hb hby at_95) rfl ?_
        show Steps pg.tables ee below (T16.setTop (mkF mm 97 #[.val (.int p0), .val (.int p1), .val (.int p2), .val (.int p3), .val (.int ((p0 &&& (3 : Int32)) + (1 : Int32))), .val (.int (p1 &&& (3 : Int32))), .val (.int ((p2 &&& (3 : Int32)) + (1 : Int32))), .val (.int (p3 &&& (3 : Int32))), .val (.ref b1), .val (.ref b4), .val (.int (0 : Int32)), .val (.int (0 : Int32)), .val (.int (0 : Int32))] [(.int (0 : Int32))])) _
        refine XS.iload X16.here hx rfl (hb hby at_97) rfl ?_
        show Steps pg.tables ee below (T16.setTop (mkF mm 99 #[.val (.int p0), .val (.int p1), .val (.int p2), .val (.int p3), .val (.int ((p0 &&& (3 : Int32)) + (1 : Int32))), .val (.int (p1 &&& (3 : Int32))), .val (.int ((p2 &&& (3 : Int32)) + (1 : Int32))), .val (.int (p3 &&& (3 : Int32))), .val (.ref b1), .val (.ref b4), .val (.int (0 : Int32)), .val (.int (0 : Int32)), .val (.int (0 : Int32))] [(.int (0 : Int32)), (.int (0 : Int32))])) _
        refine XS.icmpNo X16.here hx rfl (hb hby at_99) rfl (teq (by decide : (0 : Int32) = (0 : Int32))).2 ?_
        show Steps pg.tables ee below (T16.setTop (mkF mm 102 #[.val (.int p0), .val (.int p1), .val (.int p2), .val (.int p3), .val (.int ((p0 &&& (3 : Int32)) + (1 : Int32))), .val (.int (p1 &&& (3 : Int32))), .val (.int ((p2 &&& (3 : Int32)) + (1 : Int32))), .val (.int (p3 &&& (3 : Int32))), .val (.ref b1), .val (.ref b4), .val (.int (0 : Int32)), .val (.int (0 : Int32)), .val (.int (0 : Int32))] [])) _
        refine XS.iload X16.here hx rfl (hb hby at_102) rfl ?_
        show Steps pg.tables ee below (T16.setTop (mkF mm 104 #[.val (.int p0), .val (.int p1), .val (.int p2), .val (.int p3), .val (.int ((p0 &&& (3 : Int32)) + (1 : Int32))), .val (.int (p1 &&& (3 : Int32))), .val (.int ((p2 &&& (3 : Int32)) + (1 : Int32))), .val (.int (p3 &&& (3 : Int32))), .val (.ref b1), .val (.ref b4), .val (.int (0 : Int32)), .val (.int (0 : Int32)), .val (.int (0 : Int32))] [(.int (0 : Int32))])) _
        refine XS.iload X16.here hx rfl (hb hby at_104) rfl ?_
        show Steps pg.tables ee below (T16.setTop (mkF mm 106 #[.val (.int p0), .val (.int p1), .val (.int p2), .val (.int p3), .val (.int ((p0 &&& (3 : Int32)) + (1 : Int32))), .val (.int (p1 &&& (3 : Int32))), .val (.int ((p2 &&& (3 : Int32)) + (1 : Int32))), .val (.int (p3 &&& (3 : Int32))), .val (.ref b1), .val (.ref b4), .val (.int (0 : Int32)), .val (.int (0 : Int32)), .val (.int (0 : Int32))] [(.int (0 : Int32)), (.int (0 : Int32))])) _
        refine XS.icmpNo X16.here hx rfl (hb hby at_106) rfl (teq (by decide : (0 : Int32) = (0 : Int32))).2 ?_
        show Steps pg.tables ee below (T16.setTop (mkF mm 109 #[.val (.int p0), .val (.int p1), .val (.int p2), .val (.int p3), .val (.int ((p0 &&& (3 : Int32)) + (1 : Int32))), .val (.int (p1 &&& (3 : Int32))), .val (.int ((p2 &&& (3 : Int32)) + (1 : Int32))), .val (.int (p3 &&& (3 : Int32))), .val (.ref b1), .val (.ref b4), .val (.int (0 : Int32)), .val (.int (0 : Int32)), .val (.int (0 : Int32))] [])) _
        refine XS.iconst X16.here hx rfl (hb hby at_109) ?_
        show Steps pg.tables ee below (T16.setTop (mkF mm 110 #[.val (.int p0), .val (.int p1), .val (.int p2), .val (.int p3), .val (.int ((p0 &&& (3 : Int32)) + (1 : Int32))), .val (.int (p1 &&& (3 : Int32))), .val (.int ((p2 &&& (3 : Int32)) + (1 : Int32))), .val (.int (p3 &&& (3 : Int32))), .val (.ref b1), .val (.ref b4), .val (.int (0 : Int32)), .val (.int (0 : Int32)), .val (.int (0 : Int32))] [(.int (1 : Int32))])) _
        refine XS.goto X16.here hx rfl (pc0 := 110) (pc' := 114) rfl (hb hby at_110) (by decide) (by decide) ?_
        show Steps pg.tables ee below (T16.setTop (mkF mm 114 #[.val (.int p0), .val (.int p1), .val (.int p2), .val (.int p3), .val (.int ((p0 &&& (3 : Int32)) + (1 : Int32))), .val (.int (p1 &&& (3 : Int32))), .val (.int ((p2 &&& (3 : Int32)) + (1 : Int32))), .val (.int (p3 &&& (3 : Int32))), .val (.ref b1), .val (.ref b4), .val (.int (0 : Int32)), .val (.int (0 : Int32)), .val (.int (0 : Int32))] [(.int (1 : Int32))])) _
        exact retN X16 hx (t := .boolean) Bd.returns (by simp) (hb hby at_114) hr
      · show Qrm0 Z p0 p1 p2 p3 A h0 n0 _ T16.heap _
        rw [e16]
        exact ⟨rfl, N16⟩
set_option maxRecDepth 65536 in
set_option maxHeartbeats 40000000 in
theorem comes_1 {Post : Tables → Env → Array Value → State → Outcome → State → Prop} (hpost : ∀ tb e args s v u, (limb_1_1.after args s (.returned v) u = true ∧ limb_1_2.after args s (.returned v) u = true ∧ True) → FrameEnd s (.returned v) u (Jvm.fieldLocs frame_1_writes args s ++ Jvm.arrayLocs frame_1_arrays args s ++ Jvm.staticLocs frame_1_statics s) 16 128 → Post tb e args s (.returned v) u) :
    ArmFor flags0 classFile x code maxLocals ret World_1 tables_1 room_1 Calls_1 rest_1 Pre_1 Post := by
  intro l hfl _ _ p e ha hc hk s m args below hf hA hF happ hP
  obtain ⟨hcalls, hrest, hpre⟩ := hP
  obtain ⟨-, -, -, hnamed, -, -, -, hat⟩ := (Spec.applies_iff hf).mp happ
  obtain ⟨hg, hn⟩ := and_e (Cond.before_iff.mp (show (Jvm.Cond.and given_1 narrow_1).before args s = true from hpre))
  obtain ⟨gg1, gg2⟩ := and_e hg
  obtain ⟨gg3, gg4⟩ := and_e gg2
  obtain ⟨gg5, gg6⟩ := and_e gg4
  obtain ⟨gg7, gg8⟩ := and_e gg6
  obtain ⟨w0, w1, w2, w3, rfl⟩ : ∃ w0 w1 w2 w3 : Value, args = #[w0, w1, w2, w3] := by
    have hs : args.size = 4 := by simpa [Cond.value, given_1] using gg1
    obtain ⟨L⟩ := args
    match L, hs with
    | [w0, w1, w2, w3], _ => exact ⟨w0, w1, w2, w3, rfl⟩
  have hw := fun d (hd : d ∈ tables_1) => atoms_spec (ws := Jvm.Cond.code x code maxLocals ret :: tables_1) hat d (List.mem_cons_of_mem _ hd)
  have hfit : Fit s := fun {y c} hc i hi => by
    obtain ⟨ha, rfl⟩ := Array.getElem?_eq_some_iff.mp hc
    have q := List.all_eq_true.mp ((Array.all_eq_true_iff_forall_mem.mp hF) _ (Array.getElem_mem ha)) i (List.mem_range.mpr hi)
    simpa [Array.getElem?_eq_getElem hi] using q
  obtain ⟨i0, ei0⟩ := is_v gg3
  obtain rfl : w0 = (.int i0) := Option.some.inj ei0
  obtain ⟨i1, ei1⟩ := is_v gg5
  obtain rfl : w1 = (.int i1) := Option.some.inj ei1
  obtain ⟨i2, ei2⟩ := is_v gg7
  obtain rfl : w2 = (.int i2) := Option.some.inj ei2
  obtain ⟨i3, ei3⟩ := is_v gg8
  obtain rfl : w3 = (.int i3) := Option.some.inj ei3
  obtain ⟨gg9, gg10⟩ := and_e hn
  obtain ⟨gg11, gg12⟩ := and_e gg10
  obtain ⟨gg13, gg14⟩ := and_e gg12
  obtain ⟨gg15, gg16⟩ := and_e gg14
  obtain ⟨gg17, gg18⟩ := and_e gg16
  obtain ⟨gg19, gg20⟩ := and_e gg18
  obtain ⟨gg21, gg22⟩ := and_e gg20
  obtain ⟨gg23, gg24⟩ := and_e gg22
  obtain ⟨a_TIGER, ev_TIGER⟩ := exa_v gg9
  have E_TIGER := Exa.start ev_TIGER gg9
  have S_TIGER := Sta.start ev_TIGER (Or.inr ⟨(hw _ (List.mem_of_getElem? (i := 8) rfl)), (hw _ (List.mem_of_getElem? (i := 9) rfl))⟩)
  obtain ⟨a_BEAR, ev_BEAR⟩ := exa_v gg13
  have E_BEAR := Exa.start ev_BEAR gg13
  have S_BEAR := Sta.start ev_BEAR (Or.inr ⟨(hw _ (List.mem_of_getElem? (i := 8) rfl)), (hw _ (List.mem_of_getElem? (i := 28) rfl))⟩)
  obtain ⟨a_FISH, ev_FISH⟩ := exa_v gg19
  have E_FISH := Exa.start ev_FISH gg19
  have S_FISH := Sta.start ev_FISH (Or.inr ⟨(hw _ (List.mem_of_getElem? (i := 8) rfl)), (hw _ (List.mem_of_getElem? (i := 35) rfl))⟩)
  obtain ⟨a_GIRAFFE, ev_GIRAFFE⟩ := exa_v gg23
  have E_GIRAFFE := Exa.start ev_GIRAFFE gg23
  have S_GIRAFFE := Sta.start ev_GIRAFFE (Or.inr ⟨(hw _ (List.mem_of_getElem? (i := 8) rfl)), (hw _ (List.mem_of_getElem? (i := 37) rfl))⟩)
  have S_TOP_VALUE := Sta.start (own_eqi gg11) (Or.inr ⟨(hw _ (List.mem_of_getElem? (i := 2) rfl)), (hw _ (List.mem_of_getElem? (i := 22) rfl))⟩)
  have F_TIGER_ordinal := own_fld ev_TIGER gg15
  have F_BEAR_ordinal := own_fld ev_BEAR gg17
  have F_FISH_ordinal := own_fld ev_FISH gg21
  have F_GIRAFFE_ordinal := own_fld ev_GIRAFFE gg24
  have hinj : ∀ i j : Int32, (i = (0 : Int32) ∨ i = (1 : Int32) ∨ i = (2 : Int32) ∨ i = (3 : Int32)) → (j = (0 : Int32) ∨ j = (1 : Int32) ∨ j = (2 : Int32) ∨ j = (3 : Int32)) → own_A a_GIRAFFE a_BEAR a_FISH a_TIGER i = own_A a_GIRAFFE a_BEAR a_FISH a_TIGER j → i = j := by
    have n10 := F_BEAR_ordinal.ne F_GIRAFFE_ordinal (by decide)
    have n20 := F_FISH_ordinal.ne F_GIRAFFE_ordinal (by decide)
    have n21 := F_FISH_ordinal.ne F_BEAR_ordinal (by decide)
    have n30 := F_TIGER_ordinal.ne F_GIRAFFE_ordinal (by decide)
    have n31 := F_TIGER_ordinal.ne F_BEAR_ordinal (by decide)
    have n32 := F_TIGER_ordinal.ne F_FISH_ordinal (by decide)
    intro i j hi hj q
    rcases hi with rfl | rfl | rfl | rfl <;> rcases hj with rfl | rfl | rfl | rfl <;> first | rfl | exact absurd q n10 | exact absurd q.symm n10 | exact absurd q n20 | exact absurd q.symm n20 | exact absurd q n21 | exact absurd q.symm n21 | exact absurd q n30 | exact absurd q.symm n30 | exact absurd q n31 | exact absurd q.symm n31 | exact absurd q n32 | exact absurd q.symm n32
  obtain ⟨n, o, h1, h2, h3, _, L, rfl, ⟨rfl, N⟩, hq⟩ := rm0 l s _ hw tables_1 i0 i1 i2 i3 (own_A a_GIRAFFE a_BEAR a_FISH a_TIGER) s.heap s.heap.size (Old.start s) S_GIRAFFE S_BEAR S_FISH S_TIGER S_TOP_VALUE hinj p e ha hc hk s m _ below hf ((Spec.applies_iff_loose hf).mp happ).1 ⟨rfl, State.Warmed39.refl s, rfl⟩ trivial
  refine ⟨n, _, h1, h2, h3, hpost _ _ _ _ _ _ ⟨Cond.after_iff.mpr rfl, Cond.after_iff.mpr (eq_i res_at (Term.int_eval (1)) rfl), trivial⟩ ⟨hq.1, hq.2.1, (hq.2.2.sift fun y hy => Or.inr (N y hy)).mono (by decide) (by decide)⟩⟩
theorem main_1_1 : Claimed_1_1 := comes_1 fun _ _ _ _ _ _ h hF => ⟨h.1, hF⟩
theorem main_1_2 : Claimed_1_2 := comes_1 fun _ _ _ _ _ _ h hF => ⟨h.2.1, hF⟩
end Jvm.Pilot.@@N@@
namespace Jvm.Pilot.@@N@@
open Jvm Jvm.ClassFile Sem Op Lib Jvm.Free Jvm.Stand Jvm.Pilot.@@N@@.Jvm.D
/-! MADE BY PROGRAM (witnessworld.py) out of the Statement's table words and the real class files: 15 classes; the members and pool entries that the words name. The judged class is class 1, her method 2. -/
namespace start1
open Jvm.ClassFile
def u (s : String) : CpInfo := .utf8 (stringToUtf16 s)
/-- a pool by its gaps: so many unusable entries, then the entry; so many at the end -/
def gap : Nat → List CpInfo → List CpInfo
  | 0, r => r
  | n + 1, r => .unusable :: gap n r
def poolList (es : List (Nat × CpInfo)) (last : Nat) : List CpInfo := es.foldr (fun e r => gap e.1 (e.2 :: r)) (gap last [])
def pool (es : List (Nat × CpInfo)) (last : Nat) : Array CpInfo := ⟨poolList es last⟩
def fileOf (pool : Array CpInfo) (this : Nat) (attrs : Array Attribute := #[]) (ms : Array MethodInfo := #[]) (fl : Nat := 33) (sup : Nat := 0) (ifs : Array Nat := #[]) (fds : Array FieldInfo := #[]) : ClassFile where
  minorVersion := 0
  majorVersion := 65
  constantPool := pool
  accessFlags := fl
  thisClass := this
  superClass := sup
  interfaces := ifs
  fields := fds
  methods := ms
  attributes := attrs
def plain (name : String) (sup : Option ClassId) : Class where
  name := name
  kind := .ordinary
  loader := none
  accessFlags := 33
  super := sup
  interfaces := #[]
  cf := none
  fields := #[]
  methods := #[]
  instanceTypes := #[]
  staticTypes := #[]
  resolved := #[]
  callSites := []
  init := .initialized
  statics := none
  mirror := none

def pool0 : Array CpInfo := pool [(5, u "<init>"), (0, u "()V"), (1, .class_ 10), (1, u "java/lang/Object")] 113

def k0c0 : Code := { maxStack := 0, maxLocals := 1, code := object_method_1_code, exceptionTable := #[], attributes := #[] }
def k0m0 : Method := { name := "<init>", desc := "()V", sig := { parameters := [], returnType := none }, accessFlags := 1, code := some k0c0 }
/-- java/lang/Object -/
def k0 : Class := { plain "java/lang/Object" none with
  accessFlags := 33
  interfaces := #[]
  cf := some (fileOf pool0 8 #[] #[{ accessFlags := 1, nameIndex := 5, descriptorIndex := 6, attributes := #[] }] 33 0 #[] #[])
  fields := #[]
  methods := #[k0m0]
  instanceTypes := #[]
  staticTypes := #[]
  resolved := Array.replicate 124 none
  statics := none }

def pool1 : Array CpInfo := pool [(2, .class_ 4), (1, u "java/lang/Object"), (0, u "<init>"), (0, u "()V"), (0, .fieldref 8 9), (0, .class_ 10), (0, .nameAndType 11 12), (0, u "com/example/chapiteau/chapiteau/circustrain/Animal"), (0, u "GIRAFFE"), (0, u "Lcom/example/chapiteau/chapiteau/circustrain/Animal;"), (0, .fieldref 8 14), (0, .nameAndType 15 12), (0, u "BEAR"), (0, .fieldref 8 17), (0, .nameAndType 18 12), (0, u "FISH"), (0, .fieldref 8 20), (0, .nameAndType 21 12), (0, u "TIGER"), (0, .class_ 23), (0, u "com/example/chapiteau/chapiteau/circustrain/Wagon"), (0, .methodref 25 26), (0, .class_ 27), (0, .nameAndType 28 29), (0, u "com/example/chapiteau/chapiteau/circustrain/WagonMatchesPinLaw"), (0, u "animal"), (0, u "(I)Lcom/example/chapiteau/chapiteau/circustrain/Animal;"), (0, .methodref 22 31), (0, .nameAndType 5 32), (0, u "(ILcom/example/chapiteau/chapiteau/circustrain/Animal;)V"), (0, .methodref 22 34), (0, .nameAndType 35 36), (0, u "matches"), (0, u "(Lcom/example/chapiteau/chapiteau/circustrain/Wagon;)Z"), (3, u "law"), (0, u "(IIII)Z")] 2

def k1m0 : Method := { name := "<init>", desc := "()V", sig := { parameters := [], returnType := none }, accessFlags := 1, code := none }
def k1c1 : Code := { maxStack := 2, maxLocals := 1, code := method_2_code, exceptionTable := #[], attributes := #[] }
def k1m1 : Method := { name := "animal", desc := "(I)Lcom/example/chapiteau/chapiteau/circustrain/Animal;", sig := { parameters := [.int], returnType := some (.object "com/example/chapiteau/chapiteau/circustrain/Animal") }, accessFlags := 10, code := some k1c1 }
def k1c2 : Code := { maxStack := 4, maxLocals := 13, code := code, exceptionTable := #[], attributes := #[] }
def k1m2 : Method := { name := "law", desc := "(IIII)Z", sig := { parameters := [.int, .int, .int, .int], returnType := some .boolean }, accessFlags := 9, code := some k1c2 }
/-- com/example/chapiteau/chapiteau/circustrain/WagonMatchesPinLaw -/
def k1 : Class := { plain "com/example/chapiteau/chapiteau/circustrain/WagonMatchesPinLaw" (some 0) with
  accessFlags := 49
  interfaces := #[]
  cf := some (fileOf pool1 25 #[] #[{ accessFlags := 1, nameIndex := 5, descriptorIndex := 6, attributes := #[] }, { accessFlags := 10, nameIndex := 28, descriptorIndex := 29, attributes := #[] }, { accessFlags := 9, nameIndex := 40, descriptorIndex := 41, attributes := #[] }] 49 2 #[] #[])
  fields := #[]
  methods := #[k1m0, k1m1, k1m2]
  instanceTypes := #[]
  staticTypes := #[]
  resolved := Array.replicate 44 none
  statics := none }

def pool2 : Array CpInfo := pool [(1, .methodref 2 3), (0, .class_ 4), (0, .nameAndType 5 6), (0, u "java/lang/Object"), (0, u "<init>"), (0, u "()V"), (0, .class_ 8), (0, u "java/lang/Record")] 13

def k2c0 : Code := { maxStack := 1, maxLocals := 1, code := jdk_30_method_1_code, exceptionTable := #[], attributes := #[] }
def k2m0 : Method := { name := "<init>", desc := "()V", sig := { parameters := [], returnType := none }, accessFlags := 4, code := some k2c0 }
/-- java/lang/Record -/
def k2 : Class := { plain "java/lang/Record" (some 0) with
  accessFlags := 1057
  interfaces := #[]
  cf := some (fileOf pool2 7 #[] #[{ accessFlags := 4, nameIndex := 5, descriptorIndex := 6, attributes := #[] }] 1057 2 #[] #[])
  fields := #[]
  methods := #[k2m0]
  instanceTypes := #[]
  staticTypes := #[]
  resolved := Array.replicate 22 none
  statics := none }

def pool3 : Array CpInfo := pool [(1, .methodref 2 3), (0, .class_ 4), (0, .nameAndType 5 6), (0, u "java/lang/Record"), (0, u "<init>"), (0, u "()V"), (0, .fieldref 8 9), (0, .class_ 10), (0, .nameAndType 11 12), (0, u "com/example/chapiteau/chapiteau/circustrain/Wagon"), (0, u "TOP_VALUE"), (0, u "I"), (15, .fieldref 8 29), (0, .nameAndType 30 12), (0, u "value"), (0, .fieldref 8 32), (0, .nameAndType 33 34), (0, u "animal"), (0, u "Lcom/example/chapiteau/chapiteau/circustrain/Animal;"), (2, u "BOX"), (0, u "Ljava/util/List;"), (11, u "(ILcom/example/chapiteau/chapiteau/circustrain/Animal;)V"), (2, u "COPIES"), (0, u "[I"), (44, u "ANIMALS"), (13, u "KINDS"), (15, u "matches"), (0, u "(Lcom/example/chapiteau/chapiteau/circustrain/Wagon;)Z")] 40

def k3c0 : Code := { maxStack := 4, maxLocals := 3, code := prog_33_method_1_code, exceptionTable := #[], attributes := #[] }
def k3m0 : Method := { name := "<init>", desc := "(ILcom/example/chapiteau/chapiteau/circustrain/Animal;)V", sig := { parameters := [.int, (.object "com/example/chapiteau/chapiteau/circustrain/Animal")], returnType := none }, accessFlags := 1, code := some k3c0 }
def k3c1 : Code := { maxStack := 2, maxLocals := 2, code := prog_33_method_5_code, exceptionTable := #[], attributes := #[] }
def k3m1 : Method := { name := "matches", desc := "(Lcom/example/chapiteau/chapiteau/circustrain/Wagon;)Z", sig := { parameters := [(.object "com/example/chapiteau/chapiteau/circustrain/Wagon")], returnType := some .boolean }, accessFlags := 1, code := some k3c1 }
/-- com/example/chapiteau/chapiteau/circustrain/Wagon -/
def k3 : Class := { plain "com/example/chapiteau/chapiteau/circustrain/Wagon" (some 2) with
  accessFlags := 49
  interfaces := #[]
  cf := some (fileOf pool3 8 #[] #[{ accessFlags := 1, nameIndex := 5, descriptorIndex := 50, attributes := #[] }, { accessFlags := 1, nameIndex := 129, descriptorIndex := 130, attributes := #[] }] 49 2 #[] #[{ accessFlags := 18, nameIndex := 30, descriptorIndex := 12, attributes := #[] }, { accessFlags := 18, nameIndex := 33, descriptorIndex := 34, attributes := #[] }, { accessFlags := 26, nameIndex := 53, descriptorIndex := 54, attributes := #[] }, { accessFlags := 26, nameIndex := 11, descriptorIndex := 12, attributes := #[] }, { accessFlags := 26, nameIndex := 99, descriptorIndex := 12, attributes := #[] }, { accessFlags := 24, nameIndex := 113, descriptorIndex := 12, attributes := #[] }, { accessFlags := 26, nameIndex := 37, descriptorIndex := 38, attributes := #[] }])
  fields := #[{ name := "value", type := .int, accessFlags := 18, slot := 0, constantValue := 0 }, { name := "animal", type := (.object "com/example/chapiteau/chapiteau/circustrain/Animal"), accessFlags := 18, slot := 1, constantValue := 0 }, { name := "COPIES", type := (.array .int), accessFlags := 26, slot := 0, constantValue := 0 }, { name := "TOP_VALUE", type := .int, accessFlags := 26, slot := 1, constantValue := 0 }, { name := "ANIMALS", type := .int, accessFlags := 26, slot := 2, constantValue := 0 }, { name := "KINDS", type := .int, accessFlags := 24, slot := 3, constantValue := 0 }, { name := "BOX", type := (.object "java/util/List"), accessFlags := 26, slot := 4, constantValue := 0 }]
  methods := #[k3m0, k3m1]
  instanceTypes := #[.int, (.object "com/example/chapiteau/chapiteau/circustrain/Animal")]
  staticTypes := #[(.array .int), .int, .int, .int, (.object "java/util/List")]
  resolved := Array.replicate 171 none
  statics := some 0 }

def pool4 : Array CpInfo := pool [(1, .class_ 2), (0, u "java/lang/constant/Constable"), (0, .class_ 4), (0, u "java/lang/Object")] 6

/-- java/lang/constant/Constable -/
def k4 : Class := { plain "java/lang/constant/Constable" (some 0) with
  accessFlags := 1537
  interfaces := #[]
  cf := some (fileOf pool4 1 #[] #[] 1537 3 #[] #[])
  fields := #[]
  methods := #[]
  instanceTypes := #[]
  staticTypes := #[]
  resolved := Array.replicate 11 none
  statics := none }

def pool5 : Array CpInfo := pool [(1, .class_ 2), (0, u "java/lang/Comparable"), (0, .class_ 4), (0, u "java/lang/Object")] 7

/-- java/lang/Comparable -/
def k5 : Class := { plain "java/lang/Comparable" (some 0) with
  accessFlags := 1537
  interfaces := #[]
  cf := some (fileOf pool5 1 #[] #[] 1537 3 #[] #[])
  fields := #[]
  methods := #[]
  instanceTypes := #[]
  staticTypes := #[]
  resolved := Array.replicate 12 none
  statics := none }

def pool6 : Array CpInfo := pool [(1, .class_ 2), (0, u "java/io/Serializable"), (0, .class_ 4), (0, u "java/lang/Object")] 2

/-- java/io/Serializable -/
def k6 : Class := { plain "java/io/Serializable" (some 0) with
  accessFlags := 1537
  interfaces := #[]
  cf := some (fileOf pool6 1 #[] #[] 1537 3 #[] #[])
  fields := #[]
  methods := #[]
  instanceTypes := #[]
  staticTypes := #[]
  resolved := Array.replicate 7 none
  statics := none }

def pool7 : Array CpInfo := pool [(2, .class_ 4), (1, u "java/lang/Enum"), (0, u "name"), (0, u "Ljava/lang/String;"), (2, u "ordinal"), (0, u "I"), (1, .class_ 14), (1, u "java/lang/Object"), (4, u "hash"), (86, .class_ 108), (1, u "java/lang/Enum$EnumDesc"), (2, .class_ 112), (0, u "java/lang/constant/Constable"), (0, .class_ 114), (0, u "java/lang/Comparable"), (0, .class_ 116), (0, u "java/io/Serializable")] 87

/-- java/lang/Enum -/
def k7 : Class := { plain "java/lang/Enum" (some 0) with
  accessFlags := 1057
  interfaces := #[4, 5, 6]
  cf := some (fileOf pool7 2 #[.nestMembers #[106]] #[] 1057 12 #[111, 113, 115] #[{ accessFlags := 18, nameIndex := 5, descriptorIndex := 6, attributes := #[] }, { accessFlags := 18, nameIndex := 9, descriptorIndex := 10, attributes := #[] }, { accessFlags := 2, nameIndex := 19, descriptorIndex := 10, attributes := #[] }])
  fields := #[{ name := "name", type := (.object "java/lang/String"), accessFlags := 18, slot := 0, constantValue := 0 }, { name := "ordinal", type := .int, accessFlags := 18, slot := 1, constantValue := 0 }, { name := "hash", type := .int, accessFlags := 2, slot := 2, constantValue := 0 }]
  methods := #[]
  instanceTypes := #[(.object "java/lang/String"), .int, .int]
  staticTypes := #[]
  resolved := Array.replicate 204 none
  statics := none }

def pool8 : Array CpInfo := pool [(2, .class_ 4), (1, u "com/example/chapiteau/chapiteau/circustrain/Card"), (0, u "KINDS"), (0, u "Ljava/util/List;"), (94, u "WORDS"), (0, u "Ljava/lang/String;"), (0, .class_ 104), (0, u "java/lang/Object")] 32

/-- com/example/chapiteau/chapiteau/circustrain/Card -/
def k8 : Class := { plain "com/example/chapiteau/chapiteau/circustrain/Card" (some 0) with
  accessFlags := 1537
  interfaces := #[]
  cf := some (fileOf pool8 2 #[] #[] 1537 103 #[] #[{ accessFlags := 25, nameIndex := 5, descriptorIndex := 6, attributes := #[] }, { accessFlags := 25, nameIndex := 101, descriptorIndex := 102, attributes := #[] }])
  fields := #[{ name := "KINDS", type := (.object "java/util/List"), accessFlags := 25, slot := 0, constantValue := 0 }, { name := "WORDS", type := (.object "java/lang/String"), accessFlags := 25, slot := 1, constantValue := 0 }]
  methods := #[]
  instanceTypes := #[]
  staticTypes := #[(.object "java/util/List"), (.object "java/lang/String")]
  resolved := Array.replicate 137 none
  statics := none }

def pool9 : Array CpInfo := pool [(1, .class_ 2), (0, u "com/example/chapiteau/chapiteau/circustrain/Animal"), (2, u "GIRAFFE"), (0, u "Lcom/example/chapiteau/chapiteau/circustrain/Animal;"), (2, u "BEAR"), (2, u "FISH"), (2, u "TIGER"), (2, u "$VALUES"), (0, u "[Lcom/example/chapiteau/chapiteau/circustrain/Animal;"), (6, .class_ 28), (1, u "java/lang/Enum"), (8, u "letter"), (0, u "Ljava/lang/String;"), (2, u "ALL"), (0, u "Ljava/util/List;"), (60, .class_ 104), (0, u "com/example/chapiteau/chapiteau/circustrain/Card"), (0, u "LETTERS")] 21

/-- com/example/chapiteau/chapiteau/circustrain/Animal -/
def k9 : Class := { plain "com/example/chapiteau/chapiteau/circustrain/Animal" (some 7) with
  accessFlags := 16433
  interfaces := #[8]
  cf := some (fileOf pool9 1 #[] #[] 16433 26 #[103] #[{ accessFlags := 16409, nameIndex := 5, descriptorIndex := 6, attributes := #[] }, { accessFlags := 16409, nameIndex := 9, descriptorIndex := 6, attributes := #[] }, { accessFlags := 16409, nameIndex := 12, descriptorIndex := 6, attributes := #[] }, { accessFlags := 16409, nameIndex := 15, descriptorIndex := 6, attributes := #[] }, { accessFlags := 24, nameIndex := 105, descriptorIndex := 38, attributes := #[] }, { accessFlags := 26, nameIndex := 41, descriptorIndex := 42, attributes := #[] }, { accessFlags := 18, nameIndex := 37, descriptorIndex := 38, attributes := #[] }, { accessFlags := 4122, nameIndex := 18, descriptorIndex := 19, attributes := #[] }])
  fields := #[{ name := "GIRAFFE", type := (.object "com/example/chapiteau/chapiteau/circustrain/Animal"), accessFlags := 16409, slot := 0, constantValue := 0 }, { name := "BEAR", type := (.object "com/example/chapiteau/chapiteau/circustrain/Animal"), accessFlags := 16409, slot := 1, constantValue := 0 }, { name := "FISH", type := (.object "com/example/chapiteau/chapiteau/circustrain/Animal"), accessFlags := 16409, slot := 2, constantValue := 0 }, { name := "TIGER", type := (.object "com/example/chapiteau/chapiteau/circustrain/Animal"), accessFlags := 16409, slot := 3, constantValue := 0 }, { name := "LETTERS", type := (.object "java/lang/String"), accessFlags := 24, slot := 4, constantValue := 0 }, { name := "ALL", type := (.object "java/util/List"), accessFlags := 26, slot := 5, constantValue := 0 }, { name := "letter", type := (.object "java/lang/String"), accessFlags := 18, slot := 3, constantValue := 0 }, { name := "$VALUES", type := (.array (.object "com/example/chapiteau/chapiteau/circustrain/Animal")), accessFlags := 4122, slot := 6, constantValue := 0 }]
  methods := #[]
  instanceTypes := #[(.object "java/lang/String"), .int, .int, (.object "java/lang/String")]
  staticTypes := #[(.object "com/example/chapiteau/chapiteau/circustrain/Animal"), (.object "com/example/chapiteau/chapiteau/circustrain/Animal"), (.object "com/example/chapiteau/chapiteau/circustrain/Animal"), (.object "com/example/chapiteau/chapiteau/circustrain/Animal"), (.object "java/lang/String"), (.object "java/util/List"), (.array (.object "com/example/chapiteau/chapiteau/circustrain/Animal"))]
  resolved := Array.replicate 127 none
  statics := some 1 }

def pool10 : Array CpInfo := pool [(1, u "java/lang/Cloneable"), (0, .class_ 1), (0, u "java/lang/Object"), (0, .class_ 3)] 3

/-- java/lang/Cloneable -/
def k10 : Class := { plain "java/lang/Cloneable" (some 0) with
  accessFlags := 1537
  interfaces := #[]
  cf := some (fileOf pool10 2 #[] #[] 1537 4 #[] #[])
  fields := #[]
  methods := #[]
  instanceTypes := #[]
  staticTypes := #[]
  resolved := Array.replicate 8 none
  statics := none }

/-- the primitive byte -/
def k11 : Class := { plain "byte" none with kind := .primitive 'B', accessFlags := 0x411 }
/-- [B -/
def k12 : Class := { plain "[B" (some 0) with kind := .array 11 .byte, interfaces := #[10, 6], accessFlags := 1041 }

/-- the primitive int -/
def k13 : Class := { plain "int" none with kind := .primitive 'I', accessFlags := 0x411 }
/-- [I -/
def k14 : Class := { plain "[I" (some 0) with kind := .array 13 .int, interfaces := #[10, 6], accessFlags := 1041 }

def heap : Heap := #[{ cls := 3, slots := #[.null, .int 4, .int 0, .int 0, .null], vm := .statics 3 },
  { cls := 9, slots := #[.ref 5, .ref 3, .ref 4, .ref 2, .null, .null, .null], vm := .statics 9 },
  { cls := 9, slots := #[.null, .int 3, .int 0, .null], vm := .none },
  { cls := 9, slots := #[.null, .int 1, .int 0, .null], vm := .none },
  { cls := 9, slots := #[.null, .int 2, .int 0, .null], vm := .none },
  { cls := 9, slots := #[.null, .int 0, .int 0, .null], vm := .none }]
def classes : Array Class := #[k0, k1, k2, k3, k4, k5, k6, k7, k8, k9, k10, k11, k12, k13, k14]
def interned : List (Array UInt16 × Addr) := []
def slotsUsed : Nat := 28
def theMethod : MethodId := ⟨1, 2⟩
def args0 : Array Value := #[.int 0, .int 1, .int 2, .int 3]
def aboutOver (below : List Frame) : State where
  vm := { classes := classes, interned := interned.toArray }
  heap := heap
  slotsUsed := slotsUsed
  threads := #[{ frames := .invoking theMethod args0 :: below }]
def below0 : List Frame := [.native { method := ⟨0, 0⟩, args := #[] }]
def about1 : State := aboutOver below0
def p0 : Program := .bare "" "" ""
def e0 : Env := launch0.env 0 0 0
theorem w_frames : about1.frames = Frame.invoking theMethod args0 :: below0 := rfl
set_option maxRecDepth 65536 in
theorem w_args : argsFit about1.vm theMethod args0 = true := by decide +kernel
set_option maxRecDepth 65536 in
theorem w_heap : heapFits about1 = true := by decide +kernel
set_option maxRecDepth 65536 in
theorem w_runnable : about1.curStatus? = some .runnable := by decide +kernel
set_option maxRecDepth 65536 in
theorem w_alone : about1.alone = true := by decide +kernel
set_option maxRecDepth 65536 in
theorem w_named : about1.methodNamed? x = some theMethod := by decide +kernel
set_option maxRecDepth 65536 in
theorem w_hears : about1.hears theMethod below0 = true := by decide +kernel
set_option maxRecDepth 65536 in
theorem w_ripe : about1.ripe theMethod args0 below0 = true := by decide +kernel
theorem w_running : about1.status = .running := rfl
set_option maxRecDepth 65536 in
theorem w_room : about1.hasRoom e0.platform room_1 = true :=
  launch0.hasRoom_least _ room_1 (by decide +kernel) (by decide +kernel) (by decide +kernel) (by decide +kernel) (by decide +kernel) (by decide +kernel)
theorem allAtoms_all (ts : List Jvm.Cond) (a : Array Jvm.Value) (st : Jvm.State) : (allAtoms ts).before a st = ts.all (fun c => c.before a st) := by
  induction ts with
  | nil => rfl
  | cons c t ih =>
    show (Jvm.Cond.and c (allAtoms t)).before a st = _
    rw [Jvm.Cond.before_and, ih, List.all_cons]
def words1 : List Jvm.Cond := Jvm.Cond.code x code maxLocals ret :: tables_1
/-- a 'code' word, met by the world's own term for the bytes: nothing is compared byte by byte -/
theorem code_word {y : MethodName} {bytes : ByteArray} {mx : Nat} {rt : Option FieldType} {a : Array Value} {s : State} {m : MethodId} {meth : Method} {c : Code} (h1 : s.methodNamed? y = some m) (h2 : s.vm.method? m = some meth) (h3 : meth.code = some c) (h4 : c.code = bytes)
    (h5 : (c.maxLocals == mx && c.exceptionTable.isEmpty && decide (c.maxStack ≤ mostOperands) && decide (meth.sig.returnType = rt) && !meth.locks && decide (parseMethodDescriptor y.desc = some meth.sig)) = true) : (Jvm.Cond.code y bytes mx rt).before a s = true := by
  simp only [Bool.and_eq_true, beq_iff_eq, Bool.not_eq_true', decide_eq_true_eq] at h5
  obtain ⟨⟨⟨⟨⟨g1, g2⟩, g3⟩, g4⟩, g5⟩, g6⟩ := h5
  simp [Cond.before, Cond.holds, Cond.value, h1, h2, h3, h4, g1, g2, g3, g4, g5, g6]
def isCode : Jvm.Cond → Bool
  | .code _ _ _ _ => true
  | _ => false
theorem all_split {L : List Jvm.Cond} {P : Jvm.Cond → Bool} (h1 : L.all (fun c => isCode c || P c) = true) (h2 : ∀ c ∈ L.filter isCode, P c = true) : L.all P = true := by
  refine List.all_eq_true.mpr fun c hc => ?_
  have h := List.all_eq_true.mp h1 c hc
  rcases Bool.eq_false_or_eq_true (isCode c) with hi | hi
  · exact h2 c (List.mem_filter.mpr ⟨hc, hi⟩)
  · simpa [hi] using h
set_option maxRecDepth 65536 in
theorem w_c0 : (Jvm.Cond.code x code maxLocals ret).before args0 about1 = true := code_word (m := ⟨1, 2⟩) (meth := k1m2) (c := k1c2) (by decide +kernel) rfl rfl rfl (by decide +kernel)
set_option maxRecDepth 65536 in
theorem w_c1 : (Jvm.Cond.code ({ cls := "com/example/chapiteau/chapiteau/circustrain/WagonMatchesPinLaw", name := "animal", desc := "(I)Lcom/example/chapiteau/chapiteau/circustrain/Animal;" } : Jvm.MethodName) method_2_code (1 : Nat) (Option.some (Jvm.ClassFile.FieldType.object "com/example/chapiteau/chapiteau/circustrain/Animal"))).before args0 about1 = true := code_word (m := ⟨1, 1⟩) (meth := k1m1) (c := k1c1) (by decide +kernel) rfl rfl rfl (by decide +kernel)
set_option maxRecDepth 65536 in
theorem w_c2 : (Jvm.Cond.code ({ cls := "com/example/chapiteau/chapiteau/circustrain/Wagon", name := "<init>", desc := "(ILcom/example/chapiteau/chapiteau/circustrain/Animal;)V" } : Jvm.MethodName) prog_33_method_1_code (3 : Nat) (Option.none : Option Jvm.ClassFile.FieldType)).before args0 about1 = true := code_word (m := ⟨3, 0⟩) (meth := k3m0) (c := k3c0) (by decide +kernel) rfl rfl rfl (by decide +kernel)
set_option maxRecDepth 65536 in
theorem w_c3 : (Jvm.Cond.code ({ cls := "java/lang/Record", name := "<init>", desc := "()V" } : Jvm.MethodName) jdk_30_method_1_code (1 : Nat) (Option.none : Option Jvm.ClassFile.FieldType)).before args0 about1 = true := code_word (m := ⟨2, 0⟩) (meth := k2m0) (c := k2c0) (by decide +kernel) rfl rfl rfl (by decide +kernel)
set_option maxRecDepth 65536 in
theorem w_c4 : (Jvm.Cond.code ({ cls := "java/lang/Object", name := "<init>", desc := "()V" } : Jvm.MethodName) object_method_1_code (1 : Nat) (Option.none : Option Jvm.ClassFile.FieldType)).before args0 about1 = true := code_word (m := ⟨0, 0⟩) (meth := k0m0) (c := k0c0) (by decide +kernel) rfl rfl rfl (by decide +kernel)
set_option maxRecDepth 65536 in
theorem w_c5 : (Jvm.Cond.code ({ cls := "com/example/chapiteau/chapiteau/circustrain/Wagon", name := "matches", desc := "(Lcom/example/chapiteau/chapiteau/circustrain/Wagon;)Z" } : Jvm.MethodName) prog_33_method_5_code (2 : Nat) (Option.some Jvm.ClassFile.FieldType.boolean)).before args0 about1 = true := code_word (m := ⟨3, 1⟩) (meth := k3m1) (c := k3c1) (by decide +kernel) rfl rfl rfl (by decide +kernel)
def codes1 : List Jvm.Cond := [Jvm.Cond.code x code maxLocals ret, Jvm.Cond.code ({ cls := "com/example/chapiteau/chapiteau/circustrain/WagonMatchesPinLaw", name := "animal", desc := "(I)Lcom/example/chapiteau/chapiteau/circustrain/Animal;" } : Jvm.MethodName) method_2_code (1 : Nat) (Option.some (Jvm.ClassFile.FieldType.object "com/example/chapiteau/chapiteau/circustrain/Animal")), Jvm.Cond.code ({ cls := "com/example/chapiteau/chapiteau/circustrain/Wagon", name := "<init>", desc := "(ILcom/example/chapiteau/chapiteau/circustrain/Animal;)V" } : Jvm.MethodName) prog_33_method_1_code (3 : Nat) (Option.none : Option Jvm.ClassFile.FieldType), Jvm.Cond.code ({ cls := "java/lang/Record", name := "<init>", desc := "()V" } : Jvm.MethodName) jdk_30_method_1_code (1 : Nat) (Option.none : Option Jvm.ClassFile.FieldType), Jvm.Cond.code ({ cls := "java/lang/Object", name := "<init>", desc := "()V" } : Jvm.MethodName) object_method_1_code (1 : Nat) (Option.none : Option Jvm.ClassFile.FieldType), Jvm.Cond.code ({ cls := "com/example/chapiteau/chapiteau/circustrain/Wagon", name := "matches", desc := "(Lcom/example/chapiteau/chapiteau/circustrain/Wagon;)Z" } : Jvm.MethodName) prog_33_method_5_code (2 : Nat) (Option.some Jvm.ClassFile.FieldType.boolean)]
set_option maxRecDepth 65536 in
theorem codes_eq : words1.filter isCode = codes1 := rfl
theorem w_codes : ∀ c ∈ words1.filter isCode, c.before args0 about1 = true := by
  rw [codes_eq]
  intro c hc
  simp only [codes1, List.mem_cons, List.not_mem_nil, or_false] at hc
  rcases hc with rfl | rfl | rfl | rfl | rfl | rfl
  · exact w_c0
  · exact w_c1
  · exact w_c2
  · exact w_c3
  · exact w_c4
  · exact w_c5
set_option maxRecDepth 65536 in
theorem w_t1 : (words1.take 24).all (fun c => isCode c || c.before args0 about1) = true := by decide +kernel
set_option maxRecDepth 65536 in
theorem w_t2 : (words1.drop 24).all (fun c => isCode c || c.before args0 about1) = true := by decide +kernel
theorem w_tables : (allAtoms (Jvm.Cond.code x code maxLocals ret :: tables_1)).before args0 about1 = true := by
  rw [allAtoms_all]
  show words1.all (fun c => c.before args0 about1) = true
  refine all_split ?_ w_codes
  rw [← List.take_append_drop 24 words1, List.all_append, w_t1, w_t2]
  rfl
set_option maxRecDepth 65536 in
theorem w_case : (Jvm.Cond.and given_1 narrow_1).before args0 about1 = true := by decide +kernel
theorem w_applies : (headSpec (Jvm.Cond.code x code maxLocals ret :: tables_1) room_1).applies x e0.platform about1 = true :=
  (Spec.applies_iff w_frames).mpr ⟨w_running, w_runnable, w_alone, w_named, w_hears, w_ripe, w_room, w_tables⟩
theorem atStart : AtStart classFile x code maxLocals ret World_1 tables_1 room_1 Calls_1 rest_1 Pre_1 launch0 p0 e0 about1 theMethod args0 below0 :=
  ⟨lists_1, trivial, launch0.admits_env _ _ _, launch0.least_env, fairChoices_fair.cas, fairChoices_fair.clock, w_frames, w_args, w_heap, w_applies, trivial, trivial, w_case⟩
end start1
theorem witness_1 : WitnessClaimed_1 := ⟨start1.p0, start1.e0, start1.about1, start1.theMethod, start1.args0, start1.below0, start1.atStart⟩
end Jvm.Pilot.@@N@@
