import JvmDerived
import JvmDerived.Pilot.@@N@@Statement
import JvmDerived.Pilot.@@N@@Code
set_option linter.unusedVariables false
set_option linter.unusedSimpArgs false
namespace Jvm.Pilot.@@N@@
open Jvm Jvm.ClassFile Sem Op Lib Jvm.Free Jvm.Stand Jvm.LawKit Jvm.RoadKit Bundle Jvm.Pilot.@@N@@.Jvm.D
theorem own_eqi {s : State} {args : Array Value} {t : Term} {k : Int32} (h : (Jvm.Cond.eq t (Term.int k)).value args s none s [] = some true) : t.eval args s none [] s = some (.int k) := by
  obtain ⟨u, v, hu, hv, k1, k2⟩ := cmp_v (Or.inl h)
  obtain rfl : v = .int k := Option.some.inj (hv.symm.trans (Term.int_eval k))
  obtain ⟨z, rfl⟩ := k2
  rw [hu]
  simp [Cond.value, hu, hv] at h
  rw [h]
theorem own_fld {s : State} {args : Array Value} {t : Term} {C n d : String} {k : Int32} {x : Addr} (ev : t.eval args s none [] s = some (.ref x)) (h : (Jvm.Cond.eq (Term.field t C n d) (Term.int k)).value args s none s [] = some true) : Fld s s.heap x C n d (.int k) := by
  have hu := own_eqi h
  rw [fld_at ev] at hu
  exact Fld.start hu
theorem own_nl (k : Int32) : ¬ ((k &&& (2147483647 : Int32)) < (0 : Int32)) := by
  have h := (c_and k 2147483647 (by decide)).1
  rw [Int32.lt_iff_toInt_lt]
  exact Int.not_lt.mpr h
theorem d2_0 : decode jdk_30_method_1_code 0 = .ok (.aload_n 0, 1) := by decide +kernel
theorem d2_1 : decode jdk_30_method_1_code 1 = .ok (.invokespecial 1, 3) := by decide +kernel
theorem d2_4 : decode jdk_30_method_1_code 4 = .ok (.return_, 1) := by decide +kernel
theorem pn_3 : plainName "java/lang/Record" = true := by first | (simp [plainName, overriddenIn]; done) | decide +kernel
theorem ef_2_4 (m : MethodId) (x0 : Addr) : entryFrame m #[(.ref x0)] 1 = mkF m 0 #[.val (.ref x0)] [] := by first | (simp [entryFrame, mkF, argsToLocals, Value.category]; done) | rfl
def QrmRec (Z : State) (a : Addr) (h0 : Heap) (n0 : Nat) (v : Option Value) (h : Heap) (L : List Loc) : Prop := v = none ∧ Fr n0 L ∧ h = h0
set_option maxRecDepth 65536 in
set_option maxHeartbeats 40000000 in
theorem rmRec (l : Launch) (Z : State) (a0 : Array Value) (hw : ∀ d ∈ tables_1, d.before a0 Z = true) (ws : List Jvm.Cond) (a : Addr) (h0 : Heap) (n0 : Nat) (O0 : Old Z n0 h0)  :
    MetFree l (⟨"java/lang/Record", "<init>", "()V"⟩ : MethodName) (head1 (Jvm.Cond.code (⟨"java/lang/Record", "<init>", "()V"⟩ : MethodName) jdk_30_method_1_code 1 none :: ws) ({ frames := 1, cells := 0, slots := 0, locals := 12 } : Room)) (fun a_ U_ => a_ = #[(.ref a)] ∧ Z.Warmed39 U_.vm ∧ U_.heap = h0) (fun _ _ _ _ _ => True) (fun _ U_ o_ U'_ => ∃ v_ L_, o_ = .returned v_ ∧ QrmRec Z a h0 n0 v_ U'_.heap L_ ∧ FrameEnd U_ o_ U'_ L_ ({ frames := 1, cells := 0, slots := 0, locals := 12 } : Room).cells ({ frames := 1, cells := 0, slots := 0, locals := 12 } : Room).slots) := by
  refine MetFree.of_bodySF (plainFor_of_name pn_3) hisR ?_
  intro pg ee s mm args below meth cc s₁ Bd hml0 hP hK
  obtain ⟨rfl, hZ, hh⟩ := hP
  have hx := Bd.exec
  have hby := Bd.bytes
  have hml : cc.maxLocals = 1 := hml0
  have hown : s.vm.findClass "java/lang/Record" = some mm.cls := findClass_of_methodNamed Bd.named
  have hnm := (name_of_methodNamed Bd.named Bd.method).1
  have X0 : Stand pg l ee ({ frames := 1, cells := 0, slots := 0, locals := 12 } : Room) s mm #[(.ref a)] below meth cc s₁ [] 0 0 := Stand.of_body Bd
  have e0 : s₁.heap = h0 := by rw [← hh, Bd.state]; rfl
  have N0 := Fr.nil n0
  have K0 : Keep h0 h0 ([] : List Addr) := Keep.refl _ _
  have pre0 : ∀ t, Steps pg.tables ee below (s₁.setTop (mkF mm 0 #[.val (.ref a)] [])) t → Steps pg.tables ee below (s₁.setTop (entryFrame mm #[(.ref a)] 1)) t := fun t k => castTop (ef_2_4 mm a) k
  obtain ⟨T1, X1, e1, st1⟩ := initO X0 hx hZ hown (hw _ (List.mem_of_getElem? (i := 12) rfl)) (hw _ (List.mem_of_getElem? (i := 13) rfl)) (hw _ (List.mem_of_getElem? (i := 14) rfl)) e0 (g := (mkF mm 1 #[.val (.ref a)] [(.ref a)])) rfl (by rw [hml]; rfl) rfl (hb hby d2_1) (by decide) (W := 0) (by show 2 * 0 + _ ≤ _; exact Nat.le_of_eq rfl) (by decide)
  obtain ⟨fs, hr, hrun, hended, hW, hsame⟩ := X1.leave (v := none) (fun _ => rfl)
  refine ⟨_, _, pre0 _ ?_, hrun, hended, _, _, rfl, ?_, ⟨_, rfl⟩, hW, hsame.mono (by decide) (by decide)⟩
  · show Steps pg.tables ee below (s₁.setTop (mkF mm 0 #[.val (.ref a)] [])) _
    refine XS.aloadN X0.here hx rfl (hb hby d2_0) rfl rfl ?_
    show Steps pg.tables ee below (s₁.setTop (mkF mm 1 #[.val (.ref a)] [(.ref a)])) _
    refine st1 _ ?_
    show Steps pg.tables ee below (T1.setTop (mkF mm 4 #[.val (.ref a)] [])) _
    exact X1.returnOut hx Bd.returns (hb hby d2_4) hr
  · show QrmRec Z a h0 n0 _ T1.heap _
    rw [e1]
    exact ⟨rfl, N0, rfl⟩
theorem d1_0 : decode prog_34_method_1_code 0 = .ok (.aload_n 0, 1) := by decide +kernel
theorem d1_1 : decode prog_34_method_1_code 1 = .ok (.invokespecial 1, 3) := by decide +kernel
theorem pd_7 : parseMethodDescriptor "()V" = some ⟨[], none⟩ := by decide +kernel
theorem d1_4 : decode prog_34_method_1_code 4 = .ok (.iload_n 1, 1) := by decide +kernel
theorem d1_5 : decode prog_34_method_1_code 5 = .ok (.ifCond .ge 17, 3) := by decide +kernel
theorem d1_22 : decode prog_34_method_1_code 22 = .ok (.aload_n 0, 1) := by decide +kernel
theorem d1_23 : decode prog_34_method_1_code 23 = .ok (.iload_n 1, 1) := by decide +kernel
theorem d1_24 : decode prog_34_method_1_code 24 = .ok (.putfield 16, 3) := by decide +kernel
theorem d1_27 : decode prog_34_method_1_code 27 = .ok (.return_, 1) := by decide +kernel
theorem pn_14 : plainName "com/example/chapiteau/chapiteau/goldentrain/Wagon" = true := by first | (simp [plainName, overriddenIn]; done) | decide +kernel
theorem ef_1_15 (m : MethodId) (x0 : Addr) (x1 : Int32) : entryFrame m #[(.ref x0), (.int x1)] 2 = mkF m 0 #[.val (.ref x0), .val (.int x1)] [] := by first | (simp [entryFrame, mkF, argsToLocals, Value.category]; done) | rfl
def QrmI (Z : State) (a : Addr) (p : Int32) (h0 : Heap) (n0 : Nat) (v : Option Value) (h : Heap) (L : List Loc) : Prop := v = none ∧ Fr n0 L ∧ Keep h0 h [a] ∧ Exa Z h a "com/example/chapiteau/chapiteau/goldentrain/Wagon" ∧ Fld Z h a "com/example/chapiteau/chapiteau/goldentrain/Wagon" "value" "I" (.int p)
set_option maxRecDepth 65536 in
set_option maxHeartbeats 40000000 in
theorem rmI (l : Launch) (Z : State) (a0 : Array Value) (hw : ∀ d ∈ tables_1, d.before a0 Z = true) (ws : List Jvm.Cond) (a : Addr) (p : Int32) (h0 : Heap) (n0 : Nat) (O0 : Old Z n0 h0) (E_a : Exa Z h0 a "com/example/chapiteau/chapiteau/goldentrain/Wagon") (F_value_a : Fld Z h0 a "com/example/chapiteau/chapiteau/goldentrain/Wagon" "value" "I" (.int (0 : Int32))) (g_a : n0 ≤ a) (hp : ¬ (p < (0 : Int32))) :
    MetFree l (⟨"com/example/chapiteau/chapiteau/goldentrain/Wagon", "<init>", "(I)V"⟩ : MethodName) (head1 (Jvm.Cond.code (⟨"com/example/chapiteau/chapiteau/goldentrain/Wagon", "<init>", "(I)V"⟩ : MethodName) prog_34_method_1_code 2 none :: ws) ({ frames := 2, cells := 0, slots := 0, locals := 24 } : Room)) (fun a_ U_ => a_ = #[(.ref a), (.int p)] ∧ Z.Warmed39 U_.vm ∧ U_.heap = h0) (fun _ _ _ _ _ => True) (fun _ U_ o_ U'_ => ∃ v_ L_, o_ = .returned v_ ∧ QrmI Z a p h0 n0 v_ U'_.heap L_ ∧ FrameEnd U_ o_ U'_ L_ ({ frames := 2, cells := 0, slots := 0, locals := 24 } : Room).cells ({ frames := 2, cells := 0, slots := 0, locals := 24 } : Room).slots) := by
  refine MetFree.of_bodySF (plainFor_of_name pn_14) hisR ?_
  intro pg ee s mm args below meth cc s₁ Bd hml0 hP hK
  obtain ⟨rfl, hZ, hh⟩ := hP
  have hx := Bd.exec
  have hby := Bd.bytes
  have hml : cc.maxLocals = 2 := hml0
  have hown : s.vm.findClass "com/example/chapiteau/chapiteau/goldentrain/Wagon" = some mm.cls := findClass_of_methodNamed Bd.named
  have hnm := (name_of_methodNamed Bd.named Bd.method).1
  have X0 : Stand pg l ee ({ frames := 2, cells := 0, slots := 0, locals := 24 } : Room) s mm #[(.ref a), (.int p)] below meth cc s₁ [] 0 0 := Stand.of_body Bd
  have e0 : s₁.heap = h0 := by rw [← hh, Bd.state]; rfl
  have N0 := Fr.nil n0
  have K0 : Keep h0 h0 ([a] : List Addr) := Keep.refl _ _
  have pre0 : ∀ t, Steps pg.tables ee below (s₁.setTop (mkF mm 0 #[.val (.ref a), .val (.int p)] [])) t → Steps pg.tables ee below (s₁.setTop (entryFrame mm #[(.ref a), (.int p)] 2)) t := fun t k => castTop (ef_1_15 mm a p) k
  obtain ⟨_, _, ⟨T1, L1, k1, n1⟩, -, X1, ⟨Lc1, hQ1, l1, y1, z1⟩, st1⟩ := X0.specialBack hx (y := (⟨"java/lang/Record", "<init>", "()V"⟩ : MethodName)) rfl hown (mvT hZ (hw _ (List.mem_of_getElem? (i := 7) rfl))) (mvT hZ (hw _ (List.mem_of_getElem? (i := 8) rfl))) (mvT hZ (hw _ (List.mem_of_getElem? (i := 11) rfl))) (by decide) (backOf (W := 0) (rmRec l Z a0 hw [] a h0 n0 O0) hZ (hw _ (List.mem_of_getElem? (i := 11) rfl)) (hw _ (List.mem_of_getElem? (i := 10) rfl)) (by decide) (by decide)) (g := (mkF mm 1 #[.val (.ref a), .val (.int p)] [(.ref a)])) rfl (by rw [hml]; rfl) (Steps.refl _) (a := a) (argsL := []) (rest := []) (lenOf pd_7 rfl) rfl (by show 2 * 0 + _ ≤ _; exact Nat.le_of_eq rfl) (hb hby d1_1) (fun _ _ => ⟨rfl, e0, (by decide : 0 + 0 ≤ _), (by decide : 0 + 0 ≤ _)⟩)
  dsimp only [Pt.U, Pt.locs, Pt.cells, Pt.slots] at X1 l1 y1 z1 st1 hQ1
  subst l1 y1 z1
  obtain ⟨rfl, N1q, e1⟩ := hQ1
  have N1 := Fr.app N0 N1q
  obtain ⟨T2, h2, X2, e2, W2, st2⟩ := putF X1 hx hZ hown (host := "") (Or.inl (hw _ (List.mem_of_getElem? (i := 15) rfl))) Via.refl e1 F_value_a E_a (Or.inr ⟨(hw _ (List.mem_of_getElem? (i := 16) rfl)), rfl, hnm⟩) (hw _ (List.mem_of_getElem? (i := 2) rfl)) (ty := .int) (by decide) rfl rfl (g := (mkF mm 24 #[.val (.ref a), .val (.int p)] [(.int p), (.ref a)])) rfl rfl (hb hby d1_24)
  have Fw2 : Fld Z h2 a "com/example/chapiteau/chapiteau/goldentrain/Wagon" "value" "I" (.int p) := F_value_a.same W2
  have N2 := Fr.snoc X2 N1 g_a
  have O2 := O0.wr W2 g_a
  have KK2 := K0.wr W2 (Or.inl (by simp))
  obtain ⟨fs, hr, hrun, hended, hW, hsame⟩ := X2.leave (v := none) (fun _ => rfl)
  refine ⟨_, _, pre0 _ ?_, hrun, hended, _, _, rfl, ?_, ⟨_, rfl⟩, hW, hsame.mono (by decide) (by decide)⟩
  · show Steps pg.tables ee below (s₁.setTop (mkF mm 0 #[.val (.ref a), .val (.int p)] [])) _
    refine XS.aloadN X0.here hx rfl (hb hby d1_0) rfl rfl ?_
    show Steps pg.tables ee below (s₁.setTop (mkF mm 1 #[.val (.ref a), .val (.int p)] [(.ref a)])) _
    refine st1.trans ?_
    show Steps pg.tables ee below (T1.setTop (mkF mm 4 #[.val (.ref a), .val (.int p)] [])) _
    refine XS.iloadN X1.here hx rfl (hb hby d1_4) rfl ?_
    show Steps pg.tables ee below (T1.setTop (mkF mm 5 #[.val (.ref a), .val (.int p)] [(.int p)])) _
    refine XS.ifYes X1.here hx rfl (pc0 := 5) (pc' := 22) rfl (hb hby d1_5) rfl ((if0 _ _).trans (flt hp).2.1) (by decide) (by decide) ?_
    show Steps pg.tables ee below (T1.setTop (mkF mm 22 #[.val (.ref a), .val (.int p)] [])) _
    refine XS.aloadN X1.here hx rfl (hb hby d1_22) rfl rfl ?_
    show Steps pg.tables ee below (T1.setTop (mkF mm 23 #[.val (.ref a), .val (.int p)] [(.ref a)])) _
    refine XS.iloadN X1.here hx rfl (hb hby d1_23) rfl ?_
    show Steps pg.tables ee below (T1.setTop (mkF mm 24 #[.val (.ref a), .val (.int p)] [(.int p), (.ref a)])) _
    refine st2 _ ?_
    show Steps pg.tables ee below (T2.setTop (mkF mm 27 #[.val (.ref a), .val (.int p)] [])) _
    exact X2.returnOut hx Bd.returns (hb hby d1_27) hr
  · show QrmI Z a p h0 n0 _ T2.heap _
    rw [e2]
    exact ⟨rfl, N2, KK2, (E_a.wr W2), Fw2⟩
theorem d4_0 : decode prog_34_method_3_code 0 = .ok (.aload_n 0, 1) := by decide +kernel
theorem d4_1 : decode prog_34_method_3_code 1 = .ok (.getfield 16, 3) := by decide +kernel
theorem d4_4 : decode prog_34_method_3_code 4 = .ok (.ifCond .ne 7, 3) := by decide +kernel
theorem d4_7 : decode prog_34_method_3_code 7 = .ok (.iconst 1, 1) := by decide +kernel
theorem d4_8 : decode prog_34_method_3_code 8 = .ok (.goto 4, 3) := by decide +kernel
theorem d4_12 : decode prog_34_method_3_code 12 = .ok (.ireturn, 1) := by decide +kernel
theorem ef_4_22 (m : MethodId) (x0 : Addr) : entryFrame m #[(.ref x0)] 1 = mkF m 0 #[.val (.ref x0)] [] := by first | (simp [entryFrame, mkF, argsToLocals, Value.category]; done) | rfl
def QrmS1 (Z : State) (a : Addr) (p : Int32) (h0 : Heap) (n0 : Nat) (v : Option Value) (h : Heap) (L : List Loc) : Prop := v = some (.int (1 : Int32)) ∧ Fr n0 L ∧ h = h0
set_option maxRecDepth 65536 in
set_option maxHeartbeats 40000000 in
theorem rmS1 (l : Launch) (Z : State) (a0 : Array Value) (hw : ∀ d ∈ tables_1, d.before a0 Z = true) (ws : List Jvm.Cond) (a : Addr) (p : Int32) (h0 : Heap) (n0 : Nat) (O0 : Old Z n0 h0) (F : Fld Z h0 a "com/example/chapiteau/chapiteau/goldentrain/Wagon" "value" "I" (.int p)) (hp : p = (0 : Int32)) :
    MetFree l (⟨"com/example/chapiteau/chapiteau/goldentrain/Wagon", "isSheriff", "()Z"⟩ : MethodName) (head1 (Jvm.Cond.code (⟨"com/example/chapiteau/chapiteau/goldentrain/Wagon", "isSheriff", "()Z"⟩ : MethodName) prog_34_method_3_code 1 (some .boolean) :: ws) ({ frames := 0, cells := 0, slots := 0, locals := 0 } : Room)) (fun a_ U_ => a_ = #[(.ref a)] ∧ Z.Warmed39 U_.vm ∧ U_.heap = h0) (fun _ _ _ _ _ => True) (fun _ U_ o_ U'_ => ∃ v_ L_, o_ = .returned v_ ∧ QrmS1 Z a p h0 n0 v_ U'_.heap L_ ∧ FrameEnd U_ o_ U'_ L_ ({ frames := 0, cells := 0, slots := 0, locals := 0 } : Room).cells ({ frames := 0, cells := 0, slots := 0, locals := 0 } : Room).slots) := by
  refine MetFree.of_bodySF (plainFor_of_name pn_14) hisR ?_
  intro pg ee s mm args below meth cc s₁ Bd hml0 hP hK
  obtain ⟨rfl, hZ, hh⟩ := hP
  have hx := Bd.exec
  have hby := Bd.bytes
  have hml : cc.maxLocals = 1 := hml0
  have hown : s.vm.findClass "com/example/chapiteau/chapiteau/goldentrain/Wagon" = some mm.cls := findClass_of_methodNamed Bd.named
  have hnm := (name_of_methodNamed Bd.named Bd.method).1
  have X0 : Stand pg l ee ({ frames := 0, cells := 0, slots := 0, locals := 0 } : Room) s mm #[(.ref a)] below meth cc s₁ [] 0 0 := Stand.of_body Bd
  have e0 : s₁.heap = h0 := by rw [← hh, Bd.state]; rfl
  have N0 := Fr.nil n0
  have K0 : Keep h0 h0 ([] : List Addr) := Keep.refl _ _
  have pre0 : ∀ t, Steps pg.tables ee below (s₁.setTop (mkF mm 0 #[.val (.ref a)] [])) t → Steps pg.tables ee below (s₁.setTop (entryFrame mm #[(.ref a)] 1)) t := fun t k => castTop (ef_4_22 mm a) k
  obtain ⟨T1, X1, e1, st1⟩ := getF X0 hx hZ hown (host := "") (Or.inl (hw _ (List.mem_of_getElem? (i := 15) rfl))) Via.refl e0 F (g := (mkF mm 1 #[.val (.ref a)] [(.ref a)])) rfl rfl (hb hby d4_1)
  obtain ⟨fs, hr, hrun, hended, hW, hsame⟩ := X1.leave (v := some (.int (1 : Int32))) (fun h => by rw [Bd.returns] at h; cases h)
  refine ⟨_, _, pre0 _ ?_, hrun, hended, _, _, rfl, ?_, ⟨_, rfl⟩, hW, hsame.mono (by decide) (by decide)⟩
  · show Steps pg.tables ee below (s₁.setTop (mkF mm 0 #[.val (.ref a)] [])) _
    refine XS.aloadN X0.here hx rfl (hb hby d4_0) rfl rfl ?_
    show Steps pg.tables ee below (s₁.setTop (mkF mm 1 #[.val (.ref a)] [(.ref a)])) _
    refine st1 _ ?_
    show Steps pg.tables ee below (T1.setTop (mkF mm 4 #[.val (.ref a)] [(.int p)])) _
    refine XS.ifNo X1.here hx rfl (hb hby d4_4) rfl ((if0 _ _).trans (teq hp).2) ?_
    show Steps pg.tables ee below (T1.setTop (mkF mm 7 #[.val (.ref a)] [])) _
    refine XS.iconst X1.here hx rfl (hb hby d4_7) ?_
    show Steps pg.tables ee below (T1.setTop (mkF mm 8 #[.val (.ref a)] [(.int (1 : Int32))])) _
    refine XS.goto X1.here hx rfl (pc0 := 8) (pc' := 12) rfl (hb hby d4_8) (by decide) (by decide) ?_
    show Steps pg.tables ee below (T1.setTop (mkF mm 12 #[.val (.ref a)] [(.int (1 : Int32))])) _
    exact retN X1 hx (t := .boolean) Bd.returns (by simp) (hb hby d4_12) hr
  · show QrmS1 Z a p h0 n0 _ T1.heap _
    rw [e1]
    exact ⟨rfl, N0, rfl⟩
theorem d4_11 : decode prog_34_method_3_code 11 = .ok (.iconst 0, 1) := by decide +kernel
def QrmS0 (Z : State) (a : Addr) (p : Int32) (h0 : Heap) (n0 : Nat) (v : Option Value) (h : Heap) (L : List Loc) : Prop := v = some (.int (0 : Int32)) ∧ Fr n0 L ∧ h = h0
set_option maxRecDepth 65536 in
set_option maxHeartbeats 40000000 in
theorem rmS0 (l : Launch) (Z : State) (a0 : Array Value) (hw : ∀ d ∈ tables_1, d.before a0 Z = true) (ws : List Jvm.Cond) (a : Addr) (p : Int32) (h0 : Heap) (n0 : Nat) (O0 : Old Z n0 h0) (F : Fld Z h0 a "com/example/chapiteau/chapiteau/goldentrain/Wagon" "value" "I" (.int p)) (hp : ¬ (p = (0 : Int32))) :
    MetFree l (⟨"com/example/chapiteau/chapiteau/goldentrain/Wagon", "isSheriff", "()Z"⟩ : MethodName) (head1 (Jvm.Cond.code (⟨"com/example/chapiteau/chapiteau/goldentrain/Wagon", "isSheriff", "()Z"⟩ : MethodName) prog_34_method_3_code 1 (some .boolean) :: ws) ({ frames := 0, cells := 0, slots := 0, locals := 0 } : Room)) (fun a_ U_ => a_ = #[(.ref a)] ∧ Z.Warmed39 U_.vm ∧ U_.heap = h0) (fun _ _ _ _ _ => True) (fun _ U_ o_ U'_ => ∃ v_ L_, o_ = .returned v_ ∧ QrmS0 Z a p h0 n0 v_ U'_.heap L_ ∧ FrameEnd U_ o_ U'_ L_ ({ frames := 0, cells := 0, slots := 0, locals := 0 } : Room).cells ({ frames := 0, cells := 0, slots := 0, locals := 0 } : Room).slots) := by
  refine MetFree.of_bodySF (plainFor_of_name pn_14) hisR ?_
  intro pg ee s mm args below meth cc s₁ Bd hml0 hP hK
  obtain ⟨rfl, hZ, hh⟩ := hP
  have hx := Bd.exec
  have hby := Bd.bytes
  have hml : cc.maxLocals = 1 := hml0
  have hown : s.vm.findClass "com/example/chapiteau/chapiteau/goldentrain/Wagon" = some mm.cls := findClass_of_methodNamed Bd.named
  have hnm := (name_of_methodNamed Bd.named Bd.method).1
  have X0 : Stand pg l ee ({ frames := 0, cells := 0, slots := 0, locals := 0 } : Room) s mm #[(.ref a)] below meth cc s₁ [] 0 0 := Stand.of_body Bd
  have e0 : s₁.heap = h0 := by rw [← hh, Bd.state]; rfl
  have N0 := Fr.nil n0
  have K0 : Keep h0 h0 ([] : List Addr) := Keep.refl _ _
  have pre0 : ∀ t, Steps pg.tables ee below (s₁.setTop (mkF mm 0 #[.val (.ref a)] [])) t → Steps pg.tables ee below (s₁.setTop (entryFrame mm #[(.ref a)] 1)) t := fun t k => castTop (ef_4_22 mm a) k
  obtain ⟨T1, X1, e1, st1⟩ := getF X0 hx hZ hown (host := "") (Or.inl (hw _ (List.mem_of_getElem? (i := 15) rfl))) Via.refl e0 F (g := (mkF mm 1 #[.val (.ref a)] [(.ref a)])) rfl rfl (hb hby d4_1)
  obtain ⟨fs, hr, hrun, hended, hW, hsame⟩ := X1.leave (v := some (.int (0 : Int32))) (fun h => by rw [Bd.returns] at h; cases h)
  refine ⟨_, _, pre0 _ ?_, hrun, hended, _, _, rfl, ?_, ⟨_, rfl⟩, hW, hsame.mono (by decide) (by decide)⟩
  · show Steps pg.tables ee below (s₁.setTop (mkF mm 0 #[.val (.ref a)] [])) _
    refine XS.aloadN X0.here hx rfl (hb hby d4_0) rfl rfl ?_
    show Steps pg.tables ee below (s₁.setTop (mkF mm 1 #[.val (.ref a)] [(.ref a)])) _
    refine st1 _ ?_
    show Steps pg.tables ee below (T1.setTop (mkF mm 4 #[.val (.ref a)] [(.int p)])) _
    refine XS.ifYes X1.here hx rfl (pc0 := 4) (pc' := 11) rfl (hb hby d4_4) rfl ((if0 _ _).trans (feq hp).2) (by decide) (by decide) ?_
    show Steps pg.tables ee below (T1.setTop (mkF mm 11 #[.val (.ref a)] [])) _
    refine XS.iconst X1.here hx rfl (hb hby d4_11) ?_
    show Steps pg.tables ee below (T1.setTop (mkF mm 12 #[.val (.ref a)] [(.int (0 : Int32))])) _
    exact retN X1 hx (t := .boolean) Bd.returns (by simp) (hb hby d4_12) hr
  · show QrmS0 Z a p h0 n0 _ T1.heap _
    rw [e1]
    exact ⟨rfl, N0, rfl⟩
theorem pd_24 : parseMethodDescriptor "(I)V" = some ⟨[.int], none⟩ := by decide +kernel
theorem pd_25 : parseMethodDescriptor "()Z" = some ⟨[], some .boolean⟩ := by decide +kernel
theorem pn_26 : plainName "com/example/chapiteau/chapiteau/goldentrain/WagonIsSheriffPinLaw" = true := by first | (simp [plainName, overriddenIn]; done) | decide +kernel
theorem ef_0_27 (m : MethodId) (x0 : Int32) (x1 : Int32) : entryFrame m #[(.int x0), (.int x1)] maxLocals = mkF m 0 #[.val (.int x0), .val (.int x1), .unset, .unset, .unset, .unset] [] := by first | (simp [entryFrame, mkF, argsToLocals, Value.category, maxLocals]; done) | rfl
def Qrm0 (Z : State) (p0 : Int32) (p1 : Int32) (aS : Addr) (h0 : Heap) (n0 : Nat) (v : Option Value) (h : Heap) (L : List Loc) : Prop := v = some (.int (1 : Int32)) ∧ Fr n0 L
set_option maxRecDepth 65536 in
set_option maxHeartbeats 40000000 in
theorem rm0 (l : Launch) (Z : State) (a0 : Array Value) (hw : ∀ d ∈ tables_1, d.before a0 Z = true) (ws : List Jvm.Cond) (p0 : Int32) (p1 : Int32) (aS : Addr) (h0 : Heap) (n0 : Nat) (O0 : Old Z n0 h0) (S_SHERIFF : Sta Z Z.heap "com/example/chapiteau/chapiteau/goldentrain/Wagon" "SHERIFF" "Lcom/example/chapiteau/chapiteau/goldentrain/Wagon;" (.ref aS)) (E_SHERIFF : Exa Z Z.heap aS "com/example/chapiteau/chapiteau/goldentrain/Wagon") (F_SHERIFF : Fld Z Z.heap aS "com/example/chapiteau/chapiteau/goldentrain/Wagon" "value" "I" (.int (0 : Int32))) :
    MetFree l x (head1 (Jvm.Cond.code x code maxLocals ret :: ws) room_1) (fun a_ U_ => a_ = #[(.int p0), (.int p1)] ∧ Z.Warmed39 U_.vm ∧ U_.heap = h0) (fun _ _ _ _ _ => True) (fun _ U_ o_ U'_ => ∃ v_ L_, o_ = .returned v_ ∧ Qrm0 Z p0 p1 aS h0 n0 v_ U'_.heap L_ ∧ FrameEnd U_ o_ U'_ L_ 1 1) := by
  refine MetFree.of_bodySF (plainFor_of_name pn_26) hisR ?_
  intro pg ee s mm args below meth cc s₁ Bd hml0 hP hK
  obtain ⟨rfl, hZ, hh⟩ := hP
  have hx := Bd.exec
  have hby := Bd.bytes
  have hml : cc.maxLocals = 6 := hml0
  have hown : s.vm.findClass "com/example/chapiteau/chapiteau/goldentrain/WagonIsSheriffPinLaw" = some mm.cls := findClass_of_methodNamed Bd.named
  have hnm := (name_of_methodNamed Bd.named Bd.method).1
  have X0 : Stand pg l ee room_1 s mm #[(.int p0), (.int p1)] below meth cc s₁ [] 0 0 := Stand.of_body Bd
  have e0 : s₁.heap = h0 := by rw [← hh, Bd.state]; rfl
  have N0 := Fr.nil n0
  have K0 : Keep h0 h0 ([] : List Addr) := Keep.refl _ _
  have pre0 : ∀ t, Steps pg.tables ee below (s₁.setTop (mkF mm 0 #[.val (.int p0), .val (.int p1), .unset, .unset, .unset, .unset] [])) t → Steps pg.tables ee below (s₁.setTop (entryFrame mm #[(.int p0), (.int p1)] maxLocals)) t := fun t k => castTop (ef_0_27 mm p0 p1) k
  have pre1 : ∀ t, Steps pg.tables ee below (s₁.setTop (mkF mm 5 #[.val (.int p0), .val (.int p1), .val (.int (p1 &&& (3 : Int32))), .unset, .unset, .unset] [(.int (p1 &&& (3 : Int32)))])) t → Steps pg.tables ee below (s₁.setTop (entryFrame mm #[(.int p0), (.int p1)] maxLocals)) t := fun t k => pre0 t (by
      show Steps pg.tables ee below (s₁.setTop (mkF mm 0 #[.val (.int p0), .val (.int p1), .unset, .unset, .unset, .unset] [])) _
      refine XS.iloadN X0.here hx rfl (hb hby at_0) rfl ?_
      show Steps pg.tables ee below (s₁.setTop (mkF mm 1 #[.val (.int p0), .val (.int p1), .unset, .unset, .unset, .unset] [(.int p1)])) _
      refine XS.iconst X0.here hx rfl (hb hby at_1) ?_
      show Steps pg.tables ee below (s₁.setTop (mkF mm 2 #[.val (.int p0), .val (.int p1), .unset, .unset, .unset, .unset] [(.int (3 : Int32)), (.int p1)])) _
      refine XS.iand X0.here hx rfl (hb hby at_2) rfl ?_
      show Steps pg.tables ee below (s₁.setTop (mkF mm 3 #[.val (.int p0), .val (.int p1), .unset, .unset, .unset, .unset] [(.int (p1 &&& (3 : Int32)))])) _
      refine XS.istoreN X0.here hx rfl (hb hby at_3) rfl (l' := #[.val (.int p0), .val (.int p1), .val (.int (p1 &&& (3 : Int32))), .unset, .unset, .unset]) rfl ?_
      show Steps pg.tables ee below (s₁.setTop (mkF mm 4 #[.val (.int p0), .val (.int p1), .val (.int (p1 &&& (3 : Int32))), .unset, .unset, .unset] [])) _
      refine XS.iloadN X0.here hx rfl (hb hby at_4) rfl ?_
      exact k)
  by_cases hc2 : (p1 &&& (3 : Int32)) = (0 : Int32)
  · obtain ⟨T3, h3, X3, e3, E3, A3, D3, -, st3⟩ := newO X0 hx hZ hown (hw _ (List.mem_of_getElem? (i := 1) rfl)) (hw _ (List.mem_of_getElem? (i := 2) rfl)) (hw _ (List.mem_of_getElem? (i := 3) rfl)) e0 (g := (mkF mm 28 #[.val (.int p0), .val (.int p1), .val (.int (p1 &&& (3 : Int32))), .val (.int (0 : Int32)), .unset, .unset] [])) rfl (hb hby at_28) (by decide) (by decide)
    obtain ⟨b3, g3⟩ : ∃ z, z = h0.size := ⟨_, rfl⟩
    rw [← g3] at A3 D3 st3
    have g_b3 : n0 ≤ b3 := Nat.le_trans (O0.1 ▸ O0.2.1) (Nat.le_of_eq g3.symm)
    have sz_b3 : h0.size ≤ b3 := Nat.le_trans K0.1 (Nat.le_of_eq g3.symm)
    have O3 := O0.ext E3
    have KK3 := K0.ext E3
    have F_value_b3 : Fld Z h3 b3 "com/example/chapiteau/chapiteau/goldentrain/Wagon" "value" "I" (.int (0 : Int32)) := D3 (Or.inr (hw _ (List.mem_of_getElem? (i := 16) rfl))) (ty := .int) (by decide)
    obtain ⟨_, _, ⟨T4, L4, k4, n4⟩, -, X4, ⟨Lc4, hQ4, l4, y4, z4⟩, st4⟩ := X3.specialBack hx (y := (⟨"com/example/chapiteau/chapiteau/goldentrain/Wagon", "<init>", "(I)V"⟩ : MethodName)) rfl hown (mvT hZ (hw _ (List.mem_of_getElem? (i := 4) rfl))) (mvT hZ (hw _ (List.mem_of_getElem? (i := 5) rfl))) (mvT hZ (hw _ (List.mem_of_getElem? (i := 6) rfl))) (by decide) (backOf (W := 1) (rmI l Z a0 hw [] b3 (0 : Int32) h3 n0 O3 A3 F_value_b3 g_b3 (by decide)) hZ (hw _ (List.mem_of_getElem? (i := 6) rfl)) (hw _ (List.mem_of_getElem? (i := 3) rfl)) (by decide) (by decide)) (g := (mkF mm 33 #[.val (.int p0), .val (.int p1), .val (.int (p1 &&& (3 : Int32))), .val (.int (0 : Int32)), .unset, .unset] [(.int (0 : Int32)), (.ref b3), (.ref b3)])) rfl (by rw [hml]; rfl) (Steps.refl _) (a := b3) (argsL := [(.int (0 : Int32))]) (rest := [(.ref b3)]) (lenOf pd_24 rfl) rfl (by show 2 * 0 + _ ≤ _; exact Nat.le_of_eq rfl) (hb hby at_33) (fun _ _ => ⟨rfl, e3, (by decide : 1 + 0 ≤ _), (by decide : 1 + 0 ≤ _)⟩)
    dsimp only [Pt.U, Pt.locs, Pt.cells, Pt.slots] at X4 l4 y4 z4 st4 hQ4
    subst l4 y4 z4
    obtain ⟨rfl, N4q, K4, Ex4, Fv0_4⟩ := hQ4
    have O4 := O3.keep K4 (allS g_b3 all0)
    have KK4 := KK3.trans K4 (allS (Or.inr sz_b3) all0)
    have N4 := Fr.app N0 N4q
    obtain ⟨cq5, kq5, q5a, q5b, q5c⟩ := isOf hZ rfl Ex4
    obtain ⟨_, _, ⟨T5, L5, k5, n5⟩, -, X5, ⟨Lc5, hQ5, l5, y5, z5⟩, st5⟩ := X4.virtualBack hx (y := (⟨"com/example/chapiteau/chapiteau/goldentrain/Wagon", "isSheriff", "()Z"⟩ : MethodName)) (z := (⟨"com/example/chapiteau/chapiteau/goldentrain/Wagon", "isSheriff", "()Z"⟩ : MethodName)) hown (mvT hZ (hw _ (List.mem_of_getElem? (i := 17) rfl))) (mvT hZ (hw _ (List.mem_of_getElem? (i := 18) rfl))) (notFace_of_selects (args := #[]) (mvT hZ (hw _ (List.mem_of_getElem? (i := 20) rfl)))) (mvT hZ (hw _ (List.mem_of_getElem? (i := 20) rfl))) (mvT hZ (hw _ (List.mem_of_getElem? (i := 19) rfl))) (by decide) (backOf (W := 0) (rmS1 l Z a0 hw [] b3 (0 : Int32) T4.heap n0 O4 Fv0_4 rfl) hZ (hw _ (List.mem_of_getElem? (i := 21) rfl)) (hw _ (List.mem_of_getElem? (i := 3) rfl)) (by decide) (by decide)) q5a q5c (g := (mkF mm 51 #[.val (.int p0), .val (.int p1), .val (.int (p1 &&& (3 : Int32))), .val (.int (0 : Int32)), .val (.ref b3), .val (.int (1 : Int32))] [(.ref b3)])) rfl (by rw [hml]; rfl) (Steps.refl _) (argsL := []) (rest := []) (lenOf pd_25 rfl) rfl (by show 2 * 0 + _ ≤ _; exact Nat.le_of_eq rfl) (hb hby at_51) (fun _ _ => ⟨rfl, rfl, (by decide : 1 + 0 ≤ _), (by decide : 1 + 0 ≤ _)⟩)
    dsimp only [Pt.U, Pt.locs, Pt.cells, Pt.slots] at X5 l5 y5 z5 st5 hQ5
    subst l5 y5 z5
    obtain ⟨rfl, N5q, e5⟩ := hQ5
    have N5 := Fr.app N4 N5q
    obtain ⟨T6, X6, e6, st6⟩ := getS2 X5 hx hZ hown (host := "") (Or.inl (hw _ (List.mem_of_getElem? (i := 22) rfl))) Via.refl e5 (S_SHERIFF.ext O4.2) (g := (mkF mm 61 #[.val (.int p0), .val (.int p1), .val (.int (p1 &&& (3 : Int32))), .val (.int (0 : Int32)), .val (.ref b3), .val (.int (1 : Int32))] [])) rfl (hb hby at_61)
    obtain ⟨cq7, kq7, q7a, q7b, q7c⟩ := isOf hZ e6 (E_SHERIFF.ext O4.2)
    obtain ⟨_, _, ⟨T7, L7, k7, n7⟩, -, X7, ⟨Lc7, hQ7, l7, y7, z7⟩, st7⟩ := X6.virtualBack hx (y := (⟨"com/example/chapiteau/chapiteau/goldentrain/Wagon", "isSheriff", "()Z"⟩ : MethodName)) (z := (⟨"com/example/chapiteau/chapiteau/goldentrain/Wagon", "isSheriff", "()Z"⟩ : MethodName)) hown (mvT hZ (hw _ (List.mem_of_getElem? (i := 17) rfl))) (mvT hZ (hw _ (List.mem_of_getElem? (i := 18) rfl))) (notFace_of_selects (args := #[]) (mvT hZ (hw _ (List.mem_of_getElem? (i := 20) rfl)))) (mvT hZ (hw _ (List.mem_of_getElem? (i := 20) rfl))) (mvT hZ (hw _ (List.mem_of_getElem? (i := 19) rfl))) (by decide) (backOf (W := 0) (rmS1 l Z a0 hw [] aS (0 : Int32) T4.heap n0 O4 (F_SHERIFF.ext O4.2) rfl) hZ (hw _ (List.mem_of_getElem? (i := 21) rfl)) (hw _ (List.mem_of_getElem? (i := 3) rfl)) (by decide) (by decide)) q7a q7c (g := (mkF mm 64 #[.val (.int p0), .val (.int p1), .val (.int (p1 &&& (3 : Int32))), .val (.int (0 : Int32)), .val (.ref b3), .val (.int (1 : Int32))] [(.ref aS)])) rfl (by rw [hml]; rfl) (Steps.refl _) (argsL := []) (rest := []) (lenOf pd_25 rfl) rfl (by show 2 * 0 + _ ≤ _; exact Nat.le_of_eq rfl) (hb hby at_64) (fun _ _ => ⟨rfl, e6, (by decide : 1 + 0 ≤ _), (by decide : 1 + 0 ≤ _)⟩)
    dsimp only [Pt.U, Pt.locs, Pt.cells, Pt.slots] at X7 l7 y7 z7 st7 hQ7
    subst l7 y7 z7
    obtain ⟨rfl, N7q, e7⟩ := hQ7
    have N7 := Fr.app N5 N7q
    obtain ⟨fs, hr, hrun, hended, hW, hsame⟩ := X7.leave (v := some (.int (1 : Int32))) (fun h => by rw [Bd.returns] at h; cases h)
    refine ⟨_, _, pre1 _ ?_, hrun, hended, _, _, rfl, ?_, ⟨_, rfl⟩, hW, hsame.mono (by decide) (by decide)⟩
    · show Steps pg.tables ee below (s₁.setTop (mkF mm 5 #[.val (.int p0), .val (.int p1), .val (.int (p1 &&& (3 : Int32))), .unset, .unset, .unset] [(.int (p1 &&& (3 : Int32)))])) _
      refine XS.ifNo X0.here hx rfl (hb hby at_5) rfl ((if0 _ _).trans (teq hc2).2) ?_
      show Steps pg.tables ee below (s₁.setTop (mkF mm 8 #[.val (.int p0), .val (.int p1), .val (.int (p1 &&& (3 : Int32))), .unset, .unset, .unset] [])) _
      refine XS.iconst X0.here hx rfl (hb hby at_8) ?_
      show Steps pg.tables ee below (s₁.setTop (mkF mm 9 #[.val (.int p0), .val (.int p1), .val (.int (p1 &&& (3 : Int32))), .unset, .unset, .unset] [(.int (0 : Int32))])) _
      refine XS.istoreN X0.here hx rfl (hb hby at_9) rfl (l' := #[.val (.int p0), .val (.int p1), .val (.int (p1 &&& (3 : Int32))), .val (.int (0 : Int32)), .unset, .unset]) rfl ?_
      show Steps pg.tables ee below (s₁.setTop (mkF mm 10 #[.val (.int p0), .val (.int p1), .val (.int (p1 &&& (3 : Int32))), .val (.int (0 : Int32)), .unset, .unset] [])) _
      refine XS.goto X0.here hx rfl (pc0 := 10) (pc' := 28) rfl (hb hby at_10) (by decide) (by decide) ?_
      show Steps pg.tables ee below (s₁.setTop (mkF mm 28 #[.val (.int p0), .val (.int p1), .val (.int (p1 &&& (3 : Int32))), .val (.int (0 : Int32)), .unset, .unset] [])) _
      refine st3 _ ?_
      show Steps pg.tables ee below (T3.setTop (mkF mm 31 #[.val (.int p0), .val (.int p1), .val (.int (p1 &&& (3 : Int32))), .val (.int (0 : Int32)), .unset, .unset] [(.ref b3)])) _
      refine XS.dup X3.here hx rfl (hb hby at_31) rfl rfl ?_
      show Steps pg.tables ee below (T3.setTop (mkF mm 32 #[.val (.int p0), .val (.int p1), .val (.int (p1 &&& (3 : Int32))), .val (.int (0 : Int32)), .unset, .unset] [(.ref b3), (.ref b3)])) _
      refine XS.iloadN X3.here hx rfl (hb hby at_32) rfl ?_
      show Steps pg.tables ee below (T3.setTop (mkF mm 33 #[.val (.int p0), .val (.int p1), .val (.int (p1 &&& (3 : Int32))), .val (.int (0 : Int32)), .unset, .unset] [(.int (0 : Int32)), (.ref b3), (.ref b3)])) _
      refine st4.trans ?_
      show Steps pg.tables ee below (T4.setTop (mkF mm 36 #[.val (.int p0), .val (.int p1), .val (.int (p1 &&& (3 : Int32))), .val (.int (0 : Int32)), .unset, .unset] [(.ref b3)])) _
      refine XS.astore X4.here hx rfl (hb hby at_36) rfl rfl (l' := #[.val (.int p0), .val (.int p1), .val (.int (p1 &&& (3 : Int32))), .val (.int (0 : Int32)), .val (.ref b3), .unset]) rfl ?_
      show Steps pg.tables ee below (T4.setTop (mkF mm 38 #[.val (.int p0), .val (.int p1), .val (.int (p1 &&& (3 : Int32))), .val (.int (0 : Int32)), .val (.ref b3), .unset] [])) _
      refine XS.iloadN X4.here hx rfl (hb hby at_38) rfl ?_
      show Steps pg.tables ee below (T4.setTop (mkF mm 39 #[.val (.int p0), .val (.int p1), .val (.int (p1 &&& (3 : Int32))), .val (.int (0 : Int32)), .val (.ref b3), .unset] [(.int (0 : Int32))])) _
      refine XS.ifNo X4.here hx rfl (hb hby at_39) rfl ((if0 _ _).trans (teq (by decide : (0 : Int32) = (0 : Int32))).2) ?_
      show Steps pg.tables ee below (T4.setTop (mkF mm 42 #[.val (.int p0), .val (.int p1), .val (.int (p1 &&& (3 : Int32))), .val (.int (0 : Int32)), .val (.ref b3), .unset] [])) _
      refine XS.iconst X4.here hx rfl (hb hby at_42) ?_
      show Steps pg.tables ee below (T4.setTop (mkF mm 43 #[.val (.int p0), .val (.int p1), .val (.int (p1 &&& (3 : Int32))), .val (.int (0 : Int32)), .val (.ref b3), .unset] [(.int (1 : Int32))])) _
      refine XS.goto X4.here hx rfl (pc0 := 43) (pc' := 47) rfl (hb hby at_43) (by decide) (by decide) ?_
      show Steps pg.tables ee below (T4.setTop (mkF mm 47 #[.val (.int p0), .val (.int p1), .val (.int (p1 &&& (3 : Int32))), .val (.int (0 : Int32)), .val (.ref b3), .unset] [(.int (1 : Int32))])) _
      refine XS.istore X4.here hx rfl (hb hby at_47) rfl (l' := #[.val (.int p0), .val (.int p1), .val (.int (p1 &&& (3 : Int32))), .val (.int (0 : Int32)), .val (.ref b3), .val (.int (1 : Int32))]) rfl ?_
      show Steps pg.tables ee below (T4.setTop (mkF mm 49 #[.val (.int p0), .val (.int p1), .val (.int (p1 &&& (3 : Int32))), .val (.int (0 : Int32)), .val (.ref b3), .val (.int (1 : Int32))] [])) _
      refine XS.aload X4.here hx rfl (hb hby at_49) rfl rfl ?_
      show Steps pg.tables ee below (T4.setTop (mkF mm 51 #[.val (.int p0), .val (.int p1), .val (.int (p1 &&& (3 : Int32))), .val (.int (0 : Int32)), .val (.ref b3), .val (.int (1 : Int32))] [(.ref b3)])) _
      refine st5.trans ?_
      show Steps pg.tables ee below (T5.setTop (mkF mm 54 #[.val (.int p0), .val (.int p1), .val (.int (p1 &&& (3 : Int32))), .val (.int (0 : Int32)), .val (.ref b3), .val (.int (1 : Int32))] [(.int (1 : Int32))])) _
      refine XS.iload X5.here hx rfl (hb hby at_54) rfl ?_
      show Steps pg.tables ee below (T5.setTop (mkF mm 56 #[.val (.int p0), .val (.int p1), .val (.int (p1 &&& (3 : Int32))), .val (.int (0 : Int32)), .val (.ref b3), .val (.int (1 : Int32))] [(.int (1 : Int32)), (.int (1 : Int32))])) _
      refine XS.icmpYes X5.here hx rfl (pc0 := 56) (pc' := 61) rfl (hb hby at_56) rfl (teq (by decide : (1 : Int32) = (1 : Int32))).1 (by decide) (by decide) ?_
      show Steps pg.tables ee below (T5.setTop (mkF mm 61 #[.val (.int p0), .val (.int p1), .val (.int (p1 &&& (3 : Int32))), .val (.int (0 : Int32)), .val (.ref b3), .val (.int (1 : Int32))] [])) _
      refine st6 _ ?_
      show Steps pg.tables ee below (T6.setTop (mkF mm 64 #[.val (.int p0), .val (.int p1), .val (.int (p1 &&& (3 : Int32))), .val (.int (0 : Int32)), .val (.ref b3), .val (.int (1 : Int32))] [(.ref aS)])) _
      refine st7.trans ?_
      show Steps pg.tables ee below (T7.setTop (mkF mm 67 #[.val (.int p0), .val (.int p1), .val (.int (p1 &&& (3 : Int32))), .val (.int (0 : Int32)), .val (.ref b3), .val (.int (1 : Int32))] [(.int (1 : Int32))])) _
      exact retN X7 hx (t := .boolean) Bd.returns (by simp) (hb hby at_67) hr
    · show Qrm0 Z p0 p1 aS h0 n0 _ T7.heap _
      rw [e7]
      exact ⟨rfl, N7⟩
  · have pre8 : ∀ t, Steps pg.tables ee below (s₁.setTop (mkF mm 15 #[.val (.int p0), .val (.int p1), .val (.int (p1 &&& (3 : Int32))), .unset, .unset, .unset] [(.int (1 : Int32)), (.int (p1 &&& (3 : Int32)))])) t → Steps pg.tables ee below (s₁.setTop (entryFrame mm #[(.int p0), (.int p1)] maxLocals)) t := fun t k => pre1 t (by
        show Steps pg.tables ee below (s₁.setTop (mkF mm 5 #[.val (.int p0), .val (.int p1), .val (.int (p1 &&& (3 : Int32))), .unset, .unset, .unset] [(.int (p1 &&& (3 : Int32)))])) _
        refine XS.ifYes X0.here hx rfl (pc0 := 5) (pc' := 13) rfl (hb hby at_5) rfl ((if0 _ _).trans (feq hc2).2) (by decide) (by decide) ?_
        show Steps pg.tables ee below (s₁.setTop (mkF mm 13 #[.val (.int p0), .val (.int p1), .val (.int (p1 &&& (3 : Int32))), .unset, .unset, .unset] [])) _
        refine XS.iloadN X0.here hx rfl (hb hby at_13) rfl ?_
        show Steps pg.tables ee below (s₁.setTop (mkF mm 14 #[.val (.int p0), .val (.int p1), .val (.int (p1 &&& (3 : Int32))), .unset, .unset, .unset] [(.int (p1 &&& (3 : Int32)))])) _
        refine XS.iconst X0.here hx rfl (hb hby at_14) ?_
        exact k)
    by_cases hc9 : (p1 &&& (3 : Int32)) = (1 : Int32)
    · obtain ⟨T10, h10, X10, e10, E10, A10, D10, -, st10⟩ := newO X0 hx hZ hown (hw _ (List.mem_of_getElem? (i := 1) rfl)) (hw _ (List.mem_of_getElem? (i := 2) rfl)) (hw _ (List.mem_of_getElem? (i := 3) rfl)) e0 (g := (mkF mm 28 #[.val (.int p0), .val (.int p1), .val (.int (p1 &&& (3 : Int32))), .val (.int (1 : Int32)), .unset, .unset] [])) rfl (hb hby at_28) (by decide) (by decide)
      obtain ⟨b10, g10⟩ : ∃ z, z = h0.size := ⟨_, rfl⟩
      rw [← g10] at A10 D10 st10
      have g_b10 : n0 ≤ b10 := Nat.le_trans (O0.1 ▸ O0.2.1) (Nat.le_of_eq g10.symm)
      have sz_b10 : h0.size ≤ b10 := Nat.le_trans K0.1 (Nat.le_of_eq g10.symm)
      have O10 := O0.ext E10
      have KK10 := K0.ext E10
      have F_value_b10 : Fld Z h10 b10 "com/example/chapiteau/chapiteau/goldentrain/Wagon" "value" "I" (.int (0 : Int32)) := D10 (Or.inr (hw _ (List.mem_of_getElem? (i := 16) rfl))) (ty := .int) (by decide)
      obtain ⟨_, _, ⟨T11, L11, k11, n11⟩, -, X11, ⟨Lc11, hQ11, l11, y11, z11⟩, st11⟩ := X10.specialBack hx (y := (⟨"com/example/chapiteau/chapiteau/goldentrain/Wagon", "<init>", "(I)V"⟩ : MethodName)) rfl hown (mvT hZ (hw _ (List.mem_of_getElem? (i := 4) rfl))) (mvT hZ (hw _ (List.mem_of_getElem? (i := 5) rfl))) (mvT hZ (hw _ (List.mem_of_getElem? (i := 6) rfl))) (by decide) (backOf (W := 1) (rmI l Z a0 hw [] b10 (1 : Int32) h10 n0 O10 A10 F_value_b10 g_b10 (by decide)) hZ (hw _ (List.mem_of_getElem? (i := 6) rfl)) (hw _ (List.mem_of_getElem? (i := 3) rfl)) (by decide) (by decide)) (g := (mkF mm 33 #[.val (.int p0), .val (.int p1), .val (.int (p1 &&& (3 : Int32))), .val (.int (1 : Int32)), .unset, .unset] [(.int (1 : Int32)), (.ref b10), (.ref b10)])) rfl (by rw [hml]; rfl) (Steps.refl _) (a := b10) (argsL := [(.int (1 : Int32))]) (rest := [(.ref b10)]) (lenOf pd_24 rfl) rfl (by show 2 * 0 + _ ≤ _; exact Nat.le_of_eq rfl) (hb hby at_33) (fun _ _ => ⟨rfl, e10, (by decide : 1 + 0 ≤ _), (by decide : 1 + 0 ≤ _)⟩)
      dsimp only [Pt.U, Pt.locs, Pt.cells, Pt.slots] at X11 l11 y11 z11 st11 hQ11
      subst l11 y11 z11
      obtain ⟨rfl, N11q, K11, Ex11, Fv0_11⟩ := hQ11
      have O11 := O10.keep K11 (allS g_b10 all0)
      have KK11 := KK10.trans K11 (allS (Or.inr sz_b10) all0)
      have N11 := Fr.app N0 N11q
      obtain ⟨cq12, kq12, q12a, q12b, q12c⟩ := isOf hZ rfl Ex11
      obtain ⟨_, _, ⟨T12, L12, k12, n12⟩, -, X12, ⟨Lc12, hQ12, l12, y12, z12⟩, st12⟩ := X11.virtualBack hx (y := (⟨"com/example/chapiteau/chapiteau/goldentrain/Wagon", "isSheriff", "()Z"⟩ : MethodName)) (z := (⟨"com/example/chapiteau/chapiteau/goldentrain/Wagon", "isSheriff", "()Z"⟩ : MethodName)) hown (mvT hZ (hw _ (List.mem_of_getElem? (i := 17) rfl))) (mvT hZ (hw _ (List.mem_of_getElem? (i := 18) rfl))) (notFace_of_selects (args := #[]) (mvT hZ (hw _ (List.mem_of_getElem? (i := 20) rfl)))) (mvT hZ (hw _ (List.mem_of_getElem? (i := 20) rfl))) (mvT hZ (hw _ (List.mem_of_getElem? (i := 19) rfl))) (by decide) (backOf (W := 0) (rmS0 l Z a0 hw [] b10 (1 : Int32) T11.heap n0 O11 Fv0_11 (by decide)) hZ (hw _ (List.mem_of_getElem? (i := 21) rfl)) (hw _ (List.mem_of_getElem? (i := 3) rfl)) (by decide) (by decide)) q12a q12c (g := (mkF mm 51 #[.val (.int p0), .val (.int p1), .val (.int (p1 &&& (3 : Int32))), .val (.int (1 : Int32)), .val (.ref b10), .val (.int (0 : Int32))] [(.ref b10)])) rfl (by rw [hml]; rfl) (Steps.refl _) (argsL := []) (rest := []) (lenOf pd_25 rfl) rfl (by show 2 * 0 + _ ≤ _; exact Nat.le_of_eq rfl) (hb hby at_51) (fun _ _ => ⟨rfl, rfl, (by decide : 1 + 0 ≤ _), (by decide : 1 + 0 ≤ _)⟩)
      dsimp only [Pt.U, Pt.locs, Pt.cells, Pt.slots] at X12 l12 y12 z12 st12 hQ12
      subst l12 y12 z12
      obtain ⟨rfl, N12q, e12⟩ := hQ12
      have N12 := Fr.app N11 N12q
      obtain ⟨T13, X13, e13, st13⟩ := getS2 X12 hx hZ hown (host := "") (Or.inl (hw _ (List.mem_of_getElem? (i := 22) rfl))) Via.refl e12 (S_SHERIFF.ext O11.2) (g := (mkF mm 61 #[.val (.int p0), .val (.int p1), .val (.int (p1 &&& (3 : Int32))), .val (.int (1 : Int32)), .val (.ref b10), .val (.int (0 : Int32))] [])) rfl (hb hby at_61)
      obtain ⟨cq14, kq14, q14a, q14b, q14c⟩ := isOf hZ e13 (E_SHERIFF.ext O11.2)
      obtain ⟨_, _, ⟨T14, L14, k14, n14⟩, -, X14, ⟨Lc14, hQ14, l14, y14, z14⟩, st14⟩ := X13.virtualBack hx (y := (⟨"com/example/chapiteau/chapiteau/goldentrain/Wagon", "isSheriff", "()Z"⟩ : MethodName)) (z := (⟨"com/example/chapiteau/chapiteau/goldentrain/Wagon", "isSheriff", "()Z"⟩ : MethodName)) hown (mvT hZ (hw _ (List.mem_of_getElem? (i := 17) rfl))) (mvT hZ (hw _ (List.mem_of_getElem? (i := 18) rfl))) (notFace_of_selects (args := #[]) (mvT hZ (hw _ (List.mem_of_getElem? (i := 20) rfl)))) (mvT hZ (hw _ (List.mem_of_getElem? (i := 20) rfl))) (mvT hZ (hw _ (List.mem_of_getElem? (i := 19) rfl))) (by decide) (backOf (W := 0) (rmS1 l Z a0 hw [] aS (0 : Int32) T11.heap n0 O11 (F_SHERIFF.ext O11.2) rfl) hZ (hw _ (List.mem_of_getElem? (i := 21) rfl)) (hw _ (List.mem_of_getElem? (i := 3) rfl)) (by decide) (by decide)) q14a q14c (g := (mkF mm 64 #[.val (.int p0), .val (.int p1), .val (.int (p1 &&& (3 : Int32))), .val (.int (1 : Int32)), .val (.ref b10), .val (.int (0 : Int32))] [(.ref aS)])) rfl (by rw [hml]; rfl) (Steps.refl _) (argsL := []) (rest := []) (lenOf pd_25 rfl) rfl (by show 2 * 0 + _ ≤ _; exact Nat.le_of_eq rfl) (hb hby at_64) (fun _ _ => ⟨rfl, e13, (by decide : 1 + 0 ≤ _), (by decide : 1 + 0 ≤ _)⟩)
      dsimp only [Pt.U, Pt.locs, Pt.cells, Pt.slots] at X14 l14 y14 z14 st14 hQ14
      subst l14 y14 z14
      obtain ⟨rfl, N14q, e14⟩ := hQ14
      have N14 := Fr.app N12 N14q
      obtain ⟨fs, hr, hrun, hended, hW, hsame⟩ := X14.leave (v := some (.int (1 : Int32))) (fun h => by rw [Bd.returns] at h; cases h)
      refine ⟨_, _, pre8 _ ?_, hrun, hended, _, _, rfl, ?_, ⟨_, rfl⟩, hW, hsame.mono (by decide) (by decide)⟩
      · show Steps pg.tables ee below (s₁.setTop (mkF mm 15 #[.val (.int p0), .val (.int p1), .val (.int (p1 &&& (3 : Int32))), .unset, .unset, .unset] [(.int (1 : Int32)), (.int (p1 &&& (3 : Int32)))])) _
        refine XS.icmpNo X0.here hx rfl (hb hby at_15) rfl (teq hc9).2 ?_
        show Steps pg.tables ee below (s₁.setTop (mkF mm 18 #[.val (.int p0), .val (.int p1), .val (.int (p1 &&& (3 : Int32))), .unset, .unset, .unset] [])) _
        refine XS.iconst X0.here hx rfl (hb hby at_18) ?_
        show Steps pg.tables ee below (s₁.setTop (mkF mm 19 #[.val (.int p0), .val (.int p1), .val (.int (p1 &&& (3 : Int32))), .unset, .unset, .unset] [(.int (1 : Int32))])) _
        refine XS.istoreN X0.here hx rfl (hb hby at_19) rfl (l' := #[.val (.int p0), .val (.int p1), .val (.int (p1 &&& (3 : Int32))), .val (.int (1 : Int32)), .unset, .unset]) rfl ?_
        show Steps pg.tables ee below (s₁.setTop (mkF mm 20 #[.val (.int p0), .val (.int p1), .val (.int (p1 &&& (3 : Int32))), .val (.int (1 : Int32)), .unset, .unset] [])) _
        refine XS.goto X0.here hx rfl (pc0 := 20) (pc' := 28) rfl (hb hby at_20) (by decide) (by decide) ?_
        show Steps pg.tables ee below (s₁.setTop (mkF mm 28 #[.val (.int p0), .val (.int p1), .val (.int (p1 &&& (3 : Int32))), .val (.int (1 : Int32)), .unset, .unset] [])) _
        refine st10 _ ?_
        show Steps pg.tables ee below (T10.setTop (mkF mm 31 #[.val (.int p0), .val (.int p1), .val (.int (p1 &&& (3 : Int32))), .val (.int (1 : Int32)), .unset, .unset] [(.ref b10)])) _
        refine XS.dup X10.here hx rfl (hb hby at_31) rfl rfl ?_
        show Steps pg.tables ee below (T10.setTop (mkF mm 32 #[.val (.int p0), .val (.int p1), .val (.int (p1 &&& (3 : Int32))), .val (.int (1 : Int32)), .unset, .unset] [(.ref b10), (.ref b10)])) _
        refine XS.iloadN X10.here hx rfl (hb hby at_32) rfl ?_
        show Steps pg.tables ee below (T10.setTop (mkF mm 33 #[.val (.int p0), .val (.int p1), .val (.int (p1 &&& (3 : Int32))), .val (.int (1 : Int32)), .unset, .unset] [(.int (1 : Int32)), (.ref b10), (.ref b10)])) _
        refine st11.trans ?_
        show Steps pg.tables ee below (T11.setTop (mkF mm 36 #[.val (.int p0), .val (.int p1), .val (.int (p1 &&& (3 : Int32))), .val (.int (1 : Int32)), .unset, .unset] [(.ref b10)])) _
        refine XS.astore X11.here hx rfl (hb hby at_36) rfl rfl (l' := #[.val (.int p0), .val (.int p1), .val (.int (p1 &&& (3 : Int32))), .val (.int (1 : Int32)), .val (.ref b10), .unset]) rfl ?_
        show Steps pg.tables ee below (T11.setTop (mkF mm 38 #[.val (.int p0), .val (.int p1), .val (.int (p1 &&& (3 : Int32))), .val (.int (1 : Int32)), .val (.ref b10), .unset] [])) _
        refine XS.iloadN X11.here hx rfl (hb hby at_38) rfl ?_
        show Steps pg.tables ee below (T11.setTop (mkF mm 39 #[.val (.int p0), .val (.int p1), .val (.int (p1 &&& (3 : Int32))), .val (.int (1 : Int32)), .val (.ref b10), .unset] [(.int (1 : Int32))])) _
        refine XS.ifYes X11.here hx rfl (pc0 := 39) (pc' := 46) rfl (hb hby at_39) rfl ((if0 _ _).trans (feq (by decide : ¬ ((1 : Int32) = (0 : Int32)))).2) (by decide) (by decide) ?_
        show Steps pg.tables ee below (T11.setTop (mkF mm 46 #[.val (.int p0), .val (.int p1), .val (.int (p1 &&& (3 : Int32))), .val (.int (1 : Int32)), .val (.ref b10), .unset] [])) _
        refine XS.iconst X11.here hx rfl (hb hby at_46) ?_
        show Steps pg.tables ee below (T11.setTop (mkF mm 47 #[.val (.int p0), .val (.int p1), .val (.int (p1 &&& (3 : Int32))), .val (.int (1 : Int32)), .val (.ref b10), .unset] [(.int (0 : Int32))])) _
        refine XS.istore X11.here hx rfl (hb hby at_47) rfl (l' := #[.val (.int p0), .val (.int p1), .val (.int (p1 &&& (3 : Int32))), .val (.int (1 : Int32)), .val (.ref b10), .val (.int (0 : Int32))]) rfl ?_
        show Steps pg.tables ee below (T11.setTop (mkF mm 49 #[.val (.int p0), .val (.int p1), .val (.int (p1 &&& (3 : Int32))), .val (.int (1 : Int32)), .val (.ref b10), .val (.int (0 : Int32))] [])) _
        refine XS.aload X11.here hx rfl (hb hby at_49) rfl rfl ?_
        show Steps pg.tables ee below (T11.setTop (mkF mm 51 #[.val (.int p0), .val (.int p1), .val (.int (p1 &&& (3 : Int32))), .val (.int (1 : Int32)), .val (.ref b10), .val (.int (0 : Int32))] [(.ref b10)])) _
        refine st12.trans ?_
        show Steps pg.tables ee below (T12.setTop (mkF mm 54 #[.val (.int p0), .val (.int p1), .val (.int (p1 &&& (3 : Int32))), .val (.int (1 : Int32)), .val (.ref b10), .val (.int (0 : Int32))] [(.int (0 : Int32))])) _
        refine XS.iload X12.here hx rfl (hb hby at_54) rfl ?_
        show Steps pg.tables ee below (T12.setTop (mkF mm 56 #[.val (.int p0), .val (.int p1), .val (.int (p1 &&& (3 : Int32))), .val (.int (1 : Int32)), .val (.ref b10), .val (.int (0 : Int32))] [(.int (0 : Int32)), (.int (0 : Int32))])) _
        refine XS.icmpYes X12.here hx rfl (pc0 := 56) (pc' := 61) rfl (hb hby at_56) rfl (teq (by decide : (0 : Int32) = (0 : Int32))).1 (by decide) (by decide) ?_
        show Steps pg.tables ee below (T12.setTop (mkF mm 61 #[.val (.int p0), .val (.int p1), .val (.int (p1 &&& (3 : Int32))), .val (.int (1 : Int32)), .val (.ref b10), .val (.int (0 : Int32))] [])) _
        refine st13 _ ?_
        show Steps pg.tables ee below (T13.setTop (mkF mm 64 #[.val (.int p0), .val (.int p1), .val (.int (p1 &&& (3 : Int32))), .val (.int (1 : Int32)), .val (.ref b10), .val (.int (0 : Int32))] [(.ref aS)])) _
        refine st14.trans ?_
        show Steps pg.tables ee below (T14.setTop (mkF mm 67 #[.val (.int p0), .val (.int p1), .val (.int (p1 &&& (3 : Int32))), .val (.int (1 : Int32)), .val (.ref b10), .val (.int (0 : Int32))] [(.int (1 : Int32))])) _
        exact retN X14 hx (t := .boolean) Bd.returns (by simp) (hb hby at_67) hr
      · show Qrm0 Z p0 p1 aS h0 n0 _ T14.heap _
        rw [e14]
        exact ⟨rfl, N14⟩
    · obtain ⟨T15, h15, X15, e15, E15, A15, D15, -, st15⟩ := newO X0 hx hZ hown (hw _ (List.mem_of_getElem? (i := 1) rfl)) (hw _ (List.mem_of_getElem? (i := 2) rfl)) (hw _ (List.mem_of_getElem? (i := 3) rfl)) e0 (g := (mkF mm 28 #[.val (.int p0), .val (.int p1), .val (.int (p1 &&& (3 : Int32))), .val (.int (p0 &&& (2147483647 : Int32))), .unset, .unset] [])) rfl (hb hby at_28) (by decide) (by decide)
      obtain ⟨b15, g15⟩ : ∃ z, z = h0.size := ⟨_, rfl⟩
      rw [← g15] at A15 D15 st15
      have g_b15 : n0 ≤ b15 := Nat.le_trans (O0.1 ▸ O0.2.1) (Nat.le_of_eq g15.symm)
      have sz_b15 : h0.size ≤ b15 := Nat.le_trans K0.1 (Nat.le_of_eq g15.symm)
      have O15 := O0.ext E15
      have KK15 := K0.ext E15
      have F_value_b15 : Fld Z h15 b15 "com/example/chapiteau/chapiteau/goldentrain/Wagon" "value" "I" (.int (0 : Int32)) := D15 (Or.inr (hw _ (List.mem_of_getElem? (i := 16) rfl))) (ty := .int) (by decide)
      obtain ⟨_, _, ⟨T16, L16, k16, n16⟩, -, X16, ⟨Lc16, hQ16, l16, y16, z16⟩, st16⟩ := X15.specialBack hx (y := (⟨"com/example/chapiteau/chapiteau/goldentrain/Wagon", "<init>", "(I)V"⟩ : MethodName)) rfl hown (mvT hZ (hw _ (List.mem_of_getElem? (i := 4) rfl))) (mvT hZ (hw _ (List.mem_of_getElem? (i := 5) rfl))) (mvT hZ (hw _ (List.mem_of_getElem? (i := 6) rfl))) (by decide) (backOf (W := 1) (rmI l Z a0 hw [] b15 (p0 &&& (2147483647 : Int32)) h15 n0 O15 A15 F_value_b15 g_b15 (own_nl p0)) hZ (hw _ (List.mem_of_getElem? (i := 6) rfl)) (hw _ (List.mem_of_getElem? (i := 3) rfl)) (by decide) (by decide)) (g := (mkF mm 33 #[.val (.int p0), .val (.int p1), .val (.int (p1 &&& (3 : Int32))), .val (.int (p0 &&& (2147483647 : Int32))), .unset, .unset] [(.int (p0 &&& (2147483647 : Int32))), (.ref b15), (.ref b15)])) rfl (by rw [hml]; rfl) (Steps.refl _) (a := b15) (argsL := [(.int (p0 &&& (2147483647 : Int32)))]) (rest := [(.ref b15)]) (lenOf pd_24 rfl) rfl (by show 2 * 0 + _ ≤ _; exact Nat.le_of_eq rfl) (hb hby at_33) (fun _ _ => ⟨rfl, e15, (by decide : 1 + 0 ≤ _), (by decide : 1 + 0 ≤ _)⟩)
      dsimp only [Pt.U, Pt.locs, Pt.cells, Pt.slots] at X16 l16 y16 z16 st16 hQ16
      subst l16 y16 z16
      obtain ⟨rfl, N16q, K16, Ex16, Fv0_16⟩ := hQ16
      have O16 := O15.keep K16 (allS g_b15 all0)
      have KK16 := KK15.trans K16 (allS (Or.inr sz_b15) all0)
      have N16 := Fr.app N0 N16q
      have pre17 : ∀ t, Steps pg.tables ee below (T16.setTop (mkF mm 39 #[.val (.int p0), .val (.int p1), .val (.int (p1 &&& (3 : Int32))), .val (.int (p0 &&& (2147483647 : Int32))), .val (.ref b15), .unset] [(.int (p0 &&& (2147483647 : Int32)))])) t → Steps pg.tables ee below (s₁.setTop (entryFrame mm #[(.int p0), (.int p1)] maxLocals)) t := fun t k => pre8 t (by
          show Steps pg.tables ee below (s₁.setTop (mkF mm 15 #[.val (.int p0), .val (.int p1), .val (.int (p1 &&& (3 : Int32))), .unset, .unset, .unset] [(.int (1 : Int32)), (.int (p1 &&& (3 : Int32)))])) _
          refine XS.icmpYes X0.here hx rfl (pc0 := 15) (pc' := 23) rfl (hb hby at_15) rfl (feq hc9).2 (by decide) (by decide) ?_
          show Steps pg.tables ee below (s₁.setTop (mkF mm 23 #[.val (.int p0), .val (.int p1), .val (.int (p1 &&& (3 : Int32))), .unset, .unset, .unset] [])) _
          refine XS.iloadN X0.here hx rfl (hb hby at_23) rfl ?_
          show Steps pg.tables ee below (s₁.setTop (mkF mm 24 #[.val (.int p0), .val (.int p1), .val (.int (p1 &&& (3 : Int32))), .unset, .unset, .unset] [(.int p0)])) _
          refine X0.ldcInt hx hown (mvT hZ (hw _ (List.mem_of_getElem? (i := 0) rfl))) (g := (mkF mm 24 #[.val (.int p0), .val (.int p1), .val (.int (p1 &&& (3 : Int32))), .unset, .unset, .unset] [(.int p0)])) rfl (hb hby at_24) _ ?_
          show Steps pg.tables ee below (s₁.setTop (mkF mm 26 #[.val (.int p0), .val (.int p1), .val (.int (p1 &&& (3 : Int32))), .unset, .unset, .unset] [(.int (2147483647 : Int32)), (.int p0)])) _
          refine XS.iand X0.here hx rfl (hb hby at_26) rfl ?_
          show Steps pg.tables ee below (s₁.setTop (mkF mm 27 #[.val (.int p0), .val (.int p1), .val (.int (p1 &&& (3 : Int32))), .unset, .unset, .unset] [(.int (p0 &&& (2147483647 : Int32)))])) _
          refine XS.istoreN X0.here hx rfl (hb hby at_27) rfl (l' := #[.val (.int p0), .val (.int p1), .val (.int (p1 &&& (3 : Int32))), .val (.int (p0 &&& (2147483647 : Int32))), .unset, .unset]) rfl ?_
          show Steps pg.tables ee below (s₁.setTop (mkF mm 28 #[.val (.int p0), .val (.int p1), .val (.int (p1 &&& (3 : Int32))), .val (.int (p0 &&& (2147483647 : Int32))), .unset, .unset] [])) _
          refine st15 _ ?_
          show Steps pg.tables ee below (T15.setTop (mkF mm 31 #[.val (.int p0), .val (.int p1), .val (.int (p1 &&& (3 : Int32))), .val (.int (p0 &&& (2147483647 : Int32))), .unset, .unset] [(.ref b15)])) _
          refine XS.dup X15.here hx rfl (hb hby at_31) rfl rfl ?_
          show Steps pg.tables ee below (T15.setTop (mkF mm 32 #[.val (.int p0), .val (.int p1), .val (.int (p1 &&& (3 : Int32))), .val (.int (p0 &&& (2147483647 : Int32))), .unset, .unset] [(.ref b15), (.ref b15)])) _
          refine XS.iloadN X15.here hx rfl (hb hby at_32) rfl ?_
          show Steps pg.tables ee below (T15.setTop (mkF mm 33 #[.val (.int p0), .val (.int p1), .val (.int (p1 &&& (3 : Int32))), .val (.int (p0 &&& (2147483647 : Int32))), .unset, .unset] [(.int (p0 &&& (2147483647 : Int32))), (.ref b15), (.ref b15)])) _
          refine st16.trans ?_
          show Steps pg.tables ee below (T16.setTop (mkF mm 36 #[.val (.int p0), .val (.int p1), .val (.int (p1 &&& (3 : Int32))), .val (.int (p0 &&& (2147483647 : Int32))), .unset, .unset] [(.ref b15)])) _
          refine XS.astore X16.here hx rfl (hb hby at_36) rfl rfl (l' := #[.val (.int p0), .val (.int p1), .val (.int (p1 &&& (3 : Int32))), .val (.int (p0 &&& (2147483647 : Int32))), .val (.ref b15), .unset]) rfl ?_
          show Steps pg.tables ee below (T16.setTop (mkF mm 38 #[.val (.int p0), .val (.int p1), .val (.int (p1 &&& (3 : Int32))), .val (.int (p0 &&& (2147483647 : Int32))), .val (.ref b15), .unset] [])) _
          refine XS.iloadN X16.here hx rfl (hb hby at_38) rfl ?_
          exact k)
      by_cases hc18 : (p0 &&& (2147483647 : Int32)) = (0 : Int32)
      · obtain ⟨cq19, kq19, q19a, q19b, q19c⟩ := isOf hZ rfl Ex16
        obtain ⟨_, _, ⟨T19, L19, k19, n19⟩, -, X19, ⟨Lc19, hQ19, l19, y19, z19⟩, st19⟩ := X16.virtualBack hx (y := (⟨"com/example/chapiteau/chapiteau/goldentrain/Wagon", "isSheriff", "()Z"⟩ : MethodName)) (z := (⟨"com/example/chapiteau/chapiteau/goldentrain/Wagon", "isSheriff", "()Z"⟩ : MethodName)) hown (mvT hZ (hw _ (List.mem_of_getElem? (i := 17) rfl))) (mvT hZ (hw _ (List.mem_of_getElem? (i := 18) rfl))) (notFace_of_selects (args := #[]) (mvT hZ (hw _ (List.mem_of_getElem? (i := 20) rfl)))) (mvT hZ (hw _ (List.mem_of_getElem? (i := 20) rfl))) (mvT hZ (hw _ (List.mem_of_getElem? (i := 19) rfl))) (by decide) (backOf (W := 0) (rmS1 l Z a0 hw [] b15 (p0 &&& (2147483647 : Int32)) T16.heap n0 O16 Fv0_16 hc18) hZ (hw _ (List.mem_of_getElem? (i := 21) rfl)) (hw _ (List.mem_of_getElem? (i := 3) rfl)) (by decide) (by decide)) q19a q19c (g := (mkF mm 51 #[.val (.int p0), .val (.int p1), .val (.int (p1 &&& (3 : Int32))), .val (.int (p0 &&& (2147483647 : Int32))), .val (.ref b15), .val (.int (1 : Int32))] [(.ref b15)])) rfl (by rw [hml]; rfl) (Steps.refl _) (argsL := []) (rest := []) (lenOf pd_25 rfl) rfl (by show 2 * 0 + _ ≤ _; exact Nat.le_of_eq rfl) (hb hby at_51) (fun _ _ => ⟨rfl, rfl, (by decide : 1 + 0 ≤ _), (by decide : 1 + 0 ≤ _)⟩)
        dsimp only [Pt.U, Pt.locs, Pt.cells, Pt.slots] at X19 l19 y19 z19 st19 hQ19
        subst l19 y19 z19
        obtain ⟨rfl, N19q, e19⟩ := hQ19
        have N19 := Fr.app N16 N19q
        obtain ⟨T20, X20, e20, st20⟩ := getS2 X19 hx hZ hown (host := "") (Or.inl (hw _ (List.mem_of_getElem? (i := 22) rfl))) Via.refl e19 (S_SHERIFF.ext O16.2) (g := (mkF mm 61 #[.val (.int p0), .val (.int p1), .val (.int (p1 &&& (3 : Int32))), .val (.int (p0 &&& (2147483647 : Int32))), .val (.ref b15), .val (.int (1 : Int32))] [])) rfl (hb hby at_61)
        obtain ⟨cq21, kq21, q21a, q21b, q21c⟩ := isOf hZ e20 (E_SHERIFF.ext O16.2)
        obtain ⟨_, _, ⟨T21, L21, k21, n21⟩, -, X21, ⟨Lc21, hQ21, l21, y21, z21⟩, st21⟩ := X20.virtualBack hx (y := (⟨"com/example/chapiteau/chapiteau/goldentrain/Wagon", "isSheriff", "()Z"⟩ : MethodName)) (z := (⟨"com/example/chapiteau/chapiteau/goldentrain/Wagon", "isSheriff", "()Z"⟩ : MethodName)) hown (mvT hZ (hw _ (List.mem_of_getElem? (i := 17) rfl))) (mvT hZ (hw _ (List.mem_of_getElem? (i := 18) rfl))) (notFace_of_selects (args := #[]) (mvT hZ (hw _ (List.mem_of_getElem? (i := 20) rfl)))) (mvT hZ (hw _ (List.mem_of_getElem? (i := 20) rfl))) (mvT hZ (hw _ (List.mem_of_getElem? (i := 19) rfl))) (by decide) (backOf (W := 0) (rmS1 l Z a0 hw [] aS (0 : Int32) T16.heap n0 O16 (F_SHERIFF.ext O16.2) rfl) hZ (hw _ (List.mem_of_getElem? (i := 21) rfl)) (hw _ (List.mem_of_getElem? (i := 3) rfl)) (by decide) (by decide)) q21a q21c (g := (mkF mm 64 #[.val (.int p0), .val (.int p1), .val (.int (p1 &&& (3 : Int32))), .val (.int (p0 &&& (2147483647 : Int32))), .val (.ref b15), .val (.int (1 : Int32))] [(.ref aS)])) rfl (by rw [hml]; rfl) (Steps.refl _) (argsL := []) (rest := []) (lenOf pd_25 rfl) rfl (by show 2 * 0 + _ ≤ _; exact Nat.le_of_eq rfl) (hb hby at_64) (fun _ _ => ⟨rfl, e20, (by decide : 1 + 0 ≤ _), (by decide : 1 + 0 ≤ _)⟩)
        dsimp only [Pt.U, Pt.locs, Pt.cells, Pt.slots] at X21 l21 y21 z21 st21 hQ21
        subst l21 y21 z21
        obtain ⟨rfl, N21q, e21⟩ := hQ21
        have N21 := Fr.app N19 N21q
        obtain ⟨fs, hr, hrun, hended, hW, hsame⟩ := X21.leave (v := some (.int (1 : Int32))) (fun h => by rw [Bd.returns] at h; cases h)
        refine ⟨_, _, pre17 _ ?_, hrun, hended, _, _, rfl, ?_, ⟨_, rfl⟩, hW, hsame.mono (by decide) (by decide)⟩
        · show Steps pg.tables ee below (T16.setTop (mkF mm 39 #[.val (.int p0), .val (.int p1), .val (.int (p1 &&& (3 : Int32))), .val (.int (p0 &&& (2147483647 : Int32))), .val (.ref b15), .unset] [(.int (p0 &&& (2147483647 : Int32)))])) _
          refine XS.ifNo X16.here hx rfl (hb hby at_39) rfl ((if0 _ _).trans (teq hc18).2) ?_
          show Steps pg.tables ee below (T16.setTop (mkF mm 42 #[.val (.int p0), .val (.int p1), .val (.int (p1 &&& (3 : Int32))), .val (.int (p0 &&& (2147483647 : Int32))), .val (.ref b15), .unset] [])) _
          refine XS.iconst X16.here hx rfl (hb hby at_42) ?_
          show Steps pg.tables ee below (T16.setTop (mkF mm 43 #[.val (.int p0), .val (.int p1), .val (.int (p1 &&& (3 : Int32))), .val (.int (p0 &&& (2147483647 : Int32))), .val (.ref b15), .unset] [(.int (1 : Int32))])) _
          refine XS.goto X16.here hx rfl (pc0 := 43) (pc' := 47) rfl (hb hby at_43) (by decide) (by decide) ?_
          show Steps pg.tables ee below (T16.setTop (mkF mm 47 #[.val (.int p0), .val (.int p1), .val (.int (p1 &&& (3 : Int32))), .val (.int (p0 &&& (2147483647 : Int32))), .val (.ref b15), .unset] [(.int (1 : Int32))])) _
          refine XS.istore X16.here hx rfl (hb hby at_47) rfl (l' := #[.val (.int p0), .val (.int p1), .val (.int (p1 &&& (3 : Int32))), .val (.int (p0 &&& (2147483647 : Int32))), .val (.ref b15), .val (.int (1 : Int32))]) rfl ?_
          show Steps pg.tables ee below (T16.setTop (mkF mm 49 #[.val (.int p0), .val (.int p1), .val (.int (p1 &&& (3 : Int32))), .val (.int (p0 &&& (2147483647 : Int32))), .val (.ref b15), .val (.int (1 : Int32))] [])) _
          refine XS.aload X16.here hx rfl (hb hby at_49) rfl rfl ?_
          show Steps pg.tables ee below (T16.setTop (mkF mm 51 #[.val (.int p0), .val (.int p1), .val (.int (p1 &&& (3 : Int32))), .val (.int (p0 &&& (2147483647 : Int32))), .val (.ref b15), .val (.int (1 : Int32))] [(.ref b15)])) _
          refine st19.trans ?_
          show Steps pg.tables ee below (T19.setTop (mkF mm 54 #[.val (.int p0), .val (.int p1), .val (.int (p1 &&& (3 : Int32))), .val (.int (p0 &&& (2147483647 : Int32))), .val (.ref b15), .val (.int (1 : Int32))] [(.int (1 : Int32))])) _
          refine XS.iload X19.here hx rfl (hb hby at_54) rfl ?_
          show Steps pg.tables ee below (T19.setTop (mkF mm 56 #[.val (.int p0), .val (.int p1), .val (.int (p1 &&& (3 : Int32))), .val (.int (p0 &&& (2147483647 : Int32))), .val (.ref b15), .val (.int (1 : Int32))] [(.int (1 : Int32)), (.int (1 : Int32))])) _
          refine XS.icmpYes X19.here hx rfl (pc0 := 56) (pc' := 61) rfl (hb hby at_56) rfl (teq (by decide : (1 : Int32) = (1 : Int32))).1 (by decide) (by decide) ?_
          show Steps pg.tables ee below (T19.setTop (mkF mm 61 #[.val (.int p0), .val (.int p1), .val (.int (p1 &&& (3 : Int32))), .val (.int (p0 &&& (2147483647 : Int32))), .val (.ref b15), .val (.int (1 : Int32))] [])) _
          refine st20 _ ?_
          show Steps pg.tables ee below (T20.setTop (mkF mm 64 #[.val (.int p0), .val (.int p1), .val (.int (p1 &&& (3 : Int32))), .val (.int (p0 &&& (2147483647 : Int32))), .val (.ref b15), .val (.int (1 : Int32))] [(.ref aS)])) _
          refine st21.trans ?_
          show Steps pg.tables ee below (T21.setTop (mkF mm 67 #[.val (.int p0), .val (.int p1), .val (.int (p1 &&& (3 : Int32))), .val (.int (p0 &&& (2147483647 : Int32))), .val (.ref b15), .val (.int (1 : Int32))] [(.int (1 : Int32))])) _
          exact retN X21 hx (t := .boolean) Bd.returns (by simp) (hb hby at_67) hr
        · show Qrm0 Z p0 p1 aS h0 n0 _ T21.heap _
          rw [e21]
          exact ⟨rfl, N21⟩
      · obtain ⟨cq22, kq22, q22a, q22b, q22c⟩ := isOf hZ rfl Ex16
        obtain ⟨_, _, ⟨T22, L22, k22, n22⟩, -, X22, ⟨Lc22, hQ22, l22, y22, z22⟩, st22⟩ := X16.virtualBack hx (y := (⟨"com/example/chapiteau/chapiteau/goldentrain/Wagon", "isSheriff", "()Z"⟩ : MethodName)) (z := (⟨"com/example/chapiteau/chapiteau/goldentrain/Wagon", "isSheriff", "()Z"⟩ : MethodName)) hown (mvT hZ (hw _ (List.mem_of_getElem? (i := 17) rfl))) (mvT hZ (hw _ (List.mem_of_getElem? (i := 18) rfl))) (notFace_of_selects (args := #[]) (mvT hZ (hw _ (List.mem_of_getElem? (i := 20) rfl)))) (mvT hZ (hw _ (List.mem_of_getElem? (i := 20) rfl))) (mvT hZ (hw _ (List.mem_of_getElem? (i := 19) rfl))) (by decide) (backOf (W := 0) (rmS0 l Z a0 hw [] b15 (p0 &&& (2147483647 : Int32)) T16.heap n0 O16 Fv0_16 hc18) hZ (hw _ (List.mem_of_getElem? (i := 21) rfl)) (hw _ (List.mem_of_getElem? (i := 3) rfl)) (by decide) (by decide)) q22a q22c (g := (mkF mm 51 #[.val (.int p0), .val (.int p1), .val (.int (p1 &&& (3 : Int32))), .val (.int (p0 &&& (2147483647 : Int32))), .val (.ref b15), .val (.int (0 : Int32))] [(.ref b15)])) rfl (by rw [hml]; rfl) (Steps.refl _) (argsL := []) (rest := []) (lenOf pd_25 rfl) rfl (by show 2 * 0 + _ ≤ _; exact Nat.le_of_eq rfl) (hb hby at_51) (fun _ _ => ⟨rfl, rfl, (by decide : 1 + 0 ≤ _), (by decide : 1 + 0 ≤ _)⟩)
        dsimp only [Pt.U, Pt.locs, Pt.cells, Pt.slots] at X22 l22 y22 z22 st22 hQ22
        subst l22 y22 z22
        obtain ⟨rfl, N22q, e22⟩ := hQ22
        have N22 := Fr.app N16 N22q
        obtain ⟨T23, X23, e23, st23⟩ := getS2 X22 hx hZ hown (host := "") (Or.inl (hw _ (List.mem_of_getElem? (i := 22) rfl))) Via.refl e22 (S_SHERIFF.ext O16.2) (g := (mkF mm 61 #[.val (.int p0), .val (.int p1), .val (.int (p1 &&& (3 : Int32))), .val (.int (p0 &&& (2147483647 : Int32))), .val (.ref b15), .val (.int (0 : Int32))] [])) rfl (hb hby at_61)
        obtain ⟨cq24, kq24, q24a, q24b, q24c⟩ := isOf hZ e23 (E_SHERIFF.ext O16.2)
        obtain ⟨_, _, ⟨T24, L24, k24, n24⟩, -, X24, ⟨Lc24, hQ24, l24, y24, z24⟩, st24⟩ := X23.virtualBack hx (y := (⟨"com/example/chapiteau/chapiteau/goldentrain/Wagon", "isSheriff", "()Z"⟩ : MethodName)) (z := (⟨"com/example/chapiteau/chapiteau/goldentrain/Wagon", "isSheriff", "()Z"⟩ : MethodName)) hown (mvT hZ (hw _ (List.mem_of_getElem? (i := 17) rfl))) (mvT hZ (hw _ (List.mem_of_getElem? (i := 18) rfl))) (notFace_of_selects (args := #[]) (mvT hZ (hw _ (List.mem_of_getElem? (i := 20) rfl)))) (mvT hZ (hw _ (List.mem_of_getElem? (i := 20) rfl))) (mvT hZ (hw _ (List.mem_of_getElem? (i := 19) rfl))) (by decide) (backOf (W := 0) (rmS1 l Z a0 hw [] aS (0 : Int32) T16.heap n0 O16 (F_SHERIFF.ext O16.2) rfl) hZ (hw _ (List.mem_of_getElem? (i := 21) rfl)) (hw _ (List.mem_of_getElem? (i := 3) rfl)) (by decide) (by decide)) q24a q24c (g := (mkF mm 64 #[.val (.int p0), .val (.int p1), .val (.int (p1 &&& (3 : Int32))), .val (.int (p0 &&& (2147483647 : Int32))), .val (.ref b15), .val (.int (0 : Int32))] [(.ref aS)])) rfl (by rw [hml]; rfl) (Steps.refl _) (argsL := []) (rest := []) (lenOf pd_25 rfl) rfl (by show 2 * 0 + _ ≤ _; exact Nat.le_of_eq rfl) (hb hby at_64) (fun _ _ => ⟨rfl, e23, (by decide : 1 + 0 ≤ _), (by decide : 1 + 0 ≤ _)⟩)
        dsimp only [Pt.U, Pt.locs, Pt.cells, Pt.slots] at X24 l24 y24 z24 st24 hQ24
        subst l24 y24 z24
        obtain ⟨rfl, N24q, e24⟩ := hQ24
        have N24 := Fr.app N22 N24q
        obtain ⟨fs, hr, hrun, hended, hW, hsame⟩ := X24.leave (v := some (.int (1 : Int32))) (fun h => by rw [Bd.returns] at h; cases h)
        refine ⟨_, _, pre17 _ ?_, hrun, hended, _, _, rfl, ?_, ⟨_, rfl⟩, hW, hsame.mono (by decide) (by decide)⟩
        · show Steps pg.tables ee below (T16.setTop (mkF mm 39 #[.val (.int p0), .val (.int p1), .val (.int (p1 &&& (3 : Int32))), .val (.int (p0 &&& (2147483647 : Int32))), .val (.ref b15), .unset] [(.int (p0 &&& (2147483647 : Int32)))])) _
          refine XS.ifYes X16.here hx rfl (pc0 := 39) (pc' := 46) rfl (hb hby at_39) rfl ((if0 _ _).trans (feq hc18).2) (by decide) (by decide) ?_
          show Steps pg.tables ee below (T16.setTop (mkF mm 46 #[.val (.int p0), .val (.int p1), .val (.int (p1 &&& (3 : Int32))), .val (.int (p0 &&& (2147483647 : Int32))), .val (.ref b15), .unset] [])) _
          refine XS.iconst X16.here hx rfl (hb hby at_46) ?_
          show Steps pg.tables ee below (T16.setTop (mkF mm 47 #[.val (.int p0), .val (.int p1), .val (.int (p1 &&& (3 : Int32))), .val (.int (p0 &&& (2147483647 : Int32))), .val (.ref b15), .unset] [(.int (0 : Int32))])) _
          refine XS.istore X16.here hx rfl (hb hby at_47) rfl (l' := #[.val (.int p0), .val (.int p1), .val (.int (p1 &&& (3 : Int32))), .val (.int (p0 &&& (2147483647 : Int32))), .val (.ref b15), .val (.int (0 : Int32))]) rfl ?_
          show Steps pg.tables ee below (T16.setTop (mkF mm 49 #[.val (.int p0), .val (.int p1), .val (.int (p1 &&& (3 : Int32))), .val (.int (p0 &&& (2147483647 : Int32))), .val (.ref b15), .val (.int (0 : Int32))] [])) _
          refine XS.aload X16.here hx rfl (hb hby at_49) rfl rfl ?_
          show Steps pg.tables ee below (T16.setTop (mkF mm 51 #[.val (.int p0), .val (.int p1), .val (.int (p1 &&& (3 : Int32))), .val (.int (p0 &&& (2147483647 : Int32))), .val (.ref b15), .val (.int (0 : Int32))] [(.ref b15)])) _
          refine st22.trans ?_
          show Steps pg.tables ee below (T22.setTop (mkF mm 54 #[.val (.int p0), .val (.int p1), .val (.int (p1 &&& (3 : Int32))), .val (.int (p0 &&& (2147483647 : Int32))), .val (.ref b15), .val (.int (0 : Int32))] [(.int (0 : Int32))])) _
          refine XS.iload X22.here hx rfl (hb hby at_54) rfl ?_
          show Steps pg.tables ee below (T22.setTop (mkF mm 56 #[.val (.int p0), .val (.int p1), .val (.int (p1 &&& (3 : Int32))), .val (.int (p0 &&& (2147483647 : Int32))), .val (.ref b15), .val (.int (0 : Int32))] [(.int (0 : Int32)), (.int (0 : Int32))])) _
          refine XS.icmpYes X22.here hx rfl (pc0 := 56) (pc' := 61) rfl (hb hby at_56) rfl (teq (by decide : (0 : Int32) = (0 : Int32))).1 (by decide) (by decide) ?_
          show Steps pg.tables ee below (T22.setTop (mkF mm 61 #[.val (.int p0), .val (.int p1), .val (.int (p1 &&& (3 : Int32))), .val (.int (p0 &&& (2147483647 : Int32))), .val (.ref b15), .val (.int (0 : Int32))] [])) _
          refine st23 _ ?_
          show Steps pg.tables ee below (T23.setTop (mkF mm 64 #[.val (.int p0), .val (.int p1), .val (.int (p1 &&& (3 : Int32))), .val (.int (p0 &&& (2147483647 : Int32))), .val (.ref b15), .val (.int (0 : Int32))] [(.ref aS)])) _
          refine st24.trans ?_
          show Steps pg.tables ee below (T24.setTop (mkF mm 67 #[.val (.int p0), .val (.int p1), .val (.int (p1 &&& (3 : Int32))), .val (.int (p0 &&& (2147483647 : Int32))), .val (.ref b15), .val (.int (0 : Int32))] [(.int (1 : Int32))])) _
          exact retN X24 hx (t := .boolean) Bd.returns (by simp) (hb hby at_67) hr
        · show Qrm0 Z p0 p1 aS h0 n0 _ T24.heap _
          rw [e24]
          exact ⟨rfl, N24⟩
set_option maxRecDepth 65536 in
set_option maxHeartbeats 40000000 in
theorem comes_1 {Post : Tables → Env → Array Value → State → Outcome → State → Prop} (hpost : ∀ tb e args s v u, (limb_1_1.after args s (.returned v) u = true ∧ limb_1_2.after args s (.returned v) u = true ∧ True) → FrameEnd s (.returned v) u (Jvm.fieldLocs frame_1_writes args s ++ Jvm.arrayLocs frame_1_arrays args s ++ Jvm.staticLocs frame_1_statics s) 16 128 → Post tb e args s (.returned v) u) :
    ArmFor flags0 classFile x code maxLocals ret World_1 tables_1 room_1 Calls_1 rest_1 Pre_1 Post := by
  intro l hfl _ _ p e ha hc hk s m args below hf hA hF happ hP
  obtain ⟨hcalls, hrest, hpre⟩ := hP
  obtain ⟨-, -, -, hnamed, -, -, -, hat⟩ := (Spec.applies_iff hf).mp happ
  obtain ⟨hg, hn⟩ := and_e (Cond.before_iff.mp (show (Jvm.Cond.and given_1 narrow_1).before args s = true from hpre))
  obtain ⟨gg1, gg2⟩ := and_e hg
  obtain ⟨gg3, gg4⟩ := and_e gg2
  obtain ⟨w0, w1, rfl⟩ : ∃ w0 w1 : Value, args = #[w0, w1] := by
    have hs : args.size = 2 := by simpa [Cond.value, given_1] using gg1
    obtain ⟨L⟩ := args
    match L, hs with
    | [w0, w1], _ => exact ⟨w0, w1, rfl⟩
  have hw := fun d (hd : d ∈ tables_1) => atoms_spec (ws := Jvm.Cond.code x code maxLocals ret :: tables_1) hat d (List.mem_cons_of_mem _ hd)
  have hfit : Fit s := fun {y c} hc i hi => by
    obtain ⟨ha, rfl⟩ := Array.getElem?_eq_some_iff.mp hc
    have q := List.all_eq_true.mp ((Array.all_eq_true_iff_forall_mem.mp hF) _ (Array.getElem_mem ha)) i (List.mem_range.mpr hi)
    simpa [Array.getElem?_eq_getElem hi] using q
  obtain ⟨i0, ei0⟩ := is_v gg3
  obtain rfl : w0 = (.int i0) := Option.some.inj ei0
  obtain ⟨i1, ei1⟩ := is_v gg4
  obtain rfl : w1 = (.int i1) := Option.some.inj ei1
  obtain ⟨gg5, gg6⟩ := and_e hn
  obtain ⟨a_SHERIFF, ev_SHERIFF⟩ := exa_v gg5
  have E_SHERIFF := Exa.start ev_SHERIFF gg5
  have S_SHERIFF := Sta.start ev_SHERIFF (Or.inr ⟨(hw _ (List.mem_of_getElem? (i := 3) rfl)), (hw _ (List.mem_of_getElem? (i := 23) rfl))⟩)
  have F_SHERIFF_value := own_fld ev_SHERIFF gg6
  obtain ⟨n, o, h1, h2, h3, _, L, rfl, ⟨rfl, N⟩, hq⟩ := rm0 l s _ hw tables_1 i0 i1 a_SHERIFF s.heap s.heap.size (Old.start s) S_SHERIFF E_SHERIFF F_SHERIFF_value p e ha hc hk s m _ below hf ((Spec.applies_iff_loose hf).mp happ).1 ⟨rfl, State.Warmed39.refl s, rfl⟩ trivial
  refine ⟨n, _, h1, h2, h3, hpost _ _ _ _ _ _ ⟨Cond.after_iff.mpr rfl, Cond.after_iff.mpr (eq_i res_at (Term.int_eval (1)) rfl), trivial⟩ ⟨hq.1, hq.2.1, (hq.2.2.sift fun y hy => Or.inr (N y hy)).mono (by decide) (by decide)⟩⟩
theorem main_1_1 : Claimed_1_1 := comes_1 fun _ _ _ _ _ _ h hF => ⟨h.1, hF⟩
theorem main_1_2 : Claimed_1_2 := comes_1 fun _ _ _ _ _ _ h hF => ⟨h.2.1, hF⟩
end Jvm.Pilot.@@N@@
namespace Jvm.Pilot.@@N@@
open Jvm Jvm.ClassFile Sem Op Lib Jvm.Free Jvm.Stand Jvm.Pilot.@@N@@.Jvm.D
/-! MADE BY PROGRAM (witnessworld.py) out of the Statement's table words and the real class files: 10 classes; the members and pool entries that the words name. The judged class is class 1, her method 1. -/
namespace start1
open Jvm.ClassFile
def u (s : String) : CpInfo := .utf8 (stringToUtf16 s)
/-- a pool by its gaps: so many unusable entries, then the entry; so many at the end -/
def gap : Nat → List CpInfo → List CpInfo
  | 0, r => r
  | n + 1, r => .unusable :: gap n r
def poolList (es : List (Nat × CpInfo)) (last : Nat) : List CpInfo := es.foldr (fun e r => gap e.1 (e.2 :: r)) (gap last [])
def pool (es : List (Nat × CpInfo)) (last : Nat) : Array CpInfo := ⟨poolList es last⟩
def fileOf (pool : Array CpInfo) (this : Nat) (attrs : Array Attribute := #[]) (ms : Array MethodInfo := #[]) (fl : Nat := 33) (sup : Nat := 0) (ifs : Array Nat := #[]) (fds : Array FieldInfo := #[]) : ClassFile where
  minorVersion := 0
  majorVersion := 65
  constantPool := pool
  accessFlags := fl
  thisClass := this
  superClass := sup
  interfaces := ifs
  fields := fds
  methods := ms
  attributes := attrs
def plain (name : String) (sup : Option ClassId) : Class where
  name := name
  kind := .ordinary
  loader := none
  accessFlags := 33
  super := sup
  interfaces := #[]
  cf := none
  fields := #[]
  methods := #[]
  instanceTypes := #[]
  staticTypes := #[]
  resolved := #[]
  callSites := []
  init := .initialized
  statics := none
  mirror := none

def pool0 : Array CpInfo := pool [(5, u "<init>"), (0, u "()V"), (1, .class_ 10), (1, u "java/lang/Object")] 113

def k0c0 : Code := { maxStack := 0, maxLocals := 1, code := object_method_1_code, exceptionTable := #[], attributes := #[] }
def k0m0 : Method := { name := "<init>", desc := "()V", sig := { parameters := [], returnType := none }, accessFlags := 1, code := some k0c0 }
/-- java/lang/Object -/
def k0 : Class := { plain "java/lang/Object" none with
  accessFlags := 33
  interfaces := #[]
  cf := some (fileOf pool0 8 #[] #[{ accessFlags := 1, nameIndex := 5, descriptorIndex := 6, attributes := #[] }] 33 0 #[] #[])
  fields := #[]
  methods := #[k0m0]
  instanceTypes := #[]
  staticTypes := #[]
  resolved := Array.replicate 124 none
  statics := none }

def pool1 : Array CpInfo := pool [(2, .class_ 4), (1, u "java/lang/Object"), (0, u "<init>"), (0, u "()V"), (0, .integer 2147483647), (0, .class_ 9), (0, u "com/example/chapiteau/chapiteau/goldentrain/Wagon"), (0, .methodref 8 11), (0, .nameAndType 5 12), (0, u "(I)V"), (0, .methodref 8 14), (0, .nameAndType 15 16), (0, u "isSheriff"), (0, u "()Z"), (0, .fieldref 8 18), (0, .nameAndType 19 20), (0, u "SHERIFF"), (0, u "Lcom/example/chapiteau/chapiteau/goldentrain/Wagon;"), (0, .class_ 22), (0, u "com/example/chapiteau/chapiteau/goldentrain/WagonIsSheriffPinLaw"), (2, u "law"), (0, u "(II)Z")] 3

def k1m0 : Method := { name := "<init>", desc := "()V", sig := { parameters := [], returnType := none }, accessFlags := 2, code := none }
def k1c1 : Code := { maxStack := 3, maxLocals := 6, code := code, exceptionTable := #[], attributes := #[] }
def k1m1 : Method := { name := "law", desc := "(II)Z", sig := { parameters := [.int, .int], returnType := some .boolean }, accessFlags := 9, code := some k1c1 }
/-- com/example/chapiteau/chapiteau/goldentrain/WagonIsSheriffPinLaw -/
def k1 : Class := { plain "com/example/chapiteau/chapiteau/goldentrain/WagonIsSheriffPinLaw" (some 0) with
  accessFlags := 49
  interfaces := #[]
  cf := some (fileOf pool1 21 #[] #[{ accessFlags := 2, nameIndex := 5, descriptorIndex := 6, attributes := #[] }, { accessFlags := 9, nameIndex := 25, descriptorIndex := 26, attributes := #[] }] 49 2 #[] #[])
  fields := #[]
  methods := #[k1m0, k1m1]
  instanceTypes := #[]
  staticTypes := #[]
  resolved := Array.replicate 30 none
  statics := none }

def pool2 : Array CpInfo := pool [(1, .methodref 2 3), (0, .class_ 4), (0, .nameAndType 5 6), (0, u "java/lang/Object"), (0, u "<init>"), (0, u "()V"), (0, .class_ 8), (0, u "java/lang/Record")] 13

def k2c0 : Code := { maxStack := 1, maxLocals := 1, code := jdk_30_method_1_code, exceptionTable := #[], attributes := #[] }
def k2m0 : Method := { name := "<init>", desc := "()V", sig := { parameters := [], returnType := none }, accessFlags := 4, code := some k2c0 }
/-- java/lang/Record -/
def k2 : Class := { plain "java/lang/Record" (some 0) with
  accessFlags := 1057
  interfaces := #[]
  cf := some (fileOf pool2 7 #[] #[{ accessFlags := 4, nameIndex := 5, descriptorIndex := 6, attributes := #[] }] 1057 2 #[] #[])
  fields := #[]
  methods := #[k2m0]
  instanceTypes := #[]
  staticTypes := #[]
  resolved := Array.replicate 22 none
  statics := none }

def pool3 : Array CpInfo := pool [(1, .methodref 2 3), (0, .class_ 4), (0, .nameAndType 5 6), (0, u "java/lang/Record"), (0, u "<init>"), (0, u "()V"), (9, .fieldref 17 18), (0, .class_ 19), (0, .nameAndType 20 21), (0, u "com/example/chapiteau/chapiteau/goldentrain/Wagon"), (0, u "value"), (0, u "I"), (10, u "SHERIFF"), (0, u "Lcom/example/chapiteau/chapiteau/goldentrain/Wagon;"), (18, u "(I)V"), (2, u "isSheriff"), (0, u "()Z"), (12, u "SHERIFF_FACE"), (0, u "Ljava/lang/String;")] 38

def k3c0 : Code := { maxStack := 3, maxLocals := 2, code := prog_34_method_1_code, exceptionTable := #[], attributes := #[] }
def k3m0 : Method := { name := "<init>", desc := "(I)V", sig := { parameters := [.int], returnType := none }, accessFlags := 1, code := some k3c0 }
def k3c1 : Code := { maxStack := 1, maxLocals := 1, code := prog_34_method_3_code, exceptionTable := #[], attributes := #[] }
def k3m1 : Method := { name := "isSheriff", desc := "()Z", sig := { parameters := [], returnType := some .boolean }, accessFlags := 1, code := some k3c1 }
/-- com/example/chapiteau/chapiteau/goldentrain/Wagon -/
def k3 : Class := { plain "com/example/chapiteau/chapiteau/goldentrain/Wagon" (some 2) with
  accessFlags := 49
  interfaces := #[]
  cf := some (fileOf pool3 17 #[] #[{ accessFlags := 1, nameIndex := 5, descriptorIndex := 52, attributes := #[] }, { accessFlags := 1, nameIndex := 55, descriptorIndex := 56, attributes := #[] }] 49 2 #[] #[{ accessFlags := 18, nameIndex := 20, descriptorIndex := 21, attributes := #[] }, { accessFlags := 25, nameIndex := 32, descriptorIndex := 33, attributes := #[] }, { accessFlags := 26, nameIndex := 69, descriptorIndex := 70, attributes := #[] }])
  fields := #[{ name := "value", type := .int, accessFlags := 18, slot := 0, constantValue := 0 }, { name := "SHERIFF", type := (.object "com/example/chapiteau/chapiteau/goldentrain/Wagon"), accessFlags := 25, slot := 0, constantValue := 0 }, { name := "SHERIFF_FACE", type := (.object "java/lang/String"), accessFlags := 26, slot := 1, constantValue := 0 }]
  methods := #[k3m0, k3m1]
  instanceTypes := #[.int]
  staticTypes := #[(.object "com/example/chapiteau/chapiteau/goldentrain/Wagon"), (.object "java/lang/String")]
  resolved := Array.replicate 109 none
  statics := some 0 }

def pool4 : Array CpInfo := pool [(1, u "java/lang/Cloneable"), (0, .class_ 1), (0, u "java/lang/Object"), (0, .class_ 3)] 3

/-- java/lang/Cloneable -/
def k4 : Class := { plain "java/lang/Cloneable" (some 0) with
  accessFlags := 1537
  interfaces := #[]
  cf := some (fileOf pool4 2 #[] #[] 1537 4 #[] #[])
  fields := #[]
  methods := #[]
  instanceTypes := #[]
  staticTypes := #[]
  resolved := Array.replicate 8 none
  statics := none }

def pool5 : Array CpInfo := pool [(1, u "java/io/Serializable"), (0, .class_ 1), (0, u "java/lang/Object"), (0, .class_ 3)] 3

/-- java/io/Serializable -/
def k5 : Class := { plain "java/io/Serializable" (some 0) with
  accessFlags := 1537
  interfaces := #[]
  cf := some (fileOf pool5 2 #[] #[] 1537 4 #[] #[])
  fields := #[]
  methods := #[]
  instanceTypes := #[]
  staticTypes := #[]
  resolved := Array.replicate 8 none
  statics := none }

/-- the primitive byte -/
def k6 : Class := { plain "byte" none with kind := .primitive 'B', accessFlags := 0x411 }
/-- [B -/
def k7 : Class := { plain "[B" (some 0) with kind := .array 6 .byte, interfaces := #[4, 5], accessFlags := 1041 }

/-- the primitive int -/
def k8 : Class := { plain "int" none with kind := .primitive 'I', accessFlags := 0x411 }
/-- [I -/
def k9 : Class := { plain "[I" (some 0) with kind := .array 8 .int, interfaces := #[4, 5], accessFlags := 1041 }

def heap : Heap := #[{ cls := 3, slots := #[.ref 1, .null], vm := .statics 3 },
  { cls := 3, slots := #[.int 0], vm := .none }]
def classes : Array Class := #[k0, k1, k2, k3, k4, k5, k6, k7, k8, k9]
def interned : List (Array UInt16 × Addr) := []
def slotsUsed : Nat := 3
def theMethod : MethodId := ⟨1, 1⟩
def args0 : Array Value := #[.int 5, .int 6]
def aboutOver (below : List Frame) : State where
  vm := { classes := classes, interned := interned.toArray }
  heap := heap
  slotsUsed := slotsUsed
  threads := #[{ frames := .invoking theMethod args0 :: below }]
def below0 : List Frame := [.native { method := ⟨0, 0⟩, args := #[] }]
def about1 : State := aboutOver below0
def p0 : Program := .bare "" "" ""
def e0 : Env := launch0.env 0 0 0
theorem w_frames : about1.frames = Frame.invoking theMethod args0 :: below0 := rfl
set_option maxRecDepth 65536 in
theorem w_args : argsFit about1.vm theMethod args0 = true := by decide +kernel
set_option maxRecDepth 65536 in
theorem w_heap : heapFits about1 = true := by decide +kernel
set_option maxRecDepth 65536 in
theorem w_runnable : about1.curStatus? = some .runnable := by decide +kernel
set_option maxRecDepth 65536 in
theorem w_alone : about1.alone = true := by decide +kernel
set_option maxRecDepth 65536 in
theorem w_named : about1.methodNamed? x = some theMethod := by decide +kernel
set_option maxRecDepth 65536 in
theorem w_hears : about1.hears theMethod below0 = true := by decide +kernel
set_option maxRecDepth 65536 in
theorem w_ripe : about1.ripe theMethod args0 below0 = true := by decide +kernel
theorem w_running : about1.status = .running := rfl
set_option maxRecDepth 65536 in
theorem w_room : about1.hasRoom e0.platform room_1 = true :=
  launch0.hasRoom_least _ room_1 (by decide +kernel) (by decide +kernel) (by decide +kernel) (by decide +kernel) (by decide +kernel) (by decide +kernel)
theorem allAtoms_all (ts : List Jvm.Cond) (a : Array Jvm.Value) (st : Jvm.State) : (allAtoms ts).before a st = ts.all (fun c => c.before a st) := by
  induction ts with
  | nil => rfl
  | cons c t ih =>
    show (Jvm.Cond.and c (allAtoms t)).before a st = _
    rw [Jvm.Cond.before_and, ih, List.all_cons]
def words1 : List Jvm.Cond := Jvm.Cond.code x code maxLocals ret :: tables_1
/-- a 'code' word, met by the world's own term for the bytes: nothing is compared byte by byte -/
theorem code_word {y : MethodName} {bytes : ByteArray} {mx : Nat} {rt : Option FieldType} {a : Array Value} {s : State} {m : MethodId} {meth : Method} {c : Code} (h1 : s.methodNamed? y = some m) (h2 : s.vm.method? m = some meth) (h3 : meth.code = some c) (h4 : c.code = bytes)
    (h5 : (c.maxLocals == mx && c.exceptionTable.isEmpty && decide (c.maxStack ≤ mostOperands) && decide (meth.sig.returnType = rt) && !meth.locks && decide (parseMethodDescriptor y.desc = some meth.sig)) = true) : (Jvm.Cond.code y bytes mx rt).before a s = true := by
  simp only [Bool.and_eq_true, beq_iff_eq, Bool.not_eq_true', decide_eq_true_eq] at h5
  obtain ⟨⟨⟨⟨⟨g1, g2⟩, g3⟩, g4⟩, g5⟩, g6⟩ := h5
  simp [Cond.before, Cond.holds, Cond.value, h1, h2, h3, h4, g1, g2, g3, g4, g5, g6]
def isCode : Jvm.Cond → Bool
  | .code _ _ _ _ => true
  | _ => false
theorem all_split {L : List Jvm.Cond} {P : Jvm.Cond → Bool} (h1 : L.all (fun c => isCode c || P c) = true) (h2 : ∀ c ∈ L.filter isCode, P c = true) : L.all P = true := by
  refine List.all_eq_true.mpr fun c hc => ?_
  have h := List.all_eq_true.mp h1 c hc
  rcases Bool.eq_false_or_eq_true (isCode c) with hi | hi
  · exact h2 c (List.mem_filter.mpr ⟨hc, hi⟩)
  · simpa [hi] using h
set_option maxRecDepth 65536 in
theorem w_c0 : (Jvm.Cond.code x code maxLocals ret).before args0 about1 = true := code_word (m := ⟨1, 1⟩) (meth := k1m1) (c := k1c1) (by decide +kernel) rfl rfl rfl (by decide +kernel)
set_option maxRecDepth 65536 in
theorem w_c1 : (Jvm.Cond.code ({ cls := "com/example/chapiteau/chapiteau/goldentrain/Wagon", name := "<init>", desc := "(I)V" } : Jvm.MethodName) prog_34_method_1_code (2 : Nat) (Option.none : Option Jvm.ClassFile.FieldType)).before args0 about1 = true := code_word (m := ⟨3, 0⟩) (meth := k3m0) (c := k3c0) (by decide +kernel) rfl rfl rfl (by decide +kernel)
set_option maxRecDepth 65536 in
theorem w_c2 : (Jvm.Cond.code ({ cls := "java/lang/Record", name := "<init>", desc := "()V" } : Jvm.MethodName) jdk_30_method_1_code (1 : Nat) (Option.none : Option Jvm.ClassFile.FieldType)).before args0 about1 = true := code_word (m := ⟨2, 0⟩) (meth := k2m0) (c := k2c0) (by decide +kernel) rfl rfl rfl (by decide +kernel)
set_option maxRecDepth 65536 in
theorem w_c3 : (Jvm.Cond.code ({ cls := "java/lang/Object", name := "<init>", desc := "()V" } : Jvm.MethodName) object_method_1_code (1 : Nat) (Option.none : Option Jvm.ClassFile.FieldType)).before args0 about1 = true := code_word (m := ⟨0, 0⟩) (meth := k0m0) (c := k0c0) (by decide +kernel) rfl rfl rfl (by decide +kernel)
set_option maxRecDepth 65536 in
theorem w_c4 : (Jvm.Cond.code ({ cls := "com/example/chapiteau/chapiteau/goldentrain/Wagon", name := "isSheriff", desc := "()Z" } : Jvm.MethodName) prog_34_method_3_code (1 : Nat) (Option.some Jvm.ClassFile.FieldType.boolean)).before args0 about1 = true := code_word (m := ⟨3, 1⟩) (meth := k3m1) (c := k3c1) (by decide +kernel) rfl rfl rfl (by decide +kernel)
def codes1 : List Jvm.Cond := [Jvm.Cond.code x code maxLocals ret, Jvm.Cond.code ({ cls := "com/example/chapiteau/chapiteau/goldentrain/Wagon", name := "<init>", desc := "(I)V" } : Jvm.MethodName) prog_34_method_1_code (2 : Nat) (Option.none : Option Jvm.ClassFile.FieldType), Jvm.Cond.code ({ cls := "java/lang/Record", name := "<init>", desc := "()V" } : Jvm.MethodName) jdk_30_method_1_code (1 : Nat) (Option.none : Option Jvm.ClassFile.FieldType), Jvm.Cond.code ({ cls := "java/lang/Object", name := "<init>", desc := "()V" } : Jvm.MethodName) object_method_1_code (1 : Nat) (Option.none : Option Jvm.ClassFile.FieldType), Jvm.Cond.code ({ cls := "com/example/chapiteau/chapiteau/goldentrain/Wagon", name := "isSheriff", desc := "()Z" } : Jvm.MethodName) prog_34_method_3_code (1 : Nat) (Option.some Jvm.ClassFile.FieldType.boolean)]
set_option maxRecDepth 65536 in
theorem codes_eq : words1.filter isCode = codes1 := rfl
theorem w_codes : ∀ c ∈ words1.filter isCode, c.before args0 about1 = true := by
  rw [codes_eq]
  intro c hc
  simp only [codes1, List.mem_cons, List.not_mem_nil, or_false] at hc
  rcases hc with rfl | rfl | rfl | rfl | rfl
  · exact w_c0
  · exact w_c1
  · exact w_c2
  · exact w_c3
  · exact w_c4
set_option maxRecDepth 65536 in
theorem w_t1 : (words1.take 24).all (fun c => isCode c || c.before args0 about1) = true := by decide +kernel
set_option maxRecDepth 65536 in
theorem w_t2 : (words1.drop 24).all (fun c => isCode c || c.before args0 about1) = true := by decide +kernel
theorem w_tables : (allAtoms (Jvm.Cond.code x code maxLocals ret :: tables_1)).before args0 about1 = true := by
  rw [allAtoms_all]
  show words1.all (fun c => c.before args0 about1) = true
  refine all_split ?_ w_codes
  rw [← List.take_append_drop 24 words1, List.all_append, w_t1, w_t2]
  rfl
set_option maxRecDepth 65536 in
theorem w_case : (Jvm.Cond.and given_1 narrow_1).before args0 about1 = true := by decide +kernel
theorem w_applies : (headSpec (Jvm.Cond.code x code maxLocals ret :: tables_1) room_1).applies x e0.platform about1 = true :=
  (Spec.applies_iff w_frames).mpr ⟨w_running, w_runnable, w_alone, w_named, w_hears, w_ripe, w_room, w_tables⟩
theorem atStart : AtStart classFile x code maxLocals ret World_1 tables_1 room_1 Calls_1 rest_1 Pre_1 launch0 p0 e0 about1 theMethod args0 below0 :=
  ⟨lists_1, trivial, launch0.admits_env _ _ _, launch0.least_env, fairChoices_fair.cas, fairChoices_fair.clock, w_frames, w_args, w_heap, w_applies, trivial, trivial, w_case⟩
end start1
theorem witness_1 : WitnessClaimed_1 := ⟨start1.p0, start1.e0, start1.about1, start1.theMethod, start1.args0, start1.below0, start1.atStart⟩
end Jvm.Pilot.@@N@@
