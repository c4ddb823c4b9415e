import JvmDerived
import JvmDerived.Pilot.@@N@@Statement
import JvmDerived.Pilot.@@N@@Code
set_option linter.unusedVariables false
set_option linter.unusedSimpArgs false
namespace Jvm.Pilot.@@N@@
open Jvm Jvm.ClassFile Sem Op Lib Jvm.Free Jvm.Stand Jvm.LawKit Jvm.RoadKit Bundle Jvm.Pilot.@@N@@.Jvm.D
theorem own_eqi {s : State} {args : Array Value} {t : Term} {k : Int32} (h : (Jvm.Cond.eq t (Term.int k)).value args s none s [] = some true) : t.eval args s none [] s = some (.int k) := by
  obtain ⟨u, v, hu, hv, k1, k2⟩ := cmp_v (Or.inl h)
  obtain rfl : v = .int k := Option.some.inj (hv.symm.trans (Term.int_eval k))
  obtain ⟨z, rfl⟩ := k2
  rw [hu]
  simp [Cond.value, hu, hv] at h
  rw [h]
theorem own_fld {s : State} {args : Array Value} {t : Term} {C n d : String} {k : Int32} {x : Addr} (ev : t.eval args s none [] s = some (.ref x)) (h : (Jvm.Cond.eq (Term.field t C n d) (Term.int k)).value args s none s [] = some true) : Fld s s.heap x C n d (.int k) := by
  have hu := own_eqi h
  rw [fld_at ev] at hu
  exact Fld.start hu
theorem d1_0 : decode prog_48_method_5_code 0 = .ok (.aload_n 0, 1) := by decide +kernel
theorem d1_1 : decode prog_48_method_5_code 1 = .ok (.getstatic 16, 3) := by decide +kernel
theorem d1_4 : decode prog_48_method_5_code 4 = .ok (.if_acmp .eq 10, 3) := by decide +kernel
theorem d1_14 : decode prog_48_method_5_code 14 = .ok (.iconst 1, 1) := by decide +kernel
theorem d1_15 : decode prog_48_method_5_code 15 = .ok (.goto 4, 3) := by decide +kernel
theorem d1_19 : decode prog_48_method_5_code 19 = .ok (.ireturn, 1) := by decide +kernel
theorem pn_6 : plainName "com/example/orders_into_outcomes/ordersintooutcomes/model/TaskStatus" = true := by first | (simp [plainName, overriddenIn]; done) | decide +kernel
theorem ef_1_7 (m : MethodId) (x0 : Addr) : entryFrame m #[(.ref x0)] 1 = mkF m 0 #[.val (.ref x0)] [] := by first | (simp [entryFrame, mkF, argsToLocals, Value.category]; done) | rfl
def QrmC (Z : State) (aCOMPLETED : Addr) (aCANCELLED : Addr) (h0 : Heap) (n0 : Nat) (v : Option Value) (h : Heap) (L : List Loc) : Prop := v = some (.int (1 : Int32)) ∧ Fr n0 L ∧ h = h0
set_option maxRecDepth 65536 in
set_option maxHeartbeats 40000000 in
theorem rmC (l : Launch) (Z : State) (a0 : Array Value) (hw : ∀ d ∈ tables_1, d.before a0 Z = true) (ws : List Jvm.Cond) (aCOMPLETED : Addr) (aCANCELLED : Addr) (h0 : Heap) (n0 : Nat) (O0 : Old Z n0 h0) (S_COMPLETED : Sta Z Z.heap "com/example/orders_into_outcomes/ordersintooutcomes/model/TaskStatus" "COMPLETED" "Lcom/example/orders_into_outcomes/ordersintooutcomes/model/TaskStatus;" (.ref aCOMPLETED)) (S_CANCELLED : Sta Z Z.heap "com/example/orders_into_outcomes/ordersintooutcomes/model/TaskStatus" "CANCELLED" "Lcom/example/orders_into_outcomes/ordersintooutcomes/model/TaskStatus;" (.ref aCANCELLED)) :
    MetFree l (⟨"com/example/orders_into_outcomes/ordersintooutcomes/model/TaskStatus", "releasesDependents", "()Z"⟩ : MethodName) (head1 (Jvm.Cond.code (⟨"com/example/orders_into_outcomes/ordersintooutcomes/model/TaskStatus", "releasesDependents", "()Z"⟩ : MethodName) prog_48_method_5_code 1 (some .boolean) :: ws) ({ frames := 0, cells := 0, slots := 0, locals := 0 } : Room)) (fun a_ U_ => a_ = #[(.ref aCOMPLETED)] ∧ Z.Warmed39 U_.vm ∧ U_.heap = h0) (fun _ _ _ _ _ => True) (fun _ U_ o_ U'_ => ∃ v_ L_, o_ = .returned v_ ∧ QrmC Z aCOMPLETED aCANCELLED h0 n0 v_ U'_.heap L_ ∧ FrameEnd U_ o_ U'_ L_ ({ frames := 0, cells := 0, slots := 0, locals := 0 } : Room).cells ({ frames := 0, cells := 0, slots := 0, locals := 0 } : Room).slots) := by
  refine MetFree.of_bodySF (plainFor_of_name pn_6) hisR ?_
  intro pg ee s mm args below meth cc s₁ Bd hml0 hP hK
  obtain ⟨rfl, hZ, hh⟩ := hP
  have hx := Bd.exec
  have hby := Bd.bytes
  have hml : cc.maxLocals = 1 := hml0
  have hown : s.vm.findClass "com/example/orders_into_outcomes/ordersintooutcomes/model/TaskStatus" = some mm.cls := findClass_of_methodNamed Bd.named
  have hnm := (name_of_methodNamed Bd.named Bd.method).1
  have X0 : Stand pg l ee ({ frames := 0, cells := 0, slots := 0, locals := 0 } : Room) s mm #[(.ref aCOMPLETED)] below meth cc s₁ [] 0 0 := Stand.of_body Bd
  have e0 : s₁.heap = h0 := by rw [← hh, Bd.state]; rfl
  have N0 := Fr.nil n0
  have K0 : Keep h0 h0 ([] : List Addr) := Keep.refl _ _
  have pre0 : ∀ t, Steps pg.tables ee below (s₁.setTop (mkF mm 0 #[.val (.ref aCOMPLETED)] [])) t → Steps pg.tables ee below (s₁.setTop (entryFrame mm #[(.ref aCOMPLETED)] 1)) t := fun t k => castTop (ef_1_7 mm aCOMPLETED) k
  obtain ⟨T1, X1, e1, st1⟩ := getS2 X0 hx hZ hown (host := "") (Or.inl (hw _ (List.mem_of_getElem? (i := 9) rfl))) Via.refl e0 (S_COMPLETED.ext O0.2) (g := (mkF mm 1 #[.val (.ref aCOMPLETED)] [(.ref aCOMPLETED)])) rfl (hb hby d1_1)
  obtain ⟨fs, hr, hrun, hended, hW, hsame⟩ := X1.leave (v := some (.int (1 : Int32))) (fun h => by rw [Bd.returns] at h; cases h)
  refine ⟨_, _, pre0 _ ?_, hrun, hended, _, _, rfl, ?_, ⟨_, rfl⟩, hW, hsame.mono (by decide) (by decide)⟩
  · show Steps pg.tables ee below (s₁.setTop (mkF mm 0 #[.val (.ref aCOMPLETED)] [])) _
    refine XS.aloadN X0.here hx rfl (hb hby d1_0) rfl rfl ?_
    show Steps pg.tables ee below (s₁.setTop (mkF mm 1 #[.val (.ref aCOMPLETED)] [(.ref aCOMPLETED)])) _
    refine st1 _ ?_
    show Steps pg.tables ee below (T1.setTop (mkF mm 4 #[.val (.ref aCOMPLETED)] [(.ref aCOMPLETED), (.ref aCOMPLETED)])) _
    refine Jvm.RoadKit.acmp (g := (mkF mm 4 #[.val (.ref aCOMPLETED)] [(.ref aCOMPLETED), (.ref aCOMPLETED)])) X1 hx rfl rfl rfl (pc0 := 4) (pc' := 14) (same := true) rfl (hb hby d1_4) rfl (decide_eq_true rfl) (by decide) (by decide) ?_
    show Steps pg.tables ee below (T1.setTop (mkF mm 14 #[.val (.ref aCOMPLETED)] [])) _
    refine XS.iconst X1.here hx rfl (hb hby d1_14) ?_
    show Steps pg.tables ee below (T1.setTop (mkF mm 15 #[.val (.ref aCOMPLETED)] [(.int (1 : Int32))])) _
    refine XS.goto X1.here hx rfl (pc0 := 15) (pc' := 19) rfl (hb hby d1_15) (by decide) (by decide) ?_
    show Steps pg.tables ee below (T1.setTop (mkF mm 19 #[.val (.ref aCOMPLETED)] [(.int (1 : Int32))])) _
    exact retN X1 hx (t := .boolean) Bd.returns (by simp) (hb hby d1_19) hr
  · show QrmC Z aCOMPLETED aCANCELLED h0 n0 _ T1.heap _
    rw [e1]
    exact ⟨rfl, N0, rfl⟩
theorem d1_7 : decode prog_48_method_5_code 7 = .ok (.aload_n 0, 1) := by decide +kernel
theorem d1_8 : decode prog_48_method_5_code 8 = .ok (.getstatic 22, 3) := by decide +kernel
theorem d1_11 : decode prog_48_method_5_code 11 = .ok (.if_acmp .ne 7, 3) := by decide +kernel
def QrmX (Z : State) (aCOMPLETED : Addr) (aCANCELLED : Addr) (h0 : Heap) (n0 : Nat) (v : Option Value) (h : Heap) (L : List Loc) : Prop := v = some (.int (1 : Int32)) ∧ Fr n0 L ∧ h = h0
set_option maxRecDepth 65536 in
set_option maxHeartbeats 40000000 in
theorem rmX (l : Launch) (Z : State) (a0 : Array Value) (hw : ∀ d ∈ tables_1, d.before a0 Z = true) (ws : List Jvm.Cond) (aCOMPLETED : Addr) (aCANCELLED : Addr) (h0 : Heap) (n0 : Nat) (O0 : Old Z n0 h0) (S_COMPLETED : Sta Z Z.heap "com/example/orders_into_outcomes/ordersintooutcomes/model/TaskStatus" "COMPLETED" "Lcom/example/orders_into_outcomes/ordersintooutcomes/model/TaskStatus;" (.ref aCOMPLETED)) (S_CANCELLED : Sta Z Z.heap "com/example/orders_into_outcomes/ordersintooutcomes/model/TaskStatus" "CANCELLED" "Lcom/example/orders_into_outcomes/ordersintooutcomes/model/TaskStatus;" (.ref aCANCELLED)) (h1 : ¬ (aCANCELLED = aCOMPLETED)) :
    MetFree l (⟨"com/example/orders_into_outcomes/ordersintooutcomes/model/TaskStatus", "releasesDependents", "()Z"⟩ : MethodName) (head1 (Jvm.Cond.code (⟨"com/example/orders_into_outcomes/ordersintooutcomes/model/TaskStatus", "releasesDependents", "()Z"⟩ : MethodName) prog_48_method_5_code 1 (some .boolean) :: ws) ({ frames := 0, cells := 0, slots := 0, locals := 0 } : Room)) (fun a_ U_ => a_ = #[(.ref aCANCELLED)] ∧ Z.Warmed39 U_.vm ∧ U_.heap = h0) (fun _ _ _ _ _ => True) (fun _ U_ o_ U'_ => ∃ v_ L_, o_ = .returned v_ ∧ QrmX Z aCOMPLETED aCANCELLED h0 n0 v_ U'_.heap L_ ∧ FrameEnd U_ o_ U'_ L_ ({ frames := 0, cells := 0, slots := 0, locals := 0 } : Room).cells ({ frames := 0, cells := 0, slots := 0, locals := 0 } : Room).slots) := by
  refine MetFree.of_bodySF (plainFor_of_name pn_6) hisR ?_
  intro pg ee s mm args below meth cc s₁ Bd hml0 hP hK
  obtain ⟨rfl, hZ, hh⟩ := hP
  have hx := Bd.exec
  have hby := Bd.bytes
  have hml : cc.maxLocals = 1 := hml0
  have hown : s.vm.findClass "com/example/orders_into_outcomes/ordersintooutcomes/model/TaskStatus" = some mm.cls := findClass_of_methodNamed Bd.named
  have hnm := (name_of_methodNamed Bd.named Bd.method).1
  have X0 : Stand pg l ee ({ frames := 0, cells := 0, slots := 0, locals := 0 } : Room) s mm #[(.ref aCANCELLED)] below meth cc s₁ [] 0 0 := Stand.of_body Bd
  have e0 : s₁.heap = h0 := by rw [← hh, Bd.state]; rfl
  have N0 := Fr.nil n0
  have K0 : Keep h0 h0 ([] : List Addr) := Keep.refl _ _
  have pre0 : ∀ t, Steps pg.tables ee below (s₁.setTop (mkF mm 0 #[.val (.ref aCANCELLED)] [])) t → Steps pg.tables ee below (s₁.setTop (entryFrame mm #[(.ref aCANCELLED)] 1)) t := fun t k => castTop (ef_1_7 mm aCANCELLED) k
  obtain ⟨T1, X1, e1, st1⟩ := getS2 X0 hx hZ hown (host := "") (Or.inl (hw _ (List.mem_of_getElem? (i := 9) rfl))) Via.refl e0 (S_COMPLETED.ext O0.2) (g := (mkF mm 1 #[.val (.ref aCANCELLED)] [(.ref aCANCELLED)])) rfl (hb hby d1_1)
  obtain ⟨T2, X2, e2, st2⟩ := getS2 X1 hx hZ hown (host := "") (Or.inl (hw _ (List.mem_of_getElem? (i := 11) rfl))) Via.refl e1 (S_CANCELLED.ext O0.2) (g := (mkF mm 8 #[.val (.ref aCANCELLED)] [(.ref aCANCELLED)])) rfl (hb hby d1_8)
  obtain ⟨fs, hr, hrun, hended, hW, hsame⟩ := X2.leave (v := some (.int (1 : Int32))) (fun h => by rw [Bd.returns] at h; cases h)
  refine ⟨_, _, pre0 _ ?_, hrun, hended, _, _, rfl, ?_, ⟨_, rfl⟩, hW, hsame.mono (by decide) (by decide)⟩
  · show Steps pg.tables ee below (s₁.setTop (mkF mm 0 #[.val (.ref aCANCELLED)] [])) _
    refine XS.aloadN X0.here hx rfl (hb hby d1_0) rfl rfl ?_
    show Steps pg.tables ee below (s₁.setTop (mkF mm 1 #[.val (.ref aCANCELLED)] [(.ref aCANCELLED)])) _
    refine st1 _ ?_
    show Steps pg.tables ee below (T1.setTop (mkF mm 4 #[.val (.ref aCANCELLED)] [(.ref aCOMPLETED), (.ref aCANCELLED)])) _
    refine Jvm.RoadKit.acmp (g := (mkF mm 4 #[.val (.ref aCANCELLED)] [(.ref aCOMPLETED), (.ref aCANCELLED)])) X1 hx rfl rfl rfl (pc0 := 4) (pc' := 7) (same := false) rfl (hb hby d1_4) rfl (decide_eq_false fun q => h1 (Value.ref.inj q)) (by decide) (by decide) ?_
    show Steps pg.tables ee below (T1.setTop (mkF mm 7 #[.val (.ref aCANCELLED)] [])) _
    refine XS.aloadN X1.here hx rfl (hb hby d1_7) rfl rfl ?_
    show Steps pg.tables ee below (T1.setTop (mkF mm 8 #[.val (.ref aCANCELLED)] [(.ref aCANCELLED)])) _
    refine st2 _ ?_
    show Steps pg.tables ee below (T2.setTop (mkF mm 11 #[.val (.ref aCANCELLED)] [(.ref aCANCELLED), (.ref aCANCELLED)])) _
    refine Jvm.RoadKit.acmp (g := (mkF mm 11 #[.val (.ref aCANCELLED)] [(.ref aCANCELLED), (.ref aCANCELLED)])) X2 hx rfl rfl rfl (pc0 := 11) (pc' := 14) (same := true) rfl (hb hby d1_11) rfl (decide_eq_true rfl) (by decide) (by decide) ?_
    show Steps pg.tables ee below (T2.setTop (mkF mm 14 #[.val (.ref aCANCELLED)] [])) _
    refine XS.iconst X2.here hx rfl (hb hby d1_14) ?_
    show Steps pg.tables ee below (T2.setTop (mkF mm 15 #[.val (.ref aCANCELLED)] [(.int (1 : Int32))])) _
    refine XS.goto X2.here hx rfl (pc0 := 15) (pc' := 19) rfl (hb hby d1_15) (by decide) (by decide) ?_
    show Steps pg.tables ee below (T2.setTop (mkF mm 19 #[.val (.ref aCANCELLED)] [(.int (1 : Int32))])) _
    exact retN X2 hx (t := .boolean) Bd.returns (by simp) (hb hby d1_19) hr
  · show QrmX Z aCOMPLETED aCANCELLED h0 n0 _ T2.heap _
    rw [e2]
    exact ⟨rfl, N0, rfl⟩
theorem d1_18 : decode prog_48_method_5_code 18 = .ok (.iconst 0, 1) := by decide +kernel
def QrmN (Z : State) (a : Addr) (aCOMPLETED : Addr) (aCANCELLED : Addr) (h0 : Heap) (n0 : Nat) (v : Option Value) (h : Heap) (L : List Loc) : Prop := v = some (.int (0 : Int32)) ∧ Fr n0 L ∧ h = h0
set_option maxRecDepth 65536 in
set_option maxHeartbeats 40000000 in
theorem rmN (l : Launch) (Z : State) (a0 : Array Value) (hw : ∀ d ∈ tables_1, d.before a0 Z = true) (ws : List Jvm.Cond) (a : Addr) (aCOMPLETED : Addr) (aCANCELLED : Addr) (h0 : Heap) (n0 : Nat) (O0 : Old Z n0 h0) (S_COMPLETED : Sta Z Z.heap "com/example/orders_into_outcomes/ordersintooutcomes/model/TaskStatus" "COMPLETED" "Lcom/example/orders_into_outcomes/ordersintooutcomes/model/TaskStatus;" (.ref aCOMPLETED)) (S_CANCELLED : Sta Z Z.heap "com/example/orders_into_outcomes/ordersintooutcomes/model/TaskStatus" "CANCELLED" "Lcom/example/orders_into_outcomes/ordersintooutcomes/model/TaskStatus;" (.ref aCANCELLED)) (h1 : ¬ (a = aCOMPLETED)) (h2 : ¬ (a = aCANCELLED)) :
    MetFree l (⟨"com/example/orders_into_outcomes/ordersintooutcomes/model/TaskStatus", "releasesDependents", "()Z"⟩ : MethodName) (head1 (Jvm.Cond.code (⟨"com/example/orders_into_outcomes/ordersintooutcomes/model/TaskStatus", "releasesDependents", "()Z"⟩ : MethodName) prog_48_method_5_code 1 (some .boolean) :: ws) ({ frames := 0, cells := 0, slots := 0, locals := 0 } : Room)) (fun a_ U_ => a_ = #[(.ref a)] ∧ Z.Warmed39 U_.vm ∧ U_.heap = h0) (fun _ _ _ _ _ => True) (fun _ U_ o_ U'_ => ∃ v_ L_, o_ = .returned v_ ∧ QrmN Z a aCOMPLETED aCANCELLED h0 n0 v_ U'_.heap L_ ∧ FrameEnd U_ o_ U'_ L_ ({ frames := 0, cells := 0, slots := 0, locals := 0 } : Room).cells ({ frames := 0, cells := 0, slots := 0, locals := 0 } : Room).slots) := by
  refine MetFree.of_bodySF (plainFor_of_name pn_6) hisR ?_
  intro pg ee s mm args below meth cc s₁ Bd hml0 hP hK
  obtain ⟨rfl, hZ, hh⟩ := hP
  have hx := Bd.exec
  have hby := Bd.bytes
  have hml : cc.maxLocals = 1 := hml0
  have hown : s.vm.findClass "com/example/orders_into_outcomes/ordersintooutcomes/model/TaskStatus" = some mm.cls := findClass_of_methodNamed Bd.named
  have hnm := (name_of_methodNamed Bd.named Bd.method).1
  have X0 : Stand pg l ee ({ frames := 0, cells := 0, slots := 0, locals := 0 } : Room) s mm #[(.ref a)] below meth cc s₁ [] 0 0 := Stand.of_body Bd
  have e0 : s₁.heap = h0 := by rw [← hh, Bd.state]; rfl
  have N0 := Fr.nil n0
  have K0 : Keep h0 h0 ([] : List Addr) := Keep.refl _ _
  have pre0 : ∀ t, Steps pg.tables ee below (s₁.setTop (mkF mm 0 #[.val (.ref a)] [])) t → Steps pg.tables ee below (s₁.setTop (entryFrame mm #[(.ref a)] 1)) t := fun t k => castTop (ef_1_7 mm a) k
  obtain ⟨T1, X1, e1, st1⟩ := getS2 X0 hx hZ hown (host := "") (Or.inl (hw _ (List.mem_of_getElem? (i := 9) rfl))) Via.refl e0 (S_COMPLETED.ext O0.2) (g := (mkF mm 1 #[.val (.ref a)] [(.ref a)])) rfl (hb hby d1_1)
  obtain ⟨T2, X2, e2, st2⟩ := getS2 X1 hx hZ hown (host := "") (Or.inl (hw _ (List.mem_of_getElem? (i := 11) rfl))) Via.refl e1 (S_CANCELLED.ext O0.2) (g := (mkF mm 8 #[.val (.ref a)] [(.ref a)])) rfl (hb hby d1_8)
  obtain ⟨fs, hr, hrun, hended, hW, hsame⟩ := X2.leave (v := some (.int (0 : Int32))) (fun h => by rw [Bd.returns] at h; cases h)
  refine ⟨_, _, pre0 _ ?_, hrun, hended, _, _, rfl, ?_, ⟨_, rfl⟩, hW, hsame.mono (by decide) (by decide)⟩
  · show Steps pg.tables ee below (s₁.setTop (mkF mm 0 #[.val (.ref a)] [])) _
    refine XS.aloadN X0.here hx rfl (hb hby d1_0) rfl rfl ?_
    show Steps pg.tables ee below (s₁.setTop (mkF mm 1 #[.val (.ref a)] [(.ref a)])) _
    refine st1 _ ?_
    show Steps pg.tables ee below (T1.setTop (mkF mm 4 #[.val (.ref a)] [(.ref aCOMPLETED), (.ref a)])) _
    refine Jvm.RoadKit.acmp (g := (mkF mm 4 #[.val (.ref a)] [(.ref aCOMPLETED), (.ref a)])) X1 hx rfl rfl rfl (pc0 := 4) (pc' := 7) (same := false) rfl (hb hby d1_4) rfl (decide_eq_false fun q => h1 (Value.ref.inj q)) (by decide) (by decide) ?_
    show Steps pg.tables ee below (T1.setTop (mkF mm 7 #[.val (.ref a)] [])) _
    refine XS.aloadN X1.here hx rfl (hb hby d1_7) rfl rfl ?_
    show Steps pg.tables ee below (T1.setTop (mkF mm 8 #[.val (.ref a)] [(.ref a)])) _
    refine st2 _ ?_
    show Steps pg.tables ee below (T2.setTop (mkF mm 11 #[.val (.ref a)] [(.ref aCANCELLED), (.ref a)])) _
    refine Jvm.RoadKit.acmp (g := (mkF mm 11 #[.val (.ref a)] [(.ref aCANCELLED), (.ref a)])) X2 hx rfl rfl rfl (pc0 := 11) (pc' := 18) (same := false) rfl (hb hby d1_11) rfl (decide_eq_false fun q => h2 (Value.ref.inj q)) (by decide) (by decide) ?_
    show Steps pg.tables ee below (T2.setTop (mkF mm 18 #[.val (.ref a)] [])) _
    refine XS.iconst X2.here hx rfl (hb hby d1_18) ?_
    show Steps pg.tables ee below (T2.setTop (mkF mm 19 #[.val (.ref a)] [(.int (0 : Int32))])) _
    exact retN X2 hx (t := .boolean) Bd.returns (by simp) (hb hby d1_19) hr
  · show QrmN Z a aCOMPLETED aCANCELLED h0 n0 _ T2.heap _
    rw [e2]
    exact ⟨rfl, N0, rfl⟩
theorem pd_12 : parseMethodDescriptor "()Z" = some ⟨[], some .boolean⟩ := by decide +kernel
theorem pn_13 : plainName "com/example/orders_into_outcomes/ordersintooutcomes/model/TaskStatusReleasesDependentsPinLaw" = true := by first | (simp [plainName, overriddenIn]; done) | decide +kernel
theorem ef_0_14 (m : MethodId) (x0 : Int32) : entryFrame m #[(.int x0)] maxLocals = mkF m 0 #[.val (.int x0), .unset, .unset, .unset] [] := by first | (simp [entryFrame, mkF, argsToLocals, Value.category, maxLocals]; done) | rfl
def Qrm0 (Z : State) (p0 : Int32) (aBLOCKED : Addr) (aQUEUED : Addr) (aLEASED : Addr) (aRUNNING : Addr) (aCOMPLETED : Addr) (aDEAD : Addr) (aCANCELLED : Addr) (h0 : Heap) (n0 : Nat) (v : Option Value) (h : Heap) (L : List Loc) : Prop := v = some (.int (1 : Int32)) ∧ Fr n0 L
set_option maxRecDepth 65536 in
set_option maxHeartbeats 40000000 in
theorem rm0 (l : Launch) (Z : State) (a0 : Array Value) (hw : ∀ d ∈ tables_1, d.before a0 Z = true) (ws : List Jvm.Cond) (p0 : Int32) (aBLOCKED : Addr) (aQUEUED : Addr) (aLEASED : Addr) (aRUNNING : Addr) (aCOMPLETED : Addr) (aDEAD : Addr) (aCANCELLED : Addr) (h0 : Heap) (n0 : Nat) (O0 : Old Z n0 h0) (S_BLOCKED : Sta Z Z.heap "com/example/orders_into_outcomes/ordersintooutcomes/model/TaskStatus" "BLOCKED" "Lcom/example/orders_into_outcomes/ordersintooutcomes/model/TaskStatus;" (.ref aBLOCKED)) (S_QUEUED : Sta Z Z.heap "com/example/orders_into_outcomes/ordersintooutcomes/model/TaskStatus" "QUEUED" "Lcom/example/orders_into_outcomes/ordersintooutcomes/model/TaskStatus;" (.ref aQUEUED)) (S_LEASED : Sta Z Z.heap "com/example/orders_into_outcomes/ordersintooutcomes/model/TaskStatus" "LEASED" "Lcom/example/orders_into_outcomes/ordersintooutcomes/model/TaskStatus;" (.ref aLEASED)) (S_RUNNING : Sta Z Z.heap "com/example/orders_into_outcomes/ordersintooutcomes/model/TaskStatus" "RUNNING" "Lcom/example/orders_into_outcomes/ordersintooutcomes/model/TaskStatus;" (.ref aRUNNING)) (S_COMPLETED : Sta Z Z.heap "com/example/orders_into_outcomes/ordersintooutcomes/model/TaskStatus" "COMPLETED" "Lcom/example/orders_into_outcomes/ordersintooutcomes/model/TaskStatus;" (.ref aCOMPLETED)) (S_DEAD : Sta Z Z.heap "com/example/orders_into_outcomes/ordersintooutcomes/model/TaskStatus" "DEAD" "Lcom/example/orders_into_outcomes/ordersintooutcomes/model/TaskStatus;" (.ref aDEAD)) (S_CANCELLED : Sta Z Z.heap "com/example/orders_into_outcomes/ordersintooutcomes/model/TaskStatus" "CANCELLED" "Lcom/example/orders_into_outcomes/ordersintooutcomes/model/TaskStatus;" (.ref aCANCELLED)) (E_BLOCKED : Exa Z Z.heap aBLOCKED "com/example/orders_into_outcomes/ordersintooutcomes/model/TaskStatus") (E_QUEUED : Exa Z Z.heap aQUEUED "com/example/orders_into_outcomes/ordersintooutcomes/model/TaskStatus") (E_LEASED : Exa Z Z.heap aLEASED "com/example/orders_into_outcomes/ordersintooutcomes/model/TaskStatus") (E_RUNNING : Exa Z Z.heap aRUNNING "com/example/orders_into_outcomes/ordersintooutcomes/model/TaskStatus") (E_COMPLETED : Exa Z Z.heap aCOMPLETED "com/example/orders_into_outcomes/ordersintooutcomes/model/TaskStatus") (E_DEAD : Exa Z Z.heap aDEAD "com/example/orders_into_outcomes/ordersintooutcomes/model/TaskStatus") (E_CANCELLED : Exa Z Z.heap aCANCELLED "com/example/orders_into_outcomes/ordersintooutcomes/model/TaskStatus") (hXC : ¬ (aCANCELLED = aCOMPLETED)) (h1_BLOCKED : ¬ (aBLOCKED = aCOMPLETED)) (h2_BLOCKED : ¬ (aBLOCKED = aCANCELLED)) (h1_QUEUED : ¬ (aQUEUED = aCOMPLETED)) (h2_QUEUED : ¬ (aQUEUED = aCANCELLED)) (h1_LEASED : ¬ (aLEASED = aCOMPLETED)) (h2_LEASED : ¬ (aLEASED = aCANCELLED)) (h1_RUNNING : ¬ (aRUNNING = aCOMPLETED)) (h2_RUNNING : ¬ (aRUNNING = aCANCELLED)) (h1_DEAD : ¬ (aDEAD = aCOMPLETED)) (h2_DEAD : ¬ (aDEAD = aCANCELLED)) :
    MetFree l x (head1 (Jvm.Cond.code x code maxLocals ret :: ws) room_1) (fun a_ U_ => a_ = #[(.int p0)] ∧ Z.Warmed39 U_.vm ∧ U_.heap = h0) (fun _ _ _ _ _ => True) (fun _ U_ o_ U'_ => ∃ v_ L_, o_ = .returned v_ ∧ Qrm0 Z p0 aBLOCKED aQUEUED aLEASED aRUNNING aCOMPLETED aDEAD aCANCELLED h0 n0 v_ U'_.heap L_ ∧ FrameEnd U_ o_ U'_ L_ 0 0) := by
  refine MetFree.of_bodySF (plainFor_of_name pn_13) hisR ?_
  intro pg ee s mm args below meth cc s₁ Bd hml0 hP hK
  obtain ⟨rfl, hZ, hh⟩ := hP
  have hx := Bd.exec
  have hby := Bd.bytes
  have hml : cc.maxLocals = 4 := hml0
  have hown : s.vm.findClass "com/example/orders_into_outcomes/ordersintooutcomes/model/TaskStatusReleasesDependentsPinLaw" = some mm.cls := findClass_of_methodNamed Bd.named
  have hnm := (name_of_methodNamed Bd.named Bd.method).1
  have X0 : Stand pg l ee room_1 s mm #[(.int p0)] below meth cc s₁ [] 0 0 := Stand.of_body Bd
  have e0 : s₁.heap = h0 := by rw [← hh, Bd.state]; rfl
  have N0 := Fr.nil n0
  have K0 : Keep h0 h0 ([] : List Addr) := Keep.refl _ _
  have pre0 : ∀ t, Steps pg.tables ee below (s₁.setTop (mkF mm 0 #[.val (.int p0), .unset, .unset, .unset] [])) t → Steps pg.tables ee below (s₁.setTop (entryFrame mm #[(.int p0)] maxLocals)) t := fun t k => castTop (ef_0_14 mm p0) k
  have pre1 : ∀ t, Steps pg.tables ee below (s₁.setTop (mkF mm 9 #[.val (.int p0), .val (.int ((p0 &&& (2147483647 : Int32)) % (7 : Int32))), .unset, .unset] [(.int ((p0 &&& (2147483647 : Int32)) % (7 : Int32)))])) t → Steps pg.tables ee below (s₁.setTop (entryFrame mm #[(.int p0)] maxLocals)) t := fun t k => pre0 t (by
      show Steps pg.tables ee below (s₁.setTop (mkF mm 0 #[.val (.int p0), .unset, .unset, .unset] [])) _
      refine XS.iloadN X0.here hx rfl (hb hby at_0) rfl ?_
      show Steps pg.tables ee below (s₁.setTop (mkF mm 1 #[.val (.int p0), .unset, .unset, .unset] [(.int p0)])) _
      refine X0.ldcInt hx hown (mvT hZ (hw _ (List.mem_of_getElem? (i := 0) rfl))) (g := (mkF mm 1 #[.val (.int p0), .unset, .unset, .unset] [(.int p0)])) rfl (hb hby at_1) _ ?_
      show Steps pg.tables ee below (s₁.setTop (mkF mm 3 #[.val (.int p0), .unset, .unset, .unset] [(.int (2147483647 : Int32)), (.int p0)])) _
      refine XS.iand X0.here hx rfl (hb hby at_3) rfl ?_
      show Steps pg.tables ee below (s₁.setTop (mkF mm 4 #[.val (.int p0), .unset, .unset, .unset] [(.int (p0 &&& (2147483647 : Int32)))])) _
      refine XS.bipush X0.here hx rfl (hb hby at_4) ?_
      show Steps pg.tables ee below (s₁.setTop (mkF mm 6 #[.val (.int p0), .unset, .unset, .unset] [(.int (7 : Int32)), (.int (p0 &&& (2147483647 : Int32)))])) _
      refine iremM X0 hx rfl (hb hby at_6) rfl (by decide) ?_
      show Steps pg.tables ee below (s₁.setTop (mkF mm 7 #[.val (.int p0), .unset, .unset, .unset] [(.int ((p0 &&& (2147483647 : Int32)) % (7 : Int32)))])) _
      refine XS.istoreN X0.here hx rfl (hb hby at_7) rfl (l' := #[.val (.int p0), .val (.int ((p0 &&& (2147483647 : Int32)) % (7 : Int32))), .unset, .unset]) rfl ?_
      show Steps pg.tables ee below (s₁.setTop (mkF mm 8 #[.val (.int p0), .val (.int ((p0 &&& (2147483647 : Int32)) % (7 : Int32))), .unset, .unset] [])) _
      refine XS.iloadN X0.here hx rfl (hb hby at_8) rfl ?_
      exact k)
  by_cases hc2 : ((p0 &&& (2147483647 : Int32)) % (7 : Int32)) = (0 : Int32)
  · obtain ⟨T3, X3, e3, st3⟩ := getS2 X0 hx hZ hown (host := "") (Or.inl (hw _ (List.mem_of_getElem? (i := 1) rfl))) Via.refl e0 (S_BLOCKED.ext O0.2) (g := (mkF mm 12 #[.val (.int p0), .val (.int ((p0 &&& (2147483647 : Int32)) % (7 : Int32))), .unset, .unset] [])) rfl (hb hby at_12)
    obtain ⟨cq4, kq4, q4a, q4b, q4c⟩ := isOf hZ e3 (E_BLOCKED.ext O0.2)
    obtain ⟨_, _, ⟨T4, L4, k4, n4⟩, -, X4, ⟨Lc4, hQ4, l4, y4, z4⟩, st4⟩ := X3.virtualBack hx (y := (⟨"com/example/orders_into_outcomes/ordersintooutcomes/model/TaskStatus", "releasesDependents", "()Z"⟩ : MethodName)) (z := (⟨"com/example/orders_into_outcomes/ordersintooutcomes/model/TaskStatus", "releasesDependents", "()Z"⟩ : MethodName)) hown (mvT hZ (hw _ (List.mem_of_getElem? (i := 4) rfl))) (mvT hZ (hw _ (List.mem_of_getElem? (i := 5) rfl))) (notFace_of_selects (args := #[]) (mvT hZ (hw _ (List.mem_of_getElem? (i := 7) rfl)))) (mvT hZ (hw _ (List.mem_of_getElem? (i := 7) rfl))) (mvT hZ (hw _ (List.mem_of_getElem? (i := 6) rfl))) (by decide) (backOf (W := 0) (rmN l Z a0 hw [] aBLOCKED aCOMPLETED aCANCELLED h0 n0 O0 S_COMPLETED S_CANCELLED h1_BLOCKED h2_BLOCKED) hZ (hw _ (List.mem_of_getElem? (i := 8) rfl)) (hw _ (List.mem_of_getElem? (i := 2) rfl)) (by decide) (by decide)) q4a q4c (g := (mkF mm 98 #[.val (.int p0), .val (.int ((p0 &&& (2147483647 : Int32)) % (7 : Int32))), .val (.ref aBLOCKED), .val (.int (0 : Int32))] [(.ref aBLOCKED)])) rfl (by rw [hml]; rfl) (Steps.refl _) (argsL := []) (rest := []) (lenOf pd_12 rfl) rfl (by show 2 * 0 + _ ≤ _; exact Nat.le_of_eq rfl) (hb hby at_98) (fun _ _ => ⟨rfl, e3, (by decide : 0 + 0 ≤ _), (by decide : 0 + 0 ≤ _)⟩)
    dsimp only [Pt.U, Pt.locs, Pt.cells, Pt.slots] at X4 l4 y4 z4 st4 hQ4
    subst l4 y4 z4
    obtain ⟨rfl, N4q, e4⟩ := hQ4
    have N4 := Fr.app N0 N4q
    obtain ⟨fs, hr, hrun, hended, hW, hsame⟩ := X4.leave (v := some (.int (1 : Int32))) (fun h => by rw [Bd.returns] at h; cases h)
    refine ⟨_, _, pre1 _ ?_, hrun, hended, _, _, rfl, ?_, ⟨_, rfl⟩, hW, hsame.mono (by decide) (by decide)⟩
    · show Steps pg.tables ee below (s₁.setTop (mkF mm 9 #[.val (.int p0), .val (.int ((p0 &&& (2147483647 : Int32)) % (7 : Int32))), .unset, .unset] [(.int ((p0 &&& (2147483647 : Int32)) % (7 : Int32)))])) _
      refine XS.ifNo X0.here hx rfl (hb hby at_9) rfl ((if0 _ _).trans (teq hc2).2) ?_
      show Steps pg.tables ee below (s₁.setTop (mkF mm 12 #[.val (.int p0), .val (.int ((p0 &&& (2147483647 : Int32)) % (7 : Int32))), .unset, .unset] [])) _
      refine st3 _ ?_
      show Steps pg.tables ee below (T3.setTop (mkF mm 15 #[.val (.int p0), .val (.int ((p0 &&& (2147483647 : Int32)) % (7 : Int32))), .unset, .unset] [(.ref aBLOCKED)])) _
      refine XS.astoreN X3.here hx rfl (hb hby at_15) rfl rfl (l' := #[.val (.int p0), .val (.int ((p0 &&& (2147483647 : Int32)) % (7 : Int32))), .val (.ref aBLOCKED), .unset]) rfl ?_
      show Steps pg.tables ee below (T3.setTop (mkF mm 16 #[.val (.int p0), .val (.int ((p0 &&& (2147483647 : Int32)) % (7 : Int32))), .val (.ref aBLOCKED), .unset] [])) _
      refine XS.iconst X3.here hx rfl (hb hby at_16) ?_
      show Steps pg.tables ee below (T3.setTop (mkF mm 17 #[.val (.int p0), .val (.int ((p0 &&& (2147483647 : Int32)) % (7 : Int32))), .val (.ref aBLOCKED), .unset] [(.int (0 : Int32))])) _
      refine XS.istoreN X3.here hx rfl (hb hby at_17) rfl (l' := #[.val (.int p0), .val (.int ((p0 &&& (2147483647 : Int32)) % (7 : Int32))), .val (.ref aBLOCKED), .val (.int (0 : Int32))]) rfl ?_
      show Steps pg.tables ee below (T3.setTop (mkF mm 18 #[.val (.int p0), .val (.int ((p0 &&& (2147483647 : Int32)) % (7 : Int32))), .val (.ref aBLOCKED), .val (.int (0 : Int32))] [])) _
      refine XS.goto X3.here hx rfl (pc0 := 18) (pc' := 97) rfl (hb hby at_18) (by decide) (by decide) ?_
      show Steps pg.tables ee below (T3.setTop (mkF mm 97 #[.val (.int p0), .val (.int ((p0 &&& (2147483647 : Int32)) % (7 : Int32))), .val (.ref aBLOCKED), .val (.int (0 : Int32))] [])) _
      refine XS.aloadN X3.here hx rfl (hb hby at_97) rfl rfl ?_
      show Steps pg.tables ee below (T3.setTop (mkF mm 98 #[.val (.int p0), .val (.int ((p0 &&& (2147483647 : Int32)) % (7 : Int32))), .val (.ref aBLOCKED), .val (.int (0 : Int32))] [(.ref aBLOCKED)])) _
      refine st4.trans ?_
      show Steps pg.tables ee below (T4.setTop (mkF mm 101 #[.val (.int p0), .val (.int ((p0 &&& (2147483647 : Int32)) % (7 : Int32))), .val (.ref aBLOCKED), .val (.int (0 : Int32))] [(.int (0 : Int32))])) _
      refine XS.iloadN X4.here hx rfl (hb hby at_101) rfl ?_
      show Steps pg.tables ee below (T4.setTop (mkF mm 102 #[.val (.int p0), .val (.int ((p0 &&& (2147483647 : Int32)) % (7 : Int32))), .val (.ref aBLOCKED), .val (.int (0 : Int32))] [(.int (0 : Int32)), (.int (0 : Int32))])) _
      refine XS.icmpNo X4.here hx rfl (hb hby at_102) rfl (teq (by decide : (0 : Int32) = (0 : Int32))).2 ?_
      show Steps pg.tables ee below (T4.setTop (mkF mm 105 #[.val (.int p0), .val (.int ((p0 &&& (2147483647 : Int32)) % (7 : Int32))), .val (.ref aBLOCKED), .val (.int (0 : Int32))] [])) _
      refine XS.iconst X4.here hx rfl (hb hby at_105) ?_
      show Steps pg.tables ee below (T4.setTop (mkF mm 106 #[.val (.int p0), .val (.int ((p0 &&& (2147483647 : Int32)) % (7 : Int32))), .val (.ref aBLOCKED), .val (.int (0 : Int32))] [(.int (1 : Int32))])) _
      refine XS.goto X4.here hx rfl (pc0 := 106) (pc' := 110) rfl (hb hby at_106) (by decide) (by decide) ?_
      show Steps pg.tables ee below (T4.setTop (mkF mm 110 #[.val (.int p0), .val (.int ((p0 &&& (2147483647 : Int32)) % (7 : Int32))), .val (.ref aBLOCKED), .val (.int (0 : Int32))] [(.int (1 : Int32))])) _
      exact retN X4 hx (t := .boolean) Bd.returns (by simp) (hb hby at_110) hr
    · show Qrm0 Z p0 aBLOCKED aQUEUED aLEASED aRUNNING aCOMPLETED aDEAD aCANCELLED h0 n0 _ T4.heap _
      rw [e4]
      exact ⟨rfl, N4⟩
  · have pre5 : ∀ t, Steps pg.tables ee below (s₁.setTop (mkF mm 23 #[.val (.int p0), .val (.int ((p0 &&& (2147483647 : Int32)) % (7 : Int32))), .unset, .unset] [(.int (1 : Int32)), (.int ((p0 &&& (2147483647 : Int32)) % (7 : Int32)))])) t → Steps pg.tables ee below (s₁.setTop (entryFrame mm #[(.int p0)] maxLocals)) t := fun t k => pre1 t (by
        show Steps pg.tables ee below (s₁.setTop (mkF mm 9 #[.val (.int p0), .val (.int ((p0 &&& (2147483647 : Int32)) % (7 : Int32))), .unset, .unset] [(.int ((p0 &&& (2147483647 : Int32)) % (7 : Int32)))])) _
        refine XS.ifYes X0.here hx rfl (pc0 := 9) (pc' := 21) rfl (hb hby at_9) rfl ((if0 _ _).trans (feq hc2).2) (by decide) (by decide) ?_
        show Steps pg.tables ee below (s₁.setTop (mkF mm 21 #[.val (.int p0), .val (.int ((p0 &&& (2147483647 : Int32)) % (7 : Int32))), .unset, .unset] [])) _
        refine XS.iloadN X0.here hx rfl (hb hby at_21) rfl ?_
        show Steps pg.tables ee below (s₁.setTop (mkF mm 22 #[.val (.int p0), .val (.int ((p0 &&& (2147483647 : Int32)) % (7 : Int32))), .unset, .unset] [(.int ((p0 &&& (2147483647 : Int32)) % (7 : Int32)))])) _
        refine XS.iconst X0.here hx rfl (hb hby at_22) ?_
        exact k)
    by_cases hc6 : ((p0 &&& (2147483647 : Int32)) % (7 : Int32)) = (1 : Int32)
    · obtain ⟨T7, X7, e7, st7⟩ := getS2 X0 hx hZ hown (host := "") (Or.inl (hw _ (List.mem_of_getElem? (i := 21) rfl))) Via.refl e0 (S_QUEUED.ext O0.2) (g := (mkF mm 26 #[.val (.int p0), .val (.int ((p0 &&& (2147483647 : Int32)) % (7 : Int32))), .unset, .unset] [])) rfl (hb hby at_26)
      obtain ⟨cq8, kq8, q8a, q8b, q8c⟩ := isOf hZ e7 (E_QUEUED.ext O0.2)
      obtain ⟨_, _, ⟨T8, L8, k8, n8⟩, -, X8, ⟨Lc8, hQ8, l8, y8, z8⟩, st8⟩ := X7.virtualBack hx (y := (⟨"com/example/orders_into_outcomes/ordersintooutcomes/model/TaskStatus", "releasesDependents", "()Z"⟩ : MethodName)) (z := (⟨"com/example/orders_into_outcomes/ordersintooutcomes/model/TaskStatus", "releasesDependents", "()Z"⟩ : MethodName)) hown (mvT hZ (hw _ (List.mem_of_getElem? (i := 4) rfl))) (mvT hZ (hw _ (List.mem_of_getElem? (i := 5) rfl))) (notFace_of_selects (args := #[]) (mvT hZ (hw _ (List.mem_of_getElem? (i := 7) rfl)))) (mvT hZ (hw _ (List.mem_of_getElem? (i := 7) rfl))) (mvT hZ (hw _ (List.mem_of_getElem? (i := 6) rfl))) (by decide) (backOf (W := 0) (rmN l Z a0 hw [] aQUEUED aCOMPLETED aCANCELLED h0 n0 O0 S_COMPLETED S_CANCELLED h1_QUEUED h2_QUEUED) hZ (hw _ (List.mem_of_getElem? (i := 8) rfl)) (hw _ (List.mem_of_getElem? (i := 2) rfl)) (by decide) (by decide)) q8a q8c (g := (mkF mm 98 #[.val (.int p0), .val (.int ((p0 &&& (2147483647 : Int32)) % (7 : Int32))), .val (.ref aQUEUED), .val (.int (0 : Int32))] [(.ref aQUEUED)])) rfl (by rw [hml]; rfl) (Steps.refl _) (argsL := []) (rest := []) (lenOf pd_12 rfl) rfl (by show 2 * 0 + _ ≤ _; exact Nat.le_of_eq rfl) (hb hby at_98) (fun _ _ => ⟨rfl, e7, (by decide : 0 + 0 ≤ _), (by decide : 0 + 0 ≤ _)⟩)
      dsimp only [Pt.U, Pt.locs, Pt.cells, Pt.slots] at X8 l8 y8 z8 st8 hQ8
      subst l8 y8 z8
      obtain ⟨rfl, N8q, e8⟩ := hQ8
      have N8 := Fr.app N0 N8q
      obtain ⟨fs, hr, hrun, hended, hW, hsame⟩ := X8.leave (v := some (.int (1 : Int32))) (fun h => by rw [Bd.returns] at h; cases h)
      refine ⟨_, _, pre5 _ ?_, hrun, hended, _, _, rfl, ?_, ⟨_, rfl⟩, hW, hsame.mono (by decide) (by decide)⟩
      · show Steps pg.tables ee below (s₁.setTop (mkF mm 23 #[.val (.int p0), .val (.int ((p0 &&& (2147483647 : Int32)) % (7 : Int32))), .unset, .unset] [(.int (1 : Int32)), (.int ((p0 &&& (2147483647 : Int32)) % (7 : Int32)))])) _
        refine XS.icmpNo X0.here hx rfl (hb hby at_23) rfl (teq hc6).2 ?_
        show Steps pg.tables ee below (s₁.setTop (mkF mm 26 #[.val (.int p0), .val (.int ((p0 &&& (2147483647 : Int32)) % (7 : Int32))), .unset, .unset] [])) _
        refine st7 _ ?_
        show Steps pg.tables ee below (T7.setTop (mkF mm 29 #[.val (.int p0), .val (.int ((p0 &&& (2147483647 : Int32)) % (7 : Int32))), .unset, .unset] [(.ref aQUEUED)])) _
        refine XS.astoreN X7.here hx rfl (hb hby at_29) rfl rfl (l' := #[.val (.int p0), .val (.int ((p0 &&& (2147483647 : Int32)) % (7 : Int32))), .val (.ref aQUEUED), .unset]) rfl ?_
        show Steps pg.tables ee below (T7.setTop (mkF mm 30 #[.val (.int p0), .val (.int ((p0 &&& (2147483647 : Int32)) % (7 : Int32))), .val (.ref aQUEUED), .unset] [])) _
        refine XS.iconst X7.here hx rfl (hb hby at_30) ?_
        show Steps pg.tables ee below (T7.setTop (mkF mm 31 #[.val (.int p0), .val (.int ((p0 &&& (2147483647 : Int32)) % (7 : Int32))), .val (.ref aQUEUED), .unset] [(.int (0 : Int32))])) _
        refine XS.istoreN X7.here hx rfl (hb hby at_31) rfl (l' := #[.val (.int p0), .val (.int ((p0 &&& (2147483647 : Int32)) % (7 : Int32))), .val (.ref aQUEUED), .val (.int (0 : Int32))]) rfl ?_
        show Steps pg.tables ee below (T7.setTop (mkF mm 32 #[.val (.int p0), .val (.int ((p0 &&& (2147483647 : Int32)) % (7 : Int32))), .val (.ref aQUEUED), .val (.int (0 : Int32))] [])) _
        refine XS.goto X7.here hx rfl (pc0 := 32) (pc' := 97) rfl (hb hby at_32) (by decide) (by decide) ?_
        show Steps pg.tables ee below (T7.setTop (mkF mm 97 #[.val (.int p0), .val (.int ((p0 &&& (2147483647 : Int32)) % (7 : Int32))), .val (.ref aQUEUED), .val (.int (0 : Int32))] [])) _
        refine XS.aloadN X7.here hx rfl (hb hby at_97) rfl rfl ?_
        show Steps pg.tables ee below (T7.setTop (mkF mm 98 #[.val (.int p0), .val (.int ((p0 &&& (2147483647 : Int32)) % (7 : Int32))), .val (.ref aQUEUED), .val (.int (0 : Int32))] [(.ref aQUEUED)])) _
        refine st8.trans ?_
        show Steps pg.tables ee below (T8.setTop (mkF mm 101 #[.val (.int p0), .val (.int ((p0 &&& (2147483647 : Int32)) % (7 : Int32))), .val (.ref aQUEUED), .val (.int (0 : Int32))] [(.int (0 : Int32))])) _
        refine XS.iloadN X8.here hx rfl (hb hby at_101) rfl ?_
        show Steps pg.tables ee below (T8.setTop (mkF mm 102 #[.val (.int p0), .val (.int ((p0 &&& (2147483647 : Int32)) % (7 : Int32))), .val (.ref aQUEUED), .val (.int (0 : Int32))] [(.int (0 : Int32)), (.int (0 : Int32))])) _
        refine XS.icmpNo X8.here hx rfl (hb hby at_102) rfl (teq (by decide : (0 : Int32) = (0 : Int32))).2 ?_
        show Steps pg.tables ee below (T8.setTop (mkF mm 105 #[.val (.int p0), .val (.int ((p0 &&& (2147483647 : Int32)) % (7 : Int32))), .val (.ref aQUEUED), .val (.int (0 : Int32))] [])) _
        refine XS.iconst X8.here hx rfl (hb hby at_105) ?_
        show Steps pg.tables ee below (T8.setTop (mkF mm 106 #[.val (.int p0), .val (.int ((p0 &&& (2147483647 : Int32)) % (7 : Int32))), .val (.ref aQUEUED), .val (.int (0 : Int32))] [(.int (1 : Int32))])) _
        refine XS.goto X8.here hx rfl (pc0 := 106) (pc' := 110) rfl (hb hby at_106) (by decide) (by decide) ?_
        show Steps pg.tables ee below (T8.setTop (mkF mm 110 #[.val (.int p0), .val (.int ((p0 &&& (2147483647 : Int32)) % (7 : Int32))), .val (.ref aQUEUED), .val (.int (0 : Int32))] [(.int (1 : Int32))])) _
        exact retN X8 hx (t := .boolean) Bd.returns (by simp) (hb hby at_110) hr
      · show Qrm0 Z p0 aBLOCKED aQUEUED aLEASED aRUNNING aCOMPLETED aDEAD aCANCELLED h0 n0 _ T8.heap _
        rw [e8]
        exact ⟨rfl, N8⟩
    · have pre9 : ∀ t, Steps pg.tables ee below (s₁.setTop (mkF mm 37 #[.val (.int p0), .val (.int ((p0 &&& (2147483647 : Int32)) % (7 : Int32))), .unset, .unset] [(.int (2 : Int32)), (.int ((p0 &&& (2147483647 : Int32)) % (7 : Int32)))])) t → Steps pg.tables ee below (s₁.setTop (entryFrame mm #[(.int p0)] maxLocals)) t := fun t k => pre5 t (by
          show Steps pg.tables ee below (s₁.setTop (mkF mm 23 #[.val (.int p0), .val (.int ((p0 &&& (2147483647 : Int32)) % (7 : Int32))), .unset, .unset] [(.int (1 : Int32)), (.int ((p0 &&& (2147483647 : Int32)) % (7 : Int32)))])) _
          refine XS.icmpYes X0.here hx rfl (pc0 := 23) (pc' := 35) rfl (hb hby at_23) rfl (feq hc6).2 (by decide) (by decide) ?_
          show Steps pg.tables ee below (s₁.setTop (mkF mm 35 #[.val (.int p0), .val (.int ((p0 &&& (2147483647 : Int32)) % (7 : Int32))), .unset, .unset] [])) _
          refine XS.iloadN X0.here hx rfl (hb hby at_35) rfl ?_
          show Steps pg.tables ee below (s₁.setTop (mkF mm 36 #[.val (.int p0), .val (.int ((p0 &&& (2147483647 : Int32)) % (7 : Int32))), .unset, .unset] [(.int ((p0 &&& (2147483647 : Int32)) % (7 : Int32)))])) _
          refine XS.iconst X0.here hx rfl (hb hby at_36) ?_
          exact k)
      by_cases hc10 : ((p0 &&& (2147483647 : Int32)) % (7 : Int32)) = (2 : Int32)
      · obtain ⟨T11, X11, e11, st11⟩ := getS2 X0 hx hZ hown (host := "") (Or.inl (hw _ (List.mem_of_getElem? (i := 19) rfl))) Via.refl e0 (S_LEASED.ext O0.2) (g := (mkF mm 40 #[.val (.int p0), .val (.int ((p0 &&& (2147483647 : Int32)) % (7 : Int32))), .unset, .unset] [])) rfl (hb hby at_40)
        obtain ⟨cq12, kq12, q12a, q12b, q12c⟩ := isOf hZ e11 (E_LEASED.ext O0.2)
        obtain ⟨_, _, ⟨T12, L12, k12, n12⟩, -, X12, ⟨Lc12, hQ12, l12, y12, z12⟩, st12⟩ := X11.virtualBack hx (y := (⟨"com/example/orders_into_outcomes/ordersintooutcomes/model/TaskStatus", "releasesDependents", "()Z"⟩ : MethodName)) (z := (⟨"com/example/orders_into_outcomes/ordersintooutcomes/model/TaskStatus", "releasesDependents", "()Z"⟩ : MethodName)) hown (mvT hZ (hw _ (List.mem_of_getElem? (i := 4) rfl))) (mvT hZ (hw _ (List.mem_of_getElem? (i := 5) rfl))) (notFace_of_selects (args := #[]) (mvT hZ (hw _ (List.mem_of_getElem? (i := 7) rfl)))) (mvT hZ (hw _ (List.mem_of_getElem? (i := 7) rfl))) (mvT hZ (hw _ (List.mem_of_getElem? (i := 6) rfl))) (by decide) (backOf (W := 0) (rmN l Z a0 hw [] aLEASED aCOMPLETED aCANCELLED h0 n0 O0 S_COMPLETED S_CANCELLED h1_LEASED h2_LEASED) hZ (hw _ (List.mem_of_getElem? (i := 8) rfl)) (hw _ (List.mem_of_getElem? (i := 2) rfl)) (by decide) (by decide)) q12a q12c (g := (mkF mm 98 #[.val (.int p0), .val (.int ((p0 &&& (2147483647 : Int32)) % (7 : Int32))), .val (.ref aLEASED), .val (.int (0 : Int32))] [(.ref aLEASED)])) rfl (by rw [hml]; rfl) (Steps.refl _) (argsL := []) (rest := []) (lenOf pd_12 rfl) rfl (by show 2 * 0 + _ ≤ _; exact Nat.le_of_eq rfl) (hb hby at_98) (fun _ _ => ⟨rfl, e11, (by decide : 0 + 0 ≤ _), (by decide : 0 + 0 ≤ _)⟩)
        dsimp only [Pt.U, Pt.locs, Pt.cells, Pt.slots] at X12 l12 y12 z12 st12 hQ12
        subst l12 y12 z12
        obtain ⟨rfl, N12q, e12⟩ := hQ12
        have N12 := Fr.app N0 N12q
        obtain ⟨fs, hr, hrun, hended, hW, hsame⟩ := X12.leave (v := some (.int (1 : Int32))) (fun h => by rw [Bd.returns] at h; cases h)
        refine ⟨_, _, pre9 _ ?_, hrun, hended, _, _, rfl, ?_, ⟨_, rfl⟩, hW, hsame.mono (by decide) (by decide)⟩
        · show Steps pg.tables ee below (s₁.setTop (mkF mm 37 #[.val (.int p0), .val (.int ((p0 &&& (2147483647 : Int32)) % (7 : Int32))), .unset, .unset] [(.int (2 : Int32)), (.int ((p0 &&& (2147483647 : Int32)) % (7 : Int32)))])) _
          refine XS.icmpNo X0.here hx rfl (hb hby at_37) rfl (teq hc10).2 ?_
          show Steps pg.tables ee below (s₁.setTop (mkF mm 40 #[.val (.int p0), .val (.int ((p0 &&& (2147483647 : Int32)) % (7 : Int32))), .unset, .unset] [])) _
          refine st11 _ ?_
          show Steps pg.tables ee below (T11.setTop (mkF mm 43 #[.val (.int p0), .val (.int ((p0 &&& (2147483647 : Int32)) % (7 : Int32))), .unset, .unset] [(.ref aLEASED)])) _
          refine XS.astoreN X11.here hx rfl (hb hby at_43) rfl rfl (l' := #[.val (.int p0), .val (.int ((p0 &&& (2147483647 : Int32)) % (7 : Int32))), .val (.ref aLEASED), .unset]) rfl ?_
          show Steps pg.tables ee below (T11.setTop (mkF mm 44 #[.val (.int p0), .val (.int ((p0 &&& (2147483647 : Int32)) % (7 : Int32))), .val (.ref aLEASED), .unset] [])) _
          refine XS.iconst X11.here hx rfl (hb hby at_44) ?_
          show Steps pg.tables ee below (T11.setTop (mkF mm 45 #[.val (.int p0), .val (.int ((p0 &&& (2147483647 : Int32)) % (7 : Int32))), .val (.ref aLEASED), .unset] [(.int (0 : Int32))])) _
          refine XS.istoreN X11.here hx rfl (hb hby at_45) rfl (l' := #[.val (.int p0), .val (.int ((p0 &&& (2147483647 : Int32)) % (7 : Int32))), .val (.ref aLEASED), .val (.int (0 : Int32))]) rfl ?_
          show Steps pg.tables ee below (T11.setTop (mkF mm 46 #[.val (.int p0), .val (.int ((p0 &&& (2147483647 : Int32)) % (7 : Int32))), .val (.ref aLEASED), .val (.int (0 : Int32))] [])) _
          refine XS.goto X11.here hx rfl (pc0 := 46) (pc' := 97) rfl (hb hby at_46) (by decide) (by decide) ?_
          show Steps pg.tables ee below (T11.setTop (mkF mm 97 #[.val (.int p0), .val (.int ((p0 &&& (2147483647 : Int32)) % (7 : Int32))), .val (.ref aLEASED), .val (.int (0 : Int32))] [])) _
          refine XS.aloadN X11.here hx rfl (hb hby at_97) rfl rfl ?_
          show Steps pg.tables ee below (T11.setTop (mkF mm 98 #[.val (.int p0), .val (.int ((p0 &&& (2147483647 : Int32)) % (7 : Int32))), .val (.ref aLEASED), .val (.int (0 : Int32))] [(.ref aLEASED)])) _
          refine st12.trans ?_
          show Steps pg.tables ee below (T12.setTop (mkF mm 101 #[.val (.int p0), .val (.int ((p0 &&& (2147483647 : Int32)) % (7 : Int32))), .val (.ref aLEASED), .val (.int (0 : Int32))] [(.int (0 : Int32))])) _
          refine XS.iloadN X12.here hx rfl (hb hby at_101) rfl ?_
          show Steps pg.tables ee below (T12.setTop (mkF mm 102 #[.val (.int p0), .val (.int ((p0 &&& (2147483647 : Int32)) % (7 : Int32))), .val (.ref aLEASED), .val (.int (0 : Int32))] [(.int (0 : Int32)), (.int (0 : Int32))])) _
          refine XS.icmpNo X12.here hx rfl (hb hby at_102) rfl (teq (by decide : (0 : Int32) = (0 : Int32))).2 ?_
          show Steps pg.tables ee below (T12.setTop (mkF mm 105 #[.val (.int p0), .val (.int ((p0 &&& (2147483647 : Int32)) % (7 : Int32))), .val (.ref aLEASED), .val (.int (0 : Int32))] [])) _
          refine XS.iconst X12.here hx rfl (hb hby at_105) ?_
          show Steps pg.tables ee below (T12.setTop (mkF mm 106 #[.val (.int p0), .val (.int ((p0 &&& (2147483647 : Int32)) % (7 : Int32))), .val (.ref aLEASED), .val (.int (0 : Int32))] [(.int (1 : Int32))])) _
          refine XS.goto X12.here hx rfl (pc0 := 106) (pc' := 110) rfl (hb hby at_106) (by decide) (by decide) ?_
          show Steps pg.tables ee below (T12.setTop (mkF mm 110 #[.val (.int p0), .val (.int ((p0 &&& (2147483647 : Int32)) % (7 : Int32))), .val (.ref aLEASED), .val (.int (0 : Int32))] [(.int (1 : Int32))])) _
          exact retN X12 hx (t := .boolean) Bd.returns (by simp) (hb hby at_110) hr
        · show Qrm0 Z p0 aBLOCKED aQUEUED aLEASED aRUNNING aCOMPLETED aDEAD aCANCELLED h0 n0 _ T12.heap _
          rw [e12]
          exact ⟨rfl, N12⟩
      · have pre13 : ∀ t, Steps pg.tables ee below (s₁.setTop (mkF mm 51 #[.val (.int p0), .val (.int ((p0 &&& (2147483647 : Int32)) % (7 : Int32))), .unset, .unset] [(.int (3 : Int32)), (.int ((p0 &&& (2147483647 : Int32)) % (7 : Int32)))])) t → Steps pg.tables ee below (s₁.setTop (entryFrame mm #[(.int p0)] maxLocals)) t := fun t k => pre9 t (by
            show Steps pg.tables ee below (s₁.setTop (mkF mm 37 #[.val (.int p0), .val (.int ((p0 &&& (2147483647 : Int32)) % (7 : Int32))), .unset, .unset] [(.int (2 : Int32)), (.int ((p0 &&& (2147483647 : Int32)) % (7 : Int32)))])) _
            refine XS.icmpYes X0.here hx rfl (pc0 := 37) (pc' := 49) rfl (hb hby at_37) rfl (feq hc10).2 (by decide) (by decide) ?_
            show Steps pg.tables ee below (s₁.setTop (mkF mm 49 #[.val (.int p0), .val (.int ((p0 &&& (2147483647 : Int32)) % (7 : Int32))), .unset, .unset] [])) _
            refine XS.iloadN X0.here hx rfl (hb hby at_49) rfl ?_
            show Steps pg.tables ee below (s₁.setTop (mkF mm 50 #[.val (.int p0), .val (.int ((p0 &&& (2147483647 : Int32)) % (7 : Int32))), .unset, .unset] [(.int ((p0 &&& (2147483647 : Int32)) % (7 : Int32)))])) _
            refine XS.iconst X0.here hx rfl (hb hby at_50) ?_
            exact k)
        by_cases hc14 : ((p0 &&& (2147483647 : Int32)) % (7 : Int32)) = (3 : Int32)
        · obtain ⟨T15, X15, e15, st15⟩ := getS2 X0 hx hZ hown (host := "") (Or.inl (hw _ (List.mem_of_getElem? (i := 13) rfl))) Via.refl e0 (S_RUNNING.ext O0.2) (g := (mkF mm 54 #[.val (.int p0), .val (.int ((p0 &&& (2147483647 : Int32)) % (7 : Int32))), .unset, .unset] [])) rfl (hb hby at_54)
          obtain ⟨cq16, kq16, q16a, q16b, q16c⟩ := isOf hZ e15 (E_RUNNING.ext O0.2)
          obtain ⟨_, _, ⟨T16, L16, k16, n16⟩, -, X16, ⟨Lc16, hQ16, l16, y16, z16⟩, st16⟩ := X15.virtualBack hx (y := (⟨"com/example/orders_into_outcomes/ordersintooutcomes/model/TaskStatus", "releasesDependents", "()Z"⟩ : MethodName)) (z := (⟨"com/example/orders_into_outcomes/ordersintooutcomes/model/TaskStatus", "releasesDependents", "()Z"⟩ : MethodName)) hown (mvT hZ (hw _ (List.mem_of_getElem? (i := 4) rfl))) (mvT hZ (hw _ (List.mem_of_getElem? (i := 5) rfl))) (notFace_of_selects (args := #[]) (mvT hZ (hw _ (List.mem_of_getElem? (i := 7) rfl)))) (mvT hZ (hw _ (List.mem_of_getElem? (i := 7) rfl))) (mvT hZ (hw _ (List.mem_of_getElem? (i := 6) rfl))) (by decide) (backOf (W := 0) (rmN l Z a0 hw [] aRUNNING aCOMPLETED aCANCELLED h0 n0 O0 S_COMPLETED S_CANCELLED h1_RUNNING h2_RUNNING) hZ (hw _ (List.mem_of_getElem? (i := 8) rfl)) (hw _ (List.mem_of_getElem? (i := 2) rfl)) (by decide) (by decide)) q16a q16c (g := (mkF mm 98 #[.val (.int p0), .val (.int ((p0 &&& (2147483647 : Int32)) % (7 : Int32))), .val (.ref aRUNNING), .val (.int (0 : Int32))] [(.ref aRUNNING)])) rfl (by rw [hml]; rfl) (Steps.refl _) (argsL := []) (rest := []) (lenOf pd_12 rfl) rfl (by show 2 * 0 + _ ≤ _; exact Nat.le_of_eq rfl) (hb hby at_98) (fun _ _ => ⟨rfl, e15, (by decide : 0 + 0 ≤ _), (by decide : 0 + 0 ≤ _)⟩)
          dsimp only [Pt.U, Pt.locs, Pt.cells, Pt.slots] at X16 l16 y16 z16 st16 hQ16
          subst l16 y16 z16
          obtain ⟨rfl, N16q, e16⟩ := hQ16
          have N16 := Fr.app N0 N16q
          obtain ⟨fs, hr, hrun, hended, hW, hsame⟩ := X16.leave (v := some (.int (1 : Int32))) (fun h => by rw [Bd.returns] at h; cases h)
          refine ⟨_, _, pre13 _ ?_, hrun, hended, _, _, rfl, ?_, ⟨_, rfl⟩, hW, hsame.mono (by decide) (by decide)⟩
          · show Steps pg.tables ee below (s₁.setTop (mkF mm 51 #[.val (.int p0), .val (.int ((p0 &&& (2147483647 : Int32)) % (7 : Int32))), .unset, .unset] [(.int (3 : Int32)), (.int ((p0 &&& (2147483647 : Int32)) % (7 : Int32)))])) _
            refine XS.icmpNo X0.here hx rfl (hb hby at_51) rfl (teq hc14).2 ?_
            show Steps pg.tables ee below (s₁.setTop (mkF mm 54 #[.val (.int p0), .val (.int ((p0 &&& (2147483647 : Int32)) % (7 : Int32))), .unset, .unset] [])) _
            refine st15 _ ?_
            show Steps pg.tables ee below (T15.setTop (mkF mm 57 #[.val (.int p0), .val (.int ((p0 &&& (2147483647 : Int32)) % (7 : Int32))), .unset, .unset] [(.ref aRUNNING)])) _
            refine XS.astoreN X15.here hx rfl (hb hby at_57) rfl rfl (l' := #[.val (.int p0), .val (.int ((p0 &&& (2147483647 : Int32)) % (7 : Int32))), .val (.ref aRUNNING), .unset]) rfl ?_
            show Steps pg.tables ee below (T15.setTop (mkF mm 58 #[.val (.int p0), .val (.int ((p0 &&& (2147483647 : Int32)) % (7 : Int32))), .val (.ref aRUNNING), .unset] [])) _
            refine XS.iconst X15.here hx rfl (hb hby at_58) ?_
            show Steps pg.tables ee below (T15.setTop (mkF mm 59 #[.val (.int p0), .val (.int ((p0 &&& (2147483647 : Int32)) % (7 : Int32))), .val (.ref aRUNNING), .unset] [(.int (0 : Int32))])) _
            refine XS.istoreN X15.here hx rfl (hb hby at_59) rfl (l' := #[.val (.int p0), .val (.int ((p0 &&& (2147483647 : Int32)) % (7 : Int32))), .val (.ref aRUNNING), .val (.int (0 : Int32))]) rfl ?_
            show Steps pg.tables ee below (T15.setTop (mkF mm 60 #[.val (.int p0), .val (.int ((p0 &&& (2147483647 : Int32)) % (7 : Int32))), .val (.ref aRUNNING), .val (.int (0 : Int32))] [])) _
            refine XS.goto X15.here hx rfl (pc0 := 60) (pc' := 97) rfl (hb hby at_60) (by decide) (by decide) ?_
            show Steps pg.tables ee below (T15.setTop (mkF mm 97 #[.val (.int p0), .val (.int ((p0 &&& (2147483647 : Int32)) % (7 : Int32))), .val (.ref aRUNNING), .val (.int (0 : Int32))] [])) _
            refine XS.aloadN X15.here hx rfl (hb hby at_97) rfl rfl ?_
            show Steps pg.tables ee below (T15.setTop (mkF mm 98 #[.val (.int p0), .val (.int ((p0 &&& (2147483647 : Int32)) % (7 : Int32))), .val (.ref aRUNNING), .val (.int (0 : Int32))] [(.ref aRUNNING)])) _
            refine st16.trans ?_
            show Steps pg.tables ee below (T16.setTop (mkF mm 101 #[.val (.int p0), .val (.int ((p0 &&& (2147483647 : Int32)) % (7 : Int32))), .val (.ref aRUNNING), .val (.int (0 : Int32))] [(.int (0 : Int32))])) _
            refine XS.iloadN X16.here hx rfl (hb hby at_101) rfl ?_
            show Steps pg.tables ee below (T16.setTop (mkF mm 102 #[.val (.int p0), .val (.int ((p0 &&& (2147483647 : Int32)) % (7 : Int32))), .val (.ref aRUNNING), .val (.int (0 : Int32))] [(.int (0 : Int32)), (.int (0 : Int32))])) _
            refine XS.icmpNo X16.here hx rfl (hb hby at_102) rfl (teq (by decide : (0 : Int32) = (0 : Int32))).2 ?_
            show Steps pg.tables ee below (T16.setTop (mkF mm 105 #[.val (.int p0), .val (.int ((p0 &&& (2147483647 : Int32)) % (7 : Int32))), .val (.ref aRUNNING), .val (.int (0 : Int32))] [])) _
            refine XS.iconst X16.here hx rfl (hb hby at_105) ?_
            show Steps pg.tables ee below (T16.setTop (mkF mm 106 #[.val (.int p0), .val (.int ((p0 &&& (2147483647 : Int32)) % (7 : Int32))), .val (.ref aRUNNING), .val (.int (0 : Int32))] [(.int (1 : Int32))])) _
            refine XS.goto X16.here hx rfl (pc0 := 106) (pc' := 110) rfl (hb hby at_106) (by decide) (by decide) ?_
            show Steps pg.tables ee below (T16.setTop (mkF mm 110 #[.val (.int p0), .val (.int ((p0 &&& (2147483647 : Int32)) % (7 : Int32))), .val (.ref aRUNNING), .val (.int (0 : Int32))] [(.int (1 : Int32))])) _
            exact retN X16 hx (t := .boolean) Bd.returns (by simp) (hb hby at_110) hr
          · show Qrm0 Z p0 aBLOCKED aQUEUED aLEASED aRUNNING aCOMPLETED aDEAD aCANCELLED h0 n0 _ T16.heap _
            rw [e16]
            exact ⟨rfl, N16⟩
        · have pre17 : ∀ t, Steps pg.tables ee below (s₁.setTop (mkF mm 65 #[.val (.int p0), .val (.int ((p0 &&& (2147483647 : Int32)) % (7 : Int32))), .unset, .unset] [(.int (4 : Int32)), (.int ((p0 &&& (2147483647 : Int32)) % (7 : Int32)))])) t → Steps pg.tables ee below (s₁.setTop (entryFrame mm #[(.int p0)] maxLocals)) t := fun t k => pre13 t (by
              show Steps pg.tables ee below (s₁.setTop (mkF mm 51 #[.val (.int p0), .val (.int ((p0 &&& (2147483647 : Int32)) % (7 : Int32))), .unset, .unset] [(.int (3 : Int32)), (.int ((p0 &&& (2147483647 : Int32)) % (7 : Int32)))])) _
              refine XS.icmpYes X0.here hx rfl (pc0 := 51) (pc' := 63) rfl (hb hby at_51) rfl (feq hc14).2 (by decide) (by decide) ?_
              show Steps pg.tables ee below (s₁.setTop (mkF mm 63 #[.val (.int p0), .val (.int ((p0 &&& (2147483647 : Int32)) % (7 : Int32))), .unset, .unset] [])) _
              refine XS.iloadN X0.here hx rfl (hb hby at_63) rfl ?_
              show Steps pg.tables ee below (s₁.setTop (mkF mm 64 #[.val (.int p0), .val (.int ((p0 &&& (2147483647 : Int32)) % (7 : Int32))), .unset, .unset] [(.int ((p0 &&& (2147483647 : Int32)) % (7 : Int32)))])) _
              refine XS.iconst X0.here hx rfl (hb hby at_64) ?_
              exact k)
          by_cases hc18 : ((p0 &&& (2147483647 : Int32)) % (7 : Int32)) = (4 : Int32)
          · obtain ⟨T19, X19, e19, st19⟩ := getS2 X0 hx hZ hown (host := "") (Or.inl (hw _ (List.mem_of_getElem? (i := 18) rfl))) Via.refl e0 (S_COMPLETED.ext O0.2) (g := (mkF mm 68 #[.val (.int p0), .val (.int ((p0 &&& (2147483647 : Int32)) % (7 : Int32))), .unset, .unset] [])) rfl (hb hby at_68)
            obtain ⟨cq20, kq20, q20a, q20b, q20c⟩ := isOf hZ e19 (E_COMPLETED.ext O0.2)
            obtain ⟨_, _, ⟨T20, L20, k20, n20⟩, -, X20, ⟨Lc20, hQ20, l20, y20, z20⟩, st20⟩ := X19.virtualBack hx (y := (⟨"com/example/orders_into_outcomes/ordersintooutcomes/model/TaskStatus", "releasesDependents", "()Z"⟩ : MethodName)) (z := (⟨"com/example/orders_into_outcomes/ordersintooutcomes/model/TaskStatus", "releasesDependents", "()Z"⟩ : MethodName)) hown (mvT hZ (hw _ (List.mem_of_getElem? (i := 4) rfl))) (mvT hZ (hw _ (List.mem_of_getElem? (i := 5) rfl))) (notFace_of_selects (args := #[]) (mvT hZ (hw _ (List.mem_of_getElem? (i := 7) rfl)))) (mvT hZ (hw _ (List.mem_of_getElem? (i := 7) rfl))) (mvT hZ (hw _ (List.mem_of_getElem? (i := 6) rfl))) (by decide) (backOf (W := 0) (rmC l Z a0 hw [] aCOMPLETED aCANCELLED h0 n0 O0 S_COMPLETED S_CANCELLED) hZ (hw _ (List.mem_of_getElem? (i := 8) rfl)) (hw _ (List.mem_of_getElem? (i := 2) rfl)) (by decide) (by decide)) q20a q20c (g := (mkF mm 98 #[.val (.int p0), .val (.int ((p0 &&& (2147483647 : Int32)) % (7 : Int32))), .val (.ref aCOMPLETED), .val (.int (1 : Int32))] [(.ref aCOMPLETED)])) rfl (by rw [hml]; rfl) (Steps.refl _) (argsL := []) (rest := []) (lenOf pd_12 rfl) rfl (by show 2 * 0 + _ ≤ _; exact Nat.le_of_eq rfl) (hb hby at_98) (fun _ _ => ⟨rfl, e19, (by decide : 0 + 0 ≤ _), (by decide : 0 + 0 ≤ _)⟩)
            dsimp only [Pt.U, Pt.locs, Pt.cells, Pt.slots] at X20 l20 y20 z20 st20 hQ20
            subst l20 y20 z20
            obtain ⟨rfl, N20q, e20⟩ := hQ20
            have N20 := Fr.app N0 N20q
            obtain ⟨fs, hr, hrun, hended, hW, hsame⟩ := X20.leave (v := some (.int (1 : Int32))) (fun h => by rw [Bd.returns] at h; cases h)
            refine ⟨_, _, pre17 _ ?_, hrun, hended, _, _, rfl, ?_, ⟨_, rfl⟩, hW, hsame.mono (by decide) (by decide)⟩
            · show Steps pg.tables ee below (s₁.setTop (mkF mm 65 #[.val (.int p0), .val (.int ((p0 &&& (2147483647 : Int32)) % (7 : Int32))), .unset, .unset] [(.int (4 : Int32)), (.int ((p0 &&& (2147483647 : Int32)) % (7 : Int32)))])) _
              refine XS.icmpNo X0.here hx rfl (hb hby at_65) rfl (teq hc18).2 ?_
              show Steps pg.tables ee below (s₁.setTop (mkF mm 68 #[.val (.int p0), .val (.int ((p0 &&& (2147483647 : Int32)) % (7 : Int32))), .unset, .unset] [])) _
              refine st19 _ ?_
              show Steps pg.tables ee below (T19.setTop (mkF mm 71 #[.val (.int p0), .val (.int ((p0 &&& (2147483647 : Int32)) % (7 : Int32))), .unset, .unset] [(.ref aCOMPLETED)])) _
              refine XS.astoreN X19.here hx rfl (hb hby at_71) rfl rfl (l' := #[.val (.int p0), .val (.int ((p0 &&& (2147483647 : Int32)) % (7 : Int32))), .val (.ref aCOMPLETED), .unset]) rfl ?_
              show Steps pg.tables ee below (T19.setTop (mkF mm 72 #[.val (.int p0), .val (.int ((p0 &&& (2147483647 : Int32)) % (7 : Int32))), .val (.ref aCOMPLETED), .unset] [])) _
              refine XS.iconst X19.here hx rfl (hb hby at_72) ?_
              show Steps pg.tables ee below (T19.setTop (mkF mm 73 #[.val (.int p0), .val (.int ((p0 &&& (2147483647 : Int32)) % (7 : Int32))), .val (.ref aCOMPLETED), .unset] [(.int (1 : Int32))])) _
              refine XS.istoreN X19.here hx rfl (hb hby at_73) rfl (l' := #[.val (.int p0), .val (.int ((p0 &&& (2147483647 : Int32)) % (7 : Int32))), .val (.ref aCOMPLETED), .val (.int (1 : Int32))]) rfl ?_
              show Steps pg.tables ee below (T19.setTop (mkF mm 74 #[.val (.int p0), .val (.int ((p0 &&& (2147483647 : Int32)) % (7 : Int32))), .val (.ref aCOMPLETED), .val (.int (1 : Int32))] [])) _
              refine XS.goto X19.here hx rfl (pc0 := 74) (pc' := 97) rfl (hb hby at_74) (by decide) (by decide) ?_
              show Steps pg.tables ee below (T19.setTop (mkF mm 97 #[.val (.int p0), .val (.int ((p0 &&& (2147483647 : Int32)) % (7 : Int32))), .val (.ref aCOMPLETED), .val (.int (1 : Int32))] [])) _
              refine XS.aloadN X19.here hx rfl (hb hby at_97) rfl rfl ?_
              show Steps pg.tables ee below (T19.setTop (mkF mm 98 #[.val (.int p0), .val (.int ((p0 &&& (2147483647 : Int32)) % (7 : Int32))), .val (.ref aCOMPLETED), .val (.int (1 : Int32))] [(.ref aCOMPLETED)])) _
              refine st20.trans ?_
              show Steps pg.tables ee below (T20.setTop (mkF mm 101 #[.val (.int p0), .val (.int ((p0 &&& (2147483647 : Int32)) % (7 : Int32))), .val (.ref aCOMPLETED), .val (.int (1 : Int32))] [(.int (1 : Int32))])) _
              refine XS.iloadN X20.here hx rfl (hb hby at_101) rfl ?_
              show Steps pg.tables ee below (T20.setTop (mkF mm 102 #[.val (.int p0), .val (.int ((p0 &&& (2147483647 : Int32)) % (7 : Int32))), .val (.ref aCOMPLETED), .val (.int (1 : Int32))] [(.int (1 : Int32)), (.int (1 : Int32))])) _
              refine XS.icmpNo X20.here hx rfl (hb hby at_102) rfl (teq (by decide : (1 : Int32) = (1 : Int32))).2 ?_
              show Steps pg.tables ee below (T20.setTop (mkF mm 105 #[.val (.int p0), .val (.int ((p0 &&& (2147483647 : Int32)) % (7 : Int32))), .val (.ref aCOMPLETED), .val (.int (1 : Int32))] [])) _
              refine XS.iconst X20.here hx rfl (hb hby at_105) ?_
              show Steps pg.tables ee below (T20.setTop (mkF mm 106 #[.val (.int p0), .val (.int ((p0 &&& (2147483647 : Int32)) % (7 : Int32))), .val (.ref aCOMPLETED), .val (.int (1 : Int32))] [(.int (1 : Int32))])) _
              refine XS.goto X20.here hx rfl (pc0 := 106) (pc' := 110) rfl (hb hby at_106) (by decide) (by decide) ?_
              show Steps pg.tables ee below (T20.setTop (mkF mm 110 #[.val (.int p0), .val (.int ((p0 &&& (2147483647 : Int32)) % (7 : Int32))), .val (.ref aCOMPLETED), .val (.int (1 : Int32))] [(.int (1 : Int32))])) _
              exact retN X20 hx (t := .boolean) Bd.returns (by simp) (hb hby at_110) hr
            · show Qrm0 Z p0 aBLOCKED aQUEUED aLEASED aRUNNING aCOMPLETED aDEAD aCANCELLED h0 n0 _ T20.heap _
              rw [e20]
              exact ⟨rfl, N20⟩
          · have pre21 : ∀ t, Steps pg.tables ee below (s₁.setTop (mkF mm 79 #[.val (.int p0), .val (.int ((p0 &&& (2147483647 : Int32)) % (7 : Int32))), .unset, .unset] [(.int (5 : Int32)), (.int ((p0 &&& (2147483647 : Int32)) % (7 : Int32)))])) t → Steps pg.tables ee below (s₁.setTop (entryFrame mm #[(.int p0)] maxLocals)) t := fun t k => pre17 t (by
                show Steps pg.tables ee below (s₁.setTop (mkF mm 65 #[.val (.int p0), .val (.int ((p0 &&& (2147483647 : Int32)) % (7 : Int32))), .unset, .unset] [(.int (4 : Int32)), (.int ((p0 &&& (2147483647 : Int32)) % (7 : Int32)))])) _
                refine XS.icmpYes X0.here hx rfl (pc0 := 65) (pc' := 77) rfl (hb hby at_65) rfl (feq hc18).2 (by decide) (by decide) ?_
                show Steps pg.tables ee below (s₁.setTop (mkF mm 77 #[.val (.int p0), .val (.int ((p0 &&& (2147483647 : Int32)) % (7 : Int32))), .unset, .unset] [])) _
                refine XS.iloadN X0.here hx rfl (hb hby at_77) rfl ?_
                show Steps pg.tables ee below (s₁.setTop (mkF mm 78 #[.val (.int p0), .val (.int ((p0 &&& (2147483647 : Int32)) % (7 : Int32))), .unset, .unset] [(.int ((p0 &&& (2147483647 : Int32)) % (7 : Int32)))])) _
                refine XS.iconst X0.here hx rfl (hb hby at_78) ?_
                exact k)
            by_cases hc22 : ((p0 &&& (2147483647 : Int32)) % (7 : Int32)) = (5 : Int32)
            · obtain ⟨T23, X23, e23, st23⟩ := getS2 X0 hx hZ hown (host := "") (Or.inl (hw _ (List.mem_of_getElem? (i := 15) rfl))) Via.refl e0 (S_DEAD.ext O0.2) (g := (mkF mm 82 #[.val (.int p0), .val (.int ((p0 &&& (2147483647 : Int32)) % (7 : Int32))), .unset, .unset] [])) rfl (hb hby at_82)
              obtain ⟨cq24, kq24, q24a, q24b, q24c⟩ := isOf hZ e23 (E_DEAD.ext O0.2)
              obtain ⟨_, _, ⟨T24, L24, k24, n24⟩, -, X24, ⟨Lc24, hQ24, l24, y24, z24⟩, st24⟩ := X23.virtualBack hx (y := (⟨"com/example/orders_into_outcomes/ordersintooutcomes/model/TaskStatus", "releasesDependents", "()Z"⟩ : MethodName)) (z := (⟨"com/example/orders_into_outcomes/ordersintooutcomes/model/TaskStatus", "releasesDependents", "()Z"⟩ : MethodName)) hown (mvT hZ (hw _ (List.mem_of_getElem? (i := 4) rfl))) (mvT hZ (hw _ (List.mem_of_getElem? (i := 5) rfl))) (notFace_of_selects (args := #[]) (mvT hZ (hw _ (List.mem_of_getElem? (i := 7) rfl)))) (mvT hZ (hw _ (List.mem_of_getElem? (i := 7) rfl))) (mvT hZ (hw _ (List.mem_of_getElem? (i := 6) rfl))) (by decide) (backOf (W := 0) (rmN l Z a0 hw [] aDEAD aCOMPLETED aCANCELLED h0 n0 O0 S_COMPLETED S_CANCELLED h1_DEAD h2_DEAD) hZ (hw _ (List.mem_of_getElem? (i := 8) rfl)) (hw _ (List.mem_of_getElem? (i := 2) rfl)) (by decide) (by decide)) q24a q24c (g := (mkF mm 98 #[.val (.int p0), .val (.int ((p0 &&& (2147483647 : Int32)) % (7 : Int32))), .val (.ref aDEAD), .val (.int (0 : Int32))] [(.ref aDEAD)])) rfl (by rw [hml]; rfl) (Steps.refl _) (argsL := []) (rest := []) (lenOf pd_12 rfl) rfl (by show 2 * 0 + _ ≤ _; exact Nat.le_of_eq rfl) (hb hby at_98) (fun _ _ => ⟨rfl, e23, (by decide : 0 + 0 ≤ _), (by decide : 0 + 0 ≤ _)⟩)
              dsimp only [Pt.U, Pt.locs, Pt.cells, Pt.slots] at X24 l24 y24 z24 st24 hQ24
              subst l24 y24 z24
              obtain ⟨rfl, N24q, e24⟩ := hQ24
              have N24 := Fr.app N0 N24q
              obtain ⟨fs, hr, hrun, hended, hW, hsame⟩ := X24.leave (v := some (.int (1 : Int32))) (fun h => by rw [Bd.returns] at h; cases h)
              refine ⟨_, _, pre21 _ ?_, hrun, hended, _, _, rfl, ?_, ⟨_, rfl⟩, hW, hsame.mono (by decide) (by decide)⟩
              · show Steps pg.tables ee below (s₁.setTop (mkF mm 79 #[.val (.int p0), .val (.int ((p0 &&& (2147483647 : Int32)) % (7 : Int32))), .unset, .unset] [(.int (5 : Int32)), (.int ((p0 &&& (2147483647 : Int32)) % (7 : Int32)))])) _
                refine XS.icmpNo X0.here hx rfl (hb hby at_79) rfl (teq hc22).2 ?_
                show Steps pg.tables ee below (s₁.setTop (mkF mm 82 #[.val (.int p0), .val (.int ((p0 &&& (2147483647 : Int32)) % (7 : Int32))), .unset, .unset] [])) _
                refine st23 _ ?_
                show Steps pg.tables ee below (T23.setTop (mkF mm 85 #[.val (.int p0), .val (.int ((p0 &&& (2147483647 : Int32)) % (7 : Int32))), .unset, .unset] [(.ref aDEAD)])) _
                refine XS.astoreN X23.here hx rfl (hb hby at_85) rfl rfl (l' := #[.val (.int p0), .val (.int ((p0 &&& (2147483647 : Int32)) % (7 : Int32))), .val (.ref aDEAD), .unset]) rfl ?_
                show Steps pg.tables ee below (T23.setTop (mkF mm 86 #[.val (.int p0), .val (.int ((p0 &&& (2147483647 : Int32)) % (7 : Int32))), .val (.ref aDEAD), .unset] [])) _
                refine XS.iconst X23.here hx rfl (hb hby at_86) ?_
                show Steps pg.tables ee below (T23.setTop (mkF mm 87 #[.val (.int p0), .val (.int ((p0 &&& (2147483647 : Int32)) % (7 : Int32))), .val (.ref aDEAD), .unset] [(.int (0 : Int32))])) _
                refine XS.istoreN X23.here hx rfl (hb hby at_87) rfl (l' := #[.val (.int p0), .val (.int ((p0 &&& (2147483647 : Int32)) % (7 : Int32))), .val (.ref aDEAD), .val (.int (0 : Int32))]) rfl ?_
                show Steps pg.tables ee below (T23.setTop (mkF mm 88 #[.val (.int p0), .val (.int ((p0 &&& (2147483647 : Int32)) % (7 : Int32))), .val (.ref aDEAD), .val (.int (0 : Int32))] [])) _
                refine XS.goto X23.here hx rfl (pc0 := 88) (pc' := 97) rfl (hb hby at_88) (by decide) (by decide) ?_
                show Steps pg.tables ee below (T23.setTop (mkF mm 97 #[.val (.int p0), .val (.int ((p0 &&& (2147483647 : Int32)) % (7 : Int32))), .val (.ref aDEAD), .val (.int (0 : Int32))] [])) _
                refine XS.aloadN X23.here hx rfl (hb hby at_97) rfl rfl ?_
                show Steps pg.tables ee below (T23.setTop (mkF mm 98 #[.val (.int p0), .val (.int ((p0 &&& (2147483647 : Int32)) % (7 : Int32))), .val (.ref aDEAD), .val (.int (0 : Int32))] [(.ref aDEAD)])) _
                refine st24.trans ?_
                show Steps pg.tables ee below (T24.setTop (mkF mm 101 #[.val (.int p0), .val (.int ((p0 &&& (2147483647 : Int32)) % (7 : Int32))), .val (.ref aDEAD), .val (.int (0 : Int32))] [(.int (0 : Int32))])) _
                refine XS.iloadN X24.here hx rfl (hb hby at_101) rfl ?_
                show Steps pg.tables ee below (T24.setTop (mkF mm 102 #[.val (.int p0), .val (.int ((p0 &&& (2147483647 : Int32)) % (7 : Int32))), .val (.ref aDEAD), .val (.int (0 : Int32))] [(.int (0 : Int32)), (.int (0 : Int32))])) _
                refine XS.icmpNo X24.here hx rfl (hb hby at_102) rfl (teq (by decide : (0 : Int32) = (0 : Int32))).2 ?_
                show Steps pg.tables ee below (T24.setTop (mkF mm 105 #[.val (.int p0), .val (.int ((p0 &&& (2147483647 : Int32)) % (7 : Int32))), .val (.ref aDEAD), .val (.int (0 : Int32))] [])) _
                refine XS.iconst X24.here hx rfl (hb hby at_105) ?_
                show Steps pg.tables ee below (T24.setTop (mkF mm 106 #[.val (.int p0), .val (.int ((p0 &&& (2147483647 : Int32)) % (7 : Int32))), .val (.ref aDEAD), .val (.int (0 : Int32))] [(.int (1 : Int32))])) _
                refine XS.goto X24.here hx rfl (pc0 := 106) (pc' := 110) rfl (hb hby at_106) (by decide) (by decide) ?_
                show Steps pg.tables ee below (T24.setTop (mkF mm 110 #[.val (.int p0), .val (.int ((p0 &&& (2147483647 : Int32)) % (7 : Int32))), .val (.ref aDEAD), .val (.int (0 : Int32))] [(.int (1 : Int32))])) _
                exact retN X24 hx (t := .boolean) Bd.returns (by simp) (hb hby at_110) hr
              · show Qrm0 Z p0 aBLOCKED aQUEUED aLEASED aRUNNING aCOMPLETED aDEAD aCANCELLED h0 n0 _ T24.heap _
                rw [e24]
                exact ⟨rfl, N24⟩
            · obtain ⟨T25, X25, e25, st25⟩ := getS2 X0 hx hZ hown (host := "") (Or.inl (hw _ (List.mem_of_getElem? (i := 17) rfl))) Via.refl e0 (S_CANCELLED.ext O0.2) (g := (mkF mm 91 #[.val (.int p0), .val (.int ((p0 &&& (2147483647 : Int32)) % (7 : Int32))), .unset, .unset] [])) rfl (hb hby at_91)
              obtain ⟨cq26, kq26, q26a, q26b, q26c⟩ := isOf hZ e25 (E_CANCELLED.ext O0.2)
              obtain ⟨_, _, ⟨T26, L26, k26, n26⟩, -, X26, ⟨Lc26, hQ26, l26, y26, z26⟩, st26⟩ := X25.virtualBack hx (y := (⟨"com/example/orders_into_outcomes/ordersintooutcomes/model/TaskStatus", "releasesDependents", "()Z"⟩ : MethodName)) (z := (⟨"com/example/orders_into_outcomes/ordersintooutcomes/model/TaskStatus", "releasesDependents", "()Z"⟩ : MethodName)) hown (mvT hZ (hw _ (List.mem_of_getElem? (i := 4) rfl))) (mvT hZ (hw _ (List.mem_of_getElem? (i := 5) rfl))) (notFace_of_selects (args := #[]) (mvT hZ (hw _ (List.mem_of_getElem? (i := 7) rfl)))) (mvT hZ (hw _ (List.mem_of_getElem? (i := 7) rfl))) (mvT hZ (hw _ (List.mem_of_getElem? (i := 6) rfl))) (by decide) (backOf (W := 0) (rmX l Z a0 hw [] aCOMPLETED aCANCELLED h0 n0 O0 S_COMPLETED S_CANCELLED hXC) hZ (hw _ (List.mem_of_getElem? (i := 8) rfl)) (hw _ (List.mem_of_getElem? (i := 2) rfl)) (by decide) (by decide)) q26a q26c (g := (mkF mm 98 #[.val (.int p0), .val (.int ((p0 &&& (2147483647 : Int32)) % (7 : Int32))), .val (.ref aCANCELLED), .val (.int (1 : Int32))] [(.ref aCANCELLED)])) rfl (by rw [hml]; rfl) (Steps.refl _) (argsL := []) (rest := []) (lenOf pd_12 rfl) rfl (by show 2 * 0 + _ ≤ _; exact Nat.le_of_eq rfl) (hb hby at_98) (fun _ _ => ⟨rfl, e25, (by decide : 0 + 0 ≤ _), (by decide : 0 + 0 ≤ _)⟩)
              dsimp only [Pt.U, Pt.locs, Pt.cells, Pt.slots] at X26 l26 y26 z26 st26 hQ26
              subst l26 y26 z26
              obtain ⟨rfl, N26q, e26⟩ := hQ26
              have N26 := Fr.app N0 N26q
              obtain ⟨fs, hr, hrun, hended, hW, hsame⟩ := X26.leave (v := some (.int (1 : Int32))) (fun h => by rw [Bd.returns] at h; cases h)
              refine ⟨_, _, pre21 _ ?_, hrun, hended, _, _, rfl, ?_, ⟨_, rfl⟩, hW, hsame.mono (by decide) (by decide)⟩
              · show Steps pg.tables ee below (s₁.setTop (mkF mm 79 #[.val (.int p0), .val (.int ((p0 &&& (2147483647 : Int32)) % (7 : Int32))), .unset, .unset] [(.int (5 : Int32)), (.int ((p0 &&& (2147483647 : Int32)) % (7 : Int32)))])) _
                refine XS.icmpYes X0.here hx rfl (pc0 := 79) (pc' := 91) rfl (hb hby at_79) rfl (feq hc22).2 (by decide) (by decide) ?_
                show Steps pg.tables ee below (s₁.setTop (mkF mm 91 #[.val (.int p0), .val (.int ((p0 &&& (2147483647 : Int32)) % (7 : Int32))), .unset, .unset] [])) _
                refine st25 _ ?_
                show Steps pg.tables ee below (T25.setTop (mkF mm 94 #[.val (.int p0), .val (.int ((p0 &&& (2147483647 : Int32)) % (7 : Int32))), .unset, .unset] [(.ref aCANCELLED)])) _
                refine XS.astoreN X25.here hx rfl (hb hby at_94) rfl rfl (l' := #[.val (.int p0), .val (.int ((p0 &&& (2147483647 : Int32)) % (7 : Int32))), .val (.ref aCANCELLED), .unset]) rfl ?_
                show Steps pg.tables ee below (T25.setTop (mkF mm 95 #[.val (.int p0), .val (.int ((p0 &&& (2147483647 : Int32)) % (7 : Int32))), .val (.ref aCANCELLED), .unset] [])) _
                refine XS.iconst X25.here hx rfl (hb hby at_95) ?_
                show Steps pg.tables ee below (T25.setTop (mkF mm 96 #[.val (.int p0), .val (.int ((p0 &&& (2147483647 : Int32)) % (7 : Int32))), .val (.ref aCANCELLED), .unset] [(.int (1 : Int32))])) _
                refine XS.istoreN X25.here hx rfl (hb hby at_96) rfl (l' := #[.val (.int p0), .val (.int ((p0 &&& (2147483647 : Int32)) % (7 : Int32))), .val (.ref aCANCELLED), .val (.int (1 : Int32))]) rfl ?_
                show Steps pg.tables ee below (T25.setTop (mkF mm 97 #[.val (.int p0), .val (.int ((p0 &&& (2147483647 : Int32)) % (7 : Int32))), .val (.ref aCANCELLED), .val (.int (1 : Int32))] [])) _
                refine XS.aloadN X25.here hx rfl (hb hby at_97) rfl rfl ?_
                show Steps pg.tables ee below (T25.setTop (mkF mm 98 #[.val (.int p0), .val (.int ((p0 &&& (2147483647 : Int32)) % (7 : Int32))), .val (.ref aCANCELLED), .val (.int (1 : Int32))] [(.ref aCANCELLED)])) _
                refine st26.trans ?_
                show Steps pg.tables ee below (T26.setTop (mkF mm 101 #[.val (.int p0), .val (.int ((p0 &&& (2147483647 : Int32)) % (7 : Int32))), .val (.ref aCANCELLED), .val (.int (1 : Int32))] [(.int (1 : Int32))])) _
                refine XS.iloadN X26.here hx rfl (hb hby at_101) rfl ?_
                show Steps pg.tables ee below (T26.setTop (mkF mm 102 #[.val (.int p0), .val (.int ((p0 &&& (2147483647 : Int32)) % (7 : Int32))), .val (.ref aCANCELLED), .val (.int (1 : Int32))] [(.int (1 : Int32)), (.int (1 : Int32))])) _
                refine XS.icmpNo X26.here hx rfl (hb hby at_102) rfl (teq (by decide : (1 : Int32) = (1 : Int32))).2 ?_
                show Steps pg.tables ee below (T26.setTop (mkF mm 105 #[.val (.int p0), .val (.int ((p0 &&& (2147483647 : Int32)) % (7 : Int32))), .val (.ref aCANCELLED), .val (.int (1 : Int32))] [])) _
                refine XS.iconst X26.here hx rfl (hb hby at_105) ?_
                show Steps pg.tables ee below (T26.setTop (mkF mm 106 #[.val (.int p0), .val (.int ((p0 &&& (2147483647 : Int32)) % (7 : Int32))), .val (.ref aCANCELLED), .val (.int (1 : Int32))] [(.int (1 : Int32))])) _
                refine XS.goto X26.here hx rfl (pc0 := 106) (pc' := 110) rfl (hb hby at_106) (by decide) (by decide) ?_
                show Steps pg.tables ee below (T26.setTop (mkF mm 110 #[.val (.int p0), .val (.int ((p0 &&& (2147483647 : Int32)) % (7 : Int32))), .val (.ref aCANCELLED), .val (.int (1 : Int32))] [(.int (1 : Int32))])) _
                exact retN X26 hx (t := .boolean) Bd.returns (by simp) (hb hby at_110) hr
              · show Qrm0 Z p0 aBLOCKED aQUEUED aLEASED aRUNNING aCOMPLETED aDEAD aCANCELLED h0 n0 _ T26.heap _
                rw [e26]
                exact ⟨rfl, N26⟩
set_option maxRecDepth 65536 in
set_option maxHeartbeats 40000000 in
theorem comes_1 {Post : Tables → Env → Array Value → State → Outcome → State → Prop} (hpost : ∀ tb e args s v u, (limb_1_1.after args s (.returned v) u = true ∧ limb_1_2.after args s (.returned v) u = true ∧ True) → FrameEnd s (.returned v) u (Jvm.fieldLocs frame_1_writes args s ++ Jvm.arrayLocs frame_1_arrays args s ++ Jvm.staticLocs frame_1_statics s) 0 0 → Post tb e args s (.returned v) u) :
    ArmFor flags0 classFile x code maxLocals ret World_1 tables_1 room_1 Calls_1 rest_1 Pre_1 Post := by
  intro l hfl _ _ p e ha hc hk s m args below hf hA hF happ hP
  obtain ⟨hcalls, hrest, hpre⟩ := hP
  obtain ⟨-, -, -, hnamed, -, -, -, hat⟩ := (Spec.applies_iff hf).mp happ
  obtain ⟨hg, hn⟩ := and_e (Cond.before_iff.mp (show (Jvm.Cond.and given_1 narrow_1).before args s = true from hpre))
  obtain ⟨gg1, gg2⟩ := and_e hg
  obtain ⟨w0, rfl⟩ : ∃ w0 : Value, args = #[w0] := by
    have hs : args.size = 1 := by simpa [Cond.value, given_1] using gg1
    obtain ⟨L⟩ := args
    match L, hs with
    | [w0], _ => exact ⟨w0, rfl⟩
  have hw := fun d (hd : d ∈ tables_1) => atoms_spec (ws := Jvm.Cond.code x code maxLocals ret :: tables_1) hat d (List.mem_cons_of_mem _ hd)
  have hfit : Fit s := fun {y c} hc i hi => by
    obtain ⟨ha, rfl⟩ := Array.getElem?_eq_some_iff.mp hc
    have q := List.all_eq_true.mp ((Array.all_eq_true_iff_forall_mem.mp hF) _ (Array.getElem_mem ha)) i (List.mem_range.mpr hi)
    simpa [Array.getElem?_eq_getElem hi] using q
  obtain ⟨i0, ei0⟩ := is_v gg2
  obtain rfl : w0 = (.int i0) := Option.some.inj ei0
  obtain ⟨gg3, gg4⟩ := and_e hn
  obtain ⟨gg5, gg6⟩ := and_e gg4
  obtain ⟨gg7, gg8⟩ := and_e gg6
  obtain ⟨gg9, gg10⟩ := and_e gg8
  obtain ⟨gg11, gg12⟩ := and_e gg10
  obtain ⟨gg13, gg14⟩ := and_e gg12
  obtain ⟨gg15, gg16⟩ := and_e gg14
  obtain ⟨gg17, gg18⟩ := and_e gg16
  obtain ⟨gg19, gg20⟩ := and_e gg18
  obtain ⟨gg21, gg22⟩ := and_e gg20
  obtain ⟨gg23, gg24⟩ := and_e gg22
  obtain ⟨gg25, gg26⟩ := and_e gg24
  obtain ⟨gg27, gg28⟩ := and_e gg26
  obtain ⟨a_BLOCKED, ev_BLOCKED⟩ := exa_v gg3
  have E_BLOCKED := Exa.start ev_BLOCKED gg3
  have S_BLOCKED := Sta.start ev_BLOCKED (Or.inr ⟨(hw _ (List.mem_of_getElem? (i := 2) rfl)), (hw _ (List.mem_of_getElem? (i := 3) rfl))⟩)
  obtain ⟨a_COMPLETED, ev_COMPLETED⟩ := exa_v gg5
  have E_COMPLETED := Exa.start ev_COMPLETED gg5
  have S_COMPLETED := Sta.start ev_COMPLETED (Or.inr ⟨(hw _ (List.mem_of_getElem? (i := 2) rfl)), (hw _ (List.mem_of_getElem? (i := 10) rfl))⟩)
  obtain ⟨a_CANCELLED, ev_CANCELLED⟩ := exa_v gg11
  have E_CANCELLED := Exa.start ev_CANCELLED gg11
  have S_CANCELLED := Sta.start ev_CANCELLED (Or.inr ⟨(hw _ (List.mem_of_getElem? (i := 2) rfl)), (hw _ (List.mem_of_getElem? (i := 12) rfl))⟩)
  obtain ⟨a_RUNNING, ev_RUNNING⟩ := exa_v gg15
  have E_RUNNING := Exa.start ev_RUNNING gg15
  have S_RUNNING := Sta.start ev_RUNNING (Or.inr ⟨(hw _ (List.mem_of_getElem? (i := 2) rfl)), (hw _ (List.mem_of_getElem? (i := 14) rfl))⟩)
  obtain ⟨a_DEAD, ev_DEAD⟩ := exa_v gg19
  have E_DEAD := Exa.start ev_DEAD gg19
  have S_DEAD := Sta.start ev_DEAD (Or.inr ⟨(hw _ (List.mem_of_getElem? (i := 2) rfl)), (hw _ (List.mem_of_getElem? (i := 16) rfl))⟩)
  obtain ⟨a_LEASED, ev_LEASED⟩ := exa_v gg23
  have E_LEASED := Exa.start ev_LEASED gg23
  have S_LEASED := Sta.start ev_LEASED (Or.inr ⟨(hw _ (List.mem_of_getElem? (i := 2) rfl)), (hw _ (List.mem_of_getElem? (i := 20) rfl))⟩)
  obtain ⟨a_QUEUED, ev_QUEUED⟩ := exa_v gg27
  have E_QUEUED := Exa.start ev_QUEUED gg27
  have S_QUEUED := Sta.start ev_QUEUED (Or.inr ⟨(hw _ (List.mem_of_getElem? (i := 2) rfl)), (hw _ (List.mem_of_getElem? (i := 22) rfl))⟩)
  have F_BLOCKED_ordinal := own_fld ev_BLOCKED gg7
  have F_COMPLETED_ordinal := own_fld ev_COMPLETED gg9
  have F_CANCELLED_ordinal := own_fld ev_CANCELLED gg13
  have F_RUNNING_ordinal := own_fld ev_RUNNING gg17
  have F_DEAD_ordinal := own_fld ev_DEAD gg21
  have F_LEASED_ordinal := own_fld ev_LEASED gg25
  have F_QUEUED_ordinal := own_fld ev_QUEUED gg28
  obtain ⟨n, o, h1, h2, h3, _, L, rfl, ⟨rfl, N⟩, hq⟩ := rm0 l s _ hw tables_1 i0 a_BLOCKED a_QUEUED a_LEASED a_RUNNING a_COMPLETED a_DEAD a_CANCELLED s.heap s.heap.size (Old.start s) S_BLOCKED S_QUEUED S_LEASED S_RUNNING S_COMPLETED S_DEAD S_CANCELLED E_BLOCKED E_QUEUED E_LEASED E_RUNNING E_COMPLETED E_DEAD E_CANCELLED (F_CANCELLED_ordinal.ne F_COMPLETED_ordinal (by decide)) (F_BLOCKED_ordinal.ne F_COMPLETED_ordinal (by decide)) (F_BLOCKED_ordinal.ne F_CANCELLED_ordinal (by decide)) (F_QUEUED_ordinal.ne F_COMPLETED_ordinal (by decide)) (F_QUEUED_ordinal.ne F_CANCELLED_ordinal (by decide)) (F_LEASED_ordinal.ne F_COMPLETED_ordinal (by decide)) (F_LEASED_ordinal.ne F_CANCELLED_ordinal (by decide)) (F_RUNNING_ordinal.ne F_COMPLETED_ordinal (by decide)) (F_RUNNING_ordinal.ne F_CANCELLED_ordinal (by decide)) (F_DEAD_ordinal.ne F_COMPLETED_ordinal (by decide)) (F_DEAD_ordinal.ne F_CANCELLED_ordinal (by decide)) p e ha hc hk s m _ below hf ((Spec.applies_iff_loose hf).mp happ).1 ⟨rfl, State.Warmed39.refl s, rfl⟩ trivial
  refine ⟨n, _, h1, h2, h3, hpost _ _ _ _ _ _ ⟨Cond.after_iff.mpr rfl, Cond.after_iff.mpr (eq_i res_at (Term.int_eval (1)) rfl), trivial⟩ ⟨hq.1, hq.2.1, (hq.2.2.sift fun y hy => Or.inr (N y hy)).mono (by decide) (by decide)⟩⟩
theorem main_1_1 : Claimed_1_1 := comes_1 fun _ _ _ _ _ _ h hF => ⟨h.1, hF⟩
theorem main_1_2 : Claimed_1_2 := comes_1 fun _ _ _ _ _ _ h hF => ⟨h.2.1, hF⟩
end Jvm.Pilot.@@N@@
namespace Jvm.Pilot.@@N@@
open Jvm Jvm.ClassFile Sem Op Lib Jvm.Free Jvm.Stand Jvm.Pilot.@@N@@.Jvm.D
/-! MADE BY PROGRAM (witnessworld.py) out of the Statement's table words and the real class files: 12 classes; the members and pool entries that the words name. The judged class is class 1, her method 1. -/
namespace start1
open Jvm.ClassFile
def u (s : String) : CpInfo := .utf8 (stringToUtf16 s)
/-- a pool by its gaps: so many unusable entries, then the entry; so many at the end -/
def gap : Nat → List CpInfo → List CpInfo
  | 0, r => r
  | n + 1, r => .unusable :: gap n r
def poolList (es : List (Nat × CpInfo)) (last : Nat) : List CpInfo := es.foldr (fun e r => gap e.1 (e.2 :: r)) (gap last [])
def pool (es : List (Nat × CpInfo)) (last : Nat) : Array CpInfo := ⟨poolList es last⟩
def fileOf (pool : Array CpInfo) (this : Nat) (attrs : Array Attribute := #[]) (ms : Array MethodInfo := #[]) (fl : Nat := 33) (sup : Nat := 0) (ifs : Array Nat := #[]) (fds : Array FieldInfo := #[]) : ClassFile where
  minorVersion := 0
  majorVersion := 65
  constantPool := pool
  accessFlags := fl
  thisClass := this
  superClass := sup
  interfaces := ifs
  fields := fds
  methods := ms
  attributes := attrs
def plain (name : String) (sup : Option ClassId) : Class where
  name := name
  kind := .ordinary
  loader := none
  accessFlags := 33
  super := sup
  interfaces := #[]
  cf := none
  fields := #[]
  methods := #[]
  instanceTypes := #[]
  staticTypes := #[]
  resolved := #[]
  callSites := []
  init := .initialized
  statics := none
  mirror := none

def pool0 : Array CpInfo := pool [(5, u "<init>"), (0, u "()V"), (1, .class_ 10), (1, u "java/lang/Object")] 113

def k0m0 : Method := { name := "<init>", desc := "()V", sig := { parameters := [], returnType := none }, accessFlags := 1, code := none }
/-- java/lang/Object -/
def k0 : Class := { plain "java/lang/Object" none with
  accessFlags := 33
  interfaces := #[]
  cf := some (fileOf pool0 8 #[] #[{ accessFlags := 1, nameIndex := 5, descriptorIndex := 6, attributes := #[] }] 33 0 #[] #[])
  fields := #[]
  methods := #[k0m0]
  instanceTypes := #[]
  staticTypes := #[]
  resolved := Array.replicate 124 none
  statics := none }

def pool1 : Array CpInfo := pool [(2, .class_ 4), (1, u "java/lang/Object"), (0, u "<init>"), (0, u "()V"), (0, .integer 2147483647), (0, .fieldref 9 10), (0, .class_ 11), (0, .nameAndType 12 13), (0, u "com/example/orders_into_outcomes/ordersintooutcomes/model/TaskStatus"), (0, u "BLOCKED"), (0, u "Lcom/example/orders_into_outcomes/ordersintooutcomes/model/TaskStatus;"), (0, .fieldref 9 15), (0, .nameAndType 16 13), (0, u "QUEUED"), (0, .fieldref 9 18), (0, .nameAndType 19 13), (0, u "LEASED"), (0, .fieldref 9 21), (0, .nameAndType 22 13), (0, u "RUNNING"), (0, .fieldref 9 24), (0, .nameAndType 25 13), (0, u "COMPLETED"), (0, .fieldref 9 27), (0, .nameAndType 28 13), (0, u "DEAD"), (0, .fieldref 9 30), (0, .nameAndType 31 13), (0, u "CANCELLED"), (0, .methodref 9 33), (0, .nameAndType 34 35), (0, u "releasesDependents"), (0, u "()Z"), (0, .class_ 37), (0, u "com/example/orders_into_outcomes/ordersintooutcomes/model/TaskStatusReleasesDependentsPinLaw"), (2, u "law"), (0, u "(I)Z")] 3

def k1m0 : Method := { name := "<init>", desc := "()V", sig := { parameters := [], returnType := none }, accessFlags := 1, code := none }
def k1c1 : Code := { maxStack := 2, maxLocals := 4, code := code, exceptionTable := #[], attributes := #[] }
def k1m1 : Method := { name := "law", desc := "(I)Z", sig := { parameters := [.int], returnType := some .boolean }, accessFlags := 9, code := some k1c1 }
/-- com/example/orders_into_outcomes/ordersintooutcomes/model/TaskStatusReleasesDependentsPinLaw -/
def k1 : Class := { plain "com/example/orders_into_outcomes/ordersintooutcomes/model/TaskStatusReleasesDependentsPinLaw" (some 0) with
  accessFlags := 49
  interfaces := #[]
  cf := some (fileOf pool1 36 #[] #[{ accessFlags := 1, nameIndex := 5, descriptorIndex := 6, attributes := #[] }, { accessFlags := 9, nameIndex := 40, descriptorIndex := 41, attributes := #[] }] 49 2 #[] #[])
  fields := #[]
  methods := #[k1m0, k1m1]
  instanceTypes := #[]
  staticTypes := #[]
  resolved := Array.replicate 45 none
  statics := none }

def pool2 : Array CpInfo := pool [(1, .class_ 2), (0, u "java/lang/constant/Constable"), (0, .class_ 4), (0, u "java/lang/Object")] 6

/-- java/lang/constant/Constable -/
def k2 : Class := { plain "java/lang/constant/Constable" (some 0) with
  accessFlags := 1537
  interfaces := #[]
  cf := some (fileOf pool2 1 #[] #[] 1537 3 #[] #[])
  fields := #[]
  methods := #[]
  instanceTypes := #[]
  staticTypes := #[]
  resolved := Array.replicate 11 none
  statics := none }

def pool3 : Array CpInfo := pool [(1, .class_ 2), (0, u "java/lang/Comparable"), (0, .class_ 4), (0, u "java/lang/Object")] 7

/-- java/lang/Comparable -/
def k3 : Class := { plain "java/lang/Comparable" (some 0) with
  accessFlags := 1537
  interfaces := #[]
  cf := some (fileOf pool3 1 #[] #[] 1537 3 #[] #[])
  fields := #[]
  methods := #[]
  instanceTypes := #[]
  staticTypes := #[]
  resolved := Array.replicate 12 none
  statics := none }

def pool4 : Array CpInfo := pool [(1, .class_ 2), (0, u "java/io/Serializable"), (0, .class_ 4), (0, u "java/lang/Object")] 2

/-- java/io/Serializable -/
def k4 : Class := { plain "java/io/Serializable" (some 0) with
  accessFlags := 1537
  interfaces := #[]
  cf := some (fileOf pool4 1 #[] #[] 1537 3 #[] #[])
  fields := #[]
  methods := #[]
  instanceTypes := #[]
  staticTypes := #[]
  resolved := Array.replicate 7 none
  statics := none }

def pool5 : Array CpInfo := pool [(2, .class_ 4), (1, u "java/lang/Enum"), (0, u "name"), (0, u "Ljava/lang/String;"), (2, u "ordinal"), (0, u "I"), (1, .class_ 14), (1, u "java/lang/Object"), (4, u "hash"), (86, .class_ 108), (1, u "java/lang/Enum$EnumDesc"), (2, .class_ 112), (0, u "java/lang/constant/Constable"), (0, .class_ 114), (0, u "java/lang/Comparable"), (0, .class_ 116), (0, u "java/io/Serializable")] 87

/-- java/lang/Enum -/
def k5 : Class := { plain "java/lang/Enum" (some 0) with
  accessFlags := 1057
  interfaces := #[2, 3, 4]
  cf := some (fileOf pool5 2 #[.nestMembers #[106]] #[] 1057 12 #[111, 113, 115] #[{ accessFlags := 18, nameIndex := 5, descriptorIndex := 6, attributes := #[] }, { accessFlags := 18, nameIndex := 9, descriptorIndex := 10, attributes := #[] }, { accessFlags := 2, nameIndex := 19, descriptorIndex := 10, attributes := #[] }])
  fields := #[{ name := "name", type := (.object "java/lang/String"), accessFlags := 18, slot := 0, constantValue := 0 }, { name := "ordinal", type := .int, accessFlags := 18, slot := 1, constantValue := 0 }, { name := "hash", type := .int, accessFlags := 2, slot := 2, constantValue := 0 }]
  methods := #[]
  instanceTypes := #[(.object "java/lang/String"), .int, .int]
  staticTypes := #[]
  resolved := Array.replicate 204 none
  statics := none }

def pool6 : Array CpInfo := pool [(1, .class_ 2), (0, u "com/example/orders_into_outcomes/ordersintooutcomes/model/TaskStatus"), (2, u "BLOCKED"), (0, u "Lcom/example/orders_into_outcomes/ordersintooutcomes/model/TaskStatus;"), (2, u "QUEUED"), (2, u "LEASED"), (2, u "RUNNING"), (0, .fieldref 1 17), (0, .nameAndType 18 6), (0, u "COMPLETED"), (2, u "DEAD"), (0, .fieldref 1 23), (0, .nameAndType 24 6), (0, u "CANCELLED"), (2, u "$VALUES"), (0, u "[Lcom/example/orders_into_outcomes/ordersintooutcomes/model/TaskStatus;"), (6, .class_ 37), (1, u "java/lang/Enum"), (14, u "wireName"), (0, u "Ljava/lang/String;"), (26, u "releasesDependents"), (0, u "()Z")] 6

def k6c0 : Code := { maxStack := 2, maxLocals := 1, code := prog_48_method_5_code, exceptionTable := #[], attributes := #[] }
def k6m0 : Method := { name := "releasesDependents", desc := "()Z", sig := { parameters := [], returnType := some .boolean }, accessFlags := 1, code := some k6c0 }
/-- com/example/orders_into_outcomes/ordersintooutcomes/model/TaskStatus -/
def k6 : Class := { plain "com/example/orders_into_outcomes/ordersintooutcomes/model/TaskStatus" (some 5) with
  accessFlags := 16433
  interfaces := #[]
  cf := some (fileOf pool6 1 #[] #[{ accessFlags := 1, nameIndex := 80, descriptorIndex := 81, attributes := #[] }] 16433 35 #[] #[{ accessFlags := 16409, nameIndex := 5, descriptorIndex := 6, attributes := #[] }, { accessFlags := 16409, nameIndex := 9, descriptorIndex := 6, attributes := #[] }, { accessFlags := 16409, nameIndex := 12, descriptorIndex := 6, attributes := #[] }, { accessFlags := 16409, nameIndex := 15, descriptorIndex := 6, attributes := #[] }, { accessFlags := 16409, nameIndex := 18, descriptorIndex := 6, attributes := #[] }, { accessFlags := 16409, nameIndex := 21, descriptorIndex := 6, attributes := #[] }, { accessFlags := 16409, nameIndex := 24, descriptorIndex := 6, attributes := #[] }, { accessFlags := 18, nameIndex := 52, descriptorIndex := 53, attributes := #[] }, { accessFlags := 4122, nameIndex := 27, descriptorIndex := 28, attributes := #[] }])
  fields := #[{ name := "BLOCKED", type := (.object "com/example/orders_into_outcomes/ordersintooutcomes/model/TaskStatus"), accessFlags := 16409, slot := 0, constantValue := 0 }, { name := "QUEUED", type := (.object "com/example/orders_into_outcomes/ordersintooutcomes/model/TaskStatus"), accessFlags := 16409, slot := 1, constantValue := 0 }, { name := "LEASED", type := (.object "com/example/orders_into_outcomes/ordersintooutcomes/model/TaskStatus"), accessFlags := 16409, slot := 2, constantValue := 0 }, { name := "RUNNING", type := (.object "com/example/orders_into_outcomes/ordersintooutcomes/model/TaskStatus"), accessFlags := 16409, slot := 3, constantValue := 0 }, { name := "COMPLETED", type := (.object "com/example/orders_into_outcomes/ordersintooutcomes/model/TaskStatus"), accessFlags := 16409, slot := 4, constantValue := 0 }, { name := "DEAD", type := (.object "com/example/orders_into_outcomes/ordersintooutcomes/model/TaskStatus"), accessFlags := 16409, slot := 5, constantValue := 0 }, { name := "CANCELLED", type := (.object "com/example/orders_into_outcomes/ordersintooutcomes/model/TaskStatus"), accessFlags := 16409, slot := 6, constantValue := 0 }, { name := "wireName", type := (.object "java/lang/String"), accessFlags := 18, slot := 3, constantValue := 0 }, { name := "$VALUES", type := (.array (.object "com/example/orders_into_outcomes/ordersintooutcomes/model/TaskStatus")), accessFlags := 4122, slot := 7, constantValue := 0 }]
  methods := #[k6m0]
  instanceTypes := #[(.object "java/lang/String"), .int, .int, (.object "java/lang/String")]
  staticTypes := #[(.object "com/example/orders_into_outcomes/ordersintooutcomes/model/TaskStatus"), (.object "com/example/orders_into_outcomes/ordersintooutcomes/model/TaskStatus"), (.object "com/example/orders_into_outcomes/ordersintooutcomes/model/TaskStatus"), (.object "com/example/orders_into_outcomes/ordersintooutcomes/model/TaskStatus"), (.object "com/example/orders_into_outcomes/ordersintooutcomes/model/TaskStatus"), (.object "com/example/orders_into_outcomes/ordersintooutcomes/model/TaskStatus"), (.object "com/example/orders_into_outcomes/ordersintooutcomes/model/TaskStatus"), (.array (.object "com/example/orders_into_outcomes/ordersintooutcomes/model/TaskStatus"))]
  resolved := Array.replicate 88 none
  statics := some 0 }

def pool7 : Array CpInfo := pool [(1, u "java/lang/Cloneable"), (0, .class_ 1), (0, u "java/lang/Object"), (0, .class_ 3)] 3

/-- java/lang/Cloneable -/
def k7 : Class := { plain "java/lang/Cloneable" (some 0) with
  accessFlags := 1537
  interfaces := #[]
  cf := some (fileOf pool7 2 #[] #[] 1537 4 #[] #[])
  fields := #[]
  methods := #[]
  instanceTypes := #[]
  staticTypes := #[]
  resolved := Array.replicate 8 none
  statics := none }

/-- the primitive byte -/
def k8 : Class := { plain "byte" none with kind := .primitive 'B', accessFlags := 0x411 }
/-- [B -/
def k9 : Class := { plain "[B" (some 0) with kind := .array 8 .byte, interfaces := #[7, 4], accessFlags := 1041 }

/-- the primitive int -/
def k10 : Class := { plain "int" none with kind := .primitive 'I', accessFlags := 0x411 }
/-- [I -/
def k11 : Class := { plain "[I" (some 0) with kind := .array 10 .int, interfaces := #[7, 4], accessFlags := 1041 }

def heap : Heap := #[{ cls := 6, slots := #[.ref 1, .ref 7, .ref 6, .ref 4, .ref 2, .ref 5, .ref 3, .null], vm := .statics 6 },
  { cls := 6, slots := #[.null, .int 0, .int 0, .null], vm := .none },
  { cls := 6, slots := #[.null, .int 4, .int 0, .null], vm := .none },
  { cls := 6, slots := #[.null, .int 6, .int 0, .null], vm := .none },
  { cls := 6, slots := #[.null, .int 3, .int 0, .null], vm := .none },
  { cls := 6, slots := #[.null, .int 5, .int 0, .null], vm := .none },
  { cls := 6, slots := #[.null, .int 2, .int 0, .null], vm := .none },
  { cls := 6, slots := #[.null, .int 1, .int 0, .null], vm := .none }]
def classes : Array Class := #[k0, k1, k2, k3, k4, k5, k6, k7, k8, k9, k10, k11]
def interned : List (Array UInt16 × Addr) := []
def slotsUsed : Nat := 36
def theMethod : MethodId := ⟨1, 1⟩
def args0 : Array Value := #[.int 5]
def aboutOver (below : List Frame) : State where
  vm := { classes := classes, interned := interned.toArray }
  heap := heap
  slotsUsed := slotsUsed
  threads := #[{ frames := .invoking theMethod args0 :: below }]
def below0 : List Frame := [.native { method := ⟨0, 0⟩, args := #[] }]
def about1 : State := aboutOver below0
def p0 : Program := .bare "" "" ""
def e0 : Env := launch0.env 0 0 0
theorem w_frames : about1.frames = Frame.invoking theMethod args0 :: below0 := rfl
set_option maxRecDepth 65536 in
theorem w_args : argsFit about1.vm theMethod args0 = true := by decide +kernel
set_option maxRecDepth 65536 in
theorem w_heap : heapFits about1 = true := by decide +kernel
set_option maxRecDepth 65536 in
theorem w_runnable : about1.curStatus? = some .runnable := by decide +kernel
set_option maxRecDepth 65536 in
theorem w_alone : about1.alone = true := by decide +kernel
set_option maxRecDepth 65536 in
theorem w_named : about1.methodNamed? x = some theMethod := by decide +kernel
set_option maxRecDepth 65536 in
theorem w_hears : about1.hears theMethod below0 = true := by decide +kernel
set_option maxRecDepth 65536 in
theorem w_ripe : about1.ripe theMethod args0 below0 = true := by decide +kernel
theorem w_running : about1.status = .running := rfl
set_option maxRecDepth 65536 in
theorem w_room : about1.hasRoom e0.platform room_1 = true :=
  launch0.hasRoom_least _ room_1 (by decide +kernel) (by decide +kernel) (by decide +kernel) (by decide +kernel) (by decide +kernel) (by decide +kernel)
theorem allAtoms_all (ts : List Jvm.Cond) (a : Array Jvm.Value) (st : Jvm.State) : (allAtoms ts).before a st = ts.all (fun c => c.before a st) := by
  induction ts with
  | nil => rfl
  | cons c t ih =>
    show (Jvm.Cond.and c (allAtoms t)).before a st = _
    rw [Jvm.Cond.before_and, ih, List.all_cons]
def words1 : List Jvm.Cond := Jvm.Cond.code x code maxLocals ret :: tables_1
/-- a 'code' word, met by the world's own term for the bytes: nothing is compared byte by byte -/
theorem code_word {y : MethodName} {bytes : ByteArray} {mx : Nat} {rt : Option FieldType} {a : Array Value} {s : State} {m : MethodId} {meth : Method} {c : Code} (h1 : s.methodNamed? y = some m) (h2 : s.vm.method? m = some meth) (h3 : meth.code = some c) (h4 : c.code = bytes)
    (h5 : (c.maxLocals == mx && c.exceptionTable.isEmpty && decide (c.maxStack ≤ mostOperands) && decide (meth.sig.returnType = rt) && !meth.locks && decide (parseMethodDescriptor y.desc = some meth.sig)) = true) : (Jvm.Cond.code y bytes mx rt).before a s = true := by
  simp only [Bool.and_eq_true, beq_iff_eq, Bool.not_eq_true', decide_eq_true_eq] at h5
  obtain ⟨⟨⟨⟨⟨g1, g2⟩, g3⟩, g4⟩, g5⟩, g6⟩ := h5
  simp [Cond.before, Cond.holds, Cond.value, h1, h2, h3, h4, g1, g2, g3, g4, g5, g6]
def isCode : Jvm.Cond → Bool
  | .code _ _ _ _ => true
  | _ => false
theorem all_split {L : List Jvm.Cond} {P : Jvm.Cond → Bool} (h1 : L.all (fun c => isCode c || P c) = true) (h2 : ∀ c ∈ L.filter isCode, P c = true) : L.all P = true := by
  refine List.all_eq_true.mpr fun c hc => ?_
  have h := List.all_eq_true.mp h1 c hc
  rcases Bool.eq_false_or_eq_true (isCode c) with hi | hi
  · exact h2 c (List.mem_filter.mpr ⟨hc, hi⟩)
  · simpa [hi] using h
set_option maxRecDepth 65536 in
theorem w_c0 : (Jvm.Cond.code x code maxLocals ret).before args0 about1 = true := code_word (m := ⟨1, 1⟩) (meth := k1m1) (c := k1c1) (by decide +kernel) rfl rfl rfl (by decide +kernel)
set_option maxRecDepth 65536 in
theorem w_c1 : (Jvm.Cond.code ({ cls := "com/example/orders_into_outcomes/ordersintooutcomes/model/TaskStatus", name := "releasesDependents", desc := "()Z" } : Jvm.MethodName) prog_48_method_5_code (1 : Nat) (Option.some Jvm.ClassFile.FieldType.boolean)).before args0 about1 = true := code_word (m := ⟨6, 0⟩) (meth := k6m0) (c := k6c0) (by decide +kernel) rfl rfl rfl (by decide +kernel)
def codes1 : List Jvm.Cond := [Jvm.Cond.code x code maxLocals ret, Jvm.Cond.code ({ cls := "com/example/orders_into_outcomes/ordersintooutcomes/model/TaskStatus", name := "releasesDependents", desc := "()Z" } : Jvm.MethodName) prog_48_method_5_code (1 : Nat) (Option.some Jvm.ClassFile.FieldType.boolean)]
set_option maxRecDepth 65536 in
theorem codes_eq : words1.filter isCode = codes1 := rfl
theorem w_codes : ∀ c ∈ words1.filter isCode, c.before args0 about1 = true := by
  rw [codes_eq]
  intro c hc
  simp only [codes1, List.mem_cons, List.not_mem_nil, or_false] at hc
  rcases hc with rfl | rfl
  · exact w_c0
  · exact w_c1
set_option maxRecDepth 65536 in
theorem w_t1 : words1.all (fun c => isCode c || c.before args0 about1) = true := by decide +kernel
theorem w_tables : (allAtoms (Jvm.Cond.code x code maxLocals ret :: tables_1)).before args0 about1 = true := by
  rw [allAtoms_all]
  show words1.all (fun c => c.before args0 about1) = true
  refine all_split ?_ w_codes
  rw [w_t1]
set_option maxRecDepth 65536 in
theorem w_case : (Jvm.Cond.and given_1 narrow_1).before args0 about1 = true := by decide +kernel
theorem w_applies : (headSpec (Jvm.Cond.code x code maxLocals ret :: tables_1) room_1).applies x e0.platform about1 = true :=
  (Spec.applies_iff w_frames).mpr ⟨w_running, w_runnable, w_alone, w_named, w_hears, w_ripe, w_room, w_tables⟩
theorem atStart : AtStart classFile x code maxLocals ret World_1 tables_1 room_1 Calls_1 rest_1 Pre_1 launch0 p0 e0 about1 theMethod args0 below0 :=
  ⟨lists_1, trivial, launch0.admits_env _ _ _, launch0.least_env, fairChoices_fair.cas, fairChoices_fair.clock, w_frames, w_args, w_heap, w_applies, trivial, trivial, w_case⟩
end start1
theorem witness_1 : WitnessClaimed_1 := ⟨start1.p0, start1.e0, start1.about1, start1.theMethod, start1.args0, start1.below0, start1.atStart⟩
end Jvm.Pilot.@@N@@
